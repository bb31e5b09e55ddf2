import PyProof.Rows.All
import Wide.All
import OpenK.AllK
import Wide.FinOn
import KE.KRevIter
import KE.KSetDisp
import KE.KItem
import KE.KNest
import KE.BitLaws
import OpenK.XOpen
import OpenK.ZHead
import Lean
import PySem.Challenge.RW_ta0134_01
set_option Elab.async false
set_option maxRecDepth 100000
set_option tactic.hygienic false
set_option linter.all false
set_option genSizeOf false
set_option genInjectivity false
set_option genCtorIdx false
set_option bootstrap.genMatcherCode false
open PySem renaming Addr->ao,Around->m8,AutoSeq1.wpAny_loadPart'->aoA,BindsTo->zH,BoolOp->v3,Builtin.Int.intBits->ja,Builtin.List.listTooLong->an7,Builtin.Range.rangeSize->aof,Builtin.Range.small->zz,Builtin.Re.reRawNat->aoN,Builtin.Re.reRunToEnd->aoO,Builtin.SmallTypes.iterAll->aoy,Builtin.SmallTypes.newRecord->aoz,Builtin.SmallTypes.nextOf->tA,Builtin.Str.occurrences->Ld,Builtin.bitAnd->D6,Builtin.divisionGoesByPylong->ts,Calls.Name_function_global->anY,Calls.loadGlobal_builtin->an0,Calls.loadGlobal_global->anZ,Challenge.pw_ta0134_01->KR,Challenge.rw_ta0134_01->anV,CmpOp->eR,Code.quiet_builtin->LC,Comprehension->m_,Const->vY,DictEntry->e7,Drawn->ze,Env->cn,ExceptHandler->Es,Expr->aJ,Expr.Attribute.elim->zy,Expr.Call.elim->YW,Expr.Constant.elim->aob,Expr.Name->LO,Expr.Name.elim->YU,Expr.Slice.elim->Ed,Expr.Subscript.elim->Zi,Expr.Tuple.elim->YV,F.entry_dict_get->aoF,F.entry_type_call->aoB,F.mro_object->aoH,F.plainAttrs_list->Zx,F.plainAttrs_str->Ew,F.slot_dict_get->Zr,F.slot_list_index->aoQ,F.slot_list_reverse->aoD,F.slot_str_format_m->aoP,F.slot_tuple_getitem->aoc,F.slot_tuple_iterator_next->aoj,Float64.add->KJ,Float64.cmp->oh,Float64.cmpInt->tu,Float64.decode->y8,Float64.div->Yw,Float64.divmod->Yt,Float64.fmod->Ys,Float64.halfEven->KD,Float64.isInf->KL,Float64.isZero->DO,Float64.mul->Yv,Float64.neg->zb,Float64.ofBin->za,Float64.ofFrac->vO,Float64.ofInt->vP,Float64.pack->y9,Float64.roundMag->y7,Float64.sgn->gx,Float64.shift->pE,Float64.sub->Yu,Float64.zero->KH,Flow->m6,Flow.next->ri,FuncData->Ep,GenState->zd,Heap->aX,Heap.ExtBut->pM,Heap.FlyingW->K8,Heap.Ns.of_isNs->vT,Heap.SameBut->hU,Heap.SameBut.update->tB,Heap.get?->D4,Heap.get?_push_at->LH,Heap.get?_push_of_some->dy,Heap.get?_push_size->d0,Heap.get?_update_self->Ek,Heap.lt_size->dI,Heap.size_push->et,IsZip->zu,Keyword->v7,NameKind->l0,NameKind.cell->En,NameKind.free->tC,NoneBooked->tv,Obj->fe,Obj.mapSeq->zC,OldK.staticOf_congr->aoe,Operator->iM,OsState->eS,Params->dj,Pos->cP,Program->K7,Result->Em,Scope->bW,Sem->bj,Sem.pure->DV,Sem.wrap_wrap->KS,Shared->aU,Sre.Seen->nf,Stmt->bx,Stmt.Assign.elim->aox,Str->ai,Str.mk->Ey,Str.ofString->ep,Thread->DU,Txt.join->aoC,Txt.lower->LB,Txt.replace->aoE,Value->aq,Value.int->KV,Value.isInt->pO,Value.none->jO,Value.ref->hP,Value.ref.inj->YN,Value.str->LF,Value.type->D_,W.BT.get_set->tl,W.BT.set_node->tf,W.CodeHd->zP,W.Fast.te14364793385576792824->anT,W.Fast.te17119622794617984870->YI,W.Fast.te8326940854005059898->anW,W.SharedT->oi,W.abs_get->m7,W.builtinNamed->YH,W.defOf->tq,W.look_both->ec,W.namesMeet->K6,W.piece_app->tn,W.segGoT->m4,W.segRunT->tk,W.segRun_of->tp,W.stepT->tj,W.tabObj->wh,W.topFrame->vS,World->di,argBest->DP,argsOk->we,arm_eval_Call_Name'->aos,arm_eval_Constant->Yx,arm_exec_Assign->Lr,arm_execs_cons->LK,assign->l1,assignEach->ov,assignInOrder->Ll,binaryOp->kr,bindArgs->rh,bindName->pK,builtinsNs->zl,cLine->rk,cStatics->DW,call->K5,callWith->rp,call_meets->D7,cellsFrom->gA,checkBuiltinCall->Zp,checkTypeCall->Zo,closureFor->zE,codeAmong->ZE,codeAny->wa,codeAny_of_tree->El,compareChain->YR,compareOp->kv,dictDisplay->YA,eval->bG,evalArgs->wc,evalEach->iQ,evalEachOpt->K0,evalOpt->Lh,evalPairs->Yy,exec->fF,execs->fG,firstIter->Lx,functionCode->ZF,getItem->Lf,getMethod->Lu,handleBy->Et,hashInt->te,holding->d_,importedModules->K4,intKind->tm,isSubtype->Lz,isSubtype_type->wd,isTrue->iq,letOwnedTupleGo->Li,mainGlobals->k2,methodCall->Lw,methodCallForm->Zg,methodCallPos->Zh,mkText->zM,model->a5,newFunctionEnv->Lp,newTuple->Eb,noteFrame->Zn,operate->zx,pushCells->Lo,pushCells_keeps->wb,pyHashByItsType.reduced->anB,pyIter->tx,pyNext->m9,rawHash->KO,rawInt->gz,richCompare->La,seqIndex?->v9,setFlight->LA,setItem->zI,sizeLine->ku,sizeLine_eq->vZ,size_pos_of_not_empty->aol,sliceBounds->rn,sliceRange->YY,spliced->v5,standAt->dZ,storeName->Lk,subDict->KP,swappedStores->zK,swapsWith->Ze,swapsWithSole->tD,sysModules->th,treeTable->jM,truthOfDropped->YO,truthy->tw,typeIs_str->Lg,typeLookup->rg,typeLookup_type->k3,unbindBehindTheSuite->aow,unpackItems->zD,unsupported->DS,updateSeq->Y4,valueAt->LD,wpAny->aO,wpAny_alloc->Zd,wpAny_bind->aB,wpAny_call->Ls,wpAny_callSpecial?_slot->Y3,wpAny_call_entry->zA,wpAny_field->ou,wpAny_fieldsOf->LJ,wpAny_holding->dT,wpAny_isSubtype_exc->aoG,wpAny_ite_split->D8,wpAny_listItems->Zt,wpAny_listPart->Zs,wpAny_loadPart_at->LG,wpAny_mkStrs->ZD,wpAny_mkText->D5,wpAny_mono->hS,wpAny_newObjAsIs_type->ao1,wpAny_newObj_type->kx,wpAny_onRaise->Y7,wpAny_point->Lv,wpAny_pure->bl,wpAny_pyIter_list->Eg,wpAny_pyIter_listiter->aoh,wpAny_pyIter_revIter->aog,wpAny_pyIter_tuple->Y0,wpAny_pyNext_list_end->Y2,wpAny_pyNext_list_item->Y1,wpAny_pyNext_tuple_item->aoi,wpAny_release->zw,wpAny_rule->tr,wpAny_seqItems->Eh,wpAny_setField_rec->Lj,wpAny_sharingNotTold_none->an8,wpAny_specialOf->YT,wpAny_standAt->kq,wpAny_truthy_bool->YP,wpAny_typeOf->Zm,wpAny_updateSeq->Y5
open List renaming Pairwise.nil->aoq,all_append->zJ,all_cons->anP,all_eq_true->b9,all_map->YQ,any_append->ZM,any_cons->D9,any_eq_false->apj,any_eq_true->Lc,any_toArray->Le,append_assoc->eb,append_cons->Eu,append_nil->ea,append_toArray->an6,cons.inj->kp,contains_cons->Zj,contains_iff_mem->oq,contains_nil->Zk,drop_drop->YG,drop_eq_getElem_cons->KQ,drop_eq_nil_of_le->Zv,drop_of_length_le->anH,drop_zero->aon,eq_nil_of_length_eq_zero->zv,filterMap_cons->Ee,filter_cons->vU,filter_eq_nil_iff->anA,find?_cons->anJ,findIdx?_cons->aoo,flatten_cons->zo,foldr_cons->anS,forIn_cons->k1,forall_mem_cons->Zf,getElem?_append_left->vX,getElem?_append_right->pN,getElem?_concat_length->Ea,getElem?_eq_getElem->tE,getElem?_eq_none_iff->Ef,getElem?_eq_some_iff->jN,getElem?_inj->Ei,getElem?_map->Ex,getElem?_set_ne->Ej,getElem?_set_self->Y6,getElem?_toArray->rb,isEmpty_iff->k4,length->O,length_append->e2,length_cons->gy,length_drop->aoY,length_eq_zero_iff->D2,length_filter_le->EB,length_map->gh,length_nil->zg,length_reverse->aov,length_set->zB,length_take->Er,length_take_le->ZC,lookup->Y9,lookup_append->Eo,lookup_cons->gY,map->ZG,map_append->vR,map_congr_left->YJ,map_cons->lZ,map_drop->ZL,map_map->v8,map_reverse->LN,map_take->ZK,mem_append->bB,mem_append_cons_self->anD,mem_append_left->bL,mem_append_right->aW,mem_cons->dM,mem_cons_of_mem->c7,mem_cons_self->cV,mem_filter->Ez,mem_filterMap->pL,mem_map->iP,mem_of_getElem?->eK,mem_of_getLast?->aom,mem_of_mem_drop->nd,mem_of_mem_take->nc,mem_range->a4,mem_singleton->ek,mem_toArray->DX,nodup_append->rl,nodup_cons->YC,not_mem_nil->dS,range->aw,range'->km,range'_succ->Yz,range_eq_range'->anE,range_succ_eq_map->an9,replicate->hQ,replicate_succ->YM,reverse_cons->D3,set_append_left->Za,set_append_right->Lm,set_set->Y8,size_toArray->hT,sum_cons->ZN,take_append_drop->ti,take_append_length->wi,take_append_of_le_length->ao8,take_left->aoZ,take_length->ow,take_nil->anU,take_of_length_le->Y_,take_take->ao9,zipWith->pJ,zip_map_right->ao_
open Nat renaming ToInt.of_diseq->ao6,add->gv,add_add_add_comm->anR,add_assoc->m2,add_comm->iO,add_le_add->vN,add_le_add_left->og,add_le_add_right->pF,add_left_cancel->aot,add_left_comm->api,add_lt_add_left->LM,add_lt_add_right->anM,add_lt_of_lt_sub'->anF,add_mul->pP,add_mul_div_left->YE,add_mul_mod_self_left->anO,add_pos_left->apc,add_right_comm->zi,add_sub_cancel'->aoV,add_sub_cancel_left->Zw,add_zero->rd,beq->aL,beq_refl->ra,ble->aZ,ble_eq->DL,ble_eq_true_of_le->dD,blt->bE,blt_eq->cg,div->vH,div_add_mod->apd,div_div_eq_div_mul->ot,div_eq_of_lt->oo,div_le_self->aoW,div_lt_iff_lt_mul->td,div_lt_of_lt_mul->LI,div_one->zN,div_pos->DJ,eq_of_beq_eq_true->dE,eq_of_mul_eq_mul_left->ao7,land->zq,le_add_left->i_,le_add_right->gK,le_add_right_of_le->zO,le_antisymm->D0,le_of_add_le_add_right->ao3,le_of_add_right_le->ape,le_of_ble_eq_true->b8,le_of_eq->fV,le_of_lt->ik,le_of_lt_succ->vV,le_of_not_lt->zF,le_of_pred_lt->ao4,le_of_sub_eq_zero->aoJ,le_of_succ_le->jP,le_refl->bH,le_succ->hg,le_succ_of_le->ip,le_trans->bA,log2->k0,log2_lt->K9,lt_add_one->anG,lt_div_mul_add->ao5,lt_irrefl->hu,lt_log2_self->anr,lt_of_add_right_lt->DR,lt_of_le_of_lt->gg,lt_of_lt_of_eq->an_,lt_of_lt_of_le->eo,lt_of_not_le->Yl,lt_of_sub_eq_succ->Zy,lt_of_succ_le->an1,lt_of_succ_lt_succ->Zq,lt_one_iff->KN,lt_or_ge->DZ,lt_succ_iff_lt_or_eq->anz,lt_succ_of_le->D1,lt_succ_of_lt->kn,lt_succ_self->ko,lt_trans->ZI,min_eq_left->zG,min_eq_right->anq,mod->lX,mod_eq_of_lt->zt,mod_lt->dN,mod_mul_right_div_self->anw,mod_mul_right_mod->anx,mul->gf,mul_add_div->YF,mul_add_mod->anQ,mul_assoc->ao0,mul_comm->y6,mul_le_mul_left->vK,mul_le_mul_right->vL,mul_one->vM,mul_pos->Yo,ne_of_gt->hM,ne_of_lt->il,not_le_of_lt->anK,not_lt->er,not_lt_zero->zr,not_succ_le_self->Lq,not_succ_le_zero->apk,one_mul->y_,one_pos->LL,pow->e1,pow_add->kk,pow_le_pow_right->q_,pow_succ'->YD,pow_zero->DN,strongRecOn->aoa,sub->gX,sub_add_cancel->ans,sub_eq_iff_eq_add->apl,sub_le_sub_right->aoK,sub_pos_of_lt->anN,sub_self->KI,succ->i9,succ.inj->zp,succ_add->Lb,succ_add_eq_add_succ->zh,succ_inj->zj,succ_le_of_lt->ao2,succ_le_succ->EA,succ_mul->LP,succ_pos->fp,testBit->vW,testBit_div_two_pow->aoU,toNat_testBit->apo,two_pow_pos->kZ,zero_add->hO,zero_le->Zl,zero_mul->wg
open Int renaming add_assoc->anL,add_comm->KG,ediv_emod_unique->aph,eq_ofNat_of_zero_le->YZ,fdiv_eq_ediv_of_nonneg->zc,fmod_eq_emod_of_nonneg->zQ,le_of_lt->vQ,le_refl->DQ,le_trans->zk,lt_of_le_of_lt->anC,lt_of_lt_of_le->Yr,mul_add->KW,mul_comm->DY,natAbs_mul->apn,natAbs_neg->ZJ,natCast_add->KZ,natCast_nonneg->m3,negSucc_lt_zero->Yp,neg_fdiv_neg->apf,neg_fmod_neg->apg,neg_sub->DM,not_le->Yn,not_lt->K_,ofNat.inj->aoX,ofNat_inj->anv,ofNat_le->vI,ofNat_lt->q9,ofNat_ne_zero->apb,ofNat_sub->ant,sub_le_sub_right->anu,sub_neg_of_lt->anp,sub_nonneg_of_le->Ym,toNat->Zu,toNat_natCast->aok,toNat_sub->vJ,zero_add->KY,zero_mul->KX
open Option renaming any_eq_true->anI,bind->Zc,bind_eq_some_iff->rm,bind_some->gM,isNone_iff_eq_none->zm,isSome_iff_exists->KU,isSome_none->aoL,map_eq_none_iff->v_,map_eq_some_iff->hR,map_some->apm,none->aa,some->B,some.inj->ak
open Bool renaming and_eq_true->jK,and_eq_true_iff->bF,eq_false_iff->YL,eq_iff_iff->DK,false->aj,false_and->aoI,false_eq_true->aoM,false_ne_true->hN,noConfusion->y5,or_eq_false_iff->aoR,or_eq_true->lY,or_false->Ly,or_true->Zz,rec->zL,true->S,true_and->aor
open Classical renaming byContradiction->aou,choose->LQ,choose_spec->wj,em->Ln,propDecidable->ZA
open Array renaming getElem?_eq_getElem->aoS,getElem?_mapIdx->YK,getElem_mem->aoT,toList_inj->ZH
open _root_ renaming Array->fE,Bool->aF,DecidableEq->YB,Eq.symm->om,Eq.trans->Y,ForInStep->pH,ForInStep.yield->m5,Int->ah,List->H,Nat->J,Ne.symm->rf,Option->U,Ordering->pG,PUnit->zf,PUnit.unit->kl,Prod.fst->Zb,Prod.mk.inj->bf,Prod.mk.injEq->apa,Pure.pure->tg,PyProof.Rows.subscriptTail->Ec,String->b1,UInt64->jL,UInt64.ofNat->gw,Unit->gL,absurd->aR,beq_eq_false_iff_ne->DT,beq_false_of_ne->ro,beq_iff_eq->cI,beq_self_eq_true->oj,bind_pure->YS,congrArg->aM,congrFun->pI,decide_eq_false->l2,decide_eq_true->gJ,decide_eq_true_eq->KC,dif_neg->jb,if_false->YX,if_neg->a6,if_pos->bC,le_of_eq_of_le->aod,ne_of_beq_false->aop,not_or->rj,of_decide_eq_true->iN,or_false->jQ
open PySem PySem.W PyProof.Rows PySem.SeqAt
namespace Mine.Internal
local macro_rules | `(tactic| lk) => `(tactic| kernel_rfl)
noncomputable section
theorem bw{p:Prop}(h:aj=S):p:=aR h y5
theorem nn{A:Type}{a:A}{p:Prop}(h:aa=B a):p:=nomatch h
theorem cq{p q G:Prop}(h:p/\q)(k:p->q->G):G:=k h.1 h.2
theorem ff{p q r G:Prop}(h:p/\q/\r)(k:p->q->r->G):G:=k h.1 h.2.1 h.2.2
theorem pS{p q r s G:Prop}(h:p/\q/\r/\s)(k:p->q->r->s->G):G:=k h.1 h.2.1 h.2.2.1 h.2.2.2
theorem GP{p q r s t G:Prop}(h:p/\q/\r/\s/\t)(k:p->q->r->s->t->G):G:=k h.1 h.2.1 h.2.2.1 h.2.2.2.1 h.2.2.2.2
theorem a7{A:Sort _}{p:A->Prop}{G:Prop}(h:∃x,p x)(k:∀x,p x->G):G:=let ⟨x,h⟩:=h;k x h
theorem av{A:Sort _}{p q:A->Prop}{G:Prop}(h:∃x,p x/\q x)(k:∀x,p x->q x->G):G:=a7 h λ x h=>k x h.1 h.2
theorem gF{A:Sort _}{p q r:A->Prop}{G:Prop}(h:∃x,p x/\q x/\r x)(k:∀x,p x->q x->r x->G):G:=a7 h λ x h=>k x h.1 h.2.1 h.2.2
theorem As{A:Sort _}{p q r s:A->Prop}{G:Prop}(h:∃x,p x/\q x/\r x/\s x)(k:∀x,p x->q x->r x->s x->G):G:=a7 h λ x h=>k x h.1 h.2.1 h.2.2.1 h.2.2.2
theorem t7{A:Sort _}{p q r s t:A->Prop}{G:Prop}(h:∃x,p x/\q x/\r x/\s x/\t x)(k:∀x,p x->q x->r x->s x->t x->G):G:=a7 h λ x h=>k x h.1 h.2.1 h.2.2.1 h.2.2.2.1 h.2.2.2.2
theorem f5{A Bq:Sort _}{p:A->Bq->Prop}{G:Prop}(h:∃x y,p x y)(k:∀x y,p x y->G):G:=let ⟨x,y,h⟩:=h;k x y h
theorem eM{A Bq:Sort _}{p q:A->Bq->Prop}{G:Prop}(h:∃x y,p x y/\q x y)(k:∀x y,p x y->q x y->G):G:=f5 h λ x y h=>k x y h.1 h.2
theorem e4{A Bq:Sort _}{p q r:A->Bq->Prop}{G:Prop}(h:∃x y,p x y/\q x y/\r x y)(k:∀x y,p x y->q x y->r x y->G):G:=f5 h λ x y h=>k x y h.1 h.2.1 h.2.2
theorem eg{A Bq:Sort _}{p q r s:A->Bq->Prop}{G:Prop}(h:∃x y,p x y/\q x y/\r x y/\s x y)(k:∀x y,p x y->q x y->r x y->s x y->G):G:=f5 h λ x y h=>k x y h.1 h.2.1 h.2.2.1 h.2.2.2
theorem lg{A Bq:Sort _}{p q r s t:A->Bq->Prop}{G:Prop}(h:∃x y,p x y/\q x y/\r x y/\s x y/\t x y)(k:∀x y,p x y->q x y->r x y->s x y->t x y->G):G:=f5 h λ x y h=>k x y h.1 h.2.1 h.2.2.1 h.2.2.2.1 h.2.2.2.2
theorem mf{A Bq C:Sort _}{p:A->Bq->C->Prop}{G:Prop}(h:∃x y z,p x y z)(k:∀x y z,p x y z->G):G:=let ⟨x,y,z,h⟩:=h;k x y z h
theorem oL{A Bq C:Sort _}{p q:A->Bq->C->Prop}{G:Prop}(h:∃x y z,p x y z/\q x y z)(k:∀x y z,p x y z->q x y z->G):G:=mf h λ x y z h=>k x y z h.1 h.2
theorem t8{A Bq C:Sort _}{p q r:A->Bq->C->Prop}{G:Prop}(h:∃x y z,p x y z/\q x y z/\r x y z)(k:∀x y z,p x y z->q x y z->r x y z->G):G:=mf h λ x y z h=>k x y z h.1 h.2.1 h.2.2
theorem O_{A Bq C:Sort _}{p q r s:A->Bq->C->Prop}{G:Prop}(h:∃x y z,p x y z/\q x y z/\r x y z/\s x y z)(k:∀x y z,p x y z->q x y z->r x y z->s x y z->G):G:=mf h λ x y z h=>k x y z h.1 h.2.1 h.2.2.1 h.2.2.2
theorem rS{A Bq C:Sort _}{p q r s t:A->Bq->C->Prop}{G:Prop}(h:∃x y z,p x y z/\q x y z/\r x y z/\s x y z/\t x y z)(k:∀x y z,p x y z->q x y z->r x y z->s x y z->t x y z->G):G:=mf h λ x y z h=>k x y z h.1 h.2.1 h.2.2.1 h.2.2.2.1 h.2.2.2.2
theorem hx{A Bq C D:Sort _}{p:A->Bq->C->D->Prop}{G:Prop}(h:∃x y z w,p x y z w)(k:∀x y z w,p x y z w->G):G:=h.elim λ x h=>h.elim λ y h=>h.elim λ z h=>h.elim λ w h=>k x y z w h
theorem GQ{A Bq C D:Sort _}{p q r:A->Bq->C->D->Prop}{G:Prop}(h:∃x y z w,p x y z w/\q x y z w/\r x y z w)(k:∀x y z w,p x y z w->q x y z w->r x y z w->G):G:=hx h λ x y z w h=>k x y z w h.1 h.2.1 h.2.2
theorem GR{A Bq C D:Sort _}{p q r s:A->Bq->C->D->Prop}{G:Prop}(h:∃x y z w,p x y z w/\q x y z w/\r x y z w/\s x y z w)(k:∀x y z w,p x y z w->q x y z w->r x y z w->s x y z w->G):G:=hx h λ x y z w h=>k x y z w h.1 h.2.1 h.2.2.1 h.2.2.2
theorem NP{A Bq C D:Sort _}{p q r s t:A->Bq->C->D->Prop}{G:Prop}(h:∃x y z w,p x y z w/\q x y z w/\r x y z w/\s x y z w/\t x y z w)(k:∀x y z w,p x y z w->q x y z w->r x y z w->s x y z w->t x y z w->G):G:=hx h λ x y z w h=>k x y z w h.1 h.2.1 h.2.2.1 h.2.2.2.1 h.2.2.2.2
theorem bh{A Bq:Sort _}{p:A->Bq->Prop}(a:A)(b:Bq)(h:p a b):∃x y,p x y:=⟨a,b,h⟩theorem e_{A Bq C:Sort _}{p:A->Bq->C->Prop}(a:A)(b:Bq)(c:C)(h:p a b c):∃x y z,p x y z:=(bh a b ⟨c,h⟩)theorem hV{A Bq C D:Sort _}{p:A->Bq->C->D->Prop}(a:A)(b:Bq)(c:C)(d:D)(h:p a b c d):∃x y z w,p x y z w:=(e_ a b c ⟨d,h⟩)theorem E5{A Bq C D E:Sort _}{p:A->Bq->C->D->E->Prop}(a:A)(b:Bq)(c:C)(d:D)(e:E)(h:p a b c d e):∃x y z w u,p x y z w u:=(hV a b c d ⟨e,h⟩)theorem E6{A Bq C D E F:Sort _}{p:A->Bq->C->D->E->F->Prop}(a:A)(b:Bq)(c:C)(d:D)(e:E)(f:F)(h:p a b c d e f):∃x y z w u v,p x y z w u v:=(E5 a b c d e ⟨f,h⟩)theorem pV{A Bq C D E F G:Sort _}{p:A->Bq->C->D->E->F->G->Prop}(a:A)(b:Bq)(c:C)(d:D)(e:E)(f:F)(g:G)(h:p a b c d e f g):∃x y z w u v t,p x y z w u v t:=(E6 a b c d e f ⟨g,h⟩)
@[elab_as_elim] theorem L{A:Sort _}{a b:A}{P:A->Prop}(h:a=b)(k:P b):P a:=h▸k
@[elab_as_elim] theorem ax{A:Sort _}{a b:A}{P:A->Prop}(h:a=b)(k:P a):P b:=h▸k
class inductive AllP{A:Type}(P:A->Prop):H A->Prop
 |nil:AllP P []
 |cons {a l} :P a->AllP P l->AllP P (a::l)theorem AllP.mem{A:Type}{P:A->Prop}{l:H A}(h:AllP P l):∀a∈l,P a:=by induction h with|nil=>exact λ u q=>aR q dS|cons p _ i=>exact λ b q=>(dM.mp q).elim (λ e=>L e p) (i b)theorem dO(b:aF){G:Prop}(t:b=S->G)(f:b=aj->G):G:=match b,t,f with|true,t,_=>t rfl|false,_,f=>f rfl
theorem wB(b:aF){G:Prop}(f:b=aj->G)(t:b=S->G):G:=dO b t f
theorem eD{A:Type _}(o:U A){G:Prop}(n:o=aa->G)(s:∀a,o=B a->G):G:=match o,n,s with|none,n,_=>n rfl|some a,_,s=>s a rfl
theorem rY{A:Type _}(o:U A){G:Prop}(s:∀a,o=B a->G)(n:o=aa->G):G:=eD o n s
theorem bo(h:(a&&b)=S):a=S/\b=true:=bF.mp h
theorem eV{A:Type}{l:H A} :∃β,l=l++β:=⟨[],(ea l).symm⟩theorem w3{A:Type}{l:H A}{p:A->Prop} :∃e,l=l++e/\∀a,a∈e->p a:=⟨[],(ea l).symm,λ u h=>aR h dS⟩theorem h6{A:Type}{l r:H A}{a:A} :(l++a::r)[O l]?=B a:=L (pN (bH _)) (L (KI ..) rfl)theorem oT{A:Type}{l r:H A}{a b:A} :(l++a::r).set (O l) b=l++b::r:=L (Lm _ _ (bH _)) (L (KI ..) rfl)theorem oR{A:Type}{l:H A}{a:A}(h:l[i]?=B a):i<O l:=(jN.mp h).1
theorem iD{A:Type}{l r:H A}{i:J}{a:A}(h:l[i]?=B a):(l++r)[i]?=B a:=Y (vX (oR h)) h
theorem ux{A:Type}{l r:H A}{a b:A}(h:l[i]?=B a):(l++r).set i b=l.set i b++r:=Za _ _ (oR h)theorem mx{A:Type}{l t:H A}(e:l.drop i=t):l[i]?=t.head? /\l.drop (i+1)=t.tail:=⟨by simp[<-e,List.head?_drop],by simp[<-e,List.tail_drop]⟩
theorem GS{A:Type}{p:ai->aF}(n:ai):∀l:H (ai×A),(l.filter λ q=>p q.1).lookup n=match p n with|true=>l.lookup n|false=>aa
 |[]=>by cases p n<;>rfl
 |(m,a)::l=>by
  obtain i:=GS n l;rw[vU];dsimp only[gY];cases G:n==m with
  |true=>
   refine(cI.mp G)▸?_;cases h:p n with
   |true=>rw[bC rfl,gY,oj]|false=>rw[a6 hN,i,h]
  |false=>refine ax i ?_;induction p m with|true=>rw[bC rfl,gY,G]|false=>rw[a6 hN]theorem Pa{A:Type}{p:ai->aF}{l:H (ai×A)}{a:A}(e:(l.filter λ q=>p q.1).lookup n=B a):p n=S/\l.lookup n=B a:=by rw[GS]at e;cases h:p n with|true=>rw[h]at e;exact⟨rfl,e⟩|false=>rw[h]at e;exact nn e
structure fi(s s':aU):Prop where
 toks:s.toks<=s'.toks
 size:s.heap.objs.size<=s'.heap.objs.size
 gone:∀b,b<s.heap.objs.size->s.heap.get? b=aa->s'.heap.get? b=aa
theorem fi.refl(s:aU):fi s s:=⟨bH _,bH _,λ u u e=>e⟩theorem fi.trans(a:fi s t)(b:fi t u):fi s u:=⟨bA a.toks b.toks,bA a.size b.size,λ c l e=>b.gone c (eo l a.size) (a.gone c l e)⟩theorem fi.fresh(s:aU):fi s {s with toks:=s.toks+1} :=⟨hg _,bH _,λ u u e=>e⟩theorem fi.alloc(s:aU)(o:fe):fi s {s with heap:=s.heap.push o} :=⟨bH _,by show _<=(s.heap.push o).objs.size;rw[et];exact hg _,λ b l e=>Y (Heap.get?_push_ne s.heap b o (il l)) e⟩
theorem fi.update(s:aU)(a:ao)(f:fe->fe)(h:(s.heap.get? a).isSome):fi s {s with heap:=s.heap.update a f} :=⟨bH _,by show _<=(s.heap.update a f).objs.size;rw[Heap.size_update];exact bH _,λ b l e=>by
 exact Y (Heap.get?_update_other s.heap f (by rintro rfl;rw[e]at h;exact bw h)) e⟩
set_option tactic.hygienic true in
theorem GU(h:Runs M z p t f s e s'):fi s s':=by induction h with|done|raise|yield=>exact .refl _|fresh _ g=>exact(fi.fresh _).trans g|alloc _ g=>exact(fi.alloc _ _).trans g|update c _ g=>exact(fi.update _ _ _ c).trans g|call _ _ I i=>exact I.trans i|resumeFresh _ _ _ _ I i=>exact fi.trans ⟨I.toks,I.size,I.gone⟩ ⟨i.toks,i.size,i.gone⟩|resumeSuspended _ _ _ _ I i=>exact fi.trans ⟨I.toks,I.size,I.gone⟩ ⟨i.toks,i.size,i.gone⟩|segRet _ _ I i=>exact I.trans i|segGen _ _ I i=>exact fi.trans I ⟨i.toks,i.size,i.gone⟩|segSuspGen _ _ _ _ I i=>exact fi.trans I ⟨i.toks,i.size,i.gone⟩|_=>rename_i g;exact⟨g.toks,g.size,g.gone⟩
theorem adE(h:Wakes M z p g r s R s'):fi s s':=by
 delta Wakes at h;revert h;rcases s.gens[g]? with _|st
 ·exact False.elim
 ·cases st with
  |fresh c=>
   cases r with
   |send v=>
    cases v with
    |none=>exact λ h=>eg h λ u u W u u w=>w▸have:=GU W;⟨this.toks,this.size,this.gone⟩|_=>exact λ h=>ax h.2 (.refl _)
   |throw x=>exact λ h=>L h.2 ⟨bH _,bH _,λ u u e=>e⟩
  |suspended=>exact λ h=>eg h λ u u W u u w=>w▸have:=GU W;⟨this.toks,this.size,this.gone⟩|_=>exact λ h=>ax h.2 (.refl _)
theorem adF{X:Type}{Q:X->cP->aU->Prop}(M:Model)(b:Ctx)(t:bj X)(C:aU)(p:cP)(s:aU)(V:fi C s)(h:Sem.wp M b t Q E p s):
  Sem.wp M b t (λ a p s'=>Q a p s'/\fi C s') (λ e p s'=>E e p s'/\fi C s') p s:=by
 revert h;induction t generalizing p s with|pure x=>exact λ h=>⟨h,V⟩|raise v=>exact λ h=>⟨h,V⟩|unsupported|finish|yield|fork|await|register=>exact id|fresh k i=>exact i _ _ _ (V.trans (.fresh _))|alloc _ k i=>exact i _ _ _ (V.trans (.alloc _ _))|rule _ k i| «at» _ k i|loadIfAlive _ k i|point _ k i|ask k i|os _ _ k i|handled _ k i|newGen _ k i|stack k i|thread k i=>exact i _ _ _ ⟨V.toks,V.size,V.gone⟩|load a _ k i|genState a k i=>exact λ z=>av z λ o j h=>⟨o,j,i _ _ _ V h⟩|update a _ f k i=>exact λ z=>cq z λ d h=>⟨d,i _ _ _ (V.trans (.update _ _ _ d)) h⟩|choose _ _ k i=>exact λ z=>cq z λ d h=>⟨d,i _ _ _ ⟨V.toks,V.size,V.gone⟩ h⟩|call c h g l k i=>exact λ z=>eM z λ r s' W h=>(bh r s' ⟨W,i r p s' (V.trans (GU W)) h⟩)|resume g r l k i=>exact λ z=>eM z λ P s' w h=>(bh P s' ⟨w,i _ _ _ (V.trans (adE w)) h⟩)
theorem GV{X:Type}{t:bj X}{Q:X->aU->Prop}(h:aO M A t Q E s):
  aO M A t (λ a s'=>Q a s'/\fi s s') (λ e s'=>E e s'/\fi s s') s:=
 λ z p q=>adF M z t s p s (.refl _) (h z p q)
theorem g4{X:Type}{t:bj X}{Q:X->aU->Prop}{E:aq->aU->Prop}(h:aO M A t (λ a s'=>fi s s'->Q a s') (λ e s'=>fi s s'->E e s') s):aO M A t Q E s:=
 hS (GV h) (λ u u y=>y.1 y.2) λ u u y=>y.1 y.2
theorem ada{X:Type}(M:Model)(z:Ctx)(t:bj X)(p:cP)(s:aU)(h:Sem.wp M z t (λ u u u=>False) (λ u u u=>False) p s):False:=by induction t generalizing p s with|pure x=>exact h|raise v=>exact h|unsupported|finish|yield|fork|await|register=>exact h|fresh k i|alloc _ k i=>exact i _ _ _ h|rule _ k i| «at» _ k i|loadIfAlive _ k i|point _ k i|ask k i|os _ _ k i|handled _ k i|newGen _ k i|stack k i|thread k i=>exact i _ _ _ h|load a _ k i|genState a k i=>exact av h λ o j=>i _ _ _|update a _ f k i|choose _ _ k i=>exact i _ _ _ h.2|call c h' g l k i=>exact eM h λ r s' Q=>i r p s'|resume g r l k i=>exact eM h λ E s' b=>i _ _ _
abbrev cb(X Yq:H ao):Prop:=∀b∈X,b∈Yq
abbrev fX(h h':aX)(X Yq:H ao):Prop:=∀b o,h.get? b=B o->b∉X->h'.get? b=B o/\b∉Yq
inductive D where
 |none|bool (b:aF)|int (i:ah)|aS (u:jL)|str (s:ai)
 |ty (n:b1)|bi (n:b1)|obj (a:ao)
 |ae (xs:H D)|aD (xs:H D)|exc (c:b1)(xs:H D)noncomputable def D.ctorIdx(e:D):Nat:=D.casesOn (motive_1:=λ u=>J) e 0 (λ u=>1) (λ u=>2) (λ u=>3) (λ u=>4) (λ u=>5) (λ u=>6) (λ u=>7) (λ u=>8) (λ u=>9) (λ u u=>10)
inductive V where
 |d (x:D)|aH (i:J)noncomputable def V.ctorIdx(e:V):Nat:=V.casesOn (motive:=λ u=>J) e (λ u=>0) (λ u=>1)
inductive fu where
 |list (xs:H D)(i:J)|e3 (j i:J)|aD (xs:H D)(i:J)|str (s:ai)(i:J)|jk (a:ah)(n:J)|rev (xs:H D)(k:J)
 |enu (j k:J)|zip (js:H J)(t:J)noncomputable def fu.ctorIdx(e:fu):Nat:=fu.casesOn (motive:=λ u=>J) e (λ u u=>0) (λ u u=>1) (λ u u=>2) (λ u u=>3) (λ u u=>4) (λ u u=>5) (λ u u=>6) (λ u u=>7)
inductive cj where
 |ae (xs:H D)|fY (es:H (ai×V))|fld (es:H (ai×V))|inst (c:ao)(j:J)|it (k:fu)|hX (a b:ah)|gD (n:J)|jl|cX
 |tab (p line col:J)(q:ai)noncomputable def cj.ctorIdx(e:cj):Nat:=cj.casesOn (motive:=λ u=>J) e (λ u=>0) (λ u=>1) (λ u=>2) (λ u u=>3) (λ u=>4) (λ u u=>5) (λ u=>6) 7 8 (λ u u u u=>9)abbrev aE:=H cj
def IsL(h:aX)(a:ao)(vs:H aq):Prop:=∃n,h.get? a=B {cls:=.type "list",data:=.seq vs.toArray n}def IsT(h:aX)(a:ao)(vs:H aq):Prop:=∃n,h.get? a=B {cls:=.type "tuple",data:=.seq vs.toArray n}theorem IsL.isList(x:IsL h a vs):h.IsList a vs.toArray:=a7 x λ n e=>⟨_,e,rfl,n,rfl⟩theorem IsT.isTup(x:IsT h a vs):IsTup h a vs.toArray:=a7 x λ n e=>⟨_,e,rfl,n,rfl⟩theorem IsT.iV(x:IsT h a vs):h.IsTuple a vs.toArray:=a7 x λ n e=>⟨_,e,rfl,n,rfl⟩
class inductive bQ{Sq T:Type}(R:Sq->T->Prop):H Sq->H T->Prop
 |nil:bQ R [] []
 |cons {a b as bs} :R a b->bQ R as bs->bQ R (a::as) (b::bs)
class inductive aV(X:H ao)(h:aX):aq->D->Prop
 |none:aV X h .none .none
 |bool (b):aV X h (.bool b) (.bool b)
 |int (i t):aV X h (.int i t) (.int i)
 |aS (u t):t≠0->aV X h (.float u t) (.aS u)
 |str (s t):aV X h (.str s t) (.str s)
 |ty (n):aV X h (.type n) (.ty n)
 |bi (n):aV X h (.builtin n) (.bi n)
 |obj {a o} :a∉X->h.get? a=B o->aV X h (.ref a) (.obj a)
 |ae {a vs xs} :a∉X->IsL h a vs->bQ (aV X h) vs xs->aV X h (.ref a) (.ae xs)
 |aD {a vs xs} :a∉X->IsT h a vs->bQ (aV X h) vs xs->aV X h (.ref a) (.aD xs)
 |exc {a c o ws t vs xs} :a∉X->h.get? a=B o->o.cls=.type c->o.data=.fields ws->ws[0]?=B (.ref t)->t∉X->h.TupAt t vs->bQ (aV X h) vs xs->aV X h (.ref a) (.exc c xs)abbrev bT(X:H ao)(h:aX):H aq->H D->Prop:=bQ (aV X h)theorem bQ.ind{P:H aq->H D->Prop}(n:P [] [])(c:∀v vs x xs,aV X h v x->bT X h vs xs->P vs xs->P (v::vs) (x::xs))(r:bT X h vs xs):P vs xs:=by induction r with|nil=>exact n|cons a r i=>exact c _ _ _ _ a r i
theorem bQ.length{Sq T:Type}{R:Sq->T->Prop}{as:H Sq}{bs:H T}(r:bQ R as bs):O as=O bs:=by induction r with|nil=>rfl|cons _ _ i=>exact aM i9 i
theorem bQ.append(r:bT X h vs xs)(s:bT X h Q y):bT X h (vs++Q) (xs++y):=r.ind (P:=λ vs xs=>bT X h (vs++Q) (xs++y)) s λ u u u u a u=>.cons a
theorem bQ.get{i:J}(r:bT X h vs xs):xs[i]?=B x->∃v,vs[i]?=B v/\aV X h v x:=by refine r.ind (P:=λ vs xs=>∀i:J,xs[i]?=B x->∃v,vs[i]?=B v/\aV X h v x) (λ u=>nn) (λ v vs y xs a u I i e=>?_) i;induction i with|zero=>exact⟨v,rfl,ax (ak e) a⟩|succ i=>exact I i e
theorem bQ.nu(r:bT X h vs (d::ds)):∃v u,vs=v::u/\aV X h v d/\bT X h u ds:=by cases r with|cons r R=>exact(bh _ _ ⟨rfl,r,R⟩)
theorem bQ.drop(n:J)(r:bT X h vs xs):bT X h (vs.drop n) (xs.drop n):=r.ind (P:=λ vs xs=>∀n:J,bT X h (vs.drop n) (xs.drop n)) (λ n=>by induction n<;>exact .nil) (λ u u u u a r i n=>by
 induction n with
 |zero=>exact .cons a r|succ n=>exact i n) n
theorem bQ.reverse(r:bT X h vs xs):bT X h vs.reverse xs.reverse:=r.ind (P:=λ vs xs=>bT X h vs.reverse xs.reverse) .nil λ u u u u a u i=>L D3 (L D3 (i.append (.cons a .nil)))
theorem aV.mono{v:aq}{x:D}(r:aV X h v x)(k:fX h h' X Yq):aV Yq h' v x:=
 have A:∀{a o},a∉X->h.get? a=B o->a∉Yq/\h'.get? a=B o:=λ n e=>(k _ _ e n).symm
 aV.rec (motive_1:=λ v x u=>aV Yq h' v x) (motive_2:=λ vs xs u=>bQ (aV Yq h') vs xs) .none .bool .int .aS .str .ty .bi (λ n e=>.obj (A n e).1 (A n e).2)
   (λ n ⟨j,e⟩ _ r=>.ae (A n e).1 ⟨j,(A n e).2⟩ r) (λ n ⟨j,e⟩ _ r=>.aD (A n e).1 ⟨j,(A n e).2⟩ r) (λ n e c d w b ⟨o,j,E,q⟩ _ r=>.exc (A n e).1 (A n e).2 c d w (A b E).1 ⟨o,j,(A b E).2,q⟩ r) .nil (λ u u a r=>.cons a r) r
theorem bQ.mono{vs:H aq}{xs:H D}(r:bT X h vs xs)(k:fX h h' X Yq):bT Yq h' vs xs:=r.ind (P:=λ vs xs=>bT Yq h' vs xs) .nil λ u u u u a u i=>.cons (a.mono k) i
def NN(X:H ao)(h:aX)(v:aq)(d:D):Prop:=match d with|.none=>v=.none|.bool b=>v=.bool b|.int i=>∃t,v=.int i t|.aS u=>∃t,v=.float u t/\t≠0|.str s=>∃t,v=.str s t|.ty n=>v=.type n|.bi n=>v=.builtin n|.obj a=>v=.ref a/\a∉X/\∃o,h.get? a=B o|.ae xs=>∃a vs,v=.ref a/\a∉X/\IsL h a vs/\bT X h vs xs|.aD xs=>∃a vs,v=.ref a/\a∉X/\IsT h a vs/\bT X h vs xs|.exc c xs=>∃a o W t vs,v=.ref a/\a∉X/\h.get? a=B o/\o.cls=.type c/\o.data=.fields W/\W[0]?=B (.ref t)/\t∉X/\h.TupAt t vs/\bT X h vs xs
theorem aV.inv(r:aV X h v d):NN X h v d:=by cases r with|none=>rfl|bool=>rfl|int _ t=>exact⟨t,rfl⟩|aS _ t n=>exact⟨t,rfl,n⟩|str _ t=>exact⟨t,rfl⟩|ty=>rfl|bi=>rfl|obj n e=>exact⟨rfl,n,_,e⟩|ae n e r=>exact(bh _ _ ⟨rfl,n,e,r⟩)|aD n e r=>exact(bh _ _ ⟨rfl,n,e,r⟩)|exc n e c d w b q r=>exact(E5 _ _ _ _ _ ⟨rfl,n,e,c,d,w,b,q,r⟩)
def a9(X:H ao)(α:H ao)(h:aX)(v:aq):V->Prop
 |.d x=>aV X h v x|.aH i=>∃a,α[i]?=B a/\v=.ref a
class inductive oK(P:dj)(X:H ao)(α:H ao)(h:aX):H e7->H (ai×V)->Prop
 |nil:oK P X α h [] []
 |cons {k t v x es xs} :a9 X α h v x->oK P X α h es xs->oK P X α h (⟨PyData.keyHash P k,.str k t,v⟩::es) ((k,x)::xs)
def iz(X α:H ao)(h:aX)(a:ao):fu->Prop
 |.list xs i=>∃l vs,h.IsListIter a l i/\l∉X/\IsL h l vs/\bT X h vs xs|.e3 j i=>∃l,α[j]?=B l/\h.IsListIter a l i|.aD xs i=>∃l vs,h.IsTupleIter a l i/\l∉X/\IsT h l vs/\bT X h vs xs|.str s i=>∃t,h.IsStrIter a "str_ascii_iterator" s t i\/h.IsStrIter a "str_iterator" s t i|.jk x n=>IsRangeIter h a x n 1|.rev xs k=>∃l vs,h.IsRevIter a l ((k:ah)- 1)/\k<=O xs/\l∉X/\IsL h l vs/\bT X h vs xs|.enu j k=>∃b o,α[j]?=B b/\IsEnum h a b k o|.zip js t=>∃(T I:ao)(bs:H ao),(js.map λ j=>α[j]?)=bs.map B/\α[t]?=B I/\T∉X/\zu h a T I .none/\h.get? T=B {cls:=.type "tuple",data:=.seq (bs.map hP).toArray}
def me(X:H ao)(h:aX)(a:ao)(l C:J)(q:ai):Prop:=
 ∃vs:fE aq,h.get? a=B {cls:=.none,data:=.fields vs} /\(vs= #[]\/∃c o f t,vs= #[gz l,gz C,.ref c]/\c∉X/\h.get? c=B o/\o.data=.fields f/\f[1]?=B (.str q t))
def d2(P:dj)(X:H ao)(α:H ao)(h:aX)(a:ao):cj->Prop
 |.ae xs=>∃vs,IsL h a vs/\bT X h vs xs|.fY es=>∃(E:fE e7)(n:J)(_:gL),h.get? a=B ⟨.type "dict",aa,.dict E n, #[]⟩/\oK P X α h E.toList es|.fld es=>∃m,h.Ns1 a m/\h.ExactDictFk a/\(∀n,es.lookup n=aa->m n=aa)/\∀n v,es.lookup n=B v->∃u,m n=B u/\a9 X α h u v|.inst c j=>∃b,α[j]?=B b/\h.get? a=B ⟨.ref c,B b,.plain, #[]⟩|.it k=>iz X α h a k|.hX x y=>∃t u v,IsRange h a x y 1 t u v|.gD n=>∃vs:H aq,O vs=n/\h.get? a=B {cls:=.type "tuple",data:=.seq vs.toArray}|.jl=>∃o,h.get? a=B o/\o.cls=.type "re.Match"|.cX=>a<h.objs.size|.tab p l C q=>a=p/\me X h a l C q
class inductive c0(P:dj)(X:H ao)(α:H ao)(h:aX):H ao->aE->Prop
 |nil:c0 P X α h [] []
 |cons {a as m ms} :d2 P X α h a m->c0 P X α h as ms->c0 P X α h (a::as) (m::ms)theorem map_some{α aA:H ao}{js:H J}{bs:H ao}(e:(js.map λ j=>α[j]?)=bs.map B)(T:∀j b,j∈js->α[j]?=B b->aA[j]?=B b):(js.map λ j=>aA[j]?)=bs.map some:=ax e (YJ λ j D=>av (iP.mp (ax e (List.mem_map_of_mem D))) λ b u q=>L (T j b D q.symm) q)theorem get_append{α p:H ao}{j:J}(e:α[j]?=B b):(α++p)[j]?=B b:=by rw[vX (jN.mp e).1];exact e
theorem NO{α p:H ao}{js:H J}{bs:H ao}(e:(js.map λ j=>α[j]?)=bs.map B):(js.map λ j=>(α++p)[j]?)=bs.map some:=map_some e λ j b u=>get_append
theorem me.mono{a:ao}{l c:J}{q:ai}(r:me X h a l c q)(d:h'.get? a=h.get? a)(k:fX h h' X Yq):me Yq h' a l c q:=by refine av r λ vs e r=>(⟨vs,Y d e,r.imp id λ z=>NP z λ c o f t R E s D eT=>(hV c o f t ⟨R,(k _ _ s E).2,(k _ _ s E).1,D,eT⟩)⟩)theorem d2.there(r:d2 P X α h a m)(N:m≠ .cX):∃o,h.get? a=B o:=by induction m with|ae xs=>exact av r λ vs D u=>(a7 D λ n e=>⟨_,e⟩)|fY es=>exact oL r λ E n R e u=>⟨_,e⟩|inst c j=>exact av r λ b u e=>⟨_,e⟩|fld es=>exact av r λ u w u=>(oL w λ o u u e u=>⟨_,e⟩)|hX x y=>exact mf r λ u u u e=>⟨_,e⟩|gD n=>exact av r λ u u e=>⟨_,e⟩|jl=>exact av r λ u e u=>⟨_,e⟩|cX=>exact aR rfl N|tab p l c q=>obtain⟨_,_,e,_⟩:=r;exact⟨_,e⟩|it k=>induction k with|list xs i=>refine eM r λ l vs W u=>?_;obtain⟨o,e,_⟩:=W;exact⟨_,e⟩|e3 j i=>obtain⟨l,_,⟨o,e,_⟩⟩:=r;exact⟨_,e⟩|aD xs i=>exact eM r λ l vs C u=>(av C λ o e u=>⟨_,e⟩)|str s i=>obtain⟨t,⟨o,e,_⟩|⟨o,e,_⟩⟩:=r<;>exact⟨_,e⟩|jk x n=>exact⟨_,r⟩|rev xs k=>exact eM r λ l vs Q u=>(av Q λ o e u=>⟨_,e⟩)|enu j k=>exact eM r λ b d u e=>⟨_,e⟩|zip js t=>exact rS r λ u u u u u u e u=>⟨_,e⟩
theorem d2.lt(r:d2 P X α h a m):a<h.objs.size:=by
 by_cases e:m=.cX
 ·subst e;exact r
 ·exact a7 (r.there e) λ o=>dI
noncomputable def Ar:V->U J
 |.d _=>aa|.aH i=>B i
def NQ:cj->H J
 |.ae _|.hX _ _|.gD _|.jl|.cX|.tab _ _ _ _=>[]|.fY es|.fld es=>es.filterMap λ e=>Ar e.2|.inst _ j=>[j]|.it k=>match k with|.e3 j _=>[j]|.enu j _=>[j]|.zip js t=>t::js|_=>[]theorem a9.mg{X Yq α aA:H ao}(r:a9 X α h v x)(k:fX h h' X Yq)(T:∀j b,Ar x=B j->α[j]?=B b->aA[j]?=B b):a9 Yq aA h' v x:=by induction x with|d x=>exact aV.mono r k|aH i=>exact av r λ a c e=>⟨a,T i a rfl c,e⟩theorem a9.mono{X Yq α aA:H ao}(r:a9 X α h v x)(k:fX h h' X Yq)(T:∃p,aA=α++p):a9 Yq aA h' v x:=r.mg k λ j b u e=>a7 T λ p q=>q▸get_append e
theorem oK.mg(r:oK P X α h es xs)(k:fX h h' X Yq):(∀j b,j∈xs.filterMap (λ e=>Ar e.2)->α[j]?=B b->aA[j]?=B b)->oK P Yq aA h' es xs:=by induction r with|nil=>exact λ u=>.nil|cons a _ i=>exact λ T=>.cons (a.mg k λ j b q=>T j b (pL.mpr ⟨_,cV,q⟩)) (i λ j b q=>T j b (av (pL.mp q) λ p W l=>pL.mpr ⟨p,c7 _ W,l⟩))
theorem d2.mg{h h':aX}(r:d2 P X α h a m)(D:h.objs.size<=h'.objs.size)(d:h'.get? a=h.get? a)(k:fX h h' X Yq)(T:∀j b,j∈NQ m->α[j]?=B b->aA[j]?=B b):d2 P Yq aA h' a m:=by
 induction m with
 |ae xs=>obtain⟨vs,⟨n,e⟩,r⟩:=r;exact⟨vs,⟨n,Y d e⟩,r.mono k⟩|fY es=>exact oL r λ E n F e r=>(e_ E n F ⟨Y d e,r.mg k T⟩)|fld es=>exact As r λ m N G q1 K=>⟨m,N.at λ o e=>Y d e,G.at λ o e=>Y d e,q1,λ n v e=>av (K n v e) λ u M iW=>⟨u,M,iW.mg k λ j b q=>T j b (pL.mpr ⟨_,mem_of_lookup e,q⟩)⟩⟩|inst c j=>exact av r λ b R f=>⟨b,T j b cV R,Y d f⟩|hX x y=>exact mf r λ t u v e=>(e_ t u v (Y d e))|gD n=>exact av r λ vs n e=>⟨vs,n,Y d e⟩|jl=>exact av r λ o e c=>⟨o,Y d e,c⟩|cX=>exact eo r D|tab p l c q=>exact⟨r.1,r.2.mono d k⟩
 |it q=>
  induction q with
  |list xs i=>obtain⟨l,vs,⟨o,e,Q⟩,z,⟨n,w⟩,V⟩:=r;exact(bh l vs ⟨⟨o,Y d e,Q⟩,(k _ _ w z).2,⟨n,(k _ _ w z).1⟩,V.mono k⟩)|e3 j i=>obtain⟨l,z,⟨o,e,Q⟩⟩:=r;exact⟨l,T j l cV z,⟨o,Y d e,Q⟩⟩|aD xs i=>obtain⟨l,vs,⟨o,e,Q⟩,z,⟨n,w⟩,V⟩:=r;exact(bh l vs ⟨⟨o,Y d e,Q⟩,(k _ _ w z).2,⟨n,(k _ _ w z).1⟩,V.mono k⟩)
  |str s i=>
   obtain⟨t,⟨o,e,Q⟩|⟨o,e,Q⟩⟩:=r
   ·exact⟨t,.inl ⟨o,Y d e,Q⟩⟩
   ·exact⟨t,.inr ⟨o,Y d e,Q⟩⟩
  |jk x n=>exact Y d r|rev xs i=>exact lg r λ l vs W dk z g V=>(av W λ o e Q=>a7 g λ n w=>(bh l vs ⟨⟨o,Y d e,Q⟩,dk,(k _ _ w z).2,⟨n,(k _ _ w z).1⟩,V.mono k⟩))|enu j i=>exact eM r λ b A R f=>(bh b A ⟨T j b cV R,Y d f⟩)|zip js t=>exact rS r λ TI I bs R f C k9 eT=>(e_ TI I bs ⟨map_some R λ j b q=>T j b (c7 _ q),T t I cV f,(k _ _ eT C).2,Y d k9,(k _ _ eT C).1⟩)theorem d2.mono{h h':aX}(r:d2 P X α h a m)(s:h.objs.size<=h'.objs.size)(c:h'.get? a=h.get? a)(k:fX h h' X Yq)(T:∃p,aA=α++p):d2 P Yq aA h' a m:=r.mg s c k λ j b u e=>a7 T λ p q=>q▸get_append e
theorem d2.keeps(r:d2 P X α h a m)(s:h.objs.size<=h'.objs.size)(k:∀b o,h.get? b=B o->h'.get? b=B o):d2 P X α h' a m:=by
 by_cases e:m=.cX
 ·subst e;exact eo r s
 ·exact r.mono s (by obtain⟨o,e⟩:=r.there e;simp[e,k _ _ e]) (λ b o e n=>⟨k _ _ e,n⟩) eV
structure a_(F W α:H ao)(h:aX)(aA:H ao)(h':aX):Prop where
 size:h.objs.size<=h'.objs.size
 ext:∃β,aA=α++β/\∀a∈β,h.objs.size<=a
 same:∀b o,h.get? b=B o->b∉F->b∉W->b∉α->h'.get? b=B o
 slot:∀b o,h.get? b=B o->b∉W->b∉α->∃kB,h'.get? b=B {o with slots:=kB}
theorem a_.refl(F W α:H ao)(h:aX):a_ F W α h α h:=
 ⟨bH _,⟨[],by simp,by simp⟩,λ u u e u u u=>e,λ u o e u u=>⟨o.slots,e⟩⟩theorem a_.mem(x:a_ F W α h aA h')(e:h.get? b=B o)(n:b∉α):b∉aA:=by refine av x.ext λ p w g=>L w ?_;rw[bB,rj];exact⟨n,λ q=>aR (dI e) (er.mpr (g b q))⟩
theorem a_.trans(x:a_ F W α h aA h')(y:a_ F W aA h' T h''):a_ F W α h T h'':=by
 refine⟨bA x.size y.size,av x.ext λ p t g=>?_,λ b o e f w n=>y.same b o (x.same b o e f w n) f w (x.mem e n),λ b o e w n=>a7 (x.slot b o e w n) λ m j=>a7 (y.slot b _ j w (x.mem e n)) λ s E=>(⟨s,E⟩)⟩;subst t;refine av y.ext λ q i u=>L i ⟨p++q,eb ..,λ a c=>?_⟩;rcases bB.mp c with c|c
 ·exact g a c
 ·exact bA x.size (u a c)
theorem a_.weaken(x:a_ F W α h aA h')(G:cb F A)(t:cb W u):a_ A u α h aA h':=
 ⟨x.size,x.ext,λ b o e f w n=>x.same b o e (λ q=>f (G b q)) (λ q=>w (t b q)) n,λ b o e w n=>x.slot b o e (λ q=>w (t b q)) n⟩
theorem a_.push(h:aX)(o:fe):a_ F W α h α (h.push o):=
 ⟨L (et ..) (hg _),⟨[],by simp,by simp⟩,λ u u e u u u=>dy _ e,λ u o e u u=>⟨o.slots,dy _ e⟩⟩
theorem a_.of_keeps(k:∀b o,h.get? b=B o->h'.get? b=B o)(s:h.objs.size<=h'.objs.size):a_ F W α h α h':=
 ⟨s,⟨[],by simp,by simp⟩,λ b o e u u u=>k b o e,λ b o e u u=>⟨o.slots,k b o e⟩⟩noncomputable def l7:Obj:=⟨.none,aa,.freed, #[]⟩def hide(h:aX)(X:H ao):Heap:=⟨h.objs.mapIdx λ i o=>if X.contains i then l7 else o,h.life⟩
theorem FQ(h:aX)(X:H ao)(b:ao):(hide h X).get? b=if b∈X then aa else h.get? b:=by
 by_cases m:b∈X
 ·rw[bC m]
  delta hide D4;rw[YK,oq.mpr m];rcases h.objs[b]? with _|_<;>rfl
 ·rw[a6 m]
  delta hide D4;rw[YK,YL.mpr λ q=>m (oq.mp q)];rcases h.objs[b]? with _|_<;>rfl
theorem Au:(hide h X).get? b=B o ↔ b∉X/\h.get? b=B o:=by rw[FQ];by_cases m:b∈X<;>exact Option.ite_none_left_eq_some
theorem t5(m:b∈X\/h.get? b=aa):(hide h X).get? b=none:=by
 rw[FQ];rcases m with m|m
 ·exact(bC m)
 ·rw[m];split<;>rfl
abbrev oM(F:H ao)(h:aX)(e:cn):Prop:=e.scope.kind≠ .module/\∃l o,e.frame=B l/\l∈F/\h.get? l=B o/\∀vs,o.data≠ .fields vs
theorem oM.e{e:cn}(q:oM F h e){G:Prop}(k:∀l o,e.scope.kind≠ .module->e.frame=B l->l∈F->h.get? l=B o->(∀vs,o.data≠ .fields vs)->G):G:=eg q.2 λ l o=>k l o q.1
structure bX where
 prog:K7
 w:di
 T:H ao
 K:aX
 h₀:aX
structure bD where
 A:m8
 l:H cn
 P:H ao
 F:H ao
 W:H ao
structure aG(g:bX)(x:bD)(α:H ao)(σ:aE)(h:aX):Prop where
 base:g.K.StaysIn h
 big:g.h₀.objs.size<=h.objs.size
 b2:∀a,a∈x.P\/a∈α->g.K.get? a=aa/\g.h₀.objs.size<=a
 alive:∀a∈x.P,∃o,h.get? a=B o
 dv:α.Nodup
 c8:∀a∈α,a∉x.P
 bM:c0 g.w.params (x.P++α) α h α σ
 fr:∀e∈x.l,oM x.F h e
 old:OldK g.h₀ h
set_option genInjectivity true in
inductive Res(γ:Type) where
 |ok (a:γ)|exc (c:b1)(as:H D)noncomputable def Res.ctorIdx{γ:Type}(e:Res γ):Nat:=Res.casesOn (motive:=λ u=>J) e (λ u=>0) (λ u u=>1)def Ev(γ:Type):=aE->U (Res γ×aE)noncomputable def Ev.ret{γ:Type}(a:γ):Ev γ:=λ σ=>B (.ok a,σ)noncomputable def Ev.au{γ:Type} :Ev γ:=λ u=>aa
noncomputable def Ev.raise{γ:Type}(c:b1)(as:H D):Ev γ:=λ σ=>B (.exc c as,σ)noncomputable def Ev.bind{γ δ:Type}(m:Ev γ)(f:γ->Ev δ):Ev δ:=λ σ=>match m σ with|some (.ok a,af)=>f a af|some (.exc c as,af)=>B (.exc c as,af)|none=>aa
def Ev.of{γ:Type} :U γ->Ev γ
 |some a=>.ret a|none=>.au
noncomputable abbrev cT(s:aU)(h:aX)(t:J):Shared:={s with heap:=h,toks:=t}
@[reducible] noncomputable def fJ(x:bD)(o:H ao):bD:={x with P:=o++x.P}noncomputable def kC(l:H cn):H Addr:=l.filterMap (·.frame)
inductive ExcAt(g:bX)(x:bD)(lo:J)(α:H ao)(σ:aE)(h:aX)(e:ao)(cl:b1)(as:H D):Prop
 |mk (Sq:H ao) (t:ao) (vs:H aq) (a:∀b∈Sq,lo<=b) (I:aG g (fJ x Sq) α σ h) (p4:e∈Sq) (oN:t∈Sq) (lh:∀b∈Sq,b∉x.P) (rs:bT ((Sq++x.P)++α) h vs as)
  (k:(h.get? e=B {cls:=.type cl,data:=.fields #[.ref t,.none,.none,.none,.bool aj,.none] } /\h.get? t=B {cls:=.type "tuple",data:=.seq vs.toArray})\/(K8 (hide h (kC x.l++Sq)) x.l e (.type cl) (.ref t) h/\h.TupAt t vs))theorem ExcAt.low{lo u:J}{α:H ao}{cl:b1}(l:u<=lo)(q:ExcAt g x lo α σ h e cl as):ExcAt g x u α σ h e cl as:=match q with|⟨Sq,t,vs,a,I,c,d,n,r,k⟩=>⟨Sq,t,vs,λ b s=>bA l (a b s),I,c,d,n,r,k⟩
def gn(g:bX)(x:bD){β γ:Type}(post:H ao->aX->β->γ->Prop)(α:H ao)(s:aU)(o:Res γ)(af:aE)(Q:β->aU->Prop):Prop:=
 ∀b r h' t aA,o=.ok r->a_ x.F x.W α s.heap aA h'->aG g x aA af h'->1<=t->post aA h' b r->Q b (cT s h' t)
def eC(g:bX)(x:bD){γ:Type}(α:H ao)(s:aU)(o:Res γ)(af:aE)(E:aq->aU->Prop):Prop:=
 ∀e cl as h' t aA,o=.exc cl as->a_ x.F x.W α s.heap aA h'->1<=t->ExcAt g x s.heap.objs.size aA af h' e cl as->E (.ref e) (cT s h' t)theorem eC.ok{γ:Type}{a:γ} :eC g x α s (.ok a) af E:=λ u u u u u u h=>nomatch h
theorem gn.exc{β γ:Type}{post:H ao->aX->β->γ->Prop}{Q:β->aU->Prop} :gn g x post α s (.exc cl as) af Q:=λ u u u u u h=>nomatch h
theorem gn.ok{β γ:Type}{post:H ao->aX->β->γ->Prop}{a:γ}{Q:β->aU->Prop}(k:∀b h' t aA,a_ x.F x.W α s.heap aA h'->aG g x aA af h'->1<=t->post aA h' b a->Q b (cT s h' t)):gn g x post α s (.ok a) af Q:=λ b u h' t aA h st I T p=>k b h' t aA st I T (Res.ok.inj h▸p)
def ag(g:bX)(x:bD){β γ:Type}(pre:H ao->aX->Prop)(post:H ao->aX->β->γ->Prop)(t:bj β)(m:Ev γ):Prop:=
 ∀(α:H ao)(σ:aE)(s:aU)(o:Res γ)(af:aE),aG g x α σ s.heap->1<=s.toks->pre α s.heap->m σ=B (o,af)->
  ∀(Q:β->aU->Prop)(E:aq->aU->Prop),gn g x post α s o af Q->eC g x α s o af E->aO (a5 g.prog g.w) x.A t Q E s
section
variable {g:bX}{x:bD}{β nv γ δ:Type}theorem ag.pure(h:∀α h',pre α h'->post α h' b a):ag g x pre post (tg b:bj β) (.ret a):=by intro α σ s o af I t p e Q E G u;cases e;exact bl (G b a s.heap s.toks α rfl (.refl ..) I t (h _ _ p))theorem ag.au:ag g x pre post t .au:=λ u u u u u u u u=>nn
theorem ag.bind{k:γ->Ev δ}
  (W:ag g x pre mid t m)(n:∀b a,ag g x (λ α h=>mid α h b a) post (f b) (k a)):ag g x pre post (t>>=f) (m.bind k):=by
 intro α σ s o af I D p e Q E G c;unfold Ev.bind at e;refine eD (m σ) (λ R=>?_) λ r R=>?_
 ·rw[R]at e;exact nn e
 ·
  obtain⟨r,y⟩:=r;rw[R]at e;refine aB (W α σ s r y I D p R _ E (λ b a h' C aA P st F i M=>?_) λ z cl as h' C aA P st i X=>?_)
  ·subst P
   exact n b a aA y _ o af F i M e Q E (λ b r h'' j T l K=>G b r h'' j T l (st.trans K))
    λ z cl as h'' j T l K v X=>c z cl as h'' j T l (st.trans K) v (X.low st.size)
  ·subst P
   cases e;exact c z cl as h' C aA rfl st i X
theorem ag.mono(h:ag g x pre post t m)(u:∀α h,pre' α h->pre α h)
  (G:∀α h b a,post α h b a->post' α h b a):ag g x pre' post' t m:=λ α σ s o af I D p e Q E q y=>h α σ s o af I D (u _ _ p) e Q E (λ b r h' C aA i st F T P=>q b r h' C aA i st F T (G _ _ _ _ P)) y
def kD(x:bD)(K:H ao->aX->Prop):Prop:=∀α h aA h',a_ x.F x.W α h aA h'->K α h->K aA h'
theorem ag.frame{K:H ao->aX->Prop}(h:ag g x pre post t m)(n:kD x K):
  ag g x (λ α h=>pre α h/\K α h) (λ α h b a=>post α h b a/\K α h) t m:=λ α σ s o af I D p e Q E q=>h α σ s o af I D p.1 e Q E (λ b r h' C aA j st F T R=>q b r h' C aA j st F T ⟨R,n _ _ _ _ st p.2⟩)
theorem ag.holding(h:ag g x pre post t m):ag g x pre post (d_ vs t) m:=
 λ α σ s o af I T p e Q E q y=>dT (h α σ s o af I T p e Q E q y)
theorem ag.standAt(h:ag g x pre post (k ()) m):ag g x pre post (dZ p>>=k) m:=
 λ α σ s o af I t P e Q E q y=>aB (kq (h α σ s o af I t P e Q E q y))
theorem ag.rule(h:ag g x pre post (k ()) m):ag g x pre post (rule p>>=k) m:=
 λ α σ s o af I t P e Q E q y=>aB (tr (h α σ s o af I t P e Q E q y))
theorem ag.of_wp
  (h:∀α σ s,aG g x α σ s.heap->1<=s.toks->pre α s.heap->∀(Q:β->aU->Prop)(E:aq->aU->Prop),
    (∀b h' T,(∀b o,s.heap.get? b=B o->h'.get? b=B o)->s.heap.objs.size<=h'.objs.size->post α h' b a->Q b (cT s h' T))->aO (a5 g.prog g.w) x.A t Q E s)
  (y:∀α σ h h',aG g x α σ h->(∀b o,h.get? b=B o->h'.get? b=B o)->h.objs.size<=h'.objs.size->aG g x α σ h'):ag g x pre post t (.ret a):=by
 intro α σ s f af I D p e Q E q u;cases e;exact g4 (h α σ s I D p _ _ λ b h' T k P l R=>q b a h' T α rfl (.of_keeps k P) (y _ _ _ _ I k P) (bA D R.toks) l)
end
theorem a_.outer{x:bD}(st:a_ x.F x.W α h aA h')(G:cb x.F x.P)(u:cb x.W x.P):
  fX h h' (x.P++α) (x.P++aA):=by
 intro b o e n;rw[bB,rj]at n ⊢;exact⟨st.same b o e (λ q=>n.1 (G b q)) (λ q=>n.1 (u b q)) n.2,n.1,st.mem e n.2⟩theorem c0.keeps(r:c0 P X α h as ms)(Q:h.objs.size<=h'.objs.size)(k:∀b o,h.get? b=B o->h'.get? b=B o):c0 P X α h' as ms:=by induction r with|nil=>exact .nil|cons a _ i=>exact .cons (a.keeps Q k) i
theorem aG.keeps(I:aG g x α σ h)(k:∀b o,h.get? b=B o->h'.get? b=B o)(s:h.objs.size<=h'.objs.size):aG g x α σ h' where
 big:=bA I.big s
 base:=λ b o e=>k b o (I.base b o e)
 b2:=I.b2
 alive:=λ a f=>a7 (I.alive a f) λ o e=>⟨o,k _ _ e⟩
 dv:=I.dv
 c8:=I.c8
 bM:=I.bM.keeps s k
 fr:=λ e y=>have z:=I.fr e y;⟨z.1,eg z.2 λ l o b c d r=>(bh l o ⟨b,c,k _ _ d,r⟩)⟩
 old:=I.old.step_keeps k
theorem ag.wp{β γ:Type}{post:H ao->aX->β->γ->Prop}{t:bj β}{a:γ}
  (h:∀α σ s,aG g x α σ s.heap->1<=s.toks->pre α s.heap->∀(Q:β->aU->Prop)(E:aq->aU->Prop),
    (∀b h' T,(∀b o,s.heap.get? b=B o->h'.get? b=B o)->s.heap.objs.size<=h'.objs.size->post α h' b a->Q b (cT s h' T))->aO (a5 g.prog g.w) x.A t Q E s):ag g x pre post t (.ret a):=
 .of_wp h λ u u u u I=>I.keeps
noncomputable def bR{β:Type}(b:aF)(o:U β):U β:=match b with|true=>o|false=>aa
noncomputable def oO{γ β:Type}(q:U (Res γ×aE))(f:γ->aE->U β):U β:=match q with|none=>aa|some p=>match p.1 with|.ok a=>f a p.2|.exc _ _=>aa
noncomputable def hA{β:Type}(v:V)(f:J->U β):U β:=match v with|.aH j=>f j|.d _=>aa
noncomputable def jW{β:Type}(m:U cj)(f:H D->U β):U β:=match m with|none=>aa|some m=>match m with|.ae xs=>f xs|_=>aa
theorem bN{β:Type}{o:U β}{r:β}(e:bR b o=B r){G:Prop}(k:b=S->o=B r->G):G:=by induction b with|true=>exact k rfl e|false=>exact nn e
theorem t6{γ β:Type}{q:U (Res γ×aE)}{f:γ->aE->U β}{r:β}(e:oO q f=B r){G:Prop}(k:∀a σ,q=B (.ok a,σ)->f a σ=B r->G):G:=by induction q with|none=>exact nn e|some p=>obtain⟨o,σ⟩:=p;induction o with|ok a=>exact k a σ rfl e|exc=>exact nn e
theorem eh{β:Type}{o:U β}(h:b=S):bR b o=o:=L h rfl
theorem wO{γ β:Type}{q:U (Res γ×aE)}{f:γ->aE->U β}{a:γ}(h:q=B (.ok a,σ)):oO q f=f a σ:=L h rfl
theorem rT{β:Type}{f:H D->U β}(h:m=B (.ae xs)):jW m f=f xs:=L h rfl
theorem acd{β:Type}(j:J)(f:J->U β):hA (.aH j) f=f j:=rfl
theorem nx{β:Type}{f:J->U β}{r:β}(e:hA v f=B r){G:Prop}(k:∀j,v=.aH j->f j=B r->G):G:=by induction v with|aH j=>exact k j rfl e|d _=>exact nn e
theorem oP{β:Type}{f:H D->U β}{r:β}(e:jW m f=B r){G:Prop}(k:∀xs,m=B (.ae xs)->f xs=B r->G):G:=by induction m with|none=>exact nn e|some m=>induction m with|ae xs=>exact k xs rfl e|_=>exact nn e
noncomputable def hi{β:Type}(v:V)(f:D->U β):U β:=match v with|.d d=>f d|.aH _=>aa
theorem iA{β:Type}{f:D->U β}{r:β}(e:hi v f=B r){G:Prop}(k:∀d,v=.d d->f d=B r->G):G:=by induction v with|d d=>exact k d rfl e|aH _=>exact nn e
theorem b3{α β:Type}{o:U α}{f:α->U β}{r:β}(e:o.bind f=B r){G:Prop}(k:∀a,o=B a->f a=B r->G):G:=by induction o with|none=>exact nn e|some a=>exact k a rfl e
theorem gE{A Bq:Type}{o:U A}{f:A->Bq}{r:Bq}(e:o.map f=B r){G:Prop}(k:∀a,o=B a->f a=r->G):G:=match o,e,k with|some a,e,k=>k a rfl (ak e)|none,e,_=>nn e
theorem ma(h:(!b)=S):b=false:=by induction b with|false=>rfl|true=>exact bw h
theorem Ev.mh{γ δ:Type}{m:Ev γ}{k:γ->Ev δ}{r:δ}(e:m.bind k σ=B (.ok r,af)){G:Prop}(c:∀a V,m σ=B (.ok a,V)->k a V=B (.ok r,af)->G):G:=by
 unfold Ev.bind at e;refine eD (m σ) (λ h=>?_) λ q h=>?_
 ·rw[h]at e;exact nn e
 ·
  obtain⟨o,V⟩:=q;rw[h]at e;induction o with|ok a=>exact c a V h e|exc c as=>cases e
theorem Ev.aT{γ δ:Type}{m:Ev γ}{k:γ->Ev δ}{r:δ}(e:m.bind k σ=B (.ok r,af)):∃a V,m σ=B (.ok a,V)/\k a V=B (.ok r,af):=
 Ev.mh e λ a V h e=>(bh a V ⟨h,e⟩)theorem aT{γ δ:Type}{m:Ev γ}{k:γ->Ev δ}{a:γ}(h:m σ=B (.ok a,af)):m.bind k σ=k a af:=by unfold Ev.bind;rw[h]theorem jm{γ δ:Type}{m:Ev γ}{k:γ->Ev δ}(h:m σ=B (.exc c as,af)):m.bind k σ=B (.exc c as,af):=by unfold Ev.bind;rw[h]
theorem Ev.NR{γ δ:Type}{m:Ev γ}{k:γ->Ev δ}{q:Res δ×aE}(e:m.bind k σ=B q){G:Prop}(K:∀a V,m σ=B (.ok a,V)->k a V=B q->G)(n:∀c as V,m σ=B (.exc c as,V)->(.exc c as,V)=q->G):G:=by
 unfold Ev.bind at e;refine eD (m σ) (λ h=>?_) λ p h=>?_
 ·rw[h]at e;exact nn e
 ·
  obtain⟨o,V⟩:=p;rw[h]at e;induction o with|ok a=>exact K a V h e|exc c as=>exact n c as V h (ak e)noncomputable def hB{A:Type}(f:ai->U A)(d:D):U A:=match d with|.str z=>f z|_=>aa
noncomputable def iX{A:Type}(f:ah->U A)(d:D):U A:=match d with|.int i=>f i|_=>aa
theorem mi{A:Type}{f:ai->U A}{r:A}(e:hB f d=B r){G:Prop}(k:∀z,d=.str z->f z=B r->G):G:=by
 rcases d with _|_|_|_|z|_|_|_|_|_|⟨_,_⟩;case str=>exact k z rfl e
 all_goals exact nn e
theorem p5{A:Type}{f:ah->U A}{r:A}(e:iX f d=B r){G:Prop}(k:∀i,d=.int i->f i=B r->G):G:=by
 rcases d with _|_|i|_|_|_|_|_|_|_|⟨_,_⟩;case int=>exact k i rfl e
 all_goals exact nn e
abbrev az:=H (ai×V)abbrev kE:=H (ai×D)
structure hh(g:bX)(gl:kE):Prop where
 ex:∃jn Av,g.K.Ns k2 jn/\g.K.Ns zl Av/\
  ∀n d,gl.lookup n=B d->(∃v,jn n=B v/\aV [] g.K v d)\/(jn n=aa/\∃v,Av n=B v/\aV [] g.K v d)
structure eW(g:bX)(x:bD)(n:J):Prop where
 cY:cb x.F x.P
 ew:cb x.W x.P
 frames:x.A.frames=B x.l
 handled:0<n->x.A.handled=aa
 depth:x.A.depth+n<recursionLimit
 units:x.A.units+8*n+200<rk
 nolimit:g.K.NoLimit
theorem eW.u(ok:eW g x n):x.A.units+200<cLine:=gg (pF (gK ..) _) ok.units
noncomputable def iB:U l0->aF
 |some .cell|some .free=>S|_=>aj
abbrev FR(x:bD)(α:H ao)(h:aX)(ρ:az)(n:ai)(V:U aq):Prop:=∀v,ρ.lookup n=B v->∃u,V=B u/\a9 (x.P++α) α h u v
structure bt(g:bX)(x:bD)(env:cn)(ρ:az)(α:H ao)(h:aX):Prop where
 fv:env.scope.kind=.function
 gl:env.globals=k2
 cc:env.builtins=zl
 fK:env.locals∈x.P
 ns:∃m,h.Ns env.locals m/\∀n v,ρ.lookup n=B v->env.kindOf n=B .local->∃u,m n=B u/\a9 (x.P++α) α h u v
 lj:∀n,iB (env.kindOf n)=S->∃c,env.cells.lookup n=B c/\c∈x.P/\c∉x.F/\c≠env.locals/\∃ny,h.IsCell c ny/\FR x α h ρ n ny
 ap:∀n FT c,iB (env.kindOf n)=S->iB (env.kindOf FT)=S->env.cells.lookup n=B c->env.cells.lookup FT=B c->n=FT
theorem bt.jX(R:bt g x env ρ α h)(A:iB (env.kindOf n)=S){G:Prop}(k:∀c v,env.cells.lookup n=B c->c∈x.P->c∉x.F->c≠env.locals->h.IsCell c v->(FR x α h ρ n v)->G):G:=
 t7 (R.lj n A) λ c W j w I r=>av r λ v P d=>k c v W j w I P d
def Quiet(x:bD)(env:cn):Prop:=env.locals∉x.W/\∀n c,iB (env.kindOf n)=S->env.cells.lookup n=B c->c∉x.W
theorem bt.jY(G:cb x.F x.P)(y:cb x.W x.P)(q:Quiet x env):
  ∀α σ h aA h',aG g x α σ h->a_ x.F x.W α h aA h'->bt g x env ρ α h->bt g x env ρ aA h':=by
 intro α σ h aA h' I st R;obtain K:=st.outer G y;have T:∃β,aA=α++β:=av st.ext λ β e w=>⟨β,e⟩;have N:=λ a d z=>I.c8 a z d;refine⟨R.fv,R.gl,R.cc,R.fK,?_,?_,R.ap⟩
 ·refine av R.ns λ m b f=>t8 b λ o es E i l r=>?_
  obtain⟨P,e⟩:=st.slot _ _ i q.1 (N _ R.fK);exact⟨m,(e_ _ es E ⟨e,l,r⟩),λ n v k Q=>av (f n v k Q) λ u X p=>⟨u,X,p.mono K T⟩⟩
 ·refine λ n V=>R.jX V λ c A W j s C D F=>av D λ o i l=>?_
  obtain⟨P,e⟩:=st.slot _ _ i (q.2 n c V W) (N _ j);exact⟨c,W,j,s,C,A,⟨_,e,l⟩,λ v k=>av (F v k) λ u X p=>⟨u,X,p.mono K T⟩⟩
theorem ag.envs{K:H ao->aX->Prop}(ok:eW g x n)(q:Quiet x env)
  (h:ag g x (λ α h=>bt g x env ρ α h/\K α h) post t m)(k:kD x K):ag g x (λ α h=>bt g x env ρ α h/\K α h) (λ α h b a=>post α h b a/\bt g x env ρ α h/\K α h) t m:=λ α σ s o af I D p e Q E G=>h α σ s o af I D p e Q E (λ b r h' C aA i st F T P=>G b r h' C aA i st F T ⟨P,bt.jY ok.cY ok.ew q _ _ _ _ _ I st p.1,k _ _ _ _ st p.2⟩)
theorem ag.NS{K:H ao->aX->Prop}{mid:H ao->aX->e->r->Prop}(ok:eW g x n)(q:Quiet x env)(l:kD x K)
  (W:ag g x (λ α h=>bt g x env ρ α h/\K α h) mid t m)(j:∀b a,ag g x (λ α h=>bt g x env ρ α h/\K α h/\mid α h b a) post (f b) (k a)):
  ag g x (λ α h=>bt g x env ρ α h/\K α h) post (t>>=f) (m.bind k):=
 (ag.envs ok q W l).bind λ b a=>(j b a).mono (λ u u p=>⟨p.2.1,p.2.2,p.1⟩) λ u u u u y=>y
def NT:vY->Ev V
 |.none=>.ret (.d .none)|.bool b=>.ret (.d (.bool b))|.int i=>.ret (.d (.int i))|.float u=>.ret (.d (.aS u))|.str s=>.ret (.d (.str s))|_=>.au
def p6(g:kE)(s:bW)(ρ:az)(n:ai):Ev V:=match n==("__debug__" :ai),n==("__classdict__" :ai),s.names.lookup n with|true,_,_=>.ret (.d (.bool S))|false,aj,B .local|false,aj,B .cell|false,aj,B .free=>.of (ρ.lookup n)|false,_,B .globalImplicit=>.of ((g.lookup n).map V.d)|_,_,_=>.au
def fa(p:bW)(env:cn):Prop:=∀n,(p.names.lookup n=env.kindOf n)\/(p.names.lookup n=B .free/\env.kindOf n=B .cell)abbrev dA(x:bD):H ao->aX->aq->V->Prop:=λ α h v r=>a9 (x.P++α) α h v r
theorem ace{K:H ao->aX->Prop}(c:vY):ag g x (λ α h=>bt g x env ρ α h/\K α h) (dA x) (constValue env c) (NT c):=by induction c with|none=>exact ag.pure λ w w w=>.none|bool b=>exact ag.pure λ w w w=>.bool b|int i=>exact ag.wp λ α σ s I T p Q E G=>wpAny_mkInt (G _ s.heap _ (λ w w e=>e) (bH _) (.int _ _))|float u=>exact ag.wp λ α σ s I T p Q E G=>(λ w w w=>G _ s.heap _ (λ w w e=>e) (bH _) (.aS _ _ (hM T)))|str t=>exact ag.wp λ α σ s I T p Q E G=>D5 (G _ s.heap _ (λ w w e=>e) (bH _) (.str _ _))|bytes _=>exact .au|ellipsis=>exact .au|complex _ _=>exact .au
theorem NU(I:aG g x α σ h)(r:aV [] g.K v d):aV (x.P++α) h v d:=
 r.mono λ b o e u=>⟨I.base b o e,by
  rw[bB];exact λ q=>nn (ax ((I.b2 b q).1) e)⟩
theorem acf{K:H ao->aX->Prop}(G:hh g y)(cM:fa q env)(W:cP):
  ag g x (λ α h=>bt g x env ρ α h/\K α h) (dA x) (bG (.Name nm W) env) (p6 y q ρ nm):=by
 unfold p6;cases F:nm==("__debug__")with
 |true=>refine ag.wp λ α σ s I dm p Q E M=>?_;show aO _ _ (do dZ W;if nm==("__debug__")then debugConstant else loadName env nm) _ _ _;exact L F (aB (kq (aB (tr (bl (M _ s.heap s.toks (λ w w e=>e) (bH _) (.bool _)))))))
 |false=>
  have l:(nm==("__classdict__"))=aj->(env.kindOf nm=B .local\/iB (env.kindOf nm)=S)->ag g x (λ α h=>bt g x env ρ α h/\K α h) (dA x) (bG (.Name nm W) env) (.of (ρ.lookup nm)):=by
   intro T j;cases D:ρ.lookup nm with
   |none=>exact .au
   |some v=>
    refine ag.wp λ α σ s I dm p Q E M=>wpAny_Name ?_ F;have R:=p.1;rcases j with cL|A
    ·exact av R.ns λ m da t=>av (t nm v D cL) λ u mj a=>wpAny_loadName_local R.fv cL da mj (M u s.heap s.toks (λ w w e=>e) (bH _) a)
    ·refine R.jX A λ c ny c5 z z z fw ei=>av (ei v D) λ u b a=>?_
     subst b;have o:=M u s.heap s.toks (λ w w e=>e) (bH _) a;refine eD (env.kindOf nm) (λ P=>?_) λ cH P=>?_
     ·rw[P]at A;exact bw A
     ·
      induction cH with|cell=>exact wpAny_loadName_cell R.fv P c5 fw o|free=>exact wpAny_loadName_free R.fv P c5 fw o T|_=>rw[P]at A;exact bw A
  have X:q.names.lookup nm=B .globalImplicit->ag g x (λ α h=>bt g x env ρ α h/\K α h) (dA x) (bG (.Name nm W) env) (.of ((y.lookup nm).map V.d)):=by
   intro n;cases D:y.lookup nm with
   |none=>exact .au
   |some d=>
    refine ag.wp λ α σ s I dm p Q E M=>?_;have R:=p.1;have hj:env.kindOf nm=B .globalImplicit:=by
     rcases cM nm with e|⟨e,_⟩
     ·rw[<-e,n]
     ·rw[n]at e;exact aR e (by decide)
    refine e4 G.ex λ jn Av acg nb t=>?_;have i:=R.gl▸acg.keeps I.base;refine anY R.fv hj ?_ F;rcases t nm d D with⟨v,e,r⟩|⟨hC,v,e,r⟩
    ·exact anZ i e (M v s.heap s.toks (λ w w e=>e) (bH _) (NU I r))
    ·exact an0 i hC (L R.cc (nb.keeps I.base)) e (M v s.heap s.toks (λ w w e=>e) (bH _) (NU I r))
  obtain FU:∀k,q.names.lookup nm=B k->(k=.local\/k=.cell\/k=.free)->(env.kindOf nm=B .local\/iB (env.kindOf nm)=S):=by
   intro k n hkk;rcases cM nm with e|⟨_,e⟩
   ·rw[<-e,n]
    rcases hkk with rfl|rfl|rfl<;>trivial
   ·right;rw[e];rfl
  cases n:q.names.lookup nm with
  |none=>cases nm==("__classdict__")<;>exact .au
  |some k=>
   cases T:nm==("__classdict__")with
   |true=>
    induction k with
    |globalImplicit=>exact X n|_=>exact .au
   |false=>induction k with| «local»=>exact l T (FU _ n (.inl rfl))|cell=>exact l T (FU _ n (.inr (.inl rfl)))|free=>exact l T (FU _ n (.inr (.inr rfl)))|globalImplicit=>exact X n|_=>exact .au
noncomputable def rv(n:ah):Bool:= !KL (vP n)theorem nb(h:(!b)=S):¬b=true:=by induction b<;>trivial
noncomputable def a8{γ:Type}(b:aF)(x:U γ):U γ:=match b with|true=>x|false=>aa
theorem dn{p:Type}{x:U p}{d:p}(e:a8 b x=B d):b=S/\x=B d:=by induction b with|true=>exact⟨rfl,e⟩|false=>exact nn e
def tK(o:iM)(a b:ah):U D:=match o with|.Add=>B (.int (a+b))|.Sub=>B (.int (a-b))|.Mult=>a8 (aZ (ja a) 64||Nat.ble (ja b) 64) (B (.int (a*b)))|.FloorDiv=>a8 (!(b==0)&&!ts a b) (B (.int (a.fdiv b)))|.Mod=>a8 (!(b==0)) (B (.int (a.fmod b)))|.Div=>a8 (!(b==0)&&!KL (vO (decide (a<0) !=decide (b<0)) a.natAbs b.natAbs)) (B (.aS (vO (decide (a<0) !=decide (b<0)) a.natAbs b.natAbs)))|.Pow=>a8 (decide (0<=b)&&(!(b==0)&&(!(a==0||a==1)&&(!(a== -1)&&!Builtin.Int.intTooBig ((ja a:J)*b))))) (B (.int (a^b.toNat)))|.LShift=>a8 (decide (0<=b)&&decide ((ja a:ah)+b<=1000000)) (B (.int (a*2^b.toNat)))|.RShift=>a8 (decide (0<=b)) (B (.int (a.fdiv (2^b.toNat))))|.BitAnd=>B (.int (D6 a b))|.BitOr=>B (.int (Builtin.bitOr a b))|.BitXor=>B (.int (Builtin.bitXor a b))|_=>aa
def ng(o:iM)(a b:jL):U D:=match o with|.Add=>B (.aS (KJ a b))|.Sub=>B (.aS (Yu a b))|.Mult=>B (.aS (Yv a b))|.Div=>a8 (!DO b) (B (.aS (Yw a b)))|.Mod=>a8 (!DO b) (B (.aS (Yt a b).2))|_=>aa
noncomputable def mixed:iM->aF
 |.Add|.Sub|.Mult|.Div=>S|_=>aj
noncomputable def isAdd:iM->aF
 |.Add=>S|_=>aj
theorem FV(h:isAdd o=S):o=.Add:=by induction o<;>first|rfl|exact bw h
noncomputable def NV:iM->aF
 |.Mult=>S|_=>aj
noncomputable def ml(n:J):Bool:=aZ n 16777216
theorem FW(h:ml n=S):n<=sizeLine:=L vZ (b8 h)
def binI(o:iM)(a:ah):D->U D
 |.int b=>tK o a b|.aS b=>a8 (mixed o&&rv a) (ng o (vP a) b)|_=>aa
def FX(o:iM)(a:jL):D->U D
 |.aS b=>ng o a b|.int b=>a8 (mixed o&&rv b) (ng o a (vP b))|_=>aa
def FY(o:iM)(a:ai):D->U D
 |.str b=>a8 (isAdd o&&ml (a.length+b.length)) (B (.str (a++b)))|_=>aa
def FZ(o:iM)(a:H D):D->U D
 |.ae b=>a8 (isAdd o&&ml (O a+O b)) (B (.ae (a++b)))|.int k=>a8 (NV o&&(decide (0<=k)&&decide (k<=1000000)&&aL (O a) 1)) (B (.ae (hQ k.toNat a).flatten))|_=>aa
def F0(o:iM)(a:H D):D->U D
 |.aD b=>a8 (isAdd o&&(aZ 1 (O a)&&aZ 1 (O b)&&ml (O a+O b))) (B (.aD (a++b)))|_=>aa
def fW(o:iM):D->D->U D
 |.int a,y=>binI o a y|.aS a,y=>FX o a y|.str a,y=>FY o a y|.ae a,y=>FZ o a y|.aD a,y=>F0 o a y|_,_=>aa
theorem ach{a b:ah}(q:¬b<0)(h:Q (.int (a.fdiv (2^b.toNat)) s.toks) {s with toks:=s.toks+1}):aO (a5 prog w) A (kr .RShift (.int a t) (.int b u)) Q E s:=by
 by_cases D:b>=(ja a)
 ·with_reducible apply AutoIntOps.rshift_1 q D
  obtain e:a.fdiv (2^b.toNat)=if a<0 then-1 else 0:=by
   obtain R:ja a<=b.toNat:=by lia
   obtain c:a.natAbs<2^b.toNat:=by
    unfold ja at R;by_cases z:a=0
    ·refine L z ?_;exact Nat.pow_pos (by decide)
    ·rw[((beq_int_false z))]at R
     exact(K9 (Int.natAbs_ne_zero.mpr z)).mp (an1 R)
   apply Y (zc _ (vQ (Int.pow_pos (by decide))));split
   ·rename_i C
    exact Int.ediv_eq_neg_one_of_neg_of_le C (by lia)
   ·exact Int.ediv_eq_zero_of_lt (by lia) (by lia)
  rw[<-e];exact h
 ·with_reducible apply AutoIntOps.rshift_2 q D
  exact h
theorem aci(e:tK o a b=B d)(T:1<=s.toks)(h:∀v D,aV [] ⟨#[],{}⟩ v d->Q v {s with toks:=D}):aO (a5 prog w) A (kr o (.int a t) (.int b u)) Q E s:=by
 have k:∀{i:ah}(q:B _=B d)(t D),Q (.int i t) {s with toks:=D} :=λ q t D=>h _ _ (ax (ak q) (.int _ _));rcases o with _|_|_|_|_|_|_|_|_|_|_|_|_;case Add=>(with_reducible refine AutoIntOps.add_0 ?_);exact k e _ _
 case Sub=>(with_reducible refine AutoIntOps.sub_0 ?_);exact k e _ _
 case Mult=>
  have q:=dn e
  (with_reducible refine AutoIntOps.mul_0 ?_ (((lY _ _).mp q.1).elim (λ q=>IntMulOk.of_left (b8 q)) λ q=>IntMulOk.of_right (b8 q)));exact k q.2 _ _
 case FloorDiv=>
  have q:=dn e;have q1:=bo q.1
  (with_reducible refine AutoIntOps.floordiv_1 (nb q1.1) (nb q1.2) ?_);exact k q.2 _ _
 case Mod=>
  have q:=dn e
  (with_reducible refine AutoIntOps.mod_1 (nb q.1) ?_);exact k q.2 _ _
 case Div=>
  have q:=dn e;have q1:=bo q.1
  (with_reducible refine AutoIntOps.truediv_2 (nb q1.1) (nb q1.2) ?_);exact h _ _ (ax (ak q.2) (.aS _ _ (hM T)))
 case Pow=>
  have q:=dn e;have q1:=bo q.1;have R:=bo q1.2;have f:=bo R.2;have x:=bo f.2
  (with_reducible refine AutoIntOps.pow_4 (iN q1.1) (nb R.1) (nb f.1) (nb x.1) (nb x.2) ?_);exact k q.2 _ _
 case LShift=>
  have q:=dn e;have q1:=bo q.1
  (with_reducible refine lshift_int (iN q1.1) (zk (iN q1.2) (by lia)) ?_);exact k q.2 _ _
 case RShift=>
  have q:=dn e
  (with_reducible refine ach (K_.mpr (iN q.1)) ?_);exact k q.2 _ _
 case BitAnd=>(with_reducible refine and_int ?_);exact k e _ _
 case BitOr=>(with_reducible refine or_int ?_);exact k e _ _
 case BitXor=>(with_reducible refine xor_int ?_);exact k e _ _
 all_goals exact nn e
theorem acj(e:ng o a b=B d)(T:1<=s.toks)(h:∀v D,aV [] ⟨#[],{}⟩ v d->Q v {s with toks:=D}):aO (a5 prog w) A (kr o (.float a t) (.float b u)) Q E s:=by
 have k:∀{i:jL}(q:B _=B d) D,Q (.float i s.toks) {s with toks:=D} :=λ q D=>h _ _ (ax (ak q) (.aS _ _ (hM T)));rcases o with _|_|_|_|_|_|_|_|_|_|_|_|_;case Add=>(with_reducible refine AutoFloatOps.add_0 ?_);exact k e _
 case Sub=>(with_reducible refine AutoFloatOps.sub_0 ?_);exact k e _
 case Mult=>(with_reducible refine AutoFloatOps.mul_0 ?_);exact k e _
 case Div=>
  have q:=dn e
  (with_reducible refine AutoFloatOps.truediv_1 (nb q.1) ?_);exact k q.2 _
 case Mod=>
  have q:=dn e
  (with_reducible refine AutoFloatOps.mod_1 (nb q.1) ?_);exact k q.2 _
 all_goals exact nn e
theorem ack(p:mixed o=S)(M:rv b=S)(e:ng o a (vP b)=B d)(T:1<=s.toks)(h:∀v F,aV [] ⟨#[],{}⟩ v d->Q v {s with toks:=F}):
  aO (a5 prog w) A (kr o (.float a t) (.int b u)) Q E s:=by
 have k:∀{i:jL}(q:B _=B d) F,Q (.float i s.toks) {s with toks:=F} :=λ q F=>h _ _ (ax (ak q) (.aS _ _ (hM T)));have n:=nb M;rcases o with _|_|_|_|_|_|_|_|_|_|_|_|_;case Add=>(with_reducible refine AutoFloatOps.add_fi_1 n ?_);exact k e _
 case Sub=>(with_reducible refine AutoFloatOps.sub_fi_1 n ?_);exact k e _
 case Mult=>(with_reducible refine AutoFloatOps.mul_fi_1 n ?_);exact k e _
 case Div=>
  have q:=dn e
  (with_reducible refine AutoFloatOps.truediv_fi_2 n (nb q.1) ?_);exact k q.2 _
 all_goals exact bw p
theorem acm(p:mixed o=S)(M:rv a=S)(e:ng o (vP a) b=B d)(T:1<=s.toks)(h:∀v F,aV [] ⟨#[],{}⟩ v d->Q v {s with toks:=F}):
  aO (a5 prog w) A (kr o (.int a t) (.float b u)) Q E s:=by
 have k:∀{i:jL}(q:B _=B d) F,Q (.float i s.toks) {s with toks:=F} :=λ q F=>h _ _ (ax (ak q) (.aS _ _ (hM T)));have n:=nb M;rcases o with _|_|_|_|_|_|_|_|_|_|_|_|_;case Add=>(with_reducible refine AutoFloatOps.add_if_1 n ?_);exact k e _
 case Sub=>(with_reducible refine AutoFloatOps.sub_if_1 n ?_);exact k e _
 case Mult=>(with_reducible refine AutoFloatOps.mul_if_1 n ?_);exact k e _
 case Div=>
  have q:=dn e
  (with_reducible refine AutoFloatOps.truediv_if_2 n (nb q.1) ?_);exact k q.2 _
 all_goals exact bw p
theorem acn{vs W:H aq}(z:IsL s.heap l vs)(q:IsL s.heap b W)(I:O vs+O W<=ku)
  (h:Q (.ref s.heap.objs.size) {s with heap:=s.heap.push {cls:=.type "list",data:=.seq (vs++W).toArray} }):aO (a5 prog w) A (kr .Add (.ref l) (.ref b)) Q E s:=by
 refine a7 z λ n i=>?_;obtain⟨N,G⟩:=q;refine concat_meets (⟨_,i,rfl⟩) (⟨_,G,rfl⟩) noFill_list_add seq_list_add PySem.F.slot_list_add PySem.F.entry_list_add (PySem.F.args_list_add_2 _ _) (list_addW l b vs.toArray W.toArray n N aa aa #[] #[] (kdl_size I)) ⟨i,G,?_⟩;rw[((an6 ..))];exact h
theorem aco(z:IsT s.heap l vs)(q:IsT s.heap b W)(X:vs≠ [])(j:W≠ [])(I:O vs+O W<=ku)
  (h:Q (.ref s.heap.objs.size) {s with heap:=s.heap.push {cls:=.type "tuple",data:=.seq (vs++W).toArray} }):aO (a5 prog w) A (kr .Add (.ref l) (.ref b)) Q E s:=by
 refine a7 z λ n i=>a7 q λ N G=>concat_meets (⟨_,i,rfl⟩) (⟨_,G,rfl⟩) noFill_tuple_add seq_tuple_add PySem.F.slot_tuple_add PySem.F.entry_tuple_add (PySem.F.args_tuple_add_2 _ _) (tuple_addW2 l b vs.toArray W.toArray n N aa aa #[] #[] ?_ ?_ (kdl_size I)) ?_
 ·simpa using X
 ·simpa using j
 ·refine⟨i,G,?_⟩
  rw[((an6 ..))];exact h
theorem NW(z:IsL s.heap l vs)(p:0<=x)(W:O vs=1)(j:x<=1000000)
  (h:Q (.ref s.heap.objs.size) {s with heap:=s.heap.push {cls:=.type "list",data:=.seq (hQ x.toNat vs).flatten.toArray} }):aO (a5 prog w) A (kr .Mult (.ref l) (.int x u)) Q E s:=by
 refine a7 z λ k z=>?_;obtain t1:s.TypeIs (.ref l) "list" :=⟨_,z,rfl⟩;refine wpAny_binaryOp_repeat_ref rfl t1 (λ s'=>typeIs_int s' x u) noFill_list_mul F.fills_int_mul F.slot_int_rmul repeat_list F.slot_int_index.lookup (D7 F.slot_int_rmul rfl F.entry_int_rmul (F.args_int_rmul_2 _ _) (int___rmul___int_list x u l vs.toArray k) ⟨z,rfl,⟨_,z,rfl⟩,D7 F.slot_list_mul t1 F.entry_list_mul (F.args_list_mul_2 _ _) (AutoListH.list___mul___list_int_3 l vs.toArray k x u ?_ ?_ ?_) ?_⟩)
 ·simp[Builtin.List.listFitsIndex];lia
 ·simp[W];lia
 ·simp[an7,ku,W];lia
 refine⟨z,?_⟩;obtain e:=by exact array_of_toList (aM Array.toList (listMul_foldl_if vs.toArray x.toNat))
 rw[e];exact h
theorem bQ.flatten(r:bT X h vs xs):∀k:J,bT X h (hQ k vs).flatten (hQ k xs).flatten
 |0=>.nil|k+1=>by simpa [YM]using r.append (r.flatten k)
theorem aV.acp(r:aV [] ⟨#[],{}⟩ v d):aV X h v d:=
 r.mono λ b o e u=>by have:(⟨#[],{}⟩:aX).get? b=Option.none:=rfl;rw[this]at e;exact nn e
theorem c0.lt(r:c0 P X α h as m):∀a∈as,a<h.objs.size:=by
 induction r with
 |nil=>intro a c;cases c
 |cons a _ i=>
  intro b q;rcases dM.mp q with rfl|q
  ·exact a.lt
  ·exact i b q
theorem aG.nz(I:aG g x α σ h)(c:a∈x.P++α):a<h.objs.size:=by
 rcases bB.mp c with q|q
 ·exact a7 (I.alive _ q) λ o=>dI
 ·exact I.bM.lt _ q
theorem aG.fresh(I:aG g x α σ h):h.objs.size∉x.P++α:=λ q=>aR (I.nz q) (hu _)abbrev NX(x:bD):H ao->aX->aq->D->Prop:=λ α h v r=>aV (x.P++α) h v r
inductive RD(X:H ao)(h:aX):aq->D->Prop
 |rep {v d} :aV X h v d->RD X h v d
 |ae {a vs xs} :IsL h a vs->bT X h vs xs->RD X h (.ref a) (.ae xs)def RDI(X:H ao)(h:aX)(v:aq)(d:D):Prop:=match d with|.ae xs=>∃a vs,v=.ref a/\IsL h a vs/\bT X h vs xs|d=>NN X h v d
theorem RD.inv(r:RD X h v d):RDI X h v d:=by
 rcases r with r|⟨e,r⟩
 ·obtain r:=r.inv
  rcases d with _|b|i|u|s|n|n|a|xs|xs|⟨c,xs⟩;case ae=>exact eg r λ a vs e _ l r=>(bh a vs ⟨e,l,r⟩)
  all_goals exact r
 ·exact(bh _ _ ⟨rfl,e,r⟩)theorem RD.mm(r:RD X h v (.ae xs)):∃a vs,v=.ref a/\IsL h a vs/\bT X h vs xs:=r.inv
theorem Aw(D:aG g x α σ h)(o:fe)(r:bT (x.P++α) h v d):bT (x.P++α) (h.push o) v d:=
 r.mono λ u u e n=>⟨dy _ e,n⟩
def hl(x:bD)(α:H ao)(s:aU)(Q:aq->aU->Prop)(d:D):Prop:=
 ∀(b:aq)(h':aX)(T:J),(∀b o,s.heap.get? b=B o->h'.get? b=B o)->s.heap.objs.size<=h'.objs.size->aV (x.P++α) h' b d->Q b (cT s h' T)theorem hl.plain(h:hl x α s Q d):∀v t,aV [] ⟨#[],{}⟩ v d->Q v {s with toks:=t} :=λ v t r=>h v s.heap t (λ u u e=>e) (bH _) r.acp
theorem hl.F1(h:hl x α s Q (.ae xs))(I:aG g x α σ s.heap)(r:bT (x.P++α) s.heap vs xs):
  Q (.ref s.heap.objs.size) {s with heap:=s.heap.push {cls:=.type "list",data:=.seq vs.toArray} } :=
 h _ _ s.toks (λ u u=>dy _) (L (et ..) (hg _)) (.ae I.fresh ⟨0,d0 _ rfl⟩ (Aw I _ r))
theorem hl.NY(h:hl x α s Q (.aD xs))(I:aG g x α σ s.heap)(r:bT (x.P++α) s.heap vs xs):
  Q (.ref s.heap.objs.size) {s with heap:=s.heap.push {cls:=.type "tuple",data:=.seq vs.toArray} } :=
 h _ _ s.toks (λ u u=>dy _) (L (et ..) (gK s.heap.objs.size 1)) (.aD I.fresh ⟨0,d0 _ rfl⟩ (Aw I _ r))theorem RD.bool(r:RD X h v (.bool a)):v=.bool a:=r.inv
theorem RD.int(r:RD X h v (.int a)):∃t,v=.int a t:=r.inv
theorem RD.aS(r:RD X h v (.aS a)):∃t,v=.float a t/\t≠0:=r.inv
theorem RD.str(r:RD X h v (.str a)):∃t,v=.str a t:=r.inv
theorem RD.t9(r:RD X h v (.aD xs)):∃a vs,v=.ref a/\IsT h a vs/\bT X h vs xs:=eg r.inv λ a vs e _ l r=>(bh a vs ⟨e,l,r⟩)
theorem acq{g:bX}(T:1<=s.toks)(h:hl x α s Q d)(P:RD (x.P++α) s.heap v (.int a))(p:RD (x.P++α) s.heap u b)(e:binI o a b=B d):aO (a5 g.prog g.w) x.A (kr o v u) Q E s:=by
 refine a7 P.int λ t W=>L W ?_;rcases b with _|_|b|b|_|_|_|_|_|_|⟨_,_⟩;case int=>obtain⟨t,rfl⟩:=p.int;have j:tK o a b=B d:=e;with_reducible exact aci j T h.plain
 case aS=>refine av p.aS λ t w z=>L w ?_;obtain⟨q,e⟩:=dn e;obtain⟨q1,R⟩:=bF.mp q;with_reducible exact acm q1 R e T h.plain
 all_goals exact nn e
theorem acr{g:bX}(T:1<=s.toks)(h:hl x α s Q d)(K:RD (x.P++α) s.heap v (.aS a))(p:RD (x.P++α) s.heap u b)(e:FX o a b=B d):aO (a5 g.prog g.w) x.A (kr o v u) Q E s:=by
 refine av K.aS λ t w z=>L w ?_;rcases b with _|_|b|b|_|_|_|_|_|_|⟨_,_⟩;case aS=>refine av p.aS λ t W z=>L W ?_;have j:ng o a b=B d:=e;with_reducible exact acj j T h.plain
 case int=>refine a7 p.int λ t P=>L P ?_;obtain⟨q,e⟩:=dn e;refine cq (bF.mp q) λ q1 R=>?_;with_reducible exact ack q1 R e T h.plain
 all_goals exact nn e
theorem acs{g:bX}(h:hl x α s Q d)(p:RD (x.P++α) s.heap v (.str a))(P:RD (x.P++α) s.heap u b)(e:FY o a b=B d):aO (a5 g.prog g.w) x.A (kr o v u) Q E s:=by
 refine a7 p.str λ t w=>L w ?_;rcases b with _|_|_|_|b|_|_|_|_|_|⟨_,_⟩;case str=>refine a7 P.str λ t W=>L W ?_;obtain⟨q,f⟩:=dn e;clear e;refine cq (bF.mp q) λ q1 R=>L (FV q1) ?_;obtain rfl:=ak f;with_reducible exact add_str (λ C T=>h.plain _ T (.str _ _)) (FW R)
 all_goals exact nn e
theorem acu(I:aG g x α σ s.heap)(G:hl x α s Q d)(P:RD (x.P++α) s.heap v (.ae a))(p:RD (x.P++α) s.heap u b)(e:FZ o a b=B d):aO (a5 g.prog g.w) x.A (kr o v u) Q E s:=by
 refine e4 P.mm λ l vs w z m=>L w ?_;rcases b with _|_|k|_|_|_|_|_|b|_|⟨_,_⟩;case ae=>refine e4 p.mm λ n T W h r=>L W ?_;obtain⟨q,f⟩:=dn e;clear e;refine cq (bF.mp q) λ q1 R=>L (FV q1) ?_;obtain rfl:=ak f;with_reducible exact acn z h (L m.length (L r.length (FW R))) (G.F1 I (m.append r))
 case int=>refine a7 p.int λ t N=>L N ?_;obtain⟨q,f⟩:=dn e;clear e;refine cq (bF.mp q) λ q1 R=>?_;obtain⟨R,X⟩:=bF.mp R;obtain⟨y,j⟩:=bF.mp R;refine L (show o=.Mult from by induction o<;>first|rfl|exact bw q1) ?_;obtain rfl:=ak f;with_reducible exact NW z (iN y) (L m.length (dE X)) (iN j) (G.F1 I (m.flatten _))
 all_goals exact nn e
theorem acv(I:aG g x α σ s.heap)(G:hl x α s Q d)(P:RD (x.P++α) s.heap v (.aD a))(V:RD (x.P++α) s.heap u b)(e:F0 o a b=B d):aO (a5 g.prog g.w) x.A (kr o v u) Q E s:=by
 refine e4 P.t9 λ l vs w c R=>L w ?_;rcases b with _|_|_|_|_|_|_|_|_|b|⟨_,_⟩;case aD=>refine e4 V.t9 λ n A W h r=>L W ?_;obtain⟨q,f⟩:=dn e;clear e;obtain⟨q1,T⟩:=bF.mp q;obtain⟨T,j⟩:=bF.mp T;obtain⟨p,X⟩:=bF.mp T;obtain p:=b8 p;obtain X:=b8 X;refine L (FV q1) ?_;obtain rfl:=ak f;with_reducible exact aco c h (λ z=>by subst z;have:=R.length;simp at this;lia) (λ z=>by subst z;have:=r.length;simp at this;lia) (L R.length (L r.length (FW j))) (G.NY I (R.append r))
 all_goals exact nn e
theorem acw(o:iM)(v u:aq)(a b:D):
  ag g x (λ α h=>RD (x.P++α) h v a/\RD (x.P++α) h u b) (NX x) (kr o v u) (.of (fW o a b)):=by
 cases e:fW o a b with
 |none=>exact .au
 |some d=>
  refine ag.wp λ α σ s I t p Q E G=>?_;obtain⟨P,R⟩:=p;obtain G:hl x α s Q d:=G;rcases a with _|_|a|a|a|_|_|_|a|a|⟨_,_⟩;case int=>have j:binI o a b=B d:=e;with_reducible exact acq t G P R j
  case aS=>have j:FX o a b=B d:=e;with_reducible exact acr t G P R j
  case str=>have j:FY o a b=B d:=e;with_reducible exact acs G P R j
  case ae=>have j:FZ o a b=B d:=e;with_reducible exact acu I G P R j
  case aD=>have j:F0 o a b=B d:=e;with_reducible exact acv I G P R j
  all_goals exact nn e
mutual
noncomputable def g5:J->D->D->U aF
 |0,_,_=>aa
 |n+1,d,e=>match d with
  |.none=>match e with|.none=>B S|_=>aa
  |.bool a=>match e with|.bool b=>B (a==b)|_=>aa
  |.int a=>match e with|.int b=>B (a==b)|.aS b=>B (tu b a==B .eq)|_=>aa
  |.str a=>match e with|.str b=>B (a==b)|_=>aa
  |.aS a=>match e with|.aS b=>a8 (oh a b==B .eq) (B S)|.int b=>B (tu a b==B .eq)|_=>aa
  |.ae a=>match e with|.ae b=>jo n a b|_=>aa
  |.aD a=>match e with|.aD b=>jo n a b|_=>aa
  |_=>aa
noncomputable def jo:J->H D->H D->U aF
 |0,_,_=>aa|n+1,xs,fg=>match xs,fg with|[],[]=>B S|[],_::_=>B aj|_::_,[]=>B aj|x::xs,y::fg=>match g5 n x y,jo n xs fg with|some a,B b=>B (a&&b)|_,_=>aa
end
theorem NZ(e:jo (n+1) (x::xs) (y::fg)=B c){G:Prop}(k:∀a b,g5 n x y=B a->jo n xs fg=B b->(a&&b)=c->G):G:=
 by
 refine eD _ (λ W=>?_) λ a W=>eD _ (λ h=>?_) λ b h=>k a b W h ?_
 all_goals
  have e:(match g5 n x y,jo n xs fg with|some a,B b=>B _|_,_=>aa)=B c:=e;rw[W]at e
 ·exact nn e
 ·rw[h]at e;exact nn e
 ·rw[h]at e;exact ak e
inductive kF(n:J):D->D->aF->Prop
 |none:kF n .none .none S
 |bool (a b:aF):kF n (.bool a) (.bool b) (a==b)
 |int (a b:ah):kF n (.int a) (.int b) (a==b)
 |N0 (a:ah) (b:jL):kF n (.int a) (.aS b) (tu b a==B .eq)
 |str (a b:ai):kF n (.str a) (.str b) (a==b)
 |aS (a b:jL):(oh a b==B .eq)=S->kF n (.aS a) (.aS b) S
 |N1 (a:jL) (b:ah):kF n (.aS a) (.int b) (tu a b==B .eq)
 |ae {xs fg:H D} {b:aF} :jo n xs fg=B b->kF n (.ae xs) (.ae fg) b
 |aD {xs fg:H D} {b:aF} :jo n xs fg=B b->kF n (.aD xs) (.aD fg) b
theorem Ax(q:g5 (n+1) d e=B b):kF n d e b:=by
 obtain z:∀{c:aF}{d e:D},B c=B b->kF n d e c->kF n d e b:=λ h=>ax (ak h);rcases d with _|a|a|a|a|_|_|_|a|a|⟨_,_⟩;case none=>cases e with|none=>exact z q .none|_=>exact nn q
 case bool=>cases e with|bool b=>exact z q (.bool a b)|_=>exact nn q
 case int=>cases e with|int b=>exact z q (.int a b)|aS b=>exact z q (.N0 a b)|_=>exact nn q
 case str=>cases e with|str b=>exact z q (.str a b)|_=>exact nn q
 case aS=>cases e with|aS b=>exact z (dn q).2 (.aS a b (dn q).1)|int b=>exact z q (.N1 a b)|_=>exact nn q
 case ae=>cases e with|ae b=>exact .ae q|_=>exact nn q
 case aD=>cases e with|aD b=>exact .aD q|_=>exact nn q
 all_goals exact nn q
theorem F2{h:aX}{vs ws:H aq}(e:h.get? a=B {cls:=c,data:=.seq vs.toArray m})(E:h.get? a=B {cls:=c,data:=.seq ws.toArray n}):vs=ws:=by obtain q:=ak (Y e.symm E);injection q with _ _ q;injection q with q;exact aM Array.toList q
theorem N2(n:J):(∀(v:aq)(d e:D)(b:aF),aV X h v d->aV X h v e->g5 n d e=B b->b=S)/\
  (∀(vs:H aq)(d e:H D)(b:aF),bT X h vs d->bT X h vs e->jo n d e=B b->b=S):=by
 induction n with
 |zero=>exact⟨λ _ _ _ _ _ _ e=>nn e,λ _ _ _ _ _ _ e=>nn e⟩
 |succ n i=>
  refine⟨λ v d e b R r q=>?_,λ vs d e b R r q=>?_⟩
  ·have k:=λ xs V b q vs K m=>i.2 vs xs V b K m q
   refine kF.rec (λ _ _=>rfl) (λ a b R r=>cI.mpr (Value.bool.inj (Y R.symm r)))
    (λ a b R r=>a7 R λ t W=>a7 r λ T j=>cI.mpr (Value.int.inj (Y W.symm j)).1)
    (λ a b R r=>a7 R λ t W=>av r λ T j _=>nomatch W.symm.trans j)
    (λ a b R r=>a7 R λ t W=>a7 r λ T j=>cI.mpr (Value.str.inj (Y W.symm j)).1)
    (λ a b _ _ _=>rfl)
    (λ a b R r=>av R λ t W _=>a7 r λ T j=>nomatch W.symm.trans j)
    (λ q R r=>?_) (λ q R r=>?_) (Ax q) R.inv r.inv
   ·exact eg R λ a vs E _ l K=>eg r λ c w f _ o m=>a7 l λ N W=>a7 o λ P j=>k _ _ _ q vs K (F2 (YN (Y E.symm f)▸W) j▸m)
   ·exact eg R λ a vs E _ l K=>eg r λ c w f _ o m=>a7 l λ N W=>a7 o λ P j=>k _ _ _ q vs K (F2 (YN (Y E.symm f)▸W) j▸m)
  ·rcases R with _|⟨a,as⟩
   ·rcases r with _|_
    exact(ak q).symm
   ·rcases r with _|⟨c,cs⟩
    exact NZ q λ x y E f u=>ax u (L (i.1 _ _ _ _ a c E) (L (i.2 _ _ _ _ as cs f) rfl))
theorem EqAt.aS(r:t≠0)(X:u≠0)(q:tv s.heap)(h:(oh a b==B .eq)=S):EqAt A s (.float a t) (.float b u) true:=λ prog w E Q G=>by
 refine D8 (λ y=>aB (tr (bl G))) (λ y=>?_);obtain l:aO (a5 prog w) A (do YO (<-La .Eq (.float a t) (.float b u))) Q E s:=by exact aB (AutoFloatOps.eq_0 (ax h.symm (YP G)))
 refine aB (wpAny_ite (L (show(t==0||u==0)=aj by simp[r,X]) ?_));have f:∀z:aF,aO (a5 prog w) A (if z=S then(pure S)else(do YO (<-La .Eq (.float a t) (.float b u)))) Q E s:=by intro z;induction z with|true=>exact bl G|false=>exact l
 refine D8 (λ z=>bl (f S)) λ z=>D8 (λ z=>bl (f aj)) λ z=>?_;exact aB (an8 q (aB (an8 q (aB (tr (aB (wpAny_askSetting (bl (f _)))))))))
theorem N3(M:(a==b)=aj)
  (N:∀(u v:jL)(t T:Tok),¬(a=.float u t/\b=.float v T))(h:RcAt A s a b c)(G:Q c s):aO (a5 prog w) A (eqBool a b) Q E s:=by
 refine dT (D8 (λ m=>aR m (L M hN)) (λ z=>?_));obtain l:aO _ A (do YO (<-La .Eq a b)) Q E s:=aB (h prog w E _ (YP G));induction a with
 |float u t=>induction b with
  |float v T=>exact aR ⟨rfl,rfl⟩ (N u v t T)|_=>exact l
 |_=>exact l
theorem EqAt.acx:EqAt A s (.float a t) (.int b u) (tu a b==B .eq):=λ prog w E Q h=>N3 rfl (λ z z z z=>by simp) (λ prog w E Q=>eq_fi) h
theorem EqAt.if:EqAt A s (.int b u) (.float a t) (tu a b==B .eq):=λ prog w E Q h=>N3 rfl (λ z z z z=>(of_decide_eq_false rfl)) (λ prog w E Q=>eq_if) h
theorem F3:∀(n:J)(xs V:H D)(c:aF),jo n xs V=B c->∃p:J->aF,c=((aw (min (O xs) (O V))).all p&&O xs==O V)/\
  ∀j x y,xs[j]?=B x->V[j]?=B y->∃m,m<n/\g5 m x y=B (p j)
 |0,_,_,_,e=>nn e|n+1,[],[],c,e=>ax (ak e) ⟨λ u=>S,by rfl,λ j x y h u=>by simp at h⟩|n+1,[],_::_,c,e=>ax (ak e) ⟨λ u=>S,by rfl,λ j x y h u=>by simp at h⟩|n+1,_::_,[],c,e=>ax (ak e) ⟨λ u=>S,by rfl,λ j x y u h=>by simp at h⟩
 |n+1,x::xs,y::V,c,e=>by
  refine NZ e λ a b E f A=>(av (F3 n xs V b f) λ p v z=>⟨λ j=>j.casesOn a p,?_,λ j I K W k=>?_⟩)
  ·simp only[<-A,v]
   simp only[gy,Nat.succ_min_succ,an9,anP,YQ,Bool.and_assoc];congr 2;simp
  ·induction j with|zero=>exact⟨n,ko n,ak W▸ak k▸E⟩|succ j=>exact av (z j I K W k) λ m q r=>(⟨m,kn q,r⟩)
theorem bQ.at'(r:bT X h vs xs)(s:i<O vs):∃x,xs[i]?=B x/\aV X h vs[i] x:=by
 have z:=r.length;have K:xs[i]?=B (xs[i]'(an_ s z)):=by simp
 exact av (r.get K) λ v e R=>⟨_,K,(by simpa [s]using e)▸R⟩
def t_(A:m8)(s:aU)(n:J)(X:H ao):Prop:=
 ∀(d e:D)(b:aF)(v u:aq),g5 n d e=B b->aV X s.heap v d->aV X s.heap u e->EqAt A s v u b
theorem N4(i:∀m,m<n->t_ A.in1 s m X)(C:A.units<rk)
  (e:jo n xs fg=B b)(z:IsL s.heap l vs)(R:bT X s.heap vs xs)(E:IsL s.heap r W)(D:bT X s.heap W fg):
  RcAt A s (.ref l) (.ref r) b/\RcNeAt A s (.ref l) (.ref r) (!b):=by
 refine av (F3 _ _ _ _ e) λ p w v=>L w ?_;have N:=R.length;obtain P:=D.length;by_cases h:O xs=O fg
 ·obtain u:((aw (min (O xs) (O fg))).all p&&O xs==O fg)=(aw vs.toArray.size).all p:=by simp[h,N]
  have a:∀j F (k:j<W.toArray.size),EqAt A.in1 s vs.toArray[j] W.toArray[j] (p j):=by exact λ j F k=>av (R.at' _) λ x K c=>(av (D.at' _) λ y Q G=>av (v j x y K Q) λ m t q=>(i m t _ _ _ _ _ q c G))
  exact L u ⟨RcAt.lists z.isList E.isList (by simp;lia) C a,RcNeAt.lists z.isList E.isList (by simp;lia) C a⟩
 ·have u:((aw (min (O xs) (O fg))).all p&&O xs==O fg)=false:=by simp[h]
  refine L u ?_;obtain M:(vs.toArray.size !=W.toArray.size)=true:=by simp;lia
  exact⟨RcAt.lists_lengths z.isList E.isList M C,RcNeAt.lists_lengths z.isList E.isList M C⟩
theorem N5(i:∀m,m<n->t_ A.in1 s m X)(h:A.units<rk)
  (e:jo n xs fg=B b)(z:IsT s.heap l vs)(R:bT X s.heap vs xs)(E:IsT s.heap r w)(D:bT X s.heap w fg):
  RcAt A s (.ref l) (.ref r) b/\RcNeAt A s (.ref l) (.ref r) (!b):=by
 refine av (F3 _ _ _ _ e) λ p W u=>L W ?_;obtain a:∀j C (k:j<w.toArray.size),EqAt A.in1 s vs.toArray[j] w.toArray[j] (p j):=by exact λ j C k=>av (R.at' _) λ x K v=>(av (D.at' _) λ y Q G=>av (u j x y K Q) λ m t q=>(i m t _ _ _ _ _ q v G))
 exact L (show((aw _).all p&&O xs==O fg)=((aw _).all p&&vs.toArray.size==w.toArray.size) by simp[R.length,D.length]) ⟨RcAt.tuples z.iV E.iV h a,RcNeAt.tuples z.iV E.iV h a⟩theorem un(h:u+n<c)(k:m<n):u+1+m<c:=gg (L (Lb u m) (og k u)) h
theorem F4:∀(n:J)(A:m8)(s:aU),tv s.heap->A.units+n<rk->t_ A s n X:=by
 intro n;induction n using aoa with
 |_ n P=>
  intro A s w C d e b v u q r R;rcases n with _|n;case zero=>exact nn q
  case succ=>
   obtain p:=λ m x=>P m (kn x) A.in1 s w (un C (kn x));have i:=r.inv;have I:=R.inv;obtain g:=gg (gK ..) C;induction Ax q with
   |none=>exact i▸I▸EqAt.same _|bool a b=>exact L i (L I (EqAt.bool_bool a b))|int a b=>let ⟨t,W⟩:=i;let ⟨T,j⟩:=I;exact L W (L j (EqAt.int_int a t b T))|N0 a b=>let ⟨t,W⟩:=i;let ⟨T,j,_⟩:=I;exact L W (L j EqAt.if)|str a b=>let ⟨t,W⟩:=i;let ⟨T,j⟩:=I;exact L W (L j (EqAt.str_str a t b T))|aS a b G=>let ⟨t,W,N⟩:=i;let ⟨T,j,V⟩:=I;exact L W (L j (EqAt.aS N V w G))|N1 a b=>let ⟨t,W,_⟩:=i;let ⟨T,j⟩:=I;exact L W (L j EqAt.acx)
   |ae Q=>
    obtain⟨a,vs,E,_,o,k⟩:=i;obtain⟨c,D,f,_,l,K⟩:=I;by_cases h:a=c
    ·rw[(N2 _).1 _ _ _ _ r (Y E (h▸f.symm)▸R) q,E,f,h]
     exact EqAt.same _
    ·rw[E,f]
     exact EqAt.of_refs h (N4 p g Q o k l K).1
   |aD Q=>
    obtain⟨a,vs,E,_,o,k⟩:=i;obtain⟨c,D,f,_,l,K⟩:=I;by_cases h:a=c
    ·rw[(N2 _).1 _ _ _ _ r (Y E (h▸f.symm)▸R) q,E,f,h]
     exact EqAt.same _
    ·rw[E,f]
     exact EqAt.of_refs h (N5 p g Q o k l K).1
noncomputable def mn:D->aF
 |.none|.bool _|.int _|.str _=>S|_=>aj
noncomputable def dOf(v:aq):U D:=match v with|.none=>B .none|.bool b=>B (.bool b)|.int i _=>B (.int i)|.str s _=>B (.str s)|_=>aa
theorem aV.N6(r:aV X h v d):dOf v=cond (Internal.mn d) (B d) Option.none:=by cases r<;>rfl
theorem aV.mn(r:aV X h v d)(R:aV X h v wQ)(l:mn d=S):wQ=d:=
 have e:=(Y r.N6 (aM (λ b=>cond b _ _) l)).symm.trans R.N6
 dO _ (λ h=>ak ((Y e (aM (λ b=>cond b _ _) h)).symm)) λ h=>nn (Y e (aM (λ b=>cond b _ _) h)).symm
theorem bQ.mn(r:bT X h vs xs):bT X h vs y->xs.all Internal.mn=S->y=xs:=
 r.ind (P:=λ vs xs=>∀y,bT X h vs y->xs.all Internal.mn=S->y=xs) (λ y q u=>zv q.length.symm) (λ v vs x xs a u i y q h=>by
  cases q with
  |cons b q=>rw[a.mn b (bo h).1,i _ q (bo h).2]) y
def F5(d:D):Bool:=match d with|.ae xs=>xs.all mn|_=>mn d
theorem aV.simp(r:aV X h v d)(R:aV X h v i)(l:F5 d=S)(e:g5 n d y=B b)(E:g5 n i y=B c):i=d:=by
 rcases d with _|_|_|_|_|_|_|_|xs|_|⟨_,_⟩;case ae=>cases n with|zero=>exact nn e|succ n=>cases Ax e with|ae=>cases Ax E with|ae=>refine eg r.inv λ u u N u W k=>?_;obtain⟨_,A⟩:=W;refine eg R.inv λ u u T u w K=>?_;obtain⟨_,j⟩:=w;injection N.symm.trans T with h;exact aM D.ae (k.mn ((F2 (h▸A) j).symm▸K) l)
 all_goals exact r.mn R l
def jZ(n:J)(bS:H D)(cG:D):U Bool:=bS.rec (motive:=λ u=>D->U aF) (λ u=>B aj) (λ x xs dF y=>bR (F5 x) ((g5 n x y).bind λ a=>(dF y).map (a|| ·))) cG
theorem wR(M:t_ A s n X)(R:aV X s.heap x y):
  ∀(vs:H aq)(xs:H D)(c:aF),bT X s.heap vs xs->jZ n xs y=B c->∃e:aq->aF,vs.any e=c/\∀v∈vs,EqAt A s v x (e v)/\∃d,aV X s.heap v d/\F5 d=S/\g5 n d y=B (e v)
 :=by
  intro vs;induction vs with
  |nil=>intro xs c r q;cases r;exact⟨λ w=>aj,ak q,λ w h=>aR h dS⟩
  |cons v vs I=>
   intro xs c r q;rcases r with _|⟨a,r⟩;refine bN q λ b q=>b3 q λ mq E q=>(av (hR.mp q) λ c4 g V=>av (I _ c4 r g) λ e j f=>?_);have one:∀{u},u∈vs->u=v->e u=mq:=λ{u} C F=>by obtain⟨_,d,W,G,i⟩:=f u C;exact ak (((aV.simp a (ax F W) b E i)▸i).symm.trans E)
   obtain k:∀u∈vs,(if u=v then mq else e u)=e u:=λ u C=>by
    by_cases F:u=v
    ·rw[bC F,one C F]
    ·exact(a6 F)
   refine⟨λ u=>if u=v then mq else e u,?_,λ u C=>?_⟩
   ·simp[D9,bC rfl,<-V,<-j]
    congr 1;rw[DK,Lc,Lc];exact⟨λ z=>av z λ u C h=>⟨u,C,ax (k u C) h⟩,λ z=>av z λ u C h=>⟨u,C,L (k u C) h⟩⟩
   ·dsimp only
    by_cases F:u=v
    ·exact L (bC F) (L F ⟨M _ _ _ _ _ E a R,_,a,b,E⟩)
    ·exact L (a6 F) (f u ((dM.mp C).resolve_left F))noncomputable def g6:Nat:=60
noncomputable def N7(o:eR)(a b:ah):U Bool:=match o with|.Lt=>B (decide (a<b))|.LtE=>B (decide (a<=b))|.Gt=>B (decide (b<a))|.GtE=>B (decide (b<=a))|.Eq=>B (a==b)|.NotEq=>B (a !=b)|_=>aa
noncomputable def rx(o:eR)(a b:jL):U Bool:=match o with|.Lt=>B (oh a b==B .lt)|.LtE=>B (oh a b==B .lt||Float64.cmp a b==B .eq)|.Gt=>B (oh a b==B .gt)|.GtE=>B (oh a b==B .gt||Float64.cmp a b==B .eq)|.Eq=>B (oh a b==B .eq)|.NotEq=>B (oh a b !=B .eq)|_=>aa
noncomputable def acy(o:eR)(a b:ai):U Bool:=match o with|.Lt=>B (decide (a.cps.toList<b.cps.toList))|.Eq=>B (a==b)|.NotEq=>B (a !=b)|.In=>B (!(Ld b a 0 b.length 1).isEmpty)|.NotIn=>B (!(!(Ld b a 0 b.length 1).isEmpty))|_=>aa
noncomputable def isNone:D->aF
 |.none=>S|_=>aj
def F6(o:eR)(a b:D):U Bool:=match o with|.Eq=>g5 g6 a b|.NotEq=>(g5 g6 a b).map (!·)|_=>aa
def F7(o:eR)(xs:H D)(a:D):U Bool:=match o with|.In=>jZ g6 xs a|.NotIn=>(jZ g6 xs a).map (!·)|_=>aa
def F8(o:eR)(a:D):U Bool:=match o with|.Is=>B (isNone a)|.IsNot=>B (!isNone a)|_=>aa
noncomputable def F9(o:eR)(a b:b1):U Bool:=match o with|.Is=>B (D_ a==D_ b)|.IsNot=>B (!(D_ a==D_ b))|_=>aa
noncomputable def F_:eR->aF
 |.Eq|.NotEq=>S|_=>aj
def iv(o:eR)(a b:D):U Bool:=match b with
 |.none=>F8 o a|.int y=>match a with|.int x=>N7 o x y|.aS x=>(match o with|.Eq=>B (tu x y==B .eq)|_=>aa)|_=>aa
 |.aS y=>match a with|.aS x=>rx o x y|.int x=>(match o with|.Eq=>B (tu y x==B .eq)|_=>aa)|_=>aa
 |.str y=>match a with|.str x=>acy o x y|_=>aa
 |.bool y=>match a with|.bool x=>(match o with|.Eq=>B (x==y)|.NotEq=>B (x !=y)|_=>aa)|_=>aa
 |.ty y=>match a with|.ty x=>F9 o x y|_=>aa
 |.ae y=>match F_ o with|true=>F6 o a b|false=>F7 o y a
 |.aD y=>match F_ o with|true=>F6 o a b|false=>F7 o y a
 |_=>aa
theorem aV.zero(r:aV X h v d):aV [] h v d:=r.mono λ u u e u=>⟨e,dS⟩theorem bQ.zero(r:bT X h v d):bT [] h v d:=r.mono λ u u e u=>⟨e,dS⟩theorem RD.zero(r:RD X h v d):aV [] h v d:=by induction r with|rep r=>exact r.zero|ae a r=>exact .ae dS a r.zero
theorem N8(e:N7 o a b=B c)(h:Q (.bool c) s):aO (a5 prog w) A (kv o (.int a t) (.int b u)) Q E s:=by obtain z:∀{x},B x=B c->Q _ s:=λ e=>L (ak e) h;induction o with|Eq=>exact PyProof.Rows.eq_int (z e)|NotEq=>exact PyProof.Rows.ne_int (z e)|Lt=>exact PyProof.Rows.lt_int (z e)|LtE=>exact PySem.P.le_int (z e)|Gt=>exact PyProof.Rows.gt_int (z e)|GtE=>exact PySem.P.ge_int (z e)|_=>exact nn e
theorem N9(e:rx o a b=B c)(h:Q (.bool c) s):aO (a5 prog w) A (kv o (.float a t) (.float b u)) Q E s:=by obtain z:∀{x},B x=B c->Q _ s:=λ e=>L (ak e) h;induction o with|Eq=>exact AutoFloatOps.eq_0 (z e)|NotEq=>exact AutoFloatOps.ne_0 (z e)|Lt=>exact AutoFloatOps.lt_0 (z e)|LtE=>exact AutoFloatOps.le_0 (z e)|Gt=>exact AutoFloatOps.gt_0 (z e)|GtE=>exact AutoFloatOps.ge_0 (z e)|_=>exact nn e
theorem acz(r:aV X u v a)(e:F8 o a=B c)(h:Q (.bool c) s):aO (a5 prog w) A (kv o v .none) Q E s:=by
 obtain k:(v==jO)=isNone a:=by cases r<;>rfl
 unfold F8 at e;induction o<;>dsimp only at e<;>cases e
 ·exact is_none (L k h)
 ·exact isNot_none (L k h)
theorem acA(e:F9 o a b=B c)(h:Q (.bool c) s):aO (a5 prog w) A (kv o (.type a) (.type b)) Q E s:=by
 unfold F9 at e;induction o<;>dsimp only at e<;>cases e
 ·exact bl h
 ·exact isnot_type h
theorem N_(I:∀b,g5 g6 a y=B b->RcAt A s v u b/\RcNeAt A s v u (!b))(g:∀b,jZ g6 fg a=B b->Q (.bool b) s->aO (a5 prog w) A (kv .In v u) Q E s)
  (C:∀b,jZ g6 fg a=B b->Q (.bool !b) s->aO (a5 prog w) A (kv .NotIn v u) Q E s)(e:(match F_ o with|true=>F6 o a y|false=>F7 o fg a)=B c)(h:Q (.bool c) s):aO (a5 prog w) A (kv o v u) Q E s:=by
 induction o with|Eq=>exact(I c e).1 prog w E Q h|NotEq=>exact gE e λ b q p=>(I b q).2 prog w E Q (p▸h)|In=>exact g c e h|NotIn=>exact gE e λ b q p=>C b q (p▸h)|_=>exact nn e
theorem acB(l:tv s.heap)(X:A.units+200<rk)(r:aV [] s.heap v a)(R:aV [] s.heap u b)(e:iv o a b=B c)
  (h:Q (.bool c) s):aO (a5 prog w) A (kv o v u) Q E s:=by
 rcases b with _|y|y|y|y|y|_|_|C|C|⟨_,_⟩;case none=>refine L R.inv ?_;exact acz r e h
 case int=>
  refine a7 R.inv λ _ wU=>?_;refine L wU ?_;cases a with
  |int x=>obtain⟨_,rfl⟩:=r.inv;exact N8 e h|aS x=>refine av r.inv λ u N u=>?_;refine L N ?_;rcases o with _|_<;>dsimp only[iv]at e<;>cases e;exact eq_fi h
  |_=>exact nn e
 case aS=>
  refine av R.inv λ _ W _=>?_;refine L W ?_;rcases a with _|_|x|x|_|_|_|_|_|_|⟨_,_⟩;case aS=>refine av r.inv λ u t u=>?_;refine L t ?_;exact N9 e h
  case int=>obtain⟨_,rfl⟩:=r.inv;rcases o with _|_<;>dsimp only[iv]at e<;>cases e;exact eq_if h
  all_goals exact nn e
 case str=>
  obtain⟨_,rfl⟩:=R.inv;rcases a with _|_|_|_|x|_|_|_|_|_|⟨_,_⟩
  case str=>obtain⟨_,rfl⟩:=r.inv;exact(by
    obtain z:∀{x},B x=B c->Q _ s:=λ e=>L (ak e) h;induction o with
    |Eq=>exact PyProof.Rows.eq_str (z e)|NotEq=>exact PyProof.Rows.ne_str (z e)|Lt=>exact PyProof.Rows.lt_str (z e)|In=>exact PyProof.Rows.in_str (z e)|NotIn=>exact PyProof.Rows.notIn_str (z e)|_=>exact nn e)
  all_goals exact nn e
 case bool=>
  refine L R.inv ?_;rcases a with _|x|_|_|_|_|_|_|_|_|⟨_,_⟩
  case bool=>
   refine L r.inv ?_;rcases o with _|_<;>dsimp only[iv]at e<;>cases e
   ·exact PyProof.Rows.eq_bool h
   ·exact PyProof.Rows.ne_bool h
  all_goals exact nn e
 case ty=>refine L R.inv ?_;cases a with|ty x=>refine L r.inv ?_;exact acA e h|_=>exact nn e
 case ae=>exact(by
   refine eg R.inv λ F G I z d k=>?_;subst I;have i:∀m,m<=60->t_ A.in1 s m []:=λ m p=>F4 m A.in1 s l (un X (gg p (by decide)));refine N_ (λ b q=>?_) (λ b q h=>?_) (λ b q h=>?_) e h
   ·rcases a with _|_|_|_|_|_|_|_|xs|_|⟨_,_⟩
    case ae=>refine eg r.inv λ cW us D z P K=>?_;subst D;exact N4 (λ m p=>i m (ip (ik p))) (gg (gK ..) X) q P K d k
    all_goals exact nn q
   ·obtain⟨f,M,g⟩:=wR (i 60 (bH _)) r _ _ _ k q
    exact in_listAt f d.isList (λ y T=>(g y (DX.mp T)).1) (L Le (L M h))
   ·obtain⟨f,M,g⟩:=wR (i 60 (bH _)) r _ _ _ k q
    exact notIn_listAt f d.isList (λ y T=>(g y (DX.mp T)).1) (L Le (L M h)))
 case aD=>exact(by
   refine eg R.inv λ F G V z d k=>?_;subst V;have i:∀m,m<=60->t_ A.in1 s m []:=λ m p=>F4 m A.in1 s l (un X (gg p (by decide)));refine N_ (λ b q=>?_) (λ b q h=>?_) (λ b q h=>?_) e h
   ·rcases a with _|_|_|_|_|_|_|_|_|xs|⟨_,_⟩
    case aD=>refine eg r.inv λ cW us W z P K=>?_;subst W;exact N5 (λ m p=>i m (ip (ik p))) (gg (gK ..) X) q P K d k
    all_goals exact nn q
   ·obtain⟨f,M,g⟩:=wR (i 60 (bH _)) r _ _ _ k q
    exact in_tupleAt f d.iV (λ y T=>(g y (DX.mp T)).1) (L Le (L M h))
   ·obtain⟨f,M,g⟩:=wR (i 60 (bH _)) r _ _ _ k q
    exact notIn_tupleAt f d.iV (λ y T=>(g y (DX.mp T)).1) (L Le (L M h)))
 all_goals exact nn e
def Ev.read:V->Ev D
 |.d d=>.ret d|.aH i=>λ σ=>match σ[i]? with|some (.ae xs)=>B (.ok (.ae xs),σ)|_=>aa
def Ev.ofD:U D->Ev V
 |some d=>.ret (.d d)|none=>.au
structure Base(g:bX):Prop where
 booked:tv g.K
 sys:th<g.h₀.objs.size
theorem wV(b:tv k)(s:k.StaysIn h):tv h:=av b λ m n e=>⟨m,n.keeps s,e⟩theorem c0.get{i:J}(r:c0 P X α h as M)(e:as[i]?=B a):∃m,M[i]?=B m/\d2 P X α h a m:=by induction r generalizing i with|nil=>exact nn e|cons m _ I=>induction i with|zero=>exact⟨_,rfl,ax (ak e) m⟩|succ i=>exact I e
theorem aG.look(I:aG g x α σ h){i:J}(c:α[i]?=B a)(p:σ[i]?=B m):d2 g.w.params (x.P++α) α h a m:=
 av (I.bM.get c) λ u e r=>
 ax (ak (Y e.symm p)) r
theorem ag.ghost(u:∀α h,pre α h->a9 (x.P++α) α h v a)
  (h:∀d,ag g x (λ α h=>pre α h/\RD (x.P++α) h v d) post t (k d)):ag g x pre post t ((Ev.read a).bind k):=by
 intro α σ s o af I T p e Q E G y;obtain r:=u _ _ p;induction a with|d d=>exact h d α σ s o af I T ⟨p,.rep r⟩ e Q E G y|aH i=>refine av r λ a c w=>?_;subst w;refine av (I.bM.get c) λ m K M=>?_;unfold Ev.bind Ev.read at e;dsimp only at e;rw[K]at e;induction m with|ae xs=>exact av M λ vs z R=>(h _ α σ s o af I T ⟨p,.ae z R⟩ e Q E G y)|_=>exact nn e
theorem ag.toV(h:ag g x pre (NX x) t (.of o)):ag g x pre (dA x) t (Ev.ofD o):=by induction o with|none=>exact .au|some d=>intro α σ s f af I T p e Q E G y;cases e;exact h α σ s _ _ I T p rfl Q E (λ b r h' C aA i=>by injection i with i;subst i;exact G b _ h' C aA rfl) eC.ok
theorem ag.release(h:ag g x pre post (k ()) m):ag g x pre post (release vs ks>>=k) m:=
 λ α σ s o af I t P e Q E q y=>aB (zw (h α σ s o af I t P e Q E q y))
theorem ag.operate(h:ag g x pre post t m):ag g x pre post (zx vs t) m:=
 λ α σ s o af I T p e Q E q z=>aB (dT (hS (h α σ s o af I T p e Q E q z) (λ u u y=>aB (zw (bl y))) λ u u y=>y))
theorem ag.post{post post':H ao->aX->e->q->Prop}(h:ag g x pre post t m)(G:∀α h b a,post α h b a->post' α h b a):ag g x pre post' t m:=
 h.mono (λ u u p=>p) G
theorem ag.pre{pre pre':H ao->aX->Prop}{post:H ao->aX->e->p->Prop}(h:ag g x pre post t m)(v:∀α h,pre' α h->pre α h):ag g x pre' post t m:=
 h.mono v λ u u u u y=>y
theorem ag.Oa{pre:H ao->aX->Prop}{mid:H ao->aX->e->q->Prop}{s u:Type}{post:H ao->aX->s->u->Prop}{f:e->s}{k:q->u}(h:ag g x pre mid t m)
  (G:∀α h b a,mid α h b a->post α h (f b) (k a)):ag g x pre post (t>>=λ b=>(tg (f b):bj s)) (m.bind λ a=>.ret (k a)):=
 h.bind λ b a=>ag.pure λ α h p=>G α h b a p
def nA:D->U aF
 |.none=>B aj|.bool b=>B b|.int i=>B (i !=0)|.aS u=>B (!DO u)|.str s=>a8 (aZ s.length 16777216) (B ((s.length:ah) !=0))|.ae xs=>a8 (aZ (O xs) 16777216) (B (!xs.isEmpty))|.aD xs=>a8 (aZ (O xs) 16777216) (B (!xs.isEmpty))|_=>aa
theorem Ob(r:bT X h vs xs):vs.toArray.isEmpty=xs.isEmpty:=by cases r<;>rfl
theorem Oc(r:aV X s.heap v d)(e:nA d=B c)(h:∀t,Q c {s with toks:=t}):aO (a5 prog w) A (tw v) Q E s:=by cases r with|none=>obtain rfl:=ak e;exact truthy_none (h _)|bool b=>exact L (ak e) (YP (h _))|int i=>obtain rfl:=ak e;exact PyProof.Rows.truthy_int (h _)|aS u=>obtain rfl:=ak e;exact AutoFloatOps.truthy_0 (h _)|str u=>obtain⟨q,e⟩:=dn e;obtain rfl:=ak e;obtain q:=b8 q;exact PySem.P.truthy_str (by lia) (h _)|ae _ a r=>obtain⟨q,e⟩:=dn e;cases e;have q:=b8 q;have:=r.length;refine wpAny_truthy_list a.isList (by simp;lia) ?_;rw[Ob r];exact h _|aD _ a r=>obtain⟨q,e⟩:=dn e;cases e;have q:=b8 q;have:=r.length;refine truthy_tuple a.isTup (by simp;lia) ?_;rw[Ob r];exact h _|_=>exact nn e
theorem Od(w:∀α h,pre α h->RD (x.P++α) h v d):
  ag g x pre (λ u u b c=>b=c) (tw v) (.of (nA d)):=by
 cases e:nA d with|none=>exact .au|some c=>exact ag.wp λ α σ s I T p Q E G=>Oc (w _ _ p).zero e λ t=>G c s.heap t (λ u u e=>e) (bH _) rfl
theorem Oe(Bq:Base g)(ok:eW g x n)(o:eR)(y:∀α h,pre α h->RD (x.P++α) h v a/\RD (x.P++α) h u b):
  ag g x pre (λ w w r c=>r=.bool c) (kv o v u) (.of (iv o a b)):=by
 cases e:iv o a b with|none=>exact .au|some c=>exact ag.wp λ α σ s I t p Q E G=>acB (wV Bq.booked I.base) ok.u (y _ _ p).1.zero (y _ _ p).2.zero e (G _ s.heap s.toks (λ w w e=>e) (bH _) rfl)abbrev bp(g:bX)(x:bD)(env:cn)(ρ:az):H ao->aX->Prop:=λ α h=>bt g x env ρ α h
structure cU(g:bX)(x:bD)(env:cn)(n:J):Prop where
 base:Base g
 ok:eW g x n
 q:Quiet x env
section
variable {g:bX}{x:bD}{env:cn}{ρ:az}{n:J}{β γ nv oQ:Type}
theorem ag.cv{post:H ao->aX->nv->oQ->Prop}(y:cU g x env n)
  (W:ag g x (bp g x env ρ) mid t m)(j:∀b a,ag g x (λ α h=>bp g x env ρ α h/\mid α h b a) post (f b) (k a)):ag g x (bp g x env ρ) post (t>>=f) (m.bind k):=
 (ag.NS y.ok y.q (λ u u u u u u=>trivial) (W.pre λ u u p=>p.1) λ b a=>(j b a).pre λ u u p=>⟨p.1,p.2.2⟩).pre λ u u p=>⟨p,trivial⟩
theorem ag.hk{K:H ao->aX->Prop}{mid:H ao->aX->β->γ->Prop}{post:H ao->aX->nv->oQ->Prop}(y:cU g x env n)(l:kD x K)
  (W:ag g x (bp g x env ρ) mid t m)(j:∀b a,ag g x (λ α h=>(bp g x env ρ α h/\K α h)/\mid α h b a) post (f b) (k a)):ag g x (λ α h=>bp g x env ρ α h/\K α h) post (t>>=f) (m.bind k):=
 ag.NS y.ok y.q l (W.pre λ u u p=>p.1) λ b a=>(j b a).pre λ u u p=>⟨⟨p.1,p.2.1⟩,p.2.2⟩
theorem ag.hj{K R:H ao->aX->Prop}{mid:H ao->aX->β->γ->Prop}{post:H ao->aX->nv->oQ->Prop}(y:cU g x env n)(l:kD x K)
  (W:ag g x R mid t m)(j:∀b a,ag g x (λ α h=>(bp g x env ρ α h/\K α h)/\mid α h b a) post (f b) (k a)):ag g x (λ α h=>(bp g x env ρ α h/\K α h)/\R α h) post (t>>=f) (m.bind k):=by
 obtain C:ag g x (λ α h=>(bp g x env ρ α h/\K α h)/\R α h) (λ α h b a=>(bp g x env ρ α h/\K α h)/\mid α h b a) t m:=by exact λ α σ s o af I D p e Q E G z=>W α σ s o af I D p.2 e Q E (λ b r h' F aA i st M T P=>G b r h' F aA i st M T ⟨⟨bt.jY y.ok.cY y.ok.ew y.q _ _ _ _ _ I st p.1.1,l _ _ _ _ st p.1.2⟩,P⟩) z
 exact C.bind j
abbrev TE(g:bX)(x:bD)(env:cn)(ρ:az)(t:bj aq)(m:Ev V):Prop:=ag g x (bp g x env ρ) (dA x) t m
abbrev Of:H ao->aX->aF->aF->Prop:=λ u u b c=>b=c
abbrev TB(g:bX)(x:bD)(env:cn)(ρ:az)(t:bj aF)(m:Ev aF):Prop:=ag g x (bp g x env ρ) Of t m
theorem cU.hn(y:cU g x env n)(v:aq)(a:V):kD x λ α h=>a9 (x.P++α) α h v a:=λ u u u u st r=>r.mono (st.outer y.ok.cY y.ok.ew) (av st.ext λ β e u=>⟨β,e⟩)def kG(o:iM)(m M:Ev V):Ev V:=m.bind λ a=>M.bind λ b=>(Ev.read a).bind λ d=>(Ev.read b).bind λ D=>Ev.ofD (fW o d D)
theorem Ga(y:cU g x env n)(h:TE g x env ρ (bG l env) m)(E:TE g x env ρ (bG r env) M):
  TE g x env ρ (bG (.BinOp l o r P) env) (kG o m M):=ag.cv y h λ v a=>ag.hk y (y.hn v a) E.holding λ u b=>ag.standAt (ag.operate (ag.ghost (λ w w p=>p.1.2) λ d=>ag.ghost (λ w w p=>p.1.2) λ D=>(acw o v u d D).toV.pre λ w w p=>⟨p.1.2,p.2⟩))def ll(o:UnaryOp)(d:D):U D:=match o with|.Not=>(nA d).map λ b=>.bool (!b)|.USub=>iX (λ i=>B (.int (-i))) d|.Invert=>iX (λ i=>B (.int (Builtin.bitNot i))) d|_=>aa
theorem acC(f:UnaryOp)(z:∀α h,pre α h->RD (x.P++α) h v d):ag g x pre (dA x) (unaryOp f v) (Ev.ofD (ll f d)):=by cases e:ll f d with|none=>exact .au|some c=>refine ag.wp λ α σ s I T p Q E G=>?_;obtain r:=z _ _ p;have o:∀{v t},aV _ s.heap v c->Q v (cT s s.heap t):=(G _ s.heap _ (λ u u e=>e) (bH _));induction f with|Not=>exact gE e λ b k e=>PyProof.Rows.not_of (Oc r.zero k λ t=>o (ax e (.bool _)))|Invert=>exact p5 e λ i q e=>let ⟨_,ev⟩:=(q▸r).int;ev▸PyProof.Rows.invert_int (o (ak e▸.int _ _))|USub=>exact p5 e λ i q e=>let ⟨_,ev⟩:=(q▸r).int;ev▸PyProof.Rows.neg_int (o (ak e▸.int _ _))|UAdd=>exact nn e
def Ay(o:UnaryOp)(m:Ev V):Ev V:=m.bind λ a=>(Ev.read a).bind λ d=>Ev.ofD (ll o d)theorem Az(y:cU g x env n)(h:TE g x env ρ (bG e env) m):TE g x env ρ (bG (.UnaryOp o e P) env) (Ay o m):=ag.cv y h λ v a=>ag.standAt (ag.holding (ag.ghost (λ u u p=>p.2) λ d=>acC o λ u u p=>p.2))
noncomputable def ua:v3->aF->aF
 |.And,b=> !b|.Or,b=>b
def AA(o:v3)(bS:H (Ev V)):Ev V:=bS.rec (motive:=λ u=>Ev V) (.au) (λ m M dF=>match M with
  |[]=>m
  |_::_=>m.bind λ a=>(Ev.read a).bind λ d=>(Ev.of (nA d)).bind λ b=>match ua o b with
   |true=>.ret a|false=>dF)
theorem acD(p:cP)(o:v3)(t T:bj aq)(ay:H (bj aq)):boolOp p o (t::T::ay)=(do let v<-t;dZ p;let b<-d_ [v] (tw v);if ua o b=S then pure v else boolOp p o (T::ay)):=by
 obtain k:∀{f g:aq->aF->bj aq},(∀v b,f v b=g v b)->(t>>=λ v=>dZ p>>=λ u=>d_ [v] (tw v)>>=f v)=(t>>=λ v=>dZ p>>=λ u=>d_ [v] (tw v)>>=g v):=λ h=>by exact L (funext λ v=>funext (h v)) rfl
 induction o with|And=>exact k λ v b=>by induction b<;>rfl|Or=>exact k λ v b=>by induction b<;>rfl
theorem ag.ite{pre:H ao->aX->Prop}{post:H ao->aX->β->γ->Prop}(W:ag g x pre post t m)(j:ag g x pre post u k):
  ag g x (λ α h=>pre α h/\b=c) post (if b=S then t else u) (match c with|true=>m|false=>k):=by
 intro α σ s o af I T p e Q E G y;obtain⟨p,rfl⟩:=p;induction b with|true=>exact W α σ s o af I T p e Q E G y|false=>exact j α σ s o af I T p e Q E G y
theorem acE(y:cU g x env n)(h:bQ (TE g x env ρ) ay M):TE g x env ρ (boolOp P o ay) (AA o M):=by induction h with|nil=>exact .au| @cons t m ay M a as i=>induction as with|nil=>exact a| @cons C Q T q f as=>refine L (acD ..) (ag.cv y a λ v a=>ag.standAt (ag.ghost (λ u u p=>p.2) λ d=>ag.hj y (y.hn v a) (Od λ u u p=>p).holding λ b c=>(ag.pre (ag.ite (ag.pure λ u u p=>p.2) (i.pre λ u u p=>p.1)) λ u u p=>⟨p.1,aM _ p.2⟩)))theorem acF(y:cU g x env n)(h:bQ (TE g x env ρ) (iQ es env) m):TE g x env ρ (bG (.BoolOp o es p) env) (AA o m):=acE y h
theorem Og(b:aF):a9 X α h (.bool b) (.d (.bool b)):=aV.bool b
def mr(o:eR)(a:V)(r:Ev V)(k:V->aF->Ev γ):Ev γ:=r.bind λ b=>(Ev.read a).bind λ d=>(Ev.read b).bind λ D=>(Ev.of (iv o d D)).bind λ c=>k b c
def AB(a:V):H eR->H (Ev V)->Ev V
 |[],_=>.au|_::_,[]=>.au
 |f::o,r::R=>match o,R with
  |[],[]=>mr f a r λ u c=>.ret (.d (.bool c))|_::_,_::_=>mr f a r λ b c=>match c with|true=>AB b o R|false=>.ret (.d (.bool c))
  |_,_=>.au
def wW(a:V):H eR->H (Ev V)->Ev aF
 |[],_=>.au|_::_,[]=>.au
 |d::o,r::R=>match o,R with
  |[],[]=>mr d a r λ u c=>.ret c|_::_,_::_=>mr d a r λ b c=>match c with|true=>wW b o R|false=>.ret aj
  |_,_=>.au
theorem AD(y:cU g x env n)(o:eR){f:aq->aq->bj β}(w:aq->bj aq->bj aq)
  (d:∀u,w u=zx [v,u]\/w u=d_ [v,u])(h:TE g x env ρ t m)
  (E:∀u b c,ag g x (λ α h=>bp g x env ρ α h/\a9 (x.P++α) α h u b) post (f u (.bool c)) (k b c))(P:cP):
  ag g x (λ α h=>bp g x env ρ α h/\a9 (x.P++α) α h v a) post (do let u<-d_ [v] t;dZ P;let c<-w u (kv o v u);f u c) (mr o a m k):=by
 refine ag.hk y (y.hn v a) h.holding λ u b=>ag.standAt (ag.ghost (λ z z p=>p.1.2) λ D=>ag.ghost (λ z z p=>p.1.2) λ N=>?_);obtain K:ag g x _ _ (w u (kv o v u)) (.of (iv o D N)):=by
  rcases d u with e|e<;>rw[e]
  ·exact(Oe y.base y.ok o λ z z p=>p).operate
  ·exact(Oe y.base y.ok o λ z z p=>p).holding
 refine ag.pre (ag.hj y (y.hn u b) K λ r c=>?_) (λ z z p=>⟨⟨p.1.1.1.1,p.1.1.2⟩,p.1.2,p.2⟩);intro α σ s i af I T p;obtain⟨p,rfl⟩:=p;exact E u b c α σ s i af I T p
theorem Oh(p:cP)(v:aq)(o:eR)(t:bj aq):YR p v [o] [t]=(d_ [v] t>>=λ u=>dZ p>>=λ w=>zx [v,u] (kv o v u)>>=λ c=>pure c):=by show(d_ [v] t>>=λ u=>dZ p>>=λ w=>zx [v,u] (kv o v u))=_;exact L (funext λ u=>aM (λ k=>dZ p>>=λ w=>k) (YS _).symm) rfl
theorem acG(y:cU g x env n)(o:H eR):∀{ay:H (bj aq)}{m:H (Ev V)}{v:aq}{a:V},bQ (TE g x env ρ) ay m->
  ag g x (λ α h=>bp g x env ρ α h/\a9 (x.P++α) α h v a) (dA x) (YR P v o ay) (AB a o m):=by
 induction o with
 |nil=>exact λ u=>.au
 |cons d o j=>
  intro ay m v a h;induction h with
  |nil=>exact .au
  |cons R W=>
   rcases o with _|⟨K,o⟩
   ·induction W with|nil=>exact L (Oh P v d _) (AD y d _ (λ u=>.inl rfl) R (λ u b c=>ag.pure λ w w w=>Og _) P)|cons=>exact .au
   ·induction W with|nil=>exact .au|cons z W=>refine AD y d _ (λ u=>.inr rfl) R (λ u b c=>ag.release (λ α σ s f af I t p e Q E G i=>aB (dT (bl ?_)))) P;induction c with|true=>exact j (.cons z W) α σ s f af I t p e Q E G i|false=>exact ag.pure (pre:=λ α h=>bp g x env ρ α h/\a9 _ α h u b) (λ w w w=>Og _) α σ s f af I t p e Q E G i
theorem acH(y:cU g x env n)(o:H eR):∀{ay:H (bj aq)}{m:H (Ev V)}{v:aq}{a:V},bQ (TE g x env ρ) ay m->
  ag g x (λ α h=>bp g x env ρ α h/\a9 (x.P++α) α h v a) Of (testChain P v o ay) (wW a o m):=by
 induction o with
 |nil=>exact λ u=>.au
 |cons d o j=>
  intro ay m v a h;induction h with
  |nil=>exact .au
  |cons R W=>
   rcases o with _|⟨K,o⟩
   ·induction W with|nil=>exact AD y d _ (λ u=>.inl rfl) R (λ u b c=>(ag.pure λ w w w=>rfl).holding) P|cons=>exact .au
   ·induction W with|nil=>exact .au|cons z W=>refine AD y d _ (λ u=>.inr rfl) R (λ u b c=>ag.release (λ α σ s f af I t p e Q E G i=>aB (dT (bl ?_)))) P;induction c with|true=>exact j (.cons z W) α σ s f af I t p e Q E G i|false=>exact ag.pure (pre:=λ α h=>bp g x env ρ α h/\a9 _ α h u b) (λ w w w=>rfl) α σ s f af I t p e Q E G i
noncomputable def hY(e:aJ):Bool:= !(aL e.ctorIdx 7)
theorem Gb(i:H eR):∀(es:H aJ)(ay:H (bj aq)),es.all hY=S->markedEach i es ay=ay:=by
 induction i with
 |nil=>exact λ u u u=>rfl
 |cons o i I=>
  intro es ay h;rcases i with _|⟨T,os⟩
  ·rcases es with _|⟨e,_|_⟩
   ·rfl
   ·rcases ay with _|⟨t,_|_⟩
    ·rfl
    ·exact aM (λ t=>[t]) ((by
      cases e with
      |Set=>exact bw ((bo h).1)|_=>exact rfl (a:=t)))
    ·rfl
   ·rcases ay with _|_<;>rfl
  ·rcases es with _|⟨e,es⟩
   ·rfl
   ·rcases ay with _|⟨t,ay⟩
    ·rfl
    ·exact aM _ (I es ay (bo h).2)def Oi(l:Ev V)(o:H eR)(m:H (Ev V)):Ev V:=l.bind λ a=>AB a o m
theorem acI(y:cU g x env n)(b:es.all hY=S)(z:TE g x env ρ (bG l env) m)(h:bQ (TE g x env ρ) (iQ es env) M):
  TE g x env ρ (bG (.Compare l o es p) env) (Oi m o M):=by
 simp[arm_eval_Compare,Gb _ _ _ b];exact ag.cv y z λ v a=>acG y o h
def wX(a:V):Ev Bool:=λ σ=>match a with|.d d=>Ev.of (nA d) σ|.aH i=>(σ[i]? :U cj).bind λ m=>match m with|.ae xs=>Ev.of (nA (.ae xs)) σ|.jl=>B (.ok S,σ)|_=>aa
theorem acJ(y:∀α h,pre α h->a9 (x.P++α) α h v a):ag g x pre (λ u u b c=>b=c) (tw v) (wX a):=by obtain dflt:=ag.ghost y (λ d=>(Od λ u u p=>p.2));intro α σ s f af I t p e Q E G z;induction a with|d d=>exact dflt α σ s f af I t p e Q E G z|aH i=>refine b3 e λ m j e=>?_;induction m with|ae xs=>refine dflt α σ s f af I t p ?_ Q E G z;delta Ev.bind Ev.read;dsimp only;exact L j e|jl=>obtain k:=bf (ak e);refine av (y _ _ p) λ l R w=>L w (av (I.look R j) λ o T A=>?_);obtain N:s.TypeIs (.ref l) "re.Match" :=⟨o,T,A⟩;refine aB (wpAny_callSpecial?_none N (by rw[k3];lk) ?_);refine aB (YT N (show rg _ "__len__" =pure aa from by rw[k3];lk) ?_);exact bl (G S S s.heap s.toks α k.1.symm (.refl ..) (ax k.2 I) t rfl)|_=>exact nn e
def ub(m:Ev V):Ev Bool:=m.bind wX
theorem acK(y:cU g x env n)(z:iq e env t=(do let v<-t;dZ e.pos;d_ [v] (tw v)))(h:TE g x env ρ t m):TB g x env ρ (iq e env t) (ub m):=L z (ag.cv y h λ v a=>ag.standAt (acJ λ u u p=>p.2).holding)
theorem acL(y:cU g x env n)(b:es.all hY=S)(z:TE g x env ρ (bG l env) m)(h:bQ (TE g x env ρ) (iQ es env) M):
  TB g x env ρ (iq (.Compare l o es p) env t) (m.bind λ a=>wW a o M):=by
 simp[arm_isTrue_Compare,Gb _ _ _ b];exact ag.cv y z λ v a=>acH y o h
def fL{γ:Type}(t:Ev aF)(a b:Ev γ):Ev γ:=t.bind λ c=>match c with|true=>a|false=>b
theorem Oj(y:cU g x env n)(h:TB g x env ρ t m)(d:ag g x (bp g x env ρ) post u a)(q:ag g x (bp g x env ρ) post w b):
  ag g x (bp g x env ρ) post (do if<-t then u else w) (fL m a b):=
 ag.cv y h λ b c=>(ag.ite d q)
theorem Ol(y:cU g x env n)(h:TB g x env ρ (iq t env (bG t env)) m)(c:TE g x env ρ (bG a env) M)(q:TE g x env ρ (bG b env) v):
  TE g x env ρ (bG (.IfExp t a b p) env) (fL m M v):=Oj y h c q
def wY(o:v3)(bS:H (Ev aF)):Ev Bool:=bS.rec (motive:=λ u=>Ev aF) (.ret (o==.And)) (λ m M dF=>m.bind λ b=>match ua o b with
  |true=>.ret b|false=>dF)theorem acM(o:v3)(e:aJ)(es:H aJ)(env:cn):allTrue o (e::es) env=(iq e env (bG e env)>>=λ b=>if ua o b=S then pure b else allTrue o es env):=by apply Y (arm_allTrue_cons ..);congr 1;funext b;induction o<;>induction b<;>rfl
theorem acN(y:cU g x env n)(h:bQ (λ e m=>TB g x env ρ (iq e env (bG e env)) m) es M):TB g x env ρ (iq (.BoolOp o es P) env t) (wY o M):=(show TB g x env ρ (allTrue o es env) _ from by
  induction h with
  |nil=>exact ag.pure λ u u u=>rfl
  |cons a _ i=>
   exact L (acM ..) (ag.cv y a λ b c=>ag.pre (ag.ite (ag.pure λ u u p=>p.2) (i.pre λ u u p=>p.1)) λ u u p=>⟨p,aM _ p.2⟩))
end
class inductive bU(X α:H ao)(h:aX):H aq->H V->Prop
 |nil:bU X α h [] []
 |cons {v vs a as} :a9 X α h v a->bU X α h vs as->bU X α h (v::vs) (a::as)theorem bU.length(r:bU X α h vs xs):O vs=O xs:=by induction r with|nil=>rfl|cons _ _ i=>exact aM i9 i
noncomputable def fx:H V->U (H D)
 |[]=>B []|a::as=>match a with|.d d=>(fx as).map (d:: ·)|.aH _=>aa
theorem bU.fx(r:bU X α h vs xs)(e:fx xs=B ds):bT X h vs ds:=by
 induction r generalizing ds with
 |nil=>exact ak e▸.nil
 | @cons v vs a as r o I=>
  induction a with
  |aH i=>exact nn e
  |d d=>
   dsimp only[Internal.fx]at e;refine eD (Internal.fx as) (λ E=>?_) λ D E=>?_
   ·rw[E]at e;exact nn e
   ·rw[E]at e;exact ak e▸.cons r (I E)theorem bU.mono{X Yq α aA:H ao}(r:bU X α h vs xs)(k:fX h h' X Yq)(T:∃β,aA=α++β):bU Yq aA h' vs xs:=by induction r with|nil=>exact .nil|cons a _ i=>exact .cons (a.mono k T) i
theorem wZ(G:cb x.F x.P)(t:cb x.W x.P)(v:H aq)(d:H V):kD x λ α h=>bU (x.P++α) α h v d:=
 λ u u u u st r=>r.mono (st.outer G t) (av st.ext λ β e u=>⟨β,e⟩)
noncomputable def cE:H (Ev V)->Ev (H V)
 |[]=>.ret []|m::M=>m.bind λ a=>(cE M).bind λ as=>.ret (a::as)abbrev Om(x:bD):H ao->aX->H aq->H V->Prop:=λ α h v r=>bU (x.P++α) α h v r
section
variable {g:bX}{x:bD}{env:cn}{ρ:az}{n:J}{β γ nv oQ:Type}theorem cU.AE(y:cU g x env n)(v:H aq)(a:H V):kD x λ α h=>bU (x.P++α) α h v a:=wZ y.ok.cY y.ok.ew v a
theorem Gc{K k:H ao->aX->Prop}(W:kD x K)(j:kD x k):kD x λ α h=>K α h/\k α h:=λ u u u u st p=>⟨W _ _ _ _ st p.1,j _ _ _ _ st p.2⟩theorem uc(y:cU g x env n)(h:bQ (TE g x env ρ) ay M):ag g x (bp g x env ρ) (Om x) (v5 (ay.map λ t=>(aj,t))) (cE M):=by induction h with|nil=>exact ag.pure λ u u u=>.nil| @cons t m ay M h b i=>refine(?_:ag g x _ _ (t>>=λ v=>d_ [v] (v5 _)>>=λ vs=>pure (v::vs)) _);exact ag.cv y h λ v a=>ag.hk y (y.hn v a) i.holding λ vs as=>ag.pure λ α h p=>.cons p.1.2 p.2
noncomputable abbrev fM:=kdsPlain
theorem ud(es:H aJ)(env:cn)(h:es.all fM=S):starEach es env=(iQ es env).map λ t=>(aj,t):=kds_star es h
noncomputable def Oo{T:Type}(z:T):=λ a b c d f g h i j k l m n o (e:aJ)=>PySem.Expr.casesOn (motive_1:=λ u=>T) e a (λ u u u=>z) b c (λ u u u u=>z) d f (λ u u u=>z) g (λ u u u u=>z) (λ u u u u u=>z) (λ u u u u=>z) (λ u u=>z) (λ u u=>z) (λ u u=>z) h i (λ u u u u=>z) (λ u u=>z) j k l (λ u u=>z) m n o (λ u u u u=>z)noncomputable def stK{T:Type}(z:T):=λ a b c d f g h i j k (e:bx)=>Stmt.casesOn (motive_2:=λ u=>T) e a (λ u u u u u u u u u u=>z) b c d f (λ u u u u u u u=>z) (λ u u u u=>z) (λ u u u u u=>z) g (λ u u u u u=>z) (λ u u u u=>z) h (λ u u u=>z) (λ u u u=>z) (λ u u u=>z) i j (λ u u u u u=>z) (λ u u u=>z) (λ u u=>z) (λ u u u u=>z) (λ u u=>z) (λ u u=>z) k (λ u=>z) (λ u=>z) (λ u=>z)noncomputable def hZ{A:Type}(e:aJ)(f:ai->A)(z:A):A:=if h:e.ctorIdx=23 then YU e h λ n u=>f n else z
noncomputable def rU{A:Type}(e:aJ)(f:H aJ->A)(z:A):A:=if h:e.ctorIdx=25 then YV e h λ es u u=>f es else z
noncomputable def w0{A:Type}(e:aJ)(f:aJ->H aJ->H v7->A)(z:A):A:=if h:e.ctorIdx=16 then YW e h λ g as ks u=>f g as ks else z
noncomputable def Gd{A:Type}(e:aJ)(f:vY->A)(z:A):A:=if h:e.ctorIdx=19 then aob e h λ c u u=>f c else z
section
variable {A:Type}{e:aJ}{z:A}{P:A->Prop}
theorem mu(k:∀n p,e=.Name n p->P (f n))(K:P z):P (hZ e f z):=by
 by_cases h:e.ctorIdx=23
 ·exact YU (motive_1:=λ E=>e=E->P (hZ E f z)) e h k rfl
 ·exact(aM P (jb h)).mpr K
theorem w1(k:∀es c p,e=.Tuple es c p->P (f es))(K:P z):P (rU e f z):=by
 by_cases h:e.ctorIdx=25
 ·exact YV (motive_1:=λ E=>e=E->P (rU E f z)) e h k rfl
 ·exact(aM P (jb h)).mpr K
theorem Ge(k:∀g as ks p,e=.Call g as ks p->P (f g as ks))(K:P z):P (w0 e f z):=by
 by_cases h:e.ctorIdx=16
 ·exact YW (motive_1:=λ E=>e=E->P (w0 E f z)) e h k rfl
 ·exact(aM P (jb h)).mpr K
theorem acO(k:∀c n p,e=.Constant c n p->P (f c))(K:P z):P (Gd e f z):=by
 by_cases h:e.ctorIdx=19
 ·exact aob (motive_1:=λ E=>e=E->P (Gd E f z)) e h k rfl
 ·exact(aM P (jb h)).mpr K
end
theorem ue(p:cP)(ay:H (bj aq)):backTo p (ay.map λ t=>(aj,t))=ay.map λ t=>(aj,t):=by apply Y v8;rfl
theorem c0.mono(r:c0 P X α h as ms)(Q:h.objs.size<=h'.objs.size)(c:∀a∈as,h'.get? a=h.get? a)(k:fX h h' X Yq)(T:∃β,aA=α++β):c0 P Yq aA h' as ms:=by induction r with|nil=>exact .nil|cons a _ i=>exact .cons (a.mono Q (c _ (cV ..)) k T) (i λ b q=>c b (c7 _ q))theorem c0.append(r:c0 P X α h as m)(R:c0 P X α h bs N):c0 P X α h (as++bs) (m++N):=by induction r with|nil=>exact R|cons a _ i=>exact .cons a i
theorem c0.length(r:c0 P X α h as ms):O as=O ms:=by induction r with|nil=>rfl|cons _ _ i=>exact zj.mpr i
theorem aG.more(I:aG g x α σ h)(k:∀b o,h.get? b=B o->h'.get? b=B o)(s:h.objs.size<=h'.objs.size)(G:∀a,a<h.objs.size->h.get? a=aa->h'.get? a=aa)
  (u:(∀b o,h.get? b=B o->b∉x.P++α->h'.get? b=B o/\b∉x.P++(α++ [h.objs.size]))->d2 g.w.params (x.P++(α++ [h.objs.size])) (α++ [h.objs.size]) h' h.objs.size m):aG g x (α++ [h.objs.size]) (σ++ [m]) h':=by
 obtain j:=I.keeps k s;have F:=I.fresh;rw[bB,rj]at F;obtain d:∀b o,h.get? b=B o->b∉x.P++α->h'.get? b=B o/\b∉x.P++(α++ [h.objs.size]):=λ b o e n=>⟨k _ _ e,by
  rw[<-eb,bB,rj];exact⟨n,λ r=>hu _ (ek.mp r▸dI e)⟩⟩
 have N:∀{p:ao->Prop},(∀a∈α,p a)->p h.objs.size->∀a∈α++ [h.objs.size],p a:=λ W l a c=>(bB.mp c).elim (W a) λ q=>L (ek.mp q) l;refine⟨j.base,j.big,λ a c=>c.elim (λ q=>I.b2 a (.inl q)) (N (λ a q=>I.b2 a (.inr q)) ⟨(by
   cases e:g.K.get? h.objs.size with
   |none=>rfl|some o=>exact aR (dI (I.base _ _ e)) (hu _)),I.big⟩ a),j.alive,?_,N I.c8 F.1,?_,j.fr,j.old⟩
 ·rw[rl]
  exact⟨I.dv,YC.mpr ⟨dS,List.nodup_nil⟩,λ a c b r q=>F.2 (ek.mp r▸q▸c)⟩
 ·refine c0.append (I.bM.mono s (λ a c=>?_) d ⟨_,rfl⟩) (.cons (u d) .nil)
  cases E:h.get? a with|some o=>exact k a o E|none=>exact G a (I.bM.lt a c) E
theorem aG.grow(I:aG g x α σ h)(o:fe)(m:cj)
  (p:d2 g.w.params (x.P++(α++ [h.objs.size])) (α++ [h.objs.size]) (h.push o) h.objs.size m):aG g x (α++ [h.objs.size]) (σ++ [m]) (h.push o):=
 I.more (λ u u=>dy _) (L (et ..) (hg _)) (λ u l e=>Y (Heap.get?_push_ne _ _ _ (il l)) e) λ u=>p
theorem a_.grow(h:aX)(o:fe):a_ F W α h (α++ [h.objs.size]) (h.push o):=
 ⟨L (et ..) (hg _),⟨[h.objs.size],rfl,λ a c=>by refine L (ek.mp c) ?_;exact bH _⟩,λ u u e u u u=>dy _ e,λ u o e u u=>⟨o.slots,dy _ e⟩⟩noncomputable def dc{γ:Type}(xs:H γ):Bool:=aZ (O xs) 16777216
def AF(bg:aF)(as:H V):Ev V:=match fx as with|none=>.au|some xs=>match dc xs with|false=>.au|true=>match bg with|false=>.ret (.d (.ae xs))|true=>λ σ=>B (.ok (.aH (O σ)),σ++ [.ae xs])def AG(as:H V):Ev V:=match fx as with|none=>.au|some xs=>match dc xs with|false=>.au|true=>.ret (.d (.aD xs))
theorem acP(bg:aF)(v:∀α h,pre α h->bU (x.P++α) α h vs as):ag g x pre (dA x) (newList vs) (AF bg as):=by
 unfold AF;cases e:fx as with
 |none=>exact .au
 |some xs=>
  dsimp only;cases M:dc xs with
  |false=>exact .au
  |true=>
   have G:∀α h,pre α h->vs.toArray.size<=sizeLine:=λ α h p=>by rw[hT,(((v _ _ p).fx e).length)];exact b8 M
   induction bg with
   |false=>exact ag.wp λ α σ s I t p Q E K=>kx (K _ _ s.toks (λ u u=>dy _) (L (et ..) (hg _)) (aV.ae I.fresh ⟨0,d0 _ rfl⟩ (Aw I _ ((v _ _ p).fx e)))) (G _ _ p)
   |true=>
    intro α σ s f af I t p w Q E K y;cases w;refine kx (K _ _ _ s.toks _ rfl (.grow _ _) (I.grow _ _ ?_) t ⟨s.heap.objs.size,?_,rfl⟩) (G _ _ p)
    ·refine⟨vs,⟨0,d0 _ rfl⟩,((v _ _ p).fx e).mono λ b o e n=>⟨dy _ e,?_⟩⟩
     rw[<-eb,bB,rj];exact⟨n,λ q=>aR (dI e) (ax ((ek.mp q).symm) (hu _))⟩
    ·rw[<-I.bM.length];exact Ea
theorem acQ(v:∀α h,pre α h->bU (x.P++α) α h vs as):ag g x pre (dA x) (Eb vs) (AG as):=by
 unfold AG;cases e:fx as with
 |none=>exact .au
 |some xs=>
  dsimp only;cases K:dc xs with
  |false=>exact .au
  |true=>
   have G:∀α h,pre α h->vs.toArray.size<=sizeLine:=λ α h p=>by rw[hT,(((v _ _ p).fx e).length)];exact b8 K
   exact ag.wp λ α σ s I t p Q E M=>kx (M _ _ s.toks (λ u u=>dy _) (L (et ..) (gK s.heap.objs.size 1)) (aV.aD I.fresh ⟨0,d0 _ rfl⟩ (Aw I _ ((v _ _ p).fx e)))) (G _ _ p)def Oq(bg:aF)(m:H (Ev V)):Ev V:=(cE m).bind λ as=>AF bg as
def uf(m:H (Ev V)):Ev V:=(cE m).bind λ as=>AG as
theorem acR(y:cU g x env n)(bg:aF)(b:es.all fM=S)(h:bQ (TE g x env ρ) (iQ es env) m):TE g x env ρ (bG (.List es W) env) (Oq bg m):=by simp[arm_eval_List,ud _ _ b,ue];exact ag.standAt (ag.cv y (uc y h) λ vs as=>acP bg λ u u p=>p.2)theorem acS(y:cU g x env n)(b:es.all fM=S)(h:bQ (TE g x env ρ) (iQ es env) m):TE g x env ρ (bG (.Tuple es c W) env) (uf m):=by simp[arm_eval_Tuple,ud _ _ b,ue];exact ag.standAt (ag.cv y (uc y h) λ vs as=>acQ λ u u p=>p.2)
end
noncomputable def ug(k:ah):Bool:=decide (-9223372036854775808<=k)&&decide (k<9223372036854775808)def uh(xs:H D)(k:ah):U D:=a8 (ug k) ((v9 k (O xs)).bind λ j=>xs[j]?)
def fh(o:D)(i:D):U D:=match i with
 |.int k=>match o with
  |.ae xs=>uh xs k|.aD xs=>uh xs k|.str s=>(a8 (ug k) (((v9 k s.length).bind λ j=>s.cps[j]?).map λ c=>.str ⟨#[c]⟩))|_=>aa
 |_=>aa
theorem Gf(h:ug k=S): -9223372036854775808<=k/\k<9223372036854775808:=by unfold ug at h;simpa using h
theorem acT(z:IsL s.heap l vs)(P:ug k=S)(D:v9 k (O vs)=B j)(m:vs[j]?=B v)(h:Q v s):
  aO (a5 prog w) A (Lf (.ref l) (.int k t)) Q E s:=by
 refine cq (Gf P) λ W R=>?_;dsimp only[v9]at D;by_cases e:k<0
 ·simp only[e,if_true]at D
  split at D
  ·rename_i C
   obtain rfl:=ak D;exact wpAny_getItem_list_neg z.isList e (by simp;lia) (by assumption) (by simpa using m) h
  ·exact nn D
 ·simp only[e,YX]at D
  split at D
  ·rename_i C
   obtain rfl:=ak D;exact wpAny_getItem_list z.isList (K_.mp e) (by assumption) (by simpa using m) h
  ·exact nn D
theorem acU(R:RD X s.heap o a)(W:RD X s.heap i b)(e:fh a b=B d)(h:∀v t,aV X s.heap v d->Q v {s with toks:=t}):
  (∃T id,s.TypeIs o T/\rg (.type T) "__getitem__" =pure (B (.builtin id)))/\aO (a5 prog w) A (Lf o i) Q E s:=by
 cases b with
 |int k=>
  obtain⟨t,rfl⟩:=W.int;cases a with
  |ae xs=>obtain⟨l,vs,rfl,z,r⟩:=R.mm;obtain⟨q,f⟩:=dn e;obtain⟨j,y,D⟩:=rm.mp f;obtain⟨v,m,V⟩:=r.get D;exact⟨(bh ("list") _ ⟨z.isList.typeIs,slot_list_getitem.lookup⟩),acT z q (L r.length y) m (h v s.toks V)⟩|aD xs=>obtain⟨l,vs,rfl,z,r⟩:=R.t9;obtain⟨q,f⟩:=dn e;obtain⟨j,y,D⟩:=rm.mp f;obtain⟨v,m,V⟩:=r.get D;refine cq (Gf q) λ C P=>⟨bh _ _ ⟨z.isTup.typeIs,aoc.lookup⟩,PyProof.Rows.getItem_tuple (j:=j) z.isTup ?_ ?_ ?_ ?_ (h v s.toks V)⟩;all_goals first|assumption|(simp;rw[r.length];exact y)|(simpa using m)
  |str x=>obtain⟨u,rfl⟩:=R.str;obtain⟨q,f⟩:=dn e;refine av (hR.mp f) λ c y D=>?_;subst D;obtain⟨C,P⟩:=Gf q;refine⟨bh _ _ ⟨Lg s x u,F.slot_str_getitem.lookup⟩,PyProof.Rows.getItem_str ?_ y (h _ _ (.str _ _))⟩;lia|_=>exact nn e
 |_=>exact nn e
section
variable {g:bX}{x:bD}{env:cn}{ρ:az}{n:J}{β γ nv oQ:Type}
set_option tactic.hygienic true in
theorem Gg
  (h:(∃T id,s.TypeIs o T/\rg (.type T) "__getitem__" =pure (B (.builtin id)))/\aO (a5 prog w) A (Lf o i) Q E s):
  aO (a5 prog w) A (Ec v y o i) Q E s:=by
 obtain⟨⟨T,id,N,z⟩,R⟩:=h;obtain b:∃j,subscripted y aj o i=zx j _:=by cases y<;>first|exact⟨_,rfl⟩|(rename_i st _;cases st<;>exact⟨_,rfl⟩)
 exact a7 b λ j=>tail_any N z R
theorem Ot(v y:aJ)(p:cP)(env:cn):bG (.Subscript v y p) env=(do let o<-bG v env;let i<-d_ [o] (bG y env);dZ p;Ec v y o i):=L (arm_eval_Subscript ..) rfl
noncomputable def p7(e:aJ):Bool:= !(aL e.ctorIdx 26)noncomputable def p8{A:Type}(e:aJ)(f:aJ->ai->cP->A)(z:A):A:=if h:e.ctorIdx=20 then zy e h λ o nm p=>f o nm p else z
noncomputable def ui{A:Type}(e:aJ)(f:U aJ->U aJ->U aJ->A)(z:A):A:=if h:e.ctorIdx=26 then Ed e h λ a b c u=>f a b c else z
theorem acV{A:Type}{z:A}{P:A->Prop}{f:aJ->ai->cP->A}(k:∀o nm p,e=.Attribute o nm p->P (f o nm p))(K:P z):P (p8 e f z):=by
 by_cases h:e.ctorIdx=20
 ·exact zy (motive_1:=λ j=>e=j->P (p8 j f z)) e h k rfl
 ·exact(aM P (jb h)).mpr K
theorem acW{A:Type}{z:A}{P:A->Prop}{f:U aJ->U aJ->U aJ->A}(k:∀a b c p,e=.Slice a b c p->P (f a b c))(K:p7 e=S->P z):P (ui e f z):=by
 by_cases h:e.ctorIdx=26
 ·exact Ed (motive_1:=λ j=>e=j->P (ui j f z)) e h k rfl
 ·refine(aM P (jb h)).mpr (K ?_)
  show(!(aL e.ctorIdx 26))=S;exact L (YL.mpr λ q=>h (dE q)) rfl
theorem acX{A Bq:Type}{z:A}{M:Bq}{P:A->Bq->Prop}{f:ai->A}{F:ai->Bq}(k:∀n p,e=.Name n p->P (f n) (F n))(K:P z M):P (hZ e f z) (hZ e F M):=by
 by_cases h:e.ctorIdx=23
 ·exact YU (motive_1:=λ j=>e=j->P (hZ j f z) (hZ j F M)) e h k rfl
 ·exact(congr (aM P (jb h)) (jb h)).mpr K
theorem acY{A Bq:Type}{z:A}{M:Bq}{P:A->Bq->Prop}{f:aJ->ai->cP->A}{F:aJ->ai->cP->Bq}(k:∀o n p,e=.Attribute o n p->P (f o n p) (F o n p))(K:P z M):P (p8 e f z) (p8 e F M):=by
 by_cases h:e.ctorIdx=20
 ·exact zy (motive_1:=λ j=>e=j->P (p8 j f z) (p8 j F M)) e h k rfl
 ·exact(congr (aM P (jb h)) (jb h)).mpr K
theorem acZ{A Bq:Type}{z:A}{M:Bq}{P:A->Bq->Prop}{f:U aJ->U aJ->U aJ->A}{F:U aJ->U aJ->U aJ->Bq}(k:∀a b c,P (f a b c) (F a b c))(K:P z M):P (ui e f z) (ui e F M):=by
 by_cases h:e.ctorIdx=26
 ·exact Ed e h λ a b c p=>k a b c
 ·exact(congr (aM P (jb h)) (jb h)).mpr K
noncomputable def AH:D->U (U ah)
 |.none=>B aa|.int i=>B (B i)|_=>aa
noncomputable def uj(xs:H D)(i:H J):H D:=i.filterMap (xs[·]?)
def ac0(xs:H D)(lo dk st:U ah):U D:=
 a8 (!(st==B 0)&&dc xs) (B (.ae (uj xs (YY (rn lo dk st (O xs)).1 (rn lo dk st (O xs)).2.1 (rn lo dk st (O xs)).2.2))))noncomputable def AI(s:ai)(lo dk:U ah):H Nat:=Builtin.Str.strSliceIndices lo dk 1 s.length
def ac1(s:ai)(lo dk st:U ah):U D:=match st with|some _=>aa|none=>a8 (dc ((AI s lo dk).filterMap (s.cps[·]?))) (B (.str (bif (O (AI s lo dk))==s.length then s else⟨((AI s lo dk).filterMap (s.cps[·]?)).toArray⟩)))
def ac2(xs:H D)(lo dk st:U ah):U D:=match lo with
 |some a=>match dk,st with
  |none,aa=>a8 (decide (1<=a)&&decide (a<=O xs)&&dc xs) (B (.aD (xs.drop a.toNat)))|_,_=>aa
 |none=>aa
def jq(o lo dk st:D):U D:=(AH lo).bind λ lo=>(AH dk).bind λ dk=>(AH st).bind λ st=>match o with|.ae xs=>ac0 xs lo dk st|.str s=>ac1 s lo dk st|.aD xs=>ac2 xs lo dk st|_=>aa
theorem bQ.picked(r:bT X h vs xs):∀I:H J,bT X h (I.filterMap (vs.toArray[·]?)) (uj xs I)
 |[]=>.nil
 |i::I=>by
  unfold uj;dsimp only[Ee,Ee];cases e:xs[i]? with
  |none=>
   have:vs.toArray[i]?=none:=by obtain this:=r.length;rw[rb,Ef];rw[Ef]at e;exact aod this e
   exact L this (r.picked I)
  |some d=>refine av (r.get e) λ v k R=>?_;rw[rb,k];exact .cons R (r.picked I)
theorem part_of(r:RD X h v d)(e:AH d=B p):IsPart v p/\∃q:U (ah×Tok),v=partValue q/\q.map (·.1)=p:=by
 have r:=r.inv;rcases d with _|b|i|u|s|n|n|a|xs|xs|⟨c,xs⟩;case none=>have z:=r;exact ax (ak e) (z▸⟨.none,aa,rfl,rfl⟩)
 case int=>exact a7 r λ t z=>ax (ak e) (z▸⟨.int _ _,B (i,t),rfl,rfl⟩)
 all_goals exact nn e
section
variable {A:m8}{α:H ao}{σ:aE}{s:aU}{Q:aq->aU->Prop}{E:aq->aU->Prop}{o l u t:aq}{kB:ao}{d:D}{lo dk st:U ah}def ac3(g:bX)(A:m8)(s:aU)(Q:aq->aU->Prop)(E:aq->aU->Prop)(o:aq)(kB:ao):Prop:=(∃T id,s.TypeIs o T/\rg (.type T) "__getitem__" =pure (B (.builtin id)))/\aO (a5 g.prog g.w) A (Lf o (.ref kB)) Q E s
theorem ac4(I:aG g x α σ s.heap)(f:s.heap.IsSliceOf kB l u t)
  (r:RD (x.P++α) s.heap o a)(h1:RD (x.P++α) s.heap l b)(eE:RD (x.P++α) s.heap u c)(dP:RD (x.P++α) s.heap t e)(v:jq a b c e=B d)(G:hl x α s Q d):ac3 g A s Q E o kB:=by
 refine b3 v λ lo nB v=>b3 v λ dk nC v=>b3 v λ st y v=>?_;obtain⟨mv,ac5,T,i⟩:=part_of h1 nB;obtain⟨rV,g7,j,X⟩:=part_of eE nC;obtain⟨Gh,V,y,C⟩:=part_of dP y;cases a with
 |ae xs=>exact(by
   refine e4 r.mm λ k vs w D R=>L w ?_;obtain v:=dn v;obtain q:=bF.mp v.1;obtain h:vs.toArray.size=O xs:=R.length;refine⟨bh _ _ ⟨D.isList.typeIs,slot_list_getitem.lookup⟩,wpAny_getItem_list_slice D.isList f mv rV Gh (λ z=>by rw[z]at q;exact aR q.1 (by trivial)) ?_ (L h (b8 q.2))⟩;unfold slicePick;exact L h (((ak v.2).symm▸G).F1 I (R.picked _)))
 |str z=>exact(by
   obtain⟨dm,rfl⟩:=r.str;cases st with
   |some _=>exact nn v|none=>
   obtain v:=dn v;cases V with
   |some _=>exact nomatch C
   |none=>
   refine⟨bh _ _ ⟨Lg s z dm,F.slot_str_getitem.lookup⟩,wpAny_getItem_str_slice (T▸j▸y▸f) rfl ?_⟩;delta sliceMade slicePicked;refine L i (L X ?_);show Made.post (if (1==1&&O (AI z lo dk)==z.length)=S then _ else _) Q s;rw[<-ak v.2]at G;cases K:(O _==z.length)with
   |true=>exact G _ s.heap s.toks (λ u u e=>e) (bH _) (L K (.str _ _))
   |false=>
    refine⟨?_,G _ s.heap _ (λ u u e=>e) (bH _) (L K (.str _ _))⟩;rw[vZ];exact b8 v.1)
 |aD xs=>exact(by
   refine e4 r.t9 λ k vs W N R=>L W ?_;cases lo with
   |none=>exact nn v|some a=>
   cases dk with
   |some _=>exact nn v|none=>
   cases st with
   |some _=>exact nn v|none=>
   cases g7 with
   |some _=>exact nomatch X
   |none=>
   cases V with
   |some _=>exact nomatch C
   |none=>
   cases ac5 with
   |none=>exact nn i|some z=>
   obtain v:=dn v;obtain q:=bF.mp v.1;obtain q1:=bF.mp q.1;obtain P:=iN q1.1;obtain M:=iN q1.2;obtain⟨m,p⟩:=YZ (zk (by decide) P);rw[<-ak v.2,p]at G;rw[p]at P M;exact⟨bh _ _ ⟨N.isTup.typeIs,aoc.lookup⟩,getItem_tuple_from N.isTup ((show z=((m:ah),z.2)from Prod.ext (Y (ak i) p) rfl)▸(T▸j▸y▸f)) (vI.mp P) (L hT (L R.length (vI.mp M))) (G.NY I (R.drop m)) (L hT (L R.length (b8 q.2)))⟩)
 |_=>exact nn v
end
def w2:U (Ev V)->Ev V
 |none=>.ret (.d .none)|some m=>m
inductive h2{Sq T:Type}(R:Sq->T->Prop):U Sq->U T->Prop
 |none:h2 R aa aa
 |some {a b} :R a b->h2 R (B a) (B b)theorem h2.inv{Sq T:Type}{R:Sq->T->Prop}{o b}(h:h2 R o (B b)):∃a,o=B a/\R a b:=by cases h with|some h=>exact⟨_,rfl,h⟩theorem h2.no{Sq T:Type}{R:Sq->T->Prop}{o}(h:h2 R o aa):o=Option.none:=by cases h;rfl
theorem Gi(h:h2 (TE g x env ρ) t m):TE g x env ρ (valueOrNone t) (w2 m):=by cases h with|none=>exact ag.pure λ u u u=>.none|some h=>exact h
theorem ag.ex{Sq:Type}{pre:Sq->H ao->aX->Prop}{post:H ao->aX->β->γ->Prop}(h:∀s,ag g x (pre s) post t m):ag g x (λ α h=>∃s,pre s α h) post t m:=
 λ α σ s f af I T p=>a7 p λ z p=>h z α σ s f af I T p
def Ou(m:Ev V)(M bg i:U (Ev V)):Ev V:=m.bind λ a=>((w2 M).bind λ b=>(w2 bg).bind λ c=>(w2 i).bind λ e=>.ret (b,c,e)).bind λ p=>(Ev.read a).bind λ a=>(Ev.read p.1).bind λ b=>(Ev.read p.2.1).bind λ c=>(Ev.read p.2.2).bind λ e=>Ev.ofD (jq a b c e)
def ac6(x:bD)(α:H ao)(h:aX)(i:aq)(r:V×V×V)(w:aq×aq×aq×ao):Prop:=
 i=.ref w.2.2.2/\h.IsSliceOf w.2.2.2 w.1 w.2.1 w.2.2.1/\a9 (x.P++α) α h w.1 r.1/\a9 (x.P++α) α h w.2.1 r.2.1/\a9 (x.P++α) α h w.2.2.1 r.2.2
theorem ac7(y:cU g x env n){lo dk st:U aJ}(j:TE g x env ρ (bG value env) m)
  (f:h2 (TE g x env ρ) (Lh lo env) M)(X:h2 (TE g x env ρ) (Lh dk env) bg)(k:h2 (TE g x env ρ) (Lh st env) P):TE g x env ρ (bG (.Subscript value (.Slice lo dk st p) W) env) (Ou m M bg P):=by
 refine L (Ot ..) (ag.cv y j λ v a=>ag.hk y (y.hn v a) (ag.cv y (Gi f) λ l b=>ag.hk y (y.hn l b) (Gi X).holding λ u c=>ag.pre (ag.hk y (Gc (y.hn l b) (y.hn u c)) (Gi k).holding λ t e=>ag.wp λ α σ s I T p Q E G=>kx (G _ _ s.toks (λ z z=>dy _) (L (et ..) (hg _)) ⟨(l,u,t,s.heap.objs.size),rfl,.new ..,p.1.2.1.mono (λ z z e n=>⟨dy _ e,n⟩) eV,p.1.2.2.mono (λ z z e n=>⟨dy _ e,n⟩) eV,p.2.mono (λ z z e n=>⟨dy _ e,n⟩) eV⟩) (by show 3<=ku+2;decide)) (λ z z p=>⟨p.1.1,p.1.2,p.2⟩)).holding λ i r=>ag.standAt (ag.pre (ag.ex (pre:=λ w α h=>a9 _ α h v a/\ac6 x α h i r w) λ w=>?_) (λ z z p=>a7 p.2 λ w h=>⟨w,p.1.2,h⟩)));refine ag.ghost (λ z z p=>p.1) λ D=>ag.ghost (v:=w.1) (λ z z p=>p.1.2.2.2.1) λ N=>ag.ghost (v:=w.2.1) (λ z z p=>p.1.1.2.2.2.2.1) λ C=>ag.ghost (v:=w.2.2.1) (λ z z p=>p.1.1.1.2.2.2.2.2) λ R=>ag.toV ?_;cases F:jq D N C R with|none=>exact .au|some d=>refine ag.wp λ α σ s I T p Q E G=>?_;obtain⟨⟨⟨⟨⟨AJ,rfl,q,_⟩,K⟩,eE⟩,dP⟩,Gj⟩:=p;exact Gg (ac4 I q K eE dP Gj F G)
end
theorem Ov(K:OldK E h)(c:E.objs.size<=a)(P:∀b o,b≠a->h.get? b=B o->h'.get? b=B o):OldK E h':=by
 have N:∀b o,E.get? b=B o->b≠a:=λ b o e=>il (eo (dI e) c);refine⟨λ b o e=>?_,λ b o e=>a7 (K.there b o e) λ T p=>⟨T,P b _ (N b o e) p⟩⟩;obtain nb:=N b o e;rcases K.old b o e with x|⟨t,A,vs,m,l,x⟩|⟨rfl,A,⟨T,es,n,p,r⟩,z⟩
 ·exact .inl (P _ _ nb x)
 ·exact .inr (.inl ⟨t,A,vs,m,l,P _ _ nb x⟩)
 ·exact .inr (.inr ⟨rfl,A,(e_ T es n ⟨P _ _ nb p,r⟩),λ k=>L (aoe (Y (P _ _ nb p) p.symm) k) (z k)⟩)
theorem Gk(K:OldK E h){Sq:ao->Prop}(c:∀a,Sq a->E.objs.size<=a)(P:∀b o,¬Sq b->h.get? b=B o->h'.get? b=B o):OldK E h':=by
 have N:∀b o,E.get? b=B o->¬Sq b:=λ b o e q=>aR (dI e) (er.mpr (c b q));refine⟨λ b o e=>?_,λ b o e=>a7 (K.there b o e) λ T p=>⟨T,P b _ (N b o e) p⟩⟩;obtain nb:=N b o e;rcases K.old b o e with x|⟨t,A,vs,m,l,x⟩|⟨rfl,A,⟨T,es,n,p,r⟩,z⟩
 ·exact .inl (P _ _ nb x)
 ·exact .inr (.inl ⟨t,A,vs,m,l,P _ _ nb x⟩)
 ·exact .inr (.inr ⟨rfl,A,(e_ T es n ⟨P _ _ nb p,r⟩),λ k=>L (aoe (Y (P _ _ nb p) p.symm) k) (z k)⟩)
theorem c0.Ow{Sq:ao->Prop}(Q:h.objs.size<=h'.objs.size)(y:∀a,Sq a->a∈X)(k:∀b o,¬Sq b->h.get? b=B o->h'.get? b=B o)
  {as:H ao}{ms:aE}(r:c0 P X α h as ms)(l:∀(i:J)(a:ao),as[i]?=B a->Sq a->ms[i]?=B .cX):c0 P X α h' as ms:=by
 induction r with
 |nil=>exact .nil
 | @cons a as m ms r R I=>
  refine .cons ?_ (I λ i b e q=>l (i+1) b e q);by_cases e:m=.cX
  ·subst e;exact eo r Q
  ·obtain N:=λ q=>e (ak (l 0 a rfl q))
   exact r.mono Q (a7 (r.there e) λ o e=>Y (k _ _ N e) e.symm) (λ b o e n=>⟨k _ _ (λ q=>n (y b q)) e,n⟩) eV
theorem c0.set(Q:h.objs.size<=h'.objs.size)(K:∀b o,h.get? b=B o->b∉X->h'.get? b=B o)(k:∀b o,b≠a->h.get? b=B o->h'.get? b=B o)(p:d2 P X α h' a m)
  {ms:aE}{i:J}(r:c0 P X α h as ms)(N:as.Nodup)(e:as[i]?=B a):c0 P X α h' as (ms.set i m):=by
 have one:∀{b q},b≠a->d2 P X α h b q->d2 P X α h' b q:=λ{b q} nb r=>by
  by_cases E:q=.cX
  ·subst E;exact eo r Q
  ·exact r.mono Q (a7 (r.there E) λ o e=>Y (k _ _ nb e) e.symm) (λ b o e n=>⟨K _ _ e n,n⟩) eV
 have all:∀{as:H ao}{ms:aE},c0 P X α h as ms->(∀c∈as,c≠a)->c0 P X α h' as ms:=λ{as ms} r=>by induction r with|nil=>exact λ u=>.nil|cons r _ I=>exact λ n=>.cons (one (n _ cV) r) (I λ c A=>n c (c7 _ A))
 induction r generalizing i with|nil=>exact nn e|cons r R I=>have N:=YC.mp N;induction i with|zero=>obtain e:=ak e;exact .cons (L e p) (all R λ c A z=>N.1 (e▸z▸A))|succ i=>exact .cons (one (λ z=>N.1 (z▸eK e)) r) (I N.2 e)
theorem aG.upd(I:aG g x α σ h)(G:cb x.F x.P)(f:α[i]?=B a)(k:∀b o,b≠a->h.get? b=B o->h'.get? b=B o)(s:h.objs.size<=h'.objs.size)
  (w:d2 g.w.params (x.P++α) α h' a m):aG g x α (σ.set i m) h'/\a_ x.F x.W α h α h':=by
 have A:=eK f;have p:=I.c8 a A;refine⟨⟨?_,bA I.big s,I.b2,λ b v=>a7 (I.alive b v) λ o e=>⟨o,k b o (λ z=>p (z▸v)) e⟩,I.dv,I.c8,c0.set s (λ b o e n=>k b o (λ z=>n (L z (aW _ A))) e) k w I.bM I.dv f,λ e y=>(I.fr e y).e λ l o q b c d r=>⟨q,l,o,b,c,k _ _ (λ z=>p (z▸G l c)) d,r⟩,Ov I.old (I.b2 a (.inr A)).2 k⟩,⟨s,w3,?_,?_⟩⟩
 ·refine λ b o e=>k b o (λ z=>?_) (I.base b o e)
  subst z;rw[(I.b2 b (.inr A)).1]at e;exact nn e
 ·intro b o e u u n;exact k b o (λ z=>n (L z A)) e
 ·intro b o e u n;exact⟨o.slots,k b o (λ z=>n (L z A)) e⟩
theorem aG.cX(I:aG g x α σ h)(G:cb x.F x.P){Sq:ao->Prop}(y:∀a,Sq a->a∈α)(E:∀(i:J)(a:ao),α[i]?=B a->Sq a->σ[i]?=B .cX)(k:∀b o,¬Sq b->h.get? b=B o->h'.get? b=B o)(P:h.objs.size<=h'.objs.size):
  aG g x α σ h'/\a_ x.F x.W α h α h':=by
 have N:=λ b s q=>I.c8 b (y b q) s;refine⟨⟨?_,bA I.big P,I.b2,λ b s=>a7 (I.alive b s) λ o e=>⟨o,k b o (N b s) e⟩,I.dv,I.c8,I.bM.Ow P (λ a q=>aW _ (y a q)) k E,λ e f=>(I.fr e f).e λ l o q b c d r=>⟨q,l,o,b,c,k _ _ (N l (G l c)) d,r⟩,Gk I.old (λ a q=>(I.b2 a (.inr (y a q))).2) k⟩,⟨P,w3,?_,?_⟩⟩
 ·refine λ b o e=>k b o (λ z=>?_) (I.base b o e)
  rw[(I.b2 b (.inr (y b z))).1]at e;exact nn e
 ·intro b o e u u n;exact k b o (λ z=>n (y b z)) e
 ·intro b o e u n;exact⟨o.slots,k b o (λ z=>n (y b z)) e⟩
theorem aG.Gl(I:aG g x α σ h)(G:cb x.F x.P)(d:α[i]?=B a)(p:d2 g.w.params (x.P++α) α h a m):aG g x α (σ.set i m) h:=
 (I.upd G d (λ u u u e=>e) (bH _) p).1
theorem aG.kill(I:aG g x α σ h)(G:cb x.F x.P)(c:α[i]?=B a):aG g x α (σ.set i .cX) h:=
 I.Gl G c (I.bM.lt _ (eK c))
theorem aG.put(I:aG g x α σ h)(G:cb x.F x.P)(d:α[i]?=B a)(c:hU a h h')(p:(fX h h' (x.P++α) (x.P++α))->d2 g.w.params (x.P++α) α h' a m):aG g x α (σ.set i m) h'/\a_ x.F x.W α h α h':=
 I.upd G d (λ b o q e=>Y (c.2 b q) e) (fV c.1.symm) (p λ b o e n=>⟨Y (c.2 b λ q=>n (L q (aW _ (eK d)))) e,n⟩)
theorem aG.gone(I:aG g x α σ h)(G:cb x.F x.P)(c:α[i]?=B a)(k:∀b o,b≠a->h.get? b=B o->h'.get? b=B o)(s:h.objs.size<=h'.objs.size):aG g x α (σ.set i .cX) h'/\a_ x.F x.W α h α h':=
 I.upd G c k s (eo (I.nz (aW _ (eK c))) s)
theorem aG.new(I:aG g x α σ h)(o:fe)(m:cj)(e:d2 g.w.params (x.P++(α++ [h.objs.size])) (α++ [h.objs.size]) (h.push o) h.objs.size m):
  aG g x (α++ [h.objs.size]) (σ++ [m]) (h.push o)/\a_ x.F x.W α h (α++ [h.objs.size]) (h.push o)/\a9 (x.P++(α++ [h.objs.size])) (α++ [h.objs.size]) (h.push o) (.ref h.objs.size) (.aH (O σ)):=
 ⟨I.grow o m e,.grow _ _,⟨h.objs.size,ax I.bM.length Ea,rfl⟩⟩theorem uk{x:bD}{h:aX}(e:h.get? b=B o)(n:b∉x.P++α):b∉x.P++(α++ [h.objs.size]):=by rw[<-eb,bB,rj];exact⟨n,λ q=>aR (dI e) (L (ek.mp q) (hu _))⟩theorem rW{x:bD}{h:aX}(o:fe):∀b T,h.get? b=B T->b∉x.P++α->(h.push o).get? b=B T/\b∉x.P++(α++ [h.objs.size]):=by refine λ b T e n=>⟨dy _ e,?_⟩;rw[<-eb,bB,rj];exact⟨n,λ q=>aR (dI e) (L (ek.mp q) (hu _))⟩noncomputable def rX(m:cj):Ev V:=λ σ=>B (.ok (.aH (O σ)),σ++ [m])
noncomputable def Ox:D->U fu
 |.ae xs=>B (.list xs 0)|.aD xs=>B (.aD xs 0)|.str s=>B (.str s 0)|_=>aa
noncomputable def Oy:fu->aF
 |.zip .. |.enu .. |.rev .. =>S|_=>aj
def Oz(j:J)(m:cj):Ev V:=λ σ=>match m with|.ae _=>rX (.it (.e3 j 0)) σ|.it k=>bR (Oy k) (B (.ok (.aH j),σ))|.hX a b=>bR (zz a b 1) (rX (.it (.jk a (b-a).toNat)) σ)|_=>aa
def g8(v:V):Ev V:=λ σ=>match v with|.d d=>(Ox d).bind λ k=>rX (.it k) σ|.aH j=>(σ[j]? :U cj).bind λ m=>Oz j m σ
theorem AK(h:(σ[j]? :U cj)=B m):g8 (.aH j) σ=Oz j m σ:=by show(σ[j]?).bind _=_;exact L h rfl
theorem ac8(e:g8 a σ=B (o,af)){G:Prop}(K:∀d k,a=.d d->Ox d=B k->o=.ok (.aH (O σ))->σ++ [.it k]=af->G)(C:∀j k,a=.aH j->σ[j]?=B (.it k)->Oy k=S->o=.ok (.aH j)->σ=af->G)
  (n:∀j xs,a=.aH j->σ[j]?=B (.ae xs)->o=.ok (.aH (O σ))->σ++ [.it (.e3 j 0)]=af->G)(y:∀j b c,a=.aH j->σ[j]?=B (.hX b c)->zz b c 1=S->o=.ok (.aH (O σ))->σ++ [.it (.jk b (c-b).toNat)]=af->G):G:=by
 have z:∀{r:Res V}{g:aE},B _=B _->o=r/\g=af:=λ e=>have p:=bf (ak e);⟨p.1.symm,p.2⟩;induction a with|d d=>exact b3 e λ k h e=>K d k rfl h (z e).1 (z e).2|aH j=>refine b3 e λ m h e=>?_;induction m with|ae xs=>exact n j xs rfl h (z e).1 (z e).2|it k=>exact bN e λ f e=>C j k rfl h f (z e).1 (z e).2|hX b c=>exact bN e λ f e=>y j b c rfl h f (z e).1 (z e).2|_=>exact nn e
theorem OA(a b:ah):aof a b 1=((b-a).toNat:ah):=by unfold aof;simp;split<;>lia
theorem AL(w:∀α h,pre α h->a9 (x.P++α) α h v a):ag g x pre (dA x) (tx v) (g8 a):=by
 intro α σ s C af I G p e Q E K he;obtain r:=w _ _ p;have m:∀(o:fe) k,d2 g.w.params _ _ _ s.heap.objs.size _->C=.ok _->σ++ [.it k]=af->Q _ _:=λ o k q f es=>
  have z:=I.new o _ q
  K _ _ _ s.toks _ f z.2.1 (ax es z.1) G z.2.2
 refine ac8 e (λ d k y T f es=>?_) (λ j k X V D f es=>?_) (λ j xs X V f es=>?_) λ j b c X V D f es=>?_
 ·rw[y]at r
  obtain r:=(r).inv;rcases d with _|_|_|_|z|_|_|_|xs|xs|⟨_,_⟩;case ae=>obtain⟨l,vs,ev,N,R,A⟩:=r;rw[ev];exact Eg R.isList (m _ (.list xs 0) (a7 R λ n e=>(bh l vs ⟨⟨_,d0 _ rfl,rfl,rfl⟩,uk e N,⟨n,dy _ e⟩,A.mono (rW _)⟩)) f (ak T▸es))
  case aD=>obtain⟨l,vs,ev,N,R,A⟩:=r;rw[ev];exact Y0 R.iV (m _ (.aD xs 0) (a7 R λ n e=>(bh l vs ⟨⟨_,d0 _ rfl,rfl,rfl⟩,uk e N,⟨n,dy _ e⟩,A.mono (rW _)⟩)) f (ak T▸es))
  case str=>exact a7 r λ t ev=>L ev (dO _ (λ P=>wpAny_pyIter_ascii P (m _ (.str z 0) ⟨t,.inl ⟨_,d0 _ rfl,rfl,rfl⟩⟩ f (ak T▸es))) λ P=>wpAny_pyIter_wide P (m _ (.str z 0) ⟨t,.inr ⟨_,d0 _ rfl,rfl,rfl⟩⟩ f (ak T▸es)))
  all_goals exact nn T
 ·rw[X]at r
  refine av r λ a P ev=>?_;obtain M:=I.look P V;have F:=K _ _ _ s.toks _ f (.refl ..) (ax es I) G ⟨a,P,rfl⟩;refine L ev ?_;rcases k with⟨_,_⟩|⟨_,_⟩|⟨_,_⟩|⟨_,_⟩|⟨_,_⟩|⟨xs,k⟩|⟨i,k⟩|⟨js,t⟩;case zip=>exact rS M λ TI TO bs u u u W u=>wpAny_pyIter_zip W F
  case enu=>exact eM M λ b old u W=>wpAny_pyIter_enum W F
  case rev=>exact eM M λ l vs W u=>aog W F
  all_goals exact bw D
 ·rw[X]at r
  obtain⟨a,P,ev⟩:=r;exact av (I.look P V) λ vs R A=>L ev (Eg R.isList (m _ (.e3 j 0) ⟨a,get_append P,⟨_,d0 _ rfl,rfl,rfl⟩⟩ f es))
 ·rw[X]at r
  exact av r λ a P ev=>(mf (I.look P V) λ t u v d1=>(L ev (wpAny_pyIter_range d1 D (L (OA ..) (m {cls:=.type "range_iterator",data:=.fields #[gz b,gz _,gz 1] } (.jk b (c-b).toNat) (d0 _ rfl) f es)))))
theorem ac9{j:J}(I:aG g x α σ s.heap)(f:α[j]?=B a)(n:σ[j]?=B (.it k))(h:Q (.ref a) s):
  aO (a5 g.prog g.w) A (tx (.ref a)) Q E s:=by
 obtain m:=I.look f n;induction k with
 |list xs i=>exact eM m λ l vs d u=>aoh d h|e3 j i=>exact av m λ l u d=>aoh d h|aD xs i=>exact eM m λ l vs d u=>wpAny_pyIter_tupleiter d h
 |str z i=>
  obtain⟨t,d|d⟩:=m
  ·exact wpAny_pyIter_striter_ascii d h
  ·exact wpAny_pyIter_striter_wide d h
 |jk b c=>exact wpAny_pyIter_rangeiter m h|rev xs k=>exact eM m λ l vs d u=>aog d h|enu i k=>exact eM m λ b P u d=>wpAny_pyIter_enum d h|zip js t=>exact rS m λ V K bs u u u d u=>wpAny_pyIter_zip d h
noncomputable def ownsTuple(n:b1):Bool:=["enumerate","zip","dict_itemiterator","dict_reverseitemiterator","odict_iterator","itertools.zip_longest","itertools.pairwise"].contains n
theorem OB(t:aJ)(i:s.heap.get? r=B o)(C:o.cls=.type ty)
  (V:ownsTuple ty=aj)(h:Q () s):aO M A (Li t (.ref r) v) Q E s:=by
 have k:aO M A (match((hP r,v):aq×aq)with
   |(.ref r,.ref a)=>(do
    let o<-load r
    match o.cls,o.data with
    |.type n,.fields vs=>
     if ["enumerate","zip","dict_itemiterator","dict_reverseitemiterator","odict_iterator","itertools.zip_longest","itertools.pairwise"].contains n&&vs[0]?==B (gz a)then
      rule "for.unpacks-the-owned-tuple"
      updateField r 0 .none
    |_,_=>pure ():bj gL)
   |_=>(pure ():bj gL)) Q E s:=by
  induction v with
  |ref a=>
   refine aB (wpAny_load i (L C ?_));cases l:o.data with
   |fields vs=>have b:(["enumerate","zip","dict_itemiterator","dict_reverseitemiterator","odict_iterator","itertools.zip_longest","itertools.pairwise"].contains ty)=false:=V;exact((L b (bl h)):aO M A (if (["enumerate","zip","dict_itemiterator","dict_reverseitemiterator","odict_iterator","itertools.zip_longest","itertools.pairwise"].contains ty&&vs[0]?==B _)=S then _ else _) Q E s)|_=>exact bl h
  |_=>exact bl h
 rcases t with _|_<;>first|exact bl h|exact k
noncomputable def stepK:fu->U (U (D×fu))
 |.list xs i=>B ((xs[i]?).map λ d=>(d,.list xs (i+1)))|.aD xs i=>B ((xs[i]?).map λ d=>(d,.aD xs (i+1)))|.str s i=>B ((s.cps[i]?).map λ c=>(.str ⟨#[c]⟩,.str s (i+1)))
 |.jk a n=>match n with
  |0=>B aa|m+1=>B (B (.int a,.jk (a+1) m))
 |.rev xs k=>match k with
  |0=>B aa|m+1=>B ((xs[m]?).map λ d=>(d,.rev xs m))
 |_=>aa
theorem w4{a:ao}(r:bT X h vs xs){i:J} :(xs[i]?=aa->vs.toArray[i]?=aa):=by intro e;rw[rb,Ef];exact aod r.length ((Ef).mp e)
theorem AM{A Bq:Type}{o:U A}{f:A->Bq}{p:Bq}(e:B (o.map f)=B (B p)){G:Prop}(k:∀a,o=B a->f a=p->G):G:=by
 rcases o with _|a
 ·exact nn (ak e)
 ·exact k a rfl (ak (ak e))
theorem OC(G:a∈X)(r:iz X α s.heap a k)(e:stepK k=B (B (d,I)))
  (h:∀v h' t,hU a s.heap h'->iz X α h' a I->(∀Yq,(cb Yq X)->aV Yq h' v d)->aV X h' v d->Q (B v) {s with heap:=h',toks:=t}):aO (a5 prog w) A (m9 (.ref a)) Q E s:=by
 have K:∀{h'},hU a s.heap h'->fX s.heap h' X X:=λ f b o e n=>⟨Y (f.2 b (λ z=>n (L z G))) e,n⟩;have sub:∀{h' v d},aV X h' v d->∀Yq,(cb Yq X)->aV Yq h' v d:=λ r Yq M=>r.mono λ b o e n=>⟨e,λ z=>n (M b z)⟩;induction k with
 |list xs i=>refine eg r λ l vs y g x P=>AM e λ D F e=>?_;obtain⟨rfl,rfl⟩:=bf e;refine av (P.get F) λ v T W=>Y1 y x.isList (rb.trans T) λ h' V f=>?_;have R:=W.mono (K f);exact x.elim λ n j=>h v h' s.toks f (bh l vs ⟨V,g,⟨n,(K f _ _ j g).1⟩,P.mono (K f)⟩) (sub R) R|aD xs i=>refine eg r λ l vs y g x P=>AM e λ D F e=>?_;obtain⟨rfl,rfl⟩:=bf e;refine av (P.get F) λ v T W=>aoi y x.iV (rb.trans T) λ h' V f=>?_;have R:=W.mono (K f);exact x.elim λ n j=>h v h' s.toks f (bh l vs ⟨V,g,⟨n,(K f _ _ j g).1⟩,P.mono (K f)⟩) (sub R) R|str z i=>refine AM e λ c F e=>?_;obtain⟨rfl,rfl⟩:=bf e;exact r.elim λ t C=>C.elim (λ C=>wpAny_pyNext_ascii_item C F λ h' V f=>h _ h' _ f ⟨t,.inl V⟩ (λ u u=>.str _ _) (.str _ _)) λ C=>wpAny_pyNext_wide_item C F λ h' V f=>h _ h' _ f ⟨t,.inr V⟩ (λ u u=>.str _ _) (.str _ _)
 |jk b n=>
  rcases n with _|m
  ·exact nn (ak e)
  ·obtain⟨rfl,rfl⟩:=bf (ak (ak e))
   refine wpAny_pyNext_range_item r (by lia) λ h' V f=>h _ h' _ f ?_ (λ u u=>.int _ _) (.int _ _);rw[(show(((m+1:J):ah)- 1)=m by lia)]at V;exact V
 |rev xs k=>
  rcases k with _|m;case zero=>exact nn (ak e)
  case succ=>refine lg r λ l vs y N g x P=>AM e λ D F e=>?_;obtain⟨rfl,rfl⟩:=bf e;refine av (P.get F) λ v T W=>?_;rw[(show(((m+1:J):ah)- 1)=m by lia)]at y;refine wpAny_pyNext_rev_item y x.isList (rb.trans T) λ h' V f=>?_;have R:=W.mono (K f);exact x.elim λ n j=>h v h' s.toks f (bh l vs ⟨V,jP N,g,⟨n,(K f _ _ j g).1⟩,P.mono (K f)⟩) (sub R) R
 |_=>exact nn e
theorem ac_(f:A.handled=aa)(r:iz X α s.heap a k)(e:stepK k=B aa)
  (h:∀h' t,pM a s.heap h'->Q aa {s with heap:=h',toks:=t}):aO (a5 prog w) A (m9 (.ref a)) Q E s:=by
 induction k with
 |list xs i=>refine eg r λ l vs u g x R=>Y2 f u x.isList (w4 (a:=a) R (v_.mp (ak e))) λ h'=>h h' s.toks|aD xs i=>refine eg r λ l vs u g x R=>wpAny_pyNext_tuple_end f u x.iV (w4 (a:=a) R (v_.mp (ak e))) λ h'=>h h' s.toks|str z i=>have F:=v_.mp (ak e);exact r.elim λ t d=>d.elim (λ d=>wpAny_pyNext_ascii_end f d F λ h' c=>h h' s.toks c) λ d=>wpAny_pyNext_wide_end f d F λ h' c=>h h' s.toks c
 |jk b n=>
  induction n with
  |zero=>exact wpAny_pyNext_range_end f r (Int.ofNat_zero_le _) λ h'=>h h' s.toks|succ m=>exact nn (ak e).symm
 |rev xs k=>
  induction k with
  |zero=>exact lg r λ l vs u o g x R=>(wpAny_pyNext_rev_end f u λ h' c=>h h' s.toks c)|succ m=>exact lg r λ l vs u o g x R=>aR o (er.mpr (Ef.mp (v_.mp (ak e))))
 |_=>exact nn e
theorem OD(h:aO M A (m9 v) (λ r s'=>∃x,r=B x/\P x s') (λ u u=>False) s):
  aO M A (tA v) P E s:=λ z p q=>by
 obtain h:=h z p q;dsimp only[m9]at h;unfold tA;rw[Sem.wp_bind']at h ⊢;rw[Sem.wp_attempt]at h;refine Sem.wp_mono M z _ (λ r V s' Q=>?_) (λ e V s' c=>?_) p s h
 ·induction r with|none=>exact aR Q (by trivial)|some x=>exact av Q λ y e d=>L (ak e) d
 ·replace he:=c
  refine(ada M z _ V s' (Sem.wp_mono M z _ (λ b p s h=>?_) (λ u u u h=>h) V s' ((Sem.wp_bind' ..).mp c))).elim;induction b with|true=>exact av h λ y e u=>(nn e)|false=>exact h
noncomputable def inner:fu->aF
 |.list .. |.aD .. |.str .. =>S|_=>aj
section
variable {prog:K7}{w:di}{A:m8}{X α:H ao}{s:aU}{E:aq->aU->Prop}{a:ao}
theorem adb(T:a∈X)(r:iz X α s.heap a k)(e:stepK k=B (B (d,cH)))
  (h:∀v h' t,hU a s.heap h'->iz X α h' a cH->aV X h' v d->Q v {s with heap:=h',toks:=t}):aO (a5 prog w) A (tA (.ref a)) Q E s:=
 OD (OC T r e λ v h' t b R u V=>⟨v,rfl,h v h' t b R V⟩)
theorem OE(f:A.handled=aa)(h:s.heap.IsTupleIter it t i)(p:s.heap.IsTuple t I)(K:I[i]?=aa)
  (y:∀h' e,pM it s.heap h'->(∃o,h'.get? e=B o/\o.cls=.type "StopIteration")->E (.ref e) {s with heap:=h'}):aO (a5 prog w) A (tA (.ref it)) Q E s:=by
 refine gF (id h) λ o j C l=>?_;obtain⟨k,u,_,n,v⟩:=p;refine aB (Y3 h.typeIs aoj
  (zA aoj h.typeIs F.entry_tuple_iterator_next ?_ (F.args_tuple_iterator_next_1 _)))
 refine((aB (ou j l (x:=.ref t) rfl ?_)):aO _ _ (field _ 0>>=_) _ _ s);refine aB (ou j l rfl ?_);refine aB (Eh u v ?_);simp[aok,K];refine aB (tr (aB (wpAny_setField j l (aol rfl) (aB (aB (m:=firstArgMember _ _) (wpAny_of_eq (a:=jO) rfl (kx (aB (wpAny_handled ?_)) (by size_fits))))))));first|rw[f]|rw[f]
 exact λ c P b=>y _ _ (((tB ..).extBut.push _).push _) ⟨_,d0 _ rfl,rfl⟩
theorem ade(f:A.handled=aa)(u:inner k=S)(r:iz X α s.heap a k)(e:stepK k=B aa)
  (h:∀h' e,pM a s.heap h'->(∃o,h'.get? e=B o/\o.cls=.type "StopIteration")->E (.ref e) {s with heap:=h'}):aO (a5 prog w) A (tA (.ref a)) Q E s:=by
 induction k with|list xs i=>refine eg r λ l vs u b x R=>wpAny_nextOf_list_end f u x.isList (w4 (a:=a) R (v_.mp (ak e))) h|aD xs i=>refine eg r λ l vs u b x R=>OE f u x.iV (w4 (a:=a) R (v_.mp (ak e))) h|str z i=>have F:=v_.mp (ak e);exact r.elim λ t d=>d.elim (λ d=>wpAny_nextOf_ascii_end f d F h) λ d=>wpAny_nextOf_wide_end f d F h|_=>exact bw u
theorem OF(T:a∈X)(r:iz X α s.heap a k)(e:stepK k=B (B (d,cH)))
  (h:∀v h' t,hU a s.heap h'->s.toks<=t->iz X α h' a cH->aV X h' v d->Q (B v) {s with heap:=h',toks:=t}):aO (a5 prog w) A (m9 (.ref a)) Q E s:=
 g4 (OC T r e λ v h' t a b u c g=>h v h' t a g.toks b c)
theorem adf(T:a∈X)(r:iz X α s.heap a k)(e:stepK k=B (B (d,cH)))
  (h:∀v h' t,hU a s.heap h'->s.toks<=t->iz X α h' a cH->aV X h' v d->Q v {s with heap:=h',toks:=t}):aO (a5 prog w) A (tA (.ref a)) Q E s:=
 g4 (adb T r e λ v h' t a b c g=>h v h' t a g.toks b c)
theorem OG(f:A.handled=aa)(r:iz X α s.heap a k)(e:stepK k=B aa)
  (h:∀h' t,pM a s.heap h'->s.toks<=t->s.heap.objs.size<=h'.objs.size->Q aa {s with heap:=h',toks:=t}):aO (a5 prog w) A (m9 (.ref a)) Q E s:=
 g4 (ac_ f r e λ h' t a g=>h h' t a g.toks g.size)
theorem adg(f:A.handled=aa)(t:inner k=S)(r:iz X α s.heap a k)(e:stepK k=B aa)
  (h:∀h' e,pM a s.heap h'->s.heap.objs.size<=h'.objs.size->(∃o,h'.get? e=B o/\o.cls=.type "StopIteration")->E (.ref e) {s with heap:=h'}):aO (a5 prog w) A (tA (.ref a)) Q E s:=
 g4 (ade f t r e λ h' e a b g=>h h' e a g.size b)
end
noncomputable def w5{A:Type}(m:U cj)(f:fu->U A):U A:=m.bind λ m=>match m with|.it k=>f k|_=>aa
theorem AN{A:Type}{f:fu->U A}{r:A}(e:w5 m f=B r){G:Prop}(k:∀i,m=B (.it i)->f i=B r->G):G:=
 b3 e λ m h e=>by induction m with|it i=>exact k i h e|_=>exact nn e
theorem j0{A:Type}{f:fu->U A}(h:m=B (.it i)):w5 m f=f i:=L h rfl
noncomputable def adh(j:J)(σ:aE)(R:aE->U (U (H D)×aE))(q:U (D×fu)):U (U (H D)×aE):=match q with|none=>B (aa,σ.set j .cX)|some p=>(R (σ.set j (.it p.2))).map λ r=>(r.1.map (p.1:: ·),r.2)def h3(js:H J):aE->U (U (H D)×aE):=js.rec (λ σ=>B (B [],σ)) λ j u I σ=>w5 σ[j]? λ k=>bR (inner k) ((stepK k).bind (adh j σ I))
theorem Gm(e:h3 (j::js) σ=B (r,af)){G:Prop}(u:∀k,σ[j]?=B (.it k)->inner k=S->stepK k=B aa->r=aa->σ.set j .cX=af->G)
  (C:∀k d K R,σ[j]?=B (.it k)->inner k=S->stepK k=B (B (d,K))->h3 js (σ.set j (.it K))=B (R,af)->R.map (d:: ·)=r->G):G:=
 AN e λ k h e=>bN e λ s e=>b3 e λ q b e=>match q,b,e with|none,b,e=>have p:=bf (ak e);u k h s b p.1.symm p.2|some (d,K),b,e=>gE e λ R E v=>have p:=bf v;C k d K R.1 h s b (Y E (aM (λ t=>B (R.1,t)) p.2)) p.1
theorem OH:∀{js:H J}{σ af:aE}{r:U (H D)},h3 js σ=B (r,af)->O af=O σ
 |[],_,_,_,e=>(bf (ak e)).2▸rfl|_::_,_,_,_,e=>Gm e (λ u u u u u E=>E▸zB) λ u u u u u u u e u=>Y (OH e) zB
theorem set_same{A:Type}{l:H A}{a:A}(h:l[i]?=B a):l.set i a=l:=by refine a7 (jN.mp h) λ s w=>?_;exact ax w (List.set_getElem_self s)
section
variable {g:bX}{x:bD}{α:H ao}{β:Type}noncomputable def adi(t:ao)(k:J)(v:aq):bj (pH (U PySem.Fin×gL)):=seqItems? (.ref t)>>=λ r=>match r with|some K=>Y4 t (λ xs=>xs.setIfInBounds k v)>>=λ u=>letGo [K.getD k .none]>>=λ u=>pure (.yield (aa,()))|none=>(DS "internal:zip.__next__" :bj gL)>>=λ u=>pure (.yield (aa,()))
structure OI(g:bX)(x:bD)(α:H ao)(z TI TO:ao)(mw t n:J)(σ:aE)(h:aX)(vs done:H aq)(ds:H D):Prop where
 I:aG g x α σ h
 fy:zu h z TI TO .ellipsis
 jr:h.get? TO=B {cls:=.type "tuple",data:=.seq vs.toArray}
 cD:bT (x.P++α) h done ds
 OJ:σ[t]?=B (.gD n)
 AO:σ[mw]?=B .cX
theorem adj(aps:g.prog=prog)(hw:g.w=w)(fq:A.handled=aa)(iC:cb x.F x.P){nn:J}
  (hf:∀it k st (Q:pH (U PySem.Fin×gL)->aU->Prop)(E:aq->aU->Prop)(s:aU),aO (a5 prog w) A (tA it) (λ v s1=>aO (a5 prog w) A (adi I k v) Q E s1) (λ e s1=>aO (a5 prog w) A (setField (.ref z) 0 .none) (λ u s2=>E e s2) E s1) s->aO (a5 prog w) A (f (it,k) st) Q E s)
  (fZ:α[t]?=B I)(V:α[mw]?=B z)(htz:I≠z)(da:nn<=1000):
  ∀(js:H J)(bs:H ao)(σ af:aE)(s:aU)(done K:H aq)(P:H D)(r:U (H D)),(js.map λ j=>α[j]?)=bs.map B->1<=s.toks->OI g x α z TI I mw t nn σ s.heap (done++K) done P->
   O K=O js->O (done++K)=nn->h3 js σ=B (r,af)->
   (∀h' F vs ds,r=B ds->a_ x.F x.W α s.heap α h'->OI g x α z TI I mw t nn af h' (done++vs) (done++vs) (P++ds)->O vs=O js->1<=F->Q (aa,()) (cT s h' F))->
   (∀h' F e,r=aa->a_ x.F x.W α s.heap α h'->aG g x α af h'->(∃o,h'.get? e=B o/\o.cls=.type "StopIteration")->1<=F->E (.ref e) (cT s h' F))->
   aO (a5 prog w) A (forIn ((bs.map hP).zipIdx (O done)) (aa,()) f) Q E s
 :=by
  intro js;induction js with
  |nil=>
   intro bs σ af s done K P r N F y cL p e dp he;induction bs with
   |cons=>exact nomatch N
   |nil=>have e:=bf (ak e);have:=zv cL;exact bl (dp s.heap s.toks [] [] e.1.symm (.refl ..) (by rw[this]at y;rw[ea]at y;rw[ea,ea];exact ax e.2 y) rfl F)
  |cons j js w6=>
   intro bs σ af s done K P r N F y cL p e dp he;induction bs with
   |nil=>exact nomatch N
   |cons b bs=>
   obtain N:=kp N;have h:=N.1;induction K with
   |nil=>exact nomatch cL
   |cons o K=>
   obtain bm:=aW _ (eK h);have sep:∀{i:J}{c:ao}{m:cj}{k:fu},σ[j]?=B _->σ[i]?=B m->m≠ .it k->α[i]?=B c->j≠i/\c≠b:=λ{i c m k} c5 cw cZ fw=>
    have q:j≠i:=λ q=>cZ (ak (Y cw.symm (q▸c5)))
    ⟨q,λ OK=>q ((Ei (jN.mp h).1 y.I.dv).mp (Y h (ax OK fw.symm)))⟩
   rw[lZ,List.zipIdx_cons,k1];refine Gm e (λ k em dk es j1 w7=>?_) λ k d cH p9 em dk es e j1=>?_
   ·refine av (y.I.bM.get h) λ m Gn nD=>?_
    rw[<-ak (Y em.symm Gn)]at nD;have iY:=sep em y.AO (λ q=>nomatch q) V;refine aB (hf _ _ _ _ _ _ (adg fq dk nD es λ h' ex hj w8 hex=>?_));have AP:=hj _ _ iY.2 y.fy;obtain hD:=y.I.upd iC h (m:=.cX) hj w8 (eo (y.I.nz bm) w8);refine Lj AP (aol rfl) λ cw w9 X=>?_;have X:hU z h' cw:=X;have OL:=fV X.1.symm;obtain G:=hD.1.upd iC V (m:=.cX) (λ b o q=>(X.2 b q).trans) OL (eo (hD.1.nz (aW _ (eK V))) OL);rw[set_same (show(σ.set j .cX)[mw]?=B .cX by rw[Ej iY.1];exact y.AO),w7]at G;refine av hex λ AQ Gp w_=>?_;have hez:ex≠z:=λ q=>by rw[q,AP]at Gp;rw[<-ak Gp]at w_;injection w_ with q;exact aR q (by decide)
    exact he cw s.toks ex j1 (hD.2.trans G.2) G.1 ⟨AQ,Y (X.2 _ hez) Gp,w_⟩ F
   ·refine av (y.I.bM.get h) λ m Gn nD=>?_
    simp[<-ak (Y em.symm Gn)]at nD;obtain iY:=sep em y.AO (λ q=>nomatch q) V;obtain st:=sep em y.OJ (λ q=>nomatch q) fZ;refine aB (hf _ _ _ _ _ _ (adf bm nD es λ v c5 xa dd OM mr' g9=>?_));have W:∀R o,R≠b->s.heap.get? R=B o->c5.get? R=B o:=λ R o q=>Y (dd.2 R q);have hD:=y.I.upd iC h (m:=.it cH) W (fV dd.1.symm) mr';have Gq:=W _ _ st.2 y.jr;have lim:(done++o::K).toArray.size<=sizeLine:=L hT (L p (bA da (by decide)));refine aB (Eh Gq rfl (aB (Y5 Gq rfl (aB (wpAny_letGo (bl ?_))) lim (L Array.size_setIfInBounds (ip lim)))));obtain us:=tB ..;have Gr:(c5.update I (zC λ xs=>xs.setIfInBounds (O done) v)).get? I=B {cls:=.type "tuple",data:=.seq ((done++ [v])++K).toArray} :=by refine Y (Ek _ Gq rfl) ?_;simp[zC]
    generalize (c5.update I _)=cw at us Gr;have C:∀R o,R≠I->c5.get? R=B o->cw.get? R=B o:=λ R o q=>Y (us.2 R q);have M:O ((done++ [v])++K)=nn:=by rw[<-p];simp
    have G:=hD.1.upd iC fZ (m:=.gD nn) C (fV us.1.symm) ⟨_,M,Gr⟩;have um:(σ.set j (.it cH))[t]?=B _:=L (Ej st.1) y.OJ;rw[set_same um]at G;refine L (show O done+1=(done++ [v]).length by rw[e2];rfl) ?_;obtain ap:∀{A:Type} l a (m:H A),l++a::m=(l++ [a])++m:=λ l a m=>L (eb ..) rfl;exact w6 bs _ af (cT s cw xa) _ K _ p9 N.2 (bA F OM) ⟨G.1,C _ _ (rf htz) (W _ _ iY.2 y.fy),Gr,(y.cD.mono (λ R o e n=>⟨C _ _ (λ q=>n (q▸aW _ (eK fZ))) (W _ _ (λ q=>n (q▸bm)) e),n⟩)).append (.cons (g9.mono λ R o e n=>⟨C _ _ (λ q=>n (q▸aW _ (eK fZ))) e,n⟩) .nil),um,L (Ej iY.1) y.AO⟩ (zp cL) M e (λ h' j2 vs ds d1 s3 adk ON T=>dp h' j2 (v::vs) (d::ds) (ax j1 (L (d1 ..) rfl)) ((hD.2.trans G.2).trans s3) (L (ap done v vs) (L (ap P d ds) adk)) (aM i9 ON) T) λ h' j2 ex d1 s3 eX hex T=>he h' j2 ex (ax (j1 ..) (L d1 rfl)) ((hD.2.trans G.2).trans s3) eX hex T
end
noncomputable def Gs{A:Type}(m:U cj)(f:J->U A):U A:=m.bind λ m=>match m with|.gD n=>f n|_=>aa
theorem adl{A:Type}{f:J->U A}{r:A}(e:Gs m f=B r){G:Prop}(k:∀n,m=B (.gD n)->f n=B r->G):G:=
 b3 e λ m h e=>by induction m with|gD n=>exact k n h e|_=>exact nn e
theorem OO{A:Type}{f:J->U A}(h:m=B (.gD n)):Gs m f=f n:=L h rfl
noncomputable def Gu(j:J)(js:H J)(t:J)(p:U (H D)×aE):U D×aE:=match p.1 with|some ds=>(B (.aD ds),p.2.set j (.it (.zip js t)))|none=>(aa,p.2)def AR(j:J)(js:H J)(t:J)(σ:aE):U (U D×aE):=bR (!js.isEmpty&&aZ (O js) 1000) (Gs σ[t]? λ n=>bR (n==O js) ((h3 js (σ.set j .cX)).map (Gu j js t)))
theorem OP(e:AR j js t σ=B r){G:Prop}(h:∀p,js≠ []->O js<=1000->σ[t]?=B (.gD (O js))->h3 js (σ.set j .cX)=B p->Gu j js t p=r->G):G:=
 bN e λ W e=>adl e λ n k e=>bN e λ v e=>gE e λ p I e=>h p (λ q=>by rw[q]at W;exact bw (bo W).1) (b8 (bo W).2) (ax (eq_of_beq v) k) I e
theorem AS{X:Type}{t u:bj X}{Q:X->aU->Prop}(e:t=u)(h:aO M A u Q E s):aO M A t Q E s:=L e h
theorem adm(fq:A.handled=aa)(iC:cb x.F x.P)(h4:cb x.W x.P){bs:H ao}{Q:aq->aU->Prop}
  (fZ:α[t]?=B M)(R:α[mw]?=B z)(X:mw≠t)(AU:js≠ [])(da:O js<=1000)(cv:(js.map λ j=>α[j]?)=bs.map B)(I:aG g x α σ s.heap)(D:1<=s.toks)
  (C:zu s.heap z W M .none)(F:s.heap.get? W=B {cls:=.type "tuple",data:=.seq (bs.map hP).toArray})(N:W∉x.P++α)(G:σ[t]?=B (.gD (O js)))(e:h3 js (σ.set mw .cX)=B (r,af))
  (dp:∀h' D vs ds T,r=B ds->a_ x.F x.W α s.heap α h'->aG g x α af h'->af[mw]?=B .cX->zu h' z W M (gz (T:J))->T∉x.P++α->h'.get? W=B {cls:=.type "tuple",data:=.seq (bs.map hP).toArray} ->h'.get? T=B {cls:=.type "tuple",data:=.seq vs.toArray} ->bT (x.P++α) h' vs ds->1<=D->Q (.ref T) (cT s h' D))
  (he:∀h' D e,r=aa->a_ x.F x.W α s.heap α h'->aG g x α af h'->(∃o,h'.get? e=B o/\o.cls=.type "StopIteration")->1<=D->E (.ref e) (cT s h' D)):
  aO (a5 g.prog g.w) A (Builtin.«zip.__next__» ⟨[.ref z],[]⟩) (λ fin s'=>∃v,fin=.done (.ret v)/\Q v s') E s:=by
 obtain hbl:=by have:=aM O cv;simpa using this.symm
 obtain TOz:M≠z:=λ q=>X ((Ei (jN.mp R).1 I.dv).mp (Y R (ax q fZ.symm)));refine av (I.look fZ G) λ vs0 AV hTO=>?_;have OQ:z∈x.P++α:=aW _ (eK R);refine((aB (ou C rfl (x:=.bool aj) rfl ?_)):aO _ _ (field _ 2>>=_) _ _ _);refine aB (ou C rfl (x:=.ref W) rfl ?_);refine aB (Eh F rfl ?_);have ne:(bs.map hP).toArray.isEmpty=false:=by
  induction bs with
  |nil=>cases js with|nil=>exact aR rfl AU|cons=>simp at hbl
  |cons=>simp
 dsimp only;refine L ne (aB (aB (ou C rfl (x:=.none) rfl (bl (aB (tr (aB (ou C rfl (x:=.ref M) rfl (aB (Lj C (by simp) λ a d w=>?_))))))))));have K:∀b o,b≠z->s.heap.get? b=B o->a.get? b=B o:=λ b o q=>Y (w.2 b q);refine cq (I.gone iC R K (fV w.1.symm)) λ hD OR=>?_;obtain TIz:W≠z:=λ q=>N (L q OQ);obtain jz1:(σ.set mw .cX)[mw]?=B .cX:=by exact(Y6 (ax I.bM.length (oR R)))
 refine aB (adj rfl rfl fq iC ?_ fZ R TOz da js bs _ af {s with heap:=a} [] vs0 [] r cv D ⟨hD,d,K _ _ TOz hTO,.nil,(L (Ej X) G),jz1⟩ AV (by simpa using AV) e ?_ (λ l i ex d1 st=>he l i ex d1 (OR.trans st)))
 ·refine λ it k st Q E s h=>aB (Y7 (aB (hS h (λ v s1 c5=>bl (AS ?_ c5)) λ u u h=>h)))
  show(seqItems? _>>=_)=_;congr 1;funext r;cases r
  ·rfl
  ·dsimp only
 ·intro l i vs ds d1 st ⟨eF,w9,hT2,cD,jt2,OS⟩ ON adn
  refine aB (Eh hT2 rfl (aB (wpAny_newTuple (aB ?_) (by show vs.length<=ku;rw[vZ];lia))));obtain OT:∀b o,l.get? b=B o->(l.push {cls:=.type "tuple",data:=.seq vs.toArray}).get? b=B o:=λ u u=>dy _;refine aB (Lj (OT _ _ w9) (by simp) λ OU m p=>Lj m (by simp) λ Gv P f=>?_);obtain p:hU z (l.push {cls:=.type "tuple",data:=.seq vs.toArray}) OU:=p;obtain f:hU z OU Gv:=f;have up:∀c o,c≠z->l.get? c=B o->Gv.get? c=B o:=λ c o gG e=>(f.2 c gG).trans ((p.2 c gG).trans (OT _ _ e));have OV:=hM (dI w9);obtain⟨lp,uo⟩:=eF.gone iC R up (by simp only[f.1,p.1,(et ..)];lia);rw[set_same OS]at lp;obtain Gw:=by exact st.same _ _ (K _ _ TIz F) (λ q=>N (bL _ (iC _ q))) (λ q=>N (bL _ (h4 _ q))) (λ q=>N (aW _ q))
  refine bl ⟨_,rfl,dp Gv i vs ds l.objs.size d1 ((OR.trans st).trans uo) lp OS P eF.fresh (up _ _ TIz Gw) ((f.2 _ OV).trans ((p.2 _ OV).trans (d0 _ rfl))) (cD.mono λ c o e n=>⟨up c o (λ q=>n (L q OQ)) e,n⟩) adn⟩def nE(j i k:J)(σ:aE)(xs:H D):U (U D×aE):=match xs[k]? with|some d=>B (B (.aD [.int k,d]),(σ.set i (.it (.aD xs (k+1)))).set j (.it (.enu i (k+1))))|none=>bR (k==O xs) (B (aa,(σ.set i .cX).set j .cX))noncomputable def tupK{A:Type}(k:fu)(f:H D->J->U A):U A:=match k with|.aD xs q=>f xs q|_=>aa
def Gx(j i k:J)(σ:aE):U (U D×aE):=w5 σ[i]? λ q=>tupK q λ xs q=>bR (q==k) (nE j i k σ xs)noncomputable def AW(j l i:J)(σ:aE)(o:U D):U D×aE:=match o with|some d=>(B d,σ.set j (.it (.e3 l (i+1))))|none=>(aa,σ.set j .cX)noncomputable def uq(j:J)(σ:aE)(q:U (D×fu)):U D×aE:=match q with|some p=>(B p.1,σ.set j (.it p.2))|none=>(aa,σ.set j .cX)def nextK(j:J)(k:fu)(σ:aE):U (U D×aE):=match k with|.zip js t=>AR j js t σ|.enu i n=>Gx j i n σ|.e3 l i=>jW σ[l]? λ xs=>B (AW j l i σ xs[i]?)|k=>(stepK k).map (uq j σ)def gH(j:J)(σ:aE):U (U D×aE):=w5 σ[j]? λ k=>nextK j k σ
theorem Gy(e:gH j σ=B r){G:Prop}(z:∀js t,σ[j]?=B (.it (.zip js t))->AR j js t σ=B r->G)(E:∀i n,σ[j]?=B (.it (.enu i n))->Gx j i n σ=B r->G)
  (li:∀l i xs,σ[j]?=B (.it (.e3 l i))->σ[l]?=B (.ae xs)->AW j l i σ xs[i]?=r->G)(p:∀k q,σ[j]?=B (.it k)->stepK k=B q->uq j σ q=r->(∀m,nextK j k m=(stepK k).map (uq j m))->G):G:=
 have f:=λ k V h e=>gE ((V σ).symm.trans e) λ q es e=>p k q h es e V
 AN e λ k h e=>by induction k with|zip js t=>exact z js t h e|enu i n=>exact E i n h e|e3 l i=>exact oP e λ xs a e=>li l i xs h a (ak e)|_=>exact f _ (λ u=>rfl) h e
theorem ado(e:AW j l i σ o=(B d,af)){G:Prop}(k:o=B d->σ.set j (.it (.e3 l (i+1)))=af->G):G:=match o,e,k with|some _,e,k=>k (aM B (ak (bf e).1)) (bf e).2|none,e,_=>nn ((bf e).1)
theorem adp{o:U D}(e:AW j l i σ o=(aa,af)):o=aa/\σ.set j .cX=af:=match o,e with
 |some _,e=>nomatch (bf e).1
 |none,e=>⟨rfl,(bf e).2⟩
theorem adq(e:uq j σ q=(B d,af)){G:Prop}(k:∀K,q=B (d,K)->σ.set j (.it K)=af->G):G:=by
 rcases q with _|⟨_,K⟩
 ·exact nn (bf e).1
 ·exact k K (aM (λ d=>B (d,K)) (ak (bf e).1)) (bf e).2
theorem ads(e:nE j i k σ xs=B (B d,af)){G:Prop}(h:∀K,xs[k]?=B K->D.aD [.int k,K]=d->(σ.set i (.it (.aD xs (k+1)))).set j (.it (.enu i (k+1)))=af->G):G:=by
 unfold nE at e;refine rY (xs[k]?) (λ K M=>?_) λ M=>?_
 ·rw[M]at e;exact h K M (ak (bf (ak e)).1) (bf (ak e)).2
 ·rw[M]at e;exact bN e λ u e=>nn ((bf (ak e)).1)
theorem adt(e:nE j i k σ xs=B (aa,af)):k=O xs/\(σ.set i .cX).set j .cX=af:=by
 unfold nE at e;refine rY (xs[k]?) (λ d K=>?_) λ K=>?_
 ·rw[K]at e;exact nomatch (bf (ak e)).1
 ·rw[K]at e;exact bN e λ h e=>⟨eq_of_beq h,(bf (ak e)).2⟩
theorem Gz(e:Gx j i k σ=B r){G:Prop}(h:∀xs,σ[i]?=B (.it (.aD xs k))->nE j i k σ xs=B r->G):G:=
 AN e λ q W e=>by induction q with|aD xs q=>exact bN e λ l=>h xs (ax (eq_of_beq l) W)|_=>exact nn e
noncomputable def xb(e:aJ):Bool:=aL e.ctorIdx 25
noncomputable def owner:cj->aF
 |.it (.zip ..)|.it (.enu ..)=>S|_=>aj
def TurnOk(g:bX)(x:bD)(α:H ao)(af:aE)(s:aU)(d:D)(Q:aq->aU->Prop):Prop:=
 ∀v h' t,a_ x.F x.W α s.heap α h'->aG g x α af h'->1<=t->aV (x.P++α) h' v d->Q v (cT s h' t)
def OW(g:bX)(x:bD)(α:H ao)(af:aE)(s:aU)(Q:U aq->aU->Prop):Prop:=
 ∀h' t,a_ x.F x.W α s.heap α h'->aG g x α af h'->1<=t->Q aa (cT s h' t)
theorem adu(r:iz X α h a k)(E:owner (.it k)=aj){GG:Prop}(K:∀o ty,h.get? a=B o->o.cls=.type ty->ownsTuple ty=aj->GG):GG:=by
 induction k with
 |list xs i=>refine eM r λ l vs N u=>?_;obtain⟨o,e,c,_⟩:=N;exact K o _ e c rfl|e3 j i=>obtain⟨l,_,⟨o,e,c,_⟩⟩:=r;exact K o _ e c rfl|aD xs i=>exact eM r λ l vs W u=>(gF W λ o e c u=>K o _ e c rfl)|str z i=>obtain⟨t,⟨o,e,c,_⟩|⟨o,e,c,_⟩⟩:=r<;>exact K o _ e c rfl|jk b n=>exact K _ _ r rfl rfl|rev xs k=>exact eM r λ l vs w u=>(gF w λ o e c u=>K o _ e c rfl)|enu i k=>cases E
 |zip js t=>cases E
def Turn(g:bX)(A:m8)(t:aJ)(a:ao)(Q:aq->aU->Prop)(E:aq->aU->Prop)(s:aU):Prop:=
 aO (a5 g.prog g.w) A (m9 (.ref a)) (λ r s'=>∃v,r=B v/\aO (a5 g.prog g.w) A (Li t (.ref a) v) (λ u f=>Q v f) E s') E s
theorem adv(G:cb x.F x.P)(t:aJ)
  (I:aG g x α σ s.heap)(T:1<=s.toks)(h:α[j]?=B a)(n:σ[j]?=B (.it k))(l:owner (.it cH)=aj)(e:stepK k=B (B (d,cH)))(M:TurnOk g x α (σ.set j (.it cH)) s d Q):Turn g A t a Q E s:=
 OF (aW _ (eK h)) (I.look h n) e λ v h' u b p r R=>
  adu r l λ u u V f w=>
  have i:=I.put G h (m:=.it cH) b λ u=>r
  ⟨v,rfl,OB t V f w (M v h' _ i.2 i.1 (bA T p) R)⟩
theorem OX(m:A.handled=aa)(y:cb x.F x.P)(z:cb x.W x.P){bs:H ao}
  (I:aG g x α σ s.heap)(D:1<=s.toks)(c:α[j]?=B a)(W:σ[j]?=B (.it (.zip js t)))(h:(js.map λ j=>α[j]?)=bs.map B)(b:α[t]?=B TO)(n:P∉x.P++α)(f:zu s.heap a P TO .none)(k:s.heap.get? P=B {cls:=.type "tuple",data:=.seq (bs.map hP).toArray})(e:AR j js t σ=B (r,af))
  (X:∀h' i vs ds V T,r=B (.aD ds)->V.set j (.it (.zip js t))=af->a_ x.F x.W α s.heap α h'->aG g x α V h'->zu h' a P TO (gz (T:J))->T∉x.P++α->h'.get? P=B {cls:=.type "tuple",data:=.seq (bs.map hP).toArray} ->h'.get? T=B {cls:=.type "tuple",data:=.seq vs.toArray} ->bT (x.P++α) h' vs ds->1<=i->Q (B (.ref T)) (cT s h' i))
  (he:r=aa->OW g x α af s Q):aO (a5 g.prog g.w) A (m9 (.ref a)) Q E s:=by
 refine OP e λ p M f3 l k9 d=>?_;obtain w:s.TypeIs (.ref a) "zip" :=⟨_,f,rfl⟩;refine aB (wpAny_attempt (Y3 w F.slot_zip_next
  (zA F.slot_zip_next w F.entry_zip_next ?_ (F.args_zip_next_1 _))))
 obtain⟨q,V⟩:=p;refine adm (A:=A.in1) m y z b c (λ q=>by rw[q,l]at W;exact nomatch ak W) M f3 h I D f k n l k9 (λ h' i vs ds T R st C apt N ur G GA cD v=>?_) λ h' i ex R st C u v=>?_
 ·subst R
  exact bl (X h' i vs ds V T (bf d).1.symm (bf d).2 st C N ur G GA cD v)
 ·subst R
  exact av u λ o dw nF=>(aB (wpAny_isInstance ⟨o,dw,nF⟩ isSubtype_stop (bl (he (bf d).1.symm h' i st (ax ((bf d).2) C) v))))
theorem OY(g:A.handled=aa)(it l:ao)(M:l≠it)(I:fE aq):
  Draws prog w A it [it,l] I.size (λ i v=>I[i]?=B v) (λ i h=>h.IsTupleIter it l i/\h.IsTuple l I) where
 live:=λ u u st=>av st.1 λ o j u=>⟨o,j⟩
 frame:=λ u u u st n=>⟨st.1.at λ o e=>n it cV o e,st.2.at λ o e=>n l (aom rfl) o e⟩
 item:=λ i s Q E t st C=>OD (aoi st.1 st.2 (x:=I[i]) (by simp) λ h' b K=>
  ⟨_,rfl,C _ h' s.toks (by simp) ⟨b,st.2.extBut K.extBut M⟩ K⟩)
 done:=λ s Q E st=>OE g st.1 st.2 (Array.getElem?_size)
theorem adw(G:cb x.F x.P)(t:aJ)
  (I:aG g x α σ s.heap)(T:1<=s.toks)(f:α[j]?=B a)(R:σ[j]?=B (.it (.e3 l i)))(z:σ[l]?=B (.ae xs))(e:xs[i]?=B d)(K:TurnOk g x α (σ.set j (.it (.e3 l (i+1)))) s d Q):Turn g A t a Q E s:=by
 refine av (I.look f R) λ k w P=>(av (I.look w z) λ vs y r=>av (r.get e) λ v V W=>(Y1 P y.isList (by simpa using V) λ h' h b=>⟨v,rfl,gF (id h) λ o X D u=>(OB t X D rfl ?_)⟩));obtain C:=I.put G f (m:=.it (.e3 l _)) b λ u=>⟨k,w,h⟩;exact K v h' s.toks C.2 C.1 T (W.mono λ c o e n=>⟨Y (b.2 c λ q=>n (L q (aW _ (eK f)))) e,n⟩)def lq(t:aJ)(σ:aE)(j:J):Bool:=match σ[j]? with|some m=> !owner m||xb t|none=>aj
theorem OZ{d:D}(q:stepK k=B (B (d,cH))):owner (.it cH)=aj/\inner cH=inner k:=by
 induction k with
 |list xs i=>exact gE (ak q) λ u u e=>(bf e).2▸⟨rfl,rfl⟩|aD xs i=>exact gE (ak q) λ u u e=>(bf e).2▸⟨rfl,rfl⟩|str z i=>exact gE (ak q) λ u u e=>(bf e).2▸⟨rfl,rfl⟩
 |jk b n=>induction n with
  |zero=>exact nn (ak q)|succ n=>exact(bf (ak (ak q))).2▸⟨rfl,rfl⟩
 |rev xs k=>induction k with
  |zero=>exact nn (ak q)|succ n=>exact gE (ak q) λ u u e=>(bf e).2▸⟨rfl,rfl⟩
 |_=>exact nn q
theorem O0(f:lq t σ j=S)(h:σ[j]?=B m)(i:owner m=S):∃e c pos,t=.Tuple e c pos:=by unfold lq at f;rw[h]at f;dsimp only at f;rw[i]at f;exact YV t (dE f) λ es c p=>(e_ es c p rfl)
theorem turn(fq:A.handled=aa)(G:cb x.F x.P)(h4:cb x.W x.P)(h:aJ)
  (I:aG g x α σ s.heap)(dm:1<=s.toks)(f:α[j]?=B a)(e:gH j σ=B (B d,af))(xc:lq h σ j=S)(dp:TurnOk g x α af s d Q):
  aO (a5 g.prog g.w) A (m9 (.ref a)) (λ r s'=>∃v,r=B v/\aO (a5 g.prog g.w) A (Li h (.ref a) v) (λ u s''=>Q v s'') E s') E s:=by
 refine Gy e (λ js t P e=>?_) (λ i n P e=>?_) (λ l i xs P V e=>ado e λ hj es=>adw G h I dm f P V hj (L es dp)) λ k q P es e u=>adq e λ cH eq nG=>adv G h I dm f P (OZ (Y es (aM B eq))).1 (Y es (aM B eq)) (L nG dp)
 ·obtain⟨W,c,pos,rfl⟩:=O0 xc P rfl
  refine rS (I.look f P) λ TI TO bs C fZ N fy hTI=>(OX fq G h4 I dm f P C fZ N fy hTI e (λ h' j2 vs ds gO T d1 es st eX AP ur Gw GA cD D=>⟨_,rfl,wpAny_letOwnedTupleGo_zip AP λ cw w9 X=>?_⟩) λ q=>nomatch q);obtain eF:=eX.put G f (m:=.it (.zip js t)) X λ out=>(e_ TI TO bs ⟨C,fZ,N,w9,(out _ _ Gw N).1⟩);obtain K:fX h' cw _ _:=λ b o e n=>⟨Y (X.2 b λ q=>n (L q (aW _ (eK f)))) e,n⟩;exact dp _ cw j2 (st.trans eF.2) (ax es eF.1) D (L (ak d1) (.aD ur ⟨0,(K _ _ GA ur).1⟩ (cD.mono K)))
 ·obtain⟨W,c,pos,rfl⟩:=O0 xc P rfl
  refine eM (I.look f P) λ b old w hen=>(Gz e λ xs xd e=>ads e λ uu ho xe F=>?_);subst xe;subst F;refine eg (I.look w xd) λ l vs hit V jr rs=>?_;have y:i≠j:=λ q=>by rw[q,P]at xd;exact nomatch ak xd
  have ab:a≠b:=λ q=>y ((Ei (jN.mp w).1 I.dv).mp (Y w (q▸f.symm)));have GB:a∈x.P++α:=aW _ (eK f);have O1:b∈x.P++α:=aW _ (eK w);refine av (rs.get ho) λ v0 M rv0=>?_;refine g4 (wpAny_pyNext_enum_itemD (OY (A:=A.in1) fq b l (λ q=>V (q▸O1)) vs.toArray) hen ⟨hit,jr.iV⟩ (L hT ((jN.mp M).1)) ab (by simp[ab,rf (λ q=>V (q▸GB):l≠a)])
   λ h5 h' tk0 GC he GJ hTT w8 hkp O2=>?_)
  refine⟨_,rfl,wpAny_letOwnedTupleGo_enum he λ cw w_ X=>?_⟩;have X:hU a h' cw:=X;have K:=λ rZ o q1 jc e=>Y (X.2 rZ q1) (hkp rZ o q1 jc e);have idx:∀{xf:J}{c:ao},α[xf]?=B c->(c=a->xf=j)/\(c=b->xf=i):=λ{xf c} e=>⟨λ q=>(Ei (jN.mp e).1 I.dv).mp (Y e (q▸f.symm)),λ q=>(Ei (jN.mp e).1 I.dv).mp (Y e (q▸w.symm))⟩;obtain⟨eF,st⟩:=((I.kill G f).kill G w).cX G (Sq:=λ c=>c=a\/c=b) (h':=cw) (λ c q=>q.elim (λ z=>z▸eK f) λ z=>z▸eK w) (λ xf c e q=>by
   rcases q with q|q
   ·cases((idx e).1 q);rw[Ej y];exact Y6 (I.bM.length▸(jN.mp f).1)
   ·cases((idx e).2 q);simp[(I.bM.length▸(jN.mp w).1)]) (λ rZ o q e=>K rZ o (λ z=>q (.inl z)) (λ z=>q (.inr z)) e) (show s.heap.objs.size<=cw.objs.size by simp only[X.1,w8];exact hg _)
  have p:∀c o,s.heap.get? c=B o->c∉x.P++α->cw.get? c=B o/\c∉x.P++α:=λ c o e n=>⟨K c o (λ q=>n (L q GB)) (λ q=>n (L q O1)) e,n⟩;obtain⟨ur,jr⟩:=jr;obtain iZ:=(eF.Gl G w (m:=.it (.aD xs (n+1))) (bh l vs ⟨(GJ.1.at λ o e=>Y (X.2 b (rf ab)) e),V,⟨ur,(p _ _ jr V).1⟩,rs.mono p⟩)).Gl G f (m:=.it (.enu i (n+1))) (bh b h5 ⟨w,w_⟩);obtain w7:((((σ.set j .cX).set i .cX).set i (.it (.aD xs (n+1)))).set j (.it (.enu i (n+1))))=(σ.set i (.it (.aD xs (n+1)))).set j (.it (.enu i (n+1))):=by rw[Y8,List.set_comm _ _ (rf y),Y8]
  rw[w7]at iZ;obtain adx:=by rw[rb,M]at GC;exact(ak GC).symm
  subst adx;refine dp _ cw (tk0+1) st iZ (bA dm O2.toks) (.aD I.fresh ⟨0,Y (X.2 _ (hM (I.nz GB))) hTT⟩ (.cons (.int _ _) (.cons (rv0.mono p) .nil)))
theorem O3(f:A.handled=aa)(G:cb x.F x.P)(d:cb x.W x.P)
  (I:aG g x α σ s.heap)(T:1<=s.toks)(h:α[j]?=B a)(e:gH j σ=B (aa,af))(K:OW g x α af s Q):aO (a5 g.prog g.w) A (m9 (.ref a)) Q E s:=Gy e (λ js t o e=>rS (I.look h o) λ u u u v r N X m=>
     OX f G d I T h o v r N X m e (λ u u u u u u=>nn) λ u=>K) (λ i n o e=>(by
       refine eM (I.look h o) λ b D w R=>(Gz e λ xs F e=>?_);obtain c:=adt e;refine eg (I.look w F) λ l vs P z jr V=>g4 (wpAny_pyNext_enum_endD (OY (A:=A.in1) f b l (λ q=>z (L q (aW _ (eK w)))) vs.toArray) R ⟨(show n=vs.toArray.size by rw[hT,V.length];exact c.1)▸P,jr.iV⟩ λ h' M W=>?_);obtain p:=I.gone G w M W.size;exact K h' s.toks p.2 (ax c.2 (p.1.kill G h)) T)) (λ l i xs o z e=>have q:=adp e;(by
         refine av (I.look h o) λ AX y P=>(av (I.look y z) λ vs lr V=>g4 (Y2 f P lr.isList (w4 (a:=a) V q.1) λ h' M W=>?_));obtain p:=I.gone G h M W.size;exact(q.2▸K) h' s.toks p.2 p.1 T)) λ k q o es e u=>have q:=(show q=aa/\σ.set j .cX=af from match q,e with
           |some _,e=>nomatch (bf e).1
           |none,e=>⟨rfl,(bf e).2⟩);(OG f (I.look h o) (Y es (aM B q.1)) λ h' u dd r iY=>
             have C:=I.gone G h dd iY
             (q.2▸K) h' _ C.2 C.1 (bA T r))
@[reducible] noncomputable def cF(x:bD)(W:H ao):bD:={x with W:=W}theorem aG.cF(I:aG g x α σ h):aG g (cF x W) α σ h:=⟨I.base,I.big,I.b2,I.alive,I.dv,I.c8,I.bM,I.fr,I.old⟩theorem aG.dG(I:aG g (Internal.cF x W) α σ h):aG g x α σ h:=⟨I.base,I.big,I.b2,I.alive,I.dv,I.c8,I.bM,I.fr,I.old⟩theorem bt.cF(R:bt g x env ρ α h):bt g (Internal.cF x W) env ρ α h:=⟨R.fv,R.gl,R.cc,R.fK,R.ns,R.lj,R.ap⟩theorem bt.dG(R:bt g (Internal.cF x W) env ρ α h):bt g x env ρ α h:=⟨R.fv,R.gl,R.cc,R.fK,R.ns,R.lj,R.ap⟩theorem a_.cF(t:cb x.W W)(st:a_ x.F x.W α h aA h'):a_ (Internal.cF x W).F (Internal.cF x W).W α h aA h':=st.weaken (λ u q=>q) t
theorem ExcAt.cF{lo:J}{e:ao}{cl:b1}(q:ExcAt g x lo α σ h e cl as):ExcAt g (Internal.cF x W) lo α σ h e cl as:=
 match q with|⟨Sq,t,vs,a,I,r,R,dP,u,jt⟩=>⟨Sq,t,vs,a,⟨I.base,I.big,I.b2,I.alive,I.dv,I.c8,I.bM,I.fr,I.old⟩,r,R,dP,u,jt⟩
theorem ExcAt.dG{lo:J}(q:ExcAt g (Internal.cF x W) lo α σ h e cl as):ExcAt g x lo α σ h e cl as:=
 q.rec λ Sq t vs a I r R dP u jt=>⟨Sq,t,vs,a,⟨I.base,I.big,I.b2,I.alive,I.dv,I.c8,I.bM,I.fr,I.old⟩,r,R,dP,u,jt⟩
theorem aG.own(I:aG g x α σ h)(y:l∈x.P)(j:hU l h h'){o:fe}(m:h'.get? l=B o)(n:∀vs,o.data≠ .fields vs):aG g x α σ h':=by
 have k:∀b o,b≠l->h.get? b=B o->h'.get? b=B o:=λ b o q=>Y (j.2 b q);obtain s:=fV j.1.symm;refine⟨?_,bA I.big s,I.b2,?_,I.dv,I.c8,?_,?_,Ov I.old (I.b2 l (.inl y)).2 k⟩
 ·refine λ b o e=>k b o (λ z=>?_) (I.base b o e)
  subst z;rw[(I.b2 b (.inl y)).1]at e;exact nn e
 ·intro b u
  by_cases e:b=l
  ·exact⟨o,L e m⟩
  ·exact a7 (I.alive b u) λ T E=>⟨T,k b T e E⟩
 ·refine I.bM.Ow s (λ a q=>bL _ (q▸y)) k λ i a e q=>?_
  subst q;exact aR y (I.c8 _ (eK e))
 ·refine λ e P=>(I.fr e P).e λ G T q b c d r=>?_
  by_cases z:G=l
  ·exact⟨q,G,o,b,c,L z m,n⟩
  ·exact⟨q,G,T,b,c,k _ _ z d,r⟩
theorem a_.own{x:bD}(y:l∈x.W)(c:hU l h h'):a_ x.F x.W α h α h':=
 ⟨fV c.1.symm,w3,λ b o e u w u=>Y (c.2 b (λ q=>w (L q y))) e,λ b o e w u=>⟨o.slots,Y (c.2 b (λ q=>w (L q y))) e⟩⟩def GK(s:bW)(env:cn)(nm:ai):Prop:=env.kindOf nm=B .local\/(env.kindOf nm=B .cell/\s.names.lookup nm=B .cell)def p_(x:bD)(s:bW)(env:cn):Prop:=env.locals∈x.W/\∀n c,s.names.lookup n=B .cell->env.cells.lookup n=B c->c∈x.W
theorem lookup_cons{ρ:az}{n m:ai} :Y9 n ((m,a)::ρ)=if n=m then B a else ρ.lookup n:=by
 dsimp only[gY];by_cases e:n=m
 ·subst e;simp
 ·rw[a6 e]
  rw[((ro e))]
theorem AY(GC:cb x.W x.P)(w:p_ x sc env)(P:GK sc env nm):
  ag g x (λ α h=>bp g x env ρ α h/\a9 (x.P++α) α h v a) (λ α h z z=>bp g x env ((nm,a)::ρ) α h) (Lk env nm v) (.ret ()):=by
 intro α σ s out af I dm p e Q E dp he;cases e;obtain⟨R,g9⟩:=p;have k:∀{l:ao}{h':aX},l∈x.P->hU l s.heap h'->fX s.heap h' _ (x.P++α):=λ lr f b o e n=>⟨Y (f.2 b (λ q=>n (bL _ (L q lr)))) e,n⟩;rcases P with P|⟨P,hks⟩
 ·refine av R.ns λ m da hm=>(wpAny_storeName_local P da (λ h' F f=>t8 (id F) λ o es c3 dw hd z=>(dp _ _ h' _ α rfl (.own w.1 f) (I.own R.fK f dw (by rw[hd];intro vs q;cases q)) (ip dm) ⟨R.fv,R.gl,R.cc,R.fK,⟨_,F,λ N V d G=>?_⟩,λ N C=>?_,R.ap⟩)) (L R.fv rfl))
  ·rw[lookup_cons]at d
   by_cases e:N=nm
   ·rw[bC e]at d;exact ax (ak d) ⟨v,(bC e),g9.mono (k R.fK f) eV⟩
   ·rw[a6 e]at d
    exact av (hm N V d G) λ u X t=>(⟨u,by simp[e,X],t.mono (k R.fK f) eV⟩)
  ·refine R.jX C λ c ny D j i K xg ei=>av xg λ xh T W=>⟨c,D,j,i,K,ny,⟨xh,Y (f.2 c K) T,W⟩,λ V d=>?_⟩
   have d:=lookup_cons▸d;have e:N≠nm:=by rintro rfl;rw[P]at C;exact bw C
   rw[a6 e]at d;exact av (ei V d) λ u X t=>(⟨u,X,t.mono (k R.fK f) eV⟩)
 ·obtain M:iB (env.kindOf nm)=true:=L P rfl
  refine R.jX M λ c ny D j i K A ei=>wpAny_storeName_cell R.fv P D A (λ h' y f=>av (id y) λ o dw hd=>(dp _ _ h' s.toks α rfl (.own (w.2 nm c hks D) f) (I.own j f dw (by rw[hd];intro vs q;cases q)) dm ⟨R.fv,R.gl,R.cc,R.fK,?_,λ N C=>?_,R.ap⟩))
  ·refine av R.ns λ m w18 hm=>oL w18 λ ady es c3 hoL r=>(⟨m,(e_ ady es c3 ⟨Y (f.2 _ (rf K)) hoL,r⟩),λ N V d G=>?_⟩)
   rw[lookup_cons]at d;have e:N≠nm:=by rintro rfl;rw[P]at G;exact aR G (by decide)
   rw[a6 e]at d;exact av (hm N V d G) λ u X t=>(⟨u,X,t.mono (k j f) eV⟩)
  ·by_cases e:N=nm
   ·refine L e ⟨c,D,j,i,K,B v,y,λ V d=>?_⟩
    rw[lookup_cons,bC rfl]at d;exact ax (ak d) ⟨v,rfl,g9.mono (k j f) eV⟩
   ·refine R.jX C λ c' vo' fs gC k2' kH xg qa=>av xg λ xh T W=>⟨c',fs,gC,k2',kH,vo',⟨xh,Y (f.2 c' (λ q=>e (R.ap N nm c' C M fs (L q D)))) T,W⟩,λ V d=>?_⟩
    rw[lookup_cons,a6 e]at d;exact av (qa V d) λ u X t=>(⟨u,X,t.mono (k j f) eV⟩)
theorem r0(r:cb x.W x.P)(w:p_ x q env)(n:GK q env nm):
  ag g x (λ α h=>bp g x env ρ α h/\a9 (x.P++α) α h v a) (λ α h u u=>bp g x env ((nm,a)::ρ) α h) (pK env nm v) (.ret ()):=λ α σ s o af I t p e Q E G y=>bindName_ (AY r w n α σ s o af I t p e Q E G y)
section
variable {prog:K7}{w:di}{A:m8}{E:aq->aU->Prop}
theorem O4(M:l≠it):∀(n i:J)(s:aU)(Q:H aq->aU->Prop),s.heap.IsListIter it l i->s.heap.IsList l I->i+n<=I.size->
  (∀h',h'.IsListIter it l (i+n)->hU it s.heap h'->Q ((I.toList.drop i).take n) {s with heap:=h'})->aO (a5 prog w) A (draw (.ref it) n) Q E s
 |0,i,s,Q,o,_,_,C=>by exact bl (C s.heap o (Heap.SameBut.refl ..))|n+1,i,s,Q,o,q,m,C=>by have W:=(DR m);refine aB (Y1 o q (x:=I[i]) (by simp) λ z k e=>aB (dT (O4 M n _ _ _ k (q.extBut e.extBut M) (by lia) λ p a c=>bl ?_)));obtain this:=C p (L (show i+(n+1)=i+1+n by exact om (zh i n)) a) (e.trans c);rw[(show I.toList.drop i=I[i]::I.toList.drop (i+1) by simp[KQ,W])]at this;exact this
theorem adz(f:A.handled=aa)(q:s.heap.IsList t items)
  (C:∀h',pM s.heap.objs.size s.heap h'->Q items.toList {s with heap:=h'}):aO (a5 prog w) A (zD (.ref t) items.size aa) Q E s:=by
 have W:=av q λ o j u=>il (dI j);apply aB;unfold notIterableAtAll;refine aB (YT q.typeIs slot_list_iter.lookup (bl (aB (dT (Eg q (aB (dT (O4 W items.size 0 _ _ ⟨_,d0 _ rfl,rfl,rfl⟩ (q.push _) (by lia) λ z k p=>?_))))))));obtain K:List.take items.size (List.drop 0 items.toList)=items.toList:=by rw[aon];exact Y_ (by simp)
 refine L K (AS (a6 (by simp)) (aB (dT (Y2 f k ((q.push _).extBut p.extBut W) (by simp) λ r y=>bl (C r λ b o v e=>y b o v (p.extBut b o v (dy _ e)))))))
end
noncomputable def uv(z:ai)(i n:J):H D:=n.rec (motive:=λ u=>J->H D) (λ u=>[]) (λ u I i=>.str ⟨#[z.cps.getD i 0]⟩::I (i+1)) i
theorem GL(z:ai):∀n i,O (uv z i n)=n
 |0,_=>rfl|n+1,i=>aM i9 (GL z n _)theorem O5{h h':aX}{z:ai}{n:J} :∀{i:J}{vs:H aq},bT X h vs (uv z i n)->bT Yq h' vs (uv z i n):=by induction n with|zero=>exact λ r=>L (zv r.length) .nil|succ n I=>intro i vs r;cases r with|cons a r=>exact .cons (a7 a.inv λ t e=>L e (.str _ _)) (I r)
theorem adA(n:J):∀(i:J)(s:aU)(Q:H aq->aU->Prop),iz [it] [] s.heap it (.str z i)->i+n<=z.cps.size->
  (∀vs h' t,iz [it] [] h' it (.str z (i+n))->hU it s.heap h'->bT [] h' vs (uv z i n)->Q vs {s with heap:=h',toks:=t})->aO (a5 prog w) A (draw (.ref it) n) Q E s:=by
 induction n with
 |zero=>exact λ i s Q r u C=>bl (C [] s.heap s.toks r (Heap.SameBut.refl ..) .nil)
 |succ n I=>
  intro i s Q r l C;obtain es:stepK (.str z i)=B (B (.str ⟨#[z.cps.getD i 0]⟩,.str z (i+1))):=by refine(?_:B _=_);simp[(DR l)]
  exact aB (OF (ek.mpr rfl) r es λ v a t b u G V=>aB (dT (I _ _ _ G (by lia) λ vs p T R d F=>bl (C _ p T (L (show i+(n+1)=i+1+n by lia) R) (b.trans d) (.cons (a7 V.inv λ t e=>L e (.str _ _)) F)))))
theorem adB(f:A.handled=aa)
  (C:∀vs h' k,(∀b o,s.heap.get? b=B o->h'.get? b=B o)->bT [] h' vs (uv z 0 z.cps.size)->Q vs {s with heap:=h',toks:=k}):aO (a5 prog w) A (zD (.str z t) z.cps.size aa) Q E s:=by
 refine aB (bl ?_);obtain rest:∀s1 o,o.isFreed=aj->s1={s with heap:=s.heap.push o} ->iz [s.heap.objs.size] [] s1.heap s.heap.objs.size (.str z 0)->
   aO (a5 prog w) A (do let items<-d_ [.ref s.heap.objs.size] (draw _ z.cps.size)
                              if O items<z.cps.size then
                               rule "unpack.too-few";raiseError "ValueError" s!"not enough values to unpack (expected {z.cps.size}, got {List.length items})"
                              if (<-d_ items (m9 _)).isSome then
                               rule "unpack.too-many";raiseError "ValueError" s!"too many values to unpack (expected {z.cps.size})"
                              return items) Q E s1:=by
  intro s1 o j W r;subst W;refine aB (dT (adA z.cps.size 0 _ _ r (by lia) λ vs a n R p F=>L (a6 (by rw[F.length,GL];exact hu _)) ?_));rw[hO]at R;refine aB (dT (OG f R (by
   refine(?_:B _=_);simp) λ q T y u u=>?_))
  obtain N:=λ b V e=>il (dI e);exact bl (C vs q T (λ b V e=>y b V (N b V e) (Y (p.2 b (N b V e)) (dy _ e))) (O5 F))
 cases d:z.cps.all _ with|true=>exact aB (dT (wpAny_pyIter_ascii d (rest _ {cls:=.type "str_ascii_iterator",data:=.fields #[.str z t,.int 0 0] } rfl rfl ⟨t,.inl ⟨_,d0 _ rfl,rfl,rfl⟩⟩)))|false=>exact aB (dT (wpAny_pyIter_wide d (rest _ {cls:=.type "str_iterator",data:=.fields #[.str z t,.int 0 0] } rfl rfl ⟨t,.inr ⟨_,d0 _ rfl,rfl,rfl⟩⟩)))def hE(d:D)(n:J):U (H D):=match d with|.aD xs=>bR (O xs==n) (B xs)|.ae xs=>bR (O xs==n) (B xs)|.str z=>bR (z.cps.size==n) (B (uv z 0 n))|_=>aa
section
variable {g:bX}{x:bD}{env:cn}{ρ:az}{β γ nv oQ:Type}{α:H ao}{σ:aE}{h h':aX}theorem GN(y:pM h.objs.size h h'):∀b o,h.get? b=B o->h'.get? b=B o:=λ b o e=>y b o (il (dI e)) e
theorem O6(j:A.handled=aa)(N:s.heap.IsTuple T vs.toArray)(V:n=vs.length)
  (C:∀h',(∀b o,s.heap.get? b=B o->h'.get? b=B o)->s.heap.objs.size<=h'.objs.size->Q vs (cT s h' s.toks)):aO (a5 g.prog g.w) A (zD (.ref T) n aa) Q E s:=by
 obtain e:n=vs.toArray.size:=by trivial
 exact L e (g4 (wpAny_unpackItems_tuple j N λ h' y G=>C h' (GN y) G.size))
theorem O7(f:x.A.handled=aa)(u:∀α h,pre α h->aV (x.P++α) h v d):
  ag g x pre (λ α h vs ds=>bT (x.P++α) h vs ds/\O ds=n) (zD v n aa) (.of (hE d n)):=by
 cases e:hE d n with
 |none=>exact .au
 |some ds=>
  refine ag.wp λ α σ s I F p Q E G=>?_;have r:=(u _ _ p).inv;rcases d with _|_|_|_|z|_|_|_|xs|xs|⟨_,_⟩;case aD=>refine bN e λ R e=>?_;obtain⟨a,vs,rfl,N,q,P⟩:=r;have R:=cI.mp R;exact O6 f q.iV (by rw[P.length,R]) λ h' k V=>G vs h' s.toks k V (ak e▸⟨P.mono λ b o e n=>⟨k b o e,n⟩,R⟩)
  case ae=>refine bN e λ R e=>?_;obtain⟨a,vs,rfl,N,c,P⟩:=r;have R:=cI.mp R;exact L (show n=vs.toArray.size by rw[hT,P.length,R]) (g4 (adz f c.isList λ h' y T=>G vs h' s.toks (GN y) T.size (ak e▸⟨P.mono λ b o e n=>⟨GN y b o e,n⟩,R⟩)))
  case str=>refine bN e λ R e=>?_;obtain⟨t,rfl⟩:=r;obtain rfl:=cI.mp R;exact g4 (adB f λ r h' k K D T=>G r h' k K T.size (ak e▸⟨O5 D,GL z _ _⟩))
  all_goals exact nn e
noncomputable def dU(s:bW)(n:ai):Bool:=match s.names.lookup n with|some .local|some .cell=>S|_=>aj
theorem oS(C:fa s env)(h:dU s n=S):GK s env n:=by
 unfold dU at h;rcases C n with e|⟨e,_⟩
 ·rw[e]at h
  refine eD (env.kindOf n) (λ o=>?_) λ k o=>?_
  ·rw[o]at h;exact bw h
  ·rw[o]at h;induction k<;>first|exact .inl o|exact .inr ⟨o,Y e o⟩|exact bw h
 ·rw[e]at h;exact bw h
def nameOf(e:aJ):U Str:=hZ e B aa
def bindNames(s:bW)(bS:H aJ)(cG:H V)(dJ:az):U az:=bS.rec (motive:=λ u=>H V->az->U az) (λ as ρ=>match as with
  |[]=>B ρ|_::_=>aa) (λ e es dF as ρ=>match as with
  |[]=>aa|a::as=>(nameOf e).bind λ n=>bR (dU s n) (dF as ((n,a)::ρ))) cG dJ
def lu(s:bW)(t:aJ)(d:D)(ρ:az):U az:=hZ t (λ n=>bR (dU s n) (B ((n,.d d)::ρ))) (rU t (λ es=>(hE d (O es)).bind λ ds=>bindNames s es (ds.map V.d) ρ) aa)theorem AZ(h:nameOf e=B n):∃p,e=.Name n p:=mu (P:=λ o=>o=B n->∃p,e=.Name n p) (λ m p q h=>⟨p,ax (ak h) q⟩) nn h
theorem uw(e:bindNames s es as ρ=B ar){G:Prop}(K:es=[]->as=[]->ρ=ar->G)
  (k:∀n p F a X,es=.Name n p::F->as=a::X->dU s n=S->bindNames s F X ((n,a)::ρ)=B ar->G):G:=by
 rcases es with _|⟨t,es⟩<;>rcases as with _|⟨a,as⟩
 ·exact K rfl rfl (ak e)
 ·exact nn e
 ·exact nn e
 ·exact b3 e λ n W e=>bN e λ j e=>a7 (AZ W) λ p u=>k n p es a as (ax u rfl) rfl j e
theorem O8(e:lu s t d ρ=B ar){G:Prop}(k:∀n p,t=.Name n p->dU s n=S->(n,.d d)::ρ=ar->G)(K:∀es c p ds,t=.Tuple es c p->hE d (O es)=B ds->bindNames s es (ds.map V.d) ρ=B ar->G):G:=
 mu (P:=λ o=>o=B ar->G) (λ n p q e=>bN e λ h e=>k n p q h (ak e)) (w1 (P:=λ o=>o=B ar->G) (λ es c p q e=>b3 e λ ds W j=>K es c p ds q W j) λ e=>nn e) e
theorem bU.nu(r:bU X α h vs (a::as)):∃v u,vs=v::u/\a9 X α h v a/\bU X α h u as:=by cases r with|cons r n=>exact(bh _ _ ⟨rfl,r,n⟩)theorem bU.both(r:bU X α h (v::vs) (a::as)):a9 X α h v a/\bU X α h vs as:=by cases r with|cons r n=>exact⟨r,n⟩theorem bU.bad(r:bU X α h [] (a::as)){G:Prop} :G:=nomatch r
theorem adC(s:cb x.W x.P)(G:cb x.F x.P)(w:p_ x y env)(C:fa y env):
  ∀(es:H aJ)(vs:H aq)(as:H V)(ρ ar:az),bindNames y es as ρ=B ar->
   ag g x (λ α h=>bp g x env ρ α h/\bU (x.P++α) α h vs as) (λ α h z z=>bp g x env ar α h) (Ll ((ov es env).map (·.2)) vs) (.ret ()):=by
 intro es;induction es with
 |nil=>exact λ vs as ρ ar e=>uw e (λ z z o=>ag.pure λ z z p=>ax o p.1) λ z z z z z q=>nomatch q
 |cons t es i=>
  refine λ vs as ρ ar e=>uw e (λ q=>nomatch q) λ n p F a X q1 Q b j=>?_;obtain⟨rfl,rfl⟩:=kp q1;refine L Q ?_;induction vs with
  |nil=>exact λ z z z z z z z p=>eM p.2.nu λ z z q z=>nomatch q
  |cons v vs=>refine ag.bind (m:=.ret _) (ag.holding (ag.standAt ((ag.frame (r0 s w (oS C b)) (wZ G s vs X)).pre λ α h p=>e4 p.2.nu λ u T q r P=>cq (kp q) λ W M=>?_))) λ z z=>i vs X _ ar j;exact L W (L M ⟨⟨p.1,r⟩,P⟩)
theorem adD:∀{as:H V}{s:bW}{ρ ar:az},bindNames s es as ρ=B ar->O (ov es env)=O es/\(ov es env).findIdx? (·.1)=aa/\O as=O es:=by
 induction es with
 |nil=>exact λ e=>uw e (λ u q u=>L q ⟨rfl,rfl,rfl⟩) λ u u u u u q=>nomatch q
 |cons t es i=>intro as s ρ ar e;refine uw e (λ q=>nomatch q) λ n p F a X q1 Q b j=>?_;obtain⟨rfl,rfl⟩:=kp q1;obtain h:=i j;refine⟨aM i9 h.1,?_,L Q (aM i9 h.2.2)⟩;show List.findIdx? _ ((aj,l1 _ env)::ov es env)=aa;rw[aoo,h.2.1];rfl
theorem bQ.vs{vs:H aq}(r:bT X h vs ds):bU X α h vs (ds.map V.d):=by induction ds generalizing vs with|nil=>cases r;exact .nil|cons d ds i=>cases r with|cons a r=>exact .cons a (i r)
theorem O9(l:x.A.handled=aa)(y:cb x.W x.P)(G:cb x.F x.P)(w:p_ x f env)(C:fa f env)(q:Quiet {x with W:=[] } env)(e:lu f t d ρ=B ar):
  ag g x (λ α h=>bp g x env ρ α h/\aV (x.P++α) h v d) (λ α h u u=>bp g x env ar α h) (l1 t env v) (.ret ()):=by
 refine O8 e (λ n p N m o=>?_) λ es c p ds N R k=>?_
 ·rw[N,<-o]
  exact ag.standAt (r0 (a:=.d d) y w (oS C m))
 ·obtain h:=adD k
  refine L N (ag.standAt ?_);unfold unpack;rw[h.1,h.2.1];intro α σ s V af I D p e Q E K he;obtain e:=bf (ak e);exact aB (dT ((R▸(O7 (x:={x with W:=[] }) l λ u u p=>p)) α σ s _ σ I.cF D p.2 rfl _ _ (gn.ok λ vs h' el aA st F i M=>adC y G w C es vs _ ρ ar k aA σ _ _ σ F.dG i ⟨(bt.jY (x:={x with W:=[] }) G (λ u q=>nomatch q) q α σ s.heap aA h' I.cF st p.1.cF).dG,M.1.vs⟩ rfl Q E (λ b r h'' j T dw X eF z P=>K b _ h'' j T e.1.symm ((st.weaken (λ u q=>q) λ u q=>nomatch q).trans X) (ax e.2 eF) z P) eC.ok) eC.ok))
end
def xi(e:az->aJ->Ev aF)(ρ:az)(b:aF)(l:H aJ):Ev Bool:=l.rec (motive:=λ u=>aF->Ev aF) (λ b=>.ret b) (λ c u I b=>match b with|true=>(e ρ c).bind I|false=>I aj) b
def oU(j:J)(v:V):Ev Unit:=λ σ=>jW σ[j]? λ xs=>hi v λ d=>bR (dc xs) (B (.ok (),σ.set j (.ae (xs++ [d]))))
theorem Pb(e:oU j v σ=B (o,af)){G:Prop}(k:∀xs d,σ[j]?=B (.ae xs)->v=.d d->dc xs=S->(.ok (),σ.set j (.ae (xs++ [d])))=(o,af)->G):G:=
 oP e λ xs h e=>iA e λ d l e=>bN e λ f e=>k xs d h l f (ak e)theorem A0(h:σ[j]?=B (.ae xs))(f:dc xs=S):oU j (.d d) σ=B (.ok (),σ.set j (.ae (xs++ [d]))):=Y (rT h) (eh f)theorem adG{r:Type}{k:gL->Ev r}{q:Res r×aE}(e:(oU j v).bind k σ=B q){GG:Prop}(K:∀u V,oU j v σ=B (.ok u,V)->k u V=B q->GG):GG:=by unfold Ev.bind at e;cases h:oU j v σ with|none=>rw[h]at e;exact nn e|some p=>obtain⟨o,V⟩:=p;rw[h]at e;cases o with|ok u=>exact K u V h e|exc=>exact Pb h λ w w w w w q=>nomatch aM Zb q
def adH(ρ:az)(ok:aF)(k:D->Ev az)(q:U D×aE):U (Res az×aE):=match q.1 with|none=>B (.ok ρ,q.2)|some d=>bR ok (k d q.2)def uy(t:aJ)(body:D->az->Ev az)(j n:J):az->Ev az:=n.rec (λ u=>.au) λ u I ρ σ=>(gH j σ).bind (adH ρ (lq t σ j) λ d=>(body d ρ).bind I)
theorem adI(h:gH j σ=B (aa,af)):uy t b j (n+1) ρ σ=B (.ok ρ,af):=
 aM (λ o=>Zc o _) h
theorem Pc(h:gH j σ=B (B d,af))(f:lq t σ j=S):uy t b j (n+1) ρ σ=(b d ρ).bind (uy t b j n) af:=
 Y (aM (λ o=>Zc o _) h) (eh f)def xj(m:Ev az)(ρ:az)(ok:aF):Ev az:=match ok with|true=>m|false=>.ret ρ
def A1(s:bW)(e:az->aJ->Ev aF)(g:m_)(inner:az->Ev az)(d:D)(ρ:az):Ev az:=λ σ=>(lu s g.target d ρ).bind λ R=>(xi e R S g.ifs).bind (xj (inner R) R) σ
theorem Pd{inner:az->Ev az}(h:lu s g.target d ρ=B R):A1 s e g inner d ρ σ=(xi e R S g.ifs).bind (xj (inner R) R) σ:=
 aM (λ o=>Zc o λ R=>(xi e R S g.ifs).bind (xj (inner R) R) σ) h
def adJ(f:J->Ev az)(v:V):Ev az:=match v with|.aH j=>f j|.d _=>.au
def GW(E:az->aJ->Ev V)(e:aJ)(f:J)(r:J->az->Ev az)(G:H m_)(ρ:az):Ev az:=match G with|[]=>(E ρ e).bind λ v=>(oU f v).bind λ u=>.ret ρ|g::_=>λ σ=>bR (hY g.iter) (((E ρ g.iter).bind λ a=>(g8 a).bind (adJ λ j=>r j ρ)) σ)def nH(s:bW)(N:J)(E:az->aJ->Ev V)(h:az->aJ->Ev aF)(e:aJ)(f:J)(l:H m_):J->az->Ev az:=l.rec (λ u u=>.au) λ g G R j ρ σ=>bR (!(g.is_async !=0)) (uy g.target (A1 s h g (GW E e f R G)) j N ρ σ)
theorem GX(y:cU g x env n)(h:∀e,TB g x env ρ (iq e env (bG e env)) (E ρ e)):
  ∀(b:aF)(cs:H aJ),TB g x env ρ (forIn cs b λ c r=>if r=S then(iq c env (bG c env)>>=λ ok=>pure (m5 ok))else pure (m5 r)) (xi E ρ b cs)
 |b,[]=>by induction b<;>exact ag.pure λ u u u=>rfl|true,c::cs=>by rw[k1,bC rfl,bind_assoc];refine ag.cv y (h c) λ b c'=>?_;intro α σ s o af I t p;obtain⟨p,rfl⟩:=p;exact GX y h b cs α σ s o af I t p|false,c::cs=>by exact L (k1 ..) (GX y h aj cs)noncomputable def r1(e:aJ)(g:H m_)(s:bW)(p:cP)(d:J)(it acc:aq)(c:cn):bj Fin:=match g[d+1]? with|some G=>bG G.iter c>>=λ x=>dZ G.iter.pos>>=λ u=>(if (G.is_async !=0)=S then foldedIterable G.iter x else foldedSetIterable G.iter c x)>>=λ x=>d_ [x] (if (G.is_async !=0)=S then asyncIter x else tx x)>>=λ i=>runOwn (.compStart (.ListComp e g s p) (d+1) i acc c) c>>=λ u=>again (.compLoop (.ListComp e g s p) d it acc c)|none=>(bG e c>>=λ v=>call (.builtin "list.append") [acc,v]>>=λ u=>pure ())>>=λ u=>again (.compLoop (.ListComp e g s p) d it acc c)
def Pe(e:aJ)(g:H m_)(s:bW)(p:cP)(d:J)(it acc:aq)(c:cn)(ok:aF):bj Fin:=
 if ok=S then r1 e g s p d it acc c else again (.compLoop (.ListComp e g s p) d it acc c)noncomputable def adK(cs:H aJ)(C:cn):bj Bool:=forIn cs S λ c r=>if r=S then(iq c C (bG c C)>>=λ ok=>pure (m5 ok))else pure (m5 r)
theorem adL{G:m_}(h:g[d]?=B G)(f:(G.is_async !=0)=aj):
  compTurn (.ListComp e g s p) d it acc c=(dZ G.iter.pos>>=λ u=>m9 it>>=λ r=>match r with
   |none=>pure (.done .next)|some v=>Li G.target it v>>=λ u=>l1 G.target c v>>=λ u=>adK G.ifs c>>=Pe e g s p d it acc c):=by
 dsimp only[compTurn];rw[h];dsimp only;rw[f];congr 1;funext _;refine(a6 hN).trans ?_;congr 1;funext r;induction r with
 |none=>rfl
 |some v=>
  dsimp only;congr 1;funext _;congr 1;funext _;congr 1;funext ok;unfold Pe;induction ok with
  |false=>rfl
  |true=>
   unfold r1;induction g[d+1]? with
   |none=>rfl
   |some l=>
    dsimp only;induction(l.is_async !=0)with
    |true=>rfl|false=>rfl
theorem adM(z:IsL s.heap l vs)(h:O vs<=ku)
  (C:∀h',IsL h' l (vs++ [v])->hU l s.heap h'->Q .none {s with heap:=h'}):aO (a5 prog w) A (call (.builtin "list.append") [.ref l,v]) Q E s:=by
 refine a7 (id z) λ n i=>(zA slot_list_append z.isList.typeIs entry_list_append ((aB (Y5 i rfl (bl ⟨.none,rfl,C _ ⟨n+1,Y (Ek _ i rfl) ?_⟩ (tB ..)⟩) (kdl_size h) (by simp;omega))):aO _ _ (Y4 l _>>=λ u=>ret .none) _ _ s) (args_list_append _ _));simp[zC]
section
variable {g:bX}{x:bD}{env:cn}{ρ:az}{n:J}{β γ nv oQ:Type}{α:H ao}{σ af:aE}
theorem Pf(G:cb x.F x.P)(I:aG g x α σ s.heap)(h:α[j]?=B acc)(r:a9 (x.P++α) α s.heap v a)(e:oU j a σ=B (.ok (),af))
  (K:∀h',a_ x.F x.W α s.heap α h'->aG g x α af h'->Q .none (cT s h' s.toks)):aO (a5 g.prog g.w) A (call (.builtin "list.append") [.ref acc,v]) Q E s:=by
 refine av (I.bM.get h) λ m M V=>(Pb e λ xs d F k N l=>?_);subst k;obtain rfl:=ak (Y M.symm F);obtain rfl:=aM Prod.snd l;refine av V λ vs w R=>adM w (L R.length (b8 N)) λ h' C f=>?_;obtain p:∀c o,s.heap.get? c=B o->c∉x.P++α->h'.get? c=B o/\c∉x.P++α:=λ c o e n=>⟨Y (f.2 c (λ q=>n (L q (aW _ (eK h))))) e,n⟩;have W:aV _ s.heap v d:=r;obtain i:=I.upd G h (m:=.ae _) (λ b o q e=>Y (f.2 b q) e) (fV f.1.symm) ⟨_,C,(R.mono p).append (.cons (W.mono p) .nil)⟩;exact K h' i.2 i.1
theorem a_.get(st:a_ F W α h aA h'){j:J}(e:α[j]?=B a):aA[j]?=B a:=av st.ext λ β w u=>L w (get_append e)
structure A2(g:bX)(x:bD)(sc:bW)(env:cn)(n:J)(own:H ao)(iE:az->aJ->Ev V)(h7:az->aJ->Ev aF):Prop where
 y:cU g x env n
 cM:fa sc env
 uz:cb own x.P
 w:p_ (Internal.cF x (own++x.W)) sc env
 pos:0<n
 Pg:∀ρ e,TE g x env ρ (bG e env) (iE ρ e)
 adN:∀ρ e,TB g x env ρ (iq e env (bG e env)) (h7 ρ e)
@[reducible] def a3(x:bD)(o:H ao):bD:=Internal.cF x (o++x.W)
theorem GY(h:ag g x (bp g x env ρ) post t m)(I:aG g (a3 x o) α σ s.heap)(D:1<=s.toks)(R:bp g (a3 x o) env ρ α s.heap)
  (y:cU g x env n)(e:m σ=B (.ok r,af))(G:∀b h' T aA,a_ (a3 x o).F (a3 x o).W α s.heap aA h'->aG g (a3 x o) aA af h'->1<=T->bp g (a3 x o) env ρ aA h'->post aA h' b r->Q b (cT s h' T)):aO (a5 g.prog g.w) x.A t Q E s:=
 h α σ s _ af I.dG D (bt.dG R) e Q E (gn.ok λ b h' T aA st C i p=>by
  exact G b h' T aA (st.cF λ u q=>aW _ q) C.cF i (bt.cF (bt.jY y.ok.cY y.ok.ew y.q _ _ _ _ _ I.dG st (bt.dG R))) p) eC.ok
theorem Ph(e:nH p N v r E f (G::a) j ρ σ=B q):
  (G.is_async !=0)=aj/\∃k,σ[j]?=B (.it k):=
 bN e λ c e=>⟨ma c,by
  induction N with
  |zero=>exact nn e|succ=>exact b3 e λ u Q u=>AN Q λ k h u=>⟨k,h⟩⟩
theorem Pj{d j:J}(In:aG g x α σ s.heap)(q:α[j]?=B I)(o:σ[j]?=B (.it k))(T:G[d]?=B X)(c:(X.is_async !=0)=aj)
  (h:wa (a5 g.prog g.w) A (.compLoop (.ListComp e G i p) d (.ref I) acc env) R s):wa (a5 g.prog g.w) A (.compStart (.ListComp e G i p) d (.ref I) acc env) R s:=by
 refine El (Y7 ?_);unfold compStart;refine L T ?_;rw[a6 (λ q:((B X).elim aj λ x=>x.is_async !=0)=S=>bw (c.symm.trans q))];exact D8 (λ z=>bl ⟨rfl,h⟩) λ z=>aB (tr (aB (kq (aB (ac9 In q o (bl ⟨rfl,h⟩))))))theorem GZ(h:hY e=S)(env:cn)(v:aq):foldedSetIterable e env v=pure v:=by rcases e with _|_<;>first|rfl|exact bw h
def G0(g:bX)(x:bD)(R:Em->aU->Prop)(F:Fin)(s:aU):Prop:=match F with|.done f=>R (.ok f) s|.again c=>c.quiet=S/\wa (a5 g.prog g.w) x.A c R s
theorem adO(h:aO (a5 g.prog g.w) x.A (compTurn (.ListComp e G i p) d I acc env) (G0 g x R) (λ u u=>False) s):
  wa (a5 g.prog g.w) x.A (.compLoop (.ListComp e G i p) d I acc env) R s:=by
 apply El;exact Y7 (hS h (λ f u y=>match f,y with
  |.done _,y=>y|.again _,y=>y) λ u u y=>y.elim)
def G1(g:bX)(x:bD)(o:H ao)(env:cn)(f:J)(acc:ao)(code:aq->Code)(j:J)(run:az->Ev az):Prop:=
 ∀(ρ ar:az)(α:H ao)(σ af:aE)(s:aU)(I:ao)(R:Em->aU->Prop),run ρ σ=B (.ok ar,af)->aG g (a3 x o) α σ s.heap->1<=s.toks->bp g (a3 x o) env ρ α s.heap->α[j]?=B I->α[f]?=B acc->
     (∀h' t aA,a_ (a3 x o).F (a3 x o).W α s.heap aA h'->aG g (a3 x o) aA af h'->1<=t->bp g (a3 x o) env ar aA h'->R (.ok .next) (cT s h' t))->wa (a5 g.prog g.w) x.A (code (.ref I)) R s
theorem adP{m:Ev az}(h:b=S)(e:xj m ρ b σ=q):m σ=q:=by subst h;exact e
theorem adQ{m:Ev az}(h:b=aj)(e:xj m ρ b σ=B (.ok ar,af)):ρ=ar/\σ=af:=by subst h;have e:=bf (ak e);exact⟨Res.ok.inj e.1,e.2⟩theorem adR(h:G[d+1]?=aa):r1 e G s p d it acc env=((bG e env>>=λ v=>call (.builtin "list.append") [acc,v]>>=λ u=>pure ())>>=λ u=>again (.compLoop (.ListComp e G s p) d it acc env)):=by unfold r1;exact L h rfl
theorem adS{l:m_}(h:G[d+1]?=B l)(c:(l.is_async !=0)=aj)(b:hY l.iter=S):r1 e G s P d it acc env=(bG l.iter env>>=λ x=>dZ l.iter.pos>>=λ u=>d_ [x] (tx x)>>=λ i=>
  runOwn (.compStart (.ListComp e G s P) (d+1) i acc env) env>>=λ u=>again (.compLoop (.ListComp e G s P) d it acc env)):=by
 unfold r1;refine L h ?_;dsimp only;refine L c ?_;simp only[GZ b,pure_bind];rfl
theorem adT(c:A2 g x sc env n o iE h7)(ju:G[depth+1]?=f.head?)(hd:G.drop (depth+1)=f)
  (w6:∀j,G1 g x o env A3 acc (λ I=>.compLoop (.ListComp T G i P) (depth+1) I (.ref acc) env) j (nH sc N iE h7 T A3 f j))
  (e:GW iE T A3 (nH sc N iE h7 T A3 f) f ρ σ=B (.ok ar,af))(In:aG g (a3 x o) α σ s.heap)(dm:1<=s.toks)(r2:bp g (a3 x o) env ρ α s.heap)(hy:α[A3]?=B acc)
  (hq:∀h' el aA,a_ (a3 x o).F (a3 x o).W α s.heap aA h'->aG g (a3 x o) aA af h'->1<=el->bp g (a3 x o) env ar aA h'->aO (a5 g.prog g.w) x.A (again (.compLoop (.ListComp T G i P) depth it (.ref acc) env)) Q E (cT s h' el)):
  aO (a5 g.prog g.w) x.A (r1 T G i P depth it (.ref acc) env) Q E s:=by
 have sub:∀b∈x.W,b∈o++x.W:=λ b=>aW _;have K:∀{ρ α σ h aA h'},aG g (a3 x o) α σ h->a_ x.F x.W α h aA h'->bp g (a3 x o) env ρ α h->bp g (a3 x o) env ρ aA h':=λ I st R=>bt.cF (bt.jY c.y.ok.cY c.y.ok.ew c.y.q _ _ _ _ _ I.dG st (bt.dG R));rcases f with _|⟨G2,gs'⟩
 ·refine L (adR ju) (Ev.mh e λ a q jV G3=>Ev.mh G3 λ u V G4 dQ=>?_)
  have dQ:=bf (ak dQ);exact aB (aB (GY (c.Pg _ T) In dm r2 c.y jV λ v fw qb l k y t xk g9=>aB (Pf c.y.ok.cY y.dG (k.get hy) g9 G4 λ ei A lp=>bl (hq ei qb l (k.trans (A.cF sub)) (dQ.2▸lp.cF) t (Res.ok.inj dQ.1▸K y A xk)))))
 ·refine bN e λ ens eT=>Ev.mh eT λ a q jV G3=>Ev.mh G3 λ adU V G4 dQ=>?_
  induction adU with
  |d _=>exact nn dQ|aH adV=>
  obtain⟨m,cH,hk'⟩:=Ph dQ;refine L (adS ju m ens) (aB (GY (c.Pg ρ G2.iter) In dm r2 c.y jV λ v fw qb l k y t xk g9=>aB (kq (aB (dT (AL (λ z z p=>p) l q _ _ V y.dG t g9 G4 _ _ (gn.ok λ it' ei lx uA A lp nI dh=>av dh λ eX X xl=>L xl ?_) eC.ok))))));refine aB (wpAny_runOwn (codeAny_mono (Pj lp X hk' ju m (w6 adV ρ ar uA V af _ eX (λ r s'=>match r with
    |.ok _=>aO _ x.A _ Q E s'|.error _=>False) dQ lp.cF nI (K y A xk) X ((k.trans (A.cF sub)).get hy) λ kI A4 A5 G5 xm xn adW=>hq kI A4 A5 ((k.trans (A.cF sub)).trans G5) xm xn adW)) λ r s' d1=>?_))
  exact match r,d1 with|.ok _,d1=>d1|.error _,d1=>d1.elim
theorem adX(c:A2 g x u env n o w F):
  ∀(a:H m_)(D:J),G.drop D=a->∀(j:J),G1 g x o env W acc (λ I=>.compLoop (.ListComp E G i p) D I (.ref acc) env) j (nH u N w F E W a j):=by
 have sub:∀b∈x.W,b∈o++x.W:=λ b=>aW _;have K:∀{ρ α σ h aA h'},aG g (a3 x o) α σ h->a_ x.F x.W α h aA h'->bp g (a3 x o) env ρ α h->bp g (a3 x o) env ρ aA h':=λ I st R=>bt.cF (bt.jY c.y.ok.cY c.y.ok.ew c.y.q _ _ _ _ _ I.dG st (bt.dG R));intro a;induction a with
 |nil=>intro D hd j ρ ar α σ af s I R e;exact nn e
 |cons X a M=>
  intro D hd j;have C:=mx hd;have key:(X.is_async !=0)=aj->∀k,G1 g x o env W acc (λ I=>.compLoop (.ListComp E G i p) D I (.ref acc) env) j (uy X.target (A1 u F X (GW w E W (nH u N w F E W a) a)) j k):=by
   intro hy k;induction k with
   |zero=>intro ρ ar α σ af s I R e;exact nn e
   |succ k ihk=>
    refine λ ρ ar α σ af s I R e In dm r2 xo l hq=>b3 e λ q qc e=>adO (L (adL C.1 hy) ?_);obtain⟨r,V⟩:=q;induction r with
    |none=>have e:=bf (ak e);exact aB (λ Pk adY A6=>aB (O3 (c.y.ok.handled c.pos) c.y.ok.cY c.y.ok.ew In.dG dm xo qc λ h' el st eX t=>bl (hq h' el α (st.cF sub) (e.2▸eX.cF) t (Res.ok.inj e.1▸K In st r2))))
    |some d=>
     refine bN e λ xp e=>Ev.mh e λ Pl oV ho iw=>b3 ho λ uB nB ho=>Ev.mh ho λ ok qd k9 eT=>λ Pk adY A6=>(aB (hS (turn (c.y.ok.handled c.pos) c.y.ok.cY c.y.ok.ew X.target In.dG dm xo qc xp (Q:=λ v s'=>aO _ x.A _ (G0 g x R) _ s') (λ v c5 t1 m hD xa g9=>aB (O9 (x:=a3 x o) (c.y.ok.handled c.pos) (λ b q=>(bB.mp q).elim (c.uz b) (c.y.ok.ew b)) c.y.ok.cY c.w c.cM ⟨by simp,λ z z z z=>by simp⟩ nB α V _ _ V hD.cF xa ⟨K In m r2,g9⟩ rfl _ _ (λ b r cw h8 h9 dw my eF i0 fN=>aB (GY (GX c.y (c.adN uB) S X.ifs) eF i0 fN c.y k9 λ b cZ t3 xq mz fO T R3 P=>?_)) eC.ok))) (λ r s' cG=>av cG λ v e nJ=>L e (aB nJ)) λ z z y=>y)) Pk _ A6;have st:=((m.cF sub).trans my).trans mz;have go:=λ fw qb adZ r3 iZ tk4 xk=>
      have A:=st.trans r3
      (bl ⟨rfl,ihk Pl ar adZ oV af _ I R iw iZ tk4 xk (A.get xo) (A.get l) λ h' el aA G6 eX t r4=>hq h' el aA (A.trans G6) eX t r4⟩:aO (a5 g.prog g.w) x.A (again _) (G0 g x R) (λ z z=>False) (cT s fw qb))
     exact(λ f k=>by
       induction b with
       |false=>exact f rfl|true=>exact k rfl) (λ h=>cq (adQ (Y P.symm h) eT) λ c5 cw=>go cZ t3 xq (.refl ..) (cw▸fO) T (c5▸R3)) λ h=>adT c (mx C.2).1 C.2 (M (D+1) C.2) (adP (Y P.symm h) eT) fO T R3 (st.get l) go
  exact λ ρ ar α σ af s I R e=>bN e λ hy=>key (ma hy) N ρ ar α σ af s I R
theorem ad0(c:A2 g x p env n o u h)
  (a:H m_)(d:J)(l:G.drop d=a)(j:J)(ρ ar:az)(α:H ao)(σ af:aE)(s:aU)(I:ao)(R:Em->aU->Prop)(e:nH p N u h E f a j ρ σ=B (.ok ar,af))(In:aG g (a3 x o) α σ s.heap)(T:1<=s.toks)(r:bp g (a3 x o) env ρ α s.heap)(q:α[j]?=B I)(k:α[f]?=B acc)
  (m:∀h' t aA,a_ (a3 x o).F (a3 x o).W α s.heap aA h'->aG g (a3 x o) aA af h'->1<=t->bp g (a3 x o) env ar aA h'->R (.ok .next) (cT s h' t)):wa (a5 g.prog g.w) x.A (.compLoop (.ListComp E G i P) d (.ref I) (.ref acc) env) R s:=
 adX c a d l j ρ ar α σ af s I R e In T r q k m
end
noncomputable def wC:H (ai×l0)->aF
 |[]=>S|(n,_)::r=> !(r.any λ p=>p.1==n)&&wC r
theorem uC{l:H (ai×l0)} :wC l=S->(n,k)∈l->l.lookup n=B k:=by induction l with|nil=>exact λ u h=>aR h dS|cons p r I=>refine λ h s=>L gY ((dM.mp s).elim (λ e=>e▸L (BEq.rfl:(n==n)=S) rfl) λ i=>dO (n==p.1) (λ q=>?_) λ q=>L q (I (bo h).2 i));have h:=(bo h).1;rw[Lc.mpr ⟨_,i,q⟩]at h;exact bw h
noncomputable def mA(C:H (ai×ao)):H (ai×l0)->H (ai×ao)->U (H (ai×ao))
 |[],acc=>B acc
 |(n,k)::r,acc=>match k==.free with
  |true=>match C.lookup n with
   |some c=>mA C r ((n,c)::acc)|none=>aa
  |false=>mA C r acc
theorem ad1{C:H (ai×ao)}{f:ai×l0->H (ai×ao)->bj (pH (H (ai×ao)))}(W:∀{p c r},(p.2==.free)=S->C.lookup p.1=B c->f p r=pure (.yield ((p.1,c)::r)))(j:∀{p r},(p.2==.free)=aj->f p r=pure (.yield r)):∀{acc},mA C n acc=B cl->forIn n acc f=(pure cl:bj _):=by
 induction n with
 |nil=>exact λ e=>ak e▸List.forIn_nil ..
 |cons p r i=>
  intro acc e;dsimp only[mA]at e;refine L (k1 ..) (dO (p.2==.free) (λ h=>eD (C.lookup p.1) (λ A=>?_) λ c A=>?_) λ h=>?_)
  ·rw[h,A]at e;exact nn e
  ·rw[h,A]at e;exact L (W h A) (i e)
  ·rw[h]at e;exact L (j h) (i e)
theorem ad2(e:mA env.cells s.names []=B cl):zE s env=pure cl:=by
 dsimp only[zE];rw[ad1 (λ h A=>?_) (λ h=>?_) e]
 ·rfl
 ·rw[bC h];unfold cellOf;rw[A];rfl
 ·exact a6 (h▸hN)theorem ad3{C:H (ai×ao)} :∀{acc},(∀n,(n,tC)∈N->(C.lookup n).isSome=S)->∃cl,mA C N acc=B cl:=by induction N with|nil=>exact λ u=>⟨_,rfl⟩|cons p r i=>intro acc h;dsimp only[mA];have w:=λ n (e:(n,tC)∈r)=>h n (c7 _ e);refine dO (p.2==.free) (λ o=>L o (a7 (KU.mp (h p.1 ?_)) λ c A=>L A (i w))) λ o=>L o (i w);rw[<-cI.mp o];exact cV
theorem Pm{acc:H (ai×ao)}{P:U ao->Prop}{v:l0}(t:n=m->P (B c))(q:P (acc.lookup n)\/(n,v)∈(m,k)::r):P (Y9 n ((m,c)::acc))\/(n,v)∈r:=
 L gY (dO (n==m) (λ s=>L s (.inl (t (cI.mp s)))) λ s=>L s (q.imp_right λ h=>(dM.mp h).elim (λ e=>aR (bf e).1 (aop s)) id))theorem Pn{v:l0}(o:(k==v)=aj)(q:p\/(n,v)∈(m,k)::r):p\/(n,v)∈r:=q.imp_right λ h=>(dM.mp h).elim (λ e=>aR (bf e).2.symm (aop o)) id
theorem Po{C:H (ai×ao)} :∀{acc},mA C N acc=B cl->acc.lookup n=C.lookup n\/(n,tC)∈N->cl.lookup n=C.lookup n:=by
 induction N with
 |nil=>exact λ e q=>ak e▸q.resolve_right dS
 |cons p r i=>
  intro acc e q;dsimp only[mA]at e;refine dO (p.2==.free) (λ h=>eD (C.lookup p.1) (λ A=>?_) λ c A=>?_) λ h=>?_
  ·rw[h,A]at e;exact nn e
  ·rw[h,A]at e;exact i e (Pm (P:=(· =C.lookup n)) (λ e=>e▸A.symm) q)
  ·rw[h]at e;exact i e (Pn h q)theorem A7:∀{k acc},(n,En)∉N->(gA k N acc).lookup n=acc.lookup n:=by induction N with|nil=>exact λ u=>rfl|cons p r i=>intro k acc q;dsimp only[gA];have w:=λ h=>q (c7 _ h);refine dO _ (λ o=>L (bC o) (Y (i w) (Y gY (dO (n==p.1) (λ s=>(q ?_).elim) λ s=>L s rfl)))) λ o=>L (a6 (o▸hN)) (i w);rw[cI.mp s,<-cI.mp o];exact cV
theorem xr:∀{k acc},j<=k->(∃c,acc.lookup n=B c/\j<=c)\/(n,En)∈N->∃c,(gA k N acc).lookup n=B c/\j<=c:=by induction N with|nil=>exact λ u q=>q.resolve_right dS|cons p r i=>intro k acc E q;dsimp only[gA];exact dO _ (λ h=>L (bC h) (i (ip E) (Pm (P:=λ o=>∃c,o=B c/\j<=c) (λ u=>⟨k,rfl,E⟩) q))) λ h=>L (a6 (h▸hN)) (i E (Pn h q))def bk(n:J)(m:cj):Bool:=(NQ m).all λ j=>bE j n
theorem Pp{α:H ao}(e:(α++p)[j]?=B b)(h:bE j (O α)=S):α[j]?=B b:=by rw[vX (Z.blt_iff.mp h)]at e;exact e
theorem d2.cut(r:d2 P X (α++p) h a m)(ok:bk (O α) m=S)(s:h.objs.size<=h'.objs.size)(c:h'.get? a=h.get? a)(k:fX h h' X Yq):d2 P Yq α h' a m:=r.mg s c k λ j b q e=>Pp e (b9.mp ok j q)
theorem c0.cut(s:h.objs.size<=h'.objs.size)(k:fX h h' X Yq){as:H ao} :
  ∀{bs:H ao}{m:aE},c0 P X (α++e) h (as++bs) m->(∀a∈as,h'.get? a=h.get? a)->(m.take (O as)).all (bk (O α))=S->c0 P Yq α h' as (m.take (O as)):=by
 induction as with|nil=>intro u u u u u;exact .nil|cons a as i=>intro bs m r c ok;rcases r with _|⟨r,R⟩;obtain ok:=bo ok;exact .cons (r.cut ok.1 s (c a cV) k) (i R (λ b q=>c b (c7 _ q)) ok.2)
theorem c0.ad4(s:h.objs.size<=h'.objs.size)(k:∀b o,h.get? b=B o->h'.get? b=B o)(K:∀b o,h.get? b=B o->b∉X->b∉Yq)
  (r:c0 P X α h as ms):c0 P Yq α h' as ms:=by
 induction r with
 |nil=>exact .nil
 | @cons a as m ms r R i=>
  refine .cons ?_ i;by_cases e:m=.cX
  ·subst e;exact eo r s
  ·exact r.mono s (a7 (r.there e) λ o e=>Y (k _ _ e) e.symm) (λ b o e n=>⟨k _ _ e,K _ _ e n⟩) eV
theorem aG.Pq(I:aG g x α σ h)(l:h.objs.size<=a):g.K.get? a=none:=eD _ id λ o e=>aR (dI (I.base _ _ e)) (er.mpr l)
theorem aG.fJ{W:H ao}(I:aG g x α σ h)(fresh:∀b∈W,h.objs.size<=b)(l:∀b∈W,∃o,h'.get? b=B o)(k:∀b o,h.get? b=B o->h'.get? b=B o)(s:h.objs.size<=h'.objs.size):aG g (Internal.fJ x W) α σ h':=
 have j:=I.keeps k s
 ⟨j.base,j.big,λ a c=>c.elim (λ c=>(bB.mp c).elim (λ c=>⟨I.Pq (fresh a c),bA I.big (fresh a c)⟩) λ c=>I.b2 a (.inl c)) λ c=>I.b2 a (.inr c),λ a c=>(bB.mp c).elim (l a) (j.alive a),j.dv,λ a c q=>(bB.mp q).elim (λ q=>aR (I.bM.lt a c) (er.mpr (fresh a q))) (I.c8 a c),c0.ad4 s k (λ b o e n q=>(bB.mp q).elim (λ q=>(bB.mp q).elim (λ q=>aR (dI e) (er.mpr (fresh b q))) λ q=>n (bL _ q)) λ q=>n (aW _ q)) I.bM,j.fr,j.old⟩
theorem aG.cut{W:H ao}{h'':aX}(I:aG g (Internal.fJ x W) (α++p) σ h')(G:cb x.F x.P)(ok:(σ.take (O α)).all (bk (O α))=S)(y:∀b∈W,b∉x.P/\b∉α)(same:∀b,b∉W->h''.get? b=h'.get? b)(s:h'.objs.size<=h''.objs.size):
  aG g x α (σ.take (O α)) h'':=by
 have N:=λ b u q=>(y b q).1 u;refine⟨?_,bA I.big s,λ a h=>I.b2 a (h.imp (aW _) λ q=>bL _ q),λ a h=>a7 (I.alive a (aW _ h)) λ o e=>⟨o,Y (same a (N a h)) e⟩,(rl.mp I.dv).1,λ a h q=>I.c8 a (bL _ h) (aW _ q),?_,λ e z=>(I.fr e z).e λ l o q b c d r=>⟨q,l,o,b,c,Y (same l (N l (G l c))) d,r⟩,?_⟩
 ·refine λ b o e=>Y (same b λ q=>?_) (I.base b o e)
  rw[(I.b2 b (.inl (bL _ q))).1]at e;exact nn e
 ·exact c0.cut s (λ b o e n=>⟨Y (same b (λ q=>n (bL _ (bL _ q)))) e,λ q=>n ((bB.mp q).elim (λ q=>bL _ (aW _ q)) λ q=>aW _ (bL _ q))⟩) I.bM (λ a h=>same a λ q=>(y a q).2 h) ok
 ·refine Gk I.old (λ a q=>(I.b2 a (.inl (bL _ q))).2) λ b o q=>(same b q).trans
noncomputable def uD(s:bW)(ρ:az):az:=ρ.filter λ p=>s.names.lookup p.1==B tC
theorem G7(e:(uD s ρ).lookup n=B v):s.names.lookup n=B .free/\ρ.lookup n=B v:=
 have q:=Pa (p:=λ m=>s.names.lookup m==B tC) e
 ⟨eq_of_beq q.1,q.2⟩theorem ad5{f:ai×l0->ai×l0}(M:∀p,(f p).1=p.1/\(p.2=(f p).2\/p.2=.free/\(f p).2=.cell)){l:H (ai×l0)} :l.lookup n=(l.map f).lookup n\/l.lookup n=B .free/\(l.map f).lookup n=B .cell:=by induction l with|nil=>exact .inl rfl|cons p r i=>rw[lZ,gY,gY,(M p).1];exact dO (n==p.1) (λ h=>L h ((M p).2.imp (aM B) λ q=>⟨aM B q.1,aM B q.2⟩)) λ h=>L h i
theorem G8(s:bW)(env:cn)(A:c.scope=relabel s env):fa s c:=by intro n;unfold Env.kindOf;refine L A (ad5 λ p=>?_);dsimp only;refine(Ln _).elim (λ h=>L (bC h) ⟨rfl,.inr ⟨eq_of_beq (bo (bo h).1).1,rfl⟩⟩) λ h=>L (a6 h) ⟨rfl,.inl rfl⟩theorem A8:∀(n:H (ai×l0)){k:J}{acc:H (ai×ao)},gA k n acc=gA k n []++acc:=by intro n;induction n with|nil=>exact rfl|cons p r i=>intro k acc;dsimp only[gA];exact(Ln _).elim (λ h=>L (bC h) (L (bC h) (Y i (L (i (acc:=[_])) (eb .. ▸rfl))))) λ h=>L (a6 h) (L (a6 h) i)
noncomputable def compEnv(s:bW)(cl:H (ai×ao))(C:ao)(env:cn):Env:=
 {scope:=relabel s env,locals:=C,globals:=env.globals,cells:=gA (C+1) s.names cl,qual:=env.qual,func:=aa,code:=env.code,frame:=env.frame,builtins:=env.builtins}noncomputable def uE(h:aX)(s:bW):Heap:=Lo (h.push {cls:=.type "dict",data:=.dict #[] }) s.names
noncomputable def h_(s:bW)(C:ao):H Addr:=C::(gA (C+1) s.names []).map (·.2)
theorem ad6
  (h:∀c,{c with scope:=relabel p env} =compEnv p cl s.heap.objs.size env->c.locals=s.heap.objs.size->Q c {s with heap:=uE s.heap p}):aO M A (Lp p env.globals cl [] env.qual aa .none (B env)) Q E s:=by
 dsimp only[Lp];exact aB (Zd (aB (wpAny_layCells _ (λ name k C=>by cases r:k==En<;>rfl) _ _ _ _ (L (et ..) (aB (bl (bl (h _ rfl rfl))))))))
theorem A9:∀(n:H (ai×l0))(h:aX),h.objs.size<=(Lo h n).objs.size
 |[],h=>bH _
 |(m,q)::r,h=>by
  dsimp only[Lo];split
  ·exact bA (by rw[et];exact hg _) (A9 r _)
  ·exact A9 r h
def nK(s C:bW):Bool:=wC C.names&&(C.kind==.function)&&C.names.all λ p=> !(p.2==.free)||iB (s.names.lookup p.1)
theorem r5(ok:nK s c=S)(C:fa s env)(h:c.names.lookup m=B .free):iB (env.kindOf m)=true:=by
 obtain⟨_,v⟩:=bF.mp ok;rcases C m with e|⟨_,e⟩
 ·rw[<-e];exact(b9.mp v _ (mem_of_lookup h))
 ·exact L e rfl
theorem G9(s:bW):∀b o,h.get? b=B o->(uE h s).get? b=B o:=λ b o e=>wb _ _ _ _ (dy _ e)theorem Pr(s:bW):h.objs.size+1<=(uE h s).objs.size:=bA (by simp only[et];exact bH _) (A9 s.names (h.push {cls:=.type "dict",data:=.dict #[] }))theorem r6(s:bW):CellsOk (uE h s) (h.objs.size+1) (gA (h.objs.size+1) s.names []):=by obtain ok:=cellsFrom_ok s.names (h.push {cls:=.type "dict",data:=.dict #[] }) _ [] ⟨λ u u e=>(aR e dS),aoq⟩ (L (et ..) (bH _));rw[et]at ok;exact ok
theorem xt{h:aX}(s:bW):∀b∈h_ s h.objs.size,h.objs.size<=b:=by
 intro b q;rcases dM.mp q with rfl|q
 ·exact bH _
 ·exact av (iP.mp q) λ p u w=>ax w (jP ((r6 s).empty p.1 p.2 u).2)
theorem ad7(ok:nK sc C=S)(D:fa sc env)(I:aG g x α σ h)(iC:cb x.F x.P)(R:bt g x env ρ α h)(X:mA env.cells C.names []=B cl):
  bt g (fJ x (h_ C h.objs.size)) (compEnv C cl h.objs.size env) (uD C ρ) α (uE h C):=by
 refine cq (bF.mp ok) λ G ok3=>?_;obtain⟨y,a⟩:=bF.mp G;obtain uF:∀b o,h.get? b=B o->b∉x.P++α->(uE h C).get? b=B o/\b∉(h_ C h.objs.size++x.P)++α:=by
  refine λ b o e n=>⟨G9 C b o e,λ q=>?_⟩;simp only[bB]at q n;rcases q with(q|q)|q
  ·exact aR (dI e) (er.mpr (xt C b q))
  ·exact n (.inl q)
  ·exact n (.inr q)
 obtain i:fa C (compEnv C cl h.objs.size env):=G8 C env rfl;have E:∀m,C.names.lookup m=B .cell->∃c,(compEnv C cl h.objs.size env).cells.lookup m=B c/\(m,c)∈gA (h.objs.size+1) C.names []:=by refine λ m r=>av (xr (bH _) (.inr (mem_of_lookup r))) λ c W w=>(⟨c,?_,mem_of_lookup W⟩);show(gA _ C.names cl).lookup m=B c;rw[A8,Eo,W];rfl
 have s:∀m,C.names.lookup m=B .free->(compEnv C cl h.objs.size env).cells.lookup m=env.cells.lookup m:=by intro m r;show(gA _ C.names cl).lookup m=_;rw[A7 (λ q=>by rw[uC y q]at r;exact nomatch r),Po X (.inr (mem_of_lookup r))]
 have K:∀m,iB ((compEnv C cl h.objs.size env).kindOf m)=S->C.names.lookup m=B .cell\/C.names.lookup m=B .free:=by
  intro m r;rcases i m with e|⟨e,_⟩
  ·rw[<-e]at r
   cases Q:C.names.lookup m with|none=>rw[Q]at r;exact bw r|some k=>rw[Q]at r;induction k<;>first|exact .inl rfl|exact .inr rfl|exact bw r
  ·exact .inr e
 refine⟨(by show C.kind=.function;simpa using a),R.gl,R.cc,bL _ (cV ..),⟨λ w=>aa,(Heap.Ns.new h _).keeps (wb _ _),λ m v T Q=>?_⟩,λ m r=>?_,λ m M c r V e l=>?_⟩
 ·obtain N:=(G7 T).1
  rcases i m with e|⟨_,e⟩
  ·rw[N]at e;rw[<-e]at Q;exact aR Q (by decide)
  ·rw[e]at Q;exact aR Q (by decide)
 ·rcases K m r with A|N
  ·refine av (E m A) λ c W j=>?_
   have ce:=(r6 C).empty m c j;refine⟨c,W,bL _ (c7 _ (iP.mpr ⟨_,j,rfl⟩)),λ q=>a7 (I.alive c (iC c q)) λ o e=>aR (dI e) (er.mpr (jP ce.2)),λ q=>?_,aa,ce.1,λ v T=>?_⟩
   ·obtain ho:=ce.2
    rw[q]at ho;exact Lq _ ho
   ·have:=(G7 T).1
    rw[A]at this;exact nomatch this
  ·exact R.jX (r5 ok D N) λ c ny W j t cZ p ei=>⟨c,Y (s m N) W,aW _ j,t,λ q=>hu _ (q▸p.lt),ny,p.keeps (G9 C),λ v T=>av (ei v (G7 T).2) λ u mj iW=>(⟨u,mj,iW.mono uF eV⟩)⟩
 ·rcases K m r with A|N
  ·refine av (E m A) λ gG W j=>?_
   rw[e]at W;obtain rfl:=ak W;rcases K M V with f|P
   ·refine av (E M f) λ j3 d t=>?_
    rw[l]at d;obtain rfl:=ak d;exact name_of_addr (r6 C).apart j t
   ·refine R.jX (r5 ok D P) λ j3 ny F gC z z p z=>?_
    rw[s M P,F]at l;obtain rfl:=ak l;exact aR (eo p.lt (jP ((r6 C).empty m _ j).2)) (hu _)
  ·refine R.jX (r5 ok D N) λ gG ny F gC z z p z=>?_
   rw[s m N,F]at e;obtain rfl:=ak e;rcases K M V with f|P
   ·refine av (E M f) λ j3 d t=>?_
    rw[l]at d;obtain rfl:=ak d;exact aR (eo p.lt (jP ((r6 C).empty M _ t).2)) (hu _)
   ·rw[s M P]at l
    exact R.ap m M _ (r5 ok D N) (r5 ok D P) F l
noncomputable def G_(bg:aF)(n:J)(xs:H D)(σ:aE):Res V×aE:=match bg with|false=>(.ok (.d (.ae xs)),σ)|true=>(.ok (.aH n),σ++ [.ae xs])def ad8(bg:aF)(N:J)(c:bW)(first:Ev V)(E:az->aJ->Ev V)(h:az->aJ->Ev aF)(e:aJ)(g:H m_)(ρ:az):Ev V:=λ σ=>oO (first σ) λ a b=>oO (g8 a b) λ v p=>hA v λ j=>oO (nH c N E h e (O p) g j (uD c ρ) (p++ [.ae []])) λ u i=>jW i[O p]? λ xs=>bR ((i.take (O σ)).all (bk (O σ))) (B (G_ bg (O σ) xs (i.take (O σ))))def jv(bg:aF)(N:J)(s c:bW)(first:Ev V)(E:az->aJ->Ev V)(h:az->aJ->Ev aF)(e:aJ)(g:H m_)(ρ:az):Ev V:=λ σ=>match g with|[]=>aa|G::a=>bR (nK s c&&hY G.iter) (ad8 bg N c first E h e (G::a) ρ σ)
theorem Pt(e:jv bg N s c first u h E g ρ σ=B (o,af)){G:Prop}
  (k:∀X d a b j p V i xs,g=X::d->(nK s c&&hY X.iter)=S->first σ=B (.ok a,b)->g8 a b=B (.ok (.aH j),p)->nH c N u h E (O p) (X::d) j (uD c ρ) (p++ [.ae []])=B (.ok V,i)->i[O p]?=B (.ae xs)->(i.take (O σ)).all (bk (O σ))=S->
    G_ bg (O σ) xs (i.take (O σ))=(o,af)->G):G:=by
 rcases g with _|⟨X,d⟩
 ·exact nn e
 ·exact bN e λ ok e=>t6 e λ a b R e=>t6 e λ v p f e=>nx e λ j A e=>t6 e λ V i W e=>oP e λ xs F e=>bN e λ m e=>k X d a b j p V i xs rfl ok R (A▸f) W F m (ak e)
theorem ad9(ok:(nK s c&&hY g.iter)=S)(E:first σ=B (.ok a,b))(f:g8 a b=B (.ok (.aH j),p))(V:nH c N u h e (O p) (g::G) j (uD c ρ) (p++ [.ae []])=B (.ok W,i))(F:i[O p]?=B (.ae xs))(m:(i.take σ.length).all (bk σ.length)=S):
  jv bg N s c first u h e (g::G) ρ σ=B (G_ bg (O σ) xs (i.take (O σ))):=
 Y (eh ok) (Y (wO E) (Y (wO f) (Y (acd _ _) (Y (wO V) (Y (rT F) (eh m))))))
theorem Pu(e:jv bg N s c first v h E g ρ σ=B (o,af)):∃r,o=.ok r:=
 Pt e λ u u u u u u u u u u u u u u u u q=>by induction bg<;>exact⟨_,(aM Zb q).symm⟩
theorem ad_(y:cU g x env n)(ok:nK t C=S)(F:fa t env)(I:aG g x α σ h)(R:bt g x env ρ α h)(j:mA env.cells C.names []=B cl):
  cU g (fJ x (h_ C h.objs.size)) (compEnv C cl h.objs.size env) n/\p_ (Internal.cF (fJ x (h_ C h.objs.size)) (h_ C h.objs.size++(fJ x (h_ C h.objs.size)).W)) C (compEnv C cl h.objs.size env):=by
 refine cq (bF.mp ok) λ D Q=>?_;obtain⟨s,a⟩:=bF.mp D;have w:=λ b r=>a7 (I.alive b (y.ok.ew b r)) λ o=>dI;have E:∀m,C.names.lookup m=B .cell->∃c,(compEnv C cl h.objs.size env).cells.lookup m=B c/\(m,c)∈gA (h.objs.size+1) C.names []:=by refine λ m p=>av (xr (bH _) (.inr (mem_of_lookup p))) λ c X u=>(⟨c,?_,mem_of_lookup X⟩);show(gA _ C.names cl).lookup m=B c;rw[A8,Eo,X];rfl
 refine⟨⟨y.base,⟨λ b r=>aW _ (y.ok.cY b r),λ b r=>aW _ (y.ok.ew b r),y.ok.frames,y.ok.handled,y.ok.depth,y.ok.units,y.ok.nolimit⟩,⟨λ q=>hu _ (w _ q),λ m c p e q=>?_⟩⟩,⟨bL _ (cV ..),λ m c p e=>?_⟩⟩
 ·obtain K:C.names.lookup m=B .cell\/C.names.lookup m=B .free:=by
   rcases(G8 C env rfl:fa C (compEnv C cl h.objs.size env)) m with e|⟨e,_⟩
   ·rw[<-e]at p
    cases P:C.names.lookup m with|none=>rw[P]at p;exact bw p|some k=>rw[P]at p;induction k<;>first|exact .inl rfl|exact .inr rfl|exact bw p
   ·exact .inr e
  rcases K with A|M
  ·refine av (E m A) λ T X l=>?_
   rw[e]at X;obtain rfl:=ak X;exact aR (w _ q) (er.mpr (jP ((r6 C).empty m _ l).2))
  ·have f:(gA _ C.names cl).lookup m=B c:=e
   rw[A7 (λ q=>by rw[uC s q]at M;exact aR M (by decide)),Po j (.inr (mem_of_lookup M))]at f;exact y.q.2 m c (r5 ok F M) f q
 ·refine av (E m p) λ T X l=>?_
  rw[e]at X;exact L (ak X) (bL _ (c7 _ (iP.mpr ⟨_,l,rfl⟩)))theorem a_.Pw{F W α s own:H ao}(st:a_ F (own++W) α h (α++s) h')(fresh:∀b∈own,h.objs.size<=b):a_ F W α h α h':=by have nb:∀b o,h.get? b=B o->b∉own:=λ b o e q=>aR (dI e) (er.mpr (fresh b q));exact⟨st.size,w3,λ b o e f w n=>st.same b o e f (λ q=>(bB.mp q).elim (nb b o e) w) n,λ b o e w n=>st.slot b o e (λ q=>(bB.mp q).elim (nb b o e) w) n⟩theorem a_.aea{F W α e o:H ao}{acc:ao}(st:a_ F (o++W) α h (α++e) h')(fresh:∀b∈o,h.objs.size<=b)(c:h.objs.size<=acc):a_ F W α h (α++ [acc]) h':=by obtain s:=st.Pw fresh;exact⟨s.size,⟨[acc],rfl,λ a q=>L (ek.mp q) c⟩,s.same,s.slot⟩
theorem Ha(h:∀a,f≠ .ref a)(first:H aq)(ay:H (bj aq)):
  rp P f first (ay.map λ t=>(aj,t)) []=(d_ (f::first) (wc f S (ay.map λ t=>(aj,t)) [])>>=λ a=>dZ P>>=λ u=>call f (first++a.pos) a.kw>>=λ r=>d_ [r] point>>=λ u=>pure r):=by
 obtain e:(ay.map λ t=>(aj,t)).any (·.1)=false:=by induction ay with|nil=>rfl|cons t ay i=>exact i
 dsimp only[rp];rw[(show keeperOf f=pure .machine from by
   induction f<;>first|rfl|exact aR rfl (h _)),e];rfl
theorem Px(f:aq)(ay:H (bj aq))(ks:H (ai×bj aq)):wc f S (ay.map λ t=>(aj,t)) (ks.map λ p=>(B p.1,p.2))=
  (v5 (ay.map λ t=>(aj,t))>>=λ vs=>d_ vs (evalAll (ks.map (·.2))>>=λ u=>pure ⟨vs,(ks.map (·.1)).zip u⟩)):=by
 dsimp only[wc];refine L (show(ks.map λ p=>(B p.1,p.2)).all _=S by simp) (L (Y List.filterMap_map (pI List.filterMap_eq_map' ks):(ks.map λ p=>(B p.1,p.2)).filterMap (λ q:U ai×bj aq=>q.1)=ks.map _) (L v8 ?_));rcases ay with _|⟨t,_|⟨T,ay⟩⟩
 all_goals
  refine aM (bind _) (funext λ vs=>?_);show d_ _ _=_;refine ax ((ea ..).symm) ?_;rfl
theorem evalArgs_plain(f:aq)(ay:H (bj aq)):wc f S (ay.map λ t=>(aj,t)) []=(v5 (ay.map λ t=>(aj,t))>>=λ vs=>d_ vs (pure ⟨vs,[]⟩)):=Y (Px f ay []) rfl
def xu:D->U ah
 |.str s=>a8 (aZ s.length 16777216) (B (s.length:ah))|.ae xs=>a8 (dc xs) (B (O xs:ah))|.aD xs=>a8 (dc xs) (B (O xs:ah))|_=>aa
noncomputable def xv:D->U ah
 |.str s=>match s.cps.toList with
  |[c]=>B (c:ah)|_=>aa
 |_=>aa
noncomputable def one{A Bq:Type}(l:H A)(f:A->U Bq):U Bq:=match l with|[a]=>f a|_=>aa
theorem j4{A Bq:Type}{l:H A}{f:A->U Bq}{r:Bq}(e:one l f=B r){G:Prop}(k:∀a,l=[a]->f a=B r->G):G:=by
 rcases l with _|⟨a,_|_⟩
 ·exact nn e
 ·exact k a rfl e
 ·exact nn e
noncomputable def two{A Bq:Type}(l:H A)(f:A->A->U Bq):U Bq:=match l with|[a,b]=>f a b|_=>aa
theorem nL{A Bq:Type}{l:H A}{f:A->A->U Bq}{r:Bq}(e:two l f=B r){G:Prop}(k:∀a b,l=[a,b]->f a b=B r->G):G:=by
 rcases l with _|⟨a,_|⟨b,_|⟨c,l⟩⟩⟩
 ·exact nn e
 ·exact nn e
 ·exact k a b rfl e
 ·exact nn e
def Py:D->U D:=iX λ i=>a8 (decide (0<=i)&&decide (i<=0x10FFFF)) (B (.str ⟨#[i.toNat]⟩))
def e5(f:D->U D):H V->Ev V
 |[a]=>(Ev.read a).bind λ d=>Ev.ofD (f d)|_=>.au
def A_(f:ah->Ev V)(a:V):Ev V:=match a with
 |.d d=>match d with
  |.int i=>f i|_=>.au
 |.aH _=>.au
def Pz(f:H D->Ev V)(a:V):Ev V:=match a with
 |.d d=>match d with
  |.ae xs=>f xs|_=>.au
 |.aH _=>.au
def Ba(as:H V):Ev V:=match as with|[]=>.au|a::t=>match t with|[]=>A_ (λ b=>rX (.hX 0 b)) a|b::t=>match t with|[]=>A_ (λ a=>A_ (λ b=>rX (.hX a b)) b) a|_::_=>.au
def PA(as:H V):Ev V:=match as with|[]=>.au|a::t=>match t with|[]=>Pz (λ xs=>rX (.it (.rev xs (O xs)))) a|_::_=>.au
def eN(g:bX)(x:bD)(F:aq)(m:H V->Ev V):Prop:=∀vs as,ag g x (λ α h=>bU (x.P++α) α h vs as) (dA x) (call F vs) (m as)
theorem oW(G:∀v d r,f d=B r->∀α σ s,aG g x α σ s.heap->1<=s.toks->RD (x.P++α) s.heap v d->∀(Q:aq->aU->Prop)(E:aq->aU->Prop),
   hl x α s Q r->aO (a5 g.prog g.w) x.A (call F [v]) Q E s):eN g x F (e5 f):=by
 intro vs as;rcases as with _|⟨a,as⟩;case nil=>exact .au
 case cons=>
  rcases as with _|⟨_,_⟩;case cons=>exact .au
  case nil=>
   rcases vs with _|⟨v,vs⟩;case nil=>intro α σ s o af I t p;exact nomatch p
   case cons=>
    rcases vs with _|⟨_,_⟩;case cons=>intro α σ s o af I t p;cases p with|cons _ q=>exact nomatch q
    case nil=>refine ag.ghost (λ α h p=>by cases p with|cons r _=>exact r) λ d=>ag.toV ?_;cases e:f d with|none=>exact .au|some r=>exact ag.wp λ α σ s I t p=>G v d r e α σ s I t p.2
def PB(g:bX)(x:bD)(r:D)(F v:aq):Prop:=∀(s:aU)(Q:aq->aU->Prop)(E:aq->aU->Prop),(∀v t,aV [] ⟨#[],{}⟩ v r->Q v {s with toks:=t})->aO (a5 g.prog g.w) x.A (call F [v]) Q E s
theorem PC(h:∀z t r,f z=B r->PB g x r F (.str z t)):eN g x F (e5 (hB f)):=
 oW (λ v d r e α σ s I T p Q E G=>by
  rcases d with _|_|_|_|z|_|_|_|_|_|⟨_,_⟩;case str=>obtain⟨t,rfl⟩:=p.str;exact h z t r e s Q E G.plain
  all_goals exact nn e)
theorem Bb(h:∀i t r,f i=B r->PB g x r F (.int i t)):eN g x F (e5 (iX f)):=
 oW (λ v d r e α σ s I T p Q E G=>by
  rcases d with _|_|i|_|_|_|_|_|_|_|⟨_,_⟩;case int=>obtain⟨t,rfl⟩:=p.int;exact h i t r e s Q E G.plain
  all_goals exact nn e)
theorem PD:eN g x (.builtin "len") (e5 (λ d=>(xu d).map D.int)):=
 oW (λ v d r e α σ s I T p Q E h=>by
  refine av (hR.mp e) λ i R w=>?_;subst w;rcases d with _|_|_|_|z|_|_|_|xs|xs|⟨_,_⟩;case str=>obtain⟨t,rfl⟩:=p.str;obtain⟨q,f⟩:=dn (R);obtain rfl:=ak f;have q:=b8 q;exact P.len_str (by lia) (h _ s.heap _ (λ u u e=>e) (bH _) (.int _ _))
  case ae=>obtain⟨l,W,rfl,y,n⟩:=p.mm;obtain⟨q,f⟩:=dn R;cases f;have q:=b8 q;have a:=n.length;refine Calls.call_len_list y.isList (by simp;lia) ?_;simp[hT,a];exact h _ s.heap _ (λ u u e=>e) (bH _) (.int _ _)
  case aD=>obtain⟨l,W,rfl,N,n⟩:=p.t9;obtain⟨q,f⟩:=dn R;cases f;have q:=b8 q;have a:=n.length;refine PyProof.Rows.len_tuple N.isTup (by simp;lia) ?_;simp[hT,a];exact h _ s.heap _ (λ u u e=>e) (bH _) (.int _ _)
  all_goals exact nn R)
theorem PE:eN g x (.builtin "ord") (e5 (λ d=>(xv d).map D.int)):=
 oW (λ v d r e α σ s I T p Q E h=>by
  refine av (hR.mp e) λ i R w=>?_;subst w;rcases d with _|_|_|_|z|_|_|_|_|_|⟨_,_⟩
  case str=>
   obtain⟨t,rfl⟩:=p.str;obtain⟨C⟩:=z;obtain⟨l⟩:=C;rcases l with _|⟨c,l⟩;case nil=>exact nn R
   case cons=>
    rcases l with _|⟨_,_⟩;case cons=>exact nn R
    case nil=>obtain rfl:=ak R;exact P.ord_of_char (h _ s.heap _ (λ u u e=>e) (bH _) (.int _ _))
  all_goals exact nn R)
theorem Hb(w:∀α h,pre α h->a9 (x.P++α) α h v a)(M:∀i t,v=.int i t->ag g x pre (dA x) c (f i)):ag g x pre (dA x) c (A_ f a):=by
 rcases a with d|i
 ·rcases d with _|b|i|u|s|n|n|a|xs|xs|⟨c,xs⟩
  case int=>exact λ α σ s o af I T p=>a7 (aV.inv (w _ _ p)) λ t e=>M i t e α σ s o af I T p
  all_goals exact .au
 ·exact .au
theorem aeb(u:∀α h,pre α h->a9 (x.P++α) α h v a)(M:∀xs,ag g x (λ α h=>pre α h/\aV (x.P++α) h v (.ae xs)) (dA x) c (f xs)):ag g x pre (dA x) c (Pz f a):=by induction a with|aH=>exact .au|d d=>cases d with|ae xs=>exact(M xs).pre λ α h p=>⟨p,u α h p⟩|_=>exact .au
theorem qe(p:bU X α h [v] [a]):a9 X α h v a:=by cases p;assumption
theorem r7(p:bU X α h [v,u] [a,b]):a9 X α h u b:=by cases p with|cons _ q=>exact qe q
theorem oX(p:bU X α h [v,u] [a,b]):a9 X α h v a:=by cases p;assumption
theorem uG(p:bU X α h vs [a]):∃v,vs=[v]:=by cases p with|cons r q=>cases q;exact⟨_,rfl⟩theorem Bc(p:bU X α h vs [a,b]):∃v u,vs=[v,u]:=by cases p with|cons r q=>obtain⟨u,rfl⟩:=uG q;exact(bh _ _ rfl)theorem Hc(h:∀v,ag g x (λ α h=>bU (x.P++α) α h [v] [a]) (dA x) (call F [v]) m):ag g x (λ α h=>bU (x.P++α) α h vs [a]) (dA x) (call F vs) m:=by intro α σ s o af I t p;obtain⟨v,rfl⟩:=uG p;exact h v α σ s o af I t p
theorem r8(h:∀v u,ag g x (λ α h=>bU (x.P++α) α h [v,u] [a,b]) (dA x) (call F [v,u]) m):ag g x (λ α h=>bU (x.P++α) α h vs [a,b]) (dA x) (call F vs) m:=by intro α σ s o af I t p;refine f5 (Bc p) λ v u w=>?_;subst w;exact h v u α σ s o af I t p
theorem aec(p:bU X α h [v,u,w] [a,b,c]):a9 X α h v a:=by cases p;assumption
theorem PF{vs:H aq}{as:H V}(p:bU X α h (v::vs) (a::as)):bU X α h vs as:=by cases p;assumption
theorem PG(h:∀v u w,ag g x (λ α h=>bU (x.P++α) α h [v,u,w] [a,b,c]) (dA x) (call F [v,u,w]) m):ag g x (λ α h=>bU (x.P++α) α h vs [a,b,c]) (dA x) (call F vs) m:=by
 intro α σ s o af I t p;refine mf ((show∃v u w,vs=[v,u,w]from by
   cases p with
   |cons r q=>refine f5 (Bc q) λ u w W=>?_;refine L W ?_;exact(e_ _ _ _ rfl))) λ v u w n=>?_
 subst n;exact h v u w α σ s o af I t p
theorem PH(h:∀(s:aU)(Q:aq->aU->Prop)(E:aq->aU->Prop),(∀t0 t1 T t,s.toks<=t->Q (.ref s.heap.objs.size) (cT s (s.heap.push {cls:=.type "range",data:=.fields #[.int a t0,.int b t1,.int 1 T] }) t))->aO (a5 g.prog g.w) x.A c Q E s):ag g x pre (dA x) c (rX (.hX a b)):=by intro α σ s o af I t u e Q E G u;cases e;refine h s Q E λ t0 t1 T i n=>(ff (I.new {cls:=.type "range",data:=.fields #[.int a t0,.int b t1,.int 1 T] } (.hX a b) (e_ _ _ _ (d0 _ rfl))) λ C st r=>?_);exact G _ _ _ i _ rfl st C (bA t n) r
theorem aed:eN g x (.type "reversed") PA:=by
 intro vs as
 match as with
 |[]=>exact .au|_::_::_=>exact .au|[a]=>
 refine Hc λ v=>aeb (λ u u=>qe) λ xs=>?_;intro α σ s o af I t p e Q E G y;cases e;refine eg p.2.inv λ l W w N h r=>L w (call_reversed_list h.isList ((show(W.toArray.size-1)=(O xs:ah)- 1 by rw[hT,r.length]).symm▸a7 h λ n e=>(ff (I.new (revObj l _) (.it (.rev xs _)) (bh l W ⟨⟨_,d0 _ rfl,rfl,rfl⟩,bH _,uk e N,⟨n,dy _ e⟩,r.mono (rW _)⟩)) λ i st R=>?_)));exact G _ _ _ s.toks _ rfl st i t R
noncomputable def aee{A:Type}(m:U cj)(f:ah->ah->U A):U A:=m.bind λ m=>match m with|.hX a b=>f a b|_=>aa
def PI(as:H V):Ev V:=λ σ=>one as λ a=>hA a λ i=>aee σ[i]? λ a b=>bR (zz a b 1&&aZ (b-a).toNat 16777216) (B (.ok (.d (.ae ((aw (b-a).toNat).map λ(i:J)=>D.int (a+i)))),σ))
theorem aef{X:H ao}{h:aX}{a:ah}{acc:fE aq}{n:J}(R:ItemsOf (λ i v=>∃t,v=.int (a+i*1) t) acc n):bT X h acc.toList ((aw n).map λ(i:J)=>D.int (a+i)):=by
 obtain K:∀k vs j,O vs=k->(∀i v,vs[i]?=B v->∃t,v=KV (a+(j+i:J)) t)->bT X h vs ((km j k).map λ(i:J)=>D.int (a+i)):=by intro k;induction k with|zero=>intro vs j z u;rw[zv z];exact .nil|succ k I=>intro vs j z l;induction vs with|nil=>simp at z|cons v vs=>refine a7 (l 0 v rfl) λ t W=>L W (.cons (aV.int _ t) (I vs _ (by simpa using z) λ i w e=>?_));obtain⟨t,rfl⟩:=l (i+1) w e;exact⟨t,ax (show j+1+i=j+(i+1) by exact zh j i) rfl⟩
 obtain this:=K n acc.toList 0 R.1 λ i v e=>by obtain⟨t,rfl⟩:=R.2 i v (by simpa using e);exact⟨t,rfl⟩
 rwa [<-anE]at this
theorem aeg(f:x.A.handled=aa):eN g x (.type "list") PI:=by
 intro vs as;intro α σ s o af I D p e Q E K d;refine j4 e λ n z R=>nx R λ i q R=>(λ e k=>b3 e λ m h e=>by
   induction m with
   |hX a b=>exact k a b h e|_=>exact nn e) R λ a b M R=>bN R λ ok dQ=>?_
 subst z q;obtain y:=bf (ak dQ);obtain⟨v,rfl⟩:=uG p;refine av (qe p) λ l c W=>L W ?_;obtain⟨N,V⟩:=bo ok;refine mf (I.look c M) λ t u w X=>g4 (call_list_range f X N (OA a b) (bA (b8 V) (by decide)) λ h' T A c' k C j G=>?_);obtain P:=G.size;exact K _ _ h' T α y.1.symm (.of_keeps k P) (ax y.2 (I.keeps k P)) (bA D G.toks) (aV.ae I.fresh ⟨c',C⟩ (aef j))
noncomputable def intD:D->U D
 |.int i=>B (.int i)|.bool b=>B (.int (if b then 1 else 0))
 |.aS u=>match y8 u with
  |.fin b_ m e=>B (.int (Float64.truncOf b_ m e))|_=>aa
 |_=>aa
def PJ:D->U D:=iX λ i=>B (.int (if i<0 then-i else i))def uH:D->U D:=iX λ i=>a8 (bE i.natAbs.log2 1920) (B (.str (toString i)))
theorem str_int{g:bX}(e:uH (.int i)=B r)(h:∀v T,aV [] ⟨#[],{}⟩ v r->Q v {s with toks:=T}):aO (a5 g.prog g.w) A (call (.type "str") [.int i t]) Q E s:=
 have e:=dn e
 P.str_of_int (cg.mp e.1) (h _ _ (ax (ak e.2) (.str _ _)))
def Bd(a b:D):U D:=match a with
 |.int a=>match b with
  |.int b=>a8 (!(b==0)&&!ts a b) (B (.aD [.int (a.fdiv b),.int (a.fmod b)]))|_=>aa
 |_=>aa
def Hd(f:D->D->U D):H V->Ev V
 |[a,b]=>(Ev.read a).bind λ d=>(Ev.read b).bind λ e=>Ev.ofD (f d e)|_=>.au
theorem aeh(G:∀v u d D r,f d D=B r->∀α σ s,aG g x α σ s.heap->1<=s.toks->RD (x.P++α) s.heap v d->RD (x.P++α) s.heap u D->∀(Q:aq->aU->Prop)(E:aq->aU->Prop),
   hl x α s Q r->aO (a5 g.prog g.w) x.A (call F [v,u]) Q E s):eN g x F (Hd f):=by
 intro vs as
 match as with|[]=>exact .au|[_]=>exact .au|_::_::_::_=>exact .au|[a,b]=>refine r8 λ v u=>(ag.ghost (λ α h=>oX) λ d=>ag.ghost (λ α h p=>by obtain⟨p,_⟩:=p;cases p with|cons _ q=>cases q with|cons r _=>exact r) λ D=>ag.toV ?_);cases e:f d D with|none=>exact .au|some r=>exact ag.wp λ α σ s I t p=>G v u d D r e α σ s I t p.1.2 p.2
theorem aei:eN g x (.builtin "divmod") (Hd Bd):=
 aeh (λ v u d D r e α σ s I T p P Q E h=>by
  rcases d with _|_|a|_|_|_|_|_|_|_|⟨_,_⟩
  case int=>
   rcases D with _|_|b|_|_|_|_|_|_|_|⟨_,_⟩;case int=>obtain⟨t,rfl⟩:=p.int;obtain⟨C,rfl⟩:=P.int;obtain⟨q,f⟩:=dn e;obtain rfl:=ak f;obtain⟨q1,R⟩:=bF.mp q;exact PyProof.Rows.divmod_int (bi_ine.mp q1) (h _ _ _ (λ w w=>dy _) (L (et ..) (hg _)) (.aD I.fresh ⟨0,d0 _ rfl⟩ (.cons (.int _ _) (.cons (.int _ _) .nil)))) (.inl (by simpa using R))
   all_goals exact nn e
  all_goals exact nn e)
noncomputable def oY:H D->U (H ah)
 |[]=>B []|.int i::xs=>(oY xs).map (i:: ·)|_::_=>aa
def kJ:D->U D
 |.ae xs=>(oY xs).map λ i=>.int (preSum (λ j=>(i[j]?).getD 0) (O i))|_=>aa
theorem aej:∀{I:H ah}{vs:H aq},oY xs=B I->bT X h vs xs->O vs=O I/\∀(j:J)(v:aq),vs[j]?=B v->∃t,v=KV ((I[j]?).getD 0) t:=by
 induction xs with
 |nil=>intro I vs e r;rw[<-ak e,zv r.length];exact⟨rfl,λ j v h=>nn h⟩
 |cons x xs g=>
  intro I vs e r;rcases x with _|b|i|u|s|n|n|a|xs|xs|⟨c,xs⟩
  case int=>
   refine e4 r.nu λ v P w a R=>L w (a7 a.inv λ t W=>L W (gE e λ js E N=>ax N ?_));obtain h:=g E R;refine⟨aM i9 h.1,λ j v k=>?_⟩;rcases j with _|j
   ·exact⟨t,(ak k).symm⟩
   ·exact h.2 j v k
  all_goals exact nn e
theorem aek(f:x.A.handled=aa):eN g x (.builtin "sum") (e5 kJ):=
 oW (λ v d r e α σ s I D p Q E G=>by
  rcases d with _|_|_|_|_|_|_|_|xs|_|⟨_,_⟩
  case ae=>
   refine e4 p.mm λ l w W h R=>L W (av (hR.mp e) λ c T j5=>?_);subst j5;obtain⟨X,m⟩:=aej T R;refine g4 (call_sum_walkG (Eg h.isList ⟨s.heap.objs.size,[s.heap.objs.size,l],[s.heap.objs.size],w.toArray.size,_,_,(λ j=>(c[j]?).getD 0),rfl,Walks.list (A:=x.A.in1) f s.heap.objs.size l (by obtain⟨_,e⟩:=h;exact il (dI e)) w.toArray,
     ⟨⟨_,d0 _ rfl,rfl,rfl⟩,h.isList.push _⟩,?_,?_,?_⟩))
   ·intro b q
    rw[et ..];simp at q;rcases q with rfl|rfl
    ·exact ko _
    ·exact a7 h λ u e=>kn (dI e)
   ·exact λ i v n=>m i v (by simpa using n)
   ·exact λ h' t C k P=>L (show w.toArray.size=O c by rw[hT,X]) (G _ h' t (λ b o e=>k b o (by simp;exact il (dI e)) (dy _ e)) P.size (.int _ _))
  all_goals exact nn e)
inductive f6 where
 |next|brk|cont|ret (a:V)noncomputable def f6.ctorIdx(e:f6):Nat:=f6.casesOn (motive:=λ u=>J) e 0 1 2 (λ u=>3)
def nM(X α:H ao)(h:aX):m6->f6->Prop
 |.next,.next=>True|.brk,.brk=>True|.cont,.cont=>True|.ret v,.ret a=>a9 X α h v a|_,_=>False
abbrev cy:=Ev (f6×az)
structure dq(g:bX)(x:bD)(sc:bW)(env:cn)(n:J)(own:H ao):Prop where
 y:cU g x env n
 cM:fa sc env
 uz:cb own x.P
 w:p_ (Internal.cF x (own++x.W)) sc env
 top:∃outer aN,x.l=env::outer/\env.frame=B aN
abbrev Be(g:bX)(x y:bD)(env:cn):H ao->aX->m6->f6×az->Prop:=λ α h f r=>nM (x.P++α) α h f r.1/\bp g y env r.2 α h
abbrev c9(g:bX)(x:bD)(own:H ao)(env:cn)(ρ:az)(t:bj m6)(m:cy):Prop:=
 ag g (a3 x own) (bp g (a3 x own) env ρ) (Be g x (a3 x own) env) t m
section
variable {g:bX}{x:bD}{sc:bW}{env:cn}{ρ:az}{n:J}{own:H ao}{β γ nv oQ:Type}theorem dq.h4(c:dq g x sc env n own):∀b∈(a3 x own).W,b∈(a3 x own).P:=λ b q=>(bB.mp q).elim (c.uz b) (c.y.ok.ew b)
theorem dq.r9(c:dq g x sc env n own){α σ h aA h'}(I:aG g (a3 x own) α σ h)(st:a_ x.F x.W α h aA h')(R:bp g (a3 x own) env ρ α h):bp g (a3 x own) env ρ aA h':=
 bt.cF (bt.jY c.y.ok.cY c.y.ok.ew c.y.q _ _ _ _ _ I.dG st (bt.dG R))
theorem ag.lift(c:dq g x sc env n own){post:H ao->aX->β->γ->Prop}(h:ag g x (bp g x env ρ) post t m):
  ag g (a3 x own) (bp g (a3 x own) env ρ) (λ α h b r=>bp g (a3 x own) env ρ α h/\post α h b r) t m:=by
 refine λ α σ s o af I D R e Q E G y=>h α σ s o af I.dG D (bt.dG R) e Q E (λ b r h' C aA i st F T p=>G b r h' C aA i (st.cF λ u q=>aW _ q) F.cF T ⟨c.r9 I st R,p⟩) λ z cl as h' C aA i st T X=>y z cl as h' C aA i (st.cF λ u q=>aW _ q) T X.cF
def oZ(ρ:az):cy:=.ret (.next,ρ)def b5(m:cy)(k:az->cy):cy:=m.bind λ r=>match r.1 with|.next=>k r.2|f=>.ret (f,r.2)theorem qf:c9 g x own env ρ (fG [] env) (oZ ρ):=ag.pure λ u u p=>⟨trivial,p⟩
theorem o1{st:bx}(W:c9 g x own env ρ (fF st env) m)(j:∀ar,c9 g x own env ar (fG rest env) (k ar)):c9 g x own env ρ (fG (st::rest) env) (b5 m k):=by
 refine W.bind λ f r=>?_;obtain⟨F,ar⟩:=r;intro α σ s o af I t p e Q E h y;induction f<;>induction F<;>first|exact p.1.elim|skip
 ·exact j ar α σ s o af I t p.2 e Q E h y
 all_goals
  cases e;exact bl (h _ _ s.heap s.toks α rfl (.refl ..) I t ⟨p.1,p.2⟩)noncomputable def qg(e:aJ):Bool:= !(aL e.ctorIdx 8|| (aL e.ctorIdx 9||Nat.beq e.ctorIdx 10))theorem xw(h:qg e=S)(t:U aJ)(l:J):Ze e t l env=pure false:=by rcases e with _|_<;>first|exact rfl (a:=pure aj)|exact bw h
def kK(m:Ev V)(ρ:az):cy:=m.bind λ u=>.ret (.next,ρ)
theorem Bf(c:dq g x sc env n own)(V:qg e=S)(h:TE g x env ρ (bG e env) m):c9 g x own env ρ (fF (.Expr e P) env) (kK m ρ):=by
 intro α σ s o af I t R;obtain u:interactive env=false:=by unfold interactive;exact L R.fv rfl
 refine L (exec_Expr env e P u (xw V ..)) ?_;revert α σ s o af;refine ag.standAt ((ag.lift c h).bind λ v a=>?_);intro α σ s o af I t p e Q E G y;cases e;exact wpAny_dropValue (G _ _ s.heap s.toks α rfl (.refl ..) I t ⟨trivial,p.1⟩)def ly(m:Ev V)(ρ:az):cy:=m.bind λ a=>.ret (.ret a,ρ)theorem xx(c:dq g x sc env n own)(h:TE g x env ρ (bG e env) m):c9 g x own env ρ (fF (.Return (B e) P) env) (ly m ρ):=ag.standAt ((ag.lift c h).bind λ v a=>ag.pure λ u u p=>⟨p.2,p.1⟩)
theorem PK(c:dq g x sc env n own)(h:TB g x env ρ (iq t env (bG t env)) m)(f:c9 g x own env ρ (fG a env) M)(q:c9 g x own env ρ (fG b env) v):
  c9 g x own env ρ (fF (.If t a b p) env) (fL m M v):=ag.standAt ((ag.lift c h).bind λ b d=>ag.ite f q)def fb(sc:bW)(nm:ai)(m:Ev V)(ρ:az):cy:=match dU sc nm with|true=>m.bind λ a=>.ret (.next,(nm,a)::ρ)|false=>.au
theorem ael(c:dq g x sc env n own)(V:qg e=S)(h:TE g x env ρ (bG e env) m):c9 g x own env ρ (fF (.Assign [.Name nm p] e W) env) (fb sc nm m ρ):=by
 unfold fb;cases es:dU sc nm with
 |false=>exact .au
 |true=>
  obtain E:fF (.Assign [.Name nm p] e W) env=(dZ W>>=λ u=>bG e env>>=λ v=>(dZ p>>=λ u=>pK env nm v)>>=λ u=>pure ri):=by
   dsimp only[Lr];obtain this:tD [.Name nm p] e W.line env=pure false:=by unfold tD;exact xw V ..
   refine L this ?_;congr 1
  refine L E (ag.standAt ((ag.lift c h).bind λ v a=>?_));have k:ag g _ _ (Be g x _ env)
    ((dZ p>>=λ u=>pK env nm v)>>=λ u=>pure ri) ((Ev.ret _).bind λ u=>.ret (f6.next,(nm,a)::ρ)):=
   (ag.standAt ((r0 c.h4 c.w (oS c.cM es)))).bind λ u u=>ag.pure λ u u p=>⟨trivial,p⟩
  exact k
end
section
variable {g:bX}{x:bD}{α:H ao}{σ:aE}{h h':aX}theorem xy{h:aX}(f:∀e∈l,oM F h e)(q:b∈kC l):b∈F/\∃o,h.get? b=B o/\∀vs,o.data≠ .fields vs:=by refine av (pL.mp q) λ e y M=>(f e y).e λ X o k W j v I=>?_;rw[W]at M;exact ax (ak M) ⟨j,o,v,I⟩
theorem Bg:∀{l:H cn},(∀e∈l,oM F h e)->(∀b∈kC l,b∈X)->h.FunFrames (hide h X) l
 |[],_,_=>trivial|e::l,f,G=>by exact(f e (cV ..)).e λ A o k W j v I=>⟨k,(bh A o ⟨W,t5 (.inl (G A (pL.mpr ⟨e,cV ..,W⟩))),v,I⟩),Bg (λ e y=>f e (c7 _ y)) λ b q=>G b (av (pL.mp q) λ E y M=>(pL.mpr ⟨E,c7 _ y,M⟩))⟩theorem He:(hide h X).StaysIn h:=λ u u e=>(Au.mp e).2
theorem PL{P:ao->Prop}(W:P a)(j:P b)(v:P c):∀x∈[a,b,c],P x:=Zf.mpr ⟨W,Zf.mpr ⟨j,Zf.mpr ⟨v,λ u h=>aR h dS⟩⟩⟩
theorem aG.after(I:aG g (Internal.fJ x Sq) α σ h)(v:cb x.F x.P)(w:(hide h (kC x.l++Sq)).StaysIn h')(u:h.UpToSlots h')(V:h.objs.size<=h'.objs.size)(G:∀b,b<h.objs.size->h.get? b=aa->h'.get? b=aa)
  (y:∀b∈Sq,b∉x.P)(z:e∈Sq)(oN:t∈Sq)(he:h'.get? e=B AQ)(fZ:h'.get? t=B xA)(N:h'.get? T=B Hf)(F:Hf.data=.fields ay)(d:(hide h (kC x.l++Sq)).get? T=aa):
  aG g (Internal.fJ x [e,t,T]) α σ h'/\(∀b∈[e,t,T],b∈Sq\/h.objs.size<=b)/\(∀b∈[e,t,T],b∉x.P)/\(fX h h' ((Sq++x.P)++α) (([e,t,T]++x.P)++α)):=by
 have c9:T∈Sq\/h.objs.size<=T:=by
  by_cases m:T∈kC x.l++Sq
  ·rcases bB.mp m with m|m
   ·obtain⟨_,o,E,j⟩:=xy I.fr m
    obtain⟨W,s⟩:=u _ _ E j;rw[N]at s;obtain rfl:=ak s;exact aR F (j ay)
   ·exact .inl m
  ·rw[FQ,a6 m]at d
   by_cases l:T<h.objs.size
   ·rw[G T l d]at N;exact nn N
   ·exact .inr (zF l)
 have C:∀b∈[e,t,T],b∈Sq\/h.objs.size<=b:=PL (.inl z) (.inl oN) c9;have xB:∀{b o},h.get? b=B o->¬h.objs.size<=b:=λ e l=>aR (dI e) (er.mpr l);have D:=λ b r q=>(C b r).elim (λ m=>y b m q) λ l=>a7 (I.alive b (aW _ q)) λ o E=>xB E l;have f:=λ b r=>v b (xy I.fr r).1;have K:=λ b o E M Q=>w b o (Au.mpr ⟨λ q=>(bB.mp q).elim Q M,E⟩);have i:fX h h' _ (([e,t,T]++x.P)++α):=λ b o E n=>
  have M:=λ q=>n (bL _ (bL _ q));have Q:=λ q=>n (bL _ (aW _ q))
  ⟨K b o E M λ q=>Q (f b q),λ q=>(bB.mp q).elim (λ q=>(bB.mp q).elim (λ q=>(C b q).elim M (xB E)) Q) λ q=>n (aW _ q)⟩
 have A:∀{a o},a∈Sq++x.P->g.K.get? a≠B o:=λ q E=>nn ((I.b2 _ (.inl q)).1.symm.trans E);exact⟨⟨λ b o E=>K b o (I.base b o E) (λ q=>A (bL _ q) E) λ q=>A (aW _ (f b q)) E,bA I.big V,
  λ a c=>c.elim (λ c=>(bB.mp c).elim (λ c=>(C a c).elim (λ m=>I.b2 a (.inl (bL _ m))) λ l=>⟨I.Pq l,bA I.big l⟩) λ c=>I.b2 a (.inl (aW _ c))) λ c=>I.b2 a (.inr c),
  λ a c=>(bB.mp c).elim (PL (P:=λ a=>∃o,h'.get? a=B o) ⟨_,he⟩ ⟨_,fZ⟩ ⟨_,N⟩ a) λ c=>(Ln _).elim (λ m=>av (xy I.fr m).2 λ o E j=>a7 (u _ _ E j) λ W s=>⟨_,s⟩) λ m=>a7 (I.alive a (aW _ c)) λ o E=>⟨o,K a o E (λ q=>y a q c) m⟩,
  I.dv,λ a c q=>(bB.mp q).elim (λ q=>(C a q).elim (λ m=>I.c8 a c (bL _ m)) λ l=>aR (I.bM.lt a c) (er.mpr l)) λ q=>I.c8 a c (aW _ q),
  c0.mono I.bM V (λ a c=>eD _ (λ E=>Y (G a (I.bM.lt a c) E) E.symm) λ o E=>Y (K a o E (λ q=>I.c8 a c (bL _ q)) λ q=>I.c8 a c (aW _ (f a q))) E.symm) i eV,
  λ qc R=>(I.fr qc R).e λ X o k c5 cw cZ p=>a7 (u _ _ cZ p) λ W s=>⟨k,X,_,c5,cw,s,p⟩,
  Gk I.old (Sq:=λ b=>b∈Sq\/b∈kC x.l) (λ a q=>(I.b2 a (.inl (q.elim (bL _) λ q=>aW _ (f a q)))).2) λ b o n E=>K b o E (λ q=>n (.inl q)) λ q=>n (.inr q)⟩,C,D,i⟩
theorem a_.after{Sq F W s:H ao}(st:a_ F W s E α h)(lo:∀b∈Sq,E.objs.size<=b)(V:∀b∈kC x.l,b∈F/\∃o,h.get? b=B o/\∀vs,o.data≠ .fields vs)(k:(hide h (kC x.l++Sq)).StaysIn h')(u:h.UpToSlots h')(P:h.objs.size<=h'.objs.size):a_ F W s E α h':=by
 have N:∀b o,E.get? b=B o->b∉Sq:=λ b o e q=>aR (dI e) (er.mpr (lo b q));refine⟨bA st.size P,st.ext,λ b o e f w n=>?_,λ b o e w n=>?_⟩
 ·refine k b o (Au.mpr ⟨λ q=>?_,st.same b o e f w n⟩)
  rcases bB.mp q with q|q
  ·exact f (V b q).1
  ·exact N b o e q
 ·refine a7 (st.slot b o e w n) λ Q R=>?_
  by_cases m:b∈kC x.l
  ·obtain⟨_,T,i,v⟩:=V b m
   rw[R]at i;obtain rfl:=ak i;exact a7 (u _ _ R v) λ t D=>⟨t,D⟩
  ·exact⟨Q,k b _ (Au.mpr ⟨λ q=>(bB.mp q).elim m (N b o e),R⟩)⟩
inductive kL(g:bX)(x:bD)(lo:J)(α:H ao)(σ:aE)(h:aX)(e:ao)(cl:b1)(as:H D):Prop
 |mk (Sq:H ao) (t:ao) (vs:H aq) (a:∀b∈Sq,lo<=b) (I:aG g (fJ x Sq) α σ h) (p4:e∈Sq) (oN:t∈Sq) (lh:∀b∈Sq,b∉x.P) (rs:bT ((Sq++x.P)++α) h vs as)
  (k:K8 (hide h (kC x.l++Sq)) x.l e (.type cl) (.ref t) h/\h.TupAt t vs)theorem kL.exc{lo:J}(q:kL g x lo α σ h e cl as):ExcAt g x lo α σ h e cl as:=match q with|⟨Sq,t,vs,a,b,c,d,e,f,r⟩=>⟨Sq,t,vs,a,b,c,d,e,f,.inr r⟩
theorem ExcAt.go(I:aG g (Internal.fJ x Sq) α σ h)(v:cb x.F x.P)(lo:∀b∈Sq,n.objs.size<=b)(y:∀b∈Sq,b∉x.P)(i:e∈Sq)(m:t∈Sq)(D:bT ((Sq++x.P)++α) h vs as)
  (st:a_ F W s n α h)(d:cb x.F F)(z:∀b∈l',b∈x.l)(f:K8 (hide h (kC x.l++Sq)) l' e (.type cl) (.ref t) h')(aD:h'.TupAt t vs)(u:h.UpToSlots h')(V:h.objs.size<=h'.objs.size)(G:∀b,b<h.objs.size->h.get? b=aa->h'.get? b=aa):
  a_ F W s n α h'/\kL g {x with l:=l'} n.objs.size α σ h' e cl as:=by
 obtain⟨K,gC,kH,AQ,ws,T,Hf,ay,X,f2,aem,f4,aen,aeo,p,A,aep⟩:=id f;exact e4 (id aD) λ xA Hg t1 h8 t3=>(pS (aG.after I v K u V G y i m X t1 p A aen) λ j C N o=>⟨st.after lo (λ b q=>⟨d b (xy I.fr q).1,(xy I.fr q).2⟩) K u V,[e,t,T],t,vs,λ b r=>(C b r).elim (lo b) λ l=>bA st.size l,⟨j.base,j.big,j.b2,j.alive,j.dv,j.c8,j.bM,λ Q P=>j.fr Q (z Q P),j.old⟩,cV,by simp,N,D.mono o,⟨He,t5 (.inl anD),Bg (λ Q P=>j.fr Q (z Q P)) λ b r=>bL _ r,AQ,ws,T,Hf,ay,X,f2,aem,f4,t5 (.inl (by simp)),aeo,p,A,aep⟩,aD⟩)
theorem aeq(z:x.l=env::o)(V:x.A.frames=B x.l)(N:env.frame=B X)(p:cb x.F x.P)
  (st:a_ F W v n α s.heap)(c:cb x.F F)(q:ExcAt g x n.objs.size α σ s.heap e cl as)
  (D:∀h',a_ F W v n α h'->ExcAt g {x with l:=o} n.objs.size α σ h' e cl as->Q () (cT s h' s.toks)):aO M x.A (leaving env (.ref e)) Q E s:=by
 obtain⟨Sq,t,vs,lo,I,w,T,y,r,k⟩:=q;have i:=λ h' f aD j R G=>by exact cq (ExcAt.go (l':=o) I p lo y w T r st c (λ b=>L z (c7 _)) f aD j R G) λ a b=>D h' a b.exc
 rcases k with⟨A,m⟩|⟨f,aD⟩
 ·exact g4 (wpAny_leaving_firstW (a0:=.ref t) (Y V (by rw[z])) ((aM _ z).mp (Bg I.fr λ b d=>bL _ d)) N A He (t5 (.inl (aW _ w))) rfl rfl rfl λ h' lr P=>pS lr λ C xC kH K=>ff xC λ u u gC=>i h' ⟨C,t5 (.inl (aW _ w)),gC,kH⟩ (Heap.TupAt.of_slots (bh _ _ ⟨m,rfl,rfl⟩) K) K P.size P.gone)
 ·exact g4 (wpAny_leaves_onW (Y V (by rw[z])) N ((aM (λ l=>K8 _ l e _ _ s.heap) z).mp f) λ h' C K P=>i h' C (aD.of_slots K) K P.size P.gone)
end
noncomputable def eY(fd:Ep)(a l:ao):Env:=newEnv fd.scope l fd.globals (gA (l+1) fd.scope.names fd.closure) (fd.qualname++ ".<locals>.") (B a) fd.code aa fd.builtins
noncomputable def o2(h:aX)(s:bW):Heap:=Lo (h.push {cls:=.type "frame",data:=.dict #[] }) s.names
@[reducible] noncomputable def xD(x:bD)(env:cn)(o:H ao)(X:ao):bD:={A:=x.A.deeper env,l:=env::x.l,P:=o++x.P,F:=X::x.F,W:=x.W}
structure lz(g:bX)(a:ao)(fd:Ep)(body:H bx):Prop where
 there:∃o,g.K.get? a=B o/\o.data=.func fd
 code:g.K.CodeRec fd.code fd.qualname
 body:fd.body=.stmts body
 co:fd.scope.isCoroutine=aj
 gen:fd.scope.isGenerator=aj
 kind:fd.scope.kind=.function
 glob:fd.globals=k2
 cc:fd.builtins=zl
 keys:wC fd.scope.names=S
theorem xE(s:bW):∀b o,h.get? b=B o->(o2 h s).get? b=B o:=λ b o e=>wb _ _ _ _ (dy _ e)theorem PM(s:bW):h.objs.size+1<=(o2 h s).objs.size:=bA (by simp only[et];exact bH _) (A9 s.names (h.push {cls:=.type "frame",data:=.dict #[] }))theorem xF(s:bW):CellsOk (o2 h s) (h.objs.size+1) (gA (h.objs.size+1) s.names []):=by obtain ok:=cellsFrom_ok s.names (h.push {cls:=.type "frame",data:=.dict #[] }) _ [] ⟨λ u u e=>(aR e dS),aoq⟩ (L (et ..) (bH _));rw[et]at ok;exact ok
def r_(x:bD)(s:bW)(cl:H (ai×ao))(ρ:az)(α:H ao)(h:aX):Prop:=
 (∀n v,ρ.lookup n=B v->s.names.lookup n=B .free)/\
 (∀n,s.names.lookup n=B .free->∃c,cl.lookup n=B c/\c∈x.P/\c∉x.F/\c∉x.W/\∃V,h.IsCell c V/\FR x α h ρ n V)/\
 (∀n N c,s.names.lookup n=B .free->s.names.lookup N=B .free->cl.lookup n=B c->cl.lookup N=B c->n=N)theorem Bh(fd:Ep)(a l:ao)(n:ai):(eY fd a l).kindOf n=fd.scope.names.lookup n:=rfl
theorem aer(fd:Ep)(a l:ao):fa fd.scope (eY fd a l):=λ n=>.inl rfl
theorem aes(F:lz g a fd body)(I:aG g x α σ h)(iC:cb x.F x.P)(C:r_ x fd.scope fd.closure ρ α h):
  bt g (xD x (eY fd a h.objs.size) (h_ fd.scope h.objs.size) h.objs.size) (eY fd a h.objs.size) ρ α (o2 h fd.scope):=by
 refine ff C λ G V A6=>?_;obtain uF:∀b o,h.get? b=B o->b∉x.P++α->(o2 h fd.scope).get? b=B o/\b∉(h_ fd.scope h.objs.size++x.P)++α:=by
  refine λ b o e n=>⟨xE fd.scope b o e,λ q=>?_⟩;simp only[bB]at q n;rcases q with(q|q)|q
  ·exact aR (dI e) (er.mpr (xt fd.scope b q))
  ·exact n (.inl q)
  ·exact n (.inr q)
 have E:∀m,fd.scope.names.lookup m=B .cell->∃c,(eY fd a h.objs.size).cells.lookup m=B c/\(m,c)∈gA (h.objs.size+1) fd.scope.names []:=by refine λ m r=>av (xr (bH _) (.inr (mem_of_lookup r))) λ c W w=>(⟨c,?_,mem_of_lookup W⟩);show(gA _ fd.scope.names fd.closure).lookup m=B c;rw[A8,Eo,W];rfl
 have s:∀m,fd.scope.names.lookup m=B .free->(eY fd a h.objs.size).cells.lookup m=fd.closure.lookup m:=by exact λ m r=>(A7 (λ q=>by rw[uC F.keys q]at r;exact nomatch r))
 have K:∀m,iB ((eY fd a h.objs.size).kindOf m)=S->fd.scope.names.lookup m=B .cell\/fd.scope.names.lookup m=B .free:=by intro m r;simp only[Bh]at r;cases Q:fd.scope.names.lookup m with|none=>rw[Q]at r;exact bw r|some k=>rw[Q]at r;induction k<;>first|exact .inl rfl|exact .inr rfl|exact bw r
 refine⟨F.kind,F.glob,F.cc,bL _ (cV ..),⟨λ w=>aa,(Heap.Ns.new h _).keeps (wb _ _),λ m v l Q=>?_⟩,λ m r=>?_,λ m M c r R e T=>?_⟩
 ·simp only[Bh,G m v l]at Q;exact aR Q (by decide)
 ·rcases K m r with A|N
  ·obtain⟨c,W,j⟩:=E m A
   have y:=(xF fd.scope).empty m c j;refine⟨c,W,bL _ (c7 _ (iP.mpr ⟨_,j,rfl⟩)),λ q=>?_,λ q=>Lq _ (q▸y.2),aa,y.1,λ v l=>?_⟩
   ·rcases dM.mp q with q|q
    ·have i:=y.2
     rw[q]at i;exact Lq _ i
    ·exact a7 (I.alive c (iC c q)) λ o e=>aR (dI e) (er.mpr (jP y.2))
   ·obtain this:=G m v l
    rw[A]at this;exact nomatch this
  ·obtain⟨c,W,j,t,_,X,p,ei⟩:=V m N
   refine⟨c,Y (s m N) W,aW _ j,λ q=>?_,λ q=>aR p.lt (L q (hu _)),X,p.keeps (xE fd.scope),λ v l=>av (ei v l) λ u mj iW=>(⟨u,mj,iW.mono uF eV⟩)⟩;rcases dM.mp q with q|q
   ·exact aR p.lt (L q (hu _))
   ·exact t q
 ·rcases K m r with A|N
  ·refine av (E m A) λ gG W j=>?_
   rw[e]at W;obtain rfl:=ak W;rcases K M R with f|P
   ·refine av (E M f) λ z d t=>?_
    rw[T]at d;obtain rfl:=ak d;exact name_of_addr (xF fd.scope).apart j t
   ·obtain⟨z,D,gC,_,_,X,p,_⟩:=V M P
    rw[s M P,D]at T;obtain rfl:=ak T;exact aR (eo p.lt (jP ((xF fd.scope).empty m _ j).2)) (hu _)
  ·obtain⟨gG,D,gC,_,_,X,p,_⟩:=V m N
   rw[s m N,D]at e;obtain rfl:=ak e;rcases K M R with f|P
   ·refine av (E M f) λ z d t=>?_
    rw[T]at d;obtain rfl:=ak d;exact aR (eo p.lt (jP ((xF fd.scope).empty M _ t).2)) (hu _)
   ·exact A6 m M _ N P D ((s M P)▸T)
theorem aet(F:lz g a fd body)(I:aG g x α σ h):aG g (xD x (eY fd a h.objs.size) (h_ fd.scope h.objs.size) h.objs.size) α σ (o2 h fd.scope):=by
 have j:=aG.fJ (h':=o2 h fd.scope) I (xt fd.scope) ((by
   intro b s;rcases dM.mp s with rfl|s
   ·exact⟨_,wb _ _ _ _ (d0 _ rfl)⟩
   ·refine av (iP.mp s) λ p v j5=>ax j5 ?_
    exact av (((xF fd.scope).empty p.1 p.2 v).1) λ o e u=>(⟨o,e⟩))) (xE fd.scope) (jP (PM fd.scope))
 refine⟨j.base,j.big,j.b2,j.alive,j.dv,j.c8,j.bM,λ e y=>?_,j.old⟩;rcases dM.mp y with rfl|y
 ·refine⟨?_,h.objs.size,{cls:=.type "frame",data:=.dict #[] },rfl,cV ..,wb _ _ _ _ (d0 _ rfl),λ vs q=>by cases q⟩
  show fd.scope.kind≠ .module;rw[F.kind];intro q;cases q
 ·exact(j.fr e y).e λ l o q b c d r=>⟨q,l,o,b,c7 _ c,d,r⟩
theorem aeu(F:lz g a fd body)(Bq:Base g)(ok:eW g x (n+1))(I:aG g x α σ h)(C:r_ x fd.scope fd.closure ρ α h):
  dq g (xD x (eY fd a h.objs.size) (h_ fd.scope h.objs.size) h.objs.size) fd.scope (eY fd a h.objs.size) n (h_ fd.scope h.objs.size):=by
 have w:=λ b r=>a7 (I.alive b (ok.ew b r)) λ o=>dI;refine⟨⟨Bq,⟨λ b r=>?_,λ b r=>aW _ (ok.ew b r),?_,λ u=>ok.handled (fp n),L (Lb x.A.depth n) ok.depth,gg (pF ((m2 x.A.units 3 _).symm▸og (iO _ 3▸og (show 3<=8 by decide) _) _) _) ok.units,ok.nolimit⟩,⟨λ q=>hu _ (w _ q),λ m c p e q=>?_⟩⟩,aer fd a _,λ b r=>bL _ r,⟨bL _ (cV ..),λ m c p e=>?_⟩,(bh _ _ ⟨rfl,rfl⟩)⟩
 ·rcases dM.mp r with rfl|r
  ·exact bL _ (cV ..)
  ·exact aW _ (ok.cY b r)
 ·show Option.map _ x.A.frames=_
  exact L ok.frames rfl
 ·simp only[Bh]at p
  obtain cs:(eY fd a h.objs.size).cells=gA _ fd.scope.names fd.closure:=rfl;refine eD (fd.scope.names.lookup m) (λ E=>?_) λ k E=>?_
  ·rw[E]at p;exact bw p
  ·
   rw[E]at p;induction k with|cell=>refine av (xr (acc:=fd.closure) (bH (h.objs.size+1)) (.inr (mem_of_lookup E))) λ P W j=>?_;rw[cs,W]at e;obtain rfl:=ak e;exact aR (w _ q) (er.mpr (jP j))|free=>refine t7 (C.2.1 m E) λ P W u u K u=>?_;rw[cs,A7 (λ q=>by rw[uC F.keys q]at E;exact nomatch E),W]at e;obtain rfl:=ak e;exact K q|_=>exact bw p
 ·obtain cs:(eY fd a h.objs.size).cells=gA _ fd.scope.names fd.closure:=rfl
  refine av (xr (acc:=[]) (bH (h.objs.size+1)) (.inr (mem_of_lookup p))) λ P W u=>?_;rw[cs,A8,Eo,W]at e;have rfl:=ak e;exact bL _ (c7 _ (iP.mpr ⟨_,mem_of_lookup W,rfl⟩))
class inductive c1(X α:H ao)(h:aX):H (ai×aq)->H (ai×V)->Prop
 |nil:c1 X α h [] []
 |cons {n v a bs as} :a9 X α h v a->c1 X α h bs as->c1 X α h ((n,v)::bs) ((n,a)::as)theorem c1.nu{v:aq}{a:V}{bs:H (ai×aq)}{as:H (ai×V)}(r:c1 X α h ((n,v)::bs) ((N,a)::as)):n=N/\a9 X α h v a/\c1 X α h bs as:=by cases r with|cons a r=>exact⟨rfl,a,r⟩theorem c1.mono{X Yq α aA:H ao}(r:c1 X α h bs as)(k:fX h h' X Yq)(T:∃e,aA=α++e):c1 Yq aA h' bs as:=by induction r with|nil=>exact .nil|cons a _ i=>exact .cons (a.mono k T) i
theorem bU.zip{N:H ai}(r:bU X α h vs as):c1 X α h (N.zip vs) (N.zip as):=by
 induction r generalizing N with
 |nil=>simp;exact .nil
 |cons a _ i=>
  rcases N with _|⟨n,N⟩
  ·exact .nil
  ·exact .cons a i
theorem aev(G:cb x.F x.P)(y:cb x.W x.P)(w:p_ x q env)(C:fa q env):∀(bs:H (ai×aq))(as:H (ai×V))(ρ:az),(as.all λ p=>dU q p.1)=S->
  ag g x (λ α h=>bp g x env ρ α h/\c1 (x.P++α) α h bs as) (λ α h u u=>bp g x env (as.reverse++ρ) α h) (forIn bs kl λ(p:ai×aq) u=>(Lk env p.1 p.2>>=λ u=>pure (m5 kl):bj (pH zf))) (.ret ())
 :=by
  intro bs;induction bs with
  |nil=>
   intro as ρ u;induction as with
   |nil=>exact ag.pure λ u u p=>p.1|cons=>exact λ u u u u u u u p=>nomatch p.2
  |cons b bs j=>
   intro as ρ c;induction as with
   |nil=>exact λ u u u u u u u p=>nomatch p.2
   |cons a as=>
   obtain⟨N,a⟩:=a;refine L (k1 ..) ?_;have c:=bF.mp c;intro α σ s o af I D p e Q E d R;obtain e:=bf (ak e);exact ff p.2.nu λ n r X=>aB (aB ((ag.frame (AY y w (oS C (n▸c.1))) (λ u u u u st r=>r.mono (st.outer G y) (av st.ext λ k e u=>⟨k,e⟩):kD x λ α h=>c1 _ α h bs as)) α σ s _ σ I D ⟨⟨p.1,r⟩,X⟩ rfl _ _ (λ b u h' el aA dw K F t l=>bl (j as _ c.2 aA σ _ _ σ F t l rfl _ _ (λ b u h'' i T m W A z P=>d b _ h'' i T e.1.symm (K.trans W) (ax e.2 A) z (L (D3 ..) (L (eb ..) (ax n P)))) eC.ok)) eC.ok))
theorem aew
  (h:aO M A (forIn b kl λ(p:ai×aq) u=>(Lk (eY fd a s.heap.objs.size) p.1 p.2>>=λ u=>pure (m5 kl):bj (pH zf))) (λ u s'=>Q (eY fd a s.heap.objs.size) s') E {s with heap:=o2 s.heap fd.scope}):
  aO M A (Lp fd.scope fd.globals fd.closure b (fd.qualname++ ".<locals>.") (B a) fd.code aa fd.builtins) Q E s:=by
 dsimp only[Lp];exact aB (Zd (aB (wpAny_layCells _ (λ name k c=>by cases r:k==En<;>rfl) _ _ _ _ (L (et ..) (aB (hS h (λ u u=>bl) λ u u y=>y))))))
theorem aG.shrink(j:aG g x (α++p) σ h)(r:cb x2.P x.P)(f:∀e∈x2.l,oM x2.F h e)
  (ok:(σ.take (O α)).all (bk (O α))=S):aG g x2 α (σ.take (O α)) h:=by
 refine⟨j.base,j.big,λ a c=>j.b2 a (c.imp (r a) λ q=>bL _ q),λ a c=>j.alive a (r a c),(rl.mp j.dv).1,λ a c q=>j.c8 a (bL _ c) (r a q),c0.cut (bH _) (λ b o e n=>⟨e,λ q=>n ?_⟩) j.bM (λ u u=>rfl) ok,f,j.old⟩;rcases bB.mp q with q|q
 ·exact bL _ (r b q)
 ·exact aW _ (bL _ q)
theorem aG.Hh(j:aG g x (α++p) σ h)(r:cb x2.P x.P)(f:∀e∈x2.l,oM x2.F h e)
  (ok:(σ.take (O α)).all (bk (O α))=S)(c:acc∈p)(t:d2 g.w.params (x2.P++(α++ [acc])) (α++ [acc]) h acc m):aG g x2 (α++ [acc]) (σ.take (O α)++ [m]) h:=by
 have K:=j.shrink r f ok;have A:=λ q=>(rl.mp j.dv).2.2 acc q acc c rfl;refine⟨K.base,K.big,?_,K.alive,?_,?_,?_,K.fr,K.old⟩
 ·intro a q
  rcases q with q|q
  ·exact K.b2 a (.inl q)
  ·rcases bB.mp q with q|q
   ·exact K.b2 a (.inr q)
   ·rw[ek.mp q];exact j.b2 acc (.inr (aW _ c))
 ·rw[rl]
  exact⟨K.dv,by simp,λ a Q b z=>by refine L (ek.mp z) ?_;rintro rfl;exact A Q⟩
 ·intro a q
  rcases bB.mp q with q|q
  ·exact K.c8 a q
  ·rw[ek.mp q];exact(λ q=>j.c8 acc (aW _ c) (r _ q))
 ·obtain C:c0 g.w.params (x2.P++(α++ [acc])) α h α _:=by
   refine c0.cut (bH _) (λ b o e n=>⟨e,λ q=>n ?_⟩) j.bM (λ u u=>rfl) ok;rcases bB.mp q with q|q
   ·exact bL _ (r b q)
   ·rcases bB.mp q with q|q
    ·exact aW _ (bL _ q)
    ·simp only[ek.mp q];exact aW _ (aW _ c)
  exact(C.mono (bH _) (λ u u=>rfl) (λ b o e nb=>⟨e,nb⟩) ⟨_,rfl⟩).append (.cons t .nil)
theorem a_.aex{F W α s own:H ao}(st:a_ (l::F) (own++W) α h (α++s) h')(fresh:∀b∈own,h.objs.size<=b)(x:h.objs.size<=l):a_ F W α h α h':=by
 have nb:∀b o,h.get? b=B o->b∉own:=λ b o e q=>aR (dI e) (er.mpr (fresh b q));refine⟨st.size,w3,λ b o e f w n=>st.same b o e (λ q=>?_) (λ q=>(bB.mp q).elim (nb b o e) w) n,λ b o e w n=>st.slot b o e (λ q=>(bB.mp q).elim (nb b o e) w) n⟩;rcases dM.mp q with q|q
 ·exact aR (dI e) (er.mpr (L q x))
 ·exact f q
theorem a_.PN{F W e o:H ao}(st:a_ (l::F) (o++W) α h (α++u) h')(fresh:∀b∈o,h.objs.size<=b)(w:h.objs.size<=l)(t:∃p,e=α++p/\∀b∈p,h.objs.size<=b):a_ F W α h e h':=
 let s:=st.aex fresh w;⟨s.size,t,s.same,s.slot⟩
theorem aey{α:H ao}(W:O α<=k)(j:k<=O (α++h))(g:∀b∈h,n<=b):∃e p,α++h=e++p/\O e=k/\(∃r,e=α++r/\∀b∈r,n<=b)/\∀b∈p,n<=b:=
 (bh _ _ ⟨(ti ..).symm,L Er (zG j),⟨h.take _,L List.take_append (L (Y_ W) rfl),λ b q=>g b (nc q)⟩,λ b q=>g b (by rw[List.drop_append,anH W]at q;exact nd q)⟩)
theorem a_.Hi{acc:ao}(st:a_ F W α h p h')(c:h.objs.size<=acc):a_ F W α h (p++ [acc]) h':=
 av st.ext λ r e g=>⟨st.size,⟨r++ [acc],L e (L (eb ..) rfl),λ a q=>(bB.mp q).elim (g a) λ q=>L (ek.mp q) c⟩,st.same,st.slot⟩
set_option genCtorIdx true in
inductive Mode where|plain|fresh|keep
noncomputable def Mode.len(bg:Mode)(σ i:aE):Nat:=match bg with|.keep=>O i|_=>O σ
def PO(bg:Mode)(k:J)(j:aE)(a:V):U (Res V×aE):=match a with|.d d=>B (.ok (.d d),j.take k)|.aH i=>match bE i k with|true=>B (.ok (.aH i),j.take k)|false=>jW j[i]? λ xs=>match bg with|.fresh=>B (.ok (.aH k),j.take k++ [.ae xs])|_=>B (.ok (.d (.ae xs)),j.take k)def mB(bg:Mode)(k:J)(o:Res (f6×az))(i:aE):U (Res V×aE):=match o with|.exc c as=>B (.exc c as,i.take k)|.ok r=>match r.1 with|.ret a=>PO bg k i a|_=>B (.ok (.d .none),i.take k)def uI(bg:Mode)(k:J)(o:Res (f6×az))(i:aE):U (Res V×aE):=bR ((i.take k).all (bk k)) (mB bg k o i)def ia(bg:Mode)(m:cy):Ev V:=λ σ=>(m σ).bind λ q=>uI bg (bg.len σ q.2) q.1 q.2
theorem o3(h:m σ=B (o,oV)):ia bg m σ=uI bg (bg.len σ oV) o oV:=by unfold ia;rw[h];rfl
theorem Bi(h:m σ=B (o,τ))(z:τ.length=σ.length)(E:τ.all (bk (O τ))=S):ia .plain m σ=mB .plain τ.length o τ:=by apply Y (o3 h);show uI .plain (O σ) o τ=_;exact ax z (eh (L ow E))theorem xG(h:m σ=B (o,σ))(E:σ.all (bk (O σ))=S):ia .plain m σ=mB .plain (O σ) o σ:=Bi h rfl E
theorem Bj:mB .plain σ.length (.ok (.ret (.d d),ρ)) σ=B (.ok (.d d),σ):=by delta mB PO;dsimp only;rw[ow]theorem Bk:mB .plain σ.length (.ok (.next,ρ)) σ=B (.ok (.d .none),σ):=by unfold mB;dsimp only;rw[ow]
theorem aez(e:mB bg k (.ok (f,ρ)) j=B (o,af)){G:Prop}(s:∀d,f=.ret (.d d)->o=.ok (.d d)->j.take k=af->G)(C:∀i,f=.ret (.aH i)->bE i k=S->o=.ok (.aH i)->j.take k=af->G)
  (m:∀i xs,f=.ret (.aH i)->k<=i->j[i]?=B (.ae xs)->(o=.ok (.d (.ae xs))/\j.take k=af\/o=.ok (.aH k)/\j.take k++ [.ae xs]=af)->G)(K:(∀a,f≠ .ret a)->o=.ok (.d .none)->j.take k=af->G):G:=by
 have z:∀{r:Res V}{g:aE},B _=B _->o=r/\g=af:=λ e=>have p:=bf (ak e);⟨p.1.symm,p.2⟩;induction f with
 |ret a=>
  induction a with
  |d d=>exact s d rfl (z e).1 (z e).2
  |aH i=>
   refine dO (bE i k) (λ h=>?_) λ h=>?_
   ·
    obtain e:(match bE i k with|true=>B _|false=>_)=B _:=e;rw[h]at e;exact C i rfl h (z e).1 (z e).2
   ·
    obtain e:(match bE i k with|true=>B _|false=>jW j[i]? _)=B _:=e;rw[h]at e;refine oP e λ xs M e=>m i xs rfl (zF λ q=>bw (Y h.symm (cg.mpr q))) M ?_;induction bg with
    |fresh=>exact .inr (z e)|_=>exact .inl (z e)
 |next=>exact K (λ u h=>nomatch h) (z e).1 (z e).2|brk=>exact K (λ u h=>nomatch h) (z e).1 (z e).2|cont=>exact K (λ u h=>nomatch h) (z e).1 (z e).2
noncomputable def valOf:m6->aq
 |.ret v=>v|_=>.none
theorem aeA{lo:J}(m:PQ.P=W++x.P)(I:aG g PQ (p++s) j h)(R:∀e∈x.l,oM x.F h e)
  (T:(j.take (O p)).all (bk (O p))=S)(F:∀b∈s,lo<=b)(P:nM ((W++x.P)++(p++s)) (p++s) h f X)(e:mB bg (O p) (.ok (X,ρ)) j=B (k,af)):
  ∃r t,k=.ok r/\(∀b∈t,lo<=b)/\aG g x (p++t) af h/\a9 (x.P++(p++t)) (p++t) h (valOf f) r:=by
 have K:cb x.P PQ.P:=λ b=>L m (aW _);have w:aG g x (p++ []) _ h:=L (ea p) (aG.shrink I K R T);have N:∀b o,h.get? b=B o->b∉(W++x.P)++(p++s)->h.get? b=B o/\b∉x.P++(p++ []):=L (ea p) (λ b u e n=>
   ⟨e,λ q=>n ((bB.mp q).elim (λ q=>bL _ (aW _ q)) λ q=>aW _ (bL _ q))⟩)
 have Q:∀b∈([]),lo<=b:=λ u q=>aR q dS;refine aez e (λ d M E es=>?_) (λ i M z E es=>?_) (λ i xs M z hj E=>?_) λ M E es=>?_
 ·have P:=M▸P
  induction f with|ret v=>exact(bh _ ([]) ⟨E,Q,ax es w,aV.mono P N⟩)|_=>exact P.elim
 ·rw[M]at P
  induction f with|ret v=>exact av P λ b y ev=>((bh _ _ ⟨E,Q,ax es w,b,L (ea p) (Pp y z),ev⟩))|_=>exact P.elim
 ·rw[M]at P
  induction f with
  |ret v=>
   refine av P λ b y ev=>?_;have V:=eK ((pN z).symm.trans y);refine av (I.bM.get y) λ aeB l A=>?_;rw[<-ak (Y hj.symm l),m]at A;refine av A λ vs C D=>L ev ?_;rcases E with E|E
   ·refine(bh _ _ ⟨E.1,Q,ax E.2 w,aV.ae (λ q=>?_) C (D.mono N)⟩)
    rw[ea]at q;exact(bB.mp q).elim (λ q=>I.c8 b (aW _ V) (K b q)) λ q=>(rl.mp I.dv).2.2 b q b V rfl
   ·refine(bh _ ([b]) ⟨E.1,λ c q=>L (ek.mp q) (F b V),ax E.2 (aG.Hh I K R T V ⟨vs,C,D.mono λ c o e n=>⟨e,λ q=>n ?_⟩⟩),b,Ea,rfl⟩)
    exact(bB.mp q).elim (λ q=>bL _ (aW _ q)) λ q=>aW _ ((bB.mp q).elim (bL _) λ q=>aW _ (L (ek.mp q) V))
  |_=>exact P.elim
 ·refine(bh _ ([]) ⟨E,Q,ax es w,?_⟩)
  induction f with
  |ret v=>induction X with
   |ret a=>exact aR rfl (M a)|_=>exact P.elim
  |_=>exact aV.none
theorem Bl(bg:Mode)(F:lz g a fd body)(Bq:Base g)(ok:eW g x (n+1))
  (xH:∀α σ s,aG g x α σ s.heap->pre α s.heap->zH s fd ⟨vs,kw⟩ T/\c1 (x.P++α) α s.heap T bs/\r_ x fd.scope fd.closure ck α s.heap)(dd:(bs.all λ p=>dU fd.scope p.1)=S)
  (d:∀h5 P W,(∃l,P=eY fd a l)->h5.l=P::x.l->(cb x.P h5.P)->h5.W=x.W->dq g h5 fd.scope P n W->c9 g h5 W P (bs.reverse++ck) (fG body P) m):
  ag g x pre (dA x) (call (.ref a) vs kw) (ia bg m):=by
 refine λ α σ s out af I dm p e Q E dp z=>b3 e λ⟨o,D⟩ em e=>?_;obtain K:=xH α σ s I p;refine av F.there λ Bm dw hd=>?_;have cut:∀{β:H ao},(∀b∈β,s.heap.objs.size<=b)->O (α++β)=O D->∃G δ,α++β=G++δ/\O G=bg.len σ D/\(∃ε,G=α++ε/\∀b∈ε,s.heap.objs.size<=b)/\∀b∈δ,s.heap.objs.size<=b:=λ{β} i c5=>by
  obtain V:=I.bM.length;obtain cw:=e2.symm▸gK ..;refine aey ?_ ?_ i<;>cases bg
  ·exact fV V
  ·exact fV V
  ·exact bA cw (fV c5)
  ·exact bA (fV V.symm) cw
  ·exact bA (fV V.symm) cw
  ·exact fV c5.symm
 refine Ls (codeAny_call_function (gg (gK ..) ok.depth) (I.base _ _ dw) hd F.co F.gen F.body (F.code.keeps I.base) (K.1 _ _ _ _ (aew ?_)));generalize R:h_ fd.scope s.heap.objs.size=W;generalize h:eY fd a s.heap.objs.size=env;obtain w:=R▸h▸aet F I;obtain cR:=R▸h▸aes F I ok.cY K.2.2;have M:=R▸h▸aeu F Bq ok I K.2.2;obtain fresh:=R▸xt fd.scope;have kp1:∀b o,s.heap.get? b=B o->b∉x.P++α->(o2 s.heap fd.scope).get? b=B o/\b∉(W++x.P)++α:=λ b o e n=>⟨xE fd.scope b o e,λ q=>n ((bB.mp q).elim (λ q=>(bB.mp q).elim (λ q=>aR (dI e) (er.mpr (fresh b q))) (bL _)) (aW _))⟩;obtain N:a_ (s.heap.objs.size::x.F) (W++x.W) α s.heap α _:=.of_keeps (xE fd.scope) (jP (PM fd.scope));refine(aev (x:=a3 {xD x env W s.heap.objs.size with A:=x.A.in1} W) M.y.ok.cY M.h4 M.w M.cM T bs ck dd) α σ (cT s _ s.toks) _ σ ⟨w.base,w.big,w.b2,w.alive,w.dv,w.c8,w.bM,w.fr,w.old⟩ dm ⟨⟨cR.fv,cR.gl,cR.cc,cR.fK,cR.ns,cR.lj,cR.ap⟩,K.2.1.mono kp1 eV⟩ rfl _ _ (λ b r cw h8 h9 ho2 my X i0 fN=>⟨ok.nolimit.keeps X.base,codeAny_func ?_⟩) eC.ok;have PR:∀{h':aX}{aA af y},aG g y aA af h'->(∀e∈x.l,e∈y.l)->∀e∈x.l,oM x.F h' e:=λ j cL e z=>by exact(I.fr e z).e λ aeC o0 u a1 a2 u u=>(j.fr e (cL e z)).e λ l o k mq u aeD aeE=>⟨k,aeC,o,a1,a2,ak (Y mq.symm a1)▸aeD,aeE⟩
 refine d (xD x env W s.heap.objs.size) env W ⟨_,h.symm⟩ rfl (λ b=>aW _) rfl M h9 σ (cT s cw h8) o D ⟨X.base,X.big,X.b2,X.alive,X.dv,X.c8,X.bM,X.fr,X.old⟩ i0 ⟨fN.fv,fN.gl,fN.cc,fN.fK,fN.ns,fN.lj,fN.ap⟩ em _ _ (λ f r cZ t3 xq Hj mz fO o4 dh=>?_) (λ i1 cl as cZ t3 xq Hj mz o4 mC=>?_)
 ·have C:=(N.trans my).trans mz
  refine av C.ext λ β c i=>?_;rw[c]at fO dh C;refine eg (cut i fO.bM.length) λ G δ c Hk xl PS=>(av xl λ ε xI aeF=>?_);rw[c]at fO dh C;simp only[Hj,<-Hk]at e;refine bN e λ j1 e=>(eg (aeA rfl fO (PR fO λ e z=>c7 _ z) j1 PS dh.1 e) λ v PT o5 fw iZ g9=>?_);obtain fin:=dp _ v cZ t3 (G++PT) o5 (a_.PN (L c C) fresh (bH _) ⟨ε++PT,L xI (L (eb ..) rfl),λ b q=>(bB.mp q).elim (aeF b) (fw b)⟩) iZ o4 g9;induction f<;>exact fin
 ·refine aeq rfl M.y.ok.frames (h▸rfl:env.frame=B s.heap.objs.size) M.y.ok.cY ((N.trans my).trans mz) (λ b cv=>cv) ((ExcAt.dG mC).low (bA N.size my.size)) λ fw r3 aeG=>(av r3.ext λ β c i=>?_)
  obtain⟨Sq,t,vs',lo,j,p4,oN,lh,rs,cH⟩:=aeG;rw[c]at j rs r3;refine eg (cut i j.bM.length) λ G δ c Hk xI PS=>?_;rw[c]at j rs;simp only[Hj,<-Hk]at e;refine bN e λ j1 e=>?_;obtain e:=bf (ak e);exact z i1 cl as fw t3 G e.1.symm (r3.PN fresh (bH _) xI) o4 (ax e.2 ⟨Sq,t,vs',lo,aG.shrink j (λ b cv=>(bB.mp cv).elim (bL _) λ cv=>aW _ (aW _ cv)) (PR j λ e z=>z) j1,p4,oN,λ b cv q=>lh b cv (aW _ q),rs.mono λ b o e n=>⟨e,λ q=>n ((bB.mp q).elim (λ q=>bL _ ((bB.mp q).elim (bL _) λ q=>aW _ (aW _ q))) λ q=>aW _ (bL _ q))⟩,cH⟩)abbrev bV:=H V->H (ai×V)->Ev V
structure cK(g:bX)(a:ao)(n:J)(C:bV):Prop where
 there:∃o fd,g.K.get? a=B o/\o.data=.func fd
 call:∀(x:bD),eW g x n->∀vs as qh ks,ag g x (λ α h=>bU (x.P++α) α h vs as/\c1 (x.P++α) α h qh ks) (dA x) (call (.ref a) vs qh) (C as ks)theorem aeH(y:cU g x env n)(h:bQ (TE g x env ρ) ay m):ag g x (bp g x env ρ) (Om x) (evalAll ay) (cE m):=by induction h with|nil=>exact ag.pure λ u u u=>.nil|cons a _ i=>exact ag.cv y a λ v b=>ag.hk y (y.hn v b) i.holding λ vs bs=>ag.pure λ u u p=>.cons p.1.2 p.2
theorem bU.append(r:bU X α h vs as)(s:bU X α h u bs):bU X α h (vs++u) (as++bs):=by induction r with|nil=>exact s|cons a _ i=>exact .cons a i
theorem PU
  (h:aO M A (wc (.ref a) S args k) (λ x m=>(m.heap.get? a=B o/\o.data=.func fd)/\aO M A (call (.ref a) (first++x.pos) x.kw) Q E m) E s):
  aO M A (rp p (.ref a) first args k) Q E s:=callWith_function_kw h
def jw(C:bV)(f:H V)(m:H (Ev V))(n:H ai)(k:H (Ev V)):Ev V:=(cE m).bind λ as=>(cE k).bind λ ks=>C (f++as) (n.zip ks)
theorem Hl(y:cU g x env n){ks:H (ai×bj aq)}(h:bQ (TE g x env ρ) ay m)(o:bQ (TE g x env ρ) (ks.map (·.2)) k)(first:H aq)(F:H V):
  ag g x (λ α h=>bp g x env ρ α h/\bU (x.P++α) α h first F) (λ α h (r:Args)(q:H V×H V)=>bU (x.P++α) α h (first++r.pos) (F++q.1)/\c1 (x.P++α) α h r.kw ((ks.map (·.1)).zip q.2))
   (wc f S (ay.map λ t=>(aj,t)) (ks.map λ p=>(B p.1,p.2))) ((cE m).bind λ as=>(cE k).bind λ bs=>.ret (as,bs)):=by
 simp only[Px];exact ag.hk y (y.AE first F) (uc y h) λ vs as=>ag.holding (ag.pre (ag.hk y (Gc (y.AE first F) (y.AE vs as)) (aeH y o) λ P bs=>ag.pure λ u u p=>⟨p.1.2.1.append p.1.2.2,p.2.zip⟩) λ u u p=>⟨p.1.1,p.1.2,p.2⟩)theorem PV(C:bV)(f:H V)(m:H (Ev V))(n:H ai)(k:H (Ev V)):jw C f m n k=((cE m).bind λ as=>(cE k).bind λ bs=>.ret (as,bs)).bind λ q=>C (f++q.1) (n.zip q.2):=by unfold jw;funext σ;dsimp only[Ev.bind];induction cE m σ with|none=>rfl|some q=>obtain⟨o,W⟩:=q;induction o with|exc=>rfl|ok as=>dsimp only;induction cE k W with|none=>rfl|some q=>obtain⟨o,i⟩:=q;induction o<;>rfl
theorem aeI(y:cU g x env n)(A:cK g a n C){ks:H (ai×bj aq)}{k:H (Ev V)}(h:bQ (TE g x env ρ) ay M)(G:bQ (TE g x env ρ) (ks.map (·.2)) k)(first:H aq)(f:H V):
  ag g x (λ α h=>bp g x env ρ α h/\bU (x.P++α) α h first f) (dA x) (rp N (.ref a) first (ay.map λ t=>(aj,t)) (ks.map λ p=>(B p.1,p.2))) (jw C f M (ks.map (·.1)) k):=by
 refine eM A.there λ o fd l u=>?_;obtain m:=Hl y h G first f
 refine L (PV ..) ?_;intro α σ s P af I w p e Q E dp d;apply PU (o:=o) (fd:=fd);generalize ((cE M).bind λ as=>(cE k).bind λ bs=>Ev.ret _)=ev at m e;dsimp only[Ev.bind]at e;refine eD (ev σ) (λ R=>?_) λ r R=>?_
 ·rw[R]at e;exact nn e
 ·
  obtain⟨r,z⟩:=r;rw[R]at e;refine m α σ s r z I w p R _ _ (λ b q h' D aA W st F i dh=>?_) λ c cl as h' D aA W st i X=>?_
  ·subst W
   refine⟨⟨F.base _ _ l,u⟩,?_⟩;exact A.call x y.ok _ _ _ _ aA z _ P af F i dh e Q E (λ b r h'' j T l K=>dp b r h'' j T l (st.trans K))
    λ c cl as h'' j T l K v X=>d c cl as h'' j T l (st.trans K) v (X.low st.size)
  ·subst W
   cases e;exact d c cl as h' D aA rfl st i X
def nN(bg:Mode)(n:H ai)(m:az->cy):bV:=λ as ks=>match ks with
 |[]=>match(O as)==O n with
  |true=>ia bg (m (n.zip as).reverse)|false=>.au
 |_::_=>.au
theorem Hm(M:∀n,s.names.lookup n≠B .free):r_ x s cl [] α h:=
 ⟨λ u u e=>(nn e),λ n e=>aR e (M n),λ n u u e=>aR e (M n)⟩noncomputable def Fc(s:bW):Bool:=s.names.all λ p=> !(p.2==.free)theorem Hn(h:Fc s=S)(n:ai):s.names.lookup n≠B .free:=λ e=>by obtain this:=b9.mp h _ (mem_of_lookup e);simp at this
noncomputable def eO(k:ai):H (ai×V)->U V
 |[]=>aa|(n,a)::es=>if n=k then B a else eO k es
noncomputable def fc(es:H (ai×V))(k:ai)(v:V):H (ai×V):=
 if es.any (λ e=>e.1=k)then es.map (λ e=>if e.1=k then(e.1,v)else e)else es++ [(k,v)]def Rl(es m:H (ai×V)):H (ai×V):=m.foldl (λ acc e=>fc acc e.1 e.2) es
noncomputable def mE(es:H (ai×V)):Bool:=decide (es.map (·.1)).Nodup
theorem c1.keys(r:c1 X α h k es):k.map (·.1)=es.map (·.1):=by induction r with|nil=>rfl|cons _ _ i=>simp[i]theorem c1.length(r:c1 X α h k es):O k=O es:=by simpa using (aM O r.keys)
theorem c1.opt(r:c1 X α h j8 es):h2 (a9 X α h) (LD j8 k) (eO k es):=by
 induction r with
 |nil=>exact .none
 | @cons n v b es as R o i=>
  dsimp only[eO];unfold LD;refine L anJ ((Ln (n=k)).elim (λ V=>?_) λ V=>?_)
  ·rw[bC V,gJ V];exact .some R
  ·rw[a6 V,l2 V];exact i
theorem c1.look(r:c1 X α h j8 es)(e:eO k es=B a):∃v,LD j8 k=B v/\a9 X α h v a:=(e▸r.opt).inv
theorem c1.H2(r:c1 X α h j8 es)(e:eO k es=aa):LD j8 k=none:=(e▸r.opt).no
theorem c1.append(r:c1 X α h j8 es)(R:c1 X α h k e):c1 X α h (j8++k) (es++e):=by induction r with|nil=>exact R|cons a _ i=>exact .cons a i
theorem c1.put(r:c1 X α h j8 es)(R:a9 X α h v a):c1 X α h (stored j8 k v) (fc es k a):=by
 obtain E:j8.any (λ o=>decide (o.1=k))=es.any (λ e=>decide (e.1=k)):=by induction r with|nil=>rfl|cons _ _ i=>simp[i]
 delta stored fc;refine L E ?_;split
 ·rename_i q
  clear q E;induction r with
  |nil=>exact .nil
  | @cons n u b es as p P i=>
   simp only[lZ];by_cases V:n=k
   ·rw[bC V,bC V];exact .cons R i
   ·rw[a6 V,a6 V];exact .cons p i
 ·exact r.append (.cons R .nil)theorem c1.agg(R:c1 X α h M m):∀{k:H (ai×aq)}{es:H (ai×V)},c1 X α h k es->c1 X α h (merged k M) (Rl es m):=by induction R with|nil=>exact λ r=>r| @cons n v a es as W _ i=>exact λ r=>i (r.put W)
theorem qs:(strKind prog w).is k v=S ↔ ∃t,v=.str k t:=by
 constructor
 ·exact Value.isStrOf_shape
 ·rintro ⟨t,rfl⟩
  exact isStrOf_self k t
theorem agh{X:H ao}(r:oK w.params X α h es xs):∃K,Pairs (strKind prog w) es K/\c1 X α h K xs/\∀e∈es,∃k,(strKind prog w).is k e.key=S/\e.hash=(strKind prog w).hash k:=by
 induction r with
 |nil=>exact⟨[],.nil,.nil,λ u h=>aR h dS⟩
 | @cons k t v x es xs R _ i=>
  refine gF i λ K p P d=>(⟨(k,v)::K,.cons (qs.mpr ⟨t,rfl⟩) rfl p,.cons R P,λ e y=>?_⟩);rcases dM.mp y with rfl|y
  ·exact⟨k,qs.mpr ⟨t,rfl⟩,rfl⟩
  ·exact d e y
theorem H3(N:mE es=S)(r:d2 w.params X α h a (.fY es)):∃k,h.DictOf (strKind prog w) a k/\c1 X α h k es:=oL r λ E n u i r=>gF (agh r) λ k P p d=>⟨k,(e_ _ E n ⟨i,⟨rfl,rfl,rfl⟩,rfl,λ e x=>d e (x.val),P,L p.keys (iN N)⟩),p⟩theorem entry_eq{e:e7}(a:e.hash=x)(b:e.key=y)(c:e.val=z):e=⟨x,y,z⟩:=a▸b▸c▸rfl
theorem c1.inv(r:c1 X α h (Rm::k) xs):∃a as,xs=(Rm.1,a)::as/\a9 X α h Rm.2 a/\c1 X α h k as:=by cases r with|cons a r=>exact(bh _ _ ⟨rfl,a,r⟩)theorem agi(p:Pairs (strKind prog w) es j8):∀{xs:H (ai×V)},(∀e∈es,∃k,(strKind prog w).is k e.key=S/\e.hash=(strKind prog w).hash k)->c1 X α h j8 xs->oK w.params X α h es xs:=by induction p with|nil=>intro xs u r;cases r;exact .nil| @cons e o es j8 a b p i=>exact λ k r=>e4 r.inv λ v as q R n=>a7 (qs.mp a) λ t E=>av (k e cV) λ P C m=>a7 (qs.mp C) λ D T=>L q (L (entry_eq (Y m (aM _ (Value.str.inj (Y T.symm E)).1)) E b) (.cons R (i (λ e x=>k e (c7 _ x)) n)))theorem Rn(d:h.DictOf (strKind prog w) a k)(r:c1 X α h k es):d2 w.params X α h a (.fY es):=by refine rS d λ o E n i W A P R=>cq R λ u f=>?_;obtain⟨C,l,b⟩:=W;obtain⟨c,D,T,s⟩:=o;subst C l b A;exact(e_ E n () ⟨i,agi u (λ e x=>P e (by simpa using x)) r⟩)noncomputable def nR{β:Type}(m:U cj)(f:H (ai×V)->U β):U β:=m.bind λ m=>match m with|.fY es=>f es|_=>aa
theorem H4{p:Type}{f:H (ai×V)->U p}{r:p}(e:nR m f=B r){G:Prop}(k:∀es,m=B (.fY es)->f es=B r->G):G:=
 b3 e λ m h e=>by induction m with|fY es=>exact k es h e|_=>exact nn e
def x3(e:aJ):U Str:=Gd e (λ c=>match c with
  |.str k=>B k|_=>aa) aa
theorem H5(h:x3 e=B k):∃z p,e=.Constant (.str k) z p:=acO (P:=λ o=>o=B k->∃z p,e=.Constant _ z p) (λ c z p q h=>by
 rcases c with _|_|_|_|_|_|_|_;case str=>exact(bh z p (ax (ak h) q))
 all_goals exact nn h) nn h
def Hq(bS:H (U aJ)):U (H ai):=bS.rec (motive:=λ u=>U (H ai)) (B []) (λ e ks dF=>e.bind λ e=>(x3 e).bind λ k=>(dF).map (k:: ·))def PX(ks:H ai)(m:H (Ev V)):Ev V:=λ σ=>oO (cE m (σ++ [.fY []])) λ as i=>nR i[O σ]? λ es=>bR es.isEmpty (B (.ok (.aH (O σ)),i.set (O σ) (.fY (Rl [] (ks.zip as)))))
theorem Ro(env:cn):∀es:H aJ,O (iQ es env)=O es
 |[]=>rfl|_::es=>aM _ (Ro env es)def H6(g:bX)(x:bD)(env:cn)(ρ:az)(K:bj aq)(k:ai):Prop:=ag g x (bp g x env ρ) (λ u u v (u:gL)=>∃t,v=LF k t) K (.ret ())theorem agj(c:vY)(k:ai)(h:c=.str k)(z:J)(p:cP):H6 g x env ρ (bG (.Constant c z p) env) k:=by subst h;exact ag.wp λ α σ s I t p Q E G=>D5 (G _ s.heap _ (λ u u e=>e) (bH _) ⟨_,rfl⟩)
theorem agk(y:cU g x env n):∀{ks:H ai}{z:H (bj aq)},bQ (H6 g x env ρ) z ks->∀{ay:H (bj aq)}{M:H (Ev V)},bQ (TE g x env ρ) ay M->O ks=O ay->
  ag g x (bp g x env ρ) (λ α h vs as=>∃K:H (ai×aq),Carries (strKind g.prog g.w) vs K/\c1 (x.P++α) α h K (ks.zip as)) (Yy (z.zip ay)) (cE M):=by
 intro ks z E;induction E with
 |nil=>
  intro ay M N h;induction N with
  |nil=>exact ag.pure λ u u u=>⟨[],trivial,.nil⟩|cons=>exact nomatch h
 | @cons c k z ks Q T i=>
  intro ay M N b;induction N with
  |nil=>exact nomatch b
  | @cons t m ay M q w=>
  obtain e:cE (m::M)=(Ev.ret _).bind λ u=>m.bind λ a=>(cE M).bind λ as=>.ret (a::as):=rfl;refine L e (ag.cv y Q λ A u=>?_);intro α σ s o af I D p;obtain⟨R,t0,rfl⟩:=p;obtain l:ag g x _ (λ α h vs as=>∃K:H _,Carries _ vs K/\c1 _ α h K ((k::ks).zip as)) (d_ [LF k t0] t>>=λ v=>d_ [LF k t0,v] (Yy _)>>=λ r=>pure ((LF k t0,v)::r)) (m.bind λ a=>(cE M).bind λ as=>.ret (a::as)):=by refine ag.cv y q.holding λ v a=>(ag.hk y (y.hn v a) (i w (zp b)).holding λ vs as=>ag.pure λ α h p=>?_);obtain⟨⟨_,W⟩,K,X,j⟩:=p;exact⟨(k,v)::K,⟨qs.mpr ⟨t0,rfl⟩,rfl,X⟩,.cons W j⟩
  exact l α σ s o af I D R
theorem Rp:∀{K:H (U aJ)}{ks:H ai},Hq K=B ks->∃y:H (bj aq),K0 K env=y.map B/\bQ (H6 g x env ρ) y ks
 |[],ks,e=>⟨[],rfl,ax (ak e) .nil⟩|none::_,_,e=>nn e
 |some k::K,ks,e=>b3 (o:=x3 k) e λ z E e=>gE e λ zs f e=>
  f5 (H5 E) λ q p l=>
  av (Rp f) λ y h j=>
  ⟨bG k env::y,aM _ h,ax e (.cons (L l (agj _ _ rfl q p)) j)⟩theorem bQ.wrap(P:cP)(h:bQ (TE g x env ρ) ay ms):bQ (TE g x env ρ) (ay.map λ v=>(do let x<-v;dZ P;pure x:bj aq)) ms:=by induction h with|nil=>exact .nil|cons a _ i=>exact .cons (λ α σ s o af I t p e Q E G z=>aB (hS (a α σ s o af I t p e Q E G z) (λ u u y=>aB (kq (bl y))) λ u u y=>y)) i
theorem aeM(y:cU g x env n)(G:Hq k=B ks)(l:bQ (TE g x env ρ) (iQ values env) b)(c:O values=O ks)(d:0<O ks)(z:O ks<=15):
  TE g x env ρ (bG (.Dict k values p) env) (PX ks b):=by
 refine λ α σ s o af I f R e Q E dp he=>av (Rp (g:=g) (x:=x) (env:=env) (ρ:=ρ) G) λ K fs A=>?_;generalize h:((iQ values env).map λ v=>(do let x<-v;dZ p;pure x))=ay;have C:=h▸Y (gh _) (Y (Ro env values) c);have P:O (K.zip ay)=O ks:=by simp only[List.length_zip,C,bQ.length A,Nat.min_self]
 refine t6 e λ as i f3 e=>H4 e λ es ho e=>bN e λ iw e=>?_;obtain e:=bf (ak e);refine wpAny_Dict_pairs (knd:=strKind g.prog g.w) (L h (L fs (L List.zip_map_left rfl))) (λ q=>by rw[q]at P;exact aR P (il d)) (bA (fV P) z) ?_;obtain mo:d2 g.w.params _ _ (s.heap.push {cls:=.type "dict",data:=.dict #[] }) s.heap.objs.size (.fY []):=(e_ _ _ () ⟨d0 _ rfl,.nil⟩);have r:=I.new _ _ mo;obtain t:=I.bM.length▸h6;refine agk y A (h▸bQ.wrap p l) C.symm _ _ (cT s (s.heap.push {cls:=.type "dict",data:=.dict #[] }) s.toks) _ i r.1 f (bt.jY y.ok.cY y.ok.ew y.q _ _ _ _ _ I r.2.1 R) f3 _ _ (gn.ok λ vs cw h8 h9 W D T dh=>av dh λ X nF BP=>(av W.ext λ β w Br=>?_)) eC.ok;subst w;obtain t:=iD t;refine av (H3 (prog:=g.prog) rfl (D.look t ((k4.mp iw)▸ho))) λ F a m=>?_;cases m;refine⟨X,nF,a,λ h' u M=>?_⟩;obtain j:=D.put y.ok.cY t M λ o=>Rn u (c1.agg (BP.mono o eV) .nil);exact dp _ _ h' _ _ e.1.symm ((r.2.1.trans W).trans j.2) (ax e.2 j.1) (bA T (gK _ _)) ⟨_,t,rfl⟩def uL(nm:ai)(args:H aJ)(k:H v7):U (ai×ai):=bR (nm==("replace" :ai)&&k.isEmpty) (two args λ a b=>(x3 a).bind λ x=>(x3 b).map λ y=>(x,y))def Rq(a b:ai):D->U D:=hB λ z=>bR (aZ (z.length+(z.length+1)*b.length) 16777216) (B (.str (aoE z a b)))def Hr(a b:ai)(r:V):Ev V:=(Ev.read r).bind λ d=>Ev.ofD (Rq a b d)theorem agl{x:ai}(h:Q (.builtin "str.replace",[.str x t]) s):aO M A (Lu (.str x t) "replace" p) Q E s:=by with_reducible exact GM.of _ (Lg _ _ _) PySem.F.slot_str_replace PySem.F.type_str_replace GM.noRef h
theorem agm(Bq:Base g)(I:aG g x α σ s.heap)(D:1<=s.toks)(h:aL A.endLine pos.line=S)(t1 T:bj aq)(W:t1=zM a)(j:T=zM b)
  (K:z.length+(z.length+1)*b.length<=16777216)(G:hl x α s Q (.str (aoE z a b))):aO (a5 g.prog g.w) x.A (Lw o "replace" A pos env (.str z t) 2 ([t1,T].map λ t=>(aj,t)) []) Q E s:=by
 subst W j;dsimp only[Lw];refine L (rfl:Zg 2 _ []=S) (aB (dT ?_));unfold calleeOf;apply agl;have w:Zh S o env A pos=pure pos:=bC (cI.mpr (dE h));dsimp only;refine L w (aB (bl ?_));rw[Ha (λ y e=>by cases e),evalArgs_plain];have sp:v5 ([zM a,zM b].map λ t=>(aj,t))=(zM a>>=λ v=>d_ [v] (zM b>>=λ u=>d_ [u] (pure ([]))>>=λ r=>pure (u::r))>>=λ R=>pure (v::R)):=by simp[v5]
 exact L sp (aB (dT (aB (aB (D5 (aB (dT (aB (D5 (aB (dT (bl (bl (bl (dT (bl (aB (kq (aB (SC.replaceA (hM D) (Nat.succ_ne_zero _) (il (ko _)) K (λ C k=>aB (dT (Lv (bl (G _ s.heap k (λ y y e=>e) (bH _) (.str _ _)))))) (wV Bq.booked I.base)))))))))))))))))))))
theorem aeN(y:cU g x env n)(Bq:Base g)(P:uL nm args k=B (a,b))(i:attributeBase o nm env (bG o env)=bG o env)(w:aL A.endLine W.line=S)(h:TE g x env ρ (bG o env) m):
  TE g x env ρ (bG (.Call (.Attribute o nm A) args k W) env) (m.bind (Hr a b)):=by
 refine bN P λ X P=>nL P λ i1 nB c P=>b3 P λ agn j P=>gE P λ rZ l f=>?_;obtain⟨V,R⟩:=bo X;obtain f:=bf f;obtain rfl:=cI.mp V;refine L (k4.mp R) (L c (f5 (H5 j) λ T K C=>(f5 (H5 l) λ G D F=>?_)));simp only[C,F,f.1,f.2,arm_eval_Call,i];refine ag.cv y h λ v r=>ag.standAt (ag.ghost (λ u u p=>p.2) λ d=>ag.toV ?_);cases e:Rq a b d with
 |none=>exact .au|some wQ=>
 exact mi e λ z M e=>bN e λ q e=>ak e▸ag.wp λ α σ s I N p Q E dp=>by exact a7 ((M▸p.2:RD _ s.heap v _).str) λ t ev=>L ev (agm Bq I N w _ _ rfl rfl (b8 q) dp)
inductive o6 where
 |bi (id:b1)|fn (a:ao)noncomputable def o6.ctorIdx(e:o6):Nat:=o6.casesOn (motive:=λ u=>J) e (λ u=>0) (λ u=>1)
noncomputable def o6.val:o6->aq
 |.bi id=>.builtin id|.fn a=>.ref a
structure Cfg where
 gl:kE
 ct:ao->U bV
 bi:b1->H V->Ev V
 ty:b1->H V->Ev V
 ms:aE->V->ai->U o6
 attr:V->ai->Ev V
 item:V->V->Ev V
 set:V->V->V->Ev gL
 o7:V->V->Ev gL
 setattr:V->ai->V->Ev gL
 del:V->V->Ev gL
 loops:aF
 bg:cP->aF
 fuel:J
section
variable {g:bX}{x:bD}{env:cn}{ρ:az}{n:J}
def xJ(g:bX)(a:ao)(n:J)(C:bV):Prop:=
 ∀(x:bD)(env:cn)(ρ:az),cU g x env n->∀(P:cP)(ay:H (bj aq))(m:H (Ev V))(ks:H (ai×bj aq))(k:H (Ev V)),bQ (TE g x env ρ) ay m->bQ (TE g x env ρ) (ks.map (·.2)) k->∀(first:H aq)(f:H V),
  ag g x (λ α h=>bp g x env ρ α h/\bU (x.P++α) α h first f) (dA x) (rp P (.ref a) first (ay.map λ t=>(aj,t)) (ks.map λ p=>(B p.1,p.2))) (jw C f m (ks.map (·.1)) k)theorem cK.w(h:cK g a n C):xJ g a n C:=λ u u u y u u u u u=>aeI y h
structure gP(g:bX)(c:Cfg)(n:J):Prop where
 loops:c.loops=S->0<n
 G:hh g c.gl
 ct:∀a C,c.ct a=B C->xJ g a n C
 bi:∀id (x:bD),eW g x n->eN g x (.builtin id) (c.bi id)
 ty:∀id (x:bD),eW g x n->eN g x (.type id) (c.ty id)
 ms:∀(x:bD) α σ (s:aU) v r nm t,eW g x n->aG g x α σ s.heap->a9 (x.P++α) α s.heap v r->c.ms σ r nm=B t->(∀a,t=.fn a->∃C,c.ct a=B C)/\∀cJ (Q:aq×H aq->aU->Prop) E,Q (t.val,[v]) s->aO (a5 g.prog g.w) x.A (Lu v nm cJ) Q E s
 attr:∀(x:bD),eW g x n->∀v a nm,ag g x (λ α h=>a9 (x.P++α) α h v a) (dA x) (getAttr v nm S) (c.attr a nm)
 item:∀(x:bD),eW g x n->∀v a u b (value slice:aJ),p7 slice=S->ag g x (λ α h=>a9 (x.P++α) α h v a/\a9 (x.P++α) α h u b) (dA x) (Ec value slice v u) (c.item a b)
 set:∀(x:bD),eW g x n->∀v a u b w d,ag g x (λ α h=>a9 (x.P++α) α h v a/\a9 (x.P++α) α h u b/\a9 (x.P++α) α h w d) (λ z z z z=>True) (zI v u w) (c.set a b d)
 o7:∀(x:bD),eW g x n->∀v a w d kB,ag g x (λ α h=>a9 (x.P++α) α h v a/\a9 (x.P++α) α h w d/\h.IsSliceOf kB .none .none .none) (λ z z z z=>True) (zI v (.ref kB) w) (c.o7 a d)
 setattr:∀(x:bD),eW g x n->∀v a nm w d,ag g x (λ α h=>a9 (x.P++α) α h v a/\a9 (x.P++α) α h w d) (λ z z z z=>True) (setAttr v nm w) (c.setattr a nm d)
 del:∀(x:bD),eW g x n->∀v a u b,ag g x (λ α h=>a9 (x.P++α) α h v a/\a9 (x.P++α) α h u b) (λ z z z z=>True) (delItem v u) (c.del a b)
end
def hr(m:Ev V):Ev V×Ev Bool:=(m,ub m)def sa:Ev V×Ev Bool:=(.au,.au)def PW(l:H v7):U (H ai):=l.rec (B []) λ k u I=>k.arg.bind λ n=>I.map (n:: ·)
noncomputable def uJ:v7->aJ
 |⟨_,e,_⟩=>e
noncomputable def Bn(e:aJ):Bool:=if h:e.ctorIdx=16 then YW e h λ f as ks u=> !(aL f.ctorIdx 23&&(as.isEmpty&&ks.isEmpty))else S
def uK(c:Cfg)(f:V)(m:H (Ev V))(N:H ai)(k:H (Ev V)):Ev V:=match f with
 |.d (.bi id)=>match k with|[]=>(cE m).bind (c.bi id)|_::_=>.au
 |.d (.ty id)=>match k with|[]=>(cE m).bind (c.ty id)|_::_=>.au
 |.d (.obj a)=>match c.ct a with|some C=>jw C [] m N k|none=>.au
 |_=>.au
def qi(c:Cfg)(r:V)(nm:ai)(m:H (Ev V))(N:H ai)(k:H (Ev V)):Ev V:=λ σ=>match c.ms σ r nm with
 |some (.bi id)=>match k with|[]=>((cE m).bind λ as=>c.bi id (r::as)) σ|_::_=>aa
 |some (.fn a)=>match c.ct a with|some C=>jw C [r] m N k σ|none=>aa
 |none=>aa
def i2(b:aF)(o:Ev V×Ev aF):Ev V×Ev Bool:=match b with|true=>o|false=>sa
def Ho{α:Type}(k:U α)(f:α->Ev V×Ev aF):Ev V×Ev Bool:=match k with|some a=>f a|none=>sa
def Hp(c:Cfg)(I:bW->az->aJ->Ev V×Ev aF)(q:bW)(ρ:az)(e:aJ):Ev V×Ev Bool:=Oo sa
   (λ d es u=>(AA d (es.map λ e=>(I q ρ e).1),wY d (es.map λ e=>(I q ρ e).2)))
   (λ l d r u=>hr (kG d (I q ρ l).1 (I q ρ r).1))
   (λ d a u=>match d with
   |.Not=>(Ay .Not (I q ρ a).1,(((I q ρ a).2).bind λ b=>.ret (!b)))|d=>hr (Ay d (I q ρ a).1))
   (λ t a b u=>(fL (I q ρ t).2 (I q ρ a).1 (I q ρ b).1,fL (I q ρ t).2 (I q ρ a).2 (I q ρ b).2))
   (λ y w u=>Ho (Hq y) λ ks=>i2 (aL (O w) (O ks)&&(bE 0 (O ks)&&aZ (O ks) 15)) (hr (PX ks (w.map λ e=>(I q ρ e).1))))
   (λ E G C p=>match G with
   |[]=>sa|X::m=>i2 c.loops (hr (jv (c.bg p) c.fuel q C (I q ρ X.iter).1 (λ ρ e=>(I C ρ e).1) (λ ρ e=>(I C ρ e).2) E (X::m) ρ)))
   (λ l i es u=>i2 (es.all hY) (Oi (I q ρ l).1 i (es.map λ e=>(I q ρ e).1),(I q ρ l).1.bind λ a=>wW a i (es.map λ e=>(I q ρ e).1)))
   (λ f args K P=>i2 (args.all fM) (Ho (PW K) λ j=>hZ f (λ u=>hr ((I q ρ f).1.bind λ F=>uK c F (args.map λ e=>(I q ρ e).1) j (K.map λ k=>(I q ρ (uJ k)).1)))
   (p8 f (λ o nm A=>i2 (Bn o&&(bE (O args+O K) 20&&aL A.endLine P.line)) (match uL nm args K with
     |some ab=>hr ((I q ρ o).1.bind (Hr ab.1 ab.2))|none=>hr ((I q ρ o).1.bind λ r=>qi c r nm (args.map λ e=>(I q ρ e).1) j (K.map λ k=>(I q ρ (uJ k)).1)))) sa)))
   (λ k u u=>hr (NT k))
   (λ o nm u=>i2 (Bn o) (hr ((I q ρ o).1.bind λ a=>c.attr a nm)))
   (λ v s u=>ui s (λ lo h st=>hr (Ou (I q ρ v).1 (lo.map λ e=>(I q ρ e).1) (h.map λ e=>(I q ρ e).1) (st.map λ e=>(I q ρ e).1))) (hr ((I q ρ v).1.bind λ a=>(I q ρ s).1.bind λ b=>c.item a b)))
   (λ nm u=>hr (p6 c.gl q ρ nm))
   (λ es p=>i2 (es.all fM) (hr (Oq (c.bg p) (es.map λ e=>(I q ρ e).1))))
   (λ es u u=>i2 (es.all fM) (hr (uf (es.map λ e=>(I q ρ e).1)))) e
def ba(c:Cfg)(n:J):bW->az->aJ->Ev V×Ev Bool:=n.rec (λ u u u=>sa) λ u=>Hp c
theorem bQ.evalEach(f:aJ->Ev V)(h:∀e,TE g x env ρ (bG e env) (f e)):∀es:H aJ,bQ (TE g x env ρ) (iQ es env) (es.map f)
 |[]=>.nil|e::es=>.cons (h e) (bQ.evalEach f h es)
theorem bQ.tests(f:aJ->Ev aF)(h:∀e,TB g x env ρ (iq e env (bG e env)) (f e)):∀es:H aJ,bQ (λ e m=>TB g x env ρ (iq e env (bG e env)) m) es (es.map f)
 |[]=>.nil|e::es=>.cons (h e) (bQ.tests f h es)
theorem h2.evalOpt(f:aJ->Ev V)(h:∀e,TE g x env ρ (bG e env) (f e)):∀o:U aJ,h2 (TE g x env ρ) (Lh o env) (o.map f)
 |Option.none=>h2.none|Option.some e=>h2.some (h e)
noncomputable def Bo(p:cP)(env:cn):H ai->H v7->H (ai×bj aq)
 |n::N,k::ks=>(n,do let v<-bG (uJ k) env;dZ p;pure v)::Bo p env N ks|_,_=>[]
theorem PY(P:cP)(env:cn):∀(ks:H v7)(N:H ai),PW ks=B N->backToKw P (keywordEach ks env)=(Bo P env N ks).map (λ p=>(B p.1,p.2))/\(Bo P env N ks).map (·.1)=N/\(Bo P env N ks).map (·.2)=ks.map λ k=>(do let v<-bG (uJ k) env;dZ P;pure v)
 |[],N,e=>by obtain rfl:=ak e;exact⟨rfl,rfl,rfl⟩
 |⟨B a,v,p⟩::ks,N,e=>by
  refine av (hR.mp e) λ q E w=>ax w (ff (PY P env ks q E) λ h j y=>(⟨?_,?_,?_⟩))
  ·show(B a,_)::backToKw P _=_
   exact L h rfl;first|rfl|done
  ·show a::_=_;rw[j]
  ·show _::_=_::_;simp only[y]
 |⟨aa,_,_⟩::_,_,e=>nn e
theorem bQ.qh(P:cP)(f:aJ->Ev V)(h:∀e,TE g x env ρ (bG e env) (f e)):∀ks:H v7,bQ (TE g x env ρ) (ks.map λ k=>(do let v<-bG (uJ k) env;dZ P;pure v)) (ks.map λ k=>f (uJ k))
 |[]=>.nil
 |k::ks=>.cons (by
   exact λ α σ s o af I t p e Q E G z=>aB (hS (h _ α σ s o af I t p e Q E G z) (λ u u y=>λ c C b=>y) λ u u y=>y)) (bQ.qh P f h ks)
theorem Hs(h:Bn o=S)(nm:ai)(t:bj aq):attributeBase o nm env t=t:=by
 cases o with
 |Call f as ks p=>
  cases f with
  |Name id q=>
   rcases as with _|⟨a,as⟩
   ·rcases ks with _|⟨k,ks⟩
    ·exact bw h
    ·exact rfl
   ·exact rfl
  |_=>exact rfl (a:=t)
 |_=>exact rfl (a:=t)
theorem Ht(y:cU g x env n)(u:∀a,f≠ .ref a){C:H V->Ev V}(h:bQ (TE g x env ρ) ay j)(first:H aq)(F:H V)
  (X:eN g x f C):
  ag g x (λ α h=>bp g x env ρ α h/\bU (x.P++α) α h first F) (dA x) (rp b f first (ay.map λ t=>(aj,t)) []) ((cE j).bind λ as=>C (F++as)):=by
 simp only[Ha u,evalArgs_plain];obtain c:ag g x (λ α h=>bp g x env ρ α h/\bU _ α h first F) (λ α h (a:Args) as=>a.kw=[]/\bU _ α h (first++a.pos) (F++as)) (d_ (f::first) (v5 _>>=λ vs=>d_ vs (pure ⟨vs,[]⟩))) _:=by exact λ α σ s o af I D p e Q E G z=>dT (aB (uc y h α σ s o af I D p.1 e _ _ (λ vs r h' K aA i st M T l=>dT (bl (G _ r h' K aA i st M T ⟨rfl,(y.AE first F _ _ _ _ st p.2).append l⟩))) z))
 refine c.bind λ a as=>?_;obtain⟨l,kw⟩:=a;intro α σ s o af I D p e Q E G z;obtain⟨k,p⟩:=p;exact L k (aB (λ d R A=>aB (X _ _ α σ s o af I D p e _ _ (λ v r h' K aA i st M T AJ=>aB (dT (Lv (λ d R A=>G v r h' K aA i st M T AJ)))) z)))
theorem aeJ(K:gP g c n)(y:cU g x env n){ks:H (ai×bj aq)}(h:bQ (TE g x env ρ) ay m)(E:bQ (TE g x env ρ) (ks.map (·.2)) k):
  ag g x (λ α h=>bp g x env ρ α h/\a9 (x.P++α) α h F f) (dA x) (rp P F [] (ay.map λ t=>(aj,t)) (ks.map λ p=>(B p.1,p.2))) (uK c f m (ks.map (·.1)) k):=by
 induction f with
 |aH=>exact .au|d d=>
 intro α σ s o af I T p;rcases d with _|_|_|_|_|id|id|a|_|_|⟨_,_⟩
 case bi=>
  obtain rfl:=p.2.inv;cases k with
  |cons=>intro e;exact nn e
  |nil=>
   have:ks=[]:=by cases ks with|nil=>rfl|cons=>cases E
   subst this;exact Ht y (λ u e=>by cases e) h [] [] (K.bi id x y.ok) α σ s o af I T ⟨p.1,.nil⟩
 case ty=>
  obtain rfl:=p.2.inv;cases k with
  |cons=>intro e;exact nn e
  |nil=>
   have:ks=[]:=by cases ks with|nil=>rfl|cons=>cases E
   subst this;exact Ht y (λ u e=>by cases e) h [] [] (K.ty id x y.ok) α σ s o af I T ⟨p.1,.nil⟩
 case obj=>refine cq p.2.inv λ w _=>L w ?_;unfold uK;dsimp only;cases D:c.ct a with|none=>intro e;exact nn e|some C=>exact K.ct a C D x env ρ y P ay m ks k h E [] [] α σ s o af I T ⟨p.1,.nil⟩
 all_goals intro e;exact nn e
theorem aeK(K:gP g c n)(y:cU g x env n){ks:H (ai×bj aq)}(h:bQ (TE g x env ρ) ay m)(R:bQ (TE g x env ρ) (ks.map (·.2)) v)
  (w:k<20)(l:aL A.endLine pos.line=S):
  ag g x (λ α h=>bp g x env ρ α h/\a9 (x.P++α) α h F f) (dA x) (Lw o nm A pos env F k (ay.map λ t=>(aj,t)) (ks.map λ p=>(B p.1,p.2))) (qi c f nm m (ks.map (·.1)) v):=by
 intro α σ s i af I D p e Q E G z;have T:Zg k (ay.map λ t=>(aj,t)) (ks.map λ p=>(B p.1,p.2))=true:=by unfold Zg;simp only[(show(ay.map λ t=>(aj,t)).all (λ q:aF×bj aq=> !q.1)=S by simp),(show(ks.map λ p=>(B p.1,p.2)).all (λ q:U ai×bj aq=>q.1.isSome)=S by simp)];simp only[aor,KC];split<;>lia
 dsimp only[Lw];refine T.symm▸?_;unfold qi at e;cases r:c.ms σ f nm with
 |none=>rw[r]at e;exact nn e|some t=>
 rw[r]at e;obtain⟨V,X⟩:=K.ms x α σ s F f nm t y.ok I p.2 r;refine aB (dT (X _ _ _ ?_));obtain b:Zh S o env A pos=pure pos:=by unfold Zh;have:=dE l;simp[this]
 refine L b ?_;induction t with
 |bi id=>
  dsimp only at e;induction v with
  |cons=>exact nn e
  |nil=>
   obtain this:ks=[]:=by cases ks with|nil=>rfl|cons=>cases R
   exact L this (Ht y (λ u e=>by cases e) h [F] [f] (K.bi id x y.ok) α σ s i af I D ⟨p.1,.cons p.2 .nil⟩ e Q E G z)
 |fn a=>dsimp only at e;refine a7 (V a rfl) λ C N=>?_;rw[N]at e;exact K.ct a C N x env ρ y pos ay m ks v h R [F] [f] α σ s i af I D ⟨p.1,.cons p.2 .nil⟩ e Q E G z
theorem Hw(h:a<=b)(e:bk a m=S):bk b m=true:=b9.mpr λ j D=>Z.blt_iff.mpr (eo (Z.blt_iff.mp (b9.mp e j D)) h)
theorem aeO{σ:aE}(e:σ.all (bk a)=S):σ.all (bk (a+1))=true:=
 b9.mpr λ m h=>Hw (hg a) (b9.mp e m h)
theorem P_(bg:aF)(da:0<n)(y:cU g x env n)(cM:fa sc env)
  (l:TE g x env ρ (Lx G env) first)
  (T:∀(h5:bD)(P:cn),cU g h5 P n->fa X P->∀ρ e,TE g h5 P ρ (bG e P) (iE ρ e)/\TB g h5 P ρ (iq e P (bG e P)) (h7 ρ e)):
  ∀(α:H ao)(σ:aE)(s:aU)(r:V)(af:aE),aG g x α σ s.heap->1<=s.toks->bp g x env ρ α s.heap->jv bg N sc X first iE h7 elt G ρ σ=B (.ok r,af)->∀(Q:aq->aU->Prop)(E:aq->aU->Prop)(use:U (aq->bj gL)),
   (∀acc C K ei lx aA f m,C∈K->(∀b∈K,s.heap.objs.size<=b)->a_ x.F x.W α s.heap aA ei->aG g (Internal.fJ x K) aA af ei->a9 ((K++x.P)++aA) aA ei acc r->af.all (bk (O aA))=S->ei.Ns C m->1<=lx->compPost (a5 g.prog g.w) x.A E use Q acc C (.ok f) (cT s ei lx))->
   aO (a5 g.prog g.w) x.A (comprehension (.ListComp elt G X pos) X env (firstIterPos G pos) (newList []) (firstAsync G) (Lx G env) use) Q E s:=by
 intro α σ s r af I dm R e Q E use hk;refine Pt e λ ql o8 a Qa j aeP aeQ oV xs xM Qb f3 iw nC exs j1 o5=>?_;subst xM;have ok:=(bF.mp Qb).1;have Qc:=(bF.mp ok).1;have Qd:=(bF.mp Qc).1;obtain⟨Qe,lA,Hx⟩:=Ph nC;obtain hfr:∀m,(m,tC)∈X.names->(env.cells.lookup m).isSome=true:=by exact λ m hm=>av (R.lj m (r5 ok cM (uC Qd hm))) λ c c5 u=>L c5 rfl
 obtain⟨cl,xN⟩:=ad3 hfr;refine(show firstAsync (ql::o8)=aj by cases ql;exact Qe).symm▸(wpAny_comprehension_free (use:=use) rfl (GZ ((bF.mp Qb).2) env) (ad2 xN) (by simpa using ((bF.mp Qc).2)) (λ p hp cL=>ax (cL ..) (uC Qd hp)) (l α σ s _ Qa I dm R f3 _ _ (gn.ok λ v1 c5 t1 xO i hD xa g9=>?_) eC.ok));have cR:=bt.jY y.ok.cY y.ok.ew y.q _ _ _ _ _ I i R;refine AL (g:=g) (x:=x) (pre:=λ α h=>a9 _ α h v1 a) (v:=v1) (a:=a) (λ u u p=>p) xO Qa _ _ aeP hD xa g9 iw _ _ (gn.ok λ it cw h8 h9 D eF i0 dh=>av dh λ aeR hIa Hy=>L Hy (kx (ff (eF.new {cls:=.type "list",data:=.seq ([]).toArray} (.ae []) ⟨[],⟨0,d0 _ rfl⟩,.nil⟩) λ fO M rv3=>?_) (by show 0<=ku;omega))) eC.ok;have R3:=bt.jY y.ok.cY y.ok.ew y.q _ _ _ _ _ eF M (bt.jY y.ok.cY y.ok.ew y.q _ _ _ _ _ hD D cR);refine av rv3 λ acc Qf aeS=>?_;obtain aeT:acc=cw.objs.size:=by injection aeS with q;exact q.symm
 generalize hh3:cw.push {cls:=.type "list",data:=.seq ([]).toArray} =cZ at fO M R3 ⊢;refine ad6 (s:=cT s cZ h8) λ P hce hCl=>L hce ?_;obtain Hz:=xt (h:=cZ) X;obtain Qg:=G9 (h:=cZ) X;obtain iZ:=fO.fJ Hz ((by
   intro b z;rcases dM.mp z with rfl|z
   ·exact⟨_,wb _ _ _ _ (d0 _ rfl)⟩
   ·refine av (iP.mp z) λ p hp j5=>ax j5 ?_
    exact av (((r6 X).empty p.1 p.2 hp).1) λ o e u=>(⟨o,e⟩))) Qg (jP (Pr X))
 obtain⟨xK,aeU⟩:=ad_ y ok cM fO R3 xN;obtain HA:fa X (compEnv X cl cZ.objs.size env):=G8 X env rfl;obtain HB:A2 g _ X _ n _ iE h7:=
  ⟨xK,HA,λ b z=>bL _ z,aeU,da,λ ρ e=>(T _ _ xK HA ρ e).1,λ ρ e=>(T _ _ xK HA ρ e).2⟩
 obtain Qh:=get_append hIa;subst aeT;refine Pj (g:=g) (x:=fJ x _) (s:=cT s _ h8) iZ Qh Hx rfl Qe (ad0 HB _ 0 rfl j _ aeQ _ _ oV _ aeR _ nC iZ.cF i0 (ad7 ok cM fO y.ok.cY R3 xN).cF Qh Qf λ ei lx uA uo lp nI kM=>av kM.ns λ m Bp u=>L hCl ?_);have t:=(((((i.trans D).trans M).weaken (λ u q=>q) (λ b=>aW _)).trans (.of_keeps Qg (jP (Pr X)))).trans uo);obtain A:=λ b z=>bA (bA i.size (bA D.size M.size)) (Hz b z);refine av t.ext λ β HC Br=>?_;subst HC;have len:=I.bM.length.symm;rw[len]at j1 o5;obtain Qi:cZ.objs.size∈h_ X cZ.objs.size:=cV ..;have F:=uo.get Qf;refine av (lp.bM.get F) λ aeB HD nD=>?_;have HD:=exs▸HD;cases HD;refine av nD λ vs w41 rs=>?_;obtain⟨nn,lr⟩:=w41;have d:cw.objs.size∉x.P++α:=λ q=>aR (I.nz q) (er.mpr (bA i.size D.size));obtain aeV:=λ q=>by obtain q:=Hz _ q;rw[<-hh3,et]at q;exact Lq _ q
 have k:cw.objs.size∈β:=by
  rcases bB.mp (eK F)with q|q
  ·exact aR (aW _ q) d
  ·exact q
 obtain Bs:=lp.dG;induction bg with
 |false=>
  cases o5;have W:=aG.shrink (x2:=Internal.fJ x (h_ X cZ.objs.size)) Bs (λ b z=>z) Bs.fr j1;refine hk (.ref cw.objs.size) cZ.objs.size (h_ X cZ.objs.size) ei lx α .next m Qi A (t.Pw A) W (aV.ae (λ q=>?_) ⟨nn,lr⟩ (rs.mono λ b o e nb=>⟨e,λ q=>nb ?_⟩)) (by simpa [len]using j1) Bp nI
  ·rcases bB.mp q with q|q
   ·rcases bB.mp q with q|q
    ·exact aeV q
    ·exact d (bL _ q)
   ·exact d (aW _ q)
  ·rcases bB.mp q with q|q
   ·exact bL _ q
   ·exact aW _ (bL _ q)
 |true=>
  cases o5;have W:=aG.Hh (x2:=Internal.fJ x (h_ X cZ.objs.size)) (m:=.ae xs) Bs (λ b z=>z) Bs.fr j1 k ⟨vs,⟨nn,lr⟩,rs.mono λ b o e nb=>⟨e,λ q=>nb (by
   rcases bB.mp q with q|q
   ·exact bL _ q
   ·rcases bB.mp q with q|q
    ·exact aW _ (bL _ q)
    ·rw[ek.mp q];exact aW _ (aW _ k))⟩⟩
  refine hk (.ref cw.objs.size) cZ.objs.size (h_ X cZ.objs.size) ei lx (α++ [cw.objs.size]) .next m Qi A (t.aea A (bA i.size D.size)) W ⟨cw.objs.size,by simp,rfl⟩ ?_ Bp nI
  simpa [len,show∀n,bk n (.ae xs)=S from λ n=>rfl,zJ]using aeO j1
theorem a_.one(st:a_ F W α h aA h')(V:h.objs.size<=C)(c:hU C h' h''):a_ F W α h aA h'':=
 have N:∀{b o},h.get? b=B o->b≠C:=λ e q=>er.mpr V (ax q (dI e))
 ⟨bA st.size (fV c.1.symm),st.ext,λ b o e f w n=>Y (c.2 b (N e)) (st.same b o e f w n),λ b o e w n=>a7 (st.slot b o e w n) λ s q=>⟨s,Y (c.2 b (N e)) q⟩⟩
theorem P8(bg:aF)(F:0<n)(y:cU g x env n)(K:fa p env)
  (k:TE g x env ρ (Lx G env) first)
  (h:∀(X:bD)(c:cn),cU g X c n->fa W c->∀ρ e,TE g X c ρ (bG e c) (v ρ e)/\TB g X c ρ (iq e c (bG e c)) (w ρ e)):
  TE g x env ρ (bG (.ListComp T G W M) env) (jv bg N p W first v w T G ρ):=by
 intro α σ s a af I dm R e Q E dp he;obtain⟨r,rfl⟩:=Pu e;refine P_ bg F y K k h α σ s r af I dm R e Q E aa λ acc C own ei lx aA f m V fresh st j A ok D P=>⟨m,D,λ kI l=>?_⟩;obtain t:=Y_ (fV j.bM.length.symm);obtain xm:=aG.cut (h':=ei) (L (ea ..) j) y.ok.cY (ax t.symm ok)
  (λ b u=>⟨λ q=>aR (I.nz (bL _ q)) (er.mpr (fresh b u)),λ q=>j.c8 b q (bL _ u)⟩) (λ b q=>l.2 b λ z=>q (L z V)) (fV l.1.symm)
 apply dp acc r kI lx aA rfl (st.one (fresh C V) l) (ax t xm) P;induction r with|aH i=>exact A|d d=>exact aV.mono A λ b o e nb=>⟨Y (l.2 b λ z=>nb (L z (bL _ (bL _ V)))) e,λ q=>nb ((bB.mp q).elim (λ q=>bL _ (aW _ q)) (aW _))⟩abbrev qj(g:bX)(x:bD)(env:cn)(ρ:az)(e:aJ)(o:Ev V×Ev aF):Prop:=TE g x env ρ (bG e env) o.1/\TB g x env ρ (iq e env (bG e env)) o.2
theorem qk(h:b=S->qj g x env ρ e o):qj g x env ρ e (i2 b o):=by induction b with|false=>exact⟨.au,.au⟩|true=>exact h rfl
theorem PZ{α:Type}{k:U α}{f:α->Ev V×Ev aF}(h:∀a,k=B a->qj g x env ρ e (f a)):qj g x env ρ e (Ho k f):=by induction k with|none=>exact⟨.au,.au⟩|some a=>exact h a rfl
theorem i3(y:cU g x env n)(h:TE g x env ρ (bG e env) m)(z:iq e env (bG e env)=(do let v<-bG e env;dZ e.pos;d_ [v] (tw v))):qj g x env ρ e (hr m):=⟨h,acK y z h⟩
theorem f7(K:gP g c n):∀(N:J)(j:bW)(ρ:az)(e:aJ)(x:bD)(env:cn),cU g x env n->fa j env->qj g x env ρ e (ba c N j ρ e)
 |0,_,_,_,_,_,_,_=>⟨.au,.au⟩
 |N+1,j,ρ,e,x,env,y,cM=>by
  have uM:=f7 K N;have i:=λ e=>(uM j ρ e x env y cM).1;have it:=λ e=>(uM j ρ e x env y cM).2;have d:=bQ.evalEach _ i;have m:∀e,qj g x env ρ e sa:=λ e=>⟨.au,.au⟩;cases e with
  |Constant k z p=>exact i3 y (L (Yx ..) ((ace k).pre λ w w p=>⟨p,trivial⟩)) rfl|Name nm p=>exact i3 y ((acf K.G cM p).pre λ w w p=>⟨p,trivial⟩) rfl|BinOp l op r p=>exact i3 y (Ga y (i l) (i r)) rfl
  |UnaryOp op a p=>
   exact match op with
   |.Not=>⟨Az y (i a),ag.Oa (it a) λ u u u u=>aM _⟩|.Invert=>i3 y (Az y (i a)) rfl|.UAdd=>i3 y (Az y (i a)) rfl|.USub=>i3 y (Az y (i a)) rfl
  |BoolOp op es p=>exact⟨acF y (d es),acN y (bQ.tests _ it es)⟩|Compare l ops es p=>exact qk λ h=>⟨acI y h (i l) (d es),acL y h (i l) (d es)⟩|IfExp t a b p=>exact⟨Ol y (it t) (i a) (i b),Oj y (it t) (it a) (it b)⟩|Tuple es k p=>exact qk λ h=>i3 y (acS y h (d es)) rfl|List es p=>exact qk λ h=>i3 y (acR y _ h (d es)) rfl
  |Subscript v s p=>
   have gen:p7 s=S->qj g x env ρ (.Subscript v s p) (hr ((ba c N j ρ v).1.bind λ a=>(ba c N j ρ s).1.bind λ b=>c.item a b)):=λ hsl=>i3 y (Ot .. ▸
     ag.cv y (i v) λ Hu a=>ag.hk y (y.hn Hu a) (i s).holding λ u b=>ag.standAt ((K.item x y.ok Hu a u b v s hsl).pre λ w w p=>⟨p.1.2,p.2⟩)) rfl
   exact acW (λ lo dk st q e=>L e (i3 y (ac7 y (i v) (h2.evalOpt _ i lo) (h2.evalOpt _ i dk) (h2.evalOpt _ i st)) rfl)) gen
  |ListComp elt G Hv p=>
   exact match G with
   |[]=>m _
   |ql::o8=>qk λ cL=>i3 y (P8 _ (K.loops cL) y cM
     (match ql with|.mk .. =>i _) λ h5 aeL xK sk' ar oz=>uM Hv ar oz h5 aeL xK sk') rfl
  |Attribute o nm p=>exact qk λ h=>i3 y ((by
    simp only[arm_eval_Attribute,Hs h];exact ag.cv y (i o) λ v a=>ag.standAt λ α σ s out af I dm p e Q E dp he=>(aB (ag.holding (K.attr x y.ok v a nm) α σ s out af I dm p.2 e _ _ (λ r p9 h' el aA dw st eX j2 dh=>aB (wpAny_letTemporaryGo (bl (dp r p9 h' el aA dw st eX j2 dh)))) he)))) rfl
  |Dict keys V p=>
   exact PZ λ ks hk=>qk λ ju=>
    have X:=bo ju;have D:=bo X.2
    i3 y (aeM y hk (d V) (dE X.1) (cg.mp D.1) (b8 D.2)) rfl
  |Call f args R p=>
   refine qk λ h=>PZ λ T hk=>?_;have fs:=PY p env R T hk;have a1:backTo p (starEach args env)=(iQ args env).map λ t=>(aj,t):=L (ud args env h) (L (ue ..) rfl);have P9:=fs.2.2▸bQ.qh p _ i R;refine mu (λ nm q e=>?_) (acV (λ o nm q e=>?_) (m _))<;>subst e
   ·skip
    refine i3 y ?_ rfl;simp[aos,a1,fs.1];exact ag.cv y (i _) λ v a=>by
     obtain this:=aeJ K y (d args) P9
     rwa [fs.2.1]at this
   ·skip
    refine qk λ nF=>?_;obtain X:=bo nF;obtain D:=bo X.2;cases d1:uL nm args R with
    |some ab=>exact i3 y (aeN y y.base d1 (Hs X.1 nm _) D.2 (i o)) rfl
    |none=>
     refine i3 y ?_ rfl;simp[arm_eval_Call,Hs X.1,a1,fs.1];exact ag.cv y (i o) λ v a=>ag.standAt (by
      obtain this:=aeK K y (d args) P9 (cg.mp D.1) D.2
      rwa [fs.2.1]at this)
  |_=>exact m _
theorem bt.Hi(G:cb x.F x.P)(y:cb x.W x.P)(q:Quiet x env)(I:aG g x α σ h)(st:a_ x.F x.W α h aA h')(fresh:∀b∈N,h.objs.size<=b)(R:bt g x env ρ α h):bt g (fJ x N) env ρ aA h':=by
 have K:fX h h' _ _:=λ b o e nb=>by
  refine cq (st.outer G y b o e nb) λ W j=>(⟨W,λ q=>?_⟩);rcases bB.mp q with q|q
  ·rcases bB.mp q with q|q
   ·exact aR (dI e) (er.mpr (fresh b q))
   ·exact j (bL _ q)
  ·exact j (aW _ q)
 have T:∃β,aA=α++β:=av st.ext λ β e w=>⟨β,e⟩;have E:=λ a d z=>I.c8 a z d;refine⟨R.fv,R.gl,R.cc,aW _ R.fK,?_,?_,R.ap⟩
 ·refine av R.ns λ m f P=>t8 f λ o es Q i l r=>?_
  obtain⟨A,e⟩:=st.slot _ _ i q.1 (E _ R.fK);exact⟨m,(e_ _ es Q ⟨e,l,r⟩),λ n v k C=>av (P n v k C) λ u X p=>⟨u,X,p.mono K T⟩⟩
 ·refine λ n V=>R.jX V λ c D W j s F M ei=>av M λ o i l=>?_
  obtain⟨A,e⟩:=st.slot _ _ i (q.2 n c V W) (E _ j);exact⟨c,W,aW _ j,s,F,D,⟨_,e,l⟩,λ v k=>av (ei v k) λ u X p=>⟨u,X,p.mono K T⟩⟩
theorem bt.aeW(R:bt g (fJ x N) env ρ α h)(l:bt g x env ck s P)(d:hU C h h')(V:C∈N)(y:∀b∈N,b∉x.P):bt g x env ρ α h':=by
 have same:=λ b a=>d.2 b λ q=>y C V (q▸a);have K:fX h h' ((N++x.P)++α) (x.P++α):=λ b o e nb=>by simp only[bB,rj]at nb ⊢;exact⟨Y (d.2 b λ q=>nb.1.1 (L q V)) e,nb.1.2,nb.2⟩
 refine⟨R.fv,R.gl,R.cc,l.fK,av R.ns λ m W f=>t8 W λ o es j i E r=>(⟨m,(e_ _ es j ⟨Y (same _ l.fK) i,E,r⟩),λ n v k T=>av (f n v k T) λ u X p=>⟨u,X,p.mono K eV⟩⟩),λ n A=>R.jX A λ c G D z t I M ei=>av M λ o i E=>gF (l.lj n A) λ en F Q w=>?_,R.ap⟩;rw[D]at F;obtain rfl:=ak F;exact⟨c,D,Q,t,I,G,⟨_,Y (same _ Q) i,E⟩,λ v k=>av (ei v k) λ u X p=>⟨u,X,p.mono K eV⟩⟩
theorem Qj(c:dq g x s env n o)(V:Ze e (B (.Name nm p)) W.line env=pure aj)(h:TE g x env ρ (bG e env) m):c9 g x o env ρ (fF (.Assign [.Name nm p] e W) env) (fb s nm m ρ):=by
 unfold fb;cases es:dU s nm with
 |false=>exact .au
 |true=>
  obtain E:fF (.Assign [.Name nm p] e W) env=(dZ W>>=λ u=>bG e env>>=λ v=>(dZ p>>=λ u=>pK env nm v)>>=λ u=>pure ri):=by
   dsimp only[Lr];obtain this:tD [.Name nm p] e W.line env=pure false:=by exact V
   refine L this ?_;congr 1
  refine L E (ag.standAt ((ag.lift c h).bind λ v a=>?_));have k:ag g _ _ (Be g x _ env)
    ((dZ p>>=λ u=>pK env nm v)>>=λ u=>pure ri) ((Ev.ret _).bind λ u=>.ret (f6.next,(nm,a)::ρ)):=
   (ag.standAt ((r0 c.h4 c.w (oS c.cM es)))).bind λ u u=>ag.pure λ u u p=>⟨trivial,p⟩
  exact k
theorem aeX(bg:aF)(da:0<n)(c:dq g x sc env n A)
  (i:TE g x env ρ (Lx G env) first)
  (h:∀(h5:bD)(T:cn),cU g h5 T n->fa X T->∀ρ e,TE g h5 T ρ (bG e T) (iE ρ e)/\TB g h5 T ρ (iq e T (bG e T)) (h7 ρ e)):
  c9 g x A env ρ (fF (.Assign [.Name nm p] (.ListComp t G X q) d) env) (fb sc nm (jv bg N sc X first iE h7 t G ρ) ρ):=by
 generalize y:(env.blockKind==.function&&env.kindOf nm==B .local&&p.line==q.line&&!(X.names.any λ(n,k)=>n==nm&&(k==.local||k==.cell)))=b;obtain Qk:Ze (.ListComp t G X q) (B (.Name nm p)) d.line env=pure b:=y.symm▸rfl;induction b with
 |false=>exact Qj c Qk (P8 bg da c.y c.cM i h)|true=>
 unfold fb;cases es:dU sc nm with
 |false=>exact .au|true=>
 intro α σ s out af I dm R e Q E dp he;dsimp only[Ev.bind]at e;cases em:jv bg N sc X first iE h7 t G ρ σ with
 |none=>rw[em]at e;exact nn e|some z=>
 obtain⟨o,gO⟩:=z;rw[em]at e;refine a7 (Pu em) λ r HC=>?_;subst HC;cases e;simp only[Lr];obtain this:tD [.Name nm p] (.ListComp t G X q) d.line env=pure true:=by exact Qk
 refine L this ?_;show aO _ _ (dZ d>>=λ j=>(comprehension _ X env _ _ _ _ _>>=λ j=>pure _)>>=λ j=>pure ri) Q E s;refine aB (kq (aB (aB ?_)));have r4:=bt.dG R;have eX:=I.dG;refine P_ bg da c.y c.cM i h α σ s r af eX dm r4 em _ E _ λ acc C new ei lx aA f m hF fresh st V g9 ok Bp nI=>?_;have lh:∀b∈new,b∉x.P:=λ b y q=>aR (eX.nz (bL _ q)) (er.mpr (fresh b y));obtain kM:=bt.Hi c.y.ok.cY c.y.ok.ew c.y.q eX st fresh r4;obtain k:=ag.standAt (k:=λ j=>pK env nm acc) (r0 (λ b y=>aW _ (c.h4 b y):∀b∈(a3 (Internal.fJ x new) A).W,b∈(a3 _ A).P) c.w (oS c.cM es));refine k aA af _ _ af ⟨V.base,V.big,V.b2,V.alive,V.dv,V.c8,V.bM,V.fr,V.old⟩ nI ⟨⟨kM.fv,kM.gl,kM.cc,kM.fK,kM.ns,kM.lj,kM.ap⟩,g9⟩ rfl _ _ (gn.ok λ u kI A4 A5 v M xn a=>av v.ext λ β w34 Br=>?_) eC.ok;subst w34;have aeY:kI.Ns C m:=by exact oL Bp λ Ql nG c3 hoC qm=>((e_ Ql nG c3 ⟨v.same C Ql hoC (λ q=>lh C hF (c.y.ok.cY C q)) (λ q=>lh C hF (c.h4 C q)) (λ q=>V.c8 C q (bL _ hF)),qm⟩))
 refine⟨m,aeY,λ nO l=>bl (bl ?_)⟩;have l:hU C kI nO:=l;have len:=M.bM.length.symm;have D:=V.bM.length.symm;have aeZ:=by simp only[D,e2]at len;exact D2.mp (om (aot len))
 subst aeZ;rw[ea]at M a v;have HE:=by obtain k:=aG.cut (h':=kI) (h'':=nO) (L (ea ..) ⟨M.base,M.big,M.b2,M.alive,M.dv,M.c8,M.bM,M.fr,M.old⟩) c.y.ok.cY (by rw[<-D,ow];rw[D];exact ok) (λ b y=>⟨lh b y,λ q=>V.c8 b q (bL _ y)⟩) (λ b nb=>l.2 b λ q=>nb (L q hF)) (fV l.1.symm);rw[<-D,ow]at k;exact k
 obtain stF:a_ (a3 x A).F (a3 x A).W α s.heap aA nO:=by have a2:=(st.cF λ j q=>aW _ q).trans v;exact⟨bA a2.size (fV l.1.symm),a2.ext,λ b o e f w n=>Y (l.2 b λ q=>aR (dI e) (er.mpr (L q (fresh C hF)))) (a2.same b o e f w n),λ b o e w n=>a7 (a2.slot b o e w n) λ kB oz=>⟨kB,Y (l.2 b λ q=>aR (dI e) (er.mpr (L q (fresh C hF)))) oz⟩⟩
 exact dp .next _ nO A4 aA rfl stF HE.cF xn ⟨trivial,bt.cF ((⟨a.fv,a.gl,a.cc,a.fK,a.ns,a.lj,a.ap⟩:bt g (Internal.fJ x new) env _ aA kI).aeW r4 l hF lh)⟩noncomputable def HF{A:Type}(e:aJ)(f:aJ->ai->A)(z:A):A:=if h:e.ctorIdx=20 then zy e h λ o nm u=>f o nm else z
noncomputable def xP{A:Type}(e:aJ)(f:aJ->aJ->A)(z:A):A:=if h:e.ctorIdx=21 then Zi e h λ o i u=>f o i else z
noncomputable def Bt(e:aJ):Bool:=if h:e.ctorIdx=26 then Ed e h λ lo s st u=>lo.isNone&&(s.isNone&&st.isNone)else aj
theorem ae0{A:Type}{z:A}{P:A->Prop}{f:aJ->ai->A}(k:∀o nm p,e=.Attribute o nm p->P (f o nm))(K:P z):P (HF e f z):=by
 by_cases h:e.ctorIdx=20
 ·exact zy (motive_1:=λ E=>e=E->P (HF E f z)) e h k rfl
 ·exact(aM P (jb h)).mpr K
theorem HG{A:Type}{z:A}{P:A->Prop}{f:aJ->aJ->A}(k:∀o i p,e=.Subscript o i p->P (f o i))(K:P z):P (xP e f z):=by
 by_cases h:e.ctorIdx=21
 ·exact Zi (motive_1:=λ E=>e=E->P (xP E f z)) e h k rfl
 ·exact(aM P (jb h)).mpr K
theorem ae1(q:Bt e=S){G:Prop}(k:∀p,e=.Slice aa aa aa p->G):G:=by
 by_cases h:e.ctorIdx=26
 ·exact Ed (motive_1:=λ E=>e=E->Bt E=S->G) e h (λ lo s st p q h=>by
   have h:=h;have W:=bo h;have j:=bo W.2;exact k p (L q (L (zm.mp W.1) (L (zm.mp j.1) (L (zm.mp j.2) rfl))))) rfl q
 ·exact bw ((jb h).symm.trans q)
def sb(c:Cfg)(N:J)(s:bW)(ρ:az)(t:aJ)(a:V):Ev az:=hZ t (λ n=>match dU s n with|true=>.ret ((n,a)::ρ)|false=>.au) (HF t (λ o nm=>(ba c N s ρ o).1.bind λ l=>(c.setattr l nm a).bind λ u=>.ret ρ)
 (xP t (λ o i=>match p7 i with
   |true=>(ba c N s ρ o).1.bind λ l=>(ba c N s ρ i).1.bind λ I=>(c.set l I a).bind λ u=>.ret ρ
   |false=>match Bt i with
    |true=>(ba c N s ρ o).1.bind λ l=>(c.o7 l a).bind λ u=>.ret ρ|false=>.au) .au))def qn(c:Cfg)(N:J)(s:bW)(l:H aJ):H V->az->Ev az:=l.rec (λ as ρ=>match as with|[]=>.ret ρ|_::_=>.au) λ t u I as ρ=>match as with|a::as=>(sb c N s ρ t a).bind λ ar=>I as ar|[]=>.au
theorem ag.Qm(c:dq g x v env n o){K:H ao->aX->Prop}{post:H ao->aX->w->a->Prop}(h:ag g x (λ α h=>bp g x env ρ α h/\K α h) post t m):
  ag g (a3 x o) (λ α h=>bp g (a3 x o) env ρ α h/\K α h) (λ α h b r=>bp g (a3 x o) env ρ α h/\post α h b r) t m:=by
 intro α σ s f af I D p e Q E G y;refine h α σ s f af I.dG D ⟨bt.dG p.1,p.2⟩ e Q E (λ b r h' C aA i st F T P=>G b r h' C aA i (st.cF λ u q=>aW _ q) F.cF T ⟨c.r9 I st p.1,P⟩) λ z cl as h' C aA i st T X=>y z cl as h' C aA i (st.cF λ u q=>aW _ q) T X.cF
theorem Qn(K:gP g c n)(N:J)(y:cU g x env n)(C:fa q env){v:aq}(dk:p7 i=S):
  ag g x (λ α h=>bp g x env ρ α h/\a9 (x.P++α) α h v a) (λ u u u u=>True) (l1 (.Subscript o i W) env v) ((ba c N q ρ o).1.bind λ l=>(ba c N q ρ i).1.bind λ t=>c.set l t a):=by
 have z:=λ e=>(f7 K N q ρ e x env y C).1;refine ag.hk y (y.hn v a) (z o).holding λ R l=>(ag.pre (ag.hk y (Gc (y.hn v a) (y.hn R l)) (z i).holding λ m t=>ag.standAt ?_) λ u u p=>⟨p.1.1,p.1.2,p.2⟩);have k:=(ag.holding (vs:=[v,R,m]) (K.set x y.ok R l m t v a)).pre (pre':=λ α h=>(bp g x env ρ α h/\a9 _ α h v a/\a9 _ α h R l)/\a9 _ α h m t) λ u u p=>⟨p.1.2.2,p.2,p.1.2.1⟩;intro α σ s f af I D p e Q E G b;exact aB (k α σ s f af I D p e _ _ (λ r X h' F aA w st d P dh=>zw (G _ X h' F aA w st d P trivial)) b)
theorem ae2(K:gP g c n)(N:J)(y:cU g x env n)(D:fa w env){v:aq} :
  ag g x (λ α h=>bp g x env ρ α h/\a9 (x.P++α) α h v a) (λ u u u u=>True) (l1 (.Subscript o (.Slice aa aa aa q) P) env v) ((ba c N w ρ o).1.bind λ l=>c.o7 l a):=by
 refine ag.hk y (y.hn v a) ((λ e=>(f7 K N w ρ e x env y D).1) o).holding λ R l=>?_;intro α σ s f af I F p e Q E G z;refine aB (dT (aB (bl (aB (dT (bl (aB (dT (bl (kx (aB (kq ?_)) (by show 3<=ku+2;decide)))))))))));obtain k:=λ b V=>dy _;obtain t:a_ x.F x.W α s.heap α (s.heap.push {cls:=.type "slice",dict:=aa,data:=.fields [jO,jO,jO].toArray}):=.push ..;exact aB (dT ((K.o7 x y.ok R l v a s.heap.objs.size) α σ (cT s (s.heap.push {cls:=.type "slice",dict:=aa,data:=.fields [jO,jO,jO].toArray}) s.toks) f af (I.keeps k (L (et ..) (hg _))) F ⟨p.2.mono (λ b V e n=>⟨k b V e,n⟩) eV,p.1.2.mono (λ b V e n=>⟨k b V e,n⟩) eV,.new ..⟩ e _ _ (λ r X h' C aA i st M T W=>zw (G _ X h' C aA i (t.trans st) M T trivial)) λ d cl as h' C aA i st T m=>z d cl as h' C aA i (t.trans st) T (m.low t.size)))
theorem ae3(K:gP g c n)(N:J)(y:cU g x env n)(C:fa q env){v:aq} :
  ag g x (λ α h=>bp g x env ρ α h/\a9 (x.P++α) α h v a) (λ u u u u=>True) (l1 (.Attribute o nm P) env v) ((ba c N q ρ o).1.bind λ l=>c.setattr l nm a):=by
 refine ag.hk y (y.hn v a) ((λ e=>(f7 K N q ρ e x env y C).1) o).holding λ R l=>ag.standAt ?_;have k:=(ag.holding (vs:=[v,R]) (K.setattr x y.ok R l nm v a)).pre (pre':=λ α h=>(bp g x env ρ α h/\a9 _ α h v a)/\a9 _ α h R l) λ u u p=>⟨p.2,p.1.2⟩;intro α σ s f af I T p e Q E G z;exact aB (k α σ s f af I T p e _ _ (λ r X h' D aA i st F t m=>zw (G _ X h' D aA i st F t trivial)) z)theorem Ev.assoc{e p r:Type}(m:Ev e)(k:e->Ev p)(l:p->Ev r):(m.bind k).bind l=m.bind λ a=>(k a).bind l:=by funext σ;dsimp only[Ev.bind];induction m σ with|none=>rfl|some q=>obtain⟨o,V⟩:=q;induction o<;>rfl
theorem Qo(C:dq g x w env n W)(K:gP g c n)(N:J)(t:aJ):
  ag g (a3 x W) (λ α h=>bp g (a3 x W) env ρ α h/\a9 (x.P++α) α h v a) (λ α h u ar=>bp g (a3 x W) env ar α h) (l1 t env v) (sb c N w ρ t a):=by
 have l:∀{t:bj gL}{m:Ev gL},ag g x (λ α h=>bp g x env ρ α h/\a9 (x.P++α) α h v a) (λ u u u u=>True) t m->
   ag g (a3 x W) (λ α h=>bp g (a3 x W) env ρ α h/\a9 (x.P++α) α h v a) (λ α h u ar=>bp g (a3 x W) env ar α h) t (m.bind λ u=>.ret ρ):=by
  intro t m h;obtain k:=(ag.Qm C h).bind (post:=λ α h u ar=>bp g _ env ar α h) λ u u=>ag.pure λ u u p=>p.1;rw[bind_pure_unit]at k;exact k
 refine mu (λ nm p q=>?_) (ae0 (λ o nm p q=>?_) (HG (λ o i p q=>?_) .au))<;>refine L q ?_
 ·cases es:dU w nm with|false=>exact .au|true=>apply ag.standAt;intro α σ s j af I T p e Q E G y;cases e;exact r0 C.h4 C.w (oS C.cM es) α σ s _ σ I T p rfl Q E (λ b r h' D aA V=>G b _ h' D aA rfl) eC.ok
 ·obtain k:=l (ae3 K N C.y C.cM)
  rw[Ev.assoc]at k;exact k
 ·cases d:p7 i with|true=>obtain k:=l (Qn K N C.y C.cM d);simp[Ev.assoc]at k;exact k|false=>cases R:Bt i with|false=>exact .au|true=>refine ae1 R λ q e=>L e ?_;obtain k:=l (ae2 K N C.y C.cM);simp[Ev.assoc]at k;exact k
theorem HH(h:fM t=S)(ay:H aJ):ov (t::ay) env=(aj,l1 t env)::ov ay env:=by
 rcases t with⟨_,_,_⟩|⟨_,_,_⟩|⟨_,_,_,_⟩|⟨_,_,_⟩|⟨_,_,_,_⟩|⟨_,_,_,_⟩|⟨_,_,_⟩|⟨_,_,_⟩|⟨_,_,_,_⟩|⟨_,_,_,_⟩|⟨_,_,_,_,_⟩|⟨_,_,_,_⟩|⟨_,_⟩|⟨_,_⟩|⟨_,_⟩|⟨_,_,_,_⟩|⟨_,_,_,_⟩|⟨_,_,_,_⟩|⟨_,_⟩|⟨_,_,_⟩|⟨_,_,_⟩|⟨_,_,_⟩|⟨_,_⟩|⟨_,_⟩|⟨_,_⟩|⟨_,_,_⟩|⟨_,_,_,_⟩;case Starred=>exact bw h
 all_goals rfl
theorem ae4(h:es.all fM=S):O (ov es env)=O es/\(ov es env).findIdx? (·.1)=none:=by induction es with|nil=>exact⟨rfl,rfl⟩|cons t es i=>obtain h:=bo h;obtain i:=i h.2;exact L (HH h.1 es) ⟨aM i9 i.1,L aoo (L i.2 rfl)⟩
theorem Qp(C:dq g x q env n o)(K:gP g c n)(N:J)(ay:H aJ):∀(vs:H aq)(as:H V)(ρ:az),ay.all fM=S->
  ag g (a3 x o) (λ α h=>bp g (a3 x o) env ρ α h/\bU (x.P++α) α h vs as) (λ α h u ar=>bp g (a3 x o) env ar α h) (Ll ((ov ay env).map (·.2)) vs) (qn c N q ay as ρ):=by
 induction ay with
 |nil=>
  intro vs as ρ u;induction as with
  |nil=>exact ag.pure λ u u p=>p.1|cons=>exact .au
 |cons t ay i=>
  intro vs as ρ h;cases as with
  |nil=>exact .au|cons a as=>
  induction vs with|nil=>exact λ α σ s f af I T p=>p.2.bad|cons v vs=>obtain h:=bo h;rw[HH h.1];exact((ag.frame (Qo C K N t) (wZ (x:=a3 x o) C.y.ok.cY C.h4 vs as)).pre λ α h p=>⟨⟨p.1,p.2.both.1⟩,p.2.both.2⟩).holding.bind λ u ar=>i vs as ar h.2
noncomputable def nameIn(k:ai->aF)(l:J)(e:aJ):U Str:=PySem.swappedStores.match_8 (λ u=>U ai) e (λ id p=>if (k id&&p.line==l)=S then B id else aa) λ u=>aa
def Qq(k:ai->aF)(ay vs:H aJ):U (U (H ai)):=
 if (!(O ay==2||List.length ay==3)||List.length vs !=O ay)=S then B aa
 else if (vs.any λ e=>PySem.swappedStores.match_5 (λ u=>aF) e (λ u v=>S) λ u=>aj)=S then B aa
 else
  let n:=ay.filterMap (nameIn k ((ay.head?.map (·.pos.line)).getD 0))
  if (O n !=O ay||List.length n.eraseDups !=O n)=S then B aa
  else if vs.all (foldedForSure 8)=S then B aa
  else if vs.all (constantsAlone 8)=S then aa
  else B (B n)def Bu(s:bW):H aJ->H aJ->U (U (H ai)):=Qq λ id=>s.names.lookup id==B .local
def gQ(b:aF)(m:cy):cy:=match b with|true=>m|false=>.au
def sd{A:Type}(o:U A)(f:A->cy):cy:=match o with|some a=>f a|none=>.au
def Bv(v:V)(f:D->cy):cy:=match v with|.d d=>f d|.aH _=>.au
def uN(e:aJ):U (H aJ):=rU e B aa
def lB(m:Ev az):cy:=m.bind λ ar=>.ret (.next,ar)
def se(c:Cfg)(N:J)(s:bW)(ay vs:H aJ)(ρ:az):cy:=gQ (vs.all fM&&(bE (O vs) 100&&aL (O ay) (O vs))) (sd (Bu s ay vs) λ w=>match w with
 |none=>(cE (vs.map λ e=>(ba c N s ρ e).1)).bind λ as=>lB (qn c N s ay as ρ)|some n=>gQ (n.all (dU s)) ((cE (vs.map λ e=>(ba c N s ρ e).1)).bind λ as=>.ret (.next,(n.reverse.zip as.reverse).reverse++ρ)))def Qr(c:Cfg)(N:J)(s:bW)(ay:H aJ)(m:Ev V)(ρ:az):cy:=m.bind λ a=>Bv a λ d=>lB ((Ev.of (hE d (O ay))).bind λ ds=>qn c N s ay (ds.map V.d) ρ)
def xQ(c:Cfg)(N:J)(s:bW)(t e:aJ)(ρ:az):cy:=rU t (λ ay=>gQ (ay.all fM&&c.loops) (match uN e with
  |some vs=>se c N s ay vs ρ|none=>Qr c N s ay (ba c N s ρ e).1 ρ))
 (hZ t (λ nm=>fb s nm (ba c N s ρ e).1 ρ) (gQ (aL t.ctorIdx 20||Nat.beq t.ctorIdx 21) ((ba c N s ρ e).1.bind λ a=>lB (sb c N s ρ t a))))
theorem Qs(s:fa p env)(id:ai):(env.kindOf id==B .local)=(p.names.lookup id==B .local):=by
 rcases s id with e|⟨E,f⟩
 ·rw[e]
 ·rw[E,f];rfl
theorem Bw{A Bq:Type}{c:aF}{f:A->Bq}{a r:A}{X:U A}{Yq:Bq}(e:(if c=S then B a else X)=B r)(k:X=B r->Yq=f r):(if c=S then f a else Yq)=f r:=match c,e,k with|true,e,_=>aM f (ak e)|false,e,k=>k e
theorem ae5{A Bq:Type}{f:A->Bq}{a b r:A}{z:Bq}(e:(if C=S then B a else if d=S then B a else if q=S then B a else if mD=S then B a else if c=S then aa else B b)=B r):
  (if C=S then f a else if d=S then f a else if q=S then f a else if mD=S then f a else if c=S then z else f b)=f r:=
 Bw e λ e=>Bw e λ e=>Bw e λ e=>Bw e λ e=>by induction c with|false=>exact aM f (ak e)|true=>exact nn e
theorem ae6(e:Bu s ay vs=B (B N)):O N=O ay:=by
 obtain k:∀{c C r A l:aF}{n:H ai},(if c=S then B aa else if C=S then B aa else if (O n !=O ay||r)=S then B aa else if A=S then B aa else if l=S then aa else B (B n))=B (B N)->O N=O ay:=λ{c C r A l n} e=>by
  induction c with
  |true=>exact nn (ak e)|false=>
  induction C with
  |true=>exact nn (ak e)|false=>
  cases h:(O n !=O ay||r)with
  |true=>rw[h]at e;exact nn (ak e)|false=>
  rw[h]at e;induction A with
  |true=>exact nn (ak e)|false=>
  induction l with
  |true=>exact nn e|false=>
  exact(ak (ak e))▸aou λ q=>by rw[bne_iff_ne.mpr q]at h;exact y5 h
 exact k e
theorem ae7(s:fa q env)(h:env.scope.kind=.function)(e:Bu q ay vs=B r):zK [.Tuple ay k p] (.Tuple vs cH HI) env=pure r:=by refine Y ?_ (ae5 (z:=DS "assign.tuple-of-constant-expressions:order-of-the-stores") (L (funext (Qs s)) e:Qq (λ id=>env.kindOf id==B .local) ay vs=B r));unfold zK;dsimp only;refine L (show env.blockKind=.function by unfold Env.blockKind;rw[h];rfl) (L (show _=aj from rfl) (L (Ly ..) ?_));rfl
theorem ae8(c:dq g x q env n o)(N:H ai):∀(vs:H aq)(as:H V)(ρ:az),N.all (dU q)=S->O N=O as->
  ag g (a3 x o) (λ α h=>bp g (a3 x o) env ρ α h/\bU (x.P++α) α h vs as) (λ α h u u=>bp g (a3 x o) env ((N.zip as).reverse++ρ) α h) (Ll (N.map λ n=>pK env n) vs) (.ret ()):=by
 induction N with
 |nil=>
  intro vs as ρ u z;induction as with
  |nil=>exact ag.pure λ u u p=>p.1|cons=>exact nomatch z
 |cons nm N i=>
  intro vs as ρ h z;cases as with
  |nil=>exact nomatch z
  |cons a as=>
  induction vs with|nil=>exact λ α σ s f af I t p=>p.2.bad|cons v vs=>have h:=bo h;exact L (show(((nm::N).zip _).reverse++ρ)=(N.zip as).reverse++((nm,a)::ρ) by simp only[List.zip_cons_cons,D3,eb];rfl) (((ag.frame (r0 c.h4 c.w (oS c.cM h.1)) (wZ (x:=a3 x o) c.y.ok.cY c.h4 vs as)).pre λ α h p=>⟨⟨p.1,p.2.both.1⟩,p.2.both.2⟩).holding.bind λ u u=>i vs as _ h.2 (Nat.add_right_cancel z))theorem bU.rev(r:bU X α h vs as):bU X α h vs.reverse as.reverse:=by induction vs generalizing as with|nil=>cases r;exact .nil|cons v vs i=>cases r with|cons a r=>simp[D3];exact(i r).append (.cons a .nil)def Qt(x:bD)(n:J)(α:H ao)(h:aX)(v:aq)(as:H V):Prop:=∃T P,v=.ref T/\IsT h T P/\O P=n/\bU (x.P++α) α h P as
theorem ae9(y:cU g x env n)(c:es.all fM=S)(d:es.length<100)(h:bQ (TE g x env ρ) (iQ es env) ms):
  ag g x (bp g x env ρ) (Qt x (O es)) (bG (.Tuple es k p) env) (cE ms):=by
 simp[arm_eval_Tuple,ud es env c,ue];apply ag.standAt;intro α σ s o af I D R e Q E G z;obtain q:=by
  have:∀es:H aJ,O (iQ es env)=O es:=λ es=>by induction es with|nil=>rfl|cons e es i=>show O _+1=_;rw[i];rfl
  exact this es
 obtain t:=by exact q▸h.length.symm
 obtain r:∀{ms:H _}{σ af:aE}{as:H V},cE ms σ=B (.ok as,af)->O as=O ms:=by intro ms;induction ms with|nil=>intro σ af as e;cases e;rfl|cons m ms i=>intro σ af as e;refine eM (Ev.aT e) λ a X u f=>(eM (Ev.aT f) λ bs j v F=>?_);cases F;exact zj.mpr (i v)
 refine aB ((uc y h) α σ s o af I D R e _ E (λ vs as h' C aA N st w T P=>?_) z);subst N;obtain l:O vs=O es:=L P.length (L (r e) (L t rfl));refine kx ?_ (by show vs.toArray.size<=ku;simp[hT,l,vZ];lia);obtain K:=λ b W=>dy _;exact G _ as _ C aA rfl (st.trans (.push ..)) (w.keeps K (L (et ..) (hg _))) T (bh _ vs ⟨rfl,⟨0,d0 _ rfl⟩,l,P.mono (λ b W e n=>⟨K b W e,n⟩) eV⟩)theorem xR(h:tD [t] e p.line env=pure aj):fF (.Assign [t] e p) env=(dZ p>>=λ u=>bG e env>>=λ v=>zK [t] e env>>=λ w=>assignStores env v w ((ov [t] env).map (·.2))):=by simp only[Lr,h];rfl
theorem Bx(h:(!(aL t.ctorIdx 23))=S)(l:J):tD [t] e l env=pure false:=by
 by_cases A:qg e=S
 ·exact xw A _ _
 ·cases e with
  |ListComp=>rcases t with _|_<;>first|exact rfl (a:=pure aj)|exact bw h
  |SetComp=>rcases t with _|_<;>first|exact rfl (a:=pure aj)|exact bw h
  |DictComp=>rcases t with _|_<;>first|exact rfl (a:=pure aj)|exact bw h
  |_=>exact aR rfl A
theorem j6(h:b=S->c9 g x o env ρ t m):c9 g x o env ρ t (gQ b m):=match b,h with|false,_=>.au|true,h=>h rfl
theorem HJ{A:Type}{o:U A}{f:A->cy}(h:∀a,o=B a->c9 g x W env ρ t (f a)):c9 g x W env ρ t (sd o f):=match o,h with|none,_=>.au|some a,h=>h a rfl
theorem ae_(h:uN e=aa)(ay:H aJ)(k:J)(p:cP):zK [.Tuple ay k p] e env=pure none:=by cases e with|Tuple=>exact aR h nofun|_=>exact rfl (a:=pure aa)theorem xS:c9 g x o env ρ t (fb s nm .au ρ):=by unfold fb;cases dU s nm<;>exact .au
theorem afa{b:aF}{o:Ev V×Ev aF}(h:b=S->c9 g x W env ρ t (fb s nm o.1 ρ)):c9 g x W env ρ t (fb s nm (i2 b o).1 ρ):=match b,h with|false,_=>xS|true,h=>h rfl
theorem afb(C:dq g x s env n o)(K:gP g c n)(nm:ai)(p:cP)(e:aJ)(P:cP):∀N,c9 g x o env ρ (fF (.Assign [.Name nm p] e P) env) (fb s nm (ba c N s ρ e).1 ρ)
 |0=>xS
 |N+1=>by
  obtain gen:qg e=S->c9 g x o env ρ (fF (.Assign [.Name nm p] e P) env) (fb s nm (ba c (N+1) s ρ e).1 ρ):=λ A=>Qj C (xw A ..) (f7 K _ s ρ e x env C.y C.cM).1;rcases e with⟨_,_,_⟩|⟨_,_,_⟩|⟨_,_,_,_⟩|⟨_,_,_⟩|⟨_,_,_,_⟩|⟨_,_,_,_⟩|⟨_,_,_⟩|⟨_,_,_⟩|⟨E,G,W,q⟩|⟨_,_,_,_⟩|⟨_,_,_,_,_⟩|⟨_,_,_,_⟩|⟨_,_⟩|⟨_,_⟩|⟨_,_⟩|⟨_,_,_,_⟩|⟨_,_,_,_⟩|⟨_,_,_,_⟩|⟨_,_⟩|⟨_,_,_⟩|⟨_,_,_⟩|⟨_,_,_⟩|⟨_,_⟩|⟨_,_⟩|⟨_,_⟩|⟨_,_,_⟩|⟨_,_,_,_⟩
  case ListComp=>
   exact match G with
   |[]=>xS
   |X::b=>afa λ h=>aeX _ (K.loops h) C
     (match X with|.mk .. =>(f7 K N s ρ _ x env C.y C.cM).1) λ I m y i ar j=>f7 K N W ar j I m y i
  case SetComp=>exact xS
  case DictComp=>exact xS
  all_goals exact gen rfl
theorem HK{t:bj gL}(h:ag g (a3 x o) pre (λ α h u ar=>bp g (a3 x o) env ar α h) t m):
  ag g (a3 x o) pre (Be g x (a3 x o) env) (t>>=λ u=>pure ri) (lB m):=h.bind λ u u=>ag.pure λ u u p=>⟨trivial,p⟩theorem Qu(h:ay.all fM=S):l1 (.Tuple ay k p) env v=(dZ p>>=λ u=>d_ [v] (zD v (O ay) aa)>>=λ P=>Ll ((ov ay env).map (·.2)) P):=by obtain l:=ae4 h;simp[arm_assign_Tuple];unfold unpack;exact L l.1 (L l.2 rfl)
theorem Qv(c:dq g x w env n o)(W:0<n):ag g (a3 x o) (λ α h=>bp g (a3 x o) env ρ α h/\Qt x k α h v as)
  (λ α h P (u:gL)=>(bp g (a3 x o) env ρ α h/\bU (x.P++α) α h P as)/\O P=k) (zD v k aa) (.ret ()):=by
 intro α σ s f af I t p e Q E G y;cases e;obtain⟨R,T,P,rfl,N,z,X⟩:=p;refine O6 (c.y.ok.handled W) N.iV z.symm λ h' K V=>?_;obtain st:a_ x.F x.W α s.heap α h':=.of_keeps K V;exact G P _ h' s.toks α rfl (st.cF λ u q=>aW _ q) (I.keeps K V) t ⟨⟨c.r9 I st R,X.mono (λ b A e n=>⟨K b A e,n⟩) eV⟩,z⟩theorem afc(C:dq g x r env n W)(K:gP g c n)(h:c.loops=S)(N:J)(y:ay.all fM=S):c9 g x W env ρ (fF (.Assign [.Tuple ay k p] (.Tuple vs Q HI) X) env) (se c N r ay vs ρ):=by refine j6 λ A=>HJ λ w z=>?_;obtain G:=bo A;obtain i:=bo G.2;have a:=dE i.2;have E:=ag.lift C (ae9 (k:=Q) (p:=HI) C.y G.1 (cg.mp i.1) (bQ.evalEach _ (λ e=>(f7 K N r ρ e x env C.y C.cM).1) vs));refine L (xR rfl) λ α σ s o af I T R=>L (ae7 C.cM R.fv z) ?_;revert α σ s o af I T R;induction w with|none=>refine ag.standAt (E.bind λ v as=>HK (t:=l1 _ env v) ?_);rw[Qu y,a];exact ag.standAt ((ag.holding (Qv C (K.loops h))).bind λ P u=>(Qp C K N ay P as ρ y).pre λ u u p=>p.1)|some j=>refine j6 λ D=>ag.standAt (E.bind λ v as=>ag.rule ?_);obtain f:=Y (ae6 z) a;exact L f ((Qv C (K.loops h)).bind λ P u=>ag.bind (λ α σ s o af I T q=>ae8 C j.reverse P.reverse as.reverse ρ (L List.all_reverse D) (by simp[aov,f,<-q.2,q.1.2.length]) α σ s o af I T ⟨q.1.1,q.1.2.rev⟩) λ u u=>ag.pure λ u u p=>⟨trivial,p⟩)theorem Qw(C:dq g x s env n o)(K:gP g c n)(N:J)(h:fM t=S)(W:zK [t] e env=pure aa)(j:tD [t] e P.line env=pure aj):c9 g x o env ρ (fF (.Assign [t] e P) env) ((ba c N s ρ e).1.bind λ a=>lB (sb c N s ρ t a)):=by rw[xR j,W,HH h];exact ag.standAt ((ag.lift C (f7 K N s ρ e x env C.y C.cM).1).bind λ v a=>HK (Qo C K N t))
theorem afd{t:aJ}(h:(aL t.ctorIdx 20||Nat.beq t.ctorIdx 21)=S){G:Prop}(k:∀o nm p,t=.Attribute o nm p->G)(K:∀o i p,t=.Subscript o i p->G):G:=
 ((lY ..).mp h).elim (λ h=>zy (motive_1:=λ e=>t=e->G) t (dE h) (λ o i p q=>k o i p q) rfl) λ h=>Zi (motive_1:=λ e=>t=e->G) t (dE h) K rfl
theorem Qx(C:dq g x s env n X)(K:gP g c n)(N:J)(t e:aJ)(W:cP):c9 g x X env ρ (fF (.Assign [t] e W) env) (xQ c N s t e ρ):=by
 refine w1 (λ ay k p q=>?_) (mu (λ nm p q=>?_) (j6 λ h=>afd h (λ o nm p q=>?_) λ o i p q=>?_))<;>refine L q ?_
 ·refine j6 λ R=>?_
  have R:=bo R;cases y:uN e with
  |none=>exact(by
    rw[xR (Bx rfl _),ae_ y];refine ag.standAt ((ag.lift C (f7 K N s ρ e x env C.y C.cM).1).bind λ v a=>?_);induction a with
    |aH u=>exact .au
    |d d=>
     exact HK (t:=l1 _ env v) (L (Qu R.1) (ag.standAt ((ag.Qm C ((O7 (C.y.ok.handled (K.loops R.2)) λ u u p=>p.2).post λ u u u u q=>q.1.vs).holding).bind λ vs ds=>Qp C K N ay vs _ ρ R.1))))
  |some vs=>refine f5 (w1 (P:=λ o=>o=B vs->∃k p,e=.Tuple vs k p) (λ es k p q y=>(bh k p (ax (ak y) q))) nn y) λ E V w=>?_;subst w;exact afc C K R.2 N R.1
 ·exact afb C K nm p e W N
 ·exact Qw C K N rfl rfl (Bx rfl _)
 ·exact Qw C K N rfl rfl (Bx rfl _)
theorem Qy(I:aG g x α σ h)(p:Heap.MadeExc h h' e cl vs)(P:h.objs.size<=h'.objs.size)(G:∀b,b<h.objs.size->h.get? b=aa->h'.get? b=aa)(R:bT (x.P++α) h vs as):
  ExcAt g x h.objs.size α σ h' e cl as:=by
 refine gF p.there λ t y i u=>?_;have f:∀b o,h.get? b=aa->h'.get? b=B o->h.objs.size<=b:=λ b o W j=>by refine zF λ l=>?_;rw[G b l W]at j;exact nn j
 have lo:∀b∈[e,t],h.objs.size<=b:=by
  intro b r;simp only[dM,dS,jQ]at r;rcases r with rfl|rfl
  ·exact f _ _ p.new y
  ·exact f _ _ i u
 obtain E:∀b∈[e,t],∃o,h'.get? b=B o:=by
  intro b r;simp only[dM,dS,jQ]at r;rcases r with rfl|rfl
  ·exact⟨_,y⟩
  ·exact⟨_,u⟩
 refine⟨[e,t],t,vs,lo,I.fJ lo E p.keeps P,cV,(aom rfl),λ b r q=>a7 (I.alive b q) λ o s=>aR (dI s) (er.mpr (lo b r)),R.mono λ b o s n=>⟨p.keeps b o s,λ q=>?_⟩,.inl ⟨y,u⟩⟩;rcases bB.mp q with q|q
 ·rcases bB.mp q with q|q
  ·exact aR (dI s) (er.mpr (lo b q))
  ·exact n (bL _ q)
 ·exact n (aW _ q)
structure afe(cls:b1):Prop where
 call:∃newId aff,ExcCallFacts cls newId aff
 raise:ExcRaiseFacts cls
 exc:∃N I,ExcClass cls N I
 self:Lz (.type cls) (.type cls)=pure S
noncomputable def nP:H String:=["ValueError","AssertionError","ZeroDivisionError"]
theorem Qz(h:nP.contains cls=S):afe cls:=by
 simp only[nP,Zj,Zk,Ly,lY,cI]at h;rcases h with rfl|rfl|rfl
 ·exact⟨(bh _ _ PySem.F.excCall_ValueError),PySem.F.excRaise_ValueError,(bh _ _ excClass_ValueError),by rw[wd];lk⟩
 ·exact⟨(bh _ _ PySem.F.excCall_AssertionError),PySem.F.excRaise_AssertionError,(bh _ _ excClass_AssertionError),by rw[wd];lk⟩
 ·exact⟨(bh _ _ PySem.F.excCall_ZeroDivisionError),PySem.F.excRaise_ZeroDivisionError,(bh _ _ excClass_ZeroDivisionError),by rw[wd];lk⟩
def HL(g:kE)(s:bW)(nm:ai)(k:b1->cy):cy:=gQ (!(nm==("__debug__" :ai))&&s.names.lookup nm==B .globalImplicit) (match g.lookup nm with
 |some d=>match d with
  |.ty T=>gQ (nP.contains T) (k T)|_=>.au
 |none=>.au)
def QA(c:Cfg)(N:J)(s:bW)(ρ:az)(e:aJ):cy:=gQ c.loops (w0 e (λ f args k=>sd (nameOf f) λ nm=>gQ (args.all fM&&(bE (O args) 100&&k.isEmpty)) (HL c.gl s nm λ C=>(cE (args.map λ e=>(ba c N s ρ e).1)).bind λ as=>sd (fx as) λ ds=>.raise C ds))
 (hZ e (λ nm=>HL c.gl s nm λ C=>.raise C []) .au))
theorem HM(G:hh g y)(V:y.lookup nm=B (.ty T))(o:q.names.lookup nm=B .globalImplicit)(l:(nm==("__debug__" :ai))=aj)(C:fa q env)
  (I:aG g x α σ s.heap)(R:bt g x env ρ α s.heap)(h:Q (.type T) s):aO (a5 g.prog g.w) A (bG (.Name nm p) env) Q E s:=by
 obtain K:env.kindOf nm=B .globalImplicit:=by
  rcases C nm with e|⟨e,_⟩
  ·rw[<-e,o]
  ·rw[o]at e;exact aR e (by decide)
 refine e4 G.ex λ m w N nb t=>?_;have n:=R.gl▸N.keeps I.base;refine anY R.fv K ?_ l;rcases t nm _ V with⟨v,e,r⟩|⟨M,v,e,r⟩
 ·exact anZ n (Y e (aM B r.inv)) h
 ·exact an0 n M (L R.cc (nb.keeps I.base)) (Y e (aM B r.inv)) h
theorem QB(h:∀T,(nm==("__debug__" :ai))=aj->s.names.lookup nm=B .globalImplicit->G.lookup nm=B (.ty T)->nP.contains T=S->c9 g x o env ρ t (k T)):c9 g x o env ρ t (HL G s nm k):=by refine j6 λ W=>?_;obtain W:=bo W;cases R:G.lookup nm with|none=>exact .au|some d=>cases d with|ty T=>exact j6 (h T (ma W.1) (cI.mp W.2) R)|_=>exact .au
theorem QC:∀{m:H (Ev V)}{σ af:aE}{as:H V},cE m σ=B (.ok as,af)->O as=O m
 |[],_,_,_,e=>Res.ok.inj (bf (ak e)).1▸rfl|_::_,_,_,_,e=>Ev.mh e λ u u u e=>Ev.mh e λ u u h e=>Res.ok.inj (bf (ak e)).1▸aM i9 (QC h)
theorem afg(C:dq g x w env n W){y:kE}(G:hh g y)(f:x.A.handled=aa){nm:ai}{p P:cP}{cls:b1}(l:(nm==("__debug__" :ai))=aj)(E:w.names.lookup nm=B .globalImplicit)(T:y.lookup nm=B (.ty cls))(A:nP.contains cls=S){α:H ao}{σ:aE}{s:aU}(I:aG g x α σ s.heap)(R:bt g x env ρ α s.heap):
  aO (a5 g.prog g.w) x.A (fF (.Raise (B (.Name nm p)) aa P) env) (λ u u=>False) (λ ev s'=>∃e h',ev=.ref e/\s'=cT s h' s.toks/\a_ x.F x.W α s.heap α h'/\ExcAt g x s.heap.objs.size α σ h' e cls []) s:=by
 obtain ok:=Qz A;refine f5 ok.call λ N i F=>(f5 ok.exc λ z b j=>aB (kq (aB (aB (HM G T E l C.cM I R (aB (kq (bl (aB (bl ?_))))))))));dsimp only;refine aB (dT (aB (aB (bl (ok.raise.isExc.symm▸bl (aB (g4 (wpAny_call_exc F (λ h' e q o=>gF q.there λ t h u u=>?_) (Zl _)))))))));obtain v:(cT s h' s.toks).TypeIs (.ref e) cls:=⟨_,h,rfl⟩;refine aB (wpAny_isInstance v ok.raise.isExc (bl (aB (bl (aB (dT (aB (Zm v (aB (call_issubclass (issubclass_self j ok.self) (bl (aB (aB (ou h rfl rfl (bl (aB (wpAny_handled (f.symm▸?_))))))))))))))))))
 first
  |exact wpAny_throw ((bh e h' ⟨rfl,rfl,.of_keeps q.keeps o.size,Qy I q o.size o.gone .nil⟩))
  |exact aB _
theorem afh(D:dq g x sc env n o)(K:gP g c n)(N:J)(e:aJ)(P:cP):c9 g x o env ρ (fF (.Raise (B e) aa P) env) (QA c N sc ρ e):=by
 refine j6 λ r=>?_;have fq:=D.y.ok.handled (K.loops r);have sub:∀b∈x.W,b∈o++x.W:=λ b=>aW _;refine Ge (λ f args qh p h=>?_) (mu (λ nm p h=>?_) .au)<;>subst h
 ·skip
  refine HJ λ nm da=>j6 λ X=>QB λ C l A afi v=>?_;obtain⟨np,rfl⟩:=AZ da;obtain g1:=bo X;obtain g2:=bo g1.2;refine L (k4.mp g2.2) ?_;have ok:=Qz v;refine f5 ok.call λ w V F=>λ α σ s k af I G R e Q E dp h=>aB (kq (wpAny_raiseStmt_made ok.raise fq (aB (aB (HM K.G afi A l D.cM I.dG (bt.dG R) ?_)))));simp only[ud args env g1.1,ue];show aO _ _ (rp p _ [] ((iQ args env).map λ t=>(aj,t)) []) _ _ _;rw[Ha (λ u e=>by cases e) [],evalArgs_plain];refine aB (dT (aB ?_));obtain T:=uc D.y (bQ.evalEach _ (λ e=>(f7 K N sc ρ e x env D.y D.cM).1) args) α σ s;refine Ev.NR e (λ as i d e=>?_) λ cl es i d e=>?_
  ·refine T _ i I.dG G (bt.dG R) d _ _ (λ vs as' cw m q j W eF z rs=>?_) eC.ok
   simp[<-Res.ok.inj j]at rs;cases a:fx as with
   |none=>rw[a]at e;exact nn e|some ds=>
   rw[a]at e;obtain e:=bf (ak e);have cL:O vs<100:=by simp[rs.length,QC d,gh];exact cg.mp g2.1
   exact dT (bl (aB (kq (aB (g4 (wpAny_call_exc F (λ h' M hm sf=>gF hm.there λ t hea u u=>(aB (dT (Lv (bl (aB (kq (bl (bh M t ⟨rfl,hea,h M C ds h' m q e.1.symm ((W.trans (.of_keeps hm.keeps sf.size)).cF sub) z (ax e.2 (((Qy eF hm sf.size sf.gone (rs.fx a)).low W.size).cF))⟩))))))))) (L vZ (bA (ik cL) (by decide)))))))))
  ·refine T _ i I.dG G (bt.dG R) d _ _ gn.exc λ M QD nG cw m q j W z mC=>?_
   obtain e:=bf e;obtain j:=Res.exc.inj j;exact h M QD nG cw m q (ax e.1 (L j.1 (L j.2 rfl))) (W.cF sub) z (ax e.2 mC.cF)
 ·skip
  refine QB λ C l A X v α σ s k af I G R e Q E dp h=>hS (afg D K.G fq l A X v I.dG (bt.dG R)) (λ u u y=>y.elim) λ ev s' y=>eg y λ d h' f3 ho st mC=>?_;obtain e:=bf (ak e);exact L f3 (L ho (h d C [] h' s.toks α e.1.symm (st.cF sub) G (ax e.2 mC.cF)))
def TQ(g:bX)(x:bD)(o:H ao)(env:cn)(ρ:az)(t:bj m6)(m:cy):Prop:=
 ∀(α:H ao)(σ:aE)(s:aU)(i:Res (f6×az))(af:aE),aG g (a3 x o) α σ s.heap->1<=s.toks->bp g (a3 x o) env ρ α s.heap->m σ=B (i,af)->
  ∀(Q:m6->aU->Prop)(E:aq->aU->Prop),
   (∀f r h' T aA,i=.ok r->a_ (a3 x o).F (a3 x o).W α s.heap aA h'->aG g (a3 x o) aA af h'->1<=T->nM (x.P++aA) aA h' f r.1/\bp g (a3 x o) env r.2 aA h'->Q f (cT s h' T))->
   (∀e cl as h' T aA,i=.exc cl as->a_ x.F x.W α s.heap aA h'->1<=T->ExcAt g x s.heap.objs.size aA af h' e cl as->E (.ref e) (cT s h' T))->
   aO (a5 g.prog g.w) x.A t Q E s
def QE(t e:aJ):Bool:=hZ t (λ u=>qg e) (xP t (λ u i=>p7 i&&qg e) aj)
theorem afj{m:Ev p}{k:p->Ev t}(h:∀a σ,∃r,k a σ=B (.ok r,σ))(e:m.bind k σ=B (.exc cl as,af)):m σ=B (.exc cl as,af):=by
 unfold Ev.bind at e;cases E:m σ with
 |none=>rw[E]at e;exact nn e
 |some q=>
  obtain⟨o,V⟩:=q;rw[E]at e;induction o with
  |ok a=>obtain⟨r,P⟩:=h a V;dsimp only at e;rw[P]at e;cases e
  |exc=>cases e;rfl
theorem TQ.of(h:c9 g x o env ρ t m)(p:m=q.bind k)(n:∀a σ,∃r,k a σ=B (.ok r,σ))(v:t=u>>=f)(T:ag g x (bp g x env ρ) post u q):TQ g x o env ρ t m:=by
 intro α σ s i af I D R K Q E G y;rcases i with r|⟨cl,as⟩
 ·exact h α σ s _ af I D R K Q E G eC.ok
 ·exact L v (aB (T α σ s _ af I.dG D (bt.dG R) (afj n (ax p K)) _ E gn.exc λ e c A h' C aA j=>y e c A h' C aA (by injection j with W l;rw[W,l])))
theorem afk(C:dq g x s env n W)(K:gP g c n)(N:J)(t e:aJ)(X:cP)(r:QE t e=S):TQ g x W env ρ (fF (.Assign [t] e X) env) (xQ c N s t e ρ):=by
 have I:=(f7 K N s ρ e x env C.y C.cM).1;have y:=Qx (ρ:=ρ) C K N t e X;refine mu (P:=λ b=>b=S->TQ g x W env ρ _ _) (λ nm p q r=>?_) (HG (P:=λ b=>b=S->TQ g x W env ρ _ _) (λ o i p q r=>?_) λ h=>bw h) r<;>subst q
 ·refine wB (dU s nm) (λ es=>?_) λ es=>?_
  ·
   exact L (show xQ c N s _ e ρ=.au by show fb _ _ _ _=_;unfold fb;rw[es]) (λ z z z z z z z z=>nn)
  ·
   exact .of y (k:=λ a=>.ret _) (by show fb _ _ _ _=_;unfold fb;rw[es]) (λ a σ=>⟨_,rfl⟩)
    (L (xR (by unfold tD;exact xw r ..)) (L (bind_assoc ..) rfl)) (ag.standAt I)
 ·have A:=(bo r).1
  have E:∀a,sb c N s ρ (.Subscript o i p) a=(ba c N s ρ o).1.bind λ l=>(ba c N s ρ i).1.bind λ w=>(c.set l w a).bind λ z=>.ret ρ:=λ a=>by show(match p7 i with|true=>_|false=>_)=_;exact L A rfl
  refine .of (u:=dZ X>>=λ z=>bG e env>>=λ v=>l1 (.Subscript o i p) env v) y (k:=λ z=>.ret (.next,ρ)) ?_ (λ a σ=>⟨_,rfl⟩)
   (f:=λ z=>pure ri) ?_ (ag.standAt (ag.cv C.y I λ v a=>Qn K N C.y C.cM A))
  ·show((ba c N s ρ e).1.bind λ a=>lB _)=_
   unfold lB;simp[E,Ev.assoc];rfl
  ·rw[xR (Bx rfl _),show zK [.Subscript o i p] e env=pure aa from rfl]
   simp only[bind_assoc];rfl
noncomputable def dropName(n:ai)(ρ:az):az:=ρ.filter λ p=> !(p.1==n)
theorem By{n m:ai} :∀{ρ:az},(dropName n ρ).lookup m=B v->m≠n/\ρ.lookup m=B v
 |[],e=>nn e
 |(k,a)::ρ,e=>by
  unfold dropName at e;rw[vU]at e;refine L lookup_cons ?_;by_cases h:(!(k==n))=S
  ·rw[bC h,lookup_cons]at e
   by_cases p:m=k
   ·subst p
    rw[bC rfl]at e ⊢;exact⟨(bne_iff_ne.mp h),e⟩
   ·rw[a6 p]at e ⊢
    exact By e
  ·rw[a6 h]at e
   obtain⟨W,j⟩:=By e;have p:m≠k:=by rintro rfl;exact h (by simpa using W)
   exact L (a6 p) ⟨W,j⟩
theorem name_goes(w:env.locals∈x.W)(P:env.kindOf nm=B .local)(I:aG g x α σ s.heap)(R:bt g x env ρ α s.heap)
  (C:∀h',a_ x.F x.W α s.heap α h'->aG g x α σ h'->bt g x env (dropName nm ρ) α h'->(fX s.heap h' (x.P++α) (x.P++α))->Q () (cT s h' (s.toks+1))):
  aO (a5 g.prog g.w) A (do pK env nm .none;aow env nm pos) Q E s:=by
 refine av R.ns λ m F f=>(wpAny_nameGoes_keeps P F (L R.fv rfl) λ h' v h d=>?_);have k:fX s.heap h' _ (x.P++α):=λ b o e n=>⟨Y (d.2 b (λ q=>n (bL _ (L q R.fK)))) e,n⟩;exact t8 (id h) λ o es c3 i l z=>(C h' (.own w d) (I.own R.fK d i (by rw[l];intro vs q;cases q)) ⟨R.fv,R.gl,R.cc,R.fK,⟨_,h,λ T V a G=>cq (By a) λ W j=>(av (f T V j G) λ u X r=>⟨u,by simp[W,X],r.mono k eV⟩)⟩,λ T K=>R.jX K λ c M W j t y xg ei=>av xg λ xh N p=>⟨c,W,j,t,y,M,⟨xh,Y (d.2 c y) N,p⟩,λ V a=>av (ei V (By a).2) λ u X r=>(⟨u,X,r.mono k eV⟩)⟩,R.ap⟩ k)
theorem aG.free(I:aG g (Internal.fJ x Sq) α σ h):aG g x α σ h:=by
 refine⟨I.base,I.big,λ a c=>I.b2 a (c.imp (aW _) id),λ a c=>I.alive a (aW _ c),I.dv,λ a c q=>I.c8 a c (aW _ q),c0.mono I.bM (bH _) (λ u u=>rfl) (λ b o e n=>⟨e,λ q=>n ?_⟩) eV,I.fr,I.old⟩;rcases bB.mp q with q|q
 ·exact bL _ (aW _ q)
 ·exact aW _ q
structure HN(X T:b1)(b:aF):Prop where
 exc:Lz (.type T) (.type "BaseException")=pure S
 Hg:Lz (.type ((Manifest.find? T).elim "type" λ x=>x.metatype)) (.type "tuple")=pure aj
 sub:Lz (.type X) (.type T)=pure b
theorem afl(F:nP.contains X=S)(N:nP.contains T=S):HN X T (X==T):=by
 simp only[nP,Zj,Zk,Ly,lY,cI]at F N;rcases N with rfl|rfl|rfl
 ·refine⟨PySem.F.isExc_ValueError,PySem.F.notTuple_ValueError,?_⟩
  rcases F with rfl|rfl|rfl<;> (rw[wd];lk)
 ·refine⟨PySem.F.isExc_AssertionError,PySem.F.notTuple_AssertionError,?_⟩
  rcases F with rfl|rfl|rfl<;> (rw[wd];lk)
 ·refine⟨PySem.F.isExc_ZeroDivisionError,PySem.F.notTuple_ZeroDivisionError,?_⟩
  rcases F with rfl|rfl|rfl<;> (rw[wd];lk)
theorem afm(c:x.l=env::v)(V:x.A.frames=B x.l)(p:env.frame=B A)(iC:cb x.F x.P)
  (st:a_ F W w o α s.heap)(d:cb x.F F)(q:ExcAt g x o.objs.size α σ s.heap e cl as)
  (xT:∀h',a_ F W w o α h'->kL g x o.objs.size α σ h' e cl as->Q () (cT s h' s.toks)):aO M x.A (Zn (.ref e) env) (λ u C=>aO M x.A (LA (.ref e) aa) Q E C) E s:=by
 obtain⟨Sq,t,vs,lo,I,p4,oN,lh,rs,k⟩:=q;obtain i:=λ h' f aD j iY G=>by exact cq (ExcAt.go (l':=x.l) I iC lo lh p4 oN rs st d (λ b q=>q) f aD j iY G) (xT h')
 obtain R:=Bg I.fr λ b=>bL _;have D:(hide s.heap (kC x.l++Sq)).get? e=none:=t5 (.inl (aW _ p4));generalize xH:hide s.heap _=Bq at i R D k;rw[c]at i R;have t0:s.heap.TupAt t vs:=by
  rcases k with⟨c5,cw⟩|⟨f,aD⟩
  ·exact(bh _ _ ⟨cw,rfl,rfl⟩)
  ·exact aD
 obtain a:aO M x.A (Zn _ env) (λ u C=>∃h',C=cT s h' s.toks/\Heap.HeldW Bq _ e (.type cl) _ A h'/\s.heap.UpToSlots h') (λ u u=>False) s:=by
  rcases k with⟨c5,cw⟩|⟨f,aD⟩
  ·unfold Zn
   exact L p (aB (ou c5 rfl rfl (wpAny_entryW (a0:=.ref t) (Y V (by rw[c])) R p c5 (ax xH He) D rfl (Nat.one_lt_succ_succ [jO,jO,Value.bool aj,jO].length) rfl λ h' afn=>(pS afn λ fs gC kH afo=>⟨h',rfl,⟨fs,D,gC,kH⟩,afo⟩))))
  ·exact wpAny_looks_onW (Y V (by rw[c])) p (ax c f) λ h' fq j=>⟨h',rfl,fq,j⟩
 refine hS (GV a) (λ u C y=>?_) λ u u y=>y.1.elim;obtain⟨⟨cw,rfl,fq,j⟩,sf⟩:=y;exact g4 (wpAny_landsW fq λ cZ f r z=>i cZ f ((t0.of_slots j).of_slots r) (j.trans r) (bA sf.size z.size) λ b l e=>z.gone b (eo l sf.size) (sf.gone b l e))
theorem QF(z:x.l=env::w)(K:cb x.F x.P)
  (st:a_ F W v o α s.heap)(c:cb x.F F)(q:kL g x o.objs.size α σ s.heap e cl as)
  (C:∀h',a_ F W v o α h'->kL g x o.objs.size α σ h' e cl as->Q () (cT s h' s.toks)):aO M A (LA (.ref e) aa) Q E s:=by
 obtain⟨Sq,t,vs,lo,I,y,R,N,r,i,aD⟩:=q;exact g4 (lands_againW i λ h' f u G=>cq (ExcAt.go (l':=x.l) I K lo N y R r st c (λ b q=>q) f (aD.of_slots u) u G.size G.gone) λ a b=>C h' a b)def QG(t:U aJ)(f:ai->cy):cy:=match t with|some t=>sd (nameOf t) f|none=>.au
def QH(d:U D)(f:b1->cy):cy:=match d with
 |some d=>match d with
  |.ty T=>f T|_=>.au
 |none=>.au
def afp(sc:bW)(iF:az->H bx->cy)(cl:b1)(as:H D)(bound:U ai)(body:H bx)(ρ:az):cy:=match bound with|none=>iF ρ body|some n=>gQ (sc.names.lookup n==B .local) ((iF ((n,.d (.exc cl as))::ρ) body).bind λ r=>.ret (r.1,dropName n r.2))
noncomputable def qo(G:kE)(sc:bW)(iF:az->H bx->cy)(cl:b1)(as:H D):H Es->az->cy
 |[],_=>.au
 |.ExceptHandler t bound body _::rest,ρ=>QG t λ nm=>gQ (!(nm==("__debug__" :ai))&&sc.names.lookup nm==B .globalImplicit) (QH (G.lookup nm) λ T=>gQ (!body.isEmpty&&(nP.contains T&&nP.contains cl)) (match cl==T with
  |false=>qo G sc iF cl as rest ρ|true=>afp sc iF cl as bound body ρ))theorem HO(e:gQ b m σ=B q){G:Prop}(k:b=S->m σ=B q->G):G:=match b,e,k with|true,e,k=>k rfl e|false,e,_=>nn e
theorem afq(e:QG t f σ=B q){G:Prop}(k:∀nm p,t=B (.Name nm p)->f nm σ=B q->G):G:=by
 induction t with
 |none=>exact nn e
 |some t=>
  refine eD (nameOf t) (λ h=>?_) λ nm h=>?_
  ·
   obtain e:sd _ f σ=B q:=e;rw[h]at e;exact nn e
  ·
   obtain⟨p,rfl⟩:=AZ h;exact k nm p rfl e
theorem afr(e:QH d f σ=B q){G:Prop}(k:∀T,d=B (.ty T)->f T σ=B q->G):G:=by induction d with|none=>exact nn e|some d=>cases d with|ty T=>exact k T rfl e|_=>exact nn e
noncomputable def uO{γ:Type}(m:Ev γ):Ev γ:=λ σ=>match m σ with|some (.ok r,af)=>B (.ok r,af)|_=>aa
def qp(G:kE)(sc:bW)(iF:az->H bx->cy)(m:cy)(c:H Es)(ρ:az):cy:=λ σ=>match m σ with|some (.ok r,V)=>B (.ok r,V)|some (.exc cl as,V)=>uO (qo G sc iF cl as c ρ) V|none=>aa
section
variable {g:bX}{x:bD}{sc:bW}{env:cn}{n:J}{own:H ao}{α:H ao}
@[reducible] noncomputable def marked(x:bD)(e:ao):bD:={x with A:=x.A.mark (B (.ref e)) }abbrev nQ(g:bX)(A:m8){X:Type}(t:bj X)(Q:X->aU->Prop)(s:aU):Prop:=aO (a5 g.prog g.w) A t Q (λ u u=>False) s
theorem nQ.up{X:Type}{t:bj X}{Q:X->aU->Prop}(h:nQ g A t Q s):aO (a5 g.prog g.w) A t Q E s:=hS h (λ u u y=>y) λ u u y=>y.elim
section
variable {X T:b1}{b:aF}{e:ao}{t:aJ}{Bz:bx}{iF:H bx}{pos:cP}{rest:H Es}{Q:m6->aU->Prop}{E:aq->aU->Prop}{s:aU}
theorem QI(C:HN X T b)(h:nQ g (x.A.mark (B (.ref e))) (bG t env) (λ c s=>c=.type T/\s.TypeIs (.ref e) X/\match(generalizing:=false) b with
  |true=>nQ g (x.A.mark (B (.ref e))) (LA (.ref e) aa) (λ u s=>nQ g (x.A.mark (B (.ref e))) (fG (Bz::iF) env) Q s) s|false=>aO (a5 g.prog g.w) x.A (Et (.ref e) env rest) Q E s) s):aO (a5 g.prog g.w) x.A (Et (.ref e) env (.ExceptHandler (B t) aa (Bz::iF) pos::rest)) Q E s:=
 wpAny_handleBy_builtin C.exc C.Hg C.sub (hS h (λ c s y=>⟨y.1,y.2.1,by
  have y:=y.2.2;induction b with
  |true=>exact hS y (λ u u z=>z.up) λ u u z=>z.elim|false=>exact y⟩) λ u u y=>y.elim)
theorem QJ{n:ai}(C:HN X T b)(h:nQ g (x.A.mark (B (.ref e))) (bG t env) (λ c s=>c=.type T/\s.TypeIs (.ref e) X/\match(generalizing:=false) b with
  |true=>nQ g (x.A.mark (B (.ref e))) (LA (.ref e) aa) (λ u s=>nQ g (x.A.mark (B (.ref e))) (Lk env n (.ref e)) (λ u s=>nQ g (x.A.mark (B (.ref e))) (fG (Bz::iF) env) (λ f s=>aO (a5 g.prog g.w) x.A (do pK env n .none;aow env n pos) (λ u=>Q f) E s) s) s) s|false=>aO (a5 g.prog g.w) x.A (Et (.ref e) env rest) Q E s) s):aO (a5 g.prog g.w) x.A (Et (.ref e) env (.ExceptHandler (B t) (B n) (Bz::iF) pos::rest)) Q E s:=
 wpAny_handleBy_builtin_as C.exc C.Hg C.sub (hS h (λ c s y=>⟨y.1,y.2.1,by
  have y:=y.2.2;induction b with
  |true=>exact hS y (λ u u z=>hS z (λ u u z=>z.up) λ u u z=>z.elim) λ u u z=>z.elim|false=>exact y⟩) λ u u y=>y.elim)
end
section
variable {σ:aE}{h:aX}{lo:J}{e:ao}{cl:b1}{as:H D}{ρ:az}theorem kL.inv(q:kL g x lo α σ h e cl as):aG g x α σ h:=match q with|⟨_,_,_,_,I,_,_,_,_,_⟩=>I.free
theorem kL.ty(q:kL g x lo α σ h e cl as)(s:aU)(t:J):(cT s h t).TypeIs (.ref e) cl:=match q with|⟨_,_,_,_,_,_,_,_,_,k⟩=>a7 k.1.there λ o h=>⟨o,h.1,h.2⟩theorem kL.rep(q:kL g x lo α σ h e cl as):a9 (x.P++α) α h (.ref e) (.d (.exc cl as)):=by obtain⟨Sq,t,vs,lo,I,v,m,N,R,F,aD⟩:=q;refine eg F.first λ j w V i u G=>?_;obtain f:=λ b r q=>(bB.mp q).elim (N b r) λ q=>I.c8 b q (bL _ r);exact aV.exc (f e v) V i u G (f t m) aD (R.mono λ b o p nb=>⟨p,λ q=>nb ((bB.mp q).elim (λ q=>bL _ (aW _ q)) (aW _))⟩)theorem aG.mark(I:aG g x α σ h):aG g (a3 (marked x e) own) α σ h:=⟨I.base,I.big,I.b2,I.alive,I.dv,I.c8,I.bM,I.fr,I.old⟩theorem aG.unmark(I:aG g (a3 (marked x e) own) α σ h):aG g (a3 x own) α σ h:=⟨I.base,I.big,I.b2,I.alive,I.dv,I.c8,I.bM,I.fr,I.old⟩theorem bt.mark(R:bt g x env ρ α h):bt g (a3 (marked x e) own) env ρ α h:=⟨R.fv,R.gl,R.cc,R.fK,R.ns,R.lj,R.ap⟩theorem bt.unmark(R:bt g (a3 (marked x e) own) env ρ α h):bt g (a3 x own) env ρ α h:=⟨R.fv,R.gl,R.cc,R.fK,R.ns,R.lj,R.ap⟩
end
theorem nM.mono(k:fX h h' X X)(p:nM X α h f r):nM X α h' f r:=by
 induction f with
 |ret v=>induction r with
  |ret=>exact a9.mono p k ⟨[],(ea _).symm⟩|_=>exact p
 |_=>induction r<;>exact p
theorem QK(G:hh g gl)(c:dq g x sc env n own)(d:x.l=env::i)(hf:env.frame=B l)
  (V:∀ρ body,c9 g (marked x e) own env ρ (fG body env) (iF ρ body))(QL:aG g (a3 x own) w R o)(R0:bp g (a3 x own) env ρ w o)(Q:m6->aU->Prop)(E:aq->aU->Prop):
  ∀(dd:H Es)(σ:aE)(s:aU),qo gl sc iF cl as dd ρ σ=B (.ok r,af)->a_ x.F x.W w o α s.heap->kL g x o.objs.size α σ s.heap e cl as->1<=s.toks->
   (∀f h' el aA,a_ (a3 x own).F (a3 x own).W w o aA h'->aG g (a3 x own) aA af h'->1<=el->nM (x.P++aA) aA h' f r.1/\bp g (a3 x own) env r.2 aA h'->Q f (cT s h' el))->
   aO (a5 g.prog g.w) x.A (Et (.ref e) env dd) Q E s
 |[],_,_,h=>nn h
 |.ExceptHandler t bound body pos::rest,σ,s,h=>by
  refine λ st q M j=>afq h λ nm p fZ h=>HO h λ D h=>afr h λ T jr h=>HO h λ P h=>?_;obtain D:=bo D;obtain P:=bo P;have C:=afl (bo P.2).2 (bo P.2).1;have cR:∀{h},a_ x.F x.W w o α h->bt g x env ρ α h:=λ st=>bt.jY c.y.ok.cY c.y.ok.ew c.y.q _ _ _ _ _ QL.dG st (bt.dG R0);have sub:∀b∈x.W,b∈own++x.W:=λ b=>aW _;have N:∀{A:m8}{xU:aq->aU->Prop},xU _ s->nQ g A (bG (.Name nm p) env) xU s:=(HM G jr (cI.mp D.2) (ma D.1) c.cM q.inv (cR st));rcases body with _|⟨QM,bs⟩;case nil=>exact bw P.1
  refine L fZ (wB (cl==T) (λ y=>?_) λ y=>?_)
  ·
   rw[y]at h C;obtain next:=QK G c d hf V QL R0 Q E rest σ s h st q M j
   cases bound with|none=>exact QI C (N ⟨rfl,q.ty s s.toks,next⟩)|some bn=>exact QJ C (N ⟨rfl,q.ty s s.toks,next⟩)
  ·
   rw[y]at h C;cases bound with|none=>exact QI C (N ⟨rfl,q.ty s s.toks,QF d c.y.ok.cY st (λ b y=>y) q λ h' I K=>V ρ _ α σ (cT s h' s.toks) _ af K.inv.mark M (cR I).mark h _ _ (gn.ok λ f cw h8 k my fO i0 m=>j f cw h8 k ((I.cF sub).trans my) fO.unmark i0 (⟨m.1,m.2.unmark⟩)) eC.ok⟩)|some bn=>refine HO h λ D h=>Ev.mh h λ dP qd cZ fw=>?_;obtain eq:=bf (ak fw);have z:=cI.mp (Y (Qs c.cM bn) D);exact QJ C (N ⟨rfl,q.ty s s.toks,QF d c.y.ok.cY st (λ b y=>y) q λ h' I K=>AY (x:=a3 (marked x e) own) c.h4 c.w (.inl z) α σ (cT s h' s.toks) _ σ K.inv.mark M ⟨(cR I).mark,K.rep⟩ rfl _ _ (λ u v ei lx uA dw uo lp nI kM=>V _ _ uA σ (cT s ei lx) _ qd lp nI kM cZ _ _ (gn.ok λ f kI A4 A5 G5 xm xn m=>name_goes c.w.1 z xm.unmark m.2.unmark λ nO st7 HE afs a=>(j f nO _ A5 ((((I.cF sub).trans uo).trans G5).trans st7) (ax eq.2 HE) (ip xn) (ax (Res.ok.inj eq.1) ⟨m.1.mono a,afs⟩))) eC.ok) eC.ok⟩)
theorem aft(G:hh g y)(c:dq g x sc env n own)(z:x.l=env::u)(N:env.frame=B l)
  (V:∀e ρ body,c9 g (marked x e) own env ρ (fG body env) (iF ρ body))(v:TQ g x own env ρ (fF b env) m):
  c9 g x own env ρ (fF (.Try [b] (d::dd) [] [] pos) env) (qp y sc iF m (d::dd) ρ):=by
 intro α σ s out af I dm R K Q E M he;unfold qp at K;cases A:m σ with
 |none=>rw[A]at K;exact nn K|some q=>
 obtain⟨o,W⟩:=q;rw[A]at K;refine wpAny_Try_except (aB (v α σ s o W I dm R A _ _ (λ f r h' C aA j st a i p=>?_) (λ e cl as h' C aA j st i mC=>?_)))
 ·subst j
  cases K;induction f with|next=>exact bl (bl (M .next r h' C aA rfl st a i p))|_=>exact bl (M _ r h' C aA rfl st a i p)
 ·subst j
  dsimp only at K;unfold uO at K;cases k:qo y sc iF cl as _ ρ W with
  |none=>rw[k]at K;exact nn K|some q=>
  obtain⟨o,oV⟩:=q;rw[k]at K;induction o with
  |exc=>exact nn K|ok r=>
  cases K;exact afm (x:=x) z c.y.ok.frames N c.y.ok.cY st (λ b v=>v) mC λ cw D jc=>(QK G c z N (V e) I R Q E _ W _ k D jc i λ f cZ t3 F w fO P p=>M f r cZ t3 F rfl w fO P p)
end
noncomputable def uP:Str:="plain"
def gcV(k:J)(ok:aF)(n:ai)(v:V):U (ai×V):=v.rec (λ d=>B (n,.d d)) λ i=>(bE i k).rec ((ok&&n==uP).rec aa (B (n,.aH k))) (B (n,.aH i))def xV(M:az)(k:J)(ok:aF)(ρ:az):az:=M.filterMap λ p=>(ρ.lookup p.1).bind (gcV k ok p.1)def HP(k:J)(ρ:az)(σ:aE):U (J×H D):=(ρ.lookup uP).bind λ v=>v.rec (λ u=>aa) λ i=>(bE i k).rec (jW σ[i]? λ xs=>B (i,xs)) aa
def fP(M:az)(k:J)(ρ:az)(σ:aE):U (az×aE):=match(σ.take k).all (bk k)with
 |false=>aa|true=>match HP k ρ σ with|some q=>B (xV M k S ρ,σ.take k++ [.ae q.2])|none=>B (xV M k aj ρ,σ.take k)def BA(M:az)(m:J)(next:az->cy)(r:f6×az):cy:=λ σ=>match r.1 with|.next=>(fP M m r.2 σ).bind λ q=>next q.1 q.2|.cont=>(fP M m r.2 σ).bind λ q=>next q.1 q.2|.brk=>B (.ok (.next,r.2),σ)|.ret a=>B (.ok (.ret a,r.2),σ)def afu(sc:bW)(t:aJ)(body:az->cy)(j:J)(M:az)(m:J)(f:az->cy)(ρ:az):cy:=λ σ=>(gH j σ).bind λ q=>match q.1 with|none=>B (.ok (.next,ρ),q.2)|some d=>bR (lq t σ j) ((lu sc t d ρ).bind λ R=>oO (body R q.2) (BA M m f))def gR(sc:bW)(t:aJ)(body:az->cy)(j:J)(M:az)(m n:J):az->cy:=n.rec (λ u=>.au) λ u=>afu sc t body j M m
theorem QN(e:gR sc t body j M m (k+1) ρ σ=B (o,af)){G:Prop}(K:gH j σ=B (aa,af)->o=.ok (.next,ρ)->G)
  (C:∀d V R r i,gH j σ=B (B d,V)->lq t σ j=S->lu sc t d ρ=B R->body R V=B (.ok r,i)->BA M m (gR sc t body j M m k) r i=B (o,af)->G):G:=
 b3 e λ q h e=>by
 rcases q with⟨_|d,V⟩
 ·have p:=bf (ak e)
  exact K (ax p.2 h) p.1.symm
 ·exact bN e λ W e=>b3 e λ R l e=>t6 e λ r i v e=>C d V R r i h W l v e
theorem QO(h:gH j σ=B (aa,gO)):gR sc t body j M m (k+1) ρ σ=B (.ok (.next,ρ),gO):=by show(gH j σ).bind _=_;exact L h rfl
theorem QP(h:gH j σ=B (B d,gO))(l:lq t σ j=S)(v:lu sc t d ρ=B R)(I:body R gO=B (.ok r,oV)):gR sc t body j M m (k+1) ρ σ=BA M m (gR sc t body j M m k) r oV:=by show(gH j σ).bind _=_;refine L h ?_;show bR _ _=_;simp[l,v];exact wO I
theorem BB(h:gH j σ=B (B d,gO))(l:lq t σ j=S)(v:lu sc t d ρ=B R)(I:body R gO=B (.ok (.next,f),i))(P:fP M m f i=B (s,qd)):gR sc t body j M m (k+1) ρ σ=gR sc t body j M m k s qd:=by refine L (QP h l v I) ?_;show(fP M m f i).bind _=_;exact L P rfl
theorem QQ{next:az->cy}(e:BA M m next r σ=B (o,af)){G:Prop}(k:∀f i,(r.1=.next\/r.1=.cont)->fP M m r.2 σ=B (f,i)->next f i=B (o,af)->G)(K:r.1=.brk->o=.ok (.next,r.2)->σ=af->G)(E:∀a,r.1=.ret a->o=.ok (.ret a,r.2)->σ=af->G):G:=by
 obtain⟨F,ρ⟩:=r;rcases F with _|_|_|a
 ·exact b3 e λ q=>k q.1 q.2 (.inl rfl)
 ·obtain p:=bf (ak e)
  exact K rfl p.1.symm p.2
 ·exact b3 e λ q=>k q.1 q.2 (.inr rfl)
 ·obtain p:=bf (ak e)
  exact E a rfl p.1.symm p.2
def j7(M:az)(k:J)(r:U (Res (f6×az)×aE)):U (Res (f6×az)×aE):=match r with
 |some (.ok (.next,ρ),σ)=>match fP M k ρ σ with
  |some (ar,af)=>B (.ok (.next,ar),af)|none=>B (.ok (.next,ρ),σ)
 |r=>r
def sg(sc:bW)(N:J)(t i:aJ)(m:Ev V)(body:az->cy)(ρ:az):cy:=λ h=>bR (hY i) (j7 ρ (O h) (oO (m.bind g8 h) λ v σ=>hA v λ j=>gR sc t body j ρ (O σ) N ρ σ))
theorem QR(W:hY i=S)(h:(m.bind g8) e=B (.ok (.aH j),gO)):sg sc N t i m body ρ e=j7 ρ (O e) (gR sc t body j ρ gO.length N ρ gO):=
 Y (eh W) (aM _ (wO h))
theorem afv(e:j7 M k r=B (o,σ)){G:Prop}(K:r=B (o,σ)->G)(C:∀R V f,r=B (.ok (.next,R),V)->o=.ok (.next,f)->fP M k R V=B (f,σ)->G):G:=by
 rcases r with _|⟨⟨F,R⟩|⟨c,as⟩,V⟩
 ·exact nn e
 ·rcases F with _|_|_|a
  ·obtain e:(match fP M k R V with|some (ar,af)=>B _|none=>B _)=B _:=e
   refine eD (fP M k R V) (λ h=>?_) λ q h=>?_
   ·rw[h]at e;exact K e
   ·rw[h]at e
    obtain p:=bf (ak e);exact C R V q.1 rfl p.1.symm (Y h (aM (λ t=>B (q.1,t)) p.2))
  ·exact K e
  ·exact K e
  ·exact K e
 ·exact K e
theorem QS:∀{k:J}{ρ:az}{σ:aE},gR sc t body j M m k ρ σ=B (o,af)->∃f ar,o=.ok (f,ar)
 |0,_,_,e=>nn e|_+1,_,_,e=>QN e (λ u h=>(bh _ _ h)) λ u u u u u u u u u e=>QQ e (λ u u u u=>QS) (λ u h u=>(bh _ _ h)) λ u u h u=>(bh _ _ h)
theorem afw{l:az}(h:l.lookup n=B v):(n,v)∈l:=by
 induction l with
 |nil=>exact nn h
 |cons p l i=>
  rw[gY]at h;refine dO (n==p.1) (λ e=>?_) λ e=>?_
  ·rw[e]at h;refine ax (ak h) ?_;rw[cI.mp e];exact cV
  ·rw[e]at h;exact c7 _ (i h)
theorem BC(h:(xV M k ok ρ).lookup n=B v):(ρ.lookup n=B v/\∀i,v=.aH i->i<k)\/(ok=S/\n=uP/\v=.aH k/\∃i,ρ.lookup n=B (.aH i)/\k<=i):=by
 refine av (pL.mp (afw h)) λ p u w=>b3 w λ F e w=>?_;rcases F with d|i
 ·have q:=bf (ak w)
  rw[q.1,q.2]at e;exact .inl ⟨e,λ j E=>nomatch q.2.trans E⟩
 ·revert w
  refine dO (bE i k) (λ s=>?_) λ s=>?_
  ·show(zL (motive:=λ u=>U _) _ _ _)=_->_
   refine L s ?_;intro w;have q:=bf (ak w);rw[q.1,q.2]at e;exact .inl ⟨e,λ j E=>by cases q.2.trans E;exact cg.mp s⟩
  ·show(zL (motive:=λ u=>U _) _ _ _)=_->_
   refine L s (dO (ok&&p.1==uP) (λ l=>?_) λ l=>?_)
   ·show(zL (motive:=λ u=>U _) _ _ _)=_->_
    rw[l];intro w;have q:=bf (ak w);rw[q.1]at e l;have l:=bo l;exact .inr ⟨l.1,cI.mp l.2,q.2.symm,i,e,zF λ q=>bw (Y s.symm (cg.mpr q))⟩
   ·show(zL (motive:=λ u=>U _) _ _ _)=_->_
    rw[l];exact nn
theorem bt.lets(R:bt g x env ρ α h)(f:∀u n v,ar.lookup n=B v->(∀V,ρ.lookup n=B V->a9 (x.P++α) α h u V)->a9 (x.P++aA) aA h u v)(d:∀n v,ar.lookup n=B v->∃V,ρ.lookup n=B V):bt g x env ar aA h:=by
 refine⟨R.fv,R.gl,R.cc,R.fK,?_,λ n o=>?_,R.ap⟩
 ·refine av R.ns λ m p q=>(⟨m,p,λ n v k o=>?_⟩)
  obtain⟨V,e⟩:=d n v k;exact av (q n V e o) λ u W j=>(⟨u,W,f u n v k λ r w=>by rw[e]at w;obtain rfl:=ak w;exact j⟩)
 ·refine R.jX o λ c X W j w I P i=>(⟨c,W,j,w,I,X,P,λ v k=>?_⟩)
  obtain⟨V,e⟩:=d n v k;exact av (i V e) λ u s A=>(⟨u,s,f u n v k λ r w=>by rw[e]at w;obtain rfl:=ak w;exact A⟩)
theorem afx{σ:aE}(e:HP k ρ σ=B (i,xs)):ρ.lookup uP=B (.aH i)/\k<=i/\σ[i]?=B (.ae xs):=by
 refine b3 e λ v z e=>?_;rcases v with _|I
 ·exact nn e
 ·revert e
  refine dO (bE I k) (λ h=>?_) λ h=>?_
  ·show(zL (motive:=λ u=>U _) _ _ _)=_->_
   rw[h];exact nn
  ·show(zL (motive:=λ u=>U _) _ _ _)=_->_
   refine L h (λ e=>oP e λ y K e=>?_);have p:=bf (ak e);exact⟨p.1▸z,p.1▸zF λ q=>bw (Y h.symm (cg.mpr q)),p.1▸ax p.2 K⟩
theorem afy(e:fP M k ρ σ=B (ar,af)){G:Prop}(K:(σ.take k).all (bk k)=S->ar=xV M k aj ρ->af=σ.take k->G)(C:∀i xs,(σ.take k).all (bk k)=S->ρ.lookup uP=B (.aH i)->k<=i->σ[i]?=B (.ae xs)->ar=xV M k S ρ->af=σ.take k++ [.ae xs]->G):G:=by
 unfold fP at e;cases h:(σ.take k).all _ with
 |false=>rw[h]at e;exact nn e|true=>
 rw[h]at e;refine eD (HP k ρ σ) (λ E=>?_) λ q E=>?_
 ·
  rw[E]at e;obtain p:=bf (ak e);exact K h p.1.symm p.2.symm
 ·
  rw[E]at e;obtain p:=bf (ak e);obtain z:=afx E;exact C q.1 q.2 h z.1 z.2.1 z.2.2 p.1.symm p.2.symm
theorem QT{x:bD}{h:aX}(t:∀a∈γ,a∈β):∀b o,h.get? b=B o->b∉x.P++(α++β)->h.get? b=B o/\b∉x.P++(α++γ):=λ b u e n=>⟨e,λ q=>n ((bB.mp q).elim (bL _) λ q=>aW _ ((bB.mp q).elim (bL _) λ q=>aW _ (t b q)))⟩theorem QU{x:bD}(t:∀a∈γ,a∈β)(k:∀i,v=.aH i->i<O α)(r:a9 (x.P++(α++β)) (α++β) h u v):a9 (x.P++(α++γ)) (α++γ) h u v:=by induction v with|d=>exact aV.mono r (QT t)|aH i=>exact av r λ a c e=>⟨a,by rw[vX (k i rfl)]at c ⊢;exact c,e⟩def afz(g:bX)(x:bD)(env:cn)(α β:H ao)(ar:az)(af:aE)(h:aX):Prop:=∃γ,(∀a∈γ,a∈β)/\aG g x (α++γ) af h/\bt g x env ar (α++γ) h
theorem QV(I:aG g x (α++β) σ h)(R:bt g x env ρ (α++β) h)(e:fP N (O α) ρ σ=B (ar,af)):afz g x env α β ar af h:=by
 refine afy e (λ o E f=>?_) λ i xs o z s K E f=>?_
 ·simp[E,f]
  exact⟨[],(λ w q=>nomatch q),L (ea ..) (aG.shrink I (λ b q=>q) I.fr o),R.lets (λ u n v k P=>(BC k).elim (λ q=>QU (λ w q=>nomatch q) q.2 (P v q.1)) λ q=>bw q.1) λ n v k=>(BC k).elim (λ q=>⟨v,q.1⟩) λ q=>bw q.1⟩
 ·simp[E,f]
  have c:=by exact I.bM.length▸(jN.mp K).1
  obtain M:=tE c;refine av (I.bM.get M) λ m p V=>?_;simp[<-ak (Y K.symm p)]at V;generalize (α++β)[i]=a at V M;have A:=eK ((pN s).symm.trans M);have t:∀b∈[a],b∈β:=λ b q=>L (ek.mp q) A;exact av V λ vs W l=>(⟨[a],t,aG.Hh I (λ b q=>q) I.fr o A ⟨vs,W,l.mono (QT t)⟩,R.lets (λ u n v k P=>(BC k).elim (λ q=>QU t q.2 (P v q.1)) λ⟨_,E,f,j,y,_⟩=>av ((E▸P) _ z) λ b r d=>(L f ⟨a,Ea,Y d (aM hP (ak (Y r.symm M)))⟩)) λ n v k=>(BC k).elim (λ q=>⟨v,q.1⟩) λ⟨_,_,_,j,y,_⟩=>⟨_,y⟩⟩)
section
variable {g:bX}{x:bD}{sc:bW}{env:cn}{n:J}{own:H ao}{β γ nv oQ:Type}
inductive BD(g:bX)(x:bD)(own:H ao)(env:cn)(α:H ao)(s:aU)(q:U (Res (f6×az)×aE))(F:J->az->cy)(k:J)(s':aU):Prop
 |mk (uB:az) (xO:H ao) (gO:aE) (c5:aX) (t1:J) (hC:s'=cT s c5 t1) (st:a_ (a3 x own).F (a3 x own).W α s.heap xO c5) (I:aG g (a3 x own) xO gO c5) (dm:1<=t1) (R:bp g (a3 x own) env uB xO c5) (e:F k uB gO=q)
theorem BD.ql(st:a_ (a3 x own).F (a3 x own).W α s.heap j h)(I:aG g (a3 x own) j u h)(K:1<=T)(R:bp g (a3 x own) env t j h)(E:fP M (O α) t u=B (HQ,G))(e:F k HQ G=q):
  ∃m,m<k+1/\BD g x own env α s q F m (cT s h T):=by
 refine av st.ext λ β w i=>?_;subst w;exact gF (QV I R E) λ γ v N r=>(⟨k,ko _,HQ,α++γ,G,h,T,rfl,⟨st.size,⟨γ,rfl,λ a q=>i a (v a q)⟩,st.same,st.slot⟩,N,K,r,e⟩)
def apu(g:bX)(x:bD)(env:cn)(t:aJ)(body:H bx)(j:aU->Prop)(R:Em->aU->Prop)(N:aq->aU->Prop)(v:aq)(s':aU):Prop:=
 aO (a5 g.prog g.w) x.A (l1 t env v) (λ u y=>aO (a5 g.prog g.w) x.A (fG body env) (λ f s=>match f with
          |.next|.cont=>j s|.brk=>R (.ok .next) s|.ret v=>R (.ok (.ret v)) s) N y) N s'
theorem afA(K:0<n)(c:dq g x sc env n own)(cv:∀ρ,c9 g x own env ρ (fG body env) (BE ρ))(M:az)(k:J)(ρ ar:az)(sh:f6)(α:H ao)(σ af:aE)(s:aU)(I:ao)(R:Em->aU->Prop)
   (e:gR sc t BE j M (O α) k ρ σ=B (.ok (sh,ar),af))(In:aG g (a3 x own) α σ s.heap)(dm:1<=s.toks)(r2:bp g (a3 x own) env ρ α s.heap)(xo:α[j]?=B I)
   (q:∀f h' D aA,a_ (a3 x own).F (a3 x own).W α s.heap aA h'->aG g (a3 x own) aA af h'->1<=D->nM (x.P++aA) aA h' f sh->bp g (a3 x own) env ar aA h'->R (.ok f) (cT s h' D)):
   wa (a5 g.prog g.w) x.A (.forLoop t (.ref I) body [] env) R s:=by
 refine codeAny_forLoop_any (BD g x own env α s _ _) (λ k s' dd=>?_) k ⟨ρ,α,σ,s.heap,s.toks,rfl,.refl ..,In,dm,r2,e⟩;obtain⟨uB,l,gO,c5,t1,rfl,p,Q,o,R0,e⟩:=dd;obtain A:=p.get xo;obtain sub:∀b∈x.W,b∈own++x.W:=λ b=>aW _;induction k with
 |zero=>exact nn e|succ k=>
 refine QN e (λ w E=>?_) λ d i z r qd w xp nB afB xW=>?_
 ·obtain E:=bf (Res.ok.inj E)
  exact O3 (c.y.ok.handled K) c.y.ok.cY c.y.ok.ew Q.dG o A w λ h' D st eX j2=>wpAny_execs_nil (q .next h' D l (p.trans (st.cF sub)) eX.cF j2 (L E.1 trivial) (L E.2 (c.r9 Q st R0)))
 ·generalize notedBy _ x.A env _=N
  refine hS (turn (c.y.ok.handled K) c.y.ok.cY c.y.ok.ew t Q.dG o A w xp (λ v cw h8 C eF i0 g9=>O9 (x:=a3 x own) (c.y.ok.handled K) c.h4 c.y.ok.cY c.w c.cM ⟨by simp,λ u u u u=>by simp⟩ nB l i _ _ i eF.cF i0 ⟨c.r9 Q C R0,g9⟩ rfl _ _ (λ b p9 cZ t3 xq dw mz fO o4 R3=>cv z xq i (cT s cZ t3) _ qd fO o4 R3 afB _ _ (gn.ok λ f fw qb m r3 iZ T G=>?_) eC.ok) eC.ok)) (λ _ _ z15=>av z15 λ v e nJ=>L e nJ) λ u u y=>y;have X:=((p.trans (C.cF sub)).trans mz).trans r3;obtain P:=G.1;refine QQ xW (λ HQ apv h xM e=>?_) (λ h E es=>?_) λ a h E es=>?_
  ·rcases h with h|h<;>rw[h]at P<;>induction f<;>first|exact(BD.ql X iZ T G.2 xM e)|exact P.elim
  ·have E:=bf (Res.ok.inj E)
   rw[h]at P;cases f with|brk=>exact q .next fw qb m X (es▸iZ) T (L E.1 trivial) (L E.2 G.2)|_=>exact P.elim
  ·obtain E:=bf (Res.ok.inj E)
   rw[h]at P;cases f with|ret v=>exact q _ fw qb m X (ax es iZ) T (L E.1 P) (L E.2 G.2)|_=>exact P.elim
theorem afC(da:0<n)(c:dq g x sc env n own)(hm:TE g x env ρ (bG i env) m)(cv:∀ρ,c9 g x own env ρ (fG body env) (BE ρ)):
  c9 g x own env ρ (fF (.For t i body [] w) env) (sg sc N t i m BE ρ):=by
 refine λ α σ s o af I dm p e Q E G he=>bN e λ dd e=>?_;have M:∀{o:Res _}{af:aE},oO (m.bind g8 σ) (λ v σ=>hA v λ j=>gR sc t BE j ρ (O σ) N ρ σ)=B (o,af)->∀{Q:m6->aU->Prop},(∀f r h' C aA,o=.ok r->a_ (a3 x own).F (a3 x own).W α s.heap aA h'->aG g _ aA af h'->1<=C->(nM (x.P++aA) aA h' f r.1/\bp g _ env r.2 aA h')->Q f (cT s h' C))->
   aO _ x.A (fF (.For t i body [] w) env) Q E s:=λ{o af} e {Q} G=>by
  refine t6 e λ it X y e=>nx e λ j um e=>(f5 (QS e) λ sh ar k=>?_);rw[k]at e;refine aB (kq (aB (Ev.mh y λ a d i1 y=>((ag.lift c hm) α σ s _ d I dm p i1 _ _ (gn.ok λ v fw qb l R iZ z P=>?_) eC.ok))));rw[GZ dd];refine aB (bl (aB (kq (aB (dT (AL (λ u u p=>p) l d _ _ X iZ.dG z P.2 y _ _ (λ it' p9 ei lx uA ho5 A K nI pi=>?_) eC.ok))))));simp[<-Res.ok.inj ho5,um]at pi;refine av pi λ D hI' Hy=>L Hy (wpAny_runOwn (codeAny_mono (afA da c cv ρ N ρ ar sh uA X af _ D (λ r s'=>match r with|.ok f=>Q f s'|.error _=>False) (L K.bM.length e) K.cF nI (c.r9 iZ A P.1) hI' λ f h' C aA G6 D T BF r4=>G f _ h' C aA k ((R.trans (A.cF λ b q=>aW _ q)).trans G6) D T ⟨BF,r4⟩) λ r s' h=>?_));exact match r,h with|.ok _,h=>h|.error _,h=>h.elim
 refine afv e (λ e=>M e G) λ uB X Pl f3 k xM=>M f3 λ f r h' C aA dw st D T P=>?_;rw[<-Res.ok.inj dw]at P;refine av st.ext λ β w20 Br=>?_;subst w20;exact gF (QV D P.2 (L I.bM.length xM)) λ γ xI K kM=>(G f _ h' C _ k ⟨st.size,⟨γ,rfl,λ a q=>Br a (xI a q)⟩,st.same,st.slot⟩ K T ⟨by induction f<;>first|trivial|exact P.1.elim,kM⟩)
end
def BG(c:Cfg)(N:J)(s:bW)(ρ:az)(o i:aJ):cy:=
 (ba c N s ρ o).1.bind λ l=>(ba c N s ρ i).1.bind λ I=>(c.del l I).bind λ u=>.ret (.next,ρ)noncomputable def HR{A:Type}(s:bx)(f:H aJ->aJ->A)(z:A):A:=if h:s.ctorIdx=5 then aox s h λ ay e u=>f ay e else z
theorem afD{A:Type}{z:A}{P:A->Prop}{f:H aJ->aJ->A}(k:∀ay e p,s=.Assign ay e p->P (f ay e))(K:P z):P (HR s f z):=by
 by_cases h:s.ctorIdx=5
 ·exact aox (motive_2:=λ E=>s=E->P (HR E f z)) s h k rfl
 ·exact(aM P (jb h)).mpr K
noncomputable def xX{A Bq:Type}(l:H A)(f:A->Bq)(z:Bq):Bq:=match l with|[a]=>f a|_=>z
theorem BH{A Bq:Type}{l:H A}{f:A->Bq}{z:Bq}{P:Bq->Prop}(k:∀a,l=[a]->P (f a))(K:P z):P (xX l f z):=by
 rcases l with _|⟨a,_|⟨_,_⟩⟩
 ·exact K
 ·exact k a rfl
 ·exact K
def afE(c:Cfg)(M:J)(p:bW)(s:az->H bx->cy)(ρ:az)(body:H bx)(h:H Es):cy:=
 xX body (λ st=>HR st (λ ay e=>xX ay (λ t=>gQ (QE t e) (qp c.gl p s (xQ c M p t e ρ) h ρ)) .au) .au) .au
def afF(c I:Cfg)(M:J)(s:bW)(run:Cfg->az->H bx->cy)(ρ:az)(st:bx):cy:=stK .au
   (λ u u u u u u u u u u=>.au)
   (λ u u u u u u u u u u u=>.au)
   (λ v u=>match v with
  |some e=>ly (ba c M s ρ e).1 ρ
  |none=>.ret (.ret (.d .none),ρ))
   (λ ay u=>xX ay (λ t=>xP t (λ o i=>BG c M s ρ o i) .au) .au)
   (λ ay e u=>xX ay (λ t=>xQ c M s t e ρ) .au)
   (λ t it body A u=>gQ A.isEmpty (gQ c.loops (sg s c.fuel t it (ba c M s ρ it).1 (λ ρ=>run c ρ body) ρ)))
   (λ t a b u=>fL (ba c M s ρ t).2 (run c ρ a) (run c ρ b))
   (λ e C u=>gQ C.isNone (sd e λ e=>QA c M s ρ e))
   (λ body h A f u=>gQ (!h.isEmpty&&(A.isEmpty&&f.isEmpty)) (afE c M s (run I) ρ body h))
   (λ e u=>gQ (qg e) (kK (ba c M s ρ e).1 ρ)) st
noncomputable def b4(c C:Cfg)(M:J)(s:bW):J->az->H bx->cy
 |0,_,_=>.au|_+1,ρ,[]=>oZ ρ|N+1,ρ,st::rest=>b5 (afF c C M s (λ c=>b4 c C M s N) ρ st) λ ar=>b4 c C M s N ar rest
theorem afG(C:dq g x q env n X)(K:gP g c n)(N:J):c9 g x X env ρ (fF (.Delete [.Subscript o i p] W) env) (BG c N q ρ o i):=by
 have y:=λ e=>(f7 K N q ρ e x env C.y C.cM).1;obtain T:ag g x _ (λ u u u u=>True) (PySem.delete (.Subscript o i p) env) _:=by exact ag.cv C.y (y o) λ R l=>(ag.hk C.y (C.y.hn R l) (y i).holding λ m t=>ag.standAt (λ α σ s f af I D p e Q E G z=>aB (((ag.holding (K.del x C.y.ok R l m t)).pre (pre':=λ α h=>(bp g x env ρ α h/\a9 _ α h R l)/\a9 _ α h m t) λ u u p=>⟨p.1.2,p.2⟩) α σ s f af I D p e _ _ (λ r A h' F aA k st v j a=>zw (G _ A h' F aA k st v j trivial)) z)))
 obtain V:BG c N q ρ o i=((ba c N q ρ o).1.bind λ l=>(ba c N q ρ i).1.bind λ t=>c.del l t).bind λ u=>.ret (.next,ρ):=by unfold BG;simp[Ev.assoc]
 obtain w:fF (.Delete [.Subscript o i p] W) env=(dZ W>>=λ u=>PySem.delete (.Subscript o i p) env>>=λ u=>pure ri):=by simp only[arm_exec_Delete,arm_deleteEach_cons,arm_deleteEach_nil];simp only[bind_assoc,pure_bind]
 simp only[V,w];exact ag.standAt ((ag.lift C T).bind λ u u=>ag.pure λ u u p=>⟨trivial,p.1⟩)
theorem dq.mark(c:dq g x s env n own)(e:ao):dq g (marked x e) s env 0 own:=by
 refine⟨⟨c.y.base,⟨c.y.ok.cY,c.y.ok.ew,c.y.ok.frames,λ h=>aR h (hu 0),?_,?_,c.y.ok.nolimit⟩,c.y.q⟩,c.cM,c.uz,c.w,c.top⟩
 ·obtain this:=c.y.ok.depth
  exact DR this
 ·obtain this:=c.y.ok.units
  show x.A.units+8*0+200<_;lia
theorem qq:c9 g x o env ρ t .au:=.au
theorem lC(m:gP g r 0)(M:J)(N:J):∀(c:Cfg)(n:J)(x:bD)(W:H ao)(env:cn)(ρ:az)(body:H bx),gP g c n->dq g x s env n W->c9 g x W env ρ (fG body env) (b4 c r M s N ρ body):=by
 induction N with
 |zero=>exact λ _ _ _ _ _ _ _ _ _=>qq
 |succ N I=>
  intro c n x W env ρ body K C;induction body with
  |nil=>exact qf
  |cons st rest=>exact o1 ((by
    have y:=λ e=>(f7 K M s ρ e x env C.y C.cM).1;rcases st with⟨_,_,_,_,_,_,_,_,_,_⟩|⟨_,_,_,_,_,_,_,_,_,_⟩|⟨_,_,_,_,_,_,_,_,_,_,_⟩|⟨v,p⟩|⟨ay,p⟩|⟨ay,e,p⟩|⟨_,_,_,_,_,_,_⟩|⟨_,_,_,_⟩|⟨_,_,_,_,_⟩|⟨t,R,body,A,p⟩|⟨_,_,_,_,_⟩|⟨_,_,_,_⟩|⟨t,a,b,p⟩|⟨_,_,_⟩|⟨_,_,_⟩|⟨_,_,_⟩|⟨e,w,p⟩|⟨body,k,A,f,p⟩|⟨_,_,_,_,_⟩|⟨_,_,_⟩|⟨_,_⟩|⟨_,_,_,_⟩|⟨_,_⟩|⟨_,_⟩|⟨e,p⟩|⟨_⟩|⟨_⟩|⟨_⟩;case Expr=>exact j6 λ V=>Bf C V (y e)
    case Return=>rcases v with _|e
                 ·exact(ag.pure λ u u p=>⟨aV.none,p⟩)
                 ·exact xx C (y e)
    case If=>exact PK C ((λ e=>(f7 K M s ρ e x env C.y C.cM).2) t) ((λ c n x=>I c n x W env) c n x ρ a K C) ((λ c n x=>I c n x W env) c n x ρ b K C)
    case Assign=>exact BH (λ t q=>L q (Qx C K M t e p)) qq
    case For=>exact j6 λ E=>j6 λ P=>L (k4.mp E) (afC (K.loops P) C (y R) λ ρ=>(λ c n x=>I c n x W env) c n x ρ body K C)
    case Raise=>exact j6 λ F=>HJ λ e Q=>Q▸zm.mp F▸afh C K M e p
    case Delete=>exact BH (λ t q=>HG (λ o i HI G=>L q (L G (afG C K M))) qq) qq
    case Try=>
     refine j6 λ T=>?_;have X:=bo T;have j:=bo X.2;rw[k4.mp j.1,k4.mp j.2];rcases k with _|⟨h,k⟩
     ·exact bw X.1
     refine BH (λ b afH=>afD (λ ay e q q1=>BH (λ t jc=>?_) qq) qq) qq;subst afH q1 jc;exact j6 λ fZ=>eM C.top λ z l X j=>aft K.G C X j (λ e ρ body=>(λ c n x=>I c n x W env) r 0 _ ρ body m (C.mark e)) (afk C K M _ _ _ fZ)
    all_goals exact qq)) λ ar=>I c n x W env ar rest K C
noncomputable def QW:D->aF
 |.int _=>S|_=>aj
noncomputable def QX:D->aF
 |.aS _=>S|_=>aj
def tM(ds:H D):Bool:=(ds.all QW||ds.all QX)&&!ds.isEmpty
def ry(o:eR)(ds:H D)(i j:J):Bool:=match ds[i]?,ds[j]? with|some a,B b=>(iv o a b).getD aj|_,_=>aj
def l5(o:eR)(ds:H D):U D:=bR (tM ds) ds[DP (ry o ds) (O ds-1)]?
def QY(vs:H aq)(ds:H D):Prop:=O vs=O ds/\((∀(i:J)(v:aq)(d:D),vs[i]?=B v->ds[i]?=B d->∃k t,v=.int k t/\d=.int k)\/(∀(i:J)(v:aq)(d:D),vs[i]?=B v->ds[i]?=B d->∃u t,v=.float u t/\d=.aS u))
theorem afI(h:QW d=S):∃i,d=.int i:=by
 rcases d with _|_|i|_|⟨_,_⟩|_|_|_;case int=>exact⟨i,rfl⟩
 all_goals exact bw h
theorem afJ(h:QX d=S):∃i,d=.aS i:=by
 rcases d with _|_|_|i|_|_|_|_|_|_|⟨_,_⟩;case aS=>exact⟨i,rfl⟩
 all_goals exact bw h
theorem QZ(r:bT X h vs ds)(e:tM ds=S):QY vs ds:=by
 have a:∀{i:J}{v:aq}{d:D},vs[i]?=B v->ds[i]?=B d->aV X h v d:=λ m l=>av (r.get l) λ V s R=>ak (Y s.symm m)▸R;refine⟨r.length,(Bool.or_eq_true_iff.mp (bF.mp e).1).imp (λ E i v d m l=>?_) λ E i v d m l=>?_⟩
 ·obtain⟨k,rfl⟩:=afI (b9.mp E d (eK l))
  obtain⟨t,rfl⟩:=(a m l).inv;exact(bh k t ⟨rfl,rfl⟩)
 ·obtain⟨k,rfl⟩:=afJ (b9.mp E d (eK l))
  exact av ((a m l).inv) λ t w u=>L w (bh k t ⟨rfl,rfl⟩)
theorem Q3{g:bX}(k:o=.Gt\/o=.Lt)(N:QY vs ds):CmpOf g.prog g.w A o (λ i v=>vs.toArray[i]?=B v) (ry o ds):=by
 intro i j V w s Q E x F h;have z:=N.1;obtain N:=N.2;have G:=by simpa using x
 have C:=by simpa using F
 have li:=z▸(jN.mp G).1;have l:=z▸(jN.mp C).1;obtain d:=tE li;obtain D:=tE l;unfold ry at h;rw[d,D]at h;dsimp only at h;refine L ((show La o V w=kv o V w by rcases k with rfl|rfl<;>rfl)) ?_;rcases N with N|N
 ·obtain⟨a,t,rfl,R⟩:=N i V _ G d
  obtain⟨b,u,rfl,f⟩:=N j w _ C D;rw[R,f]at h;cases e:iv o (.int a) (.int b)with
  |none=>rcases k with rfl|rfl<;>cases e
  |some c=>rw[e]at h;exact N8 e h
 ·obtain⟨a,t,rfl,R⟩:=N i V _ G d
  obtain⟨b,u,rfl,f⟩:=N j w _ C D;rw[R,f]at h;cases e:iv o (.aS a) (.aS b)with
  |none=>rcases k with rfl|rfl<;>cases e
  |some c=>rw[e]at h;exact N9 e h
noncomputable def afK:eR->b1
 |.Gt=> "max"|_=> "min"
theorem xY(e:l5 o ds=B d):tM ds=S/\ds[DP (ry o ds) (O ds-1)]?=B d:=bN e λ h e=>⟨h,e⟩theorem Q4(r:bT X h vs ds)(e:l5 o ds=B d)(k:vs.toArray[DP (ry o ds) (vs.toArray.size-1)]?=B v):aV X h v d:=by refine av (r.get (xY e).2) λ V W j=>?_;rw[hT,r.length,rb,W]at k;exact ax (ak k) j
theorem Q5(e:tM ds=S):0<O ds:=match ds,(bF.mp e).2 with|_::_,_=>fp _
def Q6(g:bX)(x:bD)(c:eR)(Q:aq->aU->Prop)(it:aq)(s:aU):Prop:=∃I f W n P St K,it=.ref I/\Walks g.prog g.w x.A.in1 I f W n P St/\St 0 s.heap/\(∀b∈f,b<s.heap.objs.size)/\0<n/\CmpOf g.prog g.w x.A.in1 c P K/\
   ∀v h' T,P (DP K (n-1)) v->(∀b o,b∉W->s.heap.get? b=B o->h'.get? b=B o)->Q v {s with heap:=h',toks:=T}def afL(x:bD)(α:H ao)(s:aU)(d:D)(r:aq)(s':aU):Prop:=∃h' t,s'=cT s h' t/\(∀b o,s.heap.get? b=B o->h'.get? b=B o)/\aV (x.P++α) s.heap r d
theorem Q7{g:bX}{K:bj aq}(G:hl x α s Q d)(h:aO (a5 g.prog g.w) x.A K (afL x α s d) (λ u u=>False) s):aO (a5 g.prog g.w) x.A K Q E s:=
 hS (GV h) (λ r u y=>by
  obtain⟨⟨h',t,rfl,k,R⟩,P⟩:=y;exact G r h' t k P.size (R.mono λ b o e n=>⟨k b o e,n⟩)) λ u u y=>y.1.elim
theorem Q8(f:x.A.handled=aa)(i:c=.Gt\/c=.Lt)(r:bT (x.P++α) s.heap vs ds)(e:l5 c ds=B d)(G:hl x α s Q d){K:bj aq}
  (l:∀(q:aq->aU->Prop)(E:aq->aU->Prop),aO (a5 g.prog g.w) x.A.in1 (tx (.ref s.heap.objs.size)) (Q6 g x c q) E {s with heap:=s.heap.push {cls:=.type "tuple",data:=.seq vs.toArray} } ->aO (a5 g.prog g.w) x.A K q E s)(E:aq->aU->Prop):aO (a5 g.prog g.w) x.A K Q E s:=by
 obtain h:IsT (s.heap.push {cls:=.type "tuple",data:=.seq vs.toArray}) s.heap.objs.size vs:=⟨0,d0 _ rfl⟩;obtain V:=et ..;refine Q7 G (l _ _ (Y0 h.iV (pV (s.heap.objs.size+1) _ _ vs.toArray.size _ _ _ ⟨ax V rfl,Walks.tuple (A:=x.A.in1) f (s.heap.objs.size+1) s.heap.objs.size (il (ko _)) vs.toArray,⟨?_,IsT.iV (a7 h λ n M=>⟨n,dy _ M⟩)⟩,?_,?_,Q3 i (QZ r (xY e).1),λ v h' T P k=>(bh h' T ⟨rfl,λ b o p=>k b o (by simp;exact il (kn (dI p))) (dy _ (dy _ p)),Q4 r e P⟩)⟩)))
 ·rw[<-V];exact⟨_,d0 _ rfl,rfl,rfl⟩
 ·intro b u
  rw[et,et];simp at u;rcases u with rfl|rfl
  ·exact ko _
  ·exact kn (ko _)
 ·simp[hT,r.length];exact Q5 (xY e).1
theorem afM(f:x.A.handled=aa)(i:c=.Gt\/c=.Lt)(w:IsL s.heap l vs)(r:bT (x.P++α) s.heap vs ds)(e:l5 c ds=B d)(G:hl x α s Q d){K:bj aq}
  (m:∀(q:aq->aU->Prop)(E:aq->aU->Prop),aO (a5 g.prog g.w) x.A.in1 (tx (.ref l)) (Q6 g x c q) E s->aO (a5 g.prog g.w) x.A K q E s)(E:aq->aU->Prop):aO (a5 g.prog g.w) x.A K Q E s:=by
 have h:=a7 w λ u=>dI;refine Q7 G (m _ _ (Eg w.isList (pV s.heap.objs.size _ _ vs.toArray.size _ _ _ ⟨rfl,Walks.list (A:=x.A.in1) f s.heap.objs.size l (il h) vs.toArray,⟨⟨_,d0 _ rfl,rfl,rfl⟩,w.isList.push _⟩,?_,?_,Q3 i (QZ r (xY e).1),λ v h' T n k=>(bh h' T ⟨rfl,λ b o p=>k b o (by simp;exact il (dI p)) (dy _ p),Q4 r e n⟩)⟩)))
 ·intro b t
  rw[et];simp at t;rcases t with rfl|rfl
  ·exact ko _
  ·exact kn h
 ·simp[hT,r.length];exact Q5 (xY e).1
def Q9(o:eR)(d:D):U D:=match d with|.ae ds=>l5 o ds|_=>aa
def BI(o:eR):H V->Ev V
 |[a]=>(Ev.read a).bind λ d=>Ev.ofD (Q9 o d)|[a,b]=>Ev.ofD ((fx [a,b]).bind (l5 o))|[a,b,c]=>Ev.ofD ((fx [a,b,c]).bind (l5 o))|_=>.au
theorem Q_(h:∀α s ds d,bT (x.P++α) s.heap vs ds->l5 o ds=B d->∀(Q:aq->aU->Prop)(E:aq->aU->Prop),hl x α s Q d->aO (a5 g.prog g.w) x.A (call F vs) Q E s):
  ag g x (λ α h=>bU (x.P++α) α h vs as) (dA x) (call F vs) (Ev.ofD ((fx as).bind (l5 o))):=by
 cases e:(fx as).bind _ with|none=>exact .au|some d=>exact b3 e λ ds y e=>ag.wp λ α σ s I t p Q E G=>h α s ds d (p.fx y) e Q E G
theorem Ra(f:x.A.handled=aa)(i:o=.Gt\/o=.Lt):eN g x (.builtin (afK o)) (BI o):=by
 intro vs as
 match as with
 |[]=>exact .au
 |[a]=>
  refine Hc λ v=>ag.ghost (λ α h=>qe) λ d=>ag.toV ?_;cases e:Q9 o d with
  |none=>exact .au
  |some r=>
   refine ag.wp λ α σ s I T p Q E G=>?_;rcases d with _|_|_|_|_|_|_|_|ds|_|⟨_,_⟩;case ae=>exact e4 p.2.mm λ l V W y R=>L W (afM f i y R e G (λ t E h=>i.elim (λ q=>by rw[q]at h ⊢;exact call_max_walk h) λ q=>by rw[q]at h ⊢;exact call_min_walk h) E)
   all_goals exact nn e
 |[a,b]=>exact r8 λ v u=>Q_ λ α s ds d R e Q E G=>Q8 f i R e G (λ t E h=>i.elim (λ q=>by rw[q]at h ⊢;exact call_max_two h) λ q=>by rw[q]at h ⊢;exact call_min_two h) E|[a,b,c]=>exact PG λ v u w=>Q_ λ α s ds d R e Q E G=>Q8 f i R e G (λ t E h=>i.elim (λ q=>by rw[q]at h ⊢;exact call_max_three h) λ q=>by rw[q]at h ⊢;exact call_min_three h) E|_::_::_::_::_=>exact .au
theorem afN(vs:H aq):Builtin.«zip.__new__» ⟨.type "zip" ::vs,[]⟩=(aoy vs>>=λ i=>Eb i>>=λ a=>Eb (i.map λ u=>jO)>>=λ b=>aoz (.type "zip") [.none,.bool aj,.bool aj,a,b]>>=λ r=>ret r):=by rfl
def HU(I:fE aq)(l:H aq):bj (H aq):=l.rec (motive:=λ u=>fE aq->bj (H aq)) (λ I=>pure I.toList) (λ v u F I=>d_ I.toList (tx v)>>=λ i=>F (I.push i)) I
theorem afO(vs:H aq):aoy vs=HU #[] vs:=by
 have k:∀vs I,(forIn vs I (λ v r=>(d_ r.toList (tx v)>>=λ i=>pure (m5 (r.push i)):bj _))>>=λ r=>pure r.toList)=HU I vs:=by intro vs;induction vs with|nil=>intro I;rfl|cons v vs g=>intro I;rw[k1,bind_assoc,bind_assoc];congr 1;funext i;exact g _
 exact k vs #[]def afP{β:Type}(v:V)(f:J->Ev β):Ev β:=match v with|.aH j=>f j|.d _=>.au
def HV(bS:H V):Ev (H J):=bS.rec (motive:=λ u=>Ev (H J)) (.ret []) (λ a as dF=>(g8 a).bind λ v=>afP v λ j=>(dF).bind λ js=>.ret (j::js))noncomputable def Rb(js:H J):Ev V:=λ σ=>B (.ok (.aH (O σ+1)),(σ++ [.gD (O js)])++ [.it (.zip js (O σ))])
def o9(as:H V):Ev V:=match aL (O as) 2|| (aL (O as) 3||Nat.beq (O as) 4)with
 |true=>(HV as).bind Rb|false=>.au
theorem ag.mapR{e p q:Type}{pre:H ao->aX->Prop}{post:H ao->aX->e->p->Prop}{post':H ao->aX->e->q->Prop}{t:bj e}{m:Ev p}{f:p->q}(h:ag g x pre post t m)(u:∀α h b a,post α h b a->post' α h b (f a)):ag g x pre post' t (m.bind λ a=>.ret (f a)):=by
 obtain this:=ag.Oa (f:=id) h u
 rwa [show(t>>=λ b=>(tg (id b):bj e))=t from YS t]at this
def BJ(α:H ao)(i:H aq)(js:H J):Prop:=∃bs:H ao,i=bs.map hP/\(js.map λ j=>α[j]?)=bs.map B
theorem afQ(G:cb x.F x.P)(t:cb x.W x.P):∀(vs:H aq)(as:H V)(I:fE aq)(s:H J),
  ag g x (λ α h=>bU (x.P++α) α h vs as/\BJ α I.toList s) (λ α h r js=>O js=O as/\BJ α r (s++js)) (HU I vs) (HV as)
 :=by
  intro vs;induction vs with
  |nil=>
   intro as I s;induction as with
   |nil=>exact ag.pure λ α h p=>⟨rfl,L (ea ..) p.2⟩|cons=>exact λ u u u u u u u p=>nomatch p.1
  |cons v vs l=>
   intro as I s;induction as with
   |nil=>exact λ u u u u u u u p=>nomatch p.1
   |cons a as=>
   refine ag.bind (((AL λ u u p=>p).holding.frame (λ α h aA h' st q=>⟨wZ G t vs as _ _ _ _ st q.1,av q.2 λ bs W k=>av st.ext λ u e u=>⟨bs,W,L e (NO k)⟩⟩:kD x λ α h=>bU _ α h vs as/\BJ α I.toList s)).pre λ α h p=>?_) λ i w=>?_
   ·cases p.1 with|cons r n=>exact⟨r,n,p.2⟩
   ·induction w with
    |d=>exact .au
    |aH j=>
     refine((l as _ (s++ [j])).mapR λ α h b js p=>⟨aM _ p.1,?_⟩).pre λ α h p=>⟨p.2.1,?_⟩
     ·exact av p.2.2 λ bs W k=>(av p.1 λ b y e=>⟨bs++ [b],L (e ..) (L Array.toList_push (L W (L vR rfl))),L (vR ..) (L vR (L k (aM (λ o=>bs.map B++ [o]) y)))⟩)
     ·rw[Eu];exact p.2
noncomputable def afR(i:H aq):bj Fin:=Eb i>>=λ a=>Eb (i.map λ u=>jO)>>=λ b=>aoz (.type "zip") [.none,.bool aj,.bool aj,a,b]>>=λ r=>ret r
def Rc(x:bD)(α:H ao)(h:aX)(f:Fin)(r:V):Prop:=∃z,f=.done (.ret (.ref z))/\a9 (x.P++α) α h (.ref z) r/\∃o,h.get? z=B o/\o.cls=.type "zip"
theorem afS(z:js.length<=4):ag g x (λ α u=>BJ α v js) (Rc x) (afR v) (Rb js):=by
 intro α σ s o af I T p e Q E K y;refine av p λ bs W h=>L W ?_;obtain e:=bf (ak e);have t:O (bs.map hP)=O js:=by obtain this:=aM O h;rw[gh,gh]at this;rw[gh];exact this.symm
 obtain a:∀P:H aq,O P=O js->sizeOk (.seq P.toArray):=λ P X=>by show P.toArray.size<=ku;rw[hT,X];exact bA z (by decide)
 obtain b:=Y (gh λ u=>jO) t;refine aB (kx (aB (kx (aB ?_) (a _ b))) (a _ t));show aO _ _ (newObj _ (.fields #[.none,.bool aj,.bool aj,.ref s.heap.objs.size,.ref _])) _ E _;refine kx (bl ?_) (by show 5<=ku+2;decide);obtain j:=(I.keeps (h':=s.heap.push {cls:=.type "tuple",data:=.seq (bs.map hP).toArray}) (λ u u=>dy _) (L (et ..) (hg _))).new {cls:=.type "tuple",data:=.seq ((bs.map hP).map λ u=>jO).toArray} (.gD _) ⟨_,b,d0 _ rfl⟩;obtain i:(s.heap.push {cls:=.type "tuple",data:=.seq (bs.map hP).toArray}).get? s.heap.objs.size=B _:=d0 _ rfl;obtain G:=dy {cls:=.type "tuple",data:=.seq ((bs.map hP).map λ u=>jO).toArray} i;obtain w:=j.1.new {cls:=.type "zip",data:=.fields #[.none,.bool aj,.bool aj,.ref s.heap.objs.size,.ref (s.heap.push {cls:=.type "tuple",data:=.seq (bs.map hP).toArray}).objs.size] } (.it (.zip js (O σ))) (e_ s.heap.objs.size _ bs ⟨L (eb ..) (NO h),ax I.bM.length (iD h6),uk G (uk i I.fresh),d0 _ rfl,dy _ G⟩);obtain r:=w.2.2;simp only[e2]at r;exact K _ _ _ s.toks _ e.1.symm ((a_.push ..).trans (j.2.1.trans w.2.1)) (ax e.2 w.1) T ⟨_,rfl,r,_,d0 _ rfl,rfl⟩
theorem afT(G:cb x.F x.P)(t:cb x.W x.P)(vs:H aq)(as:H V):
  ag g x (λ α h=>bU (x.P++α) α h vs as) (Rc x) (Builtin.«zip.__new__» ⟨.type "zip" ::vs,[]⟩) (o9 as):=by
 unfold o9;cases z:aL _ 2|| (aL _ 3||Nat.beq _ 4)with
 |false=>exact .au|true=>
 obtain i:O as<=4:=by simp[lY,Nat.beq_eq]at z;lia
 rw[afN,afO];refine ag.bind ((afQ G t vs as #[] []).pre λ α h p=>⟨p,[],rfl,rfl⟩) λ v js=>?_;intro α σ s o af I T p;exact afS (L p.1 i) α σ s o af I T p.2
theorem afU(a b c:aq):Zo "zip" ⟨[a,b,c],[]⟩=pure ():=by lk
theorem afV(a b c:aq):Zp "zip.__new__" ⟨[.type "zip",a,b,c],[]⟩=pure ():=by lk
theorem afW(a b c d:aq):Zo "zip" ⟨[a,b,c,d],[]⟩=pure ():=by lk
theorem afX(a b c d:aq):Zp "zip.__new__" ⟨[.type "zip",a,b,c,d],[]⟩=pure ():=by lk
theorem afY(a b c d:aq):we "object.__init__" ⟨[a,b,c,d],[]⟩:=by unfold we;lk
theorem afZ(a b c d e:aq):we "object.__init__" ⟨[a,b,c,d,e],[]⟩:=by unfold we;lk
theorem af0(G:cb x.F x.P)(u:cb x.W x.P):eN g x (.type "zip") o9:=by
 intro vs as;intro α σ s k af I D p e Q E K y;obtain j:(aL _ 2|| (aL _ 3||Nat.beq _ 4))=true:=by
  cases h:aL _ 2|| (aL _ 3||Nat.beq _ 4)with
  |true=>rfl|false=>unfold o9 at e;rw[h]at e;exact nn e
 obtain f:Zo "zip" ⟨vs,[]⟩=pure _/\Zp "zip.__new__" ⟨.type "zip" ::vs,[]⟩=pure _/\∀obj,we "object.__init__" ⟨obj::vs,[]⟩:=by
  rw[<-p.length]at j;rcases vs with _|⟨a,_|⟨b,_|⟨c,_|⟨d,_|⟨wQ,vs⟩⟩⟩⟩⟩
  ·exact bw j
  ·exact bw j
  ·exact⟨F.typeCall_zip_2 _ _,F.newCall_zip_2 _ _,λ obj=>F.args_object_init_3 obj _ _⟩
  ·exact⟨afU _ _ _,afV _ _ _,λ obj=>afY obj _ _ _⟩
  ·exact⟨afW _ _ _ _,afX _ _ _ _,λ obj=>afZ obj _ _ _ _⟩
  ·exact bw j
 refine ff f λ V m w=>(callType_newIn F.called_zip rfl V m w F.entry_zip_new (λ A R s h=>h) (afT (x:={x with A:=x.A.in1.in1}) G u vs as α σ s k af ⟨I.base,I.big,I.b2,I.alive,I.dv,I.c8,I.bM,I.fr,I.old⟩ D p e _ _ (λ n r h' C aA l st i T W=>?_) λ M cl X h' C aA l st T N=>?_))
 ·obtain⟨z,rfl,q,o,c5,cw⟩:=W
  exact⟨⟨o,c5,cw⟩,K _ r h' C aA l st ⟨i.base,i.big,i.b2,i.alive,i.dv,i.c8,i.bM,i.fr,i.old⟩ T q⟩
 ·apply y M cl X h' C aA l st T
  obtain⟨Sq,t,v,a,I,h1,eE,dP,Gj,jt⟩:=N;exact⟨Sq,t,v,a,⟨I.base,I.big,I.b2,I.alive,I.dv,I.c8,I.bM,I.fr,I.old⟩,h1,eE,dP,Gj,jt⟩theorem ctt(h:∀b,Q b s):aO M A (Builtin.SmallTypes.calledThroughType v) Q E s:=aB (wpAny_stack_any λ st=>bl (h _))
set_option maxRecDepth 100000 in
theorem af1(l:ao)(items:fE aq)(n:J)(fY:U ao)(o:fE (U aq)):
  Meets (Builtin.«enumerate.__new__» ⟨[.type "enumerate",.ref l],[]⟩) (λ u R s=>s.heap.get? l=B {cls:=.type "tuple",dict:=fY,data:=.seq items n,slots:=o} /\
   R (.ok (.ret (.ref (s.heap.push {cls:=.type "tuple_iterator",data:=.fields #[.ref l,.int 0 0] }).objs.size)))
    {s with heap:=(s.heap.push {cls:=.type "tuple_iterator",data:=.fields #[.ref l,.int 0 0] }).push {cls:=.type "enumerate",data:=.fields #[.none,.bool aj,.ref s.heap.objs.size,gz 0,.none,.none] } }):=
 .of_wp λ prog w A R s h=>by
  obtain⟨z,h⟩:=h;have I:=sub_enumerate;have y:Heap.IsTuple s.heap l items:=⟨_,z,rfl,n,rfl⟩;wp_walk using aoA z,ctt;intro b;induction b
  all_goals
   wp_walk using aoA z,Y0 y
   exact⟨_,rfl,h⟩noncomputable def BK{A:Type}(f:H D->U A)(d:D):U A:=match d with|.aD xs=>f xs|_=>aa
theorem HW{A:Type}{f:H D->U A}{r:A}(e:BK f d=B r){G:Prop}(k:∀xs,d=.aD xs->f xs=B r->G):G:=by
 rcases d with _|_|_|_|_|_|_|_|_|xs|⟨_,_⟩;case aD=>exact k xs rfl e
 all_goals exact nn e
def xZ(as:H V):Ev V:=λ σ=>one as λ a=>hi a (BK λ xs=>B (.ok (.aH (O σ+1)),(σ++ [.it (.aD xs 0)])++ [.it (.enu (O σ) 0)]))
section
variable {g:bX}{x:bD}
theorem af2:eN g x (.type "enumerate") xZ:=by
 intro vs as;intro α σ s o af I t p e Q E h z;refine j4 e λ V y R=>iA R λ d j R=>HW R λ xs F dQ=>?_;subst y j F;obtain u:=bf (ak dQ);obtain⟨v,rfl⟩:=uG p;obtain r:=qe p;refine eg r.inv λ l w ev N W P=>?_;obtain⟨n,M⟩:=W;refine L ev ?_
 ·skip
  refine callType_new PySem.F.called_enumerate rfl (PySem.F.typeCall_enumerate_1 _) (PySem.F.newCall_enumerate_1 _) (λ obj=>PySem.F.args_object_init_2 obj _) PySem.F.entry_enumerate_new (af1 l w.toArray n aa #[]) ⟨M,?_⟩;obtain m:d2 g.w.params _ _ (s.heap.push {cls:=.type "tuple_iterator",data:=.fields #[.ref l,.int 0 0] }) s.heap.objs.size (.it (.aD xs 0)):=
   (bh l w ⟨⟨_,d0 _ rfl,rfl,rfl⟩,uk M N,⟨n,dy _ M⟩,P.mono (rW _)⟩)
  obtain q:=I.new _ _ m;obtain i:=q.1.new {cls:=.type "enumerate",data:=.fields #[.none,.bool aj,.ref s.heap.objs.size,gz 0,.none,.none] } (.it (.enu (O σ) 0)) (bh s.heap.objs.size .none ⟨ax I.bM.length (iD h6),d0 _ rfl⟩);obtain r:=i.2.2;simp only[e2]at r;exact⟨⟨_,d0 _ rfl,rfl⟩,h _ _ _ _ _ u.1.symm (q.2.1.trans i.2.1) (ax u.2 i.1) t r⟩def HX(as:H V):Ev V:=λ σ=>match one as λ a=>hA a λ i=>jW σ[i]? B with|some xs=>bR (dc xs) (B (.ok (.aH (O σ)),σ++ [.ae xs]))|none=>PI as σ
theorem af3(j:x.A.handled=aa):eN g x (.type "list") HX:=by
 intro vs as;intro α σ s o af I t p e Q E K y;unfold HX at e;refine eD (one as λ a=>hA a λ i=>jW σ[i]? B) (λ h=>?_) λ xs h=>?_
 ·rw[h]at e;exact aeg j vs as α σ s o af I t p e Q E K y
 ·
  simp[h]at e;refine bN e λ N R=>j4 h λ d z f=>nx f λ i q f=>oP f λ X M f=>?_;obtain u:=bf (ak R);rw[ak f]at M;subst z q;obtain⟨v,rfl⟩:=uG p;exact av (qe p) λ l c w=>L w (av (I.look c M) λ T W r=>a7 W λ n R=>g4 (call_list_seq l (.inl rfl) R rfl rfl (λ h' c' k V G=>K _ _ h' s.toks _ u.1.symm ((a_.of_keeps k G.size).Hi (bH _)) (ax u.2 (I.more k G.size G.gone λ b=>⟨T,⟨c',V⟩,r.mono b⟩)) t ⟨_,ax I.bM.length h6,rfl⟩) (L hT (L r.length (b8 N)))))
end
def HY(d:D)(t:b1):U D:=match d with|.bool _=>bR (t=="bool") (B (.bool S))|.aS _=>bR (t=="float") (B (.bool S))|_=>aa
def af4(as:H V):Ev V:=match as with
 |[a,b]=>match b with
  |.d d=>match d with
   |.ty t=>(Ev.read a).bind λ d=>Ev.ofD (HY d t)|_=>.au
  |.aH _=>.au
 |_=>.au
noncomputable def wx:D->U b1
 |.none=>B "NoneType"|.str _=>B "str"|.ae _=>B "list"|_=>aa
noncomputable def af5:D->U D
 |.none=>B (.str "None")|_=>aa
noncomputable def Rd:H String:=["ValueError","AssertionError"]def af6(f:ai->U D)(xs:H D):U D:=match xs with|[]=>aa|x::t=>match t with|[]=>hB f x|_::_=>aa
def BL:D->U D
 |.int i=>uH (.int i)|.exc c xs=>af6 (λ s=>bR (Rd.contains c) (B (.str s))) xs|_=>aa
def BM:D->U D:=iX λ i=>B (.int (ja i))def lD:D->U D:=hB λ s=>a8 (aZ s.length 5592405) (B (.str (LB s)))def Rf:D->U D:=hB λ s=>a8 (aZ s.length 5592405) (B (.str (PySem.Txt.upper s)))
theorem af7:eN g x (.type "type") (e5 (λ d=>(wx d).map D.ty)):=
 oW (λ v d r e α σ s I T p Q E h=>by
  refine av (hR.mp e) λ t R j5=>?_;subst j5;cases d with
  |none=>
   cases(ak R);obtain rfl:=p.inv;refine Ls (El (bl ⟨LC _ (by decide+kernel),codeAny_builtin aoB ?_⟩));repeat wp_step
   exact(h _ s.heap s.toks (λ u u e=>e) (bH _) (.ty _))
  |str z=>
   obtain rfl:=ak R;obtain⟨t,rfl⟩:=p.str;refine Ls (El (bl ⟨LC _ (by decide+kernel),codeAny_builtin aoB ?_⟩));repeat wp_step
   exact(h _ s.heap s.toks (λ u u e=>e) (bH _) (.ty _))
  |ae xs=>obtain rfl:=ak R;refine e4 p.mm λ l V w W n=>L w ?_;obtain⟨N,M⟩:=W;obtain⟨q,G,d,t,os⟩:=s;exact call_type_obj M rfl (h _ q t (λ u u e=>e) (bH _) (.ty _))|_=>exact nn R)
theorem Rg:eN g x (.builtin "int.bit_length") (e5 BM):=
 Bb λ u u u e u u u h=>call_int_bit_length (h _ _ (ax (ak e) (.int _ _)))
theorem Rh(X:x.A.units+2<rk):eN g x (.type "str") (e5 BL):=
 oW (λ v d r e α σ s I F p Q E G=>by
  rcases d with _|_|i|_|_|_|_|_|_|_|⟨c,xs⟩;case int=>obtain⟨t,rfl⟩:=p.int;exact str_int e G.plain
  case exc=>
   obtain⟨a,o,T,t,vs,rfl,N,A,j,b,M,f,R,n⟩:=((show aV (x.P++α) s.heap v (.exc c xs) by cases p;assumption).inv);cases xs with
   |nil=>exact nn e|cons y C=>
   induction C with
   |cons=>exact nn e|nil=>
   rcases y with _|_|_|_|z|_|_|_|_|_|⟨_,_⟩
   case str=>
    refine bN e λ V e=>(e4 n.nu λ v k W D q=>?_);subst W;obtain⟨u,rfl⟩:=D.inv;obtain rfl:=D2.mp q.length;obtain K:s.heap.ExcAt a c _:=(bh o T ⟨A,j,b,M⟩);obtain h:=G (.str z u) s.heap s.toks (λ w w e=>e) (bH _) (ak e▸.str _ _);simp only[Rd,Zj,Zk,Ly,lY,cI]at V;rcases V with rfl|rfl
    ·exact P.str_of_exc_one PySem.F.excStr_ValueError X K R h
    ·exact P.str_of_exc_one PySem.F.excStr_AssertionError X K R h
   all_goals exact nn e
  all_goals exact nn e)
section
open AutoSeq1 (wpAny_loadPart')noncomputable def B6(I:fE aq)(x:aq):J->U Fin×gL->bj (pH (U Fin×gL)):=λ i u=>match I[i]? with|some y=>eqBool y x>>=λ b=>if b=S then(retInt i>>=λ r=>pure (ForInStep.done (B r,())))else pure (m5 (aa,()))|none=>pure (m5 (aa,()))
theorem ahq{e:aq->aF}{j:J}(D:j<items.size)(o:e items[j]=S)(l:∀m (p:m<items.size),m<j->e items[m]=aj)
  (z:∀y,y∈items->EqAt A s y x (e y))(C:Q (B (.done (.ret (.int j s.toks))),()) {s with toks:=s.toks+1}):∀(k i m:J),j-i=k->i<=j->j<i+m->aO (a5 prog w) A (forIn (km i m) (aa,()) (B6 items x)) Q E s:=by
 intro k;induction k with
 |zero=>
  intro i m n t p;cases(D0 t (aoJ n));rcases m with _|m
  ·exact aR p (hu _)
  rw[Yz,k1];apply aB;dsimp only[B6];refine(aoS D).symm▸aB (z _ (aoT D) prog w _ _ ?_);exact o.symm▸aB (aB (wpAny_mkInt (bl (bl (bl C)))))
 |succ k g=>
  intro i m n t p;have h:i<items.size:=gg ‹_› ‹_›;rcases m with _|m
  ·exact aR p (er.mpr t)
  rw[Yz,k1];apply aB;dsimp only[B6];refine(aoS h)▸aB (z _ (aoT h) prog w _ _ ?_);exact(l i h (Zy n)).symm▸(bl (g _ m (aM Nat.pred n) (Zy n) (L (Lb i m) p)))
set_option maxRecDepth 100000 in
theorem agf(l:ao)(I:fE aq)(n:J)(d:U ao)(E:fE (U aq))(x:aq)(e:aq->aF)(j:J)(D:j<I.size)
  (o:e I[j]=S)(k:∀m (p:m<I.size),m<j->e I[m]=aj):
  Meets (Builtin.«tuple.index» ⟨[.ref l,x],[]⟩)
   (λ A R s=>s.heap.get? l=B {cls:=.type "tuple",dict:=d,data:=.seq I n,slots:=E} /\(∀y,y∈I->EqAt A.in1 s y x (e y))/\R (.ok (.ret (.int j s.toks))) {s with toks:=s.toks+1}):=by
 intro prog w A R s h;refine ff h λ z a h=>?_;dsimp only[Builtin.«tuple.index»];simp-iota only[Std.Legacy.Range.forIn_eq_forIn_range'];repeat (first|refine wpAny_loadPart' z ?_|wp_step)
 refine AS ?_ (ahq D o k a ?_ j 0 ((min I.size I.size-0+1-1)/1) rfl (Zl _) (by lia))
 ·show(forIn (km 0 _) _ _:bj _)=forIn _ _ _
  congr 1;funext i r;unfold B6;cases I[i]? <;>rfl
 ·exact bl h
end
def qr:H V->Ev V
 |[a,v]=>match a with
  |.aH i=>(oU i v).bind λ u=>.ret (.d .none)|.d _=>.au
 |_=>.au
def BN:H V->Ev V
 |[a]=>match a with
  |.aH i=>λ σ=>match σ[i]? with
   |some (.ae xs)=>match dc xs with
    |true=>B (.ok (.d .none),σ.set i (.ae xs.reverse))|false=>aa
   |_=>aa
  |.d _=>.au
 |_=>.au
noncomputable def uQ:H D->U (H ai)
 |[]=>B []|.str s::xs=>(uQ xs).map (s:: ·)|_::_=>aa
def x1(s:ai):D->U D
 |.ae xs=>(uQ xs).bind λ o=>a8 (JoinOk s o) (B (.str (aoC s o)))|_=>aa
def Ri:H V->Ev V
 |[a,b]=>match a with
  |.d (.str s)=>(Ev.read b).bind λ d=>Ev.ofD (x1 s d)|_=>.au
 |_=>.au
noncomputable def BO(x y:ai):U D:=match Ld x y 0 x.length 1 with|i::_=>B (.int (i:J))|[]=>aa
def o_(y:D)(bS:H D):U Nat:=bS.rec (motive:=λ u=>U J) (aa) (λ x xs dF=>match g5 g6 x y with
  |some S=>B 0|some aj=>(dF).map (· +1)|none=>aa)
def af8:H V->Ev V
 |[a,b]=>(Ev.read a).bind λ d=>(Ev.read b).bind λ D=>match d with
  |.str x=>match D with
   |.str y=>Ev.ofD (BO x y)|_=>.au
  |_=>.au
 |_=>.au
def Rj:H V->Ev V
 |[a,b]=>(Ev.read a).bind λ y=>(Ev.read b).bind λ d=>match y with
  |.aD xs=>match jZ g6 xs d with
   |some S=>Ev.ofD ((o_ d xs).map λ j=>D.int (j:J))|_=>.au
  |_=>.au
 |_=>.au
def af9:H V->Ev V
 |[a,b]=>(Ev.read a).bind λ y=>(Ev.read b).bind λ d=>match y with
  |.ae xs=>match jZ g6 xs d,dc xs with
   |some S,S=>Ev.ofD ((o_ d xs).map λ j=>D.int (j:J))|_,_=>.au
  |_=>.au
 |_=>.au
theorem af_(h:cb x.F x.P):eN g x (.builtin "list.append") qr:=by
 intro vs as
 match as with
 |[]=>exact .au|[_]=>exact .au|_::_::_::_=>exact .au|[a,b]=>
 induction a with
 |d=>exact .au|aH i=>
 intro α σ s o af I t p e Q E G y;refine f5 (Bc p) λ v u w=>?_;subst w;refine av ((oX p)) λ l z W=>L W (adG e λ D V r e=>?_);cases e;exact Pf h I z (r7 p) r λ h' st C=>G .none _ h' s.toks α rfl st C t aV.none
theorem aga(K:cb x.F x.P):eN g x (.builtin "list.reverse") BN:=by
 intro vs as
 match as with
 |[]=>exact .au|_::_::_=>exact .au|[a]=>
 induction a with
 |d=>exact .au|aH i=>
 intro α σ s f af I t p e Q E u z;obtain⟨v,rfl⟩:=uG p;refine av ((qe p)) λ l h w=>L w (av (I.bM.get h) λ m y V=>?_);obtain e:(match σ[i]? with
   |some (.ae xs)=>match dc xs with
    |true=>B _|false=>aa
   |_=>aa:U _)=B _:=e
 rw[y]at e;induction m with
 |ae xs=>
  dsimp only at e;cases G:dc xs with
  |false=>rw[G]at e;exact nn e|true=>
  rw[G]at e;cases e;refine av V λ R W r=>?_;obtain⟨N,M⟩:=W;refine D7 aoD ⟨_,M,rfl⟩ PySem.F.entry_list_reverse (PySem.F.args_list_reverse_1 _) (AutoSeq1.list_reverse_list_0 l R.toArray N (L hT (L r.length (b8 G)))) ⟨M,?_⟩;obtain j:(s.heap.update l (zC λ x=>x.reverse)).get? l=B {cls:=.type "list",data:=.seq R.reverse.toArray N} :=by rw[Ek _ M rfl,mapSeq_reverse]
  obtain c:=tB ..;exact cq (I.upd K h (m:=.ae xs.reverse) (λ b o q e=>Y (c.2 b q) e) (fV c.1.symm) ⟨_,⟨N,j⟩,(r.mono (λ b o e n=>⟨Y (c.2 b (λ q=>n (L q (aW _ (eK h))))) e,n⟩)).reverse⟩) λ C st=>(u .none _ _ s.toks α rfl st C t aV.none)
 |_=>exact nn e
theorem agb:∀{ss:H ai}{vs:H aq},uQ xs=B ss->bT X h vs xs->∃l:H (ai×Tok),vs=strValues l/\l.map (·.1)=ss:=by
 induction xs with
 |nil=>intro ss vs e r;exact⟨[],zv r.length,ak e⟩
 |cons x xs I=>
  intro ss vs e r;rcases x with _|b|i|u|s|n|n|a|xs|xs|⟨c,xs⟩;case str=>refine gE e λ y E w=>ax w (e4 r.nu λ v P ev a r=>a7 a.inv λ t N=>av (I E r) λ l W j=>?_);simp[ev,N,W];exact⟨(s,t)::l,rfl,aM _ j⟩
  all_goals exact nn e
theorem agc:eN g x (.builtin "str.join") Ri:=by
 intro vs as
 match as with
 |[]=>exact .au|[_]=>exact .au|_::_::_::_=>exact .au|[a,b]=>
 induction a with
 |aH=>exact .au|d a=>
 rcases a with _|_|_|_|n|_|_|_|_|_|⟨_,_⟩
 case str=>
  refine r8 λ v u=>(ag.ghost (λ α h=>r7) λ d=>ag.toV ?_);cases e:x1 n d with
  |none=>exact .au
  |some r=>
   refine ag.wp λ α σ s I D p Q E G=>?_;obtain⟨P,R⟩:=p;refine a7 ((oX P).inv) λ t M=>L M ?_;rcases d with _|_|_|_|_|_|_|_|xs|_|⟨_,_⟩;case ae=>refine av (rm.mp e) λ X T f=>?_;obtain⟨ok,y⟩:=dn f;obtain rfl:=ak y;refine e4 R.mm λ l A W z V=>L W (av (agb T V) λ i o j=>?_);subst o;exact SC.join z.isList j ok λ C k=>G _ s.heap k (λ w w e=>e) (bH _) (.str _ _)
   all_goals exact nn e
 all_goals exact .au
theorem agd{A:m8}{s:aU}{n:J}{e:aq->aF} :∀{xs:H D}{vs:H aq}{j:J},o_ y xs=B j->bT X s.heap vs xs->(∀v∈vs,∃d,aV X s.heap v d/\g5 g6 d y=B (e v))->(∀v∈vs,∀d,aV X s.heap v d->∀b,g5 g6 d y=B b->b=e v)->
   ∃h:j<O vs,e vs[j]=S/\∀m (p:m<O vs),m<j->e vs[m]=aj
 :=by
  intro xs;induction xs with
  |nil=>exact λ h=>nn h
  |cons x xs i=>
   intro vs j h r k u;cases r with
   | @cons v vs _ _ a r=>
   dsimp only[o_]at h;cases E:g5 g6 x y with
   |none=>rw[E]at h;exact nn h|some b=>
   obtain q:=u v (cV ..) x a b E;rw[E]at h;induction b with|true=>exact ax (ak h) ⟨fp _,q.symm,λ m p W=>aR W (zr _)⟩|false=>refine av (hR.mp h) λ o C w=>ax w (av (i C r (λ v l=>k v (c7 _ l)) λ v l=>u v (c7 _ l)) λ g G c=>(⟨Nat.succ_lt_succ g,G,λ m p W=>?_⟩));induction m with|zero=>exact q.symm|succ m=>exact c m _ (Zq W)
theorem HZ{k:D->D->Ev V}{ev:H V->Ev V}(f:∀a b,ev [a,b]=(Ev.read a).bind λ d=>(Ev.read b).bind λ N=>k d N)(i:∀as,(∀a b,as≠ [a,b])->ev as=.au)
  (h:∀v u d N,ag g x (λ α h=>RD (x.P++α) h v d/\RD (x.P++α) h u N) (dA x) (call F [v,u]) (k d N)):eN g x F ev:=by
 intro vs as
 match as with
 |[]=>rw[i _ (λ w w q=>by cases q)];exact .au|[_]=>rw[i _ (λ w w q=>by cases q)];exact .au|_::_::_::_=>rw[i _ (λ w w q=>by cases q)];exact .au|[a,b]=>
 simp[f];exact r8 λ v u=>(ag.ghost (λ α h=>oX) λ d=>ag.ghost (λ α h p=>by cases p.1 with|cons _ r=>cases r with|cons r _=>exact r) λ N=>((h v u d N).pre λ w w p=>⟨p.1.2,p.2⟩))
theorem H0{ev:H V->Ev V}(h:ev []=.au)(W:∀a,ev [a]=.au)(v:∀a b c d,ev (a::b::c::d)=.au):∀as,(∀a b,as≠ [a,b])->ev as=.au
 |[],_=>h|[a],_=>W a|[a,b],n=>aR rfl (n a b)|a::b::c::d,_=>v a b c d
theorem Rk(q:tv s.heap)(C:A.units+60<rk)(t:aV X s.heap u y)(R:bT X s.heap vs xs)(z:jZ g6 xs y=B S)(D:o_ y xs=B j):
  ∃e:aq->aF,(∀v∈vs,EqAt A s v u (e v))/\∃h:j<O vs,e vs[j]=S/\∀m (x:m<O vs),m<j->e vs[m]=false:=by
 refine av (wR (F4 g6 A s q C) t vs xs S R z) λ e w f=>(⟨e,λ v k=>(f v k).1,agd (n:=0) (A:=A) D R (λ v k=>gF ((f v k).2) λ d a w b=>⟨d,a,b⟩) λ v k d W b p=>?_⟩);obtain⟨_,i,r,F,E⟩:=f v k;exact ak (((aV.simp r W F E p)▸p).symm.trans E)
theorem age(Bq:Base g)(X:x.A.units+200<rk):eN g x (.builtin "tuple.index") Rj:=by
 refine λ vs as=>HZ (λ a b=>rfl) (H0 rfl (λ w=>rfl) λ w w w w=>rfl) (λ v u c d=>?_) vs as;rcases c with _|_|_|_|_|_|_|_|_|xs|⟨_,_⟩
 case aD=>
  dsimp only;cases k:jZ g6 xs d with
  |none=>exact .au|some b=>
  induction b with
  |false=>exact .au|true=>
  cases e:(o_ d xs).map λ j=>D.int _ with
  |none=>exact .au
  |some r=>
   refine av (hR.mp e) λ j C W=>ax W (ag.wp λ α σ s I t p Q E G=>(e4 p.1.t9 λ l R i z n=>L i ?_));obtain⟨N,M⟩:=z;obtain⟨f,F,V,P,K⟩:=Rk (A:=x.A.in1) (wV Bq.booked I.base) (un X (by decide)) p.2.zero (n.mono λ b o e w=>⟨e,dS⟩) k C;exact D7 PySem.F.slot_tuple_index ⟨_,M,rfl⟩ PySem.F.entry_tuple_index (PySem.F.args_tuple_index_2 _ _) (agf l R.toArray N aa #[] u f j _ P λ m q h=>K m _ h)
    ⟨M,λ y T=>F y (by simpa using T),G _ s.heap _ (λ w w e=>e) (bH _) (.int _ _)⟩
 all_goals exact .au
abbrev Tab:=ao->U (H (ah×ai))
noncomputable def tT(k:ah):H (ah×ai)->U ai
 |[]=>aa|(n,s)::es=>if n=k then B s else tT k es
def Fb(g:bX)(tab:Tab):Prop:=∀a K,tab a=B K->(a==th)=aj/\∃f,g.K.MapOf (tm g.prog g.w) a f/\∀k,match tT k K with|some s=>∃t,f k=B (.str s t)|none=>f k=aa
noncomputable def uR{A:Type}(f:ao->U A)(d:D):U A:=match d with|.obj o=>f o|_=>aa
theorem BQ{A:Type}{f:ao->U A}{r:A}(e:uR f d=B r){G:Prop}(k:∀o,d=.obj o->f o=B r->G):G:=by
 rcases d with _|_|_|_|_|_|_|o|_|_|⟨_,_⟩;case obj=>exact k o rfl e
 all_goals exact nn e
def H7(k:ah)(K:H (ah×ai)):D:=match tT k K with|some s=>.str s|none=>.none
def x4(tab:Tab)(a b:V):Ev V:=match hi a (uR tab)with
 |some K=>(Ev.read b).bind λ d=>Ev.ofD (iX (λ k=>B (H7 k K)) d)|none=>.au
def H8(a b d:V):Ev V:=λ σ=>match hA a λ i=>nR σ[i]? B with|some es=>bR (mE es) (((Ev.read b).bind λ D=>Ev.of (hB (λ k=>B ((eO k es).getD d)) D)) σ)|none=>aa
def Rr(tab:Tab)(as:H V):Ev V:=match as with|[a,b,d]=>H8 a b d|[a,b]=>x4 tab a b|_=>.au
def Rt(a b:V):Ev V:=(Ev.read a).bind λ d=>(Ev.read b).bind λ D=>Ev.ofD (fh d D)def lE(a b:V):Ev V:=λ σ=>match hA a λ i=>nR σ[i]? B with|some es=>bR (mE es) (((Ev.read b).bind λ d=>Ev.of (hB (λ k=>eO k es) d)) σ)|none=>Rt a b σ
theorem ago{K:Type}[YB K]{knd:KeyKind prog w K}{k h:aX}{f:K->U aq}(m:k.MapOf knd a f)(s:k.StaysIn h):h.MapOf knd a f:=
 oL m λ o es e i r=>(e_ o es e ⟨s a o i,r⟩)theorem agp(Bq:Base g)(I:aG g x α σ h)(c:a∈α):(a==th)=false:=by cases e:a==th with|false=>rfl|true=>exact aR (ax (cI.mp e) ((I.b2 a (.inr c)).2)) (Nat.not_le.mpr Bq.sys)
theorem Ru{v u:aq}{K:H ao->aX->Prop}
  (h:∀k z,f k=B z->∀T α σ s,aG g x α σ s.heap->K α s.heap->∀l R,v=.ref l->u=.str k T->l∈α->s.heap.DictOf (strKind g.prog g.w) l R->c1 (x.P++α) α s.heap R es->∀(Q:aq->aU->Prop)(E:aq->aU->Prop),(∀M T,a9 (x.P++α) α s.heap M z->Q M (cT s s.heap T))->aO (a5 g.prog g.w) x.A t Q E s):
  ag g x (λ α h=>a9 (x.P++α) α h u b/\K α h/\∃l R,v=.ref l/\l∈α/\h.DictOf (strKind g.prog g.w) l R/\c1 (x.P++α) α h R es) (dA x) t ((Ev.read b).bind λ d=>Ev.of (hB f d)):=
 ag.ghost (λ y y p=>p.1) λ d=>by
  cases i:hB f d with
  |none=>exact .au|some z=>
  exact ag.wp λ α σ s I y p Q E G=>mi i λ k n c=>eg p.1.2.2 λ l R ev j o r=>
   a7 ((n▸p.2).str) λ T V=>
   h k z c T α σ s I p.1.2.1 l R ev V j o r Q E λ M y=>G M s.heap _ (λ y y e=>e) (bH _)
theorem Rv(I:aG g x α σ h)(r:a9 (x.P++α) α h v a)(e:hA a (λ i=>nR σ[i]? B)=B es)(n:mE es=S):∃l k,v=.ref l/\l∈α/\h.DictOf (strKind g.prog g.w) l k/\c1 (x.P++α) α h k es:=
 nx e λ i E e=>H4 e λ F K e=>by exact av (E▸r) λ l z ev=>(av (H3 n (I.look z ((ak e)▸K))) λ k m R=>(bh l k ⟨ev,eK z,m,R⟩))
theorem agq(Bq:Base g)(T:Fb g tab):eN g x (.builtin "dict.get") (Rr tab):=by
 intro vs as
 match as with
 |[]=>exact .au|[_]=>exact .au|_::_::_::_::_=>exact .au
 |[a,b]=>
  show ag g x _ _ _ (x4 tab a b);unfold x4;cases n:hi a _ with
  |none=>exact .au
  |some R=>
   refine r8 λ v u=>ag.ghost (λ α h=>r7) λ N=>ag.toV ?_;cases X:iX _ N with
   |none=>exact .au|some d=>
   exact ag.wp λ α σ s I D p Q E G=>p5 X λ k A j=>iA n λ uu C n=>BQ n λ o F q=>by
    obtain⟨M,rV⟩:=p;refine a7 ((A▸rV).int) λ t wU=>?_;refine L wU ?_;rw[C,F]at M;obtain⟨rfl,nS,_,W⟩:=(oX M).inv;obtain⟨h0,f,hm,hf⟩:=T o R q;obtain P:=ago hm I.base;refine call_meetsIn Zr P.typeIs aoF (PySem.F.args_dict_get_2 _ _) (meets_dict_get _ o (by show pO k (.int k t)=S;exact isInt_self k t) h0) ⟨f,P,?_⟩;obtain c:=hf k;rw[<-ak j]at G;unfold H7 at G;refine eD (tT k R) (λ j=>?_) λ z j=>?_
    ·
     rw[j]at c G;exact c.symm▸G .none s.heap _ (λ y y e=>e) (bH _) aV.none
    ·
     rw[j]at c G;obtain⟨el,c⟩:=c;exact L c (G _ s.heap _ (λ y y e=>e) (bH _) (aV.str _ _))
 |[a,b,d]=>
  refine PG λ v u w=>?_;intro α σ s V af I D p e Q E G he;obtain e:H8 a b d σ=B _:=e;unfold H8 at e;refine eD (hA a λ i=>nR σ[i]? B) (λ m=>?_) λ es m=>?_
  ·rw[m]at e;exact nn e
  ·
   rw[m]at e;exact bN e λ dv e=>Ru (K:=λ α h=>a9 (x.P++α) α h w d) (λ k z agr t α σ s I dP l R ev ags AX m r Q E G=>by
    subst ev ags;refine call_meetsIn Zr m.mapOf.typeIs aoF (PySem.F.args_dict_get_3 _ _ _) (meets_dict_get_default _ l (qs.mpr ⟨t,rfl⟩) (agp Bq I AX) w) ⟨_,m.mapOf,?_⟩;rw[<-ak agr]at G;refine eD (eO k es) (λ j=>?_) λ a j=>?_
    ·
     rw[j]at G;exact L (r.H2 j) (G w _ dP)
    ·
     rw[j]at G;refine av (r.look j) λ z W cw=>L W ?_;exact G z _ cw) α σ s V af I D ⟨oX (PF p),r7 (PF p),Rv I (aec p) m dv⟩ e Q E G he
theorem Rw(v:aq)(a:V)(u:aq)(b:V)(q y:aJ):ag g x (λ α h=>a9 (x.P++α) α h v a/\a9 (x.P++α) α h u b) (dA x) (Ec q y v u) (lE a b):=by
 have dflt:ag g x (λ α h=>a9 (x.P++α) α h v a/\a9 (x.P++α) α h u b) (dA x) (Ec q y v u) (Rt a b):=by refine ag.ghost (λ w w p=>p.1) λ D=>ag.ghost (λ w w p=>p.1.2) λ N=>ag.toV ?_;cases e:fh D N with|none=>exact .au|some d=>exact ag.wp λ α σ s I T p Q E G=>Gg (acU p.1.2 p.2 e λ v t r=>G v s.heap t (λ w w e=>e) (bH _) r)
 intro α σ s o af I T p e Q E G c;unfold lE at e;refine eD (hA a λ i=>nR σ[i]? B) (λ m=>?_) λ es m=>?_
 ·rw[m]at e;exact dflt α σ s o af I T p e Q E G c
 ·
  rw[m]at e;exact bN e λ n e=>Ru (K:=λ w w=>True) (λ k z f t α σ s I w l R ev W w m A Q E G=>by
   subst ev W;refine av (A.look f) λ M X j=>?_;exact Gg ⟨(bh _ _ ⟨m.mapOf.typeIs,PySem.F.slot_dict_getitem.lookup⟩),wpAny_getItem_of (qs.mpr ⟨t,rfl⟩) m.mapOf X (G M _ j)⟩) α σ s o af I T ⟨p.2,trivial,Rv I p.1 m n⟩ e Q E G c
theorem si(K:ClsAt h C N M){G:Prop}(k:∀nm q bs s sub c d t D m y T,h.get? C=B (excClassObj nm q C N bs [.type "object"] S s sub aj c d t D m y T "object.__new__")->G):G:=
 hx K.obj λ nm q bs s r=>hx r λ sub c d t r=>hx r λ D m y T h=>k nm q bs s sub c d t D m y T h
structure oC(g:bX)(C N:ao)(jx:ai->U aq):Prop where
 cls:ClsAt g.K C N jx
 ga:jx "__getattribute__" =aa
 gt:jx "__getattr__" =aa
 agt:jx "__setattr__" =aa
 hd:jx "_headers" =aa
noncomputable def nT:Str:="_headers"
noncomputable def H9{A:Type}(m:U cj)(f:ao->J->U A):U A:=m.bind λ m=>match m with|.inst c j=>f c j|_=>aa
theorem Rx{A:Type}{f:ao->J->U A}{r:A}(e:H9 m f=B r){G:Prop}(k:∀c j,m=B (.inst c j)->f c j=B r->G):G:=
 b3 e λ m h e=>by induction m with|inst c j=>exact k c j h e|_=>exact nn e
noncomputable def H_{A:Type}(m:U cj)(f:H (ai×V)->U A):U A:=m.bind λ m=>match m with|.fld es=>f es|_=>aa
theorem Ry{A:Type}{f:H (ai×V)->U A}{r:A}(e:H_ m f=B r){G:Prop}(k:∀es,m=B (.fld es)->f es=B r->G):G:=
 b3 e λ m h e=>by induction m with|fld es=>exact k es h e|_=>exact nn e
noncomputable def x5{A:Type}(f:H D->U A)(d:D):U A:=match d with|.ae xs=>f xs|_=>aa
theorem BR{A:Type}{f:H D->U A}{r:A}(e:x5 f d=B r){G:Prop}(k:∀xs,d=.ae xs->f xs=B r->G):G:=by
 rcases d with _|_|_|_|_|_|_|_|xs|_|⟨_,_⟩;case ae=>exact k xs rfl e
 all_goals exact nn e
def Ia{A:Type}(C:ao)(a:V)(nm:ai)(σ:aE)(f:J->H (ai×V)->U A):U A:=hA a λ i=>H9 σ[i]? λ c j=>bR (nm==nT&&c==C) (H_ σ[j]? λ es=>f j es)def agu(C:ao)(a:V)(nm:ai):Ev V:=λ σ=>Ia C a nm σ λ u es=>(es.lookup nT).bind λ v=>hA v λ k=>B (.ok (.aH k),σ)def Rz(C:ao)(a:V)(nm:ai)(v:V):Ev Unit:=λ σ=>Ia C a nm σ λ j es=>bR (es.all λ p=>p.1==nT) (B (.ok (),σ.set j (.fld [(nT,v)])))def BS(a w:V):Ev Unit:=λ σ=>hA a λ i=>jW σ[i]? λ xs=>hi w λ w=>x5 (λ y=>bR (dc xs&&aZ (O xs+O y) 16777216) (B (.ok (),σ.set i (.ae y)))) w
theorem R1{A:Type}{f:J->H (ai×V)->U A}{r:A}(e:Ia C a nm σ f=B r){G:Prop}(k:∀i j es,a=.aH i->σ[i]?=B (.inst C j)->nm="_headers" ->σ[j]?=B (.fld es)->f j es=B r->G):G:=
 nx e λ i p e=>Rx e λ c j W e=>bN e λ h e=>Ry e λ es v e=>k i j es p (ax (eq_of_beq (bo h).2) W) (eq_of_beq (bo h).1) v e
theorem c0.look(R:c0 P X α h as M){i:J}(c:as[i]?=B a)(p:M[i]?=B m):d2 P X α h a m:=
 av (R.get c) λ u e r=>
 ax (ak (Y e.symm p)) r
theorem instFk_of{i j:J}(R:c0 P X α h α σ)(t:σ[i]?=B (.inst C j))(D:σ[j]?=B (.fld es))(d:α[i]?=B a):
  ∃b m,α[j]?=B b/\h.get? a=B ⟨.ref C,B b,.plain, #[]⟩/\h.InstFk a C m/\(∀n,es.lookup n=aa->m n=aa)/\∀n v,es.lookup n=B v->∃u,m n=B u/\a9 X α h u v:=by
 refine av (R.look d t) λ b r E=>(As (R.look r D) λ m G N q1 Q=>(bh b m ⟨r,E,⟨_,E,rfl,λ c=>by simp,.inr ⟨b,rfl,λ q=>gF N λ o e c w=>?_,G,N⟩⟩,q1,Q⟩));rw[q,E]at e;simp only[<-ak e]at c;exact nomatch c
theorem R2:rg (.type "object") "_headers" =pure none:=by rw[k3];lk
theorem R4{y:ai}(n:y≠ "_headers"):∀es:H (ai×V),es.all (λ p=>p.1==nT)=S->es.lookup y=aa
 |[],_=>rfl|p::es,h=>by obtain h:=bo h;rw[gY,show(y==p.1)=aj from L (eq_of_beq h.1) (ro n)];exact R4 n es h.2
theorem agv(x:Within m ["_headers"])(N:h.Ns1 b (λ y=>if y="_headers" then B w else m y))(E:h.ExactDictFk b)(r:a9 X α h w d):d2 P X α h b (.fld [(nT,d)]):=by
 have R5:∀n,([(nT,d)]:H _).lookup n=if n="_headers" then B d else none:=λ n=>by
  dsimp only[gY];by_cases e:n="_headers"
  ·rw[bC e,cI.mpr (show n=nT from e)]
  ·rw[a6 e,ro (show n≠nT from e)];rfl
 refine⟨_,N,E,λ n V=>?_,λ n v V=>?_⟩
 ·rw[R5]at V
  by_cases e:n="_headers"
  ·rw[bC e]at V;exact nn V.symm
  ·rw[a6 e];exact aou λ y=>e (ek.mp (x n y))
 ·rw[R5]at V
  by_cases e:n="_headers"
  ·rw[bC e]at V ⊢;exact⟨w,rfl,ax (ak V) r⟩
  ·rw[a6 e]at V;exact nn V
theorem agw{o:fe}(h:o.cls=c)(j:o.data=agx)(v:o.slots=s)(I:o.dict=d):o=⟨c,d,agx,s⟩:=ax h (ax j (ax v (ax I rfl)))
theorem agy(iC:cb x.F x.P)(K:oC g C N jx)(v:aq)(a:V)(nm:ai)(w:aq)(d:V):ag g x (λ α h=>a9 (x.P++α) α h v a/\a9 (x.P++α) α h w d) (λ u u u u=>True) (setAttr v nm w) (Rz C a nm d):=by
 intro α σ s out af I dm p e Q E dp he;refine R1 e λ i j es i1 dk qc fz e=>bN e λ hk e=>?_;obtain R:=bf (ak e);subst i1 qc;obtain⟨⟨a,X,rfl⟩,r⟩:=p;refine lg (instFk_of I.bM dk fz X) λ b m A k W q1 jc=>si (K.cls.keeps I.base) λ nm q bs sn sub col x6 lA fs gC kH qa hF=>?_;have ne:a≠C:=λ q=>by refine si K.cls λ c c c c c c c c c c c c l=>?_;have:=(I.b2 a (.inr (eK X))).1;rw[q,l]at this;exact nn this.symm
 have D:Within m ["_headers"]:=λ y x7=>by
  by_cases e:y="_headers"
  ·rw[e];exact List.mem_singleton_self _
  ·exact aR (q1 y (R4 e es hk)) x7
 refine g4 (store_attrFk PySem.F.store_object hF (K.cls.keeps I.base).ns K.agt K.hd R2 ne W (λ h' T agz z g_ F=>t7 (g_ _ k) λ apw g1 g2 g3 agA agB=>?_) D (by rw[vZ];decide));have M:=Y (Y g1 (aM B (agw g2 g3 agA (agB b rfl)))) (om k);have uF:∀f o,f≠b->s.heap.get? f=B o->h'.get? f=B o:=λ f o G e=>by
  by_cases n:f=a
  ·rw[n]at e ⊢;exact Y M e
  ·exact z f o n (λ o0 apx hC xe=>by
    exact ak ((ak (Y (om k) hC)).symm▸xe)▸G) e
 refine As agz λ k_ oz u u t=>?_;rw[<-ak ((Y M k).symm.trans oz)]at t;rcases t with⟨P,_⟩|⟨wQ,t,_,G,pa⟩
 ·exact nomatch P
 ·rw[<-ak t]at G pa
  obtain eX:=I.upd iC A (h':=h') uF F.size (agv D G pa (r.mono (λ f o e n=>⟨uF f o (λ q=>n (L q (aW _ (eK A)))) e,n⟩) eV));exact dp _ _ h' T α R.1.symm eX.2 (ax R.2 eX.1) (bA dm F.toks) trivial
theorem agC{vs us:H aq}(e:s.heap.get? l=B {cls:=.type "list",data:=.seq vs.toArray N})(o:s.heap.get? k=B {cls:=.type "list",data:=.seq us.toArray nS})(b:s.heap.IsSliceOf R .none .none .none)(T:l≠k)
  (V:O vs<=ku) (t:O vs+O us<=ku) (G:∀h',hU l s.heap h'->IsL h' l us->Q () (cT s h' s.toks)):aO (a5 prog w) A (zI (.ref l) (.ref R) (.ref k)) Q E s:=by
 obtain n:s.heap.IsList l vs.toArray:=⟨_,e,rfl,N,rfl⟩;refine gF (id b) λ os h I P=>?_;obtain r:s.TypeIs (.ref R) "slice" :=⟨os,h,I⟩;refine dT (aB (wpAny_sequenceKey n.typeIs rfl ?_));refine aB (Y3 n.typeIs slot_list_setitem
  (zA slot_list_setitem n.typeIs entry_list_setitem ?_ (args_list_setitem _ _ _)))
 refine((aB (aB (YT r slice_no_index ?_))):aO _ _ _ _ _ s);refine bl (aB (Zm r ?_));refine aB (aB (ou h P rfl (aB (Zs .none (aB (ou h P rfl (aB (Zs .none (aB (ou h P rfl (aB (Zs .none (bl (L (show Builtin.List.listSameRef (.ref l) (.ref k)=aj from ro T) (aB (aB (Zm (⟨_,o,rfl⟩) ?_)))))))))))))))));first|refine aB (Zt o rfl (bl ?_))|refine(Zt o rfl ?_)
 refine aB (Zt e rfl (L (show an7 _=aj from l2 (er.mpr t)) ?_));obtain F:vs.toArray.extract 0 (Zu 0)++us.toArray++vs.toArray.extract (max 0 (O vs:ah)).toNat vs.toArray.size=us.toArray:=by simp
 refine aB (m:=Y4 l _) (Y5 e rfl (aB (wpAny_letGo (bl ⟨_,rfl,bl (G _ (tB ..) ?_)⟩))) (L hT V) (L F (bA (bA (i_ ..) t) (hg _))));obtain j:=(PySem.IsL.update e λ xs:fE aq=>xs.extract 0 _++us.toArray++xs.extract (max 0 (O vs:ah)).toNat xs.size);rw[F]at j;exact⟨_,j⟩
theorem agE(K:cb x.F x.P)(v:aq)(a:V)(w:aq)(d:V)(P:ao):
  ag g x (λ α h=>a9 (x.P++α) α h v a/\a9 (x.P++α) α h w d/\h.IsSliceOf P .none .none .none) (λ u u u u=>True) (zI v (.ref P) w) (BS a d):=by
 intro α σ s o af I T p e Q E M he;obtain⟨N,X,b⟩:=p;refine nx e λ i c e=>oP e λ xs f e=>iA e λ wQ j e=>BR e λ A F e=>bN e λ ju e=>?_;obtain y:=bf (ak e);subst c j F;refine av N λ l z D=>L D ?_;obtain⟨g1,g2⟩:=bo ju;refine av (I.look z f) λ vs W R=>?_;obtain⟨R6,hC⟩:=W;refine eg (aV.inv X) λ k us r agF G t=>L r ?_;obtain⟨nS,xW⟩:=G;refine agC hC xW b (λ q=>agF (q▸aW _ (eK z))) (L R.length (b8 g1)) (L R.length (L t.length (b8 g2))) λ h' n up=>?_;obtain C:=I.put K z n (m:=.ae A) λ o=>⟨_,up,t.mono o⟩;exact M _ _ _ s.toks α y.1.symm C.2 (ax y.2 C.1) T trivial
structure ix(g:bX)(jx:ai->U aq)(nm:ai)(f:ao):Prop where
 Ib:jx nm=B (.ref f)
 fn:∃o,g.K.get? f=B o/\o.cls=.type "function"
 obj:∃y,rg (.type "object") nm=pure y
def sj(C:ao)(σ:aE)(a:V)(nm:ai):Bool:=(hA a λ i=>H9 σ[i]? λ c j=>bR (c==C) (H_ σ[j]? λ es=>bR (es.lookup nm).isNone (B ()))).isSome
def uS(C:ao)(nm:ai)(c:bV)(a:V)(as:H V):Ev Unit:=λ σ=>bR (sj C σ a nm) (((c (a::as) []).bind λ u=>.ret ()) σ)theorem BU(R:c0 P X α h α σ)(e:sj C σ a nm=S)(r:a9 X α h v a){GG:Prop}(k:∀l m,v=.ref l->h.InstFk l C m->m nm=aa->GG):GG:=by refine a7 (KU.mp e) λ u e=>(nx e λ i p e=>Rx e λ c j s e=>bN e λ A e=>Ry e λ es D e=>bN e λ W w=>?_);subst p;exact av r λ l z ev=>(lg (instFk_of R (eq_of_beq A▸s) D z) λ b m w w V q1 w=>k l m ev V (q1 nm (zm.mp W)))
theorem R7(K:oC g C N X)(I:aG g x α σ s.heap)(j:s.heap.InstFk l C m)(G:Q k s):
  aO M A (sequenceKey (.ref l) k nm) Q E s:=by
 refine si (K.cls.keeps I.base) λ n q bs p sub c d r D o y T V=>(gF j λ t e h u=>?_);repeat (first|(with_reducible apply LG e;rw[h])|(with_reducible refine aoG V ?_)|wp_step)
 exact G
theorem R8(K:oC g C N F)(M:ix g F nm f)(A:cK g f n c)(ok:eW g x n)(v:aq)(a:V)(G:H aq)(bs:H V):
  ag g x (λ α h=>a9 (x.P++α) α h v a/\bU (x.P++α) α h G bs) (λ u u r u=>r≠aa) (callSpecial? v nm G) (uS C nm c a bs):=by
 intro α σ s i af I dm p e Q E dp he;refine bN e λ dk e=>(BU I.bM dk p.1 λ l m W j u=>?_);subst W;obtain⟨fq,G2,d,t,os⟩:=s;exact wpAny_callSpecial?_own (si (K.cls.keeps I.base) λ X q bs sn sub k x6 lA fs gC kH qa hF=>(av M.fn λ o P A=>a7 M.obj λ y x7=>gF j λ agG hj R u=>((pV agG o X q N bs _ (pV _ sn sub _ k x6 lA (pV fs gC kH qa _ F y ⟨hj,R,hF,(K.cls.keeps I.base).ns,M.Ib,I.base _ _ P,A,aoH,x7⟩)))))) (ag.mapR (post':=λ u u u u=>True) (A.call x ok _ _ [] []) (λ u u u u u=>trivial) α σ ⟨fq,G2,d,t,os⟩ i af I dm ⟨.cons p.1 p.2,.nil⟩ e _ E (λ b r h' el aA P st eX T u=>dp _ r h' el aA P st eX T λ q=>nomatch q) he)
theorem agH(K:oC g C N X)(M:ix g X "__setitem__" f)(A:cK g f n c)(ok:eW g x n)(v:aq)(a:V)(u:aq)(b:V)(w:aq)(d:V):
  ag g x (λ α h=>a9 (x.P++α) α h v a/\a9 (x.P++α) α h u b/\a9 (x.P++α) α h w d) (λ z z z z=>True) (zI v u w) (uS C "__setitem__" c a [b,d]):=by
 intro α σ s o af I T p e Q E G y;refine BU I.bM (bN e λ h z=>h) p.1 λ l m W j z=>?_;subst W;refine dT (aB (R7 K I j (aB (R8 K M A ok _ a [u,w] [b,d] α σ s o af I T ⟨p.1,.cons p.2.1 (.cons p.2.2 .nil)⟩ e _ _ (λ r R h' D aA i st F t P=>?_) y))));induction r with|none=>exact aR rfl P|some r=>exact bl (G _ _ h' D aA i st F t trivial)theorem aG.BV(I:aG g x α σ h):aG g {x with A:=A} α σ h:=⟨I.base,I.big,I.b2,I.alive,I.dv,I.c8,I.bM,I.fr,I.old⟩
theorem ExcAt.BV{lo:J}(q:ExcAt g {x with A:=A} lo α σ h e cl as):ExcAt g x lo α σ h e cl as:=
 q.rec λ Sq t vs l I r R dP u jt=>⟨Sq,t,vs,l,⟨I.base,I.big,I.b2,I.alive,I.dv,I.c8,I.bM,I.fr,I.old⟩,r,R,dP,u,jt⟩noncomputable def qt(C:ao)(vs:H aq):Code:=.builtin "type.__call__" ⟨.ref C::vs,[]⟩theorem agI(C:ao)(vs:H aq):(qt C vs).weight=1:=rfl
theorem agJ(C:ao)(vs:H aq):(qt C vs).cUnits=1:=rfl
theorem agK(C:ao)(vs:H aq):(qt C vs).envs=[]:=rfl
theorem eW.agL(ok:eW g x (n+1))(C:ao)(vs:H aq):eW g {x with A:=x.A.under (qt C vs) } n:=by
 refine⟨ok.cY,ok.ew,?_,λ u=>ok.handled (fp n),?_,?_,ok.nolimit⟩
 ·show pushEnvs (qt C vs).envs x.A.frames=_
  rw[agK];exact ok.frames
 ·obtain this:=ok.depth
  show x.A.depth+(qt C vs).weight+n<_;rw[agI];lia
 ·obtain this:=ok.units
  show x.A.units+(qt C vs).cUnits+8*n+200<_;rw[agJ];lia
section
variable {prog:K7}{w:di}{A:m8}{E:aq->aU->Prop}{h:aX}{ga:fE zd}{d:ze}{t:J}{os:eS}
theorem agM(K:ClsAt h C N m)(z:m "__init__" =B (.ref f))(l:h.get? f=B o)(I:o.cls=.type "function")
  (G:aO (a5 prog w) (A.under (qt C rest)) (call (.ref f) (.ref (h.objs.size+1)::rest)) (λ r s'=>r=.none/\Q (.ref (h.objs.size+1)) s') E
    ⟨(h.push {cls:=.type "dict",data:=.dict #[] }).push {cls:=.ref C,dict:=B h.objs.size,data:=.plain},ga,d,t,os⟩):
  aO (a5 prog w) A (call (.ref C) rest) Q E ⟨h,ga,d,t,os⟩:=by
 refine hx K.obj λ nm q bs sn r=>hx r λ sub a x6 lA r=>hx r λ fs gC kH qa V=>?_;have f1:=tc_lookup;have f2:=tc_bind (.ref C);have jr:(⟨h,ga,d,t,os⟩:aU).TypeIs (.ref C) "type" :=⟨_,V,rfl⟩;refine Ls (El ?_);show aO _ _ (callAny (.ref C) _) _ _ _;repeat (any_goals (first|assumption|with_reducible refine LG V ?_|wp_step))
 refine⟨rfl,codeAny_call_builtin_at (LC _ (by decide+kernel)) entry_typeCall (wpAny_check_type_call_sub V ?_)⟩;have F:=PySem.F.objNew;repeat (first|with_reducible refine LG V ?_|with_reducible refine wpAny_madeBy_exc V ?_|wp_step)
 refine codeAny_call_builtin_code (LC _ F.quiet) (wpAny_check_obj_new F V (codeAny_obj_new F V K.ns z ?_));generalize g:(h.push {cls:=.type "dict",data:=.dict #[] }).push {cls:=.ref C,dict:=B h.objs.size,data:=.plain} =j at G ⊢;have x:∀b o,h.get? b=B o->j.get? b=B o:=λ b o e=>g▸dy _ (dy _ e);have g2:j.get? (h.objs.size+1)=B {cls:=.ref C,dict:=B h.objs.size,data:=.plain} :=by subst g;heap_get
 have v:(hP C:: [D_ "object"]).contains (.ref C)=true:=by simp
 have P:rg (.type "object") "__init__" =pure (B (.builtin "object.__init__")):=by rw[k3,builtinLookup_eq_fast];lk
 show aO _ _ _ _ _ _;unfold isInstance;repeat (first|with_reducible refine LG g2 ?_|(with_reducible refine aoG (x _ _ V) ?_;rw[v])|wp_step)
 show aO _ _ (rg (.ref C) _) _ _ _;refine wpAny_typeLookup_exc (x _ _ V) (K.ns.keeps x) aoH P ?_;rw[z];refine dT (aB (wpAny_bindSpecial_def (s:=⟨j,ga,d,t,os⟩) (x _ _ l) I ?_))
 first
  |refine aB (hS G (λ r s' R=>?_) λ u u y=>y)|refine bl (aB (hS G (λ r s' R=>?_) λ u u y=>y))
 obtain⟨rfl,xT⟩:=R;wp_walk;exact xT
end
def R9(j:J)(p:Res V×aE):U (Res V×aE):=match p.1 with
 |.ok a=>hi a λ d=>(match d with
  |.none=>B (.ok (.aH j),p.2)|_=>aa)
 |.exc cl es=>B (.exc cl es,p.2)def BW(C:ao)(c:bV):bV:=λ as ks σ=>bR ks.isEmpty ((c (.aH (O σ+1)::as) [] (σ++ [.fld []]++ [.inst C (O σ)])).bind (R9 (O σ+1)))
theorem R_(e:R9 j (r,gO)=B q){G:Prop}(k:r=.ok (.d .none)->(.ok (.aH j),gO)=q->G)(K:∀cl es,r=.exc cl es->(.exc cl es,gO)=q->G):G:=by
 induction r with
 |exc cl es=>exact K cl es rfl (ak e)
 |ok a=>
  refine iA e λ d h e=>?_;rcases d with _|_|_|_|_|_|_|_|_|_|⟨_,_⟩;case none=>exact k (aM Res.ok h) (ak e)
  all_goals exact nn e
theorem aG.agN(I:aG g x α σ f)(C:ao):aG g x (α++ [f.objs.size]++ [f.objs.size+1]) (σ++ [.fld []]++ [.inst C (O σ)]) ((f.push {cls:=.type "dict",data:=.dict #[] }).push {cls:=.ref C,dict:=B f.objs.size,data:=.plain})/\a_ x.F x.W α f (α++ [f.objs.size]++ [f.objs.size+1]) ((f.push {cls:=.type "dict",data:=.dict #[] }).push {cls:=.ref C,dict:=B f.objs.size,data:=.plain})/\(α++ [f.objs.size]++ [f.objs.size+1])[O σ+1]?=B (f.objs.size+1)/\
  ∀b o,f.get? b=B o->b∉x.P++α->((f.push {cls:=.type "dict",data:=.dict #[] }).push {cls:=.ref C,dict:=B f.objs.size,data:=.plain}).get? b=B o/\b∉x.P++(α++ [f.objs.size]++ [f.objs.size+1]):=by
 obtain p:=I.new {cls:=.type "dict",data:=.dict #[] } (.fld []) ⟨λ u=>aa,Heap.Ns1.of_empty (e_ _ _ _ ⟨LH rfl rfl,rfl,λ e y=>aR y (Array.not_mem_empty e),λ u=>rfl⟩),⟨_,LH rfl rfl,rfl,rfl⟩,λ u u=>rfl,λ u u e=>nn e⟩;obtain W:=p.1.new {cls:=.ref C,dict:=B f.objs.size,data:=.plain} (.inst C (O σ)) ⟨f.objs.size,ax I.bM.length (iD h6),LH rfl rfl⟩;obtain i:=λ b o e n=>rW (α:=α++ [f.objs.size]) {cls:=.ref C,dict:=B f.objs.size,data:=.plain} b o (rW {cls:=.type "dict",data:=.dict #[] } b o e n).1 (rW {cls:=.type "dict",data:=.dict #[] } b o e n).2;rw[(et ..)]at W i;refine⟨W.1,p.2.1.trans W.2.1,?_,i⟩;obtain m:=h6;rw[e2]at m;rw[<-I.bM.length];exact m
theorem agO(K:oC g C N X)(M:ix g X "__init__" f)(F:cK g f n c)(ok:eW g x (n+1)):eN g x (.ref C) (λ as=>BW C c as []):=by
 intro vs as;intro α σ s k af I G p e Q E r y;refine av M.fn λ o i q=>b3 e λ z R e=>(agM (K.cls.keeps I.base) M.Ib (I.base _ _ i) q ?_);obtain W:=I.agN C;refine F.call {x with A:=x.A.under _} (ok.agL C vs) _ (.aH _::as) [] [] _ _ {s with heap:=_} z.1 z.2 W.1.BV G ⟨.cons ⟨_,W.2.2.1,rfl⟩ (bU.mono (aA:=α++ [s.heap.objs.size]++ [s.heap.objs.size+1]) p W.2.2.2 ⟨[s.heap.objs.size]++ [s.heap.objs.size+1],eb ..⟩),.nil⟩ R _ _ (λ v a h' D aA i st b T P=>?_) λ l cl es h' D aA i st T V=>?_
 ·refine R_ e (λ m e=>?_) λ cl es m=>nomatch i.symm.trans m
  simp[Res.ok.inj (Y i.symm m)]at P;obtain e:=bf e;exact L (aV.inv P) (av st.ext λ β j u=>(⟨rfl,r _ _ h' D aA e.1.symm (W.2.1.trans st) (e.2▸b.BV) T ⟨_,L j (iD W.2.2.1),rfl⟩⟩))
 ·refine R_ e (λ m=>nomatch i.symm.trans m) λ QD nG m e=>?_
  have e:=bf e;exact y l cl es h' D aA (Y e.1.symm (Y m.symm i)) (W.2.1.trans st) T (ExcAt.low W.2.1.size (ax e.2 V.BV))
theorem Ic{A Bq:Type}{f:A->Bq}{q:Bq->aF}(h:∀a,q (f a)=aj):∀l:H A,(l.map f).any q=aj
 |[]=>rfl|a::l=>by refine(?_:(q _|| (l.map f).any q)=aj);rw[h,Ic h l];rfl
theorem agP(K:oC g C N m)(M:ix g m "__init__" f)(G:cK g f n c):xJ g C (n+1) (BW C c):=by
 intro x env ρ y P ay ms ks l h R first F
 simp[PV];obtain i:∀(b:Args)(q:H V×H V),ag g x (λ α h=>bU _ α h _ _/\c1 (x.P++α) α h b.kw ((ks.map (·.1)).zip q.2)) _ (call _ _ b.kw) (BW C c _ ((ks.map _).zip q.2)):=λ b q=>by
  generalize (ks.map _).zip q.2=W;induction W with
  |cons=>exact .au
  |nil=>induction b.2 with
   |cons=>exact λ u u u u u u u p=>nomatch p.2
   |nil=>exact λ α σ s o af I D p=>agO K M G y.ok _ _ α σ s o af I D p.1
 refine ag.bind (Hl y h R first F).holding λ b q=>ag.standAt ?_;intro α σ s o af I D p e Q E X he;refine si (K.cls.keeps I.base) λ nm OK bs sn sub col x6 lA fs gC kH qa hF=>?_;rw[Ic (λ u=>rfl),Ic (λ u=>rfl)];exact aB (wpAny_keeperOf_exc hF (aB (i b q α σ s o af I D p e _ _ (λ v r h'' j T dw a k z AJ=>aB (dT (Lv (bl (X v r h'' j T dw a k z AJ))))) he)))noncomputable def pW:fE Nat:= #[14,10,4,1,1,22,0,31,16,127,0,13,7,22,0,31,16,127,0,1]noncomputable def l9:fE Nat:= #[14,14,4,1,1,9,4294966783,0,0,2147483648,0,0,0,0,0,13,11,9,4294966783,0,0,2147483648,0,0,0,0,0,1]noncomputable def nU(c:J):Bool:=aZ c 31||c==127
noncomputable def eZ(c:J):Bool:=c<256&&([4294966783,0,0,2147483648,0,0,0,0].getD (c/32) 0).testBit (c% 32)
section
open Sre
structure x8(code:fE J)(body:J)(p:J->aF):Prop where
 first:∀c sn,∃qu,inSet code c code.size 5 S sn=.ok (p c,qu)
 again:∀c sn,∃qu,inSet code c code.size (body+2) S sn=.ok (p c,qu)
 h0:ops[code.getD 0 0]?=B .INFO
 c5:1+code.getD 1 0=body
 cw:code.getD 2 0=4
 cZ:code.getD 3 0=1
 Ie:ops[code.getD body 0]?=B .IN
 succ:ops[code.getD (body+(1+code.getD (body+1) 0)) 0]?=B .SUCCESS
 size:body+(1+code.getD (body+1) 0)<code.size
noncomputable def BX(c:J)(s:nf):Except b1 (aF×nf):=if (decide (0<=c)&&decide (c<=31))=S then .ok (S,s.add 22)else if (c==127)=S then .ok (S,(s.add 22).add 16)else .ok (aj,((s.add 22).add 16).add 0)theorem Sa(c:J)(s:nf):(inSet pW c pW.size 5 S s,inSet pW c pW.size 13 S s)=(BX c s,BX c s):=rfl
theorem Sb(c:J)(N:nf):∃s,BX c N=.ok (nU c,s):=by delta BX nU;cases h:aZ c 31 with|true=>exact⟨_,bC ((gJ (b8 h)))⟩|false=>refine L (a6 (by rw[l2 λ q=>bw (Y h.symm (dD q)),Bool.and_false];exact hN)) ?_;induction c==127 with|true=>exact⟨_,rfl⟩|false=>exact⟨_,rfl⟩def BY(i c:J)(s:nf):Except b1 (aF×nf):=if (decide (c<256)&&(l9.getD (i+(1+c/32)) 0).testBit (c% 32))=S then .ok (S,s.add 9)else .ok (aj,(s.add 9).add 0)theorem Sd(c:J)(s:nf):(inSet l9 c l9.size 5 S s,inSet l9 c l9.size 17 S s)=(BY 5 c s,BY 17 c s):=rfl
theorem Se(i c:J)(N:nf)(t:∀k,k<8->l9.getD (i+(1+k)) 0=[4294966783,0,0,2147483648,0,0,0,0].getD k 0):∃s,BY i c N=.ok (eZ c,s):=by
 obtain e:eZ c=(decide _&&(l9.getD (i+(1+c/32)) 0).testBit _):=by
  unfold eZ;by_cases h:c<256
  ·rw[t _ (LI h)]
  ·rw[l2 h,aoI,aoI]
 unfold BY;refine ax e ?_;induction eZ c with|true=>exact⟨_,rfl⟩|false=>exact⟨_,rfl⟩
theorem admit{code:fE J}(o:x8 code body p)(m:Sre.M)(r:m.code=code)(z:m.lim=m.text.size):∀(f s:J)(N:nf),m.lim+1-s<=f->
  ∃E,M.admitted m f s N=.ok (aa,E)/\((m.text.toList.drop s).any p=aj)\/∃k,M.admitted m f s N=.ok (B k,E)/\k<m.lim/\p (m.text.getD k 0)=S/\((m.text.toList.drop s).any p=S)
 :=by
  have nil:∀{s},m.lim<=s->(m.text.toList.drop s).any p=false:=λ h=>L (Zv (bA (fV z.symm) h)) rfl;intro f;induction f with
  |zero=>exact λ s N h=>⟨N,.inl ⟨rfl,nil (jP (aoJ (Nat.le_zero.mp h)))⟩⟩
  |succ f i=>
   intro s N h;dsimp only[M.admitted];by_cases b:s>=m.lim
   ·exact L (bC b) ⟨N,.inl ⟨rfl,nil b⟩⟩
   ·refine L (a6 b) ?_
    have b:=Yl b;refine a7 (o.first _ N) λ E e=>r.symm▸(e.symm▸?_);have l:(m.text.toList.drop s).any p=(p (m.text.getD s 0)|| (m.text.toList.drop (s+1)).any p):=by have q:=an_ b z;refine L (KQ q) ?_;simp[Array.getD,q]
    refine L l ?_;cases u:p _ with|true=>exact⟨E,.inr ⟨s,rfl,b,u,rfl⟩⟩|false=>exact i _ E (aoK h 1)noncomputable def mF(code t:fE J)(e l b c d:J)(f:H Sre.Frame)(w:J)(a:U aF)(s:nf):Sre.M:=⟨code,t,t.size,l,e,aj,aj,b,c,d,S,Array.replicate (2*0) aa, -1, -1, #[],aa,f,w,a,s,aa⟩
theorem agQ{m F uT:Sre.M}(h:m.outcome=aa)(e:m.step=F)(W:F.outcome=aa)(E:F.step=uT):M.runFor 4 m=M.runFor 2 uT:=by
 conv=>lhs;dsimp only[M.runFor]
 rw[h,e,W,E];rfl
theorem agR{code:fE J}(o:x8 code body p)(h:k<t.size)(u:p (t.getD k 0)=S)(N:nf):
  (((mF code t t.size 0 body 0 0 [] 0 aa N).attemptAt k S).runFor 4).outcome=B .matched:=by
 refine a7 (o.again (t.getD k 0) (N.add (code.getD body 0))) λ qu e=>?_;rw[u]at e;have I:itemWidth code body=1+code.getD (body+1) 0:=by unfold itemWidth;exact L o.Ie rfl
 have ac:accepts code body (t.getD k 0) (N.add (code.getD body 0))=.ok (S,qu):=by dsimp only[accepts];exact L o.Ie e
 have f:(mF code t t.size k body k k [{wait:=.nextStart,pc:=body,pos:=k,outermost:=S}] 1 aa N).step=mF code t t.size k (body+(1+code.getD (body+1) 0)) (k+1) k [{wait:=.nextStart,pc:=body,pos:=k,outermost:=S}] 1 aa qu:=by dsimp only[M.step,mF];simp only[aoL,aoM,YX,bC (gg (gK ..) o.size)];unfold M.exec M.word;simp only[rd,o.Ie,a6 (anK h),ac,I]
 have W:(mF code t t.size k (body+(1+code.getD (body+1) 0)) (k+1) k [{wait:=.nextStart,pc:=body,pos:=k,outermost:=S}] 1 aa qu).step=mF code t t.size k (body+(1+code.getD (body+1) 0)) (k+1) (k+1) [{wait:=.nextStart,pc:=body,pos:=k,outermost:=S}] 1 (B S) (qu.add (code.getD (body+(1+code.getD (body+1) 0)) 0)):=by dsimp only[M.step,mF];simp only[aoL,aoM,YX,bC o.size];delta M.exec M.word M.say;simp only[rd,o.succ];rfl
 exact Y (aM M.outcome (agQ rfl f rfl W)) rfl
theorem agS(n:J)(m:Sre.M)(h:(m.runFor 4).outcome.isSome=S):Builtin.Re.reDrive (n+1) m=pure (m.runFor 4):=Y (bC h) rfl
theorem agT{m:M}(f:m.hasFirstSet=S)(h:M.admitted m (m.lim+1-s) s m.seen=.ok (aa,N)):m.attemptFrom s S=M.say {m with seen:=N} false:=by unfold M.attemptFrom;exact L f (L h rfl)
theorem agU{code:fE J}{body:J}{p:J->aF}(o:x8 code body p)(t:fE J):
  (((forSearch code t 0 0 t.size aj).runFor 4).outcome=B .failed/\t.toList.any p=aj)\/(((forSearch code t 0 0 t.size aj).runFor 4).outcome=B .matched/\t.toList.any p=S):=by
 obtain g:header code=(1,body):=by unfold header;simp only[o.h0,o.c5,o.cZ]
 generalize T:(if (header code).2==0 then{}else({} :nf).add 14)=s;obtain e:forSearch code t 0 0 t.size aj=(if decide _||decide _ then
   M.say _ aj
   else M.attemptFrom (mF code t _ 0 (header code).2 0 0 [] 0 aa s) 0 S):=by
  exact ax T rfl
 rw[e,g];by_cases d:t.size=0
 ·left
  obtain this:=Array.eq_empty_of_size_eq_zero d;exact L this ⟨rfl,rfl⟩
 ·obtain f9:=l2 (zr t.size)
  rw[f9,(l2 (by lia)),a6 y5];refine L (a6 (ne_true_of_eq_false f9)) ?_;have F:(mF code t t.size 0 body 0 0 [] 0 aa s).hasFirstSet=true:=by delta M.hasFirstSet mF;dsimp only;rw[o.h0,o.cw];rfl
  rcases admit o (mF code t t.size 0 body 0 0 [] 0 aa s) rfl rfl _ 0 s (bH _)with⟨E,⟨r,R⟩|⟨k,r,R,dP,u⟩⟩
  ·exact .inl ⟨aM (λ m=>(M.runFor 4 m).outcome) (agT F r),R⟩
  ·exact .inr ⟨Y (aM _ ((by
    dsimp only[M.attemptFrom];exact L F (L r rfl)))) (agR o R dP E),u⟩
end
structure tQ(g:bX)(a:ao)(code:fE J):Prop where
 ex:∃o ws t xA items n,g.K.get? a=B o/\o.cls=.type "re.Pattern" /\o.dict=aa/\o.data=.fields ws/\aoN (ws.getD 2 .none)=0/\aoN (ws.getD 6 .none)=0/\ws.getD 5 .none=.ref t/\
  g.K.get? t=B xA/\xA.data=.seq items n/\(items.map Builtin.Re.reRawOf).map (·.toNat)=code
theorem Sf:Slot "re.Pattern" "search" "re.Pattern.search" :=
 .of (owner:="re.Pattern") (n:="search") (by rw[k3];lk) (by decide+kernel) (by decide+kernel) (by decide+kernel)
  (by first|exact .inl _|exact .inr (by decide+kernel)) (by rw[wd];lk)theorem agV(a b:aq):we "re.Pattern.search" ⟨[a,b],[]⟩:=by unfold we;lk
theorem Ig(c:J->aF)(nm:J->b1)(h:Q ⟨⟩ s):∀l:H J,
  aO M A (forIn (m:=bj) l (⟨⟩:zf) λ i u=>if c i then(do rule (nm i);pure (.yield ⟨⟩))else pure (.yield ⟨⟩)) Q E s
 |[]=>bl h|i::l=>by refine AS (k1 ..) (aB ?_);induction c i with|true=>exact aB (tr (bl (Ig c nm h l)))|false=>exact bl (Ig c nm h l)
theorem agW(i:(m.runFor 4).outcome=B .failed/\Q aa s\/(m.runFor 4).outcome=B .matched/\Q (B (m.runFor 4)) s):
  aO M A (aoO m) Q E s:=by
 unfold aoO;refine L (agS _ m (by rcases i with⟨h,_⟩|⟨h,_⟩<;>rw[h]<;>rfl)) ?_;generalize m.runFor 4=R at i;refine aB (bl (aB ?_));obtain f:aO M A (match R.outcome with
   |some .matched=>pure (B R)|some .failed=>pure aa|some (.stuck why)=>DS s!"_sre:{why}"|none=>DS "internal:sre:no-outcome") Q E s:=by
  rcases i with⟨h,q⟩|⟨h,q⟩<;>rw[h]<;>exact bl q
 exact Ig _ _ f _
theorem agX(v:aq):Builtin.Re.reNamed "re.Pattern.search" "search" ["string","pos","endpos"] 1 [v] []=pure [B v,aa,aa]:=rfl
noncomputable def agY(b:aF)(σ:aE):Res V×aE:=match b with|true=>(.ok (.aH (O σ)),σ++ [.jl])|false=>(.ok (.d .none),σ)def uU(r:ao->U (J->aF))(as:H V):Ev V:=λ σ=>two as λ a b=>(hi a (uR r)).bind λ p=>hi b (hB λ s=>bR (aZ s.cps.size 9223372036854775807) (B (agY (s.cps.toList.any p) σ)))
theorem agZ
  (h:∀o:fe,o.cls=.type "re.Match" /\o.isFreed=aj->Q (.ref (s.heap.objs.size+1)) {s with heap:=(s.heap.push {cls:=.type "tuple",data:=.seq [gz m.start,gz m.handed].toArray}).push o}):
  aO M A (Builtin.Re.reNewMatch v u 0 p l m) Q E s:=aB (kx (kx (L (et ..) (h _ ⟨rfl,rfl⟩)) (by show 6<=ku+2;decide)) (by show 2<=ku;decide))
theorem ag0(R:∀a p,z a=B p->∃code body,x8 code body p/\tQ g a code):eN g x (.builtin "re.Pattern.search") (uU z):=by
 intro vs as;intro α σ s l af I F p e Q E G he;refine nL e λ a b c T=>b3 T λ pr h T=>iA h λ agn P h=>BQ h λ r V h=>iA T λ rZ C T=>mi T λ str es T=>bN T λ M dQ=>?_;subst c P V C es;obtain⟨v,u,rfl⟩:=Bc p;refine eM (R r _ h) λ code body D N=>(hx N.ex λ o ws t xA w=>lg w λ i n c5 cw Ih fw K=>GP K λ ei kI nO ag1 W=>cq W λ Ii k=>cq ((oX p).inv) λ y _=>L y (a7 ((r7 p).inv) λ i0 q=>L q ?_));obtain j:=I.base _ _ c5;refine zA Sf ⟨o,j,cw⟩ (entryFor_of_tree rfl) (aB (aB (wpAny_of_eq (agX _) ((aB (LJ j fw ?_)):aO _ _ _ _ _ _)))) (agV _ _);refine L kI ?_;show aO _ _ (Builtin.Re.reRawItems _>>=_) _ _ _;refine ax nO.symm (aB (aB (Eh (I.base _ _ ag1) Ii (bl (bl (?_:aO _ _ (Builtin.Re.reAnswer _ (Sre.forSearch _ str.cps _ (min _ str.cps.size) (min _ str.cps.size) aj)) _ _ _))))));refine L k ?_;refine L ei ?_;obtain x9:min (Zu 0) str.cps.size=0:=Nat.zero_min _;rw[x9,(anq (b8 M):min (Zu (2^63-1)) str.cps.size=str.cps.size)];refine aB (agW ?_);rcases agU D str.cps with⟨f,da⟩|⟨f,dd⟩
 ·refine .inl ⟨f,?_⟩
  rw[da]at dQ;obtain T:=bf (ak dQ);exact bl ⟨_,rfl,G .none _ s.heap s.toks α T.1.symm (.refl ..) (ax T.2 I) F aV.none⟩
 ·refine .inr ⟨f,?_⟩
  rw[dd]at dQ;have T:=bf (ak dQ);generalize (Sre.forSearch code str.cps 0 0 str.cps.size aj).runFor 4=m;refine aB (agZ λ o A=>?_);obtain X:=(I.keeps (λ b k_=>dy _) (L (et ..) (hg _))).new o .jl ⟨_,LH rfl A.2,A.1⟩;rw[et]at X;exact bl ⟨_,rfl,G _ _ _ s.toks _ T.1.symm ((.push .. :a_ x.F x.W α s.heap α (s.heap.push {cls:=.type "tuple",data:=.seq [gz m.start,gz m.handed].toArray})).trans X.2.1) (ax T.2 X.1) F X.2.2⟩noncomputable def Sg:Str:="Header names/values must be of type str (got {0})"
noncomputable def uV:Str:="Header names/values must be of type str (got None)"
theorem ag2(t T:Tok):Builtin.«str.format» ⟨[.str Sg t,.str "None" T],[]⟩=(mkStr uV>>=λ v=>pure (.done (.ret v))):=by lk
def uW(a:V):U Str:=hi a (hB B)theorem ag3(e:uW a=B s):a=.d (.str s):=iA e λ d h e=>mi e λ z f e=>L h (L f (L (ak e) rfl))theorem Ij(r:a9 X α h v a)(e:uW a=B s):∃t,v=.str s t:=by exact aV.inv (((ag3 e)▸r))def Sh(as:H V):Ev V:=λ σ=>two as λ a b=>(uW a).bind λ x=>(uW b).bind λ y=>bR (x==Sg&&y==("None" :ai)) (B (.ok (.d (.str uV)),σ))
def mG{A:Type}(d:D)(f:J->U A):U A:=iX (λ i=>match i with
 |.ofNat k=>f k|.negSucc _=>aa) d
theorem nV{A:Type}{f:J->U A}{r:A}(e:mG d f=B r){G:Prop}(k:∀n:J,d=.int n->f n=B r->G):G:=by
 rcases d with _|_|i|_|_|_|_|_|_|_|⟨_,_⟩;case int=>cases i with|ofNat n=>exact k n rfl e|negSucc n=>exact nn e
 all_goals exact nn e
def ag4(i:J)(xs:H D)(b v:V)(σ:aE):U (Res gL×aE):=hi b λ b=>mG b λ k=>hi v λ d=>bR (bE k (O xs)&&aZ (O xs) 16777216) (B (.ok (),σ.set i (.ae (xs.set k d))))def qv(a b v:V):Ev Unit:=λ σ=>hA a λ i=>match uW b with|some k=>nR σ[i]? λ es=>(bR (mE es&&aZ (O es) 16777216) (B (.ok (),σ.set i (.fY (fc es k v)))))|none=>jW σ[i]? λ xs=>ag4 i xs b v σ
theorem bQ.set(r:aV X h v d){vs:H aq}(q:bT X h vs xs)(k:J):bT X h (vs.set k v) (xs.set k d):=
 q.ind (P:=λ vs xs=>∀k:J,bT X h (vs.set k v) (xs.set k d)) (λ u=>.nil) (λ u u u u a as i k=>by
  induction k with
  |zero=>exact .cons r as|succ k=>exact .cons a (i k)) k
theorem ag6:eN g x (.builtin "str.format") Sh:=by intro vs as;intro α σ s o af I t p e Q E G c;refine nL e λ a b y e=>b3 e λ X z e=>b3 e λ i q e=>bN e λ h e=>?_;obtain u:=bf (ak e);subst y;refine e4 p.nu λ _ vs w r p=>L w (e4 p.nu λ _ vs W V p=>L W ?_);cases p;obtain⟨_,rfl⟩:=Ij r z;refine a7 (Ij V q) λ _ T=>L T ?_;obtain h:=bo h;rw[eq_of_beq h.1,eq_of_beq h.2];exact zA aoP rfl PySem.F.entry_str_format_m (L (ag2 ..) (aB (wpAny_mkStr (bl ⟨_,rfl,G _ _ s.heap _ α u.1.symm (.refl ..) (ax u.2 I) (ip t) (aV.str _ _)⟩) (by decide)))) (KFm.args_2 _ _)
theorem Si(K:cb x.F x.P)(v:aq)(a:V)(u:aq)(b:V)(w:aq)(d:V):
  ag g x (λ α h=>a9 (x.P++α) α h v a/\a9 (x.P++α) α h u b/\a9 (x.P++α) α h w d) (λ z z z z=>True) (zI v u w) (qv a b d):=by
 intro α σ s o af I F p e Q E M he;obtain⟨mv,X,A⟩:=p;refine nx e λ i xd R=>?_;subst xd;refine av mv λ l c w26=>L w26 (rY (uW b) (λ k r=>?_) λ r=>?_)
 ·
  rw[r]at R;refine H4 R λ es D e=>bN e λ T e=>?_;obtain y:=bf (ak e);refine cq (bo T) λ G j=>(av (H3 (prog:=g.prog) G (I.look c D)) λ j8 hd BP=>?_);obtain⟨t,rfl⟩:=Ij X r;refine wpAny_setItem_pairs (qs.mpr ⟨t,rfl⟩) hd (λ h' n dd=>?_) (L BP.length (b8 j));obtain C:=I.put K c dd λ o=>Rn n ((BP.mono o eV).put (A.mono o eV));exact M _ _ h' _ α y.1.symm C.2 (ax y.2 C.1) (ip F) trivial
 ·
  simp[r]at R;refine oP R λ xs D e=>iA e λ rZ nB e=>nV e λ k xW e=>iA e λ uu xe e=>bN e λ T e=>?_;obtain y:=bf (ak e);subst nB xW xe;obtain⟨G,j⟩:=bo T;refine av (I.look c D) λ vs q P=>?_;obtain⟨N,hC⟩:=q;obtain hk:=P.length▸cg.mp G;refine a7 ((X).inv) λ _ w77=>L w77 ?_;obtain big:=P.length▸b8 j;refine ki_setAt hC (m3 k) (by show _<2^63;lia) (by show _<_;exact q9.mpr hk) ?_;obtain em:(zC (·.setIfInBounds (Int.ofNat k).toNat w)) (W.listOf vs.toArray N)={cls:=.type "list",data:=.seq (vs.set k w).toArray N} :=by simp[zC]
  obtain C:=I.put K c (m:=.ae _) (tB ..) λ o=>⟨_,⟨N,L (Ek _ hC (aM _ em)) (L em rfl)⟩,(P.mono o).set (aV.mono A o) k⟩;exact M _ _ _ s.toks α y.1.symm C.2 (ax y.2 C.1) F trivial
noncomputable def qw:Pos:=⟨0,0,0,0⟩def rR:PySem.Expr:=.Constant .none 0 qw
structure SP where
 es:H aJ
 bs:H (H bx)
 p:cP
 nm:Str:=""
 z_:Arguments:=⟨[],[],aa,[],[],aa,[]⟩
 sc:Scope:=KR.main.scope
 dd:H ExceptHandler:=[]
def jg:bx->SP:=stK {es:=[],bs:=[],p:=qw}
   (λ n a b u u u s u u p=>⟨[],[b],p,n,a,s,[]⟩)
   (λ n u u b u u s u u u p=>{es:=[],bs:=[b],p:=p,nm:=n,sc:=s})
   (λ e p=>{es:=e.toList,bs:=[],p:=p})
   (λ u u=>{es:=[],bs:=[],p:=qw})
   (λ ay e p=>{es:=e::ay,bs:=[],p:=p})
   (λ t i b o p=>{es:=[i,t],bs:=[b,o],p:=p})
   (λ t b o p=>{es:=[t],bs:=[b,o],p:=p})
   (λ u u u=>{es:=[],bs:=[],p:=qw})
   (λ b h o f p=>{es:=[],bs:=[b,o,f],p:=p,dd:=h})
   (λ e p=>{es:=[e],bs:=[],p:=p})
structure ag7 where
 es:H aJ
 p:cP
 sc:Scope:=KR.main.scope
 o8:H Comprehension:=[]
 ks:H (U aJ):=[]
 nm:Str:=""
 c:Const:=.none
 z:Nat:=0
def fI:aJ->ag7:=Oo {es:=[],p:=qw}
   (λ u es p=>{es:=es,p:=p})
   (λ l u r p=>{es:=[l,r],p:=p})
   (λ u u u=>{es:=[],p:=qw})
   (λ t a b p=>{es:=[t,a,b],p:=p})
   (λ ks vs p=>{es:=vs,p:=p,ks:=ks})
   (λ e g s p=>{es:=[e],p:=p,sc:=s,o8:=g})
   (λ l u R p=>{es:=l::R,p:=p})
   (λ f as u p=>{es:=f::as,p:=p})
   (λ c z p=>{es:=[],p:=p,c:=c,z:=z})
   (λ u u u=>{es:=[],p:=qw})
   (λ v i p=>{es:=[v,i],p:=p})
   (λ n p=>{es:=[],p:=p,nm:=n})
   (λ u u=>{es:=[],p:=qw})
   (λ es u p=>{es:=es,p:=p})def hz(k:J)(s:bx):PySem.Expr:=(jg s).es.getD k rR
def sB(k:J)(s:bx):H Stmt:=(jg s).bs.getD k []def iu(k:J)(e:aJ):PySem.Expr:=(fI e).es.getD k rR
def bP:bx->H Stmt:=sB 0
def bz(s:bx):Scope:=(jg s).sc
def eU(s:bx):H Str:=(jg s).z_.args.map (·.arg)def tU(s:bx):H Str:=(jg s).z_.kwonlyargs.map (·.arg)def MQ(s:bx):Str:=(jg s).nm
noncomputable def aY(k:J):Stmt:=KR.main.body.getD k (.Pass ⟨0,0,0,0⟩)def clsAt(k j:J):Stmt:=(bP (aY k)).getD j (.Pass ⟨0,0,0,0⟩)
noncomputable def BZ(p:cP):Bool:=(aL p.line 147&&aL p.col 15)|| (aL p.line 183&&aL p.col 54)|| (aL p.line 231&&aL p.col 15)|| (aL p.line 268&&(aL p.col 19||Nat.beq p.col 23))||
 (aL p.line 284&&aL p.col 12)|| (aL p.line 290&&aL p.col 20)noncomputable def gZ:Addr:=319
noncomputable def B0:Addr:=123
noncomputable def rD:Addr:=134
noncomputable def tR:Addr:=191
noncomputable def tS:Addr:=196
noncomputable def tP:Addr:=211
noncomputable def nW:Addr:=218
noncomputable def l8:Addr:=232
noncomputable def ni:Addr:=237
noncomputable def uX:Addr:=266
noncomputable def x_:Addr:=276
noncomputable def ya:Addr:=309
noncomputable def Sj:Addr:=94
noncomputable def Sk:Addr:=101
noncomputable def Ik:Addr:=133
inductive Kind where|plain (bg:Mode)|opt (bg:Mode)|kw
def wD:H (ao×Kind×bx):=[(45,.plain .plain,aY 6),(52,.plain .plain,aY 7),(59,.plain .plain,aY 8),(66,.plain .plain,aY 9),(73,.plain .plain,aY 10),
 (80,.plain .plain,aY 13),(108,.plain .plain,aY 17),(115,.plain .plain,aY 18),(179,.plain .plain,aY 23),(186,.plain .plain,aY 24),
 (tP,.opt .keep,clsAt 28 0),(nW,.kw,clsAt 28 1),(l8,.plain .plain,clsAt 28 3),(ni,.plain .plain,clsAt 28 4),(uX,.opt .plain,clsAt 28 8),(x_,.plain .fresh,clsAt 28 10),(ya,.plain .plain,clsAt 28 15),
 (330,.plain .plain,aY 30),(335,.plain .plain,aY 31),(340,.plain .plain,aY 32),(345,.plain .plain,aY 33),(350,.plain .plain,aY 34),(355,.plain .plain,aY 35),(360,.plain .plain,aY 36),(365,.plain .plain,aY 37),(370,.plain .plain,aY 38)]noncomputable def ag8:kE:=[("_wall",.obj 38),("ONE_THIRD",.aS 0x3fd5555555555555),("ONE_SIXTH",.aS 0x3fc5555555555555),("TWO_THIRD",.aS 0x3fe5555555555555),("rgb_to_hls",.obj 45),("hls_to_rgb",.obj 52),("_v",.obj 59),("rgb_to_hsv",.obj 66),("hsv_to_rgb",.obj 73),("_DIV_LIMIT",.int 4000),("_div2n1n",.obj 80),("_div3n2n",.obj 87)]def ag9:kE:=[("_int2digits",.obj 94),("_digits2int",.obj 101),("_divmod_pos",.obj 108),("int_divmod",.obj 115),("b1_set",.obj B0),("in_table_b1",.obj Ik),("b3_exceptions",.obj rD),("map_table_b3",.obj 179),("in_table_c11",.obj 186),("_name_disallowed_re",.obj tR),("_value_disallowed_re",.obj tS),("Headers",.obj gZ)]noncomputable def ag_:kE:=[("_law_figures",.obj 330),("_law_rows",.obj 335),("_law_vote",.obj 340),("_law_read",.obj 345),("_law_chair",.obj 350),("_law_light",.obj 355),("_law_told",.obj 360),("_law_waves",.obj 365),("law",.obj 370),("max",.bi "max"),("min",.bi "min"),("len",.bi "len")]noncomputable def aha:kE:=[("ord",.bi "ord"),("chr",.bi "chr"),("divmod",.bi "divmod"),("abs",.bi "abs"),("sum",.bi "sum"),("isinstance",.bi "isinstance"),("repr",.bi "repr"),("int",.ty "int"),("str",.ty "str"),("list",.ty "list"),("range",.ty "range"),("reversed",.ty "reversed")]noncomputable def ahb:kE:=[("enumerate",.ty "enumerate"),("zip",.ty "zip"),("type",.ty "type"),("bool",.ty "bool"),("float",.ty "float"),("ValueError",.ty "ValueError"),("AssertionError",.ty "AssertionError"),("ZeroDivisionError",.ty "ZeroDivisionError")]def ee:kE:=ag8++ag9++ag_++aha++ahb
def mH(a:ao):U (J->aF):=match a==tR with|true=>B nU|false=>match a==tS with|true=>B eZ|false=>aa
noncomputable def coI:vY->ah
 |.int i=>i|_=>0
noncomputable def coS:vY->ai
 |.str s=>s|_=> ""
def An(k:U aJ):Int:=coI (fI (k.getD rR)).c
def Ao(v:aJ):Str:=coS (fI v).c
def rC:H (ah×ai):=(((fI (hz 0 (aY 22))).ks.map An).zip ((fI (hz 0 (aY 22))).es.map Ao))def nj(a:ao):U (H (ah×ai)):=match a==rD with|true=>B rC|false=>aa
def Il(as:H V):Ev V:=λ σ=>match e5 uH as σ with|some r=>B r|none=>e5 BL as σ
def biL:H (b1×(H V->Ev V)):=[("len",e5 λ d=>(xu d).map D.int),("ord",e5 λ d=>(xv d).map D.int),("chr",e5 Py),("divmod",Hd Bd),("abs",e5 PJ),("sum",e5 kJ),("max",BI .Gt),("min",BI .Lt),("isinstance",af4),("repr",e5 af5),("int.bit_length",e5 BM),("list.append",qr),("list.reverse",BN),("str.join",Ri),("str.lower",e5 lD),("str.upper",e5 Rf),("str.index",af8),("tuple.index",Rj),("list.index",af9),("dict.get",Rr nj),("str.format",Sh),("re.Pattern.search",uU mH)]def tyL:H (b1×(H V->Ev V)):=[("int",e5 intD),("str",Il),("list",HX),("range",Ba),("reversed",PA),("enumerate",xZ),("zip",o9),("type",e5 λ d=>(wx d).map D.ty)]def Im(id:b1):U (H V->Ev V):=biL.lookup id
def Sl(id:b1):U (H V->Ev V):=tyL.lookup id
def nX(m:U (H V->Ev V))(as:H V):Ev V:=match m with|some f=>f as|none=>.au
noncomputable def Sm:H (b1×ai×b1):=[("str","join","str.join"),("str","lower","str.lower"),("str","upper","str.upper"),("str","index","str.index"),("str","format","str.format"),
 ("list","append","list.append"),("list","reverse","list.reverse"),("list","index","list.index"),("tuple","index","tuple.index"),("int","bit_length","int.bit_length"),("re.Pattern","search","re.Pattern.search"),("dict","get","dict.get")]def rB:H (ai×ao):=[("_convert_string_type",nW),("get",uX),("values",x_),("setdefault",ya)]def Sn(T:b1)(nm:ai):U String:=(Sm.find? λ p=>p.1==T&&p.2.1==nm).map (·.2.2)
def uY(σ:aE)(a:V):U String:=match a with
 |.d d=>match d with
  |.str _=>B "str"|.ae _=>B "list"|.aD _=>B "tuple"|.int _=>B "int"
  |.obj a=>match mH a with
   |some _=>B "re.Pattern"
   |none=>match nj a with
    |some _=>B "dict"|none=>aa
  |_=>aa
 |.aH i=>match σ[i]? with|some (.ae _)=>B "list"|some (.fY _)=>B "dict"|_=>aa
def uZ(σ:aE)(a:V)(nm:ai):U o6:=match uY σ a with|some T=>(Sn T nm).map .bi|none=>match sj gZ σ a nm with|true=>(rB.lookup nm).map .fn|false=>aa
def u0(ct:ao->U bV)(σ:aE)(a:V)(nm:ai):U o6:=match uZ σ a nm with
 |some (.fn f)=>match ct f with
  |some _=>B (.fn f)|none=>aa
 |t=>t
def ahc(ct:ao->U bV)(a b v:V):Ev Unit:=λ σ=>match sj gZ σ a "__setitem__" with
 |true=>match ct l8 with
  |some c=>uS gZ "__setitem__" c a [b,v] σ|none=>aa
 |false=>qv a b v σ
def ahd(ct:ao->U bV)(a b:V):Ev Unit:=match ct ni with|some c=>uS gZ "__delitem__" c a [b]|none=>.au
def eG(ct:ao->U bV):Cfg where
 gl:=ee
 ct:=ct
 bi:=λ id=>nX (Im id)
 ty:=λ id=>nX (Sl id)
 ms:=u0 ct
 attr:=agu gZ
 item:=lE
 set:=ahc ct
 o7:=BS
 setattr:=Rz gZ
 del:=ahd ct
 loops:=S
 bg:=BZ
 fuel:=1000
def fj:Cfg where
 gl:=ee
 ct:=λ u=>aa
 bi:=λ u u=>.au
 ty:=λ id=>nX ([("str",e5 BL)].lookup id)
 ms:=λ u u u=>aa
 attr:=λ u u=>.au
 item:=λ u u=>.au
 set:=λ u u u=>.au
 o7:=λ u u=>.au
 setattr:=λ u u u=>.au
 del:=λ u u=>.au
 loops:=aj
 bg:=λ u=>aj
 fuel:=0
def lF(k:Kind)(st:bx)(m:az->cy):bV:=λ as ks=>match k with
 |.plain bg=>nN bg (eU st) m as ks
 |.opt bg=>match aL (O as+1) (O (eU st))with
  |true=>nN bg (eU st) m (as++ [.d .none]) ks|false=>nN bg (eU st) m as ks
 |.kw=>match(O as)==O (eU st)&&ks.map (·.1)==tU st with|true=>ia .plain (m ((eU st).zip as++ks).reverse)|false=>.au
noncomputable def dB(n:J)(bS:J)(cG:J):H D:=bS.rec (motive:=λ u=>J->H D) (λ u=>[]) (λ c dF x=>.int (x% 2^n:J)::dF (x/2^n)) cG
noncomputable def aQ(a:J):Nat:=if a==0 then 0 else a.log2+1
def b6(a n:J):Nat:=(aQ a+n-1)/n
noncomputable def lG:Str:="_int2digits.<locals>.inner"
noncomputable def mI:Str:="_digits2int.<locals>.inner"
noncomputable def u1(p l c:J)(q:ai)(o:U cj):Bool:=match o with
 |some m=>match m with
  |.tab P l' c' Q=>P==p&&(l'==l&&(c'==c&&Q==q))|_=>aj
 |none=>aj
theorem B1(h:u1 p l c q o=S):o=B (.tab p l c q):=by
 rcases o with _|m
 ·exact bw h
 ·induction m with|tab P l' c' Q=>have W:=bo h;have j:=bo W.2;have v:=bo j.2;simp[eq_of_beq W.1,eq_of_beq j.1,eq_of_beq v.1,eq_of_beq v.2]|_=>exact bw h
def B2(a n:J):cy:=λ σ=>bR (aZ 1 n&&(aZ n 1000&&(aZ (b6 a n) 32&&(σ.all (bk (O σ))&&u1 89 121 4 lG σ[0]?)))) (B (.ok (.ret (.aH (O σ)),[]),σ++ [.ae (dB n (b6 a n) a)]))def mJ:bV:=λ as ks σ=>bR ks.isEmpty (two as λ a b=>hi a λ a=>mG a λ a=>hi b λ b=>mG b λ n=>ia .plain (B2 a n) σ)
noncomputable def mK:H D->U (H J)
 |[]=>B []|d::ds=>mG d λ n=>(mK ds).map (n:: ·)
theorem yb:∀{xs:H D}{ds:H J},mK xs=B ds->xs=ds.map λ d=>D.int (d:J)
 |[],_,h=>ax (ak h) rfl|_::_,_,h=>nV h λ n e h=>gE h λ y W j=>L e (L (yb W) (ax j rfl))def fA(n:J)(bS:H J):Nat:=bS.rec (motive:=λ u=>J) (0) (λ d ds dF=>dF*2^n+d)
def sk(σ:aE):V->U (H D)
 |.aH i=>jW (σ[i]? :U cj) B|.d d=>x5 B d
def B3(D:V)(n:J):cy:=λ σ=>bR (aZ n 1000&&(σ.all (bk (O σ))&&u1 96 136 4 mI σ[1]?)) (((sk σ D).bind mK).bind λ ds=>bR (aZ (O ds) 32&&ds.all λ x=>bE x (2^n)) (B (.ok (.ret (.d (.int (fA n ds:J))),[]),σ)))def lH:bV:=λ as ks σ=>bR ks.isEmpty (two as λ d b=>hi b λ b=>mG b λ n=>ia .plain (B3 d n) σ)noncomputable def u2:H Nat:=[173,847,6150,6155,6156,6157,8203,8204,8205,8288,65279]++(aw 16).map (65024+ ·)
def Io:Cfg where
 gl:=ee
 ct:=λ u=>aa
 bi:=λ id=>nX ([("ord",e5 λ d=>(xv d).map D.int)].lookup id)
 ty:=λ u u=>.au
 ms:=λ u u u=>aa
 attr:=λ u u=>.au
 item:=λ u u=>.au
 set:=λ u u u=>.au
 o7:=λ u u=>.au
 setattr:=λ u u u=>.au
 del:=λ u u=>.au
 loops:=aj
 bg:=λ u=>aj
 fuel:=0
def So(a b:V):Ev V:=λ σ=>hi b (uR λ o=>bR (o==B0) (hi a λ a=>mG a λ c=>B (.ok (.d (.bool (u2.contains c))),σ)))def Sp:aJ->PySem.Expr:=iu 0
def Sr:PySem.Expr:=(hz 0) ((bP (aY 21)).getD 0 (.Pass ⟨0,0,0,0⟩))def ahe(ρ:az):cy:=b5 (ly ((ba Io 30 (bz (aY 21)) ρ (Sp Sr)).1.bind λ a=>(ba Io 30 (bz (aY 21)) ρ ((iu 1) Sr)).1.bind λ b=>So a b) ρ) oZ
def Ss:bV:=lF (.plain .plain) (aY 21) ahe
def bK:aE:=[.tab 89 121 4 lG,.tab 96 136 4 mI]def u3(σ:aE):Bool:=aL (O σ) 2&&(u1 89 121 4 lG σ[0]?&&u1 96 136 4 mI σ[1]?)
noncomputable def nY:cj->aF
 |.cX=>aj|_=>S
noncomputable def fB:V->aF
 |.d _=>S|.aH _=>aj
def fk(C:bV):bV:=λ as ks σ=>(as.all fB&&(ks.isEmpty&&(u3 (σ.take 2)&&(σ.drop 2).all nY))).rec (C as ks σ) ((C as [] bK).bind λ q=>bR (u3 q.2) (q.1.rec (λ v=>v.rec (λ d=>B (.ok (.d d),σ)) λ u=>aa) λ c es=>B (.exc c es,σ)))def Su(a:ao):U bV:=match a==Sj with|true=>B (fk mJ)|false=>match a==Sk with|true=>B (fk lH)|false=>match a==Ik with|true=>B (fk Ss)|false=>aa
noncomputable def sv:H J->J
 |[]=>0|c::cs=>gf (e1 2 c) (i9 (gf 2 (sv cs)))def codeOf(s:ai):Nat:=sv s.cps.toList
theorem Cr(c a:J):∀i,i<=c->(gf (e1 2 c) (i9 (gf 2 a))).testBit i=decide (i=c):=by
 refine λ i s=>Y Nat.testBit_two_pow_mul ?_;by_cases h:i=c
 ·refine L h ?_
  simp
 ·simp[h];lia
theorem T_:∀{as bs:H J},sv as=sv bs->as=bs
 |[],[],_=>rfl|[],b::bs,h=>by have h:=h;exact aR h (il (Yo (kZ _) (fp _)))|a::as,[],h=>by have h:=h;exact aR h (hM (Yo (kZ _) (fp _)))
 |a::as,b::bs,h=>by
  obtain h:gf (e1 2 a) (i9 (gf 2 (sv as)))=gf (e1 2 b) (i9 (gf 2 (sv bs))):=h;obtain e:a=b:=by
   rcases Nat.lt_trichotomy a b with q|q|q
   ·obtain W:=Cr a _ a (bH _)
    rw[h,Cr b _ a (ik ‹_›)]at W;simp at W;exact W
   ·exact q
   ·have W:=Cr b (sv bs) b (bH _)
    rw[<-h,Cr a _ b (ik ‹_›)]at W;simp at W;exact W.symm
  subst e;have:=ao7 (kZ a) h;exact L (T_ (ao7 (by decide) (zp this))) rfl
theorem ph(a b:ai):aL (codeOf a) (codeOf b)=(a==b):=by cases h:a==b with|true=>rw[cI.mp h];exact ra _|false=>cases q:aL _ _ with|false=>rfl|true=>have:=ZH.mp (T_ (dE q));rw[(show a=b by cases a;exact aM Ey this)]at h;simp at h
noncomputable def ie{h:Type}(n:ai):H (ai×h)->U h
 |[]=>aa|(m,b)::l=>bif aL (codeOf n) (codeOf m)then B b else ie n l
theorem mN{h:Type}(n:ai):∀l:H (ai×h),ie n l=l.lookup n
 |[]=>rfl|(m,b)::l=>by show(bif aL _ _ then B b else ie n l)=_;dsimp only[gY];rw[ph,mN n l];cases n==m<;>rfl
def qF(a b:ai):Bool:=aL (codeOf a) (codeOf b)def sx(s:bW)(n:ai):Bool:=match ie n s.names with|some .local|some .cell=>S|_=>aj
theorem Cs(s:bW)(n:ai):sx s n=dU s n:=by
 delta sx dU;exact L (mN ..) rfl
 try (cases s.names.lookup n with
  |none=>rfl|some k=>induction k<;>rfl)noncomputable def pQ{α:Type}(n:J)(f:J->α):α:=Nat.rec (motive:=λ u=>α) (f 0) (λ k u=>f (i9 k)) n
theorem rq{α:Type}(n:J)(f:J->α):pQ n f=f n:=by induction n<;>rfl
theorem k5{α:Type}(b:aF)(x y:α):(bif b then x else y)=if b=S then x else y:=by induction b<;>rfl
def ky(k p:J)(c:J->J)(n:J):Nat:=bif aZ p n then gv k (pQ (vH n p) c)else c n
def LR:J->Nat:=ky 1024 (e1 2 1024) (ky 512 (e1 2 512) (ky 256 (e1 2 256) (ky 128 (e1 2 128) (ky 64 (e1 2 64) (ky 32 (e1 2 32) (ky 16 65536 (ky 8 256 (ky 4 16 (ky 2 4 (ky 1 2 λ u=>0))))))))))def EC(b:J)(c:J->J):Prop:=∀n,n≠0->n<2^b->2^c n<=n/\n<2^(c n+1)
theorem l3(u:p=2^k)(r:b=k+k)(h:EC k c):EC b (ky k p c):=by
 intro n e V;subst u r;unfold ky;cases A:aZ _ n with
 |false=>
  have:¬2^k<=n:=λ q=>by rw[dD q]at A;exact aR A y5
  exact h n e (Yl this)
 |true=>
  refine L (show(bif S then gv k _ else c n)=k+c _ by rw[rq];rfl) ?_;obtain⟨W,j⟩:=h _ (Nat.pos_iff_ne_zero.mp (DJ (b8 A) (kZ _))) (by
   rw[td (kZ _),<-kk];exact V)
  constructor
  ·rw[kk,y6]
   exact(Nat.le_div_iff_mul_le (kZ _)).mp W
  ·rw[m2,kk,y6]
   exact(td (kZ _)).mp j
def pR(n:J):Nat:=bif bE n (e1 2 2048)then(bif aL n 0 then 0 else LR n)else k0 n
theorem zR(n:J):pR n=k0 n:=by
 unfold pR;cases h:bE n _ with
 |false=>rfl
 |true=>
  cases e:aL n 0 with
  |true=>rw[dE e];rfl
  |false=>
   have N:n≠0:=λ q=>by rw[q]at e;exact aR e y5
   exact cq ((show EC 2048 LR from l3 rfl rfl (l3 rfl rfl (l3 rfl rfl (l3 rfl rfl (l3 rfl rfl (l3 rfl rfl (l3 rfl rfl (l3 rfl rfl (l3 rfl rfl (l3 rfl rfl (l3 rfl rfl (λ n e V=>⟨Nat.pos_of_ne_zero e,V⟩)))))))))))) n N (cg.mp h)) λ W j=>((Nat.log2_eq_iff N).mpr ⟨W,j⟩).symm
def zS(n d:J):Nat:=pQ (vH n d) λ q=>pQ (gf 2 (lX n d)) λ r=>bif bE d r|| (aL r d&&aL (lX q 2) 1)then i9 q else q
theorem blt_eq(a b:J):bE a b=decide (a<b):=by rw[DK,cg,KC]theorem LS(a b:J):aZ a b=decide (a<=b):=by rw[DK,DL,KC]theorem rr(a b:J):aL a b=(a==b):=by rw[DK,Nat.beq_eq,cI]theorem LU(n d:J):zS n d=KD n d:=by unfold zS;simp only[rq,rq,k5,blt_eq,rr,rr];dsimp only[KD];refine(?_:(if (decide (d<2*(n% d))|| (2*(n% d)==d&&(n/d)% 2==1))=S then n/d+1 else n/d)=_);dsimp only
noncomputable def ir:Nat:=4503599627370496
theorem LV:1<=ir:=by decide
def zT(n d E c:J):Nat:=gv (gf (gX (gv E 74) c) ir) (bif aZ E (gv c 1000)then zS (gf n (e1 2 (gX (gv c 1000) E))) d else zS n (gf d (e1 2 (gX E (gv c 1000)))))noncomputable def zU(n d E:J):Bool:=bif aZ E 1000 then aZ d (gf n (e1 2 (gX 1000 E)))else aZ (gf d (e1 2 (gX E 1000))) n
def LW(n d:J):Nat:=pQ (gX (gv (pR n) 1000) (pR d)) λ E=>bif zU n d E then zT n d E 52 else zT n d E 53
def l4(n d:J):Nat:=bif aL n 0 then 0 else bif aZ (gv (pR d) 0) (gv (pR n) 900)&&(aZ (pR n) (gv (pR d) 900)&&bE 0 d)then LW n d else y7 n d
theorem wk(h:aZ a b=aj):b<a:=Yl λ q=>bw (Y h.symm (dD q))theorem wm(n d E K:J):pE n d ((K:ah)- E)=bif aZ E K then(n*2^(K-E),d)else(n,d*2^(E-K)):=by unfold pE;cases h:aZ E K with|true=>rw[bC (Ym (vI.mpr (b8 h))),vJ];rfl|false=>rw[a6 (Yn.mpr (anp (q9.mpr (wk h)))),DM,vJ];rfl
theorem LX(E c:J): -((E:ah)- 1000-c)=((c+1000:J):ah)- E:=by simp only[Int.sub_sub,DM,KG];rfl
theorem LY(n d E:J):(zU n d E=S) ↔ (pE n d (-((E:ah)- 1000))).1>=(pE n d (-((E:ah)- 1000))).2:=by simp only[DM,show 1000=((1000:J):ah)from rfl,wm];unfold zU;cases aZ E 1000<;>exact Iff.of_eq DL
theorem ZO{n d E c a b:J}(g:0<d)(v:a+1000=E+b)(A:c<=53)(l:n<2^(a+1))(ld:2^b<=d):(pE n d (-((E:ah)- 1000-c))).1/(pE n d (-((E:ah)- 1000-c))).2<2^55:=by
 rw[LX,wm];obtain u:∀{k j:J},a+1+k<=55+(b+j)->n*2^k<2^55*(d*2^j):=λ h=>eo (Nat.mul_lt_mul_of_pos_right l (kZ _)) (bA (ax (kk ..) (q_ (by decide) h)) (by rw[kk,kk];exact vK _ (vL _ ld)));cases h:aZ E _ with
 |true=>
  apply (td g).mpr;obtain this:=u (k:=c+1000-E) (j:=0) (by have:=b8 h;lia)
  rwa [DN,vM]at this
 |false=>
  apply (td (Yo g (kZ _))).mpr;obtain this:=u (k:=0) (j:=E-(c+1000)) (by lia)
  rwa [DN,vM]at this
theorem LZ(g:0<d)(h:k0 n+1000=E+k0 d)(G:E<=1900)(A:c<=53):
  zT n d E c=min Float64.infMag (((max ((E:ah)- 1000-c) (-1074))+1074).toNat*2^52+KD (pE n d (-(max ((E:ah)- 1000-c) (-1074)))).1 (pE n d (-(max ((E:ah)- 1000-c) (-1074)))).2):=by
 rw[Int.max_eq_left (by lia),show E-1000-c+1074=((E+74:J):ah)- c by lia,vJ];rw[anq (bA (vN (vL _ (bA (Nat.sub_le ..) (pF G 74))) (bA ((by
   unfold KD;dsimp only;split<;>lia)) (ZO g h A anr (Nat.log2_self_le (hM g))))) (by decide)),LX,wm]
 unfold zT;simp only[LU,LU];cases aZ E _<;>rfl
theorem rt(n d:J):l4 n d=y7 n d:=by
 unfold l4;refine L (zR ..) (L (zR ..) ?_);rw[k5,k5,LS,LS,blt_eq,rr];by_cases e:n=0
 ·subst e
  exact Y (bC (by decide)) ((show y7 0 d=0 by unfold y7;rw[bC (by decide)])).symm
 have P:(n==0)=false:=by simpa using e
 refine L P (L (a6 hN) ?_);split
 ·next R=>
  simp[jK,KC]at R;obtain⟨G,i,g⟩:=R;unfold LW;rw[rq,k5,zR,zR];have iu:gX _ _=k0 n+1000-k0 d:=rfl;refine L iu ?_;have u:k0 n+1000=k0 n+1000-k0 d+k0 d:=(ans (bA G (og (by decide) _))).symm;generalize k0 n+1000-k0 d=E at*;have p:E<=1900:=by lia
  unfold y7;refine L P (Y ?_ (a6 hN).symm);dsimp only;refine L ((show((k0 n)- (k0 d))=(E:ah)- 1000 by lia)) ?_;by_cases h:zU n d E=S
  ·rw[bC h,bC ((LY n d E).mp h)]
   exact LZ g u p (by decide)
  ·rw[a6 h,a6 (λ q=>h ((LY n d E).mpr q))]
   exact LZ g u p (by decide)
 ·rfl
noncomputable def gN:Nat:=9223372036854775808
def jR(a:J):Nat:=lX (vH a ir) 2048
def e8(a:J):Bool:= !aL (jR a) 2047
def eL(a:J):Nat:=bif aL (jR a) 0 then lX a ir else gv ir (lX a ir)def dz(a:J):Nat:=bif aL (jR a) 0 then 1 else jR a
def b_(a:J):Bool:=aL (vH a gN) 1
def ox(s:aF)(m:J):Nat:=bif s then gv gN m else m
theorem ED:2^63=gN:=rfl
theorem L0(x:jL):b_ x.toNat=(x.toNat/2^63==1):=by unfold b_;exact L (rr ..) rfl
theorem ZP(x:jL):jR x.toNat=x.toNat/2^52% 2048:=L (show 2^52=ir from rfl) rfl
theorem iR(h:e8 x.toNat=S):y8 x=.fin (b_ x.toNat) (eL x.toNat) ((dz x.toNat:ah)- 1075):=by
 unfold e8 at h;rw[rr]at h;delta y8 eL dz;rw[k5,k5,rr,L0,<-ZP];obtain W:¬((jR x.toNat==2047)=S):=by intro q;rw[q]at h;exact bw h
 rw[a6 W];by_cases e:(jR x.toNat==0)=S
 ·rw[bC e,bC e,bC e];rfl
 ·rw[a6 e,a6 e,a6 e];rfl
theorem tF(s:aF)(m:J):y9 s m=gw (ox s m):=by delta y9 ox;induction s with|true=>rw[ED];rfl|false=>rw[a6 hN,hO];rfl
def tG(s:aF)(n h:J):Nat:=ox s (bif aZ 2150 h then l4 (gf n (e1 2 (gX h 2150))) 1 else l4 n (e1 2 (gX 2150 h)))theorem ZQ(s:aF)(n h K:J):y9 s (y7 (pE n 1 ((h:ah)- K)).1 (pE n 1 ((h:ah)- K)).2)=gw (ox s (bif aZ K h then l4 (gf n (e1 2 (gX h K))) 1 else l4 n (e1 2 (gX K h)))):=by simp only[wm,rt,rt,<-tF];induction aZ K h with|true=>rfl|false=>exact aM (λ k=>y9 s _) (y_ _)theorem EE(s:aF)(n h:J)(x:e=(h:ah)- 2150):za s n e=gw (tG s n h):=by refine L x ?_;delta za vO tG;exact ZQ ..
def L1(a b:J):Nat:=tG (b_ a !=b_ b) (gf (eL a) (eL b)) (gv (dz a) (dz b))def wo(s z:aF)(n h:J):Nat:=bif aL n 0 then ox z 0 else tG s n h
def zV(s:aF)(p:J)(t:aF)(q h:J):Nat:=bif s==t then wo s s (gv p q) h else bif aZ q p then wo s aj (gX p q) h else wo t aj (gX q p) h
theorem tH(s z:aF)(n h:J)(R:g=(h:ah)- 2150):(if (gx s n==0)=S then KH z else za (decide (gx s n<0)) (gx s n).natAbs g)=gw (wo s z n h):=by
 unfold wo;rcases n with _|n;case zero=>simp only[show aL 0 0=S from rfl,cond_true,<-tF];rcases s with _|_<;>exact bC rfl
 case succ=>
  rw[show aL _ 0=aj from rfl,cond_false,<-EE s _ h R];rcases s with _|_;case false=>exact a6 hN
  case true=>refine(?_:(if (Int.negSucc n==0)=S then _ else za (decide (Int.negSucc n<0)) _ g)=_);rw[gJ (Yp n)];exact a6 hN
theorem L2(h:q<=p):gx aj p+gx S q=gx aj (p-q):=(ant h).symm
theorem L3(h:q<=p):gx aj q+gx S p=gx S (p-q):=by show q-p= -((p-q:J):ah);simp[ant h,DM]
theorem ZR(s:aF)(p:J)(t:aF)(q R:J)(T:g=(R:ah)- 2150):(if (gx s p+gx t q==0)=S then KH (s&&t)else za (decide (gx s p+gx t q<0)) (gx s p+gx t q).natAbs g)=gw (zV s p t q R):=by
 unfold zV;induction s<;>cases t
 ·exact tH aj aj _ R T
 ·refine L (show _=aj from rfl) ?_
  cases h:aZ q p with|true=>rw[L2 (b8 h)];exact tH aj aj _ R T|false=>rw[L3 (ik (wk h))];exact tH S aj _ R T
 ·refine L (KG ..) ?_
  cases h:aZ q p with|true=>rw[L3 (b8 h)];exact tH S aj _ R T|false=>rw[L2 (ik (wk h))];exact tH aj aj _ R T
 ·exact L Int.neg_add.symm (tH S S _ R T)def tI(a b:J)(t:aF):Nat:=bif aZ (dz a) (dz b)then zV (b_ a) (eL a) t (gf (eL b) (e1 2 (gX (dz b) (dz a)))) (gv (dz a) 1075)else zV (b_ a) (gf (eL a) (e1 2 (gX (dz a) (dz b)))) t (eL b) (gv (dz b) 1075)theorem EF(a b:J):((a:ah)- 1075)- ((b:ah)- 1075)=(a:ah)- b:=by lia
theorem L4(x:J):(x:ah)- 1075=((x+1075:J):ah)- 2150:=by lia
theorem EG(s:aF)(p x:J)(t:aF)(q y:J):Float64.align s p ((x:ah)- 1075) t q ((y:ah)- 1075)=bif aZ x y then(gx s p,gx t (q*2^(y-x)),(x:ah)- 1075)else(gx s (p*2^(x-y)),gx t q,(y:ah)- 1075):=by
 obtain k:∀{z:J}{m:ah},m=z-1075->(gx s (p*2^((x-1075)- m).toNat),gx t (q*2^((y-1075)- m).toNat),m)=(gx s (p*2^(x-z)),gx t (q*2^(y-z)),(z:ah)- 1075):=λ e=>by simp only[e,EF,EF,vJ,vJ]
 cases h:aZ x y with|true=>exact Y (k (Int.min_eq_left (anu (vI.mpr (b8 h)) 1075))) (L (KI ..) (L (vM ..) rfl))|false=>exact Y (k (Int.min_eq_right (anu (vI.mpr (ik (wk h))) 1075))) (L (KI ..) (L (vM ..) rfl))
theorem L5(x y:J)(t:aF):(match Float64.align (b_ x) (eL x) ((dz x:ah)- 1075) t (eL y) ((dz y:ah)- 1075)with
  |(p,q,g)=>if (p+q==0)=S then KH (b_ x&&t)else za (decide (p+q<0)) (p+q).natAbs g)=gw (tI x y t):=by
 rw[EG];unfold tI;cases aZ _ _<;>exact ZR _ _ _ _ _ (L4 _)theorem L6(h:e8 x.toNat=S)(Q:e8 y.toNat=S):KJ x y=gw (tI x.toNat y.toNat (b_ y.toNat)):=by unfold KJ;rw[iR h,iR Q];exact L5 x.toNat y.toNat _
theorem EH:gN=ir*2048:=rfl
theorem EI(h:0<n):aL n 0=false:=match n,h with|_+1,_=>rfl
def k6(a:J):Bool:=aL (lX a gN) 0
theorem L7(a:J):k6 a=aL (eL a) 0:=by delta k6 eL;refine L (show lX a gN=a% ir+ir*jR a by show a% gN=_;rw[EH,Nat.mod_mul];rfl) ?_;induction jR a with|zero=>rfl|succ k=>exact Y (EI (eo LV (bA (vK ir (fp k)) (i_ ..)))) (EI (eo LV (gK ..))).symm
theorem zW(h:e8 x.toNat=S):DO x=k6 x.toNat:=by unfold DO;rw[L7,iR h];cases eL x.toNat<;>rfl
theorem L8(h:k6 a=aj):¬(eL a==0)=true:=by rw[<-rr,<-L7,h];exact hN
def EJ(a b:J):Nat:=ox (b_ a !=b_ b) (bif aZ (dz b) (dz a)then l4 (gf (eL a) (e1 2 (gX (dz a) (dz b)))) (eL b)else l4 (eL a) (gf (eL b) (e1 2 (gX (dz b) (dz a)))))noncomputable def zX(p q:J):Ordering:=bif bE p q then .lt else bif aL p q then .eq else .gt
def EK(s:aF)(p:J)(t:aF)(q:J):Ordering:=match s,t with|false,aj=>zX p q|true,S=>zX q p|false,S=>bif aL (gv p q) 0 then .eq else .gt|true,aj=>bif aL (gv p q) 0 then .eq else .lt
def ru(a b:J):Ordering:=bif aZ (dz a) (dz b)then EK (b_ a) (eL a) (b_ b) (gf (eL b) (e1 2 (gX (dz b) (dz a))))else EK (b_ a) (gf (eL a) (e1 2 (gX (dz a) (dz b)))) (b_ b) (eL b)theorem L9{a b:ah}(h:a<b ↔ p<q)(j:a=b ↔ p=q):compare a b=zX p q:=by unfold zX;cases d:bE p q with|true=>exact bC (h.mpr (cg.mp d))|false=>apply Y (a6 λ z=>bw (Y d.symm (cg.mpr (h.mp z))));cases x:aL p q with|true=>exact bC (j.mpr (dE x))|false=>exact a6 λ z=>bw (Y x.symm (L (j.mp z) (ra _)))theorem ZS(s:aF)(p:J)(t:aF)(q:J):compare (gx s p) (gx t q)=EK s p t q:=match s,t,p,q with|false,aj,_,_=>L9 q9 anv|true,S,_,_=>L9 (Int.neg_lt_neg_iff.trans q9) (Int.neg_inj.trans (anv.trans eq_comm))|false,S,0,0=>rfl|false,S,_+1,0=>rfl|false,S,_,_+1=>rfl|true,aj,0,0=>rfl|true,aj,_+1,q=>Y (bC (Yr (Yp _) (m3 q))) (by show _=(bif aL (_+1+q) 0 then Ordering.eq else .lt);rw[EI (eo (fp _) (gK ..))];rfl)|true,aj,0,q+1=>Y (bC (Int.natCast_pos.mpr (fp q))) rfl
theorem EL(h:e8 x.toNat=S)(Q:e8 y.toNat=S):oh x y=B (ru x.toNat y.toNat):=by unfold oh;rw[iR h,iR Q];dsimp only;refine L (EG ..) ?_;unfold ru;cases aZ _ _<;>exact aM B (ZS ..)def EM(a b:J):Nat:=bif aZ (dz a) (dz b)then tG (b_ a) (lX (eL a) (gf (eL b) (e1 2 (gX (dz b) (dz a))))) (gv (dz a) 1075)else tG (b_ a) (lX (gf (eL a) (e1 2 (gX (dz a) (dz b)))) (eL b)) (gv (dz b) 1075)
noncomputable def isLt:pG->aF
 |.lt=>S|_=>aj
noncomputable def isEq:pG->aF
 |.eq=>S|_=>aj
noncomputable def EN:pG->aF
 |.gt=>S|_=>aj
theorem EO(o:pG):((B o:U pG)==B .lt)=isLt o:=by induction o<;>rfl
theorem ZT(o:pG):((B o:U pG)==B .eq)=isEq o:=by induction o<;>rfl
theorem ZU(o:pG):((B o:U pG)==B .gt)=EN o:=by induction o<;>rfl
def EP(b m:J):Nat:=bif k6 m then ox (b_ b) 0 else bif isLt (ru b 0) !=isLt (ru m 0)then tI m b (b_ b)else m
theorem ZV(K:e8 x.toNat=S)(Q:e8 y.toNat=S)(p:k6 y.toNat=aj)(E:m=Ys x y)(e:e8 m.toNat=S):(Yt x y).2=gw (EP y.toNat m.toNat):=by
 unfold Yt;dsimp only;refine E▸?_;obtain j:(KH aj).toNat=0:=rfl;obtain f:=rfl;unfold EP;rw[k5,k5,zW e];unfold Float64.lt;refine L (EL Q f) (L (EL e f) (L (EO ..) (L (EO ..) (L j ?_))));by_cases h:k6 m.toNat=S
 ·rw[bC h,bC h]
  apply Y (a6 (by decide+kernel));rw[j,tF];unfold Float64.signBit;rw[L0]
 ·rw[a6 h,a6 h]
  by_cases z:(isLt (ru y.toNat 0) !=isLt (ru m.toNat 0))=S
  ·rw[bC z,bC z]
   exact L6 e Q
  ·rw[a6 z,a6 z]
   exact UInt64.ofNat_toNat.symm
theorem neg_toNat(y:jL):(y^^^y9 S 0).toNat=y.toNat^^^2^63:=by congr 1
theorem ZW(a:J):(a^^^2^63)% gN=a% gN:=by dsimp only[<-ED];rw[Nat.xor_mod_two_pow,Nat.xor_zero]theorem ZX(a:J):(a^^^2^63)/gN=(a/gN)^^^1:=by dsimp only[<-ED];rw[Nat.xor_div_two_pow]theorem L_(a:J):jR a=a% gN/ir:=by dsimp only[EH];rw[anw];rfl
theorem Ma(a:J):lX a ir=a% gN% ir:=by show a% ir=_;dsimp only[EH];rw[anx]theorem ZY(h:a% gN=b% gN):jR a=jR b/\eL a=eL b/\dz a=dz b/\e8 a=e8 b:=by delta eL dz e8;rw[(show jR a=jR b by rw[L_,L_,h]),(show lX a ir=lX b ir by rw[Ma,Ma,h])];exact⟨rfl,rfl,rfl,rfl⟩
def zY:ah->J
 |.ofNat n=>l4 n 1|.negSucc n=>ox S (l4 (i9 n) 1)theorem ER(i:ah):vP i=gw (zY i):=by delta vP vO;rw[tF];induction i with|ofNat n=>rw[<-rt];rfl|negSucc n=>rw[gJ (Yp n),<-rt];rfl
theorem Mb(h:e8 x.toNat=S):KL x=false:=by unfold KL;rw[iR h]def zZ(i:ah):Bool:=bif e8 (gw (zY i)).toNat then S else rv i
theorem Mc(i:ah):zZ i=rv i:=by
 unfold zZ;rw[k5];split
 ·next h=>unfold rv;rw[ER,Mb h];rfl
 ·rfl
def k7(n:J):U D:=pQ n λ n=>B (.aS (gw n))theorem tJ(n:J):k7 n=B (.aS (gw n)):=rq _ _
def wq(o:iM)(x y:jL):U D:=bif e8 x.toNat&&e8 y.toNat then match o with|.Add=>k7 (tI x.toNat y.toNat (b_ y.toNat))|.Sub=>k7 (tI x.toNat y.toNat (!b_ y.toNat))|.Mult=>k7 (L1 x.toNat y.toNat)|.Div=>bif k6 y.toNat then aa else k7 (EJ x.toNat y.toNat)|.Mod=>bif k6 y.toNat then aa else bif e8 (gw (EM x.toNat y.toNat)).toNat then k7 (EP y.toNat (gw (EM x.toNat y.toNat)).toNat)else ng .Mod x y|_=>aa
 else ng o x y
theorem ES(o:iM)(x y:jL):wq o x y=ng o x y:=by
 unfold wq;rw[k5];split
 ·next h=>
  refine cq (bF.mp h) λ K Q=>?_;induction o with
  |Add=>show k7 _=B _;rw[tJ,L6 K Q]
  |Sub=>show k7 _=B _;rw[tJ,(show Yu x y=gw _ from by
    have e:zb y=y^^^y9 S 0:=by unfold zb;rw[(show Float64.isNaN y=aj by unfold Float64.isNaN;rw[iR Q]),a6 hN]
    refine pS (ZY (show(zb y).toNat% gN=y.toNat% gN by rw[e,neg_toNat,ZW])) λ u l z p=>?_;obtain t:b_ (zb y).toNat= !b_ y.toNat:=by
     unfold b_;rw[show vH (zb y).toNat gN=(zb y).toNat/gN from rfl,show vH y.toNat gN=y.toNat/gN from rfl,e,neg_toNat,ZX];obtain j:y.toNat/gN<2:=by rw[td (by decide)];have:=y.toNat_lt;exact this
     rcases anz.mp j with q|q
     ·exact L (KN.mp q) rfl
     ·exact L q rfl
    delta Yu KJ;simp only[iR K,iR (Y p Q),t,l,z];exact L5 x.toNat y.toNat _)]
  |Mult=>show k7 _=B _;rw[tJ,(show Yv x y=gw (L1 x.toNat y.toNat)from by
    unfold Yv;rw[iR K,iR Q];exact EE _ _ _ (by show _=((dz x.toNat+dz y.toNat):ah)- 2150;lia))]
  |Div=>
   refine(?_:(bif k6 y.toNat then aa else k7 _)=a8 _ _);refine L (zW Q) ?_;cases d:k6 y.toNat with
   |true=>rfl
   |false=>rw[(show Yw x y=gw (EJ x.toNat y.toNat)from by
     unfold Yw;rw[iR K,iR Q];dsimp only;rw[a6 (L8 d),EF,wm];delta vO EJ;simp only[tF,rt,rt];cases aZ _ _<;>rfl),<-tJ];rfl
  |Mod=>
   cases d:k6 y.toNat with
   |true=>show aa=a8 _ _;rw[zW Q,d];rfl
   |false=>
    cases r:e8 (gw _).toNat with
    |false=>rfl
    |true=>
     refine(?_:k7 _=a8 _ _);simp only[zW Q,d,tJ,ZV K Q d ((show Ys x y=gw _ from by
       unfold Ys;rw[iR K,iR Q];dsimp only;rw[a6 (L8 d),EG];unfold EM;cases aZ _ _<;>exact EE _ _ _ (L4 _))).symm r];rfl
  |_=>rfl
 ·rfl
def z0(a b:ah):Nat:=ox (decide (a<0) !=decide (b<0)) (l4 a.natAbs b.natAbs)theorem ZZ(a b:ah):vO (decide (a<0) !=decide (b<0)) a.natAbs b.natAbs=gw (z0 a b):=by delta vO z0;simp[tF,rt]def Z0(o:iM)(a b:ah):U D:=match o with|.Div=>bif e8 (gw (z0 a b)).toNat then(bif b==0 then aa else k7 (z0 a b))else tK .Div a b|o=>tK o a b
def aI(o:iM):D->D->U D
 |.int a,y=>match y with
  |.int b=>Z0 o a b|.aS b=>a8 (mixed o&&zZ a) (wq o (gw (zY a)) b)|_=>aa
 |.aS a,y=>match y with
  |.aS b=>wq o a b|.int b=>a8 (mixed o&&zZ b) (wq o a (gw (zY b)))|_=>aa
 |a,y=>fW o a y
theorem Md(o:iM)(a b:D):aI o a b=fW o a b:=by
 rcases a with _|_|a|a|_|_|_|_|_|_|⟨_,_⟩
 case int=>
  rcases b with _|_|b|b|_|_|_|_|_|_|⟨_,_⟩
  case int=>exact(by
    induction o with
    |Div=>
     show(bif e8 (gw _).toNat then _ else tK .Div a b)=_;cases h:e8 (gw _).toNat with
     |false=>rfl|true=>show _=a8 _ _;rw[ZZ,Mb h,tJ];cases b==0<;>rfl
    |_=>rfl)
  case aS=>show a8 _ _=a8 _ _;rw[Mc,ES,ER]
  all_goals rfl
 case aS=>
  rcases b with _|_|b|b|_|_|_|_|_|_|⟨_,_⟩;case aS=>exact ES o a b
  case int=>show a8 _ _=a8 _ _;rw[Mc,ES,ER]
  all_goals rfl
 all_goals rfl
def z1(b:eR)(o:pG):U Bool:=match b with|.Lt=>B (isLt o)|.LtE=>B (isLt o||isEq o)|.Gt=>B (EN o)|.GtE=>B (EN o||isEq o)|.Eq=>B (isEq o)|.NotEq=>B (!isEq o)|_=>aa
def cp(o:eR)(a b:D):U Bool:=match b with
 |.aS y=>match a with
  |.aS x=>bif e8 x.toNat&&e8 y.toNat then z1 o (ru x.toNat y.toNat)else rx o x y|a=>iv o a (.aS y)
 |b=>iv o a b
theorem z2(o:eR)(a b:D):cp o a b=iv o a b:=by
 rcases b with _|_|_|y|_|_|_|_|_|_|⟨_,_⟩
 case aS=>
  rcases a with _|_|_|x|_|_|_|_|_|_|⟨_,_⟩;case aS=>show(bif e8 x.toNat&&e8 y.toNat then z1 o _ else rx o x y)=rx o x y;cases h:e8 x.toNat&&e8 y.toNat with|false=>rfl|true=>obtain⟨K,Q⟩:=bF.mp h;show z1 o _=rx o x y;delta z1 rx bne;refine L (EL K Q) ?_;rw[EO,ZT,ZU];try rfl
  all_goals rfl
 all_goals rfl
def tL(d:D):U D:=match d with|.aS u=>bif e8 u.toNat then pQ (bif aZ 1075 (dz u.toNat)then gf (eL u.toNat) (e1 2 (gX (dz u.toNat) 1075))else vH (eL u.toNat) (e1 2 (gX 1075 (dz u.toNat)))) λ n=>B (.int (match b_ u.toNat with|true=> -(n:ah)|false=>(n:ah)))else intD d|d=>intD d
theorem Z1(d:D):tL d=intD d:=by
 rcases d with _|_|_|u|_|_|_|_|_|_|⟨_,_⟩
 case aS=>
  unfold tL;dsimp only;rw[k5];split
  ·next h=>
   rw[rq,k5];show _=(match y8 u with
    |.fin b_ m e=>B _|_=>aa)
   refine(iR h).symm▸?_;congr 2;delta Float64.truncOf Float64.ceilOf Float64.floorOf;generalize eL u.toNat=m;generalize dz u.toNat=E;cases h:aZ 1075 E with
   |true=>
    have p:(E:ah)- 1075>=0:=Ym (vI.mpr (b8 h));rw[bC p,bC p,show((E:ah)- 1075).toNat=E-1075 from vJ E 1075];have e:((m*2^(E-1075):J):ah)=m*2^(E-1075):=L (Int.natCast_mul ..) rfl;rcases b_ u.toNat with _|_;case true=>exact aM Int.neg e
    case false=>exact e
   |false=>
    have p:¬(E:ah)- 1075>=0:=Yn.mpr (anp (q9.mpr (wk h)));rw[a6 p,a6 p,DM,show(1075-(E:ah)).toNat=1075-E from vJ 1075 E];have e:((m:ah)).fdiv (2^(1075-E))=((m/2^(1075-E):J):ah):=by rw[show 2^(1075-E)=((2^(1075-E):J):ah) by rw[Int.natCast_pow];rfl,zc _ (m3 _)];rfl
    rcases b_ u.toNat with _|_;case true=>exact aM Int.neg e.symm
    case false=>exact e.symm
  ·rfl
 all_goals rfl
def ET(o:eR)(ds:H D)(i j:J):Bool:=match ds[i]?,ds[j]? with
 |some a,B b=>match cp o a b with
  |some c=>c|none=>aj
 |_,_=>aj
def pT(o:eR)(ds:H D):U D:=match tM ds with|true=>ds[DP (ET o ds) (O ds-1)]?|false=>aa
theorem EU(o:eR)(ds:H D):pT o ds=l5 o ds:=by
 obtain e:ET o ds=ry o ds:=by funext i j;delta ET ry;induction ds[i]? with|none=>rfl|some a=>induction ds[j]? with|none=>rfl|some b=>dsimp only;refine L (z2 ..) ?_;cases iv o a b<;>rfl
 delta pT l5;refine L e ?_
 (cases tM ds<;>rfl)abbrev cz:=H (ai×D)
structure hI where
 mO:H (ai×(H D->U D))
 jy:H (ai×(D->H D->U D))
noncomputable def aiU:vY->U D
 |.none=>B .none|.bool b=>B (.bool b)|.int i=>B (.int i)|.float u=>B (.aS u)|.str s=>B (.str s)|_=>aa
def Ct(n:ai):Bool:=qF n "__debug__" ||qF n "__classdict__"
def Ua(s:bW)(pr:cz)(n:ai):U D:=bif Ct n then aa else match ie n s.names with|some .local|some .cell|some .free=>ie n pr|some .globalImplicit=>ie n ee|_=>aa
noncomputable def kb(f:aJ->U D):H aJ->U (H D)
 |[]=>B []|e::es=>(f e).bind λ d=>(kb f es).map (d:: ·)
noncomputable def sy(o:v3):H (U D)->U D
 |[]=>aa|m::M=>match M with|[]=>m|_::_=>m.bind λ d=>(nA d).bind λ b=>match ua o b with|true=>B d|false=>sy o M
noncomputable def Cu(o:v3):H (U aF)->U aF
 |[]=>B (o==.And)|m::M=>m.bind λ b=>match ua o b with|true=>B b|false=>Cu o M
def yo(a:D):H eR->H (U D)->U aF
 |[],_=>aa|_::_,[]=>aa
 |d::o,r::R=>match o,R with
  |[],[]=>r.bind λ b=>cp d a b|_::_,_::_=>r.bind λ b=>(cp d a b).bind λ c=>match c with|true=>yo b o R|false=>B aj
  |_,_=>aa
noncomputable def Cv(f:aJ->U D):U aJ->U D
 |none=>B .none|some e=>f e
noncomputable def qG(s:bW):H aJ->H D->cz->U cz
 |[],ds,pr=>match ds with
  |[]=>B pr|_::_=>aa
 |e::es,ds,pr=>match ds with|[]=>aa|d::ds=>(nameOf e).bind λ n=>bR (sx s n) (qG s es ds ((n,d)::pr))
noncomputable def pj(s:bW):H aJ->H D->cz->(cz->U D)->U D
 |[],ds,pr,k=>match ds with
  |[]=>k pr|_::_=>aa
 |e::es,ds,pr,k=>match ds with|[]=>aa|d::ds=>(nameOf e).bind λ n=>bR (sx s n) (pj s es ds ((n,d)::pr) k)theorem aiV{A Bq:Type}{o:U A}{k:A->U Bq} :(bR b o).bind k=bR b (o.bind k):=match b with|true=>rfl|false=>rfl
theorem IT(s:bW):∀(es:H aJ)(ds:H D)(pr:cz)(k:cz->U D),pj s es ds pr k=(qG s es ds pr).bind k
 |[],[],_,_=>rfl|[],_::_,_,_=>rfl|_::_,[],_,_=>rfl|e::es,d::ds,pr,k=>by refine(?_:(nameOf e).bind _=((nameOf e).bind _).bind k);induction nameOf e with|none=>rfl|some n=>exact((aM _ (IT s es ds _ k)).trans aiV.symm)
theorem Cw(e:qG s es ds pr=B p){G:Prop}(K:es=[]->ds=[]->pr=p->G)
  (k:∀t E d D n,es=t::E->ds=d::D->nameOf t=B n->dU s n=S->qG s E D ((n,d)::pr)=B p->G):G:=by
 rcases es with _|⟨t,es⟩<;>rcases ds with _|⟨d,ds⟩
 ·exact K rfl rfl (ak e)
 ·exact nn e
 ·exact nn e
 ·exact b3 e λ n h e=>bN e λ j e=>k t es d ds n rfl rfl h (ax (Cs s n) j) e
noncomputable def IU:H ai->H D->(H (ai×D)->U D)->U D
 |[],ds,k=>match ds with
  |[]=>k []|_::_=>aa
 |n::N,ds,k=>match ds with|[]=>aa|d::ds=>IU N ds λ l=>k ((n,d)::l)
theorem Ub:∀{N:H ai}{ds:H D}{k:H (ai×D)->U D}{d:D},IU N ds k=B d->O N=O ds/\k (N.zip ds)=B d
 |[],[],_,_,e=>⟨rfl,e⟩|[],_::_,_,_,e=>nn e|_::_,[],_,_,e=>nn e|n::N,a::ds,k,d,e=>by exact cq (Ub (k:=λ l=>k ((n,a)::l)) e) λ h j=>⟨(zj.mpr h),j⟩
def sz(s:bW)(t:aJ)(d:D)(pr:cz):U cz:=hZ t (λ n=>match sx s n with
  |true=>B ((n,d)::pr)|false=>aa) (rU t (λ es=>(hE d (O es)).bind λ ds=>qG s es ds pr) aa)
noncomputable def sA(e:cz->aJ->U aF)(pr:cz):aF->H aJ->U aF
 |b,[]=>B b|true,c::cs=>(e pr c).bind λ b=>sA e pr b cs|false,_::cs=>sA e pr aj cs
noncomputable def hs(s:bW)(E:cz->aJ->U D)(N:cz->aJ->U aF)(e:aJ)(g:m_)(pr:cz):H D->U (H D)
 |[]=>B []|d::ds=>(sz s g.target d pr).bind λ p=>(sA N p S g.ifs).bind λ ok=>match ok with|true=>(E p e).bind λ v=>(hs s E N e g pr ds).map (v:: ·)|false=>hs s E N e g pr ds
def Uc(s:bW)(n:ai):Bool:=(ie n s.names).rec aj λ k=>k.rec aj aj S aj aj
def n3(s:bW)(pr:cz):cz:=pr.filter λ p=>Uc s p.1
noncomputable def pk(a:ah):J->H D
 |0=>[]|n+1=>.int a::pk (a+1) n
def Ud:H D->U (H D)
 |[.int b]=>match zz 0 b 1 with
  |true=>B (pk 0 (b-0).toNat)|false=>aa
 |[.int a,.int b]=>match zz a b 1 with
  |true=>B (pk a (b-a).toNat)|false=>aa
 |_=>aa
noncomputable def lM:D->U (H D)
 |.ae xs=>B xs|.aD xs=>B xs|.str s=>B (s.cps.toList.map λ c=>.str ⟨#[c]⟩)|_=>aa
noncomputable def sC:H (H D)->U (H D×H (H D))
 |[]=>B ([],[])|l::g=>match l with|[]=>aa|d::t=>match sC g with|some p=>B (d::p.1,t::p.2)|none=>aa
noncomputable def vc:J->H (H D)->U (H D)
 |0,_=>aa|n+1,l=>match sC l with|some p=>(vc n p.2).map (.aD p.1:: ·)|none=>B []
noncomputable def IV:J->H D->H D
 |_,[]=>[]|k,d::ds=>.aD [.int k,d]::IV (k+1) ds
noncomputable def IW:H D->U (H (H D))
 |[]=>B []|d::ds=>(lM d).bind λ xs=>(IW ds).map (xs:: ·)
def yp(ds:H D):U (H D):=match aL (O ds) 2|| (aL (O ds) 3||Nat.beq (O ds) 4)with
 |true=>(IW ds).bind (vc 1000)|false=>aa
def Ue(ds:H D):U (H D):=one ds (BK λ xs=>B (IV 0 xs))
def yq(k:J)(t:aJ)(ds:H D):U (H D):=match k with
 |0=>Ud ds
 |k+1=>match xb t with
  |true=>match k with
   |0=>yp ds|_=>Ue ds
  |false=>aa
def vd(nm:ai):U Nat:=bif qF nm "range" then B 0 else bif qF nm "zip" then B 1 else bif qF nm "enumerate" then B 2 else aa
def Cx(s:bW)(n:ai):Bool:=match ie n s.names with|some .globalImplicit=>S|_=>aj
def yr(s:bW)(e:aJ):U (J×aJ×H aJ):=w0 e (λ f args K=>hZ f (λ nm=>(vd nm).bind λ k=>bR (args.all fM&&K.isEmpty) (bR (Cx s nm) (B (k,f,args)))) aa) aa
def kP(r:U D):U D×U Bool:=(r,r.bind nA)noncomputable def sD:U D×U Bool:=(aa,aa)def kQ(b:aF)(x:U D×U aF):U D×U Bool:=match b with|true=>x|false=>sD
noncomputable def bJ(P:hI):J->bW->cz->aJ->U D×U aF
 |0,_,_,_=>sD
 |N+1,w,pr,e=>match e with
  |.Constant k _ _=>kP (aiU k)|.Name nm _=>kP (Ua w pr nm)|.BinOp l i r _=>kP ((bJ P N w pr l).1.bind λ a=>(bJ P N w pr r).1.bind λ b=>aI i a b)
  |.UnaryOp i a _=>match i with
   |.Not=>((bJ P N w pr a).1.bind (ll .Not),(bJ P N w pr a).2.map not)|i=>kP ((bJ P N w pr a).1.bind (ll i))
  |.BoolOp i es _=>(sy i (es.map λ e=>(bJ P N w pr e).1),Cu i (es.map λ e=>(bJ P N w pr e).2))|.Compare l j es _=>kQ (es.all hY) (((bJ P N w pr l).1.bind λ a=>yo a j (es.map λ e=>(bJ P N w pr e).1)).map D.bool,(bJ P N w pr l).1.bind λ a=>yo a j (es.map λ e=>(bJ P N w pr e).1))|.IfExp t a b _=>((bJ P N w pr t).2.bind λ c=>match c with|true=>(bJ P N w pr a).1|false=>(bJ P N w pr b).1,(bJ P N w pr t).2.bind λ c=>match c with|true=>(bJ P N w pr a).2|false=>(bJ P N w pr b).2)|.Tuple es _ _=>kQ (es.all fM) (kP ((kb (λ e=>(bJ P N w pr e).1) es).bind λ xs=>a8 (dc xs) (B (.aD xs))))|.List es p=>kQ (es.all fM&&!(BZ p)) (kP ((kb (λ e=>(bJ P N w pr e).1) es).bind λ xs=>a8 (dc xs) (B (.ae xs))))|.Subscript v s _=>ui s (λ lo h st=>kP ((bJ P N w pr v).1.bind λ a=>(Cv (λ e=>(bJ P N w pr e).1) lo).bind λ b=>(Cv (λ e=>(bJ P N w pr e).1) h).bind λ c=>(Cv (λ e=>(bJ P N w pr e).1) st).bind λ e=>jq a b c e)) (kP ((bJ P N w pr v).1.bind λ a=>(bJ P N w pr s).1.bind λ b=>fh a b))
  |.ListComp E x C p=>match x with
   |[G]=>kQ (!(G.is_async !=0)&&(nK w C&&(hY G.iter&&!(BZ p)))) (match N with
    |0=>sD
    |M+1=>kP ((match yr w G.iter with
     |some q=>(bJ P M w pr q.2.1).1.bind λ u=>(kb (λ e=>(bJ P M w pr e).1) q.2.2).bind (yq q.1 G.target)|none=>(bJ P (M+1) w pr G.iter).1.bind lM).bind λ xs=>match bE (O xs) 1000 with
     |true=>(hs C (λ pr e=>(bJ P (M+1) C pr e).1) (λ pr e=>(bJ P (M+1) C pr e).2) E G (n3 C pr) xs).map D.ae|false=>aa))
   |_=>sD
  |.Call f args K W=>kQ (args.all fM&&K.isEmpty) (hZ f (λ nm=>kQ (Cx w nm) (kP ((bJ P N w pr (.Name nm W)).1.bind λ u=>(ie nm P.mO).bind λ g=>(kb (λ e=>(bJ P N w pr e).1) args).bind g)))
   (p8 f (λ o nm A=>kQ (Bn o&&(bE (O args) 20&&aL A.endLine W.line)) (kP ((ie nm P.jy).bind λ g=>(bJ P N w pr o).1.bind λ d=>(kb (λ e=>(bJ P N w pr e).1) args).bind (g d)))) sD))
  |_=>sD
def aiW(P:hI)(M:J)(s:bW)(pr:cz)(ay vs:H aJ)(k:cz->U D):U D:=bR (vs.all fM&&(bE (O vs) 100&&aL (O ay) (O vs))) ((Bu s ay vs).bind λ w=>match w with
 |none=>(kb (λ e=>(bJ P M s pr e).1) vs).bind λ ds=>pj s ay ds pr k|some n=>bR (n.all (sx s)) ((kb (λ e=>(bJ P M s pr e).1) vs).bind λ ds=>IU n ds λ l=>k (l++pr)))def aiX(s:bW)(pr:cz)(ay:H aJ)(o:U D)(k:cz->U D):U D:=o.bind λ d=>(hE d (O ay)).bind λ ds=>pj s ay ds pr k
def pSs(P:hI)(M:J)(s:bW)(R:cz->H bx->(cz->U D)->U D)(pr:cz)(b:H bx)(k:cz->U D):U D:=match b with
 |[]=>k pr
 |st::rest=>stK aa
    (λ u u u u u u u u u u=>aa)
    (λ u u u u u u u u u u u=>aa)
    (λ v u=>match v with
    |some e=>(bJ P M s pr e).1|none=>aa)
    (λ u u=>aa)
    (λ ay e u=>match ay with
    |[t]=>hZ t (λ nm=>bR (sx s nm) ((bJ P M s pr e).1.bind λ d=>R ((nm,d)::pr) rest k))
     (rU t (λ ay=>bR (ay.all fM) (match uN e with
       |some vs=>aiW P M s pr ay vs λ p=>R p rest k|none=>aiX s pr ay (bJ P M s pr e).1 λ p=>R p rest k)) aa)
    |_=>aa)
    (λ u u u u u=>aa)
    (λ t a b u=>(bJ P M s pr t).2.bind λ c=>match c with
    |true=>R pr a λ p=>R p rest k|false=>R pr b λ p=>R p rest k)
    (λ u u u=>aa)
    (λ u u u u u=>aa)
    (λ u u=>aa) st
def jz(P:hI)(M:J)(s:bW)(n:J):cz->H bx->(cz->U D)->U D:=n.rec (λ u u u=>aa) λ u=>pSs P M s
def kc(P:hI)(st:bx)(ds:H D):U D:=match aL (O ds) (O (eU st))with
 |true=>jz P 30 (bz st) 60 ((eU st).zip ds).reverse (bP st) λ u=>B .none|false=>aa
def bY(σ:aE):Prop:=u3 (σ.take 2)=S/\(σ.drop 2).all nY=S/\σ.all (bk (O σ))=S
def RR{A Bq:Type}(i:A->Bq)(o:U A)(m:Ev Bq):Prop:=∀a,o=B a->∀σ,bY σ->m σ=B (.ok (i a),σ)abbrev cR(o:U D)(m:Ev V):Prop:=RR V.d o m
abbrev fN(o:U aF)(m:Ev aF):Prop:=RR (λ b=>b) o m
theorem kR(h:o=B d)(σ:aE):Ev.ofD o σ=B (.ok (.d d),σ):=L h rfl
section
variable {A Bq IX B' C:Type}{i:A->Bq}{j:IX->B'}{o:U A}{m:Ev Bq}{f:A->U IX}{k:Bq->Ev B'}theorem RR.bind(h:RR i o m)(n:∀a,RR j (f a) (k (i a))):RR j (o.bind f) (m.bind k):=λ c e σ g=>b3 e λ a W l=>Y (aT (h a W σ g)) (n a c l σ g)theorem RR.bindMap{f:A->U C}(h:RR i o m)(n:∀a,RR j ((f a).map l) (k (i a))):RR j ((o.bind f).map l) (m.bind k):=λ c e σ g=>gE e λ q e E=>b3 e λ a W P=>Y (aT (h a W σ g)) (n a c (L P (E.symm▸rfl)) σ g)theorem RR.map{f:A->IX}(h:RR i o m)(n:∀a,k (i a)=.ret (j (f a))):RR j (o.map f) (m.bind k):=λ c e σ g=>gE e λ a W l=>Y (aT (h a W σ g)) (L (n ..) (L l rfl))theorem RR.ret(a:A):RR i (B a) (.ret (i a)):=λ c e σ u=>ax (ak e) rfl
theorem RR.none:RR i aa m:=λ u=>nn
theorem RR.of(o:U A):RR (λ b=>b) o (.of o):=λ c e σ u=>L e rfl
theorem RR.if(h:b=S->RR i o m)(h':b=aj->RR i T M):RR i (match(generalizing:=false) b with|true=>o|false=>T) (match(generalizing:=false) b with|true=>m|false=>M):=match b,h,h' with|true,h,_=>h rfl|false,_,h=>h rfl
theorem RR.cD{k:D->Ev Bq}(h:RR i o (k d)):RR i o ((Ev.read (.d d)).bind k):=h
end
theorem RR.Ug{A Bq:Type}{i:A->Bq}(o:U A):RR i o ((Ev.of o).bind λ c=>.ret (i c)):=λ c e σ u=>L e rfl
theorem cR.none:cR aa m:=RR.none
theorem fN.none:fN aa m:=RR.none
theorem cR.of(o:U D):cR o (Ev.ofD o):=λ d e σ u=>kR e σ
theorem Uh(h:cR a M):cR (a.bind (ll b)) (Ay b M):=h.bind λ u=>cR.of _
theorem aiY{os:H (U D)}(h:bQ cR os M):cR (sy b os) (AA b M):=by induction h with|nil=>exact .none|cons h c I=>induction c with|nil=>exact h|cons=>exact h.bind λ u=>.cD ((RR.of _).bind λ u=>.if (λ u=>.ret _) λ u=>I)theorem aiZ{os:H (U aF)}(h:bQ fN os M):fN (Cu c os) (wY c M):=by induction h with|nil=>exact .ret _|cons h _ I=>exact h.bind λ b=>.if (λ u=>.ret b) λ u=>I
theorem Ui{A Bq:Type}{i:A->Bq}{k:V->aF->Ev Bq}{f:D->aF->U A}(h:cR o m)(n:∀b c,RR i (f b c) (k (.d b) c)):RR i (o.bind λ b=>(cp g a b).bind (f b)) (mr g (.d a) m k):=
 h.bind λ b=>.cD (.cD (ax (z2 g a b) ((RR.of _).bind (n b))))theorem RR.ai0{A Bq C:Type}{i:A->Bq}{l:C->A}{o:U C}{m:Ev Bq}(h:RR (λ c=>i (l c)) o m):RR i (o.map l) m:=λ u e=>gE e λ a W n=>ax n (h a W)
theorem ve(h:∀e,cR (f e) (g e)):∀(es:H aJ)(ds:H D),kb f es=B ds->∀σ,bY σ->cE (es.map g) σ=B (.ok (ds.map V.d),σ)
 |[],ds,e,σ,_=>by refine ax (ak e) ?_;rfl|a::es,ds,e,σ,R=>by refine av (rm.mp e) λ d W e=>(av (hR.mp e) λ F l w=>ax w ?_);show(Ev.bind _ _) σ=_;rw[aT (h a d W σ R),aT (ve h es F l σ R)];rfl
theorem Cy:∀ds:H D,fx (ds.map V.d)=B ds
 |[]=>rfl|d::ds=>by show(fx _).map _=_;exact L (Cy ds) rfl
theorem ys{Sq T N:Type}{R:Sq->T->Prop}{f:N->Sq}{g:N->T}(h:∀u,R (f u) (g u)):∀P:H N,bQ R (P.map f) (P.map g)
 |[]=>.nil|u::P=>.cons (h u) (ys h P)def dt(pr:cz)(ρ:az):Prop:=∀n d,pr.lookup n=B d->ρ.lookup n=B (.d d)theorem dt.cons(h:dt pr ρ)(n:ai)(d:D):dt ((n,d)::pr) ((n,.d d)::ρ):=by intro m e p;rw[gY]at p ⊢;cases q:m==n with|true=>rw[q]at p;refine L (ak p) ?_;rfl|false=>rw[q]at p;exact h m e p
theorem ai1:∀{es:H aJ}{ds:H D}{pr P:cz}{ρ:az},qG s es ds pr=B P->dt pr ρ->∃ar,bindNames s es (ds.map V.d) ρ=B ar/\dt P ar:=by
 intro es;induction es with
 |nil=>intro ds pr P ρ e h;exact Cw e (λ u q p=>⟨ρ,L q rfl,ax p h⟩) λ u u u u u q=>nomatch q
 |cons t es I=>intro ds pr P ρ e h;refine Cw e (λ q=>nomatch q) λ T E d F n q1 Q W b e=>?_;obtain⟨rfl,rfl⟩:=kp q1;refine av (I e (h.cons n d)) λ ar X l=>(⟨ar,?_,l⟩);rw[Q,<-X];show(nameOf t).bind _=_;exact L W (eh b)
theorem ai2{G:Prop}(e:sz s t d pr=B g)(K:∀n p,t=.Name n p->dU s n=S->(n,d)::pr=g->G)(E:∀es c p ds,t=.Tuple es c p->hE d (O es)=B ds->qG s es ds pr=B g->G):G:=
 mu (P:=λ o=>o=B g->G) (λ n p q e=>bN e λ h e=>K n p q (ax (Cs s n) h) (ak e)) (w1 (P:=λ o=>o=B g->G) (λ es c p q e=>b3 e λ ds W l=>E es c p ds q W l) λ e=>nn e) e
theorem ai3(e:sz s t d pr=B P)(h:dt pr ρ){GG:Prop}(K:∀ar,lu s t d ρ=B ar->dt P ar->GG):GG:=
 ai2 e (λ n p q b Q=>K _ (L q (eh b)) (ax Q (h.cons n d))) λ es u u ds q W l=>
  av (ai1 l h) λ ar v I=>
  K ar (by rw[q];show(hE d _).bind _=_;rw[W];exact v) I
theorem bY.len:∀{σ:aE},bY σ->2<=O σ
 |[],h=>bw h.1|[_],h=>bw h.1|_::_::_,_=>i_ ..
theorem bY.Cz(h:bY σ)(n:l.all nY=S)(R:l.all (bk (O σ+O l))=S):bY (σ++l):=by
 refine⟨?_,?_,?_⟩
 ·rw[ao8 h.len];exact h.1
 ·rw[List.drop_append_of_le_length h.len,zJ,h.2.1,n];rfl
 ·simp only[zJ,e2,R,Bool.and_true]
  exact b9.mpr λ x K=>Hw (gK ..) (b9.mp h.2.2 x K)
theorem bY.push(h:bY σ)(n:nY m=S)(R:bk (O σ+1) m=S):bY (σ++ [m]):=
 h.Cz (by show(nY m&&S)=S;rw[n];rfl) (by show(bk (O σ+1) m&&S)=S;rw[R];rfl)
class inductive lN(b:aF)(k:J):aE->J->H D->Prop
 |nil {τ j fC} :gH j τ=B (aa,fC)->fC.take k=τ.take k->fC.length=τ.length->lN b k τ j []
 |cons {τ j d fC xs} :(∃m,τ[j]?=B m/\(!owner m||b)=S)->gH j τ=B (B d,fC)->fC.take k=τ.take k->fC.length=τ.length->bY fC->lN b k fC j xs->lN b k τ j (d::xs)
theorem Uj{α:Type}(h:cH<=k){a b:H α}(e:a.take k=b.take k):a.take cH=b.take cH:=by
 obtain this:=aM (List.take cH) e
 rwa [ao9,ao9,zG h]at this
theorem lN.less(h:cH<=k)(x:lN b k g j xs):lN b cH g j xs:=by induction x with|nil a b c=>exact .nil a (Uj h b) c|cons a b c d e _ i=>exact .cons a b (Uj h c) d e i
theorem Uk:∀{js:H J}{σ af:aE}{r:U (H D)},h3 js σ=B (r,af)->h3 js (σ++ext)=B (r,af++ext)
 |[],_,_,_,e=>by obtain p:=bf (ak e);rw[<-p.1,<-p.2];rfl
 |j::js,σ,af,r,e=>Gm e (λ k h s f E P=>Y (j0 (iD h)) (Y (eh s) (by
   rw[f,<-P,E];exact aM (λ t=>B _) (ux h)))) λ k d K R h s f e E=>Y (j0 (iD h)) (Y (eh s) (by
   rw[f,<-E];show(h3 js _).map _=_;rw[ux h,Uk e];rfl))
theorem IY(e:gH j σ=B r):gH j (σ++ext)=B (r.1,r.2++ext):=
 Gy e (λ js t o e=>OP e λ p u W P v Q=>Y (j0 (iD o)) (Y (eh (by
   refine L (dD W) ?_;induction js with
   |nil=>exact aR rfl u|cons=>rfl)) (Y (OO (iD P)) (Y (eh (oj _)) (by
   rw[ux o,Uk (af:=p.2) v,<-Q];obtain⟨q,V⟩:=p;induction q with
   |none=>rfl
   |some ds=>
    refine aM (λ t=>B (B _,t)) (Za _ _ ?_);simp[OH v];exact oR o)))))
  (λ i n o e=>Gz e λ xs s e=>Y (j0 (iD o)) (Y (j0 (iD s)) (Y (eh (oj n)) (by
    have E:∀m M:cj,((σ++ext).set i m).set j M=(σ.set i m).set j M++ext:=λ m M=>by rw[ux s,Za _ _ (L zB (oR o))]
    unfold nE at e ⊢;cases K:xs[n]? with
    |some d=>rw[K]at e;rw[<-ak e];exact aM (λ t=>B _) (E _ _)|none=>rw[K]at e;exact bN e λ h e=>Y (eh h) (ax (ak e) (aM (λ t=>B _) (E _ _)))))))
  (λ l i xs o z e=>Y (j0 (iD o)) (Y (rT (iD z)) (by
    refine ax e ?_;cases xs[i]? <;>exact aM (λ t=>B (_,t)) (ux o))))
  λ k q o es e X=>Y (j0 (iD o)) (Y (X _) (by
   rw[es,<-e];induction q<;>exact aM (λ t=>B (_,t)) (ux o)))
noncomputable def vf:fu->aF
 |.list .. |.aD .. |.str .. |.jk .. |.rev .. =>S|_=>aj
class inductive n4:fu->H D->Prop
 |nil {k} :vf k=S->stepK k=B aa->n4 k []
 |cons {k cH d ds} :vf k=S->stepK k=B (B (d,cH))->n4 cH ds->n4 k (d::ds)theorem n4.plain(h:n4 k ds):vf k=true:=by induction h<;>assumption
theorem yt(h:vf k=S):(owner (.it k)=aj/\∀n,bk n (.it k)=S)/\∀j g,nextK j k g=(stepK k).map (uq j g):=by induction k<;>first|exact⟨⟨rfl,λ u=>rfl⟩,λ u u=>rfl⟩|exact bw h
theorem Ul(h:(g:H cj)[j]?=B (.it k))(p:vf k=S)(e:stepK k=B q):gH j g=B (uq j g q):=
 Y (j0 h) (Y ((yt p).2 j g) (aM _ e))theorem sE{A:Type}{σ l l':H A} :(σ++l).take (O σ)=(σ++l').take (O σ):=Y wi wi.symm
theorem sF{A:Type}{σ l l':H A}(h:O l=O l'):O (σ++l)=O (σ++l'):=by simp only[e2,h]theorem Um(g:bY σ){k:fu}{ds:H D}(h:n4 k ds):lN b (O σ) (σ++ [.it k]) (O σ) ds:=by induction h with|nil p e=>exact .nil (fC:=σ++ [.cX]) (Y (Ul h6 p e) (aM (λ t=>B (aa,t)) oT)) sE (sF rfl)| @cons k K d ds p e s i=>exact .cons (fC:=σ++ [.it K]) ⟨.it k,h6,L ((yt p).1.1) rfl⟩ (Y (Ul h6 p e) (aM (λ t=>B (B d,t)) oT)) sE (sF rfl) (g.push rfl ((yt s.plain).1.2 _)) i
theorem CA{A:Type}{f:J->fu}{g:A->D}{xs:H A}(h:∀i,vf (f i)=S)(d:∀i,stepK (f i)=B ((xs[i]?).map λ a=>(g a,f (i+1)))):∀(l:H A)(i:J),xs.drop i=l->n4 (f i) (l.map g)
 |[],i,e=>.nil (h i) (L (d ..) (L ((mx e).1) rfl))|_::t,i,e=>.cons (h i) (L (d ..) (L ((mx e).1) rfl)) (CA h d t _ (mx e).2)
theorem Un:∀(n:J)(a:ah),n4 (.jk a n) (pk a n)
 |0,a=>.nil rfl rfl|n+1,a=>.cons rfl rfl (Un n _)def vg(b:aF)(σ:aE)(q:U (Res V×aE))(xs:H D):Prop:=∃j g,q=B (.ok (.aH j),g)/\bY g/\g.take (O σ)=σ/\O σ<=O g/\lN b (O σ) g j xs
theorem qH{A:Type}{σ l:H A} :O σ<=O (σ++l):=L e2 (gK ..)
theorem Uo(e:lM v=B xs){GG:Prop}(K:∀k,(n4 k xs/\inner k=S)->(∀σ,g8 (.d v) σ=B (.ok (.aH (O σ)),σ++ [.it k]))->GG):GG:=by
 rcases v with _|_|_|_|s|_|_|_|y|y|⟨_,_⟩
 case ae=>exact K _ ⟨ak e▸(by
   obtain this:=CA (f:=.list y) (g:=id) (λ u=>rfl) (λ u=>rfl) _ 0 rfl
   rwa [List.map_id]at this),rfl⟩ (λ u=>rfl)
 case aD=>exact K _ ⟨ak e▸(by
   obtain this:=CA (f:=.aD y) (g:=id) (λ u=>rfl) (λ u=>rfl) _ 0 rfl
   rwa [List.map_id]at this),rfl⟩ (λ u=>rfl)
 case str=>exact K _ ⟨ak e▸(CA (λ u=>rfl) (λ i=>L Array.getElem?_toList rfl) _ 0 rfl),rfl⟩ (λ u=>rfl)
 all_goals exact nn e
theorem Up(h:zz a b 1=S)(g:bY σ):vg apD σ (g8 (.aH (O σ)) (σ++ [.hX a b])) (pk a (b-a).toNat):=by obtain G:bY (σ++ [.hX a b]):=g.push rfl rfl;exact(bh _ _ ⟨Y (AK h6) (eh h),G.push rfl rfl,L (eb ..) wi,bA qH qH,(Um G (Un (b-a).toNat a)).less qH⟩)
section
variable {A:Type}{σ r:H A}{a b c:A}theorem vh:(σ++a::b::r)[O σ+1]?=B b:=L (pN (gK ..)) (L (Zw ..) rfl)theorem CB:(σ++a::b::r).set (O σ+1) c=σ++a::c::r:=L (Lm _ _ (gK ..)) (L (Zw ..) rfl)
end
theorem Uq:gH (O σ+1) (σ++ [.it (.aD xs i),.it (.enu (O σ) i)])=nE (O σ+1) (O σ) i (σ++ [.it (.aD xs i),.it (.enu (O σ) i)]) xs:=Y (j0 vh) (Y (j0 h6) (eh (oj i)))
theorem Ur(g:bY σ)(i:J):bY (σ++ [.it (.aD xs i),.it (.enu (O σ) i)]):=g.Cz rfl (by
 show(S&&((bE _ (O σ+2)&&S)&&S))=S;rw[cg.mpr (Nat.lt_add_of_pos_right (fp 1))];rfl)
theorem Us(g:bY σ):∀(l:H D)(i:J),xs.drop i=l->i+O l=O xs->lN S (O σ) (σ++ [.it (.aD xs i),.it (.enu (O σ) i)]) (O σ+1) (IV i l)
 |[],i,e,h=>.nil (fC:=σ++ [.cX,.cX]) (Y Uq (by
   unfold nE;exact L ((mx e).1) (Y (eh (cI.mpr h)) (aM _ (L oT (L CB rfl)))))) sE (sF rfl)
 |d::t,i,e,h=>.cons (fC:=σ++ [.it _,.it _]) ⟨_,vh,rfl⟩ (Y Uq (by
   unfold nE;exact L ((mx e).1) (aM (λ t=>B _) (L oT (L CB rfl))))) sE (sF rfl) (Ur g _) (Us g t _ (mx e).2 (Y (zh ..) h))noncomputable def gS(ks:H fu):aE:=ks.map cj.it
theorem sG(ks:H fu):O (gS ks)=O ks:=gh ..
def yu(k:fu)(l:H D):Prop:=n4 k l/\inner k=S
theorem ai4(h:inner k=S):h3 (A.length::js) (A++ .it k::Bq)=(stepK k).bind λ q=>match q with
  |none=>B (aa,A++ .cX::Bq)|some p=>(h3 js ((A++ [.it p.2])++Bq)).map λ r=>(r.1.map (p.1:: ·),r.2):=
 Y (j0 h6) (Y (eh h) (aM _ (funext λ q=>by
  induction q with
  |none=>exact aM (λ t=>B _) oT|some p=>exact aM (λ t=>(h3 js t).map λ r=>(r.1.map (p.1:: ·),r.2)) (Y oT (Eu ..)))))
def Ut(ks:H fu)(A Bq:aE):U (H D×H (H D))->Prop
 |some p=>∃k,bQ yu k p.2/\O k=O ks/\h3 (km (O A) (O ks)) (A++(gS ks++Bq))=B (B p.1,A++(gS k++Bq))|none=>∃l':aE,O l'=O ks/\h3 (km (O A) (O ks)) (A++(gS ks++Bq))=B (aa,A++(l'++Bq))
theorem ai5(g:bQ yu ks l):∀A:aE,Ut ks A Bq (sC l):=by
 induction g with
 |nil=>exact λ u=>⟨[],.nil,rfl,rfl⟩
 | @cons k u ks l h j i=>
  intro A;obtain⟨s,n⟩:=h;obtain st:=ai4 (A:=A) (Bq:=gS ks++Bq) (js:=km (O A+1) (O ks)) n;cases s with
  |nil v e=>exact⟨.cX::gS ks,aM _ (sG ks),Y st (L e rfl)⟩
  | @cons _ K d t v e s=>
   obtain i:=i _;rw[e]at st;have st:h3 (km (O A) (O (k::ks))) (A++(gS (k::ks)++Bq))=(h3 (km (O (A++ [cj.it K])) (O ks)) ((A++ [.it K])++(gS ks++Bq))).map λ r=>(r.1.map (d:: ·),r.2):=by rw[e2];exact st
   show Ut _ _ _ (match sC l with|some p=>B _|none=>aa);revert i;induction sC l with|some p=>refine λ i=>gF i λ q o f w=>?_;rw[w]at st;exact⟨K::q,.cons ⟨s,(OZ e).2.trans n⟩ o,aM (· +1) f,Y st (aM (λ t=>B _) (Eu ..).symm)⟩|none=>exact λ i=>av i λ l' o f=>⟨.it K::l',aM _ o,(f▸st).trans (aM (λ t=>B _) (Eu ..).symm)⟩
theorem Uu(g:bY σ)(h:bQ yu ks m)(D:js=km (O σ) (O ks))(p:t=O (σ++gS ks)):bY ((σ++gS ks)++ [.gD (O js),.it (.zip js t)]):=by
 obtain s:∀n,(gS ks).all nY=S/\(gS ks).all (bk n)=true:=λ n=>by clear D p;induction h with|nil=>exact⟨rfl,rfl⟩|cons h d i=>exact⟨i.1,by show(bk n _&&_)=S;rw[(yt h.1.plain).1.2];exact i.2⟩
 apply (g.Cz (s 0).1 (s _).2).Cz rfl;have l:∀j,j<O (σ++gS ks)+1->bE j _=true:=λ j q=>cg.mpr (kn q);refine(?_:(S&&((bE t (O _+2)&&(js.all λ j=>bE j (O _+2)))&&S))=S);rw[l t (ax p (ko _)),b9.mpr λ j q=>l j ?_]
 ·rfl
 ·rw[e2,sG];exact kn (List.mem_range'_1.mp (ax D q)).2
theorem ai6(g:bY σ)(y:(!js.isEmpty&&aZ (O js) 1000)=S):∀(N:J){ks:H fu}{m:H (H D)}{xs:H D},vc N m=B xs->bQ yu ks m->js=km (O σ) (O ks)->t=O (σ++gS ks)->lN S (O σ) ((σ++gS ks)++ [.gD (O js),.it (.zip js t)]) (t+1) xs
 :=by
  intro N;induction N with
  |zero=>exact λ e=>nn e
  |succ N I=>
   intro ks m xs e E F v;obtain s:=ai5 E σ;have x:∀{q:U _}{C:aE},h3 (km _ _) _=B _->gH (t+1) ((σ++gS ks)++ [.gD (O js),.it (.zip js t)])=B (Gu (t+1) js t (q,C)):=λ d=>by rw[<-F]at d;refine L v (Y (j0 vh) (Y (eh y) (Y (OO h6) (Y (eh (oj _)) ?_))));rw[CB,eb,d];rfl
   have o:∀l l':aE,O l=O l'->∀a b j n:cj,((σ++l)++ [a,b]).take _=((σ++l')++ [j,n]).take _/\O ((σ++l)++ [a,b])=O ((σ++l')++ [j,n]):=λ l l' h a b j n=>by rw[eb,eb];exact⟨sE,sF (L e2 (L e2 (L h rfl)))⟩
   obtain e:(match sC m with
    |some p=>(vc N p.2).map _|none=>B [])=B xs:=e
   cases d:sC m with
   |none=>rw[d]at e s;refine av s λ l' u z=>?_;obtain f:=o l' _ (Y u (sG ks).symm) _ .cX _ _;exact ak e▸.nil (fC:=(σ++l')++ [.gD _,.cX]) (Y (x z) (aM (λ t=>B (aa,t)) (eb ..).symm)) f.1 f.2
   |some p=>
    rw[d]at e s;refine gF s λ k u z P=>(gE e λ V R T=>ax T ?_);obtain f:=o (gS k) (gS ks) (L (sG ..) (L (sG ..) (L z rfl))) (.gD (O js)) (.it (.zip js t)) (.gD (O js)) (.it (.zip js t));have i:=z▸F;obtain Q:t=O (σ++gS k):=by rw[v,e2,e2,sG,sG,z]
    refine .cons (fC:=(σ++gS k)++ [.gD (O js),.it (.zip js t)]) ⟨.it (.zip js t),?_,rfl⟩ (Y (x P) (aM (λ t=>B (B (D.aD p.1),t)) ?_)) f.1 f.2 (Uu g u i Q) (I R u i Q)
    ·rw[v];exact vh
    ·rw[<-eb,Q,CB]
theorem Uv:∀{ds:H D}{l:H (H D)},IW ds=B l->∃ks,bQ yu ks l/\O ks=O ds/\∀σ:aE,HV (ds.map V.d) σ=B (.ok (km (O σ) (O ks)),σ++gS ks)
 |[],_,e=>ax (ak e) ⟨[],.nil,rfl,λ σ=>aM _ (ea σ).symm⟩|d::ds,l,e=>b3 e λ xs h e=>gE e λ g j e=>by refine Uo h λ k K y=>(gF (Uv j) λ ks i I M=>⟨k::ks,ax e (.cons K i),aM _ I,λ σ=>Y (aT (y σ)) (Y (aT (M _)) ?_)⟩);simp only[e2,eb];rfl
theorem ai7(h:(aL n 2|| (aL n 3||Nat.beq n 4))=S){GG:Prop}(k:∀m,n=m+1->aZ (m+1) 1000=S->GG):GG:=by
 rcases n with _|_|_|_|_|n
 ·exact bw h
 ·exact bw h
 ·exact k 1 rfl rfl
 ·exact k 2 rfl rfl
 ·exact k 3 rfl rfl
 ·exact bw h
theorem ai8(e:yp ds=B xs)(g:bY σ):∃a W,o9 (ds.map V.d) σ=B (.ok a,W)/\vg S σ (g8 a W) xs:=by
 unfold yp at e;cases h:aL _ 2|| (aL _ 3||Nat.beq _ 4)with
 |false=>rw[h]at e;exact nn e|true=>
 rw[h]at e;refine b3 e λ l X j=>(gF (Uv X) λ ks i I K=>ai7 h λ m n N=>(bh _ ((σ++gS ks)++ [.gD _,.it (.zip _ _)]) ⟨?_,_,_,Y (AK vh) rfl,Uu g i rfl rfl,L (eb ..) wi,bA qH qH,ai6 g (L List.length_range' (L (I ..) (L n (L N rfl)))) 1000 j i rfl rfl⟩));unfold o9;exact L (gh ..) (L (h ..) (Y (aT (K σ)) (aM (λ t=>B _) (eb ..))))
theorem ai9(e:Ue ds=B xs)(g:bY σ):∃a W,xZ (ds.map V.d) σ=B (.ok a,W)/\vg S σ (g8 a W) xs:=by
 refine j4 e λ a E e=>HW e λ y o e=>?_;subst E o
 ·refine(bh _ (σ++ [.it _,.it (.enu _ 0)]) ⟨?_,_,_,Y (AK vh) rfl,Ur g 0,wi,qH,ak e▸Us g y 0 rfl (hO _)⟩)
  show B _=_;exact L (eb ..) rfl
theorem Uw(e:(n3 s pr).lookup n=B d):s.names.lookup n=B .free/\pr.lookup n=B d:=
 have q:=Pa e
 ⟨(λ h=>by
    unfold Uc at h;rw[mN]at h;revert h;rcases s.names.lookup n with _|k
    ·exact bw
    ·cases k<;>first|exact bw|exact λ u=>rfl) q.1,q.2⟩theorem dt.free(h:dt pr ρ):dt (n3 s pr) (uD s ρ):=by intro n d e;obtain q:=Uw e;exact Y (GS (p:=λ m=>s.names.lookup m==B tC) n ρ) (L q.1 (h n d q.2))def Ux(s:bW)(pr:cz):Prop:=∀n d,pr.lookup n=B d->dU s n=aj
theorem Uy(h:dU s n=aj)(d:dU s m=S):(n==m)=false:=by cases q:n==m with|false=>rfl|true=>exact bw (Y h.symm (L (cI.mp q) d))theorem dt.keep(h:dt pr ρ)(l:Ux s pr)(k:∀n,dU s n=aj->ar.lookup n=ρ.lookup n):dt pr ar:=λ n d e=>Y (k n (l n d e)) (h n d e)
theorem IZ(N:∀pr ρ,dt pr ρ->∀e,fN (p pr e) (E ρ e))(h:dt pr ρ):∀(cs:H aJ)(b ok:aF),sA p pr b cs=B ok->∀σ,bY σ->xi E ρ b cs σ=B (.ok ok,σ)
 |[],S,ok,e,σ,_=>aM (λ b=>B ((.ok b:Res aF),σ)) (ak e)|[],aj,ok,e,σ,_=>aM (λ b=>B ((.ok b:Res aF),σ)) (ak e)|c::cs,S,ok,e,σ,R=>b3 e λ b W e=>Y (aT (N pr ρ h c b W σ R)) (IZ N h cs b ok e σ R)|_::cs,aj,ok,e,σ,R=>IZ N h cs aj ok e σ R
theorem ai_{iE:az->aJ->Ev V}(aja:∀pr ρ,dt pr ρ->∀e,cR (ajb pr e) (iE ρ e))(jr:∀pr ρ,dt pr ρ->∀e,fN (pt pr e) (h7 ρ e))(lo:Ux P pr):
  ∀(ds o:H D),hs P ajb pt E G pr ds=B o->∀(N:J)(i:aE)(j:J)(ρ:az)(acc:H D),lN (xb G.target) k i j ds->bY i->O i=aN->dt pr ρ->O acc+O ds<16777216->O ds<N->
   ∃ar fC,uy G.target (A1 P h7 G λ R=>(iE R E).bind λ v=>(oU aN v).bind λ u=>.ret R) j N ρ (i++ [.ae acc])=B (.ok ar,fC++ [.ae (acc++o)])/\fC.take k=i.take k/\O fC=aN
 :=by
  intro ds;induction ds with
  |nil=>
   intro o e N i j ρ acc dr g x s z Q;induction N with
   |zero=>exact aR Q (zr _)|succ N=>
   cases dr with
   |nil C T f=>refine(bh ρ _ ⟨Y (adI (IY C)) ?_,T,Y f x⟩);rw[<-ak e,ea]
  |cons d ds I=>
   intro o e N i j ρ acc dr g x s z Q;induction N with
   |zero=>exact aR Q (zr _)|succ N=>
   cases dr with
   | @cons _ _ _ W _ h0 C T f F d1=>
    refine av h0 λ m hm dw=>?_;have xc:lq G.target (i++ [.ae acc]) j=true:=by unfold lq;rw[iD hm];exact dw
    refine b3 e λ K f3 e=>b3 e λ ok M e=>(ai3 f3 s λ R mq s1=>?_);have s2:=s.keep lo λ n=>(λ e h=>O8 e (λ m p u dd q=>ax q (L gY (L (Uy h dd) rfl))) λ es c p ds u u M=>(show∀{es:H aJ}{as:H V}{ρ ar:az},bindNames P es as ρ=B ar->dU P n=aj->ar.lookup n=ρ.lookup n from by
      intro es;induction es with
      |nil=>exact λ e u=>uw e (λ u u q=>ax q rfl) λ u u u u u q=>nomatch q
      |cons t es I=>
       intro as ρ ar e h;refine uw e (λ q=>nomatch q) λ m p nG a as' q1 jc dd oz=>?_;obtain⟨rfl,rfl⟩:=kp q1;simp[I oz h,gY,Uy h dd]) M h) mq
    have g2:bY (W++ [.ae acc]):=F.push rfl rfl;obtain Uz:=IZ jr s1 G.ifs S ok M _ g2;have z:O acc+1+O ds<16777216:=L (zi ..) z;have Q:=Zq Q;induction ok with|false=>exact e4 (I o e N W j R acc d1 F (Y f x) s2 (gg (pF (hg _) _) z) Q) λ ar fC h1 eE dP=>((bh ar fC ⟨Y (Pc (IY C) xc) (Y (aT (af:=W++ [.ae acc]) ((Pd mq).trans (aT Uz))) h1),Y eE T,dP⟩))|true=>exact b3 e λ v iw e=>gE e λ w k9 eT=>(e4 (I w k9 N W j R _ d1 F (Y f x) s2 (L e2 z) Q) λ ar fC h1 eE dP=>ax eT (L (show acc++v::w=(acc++ [v])++w from Eu ..) (bh ar fC ⟨Y (Pc (IY C) xc) (Y (aT (af:=W++ [.ae _]) ((Pd mq).trans ((aT Uz).trans (Y (aT (aja K R s1 E v iw _ g2)) (ax (Y f x) (aT (Y (A0 h6 (dD (ik (gg (bA (hg _) (gK ..)) z)))) (aM (λ t=>B _) oT)))))))) h1),Y eE T,dP⟩)))
theorem UN(bg:aF)(v:∀pr ρ,dt pr ρ->∀e,cR (p pr e) (u ρ e))(q:∀pr ρ,dt pr ρ->∀e,fN (P pr e) (N ρ e)){first:Ev V}
  (k:dt pr ρ)(l:(g.is_async !=0)=aj)(C:nK sc0 s=S)(X:hY g.iter=S)(h:bY σ)
  (M:∃a W,first σ=B (.ok a,W)/\vg (xb g.target) σ (g8 a W) xs)(z:O xs<1000)
  (e:hs s p P E g (n3 s pr) xs=B o):jv bg 1000 sc0 s first u N E [g] ρ σ=match bg with
    |false=>B (.ok (.d (.ae o)),σ)|true=>B (.ok (.aH (O σ)),σ++ [.ae o]):=by
 obtain⟨a,W,F,j,i,m,t,G,Q,R⟩:=M;refine e4 (ai_ v q ((by
   intro n d e;unfold dU;exact L ((Uw e).1) rfl)) xs o e 1000 i j _ [] R t rfl k.free (by show 0+O xs<16777216;rw[hO];exact ZI z (by decide)) z) λ ar fC w T dP=>?_
 have cl:nH s 1000 u N E _ [g] j _ _=B _:=
  Y (eh (aM _ l)) w
 have f:(fC++ [cj.ae o]).take (O σ)=σ:=by rw[ao8 (L dP Q),T,G]
 apply Y (f▸(ad9 (L C (L X rfl)) F m cl (ax dP h6) (L f h.2.2)));induction bg<;>rfl
structure i4(P:hI)(c:Cfg):Prop where
 gl:c.gl=ee
 bg:c.bg=BZ
 loops:c.loops=S
 fuel:c.fuel=1000
 item:c.item=lE
 src:∀k nm,vd nm=B k->∃ty f,ee.lookup nm=B (.ty ty)/\c.ty ty=f/\match k with|0=>f=Ba|1=>f=o9|_=>f=xZ
 mO:∀nm f,P.mO.lookup nm=B f->∃pl,ee.lookup nm=B pl/\∀ds d,f ds=B d->∀σ,bY σ->∀ms,cE ms σ=B (.ok (ds.map V.d),σ)->uK c (.d pl) ms [] [] σ=B (.ok (.d d),σ)
 jy:∀nm g,P.jy.lookup nm=B g->(nm==ep "replace")=aj/\∀r ds d,g r ds=B d->∀σ,bY σ->∀ms,cE ms σ=B (.ok (ds.map V.d),σ)->qi c (.d r) nm ms [] [] σ=B (.ok (.d d),σ)def jA(p:U D×U aF)(o:Ev V×Ev aF):Prop:=cR p.1 o.1/\fN p.2 o.2
theorem kd:jA sD o:=⟨.none,.none⟩theorem mP(h:cR a m):jA (kP a) (hr m):=⟨h,h.bind λ d=>RR.of _⟩theorem I0(h:b=S->jA p o):jA (kQ b p) o:=match b,h with|true,h=>h rfl|false,_=>kd
theorem UO(h:jA p o):jA (kQ b p) (i2 b o):=match b with|true=>h|false=>kd
theorem ajc(h:jA p o):jA (kQ (b&&S) p) (i2 b o):=match b with|true=>h|false=>kd
theorem ajd(h:d=S->jA p o):jA (kQ (b&&d) p) (i2 b o):=match b,d,h with|true,S,h=>h rfl|true,aj,_=>kd|false,_,_=>kd
theorem aje:jA (kQ (b&&aj) p) o:=match b with|true=>kd|false=>kd
theorem I1(h:∀e,cR (f e) (g e)):∀o:U aJ,cR (Cv f o) (w2 (o.map g))
 |none=>.ret _|some e=>h e
theorem UP{m:H V->Ev V}(h:dc xs=S->m (xs.map V.d)=.ret (.d d)):cR (a8 (dc xs) (B d)) (m (xs.map V.d)):=λ c e σ u=>by obtain⟨W,j⟩:=dn e;rw[h W,<-ak j];rfl
theorem ajf{m M I d:Ev V}(h:cR a m)(q:cR b M)(A:cR c I)(x:cR e d):cR (a.bind λ a=>b.bind λ b=>c.bind λ c=>e.bind λ e=>jq a b c e) (m.bind λ a=>(M.bind λ b=>I.bind λ c=>d.bind λ e=>.ret (b,c,e)).bind λ p=>
 (Ev.read a).bind λ a=>(Ev.read p.1).bind λ b=>(Ev.read p.2.1).bind λ c=>(Ev.read p.2.2).bind λ e=>Ev.ofD (jq a b c e)):=by
 simp[Ev.assoc];exact h.bind λ a=>q.bind λ b=>A.bind λ c=>x.bind λ e=>cR.of _
theorem UQ(h:Cx s n=S):s.names.lookup n=B .globalImplicit:=by unfold Cx at h;rw[mN]at h;cases e:s.names.lookup n with|none=>rw[e]at h;exact bw h|some k=>rw[e]at h;induction k<;>first|rfl|exact bw h
theorem ajg(h:yr s e=B q){G:Prop}(k:∀nm p W,e=.Call (.Name nm p) q.2.2 [] W->q.2.1=.Name nm p->q.2.2.all fM=S->s.names.lookup nm=B .globalImplicit->vd nm=B q.1->G):G:=
 Ge (P:=λ o=>o=B q->G) (λ f args g W x h=>mu (P:=λ o=>o=B q->G) (λ nm p M h=>b3 h λ i n h=>bN h λ X h=>bN h λ j h=>by
  have X:=bo X;exact((ak h).symm▸k) nm p W (L x (L M (L (k4.mp X.2) rfl))) M X.1 (UQ j) n) nn h) nn h
theorem ajh(h:Ud ds=B xs)(R:bY σ):∃a W,Ba (ds.map V.d) σ=B (.ok a,W)/\vg b σ (g8 a W) xs:=by
 rcases ds with _|⟨x,ds⟩;case nil=>exact nn h
 case cons=>
 rcases x with _|_|a|_|_|_|_|_|_|_|⟨_,_⟩
 case int=>
  rcases ds with _|⟨y,ds⟩;case nil=>exact bN h λ d h=>(bh _ _ ⟨rfl,ax (ak h) (Up d R)⟩)
  case cons=>
  rcases y with _|_|b|_|⟨_,_⟩|_|_|_;case int=>induction ds with|nil=>exact bN h λ d h=>(bh _ _ ⟨rfl,ax (ak h) (Up d R)⟩)|cons=>exact nn h
  all_goals exact nn h
 all_goals exact nomatch ds<;>exact nn h
section
variable {P:hI}{c:Cfg}(K:i4 P c)
include K
theorem aji(n:s.names.lookup nm=B .globalImplicit)(I:∀e,cR (bJ P N s pr e).1 (ba c N s ρ e).1)(args:H aJ):
  cR ((bJ P N s pr (.Name nm W)).1.bind λ u=>(ie nm P.mO).bind λ g=>(kb (λ e=>(bJ P N s pr e).1) args).bind g) ((ba c N s ρ (.Name nm p)).1.bind λ pl=>uK c pl (args.map λ e=>(ba c N s ρ e).1) [] []):=
 λ d e σ R=>b3 e λ pl h e=>b3 e λ g j e=>b3 e λ ds v M=>by
  refine av (K.mO nm g (ax (mN nm P.mO) j)) λ F T k=>?_;obtain E:=match N,h with
   |0,h=>nn h
   |N+1,h=>by
    obtain h:(bif Ct nm then aa else match ie nm s.names with
     |some .local|some .cell|some .free=>ie nm pr|some .globalImplicit=>ie nm ee|_=>aa)=B pl:=h
    rw[mN,n]at h;refine dO (Ct nm) (λ i=>?_) λ i=>?_
    ·rw[i]at h;exact nn h
    ·
     rw[i]at h;obtain h:ie nm ee=B pl:=h;rw[mN,T]at h;exact(ak h).symm
  exact Y (aT (E▸I _ pl (by induction N<;>exact h) σ R)) (k ds d M σ R _ (ve I args ds v σ R))
theorem ajj(i:cR o m)(all:∀es:H aJ,RR (ZG V.d) (kb f es) (cE (es.map g))):
  jA (kQ b (kP ((ie nm P.jy).bind λ h=>o.bind λ d=>(kb f args).bind (h d)))) (i2 b (match uL nm args []with
    |some ab=>hr (m.bind (Hr ab.1 ab.2))|none=>hr (m.bind λ r=>qi c r nm (args.map g) [] []))):=match b with
 |false=>kd
 |true=>by
  cases p:ie nm P.jy with
  |none=>exact⟨.none,.none⟩
  |some h=>
   obtain⟨M,E⟩:=K.jy nm h (ax (mN nm P.jy) p);obtain n:uL nm args []=none:=by unfold uL;exact L M rfl
   exact L n (mP (i.bind λ r d e σ R=>b3 e λ ds v I=>E r ds d I σ R _ (all args ds v σ R)))
theorem ajk(dd:dt pr ρ)(I:∀e,cR (bJ P (M+1) r pr e).1 (ba c (M+1) r ρ e).1)(A:∀e,cR (bJ P M r pr e).1 (ba c M r ρ e).1)(R:bY σ)
  (h:(match yr r it with
       |some q=>(bJ P M r pr q.2.1).1.bind λ u=>(kb (λ e=>(bJ P M r pr e).1) q.2.2).bind (yq q.1 t)|none=>(bJ P (M+1) r pr it).1.bind lM)=B xs):∃a W,(ba c (M+1) r ρ it).1 σ=B (.ok a,W)/\vg (xb t) σ (g8 a W) xs:=by
 refine eD (yr r it) (λ E=>?_) λ q E=>?_
 ·
  have h:=E▸h;exact b3 h λ v w N=>(bh _ σ ⟨I _ v w σ R,Uo N λ u s h=>
    (bh _ _ ⟨h σ,R.push rfl ((yt s.1.plain).1.2 _),wi,qH,Um R s.1⟩)⟩)
 ·
  rw[E]at h;refine b3 h λ pl w h=>b3 h λ ds C g=>ajg E λ nm p F q1 l m o Q=>(e4 (K.src _ _ Q) λ ty f t1 h8 T=>?_);obtain n:(ba c M r ρ (.Name nm p)).1 σ=B _:=by
   induction M with
   |zero=>rw[l]at w;exact nn w
   |succ M=>
    refine((L K.gl ?_):p6 c.gl r ρ nm σ=_);unfold p6;obtain⟨nS,pa⟩:=(show(nm==ep "__debug__")=aj/\(nm==ep "__classdict__")=aj from by
      unfold vd qF at Q;rw[ph,ph,ph]at Q;refine dO (nm==ep "range") (λ X=>?_) λ X=>?_
      ·rw[cI.mp X];exact⟨rfl,rfl⟩
      ·
       refine dO (nm==ep "zip") (λ j=>?_) λ j=>?_
       ·rw[cI.mp j];exact⟨rfl,rfl⟩
       ·
        refine dO (nm==ep "enumerate") (λ w=>?_) λ w=>?_
        ·rw[cI.mp w];exact⟨rfl,rfl⟩
        ·
         rw[X,j,w]at Q;exact nn Q)
    simp[nS,pa,o];exact L t1 rfl
  obtain first:(ba c (M+1) r ρ it).1 σ=f _ σ:=by rw[q1];show(i2 _ (hr _)).1 σ=_;exact L m (Y (aT n) (Y (aT (ve A q.2.2 ds C σ R)) (L h8 rfl)))
  exact first.symm▸match q.1,g,T with|0,g,T=>T▸ajh g R|1,g,T=>T▸bN g λ b g=>L b (ai8 g R)|k+2,g,T=>L T (bN g λ b g=>L b (ai9 g R))
theorem ajl(b:dt pr ρ)(I:∀e,cR (bJ P (M+1) s pr e).1 (ba c (M+1) s ρ e).1)(j:∀e,cR (bJ P M s pr e).1 (ba c M s ρ e).1)
  (i:∀(s:bW)(pr:cz)(ρ:az),dt pr ρ->∀e,jA (bJ P (M+1) s pr e) (ba c (M+1) s ρ e))(G:(g.is_async !=0)=aj)(k:nK s C=S)(v:hY g.iter=S):
  cR ((match yr s g.iter with
         |some q=>(bJ P M s pr q.2.1).1.bind λ u=>(kb (λ e=>(bJ P M s pr e).1) q.2.2).bind (yq q.1 g.target)|none=>(bJ P (M+1) s pr g.iter).1.bind lM).bind λ xs=>bR (bE (O xs) 1000) ((hs C (λ pr e=>(bJ P (M+1) C pr e).1) (λ pr e=>(bJ P (M+1) C pr e).2) E g (n3 C pr) xs).map D.ae)) (jv aj 1000 s C (ba c (M+1) s ρ g.iter).1 (λ ρ e=>(ba c (M+1) C ρ e).1) (λ ρ e=>(ba c (M+1) C ρ e).2) E [g] ρ):=by
 exact λ d e σ R=>b3 e λ xs W e=>bN e λ z e=>gE e λ o l m=>m▸
  (UN aj (λ pr ρ h e=>(i C pr ρ h e).1) (λ pr ρ h e=>(i C pr ρ h e).2) b G k v R (ajk K b I j R W) (cg.mp z) l)
theorem jB:∀(N:J)(q:bW)(pr:cz)(ρ:az),dt pr ρ->∀e,jA (bJ P N q pr e) (ba c N q ρ e):=by
 intro N;induction N using aoa with
 |ind N uM=>
 cases N with
 |zero=>exact λ u u u u u=>kd|succ N=>
 intro q pr ρ g e;show jA _ (Hp c (ba c N) q ρ e);obtain m:=uM N (ko N);have I:=λ e=>(m q pr ρ g e).1;have R:=λ e=>(m q pr ρ g e).2;have all:=ve I;cases e with
 |Constant k _ _=>exact mP (match k with
   |.none|.bool _|.int _|.float _|.str _=>.ret _|.bytes _|.ellipsis|.complex _ _=>.none)
 |Name nm p=>exact mP (L K.gl ((by
   delta Ua Ct qF;rw[ph,ph];unfold p6;cases X:nm==ep "__debug__" with
   |true=>exact cR.none
   |false=>
    cases n:nm==ep "__classdict__" with
    |true=>exact cR.none
    |false=>
     rw[mN,mN,mN];obtain F:∀d,pr.lookup nm=B d->∀σ:aE,Ev.of (ρ.lookup nm) σ=B _:=λ d e σ=>L (g nm d e) rfl;induction q.names.lookup nm with
     |none=>exact cR.none
     |some k=>
      induction k<;>first|exact cR.none|exact λ d e σ u=>F d e σ|skip
      intro d e σ u;obtain e:ee.lookup nm=B d:=e;exact L e rfl)))
 |BinOp l j r p=>exact mP ((I l).bind λ x=>(I r).bind λ y=>L (Md j x y) (cR.of _))
 |UnaryOp j a p=>exact match j with
  |.Not=>⟨Uh (I a),(R a).map λ u=>rfl⟩|.Invert|.UAdd|.USub=>mP (Uh (I a))
 |BoolOp j es p=>exact⟨aiY (ys I es),aiZ (ys R es)⟩
 |Compare l i es p=>exact UO ⟨(I l).bindMap λ a=>((show∀{os:H _}{E:H _} a,bQ cR os E->RR _ (yo a i os) (AB (.d a) i E)from by
   induction i with
   |nil=>exact λ _ _=>.none
   |cons j i m=>
    intro os E a h;rcases h with _|⟨h,g⟩
    ·induction i<;>exact .none
    rcases g with _|⟨n,g⟩
    ·rcases i with _|⟨o,i⟩
     ·exact h.bind λ b=>.cD (.cD (ax (z2 j a b) (RR.Ug _)))
     ·exact .none
    ·rcases i with _|⟨o,i⟩
     ·exact .none
     ·refine Ui h λ b c=>?_
      rcases c with _|_
      ·exact .ret _
      ·exact m b (.cons n g)) a (ys I es)).ai0,(I l).bind λ a=>(show∀{os:H _}{E:H _} a,bQ cR os E->fN (yo a i os) (wW (.d a) i E)from by
        induction i with
        |nil=>exact λ u u=>.none
        |cons j i m=>
         intro os E a h;cases h with
         |nil=>induction i<;>exact .none|cons h g=>
         cases g with
         |nil=>induction i with
          |nil=>exact h.bind λ b=>.cD (.cD (ax (z2 j a b) (RR.Ug _)))|cons=>exact .none
         |cons n g=>induction i with
          |nil=>exact .none|cons=>exact Ui h λ b u=>.if (λ u=>m b (.cons n g)) λ u=>.ret _) a (ys I es)⟩
 |IfExp t a b p=>exact⟨(R t).bind λ u=>.if (λ u=>I a) λ u=>I b,(R t).bind λ u=>.if (λ u=>R a) λ u=>R b⟩
 |Tuple es _ _=>exact UO (mP (RR.bind (all es) λ xs=>UP (λ h=>by
   unfold AG;rw[Cy];dsimp only;rw[h])))
 |List es p=>exact ajd λ h=>mP (K.bg▸ma h▸RR.bind (all es) λ xs=>UP (λ h=>by
   dsimp only[AF];rw[Cy];dsimp only;rw[h]))
 |Subscript v s p=>exact acZ (λ lo dk st=>mP (ajf (I v) (I1 I lo) (I1 I dk) (I1 I st))) (mP ((I v).bind λ a=>(I s).bind λ b=>L K.item (cR.of _)))
 |ListComp elt G Hv p=>
  cases G with
  |nil=>exact kd|cons ql o8=>
  induction o8 with
  |cons=>exact kd|nil=>
  obtain ev:Hp c (ba c N) q ρ (.ListComp elt [ql] Hv p)=i2 c.loops _:=rfl;simp[ev,K.loops,K.bg,K.fuel];induction N with
  |zero=>exact I0 λ u=>kd|succ M=>
  refine I0 λ ju=>?_;obtain X:=bo ju;obtain n:=bo X.2;obtain cZ:=bo n.2;exact L (ma cZ.2) (mP (ajl K g I (λ e=>(uM M (kn (ko M)) q pr ρ g e).1) m (ma X.1) n.1 cZ.1))
 |Call f args qh pos=>
  induction qh with
  |cons=>exact aje|nil=>
  exact ajc (acX (λ nm p e=>L e (I0 λ ju=>mP (aji K (UQ ju) I args))) (acY (λ o nm apos e=>by subst e;exact ajj K (I o) all) kd))
 |_=>exact kd
end
def MP(g:bX)(fd:Ep)(st:bx):Kind->Prop
 |.plain _=>∀(s:aU),g.K.StaysIn s.heap->∀vs:H aq,O vs=O (eU st)->zH s fd ⟨vs,[]⟩ ((eU st).zip vs)
 |.opt _=>(∀(s:aU),g.K.StaysIn s.heap->∀vs:H aq,O vs=O (eU st)->zH s fd ⟨vs,[]⟩ ((eU st).zip vs))/\
   ∀(s:aU),g.K.StaysIn s.heap->∀vs:H aq,O vs+1=O (eU st)->zH s fd ⟨vs,[]⟩ ((eU st).zip (vs++ [.none]))
 |.kw=>∀(vs:H aq)(k:H (ai×aq)),O vs=O (eU st)->k.map (·.1)=tU st->rh fd ⟨vs,k⟩=pure ((eU st).zip vs++k)
structure eB(g:bX)(a:ao)(k:Kind)(st:bx):Prop where
 ex:∃fd,lz g a fd (bP st)/\fd.scope=bz st/\MP g fd st k
 free:Fc (bz st)=S
 ahf:(eU st++tU st).all (dU (bz st))=S
theorem B4{n:H ai}(h:n.all (dU s)=S)(as:H V):((n.zip as).all λ p=>dU s p.1)=true:=by rw[b9]at h ⊢;exact λ p u=>h p.1 (List.of_mem_zip u).1
theorem mL{st:bx}(F:eB g a k st)(Bq:Base g)
  (f:∀ρ M e W,dq g M (bz st) e n W->c9 g M W e ρ (fG (bP st) e) (m ρ)):cK g a (n+1) (lF k st m):=by
 refine gF F.ex λ fd N G r=>?_;obtain i:=F.free;obtain A:=F.ahf;rw[zJ,jK]at A;obtain⟨E,X⟩:=A;rw[<-G]at i E X f;refine⟨av N.there λ o a b=>(bh o fd ⟨a,b⟩),λ x ok vs as K ks=>?_⟩;have go:∀bg l bs,(bs.all λ p=>dU fd.scope p.1)=S->
   (∀α σ s,aG g x α σ s.heap->bU (x.P++α) α s.heap vs as/\c1 (x.P++α) α s.heap K ks->zH s fd ⟨vs,K⟩ l/\c1 (x.P++α) α s.heap l bs)->
   ag g x (λ α h=>bU (x.P++α) α h vs as/\c1 (x.P++α) α h K ks) (dA x) (K5 (.ref a) vs K) (ia bg (m bs.reverse)):=by
  refine λ bg l bs R w=>Bl bg N Bq ok (λ α σ s I p=>⟨(w α σ s I p).1,(w α σ s I p).2,Hm (Hn i)⟩) R λ M e W u u u u c=>?_;rw[ea];exact f _ M e W c
 have plain:∀bg,(∀s,g.K.StaysIn s.heap->∀vs:H aq,O vs=O (eU st)->zH s fd ⟨vs,[]⟩ ((eU st).zip vs))->
   ag g x (λ α h=>bU (x.P++α) α h vs as/\c1 (x.P++α) α h K ks) (dA x) (K5 (.ref a) vs K) (nN bg (eU st) m as ks):=by
  intro bg r;unfold nN;cases ks with
  |cons=>exact .au
  |nil=>
   cases z:O as==O _ with
   |false=>exact .au
   |true=>
    intro α σ s j af I t p;obtain v:K=[]:=by obtain⟨_,q⟩:=p;cases q;rfl
    obtain P:O vs=O (eU st):=by rw[p.1.length];simpa using z
    exact go bg _ _ (B4 E as) (λ α σ s I p=>L v ⟨r s I.base vs P,p.1.zip⟩) α σ s j af I t p
 cases k with
 |plain bg=>exact plain bg r
 |opt bg=>
  show ag g x _ _ _ (match aL _ _ with
   |true=>nN bg _ m _ ks|false=>nN bg _ m as ks)
  cases z:aL _ _ with
  |false=>exact plain bg r.1
  |true=>
   have z:=dE z;dsimp only[nN];cases ks with
   |cons=>exact .au
   |nil=>
    refine L (show(O _==O _)=S by simp[z]) ?_;intro α σ s j af I t p;have v:K=[]:=by obtain⟨_,q⟩:=p;cases q;rfl
    obtain P:=p.1.length.symm▸z;exact go bg _ _ (B4 E _) (λ α σ s I p=>L v ⟨r.2 s I.base vs P,(p.1.append (.cons (show a9 _ _ _ .none (.d .none)from aV.none) .nil)).zip⟩) α σ s j af I t p
 |kw=>
  show ag g x _ _ _ (match _==O _&&ks.map _==tU st with
   |true=>ia .plain _|false=>.au)
  cases z:O as==O _&&ks.map _==tU st with
  |false=>exact .au
  |true=>
   obtain⟨C,Q⟩:=bF.mp z;have C:=by simpa using C
   have Q:=by simpa using Q
   intro α σ s j af I t p;have P:=p.1.length.symm▸C;have T:=p.2.keys.symm▸Q;refine go .plain _ _ ?_ (λ α σ s I p=>⟨.of_eq (r vs K P T),p.1.zip.append p.2⟩) α σ s j af I t p;rw[zJ,jK];refine⟨B4 E as,?_⟩;rw[b9]at X ⊢;exact λ p hp=>X p.1 (ax Q (iP.mpr ⟨p,hp,rfl⟩))
structure B5(T:b1)(nm:ai)(id:b1):Prop where
 c2:PlainAttrs T
 slot:Slot T nm id
 ty:typeOf (.builtin id)=pure (.type "method_descriptor")
theorem nk{A Bq:Type}[BEq A][LawfulBEq A]{k:A}{b:Bq} :∀{l:H (A×Bq)},l.lookup k=B b->(k,b)∈l
 |[],e=>nn e
 |(m,c)::l,e=>by
  dsimp only[gY]at e;refine dO (k==m) (λ h=>?_) λ h=>?_
  ·
   rw[h]at e;rw[cI.mp h,ak e];exact cV
  ·
   rw[h]at e;exact c7 _ (nk e)
theorem Sx:∀p∈Sm,B5 p.1 p.2.1 p.2.2:=
 AllP.mem (.cons ⟨Ew,F.slot_str_join,F.type_str_join⟩ (.cons ⟨Ew,F.slot_str_lower,F.type_str_lower⟩ (.cons ⟨Ew,F.slot_str_upper,F.type_str_upper⟩
  (.cons ⟨Ew,F.slot_str_index,F.type_str_index⟩ (.cons ⟨Ew,aoP,F.type_str_format_m⟩ (.cons ⟨Zx,F.slot_list_append,F.type_list_append⟩ (.cons ⟨Zx,aoD,F.type_list_reverse⟩
  (.cons ⟨Zx,aoQ,F.type_list_index⟩ (.cons ⟨F.plainAttrs_tuple,F.slot_tuple_index,F.type_tuple_index⟩ (.cons ⟨F.plainAttrs_int,F.slot_int_bit_length,F.type_int_bit_length⟩ (.cons ⟨⟨⟨"object.__getattribute__",by rw[k3];lk,by decide+kernel⟩,by rw[k3];lk⟩,Sf,rfl⟩
  (.cons ⟨F.plainAttrs_dict,Zr,F.type_dict_get⟩ .nil))))))))))))theorem ahi{id:b1}(e:Sn T nm=B id):B5 T nm id:=by refine av (hR.mp e) λ p h w=>ax w ?_;obtain j:=List.find?_some h;obtain⟨a,b⟩:=bF.mp j;simp[<-(by simpa using a),<-(by simpa using b)];exact Sx p (List.mem_of_find?_eq_some h)
structure gp(g:bX):Prop where
 base:Base g
 gl:hh g ee
 cls:∃N jx,oC g gZ N jx/\(∀nm f,rB.lookup nm=B f->ix g jx nm f)/\ix g jx "__init__" tP/\ix g jx "__setitem__" l8/\ix g jx "__delitem__" ni
 pW:tQ g tR pW
 l9:tQ g tS l9
 tab:Fb g nj
 fns:∀a k st,wD.lookup a=B (k,st)->eB g a k st
 hand:∀a c n,Su a=B c->12<=n->cK g a (n+1) c
theorem Sy(G:gp g):∀a p,mH a=B p->∃code body,x8 code body p/\tQ g a code:=by
 intro a p e;unfold mH at e;refine dO (a==tR) (λ h=>?_) λ h=>?_
 ·
  rw[h]at e;refine ax (ak e) ?_;exact(bh _ _ ⟨⟨λ c s=>(bf (Sa c s)).1▸Sb c s,λ c s=>(bf (Sa c s)).2▸Sb c s,rfl,rfl,rfl,rfl,rfl,rfl,by decide⟩,L (cI.mp h) G.pW⟩)
 ·
  rw[h]at e;refine dO (a==tS) (λ j=>?_) λ j=>?_
  ·
   rw[j]at e;exact ax (ak e) (bh _ _ ⟨⟨λ c s=>(bf (Sd c s)).1▸Se 5 c s (by decide),λ c s=>(bf (Sd c s)).2▸Se 17 c s (by decide),rfl,rfl,rfl,rfl,rfl,rfl,by decide⟩,L (cI.mp j) G.l9⟩)
  ·rw[j]at e;exact nn e
theorem ahj(G:gp g){s:aU}(I:aG g x α σ s.heap)(r:a9 (x.P++α) α s.heap v a)(e:uY σ a=B T):s.TypeIs v T/\∀b,v=.ref b->∃o,s.heap.get? b=B o/\o.dict=none:=by
 have A:∀{b:ao}{o:fe}{T:b1},s.heap.get? b=B o->o.cls=.type T->o.dict=aa->s.TypeIs (.ref b) T/\∀c,hP b=.ref c->∃o,s.heap.get? c=B o/\o.dict=none:=
  λ W j w=>⟨⟨_,W,j⟩,λ c e=>by injection e with e;subst e;exact⟨_,W,w⟩⟩
 induction a with
 |aH i=>
  refine av r λ l n N=>L N (av (I.bM.get n) λ m q X=>?_);unfold uY at e;dsimp only at e;rw[q]at e;induction m with
  |ae xs=>injection e with e;subst e;exact av X λ u C u=>(a7 C λ u h=>A h rfl rfl)
  |fY es=>injection e with e;subst e;exact oL X λ u u u h u=>A h rfl rfl
  |_=>exact nn e
 |d d=>
  rcases d with _|_|z|_|z|_|_|o|z|z|⟨_,_⟩;case str=>obtain rfl:=ak e;obtain⟨_,rfl⟩:=r.inv;exact⟨Lg _ _ _,λ u e=>by cases e⟩
  case int=>obtain rfl:=ak e;obtain⟨_,rfl⟩:=r.inv;exact⟨typeIs_int _ _ _,λ u e=>by cases e⟩
  case ae=>refine ax (ak e) ?_;refine eg r.inv λ u u y u E u=>?_;subst y;exact a7 E λ u h=>A h rfl rfl
  case aD=>refine ax (ak e) ?_;refine eg r.inv λ u u P u M u=>?_;subst P;exact a7 M λ u h=>A h rfl rfl
  case obj=>
   refine cq r.inv λ xC _=>L xC ?_;unfold uY at e;dsimp only at e;refine rY (mH o) (λ p W=>?_) λ W=>?_
   ·
    rw[W]at e;exact ax (ak e) (eM (Sy G o p W) λ u u u R=>(hx R.ex λ k k k k K=>eg K λ k k W j w k=>A (I.base _ _ W) j w))
   ·
    rw[W]at e;refine eD (nj o) (λ j=>?_) λ V j=>?_
    ·rw[j]at e;exact nn e
    ·
     rw[j]at e;refine ax (ak e) ?_;obtain⟨_,f,t,_⟩:=G.tab o V j;exact t8 t λ Bm u u w Q u=>(ff Q λ D F u=>A (I.base _ _ w) D F)
  all_goals exact nn e
theorem Sz(G:gp g)(I:aG g x α σ s.heap)(R:a9 (x.P++α) α s.heap v r)(e:uZ σ r nm=B t):
  ∀p (Q:aq×H aq->aU->Prop) E,Q (t.val,[v]) s->aO (a5 g.prog g.w) x.A (Lu v nm p) Q E s:=by
 unfold uZ at e;refine rY (uY σ r) (λ T h=>?_) λ h=>?_
 ·
  rw[h]at e;obtain⟨id,W,rfl⟩:=hR.mp e;obtain M:=ahi W;exact cq (ahj G I R h) λ k b=>λ p Q E=>getMethod_builtin k M.c2 M.slot M.ty b
 ·
  rw[h]at e;cases z:sj gZ σ r nm with
  |false=>rw[z]at e;exact nn e
  |true=>
   refine av (hR.mp (z▸e)) λ f W w=>?_;subst w;exact e4 G.cls λ N D K M u=>(λ p Q E=>(λ K M I r e c=>by
     refine BU I.bM e r λ l m a j d=>?_;subst a;exact si (K.cls.keeps I.base) λ n q bs P sub C F lA fs gC kH qa V=>(av M.fn λ o i A=>a7 M.obj λ y X=>method_ofFk V (K.cls.keeps I.base).ns K.ga K.gt M.Ib (I.base _ _ i) A X j d c)) K (M _ _ W) I R z)theorem yc(r:c0 P X α h (a::as) (m::ms)):d2 P X α h a m/\c0 P X α h as ms:=by cases r with|cons r q=>exact⟨r,q⟩
theorem Sv{l:H ao}(h:O l=2):∃p q,l=[p,q]:=by
 rcases l with _|⟨p,_|⟨q,_|⟨r,t⟩⟩⟩
 ·cases h
 ·cases h
 ·exact(bh p q rfl)
 ·cases h
theorem Sw(h:u3 σ=S):σ=bK:=by
 rcases σ with _|⟨a,_|⟨b,_|_⟩⟩
 ·exact bw h
 ·exact bw h
 ·have h:=bo (bo h).2
  rw[ak (B1 h.1),ak (B1 h.2)];rfl
 ·exact bw h
theorem ahg{as:H V}(r:bU X α h vs as)(l:as.all fB=S)(k:∀b o,h.get? b=B o->b∉X->b∉Yq):bU Yq aA h vs as:=by induction r with|nil=>exact .nil| @cons v vs a as r E I=>obtain l:=bo l;refine .cons ?_ (I l.2);induction a with|d d=>exact aV.mono r λ b o e n=>⟨e,k b o e n⟩|aH i=>exact bw l.1
theorem yd{A p P e:H ao} :b∈(A++(p++P))++e ↔ b∈(A++P)++(e++p):=by by_cases W:b∈A<;>by_cases j:b∈p<;>by_cases h:b∈P<;>by_cases I:b∈e<;>simp[h,I]
theorem aG.live(I:aG g x (p++r) (bK++j) h)(z:O p=2)(n:j.all nY=S):∀b∈r,∃o,h.get? b=B o:=by
 intro b s;obtain⟨i,t,e⟩:=List.getElem_of_mem s;obtain E:(p++r)[2+i]?=B b:=by simp[pN _,z,Zw,tE t,e]
 refine av (I.bM.get E) λ m K M=>?_;have f:j[i]?=B m:=by rw[<-((pN (by show 2<=2+i;exact gK ..)).symm.trans K)];congr 1;exact Nat.eq_sub_of_add_eq' rfl
 refine M.there λ q=>?_;subst q;have:=b9.mp n _ (eK f);exact bw this
theorem aG.inner(I:aG g x (s++t) (bK++i) h)(z:O s=2)(Q:i.all nY=S):aG g {x with P:=t++x.P} s bK h:=by
 have N:=rl.mp I.dv;obtain F:=I.bM;refine⟨I.base,I.big,λ b r=>?_,λ b r=>?_,N.1,λ b r q=>?_,?_,I.fr,I.old⟩
 ·rcases r with r|r
  ·rcases bB.mp r with r|r
   ·exact I.b2 b (.inr (aW _ r))
   ·exact I.b2 b (.inl r)
  ·exact I.b2 b (.inr (bL _ r))
 ·rcases bB.mp r with r|r
  ·exact(I.live z Q) b r
  ·exact I.alive b r
 ·rcases bB.mp q with q|q
  ·exact N.2.2 b r b q rfl
  ·exact I.c8 b (bL _ r) q
 ·refine f5 (Sv z) λ p q w=>?_
  subst w
  ·obtain⟨R,F⟩:=yc F
   obtain T:=(yc F).1;obtain k:∀b o,h.get? b=B o->b∉x.P++([p,q]++t)->h.get? b=B o/\b∉(t++x.P)++ [p,q]:=by exact λ b o e n=>⟨e,λ W=>n ((yd (A:=[])).mp W)⟩
   exact .cons ⟨R.1,R.2.mono rfl k⟩ (.cons ⟨T.1,T.2.mono rfl k⟩ .nil)
theorem c0.ahh:∀{p:H ao}{s:aE},O p=O s->c0 P X α h (p++q) (s++τ)->c0 P X α h q τ:=by
 intro p;induction p with
 |nil=>intro s e r;induction s with
  |nil=>exact r|cons=>cases e
 |cons a p I=>intro s e r;induction s with
  |nil=>cases e
  |cons m s=>exact I (zp e) (yc r).2
theorem aG.outer(I:aG g x (s++t) (bK++τ) h)(z:O s=2)(C:cb x.F x.P)(u:cb x.W x.P)(st:a_ x.F x.W s h s h')(y:∀b∈Sq,h.objs.size<=b)
  (l:∀b∈t,∃o,h.get? b=B o)(j:aG g (Internal.fJ {x with P:=t++x.P} Sq) s bK h'):aG g (Internal.fJ x Sq) (s++t) (bK++τ) h':=by
 have a:∀b o,h.get? b=B o->b∉s->(b∈t\/b∉x.P)->h'.get? b=B o:=by intro b o e n q;have N:=q.elim (λ q=>I.c8 b (aW _ q)) id;exact st.same b o e (λ f=>N (C b f)) (λ f=>N (u b f)) n
 refine⟨j.base,j.big,λ b r=>?_,λ b r=>?_,I.dv,λ b r q=>?_,?_,j.fr,j.old⟩
 ·apply j.b2 b
  rcases r with r|r
  ·rcases bB.mp r with r|r
   ·exact .inl (bL _ r)
   ·exact .inl (aW _ (aW _ r))
  ·rcases bB.mp r with r|r
   ·exact .inr r
   ·exact .inl (aW _ (bL _ r))
 ·apply j.alive b
  rcases bB.mp r with r|r
  ·exact bL _ r
  ·exact aW _ (aW _ r)
 ·rcases bB.mp r with r|r
  ·rcases bB.mp q with q|q
   ·exact j.c8 b r (bL _ q)
   ·exact j.c8 b r (aW _ (aW _ q))
  ·rcases bB.mp q with q|q
   ·exact aR ((λ b r=>I.nz (aW _ (aW _ r))) b r) (er.mpr (y b q))
   ·exact I.c8 b (aW _ r) q
 ·obtain js:=j.bM
  obtain low:c0 g.w.params ((Sq++x.P)++(s++t)) _ h' t τ:=by
   refine(c0.ahh z I.bM).mono st.size (λ b r=>a7 (l b r) λ o e=>L e (a b o e (λ q=>(rl.mp I.dv).2.2 b q b r rfl) (.inl r))) (λ b o e n=>⟨a b o e (λ q=>n (aW _ (bL _ q))) (.inr λ q=>n (bL _ q)),λ q=>?_⟩) eV;rw[eb]at q;rcases bB.mp q with q|q
   ·exact aR (dI e) (er.mpr (y b q))
   ·exact n q
  refine f5 (Sv z) λ p q w=>?_;subst w
  ·obtain⟨R,js⟩:=yc js
   obtain T:=(yc js).1;obtain k:∀b o,h'.get? b=B o->b∉(Sq++(t++x.P))++ [p,q]->h'.get? b=B o/\b∉(Sq++x.P)++([p,q]++t):=λ b o e n=>⟨e,λ q=>n (yd.mpr q)⟩;exact .cons ⟨R.1,R.2.mono rfl k⟩ (.cons ⟨T.1,T.2.mono rfl k⟩ low)
theorem ye(K:cK g a n C):cK g a n (fk C):=by
 refine⟨K.there,λ x ok vs as k ks=>?_⟩;intro α σ s m af I M p e Q E N c;delta fk at e;revert e;refine wB (as.all fB&&(ks.isEmpty&&(u3 (σ.take 2)&&(σ.drop 2).all nY))) (λ h=>?_) λ h=>?_
 ·rw[h];exact λ e=>K.call x ok vs as k ks α σ s m af I M p e Q E N c
 rw[h];intro e;obtain⟨g1,h⟩:=bF.mp h;obtain⟨g2,h⟩:=bF.mp h;obtain⟨g3,G⟩:=bF.mp h;obtain lA:=k4.mp g2;subst lA;obtain⟨mv,rV⟩:=p;have fs:k=[]:=by cases rV;rfl
 subst fs;obtain V:σ=bK++σ.drop 2:=by simp[<-(Sw g3),ti]
 generalize σ.drop 2=τ at V G;subst V;obtain R:=(ti ..).symm;have z:O (α.take 2)=2:=by rw[Er,I.bM.length];rfl
 generalize α.take 2=h9 at R z;generalize α.drop 2=y at R;subst R;have l:=I.live z G;refine b3 e λ r nC e=>bN e λ h7 e=>?_;obtain⟨o,gO⟩:=r;have w:=Sw h7;subst w;have same:∀{aA:H ao}{h':aX},a_ x.F x.W h9 s.heap aA h'->O aA=2->aA=h9:=by intro aA h' st q;refine av st.ext λ β W u=>?_;subst W;rw[(D2.mp (by rw[e2]at q;lia):β=[]),ea]
 have up:∀{h':aX},a_ x.F x.W h9 s.heap h9 h'->a_ x.F x.W (h9++y) s.heap (h9++y) h':=λ st=>⟨st.size,⟨[],by simp,λ a q=>(nomatch q)⟩,λ b o e f w n=>st.same b o e f w λ q=>n (bL _ q),λ b o e w n=>st.slot b o e w λ q=>n (bL _ q)⟩;refine K.call {x with P:=y++x.P} (⟨λ b q=>aW _ (ok.cY b q),λ b q=>aW _ (ok.ew b q),ok.frames,ok.handled,ok.depth,ok.units,ok.nolimit⟩) vs as [] [] h9 bK s o bK (I.inner z G) M ⟨ahg mv g1 (λ b o u n q=>n ((yd (A:=[])).mp q)),.nil⟩ nC Q E (λ b r h' D aA X st eX T F=>?_) (λ i1 cl es h' D aA X st T mC=>?_)
 ·subst X
  cases(same st eX.bM.length);induction r with|aH i=>exact nn e|d d=>cases e;apply N b _ h' D _ rfl (up st) (aG.outer (Sq:=[]) I z ok.cY ok.ew st (λ b q=>(nomatch q)) l eX) T;have F:aV _ h' b d:=F;exact F.mono λ b o e n=>⟨e,λ q=>n ((yd (A:=[])).mpr q)⟩
 ·subst X
  cases e;obtain⟨Sq,t,us,lo,j,p4,oN,lh,rs,cH⟩:=mC;cases(same st j.bM.length);refine c i1 cl es h' D _ rfl (up st) T ⟨Sq,t,us,lo,(aG.outer I z ok.cY ok.ew st lo l j),p4,oN,λ b cv q=>lh b cv (aW _ q),rs.mono λ b o e n=>⟨e,λ q=>n (yd.mpr q)⟩,cH⟩theorem yf{id:b1}{F:b1->aq}(h:AllP (λ p=>eN g x (F p.1) p.2) l):eN g x (F id) (nX (l.lookup id)):=by intro vs as;cases e:l.lookup id with|none=>exact .au|some f=>exact h.mem _ (nk e) vs as
theorem ahk(h:x.A.units+200<rk):eN g x (.type "str") Il:=by
 intro vs as;intro α σ s o af I t p e;unfold Il at e;refine rY (e5 uH as σ) (λ r E=>?_) λ E=>?_
 ·rw[E]at e;exact(Bb λ u u u e u u u=>str_int e) vs as α σ s o af I t p (Y E e)
 ·rw[E]at e;exact Rh (by lia) vs as α σ s o af I t p e
def qx(g:bX)(n:J)(ct:ao->U bV):Prop:=∀a C,ct a=B C->xJ g a n C/\(a≠gZ->cK g a n C)
theorem nZ(G:gp g)(da:0<n)(h:qx g n ct):gP g (eG ct) n:=by
 refine lg G.cls λ N jx K M x9 uT ahl=>?_;refine⟨λ z=>da,G.gl,λ a C e=>(h a C e).1,λ id x ok=>have fq:=ok.handled da
   have mj:=ok.u
   yf (.cons PD (.cons PE (.cons ((Bb λ i t r e s Q E c=>by
     obtain e:=dn e;exact P.chr_of_int (by rw[aoR];lia) (c _ _ (ax (ak e.2) (.str _ _))))) (.cons aei (.cons ((Bb λ u u u e u u u c=>PyProof.Rows.call_abs_int λ u u=>c _ _ (ax (ak e) (.int _ _)))) (.cons (aek fq) (.cons (Ra fq (.inl rfl)) (.cons (Ra fq (.inr rfl))
    (.cons ((by
       intro vs as
       match as with
       |[]=>exact .au|[_]=>exact .au|_::_::_::_=>exact .au|[a,b]=>
       induction b with
       |aH=>exact .au|d bd=>
       rcases bd with _|_|_|_|_|t|_|_|_|_|⟨_,_⟩
       case ty=>
        refine r8 λ v u=>(ag.ghost (λ α h=>oX) λ d=>ag.toV ?_);cases e:HY d t with
        |none=>exact .au
        |some r=>
         refine ag.wp λ α σ s I T p Q E c=>L ((r7 p.1).inv) ?_;rcases d with _|b|_|b|_|_|_|_|_|_|⟨_,_⟩;case bool=>exact bN e λ h7 e=>L (cI.mp h7) (L p.2.bool (call_isinstance_yes rfl meta_bool rfl (c _ s.heap s.toks (λ w w e=>e) (bH _) (ak e▸.bool _))))
         case aS=>refine bN e λ h7 e=>L (cI.mp h7) (av p.2.aS λ w Ip w=>L Ip ?_);exact call_isinstance_yes rfl meta_float rfl (c _ s.heap s.toks (λ w w e=>e) (bH _) (ak e▸.bool _))
         all_goals exact nn e
       all_goals exact .au)) (.cons (oW (λ v d r e α σ s I T p Q E c=>by
         cases d with
         |none=>obtain rfl:=ak e;refine L p.inv ?_;exact P.repr_of_none (c _ s.heap _ (λ u u e=>e) (bH _) (.str _ _))
         |_=>exact nn e)) (.cons Rg (.cons (af_ ok.cY) (.cons (aga ok.cY) (.cons agc (.cons ((PC λ u u u e u u u c=>have e:=dn e;SCL.lower (b8 e.1) λ u=>c _ _ (ax (ak e.2) (.str _ _)))) (.cons ((PC λ u u u e u u u c=>have e:=dn e;SCL.upper (b8 e.1) λ u=>c _ _ (ax (ak e.2) (.str _ _)))) (.cons ((by
           refine HZ (λ a b=>rfl) (H0 rfl (λ w=>rfl) λ w w w w=>rfl) (λ v u Iq db=>?_);rcases Iq with _|_|_|_|z|_|_|_|_|_|⟨_,_⟩
           case str=>
            rcases db with _|_|_|_|y|_|_|_|_|_|⟨_,_⟩;case str=>apply ag.toV;cases e:BO z y with|none=>exact .au|some r=>refine ag.wp λ α σ s I T p Q E c=>?_;obtain⟨t,rfl⟩:=p.1.str;obtain⟨el,rfl⟩:=p.2.str;unfold BO at e;cases o5:Ld z y 0 z.length 1 with|nil=>rw[o5]at e;exact nn e|cons i rest=>rw[o5]at e;obtain rfl:=ak e;exact SC.index o5 (c _ s.heap _ (λ w w e=>e) (bH _) (.int _ _))
            all_goals exact .au
           all_goals exact .au)) (.cons (age G.base mj)
    (.cons ((by
       refine HZ (λ a b=>rfl) (H0 rfl (λ w=>rfl) λ w w w w=>rfl) (λ v u Iq db=>?_);rcases Iq with _|_|_|_|_|_|_|_|xs|_|⟨_,_⟩
       case ae=>
        dsimp only;cases i1:jZ g6 xs db with
        |none=>exact .au|some b=>
        induction b with
        |false=>exact .au|true=>
        cases xp:dc xs with
        |false=>exact .au|true=>
        cases e:(o_ db xs).map λ j=>D.int _ with
        |none=>exact .au
        |some r=>
         refine av (hR.mp e) λ j um ahm=>?_;refine ax ahm ?_;refine ag.wp λ α σ s I T p Q E c=>(e4 p.1.mm λ l ws ahn aho rs=>?_);refine L ahn ?_;obtain⟨R6,hC⟩:=aho;obtain⟨f,c5,cw,cZ,fw⟩:=Rk (A:=x.A.in1) (wV G.base.booked I.base) (un mj (by decide)) p.2.zero (rs.mono λ b o e w=>⟨e,dS⟩) i1 um;obtain fz:(j:ah)<2^63-1:=by have:=rs.length;have:=b8 xp;lia
         exact D7 aoQ ⟨_,hC,rfl⟩ PySem.F.entry_list_index (PySem.F.args_list_index_2 _ _) (list_indexAt l ws.toArray R6 aa #[] u f j _ fz (cZ) λ m hm hlt=>fw m _ hlt)
          ⟨hC,λ y x7=>c5 y (by simpa using x7),c _ s.heap _ (λ w w e=>e) (bH _) (.int _ _)⟩
       all_goals exact .au)) (.cons (agq G.base G.tab) (.cons ag6 (.cons (ag0 (Sy G)) .nil)))))))))))))))))))))),λ id x ok=>yf (.cons ((oW (λ v d r e α σ s I T p Q E c=>by
         have z:∀{i:ah},B _=B r->∀t T,Q (.int i t) {s with toks:=T} :=λ e w w=>c.plain _ _ (ax (ak e) (.int _ _));rcases d with _|b|i|u|_|_|_|_|_|_|⟨_,_⟩;case int=>obtain⟨t,rfl⟩:=p.int;exact PySem.call_int_int (z e _ _)
         case bool=>refine L p.bool ?_;exact PySem.call_int_bool (z e _ _)
         case aS=>refine av p.aS λ t Ip w=>?_;refine L Ip ?_;obtain e:(match y8 u with|.fin b_ m e=>B _|_=>aa)=B r:=e;cases hd:y8 u with|fin b_ m ex=>rw[hd]at e;exact PySem.call_int_float hd (z e _ _)|_=>rw[hd]at e;exact nn e
         all_goals exact nn e))) (.cons (ahk ok.u) (.cons (af3 (ok.handled da)) (.cons ((by
           intro vs as
           match as with
           |[]=>exact .au|[a]=>exact Hc λ v=>Hb (λ w w=>qe) λ b t ev=>L ev (PH λ s Q E c=>call_range_1 (c _ _ _ _ (ip (hg _))))|[a,b]=>exact r8 λ v u=>Hb (λ w w=>oX) λ a t f3=>Hb (λ w w=>r7) λ b el ho=>f3▸ho▸PH λ s Q E c=>call_range_2 (c _ _ _ _ (gK _ _))|_::_::_::_=>exact .au)) (.cons (aed) (.cons (af2) (.cons (af0 ok.cY ok.ew) (.cons (af7) .nil)))))))),λ x α σ s v r nm t ok I g9 e=>?_,
  λ x ok v a nm=>(by
    intro α σ s R af I T p e Q E c he;refine R1 e λ i j es i1 dk qc fz e=>b3 e λ Hu hk e=>nx e λ k ev e=>?_;obtain iE:=bf (ak e);subst i1 qc ev;refine av p λ a hy w44=>?_;refine L w44 ?_;refine lg (instFk_of I.bM dk fz hy) λ b m cv w V w jc=>?_;obtain⟨u,mj,ahp,hu',rfl⟩:=jc nT _ hk;refine si (K.cls.keeps I.base) λ nm q bs sn sub col x6 lA fs gC kH qa hF=>?_;exact load_attrFk hF (K.cls.keeps I.base).ns K.ga K.hd R2 V mj rfl (c _ _ s.heap _ α iE.1.symm (.refl ..) (ax iE.2 I) (ip T) ⟨ahp,hu',rfl⟩)),λ x ok v a u b X slice z=>Rw v a u b X slice,λ x ok v a u b w d=>?_,λ x ok v a w d kB=>agE ok.cY v a w d kB,
  λ x ok v a nm w d=>agy ok.cY K v a nm w d,λ x ok v a u b=>?_⟩
 ·obtain e:(match uZ σ r nm with
   |some (.fn f)=>match ct f with
    |some _=>B _|none=>aa
   |t=>t)=B t:=e
  refine eD (uZ σ r nm) (λ em=>?_) λ el em=>?_
  ·rw[em]at e;exact nn e
  ·
   rw[em]at e;induction el with
   |bi id=>refine ax (ak e) ?_;exact⟨λ a e=>(nomatch e),Sz G I g9 em⟩
   |fn f=>
    dsimp only at e;refine eD (ct f) (λ F=>?_) λ C F=>?_
    ·rw[F]at e;exact nn e
    ·rw[F]at e;refine ax (ak e) ?_;exact⟨λ a e=>by injection e with e;subst e;exact⟨_,F⟩,Sz G I g9 em⟩
 ·intro α σ s R af I T p e
  obtain e:(match sj gZ σ a "__setitem__" with
   |true=>match ct l8 with
    |some W=>uS gZ "__setitem__" W a [b,d] σ|none=>aa
   |false=>qv a b d σ:U _)=B _:=e
  refine wB (sj gZ σ a "__setitem__") (λ dk=>?_) λ dk=>?_
  ·
   rw[dk]at e;exact Si ok.cY v a u b w d α σ s R af I T p e
  ·
   rw[dk]at e;refine eD (ct l8) (λ F=>?_) λ W F=>?_
   ·rw[F]at e;exact nn e
   ·
    rw[F]at e;exact agH K uT ((h _ _ F).2 (by decide)) ok v a u b w d α σ s R af I T p e
 ·show ag g x _ _ _ (match ct ni with
   |some W=>uS gZ "__delitem__" W a [b]|none=>.au)
  cases F:ct ni with
  |none=>exact .au
  |some W=>exact(by
    intro α σ s R af I T p e Q E c he;refine BU I.bM (bN e λ h w=>h) p.1 λ l m w43 V w=>?_;subst w43;refine dT (aB (R7 K I V (aB (R8 K ahl ((h _ _ F).2 (by decide)) ok _ a [u] [b] α σ s R af I T ⟨p.1,.cons p.2 .nil⟩ e _ _ (λ r p9 h' el aA dw st eX j2 dh=>?_) he))));induction r with
    |none=>exact aR rfl dh|some r=>exact bl (c () () h' el aA dw st eX j2 trivial))theorem n0(G:gp g)(n:J):gP g fj n:=⟨λ e=>(bw e),G.gl,λ u u e=>(nn e),λ u u u u u=>.au,λ id x ok=>yf (.cons (Rh (gg (og (by decide) _) ok.u)) .nil),λ u u u u u u u u u u u e=>(nn e),λ u u u u u=>.au,λ u u u u u u u u u=>.au,λ u u u u u u u u=>.au,λ u u u u u u u=>.au,λ u u u u u u u=>.au,λ u u u u u u=>.au⟩noncomputable def fQ(pr:cz):az:=pr.map λ p=>(p.1,V.d p.2)theorem ajm(h:b=S):(match(generalizing:=false) b with|true=>m|false=>.au:Ev az)=m:=L h rfl
theorem gdS(h:b=S):gQ b m=m:=L h rfl
inductive Ends(pr:cz)(ρ:az)(k:cz->U D)(d:D)(σ:aE):U (Res (f6×az)×aE)->Prop
 |ret {ar} :Ends pr ρ k d σ (B (.ok (.ret (.d d),ar),σ))
 |next {I2 ar} :dt I2 ar->(ρ=fQ pr->ar=fQ I2)->k I2=B d->Ends pr ρ k d σ (B (.ok (.next,ar),σ))theorem Ends.go{pr p:cz}{ρ ar:az}{k:cz->U D}{d:D}{σ:aE}{m:cy}{f:az->cy}(h:m σ=B (.ok (.next,ar),σ))(i:ρ=fQ pr->ar=fQ p)(e:Ends p ar k d σ (f ar σ)):Ends pr ρ k d σ (b5 m f σ):=by refine L (show b5 m f σ=f ar σ from aT h) ?_;generalize f ar σ=q at e;cases e with|ret=>exact .ret|next a b c=>exact .next a (λ q=>b (i q)) c
theorem UR(h:m σ=B (.ok ar,σ)):lB m σ=B (.ok (.next,ar),σ):=aT h
section
variable {P:hI}{c en:Cfg}(K:i4 P c)
include K
theorem US:∀{ay:H aJ}{ds:H D}{pr f:cz}{ρ:az},qG s ay ds pr=B f->dt pr ρ->∀{GG:Prop},(∀ar,qn c M s ay (ds.map V.d) ρ σ=B (.ok ar,σ)->dt f ar->(ρ=fQ pr->ar=fQ f)->GG)->GG:=by
 intro ay;induction ay with
 |nil=>intro ds pr f ρ e h GG k;exact Cw e (λ u q p=>k ρ (L q rfl) (p▸h) (p▸id)) λ u u u u u q=>nomatch q
 |cons t ay i=>intro ds pr f ρ e h GG k;refine Cw e (λ q=>nomatch q) λ T E d F n q1 Q W b j=>?_;obtain⟨rfl,rfl⟩:=kp q1;obtain⟨p,rfl⟩:=AZ W;exact i j (h.cons n d) λ ar X l v=>k ar (L Q (Y (aT (pI (ajm b) σ)) X)) l λ q=>v (aM _ q)
theorem I3(h:dt pr ρ):∀(N:H (ai×D)),dt (N++pr) (N.map (λ p=>(p.1,V.d p.2))++ρ)
 |[]=>h|(n,d)::N=>(I3 h N).cons n d
theorem zip_map(n:H ai)(ds:H D):(n.reverse.zip (ds.map V.d).reverse).reverse=((n.reverse.zip ds.reverse).reverse).map λ p=>(p.1,V.d p.2):=by refine ax LN ?_;rw[ao_,LN];congr 1
theorem UT:∀(N:J)(pr:cz)(ρ:az)(b:H bx)(k:cz->U D)(d:D)(σ:aE),jz P M s N pr b k=B d->dt pr ρ->bY σ->Ends pr ρ k d σ (b4 c en M s N ρ b σ):=by
 intro N;induction N with
 |zero=>intro pr ρ b k d σ e;exact nn e|succ N I=>
 intro pr ρ b k d σ e i R;have x:=λ e=>(jB K M s _ _ i e).1;induction b with
 |nil=>exact .next i id e|cons st rest=>
 rcases st with⟨_,_,_,_,_,_,_,_,_,_⟩|⟨_,_,_,_,_,_,_,_,_,_⟩|⟨_,_,_,_,_,_,_,_,_,_,_⟩|⟨v,p⟩|⟨_,_⟩|⟨ay,E,p⟩|⟨_,_,_,_,_,_,_⟩|⟨_,_,_,_⟩|⟨_,_,_,_,_⟩|⟨_,_,_,_,_⟩|⟨_,_,_,_,_⟩|⟨_,_,_,_⟩|⟨t,a,b,p⟩|⟨_,_,_⟩|⟨_,_,_⟩|⟨_,_,_⟩|⟨_,_,_⟩|⟨_,_,_,_,_⟩|⟨_,_,_,_,_⟩|⟨_,_,_⟩|⟨_,_⟩|⟨_,_,_,_⟩|⟨_,_⟩|⟨_,_⟩|⟨_,_⟩
 case Return=>
  rcases v with _|E;case none=>exact nn e
  case some=>obtain h:=aT (x E d e σ R);exact L (show b4 c en M s (N+1) ρ (.Return (B E) p::rest) σ=_ from aT h) .ret
 case If=>
  refine b3 e λ q W e=>?_;obtain t1:=(jB K M s pr ρ i t).2 q W σ R;have Q:∀y,jz P M s N pr y _=B d->fL (ba c M s ρ t).2 _ _ σ=b4 c en M s N ρ y σ->Ends pr ρ k d σ _:=λ y l z=>by
   obtain r:=I pr ρ y _ d σ l i R;rw[<-z]at r;have f:∀q,fL (ba c M s ρ t).2 _ _ σ=q->Ends pr ρ _ d σ q->Ends pr ρ k d σ (b4 c en M s _ ρ _ σ):=λ q dp r=>by induction r with|ret=>exact L (show b4 c en M s (N+1) ρ (.If t a b p::rest) σ=_ from aT dp) .ret|next a b c=>exact .go dp b (I _ _ rest k d σ c a R)
   exact f _ rfl r
  exact match q,e,t1 with|true,e,t1=>Q a e (aT t1)|false,e,t1=>Q b e (aT t1)
 case Assign=>
  cases ay with
  |nil=>exact nn e|cons t ay=>
  induction ay with
  |cons=>exact nn e|nil=>
  refine mu (P:=λ o=>o=B d->Ends pr ρ k d σ _) (λ nm q u e=>?_) (w1 (P:=λ o=>o=B d->Ends pr ρ k d σ _) (λ ay HB q u e=>?_) λ e=>nn e) e<;>refine L u ?_
  ·skip
   refine bN e λ A e=>b3 e λ a W l=>(.go (m:=fb s nm (ba c M s ρ E).1 ρ) (ar:=(nm,.d a)::ρ) ?_ (λ q=>L q rfl) (I _ _ rest k d σ l (i.cons nm a) R));unfold fb;rw[<-Cs,A];exact aT (x E a W σ R)
  ·skip
   refine bN e λ da e=>?_;have f:∀{m:cy}{g ar},(match uN E with|some vs=>se c M s ay vs ρ|none=>Qr c M s ay (ba c M s ρ E).1 ρ)=m->m σ=B _->dt g ar->(ρ=fQ pr->ar=fQ g)->jz P M s N g rest k=B d->Ends pr ρ k d σ (b4 c en M s (N+1) ρ (.Assign [.Tuple ay HB q] E p::rest) σ):=λ{m g ar} hm h a b c'=>by refine .go (m:=gQ _ _) (ar:=ar) ?_ b (I g ar rest k d σ c' a R);rw[da,K.loops];exact Y (pI hm σ) h
   refine eD (uN E) (λ u=>?_) λ vs u=>?_
   ·
    rw[u]at e f;refine b3 e λ a W e=>b3 e λ ds l e=>?_;rw[IT]at e;exact b3 e λ g z e=>(US K z i λ ar X c4 C=>f rfl (Y (aT (x E a W σ R)) (UR (Y (aT (l▸rfl)) X))) c4 C e)
   ·
    rw[u]at e f;refine bN e λ nJ e=>b3 e λ w hw e=>?_;induction w with
    |none=>refine b3 e λ ds W e=>?_;rw[IT]at e;exact b3 e λ g l e=>US K l i λ ar X c4 C=>f (show se c M s ay vs ρ=(cE _).bind λ as=>lB (qn c M s ay as ρ) by unfold se;rw[nJ,hw];rfl) (Y (aT (ve x vs ds W σ R)) (UR X)) c4 C e
    |some j=>
     refine bN e λ A e=>b3 e λ ds W e=>cq (Ub e) λ cL e=>?_;have T:(j.reverse.zip ds.reverse).reverse=j.zip ds:=by show(pJ Prod.mk j.reverse ds.reverse).reverse=_;rw[<-List.reverse_zipWith cL,List.reverse_reverse];rfl
     have T:=T▸zip_map K j ds;refine f (ar:=(j.reverse.zip (ds.map V.d).reverse).reverse++ρ) (show se c M s ay vs ρ=gQ _ _ by unfold se;rw[nJ,hw];rfl) (Y (pI (gdS (ax A (aM j.all (funext λ n=>(Cs s n).symm)))) σ) (aT (ve x vs ds W σ R))) (L T (I3 K i _)) (λ q=>?_) e;rw[T,q];exact(vR ..).symm
 all_goals exact nn e
theorem I4(N:J)(pr:cz)(ρ:az)(b:H bx)(k:cz->U D)(d:D)(σ:aE)(e:jz P M s N pr b k=B d)(f:dt pr ρ)(R:bY σ):
  (∃ar,b4 c en M s N ρ b σ=B (.ok (.ret (.d d),ar),σ))\/∃p ar,b4 c en M s N ρ b σ=B (.ok (.next,ar),σ)/\(dt p ar/\(ρ=fQ pr->ar=fQ p))/\k p=B d:=by
 obtain h:=UT K N pr ρ b k d σ e f R;generalize b4 c en M s N ρ b σ=q at h;induction h with|ret=>exact .inl ⟨_,rfl⟩|next a b c=>exact .inr (bh _ _ ⟨rfl,⟨a,b⟩,c⟩)
theorem UU{st:bx}(e:kc P st ds=B d)(R:bY σ):lF (.plain .plain) st (λ ρ=>b4 c en 30 (bz st) 60 ρ (bP st)) (ds.map V.d) [] σ=B (.ok (.d d),σ):=by
 refine bN e λ z e=>?_;obtain s:=by obtain k:=I3 K (pr:=[]) (λ u u=>nn) ((eU st).zip ds).reverse;rw[ea,ea,LN]at k;exact ao_▸k
 delta lF nN;dsimp only;refine L (show(O _==O _)=S by rw[gh];exact cI.mpr (dE z)) ?_;obtain h:=UT K 60 _ _ _ _ d σ e s R;generalize G:b4 c en 30 _ 60 ((eU st).zip _).reverse _ σ=q at h;induction h with|ret=>exact Y (xG G R.2.2) Bj|next a b c=>exact Y (xG G R.2.2) (Y Bk (ax (ak c) rfl))
end
def sH(σ:aE):Bool:=u3 (σ.take 2)&&((σ.drop 2).all nY&&σ.all (bk (O σ)))theorem UW(h:sH σ=S):bY σ:=cq (bF.mp h) λ W j=>cq (bF.mp j) λ j v=>⟨W,j,v⟩def cx(f:H D->U D):bV:=λ as ks σ=>bR ks.isEmpty ((fx as).bind λ ds=>bR (sH σ) ((f ds).map λ d=>(.ok (.d d),σ)))
theorem UX:∀{as:H V}{ds:H D},fx as=B ds->as=ds.map V.d
 |[],ds,e=>by refine ax (ak e) ?_;rfl|a::as,ds,e=>by induction a with|aH i=>exact nn e|d d=>exact av (hR.mp e) λ F h w=>ax w (L (UX h) rfl)
theorem yv(e:cx f as ks σ=B (r,af)){G:Prop}(k:∀ds d,as=ds.map V.d->ks=[]->bY σ->f ds=B d->r=.ok (.d d)->af=σ->G):G:=
 bN e λ h e=>b3 e λ ds j e=>bN e λ v e=>gE e λ d I e=>have p:=bf e;k ds d (UX j) (k4.mp h) (UW v) I p.1.symm p.2.symm
theorem sI(h:f ds=B d)(g:sH σ=S):cx f (ds.map V.d) [] σ=B (.ok (.d d),σ):=by show(fx _).bind _=_;simp[Cy,gM,g,h];rfl
theorem cK.less(K:cK g a n C)(h:∀as ks σ r,ajn as ks σ=B r->C as ks σ=B r):cK g a n ajn:=
 ⟨K.there,λ x ok vs as k ks α σ s o af I t p e=>K.call x ok vs as k ks α σ s o af I t p (h as ks σ _ e)⟩theorem kS(G:gp g)(V:0<n)(h:qx g n ct)(K:i4 P (eG ct)){st:bx}(M:wD.lookup a=B (.plain .plain,st))(b:∀ds d,f ds=B d->kc P st ds=B d):cK g a (n+1) (cx f):=by refine cK.less (mL (G.fns a _ st M) G.base λ ρ x E o c=>lC (n0 G 0) 30 60 _ _ _ _ _ _ _ (nZ G V h) c) λ as ks σ r e=>?_;obtain⟨r,af⟩:=r;refine yv e λ ds d T i R W s D=>?_;subst T i s D;exact UU K (b ds d W) R
def pick(h:aX)(p:ao->aF):Heap:=⟨h.objs.mapIdx λ i o=>if p i then o else l7,h.life⟩theorem SH(h:aX)(p:ao->aF)(b:ao):(pick h p).get? b=if p b then h.get? b else none:=by delta pick D4;refine L (YK) ?_;cases e:h.objs[b]? with|none=>simp|some o=>cases m:p b<;>rfl
theorem Ir:(pick h p).get? b=B o ↔ p b=S/\h.get? b=B o:=by refine L (SH ..) ?_;cases m:p b<;>exact Option.ite_none_right_eq_some
noncomputable def B7(g:bX)(l:H ao)(i:ao):Bool:=(g.K.get? i).isSome||l.contains i
def ext(g:bX)(h:aX)(l:H ao):bX:={g with K:=pick h (B7 g l) }
theorem yg(I:aG g x α σ h)(e:g.K.get? b=B o):(ext g h l).K.get? b=B o:=
 Ir.mpr ⟨by unfold B7;rw[e];rfl,I.base b o e⟩
theorem B8(q:b∈l)(e:h.get? b=B o):(ext g h l).K.get? b=B o:=
 Ir.mpr ⟨by unfold B7;rw[oq.mpr q,Zz],e⟩
theorem aG.ahr(I:aG g x α σ h)(z:∀a∈l,a∉x.P/\a∉α):aG (ext g h l) x α σ h:=by
 refine⟨λ b o e=>(Ir.mp e).2,I.big,λ a c=>⟨?_,(I.b2 a c).2⟩,I.alive,I.dv,I.c8,I.bM,I.fr,I.old⟩;show(pick h _).get? a=aa;rw[SH,a6];unfold B7;refine L ((I.b2 a c).1) ?_;obtain this:l.contains a=false:=by rw[YL];intro q;rw[oq]at q;exact c.elim (z a q).1 (z a q).2
 rw[this];exact hN
theorem aG.sl(I:aG g x α σ h)(j:aG (ext g h l) X aA af h'):aG g X aA af h':=by refine⟨λ b o e=>j.base b o (yg I e),j.big,λ a c=>⟨?_,(j.b2 a c).2⟩,j.alive,j.dv,j.c8,j.bM,j.fr,j.old⟩;cases e:g.K.get? a with|none=>rfl|some o=>have q:=(j.b2 a c).1;rw[yg I e]at q;exact nomatch q
theorem ExcAt.sl{lo:J}(I:aG g x α σ h)(q:ExcAt (ext g h l) X lo aA af h' e cl as):ExcAt g X lo aA af h' e cl as:=
 match q with|⟨Sq,t,vs,a,j,r,R,dP,u,jt⟩=>⟨Sq,t,vs,a,I.sl j,r,R,dP,u,jt⟩theorem It(I:aG g x α σ h)(Bq:Base g):Base (ext g h l):=⟨wV Bq.booked λ b o e=>yg I e,Bq.sys⟩
theorem SW(I:aG g x α σ h)(G:hh g gl):hh (ext g h l) gl:=by
 refine e4 G.ex λ m M N P q=>?_;have k:∀b o,g.K.get? b=B o->(ext g h l).K.get? b=B o:=λ b o=>yg I;refine⟨m,M,N.keeps k,P.keeps k,λ n d e=>?_⟩;rcases q n d e with⟨v,E,r⟩|⟨p,v,E,r⟩
 ·exact .inl ⟨v,E,r.mono λ b o e u=>⟨k b o e,by simp⟩⟩
 ·exact .inr ⟨p,v,E,r.mono λ b o e u=>⟨k b o e,by simp⟩⟩
theorem ag.sl{h q:Type}{pre:H ao->aX->Prop}{post:H ao->aX->h->q->Prop}{t:bj h}{m:Ev q}{o:Res q}(T:ag (ext g s.heap l) x pre post t m)(I:aG g x α σ s.heap)(z:∀a∈l,a∉x.P/\a∉α)(D:1<=s.toks)(p:pre α s.heap)(e:m σ=B (o,af)):
  ∀(Q:h->aU->Prop)(E:aq->aU->Prop),
   (∀b r h' C aA,o=.ok r->a_ x.F x.W α s.heap aA h'->aG g x aA af h'->1<=C->post aA h' b r->Q b (cT s h' C))->
   (∀e cl as h' C aA,o=.exc cl as->a_ x.F x.W α s.heap aA h'->1<=C->ExcAt g x s.heap.objs.size aA af h' e cl as->E (.ref e) (cT s h' C))->aO (a5 g.prog g.w) x.A t Q E s:=λ Q E G y=>T α σ s o af (I.ahr z) D p e Q E (λ b r h' C aA i st j=>G b r h' C aA i st (I.sl j)) λ c cl as h' C aA i st k X=>y c cl as h' C aA i st k (X.sl I)
theorem bt.clo(R:bt g x env ρ α h)(q:Quiet x env)(y:∀m v,ck.lookup m=B v->s.names.lookup m=B .free/\ρ.lookup m=B v)
  (A:∀m,s.names.lookup m=B .free->iB (env.kindOf m)=S/\env.cells.lookup m=cl.lookup m):r_ x s cl ck α h:=⟨λ m v e=>(y m v e).1,λ m e=>cq (A m e) λ k K=>R.jX k λ c V W j w I P d=>⟨c,ax K W,j,w,q.2 m c k W,V,P,λ v e=>d v (y m v e).2⟩,λ m M c e E W j=>cq (A m e) λ k K=>cq (A M E) λ Q t=>R.ap m M c k Q (L K W) (L t j)⟩
theorem ahs(y:cU g x env n)(v:∃o fd,g.K.get? f=B o/\o.data=.func fd)(h:bQ (TE g x env ρ) ay M)
  (hF:∀vs as,ag g x (λ α h=>bp g x env ρ α h/\bU (x.P++α) α h vs as) (dA x) (call (.ref f) vs []) (C as)):
  TE g x env ρ (rp pos (.ref f) [] (ay.map λ t=>(aj,t)) []) ((cE M).bind C):=by
 refine eM v λ o fd i hd=>?_;obtain k:=Hl (ks:=[]) y h .nil [] [];intro α σ s l af I G p e Q E dp P;apply PU (o:=o) (fd:=fd);obtain w:ag g x (λ α h=>bp g x env ρ α h/\bU _ α h [] []) (λ α h r q=>bU _ α h r.pos q/\r.kw=[]) (wc _ S _ []) (cE M):=by
  refine λ α σ s l af I G p e Q E dp P=>eD (cE M σ) (λ R=>?_) λ r R=>?_
  ·rw[R]at e;exact nn e
  ·
   obtain⟨r,W⟩:=r;obtain⟨rfl,rfl⟩:=by rw[R]at e;simpa using e
   clear e;induction r with
   |ok as=>
    refine k α σ s _ W I G p (by unfold Ev.bind;rw[R];rfl) Q E (gn.ok λ b h' D aA st N T dh=>?_) eC.ok;obtain⟨mv,A⟩:=dh;refine dp b as h' D aA rfl st N T ⟨mv,?_⟩;revert A;intro A;cases hk:b.kw with
    |nil=>rfl|cons=>simp only[hk]at A;exact nomatch A
   |exc c as=>refine k α σ s _ W I G p (by unfold Ev.bind;rw[R]) Q E gn.exc λ d cl as h' D aA i st T X=>?_;cases i;exact P d _ _ h' D aA rfl st T X
 unfold Ev.bind at e;refine eD (cE M σ) (λ R=>?_) λ r R=>?_
 ·rw[R]at e;exact nn e
 ·
  obtain⟨r,z⟩:=r;rw[R]at e;refine w α σ s r z I G ⟨p,.nil⟩ R _ _ (λ b q h' D aA d1 st N T dh=>?_) λ d cl as h' D aA d1 st T X=>?_
  ·subst d1
   refine⟨⟨N.base _ _ i,hd⟩,?_⟩;obtain⟨aht,qy⟩:=b;obtain⟨mv,rfl⟩:=dh;exact hF aht q aA z _ l af N T ⟨(bt.jY y.ok.cY y.ok.ew y.q _ _ _ _ _ I st p),mv⟩ e Q E (λ b r h'' j V i K=>dp b r h'' j V i (st.trans K))
    λ d cl as h'' j V i K m X=>P d cl as h'' j V i (st.trans K) m (X.low st.size)
  ·subst d1
   cases e;exact P d cl as h' D aA rfl st T X
theorem ahu(K:gP g c n)(y:cU g x env n)(D:fa p env)(m:args.all fM=S)(X:(ba c N p ρ (.Name nm q)).1=.ret (.d (.obj f)))(w:∃o fd,g.K.get? f=B o/\o.data=.func fd)
  (V:∀vs as,ag g x (λ α h=>bp g x env ρ α h/\bU (x.P++α) α h vs as) (dA x) (call (.ref f) vs []) (C as)):
  TE g x env ρ (bG (.Call (.Name nm q) args [] P) env) ((cE (args.map λ e=>(ba c N p ρ e).1)).bind C):=by
 have a:=λ e=>(f7 K N p ρ e x env y D).1;simp[aos,(show backTo P (starEach args env)=(iQ args env).map λ t=>(aj,t) by rw[ud args env m,ue])];refine λ α σ s j af I F R e Q E G A=>aB ((X▸a _) α σ s _ σ I F R rfl _ _ (gn.ok λ v h' el aA st u k dh=>cq (aV.inv dh) λ W _=>L W ?_) eC.ok);refine ahs y w (bQ.evalEach _ a args) V aA σ _ j af u k (bt.jY y.ok.cY y.ok.ew y.q _ _ _ _ _ I st R) e Q E (λ b r h'' i T l M=>G b r h'' i T l (st.trans M))
  λ i1 cl as h'' i T l M z mC=>A i1 cl as h'' i T l (st.trans M) z (mC.low st.size)def j9(a b:V):Bool:=@decide (a=b) (ZA _)theorem qz(a:V):j9 a a=true:=@gJ _ (ZA _) rfl
def agree(ck ρ:az):Bool:=ck.all λ p=>match ρ.lookup p.1 with|some v=>j9 v p.2|none=>aj
theorem SX(h:agree ck ρ=S)(e:ck.lookup m=B v):ρ.lookup m=B v:=by have h:=b9.mp h _ (nk e);cases q:ρ.lookup m with|none=>rw[q]at h;exact bw h|some u=>rw[q]at h;rw[(@iN _ (ZA _) h)]def biI(id:b1):U (H V->Ev V):=[("len",e5 λ d=>(xu d).map D.int),("int.bit_length",e5 BM)].lookup id
def msI(_:aE)(a:V)(nm:ai):U o6:=match a with
 |.d d=>match d with
  |.int _=>bR (nm==("bit_length" :ai)) (B (.bi "int.bit_length"))|_=>aa
 |.aH _=>aa
def bI:Cfg where
 gl:=ee
 ct:=λ u=>aa
 bi:=λ id=>nX (biI id)
 ty:=λ u u=>.au
 ms:=msI
 attr:=λ u u=>.au
 item:=lE
 set:=qv
 o7:=λ u u=>.au
 setattr:=λ u u u=>.au
 del:=λ u u=>.au
 loops:=aj
 bg:=λ u=>aj
 fuel:=0
theorem ahv(M:B5 "int" nm "int.bit_length"):∀p (Q:aq×H aq->aU->Prop) E,Q (.builtin "int.bit_length",[.int i t]) s->aO (a5 prog w) A (Lu (.int i t) nm p) Q E s:=λ p Q E=>getMethod_builtin rfl M.c2 M.slot M.ty (λ u e=>by cases e)
theorem pb(G:hh g ee)(n:J):gP g bI n:=by
 refine⟨λ e=>(bw e),G,λ z z e=>(nn e),λ id x ok=>yf (.cons PD (.cons Rg .nil)),λ z z z z z=>.au,λ x α σ s v r nm t ok I R e=>?_,λ z z z z z=>.au,λ x ok v a u b V y z=>Rw v a u b V y,λ x ok v a u b w d=>Si ok.cY v a u b w d,λ z z z z z z z=>.au,λ z z z z z z z=>.au,λ z z z z z z=>.au⟩;obtain e:=e;induction r with
 |aH=>exact nn e|d d=>
 rcases d with _|_|i|_|_|_|_|_|_|_|⟨_,_⟩
 case int=>
  refine bN e λ h e=>(a7 R.inv λ T W=>L W ?_);exact ax (ak e) (L (cI.mp h) ⟨λ a e=>(nomatch e),λ p Q E K=>ahv (show B5 "int" (ep "bit_length") "int.bit_length" from Sx _ (by
    exact .tail _ (.tail _ (.tail _ (.tail _ (.tail _ (.tail _ (.tail _ (.tail _ (.tail _ (.head _))))))))))) p Q E K⟩)
 all_goals exact nn e
theorem SY(env:cn):∀(l r:H bx),fG (l++r) env=(fG l env>>=λ f=>match f with|.next=>fG r env|f=>pure f)
 |[],r=>by rfl|st::l,r=>by dsimp only[List.cons_append];rw[LK,LK,SY env l r,bind_assoc];congr 1;funext f;induction f<;>rfl
theorem S0(W:c9 g x o env ρ (fG l env) m)(j:∀ar,c9 g x o env ar (fG r env) (k ar)):c9 g x o env ρ (fG (l++r) env) (b5 m k):=by
 refine L (SY ..) (W.bind λ f r α σ s i af I t p e Q E h y=>?_);obtain P:∀{f:m6},B _=B (i,af)->nM _ α s.heap f r.1->aO (a5 g.prog g.w) x.A _ Q E s:=λ e K=>
  have q:=bf (ak e)
  bl (h _ r s.heap s.toks α q.1.symm (.refl ..) (ax q.2 I) t ⟨K,p.2⟩)
 obtain⟨F,ar⟩:=r;obtain K:=p.1;induction F with
 |next=>induction f with
  |next=>exact j ar α σ s i af I t p.2 e Q E h y|_=>exact K.elim
 |brk=>induction f<;>first|exact P e K|exact K.elim
 |cont=>induction f<;>first|exact P e K|exact K.elim
 |ret=>induction f<;>first|exact P e K|exact K.elim
def B9(g:bX)(f n:J)(s:bW)(cl:H (ai×ao))(ck:az)(C:H V->Ev V):Prop:=
 ∀x,eW g x n->∀vs as,ag g x (λ α h=>bU (x.P++α) α h vs as/\r_ x s cl ck α h) (dA x) (call (.ref f) vs []) (C as)
def ib(s:bW)(ck:az)(f:J)(C:H V->Ev V)(ρ:az)(e:aJ):Ev V:=w0 e (λ h args ks=>hZ h (λ nm=>match ks with
 |[]=>match agree ck ρ&&(args.all fM&&(nm==("inner" :ai)))with
   |true=>(cE (args.map λ e=>(ba bI 30 s ρ e).1)).bind C|false=>.au
 |_=>.au) .au) .au
theorem B_(G:hh g ee)(y:cU g x env n)(D:fa s env)(t:∃o fd,g.K.get? f=B o/\o.data=.func fd)(a:ck.lookup (ep "inner")=B (.d (.obj f)))(E:iB (s.names.lookup (ep "inner"))=S)
  (i:∀m v,ck.lookup m=B v->I.names.lookup m=B .free)(A:∀m,I.names.lookup m=B .free->iB (env.kindOf m)=S/\env.cells.lookup m=cl.lookup m)
  (Sq:B9 g f n I cl ck C)(e:aJ):TE g x env ρ (bG e env) (ib s ck f C ρ e):=by
 refine Ge (λ h args ks P b=>mu (λ nm q V=>?_) .au) .au;subst b V;rcases ks with _|⟨_,_⟩
 ·skip
  refine(?_);cases j:agree ck ρ&&(args.all fM&&(nm==("inner")))with
  |false=>exact .au|true=>obtain⟨W,l⟩:=bF.mp j;obtain⟨K,w⟩:=bF.mp l;obtain w:=cI.mp w;refine L w (ahu (pb G n) y D K (?_:p6 ee s ρ "inner" =_) t λ vs as=>(Sq x y.ok vs as).pre λ α h p=>⟨p.2,p.1.clo y.q (λ m v e=>⟨i m v e,SX W e⟩) A⟩);obtain R:(("inner")==("__debug__" :ai))=false:=rfl;obtain Q:(("inner")==("__classdict__" :ai))=false:=rfl;obtain u:=SX W a;unfold p6;rw[R,Q];cases z:s.names.lookup _ with|none=>rw[z]at E;exact bw E|some k=>rw[z]at E;induction k with|cell=>dsimp only;rw[u];rfl|free=>dsimp only;rw[u];rfl|_=>exact bw E
 ·exact .au
noncomputable def f9(f:D->U D):H D->U D:=λ ds=>match ds with|[]=>aa|a::ds=>match ds with|[]=>f a|_::_=>aa
noncomputable def vi(f:D->D->U D):H D->U D:=λ ds=>match ds with|[]=>aa|a::ds=>match ds with|[]=>aa|b::ds=>match ds with|[]=>f a b|_::_=>aa
def qI(o:eR):H D->U D:=λ ds=>match ds with
 |[]=>aa
 |a::ds=>match ds with
  |[]=>match a with
   |.ae xs=>pT o xs|_=>aa
  |b::ds=>match ds with|[]=>pT o [a,b]|c::ds=>match ds with|[]=>pT o [a,b,c]|_::_=>aa
def ajo(a b:D):U D:=match b with|.ty t=>HY a t|_=>aa
def ajp(d:D):U D:=(xu d).map D.int
def ajq(d:D):U D:=(xv d).map D.int
def I5:H (ai×(H D->U D)):=[("max",qI .Gt),("min",qI .Lt),("int",f9 tL),("len",f9 ajp),("abs",f9 PJ),("sum",f9 kJ),("ord",f9 ajq),("chr",f9 Py),("divmod",vi Bd),("isinstance",vi ajo)]
def I6:D->H D->U D:=λ r ds=>match ds with
 |[]=>match r with
  |.int i=>BM (.int i)|_=>aa
 |_::_=>aa
def I7:H (ai×(D->H D->U D)):=[("bit_length",I6)]def hb(ext:H (ai×(H D->U D))):hI:=⟨ext++I5,I7⟩def P0:hI:=hb []theorem sJ(h:f9 f ds=B d):∃a,ds=[a]/\f a=B d:=by match ds,h with|[a],h=>exact⟨a,rfl,h⟩
theorem UY(h:vi f ds=B d):∃a b,ds=[a,b]/\f a b=B d:=by
 rcases ds with _|⟨a,_|⟨b,_|_⟩⟩
 ·exact nn h
 ·exact nn h
 ·exact(bh a b ⟨rfl,h⟩)
 ·exact nn h
def CC(c:Cfg)(F:D)(f:H D->U D):Prop:=∀ds d,f ds=B d->∀σ,bY σ->∀m,cE m σ=B (.ok (ds.map V.d),σ)->uK c (.d F) m [] [] σ=B (.ok (.d d),σ)theorem pn{id:b1}(h:∀ds d,f ds=B d->∀σ,nX (Im id) (ds.map V.d) σ=B (.ok (.d d),σ)):CC (eG ct) (.bi id) f:=λ ds d e σ R m p=>Y (aT p) (h ds d e σ)theorem UZ{id:b1}(h:∀ds d,f ds=B d->∀σ,nX (Sl id) (ds.map V.d) σ=B (.ok (.d d),σ)):CC (eG ct) (.ty id) f:=λ ds d e σ R m p=>Y (aT p) (h ds d e σ)theorem qJ(h:g a=B d)(σ:aE):e5 g [.d a] σ=B (.ok (.d d),σ):=kR h σ
theorem U0(h:qI o ds=B d)(σ:aE):BI o (ds.map V.d) σ=B (.ok (.d d),σ):=by
 rcases ds with _|⟨a,_|⟨b,_|⟨c,_|_⟩⟩⟩
 ·exact nn h
 ·rcases a with _|_|_|_|_|_|_|_|xs|_|⟨_,_⟩
  case ae=>have h:pT o xs=B d:=h;rw[EU]at h;exact kR h σ
  all_goals exact nn h
 ·obtain h:pT o [a,b]=B d:=h
  rw[EU]at h;exact kR h σ
 ·obtain h:pT o [a,b,c]=B d:=h
  rw[EU]at h;exact kR h σ
 ·exact nn h
theorem U1:∀p∈I5,∃f,ee.lookup p.1=B f/\CC (eG ct) f p.2:=
 AllP.mem (.cons ⟨.bi "max",rfl,pn λ ds d e σ=>U0 e σ⟩ (.cons ⟨.bi "min",rfl,pn λ ds d e σ=>U0 e σ⟩ (.cons ⟨.ty "int",rfl,UZ λ ds d e σ=>by obtain⟨a,rfl,h⟩:=sJ e;exact qJ (by rw[<-Z1];exact h) σ⟩ (.cons ⟨.bi "len",rfl,pn λ ds d e σ=>by obtain⟨a,rfl,h⟩:=sJ e;exact qJ h σ⟩ (.cons ⟨.bi "abs",rfl,pn λ ds d e σ=>by obtain⟨a,rfl,h⟩:=sJ e;exact qJ h σ⟩ (.cons ⟨.bi "sum",rfl,pn λ ds d e σ=>by obtain⟨a,rfl,h⟩:=sJ e;exact qJ h σ⟩ (.cons ⟨.bi "ord",rfl,pn λ ds d e σ=>by obtain⟨a,rfl,h⟩:=sJ e;exact qJ h σ⟩ (.cons ⟨.bi "chr",rfl,pn λ ds d e σ=>by obtain⟨a,rfl,h⟩:=sJ e;exact qJ h σ⟩ (.cons ⟨.bi "divmod",rfl,pn λ ds d e σ=>by refine eM (UY e) λ a b w h=>?_;refine L w ?_;exact kR h σ⟩ (.cons ⟨.bi "isinstance",rfl,pn λ ds d e σ=>by
  refine eM (UY e) λ a b j5 h=>L j5 ?_;rcases b with _|_|_|_|_|t|_|_|_|_|⟨_,_⟩;case ty=>show Ev.ofD _ σ=_;exact kR h σ
  all_goals exact nn h⟩ .nil))))))))))
theorem U2:∀k nm,vd nm=B k->∃ty f,ee.lookup nm=B (.ty ty)/\(eG ct).ty ty=f/\match k with
  |0=>f=Ba|1=>f=o9|_=>f=xZ:=by
 intro k nm h;unfold vd qF at h;rw[ph,ph,ph]at h;refine dO (nm==("range")) (λ W=>?_) λ W=>?_
 ·
  rw[W]at h;refine ax (ak h) ?_;exact L (cI.mp W) ⟨"range",_,rfl,rfl,rfl⟩
 ·
  rw[W]at h;refine dO (nm==("zip")) (λ j=>?_) λ j=>?_
  ·
   rw[j]at h;exact ax (ak h) (L (cI.mp j) ⟨"zip",_,rfl,rfl,rfl⟩)
  ·
   rw[j]at h;refine dO (nm==("enumerate")) (λ v=>?_) λ v=>?_
   ·
    rw[v]at h;exact ax (ak h) (L (cI.mp v) ⟨"enumerate",_,rfl,rfl,rfl⟩)
   ·rw[v]at h;exact nn h
theorem mQ{ext:H (ai×(H D->U D))}(h:∀p∈ext,∃a,ee.lookup p.1=B (.obj a)/\ct a=B (cx p.2)):i4 (hb ext) (eG ct):=by
 refine⟨rfl,rfl,rfl,rfl,rfl,U2,λ nm f e=>?_,λ nm g e=>?_⟩
 ·obtain s:=nk e
  rcases bB.mp s with q|q
  ·exact av (h _ q) λ a W j=>(⟨_,W,(by
    refine λ ds d e σ R m s=>(?_:(match ct a with|some C=>jw C [] m [] []|none=>.au) σ=_);refine L j (Y (aT s) (sI e ?_));unfold sH;simp only[R.1,R.2.1,R.2.2];rfl)⟩)
  ·exact U1 _ q
 ·obtain s:=nk e
  obtain s:(nm,g)∈I7:=s;unfold I7 at s;simp[dM,dS,jQ,apa]at s;refine cq s λ w F=>L w (L F ⟨rfl,λ r ds d e σ R m s=>?_⟩);induction ds with
  |cons=>exact nn e
  |nil=>
   rcases r with _|_|i|_|_|_|_|_|_|_|⟨_,_⟩;case int=>exact Y (aT s) (qJ e σ)
   all_goals exact nn e
noncomputable def cQ:H (U D)->U (H D)
 |[]=>B []|o::os=>o.bind λ d=>(cQ os).map (d:: ·)def VD(r:D)(ds:H D):U D:=hB (λ s=>one ds λ d=>x1 s d) r
def VE(r:D)(ds:H D):U D:=hB (λ s=>bR ds.isEmpty (lD (.str s))) r
def Jr(xs:H D)(d:D):U D:=(jZ g6 xs d).bind λ b=>bR b ((o_ d xs).map λ j=>D.int (j:J))def aj5(r:D)(ds:H D):U D:=one ds λ d=>match r with|.str x=>hB (BO x) d|.aD xs=>Jr xs d|.ae xs=>bR (dc xs) (Jr xs d)|_=>aa
def VF(r:D)(ds:H D):U D:=uR (λ o=>(nj o).bind λ K=>one ds (iX λ k=>B (H7 k K))) r
def Js:H (ai×(D->H D->U D)):=[("join",VD),("lower",VE),("upper",(λ r ds=>hB (λ s=>bR ds.isEmpty (Rf (.str s))) r)),("index",aj5),("get",VF)]def fl(ext:H (ai×(H D->U D))):hI:=⟨(hb ext).mO,(hb ext).jy++Js⟩
theorem sM(id:b1)(h:∀σ,u0 ct σ (.d r) nm=B (.bi id)){ds:H D}(v:nX (Im id) (.d r::ds.map V.d) σ=B (.ok (.d d),σ))(e:cE m σ=B (.ok (ds.map V.d),σ)):
  qi (eG ct) (.d r) nm m [] [] σ=B (.ok (.d d),σ):=by
 show(match u0 ct σ _ nm with
  |some (.bi id)=>((cE m).bind λ as=>nX _ _) σ|some (.fn a)=>(match ct a with|some C=>jw C [.d r] m [] [] σ|none=>aa)|none=>aa)=_
 exact L (h σ) (Y (aT e) v)def aj6(ct:ao->U bV)(p:ai×(D->H D->U D)):Prop:=(p.1==ep "replace")=aj/\∀r ds d,p.2 r ds=B d->∀σ,bY σ->∀m,cE m σ=B (.ok (ds.map V.d),σ)->qi (eG ct) (.d r) p.1 m [] [] σ=B (.ok (.d d),σ)
theorem VG(e:Jr xs y=B d):jZ g6 xs y=B S/\(o_ y xs).map (λ j=>D.int (j:J))=B d:=
 b3 e λ u h e=>bN e λ W e=>⟨ax W h,e⟩
theorem sN{ext:H (ai×(H D->U D))}(h:∀p∈ext,∃a,ee.lookup p.1=B (.obj a)/\ct a=B (cx p.2)):i4 (fl ext) (eG ct):=by
 obtain Bq:=mQ h;refine⟨rfl,rfl,rfl,rfl,rfl,U2,Bq.mO,λ nm g e=>?_⟩;obtain e:((hb ext).jy++Js).lookup nm=B g:=e;rw[Eo]at e;refine rY ((hb ext).jy.lookup nm) (λ G v=>?_) λ v=>?_
 ·rw[v]at e;exact Bq.jy nm g (Y v e)
 ·rw[v]at e;exact(show AllP (aj6 ct) Js from by
   refine .cons ⟨rfl,λ r ds d e σ u M t=>mi e λ n m e=>j4 e λ x E e=>?_⟩ (.cons ⟨rfl,λ r ds d e σ u M t=>mi e λ s m e=>bN e λ E dQ=>?_⟩ (.cons ⟨rfl,λ r ds d e σ u M t=>mi e λ s m e=>bN e λ E dQ=>?_⟩ (.cons ⟨rfl,λ r ds d e σ u M t=>j4 e λ x E e=>?_⟩ (.cons ⟨rfl,λ r ds d e σ u M t=>BQ e λ o m e=>b3 e λ K i e=>j4 e λ x E e=>p5 e λ k F dQ=>?_⟩ .nil))))
   ·subst m E;exact sM "str.join" (ds:=[x]) (λ σ=>rfl) (kR e σ) t
   ·rw[k4.mp E]at t;subst m;exact sM "str.lower" (ds:=[]) (λ σ=>rfl) (kR dQ σ) t
   ·rw[k4.mp E]at t;subst m;exact sM "str.upper" (ds:=[]) (λ σ=>rfl) (kR dQ σ) t
   ·subst E
    rcases r with _|_|_|_|z|_|_|_|xs|xs|⟨_,_⟩;case str=>exact mi e λ y P e=>by subst P;exact sM "str.index" (ds:=[.str y]) (λ σ=>rfl) (kR e σ) t
    case aD=>
     obtain q:=VG e;refine sM "tuple.index" (λ σ=>rfl) ?_ t;show(match jZ g6 xs x with
      |some S=>Ev.ofD _|_=>.au:Ev V) σ=_
     rw[q.1];exact kR q.2 σ
    case ae=>
     exact bN e λ h e=>by
      obtain q:=VG e;refine sM "list.index" (λ σ=>rfl) ?_ t;show(match jZ g6 xs x,dc xs with
       |some S,S=>Ev.ofD _|_,_=>.au:Ev V) σ=_
      rw[q.1,h];exact kR q.2 σ
    all_goals exact nn e
   ·subst m E F
    have f:=by unfold nj at i;cases q:o==rD with|true=>exact cI.mp q|false=>rw[q]at i;exact nn i
    rw[f]at i ⊢;refine sM "dict.get" (λ σ=>rfl) ?_ t;refine(?_:x4 nj (.d (.obj rD)) (.d (.int k)) σ=_);unfold x4;rw[show hi (.d (.obj rD)) (uR nj)=B K from i,<-ak dQ];rfl).mem _ (nk e)def aj7(a:D):U D:=(cp .Eq a (.str " ")).map D.bool
def CP(ds:H D):U D:=one ds aj7
def CQ(a:D):U D:=((cQ [(xv a).map D.int]).bind (VF (.obj rD))).bind λ r=>(cp .IsNot r .none).bind λ c=>match c with|true=>B r|false=>(VE a [])def yF(ds:H D):U D:=one ds CQ
section
variable {g:bX}(G:gp g)
include G
theorem VH(ct:ao->U bV):i4 (fl []) (eG ct):=sN λ p h=>aR h dS
theorem aj8(n:J)(V:1<=n):cK g 186 (n+1) (cx CP):=kS G (by assumption) (λ a C=>nn) (VH G _) rfl λ ds d e=>j4 e λ a h e=>L h (Y ((rfl)) e)theorem aj9(n:J)(V:1<=n):cK g 179 (n+1) (cx yF):=kS G (by assumption) (λ a C=>nn) (VH G _) rfl λ ds d e=>j4 e λ a h e=>L h (Y ((rfl)) e)
end
def U3(x X x2:D):U D:=(aI .Mod x2 (.aS 0x3ff0000000000000)).bind λ z=>
  (cp .Lt z (.aS 0x3fc5555555555555)).bind λ G=>match G with
  |true=>((((aI .Sub X x).bind λ p=>aI .Mult p z).bind λ b=>aI .Mult b (.aS 0x4018000000000000)).bind λ E=>aI .Add x E)|false=>((cp .Lt z (.aS 0x3fe0000000000000)).bind λ A=>match A with
  |true=>(B X)|false=>((cp .Lt z (.aS 0x3fe5555555555555)).bind λ k=>match k with
  |true=>((((aI .Sub X x).bind λ I=>(aI .Sub (.aS 0x3fe5555555555555) z).bind λ y=>aI .Mult I y).bind λ K=>aI .Mult K (.aS 0x4018000000000000)).bind λ w=>aI .Add x w)|false=>(B x)))noncomputable def gr(f:D->D->D->U D):H D->U D:=λ ds=>match ds with|[]=>aa|a::ds=>match ds with|[]=>aa|b::ds=>match ds with|[]=>aa|c::ds=>match ds with|[]=>f a b c|_::_=>aa
def qK:H D->U D:=gr U3
def P1:hI:=hb [("_v",qK)]
def yw(x X x2:D):U D:=(qI .Gt [x,X,x2]).bind λ z=>
  (qI .Lt [x,X,x2]).bind λ G=>
  (aI .Add z G).bind λ U4=>
  (aI .Sub z G).bind λ b=>
  (aI .Div U4 (.aS 0x4000000000000000)).bind λ p=>
  (cp .Eq G z).bind λ ajr=>match ajr with
  |true=>(B (.aD [(.aS 0x0000000000000000),p,(.aS 0x0000000000000000)]))|false=>((cp .LtE p (.aS 0x3fe0000000000000)).bind λ ajs=>match ajs with
  |true=>((aI .Div b U4).bind λ w=>
  ((aI .Sub z x).bind λ I=>aI .Div I b).bind λ U5=>
  ((aI .Sub z X).bind λ E=>aI .Div E b).bind λ y=>
  ((aI .Sub z x2).bind λ a=>aI .Div a b).bind λ M=>
  (cp .Eq x z).bind λ Q=>match Q with
  |true=>((aI .Sub M y).bind λ h=>
  ((aI .Div h (.aS 0x4018000000000000)).bind λ V=>aI .Mod V (.aS 0x3ff0000000000000)).bind λ c=>
  B (.aD [c,p,w]))
  |false=>((cp .Eq X z).bind λ q=>match q with
  |true=>(((aI .Add (.aS 0x4000000000000000) U5).bind λ N=>aI .Sub N M).bind λ P=>
  ((aI .Div P (.aS 0x4018000000000000)).bind λ R=>aI .Mod R (.aS 0x3ff0000000000000)).bind λ d=>
  B (.aD [d,p,w]))
  |false=>(((aI .Add (.aS 0x4010000000000000) y).bind λ i=>aI .Sub i U5).bind λ e=>
  ((aI .Div e (.aS 0x4018000000000000)).bind λ s=>aI .Mod s (.aS 0x3ff0000000000000)).bind λ W=>
  B (.aD [W,p,w]))))
  |false=>((((aI .Sub (.aS 0x4000000000000000) z).bind λ j=>aI .Sub j G).bind λ A=>aI .Div b A).bind λ g=>
  ((aI .Sub z x).bind λ t=>aI .Div t b).bind λ T=>
  ((aI .Sub z X).bind λ C=>aI .Div C b).bind λ f=>
  ((aI .Sub z x2).bind λ k=>aI .Div k b).bind λ r=>
  (cp .Eq x z).bind λ F=>match F with
  |true=>((aI .Sub r f).bind λ u=>
  ((aI .Div u (.aS 0x4018000000000000)).bind λ v=>aI .Mod v (.aS 0x3ff0000000000000)).bind λ l=>
  B (.aD [l,p,g]))
  |false=>((cp .Eq X z).bind λ m=>match m with
  |true=>(((aI .Add (.aS 0x4000000000000000) T).bind λ n=>aI .Sub n r).bind λ K=>
  ((aI .Div K (.aS 0x4018000000000000)).bind λ o=>aI .Mod o (.aS 0x3ff0000000000000)).bind λ z44=>
  B (.aD [z44,p,g]))
  |false=>(((aI .Add (.aS 0x4010000000000000) f).bind λ z47=>aI .Sub z47 T).bind λ z46=>
  ((aI .Div z46 (.aS 0x4018000000000000)).bind λ z49=>aI .Mod z49 (.aS 0x3ff0000000000000)).bind λ z48=>
  B (.aD [z48,p,g])))))
def yx(x X x2:D):U D:=(qI .Gt [x,X,x2]).bind λ z=>
  (qI .Lt [x,X,x2]).bind λ G=>
  (aI .Sub z G).bind λ E=>
  (cp .Eq G z).bind λ d=>match d with
  |true=>(B (.aD [(.aS 0x0000000000000000),(.aS 0x0000000000000000),z]))|false=>((aI .Div E z).bind λ p=>
  ((aI .Sub z x).bind λ k=>aI .Div k E).bind λ A=>
  ((aI .Sub z X).bind λ K=>aI .Div K E).bind λ w=>
  ((aI .Sub z x2).bind λ y=>aI .Div y E).bind λ I=>
  (cp .Eq x z).bind λ P=>match P with
  |true=>((aI .Sub I w).bind λ M=>
  ((aI .Div M (.aS 0x4018000000000000)).bind λ Q=>aI .Mod Q (.aS 0x3ff0000000000000)).bind λ a=>
  B (.aD [a,p,z]))
  |false=>((cp .Eq X z).bind λ h=>match h with
  |true=>(((aI .Add (.aS 0x4000000000000000) A).bind λ T=>aI .Sub T I).bind λ c=>
  ((aI .Div c (.aS 0x4018000000000000)).bind λ R=>aI .Mod R (.aS 0x3ff0000000000000)).bind λ q=>
  B (.aD [q,p,z]))
  |false=>(((aI .Add (.aS 0x4010000000000000) w).bind λ b=>aI .Sub b A).bind λ N=>
  ((aI .Div N (.aS 0x4018000000000000)).bind λ e=>aI .Mod e (.aS 0x3ff0000000000000)).bind λ V=>
  B (.aD [V,p,z]))))
def yy(X x x2:D):U D:=(cp .Eq x (.aS 0x0000000000000000)).bind λ u=>match u with
  |true=>(B (.aD [x2,x2,x2]))|false=>(((cQ [aI .Mult X (.aS 0x4018000000000000)]).bind (f9 tL)).bind λ G=>
  ((aI .Mult X (.aS 0x4018000000000000)).bind λ b=>aI .Sub b G).bind λ R=>
  ((aI .Sub (.aS 0x3ff0000000000000) x).bind λ A=>aI .Mult x2 A).bind λ p=>
  (((aI .Mult x R).bind λ K=>aI .Sub (.aS 0x3ff0000000000000) K).bind λ w=>aI .Mult x2 w).bind λ k=>
  ((((aI .Sub (.aS 0x3ff0000000000000) R).bind λ M=>aI .Mult x M).bind λ E=>aI .Sub (.aS 0x3ff0000000000000) E).bind λ y=>aI .Mult x2 y).bind λ I=>
  (aI .Mod G (.int 6)).bind λ z=>
  (cp .Eq z (.int 0)).bind λ Q=>match Q with
  |true=>(B (.aD [x2,I,p]))|false=>((cp .Eq z (.int 1)).bind λ h=>match h with
  |true=>(B (.aD [k,x2,p]))|false=>((cp .Eq z (.int 2)).bind λ c=>match c with
  |true=>(B (.aD [p,x2,I]))|false=>((cp .Eq z (.int 3)).bind λ T=>match T with
  |true=>(B (.aD [p,k,x2]))|false=>((cp .Eq z (.int 4)).bind λ q=>match q with
  |true=>(B (.aD [I,p,x2]))|false=>((cp .Eq z (.int 5)).bind λ P=>match P with
  |true=>(B (.aD [x2,p,k]))|false=>(B .none)))))))
def vj(X x x2:D):U D:=(cp .Eq x2 (.aS 0x0000000000000000)).bind λ u=>match u with
  |true=>(B (.aD [x,x,x]))|false=>((cp .LtE x (.aS 0x3fe0000000000000)).bind λ G=>match G with
  |true=>(((aI .Add (.aS 0x3ff0000000000000) x2).bind λ b=>aI .Mult x b).bind λ E=>
  ((aI .Mult (.aS 0x4000000000000000) x).bind λ A=>aI .Sub A E).bind λ p=>
  (cQ [(cQ [B p,B E,aI .Add X (.aS 0x3fd5555555555555)]).bind (qK),qK [p,E,X],(cQ [B p,B E,aI .Sub X (.aS 0x3fd5555555555555)]).bind (qK)]).bind λ k=>a8 (dc k) (B (.aD k)))
  |false=>(((aI .Add x x2).bind λ K=>(aI .Mult x x2).bind λ I=>aI .Sub K I).bind λ w=>
  ((aI .Mult (.aS 0x4000000000000000) x).bind λ P=>aI .Sub P w).bind λ z=>
  (cQ [(cQ [B z,B w,aI .Add X (.aS 0x3fd5555555555555)]).bind (qK),qK [z,w,X],(cQ [B z,B w,aI .Sub X (.aS 0x3fd5555555555555)]).bind (qK)]).bind λ M=>a8 (dc M) (B (.aD M))))theorem ajt(a b c:D):kc P1 (aY 7) [a,b,c]=vj a b c:=by lk
noncomputable def jC(f:D->U D):H D->U (H D)
 |[]=>B []|d::ds=>(f d).bind λ v=>(jC f ds).map (v:: ·)def U6(f:D->U D)(d:D):U D:=(lM d).bind λ xs=>match bE (O xs) 1000 with|true=>(jC f xs).map D.ae|false=>aa
def P2:hI:=hb [("rgb_to_hls",gr yw),("hls_to_rgb",gr vj),("rgb_to_hsv",gr yx),("hsv_to_rgb",gr yy)]def U7(d:D)(k:D->D->D->U D):U D:=(hE d 3).bind λ ds=>match ds with|[]=>aa|a::ds=>match ds with|[]=>aa|b::ds=>match ds with|[]=>aa|c::ds=>match ds with|[]=>k a b c|_::_=>aa
def litE(low one:D):U D:=(aI .Mult (.int 64) one).bind λ a=>(aI .Mult (.int 8) low).bind λ b=>aI .Sub a b
def aju(one:D):U D:=(((cQ [((aI .Pow (.int 2) (.int 21)).bind λ b=>aI .Mult one b).bind λ a=>aI .Add a (.int 1)]).bind (f9 tL)).bind λ a=>aI .FloorDiv a (.int 2)).bind λ a=>(aI .LShift (.int 48) (.int 20)).bind λ b=>aI .Mod a b
def U8(low u M g m p:D):U D:=
 ((cQ [fh p (.int 0),fh p (.int 1),fh p (.int 2)]).bind (gr yx)).bind λ r=>U7 r λ h X v=>
 ((cQ [fh p (.int 0),fh p (.int 1),fh p (.int 2)]).bind (gr yw)).bind λ r=>U7 r λ t l s=>
 ((U6 (litE low) p).bind λ a=>((cQ [aI .Mult h (.int 48),aI .Mult t (.int 48),aI .Mult X M,aI .Mult v (.int 8),aI .Mult l (.int 16),aI .Mult s m]).bind λ xs=>a8 (dc xs) (B (.ae xs))).bind λ b=>aI .Add a b).bind λ told=>
 U6 aju told
def litS(P low u t:D):U D:=(cQ [aI .Add low u,(aI .Mult (.int 2) low).bind λ a=>aI .Add a u]).bind λ xs=>match xs with
 |[]=>aa
 |m::xs=>match xs with
  |[]=>aa
  |g::xs=>match xs with
   |[]=>((cQ [B g,aI .Sub (.int 16) g]).bind (qI .Lt)).bind λ s=>
    ((aI .Mod t (.int 2)).bind λ a=>cp .Eq a (.int 0)).bind λ c=>match c with
    |true=>((cQ [((aI .Mult (.int 48) t).bind λ b=>aI .Add P b).bind λ a=>aI .Div a (.int 48),aI .Div u m,aI .Div m (.int 8)]).bind (gr yy)).bind λ p=>U8 low u m g s p|false=>((cQ [((aI .Mult (.int 48) t).bind λ b=>aI .Sub P b).bind λ a=>aI .Div a (.int 48),aI .Div g (.int 16),aI .Div u s]).bind (gr vj)).bind λ p=>U8 low u m g s p
   |_::_=>aa
theorem litS_eq(a b c d:D):kc P2 (aY 35) [a,b,c,d]=litS a b c d:=by lk
noncomputable def mR:J->H J
 |0=>[1,0,0]|1=>[1,1,0]|2=>[0,1,0]|3=>[0,1,1]|4=>[0,0,1]|_=>[1,0,1]noncomputable def I8(m:J)(a b:J):Nat:=8*a+m*b-m*a
def U9(p l u:J):H Nat:=(match aZ (p% 8) 3 with
  |true=>((mR (p/8)).zip (mR (match p% 8 with|0=>(p/8+5)% 6|_=>(p/8+1)% 6))).map λ q=>u*I8 (p% 8) q.1 q.2|false=>((mR ((p/8+1)% 6)).zip (mR (p/8))).map λ q=>u*I8 (8-p% 8) q.1 q.2)++ [p,p,u,l+u,2*l+u,u]def CD(p l u:J):D:=.ae ((U9 p l u).map λ n=>.int ((n*1048576:J):ah))noncomputable def places:H Nat:=(aw 48).filter λ p=> !aL (p% 8) 4
noncomputable def bq{α h:Type} :H α->(α->h)->H h
 |[],_=>[]|x::xs,f=>f x::bq xs f
noncomputable def br{α h:Type} :H α->(α->h)->H h
 |[],_=>[]|x::xs,f=>f x::br xs f
theorem bc{α e:Type}{f g:α->e} :∀{xs:H α},bq xs f=br xs g->∀{x:α},x∈xs->f x=g x
 |[],_,_,h=>by cases h
 |y::V,h,x,K=>by
  obtain⟨W,j⟩:=kp h;rcases dM.mp K with rfl|q
  ·exact W
  ·exact bc j q
abbrev vk(l:J):Prop:=bq (aw 4) (λ t=>bq places λ p=>bq [1,2,3,4] λ u=>litS (.int (p:J)) (.int (l:J)) (.int (u:J)) (.int (t:J)))=br (aw 4) λ t=>br places λ p=>br [1,2,3,4] λ u=>B (CD p l u)theorem ajv:vk 0:=by lk
theorem ajw:vk 1:=by lk
theorem ajx:vk 2:=by lk
theorem lit_3:vk 3:=by lk
theorem ajy:vk 4:=by lk
theorem ajz(h:p∈places)(z:l<5)(X:u∈[1,2,3,4])(q:t<4):litS (.int (p:J)) (.int (l:J)) (.int (u:J)) (.int (t:J))=B (CD p l u):=by
 have f:vk l:=by
  rcases l with _|_|_|_|_|l
  ·exact ajv
  ·exact ajw
  ·exact ajx
  ·exact lit_3
  ·exact ajy
  ·exact aR z (er.mpr (i_ 5 l))
 exact bc (bc (bc f (a4.mpr q)) h) X
noncomputable def d4(l:H (ao×bV))(a:ao):U bV:=l.lookup a
theorem hJ(h:∀p∈l,cK g p.1 n p.2):qx g n (d4 l):=by
 intro a C e;have q:(a,C)∈l:=by
  clear h;unfold d4 at e;induction l with
  |nil=>exact nn e
  |cons p l i=>
   rw[gY]at e;refine dO (a==p.1) (λ G=>?_) λ G=>?_
   ·rw[G]at e;refine ax (ak e) ?_;rw[cI.mp G];exact cV
   ·rw[G]at e;exact c7 _ (i e)
 exact⟨(h _ q).w,λ u=>h _ q⟩def mS(bS:J)(cG:H J):H Nat:=cG.rec (motive:=λ u=>J->H J) (λ u=>[]) (λ b bs dF x=>x% b::dF (x/b)) bS
noncomputable def bb(N:H J):H D:=N.map λ n=>.int (n:J)def lO(k:J)(ds:H D):U D:=two ds λ a b=>mG a λ x=>BK (λ bs=>(mK bs).bind λ n=>bR (aZ (O n) k&&n.all λ b=>bE 0 b&&bE b 1000) (B (.ae (bb (mS x n))))) b
noncomputable def I9(f:J->U D)(n:H J):U D:=match n with|[]=>aa|a::t=>match t with|[]=>f a|_::_=>aa
def CE(f:J->J->U D)(n:H J):U D:=match n with|[]=>aa|a::t=>I9 (f a) t
def CF(f:J->J->J->U D)(n:H J):U D:=match n with|[]=>aa|a::t=>CE (f a) t
def U_(f:J->J->J->J->U D)(n:H J):U D:=match n with|[]=>aa|a::t=>CF (f a) t
theorem Va(h:I9 f n=B d){G:Prop}(k:∀a,n=[a]->f a=B d->G):G:=by
 rcases n with _|⟨a,_|_⟩
 ·exact nn h
 ·exact k a rfl h
 ·exact nn h
theorem I_(h:CE f n=B d){G:Prop}(k:∀a b,n=[a,b]->f a b=B d->G):G:=by induction n with|nil=>exact nn h|cons a t=>exact Va h λ b e=>k a b (ax e rfl)theorem Ja(h:CF f n=B d){G:Prop}(k:∀a b c,n=[a,b,c]->f a b c=B d->G):G:=by induction n with|nil=>exact nn h|cons a t=>exact I_ h λ b c e=>k a b c (ax e rfl)theorem ajA(h:U_ f n=B d){G:Prop}(k:∀a b c e,n=[a,b,c,e]->f a b c e=B d->G):G:=by induction n with|nil=>exact nn h|cons a t=>exact Ja h λ b c e q=>k a b c e (ax q rfl)def sL(f:H J->U D)(ds:H D):U D:=(mK ds).bind f
theorem vl(h:sL f ds=B d){G:Prop}(k:∀n,ds=bb n->f n=B d->G):G:=b3 h λ n W=>k n (yb W)
theorem Vb(h:lO k ds=B d){G:Prop}(c:∀(x:J)(n:H J),ds=[.int (x:J),.aD (bb n)]->O n<=k->(∀b∈n,0<b/\b<1000)->d=.ae (bb (mS x n))->G):G:=
 nL h λ a b e h=>nV h λ x E h=>HW h λ bs s h=>b3 h λ n W h=>bN h λ j h=>c x n (L e (L E (L s (L (yb W) rfl)))) (b8 (bo j).1) (λ b r=>have q:=bo (b9.mp (bo j).2 b r);⟨cg.mp q.1,cg.mp q.2⟩) (ak h).symm
def CG(F:H D->U D)(x z:D):U D:=(cp .Eq z (.aD [])).bind λ c=>match c with|true=>B (.ae [])|false=>((cQ [(fh z (.int 0)).bind λ b=>aI .Mod x b]).bind λ xs=>a8 (dc xs) (B (.ae xs))).bind λ a=>((cQ [(fh z (.int 0)).bind λ b=>aI .FloorDiv x b,jq z (.int 1) .none .none]).bind F).bind λ b=>aI .Add a b
theorem ajB(F:H D->U D)(a b:D):kc (hb [("_law_figures",F)]) (aY 30) [a,b]=CG F a b:=by lk
theorem Jb{a b:J}(h:0<b):aI .Mod (.int a) (.int b)=B (.int (a% b:J)):=by show a8 _ _=_;rw[(show((b:ah)==0)=aj by simp;exact hM ‹_›),zQ _ (m3 b)];rfl
theorem Jc{a b:J}(h:0<b)(j:b<2^64):aI .FloorDiv (.int a) (.int b)=B (.int (a/b:J)):=by
 show a8 _ _=_;obtain e:=ro (apb.mpr (hM h));obtain E:ts a b=false:=by
  dsimp only[ts];simp only[e];obtain this:(b:ah).natAbs.log2<64:=by simp[Int.natAbs_natCast];exact(K9 (hM h)).mpr j
  rw[l2 (by lia)];rfl
 simp only[e,E,zc _ (m3 b)];rfl
theorem Vc:∀(x:J)(n:H J),O (mS x n)=O n
 |_,[]=>rfl|x,b::bs=>aM (· +1) (Vc _ bs)theorem ajC(F:H D->U D)(x:J):CG F (.int x) (.aD (bb []))=B (.ae []):=rfl
theorem ajD{F:H D->U D}(h:0<b)(j:b<1000)(z:bs.length<1000)(G:F [.int (x/b:J),.aD (bb bs)]=B (.ae (bb (mS (x/b) bs)))):CG F (.int x) (.aD (bb (b::bs)))=B (.ae (bb (mS x (b::bs)))):=by
 obtain it:fh (.aD _) (.int 0)=B _:=by
  show uh _ _=_;obtain s:v9 0 (O (bb (b::bs)))=B 0:=by delta v9 bb;simp
  unfold uh;exact L s rfl
 obtain m:jq (.aD _) (.int 1) .none .none=B _:=by
  show a8 _ _=_;obtain f:dc (bb (b::bs))=true:=by delta dc bb;simp;lia
  rw[f,(show decide (1<=(O _:ah))=S by unfold bb;simp;exact(Z.leB_iff 1 _).mp rfl)];rfl
 unfold CG;refine L it (L m ?_);show((cQ [aI .Mod (.int x) (.int b)]).bind _).bind _=_;refine L (Jb h) ?_;show((cQ [aI .FloorDiv (.int x) (.int b),B _]).bind F).bind _=_;refine L (Jc h (by lia)) ?_;show(F [.int _,.aD _]).bind _=_;refine L G ?_;show a8 _ _=_;obtain f:ml (1+O (bb (mS _ bs)))=true:=by delta ml bb;simp[gh,Vc,DL];lia
 exact L (f ..) rfl
theorem Jd(ms:H J):mK (bb ms)=B ms:=by induction ms with|nil=>rfl|cons m ms i=>show(mK (bb ms)).map _=_;rw[i];rfl
theorem Je(h:n.length<=k)(j:(n.all λ b=>bE 0 b&&bE b 1000)=S):lO k [.int (x:J),.aD (bb n)]=B (.ae (bb (mS x n))):=by show(mK _).bind _=_;exact L (Jd ..) (eh (bF.mpr ⟨dD h,j⟩))
theorem CH(G:gp g):∀(k n:J),k<500->1<=n->cK g 330 (n+1+k) (cx (lO k))
 |0,n,_,V=>by refine kS G (ct:=d4 []) V (hJ (by simp)) (P:=hb []) (mQ (by simp)) rfl λ ds d e=>(Vb e λ x N j5 h u w=>?_);subst j5;subst w;refine L (D2.mp (Nat.eq_zero_of_le_zero h)) ?_;lk
 |k+1,n,o,V=>by
  refine kS G (ct:=d4 [(330,cx (lO k))]) (by lia) (hJ λ p v=>?_) (P:=hb [("_law_figures",lO k)]) (mQ λ p v=>?_) rfl λ ds d e=>?_
  ·rw[ek.mp v];exact(CH G k n (ik ‹_›) V)
  ·rw[ek.mp v];exact⟨330,rfl,rfl⟩
  ·refine Vb e λ x N W h j i=>?_
   subst W;subst i;apply Y (ajB ..);induction N with|nil=>exact ajC _ _|cons b bs=>obtain⟨q1,q⟩:=j b cV;exact ajD q1 q (eo (an1 h) (bA (ik o) (by decide))) (Je (Nat.le_of_succ_le_succ h) (b9.mpr λ c A=>have r:=j c (c7 _ A);bF.mpr ⟨cg.mpr r.1,cg.mpr r.2⟩))noncomputable def yz:H Nat:=[4,2,3,4,8,256,256,256]def ajE(k:J):hI:=hb [("_law_figures",lO k)]noncomputable def Vd(x a b c d e f g h:D):cz:=[("third",h),("second",g),("first",f),("place",e),("spot",d),("voter",c),("turned",b),("kind",a),("x",x)]
theorem ajF(x a b c d e f g h:D)(F:H D->U D)(G:F [x,.aD (bb yz)]=B (.ae [a,b,c,d,e,f,g,h])):
  kc (hb [("_law_figures",F)]) (aY 31) [x]=jz (hb [("_law_figures",F)]) 30 (bz (aY 31)) 59 (Vd x a b c d e f g h) ((bP (aY 31)).drop 1) λ u=>B .none:=by
 simp only[(show kc (hb [("_law_figures",F)]) (aY 31) [x]=(F [x,.aD (bb yz)]).bind λ d=>(hE d 8).bind λ ds=>pj (bz (aY 31)) ([("kind" :ai),"turned","voter","spot","place","first","second","third"].map λ n=>LO n ⟨0,0,0,0⟩) ds [("x",x)] λ pr=>jz (hb [("_law_figures",F)]) 30 (bz (aY 31)) 59 pr ((bP (aY 31)).drop 1) λ u=>B .none by lk),G];lk
def ajG(only s p lamp:D):U D:=((cp .Eq lamp s).bind λ c=>match c with
 |true=>aI .LShift (.int 1) p|false=>B (.int 0)).bind λ b=>aI .BitXor only b
def ajH(k v f s t G M:D):U D:=((cQ [B (.ae [f,s,t]),B G,(jq M v .none .none).bind λ a=>(jq M .none v .none).bind λ b=>aI .Add a b,B (.ae [f,f,f])]).bind λ xs=>a8 (dc xs) (B (.aD xs))).bind λ a=>fh a k
def ajI(u p f:D):U D:=(cQ [aI .Mult (.int 255) u,(aI .Mod p (.int 2)).bind λ b=>aI .Mult (.int 255) b,B f]).bind λ xs=>a8 (dc xs) (B (.ae xs))def Ve(k u v sp p f s t:D):U D:=((fh (.aD [.int 170,.int 204,.int 240]) v).bind λ a=>(aI .Mult (.int 255) u).bind λ b=>aI .BitXor a b).bind λ only=>((jC (ajG only sp p) [.int 0,.int 1,.int 2]).map D.ae).bind λ G=>(ajI u p f).bind λ M=>ajH k v f s t G M
theorem ajJ(F:H D->U D)(x k u v sp p f s t:D):(jz (hb [("_law_figures",F)]) 30 (bz (aY 31)) 59 (Vd x k u v sp p f s t) ((bP (aY 31)).drop 1) λ w=>B .none)=Ve k u v sp p f s t:=by lk
noncomputable def ajK(v u:J):Nat:=Nat.xor (match v with|0=>170|1=>204|_=>240) (255*u)noncomputable def Vf(u p f:J):H Nat:=[255*u,255*(p% 2),f]def CI(k u v sp p f s t:J):H Nat:=match k with|0=>[f,s,t]|1=>(aw 3).map λ lamp=>Nat.xor (ajK v u) (match aL lamp sp with|true=>2^p|false=>0)|2=>(Vf u p f).drop v++(Vf u p f).take v|_=>[f,f,f]theorem ajL(f s t:J):bq (aw 4) (λ k=>bq (aw 2) λ u=>bq (aw 3) λ v=>bq (aw 4) λ sp=>bq (aw 8) λ p=>Ve (.int (k:J)) (.int (u:J)) (.int (v:J)) (.int (sp:J)) (.int (p:J)) (.int (f:J)) (.int (s:J)) (.int (t:J)))=br (aw 4) λ k=>br (aw 2) λ u=>br (aw 3) λ v=>br (aw 4) λ sp=>br (aw 8) λ p=>B (.ae (bb (CI k u v sp p f s t))):=by lk
def yA(x:J):H Nat:=match mS x yz with|[k,u,v,sp,p,f,s,t]=>CI k u v sp p f s t|_=>[]def CJ(ds:H D):U D:=one ds λ a=>mG a λ x=>B (.ae (bb (yA x)))
theorem Vg(x:J){G:Prop}(K:∀k u v sp p f s t,mS x yz=[k,u,v,sp,p,f,s,t]->k<4->u<2->v<3->sp<4->p<8->f<256->s<256->t<256->G):G:=
 K _ _ _ _ _ _ _ _ rfl (dN _ (by decide)) (dN _ (by decide)) (dN _ (by decide)) (dN _ (by decide)) (dN _ (by decide)) (dN _ (by decide)) (dN _ (by decide)) (dN _ (by decide))
theorem ajM(G:gp g)(n:J)(V:1<=n):cK g 335 (n+10) (cx CJ):=by
 refine kS G (ct:=d4 [(330,cx (lO 8))]) (fp _) (hJ λ p h=>?_) (P:=ajE 8) (mQ λ p h=>?_) rfl λ ds d e=>?_
 ·rw[ek.mp h];exact CH G 8 n (i_ ..) V
 ·rw[ek.mp h];exact⟨330,rfl,rfl⟩
 ·refine j4 e λ a E e=>nV e λ x i e=>?_
  subst E i;refine ax (ak e) (Vg x λ k u v sp j f s t e W l w I Q z z z=>?_);obtain K:lO 8 [.int x,.aD (bb yz)]=B (.ae [.int k,.int u,.int v,.int sp,.int j,.int f,.int s,.int t]):=by rw[Je (by decide) rfl,e];rfl
  show kc (hb [("_law_figures",lO 8)]) _ [.int x]=_;rw[ajF _ _ _ _ _ _ _ _ _ _ K,ajJ];unfold yA;exact L e (bc (bc (bc (bc (bc (ajL f s t) (a4.mpr W)) (a4.mpr l)) (a4.mpr w)) (a4.mpr I)) (a4.mpr Q))def Vh(r p:D):U D:=(((aI .RShift r p).bind λ a=>aI .BitAnd a (.int 1)).bind λ b=>aI .Mult (.int 2) b).bind λ a=>aI .Sub a (.int 1)def Vi(m p:D):U D:=(((aI .BitAnd p m).bind λ b=>fh (.aD [.int 0,.int 1,.int 1,.int 0,.int 1,.int 0,.int 0,.int 1]) b).bind λ b=>aI .Mult (.int 2) b).bind λ b=>aI .Sub (.int 1) b
def Jf(r m p:D):U D:=(Vh r p).bind λ a=>(Vi m p).bind λ b=>aI .Mult a b
def Vj(r m:D):U D:=(cQ [(jC (Jf r m) (pk 0 8)).map D.ae]).bind (f9 kJ)def Vk(r:D):U D:=(jC (Vj r) (pk 0 8)).map D.ae
theorem ajN(a:D):kc P0 (aY 37) [a]=Vk a:=by lk
noncomputable def rQ(n:J):Bool:=match n with|1|2|4|7=>S|_=>aj
noncomputable def jj(b:aF):Int:=match b with|true=>1|false=> -1
def gm(r m:J):Int:=(aw 8).foldr (λ p s=>jj (vW r p)*jj (!rQ (zq p m))+s) 0
def Jg(r:J):H Int:=(aw 8).map (gm r)def CK(ds:H D):U D:=sL (I9 λ r=>a8 (bE r 256) (B (.ae ((Jg r).map D.int)))) ds
def Vl:hI:=hb [("rgb_to_hls",gr yw),("hls_to_rgb",gr vj),("rgb_to_hsv",gr yx),("hsv_to_rgb",gr yy)]
noncomputable def Jh:J->D
 |1=>.int 0|3=>.int 1048576|2=>.int 2097152|6=>.int 3145728|4=>.int 4194304|5=>.int 5242880|_=>.none
theorem ajO:bq (aw 8) (λ c=>bq (aw 5) λ l=>bq [1,2,3,4] λ u=>kc Vl (aY 36) [.int (c:J),.int (l:J),.int (u:J)])=br (aw 8) λ c=>br (aw 5) λ w=>br [1,2,3,4] λ w=>B (Jh c):=by lk
def Ji(ds:H D):U D:=sL (CF λ c l u=>a8 (bE c 8&&(bE l 5&&(aZ 1 u&&aZ u 4))) (B (Jh c))) ds
def Jj(ds:H D):U D:=sL (U_ λ p l u t=>a8 (bE p 48&&(!aL (p% 8) 4&&(bE l 5&&(aZ 1 u&&(aZ u 4&&bE t 4))))) (B (CD p l u))) ds
theorem four(h:aZ 1 u=S)(j:aZ u 4=S):u∈[1,2,3,4]:=by
 rcases u with _|_|_|_|_|u
 ·exact bw h
 ·decide
 ·decide
 ·decide
 ·decide
 ·exact bw j
theorem Vm(h:gr f ds=B d){GG:Prop}(k:∀a b c,ds=[a,b,c]->f a b c=B d->GG):GG:=by
 rcases ds with _|⟨a,_|⟨b,_|⟨c,_|⟨_,_⟩⟩⟩⟩
 ·exact nn h
 ·exact nn h
 ·exact nn h
 ·exact k a b c rfl h
 ·exact nn h
section
variable {g:bX}(G:gp g)
include G
theorem CL{st:bx}(V:1<=n)(M:wD.lookup a=B (.plain .plain,st))(e:∀a b c,kc P0 st [a,b,c]=f a b c):cK g a (n+1) (cx (gr f)):=
 kS G V (ct:=d4 []) (hJ (by simp)) (P:=P0) (mQ (by simp)) M λ ds d h=>by refine Vm h λ a b c w h=>L w ?_;rw[e];exact h
theorem ajP(h:1<=n):cK g 45 (n+1) (cx (gr yw)):=CL G h rfl (λ a b c=>rfl)theorem call_v(h:1<=n):cK g 59 (n+1) (cx (gr U3)):=CL G h rfl (λ a b c=>rfl)theorem ajQ(h:1<=n):cK g 66 (n+1) (cx (gr yx)):=CL G h rfl (λ a b c=>rfl)theorem ajR(h:1<=n):cK g 73 (n+1) (cx (gr yy)):=CL G h rfl (λ a b c=>rfl)
theorem ajS(V:1<=n):cK g 52 (n+2) (cx (gr vj)):=
 kS G (fp _) (ct:=d4 [(59,cx qK)]) (hJ λ p u=>L (ek.mp u) (call_v G V)) (P:=P1) (mQ λ p u=>L (ek.mp u) ⟨59,rfl,rfl⟩) rfl λ ds d h=>by refine Vm h λ a b c w h=>L w ?_;rw[ajt];exact h
def Vn:H (ao×bV):=[(45,cx (gr yw)),(52,cx (gr vj)),(66,cx (gr yx)),(73,cx (gr yy))]
theorem Vo(h:1<=n):qx g (n+2) (d4 Vn):=
 hJ (AllP.mem (.cons (ajP G (by lia)) (.cons (ajS G h) (.cons (ajQ G (by lia)) (.cons (ajR G (by lia)) .nil)))))
theorem Vp:i4 Vl (eG (d4 Vn)):=
 mQ (AllP.mem (.cons ⟨45,rfl,rfl⟩ (.cons ⟨52,rfl,rfl⟩ (.cons ⟨66,rfl,rfl⟩ (.cons ⟨73,rfl,rfl⟩ .nil)))))theorem ajT(n:J)(V:1<=n):cK g 360 (n+3) (cx Ji):=by refine kS G (fp _) (Vo G V) (Vp G) rfl λ ds d e=>(vl e λ w W E=>L W (Ja E λ c l u o f=>L o ?_));obtain⟨h,j⟩:=dn f;exact ax (ak j) (cq (bF.mp h) λ a h=>cq (bF.mp h) λ A h=>cq (bF.mp h) λ p X=>bc (bc (bc ajO (a4.mpr (cg.mp a))) (a4.mpr (cg.mp A))) (four p X))theorem ajU(n:J)(V:1<=n):cK g 355 (n+3) (cx Jj):=by refine kS G (apc V 2) (Vo G V) (Vp G) rfl λ ds d e=>(vl e λ w W E=>L W (ajA E λ p l u t R f=>L R ?_));obtain⟨h,j⟩:=dn f;refine ax (ak j) ?_;obtain⟨a,h⟩:=bF.mp h;obtain⟨A,h⟩:=bF.mp h;obtain⟨q,h⟩:=bF.mp h;obtain⟨X,h⟩:=bF.mp h;obtain⟨k,v⟩:=bF.mp h;refine Y (litS_eq ..) (ajz ?_ (cg.mp q) (four X k) (cg.mp v));unfold places;rw[Ez];exact⟨a4.mpr (cg.mp a),A⟩
end
noncomputable abbrev ey:Pos:=⟨0,0,0,0⟩def d8:Stmt:=(bP (aY 15)).getD 1 (.Pass ey)def eP:Stmt:=(bP (aY 16)).getD 0 (.Pass ey)def dx:bx->PySem.Expr:=hz 0
def qA(s:bx):Pos:=(jg s).p
def stI(k:J):Stmt:=(bP d8).getD k (.Pass ey)def mM(k:J):Stmt:=(bP eP).getD k (.Pass ey)def ic:aJ->PySem.Expr:=iu 0
def lI:aJ->PySem.Expr:=iu 1
def Iu(e:aJ):Pos:=(fI e).p
def j_:PySem.Expr:=dx (mM 3)theorem ahw:bP eP=(bP eP).take 3++ [.Return (B (.BinOp (.BinOp (ic (ic j_)) .LShift (lI (ic j_)) (Iu (ic j_))) .Add (lI j_) (Iu j_))) (qA (mM 3))]:=rfl
noncomputable def yh:H Str:=["x","L","R"]noncomputable def yi:H Str:=["L","R"]
def ahx(ck:az)(f:J)(C:H V->Ev V)(ρ:az):cy:=
 b5 (b4 bI bI 30 (bz d8) 30 ρ ((bP d8).take 5)) λ ρ=>b5 (kK (ib (bz d8) ck f C ρ (dx (stI 5))) ρ) λ ρ=>b5 (kK (ib (bz d8) ck f C ρ (dx (stI 6))) ρ) oZ
def ahy(ck:az)(f:J)(C:H V->Ev V)(ρ:az):cy:=
 b5 (b4 bI bI 30 (bz eP) 30 ρ ((bP eP).take 3)) λ ρ=>b5 (ly (kG .Add (kG .LShift (ib (bz eP) ck f C ρ (ic (ic j_))) (ba bI 30 (bz eP) ρ (lI (ic j_))).1) (ib (bz eP) ck f C ρ (lI j_))) ρ) oZ
def Ca(n:H ai)(m:az->cy)(ck:az)(as:H V):Ev V:=match(O as)==O n with|true=>ia .plain (m ((n.zip as).reverse++ck))|false=>.au
noncomputable def u4(ck:az)(f:J):J->H V->Ev V
 |0=>λ u=>.au|d+1=>Ca yh (ahx ck f (u4 ck f d)) ck
noncomputable def yj(ck:az)(f:J):J->H V->Ev V
 |0=>λ u=>.au|d+1=>Ca yi (ahy ck f (yj ck f d)) ck
theorem S1:∀(N:H (ai×l0))(k:J)(acc:H (ai×ao)),(N.all λ p=> !(p.2==.cell))=S->gA k N acc=acc
 |[],_,_,_=>rfl|(n,K)::r,k,acc,h=>by obtain⟨W,j⟩:=bF.mp h;dsimp only[gA];exact L (show(K==En)=aj by simpa using W) (S1 r k acc j)
theorem S2{st:bx}(F:lz g f fd (bP st))(G:fd.scope=bz st)(q:∀vs:H aq,O vs=N.length->rh fd ⟨vs,[]⟩=pure (N.zip vs))(A:(N.all (dU (bz st)))=S)(y:((bz st).names.all λ p=> !(p.2==.cell))=S)(Bq:Base g)
  (b:∀X e o ρ,(∀m,(bz st).names.lookup m=B .free->iB (e.kindOf m)=S/\e.cells.lookup m=fd.closure.lookup m)->dq g X (bz st) e n o->c9 g X o e ρ (fG (bP st) e) (m ρ)):
  B9 g f (n+1) (bz st) fd.closure ck (Ca N m ck):=by
 intro x ok vs as;unfold Ca;cases z:O as==O N with
 |false=>exact .au
 |true=>
  refine λ α σ s i af I t p=>Bl .plain F Bq ok (pre:=λ α h=>bU _ α h vs as/\r_ x _ fd.closure ck α h) (λ α σ s I p=>⟨.of_eq (q vs (by rw[p.1.length];simpa using z)),p.1.zip,L G p.2⟩) (L G (B4 A as)) (λ X e o v u u u c=>?_) α σ s i af I t p;obtain⟨l,rfl⟩:=v;refine b X _ o _ (λ m r=>⟨?_,?_⟩) (ax G c)
  ·simp[Bh,G,r];rfl
  ·show(gA _ fd.scope.names fd.closure).lookup m=_
   rw[G,S1 _ _ _ y]theorem Cb(st:bx)(ck:az)(h:(ck.all λ p=>(bz st).names.lookup p.1==B .free)=S):∀m v,ck.lookup m=B v->(bz st).names.lookup m=B .free:=λ m v e=>cI.mp (b9.mp h _ (nk e))
theorem S3(F:lz g f fd (bP d8))(I:fd.scope=bz d8)(q:∀vs:H aq,O vs=O yh->rh fd ⟨vs,[]⟩=pure (yh.zip vs))(Bq:Base g)(G:hh g ee)(s:ck.lookup (ep "inner")=B (.d (.obj f)))
  (h:(ck.all λ p=>(bz d8).names.lookup p.1==B .free)=S):∀d,(∀x,eW g x d->True)->B9 g f d (bz d8) fd.closure ck (u4 ck f d)
 |0,_=>λ u u u u=>.au|d+1,_=>by refine S2 F I q rfl rfl Bq λ X E W ρ A c=>L (show bP d8=(bP d8).take 5++ [.Expr (dx (stI 5)) (qA (stI 5)),.Expr (dx (stI 6)) (qA (stI 6))]from rfl) ?_;have t:∀ρ e,TE g X E ρ (bG e E) (ib (bz d8) ck f (u4 ck f d) ρ e):=λ ρ=>B_ G c.y c.cM (av F.there λ o a b=>(bh o fd ⟨a,b⟩)) s rfl (Cb d8 ck h) A (S3 F I q Bq G s h d λ u u=>trivial);exact S0 (lC (pb G 0) 30 30 bI d X W E ρ _ (pb G d) c) λ ρ=>(o1 (Bf c rfl (t ρ _)) λ ρ=>o1 (Bf c rfl (t ρ _)) λ ρ=>qf)
theorem S4(F:lz g f fd (bP eP))(I:fd.scope=bz eP)(q:∀vs:H aq,O vs=O yi->rh fd ⟨vs,[]⟩=pure (yi.zip vs))(Bq:Base g)(G:hh g ee)(s:ck.lookup (ep "inner")=B (.d (.obj f)))
  (h:(ck.all λ p=>(bz eP).names.lookup p.1==B .free)=S):∀d,(∀x,eW g x d->True)->B9 g f d (bz eP) fd.closure ck (yj ck f d)
 |0,_=>λ u u u u=>.au|d+1,_=>by refine S2 F I q rfl rfl Bq λ X e W ρ A c=>L ahw ?_;obtain t:=λ ρ=>B_ G c.y c.cM (av F.there λ o a b=>(bh o fd ⟨a,b⟩)) s rfl (Cb eP ck h) A (S4 F I q Bq G s h d λ u u=>trivial);refine S0 (lC (pb G 0) 30 30 bI d X W e ρ _ (pb G d) c) λ ρ=>(o1 (xx c (Ga c.y (Ga c.y (t ρ _) (f7 (pb G d) 30 _ ρ _ X e c.y c.cM).1) (t ρ _))) λ ρ=>qf)abbrev gq:=bz d8
abbrev hG:=bz eP
noncomputable def lJ(i:J)(n:ah)(f:J):az:=[("a_digits",.aH i),("n",.d (.int n)),("inner",.d (.obj f))]def hH(x aN R:ah)(i:J)(n:ah)(f:J):az:=("R",.d (.int R))::("L",.d (.int aN))::("x",.d (.int x))::lJ i n f
def yk:bx->H Stmt:=sB 0
def u5(e:aJ):H PySem.Expr:=(fI e).es.tail
theorem Iv(e:b5 m k σ=B q){G:Prop}(n:∀ρ V,m σ=B (.ok (.next,ρ),V)->k ρ V=B q->G)(s:∀F ρ V,F≠ .next->m σ=B (.ok (F,ρ),V)->(.ok (F,ρ),V)=q->G)(x:∀c as V,m σ=B (.exc c as,V)->(.exc c as,V)=q->G):G:=
 Ev.NR e (λ r V h e=>by
  obtain⟨F,ρ⟩:=r;rcases F with _|_|_|a
  ·exact n ρ V h e
  ·exact s .brk ρ V nofun h (ak e)
  ·exact s .cont ρ V nofun h (ak e)
  ·exact s (.ret a) ρ V nofun h (ak e)) x
theorem ahz(h:m σ=B (.ok (F,ρ),gO))(n:F≠ .next):b5 m k σ=B (.ok (F,ρ),gO):=by
 apply Y (aT h);rcases F with _|_|_|a
 ·exact aR rfl n
 all_goals rfl
theorem cS{st:bx}{σ af:aE}(h:b4 c C M s (N+2) ρ [st] σ=B (.ok (.next,ar),af)):b4 c C M s (N+2) ρ (st::rest) σ=b4 c C M s (N+1) ar rest af:=
 Iv h (λ T V W j=>have p:=bf (ak j);Y (aT W) ((bf (Res.ok.inj p.1)).2▸p.2▸rfl)) (λ F T V n W q=>aR (bf (Res.ok.inj (bf q).1)).1 n) λ c as V W q=>nomatch (bf q).1
theorem Iw{st:bx}{σ af:aE}(h:b4 c C M s (N+2) ρ [st] σ=B (.ok (.ret v,ar),af)):b4 c C M s (N+2) ρ (st::rest) σ=B (.ok (.ret v,ar),af):=
 Iv h (λ T V W j=>nomatch (bf (Res.ok.inj (bf (ak j)).1)).1) (λ F T V n W q=>ahz (Y W (aM B q)) nofun) λ c as V W q=>nomatch (bf q).1
theorem Iy{st:bx}{cl:b1}{as:H D}(h:b4 c C M s (N+2) ρ [st] σ=B (.exc cl as,af)):b4 c C M s (N+2) ρ (st::rest) σ=B (.exc cl as,af):=
 Iv h (λ T V W j=>nomatch (bf (ak j)).1) (λ F T V n W q=>nomatch (bf q).1) λ c as V W q=>jm (Y W (aM B q))
section
variable (x aN R n:ah)(i f:J)(σ:aE)theorem S5:(ba bI 30 gq (hH x aN R i n f) (dx (stI 0))).2 σ=B (.ok (aN+1==R),σ):=rfl
theorem ahA:b4 bI bI 30 gq 29 (hH x aN R i n f) (yk (stI 0)) σ=(b5 (((qv (.aH i) (.d (.int aN)) (.d (.int x))).bind λ u=>Ev.ret (hH x aN R i n f)).bind λ ar=>.ret (.next,ar)) λ ar=>b4 bI bI 30 gq 28 ar ((yk (stI 0)).drop 1)) σ:=rfl
theorem ahB(ρ:az):b4 bI bI 30 gq 28 ρ ((yk (stI 0)).drop 1) σ=B (.ok (.ret (.d .none),ρ),σ):=rfl
theorem S6:b4 bI bI 30 gq 30 (hH x aN R i n f) [stI 0] σ=(b5 (fL (ba bI 30 gq (hH x aN R i n f) (dx (stI 0))).2 (b4 bI bI 30 gq 29 (hH x aN R i n f) (yk (stI 0))) (b4 bI bI 30 gq 29 (hH x aN R i n f) [])) λ ar=>b4 bI bI 30 gq 29 ar []) σ:=rfl
theorem ahC:b4 bI bI 30 gq 29 (hH x aN R i n f) [stI 1] σ=B (.ok (.next,("mid",.d (.int ((aN+R).fdiv (2^1))))::hH x aN R i n f),σ):=rfl
theorem ahD(mid:ah):b4 bI bI 30 gq 28 (("mid",.d (.int mid))::hH x aN R i n f) [stI 2] σ=(b5 ((Ev.ofD (fW .Mult (.int (mid-aN)) (.int n))).bind λ a=>.ret (.next,("shift",a)::("mid",.d (.int mid))::hH x aN R i n f)) λ ar=>b4 bI bI 30 gq 27 ar []) σ:=rfl
theorem ahE(mid s:ah):b4 bI bI 30 gq 27 (("shift",.d (.int s))::("mid",.d (.int mid))::hH x aN R i n f) [stI 3] σ=(b5 ((Ev.ofD (fW .RShift (.int x) (.int s))).bind λ a=>.ret (.next,("upper",a)::("shift",.d (.int s))::("mid",.d (.int mid))::hH x aN R i n f)) λ ar=>b4 bI bI 30 gq 26 ar []) σ:=rfl
theorem ahF(mid s u:ah):b4 bI bI 30 gq 26 (("upper",.d (.int u))::("shift",.d (.int s))::("mid",.d (.int mid))::hH x aN R i n f) [stI 4] σ=(b5 (((Ev.ofD (fW .LShift (.int u) (.int s))).bind λ b=>(Ev.read b).bind λ D=>Ev.ofD (fW .BitXor (.int x) D)).bind λ a=>.ret (.next,("lower",a)::("upper",.d (.int u))::("shift",.d (.int s))::("mid",.d (.int mid))::hH x aN R i n f)) λ ar=>b4 bI bI 30 gq 25 ar []) σ:=rfl
theorem S7:(bP d8).take 5=[stI 0,stI 1,stI 2,stI 3,stI 4]:=rfl
end
theorem u6(k:J):ja (k:ah)=aQ k:=by
 delta ja aQ;obtain this:((k:ah)==0)=(k==0):=by induction k with|zero=>rfl|succ k=>exact L (show((↑(k+1):ah)==0)=aj by simp;exact bi_ine.mp rfl) rfl
 exact L this rfl
theorem u7(h:k<2^b):aQ k<=b:=by
 unfold aQ;split
 ·exact Zl _
 ·next e=>exact(K9 (by simpa using e)).mpr h
theorem Cc(k:J):k<2^aQ k:=by
 unfold aQ;split
 ·next h0=>have:=by simpa using h0
           refine L this ?_;decide
 ·next h0=>exact anr
theorem sm(a b:J):Int.fdiv (a:ah) (b:ah)=((a/b:J):ah):=L (zc _ (m3 b)) rfl
theorem ahG(x s:J):x&&&(x/2^s*2^s)=x/2^s*2^s:=by
 apply Nat.eq_of_testBit_eq;intro i;simp only[Nat.testBit_and,Nat.testBit_mul_two_pow,aoU];by_cases h:s<=i
 ·simp[h]
 ·simp[h]theorem ahH(x s:J):Builtin.bitXor (x:ah) ((x/2^s*2^s:J):ah)=((x% 2^s:J):ah):=by rw[bitXor_and];obtain e:D6 x (x/2^s*2^s:J)=((x&&&(x/2^s*2^s)):ah):=rfl;simp only[e,ahG];have h:=Nat.div_add_mod' x (2^s);generalize x/2^s*2^s=y at*;generalize x% 2^s=r at*;refine ax h ?_;lia
theorem pd(n:J):∀(c x:J),O (dB n c x)=c
 |0,_=>rfl|c+1,x=>aM _ (pd n c _)
theorem S8(n:J):∀(c C x:J),dB n (c+C) x=dB n c (x% 2^(c*n))++dB n C (x/2^(c*n))
 |0,C,x=>by rw[hO,wg,DN,zN];rfl|c+1,C,x=>by refine L (show c+1+C=(c+C)+1 by exact zi c 1 C) (?_:_::dB n _ _=_::(dB n c _++dB n C _));simp only[S8 n c C _,(show 2^((c+1)*n)=2^n*2^(c*n) by rw[<-kk];rw[pP];lia),anx,anw,ot]def jt(x aN R mid d3 up lo:ah)(i:J)(n:ah)(f:J):az:=("lower",.d (.int lo))::("upper",.d (.int up))::("shift",.d (.int d3))::("mid",.d (.int mid))::hH x aN R i n f
section
variable (x aN R mid d3 up lo n:ah)(i f:J)(σ:aE)theorem S9:agree (lJ i n f) (jt x aN R mid d3 up lo i n f)=true:=by simp only[(show agree (lJ i n f) (jt x aN R mid d3 up lo i n f)=(j9 (.aH i) (.aH i)&&(j9 (.d (.int n)) (.d (.int n))&&(j9 (.d (.obj f)) (.d (.obj f))&&S))) by lk),qz];rfl
theorem ahI(C:H V->Ev V)(ck ρ:az):ib gq ck f C ρ (dx (stI 5))=(match agree ck ρ&&S with
  |true=>(cE ((u5 (dx (stI 5))).map λ e=>(ba bI 30 gq ρ e).1)).bind C|false=>.au):=rfl
theorem ahJ(C:H V->Ev V)(ck ρ:az):ib gq ck f C ρ (dx (stI 6))=(match agree ck ρ&&S with
  |true=>(cE ((u5 (dx (stI 6))).map λ e=>(ba bI 30 gq ρ e).1)).bind C|false=>.au):=rfl
theorem bind_some{e p:Type}{m:Ev e}{k:e->Ev p}{σ af:aE}{a:e}(h:m σ=B (.ok a,af)):m.bind k σ=k a af:=by unfold Ev.bind;rw[h]theorem u9(A:ib s ck f C ρ e=(match agree ck ρ&&S with|true=>(cE m).bind C|false=>.au))(c:agree ck ρ=S)(h:cE m σ=B (.ok as,σ)):ib s ck f C ρ e σ=C as σ:=by rw[A,c];exact bind_some h
theorem ahK(C:H V->Ev V):ib gq (lJ i n f) f C (jt x aN R mid d3 up lo i n f) (dx (stI 5)) σ=C [.d (.int lo),.d (.int aN),.d (.int mid)] σ:=u9 f σ (ahI ..) (S9 ..) rfl
theorem ahL(C:H V->Ev V):ib gq (lJ i n f) f C (jt x aN R mid d3 up lo i n f) (dx (stI 6)) σ=C [.d (.int up),.d (.int mid),.d (.int R)] σ:=u9 f σ (ahJ ..) (S9 ..) rfl
theorem pe{σ af:aE}(h:m σ=B (.ok (.next,ρ),af)):b5 m k σ=k ρ af:=by unfold b5;rw[bind_some h]theorem qB{σ af:aE}(h:m σ=B (.ok (.ret v,ρ),af)):b5 m k σ=B (.ok (.ret v,ρ),af):=by unfold b5;rw[bind_some h];rfl
theorem Cd{e:Type}{a b:Ev e}{σ af:aE}(h:t σ=B (.ok S,af)):fL t a b σ=a af:=by unfold fL;rw[bind_some h]theorem Iz{e:Type}{a b:Ev e}{σ af:aE}(h:t σ=B (.ok aj,af)):fL t a b σ=b af:=by unfold fL;rw[bind_some h]
theorem take_one(h:(aN+1==R)=S)(b:qv (.aH i) (.d (.int aN)) (.d (.int x)) σ=B (.ok (),af)):b4 bI bI 30 gq 30 (hH x aN R i n f) ((bP d8).take 5) σ=B (.ok (.ret (.d .none),hH x aN R i n f),af):=by
 refine L S7 (Iw (Y (S6 ..) ?_));rw[qB];rw[Cd (Y (S5 ..) (L h rfl)),ahA,pe (af:=af)]
 ·exact ahB ..
 ·rw[bind_some (af:=af)]
  ·rfl
  ·exact L (bind_some b) rfl
end
theorem S_(m k:J)(h:(m+k)/2=aN):((m:ah)+(k:J)).fdiv (2^1)=(aN:J):=Y (sm _ 2) (aM _ h)theorem Ta(a b:J):((a+b:J):ah)- a=b:=by rw[KZ,KG,Int.add_sub_cancel]theorem Tb{a b:J}(h:b<2^64):fW .Mult (.int a) (.int b)=B (.int (a*b:J)):=by show a8 _ _=_;simp[u6,u6,dD (u7 h),Zz];rfl
theorem ahM{a s:J} :fW .RShift (.int a) (.int s)=B (.int (a/2^s:J)):=
 aM (λ q=>B _) (Y (aM _ rfl) (sm a _))theorem IA(h:aQ a+s<=1000000):fW .LShift (.int a) (.int s)=B (.int (a*2^s:J)):=by show a8 _ _=_;exact L (u6 ..) (L (gJ (vI.mpr h)) rfl)theorem ahN{x s:J} :fW .BitXor (.int x) (.int (x/2^s*2^s:J))=B (.int (x% 2^s:J)):=aM (λ q=>B _) (ahH x s)
theorem Tc(C:c≠1)(h:1<=c)(j:c<=2*P){G:Prop}(k:∀a b,c=a+b->1<=a->1<=b->a<=P->b<=P->(∀aN,(aN+(aN+(a+b)))/2=aN+a)->G):G:=
 have e:=aoV (aoW c 2)
 k _ _ e.symm (DJ (Nat.lt_of_le_of_ne h (rf C)) (by decide)) (anN (Nat.div_lt_self h (by decide))) (Nat.div_le_of_le_mul j) (by lia) λ aN=>by rw[e,<-m2,<-Nat.two_mul,YF (by decide)]
theorem xB(aN:J)(c:1<=a)(q:1<=b):((aN:ah)+1==((aN+(a+b):J):ah))=false:=
 ro λ h=>aR (aot (aoX h)) (il (vN c q))
theorem ahO(x aN a b n i f:J)(σ:aE)(h:1<=a)(r:1<=b)(e:(aN+(aN+(a+b)))/2=aN+a)(V:n<2^64)(K:aQ (x/2^(a*n))+a*n<=1000000):
  b4 bI bI 30 gq 30 (hH x aN (aN+(a+b):J) i n f) ((bP d8).take 5) σ=B (.ok (.next,jt x aN (aN+(a+b):J) (aN+a:J) (a*n:J) (x/2^(a*n):J) (x% 2^(a*n):J) i n f),σ):=by
 dsimp only[S7];rw[cS (Y (S6 ..) (Y (pe (Y (Iz (Y (S5 ..) (L (xB aN h r) rfl))) rfl)) rfl)),cS (Y (ahC ..) (L (S_ _ _ e) rfl)),cS (Y (ahD ..) (L (Ta ..) (L (Tb V) rfl))),cS (Y (ahE ..) (L (ahM ..) rfl))];exact Y (ahF ..) (L (IA K) (Y (aM (λ q=>b5 ((Ev.ofD q).bind _) _ σ) ahN) rfl))
theorem Td(M:F=.ret (.d .none)\/F=.next)(h:m σ=B (.ok (F,ρ),g))(z:g.length=σ.length)(E:g.all (bk (O σ))=S):ia .plain m σ=B (.ok (.d .none),g):=by
 rcases M with rfl|rfl
 ·exact Y (Bi h z (z▸E)) Bj
 ·exact Y (Bi h z (z▸E)) Bk
theorem IB{σ:aE}(h:σ.all (bk (O σ))=S):(σ.set i (.ae xs)).all (bk (O σ))=true:=by
 rw[b9]at h ⊢;intro m e;rcases List.mem_or_eq_of_mem_set e with W|rfl
 ·exact h m W
 ·rfl
noncomputable def put(xs y:H D)(aN:J):H D:=xs.take aN++(y++xs.drop (aN+O y))theorem ahP(h:aN+y.length<=O xs):O (put xs y aN)=O xs:=by unfold put;simp[e2,e2,Er,aoY,zG (bA _ h),<-m2,aoV h]theorem ahQ(h:aN<=O xs):put (put xs A aN) Bq (aN+O A)=put xs (A++Bq) aN:=by unfold put;rw[<-eb _ A,e2,<-m2,(show aN+O A=O (xs.take aN++A) by rw[e2,Er,zG h]),aoZ,List.drop_length_add_append,YG,eb,eb]
theorem Te(n i f:J){xs:H D}(E:σ.all (bk (O σ))=S)(s:σ[i]?=B (.ae xs))(h:aN+1<=O xs)(q:O xs<=32):
  u4 (lJ i n f) f (d+1) [.d (.int x),.d (.int aN),.d (.int (aN+1:J))] σ=B (.ok (.d .none),σ.set i (.ae (put xs [.int x] aN))):=L (show put xs [.int x] aN=xs.set aN _ from(Y List.set_eq_take_append_cons_drop (bC h)).symm) (Y (pI rfl σ) (Td (.inl rfl) (qB (take_one _ _ _ _ _ _ _ (oj _) (Y (rT s) (eh (L (cg.mpr h) (L (dD (bA q (by decide))) rfl)))))) (zB ..) (IB E)))theorem Tf(h:x<2^(1*n)):dB n 1 x=[.int x]:=by rw[y_]at h;show[D.int _]=_;exact L (zt h) rfl
theorem Tg(h:aQ x<=b*n)(m:a+b<=32)(V:n<=1000):aQ x+a*n<=1000000:=
 bA (pF h _) (bA (pP b a n▸Nat.mul_le_mul (iO b a▸m) V) (by decide))
theorem IC(n i f:J)(k:n<=1000):∀(d x aN c:J)(σ:aE)(xs:H D),σ.all (bk (O σ))=S->σ[i]?=B (.ae xs)->aN+c<=O xs->O xs<=32->1<=c->c<=2^d->x<2^(c*n)->
  u4 (lJ i n f) f (d+1) [.d (.int x),.d (.int aN),.d (.int (aN+c:J))] σ=B (.ok (.d .none),σ.set i (.ae (put xs (dB n c x) aN)))
 |0,x,aN,c,σ,xs,E,s,h,q,G,y,K=>by obtain rfl:=D0 y G;rw[Tf K];exact Te n i f E s h q
 |d+1,x,aN,c,σ,xs,E,s,h,q,G,y,K=>by
  by_cases C:c=1
  ·subst C
   rw[Tf K];exact Te n i f E s h q
  refine Tc C G (ax YD y) λ a b e l T P Q r=>?_;subst e;obtain j:=((td (kZ _)).mpr (by rw[<-kk,<-pP,iO b];exact K));obtain o:=pd n a _;obtain m:=bA (bA (i_ ..) h) q;rw[<-m2]at h;obtain g:=bA (gK ..) h;obtain z:=ahP (o.symm▸g);obtain I:=IC n i f k d _ _ b _ _ (L zB (IB E)) (Y6 (oR s)) (ax z.symm h) (ax z.symm q) T Q j;obtain p:=ahQ (bA (gK aN a) g);rw[o,<-S8]at p;rw[Y8,p,m2]at I;exact Y rfl (Td (.inr rfl) (Y (pe (ahO x aN a b n i f σ l T (r aN) (gg k (by decide)) (Tg (u7 j) m k)))
   (Y (pe (by unfold kK;rw[bind_some (Y (ahK ..) (IC n i f k d _ aN a σ xs E s g q l P (dN _ (kZ _))))];rfl))
   (Y (pe (by unfold kK;rw[bind_some ((ahL ..).trans I)];rfl)) rfl))) (zB ..) (IB E))noncomputable def lK(bO:V)(n:ah)(f:J):az:=[("digits",bO),("n",.d (.int n)),("inner",.d (.obj f))]def kN(aN R:ah)(bO:V)(n:ah)(f:J):az:=("R",.d (.int R))::("L",.d (.int aN))::lK bO n f
def dP(aN R mid d3:ah)(bO:V)(n:ah)(f:J):az:=("shift",.d (.int d3))::("mid",.d (.int mid))::kN aN R bO n f
section
variable (aN R mid d3 n:ah)(bO:V)(f:J)(σ:aE)theorem Th:(ba bI 30 hG (kN aN R bO n f) (dx (mM 0))).2 σ=B (.ok (aN+1==R),σ):=rfl
theorem Ti:b4 bI bI 30 hG 30 (kN aN R bO n f) [mM 0] σ=(b5 (fL (ba bI 30 hG (kN aN R bO n f) (dx (mM 0))).2 (b4 bI bI 30 hG 29 (kN aN R bO n f) (yk (mM 0))) (b4 bI bI 30 hG 29 (kN aN R bO n f) [])) λ ar=>b4 bI bI 30 hG 29 ar []) σ:=rfl
theorem ahR:b4 bI bI 30 hG 29 (kN aN R bO n f) [mM 1] σ=B (.ok (.next,("mid",.d (.int ((aN+R).fdiv (2^1))))::kN aN R bO n f),σ):=rfl
theorem ahS:b4 bI bI 30 hG 28 (("mid",.d (.int mid))::kN aN R bO n f) [mM 2] σ=(b5 ((Ev.ofD (fW .Mult (.int (mid-aN)) (.int n))).bind λ a=>.ret (.next,("shift",a)::("mid",.d (.int mid))::kN aN R bO n f)) λ ar=>b4 bI bI 30 hG 27 ar []) σ:=rfl
theorem Tj:(bP eP).take 3=[mM 0,mM 1,mM 2]:=rfl
theorem Tn:agree (lK bO n f) (dP aN R mid d3 bO n f)=true:=by simp only[(show agree (lK bO n f) (dP aN R mid d3 bO n f)=(j9 bO bO&&(j9 (.d (.int n)) (.d (.int n))&&(j9 (.d (.obj f)) (.d (.obj f))&&S))) by lk),qz];rfl
theorem ahT(C:H V->Ev V)(ck ρ:az):ib hG ck f C ρ (ic (ic j_))=(match agree ck ρ&&S with
  |true=>(cE ((u5 (ic (ic j_))).map λ e=>(ba bI 30 hG ρ e).1)).bind C|false=>.au):=rfl
theorem ahU(C:H V->Ev V)(ck ρ:az):ib hG ck f C ρ (lI j_)=(match agree ck ρ&&S with
  |true=>(cE ((u5 (lI j_)).map λ e=>(ba bI 30 hG ρ e).1)).bind C|false=>.au):=rfl
theorem ahV(C:H V->Ev V):ib hG (lK bO n f) f C (dP aN R mid d3 bO n f) (ic (ic j_)) σ=C [.d (.int mid),.d (.int R)] σ:=u9 f σ (ahT ..) (Tn ..) rfl
theorem ahW(C:H V->Ev V):ib hG (lK bO n f) f C (dP aN R mid d3 bO n f) (lI j_) σ=C [.d (.int aN),.d (.int mid)] σ:=u9 f σ (ahU ..) (Tn ..) rfl
theorem ahX(h:(aN+1==R)=S)(b:lE bO (.d (.int aN)) σ=B (.ok a,af)):b4 bI bI 30 hG 30 (kN aN R bO n f) ((bP eP).take 3) σ=B (.ok (.ret a,kN aN R bO n f),af):=by refine L Tj (Iw (Y (Ti ..) ?_));rw[qB];rw[Cd (Y (Th ..) (L h rfl)),(show b4 bI bI 30 hG 29 _ _=(b5 (ly _ _) λ ar=>b4 bI bI 30 hG 28 ar [])from rfl),qB];unfold ly;exact L (bind_some b) rfl
theorem ahY{aN a b n:J}(h:1<=a)(q:1<=b)(e:(aN+(aN+(a+b)))/2=aN+a)(V:n<2^64):
  b4 bI bI 30 hG 30 (kN aN (aN+(a+b):J) bO n f) ((bP eP).take 3) σ=B (.ok (.next,dP aN (aN+(a+b):J) (aN+a:J) (a*n:J) bO n f),σ):=by
 dsimp only[Tj];rw[cS (Y (Ti ..) (Y (pe (Y (Iz (Y (Th ..) (L (xB aN h q) rfl))) rfl)) rfl)),cS (Y (ahR ..) (L (S_ _ _ e) rfl))];exact Y (ahS ..) (L (Ta ..) (L (Tb V) rfl))
end
theorem ID(h:m σ=B (.ok (.ret (.d d),ρ),σ))(E:σ.all (bk (O σ))=S):ia .plain m σ=B (.ok (.d d),σ):=Y (xG h E) Bj
theorem To(n:J):∀xs y:H J,fA n (xs++y)=fA n y*2^(O xs*n)+fA n xs
 |[],y=>by rw[zg,wg,DN,vM];rfl|x::xs,y=>by apply Y (aM (λ z=>z*2^n+x) (To n xs y));simp[show fA n (x::xs)=fA n xs*2^n+x from rfl,gy,pP _,y_,kk,pP,ao0];exact m2 _ _ x
theorem Tp(n:J):∀xs:H J,(∀x∈xs,x<2^n)->fA n xs<2^(O xs*n)
 |[],_=>L zg (L (wg ..) LL)
 |x::xs,h=>by
  simp[gy];simp[pP (O xs),y_,kk]
  calc fA n xs*2^n+x<fA n xs*2^n+2^n:=(LM (h x cV) (fA n xs*2^n))
   _=(fA n xs+1)*2^n:=by simp only[pP];lia
   _<=2^(O xs*n)*2^n:=vL _ (Tp n xs λ y m=>h y (c7 _ m))
theorem Tq(W:m σ=B (.ok (.d a),σ))(j:M σ=B (.ok (.d b),σ))(h:fW o a b=B d):kG o m M σ=B (.ok (.d d),σ):=
 Y (bind_some W) (Y (bind_some j) (pI (aM Ev.ofD h) σ))theorem Tr(h:m σ=B (.ok v,af)):ly m ρ σ=B (.ok (.ret v,ρ),af):=Y (bind_some h) rfl
theorem Ts{n f:J}{ds:H J}(h:σ.all (bk (O σ))=S)(w:aN<O ds)(l:lE bO (.d (.int (aN:J))) σ=B (.ok (.d (.int (ds[aN]:J))),σ)):
  yj (lK bO n f) f (d+1) [.d (.int aN),.d (.int (aN+1:J))] σ=B (.ok (.d (.int (fA n ((ds.drop aN).take 1):J))),σ):=L (show fA n _=ds[aN] by rw[KQ w];exact Y (aM (· +_) (wg _)) (hO _)) (Y rfl (ID (qB (ahX _ _ _ _ _ _ (oj _) l)) h))
theorem IE(n f:J)(bO:V)(ds:H J)(σ:aE)(j:n<=1000)(p:O ds<=32)(g:∀x∈ds,x<2^n)(E:σ.all (bk (O σ))=S)(l:∀aN (h:aN<O ds),lE bO (.d (.int (aN:J))) σ=B (.ok (.d (.int (ds[aN]:J))),σ)):
  ∀(d aN c:J),aN+c<=O ds->1<=c->c<=2^d->
  yj (lK bO n f) f (d+1) [.d (.int aN),.d (.int (aN+c:J))] σ=B (.ok (.d (.int (fA n ((ds.drop aN).take c):J))),σ)
 |0,aN,c,w,G,y=>by obtain rfl:=D0 y G;exact Ts E w (l aN w)
 |d+1,aN,c,w,G,y=>by
  by_cases C:c=1
  ·subst C;exact Ts E w (l aN w)
  refine Tc C G (ax YD y) λ a b e k q P z r=>?_;subst e;obtain o:=bA (bA (i_ ..) w) p;rw[<-m2]at w;obtain i:=bA (gK ..) w;obtain I:=IE n f bO ds σ j p g E l d _ b w q z;rw[m2]at I;refine L ((show fA n _=fA n ((ds.drop (aN+a)).take b)*2^(a*n)+fA n ((ds.drop aN).take a)from by
    simp only[List.take_add,YG,To,Er,aoY,zG (Nat.le_sub_of_add_le' i)])) ?_
  exact Y rfl (ID (Y (pe (ahY bO f σ k q (r aN) (gg j (by decide))))
   (qB (Tr (Tq (Tq (Y (ahV ..) I) rfl (IA (Tg (u7 (eo (Tp n _ λ x m=>g x (nd (nc m))) (q_ (by decide) (vL _ (ZC ..))))) o j))) (Y (ahW ..) (IE n f bO ds σ j p g E l d aN a i k P)) (aM B (aM D.int (KZ ..).symm)))))) E)def ajV(a b n:D):U D:=jz P0 30 (bz (aY 13)) 59 [("n",n),("b",b),("a",a)] ((bP (aY 13)).drop 1) λ u=>B .none
theorem ajW(a b n:D):kc P0 (aY 13) [a,b,n]=(((I6 a []).bind λ x=>aI .Sub x n).bind λ x=>cp .LtE x (.int 4000)).bind λ c=>match c with|true=>vi Bd [a,b]|false=>ajV a b n:=rfl
def mT(ds:H D):U D:=sL (CF λ a b n=>a8 (bE 0 b&&(aZ (aQ b) 1000&&aZ (aQ a) (n+4000))) (B (.aD [.int (a/b:J),.int (a% b:J)]))) ds
theorem ajX(W:0<b)(h:aQ b<=1000)(w:aQ a<=n+4000):kc P0 (aY 13) [.int (a:J),.int (b:J),.int (n:J)]=B (.aD [.int (a/b:J),.int (a% b:J)]):=by
 dsimp only[ajW];obtain e:I6 (.int a) []=B _:=by show B _=_;rw[u6]
 obtain E:cp .LtE (.int _) (.int 4000)=B true:=by show B (decide (((aQ a)- (n:ah))<=4000))=_;rw[gJ (by lia)]
 rw[e,gM,(show aI .Sub _ _=B _ by rw[Md];rfl),gM,E];show a8 _ _=_;rw[(show((!((b:ah)==0))&&!ts a b)=S from by
   obtain e:=ro (apb.mpr (hM W));obtain f:ts a b=false:=by
    dsimp only[ts];simp only[e];obtain this:(b:ah).natAbs.log2<=1000:=by unfold aQ at h;rw[a6 (by simp;lia)]at h;exact ik ‹_›
    rw[l2 (by lia)];rfl
   rw[e,f];rfl),sm,zQ _ (m3 b)];rfl
abbrev CM:Scope:=bz (aY 17)def fD(k:J):Stmt:=(bP (aY 17)).getD k (.Pass ey)def f_:bx->H Stmt:=sB 0
def iG:bx->PySem.Expr:=hz 1
def Vq(gT fR fS:bV):Cfg:=eG (d4 [(80,gT),(94,fR),(101,fS)])noncomputable def rQ3(o n a b:D):az:=[("r",.d (.int 0)),("a_digits",.d o),("n",.d n),("b",.d b),("a",.d a)]noncomputable def ez(r o n a b:D):az:=[("q_digits",.aH 2),("r",.d r),("a_digits",.d o),("n",.d n),("b",.d b),("a",.d a)]abbrev t0:cj:=.tab 89 121 4 lG
abbrev t1:cj:=.tab 96 136 4 mI
abbrev gU(gT fR fS:bV):=b4 (Vq gT fR fS) fj 30 CM
section
variable (gT fR fS:bV)(a b n r d:ah)(ds dK:H D)(v:V)(k:J)theorem q_0:gU gT fR fS 60 [("b",.d (.int b)),("a",.d (.int a))] [fD 0] bK=B (.ok (.next,[("n",.d (.int (ja b))),("b",.d (.int b)),("a",.d (.int a))]),bK):=rfl
theorem q_1:gU gT fR fS 59 [("n",.d (.int n)),("b",.d (.int b)),("a",.d (.int a))] [fD 1] bK=(b5 ((fR [.d (.int a),.d (.int n)] []).bind λ v=>.ret (.next,[("a_digits",v),("n",.d (.int n)),("b",.d (.int b)),("a",.d (.int a))])) λ ρ=>gU gT fR fS 58 ρ []) bK:=rfl
theorem q_3:gU gT fR fS 57 (rQ3 (.ae ds) (.int n) (.int a) (.int b)) [fD 3] bK=B (.ok (.next,ez (.int 0) (.ae ds) (.int n) (.int a) (.int b)),[t0,t1,.ae []]):=rfl
theorem q_4(ρ:az)(h:ρ=ez (.int 0) (.ae ds) (.int n) (.int a) (.int b)):gU gT fR fS 56 ρ [fD 4] [t0,t1,.ae []]=(b5 (λ u=>j7 ρ 3 (gR CM (iG (fD 4)) (λ ρ=>gU gT fR fS 55 ρ (f_ (fD 4))) 3 ρ 4 1000 ρ [t0,t1,.ae [],.it (.rev ds (O ds))])) λ ar=>gU gT fR fS 55 ar []) [t0,t1,.ae []]:=by subst h;lk
theorem q_A:gU gT fR fS 55 (("a_digit",.d (.int d))::ez (.int r) (.ae ds) (.int n) (.int a) (.int b)) (f_ (fD 4))=(b5 ((jw gT [] [kG .Add (kG .LShift (.ret (.d (.int r))) (.ret (.d (.int n)))) (.ret (.d (.int d))),.ret (.d (.int b)),.ret (.d (.int n))] [] []).bind λ A=>Bv A λ e=>lB ((Ev.of (hE e 2)).bind λ es=>qn (Vq gT fR fS) 30 CM [.Name "q_digit" ey,.Name "r" ey] (es.map V.d) (("a_digit",.d (.int d))::ez (.int r) (.ae ds) (.int n) (.int a) (.int b)))) λ ar=>gU gT fR fS 54 ar ((f_ (fD 4)).drop 1)):=by lk
theorem q_B(q s:ah):gU gT fR fS 54 (("r",.d (.int s))::("q_digit",.d (.int q))::("a_digit",.d (.int d))::ez (.int r) (.ae ds) (.int n) (.int a) (.int b)) ((f_ (fD 4)).drop 1) [t0,t1,.ae dK,.it (.rev ds k)]=(b5 (kK (qr [.aH 2,.d (.int q)]) (("r",.d (.int s))::("q_digit",.d (.int q))::("a_digit",.d (.int d))::ez (.int r) (.ae ds) (.int n) (.int a) (.int b))) λ ar=>gU gT fR fS 53 ar []) [t0,t1,.ae dK,.it (.rev ds k)]:=rfl
theorem q_C(q s:ah):fP (ez (.int 0) (.ae ds) (.int n) (.int a) (.int b)) 4 (("r",.d (.int s))::("q_digit",.d (.int q))::("a_digit",.d (.int d))::ez (.int r) (.ae ds) (.int n) (.int a) (.int b)) [t0,t1,.ae dK,.it (.rev ds k)]=B (ez (.int s) (.ae ds) (.int n) (.int a) (.int b),[t0,t1,.ae dK,.it (.rev ds k)]):=rfl
theorem q_5:gU gT fR fS 55 (ez (.int r) (.ae ds) (.int n) (.int a) (.int b)) [fD 5] [t0,t1,.ae dK]=(b5 (kK (BN [.aH 2]) (ez (.int r) (.ae ds) (.int n) (.int a) (.int b))) λ ar=>gU gT fR fS 54 ar []) [t0,t1,.ae dK]:=rfl
theorem q_6:gU gT fR fS 54 (ez (.int r) (.ae ds) (.int n) (.int a) (.int b)) [fD 6] [t0,t1,.ae dK]=(b5 ((fS [.aH 2,.d (.int n)] []).bind λ v=>.ret (.next,("q",v)::ez (.int r) (.ae ds) (.int n) (.int a) (.int b))) λ ρ=>gU gT fR fS 53 ρ []) [t0,t1,.ae dK]:=rfl
theorem q_7(q:ah):gU gT fR fS 53 (("q",.d (.int q))::ez (.int r) (.ae ds) (.int n) (.int a) (.int b)) [fD 7] [t0,t1,.ae dK]=B (.ok (.ret (.d (.aD [.int q,.int r])),("q",.d (.int q))::ez (.int r) (.ae ds) (.int n) (.int a) (.int b)),[t0,t1,.ae dK]):=rfl
end
theorem Vr(n:J):∀(c x k:J),k<c->(dB n c x)[k]?=B (.int (x/2^(k*n)% 2^n:J))
 |0,_,_,h=>by lia|c+1,x,0,_=>by rw[wg,DN,zN];rfl|c+1,x,k+1,h=>by refine(?_:(dB n c _)[k]?=_);rw[Vr n c _ k (vV ‹_›),ot,<-kk,show n+k*n=(k+1)*n by rw[pP];lia]theorem q_E(n a b R:ah)(ds dK:H D):j7 (ez (.int 0) (.ae ds) (.int n) (.int a) (.int b)) 3 (B (.ok (.next,ez (.int R) (.ae ds) (.int n) (.int a) (.int b)),[t0,t1,.ae dK,.cX]))=B (.ok (.next,ez (.int R) (.ae ds) (.int n) (.int a) (.int b)),[t0,t1,.ae dK]):=rfl
theorem ajY(h:O dK<1000000):BN [.aH 2] [t0,t1,.ae dK]=B (.ok (.d .none),[t0,t1,.ae dK.reverse]):=by
 show(match dc dK with
   |true=>B _|false=>aa)=_
 exact L (show dc dK=S by unfold dc;rw[DL];lia) rfl
theorem Vs(h:a<=b):aQ a<=aQ b:=u7 (gg h (Cc b))
section
variable (fR fS:bV){a b:J}(cv:0<b)(da:aQ b<=1000)
include cv da
theorem ajZ(ds dK:H D)(k r d:J)(E:r<b)(l:d<2^aQ b)(G:O dK<1000000):
  gU (cx mT) fR fS 55 (((("a_digit" :ai),V.d (.int (d:J))):ai×V)::ez (.int (r:J)) (.ae ds) (.int (aQ b:J)) (.int (a:J)) (.int (b:J))) (f_ (fD 4)) [t0,t1,.ae dK,.it (.rev ds k)]=
   B (.ok (.next,((("r" :ai),V.d (.int ((r*2^aQ b+d)% b:J))):ai×V)::("q_digit",.d (.int ((r*2^aQ b+d)/b:J)))::("a_digit",.d (.int (d:J)))::ez (.int (r:J)) (.ae ds) (.int (aQ b:J)) (.int (a:J)) (.int (b:J))),[t0,t1,.ae (dK++ [D.int ((r*2^aQ b+d)/b:J)]),.it (.rev ds k)]):=by
 obtain h:=Vs (ik E);obtain I:aQ _<=aQ b+4000:=by
  apply u7
  calc r*2^aQ b+d<r*2^aQ b+2^aQ b:=(LM l _)
   _=(r+1)*2^aQ b:=by rw[pP];lia
   _<=2^aQ b*2^aQ b:=vL _ (bA (Cc r) (q_ (by decide) h))
   _=2^(aQ b+aQ b):=(kk ..).symm
   _<=2^(aQ b+4000):=q_ (by decide) (by lia)
 obtain c:mT [.int (r*2^aQ b+d:J),.int b,.int (aQ b)]=B _:=by show a8 _ _=_;simp only[cg.mpr cv,dD da,dD I];rfl
 obtain e:cE [kG .Add _ (.ret (.d (.int d))),.ret _,.ret _] [t0,t1,.ae dK,.it _]=B _:=by
  show(Ev.bind _ _) _=_;rw[aT (a:=V.d _) (af:=[t0,t1,.ae dK,.it _])]
  ·rfl
  ·unfold kG
   rw[aT (a:=V.d (.int _)) (af:=[t0,t1,.ae dK,.it _])]
   ·show Ev.ofD (fW .Add (.int _) (.int d)) _=_
    exact L (rfl:fW .Add _ _=B _) rfl
   ·show Ev.ofD (fW .LShift (.int r) (.int (aQ b))) _=_
    exact L (IA (by lia)) rfl
 obtain call:jw (cx mT) [] [kG .Add (kG .LShift (.ret (.d _)) (.ret (.d _))) _,.ret _,.ret _] [] [] [t0,t1,.ae dK,.it _]=B (.ok (.d (.aD [.int ((r*2^aQ b+d)/b:J),.int ((r*2^aQ b+d)% b:J)])),[t0,t1,.ae dK,.it (.rev ds k)]):=by exact Y (aT e) (sI c rfl)
 rw[q_A];unfold b5;rw[aT (a:=(f6.next,((("r"),V.d (.int ((r*2^aQ b+d)% b:J))):ai×V)::("q_digit",.d (.int ((r*2^aQ b+d)/b:J)))::("a_digit",.d (.int d))::ez (.int r) (.ae ds) (.int (aQ b)) (.int a) (.int b))) (af:=[t0,t1,.ae dK,.it (.rev ds k)])]
 ·dsimp only
  dsimp only[q_B];unfold b5;rw[aT (a:=(f6.next,((("r"),V.d (.int ((r*2^aQ b+d)% b:J))):ai×V)::("q_digit",.d (.int ((r*2^aQ b+d)/b:J)))::("a_digit",.d (.int d))::ez (.int r) (.ae ds) (.int (aQ b)) (.int a) (.int b))) (af:=[t0,t1,.ae (dK++ [D.int ((r*2^aQ b+d)/b:J)]),.it (.rev ds k)])]
  ·rfl
  ·unfold kK
   exact L (aT (aT (A0 rfl (by unfold dc;rw[DL];lia)))) rfl
 ·rw[aT call];lk
theorem aj0(c:J)(F:c<=32)(M:az)(p:M=ez (.int 0) (.ae (dB (aQ b) c a)) (.int (aQ b:J)) (.int (a:J)) (.int (b:J))):∀(k N:J)(dK:H J),k<=c->k<N->O dK+k=c->(∀x∈dK,x<2^aQ b)->fA (aQ b) dK.reverse=a/2^(k*aQ b)/b->
  ∃Q:H J,O Q=c/\(∀x∈Q,x<2^aQ b)/\fA (aQ b) Q.reverse=a/b/\
   gR CM (iG (fD 4)) (λ ρ=>gU (cx mT) fR fS 55 ρ (f_ (fD 4))) 3 M 4 N (ez (.int (a/2^(k*aQ b)% b:J)) (.ae (dB (aQ b) c a)) (.int (aQ b:J)) (.int (a:J)) (.int (b:J))) [t0,t1,.ae (bb dK),.it (.rev (dB (aQ b) c a) k)]=
    B (.ok (.next,ez (.int (a% b:J)) (.ae (dB (aQ b) c a)) (.int (aQ b:J)) (.int (a:J)) (.int (b:J))),[t0,t1,.ae (bb Q),.cX]):=by
 intro k;induction k with
 |zero=>
  intro N dK u R z f l;rcases N with _|N
  ·exact aR R (hu _)
  rw[wg,zN]at l;refine⟨dK,z,f,l,?_⟩;rw[wg,zN];rfl
 |succ k i=>
  intro N dK E R z f l;rcases N with _|N
  ·exact aR R (zr _)
  obtain P:=dN _ cv;obtain w:=dN _ (kZ _);have C:a/2^(k*aQ b)=a/2^((k+1)*aQ b)*2^aQ b+a/2^(k*aQ b)% 2^aQ b:=by
   obtain e:a/2^((k+1)*aQ b)=a/2^(k*aQ b)/2^aQ b:=by rw[ot,<-kk,LP]
   obtain h:=apd _ _;rw[y6 _]at h;rw[e];exact h.symm
  obtain T:=ajZ fR fS cv da (a:=a) (dB (aQ b) c a) (bb dK) k (a/2^((k+1)*aQ b)% b) (a/2^(k*aQ b)% 2^aQ b) P w (L (gh ..) (gg (bA (ape (fV z)) F) (by decide)));generalize m:a/2^((k+1)*aQ b)=A at*;generalize G:a/2^(k*aQ b)% 2^aQ b=o at*;obtain V:(A% b*2^aQ b+o)% b=a/2^(k*aQ b)% b:=by rw[C,Nat.add_mod,Nat.mul_mod,Nat.mod_mod,<-Nat.mul_mod,<-Nat.add_mod]
  obtain g:A/b*2^aQ b+(A% b*2^aQ b+o)/b=a/2^(k*aQ b)/b:=by
   obtain j:a/2^(k*aQ b)=(A% b*2^aQ b+o)+b*(A/b*2^aQ b):=by
    have:A*2^aQ b=b*(A/b*2^aQ b)+A% b*2^aQ b:=by rw[<-ao0,<-pP,<-((apd A b).symm)]
    rw[C,this,m2,iO]
   rw[j,YE _ _ cv];exact iO ..
  obtain⟨Q,y,W,dP,t⟩:=i N (dK++ [(A% b*2^aQ b+o)/b]) (jP E) (Zq R) (L e2 (Y (m2 ..) (Y (aM _ (iO 1 k)) z))) (λ x K=>by
   rcases bB.mp K with q|q
   ·exact f x q
   ·rw[ek.mp q];exact((td cv).mpr (eo (LM w _) (ax (LP ..) (L (y6 ..) (vK _ P)))))) (by
   refine L List.reverse_append ?_;show fA _ dK.reverse*2^aQ b+(A% b*2^aQ b+o)/b=_;rw[l];exact g)
  refine⟨Q,y,W,dP,?_⟩;rw[(show bb _=bb dK++ [D.int ((A% b*2^aQ b+o)/b:J)] by unfold bb;simp)]at t;refine Y (BB ((by
    show(B _).map _=_;exact L (Vr _ c a k E) rfl)) rfl ((by lk) ..) T ?_) t
  rw[p,q_C,V]
end
theorem yB{ds:H D}(g:bY σ)(h:C (ds.map V.d) [] bK=B (.ok (.d d),bK)):fk C (ds.map V.d) [] σ=B (.ok (.d d),σ):=by unfold fk;rw[(YQ.symm▸b9.mpr λ u u=>rfl:(ds.map V.d).all fB=S),g.1,g.2.1];exact L h rfl
theorem aj1{ds:H D}(g:bY σ)(h:C (ds.map V.d) [] bK=B (.exc cl es,bK)):fk C (ds.map V.d) [] σ=B (.exc cl es,σ):=by unfold fk;rw[(YQ.symm▸b9.mpr λ u u=>rfl:(ds.map V.d).all fB=S),g.1,g.2.1];exact L h rfl
theorem yC(G:gp g)(W:0<n)(h:qx g n ct){st:bx}(M:wD.lookup a=B (.plain .plain,st))
  (k:∀ds d,f ds=B d->O ds=O (eU st)/\∃ar i,b4 (eG ct) fj 30 (bz st) 60 ((eU st).zip (ds.map V.d)).reverse (bP st) bK=B (.ok (.ret (.d d),ar),i)/\i.take 2=bK):cK g a (n+1) (cx f):=by
 refine cK.less (ye (mL (G.fns a _ st M) G.base λ ρ x o X c=>lC (n0 G 0) 30 60 _ _ _ _ _ _ _ (nZ G W h) c)) λ as ks σ r e=>?_;obtain⟨r,af⟩:=r;refine yv e λ ds d A l R D u F=>?_;subst A l u F;obtain⟨z,ar,i,m,v⟩:=k ds d D;apply yB R;delta lF nN;refine L (show(O _==O _)=S by rw[gh];exact cI.mpr z) (Y (o3 m) ?_);show bR _ (B _)=_;exact L v rfl
theorem Vt(h:1<=n)(j:n<=1000)(v:b6 a n<=32)(g:bY σ):fk mJ [.d (.int (a:J)),.d (.int (n:J))] [] σ=B (.ok (.d (.ae (dB n (b6 a n) a))),σ):=by refine yB (ds:=[.int a,.int n]) g ((?_:ia .plain _ bK=_));delta ia B2;simp only[dD h,dD j,dD v];rfl
theorem Vu(W:n<=1000)(h:σ.all (bk (O σ))=S)(p:u1 96 136 4 mI σ[1]?=S)(l:sk σ bO=B (bb m))(z:O m<=32)(b:∀x∈m,x<2^n):ia .plain (B3 bO n) σ=B (.ok (.d (.int (fA n m:J))),σ):=by refine ID (ρ:=[]) (Y (eh (by simp only[dD W,h,p];rfl)) (L l ?_)) h;show(mK _).bind _=_;exact L (Jd ..) (eh (L (dD z) (b9.mpr λ x K=>cg.mpr (b x K))))theorem aj2(h:n<=1000)(z:O m<=32)(b:∀x∈m,x<2^n):fk lH [.aH 2,.d (.int (n:J))] [] [t0,t1,.ae (bb m)]=B (.ok (.d (.int (fA n m:J))),[t0,t1,.ae (bb m)]):=Vu h rfl rfl rfl z b
def yD(ds:H D):U D:=sL (CE λ a b=>a8 (bE 0 b&&(aZ (aQ b) 1000&&aZ (b6 a (aQ b)) 32)) (B (.aD [.int (a/b:J),.int (a% b:J)]))) ds
theorem yE(h:1<=n):a<2^(b6 a n*n):=
 eo (Cc a) (q_ (by decide) (ao3 (ao4 (ao5 h))))theorem Vv(G:gp g)(h:12<=n):cK g 94 (n+1) (fk mJ):=G.hand 94 _ n rfl h
theorem Vw(G:gp g)(h:12<=n):cK g 101 (n+1) (fk lH):=G.hand 101 _ n rfl h
theorem Jk(G:gp g)(h:12<=n):cK g 108 (n+2) (cx yD):=by
 refine yC G (fp _) (ct:=d4 [(80,cx mT),(94,fk mJ),(101,fk lH)]) (hJ (AllP.mem (.cons (kS G (Nat.one_le_of_lt h) (ct:=d4 []) (hJ (by simp)) (P:=P0) (mQ (by simp)) rfl λ ds d e=>by
   refine vl e λ u w E=>?_;refine L w (Ja E λ a b n z f=>L z ?_);obtain⟨W,j⟩:=dn f;refine ax (ak j) (cq (bF.mp W) λ A W=>?_);exact cq (bF.mp W) λ c p=>ajX (cg.mp A) (b8 c) (b8 p)) (.cons (Vv G h) (.cons (Vw G h) .nil))))) rfl λ ds d e=>?_
 refine vl e λ u Q E=>L Q (I_ E λ a b i f=>L i ?_);obtain⟨W,j⟩:=dn f;refine ax (ak j) ?_;obtain⟨A,W⟩:=bF.mp W;exact cq (bF.mp W) λ c p=>⟨rfl,(λ r h C=>by
   have R:1<=aQ b:=by unfold aQ;rw[a6 (by simp;exact hM ‹_›)];lia
   obtain s1:gU (cx mT) _ (fk lH) 59 [("n",.d (.int (aQ b))),("b",.d (.int b)),("a",.d (.int a))] [fD 1] bK=B (.ok (.next,[("a_digits",.d (.ae (dB (aQ b) (b6 a (aQ b)) a))),("n",.d (.int (aQ b))),("b",.d (.int b)),("a",.d (.int a))]),bK):=by
    apply Y (q_1 ..);unfold b5;rw[aT (a:=(f6.next,[(("a_digits" :ai),V.d (.ae (dB (aQ b) (b6 a (aQ b)) a))),("n",.d (.int (aQ b))),("b",.d (.int b)),("a",.d (.int a))])) (af:=bK)]
    ·rfl
    ·exact L (aT (Vt R h C (⟨rfl,rfl,rfl⟩))) rfl
   obtain I:fA (aQ b) ([]).reverse=a/2^(b6 a (aQ b)*aQ b)/b:=by rw[oo (yE R),Nat.zero_div];rfl
   refine As (aj0 (fk mJ) (fk lH) r h (b6 a (aQ b)) C _ rfl (b6 a (aQ b)) 1000 [] (bH _) (by lia) (by simp) (by simp) I) λ q N o m l=>?_;rw[(L (oo (yE R)) (L (Nat.zero_mod ..) rfl):a/2^(b6 a (aQ b)*aQ b)% b=0)]at l;obtain s:gU (cx mT) (fk mJ) (fk lH) 56 (ez (.int 0) (.ae (dB (aQ b) (b6 a (aQ b)) a)) (.int (aQ b)) (.int a) (.int b)) [fD 4] [t0,t1,.ae []]=B (.ok (.next,ez (.int (a% b:J)) (.ae (dB (aQ b) (b6 a (aQ b)) a)) (.int (aQ b)) (.int a) (.int b)),[t0,t1,.ae (bb q)]):=by rw[(q_4 (cx mT) (fk mJ) (fk lH) (a:=a) (b:=b) (n:=(aQ b)) (ds:=dB (aQ b) (b6 a (aQ b)) a) _ rfl),pd];exact Y (aT (a:=(f6.next,ez (.int (a% b:J)) (.ae (dB (aQ b) (b6 a (aQ b)) a)) (.int (aQ b)) (.int a) (.int b))) (af:=[t0,t1,.ae (bb q)]) (Y (aM (j7 _ 3) l) (q_E ..))) rfl
   obtain K:∀F:H D,gU (cx mT) (fk mJ) (fk lH) 55 (ez (.int (a% b:J)) (.ae F) (.int (aQ b)) (.int a) (.int b)) [fD 5] [t0,t1,.ae (bb q)]=B (.ok (.next,ez (.int (a% b:J)) (.ae F) (.int (aQ b)) (.int a) (.int b)),[t0,t1,.ae (bb q.reverse)]):=by
    intro F;dsimp only[q_5];delta b5 kK;rw[aT (a:=(f6.next,ez (.int (a% b:J)) (.ae F) (.int (aQ b)) (.int a) (.int b))) (af:=[t0,t1,.ae (bb q.reverse)])]
    ·rfl
    ·rw[aT (ajY (show O (bb q)<1000000 by unfold bb;rw[gh];lia)),(show(bb q).reverse=bb q.reverse by unfold bb;rw[LN])];rfl
   obtain T:∀F:H D,gU (cx mT) (fk mJ) (fk lH) 54 (ez (.int (a% b:J)) (.ae F) (.int (aQ b)) (.int a) (.int b)) [fD 6] [t0,t1,.ae (bb q.reverse)]=B (.ok (.next,((("q"),V.d (.int (a/b:J))):ai×V)::ez (.int (a% b:J)) (.ae F) (.int (aQ b)) (.int a) (.int b)),[t0,t1,.ae (bb q.reverse)]):=by
    refine λ F=>Y (q_6 ..) ?_;unfold b5;rw[aT (a:=(f6.next,((("q"),V.d (.int (a/b:J))):ai×V)::ez (.int (a% b:J)) (.ae F) (.int (aQ b)) (.int a) (.int b))) (af:=[t0,t1,.ae (bb q.reverse)])]
    ·rfl
    ·rw[aT (aj2 h (by rw[aov];lia) (λ x M=>o x (List.mem_reverse.mp M))),m];rfl
   refine L (show bP (aY 17)=[fD 0,fD 1,fD 2,fD 3,fD 4,fD 5,fD 6,fD 7]from by lk) ?_;have k:=q_0 (cx mT) (fk mJ) (fk lH) (a:=a) (b:=b);rw[(u6 b)]at k;exact(bh _ _ ⟨Y (cS k) (Y (cS s1) (Y (cS ((by lk) ..)) (Y (cS (q_3 ..)) (Y (cS s) (Y (cS (K _)) (Y (cS (T _)) (q_7 ..))))))),rfl⟩)) (cg.mp A) (b8 c) (b8 p)⟩def VI(c:J):D:=.bool (u2.contains c)def Jt(ds:H D):U D:=one ds (hB λ s=>one s.cps.toList λ c=>B (VI c))
theorem Wd(g:bY σ)(h:(σ:H cj)[l]?=B (.ae xs)):∀(t:H D)(i:J),xs.drop i=t->lN b (O σ) (σ++ [.it (.e3 l i)]) (O σ) t
 |[],i,e=>.nil (fC:=σ++ [.cX]) (Y (j0 h6) (Y (rT (iD h)) (L ((mx e).1) (aM (λ t=>B (aa,t)) oT)))) sE (sF rfl)|d::t,i,e=>.cons (fC:=σ++ [.it _]) ⟨_,h6,rfl⟩ (Y (j0 h6) (Y (rT (iD h)) (L ((mx e).1) (aM (λ t=>B (B d,t)) oT)))) sE (sF rfl) (g.push (m:=.it (.e3 l _)) rfl (bF.mpr ⟨cg.mpr (kn (oR h)),rfl⟩)) (Wd g h t _ (mx e).2)
theorem C1{u:az->aJ->Ev V}{N:az->aJ->Ev aF}(bg:aF)(v:∀pr ρ,dt pr ρ->∀e,cR (p pr e) (u ρ e))(q:∀pr ρ,dt pr ρ->∀e,fN (P pr e) (N ρ e))
  (b:dt pr ρ)(c:(g.is_async !=0)=aj)(A:nK sc0 s=S)(W:hY g.iter=S)(h:bY σ)
  (M:first σ=B (.ok (.aH l),σ))(K:(σ:H cj)[l]?=B (.ae xs))(z:xs.length<1000)
  (e:hs s p P E g (n3 s pr) xs=B o):jv bg 1000 sc0 s first u N E [g] ρ σ=match bg with
    |false=>B (.ok (.d (.ae o)),σ)|true=>B (.ok (.aH (O σ)),σ++ [.ae o]):=
 UN bg v q b c A W h (bh _ _ ⟨M,_,_,Y (AK K) rfl,h.push rfl (bF.mpr ⟨cg.mpr (kn (oR K)),rfl⟩),wi,qH,Wd h K xs 0 rfl⟩) z e
noncomputable def jE(f:D->U aF)(g:D->U D):H D->U (H D)
 |[]=>B []|d::ds=>(f d).bind λ ok=>match ok with|true=>(g d).bind λ v=>(jE f g ds).map (v:: ·)|false=>jE f g ds
theorem yH(t:G.ifs=[c]):
  ∀xs:H D,(∀d∈xs,∃p,sz s G.target d pr=B p/\E p c=f d/\u p e=g d)->hs s u E e G pr xs=jE f g xs
 |[],_=>rfl
 |d::ds,h=>by
  refine gF (h d (cV ..)) λ p W j w=>?_;show((sz s G.target d pr).bind λ p=>(sA E p S G.ifs).bind λ ok=>match ok with
   |true=>(u p e).bind λ v=>(hs s u E e G pr ds).map _|false=>hs s u E e G pr ds)=_
  rw[W,t,(yH t ds λ d l=>h d (c7 _ l))];show((E p c).bind λ b=>sA E p b []).bind _=_;rw[j,w];show _=(f d).bind λ ok=>match ok with|true=>(g d).bind λ v=>(jE f g ds).map _|false=>jE f g ds
  induction f d with|none=>rfl|some b=>induction b<;>rfl
abbrev Ju:Scope:=bz (aY 33)def gb(k:J):Stmt:=(bP (aY 33)).getD k (.Pass ey)def VJ:aJ->PySem.Expr:=iu 1
def mW:aJ->PySem.Expr:=iu 0
def gc(e:aJ):Comprehension:=(fI e).o8.getD 0 ⟨e,e,[],0⟩def d5(e:aJ):Scope:=(fI e).sc
def VK:Cfg:=eG (d4 [(133,cx Jt),(186,cx CP),(179,cx yF)])def yG:hI:=fl [("in_table_b1",Jt),("in_table_c11",CP),("map_table_b3",yF)]def sO:PySem.Expr:=ic (VJ (dx (gb 2)))abbrev Jv:H D->U (H D):=hs (d5 sO) (λ pr e=>(bJ yG 27 (d5 sO) pr e).1) (λ pr e=>(bJ yG 27 (d5 sO) pr e).2) (mW sO) (gc sO) []noncomputable def cA(c:J):D:=.str ⟨#[c]⟩noncomputable def aK(cs:H J):D:=.str ⟨cs.toArray⟩def j5(c:J):Bool:=(cp .Eq (cA c) (.str " ")).getD aj
def lP(c:J):D:=.aD [VI c,.bool (j5 c)]def i5(cs:H J):D:=.ae (cs.map lP)abbrev jD:=b4 VK fj 30 Ju
section
variable (a b c d e:J)theorem aj_:jD 60 [("text",.d (aK [a,b]))] [gb 0] bK=B (.ok (.next,[("held",.d (i5 [a,b])),("text",.d (aK [a,b]))]),bK):=by lk
theorem aka:jD 60 [("text",.d (aK [a,b,c]))] [gb 0] bK=B (.ok (.next,[("held",.d (i5 [a,b,c])),("text",.d (aK [a,b,c]))]),bK):=by lk
theorem akb:jD 60 [("text",.d (aK [a,b,c,d]))] [gb 0] bK=B (.ok (.next,[("held",.d (i5 [a,b,c,d])),("text",.d (aK [a,b,c,d]))]),bK):=by lk
theorem akc:jD 60 [("text",.d (aK [a,b,c,d,e]))] [gb 0] bK=B (.ok (.next,[("held",.d (i5 [a,b,c,d,e])),("text",.d (aK [a,b,c,d,e]))]),bK):=by lk
theorem akd(t:V):jD 59 [("held",.d (i5 [a,b])),("text",t)] [gb 1] bK=B (.ok (.next,[("odd",.d (.ae [])),("held",.d (i5 [a,b])),("text",t)]),bK):=by lk
theorem ake(t:V):jD 59 [("held",.d (i5 [a,b,c])),("text",t)] [gb 1] bK=B (.ok (.next,[("odd",.d (.ae [])),("held",.d (i5 [a,b,c])),("text",t)]),bK):=by lk
theorem akf(t:V):jD 59 [("held",.d (i5 [a,b,c,d])),("text",t)] [gb 1] bK=B (.ok (.next,[("odd",.d (.ae [])),("held",.d (i5 [a,b,c,d])),("text",t)]),bK):=by lk
theorem akg(t:V):jD 59 [("held",.d (i5 [a,b,c,d,e])),("text",t)] [gb 1] bK=B (.ok (.next,[("odd",.d (.ae [])),("held",.d (i5 [a,b,c,d,e])),("text",t)]),bK):=by lk
end
theorem akh(t h o:D):jz yG 30 Ju 58 [("odd",o),("held",h),("text",t)] [gb 2] (λ u=>aa)=(cQ [((yp [t,h]).bind λ xs=>match bE (O xs) 1000 with|true=>(Jv xs).map D.ae|false=>aa).bind λ a=>aI .Add a o]).bind (VD (.str "")):=by lk
def sP(d:D):U Bool:=match d with|.aD [_,p]=>cp .Eq p (.aD [.bool aj,.bool aj])|_=>aa
def vm(d:D):U D:=match d with|.aD [s,_]=>yF [s]|_=>aa
theorem aki(xs:H D)(h:∀d∈xs,∃s p,d=.aD [s,p]):Jv xs=jE sP vm xs:=by refine yH (c:=(gc sO).ifs.getD 0 sO) rfl xs λ d l=>(f5 (h d l) λ s p w=>?_);subst w;exact⟨[("pair",p),("sign",s)],rfl,rfl,rfl⟩def sQ(c:J):Bool:=u2.contains c||j5 c
def mX:H J->U (H D)
 |[]=>B []|c::cs=>match sQ c with|true=>mX cs|false=>(CQ (cA c)).bind λ v=>(mX cs).map (v:: ·)theorem akj(E c4:aF):cp .Eq (.aD [.bool E,.bool c4]) (.aD [.bool aj,.bool aj])=B (!(E||c4)):=by induction E<;>induction c4<;>lk
theorem VL:∀cs:H J,jE sP vm (cs.map λ c=>.aD [cA c,lP c])=mX cs
 |[]=>rfl
 |c::cs=>by
  obtain E:jE sP vm ((c::cs).map λ c=>.aD [cA c,lP c])=(sP (.aD [cA c,lP c])).bind λ ok=>match ok with|true=>(vm (.aD [cA c,lP c])).bind λ v=>(jE sP vm (cs.map λ c=>.aD [cA c,lP c])).map (v:: ·)|false=>jE sP vm (cs.map λ c=>.aD [cA c,lP c]):=rfl
  obtain f:sP (.aD [cA c,lP c])=B (!(sQ c)):=akj _ _;rw[E,f,VL cs];show _=(match sQ c with
   |true=>mX cs|false=>(CQ _).bind λ v=>(mX cs).map _)
  cases sQ c<;>rfl
theorem akk(cs:H J):Jv (cs.map λ c=>.aD [cA c,lP c])=mX cs:=by rw[aki _ λ d h=>?_,VL];exact av (iP.mp h) λ c u w=>ax w (bh _ _ rfl)def CR(cs:H J):U D:=(mX cs).bind λ vs=>x1 "" (.ae vs)
theorem VM:∀(n:J)(cs:H J),O cs<n->vc n [cs.map cA,cs.map lP]=B (cs.map λ c=>.aD [cA c,lP c])
 |0,_,h=>by lia|n+1,[],_=>rfl|n+1,c::cs,h=>by exact((L (VM n cs (by simpa using h)) rfl):(vc n [cs.map cA,cs.map lP]).map _=_)
theorem Jw:∀{cs:H J}{vs:H D},mX cs=B vs->O vs<=O cs
 |[],_,e=>ax (ak e) (bH _)
 |c::cs,vs,e=>by
  revert e;dsimp only[mX];refine dO (sQ c) (λ q=>?_) λ q=>?_<;>rw[q]<;>intro e
  ·exact ip (Jw e)
  ·exact av (rm.mp e) λ v W e=>(av (hR.mp e) λ R h w=>ax w (EA (Jw h)))def CS(ds:H D):U D:=one ds (hB λ s=>bR (aZ 2 (O s.cps.toList)&&aZ (O s.cps.toList) 5) (CR s.cps.toList))
theorem akl(z:O cs<=5)(h:CR cs=B r):∃ar,jD 58 [("odd",.d (.ae [])),("held",.d (i5 cs)),("text",.d (aK cs))] [gb 2] bK=B (.ok (.ret (.d r),ar),bK):=by
 rcases I4 (show i4 yG VK from sN (AllP.mem (.cons ⟨133,rfl,rfl⟩ (.cons ⟨186,rfl,rfl⟩ (.cons ⟨179,rfl,rfl⟩ .nil))))) 58 _ _ _ _ r bK ((show jz yG 30 Ju 58 [("odd",.ae []),("held",i5 cs),("text",aK cs)] [gb 2] (λ u=>aa)=B r from by
   rw[akh];obtain E:yp [aK cs,i5 cs]=B _:=VM 1000 cs (by lia);refine av (rm.mp h) λ vs W j=>?_;obtain k:=Jw W;refine L E ?_;dsimp only[gM];rw[gh];rw[cg.mpr (by lia)];rw[akk,W];show(cQ [(aI .Add (.ae vs) (.ae []))]).bind _=_;exact L ((show aI .Add _ _=B (.ae vs)from by
     show a8 (S&&ml (O vs+0)) _=_;rw[ea,rd,show ml _=S from ?_]
     ·rfl
     ·unfold ml
      exact dD (by lia))) j)) ((((show dt [] []from λ u u e=>nn e).cons _ _).cons _ _).cons _ _) (⟨rfl,rfl,rfl⟩)with⟨ar,e⟩|⟨_,_,_,_,e⟩
 ·exact⟨ar,e⟩
 ·exact nn e
theorem akm(j:2<=O cs)(P:O cs<=5)(h:jD 58 [("odd",.d (.ae [])),("held",.d (i5 cs)),("text",.d (aK cs))] [gb 2] bK=B (.ok (.ret (.d r),ar),bK)):jD 60 [("text",.d (aK cs))] (bP (aY 33)) bK=B (.ok (.ret (.d r),ar),bK):=by
 rcases cs with _|⟨a,_|⟨b,_|⟨c,_|⟨d,_|⟨e,_|⟨f,t⟩⟩⟩⟩⟩⟩
 ·simp at j
 ·simp at j
 ·exact(show jD 60 [("text",.d _)] [gb 0,gb 1,gb 2] bK=B _ from Y (cS (aj_ a b)) (Y (cS (akd a b _)) h))
 ·exact(show jD 60 [("text",.d _)] [gb 0,gb 1,gb 2] bK=B _ from Y (cS (aka a b c)) (Y (cS (ake a b c _)) h))
 ·exact(show jD 60 [("text",.d _)] [gb 0,gb 1,gb 2] bK=B _ from Y (cS (akb a b c d)) (Y (cS (akf a b c d _)) h))
 ·exact(show jD 60 [("text",.d _)] [gb 0,gb 1,gb 2] bK=B _ from Y (cS (akc a b c d e)) (Y (cS (akg a b c d e _)) h))
 ·simp at P
theorem akn(G:gp g)(V:12<=n):cK g 345 (n+2) (cx CS):=by
 refine yC G (fp _) (ct:=d4 [(133,cx Jt),(186,cx CP),(179,cx yF)]) (hJ (AllP.mem (.cons ((by
   refine cK.less (G.hand 133 _ n rfl V) λ as ks σ r e=>?_;obtain⟨r,af⟩:=r;refine yv e λ ds d E f R h t D=>?_;subst E f t D;exact j4 h λ a E h=>mi h λ s f h=>j4 h λ c C h=>by
    rw[E,f,(show s=⟨#[c]⟩from by
      induction s with
      |mk a=>exact aM Ey (ZH.mp C)),<-ak h]
    exact yB R rfl)) (.cons (aj8 G n (by lia)) (.cons (aj9 G n (by lia)) .nil))))) rfl λ ds d e=>?_
 refine j4 e λ a E e=>mi e λ s f e=>bN e λ h j=>?_;subst E f;have o:=b8 (bo h).1;have A:=b8 (bo h).2;obtain i:s=⟨s.cps.toList.toArray⟩:=by cases s;rfl
 generalize s.cps.toList=cs at i o A j;exact L i (a7 (akl A j) λ ar P=>⟨rfl,ar,bK,akm o A P,rfl⟩)noncomputable def cN(cs:H J):Str:=⟨cs.toArray⟩
theorem V7:∀g:H (H J),uQ (g.map aK)=B (g.map cN)
 |[]=>rfl|l::g=>by show(uQ _).map _=_;exact L (V7 g) rfl
theorem V8(a b:H J):cN a++cN b=cN (a++b):=by show Ey (a.toArray++b.toArray)=Ey (a++b).toArray;simp
theorem V9:∀l:H (H J),Str.join "" (l.map cN)=cN l.flatten
 |[]=>rfl|[x]=>by show cN x=cN (x++ []);rw[ea]
 |x::y::l=>by
  show cN x++ "" ++Str.join "" ((y::l).map cN)=_;rw[(V9 (y::l))];obtain this:cN x++("")=cN x:=by obtain this:=V8 x [];rw[ea]at this;exact this
  rw[this,V8];rfl
theorem V_(cs:H J):(cN cs).length=O cs:=by rfl
theorem Wa:∀g:H (H J),((g.map cN).map (·.length)).sum=O g.flatten
 |[]=>rfl|l::g=>by simp only[lZ,lZ,ZN,Wa g,V_,zo,e2]def iK(c:J):U (H J):=(sQ c).rec ((CQ (cA c)).bind (hB λ s=>B s.cps.toList)) (B [])
noncomputable def ih:H J->U (H J)
 |[]=>B []|c::cs=>(iK c).bind λ l=>(ih cs).map (l++ ·)
theorem C0:∀{a b x y:H J},ih a=B x->ih b=B y->ih (a++b)=B (x++y)
 |[],_,_,_,e,h=>ax (ak e) h|c::a,b,x,y,e,h=>by refine av (rm.mp e) λ l W e=>(av (hR.mp e) λ z j w=>ax w ?_);show((iK c).bind λ l=>(ih (a++b)).map _)=_;simp only[W,C0 j h,eb];rfl
theorem Wb:∀{cs r:H J},ih cs=B r->∃g:H (H J),mX cs=B (g.map aK)/\g.flatten=r
 |[],_,e=>ax (ak e) ⟨[],rfl,rfl⟩
 |c::cs,r,e=>by
  refine av (rm.mp e) λ l h e=>(av (hR.mp e) λ z j w=>ax w (av (Wb j) λ g v W=>ax W ?_));unfold iK at h;dsimp only[mX];revert h;refine dO (sQ c) (λ q=>?_) λ q=>?_
  ·rw[q];exact λ h=>ax (ak h) ⟨g,v,rfl⟩
  ·refine L q (λ h=>b3 h λ d Q h=>mi h λ s f h=>⟨s.cps.toList::g,?_,ax (ak h) rfl⟩)
   rw[Q,v,f];rfl
theorem Wc(h:ih cs=B r)(Q:O r<=1000)(j:2<=O cs)(P:O cs<=5):CS [aK cs]=B (aK r):=by
 show a8 _ _=_;rw[dD j,dD P];exact(show CR cs=B _ from by
   refine av (Wb h) λ l W w=>?_;subst w;unfold CR;simp only[W,gM,(show x1 "" (.ae _)=B (aK l.flatten)from by
     show((uQ _).bind _)=_;rw[V7,gM];obtain e:JoinOk "" (l.map cN)=true:=by unfold JoinOk;rw[StrLaws.joinTotal,Wa];obtain this:(("" :ai)).length=0:=rfl;rw[this];unfold PySem.Builtin.Str.tooLong;exact L vZ (L (l2 (by lia)) rfl)
     rw[e];obtain E:aoC "" (l.map cN)=Str.join "" (l.map cN):=StrLaws.glued_eq_join _ _;rw[E,V9];rfl)])noncomputable def Jx(c d:J):Nat:=match d% 4 with|0=>c|1=>c-32|2=>(match c with|102=>8497|105=>8464|_=>8466)|_=>119808+52*([0,1,2,4,7,8,9,10,11,12].getD (d/4) 0)+c-97
noncomputable def VY:H Nat:=[102,105,108]
noncomputable def sW:H J->H J->aF
 |[],[]=>S|a::as,b::bs=>aL a b&&sW as bs|_,_=>aj
theorem vo:∀{as bs:H J},sW as bs=S->as=bs
 |[],[],_=>rfl|[],_::_,h=>bw h|_::_,[],h=>bw h|a::as,b::bs,h=>by obtain⟨W,j⟩:=bF.mp h;rw[dE W,vo j]def vp(c:J)(l:H J):Bool:=(iK c).rec aj λ r=>sW r l
theorem Jz(h:vp c l=S):iK c=B l:=by
 unfold vp at h;revert h;rcases iK c with _|r
 ·exact bw
 ·exact λ h=>aM B (vo h)noncomputable def sR:H Nat:=[0,8,10,31,127,9,32,172,174,846,848,6149,6151,6154,6158,8202,8206,8287,8289,65023,65040,65278,65280]noncomputable def pq:H Nat:=[173,847,6150,6155,6156,6157,8203,8204,8205,8288,65279,65024,65025,65026,65027,65028,65029,65030,65031,65032,65033,65034,65035,65036,65037,65038,65039]noncomputable def lR(l:H J):H Nat:=l.filter λ c=> !(aL c 32)abbrev kT:Scope:=bz (aY 32)def fm(k:J):Stmt:=(bP (aY 32)).getD k (.Pass ey)noncomputable def yI:H Nat:=[6,12,8,6,2,28,4,46,40,40,40]abbrev ht(C:bV):=b4 (eG (d4 [(330,C)])) fj 30 kT
noncomputable def nmV:H Str:=["who","ahead","lack","order","pair","strewn","spot","mark","first","second","third"]def yJ(x w:D):az:=[("marks",.d (.ae (bb sR))),("nothing",.d (.ae (bb pq))),("words",.d w),("x",.d x)]def VN(a b c d e f g h i j k x w:D):az:=("third",.d k)::("second",.d j)::("first",.d i)::("mark",.d h)::("spot",.d g)::("strewn",.d f)::("pair",.d e)::("order",.d d)::("lack",.d c)::("ahead",.d b)::("who",.d a)::yJ x w
def gs(a b c d e f g h i j k x w:D):az:=("signs",.aH 3)::("read",.aH 4)::VN a b c d e f g h i j k x w
def sS:aE:=[t0,t1,.hX 65024 65040]def fT(Sq R:H D):aE:=[t0,t1,.hX 65024 65040,.ae Sq,.ae R]def n5(ss:ai)(ds:H D)(j l:J)(Sq R:H D):aE:=[t0,t1,.hX 65024 65040,.ae Sq,.ae R,.it (.str ss j),.it (.aD ds l),.gD 2,.it (.zip [5,6] 7)]
section
variable (C:bV)(a b c d e f g h i j k x w:D)theorem v_0:ht C 60 [("words",.d w),("x",.d x)] [fm 0] bK=B (.ok (.next,[("nothing",.d (.ae (bb pq))),("words",.d w),("x",.d x)]),sS):=by lk
theorem v_1:ht C 59 [("nothing",.d (.ae (bb pq))),("words",.d w),("x",.d x)] [fm 1] sS=B (.ok (.next,yJ x w),sS):=rfl
theorem v_2:ht C 58 (yJ x w) [fm 2] sS=(b5 ((C [.d x,.d (.aD (bb yI))] []).bind λ A=>Bv A λ e=>lB ((Ev.of (hE e 11)).bind λ es=>qn (eG (d4 [(330,C)])) 30 kT (nmV.map λ n=>LO n ey) (es.map V.d) (yJ x w))) λ ar=>ht C 57 ar []) sS:=by lk
end
def iH(c d:J):Nat:=match bE c 60000 with|true=>Jx c d|false=>c
noncomputable def iI(c:J):H Nat:=match aL c 64257 with|true=>[102,105]|false=>match aL c 64258 with|true=>[102,108]|false=>[c]noncomputable def fo:H Nat:=[102,105,108,64257,64258]noncomputable def ke{α β:Type}(xs:H α)(f:α->β):H β:=xs.map f
theorem n6{α r:Type}{xs:H α}{f g:α->r}(h:ke xs f=ke xs g){x:α}(K:x∈xs):f x=g x:=by
 induction xs with
 |nil=>cases K
 |cons y V I=>
  obtain⟨W,l⟩:=kp h;rcases dM.mp K with rfl|q
  ·exact W
  ·exact I l q
def VO(c D:J)(ρ:az):az:=("dress",.d (.int (D:J)))::("sign",.d (cA c))::ρ
def VP{Bq:Type}(r:U (Res (f6×az)×aE))(k:az->aE->U Bq):U Bq:=r.bind λ q=>q.1.rec (λ p=>p.1.rec (k p.2 q.2) aa aa λ u=>aa) λ u u=>aa
theorem ako{Bq:Type}{k:az->aE->U Bq}{z:Bq}(e:VP r k=B z){G:Prop}(K:∀ρ σ,r=B (.ok (.next,ρ),σ)->k ρ σ=B z->G):G:=by
 rcases r with _|⟨⟨f,ρ⟩|_,σ⟩
 ·exact nn e
 ·rcases f with _|_|_|_
  ·exact K ρ σ rfl e
  all_goals exact nn e
 ·exact nn e
def CT(C:bV)(ρ:az)(c D:J)(σ:aE):U (az×aE):=VP (ht C 55 (VO c D ρ) (f_ (fm 4)) σ) λ l m=>fP ρ 9 l m
section
variable (C:bV)(a b c d e f g h i j k x w:D)(ss:ai)(ds:H D)(p q:J)(s0 s1 lQ h1:D)theorem yK:lu kT (iG (fm 4)) (.aD [s0,s1]) (gs a b c d e f g h i j k x w)=B (((("dress" :ai),V.d s1):ai×V)::("sign",V.d s0)::gs a b c d e f g h i j k x w):=rfl
theorem VQ:ke fo (λ y=>ke (aw 40) λ z=>CT C (gs a b c d e f g h i j k x w) y z (n5 ss ds p q [] []))=ke fo λ y=>ke (aw 40) λ z=>B (gs a b c d e f g h i j k x w,n5 ss ds p q [cA (iH y z)] [aK (iI y)]):=by lk
theorem VR:ke fo (λ y=>ke (aw 40) λ z=>CT C (gs a b c d e f g h i j k x w) y z (n5 ss ds p q [s0] [lQ]))=ke fo λ y=>ke (aw 40) λ z=>B (gs a b c d e f g h i j k x w,n5 ss ds p q [s0,cA (iH y z)] [lQ,aK (iI y)]):=by lk
theorem t_2:ke fo (λ y=>ke (aw 40) λ z=>CT C (gs a b c d e f g h i j k x w) y z (n5 ss ds p q [s0,s1] [lQ,h1]))=ke fo λ y=>ke (aw 40) λ z=>B (gs a b c d e f g h i j k x w,n5 ss ds p q [s0,s1,cA (iH y z)] [lQ,h1,aK (iI y)]):=by lk
end
noncomputable def qL(o:J):H Nat:=[[102,108,105],[102,105,108],[105,102,108],[105,108,102],[108,105,102],[108,102,105]].getD o []def eI:D:=.aD ((aw 6).map λ o=>aK (qL o))def kf(o p:J):H Nat:=match p with|0=>qL o|_=>[[64258,105],[64257,108],[105,64258],[105,108,102],[108,105,102],[108,64257]].getD o []def n7:bx->PySem.Expr:=hz 0
section
variable (C:bV)(a b c f g h i j k x:D)abbrev VS(o p:J):az:=gs a b c (.int (o:J)) (.int (p:J)) f g h i j k x eI
theorem akp:(bq (aw 6) λ o=>bq (aw 2) λ p=>((ba (eG (d4 [(330,C)])) 30 kT (VS a b c f g h i j k x o p) (n7 (fm 4))).1.bind g8) (fT [] []))=br (aw 6) λ o=>br (aw 2) λ p=>B (.ok (.aH 8),n5 (cN (kf o p)) [i,j,k] 0 0 [] []):=by lk
theorem v_I(l:o<6)(u:p<2):((ba (eG (d4 [(330,C)])) 30 kT (VS a b c f g h i j k x o p) (n7 (fm 4))).1.bind g8) (fT [] [])=B (.ok (.aH 8),n5 (cN (kf o p)) [i,j,k] 0 0 [] []):=bc (bc (akp C a b c f g h i j k x) (a4.mpr l)) (a4.mpr u)
end
theorem yL(W:gH 8 σ=B (B (.aD [cA y,.int (z:J)]),gO))(l:lq (iG (fm 4)) σ 8=S)(v:lu kT (iG (fm 4)) (.aD [cA y,.int (z:J)]) ρ=B (VO y z ρ))(h:CT C ρ y z gO=B (ρ,qd)):gR kT (iG (fm 4)) (λ ρ=>ht C 55 ρ (f_ (fm 4))) 8 ρ 9 (N+1) ρ σ=gR kT (iG (fm 4)) (λ ρ=>ht C 55 ρ (f_ (fm 4))) 8 ρ 9 N ρ qd:=
 ako h λ m n e=>BB W l v e
section
variable (C:bV)(a b c d e f g h i j k x w:D)(qM qN CU bS cG dJ N:J)(Sq R:H D)abbrev qO:az:=gs a b c d e f g h i j k x w
noncomputable abbrev VT(bS cG dJ:J):H D:=[.int (bS:J),.int (cG:J),.int (dJ:J)]theorem l_3(p:qM∈fo)(W:qN∈fo)(l:CU∈fo)(K:bS<40)(D:cG<40)(m:dJ<40):j7 (qO a b c d e f g h i j k x w) 5 (gR kT (iG (fm 4)) (λ ρ=>ht C 55 ρ (f_ (fm 4))) 8 (qO a b c d e f g h i j k x w) 9 1000 (qO a b c d e f g h i j k x w) (n5 (cN [qM,qN,CU]) (VT bS cG dJ) 0 0 [] []))=B (.ok (.next,qO a b c d e f g h i j k x w),fT [cA (iH qM bS),cA (iH qN cG),cA (iH CU dJ)] [aK (iI qM),aK (iI qN),aK (iI CU)]):=by rw[yL rfl rfl (yK ..) (n6 (n6 (VQ C a b c d e f g h i j k x w _ _ 1 1) p) (a4.mpr K)),yL rfl rfl (yK ..) (n6 (n6 (VR C a b c d e f g h i j k x w _ _ 2 2 _ _) W) (a4.mpr D)),yL (rfl ..) rfl (yK ..) (n6 (n6 (t_2 C a b c d e f g h i j k x w _ _ 3 3 _ _ _ _) l) (a4.mpr m))];exact rfl ..
theorem l_2(p:qM∈fo)(W:qN∈fo)(K:bS<40)(D:cG<40):j7 (qO a b c d e f g h i j k x w) 5 (gR kT (iG (fm 4)) (λ ρ=>ht C 55 ρ (f_ (fm 4))) 8 (qO a b c d e f g h i j k x w) 9 1000 (qO a b c d e f g h i j k x w) (n5 (cN [qM,qN]) (VT bS cG dJ) 0 0 [] []))=B (.ok (.next,qO a b c d e f g h i j k x w),fT [cA (iH qM bS),cA (iH qN cG)] [aK (iI qM),aK (iI qN)]):=by rw[yL rfl rfl (yK ..) (n6 (n6 (VQ C a b c d e f g h i j k x w _ _ 1 1) p) (a4.mpr K)),yL rfl rfl (yK ..) (n6 (n6 (VR C a b c d e f g h i j k x w _ _ 2 2 _ _) W) (a4.mpr D))];exact rfl ..
end
def dV(m:J):H Nat:=(sR.drop m).take 1
def iJ(s P:H J)(sp st:J):H Nat:=s.take sp++((pq.drop st).take 1++(P++s.drop sp))def sT(P:H J)(ρ:az):az:=("put",.d (.ae (P.map cA)))::ρ
def qP(T P:H J)(ρ:az):az:=("text",.d (aK T))::sT P ρ
section
variable (C:bV)(a b c d e f g h i j k x w:D)(s0 s1 s2 m:J)(Sq R:H D)theorem v_5:bq (aw 46) (λ z=>ht C 55 (gs a b c d e f g (.int (z:J)) i j k x w) [fm 5] (fT Sq R))=br (aw 46) λ z=>B (.ok (.next,sT (dV z) (gs a b c d e f g (.int (z:J)) i j k x w)),fT Sq R):=by lk
theorem akq:bq (aw 4) (λ y=>bq (aw 28) λ z=>ht C 54 (sT [m] (gs a b c d e (.int (z:J)) (.int (y:J)) h i j k x w)) [fm 6] (fT [cA s0,cA s1,cA s2] R))=br (aw 4) λ y=>br (aw 28) λ z=>B (.ok (.next,qP (iJ [s0,s1,s2] [m] y z) [m] (gs a b c d e (.int (z:J)) (.int (y:J)) h i j k x w)),fT [cA s0,cA s1,cA s2] R):=by lk
theorem akr:bq (aw 4) (λ y=>bq (aw 28) λ z=>ht C 54 (sT [] (gs a b c d e (.int (z:J)) (.int (y:J)) h i j k x w)) [fm 6] (fT [cA s0,cA s1,cA s2] R))=br (aw 4) λ y=>br (aw 28) λ z=>B (.ok (.next,qP (iJ [s0,s1,s2] [] y z) [] (gs a b c d e (.int (z:J)) (.int (y:J)) h i j k x w)),fT [cA s0,cA s1,cA s2] R):=by lk
theorem aks:bq (aw 4) (λ y=>bq (aw 28) λ z=>ht C 54 (sT [m] (gs a b c d e (.int (z:J)) (.int (y:J)) h i j k x w)) [fm 6] (fT [cA s0,cA s1] R))=br (aw 4) λ y=>br (aw 28) λ z=>B (.ok (.next,qP (iJ [s0,s1] [m] y z) [m] (gs a b c d e (.int (z:J)) (.int (y:J)) h i j k x w)),fT [cA s0,cA s1] R):=by lk
theorem akt:bq (aw 4) (λ y=>bq (aw 28) λ z=>ht C 54 (sT [] (gs a b c d e (.int (z:J)) (.int (y:J)) h i j k x w)) [fm 6] (fT [cA s0,cA s1] R))=br (aw 4) λ y=>br (aw 28) λ z=>B (.ok (.next,qP (iJ [s0,s1] [] y z) [] (gs a b c d e (.int (z:J)) (.int (y:J)) h i j k x w)),fT [cA s0,cA s1] R):=by lk
end
def aku(s:bx):H PySem.Expr:=(fI (hz 0 s)).es
def e32(n:J):PySem.Expr:=(aku (fm 7)).getD n (.Name "" ey)def vn(W A:J):D:=aK ((([97,66,67,65,98,99].drop W).take 1)++(([9,0,31,127,32].drop A).take 1))def ig(R:H (H J))(P:H J)(sp:J):H Nat:=lR ((R.take sp).flatten++(P++(R.drop sp).flatten))def dW(o p:J):H (H J):=(kf o p).map iI
section
variable (C:bV)(a b c d e f g h i j k x w:D)(Sq R:H D)(P T:H J)abbrev lS(ρ:az)(n:J):=(ba (eG (d4 [(330,C)])) 29 kT ρ (e32 n)).1
theorem v_7(ρ:az)(σ:aE){a b c:D}(p:lS C ρ 0 σ=B (.ok (.d a),σ))(W:lS C ρ 1 σ=B (.ok (.d b),σ))(l:lS C ρ 2 σ=B (.ok (.d c),σ)):ht C 53 ρ [fm 7] σ=B (.ok (.ret (.d (.aD [a,b,c])),ρ),σ):=by
 obtain h:uf [lS C ρ 0,lS C ρ 1,lS C ρ 2] σ=B _:=by
  obtain q:(cE [lS C ρ 1,lS C ρ 2]) σ=B _:=by
   apply Y (aT W);obtain Q:(cE [lS C ρ 2]) σ=B _:=by exact Y (aT l) rfl
   exact Y (aT Q) rfl
  exact Y (aT (Y (aT p) (Y (aT q) rfl))) rfl
 exact Y rfl (Y (aT (af:=σ) (Y (aT h) rfl)) rfl)theorem n_0:bq (aw 6) (λ y=>bq (aw 12) λ z=>lS C (qP T P (gs (.int (y:J)) (.int (z:J)) c d e f g h i j k x w)) 0 (fT Sq R))=br (aw 6) λ y=>br (aw 12) λ z=>B (.ok (.d (vn y z)),fT Sq R):=by lk
theorem n_1:bq (aw 8) (λ z=>lS C (qP T P (gs a b (.int (z:J)) d e f g h i j k x w)) 1 (fT Sq R))=br (aw 8) λ z=>B (.ok (.d (match aL z 0 with|true=>.none|false=>aK T)),fT Sq R):=by lk
theorem n_2:bq (aw 6) (λ o=>bq (aw 2) λ p=>bq (aw 4) λ y=>bq (aw 24) λ m=>lS C (qP T (dV m) (gs a b c d e f (.int (y:J)) h i j k x w)) 2 (fT Sq ((dW o p).map aK)))=br (aw 6) λ o=>br (aw 2) λ p=>br (aw 4) λ y=>br (aw 24) λ m=>B (.ok (.d (aK (ig (dW o p) (dV m) y))),fT Sq ((dW o p).map aK)):=by lk
end
def hc(o p:J)(zs:H J):H Nat:=pJ iH (kf o p) zs
theorem ssA:(bq (aw 6) λ o=>bq (aw 2) λ p=>(kf o p).all fo.contains&&(aZ 2 (O (kf o p))&&aZ (O (kf o p)) 3))=br (aw 6) λ u=>br (aw 2) λ u=>true:=rfl
theorem yM(i:o<6)(u:p<2):(∀y∈kf o p,y∈fo)/\2<=O (kf o p)/\O (kf o p)<=3:=
 have h:=bo (bc (bc ssA (a4.mpr i)) (a4.mpr u));have j:=bo h.2
 ⟨λ y Q=>oq.mp (b9.mp h.1 y Q),b8 j.1,b8 j.2⟩
theorem VU(h:o<6)(u:p<2):(∃y t F,kf o p=[y,t,F]/\y∈fo/\t∈fo/\F∈fo)\/∃y t,kf o p=[y,t]/\y∈fo/\t∈fo:=by
 refine ff (yM h u) λ m D n=>?_;generalize kf o p=l at*;rcases l with _|⟨y,_|⟨t,_|⟨F,_|_⟩⟩⟩
 ·exact aR D (by decide)
 ·exact aR D (by simp)
 ·exact .inr (bh y t ⟨rfl,m _ (.head _),m _ (.tail _ (.head _))⟩)
 ·exact .inl (e_ y t F ⟨rfl,m _ (.head _),m _ (.tail _ (.head _)),m _ (.tail _ (.tail _ (.head _)))⟩)
 ·exact aR n (by simp)noncomputable def CV(m:J):Nat:=match bE m 23 with|true=>m|false=>23
theorem VV(m:J):dV m=dV (CV m)/\CV m<24:=by
 unfold CV;cases h:bE m 23 with
 |true=>exact⟨rfl,by have:=cg.mp h;exact kn ‹_›⟩
 |false=>
  have:23<=m:=by
   rcases DZ m 23 with q|q
   ·rw[cg.mpr q]at h;exact aR h (by decide)
   ·exact q
  refine⟨?_,show 23<24 by decide⟩;dsimp only[dV];rw[Zv this,Zv (by decide)]def sU(a b c o p st sp m:J)(zs:H J):D:=.aD [vn a b,match aL c 0 with|true=>.none|false=>aK (iJ (hc o p zs) (dV m) sp st),aK (ig (dW o p) (dV m) sp)]
section
variable (C:bV){a b c o p st sp m bS cG dJ x:J}abbrev sV(a b c o p st sp m bS cG dJ x:J):az:=gs (.int (a:J)) (.int (b:J)) (.int (c:J)) (.int (o:J)) (.int (p:J)) (.int (st:J)) (.int (sp:J)) (.int (m:J)) (.int (bS:J)) (.int (cG:J)) (.int (dJ:J)) (.int (x:J)) eI
theorem akv(i:o<6)(u:p<2)(k:bS<40)(K:cG<40)(n:dJ<40):ht C 56 (sV a b c o p st sp m bS cG dJ x) [fm 4] (fT [] [])=B (.ok (.next,sV a b c o p st sp m bS cG dJ x),fT ((hc o p [bS,cG,dJ]).map cA) ((dW o p).map aK)):=by
 obtain e:sg kT 1000 (iG _) (n7 (fm 4)) (ba _ 30 kT (sV a b c o p st sp m bS cG dJ x) _).1 (λ ρ=>ht C 55 ρ _) (sV a b c o p st sp m bS cG dJ x) (fT [] [])=B (.ok (.next,sV a b c o p st sp m bS cG dJ x),fT ((hc o p [bS,cG,dJ]).map cA) ((dW o p).map aK)):=by
  refine Y (QR rfl (v_I C _ _ _ _ _ _ _ _ _ _ i u)) ?_;delta hc dW;rcases VU i u with⟨y,t,F,h,q,W,j⟩|⟨y,t,h,q,W⟩
  ·exact L h (l_3 C _ _ _ _ _ _ _ _ _ _ _ _ _ y t F bS cG dJ q W j k K n)
  ·exact L h (l_2 C _ _ _ _ _ _ _ _ _ _ _ _ _ y t bS cG dJ q W k K)
 exact Y (aT e) rfl
theorem v_text(d:sp<4)(r:st<28)(i:o<6)(u:p<2)(N:T=iJ (hc o p [bS,cG,dJ]) (dV m) sp st)(R:H D):ht C 54 (sT (dV m) (sV a b c o p st sp m bS cG dJ x)) [fm 6] (fT ((hc o p [bS,cG,dJ]).map cA) R)=B (.ok (.next,qP T (dV m) (sV a b c o p st sp m bS cG dJ x)),fT ((hc o p [bS,cG,dJ]).map cA) R):=by
 subst N;unfold hc;rcases VU i u with⟨y,v,F,h,_⟩|⟨y,v,h,_⟩<;>rw[h]<;>rcases(show dV m=[]\/∃t,dV m=[t]from by
   unfold dV;rcases sR.drop m with _|⟨t,l⟩
   ·exact .inl rfl
   ·exact .inr ⟨t,rfl⟩)with q|⟨t,q⟩<;>rw[q]
 ·exact bc (bc (akr C _ _ _ _ _ _ _ _ _ _ _ _ _ _ _) (a4.mpr d)) (a4.mpr r)
 ·exact bc (bc (akq C _ _ _ _ _ _ _ _ _ _ _ _ _ _ _ _) (a4.mpr d)) (a4.mpr r)
 ·exact bc (bc (akt C _ _ _ _ _ _ _ _ _ _ _ _ _ _) (a4.mpr d)) (a4.mpr r)
 ·exact bc (bc (aks C _ _ _ _ _ _ _ _ _ _ _ _ _ _ _) (a4.mpr d)) (a4.mpr r)
end
section
variable {a b c o p st sp m bS cG dJ x:J}theorem akw(h:F [.int (x:J),.aD (bb yI)]=B (.ae (bb [a,b,c,o,p,st,sp,m,bS,cG,dJ]))):ht (cx F) 58 (yJ (.int (x:J)) eI) [fm 2] sS=B (.ok (.next,VN (.int (a:J)) (.int (b:J)) (.int (c:J)) (.int (o:J)) (.int (p:J)) (.int (st:J)) (.int (sp:J)) (.int (m:J)) (.int (bS:J)) (.int (cG:J)) (.int (dJ:J)) (.int (x:J)) eI),sS):=by rw[v_2];unfold b5;dsimp only[Ev.bind];refine L (sI h rfl) ?_;lk
theorem akx(G:F [.int (x:J),.aD (bb yI)]=B (.ae (bb [a,b,c,o,p,st,sp,m,bS,cG,dJ])))(g:a<6)(q:b<12)(A:c<8)(h:o<6)(u:p<2)(r:st<28)(f:sp<4)(s:m<46)(k:bS<40)(K:cG<40)(n:dJ<40):∃ar i,ht (cx F) 60 [("words",.d eI),("x",.d (.int (x:J)))] (bP (aY 32)) bK=B (.ok (.ret (.d (sU a b c o p st sp m [bS,cG,dJ])),ar),i)/\i.take 2=bK:=by
 refine cq (VV m) λ M E=>?_;generalize N:iJ _ _ sp st=T;obtain e:=bc (bc (bc (bc (n_2 _ _ _ _ _ _ _ _ _ _ _ _ eI _ T) (a4.mpr h)) (a4.mpr u)) (a4.mpr f)) (a4.mpr E);rw[<-M]at e;obtain j:sU a b c o p st sp m [bS,cG,dJ]=.aD [vn a b,match aL c 0 with|true=>.none|false=>aK T,aK _]:=by unfold sU;rw[N]
 refine L j ?_;obtain run:=Y (cS (v_0 _ _ eI)) (Y (cS (v_1 ..)) (Y (cS (akw G)) (Y (cS ((by lk) ..)) (Y (cS (akv _ h u k K n)) (Y (cS (bc (v_5 _ _ _ _ _ _ _ _ _ _ _ _ _ _ _) (a4.mpr s))) (Y (cS (v_text _ f r h u N.symm _)) (v_7 _ _ _ (bc (bc (n_0 _ _ _ _ _ _ _ _ _ _ _ eI _ _ _ T) (a4.mpr g)) (a4.mpr q)) (bc (n_1 _ _ _ _ _ _ _ _ _ _ _ (.int x) eI _ _ _ T) (a4.mpr A)) e)))))));exact(bh _ _ ⟨run,rfl⟩)
end
noncomputable def yN(ds:H D):U (H (H J)):=match ds with|[]=>B []|d::ds=>match d with|.str s=>(yN ds).map (s.cps.toList:: ·)|_=>aa
noncomputable def CW(as bs:H (H J)):Bool:=match as with|[]=>bs.isEmpty|a::as=>match bs with|[]=>aj|b::bs=>sW a b&&CW as bs
theorem aky:∀{as bs:H (H J)},CW as bs=S->as=bs:=by
 intro as;induction as with
 |nil=>intro bs h;cases bs with
  |nil=>rfl|cons=>exact bw h
 |cons a as i=>intro bs h;cases bs with|nil=>exact bw h|cons b bs=>obtain⟨W,j⟩:=bF.mp h;rw[vo W,i j]def VW:H (H J):=(aw 6).map qL
def CX(w:D):Bool:=match w with
 |.aD ds=>match yN ds with
  |some l=>CW l VW|none=>aj
 |_=>aj
theorem akz(h:CX w=S):w=eI:=by
 cases w with
 |aD ds=>
  obtain h:(match yN ds with|some l=>CW l VW|none=>aj)=true:=h;refine eD (yN ds) (λ e=>?_) λ l e=>?_
  ·rw[e]at h;exact bw h
  ·
   rw[e]at h;rw[(show∀{ds:H D}{l:H _},yN ds=B l->ds=l.map aK from by
     intro ds;induction ds with
     |nil=>intro l h;refine ax (ak h) ?_;rfl
     |cons d ds i=>
      intro l h;cases d with
      |str s=>exact av (hR.mp h) λ ks W N=>ax N (L (i W) rfl)|_=>exact nn h) e,aky h];rfl
 |_=>exact bw h
def CY(x:J):U D:=match mS x yI with|[a,b,c,o,p,st,sp,m,bS,cG,dJ]=>B (sU a b c o p st sp m [bS,cG,dJ])|_=>aa
def CZ(ds:H D):U D:=two ds λ a w=>mG a λ x=>bR (CX w) (CY x)
theorem VX(x:J){G:Prop}(K:∀a b c o p st sp m bS cG dJ,mS x yI=[a,b,c,o,p,st,sp,m,bS,cG,dJ]->a<6->b<12->c<8->o<6->p<2->st<28->sp<4->m<46->bS<40->cG<40->dJ<40->G):G:=
 K _ _ _ _ _ _ _ _ _ _ _ rfl (dN _ (by decide)) (dN _ (by decide)) (dN _ (by decide)) (dN _ (by decide)) (dN _ (by decide)) (dN _ (by decide)) (dN _ (by decide)) (dN _ (by decide)) (dN _ (by decide)) (dN _ (by decide)) (dN _ (by decide))
theorem akA(G:gp g)(V:1<=n):cK g 340 (n+13) (cx CZ):=by
 refine yC G (fp _) (ct:=d4 [(330,cx (lO 11))]) (hJ λ p h=>?_) rfl λ ds d e=>?_
 ·rw[ek.mp h];exact CH G 11 n (i_ ..) V
 ·refine nL e λ a w E e=>nV e λ x f e=>bN e λ W dQ=>?_
  subst E f;cases akz W;refine VX x λ a b c o p st sp m bS cG dJ M i q A j h r k s K D P=>?_;unfold CY at dQ;obtain rfl:=ak (M▸dQ);exact⟨rfl,akx (Y (Je (by decide) rfl) (ax M rfl)) i q A j h r k s K D P⟩
theorem Jy:∀{l:H J}{R:H (H J)},l.map iK=R.map B->ih l=B R.flatten
 |[],[],_=>rfl|[],_::_,h=>by cases h|_::_,[],h=>by cases h|c::l,r::R,h=>by obtain⟨W,j⟩:=kp h;show((iK c).bind λ x=>(ih l).map _)=_;rw[W,Jy j];rfl
theorem akB(h:y∈fo)(fy:z<40):iK (iH y z)=B (iI y):=by
 have f:∀c,c∈VY->iH c z=Jx c z->iI c=[c]->iK (iH c z)=B (iI c):=λ c A e E=>by rw[e,E];exact Jz (Y (rq _ (vp · [c])).symm (b9.mp (b9.mp (show(VY.all λ c=>(aw 40).all λ d=>pQ (Jx c d) (vp · [c]))=S from by lk) c A) z (a4.mpr fy)))
 simp only[fo,dM,dS,jQ]at h;rcases h with rfl|rfl|rfl|rfl|rfl
 ·exact f _ (by decide) rfl rfl
 ·exact f _ (by decide) rfl rfl
 ·exact f _ (by decide) rfl rfl
 ·lk
 ·lk
theorem JA(a b:H J):lR (a++b)=lR a++lR b:=List.filter_append ..
theorem akC(h:y∈fo):lR (iI y)=iI y:=by simp[fo,dM,dS,jQ]at h;rcases h with rfl|rfl|rfl|rfl|rfl<;>rfl
theorem JB:∀{V:H J},(∀y∈V,y∈fo)->lR (V.map iI).flatten=(V.map iI).flatten
 |[],_=>rfl|y::V,h=>by simp[lZ,zo,JA,akC (h y cV),JB λ y Q=>h y (c7 _ Q)]
theorem VZ:∀{V zs:H J},(∀y∈V,y∈fo)->(∀z∈zs,z<40)->O V<=O zs->(pJ iH V zs).map iK=(V.map iI).map B
 |[],_,_,_,_=>rfl|_::_,[],_,_,h=>by simp at h|y::V,z::zs,W,j,v=>by show iK _::(pJ iH V zs).map iK=_;simp only[akB (W y cV) (j z cV),VZ (λ y Q=>W y (c7 _ Q)) (λ z fy=>j z (c7 _ fy)) (vV v)];rfl
section
variable {o p st sp m:J}{zs:H J}(dw:o<6)(hp:p<2)(fy:∀z∈zs,z<40)(cL:zs.length=3)
include dw hp fy cL
theorem akD:ih (iJ (hc o p zs) (dV m) sp st)=B (ig (dW o p) (dV m) sp):=by
 refine ff (yM dw hp) λ W j v=>?_;obtain e:=VZ W fy (le_of_le_of_eq v (id (om cL)));obtain a:ih ((hc o p zs).take sp)=B (((dW o p).take sp).flatten):=by apply Jy;delta hc dW;simp only[ZK,e,ZK]
 obtain b:ih ((hc o p zs).drop sp)=B (((dW o p).drop sp).flatten):=by apply Jy;delta hc dW;simp only[ZL,e,ZL]
 obtain n:lR ((dW o p).take sp).flatten=((dW o p).take sp).flatten:=by exact ZK▸JB λ y Q=>W y (nc Q)
 obtain N:lR ((dW o p).drop sp).flatten=((dW o p).drop sp).flatten:=by unfold dW;exact ZL▸JB λ y Q=>W y (nd Q)
 delta iJ ig;simp only[JA,JA,n,N];have:=C0 a (C0 ((show ih ((pq.drop st).take 1)=B []from by
   obtain h:∀c∈(pq.drop st).take 1,iK c=B []:=λ c A=>Jz (b9.mp (show(pq.all λ c=>vp c [])=S from by lk) c (nd (nc A)));generalize (pq.drop st).take 1=l at h;induction l with
   |nil=>rfl
   |cons c l i=>
    show((iK c).bind _)=_;rw[h c cV,i λ c A=>h c (c7 _ A)];rfl)) (C0 ((show ih (dV m)=B (lR (dV m))from by
      unfold dV;have h:∀c∈(sR.drop m).take 1,iK c=B _:=λ c A=>Jz (b9.mp (show(sR.all λ c=>vp c (lR [c]))=S from by lk) c (nd (nc A)));have cL:O ((sR.drop m).take 1)<=1:=by simp;exact Nat.min_le_left 1 _
      generalize (sR.drop m).take 1=l at h cL;rcases l with _|⟨c,_|⟨d,l⟩⟩
      ·rfl
      ·show((iK c).bind _)=_
       refine L (h c cV) ?_;show B (lR [c]++ [])=_;rw[ea]
      ·simp at cL)) b))
 exact this
omit dw hp fy cL in
theorem akE{a b c d n:J}(e:a+d=n)(cv:b<=1)(nF:c<=1)(cw:2<=n)(cZ:n<=3):2<=a+(b+(c+d))/\a+(b+(c+d))<=5:=
 ⟨bA (e▸cw) (og (bA (i_ d c) (i_ _ b)) a),bA (og (vN cv (pF nF d)) a) (by rw[api a,api a,e];exact og (og cZ 1) 1)⟩
omit fy in
theorem akF:2<=(iJ (hc o p zs) (dV m) sp st).length/\(iJ (hc o p zs) (dV m) sp st).length<=5:=by have h:=yM dw hp;have fw:(hc o p zs).length=(kf o p).length:=(List.length_zipWith ..).trans (zG (bA h.2.2 (fV cL.symm)));have a:=aM O (ti sp (hc o p zs));rw[e2]at a;unfold iJ;rw[e2,e2,e2];exact akE (n:=(hc o p zs).length) a (ZC ..) (ZC ..) (fw▸h.2.1) (fw▸h.2.2)
end
theorem V0:∀{V zs:H J},(∀y∈V,y∈fo)->(∀z∈zs,z<40)->∀c∈pJ iH V zs,eZ c=aj
 |[],_,_,_,c,h=>by cases h|_::_,[],_,_,c,h=>by cases h
 |y::V,z::zs,W,j,c,h=>by
  rcases dM.mp h with rfl|q
  ·have:=b9.mp (b9.mp (show(fo.all λ y=>(aw 40).all λ z=> !(eZ (iH y z)))=S from rfl) y (W y cV)) z (a4.mpr (j z cV))
   simpa using this
  ·exact V0 (λ y Q=>W y (c7 _ Q)) (λ z fy=>j z (c7 _ fy)) c q
theorem akG{o p st sp m:J}(dw:o<6)(hp:p<2)(fy:∀z∈zs,z<40):(iJ (hc o p zs) (dV m) sp st).any eZ=(dV m).any eZ:=by
 obtain W:∀c∈hc o p zs,eZ c=false:=V0 (yM dw hp).1 fy;obtain f:∀l:H J,(∀c∈l,eZ c=aj)->l.any eZ=false:=λ l h=>by rw[apj];exact λ c A=>by rw[h c A];decide
 unfold iJ;rw[ZM,ZM,ZM,f _ λ c A=>W c (nc A),f _ λ c A=>W c (nd A),f _ λ c A=>?_]
 ·simp
 ·have:=b9.mp (show(pq.all λ c=> !(eZ c))=S from rfl) c (nd (nc A))
  simpa using this
abbrev sX:Stmt:=clsAt 28 1
abbrev kg:=b4 (eG λ u=>aa) fj 30 (bz sX)def du:bV:=lF .kw sX λ ρ=>kg 60 ρ (bP sX)def We(k:J):Stmt:=(bP sX).getD k (.Pass ey)def kU:bx->H Stmt:=sB 0
def C2(k:J):Stmt:=(kU (We 0)).getD k (.Pass ey)def C3(b:aF):Addr:=match b with|true=>tR|false=>tS
noncomputable def qm(b:aF)(s:V)(a:V):az:=[("name",.d (.bool b)),("value",s),("self",a)]def yO(b:aF)(s:V)(a:V):az:=("regex",.d (.obj (C3 b)))::qm b s a
noncomputable def kV:Str:="Control characters not allowed in headers"
theorem Wf(b:aF)(s:ai)(a:V)(σ:aE):kg 60 (qm b (.d (.str s)) a) (bP sX) σ=(b5 (b5 (fL (ub (uU mH [.d (.obj (C3 b)),.d (.str s)])) (kg 57 (yO b (.d (.str s)) a) (kU (C2 1))) (kg 57 (yO b (.d (.str s)) a) [])) λ ar=>kg 57 ar [C2 2]) λ ar=>kg 59 ar [We 1]) σ:=by induction b<;>lk
theorem akH(b:aF)(a:V)(σ:aE):kg 60 (qm b (.d .none) a) (bP sX) σ=B (.exc "AssertionError" [.str uV],σ):=by lk
def C4(b:aF):J->Bool:=match b with|true=>nU|false=>eZ
theorem Wg(b:aF)(h:s.cps.size<=1000000)(σ:aE):uU mH [.d (.obj (C3 b)),.d (.str s)] σ=match s.cps.toList.any (C4 b)with
  |true=>B (.ok (.aH (O σ)),σ++ [.jl])|false=>B (.ok (.d .none),σ):=by
 show(mH _).bind _=_;exact(show mH (C3 b)=B (C4 b) by induction b<;>rfl).symm▸Y (eh (dD (bA h (by decide)))) (by cases s.cps.toList.any _<;>rfl)theorem yP(h:m σ=B (.ok (.ret v,ρ),af)):b5 m k σ=B (.ok (.ret v,ρ),af):=by unfold b5;rw[aT h];rfl
theorem C5{α:Type}(a b:H α):(a++b).take (O a)=a:=aoZ
theorem JC(b:aF)(g:bY σ)(c:s.cps.size<=1000000)(h:s.cps.toList.any (C4 b)=S):du [a,.d (.str s)] [("name",.d (.bool b))] σ=B (.exc "ValueError" [.str kV],σ):=by
 obtain e:ub (uU mH [.d _,.d _]) σ=B _:=by
  refine Y (aT (a:=.aH (O σ)) (af:=σ++ [.jl]) ?_) ?_
  ·rw[Wg b c,h]
  ·unfold wX
   dsimp only;obtain this:((σ++ [cj.jl]):H cj)[O σ]?=B .jl:=by rw[pN (bH _)];simp
   exact L this rfl
 obtain E:kg 60 (qm b _ a) _ σ=B _:=by rw[Wf];delta b5 fL;unfold Ev.bind;exact L e (Y ((show kg 57 (yO b (.d (.str s)) a) (kU (C2 1)) _=B (.exc "ValueError" [.str kV],(σ++ [.jl]))from rfl)) rfl)
 refine Y (o3 E) (Y (eh (by show((σ++ [cj.jl]).take (O σ)).all _=S;rw[C5];exact g.2.2)) ?_);show B (_,(σ++ [cj.jl]).take (O σ))=_;rw[C5]
theorem C6(b:aF)(g:bY σ)(c:s.cps.size<=1000000)(h:s.cps.toList.any (C4 b)=aj):du [a,.d (.str s)] [("name",.d (.bool b))] σ=B (.ok (.d (.str s)),σ):=by
 obtain e:ub (uU mH [.d _,.d _]) σ=B _:=by refine Y (aT (a:=.d .none) (af:=σ) ?_) rfl;rw[Wg b c,h]
 obtain E:kg 60 (qm b (.d (.str s)) a) _ σ=B _:=by
  refine Y (Wf ..) (yP (Y ?_ ((show(b5 (kg 57 (yO b _ a) []) λ ar=>kg 57 ar [C2 2]) σ=B (.ok (.ret _,yO b (.d (.str s)) a),σ)from rfl))));delta b5 fL;apply Y (b:=((fL _ _ _).bind _) σ) rfl;unfold Ev.bind;obtain this:fL _ _ _ σ=kg 57 _ [] σ:=by unfold fL;exact Y (aT e) rfl
  exact L this rfl
 exact Y (xG E g.2.2) Bj
theorem akI(b:aF)(g:bY σ):du [a,.d .none] [("name",.d (.bool b))] σ=B (.exc "AssertionError" [.str uV],σ):=by show ia .plain (kg 60 (qm b (.d .none) a) (bP sX)) σ=_;exact Y (xG (akH ..) g.2.2) (by dsimp only[mB];rw[ow])def b7(Bq:H D)(y:cj)(rest:aE):aE:=t0::t1:: .ae Bq::y:: .fld [("_headers",.aH 2)]:: .inst 319 4::rest
def sY:bx->PySem.Expr:=hz 0
def Wh:bx->PySem.Expr:=hz 1
noncomputable def c6(i:J):H Nat:=[[97],[66],[67],[65],[98],[99],[97,32],[66,32],[67,32],[65,32],[98,32],[99,32]].getD i []noncomputable def C7(i:J):Nat:=[0,1,2,0,1,2,3,4,5,3,4,5].getD i 0
noncomputable def mY(i:J):H Nat:=[[97],[98],[99],[97],[98],[99],[97,32],[98,32],[99,32],[97,32],[98,32],[99,32]].getD i []theorem JD:bq (aw 12) (λ i=>lD (aK (c6 i)))=br (aw 12) λ i=>B (aK (mY i)):=rfl
theorem Wi:bq (aw 12) (λ i=>bq (aw 12) λ j=>cp .NotEq (aK (mY i)) (aK (mY j)))=br (aw 12) λ i=>br (aw 12) λ j=>B (!(aL (C7 i) (C7 j))):=rfl
abbrev Ent:=J×H J
def aP(e:Ent):D:=.aD [aK (c6 e.1),aK e.2]def d6(j:J)(e:Ent):Bool:= !(aL (C7 e.1) (C7 j))abbrev dX(es:H Ent)(j:J):H D:=(es.filter (d6 j)).map aP
theorem bY.ae(g:bY (b7 Bq y rest)):bY (b7 B' y rest):=g
abbrev mZ:Stmt:=clsAt 28 4
def qQ(k:J):Stmt:=(bP mZ).getD k (.Pass ey)abbrev qR(C:bV):Cfg:=eG (d4 [(nW,C)])abbrev qS(C:bV):=b4 (qR C) fj 30 (bz mZ)noncomputable def ps(nm kh:D):az:=[("name",.d nm),("name",.d kh),("self",.aH 5)]abbrev jF:PySem.Expr:=sY (qQ 1)
section
variable (C:bV)(Bq:H D)(y:cj)(rest:aE)(nm kh:D)theorem d_0:bq (aw 12) (λ i=>(qS C 60 [("name",.d (aK (c6 i))),("self",.aH 5)] [qQ 0]) (b7 Bq y rest))=br (aw 12) λ i=>(b5 ((C [.aH 5,.d (aK (mY i))] [("name",.d (.bool S))]).bind λ v=>.ret (.next,[("name",v),("name",.d (aK (c6 i))),("self",.aH 5)])) λ ar=>qS C 59 ar []) (b7 Bq y rest):=by lk
theorem d_1:(qS C 59 (ps nm kh) [qQ 1]) (b7 Bq y rest)=(b5 ((jv aj 1000 (bz mZ) (d5 jF) (ba (qR C) 29 (bz mZ) (ps nm kh) (gc jF).iter).1 (λ ρ e=>(ba (qR C) 29 (d5 jF) ρ e).1) (λ ρ e=>(ba (qR C) 29 (d5 jF) ρ e).2) (mW jF) [gc jF] (ps nm kh)).bind λ a=>(sb (qR C) 30 (bz mZ) (ps nm kh) (Wh (qQ 1)) a).bind λ ar=>.ret (.next,ar)) λ ar=>qS C 58 ar []) (b7 Bq y rest):=by lk
theorem d_2(a:V):(sb (qR C) 30 (bz mZ) (ps nm kh) (Wh (qQ 1)) a) (b7 Bq y rest)=((BS (.aH 2) a).bind λ u=>(.ret (ps nm kh):Ev az)) (b7 Bq y rest):=rfl
theorem d_3:(ba (qR C) 29 (bz mZ) (ps nm kh) (gc jF).iter).1 (b7 Bq y rest)=B (.ok (.aH 2),b7 Bq y rest):=rfl
end
theorem Wj:bP mZ=[qQ 0,qQ 1]:=rfl
def Wk(nm:D)(d:D):U Bool:=match d with|.aD [n,_]=>(lD n).bind λ l=>cp .NotEq l nm|_=>aa
noncomputable def akJ(nm kh:D):cz:=[("name",nm),("name",kh)]theorem akK(nm kh:D)(xs:H D)(h:∀d∈xs,∃s p,d=.aD [s,p]):hs (d5 jF) (λ pr e=>(bJ (fl []) 29 (d5 jF) pr e).1) (λ pr e=>(bJ (fl []) 29 (d5 jF) pr e).2) (mW jF) (gc jF) (n3 (d5 jF) (akJ nm kh)) xs=jE (Wk nm) B xs:=yH (c:=(gc jF).ifs.getD 0 jF) rfl xs λ d l=>(f5 (h d l) λ s p w=>L w ⟨[("kv",.aD [s,p]),("name",nm),("name",kh)],rfl,rfl,rfl⟩)
theorem JE(f:D->U aF)(F:j<12)(M:∀e:Ent,e.1<12->f (aP e)=B (d6 j e)):∀es:H Ent,(∀e∈es,e.1<12)->jE f B (es.map aP)=B ((es.filter (d6 j)).map aP)
 |[],_=>rfl|e::es,h=>by show(f _).bind _=_;rw[M e (h e cV),JE f F M es λ e x=>h e (c7 _ x),vU];cases d6 j e<;>rfl
theorem akL(D:j<12)(e:Ent)(h:e.1<12):Wk (aK (mY j)) (aP e)=B (d6 j e):=by show((lD _).bind _)=_;exact L (bc JD (a4.mpr h)) (bc (bc Wi (a4.mpr h)) (a4.mpr D))theorem JF(D:j<12)(g:bY σ):du [a,.d (aK (c6 j))] [("name",.d (.bool S))] σ=B (.ok (.d (aK (c6 j))),σ)/\du [a,.d (aK (mY j))] [("name",.d (.bool S))] σ=B (.ok (.d (aK (mY j))),σ):=by obtain h:=b9.mp (show(aw 12).all (λ i=> !((mY i).any nU)&&!((c6 i).any nU))=S from rfl) j (a4.mpr D);obtain k:=b9.mp (show(aw 12).all (λ i=>aZ (O (c6 i)) 2&&aZ (O (mY i)) 2)=S from rfl) j (a4.mpr D);simp only[jK,Bool.not_eq_true']at h k;exact⟨C6 S g (bA (b8 k.1) (by decide)) h.2,C6 S g (bA (b8 k.2) (by decide)) h.1⟩def jG:bV:=lF (.plain .plain) mZ λ ρ=>qS du 60 ρ (bP mZ)theorem Wl:i4 (fl []) (qR du):=sN λ p h=>by cases h
theorem gd(h:m σ=B (.ok (.next,ρ),af)):b5 m k σ=k ρ af:=by unfold b5;rw[aT h]
theorem akM(h:j<12){es:H Ent}(x:∀e∈es,e.1<12)(z:O es<1000)(g:bY (b7 (es.map aP) y rest)):jG [.aH 5,.d (aK (c6 j))] [] (b7 (es.map aP) y rest)=B (.ok (.d .none),b7 ((es.filter (d6 j)).map aP) y rest):=by
 obtain E:=by exact Y (bc (d_0 du _ y rest) (a4.mpr h)) (Y (gd (af:=b7 _ y rest) (Y (aT (JF h g).2) rfl)) rfl)
 obtain c:=C1 aj
  (λ pr ρ s e=>(jB Wl 29 _ pr ρ s e).1) (λ pr ρ s e=>(jB Wl 29 _ pr ρ s e).2)
  (((show dt [] [("self",.aH 5)]from λ u u e=>nn e).cons _ _).cons _ _) rfl (by lk) rfl g (d_3 du _ y rest _ _) rfl (by simpa using z)
  (Y (akK _ _ _ λ d l=>by refine av (iP.mp l) λ e u w=>?_;subst w;exact(bh _ _ rfl)) (JE _ h (akL h) es x))
 obtain b:BS (.aH 2) (.d (.ae _)) (b7 _ y rest)=B _:=by show bR _ (B ((.ok ():Res gL),(b7 (es.map aP) y rest).set 2 (.ae ((es.filter (d6 j)).map aP))))=_;obtain n:=EB (d6 j) es;unfold dc;rw[gh,gh,dD (by lia),dD (by lia)];rfl
 obtain R:=by refine Y (d_1 ..) (Y (gd (ρ:=ps (aK (mY j)) (aK (c6 j))) (af:=b7 ((es.filter (d6 j)).map aP) y rest) ((aT c).trans ((aT ((d_2 ..).trans ((aT b).trans rfl))).trans rfl))) rfl)
 obtain r:qS du 60 [("name",.d (aK (c6 j))),("self",.aH 5)] (bP mZ) (b7 (es.map aP) y rest)=B (.ok (.next,ps (aK (mY j)) (aK (c6 j))),b7 ((es.filter (d6 j)).map aP) y rest):=by exact L Wj (Y (cS E) R)
 exact Y (Bi r rfl (bY.ae (B':=(es.filter (d6 j)).map aP) g).2.2) Bk
theorem C8(h:m σ=B (.exc c as,af)):b5 m k σ=B (.exc c as,af):=by delta b5 Ev.bind;exact L h rfl
noncomputable def pv(a b:J):H Nat:=([97,66,67,65,98,99].drop a).take 1++([9,0,31,127].drop b).take 1
noncomputable def JG(a b:J):H Nat:=([97,98,99,97,98,99].drop a).take 1++([9,0,31,127].drop b).take 1
section
variable (C:bV)(Bq:H D)(y:cj)(rest:aE)theorem akN:bq (aw 6) (λ a=>bq (aw 4) λ b=>(qS C 60 [("name",.d (aK (pv a b))),("self",.aH 5)] [qQ 0]) (b7 Bq y rest))=br (aw 6) λ a=>br (aw 4) λ b=>(b5 ((C [.aH 5,.d (aK (JG a b))] [("name",.d (.bool S))]).bind λ v=>.ret (.next,[("name",v),("name",.d (aK (pv a b))),("self",.aH 5)])) λ ar=>qS C 59 ar []) (b7 Bq y rest):=by lk
end
theorem C9(h:σ.all (bk (O σ))=S)(c:b1)(as:H D):uI bg σ.length (.exc c as) σ=B (.exc c as,σ):=by apply Y (eh (ow.symm▸h));dsimp only[mB];exact L ow rfl
abbrev vq:Stmt:=clsAt 28 3
def qT(k:J):Stmt:=(bP vq).getD k (.Pass ey)abbrev Wm(C Q:bV):Cfg:=eG (d4 [(ni,Q),(nW,C)])abbrev sZ(C Q:bV):=b4 (Wm C Q) fj 30 (bz vq)def exV:bx->PySem.Expr:=hz 0
def akO:J->aJ->PySem.Expr:=iu
noncomputable def n8(v nm:D):az:=[("val",.d v),("name",.d nm),("self",.aH 5)]abbrev akP(k:J):PySem.Expr:=akO k (VJ (exV (qT 1)))abbrev qU(C Q:bV)(v nm:D)(k:J):=(ba (Wm C Q) 28 (bz vq) (n8 v nm) (akP k)).1
section
variable (C Q:bV)(Bq:H D)(y:cj)(rest:aE)(nm v:D)theorem Wn:(sZ C Q 59 (n8 v nm) [qT 1]) (b7 Bq y rest)=(b5 (kK ((cE [uf [qU C Q v nm 0,qU C Q v nm 1]]).bind λ as=>qr (.aH 2::as)) (n8 v nm)) λ ar=>sZ C Q 58 ar []) (b7 Bq y rest):=by lk
theorem Wo:qU C Q v nm 0 (b7 Bq y rest)=C [.aH 5,.d nm] [("name",.d (.bool S))] (b7 Bq y rest):=rfl
theorem Wp:qU C Q v nm 1 (b7 Bq y rest)=C [.aH 5,.d v] [("name",.d (.bool aj))] (b7 Bq y rest):=rfl
end
theorem Wq:bP vq=[qT 0,qT 1]:=rfl
def pw:bV:=lF (.plain .plain) vq λ ρ=>sZ du jG 60 ρ (bP vq)theorem akQ(h:Bq.length<1000000):qr [.aH 2,.d v] (b7 Bq y rest)=B (.ok (.d .none),b7 (Bq++ [v]) y rest):=Y (aT (A0 rfl (by unfold dc;exact dD (by lia)))) rfl
section
variable {j:J}(fz:j<12){es:H Ent}(he:∀e∈es,e.1<12)(cL:es.length<1000){y:cj}{rest:aE}(g:bY (b7 (es.map aP) y rest))
include fz he cL g
theorem akR(v:D):sZ du jG 60 (n8 v (aK (c6 j))) [qT 0] (b7 (es.map aP) y rest)=B (.ok (.next,n8 v (aK (c6 j))),b7 (dX es j) y rest):=by refine Y (gd (af:=b7 _ y rest) (Y (aT (Y (aT (akM fz he cL g)) rfl)) rfl)) rfl
theorem Wr(r:sZ du jG 59 (n8 v (aK (c6 j))) [qT 1] (b7 (dX es j) y rest)=B (o,σ)):pw [.aH 5,.d (aK (c6 j)),.d v] [] (b7 (es.map aP) y rest)=uI .plain (O rest+6) o σ:=by
 obtain r:=by exact Wq.symm▸Y (cS (akR fz he cL g v)) r
 exact Y (o3 r) rfl
theorem akS(h:cs.any eZ=aj)(k:O cs<=1000):pw [.aH 5,.d (aK (c6 j)),.d (aK cs)] [] (b7 (es.map aP) y rest)=B (.ok (.d .none),b7 ((es.filter (d6 j)++ [(j,cs)]).map aP) y rest):=by
 obtain l:=EB (d6 j) es;have G:bY (b7 (dX es j) y rest):=g;obtain t:uf [qU du jG (aK cs) (aK (c6 j)) 0,qU du jG (aK cs) (aK (c6 j)) 1] (b7 (dX es j) y rest)=B (.ok (.d (aP (j,cs))),b7 (dX es j) y rest):=by exact Y (aT (Y (aT (Y (Wo du jG (dX es j) y rest (aK (c6 j)) (aK cs)) (JF fz G).1)) (Y (aT (Y (aT ((Wp du jG (dX es j) y rest (aK (c6 j)) (aK cs)).trans (C6 aj G (show cs.toArray.size<=1000000 by simp;lia) h))) rfl)) rfl))) rfl
 obtain e:sZ du jG 59 (n8 (aK cs) (aK (c6 j))) [qT 1] (b7 (dX es j) y rest)=B (.ok (.next,n8 (aK cs) (aK (c6 j))),b7 ((es.filter (d6 j)++ [(j,cs)]).map aP) y rest):=by refine Y (Wn ..) (Y (gd (ρ:=n8 (aK cs) (aK (c6 j))) (af:=b7 ((es.filter (d6 j)++ [(j,cs)]).map aP) y rest) ?_) rfl);obtain a:=akQ (Bq:=dX es j) (by rw[gh];lia);rw[show dX es j++ [aP (j,cs)]=(es.filter (d6 j)++ [(j,cs)]).map aP by simp]at a;exact Y (aT ((aT ((aT t).trans rfl:(cE [uf [qU du jG (aK cs) (aK (c6 j)) 0,qU du jG (aK cs) (aK (c6 j)) 1]]) (b7 (dX es j) y rest)=B (.ok [.d (aP (j,cs))],b7 (dX es j) y rest))).trans a)) rfl
 exact Y (Wr fz he cL g e) ((Y (eh (ow▸g.2.2)) Bk):uI .plain (O (b7 ((es.filter (d6 j)++ [(j,cs)]).map aP) y rest)) _ _=_)
theorem Ws(h:du [.aH 5,.d v] [("name",.d (.bool aj))] (b7 (dX es j) y rest)=B (.exc c as,b7 (dX es j) y rest)):pw [.aH 5,.d (aK (c6 j)),.d v] [] (b7 (es.map aP) y rest)=B (.exc c as,b7 (dX es j) y rest):=by
 have G:bY (b7 (dX es j) y rest):=g;obtain e:=by exact Y (Wn ..) (C8 (jm (jm (jm (jm (Y (aT (Y (Wo du jG (dX es j) y rest (aK (c6 j)) v) (JF fz G).1)) (jm (jm (Y (Wp du jG (dX es j) y rest (aK (c6 j)) v) h)))))))))
 exact Y (Wr fz he cL g e) (C9 G.2.2 _ _)
end
theorem akT(h:a<6)(q:b<4)(v:D)(g:bY (b7 Bq y rest)):pw [.aH 5,.d (aK (pv a b)),.d v] [] (b7 Bq y rest)=B (.exc "ValueError" [.str kV],b7 Bq y rest):=by
 obtain e:sZ du jG 60 (n8 v _) [qT 0] (b7 Bq y rest)=B _:=by
  exact C8 (jm (jm ((by
    refine cq (bF.mp (b9.mp (b9.mp (show(aw 6).all (λ a=>(aw 4).all λ b=>(JG a b).any nU&&aZ (O (JG a b)) 2)=S from rfl) a (a4.mpr h)) b (a4.mpr q))) λ W k=>?_;obtain e:=by exact Y (bc (bc (akN du Bq y rest) (a4.mpr h)) (a4.mpr q)) (C8 (jm (JC S g (bA (b8 k) (b8 rfl)) W)))
    obtain r:=by exact Wj▸Iy e
    exact Y (o3 r) (C9 g.2.2 _ _)))))
 obtain r:=by exact Wq.symm▸Iy e
 exact Y (o3 r) (C9 g.2.2 _ _)abbrev qV:Stmt:=clsAt 28 10
abbrev vr:Cfg:=eG (d4 [])abbrev JH:=b4 vr fj 30 (bz qV)def Wt:bx->PySem.Expr:=hz 0
def qVl:Stmt:=(bP qV).getD 0 (.Pass ey)abbrev kW:PySem.Expr:=Wt qVl
def C_:bV:=lF (.plain .fresh) qV λ ρ=>JH 60 ρ (bP qV)theorem w_0(Bq:H D)(y:cj)(rest:aE):(JH 60 [("self",.aH 5)] (bP qV)) (b7 Bq y rest)=(b5 (ly (jv S 1000 (bz qV) (d5 kW) (ba vr 29 (bz qV) [("self",.aH 5)] (gc kW).iter).1 (λ ρ e=>(ba vr 29 (d5 kW) ρ e).1) (λ ρ e=>(ba vr 29 (d5 kW) ρ e).2) (mW kW) [gc kW] [("self",.aH 5)]) [("self",.aH 5)]) λ ar=>JH 59 ar []) (b7 Bq y rest):=by lk
theorem w_1(Bq:H D)(y:cj)(rest:aE):(ba vr 29 (bz qV) [("self",.aH 5)] (gc kW).iter).1 (b7 Bq y rest)=B (.ok (.aH 2),b7 Bq y rest):=rfl
theorem JI(t:X.ifs=[]):
  ∀xs:H D,(∀d∈xs,∃p,sz s X.target d pr=B p/\E p e=g d)->hs s E N e X pr xs=jC g xs
 |[],_=>rfl
 |d::ds,h=>by
  refine av (h d (cV ..)) λ p W w=>?_;show((sz s X.target d pr).bind λ p=>(sA N p S X.ifs).bind λ ok=>match ok with
   |true=>(E p e).bind λ v=>(hs s E N e X pr ds).map _|false=>hs s E N e X pr ds)=_
  rw[W,gM,t,(JI t ds λ d l=>h d (c7 _ l))];exact L w rfl
noncomputable def Dc(d:D):U D:=match d with|.aD [_,v]=>B v|_=>aa
theorem JJ:∀es:H Ent,jC Dc (es.map aP)=B (es.map λ e=>aK e.2)
 |[]=>rfl|e::es=>by show(Dc _).bind _=_;exact L (JJ es) rfl
theorem akU(xs:H D)(h:∀d∈xs,∃s p,d=.aD [s,p]):hs (d5 kW) (λ pr e=>(bJ (fl []) 29 (d5 kW) pr e).1) (λ pr e=>(bJ (fl []) 29 (d5 kW) pr e).2) (mW kW) (gc kW) (n3 (d5 kW) []) xs=jC Dc xs:=by refine JI rfl xs λ d l=>(f5 (h d l) λ s p w=>?_);subst w;exact⟨[("v",p),("k",s)],rfl,rfl⟩theorem Wu:i4 (fl []) vr:=sN λ p h=>by cases h
theorem Wv{es:H Ent}(z:O es<1000)(g:bY (b7 (es.map aP) y rest)):C_ [.aH 5] [] (b7 (es.map aP) y rest)=B (.ok (.aH (O rest+6)),b7 (es.map aP) y rest++ [.ae (es.map λ e=>aK e.2)]):=by
 obtain c:=C1 S
  (λ pr ρ s e=>(jB Wu 29 _ pr ρ s e).1) (λ pr ρ s e=>(jB Wu 29 _ pr ρ s e).2)
  (show dt [] [("self",.aH 5)]from λ u u e=>nn e) rfl rfl rfl g (w_1 _ y rest) rfl (by simpa using z)
  (Y (akU _ λ d l=>by refine av (iP.mp l) λ e u w=>?_;subst w;exact(bh _ _ rfl)) (JJ es))
 obtain r:=by exact Y (w_0 ..) (yP (Y (aT c) rfl))
 obtain E:bE _ (O _)=false:=by rw[show O (b7 (es.map aP) y rest)=O rest+6 from rfl];cases h:bE _ _ with|false=>rfl|true=>exact aR (cg.mp h) (hu _)
 obtain f:((b7 _ y rest++ [cj.ae (es.map λ e=>aK e.2)]):H cj)[O rest+6]?=B (.ae (es.map λ e=>aK e.2)):=by rw[show O rest+6=O (b7 _ y rest)from rfl,pN (bH _)];simp
 refine Y (o3 r) (Y (eh (by show((b7 _ y rest++ [_]).take (b7 _ y rest).length).all _=S;rw[C5];exact g.2.2)) ?_);show(match bE _ _ with|true=>_|false=>jW _ _)=_;refine ax E.symm (Y (rT f) ?_);show B _=_;exact L (C5 ..) rfl
abbrev JK:Stmt:=clsAt 28 0
abbrev i6:Stmt:=clsAt 28 8
abbrev JL:Stmt:=clsAt 28 15
def Ww:bV:=lF (.opt .keep) JK λ ρ=>b4 (eG (d4 [(nW,du)])) fj 30 (bz JK) 60 ρ (bP JK)def vt:bV:=lF (.opt .plain) i6 λ ρ=>b4 (eG (d4 [(nW,du)])) fj 30 (bz i6) 60 ρ (bP i6)def JM:bV:=lF (.plain .plain) JL λ ρ=>b4 (eG (d4 [(uX,vt),(nW,du)])) fj 30 (bz JL) 60 ρ (bP JL)def Wx:bV:=BW gZ Ww
def Dd:H (ao×bV):=[(340,cx CZ),(345,cx CS),(gZ,Wx),(l8,pw),(x_,C_),(ya,JM),(uX,vt)]
section
variable {g:bX}(G:gp g){n:J}(da:0<n)
include G da
theorem JN:cK g nW (n+1) du:=mL (G.fns _ _ _ rfl) G.base λ u u u u c=>lC (n0 G 0) 30 60 _ _ _ _ _ _ _ (nZ G da (hJ (l:=[]) λ p h=>by cases h)) c
theorem JO:qx g (n+1) (d4 [(nW,du)]):=hJ λ p h=>L (ek.mp h) (JN G da)theorem akV:cK g ni (n+2) jG:=mL (G.fns _ _ _ rfl) G.base λ u u u u c=>lC (n0 G 0) 30 60 _ _ _ _ _ _ _ (nZ G (fp _) (JO G da)) c
theorem Wy:cK g uX (n+2) vt:=mL (G.fns _ _ _ rfl) G.base λ u u u u c=>lC (n0 G 0) 30 60 _ _ _ _ _ _ _ (nZ G (fp _) (JO G da)) c
theorem akW:cK g tP (n+2) Ww:=mL (G.fns _ _ _ rfl) G.base λ u u u u c=>lC (n0 G 0) 30 60 _ _ _ _ _ _ _ (nZ G (fp _) (JO G da)) c
theorem akX:cK g x_ (n+1) C_:=mL (G.fns _ _ _ rfl) G.base λ u u u u c=>lC (n0 G 0) 30 60 _ _ _ _ _ _ _ (nZ G da (hJ λ p h=>by cases h)) c
theorem akY:cK g l8 (n+3) pw:=mL (G.fns _ _ _ rfl) G.base λ u u u u c=>lC (n0 G 0) 30 60 _ _ _ _ _ _ _ (nZ G (fp _) (hJ (AllP.mem (.cons (akV G da) (.cons (JN G (fp _)) .nil))))) c
theorem akZ:cK g ya (n+3) JM:=mL (G.fns _ _ _ rfl) G.base λ u u u u c=>lC (n0 G 0) 30 60 _ _ _ _ _ _ _ (nZ G (fp _) (hJ (AllP.mem (.cons (Wy G da) (.cons (JN G (fp _)) .nil))))) c
theorem ak0:qx g (n+13) (d4 Dd):=by
 refine λ a C e=>lg G.cls λ N X K M m o b=>?_;obtain q:(a,C)∈Dd:=by
  revert e;unfold d4;generalize Dd=l;intro e;induction l with
  |nil=>exact nn e
  |cons p l i=>
   rw[gY]at e;refine dO (a==p.1) (λ I=>?_) λ I=>?_
   ·rw[I]at e;refine ax (ak e) ?_;rw[cI.mp I];exact cV
   ·rw[I]at e;exact c7 _ (i e)
 have f:∀{a C},cK g a _ C->xJ g a _ C/\(a≠gZ->cK g a (n+13) C):=λ h=>⟨h.w,λ u=>h⟩;unfold Dd at q;simp[dM,dS,jQ,apa]at q;rcases q with⟨rfl,rfl⟩|⟨rfl,rfl⟩|⟨rfl,rfl⟩|⟨rfl,rfl⟩|⟨rfl,rfl⟩|⟨rfl,rfl⟩|⟨rfl,rfl⟩
 ·exact f (akA G da)
 ·exact f (akn G (Nat.le_add_of_sub_le da))
 ·exact⟨agP K m (akW G (by lia)),λ h=>aR rfl h⟩
 ·exact f (akY G (by lia))
 ·exact f (akX G (fp _))
 ·exact f (akZ G (by lia))
 ·exact f (Wy G (fp _))
end
abbrev d9:Scope:=bz (aY 34)def cO(k:J):Stmt:=(bP (aY 34)).getD k (.Pass ey)def ctK(K:J->bV):H (ao×bV):=[(340,K 0),(345,K 1),(gZ,K 2),(l8,K 3),(x_,K 4),(ya,K 5),(uX,K 6)]abbrev px(K:J->bV):Cfg:=eG (d4 (ctK K))abbrev cB(K:J->bV):=b4 (px K) fj 30 d9
abbrev eQ(K:J->bV)(N:J)(ρ:az)(e:aJ):=ba (px K) N d9 ρ e
def dH(k:J):Stmt:=(f_ (cO 3)).getD k (.Pass ey)noncomputable def dR(s:aF):Nat:=match s with|false=>3|true=>8
noncomputable def fU(s:aF):Nat:=match s with|false=>8|true=>9
def cC(s:aF)(Bq Yq:H D)(M:H (ai×V))(xs:H D)(k:J)(Q:H D):aE:=b7 Bq (.ae Yq) (.fY M:: .it (.list xs k)::(match s with|false=>[]|true=>[.ae Q]))def cm(cJ:J)(cl:D):az:=[("plain",.aH cJ),("box",.aH 5),("means",.aH 6),("begun",.aH 2),("refused",.d (.str kV)),("words",.d eI),("cells",.d cl)]noncomputable def Wz(nm t r x:D)(ρ:az):az:=("read",.d r)::("text",.d t)::("name",.d nm)::("x",.d x)::ρ
noncomputable def s6:Str:="ValueError: Control characters not allowed in headers"
noncomputable def qW:Str:="AssertionError: Header names/values must be of type str (got None)"
def dC(nm t r x:D)(ρ:az):az:=("due",.d (.str s6))::("told",.d (.str ""))::Wz nm t r x ρ
noncomputable def eJ(a:U (U D))(n:J)(ρ:az):az:=match a with|none=>ρ|some aa=>("plain",.aH n)::ρ|some (B d)=>("due",.d d)::("plain",.aH n)::ρ
noncomputable def De(e:U D)(ρ:az):az:=match e with|none=>ρ|some d=>("told",.d d)::ρ
def hK:bx->PySem.Expr:=hz 0
def ifO:bx->H Stmt:=sB 1
def s7(k:J):Stmt:=(kU (dH 2)).getD k (.Pass ey)def vu:Stmt:=(ifO (s7 1)).getD 0 (.Pass ey)def yQ(k:J):Stmt:=(kU vu).getD k (.Pass ey)def vv(s:bx):H ExceptHandler:=(jg s).dd
def lT:J->aJ->PySem.Expr:=iu
abbrev jH:PySem.Expr:=sY (s7 0)
section
variable (K:J->bV)(s:aF)(Bq Yq Q P:H D)(M:H (ai×V))(xs:H D)(k:J)(cJ:J)(cl x nm t r:D)(σ:aE)theorem b_0:cB K 56 (("x",.d x)::cm cJ cl) [dH 0] σ=(b5 ((K 0 [.d x,.d eI] []).bind λ a=>Bv a λ e=>lB ((Ev.of (hE e 3)).bind λ es=>qn (px K) 30 d9 (([("name" :ai),"text","read"]).map λ n=>LO n ey) (es.map V.d) (("x",.d x)::cm cJ cl))) λ ar=>cB K 55 ar []) σ:=by lk
theorem WW(ρ:az):cB K 54 ρ [dH 2] σ=(b5 (fL (eQ K 30 ρ (hK (dH 2))).2 (cB K 53 ρ (kU (dH 2))) (cB K 53 ρ [])) λ ar=>cB K 53 ar []) σ:=rfl
theorem i_0(ρ:az):cB K 53 ρ [s7 0] σ=(b5 (fb d9 "plain" (jv S 1000 d9 (d5 jH) (eQ K 29 ρ (gc jH).iter).1 (λ ρ e=>(ba (px K) 29 (d5 jH) ρ e).1) (λ ρ e=>(ba (px K) 29 (d5 jH) ρ e).2) (mW jH) [gc jH] ρ) ρ) λ ar=>cB K 52 ar []) σ:=by lk
theorem WY(n:J)(cs:H J):cB K 52 (eJ (B aa) n (dC nm (aK cs) r x (cm cJ cl))) [s7 1] σ=(b5 (b5 (fL (eQ K 30 (eJ (B aa) n (dC nm (aK cs) r x (cm cJ cl))) (hK vu)).2 (cB K 50 (eJ (B aa) n (dC nm (aK cs) r x (cm cJ cl))) (kU vu)) (cB K 50 (eJ (B aa) n (dC nm (aK cs) r x (cm cJ cl))) [])) λ ar=>cB K 50 ar []) λ ar=>cB K 51 ar []) σ:=rfl
theorem j_1:cB K 49 (eJ (B (B (.str ""))) (fU s) (dC nm t r x (cm cJ cl))) [yQ 1] (cC s Bq Yq M xs k Q++ [.ae P])=(b5 (kK (qr [.aH (fU s),.d (.aD [nm,t])]) (eJ (B (B (.str ""))) (fU s) (dC nm t r x (cm cJ cl)))) λ ar=>cB K 48 ar []) (cC s Bq Yq M xs k Q++ [.ae P]):=by induction s<;>lk
theorem WZ(a:U (U D))(n:J)(ext:aE):cB K 53 (eJ a n (dC nm t r x (cm cJ cl))) [dH 3] (cC s Bq Yq M xs k Q++ext)=(b5 (qp ee d9 (λ ρ body=>b4 fj fj 30 d9 52 ρ body) ((((K 3 [.aH 5,.d nm,.d t] []).bind λ u=>(.ret ():Ev gL)).bind λ u=>(.ret (eJ a n (dC nm t r x (cm cJ cl))):Ev az)).bind λ ar=>.ret (.next,ar)) (vv (dH 3)) (eJ a n (dC nm t r x (cm cJ cl)))) λ ar=>cB K 52 ar []) (cC s Bq Yq M xs k Q++ext):=by rcases a with _|_|d<;>induction s<;>lk
theorem W_(a:U (U D))(n:J):uO (qo ee d9 (λ ρ body=>b4 fj fj 30 d9 52 ρ body) "ValueError" [.str kV] (vv (dH 3)) (eJ a n (dC nm t r x (cm cJ cl)))) σ=B (.ok (.next,De (B (.str s6)) (eJ a n (dC nm t r x (cm cJ cl)))),σ):=by rcases a with _|_|d<;>lk
theorem h_a(a:U (U D))(n:J):uO (qo ee d9 (λ ρ body=>b4 fj fj 30 d9 52 ρ body) "AssertionError" [.str uV] (vv (dH 3)) (eJ a n (dC nm t r x (cm cJ cl)))) σ=B (.ok (.next,De (B (.str qW)) (eJ a n (dC nm t r x (cm cJ cl)))),σ):=by rcases a with _|_|d<;>lk
abbrev qX(e:U D)(a:U (U D))(n:J)(nm t r x:D)(cJ:J)(cl:D):az:=De e (eJ a n (dC nm t r x (cm cJ cl)))theorem b_4(e:U D)(a:U (U D))(n:J)(ext:aE):cB K 52 (qX e a n nm t r x cJ cl) [dH 4] (cC s Bq Yq M xs k Q++ext)=(b5 ((K 4 [.aH 5] []).bind λ v=>.ret (.next,("shown",v)::qX e a n nm t r x cJ cl)) λ ar=>cB K 51 ar []) (cC s Bq Yq M xs k Q++ext):=by rcases a with _|_|d<;>induction e<;>induction s<;>lk
end
theorem Df:kU (dH 2)=[s7 0,s7 1]/\kU vu=[yQ 0,yQ 1]:=⟨rfl,rfl⟩noncomputable def Dg(a:U (U D))(cJ n:J):Nat:=match a with|none=>cJ|some _=>n
abbrev lU:PySem.Expr:=hK (dH 5)abbrev kX:PySem.Expr:=iu 1 (lT 2 lU)
section
variable (K:J->bV)(cJ:J)(cl x nm t r:D)(σ:aE)(a:U (U D))(e:U D)(n j:J)abbrev gV(j:J)(e:U D)(a:U (U D))(n:J)(nm t r x:D)(cJ:J)(cl:D):az:=("shown",.aH j)::qX e a n nm t r x cJ cl
theorem u_1:(eQ K 29 (gV j e a n nm t r x cJ cl) (lT 1 lU)).2 σ=mr .NotEq (.aH 2) (.ret (.aH (Dg a cJ n))) (λ u c=>.ret c) σ:=by rcases a with _|_|d<;>induction e<;>lk
theorem u_2:(eQ K 29 (gV j e a n nm t r x cJ cl) (lT 2 lU)).2 σ=mr .NotEq (.aH j) (jv aj 1000 d9 (d5 kX) (eQ K 27 (gV j e a n nm t r x cJ cl) (gc kX).iter).1 (λ ρ e=>(ba (px K) 27 (d5 kX) ρ e).1) (λ ρ e=>(ba (px K) 27 (d5 kX) ρ e).2) (mW kX) [gc kX] (gV j e a n nm t r x cJ cl)) (λ u c=>.ret c) σ:=by lk
theorem ak1:(eQ K 27 (gV j e a n nm t r x cJ cl) (gc kX).iter).1 σ=B (.ok (.aH (Dg a cJ n)),σ):=by rcases a with _|_|d<;>induction e<;>lk
theorem ak2:(eQ K 29 (gV j e a n nm .none r x cJ cl) (lT 3 lU)).2 σ=B (.ok aj,σ):=by rcases a with _|_|d<;>induction e<;>lk
theorem ak3(cs:H J):(eQ K 29 (gV j e a n nm (aK cs) r x cJ cl) (lT 3 lU)).2 σ=wY .And [(K 1 [.d (aK cs)] []).bind λ v=>mr .NotEq v (.ret (.d r)) λ u c=>.ret c] σ:=by rcases a with _|_|d<;>induction e<;>lk
end
theorem ak4(cs:H J)(n:J)(h:4<=n):g5 n (aK cs) (aK cs)=B true:=by obtain⟨n,rfl⟩:∃m,n=m+1:=⟨n-1,by lia⟩;refine(?_:B _=_);rw[oj]
theorem Xa{α:Type}(f:α->D)(M:∀x n,4<=n->g5 n (f x) (f x)=B S)(es:H α)(h:O es<=50):iv .NotEq (.ae (es.map f)) (.ae (es.map f))=B false:=by
 show(jo 59 _ _).map _=_;exact L ((show∀(es:H α) n,O es+5<=n->jo n (es.map f) (es.map f)=B S from by
   intro es n h;induction es generalizing n with
   |nil=>induction n with
    |zero=>exact aR h (apk _)|succ=>rfl
   |cons e es i=>
    rcases n with _|n
    ·exact aR h (apk _)
    show(match g5 n _ _,jo n _ _ with
     |some a,B b=>B _|_,_=>aa)=_
    rw[M e n (by lia),i n (vV ‹_›)];rfl) es 59 (by lia)) rfl
theorem JP(h:r σ=B (.ok b,σ))(k:Ev.read a σ=B (.ok d,σ))(v:Ev.read b σ=B (.ok db,σ))(I:iv o d db=B c):mr o a r (λ u c=>.ret c) σ=B (.ok c,σ):=Y (aT h) (Y (aT k) (Y (aT v) (L I rfl)))theorem Dh{σ:aE}(h:(σ:H cj)[i]?=B (.ae xs)):Ev.read (.aH i) σ=B (.ok (.ae xs),σ):=by unfold Ev.read;dsimp only;exact L h rfl
theorem ak5{K:J->bV}{σ:aE}(h:(σ:H cj)[j]?=B (.ae xs)):qi (px K) (.aH j) "append" [.ret v] [] [] σ=qr [.aH j,v] σ:=by
 obtain e:u0 _ σ (.aH j) "append" =B _:=by delta u0 uZ uY;dsimp only;exact L h rfl
 show(match u0 _ σ _ "append" with
  |some (.bi id)=>_|some (.fn a)=>_|none=>_)=_
 exact L e rfl
theorem Xb(h:(σ:H cj)[j]?=B (.ae xs))(cL:xs.length<1000000):qr [.aH j,.d v] σ=B (.ok (.d .none),σ.set j (.ae (xs++ [v]))):=Y (aT (A0 h (by unfold dc;exact dD (by lia)))) rfl
theorem qY(K:J->bV):i4 (fl []) (px K):=sN λ p h=>aR h dS
theorem ak6(xs:H D)(h:∀d∈xs,∃s p,d=.aD [s,p]):hs (d5 kX) (λ pr e=>(bJ (fl []) 27 (d5 kX) pr e).1) (λ pr e=>(bJ (fl []) 27 (d5 kX) pr e).2) (mW kX) (gc kX) (n3 (d5 kX) []) xs=jC Dc xs:=by refine JI rfl xs λ d l=>(f5 (h d l) λ s p w=>?_);subst w;exact⟨[("pair",.aD [s,p])],rfl,rfl⟩theorem JQ(ρ:az):dt [] ρ:=λ u u=>nn
section
variable {K:J->bV}{cJ:J}{cl nm t r x:D}{a:U (U D)}{e:U D}{n:J}{es:H Ent}(cL:es.length<=50)
include cL
theorem ak7(g:bY σ)(p:(eQ K 29 (gV j e a n nm t r x cJ cl) (lT 0 lU)).2 σ=B (.ok aj,σ))(y:(σ:H cj)[2]?=B (.ae (es.map aP)))(w:(σ:H cj)[Dg a cJ n]?=B (.ae (es.map aP)))(z:(σ:H cj)[j]?=B (.ae (es.map λ e=>aK e.2)))
  (b:t=.none\/∃cs R,t=aK cs/\r=aK R/\K 1 [.d (aK cs)] [] σ=B (.ok (.d r),σ)):cB K 51 (gV j e a n nm t r x cJ cl) [dH 5] σ=B (.ok (.next,gV j e a n nm t r x cJ cl),σ):=by
 have c:=C1 aj (sc0:=d9)
  (λ pr ρ s e=>(jB (qY K) 27 _ pr ρ s e).1) (λ pr ρ s e=>(jB (qY K) 27 _ pr ρ s e).2) (ρ:=gV j e a n nm t r x cJ cl)
  (JQ _) rfl rfl rfl g (ak1 K cJ cl x nm t r σ a e n j) w (by simp;lia)
  (Y (ak6 _ λ d l=>by refine av (iP.mp l) λ e u W=>?_;subst W;exact(bh _ _ rfl)) (JJ es))
 obtain A:(eQ K 29 (gV j e a n nm t r x cJ cl) (lT 3 lU)).2 σ=B (.ok aj,σ):=by
  rcases b with rfl|⟨cs,R,rfl,rfl,h⟩
  ·exact ak2 ..
  ·apply Y (ak3 ..)
   obtain q:((K 1 [.d _] []).bind λ v=>mr .NotEq v (.ret (.d (aK R))) λ u c=>.ret c) σ=B (.ok aj,σ):=by refine Y (aT h) (JP rfl rfl rfl ?_);show B _=_;rw[bne_self_eq_false]
   exact Y (aT q) rfl
 exact Y (gd (af:=σ) (Y (aT (Y (aT p) (Y (aT ((u_1 ..).trans (JP rfl (Dh y) (Dh w) (Xa aP (λ e n h=>by
   obtain⟨n,rfl⟩:∃m,n=m+4:=⟨n-4,((apl h).mp rfl)⟩;refine(?_:B _=_);rw[oj,oj];rfl) es cL)))) (Y (aT ((u_2 ..).trans (JP c (Dh z) rfl (Xa _ (λ e=>ak4 e.2) es cL)))) (Y (aT A) rfl))):wY .Or [(eQ K 29 (gV j e a n nm t r x cJ cl) (lT 0 lU)).2,(eQ K 29 (gV j e a n nm t r x cJ cl) (lT 1 lU)).2,(eQ K 29 (gV j e a n nm t r x cJ cl) (lT 2 lU)).2,(eQ K 29 (gV j e a n nm t r x cJ cl) (lT 3 lU)).2] σ=B (.ok aj,σ))) rfl)) rfl
end
def vals(es:H Ent):H D:=es.map λ e=>aK e.2
theorem Xc{σ ext:aE}{i:J}(h:(σ:H cj)[i]?=B m):((σ++ext:aE):H cj)[i]?=B m:=by rw[vX (jN.mp h).1];exact h
theorem JR{m:cj} :((σ++ [m]:aE):H cj)[O σ]?=B m:=by rw[pN (bH _)];simp
theorem ak8{m R:cj} :(σ++ [m]:aE).set (O σ) R=σ++ [R]:=by rw[Lm _ _ (bH _)];simp
section
variable {K:J->bV}{cJ:J}{cl nm t r x:D}{a:U (U D)}{e:U D}{n:J}{es:H Ent}{s:aF}{Yq Q xs:H D}{M:H (ai×V)}{k:J}{ext:aE}
theorem Di(z:O es<=50)(R:σ=cC s (es.map aP) Yq M xs k Q++ext)(g:bY σ)
  (u:∀j σ,(eQ K 29 (gV j e a n nm t r x cJ cl) (lT 0 lU)).2 σ=B (.ok aj,σ))(v:(σ:H cj)[Dg a cJ n]?=B (.ae (es.map aP)))
  (o:K 4 [.aH 5] [] σ=B (.ok (.aH (O σ)),σ++ [.ae (vals es)]))
  (w:t=.none\/∃cs l,t=aK cs/\r=aK l/\∀σ,bY σ->K 1 [.d (aK cs)] [] σ=B (.ok (.d r),σ)):cB K 52 (qX e a n nm t r x cJ cl) [dH 4,dH 5,dH 6] σ=B (.ok (.next,gV (O σ) e a n nm t r x cJ cl),σ++ [.ae (vals es++ [.str ""])]):=by
 obtain G:bY (σ++ [.ae _]):=g.push rfl rfl;obtain E:=by obtain q:=b_4 K s (es.map aP) Yq Q M xs k cJ cl x nm t r e a n ext;simp[<-R]at q;exact Y q (Y (gd (af:=σ++ [.ae _]) (Y (aT o) rfl)) rfl)
 obtain eT:=ak7 z G (u ..) (Xc (L R rfl)) (Xc v) JR (by
  rcases w with h|⟨cs,l,W,P,h⟩
  ·exact .inl h
  ·exact .inr (bh cs l ⟨W,P,h _ G⟩))
 obtain jV:cB K 50 (gV _ e a n nm t r x cJ cl) [dH 6] (σ++ [.ae _])=B _:=by refine Y (gd (ρ:=gV σ.length e a n nm t r x cJ cl) (af:=σ++ [.ae (vals es++ [.str ""])]) ?_) rfl;obtain p:=Y (ak5 (JR (m:=.ae (vals es)))) (Xb JR (by unfold vals;simp;lia));rw[ak8]at p;exact Y (aT p) rfl
 exact Y (cS E) (Y (cS eT) jV)theorem ak9(h:K 0 [.d x,.d eI] [] σ=B (.ok (.d (.aD [nm,t,r])),σ)):cB K 56 (("x",.d x)::cm cJ cl) [dH 0] σ=B (.ok (.next,Wz nm t r x (cm cJ cl)),σ):=Y (b_0 ..) (Y (gd (af:=σ) (Y (aT h) rfl)) rfl)
end
noncomputable abbrev yR(nm:D):cz:=[("name",nm)]theorem JS:bq (aw 12) (λ i=>(bJ (fl []) 30 d9 (yR (aK (c6 i))) (hK (dH 2))).2)=br (aw 12) λ u=>B true:=rfl
theorem ak_:bq (aw 6) (λ a=>bq (aw 4) λ b=>(bJ (fl []) 30 d9 (yR (aK (pv a b))) (hK (dH 2))).2)=br (aw 6) λ u=>br (aw 4) λ u=>B false:=by lk
theorem Xd(h:ρ.lookup n=B (.d d)):dt [(n,d)] ρ:=by
 intro m e p;dsimp only[gY]at p;refine dO (m==n) (λ q=>?_) λ q=>?_
 ·rw[q]at p;refine ax (ak p) ?_;rw[cI.mp q];exact h
 ·rw[q]at p;exact nn p
section
variable {K:J->bV}{cJ:J}{cl nm t r x:D}theorem JT(ρ:az):dt (yR nm) (dC nm t r x ρ):=Xd rfl
theorem ala(h:a<6)(q:b<4)(g:bY σ):cB K 54 (dC (aK (pv a b)) t r x (cm cJ cl)) [dH 2] σ=B (.ok (.next,dC (aK (pv a b)) t r x (cm cJ cl)),σ):=Y (WW ..) (Y (gd (af:=σ) (Y (aT ((jB (qY K) 30 d9 _ _ (JT _) _).2 aj (bc (bc ak_ (a4.mpr h)) (a4.mpr q)) σ g)) rfl)) rfl)
end
abbrev su:PySem.Expr:=hK vu
abbrev qZ:PySem.Expr:=Sp su
abbrev Xe:H D->U (H D):=hs (d5 qZ) (λ pr e=>(bJ (fl []) 28 (d5 qZ) pr e).1) (λ pr e=>(bJ (fl []) 28 (d5 qZ) pr e).2) (mW qZ) (gc qZ) []def vw(d:D):U Bool:=(bJ (fl []) 28 (d5 qZ) [("sign",d)] ((gc qZ).ifs.getD 0 qZ)).2
theorem alb(t:D):(bJ (fl []) 30 d9 [("text",t)] su).2=((lM t).bind λ xs=>match bE (O xs) 1000 with
  |true=>(Xe xs).map D.ae|false=>aa).bind λ l=>cp .Eq l (.ae []):=by lk
theorem alc(xs:H D):Xe xs=jE vw B xs:=yH rfl xs λ d h=>(⟨[("sign",d)],rfl,rfl,rfl⟩)def n9(c:J):Bool:=(vw (cA c)).rec aj λ b=>b==eZ c
theorem ald(h:n9 c=S):vw (cA c)=B (eZ c):=by
 unfold n9 at h;revert h;rcases vw _ with _|b
 ·exact bw
 ·exact λ h=>aM B (cI.mp h)
theorem Xf:∀cs:H J,(∀c∈cs,n9 c=S)->jE vw B (cs.map cA)=B ((cs.filter eZ).map cA)
 |[],_=>rfl|c::cs,h=>by show(vw _).bind _=_;rw[ald (h c cV),Xf cs λ c A=>h c (c7 _ A),vU];cases eZ c<;>rfl
theorem ale(h:∀c∈cs,n9 c=S)(z:O cs<1000):(bJ (fl []) 30 d9 [("text",aK cs)] su).2=B (!(cs.any eZ)):=by
 obtain E:lM (aK cs)=B (cs.map cA):=rfl;simp[alb,E,gM,gh,cg.mpr z];rw[alc,Xf cs h];obtain f:cs.any eZ= !(cs.filter eZ).isEmpty:=by induction cs with|nil=>rfl|cons c cs i=>simp[D9,vU,i (λ c A=>h c (c7 _ A)) (by simp at z;exact ik ‹_›) rfl];cases eZ c<;>rfl
 rw[f];cases cs.filter eZ<;>rfl
theorem alf{o p st sp m:J}(i:o<6)(v:p<2)(d:∀z∈zs,z<40):∀c∈iJ (hc o p zs) (dV m) sp st,n9 c=true:=by
 have b:∀{V zs:H J},(∀y∈V,y∈fo)->(∀z∈zs,z<40)->∀c∈pJ iH V zs,n9 c=true:=by
  intro V;induction V with
  |nil=>intro zs u u c h;cases h
  |cons y V I=>
   intro zs W j c h;cases zs with
   |nil=>cases h
   |cons z zs=>
    rcases dM.mp h with rfl|q
    ·exact b9.mp (b9.mp (show(fo.all λ y=>(aw 40).all λ z=>n9 _)=S from rfl) y (W y cV)) z (a4.mpr (j z cV))
    ·exact I (λ y R=>W y (c7 _ R)) (λ z d=>j z (c7 _ d)) c q
 have W:=b (yM i v).1 d;intro c h;rcases bB.mp h with q|q
 ·exact W c (nc q)
 ·rcases bB.mp q with q|q
  ·exact b9.mp rfl c (nd (nc q))
  ·rcases bB.mp q with q|q
   ·exact b9.mp rfl c (nd (nc q))
   ·exact W c (nd q)theorem keys_map(es:H (ai×V))(k:ai)(v:V):(es.map λ e=>if e.1=k then(e.1,v)else e).map (·.1)=es.map (·.1):=by refine Y v8 (YJ λ e u=>(?_:(if e.1=k then _ else e).1=e.1));split<;>rfl
theorem H2(h:es.any (λ e=>decide (e.1=k))=aj):eO k es=none:=by induction es with|nil=>rfl|cons e es i=>simp only[D9,aoR]at h;dsimp only[eO];rw[a6 (by simpa using h.1),i h.2]
theorem alg:eO cH (es++ [(k,v)])=match eO cH es with
  |some a=>B a|none=>if k=cH then B v else none:=by
 induction es with
 |nil=>rfl
 |cons e es i=>
  obtain⟨n,a⟩:=e;show(if n=cH then B a else eO cH (es++ [(k,v)]))=match(if n=cH then B a else eO cH es)with
   |some a=>B a|none=>if k=cH then B v else aa
  by_cases h:n=cH
  ·rw[bC h,bC h]
  ·rw[a6 h,a6 h,i]
theorem alh:eO cH (es.map λ e=>if e.1=k then(e.1,v)else e)=if cH=k then(eO cH es).map λ u=>v else eO cH es:=by
 induction es with
 |nil=>split<;>rfl
 |cons e es i=>
  refine L lZ ?_;by_cases W:e.1=k
  ·rw[bC W]
   show(if e.1=cH then B v else eO cH _)=if cH=k then(if e.1=cH then B e.2 else eO cH es).map _ else if e.1=cH then B e.2 else eO cH es
   rw[i];by_cases h:e.1=cH
   ·obtain this:=Y h.symm W
    rw[bC h,bC this,bC h];rfl
   ·obtain this:¬cH=k:=λ q=>h (Y W q.symm)
    rw[a6 h,a6 this,a6 this,a6 h]
  ·rw[a6 W]
   show(if e.1=cH then B e.2 else eO cH _)=if cH=k then(if e.1=cH then B e.2 else eO cH es).map _ else if e.1=cH then B e.2 else eO cH es
   rw[i];by_cases h:e.1=cH
   ·rw[bC h,a6 (λ q=>W (L h q)),bC h]
   ·rw[a6 h,a6 h]
theorem Xg(es:H (ai×V))(k K:ai)(v:V):eO K (fc es k v)=if K=k then B v else eO K es:=by
 unfold fc;cases h:es.any _ with
 |true=>
  rw[bC rfl,alh];by_cases q:K=k
  ·rw[bC q,bC q]
   obtain⟨a,e⟩:=(show∃a,eO k es=B a from by
     induction es with
     |nil=>exact bw h
     |cons e es i=>
      by_cases q:e.1=k
      ·exact⟨e.2,by dsimp only[eO];rw[bC q]⟩
      ·simp only[D9,l2 q]at h
       obtain⟨b,e⟩:=i h;exact⟨b,by dsimp only[eO];rw[a6 q,e]⟩)
   rw[q,e];rfl
  ·rw[a6 q,a6 q]
 |false=>
  rw[a6 hN,alg];by_cases q:K=k
  ·rw[bC q,q,H2 h]
   exact Y (bC rfl) rfl
  ·rw[a6 q,a6 (λ e=>q e.symm)]
   cases eO K es<;>rfl
theorem ali(h:mE es=S)(k:ai)(v:V):mE (fc es k v)=true:=by
 unfold mE at h ⊢;rw[decide_eq_true_iff]at h ⊢;unfold fc;cases q:es.any _ with
 |true=>rw[bC rfl,keys_map];exact h
 |false=>
  rw[a6 hN,vR];refine rl.mpr ⟨h,by simp,?_⟩;intro a c b r e;obtain r:=by simpa using r
  subst r;obtain⟨p,u,rfl⟩:=iP.mp c;exact(apj.mp q p u) (by simpa using e)theorem alj(es:H (ai×V))(k:ai)(v:V):O (fc es k v)<=O es+1:=by unfold fc;split<;>simp
theorem alk(h:∀e∈es,fB e.2=S)(k:ai)(l:fB v=S):∀e∈fc es k v,fB e.2=true:=by
 unfold fc;intro e x;split at x
 ·refine av (iP.mp x) λ p u w=>ax w ?_
  split
  ·exact l
  ·exact h p u
 ·rcases bB.mp x with q|q
  ·exact h e q
  ·rw[ek.mp q];exact l
theorem alm{G:Prop}(h:fB v=S)(q:Ar v=B j):G:=by induction v with|d d=>exact nn q|aH i=>exact bw h
theorem yS(h:∀e∈M,fB e.2=S)(n:J):bk n (.fY M)=true:=b9.mpr λ j x=>av (pL.mp x) λ e u q=>alm (h e u) q
theorem q2(s:aF)(Bq Yq:H D)(h:∀e∈M,fB e.2=S)(xs:H D)(k:J)(Q:H D):bY (cC s Bq Yq M xs k Q):=by
 obtain f:=(yS h);refine⟨by cases s<;>rfl,by cases s<;>rfl,?_⟩;cases s
 ·show(bk 8 t0&&(bk 8 t1&&(bk 8 _&&(bk 8 _&&(bk 8 _&&(bk 8 _&&(bk 8 _&&(bk 8 _&&S))))))))=S
  exact L (f ..) rfl
 ·show(bk 9 t0&&(bk 9 t1&&(bk 9 _&&(bk 9 _&&(bk 9 _&&(bk 9 _&&(bk 9 _&&(bk 9 _&&(bk 9 _&&S)))))))))=S
  exact L (f ..) rfl
def dY(i:J):bV:=match i with|0=>cx CZ|1=>cx CS|2=>Wx|3=>pw|4=>C_|5=>JM|_=>vt
def Xh(nm:D)(d:D):U Bool:=match d with|.aD [n,_]=>(lD n).bind λ l=>(lD nm).bind λ l'=>cp .NotEq l l'|_=>aa
theorem aln(nm:D)(xs:H D)(h:∀d∈xs,∃s p,d=.aD [s,p]):hs (d5 jH) (λ pr e=>(bJ (fl []) 29 (d5 jH) pr e).1) (λ pr e=>(bJ (fl []) 29 (d5 jH) pr e).2) (mW jH) (gc jH) (n3 (d5 jH) (yR nm)) xs=jE (Xh nm) B xs:=yH (c:=(gc jH).ifs.getD 0 jH) rfl xs λ d l=>(f5 (h d l) λ s p w=>L w ⟨[("pair",.aD [s,p]),("name",nm)],rfl,rfl,rfl⟩)theorem alo(fz:j<12)(e:Ent)(he:e.1<12):Xh (aK (c6 j)) (aP e)=B (d6 j e):=by show((lD _).bind λ l=>(lD _).bind λ l'=>cp .NotEq l l')=_;rw[bc JD (a4.mpr he),bc JD (a4.mpr fz)];exact bc (bc Wi (a4.mpr he)) (a4.mpr fz)
section
variable {K:J->bV}{cl t r x:D}{s:aF}{es:H Ent}{Yq Q xs:H D}{M:H (ai×V)}{k j:J}
theorem plain_at(dd:(s=aj->Yq=es.map aP)/\(s=S->Q=es.map aP)):((cC s (es.map aP) Yq M xs k Q:aE):H cj)[dR s]?=B (.ae (es.map aP)):=by
 cases s
 ·exact L (dd.1 rfl) rfl
 ·exact L (dd.2 rfl) rfl
theorem alp(Bq:H D):O (cC s Bq Yq M xs k Q:aE)=fU s:=by induction s<;>rfl
theorem Dj(Bq P:H D):((cC s Bq Yq M xs k Q++ [.ae P]:aE):H cj)[fU s]?=B (.ae P):=by induction s<;>rfl
theorem JU(fz:j<12)(he:∀e∈es,e.1<12)(cL:O es<=50)(dd:(s=aj->Yq=es.map aP)/\(s=S->Q=es.map aP))(e0:∀e∈M,fB e.2=S):cB K 53 (dC (aK (c6 j)) t r x (cm (dR s) cl)) [s7 0] (cC s (es.map aP) Yq M xs k Q)=B (.ok (.next,eJ (B aa) (fU s) (dC (aK (c6 j)) t r x (cm (dR s) cl))),cC s (es.map aP) Yq M xs k Q++ [.ae (dX es j)]):=by
 obtain c:=C1 S
  (λ pr ρ s e=>(jB (qY K) 29 _ pr ρ s e).1) (λ pr ρ s e=>(jB (qY K) 29 _ pr ρ s e).2)
  (JT _) rfl (by lk) rfl (q2 s _ Yq e0 xs k Q) (first:=(eQ K 29 _ (gc jH).iter).1) (by lk) (plain_at dd) (by simp;lia)
  (Y (aln _ _ λ d h=>by refine av (iP.mp h) λ e u w=>?_;subst w;exact(bh _ _ rfl)) (JE _ fz (alo fz) es he))
 dsimp only at c;simp[alp]at c;exact Y (i_0 ..) (Y (gd (af:=cC s _ Yq M xs k Q++ [.ae _]) (Y (aT c) rfl)) rfl)
theorem Xi(g:bY σ)(h:∀c∈cs,n9 c=S)(P:O cs<=5):(eQ K 30 (eJ (B aa) n (dC nm (aK cs) r x ρ)) (hK vu)).2 σ=B (.ok (!(cs.any eZ)),σ):=
 (jB (qY K) 30 d9 [("text",aK cs)] _ (Xd rfl) _).2 _ (ale h (by lia)) σ g
theorem JV(g:bY σ)(V:(bJ (fl []) 30 d9 (yR nm) (hK (dH 2))).2=B S)(h:cB K 53 (dC nm t r x ρ) (kU (dH 2)) σ=B (.ok (.next,ar),af)):cB K 54 (dC nm t r x ρ) [dH 2] σ=B (.ok (.next,ar),af):=Y (WW ..) (Y (gd (af:=af) (Y (aT ((jB (qY K) 30 d9 _ _ (JT ρ) _).2 S V σ g)) h)) rfl)
section
variable (fz:j<12)(he:∀e∈es,e.1<12)(cL:es.length<=50)(dd:(s=aj->Yq=es.map aP)/\(s=S->Q=es.map aP))(e0:∀e∈M,fB e.2=S)
include fz he cL dd e0
theorem alq:cB K 54 (dC (aK (c6 j)) .none r x (cm (dR s) cl)) [dH 2] (cC s (es.map aP) Yq M xs k Q)=B (.ok (.next,eJ (B (B (.str qW))) (fU s) (dC (aK (c6 j)) .none r x (cm (dR s) cl))),cC s (es.map aP) Yq M xs k Q++ [.ae (dX es j)]):=JV (q2 s _ Yq e0 xs k Q) (bc JS (a4.mpr fz)) (L Df.1 (Y (cS (JU fz he cL dd e0)) rfl))theorem alr(A:∀c∈cs,n9 c=S)(P:O cs<=5)(h:cs.any eZ=S):cB K 54 (dC (aK (c6 j)) (aK cs) r x (cm (dR s) cl)) [dH 2] (cC s (es.map aP) Yq M xs k Q)=B (.ok (.next,eJ (B aa) (fU s) (dC (aK (c6 j)) (aK cs) r x (cm (dR s) cl))),cC s (es.map aP) Yq M xs k Q++ [.ae (dX es j)]):=by refine JV (q2 s _ Yq e0 xs k Q) (bc JS (a4.mpr fz)) (L Df.1 (Y (cS (JU fz he cL dd e0)) ?_));obtain c:=Xi ((q2 s _ Yq e0 xs k Q).push rfl rfl:bY (cC s _ Yq M xs k Q++ [.ae _])) A P;rw[h]at c;exact Y (WY ..) (Y (gd (af:=cC s _ Yq M xs k Q++ [.ae _]) (Y (gd (af:=cC s _ Yq M xs k Q++ [.ae _]) (Y (aT c) rfl)) rfl)) rfl)
theorem als(A:∀c∈cs,n9 c=S)(P:O cs<=5)(h:cs.any eZ=aj)(o:mE M=S)(p:O M<=1000):cB K 54 (dC (aK (c6 j)) (aK cs) r x (cm (dR s) cl)) [dH 2] (cC s (es.map aP) Yq M xs k Q)=B (.ok (.next,eJ (B (B (.str ""))) (fU s) (dC (aK (c6 j)) (aK cs) r x (cm (dR s) cl))),cC s (es.map aP) Yq (fc M (cN cs) (.d r)) xs k Q++ [.ae ((es.filter (d6 j)++ [(j,cs)]).map aP)]):=by
 refine JV (q2 s _ Yq e0 xs k Q) (bc JS (a4.mpr fz)) (L Df.1 (Y (cS (JU fz he cL dd e0)) ?_));have c:=Xi (K:=K) (r:=r) (x:=x) (n:=fU s) (ρ:=cm (dR s) cl) (nm:=aK (c6 j)) ((q2 s _ Yq e0 xs k Q).push rfl rfl:bY (cC s (es.map aP) Yq M xs k Q++ [.ae (dX es j)])) A P;rw[h]at c;have X:qv (.aH 6) (.d (aK cs)) (.d r) (cC s (es.map aP) Yq M xs k Q++ [.ae (dX es j)])=B (.ok (),cC s (es.map aP) Yq (fc M (cN cs) (.d r)) xs k Q++ [.ae (dX es j)]):=by
  obtain this:qv (.aH 6) (.d (aK cs)) _ (cC s _ Yq M xs k Q++ [.ae _])=match mE M&&aZ _ 16777216 with|true=>B (.ok _,cC s _ Yq (fc M (cN cs) _) xs k Q++ [.ae _])|false=>none:=by induction s<;>rfl
  rw[this,o,dD (by omega)];rfl
 have e:cB K 50 (eJ (B aa) (fU s) (dC (aK (c6 j)) (aK cs) r x (cm (dR s) cl))) [yQ 0] (cC s (es.map aP) Yq M xs k Q++ [.ae (dX es j)])=B (.ok (.next,eJ (B (B (.str ""))) (fU s) (dC (aK (c6 j)) (aK cs) r x (cm (dR s) cl))),cC s (es.map aP) Yq (fc M (cN cs) (.d r)) xs k Q++ [.ae (dX es j)]):=by exact Y (gd (ρ:=eJ (B (B (.str ""))) (fU s) (dC (aK (c6 j)) (aK cs) r x (cm (dR s) cl))) (af:=cC s (es.map aP) Yq (fc M (cN cs) (.d r)) xs k Q++ [.ae (dX es j)]) (Y (aT ((aT ((aT X).trans rfl)).trans rfl)) rfl)) rfl
 obtain a:=Xb (Dj (es.map aP) (dX es j)) (by have:=EB (d6 j) es;simp;omega);obtain m:(cC s (es.map aP) Yq (fc M (cN cs) (.d r)) xs k Q++ [.ae (dX es j)]:aE).set (fU s) (.ae (dX es j++ [.aD [aK (c6 j),aK cs]]))=cC s (es.map aP) Yq (fc M (cN cs) (.d r)) xs k Q++ [.ae ((es.filter (d6 j)++ [(j,cs)]).map aP)]:=by refine L vR ?_;induction s<;>rfl
 rw[m]at a;have E:cB K 49 (eJ (B (B (.str ""))) (fU s) (dC (aK (c6 j)) (aK cs) r x (cm (dR s) cl))) [yQ 1] (cC s (es.map aP) Yq (fc M (cN cs) (.d r)) xs k Q++ [.ae (dX es j)])=B (.ok (.next,eJ (B (B (.str ""))) (fU s) (dC (aK (c6 j)) (aK cs) r x (cm (dR s) cl))),cC s (es.map aP) Yq (fc M (cN cs) (.d r)) xs k Q++ [.ae ((es.filter (d6 j)++ [(j,cs)]).map aP)]):=by exact L (j_1 ..) (Y (gd (ρ:=eJ (B (B (.str ""))) (fU s) (dC (aK (c6 j)) (aK cs) r x (cm (dR s) cl))) (af:=cC s (es.map aP) Yq (fc M (cN cs) (.d r)) xs k Q++ [.ae ((es.filter (d6 j)++ [(j,cs)]).map aP)]) ((aT a).trans rfl)) rfl)
 refine Y (WY ..) (Y (gd (ρ:=eJ (B (B (.str ""))) (fU s) (dC (aK (c6 j)) (aK cs) r x (cm (dR s) cl))) (af:=cC s (es.map aP) Yq (fc M (cN cs) (.d r)) xs k Q++ [.ae ((es.filter (d6 j)++ [(j,cs)]).map aP)]) ((gd (ρ:=eJ (B (B (.str ""))) (fU s) (dC (aK (c6 j)) (aK cs) r x (cm (dR s) cl))) (af:=cC s (es.map aP) Yq (fc M (cN cs) (.d r)) xs k Q++ [.ae ((es.filter (d6 j)++ [(j,cs)]).map aP)]) ((aT c).trans ?_)).trans rfl)) rfl);exact L (Df.2 ..) (Y (cS e) E)
end
end
noncomputable def Xj(a b:J):H Nat:=(([97,66,67,65,98,99].drop a).take 1)++(([9,0,31,127,32].drop b).take 1)noncomputable def Xk(a b:J):Nat:=match aL b 4 with|true=>a+6|false=>a
theorem alu:((aw 6).all λ a=>(aw 12).all λ b=>match bE b 4 with
  |true=>sW (Xj a b) (pv a b)|false=>sW (Xj a b) (c6 (Xk a b))&&bE (Xk a b) 12)=true:=rfl
theorem alv(c:a<6)(r:b<12):(b<4/\vn a b=aK (pv a b))\/∃j,j<12/\vn a b=aK (c6 j):=by
 obtain h:=b9.mp (b9.mp alu a (a4.mpr c)) b (a4.mpr r);refine dO (bE b 4) (λ q=>?_) λ q=>?_
 ·
  rw[q]at h;exact .inl ⟨cg.mp q,aM aK (vo h)⟩
 ·
  rw[q]at h;exact cq (bF.mp h) λ W k=>.inr ⟨_,cg.mp k,aM aK (vo W)⟩theorem Xl(h:∀e∈M,fB e.2=S)(Bq:H D)(ext:aE):((cC s Bq Yq M xs k Q++ext:aE).take 8).all (bk 8)=true:=by show(bk 8 t0&&(bk 8 t1&&(bk 8 _&&(bk 8 _&&(bk 8 _&&(bk 8 _&&(bk 8 _&&(bk 8 _&&S))))))))=S;rw[yS h];rfl
theorem alw(h:∀e∈M,fB e.2=S)(Bq v:H D)(i n:J)(e:U D):fP (cm 3 cl) 8 (gV i e aa n nm t r x (dR s) cl) (cC s Bq Yq M xs k Q++ [.ae v])=B (cm (dR s) cl,cC s Bq Yq M xs k Q):=by unfold fP;rw[Xl h];induction e<;>induction s<;>lk
theorem JW(h:∀e∈M,fB e.2=S)(Bq v:H D)(i:J)(e d:U D):fP (cm 3 cl) 8 (gV i e (B d) (fU s) nm t r x (dR s) cl) (cC s Bq Yq M xs k Q++ [.ae P]++ [.ae v])=B (cm 8 cl,cC S Bq Yq M xs k P):=by unfold fP;refine L (eb ..) ?_;rw[Xl h];induction e<;>induction d<;>induction s<;>lk
theorem Dk(Bq:H D)(h:∀e∈M,fB e.2=S)(P:H D):bY (cC s Bq Yq M xs k Q++ [.ae P]):=(q2 s Bq Yq h xs k Q).push rfl rfl
noncomputable def JX(s:aF)(Q:H D):aE:=match s with|false=>[]|true=>[.ae Q]theorem s8(Bq:H D)(ext:aE):cC s Bq Yq M xs k Q++ext=b7 Bq (.ae Yq) (.fY M:: .it (.list xs k)::(JX s Q++ext)):=by induction s<;>rfl
theorem Dl{ext:aE}(h:es.length<=50)(g:bY (cC s (es.map aP) Yq M xs k Q++ext)):dY 4 [.aH 5] [] (cC s (es.map aP) Yq M xs k Q++ext)=B (.ok (.aH (O (cC s (es.map aP) Yq M xs k Q++ext))),(cC s (es.map aP) Yq M xs k Q++ext)++ [.ae (vals es)]):=
 by exact Wv (by lia) g
theorem alx(a:U (U D)){ext:aE}(h:pw [.aH 5,.d nm,.d t] [] (cC s Bq Yq M xs k Q++ext)=B (.ok (.d .none),cC s B' Yq M xs k Q++ext)):cB dY 53 (eJ a n (dC nm t r x (cm (dR s) cl))) [dH 3] (cC s Bq Yq M xs k Q++ext)=B (.ok (.next,qX aa a n nm t r x (dR s) cl),cC s B' Yq M xs k Q++ext):=by
 refine Y (WZ ..) (Y (gd (af:=cC s B' Yq M xs k Q++ext) ?_) rfl);unfold qp;obtain q:((((dY 3 [.aH 5,.d nm,.d t] []).bind λ u=>(.ret _:Ev gL)).bind λ u=>(.ret _)).bind λ ar=>(.ret _:cy)) _=B _:=
  Y (aT (Y (aT (Y (aT h) rfl)) rfl)) rfl
 exact L q rfl
theorem JY(a:U (U D)){ext:aE}(h:pw [.aH 5,.d nm,.d t] [] (cC s Bq Yq M xs k Q++ext)=B (.exc c as,cC s B' Yq M xs k Q++ext))
  (f:∀σ,uO (qo ee d9 (λ ρ body=>b4 fj fj 30 d9 52 ρ body) c as (vv (dH 3)) (eJ a n (dC nm t r x (cm (dR s) cl)))) σ=B (.ok (.next,De (B told) (eJ a n (dC nm t r x (cm (dR s) cl)))),σ)):cB dY 53 (eJ a n (dC nm t r x (cm (dR s) cl))) [dH 3] (cC s Bq Yq M xs k Q++ext)=B (.ok (.next,qX (B told) a n nm t r x (dR s) cl),cC s B' Yq M xs k Q++ext):=by
 refine Y (WZ ..) (Y (gd (af:=cC s B' Yq M xs k Q++ext) ?_) rfl);unfold qp;obtain q:=
  jm (jm (jm h))
 exact L q (f _)
theorem Dm(k:dY 0 [.d x,.d eI] [] σ=B (.ok (.d (.aD [nm,t,r])),σ))
  (j:cB dY 54 (dC nm t r x (cm (dR s) cl)) [dH 2] σ=B (.ok (.next,eJ a n (dC nm t r x (cm (dR s) cl))),G))(y:cB dY 53 (eJ a n (dC nm t r x (cm (dR s) cl))) [dH 3] G=B (.ok (.next,qX e a n nm t r x (dR s) cl),E))
  (I:cB dY 52 (qX e a n nm t r x (dR s) cl) [dH 4,dH 5,dH 6] E=B (.ok (.next,h),p)):cB dY 56 (("x",.d x)::cm (dR s) cl) (f_ (cO 3)) σ=B (.ok (.next,h),p):=L (show f_ _=[dH 0,dH 1,dH 2,dH 3,dH 4,dH 5,dH 6]from rfl) (Y (cS (ak9 k)) (Y (cS rfl) (Y (cS j) (Y (cS y) I))))def JZ(r:H J):Prop:=∃o p sp m,o<6/\p<2/\sp<4/\m<24/\(dV m).any eZ=aj/\r=ig (dW o p) (dV m) sp
def Xm(M:H (ai×V))(cs:H J):Prop:=∃r,JZ r/\ih cs=B r/\2<=O cs/\O cs<=5/\eO (cN cs) M=B (.d (aK r))noncomputable def yT:H Nat:=[102,108,105]noncomputable def jI:H Ent:=[(3,[108,105,102]),(4,[73,70,76]),(2,[102,105,108]),(0,[105,108,102])]def q3:H (ai×V):=[(cN [108,105,102],.d (aK [108,105,102])),(cN [73,70,76],.d (aK [105,102,108])),(cN [102,105,108],.d (aK [102,105,108])),(cN [105,108,102],.d (aK [105,108,102])),(cN [102,108,105],.d (aK [102,108,105]))]
structure pz(c:J)(s:aF)(es:H Ent)(M:H (ai×V))(Yq Q:H D):Prop where
 he:∀e∈es,e.1<12
 cL:es.length<=c
 dd:(s=aj->Yq=es.map aP)/\(s=S->Q=es.map aP)
 e0:∀e∈M,fB e.2=S
 hk:mE M=S
 hm:M.length<=c+1
 da:5<=M.length
 fy:s=aj->es=jI/\M=q3
 fZ:∀cs,(cs=yT\/∃e∈es,e.2=cs)->Xm M cs
theorem aly(es:H (ai×V))(k:ai)(v:V):O es<=O (fc es k v):=by unfold fc;split<;>simp
theorem alz(h:cN a=cN b):a=b:=by have:(cN a).cps.toList=(cN b).cps.toList:=ax h rfl;exact this
theorem alA:(bq (aw 6) λ o=>bq (aw 2) λ p=>bq (aw 46) λ m=>bq (aw 4) λ sp=>aZ (O (ig (dW o p) (dV m) sp)) 1000)=br (aw 6) λ u=>br (aw 2) λ u=>br (aw 46) λ u=>br (aw 4) λ u=>true:=by lk
theorem J0(h:o<6)(u:p<2)(e:m<46)(b:sp<4):O (ig (dW o p) (dV m) sp)<=1000:=b8 (bc (bc (bc (bc alA (a4.mpr h)) (a4.mpr u)) (a4.mpr e)) (a4.mpr b))theorem Dn(g:bY σ):sH σ=true:=by unfold sH;simp only[g.1,g.2.1,g.2.2];rfl
theorem alB(I:pz c s es M Yq Q)(nF:c<=20)(x:J){G:Prop}(K:∀s' nG Xn xU Xo Xp,pz (c+1) s' nG Xn Yq xU->cB dY 56 (("x",.d (.int (x:J)))::cm (dR s) cl) (f_ (cO 3)) (cC s (es.map aP) Yq M xs k Q)=B (.ok (.next,Xo),Xp)->fP (cm 3 cl) 8 Xo Xp=B (cm (dR s') cl,cC s' (nG.map aP) Yq Xn xs k xU)->G):G:=by
 refine VX x λ a b P o p st sp m T V C hf hy cv hn0 dw hp fZ dd hm lA fs gC=>?_;have fy:∀z∈[T,V,C],z<40:=by intro z fy;simp only[dM,dS,jQ]at fy;rcases fy with rfl|rfl|rfl<;>assumption
 have g:=q2 s (es.map aP) Yq I.e0 xs k Q;have AV:CZ [.int x,eI]=B (sU a b P o p st sp m [T,V,C]):=by show a8 (CX eI) (CY x)=_;unfold CY;rw[(show CX eI=S from by lk),hf];rfl
 obtain⟨x9,uT⟩:=VV m;have Co:ih (iJ _ _ sp st)=B (ig _ (dV m) sp):=akD dw hp fy rfl;have w:=akF (st:=st) (sp:=sp) (m:=m) (zs:=[T,V,C]) dw hp rfl;have alC:=akG (st:=st) (sp:=sp) (m:=m) dw hp fy;have Xq:=alf (st:=st) (sp:=sp) (m:=m) dw hp fy;have hrl:=J0 dw hp hm dd;generalize d1:ig _ _ sp=R at*;have l:=sI AV (Dn g);generalize hcs:iJ _ _ sp st=cs at*;have jr:sU a b P o p st sp m [T,V,C]=.aD [vn a b,match aL P 0 with|true=>.none|false=>aK cs,aK R]:=by unfold sU;rw[hcs,d1];try rfl
 rw[jr]at l;generalize A:(match aL P 0 with|true=>D.none|false=>aK cs)=t at*;have cZ:t=.none\/∃cs rl',t=aK cs/\aK R=aK rl'/\∀σ,bY σ->dY 1 [.d (aK cs)] [] σ=B (.ok (.d (aK R)),σ):=by cases q:aL P 0 with|true=>rw[q]at A;exact .inl A.symm|false=>rw[q]at A;exact .inr ⟨cs,R,A.symm,rfl,λ σ g=>sI (Wc Co hrl w.1 w.2) (Dn g)⟩
 rcases alv hy cv with⟨Xr,X⟩|⟨j,y,X⟩
 ·rw[X]at l
  refine K s es M Q _ _ ⟨I.he,ip I.cL,I.dd,I.e0,I.hk,ip I.hm,I.da,I.fy,I.fZ⟩ (Dm l (ala hy Xr g) ?_ (Di (n:=0) (e:=B (.str s6)) (by have:=I.cL;lia) (ea _).symm g (λ u u=>(by lk) ..) (plain_at I.dd) ?_ cZ)) (alw I.e0 _ _ _ _ _)
  ·have q:=JY (t:=t) (r:=aK R) (x:=.int x) (cl:=cl) (Yq:=Yq) (M:=M) (xs:=xs) (k:=k) (Q:=Q) aa (n:=0) (Bq:=es.map aP) (B':=es.map aP) (ext:=[]) (c:="ValueError") (as:=[.str kV]) (told:=.str s6) (by
    refine L (s8 ..) ?_;exact akT hy Xr t (ax (s8 ..) (L (ea ..) g))) (λ σ=>W_ (dR s) cl (.int x) (aK (pv a b)) t (aK R) σ aa 0)
   rw[ea]at q;exact q
  ·have q:=Dl (s:=s) (es:=es) (Yq:=Yq) (M:=M) (xs:=xs) (k:=k) (Q:=Q) (ext:=[]) (by have:=I.cL;lia) (by rw[ea];exact g)
   rw[ea]at q;exact q
 ·rw[X]at l
  have apE:O es<=20:=by have:=I.cL;lia
  have F:O es<=50:=by lia
  have hl2:=EB (d6 j) es;have Xs:∀e∈es.filter (d6 j),e.1<12:=λ e h=>I.he e (Ez.mp h).1;have Xu:bY (cC s (es.map aP) Yq M xs k Q++ [.ae (dX es j)]):=Dk _ I.e0 _;have f:bY (cC s (dX es j) Yq M xs k Q++ [.ae (dX es j)]):=Dk _ I.e0 _;have eF:pz (c+1) S (es.filter (d6 j)) M Yq (dX es j):=.mk Xs (by have:=I.cL;lia) ⟨(λ h=>by cases h),λ u=>rfl⟩ I.e0 I.hk (ip I.hm) I.da (λ h=>by cases h) (λ cs h=>I.fZ cs (h.imp_right λ⟨e,W,E⟩=>⟨e,(Ez.mp W).1,E⟩));cases q:aL P 0 with
  |true=>rw[q]at A;subst A;refine K S (es.filter (d6 j)) M (dX es j) _ _ eF (Dm l (a:=B (B (.str qW))) (n:=fU s) (alq y I.he F I.dd I.e0) (e:=B (.str qW)) (JY (B (B (.str qW))) (c:="AssertionError") (as:=[.str uV]) (told:=.str qW) ?_ (λ σ=>h_a ..)) (Di (ext:=[.ae (dX es j)]) (a:=B (B (.str qW))) (n:=fU s) (e:=B (.str qW)) (by lia) rfl f (λ u u=>(by lk) ..) (Dj ..) (Dl (by lia) f) cZ)) (JW I.e0 _ _ _ _ _);exact Ws y I.he (by lia) (ax (s8 ..) Xu) (akI aj (ax (s8 ..) f))
  |false=>
   rw[q]at A;subst A;cases N:cs.any eZ with
   |true=>refine K S (es.filter (d6 j)) M (dX es j) _ _ eF (Dm l (a:=B aa) (n:=fU s) (alr y I.he F I.dd I.e0 Xq w.2 N) (e:=B (.str s6)) (JY (B aa) (c:="ValueError") (as:=[.str kV]) (told:=.str s6) ?_ (λ σ=>W_ ..)) (Di (ext:=[.ae (dX es j)]) (a:=B aa) (n:=fU s) (e:=B (.str s6)) (by lia) rfl f (λ u u=>(by lk) ..) (Dj ..) (Dl (by lia) f) cZ)) (JW I.e0 _ _ _ _ _);exact Ws y I.he (by lia) (ax (s8 ..) Xu) (JC aj (s:=cN cs) (ax (s8 ..) f) (show cs.toArray.size<=1000000 by simp;lia) N)
   |false=>
    have i:=alk I.e0 (cN cs) (v:=.d (aK R)) rfl;have Xv:bY (cC s ((es.filter (d6 j)++ [(j,cs)]).map aP) Yq (fc M (cN cs) (.d (aK R))) xs k Q++ [.ae ((es.filter (d6 j)++ [(j,cs)]).map aP)]):=Dk _ i _;have hlA:O (es.filter (d6 j)++ [(j,cs)])<=O es+1:=by rw[e2];show _+1<=_;lia
    have fO:pz (c+1) S (es.filter (d6 j)++ [(j,cs)]) (fc M (cN cs) (.d (aK R))) Yq ((es.filter (d6 j)++ [(j,cs)]).map aP):=by
     refine .mk (λ e h=>?_) (by have:=I.cL;lia) ⟨(λ h=>by cases h),λ u=>rfl⟩ i (ali I.hk _ _) (bA (alj ..) (EA I.hm)) (bA I.da (aly ..)) (λ h=>by cases h) (λ ds h=>?_)
     ·rcases bB.mp h with h|h
      ·exact Xs e h
      ·rw[ek.mp h];exact y
     ·by_cases hd:ds=cs
      ·refine L hd ?_
       exact⟨R,(⟨o,p,sp,CV m,dw,hp,dd,uT,(ax x9 (ax alC (L N rfl))),(ax x9 (L d1 rfl))⟩),Co,w.1,w.2,L (Xg ..) (L (bC rfl) rfl)⟩
      ·have h:ds=yT\/∃e∈es,e.2=ds:=by
        rcases h with h|⟨e,W,E⟩
        ·exact .inl h
        ·rcases bB.mp W with W|W
         ·exact .inr ⟨e,(Ez.mp W).1,E⟩
         ·rw[ek.mp W]at E
          exact aR E.symm hd
       exact t7 (I.fZ ds h) λ p9 W E fw ei kI=>⟨p9,W,E,fw,ei,L (Xg ..) (L (a6 λ q=>hd (alz q)) (L kI rfl))⟩
    refine K S (es.filter (d6 j)++ [(j,cs)]) (fc M (cN cs) (.d (aK R))) ((es.filter (d6 j)++ [(j,cs)]).map aP) _ _ fO (Dm l (a:=B (B (.str ""))) (n:=fU s) (als y I.he F I.dd I.e0 Xq w.2 N I.hk (by have:=I.hm;lia)) (e:=aa) (alx (B (B (.str ""))) ?_) (Di (ext:=[.ae ((es.filter (d6 j)++ [(j,cs)]).map aP)]) (a:=B (B (.str ""))) (n:=fU s) (e:=aa) (by lia) rfl Xv (λ u u=>(by lk) ..) (Dj ..) (Dl (by lia) Xv) cZ)) (JW i _ _ _ _ _);exact akS y I.he (by lia) (ax (s8 ..) (Dk _ i _)) N (by lia)theorem alD(K:J->bV)(ρ:az)(σ:aE):cB K 57 ρ [cO 3] σ=b5 (sg d9 1000 (iG (cO 3)) (n7 (cO 3)) (eQ K 30 ρ (n7 (cO 3))).1 (λ ρ=>cB K 56 ρ (f_ (cO 3))) ρ) (λ ar=>cB K 56 ar []) σ:=rfl
def J1(s:aF)(Bq Yq:H D)(M:H (ai×V))(Q:H D):aE:=b7 Bq (.ae Yq) (.fY M:: .cX::JX s Q)def n_(s:aF)(Bq Yq:H D)(M:H (ai×V))(Q:H D):aE:=b7 Bq (.ae Yq) (.fY M::JX s Q)noncomputable def J2(s:aF):Nat:=match s with|false=>3|true=>7
theorem alE(K:∀e∈M,fB e.2=S):j7 (cm 3 cl) 7 (B (.ok (.next,cm (dR s) cl),J1 s Bq Yq M Q))=B (.ok (.next,cm (J2 s) cl),n_ s Bq Yq M Q):=by
 obtain h:((J1 s Bq Yq M Q).take 7).all _=true:=by show(bk 7 t0&&(bk 7 t1&&(bk 7 _&&(bk 7 _&&(bk 7 _&&(bk 7 _&&(bk 7 _&&S)))))))=S;rw[yS K];rfl
 obtain e:fP _ 7 _ _=B (cm _ cl,n_ s Bq Yq M Q):=by unfold fP;refine L h ?_;induction s<;>lk
 unfold j7;dsimp only;exact L e rfl
theorem alF(n:J):∀(k c:J)(s:aF)(es:H Ent)(M:H (ai×V))(Q:H D)(N:J),pz c s es M Yq Q->n+k=cells.length->c+n<=20->n<N->∀{G:Prop},(∀s' e p q,pz (c+n) s' e p Yq q->gR d9 (iG (cO 3)) (λ ρ=>cB dY 56 ρ (f_ (cO 3))) 7 (cm 3 cl) 8 N (cm (dR s) cl) (cC s (es.map aP) Yq M (bb cells) k Q)=B (.ok (.next,cm (dR s') cl),J1 s' (e.map aP) Yq p q)->G)->G:=by
 induction n with
 |zero=>
  intro k c s es M Q N I o u R G K;obtain⟨N,rfl⟩:∃m,N=m+1:=⟨N-1,((apl R).mp rfl)⟩;apply K s es M Q I;obtain a:O (bb cells)=O cells:=gh ..;obtain h:(bb cells)[k]?=none:=List.getElem?_eq_none (by rw[a];lia);exact QO ((by
    show(B _).map _=_;refine L h ?_;induction s<;>rfl))
 |succ n i=>
  intro k c s es M Q N I o A R G K;obtain⟨N,rfl⟩:∃m,N=m+1:=⟨N-1,by lia⟩;have W:k<O cells:=by lia
  obtain h:(bb cells)[k]?=B _:=by unfold bb;rw[Ex,tE W];rfl
  exact alB (k:=k+1) I (ape A) cells[k] λ s1 E v w r x y T f=>i _ _ s1 E v w N y (by lia) (by lia) (Nat.succ_lt_succ_iff.mp R) λ s' e p q F b=>K s' e p q (L (show c+(n+1)=c+1+n by exact om (zh c n)) F) (Y (BB ((by
    show(B _).map _=_;refine L h ?_;induction s<;>rfl)) (by
      induction s<;>lk) rfl T f) b)noncomputable def upN(l:H J):H Nat:=l.map (· - 32)def Dp(i:J):H Nat:=match aL (i% 2) 0 with|true=>qL i|false=>upN (qL i)def i7:H D:=(aw 6).map λ i=>.aD [aK (Dp i),cA (48+i)]def c_(Bq Yq:H D)(M:H (ai×V))(Q V:H D):aE:=b7 Bq (.ae Yq) [.fY M,.ae Q,.fld [("_headers",.aH 10)],.inst 319 8,.ae i7,.ae V]theorem vx(Bq Yq Q W:H D)(h:∀e∈M,fB e.2=S):bY (c_ Bq Yq M Q W):=by refine⟨rfl,rfl,?_⟩;show(bk 12 t0&&(bk 12 t1&&(bk 12 _&&(bk 12 _&&(bk 12 _&&(bk 12 _&&(bk 12 _&&(bk 12 _&&(bk 12 _&&(bk 12 _&&(bk 12 _&&(bk 12 _&&S))))))))))))=S;rw[yS h];rfl
def e6(k:J):Stmt:=(bP i6).getD k (.Pass ey)abbrev s9(C:bV):Cfg:=eG (d4 [(nW,C)])abbrev gW(C:bV):=b4 (s9 C) fj 30 (bz i6)noncomputable def q4(nm df:D):az:=[("default",.d df),("name",.d nm),("self",.aH 9)]def gI(s nm df:D):az:=("name",.d s)::q4 nm df
def oa(s:ai)(bS:J)(cG:J):U Nat:=bS.rec (motive:=λ u=>J->U J) (λ u=>aa) (λ n dF i=>match cN (qL i)==s with
  |true=>B i|false=>dF (i+1)) cG
abbrev Dq(C:bV)(ρ:az)(e:aJ):=(ba (s9 C) 29 (bz i6) ρ e).1
def vy(e:aJ):H PySem.Expr:=(fI e).es.tail
section
variable (C:bV)(Bq Yq Q W:H D)(M:H (ai×V))(nm df:D)(s:ai)theorem g_0:gW C 60 (q4 nm df) [e6 0] (c_ Bq Yq M Q W)=(b5 ((jw C [.aH 9] [Dq C (q4 nm df) ((vy (sY (e6 0))).getD 0 (.Name "" ey))] ["name"] [.ret (.d (.bool S))]).bind λ v=>.ret (.next,("name",v)::q4 nm df)) λ ar=>gW C 59 ar []) (c_ Bq Yq M Q W):=by lk
theorem alG(ρ:az)(σ:aE):gW C 59 ρ [e6 1] σ=b5 (sg (bz i6) 1000 (iG (e6 1)) (n7 (e6 1)) (ba (s9 C) 30 (bz i6) ρ (n7 (e6 1))).1 (λ ρ=>gW C 58 ρ (f_ (e6 1))) ρ) (λ ar=>gW C 58 ar []) σ:=rfl
theorem alH:((ba (s9 C) 30 (bz i6) (gI (.str s) nm df) (n7 (e6 1))).1.bind g8) (c_ Bq Yq M Q W)=B (.ok (.aH 12),c_ Bq Yq M Q W++ [.it (.e3 10 0)]):=rfl
theorem alI:bq (aw 6) (λ i=>gH 12 (c_ Bq Yq M Q W++ [.it (.e3 10 i)]))=br (aw 6) λ i=>B (B (.aD [aK (Dp i),cA (48+i)]),c_ Bq Yq M Q W++ [.it (.e3 10 (i+1))]):=rfl
def q5(i:J)(s nm df:D):az:=("v",.d (cA (48+i)))::("k",.d (aK (Dp i)))::gI s nm df
theorem Xw(i:J):lu (bz i6) (iG (e6 1)) (.aD [aK (Dp i),cA (48+i)]) (gI (.str s) nm df)=B (q5 i (.str s) nm df):=rfl
def Dr:Stmt:=(f_ (e6 1)).getD 0 (.Pass ey)theorem alJ(σ:aE):bq (aw 6) (λ i=>(ba (s9 C) 30 (bz i6) (q5 i (.str s) nm df) (hK Dr)).2 σ)=br (aw 6) λ i=>B (.ok (cN (qL i)==s),σ):=rfl
theorem Xx(ρ:az)(σ:aE):gW C 58 ρ (f_ (e6 1)) σ=b5 (fL (ba (s9 C) 30 (bz i6) ρ (hK Dr)).2 (gW C 57 ρ (kU Dr)) (gW C 57 ρ [])) (λ ar=>gW C 57 ar []) σ:=rfl
theorem alK(i:J)(σ:aE):gW C 57 (q5 i (.str s) nm df) (kU Dr) σ=B (.ok (.ret (.d (cA (48+i))),q5 i (.str s) nm df),σ):=rfl
theorem alL(h:∀e∈M,fB e.2=S)(i j:J)(n:D):fP (gI (.str s) nm df) 13 (q5 i (.str s) n df) (c_ Bq Yq M Q W++ [.it (.e3 10 j)])=B (gI (.str s) (.str s) df,c_ Bq Yq M Q W++ [.it (.e3 10 j)]):=by unfold fP;refine L (((vx Bq Yq Q W h).push rfl rfl).2.2) ?_;lk
theorem alM(h:∀e∈M,fB e.2=S)(n:D):j7 (gI (.str s) nm df) 12 (B (.ok (.next,gI (.str s) n df),c_ Bq Yq M Q W++ [.cX]))=B (.ok (.next,gI (.str s) (.str s) df),c_ Bq Yq M Q W):=by
 have e:((c_ Bq Yq M Q W++ [.cX]:aE).take 12).all _=true:=(vx Bq Yq Q W h).2.2;obtain q:fP _ 12 _ _=B (gI _ _ df,c_ Bq Yq M Q W):=by unfold fP;refine L e ?_;lk
 unfold j7;dsimp only;exact L q rfl
theorem alN(σ:aE):gW C 58 (gI (.str s) nm df) [e6 2] σ=B (.ok (.ret (.d df),gI (.str s) nm df),σ):=rfl
theorem Xy(h:∀e∈M,fB e.2=S):∀(n i N:J)(o:D),n+i=6->n<N->∃(ar:az)(m:cj)(K:D),gR (bz i6) (iG (e6 1)) (λ ρ=>gW C 58 ρ (f_ (e6 1))) 12 (gI (.str s) nm df) 13 N (gI (.str s) o df) (c_ Bq Yq M Q W++ [.it (.e3 10 i)])=match oa s n i with
  |some k=>B (.ok (.ret (.d (cA (48+k))),ar),c_ Bq Yq M Q W++ [m])|none=>B (.ok (.next,gI (.str s) K df),c_ Bq Yq M Q W++ [.cX])
 |0,i,N,o,v,R=>by
  obtain⟨N,rfl⟩:∃m,N=m+1:=⟨N-1,by lia⟩;obtain rfl:i=6:=by lia
  exact(e_ ([]) .cX o (L (QO rfl) rfl))
 |n+1,i,N,o,v,R=>by
  obtain⟨N,rfl⟩:∃m,N=m+1:=⟨N-1,by lia⟩;obtain c:i<6:=by lia
  obtain t:=bc (alJ C o df s _) (a4.mpr c);obtain u:=bc (alI Bq Yq Q W M) (a4.mpr c);cases q:cN _==s with
  |true=>
   rw[q]at t;obtain b:gW C 58 _ _ _=B (.ok _,c_ Bq Yq M Q W++ [.it (.e3 10 (i+1))]):=by exact L (Xx ..) (yP (Y (aT t) (alK ..)))
   refine(e_ (q5 i (.str s) o df) (.it (.e3 10 (i+1))) o (Y (QP u rfl (Xw ..) b) ?_));obtain E:oa s (n+1) i=B i:=by show(match cN _==s with|true=>B i|false=>oa s n _)=_;exact L q rfl
   rw[E];try rfl
  |false=>
   rw[q]at t;have b:gW C 58 (q5 i (.str s) o df) (f_ (e6 1)) (c_ Bq Yq M Q W++ [.it (.e3 10 (i+1))])=B (.ok (.next,q5 i (.str s) o df),c_ Bq Yq M Q W++ [.it (.e3 10 (i+1))]):=by exact L (Xx ..) (Y (gd (af:=c_ Bq Yq M Q W++ [.it _]) (Y (aT t) rfl)) rfl)
   refine mf (Xy h n (i+1) N (.str s) (by lia) (by lia)) λ ar m K r=>((e_ ar m K ?_));have E:oa s (n+1) i=oa s n (i+1):=by show(match cN (qL i)==s with|true=>B i|false=>oa s n (i+1))=_;exact L q rfl
   exact L (E ..) (Y (BB u rfl (Xw o df s i) b (alL Bq Yq Q W M nm df s h i (i+1) o)) r)
end
theorem Xz:bP i6=[e6 0,e6 1,e6 2]:=rfl
theorem alO(h:∀e∈M,fB e.2=S)(b:lD (.str z)=B (.str s))(c:s.cps.size<=1000000)(A:s.cps.toList.any nU=aj):vt [.aH 9,.d (.str z),.d df] [] (c_ Bq Yq M Q W)=B (.ok (.d (match oa s 6 0 with|some k=>cA (48+k)|none=>df)),c_ Bq Yq M Q W):=by
 obtain g:=vx Bq Yq Q W h;obtain N:gW du 60 (q4 _ df) [e6 0] (c_ Bq Yq M Q W)=B (.ok (.next,gI _ _ df),c_ Bq Yq M Q W):=by
  refine Y (gd (af:=c_ Bq Yq M Q W) ?_) rfl;obtain a:Dq du (q4 (.str z) df) ((vy (sY (e6 0))).getD 0 _) _=B _:=by show Ev.ofD _ _=_;exact L b rfl
  obtain q:jw du [.aH 9] [Dq du _ ((vy _).getD 0 (.Name "" ey))] ["name"] [.ret _] (c_ Bq Yq M Q W)=B _:=by obtain E:=Y (aT a) rfl;exact Y (aT E) (C6 S g c A)
  exact Y (aT q) rfl
 refine mf (Xy du Bq Yq Q W M (.str z) df s h 6 0 1000 (.str z) (Lb 5 0) (Zy rfl)) λ ar m n r=>?_;obtain f:=QR (body:=λ ρ=>gW du 58 ρ _) (by lk) (alH du Bq Yq Q W M _ df s);obtain F:∃j i,gW du 60 _ _ _=B (.ok (.ret (.d (match oa s 6 0 with|some k=>cA (48+k)|none=>df)),j),i)/\i.take 12=c_ Bq Yq M Q W:=by
  have f:sg _ 1000 _ (n7 (e6 1)) (ba (s9 du) 30 (bz i6) (gI (.str s) (.str z) df) (n7 (e6 1))).1 (λ ρ=>gW du 58 ρ (f_ (e6 1))) (gI (.str s) (.str z) df) (c_ Bq Yq M Q W)=j7 (gI (.str s) (.str z) df) 12 (gR (bz i6) (iG (e6 1)) (λ ρ=>gW du 58 ρ (f_ (e6 1))) 12 (gI (.str s) (.str z) df) 13 1000 (gI (.str s) (.str z) df) (c_ Bq Yq M Q W++ [.it (.e3 10 0)])):=f;rw[r]at f;refine L Xz ?_;cases q:oa s 6 0 with
  |some k=>
   rw[q]at f;obtain E:gW du 59 (gI (.str s) (.str z) df) [e6 1,e6 2] (c_ Bq Yq M Q W)=B (.ok (.ret (.d (cA (48+k))),ar),c_ Bq Yq M Q W++ [m]):=by exact Iw (Y (alG ..) (yP (Y f rfl)))
   exact(bh ar _ ⟨Y (cS N) E,rfl⟩)
  |none=>
   rw[q]at f;simp[alM Bq Yq Q W M (.str z) df s h n]at f;have E:gW du 59 (gI (.str s) (.str z) df) [e6 1] (c_ Bq Yq M Q W)=B (.ok (.next,gI (.str s) (.str s) df),c_ Bq Yq M Q W):=by exact Y (gd f) rfl
   exact(bh _ _ ⟨Y (cS N) (Y (cS E) (alN ..)),rfl⟩)
 refine eM F λ j i e l=>Y (o3 e) ?_;show bR ((i.take 12).all _) (B (_,i.take 12))=_;exact L l (eh g.2.2)
theorem alP(h:∀e∈M,fB e.2=S)(b:lD (.str z)=B (.str s))(c:s.cps.size<=1000000)(A:s.cps.toList.any nU=S):vt [.aH 9,.d (.str z),.d df] [] (c_ Bq Yq M Q W)=B (.exc "ValueError" [.str kV],c_ Bq Yq M Q W):=by
 obtain g:=vx Bq Yq Q W h;have E:gW du 60 (q4 (.str z) df) [e6 0] (c_ Bq Yq M Q W)=B (.exc "ValueError" [.str kV],c_ Bq Yq M Q W):=by
  refine L (g_0 ..) (C8 (jm ?_));have a:Dq du (q4 (.str z) df) ((vy (sY (e6 0))).getD 0 (.Name "" ey)) (c_ Bq Yq M Q W)=B (.ok (.d (.str s)),c_ Bq Yq M Q W):=by show Ev.ofD _ _=_;exact L (b ..) rfl
  exact Y (aT (Y (aT a) rfl)) (JC S g c A)
 obtain r:=by exact Xz.symm▸Iy E
 exact Y (o3 r) (C9 g.2.2 _ _)def J3:D:=.ae ([48,49,50,51,52,53,48,49,50,51,52,53].map cA)noncomputable def yU(l:H (ai×D)):H (ai×V):=l.map λ p=>(p.1,.d p.2)
theorem XF:∀{M:H (ai×V)},(∀e∈M,fB e.2=S)->∃l,M=yU l/\O l=O M
 |[],_=>⟨[],rfl,rfl⟩|e::M,h=>by refine av (XF λ e x=>h e (c7 _ x)) λ l W j=>?_;obtain⟨k,v⟩:=e;induction v with|d d=>exact⟨(k,d)::l,aM _ W,by simp only[gy,j,gy]⟩|aH i=>exact bw (h _ cV)def ij(Bq Yq:H D)(M:H (ai×V))(Q:H D)(s:H D):aE:=b7 Bq (.ae Yq) [.fY M,.ae Q,.fld [("_headers",.aH 10)],.inst 319 8,.ae s]def Ds(cl:D):az:=("orders",.aH 9)::cm 7 cl
def yV(cl:D):az:=("laid",.d J3)::Ds cl
section
variable (Bq Yq Q:H D)(cl:D)
theorem p_4(X:H (ai×D))(h:5<=O X)(n:O X<=10):cB dY 56 (cm 7 cl) [cO 4] (n_ S Bq Yq (yU X) Q)=B (.ok (.next,Ds cl),ij Bq Yq (yU X) Q []):=by
 rcases X with _|⟨a,_|⟨b,_|⟨c,_|⟨d,_|⟨e,_|⟨f,_|⟨g,_|⟨i,_|⟨j,_|⟨k,_|⟨l,m⟩⟩⟩⟩⟩⟩⟩⟩⟩⟩⟩<;>first
  |(exfalso;done)
  |(exfalso;simp at n;done)
  |lk
theorem p_5(X:H (ai×D))(h:5<=O X)(n:O X<=10):cB dY 55 (Ds cl) [cO 5] (ij Bq Yq (yU X) Q [])=B (.ok (.next,yV cl),ij Bq Yq (yU X) Q i7):=by
 rcases X with _|⟨a,_|⟨b,_|⟨c,_|⟨d,_|⟨e,_|⟨f,_|⟨g,_|⟨i,_|⟨j,_|⟨k,_|⟨l,m⟩⟩⟩⟩⟩⟩⟩⟩⟩⟩⟩<;>first
  |(exfalso;simp at h;done)
  |(exfalso;simp at n;done)
  |lk
end
noncomputable def ob:H Ent->H J
 |[]=>yT|[e]=>e.2|_::e::es=>ob (e::es)
theorem XG:∀es:H Ent,ob es=yT\/∃e∈es,e.2=ob es
 |[]=>.inl rfl|[e]=>.inr ⟨e,cV,rfl⟩|_::e::es=>(XG (e::es)).imp id λ z=>av z λ x h j=>⟨x,c7 _ h,j⟩def XH:aJ->PySem.Expr:=iu 0
def XI:aJ->PySem.Expr:=iu 1
abbrev jV:PySem.Expr:=sY (cO 6)abbrev oc(o m sp:J):D:=aK (ig (dW o 0) (dV m) sp)def XJ(l cl:D):az:=("last",.d l)::yV cl
def lV(iL l cl:D):az:=("due",.d iL)::XJ l cl
def s_(XK iL l cl:D):az:=("told",.d XK)::lV iL l cl
def ki(o m:J):D:=match aL m 5 with|true=>.str kV|false=>match aL m 6||Nat.beq m 23 with|true=>cA (48+o)|false=>.str "none"
noncomputable def J4(o m:J):Nat:=match aL m 6||Nat.beq m 23 with|true=>o|false=>0
def alQ(s:bx):PySem.Expr:=hz 0 ((sB 0 s).headD s)abbrev cl8:PySem.Expr:=alQ (cO 8)abbrev Dt:PySem.Expr:=(vy cl8).getD 0 (.Name "" ey)abbrev J5:PySem.Expr:=(vy Dt).getD 0 (.Name "" ey)
section
variable (K:J->bV)(Bq Yq Q:H D)(M:H (ai×V))(cl l iL XK:D)(σ:aE)(es:H Ent)theorem z_6(ρ:az):cB K 54 ρ [cO 6] σ=(b5 (fb d9 "last" ((eQ K 29 ρ (XH jV)).1.bind λ a=>(eQ K 29 ρ (XI jV)).1.bind λ b=>lE a b) ρ) λ ar=>cB K 53 ar []) σ:=rfl
theorem alR:(eQ K 29 (yV cl) (XH jV)).1 σ=B (.ok (.aH 6),σ):=rfl
theorem alS(h:O es<=9):(eQ K 29 (yV cl) (XI jV)).1 (ij Bq Yq M (es.map aP) i7)=B (.ok (.d (aK (ob es))),ij Bq Yq M (es.map aP) i7):=by
 rcases es with _|⟨a,_|⟨b,_|⟨c,_|⟨d,_|⟨e,_|⟨f,_|⟨g,_|⟨i,_|⟨j,_|⟨k,l⟩⟩⟩⟩⟩⟩⟩⟩⟩⟩<;>first
  |(exfalso;simp at h;done)
  |lk
theorem z_7:bq (aw 6) (λ o=>bq (aw 24) λ m=>bq (aw 4) λ sp=>cB K 53 (XJ (oc o m sp) cl) [cO 7] σ)=br (aw 6) λ o=>br (aw 24) λ m=>br (aw 4) λ sp=>B (.ok (.next,lV (ki o m) (oc o m sp) cl),σ):=by lk
theorem z_8:cB K 52 (lV iL l cl) [cO 8] (ij Bq Yq M Q i7)=(b5 (qp ee d9 (λ ρ body=>b4 fj fj 30 d9 51 ρ body) (fb d9 "told" (jw (K 6) [.aH 9] [(eQ K 29 (lV iL l cl) Dt).1,.ret (.d (.str "none"))] [] []) (lV iL l cl)) (vv (cO 8)) (lV iL l cl)) λ ar=>cB K 51 ar []) (ij Bq Yq M Q i7):=by lk
theorem alT:(eQ K 28 (lV iL l cl) J5).1 (ij Bq Yq M Q i7)=((kG .Add (.ret (.d (.ae [.str "fli"]))) (K 4 [.aH 5] [])).bind λ a=>lE a (.d (.int (-1)))) (ij Bq Yq M Q i7):=rfl
theorem alU:uO (qo ee d9 (λ ρ body=>b4 fj fj 30 d9 51 ρ body) "ValueError" [.str kV] (vv (cO 8)) (lV iL l cl)) σ=B (.ok (.next,s_ (.str kV) iL l cl),σ):=by lk
end
def yW:J->aJ->PySem.Expr:=iu
abbrev dQ:PySem.Expr:=Wt (cO 9)theorem z_9(K:J->bV)(ρ:az)(σ:aE):cB K 51 ρ [cO 9] σ=(b5 (ly (fL (eQ K 29 ρ (yW 0 dQ)).2 (eQ K 29 ρ (yW 1 dQ)).1 (eQ K 29 ρ (yW 2 dQ)).1) ρ) λ ar=>cB K 50 ar []) σ:=rfl
def XM:hI:=⟨I5++ [(("str" :ai),f9 uH)],(fl []).jy⟩theorem alV:bq (aw 6) (λ o=>bq (aw 24) λ m=>(bJ XM 29 d9 [("told",ki o m),("due",ki o m),("laid",J3)] (yW 0 dQ)).2)=br (aw 6) λ u=>br (aw 24) λ u=>B true:=by lk
theorem alW:bq (aw 6) (λ o=>bq (aw 24) λ m=>bq (aw 4) λ sp=>(bJ (fl []) 29 d9 [("last",oc o m sp),("words",eI)] (yW 1 dQ)).1)=br (aw 6) λ o=>br (aw 24) λ m=>br (aw 4) λ u=>B (.int (J4 o m:J)):=by lk
def J6(c:J):Bool:= !(c==0x3A3)&&sW (PySem.Unicode.lowerOf c) [c]
theorem alX(h:∀c∈cs,J6 c=S):LB (cN cs)=cN cs:=by
 unfold LB;rw[PyProof.Rows.placed_single _ _ id λ i c A=>by
  obtain f:=by simpa using A
  obtain⟨W,j⟩:=bF.mp (h c (eK A));unfold PySem.Unicode.lowerAt;refine L f ?_;simp[(show(c==0x3A3)=aj by simpa using W)];exact vo j]
 show Ey (Array.map id cs.toArray)=_;rw[Array.map_id];rfl
theorem alY(i:o<6)(e:m<24)(b:sp<4):lD (oc o m sp)=B (oc o m sp):=by
 obtain E:=J0 i (show 0<2 by decide) (ZI e (by decide)) b;show a8 (aZ (cN _).length 5592405) (B (D.str (LB (cN _))))=_;rw[alX ((by
   intro c A;have f:∀{g:H _},(∀l∈g,l∈dW o 0)->c∈g.flatten->J6 c=true:=λ h q=>by exact av (List.mem_flatten.mp q) λ l W j=>(b9.mp (b9.mp (b9.mp (show((aw 6).all λ o=>(dW o 0).all λ l=>l.all J6)=S from rfl) o (a4.mpr i)) l (h l W)) c j)
   rcases bB.mp ((Ez.mp A).1)with q|q
   ·exact f (λ l=>nc) q
   ·rcases bB.mp q with q|q
    ·exact b9.mp rfl c (nd (nc q))
    ·exact f (λ l=>nd) q)),V_,dD (by lia)];rfl
theorem alZ:((aw 6).all λ o=>(aw 24).all λ m=>(aw 4).all λ sp=>(dV m).any eZ|| ((ig (dW o 0) (dV m) sp).any nU==aL m 5))=true:=by lk
theorem al0:bq (aw 6) (λ o=>bq (aw 24) λ m=>bq (aw 4) λ sp=>oa (cN (ig (dW o 0) (dV m) sp)) 6 0)=br (aw 6) λ o=>br (aw 24) λ m=>br (aw 4) λ u=>(match aL m 6||Nat.beq m 23 with|true=>B o|false=>aa):=by lk
theorem al1:(bq (aw 6) λ o=>bq (aw 2) λ p=>bq (aw 4) λ sp=>bE ((dW o p).take sp).flatten.length 4)=br (aw 6) λ o=>br (aw 2) λ p=>br (aw 4) λ sp=>true:=rfl
theorem al2:(bq (aw 6) λ o=>bq (aw 2) λ p=>bq (aw 4) λ sp=>((dW o p).take sp).flatten)=br (aw 6) λ o=>br (aw 2) λ p=>br (aw 4) λ sp=>((dW o 0).take ((dW o p).take sp).flatten.length).flatten:=rfl
theorem al3:(bq (aw 6) λ o=>bq (aw 2) λ p=>bq (aw 4) λ sp=>((dW o p).drop sp).flatten)=br (aw 6) λ o=>br (aw 2) λ p=>br (aw 4) λ sp=>((dW o 0).drop ((dW o p).take sp).flatten.length).flatten:=rfl
theorem al4(i:o<6)(u:p<2)(b:sp<4)(P:H J){GG:Prop}(k:∀s,s<4->ig (dW o p) P sp=ig (dW o 0) P s->GG):GG:=
 have h:=a4.mpr i;have j:=a4.mpr u;have v:=a4.mpr b
 k ((dW o p).take sp).flatten.length (cg.mp (bc (bc (bc al1 h) j) v)) (aM lR (congr (aM HAppend.hAppend (bc (bc (bc al2 h) j) v)) (aM _ (bc (bc (bc al3 h) j) v))))
theorem J7:∀{pr:cz},(∀p∈pr,ρ.lookup p.1=B (.d p.2))->dt pr ρ
 |[],_=>JQ ρ
 |(n,d)::pr,h=>λ m e r=>by
  dsimp only[gY]at r;refine dO (m==n) (λ q=>?_) λ q=>?_
  ·rw[q]at r;refine ax (ak r) ?_;rw[cI.mp q];exact h _ cV
  ·rw[q]at r;exact J7 (λ p u=>h p (c7 _ u)) m e r
theorem al5(es:H Ent)(h:O es<=9):((fW .Add (.ae [.str "fli"]) (.ae (vals es))).bind λ l=>fh l (.int (-1)))=B (aK (ob es)):=by
 rcases es with _|⟨a,_|⟨b,_|⟨c,_|⟨d,_|⟨e,_|⟨f,_|⟨g,_|⟨i,_|⟨j,_|⟨k,l⟩⟩⟩⟩⟩⟩⟩⟩⟩⟩<;>first
  |(exfalso;simp at h;done)
  |lk
theorem XN(h:o=B d):Ev.ofD o σ=B (.ok (.d d),σ):=by subst h;rfl
theorem XO(b:dU s nm=S)(h:m σ=B (.ok v,af)):fb s nm m ρ σ=B (.ok (.next,(nm,v)::ρ),af):=by unfold fb;exact L b (Y (aT h) rfl)theorem al6(b:dU s nm=S)(h:m σ=B (.exc c as,af)):fb s nm m ρ σ=B (.exc c as,af):=by unfold fb;exact L b (jm h)theorem XQ:dU d9 "told" =true:=by lk
theorem al7(h:∀e∈M,fB e.2=S)(Bq:H D):bY (ij Bq Yq M Q i7):=by refine⟨rfl,rfl,?_⟩;show(bk 11 t0&&(bk 11 t1&&(bk 11 _&&(bk 11 _&&(bk 11 _&&(bk 11 _&&(bk 11 _&&(bk 11 _&&(bk 11 _&&(bk 11 _&&(bk 11 _&&S)))))))))))=S;rw[yS h];rfl
theorem al8(I:pz c S es M Yq Q)(A:c<=9)(j:o<6)(e:m<24)(f:sp<4)(P:(dV m).any eZ=aj)(n:ih (ob es)=B (ig (dW o 0) (dV m) sp))(R:2<=O (ob es))(T:O (ob es)<=5):cB dY 52 (lV iL l cl) [cO 8] (ij (es.map aP) Yq M (es.map aP) i7)=B (.ok (.next,s_ (ki o m) iL l cl),c_ (es.map aP) Yq M (es.map aP) (vals es)):=by
 obtain E:O es<=9:=by have:=I.cL;lia
 obtain z:=J0 j (show 0<2 by decide) (ZI e (by decide)) f;obtain p:(eQ dY 28 (lV iL l cl) J5).1 (ij (es.map aP) Yq M (es.map aP) i7)=B _:=by
  refine L (alT ..) (av (rm.mp (al5 es E)) λ d V g=>?_);obtain b:kG .Add (.ret _) _ _=B _:=by exact(aT ((Wv (es:=es) (by lia) (y:=.ae Yq) (rest:=[.fY M,.ae _,.fld [("_headers",.aH 10)],.inst 319 8,.ae i7]) (al7 (Yq:=Yq) (Q:=es.map aP) I.e0 _)))).trans (Y (aT (m:=Ev.read (.d _)) (a:=.ae [.str "fli"]) (af:=c_ _ Yq M _ _) rfl) (Y (aT (Dh (σ:=c_ _ Yq M _ _) (i:=11) rfl)) (XN V)))
  exact Y (aT b) (XN g)
 obtain r:(eQ dY 29 _ Dt).1 _=B _:=by exact Y (aT ((aT p).trans rfl:cE [(eQ dY 28 (lV iL l cl) J5).1] (ij (es.map aP) Yq M (es.map aP) i7)=B (.ok [.d (aK (ob es))],c_ (es.map aP) Yq M (es.map aP) (vals es)))) (sI (ds:=[aK (ob es)]) (Wc n z R T) (Dn (vx (es.map aP) Yq (es.map aP) (vals es) I.e0)))
 obtain C:jw (dY 6) [.aH 9] [(eQ dY 29 (lV iL l cl) Dt).1,.ret (.d (.str "none"))] [] [] (ij (es.map aP) Yq M (es.map aP) i7)=dY 6 [.aH 9,.d (oc o m sp),.d (.str "none")] [] (c_ (es.map aP) Yq M (es.map aP) (vals es)):=by exact Y (aT ((aT r).trans rfl)) rfl
 obtain F:=alY j e f;obtain h:=b9.mp (b9.mp (b9.mp alZ o (a4.mpr j)) m (a4.mpr e)) sp (a4.mpr f);rw[P]at h;obtain h:=cI.mp h;refine L (z_8 ..) (Y (gd (ρ:=s_ (ki o m) iL l cl) (af:=c_ (es.map aP) Yq M (es.map aP) (vals es)) ?_) rfl);unfold qp;cases q:aL m 5 with
 |true=>rw[q]at h;obtain k:=alP I.e0 F (show(ig (dW o 0) (dV m) sp).toArray.size<=1000000 by simp;lia) h;rw[al6 XQ (Y C k)];dsimp only;refine L (alU ..) ?_;unfold ki;exact L q rfl
 |false=>
  rw[q]at h;obtain k:=alO (s:=cN (ig (dW o 0) (dV m) sp)) (df:=.str "none") (Bq:=es.map aP) (Yq:=Yq) (Q:=es.map aP) (W:=vals es) I.e0 F (show(ig (dW o 0) (dV m) sp).toArray.size<=1000000 by simp;lia) h;obtain k:dY 6 [.aH 9,.d (oc o m sp),.d (.str "none")] [] (c_ (es.map aP) Yq M (es.map aP) (vals es))=B (.ok (.d (ki o m)),c_ (es.map aP) Yq M (es.map aP) (vals es)):=by refine Y k (L (bc (bc (bc al0 (a4.mpr j)) (a4.mpr e)) (a4.mpr f)) ?_);unfold ki;refine L q ?_;cases aL m 6||Nat.beq m 23<;>rfl
  rw[XO XQ (Y C k)];rfl
theorem al9(I:pz c S es M Yq Q)(i:o<6)(s:m<24)(b:sp<4)(W:H D):cB dY 51 (s_ (ki o m) (ki o m) (oc o m sp) cl) [cO 9] (c_ (es.map aP) Yq M (es.map aP) W)=B (.ok (.ret (.d (.int (J4 o m:J))),s_ (ki o m) (ki o m) (oc o m sp) cl),c_ (es.map aP) Yq M (es.map aP) W):=by
 obtain g:=vx _ Yq _ W I.e0;obtain t:=(jB ((show i4 XM (eG (d4 _))from by
   obtain Bq:=sN λ p u=>aR u dS;refine⟨Bq.gl,Bq.bg,Bq.loops,Bq.fuel,Bq.item,Bq.src,λ nm f e=>?_,Bq.jy⟩;rcases bB.mp (nk e)with q|q
   ·exact U1 _ q
   ·refine cq (bf (ek.mp q)) λ v C=>L v (L C ?_)
    exact⟨.ty "str",rfl,UZ λ ds d e σ=>by
     refine av (sJ e) λ a w h=>L w ?_;show(match e5 uH [.d a] σ with|some r=>B r|none=>e5 BL [.d a] σ)=_;rw[qJ h]⟩)) 29 d9 [("told",ki o m),("due",ki o m),("laid",J3)] (s_ _ _ _ cl) (J7 λ p u=>by
  simp only[dM,dS,jQ]at u;rcases u with rfl|rfl|rfl<;>lk) _).2 S (bc (bc alV (a4.mpr i)) (a4.mpr s)) _ g
 obtain a:=(jB (qY dY) 29 d9 [("last",oc o m sp),("words",eI)] (s_ _ _ _ cl) (J7 λ p u=>by
  simp only[dM,dS,jQ]at u;rcases u with rfl|rfl<;>lk) _).1 _ (bc (bc (bc alW (a4.mpr i)) (a4.mpr s)) (a4.mpr b)) _ g
 exact Y (z_9 ..) (yP (Y (aT ((aT t).trans a)) rfl))theorem al_(Bq Yq Q W:H D)(M:H (ai×V)):(c_ Bq Yq M Q W).take 2=bK:=rfl
theorem ama(I:pz c S es M Yq Q)(A:c<=9){G:Prop}(K:∀i ar af,i<6->cB dY 56 (cm 7 cl) [cO 4,cO 5,cO 6,cO 7,cO 8,cO 9] (n_ S (es.map aP) Yq M Q)=B (.ok (.ret (.d (.int (i:J))),ar),af)->af.take 2=bK->G):G:=by
 refine(λ I K=>by
   refine t7 (I.fZ _ (XG es)) λ R t W j v u=>?_;refine NP t λ o p sp m h x f q r=>cq r λ k e=>al4 h x f (dV m) λ s N E=>?_;rw[E]at e;subst e;exact K o m s h q N k W j v u) I λ o m sp h q f k W j P g=>av (XF I.e0) λ l w V=>?_
 obtain C:=I.dd.2 rfl;subst C;obtain a:=I.da;have b:=I.hm;obtain D:cB dY 56 _ [cO 4] (n_ S _ Yq M _)=B (.ok (.next,Ds cl),ij (es.map aP) Yq M (es.map aP) []):=by rw[w];exact p_4 _ _ _ _ l (by lia) (by lia)
 obtain eT:cB dY 55 _ [cO 5] (ij _ Yq M _ [])=B (.ok (.next,yV cl),ij (es.map aP) Yq M (es.map aP) i7):=by rw[w];exact p_5 _ _ _ _ l (by lia) (by lia)
 refine K _ _ _ ?_ (Y (cS D) (Y (cS eT) (Y (cS ((by
   refine Y (z_6 ..) (Y (gd (af:=ij _ Yq M _ i7) ?_) rfl);refine XO rfl (Y (aT (alR dY cl _)) (Y (aT (alS dY _ Yq M cl es (by have:=I.cL;exact bA ‹_› ‹_›))) (Y (eh I.hk) ?_)));show Ev.of (eO _ M) _=_;exact L g rfl))) (Y (cS (bc (bc (bc (z_7 dY cl _) (a4.mpr h)) (a4.mpr q)) (a4.mpr f))) (Y (cS (al8 I A h q f k W j P)) (al9 I h q f _)))))) (al_ ..)
 unfold J4;cases aL m 6||Nat.beq m 23<;>simp<;>assumption
noncomputable def rK:H Nat:=[1,9,8,72,64,65]def g0:H Nat:=rK.flatMap λ a=>rK.flatMap λ b=>rK.map λ c=>a+2*b+4*c
noncomputable def dg(l i:J):Nat:=l/2^i% 2
def eu(l i:J):Int:=2*(dg l i:ah)- 1
theorem tY(l i:J):dg l i=0\/dg l i=1:=by have:dg l i<2:=dN _ (by decide);lia
def b0{α:Type}(f:α->ah)(bS:H α):Int:=bS.rec (motive:=λ u=>ah) (0) (λ a l dF=>f a+dF)
theorem iT:∀{l:H α},(∀a∈l,f a=g a)->b0 f l=b0 g l
 |[],_=>rfl|a::l,h=>by show f a+b0 f l=g a+b0 g l;rw[h a cV,iT λ b q=>h b (c7 _ q)]
theorem p1(f g:α->ah):∀l:H α,b0 (λ a=>f a+g a) l=b0 f l+b0 g l
 |[]=>rfl|a::l=>by refine(?_:f a+g a+b0 _ l=f a+b0 f l+(g a+b0 g l));rw[p1 f g l];lia
theorem p2(c:ah)(f:α->ah):∀l:H α,b0 (λ a=>c*f a) l=c*b0 f l
 |[]=>by show 0=c*0;exact om (Int.mul_zero c)|a::l=>by refine(?_:c*f a+b0 _ l=c*(f a+b0 f l));simp[p2 c f l,KW]
theorem Ac:∀l:H α,b0 (λ u=>(0:ah)) l=0
 |[]=>rfl|_::l=>by show 0+b0 _ l=0;rw[Ac l];rfl
theorem Fu(f:α->h->ah):∀(l:H α)(m:H h),b0 (λ a=>b0 (f a) m) l=b0 (λ b=>b0 (λ a=>f a b) l) m
 |[],m=>(Ac m).symm|a::l,m=>by refine(?_:b0 _ m+b0 _ l=b0 (λ b=>f a b+b0 _ l) m);rw[Fu f l m,<-p1]theorem aaU(f:α->ah)(g:h->ah)(l:H α)(m:H h):b0 f l*b0 g m=b0 (λ a=>b0 (λ b=>f a*g b) m) l:=by rw[DY,<-p2];refine iT λ a u=>?_;simp[p2,DY]theorem aaV(c:ah)(f:α->ah)(l:H α):b0 (λ a=>f a*c) l=b0 f l*c:=by rw[DY,<-p2];exact iT λ m u=>DY _ _
theorem aaW(w a b c d:ah):w*((a*c)*(b*d))=w*(c*d)*(a*b):=by ac_rfl
theorem Nl[YB α](f:α->ah)(p:α):∀{W:H α},W.Nodup->p∈W->b0 (λ q=>(if q=p then 1 else 0)*f q) W=f p
 |[],_,h=>by cases h
 |u::W,V,h=>by
  show(if u=p then 1 else 0)*f u+b0 (λ q=>(if q=p then 1 else 0)*f q) W=f p;obtain⟨X,j⟩:=YC.mp V;by_cases e:u=p
  ·refine ax e ?_
   obtain z:b0 (λ q=>(if q=u then 1 else 0)*f q) W=0:=by refine Y (iT λ q G=>?_) (Ac W);rw[a6 (λ e=>X (by rw[<-e];exact G)),KX]
   rw[z,bC rfl,Int.one_mul,Int.add_zero]
  ·obtain r:p∈W:=by
    rcases dM.mp h with q|q
    ·exact aR q.symm e
    ·exact q
   rw[a6 e,KX,Nl f p j r,KY]
theorem Nm[YB α][BEq α][LawfulBEq α](f:α->ah)(V:W.Nodup):∀{M:H α},(∀p∈M,p∈W)->b0 f M=b0 (λ q=>(M.count q:ah)*f q) W
 |[],_=>by refine Y ((Ac W).symm) (iT λ q u=>?_);show 0=0*f q;rw[KX]
 |p::M,h=>by
  show f p+b0 f M=_;rw[Nm f V λ q G=>h q (c7 _ G),<-Nl f p V (h p cV),<-p1];refine iT λ q u=>?_;rw[List.count_cons];by_cases e:q=p
  ·refine L e ?_
   rw[KZ,Int.add_mul];lia
  ·rw[a6 e,a6 (by simpa using λ h=>e h.symm),KX,KY]
   dsimp only[rd]noncomputable def tZ:H (J×J):=(aw 8).flatMap λ i=>(aw 8).map λ j=>(i,j)noncomputable def Ad(n:J):Bool:=match n with|1|2|4|7=>S|_=>aj
def Ae(i m:J):Int:=match Ad (zq i m)with|true=> -1|false=>1
noncomputable def ji:J->ah
 |0=>27|1=> -9|2=> -9|3=>3|4=> -9|5=>3|6=>3|_=> -1
def fH(x:J->ah)(m:J):Int:=b0 (λ i=>x i*Ae i m) (aw 8)def wG(i j:J):Int:=b0 (λ m=>ji m*(Ae i m*Ae j m)) (aw 8)
theorem aaX(x y:J->ah):b0 (λ m=>ji m*(fH x m*fH y m)) (aw 8)=b0 (λ i=>b0 (λ j=>wG i j*(x i*y j)) (aw 8)) (aw 8):=by
 obtain e:b0 (λ m=>ji m*(fH x m*fH y m)) _=b0 (λ m=>b0 (λ i=>b0 _ _) _) (aw 8):=by refine iT λ m u=>?_;unfold fH;rw[aaU,<-p2];exact iT λ i u=>ax (p2 ..) (iT λ j u=>(aaW _ _ _ _ _))
 rw[e,Fu];exact iT λ i u=>(Y (Fu ..) (iT λ j u=>(aaV _ _ _)))
theorem aaY(f:J->J->ah):b0 (λ i=>b0 (λ j=>f i j) (aw 8)) (aw 8)=b0 (λ q:J×J=>f q.1 q.2) tZ:=by
 have A:∀(l m:H _),b0 (λ q:J×J=>f q.1 q.2) (l++m)=b0 (λ q:J×J=>f q.1 q.2) l+b0 (λ q:J×J=>f q.1 q.2) m:=by intro l m;induction l with|nil=>show _=0+_;rw[KY];rfl|cons a l g=>show f a.1 a.2+b0 _ (l++m)=f a.1 a.2+b0 _ l+b0 _ m;rw[g];exact om (anL _ _ _)
 obtain all:∀I:H J,b0 (λ i=>b0 (λ j=>f i j) (aw 8)) I=b0 (λ q:J×J=>f q.1 q.2) (I.flatMap λ i=>(aw 8).map λ j=>(i,j)):=by intro I;induction I with|nil=>rfl|cons i I g=>simp[List.flatMap_cons,A,<-g];rfl
 exact all _
def Nn:H (J×J):=g0.map λ m=>(m% 8,m/8% 8)def Np:H (J×J):=g0.map λ m=>(m/8% 8,m/64)def Nq:H (J×J):=g0.map λ m=>(m/64,m% 8)theorem Fv(h:∀p∈M,p∈tZ)(A:∀q∈tZ,wG q.1 q.2=8*(M.count q:ah))(x y:J->ah):b0 (λ m=>ji m*(fH x m*fH y m)) (aw 8)=8*b0 (λ q:J×J=>x q.1*y q.2) M:=by rw[aaX,aaY _,Nm _ (by decide+kernel) h,<-p2];refine iT λ q G=>?_;rw[A q G,Int.mul_assoc]def oI(s l n m:J):Bool:=aL (dg s (m% 8)) (dg l (m/8% 8))&&aL (dg l (m/8% 8)) (dg n (m/64))def lb(l D n:J):Nat:=O (g0.filter (oI l D n))theorem aaZ(l D n m:J):4*(if oI l D n m=S then(1:ah)else 0)=1+(eu l (m% 8)*eu D (m/8% 8)+(eu D (m/8% 8)*eu n (m/64)+eu n (m/64)*eu l (m% 8))):=by delta oI eu;rcases tY l _ with a|a<;>rcases tY D _ with b|b<;>rcases tY n _ with c|c<;>rw[a,b,c]<;>rfl
theorem Nr(p:J->aF):∀l:H J,b0 (λ m=>if p m=S then(1:ah)else 0) l=(O (l.filter p):ah)
 |[]=>rfl
 |a::l=>by
  show _+b0 _ l=_;simp[Nr p l,vU];split
  ·simp[gy];lia
  ·lia
theorem Af{α h:Type}(f:h->ah)(g:α->h):∀l:H α,b0 f (l.map g)=b0 (λ a=>f (g a)) l
 |[]=>rfl|a::l=>by show f _+b0 f _=_;rw[Af f g l];rfl
theorem Nt{α:Type}(c:ah):∀l:H α,b0 (λ u=>c) l=c*(O l:ah)
 |[]=>by show 0=c*0;lia|a::l=>by show c+b0 _ l=_;simp[Nt c l,gy,KZ,KW];lia
theorem aa0(l D n:J):b0 (λ m=>ji m*(fH (eu l) m*fH (eu D) m+(fH (eu D) m*fH (eu n) m+fH (eu n) m*fH (eu l) m))) (aw 8)=32*((lb l D n:ah)- 54):=by
 obtain e:b0 (λ m=>ji m*(fH (eu l) m*fH (eu D) m+(fH (eu D) m*fH (eu n) m+fH (eu n) m*fH (eu l) m))) _=b0 (λ m=>ji m*(fH (eu l) m*fH (eu D) m)) _+(b0 (λ m=>ji m*(fH (eu D) m*fH (eu n) m)) _+b0 (λ m=>ji m*(fH (eu n) m*fH (eu l) m)) (aw 8)):=by rw[<-p1,<-p1];refine iT λ m u=>?_;simp only[KW,KW]
 obtain r:4*(lb l D n)=216+(b0 (λ m=>eu l _*eu D _) g0+(b0 (λ m=>eu D _*eu n _) g0+b0 (λ m=>eu n _*eu l _) g0)):=by unfold lb;rw[<-Nr,<-p2];rw[iT λ m u=>aaZ l D n m,p1,p1,p1,Nt];rw[(show(1*(O g0:ah))=216 by decide+kernel)]
 rw[e,Fv (by decide+kernel) (show∀q∈tZ,wG q.1 q.2=8*(Nn.count q:ah)from by decide+kernel),Fv (by decide+kernel) (show∀q∈tZ,wG q.1 q.2=8*(Np.count q:ah)from by decide+kernel),Fv (by decide+kernel) (show∀q∈tZ,wG q.1 q.2=8*(Nq.count q:ah)from by decide+kernel)];delta Nn Np Nq;simp only[Af,Af,Af];lia
noncomputable def wH:J->J
 |0=>0|1=>7|2=>1|3=>6|4=>2|5=>5|6=>3|_=>4
noncomputable def rL:J->J
 |0=>0|7=>1|1=>2|6=>3|2=>4|5=>5|3=>6|_=>7
def t2:H (J×J×J):=g0.map λ m=>(3*rL (m% 8),3*rL (m/8% 8)+1,3*rL (m/64)+2)noncomputable def aa1:H (H (J×J×J)):=[[],[],[],[(3,1,2)],[(3,4,2),(0,4,2)],[(0,4,5),(0,1,5),(3,1,5)],[(6,4,2),(6,1,5)],[(3,7,2),(0,7,5)],[(0,4,8),(3,1,8)],[(9,7,2),(9,4,2),(9,7,8),(9,4,8),(9,7,5),(9,1,8),(9,1,5)],[(3,10,2),(6,10,2),(9,10,8),(0,10,8),(0,10,5),(3,10,8),(6,10,8),(6,10,5)],[(6,10,11),(6,1,11),(3,1,11),(6,4,11),(6,7,11),(3,7,11),(0,4,11),(0,7,11),(9,7,11)],[(12,4,2),(12,7,11),(12,4,8),(12,7,5),(12,10,8),(12,1,5)],[(3,13,2),(6,13,11),(9,13,8),(0,13,5),(3,13,8),(6,13,5)],[(6,10,14),(3,1,14),(6,4,14),(3,7,14),(0,4,14),(9,7,14)],[(15,13,2),(15,10,2),(15,13,14),(15,10,14),(15,13,11),(15,1,14),(15,1,11),(15,4,2),(15,4,14),(15,7,14),(15,7,11),(15,13,8),(15,10,8),(15,13,5),(15,1,5)],[(3,16,2),(15,16,14),(6,16,14),(6,16,11),(3,16,14),(9,16,2),(12,16,2),(0,16,14),(0,16,11),(9,16,14),(12,16,14),(12,16,11),(9,16,8),(12,16,8),(0,16,5),(12,16,5)],[(12,16,17),(12,7,17),(9,7,17),(12,4,17),(0,4,17),(12,1,17),(9,1,17),(12,10,17),(12,13,17),(9,13,17),(0,10,17),(0,13,17),(3,1,17),(3,13,17),(6,10,17),(6,13,17),(15,13,17)],[(18,10,2),(18,1,11),(18,16,2),(18,4,2),(18,16,14),(18,16,11),(18,7,11),(18,1,17),(18,10,8),(18,10,17),(18,13,17),(18,1,5)],[(3,19,2),(15,19,2),(15,19,14),(6,19,11),(15,19,11),(9,19,2),(0,19,11),(9,19,8),(12,19,17),(9,19,17),(0,19,17),(0,19,5)],[(0,4,20),(0,16,20),(9,7,20),(9,16,20),(12,16,20),(0,10,20),(9,1,20),(15,13,20),(15,10,20),(6,10,20),(15,1,20),(3,1,20)],[(21,19,2),(21,4,2),(21,19,14),(21,4,14),(21,19,11),(21,7,14),(21,16,14),(21,7,11),(21,19,8),(21,4,8),(21,19,17),(21,19,20),(21,4,20),(21,19,5),(21,7,20),(21,16,20),(21,7,5),(21,13,8),(21,10,8),(21,13,17),(21,13,20),(21,10,20),(21,13,5),(21,1,20),(21,1,5)],[(3,22,2),(18,22,2),(15,22,14),(6,22,14),(6,22,11),(3,22,14),(18,22,14),(18,22,11),(9,22,8),(12,22,8),(12,22,17),(21,22,20),(0,22,20),(0,22,5),(9,22,20),(12,22,20),(12,22,5),(3,22,8),(18,22,8),(18,22,17),(15,22,20),(6,22,20),(6,22,5),(3,22,20),(18,22,20),(18,22,5)],[(18,22,23),(18,1,23),(3,1,23),(18,10,23),(18,13,23),(3,13,23),(6,10,23),(6,13,23),(15,13,23),(18,16,23),(18,7,23),(3,7,23),(18,4,23),(18,19,23),(3,19,23),(6,4,23),(6,19,23),(15,19,23),(12,16,23),(12,7,23),(9,7,23),(12,4,23),(12,19,23),(9,19,23),(0,4,23),(0,19,23),(21,19,23)]]def Nu(bS:H (H (J×J×J)))(cG:J):Bool:=bS.rec (motive:=λ u=>J->aF) (λ u=>S) (λ ay rest dF d=>ay.all (λ t=>aZ t.1 d&&aZ t.2.1 d&&aZ t.2.2 d&&t2.contains t)&&dF (d+1)) cG
noncomputable def c4(v i:J):Nat:=lX (Nat.shiftRight v i) 2
def t4(v:J)(bS:H (J×J×J)):Bool:=bS.rec (motive:=λ u=>aF) (aj) (λ t l dF=>(aL (c4 v t.1) (c4 v t.2.1)&&aL (c4 v t.2.1) (c4 v t.2.2))||dF)def Ag(v:J):Nat:=c4 v 0+2*c4 v 6+4*c4 v 12+8*c4 v 18+16*c4 v 21+32*c4 v 15+64*c4 v 9+128*c4 v 3
def Ah(v:J):Nat:=c4 v 1+2*c4 v 7+4*c4 v 13+8*c4 v 19+16*c4 v 22+32*c4 v 16+64*c4 v 10+128*c4 v 4
def Ai(v:J):Nat:=c4 v 2+2*c4 v 8+4*c4 v 14+8*c4 v 20+16*c4 v 23+32*c4 v 17+64*c4 v 11+128*c4 v 5
noncomputable def never(l D n:J):Bool:=((aL 0 l||Nat.beq 0 D||Nat.beq 0 n)&&(aL 255 l||Nat.beq 255 D||Nat.beq 255 n))|| (aL l D&&aL D n&&(aL 170 l||Nat.beq 204 l||Nat.beq 240 l||Nat.beq 85 l||Nat.beq 51 l||Nat.beq 15 l))def Fw(bS:H (H (J×J×J)))(cG:J)(dJ:J):Bool:=bS.rec (motive:=λ u=>J->J->aF) (λ u v=>never (Ag v) (Ah v) (Ai v)) (λ ay rest dF d v=>(t4 v ay||dF (d+1) v)&&(t4 (gv v (e1 2 d)) ay||dF (d+1) (gv v (e1 2 d)))) cG dJ
def gj(l D n t:J):Nat:=match t% 3 with|0=>dg l (wH (t/3))|1=>dg D (wH (t/3))|_=>dg n (wH (t/3))theorem Aj(v i:J):c4 v i=v/2^i% 2:=by show(v>>>i)% 2=_;exact L (Nat.shiftRight_eq_div_pow ..) rfl
def oJ(l D n d v:J):Prop:=v<2^d/\∀t,t<d->c4 v t=gj l D n t
theorem oJ.Nv(h:oJ l cW n d v)(r:gj l cW n d=0):oJ l cW n (d+1) v:=by
 refine⟨eo h.1 (q_ (by decide) (hg d)),λ t p=>?_⟩;rcases DZ t d with q|q
 ·exact h.2 t q
 ·rw[D0 (vV p) q,r,Aj,oo h.1]
theorem oJ.Nw(h:oJ l cW n d v)(r:gj l cW n d=1):oJ l cW n (d+1) (gv v (e1 2 d)):=by
 obtain e:gv v _=v+2^d:=rfl;refine L e ⟨L (Nat.pow_succ ..) (L (Nat.mul_two ..) (anM h.1 _)),λ t p=>?_⟩;rcases DZ t d with q|q
 ·rw[<-h.2 t q,Aj,Aj]
  obtain E:2^d=2^t*(2*2^(d-t-1)):=by rw[<-YD,<-kk,Nat.succ_eq_add_one,ans (anN q),Nat.add_sub_of_le (ik q)]
  rw[E,YE _ _ (kZ t),anO]
 ·obtain this:=D0 (vV p) q
  subst this;rw[r,Aj,Nat.add_div_right _ (kZ t),oo h.1]
theorem Fx(h:oJ l cW n (d+1) v)(V:∀t∈t2,¬(gj l cW n t.1=gj l cW n t.2.1/\gj l cW n t.2.1=gj l cW n t.2.2)):∀{ay:H (J×J×J)},ay.all (λ t=>aZ t.1 d&&aZ t.2.1 d&&aZ t.2.2 d&&t2.contains t)=S->t4 v ay=aj
 |[],_=>rfl
 |t::ay,i=>by
  rw[anP,jK,jK,jK,jK]at i;obtain⟨⟨⟨⟨o,P⟩,c⟩,q⟩,A⟩:=i;show((aL _ _&&aL _ _)||t4 v ay)=aj;rw[Fx h V A,h.2 _ (D1 (b8 o)),h.2 _ (D1 (b8 P)),h.2 _ (D1 (b8 c))];cases e:(aL _ _&&aL _ _)with
  |false=>rfl|true=>rw[jK]at e;exact aR ⟨dE e.1,dE e.2⟩ (V t (oq.mp q))theorem Ak(h:n<2):n=0\/n=1:=(anz.mp h).imp_left KN.mp
theorem Fy(V:∀t∈t2,¬(gj l cW n t.1=gj l cW n t.2.1/\gj l cW n t.2.1=gj l cW n t.2.2)):∀(T:H (H (J×J×J)))(d v:J),Nu T d=S->oJ l cW n d v->Fw T d v=S->∃F,oJ l cW n (d+O T) F/\never (Ag F) (Ah F) (Ai F)=S
 |[],d,v,_,s,h=>⟨v,s,h⟩
 |ay::rest,d,v,i,s,h=>by
  obtain i:(ay.all (λ t=>aZ t.1 d&&aZ t.2.1 d&&aZ t.2.2 d&&t2.contains t)&&Nu rest (d+1))=true:=i;rw[jK]at i;obtain h:((t4 v ay||Fw rest _ v)&&(t4 _ ay||Fw rest _ _))=true:=h;rw[jK]at h;refine L ((zh ..).symm) ?_;rcases Ak ((show gj l cW n d<2 from by
    unfold gj;generalize d% 3=z;rcases z with _|_|z<;>exact dN _ (by decide)))with b|b
  ·have q:=h.1
   rw[Fx (s.Nv b) V i.1]at q;exact Fy V rest _ v i.2 (s.Nv b) q
  ·have q:=h.2
   rw[Fx (s.Nw b) V i.1]at q;exact Fy V rest _ _ i.2 (s.Nw b) q
theorem Al(h:(aw n).all p=S)(s:i<n):p i=true:=b9.mp h i (a4.mpr s)
theorem of_bits(h:l<256):dg l 0+2*dg l 1+4*dg l 2+8*dg l 3+16*dg l 4+32*dg l 5+64*dg l 6+128*dg l 7=l:=
 dE (Al (p:=λ l=>aL (dg l 0+2*dg l 1+4*dg l 2+8*dg l 3+16*dg l 4+32*dg l 5+64*dg l 6+128*dg l 7) l) (by decide+kernel) h)theorem Fz(h:q<8):wH (rL q)=q:=dE (Al (p:=λ q=>aL (wH _) q) (by decide+kernel) h)theorem bB0(l D n:J)(h:q<8):gj l D n (3*rL q)=dg l q:=by unfold gj;rw[Nat.mul_mod_right,Nat.mul_div_cancel_left _ (by decide),Fz h];rfl
theorem bB1(s l n:J)(h:q<8):gj s l n (3*rL q+1)=dg l q:=by unfold gj;rw[anQ,YF (by decide),rd,Fz h];rfl
theorem bB2(s D l:J)(h:q<8):gj s D l (3*rL q+2)=dg l q:=by unfold gj;rw[anQ,YF (by decide),rd,Fz h];rfl
theorem Nx(h:m∈g0):m/64<8:=by
 obtain this:(g0.all λ m=>bE (m/64) 8)=true:=by decide+kernel
 have:=b9.mp this m h;exact eo (ko _) (b8 this)
theorem Ny:lb l cW n=0 ↔ ∀m∈g0,oI l cW n m=false:=by
 unfold lb;rw[D2,anA];constructor
 ·intro h m p
  cases e:oI l cW n m with|false=>rfl|true=>exact aR e (h m p)
 ·intro h m p
  rw[h m p];decide
theorem aa2(u:gk<256)(W:cW<256)(j:ft<256)(h:lb gk cW ft=0):never gk cW ft=true:=by
 have V:∀t∈t2,¬(gj gk cW ft t.1=gj gk cW ft t.2.1/\gj gk cW ft t.2.1=gj gk cW ft t.2.2):=by refine λ t p=>av (iP.mp p) λ m q e=>?_;subst e;have r:=Ny.mp h m q;rw[bB0 gk cW ft (dN _ (by decide)),bB1 gk cW ft (dN _ (by decide)),bB2 gk cW ft (Nx q)];rintro ⟨a,b⟩;unfold oI at r;rw[a,b,ra]at r;cases r
 refine av (Fy V aa1 0 0 (by decide+kernel) ⟨by decide,λ t p=>aR p (zr _)⟩ (by decide+kernel)) λ v s o=>?_;have s:∀t,t<24->c4 v t=gj gk cW ft t:=s.2;have g:Ag v=gk:=by unfold Ag;simp only[s _ (by decide:0<24),s _ (by decide:6<24),s _ (by decide:12<24),s _ (by decide:18<24),s _ (by decide:21<24),s _ (by decide:15<24),s _ (by decide:9<24),s _ (by decide:3<24)];exact of_bits u
 have G:Ah v=cW:=by unfold Ah;simp only[s _ (by decide:1<24),s _ (by decide:7<24),s _ (by decide:13<24),s _ (by decide:19<24),s _ (by decide:22<24),s _ (by decide:16<24),s _ (by decide:10<24),s _ (by decide:4<24)];exact of_bits W
 have i:Ai v=ft:=by unfold Ai;simp only[s _ (by decide:2<24),s _ (by decide:8<24),s _ (by decide:14<24),s _ (by decide:20<24),s _ (by decide:23<24),s _ (by decide:17<24),s _ (by decide:11<24),s _ (by decide:5<24)];exact of_bits j
 rw[g,G,i]at o;exact o
theorem FA(i:J):dg 0 i=0:=by unfold dg;rw[Nat.zero_div]theorem FC(h:i<8):dg 255 i=1:=dE (Al (p:=λ i=>aL _ 1) (by decide+kernel) h)
theorem aa3(h:¬(x=y/\y=z)):(aL x y&&aL y z)=false:=by
 cases e:(aL x y&&aL y z)with
 |false=>rfl|true=>rw[jK]at e;exact aR ⟨dE e.1,dE e.2⟩ h
theorem aa4(h:never l cW ft=S):lb l cW ft=0:=by
 unfold never at h;rw[lY]at h;rcases h with h|h
 ·rw[Ny]
  refine λ m r=>aa3 ?_;rw[jK]at h;refine cq h λ a b=>?_;obtain A:0=l\/0=cW\/0=ft:=by
   rw[lY,lY]at a;rcases a with(a|a)|a
   ·exact .inl (dE a)
   ·exact .inr (.inl (dE a))
   ·exact .inr (.inr (dE a))
  obtain f:255=l\/255=cW\/255=ft:=by
   rw[lY,lY]at b;rcases b with(b|b)|b
   ·exact .inl (dE b)
   ·exact .inr (.inl (dE b))
   ·exact .inr (.inr (dE b))
  rintro ⟨p,q⟩;have x:=f.elim (λ e=>e▸FC (dN m (by decide))) λ a=>Y p (a.elim (λ e=>e▸FC (dN _ (by decide))) λ e=>Y q (e▸FC (Nx r)));exact nomatch (A.elim (λ e=>e▸FA _) λ a=>Y p (a.elim (λ e=>e▸FA _) λ e=>Y q (e▸FA _)):dg l _=0).symm.trans x
 ·rw[jK,jK]at h
  obtain⟨⟨a,b⟩,c⟩:=h;have a:=dE a;have b:=dE b;subst a;subst b;simp only[lY]at c;rcases c with((((c|c)|c)|c)|c)|c<;>have c:=dE c<;>subst c<;>decide+kernel
def codeN(l D n m:J):Nat:=dg l (m% 8)+2*dg D (m/8% 8)+4*dg n (m/64)theorem FD(l i:J):dg l i<=1:=vV (dN _ (by decide))theorem FE(l D n m:J):codeN l D n m<8:=gg (vN (vN (FD ..) (vK 2 (FD ..))) (vK 4 (FD ..))) (by decide)def cntK(k:J)(bS:H J):Nat:=bS.rec (motive:=λ u=>J) (0) (λ c l dF=>(if c=k then 1 else 0)+dF)def Am(bS:H J):Nat:=bS.rec (motive:=λ u=>J) (0) (λ c l dF=>2^(8*c)+dF)theorem Nz(k c:J)(l:H J):cntK k (c::l)=(if c=k then 1 else 0)+cntK k l:=rfl
theorem aa5(c:J)(l:H J):Am (c::l)=2^(8*c)+Am l:=rfl
noncomputable def nt(f:J->J):Nat:=f 0+256*(f 1+256*(f 2+256*(f 3+256*(f 4+256*(f 5+256*(f 6+256*f 7))))))theorem rM(h:z=X+Yq):(a+b)+256*z=(a+256*X)+(b+256*Yq):=by simp only[h,Nat.mul_add,anR]theorem aa6(f g:J->J):nt (λ k=>f k+g k)=nt f+nt g:=rM (rM (rM (rM (rM (rM (rM rfl))))))
theorem NA:∀C:H J,(∀c∈C,c<8)->Am C=nt λ k=>cntK k C
 |[],_=>rfl|c::l,h=>by simp[aa5,NA l λ x M=>h x (c7 _ M),<-dE (b9.mp (show((aw 8).all λ c=>aL (nt λ k=>if c=k then 1 else 0) (2^(8*c)))=S from by decide+kernel) c (a4.mpr (h c cV))),<-aa6];rfl
theorem NB(k:J):∀C:H J,cntK k C<=O C
 |[]=>bH _|c::l=>bA (fV (iO _ _)) (vN (NB k l) (by split<;>decide))theorem rN(h:a<256):(a+256*X)/256=X:=L (YE _ _ (by decide)) (L (oo h) (L (hO ..) rfl))theorem rO(h:a<256)(F:X<n):a+256*X<256*n:=by lia
theorem aa7(h:∀k,f k<256):nt f% 256=f 0/\nt f/72057594037927936=f 7/\nt f<18446744073709551616:=by
 refine⟨?_,?_,rO (h 0) (rO (h 1) (rO (h 2) (rO (h 3) (rO (h 4) (rO (h 5) (rO (h 6) (h 7)))))))⟩
 ·unfold nt
  rw[anO,zt (h 0)]
 ·simp only[show 72057594037927936=256*256*256*256*256*256*256 from rfl,<-ot,<-ot,<-ot,<-ot,<-ot,<-ot]
  unfold nt;simp[rN (h 0),rN (h 1),rN (h 2),rN (h 3),rN (h 4),rN (h 5),rN (h 6)]def wI(l D n:J):H Nat:=g0.map (codeN l D n)theorem aa8(l D n m:J):oI l D n m=(aL (codeN l D n m) 0||Nat.beq (codeN l D n m) 7):=by delta oI codeN;rcases tY l _ with a|a<;>rcases tY D _ with b|b<;>rcases tY n _ with c|c<;>rw[a,b,c]<;>rfl
theorem NC(l D n:J):∀M:H J,cntK 0 (M.map (codeN l D n))+cntK 7 (M.map (codeN l D n))=O (M.filter (oI l D n))
 |[]=>rfl|m::M=>by rw[lZ,vU,Nz,Nz,anR,NC l D n M,dE (Al (p:=λ c=>aL ((if c=0 then 1 else 0)+(if c=7 then 1 else 0)) (match(aL c 0||Nat.beq c 7)with|true=>1|false=>0)) rfl (FE ..)),aa8];induction aL _ 0||Nat.beq _ 7 with|true=>rw[bC rfl];exact iO ..|false=>rw[a6 hN];exact hO _
def rP(l D n:J):Nat:=Am (wI l D n)
theorem ND(l D n:J):rP l D n% 256+rP l D n/72057594037927936=lb l D n/\rP l D n<18446744073709551616:=by
 obtain i:=NA (wI l D n) (λ c h=>by
  refine av (iP.mp h) λ m u e=>?_;rw[<-e];exact FE _ _ _ _)
 obtain I:O (wI l D n)=216:=by unfold wI;rw[gh];decide+kernel
 refine ff (aa7 λ k=>gg (NB k _) (by rw[I];decide)) λ M N d=>?_;unfold rP;refine L i ?_;rw[M,N];exact⟨NC l D n g0,d⟩theorem aa9(l i:J):eu l i=jj (vW l i):=by delta eu dg;refine L Nat.testBit_eq_decide_div_mod_eq ?_;rcases Ak (dN _ (by decide))with e|e<;>rw[e]<;>rfl
theorem aa_(i m:J):Ae i m=jj (!rQ (zq i m)):=by show(match Ad _ with|true=>(-1)|false=>1)=jj (!Ad _);cases Ad _<;>rfl
theorem NF{α:Type}(f:α->ah):∀l:H α,l.foldr (λ a s=>f a+s) 0=b0 f l
 |[]=>rfl|a::l=>L anS (L (NF f l) rfl)theorem FF(l m:J):gm l m=fH (eu l) m:=Y (NF ..) (iT λ i u=>by simp only[aa9,aa_])theorem aba(l D n:J):b0 (λ m=>ji m*(gm l m*gm D m+(gm D m*gm n m+gm n m*gm l m))) (aw 8)=32*((lb l D n:ah)- 54):=ax (aa0 l D n) (iT λ m u=>by simp[FF,FF,FF])def Vx(d:D)(k:D->D->U D):U D:=(hE d 2).bind λ ds=>match ds with|[]=>aa|a::ds=>match ds with|[]=>aa|b::ds=>match ds with|[]=>k a b|_::_=>aa
def CN(os:H (U D)):U D:=(cQ os).bind λ xs=>a8 (dc xs) (B (.aD xs))def Jl(F f:H D->U D)(a b:D):U D:=(cp .Eq b (.int 0)).bind λ c=>match c with|true=>aa|false=>(cp .Lt b (.int 0)).bind λ c=>match c with|true=>((cQ [ll .USub a,ll .USub b]).bind F).bind λ r=>Vx r λ q r=>CN [B q,ll .USub r]|false=>(cp .Lt a (.int 0)).bind λ c=>match c with|true=>((cQ [ll .Invert a,B b]).bind F).bind λ r=>Vx r λ q r=>CN [ll .Invert q,(ll .Invert r).bind λ z=>aI .Add b z]|false=>f [a,b]
def mU(k:J)(a b:ah):Bool:= !(b==0)&&((match k with
 |0=>decide (0<=a)&&decide (0<b)|1=>decide (0<b)|_=>S)&&(aZ (aQ b.natAbs) 1000&&aZ (b6 a.natAbs (aQ b.natAbs)) 32))def mV(k:J)(ds:H D):U D:=two ds λ a b=>iX (λ a=>iX (λ b=>a8 (mU k a b) (B (.aD [.int (a.fdiv b),.int (a.fmod b)]))) b) a
theorem aj3(h:a<=b):b6 a n<=b6 b n:=Nat.div_le_div_right (aoK (pF (Vs h) n) 1)theorem Vy(a b:ah):(-a).fdiv (-b)=a.fdiv b/\ -((-a).fmod (-b))=a.fmod b:=⟨apf a b,L (apg ..) (L (Int.neg_neg ..) rfl)⟩theorem Vz{a b:ah}(r:0<b): -((-a-1).fdiv b)- 1=a.fdiv b/\b+(-((-a-1).fmod b)- 1)=a.fmod b:=by have e:∀x:ah,x.fdiv b=x/b/\x.fmod b=x% b:=λ x=>⟨zc _ (vQ r),zQ _ (vQ r)⟩;have h:=(aph (a:= -a-1) (q:= -(a/b)- 1) r).mpr ⟨by rw[Int.mul_sub,Int.mul_neg];have:=Int.mul_ediv_add_emod a b;lia,Ym (Int.le_sub_one_of_lt (Int.emod_lt_of_pos a r)),anC (Int.sub_le_self _ (Int.emod_nonneg a (Int.ne_of_gt r))) (Int.sub_lt_self _ Int.one_pos)⟩;simp[(e _).1,(e _).2,h.1,h.2];clear h e;exact⟨by lia,by lia⟩
theorem Jm(h:mU k a b=S)(G:∀A f:ah,mU (k-1) A f=S->k≠0->F [.int A,.int f]=B (.aD [.int (A.fdiv f),.int (A.fmod f)]))(s:∀A f:J,0<f->aQ f<=1000->b6 A (aQ f)<=32->d [.int (A:J),.int (f:J)]=B (.aD [.int (A/f:J),.int (A% f:J)])):
  Jl F d (.int a) (.int b)=B (.aD [.int (a.fdiv b),.int (a.fmod b)]):=by
 refine cq (bo h) λ e h=>?_;obtain⟨W,h⟩:=bo h;obtain⟨j,v⟩:=bo h;have P:=ma e;have I:b≠0:=λ q=>bw (Y P.symm (cI.mpr q));unfold Jl;refine L (show cp .Eq (.int b) (.int 0)=B aj from aM B P) (Y (b:=(match decide _ with|true=>_|false=>_)) rfl ?_);by_cases r:b<0
 ·refine L (gJ r) (Y (b:=(F [.int _,.int _]).bind _) rfl ?_)
  obtain ok:k≠0/\mU (k-1) (-a) (-b)=true:=by
   unfold mU;simp only[ro λ q=>I (Int.neg_eq_zero.mp q),ZJ,ZJ,j,v];rcases k with _|_|_|k
   ·exact aR (iN (bo W).2) (Int.lt_asymm r)
   ·exact aR (iN W) (Int.lt_asymm r)
   ·exact⟨nofun,L (gJ (Int.neg_pos_of_neg r)) rfl⟩
   ·exact⟨nofun,rfl⟩
  refine L (G _ _ ok.2 ok.1) (Y (b:=CN [B _,B _]) rfl ?_);rw[(Vy a b).1,(Vy a b).2];rfl
 ·refine L (l2 r) (Y (b:=(match decide _ with|true=>_|false=>_)) rfl ?_)
  have R:=(Int.le_iff_lt_or_eq.mp (K_.mp r)).resolve_right (rf I);by_cases c:a<0
  ·refine L (gJ c) (Y (b:=(F [.int _,.int b]).bind _) rfl ?_)
   obtain ok:k≠0/\mU (k-1) (-a-1) b=true:=by
    unfold mU;rw[P,j,dD (bA (aj3 (by lia)) (b8 v))];rcases k with _|_|_|k
    ·exact aR (iN (bo W).1) (Yn.mpr c)
    ·exact⟨nofun,L (gJ (by lia)) (L (gJ R) rfl)⟩
    ·exact⟨nofun,L (gJ R) rfl⟩
    ·exact⟨nofun,rfl⟩
   refine L (G _ _ ok.2 ok.1) (Y (b:=CN [B (.int (-((-a-1).fdiv b)- 1)),B (.int (b+(-((-a-1).fmod b)- 1)))]) rfl ?_);rw[(Vz R).1,(Vz R).2];rfl
  ·simp[l2 c]
   obtain⟨A,rfl⟩:=YZ (K_.mp c);obtain⟨f,rfl⟩:=YZ (vQ R);apply Y (s A f (q9.mp R) (b8 j) (b8 v));rw[sm,zQ _ (m3 f)];rfl
theorem Jn(h:0<b)(W:aQ b<=1000)(j:b6 a (aQ b)<=32):yD [.int (a:J),.int (b:J)]=B (.aD [.int (a/b:J),.int (a% b:J)]):=by show a8 _ _=_;simp only[cg.mpr h,dD W,dD j];rfl
theorem Jo(h:mU k a b=S):mV k [.int a,.int b]=B (.aD [.int (a.fdiv b),.int (a.fmod b)]):=by show a8 _ _=_;exact L h rfl
theorem Jp(h:mV k ds=B d){GG:Prop}(K:∀a b,ds=[.int a,.int b]->mU k a b=S->d=.aD [.int (a.fdiv b),.int (a.fmod b)]->GG):GG:=
 nL h λ x y e h=>p5 h λ a E h=>p5 h λ b p h=>cq (dn h) λ W j=>K a b (L e (L E (L p rfl))) W ((ak j).symm)theorem VA{a A:ao}(W:cK g a n c)(k:cK g A n C):qx g n (d4 [(a,c),(A,C)]):=hJ λ p h=>by cases h with|head=>exact W|tail _ h=>cases h with|head=>exact k|tail _ h=>exact aR h dS
theorem VB:i4 (hb [("int_divmod",f),("_divmod_pos",F)]) (eG (d4 [(115,cx f),(108,cx F)])):=mQ λ p h=>by cases h with|head=>exact⟨115,rfl,rfl⟩|tail _ h=>cases h with|head=>exact⟨108,rfl,rfl⟩|tail _ h=>exact aR h dS
theorem VC(G:gp g)(V:12<=n):∀k,cK g 115 (n+3+k) (cx (mV k))
 |0=>kS G (fp _) (ct:=d4 [(108,cx yD)]) (hJ λ p v=>L (ek.mp v) (Jk G V)) (mQ λ p v=>L (ek.mp v) ⟨108,rfl,rfl⟩) rfl λ ds d e=>by
  refine Jp e λ a b c X T=>?_;subst c;refine L T ?_;obtain K:kc (hb [("_divmod_pos",yD)]) (aY 18) [.int a,.int b]=Jl (λ u=>aa) yD (.int a) (.int b):=by lk
  exact Y K (Jm X (λ u u u h=>aR rfl h) λ A f=>Jn)
 |k+1=>kS G (apc (fp _) k) (VA (VC G V k) (by have h:=Jk G (n:=n+1+k) (by lia);rwa [show n+1+k+2=n+3+k by exact zi _ k 2]at h)) VB rfl λ ds d e=>by refine Jp e λ a b w X W=>?_;subst w;exact L W (Jm X (λ u u h u=>Jo h) λ A f=>Jn)def CO(a b:ah)(σ:aE):U (Res V×aE):=match b==0 with|true=>B (.exc "ZeroDivisionError" [],σ)|false=>bR (mU 2 a b) (B (.ok (.d (.aD [.int (a.fdiv b),.int (a.fmod b)])),σ))def Jq:bV:=λ as ks σ=>bR (ks.isEmpty&&sH σ) (two as λ a b=>hi a (iX λ a=>hi b (iX λ b=>CO a b σ)))
theorem aj4(G:gp g)(V:12<=n):cK g 115 (n+5) Jq:=by
 refine cK.less (ye (mL (G.fns 115 _ _ rfl) G.base λ ρ I o W c=>lC (n0 G 0) 30 60 _ _ _ _ _ _ _ (nZ G (show 0<n+4 by exact Nat.zero_lt_succ _) (VA (VC G V 1) (Jk G (zO V)))) c)) λ as ks σ r e=>(bN e λ R e=>nL e λ x y w e=>iA e λ s F e=>p5 e λ a z e=>iA e λ t P e=>p5 e λ b p E=>L (k4.mp (bo R).1) ?_);subst w F z P p;have g:=UW (bo R).2;unfold CO at E;refine dO (b==0) (λ q=>?_) λ q=>?_
 ·
  rw[q]at E;rw[<-ak E,eq_of_beq q];exact aj1 (ds:=[.int a,.int 0]) g rfl
 ·
  rw[q]at E;exact bN E λ X E=>(ax (ak E) (yB (ds:=[.int a,.int b]) g (UU VB (Jm X (λ u u h u=>Jo h) λ A f=>Jn) ⟨rfl,rfl,rfl⟩)))
theorem J_:∀pr:cz,dt pr (fQ pr)
 |[]=>JQ _|(n,d)::pr=>(J_ pr).cons n d
section
variable {P:hI}{c en:Cfg}(K:i4 P c)
include K
theorem ame(h:∀k,jz P M s N pr b k=k f)(T:bY σ):b4 c en M s N (fQ pr) b σ=B (.ok (.next,fQ f),σ):=by
 classical
 have one:∀d:D,(∃ar,b4 c en M s N (fQ pr) b σ=B (.ok (.ret (.d d),ar),σ))\/b4 c en M s N (fQ pr) b σ=B (.ok (.next,fQ f),σ):=by
  intro d;rcases I4 K N pr _ b (λ p=>if p=f then B d else aa) d σ (L (h ..) (bC rfl)) (J_ pr) T with r|⟨Q,j,e,V,dP⟩
  ·exact .inl r
  ·refine .inr ?_
   by_cases q:Q=f
   ·rw[e,V.2 rfl,q]
   ·rw[a6 q]at dP;exact nn dP
 rcases one (.int 0)with⟨_,r⟩|r
 ·rcases one (.int 1)with⟨_,R⟩|R
  ·rw[r]at R;exact nomatch R
  ·exact R
 ·exact r
theorem amf(h:jz P M s N pr b (λ u=>aa)=B d)(R:bY σ):∃ar,b4 c en M s N (fQ pr) b σ=B (.ok (.ret (.d d),ar),σ):=by
 rcases I4 K N pr _ b _ d σ h (J_ pr) R with r|⟨_,_,_,_,dP⟩
 ·exact r
 ·exact nn dP
end
def yX(ds:H D):U D:=sL (CE λ a n=>a8 (aZ 1 n&&(aZ n 1000&&aZ (b6 a n) 32)) (B (.ae (dB n (b6 a n) a)))) ds
def vz(ds:H D):U D:=two ds λ a b=>mG b λ n=>x5 (λ xs=>(mK xs).bind λ m=>bR (aZ n 1000&&(aZ (O m) 32&&m.all λ x=>bE x (2^n))) (B (.int (fA n m:J)))) a
theorem amg(G:gp g)(V:12<=n):cK g 101 (n+1) (cx vz):=cK.less (Vw G V) λ as ks σ r e=>by obtain⟨r,af⟩:=r;refine yv e λ ds d E f R h s D=>?_;subst E f s D;exact nL h λ a b E h=>nV h λ n f h=>BR h λ xs s h=>b3 h λ m D h=>bN h λ q j=>by simp only[E,f,s,yb D,<-ak j];exact yB R (Vu (b8 (bo q).1) rfl rfl rfl (b8 (bo (bo q).2).1) (λ x M=>cg.mp (b9.mp (bo (bo q).2).2 x M)))abbrev lW:=J->H D->U D
noncomputable def Ka(F:lW):H (ai×(H D->U D)):=[("_law_figures",F 1),("_law_rows",F 2),("_digits2int",F 3),("_int2digits",F 4),("_law_chair",F 5),("_law_light",F 6),("_law_told",F 7),("_law_waves",F 8)]def kj(F:lW):hI:=⟨("int_divmod",F 0)::(fl (Ka F)).mO,(fl (Ka F)).jy⟩def FL(ch:H D->U D):lW:=λ i=>match i with|0=>mV 2|1=>lO 6|2=>CJ|3=>vz|4=>yX|5=>ch|6=>Jj|7=>Ji|_=>CK
def XT(ch:H D->U D):H (ao×bV):=[(115,Jq),(330,cx (lO 6)),(335,cx CJ),(101,cx vz),(94,cx yX),(350,cx ch),(355,cx Jj),(360,cx Ji),(365,cx CK)]abbrev Kb(ch:H D->U D):Cfg:=eG (d4 (XT ch))theorem amh(h:ct 115=B Jq):CC (eG ct) (.obj 115) (mV 2):=by refine λ ds d e σ R m p=>Jp e λ a b w X W=>?_;subst w;refine L W ?_;show(match ct 115 with|some C=>jw C [] m [] []|none=>.au) σ=_;refine L h ?_;show((cE m).bind _) σ=_;refine Y (aT p) (Y (eh (Dn R)) ?_);show CO a b σ=_;unfold CO;exact L (ma (bo X).1) (eh X)
theorem XU(ch:H D->U D):i4 (kj (FL ch)) (Kb ch):=by
 have Bq:i4 (fl (Ka (FL ch))) (Kb ch):=sN (AllP.mem (.cons ⟨330,rfl,rfl⟩ (.cons ⟨335,rfl,rfl⟩ (.cons ⟨101,rfl,rfl⟩ (.cons ⟨94,rfl,rfl⟩ (.cons ⟨350,rfl,rfl⟩ (.cons ⟨355,rfl,rfl⟩ (.cons ⟨360,rfl,rfl⟩ (.cons ⟨365,rfl,rfl⟩ .nil)))))))));refine⟨Bq.gl,Bq.bg,Bq.loops,Bq.fuel,Bq.item,Bq.src,λ nm f e=>?_,Bq.jy⟩;obtain e:Y9 nm (("int_divmod",mV 2)::(fl _).mO)=B f:=e;dsimp only[gY]at e;refine dO (nm==("int_divmod")) (λ q=>?_) λ q=>?_
 ·
  rw[q]at e;exact ax (ak e) (L (cI.mp q) ⟨.obj 115,rfl,amh rfl⟩)
 ·
  rw[q]at e;exact Bq.mO nm f e
abbrev i8:Scope:=bz (aY 38)def lw(k:J):Stmt:=(bP (aY 38)).getD k (.Pass ey)abbrev yY(ch:H D->U D):=b4 (Kb ch) fj 30 i8
noncomputable def ami:H Str:=ZG ep ["script","told","cells","words","low","more","turns","sign","same","shift","up","move","above","rows","packed","quotient","rule","back","chair","painted","lit","half","red","green","blue","lights","mixes","tally","hues","rings","orders","left","waves","cross","never","often","due"]def hL(vs:H D):cz:=(ami.zip vs).reverse
noncomputable def Dv(l:H ai):H PySem.Expr:=l.map λ n=>LO n ⟨0,0,0,0⟩def jJ(f:D->U D)(xs:H D):U D:=match bE (O xs) 1000 with|true=>(jC f xs).map D.ae|false=>aa
def vA:D:=.aD (bb [178179,81,273,10006008331,113991150666,111163487,34838852,76052373])def Dw(x:D):U D:=(aI .Pow (.int 10) (.int 15)).bind λ b=>aI .Mod x b
def yZ(s k:D):U D:=(fh vA k).bind λ a=>((cQ [((jq s k (.int 60) (.int 8)).bind lM).bind (jJ Dw)]).bind (f9 kJ)).bind λ b=>aI .Add a b
abbrev eT:PySem.Expr:=sY (lw 5)def XW(F:lW)(xs:H D):U D:=match bE (O xs) 1000 with|true=>(hs (d5 eT) (λ pr e=>(bJ (kj F) 29 (d5 eT) pr e).1) (λ pr e=>(bJ (kj F) 29 (d5 eT) pr e).2) (mW eT) (gc eT) [] xs).map D.ae|false=>aa
noncomputable def y0:D:=.int 281474976710656
section
variable (F:lW)(k:cz->U D)(s t c w lo mo bZ b_ g_ d3 up cf ab rw b2 g7 iW qy cr a b:D)(ch:H D->U D)abbrev SL(F:lW)(N:J)(pr:cz)(st:bx)(k:cz->U D):U D:=jz (kj F) 30 i8 N pr [st] k
theorem x_1:SL F 59 (hL [s,vA]) (lw 1) k=((jC (yZ s) (pk 0 8)).map D.ae).bind λ c=>k (hL [s,vA,c]):=by lk
end
section
variable (F:lW)(k:cz->U D)(s t w lo mo bZ b_ g_ d3 up cf ab rw b2 g7 iW qy cr a b en gG j3 pA mD pB pC pD:D)(ch:H D->U D)(x:J)
noncomputable abbrev Kc(x:J)(en gG pA mD pB pC pD:D):D:=.ae [en,gG,.int (x:J),pA,mD,pB,pC,pD]noncomputable def Dx(b_ x:J):Int:=(1-2*(b_:ah))*((x:ah)+1)theorem x_4:bq (aw 4) (λ mo=>bq (aw 2) λ b_=>bq (aw 7) λ d3=>SL F 56 (hL [s,t,Kc x en gG pA mD pB pC pD,w,lo,.int (mo:J),bZ,.int (b_:J),g_,.int (d3:J)]) (lw 4) k)=br (aw 4) λ mo=>br (aw 2) λ b_=>br (aw 7) λ d3=>k (hL [s,t,Kc x en gG pA mD pB pC pD,w,lo,.int (mo:J),bZ,.int (b_:J),g_,.int (d3:J),.int ((mo:ah)+1),.int ((d3:ah)- 3),.int (Dx b_ x)]):=by lk
theorem x_5:bq (aw 2) (λ i=>SL F 55 (hL [s,t,.ae [en,gG,j3,pA,mD,pB,pC,pD],w,lo,mo,bZ,b_,.int (i:J),d3,up,cf,ab]) (lw 5) k)=br (aw 2) λ i=>(((cQ [F 2 [en],F 2 [match aL i 0 with|true=>en|false=>gG]]).bind (yq 1 (gc eT).target)).bind (XW F)).bind λ r=>k (hL [s,t,.ae [en,gG,j3,pA,mD,pB,pC,pD],w,lo,mo,bZ,b_,.int (i:J),d3,up,cf,ab,r]):=by lk
theorem x_6(c:D):SL F 54 (hL [s,t,c,w,lo,mo,bZ,b_,g_,d3,up,cf,ab,rw]) (lw 6) k=((aI .Mult ab y0).bind λ a=>(F 3 [rw,.int 16]).bind λ b=>aI .Add a b).bind λ p=>k (hL [s,t,c,w,lo,mo,bZ,b_,g_,d3,up,cf,ab,rw,p]):=by lk
theorem x_7(c:D):SL F 53 (hL [s,t,c,w,lo,mo,bZ,b_,g_,d3,up,cf,ab,rw,b2]) (lw 7) k=(F 0 [b2,y0]).bind λ d=>(hE d 2).bind λ ds=>pj i8 (Dv ["quotient","rule"]) ds (hL [s,t,c,w,lo,mo,bZ,b_,g_,d3,up,cf,ab,rw,b2]) k:=rfl
theorem amj(c:D):((hE (.aD [g7,iW]) 2).bind λ ds=>pj i8 (Dv ["quotient","rule"]) ds (hL [s,t,c,w,lo,mo,bZ,b_,g_,d3,up,cf,ab,rw,b2]) k)=k (hL [s,t,c,w,lo,mo,bZ,b_,g_,d3,up,cf,ab,rw,b2,g7,iW]):=rfl
theorem x_8(c:D):SL F 52 (hL [s,t,c,w,lo,mo,bZ,b_,g_,d3,up,cf,ab,rw,b2,g7,iW]) (lw 8) k=(F 4 [iW,.int 16]).bind λ d=>k (hL [s,t,c,w,lo,mo,bZ,b_,g_,d3,up,cf,ab,rw,b2,g7,iW,d]):=rfl
theorem x_9:SL F 51 (hL [s,t,.ae [en,gG,j3,pA,mD,pB,pC,pD],w,lo,mo,bZ,b_,g_,d3,up,cf,ab,rw,b2,g7,iW,qy]) (lw 9) k=(F 5 [.ae [pA,mD,pB,pC,pD],w]).bind λ d=>k (hL [s,t,.ae [en,gG,j3,pA,mD,pB,pC,pD],w,lo,mo,bZ,b_,g_,d3,up,cf,ab,rw,b2,g7,iW,qy,d]):=by lk
theorem Kd(N j:J)(pr:cz)(D:j=10\/j=24\/j=27)(h:(bJ (kj F) 30 i8 pr (hK (lw j))).2=B aj):SL F (N+3) pr (lw j) k=k pr:=by
 obtain e:SL F (N+3) pr (lw j) k=(bJ (kj F) 30 i8 pr (hK (lw j))).2.bind λ c=>match c with|true=>jz (kj F) 30 i8 (N+2) pr (kU (lw j)) k|false=>k pr:=by rcases D with rfl|rfl|rfl<;>lk
 rw[e,h];rfl
def vB(F:lW)(ab rw:D)(p r:ah)(g7 qy l:D):U Bool:=Cu .Or [B aj,cp .NotEq (.aD [g7,qy]) (.aD [ab,rw]),cp .Eq l (.ae [.int 0]),(F 0 [.int (-p),.int (-281474976710656)]).bind λ a=>cp .NotEq a (.aD [ab,.int (-r)])]
variable (i p r:ah)abbrev vC(s t c w lo mo bZ b_ g_ d3 up cf ab rw b2 g7 iW qy cr:D):cz:=hL [s,t,c,w,lo,mo,bZ,b_,g_,d3,up,cf,ab,rw,b2,g7,iW,qy,cr]theorem amk(c:D):(bJ (kj F) 30 i8 (vC s t c w lo mo bZ b_ g_ d3 up cf ab rw (.int p) g7 (.int r) (.ae []) (.int i)) (hK (lw 10))).2=vB F ab rw p r g7 (.ae [.int 0,.int 0,.int 0]) (.ae []):=by lk
theorem aml(c:D):(bJ (kj F) 30 i8 (vC s t c w lo mo bZ b_ g_ d3 up cf ab rw (.int p) g7 (.int r) (.ae [en]) (.int i)) (hK (lw 10))).2=vB F ab rw p r g7 (.ae [en,.int 0,.int 0]) (.ae [en]):=by lk
theorem amm(c:D):(bJ (kj F) 30 i8 (vC s t c w lo mo bZ b_ g_ d3 up cf ab rw (.int p) g7 (.int r) (.ae [en,gG]) (.int i)) (hK (lw 10))).2=vB F ab rw p r g7 (.ae [en,gG,.int 0]) (.ae [gG]):=by lk
theorem amn(c:D):(bJ (kj F) 30 i8 (vC s t c w lo mo bZ b_ g_ d3 up cf ab rw (.int p) g7 (.int r) (.ae [en,gG,j3]) (.int i)) (hK (lw 10))).2=vB F ab rw p r g7 (.ae [en,gG,j3]) (.ae [j3]):=by lk
end
noncomputable abbrev Ke(m:J):D:=.int ((m:ah)+1)
noncomputable abbrev y1(s:J):D:=.int ((s:ah)- 3)abbrev m1(lo bZ up cf rw cr:D)(v:J->D):cz:=vC (v 0) (v 1) (v 2) eI lo (v 4) bZ (v 5) (v 6) (v 7) up cf (v 8) rw (v 9) (v 10) (v 11) (v 12) cr
noncomputable def ta(o s:J):Nat:=(8*o+45+s)% 48
def q6:D:=.ae ((aw 6).map λ o=>.ae (bb (mR o)))def Kf(i:J):D:=.ae (bb ((mR i).map (8* ·)))def XX:D:=.ae (bb (hQ 16 0))def y2(F:lW)(r:D)(h lamp:ah):U D:=((((F 4 [r,.int 1]).bind λ a=>aI .Add a XX).bind λ o=>jq o (.int h) (.int (h+8)) .none).bind lM).bind (jJ λ d=>aI .LShift d (.int lamp))def Kg(cD de cc m:D):U D:=(((((aI .Mod m (.int 8)).bind λ i=>fh cD i).bind λ a=>(((aI .FloorDiv m (.int 8)).bind λ x=>aI .Mod x (.int 8)).bind λ i=>fh de i).bind λ b=>aI .Add a b).bind λ a=>((aI .FloorDiv m (.int 64)).bind λ i=>fh cc i).bind λ b=>aI .Add a b).bind λ s=>aI .Mult (.int 8) s).bind λ t=>aI .LShift (.int 1) t
def amo:D:=.ae ((aw 8).map Jh)def amq:D:=q6
def Dy(w:ah)(a b c:D):U D:=((((aI .Mult a b).bind λ x=>(aI .Mult b c).bind λ y=>aI .Add x y).bind λ x=>(aI .Mult c a).bind λ y=>aI .Add x y).bind λ s=>aI .Mult (.int w) s)
section
variable (F:lW)(k:cz->U D)(lo bZ up cf rw cr c2 hf cD de cc apF ej ty mj gu lf wv cs od of lQ h1 eE:D)(v:J->D)(ch:H D->U D)theorem amr:bq (aw 7) (λ s=>SL F 49 (m1 lo bZ up (y1 s) rw cr v) (lw 11) k)=br (aw 7) λ s=>((cQ ((aw 6).map λ o=>F 6 [.int (ta o s:J),lo,up,bZ])).map D.ae).bind λ d=>k (("painted",d)::m1 lo bZ up (y1 s) rw cr v):=by lk
def ams(up p:D):U D:=(cQ [((aI .LShift up (.int 22)).bind λ b=>cp .Gt p b).map D.bool]).bind (f9 tL)def XY(up d:D):U D:=((jq d .none (.int 3) .none).bind lM).bind (jJ (ams up))theorem amt(p:H D):SL F 48 (("painted",.ae p)::m1 lo bZ up cf rw cr v) (lw 12) k=(jJ (XY up) p).bind λ d=>k (("lit",d)::("painted",.ae p)::m1 lo bZ up cf rw cr v):=by lk
theorem amu:bq (aw 6) (λ i=>SL F 47 (("lit",q6)::("painted",c2)::m1 lo bZ up cf rw (.int (i:J)) v) (lw 13) k)=br (aw 6) λ i=>k (("half",Kf i)::("lit",q6)::("painted",c2)::m1 lo bZ up cf rw (.int (i:J)) v):=rfl
theorem amv(h W j:ah):SL F 46 (("half",.ae [.int h,.int W,.int j])::("lit",q6)::("painted",c2)::m1 lo bZ up cf (.ae [lQ,h1,eE]) cr v) (lw 14) k=((cQ [y2 F lQ h 0,y2 F h1 W 1,y2 F eE j 2]).map D.ae).bind λ d=>(hE d 3).bind λ ds=>pj i8 (Dv ["red","green","blue"]) ds (("half",.ae [.int h,.int W,.int j])::("lit",q6)::("painted",c2)::m1 lo bZ up cf (.ae [lQ,h1,eE]) cr v) k:=by lk
abbrev vD(lo bZ up cf rw cr:D)(v:J->D)(c2 hf cD de cc:D):cz:=("blue",cc)::("green",de)::("red",cD)::("half",hf)::("lit",q6)::("painted",c2)::m1 lo bZ up cf rw cr v
theorem amw:(((B (.ae [cD,de,cc])).bind λ d=>(hE d 3).bind λ ds=>pj i8 (Dv ["red","green","blue"]) ds (("half",hf)::("lit",q6)::("painted",c2)::m1 lo bZ up cf rw cr v) k):U D)=k (vD lo bZ up cf rw cr v c2 hf cD de cc):=rfl
theorem amx:SL (FL ch) 45 (vD lo bZ up cf rw cr v c2 hf cD de cc) (lw 15) k=k (("lights",.ae (bb rK))::vD lo bZ up cf rw cr v c2 hf cD de cc):=rfl
theorem amy:yY ch 44 (fQ (("lights",.ae (bb rK))::vD lo bZ up cf rw cr v c2 hf cD de cc)) [lw 16] bK=B (.ok (.next,fQ (("mixes",.ae (bb g0))::("lights",.ae (bb rK))::vD lo bZ up cf rw cr v c2 hf cD de cc)),bK):=by lk
abbrev y3(lo bZ up cf rw cr:D)(v:J->D)(c2 hf cD de cc ej:D):cz:=("mixes",ej)::("lights",.ae (bb rK))::vD lo bZ up cf rw cr v c2 hf cD de cc
theorem amz(m:H D):SL F 43 (y3 lo bZ up cf rw cr v c2 hf cD de cc (.ae m)) (lw 17) k=((cQ [(cQ [jJ (Kg cD de cc) m]).bind (f9 kJ),B (.int 8)]).bind (F 4)).bind λ d=>k (("tally",d)::y3 lo bZ up cf rw cr v c2 hf cD de cc (.ae m)):=by lk
theorem amA:SL F 42 (("tally",ty)::y3 lo bZ up cf rw cr v c2 hf cD de cc ej) (lw 18) k=((cQ ((aw 8).map λ c=>F 7 [.int (c:J),lo,up])).map D.ae).bind λ d=>k (("hues",d)::("tally",ty)::y3 lo bZ up cf rw cr v c2 hf cD de cc ej):=by lk
abbrev Dz(lo bZ up cf rw cr:D)(v:J->D)(c2 hf cD de cc ej ty:D):cz:=("hues",amo)::("tally",ty)::y3 lo bZ up cf rw cr v c2 hf cD de cc ej
def DA(t:J->J)(c:J):D:=.ae (bb ((aw c).map t))noncomputable def Kh(t:J->J)(c:J):Int:=match aL c 0 with|true=>0|false=>match aL c 8 with|true=>0+(t 0:ah)+(t 7:ah)|false=>0+(t 0:ah)theorem amB(t:J->J):bq (aw 9) (λ c=>SL F 41 (Dz lo bZ up cf rw cr v c2 hf cD de cc ej (DA t c)) (lw 19) k)=br (aw 9) λ c=>k (("rings",.int (Kh t c))::Dz lo bZ up cf rw cr v c2 hf cD de cc ej (DA t c)):=by lk
abbrev vE(lo bZ up cf rw cr:D)(v:J->D)(c2 hf cD de cc ej ty gu:D):cz:=("orders",amq)::("rings",gu)::Dz lo bZ up cf rw cr v c2 hf cD de cc ej ty
end
def Ki(r lamp:D):U D:=((aI .Mult (.int 8) lamp).bind λ s=>aI .RShift r s).bind λ x=>aI .BitAnd x (.int 255)noncomputable def tb(a:J->D):D:=.ae ((aw 8).map a)def Kj(gk cW ft:ah):U D:=sy .Or [sy .And [(cp .In (.int 0) (.ae [.int gk,.int cW,.int ft])).map D.bool,(cp .In (.int 255) (.ae [.int gk,.int cW,.int ft])).map D.bool],sy .And [((cp .Eq (.int gk) (.int cW)).bind λ c=>match c with|true=>cp .Eq (.int cW) (.int ft)|false=>B aj).map D.bool,(cp .In (.int gk) (.aD (bb [170,204,240,85,51,15]))).map D.bool]]noncomputable def XZ(r:J):D:=match aL r 0 with|true=>.none|false=>.aD [.int (216/r:J),.int (216% r:J)]def X0(o s:J):H Nat:=pJ (I8 (match aZ s 3 with|true=>3-s|false=>s-3)) (mR o) (mR (match aZ s 3 with|true=>(o+5)% 6|false=>(o+1)% 6))def X1(lo up:D)(xs:H J)(p:J):U D:=(((cQ (xs.map λ x=>aI .Mult up (.int (x:J)))).map D.ae).bind λ a=>aI .Add a (.ae [.int (p:J),.int (p:J)])).bind λ a=>((cQ [B up,aI .Add lo up,(aI .Mult (.int 2) lo).bind λ x=>aI .Add x up,B up]).bind λ xs=>a8 (dc xs) (B (.ae xs))).bind λ b=>aI .Add a b
def X2(r:D):U D:=(lM r).bind (jJ λ one=>aI .LShift one (.int 20))
section
variable (F:lW)(k:cz->U D)(lo bZ up cf rw cr c2 hf cD de cc ej ty gu lf wv cs od of lQ h1 eE gk cW ft:D)(v:J->D)(ch:H D->U D)theorem amC:SL F 40 (("rings",gu)::Dz lo bZ up cf rw cr v c2 hf cD de cc ej ty) (lw 20) k=k (vE lo bZ up cf rw cr v c2 hf cD de cc ej ty gu):=by lk
theorem amD:bq (aw 6) (λ i=>SL F 39 (vE lo bZ up cf (.ae [lQ,h1,eE]) (.int (i:J)) v c2 hf cD de cc ej ty gu) (lw 21) k)=br (aw 6) λ i=>((cQ (pJ (λ r a=>Ki r (.int (a:J))) [lQ,h1,eE] (mR i))).map D.ae).bind λ d=>k (("left",d)::vE lo bZ up cf (.ae [lQ,h1,eE]) (.int (i:J)) v c2 hf cD de cc ej ty gu):=by lk
theorem amE:SL F 38 (("left",.ae [gk,cW,ft])::vE lo bZ up cf rw cr v c2 hf cD de cc ej ty gu) (lw 22) k=((cQ [F 8 [gk],F 8 [cW],F 8 [ft]]).map D.ae).bind λ d=>k (("waves",d)::("left",.ae [gk,cW,ft])::vE lo bZ up cf rw cr v c2 hf cD de cc ej ty gu):=by lk
abbrev Kk(lo bZ up cf rw cr:D)(v:J->D)(c2 hf cD de cc ej ty gu lf wv:D):cz:=("waves",wv)::("left",lf)::vE lo bZ up cf rw cr v c2 hf cD de cc ej ty gu
theorem amF(a b c:J->D):SL F 37 (Kk lo bZ up cf rw cr v c2 hf cD de cc ej ty gu lf (.ae [tb a,tb b,tb c])) (lw 23) k=((cQ [(cQ ((aw 8).map λ m=>Dy (ji m) (a m) (b m) (c m))).map D.ae]).bind (f9 kJ)).bind λ d=>k (("cross",d)::Kk lo bZ up cf rw cr v c2 hf cD de cc ej ty gu lf (.ae [tb a,tb b,tb c])):=by lk
abbrev DB(lo bZ up cf rw cr:D)(v:J->D)(c2 hf cD de cc ej ty gu lf wv cs:D):cz:=("cross",cs)::Kk lo bZ up cf rw cr v c2 hf cD de cc ej ty gu lf wv
theorem amG(r:ah):(bJ (kj F) 30 i8 (DB lo bZ up cf rw cr v c2 hf cD de cc ej ty (.int r) lf wv cs) (hK (lw 24))).2=(F 0 [cs,.int 32]).bind λ a=>cp .NotEq a (.aD [.int (r-54),.int 0]):=rfl
theorem amH(gk cW ft:ah):SL F 35 (DB lo bZ up cf rw cr v c2 hf cD de cc ej ty gu (.ae [.int gk,.int cW,.int ft]) wv cs) (lw 25) k=(Kj gk cW ft).bind λ d=>k (("never",d)::DB lo bZ up cf rw cr v c2 hf cD de cc ej ty gu (.ae [.int gk,.int cW,.int ft]) wv cs):=by lk
abbrev Kl(lo bZ up cf rw cr:D)(v:J->D)(c2 hf cD de cc ej ty gu lf wv cs od:D):cz:=("never",od)::DB lo bZ up cf rw cr v c2 hf cD de cc ej ty gu lf wv cs
theorem amI:bq (aw 217) (λ r=>yY ch 34 (fQ (Kl lo bZ up cf rw cr v c2 hf cD de cc ej ty (.int (r:J)) lf wv cs od)) [lw 26] bK)=br (aw 217) λ r=>B (.ok (.next,fQ (("often",XZ r)::Kl lo bZ up cf rw cr v c2 hf cD de cc ej ty (.int (r:J)) lf wv cs od)),bK):=by lk
abbrev DC(lo bZ up cf rw cr:D)(v:J->D)(c2 hf cD de cc ej ty gu lf wv cs od of:D):cz:=("often",of)::Kl lo bZ up cf rw cr v c2 hf cD de cc ej ty gu lf wv cs od
theorem amJ:bq (aw 217) (λ r=>(bJ (kj F) 30 i8 (DC lo bZ up cf rw cr v c2 hf cD de cc ej ty (.int (r:J)) lf wv cs (.bool (aL r 0)) (XZ r)) (hK (lw 27))).2)=br (aw 217) λ u=>B false:=by lk
theorem amK:bq (aw 7) (λ s=>SL F 32 (DC lo bZ up (y1 s) rw cr v c2 hf cD de cc ej ty gu lf wv cs od of) (lw 28) k)=br (aw 7) λ s=>((cQ ((aw 6).map λ o=>X1 lo up (X0 o s) (ta o s))).map D.ae).bind λ d=>k (("due",d)::DC lo bZ up (y1 s) rw cr v c2 hf cD de cc ej ty gu lf wv cs od of):=by lk
theorem amL(ds:H D):SL F 31 (("due",.ae ds)::DC lo bZ up cf rw cr v c2 hf cD de cc ej ty gu lf wv cs od of) (lw 29) k=sy .And [((jJ X2 ds).bind λ b=>cp .Eq c2 b).map D.bool,B (.bool S)]:=by lk
end
theorem X3(a b:ah):aI .Add (.int a) (.int b)=B (.int (a+b)):=rfl
theorem DD(a:ah){b:ah}(h:aZ (ja b) 64=S):aI .Mult (.int a) (.int b)=B (.int (a*b)):=by show a8 _ _=_;rw[h,Zz];rfl
theorem amM(b:ah)(h:aZ (ja a) 64=S):aI .Mult (.int a) (.int b)=B (.int (a*b)):=by show a8 _ _=_;exact L h rfl
theorem Km:∀zs:H ah,oY (zs.map D.int)=B zs
 |[]=>rfl|z::zs=>by show(oY _).map _=_;exact L (Km zs) rfl
theorem DE(zs:H ah):kJ (.ae (zs.map D.int))=B (.int zs.sum):=by show(oY _).map _=_;rw[Km];show B (D.int (preSum (λ j=>zs.getD j 0) _))=_;rw[preSum_getD,ow]
theorem DF{α:Type}{u w:α->D} :∀{l:H α},(∀x∈l,f (u x)=B (w x))->jC f (l.map u)=B (l.map w)
 |[],_=>rfl|x::l,h=>by show(f _).bind _=_;rw[h x cV,DF λ y Q=>h y (c7 _ Q)];rfl
theorem amN:bq (aw 256) (λ r=>bq (aw 8) λ p=>Vh (.int (r:J)) (.int (p:J)))=br (aw 256) λ r=>br (aw 8) λ p=>B (.int (jj (vW r p))):=by lk
theorem amO:bq (aw 8) (λ m=>bq (aw 8) λ p=>Vi (.int (m:J)) (.int (p:J)))=br (aw 8) λ m=>br (aw 8) λ p=>B (.int (jj (!rQ (zq p m)))):=by lk
theorem amP(h:r<256):Vk (.int (r:J))=B (.ae ((Jg r).map D.int)):=by
 show(jC (Vj _) ((aw 8).map λ m=>.int (m:J))).map D.ae=_;rw[DF (w:=λ m=>.int (gm r m)) λ m A=>by
  show(cQ [(jC (Jf _ _) ((aw 8).map λ p=>.int (p:J))).map D.ae]).bind (f9 kJ)=_;rw[DF (w:=λ p=>.int (jj (vW r p)*jj (!rQ (zq p m)))) λ p k=>by
   unfold Jf;rw[bc (bc amN (a4.mpr h)) k,bc (bc amO A) k];cases vW r p<;>cases rQ _<;>rfl]
  exact DE ((aw 8).map λ p=>jj (vW r p)*jj (!rQ (zq p m)))]
 rfl
theorem amQ(G:gp g)(n:J)(h:1<=n):cK g 365 (n+1) (cx CK):=by refine kS G h (ct:=d4 []) (hJ (by simp)) (P:=P0) (mQ (by simp)) rfl λ ds d e=>(vl e λ u w E=>?_);subst w;refine Va E λ r W f=>?_;subst W;obtain⟨X,j⟩:=dn f;obtain rfl:=ak j;exact Y (ajN ..) (amP (cg.mp X))theorem Kn{α:Type}{u w:α->D}{l:H α}(z:O l<1000)(h:∀x∈l,f (u x)=B (w x)):jJ f (l.map u)=B (.ae (l.map w)):=by unfold jJ;rw[gh,cg.mpr z,DF h];rfl
noncomputable def Ko(k l:J):H Nat:=YY (rn (B (k:ah)) (B 60) (B 8) l).1 (rn (B (k:ah)) (B 60) (B 8) l).2.1 (rn (B (k:ah)) (B 60) (B 8) l).2.2
theorem X4(N:H ah):∀I:H J,uj (N.map D.int) I=(I.filterMap (N[·]?)).map D.int
 |[]=>rfl|i::I=>by obtain g:=X4 N I;unfold uj at g ⊢;rw[Ee,Ee,Ex];cases h:N[i]? with|none=>exact g|some n=>rw[apm];rw[g];rfl
theorem X5:∀V:H ah,∃n:J,(V.map (·.fmod 1000000000000000)).sum=(n:ah)/\n<=1000000000000000*O V
 |[]=>⟨0,rfl,bH _⟩
 |y::V=>by
  refine av (X5 V) λ n h j=>⟨(y% 1000000000000000).toNat+n,?_,?_⟩
  ·rw[lZ,ZN,h,zQ _ (by decide)];lia
  ·rw[gy];lia
noncomputable def Kp(k:J):Nat:=[178179,81,273,10006008331,113991150666,111163487,34838852,76052373].getD k 0
theorem q7{N:H ah}(z:O N<=63)(h:k<8){GG:Prop}(K:∀(c:J),c<2^60->yZ (.ae (N.map D.int)) (.int (k:J))=B (.int (c:J))->GG):GG:=by
 obtain W:=b8 (b9.mp (b9.mp (show((aw 64).all λ l=>(aw 8).all λ k=>aZ (O (Ko k l)) 8)=S from rfl) _ (a4.mpr (EA ‹_›))) k (a4.mpr h));obtain j:=cg.mp (b9.mp (show((aw 8).all λ k=>bE (Kp k) 1000000000000)=S from rfl) k (a4.mpr h));obtain Q:=List.length_filterMap_le _ _;obtain s:jq (.ae _) (.int k) (.int 60) (.int 8)=B (.ae (((Ko k _).filterMap _).map D.int)):=by rw[<-X4];show a8 _ _=_;exact L (gh ..) (L (show dc (N.map D.int)=S by unfold dc;rw[gh];exact dD (by lia)) rfl)
 generalize (Ko k _).filterMap _=V at s Q;refine av (X5 V) λ n e f=>K (Kp k+n) (by lia) ?_;unfold yZ;rw[bc (show bq (aw 8) (λ k=>fh vA (.int k))=br _ λ k=>B (.int (Kp k))from rfl) (a4.mpr h),s];show((cQ [jJ Dw _]).bind _).bind _=_;refine L (Kn (by lia) λ y u=>(show Dw (.int y)=B (.int (y.fmod 1000000000000000))from rfl):jJ Dw _=B _) ?_;show(kJ (.ae _)).bind _=_;obtain E:(V.map λ y=>D.int _)=(V.map _).map D.int:=v8.symm;rw[E,DE,e];rfl
theorem amR{n:H ah}(h:O n<=63){G:Prop}(K:∀(C P c q A l x M:J),c<2^60->jC (yZ (.ae (n.map D.int))) (pk 0 8)=B [.int (C:J),.int (P:J),.int (c:J),.int (q:J),.int (A:J),.int (l:J),.int (x:J),.int (M:J)]->G):G:=by refine q7 h (k:=0) (by decide) λ C u e=>q7 h (k:=1) (by decide) λ P u W=>q7 h (k:=2) (by decide) λ c F j=>q7 h (k:=3) (by decide) λ q u v=>q7 h (k:=4) (by decide) λ A u I=>q7 h (k:=5) (by decide) λ l u Q=>q7 h (k:=6) (by decide) λ x u d=>q7 h (k:=7) (by decide) λ M u r=>K C P c q A l x M F ?_;generalize yZ _=f at*;show(f (.int (0:J))).bind (λ a=>((f (.int (1:J))).bind λ a=>((f (.int (2:J))).bind λ a=>((f (.int (3:J))).bind λ a=>((f (.int (4:J))).bind λ a=>((f (.int (5:J))).bind λ a=>((f (.int (6:J))).bind λ a=>((f (.int (7:J))).bind λ a=>(B []).map _).map _).map _).map _).map _).map _).map _).map _)=_;rw[e,W,j,v,I,Q,d,r];rfl
theorem amS:((aw 2).all λ u=>(aw 3).all λ v=>(aw 4).all λ sp=>(aw 8).all λ p=>(aw 3).all λ l=>bE ((CI 1 u v sp p 0 0 0).getD l 0) 256)=true:=rfl
theorem X6(x:J){GG:Prop}(K:∀a b c,yA x=[a,b,c]->a<256->b<256->c<256->GG):GG:=by
 refine Vg x λ k u v sp P f s t e W j w I Q M i r=>?_;have E:yA x=CI k u v sp P f s t:=by unfold yA;rw[e]
 have A:∀{n k:J}{p:J->aF},(aw n).all p=S->k<n->p k=true:=λ h q=>b9.mp h _ (a4.mpr q);rcases k with _|_|_|k
 ·exact K f s t E M i r
 ·have h:=λ l q=>cg.mp (b9.mp (A (A (A (A amS j) w) I) Q) l (a4.mpr q))
  exact K _ _ _ E (h 0 (by decide)) (h 1 (by decide)) (h 2 (by decide))
 ·have o:255*u<256:=by lia
  have d:255*(P% 2)<256:=by lia
  rcases v with _|_|_|v
  ·exact K _ _ _ E o d M
  ·exact K _ _ _ E d M o
  ·exact K _ _ _ E M o d
  ·exact aR w (er.mpr (i_ 3 v))
 ·exact K f f f E M M M
theorem amT(F:lW)(a0 a A b E c4:J):(((cQ [B (.ae (bb [a0,a,A])),B (.ae (bb [b,E,c4]))]).bind (yq 1 (gc eT).target)).bind (XW F))=B (.ae (bb [a0+256*b,a+256*E,A+256*c4])):=rfl
theorem tc(V:1<=n)(h:a<2^(k*n)):b6 a n<=k:=
 vV ((td V).mpr (L (LP k n) (eo (Nat.sub_lt (Nat.add_pos_right _ V) LL) (pF (u7 h) n))))
theorem amU(V:1<=n)(h:k<b6 a n):2^(k*n)<=a:=by
 rcases DZ a (2^(k*n))with q|q
 ·have:=tc V q;lia
 ·exact q
theorem X7:aQ 281474976710656=49:=rfl
theorem amV(h:n<=1000)(j:O m<=32)(v:∀x∈m,x<2^n):vz [.ae (bb m),.int (n:J)]=B (.int (fA n m:J)):=by show(mK _).bind _=_;exact L (Jd ..) (eh (bF.mpr ⟨dD h,bF.mpr ⟨dD j,b9.mpr λ x K=>cg.mpr (v x K)⟩⟩))theorem Kq(h:1<=n)(j:n<=1000)(v:b6 a n<=32):yX [.int (a:J),.int (n:J)]=B (.ae (dB n (b6 a n) a)):=by show a8 _ _=_;simp only[dD h,dD j,dD v];rfl
theorem X8(h:b≠0)(W:aQ b.natAbs<=1000)(j:b6 a.natAbs (aQ b.natAbs)<=32):mV 2 [.int a,.int b]=B (.aD [.int (a.fdiv b),.int (a.fmod b)]):=by apply Jo;unfold mU;rw[((beq_int_false h)),dD W,dD j];rfl
theorem amW{x b_:J}(h:x<2^60)(b:b_<2):(Dx b_ x).natAbs<=2^60:=by unfold Dx;rw[apn,(show(1-2*(b_:ah)).natAbs=1 by rcases Ak b with rfl|rfl<;>rfl),y_];exact h
section
variable {ab:ah}{R:J}(vF:ab.natAbs<=2^60)(hq:R<281474976710656)
include hq
theorem X9:(ab*281474976710656+(R:ah)).fdiv 281474976710656=ab/\(ab*281474976710656+(R:ah)).fmod 281474976710656=(R:ah):=by rw[zc _ (by decide),zQ _ (by decide)];exact(aph (by decide)).mpr ⟨L (KG ..) (L (DY ..) rfl),m3 _,q9.mpr hq⟩
include vF
theorem X_:b6 (ab*281474976710656+(R:ah)).natAbs 49<=32:=
 tc (by decide) (gg (Int.natAbs_add_le _ _) (gg (vN (L (apn ..) (vL _ vF)) (ik hq)) (by decide)))theorem amX:mV 2 [.int (ab*281474976710656+(R:ah)),y0]=B (.aD [.int ab,.int (R:J)]):=by refine cq (X9 (ab:=ab) hq) λ h j=>?_;obtain k:=X8 (b:=281474976710656) (by decide) (show aQ 281474976710656<=1000 by rw[X7];decide) (show b6 _ (aQ 281474976710656)<=32 by rw[X7];exact X_ vF hq);rw[h,j]at k;exact k
theorem amY:mV 2 [.int (-(ab*281474976710656+(R:ah))),.int (-281474976710656)]=B (.aD [.int ab,.int (-(R:ah))]):=by refine cq (X9 (ab:=ab) hq) λ h j=>?_;have k:=X8 (a:= -(ab*281474976710656+R)) (b:= -281474976710656) (by decide) (by simp[(rfl)];decide) (L (ZJ ..) (X_ vF hq));rw[apf,h,apg,j]at k;exact k
end
noncomputable def kY(r N T:J):Nat:=((0*65536+T)*65536+N)*65536+r
theorem amZ(a:ah)(r N T:ah):cp .NotEq (.aD [.int a,.ae [.int r,.int N,.int T]]) (.aD [.int a,.ae [.int r,.int N,.int T]])=B false:=by show B _=_;simp
theorem am0(a b:ah):cp .NotEq (.aD [.int a,.int b]) (.aD [.int a,.int b])=B false:=by show B _=_;simp
theorem Kr(h:r≠0):cp .Eq (.ae [.int (r:J)]) (.ae [.int 0])=B false:=by show B _=_;exact L (show((r:ah)==0)=aj by simp;omega) rfl
theorem DG(h:b=.ae [.int y,.int N,.int T])(j:cp .Eq l (.ae [.int 0])=B aj)(v:F 0 [.int (-p),.int (-281474976710656)]=B (.aD [.int ab,.int (-r)])):vB F (.int ab) (.ae [.int y,.int N,.int T]) p r (.int ab) b l=B false:=by unfold vB;simp[h,amZ,j,v,gM,am0];rfl
theorem Ks(h:r<65536):(x*65536+r)% 65536=r:=L (iO ..) (L (Nat.add_mul_mod_self_right ..) (L (zt h) rfl))theorem Yb(h:r<65536):(x*65536+r)/65536=x:=L (iO ..) (L (Nat.add_mul_div_right _ _ (by decide)) (L (oo h) (L (hO ..) rfl)))
theorem Yc(e:r<65536)(W:N<65536)(j:T<65536):kY r N T<281474976710656:=
 have s:∀{a b n:J},a<n->b<65536->a*65536+b<n*65536:=λ h k=>eo (LM k _) (ax (LP ..) (vL 65536 h))
 s (s (s LL j) W) e
theorem test10(s t c w lo m v b_ y Q l M:D)(vF:ab.natAbs<=2^60)(q:r<65536)(W:N<65536)(j:eE<65536):
  (bJ (kj (FL ch)) 30 i8 (vC s t c w lo m v b_ y Q l M (.int ab) (.ae (bb [r,N,eE])) (.int (ab*281474976710656+(kY r N eE:ah))) (.int ab) (.int (kY r N eE:J)) (.ae (dB 16 (b6 (kY r N eE) 16) (kY r N eE))) (.int i)) (hK (lw 10))).2=B false:=by
 obtain hq:=Yc q W j;obtain p:=amY vF hq;obtain A:b6 _ 16<=3:=tc (by decide) hq;obtain lo1:∀k,k<b6 _ 16->2^(k*16)<=kY r N eE:=λ k=>amU (by decide);obtain x:kY r N eE<2^(b6 _ 16*16):=yE (by decide);generalize b6 _ 16=n at*;refine ff ((show kY r N eE% 65536=r/\kY r N eE/65536% 65536=N/\kY r N eE/65536/65536% 65536=eE from by
   unfold kY;exact L (Yb q) (L (Yb W) ⟨Ks q,Ks W,Ks j⟩))) λ E V f=>?_
 generalize kY r N eE=R at*
 match n,A with
 |0,_=>obtain rfl:=KN.mp x;exact Y (amk ..) (DG (ax E (ax V (ax f rfl))) rfl p)
 |1,_=>
  refine ff ((show R% 65536≠0/\R/65536% 65536=0/\R/65536/65536% 65536=0 from by
    rw[zt x,oo x];exact⟨hM (lo1 0 (by decide)),rfl,rfl⟩)) λ o u z=>?_
  rw[V]at u;rw[f]at z;obtain e:dB 16 1 R=[.int r]:=ax E rfl;refine L e (Y (aml ..) (DG ?_ (Kr (ax E o)) p));rw[u,z];rfl
 |2,_=>
  obtain⟨u,z⟩:=(show R/65536% 65536≠0/\R/65536/65536% 65536=0 from by
    obtain x:R/65536<65536:=LI x;rw[zt x,oo x];exact⟨hM (DJ (lo1 1 (by decide)) (by decide)),rfl⟩)
  rw[f]at z;have e:dB 16 2 R=[.int r,.int N]:=E.symm▸V.symm▸rfl;exact L e (Y (amm ..) (DG (L z rfl) (Kr (ax V u)) p))
 |3,_=>
  have z:=(show R/65536/65536% 65536≠0 from by
    rw[ot,zt (LI hq)];exact hM (DJ (lo1 2 (by decide)) (by decide)))
  have e:dB 16 3 R=[.int r,.int N,.int eE]:=ax E (ax V (ax f rfl));exact L e (Y (amn ..) (DG rfl (Kr (ax f z)) p))
 |_+4,h=>exact aR h (by lia)
theorem DH{α:Type}{f:α->U D}{g:α->D} :∀{l:H α},(∀x∈l,f x=B (g x))->cQ (l.map f)=B (l.map g)
 |[],_=>rfl|x::l,h=>by show(f x).bind _=_;rw[h x cV,DH λ y Q=>h y (c7 _ Q)];rfl
def Yd(lo m s:J):H D:=(aw 6).map λ o=>CD (ta o s) lo (m+1)theorem am1:bq (aw 5) (λ lo=>bq (aw 4) λ m=>bq (aw 7) λ s=>jJ (XY (Ke m)) (Yd lo m s))=br (aw 5) λ u=>br (aw 4) λ u=>br (aw 7) λ u=>B q6:=by lk
theorem am2{p:J->aF}(e:l.map p=[S,S,S]){G:Prop}(k:∀a b c,l=[a,b,c]->p a=S->p b=S->p c=S->G):G:=by
 have h:O l=3:=(gh p).symm.trans (aM O e);rcases l with _|⟨a,_|⟨b,_|⟨c,_|_⟩⟩⟩
 ·exact aR h (by simp)
 ·exact aR h (by simp)
 ·exact aR h (by simp)
 ·have E:=kp e
  have f:=kp E.2;exact k a b c rfl E.1 f.1 (kp f.2).1
 ·exact aR h (by simp)
theorem am3(h:i<6){GG:Prop}(k:∀a b c,mR i=[a,b,c]->a<2->b<2->c<2->GG):GG:=
 am2 (bc (show bq _ (λ i=>(mR i).map λ j=>bE j 2)=br _ λ u=>[S,S,S]from rfl) (a4.mpr h)) λ a b c e W l v=>k a b c e (cg.mp W) (cg.mp l) (cg.mp v)
theorem Kt(n:J):∀(c x:J),dB n c x=(aw c).map λ i=>.int (x/2^(n*i)% 2^n:J)
 |0,_=>rfl|c+1,x=>by simp only[an9,lZ,v8];show D.int _::dB n c _=_;rw[Kt n c,Nat.mul_zero,zN];congr 1;refine YJ λ i u=>(?_:D.int _=D.int (x/2^(n*(i+1))% 2^n:J));simp only[ot,<-kk,Nat.mul_add,vM,iO]noncomputable def Ye(h l:J):H Nat:=YY (rn (B (8*(h:ah))) (B (8*(h:ah)+8)) aa l).1 (rn (B (8*(h:ah))) (B (8*(h:ah)+8)) aa l).2.1 (rn (B (8*(h:ah))) (B (8*(h:ah)+8)) aa l).2.2
theorem am4:bq (aw 2) (λ h=>bq (aw 17) λ l=>Ye h (l+16))=br (aw 2) λ h=>br (aw 17) λ u=>(aw 8).map (8*h+ ·):=rfl
def q8(l lamp:J)(i:J):D:=.int (dg l i*2^lamp:J)theorem am5:(bq (aw 2) λ v=>bq (aw 3) λ l=>aI .LShift (.int (v:J)) (.int (l:J)))=br (aw 2) λ v=>br (aw 3) λ l=>B (.int (v*2^l:J)):=rfl
theorem Ku{r h lamp:J}(E:r<65536)(g:h<2)(z:lamp<3):y2 (FL ch) (.int (r:J)) (8*(h:ah)) (lamp:J)=B (.ae ((aw 8).map (q8 (r/2^(8*h)% 256) lamp))):=by
 obtain C:b6 r 1<=16:=tc (by decide) E;unfold y2;obtain f:FL ch 4 [.int r,.int 1]=B _:=Kq (n:=1) (by decide) (by decide) (by lia);refine L f ?_;dsimp only[gM];obtain T:O (dB 1 _ r++bb (hQ 16 0))=b6 r 1+16:=L e2 (L (pd ..) rfl);obtain A:aI .Add (.ae _) XX=B _:=by show a8 (S&&ml (O _+16)) (B (D.ae (dB 1 (b6 r 1) r++bb _)))=_;rw[pd,show ml _=S from dD (by lia)];rfl
 rw[A];dsimp only[gM];obtain a:∀j,j<16->(dB 1 _ r++bb _)[j]?=B _:=by
  intro j F;rcases DZ j (b6 r 1)with q|q
  ·rw[vX (L (pd ..) q),Kt,Ex,List.getElem?_range q,apm,y_,Nat.pow_one]
  ·rw[pN (L (pd ..) q),pd]
   rw[(oo (eo (yE (by decide):r<2^(b6 r 1*1)) (q_ (by decide) (by lia))))];unfold bb;rw[Ex,List.getElem?_replicate,bC (Nat.sub_lt_of_lt F)];rfl
 generalize dB 1 _ r++bb _=X at T a;obtain m:jq (.ae X) (.int _) (.int _) .none=B _:=by
  show a8 _ (B (D.ae (uj X (Ye h _))))=_;rw[(show dc X=S by unfold dc;rw[T];exact dD (by lia)),T,(bc (bc am4 (a4.mpr g)) (a4.mpr (show b6 r 1<17 by exact D1 C)))];show B (D.ae (((aw 8).map _).filterMap _))=_;obtain this:∀l:H J,(∀i∈l,i<8)->(l.map (8*h+ ·)).filterMap (X[·]?)=l.map λ i=>.int (r/2^(8*h+i)% 2:J):=by intro l;induction l with|nil=>intro u;rfl|cons i l I=>intro z;rw[lZ,Ee,a _ (by have:=z i cV;lia),lZ];rw[I λ j F=>z j (c7 _ F)]
  exact L (this _ λ i s=>a4.mp s) rfl
 rw[m];show jJ _ ((aw 8).map λ i=>D.int _)=_;refine Kn (by decide) λ i s=>(Y (bc (bc am5 (a4.mpr (dN _ (by decide)))) (a4.mpr z)) ?_);delta q8 dg;obtain e:r/2^(8*h)% 256/2^i% 2=r/2^(8*h+i)% 2:=by rw[<-apo,<-apo,show 256=2^8 from rfl,Nat.testBit_mod_two_pow,gJ (a4.mp s),aor,aoU,iO]
 exact L e rfl
theorem Kv(f:J->D)(h:j<8):fh (.ae ((aw 8).map f)) (.int (j:J))=B (f j):=
 bc (f:=λ j:J=>fh _ (.int j)) (g:=λ j=>B _) rfl (a4.mpr h)theorem am6:(bq (aw 8) λ c=>(aI .Mult (.int 8) (.int (c:J))).bind λ t=>aI .LShift (.int 1) t)=br (aw 8) λ c=>B (.int (2^(8*c):J)):=rfl
theorem am7(f:H D->U D)(h:x=B a)(k:g a=B b):((cQ [(cQ [x]).bind (f9 g),B v]).bind f)=f [b,v]:=by refine L h ?_;show((cQ [g a,B v]).bind f)=_;exact L k rfl
theorem am8(l F n:J):((cQ [(cQ [jJ (Kg (.ae ((aw 8).map (q8 l 0))) (.ae ((aw 8).map (q8 F 1))) (.ae ((aw 8).map (q8 n 2)))) (bb g0)]).bind (f9 kJ),B (.int 8)]).bind yX)=B (.ae (dB 8 (b6 (rP l F n) 8) (rP l F n))):=by
 obtain s:kJ (.ae (g0.map λ m=>.int _))=B (.int (rP l F n)):=by
  obtain a:(g0.map λ m=>D.int (2^(8*codeN l F n m):J))=((wI l F n).map λ c=>((2^(8*c):J):ah)).map D.int:=by rfl
  rw[a,DE];rfl
 exact Y (am7 yX (Kn (by rw[(show O g0=216 from rfl)];decide) λ m h=>(by
   unfold Kg;obtain d:aI .Mod _ (.int 8)=B _:=Jb (b:=8) (by decide);refine L (Jb (b:=8) (by decide)) (L (Jc (b:=8) (by decide) (by decide)) (L (Jc (by decide) (by decide)) ?_));rw[gM,gM,gM,d,gM,Kv _ (dN _ (by decide)),Kv _ (dN _ (by decide)),Kv _ (show m/64<8 by exact LI (cg.mp (b9.mp (show(g0.all λ m=>bE m 512)=S from rfl) m h))),gM,gM];obtain e:aI .Add (q8 l 0 _) (q8 F 1 _)=B (.int (dg l (m% 8)*2^0+dg F (m/8% 8)*2^1:J)):=rfl;obtain E:aI .Add (.int (dg l _*2^0+dg F _*2^1:J)) (q8 n 2 _)=B (.int (codeN l F n m)):=by show B (D.int (dg l _*2^0+dg F _*2^1+dg n _*2^2:J))=_;unfold codeN;rw[vM,y6 _ _,y6 _ (2^2)]
   simp only[e,gM,gM,E];exact bc am6 (a4.mpr (FE l F n m)))) s) (Kq (by decide) (by decide) (bA (tc (k:=8) (by decide) (ND l F n).2) (by decide)))
theorem am9(h:T<2^64):b6 T 8<9/\(.ae (dB 8 (b6 T 8) T):D)=DA (λ i=>T/2^(8*i)% 256) (b6 T 8)/\Kh (λ i=>T/2^(8*i)% 256) (b6 T 8)=((T% 256+T/72057594037927936:J):ah):=by
 obtain A:b6 T 8<=8:=tc (by decide) h;obtain u:T<2^(b6 T 8*8):=yE (by decide);refine⟨EA ‹_›,?_,?_⟩
 ·delta DA bb
  simp only[Kt,v8];rfl
 ·dsimp only[Kh]
  generalize b6 T 8=c at A u;have e:T/2^(8*0)% 256=T% 256:=by rw[zN]
  obtain E:T/2^(8*7)% 256=T/72057594037927936:=by lia
  have lo:=λ q=>by have:=eo u (q_ (by decide) (Nat.mul_le_of_le_div 8 c 56 q));exact oo this
  rcases(show c=0\/(c≠0/\c<=7)\/c=8 by lia)with rfl|⟨q1,Q⟩|rfl
  ·obtain this:=u
   refine L (KN.mp u) ?_;rfl
  ·rw[show aL c 0=aj from by cases q:aL c 0 with|false=>rfl|true=>exact aR (dE q) q1,show aL c 8=aj from by cases q:aL c 8 with|false=>rfl|true=>have:=dE q;lia]
   dsimp only;rw[e,lo Q];exact KY ↑(T% 256)
  ·refine(?_)
   rw[e,E];lia
theorem Yg(n:J):D6 (n:ah) 255=((n% 256:J):ah):=by show((n&&&(2^8-1):J):ah)=_;exact L (Nat.and_two_pow_sub_one_eq_mod ..) rfl
theorem Kw(r:J)(h:a<2):Ki (.int (r:J)) (.int (a:J))=B (.int (r/2^(8*a)% 256:J)):=by
 rcases((Ak h))with rfl|rfl
 ·show B (D.int (D6 ((r:ah).fdiv (1:J)) 255))=_
  rw[sm,Yg]
 ·show B (D.int (D6 ((r:ah).fdiv (256:J)) 255))=_
  rw[sm,Yg]
theorem Yh(f:J->ah)(h:∀p,f p=1\/f p= -1):∀l:H J,∃n:J,n<=2*O l/\l.foldr (λ p s=>f p+s) 0=(n:ah)- O l
 |[]=>⟨0,bH _,rfl⟩
 |p::l=>by
  refine av (Yh f h l) λ n W j=>?_;simp[anS,j,gy];rcases h p with q|q
  ·exact⟨n+2,by lia,by rw[q];lia⟩
  ·exact⟨n,by lia,by rw[q];lia⟩
theorem Kx(l m:J):aZ (ja (gm l m)) 64=true:=by
 obtain s1:∀b,jj b=1\/jj b= -1:=λ b=>by induction b<;>trivial
 obtain⟨n,W,h⟩:=Yh (λ p=>jj _*jj (!rQ _)) (λ p=>by
  rcases s1 (vW l p)with a|a<;>rcases s1 _ with b|b<;>rw[a,b]<;>decide) _
 have e:gm l m=n-8:=h;exact L e (b9.mp (show(aw 17).all (λ n=>aZ (ja (n-8)) 64)=S by lk) n (a4.mpr (EA ‹_›)))theorem am_(h:m<8)(l D n:J):Dy (ji m) (.int (gm l m)) (.int (gm D m)) (.int (gm n m))=B (.int (ji m*(gm l m*gm D m+(gm D m*gm n m+gm n m*gm l m)))):=by unfold Dy;simp[DD _ (Kx D m),DD _ (Kx n m),DD _ (Kx l m),gM,gM,X3,gM,gM,X3,gM,amM _ (b9.mp (show((aw 8).all λ m=>aZ (ja (ji m)) 64)=S from rfl) m (a4.mpr h)),anL]
theorem Yi{α:Type}(f:α->ah):∀l:H α,(l.map f).sum=b0 f l
 |[]=>rfl|a::l=>L lZ (L ZN (L (Yi f l) rfl))theorem ana(l F n:J):((cQ [(cQ ((aw 8).map λ m=>Dy (ji m) (.int (gm l m)) (.int (gm F m)) (.int (gm n m)))).map D.ae]).bind (f9 kJ))=B (.int (32*((lb l F n:ah)- 54))):=by rw[DH λ m h=>am_ (a4.mp h) l F n];rw[<-aba,<-Yi,<-DE];rfl
theorem Ky(h:l<256):CK [.int (l:J)]=B (tb λ m=>.int (gm l m)):=by show a8 _ _=_;refine L (cg.mpr h) ?_;unfold Jg;exact L (v8 ..) rfl
theorem anb:bq (aw 217) (λ r=>(mV 2 [.int (32*((r:ah)- 54)),.int 32]).bind λ a=>cp .NotEq a (.aD [.int ((r:ah)- 54),.int 0]))=br (aw 217) λ u=>B false:=by lk
theorem anc{r:J}(h:r<217):((mV 2 [.int (32*((r:ah)- 54)),.int 32]).bind λ a=>cp .NotEq a (.aD [.int ((r:ah)- 54),.int 0]))=B false:=bc anb (a4.mpr h)theorem DI(a b:J):((a:ah)==(b:ah))=aL b a:=by cases h:aL b a with|true=>rw[dE h];rw[BEq.rfl]|false=>have:=Nat.ne_of_beq_eq_false h;simp;exact ao6 rfl rfl λ J9=>this (id (om J9))theorem Yj(x l D n:J):cp .In (.int (x:J)) (.ae [.int (l:J),.int (D:J),.int (n:J)])=B (aL x l|| (aL x D|| (aL x n||false))):=by simp only[<-DI];rfl
theorem ane(e:l<256)(W:cW<256)(j:n<256):never l cW n=aL (lb l cW n) 0:=by cases h:never l cW n with|true=>rw[aa4 h];rfl|false=>cases q:aL _ 0 with|false=>rfl|true=>rw[aa2 e W j (dE q)]at h;exact aR h (by decide)def Yk(lo m s:J):H D:=(aw 6).map λ o=>.ae (bb (U9 (ta o s) lo (m+1)))theorem anf:bq (aw 5) (λ lo=>bq (aw 4) λ m=>bq (aw 7) λ s=>cQ ((aw 6).map λ o=>X1 (.int (lo:J)) (Ke m) (X0 o s) (ta o s)))=br (aw 5) λ lo=>br (aw 4) λ m=>br (aw 7) λ s=>B (Yk lo m s):=by lk
theorem ang:bq (aw 5) (λ lo=>bq (aw 4) λ m=>bq (aw 7) λ s=>((jJ X2 (Yk lo m s)).bind λ b=>cp .Eq (.ae (Yd lo m s)) b))=br (aw 5) λ u=>br (aw 4) λ u=>br (aw 7) λ u=>B true:=by lk
def XR(r:U (Res (f6×az)×aE)):U (D×aE):=r.bind λ q=>q.1.rec (λ p=>p.1.rec aa aa aa λ v=>v.rec (λ d=>B (d,q.2.take 2)) λ u=>aa) λ u u=>aa
theorem amb(h:XR r=B (d,s)){GG:Prop}(k:∀ar af,r=B (.ok (.ret (.d d),ar),af)->af.take 2=s->GG):GG:=by
 rcases r with _|⟨⟨f,ρ⟩|_,σ⟩
 ·exact nn h
 ·rcases f with _|_|_|v
  case ret=>
   rcases v with d|_
   ·have e:=bf (ak h);exact k ρ σ (ax e.1 rfl) e.2
   ·exact nn h
  all_goals exact nn h
 ·exact nn h
def J8(cl:D):az:=[("refused",.d (.str kV)),("words",.d eI),("cells",.d cl)]def XS(cl:D):az:=("begun",.aH 2)::J8 cl
section
variable (cl:D)theorem a_0:cB dY 60 [("words",.d eI),("cells",.d cl)] [cO 0] bK=B (.ok (.next,J8 cl),bK):=rfl
theorem J9:cB dY 59 (J8 cl) [cO 1] bK=B (.ok (.next,XS cl),[t0,t1,.ae (jI.map aP)]):=rfl
theorem a_2:cB dY 58 (XS cl) [cO 2] [t0,t1,.ae (jI.map aP)]=B (.ok (.next,cm 3 cl),n_ aj (jI.map aP) (jI.map aP) q3 []):=by lk
theorem amc:XR (cB dY 56 (cm 3 cl) [cO 4,cO 5,cO 6,cO 7,cO 8,cO 9] (n_ aj (jI.map aP) (jI.map aP) q3 []))=B (.int (3:J),bK):=by lk
end
theorem Du(C:H J)(P:O C=5):∃i ar af,i<6/\cB dY 60 [("words",.d eI),("cells",.d (.ae (bb C)))] (bP (aY 34)) bK=B (.ok (.ret (.d (.int (i:J))),ar),af)/\af.take 2=bK:=by
 refine alF (cl:=.ae (bb C)) 5 0 4 aj jI q3 [] 1000 (by
   obtain k:∀(cs r:H J),JZ r->ih cs=B r->2<=O cs->O cs<=5->eO _ q3=B _->Xm q3 cs:=λ cs r a b c d e=>⟨r,a,b,c,d,e⟩;obtain w:∀o,o<6->JZ _:=λ o h=>(hV o 0 0 23 ⟨h,by decide,by decide,by decide,rfl,rfl⟩);refine⟨by decide,by decide,⟨λ u=>rfl,λ h=>bw h⟩,by decide,rfl,by decide,by decide,λ u=>⟨rfl,rfl⟩,λ cs h=>?_⟩;obtain h:cs=yT\/cs=[108,105,102]\/cs=[73,70,76]\/cs=[102,105,108]\/cs=[105,108,102]:=by
    rcases h with h|⟨e,W,rfl⟩
    ·exact .inl h
    ·unfold jI at W
     simp only[dM,dS,jQ]at W;rcases W with rfl|rfl|rfl|rfl
     ·exact .inr (.inl rfl)
     ·exact .inr (.inr (.inl rfl))
     ·exact .inr (.inr (.inr (.inl rfl)))
     ·exact .inr (.inr (.inr (.inr rfl)))
   rcases h with rfl|rfl|rfl|rfl|rfl
   ·exact k _ _ (w 0 (by decide)) rfl (by decide) (by decide) rfl
   ·exact k _ _ (w 4 (by decide)) rfl (by decide) (by decide) rfl
   ·exact k _ _ (w 2 (by decide)) rfl (by decide) (by decide) (by lk)
   ·exact k _ _ (w 1 (by decide)) (by lk) (by decide) (by decide) (by lk)
   ·exact k _ _ (w 3 (by decide)) (by lk) (by decide) (by decide) (by lk)) (zj.mp (aM i9 (id (om P)))) (i_ ..) (i_ ..) λ s es M Q I e=>?_
 have f:cB dY 57 (cm 3 (.ae (bb C))) [cO 3] (n_ aj (jI.map aP) (jI.map aP) q3 [])=B (.ok (.next,cm (J2 s) (.ae (bb C))),n_ s (es.map aP) (jI.map aP) M Q):=by refine L (alD ..) (Y (gd ?_) rfl);show j7 (cm 3 (.ae (bb C))) 7 (gR d9 (iG (cO 3)) (λ ρ=>cB dY 56 ρ (f_ (cO 3))) 7 (cm 3 (.ae (bb C))) 8 1000 (cm (dR aj) (.ae (bb C))) (cC aj (jI.map aP) (jI.map aP) q3 (bb C) 0 []))=_;exact L (e ..) (alE I.e0)
 have go:∀i ar af,i<6->cB dY 56 (cm (J2 s) (.ae (bb C))) [cO 4,cO 5,cO 6,cO 7,cO 8,cO 9] (n_ s (es.map aP) (jI.map aP) M Q)=B (.ok (.ret (.d (.int (i:J))),ar),af)->af.take 2=bK->∃i ar af,i<6/\cB dY 60 [("words",.d eI),("cells",.d (.ae (bb C)))] (bP (aY 34)) bK=B (.ok (.ret (.d (.int (i:J))),ar),af)/\af.take 2=bK:=by exact λ i ar af t h p=>ax (show bP (aY 34)=[cO 0,cO 1,cO 2,cO 3,cO 4,cO 5,cO 6,cO 7,cO 8,cO 9]from by lk).symm (e_ i ar af ⟨t,Y (cS (a_0 _)) (Y (cS (J9 _)) (Y (cS (a_2 _)) (Y (cS f) h))),p⟩)
 cases s with|true=>exact ama I (i_ ..) go|false=>obtain⟨rfl,rfl⟩:=I.fy rfl;exact amb (amc (.ae (bb C))) λ ar af=>go 3 ar af (by decide)
theorem amd:∃F:H D->U D,(∀{g:bX},gp g->∀{n:J},0<n->cK g 350 (n+14) (cx F))/\∀c:H J,O c=5->∃i,i<6/\F [.ae (bb c),eI]=B (.int (i:J)):=by
 classical
 let F:H D->U D:=λ ds=>if h:∃c:H J,O c=5/\ds=[.ae (bb c),eI]then B (.int (LQ (Du _ (wj h).1):J))else aa
 obtain K:∀ds,(h:∃c:H J,O c=5/\ds=[.ae _,eI])->F ds=B _:=λ ds h=>dif_pos h;refine⟨F,λ{g} G {n} W=>?_,λ c P=>?_⟩
 ·refine yC G (fp _) (ak0 G W) rfl λ ds d e=>?_
  by_cases h:∃c:H J,O c=5/\ds=[.ae (bb c),eI]
  ·rw[K ds h]at e
   refine ax (ak e) (e4 (wj (Du _ (wj h).1)) λ ar af u l v=>((λ I s=>?_:∀I:H D,I=[.ae _,eI]->O I=O _/\∃ar k,b4 _ fj 30 _ 60 ((eU _).zip (I.map V.d)).reverse (bP (aY 34)) bK=B (.ok (.ret (.d (.int (LQ (Du (LQ h) (wj h).1):J))),ar),k)/\k.take 2=bK) ds ((wj h).2)));subst s;exact⟨rfl,ar,af,l,v⟩
  ·rw[show F ds=aa from jb h]at e;exact nn e
 ·have h:∃C:H J,O C=5/\ [D.ae (bb c),eI]=[.ae (bb C),eI]:=⟨c,P,rfl⟩
  exact⟨_,eM (wj (Du (LQ h) (wj h).1)) λ u u X u=>X,K _ h⟩
theorem ahZ
  (C:∀c h' t,s.toks<=t->(∀b o,s.heap.get? b=B o->h'.get? b=B o)->s.heap.objs.size<=c->c<h'.objs.size->h'.CodeRec (.ref c) q->Q (.ref c) {s with heap:=h',toks:=t}):
  aO M A (newCode ctx name q f v P N F x i g w (B fd)) Q E s:=by
 refine λ z p r=>(aB (ZD λ j=>?_):aO M A _ Q E _) z p r;have K:∀(h:aX) o,(∀b o,s.heap.get? b=B o->h.get? b=B o)->∀b k_,s.heap.get? b=B k_->(h.push o).get? b=B k_:=λ h o k b k_ e=>dy _ (k b k_ e);have y:∀b o,s.heap.get? b=B o->s.heap.get? b=B o:=λ u u e=>e;have d:∀(h:aX) o,h.objs.size< (h.push o).objs.size:=λ h o=>L (et ..) (ko _);have ks:∀{h:aX}{o n},n<=h.objs.size->n<=(h.push o).objs.size:=λ k=>bA k (ik (d ..));induction w with|none=>intro z p r;show Q _ _;dsimp only;exact C _ _ _ (ip (ip (zO (gK _ 3)))) (K _ _ (K _ _ (K _ _ (K _ _ y)))) (ks (ks (ks (bH _)))) (d ..) (hV _ _ _ _ ⟨rfl,d0 _ rfl,rfl,rfl⟩)|some l=>refine aB (ao1 (aB (Zd (aB (ZD λ a=>aB (ao1 (aB (ZD λ b=>?_))))))));intro z p r;show Q _ _;dsimp only;exact C _ _ _ (ip (ip (zO (zO (zO (gK _ 3)))))) (K _ _ (K _ _ (K _ _ (K _ _ (K _ _ (K _ _ y)))))) (ks (ks (ks (ks (ks (bH _)))))) (d ..) (hV _ _ _ _ ⟨rfl,d0 _ rfl,rfl,rfl⟩)
theorem ah0
  (nF:env.code=.ref c)(C:zP s.heap c P)(w:s.heap.get? P=B (wh l))(fZ:TriplesOk l.toList)(a:ZE W l.toList=aa)
  (xT:∀c' h' F,s.toks<=F->pM P s.heap h'->s.heap.objs.size<=c'->c'<h'.objs.size->h'.CodeRec (.ref c') q->h'.get? P=B (wh (l++ #[gz W.line,gz W.col,.ref c']))->Q (.ref c') {s with heap:=h',toks:=F}):
  aO M A (ZF env W f name q p j body) Q E s:=by
 refine hx C λ o vs z apy r=>hx r λ V O2 inF m R=>t7 R λ tt dw Ih hd Ih I=>GP I λ y cw nO Ii N=>cq N λ k AU=>?_;delta ZF codeAt;refine L nF (aB (LJ dw hd (ax y.symm (aB (LJ w rfl ?_)))));rw[a,cw,nO,Ii,k];refine aB (ahZ λ c' h' F d n g X i=>?_);have T:=n _ _ w;refine aB (wpAny_updateFieldsOfTheText T rfl ?_);obtain D:(Obj.mapFields (λ vs=>if (ZE W vs.toList).isSome=S then vs else vs++ #[gz W.line,gz W.col,.ref c']) _)=wh (l++ #[gz W.line,gz W.col,.ref c']):=by rw[Obj.mapFields,a];rfl
 obtain h:=Ek _ T (aM _ D);rw[D]at h;refine aB (LJ h rfl ?_);rw[show(l++ #[gz W.line,gz W.col,hP c']).toList=l.toList++ [gz W.line,gz W.col,.ref c'] by simp,codeAmong_snoc _ fZ a];refine bl (xT _ _ _ d (λ b k_ cv e=>((tB ..).extBut b k_ cv (n b k_ e))) g (L (Heap.size_after_update ..) X) (GQ i λ c₂ u v t K G x=>?_) h);injection K with K;subst K;exact(hV _ u v t ⟨rfl,(tB ..).extBut _ _ (hM (eo (dI w) g)) G,x⟩)
theorem ah1
  (G:env.code=.ref c)(C:zP s.heap c P)(T:me X s.heap P W.line W.col qualname)(IF:∀b∈X,b<s.heap.objs.size)
  (j:∀c' h' D,s.toks<=D->pM P s.heap h'->s.heap.objs.size<=h'.objs.size->h'.CodeRec (.ref c') qualname->c'∉X->me X h' P W.line W.col qualname->Q (.ref c') {s with heap:=h',toks:=D}):
  aO M A (ZF env W f name qualname p i body) Q E s:=by
 refine av T λ vs y R=>?_;rcases R with rfl|⟨x,m,n,t0,rfl,V,hC,uu,q0⟩
 ·refine ah0 G C y trivial rfl λ c' h' D d hj I F h z=>?_
  have k:c'∉X:=λ q=>aR (IF c' q) (er.mpr I);refine j c' h' D d hj (ik (gg I F)) h k (GQ h λ c₂ o v t N g r=>?_);injection N with N;subst N;exact⟨_,z,.inr (hV _ o v t ⟨Array.empty_append,k,g,r⟩)⟩
 ·exact wpAny_functionCode_hit G (C.code y (by trivial)) (c':=.ref x) (by simp[ZE,gz]) (j x s.heap s.toks (bH _) (λ u u u e=>e) (bH _) (hV x m n t0 ⟨rfl,hC,uu,q0⟩) V ⟨_,y,.inr (hV x m n t0 ⟨rfl,V,hC,uu,q0⟩)⟩)
theorem me.up{l c:J}{q:ai}(T:me X h P l c q)(k:∀b o,h.get? b=B o->h'.get? b=B o):me X h' P l c q:=
 av T λ vs e a=>
 ⟨vs,k _ _ e,a.imp id λ z=>GR z λ c o f t E g s D=>(hV c o f t ⟨E,g,k _ _ s,D⟩)⟩
theorem ah2
  (n:zE g env=pure k)(N:env.globals=k2)(ju:s.heap.Ns k2 jn)(f:env.code=.ref c)(C:zP s.heap c P)(T:me X s.heap P p.line p.col qual)(IF:∀b∈X,b<s.heap.objs.size)(y:k≠ [])(hgP:k2≠P)(cv:s.heap.BuiltinsAt jn P)
  (h:∀c' ctv doc pm h' G,s.toks<=G->pM P s.heap h'->s.heap.objs.size<=h'.objs.size->h'.CodeRec (.ref c') qual->c'∉X->me X h' P p.line p.col qual->Q (.ref h'.objs.size) {s with heap:=h'.push (fnMade name qual R body g k doc pm c' ctv),toks:=G}):
  aO M A (makeFunction name qual R (.stmts body) g env [] [] [] p p.line) Q E s:=by
 refine L (makeFunction_eq ..) (L List.zip_nil_right ?_);simp[List.filterMap_nil,List.isEmpty_nil,if_true,D];refine lg cv λ bm Bm hbm r Ih u v=>pS v λ hbo w F d=>?_;unfold makeTail;rw[n,N];refine aB (bl (L (show k.isEmpty=aj by cases k;exact aR rfl y;rfl) ?_));dsimp only;refine aB (wpAny_newTextTuple ?_);generalize fq:s.heap.push {cls:=.type "tuple",data:=.seq (ZG _ _).toArray} =c5;have K:∀b o,s.heap.get? b=B o->c5.get? b=B o:=λ b o e=>ax fq (dy _ e);have iY:s.heap.objs.size<=c5.objs.size:=ax fq (L (et ..) (hg _));refine aB (ah1 f (C.keeps K) (T.up K) (λ b q=>eo (IF b q) iY) λ c' h' G j hj I i l W=>?_);obtain z:=(ju.keeps K).extBut hj hgP;have m:=λ b o hb' e=>hj b o hb' (K b o e);refine aB (wpAny_builtinsFor z hbm r (m _ _ u hbo) w F d (aB (wpAny_nsGet z ?_)));cases apz:docOf body with|none=>exact aB (bl (kx (h c' _ .none _ h' G j m (bA iY I) i l W) (by size_fits)))|some t=>exact aB (D5 (kx (h c' _ _ _ h' _ (ip j) m (bA iY I) i l W) (by size_fits)))
theorem Tt(c:dq g x sc env n X){nm q:ai}{p:Arguments}{body:H bx}{G:bW}{A:cP}{k:H (ai×ao)}{cAd P:ao}{i:J}
  (dp:qualnameIn env nm nm=q)(hd0:p.defaults=[])(Hx:p.kw_defaults=[])(ha':annTrees p aa env=[])(xN:zE G env=pure k)(AU:k≠ [])(j:env.code=.ref cAd)(C:zP g.K cAd P)(hge:env.globals=k2)
  (xH:∃jn,g.K.Ns k2 jn/\g.K.BuiltinsAt jn P)(GJ:dU sc nm=S)
  {α:H ao}{σ:aE}{s:aU}(I:aG g (a3 x X) α σ s.heap)(dm:1<=s.toks)(R:bp g (a3 x X) env ρ α s.heap)(V:σ[i]?=B (.tab P A.line A.col q)){Q:m6->aU->Prop}{E:aq->aU->Prop}
  (h:∀f c' t D pm h' el aA,a_ (a3 x X).F (a3 x X).W α s.heap aA h'->aG g (a3 x X) aA σ h'->1<=el->bp g (a3 x X) env ((nm,.d (.obj f))::ρ) aA h'->h'.get? f=B (fnMade nm q p body G k D pm c' t)->h'.CodeRec (.ref c') q->
    f∉x.P++aA->c'∉x.P++aA->Q .next (cT s h' el)):
  aO (a5 g.prog g.w) x.A (fF (.FunctionDef nm p body [] aa [] G aa nm A) env) Q E s:=by
 refine av xH λ jn nS pa=>?_;obtain⟨a,hy,em⟩:∃a,α[i]?=B a/\d2 g.w.params _ α s.heap a _:=by have cL:=I.bM.length▸oR V;exact⟨_,tE cL,I.look (tE cL) V⟩
 obtain⟨rfl,T⟩:=em;obtain ah3:k2≠a:=λ q=>by refine oL nS λ o es c3 e r=>?_;rw[q,(I.b2 _ (.inr (eK hy))).1]at e;exact nn e
 refine nestDef_K hd0 Hx ha' (L dp ?_);have lt:∀b∈(a3 x X).P++α,b<s.heap.objs.size:=λ b=>I.nz;refine ah2 xN hge (nS.keeps I.base) j (C.keeps I.base) T lt AU ah3 ?_ λ c' t D pm h' el ht' hj iY rc so tab=>?_
 ·exact lg pa λ bm Bm f3 ho iw k9 N=>cq N λ eT r=>((bh bm Bm ⟨f3,ho,iw,k9,I.base _ _ eT,r⟩))
 generalize w:fnMade nm q p body G k D pm c' t=Ce;obtain⟨hD,l⟩:=I.dG.upd (h':=h'.push Ce) c.y.ok.cY hy (m:=.tab a A.line A.col q) (λ b o n e=>dy _ (hj b o n e)) (L (et ..) (zO iY)) ⟨rfl,(tab.up λ u u e=>dy Ce e)⟩;rw[(set_same V)]at hD;replace hD:aG g (a3 x X) α σ _:=hD.cF;obtain hf:=d0 _ (aM _ w.symm);have qC:h'.objs.size∉(a3 x X).P++α:=λ cv=>aR (lt _ cv) (er.mpr iY);refine(AY (a:=.d _) c.h4 c.w (oS c.cM GJ)) α σ {s with heap:=h'.push Ce,toks:=el} (.ok _) σ hD (bA dm ht') ⟨(c.r9 I l R),aV.obj qC hf⟩ rfl _ _ (λ b r cw h8 h9 dw M eF i0 fN=>?_) eC.ok;obtain⟨f1,f2⟩:=M.outer c.y.ok.cY c.h4 _ _ hf qC;refine GQ rc λ c₂ y v z K ah4 ah5=>?_;injection K with K;subst K;exact cq (M.outer c.y.ok.cY c.h4 _ _ (dy Ce ah4) so) λ g1 g2=>h _ c' t D pm cw h8 h9 ((l.cF λ u q=>aW _ q).trans M) eF i0 fN (L w f1) (hV c' y v z ⟨rfl,g1,ah5⟩) f2 g2
noncomputable abbrev eA:Program:=KR
noncomputable abbrev jS:U Value:=B (.ref 6)
noncomputable abbrev nh(bd:H bx)(ev:cn)(q0:cP)(t:bj Fin)(q:cP):Thread:=⟨t,.body bd ev,q,[vS q0]⟩
def aC(w:di)(bd:H bx)(ev:cn)(q0:cP){α:Type}(n:J)(s:oi)(q:cP)(t:bj α)(a:α)(s':oi)(Q:cP):Prop:=
 ∀(K:α->bj Fin)(h:aq->bj Fin)(a8:aF->aF)(l:H aq->H aq),m4 jM eA w 28 jS 1 n s (nh bd ev q0 (t.wrap K h a8 l) q)=B (s',nh bd ev q0 (K a) Q)
theorem My:∀{n m:J}{s s1:oi}{t t1:DU}{r:U (oi×DU)},
  m4 iS p w N a b n s t=B (s1,t1)->m4 iS p w N a b m s1 t1=r->m4 iS p w N a b (n+m) s t=r
 |0,m,s,s1,t,t1,r,h,k=>by obtain⟨rfl,rfl⟩:=h;rw[hO];exact k|n+1,m,s,s1,t,t1,r,h,k=>by rw[show n+1+m=n+m+1 by exact zi n 1 m];dsimp only[m4]at h ⊢;cases y:endAt b t with|some f=>rw[y]at h;exact nn h|none=>rw[y]at h;cases o:stepOk N a t with|false=>rw[o]at h;exact nn h|true=>have h:=o▸h;cases c:tj _ p w s t with|none=>rw[c]at h;exact nn h|some x=>obtain⟨V,T⟩:=x;rw[c]at h;exact My h k
theorem Mz:∀{n m:J}{s s1:oi}{t t1:DU}{r:U (m6×oi×Code×cP)},
  m4 iS p w N a b n s t=B (s1,t1)->tk iS p w N a b m s1 t1=r->tk iS p w N a b (n+m) s t=r
 |0,m,s,s1,t,t1,r,h,k=>by refine cq (bf (ak h)) λ W q=>?_;refine L W ?_;refine L q ?_;rw[hO];exact k|n+1,m,s,s1,t,t1,r,h,k=>by rw[show n+1+m=n+m+1 by lia];dsimp only[m4]at h;dsimp only[tk];cases y:endAt b t with|some f=>rw[y]at h;exact nn h|none=>rw[y]at h;cases o:stepOk N a t with|false=>rw[o]at h;exact nn h|true=>have h:=o▸h;cases c:tj _ p w s t with|none=>rw[c]at h;exact nn h|some x=>obtain⟨V,T⟩:=x;rw[c]at h;exact Mz h k
theorem aC.pure(a:α):aC w bd ev q0 0 s q (tg a:bj α) a s q:=λ u u u u=>rfl
theorem aC.bind(W:aC w bd ev q0 n s q t a s1 q1)(j:aC w bd ev q0 m s1 q1 (f a) b s2 jc):aC w bd ev q0 (n+m) s q (t>>=f) b s2 jc:=λ K h a8 l=>by simp only[Sem.bind_eq_wrap',KS];exact My (W _ _ _ _) (j K h a8 l)theorem aC.keep(h:aC w bd ev q0 n s q t a s1 q1):aC w bd ev q0 n s q (t.keep vs) a s1 q1:=λ K R a8 l=>by simp only[Sem.keep_eq_wrap,KS];exact h _ _ _ _
theorem aC.holding(h:aC w bd ev q0 n s q t a s1 q1):aC w bd ev q0 n s q (d_ vs t) a s1 q1:=by
 unfold d_;generalize List.filter _ vs=l;rcases l with _|_
 ·exact h
 ·exact h.keep
theorem aC.onRaise(h:aC w bd ev q0 n s q t a s1 q1):aC w bd ev q0 n s q (t.onRaise l) a s1 q1:=λ K R a8 o=>by simp only[Sem.onRaise_eq_wrap,KS];exact h _ _ _ _
theorem aC.of_eq(h:aC w bd ev q0 n s q t a s1 q1)(e:T=t):aC w bd ev q0 n s q T a s1 q1:=L e h
theorem aC.rule(x:b1):aC w bd ev q0 1 s q (PySem.rule x) () s q:=λ u u u u=>rfl
theorem aC.at(p:cP):aC w bd ev q0 1 s q (dZ p) () s p:=λ u u u u=>rfl
theorem aC.load{os:eS}(Q:bE a N=S)(i:T.get a=B o)(z:alive o=B o):
  aC w bd ev q0 1 ⟨T,N,li,g,d,k,os⟩ q (loadPart a p) o ⟨T,N,li,g,d,k,os⟩ q:=λ K h a8 l=>by
 refine(?_:(match tj _ eA w ⟨T,N,li,g,d,k,os⟩ (nh bd ev q0 (.load a p λ x=>(DV x).wrap K h a8 l) q)with|some (s',t)=>m4 jM eA w 28 jS 1 0 s' t|none=>aa)=_);unfold tj;dsimp only;refine L Q (L i ?_);dsimp only;refine L z ?_;rfl
theorem aC.update{os:eS}(r:aZ 28 a=S)(Q:bE a N=S)(i:T.get a=B o)(z:alive o=B o):
  aC w bd ev q0 1 ⟨T,N,li,g,d,k,os⟩ q (updatePart a p f) () ⟨T.set a f,N,li,g,d,k,os⟩ q:=λ K h a8 l=>by
 show(match stepOk 28 jS (nh bd ev q0 (.update a p f λ x=>(DV x).wrap K h a8 l) q)with
  |false=>aa|true=>match tj (denote jM) eA w ⟨T,N,li,g,d,k,os⟩ (nh bd ev q0 (.update a p f λ x=>(DV x).wrap K h a8 l) q)with|some (s',t)=>m4 jM eA w 28 jS 1 0 s' t|none=>aa)=_
 obtain e:stepOk 28 jS (nh bd ev q0 (.update a p f λ x=>(DV x).wrap K h a8 l) q)=true:=by show(S&&(aZ 28 a||a==mainNs||a==DW||jS==B _))=S;exact L r rfl
 refine L e ?_;unfold tj;dsimp only;refine L Q (L i ?_);dsimp only;refine L z ?_;rfl
theorem aC.alloc{os:eS}(h:((T.ins N o).get N).isSome=S):
  aC w bd ev q0 1 ⟨T,N,li,g,d,k,os⟩ q (PySem.alloc o) N ⟨T.ins N o,N+1,li,g,d,k,os⟩ q:=λ K R a8 l=>by
 refine(?_:(match tj _ eA w ⟨T,N,li,g,d,k,os⟩ (nh bd ev q0 (.alloc o λ x=>(DV x).wrap K R a8 l) q)with|some (s',t)=>m4 jM eA w 28 jS 1 0 s' t|none=>aa)=_);unfold tj;dsimp only;refine L h ?_;rfl
theorem wu(f g:fe->fe):∀(T:BT)(a:J),(T.set a f).set a g=T.set a λ o=>g (f o)
 |.nil,_=>rfl
 |.node v l r,a=>by
  rw[tf,tf v l r a λ o=>g _];by_cases h:a=0
  ·subst h;rw[bC rfl,bC rfl,tf,bC rfl]
  ·rw[a6 h,a6 h]
   by_cases p:a% 2=1
   ·rw[bC p,bC p,tf,a6 h,bC p,wu]
   ·rw[a6 p,a6 p,tf,a6 h,a6 p,wu]
theorem EV:∀(T:BT)(a:J){o:fe},T.get a=B o->f o=g o->T.set a f=T.set a g
 |.nil,_,_,_,_=>rfl
 |.node v l r,a,o,h,e=>by
  rw[BT.get_node]at h;simp[tf,tf];by_cases q:a=0
  ·rw[bC q]at h ⊢;rw[bC q];refine L (ak h) ?_;rw[e]
  ·rw[a6 q]at h ⊢;rw[a6 q]
   by_cases p:a% 2=1
   ·rw[bC p]at h ⊢;rw[bC p,EV l _ h e]
   ·rw[a6 p]at h ⊢;rw[a6 p,EV r _ h e]theorem oy{T:BT}(f:fe->fe)(h:T.get a=B o):(T.set a f).get a=B (f o):=by rw[tl,bC rfl,h];rfl
theorem tN{T:BT}(f:fe->fe)(h:b≠a):(T.set a f).get b=T.get b:=by rw[tl,a6 h]noncomputable def cu(es:H e7)(c3:J):Obj:={cls:=.type "dict",data:=.dict es.toArray c3}
section
variable {w:di}{bd:H bx}{ev:cn}{q0:cP}{α β:Type}{n m:J}{s s1 s2:oi}{q q1 jc:cP}
variable {T:BT}{N k:J}{li:Life}{g:fE zd}{dr:ze}{os:eS}{d:ao}{es:H e7}{c3:J}
theorem aC.entries(h:bE d N=S)(e:T.get d=B (cu es c3)):aC w bd ev q0 1 ⟨T,N,li,g,dr,k,os⟩ q (dictEntries d p) es.toArray ⟨T,N,li,g,dr,k,os⟩ q:=
 aC.bind (m:=0) (aC.load h e rfl) (aC.pure _)
theorem aC.Me(h:bE d N=S)(e:T.get d=B (cu es c3)):aC w bd ev q0 1 ⟨T,N,li,g,dr,k,os⟩ q (dictEpoch d p) c3 ⟨T,N,li,g,dr,k,os⟩ q:=
 aC.bind (m:=0) (aC.load h e rfl) (aC.pure _)
theorem aC.find(Q:bE d N=S)(p:T.get d=B (cu es c3))(o:∀e∈es,e.hash≠h):
  aC w bd ev q0 1 ⟨T,N,li,g,dr,k,os⟩ q (dictFind d (.int i t) h) aa ⟨T,N,li,g,dr,k,os⟩ q:=aC.holding (aC.bind (m:=0) (aC.entries Q p) (L ((show placesWithHash es.toArray.size _ h=[]from by
    dsimp only[placesWithHash];rw[anA];refine λ i u=>L rb ?_;cases e:es[i]? with
    |none=>simp|some x=>simpa using o x (eK e))) (aC.pure _)))
theorem aC.keys(p:aZ 28 d=S)(Q:bE d N=S)(h:T.get d=B (cu es c3))(G:O es<16777216):
  aC w bd ev q0 3 ⟨T,N,li,g,dr,k,os⟩ q (updateDictKeys d (·.push e) P) () ⟨T.set d (λ u=>cu (es++ [e]) (c3+1)),N,li,g,dr,k,os⟩ q:=by
 refine aC.bind (m:=2) (aC.load Q h rfl) (aC.bind (m:=1) (aC.update p Q h rfl) (L (EV T d h (aM (λ x=>(⟨.type "dict",aa,.dict x _, #[]⟩:fe)) (List.push_toArray es e)):T.set d _=T.set d (λ u=>cu _ _)) (aC.bind (m:=0) (aC.load Q (oy _ h) rfl) ?_)));obtain this:(cu (es++ [e]) _).data.pastItsLine=none:=by apply a6;simp;exact ik ‹_›
 exact L this (aC.pure _)theorem Z2{P:di->Prop}(r:b1)(h:∀w b,P (World.withFollow w r b))(w:di):P w:=byRow2 r (λ w=>h w aj) (λ w=>h w S) w
theorem Z3(w:di)(b:aF)(i:ah)(t:Tok)(K:ah->bj Fin)(h:aq->bj Fin)(a8:aF->aF)(l:H aq->H aq):
  m4 jM eA (w.withFollow "special-get-raises" b) 28 jS 1 5 ⟨T,N,li,g,dr,k,os⟩ (nh bd ev q0 ((pyHash (.int i t)).wrap K h a8 l) q)=B (⟨T,N,li,g,dr,k+1,os⟩,nh bd ev q0 ((anB (KO i)).wrap K h a8 l) q):=by
 induction b<;>lk
theorem Z4(i:ah):anB (KO i)=pure (te i):=by obtain h:=rawHash_range i;apply Y (bC (L (gJ h.1) (L (gJ h.2) rfl)));rfl
theorem aC.hash(i:ah)(t:Tok):aC w bd ev q0 5 ⟨T,N,li,g,dr,k,os⟩ q (pyHash (.int i t)) (te i) ⟨T,N,li,g,dr,k+1,os⟩ q:=λ K h a8 l=>by obtain e:=Z2 (P:=λ w=>m4 jM eA w 28 jS 1 5 ⟨T,N,li,g,dr,k,os⟩ _=B _) "special-get-raises" (λ w b=>Z3 w b i t K h a8 l) w;rw[Z4]at e;exact e
theorem aC.set(h:aZ 28 d=S)(Q:bE d N=S)(r:T.get d=B (cu es c3))(o:∀e∈es,e.hash≠te i)(G:O es<16777216):
  aC w bd ev q0 10 ⟨T,N,li,g,dr,k,os⟩ q (dictSet d (.int i t) (.str v EW)) () ⟨T.set d (λ u=>cu (es++ [⟨te i,.int i t,.str v EW⟩]) (c3+1)),N,li,g,dr,k+1,os⟩ q:=aC.holding (aC.bind (m:=5) (aC.hash i t) (aC.holding (aC.bind (m:=4) (aC.find Q r o) (aC.bind (m:=3) (aC.rule _) (aC.keys h Q r G)))))
theorem aC.put(p:aZ 28 d=S)(Q:bE d N=S)(r:T.get d=B (cu es c3))(o:∀e∈es,e.hash≠h)(G:O es<16777216):
  aC w bd ev q0 4 ⟨T,N,li,g,dr,k,os⟩ q (dictPut d h (.int i t) (.str v EW)) () ⟨T.set d (λ u=>cu (es++ [⟨h,.int i t,.str v EW⟩]) (c3+1)),N,li,g,dr,k,os⟩ q:=aC.bind (m:=3) (aC.find Q r o) (aC.keys p Q r G)
end
theorem wt:∀(T:BT)(a:J),T.get a=B o->T.set a (λ u=>o)=T
 |.nil,_,_=>rfl
 |.node v l r,a,h=>by
  rw[BT.get_node]at h;rw[tf];by_cases e:a=0
  ·rw[bC e]at h ⊢;refine L (ak h) ?_;rfl
  ·rw[a6 e]at h ⊢
   by_cases p:a% 2=1
   ·rw[bC p]at h ⊢;rw[wt l _ h]
   ·rw[a6 p]at h ⊢;rw[wt r _ h]
theorem EX(h:0<=i)(W:i<2^60):te i=i:=by
 obtain e:KO i=i:=by unfold KO;simp only[((Int.natAbs_of_nonneg h))];rw[a6 (show¬i<0 by exact Int.not_lt_of_ge h)];rw[(Int.emod_eq_of_lt h (by have:(2^61-1)=2305843009213693951:=rfl;lia))];rw[(show(i== -1)=aj by simp;lia)];rfl
 unfold te;refine L e ?_;rw[(show(i== -1)=aj by simp;lia)];rfl
def asc(lo:ah)(l:H (ah×ai)):Bool:=l.rec (motive:=λ u=>ah->aF) (λ u=>S) (λ q u I lo=>decide (lo<q.1)&&(decide (q.1<2^60)&&I q.1)) lo
def d7(t:J)(l:H (ah×ai)):H DictEntry:=l.rec (motive:=λ u=>J->H e7) (λ u=>[]) (λ q u I t=>⟨q.1,.int q.1 t,.str q.2 (t+1)⟩::I (t+3)) t
noncomputable def k8(lo:ah):H (ah×ai)->ah
 |[]=>lo|(i,_)::r=>k8 i r
theorem jT:∀(t:J)(p:H (ah×ai)),O (d7 t p)=O p
 |_,[]=>rfl|t,(i,s)::r=>aM _ (jT _ r)theorem l6{lo i:ah}(h:asc lo ((i,s)::r)=S):lo<i/\i<2^60/\asc i r=true:=cq (bF.mp h) λ a b=>cq (bF.mp b) λ b c=>⟨iN a,iN b,c⟩def below(es:H e7)(lo:ah):Prop:=∀e∈es,e.hash<=lo
theorem Mf{lo i:ah}(h:below es lo)(t:lo<i):below (es++ [⟨i,k,v⟩]) i:=by
 intro e x;rcases bB.mp x with x|x
 ·exact vQ (anC (h e x) t)
 ·rw[ek]at x;exact L x (DQ _)theorem Mg{lo i:ah}(h:below es lo)(t:lo<i):∀e∈es,e.hash≠i:=λ e x q=>by have:=h e x;lia
noncomputable def Mh(ev:cn)(P:cP)(p:ah×ai)(a b:J×cP):bj aq×bj Value:=(bG (.Constant (.int p.1) a.1 a.2) ev,do let x<-bG (.Constant (.str p.2) b.1 b.2) ev;dZ P;pure x)
class inductive gB(ev:cn)(pos:cP):H (bj aq×bj aq)->H (ah×ai)->Prop
 |nil:gB ev pos [] []
 |cons {p a b ay dh} :gB ev pos ay dh->gB ev pos (Mh ev pos p a b::ay) (p::dh)
section
variable {w:di}{bd:H bx}{ev:cn}{q0:cP}{α β:Type}{n m:J}{s s1 s2:oi}{q q1 jc:cP}
variable {T:BT}{N k:J}{li:Life}{g:fE zd}{dr:ze}{os:eS}{d:ao}{es:H e7}{c3:J}theorem aC.Mi{z p}(e:cn):aC w bd ev q0 1 ⟨T,N,li,g,dr,k,os⟩ q (bG (.Constant (.int i) z p) e) (.int i k) ⟨T,N,li,g,dr,k+1,os⟩ q:=λ K h a8 l=>by simp[Yx];rfl
theorem aC.Mj{z p}(e:cn):aC w bd ev q0 1 ⟨T,N,li,g,dr,k,os⟩ q (bG (.Constant (.str i) z p) e) (.str i k) ⟨T,N,li,g,dr,k+1,os⟩ q:=λ K h a8 l=>by simp[Yx];rfl
theorem EY:∀{lo:ah}{dh:H (ah×ai)},asc lo dh=S->below (d7 t dh) (k8 lo dh)
 |lo,[],_=>λ e x=>by cases x
 |lo,(i,s)::r,h=>by
  refine ff (l6 h) λ W j v=>?_;intro e x;obtain M:∀{lo:ah}{dh:H (ah×ai)},asc lo dh=S->lo<=k8 lo dh:=by intro lo dh;induction dh generalizing lo with|nil=>intro u;exact DQ _|cons p r I=>intro h;exact ff (l6 h) λ a b c=>vQ (Yr a (I c))
  rcases dM.mp x with rfl|x
  ·exact M v
  ·exact EY v e x
theorem aC.long(c:gB ev q ay P):∀{lo:ah}{T:BT}{k:J}{es:H e7}{c3:J},aZ 28 d=S->bE d N=S->T.get d=B (cu es c3)->0<=lo->asc lo P=S->below es lo->O es+O P<16777216->
  aC w bd ev q0 (13*O P) ⟨T,N,li,g,dr,k,os⟩ q (forIn ay kl λ p u=>(do let K<-p.1;let C<-d_ [K] p.2;d_ [K,C] (dictSet d K C);tg (m5 kl):bj (pH zf))) kl
   ⟨T.set d (λ u=>cu (es++d7 k P) (c3+O P)),N,li,g,dr,k+3*O P,os⟩ q:=by
 induction c with
 |nil=>intro lo T k es c3 h Q e _ _ _ _;simp only[show d7 k []=[]from rfl,ea,zg,rd];exact L (wt T d e) (aC.pure _)
 | @cons p a b ay P c I=>
  intro lo T k es c3 h Q e A R r G;refine ff (l6 R) λ W X x=>?_;obtain j:=EX (by lia) X;simp[gy]at G;refine L (k1 ..) (L (gy.symm▸iO .. :13*O _=13+13*O P) (aC.bind (s1:=⟨T.set d (λ u=>cu (es++ [⟨p.1,.int p.1 k,.str p.2 (k+1)⟩]) (c3+1)),N,li,g,dr,k+1+1+1,os⟩) (q1:=q) (a:=.yield kl) ?_ ?_))
  ·refine aC.bind (m:=12) (aC.Mi (z:=a.1) (p:=a.2) ev) (aC.bind (m:=10) (aC.holding (aC.bind (m:=1) (aC.Mj ev) (aC.bind (m:=0) (aC.at q) (aC.pure _)))) ?_)
   obtain this:=aC.set (v:=p.2) h Q e (L j (Mg r W)) (DR G);rw[j]at this;exact aC.bind (m:=0) (aC.holding this) (aC.pure _)
  ·obtain I:=I (k:=k+1+1+1) h Q (oy (λ u=>cu (es++ [⟨p.1,.int p.1 k,.str p.2 (k+1)⟩]) (c3+1)) e) (by lia) x (Mf r W) (by simp;lia)
   rw[wu]at I;simp only[(show es++ [⟨p.1,.int p.1 k,.str p.2 _⟩]++d7 _ P=es++d7 k ((p.1,p.2)::P) by rw[eb];rfl),(gy.symm▸zh c3 _:c3+1+O P=c3+O ((p.1,p.2)::P)),(show k+1+1+1+3*O P=k+3*O ((p.1,p.2)::P) by simp[gy];lia)]at I;exact I
end
section
variable {w:di}{bd:H bx}{ev:cn}{q0:cP}{α β:Type}{n m:J}{s s1 s2:oi}{q q1 jc:cP}
variable {T:BT}{N k:J}{li:Life}{g:fE zd}{dr:ze}{os:eS}{d:ao}{es:H e7}{c3:J}def hv(t:J)(l:H (ah×ai)):H DictEntry:=l.rec (motive:=λ u=>J->H e7) (λ u=>[]) (λ q u I t=>⟨q.1,.int q.1 t,.str q.2 (t+1)⟩::I (t+2)) t
theorem EZ:∀(t:J)(p:H (ah×ai)),O (hv t p)=O p
 |_,[]=>rfl|t,(i,s)::r=>aM _ (EZ _ r)def z3(t:J)(l:H (ah×ai)):H (aq×aq):=l.rec (motive:=λ u=>J->H (aq×aq)) (λ u=>[]) (λ q u I t=>(.int q.1 t,.str q.2 (t+1))::I (t+2)) t
theorem aC.Z5(c:gB ev q ay P):∀{k:J},aC w bd ev q0 (3*O P) ⟨T,N,li,g,dr,k,os⟩ q (Yy ay) (z3 k P) ⟨T,N,li,g,dr,k+2*O P,os⟩ q:=by induction c with|nil=>exact aC.pure _| @cons p a b ay P c i=>intro k;rw[(gy.symm▸iO .. :3*O _=3+3*O P),(show k+2*O _=k+1+1+2*O P by simp[gy];lia)];exact L (show 3+3*O P=1+(2+(3*O P+0)) by lia) (aC.bind (aC.Mi ev) (aC.bind (aC.holding (aC.bind (m:=1) (aC.Mj ev) (aC.bind (m:=0) (aC.at q) (aC.pure _)))) (aC.bind (aC.holding i) (aC.pure _))))
theorem aC.stores:∀{p:H (ah×ai)}{t:J}{lo:ah}{T:BT}{k:J}{es:H e7}{c3:J},aZ 28 d=S->bE d N=S->T.get d=B (cu es c3)->0<=lo->asc lo p=S->below es lo->O es+O p<16777216->
  aC w bd ev q0 (10*O p) ⟨T,N,li,g,dr,k,os⟩ q (forIn (z3 t p) kl λ(x:aq×aq) u=>(do dictSet d x.1 x.2;tg (m5 kl):bj (pH zf))) kl
   ⟨T.set d (λ u=>cu (es++hv t p) (c3+O p)),N,li,g,dr,k+O p,os⟩ q
 |[],t,lo,T,k,es,c3,h,Q,e,_,_,_,_=>by simp only[show hv t []=[]from rfl,ea,zg,rd];exact L (wt T d e) (aC.pure _)|(i,s)::p,t,lo,T,k,es,c3,h,Q,e,y,c,r,G=>by refine ff (l6 c) λ W l v=>?_;obtain j:=EX (by lia) l;simp[gy]at G;rw[show z3 t _=_::z3 _ p from rfl,k1];refine L (gy.symm▸iO .. :10*O _=10+10*O p) (aC.bind (aC.bind (m:=0) (j▸(aC.set h Q e (L j (Mg r W)) (DR G))) (aC.pure _)) ?_);obtain I:=aC.stores (t:=t+2) (k:=k+1) h Q (oy (λ u=>cu (es++ [⟨i,.int i t,.str s (t+1)⟩]) (c3+1)) e) (by lia) v (Mf r W) (by simp;lia);rw[wu]at I;simp only[(show es++ [⟨i,.int i t,.str s _⟩]++hv _ p=es++hv t ((i,s)::p) by rw[eb];rfl),(show c3+1+O p=c3+O ((i,s)::p) by simp[gy];lia),(show k+1+O p=k+O ((i,s)::p) by simp[gy];lia)]at I;exact I
theorem aC.turns{sub:ao} :∀{rest done:H e7}{T:BT}{es:H e7}{c3:J},all=done++rest->(∀e∈all,∃i t s u,e=⟨i,.int i t,.str s u⟩)->sub≠d->aZ 28 d=S->bE d N=S->bE sub N=S->T.get d=B (cu es c3)->T.get sub=B (cu all eps)->
  (∀e∈rest,∀E∈es,E.hash≠e.hash)->rest.Pairwise (λ a b=>a.hash≠b.hash)->O es+O rest<16777216->
  aC w bd ev q0 (6*O rest) ⟨T,N,li,g,dr,k,os⟩ q (forIn (km (O done) (O rest)) kl λ i z=>(do
    let B e:=(<-dictEntries sub)[i]? |unsupported "dict.changed-during-merge"
    d_ [e.key,e.val] do
     dictPut d e.hash e.key e.val
    if (<-dictEpoch sub) !=eps then DS "dict.changed-during-merge"
    tg (m5 kl):bj (pH zf))) kl
   ⟨T.set d (λ z=>cu (es++rest) (c3+O rest)),N,li,g,dr,k,os⟩ q
 |[],done,T,es,c3,_,_,_,p,Q,_,v,_,_,_,_=>by exact L zg (L (ea ..) (L (rd ..) (L (wt T d v) (aC.pure _))))
 |e::rest,done,T,es,c3,c,h,M,p,Q,r,v,j,l,y,G=>by
  refine hx (h e (L c anD)) λ i t s u W=>?_;subst W;simp[gy]at G;refine L gy ?_;rw[Yz,k1,show 6*(O rest+1)=6+6*O rest by lia];refine aC.bind (s1:=⟨T.set d (λ z=>cu (es++ [⟨i,.int i t,.str s u⟩]) (c3+1)),N,li,g,dr,k,os⟩) (q1:=q) (a:=.yield kl) ?_ ?_
  ·refine aC.bind (m:=5) (aC.entries r j) (L (show all.toArray[O done]?=B ⟨i,.int i t,.str s u⟩ by rw[c];simp) ?_)
   dsimp only;exact aC.bind (m:=1) (aC.holding (aC.put p Q v (l _ cV) (by lia))) (aC.bind (m:=0) (aC.Me r (Y (tN _ M) (j))) (L (a6 (by simp)) (aC.pure _)))
  ·rw[List.pairwise_cons]at y
   obtain I:=aC.turns (done:=done++ [⟨i,.int i t,.str s u⟩]) (T:=T.set d (λ z=>cu _ _)) (by rw[c];simp) h M p Q r (oy _ v) (Y (tN _ M) j)
    (λ e o E D=>by
      rcases bB.mp D with q|q
      ·exact l e (c7 _ o) E q
      ·rw[ek]at q;refine L q ?_;exact y.1 e o) y.2 (by simp;lia)
   rw[wu]at I;rw[(show es++ [⟨i,.int i t,.str s u⟩]++rest=es++⟨i,.int i t,.str s u⟩::rest by rw[eb];rfl),(zi ..),(show O (done++ [(⟨i,.int i t,.str s u⟩:e7)])=O done+1 by simp)]at I;exact I
end
section
variable {w:di}{bd:H bx}{ev:cn}{q0:cP}{α β:Type}{n m:J}{s s1 s2:oi}{q q1 jc:cP}
variable {T:BT}{N k:J}{li:Life}{g:fE zd}{dr:ze}{os:eS}{d:ao}{es:H e7}{c3:J}
theorem aC.wx(h:bE d N=S)(e:T.get d=B (cu es c3)):aC w bd ev q0 1 ⟨T,N,li,g,dr,k,os⟩ q (typeOf (.ref d)) (.type "dict") ⟨T,N,li,g,dr,k,os⟩ q:=
 aC.bind (m:=0) (aC.load h e rfl) (aC.pure _)theorem aC.Z6(h:bE d N=S)(e:T.get d=B (cu es c3)):aC w bd ev q0 1 ⟨T,N,li,g,dr,k,os⟩ q (isInstance (.ref d) (.type "dict")) S ⟨T,N,li,g,dr,k,os⟩ q:=aC.bind (m:=0) (aC.wx h e) (aC.pure _)theorem aC.Z7(h:bE d N=S)(e:T.get d=B (cu es c3)):aC w bd ev q0 1 ⟨T,N,li,g,dr,k,os⟩ q (specialOf (.ref d) "__iter__") (B (.builtin "dict.__iter__")) ⟨T,N,li,g,dr,k,os⟩ q:=aC.bind (m:=0) (aC.wx h e) (aC.pure _)
theorem aC.merge{sub:ao}(K:∀e∈all,∃i t s u,e=⟨i,.int i t,.str s u⟩)(M:sub≠d)(p:aZ 28 d=S)(W:(sub==th)=aj)(Q:bE d N=S)(h:bE sub N=S)(r:T.get d=B (cu es c3))(j:T.get sub=B (cu all eps))
  (c:es≠ [])(l:∀e∈all,∀E∈es,E.hash≠e.hash)(v:all.Pairwise (λ a b=>a.hash≠b.hash))(G:O es+O all<16777216):
  aC w bd ev q0 (5+6*O all) ⟨T,N,li,g,dr,k,os⟩ q (mergeMapping d (.ref sub) aj) () ⟨T.set d (λ z=>cu (es++all) (c3+O all)),N,li,g,dr,k,os⟩ q:=by
 refine L (show 5+6*O all=2+(1+(1+(1+(6*O all+0)))) by lia) (L (show 2+(1+(1+(1+(6*O all+0))))=1+(1+(0+(1+(1+(1+(6*O all+0)))))) by lia) (aC.bind (aC.Z6 h j) (aC.bind (aC.Z7 h j) (aC.bind (aC.pure _) ?_))));have x:(B (Value.builtin "dict.__iter__")==B (Value.builtin "dict.__iter__"))=true:=rfl;refine L x ?_;dsimp only;refine L (a6 (W.symm▸hN)) (aC.bind (aC.entries Q r) (L (show es.toArray.isEmpty=aj by cases es with|nil=>exact aR rfl c|cons=>rfl) (aC.bind (aC.entries h j) (aC.bind (aC.Me h j) (aC.bind ((aC.turns (done:=[]) rfl K M p Q h r j l v G).of_eq (L anE ?_)) (aC.pure _))))));rfl
theorem aC.newD(h:((T.ins N (cu [] 0)).get N).isSome=S):aC w bd ev q0 1 ⟨T,N,li,g,dr,k,os⟩ q (PySem.alloc {cls:=.type "dict",data:=.dict #[] }) N ⟨T.ins N (cu [] 0),N+1,li,g,dr,k,os⟩ q:=aC.alloc h
theorem wy(h:((T.ins N o).get N).isSome=S):(T.ins N o).get N=B o:=by rw[BT.get_ins o T N h,bC rfl]theorem z4{a:ao}(e:((T.ins N o).get N).isSome=S)(h:a≠N):(T.ins N o).get a=T.get a:=by rw[BT.get_ins o T N e,a6 h]theorem gB.length(c:gB ev q ay dh):O ay=O dh:=by induction c with|nil=>rfl|cons _ i=>exact zj.mpr i
theorem aC.Mk{lo:ah}(c:gB ev q ay p)(z:¬O p<=15)(h:aZ 28 N=S)(r:((T.ins N (cu [] 0)).get N).isSome=S)(t:0<=lo)(f:asc lo p=S)(G:O p<16777216):
  aC w bd ev q0 (2+13*O p) ⟨T,N,li,g,dr,k,os⟩ q (KP ay) N ⟨(T.ins N (cu [] 0)).set N (λ u=>cu (d7 k p) (O p)),N+1,li,g,dr,k+3*O p,os⟩ q:=L (show 2+13*O p=1+((1+(13*O p+0))+0) by lia) (aC.bind (aC.newD r) (aC.bind (aC.holding (L (a6 (c.length.symm▸z)) (aC.bind (aC.rule _) (aC.bind ((hO ..)▸(aC.long c h (L cg (bH _)) (wy r) t f (λ e x=>by cases x) (anF G))) (aC.pure _))))) (aC.pure _)))
theorem aC.Z8{lo:ah}(c:gB ev q ay p)(z:O p<=15)(h:aZ 28 N=S)(r:((T.ins N (cu [] 0)).get N).isSome=S)(t:0<=lo)(f:asc lo p=S)(G:O p<16777216):
  aC w bd ev q0 (1+13*O p) ⟨T,N,li,g,dr,k,os⟩ q (KP ay) N ⟨(T.ins N (cu [] 0)).set N (λ u=>cu (hv k p) (O p)),N+1,li,g,dr,k+3*O p,os⟩ q:=by
 refine L (show 1+13*O p=1+((3*O p+(10*O p+0))+0) by lia) (aC.bind (aC.newD r) (aC.bind (a:=()) (aC.holding (L (bC (L c.length z)) (aC.bind (aC.Z5 c) (aC.holding ?_)))) (aC.pure _)));obtain this:=aC.stores h (L cg (anG N)) (wy r) t f (λ e x=>by cases x) (anF G);simp only[hO]at this;exact aC.bind ((show k+2*O p+O p=k+3*O p by lia)▸this) (aC.pure _)
end
abbrev kz:=H (bj aq×bj aq)abbrev Ml:=(U (bj aq)×bj aq)->(U ao×kz)->bj (pH (U ao×kz))noncomputable def e9(ay:kz):H (U (bj aq)×bj aq):=ay.map λ p=>(B p.1,p.2)
structure rz(f:Ml)(F:kz->U ao->bj (U ao)):Prop where
 more:∀p main run,run.length+1<17->f (B p.1,p.2) (main,run)=pure (.yield (main,run++ [p]))
 full:∀p main run,run.length+1=17->f (B p.1,p.2) (main,run)=(F (run++ [p]) main>>=λ m=>pure (.yield (m,[])))
 Z9:∀run,run≠ []->F run aa=(KP run>>=λ a=>pure (B a))
 Mm:∀run d,run≠ []->∃fq:aq->bj gL,F run (B d)=(d_ [.ref d] (KP run)>>=λ sub=>(d_ [.ref d,.ref sub] (mergeMapping d (.ref sub) aj)).onRaise fq>>=λ u=>pure (B d))
theorem rz.gather{F}(h:rz f F)(m:U ao):∀(ay run:kz)(rest:H (U (bj aq)×bj aq)),O run+O ay<17->forIn (e9 ay++rest) (m,run) f=forIn rest (m,run++ay) f
 |[],run,rest,_=>by simp[e9]|p::ay,run,rest,z=>by show forIn ((B p.1,p.2)::(e9 ay++rest)) _ _=_;rw[k1,h.more p m run (by simp at z;lia),pure_bind];simpa using (h.gather m ay (run++ [p]) rest (by simp at z ⊢;lia))
theorem rz.chunk{F}(h:rz f F)(M:U ao)(ay:kz)(rest:H (U (bj aq)×bj aq))(z:O ay=17):forIn (e9 ay++rest) (M,[]) f=(F ay M>>=λ m=>forIn rest (m,[]) f):=by
 obtain e:ay=ay.take 16++ [ay[16]'(by lia)]:=by
  conv=>lhs;rw[<-ti 16 ay]
  rw[KQ _,anH (fV z)]
 obtain l:O (ay.take 16)=16:=by simp;lia
 obtain E:e9 ay++rest=e9 (ay.take 16)++(B (ay[16]'(by lia)).1,(ay[16]'(by lia)).2)::rest:=by
  conv=>lhs;rw[e]
  unfold e9;rw[vR,eb];rfl
 rw[E,h.gather M _ [] _ (by rw[l];decide),k1,List.nil_append,h.full _ M _ (zj.mpr l),<-e,bind_assoc];rfl
class inductive tO(ev:cn)(q:cP):H kz->H (H (ah×ai))->Prop
 |nil:tO ev q [] []
 |cons {ay c Mn cs} :gB ev q ay c->tO ev q Mn cs->tO ev q (ay::Mn) (c::cs)def Mo(d:ao)(T:BT)(N k:J)(es:H e7)(c:H (ah×ai)):BT:=((T.ins N (cu [] 0)).set N (λ u=>cu (d7 k c) (O c))).set d (λ u=>cu (es++d7 k c) (O es+O c))def E0(d:ao)(T:BT)(N k:J)(es:H e7)(cs:H (H (ah×ai))):BT:=cs.rec (motive:=λ u=>BT->J->J->H e7->BT) (λ T u u u=>T) (λ c u R T N k es=>R (Mo d T N k es c) (N+1) (k+3*O c) (es++d7 k c)) T N k es
def E1(d:ao)(T:BT)(N k:J)(es:H e7)(cs:H (H (ah×ai))):Bool:=cs.rec (motive:=λ u=>BT->J->J->H e7->aF) (λ u u u u=>S) (λ c u R T N k es=>((T.ins N (cu [] 0)).get N).isSome&&R (Mo d T N k es c) (N+1) (k+3*O c) (es++d7 k c)) T N k es
def jU(bS:J)(cG:H (H (ah×ai))):H DictEntry:=cG.rec (motive:=λ u=>J->H e7) (λ u=>[]) (λ c cs dF k=>d7 k c++dF (k+3*O c)) bS
theorem Mp:∀(t:J)(p:H (ah×ai)),∀e∈d7 t p,∃i t s u,e=⟨i,.int i t,.str s u⟩
 |_,[],e,h=>by cases h
 |t,(i,s)::r,e,h=>by
  rcases dM.mp h with rfl|h
  ·exact(hV _ _ _ _ rfl)
  ·exact Mp _ r e h
theorem Mq:∀{lo:ah}{P:H (ah×ai)},asc lo P=S->∀e∈d7 t P,lo<e.hash:=by
 intro lo P;induction P generalizing lo t with
 |nil=>intro u e x;cases x
 |cons p r i=>
  refine λ h e x=>ff (l6 h) λ W u v=>?_;rcases dM.mp x with rfl|x
  ·exact W
  ·exact Int.lt_trans W (i v e x)theorem Z_:∀{lo:ah}{P:H (ah×ai)},asc lo P=S->(d7 t P).Pairwise (λ a b=>a.hash≠b.hash):=by intro lo P;induction P generalizing lo t with|nil=>intro u;exact .nil|cons p r i=>exact λ h=>ff (l6 h) λ W u v=>(.cons (λ e x=>by have:=Mq v e x;exact Int.ne_of_lt this) (i v))theorem z5:∀{lo:ah},asc lo (P++q)=S->asc lo P=S/\asc (k8 lo P) q=true:=by induction P with|nil=>intro lo h;exact⟨rfl,h⟩|cons p r i=>intro lo h;refine ff (l6 h) λ W j v=>?_;obtain⟨a,b⟩:=i v;refine⟨?_,b⟩;show(decide _&&(decide _&&asc p.1 r))=S;simp only[gJ W,gJ j,a];rfl
theorem z6:∀{lo:ah},asc lo dh=S->lo<=k8 lo dh:=by induction dh with|nil=>intro lo u;exact DQ _|cons p r i=>intro lo h;exact ff (l6 h) λ a b c=>vQ (Yr a (i c))
theorem Mr{lo:ah}(h:below es lo)(c:asc lo p=S):below (es++d7 t p) (k8 lo p):=by
 intro e x;rcases bB.mp x with x|x
 ·exact zk (h e x) (z6 c)
 ·exact EY c e x
theorem aC.chunk{os:eS}{F}(h:rz f F){lo:ah}(c:gB ev q ay p)(z:O p=17)(r:aZ 28 d=S)(Q:bE d N=S)(t:T.get d=B (cu es (O es)))
  (s:((T.ins N (cu [] 0)).get N).isSome=S)(v:0<=lo)(i:asc lo p=S)(x:below es lo)(j:es≠ [])(G:O es+O p<16777216):
  aC w bd ev q0 330 ⟨T,N,li,g,dr,k,os⟩ q (F ay (B d)) (B d) ⟨((T.ins N (cu [] 0)).set N (λ u=>cu (d7 k p) (O p))).set d (λ u=>cu (es++d7 k p) (O es+O p)),N+1,li,g,dr,k+3*O p,os⟩ q:=by
 obtain M:ay≠ []:=by intro e;have:=c.length;rw[e,z]at this;exact aR this (by decide)
 refine a7 (h.Mm ay d M) λ n E=>L E ?_;obtain y:=by rw[cg]at Q;exact Q
 obtain V:=il y;obtain W:=b8 r;obtain X:((T.ins N _).set N (λ u=>cu _ 17)).get d=B _:=by rw[tN _ V,z4 s V];exact t
 obtain m:=aC.merge (Mp k p) (rf V) r (by rw[DT];unfold th;lia) (L cg (kn ‹_›)) (L cg (anG N)) X (oy _ (wy s)) j
  (λ e a l D=>by have:=Mq i e a;have:=x l D;lia) (Z_ i) (by rw[jT];assumption)
 rw[jT,z]at m;exact L z (L (show 330=(2+13*17)+((5+6*17)+0)from rfl) (aC.bind (aC.holding (z▸(aC.Mk c (by lia) (dD (by lia)) s v i (Nat.lt_of_add_left_lt G)))) (aC.bind (aC.onRaise (aC.holding m)) (aC.pure _))))
theorem aC.aaa{os:eS}{F}(h:rz f F){cs:H (H (ah×ai))}(c:tO ev q t cs):∀{lo:ah}{T:BT}{N k:J}{es:H e7},
  (∀c∈cs,O c=17)->aZ 28 d=S->bE d N=S->T.get d=B (cu es (O es))->E1 d T N k es cs=S->0<=lo->asc lo cs.flatten=S->below es lo->es≠ []->O es+17*O cs<16777216->
  aC w bd ev q0 n ⟨E0 d T N k es cs,N+O cs,li,g,dr,k+51*O cs,os⟩ q (forIn rest (B d,[]) f) r s' q->
  aC w bd ev q0 (330*O cs+n) ⟨T,N,li,g,dr,k,os⟩ q (forIn ((t.map e9).flatten++rest) (B d,[]) f) r s' q:=by
 induction c with
 |nil=>intro lo T N k es _ _ _ _ _ _ _ _ _ _ E;rw[zg,hO];exact E
 | @cons ay c t cs A K I=>
  intro lo T N k es z e Q s p v m b i G E;obtain j:=z c cV;obtain y:=by rw[cg]at Q;exact Q
  obtain V:=il y;obtain⟨l,p⟩:=bF.mp p;obtain⟨a,o⟩:=z5 m;simp[gy]at G;obtain I:=I (T:=((T.ins N _).set N _).set d _) (λ x M=>z x (c7 _ M)) e (by rw[cg];lia)
   (by rw[oy _ (L (tN _ V) (L (z4 l V) s))];simp[jT]) p (zk v (z6 a)) o (Mr b a) (by simp[i]) (by simp[jT];lia)
   (by
     rw[(show N+1+O cs=N+O (c::cs) by simp[gy];lia),(show k+3*O c+51*O cs=k+51*O (c::cs) by simp[gy];lia)];exact E)
  exact L (show((ay::t).map e9).flatten++rest=e9 ay++((t.map e9).flatten++rest) by simp) (L (h.chunk _ ay _ (A.length.trans j)) (L (show 330*O (c::cs)+n=330+(330*O cs+n) by rw[gy];lia) (aC.bind (aC.chunk h A j e Q s l v a b i (by lia)) I)))abbrev wz(T:BT)(N k:J)(c:H (ah×ai)):BT:=(T.ins N (cu [] 0)).set N (λ u=>cu (d7 k c) (O c))abbrev pU(T:BT)(N k:J)(c:H (ah×ai))(cs:H (H (ah×ai))):BT:=E0 N (wz T N k c) (N+1) (k+51) (d7 k c) cs
def rA(T:BT)(N k:J)(c cl:H (ah×ai))(cs:H (H (ah×ai))):BT:=
 ((pU T N k c cs).ins (N+1+O cs) (cu [] 0)).set (N+1+O cs) (λ u=>cu (hv (k+51+51*O cs) cl) (O cl))|>.set N
   (λ u=>cu (d7 k c++jU (k+51) cs++hv (k+51+51*O cs) cl) (O c+17*O cs+O cl))
def aab(T:BT)(N k:J)(c:H (ah×ai))(cs:H (H (ah×ai))):Bool:=
 ((T.ins N (cu [] 0)).get N).isSome&&(E1 N (wz T N k c) (N+1) (k+51) (d7 k c) cs&&
   (((pU T N k c cs).ins (N+1+O cs) (cu [] 0)).get (N+1+O cs)).isSome)
theorem Ms:∀{cs:H (H (ah×ai))}{T:BT}{N k:J}{es:H e7},(∀c∈cs,O c=17)->@LT.lt J instLTNat d N->T.get d=B (cu es (O es))->E1 d T N k es cs=S->
  (E0 d T N k es cs).get d=B (cu (es++jU k cs) (O es+17*O cs))
 |[],T,N,k,es,_,_,h,_=>L (ea es) h
 |c::cs,T,N,k,es,z,Q,h,e=>by
  obtain⟨s,e⟩:=bF.mp e;obtain V:=il Q;obtain this:=Ms (T:=((T.ins N _).set N _).set d _) (λ x K=>z x (c7 _ K)) (kn Q)
   (by rw[oy _ (L (tN _ V) (L (z4 s V) h))];simp[jT]) e
  apply Y this;simp only[(show es++d7 k c++jU _ cs=es++jU k (c::cs) by rw[eb];rfl),(show O (es++d7 k c)+17*O cs=O es+17*O (c::cs) by simp[jT,(z c cV)];exact zi ..)]
theorem Mt:∀{cs:H (H (ah×ai))}{k:J}{lo:ah}{es:H e7},asc lo cs.flatten=S->below es lo->below (es++jU k cs) (k8 lo cs.flatten)
 |[],k,lo,es,_,h=>L (ea es) h
 |c::cs,k,lo,es,f,h=>by
  obtain⟨a,A⟩:=z5 f;obtain this:=Mt A (Mr h a);obtain e:es++d7 k c++jU (k+3*O c) cs=es++jU k (c::cs):=L (eb ..) rfl;obtain E:k8 (k8 lo c) cs.flatten=k8 lo (c++cs.flatten):=by clear this e f h a A;induction c generalizing lo with|nil=>rfl|cons p r i=>exact i _
  rw[e,E]at this;exact this
theorem Mu:∀{cs:H (H (ah×ai))}{k:J},(∀c∈cs,O c=17)->O (jU k cs)=17*O cs
 |[],_,_=>rfl|c::cs,k,h=>by refine(?_:O (d7 k c++jU _ cs)=_);rw[e2,jT,Mu (λ x K=>h x (c7 _ K)),h c cV];exact iO ..
theorem Mv:∀(t:J)(p:H (ah×ai)),∀e∈hv t p,∃i t s u,e=⟨i,.int i t,.str s u⟩
 |_,[],e,h=>by cases h
 |t,(i,s)::r,e,h=>by
  rcases dM.mp h with rfl|h
  ·exact(hV _ _ _ _ rfl)
  ·exact Mv _ r e h
theorem Mw:∀{lo:ah}{P:H (ah×ai)},asc lo P=S->∀e∈hv t P,lo<e.hash:=by
 intro lo P;induction P generalizing lo t with
 |nil=>intro u e x;cases x
 |cons p r i=>
  refine λ h e x=>ff (l6 h) λ W u v=>?_;rcases dM.mp x with rfl|x
  ·exact W
  ·exact Int.lt_trans W (i v e x)theorem aac:∀{lo:ah}{P:H (ah×ai)},asc lo P=S->(hv t P).Pairwise (λ a b=>a.hash≠b.hash):=by intro lo P;induction P generalizing lo t with|nil=>intro u;exact .nil|cons p r i=>exact λ h=>ff (l6 h) λ W u v=>(.cons (λ e x=>by have:=Mw v e x;exact Int.ne_of_lt this) (i v))
section
variable {w:di}{bd:H bx}{ev:cn}{q0:cP}{q:cP}{li:Life}{g:fE zd}{dr:ze}{os:eS}{d:ao}
theorem aC.display(x:gB ev q i C)(c5:tO ev q t cs)(j:gB ev q o cl)(l:O C=17)(K:∀c∈cs,O c=17)(E:O cl=4)(apq:O cs<1000)
  (v:aZ 28 N=S)(hy:asc 0 (C++(cs.flatten++cl))=S)(ok:aab T N k C cs=S):
  aC w bd ev q0 (223+(330*O cs+82)) ⟨T,N,li,g,dr,k,os⟩ q (YA (e9 i++((t.map e9).flatten++e9 o))) (.ref N) ⟨rA T N k C cl cs,N+O cs+2,li,g,dr,k+51+51*O cs+12,os⟩ q:=by
 refine cq (bF.mp ok) λ fs ok=>?_;obtain⟨gC,y⟩:=bF.mp ok;obtain⟨a0,A⟩:=z5 hy;obtain⟨Q,R⟩:=z5 A;have apr:=b8 v;have z:=z6 a0;have V:∀(f:Ml) F,rz f F->aC w bd ev q0 (223+(330*O cs+82)) ⟨T,N,li,g,dr,k,os⟩ q
   (forIn (e9 i++((t.map e9).flatten++e9 o)) (aa,([])) f>>=λ s=>F s.2 s.1>>=λ r=>match r with|some d=>tg (hP d)|none=>newDict) (.ref N) ⟨rA T N k C cl cs,N+O cs+2,li,g,dr,k+51+51*O cs+12,os⟩ q:=by
  intro f F h;rw[h.chunk aa i _ (L x.length (L l rfl)),h.Z9 i (by intro e;have:=x.length;rw[e,l]at this;cases this)];have s1:=aC.Mk (w:=w) (bd:=bd) (q0:=q0) (li:=li) (g:=g) (dr:=dr) (os:=os) (k:=k) (lo:=0) x (by lia) v fs (DQ _) a0 (by lia);rw[l]at s1;have Mx:(wz T N k C).get N=B (cu _ (O (d7 k C))):=L (oy _ (wy fs)) (L (jT ..) rfl);have I:below (d7 k C) _:=EY a0;have G:N≠N+1+O cs:=by lia
  have g1:(((pU T N k C cs).ins (N+1+O cs) (cu [] 0)).set (N+1+cs.length) (λ u=>cu (hv (k+51+51*cs.length) cl) cl.length)).get N=B (cu (d7 k C++jU (k+51) cs) ((d7 k C).length+17*cs.length)):=by rw[tN _ G,z4 y G];exact(Ms (d:=N) (cs:=cs) (N:=N+1) (k:=k+51) K (ko N) Mx gC)
  have g2:(((pU T N k C cs).ins _ _).set _ (λ u=>cu _ cl.length)).get _=B (cu (hv (k+51+51*cs.length) cl) cl.length):=
   oy _ (wy y)
  have X:=aC.merge (w:=w) (bd:=bd) (ev:=ev) (q0:=q0) (q:=q) (li:=li) (g:=g) (dr:=dr) (os:=os) (k:=k+51+51*cs.length+3*cl.length) (N:=N+1+cs.length+1) (d:=N) (sub:=N+1+cs.length) (all:=hv _ cl) (eps:=cl.length) (Mv _ cl) (rf G) v (by rw[DT];unfold th;lia) (by rw[cg];lia) (by rw[cg];lia) g1 g2
   (by intro e;have:=aM O e;simp[jT,l]at this) (λ e he oz he'=>by have:=Mw R e he;have:=Mt (k:=k+51) Q I oz he';lia) (aac R) (by
     have:=Mu (k:=k+51) K;rw[e2,jT,EZ,this];lia)
  rw[EZ,jT,l]at X;obtain⟨fq,aad⟩:=h.Mm o N (by intro e;have:=j.length;rw[e,E]at this;cases this);have fin:aC w bd ev q0 82 ⟨pU T N k C cs,N+1+cs.length,li,g,dr,k+51+51*cs.length,os⟩ q (F o (B N)) (B N) ⟨rA T N k C cl cs,N+cs.length+2,li,g,dr,k+51+51*cs.length+12,os⟩ q:=by
   refine L aad (L (L (E ..) rfl:82=(1+13*cl.length)+((5+6*cl.length)+0)) (aC.bind (aC.holding (aC.Z8 (w:=w) (bd:=bd) (ev:=ev) (q0:=q0) (q:=q) (li:=li) (g:=g) (dr:=dr) (os:=os) (k:=k+51+51*cs.length) (T:=pU T N k C cs) (N:=N+1+cs.length) (lo:=k8 _ cs.flatten) j (by lia) (dD (by lia)) y (zk z (z6 Q)) R (by lia))) (aC.bind (s1:=⟨rA T N k C cl cs,N+cs.length+2,li,g,dr,k+51+51*cs.length+12,os⟩) (q1:=q) (a:=()) (aC.onRaise (aC.holding ?_)) (aC.pure _))));have iw:N+1+cs.length+1=N+cs.length+2:=by lia
   have k9:3*cl.length=12:=L (E ..) rfl;rw[iw,k9]at X;rw[k9,iw,(show rA T N k C cl cs=(((pU T N k C cs).ins _ _).set _ _).set N _ by unfold rA;rw[l])];exact L l X
  have ch:=aC.aaa (w:=w) (bd:=bd) (ev:=ev) (q0:=q0) (q:=q) (li:=li) (g:=g) (dr:=dr) (os:=os) (d:=N) h (lo:=k8 0 C) (T:=wz T N k C) (N:=N+1) (k:=k+51) (es:=d7 k C) (rest:=e9 o) (n:=0) (r:=(B N,o)) (s':=⟨pU T N k C cs,N+1+cs.length,li,g,dr,k+51+51*cs.length,os⟩)
   c5 K v (L cg (ko N)) Mx gC z Q I (by intro e;have:=aM O e;rw[jT,l]at this;cases this) (by rw[jT];lia) (by
    have e:=h.gather (B N) o [] [] (by rw[j.length,E];decide);rw[ea]at e;refine L e ?_;exact aC.pure _)
  rw[bind_assoc,bind_assoc];simp only[pure_bind];refine L (show 223+(330*cs.length+82)=(2+13*17)+((330*cs.length+0)+(82+0)) by lia) ?_;rw[show wz T N k C=(T.ins N (cu [] 0)).set N (λ u=>cu (d7 k C) 17)from ax l rfl]at ch;refine aC.bind s1 (aC.bind ch (aC.bind fin (aC.pure _)))
 unfold YA
 extract_lets D
 refine V _ D ⟨?_,?_,?_,?_⟩
 ·intro p m run cL
  have M:((run++ [(p.1,p.2)]).length==17)=false:=by simp;lia
  dsimp only;rw[M];rfl
 ·intro p m run cL
  have M:((run++ [(p.1,p.2)]).length==17)=true:=by simp;lia
  dsimp only;rw[M];rfl
 ·intro run d1
  have:run.isEmpty=false:=by cases run with|nil=>exact aR rfl d1|cons=>rfl
  dsimp only[D];rw[this];rfl
 ·intro run d d1
  have:run.isEmpty=false:=by cases run with|nil=>exact aR rfl d1|cons=>rfl
  dsimp only[D];rw[this];exact⟨_,rfl⟩
end
noncomputable def jf:Life:={}def z9(s:bx):Arguments:=(jg s).z_
def Fd(st:bx)(q:ai)(g:ao)(C:H (ai×ao))(d k D m:aq)(a:U ao)(c ct:aq)(b:ao):FuncData:=⟨MQ st,q,z9 st,.stmts (bP st),bz st,g,C,d,k,D,m,a,c,ct,b⟩noncomputable def ef(s:b1)(t:J):Value:=.str (ep s) t
def mb(P:dj)(e:b1×J×aq):DictEntry:=⟨PyData.keyHash P (ep e.1),ef e.1 e.2.1,e.2.2⟩def la(P:dj)(es:H (b1×J×aq))(n:J):Obj:=⟨.type "dict",aa,.dict (es.map (mb P)).toArray n, #[]⟩def oE(P:dj)(o:fe)(u:H (J×aq))(es:H (b1×J×aq))(n:J):Obj:=match o.data with|.dict a _=>⟨.type "dict",aa,.dict (u.foldl (λ l q=>(l.modify q.1 λ e=>⟨e.hash,e.key,q.2⟩)) a.toList++es.map (mb P)).toArray n, #[]⟩|_=>o
def aaS(bS:J)(cG:H (b1×Manifest.BuiltinName)):H (b1×J×aq):=cG.rec (motive:=λ u=>J->H (b1×J×aq)) (λ u=>[]) (λ e l dF t=>(e.1,t,builtinAtStartup e.1 e.2)::dF (t+1)) bS
def Fg(p s:b1)(bS:J)(cG:H b1):H (b1×J×aq):=cG.rec (motive:=λ u=>J->H (b1×J×aq)) (λ u=>[]) (λ n l dF t=>(n,t,.builtin (p++n++s))::dF (t+1)) bS
noncomputable def MR(t:J):H b1->H aq
 |[]=>[]|s::l=>ef s t::MR (t+1) l
noncomputable def rE(vs:H aq):Obj:=⟨.type "tuple",aa,.seq vs.toArray 0, #[]⟩def ay(t:J)(l:H b1):Obj:=rE (MR t l)noncomputable def Fh:Obj:=⟨.none,aa,.fields #[], #[]⟩noncomputable def iS(l:H (J×J×J)):Obj:=⟨.none,aa,.fields (l.flatMap λ q=>[.int q.1 0,.int q.2.1 0,.ref q.2.2]).toArray, #[]⟩def co(nm:ai)(q:b1)(t l ac k f r:J)(b:aF)(z:J)(xs:H aq)(u:J):Obj:=⟨.type "code",aa,.fields ([.str nm t,ef q (t+1),ef "/claim/cut.py" (t+2),.int l 0,.int ac 0,.int 0 0,.int k 0,.int f 0,.ref r,.bool b,.int z 0,.ref (r+1)]++xs++ [.int u 0,.int l 0,ef "/claim/cut.py" (u+1)]).toArray, #[]⟩
structure jh where
 s:bx
 a:J
 t:J
 n:b1
 q:b1
 d:aF
 x:H b1
 y:H b1
noncomputable def Aa(i:jh):Nat:=bif i.x.isEmpty then i.a+2 else i.a+4
noncomputable def Fi(i:jh):Nat:=i.t+3+O i.x+O i.y
def rF(f:J->bx)(p:b1)(k a t:J)(l:H (b1×aF×H b1×H b1)):H jh:=l.rec (motive:=λ u=>J->J->J->H jh) (λ u u u=>[]) (λ q u I k a t=>let i:jh:=⟨f k,bif q.2.1 then a+1 else a,t,q.1,p++q.1,q.2.1,q.2.2.1,q.2.2.2⟩;i::I (k+1) (Aa i+3) (Fi i+3)) k a t
def aaT(i:jh):Obj:=co (MQ i.s) i.q i.t (jg i.s).p.line (z9 i.s).args.length (z9 i.s).kwonlyargs.length ((z9 i.s).kwarg.elim 3 λ u=>11) i.a S 276 (bif i.x.isEmpty then [.none,.none,.none,.ref (i.a+2)]else [.none,.ref (i.a+2),.ref (i.a+3),.ref (i.a+4)]) (Fi i)def rG(m:b1)(mt:J)(i:jh):H Obj:=(bif i.d then [rE [.none]]else [])++ [ay 0 [],Fh]++(bif i.x.isEmpty then []else [ay (i.t+3) i.x,ay (i.t+3+O i.x) i.y])++ [⟨.none,aa,.func (Fd i.s i.q 0 [] .none .none .none .none aa .none .none 0), #[]⟩,aaT i,⟨.type "function",aa,.func (Fd i.s i.q 3 [] (bif i.d then .ref (i.a-1)else .none) .none .none (ef m mt) aa (.ref (Aa i+1)) .none 0), #[]⟩]def tV(i:jh):b1×J×Value:=(i.n,Fi i+2,.ref (Aa i+2))def pZ(i:jh):J×J×Nat:=((jg i.s).p.line,(jg i.s).p.col,Aa i+1)
noncomputable def rH:J->H J->H aq
 |_,[]=>[]|t,n::l=>.int n t::rH (t+1) l
noncomputable def li(l:H aq)(n:J):Obj:=⟨.type "list",aa,.seq l.toArray n, #[]⟩def zs(l:H J):Obj:=rE (l.map λ(n:J)=>.int n 0)noncomputable def b2(o:fe):Value:=match o.data with|.dict a _=>Builtin.packed (Builtin.flatEntries a)|_=>.none
noncomputable def mc(n:J):H fe->BT->BT
 |[],T=>T|o::l,T=>mc (n+1) l (T.ins n o)
noncomputable def nq:H (J×fe)->BT->BT
 |[],T=>T|q::l,T=>nq l (T.set q.1 λ u=>q.2)noncomputable def oF{α:Type}(bS:J)(cG:H α):H (H α):=bS.rec (motive:=λ u=>H α->H (H α)) (λ u=>[]) (λ m dF l=>l.take 17::dF (l.drop 17)) cG
def pX:H (ah×ai):=rC.take 17
def l_:H (H (ah×ai)):=oF 37 (rC.drop 17)def oD:H (ah×ai):=(rC.drop 17).drop (17*37)def MS(P:dj):Obj:=la P ([("__name__",165,ef "__main__" 164),("__doc__",166,.none),("__package__",167,.none),("__loader__",168,.builtin "__main__.__loader__#opaque"),("__spec__",169,.none),("__annotations__",170,.ref 6),("__builtins__",171,.ref 4),("__file__",173,ef "/claim/cut.py" 172),("__cached__",174,.none),("_sre",275,.ref 12)]) 10
noncomputable def Fj(P:dj):Obj:=⟨.type "module",(B 0),.plain, #[]⟩def Fk(P:dj):Obj:=la P ([("__name__",247,ef "_sre" 246),("__doc__",248,.none),("__package__",250,ef "" 249),("__loader__",251,.ref 14),("__spec__",252,.ref 26)]++Fg "_sre." "" 253 ["compile","template","getcodesize","ascii_iscased","unicode_iscased","ascii_tolower","unicode_tolower"]++ [("MAGIC",261,.int 20230612 260),("CODESIZE",263,.int 4 262),("MAXREPEAT",265,.int 4294967295 264),("MAXGROUPS",267,.int 1073741823 266),("copyright",269,ef " SRE 2.2.2 Copyright (c) 1997-2002 by Secret Labs AB " 268)]) 17
def MT(P:dj):Obj:=la P ([("__module__",189,ef "_frozen_importlib" 186),("__firstlineno__",190,.int 971 187),("__doc__",191,.builtin "_frozen_importlib.BuiltinImporter.__doc__:str#opaque"),("_ORIGIN",192,ef "built-in" 188)]++Fg "_frozen_importlib.BuiltinImporter." "#opaque" 193 ["find_spec","create_module","exec_module","get_code","get_source","is_package","load_module"]++ [("__static_attributes__",200,.ref 15),("__dict__",202,.ref 16),("__weakref__",204,.ref 17)]) 14
def MU(P:dj):Obj:=la P ([("__module__",227,ef "_frozen_importlib" 217),("__firstlineno__",228,.int 562 218),("__doc__",229,.builtin "_frozen_importlib.ModuleSpec.__doc__:str#opaque")]++Fg "_frozen_importlib.ModuleSpec." "#opaque" 230 ["__init__","__repr__","__eq__","cached","parent","has_location"]++ [("__static_attributes__",236,.ref 23),("__dict__",238,.ref 24),("__weakref__",240,.ref 25),("__hash__",241,.none)]) 13
def tW(s:b1)(t r:J)(x y:aq):Obj:=⟨.type "getset_descriptor",aa,.fields #[ef s t,.ref r,x,y], #[]⟩def MV(P:dj):BT:=mc 0 [la P (("__name__",1,ef "builtins" 160)::(aaS 1 Manifest.builtinsNames).tail) 159,la P ([("builtins",162,.ref 4),("__main__",163,.ref 5),("_sre",244,.ref 12)]) 3,⟨.none,aa,(.dict #[mb P ("\x69mport.loaded._sre",183,(.bool S)),mb P ("class._frozen_importlib.BuiltinImporter",185,(.ref 14)),mb P ("watched.\x69mport",206,(.ref 18)),mb P ("class._frozen_importlib.ModuleSpec",216,(.ref 22)),mb P ("sys.modules.booked-epoch",245,(.int 3 0)),mb P ("\x69mport.later-laid._sre",270,(.bool S)),mb P ("watched.library",272,(.ref 27)),mb P ("watched.library-objects",0,(ef "\x0c" 0)),mb P ("watched.library-deep._sre",273,(ef "\x04\x00\x00\x0b\x04\x00\x00\x0b\x04\x00\x00\x03\x04\x00\x00\x0b\x08\x04dict\x02" 0))] 9), #[]⟩,MS P,Fj P,⟨.type "module",(B 3),.plain, #[]⟩,la P [] 0,ay 0 [],Fh,co "<module>" "<module>" 176 1 0 0 0 7 aj 175 [.none,.none,.none,.none] 179,⟨(.type "frame"),aa,.plain, #[(B (.ref 9)),(B (.ref 3)),(B (.ref 3)),aa,(B (ef "__main__" 164)),aa,(B (.ref 0))]⟩,Fk P,⟨.type "module",(B 11),.plain, #[]⟩,MT P,⟨(.type "type"),aa,(.cls ⟨(ep "BuiltinImporter"),[(.type "object")],[(.ref 14),(.type "object")],13,(ep "BuiltinImporter"),S,[],[],aj,aa,aj⟩), #[]⟩,ay 0 [],tW "__dict__" 201 14 (.builtin "function.__dict__") (.builtin "function.__dict__#set"),tW "__weakref__" 203 14 (.builtin "ExceptionGroup.__weakref__") .none,⟨.none,aa,(.seq #[(.int 13 0),b2 (MT P),(.bool S),(.bool S),(ef "" 205),(.int 21 0),b2 (MU P),(.bool S),(.bool S),(ef "" 242)] 1), #[]⟩,⟨(.type "list"),aa,(.seq #[] 0), #[]⟩,la P ([("name",208,ef "_sre" 207),("loader",209,.ref 14),("origin",210,ef "built-in" 184),("loader_state",211,.none),("submodule_search_locations",212,.none),("_uninitialized_submodules",213,.ref 19),("_set_fileattr",214,.bool aj),("_cached",215,.none),("_initializing",243,.bool aj)]) 9,MU P,⟨(.type "type"),aa,(.cls ⟨(ep "ModuleSpec"),[(.type "object")],[(.ref 22),(.type "object")],21,(ep "ModuleSpec"),S,[],[],aj,aa,aj⟩), #[]⟩,ay 219 ["_cached","_set_fileattr","_uninitialized_submodules","loader","loader_state","name","origin","submodule_search_locations"],tW "__dict__" 237 22 (.builtin "function.__dict__") (.builtin "function.__dict__#set"),tW "__weakref__" 239 22 (.builtin "ExceptionGroup.__weakref__") .none,⟨(.ref 22),(B 20),.plain, #[]⟩,⟨.none,aa,(.seq #[(.int 11 0),b2 (Fk P),(.bool S),(.bool aj),(ef "_sre" 271)] 0), #[]⟩] (.nil)def MW(P:dj):BT:=nq [(11,oE P (Fk P) ([(3,"__loader__"),(4,"__spec__"),(6,"template"),(7,"getcodesize"),(8,"ascii_iscased"),(9,"unicode_iscased"),(10,"ascii_tolower"),(11,"unicode_tolower")].map λ q=>(q.1,.builtin ("off-the-table:_sre." ++q.2++ ":shared#opaque"))) [] 17)] (MV P)def MX(P:dj):BT:=mc 28 [ay 0 [],Fh,co "<module>" "<module>" 277 1 0 0 0 28 aj 276 [.none,.none,.none,.none] 280,⟨(.type "frame"),aa,.plain, #[(B (.ref 30)),(B (.ref 3)),(B (.ref 3)),aa,(B (ef "__main__" 164)),aa,(B (.ref 0))]⟩] (MW P)def Ab(w:di)(os:eS):SharedT:=⟨MX w.params,32,jf, #[],⟨0,0,0,0⟩,282,os⟩def oG:H jh:=rF aY "" 1 32 282 [("_wall",aj,["k"],[])]++rF aY "" 6 39 303 [("rgb_to_hls",aj,["r","g","b","maxc","minc","sumc","rangec","l","s","rc","gc","bc","h"],[]),("hls_to_rgb",aj,["h","l","s","m2","m1"],[]),("_v",aj,["m1","m2","hue"],[]),("rgb_to_hsv",aj,["r","g","b","maxc","minc","rangec","v","s","rc","gc","bc","h"],[]),("hsv_to_rgb",aj,["h","s","v","i","f","p","q","t"],[])]def MY(P:dj):Obj:=oE P (MS P) [(0,ef "cpy313.colorsys" 289)] (("_wall",288,.ref 38)::("ONE_THIRD",294,.float 4599676419421066581 293)::("ONE_SIXTH",298,.float 4595172819793696085 297)::("TWO_THIRD",302,.float 4604180019048437077 301)::oG.tail.map tV) 19
def MZ(P:dj):BT:=mc 32 ((oG.take 1).flatMap (rG "__main__" 164)++oG.tail.flatMap (rG "cpy313.colorsys" 289)) (nq [(3,MY P),(29,iS (oG.map pZ))] (MX P))def M0(w:di)(os:eS):SharedT:=⟨MZ w.params,74,jf, #[],⟨0,0,0,0⟩,374,os⟩def rI:H jh:=rF aY "" 13 74 378 [("_div2n1n",aj,["a","b","n","pad","half_n","mask","b1","b2","q1","r","q2"],[]),("_div3n2n",aj,["a12","a3","b","b1","b2","n","q","r"],[]),("_int2digits",aj,["a","n"],["n","a_digits","inner"]),("_digits2int",aj,["digits","n"],["digits","n","inner"]),("_divmod_pos",aj,["a","b","n","a_digits","r","q_digits","a_digit","q_digit","q"],[]),("int_divmod",aj,["a","b","q","r"],[])]def M1(P:dj):Obj:=oE P (MY P) [(0,ef "cpy313.stringprep" 456)] (("_DIV_LIMIT",377,.int 4000 376)::rI.map tV) 26
def Fl(P:dj):Obj:=co "_int2digits" "_int2digits" 409 118 2 0 3 88 S 276 [.none,.ref 90,.ref 91,.ref 92] 417
def Fm(P:dj):Obj:=co "_digits2int" "_digits2int" 420 134 2 0 3 95 S 276 [.none,.ref 97,.ref 98,.ref 99] 428
def M3(P:dj):BT:=mc 74 (rI.flatMap (rG "cpy313._pylong" 374)) (nq [(3,M1 P),(29,iS ((oG++rI).map pZ))] (MZ P))def Fn(w:di)(os:eS):SharedT:=⟨M3 w.params,116,jf, #[],⟨0,0,0,0⟩,458,os⟩def M4(P:dj):Obj:=oE P (M1 P) [] ([("b1_set",517,.ref 123)]) 27
noncomputable def Fo(P:dj):Obj:=⟨.type "set",aa,(.set ([(65024,474),(65025,475),(65026,476),(65027,477),(65028,478),(65029,479),(6150,460),(65030,480),(65031,481),(65032,482),(65033,483),(6155,461),(6156,462),(6157,463),(8203,464),(8204,465),(8205,466),(65034,484),(65035,485),(65036,486),(65037,487),(65038,488),(65039,489),(173,458),(847,459),(8288,467),(65279,468)].map λ(q:J×J)=>((q.1:ah),KV q.1 q.2)).toArray 29 ⟨127, #[0,1,2,3,4,5,6,7,8,9,10,11,12,13,14,15,16,17,18,19,20,21,22,45,79,96,127], #[],0, !(P.followText "set-order"),2,S⟩), #[]⟩noncomputable def M5:H Nat:=[173,847,6150,6155,6156,6157,8203,8204,8205,8288,65279]def M6(P:dj):BT:=mc 116 [li (rH 458 M5) 0,⟨(.type "range"),aa,(.fields #[(.int 65024 469),(.int 65040 470),(.int 1 471)]), #[]⟩,li (rH 474 (km 65024 16)) 18,⟨(.type "range_iterator"),aa,(.fields #[(.int 65040 0),(.int 0 0),(.int 1 0)]), #[]⟩,ay 0 [],⟨(.type "StopIteration"),aa,(.fields #[(.ref 120),.none,.none,.none,(.bool aj),.none]), #[]⟩,li (rH 458 M5++rH 474 (km 65024 16)) 0,Fo P,⟨(.type "list_iterator"),aa,(.fields #[.none,(.int 27 0)]), #[]⟩,ay 0 [],⟨(.type "StopIteration"),aa,(.fields #[(.ref 125),.none,.none,.none,(.bool aj),.none]), #[]⟩] (nq [(3,M4 P)] (M3 P))def Fp(w:di)(os:eS):SharedT:=⟨M6 w.params,127,jf, #[],⟨0,0,0,0⟩,518,os⟩def tX:H jh:=rF aY "" 21 127 518 [("in_table_b1",aj,["code"],[])]def M7(P:dj):Obj:=oE P (M4 P) [] (tX.map tV) 28
def Fq(P:dj):BT:=mc 127 (tX.flatMap (rG "cpy313.stringprep" 456)) (nq [(3,M7 P),(29,iS ((oG++rI++tX).map pZ))] (M6 P))def M8(w:di)(os:eS):SharedT:=⟨Fq w.params,134,jf, #[],⟨0,0,0,0⟩,525,os⟩def M9(P:dj):Obj:=oE P (M7 P) [] ([("b3_exceptions",2475,.ref 134)]) 29
def ML(P:dj):Obj:=cu (d7 525 pX++jU 576 l_++hv 2463 oD) 650
def M_(P:dj):BT:=mc 134 ([ML P]++(aw 37).map (λ i=>cu (d7 (576+51*i) (l_.getD i [])) 17)++ [cu (hv 2463 oD) 4]) (nq [(3,M9 P)] (Fq P))def Na(w:di)(os:eS):SharedT:=⟨M_ w.params,173,jf, #[],⟨0,0,0,0⟩,2476,os⟩def wF:H jh:=rF aY "" 23 173 2476 [("map_table_b3",aj,["code","r"],[]),("in_table_c11",aj,["code"],[])]def Nb(P:dj):Obj:=oE P (M9 P) [(0,ef "cpy313.wsgiref.headers" 2491)] (wF.map tV++ [("_name_disallowed_re",2518,.ref 191),("_value_disallowed_re",2552,.ref 196)]) 33
noncomputable def E7:H Nat:=[14,10,4,1,1,22,0,31,16,127,0,13,7,22,0,31,16,127,0,1]def MF(P:dj):Obj:=⟨(.type "re.Pattern"),aa,(.fields #[(ef "[\\x00-\\x1F\\x7F]" 2494),(.int 32 2517),(.int 0 0),.none,.none,(.ref 190),(.int 0 0)]), #[]⟩noncomputable def E8:H Nat:=[14,14,4,1,1,9,4294966783,0,0,2147483648,0,0,0,0,0,13,11,9,4294966783,0,0,2147483648,0,0,0,0,0,1]def MG(P:dj):Obj:=⟨(.type "re.Pattern"),aa,(.fields #[(ef "[\\x00-\\x08\\x0A-\\x1F\\x7F]" 2520),(.int 32 2551),(.int 0 0),.none,.none,(.ref 195),(.int 0 0)]), #[]⟩def Nc(P:dj):BT:=mc 173 (wF.flatMap (rG "cpy313.stringprep" 456)++ [li (rH 2496 E7) 0,la P [] 0,rE [.none],zs E7,MF P,li (rH 2522 E8) 0,la P [] 0,rE [.none],zs E8,MG P]) (nq [(3,Nb P),(29,iS ((oG++rI++tX++wF).map pZ))] (M_ P))def Nd(w:di)(os:eS):SharedT:=⟨Nc w.params,197,jf, #[],⟨0,0,0,0⟩,2553,os⟩def Nf(P:dj):Obj:=oE P (Nb P) [] ([("Headers",2709,.ref 319)]) 34
def Fs:H jh:=rF (clsAt 28) "Headers." 0 204 2565 [("__init__",S,["self","headers","k","v"],[]),("_convert_string_type",aj,["self","value","name","regex"],[]),("__len__",aj,["self"],[]),("__setitem__",aj,["self","name","val"],[]),("__delitem__",aj,[],[]),("__getitem__",aj,["self","name"],[]),("__contains__",aj,["self","name"],[]),("get_all",aj,["self","name"],[]),("get",S,["self","name","default","k","v"],[]),("keys",aj,[],[]),("values",aj,[],[]),("items",aj,["self"],[]),("__repr__",aj,["self"],[]),("__str__",aj,[],[]),("__bytes__",aj,["self"],[]),("setdefault",aj,["self","name","value","result"],[]),("add_header",aj,["self","_name","_value","_params"],[])]def Ng(l:H (b1×J×aq)):H (b1×J×aq):=("__module__",2560,ef "cpy313.wsgiref.headers" 2491)::l++("__firstlineno__",2564,.int 180 2563)::Fs.map tV++ [("__static_attributes__",2702,.ref 317)]def Nh(P:dj):BT:=mc 197 ([ay 0 [],⟨(.type "builtin_function_or_method"),aa,(.fields #[(.builtin "type.__prepare__"),(.type "type")]), #[]⟩,la P (Ng [("__qualname__",2562,ef "Headers" 2561)]) 21,ay 0 [],iS (Fs.map pZ),co "Headers" "Headers" 2555 180 0 0 0 200 aj 276 [.none,.none,.none,.none] 2558,⟨(.type "frame"),aa,.plain, #[(B (.ref 202)),(B (.ref 3)),(B (.ref 199)),aa,(B (ef "cpy313.wsgiref.headers" 2491)),aa,(B (.ref 0))]⟩]++Fs.flatMap (rG "cpy313.wsgiref.headers" 2491)++ [ay 2701 ["_headers"],la P (Ng []++ [("__dict__",2704,.ref 320),("__weakref__",2706,.ref 321),("__doc__",2707,.none)]) 4,⟨(.type "type"),aa,(.cls ⟨(ep "Headers"),[(.type "object")],[(.ref 319),(.type "object")],318,(ep "Headers"),S,[],[],aj,aa,aj⟩), #[aa,aa,(B (ef "Headers" 2553)),(B (ef "Headers" 2561)),(B (.builtin "object.__new__")),(B (.bool S))]⟩,tW "__dict__" 2703 319 (.builtin "function.__dict__") (.builtin "function.__dict__#set"),tW "__weakref__" 2705 319 (.builtin "ExceptionGroup.__weakref__") .none,⟨(.type "super"),aa,(.fields #[(.ref 319),(.ref 319),(.ref 319)]), #[]⟩,⟨(.type "builtin_function_or_method"),aa,(.fields #[(.builtin "object.__init_subclass__"),(.ref 319)]), #[]⟩]) (nq [(3,Nf P),(29,iS ((oG++rI++tX++wF).map pZ++ [(180,0,202)]))] (Nc P))def Ni(w:di)(os:eS):SharedT:=⟨Nh w.params,324,jf, #[],⟨0,0,0,0⟩,2710,os⟩def Ft:H jh:=rF aY "" 30 324 2712 [("_law_figures",aj,["x","bases"],[]),("_law_rows",aj,[],[]),("_law_vote",aj,[],[]),("_law_read",aj,[],[]),("_law_chair",aj,[],[]),("_law_light",aj,[],[]),("_law_told",aj,[],[]),("_law_waves",aj,[],[]),("law",aj,[],[])]def z7(P:dj):BT:=mc 324 (Ft.flatMap (rG "law_ta0134_01" 2710)) (nq [(3,oE P (Nf P) [(0,ef "law_ta0134_01" 2710)] (Ft.map tV) 43),(29,iS ((oG++rI++tX++wF).map pZ++(180,0,202)::Ft.map pZ))] (Nh P))def Nj(w:di)(os:eS):SharedT:=⟨z7 w.params,371,jf, #[],⟨0,0,0,0⟩,2768,os⟩def hW:Env:={scope:=eA.main.scope,locals:=mainNs,globals:=mainNs,cells:=[],code:=.ref 30,frame:=B 31}
noncomputable abbrev kA:Pos:=⟨0,0,0,0⟩abbrev rJ:H Stmt:=behindTheImports eA
abbrev iy:Code:=.body rJ hW
def md(i n:J):H Stmt:=(rJ.drop i).take n
abbrev nr(i n:J)(p:cP):Thread:=piecesOf (md i n) hW iy p [vS kA]abbrev oH(w:di)(n:J)(s:oi)(t:DU):=tk jM eA w 28 jS 1 n s t
def oA(P:dj):BT:=((z7 P).set 89 λ u=>l7).set 96 λ u=>l7
def ed(P:dj):Heap:=absHeap (oA P) 371 jf
def H1(P:dj):Heap:=absHeap (z7 P) 371 jf
def Nk(P:dj):Heap:=absHeap (MV P) 28 jf
def p0(P:dj):Heap:=absHeap (MW P) 28 jf
def NG(k:U aJ):U PySem.Expr:=B (.Constant (.int (An k)) (fI (k.getD rR)).z (fI (k.getD rR)).p)def NH(v:aJ):PySem.Expr:=.Constant (.str (Ao v)) (fI v).z (fI v).p
def FJ(ev:cn)(q:cP):H (U aJ)->H aJ->kz:=pJ λ k v=>Mh ev q (An k,Ao v) ((fI (k.getD rR)).z,(fI (k.getD rR)).p) ((fI v).z,(fI v).p)
theorem NI(ev:cn)(q:cP):∀(ks:H (U aJ))(vs:H aJ),
  (K0 (ks.map NG) ev).zip ((iQ (vs.map NH) ev).map λ v=>(do let x<-v;dZ q;pure x:bj aq))=e9 (FJ ev q ks vs)/\gB ev q (FJ ev q ks vs) ((ks.map An).zip (vs.map Ao))
 |[],_=>⟨rfl,.nil⟩|_::_,[]=>⟨rfl,.nil⟩|k::ks,v::vs=>have h:=NI ev q ks vs;⟨aM _ h.1,.cons h.2⟩theorem gB.take:∀{ay:kz}{p:H (ah×ai)}(n:J),gB ev q ay p->gB ev q (ay.take n) (p.take n):=by intro ay p n c;induction c generalizing n with|nil=>exact L anU (L anU .nil)|cons c i=>induction n with|zero=>exact .nil|succ n=>exact .cons (i n)
theorem gB.drop:∀{ay:kz}{p:H (ah×ai)}(n:J),gB ev q ay p->gB ev q (ay.drop n) (p.drop n)
 |_,_,0,c=>(((λ a=>c) ∘ λ a=>ev) ev)|_,_,_+1,.nil=>by simp;exact .nil|_,_,n+1,.cons c=>c.drop n
theorem gB.oF:∀(m:J){ay:kz}{p:H (ah×ai)},gB ev q ay p->tO ev q (oF m ay) (oF m p)
 |0,_,_,_=>.nil|m+1,_,_,c=>.cons (c.take 17) (gB.oF m (c.drop 17))
theorem E_{α:Type} :∀(m:J)(l:H α),l=(oF m l).flatten++l.drop (17*m)
 |0,l=>(List.self_eq_append_left.mpr rfl)|m+1,l=>by refine(?_:_=(_::oF m _).flatten++_);dsimp only[zo];rw[eb,show 17*(m+1)=17+17*m by lia,<-YG,<-(E_ m _),ti]theorem FK(a b:kz):e9 (a++b)=e9 a++e9 b:=by simp[e9]
theorem NJ:∀(l:H kz),e9 l.flatten=(l.map e9).flatten
 |[]=>rfl|a::l=>L zo (L (FK ..) (L (NJ l) rfl))def wJ(s:bx):H (U aJ):=(fI (hz 0 s)).ks
def wK(s:bx):H PySem.Expr:=(fI (hz 0 s)).es
theorem MK:(O pX==17&&(l_.all λ c=>O c==17)&&O oD==4&&O l_==37&&asc 0 (pX++(l_.flatten++oD)))=true:=by lk
def NK(s:bx):Str:=(fI (hz 1 s)).nm
def NL(s:bx):Pos:=(fI (hz 1 s)).p
def Ap(s:bx):Pos:=(fI (hz 0 s)).p
def NM(s:bx):Pos:=(jg s).p
def Aq(st:bx)(ev:cn)(v:aq):bj Flow:=(dZ (NL st)>>=λ u=>pK ev (NK st) v)>>=λ u=>pure ri
def wL(st:bx)(ev:cn):bj Value:=dZ (NM st)>>=λ u=>dZ (Ap st)>>=λ u=>YA ((K0 (wJ st) ev).zip ((iQ (wK st) ev).map λ v=>do let x<-v;dZ (Ap st);pure x))theorem abh(nm:ai)(p:cP)(ks:H (U aJ))(vs:H aJ)(d a:cP)(ev:cn):fF (.Assign [.Name nm p] (.Dict ks vs d) a) ev=wL (.Assign [.Name nm p] (.Dict ks vs d) a) ev>>=Aq (.Assign [.Name nm p] (.Dict ks vs d) a) ev:=by apply Y rfl;obtain h:=rfl;obtain j:=rfl;delta wL Aq;rfl
theorem abi(w:di)(os:eS):oH w 12525 (M8 w os) (nr 21 1 ⟨167,0,168,30⟩)=B (.next,Na w os,iy,⟨169,0,169,13⟩):=by
 refine cq (bF.mp MK) λ h y=>?_;obtain⟨h,I⟩:=bF.mp h;obtain⟨h,P⟩:=bF.mp h;obtain⟨W,j⟩:=bF.mp h;have b:=bf (show(wJ (aY 22),wK (aY 22))=((wJ (aY 22)).map NG,(wK (aY 22)).map NH)from by lk);have pr:=NI hW (Ap (aY 22)) (wJ (aY 22)) (wK (aY 22));generalize FJ hW _ _ _=ay at pr;have c:=pr.2;have d:=aC.display (w:=w) (bd:=rJ) (q0:=kA) (li:=jf) (g:= #[]) (dr:=⟨0,0,0,0⟩) (os:=os) (T:=Fq w.params) (N:=134) (k:=525)
  (c.take 17) ((c.drop 17).oF 37) ((c.drop 17).drop _) (cI.mp W) (λ c A=>cI.mp (b9.mp j c A)) (cI.mp P) (by show O l_<1000;decide) rfl y ((by lk))
 have e:e9 (ay.take 17)++(((oF 37 (ay.drop 17)).map e9).flatten++e9 ((ay.drop 17).drop (17*37)))=e9 ay:=by rw[<-NJ,<-FK,<-E_,<-FK,ti]
 rw[e,<-(Y (congr (aM (λ ks vs=>(K0 ks hW).zip _) b.1) b.2) pr.1)]at d;have K:=(cI.mp I);have l:aC w rJ hW kA _ _ ⟨167,0,168,30⟩ (wL _ hW) _ ⟨rA _ 134 525 pX oD l_,173,jf, #[],⟨0,0,0,0⟩,2475,os⟩ _:=
  aC.bind (aC.at _) (aC.bind (aC.at _) d)
 have M:fF (aY 22) hW=wL (aY 22) hW>>=Aq (aY 22) hW:=by have:=abh (NK (aY 22)) (NL (aY 22)) (wJ (aY 22)) (wK (aY 22)) (Ap (aY 22)) (NM (aY 22)) hW;exact this
 have E:nr 21 1 ⟨167,0,168,30⟩=nh rJ hW kA ((wL (aY 22) hW).wrap (λ v=>(Aq (aY 22) hW v).wrap (λ f=>match f with|.next=>(fG [] hW).wrap doneF deadEnd id id|f=>doneF f) deadEnd id id) deadEnd id id) ⟨167,0,168,30⟩:=by show(⟨(fG (md 21 1) hW).wrap doneF deadEnd id id,iy,⟨167,0,168,30⟩,[vS kA]⟩:DU)=_;refine L (show md 21 1=[aY 22] by lk) ?_;rw[execs_cons_wrap,M,Sem.bind_eq_wrap',KS];rfl
 refine L E (Mz (m:=8) (l _ _ _ _) ?_);lk
theorem jd(h:bE a 371=S)(g:(oA P).get a=B o)(A:alive o=B o):(ed P).get? a=B o:=Y (m7 (cg.mp h) g) A
theorem E2(h:(ed P).get? b=B o):(H1 P).get? b=B o:=by
 by_cases q:b<371
 ·obtain y:=by exact KU.mp (b9.mp (show((aw 371).all λ i=>((z7 P).get i).isSome)=S by lk) b (a4.mpr q))
  obtain⟨k_,e⟩:=y;by_cases c:b=96
  ·have E:(oA P).get b=B l7:=by unfold oA;rw[tl,bC c,<-c,tl,a6 (by rw[c];decide),e];rfl
   rw[show(ed P).get? b=alive l7 from m7 q E]at h;exact nn h
  ·by_cases R:b=89
   ·obtain E:(oA P).get b=B l7:=by unfold oA;rw[tl,a6 c,tl,bC R,<-R,e];rfl
    rw[show(ed P).get? b=alive l7 from m7 q E]at h;exact nn h
   ·obtain E:(oA P).get b=B k_:=by unfold oA;rw[tl,a6 c,tl,a6 R,e]
    rw[show(ed P).get? b=alive k_ from m7 q E]at h;exact Y (m7 q e) h
 ·exact nn (ax (abs_get_none q) h)
noncomputable def MA:aq->J
 |.float _ t=>t|.int _ t=>t|_=>0
noncomputable def mkV(t:J):D->U aq
 |.obj b=>B (.ref b)|.aS x=>B (.float x t)|.int j=>B (.int j t)|.ty n=>B (.type n)|.bi n=>B (.builtin n)|_=>aa
noncomputable def aae(h:aX)(t:J):D->aF
 |.obj b=>(h.get? b).isSome|.aS _=> !(t==0)|_=>S
def MB(h:aX)(v:aq)(d:D):Bool:=mkV (MA v) d==B v&&aae h (MA v) d
theorem MC(e:MB h v d=S):aV [] h v d:=by
 obtain R:=eq_of_beq (bo e).1;obtain f:=(bo e).2;rcases d with _|_|j|x|_|n|n|b|_|_|⟨_,_⟩;case obj=>exact a7 (KU.mp f) λ o i=>ak R▸.obj dS i
 case aS=>exact ak R▸.aS _ _ λ q=>by rw[q]at f;exact bw f
 case int=>exact ak R▸.int _ _
 case ty=>exact ak R▸.ty _
 case bi=>exact ak R▸.bi _
 all_goals exact nn R
def aaf(P:dj):Bool:=(ed P).isNs k2&&((ed P).isNs zl&&ee.all λ p=>(((ed P).nsMap k2 p.1).orElse λ u=>(ed P).nsMap zl p.1).any λ v=>MB (ed P) v p.2)theorem E3(P:dj):aaf P=true:=by lk
theorem MD{q:Type} :∀{l:H (ai×q)}{n:ai}{b:q},l.lookup n=B b->(n,b)∈l:=by
 intro l n b h;induction l with
 |nil=>exact nn h
 |cons p l i=>
  obtain⟨m,c⟩:=p;dsimp only[gY]at h;refine dO (n==m) (λ e=>?_) λ e=>?_
  ·rw[e]at h;refine L (ak h) ?_;rw[cI.mp e];exact cV
  ·rw[e]at h;exact c7 _ (i h)theorem aag{A:Type}{o q:U A}{v:A}(h:(o.orElse λ u=>q)=B v):o=B v\/o=aa/\q=B v:=match o,h with|some _,h=>.inl h|none,h=>.inr ⟨rfl,h⟩
theorem wA(k:g.K=ed g.w.params):hh g ee:=by
 obtain e:=bo (E3 g.w.params);obtain E:=bo e.2;refine⟨(ed g.w.params).nsMap k2,(ed g.w.params).nsMap zl,?_,?_,λ n d V=>?_⟩
 ·rw[k];exact vT e.1
 ·rw[k];exact vT E.1
 obtain this:=b9.mp E.2 _ (MD V);exact av ((anI _ _).mp this) λ v l this=>L k ((aag l).imp (λ h=>⟨v,h,MC this⟩) λ h=>⟨h.1,v,h.2,MC this⟩)
noncomputable abbrev oB:Addr:=318
def E4:H (ai×ao):=[("__init__",tP),("__setitem__",l8),("__delitem__",ni)]noncomputable def aah:Obj:=excClassObj "Headers" "Headers" 319 318 [.type "object"] [.type "object"] S [] [] aj aa aa aa aa (B (.str "Headers" 2553)) (B (.str "Headers" 2561)) (B (.bool S)) "object.__new__"
def aai(K:aX)(p:ai×ao):Bool:=K.nsMap oB p.1==B (.ref p.2)&&(K.get? p.2).any λ o=>o.cls==.type "function"
def ME(K:aX):Bool:=K.isNs oB&&((K.nsMap oB "__getattribute__").isNone&&((K.nsMap oB "__getattr__").isNone&&((K.nsMap oB "__setattr__").isNone&&((K.nsMap oB "_headers").isNone&&(rB++E4).all (aai K)))))theorem aaj(P:dj):ME (ed P)=true:=by lk
theorem aak{K:aX}(k:g.K=K)(e:ME K=S)(l:K.get? 319=B aah):∃N M,oC g gZ N M/\(∀nm f,rB.lookup nm=B f->ix g M nm f)/\ix g M "__init__" tP/\ix g M "__setitem__" l8/\ix g M "__delitem__" ni:=by
 subst k;obtain⟨R,e⟩:=bF.mp e;obtain⟨E,e⟩:=bF.mp e;obtain⟨s,e⟩:=bF.mp e;obtain⟨D,e⟩:=bF.mp e;obtain⟨eT,jV⟩:=bF.mp e;rw[zm]at E s D eT;have m:∀nm f,(nm,f)∈rB++E4->ix g (g.K.nsMap oB) nm f:=by exact λ nm f q=>cq (cq (bF.mp (b9.mp jV _ q)) λ a b=>(av ((anI _ _).mp b) λ o i A=>⟨cI.mp a,o,i,cI.mp A⟩)) λ a b=>(⟨a,b,(show∀p∈rB++E4,∃y,rg _ p.1=pure y from AllP.mem (.cons ⟨aa,by rw[k3];lk⟩ (.cons ⟨aa,by rw[k3];lk⟩ (.cons ⟨aa,by rw[k3];lk⟩ (.cons ⟨aa,by rw[k3];lk⟩ (.cons ⟨B (.builtin "object.__init__"),by rw[k3];lk⟩ (.cons ⟨aa,by rw[k3];lk⟩ (.cons ⟨aa,by rw[k3];lk⟩ .nil)))))))) (nm,f) q⟩)
 obtain W:ClsAt g.K gZ oB _:=by exact⟨(pV _ _ _ _ _ aa aa (E5 aa aa _ _ _ l)),vT R⟩
 exact(bh oB _ ⟨(⟨W,E,s,D,eT⟩),(λ nm f h=>m nm f (bL _ (MD h))),m _ _ (aW _ (.head _)),m _ _ (aW _ (.tail _ (.head _))),m _ _ (aW _ (.tail _ (.tail _ (.head _))))⟩)theorem aal(h:g.K=ed g.w.params):∃N m,oC g gZ N m/\(∀nm f,rB.lookup nm=B f->ix g m nm f)/\ix g m "__init__" tP/\ix g m "__setitem__" l8/\ix g m "__delitem__" ni:=aak h (aaj _) ((λ P=>jd rfl (by lk) rfl) _)theorem aam(h:g.K=ed g.w.params):tQ g tR pW:=by refine⟨(E6 _ _ 190 _ _ _ ⟨h.symm▸jd rfl (show _=B (MF g.w.params) by lk) rfl,rfl,rfl,rfl,?_,?_,rfl,h.symm▸jd rfl (show _=B (zs E7) by lk) rfl,rfl,?_⟩)⟩<;>lk
theorem aan(h:g.K=ed g.w.params):tQ g tS l9:=by refine⟨(E6 _ _ 195 _ _ _ ⟨h.symm▸jd rfl (show _=B (MG g.w.params) by lk) rfl,rfl,rfl,rfl,?_,?_,rfl,h.symm▸jd rfl (show _=B (zs E8) by lk) rfl,rfl,?_⟩)⟩<;>lk
class inductive je:H e7->H (ah×ai)->Prop
 |nil:je [] []
 |cons {i s a b t dh} :je t dh->je (⟨i,.int i a,.str s b⟩::t) ((i,s)::dh)theorem je.append(x:je t p)(y:je u q):je (t++u) (p++q):=by induction x with|nil=>exact y|cons _ i=>exact .cons i
theorem E9:∀(t:J)(p:H (ah×ai)),je (d7 t p) p
 |_,[]=>.nil|t,(i,s)::r=>.cons (E9 _ r)
theorem MH:∀(t:J)(p:H (ah×ai)),je (hv t p) p
 |_,[]=>.nil|t,(i,s)::r=>.cons (MH _ r)
theorem MI:∀(k:J)(cs:H (H (ah×ai))),je (jU k cs) cs.flatten
 |_,[]=>.nil|k,c::cs=>L zo ((E9 k c).append (MI _ cs))
set_option tactic.hygienic true in
theorem je.find(x:je t p)(k:ah):
  match tT k p with
  |some s=>∃u,(t.find? λ(e:e7)=>(tm prog w).is k e.key).map (λ(e:e7)=>e.val)=B (.str s u)|none=>(t.find? λ(e:e7)=>(tm prog w).is k e.key).map (λ(e:e7)=>e.val)=none:=by
 induction x with
 |nil=>exact rfl
 |cons x I=>
  rename_i i s a b t p;refine L anJ ?_;obtain R:(tm prog w).is k (KV i a)=(i==k):=rfl;refine L R ?_;dsimp only[tT];by_cases h:i=k
  ·rw[bC h,h,oj];exact⟨b,rfl⟩
  ·rw[a6 h,DT.mpr h];exact I
set_option tactic.hygienic true in
theorem je.keys{t:H e7}{p:H (ah×ai)}(x:je t p):∀{lo:ah},0<=lo->asc lo p=S->∀e∈t,∃k,(tm prog w).is k e.key=S/\e.hash=(tm prog w).hash k:=by
 induction x with
 |nil=>intro u u u e y;exact aR y dS
 |cons x I=>
  rename_i i s a b t p;intro lo q h e y;refine ff (l6 h) λ W j v=>?_;rcases dM.mp y with rfl|y
  ·exact⟨i,by show _=S;exact beq_int_true rfl,(EX (by lia) j).symm⟩
  ·exact I (by lia) v e y
theorem MJ:pX++l_.flatten++oD=rC:=by delta pX l_ oD;rw[eb,<-E_,ti]
theorem aao(l:g.K=ed g.w.params):Fb g nj:=by
 intro a K e;unfold nj at e;refine wB (a==rD) (λ c=>?_) λ c=>?_
 ·rw[c]at e;exact nn e
 ·
  rw[c]at e;refine ax (ak e) ?_;refine L (cI.mp c) ?_;obtain u:je (d7 525 pX++jU 576 l_++hv 2463 oD) rC:=by exact ax MJ (((E9 _ _).append (MI _ _)).append (MH _ _))
  obtain h:asc 0 rC=true:=by have:=(bF.mp MK).2;rw[<-MJ];exact this
  refine⟨rfl,λ k=>((d7 525 pX++jU 576 l_++hv 2463 oD).find? λ e=>(tm g.prog g.w).is k e.key).map _,(e_ (ML g.w.params) _ 650 ⟨?_,⟨rfl,rfl,rfl⟩,rfl,λ e x=>u.keys (DQ 0) h e (DX.mp x),λ k=>?_⟩),λ k=>u.find k⟩
  ·rw[l];exact jd rfl (by lk) rfl
  ·unfold findBy
   rw[List.find?_toArray]def aap(st:bx):Bool:= !(bz st).isCoroutine&&(!(bz st).isGenerator&&(aL (bz st).kind.ctorIdx 1&&(wC (bz st).names&&(Fc (bz st)&&(eU st++tU st).all (dU (bz st))))))def fdOf(st:bx)(q:ai)(d m:aq)(c:J):FuncData:=Fd st q 3 [] d .none .none m aa (.ref c) .none 0
noncomputable def MM(o:fe):U Value:=match o.data with|.fields vs=>vs[1]?|_=>aa
def Fe(P:dj)(b:J):U Obj:=((oA P).get b).bind alive
theorem MN(l:bE b 371=S)(h:Fe P b=B o):(ed P).get? b=B o:=b3 h λ u W j=>Y (m7 (cg.mp l) W) j
def MO(P:dj)(a:J)(st:bx):U fe×U aq×Bool:=(Fe P (a+1),(Fe P a).bind MM,aap st)
section
variable {g:bX}(bu:g.K=ed g.w.params)
include bu
theorem z8{st:bx}(l:bE (a+1) 371=S)(e:MO g.w.params a st=(B ⟨.type "function",aa,.func (fdOf st q d m a), #[]⟩,B (.str q t),S))(b:MP g (fdOf st q d m a) st k):eB g (a+1) k st:=by
 obtain R:=bf e;have i:=bf R.2;refine b3 i.1 λ o j E=>?_;obtain⟨vs,h,n⟩:∃vs,o.data=.fields vs/\vs[1]?=B _:=by unfold MM at E;cases h:o.data with|fields vs=>rw[h]at E;exact⟨vs,rfl,E⟩|_=>rw[h]at E;exact nn E
 have c:=i.2;obtain⟨C,c⟩:=bo c;obtain⟨P,c⟩:=bo c;obtain⟨r,c⟩:=bo c;obtain⟨A,c⟩:=bo c;obtain⟨Q,x⟩:=bo c;refine⟨⟨fdOf st q d m a,⟨⟨_,L bu (MN l R.1),rfl⟩,(hV a o vs t ⟨rfl,L bu (MN (cg.mpr (Nat.lt_of_succ_lt (cg.mp l))) j),h,n⟩),rfl,ma C,ma P,?_,rfl,rfl,A⟩,rfl,b⟩,Q,x⟩;show(bz st).kind=_;revert r;cases(bz st).kind<;>first|exact λ u=>rfl|exact bw
omit bu in
theorem pY{vs:H aq}{n:J}(e:vs.length=n)(h:n<=4):∃x y z u,vs=[x,y,z,u].take n:=by
 refine⟨vs[0]?.getD .none,vs[1]?.getD .none,vs[2]?.getD .none,vs[3]?.getD .none,e▸?_⟩
 iterate 4 (cases vs with
  |nil=>rfl|cons x vs=>?_)
 cases vs with|nil=>rfl|cons x vs=>exact aR h (e▸anK (i_ 5 vs.length))
omit bu in
theorem Ff{vs:H aq}(h:vs.length=2):∃a b,vs=[a,b]:=hx (pY h (by decide)) λ x y u u e=>⟨x,y,e⟩
omit bu in
theorem aaq{vs:H aq}(h:vs.length=3):∃a b c,vs=[a,b,c]:=hx (pY h (by decide)) λ x y z u e=>⟨x,y,z,e⟩
theorem gi{st:bx}(q:ai)(m:b1)(u t:Tok)(n:J)(l:bE (a+1) 371=S)(h:n<=4)
  (e:(MO g.w.params a st,O (eU st),λ x y z v:aq=>rh (fdOf st q .none (.str (ep m) u) a) ⟨[x,y,z,v].take n,[]⟩)=((B ⟨.type "function",aa,.func (fdOf st q .none (.str (ep m) u) a), #[]⟩,B (.str q t),S),n,λ x y z v=>pure ((eU st).zip ([x,y,z,v].take n)))):eB g (a+1) (.plain bg) st:=
 have E:=bf e;have f:=bf E.2
 z8 bu l E.1 λ s Sq vs k=>by exact hx (pY (Y k f.1) h) λ x y z v w=>L w (.of_eq (pI (pI (pI (pI f.2 x) y) z) v))theorem aar:eB g 45 (.plain .plain) (aY 6):=gi bu "rgb_to_hls" "cpy313.colorsys" 289 304 3 rfl (by decide) (by lk)theorem aas:eB g 52 (.plain .plain) (aY 7):=gi bu "hls_to_rgb" "cpy313.colorsys" 289 323 3 rfl (by decide) (by lk)theorem aat:eB g 59 (.plain .plain) (aY 8):=gi bu "_v" "cpy313.colorsys" 289 334 3 rfl (by decide) (by lk)theorem aau:eB g 66 (.plain .plain) (aY 9):=gi bu "rgb_to_hsv" "cpy313.colorsys" 289 343 3 rfl (by decide) (by lk)theorem aav:eB g 73 (.plain .plain) (aY 10):=gi bu "hsv_to_rgb" "cpy313.colorsys" 289 361 3 rfl (by decide) (by lk)theorem aaw:eB g 80 (.plain .plain) (aY 13):=gi bu "_div2n1n" "cpy313._pylong" 374 379 3 rfl (by decide) (by lk)theorem aax:eB g 108 (.plain .plain) (aY 17):=gi bu "_divmod_pos" "cpy313._pylong" 374 432 2 rfl (by decide) (by lk)theorem aay:eB g 115 (.plain .plain) (aY 18):=gi bu "int_divmod" "cpy313._pylong" 374 447 2 rfl (by decide) (by lk)theorem aaz:eB g 179 (.plain .plain) (aY 23):=gi bu "map_table_b3" "cpy313.stringprep" 456 2477 1 rfl (by decide) (by lk)theorem aaA:eB g 186 (.plain .plain) (aY 24):=gi bu "in_table_c11" "cpy313.stringprep" 456 2485 1 rfl (by decide) (by lk)
theorem aaB:eB g 211 (.opt .keep) (clsAt 28 0):=by
 obtain N:g.K.get? 204=B (rE [.none]):=L bu (jd rfl (by lk) rfl);have a:O (eU (clsAt 28 0))=2:=rfl;refine z8 bu (q:="Headers.__init__") (d:=(.ref 204)) (m:=.str (ep "cpy313.wsgiref.headers") 2491) (t:=2566) rfl (by lk) ⟨λ s Sq vs h=>?_,λ s Sq vs h=>?_⟩
 ·obtain⟨x,y,z,v,rfl⟩:=pY (Y h a) (by decide)
  exact .of_defaults rfl (Sq _ _ N) rfl rfl rfl
 ·obtain⟨x,y,z,v,rfl⟩:=pY (zp (Y h a)) (by decide)
  exact .of_defaults rfl (Sq _ _ N) rfl rfl rfl
theorem aaC:eB g 218 (.kw) (clsAt 28 1):=by
 refine z8 bu (q:="Headers._convert_string_type") (d:=.none) (m:=.str (ep "cpy313.wsgiref.headers") 2491) (t:=2576) rfl (by lk) λ vs k l h=>(hx (pY (Y l rfl) (by decide)) λ x y z v W=>L W ?_);rcases k with _|⟨p,r⟩;case nil=>exact aR h (by decide)
 case cons=>cases r with
  |cons=>exact nomatch (kp h).2
  |nil=>obtain⟨n,w⟩:=p;obtain rfl:=(kp h).1;lk
theorem aaD:eB g 232 (.plain .plain) (clsAt 28 3):=gi bu "Headers.__setitem__" "cpy313.wsgiref.headers" 2491 2593 3 rfl (by decide) (by lk)theorem aaE:eB g 237 (.plain .plain) (clsAt 28 4):=gi bu "Headers.__delitem__" "cpy313.wsgiref.headers" 2491 2602 2 rfl (by decide) (by lk)
theorem aaF:eB g 266 (.opt .plain) (clsAt 28 8):=by
 obtain N:g.K.get? 259=B (rE [.none]):=L bu (jd rfl (by lk) rfl);have a:O (eU (clsAt 28 8))=3:=rfl;refine z8 bu (q:="Headers.get") (d:=(.ref 259)) (m:=.str (ep "cpy313.wsgiref.headers") 2491) (t:=2632) rfl (by lk) ⟨λ s Sq vs h=>?_,λ s Sq vs h=>?_⟩
 ·obtain⟨x,y,z,v,rfl⟩:=pY (Y h a) (by decide)
  exact .of_defaults rfl (Sq _ _ N) rfl rfl rfl
 ·obtain⟨x,y,z,v,rfl⟩:=pY (zp (Y h a)) (by decide)
  exact .of_defaults rfl (Sq _ _ N) rfl rfl rfl
theorem aaG:eB g 276 (.plain .fresh) (clsAt 28 10):=gi bu "Headers.values" "cpy313.wsgiref.headers" 2491 2649 1 rfl (by decide) (by lk)theorem aaH:eB g 309 (.plain .plain) (clsAt 28 15):=gi bu "Headers.setdefault" "cpy313.wsgiref.headers" 2491 2682 3 rfl (by decide) (by lk)theorem aaI:eB g 330 (.plain .plain) (aY 30):=gi bu "_law_figures" "law_ta0134_01" 2710 2713 2 rfl (by decide) (by lk)theorem aaJ:eB g 335 (.plain .plain) (aY 31):=gi bu "_law_rows" "law_ta0134_01" 2710 2721 1 rfl (by decide) (by lk)theorem aaK:eB g 340 (.plain .plain) (aY 32):=gi bu "_law_vote" "law_ta0134_01" 2710 2727 2 rfl (by decide) (by lk)theorem aaL:eB g 345 (.plain .plain) (aY 33):=gi bu "_law_read" "law_ta0134_01" 2710 2733 1 rfl (by decide) (by lk)theorem aaM:eB g 350 (.plain .plain) (aY 34):=gi bu "_law_chair" "law_ta0134_01" 2710 2739 2 rfl (by decide) (by lk)theorem aaN:eB g 355 (.plain .plain) (aY 35):=gi bu "_law_light" "law_ta0134_01" 2710 2745 4 rfl (by decide) (by lk)theorem aaO:eB g 360 (.plain .plain) (aY 36):=gi bu "_law_told" "law_ta0134_01" 2710 2751 3 rfl (by decide) (by lk)theorem aaP:eB g 365 (.plain .plain) (aY 37):=gi bu "_law_waves" "law_ta0134_01" 2710 2757 1 rfl (by decide) (by lk)theorem aaQ:eB g 370 (.plain .plain) (aY 38):=gi bu "law" "law_ta0134_01" 2710 2763 1 rfl (by decide) (by lk)theorem aaR:∀a k st,wD.lookup a=B (k,st)->eB g a k st:=λ a k st h=>AllP.mem (P:=λ p:ao×Kind×bx=>eB g p.1 p.2.1 p.2.2) (.cons (aar bu) (.cons (aas bu) (.cons (aat bu) (.cons (aau bu) (.cons (aav bu) (.cons (aaw bu) (.cons (aax bu) (.cons (aay bu) (.cons (aaz bu) (.cons (aaA bu) (.cons (aaB bu) (.cons (aaC bu) (.cons (aaD bu) (.cons (aaE bu) (.cons (aaF bu) (.cons (aaG bu) (.cons (aaH bu) (.cons (aaI bu) (.cons (aaJ bu) (.cons (aaK bu) (.cons (aaL bu) (.cons (aaM bu) (.cons (aaN bu) (.cons (aaO bu) (.cons (aaP bu) (.cons (aaQ bu) .nil)))))))))))))))))))))))))) _ (nk h)
end
def Cf(m M:Ev V):Ev V:=m.bind λ a=>M.bind λ b=>(Ev.read a).bind λ d=>(Ev.read b).bind λ D=>λ σ=>match d,fW .Mult d D with|.ae _,B (.ae xs)=>B (.ok (.aH (O σ)),σ++ [.ae xs])|_,_=>aa
theorem ah6(v u:aq)(a b:D):ag g x (λ α h=>RD (x.P++α) h v a/\RD (x.P++α) h u b) (dA x) (kr .Mult v u) (λ σ=>match a,fW .Mult a b with
  |.ae _,B (.ae xs)=>B (.ok (.aH (O σ)),σ++ [.ae xs])|_,_=>aa):=by
 rcases a with _|_|_|_|_|_|_|_|a|_|⟨_,_⟩
 case ae=>
  rcases b with _|_|k|_|_|_|_|_|k|_|⟨_,_⟩
  case int=>
   intro α σ s f af I T p e Q E G P;refine e4 p.1.mm λ l vs w z m=>L w (a7 p.2.int λ t W=>L W (eD (fW .Mult (.ae a) (.int k)) (λ r=>?_) λ d r=>?_))
   ·rw[r]at e;exact nn e
   ·
    have i:=r;refine cq (dn i) λ q i=>(cq (bF.mp q) λ q1 R=>?_);obtain⟨R,X⟩:=bF.mp R;obtain⟨y,j⟩:=bF.mp R;obtain rfl:=ak i;rw[r]at e;cases e;refine NW z (iN y) (L m.length (dE X)) (iN j) (G _ _ _ s.toks _ rfl (.grow _ _) (I.grow _ _ ?_) T ⟨s.heap.objs.size,?_,rfl⟩)
    ·refine⟨_,⟨0,d0 _ rfl⟩,(m.flatten _).mono λ b o e n=>⟨dy _ e,?_⟩⟩
     rw[<-eb,bB,rj];exact⟨n,λ c=>aR (dI e) (L (ek.mp c) (hu _))⟩
    ·rw[<-I.bM.length];exact Ea
  all_goals intro α σ s f af I T p e;exact nn e
 all_goals intro α σ s f af I T p e;exact nn e
theorem ah7(y:cU g x env n)(h:TE g x env ρ (bG l env) m)(E:TE g x env ρ (bG r env) M):TE g x env ρ (bG (.BinOp l .Mult r P) env) (Cf m M):=ag.cv y h λ v a=>ag.hk y (y.hn v a) E.holding λ u b=>ag.standAt (ag.operate (ag.ghost (λ w w p=>p.1.2) λ d=>ag.ghost (λ w w p=>p.1.2) λ D=>(ah6 v u d D).pre λ w w p=>⟨p.1.2,p.2⟩))theorem eW.low(ok:eW g x n)(h:m<=n):eW g x m:=⟨ok.cY,ok.ew,ok.frames,λ q=>ok.handled (eo q h),gg (og h _) ok.depth,gg (pF (og (vK 8 h) _) _) ok.units,ok.nolimit⟩theorem dq.low(c:dq g x s env n own)(h:m<=n):dq g x s env m own:=⟨⟨c.y.base,c.y.ok.low h,c.y.q⟩,c.cM,c.uz,c.w,c.top⟩theorem dq.ext(c:dq g x s env n own)(I:aG g (a3 x own) α σ h):dq (Internal.ext g h l) x s env n own:=⟨⟨It I c.y.base,⟨c.y.ok.cY,c.y.ok.ew,c.y.ok.frames,c.y.ok.handled,c.y.ok.depth,c.y.ok.units,c.y.ok.nolimit.keeps λ b o e=>yg I e⟩,c.y.q⟩,c.cM,c.uz,c.w,c.top⟩def ka:FuncData:=fdOf (aY 15) "_int2digits" .none (.str (ep "cpy313._pylong") 374) 93
def pf:FuncData:=fdOf (aY 16) "_digits2int" .none (.str (ep "cpy313._pylong") 374) 100
section
variable {g:bX}(bu:g.K=ed g.w.params)
include bu
theorem ah8:g.K.get? 94=B ⟨.type "function",aa,.func ka, #[]⟩:=L bu (jd rfl (by lk) rfl)theorem Tu:g.K.get? 93=B (Fl g.w.params):=L bu (jd rfl (by lk) rfl)theorem ah9:g.K.get? 101=B ⟨.type "function",aa,.func pf, #[]⟩:=L bu (jd rfl (by lk) rfl)theorem Tv:g.K.get? 100=B (Fm g.w.params):=L bu (jd rfl (by lk) rfl)theorem ah_:zP g.K 93 89:=(pV _ _ _ _ _ _ _ (bh _ _ ⟨Tu bu,rfl,rfl,rfl,rfl,rfl,rfl,rfl,rfl,by decide⟩))theorem aia:zP g.K 100 96:=(pV _ _ _ _ _ _ _ (bh _ _ ⟨Tv bu,rfl,rfl,rfl,rfl,rfl,rfl,rfl,rfl,by decide⟩))
theorem aib:lz g 94 ka (bP (aY 15)):=
 ⟨⟨_,ah8 bu,rfl⟩,(hV 93 _ _ 410 ⟨rfl,Tu bu,rfl,rfl⟩),rfl,rfl,rfl,rfl,rfl,rfl,rfl⟩
theorem aic:lz g 101 pf (bP (aY 16)):=
 ⟨⟨_,ah9 bu,rfl⟩,(hV 100 _ _ 421 ⟨rfl,Tv bu,rfl,rfl⟩),rfl,rfl,rfl,rfl,rfl,rfl,rfl⟩theorem aid:∃m,g.K.Ns k2 m/\g.K.BuiltinsAt m 89:=L bu ⟨_,vT ((bo (E3 g.w.params)).1),4,Fj g.w.params,by lk,by decide,by decide,by decide,jd rfl (by lk) rfl,rfl,rfl,rfl⟩theorem aie:∃m,g.K.Ns k2 m/\g.K.BuiltinsAt m 96:=L bu ⟨_,vT ((bo (E3 g.w.params)).1),4,Fj g.w.params,by lk,by decide,by decide,by decide,jd rfl (by lk) rfl,rfl,rfl,rfl⟩
end
abbrev ha:Scope:=bz (aY 15)def eH(k:J):Stmt:=(bP (aY 15)).getD k (.Pass ey)def Cg(s:bx):Stmt:=(sB 0 s).headD s
def sq(s:bx):Arguments:=(jg s).z_
def Tw(s:bx):Pos:=(jg s).p
theorem aif:bP (aY 15)=[eH 0,d8,eH 2,eH 3]:=rfl
theorem aih:eH 0=.Assign [.Name "a_digits" ((fI (hz 1 (eH 0))).p)] (.BinOp (ic (dx (eH 0))) .Mult (lI (dx (eH 0))) (Iu (dx (eH 0)))) (qA (eH 0)):=rfl
theorem aii:d8=.FunctionDef "inner" (sq d8) (bP d8) [] aa [] (bz d8) aa "inner" (Tw d8):=rfl
theorem aij:eH 2=.If (dx (eH 2)) [.Expr (dx (Cg (eH 2))) (qA (Cg (eH 2)))] [] (qA (eH 2)):=rfl
theorem aik:eH 3=.Return (B (dx (eH 3))) (qA (eH 3)):=rfl
def u_(g:V):Ev V:=(Ev.read g).bind λ d=>Ev.ofD ((xu d).map D.int)theorem Tx(h:Ev.read g σ=B (.ok (.ae xs),σ))(M:dc xs=S):u_ g σ=B (.ok (.d (.int (O xs:J))),σ):=by unfold u_;refine L (bind_some h) ?_;show Ev.ofD (Option.map D.int (a8 _ _)) σ=_;exact L M rfl
noncomputable def yl(l:J):H (ai×ao):=[("n",l+1),("inner",l+3),("a_digits",l+2)]theorem ail(l:J):zE (bz d8) (eY ka 94 l)=pure (yl l):=rfl
noncomputable def lL(a n:J):az:=[("n",.d (.int n)),("a",.d (.int a))]def Tz(a n k:J):az:=("a_digits",.aH k)::lL a n
def n1(a n k f:J):az:=("inner",.d (.obj f))::Tz a n k
section
variable (a n k f:J)(σ:aE)theorem aim:(ba bI 30 ha (lL a n) (ic (dx (eH 0)))).1 σ=B (.ok (.d (.ae [.int 0])),σ):=rfl
theorem ain:(ba bI 30 ha (lL a n) (lI (dx (eH 0)))).1 σ=(Ev.ofD (fW .FloorDiv (.int ((ja a:ah)+(n:ah)- 1)) (.int n))) σ:=rfl
theorem aio:(ba bI 30 ha (n1 a n k f) (dx (eH 2))).2 σ=B (.ok (!((a:ah)==0)),σ):=rfl
theorem o_args(h:u_ (.aH k) σ=B (.ok v,σ)):cE ((u5 (dx (Cg (eH 2)))).map λ e=>(ba bI 30 ha (n1 a n k f) e).1) σ=B (.ok [.d (.int a),.d (.int 0),v],σ):=by rw[(show cE _ σ=((((u_ _).bind λ v=>(cE []).bind λ as=>.ret _).bind λ as=>.ret _).bind λ as=>.ret _) σ by lk)];dsimp only[Ev.bind];exact L h rfl
theorem aip:ly (ba bI 30 ha (n1 a n k f) (dx (eH 3))).1 (n1 a n k f) σ=B (.ok (.ret (.aH k),n1 a n k f),σ):=rfl
end
theorem aiq(h:B2 a n σ=B (r,af)):1<=n/\n<=1000/\b6 a n<=32/\σ.all (bk (O σ))=S/\σ[0]?=B (.tab 89 121 4 lG)/\r=.ok (.ret (.aH (O σ)),[])/\af=σ++ [.ae (dB n (b6 a n) a)]:=
 bN h λ R e=>
  have p:=bf (ak e);have W:=bo R;have j:=bo W.2;have v:=bo j.2;have I:=bo v.2
  ⟨b8 W.1,b8 j.1,b8 v.1,I.1,B1 I.2,p.1.symm,p.2.symm⟩theorem IG{a:J}(h:a≠0):((a:ah)==0)=false:=ro λ q=>h (aoX q)
theorem air{a b:J}(h:1<=b)(j:b<2^64):fW .FloorDiv (.int a) (.int b)=B (.int (a/b:J)):=by
 show a8 _ _=_;obtain G:=hM h;obtain e:ts a b=false:=by refine Y (aM (·&&_) (l2 ?_)) rfl;show¬(if _=S then 0 else b.log2/30+1)>300;exact L (IG G) (Nat.not_lt_of_le (bA (ao2 (gg (aoW ..) ((K9 G).mpr j))) (by decide)))
 simp only[IG G,e,sm];rfl
theorem bt.nil(R:bt g x env ρ α h):bt g x env [] α h:=
 ⟨R.fv,R.gl,R.cc,R.fK,av R.ns λ m a u=>⟨m,a,λ n v e=>nn e⟩,λ n A=>R.jX A λ c V W j q w I z=>⟨c,W,j,q,w,V,I,λ v e=>nn e⟩,R.ap⟩theorem bt.Ci(R:bt g x env ρ α h):bt G x env ρ α h:=⟨R.fv,R.gl,R.cc,R.fK,R.ns,R.lj,R.ap⟩def IH(n k f:J)(ρ:az):cy:=b5 (fL (ba bI 30 ha ρ (dx (eH 2))).2 (b5 (kK (ib ha (lJ k n f) f (u4 (lJ k n f) f 6) ρ (dx (Cg (eH 2)))) ρ) oZ) (oZ ρ)) λ ρ=>b5 (ly (ba bI 30 ha ρ (dx (eH 3))).1 ρ) oZ
theorem TR{xs:H D}(h:O xs<=32):dc xs=true:=dD (bA h (by decide))theorem ais(h:fg.length=O xs):put xs fg 0=fg:=by unfold put;simp only[hO,h,List.drop_length,ea];rfl
theorem ait(a n k f:J)(σ:aE)(E:σ.all (bk (O σ))=S)(W:1<=n)(j:n<=1000)(v:b6 a n<=32)(h:σ[k]?=B (.ae (hQ (b6 a n) (.int 0)))):
  IH n k f (n1 a n k f) σ=B (.ok (.ret (.aH k),n1 a n k f),σ.set k (.ae (dB n (b6 a n) a))):=by
 refine Y (pe ?_) (qB (aip a n k f _));by_cases c:a=0
 ·subst c
  rw[(show b6 0 n=0 from oo (L (show aQ 0=0 from rfl) (L (hO ..) (Nat.sub_lt W LL))))]at h ⊢;rw[show dB n 0 0=hQ 0 _ from rfl,set_same h];rfl
 ·obtain l:=List.length_replicate
  obtain D:=IC n k f j 5 a 0 _ σ _ E h (L l (L (hO ..) (bH _))) (L l v) ((show 1<=b6 a n from DJ (Nat.le_sub_of_add_le (ax (iO 1 _) (pF ((by
    unfold aQ;rw[a6 (mt eq_of_beq c)];exact i_ ..)) n))) W)) v (eo (Cc a) (q_ (by decide) (ao3 (ao4 (ao5 W)))))
  rw[ais (by rw[l,pd]),hO]at D;exact Y (Cd (Y (aio a n k f σ) (L (IG c) rfl))) (Y (pe (Y (bind_some (Y (u9 f σ rfl ((by
    simp only[(show agree (lJ k n f) (n1 a n k f)=(j9 (.aH k) (.aH k)&&(j9 (.d (.int n)) (.d (.int n))&&(j9 (.d (.obj f)) (.d (.obj f))&&S))) by lk),qz,qz,qz];rfl) ..) (o_args a n k f σ (l▸(Tx (show Ev.read _ σ=B _ by unfold Ev.read;dsimp only;rw[h]) (TR (L l v)))))) D)) rfl)) rfl)
theorem TS{s:bW}{l:H ai}(h:(s.names.all λ p=> !(p.2==tC)||l.contains p.1)=S):∀m,s.names.lookup m=B .free->m∈l:=by
 intro m e;rcases((lY ..).mp (b9.mp h _ (nk e)))with q|q
 ·simp at q
 ·exact oq.mp q
noncomputable def TU:H Str:=["n","inner","a_digits"]
theorem hcI(X:J):∀m,(bz d8).names.lookup m=B .free->iB ((eY ka 94 X).kindOf m)=S/\(eY ka 94 X).cells.lookup m=(yl X).lookup m:=by
 intro m e;obtain h:=TS (l:=TU) rfl m e;unfold TU at h;simp[dM,dS,jQ]at h;rcases h with rfl|rfl|rfl
 ·exact⟨rfl,rfl⟩
 ·exact⟨rfl,rfl⟩
 ·exact⟨rfl,rfl⟩
theorem aiu(bu:g.K=ed g.w.params)(Bq:Base g)(G:hh g ee)(c:dq g x ha (eY ka 94 X) n o)(da:6<=n)(a m:J):c9 g x o (eY ka 94 X) (lL a m) (fG (bP (aY 15)) (eY ka 94 X)) (B2 a m):=by
 intro α σ s out af I dm R e Q E dp he;refine GP (aiq e) λ c5 cw cZ d1 dP=>ff dP λ h0 xC xl=>?_;subst xC;subst xl;refine L aif ?_;have TV:=pb G n;have TY:c9 g x o (eY ka 94 X) (lL a m) (fF (eH 0) (eY ka 94 X)) (fb ha "a_digits" (Cf (ba bI 30 ha (lL a m) (ic (dx (eH 0)))).1 (ba bI 30 ha (lL a m) (lI (dx (eH 0)))).1) (lL a m)):=by exact L aih (ael c rfl (ah7 c.y (f7 TV 30 ha _ _ _ _ c.y c.cM).1 (f7 TV 30 ha _ _ _ _ c.y c.cM).1))
 have f3:fb ha "a_digits" (Cf (ba bI 30 ha (lL a m) (ic (dx (eH 0)))).1 (ba bI 30 ha (lL a m) (lI (dx (eH 0)))).1) (lL a m) σ=B (.ok (.next,Tz a m (O σ)),σ++ [.ae (hQ (b6 a m) (.int 0))]):=by
  have st:dU ha "a_digits" =true:=by lk
  unfold fb;refine L st ?_;dsimp only;rw[bind_some (af:=σ++ [.ae (hQ (b6 a m) (.int 0))]) (a:=V.aH (O σ))]
  ·rfl
  unfold Cf;rw[bind_some (aim ..)];have nC:(ba bI 30 ha (lL a m) (lI (dx (eH 0)))).1 σ=B (.ok (.d (.int (b6 a m:J))),σ):=by rw[ain,u6,show(aQ a:ah)+(m:ah)- 1=((aQ a+m-1:J):ah) by lia,air c5 (by lia)];rfl
  rw[bind_some nC,bind_some (af:=σ) (a:=D.ae [.int 0]) rfl];apply Y (bind_some (m:=Ev.read (V.d (.int (b6 a m:J)))) (af:=σ) (a:=D.int (b6 a m:J)) rfl);have nB:fW .Mult (.ae [.int 0]) (.int (b6 a m:J))=B (.ae (hQ (b6 a m) (.int 0))):=by
   show a8 (NV .Mult&&(decide (0<=((b6 a m:J):ah))&&decide (((b6 a m:J):ah)<=1000000)&&aL 1 1)) (B (D.ae (hQ ((b6 a m:J):ah).toNat [D.int 0]).flatten))=_;rw[gJ (m3 _),gJ (by lia)];dsimp only[aok];have:∀k,(hQ k [D.int 0]).flatten=hQ k (D.int 0):=by intro k;induction k with|zero=>rfl|succ k w6=>rw[YM,zo,w6,YM];rfl
   exact L (this ..) rfl
  exact L (nB ..) rfl
 refine L (LK ..) (aB (TY α σ s _ _ I dm R f3 _ _ (gn.ok λ f h' el aA st eX j2 F=>?_) eC.ok));obtain⟨BF,cR⟩:=F;induction f<;>first|exact BF.elim|skip
 clear BF TY f3;dsimp only;rw[LK];have h0':(σ++ [cj.ae (hQ (b6 a m) (.int 0))])[0]?=B (.tab 89 121 4 lG):=by rw[vX (jN.mp h0).1];exact h0
 refine L (aii ..) (aB (Tt c (q:=lG) (nm:="inner") (s:=cT s h' el) (cAd:=93) (P:=89) (i:=0) (by lk) (by lk) (by lk) (by lk) (ail X) (by intro q;cases q) rfl (ah_ bu) rfl (aid bu) (by lk) eX j2 cR h0' λ f c' r M pm h h8 h9 my eF i0 fN hf j qC so=>?_));dsimp only;have cL:∀b∈[f,c'],b∉(a3 x o).P/\b∉h9:=by
  intro b cv;simp only[dM,dS,jQ]at cv;rcases cv with rfl|rfl
  ·exact⟨λ q=>qC (bL _ q),λ q=>qC (aW _ q)⟩
  ·exact⟨λ q=>so (bL _ q),λ q=>so (aW _ q)⟩
 have sr:=SW (l:=[f,c']) eF G;have aiv:=It (l:=[f,c']) eF Bq;have j3:=c.ext (l:=[f,c']) eF;have T:(Internal.ext g h [f,c']).K.get? f=B (fnMade "inner" lG (sq d8) (bP d8) (bz d8) (yl X) M pm c' r):=B8 (by simp) hf;refine GR j λ c₂ TZ v t N y z W=>?_;cases N;have hc2:(Internal.ext g h [f,c']).K.get? c'=B TZ:=B8 (by simp) y;have II:lz (Internal.ext g h [f,c']) f (fnX "inner" lG (sq d8) (bP d8) (bz d8) (yl X) .none .none M pm aa (.ref c') r) (bP d8):=
  ⟨⟨_,T,rfl⟩,⟨c',TZ,v,t,rfl,hc2,z,W⟩,rfl,by lk,by lk,by lk,rfl,rfl,by lk⟩
 have IJ:∀vs:H aq,O vs=O yh->rh (fnX "inner" lG (sq d8) (bP d8) (bz d8) (yl X) .none .none M pm aa (.ref c') r) ⟨vs,[]⟩=pure (yh.zip vs):=by intro vs nJ;obtain⟨a,b,d,rfl⟩:=aaq nJ;lk
 have A:((lJ (O σ) m f).all λ p=>(bz d8).names.lookup p.1==B .free)=true:=by lk
 have Sq:=S3 (ck:=lJ (O σ) m f) II rfl IJ aiv sr rfl A 6 λ u u=>trivial;have C:=j3.low da;have ym:=pb sr 6;have su:c9 (Internal.ext g h [f,c']) x o (eY ka 94 X) (n1 a m (O σ) f) (fG [eH 2,eH 3] (eY ka 94 X)) (IH m (O σ) f (n1 a m (O σ) f)):=by
  unfold IH;refine o1 ?_ λ ρ=>o1 ?_ λ ρ=>qf
  ·refine L (aij ..) (PK C (f7 ym 30 ha _ _ _ _ C.y C.cM).2 (o1 (Bf C (by lk) ?_) λ ρ=>qf) qf)
   exact B_ sr C.y C.cM ⟨_,_,T,rfl⟩ rfl (by lk) (Cb d8 _ A) (hcI X) Sq _
  ·exact L (aik ..) (xx C (f7 ym 30 ha _ _ _ _ C.y C.cM).1)
 have hr':(σ++ [cj.ae (hQ (b6 a m) (.int 0))]).all (bk (O (σ++ [cj.ae (hQ (b6 a m) (.int 0))])))=true:=by rw[zJ,jK];refine⟨?_,rfl⟩;rw[b9]at d1 ⊢;intro mo hm;exact Hw (by simp) (d1 mo hm)
 have ev:=ait a m (O σ) f (σ++ [cj.ae (hQ (b6 a m) (.int 0))]) hr' c5 cw cZ (by simp);refine ag.sl su eF cL i0 fN.Ci ev Q E (gn.ok λ b h' el aA mz fO o4 F=>?_) eC.ok;have w7:(σ++ [cj.ae (hQ (b6 a m) (.int 0))]).set (O σ) (.ae (dB m (b6 a m) a))=σ++ [.ae (dB m (b6 a m) a)]:=by rw[Lm _ _ (bH _)];simp
 rw[w7]at fO;exact dp b _ h' el aA rfl ((st.trans my).trans mz) fO o4 ⟨F.1,bt.nil (bt.Ci F.2)⟩abbrev pg:Scope:=bz (aY 16)def kO(k:J):Stmt:=(bP (aY 16)).getD k (.Pass ey)def IK:aJ->PySem.Expr:=iu 0
def IL:aJ->PySem.Expr:=iu 1
def T1:aJ->PySem.Expr:=iu 2
noncomputable def IM(l:J):H (ai×ao):=[("n",l+2),("inner",l+3),("digits",l+1)]noncomputable def T2(bO:V)(n:J):az:=[("n",.d (.int n)),("digits",bO)]def qD(bO:V)(n f:J):az:=("inner",.d (.obj f))::T2 bO n
section
variable (bO:V)(n f:J)(σ:aE)theorem aiw(h:u_ bO σ=B (.ok v,σ)):cE ((u5 (IL (dx (kO 1)))).map λ e=>(ba bI 30 pg (qD bO n f) e).1) σ=B (.ok [.d (.int 0),v],σ):=by rw[(show cE _ σ=(((u_ bO).bind λ v=>(cE []).bind λ as=>.ret _).bind λ as=>.ret _) σ by lk)];unfold Ev.bind;exact L h rfl
end
theorem IP(h:sk σ bO=B xs):bO=.d (.ae xs)\/∃i:J,bO=.aH i/\(σ:H cj)[i]?=B (.ae xs):=by induction bO with|aH i=>exact oP h λ y e K=>.inr ⟨i,rfl,ak K▸e⟩|d d=>exact BR h λ y e K=>.inl (L e ((ak K)▸rfl))
theorem T3(h:sk σ bO=B xs):Ev.read bO σ=B (.ok (.ae xs),σ):=by
 rcases IP h with rfl|⟨i,rfl,e⟩
 ·rfl
 ·unfold Ev.read
  dsimp only;exact L e rfl
theorem aix(h:sk σ bO=B xs):wX bO σ=Ev.of (nA (.ae xs)) σ:=by
 rcases IP h with rfl|⟨i,rfl,e⟩
 ·rfl
 ·unfold wX
  dsimp only;exact L e rfl
theorem aiy(h:sk σ bO=B xs)(b:D):lE bO (.d b) σ=Ev.ofD (fh (.ae xs) b) σ:=by
 have k:((Ev.read bO).bind λ y=>(Ev.read (.d b)).bind λ N=>Ev.ofD (fh y N)) σ=Ev.ofD (fh (.ae xs) b) σ:=by exact L (bind_some (T3 h)) rfl
 rcases IP h with rfl|⟨i,rfl,e⟩
 ·exact k
 ·refine ax k ?_
  unfold lE;exact L (show(hA (.aH i) λ i=>nR σ[i]? B)=aa from(show nR σ[i]? B=aa by rw[e];rfl)) rfl
theorem aiz(h:B3 bO n σ=B (r,af)){GG:Prop}(k:∀(ds:H J),n<=1000->σ.all (bk (O σ))=S->σ[1]?=B (.tab 96 136 4 mI)->sk σ bO=B (ds.map λ d=>D.int (d:J))->O ds<=32->(∀x∈ds,x<2^n)->r=.ok (.ret (.d (.int (fA n ds:J))),[])->af=σ->GG):GG:=
 bN h λ R e=>b3 e λ ds l e=>bN e λ b e=>b3 l λ xs E i=>
  have p:=bf (ak e);have W:=bo R;have j:=bo W.2;have v:=bo b
  k ds (b8 W.1) j.1 (B1 j.2) (ax (yb i) E) (b8 v.1) (λ x K=>cg.mp (b9.mp v.2 x K)) p.1.symm p.2.symm
def T4(bO:V)(n f:J)(ρ:az):cy:=b5 (ly (fL (ba bI 30 pg ρ (IK (dx (kO 1)))).2 (ib pg (lK bO n f) f (yj (lK bO n f) f 6) ρ (IL (dx (kO 1)))) (ba bI 30 pg ρ (T1 (dx (kO 1)))).1) ρ) oZ
theorem aiA{ds:H J}(h:O ds<=32)(w:aN<O ds):fh (.ae (ds.map λ d=>D.int (d:J))) (.int (aN:J))=B (.int (ds[aN]:J)):=by
 obtain s:v9 aN (O (ds.map λ d=>D.int _))=B aN:=by exact L (gh ..) (bC (bF.mpr ⟨gJ (m3 aN),gJ (q9.mpr w)⟩))
 show uh _ _=_;unfold uh;rw[s,show ug aN=S from bF.mpr ⟨gJ (zk (by decide) (m3 aN)),gJ (q9.mpr (eo w (bA h (by decide))))⟩];exact Y (Ex ..) (aM _ (tE w))noncomputable def T5:H Str:=["n","inner","digits"]
theorem aiB(bu:g.K=ed g.w.params)(Bq:Base g)(G:hh g ee)(c:dq g x pg (eY pf 101 X) n o)(da:6<=n)(bO:V)(m:J):c9 g x o (eY pf 101 X) (T2 bO m) (fG (bP (aY 16)) (eY pf 101 X)) (B3 bO m):=by
 intro α σ s out af I dm R e Q E dp he;refine aiz e λ ds cw d1 h0 hd cZ dd w16 w17=>?_;subst w16;subst w17;rw[(show bP _=[eP,kO 1]from by lk),(show eP=.FunctionDef "inner" (sq eP) (bP eP) [] aa [] (bz eP) aa "inner" (Tw eP)from by lk)];refine aB (Tt c (q:=mI) (s:=s) (cAd:=100) (P:=96) (i:=1) rfl rfl (by lk) (by lk) ((show zE _ _=pure (IM X)from by lk)) (by intro q;cases q) rfl (aia bu) rfl (aie bu) (by lk) I dm R h0 λ f c' r D pm v h8 h9 my eF i0 fN hf j qC so=>?_);obtain cL:∀b∈[f,c'],b∉(a3 x o).P/\b∉h9:=by
  intro b cv;simp only[dM,dS,jQ]at cv;rcases cv with rfl|rfl
  ·exact⟨λ q=>qC (bL _ q),λ q=>qC (aW _ q)⟩
  ·exact⟨λ q=>so (bL _ q),λ q=>so (aW _ q)⟩
 obtain sr:=SW (l:=[f,c']) eF G;obtain k:(Internal.ext g v [f,c']).K.get? f=B _:=B8 (by simp) hf;refine GR j λ c₂ w T z M y W A=>?_;injection M with M;subst M;obtain II:lz (Internal.ext g v [f,c']) f (fnX "inner" mI (sq eP) (bP eP) (bz eP) (IM X) .none .none D pm aa (.ref c') r) (bP eP):=
  ⟨⟨_,k,rfl⟩,(hV c' w T z ⟨rfl,(B8 (by simp) y),W,A⟩),rfl,by lk,by lk,by lk,rfl,rfl,by lk⟩
 obtain IJ:∀vs:H aq,O vs=O yi->rh (fnX "inner" mI (sq eP) (bP eP) (bz eP) (IM X) .none .none D pm aa (.ref c') r) ⟨vs,[]⟩=pure (yi.zip vs):=by refine λ vs nJ=>f5 (Ff nJ) λ a b w29=>L w29 ?_;lk
 have F:((lK bO m f).all λ p=>(bz eP).names.lookup p.1==B .free)=true:=by lk
 obtain C:=(c.ext (l:=[f,c']) eF).low da;obtain ym:=pb sr 6;obtain su:c9 (Internal.ext g v [f,c']) x o (eY pf 101 X) (qD bO m f) (fG [kO 1] (eY pf 101 X)) (T4 bO m f (qD bO m f)):=by
  exact o1 (L (show kO 1=.Return (B (.IfExp (IK (dx (kO 1))) (IL (dx (kO 1))) (T1 (dx (kO 1))) ((fI (dx (kO 1))).p))) (qA (kO 1))from by lk) (xx C (Ol C.y (f7 ym 30 pg _ _ _ _ C.y C.cM).2 (B_ sr C.y C.cM (bh _ _ ⟨k,rfl⟩) rfl (by lk) (Cb eP _ F) ((by
    intro m e;obtain h:=TS (l:=T5) rfl m e;unfold T5 at h;simp only[dM,dS,jQ]at h;rcases h with rfl|rfl|rfl
    ·exact⟨by lk,by lk⟩
    ·exact⟨by lk,by lk⟩
    ·exact⟨by lk,by lk⟩)) (S4 (ck:=lK bO m f) II rfl IJ (It (l:=[f,c']) eF Bq) sr rfl F 6 λ u u=>trivial) _) (f7 ym 30 pg _ _ _ _ C.y C.cM).1))) λ ρ=>qf
 refine ag.sl su eF cL i0 fN.Ci ((show T4 bO m f (qD bO m f) af=B (.ok (.ret (.d (.int (fA m ds))),qD bO m f),af)from by
   obtain lm:=gh ..;have sh:=TR (L lm cZ);obtain t:(ba bI 30 pg (qD bO m f) _).2 af=B _:=by refine Y ((show(ba bI 30 pg (qD bO m f) (IK (dx (kO 1)))).2 af=(ub (.ret bO)) af from by lk) ..) (Y (aix hd) ?_);show Ev.of (a8 (dc _) _) af=_;rw[sh];rfl
   refine qB (Tr ?_);induction ds with
   |nil=>exact Y (Iz t) rfl
   |cons d ds=>
    obtain u:=IE m f bO (d::ds) af cw cZ dd d1 (λ X lr=>by rw[aiy hd,aiA cZ lr];rfl) 5 0 (O (d::ds)) (fV (hO _)) (fp _) cZ;rw[hO,aon,ow]at u;exact Y (Cd t) (Y (u9 f af rfl ((by
      simp only[(show agree (lK bO m f) (qD bO m f)=(j9 bO bO&&(j9 (.d (.int m)) (.d (.int m))&&(j9 (.d (.obj f)) (.d (.obj f))&&S))) by lk),qz,qz,qz];rfl) ..) (aiw bO m f af (lm▸(Tx (T3 hd) sh)))) u))) Q E (gn.ok λ b h' el aA mz fO o4 dh=>?_) eC.ok
 exact dp b _ h' el aA rfl (my.trans mz) fO o4 ⟨dh.1,bt.nil (bt.Ci dh.2)⟩theorem T6(G:hh g ee)(n:J):gP g Io n:=⟨λ e=>(bw e),G,λ u u e=>(nn e),λ id x ok=>yf (.cons PE .nil),λ u u u u u=>.au,λ u u u u u u u u u u u e=>(nn e),λ u u u u u=>.au,λ u u u u u u u u u=>.au,λ u u u u u u u u=>.au,λ u u u u u u u=>.au,λ u u u u u u u=>.au,λ u u u u u u=>.au⟩def qE(P:dj):H (ah×aq):=match(Fo P).data with|.set es _ _=>es.toList|_=>[]
noncomputable def va:aq->J
 |.int k _=>k.toNat|_=>0
section
variable {g:bX}(bu:g.K=ed g.w.params)
include bu
theorem aiC:g.K.SetOf (tm g.prog g.w) B0 (λ i=>(qE g.w.params).any λ e=>pO i e.2) 27:=by
 refine(hV (Fo g.w.params) _ _ _ ⟨?_,⟨rfl,rfl,rfl⟩,rfl,?_,λ k=>Lc.trans Iff.rfl,by decide,rfl,rfl⟩)
 ·rw[bu];exact jd rfl (by lk) rfl
 ·obtain K:∀e∈(qE g.w.params),(∃k,pO k e.2=S/\e.1=te k)/\e.2.scannable=true:=by have:((qE g.w.params).all λ e=>pO (va e.2) e.2&&(e.1==te (va e.2)&&e.2.scannable))=true:=rfl;intro e x;have h:=bo (b9.mp this e x);have j:=bo h.2;exact⟨⟨_,h.1,cI.mp j.1⟩,j.2⟩
  exact K
end
theorem aiD(P:dj)(c:J):((qE P).any λ e=>pO (c:ah) e.2)=u2.contains c:=by
 obtain e:∀l:H J,(l.any λ k=>pO c (.int k 0))=l.contains c:=by
  intro l;induction l with
  |nil=>rfl
  |cons k l i=>
   apply Y D9;congr 1;show(k==(c:ah))=(c==k);by_cases h:c=k
   ·subst h;simp
   ·simp[DT.mpr h,DT.mpr ((ao6 rfl rfl λ a=>h (id (om a))))]
 obtain E:((qE P).any λ e=>pO c e.2)=(((qE P).map λ e=>va e.2).any λ k=>pO c (.int k 0)):=by
  obtain this:∀l:H (ah×aq),(l.all λ e=>match e.2 with|.int k _=>decide (0<=k)|_=>aj)=S->(l.any λ e=>pO c e.2)=l.any ((λ k:J=>pO c (.int k 0)) ∘ λ e=>va e.2):=by intro l;induction l with|nil=>intro u;rfl|cons a l i=>intro h;have h:=bo h;show(_||l.any _)=(_||l.any _);rw[i h.2];congr 1;have W:=h.1;obtain⟨a,v⟩:=a;dsimp only at W ⊢;cases v with|int k t=>show _=(k.toNat==(c:ah));exact L (Int.toNat_of_nonneg (iN W)) rfl|_=>exact bw W
  exact this _ rfl
 simp only[E,e];obtain p:=by have:(((qE P).map λ e=>va e.2).all λ k=>u2.contains k)=true:=rfl;exact λ k n=>oq.mp (b9.mp this k n)
 obtain Q:∀k∈u2,k∈((qE P).map λ e=>va e.2):=by exact λ k n=>oq.mp (b9.mp rfl k n)
 rw[DK,oq,oq];exact⟨p c,Q c⟩
theorem aiE(bu:g.K=ed g.w.params)(y:cU g x env n)(j: [r].all hY=S)(m:TE g x env ρ (bG l env) M)(V:TE g x env ρ (bG r env) W):
  TE g x env ρ (bG (.Compare l [.In] [r] P) env) (M.bind λ a=>W.bind λ b=>So a b):=by
 simp[arm_eval_Compare,Gb _ _ _ j];refine ag.cv y m λ v a=>?_;have e:YR P v [CmpOp.In] (iQ [r] env)=(d_ [v] (bG r env)>>=λ u=>dZ P>>=λ z=>zx [v,u] (kv .In v u)>>=λ c=>pure c):=Oh P v .In _;refine ax e.symm (ag.hk y (y.hn v a) V.holding λ u b=>ag.standAt ?_);simp[YS];apply ag.operate;intro α σ s X af I dm p e Q E G he;refine iA e λ d A R=>BQ R λ o C R=>bN R λ i R=>iA R λ f9 D R=>nV R λ c F dQ=>?_;subst A C D F;obtain f:=bf (ak dQ);obtain⟨⟨_,N⟩,eE⟩:=p;refine a7 (aV.inv N) λ t1 wU=>L wU ?_;obtain⟨rfl,_⟩:=aV.inv eE;refine L (eq_of_beq i) ?_;obtain Sq:s.heap.SetOf _ B0 _ 27:=by exact(λ h k=>hx h λ x y z w h=>k x y z w h.1 h.2) (aiC bu) λ o es c3 t i q=>(⟨o,es,c3,t,I.base _ _ i,q⟩)
 exact wpAny_inSet_of (by show _=S;exact beq_int_true rfl) rfl Sq (L (aiD ..) (G _ _ s.heap _ α f.1.symm (.refl ..) (ax f.2 I) (i_ ..) (.bool _)))
section
variable {g:bX}(bu:g.K=ed g.w.params)
include bu
theorem aiF:eB g 133 (.plain .plain) (aY 21):=gi bu "in_table_b1" "cpy313.stringprep" 456 519 1 rfl (by decide) (by lk)theorem aiG(Bq:Base g)(G:hh g ee)(n:J):cK g 133 (n+1) Ss:=by refine mL (aiF bu) Bq λ ρ x e o c=>(o1 (xx c (aiE bu c.y rfl (f7 (T6 G n) 30 _ ρ _ x e c.y c.cM).1 (f7 (T6 G n) 30 _ ρ _ x e c.y c.cM).1)) λ ρ=>qf)
theorem aiH(Bq:Base g)(G:hh g ee)(V:6<=n):cK g 94 (n+1) mJ:=by
 obtain F:=aib bu;refine⟨av F.there λ o a b=>(bh o ka ⟨a,b⟩),λ x ok vs as k ks=>?_⟩;intro α σ s f af I T p e Q E M y;refine bN e λ X e=>nL e λ l v1 z e=>iA e λ uu N e=>nV e λ a i e=>iA e λ f9 A e=>nV e λ m q dQ=>?_;obtain rfl:=k4.mp X;subst z N i A q;obtain⟨P,C⟩:=p;cases C;obtain r:rh ka ⟨vs,[]⟩=pure _:=by refine f5 (Ff P.length) λ u v W=>?_;subst W;lk
 exact Bl .plain F Bq ok (pre:=λ α h=>bU _ α h vs [.d _,.d _]) (bs:=(["a","n"]:H ai).zip [.d _,.d _]) (λ α σ s I p=>⟨.of_eq r,p.zip,Hm (Hn rfl)⟩) rfl (λ h5 R D j w w w c=>a7 j λ w t=>L t (aiu bu Bq G (ax t c) V a m)) α σ s f af I T P dQ Q E M y
theorem aiI(Bq:Base g)(G:hh g ee)(V:6<=n):cK g 101 (n+1) lH:=by
 obtain F:=aic bu;refine⟨av F.there λ o a b=>(bh o pf ⟨a,b⟩),λ x ok vs as k ks=>?_⟩;intro α σ s f af I T p e Q E M y;refine bN e λ X e=>nL e λ D j z e=>iA e λ f9 A e=>nV e λ m N dQ=>?_;obtain rfl:=k4.mp X;subst z A N;obtain⟨P,C⟩:=p;cases C;obtain q:rh pf ⟨vs,[]⟩=pure _:=by refine f5 (Ff P.length) λ u v W=>?_;subst W;lk
 exact Bl .plain F Bq ok (pre:=λ α h=>bU _ α h vs [D,.d _]) (bs:=(["digits","n"]:H ai).zip [D,.d _]) (λ α σ s I p=>⟨.of_eq q,p.zip,Hm (Hn rfl)⟩) rfl (λ l R r i w w w c=>a7 i λ w t=>L t (aiB bu Bq G (ax t c) V D m)) α σ s f af I T P dQ Q E M y
end
theorem abb(w:di)(os:eS):oH w 265 (Ab w os) (nr 0 10 ⟨0,0,0,0⟩)=B (.next,M0 w os,iy,⟨69,0,89,24⟩):=by lk
theorem abc(w:di)(os:eS):oH w 238 (M0 w os) (nr 10 9 ⟨69,0,89,24⟩)=B (.next,Fn w os,iy,⟨165,0,165,8⟩):=by lk
theorem FG: @tk=@PySem.W.Fast.tw10110043849684766642:=PySem.W.Fast.te10110043849684766642
theorem FH:jM=PySem.W.Fast.tw14364793385576792824:=anT
abbrev FI(w:di):Prop:=∀os,oH w 999 (Fn w os) (nr 19 1 ⟨165,0,165,8⟩)=B (.next,Fp w os,iy,⟨166,0,166,6⟩)theorem abd(w:di):FI (w.withFollow "special-get-raises" aj):=λ os=>by show tk _ _ _ _ _ _ _ _ _=_;rw[FG,FH];lk
theorem abe(w:di):FI (w.withFollow "special-get-raises" S):=λ os=>by show tk _ _ _ _ _ _ _ _ _=_;rw[FG,FH];lk
theorem abf(w:di)(os:eS):oH w 999 (Fn w os) (nr 19 1 ⟨165,0,165,8⟩)=B (.next,Fp w os,iy,⟨166,0,166,6⟩):=
 byRow2 (P:=FI) "special-get-raises" abd abe w os
theorem abg(w:di)(os:eS):oH w 30 (Fp w os) (nr 20 1 ⟨166,0,166,6⟩)=B (.next,M8 w os,iy,⟨167,0,168,30⟩):=by lk
theorem abj(w:di)(os:eS):oH w 215 (Na w os) (nr 22 5 ⟨169,0,169,13⟩)=B (.next,Nd w os,iy,⟨179,0,179,20⟩):=by lk
theorem abk(w:di)(os:eS):oH w 729 (Nd w os) (nr 27 1 ⟨179,0,179,20⟩)=B (.next,Ni w os,iy,⟨180,0,254,16⟩):=by show tk _ _ _ _ _ _ _ _ _=_;rw[FG,FH];lk
theorem abl(w:di)(os:eS):oH w 248 (Ni w os) (nr 28 10 ⟨180,0,254,16⟩)=B (.next,Nj w os,iy,⟨339,0,375,192⟩):=by lk
theorem abm(w:di):(λ os=>(fenceModules? eA ⟨Nk w.params, #[],⟨0,0,0,0⟩,276,os⟩).map (λ s=>(s.heap,s.gens,s.drawn,s.toks)))=λ u=>B (p0 w.params, #[],⟨0,0,0,0⟩,276):=by lk
theorem abn(w:di):importEnds jM (opening eA) w 799 (start (opening eA)).1 (start (opening eA)).2=B ⟨Nk w.params, #[],⟨0,0,0,0⟩,276,(start (opening eA)).1.os⟩:=by rw[PySem.W.Fast.te10274390034422433532,anT];lk
theorem abo(w:di)(os:eS):topGo jM eA w 28 jS 12 ⟨p0 w.params, #[],⟨0,0,0,0⟩,276,os⟩ (topStub eA)=B ((Ab w os).abs,⟨denote jM iy,iy,kA,[vS kA]⟩):=by lk
theorem abp(w:di)(os:eS):segRun jM eA w 28 jS 1 1 (Ab w os).abs (blockOf rJ hW iy kA [vS kA])=B (.next,(Ab w os).abs,iy,kA):=rfl
theorem fin_run(w:di)(os:eS):topRun jM eA w 28 jS 2 (Nj w os).abs ⟨doneF .next,iy,⟨339,0,375,192⟩,[vS kA]⟩=B ⟨H1 w.params, #[],⟨0,0,0,0⟩,2768,os⟩:=by lk
noncomputable abbrev FP:Nat:=40000
theorem abq(w:di)(os:eS):topRun jM eA w 28 jS (12+(1+(265+(238+(999+(30+(12525+(215+(729+(248+2)))))))))) ⟨p0 w.params, #[],⟨0,0,0,0⟩,276,os⟩ (topStub eA)=B ⟨H1 w.params, #[],⟨0,0,0,0⟩,2768,os⟩:=go_top (abo w os) (piece_block (abp w os) (L (aM (λ b=>restOf b hW iy kA [vS kA]) (show rJ=md 0 10++(md 10 9++(md 19 1++(md 20 1++(md 21 1++(md 22 5++(md 27 1++(md 28 10++ [])))))))from rfl)) (tn (tp (abb w os)) (tn (tp (abc w os)) (tn (tp (abf w os)) (tn (tp (abg w os)) (tn (tp (abi w os)) (tn (tp (abj w os)) (tn (tp (abk w os)) (tn (tp (abl w os)) (fin_run w os)))))))))))
theorem abr:∀w:di,(fencedOpening jM eA w FP).map (λ s=>(s.heap,s.gens,s.drawn,s.toks))=B (p0 w.params, #[],⟨0,0,0,0⟩,276):=
 open_cut abn rfl abm
def iU:Program:={eA with main:={eA.main with body:=[aY 38] } }def p3:H Str:=(eA.boundNames.filter λ n=>n !=("law" :ai))++ [("__annotations__" :ai)]theorem abt(w:di)(os:eS):(staticsOk (K4 eA.main.body) (p0 w.params) (H1 w.params)&&namesBound eA (H1 w.params)&&gensDone ⟨H1 w.params, #[],⟨0,0,0,0⟩,2768,os⟩&&laidKept (p0 w.params) (H1 w.params))=true:=by lk
abbrev rowL:OpenRow:=anV.row
noncomputable def wM(s:aU):H (U fe)×Nat:=(s.heap.objs.toList.map B,s.toks)def wN(w:di):H (U fe)×Nat:=((H1 w.params).objs.toList.map B,2768)
theorem abu(w:di):(λ os=>((staticsOk (K4 eA.main.body) (p0 w.params) (H1 w.params)&&namesBound eA (H1 w.params)&&gensDone ⟨H1 w.params, #[],⟨0,0,0,0⟩,2768,os⟩&&laidKept (p0 w.params) (H1 w.params)),
  openSeen iU p3 (K4 eA.main.body) (λ u=>S) S ⟨H1 w.params, #[],⟨0,0,0,0⟩,2768,os⟩,wM (⟨H1 w.params, #[],⟨0,0,0,0⟩,2768,os⟩:aU)))=λ u=>(S,openGood iU p3,wN w):=by
 funext os;rw[abt w os,(show openSeen iU p3 _ _ S ⟨H1 w.params, #[],⟨0,0,0,0⟩,2768,os⟩=openGood iU p3 from by rw[PySem.W.Fast.te4187177175401517315];lk)];rfl
theorem abv:LeftO eA iU p3 (λ u=>S) wM wN FP:=
 LeftO.of_pieces abr (λ w=>by lk) abq rfl abu
set_option maxHeartbeats 8000000 in
theorem abw(P:rowL.wellSaid=S)(call:∀d kwd,tq iU rowL.name=B (d,kwd)->WalkX iU p3 (λ u u=>True) wM wN rowL.toRowW d kwd λ f vs=>K5 f vs):rowL.Holds:=by
 have h:(tq iU rowL.name).isSome=true:=rfl;have l:tq iU rowL.name=B (((tq iU rowL.name).get h).1,((tq iU rowL.name).get h).2):=(Option.some_get h).symm;refine holds_openX (r:=rowL) (q:=iU) (loose:=p3) (Xt:=λ u=>S) (XP:=λ u u=>True) (Yf:=wM) (Ya:=wN) (d:=((tq iU rowL.name).get h).1) (kwd:=((tq iU rowL.name).get h).2) (N:=FP) abv (λ u u=>trivial) (λ u u u u u=>trivial) l ?hp ?hk (λ s u=>recFacts_nil rfl) (by rfl) P ?ok ⟨rfl,rfl,rfl,rfl,rfl,by delta Program.tablesWhole TablesWhole.wProgram;rw[PySem.W.Fast.te6116379765354995101];lk⟩ ?hw (call _ _ l);case ok=>decide+kernel
 case hw=>w_witness2
 case hp=>rfl
 case hk=>rfl
abbrev lawL:OpenLaw:=anV
theorem abx:(sreFenced lawL.prog.main)=true:=by rw[PySem.W.Fast.te11788848310118352699];lk
theorem aby:((moduleNames lawL.prog.main.body).isEmpty||lookedIntoSs (moduleNames lawL.prog.main.body) lawL.prog.main.body)=true:=by lk
theorem abz:(namesResolve lawL.prog)=true:=by rw[PySem.W.Fast.te8377067652309620493];lk
theorem abA:(lawL.prog.boundNames.all (λ n=> !worldNames.contains n))=true:=by lk
theorem abB:(["vars","dir","locals"]:H ai).filter (readsOut lawL.prog lawL.prog.main.body)=[]:=by rw[PySem.W.Fast.te13343964577679436407];lk
theorem abC:(noRoadLSs {strict:= !(K4 lawL.prog.main.body).all cThrough.contains,foot:=aa,bare:=(["vars","dir","locals"]:H ai).filter (readsOut lawL.prog lawL.prog.main.body) } lawL.prog.main.body)=true:=by rw[abB,anW];lk
theorem abD:(K6 lawL.prog lawL.prog.main.body λ u n=>attrL n)=true:=by lk
theorem abE:(rowL.loose.isEmpty)=true:=rfl
theorem abF:(rowL.makers.isEmpty)=true:=rfl
theorem abG:((rowL.records.isEmpty||rowL.raises.all λ ct=>ct.1 !=.builtin "AttributeError"&&ct.1 !=.builtin "TypeError"))=true:=rfl
theorem abH:((rowL.raises.all λ ct=>match ct.1 with|.builtin n=> !rowL.prog.boundNames.contains (ep n)&&!ofTheWorld.contains n|.own _=>S))=true:=rfl
theorem abI:(decide (rowL.records.map (·.1)).Nodup)=true:=rfl
theorem abJ:((rowL.records.all λ x=> !x.1.opensWith "__"&&!YH x.1&&rowL.prog.boundNames.contains x.1&&x.2.all λ f=> !f.1.opensWith "__"))=true:=rfl
theorem abK:(rowL.toRowW.solid)=true:=by lk
theorem abL:(rowL.pre.litsOk)=true:=by lk
theorem abM:(rowL.post.litsOk)=true:=by lk
theorem abN:(rowL.raises.all (·.2.litsOk))=true:=rfl
theorem abO:(rowL.mutates.all (λ i=>match rowL.args[i]? with|some s=> !s.arms.any WShape.isObj|none=>aj))=true:=rfl
theorem abP:(rowL.within.all (λ i=>decide (i<O rowL.args)))=true:=rfl
theorem abQ:(rowL.same.all (λ i=>decide (i<O rowL.args)))=true:=rfl
theorem abR:(rowL.prog.boundNames.contains rowL.name)=true:=rfl
theorem abS:(!startupNames.contains rowL.name)=true:=rfl
theorem abT:(decide (lawL.foot<=O (behindTheImports lawL.prog)))=true:=rfl
theorem abU:(lawL.footing.all footLine)=true:=by lk
theorem abV:(noClassBlock lawL.prog lawL.footing)=true:=by lk
theorem abW:(lawL.most.all (λ n=>decide (63<=n)))=true:=rfl
theorem abX:(lawL.bound.all (λ n=>decide (2^63<=n)))=true:=rfl
theorem abY:(noRoadLSs {strict:=S,foot:=B lawL.bound',writes:=lawL.writes,may:=lawL.may} lawL.footing)=true:=by rw[anW];lk
theorem abZ:(defStands lawL.about lawL.above)=true:=by lk
theorem ab0:(lawL.namesIt)=true:=by lk
theorem ab1:((["type","isinstance","issubclass","getattr","hasattr"]:H ai).all (λ n=>lawL.about !=[n]))=true:=rfl
theorem ab2:(lawL.bound'.all (λ n=> !YH n||lawL.about==[n]|| !lawL.reads n))=true:=by lk
theorem ab3:((!lawL.writes|| (lawL.prog.main.body.flatMap importedNames).all λ n=> !lawL.reads n))=true:=rfl
theorem ab4:((lawL.prog.main.body.flatMap importedNames).all (λ n=> !lawL.reads n|| (drawsOf n lawL.prog.main.body).all λ m=>m.2 !=("attrgetter" :ai)&&m.2 !=("methodcaller" :ai)))=true:=by lk
theorem ab5:(K6 lawL.prog lawL.footing (λ s n=>(!(["type","isinstance","issubclass","getattr","hasattr"]:H ai).contains n||s.names.lookup n==B .globalImplicit)&&(lawL.may !=B n||s.kind==.module||s.names.lookup n==B .globalImplicit)))=true:=by rw[YI];lk
theorem ab6:(lawL.own.contains lawL.name)=true:=rfl
theorem ab7:(O lawL.own.eraseDups==O lawL.own)=true:=rfl
theorem ab8:(lawL.own.all (λ n=> !YH n))=true:=by lk
theorem ab9:(K6 lawL.prog lawL.above (λ u n=> !lawL.own.contains n))=true:=by rw[YI];lk
theorem ab_:(K6 lawL.prog lawL.footing λ s n=>s.kind==.module||s.names.lookup n !=B .globalExplicit)=true:=by rw[YI];lk
theorem aca:lawL.wellSaid=true:=ec (ec (ec (ec (ec (ec (ec (ec (ec (ec (ec (ec (ec (ec (ec (ec (ec (ec ((ec (ec ((ec (ec (ec (ec (ec (ec (ec (ec (ec (ec (ec (ec (ec ((ec (ec (ec (ec (ec abx aby) abz) abA) abC) abD)) abE) abF) abG) abH) abI) abJ) abK) abL) abM) abN) abO) abP) abQ)) abR) abS)) abT) abU) abV) abW) abX) abY) abZ) ab0) ab1) ab2) ab3) ab4) ab5) ab6) ab7) ab8) ab9) ab_
theorem acb(call:∀d kwd,tq iU rowL.name=B (d,kwd)->WalkX iU p3 (λ u u=>True) wM wN rowL.toRowW d kwd λ f vs=>K5 f vs):PySem.Challenge.rw_ta0134_01.Holds:=holds_law aca λ s=>abw s call
def Cj:Heap:=⟨(hQ 10 l7).toArray,{}⟩
theorem T7(b:ao):Cj.get? b=none:=by
 have:∀b,b<10->Cj.get? b=none:=by decide
 by_cases h:b<10
 ·exact this b h
 ·have:Cj.objs[b]?=none:=Array.getElem?_eq_none (zF h)
  unfold D4;exact L this rfl
def n2(w:di):bX:=⟨rowL.prog,w,[],ed w.params,Cj⟩noncomputable def vb:bD:=⟨callerA,[],[],[],[]⟩
theorem Ck(w:di):Base (n2 w):=⟨(show tv (ed w.params)from by
  exact cq (bF.mp (show((ed w.params).isNs DW&&((ed w.params).nsMap DW sharingNotToldKey).isNone)=S by lk)) λ e E=>⟨_,vT e,by simpa using E⟩),show th<10 by decide⟩
theorem aiJ(w:di):eW (n2 w) vb 40:=⟨λ u h=>h,λ u h=>h,rfl,λ u=>rfl,by decide,by decide,(show(ed w.params).NoLimit from by
  exact cq (bF.mp (show((ed w.params).isNs DW&&((ed w.params).nsMap DW _).isNone)=S by lk)) λ e E=>⟨_,vT e,by simpa using E⟩)⟩
theorem aiK(w:di):gp (n2 w):=by
 have k:(n2 w).K=ed (n2 w).w.params:=rfl;refine⟨Ck w,wA k,aal k,aam k,aan k,aao k,aaR k,λ a c n e V=>?_⟩;unfold Su at e;revert e;refine dO (a==Sj) (λ h=>?_) λ h=>?_<;>rw[h]
 ·exact λ e=>ak e▸cI.mp h▸ye (aiH k (Ck w) (wA k) (by lia))
 refine dO (a==Sk) (λ h=>?_) λ h=>?_<;>rw[h]
 ·exact λ e=>ak e▸cI.mp h▸ye (aiI k (Ck w) (wA k) (by lia))
 refine dO (a==Ik) (λ h=>?_) λ h=>?_<;>rw[h]
 ·exact λ e=>ak e▸cI.mp h▸ye (aiG k (Ck w) (wA k) n)
 ·exact nn
theorem ints_rep(r:IntsAre vs N):bT X h vs (N.map D.int):=by induction r with|nil=>exact .nil|cons n t _ i=>exact .cons (.int n t) i
theorem IQ(P:dj):(H1 P).get? 89=B (wh #[])/\(H1 P).get? 96=B (wh #[])/\(H1 P).get? 93=B (Fl P)/\(H1 P).get? 100=B (Fm P):=
 ⟨Y (m7 (o:=wh #[]) (show 89<371 by decide) (by lk)) rfl,Y (m7 (o:=wh #[]) (show 96<371 by decide) (by lk)) rfl,Y (m7 (o:=Fl P) (show 93<371 by decide) (by lk)) rfl,Y (m7 (o:=Fm P) (show 100<371 by decide) (by lk)) rfl⟩
theorem aiL{s:aU}(d:(H1 w.params).StaysIn s.heap)(I:10<=s.heap.objs.size):aG (n2 w) vb [89,96] bK s.heap:=by
 refine pS (IQ w.params) λ t1 t f f=>?_;obtain⟨n,N⟩:=(show(ed w.params).get? 89=aa/\(ed w.params).get? 96=aa from⟨Y (m7 (o:=l7) (show 89<371 by decide) (by lk)) rfl,Y (m7 (o:=l7) (show 96<371 by decide) (by lk)) rfl⟩);refine⟨λ b o e=>d b o (E2 e),I,λ a c=>?_,λ a c=>(nomatch c),by decide,λ a u h=>(nomatch h),.cons ⟨rfl, #[],d _ _ t1,.inl rfl⟩ (.cons ⟨rfl, #[],d _ _ t,.inl rfl⟩ .nil),λ e x=>(aR x dS),⟨λ b o e=>?_,λ b o e=>?_⟩⟩
 ·rcases c with c|c
  ·exact nomatch c
  ·simp[dM,dS,jQ]at c
   rcases c with rfl|rfl
   ·exact⟨n,by show 10<=89;lia⟩
   ·exact⟨N,by show 10<=96;lia⟩
 ·rw[show(n2 w).h₀.get? b=aa from T7 b]at e;cases e
 ·rw[show(n2 w).h₀.get? b=aa from T7 b]at e;exact nn e
theorem aiM(b:(H1 P).StaysIn h):isCodeTable h 89/\isCodeTable h 96:=pS (IQ P) λ u u t T=>(⟨(e_ 93 _ _ ⟨b _ _ t,rfl,rfl,rfl⟩),(e_ 100 _ _ ⟨b _ _ T,rfl,rfl,rfl⟩)⟩)
theorem aiN(d:(H1 w.params).StaysIn h)(st:a_ [] [] [89,96] h aA h')(I:aG (n2 w) vb aA af h')(p:af[0]?=B (.tab 89 121 4 lG))(W:af[1]?=B (.tab 96 136 4 mI)):OldK h h':=by
 refine pS (IQ w.params) λ t1 t u u=>?_;obtain⟨C,f⟩:=aiM d;refine av st.ext λ r T u=>?_;subst T;have iS:∀(i:J) a (l c) q,([89,96]++r)[i]?=B a->af[i]?=B (.tab a l c q)->∃vs,h'.get? a=B {cls:=.none,data:=.fields vs} :=by refine λ i a l c q z es=>av (I.bM.get z) λ m E M=>?_;rw[es]at E;obtain rfl:=ak E;obtain⟨_,vs,e,_⟩:=M;exact⟨vs,e⟩
 obtain⟨v,K⟩:=iS 0 89 _ _ _ rfl p;obtain⟨V,n⟩:=iS 1 96 _ _ _ rfl W;have k:∀b o,h.get? b=B o->asItWas h h' b o:=by
  intro b o e;by_cases P:b=89
  ·subst P
   rw[d _ _ t1]at e;obtain rfl:=ak e;exact .inr (.inl ⟨C,rfl, #[],v,rfl,by rw[K];simp⟩)
  ·by_cases c4:b=96
   ·subst c4
    rw[d _ _ t]at e;obtain rfl:=ak e;exact .inr (.inl ⟨f,rfl, #[],V,rfl,by rw[n];simp⟩)
   ·exact .inl (st.same b o e (λ q=>by cases q) (λ q=>by cases q) (by simp[P,c4]))
 refine⟨k,λ b o e=>?_⟩;rcases k b o e with q|⟨_,_,_,_,_,q⟩|⟨_,_,⟨_,_,_,q,_⟩,_⟩
 ·exact⟨_,q⟩
 ·exact⟨_,q⟩
 ·exact⟨_,q⟩theorem T8{h:aX}(x:h.Ns a m)(y:h.Ns a M)(n:ai):m n=M n:=by refine O_ x λ o es r W j u v=>(O_ y λ T e E c q u A=>?_);rw[W]at c;obtain rfl:=ak c;rw[j]at q;injection q with q;subst q;rw[<-v,<-A]
set_option tactic.hygienic true in
theorem law_fin(Yq:∃C:bV,(∀g,gp g->cK g 370 40 C)/\∀l:H ah,l.length<=63->∃af,C [.d (.ae (l.map D.int))] [] bK=B (.ok (.d (.bool S)),af)/\af[0]?=B (.tab 89 121 4 lG)/\af[1]?=B (.tab 96 136 4 mI)):PySem.Challenge.rw_ta0134_01.Holds:=by
 refine acb λ d kwd hd=>?_;intro w Cm yn jn Av G y IS o pm cd doc apA apB dw hdd hcd apC Cn ju args vals as aN aiO aiP Co hwl hlo
 wrow_args aiO aiP Co hwl hlo
 rename_i ns _ _ _ _ _ _ _ AX vs _ lr _ _ _ hints _ hlen _;have hy1:Cm.heap.objs.toList.map B=(H1 w.params).objs.toList.map some:=aM Zb y;have hy2:Cm.toks=2768:=aM Prod.snd y;have OM:=X.script_toks aN hy2;have aiQ:=X.script_obj aN lr;have hC:Cm.heap.objs=(H1 w.params).objs:=by have:=List.map_inj_right (f:=B) (λ u u e=>ak e)|>.mp hy1;exact ZH.mp this
 have Cp:(H1 w.params).StaysIn yn.heap:=by intro b o e;refine aN.keeps b o ?_;unfold D4 at e ⊢;rw[hC];exact e
 have w8:yn.heap.objs.size=372:=by have:=(X.script_at aN).2;rw[this,show Cm.heap.objs.size=371 by rw[hC];lk]
 have hla:AX=371:=by rw[(X.script_at aN).1,hC];lk
 have T9:d.name=rowL.name:=defOf_name hd;have hfa:IS=370:=by
  have nS:=G.T.g;have gl:=wA (g:=n2 w) rfl;obtain⟨mg',mb',q1,_,aiR⟩:=gl.ex;have e:ee.lookup (ep "law")=B (.obj 370):=by lk
  rcases aiR _ _ e with⟨v,f3,r⟩|⟨f3,_⟩
  ·have ho:jn (ep "law")=B v:=(T8 nS (q1.keeps λ b o e=>Cp b o (E2 e)) _).trans f3
   rw[T9]at Cn;have iw:jn (ep "law")=B (.ref IS):=Cn;rw[ho]at iw;exact YN ((ak iw).symm.trans r.inv.1)
  ·have ho:jn (ep "law")=none:=(T8 nS (q1.keeps λ b o e=>Cp b o (E2 e)) _).trans f3
   rw[T9]at Cn;have iw:jn (ep "law")=B (.ref IS):=Cn;exact nn (ho.symm.trans iw)
 subst hfa hla;have I:=aiL Cp (by lia);obtain⟨C,hF,Yq⟩:=Yq;obtain⟨af,aiS,h0,c5⟩:=Yq ns (by lia);have K:=hF _ (aiK w);have aiT:371∉vb.P++ [89,96]:=by decide
 have Cq:aV (vb.P++ [89,96]) yn.heap (.ref 371) (.ae (ns.map D.int)):=.ae aiT ⟨0,aiQ⟩ (ints_rep hints);refine K.call vb (aiJ w) [.ref 371] [.d (.ae (ns.map D.int))] [] [] [89,96] bK yn _ af I (by lia) ⟨.cons Cq .nil,.nil⟩ aiS _ _ (λ b r h' el aA dw st eX j2 dh=>?_) eC.ok;cases dw;obtain rfl:b=.bool true:=aV.inv dh;refine⟨.inl ⟨.bool S,.bool S,[],rfl,λ cls=>rfl,.bool S,by lk,λ u=>⟨.nil,λ a hy=>by cases hy⟩⟩,aiN Cp st eX h0 c5,rfl,λ o8 hgs=>?_⟩;have:o8∈yn.gens:=hgs;rw[ju]at this;simp at this
theorem good0:bY bK:=⟨rfl,rfl,rfl⟩theorem st(h:∀k,SL (FL ch) N pr s k=k p):yY ch N (fQ pr) [s] bK=B (.ok (.next,fQ p),bK):=ame (XU ch) h good0
abbrev vG(ch:H D->U D)(N:J)(pr:cz)(b:H bx):Prop:=∃ar,yY ch N (fQ pr) b bK=B (.ok (.ret (.d (.bool S)),ar),bK)theorem Kz(h:yY ch (N+2) (fQ pr) [s] bK=B (.ok (.next,fQ p),bK))(q:vG ch (N+1) p b):vG ch (N+2) pr (s::b):=q.elim λ ar g=>⟨ar,Y (cS h) g⟩theorem go(h:∀k,SL (FL ch) (N+2) pr s k=k p)(q:vG ch (N+1) p b):vG ch (N+2) pr (s::b):=Kz (st h) q
theorem KA(h:a=B x)(j:b=B y)(v:c=B z):cQ [a,b,c]=B [x,y,z]:=h▸j▸v▸rfl
theorem oe{f:D->U D}(e:l=o.bind f)(h:o=B x):l=f x:=Y e (L h rfl)theorem y4{f:D->U D}(e:l=(o.map D.ae).bind f)(h:o=B x):l=f (.ae x):=Y e (L h rfl)
theorem anh(v:J->D){lo M p Q i R N T:J}(W:lo<5)(j:M<4)(cZ:p<4)(I:Q<7)(P:i<6)(lA:R<65536)(fs:N<65536)(gC:T<65536):
  vG ch 49 (m1 (.int (lo:J)) (.int (p:J)) (Ke M) (y1 Q) (.ae (bb [R,N,T])) (.int (i:J)) v) [lw 11,lw 12,lw 13,lw 14,lw 15,lw 16,lw 17,lw 18,lw 19,lw 20,lw 21,lw 22,lw 23,lw 24,lw 25,lw 26,lw 27,lw 28,lw 29]:=by
 have F:=a4.mpr W;have E:=a4.mpr j;have m:=a4.mpr I;have X:=a4.mpr P;refine am3 P λ a0 A g C q0 q1 G=>?_;have fq:Kf i=.ae [.int (8*a0),.int (8*A),.int (8*g)]:=by unfold Kf;exact L C rfl
 have QM:=Ku (ch:=ch) (lamp:=0) lA q0 (by decide);have mq:=Ku (ch:=ch) (lamp:=1) fs q1 (by decide);have c4:=Ku (ch:=ch) (lamp:=2) gC G (by decide);have ani:=Y (aM (λ l=>cQ (pJ (λ r a=>Ki r (.int (a:J))) [.int R,.int N,.int T] l)) C) (KA (Kw R q0) (Kw N q1) (Kw T G));have n:R/2^(8*a0)% 256<256:=dN _ (by decide);have K:N/2^(8*A)% 256<256:=dN _ (by decide);have pa:T/2^(8*g)% 256<256:=dN _ (by decide);generalize R/2^(8*a0)% 256=s0 at*;generalize N/2^(8*A)% 256=s1 at*;generalize T/2^(8*g)% 256=V at*;have mg:=ND s0 s1 V;refine ff (am9 mg.2) λ t1 h8 t3=>?_;have Cq:=(show lb s0 s1 V<217 from D1 (EB _ g0));have nD:=a4.mpr Cq;refine go (λ k=>y4 (bc (amr ..) m) ((by
   refine DH λ o dw=>?_;obtain⟨A,g⟩:=bF.mp (b9.mp (b9.mp (show((aw 7).all λ Q=>(aw 6).all λ o=>bE (ta o Q) 48&&!aL (ta o Q% 8) 4)=S from by lk) Q (a4.mpr I)) o dw);refine(?_:a8 _ _=_);simp only[A,g,cg.mpr W,dD (show M+1<=4 by assumption),cg.mpr cZ];rfl))) (go (λ k=>oe (amt ..) (bc (bc (bc am1 F) E) m)) (go (λ k=>bc (amu ..) X) (L fq (go (λ k=>Y (y4 (amv ..) (KA QM mq c4)) (amw ..)) (go (λ k=>amx ..) (Kz (amy ..) (go (λ k=>oe (amz ..) (Y (am8 s0 s1 V) (aM B h8))) (go (λ k=>oe (amA ..) ((by
     rw[DH λ c C=>?_]
     ·rfl
     ·refine(?_:a8 _ _=_)
      simp only[cg.mpr (a4.mp C),cg.mpr W,dD (show M+1<=4 by exact ao2 j)];rfl))) (go (λ k=>bc (amB ..) (a4.mpr t1)) ?_)))))))))
 rw[t3,mg.1];exact go (λ k=>amC ..) (go (λ k=>y4 (bc (amD ..) X) ani) (go (λ k=>y4 (amE ..) (KA (Ky n) (Ky K) (Ky pa))) (go (λ k=>oe (amF ..) (ana s0 s1 V)) (go (λ k=>Kd (FL ch) k 33 24 _ (.inr (.inl rfl)) (Y (amG ..) (anc Cq))) (go (λ k=>oe (amH ..) (Y ((show Kj s0 s1 V=B (.bool (never s0 s1 V))from by
   obtain t:cp .In (.int s0) (.aD (bb [170,204,240,85,51,15]))=B (aL 170 s0|| (aL 204 s0|| (aL 240 s0|| (aL 85 s0|| (aL 51 s0|| (aL 15 s0||false)))))):=by
    obtain s:∀x:J,(x==(s0:ah))=aL x s0:=λ x=>by rw[DI];cases h:aL s0 x with|true=>rw[dE h,ra]|false=>cases q:aL x s0 with|true=>rw[dE q,ra]at h;exact aR h y5|false=>rfl
    simp only[<-s];rfl
   have gG:cp .Eq (.int s0) (.int s1)=B (aL s0 s1):=by
    rw[show cp .Eq _ _=B _ from rfl,DI];cases h:aL s0 s1 with
    |true=>rw[dE h,ra]
    |false=>
     cases q:aL s1 s0 with
     |true=>rw[dE q,ra]at h;cases h
     |false=>rfl
   obtain j3:cp .Eq _ _=B (aL s1 V):=by
    rw[show cp .Eq (.int s1) (.int V)=B _ from rfl,DI];cases h:aL s1 V with
    |true=>rw[dE h,ra]
    |false=>
     cases q:aL V s1 with
     |true=>rw[dE q,ra]at h;cases h
     |false=>rfl
   delta Kj never;refine L (Yj 0 s0 s1 V) (L (Yj 255 s0 s1 V) (L gG (L j3 (L t ?_))));generalize aL s0 s1=a;generalize aL s1 V=b;obtain f3:∀x y z:aF,(x|| (y|| (z||false)))=(x||y||z):=by decide
   rw[f3,f3,(show∀x y z u v w:aF,(x|| (y|| (z|| (u|| (v|| (w||false))))))=(x||y||z||u||v||w) by decide)];generalize (aL 0 s0||Nat.beq 0 s1||Nat.beq 0 V)=c;generalize (aL 255 s0||Nat.beq 255 s1||Nat.beq 255 V)=d;generalize (aL 170 s0||Nat.beq 204 s0||Nat.beq 240 s0||Nat.beq 85 s0||Nat.beq 51 s0||Nat.beq 15 s0)=e;induction a<;>induction b<;>induction c<;>induction d<;>induction e<;>rfl)) (aM (λ b=>B (D.bool b)) (ane n K pa)))) (Kz (bc (amI ..) nD) (go (λ k=>Kd (FL ch) k 30 27 _ (.inr (.inr rfl)) (bc (amJ ..) nD)) (go (λ k=>y4 (bc (amK ..) m) (bc (bc (bc anf F) E) m)) (amf (XU ch) (Y (amL ..) (L (bc (bc (bc ang F) E) m) rfl)) good0)))))))))noncomputable def vOf(s t c m b_ y Q ab b2 q r b:D)(j:J):D:=match j with|0=>s|1=>t|2=>c|4=>m|5=>b_|6=>y|7=>Q|8=>ab|9=>b2|10=>q|11=>r|_=>b
theorem anj(s t:D)(u:∀c:H J,O c=5->∃i,i<6/\ch [.ae (bb c),eI]=B (.int (i:J))){C P d z A Q f M lo V p b_ y W:J}(K:d<2^60)(c5:lo<5)(j:V<4)(cZ:p<4)(X:b_<2)(hm:y<2)(I:W<7):
  vG ch 56 (hL [s,t,Kc d (.int (C:J)) (.int (P:J)) (.int (z:J)) (.int (A:J)) (.int (Q:J)) (.int (f:J)) (.int (M:J)),eI,.int (lo:J),.int (V:J),.int (p:J),.int (b_:J),.int (y:J),.int (W:J)]) [lw 4,lw 5,lw 6,lw 7,lw 8,lw 9,lw 10,lw 11,lw 12,lw 13,lw 14,lw 15,lw 16,lw 17,lw 18,lw 19,lw 20,lw 21,lw 22,lw 23,lw 24,lw 25,lw 26,lw 27,lw 28,lw 29]:=by
 refine X6 C λ a0 N g i1 ey mv rV=>X6 (match aL y 0 with|true=>C|false=>P) λ G E c4 e Gh ank anl=>?_;have anm:CJ [match aL y 0 with|true=>.int C|false=>.int P]=B (.ae (bb [G,E,c4])):=by cases q:aL y 0<;>rw[q]at e<;>exact aM (λ l=>B (D.ae _)) e
 have eT:=amT (FL ch) a0 N g G E c4;rw[<-(aM (λ l=>B (D.ae _)) i1),<-anm]at eT;have w:∀{a b:J},a<256->b<256->a+256*b<65536:=λ h k=>eo (anM h _) (ax (iO ..) (vK 256 k));have v:=w ey Gh;have F:=w mv ank;have o:=w rV anl;have m:=amW K X;apply go (λ k=>bc (bc (bc (x_4 ..) (a4.mpr j)) (a4.mpr X)) (a4.mpr I));generalize Dx b_ d=ab at*;generalize a0+256*G=r at*;generalize N+256*E=R at*;generalize g+256*c4=T at*;refine go (λ k=>oe (bc (x_5 ..) (a4.mpr hm)) eT) ?_;have hq:=Yc v F o;have vi:vz [.ae (bb [r,R,T]),.int 16]=B _:=amV (n:=16) (by decide) (by simp) λ x K=>by simp[dM,dS,jQ]at K;rcases K with rfl|rfl|rfl<;>assumption
 have jV:((aI .Mult (.int ab) y0).bind λ a=>(vz [.ae (bb [r,R,T]),.int 16]).bind λ b=>aI .Add a b)=B (.int (ab*281474976710656+(kY r R T))):=by rw[vi,show aI .Mult _ y0=B _ from DD ab rfl];rfl
 exact go (λ k=>oe (x_6 ..) jV) (av (u [z,A,Q,f,M] rfl) λ i dk nC=>go (λ k=>Y (oe (x_7 ..) (amX m hq)) (amj ..)) (go (λ k=>oe (x_8 ..) (Kq (n:=16) (by decide) (by decide) (bA (tc (k:=3) (by decide) hq) (by decide)))) (go (λ k=>oe (x_9 ..) nC) (go (λ k=>Kd _ k 47 10 _ (.inl rfl) (test10 _ _ _ _ _ _ _ _ _ _ _ _ m v F o)) (anh (vOf _ _ _ _ _ _ _ _ _ _ _ _) c5 j cZ I dk v F o)))))def ano(ds:H D):U D:=one ds (x5 λ xs=>(oY xs).bind λ n=>bR (aZ (O n) 63) (B (.bool S)))
theorem ints_of:∀{xs:H D}{n:H ah},oY xs=B n->xs=n.map D.int
 |[],_,e=>by refine ax (ak e) ?_;rfl
 |x::xs,n,e=>by
  rcases x with _|_|i|_|_|_|_|_|_|_|⟨_,_⟩;case int=>exact av (hR.mp e) λ js E w=>ax w (L (ints_of E) rfl)
  all_goals cases e
theorem law_holds:PySem.Challenge.rw_ta0134_01.Holds:=by
 refine av amd λ ch W j=>law_fin ⟨cx ano,λ g G=>(by
   refine yC G (by decide) (ct:=d4 (XT ch)) (hJ (AllP.mem (.cons (aj4 G (by decide)) (.cons (CH G 6 32 (by decide) (by decide)) (.cons (ajM G 29 (by decide)) (.cons (amg G (by decide)) (.cons (cK.less (Vv G (by decide)) λ as ks σ r e=>by
     obtain⟨r,af⟩:=r;refine yv e λ ds d E f R W s F=>?_;subst E f s F;refine vl W λ u w E=>L w (I_ E λ a n A f=>L A ?_);obtain⟨q,j⟩:=dn f;refine ax (ak j) ?_;obtain⟨P,q⟩:=bF.mp q;exact cq (bF.mp q) λ b p=>Vt (b8 P) (b8 b) (b8 p) R) (.cons ((W G) (by decide)) (.cons (ajU G 36 (by decide)) (.cons (ajT G 36 (by decide)) (.cons (amQ G 38 (by decide)) .nil))))))))))) rfl λ ds d e=>?_
   refine j4 e λ a E e=>BR e λ xs f e=>b3 e λ N s e=>bN e λ W dQ=>?_;subst E f;refine ax (ak dQ) ?_;cases ints_of s;exact a7 ((by
     refine amR (b8 W) λ K Q C t M m x v I e=>?_;exact a7 (anj _ vA j I (dN C (by decide)) (dN _ (by decide)) (dN _ (by decide)) (dN _ (by decide)) (dN _ (by decide)) (dN _ (by decide))) λ ar g=>L (show bP _=(aw 30).map lw from rfl) ⟨ar,Y (cS rfl) (Y (cS (st λ k=>Y (x_1 _ k _) (aM (λ o=>(o.map D.ae).bind λ c=>k (hL [.ae (N.map D.int),vA,c])) e))) (Y (cS rfl) (Y (cS rfl) g)))⟩)) λ ar h=>⟨rfl,ar,bK,h,rfl⟩),λ l z=>⟨bK,sI (ds:=[.ae _]) ?_ rfl,rfl,rfl⟩⟩
 show(oY _).bind _=_;exact L (Km ..) (eh (dD z))
end
end Mine.Internal
theorem PySem.Challenge.cw_ta0134_01_holds : PySem.Challenge.rw_ta0134_01.Holds :=
Mine.Internal.law_holds
