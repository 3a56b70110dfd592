import PyProof.Rows.All
import Wide.All
import OpenK.AllK
import Wide.FinOn
import PyProof.EnumIter
import PyProof.CollectWalk
import PyProof.JoinWalk
import PyProof.ListRange
import PyProof.ZipIter
import PyProof.Rows.SortRuns
import PyProof.Rows.SortPure
import KE.KSortTup
import KE.BitLaws
import Lean
import PySem.Challenge.RW_nv0011_02
set_option Elab.async false
set_option linter.all false
set_option maxRecDepth 1000000
set_option maxHeartbeats 0
set_option genInjectivity false
set_option genSizeOf false
set_option tactic.hygienic false
set_option bootstrap.genMatcherCode false
set_option compiler.extract_closed false
set_option genCtorIdx false
set_option backward.match.sparseCases false
noncomputable section
open Bool renaming true->ag,false->be,and_eq_true_iff->kJ,or_eq_false_iff->IB,false_ne_true->wn,and_eq_true->ir,or_eq_true->EG,or_false->tk,or_eq_true_iff->Px,not_eq_true'->IC,false_eq_true->EH,and_true->Py
open PySem renaming Shared->au,Around->cq,Value->aF,wpAny->ce,wpAny_bind->bc,wpAny_pure->cr,Addr->aE,wpAny_load->Bf,wpAny_of_eq->r',holding->ID,wpAny_holding->kK,Code->iZ,Program->cM,World->cU,model->cD,Flow->gO,codeAny->Bg,wpCode_mono->Bh,call->eS,denote->yD,wpCode_iff_wp->EI,Builtin->tl,entryFor->tm,standAt->Bi,wpAny_standAt->qU,typeLookup_type->h_,builtinLookup_eq_fast->h',isSubtype_type->k_,entryFor_of_tree->nK,argsOk->ko,signature?_of->tn,wpAny_callSpecial?_slot->nL,wpAny_call_entry->kL,wpAny_mkInt->uW,wpAny_letGo->wo,wpAny_specialOf->iu,typeIs_int->yE,seqIndex?->EJ,wpAny_sequenceKey->Bj,sizeLine->cy,setItem->wp,checkBuiltinCall->Bk,plainId_quiet->o8,wpAny_isInstance->sa,isSubtype->EK,codeAny_of_tree->Bl,entryFor_alias->IE,typeLookup->m',wpAny_typeOf->yF,wpAny_rule->mv,Heap->e1,pyNext->oj,wpAny_point->pS,wpAny_pyIter_list->EL,wpAny_newObj_type->jE,wpAny_attempt->uX,GenState->wq,Expr->bJ,eval->ee,binaryOp->yG,markedEach->EM,evalEach->Bm,compareOp->wr,wpAny_loadName_local->IF,wpAny_loadName_free->Pz,spliced->pT,backTo->kp,starEach->j1,callWith->qV,keeperOf->tp,slot_list_getitem->PA,wpAny_getItem_list->PC,IsPart->uY,storeName->ws,wpAny_storeName_local->PD,bindName->tq,wpAny_storeName_cell->PE,Stmt->fa,execs->d3,execs_cons->qW,execs_nil->wt,foldedSetIterable->sb,closureFor->wu,pyIter->ol,newFunctionEnv->Bn,comprehension->wv,lookup_relabel_local->PF,Comprehension->lC,Scope->dA,letOwnedTupleGo->Bo,compEnvC->l9,firstIterPos->Bp,newList->Bq,firstAsync->yH,firstIter->Br,wpAny_newFunctionEnv->IG,IsRange->tr,call_range_1->EQ,small_one->ER,assignEach->ww,attributeBase->uZ,calleeOf->ES,methodCallForm->ET,methodCallPos->EU,wpAny_list_append_plain->II,interactive->yI,exec_Expr->IJ,dropValue->EV,recursionLimit->f6,NameKind->sc,wpAny_alloc->Bt,mem_of_lookup->IK,arm_keywordEach_nil->EW,FuncData->yJ,BindsTo->sd,clipAt_nat->EX,wpAny_pyIter_range->IL,wpAny_pyIter_zip->IM,assignInOrder->EY,assign_Name->EZ,wpAny_unpackItems_tuple->PG,exec_Assign_Name->E0,swapsWithSole->E1,swappedStores->Bu,assign->E2,slot_list_setitem->E4,entry_list_setitem->PH,wpAny_listSubscript_int->PI,wpAny_setSeqItemAt->PJ,wpAny_seqItems->ts,exec_Assign_Subscript->PK,exec_Assign_Name_used->PL,passing->qX,GenOnlyQ->E5,cStatics->qY,Keeps->kM,wpAny_mkText->IN,rawInt->hT,codeAny_builtin->yK,IsRangeIter->o9,Setting->u0,Result->qZ,Life->mw,treeTable->nM,table_eq_tree->yL,Params->cY,wpAny_BinOp->IP,Slot->yM,isSubtype_stop->IQ,wpAny_pyIter_slot->IR,ItemsOf->yN,wpAny_updateSeq->yO,codeAny_extend_loopS->PM,strValues->Bv,getAttr->q0,callType_new->IS,wpAny_newTuple->Bw,wpAny_mono->se,wpAny_setField_rec->yP,firstArgMember->IT,wpAny_ite_split->IU,sizeLine_eq->E6,wpAny_Constant_str->PN,setGen_self->E7,IsZip->q1,IsPair->mx,wpAny_onRaise->IV,wpAny_updateSeq_pair->PO,getMethod->yQ,wpAny_dictEntries->IW,mainNs->mz,blockStart->E8,OsState->tt,arm_eval_Attribute->IX,classAt->Bx
open Pure renaming pure->dB
open Option renaming some->W,none->aX,map_eq_some_iff->yR,isSome_iff_exists->IY,elim->IZ,map_some->tu,bind_eq_some_iff->I0,getD_some->I1
open Int renaming zero_add->tv,add_zero->pU,mul_zero->By,mul_add->Bz,mul_assoc->I2,zero_mul->I3,natCast_add->PP,natCast_mul->E9,mul_comm->E_,neg_eq_neg_one_mul->I4,sub_eq_add_neg->BA,ofNat_le->I5,ofNat_lt->E',le_of_eq->yS,not_lt->BB,add_nonneg->I6,mul_nonneg->PQ,le_refl->I8,natCast_nonneg->gP,toNat_of_nonneg->Fa,natCast_pos->PR,eq_ofNat_of_zero_le->BC,mul_neg->I9,mul_one->yU,sub_sub->I_,toNat_sub->Fb,toNat_natCast->hF,natAbs_pow->PS,ne_of_gt->I',pow_pos->Ja,toNat->om,fmod_nonneg_of_pos->BD,fmod_lt_of_pos->Fc
open Nat renaming lt_of_not_le->Jb,le_of_not_lt->sf,le_antisymm->u1,sub_le_iff_le_add->Jc,le_refl->dr,sub_add_cancel->yV,sub_eq_zero_of_le->PT,mul_div_le->PU,succ_pos->BE,div_add_mod->wx,min_eq_left->yW,min_eq_right->yX,le_max_right->Jd,succ_ne_zero->PV,not_lt->Fd,strongRecOn->Je,zero_le->eQ,le_trans->a5,ne_of_lt->gQ,lt_or_ge->pV,succ_ne_self->PW,ne_of_gt->tw,lt_succ_of_lt->k',le_succ->j2,le_of_eq->l_,lt_irrefl->ia,lt_of_lt_of_le->cg,not_le_of_lt->PY,le_add_left->wy,lt_succ_self->kN,le_add_right->hf,le_of_succ_le->Jf,le_total->iv,not_lt_of_le->PZ,lt_of_le_of_lt->mA,zero_add->sg,lt_trans->BF,add_div_right->P0,le_of_lt->mB,le_succ_of_le->yY,add_le_add_right->P1,blt->kq,le_of_ble_eq_true->mC,ble_eq_true_of_le->Fe,sub_sub->Jg,lt_of_lt_of_eq->yZ,add_sub_cancel_left->Ff,sub_le->jF,mod_eq_of_lt->Fg,succ_le_of_lt->P2,lt_succ_of_le->Jh,mod_two_eq_zero_or_one->BG,mul_le_mul_left->Ji,add_comm->tx,add_assoc->sh,div_eq_of_lt->Jj,ble->i0,beq->u2,eq_of_beq_eq_true->Jk,mul_add_mod->y0,pos_of_ne_zero->P3,xor_lt_two_pow->Jl,xor_assoc->ty,xor_self->Fh,xor_zero->BH,xor_comm->Jm,pow_succ->Fi,zero_mul->y1,mul_comm->si,add_lt_add_left->P4,succ_mul->y2,mul_le_mul_right->BI,testBit_xor->Jn,testBit_two_pow_mul_add->Jo,zero_xor->BJ,le_of_succ_le_succ->P5,sub_pos_of_lt->P6,lt_asymm->Jp,le_sub_one_of_lt->P7,add_le_add_left->Jq,pow_le_pow_right->Fj,pow_pos->Fk,add_zero->pW,mul_add_div->P8,mul_le_mul->Jr,add_le_add->P9,not_lt_zero->Js,lt_succ_iff_lt_or_eq->P_
open Classical renaming byContradiction->Fl
open Eq renaming symm->Fm
open List renaming mem_cons->fT,mem_append->jf,mem_append_left->u3,mem_append_right->wz,mem_singleton->hG,mem_cons_self->tz,mem_cons_of_mem->sj,mem_map->la,length_filterMap_le->P',length_take->sk,mem_of_getElem?->j3,take_add_one->u4,take_length->wA,size_toArray->y3,getElem?_toArray->Qa,not_mem_nil->na,lookup_cons->tA,all_cons->on,any_nil->y4,length_cons->gt,cons_append->u5,drop_zero->BK,take_succ_cons->Jt,getElem?_eq_some_iff->j4,mem_filter->pX,mem_reverse->Qb,mem_of_mem_drop->BL,mem_of_mem_take->BM,forIn_cons->u8,getElem?_map->eX,getD_eq_getElem?_getD->dG,getElem?_eq_getElem->eT,map_drop->u9,map_take->wB,take_of_length_le->q2,drop_eq_nil_of_le->wC,map_append->jg,replicate->bX,replicate_succ->l',foldl_cons->Fn,flatten_cons->kr,map_cons->hU,range->cZ,all_eq_true->hH,ext_getElem->Ju,mem_range->lb,length_map->dg,getElem?_range->nN,cons->pY,getElem?_zip_eq_some->BN,forIn_nil->BO,append_nil->tB,take_append_drop->sl,flatten_append->BP,drop_eq_getElem_cons->Fo,length_append->e7,append_assoc->mD,set_cons_zero->Qc,set_cons_succ->Jv,map_snd_zip->Qd,of_mem_zip->Fp,length_range->mE,foldl_append->y5,getElem_mem->nb,ext_getElem?->wD,getElem?_set->Jw,getElem?_inj->Qe,mem_map_of_mem->y6,getElem?_of_mem->Qf,nodup_append->wE,map_nil->BQ,mem_toArray->Jx,length_eq_zero_iff->Jy,map_map->ho,length->gu,getElem?_eq_none->o_,length_drop->o',zipIdx_cons->Qg,map_set->y7,any_eq_true->Qh,length_nil->y8,nodup_nil->pZ,eq_nil_of_length_eq_zero->Qi,zip_cons_cons->Jz,contains_iff_mem->Qj,nil_append->JA,getElem?_append_left->u_,getElem?_append_right->y9,map_congr_left->pa,drop_drop->y_,flatMap_cons->nO,mem_or_eq_of_mem_set->Fq,length_set->u',range_succ->JB,eq_of_mem_replicate->tC,getElem?_drop->BR,length_tail->Qk,length_singleton->Ql,length_replicate->gg,getElem?_eraseIdx_of_lt->Qm,zip_eq_zipWith->Qn,getElem?_zipWith->Qo,sum_append->Qp,map_replicate->BS,flatMap_append->JC,replicate_append_replicate->tD,map->Fs,map_id->BU,getElem?_replicate->va,mem_flatMap->tE,zipIdx_map->BV,flatMap_map->Ft,mem_zipIdx_iff_getElem?->y',getElem?_set_self->Qq,getElem?_set_ne->Qr,length_zip->JD,getElem?_take->Qs,drop_left->JE,take_append_of_le_length->Qt,flatMap_assoc->Qu,flatMap_def->Qv,map_flatMap->JF
open Option.some renaming inj->ek,injEq->Fu
open PySem.Builtin.Bytes renaming decodersThatHold->Qw,exported->BW,payload->Qx,subscript?->Qy,fitsIndex->Qz,write->JG,slotIsOwn->QA,buffer?->QB
open PySem.Sem renaming wp->j5,wp_mono->mF,wp_bind'->za,wp_onRaise->QC
open PySem.Builtin.Bytes.exported renaming match_1->YF
open PySem.Manifest renaming owners->QD
open String renaming ofList->QE,splitOn->QF,splitOnAux->QG
open PySem.Builtin renaming«bytearray.__len__»->YG,«bytearray.__getitem__»->YH,«bytearray.__setitem__»->YI,«bytearray.__iter__»->YJ,«bytearray.extend»->YK,«type.__call__»->YL,divisionGoesByPylong->BX,bitXor->lc,bitAnd->wF,«list.__init__»->YM,«zip.__next__»->QH,«zip.__new__»->QI,bitNot->wG,bitOr->QJ,«list.sort»->YN
open Array renaming size->Ų,getElem?_eq_some_iff->JH,size_append->Fv,size_push->Fw,getElem?_eq_none->JI,getElem?_eq_getElem->pb,toList_push->BY,toList_setIfInBounds->JJ,getElem?_append_left->QK,mem_append->QL,isEmpty_iff->QM,toList_inj->QN,ext_getElem?->QO,append_empty->JK,toArray_toList->JL,getElem?_toList->zb,length_toList->BZ
open PySem.Heap renaming get?->Ű,objs->ű,SameBut->iE,get?_update_self->nP,get?_push_size->fu,get?_push_of_some->eY,size_push->f',lt_size->dK,size_update->vb,IsCell->JM,ExtBut->B1,get?_update_other->sm,get?_push_ne->Fx,get?_update_ne->QP
open PySem.Obj renaming mapBytearray->QQ,mapSeq->jG,data_mapDictKeys->QR,mapSeq_push_plain->QS
open PySem.Heap.SameBut renaming update->tF
open PySem.Str renaming ofString->mG,empty->nc
open PySem.Code renaming quiet_builtin->JN,builtin->zc
open PySem.F renaming entry_type_call->JO,slot_list_add->QT,entry_list_add->QU,args_list_add_2->QV,slot_int_rmul->Fy,slot_int_index->QW,entry_int_rmul->QX,args_int_rmul_2->QY,slot_range_reversed->JP,entry_proto_collect->QZ,plain_list_iadd->Q0,entry_list_iadd->Q1,plain_extend_loop->JQ,args_object_init_3->JR,slot_range_iterator_next->Fz,entry_range_iterator_next->Q2,args_range_iterator_next_1->Q3,slot_zip_next->FB,entry_zip_next->Q4,args_zip_next_1->Q5
open PySem.Value renaming ref->fv,type->j6,builtin->JS,none->q3,int->tG
open PySem.Shared renaming mk->nd,setGen->Q6,asleep_of_life->JT,heap->Q7,rest_eq->Q8
open PySem.Walks renaming list->JU,range->FC
open PyProof.Rows renaming AllBare->B2,IntsAre->wH,subscriptTail->JV,tail_any->vc,exec_Assign->Q_,wpAny_operate'->JW,SortKind->wI,Keyed->oo,SortSt->fz,wpS_bind->lD,wpS_pure->f1,wpS_modify->B3,pendingOf->sn,seqObj->mH,sortedAll->B4
open Exists renaming intro->q4
open PySem.Calls renaming Name_function_global->FD,loadGlobal_global->Q',loadGlobal_builtin->Ra
open PySem.Heap.IsSliceOf renaming new->Rb
open PySem.Env renaming mk->Rc,kindOf->zd
open ForInStep renaming yield->so
open PySem.Builtin.Range renaming small->wJ,rangeSize->tH,rangeFitsLong->tI
open PySem.IsRange renaming new->FE
open PySem.MeetsSeq.EqGives renaming int->YO
open PUnit renaming unit->tJ
open List.Pairwise renaming nil->Rd
open PySem.P renaming add_int->Re,sub_int->Rf
open Or renaming elim->hp
open PySem.SeqAt.RcNeAt renaming lists->Rg
open PySem.SeqAt.EqAt renaming int_int->Rh
open PySem.Fin renaming done->FF
open LT renaming lt->nQ
open Ne renaming symm->ib
open List.cons renaming inj->wK
open HAppend renaming hAppend->JX
open PySem.Expr renaming Tuple->JY
open PySem.Builtin.List renaming listSubscript?->Ri,listExtendWith->JZ,listSameRef->FG
open PySem.assign_Subscript renaming match_1->YP
open PySem.WalksS renaming genexpQ->J0
open PySem.Heap.ExtBut renaming refl->J1
open PySem.W renaming absHeap->lE,alive->hW,abs_get->tK,absHeap_size->vd,boot_heap->pc,behindTheImports->B5,boot_drawn->ze,layAllW->B6
open PySem.Challenge renaming pw_nv0011_02->YQ,rw_nv0011_02->J2
open PySem.Slot renaming of->Rj
open PySem.ItemsOf renaming nil->Rk
open Prod.mk renaming inj->Rl,injEq->q5
open PySem.World renaming params->ų,withFollow_self->B7
open Nat.le renaming intro->Rm
open PySem.Builtin.SmallTypes renaming newClass->Rn,iterAll->Ro,newRecord->J3,nextOf->zf,ownedTupleIsFree->Rp,ownedTupleHandOut->Rq,ownedTupleFields->YR
open PySem.W.KBy renaming picked->zg
open PySem.Moved renaming eq_with->Rr
open PySem.GenOnly renaming setGen->Rs
open PySem.W.BT renaming get_node->nf,ins_node->B9
open Prod renaming ext->J4
open PySem.Heap.Ns renaming of_isNs->J5,at'->J6
open PySem.Shared.mk renaming injEq->Rt
open PySem.BindsTo renaming of_eq->tL,of_defaults->J7
open PySem.Data.seq renaming injEq->Ru
open PySem.Comprehension renaming mk->YS
open Nat.succ renaming inj->q6
open PyProof.Rows.SortSt renaming mk'->J8
open PySem.SeqAt renaming EqAt->J9
open Function renaming comp->Rv
open PySem.Pin renaming globalOf_eq->Rw
open PySem.W.WShape renaming hasAll->Rx
open PySem PySem.W PyProof.Rows
namespace Mine.Lake
theorem V{α:Sort v}{a:α}:a=a:=rfl
local macro_rules |`(tactic|cbv)=>`(tactic|kernel_rfl)
local macro_rules |`(tactic|rw[$t:term])=>`(tactic|refine $t)
local macro_rules |`(tactic|rwa[$f $x*])=>`(tactic|refine $f $x* ?_)|`(tactic|rwa[$a<|$f $x*])=>`(tactic|refine $a<|$f $x* ?_)
universe gh hx iF lf op q7 ve vf wM B_ J_ Ry YT ajF ajG ajH ajI ajJ ajK ajL ajO ajP ajQ ajR ajS ajT ajW ajX ajY ajZ aj0 aj1 aj2 aj3 aj4 aj5 aj6 aj7 aj8 aj9 aj_ aka akb akd akf aG z
section
section
variable{cA:Sort gh}{c8:Sort hx}{dI:Sort iF}{eU:Sort lf}{gC:Sort op}{ic:Sort q7}{lF:Sort ve}{ma:Sort vf}{oq:Sort wM}
section
variable{bA bI bY cF dn es fV kt ot:Prop}{aD:Prop}
theorem c0(c:bA/\bI)(m:bA->bI->aD):aD:=m c.1 c.2
theorem fb(c:bA/\bI/\bY)(m:bA->bI->bY->aD):aD:=c0 c.2<|m c.1
theorem lG(c:bA/\bI/\bY/\cF)(m:bA->bI->bY->cF->aD):aD:=fb c.2<|m c.1
theorem kO(c:bA/\bI/\bY/\cF/\dn)(m:bA->bI->bY->cF->dn->aD):aD:=lG c.2<|m c.1
theorem zh(c:bA/\bI/\bY/\cF/\dn/\es)(m:bA->bI->bY->cF->dn->es->aD):aD:=kO c.2<|m c.1
theorem sp(c:bA/\bI/\bY/\cF/\dn/\es/\fV)(m:bA->bI->bY->cF->dn->es->fV->aD):aD:=zh c.2<|m c.1
theorem q8(c:bA/\bI/\bY/\cF/\dn/\es/\fV/\kt)(m:bA->bI->bY->cF->dn->es->fV->kt->aD):aD:=sp c.2<|m c.1
theorem YU(c:bA/\bI/\bY/\cF/\dn/\es/\fV/\kt/\ot)(m:bA->bI->bY->cF->dn->es->fV->kt->ot->aD):aD:=q8 c.2<|m c.1
end
section
variable{s bA bI bY cF dn es:cA->Prop}{aD:Prop}
theorem c1(c:∃H,s H)(m:∀H,s H->aD):aD:=c.elim m
theorem bt(c:∃H,bA H/\bI H)(m:∀H,bA H->bI H->aD):aD:=c1 c λH c=>c0 c<|m H
theorem fK(c:∃H,bA H/\bI H/\bY H)(m:∀H,bA H->bI H->bY H->aD):aD:=c1 c λH c=>fb c<|m H
theorem jh(c:∃H,bA H/\bI H/\bY H/\cF H)(m:∀H,bA H->bI H->bY H->cF H->aD):aD:=c1 c λH c=>lG c<|m H
theorem YV(c:∃H,bA H/\bI H/\bY H/\cF H/\dn H/\es H)(m:∀H,bA H->bI H->bY H->cF H->dn H->es H->aD):aD:=c1 c λH c=>zh c<|m H
end
section
variable{s bA bI bY cF dn es:cA->c8->Prop}{aD:Prop}
theorem kP(c:∃H P,s H P)(m:∀H P,s H P->aD):aD:=c.elim λH c=>c.elim<|m H
theorem fW(c:∃H P,bA H P/\bI H P)(m:∀H P,bA H P->bI H P->aD):aD:=kP c λH P c=>c0 c<|m H P
theorem d7(c:∃H P,bA H P/\bI H P/\bY H P)(m:∀H P,bA H P->bI H P->bY H P->aD):aD:=kP c λH P c=>fb c<|m H P
theorem FH(c:∃H P,bA H P/\bI H P/\bY H P/\cF H P)(m:∀H P,bA H P->bI H P->bY H P->cF H P->aD):aD:=kP c λH P c=>lG c<|m H P
theorem B'(c:∃H P,bA H P/\bI H P/\bY H P/\cF H P/\dn H P)(m:∀H P,bA H P->bI H P->bY H P->cF H P->dn H P->aD):aD:=kP c λH P c=>kO c<|m H P
theorem J'(c:∃H P,bA H P/\bI H P/\bY H P/\cF H P/\dn H P/\es H P)(m:∀H P,bA H P->bI H P->bY H P->cF H P->dn H P->es H P->aD):aD:=kP c λH P c=>zh c<|m H P
end
section
variable{s bA bI bY cF dn es fV kt:cA->c8->dI->Prop}{aD:Prop}
theorem tM(c:∃H P ac,s H P ac)(m:∀H P ac,s H P ac->aD):aD:=c.elim λH c=>kP c<|m H
theorem zi(c:∃H P ac,bA H P ac/\bI H P ac)(m:∀H P ac,bA H P ac->bI H P ac->aD):aD:=tM c λH P ac c=>c0 c<|m H P ac
theorem jH(c:∃H P ac,bA H P ac/\bI H P ac/\bY H P ac)(m:∀H P ac,bA H P ac->bI H P ac->bY H P ac->aD):aD:=tM c λH P ac c=>fb c<|m H P ac
theorem mb(c:∃H P ac,bA H P ac/\bI H P ac/\bY H P ac/\cF H P ac)(m:∀H P ac,bA H P ac->bI H P ac->bY H P ac->cF H P ac->aD):aD:=tM c λH P ac c=>lG c<|m H P ac
theorem wN(c:∃H P ac,bA H P ac/\bI H P ac/\bY H P ac/\cF H P ac/\dn H P ac/\es H P ac)(m:∀H P ac,bA H P ac->bI H P ac->bY H P ac->cF H P ac->dn H P ac->es H P ac->aD):aD:=tM c λH P ac c=>zh c<|m H P ac
theorem YW(c:∃H P ac,bA H P ac/\bI H P ac/\bY H P ac/\cF H P ac/\dn H P ac/\es H P ac/\fV H P ac)(m:∀H P ac,bA H P ac->bI H P ac->bY H P ac->cF H P ac->dn H P ac->es H P ac->fV H P ac->aD):aD:=tM c λH P ac c=>sp c<|m H P ac
theorem YX(c:∃H P ac,bA H P ac/\bI H P ac/\bY H P ac/\cF H P ac/\dn H P ac/\es H P ac/\fV H P ac/\kt H P ac)(m:∀H P ac,bA H P ac->bI H P ac->bY H P ac->cF H P ac->dn H P ac->es H P ac->fV H P ac->kt H P ac->aD):aD:=tM c λH P ac c=>q8 c<|m H P ac
end
section
variable{s bA bI bY cF dn es fV:cA->c8->dI->eU->Prop}{aD:Prop}
theorem tN(c:∃H P ac aH,s H P ac aH)(m:∀H P ac aH,s H P ac aH->aD):aD:=c.elim λH c=>tM c<|m H
theorem FI(c:∃H P ac aH,bA H P ac aH/\bI H P ac aH)(m:∀H P ac aH,bA H P ac aH->bI H P ac aH->aD):aD:=tN c λH P ac aH c=>c0 c<|m H P ac aH
theorem Ka(c:∃H P ac aH,bA H P ac aH/\bI H P ac aH/\bY H P ac aH)(m:∀H P ac aH,bA H P ac aH->bI H P ac aH->bY H P ac aH->aD):aD:=tN c λH P ac aH c=>fb c<|m H P ac aH
theorem YZ(c:∃H P ac aH,bA H P ac aH/\bI H P ac aH/\bY H P ac aH/\cF H P ac aH)(m:∀H P ac aH,bA H P ac aH->bI H P ac aH->bY H P ac aH->cF H P ac aH->aD):aD:=tN c λH P ac aH c=>lG c<|m H P ac aH
theorem Y0(c:∃H P ac aH,bA H P ac aH/\bI H P ac aH/\bY H P ac aH/\cF H P ac aH/\dn H P ac aH)(m:∀H P ac aH,bA H P ac aH->bI H P ac aH->bY H P ac aH->cF H P ac aH->dn H P ac aH->aD):aD:=tN c λH P ac aH c=>kO c<|m H P ac aH
theorem Y1(c:∃H P ac aH,bA H P ac aH/\bI H P ac aH/\bY H P ac aH/\cF H P ac aH/\dn H P ac aH/\es H P ac aH)(m:∀H P ac aH,bA H P ac aH->bI H P ac aH->bY H P ac aH->cF H P ac aH->dn H P ac aH->es H P ac aH->aD):aD:=tN c λH P ac aH c=>zh c<|m H P ac aH
theorem Rz(c:∃H P ac aH,bA H P ac aH/\bI H P ac aH/\bY H P ac aH/\cF H P ac aH/\dn H P ac aH/\es H P ac aH/\fV H P ac aH)(m:∀H P ac aH,bA H P ac aH->bI H P ac aH->bY H P ac aH->cF H P ac aH->dn H P ac aH->es H P ac aH->fV H P ac aH->aD):aD:=tN c λH P ac aH c=>sp c<|m H P ac aH
end
section
variable{s bA bI bY cF dn es fV:cA->c8->dI->eU->gC->Prop}{aD:Prop}
theorem Ca(c:∃H P ac aH ba,s H P ac aH ba)(m:∀H P ac aH ba,s H P ac aH ba->aD):aD:=c.elim λH c=>tN c<|m H
theorem Y2(c:∃H P ac aH ba,bA H P ac aH ba/\bI H P ac aH ba/\bY H P ac aH ba/\cF H P ac aH ba)(m:∀H P ac aH ba,bA H P ac aH ba->bI H P ac aH ba->bY H P ac aH ba->cF H P ac aH ba->aD):aD:=Ca c λH P ac aH ba c=>lG c<|m H P ac aH ba
theorem Kb(c:∃H P ac aH ba,bA H P ac aH ba/\bI H P ac aH ba/\bY H P ac aH ba/\cF H P ac aH ba/\dn H P ac aH ba)(m:∀H P ac aH ba,bA H P ac aH ba->bI H P ac aH ba->bY H P ac aH ba->cF H P ac aH ba->dn H P ac aH ba->aD):aD:=Ca c λH P ac aH ba c=>kO c<|m H P ac aH ba
theorem FJ(c:∃H P ac aH ba,bA H P ac aH ba/\bI H P ac aH ba/\bY H P ac aH ba/\cF H P ac aH ba/\dn H P ac aH ba/\es H P ac aH ba/\fV H P ac aH ba)(m:∀H P ac aH ba,bA H P ac aH ba->bI H P ac aH ba->bY H P ac aH ba->cF H P ac aH ba->dn H P ac aH ba->es H P ac aH ba->fV H P ac aH ba->aD):aD:=Ca c λH P ac aH ba c=>sp c<|m H P ac aH ba
end
section
variable{s bA bI bY:cA->c8->dI->eU->gC->ic->Prop}{aD:Prop}
theorem FK(c:∃H P ac aH ba cb,s H P ac aH ba cb)(m:∀H P ac aH ba cb,s H P ac aH ba cb->aD):aD:=c.elim λH c=>Ca c<|m H
theorem Y3(c:∃H P ac aH ba cb,bA H P ac aH ba cb/\bI H P ac aH ba cb)(m:∀H P ac aH ba cb,bA H P ac aH ba cb->bI H P ac aH ba cb->aD):aD:=FK c λH P ac aH ba cb c=>c0 c<|m H P ac aH ba cb
theorem Y4(c:∃H P ac aH ba cb,bA H P ac aH ba cb/\bI H P ac aH ba cb/\bY H P ac aH ba cb)(m:∀H P ac aH ba cb,bA H P ac aH ba cb->bI H P ac aH ba cb->bY H P ac aH ba cb->aD):aD:=FK c λH P ac aH ba cb c=>fb c<|m H P ac aH ba cb
end
section
variable{s:cA->c8->dI->eU->gC->ic->lF->Prop}{aD:Prop}
theorem Y5(c:∃H P ac aH ba cb dc,s H P ac aH ba cb dc)(m:∀H P ac aH ba cb dc,s H P ac aH ba cb dc->aD):aD:=c.elim λH c=>FK c<|m H
end
section
variable{s:cA->c8->dI->eU->gC->ic->lF->ma->Prop}{aD:Prop}
theorem Y6(c:∃H P ac aH ba cb dc dp,s H P ac aH ba cb dc dp)(m:∀H P ac aH ba cb dc dp,s H P ac aH ba cb dc dp->aD):aD:=c.elim λH c=>Y5 c<|m H
end
section
variable{s bA bI bY:cA->c8->dI->eU->gC->ic->lF->ma->oq->Prop}{aD:Prop}
theorem RA(c:∃H P ac aH ba cb dc dp eu,s H P ac aH ba cb dc dp eu)(m:∀H P ac aH ba cb dc dp eu,s H P ac aH ba cb dc dp eu->aD):aD:=c.elim λH c=>Y6 c<|m H
theorem Y7(c:∃H P ac aH ba cb dc dp eu,bA H P ac aH ba cb dc dp eu/\bI H P ac aH ba cb dc dp eu/\bY H P ac aH ba cb dc dp eu)(m:∀H P ac aH ba cb dc dp eu,bA H P ac aH ba cb dc dp eu->bI H P ac aH ba cb dc dp eu->bY H P ac aH ba cb dc dp eu->aD):aD:=RA c λH P ac aH ba cb dc dp eu c=>fb c<|m H P ac aH ba cb dc dp eu
end
end
theorem RB{bA bI bY cF dn es fV kt ot q9:Prop}{aD:Prop}(c:bA/\bI/\bY/\cF/\dn/\es/\fV/\kt/\ot/\q9)(m:bA->bI->bY->cF->dn->es->fV->kt->ot->q9->aD):aD:=YU c.2<|m c.1
theorem Y8{bA bI bY cF dn es fV kt ot q9 Cb:Prop}{aD:Prop}(c:bA/\bI/\bY/\cF/\dn/\es/\fV/\kt/\ot/\q9/\Cb)(m:bA->bI->bY->cF->dn->es->fV->kt->ot->q9->Cb->aD):aD:=RB c.2<|m c.1
theorem RC{cA:Sort gh}{c8:Sort hx}{dI:Sort iF}{eU:Sort lf}{gC:Sort op}{ic:Sort q7}{lF:Sort ve}{ma:Sort vf}{oq:Sort wM}{tO:Sort B_}{s:cA->c8->dI->eU->gC->ic->lF->ma->oq->tO->Prop}{aD:Prop}(c:∃H P ac aH ba cb dc dp eu ga,s H P ac aH ba cb dc dp eu ga)(m:∀H P ac aH ba cb dc dp eu ga,s H P ac aH ba cb dc dp eu ga->aD):aD:=c.elim λH c=>RA c<|m H
theorem Kc{cA:Sort gh}{c8:Sort hx}{dI:Sort iF}{eU:Sort lf}{gC:Sort op}{ic:Sort q7}{lF:Sort ve}{ma:Sort vf}{oq:Sort wM}{tO:Sort B_}{bA bI bY cF dn es fV kt ot q9 Cb:cA->c8->dI->eU->gC->ic->lF->ma->oq->tO->Prop}{aD:Prop}(c:∃H P ac aH ba cb dc dp eu ga,bA H P ac aH ba cb dc dp eu ga/\bI H P ac aH ba cb dc dp eu ga/\bY H P ac aH ba cb dc dp eu ga/\cF H P ac aH ba cb dc dp eu ga/\dn H P ac aH ba cb dc dp eu ga/\es H P ac aH ba cb dc dp eu ga/\fV H P ac aH ba cb dc dp eu ga/\kt H P ac aH ba cb dc dp eu ga/\ot H P ac aH ba cb dc dp eu ga/\q9 H P ac aH ba cb dc dp eu ga/\Cb H P ac aH ba cb dc dp eu ga)(m:∀H P ac aH ba cb dc dp eu ga,bA H P ac aH ba cb dc dp eu ga->bI H P ac aH ba cb dc dp eu ga->bY H P ac aH ba cb dc dp eu ga->cF H P ac aH ba cb dc dp eu ga->dn H P ac aH ba cb dc dp eu ga->es H P ac aH ba cb dc dp eu ga->fV H P ac aH ba cb dc dp eu ga->kt H P ac aH ba cb dc dp eu ga->ot H P ac aH ba cb dc dp eu ga->q9 H P ac aH ba cb dc dp eu ga->Cb H P ac aH ba cb dc dp eu ga->aD):aD:=RC c λH P ac aH ba cb dc dp eu ga c=>Y8 c<|m H P ac aH ba cb dc dp eu ga
theorem Y9{cA:Sort gh}{c8:Sort hx}{dI:Sort iF}{eU:Sort lf}{gC:Sort op}{ic:Sort q7}{lF:Sort ve}{ma:Sort vf}{oq:Sort wM}{tO:Sort B_}{Cc:Sort J_}{s:cA->c8->dI->eU->gC->ic->lF->ma->oq->tO->Cc->Prop}{aD:Prop}(c:∃H P ac aH ba cb dc dp eu ga q',s H P ac aH ba cb dc dp eu ga q')(m:∀H P ac aH ba cb dc dp eu ga q',s H P ac aH ba cb dc dp eu ga q'->aD):aD:=c.elim λH c=>RC c<|m H
theorem Y_{cA:Sort gh}{c8:Sort hx}{dI:Sort iF}{eU:Sort lf}{gC:Sort op}{ic:Sort q7}{lF:Sort ve}{ma:Sort vf}{oq:Sort wM}{tO:Sort B_}{Cc:Sort J_}{Kd:Sort Ry}{s:cA->c8->dI->eU->gC->ic->lF->ma->oq->tO->Cc->Kd->Prop}{aD:Prop}(c:∃H P ac aH ba cb dc dp eu ga q' wP,s H P ac aH ba cb dc dp eu ga q' wP)(m:∀H P ac aH ba cb dc dp eu ga q' wP,s H P ac aH ba cb dc dp eu ga q' wP->aD):aD:=c.elim λH c=>Y9 c<|m H
theorem Y'{cA:Sort gh}{c8:Sort hx}{dI:Sort iF}{eU:Sort lf}{gC:Sort op}{ic:Sort q7}{lF:Sort ve}{ma:Sort vf}{oq:Sort wM}{tO:Sort B_}{Cc:Sort J_}{Kd:Sort Ry}{Za:Sort YT}{s:cA->c8->dI->eU->gC->ic->lF->ma->oq->tO->Cc->Kd->Za->Prop}{aD:Prop}(c:∃H P ac aH ba cb dc dp eu ga q' wP Ke,s H P ac aH ba cb dc dp eu ga q' wP Ke)(m:∀H P ac aH ba cb dc dp eu ga q' wP Ke,s H P ac aH ba cb dc dp eu ga q' wP Ke->aD):aD:=c.elim λH c=>Y_ c<|m H
theorem RD{cA:Sort gh}{c8:Sort hx}{dI:Sort iF}{eU:Sort lf}{gC:Sort op}{bA bI bY cF dn es fV kt ot q9:cA->c8->dI->eU->gC->Prop}{aD:Prop}(c:∃H P ac aH ba,bA H P ac aH ba/\bI H P ac aH ba/\bY H P ac aH ba/\cF H P ac aH ba/\dn H P ac aH ba/\es H P ac aH ba/\fV H P ac aH ba/\kt H P ac aH ba/\ot H P ac aH ba/\q9 H P ac aH ba)(m:∀H P ac aH ba,bA H P ac aH ba->bI H P ac aH ba->bY H P ac aH ba->cF H P ac aH ba->dn H P ac aH ba->es H P ac aH ba->fV H P ac aH ba->kt H P ac aH ba->ot H P ac aH ba->q9 H P ac aH ba->aD):aD:=Ca c λH P ac aH ba c=>RB c<|m H P ac aH ba
theorem g4{n:Prop}(c:∀aD:Prop,(n->aD)->aD):n:=c n id
@[elab_as_elim]theorem U{a9:Sort gh}{h a:a9}{aD:a9->Prop}(c:h=a)(m:aD a):aD h:=c▸m
@[elab_as_elim]theorem bL{a9:Sort gh}{h a:a9}{aD:a9->Prop}(c:a=h)(m:aD a):aD h:=c▸m
@[elab_as_elim]theorem gW{h a:Prop}{aD:Prop->Prop}(c:h↔a)(m:aD a):aD h:=propext c▸m
theorem Z:ag=ag:=rfl
noncomputable abbrev aB(b:au):Nat:=b.heap.objs.size
theorem bf{n:Prop}[Decidable n](c:decide n=ag:=by rw[Z]):n:=of_decide_eq_true c
theorem ji{n:Prop}[Decidable n](c:decide n=ag:=by cbv):n:=of_decide_eq_true c
end
section
theorem iG{aN:Model}{s:cq}{a9:Type}{D fp:Sem a9}{A:a9->au->Prop}{aC:aF->au->Prop}{b:au}(i:D=fp)(c:ce aN s fp A aC b):ce aN s D A aC b:=i▸c
section
variable{aN:Model}{s:cq}{b:au}{a9 cN:Type}{aC:aF->au->Prop}{A:cN->au->Prop}
theorem lH{h:a9}{J:a9->Sem cN}(c:ce aN s (J h) A aC b):ce aN s (dB h>>=J) A aC b:=bc<|cr c
theorem ou{h:aE}{k:Obj}{J:Obj->Sem cN}(aL:b.heap.get? h=W k)(c:ce aN s (J k) A aC b):ce aN s (load h>>=J) A aC b:=bc<|Bf aL c
theorem iH{h:aE}{k:Obj}{N:Array aF}{j:Nat}{f:aF}{J:aF->Sem cN}(aL:b.heap.get? h=W k)(bl:k.data=.fields N)(T:N[j]?=W f)(c:ce aN s (J f) A aC b):ce aN s (field (.ref h) j>>=J) A aC b:=bc<|wpAny_field aL bl T c
theorem ng{D:Sem a9}{h:a9}{J:a9->Sem cN}(i:D=dB h)(c:ce aN s (J h) A aC b):ce aN s (D>>=J) A aC b:=bc<|r' i c
theorem kQ{N:List aF}{S:Sem a9}{J:a9->Sem cN}(c:ce aN s S (λh w=>ce aN s (J h) A aC w) aC b):ce aN s (ID N S>>=J) A aC b:=bc<|kK c
theorem pd{g:Prop}[Decidable g]{h a:Sem cN}(c:¬g)(m:ce aN s a A aC b):ce aN s (if g then h else a) A aC b:=iG (if_neg c) m
theorem RE{g:Prop}[Decidable g]{h a:Sem cN}(c:g)(m:ce aN s h A aC b):ce aN s (if g then h else a) A aC b:=iG (if_pos c) m
end
end
theorem ov{cA:Sort gh}{bA:cA->Prop}(H:cA)(af:bA H):∃H,bA H:=⟨H,af⟩
theorem dj{cA:Sort gh}{bA bI:cA->Prop}(H:cA)(af:bA H)(am:bI H):∃H,bA H/\bI H:=⟨H,af,am⟩
theorem sq{cA:Sort gh}{bA bI bY:cA->Prop}(H:cA)(af:bA H)(am:bI H)(a':bY H):∃H,bA H/\bI H/\bY H:=⟨H,af,am,a'⟩
theorem tP{cA:Sort gh}{bA bI bY cF:cA->Prop}(H:cA)(af:bA H)(am:bI H)(a':bY H)(cJ:cF H):∃H,bA H/\bI H/\bY H/\cF H:=⟨H,af,am,a',cJ⟩
theorem Zb{cA:Sort gh}{bA bI bY cF dn:cA->Prop}(H:cA)(af:bA H)(am:bI H)(a':bY H)(cJ:cF H)(ez:dn H):∃H,bA H/\bI H/\bY H/\cF H/\dn H:=⟨H,af,am,a',cJ,ez⟩
theorem Zc{cA:Sort gh}{bA bI bY cF dn es:cA->Prop}(H:cA)(af:bA H)(am:bI H)(a':bY H)(cJ:cF H)(ez:dn H)(gD:es H):∃H,bA H/\bI H/\bY H/\cF H/\dn H/\es H:=⟨H,af,am,a',cJ,ez,gD⟩
theorem kR{cA:Sort gh}{c8:Sort hx}{bA:cA->c8->Prop}(H:cA)(P:c8)(af:bA H P):∃H P,bA H P:=⟨H,P,af⟩
theorem vg{cA:Sort gh}{c8:Sort hx}{bA bI:cA->c8->Prop}(H:cA)(P:c8)(af:bA H P)(am:bI H P):∃H P,bA H P/\bI H P:=⟨H,P,af,am⟩
theorem ie{cA:Sort gh}{c8:Sort hx}{bA bI bY:cA->c8->Prop}(H:cA)(P:c8)(af:bA H P)(am:bI H P)(a':bY H P):∃H P,bA H P/\bI H P/\bY H P:=⟨H,P,af,am,a'⟩
theorem RF{cA:Sort gh}{c8:Sort hx}{bA bI bY cF:cA->c8->Prop}(H:cA)(P:c8)(af:bA H P)(am:bI H P)(a':bY H P)(cJ:cF H P):∃H P,bA H P/\bI H P/\bY H P/\cF H P:=⟨H,P,af,am,a',cJ⟩
theorem RG{cA:Sort gh}{c8:Sort hx}{bA bI bY cF dn es:cA->c8->Prop}(H:cA)(P:c8)(af:bA H P)(am:bI H P)(a':bY H P)(cJ:cF H P)(ez:dn H P)(gD:es H P):∃H P,bA H P/\bI H P/\bY H P/\cF H P/\dn H P/\es H P:=⟨H,P,af,am,a',cJ,ez,gD⟩
theorem RH{cA:Sort gh}{c8:Sort hx}{dI:Sort iF}{bA:cA->c8->dI->Prop}(H:cA)(P:c8)(ac:dI)(af:bA H P ac):∃H P ac,bA H P ac:=⟨H,P,ac,af⟩
theorem zj{cA:Sort gh}{c8:Sort hx}{dI:Sort iF}{bA bI bY:cA->c8->dI->Prop}(H:cA)(P:c8)(ac:dI)(af:bA H P ac)(am:bI H P ac)(a':bY H P ac):∃H P ac,bA H P ac/\bI H P ac/\bY H P ac:=⟨H,P,ac,af,am,a'⟩
theorem p0{cA:Sort gh}{c8:Sort hx}{dI:Sort iF}{bA bI bY cF:cA->c8->dI->Prop}(H:cA)(P:c8)(ac:dI)(af:bA H P ac)(am:bI H P ac)(a':bY H P ac)(cJ:cF H P ac):∃H P ac,bA H P ac/\bI H P ac/\bY H P ac/\cF H P ac:=⟨H,P,ac,af,am,a',cJ⟩
theorem Zd{cA:Sort gh}{c8:Sort hx}{dI:Sort iF}{bA bI bY cF dn:cA->c8->dI->Prop}(H:cA)(P:c8)(ac:dI)(af:bA H P ac)(am:bI H P ac)(a':bY H P ac)(cJ:cF H P ac)(ez:dn H P ac):∃H P ac,bA H P ac/\bI H P ac/\bY H P ac/\cF H P ac/\dn H P ac:=⟨H,P,ac,af,am,a',cJ,ez⟩
theorem RI{cA:Sort gh}{c8:Sort hx}{dI:Sort iF}{bA bI bY cF dn es:cA->c8->dI->Prop}(H:cA)(P:c8)(ac:dI)(af:bA H P ac)(am:bI H P ac)(a':bY H P ac)(cJ:cF H P ac)(ez:dn H P ac)(gD:es H P ac):∃H P ac,bA H P ac/\bI H P ac/\bY H P ac/\cF H P ac/\dn H P ac/\es H P ac:=⟨H,P,ac,af,am,a',cJ,ez,gD⟩
theorem RJ{cA:Sort gh}{c8:Sort hx}{dI:Sort iF}{bA bI bY cF dn es fV:cA->c8->dI->Prop}(H:cA)(P:c8)(ac:dI)(af:bA H P ac)(am:bI H P ac)(a':bY H P ac)(cJ:cF H P ac)(ez:dn H P ac)(gD:es H P ac)(jj:fV H P ac):∃H P ac,bA H P ac/\bI H P ac/\bY H P ac/\cF H P ac/\dn H P ac/\es H P ac/\fV H P ac:=⟨H,P,ac,af,am,a',cJ,ez,gD,jj⟩
theorem Kf{cA:Sort gh}{c8:Sort hx}{dI:Sort iF}{bA bI bY cF dn es fV kt:cA->c8->dI->Prop}(H:cA)(P:c8)(ac:dI)(af:bA H P ac)(am:bI H P ac)(a':bY H P ac)(cJ:cF H P ac)(ez:dn H P ac)(gD:es H P ac)(jj:fV H P ac)(tQ:kt H P ac):∃H P ac,bA H P ac/\bI H P ac/\bY H P ac/\cF H P ac/\dn H P ac/\es H P ac/\fV H P ac/\kt H P ac:=⟨H,P,ac,af,am,a',cJ,ez,gD,jj,tQ⟩
theorem Ze{cA:Sort gh}{c8:Sort hx}{dI:Sort iF}{eU:Sort lf}{bA:cA->c8->dI->eU->Prop}(H:cA)(P:c8)(ac:dI)(aH:eU)(af:bA H P ac aH):∃H P ac aH,bA H P ac aH:=⟨H,P,ac,aH,af⟩
theorem FL{cA:Sort gh}{c8:Sort hx}{dI:Sort iF}{eU:Sort lf}{bA bI:cA->c8->dI->eU->Prop}(H:cA)(P:c8)(ac:dI)(aH:eU)(af:bA H P ac aH)(am:bI H P ac aH):∃H P ac aH,bA H P ac aH/\bI H P ac aH:=⟨H,P,ac,aH,af,am⟩
theorem RK{cA:Sort gh}{c8:Sort hx}{dI:Sort iF}{eU:Sort lf}{bA bI bY:cA->c8->dI->eU->Prop}(H:cA)(P:c8)(ac:dI)(aH:eU)(af:bA H P ac aH)(am:bI H P ac aH)(a':bY H P ac aH):∃H P ac aH,bA H P ac aH/\bI H P ac aH/\bY H P ac aH:=⟨H,P,ac,aH,af,am,a'⟩
theorem Zf{cA:Sort gh}{c8:Sort hx}{dI:Sort iF}{eU:Sort lf}{bA bI bY cF:cA->c8->dI->eU->Prop}(H:cA)(P:c8)(ac:dI)(aH:eU)(af:bA H P ac aH)(am:bI H P ac aH)(a':bY H P ac aH)(cJ:cF H P ac aH):∃H P ac aH,bA H P ac aH/\bI H P ac aH/\bY H P ac aH/\cF H P ac aH:=⟨H,P,ac,aH,af,am,a',cJ⟩
theorem Zg{cA:Sort gh}{c8:Sort hx}{dI:Sort iF}{eU:Sort lf}{bA bI bY cF dn:cA->c8->dI->eU->Prop}(H:cA)(P:c8)(ac:dI)(aH:eU)(af:bA H P ac aH)(am:bI H P ac aH)(a':bY H P ac aH)(cJ:cF H P ac aH)(ez:dn H P ac aH):∃H P ac aH,bA H P ac aH/\bI H P ac aH/\bY H P ac aH/\cF H P ac aH/\dn H P ac aH:=⟨H,P,ac,aH,af,am,a',cJ,ez⟩
theorem Kg{cA:Sort gh}{c8:Sort hx}{dI:Sort iF}{eU:Sort lf}{bA bI bY cF dn es fV:cA->c8->dI->eU->Prop}(H:cA)(P:c8)(ac:dI)(aH:eU)(af:bA H P ac aH)(am:bI H P ac aH)(a':bY H P ac aH)(cJ:cF H P ac aH)(ez:dn H P ac aH)(gD:es H P ac aH)(jj:fV H P ac aH):∃H P ac aH,bA H P ac aH/\bI H P ac aH/\bY H P ac aH/\cF H P ac aH/\dn H P ac aH/\es H P ac aH/\fV H P ac aH:=⟨H,P,ac,aH,af,am,a',cJ,ez,gD,jj⟩
theorem RL{cA:Sort gh}{c8:Sort hx}{dI:Sort iF}{eU:Sort lf}{gC:Sort op}{bA bI bY cF dn:cA->c8->dI->eU->gC->Prop}(H:cA)(P:c8)(ac:dI)(aH:eU)(ba:gC)(af:bA H P ac aH ba)(am:bI H P ac aH ba)(a':bY H P ac aH ba)(cJ:cF H P ac aH ba)(ez:dn H P ac aH ba):∃H P ac aH ba,bA H P ac aH ba/\bI H P ac aH ba/\bY H P ac aH ba/\cF H P ac aH ba/\dn H P ac aH ba:=⟨H,P,ac,aH,ba,af,am,a',cJ,ez⟩
theorem RM{cA:Sort gh}{c8:Sort hx}{dI:Sort iF}{eU:Sort lf}{gC:Sort op}{bA bI bY cF dn es fV:cA->c8->dI->eU->gC->Prop}(H:cA)(P:c8)(ac:dI)(aH:eU)(ba:gC)(af:bA H P ac aH ba)(am:bI H P ac aH ba)(a':bY H P ac aH ba)(cJ:cF H P ac aH ba)(ez:dn H P ac aH ba)(gD:es H P ac aH ba)(jj:fV H P ac aH ba):∃H P ac aH ba,bA H P ac aH ba/\bI H P ac aH ba/\bY H P ac aH ba/\cF H P ac aH ba/\dn H P ac aH ba/\es H P ac aH ba/\fV H P ac aH ba:=⟨H,P,ac,aH,ba,af,am,a',cJ,ez,gD,jj⟩
theorem Zh{cA:Sort gh}{c8:Sort hx}{dI:Sort iF}{eU:Sort lf}{gC:Sort op}{ic:Sort q7}{bA:cA->c8->dI->eU->gC->ic->Prop}(H:cA)(P:c8)(ac:dI)(aH:eU)(ba:gC)(cb:ic)(af:bA H P ac aH ba cb):∃H P ac aH ba cb,bA H P ac aH ba cb:=⟨H,P,ac,aH,ba,cb,af⟩
theorem Zi{cA:Sort gh}{c8:Sort hx}{dI:Sort iF}{eU:Sort lf}{gC:Sort op}{ic:Sort q7}{bA bI:cA->c8->dI->eU->gC->ic->Prop}(H:cA)(P:c8)(ac:dI)(aH:eU)(ba:gC)(cb:ic)(af:bA H P ac aH ba cb)(am:bI H P ac aH ba cb):∃H P ac aH ba cb,bA H P ac aH ba cb/\bI H P ac aH ba cb:=⟨H,P,ac,aH,ba,cb,af,am⟩
theorem Zj{cA:Sort gh}{c8:Sort hx}{dI:Sort iF}{eU:Sort lf}{gC:Sort op}{ic:Sort q7}{bA bI bY:cA->c8->dI->eU->gC->ic->Prop}(H:cA)(P:c8)(ac:dI)(aH:eU)(ba:gC)(cb:ic)(af:bA H P ac aH ba cb)(am:bI H P ac aH ba cb)(a':bY H P ac aH ba cb):∃H P ac aH ba cb,bA H P ac aH ba cb/\bI H P ac aH ba cb/\bY H P ac aH ba cb:=⟨H,P,ac,aH,ba,cb,af,am,a'⟩
theorem Zk{cA:Sort gh}{c8:Sort hx}{dI:Sort iF}{eU:Sort lf}{gC:Sort op}{ic:Sort q7}{lF:Sort ve}{ma:Sort vf}{bA bI bY cF dn es fV:cA->c8->dI->eU->gC->ic->lF->ma->Prop}(H:cA)(P:c8)(ac:dI)(aH:eU)(ba:gC)(cb:ic)(dc:lF)(dp:ma)(af:bA H P ac aH ba cb dc dp)(am:bI H P ac aH ba cb dc dp)(a':bY H P ac aH ba cb dc dp)(cJ:cF H P ac aH ba cb dc dp)(ez:dn H P ac aH ba cb dc dp)(gD:es H P ac aH ba cb dc dp)(jj:fV H P ac aH ba cb dc dp):∃H P ac aH ba cb dc dp,bA H P ac aH ba cb dc dp/\bI H P ac aH ba cb dc dp/\bY H P ac aH ba cb dc dp/\cF H P ac aH ba cb dc dp/\dn H P ac aH ba cb dc dp/\es H P ac aH ba cb dc dp/\fV H P ac aH ba cb dc dp:=⟨H,P,ac,aH,ba,cb,dc,dp,af,am,a',cJ,ez,gD,jj⟩
theorem Zl{cA:Sort gh}{c8:Sort hx}{dI:Sort iF}{eU:Sort lf}{gC:Sort op}{ic:Sort q7}{lF:Sort ve}{ma:Sort vf}{oq:Sort wM}{bA bI bY:cA->c8->dI->eU->gC->ic->lF->ma->oq->Prop}(H:cA)(P:c8)(ac:dI)(aH:eU)(ba:gC)(cb:ic)(dc:lF)(dp:ma)(eu:oq)(af:bA H P ac aH ba cb dc dp eu)(am:bI H P ac aH ba cb dc dp eu)(a':bY H P ac aH ba cb dc dp eu):∃H P ac aH ba cb dc dp eu,bA H P ac aH ba cb dc dp eu/\bI H P ac aH ba cb dc dp eu/\bY H P ac aH ba cb dc dp eu:=⟨H,P,ac,aH,ba,cb,dc,dp,eu,af,am,a'⟩
section
inductive j7 where|x|y|z|w|u|v(j:Nat)|n(m:Nat)|o(f:j7)|a(f B:j7)|s(f B:j7)|m(m:Nat)(f:j7)|r(f:j7)(m:Nat)|g(f:j7)|c(f:j7)
inductive mI where|l(f B:j7)|t(f B:j7)|e(f B:j7)|nl(f B:j7)|i5(f B:j7)|ne(f B:j7)|cN(f B:j7)|b2(f B:j7)|e0(f B:j7)|r4(f B:j7)|qR(f B:j7)|m8(f B:j7)|f
noncomputable def ra:List Nat->Nat->Nat|f::_,0=>f|_::E,j+1=>ra E j|[],_=>0
noncomputable def rb:List Int->Nat->Int|f::_,0=>f|_::E,j+1=>rb E j|[],_=>0
variable(g:List Nat)(x:List Int)
def ks:j7->Nat|.x=>ra g 0|.y=>ra g 1|.z=>ra g 2|.w=>ra g 3|.u=>ra g 4|.v j=>ra g j|.o f=>ks f+1|.n m=>m|.a f B=>ks f+ks B|.m m f=>m*ks f|.r f m=>ks f*m|_=>0
def kS:j7->Int|.x=>rb x 0|.y=>rb x 1|.z=>rb x 2|.w=>rb x 3|.u=>rb x 4|.v j=>rb x j|.o f=>kS f+1|.n m=>m|.a f B=>kS f+kS B|.s f B=>kS f-kS B|.m m f=>m*kS f|.r f m=>kS f*m|.g f=>-kS f|.c f=>ks g f
def nR:mI->Prop|.l f B=>ks g f<=ks g B|.t f B=>ks g f<ks g B|.e f B=>ks g f=ks g B|.nl f B=>¬ks g f<=ks g B|.i5 f B=>¬ks g f<ks g B|.ne f B=>¬ks g f=ks g B|.cN f B=>kS g x f<=kS g x B|.b2 f B=>kS g x f<kS g x B|.e0 f B=>kS g x f=kS g x B|.r4 f B=>¬kS g x f<=kS g x B|.qR f B=>¬kS g x f<kS g x B|.m8 f B=>¬kS g x f=kS g x B|.f=>False
noncomputable abbrev ku:=Int×List Int×List Int
noncomputable def tR:List Int->List Int->List Int|[],e=>e|n,[]=>n|f::n,B::e=>(f+B)::tR n e
noncomputable def vh(m:Int)(n:List Int):List Int:=n.map (m*·)
noncomputable def kT:Nat->List Int|0=>[1]|j+1=>0::kT j
noncomputable def i1:List Int->List Nat->Int|f::n,B::e=>f*B+i1 n e|_,_=>0
noncomputable def iI:List Int->List Int->Int|f::n,B::e=>f*B+iI n e|_,_=>0
def rc(f B:ku):ku:=(f.1+B.1,tR f.2.1 B.2.1,tR f.2.2 B.2.2)
def sr(m:Int)(f:ku):ku:=(m*f.1,vh m f.2.1,vh m f.2.2)
def ig(D:ku):Int:=D.1+i1 D.2.1 g+iI D.2.2 x
def mJ:j7->ku|.x=>(0,kT 0,[])|.y=>(0,kT 1,[])|.z=>(0,kT 2,[])|.w=>(0,kT 3,[])|.u=>(0,kT 4,[])|.o f=>rc (mJ f) (1,[],[])|.v j=>(0,kT j,[])|.n m=>(m,[],[])|.a f B=>rc (mJ f)<|mJ B|.m m f=>sr m<|mJ f|.r f m=>sr m<|mJ f|_=>(0,[],[])
def lg:j7->ku|.x=>(0,[],kT 0)|.y=>(0,[],kT 1)|.z=>(0,[],kT 2)|.w=>(0,[],kT 3)|.u=>(0,[],kT 4)|.o f=>rc (lg f) (1,[],[])|.v j=>(0,[],kT j)|.n m=>(m,[],[])|.a f B=>rc (lg f)<|lg B|.s f B=>rc (lg f)<|sr (-1)<|lg B|.m m f=>sr m<|lg f|.r f m=>sr m<|lg f|.g f=>sr (-1)<|lg f|.c f=>mJ f
theorem RN:∀(g:List Nat)n e,i1 (tR n e) g=i1 n g+i1 e g
 |g,[],e=>by cases g<;>rw[Fm (tv _)]|g,f::n,[]=>by cases g<;>rw[Fm (pU _)]|[],f::n,B::e=>V|C::g,f::n,B::e=>by
  show(f+B)*C+i1 (tR n e) g=f*C+i1 n g+(B*C+i1 e g);rw[RN g n e,Int.add_mul]
  ac_rfl
theorem RO:∀(g:List Int)n e,iI (tR n e) g=iI n g+iI e g
 |g,[],e=>by cases g<;>rw[Fm (tv _)]|g,f::n,[]=>by cases g<;>rw[Fm (pU _)]|[],f::n,B::e=>V|C::g,f::n,B::e=>by
  show(f+B)*C+iI (tR n e) g=f*C+iI n g+(B*C+iI e g);rw[RO g n e,Int.add_mul]
  ac_rfl
theorem Zm(m:Int):∀(g:List Nat)n,i1 (vh m n) g=m*i1 n g:=by intro pe fc;induction fc generalizing pe with|nil=>cases pe<;>rw[Fm (By _)]|cons f n a3=>cases pe with|nil=>rw[Fm (By _)]|cons C g=>show m*f*C+i1 (vh m n) g=m*(f*C+i1 n g);rw[a3 g,Bz,I2]
theorem RP(m:Int):∀(g:List Int)n,iI (vh m n) g=m*iI n g|g,[]=>by cases g<;>rw[Fm (By _)]|[],f::n=>Fm (By _)|C::g,f::n=>by show m*f*C+iI (vh m n) g=m*(f*C+iI n g);rw[RP m g n,Bz,I2]
theorem Zn:∀(g:List Nat)j,i1 (kT j) g=ra g j:=by intro fc;induction fc with
 |nil=>intro eV;cases eV with|zero=>rw[V]|succ j=>rw[V]
 |cons C g a3=>intro eV;cases eV with|zero=>show 1*(C:Int)+i1 [] g=C;rw[Int.one_mul,];cases g<;>rw[pU _]|succ j=>show 0*(C:Int)+i1 (kT j) g=ra g j;rw[a3 j,I3,tv]
theorem RQ:∀(g:List Int)j,iI (kT j) g=rb g j|[],0=>V|[],j+1=>V|C::g,0=>by show 1*(C:Int)+iI [] g=C;rw[Int.one_mul,];cases g<;>rw[pU _]|C::g,j+1=>by show 0*(C:Int)+iI (kT j) g=rb g j;rw[RQ g j,I3,tv]
theorem RR(g:List Nat):i1 [] g=0:=by cases g<;>rfl
theorem RS(g:List Int):iI [] g=0:=by cases g<;>rfl
theorem tS(f B:ku):ig g x (rc f B)=ig g x f+ig g x B:=by
 show f.1+B.1+i1 (tR _ _) g+iI (tR _ _) x=f.1+i1 _ g+iI _ x+(B.1+i1 _ g+iI _ x);rw[RN,RO]
 ac_rfl
theorem vi(m:Int)(f:ku):ig g x (sr m f)=m*ig g x f:=by show m*f.1+i1 (vh _ _) g+iI (vh _ _) x=m*(f.1+i1 _ g+iI _ x);rw[Zm,RP,Bz,Bz]
theorem p1(m:Int):ig g x (m,[],[])=m:=by show m+i1 [] g+iI [] x=m;rw[RR,RS,pU,pU]
theorem zk(j:Nat):ig g x (0,kT j,[])=ra g j:=by show 0+i1 (kT j) g+iI [] x=ra g j;rw[Zn,RS,pU,tv]
theorem zl(j:Nat):ig g x (0,[],kT j)=rb x j:=by show 0+i1 [] g+iI (kT j) x=rb x j;rw[RQ,RR,pU,tv]
theorem nh:∀f,ig g x (mJ f)=ks g f|.x=>zk g x 0|.y=>zk g x 1|.z=>zk g x 2|.w=>zk g x 3|.u=>zk g x 4|.v j=>zk g x j|.o f=>(tS ..).trans<|nh f▸p1 g x 1▸Fm (PP ..)|.n m=>p1 g x m|.a f B=>(tS ..).trans<|nh f▸nh B▸Fm (PP ..)|.m m f=>(vi ..).trans<|nh f▸Fm (E9 ..)|.r f m=>(vi ..).trans<|nh f▸(E_ ..).trans (E9 ..).symm|.s _ _=>p1 g x 0|.g _=>p1 g x 0|.c _=>p1 g x 0
theorem mc:∀f,ig g x (lg f)=kS g x f|.x=>zl g x 0|.y=>zl g x 1|.z=>zl g x 2|.w=>zl g x 3|.u=>zl g x 4|.v j=>zl g x j|.o f=>(tS ..).trans<|mc f▸p1 g x 1▸V|.n m=>p1 g x m|.a f B=>(tS ..).trans<|mc f▸mc B▸V|.s f B=>(tS ..).trans<|vi g x (-1) (lg B)▸mc f▸mc B▸I4 _▸BA.symm|.m m f=>(vi ..).trans<|mc f▸V|.r f m=>(vi ..).trans<|mc f▸E_ ..|.g f=>(vi ..).trans<|mc f▸Fm (I4 _)|.c f=>nh g x f
def nS(B f:ku)(m:Int):ku:=rc (rc B<|sr (-1) f) (m,[],[])
theorem Kh(B f:ku)(m:Int):ig g x (nS B f m)=ig g x B-ig g x f+m:=by rw[nS,tS,tS,vi,p1,<-I4,BA]
def ow:mI->Bool×ku|.l f B=>(be,nS (mJ B) (mJ f) 0)|.t f B=>(be,nS (mJ B) (mJ f)<|-1)|.e f B=>(ag,nS (mJ B) (mJ f) 0)|.nl f B=>(be,nS (mJ f) (mJ B)<|-1)|.i5 f B=>(be,nS (mJ f) (mJ B) 0)|.ne _ _=>(be,(0,[],[]))|.cN f B=>(be,nS (lg B) (lg f) 0)|.b2 f B=>(be,nS (lg B) (lg f)<|-1)|.e0 f B=>(ag,nS (lg B) (lg f) 0)|.r4 f B=>(be,nS (lg f) (lg B)<|-1)|.qR f B=>(be,nS (lg f) (lg B) 0)|.m8 _ _=>(be,(0,[],[]))|.f=>(be,(-1,[],[]))
theorem FM{f B:ku}{h a:Int}(R:ig g x f=h)(a8:ig g x B=a)(c:h<=a):0<=ig g x (nS B f 0):=by rw[Kh,R,a8,pU];rw[Int.sub_nonneg_of_le c]
theorem FN{f B:ku}{h a:Int}(R:ig g x f=h)(a8:ig g x B=a)(c:h<a):0<=ig g x (nS B f<|-1):=by rw[Kh,R,a8];rw[Int.le_sub_one_of_lt<|Int.sub_pos_of_lt c]
theorem RT{f B:ku}{h a:Int}(R:ig g x f=h)(a8:ig g x B=a)(c:h=a):ig g x (nS B f 0)=0:=by rw[Kh,R,a8,pU,c,Int.sub_self]
theorem RU:∀J,nR g x J->(cond (ow J).1 (ig g x (ow J).2=0)<|0<=ig g x (ow J).2):=by intro fc;induction fc with|l f B=>intro c;rw[FM g x (nh g x f) (nh g x B)<|I5.mpr c]|t f B=>intro c;rw[FN g x (nh g x f) (nh g x B)<|E'.mpr c]|e f B=>intro c;rw[RT g x (nh g x f) (nh g x B)<|congrArg Nat.cast c]|nl f B=>intro c;rw[FN g x (nh g x B) (nh g x f)<|E'.mpr<|Jb c]|i5 f B=>intro c;rw[FM g x (nh g x B) (nh g x f)<|I5.mpr<|sf c]|ne _ _=>intro fl;rw[yS (p1 g x 0).symm]|cN f B=>intro c;rw[FM g x (mc g x f) (mc g x B) c]|b2 f B=>intro c;rw[FN g x (mc g x f) (mc g x B) c]|e0 f B=>intro c;rw[RT g x (mc g x f) (mc g x B) c]|r4 f B=>intro c;rw[FN g x (mc g x B) (mc g x f)<|Int.lt_of_not_ge c]|qR f B=>intro c;rw[FM g x (mc g x B) (mc g x f)<|BB.mp c]|m8 _ _=>intro fl;rw[yS (p1 g x 0).symm]|f=>intro c;rw[c.elim]
noncomputable def vj(a:Bool):mI->mI|.l f B=>.nl f B|.t f B=>.i5 f B|.e f B=>cond a (.t f B)<|.t B f|.nl f B=>.l f B|.i5 f B=>.t f B|.ne f B=>.e f B|.cN f B=>.r4 f B|.b2 f B=>.qR f B|.e0 f B=>cond a (.b2 f B)<|.b2 B f|.r4 f B=>.cN f B|.qR f B=>.b2 f B|.m8 f B=>.e0 f B|.f=>.e (.n 0)<|.n 0
theorem Zo:∀t,(nR g x (vj ag t)->False)->(nR g x (vj be t)->False)->nR g x t:=by intro fc;induction fc with|l _ _=>intro c eM;rw[Fl c]|t _ _=>intro c eM;rw[Fl c]|e _ _=>intro c m;rw[u1 (sf m)<|sf c]|nl _ _=>intro c eM;rw[c]|i5 _ _=>intro c eM;rw[c]|ne _ _=>intro c eM;rw[c]|cN _ _=>intro c eM;rw[Fl c]|b2 _ _=>intro c eM;rw[Fl c]|e0 _ _=>intro c m;rw[Int.le_antisymm (BB.mp m)<|BB.mp c]|r4 _ _=>intro c eM;rw[c]|qR _ _=>intro c eM;rw[c]|m8 _ _=>intro c eM;rw[c]|f=>intro c eM;rw[c V]
def tT(t:Prop):List mI->Prop|[]=>t|J::E=>nR g x J->tT t E
def zm:List Int->List mI->Option ku|m::eJ,J::E=>cond ((ow J).1||decide (0<=m)) ((zm eJ E).map<|rc<|sr m (ow J).2) aX|[],J::E=>(zm [] E).map<|rc (ow J).2|_,[]=>W (0,[],[])
theorem Ki{M A:Prop}(c:M->A):∀E:List mI,tT g x M E->tT g x A E:=by intro fc;induction fc with|nil=>rw[c]|cons _ E a3=>rw[λe R=>a3<|e R]
theorem Zp:∀(eJ:List Int)(E:List mI){D},zm eJ E=W D->tT g x (0<=ig g x D) E:=by intro pe fc;induction fc generalizing pe with
 |nil=>cases pe with|nil=>intro eM c;cases c;rw[yS (p1 g x 0).symm]|cons _ _=>intro eM c;cases c;rw[yS (p1 g x 0).symm]
 |cons J E a3=>cases pe with
  |nil=>
   intro D c bi;obtain⟨aG,dX,rfl⟩:=yR.mp c;have step:0<=ig g x (ow J).2:=by have aT:=RU g x J bi;cases aY:(ow J).1 with
    |true=>rw[aY]at aT;rw[yS<|Fm aT]|false=>rw[aY]at aT;rw[aT]
   rw[Ki g x (λe=>by rw[tS,];rw[I6 step e]) E<|a3 [] dX]|cons m eJ=>intro D c bi;have aT:=RU g x J bi;replace c:cond ((ow J).1||decide (0<=m)) ((zm eJ E).map<|rc<|sr m (ow J).2) aX=W D:=c;cases l:(ow J).1||decide (0<=m)with
   |false=>rw[l]at c;cases c|true=>
    rw[l]at c;obtain⟨aG,dX,rfl⟩:=yR.mp c;have step:0<=m*ig g x (ow J).2:=by cases aY:(ow J).1 with|true=>rw[aY]at aT;rw[show ig g x (ow J).2=0 from aT,];rw[yS (By m).symm]|false=>rw[aY]at l aT;rw[PQ (of_decide_eq_true l) aT]
    rw[Ki g x (λe=>by rw[tS,vi];rw[I6 step e]) E<|a3 eJ dX]
noncomputable def RV(D:ku):Bool:=decide (D.1<0)&&D.2.1.all (λf=>decide<|f<=0)&&D.2.2.all (λf=>decide<|f=0)
theorem Zq:∀(g:List Nat)n,n.all (λf=>decide<|f<=0)=ag->i1 n g<=0:=by intro fc;induction fc with|nil=>intro n eM;cases n<;>rw[I8 0]|cons C g a3=>intro eV;cases eV with|nil=>intro eM;rw[I8 0]|cons f n=>intro c;have c:=kJ.mp c;rw[Int.add_nonpos (Int.mul_nonpos_of_nonpos_of_nonneg (of_decide_eq_true c.1)<|gP C)<|a3 n c.2]
theorem Zr:∀(g:List Int)n,n.all (λf=>decide<|f=0)=ag->iI n g=0:=by intro fc;induction fc with|nil=>intro n eM;cases n<;>rfl|cons C g a3=>intro eV;cases eV with|nil=>intro eM;rw[V]|cons f n=>intro c;have c:=kJ.mp c;show f*C+iI n g=0;rw[a3 n c.2,of_decide_eq_true c.1,I3,pU]
theorem Zt{D:ku}(c:RV D=ag):¬0<=ig g x D:=by have c:=kJ.mp c;have af:=kJ.mp c.1;rw[Int.not_le.mpr ?_];show D.1+i1 D.2.1 g+iI D.2.2 x<0;rw[Zr x _ c.2,pU];rw[Int.add_neg_of_neg_of_nonpos (of_decide_eq_true af.1)<|Zq g _ af.2]
def FO(t:mI)(E:List mI)(a:Bool)(eJ:List Int):Bool:=((zm eJ<|vj a t::E).map RV).getD be
theorem RW{t:mI}{E:List mI}{a:Bool}{eJ:List Int}(c:FO t E a eJ=ag):nR g x (vj a t)->tT g x False E:=by have e:=λD=>Zp g x eJ (vj a t::E) (D:=D);rw[FO]at c;cases G:zm eJ (vj a t::E)with|none=>rw[G]at c;cases c|some D=>rw[G]at c;have:=e D G;intro ak;have el:=this ak;rw[Ki g x (Zt g x c) E el]
noncomputable def Zu(o:Nat):Int:=[0,1,-1,2,8,-8,200,1600].getD o 0
def Kj:Nat->Nat->List Int|0,_=>[]|J+1,o=>bif o==0 then[]else Zu (o%10)::Kj J (o/10)
def Zv(t:mI)(E:List mI)(S o:Nat):Bool:=FO t E ag (Kj 12 S)&&FO t E be (Kj 12 o)
def hI(g:List Nat)(x:List Int)(S o:Nat):Prop:=∀(t:mI)(E:List mI),Zv t E S o=ag->tT g x (nR g x t) E
theorem hX(g:List Nat)(x:List Int)(S o:Nat):hI g x S o:=λt E c=>by
 have c:=kJ.mp c;have cK:∀E:List mI,(nR g x (vj ag t)->tT g x False E)->(nR g x (vj be t)->tT g x False E)->tT g x (nR g x t) E:=by intro E;induction E with
  |nil=>rw[λh a=>Zo g x t h a]|cons f E aW=>rw[λh a R=>aW (λe=>h e R)<|λe=>a e R]
 rw[cK E (RW g x c.1)<|RW g x c.2]
theorem nT:hI [] [rd] 0 0:=hX _ _ _ _
theorem Kk:hI [] [rd,ox] 0 0:=hX _ _ _ _
theorem Zw(S:Nat):hI [] [rd,ox] S S:=hX _ _ _ _
theorem bM:hI [gE] [] 0 0:=hX _ _ _ _
theorem ni(S:Nat):hI [gE] [] S S:=hX _ _ _ _
theorem FP(S o:Nat):hI [gE] [] S o:=hX _ _ _ _
theorem tU:hI [gE] [rd] 0 0:=hX _ _ _ _
theorem Zx(S:Nat):hI [gE] [rd] S S:=hX _ _ _ _
theorem RX(S o:Nat):hI [gE] [rd] S o:=hX _ _ _ _
theorem FQ:hI [gE] [rd,ox] 0 0:=hX _ _ _ _
theorem ct:hI [gE,jk] [] 0 0:=hX _ _ _ _
theorem fE(S:Nat):hI [gE,jk] [] S S:=hX _ _ _ _
theorem nj(S o:Nat):hI [gE,jk] [] S o:=hX _ _ _ _
theorem vk:hI [gE,jk] [rd] 0 0:=hX _ _ _ _
theorem RY(S:Nat):hI [gE,jk] [rd] S S:=hX _ _ _ _
theorem Zy(S o:Nat):hI [gE,jk] [rd] S o:=hX _ _ _ _
theorem eA:hI [gE,jk,lI] [] 0 0:=hX _ _ _ _
theorem fq(S:Nat):hI [gE,jk,lI] [] S S:=hX _ _ _ _
theorem kU(S o:Nat):hI [gE,jk,lI] [] S o:=hX _ _ _ _
theorem vl:hI [gE,jk,lI] [rd] 0 0:=hX _ _ _ _
theorem RZ(S:Nat):hI [gE,jk,lI] [rd] S S:=hX _ _ _ _
theorem oy:hI [gE,jk,lI,ss] [] 0 0:=hX _ _ _ _
theorem lJ(S:Nat):hI [gE,jk,lI,ss] [] S S:=hX _ _ _ _
theorem zn(S o:Nat):hI [gE,jk,lI,ss] [] S o:=hX _ _ _ _
theorem zo:hI [gE,jk,lI,ss,Cd] [] 0 0:=hX _ _ _ _
theorem rf(S:Nat):hI [gE,jk,lI,ss,Cd] [] S S:=hX _ _ _ _
theorem rg(S o:Nat):hI [gE,jk,lI,ss,Cd] [] S o:=hX _ _ _ _
theorem Zz(S:Nat):hI [gE,jk,lI,ss,Cd,R0] [] S S:=hX _ _ _ _
theorem Kl(S o:Nat):hI [gE,jk,lI,ss,Cd,R0] [] S o:=hX _ _ _ _
theorem R1(S o:Nat):hI [gE,jk,lI,ss,Cd,R0,amg] [] S o:=hX _ _ _ _
theorem ef(h a:Nat):h<=h-a+a:=Jc.mp<|dr _
theorem dM{h a:Nat}(c:a<=h):h-a+a=h:=yV c
theorem jl{h a:Nat}(c:h<=a):h-a=0:=PT c
theorem p2(f m:Nat):m*(f/m)<=f:=PU f m
theorem rh(f m:Nat):f<(m+1)*(f/(m+1))+(m+1):=Nat.lt_mul_div_succ f<|BE m
theorem ZA(f m:Nat):f%(m+1)<m+1:=Nat.mod_lt f<|BE m
theorem ZB(f m:Nat):m*(f/m)+f%m=f:=wx f m
theorem pf(h a:Nat):min h a<=h:=Nat.min_le_left h a
theorem vm(h a:Nat):min h a<=a:=Nat.min_le_right h a
theorem FR{h a:Nat}(c:h<=a):min h a=h:=yW c
theorem R2{h a:Nat}(c:a<=h):min h a=a:=yX c
theorem R3(h a:Nat):h<=max h a:=Nat.le_max_left h a
theorem ZC(h a:Nat):a<=max h a:=Jd h a
theorem mK(f:Int):f<=om f:=Int.self_le_toNat f
theorem pg{f:Int}(c:0<=f):om f=f:=Fa c
theorem ZD(f:Int)(m:Nat):0<=f%((m+1:Nat):Int):=Int.emod_nonneg f<|Int.natCast_ne_zero.mpr<|PV m
theorem ZE(f:Int)(m:Nat):f%((m+1:Nat):Int)<((m+1:Nat):Int):=Int.emod_lt_of_pos f<|PR.mpr<|BE m
end
section
variable{a9:Type}{M:a9->Prop}{h a:a9}{E q:List a9}
theorem hg(c:M h)(m:∀a∈E,M a):∀a∈h::E,M a:=λa e=>(fT.mp e).elim (λi=>i▸c)<|m a
theorem aR:∀a∈([]:List a9),M a:=λu e=>nomatch e
theorem bS{aD:Prop}(e:h∈E++q)(c:h∈E->aD)(m:h∈q->aD):aD:=(jf.mp e).elim c m
theorem dw{aD:Prop}(e:h∈a::E)(c:h=a->aD)(m:h∈E->aD):aD:=(fT.mp e).elim c m
theorem b7(e:h∈E):h∈E++q:=u3 _ e
theorem bR(e:h∈q):h∈E++q:=wz _ e
theorem bg(e:h∈[a]):h=a:=hG.mp e
theorem bB:h∈h::E:=tz
theorem mt(e:h∈E):h∈a::E:=sj _ e
theorem su{a9:Sort aG}{cN:Sort z}{h:a9}{a:cN}{aD:a9->cN->Prop}(c:aD h a):∀f B,f=h/\B=a->aD f B:=λu u i=>i.1▸i.2▸c
theorem b2{h a:Nat}{M:Prop}(c:h<a)(m:a<=h):M:=absurd c<|Fd.mpr m
theorem mL{a9 cN:Type}{J:a9->cN}{E:List a9}{a:cN}{aD:Prop}(c:a∈E.map J)(m:∀h,h∈E->J h=a->aD):aD:=(la.mp c).elim λh e=>m h e.1 e.2
theorem wQ{a9 cN:Type}{J:a9->cN}{f:Option a9}{a:cN}{aD:Prop}(c:f.map J=W a)(m:∀h,f=W h->J h=a->aD):aD:=(yR.mp c).elim λh e=>m h e.1 e.2
theorem iJ{M:Prop}(c:be=ag):M:=nomatch c
theorem R4{M:Prop}(c:ag=be):M:=nomatch c
theorem dN{a9:Type aG}{h:a9}{M:Prop}(c:aX=W h):M:=nomatch c
theorem Km{a9:Type aG}{h:a9}{M:Prop}(c:W h=aX):M:=nomatch c
theorem db{a9:Type aG}{h:a9}{M:Prop}(c:h∈([]:List a9)):M:=nomatch c
theorem md{a9:Type aG}{h a:a9}(c:W h=W a):h=a:=ek c
end
noncomputable def ri:List String:=["bytearray.__contains__","bytearray.__mod__","bytearray.__rmod__","_struct.pack_into.held","bytearray.find.held"]++Qw
noncomputable def tV:iZ->Bool|.builtin id cR=>ri.contains id|_=>be
def tW(E:List<|iZ×Pos):Prop:=∀f∈E,tV f.1=be
def Y(ſ:cM)(v:cU)(s:cq)(D:Sem a9)(A:a9->au->Prop)(b:au):Prop:=∀y n,y.In s->tV y.code=be->tW y.below->j5 (cD ſ v) y D (λh u w=>A h w) (λu u u=>False) n b
def em(ſ:cM)(v:cU)(s:cq)(g:iZ)(ca:gO->au->Prop)(b:au):Prop:=∀y n,y.code=g->y.Below s->tW y.below->wpCode (cD ſ v) y (λq w=>match q with|.ok J=>ca J w|.error _=>False) n b
theorem Y.of(c:ce (cD ſ v) s D A (λu u=>False) b):Y ſ v s D A b:=λy n cz u u=>c y n cz
theorem em.of(c:Bg (cD ſ v) s g (λq w=>match q with|.ok J=>ca J w|.error _=>False) b):em ſ v s g ca b:=λy n aA cz u=>c y n aA cz
@[elab_as_elim]theorem ds{a9:Sort aG}{M:a9->Prop}(a1:a9)(c:let f:=a1;M f):M a1:=c
theorem d8(c:let ca:=A;Y ſ v s D ca b):Y ſ v s D A b:=c
theorem FS(c:let f:=b;Y ſ v s D A f):Y ſ v s D A b:=c
theorem Kn(c:let M:=ca;em ſ v s g M b):em ſ v s g ca b:=c
theorem jm(c:let ca:=A;ce aN s D ca aC b):ce aN s D A aC b:=c
theorem tX(c:let f:=b;ce aN s D A aC f):ce aN s D A aC b:=c
theorem ph(c:let K:=J;Y ſ v s (S>>=K) A b):Y ſ v s (S>>=J) A b:=c
theorem sv(c:let K:=J;ce aN s (S>>=K) A aC b):ce aN s (S>>=J) A aC b:=c
theorem FT(c:let bo:=s;Y ſ v bo D A b):Y ſ v s D A b:=c
theorem Y.pure(c:A h b):Y ſ v s (pure h) A b:=λu u u u u=>c
theorem Y.mono(c:Y ſ v s D A b)(aj:∀h b,A h b->nU h b):Y ſ v s D nU b:=λy n cz af am=>mF _ y D (λh u w=>aj h w) (λu u u f=>f) n b<|c y n cz af am
theorem Y.bind(c:Y ſ v s S (λh w=>Y ſ v s (J h) A w) b):Y ſ v s (S>>=J) A b:=λy n cz af am=>by rw[U (za ..)<|mF _ y S (λh bs w X=>X y bs cz af am) (λu u u X=>X) n b<|c y n cz af am]
theorem Y.holding(c:Y ſ v s S A b):Y ſ v s (ID N S) A b:=λy n cz af am=>by rw[U (Sem.wp_holding ..)<|c y n cz af am]
theorem Y.keep(c:Y ſ v s S A b):Y ſ v s (S.keep N) A b:=λy n cz af am=>by rw[U (Sem.wp_keep ..)<|c y n cz af am]
theorem Y.onRaise(c:Y ſ v s S A b):Y ſ v s (S.onRaise m) A b:=λy n cz af am=>by rw[U (QC ..)<|mF _ y S (λu u u X=>X) (λu u u X=>X.elim) n b<|c y n cz af am]
theorem Y.tryCatch(c:Y ſ v s S A b):Y ſ v s (S.tryCatch m) A b:=λy n cz af am=>by rw[U (Sem.wp_tryCatch ..)<|mF _ y S (λu u u X=>X) (λu u u X=>X.elim) n b<|c y n cz af am]
theorem Y.attempt{S:Sem a9}{A:Except aF a9->au->Prop}(c:Y ſ v s S (λh w=>A (.ok h) w) b):Y ſ v s S.attempt A b:=λy n cz af am=>by rw[U (Sem.wp_attempt ..)<|mF _ y S (λu u u X=>X) (λu u u X=>X.elim) n b<|c y n cz af am]
theorem Y.eq(i:D=fp)(c:Y ſ v s fp A b):Y ſ v s D A b:=i▸c
theorem Y.run(aA:em ſ v s g A b):Y ſ v s (PySem.run g) A b:=λy n cz af am=>by
 rwa[U (Sem.wp_run ..)];have p3:(y.enter g aX n).Below s:=cz.enter g aX n (by intro f;rw[dN f]);rwa[Bh (λq w f=>?_)<|aA (y.enter g aX n) n V p3]
 .cases q with|ok J=>rw[f]|error i=>rw[f.elim]
 .intro f R
  revert f;rwa[hg ?_]
  .rw[af]
  .intro f R;rw[am f R]
theorem Y.runOwn(aA:em ſ v s g A b):Y ſ v s (PySem.runOwn g p) A b:=Y.onRaise<|Y.run aA
theorem Y.runValue(aA:em ſ v s g (λJ w=>∃z,J=.ret z/\A z w) b):Y ſ v s (PySem.runValue g) A b:=by rwa[Y.bind<|Y.mono (Y.run aA)];rintro J w bN;rw[bt bN λz cB c=>U cB<|Y.pure c]
theorem Y.call(aA:em ſ v s (.call J ⟨ax,R5⟩) (λJ w=>∃z,J=.ret z/\A z w) b):Y ſ v s (eS J ax R5) A b:=Y.runValue aA
def zp(ſ:cM)(v:cU)(s:cq)(ca:gO->au->Prop)(gv:Fin)(w:au):Prop:=match gv with|.done J=>ca J w|.again bm=>bm.quiet=ag/\em ſ v s bm ca w
theorem em.my(cO:tV g=be)(c:Y ſ v (s.under g) (yD table g) (zp ſ v s ca) b):em ſ v s g ca b:=λy n aA cz am=>by rw[gW (EI ..)<|U aA<|mF _ y _ (λgv bs w X=>?_) (λu u u X=>X) n b<|c y n (aA▸cz.in) (aA▸cO) am];cases gv with|done J=>rw[X]|again bm=>rw[⟨X.1,X.2 (y.goto bm) bs V (cz.goto bm) am⟩]
theorem em.mono(c:em ſ v s g ca b)(i2:∀J b,ca J b->ZF J b):em ſ v s g ZF b:=λy n aA cz am=>Bh (λq w f=>by cases q with|ok J=>rw[i2 J w f]|error i=>rw[f])<|c y n aA cz am
theorem em.loop(cO:tV g=be)(aY:g.quiet=ag)(an:Nat->au->Prop)(nV:∀o b,an o b->Y ſ v (s.under g) (yD table g) (λgv w=>match gv with|.done J=>ca J w|.again bm=>(bm=g/\∃S,S<o/\an S w)\/(bm.quiet=ag/\em ſ v s bm ca w)) b)(o:Nat)(c:an o b):em ſ v s g ca b:=by induction o using Je generalizing b with|ind o aW=>rw[em.my cO<|Y.mono (nV o b c) λgv w bi=>?_];cases gv with|done J=>rw[bi]|again bm=>
   rcases bi with⟨rfl,S,bk,lK⟩|bi
   .rw[⟨aY,aW S bk lK⟩]
   .rw[bi]
theorem em.builtin{id:String}{gF:Args}{a:tl}{ca:gO->au->Prop}(cO:tV (.builtin id gF)=be)(l:tm table id=W a)(c:Y ſ v (s.under<|.builtin id gF) (a gF) (zp ſ v s ca) b):em ſ v s (.builtin id gF) ca b:=by rw[em.my cO ((U l c):Y ſ v _ (match tm table id with|some a=>a gF|none=>unsupported<|(withoutEnding? id "#data").getD id) _ b)]
theorem Ce{id Ko:String}(c:ri.contains id=be)(aw:ri.contains Ko=ag):id≠Ko:=λi=>nomatch(i▸c).symm.trans aw
theorem Cf[Decidable g](c:¬g)(m:i c=B):dite g D i=B:=(dif_neg c).trans m
theorem Y.exported(c:A be b):Y ſ v s (BW p4) A b:=λy n u af am=>by have aA:tW ((y.code,n)::y.below):=λf R=>dw R (λi=>i▸af)<|am f;rw[Eq.mpr (congrArg (λa=>A a b)<|List.any_eq_false.mpr λf R=>?_) c];have aY:=aA f R;clear R;obtain⟨g,e⟩:=f;cases g with
 |builtin id gF=>
  rwa[U (Bool.not_eq_true ..)]
  delta YF
  dsimp only[BW._sparseCasesOn_1];rw[Cf (Ce aY V)<|Cf (Ce (Ko:="bytearray.__mod__") aY V)<|Cf (Ce aY V)<|Cf (Ce aY V)<|Cf (Ce aY V) ?_];obtain⟨ax,R5⟩:=gF;cases ax with
  |nil=>rfl|cons z q=>
   have i:Qw.contains id=be:=by have nW:ri.contains id=be:=aY;unfold ri at nW;rw[List.contains_append,IB]at nW;rw[nW.2]
   rw[(congrArg (_&&·) i).trans<|Bool.and_false _]
 |_=>rw[wn]
theorem dH(c:Y ſ v s (m ()) A b):Y ſ v s (Bi ax>>=m) A b:=Y.bind<|Y.of<|qU c
theorem ev(c:Y ſ v s (J h) A b):Y ſ v s (dB h>>=J) A b:=Y.bind<|Y.pure c
theorem dR(c:Y ſ v s S (λh w=>Y ſ v s (J h) A w) b):Y ſ v s (ID N S>>=J) A b:=Y.bind<|Y.holding c
theorem hy(c:Y ſ v s S M b)(m:∀h w,M h w->Y ſ v s (J h) A w):Y ſ v s (S>>=J) A b:=Y.bind<|Y.mono c m
theorem dC(c:ce (cD ſ v) s S (λh w=>Y ſ v s (J h) A w) (λu u=>False) b):Y ſ v s (S>>=J) A b:=Y.bind<|Y.of c
theorem gR[Decidable g](c:¬g)(m:Y ſ v s a A b):Y ſ v s (if g then h else a) A b:=Y.eq (if_neg c) m
theorem tY[Decidable g](c:g)(m:Y ſ v s h A b):Y ſ v s (if g then h else a) A b:=Y.eq (if_pos c) m
section
open PySem PySem.F
theorem zq:QD.lookup (QE ['y','a','r','r','a','e','t','y','b'].reverse)=W Manifest.sig_bytearray:=by cbv
theorem Kp:Slot "bytearray" "__len__" "bytearray.__len__":=.of (owner:="bytearray") (n:="__len__") (by rw[h_,h'];cbv) (by decide+kernel) (by decide+kernel) (by decide+kernel) (by first|rw[.inl (by decide+kernel)]|rw[.inr (by decide+kernel)]) (by rw[k_,];cbv)
theorem ZG:tm table "bytearray.__len__"=W YG:=nK (by cbv)
theorem ZH(h:aF):ko "bytearray.__len__" ⟨[h],[]⟩:=by unfold ko;rw[tn (id:="bytearray.__len__") (n:=['_','_','n','e','l','_','_']) (o:=['y','a','r','r','a','e','t','y','b']) (by cbv) zq,];cbv
theorem wR:Slot "bytearray" "__getitem__" "bytearray.__getitem__":=.of (owner:="bytearray") (n:="__getitem__") (by rw[h_,h'];cbv) (by decide+kernel) (by decide+kernel) (by decide+kernel) (by first|rw[.inl (by decide+kernel)]|rw[.inr (by decide+kernel)]) (by rw[k_,];cbv)
theorem R6:tm table "bytearray.__getitem__"=W YH:=nK (by cbv)
theorem R7(h a:aF):ko "bytearray.__getitem__" ⟨[h,a],[]⟩:=by unfold ko;rw[tn (id:="bytearray.__getitem__") (n:=['_','_','m','e','t','i','t','e','g','_','_']) (o:=['y','a','r','r','a','e','t','y','b']) (by cbv) zq,];cbv
theorem R8:Slot "bytearray" "__setitem__" "bytearray.__setitem__":=.of (owner:="bytearray") (n:="__setitem__") (by rw[h_,h'];cbv) (by decide+kernel) (by decide+kernel) (by decide+kernel) (by first|rw[.inl (by decide+kernel)]|rw[.inr (by decide+kernel)]) (by rw[k_,];cbv)
theorem ZI:tm table "bytearray.__setitem__"=W YI:=nK (by cbv)
theorem ZJ(h a g:aF):ko "bytearray.__setitem__" ⟨[h,a,g],[]⟩:=by unfold ko;rw[tn (id:="bytearray.__setitem__") (n:=['_','_','m','e','t','i','t','e','s','_','_']) (o:=['y','a','r','r','a','e','t','y','b']) (by cbv) zq,];cbv
theorem R9:Slot "bytearray" "__iter__" "bytearray.__iter__":=.of (owner:="bytearray") (n:="__iter__") (by rw[h_,h'];cbv) (by decide+kernel) (by decide+kernel) (by decide+kernel) (by first|rw[.inl (by decide+kernel)]|rw[.inr (by decide+kernel)]) (by rw[k_,];cbv)
theorem ZK:tm table "bytearray.__iter__"=W YJ:=nK (by cbv)
theorem ZL(h:aF):ko "bytearray.__iter__" ⟨[h],[]⟩:=by unfold ko;rw[tn (id:="bytearray.__iter__") (n:=['_','_','r','e','t','i','_','_']) (o:=['y','a','r','r','a','e','t','y','b']) (by cbv) zq,];cbv
theorem Kq:Slot "bytearray" "extend" "bytearray.extend":=.of (owner:="bytearray") (n:="extend") (by rw[h_,h'];cbv) (by decide+kernel) (by decide+kernel) (by decide+kernel) (by first|rw[.inl (by decide+kernel)]|rw[.inr (by decide+kernel)]) (by rw[k_,];cbv)
theorem R_:tm table "bytearray.extend"=W YK:=nK (by cbv)
theorem ZM:typeOf (.builtin "bytearray.extend")=pure (.type "method_descriptor"):=by show builtinType _=_;rw[builtinType_eq_fast,];cbv
theorem R'(h a:aF):ko "bytearray.extend" ⟨[h,a],[]⟩:=by unfold ko;rw[tn (id:="bytearray.extend") (n:=['d','n','e','t','x','e']) (o:=['y','a','r','r','a','e','t','y','b']) (by cbv) zq,];cbv
end
section
open PySem PySem.F PySem.Calls
variable{ſ:cM}{v:cU}{s:cq}{b:au}{aC:aF->au->Prop}
noncomputable def c9(a:Array UInt8):Obj:={cls:=.type "bytearray",data:=.bytearray a 0}
theorem g5{h:aE}{a:Array UInt8}(c:b.heap.get? h=W (c9 a)):b.TypeIs (.ref h) "bytearray":=⟨_,c,V⟩
theorem Sa(aL:b.heap.get? h=W (c9 a))(i3:(a.size:Int)<2^63)(c:A (.int a.size<|b.toks+1) {b with toks:=b.toks+1+1}):ce (cD ſ v) s (call (.builtin "len") [.ref h]) A aC b:=by rw[call_function_entry kind_len plain_len entry_len (args_len1 _)<|bc<|cr ?_];rw[bc<|nL (g5 aL) Kp (kL Kp (g5 aL) ZG ?_<|ZH _)];rw[jm ?_];intro jI;rw[(?_:ce _ _ (do retInt (<-Qx<|.ref h).size) _ _ b)];rw[bc<|bc<|ou aL<|cr<|cr<|bc<|uW<|cr<|dj _ V<|kQ<|cr<|bc<|wo<|pd (bM (.qR (.c .x)<|.n 0) [] Z)<|pd (bM (.r4 (.n 9223372036854775808)<|.c .x) [.b2 (.c .x)<|.n 9223372036854775808] Z i3)<|bc<|uW<|cr<|dj _ V c]
theorem Sb(aM:0<=m)(rj:m<2^63)(c:A (W m) b):ce (cD ſ v) s (Qy<|.int m D) A aC b:=by rw[bc<|iu (yE b m D) int_index<|ng V<|pd (by rwa[U ((show Qz m=ag from(by unfold Qz;simp only[ir,decide_eq_true_eq];rw[⟨nT (.cN (.g<|.n 9223372036854775808) .x) [.cN (.n 0) .x] Z aM,rj⟩])))];decide) ?_];rw[cr c]
theorem zr(aL:b.heap.get? h=W (c9 a))(c:A a b):ce (cD ſ v) s (Qx<|.ref h) A aC b:=bc<|ou aL<|cr<|cr c
theorem Sc{m:Int}{o:Nat}(aM:0<=m)(ak:m<o):EJ m o=W (om m):=by unfold EJ;simp only[show¬m<0 by rw[nT (.qR .x<|.n 0) [.cN (.n 0) .x] Z aM],if_false,ir,decide_eq_true_eq,aM,ak,and_self,if_true]
theorem Sd{h:aE}{a:Array UInt8}{m:Int}{D:Tok}{f:UInt8}{A:aF->au->Prop}(aL:b.heap.get? h=W (c9 a))(aM:0<=m)(rj:m<2^63)(R:a[m.toNat]?=W f)(c:A (.int f.toNat b.toks) {b with toks:=b.toks+1}):ce (cD ſ v) s (getItem (.ref h)<|.int m D) A aC b:=by
 rw[kK<|bc<|Bj (g5 aL) bf ?_];rw[sv ?_];intro tZ;rw[bc<|nL (g5 aL) wR (kL wR (g5 aL) R6 ?_<|R7 _ _)];rw[(?_:ce _ _ (Qy (.int m D)>>=_) _ _ b)];rw[bc<|Sb aM rj<|bc<|zr aL<|iG (U (Sc aM (by rw[vk (.b2 .x<|.c .x) [.t .y .x,.cN .x<|.c .y] Z ((JH.mp R).1)<|mK _])) V) ?_]
 dsimp only[Option.bind];rwa[iG (U R V)];rw[bc<|uW<|cr<|dj _ V<|cr c]
end
section
open PySem PySem.F PySem.Calls
theorem wS(aL:b.heap.get? h=W (c9 a))(ae:(J a).size<=cy)(c:∀X,Ű X h=W (c9<|J a)->iE h b.heap X->A () {b with heap:=X}):ce (cD ſ v) s (JG (.ref h) J) A aC b:=by rw[ou aL<|bc<|wpAny_update aL<|wpAny_lookBehind (nP (QQ J) aL V) ?_<|c _ (nP (QQ J) aL V)<|tF ..];rw[(?_:(if(J a).size>cy then W "bytearray:memory"else aX)=aX)];rw[Fm (if_neg<|Fd.mpr ae)▸V]
theorem Se(aM:0<=m)(af:m<256)(c:A m.toNat.toUInt8 b):ce (cD ſ v) s (Builtin.Bytes.byteValue<|.int m D) A aC b:=by rw[ng (h:=m) V<|pd (by simp only[EG,decide_eq_true_eq];rw[not_or.mpr ⟨nT (.qR .x<|.n 0) [.cN (.n 0) .x] Z aM,nT (.r4 (.n 256) .x) [.b2 .x<|.n 256] Z af⟩])<|cr c]
theorem ZN{h:aE}{a:Array UInt8}{m z:Int}{D wT:Tok}{A:Unit->au->Prop}(aL:b.heap.get? h=W (c9 a))(aM:0<=m)(rj:m<2^63)(ak:m<a.size)(Kr:0<=z)(ZO:z<256)(ae:a.size<=cy)(c:∀X,Ű X h=W (c9<|a.setIfInBounds (om m) z.toNat.toUInt8)->iE h b.heap X->A () {b with heap:=X}):ce (cD ſ v) s (wp (.ref h) (.int m D)<|.int z wT) A aC b:=by rw[kK<|bc<|Bj (g5 aL) bf ?_];rw[sv ?_];intro tZ;rw[bc<|nL (name:=mG "__setitem__") (g5 aL) R8 (kL R8 (g5 aL) ZI ?_<|ZJ _ _ _)];rw[bc<|Sb aM rj<|bc<|Se Kr ZO<|bc<|zr aL<|iG (U (Sc aM ak) V) ?_];rw[bc<|wS aL (by simpa using ae) λX aI G=>cr<|dj _ V<|cr<|c X aI G]
end
section
open PySem PySem.F PySem.Calls
theorem FU{id:String}{gF:Args}(c:ri.contains id=be):tV (.builtin id gF)=be:=c
theorem em.slot{a1:String}{name:Str}{id:String}{a:tl}{p4:aF}{b0:List aF}{ca:gO->au->Prop}(c:Slot a1 name id)(cV:b.TypeIs p4 a1)(l:tm table id=W a)(cO:ri.contains id=be)(aA:Y ſ v s.in1 (a ⟨p4::b0,[]⟩) (zp ſ v s ca) b)(aS:ko id ⟨p4::b0,[]⟩):em ſ v s (.call (.builtin id) ⟨p4::b0,[]⟩) ca b:=by rwa[em.my V];show Y ſ v s.in1 (do Bk id ⟨p4::b0,[]⟩;again<|.builtin id ⟨p4::b0,[]⟩) _ b;rw[dC<|c.check _ _ _ _ _ _ _ _ cV aS<|Y.pure ⟨o8 c.plain _,em.builtin (FU cO) l<|U (Around.under_plainId c.plain ..) aA⟩]
theorem Y.Ds{a1:String}{name:Str}{id:String}{a:tl}{p4:aF}{b0:List aF}{A:aF->au->Prop}(c:Slot a1 name id)(cV:b.TypeIs p4 a1)(l:tm table id=W a)(cO:ri.contains id=be)(aS:ko id ⟨p4::b0,[]⟩)(aA:Y ſ v s.in1 (a ⟨p4::b0,[]⟩) (zp ſ v s λJ w=>∃z,J=.ret z/\A z w) b):Y ſ v s (eS (.builtin id)<|p4::b0) A b:=Y.call<|em.slot c cV l cO aA aS
end
section
open PySem PySem.F PySem.Calls
theorem Ks(wU:TypeCalled a1 newId ZP)(Kt:checkTypeCall a1 ⟨gF,[]⟩=pure ())(c:Y ſ v s.in1 (eS (.builtin newId)<|.type a1::gF) (λnX as=>as.TypeIs nX a1/\Y ſ v s.in1 (eS (.builtin ZP)<|nX::gF) (λq ar=>q=.none/\A nX ar) as) b):Y ſ v s (eS (.type a1) gF) A b:=by
 rw[kP wU.mro λg akh ZQ=>Y.call<|em.my V<|Y.pure ⟨JN _ ji,em.builtin (by show ri.contains "type.__call__"=be;decide+kernel) JO ?_⟩];rw[d8 ?_];intro eg;rw[FT ?_];intro Ku;unfold YL
 dsimp only;rwa[Y.eq (by rw[U (if_neg (by rwa[U wU.notType];decide))<|U (if_neg (by rwa[U wU.canCreate];decide))<|U Kt<|U ZQ V])];rw[ev<|ev<|gR (by simp)<|dC<|r' wU.made<|ev<|dR<|Y.mono c ?_];rintro nX as bN;rw[c0 bN λcV bw=>dC<|sa cV wU.sub<|gR bf<|dR<|dC<|iu cV wU.init.lookup<|Y.holding<|U (wU.init.bind ..)<|ev<|hy bw ?_];rintro q ar cB;rw[c0 cB λdt aY=>?_];obtain rfl:=dt;rw[Y.pure<|Y.pure ⟨_,V,aY⟩]
end
section
open PySem PySem.F PySem.Calls
theorem Sf:mroOf (.type "bytearray")=pure [.type "bytearray",.type "object"]:=by rwa[U (mroOf_type ..)];cbv
theorem Kv:Slot "bytearray" "__init__" "bytearray.__init__":=.of (owner:="bytearray") (n:="__init__") (by rwa[U (h_ ..)<|U h'];cbv) (by decide+kernel) (by decide+kernel) (by decide+kernel) (by first|rw[.inl (by decide+kernel)]|rw[.inr (by decide+kernel)]) (by rwa[U (k_ ..)];cbv)
theorem Sg(h a:aF):ko "bytearray.__init__" ⟨[h,a],[]⟩:=by unfold ko;rwa[U (tn (id:="bytearray.__init__") (n:=['_','_','t','i','n','i','_','_']) (o:=['y','a','r','r','a','e','t','y','b']) V zq)];cbv
theorem Kw:TypeCalled "bytearray" "bytearray.__new__" "bytearray.__init__":=⟨by decide+kernel,by decide+kernel,(kR _ _ Sf),madeBy_type Sf (by rwa[U (h_ ..)<|U h'];cbv) (by decide+kernel),by decide+kernel,by rwa[U (k_ ..)];cbv,Kv⟩
theorem Kx(h:aF):checkTypeCall "bytearray" ⟨[h],[]⟩=pure ():=rfl
theorem ZR:("bytearray.__new__".splitOn ".__new__").headD ""="bytearray":=by simp+decide[QF,QG]
theorem Ky:EK (.type "bytearray") (.type "bytearray")=pure ag:=by rwa[U (k_ ..)];cbv
theorem Kz(h:aF)(c:A (.ref<|aB b) {b with heap:=b.heap.push<|c9 #[]}):Y ſ v s (eS (.builtin "bytearray.__new__") [.type "bytearray",h]) A b:=by
 rw[Y.call<|em.of<|Bl ?_];show ce _ s.in1 (do Bk "bytearray.__new__" ⟨[.type "bytearray",h],[]⟩;again<|.builtin "bytearray.__new__" ⟨[.type "bytearray",h],[]⟩) _ _ b;rw[ng ((show Bk "bytearray.__new__" ⟨[.type "bytearray",h],[]⟩=pure ()from(by cbv)))<|cr ⟨o8 (by decide+kernel) _,codeAny_builtin_stack (IE (id':="list.__new__") V (by first|rfl|decide+kernel) (by decide+kernel) V) V λn st=>?_⟩];rw[jm ?_];intro jI;have oz:=Ky;obtain⟨aO,t,x,ab,os⟩:=b;simp only[ZR]
 wp_walk;rw[⟨_,V,c⟩]
end
section
open PySem PySem.F PySem.Calls
theorem Sh(aL:b.heap.get? h=W (c9 a))(c:A be b):Y ſ v s (BW (fv h)<||>do
            let Cg<-Builtin.Bytes.exportsOf<|fv h
            pure<|decide<|Cg>0) A b:=by rw[Y.bind (S:=BW<|.ref h)<|Y.exported<|Y.of<|bc<|ou aL<|cr<|cr c]
end
section
open PySem PySem.F PySem.Calls
theorem Si:m' (.type "list") "__buffer__"=pure aX:=by rwa[U (h_ ..)<|U h'];cbv
theorem KA(aL:b.heap.get? h=W (c9 a))(c:A be b):ce (cD ſ v) s (Builtin.Bytes.ownRelease<|.ref h) A aC b:=by rw[bc<|bc<|iu (g5 aL) (show m' (.type "bytearray") "__release_buffer__"=pure (W<|.builtin "bytearray.__release_buffer__")from(by rwa[U (h_ ..)<|U h'];cbv))<|pd ji<|iG (U (by decide+kernel:("bytearray.__release_buffer__".dropRight<|"__release_buffer__".length+1)="bytearray") V) ?_];rw[sa (g5 aL) Ky<|cr c]
set_option backward.match.sparseCases true in noncomputable def p5:aF->Option UInt8|.int j _=>W j.toNat.toUInt8|_=>aX
def wV(N:List aF):Prop:=∀z∈N,∃j D,z=.int j D/\0<=j/\j<256
set_option backward.match.sparseCases true in theorem ZS(c:wV N):(N.takeWhile λ|.int j _=>decide (0<=j)&&decide (j<256)|_=>be)=N:=by induction N with|nil=>rfl|cons z N aW=>rw[d7 (c z<|.head _) λj D bN aM af=>?_];obtain rfl:=bN;rw[U (List.takeWhile_cons_of_pos (by simp[aM,af]))<|U (aW λf R=>c f<|.tail _ R) V]
set_option backward.match.sparseCases true in theorem Sj(ZT:m' (.type a1) "__index__"=pure aX)(Sk:m' (.type a1) "__buffer__"=pure aX)(ZU:a1="list"\/a1="tuple")(aL:b.heap.get? h=W (c9 a))(aw:∃k,b.heap.get? E=W k/\k.cls=.type a1/\∃o,k.data=.seq N.toArray o)(c_:E≠h)(l:wV N)(ae:gu N<=cy)(c:∀X,Ű X h=W (c9 (N.filterMap p5).toArray)->iE h b.heap X->A .none {b with heap:=X}):Y ſ v s (eS (.builtin "bytearray.__init__") [.ref h,.ref E]) A b:=by
 rw[Y.Ds Kv (g5 aL) (nK V) ji (Sg _ _)<|dC<|KA aL<|gR bf<|dC<|r' (a:=[W<|fv E,aX,aX]) V<|ev<|ev<|Y.bind<|Sh aL<|gR bf<|dC<|wS aL (eQ _) λbw Ch fX=>g4 λu bW=>fK aw λk jJ aA cB=>c1 cB λo bl=>bW<|ph ?_];intro p6;have jJ:=fX.extBut E _ c_ jJ;have cV:Shared.TypeIs {b with heap:=bw} (.ref E) a1:=⟨k,jJ,aA⟩;rw[dC<|ou jJ<|iG (U bl V)<|cr<|gR bf<|ev<|dC<|iu cV ZT<|gR bf<|dC<|bc<|iu cV Sk<|bc<|iu cV Sk<|cr<|dC<|yF cV ?_];rw[tY (by rcases ZU with i|i<;>subst i<;>decide)<|dC ?_];rw[ou jJ<|iG (U bl V)<|cr ?_]
 dsimp only;generalize aT:List.takeWhile _ N=FV;obtain rfl:FV=N:=aT.symm.trans<|ZS l;rwa[Y.eq (U (by simp:FV.toArray[gu FV]?=aX) V)];have d4:(FV.filterMap p5).toArray.size<=sizeLine:=a5 (P' _ _) ae;rw[dC<|mv<|dC<|wS Ch d4 λbO wW hY=>Y.pure ⟨_,V,c bO wW ⟨hY.1.trans fX.1,λa l=>(hY.2 a l).trans<|fX.2 a l⟩⟩]
theorem ZV(aL:b.heap.get? h=W (c9 a))(aw:b.heap.IsList E N.toArray)(c_:E≠h)(l:wV N)(ae:gu N<=cy)(c:∀X,Ű X h=W (c9 (N.filterMap p5).toArray)->iE h b.heap X->A .none {b with heap:=X}):Y ſ v s (eS (.builtin "bytearray.__init__") [.ref h,.ref E]) A b:=Sj (by rwa[U (h_ ..)<|U h'];cbv) Si (.inl V) aL aw c_ l ae c
end
section
open PySem PySem.F PySem.Calls
inductive mM(c X:e1)(k:Obj):Prop|mk(f2:Ű X c.objs.size=W k)(f3:∀a f,Ű c a=W f->Ű X a=W f)(gw:Ų (ű X)=Ų (ű c)+1):mM c X k
theorem mM.push(bi:k.isFreed=be):mM c (c.push k) k:=⟨fu _ bi,λu u i=>eY _ i,f' ..⟩
theorem mM.same(S:mM c bw k)(t:Ű bO c.objs.size=W dh)(G:iE c.objs.size bw bO):mM c bO dh:=⟨t,λa f i=>(G.2 a<|gQ<|dK i).trans<|S.2 a f i,G.1.trans S.3⟩
theorem Sl(aw:b.heap.IsList E N.toArray)(l:wV N)(ae:gu N<=cy)(c:∀X,mM b.heap X (c9 (N.filterMap p5).toArray)->A (.ref b.heap.objs.size) {b with heap:=X}):Y ſ v s (eS (.type "bytearray") [.ref E]) A b:=by rwa[Ks Kw (Kx _)<|Kz _];have S:mM b.heap (b.heap.push<|c9 #[]) (c9 #[]):=mM.push V;rw[⟨g5 (b:={b with heap:=b.heap.push<|c9 #[]}) S.1,(bt (id aw) λk jJ u=>ZV (b:={b with heap:=b.heap.push<|c9 #[]}) S.1 (aw.push _) (gQ<|dK jJ) l ae λX aI G=>⟨V,c X<|S.same aI G⟩)⟩]
end
section
open PySem PySem.F PySem.Calls
theorem Sm:plainId "bytearray.extend.loop"=ag:=by decide+kernel
theorem Sn(aL:b.heap.get? h=W (c9 a))(ae:a.size+eB.size<=cy)(c:∀X,Ű X h=W (c9<|a++eB)->iE h b.heap X->ca (.ret .none) {b with heap:=X}):Y ſ v ew (do
   if !eB.isEmpty then Builtin.Bytes.checkResize<|.ref h
   JG (.ref h) (·++eB)
   ret .none) (zp ſ v s ca) b:=by
 have bV:Y ſ v ew (do
   JG (.ref h) (·++eB)
   ret .none) (zp ſ v s ca) b:=by rw[dC<|wS aL (by rwa[U Fv];rw[ae]) λX aI G=>?_];rw[Y.pure<|c X aI G]
 cases bk:eB.isEmpty with
 |true=>trivial|false=>rw[Y.bind (by rw[Y.bind<|Y.bind (S:=BW<|.ref h)<|Y.exported<|Y.of<|bc<|ou aL<|cr<|cr<|λy n u ak am=>bV])]
theorem ZW(ai:Nat->Array UInt8->au->Prop)(nV:∀o a6 b,ai o a6 b->Y ſ v s.in1 (oj iK) (λq w=>match q with|none=>Ű (Q7 w) h=W (c9 a)/\Ű (Q7 w) fL=W (c9 a6)/\a.size+a6.size<=cy/\∀X,Ű X h=W (c9<|a++a6)->iE h w.heap X->ca (.ret .none) {w with heap:=X}|some z=>∃j D,z=.int j D/\0<=j/\j<256/\a6.size<cy/\Ű (Q7 w) fL=W (c9 a6)/\∀X,Ű X fL=W (c9<|a6.push j.toNat.toUInt8)->iE fL w.heap X->∃S,S<o/\ai S (a6.push j.toNat.toUInt8) {w with heap:=X}) b)(o:Nat)(a6:Array UInt8)(c:ai o a6 b):em ſ v s (.builtin "bytearray.extend.loop" ⟨[.ref h,bE,iK,.ref fL],[]⟩) ca b:=by rwa[ds (@zc _ _)];intro dx;rw[em.loop (FU (by decide+kernel)) (o8 Sm _) (λo b=>∃a6,ai o a6 b) ?_ o<|ov a6 c];rintro o b bN;rw[c1 bN λa6 d9=>hy (nV o a6 b d9) λq w ap=>?_];rw[d8 ?_];intro eg;cases q with|none=>rw[lG ap λaf am a' cJ=>Y.pure<|.inr ⟨o8 (by decide+kernel) _,(by rw[em.builtin (FU (by decide+kernel)) (nK V)<|dC<|pS<|dC<|zr am<|Sn af a' cJ])⟩]|some z=>rw[ph ?_];intro p6;rw[J' ap λj D cB aM af ae i4 ZZ=>?_];obtain rfl:=cB;rw[Y.bind<|Y.tryCatch<|Y.holding<|Y.of<|Se aM af<|dC<|wo<|dC<|wS i4 (by rwa[U (Fw ..)];rw[ae]) λX aI G=>?_];rw[bt (ZZ X aI G) λS bk Z0=>Y.pure<|.inl ⟨V,(dj S bk<|ov _ Z0)⟩]
end
section
open PySem PySem.F PySem.Calls
theorem Z1(aw:b.heap.IsList E bv)(c:A () b):ce (cD ſ v) s (Builtin.Bytes.lengthHint "bytearray.extend"<|.ref E) A aC b:=by
 rwa[bc<|iu aw.typeIs F.slot_list_len.lookup]
 dsimp only;rw[sv ?_];intro tZ;rwa[iG (U (by decide+kernel:splitId "list.__len__"=W ("list","__len__")) V)];rw[bc<|sa aw.typeIs sub_list_self<|pd bf<|RE ji<|cr c]
theorem Z2(di:Walks ſ v s.in1 an bQ aZ N.length (λj z=>N[j]?=W z) So)(aS:b.heap.get? h=W (c9 a))(i4:b.heap.get? fL=W (c9 #[]))(fA:So 0 b.heap)(FW:h∉aZ)(vn:fL∉bQ)(Z3:h≠fL)(l:wV N)(ae:a.size+N.length<cy)(c:∀X ab,X.get? h=W (c9<|a++(N.filterMap p5).toArray)->(∀f k,f≠h->f≠fL->f∉aZ->b.heap.get? f=W k->X.get? f=W k)->ca (.ret .none) {b with heap:=X,toks:=ab}):em ſ v s (.builtin "bytearray.extend.loop" ⟨[.ref h,bE,.ref an,.ref fL],[]⟩) ca b:=by
 have Sp:fL∉aZ:=λe=>vn<|di.sub _ e;rw[ZW (a:=a) (λo a6 w=>∃X ab m,w={b with heap:=X,toks:=ab}/\m<=N.length/\o=N.length-m/\a6=((N.take m).filterMap p5).toArray/\So m X/\X.get? fL=W (c9 a6)/\∀f k,f≠fL->f∉aZ->b.heap.get? f=W k->X.get? f=W k) ?_ N.length #[]<|RJ b.heap b.toks 0 V (eQ _) V V fA i4 λu u u u i=>i];rintro o a6 w fw;rw[YW fw λX ab m hJ aT j8 j9 FX wX KB=>U hJ ?_];obtain rfl:=j8;obtain rfl:=j9;rwa[ds (@nd _ _ _ _ _)];intro dx;have rk:((N.take m).filterMap p5).toArray.size<=min m N.length:=(a5 (P' _ _)<|sk▸dr _);rcases pV m N.length with rl|lh
 .rw[Y.of<|di.item m _ _ _ rl FX λz bw zs aQ wY sw=>d7 (l z<|j3 aQ) λj D mN aM af=>?_];obtain rfl:=mN;rw[(RG j D V aM af (zo (.t .x .y) [.t (.a .z .w) .y,.l .x .u,.l .u .w] Z ae rk<|vm _ _) (sw _ _ Sp wX) λbO wW hY=>(dj (N.length-(m+1)) (oy (.t .x .y) [.l .z<|.a .y .w,.e (.a .x<|.o .w) .z] Z (ef _ _)<|dM<|ct (.l (.o .x) .y) [.t .x .y] Z rl)<|RJ bO zs (m+1) V rl V (by rw[U u4<|U aQ<|U List.filterMap_append ?_];simp[p5]) ?_ wW ?_))]
  .rw[di.frame _ _ _ wY λf R k i=>hY.extBut f k (λe=>vn<|e▸R) i]
  .rw[λf k FY Ci i=>hY.extBut f k FY<|sw f k Ci<|KB f k FY Ci i]
 .obtain rfl:m=N.length:=u1 aT lh;rw[wA]at wX rk⊢;rw[Y.of<|di.done _ _ _ FX λbw zs sw=>⟨sw _ _ FW<|KB _ _ Z3 FW aS,sw _ _ Sp wX,by rw[zo (.l (.a .x .y) .z) [.t (.a .x .w) .z,.l .y .u,.l .u .w] Z ae rk<|pf _ _],λbO wW hY=>c bO zs wW λf k Z4 FY Ci i=>hY.extBut f k Z4<|sw f k Ci<|KB f k FY Ci i⟩]
theorem Sq(cO:s.handled=aX)(aL:b.heap.get? h=W (c9 a))(aw:b.heap.IsList E N.toArray)(l:wV N)(ae:a.size+N.length<cy)(c:∀X ab,X.get? h=W (c9<|a++(N.filterMap p5).toArray)->(∀f k,f≠h->b.heap.get? f=W k->X.get? f=W k)->A .none {b with heap:=X,toks:=ab}):Y ſ v s (eS (.builtin "bytearray.extend") [.ref h,.ref E]) A b:=by
 rw[Y.Ds Kq (g5 aL) R_ ji (R' _ _)<|dC<|r' (a:=(fv h,fv E)) V<|dC<|iu aw.typeIs Si<|gR bf<|Y.bind<|Y.tryCatch<|Y.of<|EL aw<|dR<|Y.of<|Z1 (aw.push _)<|dC<|jE (Y.pure ⟨o8 Sm _,?_⟩) (by show(#[]:Array UInt8).size<=cy;decide)];generalize jK:b.heap.push {cls:=.type "list_iterator",data:=.fields #[.ref E,.int 0 0]}=cf;have i4:cf.objs.size=(aB b)+1:=jK▸f' ..;rw[bt (id aw) λakk jJ u=>?_];have cG:=dK jJ;have p7:=dK aL;have KC:cf.IsListIter (aB b) E 0:=jK▸⟨_,fu _ V,V,V⟩;have Z5:cf.IsList E N.toArray:=jK▸aw.push _;have di:=JU (prog:=ſ) (w:=v) (A:=s.in1) cO (aB b) E (gQ cG) N.toArray;simp only[y3,Qa]at di;have Sr:∀f k,b.heap.get? f=W k->(cf.push<|c9 #[]).get? f=W k:=λf k i=>eY _<|jK▸eY _ i;rw[Z2 (a:=a) (N:=N) di (Sr _ _ aL) (fu _ V) ⟨KC.at λk i=>eY _ i,Z5.push _⟩ ?_ ?_ ?_ l ae λX ab aI aT=>(dj _ V<|c X ab aI λf k R i=>aT f k R ?_ ?_<|Sr f k i)]
 .simpa using gQ p7
 .rw[U i4 ?_];simp only[fT,na,or_false,not_or];rw[⟨PW _,tw<|k' cG⟩]
 .rw[U i4<|gQ<|k' p7]
 .rw[U i4<|gQ<|k'<|dK i]
 .simpa using gQ<|dK i
end
section
open PySem PySem.F PySem.Calls
theorem zt:m' (.type "bytes") "__buffer__"=pure (W<|.builtin "bytes.__buffer__"):=by rwa[U (h_ ..)<|U h'];cbv
theorem sx(b:au)(a:Array UInt8)(D:Tok):b.TypeIs (.bytes a D) "bytes":=rfl
theorem Ss(c:A ag b):ce (cD ſ v) s (QA (.bytes a D) "__buffer__") A aC b:=by rw[bc<|iu (sx b a D) zt<|pd ji<|iG (U (by decide+kernel:("bytes.__buffer__".dropRight<|"__buffer__".length+1)="bytes") V) ?_];rw[sa (sx b a D) (by rwa[U (k_ ..)];cbv) c]
theorem Z6{id:String}{KD:Bool}{a:Array UInt8}{D:Tok}{A:Option (Array UInt8)->au->Prop}(c:A (W a) b):ce (cD ſ v) s (QB id (.bytes a D) KD) A aC b:=by rw[bc<|iu (sx b a D) zt<|bc<|Ss<|bc<|iu (sx b a D) zt<|bc<|bc<|bc<|iu (sx b a D) (show m' (.type "bytes") "__release_buffer__"=pure aX from(by rwa[U (h_ ..)<|U h'];cbv))<|cr<|cr<|cr c]
theorem Z7{h:aE}{a eB:Array UInt8}{D:Tok}{A:aF->au->Prop}(aL:b.heap.get? h=W (c9 a))(ae:a.size+eB.size<=cy)(c:∀X,Ű X h=W (c9<|a++eB)->iE h b.heap X->A .none {b with heap:=X}):Y ſ v s (eS (.builtin "bytearray.extend") [.ref h,.bytes eB D]) A b:=by rw[Y.Ds Kq (g5 aL) R_ ji (R' _ _)<|dC<|r' (a:=(fv h,Value.bytes eB D)) V<|dC<|iu (sx b eB D) zt<|tY bf<|dC<|mv<|dC<|zr aL<|dC<|bc<|uX<|bc<|iu (sx b eB D) zt<|bc<|Ss<|pd bf<|bc<|iu (sx b eB D) zt ?_];rw[bc<|Z6<|cr<|cr<|tY (by rfl)<|Sn aL ae λX aI G=>(dj _ V<|c X aI G)]
end
section
open PySem PySem.F PySem.Calls
theorem KE:m' (.type "bytearray") "__buffer__"=pure (W<|.builtin "bytearray.__buffer__"):=by rwa[U (h_ ..)<|U h'];cbv
theorem Z8:m' (.type "tuple") "__index__"=pure aX:=by rwa[U (h_ ..)<|U h'];cbv
theorem Z9:m' (.type "tuple") "__buffer__"=pure aX:=by rwa[U (h_ ..)<|U h'];cbv
theorem Z_(aL:b.heap.get? h=W (c9 a))(c:A ag b):ce (cD ſ v) s (QA (.ref h) "__buffer__") A aC b:=by rw[bc<|iu (g5 aL) KE<|pd ji<|iG (U (by decide+kernel:("bytearray.__buffer__".dropRight<|"__buffer__".length+1)="bytearray") V) ?_];rw[sa (g5 aL) Ky c]
theorem Z'{id:String}{KD:Bool}{h:aE}{a:Array UInt8}{A:Option (Array UInt8)->au->Prop}(aL:b.heap.get? h=W (c9 a))(c:A (W a) b):ce (cD ſ v) s (QB id (.ref h) KD) A aC b:=by rw[bc<|iu (g5 aL) KE<|bc<|Z_ aL<|bc<|iu (g5 aL) KE<|bc<|KA aL<|bc<|zr aL<|cr c]
theorem aaa{h E:aE}{a g:Array UInt8}{A:aF->au->Prop}(aL:b.heap.get? h=W (c9 a))(aw:b.heap.get? E=W (c9 g))(c_:E≠h)(ae:g.size<=cy)(c:∀X,Ű X h=W (c9 g)->iE h b.heap X->A .none {b with heap:=X}):Y ſ v s (eS (.builtin "bytearray.__init__") [.ref h,.ref E]) A b:=by rw[Y.Ds Kv (g5 aL) (nK V) ji (Sg _ _)<|dC<|KA aL<|gR bf<|dC<|r' (a:=[W<|fv E,aX,aX]) V<|ev<|ev<|Y.bind<|Sh aL<|gR bf<|dC<|wS aL (eQ _) λbw Ch fX=>?_];rw[d8 ?_];intro eg;rw[ph ?_];intro p6;have KF:Ű bw E=W (c9 g):=fX.extBut E _ c_ aw;rw[dC<|ou KF<|cr<|gR bf<|ev<|dC<|iu (g5 (b:={b with heap:=bw}) KF) (show m' (.type "bytearray") "__index__"=pure aX from(by rwa[U (h_ ..)<|U h'];cbv))<|gR bf<|dC<|Z' (b:={b with heap:=bw}) KF<|dC<|mv<|dC<|wS (b:={b with heap:=bw}) Ch ae λbO wW hY=>Y.pure ⟨_,V,c bO wW<|fX.trans hY⟩]
end
inductive jn(b w:au):Prop|mk(f2:(aB b)<=(aB w))(f3:b.gens.size<=w.gens.size):jn b w
theorem jn.refl(b:au):jn b b:=⟨dr _,dr _⟩
theorem jn.trans(f:jn h a)(B:jn a g):jn h g:=⟨a5 f.1 B.1,a5 f.2 B.2⟩
theorem Su(b:au)(h:aE)(J:Obj->Obj):jn b {b with heap:=b.heap.update h J}:=⟨by show _<=(b.heap.update h J).objs.size;rwa[U (vb ..)];rw[dr _],dr _⟩
theorem Sv(b:au)(k:Obj):jn b {b with heap:=b.heap.push k}:=⟨by show _<=(b.heap.push k).objs.size;rwa[U (f' ..)];rw[j2 _],dr _⟩
theorem Sw(b:au)(g:wq):jn b {b with gens:=b.gens.push g}:=⟨dr _,by show _<=(b.gens.push g).size;rwa[U (Fw ..)];rw[j2 _]⟩
theorem p8(b:au)(t:Nat)(f:wq):jn b (b.setGen t f):=⟨dr _,by show _<=(b.setGen t f).gens.size;simp[Q6]⟩
theorem KG(c:Runs aN y n D bn b i w):jn b w:=by induction c with|done=>rw[jn.refl _]|raise=>rw[jn.refl _]|again _ _ aW=>rw[aW]|rule _ aW=>rw[aW]|«at»_ aW=>rw[aW]|load _ _ aW=>rw[aW]|update _ _ aW=>rw[(Su ..).trans aW]|loadIfAlive _ aW=>rw[aW]|point _ aW=>rw[aW]|alloc _ aW=>rw[(Sv ..).trans aW]|fresh _ aW=>rw[⟨aW.1,aW.2⟩]|ask _ aW=>rw[aW]|choose _ _ aW=>rw[⟨aW.1,aW.2⟩]|os _ aW=>rw[⟨aW.1,aW.2⟩]|handled _ aW=>rw[aW]|genState _ _ aW=>rw[aW]|stack _ aW=>rw[aW]|thread _ aW=>rw[aW]|newGen _ aW=>rw[(Sw ..).trans aW]|call _ _ ep pi=>rw[ep.trans pi]|callSusp _ ep=>rw[ep]|yield=>rw[jn.refl _]|resumeFresh _ _ _ _ ep pi=>rw[((p8 ..).trans ep).trans<|(p8 ..).trans pi]|resumeSuspended _ _ _ _ ep pi=>rw[((p8 ..).trans ep).trans<|(p8 ..).trans pi]|resumeJustStarted _ _ _ aW=>rw[aW]|resumeThrowFresh _ _ aW=>rw[(p8 ..).trans aW]|resumeRunning _ _ aW=>rw[aW]|resumeFinished _ _ aW=>rw[aW]|segRet _ _ ep pi=>rw[ep.trans pi]|segGen _ _ ep pi=>rw[ep.trans<|(p8 ..).trans pi]|segSuspOut _ _ ep=>rw[ep]|segSuspGen _ _ _ _ ep pi=>rw[ep.trans<|(p8 ..).trans pi]
theorem aab(c:Wakes aN y n t q b p9 w):jn b w:=by
 unfold Wakes at c;split at c
 .rw[c.elim]
 .split at c
  .rw[FH c λnY as ap u u bN=>U bN<|((p8 ..).trans<|KG ap).trans<|p8 ..]
  .rw[U c.2<|jn.refl _]
  .rw[U c.2<|p8 ..]
 .rw[FH c λnY as ap u u cB=>U cB<|((p8 ..).trans<|KG ap).trans<|p8 ..]
 .rw[U c.2<|jn.refl _]
 .rw[U c.2<|jn.refl _]
theorem aac(aN:Model)(y:Ctx)(cE:au)(D:Sem a9):∀(A:a9->Pos->au->Prop)(aC:aF->Pos->au->Prop)(n:Pos)(b:au),jn cE b->j5 aN y D A aC n b->j5 aN y D (λh bs w=>jn cE w/\A h bs w) (λi bs w=>jn cE w/\aC i bs w) n b:=by induction D with|pure h=>intro A aC n b ak c;rw[⟨ak,c⟩]|raise i=>intro A aC n b ak c;rw[⟨ak,c⟩]|unsupported _=>intro A aC n b _ c;rw[c]|finish _=>intro A aC n b _ c;rw[c]|rule _ m aW=>intro A aC n b ak c;rw[aW () A aC n b ak c]|«at»bs m aW=>intro A aC n b ak c;rw[aW () A aC bs b ak c]|load h _ m aW=>intro A aC n b ak c;rw[bt c λk aL c=>⟨k,aL,aW k A aC n b ak c⟩]|update h _ J m aW=>intro A aC n b ak c;rw[⟨c.1,aW () A aC n _ (ak.trans<|Su ..) c.2⟩]|loadIfAlive h m aW=>intro A aC n b ak c;rw[aW _ A aC n b ak c]|point _ m aW=>intro A aC n b ak c;rw[aW () A aC n b ak c]|register _ _=>intro A aC n b _ c;rw[c]|alloc k m aW=>intro A aC n b ak c;rw[aW _ A aC n _ (ak.trans<|Sv ..) c]|fresh m aW=>intro A aC n b ak c;rw[aW _ A aC n {b with toks:=b.toks+1} ⟨ak.1,ak.2⟩ c]|ask m aW=>intro A aC n b ak c;rw[aW _ A aC n b ak c]|choose li S m aW=>intro A aC n b ak c;rw[⟨c.1,aW _ A aC n {b with drawn:=b.drawn.bump li} ⟨ak.1,ak.2⟩ c.2⟩]|os e _ m aW=>intro A aC n b ak c;rw[aW _ A aC n {b with os:=(Os.step b.os e).1} ⟨ak.1,ak.2⟩ c]|call g bl _ _ m aW=>intro A aC n b ak c;rw[fW c λq w ap c=>⟨q,w,ap,aW q A aC n w (ak.trans<|KG ap) c⟩]|handled KH m aW=>intro A aC n b ak c;rw[aW _ A aC n b ak c]|genState t m aW=>intro A aC n b ak c;rw[bt c λst G c=>⟨st,G,aW _ A aC n b ak c⟩]|newGen g m aW=>intro A aC n b ak c;rw[aW _ A aC n _ (ak.trans<|Sw ..) c]|resume t q _ m aW=>intro A aC n b ak c;rw[fW c λp9 w bV c=>⟨p9,w,bV,aW p9 A aC n w (ak.trans<|aab bV) c⟩]|yield _ _ _ _=>intro A aC n b _ c;rw[c]|stack m aW=>intro A aC n b ak c;rw[aW _ A aC n b ak c]|fork _ _=>intro A aC n b _ c;rw[c]|thread m aW=>intro A aC n b ak c;rw[aW _ A aC n b ak c]|await _ _ _ _ _=>intro A aC n b _ c;rw[c]
theorem kv(c:Y ſ v s D (λh w=>jn b w->A h w) b):Y ſ v s D A b:=λy n cz af am=>mF _ y D (λh u w f=>f.2 f.1) (λu u u f=>f.2) n b<|aac _ y b D _ _ n b (jn.refl b)<|c y n cz af am
inductive bb(r:List aE)(aD:List Nat)(b w:au):Prop|mk(f2:∀(a:aE)(k:Obj),a∉r->b.heap.get? a=W k->Ű (Q7 w) a=W k)(f3:(aB b)<=(aB w))(gw:∀(j:Nat)(f:wq),j∉aD->b.gens[j]?=W f->w.gens[j]?=W f)(j_:b.gens.size<=w.gens.size)(lL:B2 b.gens->B2 w.gens)(oA:w.os=b.os):bb r aD b w
abbrev bK(r:List aE)(b w:au):Prop:=bb r [] b w
theorem bK.refl(r:List aE)(aD:List Nat)(b:au):bb r aD b b:=⟨λu u u i=>i,dr _,λu u u i=>i,dr _,id,V⟩
theorem bb.trans(h:bb r aD b as)(a:bb r aD as ar):bb r aD b ar:=⟨λf k R i=>a.1 f k R<|h.1 f k R i,a5 h.2 a.2,λj f T i=>a.3 j f T<|h.3 j f T i,a5 h.4 a.4,λc=>a.5<|h.5 c,a.6.trans h.6⟩
theorem fY{c:e1}{h:aE}(aS:Ų (ű c)<=h):Ű c h=aX:=by cases i:Ű c h with|none=>rfl|some k=>rw[b2 (dK i) aS]
theorem sy{t:Array wq}{j:Nat}(T:t.size<=j):t[j]?=aX:=JI T
theorem bb.drop(h:bb r aD b w)(c:∀a∈r,a∈a_\/b.heap.get? a=aX)(aI:∀j∈aD,j∈cf\/b.gens[j]?=aX):bb a_ cf b w:=⟨λf k R i=>h.1 f k (λe=>(c f e).elim R λC=>by replace i:=C▸i;rw[dN i]) i,h.2,λj f T i=>h.3 j f (λe=>(aI j e).elim T λC=>by replace i:=C▸i;rw[dN i]) i,h.4,h.5,h.6⟩
theorem bb.mono(h:bb r aD b w)(c:∀a∈r,a∈a_)(aI:∀j∈aD,j∈cf):bb a_ cf b w:=h.drop (λa l=>.inl<|c a l) λj T=>.inl<|aI j T
theorem bb.hj(h:bb r aD b as)(a:bb a_ cf as ar)(c:∀B∈a_,B∈r\/b.heap.get? B=aX)(aI:∀j∈cf,j∈aD\/b.gens[j]?=aX):bb r aD b ar:=⟨λf k R i=>a.1 f k (λe=>(c f e).elim R λC=>by replace i:=C▸i;rw[dN i])<|h.1 f k R i,a5 h.2 a.2,λj f T i=>a.3 j f (λe=>(aI j e).elim T λC=>by replace i:=C▸i;rw[dN i])<|h.3 j f T i,a5 h.4 a.4,λe=>a.5<|h.5 e,a.6.trans h.6⟩
theorem bK.heap(m:∀(a:aE)(k:Obj),a∉r->b.heap.get? a=W k->Ű X a=W k)(C:(aB b)<=Ų (ű X)):bK r b {b with heap:=X,toks:=ab}:=⟨m,C,λu u u i=>i,dr _,id,V⟩
theorem bK.push(b:au)(k:Obj)(ab:Nat):bK [] b {b with heap:=b.heap.push k,toks:=ab}:=bK.heap (λu u u i=>eY _ i) (by rwa[U (f' ..)];rw[j2 _])
theorem bK.tok(r:List aE)(aD:List Nat)(b:au)(ab:Nat):bb r aD b {b with toks:=ab}:=⟨λu u u i=>i,dr _,λu u u i=>i,dr _,id,V⟩
theorem bK.new(r:List aE)(aD:List Nat)(b:au)(k:Obj)(ab:Nat):bb r aD b {b with heap:=b.heap.push k,toks:=ab}:=(bK.push b k ab).mono aR aR
theorem bK.same(G:iE h b.heap X):bK [h] b {b with heap:=X,toks:=ab}:=bK.heap (λa k l i=>(G.2 a (by simpa using l)).trans i)<|l_ G.1.symm
inductive bj where|none|bool(a:Bool)|int(j:Int)|str(f:Str)|tup(aJ:List bj)|lst(aJ:List bj)|oH(a:Array UInt8)|raw(g:aF)|bytes(a:Array UInt8)|q0(f B C:Int)|buf(a:Array UInt8)|hA(os:List<|aE×Obj)(g:aF)
mutual/--v amo at c;amq objects amr off X -/def ck(c:e1)(r:List aE):bj->aF->Prop|.none,g=>g=.none|.bool a,g=>g=.bool a|.int j,g=>∃D,g=.int j D|.str f,g=>∃D,g=.str f D|.tup aJ,g=>∃h N o,g=.ref h/\h∉r/\Ű c h=W {cls:=.type "tuple",data:=.seq N o}/\b9 c r aJ N.toList|.lst aJ,g=>∃h N o,g=.ref h/\h∉r/\Ű c h=W {cls:=.type "list",data:=.seq N o}/\b9 c r aJ N.toList|.oH a,g=>∃h,g=.ref h/\h∉r/\Ű c h=W (c9 a)|.raw z,g=>g=z|.bytes a,g=>∃D,g=.bytes a D|.q0 f B C,g=>∃h x hz hB hh o,g=.ref h/\h∉r/\Ű c h=W {cls:=.ref 135,dict:=x,data:=.seq #[.int f hz,.int B hB,.int C hh] o}|.buf a,g=>∃h x i,g=.ref h/\h∉r/\Ű c h=W {cls:=.ref 1963,dict:=W i,data:=.plain,slots:=#[W<|.ref x]}/\x∉r/\Ű c x=W (c9 a)/\i∉r/\Ű c i=W {cls:=.type "dict",data:=.dict #[]}/\1998<=i|.hA os z,g=>g=z/\∀n∈os,n.1∉r/\Ű c n.1=W n.2 def b9(c:e1)(r:List aE):List bj->List aF->Prop|[],N=>N=[]|f::aJ,N=>∃g aV,N=g::aV/\ck c r f g/\b9 c r aJ aV end
mutual theorem ck.to{c X:e1}{r a_:List aE}(m:∀(a:aE)(k:Obj),a∉r->Ű c a=W k->Ű X a=W k/\a∉a_):∀(z:bj)(g:aF),ck c r z g->ck X a_ z g|.none,_,q=>q|.bool _,_,q=>q|.int _,_,q=>q|.str _,_,q=>q|.raw _,_,q=>q|.bytes _,_,q=>q|.hA os z,_,q=>by rw[And.intro q.1 λn aO=>⟨(m n.1 _ (q.2 n aO).1 (q.2 n aO).2).2,(m n.1 _ (q.2 n aO).1 (q.2 n aO).2).1⟩]|.q0 ..,_,q=>by obtain⟨h,x,hz,hB,hh,o,i,aS,aI⟩:=q;rw[q4 h ⟨x,hz,hB,hh,o,i,(m h _ aS aI).2,(m h _ aS aI).1⟩]|.buf _,_,q=>by obtain⟨h,x,f,i,aS,aI,bl,fM,bq,lh,gx⟩:=q;rw[q4 h ⟨x,f,i,(m h _ aS aI).2,(m h _ aS aI).1,(m x _ bl fM).2,(m x _ bl fM).1,(m f _ bq lh).2,(m f _ bq lh).1,gx⟩]|.tup aJ,_,q=>by obtain⟨h,N,o,i,aS,aI,ap⟩:=q;rw[q4 h ⟨N,o,i,(m h _ aS aI).2,(m h _ aS aI).1,b9.to m aJ N.toList ap⟩]|.lst aJ,_,q=>by obtain⟨h,N,o,i,aS,aI,ap⟩:=q;rw[q4 h ⟨N,o,i,(m h _ aS aI).2,(m h _ aS aI).1,b9.to m aJ N.toList ap⟩]|.oH a,_,q=>by obtain⟨h,i,aS,aI⟩:=q;rw[q4 h ⟨i,(m h _ aS aI).2,(m h _ aS aI).1⟩]theorem b9.to{c X:e1}{r a_:List aE}(m:∀(a:aE)(k:Obj),a∉r->Ű c a=W k->Ű X a=W k/\a∉a_):∀(aJ:List bj)(N:List aF),b9 c r aJ N->b9 X a_ aJ N|[],_,q=>q|f::aJ,_,q=>by obtain⟨g,aV,i,dY,eN⟩:=q;rw[q4 g ⟨aV,i,ck.to m f g dY,b9.to m aJ aV eN⟩]end
def IsL(r:List aE)(aJ:List bj)(b:au)(g:aF):Prop:=∃h N o,g=.ref h/\b.heap.get? h=W {cls:=.type "list",data:=.seq N o}/\b9 b.heap r aJ N.toList
theorem ck.iw(q:ck b.heap r (.lst aJ) g):IsL r aJ b g:=by rw[mb q λh N o i u aI ap=>⟨h,N,o,i,aI,ap⟩]
theorem ck.sub(q:ck c r z g)(G:∀B∈a_,B∈r):ck c a_ z g:=ck.to (λa k l i=>⟨i,λe=>l<|G a e⟩) z g q
def t0(a_:List aE)(aD:List Nat)(M:au->Prop):Prop:=∀b w,M b->bb a_ aD b w->M w
def nZ(a_:List aE)(aD:List Nat)(al:au->aF->Prop):Prop:=∀b w g,al b g->bb a_ aD b w->al w g
inductive jL(a_:List aE)(aD:List Nat)(r:List aE)(M:au->Prop):Prop|mk(f2:t0 a_ aD M)(f3:∀b,M b->∀f∈r,f<(aB b))(gw:∀B∈a_,B∈r):jL a_ aD r M
def dk(ſ:cM)(v:cU)(s:cq)(a_:List aE)(aD:List Nat)(p:Env)(M:au->Prop)(i:bJ)(al:au->aF->Prop):Prop:=∀b(A:aF->au->Prop),M b->(∀g w,bb a_ aD b w->al w g->A g w)->Y ſ v s (ee i p) A b
def hi(ſ:cM)(v:cU)(s:cq)(a_:List aE)(aD:List Nat)(D:Sem aF)(al:au->aF->Prop)(b:au):Prop:=∀A:aF->au->Prop,(∀g w,bb a_ aD b w->al w g->A g w)->Y ſ v s D A b
theorem hi.tok(c:∀A:aF->au->Prop,A z {b with toks:=b.toks+1}->ce (cD ſ v) s D A (λu u=>False) b)(aQ:al {b with toks:=b.toks+1} z):hi ſ v s a_ aD D al b:=λu aj=>Y.of<|c _<|aj _ _ (bK.tok ..) aQ
theorem hi.now(c:∀A:aF->au->Prop,A z b->ce (cD ſ v) s D A (λu u=>False) b)(aQ:al b z):hi ſ v s a_ aD D al b:=λu aj=>Y.of<|c _<|aj _ _ (bK.refl ..) aQ
abbrev hC(j:Int):au->aF->Prop:=λu g=>∃D,g=.int j D
abbrev FZ(a:Bool):au->aF->Prop:=λu g=>g=.bool a
abbrev aad:au->aF->Prop:=λu g=>g=.none
abbrev pj(r:List aE)(z:bj):au->aF->Prop:=λb g=>ck b.heap r z g
theorem iL(j:Int):nZ a_ aD (hC j):=λu u u c u=>c
theorem jL.is(cl:jL a_ aD r M)(z:bj):nZ a_ aD (pj r z):=λu u u c t=>ck.to (λa k l i=>⟨t.1 a k (λe=>l<|cl.3 a e) i,l⟩) _ _ c
theorem wZ(c:A () b):Y ſ v s (release N rm) A b:=by unfold release;generalize N.filter _=E;induction E with|nil=>rw[Y.pure c]|cons f E aW=>cases E with|nil=>rw[Y.pure c]|cons B E=>rw[dC<|kK<|pS aW]
theorem KI(c:Y ſ v s S A b):Y ſ v s (operate N S) A b:=dR<|Y.mono c λu u aY=>Y.bind<|wZ<|Y.pure aY
theorem KJ:dk ſ v s a_ aD p M (.Constant (.int j) m ax) (hC j):=λb A u aj=>Y.of<|uW<|aj _ _ (bK.tok ..) ⟨_,V⟩
theorem Sx:dk ſ v s a_ aD p M (.Constant .none m ax) aad:=λb A u aj=>Y.pure<|aj _ _ (bK.refl ..) V
theorem rn(cl:jL a_ aD r M)(bw:dk ſ v s a_ aD p M E kw)(aQ:nZ a_ aD kw)(bO:dk ſ v s a_ aD p M q oB)(ro:∀b e2 fG,M b->kw b e2->oB b fG->hi ſ v s a_ aD (yG oC e2 fG) al b):dk ſ v s a_ aD p M (.BinOp E oC q ax) al:=λb A G aj=>by rw[Y.bind<|bw b _ G λe2 as aK cW=>dR<|bO as _ (cl.1 _ _ G aK) λfG ar a7 fi=>dH<|KI<|ro ar e2 fG (cl.1 _ _ G<|aK.trans a7) (aQ _ _ _ cW a7) fi _ λg co b4 jM=>aj g co ((aK.trans a7).trans b4) jM]
theorem aae(c:dk ſ v s a_ aD p M f<|hC h):dk ſ v s a_ aD p M (.UnaryOp .USub f ax) (hC<|-h):=λb A G aj=>by rw[Y.bind<|c b _ G λg as aK cW=>?_];obtain⟨D,rfl⟩:=cW;rw[dH<|Y.holding<|Y.of<|PySem.P.neg_int<|aj _ _ (aK.trans<|bK.tok ..) ⟨_,V⟩]
theorem aaf(cl:jL a_ aD r M)(bw:dk ſ v s a_ aD p M E kw)(aQ:nZ a_ aD kw)(bO:dk ſ v s a_ aD p M q oB)(bk:EM [oC] [q] (Bm [q] p)=[ee q p])(ro:∀b e2 fG,M b->kw b e2->oB b fG->hi ſ v s a_ aD (wr oC e2 fG) al b):dk ſ v s a_ aD p M (.Compare E [oC] [q] ax) al:=λb A G aj=>by rw[U (arm_eval_Compare ..)<|U bk<|Y.bind<|bw b _ G λe2 as aK cW=>dR<|bO as _ (cl.1 _ _ G aK) λfG ar a7 fi=>dH<|KI<|ro ar e2 fG (cl.1 _ _ G<|aK.trans a7) (aQ _ _ _ cW a7) fi _ λg co b4 jM=>aj g co ((aK.trans a7).trans b4) jM]
inductive p_(p:Env)(c:e1)(cS:Str->Option aF):Prop|mk(f2:p.scope.kind=.function)(f3:∃S,c.Ns p.locals S/\∀f,p.kindOf f=W .local->S f=cS f)(gw:∀f,p.kindOf f=W .cell\/p.kindOf f=W .free->∃h,p.cells.lookup f=W h/\c.IsCell h (cS f)):p_ p c cS
noncomputable def cc(p:Env):List Addr:=p.locals::p.cells.map (·.2)
theorem t3(c:p.cells.lookup f=W h):h∈cc p:=by rw[mt ?_];generalize p.cells=E at c;induction E with|nil=>rw[dN c]|cons n E aW=>
  obtain⟨B,a⟩:=n;rw[tA]at c;split at c
  .cases c;rw[bB]
  .rw[mt<|aW c]
theorem p_.keeps(z:p_ p c cS)(m:∀a∈cc p,∀k,Ű c a=W k->Ű X a=W k):p_ p X cS:=⟨z.1,bt z.2 λS ak bk=>⟨S,ak.at' λk i=>m _ bB k i,bk⟩,λf R=>let⟨h,aS,aA⟩:=z.3 f R;⟨h,aS,let⟨k,i,x⟩:=aA;⟨k,m _ (t3 aS) k i,x⟩⟩⟩
def Sy(p:Env)(f:Str):Prop:=p.kindOf f=W .local\/p.kindOf f=W .cell\/p.kindOf f=W .free
theorem KL(al:p_ p b.heap cS)(R:Sy p f)(aQ:cS f=W z)(aA:(f==("__classdict__":Str))=be)(c:A z b):Y ſ v s (loadName p f) A b:=by
 rcases R with R|R|R
 .rw[bt al.2 λS ak bk=>Y.of<|IF al.1 R ak ((bk f R).trans aQ) c]
 .rw[bt (al.3 f<|.inl R) λh aS lM=>Y.of<|wpAny_loadName_cell al.1 R aS (aQ▸lM) c]
 .rw[bt (al.3 f<|.inr R) λh aS lM=>Y.of<|Pz al.1 R aS (aQ▸lM) c aA]
inductive zu:List (Str×bj)->Str->bj->Prop|here{g6:List<|Str×bj}{f:Str}{z:bj}:zu ((f,z)::g6) f z|there{g6:List<|Str×bj}{f B:Str}{z aG:bj}:(B==f)=be->zu g6 f z->zu ((B,aG)::g6) f z
inductive pk(p:Env)(r:List aE)(g6:List<|Str×bj)(bo:au->Prop)(b:au):Prop|mk(f2:∀f∈r,f<(aB b))(f3:∃cS,p_ p b.heap cS/\∀f z,zu g6 f z->∃g,cS f=W g/\ck b.heap r z g)(gw:bo b):pk p r g6 bo b
theorem dk.to(c:dk ſ v s a_ aD p M i al)(m:∀b g,al b g->Cj b g):dk ſ v s a_ aD p M i Cj:=λb A n aj=>c b A n λg w t aQ=>aj g w t<|m w g aQ
def Ck(ſ:cM)(v:cU)(s:cq)(a_:List aE)(aD:List Nat)(p:Env)(M:au->Prop)(i:bJ)(a:Bool):Prop:=∀b(A:Bool->au->Prop),M b->(∀w,bb a_ aD b w->A a w)->Y ſ v s (isTrue i p<|ee i p) A b
theorem vo(cl:jL a_ aD r M)(bw:dk ſ v s a_ aD p M E kw)(aQ:nZ a_ aD kw)(bO:dk ſ v s a_ aD p M q oB)(ro:∀b e2 fG,M b->kw b e2->oB b fG->hi ſ v s a_ aD (wr oC e2 fG) (FZ a) b)(bk:EM [oC] [q] (Bm [q] p)=[ee q p]:=by rfl):Ck ſ v s a_ aD p M (.Compare E [oC] [q] ax) a:=λb A G aj=>by rw[arm_isTrue_Compare,bk];rw[Y.bind<|bw b _ G λe2 as aK cW=>dR<|bO as _ (cl.1 _ _ G aK) λfG ar a7 fi=>dH<|Y.bind<|KI<|ro ar e2 fG (cl.1 _ _ G<|aK.trans a7) (aQ _ _ _ cW a7) fi _ λg co b4 jM=>?_];subst jM;rw[Y.holding<|Y.pure<|aj co<|(aK.trans a7).trans b4]
theorem aag(cl:jL a_ aD r M)(bC:Ck ſ v s a_ aD p M D a)(bw:a=ag->dk ſ v s a_ aD p M f al)(bO:a=be->dk ſ v s a_ aD p M B al):dk ſ v s a_ aD p M (.IfExp D f B ax) al:=λb A G aj=>by rw[Y.bind<|bC b _ G λas aK=>?_];cases a with|true=>rwa[U (if_pos V)];rw[bw V as _ (cl.1 _ _ G aK) λg ar a7 m=>aj g ar (aK.trans a7) m]|false=>rwa[U (if_neg bf)];rw[bO V as _ (cl.1 _ _ G aK) λg ar a7 m=>aj g ar (aK.trans a7) m]
def nk(ſ:cM)(v:cU)(s:cq)(a_:List aE)(aD:List Nat)(p:Env)(M:au->Prop)(az:List bJ)(al:au->List aF->Prop):Prop:=∀b(A:List aF->au->Prop)(ax:Pos),M b->(∀aV w,bb a_ aD b w->al w aV->A aV w)->Y ſ v s (pT<|kp ax<|j1 az p) A b
noncomputable def dS:bJ->Bool|.Starred ..=>be|_=>ag
theorem kV(c:dS i=ag):j1 (i::az) p=(be,ee i p)::j1 az p:=by cases i<;>first|rfl|rw[Bool.noConfusion c]
theorem jo:nk ſ v s a_ aD p M [] (λu aV=>aV=[]):=λb A ax G aj=>Y.pure<|aj _ _ (bK.refl ..) V
theorem hZ(ak:dS i=ag)(cl:jL a_ aD r M)(c:dk ſ v s a_ aD p M i al)(aQ:nZ a_ aD al)(G:nk ſ v s a_ aD p M az KM):nk ſ v s a_ aD p M (i::az) (λb aV=>∃g q,aV=g::q/\al b g/\KM b q):=λb A ax aO aj=>by rw[Fm (kV ak)▸Y.bind (c b _ aO λg as aK cW=>ev<|dR<|G as _ ax (cl.1 _ _ aO aK) λaV ar a7 fi=>Y.pure<|aj _ ar (aK.trans a7)<|ie g aV V (aQ _ _ _ cW a7) fi)]
theorem zv{az:List bJ}:az.all dS=ag->(kp ax<|j1 az p).any (·.1)=be:=by induction az with|nil=>intro fl;rwa[U (arm_starEach_nil ..)];rfl|cons i az a3=>intro c;rw[on,ir]at c;rw[kV c.1▸?_];rw[(?_:(be||(kp ax<|j1 az p).any (·.1))=be)];rwa[U (a3 c.2)];rfl
theorem zw(ak:az.all dS=ag)(c:nk ſ v s a_ aD p M az al)(G:M b)(aj:∀aV w,bb a_ aD b w->al w aV->A ⟨aV,[]⟩ w):Y ſ v s (evalArgs J ag (kp ax<|j1 az p) []) A b:=by have cK:Y ſ v s (pT<|kp ax<|j1 az p) (λN w=>A ⟨N,[]⟩ w) b:=c b _ ax G aj;cases az with|nil=>rw[hy cK λN w X=>ev<|Y.holding<|ev<|ev<|Y.pure X]|cons i az=>rw[on,ir]at ak;rw[kV ak.1]at cK⊢;rw[hy cK λN w X=>ev<|Y.holding<|ev<|ev<|Y.pure X]
noncomputable def Cm:aF->Bool|.builtin cR=>ag|.type cR=>ag|_=>be
theorem zx(bi:Cm J=ag)(ak:az.all dS=ag)(c:nk ſ v s a_ aD p M az al)(G:M b)(aA:∀aV w,bb a_ aD b w->al w aV->Y ſ v s (eS J (lN++aV) []) A w):Y ſ v s (qV ax J lN (kp Cn<|j1 az p) []) A b:=by
 rw[dR<|zw ak c G λaV as aK cW=>dH<|U (zv ak ..)<|U (y4 ..)<|U (tk ..) ?_];have aT:tp J=dB .machine:=by cases J<;>first|rfl|rw[iJ bi]
 rw[U aT<|ev<|hy (aA aV as aK cW) λq ar ap=>dC<|kK<|pS<|Y.pure ap]
def pl(M:au->Prop)(p:Env)(f:Str)(z:aF):Prop:=(p.scope.kind=.function/\p.kindOf f=W .globalImplicit)/\∀b,M b->∃hD,b.heap.Ns p.globals hD/\(hD f=W z\/(hD f=aX/\∃ix,b.heap.Ns p.builtins ix/\ix f=W z))
theorem sz(c:pl M p f z)(bl:(f==("__debug__":Str))=be:=by decide):dk ſ v s a_ aD p M (.Name f ax) (λu g=>g=z):=λb A G aj=>by
 rw[c0 c λbN c=>c0 bN λaT R=>bt (c b G) λhD aI cB=>?_];obtain aQ|⟨aQ,ix,l,pm⟩:=cB
 .rw[Y.of<|FD aT R (Q' aI aQ<|aj _ _ (bK.refl ..) V) bl]
 .rw[Y.of<|FD aT R (Ra aI aQ l pm<|aj _ _ (bK.refl ..) V) bl]
theorem lj(cl:jL a_ aD r M)(aI:pl M p f J)(bi:Cm J=ag)(c:nk ſ v s a_ aD p M az al)(aA:∀b aV,M b->al b aV->hi ſ v s a_ aD (eS J aV []) di b)(ak:az.all dS=ag:=by rfl)(bl:(f==("__debug__":Str))=be:=by decide):dk ſ v s a_ aD p M (.Call (.Name f Sz) az [] ax) di:=λb A G aj=>by .rw[Y.bind<|sz (a_:=a_) (aD:=aD) aI bl b _ G λg as aK cW=>U cW<|zx (lN:=[]) bi ak c (cl.1 _ _ G aK) λaV ar a7 fi=>aA ar aV (cl.1 _ _ G<|aK.trans a7) fi _ λq co b4 jM=>aj q co ((aK.trans a7).trans b4) jM]
theorem b9.length{aJ:List bj}:∀{N:List aF},b9 c r aJ N->gu N=gu aJ:=by induction aJ with|nil=>intro fl q;rwa[U q];rfl|cons cR e3 a3=>intro fl q;obtain⟨g,aV,rfl,_,q⟩:=q;rw[U gt<|U gt<|U (a3 q) V]
theorem b9.append(gG:b9 c r b8 ex){aJ:List bj}:∀{N:List aF},b9 c r aJ N->b9 c r (aJ++b8) (N++ex):=by induction aJ with|nil=>intro fl q;rw[U q gG]|cons cR e3 a3=>intro fl q;rw[d7 q λg aV bN dY eN=>U bN<|U u5<|(ie g (aV++ex) V dY<|a3 eN)]
theorem b9.get{aJ:List bj}:∀{N:List aF}{j:Nat}{f:bj},b9 c r aJ N->aJ[j]?=W f->∃g,N[j]?=W g/\ck c r f g:=by induction aJ with|nil=>intro fl eM hq n0 i;rw[dN i]|cons B aJ a3=>intro fl rp;cases rp with|zero=>intro f q i;rw[d7 q λg aV jp dY eN=>U jp ?_];cases i;rw[(dj g V dY)]|succ j=>intro f q i;rw[d7 q λg aV kW dY eN=>U kW<|a3 (j:=j) eN (by simpa using i)]
theorem b9.drop:∀{aJ:List bj}{N:List aF}(o:Nat),b9 c r aJ N->b9 c r (aJ.drop o) (N.drop o):=by intro pe KN fc;induction fc generalizing pe KN with|zero=>intro q;rw[q]|succ o a3=>cases pe with|nil=>intro q;rw[U q<|BK ..]|cons cR e3=>intro q;rw[d7 q λg aV gS dY eN=>U gS<|a3 eN]
theorem b9.take:∀{aJ:List bj}{N:List aF}(o:Nat),b9 c r aJ N->b9 c r (aJ.take o) (N.take o):=by intro pe KN fc;induction fc generalizing pe KN with|zero=>intro q;rw[V]|succ o a3=>cases pe with|nil=>intro q;rw[U (q:_=[])<|BK ..]|cons cR e3=>intro q;rw[d7 q λg aV gT dY eN=>U gT<|U Jt<|U Jt<|(ie g (aV.take o) V dY<|a3 eN)]
theorem b9.ints{aq:List Int}:∀{N:List aF},b9 c r (aq.map bj.int) N↔wH N aq:=by induction aq with
 |nil=>intro N;rw[⟨λc=>c▸.nil,λc=>by cases c;rfl⟩]|cons o aq a3=>
  intro N;constructor
  .rintro dt;rw[d7 dt λg aV eh fd q=>U eh ?_];obtain⟨D,rfl⟩:=fd;rw[.cons _ _<|a3.mp q]
  .intro c;cases c with|cons _ D c=>rw[(ie _ _ V (ov D V)<|a3.mpr c)]
theorem SA(cC:∀f∈r,f<(aB b))(ap:b9 b.heap r aJ N.toList):pj r (.lst aJ) {b with heap:=b.heap.push {cls:=.type "list",data:=.seq N},toks:=ab} (.ref<|aB b):=by rw[(p0 _ N 0 V (λe=>absurd (cC _ e)<|ia _) (fu _ V)<|b9.to (λa k l i=>⟨eY _ i,l⟩) _ _ ap)]
theorem SB(cC:∀f∈r,f<(aB b))(ap:b9 b.heap r aJ N.toList):pj r (.tup aJ) {b with heap:=b.heap.push {cls:=.type "tuple",data:=.seq N},toks:=ab} (.ref<|aB b):=by rw[(p0 _ N 0 V (λe=>absurd (cC _ e)<|ia _) (fu _ V)<|b9.to (λa k l i=>⟨eY _ i,l⟩) _ _ ap)]
theorem aah(cl:jL a_ aD r M)(c:nk ſ v s a_ aD p M az<|λb aV=>b9 b.heap r aJ aV)(ae:aJ.length<=cy):dk ſ v s a_ aD p M (.Tuple az m ax) (pj r<|.tup aJ):=λb A G aj=>by rw[dH<|Y.bind<|c b _ ax G λaV as aK cW=>Y.of<|jE ?_ (by show aV.toArray.size<=cy;rwa[U y3<|U cW.length];rw[ae])];rw[aj _ _ (aK.trans<|bK.new _ _ as _ as.toks)<|SB (cl.2 _<|cl.1 _ _ G aK) cW]
theorem aai(cl:jL a_ aD r M)(bw:dk ſ v s a_ aD p M E kw)(aQ:nZ a_ aD kw)(bO:dk ſ v s a_ aD p M q oB)(cW:∀b g,M b->kw b g->IsL r aJ b g)(fi:∀b g,M b->oB b g->IsL r b8 b g)(ae:gu aJ+gu b8<=cy):dk ſ v s a_ aD p M (.BinOp E .Add q ax) (pj r<|.lst<|aJ++b8):=rn cl bw aQ bO λb g x G aA bl=>(by
    rw[jH (cW b g G aA) λh N o hK nn rq=>U hK<|jH (fi b x G bl) λa ex S j' Co n1=>U j' ?_];intro A aj;have i:N++ex=(N.toList++ex.toList).toArray:=by simp
    have f7:=rq.length;have h0:=n1.length;rw[Y.of<|concat_meets ⟨_,nn,V⟩ ⟨_,Co,V⟩ noFill_list_add seq_list_add QT QU (QV _ _) (list_addW h a N ex o S aX aX #[] #[] (by simp at f7 h0;rw[zo (.l (.a .x .y) .z) [.l (.a .w .u) .z,.e .x .w,.e .y .u] Z ae f7 h0])) ⟨nn,Co,(aj _ _ (bK.new _ _ b _ b.toks)<|SA (cl.2 b G) (by simpa using b9.append n1 rq))⟩])
theorem t4(cl:jL a_ aD r M)(bw:dk ſ v s a_ aD p M e8 kw)(aQ:nZ a_ aD kw)(bO:dk ſ v s a_ aD p M gX oB)(bC:∀b g x,M b->kw b g->oB b x->hi ſ v s a_ aD (JV e8 gX g x) al b):dk ſ v s a_ aD p M (.Subscript e8 gX ax) al:=λb A G aj=>by rw[Y.bind<|bw b _ G λg as aK cW=>dR<|bO as _ (cl.1 _ _ G aK) λx ar a7 fi=>dH<|bC ar g x (cl.1 _ _ G<|aK.trans a7) (aQ _ _ _ cW a7) fi A λq co b4 jM=>aj q co ((aK.trans a7).trans b4) jM]
noncomputable def oD:bJ->Bool|.Slice ..=>be|_=>ag
theorem Cp(c:oD gX=ag)(g x:aF):subscripted gX be g x=operate [g,x] (getItem g x):=by cases gX<;>first|rfl|rw[iJ c]
theorem aaj(cl:jL a_ aD r M)(bw:dk ſ v s a_ aD p M e8 al)(aQ:nZ a_ aD al)(w0:∀b g,M b->al b g->IsL r aJ b g)(bO:dk ſ v s a_ aD p M gX<|hC m)(aM:0<=m)(R:aJ[om m]?=W f)(ae:gu aJ<=cy)(T:oD gX=ag:=by rfl):dk ſ v s a_ aD p M (.Subscript e8 gX ax) (pj r f):=t4 cl bw aQ bO λb g x G aA bl=>(by rw[jH (w0 b g G aA) λh N o bN aI ap=>U bN<|c1 bl λD cB=>U cB ?_];have aw:b.heap.IsList h N:=⟨_,aI,V,o,V⟩;rw[bt (ap.get R) λz aQ KO=>hi.now (λA aY=>vc aw.typeIs PA.lookup (PC aw aM (vl (.b2 .x<|.n 9223372036854775808) [.l .x .y,.t .z .x,.e .y<|.n 16777216,.cN .x<|.c .z] Z ae ((j4.mp R).1) V<|mK _) (by simpa using aQ) aY)<|Cp T _ _) KO])
abbrev SC(lo T:Option Int):au->aF->Prop:=λb g=>∃h F0 F1,g=.ref h/\b.heap.IsSliceOf h F0 F1 .none/\uY F0 lo/\uY F1 T
def KP(ſ:cM)(v:cU)(s:cq)(a_:List aE)(aD:List Nat)(p:Env)(M:au->Prop)(i:Option bJ)(m:Option Int):Prop:=match i,m with|none,aX=>True|some i,W m=>dk ſ v s a_ aD p M i<|hC m|cR,e3=>False
theorem SD(c:KP ſ v s a_ aD p M i m)(G:M b)(aj:∀g w,bb a_ aD b w->uY g m->A g w):Y ſ v s (valueOrNone<|evalOpt i p) A b:=by cases i with
 |none=>cases m with|none=>rw[?_];rw[Y.pure<|aj _ _ (bK.refl ..) .none]|some m=>rw[c.elim]
 |some i=>cases m with|none=>rw[c.elim]|some m=>rw[(c:dk ſ v s a_ aD p M i<|hC m) b _ G λg w t⟨D,aA⟩=>aj g w t<|aA▸.int m D]
theorem F2{E aG:Option bJ}{lo T:Option Int}{ax:Pos}(cl:jL a_ aD r M)(bw:KP ſ v s a_ aD p M E lo)(bO:KP ſ v s a_ aD p M aG T):dk ſ v s a_ aD p M (.Slice E aG aX ax) (SC lo T):=λb A G aj=>by rw[Y.bind<|SD bw G λg as aK cW=>dR<|SD bO (cl.1 _ _ G aK) λx ar a7 fi=>dR<|Y.pure<|Y.of<|jE (aj _ _ ((aK.trans a7).trans<|bK.new _ _ ar _ ar.toks)<|p0 _ g x V (Rb ..) cW fi) (by show 3<=cy+2;decide)]
theorem KQ{e8:bJ}{E aG:Option bJ}{ax:Pos}{lo T:Option Int}{aJ b8:List bj}{g x:aF}(cC:∀f∈r,f<(aB b))(c:IsL r aJ b g)(bl:SC lo T b x)(ae:gu aJ<=cy)(a8:∀N:Array aF,b9 b.heap r aJ N.toList->b9 b.heap r b8 (slicePick N lo T aX).toList):hi ſ v s a_ aD (JV e8 (.Slice E aG aX ax) g x) (pj r<|.lst b8) b:=by
 rw[jH c λh N o dt aI ap=>U dt<|mb bl λbz F0 F1 eh ih oE KR=>U eh ?_];have aw:b.heap.IsList h N:=⟨_,aI,V,o,V⟩;have d4:N.size<=sizeLine:=by have:=ap.length;simp at this;rw[eA (.l .x .y) [.l .z .y,.e .x .z] Z ae this]
 intro A aj;rw[Y.of<|vc aw.typeIs PA.lookup (wpAny_getItem_list_slice aw ih oE KR .none (by simp) (aj _ _ (bK.new _ _ b _ b.toks)<|SA cC<|a8 N ap) d4) V]
theorem aak{e8:bJ}{E:bJ}{n bs:Pos}{aJ:List bj}{m:Nat}(cl:jL a_ aD r M){al:au->aF->Prop}(bw:dk ſ v s a_ aD p M e8 al)(aQ:nZ a_ aD al)(w0:∀b g,M b->al b g->IsL r aJ b g)(bO:dk ſ v s a_ aD p M E<|hC m)(ae:gu aJ<=cy):dk ſ v s a_ aD p M (.Subscript e8 (.Slice (W E) aX aX n) bs) (pj r<|.lst<|aJ.drop m):=t4 cl bw aQ (F2 cl (lo:=W m) (T:=aX) bO trivial) λb g x G aA bl=>KQ (cl.2 b G) (w0 b g G aA) bl ae λN ap=>by rwa[U (slicePick_from' ..)];simpa using ap.drop m
theorem aal{e8:bJ}{aG:bJ}{n bs:Pos}{aJ:List bj}{m:Nat}(cl:jL a_ aD r M){al:au->aF->Prop}(bw:dk ſ v s a_ aD p M e8 al)(aQ:nZ a_ aD al)(w0:∀b g,M b->al b g->IsL r aJ b g)(bO:dk ſ v s a_ aD p M aG<|hC m)(ae:gu aJ<=cy):dk ſ v s a_ aD p M (.Subscript e8 (.Slice aX (W aG) aX n) bs) (pj r<|.lst<|aJ.take m):=t4 cl bw aQ (F2 cl (lo:=aX) (T:=W m) trivial bO) λb g x G aA bl=>KQ (cl.2 b G) (w0 b g G aA) bl ae λN ap=>by rwa[U (slicePick_upto' ..)];simpa using ap.take m
section
variable{ſ:cM}{v:cU}{s:cq}{p:Env}{r a_:List aE}{aD:List Nat}{g6:List<|Str×bj}{bo M:au->Prop}{b:au}{K:gO->au->Prop}
theorem F3{c:e1}{h a:aE}{S:Str->Option aF}{z:Option aF}(ak:c.Ns h S)(aA:c.IsCell a z):a≠h:=by rintro rfl;rw[jH ak λk az zy i bl u=>bt aA λdh cP jN=>?_];rw[i]at cP;cases cP;rw[bl]at jN;cases jN
theorem aam(n:pk p r g6 bo b)(ap:ck b.heap r z g)(R:p.kindOf f=W .local)(fs:p.locals∈r)(h1:t0 [p.locals] [] bo)(c:∀w,bb [p.locals] [] b w->pk p r ((f,z)::g6) bo w->A () w):Y ſ v s (ws p f g) A b:=by
 rw[bt n.2 λcS al w1=>bt al.2 λS ak bk=>(Y.of<|PD R ak (λX mO dy=>?_) (by rwa[U al.1];rfl))];rwa[ds (@nd _ _ _ _ _)];intro dx;have t:bb [p.locals] [] b {b with heap:=X,toks:=b.toks+1}:=bK.same dy;rw[c _ t ⟨λB a8=>cg (n.1 B a8) t.2,(dj (λB=>if B=f then W g else cS B) ⟨al.1,(dj _ mO λB a8=>?_),λB a8=>?_⟩ λB aG dX=>?_),h1 _ _ n.3 t⟩]
 .split
  .rfl
  .rw[bk B a8]
 .rw[bt (al.3 B a8) λh aS aA=>(dj h aS ?_)];have kx:B≠f:=by rintro rfl;rw[R]at a8;rcases a8 with e|e<;>cases e
  have c_:h≠p.locals:=F3 ak aA;rw[Fm (if_neg kx)▸bt aA λk i x=>⟨k,(dy.2 h c_).trans i,x⟩]
 .have cK:∀aG bm,ck b.heap r aG bm->ck X r aG bm:=λaG bm q=>ck.to (λa k l i=>⟨t.1 a k (λe=>l<|(bg e)▸fs) i,l⟩) _ _ q;cases dX with
  |here=>rw[(dj g (if_pos V)<|cK _ _ ap)]|there c_ dX=>
   rw[bt (w1 B aG dX) λbm ka gH=>?_];have kx:B≠f:=by rintro rfl;simp at c_
   rw[(dj bm ((if_neg kx).trans ka)<|cK _ _ gH)]
theorem SF(c:Y ſ v s (ws p f g) A b):Y ſ v s (tq p f g) A b:=by rw[dC<|kK<|pS<|hy c λu w aY=>Y.of<|pS aY]
inductive KS(p:Env)(f:Str)(h:aE):Prop|mk(f2:p.kindOf f=W .cell)(f3:p.cells.lookup f=W h)(gw:∀B a,p.kindOf B=W .cell\/p.kindOf B=W .free->p.cells.lookup B=W a->B≠f->a≠h):KS p f h
theorem aan(n:pk p r g6 bo b)(ap:ck b.heap r z g)(R:KS p f h)(fs:h∈r)(h1:t0 [h] [] bo)(c:∀w,bb [h] [] b w->pk p r ((f,z)::g6) bo w->A () w):Y ſ v s (ws p f g) A b:=by
 rw[bt n.2 λcS al w1=>bt al.2 λS ak bk=>bt (al.3 f<|.inl R.1) λgi kb lM=>?_];replace kb:=R.2▸kb;cases kb;rw[(Y.of<|PE al.1 R.1 R.2 lM<|λX ka dy=>ds (@nd _ _ _ _ _) ?_)];intro dx;have t:=bK.same (ab:=b.toks) dy;have c_:=F3 ak lM;rw[c _ t ⟨λB a8=>cg (n.1 B a8) t.2,⟨λB=>if B=f then W g else cS B,⟨al.1,⟨S,ak.at' λk i=>t.1 _ k (λe=>c_ (bg e).symm) i,λB a8=>?_⟩,λB a8=>?_⟩,λB aG dX=>?_⟩,h1 _ _ n.3 t⟩]
 .have kx:B≠f:=by rintro rfl;replace a8:=R.1▸a8;rw[nomatch a8]
  rw[(bk B a8).trans (if_neg kx).symm]
 .by_cases kx:B=f
  .subst kx;rw[⟨h,R.2,if_pos V▸ka⟩]
  .rw[bt (al.3 B a8) λa l aA=>⟨a,l,(if_neg kx▸bt aA λk i x=>⟨k,(dy.2 a<|R.3 B a a8 l kx).trans i,x⟩)⟩]
 .have cK:∀aG bm,ck b.heap r aG bm->ck X r aG bm:=λaG bm q=>ck.to (λa k l i=>⟨t.1 a k (λe=>l<|(bg e)▸fs) i,l⟩) _ _ q;cases dX with
  |here=>rw[⟨g,if_pos V,cK _ _ ap⟩]|there c_ dX=>
   rw[bt (w1 B aG dX) λbm ka gH=>?_];have kx:B≠f:=by rintro rfl;simp at c_
   rw[⟨bm,(if_neg kx).trans ka,cK _ _ gH⟩]
def Cq(p:Env)(f:Str):Prop:=p.kindOf f=W .local\/∃h,KS p f h
theorem zz{st:fa}{b0:List fa}(c:Y ſ v s (exec st p) (λJ w=>J=.next/\Y ſ v s (d3 b0 p) K w) b):Y ſ v s (d3 (st::b0) p) K b:=by rwa[Y.eq (qW ..)<|hy c];rintro J w⟨rfl,X⟩;rw[X]
theorem SG(c:K .next b):Y ſ v s (d3 [] p) K b:=by rwa[U (wt ..)];rw[Y.pure c]
noncomputable def t7:bJ->Bool|.ListComp ..|.SetComp ..|.DictComp ..=>be|_=>ag
theorem t8(c:t7 i=ag):swapsWith i D E p=dB be:=by cases i<;>first|rfl|rw[iJ c]
theorem aao{i:bJ}{ax:Pos}{al:au->aF->Prop}{b0:List fa}(n:M b)(bq:dk ſ v s a_ aD p M i al)(c:∀g w,bb a_ aD b w->al w g->K (.ret g) w):Y ſ v s (d3 (.Return (W i) ax::b0) p) K b:=by rw[Y.bind<|dH<|Y.bind<|bq b _ n λg as aK gb=>Y.pure<|Y.pure<|c g as aK gb]
set_option backward.match.sparseCases true in theorem SH{D:bJ}{ax:Pos}{a:Bool}{w2 w3:List fa}{b0:List fa}(n:M b)(bC:Ck ſ v s a_ aD p M D a)(c:∀w,bb a_ aD b w->Y ſ v s (d3 (bif a then w2 else w3) p) (λJ d_=>(J=.next/\Y ſ v s (d3 b0 p) K d_)\/(J≠.next/\K J d_)) w):Y ſ v s (d3 (.If D w2 w3 ax::b0) p) K b:=by
 rw[Y.bind<|dH<|Y.bind<|bC b _ n λas aK=>?_];have cK:Y ſ v s (d3 (bif a then w2 else w3) p) (λJ w=>Y ſ v s (match J with|.next=>d3 b0 p|J=>dB J) K w) as:=by
  rw[d8 ?_];intro eg;rw[Y.mono (c as aK) λJ w bi=>?_];rcases bi with⟨rfl,bi⟩|⟨c_,bi⟩
  .rw[bi]
  .cases J with|next=>rw[absurd V c_]|_=>rw[Y.pure bi]
 cases a with|true=>rwa[U (if_pos V)];rw[cK]|false=>rwa[U (if_neg bf)];rw[cK]
theorem aap(cC:∀h∈cc p,h∈r)(h1:t0 (cc p) [] bo)(n:pk p r g6 bo b)(ap:ck b.heap r z g)(R:Cq p f)(c:∀w,bb (cc p) [] b w->pk p r ((f,z)::g6) bo w->A () w):Y ſ v s (ws p f g) A b:=by
 rcases R with R|⟨h,R⟩
 .have i5:∀{b w:au},bb [p.locals] [] b w->bb (cc p) [] b w:=λt=>t.mono (λa l=>bg l▸bB) aR;rw[aam n ap R (cC _ bB) (λb w c t=>h1 _ _ c<|i5 t) λw t bs=>c w (i5 t) bs]
 .have i5:∀{b w:au},bb [h] [] b w->bb (cc p) [] b w:=λt=>t.mono (λa l=>bg l▸t3 R.2) aR;rw[aan n ap R (cC _<|t3 R.2) (λb w c t=>h1 _ _ c<|i5 t) λw t bs=>c w (i5 t) bs]
end
def zA(ſ:cM)(v:cU)(s:cq)(oF:Option<|aF->Sem Unit)(A:aF->au->Prop)(ch:aF)(aP:aE)(w:au):Prop:=match oF with|none=>∃S,w.heap.Ns aP S/\∀X,iE aP w.heap X->A ch {w with heap:=X}|some aG=>Y ſ v s (aG ch) (λu d_=>∃S,d_.heap.Ns aP S/\∀X,iE aP d_.heap X->A .none {d_ with heap:=X}) w
theorem aaq(p':clausesOf i=t::b5)(G:∀f,sb t.iter p f=dB f)(KT:wu a2 p=dB me)(Cr:a2.kind=.function)(SI:∀f∈a2.names,f.2=.local->a2.names.lookup f.1=W .local)(c:Y ſ v s lN (λf as=>Y ſ v s (ol f) (λbE ar=>Y ſ v s À (λch co=>Y ſ v s (Bn a2 p.globals me [] p.qual aX .none<|W p) (λw4 cv=>em ſ v s (.compStart i 0 bE ch {w4 with scope:=relabel a2 p}) (λu=>zA ſ v s oF A ch w4.locals) cv) co) ar) as) b):Y ſ v s (wv i a2 p ax À be lN oF) A b:=by unfold wv;rw[Fm KT▸Fm p'▸hy c λf as bw=>dH<|Y.bind<|Y.eq (G f)<|Y.pure<|dR<|Y.mono bw λbE ar bO=>?_];cases oF with
 |none=>
  rw[Y.bind<|Y.mono bO λch co kc=>ev<|hy kc λw4 cv KU=>?_]
  dsimp only;rwa[ds (@Rc _ _ _ _ _ _ _ _ _)];intro dx;have aQ:∀f∈(a2.names.filter λf=>(f.2==.local||f.2==.cell)&&f.1 !=(".0":Str)).reverse,f.2=.local->zd {w4 with scope:=relabel a2 p} f.1=W .local:=λf R aw=>PF<|SI f (pX.mp<|Qb.mp R).1 aw;rw[Y.holding<|Y.bind<|Y.attempt<|Y.holding<|Y.run<|em.mono KU λJ w ap=>bt ap λS ak ap=>dR<|Y.of<|wpAny_comp_letGo Cr _ w S aQ ak λX qa u dy=>Y.pure<|ap X dy]|some aG=>
  rw[dH<|Y.bind<|Y.mono bO λch co kc=>ev<|hy kc λw4 cv KU=>?_]
  dsimp only;rwa[ds (@Rc _ _ _ _ _ _ _ _ _)];intro dx;have aQ:∀f∈(a2.names.filter λf=>(f.2==.local||f.2==.cell)&&f.1 !=(".0":Str)).reverse,f.2=.local->zd {w4 with scope:=relabel a2 p} f.1=W .local:=λf R aw=>PF<|SI f (pX.mp<|Qb.mp R).1 aw;have pm:∀f∈(a2.names.filter λf=>(f.2==.local||f.2==.cell)&&f.1 !=(".0":Str)).reverse.drop 1++(a2.names.filter λf=>(f.2==.local||f.2==.cell)&&f.1 !=(".0":Str)).reverse.take 1,f.2=.local->zd {w4 with scope:=relabel a2 p} f.1=W .local:=λf R aw=>bS R (λaf=>aQ f (BL af) aw) λaf=>aQ f (BM af) aw;rw[Y.holding<|Y.bind<|Y.attempt<|Y.holding<|Y.run<|em.mono KU λJ w ap=>dC<|mv<|dR<|Y.mono ap λu d_ gH=>bt gH λS ak gH=>dC<|wpAny_comp_letGo Cr _ d_ S pm ak λX qa u dy=>Y.pure<|gH X dy]
noncomputable def Cs(ii:List bJ)(p:Env):Sem Bool:=match ii with|[]=>dB ag|g::_=>isTrue g p<|ee g p
theorem aar(c:gu ii<=1):(forIn ii ag λg q=>if q=ag then do let jO<-isTrue g p<|ee g p;dB (so jO)else dB (so q):Sem Bool)=Cs ii p:=by cases ii with|nil=>rfl|cons g q=>cases q with|nil=>simp[Cs,u8]|cons _ _=>rw[absurd c<|PY<|wy 2 _]
def vp(dT:bJ)(eG:List lC)(a2:dA)(ax:Pos)(x:Nat)(ch:aF)(p:Env)(ii:List bJ):Sem Unit:=do
 let jO<-Cs ii p if jO then match eG[x+1]? with
  |some cd=>do
   let f<-ee cd.iter p
   Bi cd.iter.pos let f<-sb cd.iter p f let _<-runOwn (.compStart (.ListComp dT eG a2 ax) (x+1) (<-holding [f]<|ol f) ch p) p
  |none=>do let _<-call (.builtin "list.append") [ch,<-ee dT p]else dB ()
theorem aas(aI:eG[x]?=W t)(aM:t.is_async=0)(af:gu t.ifs<=1)(am:∀cd,eG[x+1]?=W cd->cd.is_async=0):compTurn (.ListComp dT eG a2 ax) x bE ch p=(do Bi t.iter.pos match<-oj bE with|none=>dB<|.done .next|some z=>do
    Bo t.target bE z
    assign t.target p z
    vp dT eG a2 ax x ch p t.ifs
    again<|.compLoop (.ListComp dT eG a2 ax) x bE ch p):=by
 unfold compTurn vp;simp only[aI,aM];rw[if_neg (by decide),if_neg (by decide)]
 congr 1;funext _;congr 1;funext q;cases q with|none=>rfl|some z=>
  dsimp only
  congr 1;funext _;congr 1;funext _;rw[show(forIn t.ifs ag λg q=>_)=Cs t.ifs p from(by rw[<-aar af]),];simp only[bind_assoc]
  congr 1;funext jO;cases jO with|false=>rfl|true=>simp only[if_true];cases fM:eG[x+1]? with|none=>simp only[bind_assoc]|some cd=>simp only[am cd fM,bind_assoc];rfl
theorem KV(aI:eG[x]?=W t)(aM:t.is_async=0)(Ct:∀A:aF->au->Prop,A (.ref an) b->Y ſ v s (ol<|.ref an) A b)(c:em ſ v s (.compLoop (.ListComp dT eG a2 ax) x (.ref an) ch p) ca b):em ſ v s (.compStart (.ListComp dT eG a2 ax) x (.ref an) ch p) ca b:=by
 rw[em.my V<|Y.onRaise ?_];unfold compStart;rw[U (V ..:clausesOf (.ListComp dT eG a2 ax)=eG)<|U (aI ..)<|U (Option.elim_some ..)<|U (aM ..)<|gR bf<|dC<|wpAny_askSetting ?_];split
 .rw[ev<|Y.pure ⟨V,c⟩]
 .rw[dC<|mv<|dH<|Y.bind<|Ct _<|Y.pure ⟨V,c⟩]
inductive KW(ar cv:au)(av aP:aE):Prop|mk(f2:cv.heap.PlainList av #[])(f3:cv.heap.Ns aP<|λu=>aX)(gw:bK [] ar cv)(j_:(aB ar)<=av/\(aB ar)<=aP/\av≠aP)(lL:av<(aB cv)/\aP<(aB cv)):KW ar cv av aP
inductive KX(p:Env)(a2:dA)(me:List<|Str×aE):Prop|mk(f2:wu a2 p=dB me)(f3:a2.kind=.function)(gw:∀B∈a2.names,B.2≠.cell)(j_:∀B∈a2.names,B.2=.local->a2.names.lookup B.1=W .local):KX p a2 me
theorem KY(no:KX p a2 me)(aM:t.is_async=0)(G:∀f,sb t.iter p f=dB f)(c:Y ſ v s (ee t.iter p) (λg as=>Y ſ v s (ol g) (λbE ar=>∃an,bE=.ref an/\∀av aP cv,KW ar cv av aP->(∀A:aF->au->Prop,A (.ref an) cv->Y ſ v s (ol<|.ref an) A cv)/\em ſ v s (.compLoop (.ListComp dT (t::b5) a2 ax) 0 (.ref an) (.ref av)<|l9 a2 me aP p) (λu=>zA ſ v s oF A (.ref av) aP) cv) as) b):Y ſ v s (wv (.ListComp dT (t::b5) a2 ax) a2 p (Bp (t::b5) ax) (Bq []) (yH<|t::b5) (Br (t::b5) p) oF) A b:=by obtain⟨Cu,Á,ii,Â⟩:=t;obtain rfl:Â=0:=aM;have aS:yH (⟨Cu,Á,ii,0⟩::b5)=be:=V;rw[aaq V G no.1 no.2 no.4<|Y.mono c λg as bw=>Y.mono bw λbE ar bO=>d8 ?_];intro eg;rw[d8 ?_];intro eg;obtain⟨an,rfl,bO⟩:=bO;rw[Y.of<|jE<|Y.of<|IG no.3 (by intro B a8;simp at a8) (λbw SK F4=>?_) no.2];generalize K0:ar.heap.push {cls:=.type "list",dict:=aX,data:=.seq ([]:List aF).toArray}=K1 at SK F4⊢;have eI:Ų (ű K1)=Ų (ű (Q7 ar))+1:=bL K0<|U (f' ..) V;have qb:Ų (ű (Q7 ar))≠Ų (ű K1):=eI▸gQ (kN _);have rr:∀a k,Ű (Q7 ar) a=W k->Ű bw a=W k:=λa k i=>F4.extBut a k (eI▸gQ (k'<|dK i))<|eY _<|K0▸eY _ i;have ae:Ų (ű bw)=Ų (ű (Q7 ar))+2:=U F4.1<|U (f' ..)<|U eI V;have aa:KW ar {ar with heap:=bw,toks:=ar.toks+gu ([]:List<|Str×aF)} ar.heap.objs.size K1.objs.size:=⟨⟨_,F4.extBut _ _ qb<|eY _<|K0▸fu _ V⟩,SK,bK.heap (λa k u i=>rr a k i)<|ae▸hf _ _,⟨dr _,eI▸j2 _,qb⟩,⟨by show _<Ų (ű bw);rwa[U ae];rw[Nat.lt_add_of_pos_right bf],by show _<Ų (ű bw);rwa[U ae<|U eI];rw[kN _]⟩⟩;obtain⟨Ct,aw⟩:=bO _ _ _ aa;rw[KV V V Ct aw]
theorem b9.at{aJ:List bj}:∀{N:List aF}{j:Nat}{z:aF},b9 c r aJ N->N[j]?=W z->∃f,aJ[j]?=W f/\ck c r f z:=by induction aJ with|nil=>intro fl eM hq q i;subst q;rw[dN i]|cons B aJ a3=>intro fl rp;cases rp with|zero=>intro z q i;rw[d7 q λg aV cB dY eN=>?_];obtain rfl:=cB;cases i;rw[(dj B V dY)]|succ j=>intro z q i;rw[d7 q λg aV eh dY eN=>?_];obtain rfl:=eh;rw[a3 eN (by simpa using i)]
def zB(r:List aE)(h x:Int)(o:Nat):au->aF->Prop:=λb g=>∃q a D aG z,g=.ref q/\q∉r/\tr b.heap q h a x D aG z/\wJ h a x=ag/\tH h a x=o
theorem F5(o:Nat):tH 0 o 1=o:=by rwa[U (rangeSize_one ..)];split<;>(first|rw[Int.sub_zero _]|lia)
theorem SL{i:bJ}{d' ax:Pos}{o:Nat}(cl:jL a_ aD r M)(aI:pl M p "range"<|.type "range")(G:dS i=ag)(c:dk ſ v s a_ aD p M i<|hC o)(ak:o<2^62):dk ſ v s a_ aD p M (.Call (.Name "range" d') [i] [] ax) (zB r 0 1 o):=lj cl aI V (hZ G cl c (iL _) jo) (by intro b aV aO t9 A aj;obtain⟨g,q,rfl,⟨D,rfl⟩,rfl⟩:=t9;rw[Y.of<|EQ<|aj _ _ (bK.new _ _ b _ _) ⟨_,o,_,_,_,V,λe=>ia _<|cl.2 _ aO _ e,FE ..,ER (gP _) (gP _) (gP _)<|bM (.b2 (.c .x)<|.n 4611686018427387904) [.t .x<|.n 4611686018427387904] Z ak,F5 o⟩]) (by simp[G])
theorem sA(j:Int)(c:-(2^62)<=j)(X:j<2^62):tI j=ag:=by unfold tI;rw[U (ir ..)<|U decide_eq_true_eq<|U decide_eq_true_eq<|⟨nT (.cN (.g<|.n 9223372036854775808) .x) [.cN (.g<|.n 4611686018427387904) .x] Z c,nT (.b2 .x<|.n 9223372036854775808) [.b2 .x<|.n 4611686018427387904] Z X⟩]
theorem aat(cl:jL a_ aD r M)(bw:dk ſ v s a_ aD p M e8<|pj r<|.tup aJ)(bO:dk ſ v s a_ aD p M gX<|hC m)(aM:0<=m)(R:aJ[om m]?=W f)(ae:gu aJ<=cy)(T:oD gX=ag:=by rfl):dk ſ v s a_ aD p M (.Subscript e8 gX ax) (pj r f):=t4 cl bw (cl.is _) bO λb g x G aA bl=>by
 rw[mb aA λh N o fd aS aI ap=>U fd<|c1 bl λD gT=>U gT ?_];have aw:IsTup b.heap h N:=⟨_,aI,V,o,V⟩;rw[bt (ap.get R) λz aQ KO=>?_];have cG:=(j4.mp R).1;have cp:N.size=gu aJ:=by simpa using ap.length
 have dy:cy=2^24:=V;have Ã:EJ m N.size=W (om m):=by unfold EJ;have i:(if m<0 then m+(N.size)else m)=m:=if_neg (by rw[nT (.qR .x<|.n 0) [.cN (.n 0) .x] Z aM]);rwa[U (i ..)];rw[if_pos,];rw[U (ir ..)<|U decide_eq_true_eq<|U decide_eq_true_eq<|⟨aM,(Int.toNat_lt aM).mp<|U cp cG⟩]
 rw[hi.now (λA aY=>vc aw.typeIs PySem.F.slot_tuple_getitem.lookup (PyProof.Rows.getItem_tuple aw (by rw[nT (.cN (.g<|.n 9223372036854775808) .x) [.cN (.n 0) .x] Z aM]) (vl (.b2 .x<|.n 9223372036854775808) [.l .x .y,.t .z .x,.e .y<|.n 16777216,.cN .x<|.c .z] Z ae cG dy<|mK _) Ã (by simpa using aQ) aY)<|Cp T _ _) KO]
theorem IntsAre.mem(c:wH N aq)(aQ:z∈N):∃o D,z=.int o D:=by induction c with|nil=>rw[db aQ]|cons o D _ aW=>
  rcases fT.mp aQ with rfl|aQ
  .rw[(kR o D V)]
  .rw[aW aQ]
noncomputable def isInt(m:Int):aF->Bool|.int o cR=>o==m|_=>be
theorem IntsAre.any(c:wH N aq)(m:Int):N.any (isInt m)=aq.any (·==m):=by induction c with|nil=>rfl|cons o D _ aW=>rwa[U (List.any_cons ..)<|U (aW ..)];rfl
theorem aau{E q:bJ}{ax:Pos}{aq:List Int}{m:Int}(cl:jL a_ aD r M)(bw:dk ſ v s a_ aD p M E<|hC m)(bO:dk ſ v s a_ aD p M q<|pj r<|.tup<|aq.map bj.int)(bk:EM [.In] [q] (Bm [q] p)=[ee q p]:=by rfl):Ck ſ v s a_ aD p M (.Compare E [.In] [q] ax) (aq.any (·==m)):=vo cl bw (iL m) bO (λb g x G aA bl=>(by rw[mb bl λh N o jp aS aI ap=>U jp<|c1 aA λD j'=>U j' ?_];have T:=b9.ints.mp ap;rw[(IntsAre.any T m)▸hi.now (λA aY=>SeqAt.in_tupleAt (isInt m) ⟨_,aI,V,o,V⟩ (λB a8=>kP (IntsAre.mem T (by simpa using a8)) λS aG kW=>?_)<|Array.any_toList▸aY) V];rwa[U kW];rw[(YO S m aG D).at _ _])) bk
theorem aav(c:pl M p f z)(ap:∀b,M b->ck b.heap r Cv z)(cl:jL a_ aD r M)(bl:(f==("__debug__":Str))=be:=by decide):dk ſ v s a_ aD p M (.Name f ax) (pj r Cv):=λb A G aj=>sz c bl b A G λg w t i=>aj g w t<|i▸ap w (cl.1 _ _ G t)
section
variable{p:Env}
inductive zC:List bJ->List Str->Prop|nil:zC [] []|cons{f:Str}{ax:Pos}{az:List bJ}{aJ:List Str}:zC az aJ->zC (.Name f ax::az) (f::aJ)
theorem aaw{az:List bJ}{aJ:List Str}(ak:zC az aJ):(ww az p).findIdx? (·.1)=aX/\gu (ww az p)=gu aJ:=by induction ak with|nil=>rw[⟨V,V⟩]|cons _ aW=>rw[c0 aW λaf am=>⟨List.findIdx?_cons.trans ((if_neg wn).trans (congrArg (Option.map (·+1)) af)),congrArg (·+1) am⟩]
end
section
variable{ſ:cM}{v:cU}{s:cq}{p:Env}{b:au}{K:gO->au->Prop}
theorem aax{D:bJ}{eC:List fa}{ax:Pos}{b0:List fa}(ai:Nat->au->Prop)(nV:∀o b,ai o b->Y ſ v s (isTrue D p<|ee D p) (λa w=>(a=ag/\Y ſ v s (d3 eC p) (λJ d_=>(J=.next\/J=.cont)/\∃S,S<o/\ai S d_) w)\/(a=be/\Y ſ v s (d3 b0 p) K w)) b)(o:Nat)(c:ai o b):Y ſ v s (d3 (.While D eC [] ax::b0) p) K b:=by
 rw[zz<|Y.eq (exec_While ..)<|dH<|Y.runOwn<|em.loop V V ai ?_ o c];intro o b d9;rw[d8 ?_];intro eg;rw[FT ?_];intro Ku;rw[Y.onRaise<|hy (nV o b d9) λa as l=>?_];rcases l with⟨rfl,l⟩|⟨rfl,l⟩
 .rw[hy l λJ ar bi=>c0 bi λbN cB=>bt cB λS bk cu=>?_];obtain rfl|rfl:=bN
  .rw[Y.pure<|.inl ⟨V,(dj S bk cu)⟩]
  .rw[Y.pure<|.inl ⟨V,(dj S bk cu)⟩]
 .rw[Y.eq (U (if_neg bf)<|U (wt ..) V) ?_];rw[ev<|Y.pure ⟨V,l⟩]
theorem SN{cn iK:bJ}{eC:List fa}{ax:Pos}{b0:List fa}(G:∀f,sb iK p f=dB f)(c:Y ſ v s (ee iK p) (λg as=>Y ſ v s (ol g) (λbE ar=>∃an,bE=.ref an/\em ſ v s (.forLoop cn (.ref an) eC [] p) (λJ w=>(J=.next/\Y ſ v s (d3 b0 p) K w)\/(∃z,J=.ret z/\K J w)) ar) as) b):Y ſ v s (d3 (.For cn iK eC [] ax::b0) p) K b:=by
 rwa[Y.bind<|Y.eq (exec_For ..)];rw[d8 ?_];intro eg;rw[dH<|hy c λg as bw=>?_];rw[Y.eq (U (G ..) V)<|ev ?_];rw[dH<|dR<|Y.mono bw λbE ar bO=>?_];obtain⟨an,rfl,bO⟩:=bO;rw[Y.runOwn<|em.mono bO λJ w bi=>?_];rcases bi with⟨rfl,bi⟩|⟨z,rfl,bi⟩
 .rw[bi]
 .rw[Y.pure bi]
end
section
variable{ſ:cM}{v:cU}{s:cq}{p:Env}{b:au}{K:gO->au->Prop}
theorem SP{az:List bJ}:az.all dS=ag->(kp ax<|j1 az p).all (!·.1)=ag:=by induction az with
 |nil=>
  intro fl
  cbv|cons i az a3=>intro c;rw[on,ir]at c;rw[U (kV c.1) ((U (a3 c.2) ?_):(!be&&(kp ax<|j1 az p).all (!·.1))=ag)];rfl
theorem vq(ak:az.all dS=ag)(cp:gu az<20)(mP:uZ k attr p (ee k p)=ee k p)(iM:(qc.endLine==ax.line)=ag)(c:Y ſ v s (ee k p) (λiy as=>Y ſ v s (ES ag k p iy attr) (λbQ ar=>Y ſ v s (qV ax bQ.1 bQ.2 (kp ax<|j1 az p) []) A ar) as) b):Y ſ v s (ee (.Call (.Attribute k attr qc) az [] ax) p) A b:=by
 rw[Y.eq (U (arm_eval_Call ..)<|U mP V)<|hy c λiy as bw=>dH ?_];have K2:ET (gu az+gu ([]:List Keyword)) (kp ax<|j1 az p) (backToKw ax<|keywordEach [] p)=ag:=by unfold ET;rw[U (SP ak)<|(?_:(ag&&ag&&decide (gu az+0+0<30))=ag)];simp;rw[bM (.t .x<|.n 30) [.t .x<|.n 20] Z cp]
 unfold methodCall;rw[Fm K2▸dR (Y.mono bw λbQ ar bO=>?_)];have K3:EU ag k p qc ax=dB ax:=by unfold EU;simp[iM]
 obtain⟨J,lN⟩:=bQ;rw[Y.bind<|Y.eq K3<|Y.pure<|Y.eq (V) bO]
theorem aay(cl:jL a_ aD r M)(aL:dk ſ v s a_ aD p M k<|λu g=>g=.ref h)(aw:∀b,M b->b.heap.PlainList h N)(bq:dk ſ v s a_ aD p M i al)(d4:N.size<=cy)(ak:dS i=ag)(mP:uZ k "append" p (ee k p)=ee k p)(iM:(qc.endLine==ax.line)=ag)(n:M b)(c:∀g as ar,bb a_ aD b as->M as->al as g->ar.heap.PlainList h (N.push g)->bb [h] [] as ar->A .none ar):Y ſ v s (ee (.Call (.Attribute k "append" qc) [i] [] ax) p) A b:=by
 rw[vq (by simp[ak]) (by show 1<20;decide) mP iM<|aL b _ n λg as aK aA=>U aA ?_];have dd:=cl.1 _ _ n aK;rw[c1 (aw as dd) λm aT=>Y.of<|Calls.getMethod_list_append aT V V<|zx (a_:=a_) (aD:=aD) (al:=λb aV=>∃g q,aV=g::q/\al b g/\q=[]) V (by simp[ak]) ?_ dd ?_]
 .intro b A ax aO aj;rw[Y.eq (U (kV ak)<|V) ((Y.eq (V)<|Y.bind<|bq b _ aO λg as aK cW=>gR bf<|ev<|dR<|Y.pure<|Y.pure<|aj _ _ aK<|ie g [] V cW V):Y ſ v s (pT [(be,ee i p)]) A b)]
 .rintro aV ar a7 dt;rw[d7 dt λg q eh aA fd=>U eh ?_];obtain rfl:=fd;have dD:=cl.1 _ _ dd a7;rw[Y.of<|II (aw ar dD) (λX lk dy=>c g ar _ (aK.trans a7) dD aA lk<|bK.same dy) d4]
theorem K4{i:bJ}{ax:Pos}{b0:List fa}(aT:p.scope.kind=.function)(ak:t7 i=ag)(c:Y ſ v s (ee i p) (λg w=>g=.none/\Y ſ v s (d3 b0 p) K w) b):Y ſ v s (d3 (.Expr i ax::b0) p) K b:=by
 rw[zz ?_];have T:yI p=be:=by unfold yI;rwa[U aT];rfl
 rw[Fm (IJ (hi:=T) (hs:=t8 ak))▸dH (hy c ?_)];rintro g w⟨rfl,X⟩;have np:EV i ax .none=dB .next:=by unfold EV;cases i<;>rfl
 rw[Fm np▸Y.pure ⟨V,X⟩]
end
set_option backward.match.sparseCases true in theorem K5(c:Y ſ v (s.deeper p) (d3 eC p) (λJ w=>ca (.ret<|match J with|.ret z=>z|_=>.none) w) b):em ſ v s (.func eC p) ca b:=by rwa[em.my V];show Y ſ v (s.deeper p) (do point;match<-(d3 eC p).onRaise (leaving p)with|.ret z=>ret z|_=>ret .none) _ b;rw[dC<|pS<|Y.bind<|Y.onRaise<|Y.mono c λJ w X=>?_];cases J<;>rw[Y.pure X]
theorem F6(gI:s.depth<f6)(aL:b.heap.get? h=W k)(jN:k.data=.func bp)(zD:bp.scope.isCoroutine=be)(oG:bp.scope.isGenerator=be)(jP:bp.body=.stmts eC)(sB:b.heap.CodeRec bp.code bp.qualname)(c:Y ſ v s.in1 (bindArgs bp gF) (λjQ as=>Y ſ v s.in1 (Bn bp.scope bp.globals bp.closure jQ (bp.qualname++".<locals>.") (W h) bp.code aX bp.builtins) (λp ar=>ar.heap.NoLimit/\em ſ v s (.func eC p) ca ar) as) b):em ſ v s (.call (.ref h) gF) ca b:=by rw[em.my V<|dC<|Bf aL<|YZ sB λg K6 N SQ aA Ä Å aY=>?_];simp only[jN,callFunction,zD,oG,jP,aA];rw[aA]at c;rw[Y.bind (S:=field (.ref g) 1)<|Y.of<|wpAny_field Ä Å aY<|ev<|hy c λjQ as bw=>hy bw λp ar bO=>dC<|wpAny_enterFrame bO.1 gI<|Y.pure ⟨V,bO.2⟩]
noncomputable def zE:List (Str×aF)->List bj->List (Str×bj)->List (Str×bj)|(f,cR)::a6,z::N,g6=>zE a6 N<|(f,z)::g6|cR,e3,g6=>g6
theorem aaz(cC:∀h∈cc p,h∈r)(h1:t0 (cc p) [] bo){jQ:List<|Str×aF}:∀{N:List bj}{g6:List<|Str×bj}{b:au},(∀n∈jQ,Cq p n.1)->pk p r g6 bo b->b9 b.heap r N (jQ.map (·.2))->(∀w,bb (cc p) [] b w->pk p r (zE jQ N g6) bo w->A () w)->Y ſ v s (forIn jQ () λn u=>do ws p n.1 n.2;dB<|so ()) A b:=by induction jQ with
 |nil=>intro N g6 b aL n ap c;rwa[Y.pure<|c b (bK.refl ..)];cases N with
  |nil=>rw[n]|cons z N=>rw[fW ap λg aV i u=>?_];cases i
 |cons t_ a6 aW=>intro N g6 b aL n ap c;obtain⟨f,g⟩:=t_;rwa[ds (@ForIn.forIn _ _ _ _ _ _ _ _)];intro dx;cases N with|nil=>cases ap|cons z N=>rw[g4 λu bW=>d7 ap λbm aV i dY eN=>?_];cases i;rw[bW<|Y.eq (u8 ..)<|Y.bind<|Y.bind<|aap cC h1 n dY (aL _ bB) λas aK dd=>Y.pure<|aW (λe aY=>aL e<|mt aY) dd (b9.to (λa k l i=>⟨aK.1 a k (λe=>l<|cC a e) i,l⟩) _ _ eN) λar a7 dD=>c ar (aK.trans a7) dD]
theorem K7(eH:List<|Str×sc):∀(o:Nat)(ch:List<|Str×aE)(f:Str),((ch.lookup f).isSome=ag\/eH.lookup f=W .cell)->((cellsFrom o eH ch).lookup f).isSome=ag:=by induction eH with
 |nil=>
  intro o ch f c;rcases c with c|c
  .rw[c]
  .rw[dN c]|cons h2 q a3=>
  obtain⟨B,m⟩:=h2;intro o ch f c;unfold cellsFrom;split
  .rename_i aT;rwa[a3 (o+1) _ f<|U tA];cases l:f==B with
   |true=>rw[.inl V]|false=>
    rcases c with c|c
    .rw[.inl c]
    .rw[tA,l]at c;rw[.inr c]
  .rename_i aT;rwa[a3 o ch f];rcases c with c|c
   .rw[.inl c]
   .rw[tA]at c;cases l:f==B with|true=>replace c:=l▸c;cases c;simp at aT|false=>replace c:=l▸c;rw[.inr c]
theorem aaA(eH:List<|Str×sc):∀(c:e1),Ų (ű c)<=(pushCells c eH).objs.size:=by induction eH with
 |nil=>intro c;rw[dr _]|cons h2 q a3=>
  obtain⟨cR,m⟩:=h2;intro c;unfold pushCells;split
  .rw[a5 (by rwa[U (f' ..)];rw[j2 _])<|a3 _]
  .rw[a3 c]
noncomputable abbrev rs(a2:dA)(cw pn:aE)(po:Str)(pp:Option aE)(code:aF)(pq:aE):Env:=newEnv a2 cw pn (cellsFrom (cw+1) a2.names []) po pp code aX pq
theorem SU{a2:dA}{pn:aE}{jQ:List<|Str×aF}{po:Str}{pp:Option aE}{code:aF}{pq:aE}{N:List bj}{A:Env->au->Prop}(aT:a2.kind=.function)(bi:∀f∈a2.names,f.2≠.free)(aL:∀n∈jQ,Cq (rs a2 b.heap.objs.size pn po pp code pq) n.1)(ap:b9 b.heap r N (jQ.map (·.2)))(cC:∀f∈r,f<b.heap.objs.size)(c:∀w,(∀h∈cc<|rs a2 b.heap.objs.size pn po pp code pq,b.heap.objs.size<=h)->pk (rs a2 b.heap.objs.size pn po pp code pq) (cc (rs a2 b.heap.objs.size pn po pp code pq)++r) (zE jQ N []) (bK [] b) w->A (rs a2 b.heap.objs.size pn po pp code pq) w):Y ſ v s (Bn a2 pn [] jQ po pp code aX pq) A b:=by
 unfold Bn;rw[ph ?_];intro p6;rw[dC<|Bt<|dC<|wpAny_layCells _ (λname SV akl=>by rfl) a2.names [] _ _ ?_];rwa[U (f' ..)];generalize jK:pushCells (b.heap.push {cls:=.type<|if(aX:Option Env).isSome then"dict"else"frame",data:=.dict #[]}) a2.names=cf;change Y ſ v s (do
  forIn jQ tJ λf u=>do ws (rs a2 b.heap.objs.size pn po pp code pq) f.1 f.2;dB<|so tJ
  dB<|rs a2 b.heap.objs.size pn po pp code pq) A {b with heap:=cf};have rm:∀a k,b.heap.get? a=W k->Ű cf a=W k:=λa k i=>jK▸pushCells_keeps _ _ a k (eY _ i);have gJ:b.heap.objs.size+1<=Ų (ű cf):=by rw[<-jK,<-f'];rw[aaA _ _]
 have jO:CellsOk cf (b.heap.objs.size+1) (cellsFrom (b.heap.objs.size+1) a2.names []):=by have:=cellsFrom_ok a2.names (b.heap.push {cls:=.type<|if(aX:Option Env).isSome then"dict"else"frame",data:=.dict #[]}) (b.heap.objs.size+1) [] ⟨λu u c=>(db c),Rd⟩ (by rwa[U (f' ..)];rw[dr _]);rw[f',jK]at this;rw[this]
 have lO:cf.Ns b.heap.objs.size (λu=>aX):=by have:(b.heap.push {cls:=.type<|if(aX:Option Env).isSome then"dict"else"frame",data:=.dict #[]}).Ns b.heap.objs.size (λu=>aX):=Heap.Ns.new ..;rw[jK▸this.keeps λa k i=>pushCells_keeps _ _ a k i]
 have t:bK [] b {b with heap:=cf}:=bK.heap (λa k u i=>rm a k i)<|Jf gJ;have t':∀h∈cc<|rs a2 b.heap.objs.size pn po pp code pq,b.heap.objs.size<=h/\h<Ų (ű cf):=by
  intro h aS
  revert h;rwa[hg ?_]
  .rw[⟨dr _,gJ⟩]
  .intro h aS;rw[mL aS λn aO bN=>bL bN<|c0 (jO.empty n.1 n.2 aO) λaA qd=>⟨Jf qd,aA.lt⟩]
 have g7:pk (rs a2 b.heap.objs.size pn po pp code pq) (cc (rs a2 b.heap.objs.size pn po pp code pq)++r) [] (bK [] b) {b with heap:=cf}:=by
  rw[⟨λf R=>?_,(dj (λu=>aX) ⟨aT,(dj _ lO λu u=>V),λf R=>?_⟩ λf z R=>nomatch R),t⟩]
  .rw[bS R (λR=>(t' f R).2) λR=>cg (cC f R)<|Jf gJ]
  .rcases R with R|R
   .rw[c1 (IY.mp<|K7 a2.names (b.heap.objs.size+1) [] f<|.inr R) λh aS=>(dj h aS (jO.empty f h<|IK aS).1)]
   .rw[absurd V<|bi _<|IK R]
 rw[Y.bind<|aaz (λh aS=>b7 aS) ?_ aL g7 ?_ λw cd bs=>Y.pure<|c w (λh aS=>(t' h aS).1) bs]
 .intro D fp bC vr;rw[bC.hj vr (λa l=>.inr<|fY (t' a l).1) aR]
 .rw[b9.to (λa k l i=>⟨rm a k i,λe=>bS e (λe=>ia _<|cg (dK i) (t' a e).1) l⟩) _ _ ap]
theorem zF(ak:az.all dS=ag)(cp:gu az<20)(c:nk ſ v s a_ aD p M az al)(G:M b)(bi:∀b,M b->b.heap.get? h=W k)(bl:k.data=.func bp)(cl:t0 a_ aD M)(aA:∀aV w,bb a_ aD b w->al w aV->Y ſ v s (eS (.ref h) (lN++aV) []) A w):Y ſ v s (qV ax (.ref h) lN (kp Cn<|j1 az p) []) A b:=by
 unfold qV;rw[ph ?_];intro p6;rw[dR<|zw ak c G λaV as aK cW=>dH<|U (zv ak ..)<|U (y4 ..)<|U (tk ..) ?_];have aT:Y ſ v s (tp<|.ref h) (λm w=>m=.frame/\w=as) as:=by unfold tp;rw[dC<|Bf (bi as<|cl _ _ G aK)<|Fm bl▸Y.pure ⟨V,V⟩]
 rw[hy aT<|su ?_];have Cw:∀q ar,A q ar->Y ſ v s (do holding [q] point;dB q) A ar:=λq ar ap=>dC<|kK<|pS<|Y.pure ap
 dsimp only;split
 .rw[hy (aA aV _ aK cW) λq ar ap=>Cw q ar ap]
 .rw[Y.bind<|Y.keep<|Y.mono (aA aV _ aK cW) λq ar ap=>Cw q ar ap]
theorem aaB(cl:jL a_ aD r M)(aI:pl M p f<|.ref h)(bi:∀b,M b->b.heap.get? h=W k)(bl:k.data=.func bp)(c:nk ſ v s a_ aD p M az al)(aA:∀b aV,M b->al b aV->hi ſ v s a_ aD (eS (.ref h) aV []) di b)(cp:gu az<20)(ak:az.all dS=ag:=by rfl)(Æ:(f==("__debug__":Str))=be:=by decide):dk ſ v s a_ aD p M (.Call (.Name f Sz) az [] ax) di:=λb A G aj=>by .rw[Y.bind<|sz (a_:=a_) (aD:=aD) aI Æ b _ G λg as aK cW=>?_];subst cW;rw[Y.eq (U (EW ..) V)<|zF (lN:=[]) ak cp c (cl.1 _ _ G aK) bi bl cl.1 λaV ar a7 fi=>aA ar aV (cl.1 _ _ G<|aK.trans a7) fi _ λq co b4 jM=>aj q co ((aK.trans a7).trans b4) jM]
abbrev c5(bp:yJ)(h:aE)(b:au):Env:=rs bp.scope (aB b) bp.globals (bp.qualname++".<locals>.") (W h) bp.code bp.builtins
inductive FnAt(b:au)(h:aE)(bp:yJ)(eC:List fa):Prop|mk(f2:∃k,b.heap.get? h=W k/\k.data=.func bp)(f3:bp.scope.isCoroutine=be)(gw:bp.scope.isGenerator=be)(j_:bp.body=.stmts eC)(lL:b.heap.CodeRec bp.code bp.qualname)(oA:bp.scope.kind=.function)(w5:∀f∈bp.scope.names,f.2≠.free)(F7:bp.closure=[])(K8:b.heap.NoLimit):FnAt b h bp eC
theorem aaC(gI:s.depth<f6)(bi:FnAt b h bp eC)(l:sd b bp ⟨aV,[]⟩ jQ)(aL:∀n∈jQ,Cq (c5 bp h b) n.1)(ap:b9 b.heap r N (jQ.map (·.2)))(cC:∀f∈r,f<(aB b))(c:∀w,(∀a∈cc<|c5 bp h b,(aB b)<=a)->pk (c5 bp h b) (cc (c5 bp h b)++r) (zE jQ N []) (bK [] b) w->Y ſ v (s.deeper<|c5 bp h b) (d3 eC<|c5 bp h b) (λJ d_=>∃z,J=.ret z/\A z d_) w):Y ſ v s (eS (.ref h) aV []) A b:=by
 rw[bt bi.1 λk iN bl=>Y.call<|F6 gI iN bl bi.2 bi.3 bi.4 bi.5<|Y.of<|l _ _ _ _<|Fm bi.8▸SU bi.6 bi.7 aL ap cC λw dZ bs=>⟨?_,K5 ?_⟩]
 .rw[bi.9.keeps λa k i=>bs.3.1 a k (λc=>nomatch c) i]
 .rw[Y.mono (c w dZ bs) ?_];rintro J d_ bN;rw[bt bN λz cB aY=>?_];obtain rfl:=cB;rw[(dj z V aY)]
structure ea where
 prog:cM
 w:cU
 s0:au
 tabs:List aE
 mg:Str->Option aF
 mb:Str->Option aF
def aaD(tabs:List aE)(b w:au):Prop:=∀B∈tabs,∀k N,b.heap.get? B=W k->k.cls=.none->k.data=.fields N->∃eB,Ű (Q7 w) B=W {k with data:=.fields<|N++eB}
inductive gU(g:ea)(b:au):Prop|mk(f2:bb g.tabs [] g.s0 b)(f3:aaD g.tabs g.s0 b):gU g b
theorem gU.toG(a:gU g b)(t:bb cL aD b w)(dz:∀C∈cL,Ų (ű (Q7 g.s0))<=C)(lP:∀j∈aD,g.s0.gens.size<=j):gU g w:=by rw[⟨a.1.hj t (λB a8=>.inr<|fY<|dz B a8)<|λj T=>.inr<|sy<|lP j T,λB a8 k N bH cm eO=>c1 (a.2 B a8 k N bH cm eO) λeB i=>⟨eB,t.1 _ _ (λe=>b2 (dK bH)<|dz B e) i⟩⟩]
theorem gU.to(a:gU g b)(t:bb cL [] b w)(dz:∀C∈cL,(aB g.s0)<=C):gU g w:=a.toG t dz aR
inductive ea.Ok(g:ea):Prop|mk(f2:g.s0.heap.Ns 3 g.mg)(f3:g.s0.heap.Ns 0 g.mb)(gw:∀b,gU g b->b.heap.NoLimit)(j_:3∉g.tabs)(lL:0∉g.tabs)(oA:∀D∈g.tabs,D<(aB g.s0)):ea.Ok g
set_option genCtorIdx true in inductive Slot where|f(z:bj)|o(z:bj)|b(z:bj)
def Slot.loose:Slot->Prop|.f cR=>False|_=>True
noncomputable abbrev b_:=List<|Str×Slot
inductive fm:b_->Str->Slot->Prop|here{y:b_}{f:Str}{z:Slot}:fm ((f,z)::y) f z|there{y:b_}{f B:Str}{z aG:Slot}:(B==f)=be->fm y f z->fm ((B,aG)::y) f z
def iO(c:e1)(r:List aE)(h:aE):bj->Prop|.lst aJ=>∃N o,Ű c h=W {cls:=.type "list",data:=.seq N o}/\b9 c r aJ N.toList|.oH a=>Ű c h=W (c9 a)|_=>False
def Cx(c:e1)(r:List aE)(z:bj)(g:aF):Prop:=∃h,g=.ref h/\iO c r h z
def lQ(c:e1)(r:List aE):Slot->aF->Prop|.f z,g=>ck c r z g|.o z,g=>Cx c r z g|.b z,g=>Cx c r z g
theorem iO.to(m:∀(a:aE)(k:Obj),a∉r->Ű c a=W k->Ű X a=W k/\a∉a_)(aS:∀k,Ű c h=W k->Ű X h=W k)(q:iO c r h z):iO X a_ h z:=by
 cases z<;>try rw[q.elim]
 .rw[fW q λN o i q=>⟨N,o,aS _ i,b9.to m _ _ q⟩]
 .rw[aS _ q]
theorem iO.lt(q:iO c r h z):h<Ų (ű c):=by
 cases z<;>try rw[q.elim]
 .rw[fW q λN o i q=>dK i]
 .rw[dK q]
theorem iO.rep(q:iO c r h z)(aS:h∉r):ck c r z (.ref h):=by
 cases z<;>try rw[q.elim]
 .rw[fW q λN o i q=>(p0 h N o V aS i q)]
 .rw[(sq h V aS q)]
inductive cx(g:ea)(p:Env)(r L ay:List aE)(aa:Nat):Prop|mk(f2:p.scope.kind=.function)(f3:p.globals=3)(gw:p.builtins=0)(j_:∀h∈cc p,h∈r/\(aB g.s0)<=h/\h∉L/\h∉ay)(lL:∀h∈L,h∈r/\(aB g.s0)<=h/\h∉ay)(oA:∀h∈ay,h∈r)(w5:∀h∈g.tabs,h∈ay)(F7:∀h∈r,h<aa)(K8:∀h∈r,h∈g.tabs\/(aB g.s0)<=h)(SX:∀f B h a,p.cells.lookup f=W h->p.cells.lookup B=W a->f≠B->h≠a):cx g p r L ay aa
inductive bG(g:ea)(p:Env)(r L:List aE)(aa:Nat)(y:b_)(b:au):Prop|mk(f2:aa<=(aB b))(f3:gU g b)(gw:∃cS,p_ p b.heap cS/\(∀f bz,fm y f bz->∃z,cS f=W z/\lQ b.heap r bz z)/\(∀f z,fm y f (.o z)->∃h∈L,cS f=W (.ref h)/\∀B aG,B≠f->fm y B (.o aG)->cS B≠W (.ref h))/\(∀f z,fm y f (.b z)->∃h,cS f=W (.ref h)/\h∉L/\h∉cc p)):bG g p r L aa y b
theorem lQ.keep(m:∀(a:aE)(k:Obj),Ű c a=W k->Ű X a=W k)(q:lQ c r bz z):lQ X r bz z:=by cases bz with|f aG=>rw[ck.to (λa k l i=>⟨m a k i,l⟩) _ _ q]|o aG=>rw[bt q λh i q=>?_];rw[⟨h,i,q.to (λa k l i=>⟨m a k i,l⟩)<|λk i=>m _ k i⟩]|b aG=>rw[bt q λh i q=>?_];rw[⟨h,i,q.to (λa k l i=>⟨m a k i,l⟩)<|λk i=>m _ k i⟩]
theorem bG.grow(n:bG g p r L aa y b)(t:bb [] [] b w):bG g p r L aa y w:=by have m:∀a k,b.heap.get? a=W k->Ű (Q7 w) a=W k:=λa k i=>t.1 a k (λc=>db c) i;rw[⟨a5 n.1 t.2,n.2.to t<|λC c=>db c,(jh n.3 λcS al af am a'=>⟨cS,al.keeps λa u k i=>m a k i,λf bz R=>bt (af f bz R) λz i q=>⟨z,i,q.keep m⟩,am,a'⟩)⟩]
theorem cx.ok(I:cx g p r L ay aa):jL [] [] r (bG g p r L aa y):=⟨λu u n t=>n.grow t,λb n f R=>cg (I.8 f R) n.1,aR⟩
set_option genCtorIdx true in inductive i6 where|fr|cH|ls deriving DecidableEq
def fB(aa:Nat)(r:List aE):i6->bj->au->aF->Prop|.fr,z=>λb g=>∃h,g=.ref h/\aa<=h/\iO b.heap (h::r) h z|.cH,z=>λb g=>ck b.heap r z g|.ls,z=>λb g=>Cx b.heap r z g
theorem fB.hV:nZ [] [] (fB aa r m z):=by intro b w g c t;have sC:∀a k,b.heap.get? a=W k->Ű (Q7 w) a=W k:=λa k i=>t.1 a k (λc=>db c) i;cases m with|fr=>rw[fK c λh i ak q=>?_];rw[⟨h,i,ak,q.to (λa k l i=>⟨sC a k i,l⟩) λk i=>sC _ k i⟩]|cH=>rw[ck.to (λa k l i=>⟨sC a k i,l⟩) _ _ c]|ls=>rw[bt c λh i q=>?_];rw[⟨h,i,q.to (λa k l i=>⟨sC a k i,l⟩) λk i=>sC _ k i⟩]
theorem iO.sub(q:iO c r h z)(G:∀B∈a_,B∈r):iO c a_ h z:=q.to (λa k l i=>⟨i,λe=>l<|G a e⟩) λk i=>i
theorem fB.iw(c:fB aa r m (.lst aJ) b g):IsL r aJ b g:=by cases m with|fr=>rw[fK c λh i ak q=>?_];rw[fW (q.sub λB a8=>mt a8) λN o cP gG=>⟨h,N,o,i,cP,gG⟩]|cH=>rw[ck.iw c]|ls=>rw[bt c λh i cB=>?_];rw[fW cB λN o cP gG=>⟨h,N,o,i,cP,gG⟩]
theorem fB.cH(cC:∀h∈r,h<aa)(c:fB aa r m z b g)(aT:m≠.ls):ck b.heap r z g:=by cases m with|fr=>rw[fK c λh bN ak q=>?_];rw[U bN<|(q.sub λB a8=>mt a8).rep λe=>b2 (cC h e) ak]|cH=>rw[c]|ls=>rw[absurd V aT]
inductive eW(x:Nat)(s:cq):Prop|mk(f2:s.handled=aX)(f3:s.depth+x<=900)(gw:s.units+4*x<=5000):eW x s
def ai(g:ea)(x:Nat)(O:dA)(y:b_)(i:bJ)(m:i6)(z:bj):Prop:=∀(s:cq)(p:Env)(r L ay:List aE)(aa:Nat),eW x s->p.scope=O->cx g p r L ay aa->dk g.prog g.w s [] [] p (bG g p r L aa y) i (fB aa r m z)
def ei(g:ea)(x:Nat)(O:dA)(y:b_)(i:bJ)(a:Bool):Prop:=∀(s:cq)(p:Env)(r L ay:List aE)(aa:Nat),eW x s->p.scope=O->cx g p r L ay aa->Ck g.prog g.w s [] [] p (bG g p r L aa y) i a
theorem ai.hA(c:ai g x O y i m z)(aT:m≠.ls:=by decide):ai g x O y i .cH z:=λs p r L ay aa ao G I=>(c s p r L ay aa ao G I).to λb g aQ=>aQ.cH I.8 aT
section
abbrev cI(g:ea)(x:Nat)(O:dA)(y:b_)(i:bJ)(h:Int):Prop:=ai g x O y i .cH<|.int h
theorem mQ(c:∀(s:cq)(p:Env)(r L ay:List aE)(aa:Nat),eW x s->p.scope=O->cx g p r L ay aa->dk g.prog g.w s [] [] p (bG g p r L aa y) i (hC h)):cI g x O y i h:=λs p r L ay aa ao G I=>(c s p r L ay aa ao G I).to λb g c=>c
theorem eP(c:cI g x O y i h)(ao:eW x s)(G:p.scope=O)(I:cx g p r L ay aa):dk g.prog g.w s [] [] p (bG g p r L aa y) i (hC h):=(c s p r L ay aa ao G I).to λb g c=>c
namespace ai
theorem dv:cI g x O y (.Constant (.int j) o ax) j:=mQ λu u u u u u u u u=>KJ
theorem Yx:ai g x O y (.Constant .none o ax) .cH .none:=λu u u u u u u u u=>Sx.to λb g c=>c
theorem neg(c:cI g x O y f h):cI g x O y (.UnaryOp .USub f ax) (-h):=mQ λu u u u u u ao G I=>aae<|eP c ao G I
section
variable(bw:cI g x O y E h)(bO:cI g x O y q a)
include bw bO
theorem add:cI g x O y (.BinOp E .Add q ax) (h+a):=mQ λu u u u u u ao G I=>(rn I.ok (eP bw ao G I) (iL h) (eP bO ao G I) (by rintro b _ _-⟨D,rfl⟩⟨aG,rfl⟩;rw[hi.tok (λA c=>Re c) ⟨_,V⟩]))
theorem sub:cI g x O y (.BinOp E .Sub q ax) (h-a):=mQ λu u u u u u ao G I=>(rn I.ok (eP bw ao G I) (iL h) (eP bO ao G I) (by rintro b _ _-⟨D,rfl⟩⟨aG,rfl⟩;rw[hi.tok (λA c=>Rf c) ⟨_,V⟩]))
theorem mul(bk:IntMulOk h a):cI g x O y (.BinOp E .Mult q ax) (h*a):=mQ λu u u u u u ao G I=>(rn I.ok (eP bw ao G I) (iL h) (eP bO ao G I) (by rintro b _ _-⟨D,rfl⟩⟨aG,rfl⟩;rw[hi.tok (λA c=>PySem.P.mul_int c bk) ⟨_,V⟩]))
theorem div(l:a≠0)(aO:BX h a=be):cI g x O y (.BinOp E .FloorDiv q ax) (h.fdiv a):=mQ λu u u u u u ao G I=>(rn I.ok (eP bw ao G I) (iL h) (eP bO ao G I) (by rintro b _ _-⟨D,rfl⟩⟨aG,rfl⟩;rw[hi.tok (λA c=>floordiv_int l c<|.inl aO) ⟨_,V⟩]))
theorem mod(l:a≠0):cI g x O y (.BinOp E .Mod q ax) (h.fmod a):=mQ λu u u u u u ao G I=>(rn I.ok (eP bw ao G I) (iL h) (eP bO ao G I) (by rintro b _ _-⟨D,rfl⟩⟨aG,rfl⟩;rw[hi.tok (λA c=>mod_int' l c) ⟨_,V⟩]))
theorem xor:cI g x O y (.BinOp E .BitXor q ax) (lc h a):=mQ λu u u u u u ao G I=>(rn I.ok (eP bw ao G I) (iL h) (eP bO ao G I) (by rintro b _ _-⟨D,rfl⟩⟨aG,rfl⟩;rw[hi.tok (λA c=>xor_int c) ⟨_,V⟩]))
theorem and:cI g x O y (.BinOp E .BitAnd q ax) (wF h a):=mQ λu u u u u u ao G I=>(rn I.ok (eP bw ao G I) (iL h) (eP bO ao G I) (by rintro b _ _-⟨D,rfl⟩⟨aG,rfl⟩;rw[hi.tok (λA c=>and_int c)<|ov _ V]))
theorem pow(l:0<=a)(ej:a<=1000000)(aS:h.natAbs<2^64):cI g x O y (.BinOp E .Pow q ax) (h^om a):=mQ λu u u u u u ao G I=>(rn I.ok (eP bw ao G I) (iL h) (eP bO ao G I) (by rintro b _ _-⟨D,rfl⟩⟨aG,rfl⟩;rw[hi.tok (λA c=>pow_int_small l ej aS c) ⟨_,V⟩]))
end
end ai
noncomputable def F8(O:dA)(f:Str):Bool:=O.names.lookup f==W .local||(O.names.lookup f==W .cell||O.names.lookup f==W .free)
theorem w6{k h a:Option sc}(c:(k==h||k==a)=ag):k=h\/k=a:=(Px.mp c).imp eq_of_beq eq_of_beq
theorem K9{p:Env}{f:Str}(c:F8 p.scope f=ag):Sy p f:=(Px.mp c).imp eq_of_beq w6
noncomputable def gj:b_->Str->Option Slot|[],_=>aX|(B,aG)::y,f=>bif B==f then W aG else gj y f
theorem sD{y:b_}:∀{f:Str}{bz:Slot},gj y f=W bz->fm y f bz:=by induction y with|nil=>intro fl eM c;rw[dN c]|cons h2 y a3=>obtain⟨B,aG⟩:=h2;intro f bz c;replace c:(bif B==f then W aG else gj y f)=W bz:=c;cases i:B==f with|true=>replace c:=i▸c;cases c;rw[bL (eq_of_beq i) .here]|false=>replace c:=i▸c;rw[.there i<|a3 c]
theorem K_(aI:gj y f=W bz)(R:F8 p.scope f=ag)(aA:(f==("__classdict__":Str))=be)(bl:(f==("__debug__":Str))=be):dk g.prog g.w s a_ aD p (bG g p r L aa y) (.Name f ax) (λb g=>lQ b.heap r bz g):=λb A n aj=>by rw[fK n.3 λcS al af u=>bt (af _ _<|sD aI) λg jq ap=>Y.eq (U (arm_eval_Name ..) V)<|dH<|gR (by rwa[U bl];decide) ?_];rw[KL al (K9 R) jq aA<|aj g b (bK.refl ..) ap]
def hL(O:dA)(f:Str):Bool:=F8 O f&&!(f==("__classdict__":Str))&&!(f==("__debug__":Str))
theorem Cy(c:hL O f=ag):F8 O f=ag/\(f==("__classdict__":Str))=be/\(f==("__debug__":Str))=be:=by unfold hL at c;simp only[ir,IC]at c;rw[⟨c.1.1,c.1.2,c.2⟩]
namespace ai
theorem name(aI:gj y f=W (.f z))(R:hL O f=ag):ai g x O y (.Name f ax) .cH z:=λs p r L ay aa ao G I=>by subst G;rw[fb (Cy R) λh a e=>(K_ aI h a e)]
theorem YB(aI:gj y f=W (.o z))(R:hL O f=ag):ai g x O y (.Name f ax) .ls z:=λs p r L ay aa ao G I=>by subst G;rw[fb (Cy R) λh a e=>(K_ aI h a e)]
theorem YC(aI:gj y f=W (.b z))(R:hL O f=ag):ai g x O y (.Name f ax) .ls z:=λs p r L ay aa ao G I=>by subst G;rw[fb (Cy R) λh a e=>(K_ aI h a e)]
end ai
noncomputable def fe(O:dA)(f:Str):Bool:=O.names.lookup f==W .globalImplicit&&!(f==("__debug__":Str))
noncomputable def ea.gl(g:ea)(f:Str):Option Value:=match g.mg f with|some z=>W z|none=>g.mb f
theorem gU.ns(aA:g.Ok)(c:gU g b):b.heap.Ns 3 g.mg/\b.heap.Ns 0 g.mb:=⟨aA.1.at' λk i=>c.1.1 _ _ aA.4 i,aA.2.at' λk i=>c.1.1 _ _ aA.5 i⟩
theorem h3(aA:g.Ok)(I:cx g p r L ay aa)(c:g.gl f=W z)(R:fe p.scope f=ag):pl (bG g p r L aa y) p f z:=by unfold fe at R;rw[ir]at R;rw[⟨⟨I.1,eq_of_beq R.1⟩,λb n=>(dj g.mg (I.2▸(n.2.ns aA).1) ?_)⟩];unfold ea.gl at c;cases i:g.mg f with|some aG=>rw[i]at c;rw[.inl c]|none=>rw[i]at c;rw[.inr ⟨V,(dj g.mb (I.3▸(n.2.ns aA).2) c)⟩]
theorem w7(c:fe O f=ag):(f==("__debug__":Str))=be:=by unfold fe at c;simp only[ir,IC]at c;rw[c.2]
namespace ai
theorem glob(aA:g.Ok)(c:g.gl f=W a4)(ap:ck g.s0.heap g.tabs z a4)(R:fe O f=ag):ai g x O y (.Name f ax) .cH z:=λs p r L ay aa ao G I=>by subst G;rw[aav (h3 aA I c R) (λb n=>(ck.to (λa k l i=>⟨n.2.1.1 a k l i,λe=>(I.9 a e).elim l λC=>b2 (dK i) C⟩) _ _ ap)) I.ok<|w7 R]
end ai
end
@[reducible]noncomputable def bu(aq:List Int):bj:=.lst<|aq.map .int
namespace ai
theorem item(bw:ai g x O y e8 m<|.lst aJ)(bO:cI g x O y gX j)(aM:0<=j)(R:aJ[om j]?=W z)(ae:gu aJ<=cy)(T:oD gX=ag:=by rfl):ai g x O y (.Subscript e8 gX ax) .cH z:=λs p r L ay aa ao G I=>aaj I.ok (bw s p r L ay aa ao G I) fB.hV (λb g u c=>c.iw) (eP bO ao G I) aM R ae T
theorem t5(bw:ai g x O y e8 m<|bu aq)(bO:cI g x O y gX j)(aM:0<=j)(R:om j<gu aq)(ae:gu aq<=cy)(T:oD gX=ag:=by rfl):cI g x O y (.Subscript e8 gX ax) (aq.getD (om j) 0):=item bw bO aM (by rw[U (eX)<|U (dG)<|U (eT R) ?_];rfl) (by simpa using ae) T
theorem Ic(bw:ai g x O y e8 .cH<|.tup aJ)(bO:cI g x O y gX j)(aM:0<=j)(R:aJ[om j]?=W z)(ae:gu aJ<=cy)(T:oD gX=ag:=by rfl):ai g x O y (.Subscript e8 gX ax) .cH z:=λs p r L ay aa ao G I=>aat I.ok (bw s p r L ay aa ao G I) (eP bO ao G I) aM R ae T
theorem drop{o:Nat}(bw:ai g x O y e8 m<|.lst aJ)(bO:cI g x O y E o)(ae:gu aJ<=cy):ai g x O y (.Subscript e8 (.Slice (W E) aX aX ax) bs) .cH (.lst<|aJ.drop o):=λs p r L ay aa ao G I=>aak I.ok (bw s p r L ay aa ao G I) fB.hV (λb g u c=>c.iw) (eP bO ao G I) ae
theorem take{o:Nat}(bw:ai g x O y e8 m<|.lst aJ)(bO:cI g x O y E o)(ae:gu aJ<=cy):ai g x O y (.Subscript e8 (.Slice aX (W E) aX ax) bs) .cH (.lst<|aJ.take o):=λs p r L ay aa ao G I=>aal I.ok (bw s p r L ay aa ao G I) fB.hV (λb g u c=>c.iw) (eP bO ao G I) ae
theorem yc{o:Nat}(bw:ai g x O y e8 m<|bu aq)(bO:cI g x O y E o)(ae:gu aq<=cy):ai g x O y (.Subscript e8 (.Slice (W E) aX aX ax) bs) .cH (bu<|aq.drop o):=by have:=drop (ax:=ax) (bs:=bs) bw bO (by simpa using ae);rwa[<-u9]at this
theorem DU{o:Nat}(bw:ai g x O y e8 m<|bu aq)(bO:cI g x O y E o)(ae:gu aq<=cy):ai g x O y (.Subscript e8 (.Slice aX (W E) aX ax) bs) .cH (bu<|aq.take o):=by have:=take (ax:=ax) (bs:=bs) bw bO (by simpa using ae);rwa[<-wB]at this
end ai
theorem aaE(bv:Array aF)(h a:Nat):(slicePick bv (W (h:Int)) (W (a:Int)) aX).toList=(bv.toList.drop h).take (a-h):=by
 rwa[U (slicePick_plain ..)];simp only[IZ,EX];rw[hp (iv h bv.size) (λc=>?_) λc=>?_]
 .rw[U (yW c)<|hp (iv a bv.size) (λX=>?_) λX=>?_]
  .rw[U (yW X) V]
  .rw[U (yX X)<|U (q2 (by simp))<|U (q2 (by simp;rw[a5 X<|Jc.mp<|dr _])) V]
 .rw[U (yX c)<|U (wC (by simp))<|U (wC (by simpa using c)) ?_];simp
namespace ai
theorem ž{o S:Nat}(bw:ai g x O y e8 m<|.lst aJ)(bO:cI g x O y E o)(kc:cI g x O y aG S)(ae:gu aJ<=cy):ai g x O y (.Subscript e8 (.Slice (W E) (W aG) aX ax) bs) .cH (.lst<|(aJ.drop o).take<|S-o):=λs p r L ay aa ao G I=>t4 I.ok (bw s p r L ay aa ao G I) fB.hV (F2 I.ok (lo:=W o) (T:=W S) (eP bO ao G I)<|eP kc ao G I) λb g x dy aA bl=>KQ (I.ok.2 b dy) aA.iw bl ae λN ap=>by rwa[U (aaE ..)];rw[(ap.drop o).take<|S-o]
theorem YE{o S:Nat}(bw:ai g x O y e8 m<|bu aq)(bO:cI g x O y E o)(kc:cI g x O y aG S)(ae:gu aq<=cy):ai g x O y (.Subscript e8 (.Slice (W E) (W aG) aX ax) bs) .cH (bu<|(aq.drop o).take<|S-o):=by have:=ž (ax:=ax) (bs:=bs) bw bO kc (by simpa using ae);rwa[<-u9,<-wB]at this
theorem cat(bw:ai g x O y E cW<|.lst aJ)(bO:ai g x O y q fi<|.lst b8)(ae:gu aJ+gu b8<=cy):ai g x O y (.BinOp E .Add q ax) .cH (.lst<|aJ++b8):=λs p r L ay aa ao G I=>aai I.ok (bw s p r L ay aa ao G I) fB.hV (bO s p r L ay aa ao G I) (λb g u c=>c.iw) (λb g u c=>c.iw) ae
theorem vH(bw:ai g x O y E cW<|bu aq)(bO:ai g x O y q fi<|bu de)(ae:gu aq+gu de<=cy):ai g x O y (.BinOp E .Add q ax) .cH (bu<|aq++de):=by have:=cat (ax:=ax) bw bO (by simpa using ae);rwa[<-jg]at this
theorem ite(bC:ei g x O y D e)(bw:e=ag->ai g x O y f m z)(bO:e=be->ai g x O y B m z):ai g x O y (.IfExp D f B ax) m z:=λs p r L ay aa ao G I=>aag I.ok (bC s p r L ay aa ao G I) (λe=>bw e s p r L ay aa ao G I) λe=>bO e s p r L ay aa ao G I
end ai
def fC(g:ea)(x:Nat)(O:dA)(y:b_):List bJ->List bj->Prop|[],[]=>True|i::az,z::N=>dS i=ag/\ai g x O y i .cH z/\fC g x O y az N|cR,e3=>False
theorem fC.t6(ao:eW x s)(G:p.scope=O)(I:cx g p r L ay aa):∀{az:List bJ}{N:List bj},fC g x O y az N->nk g.prog g.w s [] [] p (bG g p r L aa y) az (λb aV=>b9 b.heap r N aV)|[],[],cR=>λb A ax aO aj=>jo b A ax aO λaV w t c=>aj aV w t (by show b9 _ _ _ _;rw[c])|i::az,z::N,c=>λb A ax aO aj=>hZ c.1 I.ok (c.2.1 s p r L ay aa ao G I) fB.hV (fC.t6 ao G I c.2.2) b A ax aO λaV w t c=>aj aV w t (by rw[d7 c λg q bN af am=>?_];obtain rfl:=bN;rw[(ie g q V af am)])
theorem aaF(I:cx g p r L ay aa)(c:nk g.prog g.w s [] [] p (bG g p r L aa y) az<|λb aV=>b9 b.heap r aJ aV)(ae:aJ.length<=cy):dk g.prog g.w s [] [] p (bG g p r L aa y) (.List az ax) (fB aa r .fr<|.lst aJ):=λb A G aj=>by rw[dH<|Y.bind<|c b _ ax G λaV as aK cW=>Y.of<|jE ?_ (by show aV.toArray.size<=cy;rwa[U y3<|U cW.length];rw[ae])];rw[aj _ _ (aK.trans<|bK.new _ _ as _ as.toks) ⟨_,V,(G.grow aK).1,aV.toArray,0,fu _ V,?_⟩];rw[b9.to (λa k l i=>⟨eY _ i,by rwa[gW fT<|gW not_or];rw[⟨gQ<|dK i,l⟩]⟩) _ _ (by simpa using cW)]
namespace ai
theorem list(c:fC g x O y az aJ)(ae:gu aJ<=cy):ai g x O y (.List az ax) .fr (.lst aJ):=λs p r L ay aa ao G I=>aaF I (c.t6 ao G I) ae
theorem tuple(c:fC g x O y az aJ)(ae:gu aJ<=cy):ai g x O y (.Tuple az o ax) .cH (.tup aJ):=λs p r L ay aa ao G I=>aah I.ok (c.t6 ao G I) ae
end ai
theorem foldl_rep(E:Array a9)(o:Nat):∀(ch:Array a9),((bX o E).foldl (λf B=>f++B) ch).toList=ch.toList++(bX o E.toList).flatten:=by induction o with|zero=>intro ch;simp|succ o a3=>intro ch;rw[U l'<|U Fn<|U (a3 ..)<|U l'<|U kr ?_];simp
theorem SY(aw:b.heap.get? E=W {cls:=.type "list",data:=.seq bv S})(qd:-(2^63)<=f)(rj:f<2^63)(d4:bv.size*om f<=2^24)(c:A (.ref b.heap.objs.size) {b with heap:=b.heap.push {cls:=.type "list",data:=.seq<|List.foldl (λH P=>H++P) #[]<|bX (if bv.isEmpty=ag then 0 else om f) bv}}):ce (cD ſ v) s (yG .Mult (.ref E)<|.int f aG) A aC b:=wpAny_binaryOp_repeat_ref bf ⟨_,aw,V⟩ (λw=>yE w f aG) noFill_list_mul F.fills_int_mul Fy repeat_list QW.lookup (call_meets Fy (yE b f aG) QX (QY _ _) (int___rmul___int_list f aG E bv S) ⟨aw,V,⟨_,aw,V⟩,call_meets F.slot_list_mul ⟨_,aw,V⟩ F.entry_list_mul (F.args_list_mul_2 _ _) (AutoListH.list___mul___list_int_3 E bv S f aG (U (show Builtin.List.listFitsIndex f=ag from kJ.mpr ⟨decide_eq_true qd,decide_eq_true rj⟩) bf) (PZ<|a5 d4 bf)<|λe=>absurd (of_decide_eq_true e)<|PZ d4) ⟨aw,c⟩⟩)
theorem b9.rep(q:b9 c r aJ N)(o):b9 c r (bX o aJ).flatten (bX o N).flatten:=by induction o with|zero=>rw[V]|succ o a3=>rw[l'▸l'▸kr▸kr▸b9.append (a3) q]
section
variable{g:ea}{x:Nat}{O:dA}{y:b_}{i E q f B D v:bJ}{m cW fi:i6}{h:Int}{ax:Pos}{aq de:List Int}
theorem aaG(bv:Array a9)(o:Nat):(bX (if bv.isEmpty=ag then 0 else o) bv.toList).flatten=(bX o bv.toList).flatten:=by
 split
 .rename_i c;have:bv.toList=[]:=by simpa using c
  rwa[U this];simp
 .rfl
namespace ai
theorem rep(bw:ai g x O y E m<|.lst aJ)(bO:cI g x O y q h)(qd:-(2^63:Int)<=h)(rj:h<2^63)(d4:gu aJ*om h<=2^24):ai g x O y (.BinOp E .Mult q ax) .fr (.lst (bX (om h) aJ).flatten):=λs p r L ay aa ao G I=>rn I.ok (bw s p r L ay aa ao G I) fB.hV (eP bO ao G I) λb e2 fG n af am=>(λA aj=>by rw[jH af.iw λakm N o bN aI gH=>U bN<|c1 am λD cB=>U cB ?_];have cp:=gH.length;rwa[Y.of<|SY aI qd rj (by simp at cp;rwa[U cp];rw[d4])];rw[aj _ _ (bK.new _ _ b _ b.toks) ⟨_,V,n.1,_,0,fu _ V,?_⟩];rwa[U (foldl_rep ..)<|U (aaG ..)];have:=gH.rep (om h);rw[b9.to (λa k l i=>⟨eY _ i,by rwa[gW fT<|gW not_or];rw[⟨gQ<|dK i,l⟩]⟩) _ _ (by simpa using this)])
theorem vI(bw:ai g x O y E m<|bu [C])(bO:cI g x O y q h)(qd:-(2^63:Int)<=h)(d4:h<=2^24):ai g x O y (.BinOp E .Mult q ax) .fr (bu<|bX (om h) C):=by
 have:=rep (ax:=ax) bw bO qd (nT (.b2 .x<|.n 9223372036854775808) [.cN .x<|.n 16777216] Z d4) (by simp;assumption);have i:(bX (om h) [bj.int C]).flatten=(bX (om h) C).map bj.int:=by induction h.toNat with
  |zero=>rfl|succ o aW=>rw[U l'<|U kr<|U aW<|U l'<|U hU ?_];rfl
 rw[show([C].map bj.int)=[bj.int C]from V]at this;rwa[i]at this
end ai
def ua(oC:CmpOp)(q:bJ):Prop:=∀p,EM [oC] [q] (Bm [q] p)=[ee q p]
theorem aaH{s:cq}{b:au}{r:List aE}{e2 fG:aF}(dX:s.units<cLine)(bw:IsL r (aq.map .int) b e2)(bO:IsL r (de.map .int) b fG):hi g.prog g.w s [] [] (wr .NotEq e2 fG) (FZ<|aq !=de) b:=by
 rw[jH bw λÇ N o fd aI ap=>U fd<|jH bO λÈ ex S gS fM gH=>U gS ?_];have f7:N.size=gu aq:=by simpa using ap.length
 have h0:ex.size=gu de:=by simpa using gH.length
 have aw:b.heap.IsList Ç N:=⟨_,aI,V,o,V⟩;have lk:b.heap.IsList È ex:=⟨_,fM,V,S,V⟩;by_cases ae:gu aq=gu de
 .have i:(aq==de)=(cZ N.size).all λQ=>aq.getD Q 0==de.getD Q 0:=by
   rw[U f7<|gW Bool.eq_iff_iff<|gW hH<|gW beq_iff_eq ?_];constructor
   .rintro rfl Q _;simp
   .intro c;rw[Ju ae λQ af am=>?_];have:=c Q<|lb.mpr af;simpa[dG,af,am]using this
  rw[Fm (show(aq !=de)=!(aq==de)from V)▸Fm i▸hi.now (λA aY=>Rg aw lk (zn 2121 211 (.e .x .y) [.e .x .z,.e .y .w,.e .z .w] Z f7 h0 ae) dX (λQ af am=>?_) g.prog g.w (λu u=>False) A aY) V];have w8:∃D,N[Q]=.int (aq.getD Q 0) D:=by rw[bt (ap.get (f:=.int<|aq.getD Q 0) (by rw[U (eX)<|U (dG)<|U (eT (by rw[lJ 211 (.t .x .y) [.e .z .w,.e .y .w,.t .x .z] Z h0 ae am])) ?_];rfl)) λa4 bH dY=>?_];rw[c1 dY λD rt=>?_];obtain rfl:=rt;rw[⟨D,ek<|(pb af).symm.trans (by simpa using bH)⟩]
  have lR:∃D,ex[Q]=.int (de.getD Q 0) D:=by rw[bt (gH.get (f:=.int<|de.getD Q 0) (by rw[U (eX)<|U (dG)<|U (eT (by rw[eA (.t .x .y) [.e .z .y,.t .x .z] Z h0 am])) ?_];rfl)) λa4 bH dY=>?_];rw[c1 dY λD ub=>?_];obtain rfl:=ub;rw[⟨D,ek<|(pb am).symm.trans (by simpa using bH)⟩]
  rw[c1 w8 λD bH=>c1 lR λfp cm=>Fm bH▸Fm cm▸Rh _ _ _ _]
 .have i:(aq !=de)=ag:=by rwa[gW bne_iff_ne];rw[λe=>ae<|congrArg _ e]
  rw[Fm i▸?_];rw[hi.now (λA aY=>SeqAt.RcNeAt.lists_lengths aw lk (by simp;lia) dX g.prog g.w (λu u=>False) A aY) V]
namespace ei
section
variable(bw:cI g x O y E h)(bO:cI g x O y q a)
include bw bO
theorem eq(bk:ua .Eq q):ei g x O y (.Compare E [.Eq] [q] ax) (h==a):=λs p r L ay aa ao G I=>(vo I.ok (eP bw ao G I) (iL h) (eP bO ao G I) (by rintro b _ _-⟨D,rfl⟩⟨aG,rfl⟩;rw[hi.now (λA c=>PySem.P.eq_int c) V])<|bk p)
theorem ne(bk:ua .NotEq q):ei g x O y (.Compare E [.NotEq] [q] ax) (h !=a):=λs p r L ay aa ao G I=>(vo I.ok (eP bw ao G I) (iL h) (eP bO ao G I) (by rintro b _ _-⟨D,rfl⟩⟨aG,rfl⟩;rw[hi.now (λA c=>PySem.P.ne_int c) V])<|bk p)
theorem lt(bk:ua .Lt q):ei g x O y (.Compare E [.Lt] [q] ax) (decide<|h<a):=λs p r L ay aa ao G I=>(vo I.ok (eP bw ao G I) (iL h) (eP bO ao G I) (by rintro b _ _-⟨D,rfl⟩⟨aG,rfl⟩;rw[hi.now (λA c=>PySem.P.lt_int c) V])<|bk p)
theorem ge(bk:ua .GtE q):ei g x O y (.Compare E [.GtE] [q] ax) (decide<|h>=a):=λs p r L ay aa ao G I=>vo I.ok (eP bw ao G I) (iL h) (eP bO ao G I) (by rintro b _ _-⟨D,rfl⟩⟨aG,rfl⟩;rw[hi.now (λA c=>PySem.P.ge_int c) V])<|bk p
end
theorem O0(bw:cI g x O y E h)(bO:ai g x O y q .cH<|.tup<|aq.map .int)(bk:ua .In q):ei g x O y (.Compare E [.In] [q] ax) (aq.any (·==h)):=λs p r L ay aa ao G I=>aau I.ok (eP bw ao G I) (bO s p r L ay aa ao G I)<|bk p
theorem O1(bw:ai g x O y E cW<|bu aq)(bO:ai g x O y q fi<|bu de)(bk:ua .NotEq q):ei g x O y (.Compare E [.NotEq] [q] ax) (aq !=de):=λs p r L ay aa ao G I=>vo I.ok (bw s p r L ay aa ao G I) fB.hV (bO s p r L ay aa ao G I) (λb e2 fG n af am=>aaH (mA (a5 (hf _ _) ao.3) bf) af.iw am.iw)<|bk p
end ei
def F9(g:ea)(x:Nat)(O:dA)(y:b_):List bJ->Bool->Prop|[],e=>e=be|i::az,e=>∃a,ei g x O y i a/\(a=ag->e=ag)/\(a=be->F9 g x O y az e)
def F_(g:ea)(x:Nat)(O:dA)(y:b_):List bJ->Bool->Prop|[],e=>e=ag|i::az,e=>∃a,ei g x O y i a/\(a=be->e=be)/\(a=ag->F_ g x O y az e)
theorem F9.bF(ao:eW x s)(G:p.scope=O)(I:cx g p r L ay aa){az:List bJ}:∀{e:Bool}{b:au}{A:Bool->au->Prop},F9 g x O y az e->bG g p r L aa y b->(∀w,bb [] [] b w->A e w)->Y g.prog g.w s (allTrue .Or az p) A b:=by induction az with|nil=>intro e b A c n aj;replace aj:=(c:e=be)▸aj;rw[Y.pure<|aj b<|bK.refl ..]|cons i az a3=>intro e b A c n aj;rw[fK c λa af am a'=>Y.bind<|af s p r L ay aa ao G I b _ n λas aK=>?_];cases a with|true=>replace aj:=(am V)▸aj;rw[Y.pure<|aj as aK]|false=>rw[a3 (a' V) (n.grow aK) λar a7=>aj ar<|aK.trans a7]
theorem F_.bF(ao:eW x s)(G:p.scope=O)(I:cx g p r L ay aa){az:List bJ}:∀{e:Bool}{b:au}{A:Bool->au->Prop},F_ g x O y az e->bG g p r L aa y b->(∀w,bb [] [] b w->A e w)->Y g.prog g.w s (allTrue .And az p) A b:=by induction az with|nil=>intro e b A c n aj;replace aj:=(c:e=ag)▸aj;rw[Y.pure<|aj b<|bK.refl ..]|cons i az a3=>intro e b A c n aj;rw[fK c λa af am a'=>Y.bind<|af s p r L ay aa ao G I b _ n λas aK=>?_];cases a with|false=>replace aj:=(am V)▸aj;rw[Y.pure<|aj as aK]|true=>rw[a3 (a' V) (n.grow aK) λar a7=>aj ar<|aK.trans a7]
namespace ei
theorem or(c:F9 g x O y az e):ei g x O y (.BoolOp .Or az ax) e:=λs p r L ay aa ao G I b A n aj=>by rw[c.bF ao G I n aj]
theorem and(c:F_ g x O y az e):ei g x O y (.BoolOp .And az ax) e:=λs p r L ay aa ao G I b A n aj=>by rw[c.bF ao G I n aj]
end ei
namespace ai
theorem len(aA:g.Ok)(c:ai g x O y i m<|.lst aJ)(aI:g.gl "len"=W (.builtin "len"))(R:fe O "len"=ag)(ak:dS i=ag)(ae:gu aJ<2^62):cI g x O y (.Call (.Name "len" d') [i] [] ax) (gu aJ):=mQ λs p r L ay aa ao G I=>by
 subst G;rw[lj I.ok (h3 aA I aI R) V (hZ ak I.ok (c s p r L ay aa ao V I) fB.hV jo) (by rintro b aV aO gS;rw[d7 gS λg q gT aA hK=>?_];obtain rfl:=gT;obtain rfl:=hK;rw[(by
    have c:=(λb g u c=>c.iw) b g aO aA;rw[jH c λh N o dt aI ap=>?_];obtain rfl:=dt;have aw:b.heap.IsList h N:=⟨_,aI,V,o,V⟩;have cp:∀(b8:List bj)(ex:List aF),b9 b.heap r b8 ex->gu ex=gu b8:=by intro b8;induction b8 with
     |nil=>intro ex c;subst c;rfl|cons B b8 aW=>intro ex c;rw[d7 c λg aV eh fd am=>?_];obtain rfl:=eh;obtain-:=fd;simp[aW aV am]
    have i:N.size=gu aJ:=by have:=cp aJ N.toList ap;simpa using this
    intro A aj;rw[Y.of<|Calls.call_len_list aw (ct (.b2 (.c .x)<|.n 9223372036854775808) [.t .y<|.n 4611686018427387904,.e .x .y] Z ae i)<|Fm i▸aj _ _ (bK.tok ..) ⟨_,V⟩])]) (by simp[ak])]
theorem oO{d':Pos}(aA:g.Ok)(c:ai g x O y i m<|bu aq)(aI:g.gl "len"=W (.builtin "len"))(R:fe O "len"=ag)(ak:dS i=ag)(ae:gu aq<2^62):cI g x O y (.Call (.Name "len" d') [i] [] ax) (gu aq):=by have:=len (ax:=ax) (d':=d') aA c aI R ak (by simpa using ae);rwa[dg]at this
end ai
end
def vs:bJ->e1->List aE->bj->aF->Prop|.Tuple ..,c,r,f,z=>∃b8 a1 qe,f=.tup b8/\z=.ref a1/\c.IsTuple a1 qe/\b9 c r b8 qe.toList|cR,c,r,f,z=>ck c r f z
def uc(k:Obj):Prop:=(∀N o,k≠{cls:=.type "list",data:=.seq N o})/\(∀a,k≠c9 a)
theorem zG(c:k.cls≠.type "list"/\k.cls≠.type "bytearray"):uc k:=⟨λN o e=>c.1<|e▸V,λa e=>c.2<|e▸V⟩
theorem SZ(c:k.data=.dict az o):uc k:=⟨λN o e=>(by rw[e]at c;cases c),λa e=>(by rw[e]at c;cases c)⟩
inductive mf(ſ:cM)(v:cU)(s:cq)(cn:bJ)(r:List aE)(bv:List bj)(ar:au)(an:aE)(bQ aZ:List aE)(b5:List Nat)(St:Nat->au->Prop):Prop|mk(f2:∀a∈aZ,a∈bQ)(f3:∀j b w r cf,St j b->bb r cf b w->(∀a∈r,a∉bQ)->(∀t∈cf,t∉b5)->St j w)(gw:∀j f(b:au)(A:aF->au->Prop),bv[j]?=W f->St j b->(∀z w,(∀bx kd,(∀a∈bx,a<(aB b)/\(a∈r\/a∈aZ\/(aB ar)<=a))->bb bx kd ar b->vs cn w.heap bx f z)->St (j+1) w->bb aZ b5 b w->A z w)->Y ſ v s (oj<|.ref an) (λq as=>∃z,q=W z/\Y ſ v s (Bo cn (.ref an) z) (λu ar=>A z ar) as) b)(j_:∀(b:au)(A:Option aF->au->Prop),St (gu bv) b->(∀w,bb aZ b5 b w->A aX w)->Y ſ v s (oj<|.ref an) A b)(lL:∀j(b:au)(A:aF->au->Prop),St j b->A (.ref an) b->Y ſ v s (ol<|.ref an) A b)(oA:∀j b a k,St j b->a∈aZ->b.heap.get? a=W k->uc k):mf ſ v s cn r bv ar an bQ aZ b5 St
inductive F'(ſ:cM)(v:cU)(s:cq)(cn:bJ)(aa K:Nat)(ky:List aE)(ll:List Nat)(r cL:List aE)(bv:List bj)(as ar:au)(an:aE)(bQ aZ:List aE)(b5:List Nat)(St:Nat->au->Prop):Prop|mk(f2:mf ſ v s cn r bv ar an bQ aZ b5 St)(f3:St 0 ar)(gw:bb [] [] as ar)(j_:∀a∈aZ,aa<=a\/a∈ky)(lL:∀t∈b5,K<=t\/t∈ll)(oA:∀t∈b5,t<ar.gens.size)(w5:∀a∈bQ,a<(aB ar)/\a∉cL):F' ſ v s cn aa K ky ll r cL bv as ar an bQ aZ b5 St
def zH(ſ:cM)(v:cU)(s:cq)(cn:bJ)(aa K:Nat)(ky:List aE)(ll:List Nat)(r cL:List aE)(g:aF)(bv:List bj)(as:au):Prop:=∀A:aF->au->Prop,(∀an ar bQ aZ b5 St,F' ſ v s cn aa K ky ll r cL bv as ar an bQ aZ b5 St->A (.ref an) ar)->Y ſ v s (ol g) A as
theorem S0{cn:bJ}{r:List aE}{bv:List bj}{ar:au}{an:aE}{bQ aZ:List aE}{b5:List Nat}{St:Nat->au->Prop}{p:Env}{eC:List fa}{ca:gO->au->Prop}(di:mf ſ v s cn r bv ar an bQ aZ b5 St)(ai:Nat->au->Prop)(nV:∀j f cE b z,bv[j]?=W f->ai j cE->St j cE->(∀bx kd,(∀a∈bx,a<(aB cE)/\(a∈r\/a∈aZ\/(aB ar)<=a))->bb bx kd ar cE->vs cn b.heap bx f z)->St (j+1) b->bb aZ b5 cE b->Y ſ v s (do assign cn p z;d3 eC p) (λJ w=>match J with|.next|.cont=>ai (j+1) w/\St (j+1) w|.brk=>ca .next w|.ret z=>ca (.ret z) w) b)(ud:∀cE b,ai (gu bv) cE->St (gu bv) cE->bb aZ b5 cE b->ca .next b)(aM:ai 0 b)(fA:St 0 b):em ſ v s (.forLoop cn (.ref an) eC [] p) ca b:=by
 rwa[ds (@PySem.Code.forLoop _ _ _ _ _)];intro dx;rw[em.loop V V (λm b=>∃j,j<=gu bv/\m=gu bv-j/\ai j b/\St j b) ?_ (gu bv)<|tP 0 (eQ _) V aM fA];intro m b ru;rw[d8 ?_];intro eg;obtain⟨j,T,rfl,cu,G⟩:=ru;rw[Y.onRaise<|dH<|Y.bind<|Y.onRaise<|hp (pV j (gu bv)) (λcG=>?_) λlh=>?_]
 .rw[d8 ?_];intro eg;rwa[Y.mono (di.3 j bv[j] b (λz w=>Y ſ v s (do assign cn p z;d3 eC p) (λJ w=>match J with
   |.next|.cont=>ai (j+1) w/\St (j+1) w|.brk=>ca .next w|.ret z=>ca (.ret z) w) w) (eT cG) G λz as aQ fX aK=>nV j _ b as z (eT cG) cu G aQ fX aK)];intro q as ru;obtain⟨z,rfl,D⟩:=ru;show Y ſ v s (do Bo cn (.ref an) z;assign cn p z;match<-d3 eC p with
   |.next|.cont=>again<|.forLoop cn (.ref an) eC [] p|.brk=>dB<|.done .next|.ret z=>dB<|.done<|.ret z) _ as;rw[hy D λu ar D=>?_];have i:(do assign cn p z;match<-d3 eC p with
   |.next|.cont=>again<|.forLoop cn (.ref an) eC [] p|.brk=>dB<|.done .next|.ret z=>dB (.done<|.ret z):Sem Fin)=((do assign cn p z;d3 eC p)>>=λJ=>match J with
   |.next|.cont=>again<|.forLoop cn (.ref an) eC [] p|.brk=>dB<|.done .next|.ret z=>dB<|.done<|.ret z):=by simp only[bind_assoc]
  rw[U i<|hy D λJ ar bi=>?_];cases J with
  |next=>rw[Y.pure<|.inl ⟨V,(dj (gu bv-(j+1)) (oy (.t .x .y) [.l .z<|.a .y .w,.e (.a .x<|.o .w) .z] Z (ef _ _)<|dM<|ct (.l (.o .x) .y) [.t .x .y] Z cG)<|tP (j+1) cG V bi.1 bi.2)⟩]|cont=>rw[Y.pure<|.inl ⟨V,(dj (gu bv-(j+1)) (oy (.t .x .y) [.l .z<|.a .y .w,.e (.a .x<|.o .w) .z] Z (ef _ _)<|dM<|ct (.l (.o .x) .y) [.t .x .y] Z cG)<|tP (j+1) cG V bi.1 bi.2)⟩]|brk=>rw[Y.pure bi]|ret z=>rw[Y.pure bi]
 .obtain rfl:j=gu bv:=u1 T lh;rw[di.4 b _ G λas aK=>Y.pure<|.inr ⟨V,(em.my V ?_)⟩];show Y ſ v s (do let J<-d3 [] p;dB<|FF J) _ as;rwa[Y.eq (U (arm_execs_nil ..) V)];rw[ev<|Y.pure<|ud b as cu G aK]
inductive ue(ſ:cM)(v:cU)(s:cq)(cn:bJ)(r:List aE)(bv:List bj)(ar:au)(an:aE)(bQ aZ:List aE)(b5:List Nat)(St:Nat->au->Prop)(lm:au->Prop):Prop|mk(f2:∀a∈aZ,a∈bQ)(f3:∀j b w r cf,St j b->bb r cf b w->(∀a∈r,a∉bQ)->(∀t∈cf,t∉b5)->St j w)(gw:∀b w r cf,lm b->bb r cf b w->(∀a∈r,a∉bQ)->(∀t∈cf,t∉b5)->lm w)(j_:∀j f(b:au)(A:aF->au->Prop),bv[j]?=W f->St j b->(∀z w,(∀bx kd,(∀a∈bx,a<(aB b)/\(a∈r\/a∈aZ\/(aB ar)<=a))->bb bx kd ar b->vs cn w.heap bx f z)->St (j+1) w->bb aZ b5 b w->A z w)->Y ſ v s (oj<|.ref an) (λq as=>∃z,q=W z/\Y ſ v s (Bo cn (.ref an) z) (λu ar=>A z ar) as) b)(lL:∀(b:au)(A:Option aF->au->Prop),St (gu bv) b->(∀w,bb aZ b5 b w->lm w->A aX w)->Y ſ v s (oj<|.ref an) A b)(oA:∀j(b:au)(A:aF->au->Prop),St j b->A (.ref an) b->Y ſ v s (ol<|.ref an) A b):ue ſ v s cn r bv ar an bQ aZ b5 St lm
theorem mf.yh{cn:bJ}{r:List aE}{bv:List bj}{ar:au}{an:aE}{bQ aZ:List aE}{b5:List Nat}{St:Nat->au->Prop}(di:mf ſ v s cn r bv ar an bQ aZ b5 St):ue ſ v s cn r bv ar an bQ aZ b5 St (λu=>True):=⟨di.1,di.2,λu u u u u u u u=>trivial,di.3,λb A st aj=>di.4 b A st λw t=>aj w t trivial,di.5⟩
theorem K'{cn:bJ}{r:List aE}{bv:List bj}{ar:au}{an:aE}{bQ aZ:List aE}{b5:List Nat}{St:Nat->au->Prop}{lm:au->Prop}{p:Env}{dT:bJ}{eG:List lC}{a2:dA}{ax:Pos}{x:Nat}{ch:aF}{t:lC}{ca:gO->au->Prop}(aI:eG[x]?=W t)(bC:t.target=cn)(aM:t.is_async=0)(af:gu t.ifs<=1)(am:∀cd,eG[x+1]?=W cd->cd.is_async=0)(di:ue ſ v s cn r bv ar an bQ aZ b5 St lm)(ai:Nat->au->Prop)(nV:∀j f cE b z,bv[j]?=W f->ai j cE->St j cE->(∀bx kd,(∀a∈bx,a<(aB cE)/\(a∈r\/a∈aZ\/(aB ar)<=a))->bb bx kd ar cE->vs cn b.heap bx f z)->St (j+1) b->bb aZ b5 cE b->Y ſ v s (do assign t.target p z;vp dT eG a2 ax x ch p t.ifs) (λu w=>ai (j+1) w/\St (j+1) w) b)(ud:∀cE b,ai (gu bv) cE->bb aZ b5 cE b->lm b->ca .next b)(cu:ai 0 b)(fA:St 0 b):em ſ v s (.compLoop (.ListComp dT eG a2 ax) x (.ref an) ch p) ca b:=by
 rwa[ds (@PySem.Code.compLoop _ _ _ _ _)];intro dx;subst bC;rw[em.loop V V (λm b=>∃j,j<=gu bv/\m=gu bv-j/\ai j b/\St j b) ?_ (gu bv)<|tP 0 (eQ _) V cu fA];intro m b ru;rw[d8 ?_];intro eg;rw[FT ?_];intro Ku;obtain⟨j,T,rfl,cu,G⟩:=ru;rw[Y.onRaise<|Y.eq (aas aI aM af am ..)<|dH<|Y.bind<|d8 ?_];intro eg;rcases pV j (gu bv) with cG|lh
 .rw[Y.mono (di.4 j bv[j] b (λz w=>Y ſ v s (do assign t.target p z;vp dT eG a2 ax x ch p t.ifs) (λu w=>ai (j+1) w/\St (j+1) w) w) (eT cG) G λz as aQ fX aK=>nV j _ b as z (eT cG) cu G aQ fX aK) ?_];intro q as ru;obtain⟨z,rfl,D⟩:=ru;rw[hy D λu ar D=>?_];have i:(do assign t.target p z;vp dT eG a2 ax x ch p t.ifs;again<|.compLoop (.ListComp dT eG a2 ax) x (.ref an) ch p)=((do assign t.target p z;vp dT eG a2 ax x ch p t.ifs)>>=λu=>again<|.compLoop (.ListComp dT eG a2 ax) x (.ref an) ch p):=by simp only[bind_assoc]
  rw[U i<|hy D λJ ar bi=>Y.pure<|.inl ⟨V,(dj (gu bv-(j+1)) (oy (.t .x .y) [.l .z<|.a .y .w,.e (.a .x<|.o .w) .z] Z (ef _ _)<|dM<|ct (.l (.o .x) .y) [.t .x .y] Z cG)<|tP (j+1) cG V bi.1 bi.2)⟩]
 .obtain rfl:j=gu bv:=u1 T lh;rw[di.5 b _ G λas aK bq=>Y.pure<|ud b as cu aK bq]
theorem S1(c:ck as.heap r f z)(bV:∀a∈aZ,Ų (ű (Q7 as))<=a)(aK:bb [] [] as ar)(cC:∀a∈bx,a∈r\/a∈aZ\/Ų (ű (Q7 ar))<=a)(a7:bb bx kd ar b)(b4:bb aZ [] b w):ck w.heap bx f z:=by rw[ck.to (λa k l i=>?_) _ _ c];have cG:=dK i;have S2:a∉aZ:=λe=>b2 cG<|bV a e;have f8:a∉bx:=λe=>(cC a e).elim l λe=>e.elim S2 λe=>b2 (cg cG aK.2) e;rw[⟨b4.1 _ _ S2<|a7.1 _ _ f8<|aK.1 _ _ (λe=>db e) i,f8⟩]
theorem aaI(bV:∀a∈aZ,(aB as)<=a)(aK:bb [] [] as ar)(cC:∀a∈bx,a∈r\/a∈aZ\/(aB ar)<=a)(a7:bb bx kd ar b)(b4:bb aZ [] b w){b8:List bj}:∀{N:List aF},b9 as.heap r b8 N->b9 w.heap bx b8 N:=by induction b8 with|nil=>intro N q;rw[q]|cons B b8 a3=>intro N q;rw[d7 q λz ex bN dY eN=>U bN<|ie z ex V (S1 dY bV aK cC a7 b4)<|a3 eN]
theorem mf.of{cn:bJ}{an:aE}{bQ aZ:List aE}{o:Nat}{uf:Nat->aF->Prop}{St:Nat->e1->Prop}(di:Walks ſ v s an bQ aZ o uf St)(cV:∀c r f z,ck c r f z->(∃j,j<o/\bv[j]?=W f)->vs cn c r f z)(bC:∀z,(∃j,j<o/\uf j z)->∀j(b:au)(A:Unit->au->Prop),St (j+1) b.heap->A () b->Y ſ v s (Bo cn (.ref an) z) A b)(ak:gu bv=o)(aQ:∀j f z,bv[j]?=W f->uf j z->ck as.heap r f z)(bV:∀a∈aZ,Ų (ű (Q7 as))<=a)(aK:bb [] [] as ar)(aT:∀j c a k,St j c->a∈aZ->Ű c a=W k->uc k):mf ſ v s cn r bv ar an bQ aZ [] (λj b=>St j b.heap):=⟨(di.sub),(λj b w r cf st t cC u=>di.frame j _ _ st λa l k i=>t.1 a k (λe=>cC a e l) i),(λj f b A R st aj=>by have T:j<o:=ak▸(j4.mp R).1;rw[kv<|Y.of<|di.item j b _ _ T st λz X ab cl kz aT C=>(dj z V ?_)];have t:bb aZ [] b {b with heap:=X,toks:=ab}:=bK.heap (λa k l i=>aT a k l i) C.1;rw[bC z (dj j T cl) j _ _ kz<|aj z _ (λbx kd f8 cd=>cV _ _ _ _ (S1 (aQ j f z R cl) bV aK (λa l=>(f8 a l).2) cd t)<|dj j T R) kz t]),(λb A st aj=>kv<|Y.of<|di.done b _ _ (ak▸st) λX ab aT C=>aj _<|bK.heap (λa k l i=>aT a k l i) C.1),(λj b A st aj=>Y.of<|di.self j b _ _ st aj),(λj b a k st l i=>aT j _ a k st l i)⟩
theorem Ga{c:e1}{a E:aE}{j:Nat}{k:Obj}(f:c.IsListIter a E j)(i:Ű c a=W k):uc k:=by rw[fK f λdh cP aA u=>?_];replace cP:=i▸cP;rw[U (md cP)<|zG ⟨by rwa[U aA];decide,by rwa[U aA];decide⟩]
theorem aaJ{c:e1}{a E:aE}{j:Nat}{k:Obj}(f:c.IsTupleIter a E j)(i:Ű c a=W k):uc k:=by rw[fK f λdh cP aA u=>?_];replace cP:=i▸cP;rw[U (md cP)<|zG ⟨by rwa[U aA];decide,by rwa[U aA];decide⟩]
def w9(r cL:List aE)(aJ:List bj)(b:au)(g:aF):Prop:=∃h N o,g=.ref h/\h∉cL/\b.heap.get? h=W {cls:=.type "list",data:=.seq N o}/\b9 b.heap r aJ N.toList
theorem S3{cn:bJ}{aa K:Nat}(hr:aa<=(aB b))(cO:s.handled=aX){g:aF}(dz:∀a∈cL,a<(aB b))(c:w9 r cL aJ b g)(bC:(∃f h4,cn=.Name f h4)\/(∃az m h4,cn=.Tuple az m h4)/\∀f∈aJ,∃b8,f=.tup b8):zH ſ v s cn aa K [] [] r cL g aJ b:=λA aj=>by
 obtain⟨h,N,o,rfl,aS,aI,ap⟩:=c;have aw:b.heap.IsList h N:=⟨_,aI,V,o,V⟩;have cG:h<(aB b):=dK aI;have cp:N.size=gu aJ:=by simpa using ap.length
 rwa[Y.of<|EL aw];have t:bb [] [] b {b with heap:=b.heap.push {cls:=.type "list_iterator",data:=.fields #[.ref h,.int 0 0]}}:=bK.push b _ b.toks;rw[aj _ _ _ _ _ _ ⟨mf.of (JU cO (aB b) h (gQ cG) N) ?_ ?_ cp.symm (λj f z R aQ=>?_) (λa l=>l_ (bg l).symm) t<|λj c a k st l i=>Ga (bg l▸st.1) i,?_,t,λa l=>.inl<|bg l▸hr,aR,aR,λa l=>?_⟩]
 .intro c r f z q É;obtain⟨j,_,R⟩:=É;rcases bC with⟨B,h4,rfl⟩|⟨⟨az,m,h4,rfl⟩,bC⟩
  .rw[q]
  .rw[g4 λu bW=>?_];obtain⟨b8,rfl⟩:=bC f<|j3 R;obtain⟨a1,ex,S,rfl,_,i,q⟩:=q;rw[bW<|⟨b8,a1,ex,V,V,⟨_,i,V,S,V⟩,q⟩]
 .intro z Ê Q w A st aY;obtain⟨j,T,aQ⟩:=Ê;rcases bC with⟨f,h4,rfl⟩|⟨⟨az,m,h4,rfl⟩,bC⟩
  .rw[Y.pure aY]
  .rw[g4 λu bW=>bt (ap.at (by simpa using aQ)) λf R ug=>?_];obtain⟨b8,rfl⟩:=bC f<|j3 R;obtain⟨a1,_,_,rfl,_⟩:=ug;rw[bW<|Y.of<|wpAny_letOwnedTupleGo_listiter st.1 aY]
 .rw[g4 λu bW=>bt (ap.at (by simpa using aQ)) λkX iz ug=>?_];replace iz:=R▸iz;cases iz;rw[bW ug]
 .rw[⟨⟨_,fu _ V,V,V⟩,aw.at λk i=>eY _ i⟩]
 .rw[U (show(aB _)=_ from f' ..) ?_]
  revert a;rwa[hg ?_]
  .rw[⟨kN _,λe=>ia _<|dz _ e⟩]
  .intro a l;rw[U (bg l)<|⟨k' cG,aS⟩]
theorem aaK{aa K:Nat}(hr:aa<=(aB b))(cO:s.handled=aX){g:aF}{f:Str}{h4:Pos}(dz:∀a∈cL,a<(aB b))(sE:∀a∈cL,a∈r)(c:ck b.heap r (.tup aJ) g):zH ſ v s (.Name f h4) aa K [] [] r cL g aJ b:=λA aj=>by
 rw[mb c λh N o dt aS aI ap=>U dt ?_];have aw:b.heap.IsTuple h N:=⟨_,aI,V,o,V⟩;have cG:h<(aB b):=dK aI;have cp:N.size=gu aJ:=by simpa using ap.length
 rwa[Y.of<|wpAny_pyIter_tuple aw];have t:bb [] [] b {b with heap:=b.heap.push {cls:=.type "tuple_iterator",data:=.fields #[.ref h,.int 0 0]}}:=bK.push b _ b.toks;rw[aj _ _ _ _ _ _ ⟨mf.of (Walks.tuple cO (aB b) h (gQ cG) N) (λu u u u q u=>q) (λz u j w A st aY=>Y.pure aY) cp.symm (λj f z R aQ=>?_) (λa l=>l_ (bg l).symm) t<|λj c a k st l i=>aaJ (bg l▸st.1) i,?_,t,λa l=>.inl<|bg l▸hr,aR,aR,λa l=>?_⟩]
 .rw[bt (ap.at (by simpa using aQ)) λkX iz ug=>?_];replace iz:=R▸iz;cases iz;rw[ug]
 .rw[⟨⟨_,fu _ V,V,V⟩,aw.at λk i=>eY _ i⟩]
 .rw[U (show(aB _)=_ from f' ..) ?_]
  revert a;rwa[hg ?_]
  .rw[⟨kN _,λe=>ia _<|dz _ e⟩]
  .intro a l;rw[U (bg l)<|⟨k' cG,λe=>aS<|sE _ e⟩]
noncomputable def ij(h x:Int)(o:Nat):List Int:=(cZ o).map λ(j:Nat)=>h+j*x
theorem S4{aa K:Nat}(hr:aa<=(aB b))(cO:s.handled=aX){g:aF}{f:Str}{h4:Pos}{h x:Int}{o:Nat}(dz:∀a∈cL,a<(aB b))(c:zB r h x o b g):zH ſ v s (.Name f h4) aa K [] [] r cL g ((ij h x o).map .int) b:=λA aj=>by
 rw[Kb c λq a D aG z eh ap T G ak=>U eh<|Y.of<|IL T G<|U ak<|aj _ _ _ _ _ _ ⟨mf.of (FC cO (aB b) h x o) (λu u u u q u=>q) (λz u j w A st aY=>Y.pure aY) (by simp[ij]) (λj f z R aQ=>?_) (λa l=>l_ (bg l).symm) (bK.push b _ b.toks)<|λj c a k st l i=>by rw[bg l]at i;rw[show Ű c _=_ from st]at i;cases i;rw[zG ⟨by show j6 _≠_;decide,by show j6 _≠_;decide⟩],?_,bK.push b _ b.toks,λa l=>.inl<|bg l▸hr,aR,aR,λa l=>?_⟩]
 .rw[c1 aQ λD kW=>U kW ?_];have cG:j<o:=by simpa[ij]using(j4.mp R).1
  have:f=.int (h+j*x):=by rw[ij,eX,eX,nN cG]at R;rw[Fm (ek R)]
  rw[U this<|(⟨D,V⟩)]
 .rw[(Fm (by simp:h+((0:Nat))*x=h))▸(Fm (by simp:((o:Int)-((0:Nat):Int))=o))▸fu _ V]
 .rw[U (show(aB _)=_ from f' ..)<|U (bg l)<|⟨kN _,λe=>ia _<|dz _ e⟩]
theorem mf.ofT{az:List bJ}{m:Nat}{h4:Pos}{an:aE}{bQ aZ:List aE}{o:Nat}{S5:Nat->Array aF->Prop}{St:Nat->e1->Prop}{Ë:Nat->aE->e1->Prop}(di:WalksT ſ v s an bQ aZ o S5 St Ë)(ak:gu bv=o)(aQ:∀j f qe,bv[j]?=W f->S5 j qe->∃b8,f=.tup b8/\b9 as.heap r b8 qe.toList)(bV:∀a∈aZ,Ų (ű (Q7 as))<=a)(aK:bb [] [] as ar)(aT:∀j c a k,St j c->a∈aZ->Ű c a=W k->uc k):mf ſ v s (.Tuple az m h4) r bv ar an bQ aZ [] (λj b=>St j b.heap):=⟨(di.sub),(λj b w r cf st t cC u=>di.frame j _ _ st λa l k i=>t.1 a k (λe=>cC a e l) i),(λj f b A R st aj=>by rw[kv<|Y.of<|di.item j b _ _ (ak▸(j4.mp R).1) st λa1 qe X ab cl cV Ì bk aT C=>⟨_,V,?_⟩];rw[FS ?_];intro La;have t:bb aZ [] b {b with heap:=X,toks:=ab}:=bK.heap (λa k l i=>aT a k l i) C.1;rw[kv<|Y.of<|di.go az m h4 j a1 _ _ _ bk λw_ Í S6 eR=>ds (@nd _ _ _ _ _) ?_];intro dx;have cd:bb aZ [] {b with heap:=X,toks:=ab} {b with heap:=w_,toks:=ab}:=bK.heap (λa k l i=>S6 a k l i) eR.1;rw[aj _ _ (λbx kd f8 pr=>bt (aQ j f qe R cl) λb8 mR ap=>U mR<|fK Ì λk aI aA n2=>c1 n2 λS bl=>?_) Í<|t.trans cd];rw[⟨b8,a1,qe,V,V,⟨k,S6 _ _ (di.apart j a1 _ bk) aI,aA,S,bl⟩,aaI bV aK (λa l=>(f8 a l).2) pr (t.trans cd) ap⟩]),(λb A st aj=>kv<|Y.of<|di.done b _ _ (ak▸st) λX ab aT C=>aj _<|bK.heap (λa k l i=>aT a k l i) C.1),(λj b A st aj=>Y.of<|di.self j b _ _ st aj),(λj b a k st l i=>aT j _ a k st l i)⟩
def qg(iP:Bool)(p:Env)(L:List aE):List Addr:=bif iP then L++cc p else cc p
theorem qg.mem(I:cx g p r L ay aa):∀a∈qg iP p L,a∈r:=by intro a l;cases iP with|false=>rw[(I.4 a l).1]|true=>rw[bS l (λc=>(I.5 a c).1) λc=>(I.4 a c).1]
def fj(g:ea)(x:Nat)(O:dA)(y:b_)(iP:Bool)(cn i:bJ)(bv:List bj):Prop:=∀(s:cq)(p:Env)(r L ay:List aE)(aa K:Nat),eW x s->p.scope=O->cx g p r L ay aa->dk g.prog g.w s [] [] p (λb=>bG g p r L aa y b/\K<=b.gens.size) i (λb a4=>zH g.prog g.w s cn aa K [] [] r (qg iP p L) a4 bv b)
theorem dk.weak(c:dk ſ v s a_ aD p M i al)(m:∀b,cT b->M b):dk ſ v s a_ aD p cT i al:=λb A n aj=>c b A (m b n) aj
def jR(g:ea)(x:Nat)(O:dA)(y:b_)(iP:Bool)(i:bJ)(aJ:List bj):Prop:=∀(s:cq)(p:Env)(r L ay:List aE)(aa:Nat),eW x s->p.scope=O->cx g p r L ay aa->dk g.prog g.w s [] [] p (bG g p r L aa y) i (λb a4=>w9 r (qg iP p L) aJ b a4)
theorem w9.hV:nZ [] [] (λb a4=>w9 r cL aJ b a4):=λb w a4 c t=>by rw[mb c λh N o i ae aI ap=>?_];have sC:∀a k,b.heap.get? a=W k->Ű (Q7 w) a=W k:=λa k i=>t.1 a k (λc=>db c) i;rw[⟨h,N,o,i,ae,sC _ _ aI,b9.to (λa k l i=>⟨sC a k i,l⟩) _ _ ap⟩]
theorem jR.of(c:ai g x O y i m<|.lst aJ)(aT:m≠.ls:=by decide):jR g x O y iP i aJ:=λs p r L ay aa ao G I=>((c.hA aT) s p r L ay aa ao G I).to λb a4 aQ=>by have pm:ck b.heap r (.lst aJ) a4:=aQ;rw[mb pm λh N o i aS aI ap=>⟨h,N,o,i,λe=>aS<|qg.mem I h e,aI,ap⟩]
def S7(cn:bJ)(aJ:List bj):Prop:=(∃f h4,cn=.Name f h4)\/(∃az m h4,cn=.Tuple az m h4)/\∀f∈aJ,∃b8,f=.tup b8
theorem vt(c:h<o)(m:Nat):@Ne Nat h (o+m):=fq 2 (.ne .x<|.a .y .z) [.t .x .y] Z c
namespace fj
theorem list(c:jR g x O y iP i aJ)(bC:S7 cn aJ):fj g x O y iP cn i aJ:=λs p r L ay aa K ao G I b A n aj=>let n:=n.1
 c s p r L ay aa ao G I b A n λa4 w t aQ=>aj a4 w t<|S3 (n.grow t).1 ao.1 (λa l=>cg (I.8 a<|qg.mem I a l) (n.grow t).1) aQ bC
theorem yi(c:∀(s:cq)(p:Env)(r L ay:List aE)(aa:Nat),eW x s->p.scope=O->cx g p r L ay aa->dk g.prog g.w s [] [] p (bG g p r L aa y) i (zB r h a o)):fj g x O y iP (.Name f d') i ((ij h a o).map .int):=λs p r L ay aa K ao G I b A n aj=>let n:=n.1
 c s p r L ay aa ao G I b A n λa4 w t aQ=>aj a4 w t<|S4 (n.grow t).1 ao.1 (λa l=>cg (I.8 a<|qg.mem I a l) (n.grow t).1) aQ
theorem q_{f:Str}{o:Nat}{e:Pos}(aA:g.Ok)(c:cI g x O y i o)(aI:g.gl "range"=W (.type "range"))(R:fe O "range"=ag)(ak:dS i=ag)(ae:o<2^62):fj g x O y iP (.Name f d') (.Call (.Name "range" e) [i] [] ax) ((ij 0 1 o).map .int):=yi λs p r L ay aa ao G I=>by subst G;rw[SL I.ok (h3 aA I aI R) ak (eP c ao V I) ae]
theorem YY(aA:g.Ok)(bw:cI g x O y E h)(bO:cI g x O y q a)(aI:g.gl "range"=W (.type "range"))(R:fe O "range"=ag)(ak:dS E=ag/\dS q=ag)(aS:-(2^62)<=h)(kb:h<2^62)(l:-(2^62)<=a)(ej:a<2^62):fj g x O y iP (.Name f d') (.Call (.Name "range" e) [E,q] [] ax) ((ij h 1 (om (a-h))).map .int):=yi λs p r L ay aa ao G I=>by rwa[ds (@zB _ _ _ _)];intro dx;subst G;rw[lj I.ok (h3 aA I aI R) V (hZ ak.1 I.ok (eP bw ao V I) (iL _)<|hZ ak.2 I.ok (eP bO ao V I) (iL _) jo) ?_ (by simp[ak])];intro b aV aO t9 A aj;obtain⟨_,_,rfl,⟨D,rfl⟩,_,_,rfl,⟨aG,rfl⟩,rfl⟩:=t9;rw[Y.of<|call_range_2<|aj _ _ (bK.new _ _ b _ _) ⟨_,a,_,_,_,V,λe=>ia _<|I.ok.2 _ aO _ e,FE ..,ER aS kb l ej,(U (rangeSize_one ..) ?_)⟩];split<;>lia
theorem DZ{f:Str}{e:Pos}{st:Int}{o:Nat}(aA:g.Ok)(bw:cI g x O y E h)(bO:cI g x O y q a)(kc:cI g x O y D st)(aI:g.gl "range"=W (.type "range"))(R:fe O "range"=ag)(ak:dS E=ag/\dS q=ag/\dS D=ag)(aM:st≠0)(G:wJ h a st=ag)(aO:BX (a-h) st=be)(d4:tH h a st=o):fj g x O y iP (.Name f d') (.Call (.Name "range" e) [E,q,D] [] ax) ((ij h st o).map .int):=yi λs p r L ay aa ao dy I=>by subst dy;rw[lj I.ok (h3 aA I aI R) V (hZ ak.1 I.ok (eP bw ao V I) (iL _)<|hZ ak.2.1 I.ok (eP bO ao V I) (iL _)<|hZ ak.2.2 I.ok (eP kc ao V I) (iL _) jo) ?_ (by simp[ak])];rintro b aV rv⟨_,_,rfl,⟨D,rfl⟩,_,_,rfl,⟨aG,rfl⟩,_,_,rfl,⟨z,rfl⟩,rfl⟩A aj;rwa[ds (@pY _ _ _)];intro dx;rw[Y.of<|call_range_3 aM (aj _ _ (bK.new _ _ b _ _) ⟨_,a,_,_,_,V,λe=>ia _<|I.ok.2 _ rv _ e,FE ..,G,d4⟩)<|.inl aO]
noncomputable def enumItems(aJ:List bj):List bj:=aJ.zipIdx.map λn=>.tup [.int n.2,n.1]
theorem enumerate(aA:g.Ok)(c:jR g x O y iP i aJ)(aI:g.gl "enumerate"=W (.type "enumerate"))(R:fe O "enumerate"=ag)(ak:dS i=ag):fj g x O y iP (.Tuple az S h4) (.Call (.Name "enumerate" e) [i] [] ax) (enumItems aJ):=λs p r L ay aa K ao G I=>by
 subst G;rw[dk.weak (lj I.ok (h3 aA I aI R) V (hZ ak I.ok (c s p r L ay aa ao V I) w9.hV jo) ?_ (by simp[ak]))<|λu n=>n.1];rintro b aV n Î A aj;rw[d7 Î λu u Ï Ð Ñ=>U Ï<|mb Ð λh N o Ò aS aI ap=>U Ò<|U Ñ ?_];have aw:b.heap.IsList h N:=⟨_,aI,V,o,V⟩;have cG:h<b.heap.objs.size:=dK aI;have cp:N.size=gu aJ:=by simpa using ap.length
 rw[Y.of<|call_enumerate_list aw λX bq f9 ps aT=>?_];have t:bb [] [] b {b with heap:=X}:=bK.heap (λa k u i=>aT a k i)<|ps▸hf ..;rw[aj _ _ t λA aj=>Y.of<|wpAny_pyIter_enum bq ?_];have bV:∀a∈[b.heap.objs.size+1,b.heap.objs.size],b.heap.objs.size<=a:=λa l=>by
  revert a;rwa[hg ?_]
  .rw[j2 _]
  .intro a l;rw[l_ (bg l).symm]
 rw[aj _ _ _ _ _ _ ⟨mf.ofT (WalksT.enumerate ao.1 _ _ h (by show@Ne Nat _ _;rw[bM (.ne (.o .x) .x) [] Z]) (gQ<|k' cG) (gQ cG) N) (by simp[enumItems,cp]) (λj f qe R cl=>?_) bV t<|λj c a k st l i=>?_,⟨⟨_,bq⟩,f9,aw.at λk i=>aT _ k i⟩,bK.refl ..,λa l=>.inl<|a5 n.1<|bV a l,aR,aR,λa l=>?_⟩]
 .rw[fW cl λD z aQ Ó=>U Ó<|bt (ap.at (by simpa using aQ)) λkX iz ug=>?_];simp only[enumItems,eX,List.getElem?_zipIdx,iz,tu,sg,Fu]at R;subst R;rw[⟨_,V,(q4 _ ⟨_,V,q4 D V,q4 _ ⟨_,V,ug,V⟩⟩)⟩]
 .rw[fb st λÔ el u=>c1 Ô λrr dm=>dw l (λe=>?_) λe=>?_]
  .replace i:=e▸i;rw[show Ű c _=_ from dm]at i;cases i;rw[zG ⟨by show j6 _≠_;decide,by show j6 _≠_;decide⟩]
  .rw[Ga (bg e▸el) i]
 .have dz:∀a∈qg iP p L,a<b.heap.objs.size:=λa l=>cg (I.8 a<|qg.mem I a l) n.1;rw[(?_:a<Ų (ű X)/\_)];simp only[fT,na,or_false]at l;rcases l with rfl|rfl|rfl
  .rw[⟨by rwa[U ps];show@nQ Nat _ _ _;rw[kN _],λe=>absurd (dz _ e) (by show¬@nQ Nat _ _ _;rw[bM (.i5 (.o .x) .x) [] Z])⟩]
  .rw[⟨by rwa[U ps];show@nQ Nat _ _ _;rw[j2 _],λe=>absurd (dz _ e) (by show¬@nQ Nat _ _ _;rw[bM (.i5 .x .x) [] Z])⟩]
  .rw[⟨cg cG<|ps▸hf ..,aS⟩]
noncomputable def zipItems(aJ b8:List bj):List bj:=(aJ.zip b8).map λn=>.tup [n.1,n.2]
theorem zip(aA:g.Ok)(bw:jR g x O y iP E aJ)(bO:jR g x O y iP q b8)(aI:g.gl "zip"=W (.type "zip"))(R:fe O "zip"=ag)(ak:dS E=ag/\dS q=ag):fj g x O y iP (.Tuple az S h4) (.Call (.Name "zip" e) [E,q] [] ax) (zipItems aJ b8):=λs p r L ay aa K ao G I=>by
 subst G;rw[dk.weak (lj I.ok (h3 aA I aI R) V (hZ ak.1 I.ok (bw s p r L ay aa ao V I) w9.hV<|hZ ak.2 I.ok (bO s p r L ay aa ao V I) w9.hV jo) ?_ (by simp[ak]))<|λu n=>n.1];rintro b aV n Õ A aj;rw[d7 Õ λu u Ö Ø Ù=>d7 Ù λu u Ú Û Ü=>U Ö<|mb Ø λh N o Ý aS aI ap=>U Ý<|U Ú<|mb Û λgi ex i7 Þ kb fM gH=>U Þ<|U Ü ?_];have aw:b.heap.IsList h N:=⟨_,aI,V,o,V⟩;have lk:b.heap.IsList gi ex:=⟨_,fM,V,i7,V⟩;have cG:h<b.heap.objs.size:=dK aI;have rl:gi<b.heap.objs.size:=dK fM;have cp:N.size=gu aJ:=by simpa using ap.length
 have Lb:ex.size=gu b8:=by simpa using gH.length
 rw[Y.of<|call_zip_2 aw lk λX ae vu zI af am ps aT=>ds (@nd _ _ _ _ _) ?_];intro dx;have t:bb [] [] b {b with heap:=X}:=bK.heap (λa k u i=>aT a k i)<|ps▸hf ..;rw[aj _ _ t λA aj=>Y.of<|IM ae ?_];have bV:∀a∈[b.heap.objs.size+4,b.heap.objs.size+3,b.heap.objs.size,b.heap.objs.size+1],b.heap.objs.size<=a:=λa l=>by simp only[fT,na,or_false]at l;rcases l with rfl|rfl|rfl|rfl<;>(show@LE.le Nat _ _ _;(first|rw[hf ..]|rw[dr _]|rw[j2 _]))
 rw[aj _ _ _ _ _ _ ⟨mf.ofT (WalksT.zip2 ao.1 (b.heap.objs.size+4) (b.heap.objs.size+2) (b.heap.objs.size+3) b.heap.objs.size (b.heap.objs.size+1) h gi ⟨(by show@Ne Nat _ _;rw[ni 2 (.ne (.a .x<|.n 2)<|.a .x<|.n 4) [] Z]),(by show@Ne Nat _ _;rw[ni 2 (.ne (.a .x<|.n 3)<|.a .x<|.n 4) [] Z]),(by show@Ne Nat _ _;rw[ni 2 (.ne .x<|.a .x<|.n 4) [] Z]),(by show@Ne Nat _ _;rw[ni 2 (.ne (.o .x)<|.a .x<|.n 4) [] Z]),(by show@Ne Nat _ _;rw[ni 2 (.ne (.a .x<|.n 2)<|.a .x<|.n 3) [] Z]),(by show@Ne Nat _ _;rw[bM (.ne (.a .x<|.n 2) .x) [] Z]),(by show@Ne Nat _ _;rw[bM (.ne (.a .x<|.n 2)<|.o .x) [] Z]),(by show@Ne Nat _ _;rw[bM (.ne (.a .x<|.n 3) .x) [] Z]),(by show@Ne Nat _ _;rw[bM (.ne (.a .x<|.n 3)<|.o .x) [] Z]),(by show@Ne Nat _ _;rw[ni 2 (.ne .x<|.o .x) [] Z]),vt cG 4,vt cG 3,vt cG 0,vt cG 1,vt rl 4,vt rl 3,vt rl 0,vt rl 1⟩ N ex) (by simp[zipItems,cp,Lb]) (λj f qe R cl=>?_) bV t<|λj c a k st l i=>?_,⟨ae,vu,⟨_,_,zI⟩,af,am,aw.at λk i=>aT _ k i,lk.at λk i=>aT _ k i⟩,bK.refl ..,λa l=>.inl<|a5 n.1<|bV a l,aR,aR,λa l=>?_⟩]
 .rw[d7 cl λz h5 aQ pm ß=>U ß<|bt (ap.at (z:=z) (by simpa using aQ)) λH Lc Cz=>bt (gH.at (by simpa using pm)) λP Ld zJ=>?_];have i:(aJ.zip b8)[j]?=W (H,P):=by rwa[gW (BN)];rw[⟨Lc,Ld⟩]
  simp only[zipItems,eX,i,tu,Fu]at R;rw[bL R<|⟨_,V,(⟨_,_,V,Cz,_,_,V,zJ,V⟩)⟩]
 .rw[zh st λdm u à uh rw u=>kP à λu u mS=>?_];simp only[fT,na,or_false]at l;rcases l with e|e|e|e<;>replace i:=e▸i
  .rw[show Ű c _=_ from dm]at i;cases i;rw[zG ⟨by show j6 _≠_;decide,by show j6 _≠_;decide⟩]
  .rw[show Ű c _=_ from mS]at i;cases i;rw[zG ⟨by show j6 _≠_;decide,by show j6 _≠_;decide⟩]
  .rw[Ga uh i]
  .rw[Ga rw i]
 .have dz:∀a∈qg iP p L,a<b.heap.objs.size:=λa l=>cg (I.8 a<|qg.mem I a l) n.1;rw[(?_:a<Ų (ű X)/\_)];simp only[fT,na,or_false]at l;rcases l with rfl|rfl|rfl|rfl|rfl|rfl|rfl
  .rw[⟨by rwa[U ps];show@nQ Nat _ _ _;rw[kN _],λe=>absurd (dz _ e) (by show¬@nQ Nat _ _ _;rw[bM (.i5 (.a .x<|.n 4) .x) [] Z])⟩]
  .rw[⟨by rwa[U ps];show@nQ Nat _ _ _;rw[bM (.t (.a .x<|.n 2)<|.a .x<|.n 5) [] Z],λe=>absurd (dz _ e) (by show¬@nQ Nat _ _ _;rw[bM (.i5 (.a .x<|.n 2) .x) [] Z])⟩]
  .rw[⟨by rwa[U ps];show@nQ Nat _ _ _;rw[j2 _],λe=>absurd (dz _ e) (by show¬@nQ Nat _ _ _;rw[bM (.i5 (.a .x<|.n 3) .x) [] Z])⟩]
  .rw[⟨by rwa[U ps];show@nQ Nat _ _ _;rw[bM (.t .x<|.a .x<|.n 5) [] Z],λe=>absurd (dz _ e) (by show¬@nQ Nat _ _ _;rw[bM (.i5 .x .x) [] Z])⟩]
  .rw[⟨by rwa[U ps];show@nQ Nat _ _ _;rw[bM (.t (.o .x)<|.a .x<|.n 5) [] Z],λe=>absurd (dz _ e) (by show¬@nQ Nat _ _ _;rw[bM (.i5 (.o .x) .x) [] Z])⟩]
  .rw[⟨cg cG<|ps▸hf ..,aS⟩]
  .rw[⟨cg rl<|ps▸hf ..,kb⟩]
end fj
noncomputable def ln(O:dA)(f:Str):Bool:=O.names.lookup f==W .local||O.names.lookup f==W .cell
noncomputable def Le(cS:Str->Option aF)(f:Str)(a4:aF):Str->Option Value:=λB=>if B=f then W a4 else cS B
def zK(a:Bool)(p:Env):List Addr:=bif a then[p.locals]else cc p
def qh(a:Bool)(O:dA)(f:Str):Bool:=bif a then O.names.lookup f==W .local else ln O f
theorem zL:∀C∈zK a p,C∈cc p:=λC ae=>by cases a with|true=>rw[(bg ae)▸bB]|false=>rw[ae]
theorem aaL:p.locals∈zK a p:=by cases a with|true=>rw[bB]|false=>rw[bB]
theorem S8(al:p_ p b.heap cS)(T:∀f B h a,p.cells.lookup f=W h->p.cells.lookup B=W a->f≠B->h≠a)(R:qh a p.scope f=ag)(c:∀w,bb (zK a p) [] b w->p_ p w.heap (Le cS f a4)->A () w):Y ſ v s (ws p f a4) A b:=by
 rw[bt al.2 λS ak bk=>?_];have CA:p.kindOf f=W .local\/(a=be/\p.kindOf f=W .cell):=by cases a with|true=>rw[.inl<|eq_of_beq R]|false=>rw[(w6 R).imp id λe=>⟨V,e⟩]
 clear R;rcases CA with R|⟨rfl,R⟩
 .
  rw[(Y.of<|PD R ak (λX mO dy=>?_) (by rwa[U al.1];rfl))];rwa[ds (@nd _ _ _ _ _)];intro dx;have t:bb [p.locals] [] b {b with heap:=X,toks:=b.toks+1}:=bK.same dy;rw[c _ (t.mono (λa l=>bg l▸aaL) aR) ⟨al.1,⟨_,mO,λB a8=>?_⟩,λB a8=>?_⟩]
  .rw[(?_:(if B=f then W a4 else S B)=if B=f then W a4 else cS B)];split
   .rfl
   .rw[bk B a8]
  .rw[bt (al.3 B a8) λh aS aA=>⟨h,aS,?_⟩];have kx:B≠f:=by rintro rfl;rw[R]at a8;rcases a8 with e|e<;>cases e
   have c_:=F3 ak aA;rw[(?_:JM _ h<|if B=f then W a4 else cS B)];rw[U (if_neg kx)<|bt aA λk i x=>⟨k,(dy.2 h c_).trans i,x⟩]
 .rw[bt (al.3 f<|.inl R) λh aS lM=>(Y.of<|PE al.1 R aS lM<|λX ka dy=>?_)];rwa[ds (@nd _ _ _ _ _)];intro dx;have t:=bK.same (ab:=b.toks) dy;have c_:=F3 ak lM;rw[c _ (t.mono (λa l=>bg l▸t3 aS) aR) ⟨al.1,⟨S,ak.at' λk i=>t.1 _ k (λe=>c_ (bg e).symm) i,λB a8=>?_⟩,λB a8=>?_⟩]
  .have kx:B≠f:=by rintro rfl;rw[R]at a8;cases a8
   rw[(bk B a8).trans (if_neg kx).symm]
  .by_cases kx:B=f
   .subst kx;rw[⟨h,aS,by show JM _ h<|if B=B then W a4 else cS B;rwa[U (if_pos V)];rw[ka]⟩]
   .rw[bt (al.3 B a8) λa l aA=>⟨a,l,?_⟩];rw[(?_:JM _ a<|if B=f then W a4 else cS B)];rw[U (if_neg kx)<|bt aA λk i x=>⟨k,(dy.2 a<|T _ _ _ _ l aS kx).trans i,x⟩]
theorem lQ.own{c X:e1}{bz:Slot}{a4:aF}{cL:List aE}(dz:∀C∈cL,C∈r)(aw:bz.loose->∀h,a4=.ref h->h∉cL)(m:∀a k,a∉cL->Ű c a=W k->Ű X a=W k)(q:lQ c r bz a4):lQ X r bz a4:=by have fZ:∀a k,a∉r->Ű c a=W k->Ű X a=W k/\a∉r:=λa k l i=>⟨m a k (λe=>l<|dz a e) i,l⟩;cases bz with|f aG=>rw[ck.to fZ _ _ q]|o aG=>rw[bt q λh i q=>⟨h,i,q.to fZ λk cP=>m h k (aw trivial h i) cP⟩]|b aG=>rw[bt q λh i q=>⟨h,i,q.to fZ λk cP=>m h k (aw trivial h i) cP⟩]
theorem bG.loose(n:bG g p r L aa y b)(I:cx g p r L ay aa):∃cS,p_ p b.heap cS/\(∀f bz,fm y f bz->∃z,cS f=W z/\lQ b.heap r bz z/\(bz.loose->∀h,z=.ref h->h∉cc p))/\(∀f z,fm y f (.o z)->∃h∈L,cS f=W (.ref h)/\∀B aG,B≠f->fm y B (.o aG)->cS B≠W (.ref h))/\(∀f z,fm y f (.b z)->∃h,cS f=W (.ref h)/\h∉L/\h∉cc p):=by rw[jh n.3 λcS al af am a'=>(tP cS al (λf bz R=>bt (af f bz R) λz aQ ap=>(sq z aQ ap λdX h i=>?_)) am a')];subst i;cases bz with|f kY=>rw[dX.elim]|o kY=>rw[fK (am f kY R) λgi kb i u=>?_];replace i:=aQ▸i;cases i;rw[λe=>(I.4 _ e).2.2.1 kb]|b kY=>rw[fK (a' f kY R) λgi i u c=>?_];replace i:=aQ▸i;cases i;rw[c]
theorem iQ(c:fm ((f,aG)::y) B bz):(B=f/\bz=aG)\/(B≠f/\fm y B bz):=by cases c with|here=>rw[.inl ⟨V,V⟩]|there i c=>rw[.inr ⟨λe=>by subst e;simp at i,c⟩]
theorem sF(I:cx g p r L ay aa)(n:bG g p r L aa y b)(ap:ck b.heap r z a4)(R:qh a p.scope f=ag)(c:∀w,bb (zK a p) [] b w->bG g p r L aa ((f,.f z)::y) w->A () w):Y g.prog g.w s (tq p f a4) A b:=SF (by
   rw[jh (n.loose I) λcS al af am a'=>S8 al I.10 R λw t Cj=>c w t ⟨a5 n.1 t.2,n.2.to t<|λC ae=>(I.4 C<|zL C ae).2.1,Le cS f a4,Cj,?_,?_,?_⟩]
   .intro B bz a8;rcases iQ a8 with⟨rfl,rfl⟩|⟨c_,a8⟩
    .rw[⟨a4,if_pos V,lQ.own (λC ae=>(I.4 C<|zL C ae).1) (λe=>e.elim) (λa k l i=>t.1 a k l i) ap⟩]
    .rw[fK (af B bz a8) λaG dX q aw=>⟨aG,(if_neg c_).trans dX,q.own (λC ae=>(I.4 C<|zL C ae).1) (λe h i df=>aw e h i<|zL _ df) λa k l i=>t.1 a k l i⟩]
   .intro B aG a8;rcases iQ a8 with⟨_,e⟩|⟨c_,a8⟩
    .rw[nomatch e]
    .rw[fK (am B aG a8) λh aS i bl=>⟨h,aS,(if_neg c_).trans i,λC D ae bC=>?_⟩];rcases iQ bC with⟨_,e⟩|⟨CB,bC⟩
     .rw[nomatch e]
     .rw[((U (if_neg CB)<|bl C D ae bC):(if C=f then W a4 else cS C)≠_)]
   .intro B aG a8;rcases iQ a8 with⟨_,e⟩|⟨c_,a8⟩
    .rw[nomatch e]
    .rw[fK (a' B aG a8) λh i dm el=>⟨h,(if_neg c_).trans i,dm,el⟩])
theorem cx.more(I:cx g p r L ay aa)(aS:aa<=h)(hr:h<c')(aM:(aB g.s0)<=aa):cx g p (h::r) (h::L) ay c':=⟨(I.1),(I.2),(I.3),(λa l=>⟨mt (I.4 a l).1,(I.4 a l).2.1,λe=>dw e (λe=>b2 (I.8 a (I.4 a l).1)<|e▸aS) (I.4 a l).2.2.1,(I.4 a l).2.2.2⟩),(λa l=>by
  rw[dw l (λi=>?_) λe=>?_]
  .rw[U i<|⟨bB,a5 aM aS,λe=>b2 (I.8 _<|I.6 _ e) aS⟩]
  .rw[⟨mt (I.5 a e).1,(I.5 a e).2⟩]),(λa l=>mt<|I.6 a l),(I.7),(λa l=>dw l (λe=>e▸hr) λe=>BF (cg (I.8 a e) aS) hr),(λa l=>dw l (λe=>.inr<|e▸a5 aM aS) λe=>I.9 a e),(I.10)⟩
theorem iO.some(q:iO c r h z):Ű c h≠aX:=by
 cases z<;>try rw[q.elim]
 .rw[fW q λN o i q=>U i<|λe=>Km e]
 .rw[U (q:Ű c h=_)<|λe=>Km e]
theorem lQ.off(m:∀a k,Ű c a=W k->Ű X a=W k)(aS:∀h∈di,Ű c h=aX)(q:lQ c r bz a4):lQ X (di++r) bz a4/\(bz.loose->∀h∈di,a4≠.ref h):=by have fZ:∀a k,a∉r->Ű c a=W k->Ű X a=W k/\a∉di++r:=λa k l i=>⟨m a k i,by rwa[gW jf<|gW not_or];rw[⟨λe=>(by replace i:=(aS a e)▸i;rw[dN i]),l⟩]⟩;cases bz with|f aG=>rw[⟨ck.to fZ _ _ q,λe=>False.elim e⟩]|o aG=>rw[bt q λa i q=>⟨⟨a,i,q.to fZ λk cP=>m a k cP⟩,λu h rx e=>by replace e:=i▸e;cases e;rw[absurd (aS _ rx) q.some]⟩]|b aG=>rw[bt q λa i q=>⟨⟨a,i,q.to fZ λk cP=>m a k cP⟩,λu h rx e=>by replace e:=i▸e;cases e;rw[absurd (aS _ rx) q.some]⟩]
theorem aaM{A:Unit->au->Prop}{CC:au}{di:List aE}(I:cx g p r L ay aa)(n:bG g p r L aa y CC)(ry:bb [] [] CC b){h:Nat}(rx:∀a∈h::di,(aB CC)<=a)(ap:iO b.heap (h::(di++r)) h z)(R:ln p.scope f=ag)(c:∀w,bb (cc p) [] b w->bG g p (h::(di++r)) (h::L) (aB w) ((f,.o z)::y) w->A () w):Y g.prog g.w s (tq p f<|.ref h) A b:=by
 rw[jh (n.loose I) λcS al af am a'=>?_];have c_:∀a∈h::di,Ű (Q7 CC) a=aX:=λa l=>fY<|rx a l;have ik:∀a k,Ű (Q7 CC) a=W k->b.heap.get? a=W k:=λa k i=>ry.1 a k (λe=>db e) i;have dZ:∀a∈r,a≠h:=λa l e=>b2 (cg (I.8 a l) n.1)<|e▸(rx h bB);have t':h∉cc p:=λe=>dZ h (I.4 h e).1 V;have zM:∀B bz,fm y B bz->∃z,cS B=W z/\lQ b.heap (h::(di++r)) bz z/\(bz.loose->z≠.ref h/\∀a,z=.ref a->a∉cc p):=λB bz a8=>let⟨z,i,q,aw⟩:=af B bz a8
  ⟨z,i,(q.off ik c_).1,λe=>⟨(q.off ik c_).2 e h bB,aw e⟩⟩;rw[SF<|S8 (a:=be) (al.keeps λa u k i=>ik a k i) I.10 R λw t Cj=>c w t ⟨dr _,(n.2.to ry<|λC ae=>db ae).to t<|λC ae=>(I.4 C ae).2.1,Le cS f<|.ref h,Cj,?_,?_,?_⟩]
 .intro B bz a8;rcases iQ a8 with⟨rfl,rfl⟩|⟨c_,a8⟩
  .rw[⟨_,if_pos V,lQ.own (bz:=.o z) (λC ae=>mt<|bR (I.4 C ae).1) (λu a i=>by cases i;rw[t']) (λa k l i=>t.1 a k l i) ⟨h,V,ap⟩⟩]
  .rw[fK (zM B bz a8) λaG dX q aw=>⟨aG,(if_neg c_).trans dX,q.own (λC ae=>mt<|bR (I.4 C ae).1) (λe=>(aw e).2) λa k l i=>t.1 a k l i⟩]
 .intro B aG a8;rcases iQ a8 with⟨kx,e⟩|⟨c_,kZ⟩
  .cases e;rw[⟨h,bB,if_pos kx,λC D ae bC=>?_⟩];rcases iQ bC with⟨e,_⟩|⟨CB,sG⟩
   .rw[absurd (e.trans kx.symm) ae]
   .rw[((U (if_neg CB) ?_):(if C=f then _ else cS C)≠_)];intro i;rw[fK (zM C _ sG) λv bV q aw=>?_];rw[i]at bV;cases bV;rw[(aw trivial).1 V]
  .rw[fK (am B aG kZ) λa l i bl=>⟨a,mt l,(if_neg c_).trans i,λC D ae bC=>?_⟩];rcases iQ bC with⟨á,e⟩|⟨CB,sG⟩
   .rw[((U (if_pos á) ?_):(if C=f then _ else _)≠_)];intro e;cases e;rw[fK (zM B _ kZ) λv bV q aw=>?_];rw[i]at bV;cases bV;rw[(aw trivial).1 V]
   .rw[((U (if_neg CB)<|bl C D ae sG):(if C=f then _ else cS C)≠_)]
 .intro B aG a8;rcases iQ a8 with⟨_,e⟩|⟨c_,kZ⟩
  .cases e
  .rw[fK (a' B aG kZ) λa i dm el=>⟨a,(if_neg c_).trans i,λe=>dw e (λe=>?_) λe=>?_,el⟩]
   .rw[fK (zM B _ kZ) λv bV q aw=>?_];rw[i]at bV;cases bV;rw[(aw trivial).1<|U e V]
   .rw[dm e]
noncomputable def zN(p:Env)(o:Str)(m:sc)(ch:List<|Str×aE):List (Str×aE):=bif m==.free then(match p.cells.lookup o with|some h=>(o,h)::ch|none=>ch)else ch
def hs(p:Env):List (Str×sc)->List (Str×aE)->List (Str×aE)|[],ch=>ch|(o,m)::q,ch=>hs p q<|zN p o m ch
theorem aaN(eH:List<|Str×sc):∀(ch:List<|Str×aE),(∀n∈eH,n.2=.free->∃h,p.cells.lookup n.1=W h)->(forIn eH ch λf q=>match f with|(name,SV)=>if(SV==.free)=ag then do let B<-cellOf p name;dB (so<|(name,B)::q)else dB (so q):Sem<|List<|Str×aE)=dB (hs p eH ch):=by induction eH with|nil=>intro ch eM;rwa[U BO];rfl|cons h2 q a3=>obtain⟨o,m⟩:=h2;intro ch c;have aW:=λch=>a3 ch λn aO=>c n<|mt aO;rwa[U (u8 ..)];rw[(?_:_=(dB (hs p q<|zN p o m ch):Sem _))];unfold zN;cases aT:m==.free with
  |true=>
   rw[c1 (c (o,m) bB<|eq_of_beq aT) λh aS=>?_]
   dsimp only at aS⊢;rw[if_pos aT,aS];unfold cellOf;rw[Fm aS▸aW _]|false=>dsimp only;rw[Fm (if_neg λe=>iJ<|aT.symm.trans e)▸aW _]
theorem Lf(c:∀n∈a2.names,n.2=.free->∃h,p.cells.lookup n.1=W h):wu a2 p=dB (hs p a2.names []):=by have:=aaN a2.names [] c;rw[congrArg (λD=>D>>=λE=>(dB E)) this]
theorem S9(c:∀n∈ch,p.cells.lookup n.1=W n.2):∀n∈zN p o m ch,p.cells.lookup n.1=W n.2:=λn aO=>by unfold zN at aO;cases aT:m==.free with|false=>rw[aT]at aO;rw[c n aO]|true=>rw[aT]at aO;cases aS:p.cells.lookup o with|none=>rw[aS]at aO;rw[c n aO]|some h=>rw[aS]at aO;rw[dw aO (λe=>by subst e;rw[aS])<|c n]
theorem CD(eH:List<|Str×sc):∀(ch:List<|Str×aE),(∀n∈ch,p.cells.lookup n.1=W n.2)->∀n∈hs p eH ch,p.cells.lookup n.1=W n.2:=by induction eH with|nil=>rw[λch c=>c]|cons h2 q a3=>rw[λch c=>a3 _<|S9 c]
theorem Lg(a8:p.cells.lookup B=W h)(eH:List<|Str×sc):∀(ch:List<|Str×aE),(∀n∈ch,p.cells.lookup n.1=W n.2)->(ch.lookup B=W h\/(B,.free)∈eH)->(hs p eH ch).lookup B=W h:=by induction eH with|nil=>rw[λch aS c=>c.elim id λe=>db e]|cons h2 q a3=>
  obtain⟨o,m⟩:=h2;intro ch aS c;rwa[a3 _ (S9 aS)];unfold zN;rcases c with c|c
  .rw[.inl ?_];cases m==.free with|false=>rw[c]|true=>cases l:p.cells.lookup o with|none=>rw[c]|some a=>
     by_cases i:B=o
     .subst i;replace l:=a8▸l;cases l;simp
     .rw[U tA<|U (beq_false_of_ne i) c]
  .rw[dw c (λe=>?_) .inr];cases e;rw[.inl ?_];rw[a8,];simp
noncomputable def ey(a2 O:dA):Scope:={a2 with names:=a2.names.map λ(o,m)=>if(m==.free&&O.kind==.function&&O.names.lookup o==W .cell)then(o,.cell)else(o,m)}
noncomputable def Slot.Iv:Slot->Slot|.f z=>.f z|.o z=>.b z|.b z=>.b z
noncomputable def rz(O:dA)(f:Str):Bool:=O.names.lookup f==W .cell||O.names.lookup f==W .free
def gK(O:dA):b_->b_|[]=>[]|(f,bz)::y=>bif rz O f then(f,bz.Iv)::gK O y else gK O y
theorem CE{y:b_}:∀{f:Str}{bz:Slot},fm (gK O y) f bz->rz O f=ag/\∃mg,fm y f mg/\bz=mg.Iv:=by induction y with|nil=>intro fl eM c;rw[nomatch c]|cons h2 y a3=>obtain⟨B,aG⟩:=h2;intro f bz c;replace c:fm (bif rz O B then(B,aG.Iv)::gK O y else gK O y) f bz:=c;cases i:rz O B with
  |true=>
   rw[i,cond_true]at c;rcases iQ c with⟨rfl,rfl⟩|⟨c_,c⟩
   .rw[⟨i,(dj aG .here V)⟩]
   .rw[c0 (a3 c) λaf cB=>bt cB λmg am a'=>⟨af,(dj mg (.there (beq_false_of_ne<|ib c_) am) a')⟩]|false=>rw[i,cond_false]at c;rw[c0 (a3 c) λaf dt=>bt dt λmg am a'=>⟨af,(dj mg (.there ?_ am) a')⟩];rw[beq_false_of_ne λe=>by subst e;rw[i]at af;rw[iJ af]]
def n3(a2 O:dA):Bool:=a2.kind==.function&&a2.names.all (λn=>n.2 !=.cell)&&a2.names.all (λn=>n.2 !=.free||rz O n.1)&&a2.names.all (λn=>n.2 !=.local||a2.names.lookup n.1==W .local)
theorem Lh(c:n3 a2 O=ag):a2.kind=.function/\(∀B∈a2.names,B.2≠.cell)/\(∀n∈a2.names,n.2=.free->rz O n.1=ag)/\(∀B∈a2.names,B.2=.local->a2.names.lookup B.1=W .local):=by unfold n3 at c;simp only[ir,beq_iff_eq,hH,bne_iff_ne,EG]at c;rw[c0 c λbN cJ=>c0 bN λfw a'=>c0 fw λaf am=>⟨af,am,λn aO e=>(a' n aO).elim (λC=>absurd e C) id,λn aO e=>(cJ n aO).elim (λC=>absurd e C) id⟩]
theorem aaO{E:List<|Str×sc}:E.lookup f=W m->(f,m)∈E:=by induction E with|nil=>intro c;rw[dN c]|cons h2 q a3=>obtain⟨B,fN⟩:=h2;intro c;rw[tA]at c;cases i:f==B with|true=>replace c:=i▸c;cases c;rw[U (eq_of_beq i) bB]|false=>replace c:=i▸c;rw[mt<|a3 c]
theorem aaP(aT:∀n∈a2.names,n.2≠.cell)(c:rz (ey a2 O) B=ag):(B,.free)∈a2.names:=by
 have:∃m,(ey a2 O).names.lookup B=W m/\(m=.cell\/m=.free):=(w6 c).elim (λe=>dj _ e<|.inl V) λe=>dj _ e<|.inr V;rw[bt this λm af am=>mL (aaO af) λfd aO i=>?_];obtain⟨o,fN⟩:=fd
 dsimp only at i;split at i
 .rename_i e;cases i;simp only[ir,beq_iff_eq]at e;rw[bL e.1.1 aO]
 .cases i;rcases am with rfl|rfl
  .rw[absurd V<|aT _ aO]
  .rw[aO]
theorem Li(aA:g.Ok)(I:cx g p r L ay aa)(aT:n3 a2 p.scope=ag)(eI:aa<=aP)(â:aP∈bx)(f8:∀a∈r,a∈bx)(hr:∀a∈bx,a<c')(aM:Ų (ű (Q7 g.s0))<=aa)(ã:∀a∈bx,a∈r\/aa<=a)(hk:∀a∈cQ,(aa<=a\/(a∈r/\Ų (ű (Q7 g.s0))<=a/\a∉cc p))/\a∈bx/\aP≠a):cx g (l9 a2 (hs p a2.names []) aP p) bx cQ g.tabs c':=by
 rw[lG (Lh aT) λi5 ff ui sH=>?_];have p':∀n∈hs p a2.names [],n.2∈cc p:=λn aO=>t3<|CD a2.names [] aR n aO;rw[⟨i5,I.2,I.3,λh aS=>?_,λh aS=>have aw:=(hk h aS).1.elim (λe=>a5 aM e) λe=>e.2.1
  ⟨(hk h aS).2.1,aw,λe=>b2 (aA.6 _ e) aw⟩,λh aS=>f8 h<|I.6 h<|I.7 h aS,λh aS=>aS,hr,λh aS=>?_,λf B h a aS l c_=>?_⟩]
 .rcases fT.mp aS with rfl|aS
  .rw[⟨â,a5 aM eI,(λe=>(hk _ e).2.2 V),λe=>b2 (aA.6 _ e)<|a5 aM eI⟩]
  .rw[mL aS λn aO gS=>bL gS ?_];have:=I.4 _<|p' n aO;rw[⟨f8 _ this.1,this.2.1,(λe=>(hk _ e).1.elim (λC=>b2 (I.8 _ this.1) C) λC=>C.2.2<|p' n aO),λe=>b2 (aA.6 _ e) this.2.1⟩]
 .rcases ã h aS with e|e
  .rw[I.9 h e]
  .rw[.inr<|a5 aM e]
 .rw[bt (by have:(hs p a2.names []).lookup f=W h:=aS;clear l;generalize hs p a2.names []=E at this;induction E with|nil=>rw[dN this]|cons e E aW=>obtain⟨C,v⟩:=e;rw[tA]at this;cases i:f==C with|true=>replace this:=i▸this;cases this;rw[⟨_,bB,U (eq_of_beq i) V⟩]|false=>replace this:=i▸this;rw[bt (aW this) λn af am=>?_];rw[⟨n,mt af,am⟩]:∃n∈hs p a2.names [],n=(f,h)) λn aO i=>?_];rw[bt (by have:(hs p a2.names []).lookup B=W a:=l;clear aS aO;generalize hs p a2.names []=E at this;induction E with|nil=>rw[dN this]|cons e E aW=>obtain⟨C,v⟩:=e;rw[tA]at this;cases i:B==C with|true=>replace this:=i▸this;cases this;rw[⟨_,bB,U (eq_of_beq i) V⟩]|false=>replace this:=i▸this;rw[bt (aW this) λn af am=>?_];rw[⟨n,mt af,am⟩]:∃n∈hs p a2.names [],n=(B,a)) λbs rv cP=>?_];subst i cP;rw[I.10 f B h a (CD a2.names [] aR _ aO) (CD a2.names [] aR _ rv) c_]
theorem Lj(I:cx g p r L ay aa)(n:bG g p r L aa y as)(aT:n3 a2 p.scope=ag)(t:bb [] [] as b)(eI:(aB as)<=aP)(ak:b.heap.Ns aP S)(hr:c'<=(aB b))(f8:∀a∈bx,a∈r\/Ű (Q7 as) a=aX)(hk:∀a∈cQ,(aB as)<=a\/∀k,Ű (Q7 as) a=W k->uc k):bG g (l9 a2 (hs p a2.names []) aP p) bx cQ c' (gK (ey a2 p.scope) y) b:=by
 rwa[ds (@l9 _ _ _ _)];intro dx;rw[lG (Lh aT) λi5 ff ui sH=>jh (n.loose I) λcS al af am a'=>?_];have ik:∀a k,Ű (Q7 as) a=W k->b.heap.get? a=W k:=λa k i=>t.1 a k (λe=>db e) i;have p':∀n∈hs p a2.names [],n.2∈cc p:=λn aO=>t3<|CD a2.names [] aR n aO;rw[⟨hr,n.2.to t aR,λB=>if(ey a2 p.scope).names.lookup B=W .local then S B else cS B,⟨i5,⟨S,ak,λB a8=>Fm (if_pos a8)⟩,λB a8=>?_⟩,λB bz a8=>?_,λB aG a8=>?_,λB aG a8=>?_⟩]
 .have kZ:rz (ey a2 p.scope) B=ag:=by unfold rz;rw[hp (a8) (λa8=>Fm (show(ey a2 p.scope).names.lookup B=W .cell from a8)▸V) λa8=>Fm (show(ey a2 p.scope).names.lookup B=W .free from a8)▸V]
  have bi:=aaP ff kZ;have nq:=ui _ bi V;have:p.kindOf B=W .cell\/p.kindOf B=W .free:=w6 nq;rw[bt (al.3 B this) λh aS gT=>bt gT λk i bU=>⟨h,Lg aS a2.names [] aR<|.inr bi,k,ik _ _ i,?_⟩];rw[if_neg,]
  .rw[bU]
  .intro e;rcases a8 with a8|a8<;>(have kZ:(ey a2 p.scope).names.lookup B=_:=a8;rw[e]at kZ;rw[nomatch kZ])
 .rw[c0 (CE a8) λnq hK=>bt hK λmg kZ jp=>U jp<|fK (af B mg kZ) λz aQ ap aw=>⟨z,?_,?_⟩]
  .rw[(if_neg ?_).trans aQ];intro e;unfold rz at nq;replace nq:=e▸nq;rw[iJ nq]
  .have fZ:∀a k,a∉r->Ű (Q7 as) a=W k->b.heap.get? a=W k/\a∉bx:=λa k l i=>⟨ik a k i,λe=>(f8 a e).elim l λC=>by replace i:=C▸i;rw[dN i]⟩;cases mg with
   |f aG=>rw[ck.to fZ _ _ ap]|o aG=>rw[bt ap λh i q=>?_];rw[⟨h,i,q.to fZ λk i=>ik _ k i⟩]|b aG=>rw[bt ap λh i q=>?_];rw[⟨h,i,q.to fZ λk i=>ik _ k i⟩]
 .rw[c0 (CE a8) λu j'=>bt j' λmg u i=>?_];cases mg<;>rw[nomatch i]
 .rw[c0 (CE a8) λnq kW=>bt kW λmg kZ i=>fK (af B mg kZ) λz aQ ap aw=>?_];have ä:¬(ey a2 p.scope).names.lookup B=W .local:=by intro e;unfold rz at nq;replace nq:=e▸nq;rw[iJ nq]
  have cK:∀h kY,z=.ref h->mg.loose->iO as.heap r h kY->∃h,(λB=>if(ey a2 p.scope).names.lookup B=W .local then S B else cS B) B=W (.ref h)/\h∉cQ/\h∉cc (l9 a2 (hs p a2.names []) aP p):=by
   intro h kY aS dy aL;have c_:=aL.some;rw[⟨h,(if_neg ä).trans<|aS▸aQ,λe=>?_,λe=>?_⟩]
   .rw[hp (hk _ e) (λC=>?_) λC=>?_]
    .rw[c_<|fY C]
    .cases kY<;>try rw[aL.elim]
     .rw[fW aL λN o i u=>(C _ i).1 _ _ V]
     .rw[(C _ aL).2 _ V]
   rw[dw e (λe=>?_) λe=>?_]
   .rw[c_<|e▸fY eI]
   .rw[mL e λn aO mR=>?_];obtain rfl:=mR;rw[aw dy _ aS<|p' n aO]
  cases mg with
  |f aG=>rw[nomatch i]|o kY=>rw[bt ap λh i q=>?_];rw[cK h _ i trivial q]|b kY=>rw[bt ap λh i q=>?_];rw[cK h _ i trivial q]
theorem S_:¬fm (gK O y) f (.o z):=λc=>by rw[c0 (CE c) λu eh=>bt eh λmg u i=>?_];cases mg<;>cases i
def gk:b_->b_->Prop|[],cR=>True|(f,bz)::q,y=>gj y f=W bz/\gk q y
theorem g9{bP:b_}:∀{y:b_},bP.map (λn=>gj y n.1)=bP.map (λn=>W n.2)->gk bP y:=by induction bP with|nil=>intro fl eM;rw[trivial]|cons cR e3 a3=>intro fl c;rw[⟨(wK c).1,a3 (wK c).2⟩]
theorem gk.has{bP:b_}:∀{y:b_}{f:Str}{bz:Slot},gk bP y->fm bP f bz->fm y f bz:=by induction bP with
 |nil=>intro fl eM hq n0 c;rw[nomatch c]|cons h2 q a3=>
  obtain⟨B,aG⟩:=h2;intro y f bz aw c;rcases iQ c with⟨rfl,rfl⟩|⟨_,c⟩
  .rw[sD aw.1]
  .rw[a3 aw.2 c]
theorem bG.le(n:bG g p r L aa y b)(c:∀f bz,fm bP f bz->fm y f bz):bG g p r L aa bP b:=by rw[jh n.3 λcS al af am a'=>⟨n.1,n.2,cS,al,λf bz R=>af f bz<|c f bz R,λf z R=>fK (am f z<|c _ _ R) λh aS i bl=>⟨h,aS,i,λB aG a8 bC=>bl B aG a8<|c _ _ bC⟩,λf z R=>a' f z<|c _ _ R⟩]
noncomputable def S':bJ->Option Str|.Name f cR=>W f|_=>aX
theorem aaQ{i:bJ}{f:Str}{aD:Prop}(c:S' i=W f)(m:∀n,i=.Name f n->aD):aD:=by cases i<;>first|rw[dN c]|rw[m _ (congrArg (Expr.Name · _)<|md c)]
def pt:List bJ->Option (List Str)|[]=>W []|i::az=>(S' i).bind λf=>(pt az).map (f::·)
theorem Ta{az:List bJ}:∀{aJ:List Str},pt az=W aJ->zC az aJ:=by induction az with|nil=>intro aJ c;cases c;rw[.nil]|cons i az a3=>intro aJ c;rw[bt (I0.mp c) λf R c=>aaQ R λn e=>bt (yR.mp c) λb8 a8 bN=>e▸bN▸.cons (a3 a8)]
noncomputable def pu:List Str->List bj->b_->b_|f::aJ,z::N,y=>pu aJ N<|(f,.f z)::y|cR,e3,y=>y
def k0(cn:bJ)(z:bj)(y:b_):b_:=match cn,z with|.Name f cR,z=>(f,.f z)::y|.Tuple az cR e3,.tup N=>pu ((pt az).getD []) N y|cR,e3=>y
def mT(a:Bool)(O:dA)(cn:bJ)(z:bj):Prop:=match cn,z with|.Name f _,_=>qh a O f=ag|.Tuple az _ _,.tup N=>∃aJ,pt az=W aJ/\gu N=gu aJ/\aJ.all (qh a O)=ag|_,_=>False
theorem Lk{M:b_->Prop}{cn:bJ}{z:bj}{y:b_}(af:∀f n,cn=.Name f n->M ((f,.f z)::y))(am:∀az m n N,cn=.Tuple az m n->M (pu ((pt az).getD []) N y))(a':M y):M (k0 cn z y):=by cases cn with
 |Name f n=>rw[af f n V]|Tuple az m n=>cases z with
  |tup N=>rw[am az m n N V]|_=>rw[a']
 |_=>rw[a']
theorem aaR{a:Bool}{O:dA}{cn:bJ}{z:bj}(c:mT a O cn z){aD:Prop}(af:∀f n,cn=.Name f n->qh a O f=ag->aD)(am:∀az m n N aJ,cn=.Tuple az m n->z=.tup N->pt az=W aJ->gu N=gu aJ->aJ.all (qh a O)=ag->aD):aD:=by cases cn with
 |Name f n=>rw[af f n V c]|Tuple az m n=>cases z with
  |tup N=>rw[c.elim λaJ e=>am az m n N aJ V V e.1 e.2.1 e.2.2]|_=>rw[c.elim]
 |_=>rw[c.elim]
theorem aaS(I:cx g p r L ay aa):∀{az:List bJ}{aJ:List Str}{N:List bj}{aV:List aF}{y:b_}{b:au},zC az aJ->(∀f∈aJ,qh a p.scope f=ag)->bG g p r L aa y b->b9 b.heap r N aV->gu N=gu aJ->(∀w,bb (zK a p) [] b w->bG g p r L aa (pu aJ N y) w->A () w)->Y g.prog g.w s (EY ((ww az p).map (·.2)) aV) A b:=by intro az aJ N aV y b ak aL n ap aw c;induction ak generalizing N aV y b with
 |nil=>cases N with|nil=>rw[Y.eq ((ap:_=[])▸V)<|Y.pure<|c b (bK.refl ..) n]|cons _ _=>cases aw
 |@cons f ax az aJ ak aW=>cases N with
  |nil=>cases aw|cons z N=>
    rw[d7 ap λg aV fw dY eN=>U fw ?_]
    .rw[((Y.bind<|Y.holding<|Y.eq (EZ ..)<|Y.bind<|Y.of<|qU<|sF I n dY (aL f bB) λas aK dd=>aW (λB a8=>aL B<|mt a8) dd (b9.to (λa k l i=>⟨aK.1 a k (λe=>l (I.4 a<|zL _ e).1) i,l⟩) _ _ eN) (by simpa using aw) λar a7 dD=>c ar (aK.trans a7) dD):Y _ _ s (holding aV (assign (.Name f ax) p g)>>=λu=>EY ((ww az p).map (·.2)) aV) A b)]
theorem w'{a:Bool}{cn:bJ}{A:Unit->au->Prop}(cO:s.handled=aX)(I:cx g p r L ay aa)(n:bG g p r L aa y b)(ap:vs cn b.heap r z a4)(bC:mT a p.scope cn z)(c:∀w,bb (zK a p) [] b w->bG g p r L aa (k0 cn z y) w->A () w):Y g.prog g.w s (assign cn p a4) A b:=by
 rw[aaR bC (λf h4 bH bC=>?_) λaz m pv N aJ bH cm ak aw aL=>?_]
 .subst bH;rw[Y.eq (EZ ..)<|Y.bind<|Y.of<|qU<|sF I n ap bC c]
 .subst bH cm;rw[mb ap λb8 a1 qe i dt cV ap=>U dt ?_];cases i;rw[Y.bind<|Y.of<|qU ?_];unfold unpack;rw[c0 (aaw<|Ta ak) λbH cm=>U bH<|Fm cm▸?_];have cp:qe.size=gu aJ:=by have:=ap.length;simp at this;rw[kU 221 0 (.e .x .y) [.e .z .y,.e .x .z] Z aw this]
  rw[bL cp<|Y.bind<|Y.holding<|kv<|Y.of<|PG cO cV λX bq C=>?_];have t:bK [] b {b with heap:=X}:=bK.heap (λa k u i=>bq a k (gQ<|dK i) i) C.1;rw[aaS I (Ta ak) (hH.mp aL) (n.grow t) (b9.to (λa k l i=>⟨t.1 a k (λc=>db c) i,l⟩) _ _ ap) aw λw cd bs=>c w ((t.mono (λu c=>db c) λu c=>c).trans cd) ((U ak bs):bG g p r L aa (pu ((pt az).getD []) N y) w)]
def AccAt(c:e1)(r:List aE)(av:aE)(b8:List bj):Prop:=∃N,c.PlainList av N/\b9 c r b8 N.toList
theorem AccAt.to{c X:e1}{av:aE}{b8:List bj}{cL:List aE}(m:∀a k,a∉cL->Ű c a=W k->Ű X a=W k)(dz:∀C∈cL,C∈r)(c7:av∉cL)(q:AccAt c r av b8):AccAt X r av b8:=bt q λN n q=>⟨N,n.at λk i=>m _ k c7 i,b9.to (λa k l i=>⟨m a k (λe=>l<|dz a e) i,l⟩) _ _ q⟩
def jS(g:ea)(x:Nat)(O:dA)(eG:List lC)(dT:bJ)(a2:dA)(ax:Pos)(Q:Nat)(ii:List bJ)(y:b_)(oH:List bj):Prop:=∀(s:cq)(p:Env)(r L ay:List aE)(aa:Nat)(av:aE),eW x s->p.scope=O->cx g p r L ay aa->av∈L->(∀f z,¬fm y f (.o z))->∀(b8:List bj)(b:au),gu b8+gu oH<=cy->bG g p r L aa y b->AccAt b.heap r av b8->∀A:Unit->au->Prop,(∀w,bb [av,p.locals] [] b w->bG g p r L aa y w->AccAt w.heap r av (b8++oH)->A () w)->Y g.prog g.w s (vp dT eG a2 ax Q (.ref av) p ii) A b
def vv(g:ea)(x:Nat)(O:dA)(y:b_)(ii:List bJ)(a:Bool):Prop:=match ii with|[]=>a=ag|[D]=>ei g x O y D a|_=>False
theorem vv.bF(c:vv g x O y ii a)(ao:eW x s)(G:p.scope=O)(I:cx g p r L ay aa)(n:bG g p r L aa y b)(aj:∀w,bb [] [] b w->A a w):Y g.prog g.w s (Cs ii p) A b:=by
 unfold vv at c;split at c
 .replace aj:=c▸aj;rw[Y.pure<|aj b<|bK.refl ..]
 .rw[c s p r L ay aa ao G I b A n aj]
 .rw[c.elim]
theorem bG.AG(n:bG g p r L aa y b)(I:cx g p r L ay aa)(dz:∀C∈cL,C∈L)(t:bb cL aD b w)(lP:∀j∈aD,g.s0.gens.size<=j)(k1:∀f z,¬fm y f (.o z)):bG g p r L aa y w:=by rw[jh n.3 λcS al af am a'=>⟨a5 n.1 t.2,n.2.toG t (λC ae=>(I.5 C<|dz C ae).2.1) lP,cS,al.keeps λa l k i=>t.1 a k (λe=>(I.4 a l).2.2.1<|dz a e) i,λf bz R=>bt (af f bz R) λz aQ q=>⟨z,aQ,q.own (λC ae=>(I.5 C<|dz C ae).1) (λe h i df=>?_) λa k l i=>t.1 a k l i⟩,am,a'⟩];subst i;cases bz with|f aG=>rw[e.elim]|o aG=>rw[k1 _ _ R]|b aG=>rw[fK (a' f aG R) λgi i c u=>?_];rw[aQ]at i;cases i;rw[c<|dz _ df]
theorem bG.Pk(n:bG g p r L aa y b)(I:cx g p r L ay aa)(dz:∀C∈cL,C∈L)(t:bb cL [] b w)(k1:∀f z,¬fm y f (.o z)):bG g p r L aa y w:=n.AG I dz t aR k1
theorem AccAt.grow(m:∀a k,Ű c a=W k->Ű X a=W k)(q:AccAt c r av b8):AccAt X r av b8:=q.to (λa k u i=>m a k i) aR<|λe=>nomatch e
theorem bb.all(t:bb [] [] b w):∀a k,b.heap.get? a=W k->Ű (Q7 w) a=W k:=λa k i=>t.1 a k (λe=>nomatch e) i
theorem jS.one(aI:eG[Q+1]?=aX)(T:vv g x O y ii ag)(c:ai g x O y dT m z)(aT:m≠.ls:=by decide):jS g x O eG dT a2 ax Q ii y [z]:=by
 intro s p r L ay aa av ao G I c7 k1 b8 b ae n ch A aj;rw[Y.bind<|T.bF ao G I n λas aK=>tY V<|U aI<|Y.bind<|(c.hA aT) s p r L ay aa ao G I as _ (n.grow aK) λB ar a7 a8=>bt ((ch.grow aK.all).grow a7.all) λN aO ap=>?_];have cp:N.size=gu b8:=by simpa using ap.length
 rw[dC<|II aO (λX lk dy=>Y.pure ?_)<|cp▸a5 (hf _ _) ae];have rA:=bK.same (ab:=ar.toks) dy;rw[aj _ ((aK.trans a7).mono aR (λu c=>c)|>.trans (rA.mono (λa l=>bg l▸bB) λu c=>c)) (((n.grow aK).grow a7).Pk I (cL:=[av]) (λC ae=>bg ae▸c7) rA k1) ⟨_,lk,(U BY ?_)⟩];have fZ:∀a k,a∉r->Ű (Q7 ar) a=W k->Ű X a=W k/\a∉r:=λa k l i=>⟨rA.1 a k (λe=>l<|bg e▸((I.5 av c7).1)) i,l⟩;rw[b9.append ?_<|b9.to fZ _ _ ap];rw[⟨B,[],V,ck.to fZ _ _ a8,by rw[V]⟩]
theorem jS.skip(T:vv g x O y ii be):jS g x O eG dT a2 ax Q ii y []:=by intro s p r L ay aa av ao G I c7 k1 b8 b ae n ch A aj;rw[Y.bind<|T.bF ao G I n λas aK=>gR bf<|Y.pure<|aj as (aK.mono aR λu c=>c) (n.grow aK) (by rwa[U (tB ..)];rw[ch.grow aK.all])]
theorem cx.wide(I:cx g p r L ay aa)(bV:∀a∈aZ,aa<=a/\a<c')(aM:(aB g.s0)<=aa)(hr:aa<=c'):cx g p (aZ++r) (aZ++L) ay c':=⟨(I.1),(I.2),(I.3),(λa l=>⟨bR (I.4 a l).1,(I.4 a l).2.1,λe=>bS e (λe=>b2 (I.8 a (I.4 a l).1) (bV a e).1) (I.4 a l).2.2.1,(I.4 a l).2.2.2⟩),(λa l=>bS l (λe=>⟨b7 e,a5 aM (bV a e).1,λdf=>b2 (I.8 _<|I.6 _ df) (bV a e).1⟩) λe=>⟨bR (I.5 a e).1,(I.5 a e).2⟩),(λa l=>bR<|I.6 a l),(I.7),(λa l=>bS l (λe=>(bV a e).2) λe=>cg (I.8 a e) hr),(λa l=>bS l (λe=>.inr<|a5 aM (bV a e).1) λe=>I.9 a e),(I.10)⟩
theorem bG.wide(n:bG g p r L aa y b)(t:bb [] [] b w)(bV:∀a∈aZ,(aB b)<=a):bG g p (aZ++r) (aZ++L) (aB w) y w:=by
 rw[jh n.3 λcS al af am a'=>?_];have ik:=t.all;rw[⟨dr _,n.2.to t aR,cS,al.keeps λa u k i=>ik a k i,λf bz R=>?_,λf z R=>?_,λf z R=>?_⟩]
 .rw[bt (af f bz R) λz aQ q=>⟨z,aQ,?_⟩];have fZ:∀a k,a∉r->b.heap.get? a=W k->Ű (Q7 w) a=W k/\a∉aZ++r:=λa k l i=>⟨ik a k i,by rwa[gW jf<|gW not_or];rw[⟨λe=>b2 (dK i)<|bV a e,l⟩]⟩;cases bz with
  |f aG=>rw[ck.to fZ _ _ q]|o aG=>rw[bt q λh i q=>?_];rw[⟨h,i,q.to fZ λk i=>ik _ k i⟩]|b aG=>rw[bt q λh i q=>?_];rw[⟨h,i,q.to fZ λk i=>ik _ k i⟩]
 .rw[fK (am f z R) λh aS i bl=>⟨h,bR aS,i,bl⟩]
 .rw[fK (a' f z R) λh i dm el=>⟨h,i,λe=>bS e (λe=>bt (af f _ R) λh5 aQ bN=>bt bN λgi cP q=>?_) dm,el⟩];rw[i]at aQ;cases aQ;cases cP;rw[b2 q.lt<|bV _ e]
theorem lQ.sub(q:lQ c r bz a4)(G:∀B∈a_,B∈r):lQ c a_ bz a4:=by cases bz with|f aG=>rw[ck.sub q G]|o aG=>rw[bt q λh i q=>?_];rw[⟨h,i,q.sub G⟩]|b aG=>rw[bt q λh i q=>?_];rw[⟨h,i,q.sub G⟩]
theorem bG.narrow(n:bG g p r L aa y b)(cC:∀a∈bx,a∈r)(hk:∀a∈cQ,a∈L)(hr:c'<=(aB b))(k1:∀f z,¬fm y f (.o z)):bG g p bx cQ c' y b:=by rw[jh n.3 λcS al af am a'=>⟨hr,n.2,cS,al,λf bz R=>bt (af f bz R) λz aQ q=>⟨z,aQ,q.sub cC⟩,λf z R=>(k1 f z R).elim,λf z R=>let⟨h,i,dm,el⟩:=a' f z R;⟨h,i,λe=>dm<|hk h e,el⟩⟩]
def AllP{a9 cN:Type}(M:a9->cN->Prop)(aJ:List a9)(b8:List cN):Prop:=aJ.length=gu b8/\∀(j:Nat)f B,aJ[j]?=W f->b8[j]?=W B->M f B
def sI(cn:bJ)(z:bj)(y:b_):Prop:=∀B bz,fm y B bz->fm (k0 cn z y) B bz
theorem Tb:∀{aJ:List Str}{N:List bj}{y:b_},(∀f z,¬fm y f (.o z))->∀f z,¬fm (pu aJ N y) f (.o z)
 |[],cR,y,c=>c|cR::e3,[],y,c=>c|B::aJ,aG::N,y,c=>Tb (N:=N) λf z e=>by
  rcases iQ e with⟨_,i⟩|⟨_,e⟩
  .cases i
  .rw[c f z e]
theorem Tc(c:∀f z,¬fm y f (.o z)):∀f aG,¬fm (k0 cn z y) f (.o aG):=by
 rw[Lk (M:=λy=>∀f aG,¬fm y f (.o aG)) (λB n u f aG e=>?_) (λaz m n N u=>Tb c) c];rcases iQ e with⟨_,i⟩|⟨_,e⟩
 .cases i
 .rw[c _ _ e]
theorem Td{Q:Nat}{t:lC}{bv:List bj}{dU:List<|List bj}{av:aE}{b8:List bj}{co:au}{an:aE}{bQ aZ:List aE}{b5:List Nat}{St:Nat->au->Prop}{ca:gO->au->Prop}(aI:eG[Q]?=W t)(aM:t.is_async=0)(af:gu t.ifs<=1)(am:∀cd,eG[Q+1]?=W cd->cd.is_async=0)(ao:eW x s)(G:p.scope=O)(hk:AllP (λf k=>mT ag O t.target f/\sI t.target f y/\jS g x O eG dT a2 ax Q t.ifs (k0 t.target f y) k) bv dU)(I:cx g p r L ay aa)(c7:av∈L)(k1:∀f z,¬fm y f (.o z))(di:mf g.prog g.w s t.target r bv co an bQ aZ b5 St)(kA:∀j∈b5,g.s0.gens.size<=j)(vw:∀a∈aZ,a∈L)(jT:∀a∈bQ,a≠av/\a≠p.locals)(oI:av∉aZ)(n:bG g p r L aa y b)(ch:AccAt b.heap r av b8)(ae:gu b8+gu dU.flatten<=cy)(b4:bb [] [] co b)(st:St 0 b)(i2:∀w,bb (aZ++[av,p.locals]) b5 b w->bG g p r L aa y w->AccAt w.heap r av (b8++dU.flatten)->ca .next w):em g.prog g.w s (.compLoop (.ListComp dT eG a2 ax) Q (.ref an) (.ref av) p) ca b:=by
 have xa:=(I.5 av c7).1;have Ll:av∉cc p:=λe=>(I.4 av e).2.2.1 c7;have sE:∀a∈aZ++[av,p.locals],a∈r:=λa l=>by
  rw[bS l (λe=>?_) λe=>?_]
  .rw[(I.5 a<|vw a e).1]
  .rcases fT.mp e with rfl|e
   .rw[xa]
   .rw[(bg e)▸(I.4 _ bB).1]
 rw[K' aI V aM af am di.yh (λj D=>bb (aZ++[av,p.locals]) b5 b D/\bG g p r L aa y D/\AccAt D.heap r av (b8++(dU.take j).flatten)) ?_ ?_ ⟨bK.refl ..,n,by simpa using ch⟩ st]
 .rw[ds (@JX _ _ _ _ _ _) ?_];intro dx;rintro j f oJ D z R cB sJ aQ n4 fx;rw[fb cB λdO d5 eb=>?_];have T:=hk.1▸(j4.mp R).1;rw[fb (hk.2 j f dU[j] R<|eT T) λfg fD h6=>?_];rw[Y.bind<|w' ao.1 I (d5.AG I vw fx kA k1) (aQ r _ (λa l=>⟨cg (I.8 a l) d5.1,.inl l⟩)<|(b4.mono aR aR).trans<|dO.mono sE λu c=>c) (G▸fg) λjr aK dD=>?_];have cp:gu (b8++(dU.take j).flatten)+dU[j].length<=sizeLine:=by
   rw[a5 ?_ ae];have i:dU.flatten=(dU.take j).flatten++(dU[j]++(dU.drop<|j+1).flatten):=by
    conv=>lhs;rw[<-sl j dU]
    rw[U BP<|U (Fo T)<|U kr V]
   rwa[U i];simp only[e7];rw[oy (.l (.a (.a .x .y) .z)<|.a .x<|.a .y<|.a .z .w) [] Z]
  rw[h6 s p r L ay aa av ao G I c7 (Tc k1) _ jr cp dD ((eb.to (λa k l i=>fx.1 a k l i) (λC ae=>(I.5 C<|vw C ae).1) oI).to (λa k l i=>aK.1 a k l i) (λC ae=>bg ae▸(I.4 _ bB).1)<|λe=>Ll<|bg e▸bB) _ λmU a7 i8 xb=>⟨⟨?_,i8.le λB bz c=>fD B bz c,?_⟩,?_⟩]
  .rw[(dO.trans<|fx.mono (λa l=>b7 l) λu c=>c).trans<|(aK.mono (λa l=>bR<|mt l) aR).trans<|a7.mono (λa l=>bR l) aR]
  .have i:(dU.take<|j+1).flatten=(dU.take j).flatten++dU[j]:=by rw[U u4<|U (eT T)<|U BP ?_];simp
   rw[U i<|bL (mD ..) xb]
  .rw[di.2 _ _ _ [av,p.locals] [] n4 ((aK.mono (λa l=>mt l) λu c=>c).trans a7) (λa l e=>?_) aR];rcases fT.mp l with rfl|l
   .rw[(jT _ e).1 V]
   .rw[(jT a e).2<|bg l]
 .rintro oJ D dt fx-;rw[fb dt λdO d5 eb=>i2 D (dO.trans<|fx.mono (λa l=>b7 l) λu c=>c) (d5.AG I vw fx kA k1) ?_];have i:dU.take (gu bv)=dU:=hk.1▸wA;rw[i]at eb;rw[eb.to (λa k l i=>fx.1 a k l i) (λC ae=>(I.5 C<|vw C ae).1) oI]
theorem cx.up(I:cx g p r L ay aa)(c:aa<=c'):cx g p r L ay c':=⟨I.1,I.2,I.3,I.4,I.5,I.6,I.7,λh aS=>cg (I.8 h aS) c,I.9,I.10⟩
theorem bG.now(n:bG g p r L aa y b):bG g p r L (aB b) y b:=⟨dr _,n.2,n.3⟩
def zO(i:bJ):Prop:=∀p f,sb i p f=dB f
theorem jS.next(aI:eG[Q+1]?=W t)(aM:t.is_async=0)(af:gu t.ifs<=1)(am:∀cd,eG[Q+2]?=W cd->cd.is_async=0)(bi:zO t.iter)(T:vv g x O y ii ag)(f9:fj g x O y ag t.target t.iter bv)(hk:AllP (λf k=>mT ag O t.target f/\sI t.target f y/\jS g x O eG dT a2 ax (Q+1) t.ifs (k0 t.target f y) k) bv dU):jS g x O eG dT a2 ax Q ii y dU.flatten:=by
 intro s p r L ay aa av ao G I c7 k1 b8 b ae n ch A aj;rw[Y.bind<|T.bF ao G I n λas aK=>?_];rwa[tY V<|U (aI ..)];have dd:=(n.grow aK).now;have hM:=I.up (n.grow aK).1;rw[Y.bind<|f9 s p r L ay _ as.gens.size ao G hM as _ ⟨dd,dr _⟩ λa4 ar a7 pw=>?_];rwa[dH<|Y.eq (U (bi ..) V)];rw[ev<|dR<|pw _ λan co bQ aZ b5 St aN=>?_];have b4:=aN.3;have CF:=a5 a7.2 b4.2;have eK:∀a∈aZ,(aB as)<=a/\a<(aB co):=λa l=>⟨(aN.4 a l).elim id (λe=>nomatch e),(aN.7 a<|aN.1.1 a l).1⟩;have nr:∀j∈b5,as.gens.size<=j:=λj T=>(aN.5 j T).elim id λe=>nomatch e;have xb:AccAt co.heap (aZ++r) av b8:=by rw[bt (ch.grow aK.all) λN aO ap=>?_];have ik:=(a7.trans b4).all;rw[⟨N,aO.at λk i=>ik _ k i,b9.to (λa k l i=>⟨ik a k i,by rwa[gW jf<|gW not_or];rw[⟨λe=>b2 (dK i) (eK a e).1,l⟩]⟩) _ _ ap⟩]
 have di:mf g.prog g.w s t.target (aZ++r) bv co an bQ aZ b5 St:=⟨aN.1.1,aN.1.2,λj f b A R st aj=>aN.1.3 j f b A R st λz w aQ kz t=>aj z w (λbx kd f8 pr=>aQ bx kd (λa l=>⟨(f8 a l).1,by rw[hp ((f8 a l).2) (λe=>bS e (λe=>.inr<|.inl e) .inl) λe=>.inr e]⟩) pr) kz t,aN.1.4,aN.1.5,aN.1.6⟩;rw[Y.bind<|Y.runOwn<|KV aI aM (λA aY=>aN.1.5 0 co A aN.2 aY)<|Td aI aM af am ao G hk (hM.wide eK dd.2.1.2 CF) (bR c7) k1 di (λj T=>a5 dd.2.1.4<|nr j T) (λa l=>b7 l) (λa l=>⟨λe=>(aN.7 a l).2<|b7<|e▸c7,λe=>(aN.7 a l).2<|bR<|e▸bB⟩) (λe=>b2 (hM.8 av (I.5 av c7).1) (eK av e).1) (dd.wide (a7.trans b4)<|λa l=>(eK a l).1) xb ae (bK.refl ..) aN.2 λw cd bs gy=>Y.pure ?_];rw[aj w ?_ (bs.narrow (λa l=>bR l) (λa l=>bR l) (a5 (a5 (n.grow aK).1 CF) cd.2) k1) ⟨gy.choose,gy.choose_spec.1,b9.to (λa k l i=>⟨i,λe=>l<|bR e⟩) _ _ gy.choose_spec.2⟩];rw[(((aK.trans a7).trans b4).mono aR λu c=>c).hj cd (λa l=>bS l (λe=>.inr<|fY<|a5 aK.2 (eK a e).1) .inl) λj T=>.inr<|sy<|a5 aK.4<|nr j T]
structure Pp(g:ea)(x:Nat)(O:dA)(y:b_)(dT:bJ)(t:lC)(b5:List lC)(a2:dA)(ax:Pos)(bv:List bj)(dU:List<|List bj):Prop where
 ok:n3 a2 O=ag
 h0:t.is_async=0
 av:gu t.ifs<=1
 ay:∀cd,(t::b5)[1]?=W cd->cd.is_async=0
 hf:zO t.iter
 gd:AllP (λf k=>mT ag (ey a2 O) t.target f/\sI t.target f (gK (ey a2 O) y)/\jS g x (ey a2 O) (t::b5) dT a2 ax 0 t.ifs (k0 t.target f<|gK (ey a2 O) y) k) bv dU
 hz:gu dU.flatten<=cy
structure zP(g:ea)(x:Nat)(O:dA)(y:b_)(dT:bJ)(t:lC)(b5:List lC)(a2:dA)(ax:Pos)(bv:List bj)(dU:List<|List bj):Prop extends Pp g x O y dT t b5 a2 ax bv dU where it:fj g x O y be t.target t.iter bv
theorem Lm(I:cx g p r L ay aa)(n:bG g p r L aa y b)(aT:n3 a2 p.scope=ag):KX p a2 (hs p a2.names []):=by rw[lG (Lh aT) λi5 ff ui sH=>bt n.3 λcS al u=>⟨Lf λe aY zQ=>?_,i5,ff,sH⟩];have nq:=ui e aY zQ;have:p.kindOf e.1=W .cell\/p.kindOf e.1=W .free:=w6 nq;rw[bt (al.3 e.1 this) λh aS u=>⟨h,aS⟩]
theorem aaT(aA:g.Ok)(cf:Pp g x p.scope y dT t b5 a2 ax bv dU)(f9:dk g.prog g.w s [] [] p (λD=>bG g p r L b.heap.objs.size y D/\b.gens.size<=D.gens.size/\bb [] [] b D) t.iter<|λD a4=>zH g.prog g.w s t.target b.heap.objs.size b.gens.size ky ll r (qg be p L) a4 bv D)(zR:∀a∈ky,a∈r/\Ų (ű (Q7 g.s0))<=a/\a∉cc p)(Ln:∀j∈ll,g.s0.gens.size<=j)(ao:eW x s)(I:cx g p r L ay aa)(n:bG g p r L aa y b)(aj:∀aP av w,(∃S,w.heap.Ns aP S)->bb ky ll b w->b.heap.objs.size<=aP->b.heap.objs.size<=av->aP≠av->aP<Ų (ű (Q7 w))->AccAt w.heap (aP::av::r) av dU.flatten->zA g.prog g.w s oF A (.ref av) aP w):Y g.prog g.w s (wv (.ListComp dT (t::b5) a2 ax) a2 p (Bp (t::b5) ax) (Bq []) (yH<|t::b5) (Br (t::b5) p) oF) A b:=by
 rwa[KY (Lm I n cf.1) cf.2 (λf=>cf.5 p f)];have g7:=n.now;have en:=I.up n.1;rw[f9 b _ ⟨g7,dr _,bK.refl ..⟩ λa4 as aK pw=>pw _ λan ar bQ aZ mh St aN=>(dj an V λav aP cv gm=>⟨λA aY=>aN.1.5 0 cv A (aN.1.2 0 ar cv [] [] aN.2 gm.3 aR aR) aY,(fb gm.4 λc7 eI qb=>ds (@l9 _ _ _ _) ?_)⟩)];intro dx;have a7:=aN.3;have fO:=a5 aK.2 a7.2;have sK:=gm.3.2;have eK:∀a∈aZ,(b.heap.objs.size<=a\/a∈ky)/\a<Ų (ű (Q7 ar)):=λa l=>⟨aN.4 a l,(aN.7 a<|aN.1.1 a l).1⟩;have dD:=g7.grow<|aK.trans a7--qc frame inside
 have f8:∀a∈aP::av::(aZ++r),a∈r\/b.heap.objs.size<=a:=λa l=>by
  rw[dw l (λi=>?_) λl=>?_]
  .rw[.inr<|i▸a5 fO eI]
  rw[dw l (λi=>?_) λl=>?_]
  .rw[.inr<|i▸a5 fO c7]
  rw[bS l (λe=>(eK a e).1.elim .inr λC=>.inl (zR a C).1) λe=>.inl e]
 have xc:∀a∈aP::av::(aZ++r),a<Ų (ű (Q7 cv)):=λa l=>by
  rw[dw l (λi=>?_) λl=>?_]
  .rw[i▸gm.5.2]
  rw[dw l (λi=>?_) λl=>?_]
  .rw[i▸gm.5.1]
  rw[bS l (λe=>cg (eK a e).2 sK) λe=>cg (en.8 a e)<|a5 fO sK]
 have xd:∀a∈aZ++[av],(b.heap.objs.size<=a\/(a∈r/\Ų (ű (Q7 g.s0))<=a/\a∉cc p))/\a∈aP::av::(aZ++r)/\aP≠a:=λa l=>by
  rw[bS l (λe=>?_) λe=>?_]
  .rw[⟨(eK a e).1.imp id<|zR a,mt<|mt<|b7 e,λi=>b2 (eK a e).2<|i▸eI⟩]
  .rw[U (bg e)<|⟨.inl<|a5 fO c7,mt bB,ib qb⟩]
 have rB:cx g (l9 a2 (hs p a2.names []) aP p) (aP::av::(aZ++r)) (aZ++[av]) g.tabs cv.heap.objs.size:=Li aA en cf.1 (a5 fO eI) bB (λa l=>mt<|mt<|bR l) xc g7.2.1.2 f8 xd;have ke:=(aK.trans a7).trans gm.3;have xe:bG g (l9 a2 (hs p a2.names []) aP p) (aP::av::(aZ++r)) (aZ++[av]) cv.heap.objs.size (gK (ey a2 p.scope) y) cv:=Lj en g7 cf.1 ke (a5 fO eI) gm.2 (dr _) (λa l=>(f8 a l).imp id fY) λa l=>bS l (λe=>.inr λk i=>aN.1.6 0 ar a k aN.2 e<|(aK.trans a7).all a k i) λe=>.inl<|bg e▸a5 fO c7;have ch:AccAt cv.heap (aP::av::(aZ++r)) av []:=⟨#[],gm.1,by show b9 _ _ [] [];rw[V]⟩;have di:mf g.prog g.w s t.target (aP::av::(aZ++r)) bv ar an bQ aZ mh St:=⟨aN.1.1,aN.1.2,λj f b A R st aj=>aN.1.3 j f b A R st λz w aQ kz t=>aj z w (λbx kd f8 pr=>aQ bx kd (λa l=>⟨(f8 a l).1,by
  rcases(f8 a l).2 with e|e
  .rw[dw e (λi=>?_) λe=>?_]
   .rw[.inr<|.inr<|i▸eI]
   rw[dw e (λi=>.inr<|.inr<|i▸c7) λe=>bS e (λe=>.inr<|.inl e) .inl]
  .rw[.inr e]⟩) pr) kz t,aN.1.4,aN.1.5,aN.1.6⟩;have jT:∀a∈bQ,a≠av/\a≠aP:=λa l=>⟨λe=>b2 (aN.7 a l).1<|e▸c7,λe=>b2 (aN.7 a l).1<|e▸eI⟩;have ae:gu ([]:List bj)+gu dU.flatten<=sizeLine:=by simpa using cf.7
 rw[Td (y:=gK (ey a2 p.scope) y) (bv:=bv) (co:=ar) V cf.2 cf.3 cf.4 ao V cf.6 rB (bR bB) (λf z=>S_) di (λj T=>(aN.5 j T).elim (λe=>a5 g7.2.1.4 e)<|Ln j) (λa l=>b7 l) jT (λe=>b2 (eK av e).2 c7) xe ch ae gm.3 (aN.1.2 0 ar cv [] [] aN.2 gm.3 aR aR) λw cd bs gy=>g4 λu bW=>bt bs.3 λcS al u=>bt al.2 λS bk u=>bW<|aj aP av w (ov S bk) ?_ (a5 fO eI) (a5 fO c7) (ib qb) (cg gm.5.2 cd.2) ?_]
 .rw[(ke.mono aR aR).hj cd (λa l=>bS l (λe=>?_) λe=>?_) λj T=>(aN.5 j T).elim (λe=>.inr<|sy e) .inl]
  .rw[(eK a e).1.elim (λC=>.inr<|fY C) .inl]
  .rw[dw e (λi=>.inr<|fY<|i▸a5 fO c7) λe=>.inr<|fY<|(bg e)▸a5 fO eI]
 .rw[bt gy λN aO ap=>?_];have oz:∀a∈aP::av::r,a∈aP::av::(aZ++r):=λa e=>by
   rw[dw e (λi=>?_) λe=>?_]
   .rw[U i bB]
   rw[dw e (λi=>?_) λe=>?_]
   .rw[U i<|mt bB]
   .rw[mt<|mt<|bR e]
  rw[⟨N,aO,b9.to (λa k l i=>⟨i,λe=>l<|oz a e⟩) _ _ (by simpa using ap)⟩]
theorem Te(aA:g.Ok)(cf:zP g x p.scope y dT t b5 a2 ax bv dU)(ao:eW x s)(I:cx g p r L ay aa)(n:bG g p r L aa y b)(aj:∀aP av w,(∃S,w.heap.Ns aP S)->bb [] [] b w->b.heap.objs.size<=aP->b.heap.objs.size<=av->aP≠av->aP<Ų (ű (Q7 w))->AccAt w.heap (aP::av::r) av dU.flatten->zA g.prog g.w s oF A (.ref av) aP w):Y g.prog g.w s (wv (.ListComp dT (t::b5) a2 ax) a2 p (Bp (t::b5) ax) (Bq []) (yH<|t::b5) (Br (t::b5) p) oF) A b:=aaT aA cf.toPp (dk.weak (cf.it s p r L ay _ b.gens.size ao V<|I.up n.1) λD e=>⟨e.1,e.2.1⟩) aR aR ao I n aj
theorem AccAt.obj{aP av:aE}{w:au}{X:e1}{b8:List bj}(c:AccAt w.heap (aP::av::r) av b8)(rC:aP≠av)(G:iE aP w.heap X):iO X (av::r) av (.lst b8):=by rw[bt c λN bN ap=>c1 bN λo i=>⟨N,o,(G.2 av<|ib rC).trans i,b9.to (λa k l i=>⟨(G.2 a λe=>l<|e▸tz).trans i,λe=>l<|sj _ e⟩) _ _ ap⟩]
theorem ai.comp(aA:g.Ok)(cf:zP g x O y dT t b5 a2 ax bv dU):ai g x O y (.ListComp dT (t::b5) a2 ax) .fr (.lst dU.flatten):=λs p r L ay aa ao G I b A n aj=>by subst G;rw[Y.eq (eval_ListComp ..)<|Te aA cf ao I n λaP av w bk gz eI c7 rC zS i9=>c1 bk λS bk=>⟨S,bk,λX dy=>aj _ _ (gz.hj (bK.same dy) (λa l=>.inr<|bg l▸fY eI) aR) ⟨av,V,a5 n.1 c7,i9.obj rC dy⟩⟩]
inductive jU where|next|brk|cont|ret(z:bj)
def Gb(g:ea)(p:Env)(r L ay:List aE)(aa:Nat)(y:b_):jU->gO->au->Prop|.next,J,b=>J=.next/\cx g p r L ay aa/\bG g p r L aa y b|.brk,J,b=>J=.brk/\cx g p r L ay aa/\bG g p r L aa y b|.cont,J,b=>J=.cont/\cx g p r L ay aa/\bG g p r L aa y b|.ret z,J,b=>∃a4,J=.ret a4/\ck b.heap ay z a4
inductive fF(a1:List aE)(p:Env)(r L bx cQ:List aE)(b w:au):Prop|mk(f2:∀a∈r,a∈bx)(f3:∀a∈bx,a∈r\/(aB b)<=a)(gw:∀a∈cQ,a∈L\/(aB b)<=a)(j_:bb (L++cc p++a1) [] b w):fF a1 p r L bx cQ b w
theorem fF.refl(b:au):fF a1 p r L r L b b:=⟨λu c=>c,λu c=>.inl c,λu c=>.inl c,bK.refl ..⟩
theorem fF.trans(h:fF a1 p r L da iA b as)(a:fF a1 p da iA mV n5 as ar):fF a1 p r L mV n5 b ar:=by
 rw[⟨λB c=>a.1 B<|h.1 B c,λB c=>(a.2 B c).elim (h.2 B) λe=>.inr<|a5 h.4.2 e,λB c=>(a.3 B c).elim (h.3 B) λe=>.inr<|a5 h.4.2 e,h.4.hj a.4 (λB a8=>bS a8 (λa8=>?_) λa8=>?_) aR⟩]
 .rw[bS a8 (λa8=>(h.3 B a8).elim (λe=>.inl<|u3 _<|u3 _ e) λe=>.inr<|fY e) λa8=>.inl<|u3 _<|wz _ a8]
 .rw[.inl<|wz _ a8]
inductive xf(g:ea)(a1:List aE)(p:Env)(r L ay:List aE)(b1:jU->b_->Prop)(b:au)(J:gO)(w:au):Prop|mk(c2:jU)(bP:b_)(bx cQ:List aE)(c':Nat)(af:b1 c2 bP)(am:gU g w)(a':fF a1 p r L bx cQ b w)(cJ:Gb g p bx cQ ay c' bP c2 J w):xf g a1 p r L ay b1 b J w
theorem xf.gp{b1:jU->b_->Prop}{J:gO}{w:au}{aD:Prop}(c:xf g a1 p r L ay b1 b J w)(m:∀c2 bP bx cQ c',b1 c2 bP->gU g w->fF a1 p r L bx cQ b w->Gb g p bx cQ ay c' bP c2 J w->aD):aD:=c.casesOn m
def bd(g:ea)(x:Nat)(O:dA)(a1:List aE)(y:b_)(st:List fa)(b1:jU->b_->Prop):Prop:=∀(s:cq)(p:Env)(r L ay:List aE)(aa:Nat)(b:au),eW x s->p.scope=O->cx g p r L ay aa->bG g p r L aa y b->Y g.prog g.w s (d3 st p) (xf g a1 p r L ay b1 b) b
theorem px(c:let M:=b1;bd g x O a1 y uj M):bd g x O a1 y uj b1:=c
theorem py(c:let aD:=y;bd g x O a1 aD uj b1):bd g x O a1 y uj b1:=c
theorem xf.trans{da iA:List aE}{as ar:au}{b1:jU->b_->Prop}{J:gO}(h:fF a1 p r L da iA b as)(a:xf g a1 p da iA ay b1 as J ar):xf g a1 p r L ay b1 b J ar:=a.gp λc2 bP bx cQ c' af am a' cJ=>⟨c2,bP,bx,cQ,c',af,am,h.trans a',cJ⟩
namespace bd
theorem nil(c:b1 .next y):bd g x O a1 y [] b1:=λs p r L ay aa b ao G I n=>by rw[Y.eq (wt ..)<|Y.pure ⟨.next,y,r,L,aa,c,n.2,fF.refl b,V,I,n⟩]
theorem le(aw:gk bP y)(c:bd g x O a1 bP b0 b1):bd g x O a1 y b0 b1:=λs p r L ay aa b ao G I n=>c s p r L ay aa b ao G I<|n.le λf bz e=>aw.has e
end bd
theorem fF.inside(t:bb (cc p) [] b as):fF a1 p r L r L b as:=⟨λu c=>c,λu c=>.inl c,λu c=>.inl c,t.mono (λa l=>b7<|bR l) λu c=>c⟩
theorem fF.IH(t:bb [] [] b as):fF a1 p r L r L b as:=fF.inside<|t.mono aR λu c=>c
theorem vx{st:fa}{lS:b_}(c:bd g x O a1 lS b0 b1)(af:∀(s:cq)(p:Env)(r L ay:List aE)(aa:Nat)(b:au),eW x s->p.scope=O->cx g p r L ay aa->bG g p r L aa y b->Y g.prog g.w s (exec st p) (λJ as=>J=.next/\∃da iA eZ,fF a1 p r L da iA b as/\cx g p da iA ay eZ/\bG g p da iA eZ lS as) b):bd g x O a1 y (st::b0) b1:=λs p r L ay aa b ao G I n=>by rw[d8 ?_];intro eg;rwa[zz<|Y.mono (af s p r L ay aa b ao G I n)];rintro J as cB;rw[c0 cB λdt eh=>jH eh λda iA eZ dJ hM dd=>U dt<|⟨V,Y.mono (c s p da iA ay eZ as ao G hM dd) λJ w X=>X.trans dJ⟩]
namespace bd
theorem assign(bq:ai g x O y i m z)(R:ln O f=ag)(c:bd g x O a1 ((f,.f z)::y) b0 b1)(aT:m≠.ls:=by decide)(sL:t7 i=ag:=by rfl):bd g x O a1 y (.Assign [.Name f d'] i ax::b0) b1:=vx c λs p r L ay aa b ao G I n=>by rw[d8 ?_];intro eg;rw[Y.eq (E0 (hs:=t8 sL) ..)<|dH<|Y.bind<|(bq.hA aT) s p r L ay aa ao G I b _ n λa4 as aK gb=>dH<|Y.bind<|sF (a:=be) I (n.grow aK) gb (G▸R) λar a7 dD=>Y.pure ⟨V,(zj r L aa (fF.inside<|(aK.mono aR λu c=>c).trans a7) I dD)⟩]
theorem yu(bq:ai g x O y i .fr z)(R:ln O f=ag)(c:bd g x O a1 ((f,.o z)::y) b0 b1)(sL:t7 i=ag:=by rfl):bd g x O a1 y (.Assign [.Name f d'] i ax::b0) b1:=vx c λs p r L ay aa b ao G I n=>by rw[d8 ?_];intro eg;rw[Y.eq (E0 (hs:=t8 sL) ..)<|dH ?_];have g7:=n.now;have en:=I.up (c':=(aB b)) n.1;rw[Y.bind<|bq s p r L ay _ ao G en b _ g7 λa4 as aK gb=>fK gb λh gS aS aL=>U gS<|dH<|Y.bind<|aaM en g7 aK (λa l=>bg l▸aS) aL (G▸R)<|λar a7 dD=>Y.pure ⟨V,(zj (h::r) (h::L) _ (⟨λa l=>mt l,λa l=>dw l (λe=>.inr<|e▸aS) .inl,λa l=>dw l (λe=>.inr<|e▸aS) .inl,((aK.mono aR λu c=>c).trans a7).mono (λa l=>b7<|bR l) λu c=>c⟩) (en.more aS (cg aL.lt a7.2) n.2.1.2) dD)⟩]
theorem ret(bq:ai g x O y i m z)(c:b1 (.ret z) y)(aT:m≠.ls:=by decide):bd g x O a1 y (.Return (W i) ax::b0) b1:=λs p r L ay aa b ao G I n=>by rw[aao n ((bq.hA aT) s p r L ay aa ao G I) λa4 w t aQ=>⟨.ret z,y,r,L,aa,c,(n.grow t).2,fF.IH t,a4,V,ck.sub aQ I.6⟩]
end bd
theorem bG.yv(n:bG g p r L aa y b)(cC:∀C∈cL,C∈r)(aL:∀C∈cL,C∉cc p)(aM:∀C∈cL,Ų (ű (Q7 g.s0))<=C)(lP:∀j∈aD,g.s0.gens.size<=j)(aT:∀a k,a∈cL->b.heap.get? a=W k->uc k)(t:bb cL aD b w):bG g p r L aa y w:=by
 rw[jh n.3 λcS al af am a'=>⟨a5 n.1 t.2,n.2.toG t aM lP,cS,al.keeps λa l k i=>t.1 a k (λe=>aL a e l) i,λf bz R=>bt (af f bz R) λz aQ q=>?_,am,a'⟩];have cK:∀aG h,iO b.heap r h aG->h∉cL:=λaG h q e=>by
  cases aG<;>try rw[q.elim]
  .rw[fW q λN o i u=>(aT h _ e i).1 _ _ V]
  .rw[(aT h _ e q).2 _ V]
 rw[⟨z,aQ,q.own cC (λe h i=>?_) λa k l i=>t.1 a k l i⟩];subst i;cases bz with
 |f aG=>rw[e.elim]|o aG=>rw[bt q λgi i q=>?_];cases i;rw[cK aG _ q]|b aG=>rw[bt q λgi i q=>?_];cases i;rw[cK aG _ q]
theorem cx.l3(I:cx g p r L ay aa)(bV:∀a∈aZ,aa<=a/\a<c')(aM:(aB g.s0)<=aa)(hr:aa<=c'):cx g p (aZ++r) L ay c':=⟨(I.1),(I.2),(I.3),(λa l=>⟨bR (I.4 a l).1,(I.4 a l).2⟩),(λa l=>⟨bR (I.5 a l).1,(I.5 a l).2⟩),(λa l=>bR<|I.6 a l),(I.7),(λa l=>bS l (λe=>(bV a e).2) λe=>cg (I.8 a e) hr),(λa l=>bS l (λe=>.inr<|a5 aM (bV a e).1) λe=>I.9 a e),(I.10)⟩
theorem bG.l3(n:bG g p r L aa y b)(t:bb [] [] b w)(bV:∀a∈aZ,(aB b)<=a):bG g p (aZ++r) L (aB w) y w:=by rw[jh n.3 λcS al af am a'=>?_];have ik:=t.all;rw[⟨dr _,n.2.to t aR,cS,al.keeps λa u k i=>ik a k i,λf bz R=>bt (af f bz R) λz aQ q=>⟨z,aQ,?_⟩,am,a'⟩];have fZ:∀a k,a∉r->b.heap.get? a=W k->Ű (Q7 w) a=W k/\a∉aZ++r:=λa k l i=>⟨ik a k i,by rwa[gW jf<|gW not_or];rw[⟨λe=>b2 (dK i)<|bV a e,l⟩]⟩;cases bz with|f aG=>rw[ck.to fZ _ _ q]|o aG=>rw[bt q λh i q=>?_];rw[⟨h,i,q.to fZ λk i=>ik _ k i⟩]|b aG=>rw[bt q λh i q=>?_];rw[⟨h,i,q.to fZ λk i=>ik _ k i⟩]
namespace bd
theorem qf(bC:ei g x O y D a)(c:bd g x O a1 y (bif a then w2 else w3)<|λc2 bP=>match c2 with|.next=>bd g x O a1 bP b0 b1|c2=>b1 c2 bP):bd g x O a1 y (.If D w2 w3 ax::b0) b1:=λs p r L ay aa b ao G I n=>by rw[d8 ?_];intro eg;rw[SH n (bC s p r L ay aa ao G I) λas aK=>Y.mono (c s p r L ay aa as ao G I<|n.grow aK) ?_];rintro J ar e;rw[e.gp λc2 bP bx cQ c' aO l dJ bq=>?_];have rD:=(fF.IH (p:=p) aK).trans dJ;cases c2 with|next=>obtain⟨rfl,eo,bs⟩:=bq;rw[.inl ⟨V,Y.mono (aO s p bx cQ ay c' ar ao G eo bs) λJ w X=>X.trans rD⟩]|brk=>obtain⟨rfl,bq⟩:=bq;rw[.inr ⟨(λe=>nomatch e),.brk,bP,bx,cQ,c',aO,l,rD,V,bq⟩]|cont=>obtain⟨rfl,bq⟩:=bq;rw[.inr ⟨(λe=>nomatch e),.cont,bP,bx,cQ,c',aO,l,rD,V,bq⟩]|ret z=>obtain⟨a4,rfl,bq⟩:=bq;rw[.inr ⟨(λe=>nomatch e),.ret z,bP,bx,cQ,c',aO,l,rD,a4,V,bq⟩]
theorem Zs(ai:Nat->b_->Prop)(nV:∀o y,ai o y->∃a,ei g x O y D a/\(a=ag->bd g x O a1 y eC (λc2 bP=>(match c2 with|.next|.cont=>True|_=>False)/\∃S,S<o/\ai S bP))/\(a=be->bd g x O a1 y b0 b1))(o:Nat)(c:ai o y):bd g x O a1 y (.While D eC [] ax::b0) b1:=λs p r L ay aa b ao G I n=>by rw[d8 ?_];intro eg;rw[aax (λo w=>∃bP bx cQ c',ai o bP/\fF a1 p r L bx cQ b w/\cx g p bx cQ ay c'/\bG g p bx cQ c' bP w) ?_ o<|Zf y r L aa c (fF.refl b) I n];intro o as ru;rw[d8 ?_];intro eg;obtain⟨bP,bx,cQ,c',d9,dJ,eo,bs⟩:=ru;rw[fK (nV o bP d9) λa bC cV hl=>bC s p bx cQ ay c' ao G eo as _ bs λar a7=>?_];have Lo:=dJ.trans<|fF.IH (p:=p) a7;cases a with
 |true=>rw[.inl ⟨V,Y.mono (cV V s p bx cQ ay c' ar ao G eo<|bs.grow a7) ?_⟩];rintro J co e;rw[e.gp λc2 Lp zT Gc Gd e l Tf bq=>c0 e λxg e=>bt e λS bk cu=>?_];cases c2 with
  |next=>obtain⟨rfl,bq⟩:=bq;rw[⟨.inl V,(dj S bk<|RK Lp zT Gc Gd cu (Lo.trans Tf) bq)⟩]|cont=>obtain⟨rfl,bq⟩:=bq;rw[⟨.inr V,(dj S bk<|RK Lp zT Gc Gd cu (Lo.trans Tf) bq)⟩]|brk=>rw[xg.elim]|ret z=>rw[xg.elim]
 |false=>rw[.inr ⟨V,Y.mono (hl V s p bx cQ ay c' ar ao G eo<|bs.grow a7) λJ w X=>X.trans Lo⟩]
theorem nu(ai:Nat->b_->Prop)(bi:zO iK)(f9:fj g x O y ag cn iK bv)(nV:∀j f bP,bv[j]?=W f->ai j bP->mT be O cn f/\bd g x O [] (k0 cn f bP) eC (λc2 xh=>match c2 with
   |.next|.cont=>ai (j+1) xh|.brk=>bd g x O a1 xh b0 b1|.ret z=>b1 (.ret z) xh))(aM:ai 0 y)(ud:∀bP,ai (gu bv) bP->bd g x O a1 bP b0 b1):bd g x O a1 y (.For cn iK eC [] ax::b0) b1:=λs p r L ay aa b ao G I n=>by
 rw[d8 ?_];intro eg;rwa[SN (λf=>bi p f)];have g7:=n.now;have en:=I.up n.1;have ht:=n.2.1.2;rw[f9 s p r L ay _ b.gens.size ao G en b _ ⟨g7,dr _⟩ λa4 as aK pw=>pw _ λan ar bQ aZ b5 St aN=>(dj an V<|Kn ?_)];intro Tg;have a7:=aN.3;have fO:=a5 aK.2 a7.2;have eK:∀a∈aZ,b.heap.objs.size<=a/\a<Ų (ű (Q7 ar)):=λa l=>⟨(aN.4 a l).elim id<|λe=>db e,(aN.7 a<|aN.1.1 a l).1⟩;have nr:∀j∈b5,b.gens.size<=j:=λj T=>(aN.5 j T).elim id λe=>db e;have CG:∀j∈b5,g.s0.gens.size<=j:=λj T=>a5 n.2.1.4<|nr j T;have dD:=g7.l3 (aK.trans a7)<|λa l=>(eK a l).1;have CH:∀a∈aZ,a∉cc p:=λa l e=>b2 (en.8 a (en.4 a e).1) (eK a l).1;have Lq:∀a∈aZ++(L++cc p),a∈aZ++r:=λa l=>bS l (λe=>b7 e) λe=>bR<|bS e (λe=>(en.5 a e).1) λe=>(en.4 a e).1--from qc start to a state of qc loop
 have xi:∀{bx cQ:List aE}{D:au},(∀a∈aZ++r,a∈bx)->(∀a∈bx,a∈aZ++r\/Ų (ű (Q7 ar))<=a)->(∀a∈cQ,a∈L\/Ų (ű (Q7 ar))<=a)->bb (aZ++(L++cc p)) b5 ar D->fF a1 p r L bx cQ b D:=by intro bx cQ D dO d5 eb e9;rw[⟨λa l=>dO a<|bR l,λa l=>(d5 a l).elim (λe=>bS e (λe=>.inr (eK a e).1) .inl) λe=>.inr<|a5 fO e,λa l=>(eb a l).elim .inl λe=>.inr<|a5 fO e,(((aK.trans a7).mono (λu c=>db c) λu c=>c).hj e9 (λa l=>bS l (λe=>.inr<|fY (eK a e).1) λe=>.inl<|b7 e) λj T=>.inr<|sy<|nr j T)⟩]
 rw[S0 aN.1 (λj D=>∃bP bx cQ c',ai j bP/\(∀a∈aZ++r,a∈bx)/\(∀a∈bx,a∈aZ++r\/Ų (ű (Q7 ar))<=a)/\(∀a∈cQ,a∈L\/Ų (ű (Q7 ar))<=a)/\bb (aZ++(L++cc p)) b5 ar D/\cx g p bx cQ ay c'/\bG g p bx cQ c' bP D) ?_ ?_ (Kg y (aZ++r) L _ aM (λu c=>c) (λu c=>.inl c) (λu c=>.inl c) (bK.refl ..) (en.l3 eK ht fO) dD) aN.2]
 .rw[ds (@JX _ _ _ _ _ _) ?_];intro dx;rintro j f oJ D z R kW sJ aQ n4 fx;rw[Rz kW λbP bx cQ c' e_ dO d5 eb e9 eo bs=>d8 ?_];intro eg;have dd:=bs.yv (λC ae=>dO C<|b7 ae) CH (λC ae=>a5 ht (eK C ae).1) CG (λa k l i=>aN.1.6 j oJ a k sJ l i) fx;rw[c0 (nV j f bP R e_) λbC jP=>Y.bind<|w' ao.1 eo dd (aQ bx _ (λa l=>⟨cg (eo.8 a l) bs.1,(d5 a l).elim (λe=>bS e (λe=>.inr<|.inl e) .inl) λe=>.inr<|.inr e⟩)<|e9.mono (λa l=>dO a<|Lq a l) λu c=>c) (G▸bC) λjr oK dD=>Y.mono (jP s p bx cQ ay c' jr ao G eo dD) ?_];rintro J mU n2;rw[n2.gp λc2 mW mV n5 rE aO l dJ bq=>?_];have fg:∀a∈aZ++r,a∈mV:=λa l=>dJ.1 a<|dO a l;have zU:=a5 e9.2<|a5 fx.2 oK.2;have fD:∀a∈mV,a∈aZ++r\/Ų (ű (Q7 ar))<=a:=λa l=>(dJ.2 a l).elim (d5 a) λe=>.inr<|a5 zU e;have h6:∀a∈n5,a∈L\/Ų (ű (Q7 ar))<=a:=λa l=>(dJ.3 a l).elim (eb a) λe=>.inr<|a5 zU e;have Th:bb (cQ++cc p) [] jr mU:=dJ.4.mono (λa l=>by simpa using l) λu c=>c;have n6:bb (aZ++(L++cc p)) b5 ar mU:=by rw[((e9.trans<|fx.mono (λa l=>b7 l) λu c=>c).trans<|oK.mono (λa l=>bR<|bR l) λu c=>db c).hj Th (λa l=>bS l (λe=>(eb a e).elim (λe=>.inl<|bR<|b7 e) λe=>.inr<|fY e) λe=>.inl<|bR<|bR e) λu c=>db c]
  have sM:St (j+1) mU:=by
   rw[aN.1.2 _ _ _ (cQ++cc p) [] n4 ((oK.mono (λa l=>bR l) λu c=>c).trans Th) (λa l e=>bS l (λl=>?_) λl=>?_)<|λu c=>db c]
   .rcases eb a l with C|C
    .rw[(aN.7 a e).2<|b7 C]
    .rw[b2 (aN.7 a e).1 C]
   .rw[(aN.7 a e).2<|bR l]
  cases c2 with
  |next=>rw[fb bq λuk rF oL=>?_];rw[U uk<|⟨(Kg mW mV n5 rE aO fg fD h6 n6 rF oL),sM⟩]|cont=>rw[fb bq λul rF oL=>?_];rw[U ul<|⟨(Kg mW mV n5 rE aO fg fD h6 n6 rF oL),sM⟩]|brk=>rw[fb bq λrt rF oL=>U rt<|.inl ⟨V,Y.mono (aO s p mV n5 ay rE mU ao G rF oL) λJ w X=>X.trans<|xi fg fD h6 n6⟩]|ret z=>rw[bt bq λa4 xj ap=>U xj<|.inr ⟨a4,V,.ret z,mW,mV,n5,rE,aO,l,xi fg fD h6 n6,a4,V,ap⟩]
 .rintro oJ D ub sJ fx;rw[Rz ub λbP bx cQ c' e_ dO d5 eb e9 eo bs=>?_];have dd:=bs.yv (λC ae=>dO C<|b7 ae) CH (λC ae=>a5 ht (eK C ae).1) CG (λa k l i=>aN.1.6 _ oJ a k sJ l i) fx;rw[.inl ⟨V,Y.mono (ud bP e_ s p bx cQ ay c' D ao G eo dd) λJ w X=>X.trans<|xi dO d5 eb<|e9.trans<|fx.mono (λa l=>b7 l) λu c=>c⟩]
theorem unpack(bq:ai g x O y i .cH<|.tup N)(ak:pt az=W aJ)(aw:gu N=gu aJ)(aL:aJ.all (ln O)=ag)(c:bd g x O a1 (pu aJ N y) b0 b1)(G:∀p:Env,E1 [.Tuple az o pv] i ax.line p=dB be:=by intros;rfl)(bV:∀p:Env,Bu [.Tuple az o pv] i p=dB aX:=by intros;rfl):bd g x O a1 y (.Assign [.Tuple az o pv] i ax::b0) b1:=vx c λs p r L ay aa b ao no I n=>by
 rw[d8 ?_];intro eg;rwa[Y.eq (Q_ ..)];rw[dH ?_];rwa[Y.eq (U (G ..) V)];rw[ev ?_];rwa[gR bf];rw[Y.bind<|bq s p r L ay aa ao no I b _ n λa4 as aK gb=>?_];rwa[Y.eq (U (bV ..) V)];rw[ev ?_];rwa[Y.eq (U (rfl:(ww [JY az o pv] p)=[(be,E2 (.Tuple az o pv) p)]) V)];rw[Y.bind ?_];have q:vs (.Tuple az o pv) as.heap r (.tup N) a4:=by rw[mb gb λh ex S mR u aI ap=>U mR ?_];rw[⟨N,h,ex,V,V,⟨_,aI,V,S,V⟩,ap⟩]
 rw[w' (a:=be) ao.1 I (n.grow aK) q (no▸⟨aJ,ak,aw,aL⟩) λar a7 dD=>Y.pure ⟨V,r,L,aa,?_,I,?_⟩]
 .rw[fF.inside<|(aK.mono aR λu c=>c).trans a7]
 .have oL:bG g p r L aa (pu ((pt az).getD []) N y) ar:=dD;rw[ak]at oL;rw[oL]
end bd
section
section
variable{ſ:cM}{v:cU}{s:cq}{b:au}
theorem Lr{E:aE}{bv:Array aF}{o:Nat}{m:Int}{D:Tok}{z:aF}{A:Unit->au->Prop}(aL:b.heap.get? E=W {cls:=.type "list",data:=.seq bv o})(aM:0<=m)(i3:m<2^63)(ak:m<bv.size)(aj:∀X i7,Ű X E=W {cls:=.type "list",data:=.seq (bv.setIfInBounds (om m) z) i7}->iE E b.heap X->A () {b with heap:=X}):ce (cD ſ v) s (wp (.ref E) (.int m D) z) A aC b:=by
 have aw:b.heap.IsList E bv:=⟨_,aL,V,o,V⟩;unfold wp;try with_reducible rw[kK ?_]
 first|rw[bc (cr ?_)]|skip
 rwa[bc<|Bj aw.typeIs bf];rw[bc<|nL aw.typeIs E4 (kL E4 aw.typeIs PH ?_<|args_list_setitem _ _ _)];rw[jm ?_];intro jI;rw[((bc<|PI (fitsIndex_of aM i3) ?_):ce _ _ (Ri (.int m D)>>=_) _ _ b)];clear i3;obtain⟨Q,rfl⟩:=BC aM;rw[sv ?_];intro tZ;have cu:Q<bv.size:=ct (.t .x .y) [.b2 (.c .x)<|.c .y] Z ak;rw[bc<|bc<|wpAny_seqItemAt aL V<|cr<|iG (U (pb cu) V) ?_];have CI:=nP (jG (·.setIfInBounds Q z)) aL V;rwa[bc<|PJ aL V];first|rw[bc<|cr<|cr ⟨.none,V,cr<|aj _ _ CI<|tF ..⟩]|rw[cr ⟨.none,V,cr<|aj _ _ CI<|tF ..⟩]
theorem aaU(aL:b.heap.get? E=W {cls:=.type "list",data:=.seq bv o})(aM:m<0)(i3:-(2^63)<=m)(af:-(bv.size:Int)<=m)(aj:∀X i7,Ű X E=W {cls:=.type "list",data:=.seq (bv.setIfInBounds (om (m+bv.size)) z) i7}->iE E b.heap X->A () {b with heap:=X}):ce (cD ſ v) s (wp (.ref E) (.int m D) z) A aC b:=by
 have aw:b.heap.IsList E bv:=⟨_,aL,V,o,V⟩;unfold wp;try with_reducible rw[kK ?_]
 first|rw[bc (cr ?_)]|skip
 rwa[bc<|Bj aw.typeIs bf];rw[bc<|nL aw.typeIs E4 (kL E4 aw.typeIs PH ?_<|args_list_setitem _ _ _)];rw[jm ?_];intro jI;rw[((bc<|PI (fitsIndex_neg aM i3) ?_):ce _ _ (Ri (.int m D)>>=_) _ _ b)];clear i3;have cu:om (m+bv.size)<bv.size:=vk (.t .x .y) [.b2 .x<|.n 0,.e0 (.c .x)<|.a .x<|.c .y] Z aM<|pg<|tU (.cN (.n 0)<|.a .x<|.c .x) [.cN (.g<|.c .x) .x] Z af;obtain⟨Q,rfl⟩:∃Q:Nat,m=Int.negSucc Q:=by cases m with
  |ofNat o=>rw[absurd aM<|BB.mpr<|Int.ofNat_nonneg o]|negSucc o=>rw[⟨o,V⟩]
 rw[sv ?_];intro tZ;rw[bc<|bc<|bc<|ts aL V<|cr<|cr<|iG (U (seqIndex_neg aM af) V) ?_];simp only[Option.bind_some,(pb cu),tu];have CI:=nP (jG (·.setIfInBounds (om (Int.negSucc Q+bv.size)) z)) aL V;rwa[bc<|PJ aL V];first|rw[bc<|cr<|cr ⟨.none,V,cr<|aj _ _ CI<|tF ..⟩]|rw[cr ⟨.none,V,cr<|aj _ _ CI<|tF ..⟩]
end
variable{g:ea}{p:Env}{s:cq}{b:au}{f:Str}{a4:aF}{i D:bJ}{d':Pos}
theorem bG.AL(n:bG g p r L aa y b)(I:cx g p r L ay aa)(R:fm y f<|.o z):∃h cS,h∈L/\p_ p b.heap cS/\cS f=W (.ref h)/\iO b.heap r h z/\(∀as ar h5,bb [] [] b as->bb [h] [] as ar->iO ar.heap r h h5->bG g p r L aa ((f,.o h5)::y) ar):=by
 rw[g4 λu bW=>jh n.3 λcS al af am a'=>bt (af _ _ R) λa4 jq bN=>bt bN λgi i ap=>fK (am _ _ R) λh aS zV bl=>?_];subst i;obtain rfl:gi=h:=by replace zV:=jq▸zV;cases zV;rfl
 rw[bW<|⟨gi,cS,aS,al,jq,ap,λas ar h5 ry aK aL=>?_⟩];have iR:∀a k,a∉[gi]->b.heap.get? a=W k->Ű (Q7 ar) a=W k:=λa k l i=>aK.1 a k l<|ry.all a k i;have hN:gi∉cc p:=λe=>(I.4 _ e).2.2.1 aS;rw[⟨a5 n.1<|a5 ry.2 aK.2,(n.2.to ry aR).to aK<|λC ae=>bg ae▸(I.5 gi aS).2.1,cS,al.keeps λa l k i=>iR a k (λe=>hN<|bg e▸l) i,λB bz a8=>?_,λB aG a8=>?_,λB aG a8=>?_⟩]
 .rcases iQ a8 with⟨rfl,rfl⟩|⟨c_,a8⟩
  .rw[⟨_,jq,gi,V,aL⟩]
  .rw[bt (af B bz a8) λv bV q=>⟨v,bV,q.own (λC ae=>bg ae▸((I.5 gi aS).1)) (λe a i df=>g4 λu bW=>?_) iR⟩];subst i;have:=bg df;subst this;rw[bW ?_];cases bz with|f aG=>rw[e.elim]|o aG=>rw[bl B aG c_ a8 bV]|b aG=>rw[fK (a' B aG a8) λxk i dm u=>?_];rw[bV]at i;cases i;rw[dm aS]
 .rcases iQ a8 with⟨rfl,e⟩|⟨c_,kZ⟩
  .rw[⟨gi,aS,jq,λC D ae bC=>?_⟩];rcases iQ bC with⟨df,_⟩|⟨_,bC⟩
   .rw[absurd df ae]
   .rw[bl C D ae bC]
  .rw[fK (am B aG kZ) λa l i jN=>⟨a,l,i,λC D ae bC=>?_⟩];rcases iQ bC with⟨df,_⟩|⟨_,bC⟩
   .rw[U df<|Fm jq▸?_];intro e;cases e;rw[bl B aG c_ kZ i]
   .rw[jN C D ae bC]
 .rcases iQ a8 with⟨_,e⟩|⟨_,a8⟩
  .rw[nomatch e]
  .rw[a' B aG a8]
theorem fF.ownAt(aS:h∈L)(ry:bb [] [] b as)(aK:bb [h] [] as ar):fF a1 p r L r L b ar:=⟨λu c=>c,λu c=>.inl c,λu c=>.inl c,(ry.mono aR λu c=>c).trans<|aK.mono (λa l=>b7<|b7<|bg l▸aS) λu c=>c⟩
theorem CJ{cS:Str->Option aF}{a4:aF}(al:p_ p b.heap cS)(jq:cS f=W a4)(R:hL p.scope f=ag):dk g.prog g.w s [] [] p (bb [] [] b) (.Name f d') (λu g=>g=a4):=λD A n aj=>by rw[fb (Cy R) λaf am a'=>Y.eq (U (arm_eval_Name ..) V)<|Y.bind<|Y.of<|qU<|gR (by rwa[U a'];decide) ?_];rw[KL (al.keeps λa u k i=>n.all a k i) (K9 af) jq am<|aj a4 D (bK.refl ..) V]
namespace bd
theorem append(aI:gj y f=W (.o<|.lst aJ))(R:hL O f=ag)(bq:ai g x O y i m z)(ae:gu aJ<=cy)(c:bd g x O a1 ((f,.o<|.lst<|aJ++[z])::y) b0 b1)(aT:m≠.ls:=by decide)(ak:dS i=ag:=by rfl)(mP:∀p,uZ (.Name f d') "append" p (ee (.Name f d') p)=ee (.Name f d') p:=by intros;rfl)(iM:(qc.endLine==ax.line)=ag:=by rfl):bd g x O a1 y (.Expr (.Call (.Attribute (.Name f d') "append" qc) [i] [] ax) Ti::b0) b1:=λs p r L ay aa b ao G I n=>by
 rw[B' (n.AL I<|sD aI) λh cS aS al jq cB um=>fW cB λN o aL ap=>?_];have cp:N.size=gu aJ:=by simpa using ap.length
 rwa[K4 I.1 V<|aay (a_:=[]) (N:=N) (⟨λu u h a=>h.trans a,λD t f R=>cg (cg (I.8 f R) n.1) t.2,aR⟩) (CJ al jq<|G▸R) (λD t=>⟨o,t.all _ _ aL⟩) (λD A t aj=>((bq.hA aT) s p r L ay aa ao G I) D A (n.grow t) aj) (cp▸ae) ak (mP p) iM (bK.refl ..)];intro a4 as ar aK _ aQ aw a7;rw[c1 aw λS aw=>?_];have fZ:∀a k,a∉r->Ű (Q7 as) a=W k->Ű (Q7 ar) a=W k/\a∉r:=λa k l i=>⟨a7.1 a k (λe=>l<|bg e▸((I.5 h aS).1)) i,l⟩;have dD:=um as ar (.lst<|aJ++[z]) aK a7 ⟨_,S,aw,by rw[U BY<|b9.append ?_<|b9.to fZ _ _<|b9.to (λa k l i=>⟨aK.all a k i,l⟩) _ _ ap];rw[⟨a4,[],V,ck.to fZ _ _ aQ,by rw[V]⟩]⟩;rw[⟨V,Y.mono (c s p r L ay aa ar ao G I dD) λJ w X=>X.trans<|fF.ownAt aS aK a7⟩]
end bd
end
theorem b9.set(aQ:ck c r z g){aJ:List bj}:∀{N:List aF}(Q:Nat),b9 c r aJ N->b9 c r (aJ.set Q z) (N.set Q g):=by induction aJ with|nil=>intro fl Q q;rwa[U q];rfl|cons cR e3 a3=>intro fl rp;cases rp with|zero=>intro q;rw[d7 q λbm aV bN dY eN=>?_];obtain rfl:=bN;rw[U Qc<|U Qc<|(ie g aV V aQ eN)]|succ Q=>intro q;rw[d7 q λbm aV cB dY eN=>?_];obtain rfl:=cB;rw[U Jv<|U Jv<|(ie bm (aV.set Q g) V dY<|a3 Q eN)]
theorem aaV(aI:gj y f=W (.o<|.lst aJ))(R:hL O f=ag)(bq:ai g x O y i m z)(T:cI g x O y vy j)(Q:Nat)(cu:(0<=j/\j<gu aJ/\Q=om j)\/(j<0/\-(gu aJ:Int)<=j/\Q=om (j+gu aJ)))(ae:gu aJ<=cy)(c:bd g x O a1 ((f,.o<|.lst<|aJ.set Q z)::y) b0 b1)(aT:m≠.ls:=by decide)(ak:t7 i=ag:=by rfl):bd g x O a1 y (.Assign [.Subscript (.Name f d') vy un] i ax::b0) b1:=vx c λs p r L ay aa b ao G I n=>by
 rw[d8 ?_];intro eg;rw[Y.eq (PK (hs:=t8 ak) ..)<|dH<|Y.bind<|(bq.hA aT) s p r L ay aa ao G I b _ n λa4 as aK gb=>Y.eq (U (assign_Subscript ..) V)<|B' (n.AL I<|sD aI) λh cS aS al jq dt um=>fW dt λN o aL ap=>?_];have cp:N.size=gu aJ:=by simpa using ap.length
 have ih:cy=2^24:=V;rw[Y.bind<|dR<|(CJ (g:=g) al jq<|G▸R) as _ aK λiy ar a7 iN=>d8 ?_];intro eg;subst iN;rw[ph ?_];intro p6;rw[dR<|(eP T ao G I) ar _ (n.grow<|aK.trans a7) λpz co b4 xl=>c1 xl λD eh=>?_];obtain rfl:=eh;rwa[dH<|ds (@YP _ _ _ _)];intro dx;have js:=(aK.trans a7).trans b4;have gv:∀X i7,Ű X h=W {cls:=.type "list",data:=.seq (N.setIfInBounds Q a4) i7}->iE h co.heap X->∃da iA eZ,fF a1 p r L da iA b {co with heap:=X}/\cx g p da iA ay eZ/\bG g p da iA eZ ((f,.o<|.lst<|aJ.set Q z)::y) {co with heap:=X}:=by intro X i7 fM dy;have eL:=bK.same (ab:=co.toks) dy;have fZ:∀a k,a∉r->Ű (Q7 co) a=W k->Ű X a=W k/\a∉r:=λa k l i=>⟨eL.1 a k (λe=>l<|bg e▸((I.5 h aS).1)) i,l⟩;rw[⟨r,L,aa,fF.ownAt aS js eL,I,um co _ _ js eL ⟨_,i7,fM,(U JJ<|(b9.to fZ _ _<|b9.to (λa k l i=>⟨js.all a k i,l⟩) _ _ ap).set (ck.to fZ _ _<|ck.to (λa k l i=>⟨(a7.trans b4).all a k i,l⟩) _ _ gb) Q)⟩⟩]
 rw[dR<|Y.of<|jm ?_];intro jI;rcases cu with⟨aM,af,rfl⟩|⟨aM,af,rfl⟩
 .rw[Lr (js.all _ _ aL) aM (vk (.b2 .x<|.n 9223372036854775808) [.l .x .y,.e .y<|.n 16777216,.b2 .x<|.c .x] Z ae ih af) (RY 21 (.b2 .x<|.c .x) [.e .x .y,.b2 .x<|.c .y] Z cp af) λX i7 fM dy=>wZ<|Y.pure ⟨V,gv X i7 fM dy⟩]
 .rw[aaU (js.all _ _ aL) aM (vk (.cN (.g<|.n 9223372036854775808) .x) [.l .x .y,.e .y<|.n 16777216,.cN (.g<|.c .x) .x] Z ae ih af) (RY 21 (.cN (.g<|.c .x) .x) [.e .x .y,.cN (.g<|.c .y) .x] Z cp af) λX i7 fM dy=>?_];rw[cp]at fM;rw[wZ<|Y.pure ⟨V,gv X i7 fM dy⟩]
theorem bG.D_(n:bG g p r L aa y b)(cC:∀a∈bx,a∈r)(hr:c'<=(aB b)):bG g p bx L c' y b:=by rw[jh n.3 λcS al af am a'=>⟨hr,n.2,cS,al,λf bz R=>bt (af f bz R) λz aQ q=>⟨z,aQ,q.sub cC⟩,am,a'⟩]
theorem Tj{B:Str}{sN ax un:Pos}{dT:bJ}{eG:List lC}{a2:dA}{p:Env}(aT:p.scope.kind=.function)(a8:p.scope.names.lookup B=W .local)(aw:(sN.line==ax.line)=ag)(vz:(a2.names.any λf=>f.1==B&&(f.2==.local||f.2==.cell))=be):swapsWith (.ListComp dT eG a2 ax) (W<|.Name B sN) un.line p=dB ag:=by
 have af:p.blockKind=.function:=by unfold Env.blockKind;rwa[U aT];rfl
 have am:p.kindOf B=W .local:=a8;have a':(sN.line==(Expr.ListComp dT eG a2 ax).pos.line)=ag:=aw;unfold swapsWith
 dsimp only;rw[U af<|U am<|U a'<|U vz ?_];rfl
namespace bd
theorem comp(aA:g.Ok)(cf:zP g x O y dT t b5 a2 ax bv dU)(a8:(O.names.lookup B==W .local)=ag)(aw:(sN.line==ax.line)=ag)(vz:(a2.names.any λf=>f.1==B&&(f.2==.local||f.2==.cell))=be)(c:bd g x O a1 ((B,.f<|.lst dU.flatten)::y) b0 b1):bd g x O a1 y (.Assign [.Name B sN] (.ListComp dT (t::b5) a2 ax) un::b0) b1:=vx c λs p r L ay aa b ao G I n=>by
 rw[d8 ?_];intro eg;subst G;have CK:=eq_of_beq a8;rw[Fm (PL (hs:=Tj I.1 CK aw vz))▸dH (Y.bind ?_)];have g7:=n.now;have en:=I.up (c':=(aB b)) n.1;have aM:=n.2.1.2;rw[Y.bind<|Te aA cf ao en g7 (A:=λu w=>Y g.prog g.w s (dB ()) _ w) λaP av w bk gz eI c7 rC zS i9=>Y.eq (EZ ..)<|dH<|c1 bk λS bk=>?_];have CL:aP∉cc p:=λe=>b2 (en.8 aP (en.4 aP e).1) eI;have bV:∀a∈[aP],(aB b)<=a/\a<(aB w):=λa l=>bg l▸⟨eI,zS⟩;have eo:=en.l3 bV aM gz.2;have bs:=g7.l3 gz<|λa l=>(bV a l).1;have ap:ck w.heap ([aP]++r) (.lst dU.flatten) (.ref av):=by
  rw[g4 λu bW=>bt i9 λN dt ap=>c1 dt λo i=>bW ?_];rw[(p0 av N o V (λe=>?_) i (b9.to (λa k l i=>⟨i,λe=>l (by
   rw[dw e (λi=>?_) λe=>?_]
   .rw[U i bB]
   .rw[mt<|mt e])⟩) _ _ ap))];rw[dw e (λi=>rC i.symm) λe=>b2 (en.8 av e) c7]
 have Ls:ln p.scope B=ag:=by unfold ln;rw[U CK V]
 rw[sF (a:=be) eo bs ap Ls λd_ vA Ge=>?_];have CM:=bk.at' λk i=>vA.1 _ k CL i;rw[(dj S CM λX dy=>Y.pure<|Y.pure ⟨V,(zj r L (aB d_) ?_ (en.up<|a5 gz.2 vA.2) ?_)⟩)]
 .have d0:=bK.same (ab:=d_.toks) dy;rw[fF.inside<|((gz.mono aR λu c=>c).trans vA).hj d0 (λa l=>.inr<|bg l▸fY eI) aR]
 .have d0:=bK.same (ab:=d_.toks) dy;rw[(Ge.yv (cL:=[aP]) (λC ae=>b7 ae) (λC ae=>bg ae▸CL) (λC ae=>bg ae▸a5 aM eI) aR (λa k l i=>g4 λu bW=>jH CM λdh az zy cP bl u=>?_) d0).D_ (λa l=>bR l)<|l_ dy.1.symm];rw[bg l,cP]at i;cases i;rw[bW<|SZ bl]
end bd
inductive zW(g:ea)(h:aE)(bp:yJ)(eC:List fa):Prop|mk(f2:∃k,Ű (Q7 g.s0) h=W k/\k.data=.func bp)(f3:h∉g.tabs)(gw:bp.scope.isCoroutine=be)(j_:bp.scope.isGenerator=be)(lL:bp.body=.stmts eC)(oA:∃e k N D,bp.code=.ref e/\e∉g.tabs/\Ű (Q7 g.s0) e=W k/\k.data=.fields N/\N[1]?=W (.str bp.qualname D))(w5:bp.scope.kind=.function)(F7:∀f∈bp.scope.names,f.2≠.free)(K8:bp.closure=[])(SX:bp.globals=3)(å:bp.builtins=0):zW g h bp eC
theorem zW.at_(aA:g.Ok)(c:zW g h bp eC)(a:gU g b):FnAt b h bp eC:=by rw[bt c.1 λk i bl=>Y0 c.6 λe sO N D bH cm eO hu rG=>⟨⟨k,a.1.1 _ _ c.2 i,bl⟩,c.3,c.4,c.5,⟨e,sO,N,D,bH,a.1.1 _ _ cm eO,hu,rG⟩,c.7,c.8,c.9,aA.3 b a⟩]
def hO(g:ea)(x:Nat)(O:dA)(y:b_):List bJ->List (i6×bj)->Prop|[],[]=>True|i::az,(m,z)::N=>dS i=ag/\ai g x O y i m z/\hO g x O y az N|cR,e3=>False
noncomputable def oM(aa:Nat)(r:List aE):List (i6×bj)->au->List aF->Prop|[],cR,aV=>aV=[]|(m,z)::N,b,aV=>∃g q,aV=g::q/\fB aa r m z b g/\oM aa r N b q
theorem hO.star:∀{az:List bJ}{N:List<|i6×bj},hO g x O y az N->az.all dS=ag|[],[],cR=>V|i::az,(m,z)::N,c=>by rw[U on<|U c.1<|U (hO.star c.2.2) ?_];rfl
theorem hO.t6(ao:eW x s)(G:p.scope=O)(I:cx g p r L ay aa):∀{az:List bJ}{N:List<|i6×bj},hO g x O y az N->nk g.prog g.w s [] [] p (bG g p r L aa y) az (oM aa r N)|[],[],cR=>λb A ax aO aj=>jo b A ax aO λaV w t c=>aj aV w t c|i::az,(m,z)::N,c=>λb A ax aO aj=>hZ c.1 I.ok (c.2.1 s p r L ay aa ao G I) fB.hV (hO.t6 ao G I c.2.2) b A ax aO λaV w t c=>aj aV w t c
noncomputable def i6.slot:i6×bj->Slot|(.ls,z)=>.b z|(cR,z)=>.f z
noncomputable def CN:(i6×bj)->aF->bj|(.ls,cR),g=>.raw g|(cR,z),e3=>z
theorem oM.length{N:List<|i6×bj}:∀{aV:List aF},oM aa r N b aV->gu aV=gu N:=by induction N with|nil=>intro aV c;rwa[U (c:aV=[])];rfl|cons h2 N a3=>obtain⟨m,z⟩:=h2;intro aV c;obtain⟨g,q,rfl,_,c⟩:=c;rw[U gt<|U gt<|U (a3 c) V]
def CO:List (i6×bj)->List aF->List bj|h::bT,g::aV=>CN h g::CO bT aV|cR,e3=>[]
theorem oM.PB(cC:∀h∈r,h<aa){N:List<|i6×bj}:∀{aV:List aF},oM aa r N b aV->b9 b.heap r (CO N aV) aV:=by induction N with|nil=>intro aV c;rw[c]|cons h2 N a3=>obtain⟨m,z⟩:=h2;intro aV c;obtain⟨g,q,rfl,af,c⟩:=c;rw[(ie g q V ?_<|a3 c)];cases m with|ls=>rw[V]|fr=>rw[af.cH cC bf]|cH=>rw[af]
theorem Tk{E:List<|Str×aE}:E.lookup f=W h->(f,h)∈E:=by induction E with|nil=>intro c;rw[dN c]|cons h2 q a3=>obtain⟨B,a⟩:=h2;intro c;rw[tA]at c;cases i:f==B with|true=>replace c:=i▸c;cases c;rw[U (eq_of_beq i) bB]|false=>replace c:=i▸c;rw[mt<|a3 c]
theorem Tl(b:au)(a2:dA):∀f B h a,(cellsFrom (b.heap.objs.size+1) a2.names []).lookup f=W h->(cellsFrom (b.heap.objs.size+1) a2.names []).lookup B=W a->f≠B->h≠a:=by have jO:=cellsFrom_ok a2.names (b.heap.push {cls:=.type "frame",data:=.dict #[]}) (b.heap.objs.size+1) [] ⟨λu u c=>(db c),Rd⟩ (by rwa[U (f' ..)];rw[dr _]);rw[f']at jO;intro f B h a aS l c_ i;subst i;have kb:=Tk aS;have ej:=Tk l;have aO:=jO.apart;generalize cellsFrom (b.heap.objs.size+1) a2.names []=E at kb ej aO;induction E with
 |nil=>rw[db kb]|cons n E aW=>
  rw[List.pairwise_cons]at aO;rw[hp (fT.mp kb) (λe=>?_) λe=>?_]
  .rw[hp (fT.mp ej) (λdf=>?_) λdf=>?_]
   .rw[<-e]at df;cases df;rw[c_ V]
   .rw[aO.1 _ df<|bL e V]
  .rw[hp (fT.mp ej) (λdf=>aO.1 _ e<|bL df V) λdf=>aW e df aO.2]
def lT:List Str->List (i6×bj)->b_->b_|f::aJ,h::bT,y=>lT aJ bT<|(f,i6.slot h)::y|cR,e3,y=>y
theorem Tm{aJ:List Str}:∀{bT:List<|i6×bj}{aV:List aF}{y:b_}{g6:List<|Str×bj}{B:Str}{bz:Slot},gu aJ=gu aV->gu bT=gu aV->(∀B bz,fm y B bz->∃h g,bz=i6.slot h/\zu g6 B (CN h g)/\fB aa r h.1 h.2 b g)->oM aa r bT b aV->fm (lT aJ bT y) B bz->∃h g,bz=i6.slot h/\zu (zE (aJ.zip aV) (CO bT aV) g6) B (CN h g)/\fB aa r h.1 h.2 b g:=by induction aJ with
 |nil=>intro bT aV y g6 B bz aw lk aM aQ c;cases aV with
  |nil=>cases bT with
   |nil=>rw[aM B bz c]|cons _ _=>cases lk
  |cons _ _=>cases aw
 |cons f aJ aW=>intro bT aV y g6 B bz aw lk aM aQ c;cases bT with
  |nil=>cases aV with
   |nil=>cases aw|cons _ _=>cases lk
  |cons kf bT=>
   obtain⟨m,z⟩:=kf;rw[d7 aQ λg q dt af am=>?_];obtain rfl:=dt;rw[aW (aV:=q) (by simpa using aw) (by simpa using lk) (λC bz ae=>?_) am c];rcases iQ ae with⟨rfl,rfl⟩|⟨c_,ae⟩
   .rw[(ie (m,z) g V .here af)]
   .rw[d7 (aM C bz ae) λh bm i e df=>(ie h bm i (.there (beq_false_of_ne<|ib c_) e) df)]
theorem ai.call(aA:g.Ok)(aI:g.gl f=W (.ref h))(R:fe O f=ag)(bi:zW g h bp eC)(aS:hO g (x+1) O y az bT)(aw:gu bT=gu eH)(l:∀b aV,gu aV=gu eH->sd b bp ⟨aV,[]⟩ (eH.zip aV))(aL:eH.all (ln bp.scope)=ag)(jP:bd g x bp.scope [] (lT eH bT []) eC<|λc2 u=>c2=.ret p9)(xm:gu az<20):ai g (x+1) O y (.Call (.Name f d') az [] ax) .cH p9:=λs p r L ay aa ao G I=>by
 subst G;rw[bt bi.1 λk i bl=>aaB I.ok (h3 aA I aI R) (λb n=>n.2.1.1 _ _ bi.2 i) bl (aS.t6 ao V I) (λb aV n aQ A aj=>(by
    have l:=l b aV<|aQ.length.trans aw;have cp:=aQ.length;have ht:Ų (ű (Q7 g.s0))<=b.heap.objs.size:=n.2.1.2;have jt:∀f∈r,f<b.heap.objs.size:=λf R=>cg (I.8 f R) n.1;have CP:=Tl b bp.scope;have cm:(eH.zip aV).map (·.2)=aV:=by have:gu aV=gu eH:=cp.trans aw;rw[Qd,];rw[ct (.l .x .y) [.e .x .y] Z this]
    rw[aaC (N:=CO bT aV) (mA (a5 (hf _ _) ao.2) bf) (bi.at_ aA n.2) l (λe aY=>?_) (Fm cm▸aQ.PB I.8) jt λw dZ bs=>?_]
    .rw[(w6<|hH.mp aL _<|(Fp aY).1).elim .inl λaT=>?_]
     .rw[c1 (IY.mp<|K7 bp.scope.names (b.heap.objs.size+1) [] e.1<|.inr aT) λa ej=>.inr ⟨a,aT,ej,λB xk u a8 c_=>CP _ _ _ _ a8 ej c_⟩]
    .have xc:∀a∈cc<|c5 bp h b,a<Ų (ű (Q7 w)):=λa l=>bs.1 a<|b7 l;have cd:bb [] [] b w:=bs.3;have eo:cx g (c5 bp h b) (cc (c5 bp h b)++r) [] r w.heap.objs.size:=by rw[⟨bi.7,bi.10,bi.11,λa l=>⟨b7 l,a5 ht<|dZ a l,(λe=>db e),λe=>b2 (jt a e)<|dZ a l⟩,aR,λa l=>bR l,λa l=>I.6 a<|I.7 a l,bs.1,λa l=>bS l (λe=>.inr<|a5 ht<|dZ a e) λe=>I.9 a e,CP⟩]
     have zX:bG g (c5 bp h b) (cc (c5 bp h b)++r) [] w.heap.objs.size (lT eH bT []) w:=by
      rw[bt bs.2 λcS al w1=>?_];have cK:∀B bz,fm (lT eH bT []) B bz->∃jV bm,bz=i6.slot jV/\(∃v,cS B=W v/\ck w.heap (cc (c5 bp h b)++r) (CN jV bm) v)/\fB aa r jV.1 jV.2 b bm:=λB bz a8=>by rw[d7 (Tm (g6:=[]) (kU 0 221 (.e .x .y) [.e .z .x,.e .y .z] Z aw cp) (id<|Fm cp) (by intro _ _ c;cases c) aQ a8) λjV bm i e df=>⟨jV,bm,i,w1 _ _ e,df⟩]
      rw[⟨dr _,n.2.to cd aR,cS,al,λB bz a8=>?_,λB aG a8=>?_,λB aG a8=>?_⟩]
      .rw[d7 (cK B bz a8) λeh bm fd gS xn=>?_];obtain⟨m,z⟩:=eh;rwa[U fd];obtain⟨v,bV,ap⟩:=gS;rw[⟨v,bV,?_⟩];cases m with
       |fr=>rw[ap]|cH=>rw[ap]|ls=>
        have gH:v=bm:=by have X:ck w.heap (cc (c5 bp h b)++r) (.raw bm) v:=ap;rw[X]
        rw[U gH<|bt xn λa i q=>⟨a,i,q.to (λa k l i=>⟨cd.all a k i,by rwa[gW jf<|gW not_or];rw[⟨λe=>b2 (dK i)<|dZ a e,l⟩]⟩) λk i=>cd.all _ k i⟩]
      .rw[fW (cK B _ a8) λgT bm i u=>?_];obtain⟨m,z⟩:=gT;cases m<;>cases i
      .rw[d7 (cK B _ a8) λhK bm i jp xn=>?_];obtain⟨m,z⟩:=hK;obtain⟨v,bV,ap⟩:=jp;cases m<;>cases i;have gH:v=bm:=by have X:ck w.heap (cc (c5 bp h b)++r) (.raw bm) v:=ap;rw[X]
       subst gH;rw[bt xn λa i q=>?_];subst i;rw[⟨a,bV,(λe=>db e),λe=>b2 q.lt<|dZ a e⟩]
     have go:eW x (s.deeper<|c5 bp h b):=⟨ao.1,by have:=ao.2;show s.depth+1+x<=900;rw[ct (.l (.a (.o .x) .y)<|.n 900) [.l (.a .x<|.o .y)<|.n 900] Z this],by have:=ao.3;show s.units+3+4*x<=5000;rw[ct (.l (.a (.a .x<|.n 3)<|.m 4 .y)<|.n 5000) [.l (.a .x<|.m 4<|.o .y)<|.n 5000] Z this]⟩;rwa[Y.mono (jP (s.deeper<|c5 bp h b) (c5 bp h b) _ [] r _ w go V eo zX)];rintro J d_ e;rw[e.gp λc2 bP bx cQ c' e wX dJ df=>?_];obtain rfl:=e;obtain⟨a4,rfl,ap⟩:=df;rw[⟨a4,V,(λa4 w t q=>aj a4 w t q) a4 d_ (cd.hj dJ.4 (λa l=>.inr<|fY<|dZ a (by simpa using l)) aR) ap⟩])) xm aS.star<|w7 R]
theorem Tn(S:Nat):tH 0 S 8=((S+7)/8:Nat):=by cases S with|zero=>rfl|succ m=>rw[(?_:(if(0:Int)<((m+1:Nat))then(((m+1:Nat):Int)-0-1)/8+1 else 0)=((m+8)/8:Nat))];rw[if_pos<|PR.mpr<|BE m,P0 m bf,Int.sub_zero];rw[congrArg (λC:Int=>C/8+1)<|Int.add_sub_cancel (m:Int) 1]
structure Inv where
 W:List aE
 G:List Nat
 St:List aE->au->Prop
 frame:∀r b w cL cf,St r b->bb cL cf b w->(∀a∈cL,a∈r/\a∉W)->(∀t∈cf,t∉G)->St r w
 mono:∀r bx b,St r b->(∀a∈bx,a∈r\/(aB b)<=a)->St bx b
inductive Inv.At(an:Inv)(g:ea)(p:Env)(r L:List aE)(b:au):Prop|mk(f2:an.St r b)(f3:∀a∈an.W,a∈r/\a∉L/\a∉cc p/\(a∈g.tabs\/(aB g.s0)<=a)/\a<(aB b))(gw:∀j∈an.G,g.s0.gens.size<=j/\j<b.gens.size):Inv.At an g p r L b
inductive gV(an:Inv)(p:Env)(r L bx cQ:List aE)(bZ:Inv)(b w:au):Prop|mk(f2:∀a∈r,a∈bx)(f3:∀a∈bx,a∈r\/(aB b)<=a)(gw:∀a∈cQ,a∈L\/(aB b)<=a)(j_:∀a∈bZ.W,a∈an.W\/(aB b)<=a)(lL:∀j∈bZ.G,j∈an.G\/b.gens.size<=j)(oA:bb (L++cc p++an.W) an.G b w):gV an p r L bx cQ bZ b w
theorem gV.refl(an:Inv)(b:au):gV an p r L r L an b b:=⟨λu c=>c,λu c=>.inl c,λu c=>.inl c,λu c=>.inl c,λu c=>.inl c,bK.refl ..⟩
theorem gV.trans(h:gV an p r L da iA d1 b as)(a:gV d1 p da iA mV n5 pA as ar):gV an p r L mV n5 pA b ar:=by
 rw[⟨λB c=>a.1 B<|h.1 B c,λB c=>(a.2 B c).elim (h.2 B) λe=>.inr<|a5 h.6.2 e,λB c=>(a.3 B c).elim (h.3 B) λe=>.inr<|a5 h.6.2 e,λB c=>(a.4 B c).elim (h.4 B) λe=>.inr<|a5 h.6.2 e,λB c=>(a.5 B c).elim (h.5 B) λe=>.inr<|a5 h.6.4 e,h.6.hj a.6 (λB a8=>?_) λB a8=>(h.5 B a8).imp id sy⟩];rw[bS a8 (λa8=>?_) λa8=>?_]
 .rw[bS a8 (λa8=>(h.3 B a8).elim (λe=>.inl<|b7<|b7 e) λe=>.inr<|fY e) λa8=>.inl<|b7<|bR a8]
 .rw[(h.4 B a8).elim (λe=>.inl<|bR e) λe=>.inr<|fY e]
theorem fF.yC(c:fF [] p r L bx cQ b w):gV an p r L bx cQ an b w:=⟨c.1,c.2,c.3,λu c=>.inl c,λu c=>.inl c,c.4.mono (λa l=>b7 (by simpa using l)) aR⟩
theorem Inv.At.step{an:Inv}{bx cQ:List aE}(c:an.At g p r L b)(I:cx g p r L ay aa)(t:fF [] p r L bx cQ b w):an.At g p bx cQ w:=by
 rw[⟨?_,λa l=>?_,λj T=>⟨(c.3 j T).1,cg (c.3 j T).2 t.4.4⟩⟩]
 .rw[an.frame _ _ _ _ _ (an.mono _ _ _ c.1 t.2) t.4 (λa l=>?_) aR];simp only[tB,jf]at l;rw[hp (l) (λe=>⟨t.1 a (I.5 a e).1,λv=>(c.2 a v).2.1 e⟩) λe=>⟨t.1 a (I.4 a e).1,λv=>(c.2 a v).2.2.1 e⟩]
 .rw[kO (c.2 a l) λdO d5 eb e9 f_=>⟨t.1 a dO,λe=>(t.3 a e).elim d5 λC=>b2 f_ C,eb,e9,cg f_ t.4.2⟩]
inductive xo(g:ea)(an:Inv)(p:Env)(r L ay:List aE)(b1:jU->b_->Inv->Prop)(b:au)(J:gO)(w:au):Prop|mk(c2:jU)(bP:b_)(bx cQ:List aE)(c':Nat)(bZ:Inv)(af:b1 c2 bP bZ)(am:gU g w)(a':gV an p r L bx cQ bZ b w)(cJ:Gb g p bx cQ ay c' bP c2 J w)(ez:bZ.At g p bx cQ w):xo g an p r L ay b1 b J w
theorem xo.gp{an:Inv}{b1:jU->b_->Inv->Prop}{J:gO}{w:au}{aD:Prop}(c:xo g an p r L ay b1 b J w)(m:∀c2 bP bx cQ c' bZ,b1 c2 bP bZ->gU g w->gV an p r L bx cQ bZ b w->Gb g p bx cQ ay c' bP c2 J w->bZ.At g p bx cQ w->aD):aD:=c.casesOn m
def b'(g:ea)(x:Nat)(s:cq)(O:dA)(an:Inv)(y:b_)(st:List fa)(b1:jU->b_->Inv->Prop):Prop:=∀(p:Env)(r L ay:List aE)(aa:Nat)(b:au),eW x s->p.scope=O->cx g p r L ay aa->bG g p r L aa y b->an.At g p r L b->Y g.prog g.w s (d3 st p) (xo g an p r L ay b1 b) b
theorem xp(c:let M:=b1;b' g x s O an y uj M):b' g x s O an y uj b1:=c
theorem rH(c:let aD:=y;b' g x s O an aD uj b1):b' g x s O an y uj b1:=c
theorem CQ(c:let ai:=an;b' g x s O ai y uj b1):b' g x s O an y uj b1:=c
theorem xo.trans{an d1:Inv}{da iA:List aE}{b as ar:au}{b1:jU->b_->Inv->Prop}{J:gO}(h:gV an p r L da iA d1 b as)(a:xo g d1 p da iA ay b1 as J ar):xo g an p r L ay b1 b J ar:=a.gp λc2 bP bx cQ c' bZ af am a' cJ ez=>⟨c2,bP,bx,cQ,c',bZ,af,am,h.trans a',cJ,ez⟩
theorem aaW{ſ:cM}{v:cU}{st:fa}{ca:gO->au->Prop}(c:Y ſ v s (d3 [st] p) (λJ w=>(J=.next->Y ſ v s (d3 b0 p) ca w)/\(J≠.next->ca J w)) b):Y ſ v s (d3 (st::b0) p) ca b:=by rw[qW]at c⊢;intro y n cz af am;have X:=c y n cz af am;rw[za]at X⊢;rw[mF _ y _ (λJ bs w bi=>?_) (λu u u f=>f) n b X];cases J with|next=>rw[wt]at bi;rw[(bi.1 V) y bs cz af am]|brk=>rw[bi.2<|λe=>nomatch e]|cont=>rw[bi.2<|λe=>nomatch e]|ret z=>rw[bi.2<|λe=>nomatch e]
namespace b'
theorem nil(c:b1 .next y an):b' g x s O an y [] b1:=λp r L ay aa b ao G I n T=>by rw[Y.eq (wt ..)<|Y.pure ⟨.next,y,r,L,aa,an,c,n.2,gV.refl an b,⟨V,I,n⟩,T⟩]
theorem le(aw:gk bP y)(c:b' g x s O an bP b0 b1):b' g x s O an y b0 b1:=λp r L ay aa b ao G I n=>c p r L ay aa b ao G I<|n.le λf bz e=>aw.has e
theorem oa{st:fa}(c:bd g x O [] y [st]<|λc2 bP=>match c2 with|.next=>b' g x s O an bP b0 b1|c2=>b1 c2 bP an):b' g x s O an y (st::b0) b1:=λp r L ay aa b ao G I n T=>by rw[d8 ?_];intro eg;rwa[aaW<|Y.mono (c s p r L ay aa b ao G I n)];rintro J as e;rw[e.gp λc2 bP bx cQ c' aO l dJ bq=>?_];cases c2 with|next=>obtain⟨rfl,eo,bs⟩:=bq;rw[⟨λu=>Y.mono (aO p bx cQ ay c' as ao G eo bs<|T.step I dJ) λJ w X=>X.trans dJ.yC,λe=>absurd V e⟩]|brk=>obtain⟨rfl,bq⟩:=bq;rw[⟨(λe=>nomatch e),λu=>⟨.brk,bP,bx,cQ,c',an,aO,l,dJ.yC,⟨V,bq⟩,T.step I dJ⟩⟩]|cont=>obtain⟨rfl,bq⟩:=bq;rw[⟨(λe=>nomatch e),λu=>⟨.cont,bP,bx,cQ,c',an,aO,l,dJ.yC,⟨V,bq⟩,T.step I dJ⟩⟩]|ret z=>obtain⟨a4,rfl,bq⟩:=bq;rw[⟨(λe=>nomatch e),λu=>⟨.ret z,bP,bx,cQ,c',an,aO,l,dJ.yC,⟨a4,V,bq⟩,T.step I dJ⟩⟩]
theorem next{st:fa}(af:∀(p:Env)(r L ay:List aE)(aa:Nat)(b:au),eW x s->p.scope=O->cx g p r L ay aa->bG g p r L aa y b->an.At g p r L b->Y g.prog g.w s (exec st p) (λJ as=>J=.next/\∃lS d1 da iA eZ,gV an p r L da iA d1 b as/\cx g p da iA ay eZ/\bG g p da iA eZ lS as/\d1.At g p da iA as/\b' g x s O d1 lS b0 b1) b):b' g x s O an y (st::b0) b1:=λp r L ay aa b ao G I n T=>by rwa[zz<|Y.mono (af p r L ay aa b ao G I n T)];rintro J as bN;rw[c0 bN λcB dt=>Kb dt λlS d1 da iA eZ dJ hM dd gA c=>U cB<|⟨V,Y.mono (c p da iA ay eZ as ao G hM dd gA) λJ w X=>X.trans dJ⟩]
end b'
def mX(g:ea)(x:Nat)(O:dA)(y:b_)(cn i:bJ)(bv:List bj):Prop:=∀(s:cq)(p:Env)(r L ay:List aE)(aa K:Nat),eW x s->p.scope=O->cx g p r L ay aa->dk g.prog g.w s [] [] p (λb=>bG g p r L aa y b/\K<=b.gens.size) i (λb a4=>zH g.prog g.w s cn aa K [] [] r r a4 bv b)
theorem mX.tup(c:ai g x O y i .cH<|.tup aJ):mX g x O y (.Name f d') i aJ:=λs p r L ay aa K ao G I b A n aj=>let n:=n.1
 c s p r L ay aa ao G I b A n λa4 w t aQ=>aj a4 w t<|aaK (n.grow t).1 ao.1 (λa l=>cg (I.8 a l) (n.grow t).1) (λu c=>c) aQ
theorem mX.yi(c:∀(s:cq)(p:Env)(r L ay:List aE)(aa:Nat),eW x s->p.scope=O->cx g p r L ay aa->dk g.prog g.w s [] [] p (bG g p r L aa y) i (zB r h a o)):mX g x O y (.Name f d') i ((ij h a o).map .int):=λs p r L ay aa K ao G I b A n aj=>let n:=n.1
 c s p r L ay aa ao G I b A n λa4 w t aQ=>aj a4 w t<|S4 (n.grow t).1 ao.1 (λa l=>cg (I.8 a l) (n.grow t).1) aQ
theorem mX.q_{f:Str}{o:Nat}{e:Pos}(aA:g.Ok)(c:cI g x O y i o)(aI:g.gl "range"=W (.type "range"))(R:fe O "range"=ag)(ak:dS i=ag)(ae:o<2^62):mX g x O y (.Name f d') (.Call (.Name "range" e) [i] [] ax) ((ij 0 1 o).map .int):=mX.yi λs p r L ay aa ao G I=>by subst G;rw[SL I.ok (h3 aA I aI R) ak (eP c ao V I) ae]
theorem Inv.At.it{an:Inv}{aZ:List aE}{b5:List Nat}(c:an.At g p r L b)(t:bb aZ b5 b w)(cC:∀a∈aZ,a∈r/\a∉an.W)(lP:∀j∈b5,j∉an.G):an.At g p r L w:=⟨an.frame _ _ _ _ _ c.1 t cC lP,λa l=>kO (c.2 a l) λdO d5 eb e9 f_=>⟨dO,d5,eb,e9,cg f_ t.2⟩,λj T=>⟨(c.3 j T).1,cg (c.3 j T).2 t.4⟩⟩
theorem Inv.At.wide{an:Inv}{bx:List aE}(c:an.At g p r L b)(dX:∀a∈r,a∈bx)(cC:∀a∈bx,a∈r\/b.heap.objs.size<=a):an.At g p bx L b:=⟨an.mono _ _ _ c.1 cC,λa l=>c0 (c.2 a l) λdO q=>⟨dX a dO,q⟩,c.3⟩
namespace b'
theorem nu(ai:Nat->b_->Inv->Prop)(bi:zO iK)(f9:mX g x O y cn iK bv)(nV:∀j f bP bZ,bv[j]?=W f->ai j bP bZ->mT be O cn f/\b' g x s O bZ (k0 cn f bP) eC (λc2 xh Lt=>match c2 with
   |.next|.cont=>ai (j+1) xh Lt|.brk=>b' g x s O Lt xh b0 b1|.ret z=>b1 (.ret z) xh Lt))(aM:ai 0 y an)(ud:∀bP bZ,ai (gu bv) bP bZ->b' g x s O bZ bP b0 b1):b' g x s O an y (.For cn iK eC [] ax::b0) b1:=λp r L ay aa b ao G I n T=>by
 rw[d8 ?_];intro eg;rwa[SN (λf=>bi p f)];have g7:=n.now;have en:=I.up n.1;have ht:=n.2.1.2;rw[f9 s p r L ay _ b.gens.size ao G en b _ ⟨g7,dr _⟩ λa4 as aK pw=>pw _ λdE ar bQ aZ b5 St aN=>⟨dE,V,(Kn ?_)⟩];intro Tg;have a7:=aN.3;have fO:=a5 aK.2 a7.2;have eK:∀a∈aZ,(aB b)<=a/\a<(aB ar):=λa l=>⟨(aN.4 a l).elim id<|λe=>db e,(aN.7 a<|aN.1.1 a l).1⟩;have nr:∀j∈b5,b.gens.size<=j/\j<ar.gens.size:=λj T=>⟨(aN.5 j T).elim id<|λe=>db e,aN.6 j T⟩;have CG:∀j∈b5,g.s0.gens.size<=j:=λj T=>a5 n.2.1.4 (nr j T).1;have dD:=g7.l3 (aK.trans a7)<|λa l=>(eK a l).1;have iS:=aK.trans a7;have CH:∀a∈aZ,a∉cc p:=λa l e=>b2 (en.8 a (en.4 a e).1) (eK a l).1;have Lq:∀a∈aZ++(L++cc p++an.W),a∈aZ++r:=λa l=>by
  rw[bS l (λe=>?_) λe=>?_]
  .rw[b7 e]
  rw[bR<|bS e (λe=>bS e (λe=>(en.5 a e).1) λe=>(en.4 a e).1) λe=>(T.2 a e).1]
 have Lu:∀{bZ:Inv},(∀j∈bZ.G,j∈an.G\/ar.gens.size<=j)->∀j∈b5,j∉bZ.G:=λc j aI e=>(c j e).elim (λe=>b2 (T.3 j e).2 (nr j aI).1) λe=>b2 (nr j aI).2 e;have To:∀{bZ:Inv},(∀a∈bZ.W,a∈an.W\/(aB ar)<=a)->∀a∈aZ,a∉bZ.W:=λc a l e=>(c a e).elim (λe=>b2 (T.2 a e).2.2.2.2 (eK a l).1) λe=>b2 (eK a l).2 e;have xi:∀{bx cQ:List aE}{bZ:Inv}{D:au},(∀a∈aZ++r,a∈bx)->(∀a∈bx,a∈aZ++r\/(aB ar)<=a)->(∀a∈cQ,a∈L\/(aB ar)<=a)->(∀a∈bZ.W,a∈an.W\/(aB ar)<=a)->(∀j∈bZ.G,j∈an.G\/ar.gens.size<=j)->bb (aZ++(L++cc p++an.W)) (b5++an.G) ar D->gV an p r L bx cQ bZ b D:=by
  intro bx cQ bZ D dO d5 eb f_ uo e9;rw[⟨λa l=>dO a<|bR l,λa l=>(d5 a l).elim (λe=>bS e (λe=>.inr (eK a e).1) .inl) λe=>.inr<|a5 fO e,λa l=>(eb a l).elim .inl λe=>.inr<|a5 fO e,λa l=>(f_ a l).elim .inl λe=>.inr<|a5 fO e,λa l=>(uo a l).elim .inl λe=>.inr<|a5 (a5 aK.4 a7.4) e,((iS.mono aR aR).hj e9 (λa l=>?_) λj T=>?_)⟩]
  .rw[bS l (λe=>.inr<|fY (eK a e).1) λe=>.inl e]
  .rw[bS T (λe=>.inr<|sy (nr j e).1) λe=>.inl e]
 rw[S0 aN.1 (λj D=>∃bP bx cQ c' bZ,ai j bP bZ/\(∀a∈aZ++r,a∈bx)/\(∀a∈bx,a∈aZ++r\/(aB ar)<=a)/\(∀a∈cQ,a∈L\/(aB ar)<=a)/\(∀a∈bZ.W,a∈an.W\/(aB ar)<=a)/\(∀j∈bZ.G,j∈an.G\/ar.gens.size<=j)/\bb (aZ++(L++cc p++an.W)) (b5++an.G) ar D/\cx g p bx cQ ay c'/\bG g p bx cQ c' bP D/\bZ.At g p bx cQ D) ?_ ?_ ⟨y,aZ++r,L,_,an,aM,λu c=>c,λu c=>.inl c,λu c=>.inl c,λu c=>.inl c,λu c=>.inl c,bK.refl ..,(en.l3 eK ht fO),dD,((T.wide (λa l=>bR l) λa l=>bS l (λe=>.inr (eK a e).1) .inl).it iS aR aR)⟩ aN.2]
 .rintro j f oJ D z R bN sJ aQ n4 fx;rw[RD bN λbP bx cQ c' bZ e_ dO d5 eb f_ uo e9 eo bs gc=>d8 ?_];intro eg;have dd:=bs.yv (λC ae=>dO C<|b7 ae) CH (λC ae=>a5 ht (eK C ae).1) CG (λa k l i=>aN.1.6 j oJ a k sJ l i) fx;have gA:=gc.it fx (λa l=>⟨dO a<|b7 l,To f_ a l⟩)<|Lu uo;rw[c0 (nV j f bP bZ R e_) λbC jP=>Y.bind<|w' (a:=be) ao.1 eo dd (aQ bx _ (λa l=>⟨cg (eo.8 a l) bs.1,(d5 a l).elim (λe=>bS e (λe=>.inr<|.inl e) .inl) λe=>.inr<|.inr e⟩)<|e9.mono (λa l=>dO a<|Lq a l) λu c=>c) (G▸bC) λjr oK dD=>Y.mono (jP p bx cQ ay c' jr ao G eo dD<|gA.step eo<|fF.inside oK) ?_];rintro J mU cB;rw[cB.gp λc2 mW mV n5 rE pA aO l dJ bq vB=>?_];have fg:∀a∈aZ++r,a∈mV:=λa l=>dJ.1 a<|dO a l;have zU:=a5 e9.2<|a5 fx.2 oK.2;have fD:∀a∈mV,a∈aZ++r\/(aB ar)<=a:=λa l=>(dJ.2 a l).elim (d5 a) λe=>.inr<|a5 zU e;have h6:∀a∈n5,a∈L\/(aB ar)<=a:=λa l=>(dJ.3 a l).elim (eb a) λe=>.inr<|a5 zU e;have Gf:∀a∈pA.W,a∈an.W\/(aB ar)<=a:=λa l=>(dJ.4 a l).elim (f_ a) λe=>.inr<|a5 zU e;have vC:∀j∈pA.G,j∈an.G\/ar.gens.size<=j:=λa l=>(dJ.5 a l).elim (uo a) λe=>.inr<|a5 (a5 e9.4<|a5 fx.4 oK.4) e;have n6:bb (aZ++(L++cc p++an.W)) (b5++an.G) ar mU:=by rw[((e9.trans<|fx.mono (λa l=>b7 l) λu c=>b7 c).trans<|oK.mono (λa l=>bR<|b7<|bR l) aR).hj dJ.6 (λa l=>bS l (λe=>bS e (λe=>(eb a e).elim (λe=>.inl<|bR<|b7<|b7 e) λe=>.inr<|fY e) λe=>.inl<|bR<|b7<|bR e) λe=>(f_ a e).elim (λe=>.inl<|bR<|bR e) λe=>.inr<|fY e) λj T=>(uo j T).elim (λe=>.inl<|bR e) λe=>.inr<|sy e]
  have sM:St (j+1) mU:=by have aY:∀a∈L++cc p++an.W,a∉bQ:=λa l e=>(aN.7 a e).2<|bS l (λe=>bS e (λe=>(en.5 a e).1) λe=>(en.4 a e).1) λe=>(T.2 a e).1;rw[aN.1.2 _ _ _ (cQ++cc p++bZ.W) bZ.G n4 ((oK.mono (λa l=>b7<|bR l) aR).trans dJ.6) (λa l=>bS l (λl=>bS l (λl=>hp (eb a l) (λC=>aY a<|b7<|b7 C) λC=>λe=>b2 (aN.7 a e).1 C) λl=>aY a<|b7<|bR l) λl=>hp (f_ a l) (λC=>aY a<|bR C) λC=>λe=>b2 (aN.7 a e).1 C) λj T e=>Lu uo j e T]
  cases c2 with
  |next=>rw[fb bq λdt rF oL=>?_];rw[U dt<|⟨⟨mW,mV,n5,rE,pA,aO,fg,fD,h6,Gf,vC,n6,rF,oL,vB⟩,sM⟩]|cont=>rw[fb bq λeh rF oL=>?_];rw[U eh<|⟨⟨mW,mV,n5,rE,pA,aO,fg,fD,h6,Gf,vC,n6,rF,oL,vB⟩,sM⟩]|brk=>rw[fb bq λfd rF oL=>U fd<|.inl ⟨V,Y.mono (aO p mV n5 ay rE mU ao G rF oL vB) λJ w X=>X.trans<|xi fg fD h6 Gf vC n6⟩]|ret z=>rw[bt bq λa4 gS ap=>U gS<|.inr ⟨a4,V,.ret z,mW,mV,n5,rE,pA,aO,l,xi fg fD h6 Gf vC n6,⟨a4,V,ap⟩,vB⟩]
 .rintro oJ D gT sJ fx;rw[RD gT λbP bx cQ c' bZ e_ dO d5 eb f_ uo e9 eo bs gc=>?_];have dd:=bs.yv (λC ae=>dO C<|b7 ae) CH (λC ae=>a5 ht (eK C ae).1) CG (λa k l i=>aN.1.6 _ oJ a k sJ l i) fx;have gA:=gc.it fx (λa l=>⟨dO a<|b7 l,To f_ a l⟩)<|Lu uo;rw[.inl ⟨V,Y.mono (ud bP bZ e_ p bx cQ ay c' D ao G eo dd gA) λJ w X=>X.trans<|xi dO d5 eb f_ uo<|e9.trans<|fx.mono (λa l=>b7 l) λu c=>b7 c⟩]
end b'
theorem CR(o:Nat):qX (λu=>ag) o 0=cZ o:=by unfold qX;rwa[U BK];rw[List.filter_eq_self.mpr λu u=>V]
def jW(ſ:cM)(v:cU)(s:cq)(h:aE)(t:Nat)(aP:aE)(bQ aZ:List aE)(o:Nat)(eD:Nat->aF->Prop)(Q:Nat)(b:au):Prop:=GenAt ſ v s h t aP bQ aZ (λu=>ag) o eD Q b
theorem bb.moved(S:Moved aZ (E5 t) b w)(C:jn b w):bb aZ [t] b w:=by
 rw[⟨S.heap,C.1,λj f T i=>?_,C.2,S.gens.bare,S.os⟩];rcases S.gens with e|e
 .rw[U e i]
 .rw[(e.1.2 j<|λc=>T<|hG.mpr c).trans i]
inductive oN(h aP:aE)(bQ aZ:List aE):Prop|mk(f2:h≠aP)(f3:h∉bQ)(gw:∀a∈aZ,a∈bQ)(j_:qY∈bQ)(lL:qY≠aP)(oA:qY∉aZ):oN h aP bQ aZ
theorem jW.frame(c:jW ſ v s h t aP bQ aZ o eD Q b)(bi:oN h aP bQ aZ)(il:bb cL cf b w)(dz:∀a∈cL,a∉h::aP::bQ)(jK:t∉cf):jW ſ v s h t aP bQ aZ o eD Q w:=by rw[g4 λu bW=>fb c λbN cB dt=>bt dt λb5 kA uq=>zi bN λk nm CS aL q=>bt cB λdw lO xq=>bW ?_];have m:∀a∈h::aP::bQ,∀k,b.heap.get? a=W k->Ű (Q7 w) a=W k:=λa l k i=>il.1 a k (λe=>dz a e l) i;rw[⟨⟨k,nm,CS,m h bB k aL,q⟩,⟨dw,lO.at' λk i=>m _ (mt<|mt bi.4) k i,xq⟩,b5,il.3 t b5 jK kA,λd_ gY=>uq d_ λa l k i=>gY a l k<|m a (mt l) k i⟩]
theorem jW.item(c:jW ſ v s h t aP bQ aZ o eD Q b)(bi:oN h aP bQ aZ)(cO:s.handled=aX)(ap:s.depth<f6)(cu:Q<o)(aj:∀z w,eD Q z->jW ſ v s h t aP bQ aZ o eD (Q+1) w->bb (aP::aZ) [t] b w->A (W z) w):Y ſ v s (oj<|.ref h) A b:=by rw[kv<|Y.of<|(J0 cO h t aP bQ aZ (λu=>ag) o eD bi.1 bi.2 bi.3 ap bi.4 bi.5 bi.6).item Q b _ _ (by rwa[U (CR ..)<|U mE];rw[cu]) c λz w aQ st S C=>?_];rw[g4 λu bW=>bt aQ λj T I=>?_];rw[CR,nN cu]at T;cases T;rw[bW<|aj z w I st<|bb.moved S C]
theorem jW.done(c:jW ſ v s h t aP bQ aZ o eD o b)(bi:oN h aP bQ aZ)(cO:s.handled=aX)(ap:s.depth<f6)(aj:∀w,bb (aP::aZ) [t] b w->A aX w):Y ſ v s (oj<|.ref h) A b:=by rw[kv<|Y.of<|(J0 cO h t aP bQ aZ (λu=>ag) o eD bi.1 bi.2 bi.3 ap bi.4 bi.5 bi.6).done b _ _ (by rwa[U (CR ..)<|U mE];rw[c]) λw S C=>aj w<|bb.moved S C]
theorem jW.self(c:jW ſ v s h t aP bQ aZ o eD Q b)(bi:oN h aP bQ aZ)(cO:s.handled=aX)(ap:s.depth<f6)(aj:A (.ref h) b):Y ſ v s (ol<|.ref h) A b:=Y.of<|(J0 cO h t aP bQ aZ (λu=>ag) o eD bi.1 bi.2 bi.3 ap bi.4 bi.5 bi.6).self Q b _ _ c aj
inductive TabAt(c:e1)(g M:aE)(c3:Array aF):Prop|mk(f2:c.IsCode g M c3)(f3:c.TableAt g M c3):TabAt c g M c3
theorem TabAt.keeps(f:TabAt c g M c3)(m:∀a k,Ű c a=W k->Ű X a=W k):TabAt X g M c3:=⟨f.1.keeps m,f.2.keeps m⟩
theorem TabAt.kept(f:TabAt c g M c3)(m:∀a,a=g\/a=M->∀k,Ű c a=W k->Ű X a=W k):TabAt X g M c3:=by
 have i:Ű X g=Ű c g/\Ű X M=Ű c M:=Kc f.1 λk N Lv Lw Lx Cu Ly Lz LA oC h dY eN qi CT LB Gg a CU CV c_=>⟨(m _ (.inl V) _ h).trans h.symm,(m _ (.inr V) _ a).trans a.symm⟩;rw[⟨?_,?_⟩]
 .unfold Heap.IsCode;rw[U i.1<|U i.2 f.1]
 .unfold Heap.TableAt;rw[U i.1<|U i.2 f.2]
theorem tab_of(h:Ű c g=W k)(a:Ű c M=W {cls:=.none,data:=.fields #[]})(np:k.cls=.type "code")(bH:k.data=.fields N)(cm:N[11]?=W (.ref M))(vD:N.getD 11 .none=.ref M)(eO:N.getD 18 .none=.str Lv Lw)(hu:N.getD 7 .none=.int Lx Cu)(rG:N.getD 9 .none=.bool Ly)(xr:N.getD 10 .none=.int Lz LA)(ak:g≠M):TabAt c g M #[]:=⟨⟨_,_,_,_,_,_,_,_,_,_,h,bH,vD,eO,hu,rG,xr,a,V,trivial,ak⟩,(RF _ _ h np bH cm),a⟩
theorem TabAt.ne(f:TabAt c g M c3):g≠M:=by rw[Kc f.1 λk N Lv Lw Lx Cu Ly Lz LA oC h dY eN qi CT LB Gg a CU CV c_=>c_]
theorem TabAt.triples(f:TabAt c g M c3):TriplesOk c3.toList:=by rw[Kc f.1 λk N Lv Lw Lx Cu Ly Lz LA oC h dY eN qi CT LB Gg a CU CV c_=>CV]
theorem aaX(aA:p.code=.ref g)(lp:TabAt b.heap g M c3)(aj:∀code X ab lq eB,B1 M b.heap X->(aB b)<=Ų (ű X)->TabAt X g M lq->lq=c3++eB->A code {b with heap:=X,toks:=ab}):ce (cD ſ v) s (genexprCode p ax qualname a2) A aC b:=by cases bi:codeAmong ax c3.toList with|some bm=>rw[wpAny_genexprCode_hit aA lp.1 bi<|aj bm b.heap b.toks c3 #[] (J1 _ _) (dr _) lp (by simp)]|none=>rw[wpAny_genexprCodeX aA lp.1 lp.2 bi λbm X ab bq af am a' cJ ez gD=>aj _ X ab _ _ bq (mB<|mA af am) ⟨a',ez⟩ V]
theorem Tp{p:Env}{dT iK:bJ}{f:Str}{h4:Pos}{a2:dA}{me:List<|Str×aE}{ax:Pos}{g M:aE}{c3:Array aF}{qj:List aE}{o:Nat}{uf:Nat->aF->Prop}{Gh:aE->Nat->e1->Prop}{bo:cq}{eD:Nat->aF->Prop}{A:aF->au->Prop}(zD:a2.isCoroutine=be)(KT:wu a2 p=pure me)(lM:∀B∈a2.names,B.2≠.cell)(aM:a2.names.lookup (".0":Str)=W NameKind.local)(R:a2.names.lookup f=W .local)(Cr:a2.kind=.function)(gI:s.depth<f6)(aw:b.heap.NoLimit)(akn:bo.handled=aX)(aA:p.code=.ref g)(lp:TabAt b.heap g M c3)(G:∀f,genFold iK p f=pure f)(æ:∀(ew:cq)nt w(nU:aE->au->Prop),(∀a k,a≠M->b.heap.get? a=W k->Ű (Q7 w) a=W k)->nU p.builtins w->ce (cD ſ v) ew (builtinsFor p.globals p.builtins) nU nt w)(Gi:∀a∈qj,a<b.heap.objs.size)(xs:qY∈qj)(Tq:M∉qj)(f9:Y ſ v s (ee iK p) (λCW as=>Y ſ v s (ol CW) (λbE ar=>∃an,bE=.ref an/\b.heap.objs.size<=an/\an<Ų (ű (Q7 ar))/\bb [] [] b ar/\Gh an 0 ar.heap/\∀ew:cq,ew.handled=aX->Walks ſ v ew an [an] [an] o uf (Gh an)) as) b)(ç:∀aP code(ew:cq)nt j z(ar:au)vE,ew.handled=aX->ew.depth<=bo.depth+1->ew.units<=bo.units+4->j<o->uf j z->ar.heap.Ns aP vE->vE f=W z->(∀a∈qj,∀k,b.heap.get? a=W k->Ű (Q7 ar) a=W k)->ce (cD ſ v) ew (ee dT<|genEnv a2 me aP code p.builtins p) (λB co=>eD j B/\kM ar co) nt ar)(è:∀j z,uf j z->j<o)(aj:∀h aP t an lq eB w,b.heap.objs.size<=h->b.heap.objs.size<=aP->b.heap.objs.size<=an->h<Ų (ű (Q7 w))->aP<Ų (ű (Q7 w))->an<Ų (ű (Q7 w))->b.gens.size<=t->t<w.gens.size->bb [M] [] b w->TabAt w.heap g M lq->lq=c3++eB->oN h aP (an::qj) [an]->(∀rJ:cq,rJ.handled=aX->rJ.depth<=bo.depth->rJ.units<=bo.units->jW ſ v rJ h t aP (an::qj) [an] o eD 0 w)->A (.ref h) w):Y ſ v s (ee (.GeneratorExp dT [⟨.Name f h4,iK,[],0⟩] a2 ax) p) A b:=by
 rw[U (eval_GeneratorExp1 _ _ _ _ _ _ _ zD)<|Fm KT▸hy f9 λCW as bw=>dH<|U (G CW)<|ev<|dR<|Y.mono bw λbE ar bO=>YV bO λan cB Gj LC lR fA rx=>U cB ?_];have ff:∀a k,b.heap.get? a=W k->Ű (Q7 ar) a=W k:=λa k i=>lR.1 a k (λe=>db e) i;have Tr:ar.heap.NoLimit:=aw.keeps ff;rw[dC<|wpAny_enterFrame Tr gI<|ev<|Y.bind<|kv<|Y.of<|aaX aA (lp.keeps ff) λcode a' Ts lq eB xt qk é lU ju=>FS ?_];intro La;have ui:∀a k,a≠M->b.heap.get? a=W k->Ű a' a=W k:=λa k l i=>xt a k l<|ff a k i;rwa[dC<|æ _ _ _ _ ui];have ê:∀B∈([((".0":Str),fv an)]:List<|Str×aF),a2.names.lookup B.1=W NameKind.local:=by
  intro B a8
  revert B;rwa[hg ?_]
  .rw[aM]
  .intro B a8;rw[db a8]
 rw[dC<|IG lM ê (λX mO dy=>FS ?_) Cr];intro La;have i:(λB:Str=>([((".0":Str),fv an)]:List<|Str×aF).reverse.lookup B)=λB:Str=>if B=(".0":Str)then W (fv an)else aX:=by
  funext B;by_cases a8:B=".0"
  .rw[U a8 ?_];rfl
  .have:(B==(".0":Str))=be:=by simpa using a8
   simp[List.lookup,this,a8]
 replace mO:=i▸mO;simp only[newGenerator,newFields];rw[kv<|Y.of<|bc<|wpAny_newGen<|bc<|IN<|bc<|IN<|jE (ds (@nd _ _ _ _ _) ?_) (by size_fits)];intro dx;intro C;have oP:b.heap.objs.size<=Ų (ű a'):=a5 lR.2 qk;have d4:Ų (ű X)=Ų (ű a')+1:=U dy.1<|U (f' ..) V;have sH:∀a k,Ű a' a=W k->Ű X a=W k:=λa k i=>dy.extBut a k (gQ<|dK i)<|eY _ i;let lV:Obj:={cls:=.type "generator",data:=.fields #[.int ar.gens.size 0,.str "<genexpr>"<|Ts+1,.str (p.qual++"<genexpr>")<|Ts+1+1]};have Gk:∀a k,Ű a' a=W k->Ű (X.push lV) a=W k:=λa k i=>eY _<|sH a k i;have Tt:∀a k,a≠M->b.heap.get? a=W k->Ű (X.push lV) a=W k:=λa k l i=>Gk a k<|ui a k l i;have Gl:qY<b.heap.objs.size:=Gi _ xs;have i3:oN X.objs.size a'.objs.size (an::qj) [an]:=by
  rw[⟨U d4<|PW _,λe=>?_,λa l=>bg l▸bB,mt xs,gQ<|cg Gl oP,λe=>?_⟩]
  .rw[dw e (λe=>?_) λe=>?_]
   .have:an<Ų (ű a'):=cg LC qk;rw[<-e,d4]at this;rw[b2 this<|j2 _]
   .have:=cg (Gi _ e) oP;replace this:=d4▸this;rw[b2 this<|j2 _]
  .replace Gl:=(bg e)▸Gl;rw[b2 Gl Gj]
 rwa[aj X.objs.size a'.objs.size ar.gens.size an lq eB _ (U d4<|yY oP) oP Gj (by show Ų (ű X)<(X.push lV).objs.size;rwa[U (f' ..)];rw[kN _]) (by show Ų (ű a')<(X.push lV).objs.size;rwa[U (f' ..)<|U d4];rw[k'<|kN _]) (by show an<(X.push lV).objs.size;rwa[U (f' ..)<|U d4];rw[k'<|k'<|cg LC qk]) lR.4 (by show ar.gens.size<(ar.gens.push _).size;rwa[U (Fw ..)];rw[kN _]) ?_ (é.keeps Gk) lU i3]
 .rw[⟨λa k l i=>Tt a k (λe=>l<|hG.mpr e) i,?_,λj B u i=>?_,?_,λl=>(lR.5 l).push V,lR.6⟩]
  .rw[((U (f' ..)<|U d4<|yY<|yY oP):b.heap.objs.size<=(X.push lV).objs.size)]
  .rw[(?_:(ar.gens.push _)[j]?=_)];have cP:=lR.3 j B (λe=>db e) i;have cG:j<ar.gens.size:=by
    rw[hp (pV j ar.gens.size) (λc=>?_) λc=>?_]
    .rw[c]
    .replace cP:=(JI c)▸cP;rw[dN cP]
   rwa[U (Array.getElem?_push_lt cG)<|bL (pb cG)];rw[cP]
  .rw[((U (Fw ..)<|yY lR.4):b.gens.size<=(ar.gens.push _).size)]
 .intro rJ Tu LD ë;rwa[GenAt.freshD (cenv:=genEnv a2 me a'.objs.size code p.builtins p) Tu (λew ao=>(rx ew ao).mono_fp λa l=>bg l▸bB) (λu=>ag) eD R (by simp[genEnv,Cr]) zD ?_ ?_ ⟨_,_,_,fu _ V,V,V,V⟩ (Array.getElem?_push_size ..) ?_ (mO.push _)]
  .rw[(?_:Ų (ű a')∉an::qj)];intro e;rw[dw e (λe=>?_) λe=>?_]
   .have:an<Ų (ű a'):=cg LC qk;replace this:=e▸this;rw[ia _ this]
   .rw[ia _<|cg (Gi _ e) oP]
  .have ì:∀co:au,(∀a∈an::qj,a∉[an]->∀k,Ű (X.push lV) a=W k->Ű (Q7 co) a=W k)->∀a∈qj,∀k,b.heap.get? a=W k->Ű (Q7 co) a=W k:=λco c a l k i=>c a (mt l) (λe=>b2 (Gi a l)<|bg e▸Gj) k<|Tt a k (λe=>Tq<|e▸l) i;rw[⟨λew nt j z co vE go u u aQ zY vF aT=>cr ⟨V,Q7 co,co.toks,V,λu u i=>i⟩,λew nt j z co vE go bl dX aQ u zY vF aT=>ç _ code ew nt j z co vE go (a5 bl<|P1 LD 1) (a5 dX<|P1 ë 4) (è j z aQ) aQ zY vF<|ì co aT⟩]
  .rw[(rx rJ Tu).frame _ _ _ fA λa l k i=>?_];rw[bg l]at i⊢;rw[Gk _ _<|xt _ _ (λe=>b2 lp.1.lt.2<|e▸Gj) i]
  .rw[bt Tr λdw lO xq=>⟨dw,lO.at' λk i=>Gk _ _<|xt _ _ (λe=>Tq<|e▸xs) i,xq⟩]
noncomputable def LF(o:Nat):Obj:={cls:=.type "range_iterator",data:=.fields #[hT<|(o:Int)-1,hT o,hT<|-1]}
theorem Tv(j:Int)(D:Tok):asInt? (.int j D)=pure (W j):=by simp only[asInt?]
theorem aaY{q:aE}{o:Nat}{D aG z:Tok}{A:aF->au->Prop}(ap:tr b.heap q 0 o 1 D aG z)(ak:(o:Int)<2^62)(c:A (.ref b.heap.objs.size) {b with heap:=b.heap.push<|LF o}):ce (cD ſ v) s (call (.builtin "range.__reversed__") [.ref q]) A aC b:=by
 have cV:b.TypeIs (.ref q) "range":=⟨_,ap,V⟩;rw[kL JP cV F.entry_range_reversed ?_<|F.args_range_reversed_1 _];have ae:tH 0 o 1=o:=F5 o;have í:(tI 0&&tI o&&tI 1&&tI (-1)&&tI (0-1)&&tI (o:Int))=ag:=by
  unfold tI;have bH:(-9223372036854775808:Int)<=o:=by rw[bM (.cN (.g<|.n 9223372036854775808)<|.c .x) [] Z]
  have cm:(o:Int)<9223372036854775808:=by rw[bM (.b2 (.c .x)<|.n 9223372036854775808) [.b2 (.c .x)<|.n 4611686018427387904] Z ak]
  simp[bH,cm]
 rw[ng (h:=fv q) V<|bc<|iH ap V V ?_];simp only[Tv,pure_bind];rwa[iH ap V (f:=.int o aG) V];simp only[Tv,pure_bind];rw[iH ap V V<|cr ?_];rw[Fm ae▸Fm í▸?_];have eO:(0+((o:Int)-1)*1)=(o:Int)-1:=by rw[bM (.e0 (.a (.n 0)<|.r (.s (.c .x)<|.n 1) 1)<|.s (.c .x)<|.n 1) [] Z]
 rw[bc<|jE<|Fm eO▸cr (dj _ V c)]
theorem aaZ{q:aE}{o:Nat}{D aG z:Tok}{Tw:aF->au->Prop}(ap:tr b.heap q 0 o 1 D aG z)(ak:(o:Int)<2^62)(c:Tw (.ref b.heap.objs.size) {b with heap:=b.heap.push<|LF o}):Bg (cD ſ v) s (.call (.builtin "reversed.__new__") ⟨[.type "reversed",.ref q],[]⟩) (wants Tw aC) b:=by
 have cV:b.TypeIs (.ref q) "range":=⟨_,ap,V⟩;rw[Bl ?_];show ce _ s.in1 (do Bk "reversed.__new__" ⟨[.type "reversed",.ref q],[]⟩;again<|.builtin "reversed.__new__" ⟨[.type "reversed",.ref q],[]⟩) _ _ b;rw[ng (F.newCall_reversed_1 _)<|cr ⟨o8 F.plain_reversed_new _,yK F.entry_reversed_new<|ng (newClass_reversed _) ?_⟩];try dsimp only
 rwa[ng (by first|rfl|cbv)<|ng (by first|rfl|cbv)];try dsimp only
 rwa[bc<|iu cV JP.lookup];try dsimp only
 rwa[ng (JP.bind _)];try dsimp only
 first|rwa[U (if_neg<|wn)]|(show ce _ _ (if(JS "range.__reversed__"==q3)=ag then _ else _) _ _ _;rw[if_neg<|wn,])
 rw[bc<|mv<|bc<|aaY ap ak ?_];first|rw[cr c]|rw[lH<|cr c]
section
variable{g:ea}
noncomputable def LG:gO->aF|.ret z=>z|_=>.none
theorem aa0(gI:s.depth<f6)(bi:FnAt b h bp eC)(l:sd b bp ⟨aV,[]⟩ jQ)(aL:∀n∈jQ,Cq (c5 bp h b) n.1)(ap:b9 b.heap r N (jQ.map (·.2)))(cC:∀f∈r,f<(aB b))(c:∀w,(∀a∈cc<|c5 bp h b,(aB b)<=a)->pk (c5 bp h b) (cc (c5 bp h b)++r) (zE jQ N []) (bK [] b) w->Y ſ v (s.deeper<|c5 bp h b) (d3 eC<|c5 bp h b) (λJ d_=>A (LG J) d_) w):Y ſ v s (eS (.ref h) aV []) A b:=by
 rw[bt bi.1 λk iN bl=>Y.call<|F6 gI iN bl bi.2 bi.3 bi.4 bi.5<|Y.of<|l _ _ _ _<|Fm bi.8▸SU bi.6 bi.7 aL ap cC λw dZ bs=>⟨?_,K5 ?_⟩]
 .rw[bi.9.keeps λa k i=>bs.3.1 a k (λc=>db c) i]
 .rw[Y.mono (c w dZ bs) ?_];intro J d_ aY;rw[⟨_,V,by cases J<;>rw[aY]⟩]
theorem Tx(aA:g.Ok)(ao:eW (x+1) s)(bi:FnAt b h bp eC)(kB:bp.globals=3)(iB:bp.builtins=0)(LH:∀h∈g.tabs,h∈r)(LI:∀h∈r,h∈g.tabs\/(aB g.s0)<=h)(Gm:∀f∈r,f<aa)(hr:aa<=(aB b))(vG:gU g b)(aQ:oM aa r bT b aV)(aw:gu bT=gu eH)(l:sd b bp ⟨ql,[]⟩<|eH.zip aV)(aL:eH.all (ln bp.scope)=ag)(jP:∀w,(∀a∈cc<|c5 bp h b,(aB b)<=a)->bb [] [] b w->cx g (c5 bp h b) (cc (c5 bp h b)++r) [] r (aB w)->bG g (c5 bp h b) (cc (c5 bp h b)++r) [] (aB w) (lT eH bT []) w->eW x (s.deeper<|c5 bp h b)->Y g.prog g.w (s.deeper<|c5 bp h b) (d3 eC<|c5 bp h b) (λJ d_=>A (LG J) d_) w):Y g.prog g.w s (eS (.ref h) ql []) A b:=by
 have cp:=aQ.length;have ht:(aB g.s0)<=(aB b):=vG.1.2;have jt:∀f∈r,f<(aB b):=λf R=>cg (Gm f R) hr;have CP:=Tl b bp.scope;have cm:(eH.zip aV).map (·.2)=aV:=by have:gu aV=gu eH:=cp.trans aw;rw[Qd,];rw[ct (.l .x .y) [.e .x .y] Z this]
 rw[aa0 (N:=CO bT aV) (mA (a5 (hf _ _) ao.2) bf) bi l (λe aY=>?_) (Fm cm▸aQ.PB Gm) jt λw dZ bs=>?_]
 .rw[(w6<|hH.mp aL _<|(Fp aY).1).elim .inl λaT=>?_]
  .rw[c1 (IY.mp<|K7 bp.scope.names ((aB b)+1) [] e.1<|.inr aT) λa ej=>.inr ⟨a,aT,ej,λB xk u a8 c_=>CP _ _ _ _ a8 ej c_⟩]
 .have xc:∀a∈cc<|c5 bp h b,a<(aB w):=λa l=>bs.1 a<|b7 l;have cd:bb [] [] b w:=bs.3;have eo:cx g (c5 bp h b) (cc (c5 bp h b)++r) [] r (aB w):=by rw[⟨bi.6,kB,iB,λa l=>⟨b7 l,a5 ht<|dZ a l,(λe=>nomatch e),λe=>b2 (jt a e)<|dZ a l⟩,aR,λa l=>bR l,LH,bs.1,λa l=>bS l (λe=>.inr<|a5 ht<|dZ a e) λe=>LI a e,CP⟩]
  have zX:bG g (c5 bp h b) (cc (c5 bp h b)++r) [] (aB w) (lT eH bT []) w:=by
   rw[bt bs.2 λcS al w1=>?_];have cK:∀B bz,fm (lT eH bT []) B bz->∃jV bm,bz=i6.slot jV/\(∃v,cS B=W v/\ck w.heap (cc (c5 bp h b)++r) (CN jV bm) v)/\fB aa r jV.1 jV.2 b bm:=λB bz a8=>by rw[d7 (Tm (g6:=[]) (kU 0 221 (.e .x .y) [.e .z .x,.e .y .z] Z aw cp) (id<|Fm cp) (by intro _ _ c;rw[nomatch c]) aQ a8) λjV bm i e df=>⟨jV,bm,i,w1 _ _ e,df⟩]
   rw[⟨dr _,vG.to cd aR,cS,al,λB bz a8=>?_,λB aG a8=>?_,λB aG a8=>?_⟩]
   .rw[d7 (cK B bz a8) λbN bm cB dt xn=>?_];obtain⟨m,z⟩:=bN;obtain rfl:=cB;obtain⟨v,bV,ap⟩:=dt;rw[⟨v,bV,?_⟩];cases m with
    |fr=>rw[ap]|cH=>rw[ap]|ls=>
     have gH:v=bm:=by have X:ck w.heap (cc (c5 bp h b)++r) (.raw bm) v:=ap;rw[X]
     subst gH;rw[bt xn λa i q=>⟨a,i,q.to (λa k l i=>⟨cd.all a k i,by rwa[gW jf<|gW not_or];rw[⟨λe=>b2 (dK i)<|dZ a e,l⟩]⟩) λk i=>cd.all _ k i⟩]
   .rw[fW (cK B _ a8) λeh bm i u=>?_];obtain⟨m,z⟩:=eh;cases m<;>rw[nomatch i]
   .rw[d7 (cK B _ a8) λfd bm i gS xn=>?_];obtain⟨m,z⟩:=fd;obtain⟨v,bV,ap⟩:=gS;cases m<;>cases i;have gH:v=bm:=by have X:ck w.heap (cc (c5 bp h b)++r) (.raw bm) v:=ap;rw[X]
    subst gH;rw[bt xn λa i q=>?_];subst i;rw[⟨a,bV,(λe=>nomatch e),λe=>b2 q.lt<|dZ a e⟩]
  have go:eW x (s.deeper<|c5 bp h b):=⟨ao.1,by have:=ao.2;show s.depth+1+x<=900;rw[ct (.l (.a (.o .x) .y)<|.n 900) [.l (.a .x<|.o .y)<|.n 900] Z this],by have:=ao.3;show s.units+3+4*x<=5000;rw[ct (.l (.a (.a .x<|.n 3)<|.m 4 .y)<|.n 5000) [.l (.a .x<|.m 4<|.o .y)<|.n 5000] Z this]⟩;rw[jP w dZ cd eo zX go]
theorem Tz(aA:g.Ok)(ao:eW (x+1) s)(bi:FnAt b h bp eC)(kB:bp.globals=3)(iB:bp.builtins=0)(LH:∀h∈g.tabs,h∈r)(LI:∀h∈r,h∈g.tabs\/(aB g.s0)<=h)(Gm:∀f∈r,f<aa)(hr:aa<=(aB b))(vG:gU g b)(aQ:oM aa r bT b aV)(aw:gu bT=gu eH)(l:sd b bp ⟨ql,[]⟩<|eH.zip aV)(aL:eH.all (ln bp.scope)=ag)(jP:∀w,(∀a∈cc<|c5 bp h b,(aB b)<=a)->bb [] [] b w->cx g (c5 bp h b) (cc (c5 bp h b)++r) [] r (aB w)->bG g (c5 bp h b) (cc (c5 bp h b)++r) [] (aB w) (lT eH bT []) w->eW x (s.deeper<|c5 bp h b)->Y g.prog g.w (s.deeper<|c5 bp h b) (d3 eC<|c5 bp h b) (λJ d_=>∃z,J=.ret z/\A z d_) w):Y g.prog g.w s (eS (.ref h) ql []) A b:=Tx aA ao bi kB iB LH LI Gm hr vG aQ aw l aL λw dm el mS uh rw=>(jP w dm el mS uh rw).mono λJ b e=>bt e λz i c=>U i c
theorem CX(aA:g.Ok)(ao:eW (x+1) s)(bi:FnAt b h bp eC)(kB:bp.globals=3)(iB:bp.builtins=0)(I:cx g p r L ay aa)(n:bG g p r L aa y b)(aQ:oM aa r bT b aV)(aw:gu bT=gu eH)(l:sd b bp ⟨ql,[]⟩<|eH.zip aV)(aL:eH.all (ln bp.scope)=ag)(jP:∀w,(∀a∈cc<|c5 bp h b,(aB b)<=a)->bb [] [] b w->cx g (c5 bp h b) (cc (c5 bp h b)++r) [] r (aB w)->bG g (c5 bp h b) (cc (c5 bp h b)++r) [] (aB w) (lT eH bT []) w->eW x (s.deeper<|c5 bp h b)->Y g.prog g.w (s.deeper<|c5 bp h b) (d3 eC<|c5 bp h b) (λJ d_=>∃z,J=.ret z/\A z d_) w):Y g.prog g.w s (eS (.ref h) ql []) A b:=Tz aA ao bi kB iB (λa l=>I.6 a<|I.7 a l) I.9 I.8 n.1 n.2 aQ aw l aL jP
inductive ea.I7(g:ea):Prop|mk(f2:g.Ok)(f3:∀(s:cq)(aC:aF->au->Prop)(c:au)(A:aE->au->Prop),(∀a k,a<(aB g.s0)->a∉g.tabs->Ű (Q7 g.s0) a=W k->Ű (Q7 c) a=W k)->A 0 c->ce (cD g.prog g.w) s (builtinsFor 3 0) A aC c)(gw:qY<(aB g.s0)/\qY∉g.tabs):ea.I7 g
def ea.sS(g:ea):List Addr:=(cZ<|aB g.s0).filter λa=>!g.tabs.contains a
theorem nv{a:aE}:a∈g.sS↔a<(aB g.s0)/\a∉g.tabs:=by unfold ea.sS;simp
theorem Walks.lt{ſ:cM}{v:cU}{an:aE}{bQ aZ:List aE}{o:Nat}{M:Nat->aF->Prop}{St:Nat->e1->Prop}(di:Walks ſ v s an bQ aZ o M St):Walks ſ v s an bQ aZ o (λj z=>j<o/\M j z) St:=⟨(di.sub),(di.frame),(λj b A aC T st aj=>di.item j b A aC T st λz X ab cl=>aj z X ab ⟨T,cl⟩),(di.done),(di.self)⟩
theorem aa1{o:Nat}{e df xu:Pos}(aA:g.Ok)(I:cx g p r L ay aa)(c:dk g.prog g.w s [] [] p (bG g p r L aa y) i<|hC o)(aI:g.gl "range"=W (.type "range"))(fM:g.gl "reversed"=W (.type "reversed"))(R:fe p.scope "range"=ag)(iz:fe p.scope "reversed"=ag)(ak:dS i=ag)(ae:o<2^62):dk g.prog g.w s [] [] p (bG g p r L aa y) (.Call (.Name "reversed" e) [.Call (.Name "range" df) [i] [] xu] [] ax) (λb g=>∃an,g=.ref an/\aa<=an/\o9 b.heap an ((o:Int)-1) o (-1)):=by
 have p3:dk g.prog g.w s [] [] p (bG g p r L aa y) (.Call (.Name "range" df) [i] [] xu) (λb g=>∃q D aG z,g=.ref q/\tr b.heap q 0 o 1 D aG z):=by rw[lj I.ok (h3 aA I aI R) V (hZ ak I.ok c (iL _) jo) ?_ (by simp[ak])];rintro b aV n gT A aj;rw[d7 gT λu u hK jp j'=>U hK<|c1 jp λD fw=>U fw<|U j'<|Y.of<|EQ<|aj _ _ (bK.new _ _ b _ _)<|FL _ _ _ _ V<|fu _ V]
 have LJ:nZ [] [] (λb g=>∃q D aG z,g=.ref q/\tr b.heap q 0 o 1 D aG z):=by rintro b w bm kW t;rw[FI kW λq D aG z i c=>(FL q D aG z i<|t.1 _ _ (λe=>db e) c)]
 rw[lj I.ok (h3 aA I fM iz) V (hZ V I.ok p3 LJ jo) ?_ V];rintro b aV n mR A aj;rw[d7 mR λu u n2 uk ul=>U n2<|FI uk λq D aG z hJ ap=>U hJ<|U ul<|Y.of (by rw[callType_other (U:="range_iterator") (Q₁:=λnX as=>nX=.ref b.heap.objs.size/\as={b with heap:=b.heap.push<|LF o}) (by decide+kernel) F.create_reversed (kR _ _ F.mro_reversed) F.made_reversed (by rwa[U (k_ ..)];cbv) (F.typeCall_reversed_1 _) (aaZ ap (bM (.b2 (.c .x)<|.n 4611686018427387904) [.t .x<|.n 4611686018427387904] Z ae) ⟨V,V⟩)<|su<|⟨⟨_,fu _ V,V⟩,(aj _ _ (bK.new _ _ b _ _)<|sq _ V n.1<|fu _ V)⟩])]
end
def LK:bJ->List Str|.Name f cR=>[f]|.Tuple az cR e3=>(pt az).getD []|_=>[]
def qn(cn:bJ)(y:b_):Bool:=(LK cn).all λf=>y.all λn=>!(n.1==f)
theorem aa2(c:fm y B bz):∃n∈y,n.1=B:=by induction c with|here=>rw[(dj _ bB V)]|there _ _ aW=>rw[bt aW λn aO i=>?_];rw[(dj n (mt aO) i)]
theorem TA:∀{aJ:List Str}{N:List bj}{y:b_},(∀f∈aJ,f≠B)->fm y B bz->fm (pu aJ N y) B bz|[],cR,e3,ur,c=>c|f::aJ,[],cR,e3,c=>c|f::aJ,z::N,y,ak,c=>TA (N:=N) (λC ae=>ak C<|mt ae)<|.there (beq_false_of_ne<|ak f bB) c
theorem CY(c:qn cn y=ag):sI cn z y:=by
 intro B bz a8;have cK:∀f∈LK cn,f≠B:=by intro f R i;subst i;rw[bt (aa2 a8) λn aO i=>?_];have:=hH.mp (hH.mp c f R) n aO;replace this:=i▸this;simp at this
 rw[Lk (M:=λy=>fm y B bz) (λf n i=>?_) (λaz m n N i=>?_) a8]
 .subst i;rw[.there (beq_false_of_ne<|cK _<|bB) a8]
 .subst i;rw[TA cK a8]
structure qm(g:ea):Prop where
 ok:g.Ok
 len:g.gl "len"=W (.builtin "len")
 range:g.gl "range"=W (.type "range")
 enumerate:g.gl "enumerate"=W (.type "enumerate")
 zip:g.gl "zip"=W (.type "zip")
theorem xv(c:-(2^64)<h/\h<2^64):IntMulOk h a:=IntMulOk.of_left<|intBits_le_64 c.1 c.2
theorem CZ(c:-(2^64)<a/\a<2^64):IntMulOk h a:=IntMulOk.of_right<|intBits_le_64 c.1 c.2
theorem vJ(c:a.natAbs<1073741824):BX h a=be:=PyProof.noPylong_small c
theorem ai.cast(c:ai g x O y i m z)(e:z=h5):ai g x O y i m h5:=e▸c
theorem cI.cast(c:cI g x O y i h)(e:h=a):cI g x O y i a:=e▸c
theorem fC.nl:fC g x O y [] []:=trivial
theorem fC.g8(c:ai g x O y i .cH z)(G:fC g x O y az N)(ak:dS i=ag:=by rfl):fC g x O y (i::az) (z::N):=⟨ak,c,G⟩
theorem hO.nl:hO g x O y [] []:=trivial
theorem hO.g8(c:ai g x O y i m z)(G:hO g x O y az N)(ak:dS i=ag:=by rfl):hO g x O y (i::az) ((m,z)::N):=⟨ak,c,G⟩
theorem ei.cast(c:ei g x O y i e)(v:e=df):ei g x O y i df:=v▸c
namespace al
theorem fr(c:qn cn y=ag:=by cbv):sI cn z y:=CY c
theorem nm(aI:gj y f=W (.f z):=by rfl)(R:hL O f=ag:=by cbv):ai g x O y (.Name f ax) .cH z:=ai.name aI R
theorem Ei(aI:gj y f=W (.o z):=by rfl)(R:hL O f=ag:=by cbv):ai g x O y (.Name f ax) .ls z:=ai.YB aI R
theorem ZX(aI:gj y f=W (.b z):=by rfl)(R:hL O f=ag:=by cbv):ai g x O y (.Name f ax) .ls z:=ai.YC aI R
theorem oO(o:qm g)(c:ai g x O y i m<|bu aq)(ae:gu aq<2^62)(R:fe O "len"=ag:=by cbv)(ak:dS i=ag:=by rfl):cI g x O y (.Call (.Name "len" d') [i] [] ax) (gu aq):=ai.oO o.ok c o.len R ak ae
theorem q_(o:qm g){f:Str}{S:Nat}{e:Pos}(c:cI g x O y i S)(ae:S<2^62)(R:fe O "range"=ag:=by cbv)(ak:dS i=ag:=by rfl):fj g x O y iP (.Name f d') (.Call (.Name "range" e) [i] [] ax) ((ij 0 1 S).map .int):=fj.q_ o.ok c o.range R ak ae
theorem DZ(o:qm g){f:Str}{e:Pos}{st:Int}{S:Nat}(bw:cI g x O y E h)(bO:cI g x O y q a)(kc:cI g x O y D st)(aM:st≠0)(G:wJ h a st=ag)(aO:BX (a-h) st=be)(d4:tH h a st=S)(R:fe O "range"=ag:=by cbv)(ak:dS E=ag/\dS q=ag/\dS D=ag):fj g x O y iP (.Name f d') (.Call (.Name "range" e) [E,q,D] [] ax) ((ij h st S).map .int):=fj.DZ o.ok bw bO kc o.range R ak aM G aO d4
theorem ZY(o:qm g){f:Str}{e:Pos}{S:Nat}(bw:cI g x O y E 0)(bO:cI g x O y q S)(kc:cI g x O y D 8)(bk:S<2^40)(R:fe O "range"=ag:=by cbv)(ak:dS E=ag/\dS q=ag/\dS D=ag):fj g x O y iP (.Name f d') (.Call (.Name "range" e) [E,q,D] [] ax) ((ij 0 8<|(S+7)/8).map .int):=by have d4:=Tn S;rw[DZ o bw bO kc bf ?_ (vJ bf) d4 R ak];unfold wJ;rw[Fm d4▸?_];rw[if_pos bf,sA _ bf bf,sA _ (by rw[bM (.cN (.g<|.n 4611686018427387904)<|.c .x) [] Z]) (by rw[bM (.b2 (.c .x)<|.n 4611686018427387904) [.t .x<|.n 1099511627776] Z bk]),sA _ bf bf,sA _ (by rw[bM (.cN (.g<|.n 4611686018427387904)<|.c .x) [] Z]) (by rw[fE 4 (.b2 (.c .x)<|.n 4611686018427387904) [.t .y<|.n 1099511627776,.l (.m 8 .x)<|.a .y<|.n 7] Z bk<|p2 _ 8]),sA _ (by rw[bM (.cN (.g<|.n 4611686018427387904)<|.a (.c .x)<|.s (.n 8)<|.n 1) [] Z]) (by rw[bM (.b2 (.a (.c .x)<|.s (.n 8)<|.n 1)<|.n 4611686018427387904) [.t .x<|.n 1099511627776] Z bk])];simp
theorem PX{S:Nat}(bw:ai g x O y e8 m<|bu aq)(bO:cI g x O y gX S)(R:S<gu aq)(ae:gu aq<=cy)(T:oD gX=ag:=by rfl):cI g x O y (.Subscript e8 gX ax) (aq.getD S 0):=ai.t5 bw bO (gP S) R ae T
theorem t1(c:qh e O f=ag:=by cbv):mT e O (.Name f d') z:=c
theorem t2(ak:pt az=W b8:=by rfl)(aw:gu N=gu b8:=by rfl)(c:b8.all (qh e O)=ag:=by cbv):mT e O (.Tuple az S d') (.tup N):=⟨b8,ak,aw,c⟩
end al
theorem sP(h x:Int)(o:Nat):gu (ij h x o)=o:=by simp[ij]
theorem Gn(c:((ij h x o).map bj.int)[j]?=W f):j<o/\f=.int (h+j*x):=by
 have T:j<o:=by simpa[ij]using(j4.mp c).1
 rw[⟨T,?_⟩];rw[ij,eX,eX,nN T]at c;rw[Fm (ek c)]
theorem TB{aq:List Int}{j:Nat}{f:bj}(c:(aq.map bj.int)[j]?=W f):j<gu aq/\f=.int (aq.getD j 0):=by
 have T:j<gu aq:=by simpa using(j4.mp c).1
 rw[⟨T,?_⟩];rw[eX,eT T]at c;rw[U (dG)<|U (eT T)<|Fm (ek c)]
structure fP where
 T:BT
 n:Nat
 toks:Nat
noncomputable def fP.abs(a:au)(gL:Nat)(f:fP):Shared:=⟨lE f.T f.n a.heap.life,a.gens,a.drawn,gL+f.toks,a.os⟩
noncomputable def k2:Bool->Option Unit|true=>W ()|false=>aX
def LL(a1:BT)(o h:Nat):Option Obj:=(k2<|kq h o).bind λu=>(a1.get h).bind hW
noncomputable def LM(a1:BT)(o h:Nat):Option (Option Obj):=match kq h o with|true=>(a1.get h).map hW|false=>W aX
def kC{a9:Type}(st:u0)(gL:Nat)(e4:Ctx->Pos->fP->Option (qZ×fP))(y:Ctx):Sem a9->Pos->fP->Option (Except aF a9×Pos×fP)
 |.pure h,n,b=>W (.ok h,n,b)|.raise i,n,b=>W (.error i,n,b)|.rule cR m,n,b=>kC st gL e4 y (m ()) n b|.at bs m,cR,b=>kC st gL e4 y (m ()) bs b|.point cR m,n,b=>kC st gL e4 y (m ()) n b|.ask m,n,b=>kC st gL e4 y (m st) n b|.fresh m,n,⟨a1,o,ab⟩=>kC st gL e4 y (m<|gL+ab) n ⟨a1,o,ab+1⟩|.handled KH m,n,b=>kC st gL e4 y (m<|if KH then y.own else y.handled) n b|.stack m,n,b=>kC st gL e4 y (m<|(y.code,n)::y.below) n b|.thread m,n,b=>kC st gL e4 y (m 0) n b|.load h cR m,n,⟨a1,o,ab⟩=>(LL a1 o h).bind λk=>kC st gL e4 y (m k) n ⟨a1,o,ab⟩|.update h cR J m,n,⟨a1,o,ab⟩=>(LL a1 o h).bind λu=>kC st gL e4 y (m ()) n ⟨a1.set h J,o,ab⟩|.alloc k m,n,⟨a1,o,ab⟩=>(k2 ((a1.ins o k).get o).isSome).bind λu=>kC st gL e4 y (m o) n ⟨a1.ins o k,o+1,ab⟩|.loadIfAlive h m,n,⟨a1,o,ab⟩=>(LM a1 o h).bind λk=>kC st gL e4 y (m k) n ⟨a1,o,ab⟩|.call g c cR e3 m,n,b=>(e4 (y.enter g c n) n b).bind λ|(q,w)=>kC st gL e4 y (m q) n w
 |cR,e3,ur=>aX
def aa3(lV:iZ->Pos->fP->Option (qZ×fP)):Except aF Fin×Pos×fP->Option (qZ×fP)|(.ok<|.done c2,cR,w)=>W (.ok c2,w)|(.ok<|.again g,bs,w)=>(k2 g.quiet).bind λu=>lV g bs w|(.error i,cR,w)=>W (.error i,w)
def t_(lr:String->Option tl)(st:u0)(gL:Nat):Nat->Ctx->Pos->fP->Option (qZ×fP)|0,cR,e3,ur=>aX|J+1,y,n,b=>(kC st gL (t_ lr st gL J) y (yD lr y.code) n b).bind<|aa3 λg n b=>t_ lr st gL J (y.goto g) n b
theorem sQ(c:k2 e=W aG):e=ag:=by
 cases e
 .rw[dN c]
 .rfl
theorem d6{a9 cN:Type}{f:Option a9}{J:a9->Option cN}{B:cN}(c:f.bind J=W B){aD:Prop}(m:∀h,f=W h->J h=W B->aD):aD:=by cases f with|none=>rw[dN c]|some h=>rw[m h V c]
theorem TC{a1:BT}{o h:Nat}{k:Obj}{E:mw}(c:LL a1 o h=W k):Ű (lE a1 o E) h=W k/\∃f,a1.get h=W f:=d6 c λu af c=>d6 c λf am c=>⟨(tK (mC<|sQ af) am).trans c,f,am⟩
theorem aa4(c:LM a1 o h=W k):Ű (lE a1 o E) h=k:=by unfold LM at c;cases i:kq h o with
 |false=>
  replace c:=i▸c;have lt:¬h<o:=λe=>by rw[show kq h o=ag from Fe e]at i;rw[R4 i]
  rw[Fm (abs_get_none lt)▸ek c]|true=>replace c:=i▸c;cases t:a1.get h with|none=>replace c:=t▸c;rw[dN c]|some f=>replace c:=t▸c;rw[(tK (mC i) t).trans<|ek c]
noncomputable def TD{a9:Type}(a:au)(gL:Nat)(A:a9->Pos->au->Prop)(aC:aF->Pos->au->Prop):Except aF a9×Pos×fP->Prop|(.ok h,n,b)=>A h n<|b.abs a gL|(.error i,n,b)=>aC i n<|b.abs a gL
theorem LN{a9:Type}{e4:Ctx->Pos->fP->Option (qZ×fP)}(rK:∀y n b q,e4 y n b=W q->Returns (cD ſ v) y n (b.abs a gL) q.1 (q.2.abs a gL))(y:Ctx)(D:Sem a9)(A:a9->Pos->au->Prop)(aC:aF->Pos->au->Prop):∀(n:Pos)(b:fP)(q:Except aF a9×Pos×fP),kC ⟨ſ,ų v⟩ gL e4 y D n b=W q->TD a gL A aC q->j5 (cD ſ v) y D A aC n (b.abs a gL):=by induction D with|pure h=>rw[λn b q c=>ek c▸id]|raise i=>rw[λn b q c=>ek c▸id]|rule _ m aW=>rw[aW ()]|«at»e m aW=>rw[λu=>aW () e]|point _ m aW=>rw[aW ()]|ask m aW=>rw[aW _]|fresh m aW=>rw[λn b=>aW _ n _]|handled KH m aW=>rw[aW _]|stack m aW=>rw[λn=>aW _ n]|thread m aW=>rw[aW _]|load h sR m aW=>rw[λn b q c aY=>d6 c λk i c=>⟨k,(TC i).1,aW k n b q c aY⟩]|update h sR J m aW=>rw[λn b q c aY=>d6 c λk i c=>(TC i).elim λbH cm=>cm.elim λf cm=>⟨Option.isSome_of_mem bH,by rw[(?_:j5 _ _ (m ()) _ _ _ ⟨(lE b.T b.n a.heap.life).update h J,_,_,_,_⟩)];rw[absHeap_set cm▸aW () n _ q c aY]⟩]|alloc k m aW=>rw[λn b q c aY=>d6 c λaG i c=>by rw[(?_:j5 _ _ (m (lE b.T b.n a.heap.life).objs.size) _ _ _ ⟨(lE b.T b.n a.heap.life).push k,_,_,_,_⟩)];rw[U (vd ..)<|bL (absHeap_ins<|sQ i)<|aW b.n n _ q c aY]]|loadIfAlive h m aW=>rw[λn b q c aY=>d6 c λk i c=>by rw[(?_:j5 _ _ (m<|Ű (lE b.T b.n a.heap.life) h) _ _ _ _)];rw[Fm (aa4 i)▸aW k n b q c aY]]|call g bl t E m aW=>rw[λn b q c aY=>d6 c λf i c=>⟨f.1,_,rK _ _ _ _ i,aW f.1 n f.2 q c aY⟩]|_=>rw[λn b q c=>dN c]
theorem aa5(J:Nat):∀(y:Ctx)(n:Pos)(b:fP)(q:qZ×fP),t_ table ⟨ſ,ų v⟩ gL J y n b=W q->Returns (cD ſ v) y n (b.abs a gL) q.1 (q.2.abs a gL):=by induction J with
 |zero=>intro fl eM hq n0 c;rw[dN c]|succ J a3=>
  intro y n b q c;have cK:wpCode (cD ſ v) y (λgb as=>gb=q.1/\as=q.2.abs a gL) n (b.abs a gL):=by
   rw[gW (EI ..)<|d6 c λf i c=>LN (λy n b q aA=>a3 y n b q aA) y _ _ _ n b f i ?_]
   match f,c with
   |(.error nY,dd,as),c=>rw[ek c▸⟨V,V⟩]|(.ok<|.done c2,dd,as),c=>rw[ek c▸⟨V,V⟩]|(.ok<|.again g,dd,as),c=>rw[d6 c λu aY c=>⟨sQ aY,⟨_,_,a3 (y.goto g) dd as q c,V,V⟩⟩]
  rw[d7 cK λgb as ap fw hJ=>bL fw ?_];obtain rfl:=hJ;rw[ap]
noncomputable def TE(bo:BT)(h:Nat):Option Obj:=(bo.get h).bind hW
def nw{a9:Type}(st:u0)(bo:BT)(e4:iZ->Nat->Option (qZ×Nat)):Sem a9->Nat->Option (Except aF a9×Nat)
 |.pure h,m=>W (.ok h,m)|.raise i,m=>W (.error i,m)|.rule cR J,m=>nw st bo e4 (J ()) m|.at cR J,m=>nw st bo e4 (J ()) m|.point cR J,m=>nw st bo e4 (J ()) m|.ask J,m=>nw st bo e4 (J st) m|.fresh J,m=>nw st bo e4 (J m)<|m+1|.thread J,m=>nw st bo e4 (J 0) m|.load h cR J,m=>(TE bo h).bind λk=>nw st bo e4 (J k) m|.call g aX cR e3 J,m=>(e4 g m).bind λ|(q,fN)=>nw st bo e4 (J q) fN
 |cR,e3=>aX
def aa6(lV:iZ->Nat->Option (qZ×Nat)):Except aF Fin×Nat->Option (qZ×Nat)|(.ok<|.done c2,fN)=>W (.ok c2,fN)|(.ok<|.again bm,fN)=>(k2 bm.quiet).bind λu=>lV bm fN|(.error i,fN)=>W (.error i,fN)
def xw(lr:String->Option tl)(st:u0)(bo:BT):Nat->iZ->Nat->Option (qZ×Nat)|0,cR,e3=>aX|J+1,g,m=>(nw st bo (xw lr st bo J) (yD lr g) m).bind<|aa6<|xw lr st bo J
def Sub(bo:BT)(c:e1):Prop:=∀h k dh,bo.get h=W k->hW k=W dh->Ű c h=W dh
noncomputable abbrev us(b:au)(m:Nat):Shared:={b with toks:=m}
def aa7{a9:Type}(b:au)(A:a9->Pos->au->Prop)(aC:aF->Pos->au->Prop)(bs:Pos):Except aF a9×Nat->Prop|(.ok h,m)=>A h bs<|us b m|(.error i,m)=>aC i bs<|us b m
theorem Go(G:Sub bo b.heap)(rK:∀g m q,e4 g m=W q->∀y n,y.code=g->Returns (cD ſ v) y n (us b m) q.1 (us b q.2))(D:Sem a9)(y:Ctx)(A:a9->Pos->au->Prop)(aC:aF->Pos->au->Prop):∀(m:Nat)(q:Except aF a9×Nat)(n:Pos),nw ⟨ſ,ų v⟩ bo e4 D m=W q->(∀bs,aa7 b A aC bs q)->j5 (cD ſ v) y D A aC n (us b m):=by induction D with
 |pure h=>rw[λm q n c aY=>(ek c▸aY n:)]|raise i=>rw[λm q n c aY=>(ek c▸aY n:)]|rule _ J aW=>rw[aW ()]|«at»e J aW=>rw[λm q u=>aW () m q e]|point _ J aW=>rw[aW ()]|ask J aW=>rw[aW _]|thread J aW=>rw[aW _]|fresh J aW=>rw[λm=>aW _<|m+1]|load h sR J aW=>rw[λm q n c aY=>d6 c λk i c=>⟨k,(d6 i λf af am=>G h f k af am),aW k m q n c aY⟩]|call g bl t E J aW=>
  cases bl
  case some=>rw[λm q n c=>nomatch c]
  rw[λm q n c aY=>d6 c λf i c=>⟨f.1,_,rK _ _ _ i (y.enter g aX n) n V,aW f.1 f.2 q n c aY⟩]|_=>rw[λm q n c=>nomatch c]
theorem TF(G:Sub bo b.heap)(J:Nat):∀(g:iZ)(m:Nat)(q:qZ×Nat),xw table ⟨ſ,ų v⟩ bo J g m=W q->∀(y:Ctx)(n:Pos),y.code=g->Returns (cD ſ v) y n (us b m) q.1 (us b q.2):=by induction J with
 |zero=>intro fl eM hq c;rw[nomatch c]|succ J a3=>
  intro g m q c;rw[λy n aA=>by
   have cK:wpCode (cD ſ v) y (λgb as=>gb=q.1/\as=us b q.2) n (us b m):=by
    rw[gW (EI ..)<|U aA<|d6 c λf i c=>Go G (λg m q aA=>a3 g m q aA) _ y _ _ m f n i λbs=>?_]
    match f,c with
    |(.error nY,cW),c=>rw[ek c▸⟨V,V⟩]|(.ok<|.done c2,cW),c=>rw[ek c▸⟨V,V⟩]|(.ok<|.again bm,cW),c=>rw[d6 c λu aY c=>⟨sQ aY,⟨_,_,a3 bm cW q c (y.goto bm) bs V,V,V⟩⟩]
   rw[d7 cK λgb as ap fw hJ=>?_];obtain rfl:=fw;obtain rfl:=hJ;rw[ap]]
theorem aa8(G:Sub bo b.heap)(c:∀m,nw ⟨ſ,ų v⟩ bo (xw table ⟨ſ,ų v⟩ bo J) D m=W (.ok h,m+x))(aY:A h {b with toks:=b.toks+x}):Y ſ v s D A b:=λy n u u u=>Go G (λg m q aA=>TF G J g m q aA) D y _ _ b.toks _ n (c _) λu=>aY
theorem aa9(G:Sub bo b.heap)(c:∀m,nw ⟨ſ,ų v⟩ bo (xw nM ⟨ſ,ų v⟩ bo J) D m=W (.ok h,m+x))(aY:A h {b with toks:=b.toks+x}):Y ſ v s D A b:=aa8 G (λm=>yL▸c m) aY
noncomputable def dq(n:cM)(j:Nat):Stmt:=(n.main.body[j]?).getD<|.Pass default
noncomputable def k3:fa->Nat->fa|.ClassDef _ _ _ a _ _ _ _ _ _ _,Q=>(a[Q]?).getD<|.Pass default|_,_=>.Pass default
noncomputable def ut:fa->Arguments|.FunctionDef _ h _ _ _ _ _ _ _ _=>h|_=>⟨[],[],aX,[],[],aX,[]⟩
noncomputable def hv:fa->List fa|.FunctionDef _ _ a _ _ _ _ _ _ _=>a|_=>[]
noncomputable def fH:fa->dA|.FunctionDef _ _ _ _ _ _ b _ _ _=>b|_=>default
noncomputable def nx(E:List Obj):BT:=(E.foldl (λ(f:BT×Nat)k=>(f.1.ins f.2 k,f.2+1)) (.nil,0)).1
@[reducible]noncomputable def gq(f:String)(D:Tok):Value:=.str (mG f) D
@[reducible]def dP(M:cY)(f:String)(D:Tok)(z:aF):DictEntry:=⟨PyData.keyHash M<|mG f,gq f D,z⟩
@[reducible]noncomputable def jv(g:String)(x:Data):Obj:={cls:=.type g,data:=x}
@[reducible]noncomputable def zZ(x:Data):Obj:={cls:=.none,data:=x}
@[reducible]noncomputable def kD(C:Nat):Nat->List Int->List aF|_,[]=>[]|x,f::E=>.int f (C+x)::kD C (x+1) E
@[reducible]def pB(C:Nat):Nat->List String->List aF|_,[]=>[]|x,f::E=>gq f (C+x)::pB C (x+1) E
@[reducible]def h7(g:String)(o:Nat)(E:List aF):Obj:=jv g<|.seq E.toArray o
def iT:Obj:=jv "tuple"<|.seq #[] 0
def dm:Obj:=zZ<|.fields #[]
@[reducible]def mY(C:Nat)(aa A:String)(D s bo aC q:Nat)(a:Bool)(eD gG:Nat)(xx C0 î ï:aF)(a1:Nat):Obj:=jv "code"<|.fields #[gq aa<|C+D,gq A<|C+(D+1),gq "/claim/cut.py"<|C+(D+2),.int s 0,.int bo 0,.int 0 0,.int 0 0,.int aC 0,.ref q,.bool a,.int eD 0,.ref gG,xx,C0,î,ï,.int ((C+a1:Nat):Int) 0,.int s 0,gq "/claim/cut.py"<|C+(a1+1)]
@[reducible]def TG(b:fa)(aa A:String)(t:Nat)(me:List<|Str×aE)(LO doc LP:aF)(LQ:Option aE)(LR LS:aF):FuncData:={name:=mG aa,qualname:=mG A,params:=ut b,body:=.stmts<|hv b,scope:=fH b,globals:=t,closure:=me,defaults:=LO,kwdefaults:=.none,doc:=doc,pyModule:=LP,annotations:=LQ,code:=LR,closureTuple:=LS,builtins:=0}
@[reducible]def n7(b:fa)(aa A:String)(t:Nat)(me:List<|Str×aE)(LO doc LP:aF)(LQ:Option aE)(LR LS:aF):Obj:=jv "function"<|.func<|TG b aa A t me LO doc LP LQ LR LS
@[reducible]def pC(b:fa)(aa A:String):Obj:=zZ<|.func<|TG b aa A 0 [] .none .none .none aX .none .none
@[reducible]noncomputable def TH(h a g:Nat)(z:aF):Obj:={cls:=.type "frame",dict:=aX,data:=.plain,slots:=#[W<|.ref h,W<|.ref a,W<|.ref g,aX,W z,aX,W<|.ref 0]}
def LU(o:String)(a6:List aF)(h:Nat)(q:List aF)(c:Bool)(bz:List Str)(n:Option aF)(D aG:Nat)(z:aF):Obj:={cls:=.type "type",dict:=aX,data:=.cls {name:=mG o,bases:=a6,mro:=.ref h::(a6++q),ns:=h-1,qualname:=mG o,hasDict:=c,slotNames:=bz,subclasses:=[],abstract:=be,collection:=aX,hasDel:=be},slots:=#[n,aX,W<|gq o D,W<|gq o aG,W z,W<|.bool c]}
def LV(cj:cM)(M:cY):Obj:=zZ<|.dict #[] 0
noncomputable def aa_(cj:cM)(M:cY):Obj:={cls:=(.type "module"),dict:=(W 0),data:=.plain,slots:=#[]}
def TI(cj:cM)(M:cY):Obj:=mY 0 "__new__" "EC.__new__" 293 37 4 3 76 ag 181 77 .none (.ref 78) (.ref 79) (.ref 80) 300
def Gp(cj:cM)(M:cY):Obj:=n7 (k3 (dq cj 11) 4) "__new__" "EC.__new__" 3 [] .none (gq "Create new instance of EC(num_blocks, num_total, num_data)" 302) (gq "segno.consts" 194) aX (.ref 81) .none
def TJ(cj:cM)(M:cY):Obj:=jv "builtin_function_or_method"<|.fields #[(.builtin "object.__init_subclass__"),(.ref 135)]
noncomputable def mZ:Obj:={cls:=.none,data:=.freed}
def TK(M:cY):DictEntry:=dP M "__name__" 165<|gq "segno.consts" 194
def LW(M:cY)(ab:Nat):List DictEntry:=[(dP M "__doc__" 166 .none),(dP M "__package__" 167 .none),(dP M "__loader__" 168<|.builtin "__main__.__loader__#opaque"),(dP M "__spec__" 169 .none),(dP M "__annotations__" 170<|.ref 6),(dP M "__builtins__" 171<|.ref 4),(dP M "__file__" 173<|gq "/claim/cut.py" 172),(dP M "__cached__" 174 .none),(dP M "_wall" 193<|.ref 21),(dP M "_tuplegetter" 252<|.ref 60),(dP M "VERSION_M4" 254<|.int (0) 253),(dP M "VERSION_M3" 257<|.int (-1) 256),(dP M "VERSION_M2" 260<|.int (-2) 259),(dP M "VERSION_M1" 263<|.int (-3) 262),(dP M "ERROR_LEVEL_L" 265<|.int (1) 264),(dP M "ERROR_LEVEL_M" 267<|.int (0) 266),(dP M "ERROR_LEVEL_Q" 269<|.int (3) 268),(dP M "ERROR_LEVEL_H" 271<|.int (2) 270),(dP M "EC" 399<|.ref 135),(dP M "ECC" (ab+0)<|.ref 139),(dP M "GEN_POLY" (ab+318)<|.ref 1868),(dP M "GALIOS_LOG" (ab+575)<|.ref 1888),(dP M "GALIOS_EXP" (ab+832)<|.ref 1890),(dP M "make_final_message" (ab+841)<|.ref 1895),(dP M "make_blocks" (ab+848)<|.ref 1900),(dP M "Buffer" (ab+927)<|.ref 1963),(dP M "_law_layouts" (ab+970)<|.ref 1975),(dP M "_law_doubled" (ab+979)<|.ref 1982),(dP M "_law_multiples" (ab+985)<|.ref 1987),(dP M "_law_rest" (ab+991)<|.ref 1992),(dP M "law" (ab+997)<|.ref 1997)]
noncomputable def LX(E:List<|Int×Int×Nat):Data:=.fields (E.flatMap λ(h,a,g)=>[.int h 0,.int a 0,.ref g]).toArray
def TL(cj:cM)(M:cY):List (Nat×Obj):=[(2,LV cj M),(3,jv "dict"<|.dict (TK M::(LW M 0).take 19).toArray 20),(12,zZ<|LX [(1,0,20),(5,0,27),(31,0,71)]),(13,mY 0 "<module>" "<module>" 182 1 0 0 11 be 181 12 .none .none .none .none 185),(14,TH 13 3 3<|gq "__main__" 164),(36,jv "tuple"<|.seq #[.none] 0),(42,mY 0 "__get__" "_tuplegetter.__get__" 217 11 3 3 37 ag 181 38 .none (.ref 39) (.ref 40) (.ref 41) 223),(43,n7 (k3 (dq cj 2) 1) "__get__" "_tuplegetter.__get__" 3 [] (.ref 36) .none (gq "segno.consts" 194) aX (.ref 42) .none),(59,jv "dict"<|.dict #[(dP M "__module__" 203<|gq "segno.consts" 194),(dP M "__firstlineno__" 207<|.int (5) 206),(dP M "__init__" 216<|.ref 35),(dP M "__get__" 225<|.ref 43),(dP M "__set__" 234<|.ref 50),(dP M "__delete__" 242<|.ref 57),(dP M "__static_attributes__" 245<|.ref 58),(dP M "__dict__" 247<|.ref 61),(dP M "__weakref__" 249<|.ref 62),(dP M "__doc__" 250 .none)] 4),(60,LU "_tuplegetter" [(.type "object")] 60 [] ag [] aX 196 204<|.builtin "object.__new__"),(68,jv "cell"<|.cell<|W<|.ref 135),(81,TI cj M),(82,Gp cj M)]++(["Alias for field number 0","Alias for field number 1","Alias for field number 2"].zipIdx.flatMap λ(b,j)=>[(123+3*j,jv "dict"<|.dict #[dP M "index" (371+10*j)<|.int (.ofNat j)<|365+10*j,dP M "__doc__" (373+10*j)<|gq b<|366+10*j] 2),(124+3*j,{cls:=.ref 60,dict:=W<|123+3*j,data:=.plain,slots:=#[]})])++[(134,jv "dict"<|.dict #[(dP M "__module__" 279<|gq "segno.consts" 194),(dP M "__firstlineno__" 283<|.int (31) 282),(dP M "__doc__" 285<|gq "EC(num_blocks, num_total, num_data)" 284),(dP M "__slots__" 287<|.ref 73),(dP M "_fields" 291<|.ref 74),(dP M "_field_defaults" 292<|.ref 75),(dP M "__new__" 303<|.ref 136),(dP M "_make" 325<|.ref 91),(dP M "_replace" 336<|.ref 100),(dP M "__replace__" 337<|.ref 100),(dP M "__repr__" 345<|.ref 107),(dP M "_asdict" 352<|.ref 114),(dP M "__getnewargs__" 360<|.ref 121),(dP M "__match_args__" 364<|.ref 122),(dP M "num_blocks" 374<|.ref 124),(dP M "num_total" 384<|.ref 127),(dP M "num_data" 394<|.ref 130),(dP M "__static_attributes__" 395<|.ref 132)] 2),(135,LU "EC" [(.type "tuple")] 135 [(.type "object")] be [] (W<|.ref 65) 272 280 .none),(136,jv "staticmethod"<|.fields #[(.ref 82)]),(138,TJ cj M)]
def z0(cj:cM)(M:cY)(x:Obj)(j:Nat):Obj:=((TL cj M).lookup j).getD<|bif kq j 11 then((pc M).objs[j]?).getD x else x
def xy(cj:cM)(M:cY)(lo:Nat->Obj):List Obj:=(cZ 139).map λj=>z0 cj M (lo j) j
def aa'(cj:cM)(M:cY):BT:=nx<|xy cj M λu=>mZ
noncomputable abbrev aU:cM:=YQ
theorem aba(J:cN->a9->cN)(a:cN)(E:List a9)(c:E[j]?=W f):(E.take<|j+1).foldl J a=J ((E.take j).foldl J a) f:=by rw[U u4<|U c<|U y5 ?_];rfl
theorem abb{aq:List Int}{j:Nat}(c:j<gu aq):aq[j]?=W (aq.getD j 0):=by rwa[U (dG)<|U (eT c)];rfl
section
variable{g:ea}{x:Nat}{O:dA}{y:b_}{p:Env}{r L ay:List aE}{aa:Nat}{s bo:cq}{b:au}{z:Int}{o:Nat}{J bm cT:aE}{bp:yJ}{c3:Array aF}
def jX:Stmt:=((hv<|dq aU 17)[1]?).getD<|.Pass default
noncomputable def C1:Scope:={kind:=.function,names:=[(".0",.local),("i",.local),("val",.free)],isGenerator:=ag,isCoroutine:=be,more:=[]}
noncomputable def oQ(z:Int)(o j:Nat):Int:=wF (z.fdiv<|2^(o-1-j)) 1
theorem TM{ſ:cM}{v:cU}{aC:aF->au->Prop}{p:Env}{f:Str}{S:Str->Option aF}{z:aF}{ax:Pos}{A:aF->au->Prop}(aT:p.scope.kind=.function)(aw:p.kindOf f=W .local)(ak:b.heap.Ns p.locals S)(aQ:S f=W z)(c:A z b)(bl:(f==("__debug__":Str))=be):ce (cD ſ v) s (ee (.Name f ax) p) A aC b:=by rw[iG (eval_Name (hd:=bl) ..)<|bc<|qU<|IF aT aw ak aQ c]
theorem TN{ſ:cM}{v:cU}{aC:aF->au->Prop}{p:Env}{f:Str}{h:aE}{z:aF}{ax:Pos}{A:aF->au->Prop}(aT:p.scope.kind=.function)(aw:p.kindOf f=W .free)(aS:p.cells.lookup f=W h)(aQ:b.heap.IsCell h<|W z)(c:A z b)(bl:(f==("__debug__":Str))=be)(ak:(f==("__classdict__":Str))=be):ce (cD ſ v) s (ee (.Name f ax) p) A aC b:=by rw[U (eval_Name (hd:=bl) ..)<|bc<|qU<|Pz aT aw aS aQ c ak]
theorem abc(aA:g.I7)(ao:eW (x+1) s)(bi:FnAt b J bp<|hv jX)(no:bp.scope=fH jX)(kB:bp.globals=3)(iB:bp.builtins=0)(sB:bp.code=.ref bm)(bC:TabAt b.heap bm cT c3)(z1:cT∉g.sS)(I:cx g p r L ay aa)(n:bG g p r L aa y b){wT TO:Tok}{aV:List aF}(l:sd b bp ⟨aV,[]⟩ [("val",.int z wT),("length",.int o TO)])(ak:o<2^62)(aI:g.gl "range"=W (.type "range"))(fM:g.gl "reversed"=W (.type "reversed"))(h1:bo.handled=aX){A:aF->au->Prop}(aj:∀h aP t an f4 lq eB w,(aB b)<=h->(aB b)<=aP->(aB b)<=an->h<(aB w)->aP<(aB w)->an<(aB w)->b.gens.size<=t->t<w.gens.size->bb [cT] [] b w->TabAt w.heap bm cT lq->lq=c3++eB->oN h aP (an::f4) [an]->(∀a∈f4,(a∈g.sS\/(aB b)<=a)/\a<(aB w))->(∀rJ:cq,rJ.handled=aX->rJ.depth<=bo.depth->rJ.units<=bo.units->jW g.prog g.w rJ h t aP (an::f4) [an] o (λj B=>∃D,B=.int (oQ z o j) D) 0 w)->A (.ref h) w):Y g.prog g.w s (eS (.ref J) aV []) A b:=by
 rw[CX (eH:=["val","length"]) (bT:=[(.cH,.int z),(.cH,.int o)]) (aV:=[.int z wT,.int o TO]) aA.1 ao bi kB iB I n ?_ V l (by rwa[U no];cbv) λw dZ cd eo bs go=>?_]
 .rw[⟨_,_,V,?_,_,_,V,?_,V⟩]
  .rw[(?_:ck _ _ _ _)];rw[⟨_,V⟩]
  .rw[(?_:ck _ _ _ _)];rw[⟨_,V⟩]
 rw[d8 ?_];intro eg;have p':=bi.8;have jw:(c5 bp J b).scope=fH jX:=no;have C2:(c5 bp J b).code=.ref bm:=sB;have Gq:(c5 bp J b).globals=3:=kB;have z2:(c5 bp J b).builtins=0:=iB;have gI:(s.deeper<|c5 bp J b).depth<recursionLimit:=mA (a5 (hf _ _) go.2) bf;generalize ð:s.deeper (c5 bp J b)=k4 at*;generalize bq:c5 bp J b=eE at*;rw[Y' (show∃fn fQ iC i_ mi qo C3 xz LY bM tU FQ TP,hv jX=[.Return (W<|.GeneratorExp (.BinOp (.BinOp (.Name "val" fn) .RShift (.Name "i" fQ) iC) .BitAnd (.Constant (.int 1) 0 i_) mi) [⟨.Name "i" qo,.Call (.Name "reversed" C3) [.Call (.Name "range" xz) [.Name "length" LY] [] bM] [] tU,[],0⟩] C1 FQ) TP]from(⟨_,_,_,_,_,_,_,_,_,_,_,_,_,V⟩)) λfn fQ iC i_ mi qo C3 xz LY bM tU FQ TP jP=>U jP<|g4 λu bW=>jh bs.3 λcS al af bN cB=>?_];obtain-:=bN;obtain-:=cB;rw[bt (af "val" (.f<|.int z)<|sD V) λa4 jq ap=>?_];have gH:∃D,a4=.int z D:=by have:ck w.heap (cc eE++r) (.int z) a4:=ap;rw[this]
 rw[c1 gH λD dt=>?_];obtain rfl:=dt;rw[bt (al.3 "val"<|.inl (by show eE.scope.names.lookup _=_;rwa[U jw];cbv)) λg_ lM lW=>?_];rw[bW ?_];rw[jq]at lW;have uu:g_∈cc eE:=t3 lM;have LZ:wu C1 eE=dB (hs eE C1.names []):=Lf λe aY zQ=>by
  have nW:e∈([((".0":Str),NameKind.local),(("i":Str),NameKind.local),(("val":Str),NameKind.free)]:List<|Str×sc):=aY;rcases fT.mp nW with rfl|nW
  .cases zQ
  rcases fT.mp nW with rfl|nW
  .cases zQ
  rw[U (bg nW)<|⟨g_,lM⟩]
 rw[Y.bind<|dH<|Y.bind ?_];have ht:(aB g.s0)<=(aB b):=n.2.1.2;have mP:∀a k,a<(aB g.s0)->a∉g.tabs->Ű (Q7 g.s0) a=W k->Ű (Q7 w) a=W k:=λa k u l i=>bs.2.1.1 a k l i;rwa[Tp (M:=cT) (me:=hs eE C1.names []) (qj:=g_::g.sS) (o:=o) (uf:=λj z=>j<o/\∃D,z=.int ((o:Int)-1+j*(-1)) D) (Gh:=λan j c=>o9 c an ((o:Int)-1+(j:Nat)*(-1)) ((o:Int)-(j:Nat))<|-1) (eD:=λj B=>∃D,B=.int (oQ z o j) D) V LZ bf V V V gI (aA.1.3 _ bs.2) h1 C2 (bC.keeps λa k i=>cd.1 a k (λe=>db e) i) (λf=>V) ?_ ?_ ?_ ?_ ?_ ?_ (λj z c=>c.1)]
 .--qc amy place
  intro ew nt d_ nU aT aY;rwa[iG (U Gq<|U z2 V)];rw[z2]at aY;rw[aA.2 ew nt d_ nU (λa k l bC i=>aT a k (λe=>z1<|e▸nv.mpr ⟨l,bC⟩)<|mP a k l bC i) aY]
 .intro a l
  revert a;rwa[hg ?_]
  .rw[eo.8 _ (eo.4 _ uu).1]
  .intro a l;rw[cg (nv.mp l).1 bs.2.1.2]
 .rw[mt<|nv.mpr aA.3]
 .intro e;rw[dw e (λe=>?_) λe=>?_]
  .have:=bC.1.lt.2;rw[b2 (e▸this)<|dZ g_ uu]
  .rw[z1 e]
 .rw[d8 ?_];intro eg--qc iterator
  have cp:dk g.prog g.w k4 [] [] eE (bG g eE (cc eE++r) [] (aB w)<|lT ["val","length"] [(.cH,.int z),(.cH,.int o)] []) (.Name "length" LY) (hC o):=eP (ai.name (x:=x) (O:=fH jX) (z:=.int o) V Z) go jw eo;rw[aa1 aA.1 eo cp aI fM (by rwa[U jw];cbv) (by rwa[U jw];cbv) V ak w _ bs λCW as aK⟨an,i,lK,f9⟩=>?_];rw[U i<|Y.of<|(FC go.1 an ((o:Int)-1) (-1) o).self 0 as _ _ ?_ ⟨an,V,lK,dK f9,aK,?_,λew go=>Lake.Walks.lt<|FC go an ((o:Int)-1) (-1) o⟩]
  .simpa using f9
  .simpa using f9
 .--qc aaa
  intro aP code ew nt j B ar vE Gr _ _ T aQ zY vF L0;rw[jm ?_];intro jI;rw[g4 λu bW=>c0 aQ λu eh=>c1 eh λfp fd=>?_];obtain rfl:=fd;rw[bW<|IP<|IP<|TN (z:=.int z D) V V (Lg lM C1.names [] aR<|.inr<|mt<|mt bB) ?_ ?_ bf bf]
  .rw[bt lW λk i bl=>⟨k,L0 g_ bB k i,bl⟩]
  rw[TM V V zY vF (rshift_int (by lia) ?_) bf];have bH:om ((o:Int)-1+j*(-1))=o-1-j:=by rw[I9,yU,<-BA,I_];rw[(Fb o<|1+j).trans (Jg ..).symm]
  rw[U bH<|uW<|and_int ⟨⟨ar.toks+1+1,V⟩,Q7 ar,ar.toks+1+1+1,V,λu u i=>i⟩]
 .intro h aP t an lq eB d_ aS eI lK kb qp C4 qq L1 il L2 lU i3 oG;have oP:(aB b)<=(aB w):=cd.2;rw[Y.pure<|Y.pure ⟨_,V,aj h aP t an (g_::g.sS) lq eB d_ (a5 oP aS) (a5 oP eI) (a5 oP lK) kb qp C4 (a5 cd.4 qq) L1 ((cd.mono aR λu c=>c).trans il) L2 lU i3 (λa l=>?_) oG⟩]
  revert a;rwa[hg ?_]
  .rw[⟨.inr<|dZ _ uu,cg (eo.8 _ (eo.4 _ uu).1) il.2⟩]
  .intro a l;rw[⟨.inl l,cg (nv.mp l).1<|a5 bs.2.1.2 il.2⟩]
end
section
theorem TR:QD.lookup (QE ['p','a','m'].reverse)=W Manifest.sig_map:=rfl
theorem C5:yM "map" "__next__" "map.__next__":=Rj (owner:="map") (n:="__next__") (by rwa[U (h_ ..)<|U h'];cbv) (by decide+kernel) (by decide+kernel) (by decide+kernel) (by first|rw[.inl (by decide+kernel)]|rw[.inr (by decide+kernel)]) (by rwa[U (k_ ..)];cbv)
theorem TS(h:aF):ko "map.__next__" ⟨[h],[]⟩:=by unfold ko;rwa[U (tn (n:=['_','_','t','x','e','n','_','_']) V TR)];cbv
theorem abd:m' (.type "map") "__len__"=pure aX:=by rwa[U (h_ ..)<|U h'];cbv
theorem abe:m' (.type "map") "__length_hint__"=pure aX:=by rwa[U (h_ ..)<|U h'];cbv
theorem TT:yM "map" "__iter__" "map.__iter__":=Rj (owner:="map") (n:="__iter__") (by rwa[U (h_ ..)<|U h'];cbv) (by decide+kernel) (by decide+kernel) (by decide+kernel) (by first|rw[.inl (by decide+kernel)]|rw[.inr (by decide+kernel)]) (by rwa[U (k_ ..)];cbv)
section
variable{ſ:cM}{v:cU}{s:cq}{aC:aF->au->Prop}{b:au}{aN a1 ai cw:aE}
inductive qr(c:e1)(aN a1 ai cw:aE)(bv:Array aF)(j:Nat):Prop|mk(f2:Ű c aN=W {cls:=.type "map",data:=.fields #[.ref a1,.type "str"]})(f3:∃o,Ű c a1=W {cls:=.type "tuple",data:=.seq #[.ref ai] o})(gw:c.IsListIter ai cw j)(j_:c.IsList cw bv):qr c aN a1 ai cw bv j
theorem qr.keep{c X:e1}{bv:Array aF}{j:Nat}(f:qr c aN a1 ai cw bv j)(m:∀a∈[aN,a1,ai,cw],∀k,Ű c a=W k->Ű X a=W k):qr X aN a1 ai cw bv j:=by obtain⟨S,⟨o,D⟩,Q,E⟩:=f;rw[⟨m aN (bB) _ S,⟨o,m a1 (mt bB) _ D⟩,(bt Q λk aL q=>⟨k,m ai (mt<|mt bB) _ aL,q⟩),E.at λk i=>m cw (by simp) k i⟩]
theorem abf{bv:Array aF}{j:Nat}{h:Int}{D:Tok}{A:Option aF->au->Prop}(f:qr b.heap aN a1 ai cw bv j)(sT:aN≠ai)(cV:a1≠ai)(fs:cw≠ai)(R:bv[j]?=W (.int h D))(aS:h.natAbs.log2<1920)(aj:∀X fp ab,qr X aN a1 ai cw bv (j+1)->iE ai b.heap X->b.toks<=ab->A (W<|.str (toString h) fp) {b with heap:=X,toks:=ab}):ce (cD ſ v) s (oj<|.ref aN) A aC b:=by
 obtain⟨bk,⟨TU,bC⟩,cu,aw⟩:=f;have uv:b.TypeIs (.ref aN) "map":=⟨_,bk,V⟩;rw[bc<|uX<|nL (name:=mG "__next__") uv C5 (kL C5 uv (nK V) ?_<|TS _)];rw[jm ?_];intro jI;rwa[ng (h:=(fv aN,[])) V];try dsimp only
 rw[iH bk V (f:=.ref a1) V<|bc<|ts bC V ?_];try dsimp only
 rw[bc<|bc<|kQ<|wpAny_nextOf_list_item cu aw R λbw ñ fX=>cr<|cr ?_];have TV:=(fX.2 aN sT).trans bk;rw[iH TV V (f:=.type "str") V<|kQ<|PySem.P.str_of_int aS<|bc<|wo<|cr<|dj _ V<|cr<|aj bw _ _ ⟨TV,(ov TU<|(fX.2 a1 cV).trans bC),ñ,aw.at λk i=>(fX.2 cw fs).trans i⟩ fX<|j2 _]
theorem abg{bv:Array aF}{j:Nat}{A:Option aF->au->Prop}(cO:s.handled=aX)(f:qr b.heap aN a1 ai cw bv j)(R:bv[j]?=aX)(aj:∀X,B1 ai b.heap X->A aX {b with heap:=X}):ce (cD ſ v) s (oj<|.ref aN) A aC b:=by
 obtain⟨bk,⟨TU,bC⟩,cu,aw⟩:=f;have uv:b.TypeIs (.ref aN) "map":=⟨_,bk,V⟩;rw[bc<|uX<|nL (name:=mG "__next__") uv C5 (kL C5 uv (nK V) ?_<|TS _)];rw[jm ?_];intro jI;rwa[ng (h:=(fv aN,[])) V];try dsimp only
 rw[iH bk V (f:=.ref a1) V<|bc<|ts bC V ?_];try dsimp only
 rw[bc<|bc<|kQ<|wpAny_nextOf_list_end cO cu aw R λX f uw iz=>bt iz λk aL aA=>bc<|sa (T:="StopIteration") ⟨k,aL,aA⟩ IQ<|cr<|aj _ uw]
theorem abh(cO:s.handled=aX)(sT:aN≠ai)(cV:a1≠ai)(fs:cw≠ai)(aq:List<|Int×Tok)(ak:∀n∈aq,n.1.natAbs.log2<1920):WalksS ſ v s aN [aN,a1,ai,cw] [ai] (λh a=>a=h) (gu aq) (λj z=>∃n aG,aq[j]?=W n/\z=.str (toString n.1) aG) (λj b=>qr b.heap aN a1 ai cw (aq.map λn=>tG n.1 n.2).toArray j)where
 sub:=λa l=>by rwa[U (bg l)];rw[mt<|mt bB]
 grefl:=λu=>V
 gtrans:=λu u u h a=>a.trans h
 frame:=λj b X ab st u aT=>st.keep aT
 item:=λj b A aC T st aj=>by have aO:=eT T;rw[abf (D:=aq[j].2) st sT cV fs (by simp[aO]) (ak _<|nb T) λX fp ab kz G bC=>aj _ _ (vg _ fp aO V) kz ⟨λa k l i=>G.extBut a k (λe=>l<|hG.mpr e) i,V,V,V,bC⟩]
 done:=λb A aC st aj=>abg cO st (by simp) λX bq=>aj _ ⟨λa k l i=>bq a k (λe=>l<|hG.mpr e) i,V,V,V,dr _⟩
 self:=λj b A aC st aj=>(by have uv:b.TypeIs (.ref aN) "map":=⟨_,st.1,V⟩;rw[IR uv TT<|kL TT uv (IE (id':="dict_keyiterator.__iter__") V (by first|rfl|decide+kernel|(unfold QF;simp+decide[QG])) (by decide+kernel) V) (cr<|dj _ V<|ie "map" _ uv C5.lookup aj) (by unfold ko;rwa[U (tn (n:=['_','_','r','e','t','i','_','_']) V TR)];cbv)])
end
end
section
open PySem PySem.Builtin PySem.Builtin.Str PyProof.Rows
section
variable{ſ:cM}{v:cU}{s:cq}{aC:aF->au->Prop}{b:au}{an:aE}{bQ aZ:List aE}{aD:Array wq->Array wq->Prop}{o:Nat}{M:Nat->aF->Prop}{St:Nat->au->Prop}
theorem abj{A:List aF->au->Prop}(di:WalksS ſ v s.in1 an bQ aZ aD o M St)(cV:∀j b,St j b->b.TypeIs (.ref an) "map")(fA:St 0 b)(jT:∀a∈bQ,a<(aB b))(lK:an∈bQ)(aj:∀w ch,Moved aZ aD b w->yN M ch o->A ch.toList w)(ak:o<=cy):ce (cD ſ v) s (collect<|.ref an) A aC b:=by
 have vn:(aB b)∉bQ:=λbk=>ia _<|jT _ bk;have Gs:(aB b)≠an:=λi=>vn<|i▸lK;rw[bc<|wpAny_runValue<|yK QZ ?_];rw[bc<|jE ?_];rw[cr ⟨o8 Q0 _,yK Q1 ?_⟩];have wY:=di.frame 0 b (b.heap.push {cls:=.type "list",data:=.seq ([]:List aF).toArray}) b.toks fA (dr _) λa u k i=>eY _ i;rw[(?_:ce _ s.in1 (JZ (.ref<|aB b) (.ref an)<|.ref<|aB b) _ _ _)];rwa[bc<|yF (cV 0 _ wY)];have af:FG (.ref<|aB b) (.ref an)=be:=by simp[FG,Gs]
 have am:(j6 "map"==j6 "list")=be:=bf;have a':(j6 "map"==j6 "tuple")=be:=bf;simp only[af,am,a',tk,EH,if_false];rwa[bc<|di.self 0 _ _ _ wY];rw[kQ<|bc<|iu (cV 0 _ wY) abd ?_];rwa[bc<|iu (cV 0 _ wY) abe];rw[cr<|bc<|mv ?_];have vK:Ű (b.heap.push {cls:=.type "list",data:=.seq ([]:List aF).toArray}) (aB b)=W {cls:=.type "list",data:=.seq ([]:List aF).toArray}:=fu _ V;rw[bc<|bc<|yO vK V ?_];rw[tX ?_];intro vL;have xA:=nP (jG (·.push q3)) vK V;rwa[yO xA V];have ux:∀a k,a≠(aB b)->Ű (b.heap.push {cls:=.type "list",data:=.seq ([]:List aF).toArray}) a=W k->Ű (((b.heap.push {cls:=.type "list",data:=.seq ([]:List aF).toArray}).update (aB b) (jG (·.push q3))).update (aB b) (jG (·.pop))) a=W k:=λa k l i=>(sm _ _<|ib l).trans<|(sm _ _<|ib l).trans i;rw[cr ⟨o8 JQ _,PM di ak _ vn _ o 0 _ _ _ V (eQ _) (di.frame 0 ({b with heap:=b.heap.push {cls:=.type "list",data:=.seq ([]:List aF).toArray}}:au) _ b.toks wY (dr _) λa l k i=>ux a k (λc=>vn<|c▸l) i) (nP (jG (·.pop)) xA V) (Rk M) λw gy bm bk xB i9=>?_⟩];rw[ou xB<|cr<|aj w gy (Moved.drop_new (o:={cls:=.type "list",data:=.seq ([]:List aF).toArray}) (Moved.trans di.gtrans ((Moved.refl di.grefl).then_heap (by first|rw[dr _]|rw[j2 _]|omega) λa k l i=>?_) bk)<|dr _) i9];rw[ux a k (λe=>by replace l:=e▸l;rw[l bB]) i]
theorem abk{D:Tok}{A:aF->au->Prop}(di:WalksS ſ v s.in1.in1 an bQ aZ aD o M St)(cV:∀j b,St j b->b.TypeIs (.ref an) "map")(fA:St 0 b)(jT:∀a∈bQ,a<b.heap.objs.size)(lK:an∈bQ)(ò:∀j z,M j z->∃B aG,z=Value.str B aG)(aY:∀w(E:List<|Str×Tok),Moved aZ aD b w->yN M (Bv E).toArray o->JoinOk nc (E.map (·.1))=ag/\∀fp m,A (.str (Txt.join nc (E.map (·.1))) fp) {w with toks:=m})(d4:o<=cy):ce (cD ſ v) s (call (.builtin "str.join") [.str nc D,.ref an]) A aC b:=by
 rw[wpAny_call<|codeAny_call_builtin F.slot_str_join.plain F.entry_str_join<|F.slot_str_join.check _ _ _ _ _ _ _ _ (typeIs_str _ _ _) (F.args_str_join_2 _ _) ?_];rw[jm ?_];intro jI;rw[iG (join_tree_other ..)<|bc<|yF (cV 0 b fA) ?_];rw[bc<|wpAny_tryCatch<|di.of_in1.self 0 b _ _ fA ?_];rw[bc<|abj di cV fA jT lK (λw ch bk i9=>?_) d4];rw[c1 (exists_strValues ch.toList λz aQ=>by obtain⟨Q,cu,rfl⟩:=Array.mem_iff_getElem.mp<|Array.mem_toList_iff.mp aQ;rw[ò Q _<|i9.2 Q _<|pb cu]) λE aw=>?_];rwa[iG (bL aw V)];have ó:yN M (Bv E).toArray o:=by rwa[U aw];simpa using i9
 rw[c0 (aY w E bk ó) λlp ô=>?_];unfold JoinOk at lp;rw[IC]at lp;have t:Gives (joinTail nc<|Bv E) (joinMade nc E):=by have z3:=gives_joinTail nc E lp;cases E with|nil=>rw[z3]|cons n q=>cases q with
   |nil=>rw[z3]|cons e gG=>rw[z3]
 rw[t ſ v s (wants A aC) w<|post_join E ⟨joinFit_length lp,ô⟩]
end
end
structure e5 where
 objs:List<|aE×Obj
 m:Nat
 toks:Nat
 sc:List Nat
 d':List<|aE×aE
 bq:List iZ
def kg(E:List<|aE×aE):Prop:=∀n∈E,n.1=n.2
def C6(bo:BT)(h:aE):e5->Option (Obj×e5)
 |⟨os,S,ab,0::q,im,b5⟩=>(TE bo h).bind λk=>W (k,⟨os,S,ab,q,im,b5⟩)|⟨os,S,ab,(j+1)::q,im,b5⟩=>os[j]?.bind λ|(a,k)=>W (k,⟨os,S,ab,q,(h,a)::im,b5⟩)
 |⟨cR,e3,ur,[],C7,õ⟩=>aX
noncomputable def TW(h:aE)(J:Obj->Obj):e5->Option e5
 |⟨os,S,ab,(j+1)::q,im,b5⟩=>os[j]?.bind λ|(a,k)=>(hW<|J k).bind λdh=>W ⟨os.set j (a,dh),S,ab,q,(h,a)::im,b5⟩
 |_=>aX
def iU{a9:Type}(st:u0)(bo:BT)(o t:Nat)(e4:iZ->e5->Option (gO×e5)):Sem a9->e5->Option (a9×e5)
 |.pure h,C=>W (h,C)|.rule cR m,C=>iU st bo o t e4 (m ()) C|.at cR m,C=>iU st bo o t e4 (m ()) C|.point cR m,C=>iU st bo o t e4 (m ()) C|.ask m,C=>iU st bo o t e4 (m st) C|.thread m,C=>iU st bo o t e4 (m 0) C|.fresh m,⟨os,S,ab,O,im,b5⟩=>iU st bo o t e4 (m ab) ⟨os,S,ab+1,O,im,b5⟩|.load h cR m,C=>(C6 bo h C).bind λ|(k,eR)=>iU st bo o t e4 (m k) eR
 |.loadIfAlive h m,C=>(C6 bo h C).bind λ|(k,eR)=>iU st bo o t e4 (m<|W k) eR
 |.update h cR J m,C=>(TW h J C).bind λB=>iU st bo o t e4 (m ()) B|.alloc k m,⟨os,S,ab,O,im,b5⟩=>(hW k).bind λdh=>iU st bo o t e4 (m<|o+S) ⟨os++[(o+S,dh)],S+1,ab,O,im,b5⟩|.newGen g m,⟨os,S,ab,O,im,b5⟩=>iU st bo o t e4 (m<|t+gu b5) ⟨os,S,ab,O,im,b5++[g]⟩|.call g aX cR e3 m,C=>(e4 g C).bind λ|(J,eR)=>iU st bo o t e4 (m<|.ok J) eR
 |cR,e3=>aX
noncomputable def TX:Data->Option yJ|.func bp=>W bp|_=>aX
noncomputable def TY:aF->Option (Str×Tok)|.str e D=>W (e,D)|_=>aX
def TZ:Data->Option (Str×Tok)|.fields N=>(N[1]?:Option aF).bind TY|_=>aX
noncomputable def T0:FuncBody->Option (List fa)|.stmts a=>W a|_=>aX
noncomputable def T1:aF->Option aE|.ref h=>W h|_=>aX
def fnOf(bo:BT):iZ->e5->Option (yJ×List fa×Args×aE×e5)
 |.call (.ref h) gF,C=>(C6 bo h C).bind λ|(k,sU)=>(TX k.data).bind λbp=>(k2<|!bp.scope.isGenerator).bind λu=>(k2<|!bp.scope.isCoroutine).bind λu=>(T0 bp.body).bind λeC=>(T1 bp.code).bind λC8=>(C6 bo C8 sU).bind λ|(K6,L3)=>(TZ K6.data).bind λe=>(k2<|e.1==bp.qualname).bind λu=>W (bp,eC,gF,h,L3)
 |cR,e3=>aX
def L4(lV:iZ->e5->Option (gO×e5)):Fin×e5->Option (gO×e5)|(.done c2,eR)=>W (c2,eR)|(.again bm,eR)=>(k2 bm.quiet).bind λu=>lV bm eR
def L5(lr:String->Option tl)(st:u0)(bo:BT)(o t:Nat)(q:iZ->e5->Option (gO×e5))(g:iZ)(C:e5):Option (gO×e5):=match tV g||kq 3 g.weight with|true=>aX|false=>match fnOf bo g C with
   |some (bp,eC,gF,h,sU)=>(iU st bo o t q (bindArgs bp gF) sU).bind λ|(jQ,L3)=>(iU st bo o t q (Bn bp.scope bp.globals bp.closure jQ (bp.qualname++".<locals>.") (W h) bp.code aX bp.builtins) L3).bind λ|(p,vM)=>q (.func eC p) vM
   |none=>(iU st bo o t q (yD lr g) C).bind<|L4 q
def xC(lr:String->Option tl)(st:u0)(bo:BT)(o t:Nat):Nat->iZ->e5->Option (gO×e5)|0,cR,e3=>aX|J+1,g,C=>L5 lr st bo o t (xC lr st bo o t J) g C
inductive fk(bo:BT)(o t:Nat)(cE:au)(C:e5)(b:au):Prop|mk(f2:b.heap.objs.size=o+C.m)(f3:b.toks=C.toks)(gw:∀(j:Nat)(a:aE)(k:Obj),C.objs[j]?=W (a,k)->b.heap.get? a=W k)(j_:(C.objs.map (·.1)).Nodup)(lL:Sub bo b.heap)(oA:∀n∈C.objs,∀k dh,bo.get n.1=W k->hW k=W dh->False)(w5:∀a k,(∀n∈C.objs,n.1≠a)->Ű (Q7 cE) a=W k->b.heap.get? a=W k)(F7:b.gens=cE.gens++(C.bq.map GenState.fresh).toArray)(K8:cE.gens.size=t)(SX:b.os=cE.os)(å:b.drawn=cE.drawn):fk bo o t cE C b
theorem T2(c:hW k=W dh):dh=k/\k.isFreed=be:=by obtain⟨g,x,rL,bz⟩:=k;cases rL<;>first|rw[⟨Fm (ek c),Eq.refl _⟩]|rw[nomatch c]
theorem fk.re{os:List<|aE×Obj}{S ab:Nat}{O ö:List Nat}{im ø:List<|aE×aE}{b5:List iZ}{b:au}(j:fk bo o t cE ⟨os,S,ab,O,im,b5⟩ b):fk bo o t cE ⟨os,S,ab,ö,ø,b5⟩ b:=⟨j.1,j.2,j.3,j.4,j.5,j.6,j.7,j.8,j.9,j.10,j.11⟩
theorem kg.Hm(c:kg<|n::E):kg E:=λe aY=>c e<|mt aY
theorem kg.hd(c:kg<|(h,a)::E):h=a:=c _ bB
theorem Gt(c:C6 bo h C=W B)(aL:kg B.2.d'):kg C.d'/\∀b,fk bo o t cE C b->b.heap.get? h=W B.1/\fk bo o t cE B.2 b:=match C,c with|⟨os,S,ab,0::q,im,b5⟩,c=>d6 c λk i c=>by rwa[ds (@e5.mk _ _ _ _ _ _)];intro dx;cases c;rw[⟨aL,λb j=>⟨(d6 i λf af am=>j.5 h f k af am),j.re⟩⟩]|⟨os,S,ab,(Q+1)::q,im,b5⟩,c=>d6 c λn i c=>by cases c;rwa[ds (@Prod.mk _ _ _ _)];intro dx;rw[⟨aL.Hm,λb j=>⟨(aL.hd)▸j.3 Q n.1 n.2 i,j.re⟩⟩]
theorem abl(c:TW h J C=W eR)(aL:kg eR.d'):kg C.d'/\∀b,fk bo o t cE C b->(b.heap.get? h).isSome=ag/\fk bo o t cE eR {b with heap:=b.heap.update h J}:=by match C,c with
 |⟨os,S,ab,(j+1)::q,im,b5⟩,c=>
  rwa[ds (@e5.mk _ _ _ _ _ _)];intro dx;rw[d6 c λn i c=>d6 c λkX ft c=>?_];obtain⟨a,f⟩:=n;cases c;obtain rfl:h=a:=aL.hd;obtain⟨rfl,bi⟩:=T2 ft;rwa[ds (@e5.mk _ _ _ _ _ _)];intro dx;rw[⟨aL.Hm,λb e=>?_⟩];have T3:=e.3 j h f i;have T:=(j4.mp i).1;have C9:(os.set j (h,J f)).map (·.1)=os.map (·.1):=by
   apply wD;intro Q;rw[U (eX)<|U (eX)<|U (Jw) ?_];split
   .rename_i z4;rwa[bL z4<|U i];rfl
   .rfl
  have c_:∀(Q:Nat)(a:aE)(k:Obj),Q≠j->os[Q]?=W (a,k)->a≠h:=by
   intro Q a k cu l L6;subst L6;have ù:Q<gu (os.map (·.1)):=by simpa using(j4.mp l).1
   have bH:(os.map (·.1))[Q]?=W a:=by rwa[U (eX)<|U l];rfl
   have cm:(os.map (·.1))[j]?=W a:=by rwa[U (eX)<|U i];rfl
   rw[cu<|(Qe ù e.4).mp<|bH.trans cm.symm]
  rw[⟨by rwa[U T3];rfl,⟨?_,e.2,?_,?_,?_,?_,?_,e.8,e.9,e.10,e.11⟩⟩]
  .show(b.heap.update h J).objs.size=_;rw[U (vb ..) e.1]
  .intro Q a k cu;replace cu:=(Jw)▸cu;split at cu
   .rename_i z4;skip;cases cu;rw[nP J T3 bi]
   .rename_i z4;rw[(sm _ _ (c_ Q a k (λe=>z4 e.symm) cu).symm).trans<|e.3 Q a k cu]
  .show((os.set j (h,J f)).map (·.1)).Nodup;rw[U C9 e.4]
  .intro a k dh l gY;have L6:h≠a:=by rintro rfl;rw[e.6 (h,f) (j3 i) k dh l gY]
   rw[(sm _ _ L6).trans<|e.5 a k dh l gY]
  .intro n aO k dh l gY;have:n.1∈(os.set j (h,J f)).map (·.1):=y6 aO;replace this:=C9▸this;rw[mL this λbs rv cP=>e.6 bs rv k dh (cP▸l) gY]
  .intro a k l aT;have uy:∀n∈os,n.1≠a:=by intro n aO;have:n.1∈os.map (·.1):=y6 aO;replace this:=C9▸this;rw[mL this λbs rv cP=>cP▸l bs rv]
   rw[(sm _ _<|uy (h,f)<|j3 i).trans<|e.7 a k uy aT]
theorem abm(ft:hW k=W dh)(b:au)(e:fk bo o t cE C b):b.heap.objs.size=o+C.m/\fk bo o t cE ⟨C.objs++[(o+C.m,dh)],C.m+1,C.toks,C.sc,C.d',C.bq⟩ {b with heap:=b.heap.push k}:=by
 rwa[ds (@e5.mk _ _ _ _ _ _)];intro dx;rw[c0 (T2 ft) λfw bi=>?_];obtain rfl:=fw;have cG:∀n∈C.objs,n.1<o+C.m:=by intro n aO;rw[c1 (Qf aO) λj T=>?_];rw[bL e.1<|dK<|e.3 j n.1 n.2 T]
 rw[⟨e.1,⟨?_,e.2,?_,?_,?_,?_,?_,e.8,e.9,e.10,e.11⟩⟩]
 .show(b.heap.push dh).objs.size=_;rwa[U (f' ..)<|U e.1];rfl
 .intro j a f T;rw[(?_:Ű (b.heap.push dh) a=W f)];replace T:=(List.getElem?_append)▸T;split at T
  .rw[eY _<|e.3 j a f T]
  .rename_i aw;replace T:=(List.getElem?_singleton)▸T;split at T
   .cases T;rw[bL e.1<|fu _ bi]
   .rw[dN T]
 .rw[((U jg<|gW wE<|⟨e.4,by simp,?_⟩):((C.objs++[(o+C.m,dh)]).map (·.1)).Nodup)];intro h aS a l C_;rw[mL aS λn aO j8=>?_];obtain rfl:=j8;simp only[hU,BQ,hG]at l;rw[ia _<|yZ (cG n aO)<|l.symm.trans C_.symm]
 .intro h f kX i Gu;rw[eY _<|e.5 h f kX i Gu]
 .intro n aO f kX i Gu;rw[bS aO (λaO=>?_) λaO=>?_]
  .rw[e.6 n aO f kX i Gu]
  .simp only[hG]at aO;subst aO;have:=dK<|e.5 _ f kX i Gu;replace this:=e.1▸this;rw[ia _ this]
 .intro a f l aT;rw[eY _<|e.7 a f (λn aO=>l n<|b7 aO) aT]
def abn(ſ:cM)(v:cU)(bo:BT)(o t:Nat)(cE:au)(cw:List (iZ×Pos)->Prop)(ca:Nat){a9:Type}(D:Sem a9)(C:e5)(B:a9×e5):Prop:=kg C.d'/\∀(s:cq)(y:Ctx)(n:Pos)(b:au)(A:a9->Pos->au->Prop),s.depth+ca<f6->y.In s->(∀n,cw<|(y.code,n)::y.below)->fk bo o t cE C b->(∀bs w,fk bo o t cE B.2 w->A B.1 bs w)->j5 (cD ſ v) y D A (λu u u=>False) n b
def rM(ſ:cM)(v:cU)(bo:BT)(o t:Nat)(cE:au)(cw:List (iZ×Pos)->Prop)(ca:Nat)(e4:iZ->e5->Option (gO×e5)):Prop:=∀g C B,e4 g C=W B->kg B.2.d'->kg C.d'/\∀(s:cq)b,s.depth+ca<f6->fk bo o t cE C b->∀y n,y.code=g->y.Below s->cw y.below->wpCode (cD ſ v) y (λq w=>q=.ok B.1/\fk bo o t cE B.2 w) n b
theorem T4(rK:rM ſ v bo o t cE cw ca e4)(D:Sem a9):∀(C:e5)(B:a9×e5),iU ⟨ſ,ų v⟩ bo o t e4 D C=W B->kg B.2.d'->abn ſ v bo o t cE cw ca D C B:=by induction D with
 |pure h=>rw[λC B c aL=>by cases c;rw[⟨aL,λs y n b A u u u j aY=>aY n b j⟩]]|rule _ m aW=>rw[aW ()]|«at»e m aW=>rw[λC B c aL=>⟨(aW () C B c aL).1,λs y u=>(aW () C B c aL).2 s y e⟩]|point _ m aW=>rw[aW ()]|ask m aW=>rw[aW _]|thread m aW=>rw[aW _]|fresh m aW=>rw[λC B c aL=>⟨(aW _ _ B c aL).1,λs y n b A q h a j=>by rw[(?_:_->j5 _ _ (m b.toks) _ _ _ _)];rw[Fm j.2▸(aW _ _ B c aL).2 s y n _ A q h a ⟨j.1,V,j.3,j.4,j.5,j.6,j.7,j.8,j.9,j.10,j.11⟩]⟩]|load h sR m aW=>rw[λC B c aL=>d6 c λf i c=>have af:=aW f.1 f.2 B c aL
   have a':=Gt i af.1
   ⟨a'.1,λs y n b A q h a j aY=>⟨f.1,(a'.2 b j).1,af.2 s y n b A q h a (a'.2 b j).2 aY⟩⟩]|loadIfAlive h m aW=>rw[λC B c aL=>d6 c λf i c=>have af:=aW (W f.1) f.2 B c aL
   have a':=Gt i af.1
   ⟨a'.1,λs y n b A q gi a j aY=>by rw[(?_:j5 _ _ (m<|b.heap.get? h) _ _ _ _)];rw[Fm ((a'.2 b j).1)▸af.2 s y n b A q gi a (a'.2 b j).2 aY]⟩]|update h sR J m aW=>rw[λC B c aL=>d6 c λf i c=>have af:=aW () f B c aL
   have a':=abl (o:=o) i af.1
   ⟨a'.1,λs y n b A q h a j aY=>⟨(a'.2 b j).1,af.2 s y n _ A q h a (a'.2 b j).2 aY⟩⟩]|alloc k m aW=>rw[λC B c aL=>d6 c λdh i c=>have af:=aW _ _ B c aL
   ⟨af.1,λs y n b A q h a j aY=>by have a':=abm i b j;rw[(?_:j5 _ _ (m b.heap.objs.size) _ _ _ _)];rw[Fm a'.1▸af.2 s y n _ A q h a a'.2 aY]⟩]|newGen C8 m aW=>rw[λC B c aL=>have af:=aW _ _ B c aL
   ⟨af.1,λs y n b A q h a j aY=>by
    have i:b.gens.size=t+gu C.bq:=by rw[U j.8<|U Fv<|U j.9 ?_];simp
    rw[(?_:j5 _ _ (m b.gens.size) _ _ _ _)];rw[Fm i▸af.2 s y n _ A q h a ⟨j.1,j.2,j.3,j.4,j.5,j.6,j.7,(congrArg (·.push<|.fresh C8) j.8).trans (by simp),j.9,j.10,j.11⟩ aY]⟩]|call g bl k2 E m aW=>
  cases bl
  case some=>rw[λC B c=>dN c]
  rw[λC B c aL=>d6 c λf i c=>have af:=aW (.ok f.1) f.2 B c aL
    have a':=rK g C f i af.1
    ⟨a'.1,λs y n b A q cz fs j aY=>Bh (λgG w B=>B.1▸af.2 s y n w A q cz fs B.2 aY)<|a'.2 s b q j (y.enter g aX n) n V (cz.enter g aX n (by intro f;rw[dN f]))<|fs n⟩]|_=>rw[λC B c=>dN c]
theorem C'{a9:Type}(rK:rM ſ v bo o t cE tW ca e4){D:Sem a9}{C:e5}{B:a9×e5}(c:iU ⟨ſ,ų v⟩ bo o t e4 D C=W B)(aL:kg B.2.d'):kg C.d'/\∀(s:cq)b(A:a9->au->Prop),s.depth+ca<f6->fk bo o t cE C b->(∀w,fk bo o t cE B.2 w->A B.1 w)->Y ſ v s D A b:=have m:=T4 rK D C B c aL
 ⟨m.1,λs b A q j aY y n cz cO aA=>m.2 s y n b _ q cz (λn f R=>dw R (λe=>e▸cO)<|aA f) j λu w h8=>aY w h8⟩
theorem rM.bF(rK:rM ſ v bo o t cE tW ca e4)(c:e4 g C=W B)(aL:kg B.2.d'):kg C.d'/\∀(s:cq)b(M:gO->au->Prop),s.depth+ca<f6->fk bo o t cE C b->(∀w,fk bo o t cE B.2 w->M B.1 w)->em ſ v s g M b:=have m:=rK g C B c aL
 ⟨m.1,λs b M q j cl y n aA cz fs=>Bh (λq w e=>e.1▸cl w e.2)<|m.2 s b q j y n aA cz fs⟩
theorem rM.of{g:iZ}{B:gO×e5}{s:cq}{b:au}(c:em ſ v s g (λJ w=>J=B.1/\fk bo o t cE B.2 w) b):∀y n,y.code=g->y.Below s->tW y.below->wpCode (cD ſ v) y (λq w=>q=.ok B.1/\fk bo o t cE B.2 w) n b:=λy n aA cz fs=>Bh (λq w e=>by cases q with|ok J=>rw[⟨congrArg _ e.1,e.2⟩]|error i=>rw[e.elim])<|c y n aA cz fs
theorem abo(c:TX f=W J):f=.func J:=by cases f with|func=>cases c;rfl|_=>rw[dN c]
theorem abp(c:T0 f=W J):f=.stmts J:=by cases f with|stmts=>cases c;rfl|_=>rw[dN c]
theorem abq(c:T1 f=W J):f=.ref J:=by cases f with|ref=>cases c;rfl|_=>rw[dN c]
theorem abr(c:TY f=W J):f=.str J.1 J.2:=by cases f with|str=>cases c;rfl|_=>rw[dN c]
theorem abt(c:TZ f=W J):∃N,f=.fields N/\(N[1]?:Option aF)=W (.str J.1 J.2):=by cases f with|fields N=>rw[d6 c λz i c=>(dj N V<|i.trans<|congrArg W<|abr c)]|_=>rw[dN c]
theorem Gv(c:k2 (!e)=W aG):e=be:=by
 cases e
 .rfl
 .rw[dN c]
theorem abu(c:fnOf bo g C=W B)(aL:kg B.2.2.2.2.d'):g=.call (.ref B.2.2.2.1) B.2.2.1/\B.1.scope.isGenerator=be/\B.1.scope.isCoroutine=be/\B.1.body=.stmts B.2.1/\kg C.d'/\∀b,fk bo o t cE C b->(∃k,b.heap.get? B.2.2.2.1=W k/\k.data=.func B.1)/\b.heap.CodeRec B.1.code B.1.qualname/\fk bo o t cE B.2.2.2.2 b:=by cases g with
 |call z gF=>cases z with
  |ref h=>rw[d6 c λf bH c=>d6 c λbp cm c=>d6 c λu eO c=>d6 c λu hu c=>d6 c λako rG c=>d6 c λC8 xr c=>d6 c λaG vD c=>d6 c λe qs c=>d6 c λu ú c=>?_];cases c;rwa[ds (@Prod.mk _ _ _ _)];intro dx;have am:=Gt (o:=o) (t:=t) (cE:=cE) vD aL;have cJ:=Gt (o:=o) (t:=t) (cE:=cE) bH am.1;rw[⟨V,Gv eO,Gv hu,abp rG,cJ.1,λb j=>⟨⟨f.1,(cJ.2 b j).1,abo cm⟩,((abt qs).elim λN m=>⟨C8,aG.1,N,e.2,abq xr,(am.2 b (cJ.2 b j).2).1,m.1,m.2.trans<|U (eq_of_beq<|sQ ú) V⟩),(am.2 b (cJ.2 b j).2).2⟩⟩]|_=>rw[dN c]
 |_=>rw[dN c]
theorem L7{g:iZ}(c:kq 3 g.weight=be):g.weight<=3:=sf λe=>nomatch c.symm.trans<|Fe e
theorem T5{lV:iZ->e5->Option (gO×e5)}{f:Fin×e5}{B:gO×e5}(c:L4 lV f=W B){aD:Prop}(af:f=(.done B.1,B.2)->aD)(am:∀g C,f=(.again g,C)->g.quiet=ag->lV g C=W B->aD):aD:=match f,c with|(.done c2,eR),c=>by cases c;rw[af V]|(.again bm,eR),c=>d6 c λu i c=>am bm eR V (sQ i) c
theorem sV(c:x+3*(J+1)<E)(aT:m<=3):x+m+3*J<E:=oy (.t (.a (.a .x .y)<|.m 3 .z) .w) [.t (.a .x<|.m 3<|.o .z) .w,.l .y<|.n 3] Z c aT
theorem abv(fs:∀c:e1,Sub bo c->c.NoLimit)(J):rM ſ v bo o t cE tW (3*J) (xC table ⟨ſ,ų v⟩ bo o t J):=by induction J with|zero=>rw[λg C B c u=>dN c]|succ J a3=>rw[λg C B c aL=>by have aW:=a3;replace c:L5 table ⟨ſ,ų v⟩ bo o t (xC table ⟨ſ,ų v⟩ bo o t J) g C=W B:=c;unfold L5 at c;cases bV:tV g||kq 3 g.weight with|true=>replace c:=bV▸c;rw[dN c]|false=>replace c:=bV▸c;have cO:=IB.mp bV;have z5:=L7 cO.2;cases bi:fnOf bo g C with
    |some z=>replace c:=bi▸c;rw[d6 c λaG nY c=>d6 c λf z6 c=>?_];have jM:=aW.bF c aL;have fi:=C' aW z6 jM.1;have cW:=C' aW nY fi.1;have m:=abu (o:=o) (t:=t) (cE:=cE) bi cW.1;rw[⟨m.2.2.2.2.1,λs b q j=>rM.of<|U m.1 ?_⟩];have fN:=m.2.2.2.2.2 b j;rw[fN.1.elim λk iN=>F6 (sV q (eQ 3)|>mA (hf _ _)) iN.1 iN.2 m.2.2.1 m.2.1 m.2.2.2.1 fN.2.1 (cW.2 s.in1 b _ (sV q<|eQ 3) fN.2.2 λas L9=>fi.2 s.in1 as _ (sV q<|eQ 3) L9 λar z7=>⟨fs _ z7.5,jM.2 s ar _ (sV q<|eQ 3) z7 λw h8=>⟨V,h8⟩⟩)]|none=>
     replace c:=bi▸c;rw[d6 c λf nY c=>T5 c (λe=>?_) λbm eR e aY ez=>?_]
     .subst e;have cW:=C' aW nY aL;rw[⟨cW.1,λs b q j=>rM.of<|em.my cO.1<|cW.2 (s.under g) b _ (sV q z5) j λw h8=>⟨V,h8⟩⟩]
     .subst e;have fi:=aW.bF ez aL;have cW:=C' aW nY fi.1;rw[⟨cW.1,λs b q j=>rM.of<|em.my cO.1<|cW.2 (s.under g) b _ (sV q z5) j λw h8=>⟨aY,fi.2 s w _ (sV q<|eQ 3) h8 λd_ û=>⟨V,û⟩⟩⟩]]
noncomputable def Da{a9:Type}:Option (a9×e5)->List aE|some q=>q.2.d'.map (·.2)|none=>[]
theorem abw{E:List<|aE×aE}:E.map (·.1)=E.map (·.2)->kg E:=by induction E with|nil=>intro fl;rw[aR]|cons h2 E a3=>
  obtain⟨h,a⟩:=h2;intro c;rw[λn aO=>by
   simp only[hU,List.cons.injEq]at c
   revert n;rwa[hg ?_]
   .rw[c.1]
   .intro n aO;rw[a3 c.2 n aO]]
theorem T6{a9 cN:Type}{eD:e5->cN}{k:Option<|a9×e5}{h:a9}{f:cN}(c:k.map (λq=>(q.1,eD q.2,q.2.d'.map (·.1)))=W (h,f,Da k)){aD:Prop}(m:∀eR,k=W (h,eR)->kg eR.d'->eD eR=f->aD):aD:=by cases k with|none=>rw[dN c]|some B=>have c:=Rl<|ek c;have X:=Rl c.2;rw[m B.2 (congrArg (λe=>W (e,B.2)) c.1) (abw X.2) X.1]
theorem abx{a9 cN:Type}{s:cq}{D:Sem a9}{b:au}{C:e5}{h:a9}{f:cN}{J:Nat}{eD:e5->cN}{A:a9->au->Prop}(fs:∀c:e1,Sub bo c->c.NoLimit)(ap:s.depth+3*J<f6)(ae:fk bo o t cE C b)(c:(iU ⟨ſ,ų v⟩ bo o t (xC nM ⟨ſ,ų v⟩ bo o t J) D C).map (λq=>(q.1,eD q.2,q.2.d'.map (·.1)))=W (h,f,Da<|iU ⟨ſ,ų v⟩ bo o t (xC nM ⟨ſ,ų v⟩ bo o t J) D C))(aY:∀eR w,fk bo o t cE eR w->eD eR=f->A h w):Y ſ v s D A b:=by rw[<-yL]at c;rw[T6 c λeR i aL I=>(C' (abv fs J) i aL).2 s b A ap ae λw h8=>aY eR w h8 I]
noncomputable abbrev T7:List (iZ×Pos)->Prop:=λu=>True
theorem L_{a9:Type}(rK:rM ſ v bo o t cE T7 ca e4){D:Sem a9}{C:e5}{B:a9×e5}(c:iU ⟨ſ,ų v⟩ bo o t e4 D C=W B)(aL:kg B.2.d'):kg C.d'/\∀(s:cq)b(A:a9->au->Prop)(aC:aF->au->Prop),s.depth+ca<f6->fk bo o t cE C b->(∀w,fk bo o t cE B.2 w->A B.1 w)->ce (cD ſ v) s D A aC b:=have m:=T4 rK D C B c aL
 ⟨m.1,λs b A aC q j aY y n cz=>mF _ y D (λu u u c=>c) (λu u u c=>c.elim) n b<|m.2 s y n b _ q cz (λu=>trivial) j λu w h8=>aY w h8⟩
def rN(lr:String->Option tl)(st:u0)(bo:BT)(o t:Nat):Nat->iZ->e5->Option (gO×e5)|0,cR,e3=>aX|J+1,g,C=>(k2<|!kq 3 g.weight).bind λu=>(iU st bo o t (rN lr st bo o t J) (yD lr g) C).bind<|L4<|rN lr st bo o t J
theorem aby(J):rM ſ v bo o t cE T7 (3*J) (rN table ⟨ſ,ų v⟩ bo o t J):=by induction J with|zero=>rw[λg C B c u=>nomatch c]|succ J a3=>
  rw[λg C B c aL=>by
   have aW:=a3;rw[d6 c λaG bV c=>d6 c λf nY c=>T5 (lV:=rN table ⟨ſ,ų v⟩ bo o t J) c (λe=>?_) λbm eR e aY ez=>?_]
   .subst e;have cW:=L_ aW nY aL;rw[⟨cW.1,λs b q j y n aA cz u=>Bl (R:=λq w=>q=.ok B.1/\fk bo o t cE B.2 w) (cW.2 (s.under g) b _ _ (sV q<|L7<|Gv bV) j λw h8=>⟨V,h8⟩) y n aA cz⟩]
   .subst e;have fi:=aW _ _ _ ez aL;have cW:=L_ aW nY fi.1;rw[⟨cW.1,λs b q j y n aA cz u=>Bl (R:=λq w=>q=.ok B.1/\fk bo o t cE B.2 w) (cW.2 (s.under g) b _ _ (sV q<|L7<|Gv bV) j λw h8=>⟨aY,λy n aA cz=>fi.2 s w (sV (m:=0) q<|eQ 3) h8 y n aA cz trivial⟩) y n aA cz⟩]]
theorem abz{a9 cN:Type}{s:cq}{D:Sem a9}{b:au}{C:e5}{h:a9}{f:cN}{J:Nat}{eD:e5->cN}{A:a9->au->Prop}(ap:s.depth+3*J<f6)(ae:fk bo o t cE C b)(c:(iU ⟨ſ,ų v⟩ bo o t (rN nM ⟨ſ,ų v⟩ bo o t J) D C).map (λq=>(q.1,eD q.2,q.2.d'.map (·.1)))=W (h,f,Da<|iU ⟨ſ,ų v⟩ bo o t (rN nM ⟨ſ,ų v⟩ bo o t J) D C))(aY:∀eR w,fk bo o t cE eR w->eD eR=f->A h w):ce (cD ſ v) s D A (λu u=>False) b:=by rw[<-yL]at c;rw[T6 c λeR i aL I=>(L_ (aby J) i aL).2 s b A _ ap ae λw h8=>aY eR w h8 I]
abbrev fh(v:cU):BT:=aa' aU (ų v)
def io{a9:Type}(bo:cU->BT)(D:Sem a9)(h:a9)(x:Nat):Prop:=∀(a:Bool)(v:cU)(m:Nat),(λz:cU=>nw ⟨aU,ų z⟩ (bo z) (xw nM ⟨aU,ų z⟩ (bo z) 30) D m=W (.ok h,m+x))<|v.withFollow "special-get-raises" a
theorem Gw(c:io bo D h x)(G:Sub (bo v) b.heap)(aY:A h {b with toks:=b.toks+x}):Y aU v s D A b:=by rw[aa9 (bo:=bo v) (J:=30) (x:=x) G (λm=>?_) aY];have:=c (v.params.followText "special-get-raises") v m;rw[B7]at this;rw[this]
theorem mj(c:io bo D h 0)(G:Sub (bo v) b.heap)(aY:A h b):Y aU v s D A b:=Gw c G aY
theorem abA:io fh (mroOf<|.ref 135) [.ref 135,.type "tuple",.type "object"] 0:=λa v m=>by cases a<;>cbv
theorem abB:io fh (Bind.madeBy<|.ref 135) aX 0:=λa v m=>by cases a<;>cbv
theorem T8:io fh (m' (.ref 135) "__init__") (W<|.builtin "object.__init__") 0:=λa v m=>by cases a<;>cbv
theorem abC:io fh (EK (.ref 135)<|.ref 135) ag 0:=λa v m=>by cases a<;>cbv
theorem abD:io fh (EK (.ref 135)<|.type "tuple") ag 0:=λa v m=>by cases a<;>cbv
theorem abE:io fh (Bind.madeHere "tuple.__new__"<|.ref 135) () 0:=λa v m=>by cases a<;>cbv
theorem abF:io fh (isType<|.ref 135) ag 0:=λa v m=>by cases a<;>cbv
theorem abG(h:aF):io fh (bindSpecial (.builtin "object.__init__") h) (.builtin "object.__init__",[h]) 0:=λa v m=>by cases a<;>cbv
theorem abH(f B C:aF):io fh (callAny (.ref 135) ⟨[f,B,C],[]⟩) (.again<|.call (.builtin "type.__call__") ⟨[.ref 135,f,B,C],[]⟩) 0:=λa v m=>by cases a<;>cbv
theorem abI:io fh (q0 (.ref 135) "__new__") (.ref 82) 1:=λa v m=>by cases a<;>cbv
theorem abJ(f B C:aF):io fh (callAny (.builtin "type.__call__") ⟨[.ref 135,f,B,C],[]⟩) (.again<|.builtin "type.__call__" ⟨[.ref 135,f,B,C],[]⟩) 0:=λa v m=>by cases a<;>cbv
def vN{a9 cN:Type}(J:Nat)(bo:cU->BT)(o t:Nat)(D:Sem a9)(C:Nat->e5)(h:a9)(eD:e5->cN)(f:Nat->cN):Prop:=∀(a:Bool)(v:cU)(m:Nat),(λz:cU=>(iU ⟨aU,ų z⟩ (bo z) o t (xC nM ⟨aU,ų z⟩ (bo z) o t J) D<|C m).map (λq=>(q.1,eD q.2,q.2.d'.map (·.1)))=W (h,f m,Da<|iU ⟨aU,ų z⟩ (bo z) o t (xC nM ⟨aU,ų z⟩ (bo z) o t J) D<|C m))<|v.withFollow "special-get-raises" a
theorem T9(c:vN J bo o t D C h eD f)(fs:∀c:e1,Sub (bo v) c->c.NoLimit)(ap:s.depth+3*J<f6)(ae:fk (bo v) o t cE (C b.toks) b)(aY:∀eR w,fk (bo v) o t cE eR w->eD eR=f b.toks->A h w):Y aU v s D A b:=by rw[abx fs ap ae ?_ aY];have:=c (v.params.followText "special-get-raises") v b.toks;rw[B7]at this;rw[this]
theorem abK(h o t:Nat)(f B C:aF)(k:Option aE)(x:Data):vN 10 fh o t (call (.builtin "object.__init__") [.ref h,f,B,C]) (λm=>⟨[(h,{cls:=.ref 135,dict:=k,data:=x})],0,m,[1,0,1,0,0,0,0,0],[],[]⟩) .none (λC=>(C.m,C.bq,C.objs)) (λm=>(0,[],[(h,{cls:=.ref 135,dict:=k,data:=x})])):=λa v m=>by cases a<;>cbv
theorem fk.start{bo:BT}{K:List<|aE×Obj}{O:List Nat}(G:Sub bo b.heap)(rO:∀n∈K,b.heap.get? n.1=W n.2)(ak:(K.map (·.1)).Nodup)(aL:∀n∈K,∀k dh,bo.get n.1=W k->hW k=W dh->False):fk bo b.heap.objs.size b.gens.size b ⟨K,0,b.toks,O,[],[]⟩ b:=⟨(V),(V),(λj a k i=>rO (a,k)<|j3 i),(ak),(G),(aL),(λu u u i=>i),(by rfl),(V),(V),(V)⟩
theorem fk.grow{bo:BT}{K:List aE}{C:e5}{w:au}(j:fk bo b.heap.objs.size b.gens.size b C w)(rO:∀n∈C.objs,n.1∈K\/b.heap.objs.size<=n.1):bb K [] b w:=⟨(λa k l i=>j.7 a k (λn aO e=>(rO n aO).elim (λc=>l<|e▸c) λc=>ia _<|cg (dK i)<|e▸c) i),(Rm j.1.symm),(λQ f u i=>by rwa[U j.8];rw[(QK (JH.mp i).1).trans i]),(by rwa[U j.8<|U Fv];rw[hf _ _]),(λc B a8=>by
  rw[j.8,QL]at a8;rcases a8 with a8|a8
  .rw[c B a8]
  .simp only[Jx,la]at a8;obtain⟨g,_,rfl⟩:=a8;rfl),(j.10)⟩
theorem fk.same(j:fk bo b.heap.objs.size b.gens.size b C w)(rO:∀n∈C.objs,b.heap.get? n.1=W n.2\/b.heap.objs.size<=n.1):bK [] b w:=⟨(λa k u i=>by
  by_cases l:∃n∈C.objs,n.1=a
  .obtain⟨n,aO,rfl⟩:=l;obtain⟨Q,cu⟩:=Qf aO;rcases rO n aO with c|c
   .replace i:=c▸i;cases i;rw[j.3 Q _ _ cu]
   .rw[b2 (dK i) c]
  .rw[j.7 a k (λn aO e=>l<|dj n aO e) i]),(Rm j.1.symm),(λQ f u i=>by rwa[U j.8];rw[(QK (JH.mp i).1).trans i]),(by rwa[U j.8<|U Fv];rw[hf _ _]),(λc B a8=>by
  rw[j.8,QL]at a8;rcases a8 with a8|a8
  .rw[c B a8]
  .simp only[Jx,la]at a8;obtain⟨g,_,rfl⟩:=a8;rfl),(j.10)⟩
theorem Gx{a9:Type}{ſ:cM}{v:cU}{s:cq}{aC:aF->au->Prop}{D:Sem a9}{b:au}{h:Nat->a9}{x:Nat}{A:a9->au->Prop}(c:∀st m,nw st .nil (λu u=>aX) D m=W (.ok<|h m,m+x))(aY:A (h b.toks) {b with toks:=b.toks+x}):ce (cD ſ v) s D A aC b:=λy n u=>Go (bo:=.nil) (e4:=λu u=>aX) (b:=b) (λa k dh i=>nomatch i) (λg m q aA=>nomatch aA) D y _ _ b.toks _ n (c _ _) λu=>aY
noncomputable def Db(a6:List Bool):Str:=⟨(a6.map λa=>bif a then 49 else 48).toArray⟩
noncomputable def valOf(a6:List Bool):Int:=a6.foldl (λh a=>2*h+(bif a then 1 else 0)) 0
noncomputable def z8:Nat->List (List Bool)|0=>[[]]|o+1=>(z8 o).map (pY be)++(z8 o).map (pY ag)
theorem Gy:∀E:List Bool,E∈z8 (gu E)|[]=>hG.mpr V|false::E=>u3 _<|y6<|Gy E|true::E=>wz _<|y6<|Gy E
theorem abL{ſ:cM}{v:cU}{s:cq}{aC:aF->au->Prop}{b:au}{D aG:Tok}{a6:List Bool}(l:gu a6=8){A:aF->au->Prop}(c:A (.int (valOf a6) b.toks) {b with toks:=b.toks+1}):ce (cD ſ v) s (call (.type "int") [.str (Db a6) D,.int 2 aG]) A aC b:=IS F.called_int F.newNe_int (by cbv) (by cbv) (λnX=>JR nX _ _) F.entry_int_new (S:=λu ca b=>ca (.ok<|.ret<|.int (valOf a6) b.toks) {b with toks:=b.toks+1}) (λſ v s ca b aY=>Gx (λst m=>(List.map_inj_left.mp ((show(z8 8).map (λa6=>nw st .nil (λu u=>aX) (Builtin.«int.__new__» ⟨[.type "int",.str (Db a6) D,.int 2 aG],[]⟩) m)=(z8 8).map λa6=>W (.ok<|.done<|.ret<|.int (valOf a6) m,m+1)from(by cbv))) _<|l▸Gy a6)) aY) ⟨yE _ _ _,c⟩
theorem T_:mroOf (.type "map")=pure [.type "map",.type "object"]:=by rwa[U (mroOf_type ..)];cbv
theorem abM(aw:b.heap.IsList cw bv)(ew:cq)(nt:aF->au->Prop)(ca:PySem.Fin->au->Prop)(i2:∀aN a1 ai X ab,qr X aN a1 ai cw bv 0->(aB b)<=aN->(aB b)<=a1->(aB b)<=ai->aN≠ai->a1≠ai->(∀a k,b.heap.get? a=W k->Ű X a=W k)->ca (.done<|.ret<|.ref aN) {b with heap:=X,toks:=ab}):ce (cD ſ v) ew (Builtin.«map.__new__» ⟨[.type "map",.type "str",.ref cw],[]⟩) ca nt b:=by
  rwa[ng (by unfold Rn;rfl)];try dsimp only
  rwa[ng (h:=()) (by first|rfl|cbv)];try dsimp only
  rw[pd (by simp)<|bc (m:=Ro [fv cw])<|bc<|bc<|kQ<|EL aw<|cr<|cr<|cr ?_];have ae:(b.heap.push {cls:=.type "list_iterator",data:=.fields #[.ref cw,.int 0 0]}).objs.size=(aB b)+1:=f' ..;have d9:Ű (b.heap.push {cls:=.type "list_iterator",data:=.fields #[.ref cw,.int 0 0]}) (aB b)=W {cls:=.type "list_iterator",data:=.fields #[.ref cw,.int 0 0]}:=fu _ V;have cW:∀a k,b.heap.get? a=W k->Ű (b.heap.push {cls:=.type "list_iterator",data:=.fields #[.ref cw,.int 0 0]}) a=W k:=λa k i=>eY _ i;generalize(b.heap.push {cls:=.type "list_iterator",data:=.fields #[.ref cw,.int 0 0]})=bw at*;rw[bc (m:=newTuple [fv<|aB b])<|Bw<|bc (m:=J3 (j6 "map") [fv bw.objs.size,j6 "str"]) ?_];unfold J3;rw[jE<|cr ?_];have xD:(bw.push {cls:=.type "tuple",data:=.seq #[fv<|aB b]}).objs.size=(aB b)+2:=U (f' ..)<|U ae V;rw[i2 _ bw.objs.size (aB b) _ _ ⟨fu _ V,⟨0,eY _<|fu _ V⟩,⟨_,eY _<|eY _ d9,V,V⟩,aw.at λk i=>eY _<|eY _<|cW _ k i⟩ ?_ ?_ (dr _) ?_ ?_ λa k i=>eY _<|eY _<|cW a k i];all_goals(try simp only[f',ae])
  all_goals(first|(show@LE.le Nat _ _ _;(first|rw[j2 _]|rw[bM (.l .x<|.o<|.o .x) [] Z]))|(show@Ne Nat _ _;lia))
theorem abN(aw:b.heap.IsList cw bv)(c:∀aN a1 ai X ab,qr X aN a1 ai cw bv 0->(aB b)<=aN->(aB b)<=a1->(aB b)<=ai->aN≠ai->a1≠ai->(∀a k,b.heap.get? a=W k->Ű X a=W k)->A (.ref aN) {b with heap:=X,toks:=ab}):ce (cD ſ v) s (call (.type "map") [.type "str",.ref cw]) A aC b:=by rw[IS (⟨by decide+kernel,by decide+kernel,(kR _ _ T_),madeBy_type T_ (by rwa[U (h_ ..)<|U h'];cbv) (by decide+kernel),by decide+kernel,(by rwa[U (k_ ..)];cbv),(.of (owner:="object") (n:="__init__") (by rwa[U (h_ ..)<|U h'];cbv) (by decide+kernel) (by decide+kernel) (by decide+kernel) (by first|rw[.inl (by decide+kernel)]|rw[.inr (by decide+kernel)]) (by rwa[U (k_ ..)];cbv))⟩) (show(W "map.__new__"!=W "object.__new__")=ag from(by decide+kernel)) (V) (by cbv) (λnX=>JR nX _ _) (nK V) (S:=λu ca w=>w=b/\∀aN a1 ai X ab,qr X aN a1 ai cw bv 0->(aB b)<=aN->(aB b)<=a1->(aB b)<=ai->aN≠ai->a1≠ai->(∀a k,b.heap.get? a=W k->Ű X a=W k)->ca (.ok<|.ret<|.ref aN) {b with heap:=X,toks:=ab}) ?_ ⟨V,λaN a1 ai X ab bk h a g x i J=>⟨⟨_,bk.1,V⟩,c aN a1 ai X ab bk h a g x i J⟩⟩];rintro ü ý ew ca w⟨rfl,i2⟩;rw[abM aw ew.in1 _ _ i2]
theorem Gz(b:au):kM b b:=⟨b.heap,b.toks,V,λu u i=>i⟩
theorem xE(b:au)(ab:Nat):kM b {b with toks:=ab}:=⟨b.heap,ab,V,λu u i=>i⟩
theorem xF(m:∀a k,b.heap.get? a=W k->Ű X a=W k):kM b {b with heap:=X,toks:=ab}:=⟨X,ab,V,m⟩
theorem oR(f:kM h a)(B:kM a g):kM h g:=by rw[fW f λaf t1 bN i5=>?_];obtain rfl:=bN;rw[fW B λam t2 cB ff=>?_];obtain rfl:=cB;rw[⟨am,t2,V,λa k i=>ff a k<|i5 a k i⟩]
theorem vO(f:kM h a):∀n k,Ű (Q7 h) n=W k->Ű (Q7 a) n=W k:=by rw[fW f λaf t1 dt i5=>U dt i5]
def sW(M:au->Prop):Prop:=∀b w,M b->kM b w->M w
def Dc(al:au->aF->Prop):Prop:=∀b w g,al b g->kM b w->al w g
def g'(ſ:cM)(v:cU)(s:cq)(aC:aF->au->Prop)(p:Env)(M:au->Prop)(i:bJ)(al:au->aF->Prop):Prop:=∀b(A:aF->au->Prop),M b->(∀g w,kM b w->al w g->A g w)->ce (cD ſ v) s (ee i p) A aC b
def xG(ſ:cM)(v:cU)(s:cq)(aC:aF->au->Prop)(p:Env)(M:au->Prop)(az:List bJ)(al:au->List aF->Prop):Prop:=∀b(A:List aF->au->Prop)(ax:Pos),M b->(∀aV w,kM b w->al w aV->A aV w)->ce (cD ſ v) s (pT<|kp ax<|j1 az p) A aC b
theorem GA:g' ſ v s aC p M (.Constant (.int j) m ax) (hC j):=λb A u aj=>uW<|aj _ _ (xE ..) ⟨_,V⟩
theorem T'(c:pl M p f z)(bl:(f==("__debug__":Str))=be:=by decide):g' ſ v s aC p M (.Name f ax) (λu g=>g=z):=λb A G aj=>by
 rw[c0 c λeh c=>c0 eh λaT R=>bt (c b G) λhD aI fd=>?_];obtain aQ|⟨aQ,ix,l,pm⟩:=fd
 .rw[FD aT R (Q' aI aQ<|aj _ _ (Gz b) V) bl]
 .rw[FD aT R (Ra aI aQ l pm<|aj _ _ (Gz b) V) bl]
theorem GB:xG ſ v s aC p M [] (λu aV=>aV=[]):=λb A ax G aj=>cr<|aj _ _ (Gz b) V
theorem z9(ak:dS i=ag)(cl:sW M)(c:g' ſ v s aC p M i al)(aQ:Dc al)(G:xG ſ v s aC p M az KM):xG ſ v s aC p M (i::az) (λb aV=>∃g q,aV=g::q/\al b g/\KM b q):=λb A ax aO aj=>by rw[Fm (kV ak)▸bc (c b _ aO λg as aK cW=>lH<|kQ<|G as _ ax (cl _ _ aO aK) λaV ar a7 fi=>cr<|aj _ ar (oR aK a7)<|ie g aV V (aQ _ _ _ cW a7) fi)]
theorem abO(ak:az.all dS=ag)(c:xG ſ v s aC p M az al)(G:M b)(aj:∀aV w,kM b w->al w aV->A ⟨aV,[]⟩ w):ce (cD ſ v) s (evalArgs J ag (kp ax<|j1 az p) []) A aC b:=by have cK:=c b _ ax G aj;cases az with|nil=>rw[bc<|se cK (λN w X=>lH<|kK<|lH<|lH<|cr X) λu u f=>f]|cons i az=>rw[on,ir]at ak;rw[kV ak.1]at cK⊢;rw[bc<|se cK (λN w X=>lH<|kK<|lH<|lH<|cr X) λu u f=>f]
theorem Ua(bi:Cm J=ag)(ak:az.all dS=ag)(c:xG ſ v s aC p M az al)(G:M b)(aA:∀aV w,kM b w->al w aV->ce (cD ſ v) s (eS J (lN++aV) []) A aC w):ce (cD ſ v) s (qV ax J lN (kp Cn<|j1 az p) []) A aC b:=by
 rw[kQ<|abO ak c G λaV as aK cW=>bc<|qU<|U (zv ak ..)<|U (y4 ..)<|U (tk ..) ?_];have aT:tp J=dB .machine:=by cases J<;>first|rfl|rw[iJ bi]
 rw[U aT<|lH<|bc<|se (aA aV as aK cW) (λq ar ap=>kQ<|pS<|cr ap) λu u f=>f]
def xH(ſ:cM)(v:cU)(s:cq)(aC:aF->au->Prop)(D:Sem aF)(al:au->aF->Prop)(b:au):Prop:=∀A:aF->au->Prop,(∀g w,kM b w->al w g->A g w)->ce (cD ſ v) s D A aC b
theorem GC(cl:sW M)(aI:pl M p f J)(bi:Cm J=ag)(c:xG ſ v s aC p M az al)(aA:∀b aV,M b->al b aV->xH ſ v s aC (eS J aV []) di b)(ak:az.all dS=ag:=by rfl)(bl:(f==("__debug__":Str))=be:=by decide):g' ſ v s aC p M (.Call (.Name f Sz) az [] ax) di:=λb A G aj=>by .rw[bc<|T' aI bl b _ G λg as aK cW=>U cW<|Ua bi ak c (cl _ _ G aK) λaV ar a7 fi=>aA ar aV (cl _ _ G<|oR aK a7) fi _ λq co b4 jM=>aj q co (oR (oR aK a7) b4) jM]
theorem GD(cl:sW M)(bw:g' ſ v s aC p M E kw)(aQ:Dc kw)(bO:g' ſ v s aC p M q oB)(ro:∀b h a,M b->kw b h->oB b a->xH ſ v s aC (yG oC h a) al b):g' ſ v s aC p M (.BinOp E oC q ax) al:=λb A G aj=>IP<|bw b _ G λh as aK cW=>bO as _ (cl _ _ G aK) λa ar a7 fi=>ro ar h a (cl _ _ G<|oR aK a7) (aQ _ _ _ cW a7) fi _ λg co b4 jM=>aj g co (oR (oR aK a7) b4) jM
theorem L'(j:Int):Dc (hC j):=λu u u c u=>c
theorem Ub(cl:sW M)(bw:g' ſ v s aC p M E<|hC h)(bO:g' ſ v s aC p M q<|hC a):g' ſ v s aC p M (.BinOp E .Add q ax) (hC<|h+a):=GD cl bw (L' h) bO (by rintro b _ _-gS gT A aj;rw[c1 gS λD hK=>?_];rwa[U hK];rw[c1 gT λaG jp=>?_];rwa[U jp];rw[Re<|aj _ _ (xE ..)<|ov _ V])
theorem abP(cl:sW M)(bw:g' ſ v s aC p M E<|hC h)(bO:g' ſ v s aC p M q<|hC a):g' ſ v s aC p M (.BinOp E .Sub q ax) (hC<|h-a):=GD cl bw (L' h) bO (by rintro b _ _-j' kW A aj;rw[c1 j' λD mR=>?_];rwa[U mR];rw[c1 kW λaG n2=>?_];rwa[U n2];rw[Rf<|aj _ _ (xE ..) ⟨_,V⟩])
section
open PySem PySem.W PyProof.Rows Builtin
theorem Uc{h bz:aE}{a:Array UInt8}{E aG:aF}{lo T:Option Int}{A:aF->au->Prop}(aL:b.heap.get? h=W (c9 a))(ih:b.heap.IsSliceOf bz E aG .none)(aw:uY E lo)(dX:uY aG T)(ae:a.size<=cy)(c:A (.ref<|aB b) {b with heap:=b.heap.push<|c9<|zg a lo T}):ce (cD ſ v) s (getItem (.ref h)<|.ref bz) A aC b:=by
 obtain⟨k,rP,aA,bl⟩:=ih;have cV:b.TypeIs (.ref bz) "slice":=⟨k,rP,aA⟩;rw[kK<|bc<|Bj (g5 aL) bf ?_];rw[sv ?_];intro tZ;rw[bc<|nL (name:=mG "__getitem__") (g5 aL) wR (kL wR (g5 aL) R6 ?_<|R7 _ _)];rw[jm ?_];intro jI;rw[(?_:ce _ _ (Bytes.subscript? (.ref bz)>>=λq=>_) _ _ b)];rw[sv ?_];intro tZ;rw[bc<|bc<|iu cV slice_no_index<|cr<|bc<|yF cV<|bc<|iH (f:=.none) rP bl V ?_]
 kby_none;rw[jm ?_];intro jI;rw[wpAny_ite<|KBy.ite_no (wn:¬((q3==hT 0)=ag))<|iH (f:=E) rP bl V ?_];have d4:(zg a lo T).size<=sizeLine:=a5 (KBc.size_picked_le a _ _) ae;have lV:ce (cD ſ v) s.in1 (sliceIndices (rawPart lo) (rawPart T) (rawPart aX) a.size) (λq w=>q=sliceBounds lo T aX a.size/\w=b) (λu u=>False) b:=r' (sliceIndices_raw lo T aX a.size<|λi=>nomatch i) ⟨V,V⟩;cases aw<;>cases dX<;>(first|(kby_none;(rwa[iH (f:=.none) rP bl V]);kby_none)|(kby_none;(rwa[iH (f:=.int _ _) rP bl V]);kby_int)|(kby_int;(rwa[iH (f:=.none) rP bl V]);kby_none)|(kby_int;(rwa[iH (f:=.int _ _) rP bl V]);kby_int))<;>rw[cr ?_];all_goals rw[bc<|zr aL<|bc<|se lV (λq w ap=>?_) λu u i=>i.elim];obtain⟨Cz,zJ⟩:=ap;subst Cz zJ;rw[bc<|jE (cr<|dj _ V<|cr c) d4]
end
section
open PySem PySem.W PyProof.Rows Builtin
theorem z_:yM "bytearray_iterator" "__next__" "bytearray_iterator.__next__":=.of (owner:="bytearray_iterator") (n:="__next__") (by rwa[U (h_ ..)<|U h'];cbv) (by decide+kernel) (by decide+kernel) (by decide+kernel) (by first|rw[.inl (by decide+kernel)]|rw[.inr (by decide+kernel)]) (by rwa[U (k_ ..)];cbv)
theorem Ud:yM "bytearray_iterator" "__iter__" "bytearray_iterator.__iter__":=.of (owner:="bytearray_iterator") (n:="__iter__") (by rwa[U (h_ ..)<|U h'];cbv) (by decide+kernel) (by decide+kernel) (by decide+kernel) (by first|rw[.inl (by decide+kernel)]|rw[.inr (by decide+kernel)]) (by rwa[U (k_ ..)];cbv)
theorem Ue(h:aF):ko "bytearray_iterator.__next__" ⟨[h],[]⟩:=by unfold ko;cbv
theorem abQ(h:aF):ko "bytearray_iterator.__iter__" ⟨[h],[]⟩:=by unfold ko;cbv
inductive vP(c:e1)(bE h:aE)(a:Array UInt8)(j:Nat):Prop|mk(f2:Ű c bE=W {cls:=.type "bytearray_iterator",data:=.fields #[.ref h,hT j]})(f3:Ű c h=W (c9 a)):vP c bE h a j
theorem abR(aL:b.heap.get? h=W (c9 a))(aj:vP (b.heap.push {cls:=.type "bytearray_iterator",data:=.fields #[.ref h,hT (0:Nat)]}) (aB b) h a 0->A (.ref<|aB b) {b with heap:=b.heap.push {cls:=.type "bytearray_iterator",data:=.fields #[.ref h,hT (0:Nat)]}}):ce (cD ſ v) s (ol<|.ref h) A aC b:=by rw[IR (g5 aL) R9<|kL R9 (g5 aL) ZK (?_:ce _ _ (do ret<|<-newFields "bytearray_iterator" [.ref h,hT 0]) _ _ b)<|ZL _];rw[bc<|jE<|cr<|dj _ V<|ie "bytearray_iterator" _ ⟨_,fu _ V,V⟩ z_.lookup<|aj ⟨fu _ V,eY _ aL⟩]
theorem abS(f:vP b.heap bE h a j)(c:A (.ref bE) b):ce (cD ſ v) s (ol<|.ref bE) A aC b:=by have cV:b.TypeIs (.ref bE) "bytearray_iterator":=⟨_,f.1,V⟩;rw[IR cV Ud<|kL Ud cV (IE (id':="dict_keyiterator.__iter__") V V (by decide+kernel) V) (cr<|dj _ V<|ie "bytearray_iterator" _ cV z_.lookup c)<|abQ _]
theorem abT(f:vP b.heap bE h a j)(R:a[j]?=W g)(aj:∀X,vP X bE h a (j+1)->iE bE b.heap X->A (W<|.int (g.toNat) b.toks) {b with heap:=X,toks:=b.toks+1}):ce (cD ſ v) s (oj<|.ref bE) A aC b:=by
 have cV:b.TypeIs (.ref bE) "bytearray_iterator":=⟨_,f.1,V⟩;obtain⟨T,aS⟩:=f;have c_:bE≠h:=λe=>by rw[e,aS]at T;have af:=congrArg (λk:Option Obj=>k.map (·.cls)) T;simp[c9]at af
 rw[bc<|uX<|nL cV z_ (kL z_ cV (nK V) ?_<|Ue _)];rw[(?_:ce _ _ (field (.ref bE) 0>>=_) _ _ b)];rw[iH T V (f:=.ref h) V<|ou aS<|iH T V (f:=.int j 0) V ?_];simp only[hF,R];rw[bc<|yP T (dr _) λX gc G=>bc<|uW<|cr<|dj _ V<|cr<|aj X ⟨gc,(G.2 h<|ib c_).trans aS⟩ G]
theorem abU(cO:s.handled=aX)(f:vP b.heap bE h a j)(R:a[j]?=aX)(aj:∀X,B1 bE b.heap X->A aX {b with heap:=X}):ce (cD ſ v) s (oj<|.ref bE) A aC b:=by have cV:b.TypeIs (.ref bE) "bytearray_iterator":=⟨_,f.1,V⟩;obtain⟨T,aS⟩:=f;rw[bc<|uX<|nL cV z_ (kL z_ cV (nK V) ?_<|Ue _)];rw[jm ?_];intro jI;rw[(?_:ce _ _ (field (.ref bE) 0>>=_) _ _ b)];rw[iH T V (f:=.ref h) V<|ou aS<|iH T V (f:=.int j 0) V ?_];simp only[hF,R];rw[bc<|mv<|bc<|wpAny_setField T V (by simp)<|bc<|wo<|bc<|bc<|jE (bc (m:=IT _ _)<|r' (a:=q3) (by first|rfl|(simp only[IT];rfl))<|jE (bc<|wpAny_handled<|iG (U (cO:s.in1.handled=aX) V)<|lH<|wpAny_throw ?_) (by size_fits)) (by size_fits)];rwa[bc<|sa ⟨_,fu _ V,V⟩ IQ];rw[cr<|aj _<|((tF ..).extBut.push _).push _]
theorem abV(cO:s.handled=aX)(an h:aE)(a:Array UInt8):Walks ſ v s an [an,h] [an] a.size (λj z=>∃g aG,a[j]?=W g/\z=.int (g.toNat) aG) (λj c=>vP c an h a j):=⟨(λu l=>by rwa[U (bg l)];rw[bB]),(λu u u st aT=>⟨aT an (bB) _ st.1,aT h (mt bB) _ st.2⟩),(λj b A aC T st aj=>by rw[abT st (g:=a[j]) (by simp[T]) λX þ dy=>?_];rw[aj _ X (b.toks+1) (vg _ _ (by simp[T]) V) þ λa k l i=>dy.extBut a k (λc=>l (by simp[c])) i]),(λb A aC st aj=>abU cO st (by simp) λX uw=>aj X b.toks λa k l i=>uw a k (λc=>l (by simp[c])) i),(λu u u u st aj=>abS st aj)⟩
end
section
open PySem PySem.W PyProof.Rows Builtin
theorem abW(ap:b.heap.get? q=W (c9 a))(c:A be b):ce (cD ſ v) s (Builtin.List.listLengthHint<|.ref q) A aC b:=by
 rw[bc<|iu (g5 ap) Kp.lookup<|ds (@Bind.bind _ _ _ _ _ _) ?_];intro dx;generalize Uf:("bytearray.__len__":String)=abi
 wp_delta;rw[(Fm (by subst Uf;decide+kernel:splitId abi=W ("bytearray","__len__")))▸?_];subst Uf;rwa[bc<|sa (b:=ag) (g5 ap) (by rwa[U (k_ ..)];cbv)];rw[IU (λC_=>absurd C_ bf)<|λu=>IU (λu=>bc<|yF (g5 ap)<|cr c)<|λC_=>absurd ji C_]
def Ma(a:Array UInt8):Nat->aF->Prop:=λj z=>∃g aG,a[j]?=W g/\z=.int (g.toNat:Int) aG
theorem abX(cO:s.handled=aX)(ap:b.heap.get? q=W (c9 a))(cp:a.size<=2^24)(fL:aE)(p9:aF)(Uh:Nat)(i4:b.heap.get? fL=W {cls:=.type "list",data:=.seq #[] Uh})(i2:∀X ab gy bm,(∀a k,a≠fL->b.heap.get? a=W k->Ű X a=W k)->Ű X fL=W {cls:=.type "list",dict:=aX,data:=.seq gy bm,slots:=#[]}->yN (Ma a) gy a.size->ca (.ok<|.ret p9) {b with heap:=X,toks:=ab}):ce (cD ſ v) s.in1 (JZ (.ref fL) (.ref q) p9) (λgv w=>match gv with|.done J=>ca (.ok J) w|.again bm=>bm.quiet=ag/\Bg (cD ſ v) s bm ca w) (λi w=>ca (.error i) w) b:=by
 have Dd:fL≠q:=λi=>by rw[i,ap]at i4;have af:=congrArg (λk:Option Obj=>k.map (·.cls)) i4;simp[c9]at af
 have Gs:fL≠b.heap.objs.size:=gQ<|dK i4;have vn:fL∉[b.heap.objs.size,q]:=λbk=>dw bk Gs λbk=>Dd<|bg bk;have cK:∀(c:e1)(e2 ab:Nat),vP c b.heap.objs.size q a 0->(∀a k,a≠fL->b.heap.get? a=W k->Ű c a=W k)->Ű c fL=W {cls:=.type "list",data:=.seq #[] e2}->Bg (cD ſ v) s (.builtin "list.extend.loop" ⟨[.ref fL,.ref b.heap.objs.size,p9],[]⟩) ca {b with heap:=c,toks:=ab}:=by intro c e2 ab f9 aT vK;rw[PM ((abV (s:=s.in1) cO b.heap.objs.size q a).toS) (by rwa[U E6];omega) fL vn p9 a.size 0 _ #[] e2 V (eQ _) f9 vK (Rk _) λw gy bm bk xB i9=>?_];rw[U (Rr bk)<|i2 w.heap w.toks gy bm (λa k l i=>bk.heap a k (λls=>dw ls (λcP=>l cP) λls=>absurd (dK i)<|bg ls▸ia _)<|aT a k l i) xB i9]
 rwa[bc<|yF (g5 ap)];have af:FG (.ref fL) (.ref q)=be:=by simp[FG,Dd]
 have am:(j6 "bytearray"==j6 "list")=be:=bf;have a':(j6 "bytearray"==j6 "tuple")=be:=bf;simp only[af,am,a',tk,EH,if_false];rw[bc<|abR ap λMb=>kQ<|abW (eY _ ap) ?_];have vK:=eY {cls:=.type "bytearray_iterator",data:=.fields #[.ref q,hT (0:Nat)]} i4;rw[IU (λu=>?_)<|λu=>cr ⟨o8 JQ _,cK _ Uh _ Mb (λa k u i=>eY _ i) vK⟩];rw[bc<|mv<|bc<|bc<|yO vK V<|tX ?_];intro vL;have xA:=nP (jG (·.push q3)) vK V;rw[yO xA V<|tX ?_];intro vL;have ux:∀a k,a≠fL->Ű (b.heap.push {cls:=.type "bytearray_iterator",data:=.fields #[.ref q,hT (0:Nat)]}) a=W k->Ű (((b.heap.push {cls:=.type "bytearray_iterator",data:=.fields #[.ref q,hT (0:Nat)]}).update fL (jG (·.push q3))).update fL (jG (·.pop))) a=W k:=λa k l i=>(sm _ _<|ib l).trans<|(sm _ _<|ib l).trans i;rw[cr ⟨o8 JQ _,cK _ _ _ ⟨ux _ _ (ib Gs) Mb.1,ux _ _ (ib Dd) Mb.2⟩ (λa k l i=>ux a k l<|eY _ i) (nP (jG (·.pop)) xA V)⟩]
theorem abY(cO:s.handled=aX)(ap:b.heap.get? q=W (c9 a))(cp:a.size<=2^24)(fL:aE)(i4:b.heap.get? fL=W {cls:=.type "list",data:=.seq #[]})(i2:∀X ab gy bm,(∀a k,a≠fL->b.heap.get? a=W k->Ű X a=W k)->Ű X fL=W {cls:=.type "list",dict:=aX,data:=.seq gy bm,slots:=#[]}->yN (Ma a) gy a.size->ca (.ok<|.ret .none) {b with heap:=X,toks:=ab}):ce (cD ſ v) s.in1 (YM ⟨[.ref fL,.ref q],[]⟩) (λgv w=>match gv with|.done J=>ca (.ok J) w|.again bm=>bm.quiet=ag/\Bg (cD ſ v) s bm ca w) (λi w=>ca (.error i) w) b:=by
 rw[jm ?_];intro jI;have Dd:fL≠q:=λi=>by rw[i,ap]at i4;have af:=congrArg (λk:Option Obj=>k.map (·.cls)) i4;simp[c9]at af
 show ce _ _ (do let rr<-Builtin.List.listItems<|.ref fL;Builtin.List.listUpdate (.ref fL)<|λu=>#[];letGo rr.toList.reverse;JZ (.ref fL) (.ref q) .none) _ _ b;rw[bc<|bc<|ts i4 V<|cr<|bc<|yO i4 V ?_];have xA:=nP (jG<|λu=>(#[]:Array aF)) i4 V;have ux:∀a k,a≠fL->b.heap.get? a=W k->Ű (b.heap.update fL<|jG<|λu=>(#[]:Array aF)) a=W k:=λa k l i=>(sm _ _<|ib l).trans i;rw[bc<|wo<|abX cO (ux q _ (ib Dd) ap) cp fL .none _ xA λX ab gy bm aT xB i9=>i2 X ab gy bm (λa k l i=>aT a k l<|ux a k l i) xB i9]
theorem Ui(cO:s.handled=aX)(ap:b.heap.get? q=W (c9 a))(cp:a.size<=2^24)(aj:∀X ab gy bm,(∀a k,b.heap.get? a=W k->Ű X a=W k)->Ű X b.heap.objs.size=W {cls:=.type "list",dict:=aX,data:=.seq gy bm,slots:=#[]}->yN (Ma a) gy a.size->A (.ref b.heap.objs.size) {b with heap:=X,toks:=ab}):ce (cD ſ v) s (call (.type "list") [.ref q]) A aC b:=by rw[callType_codes (Q₁:=λnX as=>nX=.ref b.heap.objs.size/\as={b with heap:=b.heap.push {cls:=.type "list",data:=.seq #[]}}) F.called_list (F.typeCall_list_1 _) F.entry_list_init (code_list_new _ ⟨V,V⟩) λnX as bw=>?_];obtain⟨rfl,rfl⟩:=bw;have i4:Ű (b.heap.push {cls:=.type "list",data:=.seq #[]}) b.heap.objs.size=W {cls:=.type "list",data:=.seq #[]}:=fu _ V;rw[⟨⟨_,i4,V⟩,F.args_list_init_2 _ _,abY (s:=s.in1) cO (eY _ ap) cp _ i4 λX ab gy bm aT xB i9=>?_⟩];rw[⟨V,aj X ab gy bm (λa k i=>aT a k (gQ<|dK i)<|eY _ i) xB i9⟩]
end
theorem abZ(cl:sW M)(bw:g' ſ v s aC p M e8 kw)(aQ:Dc kw)(bO:g' ſ v s aC p M gX oB)(bC:∀b g x,M b->kw b g->oB b x->xH ſ v s aC (JV e8 gX g x) al b):g' ſ v s aC p M (.Subscript e8 gX ax) al:=λb A G aj=>by rw[bc<|bw b _ G λg as aK cW=>kQ<|bO as _ (cl _ _ G aK) λx ar a7 fi=>bc<|qU<|bC ar g x (cl _ _ G<|oR aK a7) (aQ _ _ _ cW a7) fi A λq co b4 jM=>aj q co (oR (oR aK a7) b4) jM]
theorem Uj(c:g' ſ v s aC p M i<|hC m)(G:M b)(aj:∀g w,kM b w->uY g (W m)->A g w):ce (cD ſ v) s (valueOrNone<|evalOpt (W i) p) A aC b:=c b _ G λg w t⟨D,aA⟩=>aj g w t<|aA▸.int m D
theorem ab0{e8 E aG:bJ}{lo T:Int}{h:aE}{a:Array UInt8}{ax xu:Pos}(cl:sW M)(bw:g' ſ v s aC p M e8<|λb g=>g=.ref h/\b.heap.get? h=W (c9 a))(aw:g' ſ v s aC p M E<|hC lo)(dX:g' ſ v s aC p M aG<|hC T)(ae:a.size<=cy):g' ſ v s aC p M (.Subscript e8 (.Slice (W E) (W aG) aX ax) xu) (λb g=>∃gi,g=.ref gi/\b.heap.get? gi=W (c9<|zg a (W lo)<|W T)):=abZ cl bw (λb w g c t=>⟨c.1,vO t _ _ c.2⟩) ((show g' ſ v s aC p M (.Slice (W E) (W aG) aX ax) (λb g=>∃bz z h5,g=.ref bz/\b.heap.IsSliceOf bz z h5 .none/\uY z (W lo)/\uY h5 (W T))from(λb A G aj=>by rw[bc<|Uj aw G λg as aK cW=>kQ<|Uj dX (cl _ _ G aK) λx ar a7 fi=>?_];rw[kQ ?_];rwa[iG (V)];rw[cr ?_];rw[jE ?_ (by show 3<=cy+2;decide)];rw[aj _ _ (oR (oR aK a7)<|xF λa k i=>eY _ i)<|p0 _ g x V (Rb ..) cW fi]))) (by rintro b g x-bN cB A aj;rw[c0 bN λdt aL=>?_];obtain rfl:=dt;rw[mb cB λbz z h5 eh ih fn fQ=>?_];obtain rfl:=eh;rw[vc (g5 aL) wR.lookup (Uc aL ih fn fQ ae ?_) (ops:=[.ref bz,.ref h]) V];rw[aj _ _ (xF λa k i=>eY _ i)<|dj _ V<|fu _ V])
section
section
variable{ſ:cM}{v:cU}{s:cq}{aC:aF->au->Prop}{b:au}
theorem Mc:Dc (IsL [] aJ):=λb w g c t=>by rw[jH c λh N o i aI ap=>⟨h,N,o,i,vO t _ _ aI,b9.to (λa k l i=>⟨vO t _ _ i,l⟩) _ _ ap⟩]
theorem Md(c:b9 b.heap [] aJ N):IsL [] aJ {b with heap:=b.heap.push {cls:=.type "list",data:=.seq N.toArray},toks:=ab} (.ref<|aB b):=⟨_,N.toArray,0,V,fu _ V,b9.to (λa k l i=>⟨eY _ i,l⟩) _ _ (by simpa using c)⟩
theorem ab1(aA:IsL [] aJ b g)(bl:IsL [] b8 b x)(ae:gu aJ+gu b8<=cy):xH ſ v s aC (yG .Add g x) (IsL []<|aJ++b8) b:=by
 rw[jH aA λh N o bN nn rq=>?_];obtain rfl:=bN;rw[jH bl λa ex S cB Co n1=>?_];obtain rfl:=cB;intro A aj;have i:N++ex=(N.toList++ex.toList).toArray:=by simp
 have f7:=rq.length;have h0:=n1.length;rw[concat_meets ⟨_,nn,V⟩ ⟨_,Co,V⟩ noFill_list_add seq_list_add QT QU (QV _ _) (list_addW h a N ex o S aX aX #[] #[] (by simp at f7 h0;rw[U f7<|U h0 ae])) ⟨nn,Co,(i▸aj _ _ (xF λa k i=>eY _ i) (Md<|b9.append n1 rq))⟩]
theorem ab2(aA:IsL [] aJ b g)(c_:aJ≠[])(qd:-(2^63:Int)<=m)(rj:m<2^63)(ae:gu aJ*om m<=2^24):xH ſ v s aC (yG .Mult g<|.int m aG) (IsL [] (bX (om m) aJ).flatten) b:=by
 rw[jH aA λh N o dt nn rq=>?_];obtain rfl:=dt;intro A aj;have f7:N.size=gu aJ:=by simpa using rq.length
 have ak:¬N.isEmpty=ag:=λe=>by rw[QM]at e;replace f7:=e▸f7;rw[c_<|Jy.mp f7.symm]
 rw[SY nn qd rj (f7▸ae)<|Fm (if_neg ak)▸?_];have i:List.foldl (λH P=>H++P) #[] (bX (om m) N)=((bX (om m) N.toList).flatten).toArray:=by apply QN.mp;rwa[U (foldl_rep ..)];simp
 rw[Fm i▸aj _ _ (xF λa k i=>eY _ i) (Md<|b9.rep rq _)]
noncomputable def Me(a:Array UInt8):List bj:=a.toList.map λg=>.int (g.toNat:Int)
theorem ab3(E:List UInt8):∀(N:List aF),gu N=gu E->(∀(j:Nat)(z:aF),N[j]?=W z->∃g aG,E[j]?=W g/\z=.int (g.toNat:Int) aG)->b9 b.heap [] (E.map λg=>.int (g.toNat:Int)) N:=by induction E with
 |nil=>intro eV;cases eV with|nil=>intro eM hq;show b9 _ _ [] [];rw[V]|cons z N=>intro c hq;cases c
 |cons g E a3=>intro eV;cases eV with|nil=>intro c hq;cases c|cons z N=>intro c aQ;rw[fW (aQ 0 z V) λbm aG i eh=>?_];obtain rfl:=eh;cases i;rw[(ie _ N V ((ov aG V))<|a3 N (by simpa using c) λj z T=>aQ (j+1) z T)]
theorem ab4{h:aE}{a:Array UInt8}(cO:s.handled=aX)(aL:b.heap.get? h=W (c9 a))(ae:a.size<=2^24):xH ſ v s aC (eS (.type "list") [.ref h] []) (IsL []<|Me a) b:=λA aj=>by rw[Ui cO aL ae λX ab ch bm aT i4 i9=>aj _ _ (xF aT) ⟨_,ch,bm,V,i4,(ab3 a.toList ch.toList (i9.1) λj z aQ=>?_)⟩];have:=i9.2 j z (by simpa using aQ);rw[fW this λg aG i fd=>?_];obtain rfl:=fd;rw[⟨g,aG,by simpa using i,V⟩]
end
end
section
noncomputable def b2i(a:Bool):Int:=bif a then 1 else 0
section
variable{ſ:cM}{v:cU}{s:cq}{aC:aF->au->Prop}{b:au}
def GE(cf:e1)(a6:List Bool):au->aF->Prop:=λb g=>∃(aN a1 ai cw:aE)(aq:List<|Int×Tok),g=.ref aN/\(∀a k,Ű cf a=W k->a≠ai)/\qr b.heap aN a1 ai cw (aq.map λn:Int×Tok=>tG n.1 n.2).toArray 0/\aN≠ai/\a1≠ai/\cw≠ai/\aq.map (·.1)=a6.map b2i
theorem ab5(E:List Int):∀(N:List aF),b9 b.heap [] (E.map .int) N->∃aq:List<|Int×Tok,N=aq.map (λn=>tG n.1 n.2)/\aq.map (·.1)=E:=by induction E with|nil=>intro N c;have X:=c;rw[⟨[],X,V⟩]|cons j E a3=>intro N c;have X:=c;rw[d7 X λg aV fw af am=>U fw<|c1 af λD hJ=>U hJ<|bt (a3 aV am) λaq j8 i=>U j8<|⟨(j,D)::aq,V,U hU<|U i V⟩]
theorem ab6{g:aF}{a6:List Bool}(aA:IsL [] (a6.map λa=>.int<|b2i a) b g){cf:e1}(hr:∀a k,Ű cf a=W k->b.heap.get? a=W k):xH ſ v s aC (eS (.type "map") [.type "str",g] []) (GE cf a6) b:=λA aj=>by
 rw[jH aA λh N o bN nn rq=>U bN ?_];have i:(a6.map λa=>bj.int<|b2i a)=(a6.map b2i).map .int:=by rwa[U ho];rfl
 rw[i]at rq;rw[bt (ab5 _ _ rq) λaq aQ ak=>abN ⟨_,nn,V,o,V⟩ λaN a1 ai X ab bk sT cV d9 ÿ Ā aT=>aj _ _ (xF aT) ⟨aN,a1,ai,h,aq,V,(λa k i e=>b2 (dK<|hr a k i)<|e▸d9),(bL aQ ?_),ÿ,Ā,λe=>b2 (dK nn)<|e▸d9,ak⟩];simpa using bk
theorem ab7(a:Bool):(b2i a).natAbs.log2<1920:=by cases a<;>decide
theorem ab8:∀a6∈z8 8,Txt.join nc (a6.map λa=>(mG<|toString<|b2i a))=Db a6/\JoinOk nc (a6.map λa=>(mG<|toString<|b2i a))=ag:=by decide+kernel
theorem ab9(l:gu a6=8)(cO:s.handled=aX)(aA:GE cf a6 b g)(aj:∀fp X ab,(∀a k,Ű cf a=W k->b.heap.get? a=W k->Ű X a=W k)->A (.str (Db a6) fp) {b with heap:=X,toks:=ab}):ce (cD ſ v) s (eS (.builtin "str.join") [.str nc D,g] []) A aC b:=by
 rw[FJ aA λaN a1 ai cw aq fd ā bk af am a' lO=>U fd ?_];have aw:gu aq=8:=by have:=congrArg gu lO;rw[dg,dg]at this;rw[this.trans l]
 have cu:=ab8 a6<|l▸Gy a6;have di:=abh (ſ:=ſ) (v:=v) (s:=s.in1.in1) (aN:=aN) (ai:=ai) cO af am a' aq (λn aO=>by have:n.1∈aq.map (·.1):=y6 aO;replace this:=lO▸this;rw[mL this λa u l=>bL l ?_];rw[ab7 a]);rw[abk di (λj b st=>⟨_,st.1,V⟩) bk (λa l=>?_) (bB) (λj z⟨n,aG,_,i⟩=>⟨_,aG,i⟩) (λw E Uk i9=>?_) (by rwa[U aw];decide)]
 .obtain⟨bg,⟨o,vQ⟩,⟨k,Ă,_⟩,⟨dh,ă,_⟩⟩:=bk;simp only[fT,na,or_false]at l;rcases l with rfl|rfl|rfl|rfl
  .rw[dK bg]
  .rw[dK vQ]
  .rw[dK Ă]
  .rw[dK ă]
 .have cp:gu E=gu aq:=by simpa[Bv]using i9.1
  have i:E.map (·.1)=a6.map λa=>(mG<|toString<|b2i a):=by
   have bH:E.map (·.1)=(aq.map (·.1)).map λj=>mG (toString j):=by
    rw[wD λQ=>?_];rcases pV Q (gu E) with cu|cu
    .rw[fW (i9.2 Q (.str (E[Q].1)<|E[Q].2) (by simp[Bv,cu])) λn aG aO aQ=>Fm (eX)▸Fm (eX)▸Fm (eX)▸Fm aO▸Fm (eT cu)▸?_];have e:=(Value.str.inj aQ).1;simp only[tu];rw[Fm e▸V]
    .rw[U (o_ (by simpa using cu))<|U (o_ (by simpa using cp▸cu)) V]
   rw[U bH<|U lO<|U ho ?_];rfl
  rw[Fm i▸⟨cu.2,λfp m=>Fm cu.1▸Fm (Rr Uk)▸aj fp w.heap m λa k l i=>Uk.heap a k (λe=>ā a k l<|bg e) i⟩]
end
end
theorem ab_(ak:az.all dS=ag)(cp:gu az<20)(mP:uZ k attr p (ee k p)=ee k p)(iM:(qc.endLine==ax.line)=ag)(c:ce (cD ſ v) s (ee k p) (λiy as=>ce (cD ſ v) s (ES ag k p iy attr) (λbQ ar=>ce (cD ſ v) s (qV ax bQ.1 bQ.2 (kp ax<|j1 az p) []) A aC ar) aC as) aC b):ce (cD ſ v) s (ee (.Call (.Attribute k attr qc) az [] ax) p) A aC b:=by
 rw[iG (U (arm_eval_Call ..)<|U mP V)<|bc<|se c (λiy as bw=>?_) λu u f=>f];rw[bc<|qU ?_];have K2:ET (gu az+gu ([]:List Keyword)) (kp ax<|j1 az p) (backToKw ax<|keywordEach [] p)=ag:=by unfold ET;rw[U (SP ak)<|?_];rw[(?_:(ag&&ag&&decide (gu az+0+0<30))=ag)];simp;rw[bM (.t .x<|.n 30) [.t .x<|.n 20] Z cp]
 unfold methodCall;rw[Fm K2▸kQ (se bw (λbQ ar bO=>?_) λu u f=>f)];have K3:EU ag k p qc ax=dB ax:=by unfold EU;simp[iM]
 obtain⟨J,lN⟩:=bQ;rwa[ng K3<|iG (V)];rw[bO]
theorem ab'(l:gu a6=8)(cO:s.handled=aX)(cl:sW M)(bk:pl M p "map"<|.type "map")(fA:pl M p "str"<|.type "str")(bq:g' ſ v s aC p M i<|IsL []<|a6.map λa=>.int<|b2i a)(ak:dS i=ag)(iM:(oS.endLine==fQ.line)=ag)(mP:uZ (.Constant (.str nc) m Mf) "join" p (ee (.Constant (.str nc) m Mf) p)=ee (.Constant (.str nc) m Mf) p):g' ſ v s aC p M (.Call (.Attribute (.Constant (.str nc) m Mf) "join" oS) [.Call (.Name "map" Mg) [.Name "str" Mh,i] [] fn] [] fQ) (λu g=>∃D,g=.str (Db a6) D):=λb A G aj=>by
 rw[ab_ (az:=[.Call (.Name "map" Mg) [.Name "str" Mh,i] [] fn]) V (by show 1<20;decide) mP iM<|PN ?_];rwa[ds (@nd _ _ _ _ _)];intro dx;unfold ES;rw[Fm (if_pos V)▸?_]
 with_reducible rwa[GM.join (x:=nc)]
 have Mi:sW (λD=>M D/\∀a k,b.heap.get? a=W k->Ű (Q7 D) a=W k):=λh a c t=>⟨cl _ _ c.1 t,λn k i=>vO t _ _<|c.2 n k i⟩;have lX:pl (λD=>M D/\∀a k,b.heap.get? a=W k->Ű (Q7 D) a=W k) p "map" (.type "map"):=⟨bk.1,λD c=>bk.2 D c.1⟩;have FX:pl (λD=>M D/\∀a k,b.heap.get? a=W k->Ű (Q7 D) a=W k) p "str" (.type "str"):=⟨fA.1,λD c=>fA.2 D c.1⟩;have uw:g' ſ v s aC p (λD=>M D/\∀a k,b.heap.get? a=W k->Ű (Q7 D) a=W k) i (IsL []<|a6.map λa=>.int<|b2i a):=λD A c aj=>bq D A c.1 aj;have C9:g' ſ v s aC p (λD=>M D/\∀a k,b.heap.get? a=W k->Ű (Q7 D) a=W k) (.Call (.Name "map" Mg) [.Name "str" Mh,i] [] fn) (GE b.heap a6):=by rw[GC Mi lX V (z9 V Mi (T' FX) (λu u u c u=>c)<|z9 ak Mi uw Mc GB) ?_ (by rw[U on<|U on<|U ak ?_];rfl)];rintro D aV bN cB;rw[c0 bN λu aT=>d7 cB λu u dt eh fd=>d7 fd λg u gS aA gT=>?_];obtain rfl:=dt;obtain rfl:=eh;obtain rfl:=gS;obtain rfl:=gT;rw[ab6 aA aT]
 have Mj:xG ſ v s aC p (λD=>M D/\∀a k,b.heap.get? a=W k->Ű (Q7 D) a=W k) [.Call (.Name "map" Mg) [.Name "str" Mh,i] [] fn] (λD aV=>∃g,aV=[g]/\GE b.heap a6 D g):=λD A ax c aj=>by rw[bc<|C9 D _ c λg as aK cW=>lH<|kQ<|cr<|cr<|aj _ _ aK ⟨g,V,cW⟩]
 rwa[Ua (lN:=[.str nc b.toks]) V V Mj ⟨cl _ _ G<|xE ..,λa k i=>i⟩];rintro aV ar a7 hK;rw[bt hK λg jp aA=>?_];obtain rfl:=jp;rw[ab9 l cO aA λfp X ab aT=>aj _ _ (fW (oR (xE b<|b.toks+1) a7) λam t2 j' ff=>?_) ⟨_,V⟩];obtain rfl:=j';rw[⟨X,ab,V,λa k i=>aT a k i<|ff a k i⟩]
theorem aca(a:Array UInt8)(m:Nat):zg a (W (m:Int)) (W<|(m:Int)+8)=((a.toList.drop m).take 8).toArray:=by
 rwa[U (KBc.picked_eq ..)];simp only[IZ];have i:((m:Int)+8)=((m+8:Nat):Int):=by rfl
 rw[U i<|U (EX ..)<|U (EX ..) ?_]
 congr 1;have ak:gu a.toList=a.size:=by simp
 rcases iv m a.size with c|c
 .rw[U (yW c) ?_];rcases iv (m+8) a.size with X|X
  .rw[U (yW X)<|U (by rw[Ff ..]:m+8-m=8) V]
  .rw[U (yX X)<|U (q2 (by rwa[U o'<|U ak];rw[dr _]))<|U (q2 (by rwa[U o'<|U ak];rw[(iv (m)<|a.size).elim (λer=>eA (.l .x<|.n 8) [.l .y<|.a .z<|.n 8,.e (.a .x .z) .y] Z X<|dM er) λer=>bM (.l .x<|.n 8) [.e .x<|.n 0] Z<|jl er])) V]
 .rw[U (yX c)<|U (wC<|ak▸dr _)<|U (wC (by rwa[U ak];omega)) ?_];simp
theorem acb{bE:aE}{f gZ step:Int}{A:aF->au->Prop}(f9:o9 b.heap bE f gZ step)(Mk:0<gZ)(aj:∀X,o9 X bE (f+step) (gZ-1) step->iE bE b.heap X->A (.int f b.toks) {b with heap:=X,toks:=b.toks+1}):ce (cD ſ v) s (zf<|.ref bE) A aC b:=by have cV:b.TypeIs (.ref bE) "range_iterator":=⟨_,f9,V⟩;rw[bc<|nL cV Fz (call_meets Fz cV Q2 (Q3 _) (AutoRange.range_iterator___next___range_iterator_1 bE f gZ step<|nT (.r4 .x<|.n 0) [.b2 (.n 0) .x] Z Mk) ⟨f9,?_⟩)];rw[cr<|aj _ (nP _ (nP _ f9 V) V)<|(tF ..).trans<|tF ..]
theorem acc{bE:aE}{f gZ step:Int}{A:aF->au->Prop}(cO:s.handled=aX)(f9:o9 b.heap bE f gZ step)(Mk:gZ<=0)(hl:∀X i,B1 bE b.heap X->(∃k,Ű X i=W k/\k.cls=.type "StopIteration")->aC (.ref i) {b with heap:=X}):ce (cD ſ v) s (zf<|.ref bE) A aC b:=by
 have cV:b.TypeIs (.ref bE) "range_iterator":=⟨_,f9,V⟩;rw[bc<|nL (name:=mG "__next__") cV Fz (kL Fz cV Q2 ?_<|Q3 _)];rw[jm ?_];intro jI;rw[(?_:ce _ _ (field (.ref bE) 0>>=_) _ _ b)];rw[iH f9 V (f:=hT f) V<|iH f9 V (f:=hT gZ) V<|iH f9 V (f:=hT step) V<|RE Mk<|bc<|mv<|bc<|bc<|bc<|jE (bc<|r' (a:=q3) (by first|rfl|(simp only[IT];rfl))<|jE (bc<|wpAny_handled ?_) (by size_fits)) (by size_fits)];first|rwa[iG (U (cO:s.in1.handled=aX) V)]|rw[cO,]
 rw[lH<|wpAny_throw<|hl _ _ (((J1 bE b.heap).push _).push _)<|dj _ (fu _ V) V]
theorem acd{h:aE}{t o:Nat}{b5:wq}{M:Nat->au->au->Prop}{a_:Protocol}{A:aF->au->Prop}(aw:b.heap.NoLimit)(gI:s.depth<f6)(aI:b.heap.IsGen h t)(kA:b.gens[t]?=W b5)(uq:b5.Goes (cD ſ v) s.in1 (λo cE q as=>q=.ok .next/\M o cE as) a_ o (.send .none)<|b.setGen t .running)(qt:∀z as mh,mh.bare=ag->a_ (o-1) (b.setGen t .running) z as (λgG d_=>match o with|0=>False|S+1=>mh.Goes (cD ſ v) s.in1 (λo cE q as=>q=.ok .next/\M o cE as) a_ S gG d_)->A z (as.setGen t mh))(cl:∀as,¬M o (b.setGen t .running) as):ce (cD ſ v) s (zf<|.ref h) A aC b:=by rw[bc<|nL aI.typeIs slot_gen_next (kL slot_gen_next aI.typeIs entry_gen_next ?_<|args_gen_next _)];rw[jm ?_];intro jI;rw[((kQ<|wpAny_genNumber aI<|bc<|wpAny_genState kA ?_))];cases b5 with
 |running=>rw[uq.elim]|finished=>rw[uq.elim]|_=>
  rw[sv ?_];intro tZ;rw[bc<|wpAny_roomToWake aw gI<|wpAny_resumeQ kA uq (λf as R=>?_)<|λz as mh l aQ=>?_]
  .rw[(cl _ R.2).elim]
  .rw[cr<|dj z V<|cr<|qt z as mh l aQ]
theorem jW.nextOf{h aP:aE}{t o Q:Nat}{bQ aZ:List aE}{eD:Nat->aF->Prop}(c:jW ſ v s h t aP bQ aZ o eD Q b)(bi:oN h aP bQ aZ)(ap:s.depth<f6)(cu:Q<o){A:aF->au->Prop}(aj:∀z w,eD Q z->jW ſ v s h t aP bQ aZ o eD (Q+1) w->Moved (aP::aZ) (E5 t) b w->A z w):ce (cD ſ v) s (zf<|.ref h) A aC b:=by
 rw[fb c λaI aw bN=>bt bN λb5 kA uq=>?_];have cp:gu (qX (λu=>ag) o 0)=o:=U (CR ..)<|U mE V;rw[c1 (⟨o-Q-1,by rw[Kl 1000121 100111011 (.e .x<|.o .y) [.e .z .w,.l .z<|.a .x .u,.l (.v 5)<|.a .y<|.n 1,.l .w<|.a (.v 5) .u,.e (.a .x .u) .z,.e (.a .y<|.n 1)<|.v 5,.e (.a (.v 5) .u) .w] Z cp (ef _ _) (ef _ _) (ef _ _) (dM<|fq 211 (.l .x .y) [.t .x .z,.e .y .z] Z cu cp) (dM<|eA (.l (.n 1) .x) [.t .y .z,.l .z<|.a .x .y] Z cu<|ef _ _)<|dM<|ct (.l .x .y) [.t .x .y] Z cu]⟩:∃S,gu (qX (λu=>ag) o 0)-Q=S+1) λS bk=>?_];replace uq:=bk▸uq;rw[wpAny_with_toks (dr b.toks)<|acd aw ap aI kA (uq _ λu u u i=>i) (λz as mh l aQ=>fb aQ λcB dt Ą=>bt cB λj T I=>fW dt λbw zs fw sw=>?_)<|λas aO=>absurd aO.1<|PV S];obtain rfl:=fw;rwa[ds (@nd _ _ _ _ _)];intro dx;rwa[ds (@Q6 _ _ _)];intro dx;have Ml:gu (qX (λu=>ag) o 0)-1-(S+1-1)=Q:=(iv (S+1-1)<|gu (qX (λf=>ag) o 0)-1).elim (λer=>(iv (Q)<|gu (qX (λf=>ag) o 0)).elim (λg0=>R1 1010010121 10101101011 (.e .x .y) [.e .z<|.o .w,.l .u<|.a .x<|.v 5,.l (.v 6)<|.a .z .y,.l (.v 6)<|.a .u<|.n 1,.l (.o .w)<|.a (.v 5)<|.n 1,.e (.a .x<|.v 5) .u,.e (.a .z .y)<|.v 6,.e (.a .u<|.n 1)<|.v 6,.e (.a (.v 5)<|.n 1)<|.o .w] Z bk (ef _ _) (ef _ _) (ef _ _) (ef _ _) (dM er) (dM g0) (dM<|fq 21 (.l (.n 1) .x) [.e .y<|.o .z,.l .y .x] Z bk<|jF _ _)<|dM<|bM (.l (.n 1)<|.o .x) [] Z) λg0=>Kl 1010020 101101 (.e .x .y) [.e .z<|.o .w,.l .u .y,.l .x<|.v 5,.e .z<|.n 0,.e (.a (.v 5)<|.n 1) .u] Z bk g0 (jF _ _) (jl g0)<|dM<|fq 21 (.l (.n 1) .x) [.e .y<|.o .z,.l .y .x] Z bk<|jF _ _) λer=>(iv (Q)<|gu (qX (λf=>ag) o 0)).elim (λg0=>R1 101121 10010001 (.e .x .y) [.e .z<|.o .w,.l .u<|.v 5,.l (.v 6)<|.a .u<|.n 1,.e .x<|.n 0,.e (.a .z .y)<|.v 6,.e (.a (.v 5)<|.n 1)<|.o .w] Z bk er (ef _ _) (jl er) (dM g0)<|dM<|bM (.l (.n 1)<|.o .x) [] Z) λg0=>Kl 1010020 101101 (.e .x .y) [.e .z<|.o .w,.l .u .y,.l .x<|.v 5,.e .z<|.n 0,.e (.a (.v 5)<|.n 1) .u] Z bk g0 (jF _ _) (jl g0)<|dM<|fq 21 (.l (.n 1) .x) [.e .y<|.o .z,.l .y .x] Z bk<|jF _ _;replace T:=Ml▸T;have z4:j=Q:=by rw[CR,nN cu]at T;rw[Fm (ek T)]
 subst z4;have FW:h∉aZ:=λc=>bi.2<|bi.3 h c;intro GF;rw[aj z _ I ⟨zi aI λk nm CS aL q=>⟨k,nm,CS,sw h k bi.1 FW aL,q⟩,(let⟨dw,lO,xq⟩:=aw;⟨dw,lO.at' λk i=>sw qY k bi.5 bi.6 i,xq⟩),mh,E7<|E7 kA,λd_ gY=>?_⟩ ⟨λa k l i=>sw a k (λc=>l<|c▸bB ..) (λc=>l<|mt c) i,GenOnlyQ.of ((Rs b t .running).trans<|Rs _ t mh) (E7<|E7 kA) l,V,V,GF⟩];have i:gu (qX (λu=>ag) o 0)-(j+1)=S:=(iv ((j)+1)<|gu (qX (λf=>ag) o 0)).elim (λer=>rg 100121 1011011 (.e .x .y) [.e .z<|.o .y,.l .w<|.a .x<|.o .u,.l .w<|.a .z .u,.e (.a .x<|.o .u) .w,.e (.a .z .u) .w] Z bk (ef _ _) (ef _ _) (dM er)<|dM<|ct (.l .x .y) [.l (.o .x) .y] Z er) λer=>(iv (j)<|gu (qX (λf=>ag) o 0)).elim (λg0=>rg 10121 101001 (.e .x .y) [.e .z<|.o .y,.l .w<|.o .u,.e .x<|.n 0,.e (.a .z .u) .w] Z bk er (jl er)<|dM g0) λg0=>kU 1021 10101 (.e .x .y) [.e .z<|.o .y,.e .x<|.n 0,.e .z<|.n 0] Z bk (jl er)<|jl g0;rw[U i<|Ą d_ gY]
inductive sX(C f0 e' ep h aP:aE)(bQ aZ:List aE):Prop|mk(f2:f0≠C)(f3:e'≠C)(gw:ep≠C)(j_:f0≠e')(lL:f0≠ep)(oA:e'≠ep)(w5:∀a∈[C,f0,e',ep],a∉h::aP::bQ)(F7:oN h aP bQ aZ):sX C f0 e' ep h aP bQ aZ
inductive rQ(ſ:cM)(v:cU)(s:cq)(C f0 e' ep h:aE)(t:Nat)(aP:aE)(bQ aZ:List aE)(o S Q:Nat)(eD:Nat->aF->Prop)(z':aF)(j:Nat)(b:au):Prop|mk(f2:q1 b.heap C f0 e' z')(f3:mx b.heap f0 (.ref ep)<|.ref h)(gw:∃n e,mx b.heap e' n e)(j_:o9 b.heap ep (0+(j:Nat)*1) ((o:Int)-(j:Nat)) 1)(lL:jW ſ v s h t aP bQ aZ S eD (Q+j) b):rQ ſ v s C f0 e' ep h t aP bQ aZ o S Q eD z' j b
theorem sX.sub(av:sX C f0 e' ep h aP bQ aZ):∀a∈aP::aZ,a∈h::aP::bQ:=λa l=>by
 revert a;rwa[hg ?_]
 .rw[mt bB]
 .intro a l;rw[sj _<|sj _<|av.8.3 a l]
theorem rQ.frame(c:rQ ſ v s C f0 e' ep h t aP bQ aZ o S Q eD z' j b)(av:sX C f0 e' ep h aP bQ aZ)(il:bb cL cf b w)(dz:∀a∈cL,a∉[C,f0,e',ep]++h::aP::bQ)(jK:t∉cf):rQ ſ v s C f0 e' ep h t aP bQ aZ o S Q eD z' j w:=by have m:∀a∈[C,f0,e',ep],∀k,b.heap.get? a=W k->Ű (Q7 w) a=W k:=λa l k i=>il.1 a k (λe=>dz a e<|b7 l) i;rw[kP c.3 λn e Mm=>⟨m C (bB) _ c.1,m f0 (mt bB) _ c.2,(kR n e<|m e' (mt<|mt bB) _ Mm),m ep (by simp) _ c.4,c.5.frame av.8 il (λa l e=>dz a l<|bR e) jK⟩]
theorem ace{j:Nat}{A:aF->au->Prop}(c:rQ ſ v s C f0 e' ep h t aP bQ aZ o S Q eD .none j b)(av:sX C f0 e' ep h aP bQ aZ)(ap:s.depth<f6)(T:j<o)(cu:Q+j<S)(aj:∀a1 D z w,eD (Q+j) z->mx w.heap a1 (.int j D) z->a1≠C->rQ ſ v s C f0 e' ep h t aP bQ aZ o S Q eD (hT a1) (j+1) w->Moved ([C,e',ep]++aP::aZ) (E5 t) b w->A (.ref a1) w):ce (cD ſ v) s (QH ⟨[.ref C],[]⟩) (λgv w=>∃z,gv=.done (.ret z)/\A z w) aC b:=by
 rw[jm ?_];intro jI;obtain⟨ae,vu,⟨n,e,zI⟩,af,aI⟩:=c;have ą:∀a∈[C,f0,e',ep],a∉aP::aZ:=λa l e=>av.7 a l<|av.sub a e;rw[(?_:ce _ _ (field (.ref C) 2>>=_) _ _ _)];rw[iH ae V (f:=.bool be) V (?_:ce _ _ (field (.ref C) 3>>=_) _ _ _)];rw[iH ae V (f:=.ref f0) V<|bc<|ts vu V ?_];rw[(?_:ce _ _ (Rp (.ref C)>>=_) _ _ _)];rw[bc ?_];unfold Rp;rw[iH ae V (f:=.none) V<|cr ?_];simp only[if_true];rw[bc<|mv<|iH ae V (f:=.ref e') V<|bc<|yP ae (by simp) λbw xI fX=>?_];replace xI:q1 bw C f0 e' .ellipsis:=xI;rw[bc ?_];rw[jm ?_];intro jI;simp only[Qg,List.zipIdx_nil,u8,BO];rw[sv ?_];intro tZ;rw[bc<|bc<|IV ?_];rw[jm ?_];intro jI;rw[(?_:ce _ _ (zf (.ref ep)>>=_) _ _ _)];rw[bc<|acb (b:={b with heap:=bw}) (fX.extBut _ _ av.3 af) (ct (.b2 (.n 0)<|.s (.c .x)<|.c .y) [.t .y .x] Z T) λbO Ć hY=>cr ?_];rwa[ds (@tG _ _)];intro dx;rw[jm ?_];intro jI;rw[tX ?_];intro vL;have Um:mx bO e' n e:=hY.extBut _ _ av.6<|fX.extBut _ _ av.2 zI;rw[bc<|ts Um V<|bc<|PO Um λkc Mn ny=>?_];replace Mn:mx kc e' _ e:=Mn;rw[bc<|wo<|cr<|bc<|bc<|IV ?_];rw[jm ?_];intro jI;rw[(?_:ce _ _ (zf (.ref h)>>=_) _ _ _)];have Mo:∀g k,g≠C->g≠e'->g≠ep->b.heap.get? g=W k->Ű kc g=W k:=λg k hP lY uz i=>ny.extBut _ _ lY<|hY.extBut _ _ uz<|fX.extBut _ _ hP i;have De:bb [C,e',ep] [] b {b with heap:=kc,toks:=b.toks+1}:=bK.heap (λa k l i=>Mo a k (λe=>l (by simp[e])) (λe=>l (by simp[e])) (λe=>l (by simp[e])) i)<|U ny.1<|U hY.1<|U fX.1<|dr _;have ć:=aI.frame av.8 De (λa l e=>av.7 a (by simp at l⊢;rcases l with i|i|i<;>simp[i]) e)<|λe=>db e;rw[bc<|ć.nextOf av.8 ap cu λz cv aQ Ĉ bk=>cr ?_];have sH:∀a∈[C,f0,e',ep],∀k,Ű kc a=W k->Ű (Q7 cv) a=W k:=λa l k i=>bk.heap a k (ą a l) i;have Un:=sH e' (mt<|mt bB) _ Mn;rw[bc<|ts Un V<|bc<|PO Un λqu GG Aa=>?_];rw[tX ?_];intro vL;replace GG:mx qu e' _ z:=GG;rw[bc<|wo<|cr<|cr<|bc<|ts GG V<|bc<|Bw ?_];rw[tX ?_];intro vL;have Uo:q1 qu C f0 e' .ellipsis:=Aa.extBut _ _ (ib av.2)<|sH C (bB) _<|ny.extBut _ _ (ib av.2)<|hY.extBut _ _ (ib av.3) xI;have ĉ:mx (qu.push {cls:=.type "tuple",data:=.seq [tG (0+(j:Nat)*1) b.toks,z].toArray}) qu.objs.size (.int (0+(j:Nat)*1) b.toks) z:=fu _ V;have Mp:C<Ų (ű qu):=dK Uo;rw[(?_:ce _ _ (Rq (.ref C) (.ref qu.objs.size)>>=_) _ _ _)];rw[bc ?_];rw[jm ?_];intro jI;unfold Rq;have Ċ:q1 (qu.push {cls:=.type "tuple",data:=.seq [tG (0+(j:Nat)*1) b.toks,z].toArray}) C f0 e' .ellipsis:=eY _ Uo;rw[bc<|yP Ċ (by simp) λċ Mq Mr=>?_];rw[tX ?_];intro vL;replace Mq:q1 ċ C f0 e' (hT qu.objs.size):=Mq;rw[yP Mq (by simp) λxJ Ms Mt=>?_];replace Ms:q1 xJ C f0 e' (hT qu.objs.size):=Ms;have d2:∀g k,g≠C->Ű qu g=W k->Ű xJ g=W k:=λg k hP i=>Mt.extBut _ _ hP<|Mr.extBut _ _ hP<|eY _ i;have GH:∀g k,g≠C->g≠e'->Ű (Q7 cv) g=W k->Ű xJ g=W k:=λg k hP lY i=>d2 g k hP<|Aa.extBut _ _ lY i;have oG:jW ſ v s h t aP bQ aZ S eD (Q+(j+1)) {cv with heap:=xJ}:=by have Č:bb [C,e'] [] cv {cv with heap:=xJ}:=bK.heap (ab:=cv.toks) (λa k l i=>GH a k (λe=>l (by simp[e])) (λe=>l (by simp[e])) i) (by rw[U Mt.1<|U Mr.1<|U (f' ..)<|U Aa.1 ?_];rw[j2 _]);rw[Ĉ.frame av.8 Č (λa l e=>av.7 a (by simp at l⊢;rcases l with i|i<;>simp[i]) e)<|λe=>db e]
 have Mu:mx xJ qu.objs.size (.int (0+(j:Nat)*1) b.toks) z:=Mt.extBut _ _ (tw Mp)<|Mr.extBut _ _ (tw Mp) ĉ;rw[cr<|dj _ V<|aj qu.objs.size b.toks z _ aQ ?_ (tw Mp) ⟨Ms,GH _ _ av.1 av.4<|sH f0 (mt bB) _<|Mo f0 _ av.1 av.4 av.5 vu,(kR _ _<|d2 _ _ av.2 GG),?_,oG⟩ ?_]
 .have i:(0+(j:Int)*1)=j:=bM (.e0 (.a (.n 0)<|.r (.c .x) 1)<|.c .x) [] Z;replace Mu:=i▸Mu;rw[Mu]
 .have bH:(0+((j+1:Nat))*1)=0+(j:Int)*1+1:=by push_cast;rfl
  have cm:(o:Int)-((j+1:Nat))=(o:Int)-(j:Int)-1:=by push_cast;rw[ct (.e0 (.s (.c .x)<|.o<|.c .y)<|.s (.s (.c .x)<|.c .y)<|.n 1) [] Z]
  rw[(?_:o9 xJ ep _ _ 1)];rw[bL bH<|cm▸GH _ _ av.3 (ib av.6) (sH ep (by simp) _<|ny.extBut _ _ (ib av.6) Ć)]
 .rw[⟨λa k l i=>?_,bk.gens,bk.drawn,bk.os,a5 (j2 _) bk.toks⟩];rw[jf,not_or]at l;have jk:a≠C:=λe=>l.1 (by simp[e]);have lI:a≠e':=λe=>l.1 (by simp[e]);have ss:a≠ep:=λe=>l.1 (by simp[e]);rw[GH a k jk lI<|bk.heap a k l.2<|Mo a k jk lI ss i]
theorem acf(cO:s.handled=aX)(c:rQ ſ v s C f0 e' ep h t aP bQ aZ o S Q eD .none j b)(av:sX C f0 e' ep h aP bQ aZ)(T:o<=j)(hl:∀X i,(∀g k,g≠C->g≠ep->b.heap.get? g=W k->Ű X g=W k)->(∃k,Ű X i=W k/\k.cls=.type "StopIteration")->aC (.ref i) {b with heap:=X}):ce (cD ſ v) s (QH ⟨[.ref C],[]⟩) A aC b:=by
 obtain⟨ae,vu,⟨n,e,zI⟩,af,aI⟩:=c;rw[(?_:ce _ _ (field (.ref C) 2>>=_) _ _ _)];rw[iH ae V (f:=.bool be) V<|iH ae V (f:=.ref f0) V<|bc<|ts vu V<|bc<|iH ae V (f:=.none) V<|cr<|bc<|mv<|iH ae V (f:=.ref e') V<|bc<|yP ae (by simp) λbw xI fX=>?_];replace xI:q1 bw C f0 e' .ellipsis:=xI;rw[bc<|bc<|bc<|IV<|bc<|acc (b:={b with heap:=bw}) cO (fX.extBut _ _ av.3 af) (ct (.cN (.s (.c .x)<|.c .y)<|.n 0) [.l .x .y] Z T) λbO i hY bq=>bt bq λGI Ab Up=>tX ?_];intro vL;have xD:q1 bO C f0 e' .ellipsis:=hY _ _ (ib av.3) xI;have č:i≠C:=λf=>by subst f;rw[xD]at Ab;cases Ab;simp at Up
 rw[yP xD (by simp) λkc u ny=>hl kc i (λg k hP uz f=>ny.extBut _ _ hP<|hY _ _ uz<|fX.extBut _ _ hP f)<|dj GI (ny.extBut _ _ č Ab) Up]
theorem acg(c:rQ ſ v s.in1 C f0 e' ep h t aP bQ aZ o S Q eD .none j b)(av:sX C f0 e' ep h aP bQ aZ)(ap:s.depth<f6)(T:j<o)(cu:Q+j<S)(aj:∀a1 D z w,eD (Q+j) z->mx w.heap a1 (.int j D) z->a1≠C->rQ ſ v s.in1 C f0 e' ep h t aP bQ aZ o S Q eD (hT a1) (j+1) w->Moved ([C,e',ep]++aP::aZ) (E5 t) b w->A (W<|.ref a1) w):ce (cD ſ v) s (oj<|.ref C) A aC b:=by have cV:b.TypeIs (.ref C) "zip":=⟨_,c.1,V⟩;rw[bc<|uX<|nL cV FB (kL FB cV Q4 (ace c av ap T cu λa1 D z w dO d5 eb e9 f_=>cr<|aj a1 D z w dO d5 eb e9 f_)<|Q5 _)]
theorem ach(cO:s.handled=aX)(c:rQ ſ v s.in1 C f0 e' ep h t aP bQ aZ o S Q eD .none j b)(av:sX C f0 e' ep h aP bQ aZ)(T:o<=j)(aj:∀X,(∀g k,g≠C->g≠ep->b.heap.get? g=W k->Ű X g=W k)->A aX {b with heap:=X}):ce (cD ſ v) s (oj<|.ref C) A aC b:=by have cV:b.TypeIs (.ref C) "zip":=⟨_,c.1,V⟩;rw[bc<|uX<|nL cV FB (kL FB cV Q4 (acf cO c av T λX i aT bq=>?_)<|Q5 _)];rw[bt bq λk aL aA=>bc<|sa ⟨k,aL,aA⟩ IQ<|cr<|aj _ aT]
section
section
variable{ſ:cM}{v:cU}{s:cq}
inductive Mv(ſ:cM)(v:cU)(s:cq)(cn:bJ)(aa K:Nat)(ky:List aE)(ll:List Nat)(r cL:List aE)(bv:List bj)(ar:au)(an:aE)(bQ aZ:List aE)(b5:List Nat)(St:Nat->au->Prop)(lm:au->Prop):Prop|mk(f2:ue ſ v s cn r bv ar an bQ aZ b5 St lm)(f3:St 0 ar)(gw:∀a∈aZ,aa<=a\/a∈ky)(j_:∀t∈b5,K<=t\/t∈ll)(lL:∀t∈b5,t<ar.gens.size)(oA:∀a∈bQ,a<(aB ar)/\a∉cL):Mv ſ v s cn aa K ky ll r cL bv ar an bQ aZ b5 St lm
theorem F'.yh{cn:bJ}{aa K:Nat}{ky:List aE}{ll:List Nat}{r cL:List aE}{bv:List bj}{as ar:au}{an:aE}{bQ aZ:List aE}{b5:List Nat}{St:Nat->au->Prop}(aN:F' ſ v s cn aa K ky ll r cL bv as ar an bQ aZ b5 St):Mv ſ v s cn aa K ky ll r cL bv ar an bQ aZ b5 St (λu=>True):=⟨aN.1.yh,aN.2,aN.4,aN.5,aN.6,aN.7⟩
end
variable{g:ea}{x:Nat}{O:dA}{y:b_}{p:Env}{r L ay:List aE}{aa:Nat}{s:cq}{b w:au}{f:Str}{z:bj}{eG:List lC}{dT:bJ}{a2:dA}{ax:Pos}{Q:Nat}{ii:List bJ}{an:Inv}
def nz(y:b_):Prop:=∀f bz,fm y f bz->∃z,bz=.f z
theorem Uq:∀{aJ:List Str}{N:List bj}{y:b_},nz y->nz (pu aJ N y)
 |[],cR,y,c=>c|cR::e3,[],y,c=>c|B::aJ,aG::N,y,c=>Uq (N:=N) λf z e=>by
  rcases iQ e with⟨_,i⟩|⟨_,e⟩
  .rw[⟨aG,i⟩]
  .rw[c f z e]
theorem bG.yT(n:bG g p r L aa y b)(cz:nz y)(cC:∀C∈cL,C∈r)(aL:∀C∈cL,C∉cc p)(t:bb cL aD b w)(l:gU g w):bG g p r L aa y w:=by rw[jh n.3 λcS al af am a'=>⟨a5 n.1 t.2,l,cS,al.keeps λa l k i=>t.1 a k (λe=>aL a e l) i,λf bz R=>bt (af f bz R) λz aQ q=>c1 (cz f bz R) λaG dt=>?_,am,a'⟩];obtain rfl:=dt;rw[⟨z,aQ,q.own cC (λe=>e.elim) λa k l i=>t.1 a k l i⟩]
def qv(g:ea)(x:Nat)(s:cq)(O:dA)(an:Inv)(eG:List lC)(dT:bJ)(a2:dA)(ax:Pos)(Q:Nat)(ii:List bJ)(y:b_)(oH:List bj):Prop:=∀(p:Env)(r L ay:List aE)(aa:Nat)(av:aE),eW x s->p.scope=O->cx g p r L ay aa->av∈L->nz y->∀(b8:List bj)(b:au),gu b8+gu oH<=cy->bG g p r L aa y b->an.At g p r L b->AccAt b.heap r av b8->∀A:Unit->au->Prop,(∀w,bb ([av,p.locals]++an.W) an.G b w->bG g p r L aa y w->an.At g p r L w->AccAt w.heap r av (b8++oH)->A () w)->Y g.prog g.w s (vp dT eG a2 ax Q (.ref av) p ii) A b
theorem Inv.At.off(c:an.At g p r L b)(I:cx g p r L ay aa){cL:List aE}(t:bb cL [] b w)(dz:∀a∈cL,a∈L\/a∈cc p):an.At g p r L w:=c.it t (λa l=>(dz a l).elim (λe=>⟨(I.5 a e).1,λv=>(c.2 a v).2.1 e⟩) λe=>⟨(I.4 a e).1,λv=>(c.2 a v).2.2.1 e⟩) aR
theorem qv.of(c:jS g x O eG dT a2 ax Q ii y oH):qv g x s O an eG dT a2 ax Q ii y oH:=λp r L ay aa av ao G I c7 cz b8 b ae n T ch A aj=>c s p r L ay aa av ao G I c7 (λf z e=>by rw[c1 (cz _ _ e) λaG i=>?_];cases i) b8 b ae n ch A λw t bs gy=>aj w (t.mono (λa l=>b7 l) aR) bs (T.off I t λa l=>dw l (λe=>.inl<|e▸c7) λe=>.inr<|bg e▸bB) gy
theorem Ur{Q:Nat}{t:lC}{bv:List bj}{dU:List<|List bj}{av:aE}{b8:List bj}{co:au}{dE:aE}{bQ aZ:List aE}{b5:List Nat}{St:Nat->au->Prop}{lm:au->Prop}{ca:gO->au->Prop}(aI:eG[Q]?=W t)(aM:t.is_async=0)(af:gu t.ifs<=1)(am:∀cd,eG[Q+1]?=W cd->cd.is_async=0)(ao:eW x s)(G:p.scope=O)(hk:AllP (λf k=>mT ag O t.target f/\sI t.target f y/\qv g x s O an eG dT a2 ax Q t.ifs (k0 t.target f y) k) bv dU)(I:cx g p r L ay aa)(c7:av∈L)(cz:nz y)(di:ue g.prog g.w s t.target r bv co dE bQ aZ b5 St lm)(kA:∀j∈b5,g.s0.gens.size<=j/\j∉an.G)(rR:∀a∈aZ,a∈r/\a∉cc p/\(aB g.s0)<=a)(jT:∀a∈bQ,a≠av/\a≠p.locals/\a∉an.W)(n:bG g p r L aa y b)(T:an.At g p r L b)(ch:AccAt b.heap r av b8)(ae:gu b8+gu dU.flatten<=cy)(b4:bb [] [] co b)(st:St 0 b)(i2:∀w,bb (aZ++([av,p.locals]++an.W)) (b5++an.G) b w->bG g p r L aa y w->an.At g p r L w->AccAt w.heap r av (b8++dU.flatten)->lm w->ca .next w):em g.prog g.w s (.compLoop (.ListComp dT eG a2 ax) Q (.ref dE) (.ref av) p) ca b:=by
 have xa:=(I.5 av c7).1;have Ll:av∉cc p:=λe=>(I.4 av e).2.2.1 c7;have oI:av∉aZ:=λe=>(jT av<|di.1 av e).1 V;have sE:∀a∈aZ++([av,p.locals]++an.W),a∈r:=λa l=>by
  rw[bS l (λe=>?_) λe=>?_]
  .rw[(rR a e).1]
  rw[bS e (λe=>?_) λe=>?_]
  .rcases fT.mp e with rfl|e
   .rw[xa]
   .rw[(bg e)▸(I.4 _ bB).1]
  .rw[(T.2 a e).1]
 rw[K' aI V aM af am di (λj D=>bb (aZ++([av,p.locals]++an.W)) (b5++an.G) b D/\bG g p r L aa y D/\an.At g p r L D/\AccAt D.heap r av (b8++(dU.take j).flatten)) ?_ ?_ ⟨bK.refl ..,n,T,by simpa using ch⟩ st]
 .rw[ds (@JX _ _ _ _ _ _) ?_];intro dx;rintro j f oJ D z R eh sJ aQ n4 fx;rw[lG eh λdO d5 e9 eb=>?_];have Df:=hk.1▸(j4.mp R).1;rw[fb (hk.2 j f dU[j] R<|eT Df) λfg fD h6=>?_];have bC:=G▸fg;rw[Y.bind<|w' ao.1 I (d5.yT cz (λC ae=>(rR C ae).1) (λC ae=>(rR C ae).2.1) fx<|d5.2.toG fx (λC ae=>(rR C ae).2.2) λj T=>(kA j T).1) (aQ r _ (λa l=>⟨cg (I.8 a l) d5.1,.inl l⟩)<|(b4.mono aR aR).trans<|dO.mono sE λu c=>c) bC λjr aK dD=>?_];have cp:gu (b8++(dU.take j).flatten)+dU[j].length<=sizeLine:=by
   rw[a5 ?_ ae];have i:dU.flatten=(dU.take j).flatten++(dU[j]++(dU.drop<|j+1).flatten):=by
    conv=>lhs;rw[<-sl j dU]
    rw[U BP<|U (Fo Df)<|U kr V]
   rwa[U i];simp only[e7];rw[oy (.l (.a (.a .x .y) .z)<|.a .x<|.a .y<|.a .z .w) [] Z]
  rw[h6 p r L ay aa av ao G I c7 (by
     rw[Lk (λB n u f aG e=>?_) (λaz m n N u=>Uq cz) cz];rcases iQ e with⟨_,i⟩|⟨_,e⟩
     .rw[⟨_,i⟩]
     .rw[cz _ _ e]) _ jr cp dD ((e9.it fx (λa l=>⟨(rR a l).1,(jT a<|di.1 a l).2.2⟩) λj T=>(kA j T).2).off I aK λa l=>.inr<|zL _ l) ((eb.to (λa k l i=>fx.1 a k l i) (λC ae=>(rR C ae).1) oI).to (λa k l i=>aK.1 a k l i) (λC ae=>bg ae▸(I.4 _ bB).1)<|λe=>Ll<|bg e▸bB) _ λmU a7 i8 z7 xb=>⟨⟨?_,i8.le λB bz c=>fD B bz c,z7,?_⟩,?_⟩]
  .rw[(dO.trans<|fx.mono (λa l=>b7 l) λu c=>b7 c).trans<|(aK.mono (λa l=>bR<|b7<|mt l) aR).trans<|a7.mono (λa l=>bR l) λu c=>bR c]
  .have i:(dU.take<|j+1).flatten=(dU.take j).flatten++dU[j]:=by rw[U u4<|U (eT Df)<|U BP ?_];simp
   rw[U i<|bL (mD ..) xb]
  .rw[di.2 _ _ _ ([av,p.locals]++an.W) an.G n4 ((aK.mono (λa l=>b7<|mt l) aR).trans a7) (λa l e=>bS l (λl=>?_) λl=>?_)<|λj T e=>(kA j e).2 T]
   .rcases fT.mp l with rfl|l
    .rw[(jT _ e).1 V]
    .rw[(jT a e).2.1<|bg l]
   .rw[(jT a e).2.2 l]
 .rintro oJ D gT fx bq;rw[lG gT λdO d5 e9 eb=>?_];rw[i2 D (dO.trans<|fx.mono (λa l=>b7 l) λu c=>b7 c) (d5.yT cz (λC ae=>(rR C ae).1) (λC ae=>(rR C ae).2.1) fx<|d5.2.toG fx (λC ae=>(rR C ae).2.2) λj T=>(kA j T).1) (e9.it fx (λa l=>⟨(rR a l).1,(jT a<|di.1 a l).2.2⟩) λj T=>(kA j T).2) ?_ bq];have i:dU.take (gu bv)=dU:=hk.1▸wA;rw[i]at eb;rw[eb.to (λa k l i=>fx.1 a k l i) (λC ae=>(rR C ae).1) oI]
end
section
def Mw(ſ:cM)(v:cU)(s:cq)(cn:bJ)(aa K:Nat)(ky:List aE)(ll:List Nat)(r cL:List aE)(bv:List bj)(lm:au->Prop)(g:aF)(as:au):Prop:=∀A:aF->au->Prop,(∀an ar bQ aZ b5 St,bb [] [] as ar->Mv ſ v s cn aa K ky ll r cL bv ar an bQ aZ b5 St lm->A (.ref an) ar)->Y ſ v s (ol g) A as
variable{g:ea}{x:Nat}{O:dA}{y:b_}{p:Env}{r L ay:List aE}{aa:Nat}{s:cq}{b w:au}{f:Str}{z:bj}{a4:aF}{eG b5:List lC}{dT:bJ}{a2:dA}{ax:Pos}{Q:Nat}{ii:List bJ}{an:Inv}{t:lC}{bv:List bj}{dU:List<|List bj}{cn i:bJ}
def xK(g:ea)(x:Nat)(s:cq)(O:dA)(an:Inv)(y:b_)(cn i:bJ)(bv:List bj):Prop:=∀(p:Env)(r L ay:List aE)(aa K:Nat)(b:au),eW x s->p.scope=O->cx g p r L ay aa->bG g p r L aa y b->an.At g p r L b->K<=b.gens.size->∀A:aF->au->Prop,(∀a4 w,bb an.W an.G b w->gU g w->(∀bx,(∀a∈r,a∈bx)->(∀a∈bx,a∈r\/b.heap.objs.size<=a)->an.At g p bx L w)->Mw g.prog g.w s cn aa K [] [] r r bv (λu=>True) a4 w->A a4 w)->Y g.prog g.w s (ee i p) A b
theorem xK.of(c:mX g x O y cn i bv):xK g x s O an y cn i bv:=λp r L ay aa K b ao G I n T rO A aj=>c s p r L ay aa K ao G I b A ⟨n,rO⟩ λa4 w t aQ=>aj a4 w (t.mono aR aR) (n.2.to t aR) (λbx dX f8=>(T.wide dX f8).it t aR aR) λA aj=>aQ A λdE ar bQ aZ b5 St aN=>aj dE ar bQ aZ b5 St aN.3 aN.yh
theorem mX.list(c:ai g x O y i m<|.lst aJ)(aT:m≠.ls)(bC:S7 cn aJ):mX g x O y cn i aJ:=λs p r L ay aa K ao G I b A n aj=>let n:=n.1
 (c.hA aT) s p r L ay aa ao G I b A n λa4 w t aQ=>aj a4 w t<|S3 (n.grow t).1 ao.1 (λa l=>cg (I.8 a l) (n.grow t).1) (by rw[mb aQ λh N o i aS aI ap=>?_];rw[⟨h,N,o,i,aS,aI,ap⟩]) bC
theorem Inv.At.narrow{bx:List aE}(c:an.At g p bx L w)(Ď:an.At g p r L b)(cC:∀a∈r,a∈bx)(C:b.heap.objs.size<=Ų (ű (Q7 w))):an.At g p r L w:=⟨an.mono _ _ _ c.1 λa l=>.inl<|cC a l,λa l=>kO (Ď.2 a l) λdO d5 eb e9 f_=>⟨dO,d5,eb,e9,cg f_ C⟩,c.3⟩
theorem bG.Bs(n:bG g p r L aa y b)(cz:nz y)(cC:∀C∈cL,C∈r)(aL:∀C∈cL,C∉cc p)(t:bb cL aD b w)(l:gU g w)(bV:∀a∈aZ,b.heap.objs.size<=a):bG g p (aZ++r) L w.heap.objs.size y w:=by rw[jh n.3 λcS al af am a'=>⟨dr _,l,cS,al.keeps λa l k i=>t.1 a k (λe=>aL a e l) i,λf bz R=>bt (af f bz R) λz aQ q=>c1 (cz f bz R) λaG bN=>?_,am,a'⟩];obtain rfl:=bN;rw[⟨z,aQ,ck.to (λa k l i=>⟨t.1 a k (λe=>l<|cC a e) i,by rwa[gW jf<|gW not_or];rw[⟨λe=>b2 (dK i)<|bV a e,l⟩]⟩) _ _ q⟩]
theorem AccAt.wide(q:AccAt b.heap r av b8)(t:bb cL aD b w)(cC:∀C∈cL,C∈r)(c7:av∉cL)(bV:∀a∈aZ,b.heap.objs.size<=a):AccAt w.heap (aZ++r) av b8:=bt q λN n q=>⟨N,n.at λk i=>t.1 _ k c7 i,b9.to (λa k l i=>⟨t.1 a k (λe=>l<|cC a e) i,by rwa[gW jf<|gW not_or];rw[⟨λe=>b2 (dK i)<|bV a e,l⟩]⟩) _ _ q⟩
theorem qv.next(aI:eG[Q+1]?=W t)(aM:t.is_async=0)(af:gu t.ifs<=1)(am:∀cd,eG[Q+2]?=W cd->cd.is_async=0)(bi:zO t.iter)(T:vv g x O y ii ag)(f9:xK g x s O an y t.target t.iter bv)(hk:AllP (λf k=>mT ag O t.target f/\sI t.target f y/\qv g x s O an eG dT a2 ax (Q+1) t.ifs (k0 t.target f y) k) bv dU):qv g x s O an eG dT a2 ax Q ii y dU.flatten:=by intro p r L ay aa av ao G I c7 cz b8 b ae n Us ch A aj;rw[Y.bind<|T.bF ao G I n λas aK=>?_];rwa[tY V<|U aI];have dd:=(n.grow aK).now;have hM:=I.up (n.grow aK).1;have uA:=Us.it aK (λu e=>db e) λu e=>db e;rw[Y.bind<|f9 p r L ay _ as.gens.size as ao G hM dd uA (dr _) _ λa4 ar a7 Ut L9 pw=>?_];have dD:=dd.yT cz (λC ae=>(uA.2 C ae).1) (λC ae=>(uA.2 C ae).2.2.1) a7 Ut;rwa[dH<|Y.eq (U (bi ..) V)];rw[ev<|dR<|pw _ λdE co bQ aZ b5 St b4 aN=>?_];have Dg:=dd.2.1.2;have CF:=a5 a7.2 b4.2;have eK:∀a∈aZ,Ų (ű (Q7 as))<=a/\a<Ų (ű (Q7 co)):=λa l=>⟨(aN.3 a l).elim id<|λe=>db e,(aN.6 a<|aN.1.1 a l).1⟩;have nr:∀j∈b5,as.gens.size<=j:=λj T=>(aN.4 j T).elim id λe=>db e;have vR:=a7.trans<|b4.mono (λu e=>db e) λu e=>db e;have i8:=dd.Bs cz (λC ae=>(uA.2 C ae).1) (λC ae=>(uA.2 C ae).2.2.1) vR (Ut.to b4 λu e=>db e) λa l=>(eK a l).1;have ď:av∉an.W:=λe=>(uA.2 av e).2.1 c7;have xb:=(ch.grow aK.all).wide vR (λC ae=>(uA.2 C ae).1) ď λa l=>(eK a l).1;have z7:=(L9 (aZ++r) (λa l=>bR l) λa l=>bS l (λe=>.inr (eK a e).1) .inl).it b4 (λu e=>db e) λu e=>db e;have akp:=hM.8 av (I.5 av c7).1;have di:ue g.prog g.w s t.target (aZ++r) bv co dE bQ aZ b5 St (λu=>True):=⟨aN.1.1,aN.1.2,aN.1.3,λj f b A R st aj=>aN.1.4 j f b A R st λz w aQ kz t=>aj z w (λbx kd f8 pr=>aQ bx kd (λa l=>⟨(f8 a l).1,by rw[hp ((f8 a l).2) (λe=>bS e (λe=>.inr<|.inl e) .inl) λe=>.inr e]⟩) pr) kz t,aN.1.5,aN.1.6⟩;rw[Y.bind<|Y.runOwn<|KV aI aM (λA aY=>aN.1.6 0 co A aN.2 aY)<|Ur aI aM af am ao G hk (hM.l3 eK Dg CF) c7 cz di (λj T=>⟨a5 dd.2.1.4<|nr j T,λe=>b2 (uA.3 j e).2<|nr j T⟩) (λa l=>⟨b7 l,λe=>b2 (hM.8 a (I.4 a e).1) (eK a l).1,a5 Dg (eK a l).1⟩) (λa l=>⟨λe=>(aN.6 a l).2<|e▸(I.5 av c7).1,λe=>(aN.6 a l).2<|e▸(I.4 _ bB).1,λe=>(aN.6 a l).2 (uA.2 a e).1⟩) i8 z7 xb ae (bK.refl ..) aN.2 λw cd bs h8 gy u=>Y.pure ?_];have ox:=a5 aK.2<|a5 CF cd.2;rw[aj w ?_ (bs.D_ (λa l=>bR l)<|a5 n.1 ox) (h8.narrow Us (λa l=>bR l) ox) ⟨gy.choose,gy.choose_spec.1,b9.to (λa k l i=>⟨i,λe=>l<|bR e⟩) _ _ gy.choose_spec.2⟩];rw[((aK.mono (λu c=>db c) λu c=>db c).trans<|vR.mono (λa l=>bR l) λu c=>c).hj cd (λa l=>bS l (λe=>.inr<|fY<|a5 aK.2 (eK a e).1) .inl) λj T=>bS T (λe=>.inr<|sy<|a5 aK.4<|nr j e) .inl]
inductive Mx(g:ea)(x:Nat)(s:cq)(O:dA)(an:Inv)(y:b_)(dT:bJ)(t:lC)(b5:List lC)(a2:dA)(ax:Pos)(bv:List bj)(dU:List<|List bj):Prop|mk(f2:n3 a2 O=ag)(f3:t.is_async=0)(gw:gu t.ifs<=1)(j_:∀cd,(t::b5)[1]?=W cd->cd.is_async=0)(lL:zO t.iter)(oA:AllP (λf k=>mT ag (ey a2 O) t.target f/\sI t.target f (gK (ey a2 O) y)/\qv g x s (ey a2 O) an (t::b5) dT a2 ax 0 t.ifs (k0 t.target f<|gK (ey a2 O) y) k) bv dU)(w5:gu dU.flatten<=cy):Mx g x s O an y dT t b5 a2 ax bv dU
theorem Uu(aA:g.Ok)(cf:Mx g x s p.scope an y dT t b5 a2 ax bv dU)(cz:nz y)(f9:dk g.prog g.w s [] [] p (λD=>bG g p r L b.heap.objs.size y D/\b.gens.size<=D.gens.size/\bb [] [] b D) t.iter<|λD a4=>Mw g.prog g.w s t.target b.heap.objs.size b.gens.size ky ll r an.W bv lm a4 D)(zR:∀a∈ky,a∈r/\Ų (ű (Q7 g.s0))<=a/\a∉cc p)(Ln:∀j∈ll,g.s0.gens.size<=j/\j∉an.G)(ao:eW x s)(I:cx g p r L ay aa)(n:bG g p r L aa y b)(T:an.At g p r L b)(aj:∀aP av w,(∃S,w.heap.Ns aP S)->bb (ky++an.W) (ll++an.G) b w->b.heap.objs.size<=aP->b.heap.objs.size<=av->aP≠av->aP<Ų (ű (Q7 w))->AccAt w.heap (aP::av::r) av dU.flatten->(∀bx,(∀a∈r,a∈bx)->(∀a∈bx,a∈aP::av::r)->an.At g p bx L w)->lm w->gU g w->zA g.prog g.w s oF A (.ref av) aP w):Y g.prog g.w s (wv (.ListComp dT (t::b5) a2 ax) a2 p (Bp (t::b5) ax) (Bq []) (yH<|t::b5) (Br (t::b5) p) oF) A b:=by
 rwa[KY (Lm I n cf.1) cf.2 (λf=>cf.5 p f)];have g7:=n.now;have en:=I.up n.1;rw[f9 b _ ⟨g7,dr _,bK.refl ..⟩ λa4 as aK pw=>pw _ λdE ar bQ aZ mh St a7 aN=>(dj dE V λav aP cv gm=>⟨λA aY=>aN.1.6 0 cv A (aN.1.2 0 ar cv [] [] aN.2 gm.3 aR aR) aY,(fb gm.4 λc7 eI qb=>ds (@l9 _ _ _ _) ?_)⟩)];intro dx;have fO:=a5 aK.2 a7.2;have Dg:=g7.2.1.2;have sK:=gm.3.2;have eK:∀a∈aZ,(b.heap.objs.size<=a\/a∈ky)/\a<Ų (ű (Q7 ar)):=λa l=>⟨aN.3 a l,(aN.6 a<|aN.1.1 a l).1⟩;have f8:∀a∈aP::av::(aZ++r),a∈r\/b.heap.objs.size<=a:=λa l=>dw l (λi=>.inr<|i▸a5 fO eI) λl=>dw l (λi=>.inr<|i▸a5 fO c7) λl=>bS l (λe=>(eK a e).1.elim .inr λC=>.inl (zR a C).1) λe=>.inl e;have xc:∀a∈aP::av::(aZ++r),a<Ų (ű (Q7 cv)):=λa l=>dw l (λi=>i▸gm.5.2) λl=>dw l (λi=>i▸gm.5.1) λl=>bS l (λe=>cg (eK a e).2 sK) λe=>cg (en.8 a e)<|a5 fO sK;have xd:∀a∈[av],(b.heap.objs.size<=a\/(a∈r/\Ų (ű (Q7 g.s0))<=a/\a∉cc p))/\a∈aP::av::(aZ++r)/\aP≠a:=λa e=>Fm (bg e)▸⟨.inl<|a5 fO c7,mt bB,ib qb⟩;have rB:cx g (l9 a2 (hs p a2.names []) aP p) (aP::av::(aZ++r)) [av] g.tabs cv.heap.objs.size:=Li aA en cf.1 (a5 fO eI) bB (λa l=>mt<|mt<|bR l) xc Dg f8 xd;have ke:=(aK.trans a7).trans gm.3;have xe:bG g (l9 a2 (hs p a2.names []) aP p) (aP::av::(aZ++r)) [av] cv.heap.objs.size (gK (ey a2 p.scope) y) cv:=Lj en g7 cf.1 ke (a5 fO eI) gm.2 (dr _) (λa l=>(f8 a l).imp id fY) λa e=>.inl<|bg e▸a5 fO c7;have ch:AccAt cv.heap (aP::av::(aZ++r)) av []:=⟨#[],gm.1,by show b9 _ _ [] [];rw[V]⟩;have di:ue g.prog g.w s t.target (aP::av::(aZ++r)) bv ar dE bQ aZ mh St lm:=⟨aN.1.1,aN.1.2,aN.1.3,λj f b A R st aj=>aN.1.4 j f b A R st λz w aQ kz t=>aj z w (λbx kd f8 pr=>aQ bx kd (λa l=>⟨(f8 a l).1,by rw[hp ((f8 a l).2) (λe=>dw e (λi=>.inr<|.inr<|i▸eI) λe=>dw e (λi=>.inr<|.inr<|i▸c7) λe=>bS e (λe=>.inr<|.inl e) .inl) λe=>.inr e]⟩) pr) kz t,aN.1.5,aN.1.6⟩;have p':∀a∈cc<|l9 a2 (hs p a2.names []) aP p,a=aP\/a∈cc p:=λa l=>by
  rw[dw l (λe=>?_) λe=>?_]
  .rw[.inl e]
  .rw[mL e λn aO fd=>bL fd<|.inr<|t3<|CD a2.names [] aR n aO]
 have Đ:an.At g (l9 a2 (hs p a2.names []) aP p) (aP::av::(aZ++r)) [av] cv:=by have h8:=(T.wide (λa l=>mt<|mt<|bR l) f8).it ke aR aR;rw[⟨h8.1,λa l=>kO (h8.2 a l) λdO d5 eb e9 f_=>?_,h8.3⟩];have cG:=(T.2 a l).2.2.2.2;rw[⟨dO,λe=>b2 cG<|bg e▸a5 fO c7,λe=>(p' a e).elim (λe=>b2 cG<|e▸a5 fO eI) eb,e9,f_⟩]
 have ae:gu ([]:List bj)+gu dU.flatten<=sizeLine:=by simpa using cf.7
 rw[Ur (x:=x) (y:=gK (ey a2 p.scope) y) (t:=t) (bv:=bv) (dU:=dU) (b8:=[]) (co:=ar) (aZ:=aZ) V cf.2 cf.3 cf.4 ao V cf.6 rB bB (λf bz e=>by obtain⟨_,mg,X,rfl⟩:=CE e;obtain⟨z,rfl⟩:=cz _ _ X;rw[⟨z,V⟩]) di (λj gc=>(aN.4 j gc).elim (λe=>⟨a5 g7.2.1.4 e,λdf=>b2 (T.3 j df).2 e⟩)<|Ln j) (λa l=>⟨mt<|mt<|b7 l,λe=>(p' a e).elim (λe=>b2 (eK a l).2<|e▸eI) λe=>(eK a l).1.elim (λC=>b2 (en.8 a (en.4 a e).1) C) λC=>(zR a C).2.2 e,(eK a l).1.elim (a5 Dg) λC=>(zR a C).2.1⟩) (λa l=>⟨λe=>b2 (aN.6 a l).1<|e▸c7,λe=>b2 (aN.6 a l).1<|e▸eI,(aN.6 a l).2⟩) xe Đ ch ae gm.3 (aN.1.2 0 ar cv [] [] aN.2 gm.3 aR aR) λw cd bs h8 gy bq=>?_];rw[bt bs.3 λcS al u=>bt al.2 λS bk u=>aj aP av w (ov S bk) ?_ (a5 fO eI) (a5 fO c7) (ib qb) (cg gm.5.2 cd.2) ?_ ?_ bq bs.2]
 .rw[(ke.mono aR aR).hj cd (λa l=>bS l (λe=>(eK a e).1.elim (λC=>.inr<|fY C) λC=>.inl<|b7 C) λe=>bS e (λe=>dw e (λi=>.inr<|fY<|i▸a5 fO c7) λe=>.inr<|fY<|(bg e)▸a5 fO eI) λe=>.inl<|bR e) λj T=>bS T (λT=>(aN.4 j T).elim (λe=>.inr<|sy e) λe=>.inl<|b7 e) λe=>.inl<|bR e]
 .rw[bt gy λN aO ap=>?_];have oz:∀a∈aP::av::r,a∈aP::av::(aZ++r):=λa e=>by
   rw[dw e (λi=>?_) λe=>?_]
   .rw[U i bB]
   rw[dw e (λi=>?_) λe=>?_]
   .rw[U i<|mt bB]
   .rw[mt<|mt<|bR e]
  rw[⟨N,aO,b9.to (λa k l i=>⟨i,λe=>l<|oz a e⟩) _ _ (by simpa using ap)⟩]
 .intro bx dX đ;rw[⟨an.mono _ _ _ h8.1 λa l=>.inl<|hp (fT.mp<|đ a l) (λe=>?_) λe=>?_,λa l=>kO (T.2 a l) λdO d5 eb e9 f_=>⟨dX _ dO,d5,eb,e9,cg f_<|a5 ke.2 cd.2⟩,h8.3⟩]
  .rw[U e bB]
  rw[dw e (λe=>?_) λe=>?_]
  .rw[U e<|mt bB]
  .rw[mt<|mt<|bR e]
end
theorem aci{q h:aE}{t o:Nat}{D aG z:Tok}(ap:tr b.heap q 0 o 1 D aG z)(ak:o<2^62)(aI:b.heap.IsGen h t)(ew:cq)(nt:aF->au->Prop)(ca:PySem.Fin->au->Prop)(i2:∀X,q1 X ((aB b)+3) ((aB b)+1) ((aB b)+2) .none->mx X ((aB b)+1) (.ref<|aB b) (.ref h)->mx X ((aB b)+2) .none .none->o9 X (aB b) 0 o 1->Ų (ű X)=(aB b)+4->(∀a k,b.heap.get? a=W k->Ű X a=W k)->ca (.done<|.ret<|.ref<|(aB b)+3) {b with heap:=X}):ce (cD ſ v) ew (QI ⟨[.type "zip",.ref q,.ref h],[]⟩) ca nt b:=by
 unfold QI;rwa[ng (by unfold Rn;rfl)];try dsimp only
 rw[pd (by simp)<|bc<|jm ?_];intro jI;unfold Ro;simp only[u8,BO];have d4:tH 0 o 1=o:=F5 o;have mO:(o:Int)<2^62:=by exact_mod_cast ak
 rw[bc<|bc<|kQ<|IL ap (ER bf bf (bM (.cN (.g<|.n 4611686018427387904)<|.c .x) [] Z) mO)<|cr<|Fm d4▸?_];have Mz:(b.heap.push {cls:=.type "range_iterator",data:=.fields #[hT 0,hT o,hT 1]}).objs.size=(aB b)+1:=f' ..;have MA:o9 (b.heap.push {cls:=.type "range_iterator",data:=.fields #[hT 0,hT o,hT 1]}) (aB b) 0 o 1:=fu _ V;have cW:∀a k,b.heap.get? a=W k->Ű (b.heap.push {cls:=.type "range_iterator",data:=.fields #[hT 0,hT o,hT 1]}) a=W k:=λa k i=>eY _ i;generalize(b.heap.push {cls:=.type "range_iterator",data:=.fields #[hT 0,hT o,hT 1]})=bw at*;have Ch:bw.IsGen h t:=by rw[zi aI λk nm CS aL q=>?_];rw[⟨k,nm,CS,cW _ _ aL,q⟩]
 rw[bc<|kQ<|wpAny_pyIter_gen Ch<|cr<|cr<|cr<|bc (m:=newTuple [fv<|aB b,fv h])<|Bw<|bc (m:=newTuple [q3,q3])<|Bw<|bc ?_];unfold J3;rw[jE (cr ?_) (by show Array.size _<=cy+2;rwa[U y3];rw[a5 (by simp[YR]:_<=10) bf])];have xD:(bw.push {cls:=.type "tuple",data:=.seq #[fv<|aB b,fv h]}).objs.size=(aB b)+2:=U (f' ..)<|U Mz V;have MB:((bw.push {cls:=.type "tuple",data:=.seq #[fv<|aB b,fv h]}).push {cls:=.type "tuple",data:=.seq #[.none,.none]}).objs.size=(aB b)+3:=U (f' ..)<|U xD V;have hP:mx (bw.push {cls:=.type "tuple",data:=.seq #[fv<|aB b,fv h]}) ((aB b)+1) (.ref<|aB b) (.ref h):=by rw[bL Mz<|fu _ V]
 have iR:∀a k,Ű bw a=W k->Ű (bw.push {cls:=.type "tuple",data:=.seq #[fv<|aB b,fv h]}) a=W k:=λa k i=>eY _ i;rw[((Fm MB▸Fm Mz▸Fm xD▸?_):ca (.done<|.ret<|.ref ((bw.push {cls:=.type "tuple",data:=.seq #[fv<|aB b,fv h]}).push {cls:=.type "tuple",data:=.seq #[.none,.none]}).objs.size) {b with heap:=(((bw.push {cls:=.type "tuple",data:=.seq #[fv<|aB b,fv h]}).push {cls:=.type "tuple",data:=.seq #[.none,.none]}).push {cls:=.type "zip",data:=.fields #[.none,.bool be,.bool be,.ref bw.objs.size,.ref (bw.push {cls:=.type "tuple",data:=.seq #[fv<|aB b,fv h]}).objs.size]})})];generalize(bw.push {cls:=.type "tuple",data:=.seq #[fv<|aB b,fv h]})=bO at*;have lY:mx (bO.push {cls:=.type "tuple",data:=.seq #[.none,.none]}) ((aB b)+2) .none .none:=xD▸fu _ V;have MC:∀a k,Ű bO a=W k->Ű (bO.push {cls:=.type "tuple",data:=.seq #[.none,.none]}) a=W k:=λa k i=>eY _ i;generalize(bO.push {cls:=.type "tuple",data:=.seq #[.none,.none]})=kc at*;have GJ:∀(f:Obj)a k,Ű kc a=W k->Ű (kc.push f) a=W k:=λf a k i=>eY _ i;rw[i2 _ (bL MB<|fu _ V) (GJ _ _ _<|MC _ _ hP) (GJ _ _ _ lY) (GJ _ _ _<|MC _ _<|iR _ _ MA) (U (f' ..)<|U MB V) λa k i=>GJ _ _ _<|MC _ _<|iR _ _<|cW _ _ i]
theorem acj{q h:aE}{t o:Nat}{D aG z:Tok}{A:aF->au->Prop}(ap:tr b.heap q 0 o 1 D aG z)(ak:o<2^62)(aI:b.heap.IsGen h t)(c:∀X,q1 X ((aB b)+3) ((aB b)+1) ((aB b)+2) .none->mx X ((aB b)+1) (.ref<|aB b) (.ref h)->mx X ((aB b)+2) .none .none->o9 X (aB b) 0 o 1->Ų (ű X)=(aB b)+4->(∀a k,b.heap.get? a=W k->Ű X a=W k)->A (.ref<|(aB b)+3) {b with heap:=X}):ce (cD ſ v) s (call (.type "zip") [.ref q,.ref h]) A aC b:=by rw[IS PySem.F.called_zip bf (PySem.F.typeCall_zip_2 _ _) (PySem.F.newCall_zip_2 _ _) (λnX=>JR nX _ _) PySem.F.entry_zip_new (S:=λu ca w=>w=b/\∀X,q1 X ((aB b)+3) ((aB b)+1) ((aB b)+2) .none->mx X ((aB b)+1) (.ref<|aB b) (.ref h)->mx X ((aB b)+2) .none .none->o9 X (aB b) 0 o 1->Ų (ű X)=(aB b)+4->(∀a k,b.heap.get? a=W k->Ű X a=W k)->ca (.ok<|.ret<|.ref<|(aB b)+3) {b with heap:=X}) ?_ ⟨V,λX h a g x i J=>⟨⟨_,h,V⟩,c X h a g x i J⟩⟩];rintro ü ý ew ca w⟨rfl,i2⟩;rw[aci ap ak aI ew.in1 _ _ i2]
section
section
variable{ſ:cM}{v:cU}{s:cq}{b w:au}{h aP:aE}{t o S Q:Nat}{bQ aZ:List aE}
def oT(J:Nat->Int)(j:Nat)(z:aF):Prop:=∃D,z=.int (J j) D
theorem ack(av:sX C f0 e' ep h aP bQ aZ)(cO:s.handled=aX)(ap:s.depth<f6)(bk:Q+o<=S)(ar:au):ue ſ v s (.Tuple az m h4) r ((cZ o).map λ(j:Nat)=>.tup [.int j,.int<|J<|Q+j]) ar C ([C,f0,e',ep]++h::aP::bQ) ([C,e',ep]++aP::aZ) [t] (λj b=>rQ ſ v s.in1 C f0 e' ep h t aP bQ aZ o S Q (oT J) .none j b) (λb=>jW ſ v s.in1 h t aP bQ aZ S (oT J) (Q+o) b):=⟨(λa l=>by
  rw[bS l (λe=>?_) λe=>?_]
  .rw[b7 ?_];simp only[fT,na,or_false]at e⊢;rcases e with e|e|e<;>simp[e]
  .rw[bR<|av.sub a e]),(λj b w cL cf st il dz jK=>st.frame av il dz λe=>jK t e bB),(λb w cL cf st il dz jK=>st.frame av.8 il (λa l e=>dz a l<|bR e) λe=>jK t e bB),(λj f b A R st aj=>by
  have T:j<o:=by simpa using(j4.mp R).1
  rw[eX,nN T]at R;obtain rfl:bj.tup [.int j,.int<|J<|Q+j]=f:=ek R;rw[kv<|Y.of<|acg st av ap T (oy (.t (.a .x .y) .z) [.l (.a .x .w) .z,.t .y .w] Z bk T) λa1 D z as aQ cV Ē n4 uB ju=>⟨_,V,(c1 aQ λfp n2=>?_)⟩];obtain rfl:=n2;rw[Y.of<|wpAny_letOwnedTupleGo_zip n4.1 λX ml dy=>ds (@nd _ _ _ _ _) ?_];intro dx;have lR:bb [C] [] as {as with heap:=X}:=bK.same dy;have ff:∀a∈[f0,e',ep],∀k,Ű (Q7 as) a=W k->Ű X a=W k:=λa l k i=>dy.extBut a k (by
   simp only[fT,na,or_false]at l;rcases l with rfl|rfl|rfl
   .rw[av.1]
   .rw[av.2]
   .rw[av.3]) i;rw[kP n4.3 λn e Mm=>aj _ _ (λbx kd f8 pr=>?_) ⟨ml,ff f0 (bB) _ n4.2,⟨n,e,ff e' (mt bB) _ Mm⟩,ff ep (mt<|mt bB) _ n4.4,n4.5.frame av.8 lR (λa l e=>av.7 C (bB)<|bg l▸e) λe=>db e⟩<|(bb.moved uB ju).trans<|lR.mono (λa l=>by rwa[U (bg l)];rw[bB]) aR];rw[⟨_,a1,_,V,V,⟨_,dy.extBut _ _ Ē cV,V,0,V⟩,?_⟩];rw[⟨_,_,V,⟨D,V⟩,_,_,V,⟨fp,V⟩,V⟩]),(λb A st aj=>by
  rw[dg,mE]at st;rw[kv<|Y.of<|ach cO st av (dr _) λX aT ju=>?_];have lR:bb [C,ep] [] b {b with heap:=X}:=bK.heap (λa k l i=>aT a k (λe=>l (by simp[e])) (λe=>l (by simp[e])) i) ju.1;rw[aj _ (lR.mono (λa l=>?_) aR)<|st.5.frame av.8 lR (λa l e=>av.7 a ?_ e) λe=>db e]
  .simp only[fT,na,or_false]at l;rcases l with rfl|rfl<;>simp
  .simp only[fT,na,or_false]at l;rcases l with rfl|rfl<;>simp),(λj b A st aj=>Y.of<|IM st.1 aj)⟩
end
variable{g:ea}{x:Nat}{y:b_}{p:Env}{r L ay:List aE}{aa:Nat}{s:cq}{b w:au}{ax dm el d':Pos}{i:bJ}{f:Str}{az:List bJ}{iR:Nat}{h4:Pos}{h aP:aE}{t o S Q:Nat}{bQ aZ cL:List aE}{J:Nat->Int}
theorem acl{M:au->Prop}(aA:g.Ok)(ao:eW x s)(I:cx g p r L ay aa)(cl:∀D,M D->bG g p r L aa y D/\jW g.prog g.w s.in1 h t aP bQ aZ S (oT J) Q D/\t<D.gens.size/\∀a∈h::aP::bQ,a<Ų (ű (Q7 D)))(ē:t0 [] [] M)(bq:dk g.prog g.w s [] [] p M i<|hC o)(R:dk g.prog g.w s [] [] p M (.Name f d')<|λu a4=>a4=.ref h)(Ĕ:g.gl "range"=W (.type "range"))(ĕ:g.gl "zip"=W (.type "zip"))(MD:fe p.scope "range"=ag)(ME:fe p.scope "zip"=ag)(ak:dS i=ag)(ae:o<2^62)(bk:Q+o<=S)(i3:oN h aP bQ aZ)(dz:∀a∈h::aP::bQ,a∉cL)(Ė:∀a∈cL,a<aa){K:Nat}{sR:Pos}:dk g.prog g.w s [] [] p M (.Call (.Name "zip" dm) [.Call (.Name "range" el) [i] [] ax,.Name f d'] [] h4) (λD a4=>Mw g.prog g.w s (.Tuple az iR sR) aa K (aP::aZ) [t] r cL ((cZ o).map λ(j:Nat)=>.tup [.int j,.int<|J<|Q+j]) (λb=>jW g.prog g.w s.in1 h t aP bQ aZ S (oT J) (Q+o) b) a4 D):=by
 have lp:jL [] [] r M:=⟨ē,λb n f R=>cg (I.8 f R) (cl b n).1.1,aR⟩;have Uv:=h3 (y:=y) aA I Ĕ MD;have Uw:=h3 (y:=y) aA I ĕ ME;have p3:dk g.prog g.w s [] [] p M (.Call (.Name "range" el) [i] [] ax) (λb g=>∃q D aG z,g=.ref q/\tr b.heap q 0 o 1 D aG z):=by rw[lj lp ⟨Uv.1,λb n=>Uv.2 b (cl b n).1⟩ V (hZ ak lp bq (iL _) jo) ?_ (by simp[ak])];rintro b aV n bN A aj;rw[d7 bN λu u cB dt eh=>U cB<|c1 dt λD fw=>U fw<|U eh<|Y.of<|EQ<|aj _ _ (bK.new _ _ b _ _)<|FL _ _ _ _ V<|fu _ V]
 have LJ:nZ [] [] (λb g=>∃q D aG z,g=.ref q/\tr b.heap q 0 o 1 D aG z):=by rintro b w bm fd t;rw[FI fd λq D aG z i c=>(FL q D aG z i<|t.1 _ _ (λe=>db e) c)]
 rw[lj lp ⟨Uw.1,λb n=>Uw.2 b (cl b n).1⟩ V (hZ V lp p3 LJ<|hZ V lp R (λu u u c u=>c) jo) ?_ V];rintro b aV n gS A aj;rw[d7 gS λu u gT hK jp=>d7 jp λu u j' kW mR=>U gT<|FI hK λq D aG z hJ ap=>U hJ<|U j'<|U kW<|U mR<|lG (cl b n) λzX aI kB cG=>Y.of<|acj ap ae aI.1 λX Ux vu zI f9 d4 aT=>?_];have il:bb [] [] b {b with heap:=X}:=bK.heap (ab:=b.toks) (λa k u i=>aT a k i)<|d4▸hf _ _;have lt':∀a∈h::aP::bQ,a<b.heap.objs.size:=cG;have av:sX (b.heap.objs.size+3) (b.heap.objs.size+1) (b.heap.objs.size+2) b.heap.objs.size h aP bQ aZ:=by
  rw[⟨?_,?_,?_,?_,?_,?_,λa l e=>?_,i3⟩];all_goals first|(show@Ne Nat _ _;lia)|skip
  have ej:b.heap.objs.size<=a:=by simp only[fT,na,or_false]at l;rcases l with rfl|rfl|rfl|rfl<;>(show@LE.le Nat _ _ _;(first|rw[hf ..]|rw[dr _]|rw[j2 _]))
  rw[b2 (lt' a e) ej]
 rw[aj _ _ il λA aj=>Y.of<|IM Ux<|aj _ _ _ _ _ _ (bK.refl ..) ⟨ack av ao.1 (mA (a5 (hf _ _) ao.2) bf) bk _,⟨Ux,vu,(kR _ _ zI),?_,aI.frame i3 il aR λe=>db e⟩,λa l=>?_,λj T=>.inr T,λj T=>(bg T)▸kB,λa l=>?_⟩]
 .rw[(f9:o9 X _ _ _ 1)]
 .rw[bS l (λe=>?_) λe=>?_]
  .rw[.inl<|a5 zX.1 ?_];simp only[fT,na,or_false]at e;rcases e with rfl|rfl|rfl<;>(show@LE.le Nat _ _ _;(first|rw[hf ..]|rw[dr _]))
  .rw[.inr e]
 .rw[U (show(aB _)=_ from d4)<|bS l (λe=>?_) λe=>?_]
  .have ej:b.heap.objs.size<=a/\a<b.heap.objs.size+4:=by simp only[fT,na,or_false]at e;rcases e with rfl|rfl|rfl|rfl<;>(constructor<;>first|(show@LE.le Nat _ _ _;(first|rw[hf ..]|rw[j2 _]|rw[kN _]|lia))|(show@nQ Nat _ _ _;omega))
   rw[⟨ej.2,λe=>b2 (Ė a e)<|a5 zX.1 ej.1⟩]
  .rw[⟨cg (lt' a e)<|hf _ _,dz a e⟩]
end
section
def fI(aq:List Int):Prop:=∀v∈aq,0<=v/\v<256
noncomputable def br(aq:List Int):Array UInt8:=(aq.map λj=>j.toNat.toUInt8).toArray
@[reducible]def ha(aq:List Int):bj:=.oH<|br aq
theorem n8(aq:List Int):(br aq).size=gu aq:=dg ..
theorem MF(c:0<=j/\j<256):((j.toNat.toUInt8).toNat:Int)=j:=by have:j.toNat<256:=tU (.t .x<|.n 256) [.b2 .x<|.n 256,.e0 (.c .x) .x] Z c.2<|pg c.1;simp[Nat.toUInt8,UInt8.toNat_ofNat',Fg this];first|rw[Fa c.1]|rw[Int.max_eq_left c.1]|rw[c.1]
theorem MG(c:Q<gu aq):(br aq)[Q]?=W (aq.getD Q 0).toNat.toUInt8:=by simp[br,c,dG]
theorem MH(l:fI aq)(c:Q<gu aq):0<=aq.getD Q 0/\aq.getD Q 0<256:=Fm (dG)▸Fm (eT c)▸l _ (nb c)
section
variable{g:ea}{x:Nat}{O:dA}{y:b_}{p:Env}{r L ay:List aE}{aa:Nat}{s:cq}{b:au}{i:bJ}{m:i6}{z:bj}{j:Int}{ax:Pos}{aq:List Int}{a:Array UInt8}
theorem fB.EN(c:fB aa r m (.oH a) b a4):∃h,a4=.ref h/\b.heap.get? h=W (c9 a):=by cases m with|fr=>rw[fK c λh i ak q=>?_];rw[(dj h i q)]|cH=>rw[fK c λh i u q=>(dj h i q)]|ls=>rw[bt c λh i q=>?_];rw[(dj h i q)]
theorem MI{X:e1}(hr:aa<=b.heap.objs.size)(S:mM b.heap X<|c9 a):fB aa r .fr (.oH a) {b with heap:=X} (.ref b.heap.objs.size):=⟨_,V,hr,S.1⟩
theorem mM.grow(S:mM b.heap X k):bb [] [] b {b with heap:=X}:=bK.heap (λa k u i=>S.2 a k i)<|S.3▸j2 _
namespace ai
theorem Q9(bw:ai g x O y e8 m<|ha aq)(bO:cI g x O y gX j)(aM:0<=j)(R:om j<gu aq)(l:fI aq)(ae:gu aq<=cy)(T:oD gX=ag:=by rfl):cI g x O y (.Subscript e8 gX ax) (aq.getD (om j) 0):=mQ λs p r L ay aa ao G I=>t4 I.ok (bw s p r L ay aa ao G I) fB.hV (eP bO ao G I) λb e2 fG n aA bl=>by rw[bt (fB.EN aA) λh bN aI=>U bN<|c1 bl λD cB=>U cB ?_];intro A aj;rw[Y.of<|vc (g5 aI) wR.lookup (Sd aI aM (vl (.b2 .x<|.n 9223372036854775808) [.t .x .y,.l .y .z,.e .z<|.n 16777216,.cN .x<|.c .x] Z R ae V<|mK _) (MG R)<|Fm (MF<|MH l R)▸aj _ _ (bK.tok ..) ⟨_,V⟩)<|Cp T _ _]
theorem EO(o:qm g)(c:ai g x O y i m<|ha aq)(ae:gu aq<2^62)(R:fe O "len"=ag:=by cbv)(ak:dS i=ag:=by rfl):cI g x O y (.Call (.Name "len" d') [i] [] ax) (gu aq):=mQ λs p r L ay aa ao G I=>by subst G;rw[lj I.ok (h3 o.ok I o.len R) V (hZ ak I.ok (c s p r L ay aa ao V I) fB.hV jo) ?_ (by simp[ak])];rintro b aV aO gT;rw[d7 gT λe2 q hK aA jp=>U hK<|U jp<|bt (fB.EN aA) λh j' aI=>U j' ?_];intro A aj;rwa[Y.of<|Sa aI (by rwa[U (n8 ..)];rw[bM (.b2 (.c .x)<|.n 9223372036854775808) [.t .x<|.n 4611686018427387904] Z ae])];rw[U (n8 ..)<|aj _ _ (bK.tok ..) ⟨_,V⟩]
theorem acm{o:Nat}(bw:ai g x O y e8 m<|ha aq)(bO:cI g x O y E o)(ae:gu aq<=cy):ai g x O y (.Subscript e8 (.Slice (W E) aX aX ax) bs) .fr (ha<|aq.drop o):=λs p r L ay aa ao G I=>t4 I.ok (bw s p r L ay aa ao G I) fB.hV (F2 I.ok (lo:=W o) (T:=aX) (eP bO ao G I) trivial) λb e2 fG n aA bl=>by
  rw[bt (fB.EN aA) λh dt aI=>U dt<|mb bl λbz F0 F1 eh ih oE KR=>U eh ?_];intro A aj;rw[Y.of<|vc (g5 aI) wR.lookup (Uc aI ih oE KR (by rwa[U (n8 ..)];rw[ae]) ?_) V];have i:zg (br aq) (W (o:Int)) aX=br (aq.drop o):=by
   rwa[U (KBc.picked_eq ..)];simp only[IZ];rwa[U (EX ..)];have ak:(br aq).toList.length=gu aq:=dg ..;rw[Fm (n8 aq)▸hp (iv o (gu aq)) (λc=>?_) λc=>?_]
   .rw[U (yW c)<|U (q2<|o'.symm▸Fm ak▸dr _) ?_];simp[br,u9]
   .rw[U (yX c)<|U (wC<|Fm ak▸dr _)<|U (wC c) ?_];simp[br]
  rw[Fm i▸aj _ _ (bK.new _ _ b _ b.toks) ⟨_,V,n.1,fu _ V⟩]
theorem EP{aq:List Int}:∀{N:List aF},fI aq->b9 b.heap r (aq.map .int) N->wV N/\(N.filterMap p5).toArray=br aq:=by induction aq with
 |nil=>intro N eM c;have X:=c;rw[U X<|⟨aR,V⟩]|cons j aq a3=>
  intro N l c;have X:=c;rw[d7 X λg aV fw af am=>U fw<|c1 af λD hJ=>U hJ<|c0 (a3 (λv bV=>l v<|mt bV) am) λdm el=>?_];have T:=l j bB;rw[⟨λz aQ=>dw aQ (λi=>(ie j D i T.1 T.2))<|dm z,?_⟩];have ė:aV.filterMap p5=aq.map λj=>j.toNat.toUInt8:=by have:=congrArg Array.toList el;rw[this]
  simp[br,p5,ė]
theorem aco{e:Pos}(aA:g.Ok)(c:ai g x O y i m<|bu aq)(aI:g.gl "bytearray"=W (.type "bytearray"))(l:fI aq)(ae:gu aq<=cy)(R:fe O "bytearray"=ag:=by cbv)(ak:dS i=ag:=by rfl):ai g x O y (.Call (.Name "bytearray" e) [i] [] ax) .fr (ha aq):=λs p r L ay aa ao G I=>by
 subst G;rw[lj I.ok (h3 aA I aI R) V (hZ ak I.ok (c s p r L ay aa ao V I) fB.hV jo) ?_ (by simp[ak])];rintro b aV aO kW A aj;rw[d7 kW λe2 q mR ka n2=>U mR<|U n2<|jH ka.iw λh N o uk fM ap=>U uk<|c0 (EP l ap) λdm el=>?_];have cp:gu N.toList=gu aq:=by have:=ap.length;simpa using this
 rw[Sl ⟨_,fM,V,o,V⟩ dm (cp▸ae) λX S=>?_];rw[el]at S;rw[aj _ _ S.grow<|MI aO.1 S]
theorem acp(aA:g.Ok)(c:ai g x O y i m<|ha aq)(aI:g.gl "bytearray"=W (.type "bytearray"))(ae:gu aq<=cy)(R:fe O "bytearray"=ag:=by cbv)(ak:dS i=ag:=by rfl):ai g x O y (.Call (.Name "bytearray" e) [i] [] ax) .fr (ha aq):=λs p r L ay aa ao G I=>by subst G;rw[lj I.ok (h3 aA I aI R) V (hZ ak I.ok (c s p r L ay aa ao V I) fB.hV jo) ?_ (by simp[ak])];rintro b aV aO ul A aj;rw[d7 ul λe2 q rt ka xj=>U rt<|U xj<|bt (fB.EN ka) λh ub fM=>U ub (by rwa[Ks Kw (Kx _)<|Kz _];have S:mM b.heap (b.heap.push<|c9 #[]) (c9 #[]):=mM.push V;rw[⟨g5 S.1,(aaa S.1 (S.2 _ _ fM) (gQ<|dK fM) (by rwa[U (n8 ..)];rw[ae]) λX aI G=>⟨V,(λX S=>aj _ _ S.grow<|MI aO.1 S) X<|S.same aI G⟩)⟩])]
end ai
end
end
section
theorem acn:m' (.type "bytearray") "__getattribute__"=pure (W<|.builtin "bytearray.__getattribute__"):=by rwa[U (h_ ..)<|U h'];cbv
theorem acq:m' (.type "bytearray") "__getattr__"=pure aX:=by rwa[U (h_ ..)<|U h'];cbv
section
variable{ſ:cM}{v:cU}{s:cq}{b:au}{h:aE}{a:Array UInt8}
theorem Uy(aL:b.heap.get? h=W (c9 a))(c:A (.builtin "bytearray.extend",[.ref h]) b):ce (cD ſ v) s (yQ (.ref h) "extend" oE) A aC b:=by have cV:=g5 aL;rw[bc<|iu cV acn<|bc<|iu cV acq<|bc<|iu cV Kq.lookup<|ng ZM<|ou aL<|bc<|mv<|cr c]
end
variable{g:ea}{x:Nat}{O:dA}{y:b_}{p:Env}{r L ay a1:List aE}{aa:Nat}{s:cq}{b:au}{f:Str}{i vy e8:bJ}{m:i6}{j aG:Int}{ax d' qc Ti un:Pos}{aq de:List Int}{b0:List fa}{b1:jU->b_->Prop}
theorem Dh{M:au->Prop}{al:au->aF->Prop}(ak:dS i=ag)(c:dk g.prog g.w s [] [] p M i al):nk g.prog g.w s [] [] p M [i] (λb aV=>∃a4,aV=[a4]/\al b a4):=λb A ax aO aj=>by rw[U (kV ak)<|(Y.bind<|c b _ aO λa4 as aK cW=>ev<|dR<|Y.pure<|Y.pure<|aj _ _ aK<|dj a4 V cW)]
namespace bd
theorem acs(aI:gj y f=W (.o<|ha aq))(R:hL O f=ag)(bq:ai g x O y i m<|bu de)(l:fI de)(ae:gu aq+gu de<cy)(c:bd g x O a1 ((f,.o<|ha<|aq++de)::y) b0 b1)(ak:dS i=ag:=by rfl)(mP:∀p,uZ (.Name f d') "extend" p (ee (.Name f d') p)=ee (.Name f d') p:=by intros;rfl)(iM:(qc.endLine==ax.line)=ag:=by rfl):bd g x O a1 y (.Expr (.Call (.Attribute (.Name f d') "extend" qc) [i] [] ax) Ti::b0) b1:=λs p r L ay aa b ao G I n=>by
 rw[d8 ?_];intro eg;rw[B' (n.AL I<|sD aI) λh cS aS al jq aL um=>?_];replace aL:b.heap.get? h=W (c9<|br aq):=aL;rw[K4 I.1 V<|vq (by simp[ak]) (by show 1<20;decide) (mP p) iM<|CJ al jq (G▸R) b _ (bK.refl ..) λa4 as aK aA=>U aA<|Y.of<|Uy (aK.all _ _ aL)<|zx V (by simp[ak]) (Dh ak<|λD A t aj=>(bq s p r L ay aa ao G I) D A (n.grow t) aj) aK ?_];rintro aV ar a7 bN;rw[bt bN λa4 cB aQ=>U cB<|jH aQ.iw λE N o dt aw ap=>U dt<|c0 (ai.EP l ap) λdm el=>?_];have cp:gu N.toList=gu de:=by have:=ap.length;simpa using this
 have iS:=aK.trans a7;rw[kv<|Sq ao.1 (iS.all _ _ aL) ⟨_,aw,V,o,V⟩ dm (by rwa[U cp<|U (n8 ..)];rw[ae]) λX ab iN aT ju=>?_];rw[el]at iN;have i:br aq++br de=br (aq++de):=by simp[br]
 rw[i]at iN;have b4:bb [h] [] ar {ar with heap:=X,toks:=ab}:=bK.heap (λa k l i=>aT a k (λe=>l<|hG.mpr e) i) ju.1;rw[⟨V,Y.mono (c s p r L ay aa _ ao G I<|um ar _ (ha<|aq++de) iS b4 iN) λJ w X=>X.trans<|fF.ownAt aS iS b4⟩]
theorem acu(aI:gj y f=W (.o<|ha aq))(R:hL O f=ag)(T:cI g x O y vy j)(aQ:cI g x O y e8 aG)(l:fI aq)(aM:0<=j)(cG:j.toNat<aq.length)(ap:0<=lc (aq.getD j.toNat 0) aG/\lc (aq.getD j.toNat 0) aG<256)(ae:aq.length<=cy)(c:bd g x O a1 ((f,.o<|ha<|aq.set j.toNat<|lc (aq.getD j.toNat 0) aG)::y) b0 b1)(fA:∀iy pz uC,augStore vy iy pz uC=(do holding [uC,iy,pz]<|wp iy pz uC;release [uC,iy,pz] [];dB .next):=by intros;rfl):bd g x O a1 y (.AugAssign (.Subscript (.Name f d') vy un) .BitXor e8 ax::b0) b1:=vx c λs p r L ay aa b ao G I n=>by
 rw[d8 ?_];intro eg;rw[B' (n.AL I<|sD aI) λh cS aS al jq aL um=>?_];replace aL:b.heap.get? h=W (c9<|br aq):=aL;have ih:cy=2^24:=V;rw[dH<|Y.bind<|CJ al jq (G▸R) b _ (bK.refl ..) λiy as aK MJ=>U MJ<|dR<|(eP T ao G I) as _ (n.grow aK) λpz ar a7 xl=>c1 xl λD eh=>U eh<|ph ?_];intro p6;have iS:=aK.trans a7;rw[dR<|dH<|dC<|Sd (iS.all _ _ aL) aM (vl (.b2 .x<|.n 9223372036854775808) [.t .x .y,.l .y .z,.e .z<|.n 16777216,.cN .x<|.c .x] Z cG ae ih<|mK _) (MG cG) ?_];have b4:bb [] [] ar {ar with toks:=ar.toks+1}:=bK.tok _ _ _ _;rw[(MF<|MH l cG).symm▸dR ((eP aQ ao G I) _ _ (n.grow<|iS.trans b4) λĘ cv eL MK=>c1 MK λfp fd=>U fd<|dH<|Y.of<|JW<|ixor_int ?_)];have xL:bb [] [] b {cv with toks:=cv.toks+1}:=((iS.trans b4).trans eL).trans<|bK.tok _ _ _ _;rw[dH<|U (fA ..)<|dR<|Y.of<|ZN (xL.all _ _ aL) aM (vl (.b2 .x<|.n 9223372036854775808) [.t .x .y,.l .y .z,.e .z<|.n 16777216,.cN .x<|.c .x] Z cG ae ih<|mK _) (by rwa[U (n8 ..)];rw[vk (.b2 .x<|.c .x) [.t .y .x,.cN .x<|.c .y] Z cG<|mK _]) ap.1 ap.2 (by rwa[U (n8 ..)];rw[ae]) λX iN dy=>?_];have i:(br aq).setIfInBounds j.toNat (lc (aq.getD j.toNat 0) aG).toNat.toUInt8=br (aq.set j.toNat<|lc (aq.getD j.toNat 0) aG):=by simp[br,y7]
 rw[i]at iN;have sY:bb [h] [] {cv with toks:=cv.toks+1} {cv with heap:=X,toks:=cv.toks+1}:=bK.same dy;rw[Y.bind<|wZ<|Y.pure ⟨V,(zj r L aa (fF.ownAt aS xL sY) I<|um _ _ _ xL sY iN)⟩]
end bd
end
noncomputable def kh(f:Nat):Nat:=if f<128 then 2*f else(2*f)^^^285
def fy:Nat->Nat->Nat|0,f=>f|m+1,f=>kh<|fy m f
def uD:List Int:=(cZ 255).map λj=>.ofNat<|fy j 1
def ML(f:Nat):Nat:=((cZ 255).map λj=>fy j 1).idxOf f%255
def n9:List Int:=(cZ 256).map λf=>.ofNat<|ML f
def Uz(o:Nat):Nat->Nat|0=>0|m+1=>(Uz o m+m+255+ML (fy (o-m) 1^^^1)-ML (fy (m+1) 1^^^1))%255
def rS:List (Int×Nat×List Int):=([2,5,6,7,8,10,13,14,15,16,17,18,20,22,24,26,28].zipIdx 1869++[(30,1887)]).map λ(o,h)=>(.ofNat o,h,(cZ o).map λm=>.ofNat<|Uz o<|m+1)
def oU:List Int:=uD++uD
noncomputable def Ac(ab:Nat):Nat->List (Int×Nat×List Int)->List DictEntry|_,[]=>[]|x,(m,h,E)::q=>⟨hashInt m,.int m<|ab+x,.ref h⟩::Ac ab (x+(gu E+2)) q
def Di(ab:Nat):Nat->List (Int×Nat×List Int)->List Obj|_,[]=>[]|x,(_,_,E)::q=>h7 "tuple" 0 (kD ab (x+1) E)::Di ab (x+(gu E+2)) q
def UA(cj:cM)(M:cY)(ab:Nat):Obj:=dm
def MM(cj:cM)(M:cY)(ab:Nat):Obj:=mY ab "make_final_message" "make_final_message" 835 79 3 3 1891 ag 181 1892 .none .none .none (.ref 1893) 838
def GK(cj:cM)(M:cY)(ab:Nat):Obj:=n7 (dq cj 17) "make_final_message" "make_final_message" 3 [] .none (gq "Constructs the final message (codewords incl. error correction).\n\nISO/IEC 18004:2015(E) -- 7.6 Constructing the final message codeword sequence (page 45)\n\n:param int version: (Micro) QR Code version constant.\n:param int error: Error level constant.\n:param buff: Byte buffer.\n:return: Byte buffer representing the final message.\n"<|ab+840) (gq "segno.encoder"<|ab+833) aX (.ref 1894) .none
def UB(cj:cM)(M:cY)(ab:Nat):Obj:=mY ab "make_blocks" "make_blocks" 842 111 2 3 1896 ag 181 1897 .none .none .none (.ref 1898) 845
def GL(cj:cM)(M:cY)(ab:Nat):Obj:=n7 (dq cj 18) "make_blocks" "make_blocks" 3 [] .none (gq "Returns the data and error blocks.\n\n:param ec_infos: Iterable of ECC information\n:param buff: Byte buffer.\n"<|ab+847) (gq "segno.encoder"<|ab+833) aX (.ref 1899) .none
def UC(cj:cM)(M:cY)(ab:Nat):Obj:=iT
def GN(cj:cM)(M:cY)(ab:Nat):Obj:=jv "tuple"<|.seq #[(.ref 1909)] 0
def UD(cj:cM)(M:cY)(ab:Nat):Obj:=mY ab "__init__" "Buffer.__init__" 866 146 2 3 1911 ag 181 1912 .none (.ref 1913) (.ref 1914) (.ref 1915) 871
def MN(cj:cM)(M:cY)(ab:Nat):Obj:=n7 (k3 (dq cj 19) 2) "__init__" "Buffer.__init__" 3 [] (.ref 1910) .none (gq "segno.encoder"<|ab+833) aX (.ref 1916) .none
def UE(cj:cM)(M:cY)(ab:Nat):Obj:=mY ab "extend" "Buffer.extend" 874 149 2 3 1918 ag 181 1919 .none (.ref 1920) (.ref 1921) (.ref 1922) 879
def Dj(cj:cM)(M:cY)(ab:Nat):Obj:=n7 (k3 (dq cj 19) 3) "extend" "Buffer.extend" 3 [] .none .none (gq "segno.encoder"<|ab+833) aX (.ref 1923) .none
def UF(cj:cM)(M:cY)(ab:Nat):Obj:=mY ab "getbits" "Buffer.getbits" 891 155 1 3 1932 ag 181 1933 .none (.ref 1934) (.ref 1935) (.ref 1936) 895
def GO(cj:cM)(M:cY)(ab:Nat):Obj:=n7 (k3 (dq cj 19) 5) "getbits" "Buffer.getbits" 3 [] .none .none (gq "segno.encoder"<|ab+833) aX (.ref 1937) .none
def UG(cj:cM)(M:cY)(ab:Nat):Obj:=dm
def MO(cj:cM)(M:cY)(ab:Nat):Obj:=mY ab "toints" "Buffer.toints" 898 158 1 3 1939 ag 181 1940 .none (.ref 1941) (.ref 1942) (.ref 1943) 903
def GP(cj:cM)(M:cY)(ab:Nat):Obj:=n7 (k3 (dq cj 19) 6) "toints" "Buffer.toints" 3 [] .none (gq "Returns an iterable of integers interpreting the content of `seq`\nas sequence of binary numbers of length 8.\n"<|ab+905) (gq "segno.encoder"<|ab+833) aX (.ref 1944) .none
def acr(cj:cM)(M:cY)(ab:Nat):Obj:=h7 "tuple" 0<|kD ab 930 [3,3,70,2,18]
def act(cj:cM)(M:cY)(ab:Nat):Obj:=h7 "tuple" 0<|kD ab 935 [3,2,70,2,22]
def acv(cj:cM)(M:cY)(ab:Nat):Obj:=h7 "tuple" 0<|kD ab 940 [4,0,100,2,18]
def acw(cj:cM)(M:cY)(ab:Nat):Obj:=h7 "tuple" 0<|kD ab 945 [4,3,100,2,26]
def acx(cj:cM)(M:cY)(ab:Nat):Obj:=h7 "tuple" 0<|kD ab 950 [4,2,100,4,16]
def acy(cj:cM)(M:cY)(ab:Nat):Obj:=h7 "tuple" 0<|kD ab 955 [5,0,134,2,24]
def acz(cj:cM)(M:cY)(ab:Nat):Obj:=h7 "tuple" 0<|kD ab 960 [5,3,134,4,18]
def acA(cj:cM)(M:cY)(ab:Nat):Obj:=h7 "tuple" 0<|kD ab 965 [5,2,134,4,22]
def UH(cj:cM)(M:cY)(ab:Nat):Obj:=jv "tuple"<|.seq #[(.ref 1967),(.ref 1968),(.ref 1969),(.ref 1970),(.ref 1971),(.ref 1972),(.ref 1973),(.ref 1974)] 0
def UI(cj:cM)(M:cY)(ab:Nat):Obj:=mY ab "_law_doubled" "_law_doubled" 971 171 2 3 1976 ag 181 1977 .none (.ref 1978) (.ref 1979) (.ref 1980) 977
def MP(cj:cM)(M:cY)(ab:Nat):Obj:=n7 (dq cj 22) "_law_doubled" "_law_doubled" 3 [] .none .none (gq "law_nv0011_02"<|ab+928) aX (.ref 1981) .none
def UJ(cj:cM)(M:cY)(ab:Nat):Obj:=mY ab "_law_multiples" "_law_multiples" 980 174 1 3 1983 ag 181 1984 .none .none .none (.ref 1985) 983
def MQ(cj:cM)(M:cY)(ab:Nat):Obj:=n7 (dq cj 23) "_law_multiples" "_law_multiples" 3 [] .none .none (gq "law_nv0011_02"<|ab+928) aX (.ref 1986) .none
def UK(cj:cM)(M:cY)(ab:Nat):Obj:=mY ab "_law_rest" "_law_rest" 986 187 3 3 1988 ag 181 1989 .none .none .none (.ref 1990) 989
def MR(cj:cM)(M:cY)(ab:Nat):Obj:=n7 (dq cj 24) "_law_rest" "_law_rest" 3 [] .none .none (gq "law_nv0011_02"<|ab+928) aX (.ref 1991) .none
def UL(cj:cM)(M:cY)(ab:Nat):Obj:=mY ab "law" "law" 992 194 1 3 1993 ag 181 1994 .none .none .none (.ref 1995) 995
def GQ(cj:cM)(M:cY)(ab:Nat):Obj:=n7 (dq cj 25) "law" "law" 3 [] .none .none (gq "law_nv0011_02"<|ab+928) aX (.ref 1996) .none
def MS(cj:cM)(M:cY)(lo:Nat->Obj)(ab:Nat):List Obj:=((xy cj M lo).set 3<|jv "dict"<|.dict ((dP M "__name__" 165<|gq "law_nv0011_02"<|ab+928)::LW M ab).toArray 32).set 12<|zZ<|LX [(1,0,20),(5,0,27),(31,0,71),(79,0,1894),(111,0,1899),(141,0,1906),(171,0,1981),(174,0,1986),(187,0,1991),(194,0,1996)]
def UM(M:cY)(ab:Nat):DictEntry:=dP M "__module__" (ab+856)<|gq "segno.encoder"<|ab+833
def UN(M:cY)(ab:Nat):List DictEntry:=[(dP M "__firstlineno__" (ab+860)<|.int (141)<|ab+859),(dP M "__doc__" (ab+862)<|gq "Wraps a :cls:`bytearray` and provides some useful methods to add bits.\n    "<|ab+861),(dP M "__slots__" (ab+865)<|.ref 1908),(dP M "__init__" (ab+873)<|.ref 1917),(dP M "extend" (ab+881)<|.ref 1924),(dP M "append_bits" (ab+890)<|.ref 1931),(dP M "getbits" (ab+897)<|.ref 1938),(dP M "toints" (ab+906)<|.ref 1945),(dP M "__len__" (ab+913)<|.ref 1952),(dP M "__getitem__" (ab+921)<|.ref 1959),(dP M "__static_attributes__" (ab+923)<|.ref 1960)]
def GR(cj:cM)(M:cY)(ab:Nat):List Obj:=jv "dict" (.dict (Ac ab 1 rS).toArray 18)::(Di ab 1 (rS.take 17)++jv "dict" (.dict #[⟨30,(.int (30)<|ab+286),(.ref 1887)⟩] 1)::(Di ab 286 (rS.drop 17)++[h7 "tuple" 0<|kD ab 319 n9,h7 "list" 0<|kD ab 576 uD,h7 "list" 0<|kD ab 576 uD++kD ab 576 uD,iT,UA cj M ab,pC (dq cj 17) "make_final_message" "make_final_message",MM cj M ab,GK cj M ab,iT,dm,pC (dq cj 18) "make_blocks" "make_blocks",UB cj M ab,GL cj M ab,iT,jv "builtin_function_or_method"<|.fields #[(.builtin "type.__prepare__"),(.type "type")],jv "dict"<|.dict (UM M ab::(dP M "__qualname__" (ab+858)<|gq "Buffer"<|ab+857)::UN M ab).toArray 13,iT,zZ<|LX [(146,4,1916),(149,4,1923),(152,4,1930),(155,4,1937),(158,4,1944),(164,4,1951),(167,4,1958)],mY ab "Buffer" "Buffer" 851 141 0 0 1904 be 181 1905 .none .none .none .none 854,TH 1906 3 1903<|gq "segno.encoder"<|ab+833,h7 "list" 0<|pB ab 864 ["_data"],UC cj M ab,GN cj M ab,iT,dm,h7 "tuple" 0<|pB ab 869 ["self","iterable"],iT,pC (k3 (dq cj 19) 2) "__init__" "Buffer.__init__",UD cj M ab,MN cj M ab,iT,dm,h7 "tuple" 0<|pB ab 877 ["self","iterable"],iT,pC (k3 (dq cj 19) 3) "extend" "Buffer.extend",UE cj M ab,Dj cj M ab,iT,dm,h7 "tuple" 0<|pB ab 885 ["self","val","length"],iT,pC (k3 (dq cj 19) 4) "append_bits" "Buffer.append_bits",mY ab "append_bits" "Buffer.append_bits" 882 152 3 3 1925 ag 181 1926 .none (.ref 1927) (.ref 1928) (.ref 1929) 888,n7 (k3 (dq cj 19) 4) "append_bits" "Buffer.append_bits" 3 [] .none .none (gq "segno.encoder"<|ab+833) aX (.ref 1930) .none,iT,dm,h7 "tuple" 0<|pB ab 894 ["self"],iT,pC (k3 (dq cj 19) 5) "getbits" "Buffer.getbits",UF cj M ab,GO cj M ab,iT,UG cj M ab,h7 "tuple" 0<|pB ab 901 ["self"],h7 "tuple" 0<|pB ab 902 ["self"],pC (k3 (dq cj 19) 6) "toints" "Buffer.toints",MO cj M ab,GP cj M ab,iT,dm,h7 "tuple" 0<|pB ab 910 ["self"],iT,pC (k3 (dq cj 19) 7) "__len__" "Buffer.__len__",mY ab "__len__" "Buffer.__len__" 907 164 1 3 1946 ag 181 1947 .none (.ref 1948) (.ref 1949) (.ref 1950) 911,n7 (k3 (dq cj 19) 7) "__len__" "Buffer.__len__" 3 [] .none .none (gq "segno.encoder"<|ab+833) aX (.ref 1951) .none,iT,dm,h7 "tuple" 0<|pB ab 917 ["self","item"],iT,pC (k3 (dq cj 19) 8) "__getitem__" "Buffer.__getitem__",mY ab "__getitem__" "Buffer.__getitem__" 914 167 2 3 1953 ag 181 1954 .none (.ref 1955) (.ref 1956) (.ref 1957) 919,n7 (k3 (dq cj 19) 8) "__getitem__" "Buffer.__getitem__" 3 [] .none .none (gq "segno.encoder"<|ab+833) aX (.ref 1958) .none,h7 "tuple" 0<|pB ab 922 ["_data"],h7 "list" 1<|pB ab 864 ["_data"],jv "dict"<|.dict (UM M ab::(UN M ab++[(dP M "_data" (ab+925)<|.ref 1964)])).toArray 2,LU "Buffer" [(.type "object")] 1963 [] be [(mG "_data")] aX (ab+849) (ab+857)<|.builtin "object.__new__",jv "member_descriptor"<|.fields #[(gq "_data"<|ab+924),(.ref 1963),(.builtin "proto.slot"),(.builtin "proto.slot#set"),(.int (0) 0)],jv "super"<|.fields #[(.ref 1963),(.ref 1963),(.ref 1963)],jv "builtin_function_or_method"<|.fields #[(.builtin "object.__init_subclass__"),(.ref 1963)],acr cj M ab,act cj M ab,acv cj M ab,acw cj M ab,acx cj M ab,acy cj M ab,acz cj M ab,acA cj M ab,UH cj M ab,iT,dm,h7 "tuple" 0<|pB ab 974 ["lanes","ones","high"],iT,pC (dq cj 22) "_law_doubled" "_law_doubled",UI cj M ab,MP cj M ab,iT,dm,pC (dq cj 23) "_law_multiples" "_law_multiples",UJ cj M ab,MQ cj M ab,iT,dm,pC (dq cj 24) "_law_rest" "_law_rest",UK cj M ab,MR cj M ab,iT,dm,pC (dq cj 25) "law" "law",UL cj M ab,GQ cj M ab]))
def GS(cj:cM)(M:cY)(ž:Nat->Obj):BT:=nx<|xy cj M (λj=>ž<|1729+j)++(cZ 1729).map ž
def n_(cj:cM)(M:cY)(ž:Nat->Obj)(ab:Nat):BT:=nx<|MS cj M (λj=>ž<|1729+j) ab++((cZ 1729).map ž++GR cj M ab)
def qw(cj:cM)(M:cY)(ž:Nat->Obj)(ab m S:Nat):BT:=nx<|(xy cj M λj=>ž<|1729+j).set 3 (jv "dict"<|.dict (TK M::(LW M ab).take m).toArray<|m+1)++((cZ 1729).map ž++(GR cj M ab).take S)
section
set_option genCtorIdx true in inductive dV where|none|int(j:Int)|str(f:Str)deriving DecidableEq
noncomputable def dV.is:dV->aF->Bool|.none,.none=>ag|.int m,.int j cR=>j==m|.str f,.str B cR=>B==f|cR,e3=>be
noncomputable def dV.hash(v:cU):dV->Int|.none=>4238894112|.int m=>hashInt m|.str f=>hashStr v f
@[elab_as_elim]theorem dV.cs{aD:dV->aF->Prop}{m:dV}{z:aF}(c:m.is z=ag)(af:aD .none .none)(am:∀j D,aD (.int j)<|.int j D)(a':∀f D,aD (.str f)<|.str f D):aD m z:=by cases m<;>cases z<;>first|rw[af]|rw[iJ c]|rw[eq_of_beq c▸am _ _]|rw[eq_of_beq c▸a' _ _]
section
variable{ſ:cM}{v:cU}{s:cq}{aC:aF->au->Prop}{b:au}
theorem acB(a:Bool)(v:cU)(m:Nat):nw ⟨ſ,ų (v.withFollow "special-get-raises" a)⟩ .nil (xw nM ⟨ſ,ų (v.withFollow "special-get-raises" a)⟩ .nil 10) (pyHash .none) m=W (.ok 4238894112,m+1):=by cases a<;>cbv
theorem acC(c:A 4238894112 {b with toks:=b.toks+1}):ce (cD ſ v) s (pyHash .none) A aC b:=λy n cz=>by have i:=acB (ſ:=ſ) (v.params.followText "special-get-raises") v b.toks;rw[B7,<-yL]at i;rw[Go (b:=b) (bo:=.nil) (λh k dh bq=>nomatch bq) (λg m q aA=>TF (bo:=.nil) (λh k dh bq=>nomatch bq) 10 g m q aA) _ y _ _ b.toks _ n i λu=>c]
theorem Ad(c_:(h==a)=be)(bi:∀f D,h≠.float f D)(aA:∀A:aF->au->Prop,A (.bool q) b->ce (cD ſ v) s (wr .Eq h a) A aC b)(c:A q b):ce (cD ſ v) s (eqBool h a) A aC b:=by rwa[kK<|pd (by rwa[U c_];decide)];cases h<;>first|rw[(bc<|aA _<|wpAny_truthy_bool c)]|rw[absurd V<|bi _ _]
theorem UO{a9:Type}[DecidableEq a9]{J:a9->dV}(bi:∀h a,J h=J a->h=a)(j Q:a9):decide (j=Q)=decide (J j=J Q):=by
 by_cases e:j=Q
 .rw[U e<|U (decide_eq_true V)<|U (decide_eq_true V) V]
 .rw[U (decide_eq_false e)<|U (decide_eq_false λi=>e<|bi _ _ i) V]
theorem acD{J:Int->dV}(bi:∀h a,J h=J a->h=a)(j Q:Int):(j==Q)=decide (J j=J Q):=UO bi j Q
def acE(ſ:cM)(v:cU):KeyKind ſ v dV where
 is:=dV.is
 hash:=dV.hash v
 inj:=λz h a aS=>by
  rwa[dV.cs aS ?_ ?_]
  .cases a<;>intro l<;>first|rfl|rw[iJ l]
  .intro j D;cases a<;>intro l<;>first|rw[iJ l]|rw[congrArg dV.int<|eq_of_beq l]
  .intro j D;cases a<;>intro l<;>first|rw[iJ l]|rw[congrArg dV.str<|eq_of_beq l]
 byValue:=λm z c=>dV.cs c V (λu u=>V) λu u=>V
 pyHash:=λ{s aC b m z A}aQ=>by
  rwa[dV.cs aQ ?_ ?_]
  .rw[acC]
  .rw[λu u c=>wpAny_pyHash_int c]
  .rw[λu u c=>wpAny_pyHash_str c]
 eqBool:=λ{s aC b h a aG z A}dX aQ=>by
  rwa[dV.cs dX ?_ ?_]
  .rw[dV.cs aQ ?_ ?_ ?_]
   .intro c;unfold eqBool;rw[kK<|bc<|mv<|cr c]
   .rw[λu u c=>Ad V (λu u e=>nomatch e) (λA aY=>EqNone.eq_none_int aY) c]
   .rw[λu u c=>Ad V (λu u e=>nomatch e) (λA aY=>EqNone.eq_none_str aY) c]
  .intro j D;rwa[dV.cs aQ ?_ ?_]
   .rw[λc=>Ad V (λu u e=>nomatch e) (λA aY=>EqNone.eq_int_none aY) c]
   .rw[λQ u c=>wpAny_eqBool_int<|Fm (acD (J:=dV.int) (λu u i=>by injection i) j Q)▸c]
   .rw[λu u c=>Ad V (λu u e=>nomatch e) (λA aY=>EqMixed.eq_int_str aY) c]
  .intro f D;rwa[dV.cs aQ ?_ ?_]
   .rw[λc=>Ad V (λu u e=>nomatch e) (λA aY=>EqNone.eq_str_none aY) c]
   .rw[λu u c=>Ad V (λu u e=>nomatch e) (λA aY=>EqMixed.eq_str_int aY) c]
   .rw[λB u c=>wpAny_eqBool_str<|Fm (UO (J:=dV.str) (λu u i=>by injection i) f B)▸c]
 «strs»:=λm f D z c=>by
  cases m
  .rw[iJ c]
  .rw[iJ c]
  .rw[bL (eq_of_beq c) ?_];cases z<;>rfl
end
end
inductive ec(m:Nat)(b w:au):Prop|mk(f2:bK [] b w)(f3:Ų (ű (Q7 w))=b.heap.objs.size+m)(gw:w.gens=b.gens):ec m b w
theorem ec.refl(b:au):ec 0 b b:=⟨bK.refl ..,V,V⟩
theorem ec.trans(f:ec m h a)(B:ec E a g):ec (m+E) h g:=⟨f.1.trans B.1,B.2▸f.2▸eA (.e (.a (.a .x .y) .z)<|.a .x<|.a .y .z) [] Z,B.3.trans f.3⟩
theorem ec.tok(b:au)(D:Nat):ec 0 b {b with toks:=D}:=⟨bK.tok ..,V,V⟩
theorem ec.push(b:au)(k:Obj)(D:Nat):ec 1 b {b with heap:=b.heap.push k,toks:=D}:=⟨bK.new ..,by show(b.heap.push k).objs.size=_;rw[U (f' ..) V],V⟩
theorem Sub.grow(c:Sub bo b.heap)(t:bK [] b w):Sub bo w.heap:=λh k dh i ft=>t.1 h dh (λe=>nomatch e)<|c h k dh i ft
set_option backward.match.sparseCases true in theorem acF(aL:b.heap.get? D=W {cls:=.type "tuple",data:=.seq bv o})(d4:bv.size<=cy)(aj:∀w,ec 1 b w->A bv.toList w):Y aU v s (collect<|.ref D) A b:=by
 rw[Y.of<|bc<|wpAny_runValue<|yK QZ<|bc<|jE (cr ⟨o8 Q0 _,yK Q1 ?_⟩) (by show 0<=cy;decide)];rw[jm ?_];intro jI;have i4:Ű (b.heap.push {cls:=.type "list",data:=.seq ([]:List aF).toArray}) b.heap.objs.size=W {cls:=.type "list",data:=.seq #[] 0}:=fu _ V;have cG:=dK aL;have UR:ce (cD aU v) s (load b.heap.objs.size>>=λk=>match k.data with|Data.seq aJ _=>pure aJ.toList|_=>unsupported "internal:collect") A (λu u=>False) {b with heap:=(b.heap.push {cls:=.type "list",data:=.seq ([]:List aF).toArray}).update b.heap.objs.size (jG (·++bv))}:=by
  rw[ou (nP (jG (·++bv)) i4 V)<|cr ?_];rw[U (by simp:((#[]:Array aF)++bv).toList=bv.toList)<|aj _ ⟨bK.heap (ab:=b.toks) (λa dh u l=>(sm _ _<|tw<|dK l).trans<|eY _ l) ?_,?_,V⟩]
  .rw[U (vb ..)<|U (f' ..)<|j2 _]
  .rw[U (vb ..)<|U (f' ..) V]
 rw[se (wpAny_extend_seq (hsz:=d4) (A:=s) (R:=λq w=>q=.ok (.ret<|.ref b.heap.objs.size)/\w={b with heap:=(b.heap.push {cls:=.type "list",data:=.seq ([]:List aF).toArray}).update b.heap.objs.size (jG (·++bv))}) (s:={b with heap:=b.heap.push {cls:=.type "list",data:=.seq ([]:List aF).toArray}}) _ D _ 0 (.inr V) i4 (eY _ aL) V V ⟨V,V⟩) (λgv w c=>?_) λi w c=>?_]
 .cases gv with
  |done J=>obtain⟨i,rfl⟩:=c;cases i;rw[UR]|again bm=>rw[⟨c.1,codeAny_mono c.2 λq d_ ap=>by obtain⟨rfl,rfl⟩:=ap;rw[UR]⟩]
 .rw[absurd c.1 (by simp)]
theorem acG(D:aF):io fh (callAny (.builtin "tuple.__new__") ⟨[.ref 135,D],[]⟩) (.again<|.builtin "tuple.__new__" ⟨[.ref 135,D],[]⟩) 0:=λa v m=>by cases a<;>cbv
theorem acH:io fh (classHasDel 135) be 0:=λa v m=>by cases a<;>cbv
theorem acI(G:Sub (fh v) b.heap)(bC:b.heap.get? D=W {cls:=.type "tuple",data:=.seq #[f,B,C] o})(c:∀w,ec 3 b w->Ű (Q7 w) (b.heap.objs.size+2)=W {cls:=.ref 135,dict:=W<|b.heap.objs.size+1,data:=.seq #[f,B,C]}->A (.ref<|b.heap.objs.size+2) w):Y aU v s (eS (.builtin "tuple.__new__") [.ref 135,.ref D]) A b:=by
 rw[Y.call<|em.my V<|mj (acG _) G ⟨o8 ji _,em.builtin (FU ji) (nK V)<|Y.bind<|mj abF G<|gR bf<|Y.bind<|mj abD G<|gR bf<|Y.bind<|mj abE G<|Y.bind<|mj T8 G<|tY bf<|ev<|ev<|gR bf<|Y.bind<|acF bC (by show 3<=cy;decide) λas aK=>ev ?_⟩];rw[d8 ?_];intro eg;rw[dC<|Bt ?_];generalize hY:({as with heap:=as.heap.push {cls:=.type "dict",data:=.dict #[]}}:au)=ar;have a7:ec 1 as ar:=hY▸ec.push as _ as.toks;unfold newObj newObjAsIs
 dsimp only;rw[(Fm (if_neg (by show¬3>cy;decide)))▸Y.bind (dC<|Bt ?_)];generalize ny:({ar with heap:=ar.heap.push {cls:=.ref 135,dict:=W as.heap.objs.size,data:=.seq [f,B,C].toArray}}:au)=co;have b4:ec 1 ar co:=ny▸ec.push ar _ ar.toks;have z6:Ų (ű (Q7 ar))=b.heap.objs.size+2:=U a7.2<|U aK.2 V;have aY:=c co ((aK.trans a7).trans b4) (by rw[bL z6<|bL aK.2<|bL ny ?_];rw[fu _ V]);rw[Y.bind<|mj acH (G.grow<|(aK.1.trans a7.1).trans b4.1)<|Y.eq (U (if_neg bf)<|U z6 V)<|Y.pure<|Y.pure ⟨_,V,aY⟩]
section
variable{v:cU}{b:au}
noncomputable def fdOf(k:Obj):FuncData:=match k.data with|.func bp=>bp|_=>default
abbrev US(v:cU):FuncData:=fdOf<|Gp aU (ų v)
abbrev UT:Scope:={kind:=.function,names:=[("_cls",.local),("num_blocks",.local),("num_total",.local),("num_data",.local),("tuple",.globalImplicit)],isGenerator:=be,isCoroutine:=be,more:=(fH<|k3 (dq aU 11) 4).more}
theorem MT(v:cU):(US v).scope=UT:=rfl
theorem acJ(M:cY)(f B C:aF):io fh (bindArgs (fdOf<|Gp aU M) ⟨[.ref 135,f,B,C],[]⟩) [("_cls",.ref 135),("num_blocks",f),("num_total",B),("num_data",C)] 0:=λa v m=>by cases a<;>cbv
theorem Dk(G:Sub bo c)(i:bo.get h=W k)(ft:hW k=W k):Ű c h=W k:=G h k k i ft
theorem acK(G:Sub (fh v) b.heap):b.heap.get? 82=W (Gp aU (ų v)):=Dk G (by cbv) V
theorem UU(G:Sub (fh v) b.heap):b.heap.NoLimit:=⟨λu=>aX,⟨LV aU (ų v),#[],0,Dk G (by cbv) V,V,λi bq=>by simp at bq,λu=>V⟩,V⟩
abbrev Dl(o:aE)(e:Str)(J:Option aE)(g:aF):Env:=newEnv UT o 3 [] e J g aX 0
theorem GT(ak:b.heap.Ns o S)(R:(Dl o e J g).kindOf f=W .local)(aQ:S f=W z)(bl:(f==("__debug__":Str))=be)(c:A z b):Y aU v s (ee (.Name f n)<|Dl o e J g) A b:=by rw[dH<|U (if_neg (by rwa[U bl];decide))<|Y.of<|IF V R ak aQ c]
theorem acL(G:Sub (fh v) b.heap)(ak:b.heap.Ns o S)(af:S "_cls"=W (.ref 135))(am:S "num_blocks"=W f)(a':S "num_total"=W B)(cJ:S "num_data"=W C)(c:∀w,ec 4 b w->Ű (Q7 w) (b.heap.objs.size+3)=W {cls:=.ref 135,dict:=W<|b.heap.objs.size+2,data:=.seq #[f,B,C]}->A (.ref<|b.heap.objs.size+3) w):Y aU v s (ee (.Call (.Attribute (.Name "tuple" ⟨39,15,39,20⟩) "__new__" ⟨39,15,39,28⟩) [(.Name "_cls" ⟨39,29,39,33⟩),(.Tuple [(.Name "num_blocks" ⟨39,36,39,46⟩),(.Name "num_total" ⟨39,48,39,57⟩),(.Name "num_data" ⟨39,59,39,67⟩)] 0 ⟨39,35,39,68⟩)] [] ⟨39,15,39,69⟩)<|Dl o e J g) A b:=by
 rw[vq V bf V V<|mj (λa v m=>by cases a<;>cbv) G<|Gw ((show io fh (ES ag (.Name "tuple" ⟨39,15,39,20⟩) (Dl o e J g) (.type "tuple") "__new__") (.builtin "tuple.__new__",[]) 1 from(λa v m=>by cases a<;>cbv))) G ?_];generalize vS:({b with toks:=b.toks+1}:au)=cE;have ry:ec 0 b cE:=vS▸ec.tok b _;have GU:cE.heap.Ns o S:=vS▸ak;have ę:Ų (ű (Q7 cE))=b.heap.objs.size:=vS▸V;rwa[zx (a_:=[]) (aD:=[]) (al:=λD aV=>ec 1 cE D/\aV=[.ref 135,.ref cE.heap.objs.size]/\Ű (Q7 D) cE.heap.objs.size=W {cls:=.type "tuple",data:=.seq #[f,B,C]}) V V ?_ V]
 .rintro D nU ax rfl aj;rw[Y.eq (U (kV V)<|U (kV V)<|V) (?_:Y aU v s (pT [(be,_),(be,_)]) _ _)];rw[Y.eq (V)<|Y.bind<|GT GU V af bf<|gR bf<|ev<|dR ?_];rw[Y.eq (V)<|Y.bind<|Y.eq (U (arm_eval_Tuple ..) V)<|dH ?_];rwa[Y.bind<|Y.eq (U (kV V)<|U (kV V)<|U (kV V)<|V)];rw[((Y.bind<|GT GU V am bf<|gR bf<|ev<|dR<|Y.eq (V)<|Y.bind<|GT GU V a' bf ?_):Y aU v s (pT [(be,_),(be,_),(be,_)]) _ _)];rw[gR bf<|ev<|dR<|Y.eq (V)<|Y.bind<|GT GU V cJ bf<|gR bf<|ev<|dR<|Y.pure<|Y.pure<|Y.pure<|Y.pure<|Y.of<|jE (gR bf<|ev<|dR<|Y.pure<|Y.pure<|Y.pure<|aj _ _ (ec.push _ _ _).1 ⟨ec.push _ _ _,V,fu _ V⟩) (by show 3<=cy;decide)]
 .rintro aV D vr bN;rw[fb bN λaK cB bC=>?_];obtain rfl:=cB;have fA:Sub (fh v) D.heap:=G.grow<|ry.1.trans aK.1;rw[acI fA bC λw cd aL=>?_];have i:Ų (ű (Q7 D))=b.heap.objs.size+1:=U aK.2<|U ę V;rw[i]at aL⊢;have gz:ec 4 b w:=by have:=(ry.trans aK).trans cd;simpa using this
  rw[c w gz aL]
end
theorem acM(o:aE)(e:Str)(J:Option aE)(g:aF):io fh (exec (.Expr (.Constant (.str "Create new instance of EC(num_blocks, num_total, num_data)") 0 ⟨38,8,38,72⟩) ⟨38,8,38,72⟩)<|Dl o e J g) .next 1:=λa v m=>by cases a<;>cbv
theorem acN(gI:s.depth<f6)(G:Sub (fh v) b.heap)(c:∀w,ec 5 b w->Ű (Q7 w) (b.heap.objs.size+4)=W {cls:=.ref 135,dict:=W<|b.heap.objs.size+3,data:=.seq #[f,B,C]}->ca (.ret<|.ref<|b.heap.objs.size+4) w):em aU v s (.call (.ref 82) ⟨[.ref 135,f,B,C],[]⟩) ca b:=by
 rw[F6 (bp:=US v) gI (acK G) V (U (MT ..) V) (U (MT ..) V) (V) (⟨81,TI aU (ų v),_,294,V,Dk G (by cbv) V,V,V⟩)<|mj (acJ _ f B C) G<|Y.eq (U (MT ..) V) ?_];rw[Y.of<|IG bf (by intro n aO;simp only[fT,na,or_false]at aO;rcases aO with rfl|rfl|rfl|rfl<;>rfl) (λX lO Dm=>?_) V];rwa[ds (@PySem.newEnv _ _ _ _ _ _ _ _ _)];intro dx;rwa[ds (@gu _ _)];intro dx;generalize fX:({b with heap:=X,toks:=b.toks+_}:au)=as;have aK:ec 1 b as:=by
  subst fX;rw[⟨bK.heap (λa k u i=>Dm.extBut a k (gQ<|dK i)<|eY _ i) ?_,?_,V⟩]
  .rw[U Dm.1<|U (f' ..)<|j2 _]
  .show X.objs.size=_;rw[U Dm.1<|U (f' ..) V]
 have xM:Sub (fh v) as.heap:=G.grow aK.1;rw[⟨UU xM,K5<|Y.eq (qW ..)<|Y.bind<|Gw (acM _ _ _ _) xM ?_⟩];generalize hY:({as with toks:=as.toks+1}:au)=ar;have a7:ec 0 as ar:=hY▸ec.tok as _;rw[Y.bind<|dH<|d8 ?_];intro eg;have Ě:ar.heap.Ns b.heap.objs.size (λnm=>List.lookup nm ([("_cls",.ref 135),("num_blocks",f),("num_total",B),("num_data",C)]:List<|Str×aF).reverse):=by subst hY;subst fX;rw[lO]
 rw[Y.bind<|acL (xM.grow a7.1) Ě V V V V λw cd aL=>Y.pure<|Y.pure ?_];have i:Ų (ű (Q7 ar))=b.heap.objs.size+1:=U a7.2<|U aK.2 V;rw[i]at aL⊢;have gz:ec 5 b w:=by have:=(aK.trans a7).trans cd;simpa using this
 rw[c w gz aL]
theorem acO(gI:s.depth+100<f6)(G:Sub (fh v) b.heap)(c:∀w,ec 5 b w->Ű (Q7 w) (b.heap.objs.size+4)=W {cls:=.ref 135,dict:=W<|b.heap.objs.size+3,data:=.seq #[f,B,C]}->A (.ref<|b.heap.objs.size+4) w):Y aU v s (eS (.ref 135) [f,B,C]) A b:=by
 rw[Y.call<|em.my V<|mj (abH f B C) G ⟨V,em.my V<|mj (abJ f B C) G ⟨JN _ ji,em.builtin (by show ri.contains "type.__call__"=be;decide+kernel) JO<|ds (@PySem.Args.mk _ _) ?_⟩⟩];intro dx;rw[d8 ?_];intro eg;rw[FT ?_];intro Ku;have ě:(s.under<|zc "type.__call__" ⟨[fv 135,f,B,C],[]⟩).depth<recursionLimit:=by rw[(?_:s.depth+_<_)];have z5:(zc "type.__call__" ⟨[fv 135,f,B,C],[]⟩).weight=1:=V;rw[eA (.t (.a .x .y) .z) [.t (.a .x<|.n 100) .z,.e .y<|.n 1] Z gI z5]
 rw[Y.bind<|mj abA G<|gR bf<|Y.bind<|mj abB G<|Y.bind<|Gw abI G<|ph ?_];intro p6;generalize fX:({b with toks:=b.toks+1}:au)=as;have aK:ec 0 b as:=fX▸ec.tok b _;have xM:Sub (fh v) as.heap:=G.grow aK.1;rw[dR<|Y.call<|acN ě xM λar a7 aL=>(dj _ V ?_)];have i:Ų (ű (Q7 as))=b.heap.objs.size:=aK.2;rw[i]at aL⊢;rwa[ds (@fv _)];intro dx;have gz:ec 5 b ar:=by have:=aK.trans a7;simpa using this
 have Ae:Sub (fh v) ar.heap:=G.grow gz.1;have aY:=c ar gz aL;have UV:∀{s:cq}{A:aF->au->Prop},A (.ref 135) ar->Y aU v s (typeOf<|.ref<|b.heap.objs.size+4) A ar:=λaj=>dC<|wpAny_loadPart aL<|Y.pure aj;rw[Y.bind<|Y.bind<|UV<|mj abC Ae<|gR bf<|dR<|Y.bind<|Y.bind<|UV<|mj T8 Ae<|Y.holding<|Y.bind<|mj (abG _) Ae<|Y.bind<|T9 (abK (b.heap.objs.size+4) ar.heap.objs.size ar.gens.size f B C (W<|b.heap.objs.size+3)<|.seq #[f,B,C]) (λc l=>(UU (b:={heap:=c}) l)) ?_ (fk.start Ae (λn aO=>?_) (by simp) λn aO k dh i ft=>?_) ?_]
 .rw[(?_:s.depth+_+3*10<f6)];have:f6=1000:=V;have z5:(zc "type.__call__" ⟨[fv 135,f,B,C],[]⟩).weight=1:=V;rw[eA (.t (.a (.a .x .y)<|.m 3<|.n 10) .z) [.t (.a .x<|.n 100) .z,.e .y<|.n 1] Z gI z5]
 .simp only[hG]at aO;rw[U aO aL]
 .simp only[hG]at aO;subst aO;have aw:b.heap.objs.size+4<b.heap.objs.size:=dK<|G _ k dh i ft;rw[ni 10 .f [.t (.a .x<|.n 4) .x] Z aw]
 .rintro eR w h8 ml;simp only[q5]at ml;rw[fb ml λbk kA aT=>?_];have z3:ec 0 ar w:=⟨h8.same (by rwa[U aT];intro n aO;simp only[hG]at aO;rwa[U aO];rw[.inl aL]),by rw[U h8.1<|U bk V],by rwa[U h8.8<|U kA];rfl⟩;rwa[Y.pure<|gR bf];have Ĝ:ec 5 b w:=by have:=gz.trans z3;simpa using this
  rw[Y.pure ⟨_,V,c w Ĝ<|z3.1.1 _ _ (λe=>nomatch e) aL⟩]
section
variable{v:cU}
abbrev jx(v:cU):KeyKind aU v dV:=acE aU v
inductive fR where|iT(z:bj)|tb(az:List<|dV×fR)
mutual def gr(v:cU)(c:e1)(r:List aE):fR->aF->Prop|.iT z,g=>ck c r z g|.tb az,g=>∃x cX,g=.ref x/\x∉r/\c.DictOf (jx v) x cX/\g1 v c r az cX def g1(v:cU)(c:e1)(r:List aE):List (dV×fR)->List (dV×aF)->Prop|[],cX=>cX=[]|i::az,cX=>∃g q,cX=(i.1,g)::q/\gr v c r i.2 g/\g1 v c r az q end
theorem acP{c X:e1}{x:aE}{cX:List<|dV×aF}(f:c.DictOf (jx v) x cX)(m:∀k,Ű c x=W k->Ű X x=W k):X.DictOf (jx v) x cX:=zi f λk az zy aL q=>⟨k,az,zy,m k aL,q⟩
mutual theorem gr.to{c X:e1}{r a_:List aE}(m:∀(a:aE)(k:Obj),a∉r->Ű c a=W k->Ű X a=W k/\a∉a_):∀(z:fR)(g:aF),gr v c r z g->gr v X a_ z g
 |.iT z,g,q=>ck.to m z g q|.tb az,g,q=>by
  obtain⟨x,cX,i,R,bl,ap⟩:=q;have a8:x∉a_:=by obtain⟨k,_,_,aL,_⟩:=id bl;rw[(m x k R aL).2]
  rw[⟨x,cX,i,a8,acP bl λk i=>(m x k R i).1,g1.to m az cX ap⟩]theorem g1.to{c X:e1}{r a_:List aE}(m:∀(a:aE)(k:Obj),a∉r->Ű c a=W k->Ű X a=W k/\a∉a_):∀(az:List<|dV×fR)(cX:List<|dV×aF),g1 v c r az cX->g1 v X a_ az cX|[],cX,q=>q|i::az,cX,q=>by obtain⟨g,gG,bH,dY,eN⟩:=q;rw[⟨g,gG,bH,gr.to m i.2 g dY,g1.to m az gG eN⟩]end
variable{r:List aE}
theorem g1.grow(t:bK [] b w)(q:g1 v b.heap r az cX):g1 v w.heap r az cX:=g1.to (λa k l i=>⟨t.1 a k (λe=>nomatch e) i,l⟩) _ _ q
theorem gr.grow(t:bK [] b w)(q:gr v b.heap r z g):gr v w.heap r z g:=gr.to (λa k l i=>⟨t.1 a k (λe=>nomatch e) i,l⟩) _ _ q
theorem g1.same(G:iE x c X)(bl:x∈r)(q:g1 v c r az cX):g1 v X r az cX:=g1.to (λa k l i=>⟨(G.2 a λe=>l<|e▸bl).trans i,l⟩) _ _ q
theorem g1.sub(G:∀B∈a_,B∈r)(q:g1 v c r az cX):g1 v c a_ az cX:=g1.to (λa k l i=>⟨i,λe=>l<|G a e⟩) _ _ q
theorem g1.keys{az:List<|dV×fR}:∀{cX:List<|dV×aF},g1 v c r az cX->cX.map (·.1)=az.map (·.1):=by induction az with|nil=>intro cX q;rwa[U q];rfl|cons i az a3=>intro cX q;rw[d7 q λg gG bN u eN=>U bN<|U hU<|hU.symm▸Fm (a3 eN)▸V]
theorem g1.append(gG:g1 v c r GV UX){az:List<|dV×fR}:∀{cX:List<|dV×aF},g1 v c r az cX->g1 v c r (az++GV) (cX++UX):=by induction az with|nil=>intro cX q;rw[U q gG]|cons i az a3=>intro cX q;rw[d7 q λg e cB dY eN=>U cB<|ie g (e++UX) V dY<|a3 eN]
def vT(v:cU)(s:cq)(D:Sem aF)(m:Nat)(al:List aE->au->aF->Prop):Prop:=∀(b:au)(A:aF->au->Prop),Sub (fh v) b.heap->(∀g w,ec m b w->(∀r:List aE,(∀f∈r,0<=f/\f<(aB b))->al r w g)->A g w)->Y aU v s D A b
inductive lZ(v:cU)(s:cq):List (Sem aF×Sem aF)->Nat->List (dV×fR)->Prop|nil:lZ v s [] 0 []|cons{n:Sem aF×Sem aF}{c3:List<|Sem aF×Sem aF}{o S:Nat}{m:dV}{z:fR}{az:List<|dV×fR}:vT v s n.1 0 (λu u g=>m.is g=ag)->vT v s n.2 o (λr b g=>gr v b.heap r z g)->lZ v s c3 S az->lZ v s (n::c3) (o+S) ((m,z)::az)
theorem lZ.length(c:lZ v s c3 o az):gu az=gu c3:=by induction c with|nil=>rfl|cons _ _ _ aW=>simp[aW]
theorem Af{b w:au}{m:Nat}(t:ec m b w)(cC:∀f∈r,0<=f/\f<(aB b)):∀f∈r,0<=f/\f<(aB w):=λf R=>⟨(cC f R).1,cg (cC f R).2 t.1.2⟩
theorem acQ{c3:List<|Sem aF×Sem aF}{o:Nat}{az:List<|dV×fR}(c:lZ v s c3 o az):∀(b:au)(A:List (aF×aF)->au->Prop),Sub (fh v) b.heap->(∀N cX w,ec o b w->Carries (jx v) N cX->(∀r:List aE,(∀f∈r,0<=f/\f<(aB b))->g1 v w.heap r az cX)->A N w)->Y aU v s (evalPairs c3) A b:=by induction c with|nil=>intro b A G aj;rw[Y.pure<|aj [] [] b (ec.refl b) trivial λr u=>by rw[V]]|@cons n c3 o S m z az aT aQ _ aW=>intro b A G aj;obtain⟨akq,nR⟩:=n;rw[Y.bind<|aT b _ G λg as aK cW=>dR<|aQ as _ (G.grow aK.1) λx ar a7 fi=>dR<|aW ar _ (G.grow<|aK.1.trans a7.1) λN cX co b4 aA ap=>Y.pure<|aj _ ((m,x)::cX) co (by have:=(aK.trans a7).trans b4;rwa[sg]at this) ⟨cW [] aR,V,aA⟩ λr cC=>(ie x cX V ((fi r<|Af aK cC).grow b4.1)<|ap r<|Af (aK.trans a7) cC)]
theorem UY(t:ec m b as)(G:iE x as.heap X)(bl:b.heap.objs.size<=x):ec m b {as with heap:=X,toks:=ab}:=⟨t.1.hj (bK.same G) (λa l=>.inr<|bg l▸fY bl) aR,by show Ų (ű X)=_;rw[U G.1<|U t.2 V],t.3⟩
theorem MU(G:Sub (fh v) c):139<=Ų (ű c):=P2<|dK<|Dk (k:=TJ aU (ų v)) G (by cbv) V
end
noncomputable def vU:BT->Nat|.nil=>0|.node cR E q=>max 1<|max (2*vU E)<|2*vU q+1
theorem Dn:∀(D:BT)(j:Nat)(k:Obj),D.get j=W k->j<vU D
 |.nil,j,k,c=>dN c|.node z E q,j,k,c=>by
  rw[nf]at c;rw[(?_:j<max 1 (max (2*vU E)<|2*vU q+1))];by_cases aM:j=0
  .rw[U aM<|bM (.t (.n 0) .x) [.l (.n 1) .x] Z<|R3 _ _]
  .rw[if_neg aM]at c;by_cases af:j%2=1
   .rw[if_pos af]at c;have:=Dn E _ k c;rw[rf 31 (.t .x .y) [.t .z .w,.l .u .y,.t .x<|.a (.m 2 .z)<|.n 2,.l (.m 2 .w) .u] Z this (ZC _ _) (rh _ 1)<|R3 _ _]
   .rw[if_neg af]at c;have:=Dn q _ k c;rw[cg (Jh (a5 (l_ ((wx j 2).symm.trans (congrArg (2*(j/2)+·)<|(BG j).resolve_right af)))<|Ji 2<|Nat.le_of_pred_lt this))<|a5 (Jd ..)<|Jd ..]
theorem UZ(v:cU):vU (fh v)=139:=by cbv
inductive pD(x:aE)(o:Nat)(b w:au):Prop|mk(f2:bK [x] b w)(f3:Ų (ű (Q7 w))=b.heap.objs.size+o)(gw:w.gens=b.gens):pD x o b w
theorem pD.refl(x:aE)(b:au):pD x 0 b b:=⟨bK.refl ..,V,V⟩
theorem pD.trans(f:pD x m h a)(B:pD x E a g):pD x (m+E) h g:=⟨f.1.trans B.1,B.2▸f.2▸eA (.e (.a (.a .x .y) .z)<|.a .x<|.a .y .z) [] Z,B.3.trans f.3⟩
theorem ec.d{x:aE}{m:Nat}{h a:au}(f:ec m h a):pD x m h a:=⟨f.1.mono aR λu c=>c,f.2,f.3⟩
theorem acR(G:iE x b.heap X):pD x 0 b {b with heap:=X,toks:=ab}:=⟨bK.same G,G.1,V⟩
theorem Sub.E3(c:Sub (fh v) b.heap)(bl:139<=x)(t:pD x o b w):Sub (fh v) w.heap:=λh k dh i ft=>t.1.1 h dh (λe=>by
  have cG:h<139:=by have:=Dn _ _ _ i;rwa[UZ]at this
  rw[b2 ((bg e)▸cG) bl])<|c h k dh i ft
theorem gr.E3(t:pD x o b w)(bl:x∈r)(q:gr v b.heap r z g):gr v w.heap r z g:=gr.to (λa k l i=>⟨t.1.1 a k (λe=>l<|bg e▸bl) i,l⟩) _ _ q
theorem acS{ch:List<|dV×aF}{m:dV}{z:aF}(c:m∉ch.map (·.1)):stored ch m z=ch++[(m,z)]:=by unfold stored;rw[if_neg,];intro e;rw[bt (Qh.mp e) λkf Ag bq=>c<|la.mpr<|dj kf Ag<|of_decide_eq_true bq]
theorem acT{x:aE}{c3:List<|Sem aF×Sem aF}{o:Nat}{az:List<|dV×fR}(c:lZ v s c3 o az):∀(ch:List<|dV×aF)(b:au)(A:PUnit->au->Prop),Sub (fh v) b.heap->b.heap.DictOf (jx v) x ch->139<=x->(ch.map (·.1)++az.map (·.1)).Nodup->gu ch+gu az<=1000->(∀w cX,pD x o b w->w.heap.DictOf (jx v) x (ch++cX)->(∀r:List aE,(∀f∈r,0<=f/\f<b.heap.objs.size)->g1 v w.heap (x::r) az cX)->A tJ w)->Y aU v s (forIn c3 tJ λ(f:Sem aF×Sem aF)(_:PUnit)=>(do
   let kf<-f.1 let U0<-holding [kf] f.2
   holding [kf,U0]<|dictSet x kf U0
   dB (so tJ):Sem<|ForInStep PUnit)) A b:=by induction c with|nil=>intro ch b A G bl aw ak ae aj;rw[Y.eq (BO ..)<|Y.pure<|aj b [] (pD.refl x b) (by simpa using bl) λr u=>by rw[V]]|@cons n c3 o S m z az aT aQ _ aW=>
  intro ch b A G bl aw ak ae aj;have n':x<b.heap.objs.size:=by rw[zi (id bl) λk u u aL u=>?_];rw[dK aL]
  rw[U (u8 ..)<|Y.bind<|Y.bind<|aT b _ G λg as aK cW=>dR<|aQ as _ (G.grow aK.1) λfG ar a7 fi=>d8 ?_];intro eg;have ml:cy=2^24:=V;rw[dR<|Y.of<|wpAny_dictSet_pairs (hsz:=by simp only[gt]at ae;rw[fq 211 (.l .x .y) [.l (.a .x<|.o .z)<|.n 1000,.e .y<|.n 16777216] Z ae ml]) (cW [] λu c=>db c) (bl.keep λa k i=>(aK.1.trans a7.1).1 a k (λe=>db e) i) λX jN dy=>Y.pure ?_];have ĝ:m∉ch.map (·.1):=by intro e;rw[wE]at ak;rw[ak.2.2 m e m (bB) V]
  replace jN:=(acS ĝ)▸jN;generalize ny:({ar with heap:=X,toks:=ar.toks+1}:au)=co;have b4:=ny▸acR dy;have l0:=((aK.d).trans a7.d).trans b4;rw[aW (ch++[(m,fG)]) co _ (G.E3 aw l0) (ny▸jN) aw ?_ (by simp only[e7,gt,y8]at ae⊢;rw[ct (.l (.a (.a .x<|.o<|.n 0) .y)<|.n 1000) [.l (.a .x<|.o .y)<|.n 1000] Z ae]) λw cX cd MV ap=>?_]
  .simpa using ak
  .rw[aj w ((m,fG)::cX) (by have:=l0.trans cd;simpa using this) (by simpa using MV) λr cC=>?_];have Do:∀f∈x::r,0<=f/\f<Ų (ű (Q7 as)):=by
    intro f R
    revert f;rwa[hg ?_]
    .rw[⟨eQ _,cg n' aK.1.2⟩]
    .intro f R;rw[Af aK cC f R]
   rw[(ie fG cX V (((fi (x::r) Do).E3 b4 bB).E3 cd bB)<|ap r λf R=>⟨(cC f R).1,cg (cC f R).2 l0.1.2⟩)]
theorem U1(c:lZ v s c3 o az)(ak:(az.map (·.1)).Nodup)(Lb:c3.length<=100)(G:Sub (fh v) b.heap)(aj:∀w cX,ec (o+1) b w->w.heap.DictOf (jx v) b.heap.objs.size cX->(∀r:List aE,(∀f∈r,0<=f/\f<b.heap.objs.size)->g1 v w.heap (b.heap.objs.size::r) az cX)->A b.heap.objs.size w):Y aU v s (subDict c3) A b:=by
 by_cases aw:c3.length<=15
 .rw[dC<|Bt ?_];generalize fX:({b with heap:=b.heap.push {cls:=.type "dict",data:=.dict #[]}}:au)=as;have aK:ec 1 b as:=fX▸ec.push b _ b.toks;have MW:as.heap.DictOf (jx v) b.heap.objs.size []:=fX▸(⟨_,#[],0,fu _ V,⟨V,V,V⟩,V,λu bq=>by simp at bq,.nil,pZ⟩);rw[dR<|tY aw<|Y.bind<|acQ c as _ (G.grow aK.1) λN cX ar a7 aA ap=>Y.holding ?_];have bH:=c.length;have cm:=(ap [] aR).keys;have eO:cX.length=az.length:=by have:=congrArg gu cm;simpa using this
  have d4:cy=2^24:=V;rw[dC<|wpAny_storeAll N cX [] ar _ aA (MW.keep λa k i=>a7.1.1 a k (λe=>db e) i) (by simp;rw[lJ 21111 (.l .x .y) [.l .z<|.n 15,.e .w .z,.e .x .w,.e .y<|.n 16777216] Z aw bH eO d4]) λX jN dy=>Y.pure<|Y.pure ?_];rw[merged_nil_of_nodup cX<|cm▸ak]at jN;have b4:ec (o+1) b {ar with heap:=X,toks:=ar.toks+N.length}:=by have:=UY (aK.trans a7) dy (ab:=ar.toks+N.length)<|dr _;rwa[tx 1 o,]at this
  rw[aj _ cX b4 jN λr cC=>?_];have:=ap (b.heap.objs.size::r) (λf R=>by
   revert f;rwa[hg ?_]
   .rw[⟨eQ _,l_ aK.2.symm⟩]
   .intro f R;rw[Af aK cC f R]);rw[this.same dy bB]
 .rw[dC<|Bt ?_];generalize fX:({b with heap:=b.heap.push {cls:=.type "dict",data:=.dict #[]}}:au)=as;have aK:=fX▸ec.push b _ b.toks;rw[dR<|gR aw<|dC<|mv<|Y.bind<|acT c [] as _ (G.grow aK.1) (fX▸(⟨_,#[],0,fu _ V,⟨V,V,V⟩,V,λu bq=>by simp at bq,.nil,pZ⟩)) (MU G) (by simpa using ak) (by simp;rw[ct (.l .x<|.n 1000) [.l .y<|.n 100,.e .x .y] Z Lb c.length]) λw cX cd jN ap=>Y.pure<|Y.pure ?_];have gz:ec (o+1) b w:=⟨aK.1.hj cd.1 (λa l=>.inr<|bg l▸fY (dr _)) λu c=>db c,U cd.2<|U aK.2<|ct (.e (.a (.o .x) .y)<|.a .x<|.o .y) [] Z,cd.3.trans aK.3⟩;rw[aj w cX gz (by simpa using jN) λr cC=>ap r<|Af aK cC]
theorem acU(Dp:m.is cK=ag)(bk:b.heap.DictOf (jx v) x cX)(aT:m∉cX.map (·.1))(d4:gu cX<=1000)(aj:∀X,X.DictOf (jx v) x (cX++[(m,z)])->iE x b.heap X->A () {b with heap:=X}):Y aU v s (dictPut x ((jx v).hash m) cK z) A b:=by
 rw[Y.of<|wN bk λk az zy aL aA bl U2 aO ak=>?_];have ml:cy=2^24:=V;have kE:az.size<=sizeLine:=by
  have bH:=aO.length;have cm:gu az.toList=az.size:=by simp
  rw[lJ 21211 (.l .x .y) [.l .z<|.n 1000,.e .y<|.n 16777216,.e .w .z,.e .w .x] Z d4 ml bH cm]
 rwa[bc<|wpAny_dictFind_of (knd:=jx v) Dp aL bl U2];have Ml:(az.findIdx? λi=>(jx v).is m i.key)=cX.findIdx? λkf=>decide (kf.1=m):=by rwa[bL (aO.findIdx m)];obtain⟨E⟩:=az;simp
 have Ğ:(cX.findIdx? λkf=>decide<|kf.1=m)=aX:=by rwa[gW (List.findIdx?_eq_none_iff)];intro kf Ag;rw[decide_eq_false λi=>aT<|la.mpr ⟨kf,Ag,i⟩]
 rw[Fm Ml▸Fm Ğ▸wpAny_updateDictKeys (hz:=kE) aL bl (aj _ ⟨_,_,zy+1,nP _ aL<|Obj.isFreed_of_dict<|QR bl _,aA.mapDictKeys _,QR bl _,U2.push Dp _,?_,?_⟩<|tF ..)]
 .have:=aO.append Dp ((jx v).hash m) z;obtain⟨E⟩:=az;simpa using this
 .rw[U jg<|gW wE<|⟨ak,by simp,?_⟩];intro h aS a l;simp only[hU,BQ,hG]at l;rw[U l λi=>aT<|i▸aS]
set_option backward.match.sparseCases true in theorem acV(Ah:x≠h)(aS:(h==sysModules)=be)(bl:b.heap.DictOf (jx v) x cX)(bk:b.heap.DictOf (jx v) h eB)(c_:cX≠[])(ak:(cX.map (·.1)++eB.map (·.1)).Nodup)(d4:cX.length+eB.length<=1000)(aj:∀X,X.DictOf (jx v) x (cX++eB)->iE x b.heap X->A () {b with heap:=X}):Y aU v s (mergeMapping x (.ref h) be) A b:=by
 rw[g4 λu bW=>wN (id bl) λdu U3 akr ğ sB m0 aks Ġ akt=>wN (id bk) λU4 sZ ġ GW Ģ GX ģ U5 GY=>bW ?_];have cV:b.TypeIs (.ref h) "dict":=⟨U4,GW,Ģ.1⟩;have cp:eB.length=sZ.size:=by rwa[bL U5.length];simp
 rw[dC<|sa cV (show EK (.type "dict") (.type "dict")=dB ag from(by rwa[U (k_ ..)];cbv))<|dC<|iu cV (show m' (.type "dict") "__iter__"=dB (W<|.builtin "dict.__iter__")from(by rwa[U (h_ ..)<|U h'];cbv))<|((by decide:((W<|JS "dict.__iter__")==W (JS "dict.__iter__"))=ag).symm)▸ev ?_]
 dsimp only;rw[U (if_neg (by rwa[U aS];decide))<|dC<|IW ğ m0 ?_];have Ĥ:U3.isEmpty=be:=by cases bq:U3.isEmpty with|false=>rfl|true=>exfalso;have aM:=QM.mp bq;subst aM;have:=Ġ.length;rw[c_<|Qi this.symm]
 rw[U (if_neg (by rwa[U Ĥ];decide))<|dC<|IW GW GX ?_];rwa[dC<|wpAny_dictEpoch GW GX];have cK:∀(j:Nat)(w:au)(X:e1),w={b with heap:=X}->j<=sZ.size->X.DictOf (jx v) x (cX++eB.take j)->iE x b.heap X->Y aU v s (forIn (List.range' j<|sZ.size-j) tJ λj(aku:PUnit)=>do
    let Cg<-dictEntries h match Cg[j]? with
     |some i=>do
      holding [i.key,i.val]<|dictPut x i.hash i.key i.val let Cg<-dictEpoch h if(Cg !=ġ)=ag then do
        unsupported "dict.changed-during-merge"
        dB<|so tJ else dB<|so tJ|f=>do
      unsupported "dict.changed-during-merge"
      dB<|so tJ) (λu w=>A () w) w:=by intro j;induction lX:sZ.size-j generalizing j with
  |zero=>intro w X i T jN dy;have:eB.take j=eB:=q2<|oy (.l .x .y) [.e .x .z,.e .w<|.n 0,.l .z<|.a .w .y] Z cp lX<|ef _ _;rw[U i<|Y.pure<|aj X (this▸jN) dy]|succ S aW=>
   intro w X i T jN dy;rwa[U i];have cG:j<sZ.size:=(iv (j)<|sZ.size).elim (λer=>lJ 21 (.t .x .y) [.e .z<|.o .w,.e (.a .z .x) .y] Z lX<|dM er) λer=>lJ 20 (.t .x .y) [.e .z<|.o .w,.e .z<|.n 0] Z lX<|jl er;have U6:X.get? h=W U4:=(dy.2 h Ah.symm).trans GW;rw[U List.range'_succ<|U (u8 ..)<|Y.bind<|dC<|IW U6 GX<|U (pb cG)<|g4 λu bW=>?_];rw[c1 (⟨eB[j]'(fq 21 (.t .x .y) [.e .y .z,.t .x .z] Z cp cG),eT _⟩:∃kf,eB[j]?=W kf) λkf Ag=>?_];obtain⟨m,z⟩:=kf;rw[c0 (U5.get? (e:=sZ[j]) (by simp[cG]) Ag) λDp ĥ=>bt (ģ sZ[j]<|Array.getElem_mem cG) λfN U7 Ħ=>?_];obtain rfl:fN=m:=(jx v).inj _ _ _ U7 Dp;rw[bW<|d8 ?_];intro eg
   dsimp only;rw[Ħ.symm▸ĥ.symm▸?_];have GF:eB.take (j+1)=eB.take j++[(fN,z)]:=by rwa[U u4<|U Ag];rfl
   have ħ:fN∉(cX++eB.take j).map (·.1):=by
    have mO:(cX.map (·.1)++(eB.take<|j+1).map (·.1)).Nodup:=by rw[ak.sublist<|List.Sublist.append (List.Sublist.refl _)<|(List.take_sublist _ _).map _]
    rw[GF,jg,<-mD,<-jg]at mO;rw[wE]at mO;intro e;rw[mO.2.2 fN e fN (bB) V]
   rw[dR<|acU U7 jN ħ (e7▸sk▸eA (.l (.a .x .y)<|.n 1000) [.l (.a .x .z)<|.n 1000,.l .y .z] Z d4 (vm _ _)) λw_ MV U8=>dC<|wpAny_dictEpoch (s:={b with heap:=w_}) ((U8.2 h Ah.symm).trans U6) GX<|U (if_neg (by simp))<|Y.pure<|aW (j+1) ((iv ((j)+1)<|sZ.size).elim (λer=>rg 100121 1011011 (.e .x .y) [.e .z<|.o .y,.l .w<|.a .x<|.o .u,.l .w<|.a .z .u,.e (.a .x<|.o .u) .w,.e (.a .z .u) .w] Z lX (ef _ _) (ef _ _) (dM er)<|dM<|ct (.l .x .y) [.l (.o .x) .y] Z er) λer=>(iv (j)<|sZ.size).elim (λg0=>rg 10121 101001 (.e .x .y) [.e .z<|.o .y,.l .w<|.o .u,.e .x<|.n 0,.e (.a .z .u) .w] Z lX er (jl er)<|dM g0) λg0=>kU 1021 10101 (.e .x .y) [.e .z<|.o .y,.e .x<|.n 0,.e .z<|.n 0] Z lX (jl er)<|jl g0) _ w_ V cG (U GF<|bL (mD ..) MV)<|dy.trans U8]
 have ik:=cK 0 b b.heap V (eQ _) (by simpa using bl)<|Heap.SameBut.refl _ _;rw[Nat.sub_zero,<-List.range_eq_range']at ik;rw[hy ik λu w c=>Y.pure c]
noncomputable def U9(run:List<|Sem aF×Sem aF)(i':Option aE):Sem (Option aE):=if run.isEmpty=ag then dB i' else match i' with|none=>do let x<-subDict run;dB<|W x|some x=>do
   let sub<-holding [.ref x]<|subDict run
   (holding [.ref x,.ref sub]<|mergeMapping x (.ref sub) be).onRaise λf=>do let _<-holding [.ref x,f]<|runValue<|.builtin "proto.let_go" {}
   dB<|W x
def GZ(v:cU)(cE:au)(i':Option aE)(ch:List<|dV×fR)(o:Nat)(b:au):Prop:=ec o cE b/\match i' with|none=>ch=[]/\o=0|some x=>x=Ų (ű (Q7 cE))/\∃cX,b.heap.DictOf (jx v) x cX/\cX≠[]/\∀r:List aE,(∀f∈r,0<=f/\f<Ų (ű (Q7 cE)))->g1 v b.heap (x::r) ch cX
theorem U_{run:List<|Sem aF×Sem aF}{i':Option aE}{S o:Nat}{ch az:List<|dV×fR}{A:Option aE->au->Prop}(vS:Sub (fh v) cE.heap)(c:GZ v cE i' ch o b)(aO:lZ v s run S az)(c_:run≠[])(ak:(ch.map (·.1)++az.map (·.1)).Nodup)(ae:gu ch+gu az<=1000)(aw:gu run<=100)(aj:∀w,GZ v cE (W cE.heap.objs.size) (ch++az) (o+(S+1)) w->A (W cE.heap.objs.size) w):Y aU v s (U9 run i') A b:=by
 rwa[gR (by simpa using c_)];have kE:az≠[]:=by intro e;subst e;have:=aO.length;simp at this;rw[c_<|Qi this.symm]
 have G0:∀cX:List<|dV×aF,∀r:List aE,∀c:e1,g1 v c r az cX->cX≠[]:=by intro cX r c q e;subst e;cases az with
  |nil=>rw[kE V]|cons i az=>rw[?_];rw[fW q λu u i u=>?_];cases i
 rw[c0 c λt c=>?_];have G:Sub (fh v) b.heap:=vS.grow t.1;cases i' with|none=>rw[c0 c λfw hJ=>?_];obtain rfl:=fw;obtain rfl:=hJ;have d4:b.heap.objs.size=Ų (ű (Q7 cE)):=t.2;rw[Y.bind<|U1 aO (by simpa using ak) aw G λw cX cd bl ap=>Y.pure ?_];rw[d4]at bl ap⊢;rw[aj w ⟨t.trans cd,V,cX,bl,G0 cX _ _<|ap [] aR,λr cC=>ap r cC⟩]|some x=>
  rw[c0 c λj8 j9=>?_];obtain rfl:=j8;rw[fK j9 λcX bl aT ap=>?_];have n':Ų (ű (Q7 cE))<b.heap.objs.size:=by rw[zi (id bl) λk u u aL u=>?_];rw[dK aL]
  have U':=MU vS;rw[dR<|U1 aO ((wE.mp ak).2.1) aw G λas eB aK bk Va=>?_];have MW:as.heap.DictOf (jx v) cE.heap.objs.size cX:=bl.keep λa k i=>aK.1.1 a k (λe=>db e) i;have bH:=(ap [] aR).keys;have cm:=(Va [] aR).keys;have f7:gu cX=gu ch:=by have:=congrArg gu bH;simpa using this
  have h0:gu eB=gu az:=by have:=congrArg gu cm;simpa using this
  rw[Y.bind<|Y.onRaise<|Y.holding<|acV (gQ n') ?_ MW bk aT (bH▸cm▸ak) (oy (.l (.a .x .y)<|.n 1000) [.l (.a .z .w)<|.n 1000,.e .x .z,.e .y .w] Z ae f7 h0) λX jN dy=>Y.pure ?_]
  .have:sysModules=1:=V;rwa[U this];cases e:b.heap.objs.size==1 with
   |false=>rfl|true=>have:=eq_of_beq e;have:=MU G;lia
  .have Ĩ:ec (o+(S+1)) cE {as with heap:=X}:=UY (t.trans aK) dy<|dr _;rw[aj _ ⟨Ĩ,V,cX++eB,jN,by simp[aT],λr cC=>?_⟩];have dY:g1 v X (Ų (ű (Q7 cE))::r) ch cX:=((ap r cC).grow aK.1).same dy bB;have eN:=Va (Ų (ű (Q7 cE))::r) (λf R=>by
    revert f;rwa[hg ?_]
    .rw[⟨eQ _,n'⟩]
    .intro f R;rw[⟨(cC f R).1,cg (cC f R).2 t.1.2⟩]);have qi:g1 v X (Ų (ű (Q7 cE))::r) az eB:=(eN.same dy (by simp)).sub λB a8=>mt a8;rw[g1.append qi dY]
theorem lZ.snoc(c:lZ v s c3 o az)(aT:vT v s n.1 0 λu u g=>m.is g=ag)(aQ:vT v s n.2 S λr b g=>gr v b.heap r z g):lZ v s (c3++[n]) (o+S) (az++[(m,z)]):=by induction c with|nil=>have:=lZ.cons aT aQ<|lZ.nil;simpa using this|cons h a _ aW=>rwa[U (sh ..)];rw[.cons h a aW]
theorem acW(J:(Option (Sem aF)×Sem aF)->(Option aE×List (Sem aF×Sem aF))->Sem (ForInStep<|Option aE×List (Sem aF×Sem aF)))(Ai:∀(n:Sem aF×Sem aF)(i':Option aE)(run:List<|Sem aF×Sem aF),gu run+1<17->J (W n.1,n.2) (i',run)=dB (.yield (i',run++[n])))(MX:∀(n:Sem aF×Sem aF)(i':Option aE)(run:List<|Sem aF×Sem aF),gu run+1=17->J (W n.1,n.2) (i',run)=(do let S<-U9 (run++[n]) i';dB<|.yield (S,[])))(vS:Sub (fh v) cE.heap){c3:List<|Sem aF×Sem aF}{o:Nat}{az:List<|dV×fR}(c:lZ v s c3 o az):∀(i':Option aE)(run:List<|Sem aF×Sem aF)(ch pE:List<|dV×fR)(m S:Nat)(b:au)(A:Option aE×List (Sem aF×Sem aF)->au->Prop),GZ v cE i' ch m b->lZ v s run S pE->gu run<17->(ch.map (·.1)++pE.map (·.1)++az.map (·.1)).Nodup->gu ch+gu pE+gu az<=1000->(∀Aj xN gy Ak fN qa w,GZ v cE Aj gy fN w->lZ v s xN qa Ak->gu xN=(gu run+gu c3)%17->gy++Ak=ch++pE++az->fN+qa=m+S+o+(gu run+gu c3)/17->A (Aj,xN) w)->Y aU v s (forIn (c3.map λn=>(W n.1,n.2)) (i',run) J) A b:=by induction c with
 |nil=>intro i' run ch pE m S b A c7 aO aw ak ae aj;rw[Y.eq (U BQ<|U BO V)<|Y.pure<|aj i' run ch pE m S b c7 aO (by simp[Fg aw]) (by simp) (by simp[Jj aw])]|@cons n c3 h a G1 z az aT aQ lU aW=>
  intro i' run ch pE m S b A c7 aO aw ak ae aj;rwa[Y.eq (U hU<|U (u8 ..) V)];have Vb:=aO.snoc aT aQ;have mO:(ch.map (·.1)++(pE++[(G1,z)]).map (·.1)++az.map (·.1)).Nodup:=by simpa using ak
  rcases pV (gu run+1) 17 with cG|lh
  .rw[U (Ai n i' run cG)<|ev<|aW i' (run++[n]) ch (pE++[(G1,z)]) m (S+h) b A c7 Vb (by simpa using cG) mO (by simp at ae⊢;rw[eA (.l (.a (.a .x<|.o .y) .z)<|.n 1000) [.l (.a (.a .x .y)<|.o .z)<|.n 1000] Z ae]) λAj xN gy Ak fN qa w xO rv lk uw vV=>aj Aj xN gy Ak fN qa w xO rv ?_ (by simpa using uw) ?_]
   .rw[U lk ?_];congr 1;simp;rw[ct (.e (.a (.o .x) .y)<|.a .x<|.o .y) [] Z]
   .rw[U vV ?_];simp only[e7,gt,y8];rw[U (by rw[ct (.e (.a (.a .x<|.o<|.n 0) .y)<|.a .x<|.o .y) [] Z]:gu run+(0+1)+gu c3=gu run+(gu c3+1))<|zo (.e (.a (.a (.a .x<|.a .y .z) .w) .u)<|.a (.a (.a .x .y)<|.a .z .w) .u) [] Z]
  .have G2:gu run+1=17:=u1 aw lh;rw[U (MX n i' run G2)<|Y.bind<|Y.bind<|U_ vS c7 Vb (by simp) ((wE.mp mO).1) (by simp at ae⊢;rw[eA (.l (.a .x<|.o .y)<|.n 1000) [.l (.a (.a .x .y)<|.o .z)<|.n 1000] Z ae]) (by simp;rw[bM (.l .x<|.n 99) [.e (.o .x)<|.n 17] Z G2]) λas MY=>Y.pure<|aW (W cE.heap.objs.size) [] (ch++(pE++[(G1,z)])) [] (m+(S+h+1)) 0 as A MY .nil (by simp) (by simpa using mO) (by simp at ae⊢;rw[eA (.l (.a (.a .x<|.o .y) .z)<|.n 1000) [.l (.a (.a .x .y)<|.o .z)<|.n 1000] Z ae]) λAj xN gy Ak fN qa w xO rv lk uw vV=>aj Aj xN gy Ak fN qa w xO rv ?_ (by simpa using uw) ?_]
   .rw[U lk ?_];simp only[y8,gt];rw[U (by rw[nj 21 0 (.e (.a .x<|.o .y)<|.a (.a (.n 0) .y)<|.n 17) [.e (.o .x)<|.n 17] Z G2]:gu run+(gu c3+1)=0+gu c3+17)<|U (Nat.add_mod_right ..) V]
   .rw[U vV ?_];simp only[y8,gt];rw[U (by rw[nj 21 0 (.e (.a .x<|.o .y)<|.a (.a (.n 0) .y)<|.n 17) [.e (.o .x)<|.n 17] Z G2]:gu run+(gu c3+1)=0+gu c3+17)<|U (P0 _ bf)<|zo (.e (.a (.a (.a (.a .x<|.o<|.a .y .z)<|.n 0) .w) .u)<|.a (.a (.a .x .y)<|.a .z .w)<|.o .u) [] Z]
theorem acX(G:Sub (fh v) b.heap)(c:lZ v s c3 o az)(ak:(az.map (·.1)).Nodup)(ae:gu az<=1000)(ap:gu c3%17≠0)(aj:∀w,ec (o+(gu c3/17+1)) b w->(∀r:List aE,(∀f∈r,0<=f/\f<(aB b))->gr v w.heap r (.tb az) (.ref<|aB b))->A (.ref<|aB b) w):Y aU v s (dictDisplay<|c3.map λn=>(W n.1,n.2)) A b:=by
 rw[Y.bind<|acW _ (λn i' run aw=>?_) (λn i' run aw=>?_) G c aX [] [] [] 0 0 b _ ⟨ec.refl b,V,V⟩ .nil bf (by simpa using ak) (by simpa using ae) λi' run ch pE m S w c7 aO aw bq aT=>?_]
 .have c_:(gu (run++[(n.1,n.2)])==17)=be:=by simp;rw[ni 2 (.ne .x<|.n 16) [.t (.o .x)<|.n 17] Z aw]
  simp only[c_,EH,if_false]
 .have c_:(gu (run++[(n.1,n.2)])==17)=ag:=by simp;rw[FP 21 0 (.e .x<|.n 16) [.e (.o .x)<|.n 17] Z aw]
  simp only[c_,if_true];rfl
 .have MZ:run≠[]:=by intro e;subst e;simp at aw;rw[ap<|id<|Fm aw]
  have ĩ:(ch.map (·.1)++pE.map (·.1)).Nodup:=by rwa[bL jg<|U bq];simpa using ak
  have Ī:gu ch+gu pE<=1000:=by have:=congrArg gu bq;simp at this;rw[eA (.l (.a .x .y)<|.n 1000) [.l .z<|.n 1000,.e (.a .x .y) .z] Z ae this]
  rw[Y.bind<|(U_ G c7 aO MZ ĩ Ī (by rwa[U aw];rw[bM (.l .x<|.n 100) [.t .x<|.n 17] Z<|ZA _ 16]) λas MY=>?_)];rw[c0 MY λt bN=>c0 bN λcB dt=>fK dt λcX bl eh vV=>?_];obtain-:=cB;obtain-:=eh;rw[Y.pure<|aj as ?_ λr cC=>?_]
  .have i:m+(S+1)=o+(gu c3/17+1):=by simp at aT;rw[zn 21 0 (.e (.a .x<|.o .y)<|.a .z<|.o .w) [.e (.a .x .y)<|.a .z .w] Z aT]
   rw[bL i t]
  .rw[(RF _ cX V (λe=>ia _ (cC _ e).2) bl ?_)];rw[bq]at vV;rw[(vV r cC).sub λB a8=>mt a8]
noncomputable def pairsOf(p:Env)(ax:Pos):List bJ->List bJ->List (Sem aF×Sem aF)|m::eJ,z::N=>(ee m p,do let f<-ee z p;Bi ax;dB f)::pairsOf p ax eJ N|cR,e3=>[]
theorem acY:∀(eJ N:List bJ),(evalEachOpt (eJ.map W) p).zip ((Bm N p).map λz=>do let f<-z;Bi ax;dB f)=(pairsOf p ax eJ N).map λn=>(W n.1,n.2):=by intro fc;induction fc with|nil=>intro N;rw[U BQ<|?_];cases N<;>rfl|cons m eJ a3=>intro eV;cases eV with|nil=>rfl|cons z N=>rw[U hU<|(((U hU<|U hU<|U Jz<|U (a3 N) ?_)))];rfl
noncomputable def envOf(n:cM):Env:={scope:=n.main.scope,locals:=mz,globals:=mz,cells:=[],code:=.ref 13,frame:=W 14}
noncomputable def G3:List (Str×Int):=[("VERSION_M1",-3),("VERSION_M2",-2),("VERSION_M3",-1),("VERSION_M4",0),("ERROR_LEVEL_L",1),("ERROR_LEVEL_M",0),("ERROR_LEVEL_Q",3),("ERROR_LEVEL_H",2)]
theorem acZ(ax:Pos):io fh (ee (.Name "EC" ax)<|envOf aU) (.ref 135) 0:=λa v m=>by cases a<;>cbv
theorem ac0:io fh (tp<|.ref 135) .machine 0:=λa v m=>by cases a<;>cbv
theorem ac1(f:Str)(j:Int)(c:G3.lookup f=W j)(ax:Pos):∃D,io fh (ee (.Name f ax)<|envOf aU) (.int j D) 0:=by
 have bk:=IK c;simp only[G3,fT,q5,na,or_false]at bk;rcases bk with⟨rfl,rfl⟩|⟨rfl,rfl⟩|⟨rfl,rfl⟩|⟨rfl,rfl⟩|⟨rfl,rfl⟩|⟨rfl,rfl⟩|⟨rfl,rfl⟩|⟨rfl,rfl⟩
 .rw[⟨_,(show io fh (ee (.Name "VERSION_M1" ax)<|envOf aU) (.int (-3) 262) 0 from(λa v m=>by cases a<;>cbv))⟩]
 .rw[⟨_,(show io fh (ee (.Name "VERSION_M2" ax)<|envOf aU) (.int (-2) 259) 0 from(λa v m=>by cases a<;>cbv))⟩]
 .rw[⟨_,(show io fh (ee (.Name "VERSION_M3" ax)<|envOf aU) (.int (-1) 256) 0 from(λa v m=>by cases a<;>cbv))⟩]
 .rw[⟨_,(show io fh (ee (.Name "VERSION_M4" ax)<|envOf aU) (.int 0 253) 0 from(λa v m=>by cases a<;>cbv))⟩]
 .rw[⟨_,(show io fh (ee (.Name "ERROR_LEVEL_L" ax)<|envOf aU) (.int 1 264) 0 from(λa v m=>by cases a<;>cbv))⟩]
 .rw[⟨_,(show io fh (ee (.Name "ERROR_LEVEL_M" ax)<|envOf aU) (.int 0 266) 0 from(λa v m=>by cases a<;>cbv))⟩]
 .rw[⟨_,(show io fh (ee (.Name "ERROR_LEVEL_Q" ax)<|envOf aU) (.int 3 268) 0 from(λa v m=>by cases a<;>cbv))⟩]
 .rw[⟨_,(show io fh (ee (.Name "ERROR_LEVEL_H" ax)<|envOf aU) (.int 2 270) 0 from(λa v m=>by cases a<;>cbv))⟩]
theorem Vc:gr v c r (.iT<|.int j) (.int j D):=q4 D V
theorem ac2:gr v c r (.iT<|.str j) (.str j D):=q4 D V
theorem G4:vT v s (ee (.Constant (.int j) m ax) p) 0 (λr b g=>gr v b.heap r (.iT<|.int j) g):=λb A G aj=>Y.of<|uW<|aj _ _ (ec.tok ..) λr u=>Vc
theorem ac3(c:G3.lookup f=W j):vT v s (ee (.Name f ax)<|envOf aU) 0 (λr b g=>gr v b.heap r (.iT<|.int j) g):=λb A G aj=>by obtain⟨D,bC⟩:=ac1 f j c ax;rw[mj bC G<|aj _ _ (ec.refl b) λr u=>Vc]
theorem ac4(gI:s.depth+100<f6):vT v s (ee (.Call (.Name "EC" amH) [.Constant (.int h) jV adv,.Constant (.int a) G5 adw,.Constant (.int g) adx xe] [] ax)<|envOf aU) 5 (λr b z=>gr v b.heap r (.iT<|.q0 h a g) z):=λb A G aj=>by
 .rw[ds (@pY _ _ _) ?_];intro dx;rwa[Y.bind<|mj (acZ _) G];rwa[ds (@kp _ _)];intro dx;rwa[Y.eq (U (EW ..) V)];rw[dR<|zw (M:=λD=>D=b) (a_:=[]) (aD:=[]) (al:=λD aV=>ec 0 b D/\∃M0 lr M1,aV=[.int h M0,.int a lr,.int g M1]) V ?_ V λaV as aK bw=>?_]
  .rintro D nU ax rfl rT;rwa[Y.eq (U (kV V)<|U (kV V)<|U (kV V)<|V)];rw[(?_:Y aU v s (pT [(be,_),(be,_),(be,_)]) _ _)];rw[ph ?_];intro p6;rwa[Y.eq (V)];rw[Y.bind<|G4 (m:=jV) (ax:=adv) _ _ G λe2 as aK cW=>?_];rw[c1 (((cW [] aR)):∃D,e2=.int h D) λjr bN=>U bN ?_];rwa[gR bf];rw[ev<|dR ?_];rw[d8 ?_];intro eg;rwa[Y.eq (V)];rw[Y.bind<|G4 (m:=G5) (ax:=adw) _ _ (G.grow aK.1) λfG ar a7 fi=>?_];rw[c1 (((fi [] aR)):∃D,fG=.int a D) λmU cB=>U cB ?_];rwa[gR bf];rw[ev<|dR ?_];rw[d8 ?_];intro eg;rwa[Y.eq (V)];rw[Y.bind<|G4 (m:=adx) (ax:=xe) _ _ (G.grow<|aK.1.trans a7.1) λī co b4 jM=>?_];rw[c1 (((jM [] aR)):∃D,ī=.int g D) λAl dt=>U dt ?_];rwa[gR bf];rw[ev<|dR ?_];rw[Y.pure<|Y.pure<|Y.pure<|Y.pure ?_];have t:ec 0 D co:=by have:=(aK.trans a7).trans b4;simpa using this
   rw[rT _ _ t.1 ⟨t,(RH jr mU Al V)⟩]
  .rw[ds (@Bool.or _ _) ?_];intro dx;rw[c0 bw λaK eh=>tM eh λM0 lr M1 fd=>U fd ?_];have fX:=G.grow aK.1;rw[dH ?_];rwa[Y.bind<|mj ac0 fX];rw[Y.bind<|acO gI fX λar a7 aL=>?_];rw[dC<|kK<|pS<|Y.pure ?_];have t:ec 5 b ar:=by have:=aK.trans a7;simpa using this
   rw[aj _ ar t λr cC=>?_];rw[(Zj _ _ M0 lr M1 _ V (λe=>?_) aL)];rw[b2 ((cC _ e).2)<|aK.2▸hf _ _]
noncomputable def ac5:PySem.Const->Option (Nat×bj)|.int j=>W (0,.int j)|.none=>W (0,.none)|.str f=>W (0,.str f)|_=>aX
noncomputable def dv:bJ->Option Int|.Constant (.int j) cR e3=>W j|_=>aX
noncomputable def Vd:bJ->Option Str|.Name f cR=>W f|_=>aX
def ints3:List bJ->Option (Int×Int×Int)|[h,a,g]=>(dv h).bind λh=>(dv a).bind λa=>(dv g).bind λg=>W (h,a,g)|_=>aX
def G6:bJ->Option (Nat×bj)|.Constant g cR e3=>ac5 g|.Name f cR=>(G3.lookup f).bind λj=>W (0,.int j)|.Call J bT [] cR=>(Vd J).bind λf=>(k2<|f==("EC":Str)).bind λu=>(ints3 bT).bind λD=>W (5,.q0 D.1 D.2.1 D.2.2)|_=>aX
def M2:List bJ->Option (Nat×List bj)|[]=>W (0,[])|i::az=>(G6 i).bind λh=>(M2 az).bind λa=>W (h.1+a.1,h.2::a.2)
noncomputable def Ve:bJ->Option (List bJ)|.Tuple az cR e3=>W az|_=>aX
noncomputable def dictOf:bJ->Option (List (Option bJ)×List bJ)|.Dict eJ N cR=>W (eJ,N)|_=>aX
def M3(i:bJ):Option (Nat×bj):=(Ve i).elim (G6 i) λaz=>(M2 az).bind λn=>(k2<|az.all dS&&i0 (gu n.2) 1000).bind λu=>W (n.1+1,.tup n.2)
noncomputable def Vf:bj->Option dV|.none=>W .none|.int j=>W<|.int j|.str f=>W<|.str f|_=>aX
def M4:List bJ->Option (List dV)|[]=>W []|i::az=>(G6 i).bind λh=>(k2<|u2 h.1 0).bind λu=>(Vf h.2).bind λm=>(M4 az).bind λeJ=>W<|m::eJ
noncomputable def M5:List (Option bJ)->Option (List bJ)|[]=>W []|k::az=>k.bind λi=>(M5 az).bind λq=>W<|i::q
noncomputable def M6:List dV->Bool|[]=>ag|m::eJ=>!eJ.contains m&&M6 eJ
noncomputable def G7:List dV->List (Nat×fR)->Option (Nat×List (dV×fR))|[],[]=>W (0,[])|m::eJ,z::N=>(G7 eJ N).bind λq=>W (z.1+q.1,(m,z.2)::q.2)|cR,e3=>aX
def ac6(eJ:List dV)(N:List<|Nat×fR):Option (Nat×fR):=(k2<|M6 eJ&&i0 (gu eJ) 1000&&!(u2 (gu eJ%17) 0)).bind λu=>(G7 eJ N).bind λq=>W (q.1+(gu q.2/17+1),.tb q.2)
noncomputable def M7{a9 cN:Type}(J:a9->Option cN):List a9->Option (List cN)|[]=>W []|h::q=>(J h).bind λa=>(M7 J q).bind λa6=>W<|a::a6
def M8(J:bJ->Option (Nat×fR))(x:List (Option bJ)×List bJ):Option (Nat×fR):=(M5 x.1).bind λeJ=>(M4 eJ).bind λmk=>(M7 J x.2).bind λN=>ac6 mk N
def Vg(i:bJ):Option (Nat×fR):=(dictOf i).elim ((M3 i).map λn=>(n.1,.iT n.2))<|M8 λi=>(M3 i).map λn=>(n.1,.iT n.2)
def Vh(i:bJ):Option (Nat×fR):=(dictOf i).bind<|M8 Vg
abbrev Dq(v:cU)(s:cq)(i:bJ)(o:Nat)(z:fR):Prop:=vT v s (ee i<|envOf aU) o λr b g=>gr v b.heap r z g
inductive Dr{a9 cN:Type}(ca:a9->cN->Prop):List a9->List cN->Prop|nil:Dr ca [] []|cons{h:a9}{a:cN}{E:List a9}{q:List cN}:ca h a->Dr ca E q->Dr ca (h::E) (a::q)
theorem M9(c:dv i=W j):∃Q n,i=.Constant (.int j) Q n:=by cases i with
 |Constant g Q n=>cases g with
  |int=>cases c;rw[(kR _ _ V)]|_=>rw[dN c]
 |_=>rw[dN c]
theorem ac7(c:Vd i=W f):∃n,i=.Name f n:=by cases i with|Name=>cases c;rw[⟨_,V⟩]|_=>rw[dN c]
theorem M_(gI:s.depth+100<f6)(c:G6 i=W (o,z)):Dq v s i o (.iT z):=by cases i with
 |Constant g _ _=>cases g with
  |int=>cases c;rw[G4]|none=>cases c;rw[(λb A G aj=>Y.pure<|aj _ _ (ec.refl b) λr u=>V)]|str=>cases c;rw[(λb A G aj=>Y.of<|IN<|aj _ _ (ec.tok ..) λr u=>ac2)]|_=>rw[dN c]
 |Name=>rw[d6 c λj aw c=>by cases c;rw[ac3 aw]]|Call J bT eJ _=>cases eJ with
  |nil=>
   rw[d6 c λf af c=>d6 c λu am c=>d6 c λD a' c=>?_];cases c;rwa[ds (@bj.q0 _ _ _)];intro dx;rw[c1 (ac7 af) λn fw=>U fw ?_];cases eq_of_beq<|sQ am
   match bT,a' with
   |[h,a,g],a'=>rw[d6 a' λj aS c=>d6 c λQ l c=>d6 c λm aA c=>?_];cases c;rw[kP (M9 aS) λu u j9=>U j9<|kP (M9 l) λu u mN=>U mN<|kP (M9 aA) λu u ob=>U ob<|ac4 gI]
  |_=>rw[dN c]
 |_=>rw[dN c]
theorem ac8(gI:s.depth+100<f6){az:List bJ}:∀{o:Nat}{N:List bj},M2 az=W (o,N)->az.all dS=ag->∀(b:au)(ax:Pos)(A:List aF->au->Prop),Sub (fh v) b.heap->(∀aV w,ec o b w->(∀r:List aE,(∀f∈r,0<=f/\f<(aB b))->b9 w.heap r N aV)->A aV w)->Y aU v s (pT<|kp ax<|j1 az<|envOf aU) A b:=by induction az with|nil=>intro o N c n0 b ax A G aj;cases c;rw[Y.pure<|aj [] b (ec.refl b) λr u=>by rw[V]]|cons i az a3=>intro o N c ak b ax A G aj;rw[d6 c λh af c=>d6 c λa am c=>?_];cases c;rw[on,ir]at ak;rw[Fm (kV ak.1)▸Y.bind (M_ gI af b _ G λg as aK cW=>ev<|dR<|a3 am ak.2 as ax _ (G.grow aK.1) λaV ar a7 fi=>Y.pure<|aj _ ar (aK.trans a7) λr cC=>(ie g aV V (ck.to (λa k l i=>⟨a7.1.1 a k (λe=>db e) i,l⟩) _ _<|cW r cC)<|fi r<|Af aK cC))]
theorem GI{a9 cN:Type}{k:Option a9}{a:cN}{J:a9->cN}{B:cN}{aD:Prop}(c:k.elim a J=B)(i5:k=aX->a=B->aD)(ff:∀h,k=W h->J h=B->aD):aD:=by
 cases k
 .rw[i5 V c]
 .rw[ff _ V c]
theorem ac9{i:bJ}{az:List bJ}{aD:Prop}(c:Ve i=W az)(m:∀Q n,i=.Tuple az Q n->aD):aD:=by cases i<;>first|rw[dN c]|rw[m _ _ (congrArg (JY · _ _)<|md c)]
theorem Vi{i:bJ}{x:List (Option bJ)×List bJ}{aD:Prop}(c:dictOf i=W x)(m:∀n,i=.Dict x.1 x.2 n->aD):aD:=by cases i<;>first|rw[dN c]|rw[m _<|congrArg (λx:List (Option bJ)×List bJ=>PySem.Expr.Dict x.1 x.2 _)<|md c]
theorem ac_(aT:Vf z=W m)(q:gr v c [] (.iT z) g):m.is g=ag:=by cases z with|none=>rw[md aT▸(q:g=_)▸V]|int j=>rw[c1 q λD e=>md aT▸e▸beq_self_eq_true j]|str j=>rw[c1 q λD e=>md aT▸e▸beq_self_eq_true j]|_=>rw[dN aT]
theorem ac'(gI:s.depth+100<f6):∀{eJ N:List bJ}{mk:List dV}{cX:List<|Nat×fR}{o:Nat}{az:List<|dV×fR},M4 eJ=W mk->Dr (λz n=>Dq v s z n.1 n.2) N cX->G7 mk cX=W (o,az)->lZ v s (pairsOf (envOf aU) ax eJ N) o az:=by intro fc;induction fc with
 |nil=>intro N mk cX o az aT aQ ae;cases aT;cases cX with|nil=>cases ae;cases aQ;rw[.nil]|cons n cX=>rw[dN ae]
 |cons m eJ a3=>intro N mk cX o az aT aQ ae;rw[d6 aT λh af aT=>d6 aT λu aM aT=>d6 aT λG1 Ĭ aT=>d6 aT λakv am aT=>?_];cases aT;cases aQ with|nil=>rw[dN ae]|@cons akw n ĭ c3 Kr rU=>rw[d6 ae λq ml ae=>?_];cases ae;rw[.cons (λb A G aj=>M_ (o:=0) gI (af.trans<|congrArg W<|J4 (Jk<|sQ aM) V) b A G λg w t q=>aj g w t λr cC=>ac_ Ĭ<|q [] aR) (λb A G aj=>Y.bind<|Kr b _ G λg w t q=>dH<|Y.pure<|aj g w t q)<|a3 am rU ml]
theorem ada{eJ:List dV}:M6 eJ=ag->eJ.Nodup:=by induction eJ with|nil=>intro fl;rw[pZ]|cons m eJ a3=>intro c;rw[c0 (kJ.mp c) λaf am=>List.nodup_cons.mpr ⟨λe=>iJ<|(congrArg Bool.not<|Qj.mpr e).symm.trans af,a3 am⟩]
theorem adb{eJ:List dV}:∀{N:List<|Nat×fR}{o:Nat}{az:List<|dV×fR},G7 eJ N=W (o,az)->az.map (·.1)=eJ:=by induction eJ with
 |nil=>intro N o az c;cases N with|nil=>cases c;rfl|cons n N=>rw[dN c]
 |cons m eJ a3=>intro N o az c;cases N with|nil=>rw[dN c]|cons n N=>rw[d6 c λq X c=>?_];cases c;rw[congrArg (m::·)<|a3 X]
theorem adc{E:List<|Option bJ}:∀{q:List bJ},M5 E=W q->E=q.map W:=by induction E with|nil=>intro q c;rw[md c▸V]|cons k E a3=>intro q c;rw[d6 c λi af c=>d6 c λgG am c=>md c▸af▸congrArg (W i::·) (a3 am)]
theorem ade{a9 cN:Type}{J:a9->Option cN}{ca:a9->cN->Prop}(bi:∀h a,J h=W a->ca h a){E:List a9}:∀{q:List cN},M7 J E=W q->Dr ca E q:=by induction E with|nil=>intro q c;rw[md c▸.nil]|cons h E a3=>intro q c;rw[d6 c λa af c=>d6 c λa6 am c=>md c▸.cons (bi _ _ af) (a3 am)]
theorem Vj(gI:s.depth+100<f6){J:bJ->Option (Nat×fR)}{x:List (Option bJ)×List bJ}{ax:Pos}{o:Nat}{z:fR}(bi:∀i o z,J i=W (o,z)->Dq v s i o z)(c:M8 J x=W (o,z))(b:au)(A:aF->au->Prop)(G:Sub (fh v) b.heap)(aj:∀w,ec o b w->(∀r:List aE,(∀f∈r,0<=f/\f<(aB b))->gr v w.heap r z (.ref<|aB b))->A (.ref<|aB b) w):Y aU v s (ee (.Dict x.1 x.2 ax)<|envOf aU) A b:=by rw[d6 c λeJ aL c=>d6 c λmk aT c=>d6 c λcX aQ c=>d6 c λu aA c=>d6 c λq ae c=>?_];cases c;rw[c0 (kJ.mp<|sQ aA) λaA uz=>c0 (kJ.mp aA) λhP lY=>?_];have i:=adb ae;have oV:=(dg ..).symm.trans<|congrArg gu i;have aO:=ac' (ax:=ax) gI aT (ade (λh a l=>bi h a.1 a.2 l) aQ) ae;have cm:=aO.length;rw[U (adc aL)<|U (arm_eval_Dict ..)<|U (acY ..)<|dH<|acX G aO (i▸ada hP) (Fm oV▸mC lY) (bL cm<|U oV λe=>iJ<|(congrArg (λm=>!u2 m 0) e).symm.trans uz) λw t aT=>aj w (cm▸t) aT]
theorem adf(gI:s.depth+100<f6){i:bJ}{o:Nat}{z:fR}(c:Vg i=W (o,z)):Dq v s i o z:=by
 have l:∀i o z,(M3 i).map (λn=>(n.1,fR.iT n.2))=W (o,z)->Dq v s i o z:=λi o z c=>wQ c λn aO e=>by cases e;rw[(by
    rw[GI aO (λu aO=>M_ gI aO) λaz bC aO=>ac9 bC λQ ax bH=>d6 aO λn af aO=>d6 aO λu aA aO=>?_]
    .cases aO;rw[U bH<|c0 (kJ.mp<|sQ aA) λhP lY=>?_];intro b A G aj;rw[dH<|Y.bind<|ac8 gI af hP b ax _ G λaV as aK cW=>Y.of<|jE ?_ ?_]
     .rw[aj _ _ (aK.trans<|ec.push as _ as.toks) λr cC=>SB (λf R=>cg (cC f R).2 aK.1.2) (by simpa using cW r cC)]
     .have:n.2.length<=1000:=mC lY;rw[(?_:aV.toArray.size<=cy)];have ae:cy=2^24:=V;rw[U y3<|fq 2111 (.l .x .y) [.e .x .z,.l .z<|.n 1000,.e .y<|.n 16777216] Z ((cW [] aR).length) this ae])]
 rw[GI c (λu c=>l _ _ _ c) λx bC c=>Vi bC λn bH=>U bH λb A G aj=>Vj gI l c b A G λw=>aj _ w]
noncomputable abbrev s0:Ctx:=⟨.builtin "claim.caller" {},aX,aX,[],aX⟩
noncomputable def G8(n:cM):Sem (aF×aE):=do
 let code<-moduleCode n.main let frame<-newBodyFrame code mz mz
 pure (code,frame)
def Dt(M:cY):fP:=⟨nx (pc M).objs.toList,11,boot_toks⟩
def G9(v:cU):fP:=match kC ⟨aU,ų v⟩ 0 (λu u u=>aX) s0 (G8 aU) default (Dt (ų v))with|some f=>f.2.2|none=>⟨.nil,0,0⟩
theorem adg(v:cU):kC ⟨aU,ų v⟩ 0 (λu u u=>aX) s0 (G8 aU) default (Dt (ų v))=W (.ok (.ref 13,14),default,G9 v):=by cbv
abbrev oW(n:cM):Ctx:=s0.enter (.body (B5 n)<|envOf n) aX default
def M'(n:cM):Sem Flow:=do
 E8 (B5 n)<|envOf n
 d3 (n.main.body.take 12)<|envOf n
def xP(v:cU)(j:Nat):Obj:=((match kC ⟨aU,ų v⟩ 0 (t_ nM ⟨aU,ų v⟩ 0 400) (oW aU) (M' aU) default (G9 v)with|some f=>f.2.2.1.get j|none=>aX)).getD mZ
def s1(v:cU):BT:=nx<|xy aU (ų v)<|xP v
theorem adh(v:cU):kC ⟨aU,ų v⟩ 0 (t_ nM ⟨aU,ų v⟩ 0 400) (oW aU) (M' aU) default (G9 v)=W (.ok .next,⟨31,0,73,58⟩,⟨s1 v,139,400⟩):=by cbv
section
def nA{a9:Type}(M:cY)(ab:Nat)(D:Sem a9)(q:a9)(a1:BT)(o m:Nat)(e:Pos)(vW:BT)(i7 fN:Nat)(df:Pos):Prop:=kC ⟨aU,M⟩ ab (t_ nM ⟨aU,M⟩ ab 400) (oW aU) D e ⟨a1,o,m⟩=W (.ok q,df,⟨vW,i7,fN⟩)
theorem G_{a9:Type}{v:cU}{ab:Nat}{D:Sem a9}{q:a9}(a1 vW:cY->BT){o m i7 fN:Nat}{e df:Pos}(c:∀a,(λM=>nA M ab D q (a1 M) o m e (vW M) i7 fN df) (ų (v.withFollow "special-get-raises" a))):nA (ų v) ab D q (a1 (ų v)) o m e (vW (ų v)) i7 fN df:=by have:=c<|v.params.followText "special-get-raises";rwa[B7]at this
variable(v:cU)(ž:Nat->Obj)(ab:Nat)
noncomputable def Vk(n:cM):List Stmt:=(n.main.body.drop 13).take 2
noncomputable def Vl(n:cM):List Stmt:=(n.main.body.drop 15).take 1
noncomputable def Vm(n:cM):List Stmt:=n.main.body.drop 16
theorem adi(e:Pos):nA (ų v) ab (tq (envOf aU) "ECC"<|.ref 139) () (GS aU (ų v) ž) 1868 0 e (qw aU (ų v) ž ab 20 0) 1868 1 e:=G_ (GS aU · ž) (qw aU · ž ab 20 0) λa=>by unfold nA;cases a<;>cbv
theorem adj(e:Pos):nA (ų v) ab (d3 (Vk aU)<|envOf aU) .next (qw aU (ų v) ž ab 20 0) 1868 1 e (qw aU (ų v) ž ab 22 21) 1889 576 ⟨76,0,76,10⟩:=G_ (qw aU · ž ab 20 0) (qw aU · ž ab 22 21) λa=>by unfold nA;cases a<;>cbv
theorem adk:nA (ų v) ab (d3 (Vl aU)<|envOf aU) .next (qw aU (ų v) ž ab 22 21) 1889 576 ⟨76,0,76,10⟩ (qw aU (ų v) ž ab 23 23) 1891 833 ⟨77,0,77,10⟩:=G_ (qw aU · ž ab 22 21) (qw aU · ž ab 23 23) λa=>by unfold nA;cases a<;>cbv
theorem runC:nA (ų v) ab (d3 (Vm aU)<|envOf aU) .next (qw aU (ų v) ž ab 23 23) 1891 833 ⟨77,0,77,10⟩ (n_ aU (ų v) ž ab) 1998 998 ⟨194,0,238,133⟩:=G_ (qw aU · ž ab 23 23) (n_ aU · ž ab) λa=>by unfold nA;cases a<;>cbv
end
theorem Vn(p:Env):∀(mm mn:List fa),d3 (mm++mn) p=(d3 mm p>>=λJ=>match J with|.next=>d3 mn p|J=>dB J):=by intro fc;induction fc with|nil=>intro mn;rwa[U (JA ..)<|U (wt ..)];rfl|cons st mm a3=>
  intro mn;rw[U u5<|U (qW ..)<|U (qW ..)<|U (bind_assoc ..) ?_]
  congr 1
  funext J;cases J with|next=>rw[a3 mn]|_=>rfl
theorem adl:(topStub aU).cur=(G8 aU>>=λbh=>(run (.body (B5 aU) {scope:=aU.main.scope,locals:=mz,globals:=mz,cells:=[],code:=bh.1,frame:=W bh.2})>>=λu=>ret .none)):=by unfold topStub G8;simp only[bind_assoc,pure_bind]
theorem boot_abs(M:cY):lE (Dt M).T (Dt M).n (pc M).life=pc M:=by cbv
def Am(f:Step):Prop:=∀J b,f≠.halt (.done J) b
theorem rV:Am (.go b D):=λu u c=>nomatch c
theorem G'[Decidable g](R:Am f)(a8:Am B):Am (if g then f else B):=by
 by_cases c:g
 .rw[U (if_pos c) R]
 .rw[U (if_neg c) a8]
theorem rW(c:∀J,k≠.done J):Am (.halt k b):=λJ u i=>c J (Step.halt.inj i).1
theorem adm{eG}{drawn}{toks os code ax stack}(An:Sem Fin)(c:∀J,An≠.pure (.done J)):Am (step den n v ⟨Ha,eG,drawn,toks,os⟩ ⟨An,code,ax,stack⟩):=by cases An with
 |pure gv=>cases gv with
  |done J=>rw[absurd V<|c J]|_=>rw[rV]
 |raise i=>cases stack with
  |nil=>rw[G' (rW λu c=>nomatch c)<|rW λu c=>nomatch c]|cons fr b0=>cases fr<;>rw[rV]
 |load h _ m=>
  dsimp only[step];generalize Ű Ha h=f;cases f
  .rw[rW λu c=>nomatch c]
  .rw[rV]|genState t m=>
  dsimp only[step];generalize eG[t]?=f;cases f
  .rw[rW λu c=>nomatch c]
  .rw[rV]|resume t q E m=>dsimp only[step];generalize eG[t]?=f;cases f with
  |none=>rw[rW λu c=>nomatch c]|some B=>cases B with
   |fresh=>cases q with|send z=>cases z<;>rw[rV]|_=>rw[rV]
   |_=>rw[rV]
 |yield=>dsimp only[step];generalize splitAtGen stack=f;cases f with
  |none=>rw[rW λu c=>nomatch c]|some B=>rw[rV]
 |_=>first|rw[rV]|rw[rW λu c=>nomatch c]|rw[G' rV (rW λu c=>nomatch c)]|rw[G' (rW λu c=>nomatch c) rV]|rw[G' (rW λu c=>nomatch c) (rW λu c=>nomatch c)]|skip
theorem adn(c:step den n v b D=.halt (.done J) w):through D=ag:=by
 obtain⟨Ha,eG,drawn,toks,os⟩:=b;obtain⟨An,code,ax,stack⟩:=D;by_cases e:∃J,An=.pure (.done J)
 .obtain⟨J,rfl⟩:=e;cases stack with
  |nil=>rfl|cons fr b0=>cases fr<;>cases c
 .rw[absurd c<|adm An (λJ i=>e ⟨J,i⟩) _ _]
theorem ado{o:Nat}:∀{b w:au}{D:Thread}{J:gO},runN den n v o b D=.halted (.done J) w->(∀m as jr,runN den n v m b D=.running as jr->jr.calm=ag)->b.asleep->∃S jr,schedN den n v S (.single b D)=.running (.single w jr)/\through jr=ag:=by induction o with|zero=>intro fl eM hq n0 c Vo akx;cases c|succ o a3=>intro b w D J c aA ae;have i:=sstep_single den n v b D (aA 0 b D V) ae;simp only[runN]at c;cases G:step den n v b D with
  |go ar mU=>
   rw[G]at c i;rw[hp (i) (λi=>?_) λi=>?_]
   .rw[fW (a3 c (λm as jr e=>aA (m+1) as jr (by simp only[runN,G];rw[e]))<|JT (step_life den n v b ar D mU G) ae) λS jr bk bC=>(vg (S+1) jr (by simp only[schedN,i,Step.lift];rw[bk]) bC)]
   .cases i|halt aky ar=>rw[G]at c;injection c with af am;subst af am;obtain rfl:=step_halt_same den n v b ar D _ G;rw[(vg 0 D V<|adn G)]
noncomputable def Na:fa->bJ|.Assign cR z e3=>z|_=>.Constant .none 0 default
def vX:fR:=match Vh (Na<|dq aU 12)with|some (_,z)=>z|none=>.iT .none
theorem Du:Vh (Na<|dq aU 12)=W (1729,vX):=rfl
noncomputable def adp:fa->Pos|.Assign cR e3 n=>n|_=>default
section
variable{v:cU}{b:au}
abbrev ki{a9:Type}(v:cU)(y:Ctx)(D:Sem a9)(A:a9->Pos->au->Prop)(n:Pos)(b:au):Prop:=j5 (cD aU v) y D A (λu u u=>False) n b
theorem Hb(c:ki v y D A n b)(m:∀h n b,A h n b->nU h n b):ki v y D nU n b:=mF _ y D m (λu u u f=>f) n b c
theorem qx(c:ki v y D (λh n b=>ki v y (J h) A n b) n b):ki v y (D>>=J) A n b:=by rw[((U (za ..) c):j5 _ _ _ _ _ _ _)]
theorem adq(c:ki v y D A n b):ki v y (D.onRaise m) A n b:=by rw[((U (QC ..)<|mF _ y D (λu u u f=>f) (λu u u f=>f.elim) n b c):j5 _ _ _ _ _ _ _)]
theorem Vp(c:kC ⟨aU,ų v⟩ gL (t_ nM ⟨aU,ų v⟩ gL J) y D n f=W (.ok h,bs,kX))(aY:A h bs<|kX.abs a gL):ki v y D A n (f.abs a gL):=by rw[<-yL]at c;rw[LN (λy n b q aA=>aa5 J y n b q aA) y D A _ n f _ c aY]
noncomputable def Nb:Around:={handled:=aX,depth:=400,frames:=aX,guards:=aX,units:=100000}
theorem adr:(oW aU).In Nb:=by
 rw[⟨V,?_,λE c=>(dN c),λt c=>(dN c),?_⟩]
 .rw[(?_:frameCount [(zc "claim.caller" {},default)]+(Code.body (B5 aU)<|envOf aU).weight<=400)];decide+kernel
 .have:=(by rw[(?_:3*1<=10000)];decide);have am:unitsOf [(zc "claim.caller" {},default)]<=10:=ji;rw[wy ..]
theorem ads(a:au):ki v (oW aU) (M' aU) (λJ n b=>J=.next/\b=fP.abs a 0 ⟨s1 v,139,400⟩) default (fP.abs a 0<|G9 v):=Vp (adh v) ⟨V,V⟩
theorem adt:tW (oW aU).below:=by
 intro f R
 revert f;rwa[hg ?_]
 .decide+kernel
 .intro f R;rw[db R]
theorem adu:∀j,j<139->∃k,(s1 v).get j=W k/\hW k=W k:=by
 have c:(cZ 139).all (λj=>match(s1 v).get j with|some k=>(hW k).isSome|none=>be)=ag:=by cbv
 intro j T;have:=hH.mp c j<|lb.mpr T;cases i:(s1 v).get j with|none=>rw[i]at this;cases this|some k=>rw[i]at this;rw[(dj k V ?_)];obtain⟨h,a,x,g⟩:=k;cases x<;>first|rfl|rw[iJ this]
theorem Nc(k:Obj):∀(D:BT)(o:Nat),(∀j,j<o->(D.get j).isSome=ag)->((D.ins o k).get o).isSome=ag
 |.nil,o,c=>by cases o with
  |zero=>rfl|succ o=>rw[absurd (c 0<|BE o) (by simp[BT.get])]
 |.node z E q,o,c=>by
  rwa[U (B9 ..)];by_cases ak:o=0
  .rw[U ak ?_];rfl
  rwa[U (if_neg ak)];by_cases aO:o%2=1
  .rw[U (if_pos aO)<|U (nf ..)<|U (if_neg ak)<|U (if_pos aO)<|Nc k E _ λj T=>?_];have:=c (2*j+1)<|fq 31 (.t (.o<|.m 2 .x) .y) [.t .x .z,.l (.m 2 .z) .y] Z T<|p2 _ 2;rw[nf,if_neg (by rw[bM (.ne (.o<|.m 2 .x)<|.n 0) [] Z]),if_pos<|y0 2 j 1,show(2*j+1)/2=j by rw[nj 103 1013 (.e .x .y) [.l (.m 2 .x)<|.o<|.m 2 .y,.t (.o<|.m 2 .y)<|.a (.m 2 .x)<|.n 2] Z (p2 _ 2)<|rh _ 1]]at this;rw[this]
  .rw[U (if_neg aO)<|U (nf ..)<|U (if_neg ak)<|U (if_neg aO)<|Nc k q _ λj T=>?_];have:=c (2*j+2)<|lJ 3131 (.t (.a (.m 2 .x)<|.n 2) .y) [.t .x .z,.l (.m 2 .w) .y,.e (.a .z<|.n 1) .w] Z T (p2 _ 2)<|dM<|eA (.l (.n 1) .x) [.t .y .z,.l .z .x] Z T<|jF _ _;rw[nf,if_neg (by rw[bM (.ne (.a (.m 2 .x)<|.n 2)<|.n 0) [] Z]),if_neg λe=>absurd ((y0 2 j 2).symm.trans e) bf,show(2*j+2)/2-1=j by rw[kU 101033 30103 (.e .x .y) [.l .z<|.a .x<|.n 1,.l (.m 2 .z)<|.a (.m 2 .y)<|.n 2,.t (.a (.m 2 .y)<|.n 2)<|.a (.m 2 .z)<|.n 2,.e (.a .x<|.n 1) .z] Z (ef _ _) (p2 _ 2) (rh _ 1)<|dM<|fE 3 (.l (.n 1) .x) [.t (.a (.m 2 .y)<|.n 2)<|.a (.m 2 .x)<|.n 2] Z<|rh _ 1]]at this;rw[this]
theorem ady:∀(E oX:List Obj)(D:BT),(∀j,j<gu oX->D.get j=oX[j]?)->∀j,j<gu (oX++E)->(E.foldl (λ(f:BT×Nat)k=>(f.1.ins f.2 k,f.2+1)) (D,gu oX)).1.get j=(oX++E)[j]?:=by intro fc;induction fc with|nil=>intro oX D c j T;simpa using c j (by simpa using T)|cons k E a3=>
  intro oX D c j T;have G:=Nc k D _ λQ cu=>by rwa[U (c Q cu)];simp[cu]
  have:=a3 (oX++[k]) (D.ins (gu oX) k) (λQ cu=>by
   rwa[U (BT.get_ins k D _ G ..)];by_cases i:Q=gu oX
   .subst i;simp
   .rw[U (if_neg i)<|U (c Q (by simp at cu;omega))<|U (u_ (by simp at cu;omega)) V]) j (by simpa using T);simpa using this
theorem Hc(E:List Obj)(j:Nat)(T:j<gu E):(nx E).get j=E[j]?:=by have:=ady E [] .nil (λu c=>nomatch c) j (by simpa using T);simpa[nx]using this
theorem adz(ak:Ų (ű c)=o)(aI:∀j,j<o->D.get j=c.objs[j]?):lE D o c.life=c:=by
 obtain⟨objs,life⟩:=c;rw[congrArg (Heap.mk · life)<|QO λj=>?_];have:=absHeap_at D o life j;rw[this.trans ?_];by_cases T:j<o
 .rw[U (if_pos T)<|U (aI j T)<|U (pb (by rw[fq 21 (.t .x .y) [.e .y .z,.t .x .z] Z ak T])) ?_];rfl
 .rw[U (if_neg T)<|U (JI (by lia)) V]
theorem Vq{c:e1}{j:Nat}{k:Obj}(i:Ű c j=W k):c.objs[j]?=W k:=by
 unfold Heap.get? at i;split at i
 .rw[dN i]
 .rw[i]
theorem adA{cw:List Obj}{a b:au}(aw:gu cw=139)(gY:∀j,j<139->∃k,(nx cw).get j=W k/\hW k=W k)(t:ec 1729 (fP.abs a 0 ⟨nx cw,139,400⟩) b):b=fP.abs b b.toks ⟨nx<|cw++(cZ 1729).map λj=>(b.heap.objs[139+j]?).getD default,1868,0⟩:=by
 have ae:b.heap.objs.size=1868:=by rwa[U t.2];show(lE _ _ _).objs.size+1729=_;rw[U (vd ..) V]
 have cO:lE (nx<|cw++(cZ 1729).map λj=>(b.heap.objs[139+j]?).getD default) 1868 b.heap.life=b.heap:=by
  rw[adz ae λj T=>U (Hc _ _ (by rw[U e7<|U aw<|U (dg ..)<|U mE ?_];rw[T]))<|hp (pV j 139) (λc=>?_) λc=>?_]
  .rw[U (u_<|aw▸c)<|bt (gY j c) λk af am=>?_];rw[(Hc _ _<|aw▸c)▸af.symm▸(Vq<|t.1.1 j k (λe=>db e)<|(tK c af).trans am).symm]
  .rw[U (y9<|aw▸c)<|U aw<|U (eX)<|U (nN (by rw[(iv 139<|j).elim (λer=>ct (.t .x<|.n 1729) [.t .y<|.n 1868,.e (.a .x<|.n 139) .y] Z T<|dM er) λer=>ct (.t .x<|.n 1729) [.l .y<|.n 139,.l .x .y] Z er<|jF _ _])) ?_];rw[(?_:W ((b.heap.objs[139+(j-139)]?).getD default)=_)];rwa[U (by rw[nj 1011 101 (.e (.a (.n 139) .x) .y) [.l .y<|.a .x<|.n 139,.e (.a .x<|.n 139) .y] Z (ef _ _) (dM c)]:139+(j-139)=j)<|U (pb (by rw[fE 21 (.t .x .y) [.e .y<|.n 1868,.t .x<|.n 1868] Z ae T]))];rfl
 obtain⟨Ha,eG,drawn,toks,os⟩:=b;rw[(?_:nd _ _ _ _ _=nd _ _ _ _ _)];rwa[U cO];rfl
theorem adB{a b:au}(t:ec 1729 (fP.abs a 0 ⟨s1 v,139,400⟩) b):∃ž,b=fP.abs b b.toks ⟨GS aU (ų v) ž,1868,0⟩:=⟨λj=>if j<1729 then(b.heap.objs[139+j]?).getD default else xP v<|j-1729,(adA (cw:=xy aU (ų v)<|xP v) ((dg ..).trans mE) adu t).trans (by have bH:(λj=>(λj=>if j<1729 then(b.heap.objs[139+j]?).getD default else xP v<|j-1729)<|1729+j)=xP v:=funext λj=>(if_neg<|Fd.mpr<|hf ..).trans<|congrArg _<|Ff ..;have cm:(cZ 1729).map (λj=>if j<1729 then(b.heap.objs[139+j]?).getD default else xP v<|j-1729)=(cZ 1729).map λj=>(b.heap.objs[139+j]?).getD default:=pa λj T=>if_pos<|lb.mp T;unfold GS;rw[bH,cm])⟩
theorem Vr(cj:cM)(M:cY)(x:Obj)(j:Nat):z0 cj M x j=z0 cj M mZ j\/hW (z0 cj M mZ j)=aX:=by unfold z0;cases(TL cj M).lookup j with|some f=>rw[.inl V]|none=>cases kq j 11 with|false=>rw[.inr V]|true=>cases(pc M).objs[j]? with|some f=>rw[.inl V]|none=>rw[.inr V]
end
theorem Vs(aw:gu cw=139)(j:Nat)(af:139<=j)(am:j<1868):(nx<|cw++((cZ 1729).map ž++Hd)).get j=W (ž<|j-139):=by rw[U (Hc _ _ (by simp[aw];rw[ct (.t .x<|.a (.n 139)<|.a (.n 1729) .y) [.t .x<|.n 1868] Z am]))<|U (y9 (by rw[ct (.l .x .y) [.e .x<|.n 139,.l (.n 139) .y] Z aw af]))<|U aw<|U (u_ (by simp;rw[Nat.sub_lt_left_of_lt_add af am]))<|U (eX)<|U (nN (by omega)) ?_];rfl
noncomputable def Dv:List Addr:=cZ 139++(cZ 130).map λj=>j+1868
theorem adC(aw:gu cw=139)(bk:gu aN=139)(m:gr v (lE (nx<|cw++(cZ 1729).map ž) 1868 J) (cZ 139) z g):gr v (lE (nx<|aN++((cZ 1729).map ž++Hd)) 1998 amL) Dv z g:=by
 rw[gr.to (λj k T i=>⟨?_,?_⟩) _ _ m]
 rotate_left
 .have cG:j<1868:=by have:=dK i;rwa[vd]at this
  intro e;rw[bS e (λe=>?_) λe=>?_]
  .rw[T e]
  .rw[mL e λQ u bN=>?_];obtain rfl:=bN;rw[b2 cG<|wy _ _]
 have cG:j<1868:=by have:=dK i;rwa[vd]at this
 have lh:=hp (pV j 139) (λe=>absurd (lb.mpr e) T) λe=>e;rw[(tK (n:=1998) (cg cG bf)<|Vs (Hd:=Hd) bk j lh cG).symm▸(tK (life:=J) cG (by have:=Vs (Hd:=[]) (ž:=ž) aw j lh cG;simpa using this))▸i.symm▸V]
noncomputable def vY(v:cU)(x:Drawn)(os:tt):Shared:=⟨pc (ų v),#[],x,boot_toks,os⟩
inductive oY(v:cU)(os:tt)(b:au):Prop|mk(f2:∃a1,(∃ž ab,a1=n_ aU (ų v) ž ab)/\b.heap=lE a1 1998 b.heap.life)(f3:b.gens=#[])(gw:b.os=os)(j_:gr v b.heap Dv vX<|.ref 139):oY v os b
theorem He:Q7 (fP.abs a gL ⟨a1,o,m⟩)=lE a1 o a.heap.life:=rfl
def Nd(n:cM):Sem Flow:=do
 tq (envOf n) "ECC"<|.ref 139
 d3 (n.main.body.drop 13)<|envOf n
theorem Nf(c:nA (ų v) ab D q a1 o m e vW i7 fN df)(aY:A q df<|fP.abs a ab ⟨vW,i7,fN⟩):ki v (oW aU) D A e (fP.abs a ab ⟨a1,o,m⟩):=Vp c aY
theorem Vt(c:nA (ų v) ab (d3 mm p) .next a1 o m e vW i7 fN df)(aY:ki v (oW aU) (d3 mn p) A df<|fP.abs a ab ⟨vW,i7,fN⟩):ki v (oW aU) (d3 (mm++mn) p) A e (fP.abs a ab ⟨a1,o,m⟩):=Vn p mm mn▸qx (Nf c aY)
theorem adD{os:tt}{e dm el mS:Pos}{Ng Vu Vv ku Dw:BT}{Nh Ni Nj:List fa}{p:Env}{bo:Sem Unit}(aI:b.gens=#[])(aL:b.os=os)(i:b=fP.abs b b.toks ⟨Ng,1868,0⟩)(Į:nA (ų v) b.toks bo () Ng 1868 0 e Vu 1868 1 e)(į:nA (ų v) b.toks (d3 Nh p) .next Vu 1868 1 e Vv 1889 576 dm)(İ:nA (ų v) b.toks (d3 Ni p) .next Vv 1889 576 dm ku 1891 833 el)(ı:nA (ų v) b.toks (d3 Nj p) .next ku 1891 833 el Dw 1998 998 mS)(cV:∃ž ab,Dw=n_ aU (ų v) ž ab)(aT:∀z:fR,gr v (lE Ng 1868 b.heap.life) (cZ 139) z (.ref 139)->gr v (lE Dw 1998 b.heap.life) Dv z (.ref 139))(m:gr v b.heap (cZ 139) vX<|.ref 139):ki v (oW aU) (bo>>=λu=>d3 (Nh++(Ni++Nj)) p) (λJ u w=>J=.next/\oY v os w) e b:=by generalize aQ:vX=z at m;have hl:oY v os (fP.abs b b.toks ⟨Dw,1998,998⟩):=⟨⟨Dw,cV,by rwa[U He];rfl⟩,aI,aL,He▸aQ▸aT z (((congrArg Q7 i).trans He)▸m)⟩;have c:=qx<|Nf (A:=λu n b=>ki v (oW aU) (d3 (Nh++(Ni++Nj)) p) (λJ u w=>J=.next/\oY v os w) n b) Į<|Vt į<|Vt İ<|Nf ı ⟨V,hl⟩;rw[<-i]at c;rw[c]
theorem adE{os:tt}{e:Pos}{a:au}(aI:a.gens=#[])(aL:a.os=os)(t:ec 1729 (fP.abs a 0 ⟨s1 v,139,400⟩) b)(m:gr v b.heap (cZ 139) vX<|.ref 139):ki v (oW aU) (Nd aU) (λJ u w=>J=.next/\oY v os w) e b:=by rw[c1 (adB t) λž i=>(show Nd aU=(do tq (envOf aU) "ECC"<|.ref 139;d3 (Vk aU++(Vl aU++Vm aU))<|envOf aU)from(by unfold Nd;rwa[U ((sl 2 _).symm.trans<|congrArg _<|y_.trans<|(sl 1 _).symm.trans<|congrArg _ y_)];rfl))▸adD (t.3.trans aI) (t.1.6.trans aL) i (adi v ž b.toks e) (adj v ž b.toks e) (adk v ž b.toks) (runC v ž b.toks) (kR ž b.toks V) (λz=>(λm=>adC V V m)) m]
theorem adF{os:tt}{e n:Pos}{a1:BT}{a:au}{i:bJ}{b0:List fa}{z:fR}{p:Env}{y:Ctx}(aA:t7 i=ag)(bq:∀(b:au)(A:aF->au->Prop),Sub a1 b.heap->(∀w,ec 1729 b w->(∀r:List aE,(∀f∈r,0<=f/\f<(aB b))->gr v w.heap r z (.ref<|aB b))->A (.ref<|aB b) w)->Y aU v Nb (ee i p) A b)(cz:y.In Nb)(cO:tV y.code=be)(p':tW y.below)(aw:vU a1=139)(Ĳ:∀b,ec 1729 (fP.abs a 0 ⟨a1,139,400⟩) b->gr v b.heap (cZ 139) z (.ref 139)->ki v y (do tq p "ECC"<|.ref 139;d3 b0 p) (λJ u w=>J=.next/\oY v os w) ⟨74,0,74,3⟩ b):ki v y (d3 (.Assign [.Name "ECC" ⟨74,0,74,3⟩] i n::b0) p) (λJ u w=>J=.next/\oY v os w) e (fP.abs a 0 ⟨a1,139,400⟩):=by
 rw[U (qW ..)<|U (E0 (hs:=t8 aA))<|qx<|qx<|qx ?_];have ae:(fP.abs a 0 ⟨a1,139,400⟩).heap.objs.size=139:=U He<|vd ..;rw[mF _ _ _ (λg n w c=>?_) (λu u u c=>c) _ _<|bq _ (λg w=>g=.ref 139/\ec 1729 (fP.abs a 0 ⟨a1,139,400⟩) w/\gr v w.heap (cZ 139) z (.ref 139)) (λh k dh i ft=>(tK (cg (Dn _ _ _ i)<|l_ aw) i).trans ft) (λw t m=>?_) y _ cz cO p']
 .rw[fb c λbN t m=>?_];obtain rfl:=bN;rw[qx<|qx<|Hb (by have X:j5 _ _ _ _ _ _ _:=(Ĳ w t m);rw[za]at X;rw[X]) λu bs d_ c=>c]
 .rw[⟨V,t,m _ λf R=>⟨eQ _,lb.mp R⟩⟩]
theorem adG(v:cU):vU (s1 v)=139:=by cbv
theorem adH(G:Sub (s1 v) c):Sub (fh v) c:=λh k dh i ft=>by have aS:=yZ (Dn _ _ _ i)<|UZ v;have t:∀lo:Nat->Obj,(nx<|xy aU (ų v) lo).get h=W (z0 aU (ų v) (lo h) h):=λlo=>(Hc _ _<|yZ aS ((dg ..).trans mE).symm).trans<|(eX ..).trans<|congrArg (Option.map _)<|nN aS;cases(t λu=>mZ).symm.trans i;rw[(Vr aU (ų v) (xP v h) h).elim (λe=>G h _ dh ((t _).trans<|congrArg W e) ft) λe=>nomatch e.symm.trans ft]
theorem adI{os:tt}{e:Pos}{a:au}{st:fa}{b0:List fa}(fA:st=.Assign [.Name "ECC" ⟨74,0,74,3⟩] (Na<|dq aU 12) (adp<|dq aU 12))(ap:b0=aU.main.body.drop 13)(aI:a.gens=#[])(aL:a.os=os):ki v (oW aU) (d3 (st::b0)<|envOf aU) (λJ u w=>J=.next/\oY v os w) e (fP.abs a 0 ⟨s1 v,139,400⟩):=by rw[U fA<|adF (p:=envOf aU) Z (λb A G aj=>(by rw[d6 Du λx af Du=>Vi af λn bH=>U bH<|Vj (by decide+kernel) (λi o z Du=>adf (by decide+kernel) Du) Du b A (adH G) aj])) adr V adt (adG v) λb t m=>U ap<|adE aI aL t m]
theorem adJ{os:tt}{a:au}{a1:BT}{mm mn E:List fa}{p:Env}{y:Ctx}{Hf Nk:fP}{oX:Sem<|aF×aE}{J:aF×aE->iZ}(l:fP.abs a 0 Hf=a)(Dx:kC ⟨aU,ų v⟩ 0 (λu u u=>aX) s0 oX default Hf=W (.ok (.ref 13,14),default,Nk))(bi:J (.ref 13,14)=.body E p)(cz:y=s0.enter (.body E p) aX default)(ĳ:ki v y (do E8 E p;d3 mm p) (λJ u b=>J=.next/\b=fP.abs a 0 ⟨a1,139,400⟩) default<|fP.abs a 0 Nk)(aw:E=mm++mn)(Dy:∀e,ki v y (d3 mn p) (λJ u w=>J=.next/\oY v os w) e<|fP.abs a 0 ⟨a1,139,400⟩):ki v s0 (oX>>=λbh=>(run (J bh)>>=λu=>ret .none)) (λgv u w=>gv=.done (.ret .none)/\oY v os w) default a:=by
 rw[qx ?_];have G:=λA aC=>LN (a:=a) (e4:=λu u u=>aX) (λy n b q aA=>nomatch aA) s0 oX A aC default Hf _ Dx;replace G:=l▸G;rwa[G _ _]
 dsimp only[TD];rw[bi.symm▸qx ((U (Sem.wp_run ..)<|gW (EI ..)<|bL cz ?_):j5 _ _ (run _) _ _ _ _)];have Ĵ:(cD aU v).den y.code=(do E8 E p;let J<-(d3 E p).onRaise<|leaving p;dB<|FF J):=by rwa[U cz];rfl
 rw[Ĵ.symm▸?_];have cK:ki v y (do E8 E p;let J<-(d3 E p).onRaise<|leaving p;dB<|FF J) (λgv u w=>gv=.done .next/\oY v os w) default (fP.abs a 0 Nk):=by rw[qx<|Hb (by have X:j5 _ _ _ _ _ _ _:=ĳ;rw[za]at X;rw[X]) λu n w c=>qx<|adq<|U aw<|U (Vn ..)<|qx<|Hb c λJ bs d_ X=>?_];obtain⟨rfl,rfl⟩:=X;rw[Hb (Dy bs) λJ Ge akz w_=>⟨congrArg FF w_.1,w_.2⟩]
 rw[mF _ _ _ (λgv n b c=>?_) (λu u u c=>c.elim) _ _ cK];obtain⟨rfl,c⟩:=c;rw[⟨V,c⟩]
def adK(bh:aF×aE):Code:=.body (B5 aU) {scope:=aU.main.scope,locals:=mz,globals:=mz,cells:=[],code:=bh.1,frame:=W bh.2}
theorem adL(x:Drawn)(os:tt):ki v s0 (topStub aU).cur (λgv u w=>gv=.done (.ret .none)/\oY v os w) default (vY v x os):=adl▸adJ (mm:=aU.main.body.take 12) (mn:=dq aU 12::aU.main.body.drop 13) (p:=envOf aU) (y:=oW aU) (Hf:=Dt (ų v)) (J:=adK) (by rw[(?_:nd _ _ _ _ _=nd _ _ _ _ _)];rw[U (rfl:(vY v x os).heap.life=(pc (ų v)).life)<|U (boot_abs ..)<|U (sg ..) ?_];rfl) (adg v) V V (ads<|vY v x os) V λu=>adI V V V V
theorem Vw(b:au):fenceModules? aU b=W b:=rfl
theorem adM(v:cU):∃os,(vY v ze os).asleep/\AfterRun (opening aU) v (vY v ze os)/\∀b,AfterRun (opening aU) v b->b=vY v ze os:=by
 rw[g4 λu bW=>wQ (boot_open (N:=600) V Z Vw v) λcE af am=>bt (I0.mp af) λb cJ ez=>?_];cases ez;rw[bW ?_];rw[<-yL]at cJ;have s:=AfterImport.of_importEnds cJ;have i:cE=vY v ze cE.os:=by rw[g4 λu bW=>?_];obtain⟨Ha,eG,drawn,toks,os⟩:=cE;simp only[q5]at am;obtain⟨bH,cm,eO,hu⟩:=am;subst bH cm eO hu;rw[bW ?_];rfl
 rw[(sq cE.os (i▸s.life) (i▸s) λw dy=>(AfterImport.unique dy s).trans i)]
abbrev oc(M:cY)(ž:Nat->Obj)(ab:Nat)(life:mw):Heap:=lE (n_ aU M ž ab) 1998 life
theorem adN(M:cY)(ž:Nat->Obj)(ab:Nat):(cZ 11).map (λa=>bif a==mz||a==qY then aX else(n_ aU M ž ab).get a)=(cZ 11).map (λa=>bif a==mz||a==qY then aX else(pc M).objs[a]?):=by cbv
theorem adO(M:cY)(ž:Nat->Obj)(ab:Nat)(life:mw):(oc M ž ab life).accountedOkI (importedModules aU.main.body)=ag:=by cbv
theorem adP(M:cY)(ž:Nat->Obj)(ab:Nat)(life:mw):staticsOk (importedModules aU.main.body) (pc M) (oc M ž ab life)=ag:=by cbv
theorem Dz(M:cY)(ž:Nat->Obj)(ab:Nat)(life:mw):(oc M ž ab life).isNs mainGlobals=ag:=by cbv
theorem Nl(M:cY)(ž:Nat->Obj)(ab:Nat)(life:mw):(oc M ž ab life).isNs builtinsNs=ag:=by cbv
theorem adQ(M:cY)(ž:Nat->Obj)(ab:Nat)(life:mw):(oc M ž ab life).bltView=bltViewBooted:=by cbv
theorem adR(M:cY)(ž:Nat->Obj)(ab:Nat)(life:mw):namesBound aU (oc M ž ab life)=ag:=by cbv
theorem adS(M:cY)(ž:Nat->Obj)(ab:Nat)(life:mw):laidKept (pc M) (oc M ž ab life)=ag:=by cbv
theorem adT(M:cY)(ž:Nat->Obj)(ab:Nat)(life:mw):(oc M ž ab life).bmainOk=ag:=by cbv
@[irreducible]def e6(M:cY)(ab:Nat):BT:=((n_ aU M (λu=>mZ) ab).set 1892 λk=>{k with data:=.freed}).set 1940 λk=>{k with data:=.freed}
@[irreducible]def s2(M:cY)(ž:Nat->Obj)(ab:Nat)(life:mw):Heap:=lE (n_ aU M ž ab) 1998 life
structure DA where
 w:cU
 s0:au
 mid:Nat->Obj
 tk:Nat
 life:mw
@[reducible]def bh(ah:DA):ea:={prog:=aU,w:=ah.1,s0:=ah.2,tabs:=[1892,1940],mg:=(s2 (ų ah.1) ah.3 ah.4 ah.5).nsMap 3,mb:=(s2 (ų ah.1) ah.3 ah.4 ah.5).nsMap 0}
inductive eF(ah:DA):Prop|mk(f2:∀a k,Ű (s2 (ų ah.1) ah.3 ah.4 ah.5) a=W k->Ű (Q7 ah.2) a=W k)(f3:1998<=(aB ah.2))(gw:gr ah.1 ah.2.heap Dv vX<|.ref 139):eF ah
theorem DB(M:cY)(ž:Nat->Obj)(ab:Nat)(life:mw):s2 M ž ab life=oc M ž ab life:=by unfold s2;rfl
inductive uE:BT->BT->Prop|nil:uE .nil .nil|node{z h5:Obj}{E q m1 gG:BT}:(z=h5\/hW h5=aX)->uE E m1->uE q gG->uE (.node z E q) (.node h5 m1 gG)
theorem adU(c:f=kX\/hW kX=aX)(e:uE D fp):∀j:Nat,uE (D.ins j f) (fp.ins j kX):=by induction e with
 |nil=>rw[λj=>.node c .nil .nil]|node h a g Nm Nn=>
  intro j;rwa[U (B9 ..)<|U (B9 ..)];split
  .rw[.node c a g]
  .split
   .rw[.node h (Nm _) g]
   .rw[.node h a<|Nn _]
theorem adV(aS:hW k=W dh)(e:uE D fp):∀j:Nat,fp.get j=W k->D.get j=W k:=by induction e with
 |nil=>intro j i;rw[dN i]|node h a g Nm Nn=>
  intro j i;rw[nf]at i⊢;split
  .rename_i e;replace i:=(if_pos e)▸i;cases i;rcases h with rfl|h
   .rfl
   .rw[aS]at h;rw[Km h]
  .rename_i e;replace i:=(if_neg e)▸i;split
   .rename_i df;replace i:=(if_pos df)▸i;rw[Nm _ i]
   .rename_i df;replace i:=(if_neg df)▸i;rw[Nn _ i]
inductive od:List Obj->List Obj->Prop|nil:od [] []|cons{f kX:Obj}{E m1:List Obj}:(f=kX\/hW kX=aX)->od E m1->od (f::E) (kX::m1)
theorem adW(q:od E m1):∀(D fp:BT)(o:Nat),uE D fp->uE (E.foldl (λ(f:BT×Nat)k=>(f.1.ins f.2 k,f.2+1)) (D,o)).1 (m1.foldl (λ(f:BT×Nat)k=>(f.1.ins f.2 k,f.2+1)) (fp,o)).1:=by induction q with|nil=>rw[λu u u c=>c]|cons R _ aW=>rw[λD fp o c=>aW _ _ _<|adU R c o]
theorem od.refl(E:List Obj):od E E:=by induction E with|nil=>rw[.nil]|cons f E aW=>rw[.cons (.inl V) aW]
theorem od.app(q:od E m1)(e:od m fN):od (E++m) (m1++fN):=by induction q with|nil=>rw[e]|cons R _ aW=>rw[.cons R aW]
theorem od.map{J t:Nat->Obj}(c:∀j,J j=t j\/hW (t j)=aX)(E:List Nat):od (E.map J) (E.map t):=by induction E with|nil=>rw[.nil]|cons f E aW=>rw[.cons (c f) aW]
theorem od.set(q:od E m1):∀o,od (E.set o B) (m1.set o B):=by induction q with|nil=>rw[λu=>.nil]|cons R q aW=>intro o;cases o with|zero=>rw[.cons (.inl V) q]|succ o=>rw[.cons R<|aW o]
theorem rX(c:(e6 M ab).get h=W k)(aS:hW k=W dh):h≠1892/\h≠1940/\(n_ aU M ž ab).get h=W k:=by
 unfold e6 at c;rw[BT.get_set]at c;have cK:∀f:Option Obj,(f.map λk:Obj=>{k with data:=.freed})=W k->False:=by intro f R;rw[wQ R λB u bN=>?_];obtain rfl:=bN;rw[dN aS]
 split at c
 .rw[(cK _ c).elim]
 .rename_i af;rw[BT.get_set]at c;split at c
  .rw[(cK _ c).elim]
  .rename_i am;rw[⟨am,af,adV aS (adW (.app (.set (.set (.map (λj=>Vr aU M _ j) _) _) _)<|.app (.map (λu=>.inr V) _)<|.refl _) _ _ _ .nil) h c⟩]
theorem No(f:Obj):∀(D:BT)(j Q:Nat)(k:Obj),(D.ins j f).get Q=W k->Q<=j\/∃dh,D.get Q=W dh
 |.nil,j,Q,k,c=>by
  have X:(BT.node f .nil .nil).get Q=W k:=c;rw[nf]at X;split at X
  .rw[.inl (by lia)]
  .split at X<;>rw[dN X]|.node z E q,j,Q,k,c=>by
  rw[B9]at c;rwa[U (nf ..)];by_cases cu:Q=0
  .rw[.inl<|ct (.l .x .y) [.e .x<|.n 0] Z cu]
  .rw[U (if_neg cu) ?_];by_cases T:j=0
   .rw[if_pos T,nf,if_neg cu]at c;rw[.inr ⟨k,c⟩]
   .rw[if_neg T]at c;by_cases Hg:j%2=1
    .rw[if_pos Hg,nf,if_neg cu]at c;by_cases Ao:Q%2=1
     .rw[if_pos Ao]at c⊢;rw[hp (No f E (j/2) (Q/2) k c) (λe=>.inl<|rf 321 (.l .x .y) [.e .z<|.n 1,.l .w .u,.e (.a (.m 2 .u) .z) .y,.t .x<|.a (.m 2 .w)<|.n 2] Z Hg e (ZB _ 2)<|rh _ 1) λe=>.inr e]
     .rw[if_neg Ao]at c⊢;rw[.inr ⟨k,c⟩]
    .rw[if_neg Hg,nf,if_neg cu]at c;by_cases Ao:Q%2=1
     .rw[if_pos Ao]at c⊢;rw[.inr ⟨k,c⟩]
     .rw[if_neg Ao]at c⊢;have np:=(BG j).resolve_right Hg;have z':=(BG Q).resolve_right Ao;have MA:1<=j/2:=Nat.one_le_iff_ne_zero.mpr λC=>T<|bL (wx j 2)<|U np<|U C V;rw[hp (No f q (j/2-1) (Q/2-1) k c) (λe=>.inl<|bL (wx Q 2)<|U z'<|a5 (Ji 2<|a5 (Jc.mp e)<|l_<|yV MA)<|PU j 2) λe=>.inr e]
theorem adX(E:List Obj):∀(D:BT)(o:Nat),(∀Q k,D.get Q=W k->Q<o)->∀Q k,(E.foldl (λ(f:BT×Nat)k=>(f.1.ins f.2 k,f.2+1)) (D,o)).1.get Q=W k->Q<o+gu E:=by induction E with|nil=>intro D o c Q k i;rw[c Q k i]|cons f E a3=>intro D o c Q k i;have:=a3 (D.ins o f) (o+1) (λQ k i=>(No f D o Q k i).elim (λe=>by rw[ct (.t .x<|.o .y) [.l .x .y] Z e]) λe=>c1 e λdh e=>k'<|c Q dh e) Q k i;rw[U gt<|eA (.t .x<|.a .y<|.o .z) [.t .x<|.a (.o .y) .z] Z this]
theorem uF(c:(n_ aU M ž ab).get h=W k):h<1998:=by
 have i:gu (MS aU M (λj=>ž<|1729+j) ab++((cZ 1729).map ž++GR aU M ab))=1998:=by rw[U e7<|U e7<|U (dg ..)<|U mE ?_];cbv
 have:=adX _ .nil 0 (λQ k i=>dN i) h k c;rw[i]at this;rw[this]
theorem eF.sub(c:eF ah)(a:gU (bh ah) b):Sub (e6 (ų ah.1) ah.4) b.heap:=λh k dh i ft=>by rw[fb (rX i ft) λaf am a'=>a.1.1 _ _ (by simp[af,am])<|c.1 _ _<|U (DB ..)<|bL ft<|tK (uF a') a']
theorem Hh(c:eF ah):Sub (n_ aU (ų ah.1) ah.3 ah.4) ah.2.heap:=λh k dh i ft=>c.1 _ _ (by rwa[U (DB ..)<|bL ft];rw[tK (uF i) i])
theorem DC{c:e1}{v:cU}(G:Sub (e6 (ų v) ab) c):c.NoLimit:=⟨λu=>aX,⟨LV aU (ų v),#[],0,Dk G (by cbv) V,V,λi bq=>by simp at bq,λu=>V⟩,V⟩
theorem Vx:(s2 M ž ab life).Ns 3 ((s2 M ž ab life).nsMap 3):=by rwa[U (DB ..)];rw[J5<|Dz ..]
theorem adY:(s2 M ž ab life).Ns 0 ((s2 M ž ab life).nsMap 0):=by rwa[U (DB ..)];rw[J5<|Nl ..]
theorem l1:D∈(bh ah).tabs↔D=1892\/D=1940:=by simp
theorem pF(o:aE)(ak:o≠1892/\o≠1940):o∉(bh ah).tabs:=λe=>(l1.mp e).elim ak.1 ak.2
theorem iV(c:eF ah):(bh ah).Ok:=@ea.Ok.mk (bh ah) (by dsimp only[bh];rw[(J6 (Vx (ž:=ah.3)) λk i=>c.1 _ _ i)]) (by dsimp only[bh];rw[(J6 (adY (ž:=ah.3)) λk i=>c.1 _ _ i)]) (λu a=>DC<|c.sub a) (pF 3 bf) (pF 0 bf) λD bC=>by rcases l1.mp bC with rfl|rfl<;>rw[cg bf c.2]
  
noncomputable def qy(x:Option aE)(f B C:Int)(hz hB hh:Tok)(m:Nat):Obj:={cls:=.ref 135,dict:=x,data:=.seq #[.int f hz,.int B hB,.int C hh] m}
def jy(ab:Nat):cU->BT:=λv=>e6 (ų v) ab
noncomputable def Ap:List Nat:=[1,0,0,0,0,0,0,1,0,1,0,0,0,0,0,0,0,0,0,0,0,0,0,0,2,2,2,2,2,2,2,0,0,0,0,2,1,0,0,0,0,0,0,2,2,0,0,0,0,0,0,0,0,0,0,0,0,1,0,1]
theorem Vy(h o t m:Nat)(x:Option aE)(f B C:Int)(hz hB hh:Tok)(ab:Nat):vN 30 (jy ab) o t (q0 (.ref h) "num_data" ag) (λD=>⟨[(h,qy x f B C hz hB hh m)],0,D,Ap,[],[]⟩) (.int C hh) (λC=>(C.bq,C.objs.head?,C.objs.tail.map (·.1))) (λu=>([],W (h,qy x f B C hz hB hh m),[o])):=λa v D=>by cases a<;>cbv
noncomputable def Hi(o:Nat)(k:Obj):Bool:=match k.cls with|.ref h=>!(u2 h o)|_=>ag
theorem Np{oZ:Obj->Prop}{f:Obj}(R:oZ f):∀(D:BT),(∀Q k,D.get Q=W k->oZ k)->∀(j Q:Nat)(k:Obj),(D.ins j f).get Q=W k->oZ k
 |.nil,cR,j,Q,k,c=>by
  have X:(BT.node f .nil .nil).get Q=W k:=c;rw[nf]at X;split at X
  .cases X;rw[R]
  .split at X<;>rw[dN X]|.node z E q,bC,j,Q,k,c=>by
  have aw:∀Q k,E.get Q=W k->oZ k:=λQ k i=>bC (2*Q+1) k (by rw[U (nf ..)<|U (if_neg (by rw[bM (.ne (.o<|.m 2 .x)<|.n 0) [] Z]))<|U (if_pos<|y0 2 Q 1)<|U (by rw[nj 103 1013 (.e .x .y) [.l (.m 2 .x)<|.o<|.m 2 .y,.t (.o<|.m 2 .y)<|.a (.m 2 .x)<|.n 2] Z (p2 _ 2) (rh _ 1)]:(2*Q+1)/2=Q) ?_];rw[i]);have ap:∀Q k,q.get Q=W k->oZ k:=λQ k i=>bC (2*Q+2) k (by rw[U (nf ..)<|U (if_neg (by rw[bM (.ne (.a (.m 2 .x)<|.n 2)<|.n 0) [] Z]))<|U (if_neg λe=>absurd ((y0 2 Q 2).symm.trans e) bf)<|U (by rw[kU 101033 30103 (.e .x .y) [.l .z<|.a .x<|.n 1,.l (.m 2 .z)<|.a (.m 2 .y)<|.n 2,.t (.a (.m 2 .y)<|.n 2)<|.a (.m 2 .z)<|.n 2,.e (.a .x<|.n 1) .z] Z (ef _ _) (p2 _ 2) (rh _ 1) (dM<|fE 3 (.l (.n 1) .x) [.t (.a (.m 2 .y)<|.n 2)<|.a (.m 2 .x)<|.n 2] Z<|rh _ 1)]:(2*Q+2)/2-1=Q) ?_];rw[i]);have aQ:=bC 0 z<|U (nf ..)<|U (if_pos V) V;rw[B9]at c;have cK:∀(h5:Obj)(m1 gG:BT),oZ h5->(∀Q k,m1.get Q=W k->oZ k)->(∀Q k,gG.get Q=W k->oZ k)->(BT.node h5 m1 gG).get Q=W k->oZ k:=by
   intro h5 m1 gG h a g i;rw[nf]at i;split at i
   .cases i;rw[h]
   .split at i
    .rw[a _ _ i]
    .rw[g _ _ i]
  split at c
  .rw[cK f E q R aw ap c]
  .split at c
   .rw[cK z _ q aQ (Np R E aw _) ap c]
   .rw[cK z E _ aQ aw (Np R q ap _) c]
theorem adZ{oZ:Obj->Prop}(E:List Obj):∀(D:BT)(o:Nat),(∀Q k,D.get Q=W k->oZ k)->(∀k∈E,oZ k)->∀Q k,(E.foldl (λ(f:BT×Nat)k=>(f.1.ins f.2 k,f.2+1)) (D,o)).1.get Q=W k->oZ k:=by induction E with|nil=>intro D o c n0 Q k i;rw[c Q k i]|cons f E a3=>intro D o c aw Q k i;rw[a3 (D.ins o f) (o+1) (λQ k i=>Np (aw f bB) D c o Q k i) (λk aL=>aw k<|mt aL) Q k i]
theorem Vz(aS:(MS aU M (λu=>mZ) ab).all (Hi o)=ag)(l:(GR aU M ab).all (Hi o)=ag):∀(h:Nat)(k dh:Obj),(e6 M ab).get h=W k->hW k=W dh->dh.cls≠.ref o:=by
 intro h k dh c gY e;rw[fb (rX (ž:=λu=>mZ) c gY) λaf am a'=>?_];have:=(by
    rw[adZ (oZ:=λk=>Hi o k=ag) _ .nil 0 (λQ k i=>by rw[dN i]) (λk aL=>bS aL (λe=>?_) λe=>?_) h k a']
    .rw[hH.mp aS k e]
    .rw[bS e (λe=>?_) λe=>?_]
     .rw[mL e λu u bN=>bL bN ?_];rfl
     .rw[hH.mp l k e]);have i:dh=k:=by obtain⟨g,bU,rL,bz⟩:=k;cases rL<;>first|(cases gY;rfl)|cases gY
 subst i;unfold Hi at this;rw[e]at this;simp at this
theorem ad0:∀(h:Nat)(k dh:Obj),(e6 M ab).get h=W k->hW k=W dh->dh.cls≠.ref 135:=Vz (Z)<|Z
theorem VA:∀(h:Nat)(k dh:Obj),(e6 M ab).get h=W k->hW k=W dh->dh.cls≠.ref 1963:=Vz (Z)<|Z
theorem Hj(aM:eF ah)(c:ai (bh ah) x O y i .cH<|.q0 f B C)(ae:∀(h o t m:Nat)(bU:Option aE)(hz hB hh:Tok),∃D,vN 30 (jy ah.4) o t (q0 (.ref h) attr ag) (λD=>⟨[(h,qy bU f B C hz hB hh m)],0,D,Ap,[],[]⟩) (.int q D) (λC=>(C.bq,C.objs.head?,C.objs.tail.map (·.1))) λu=>([],W (h,qy bU f B C hz hB hh m),[o]))(l:∀p,uZ i attr p (ee i p)=ee i p)(aw:∀iy o0,letTemporaryGo i iy o0=dB ()):cI (bh ah) x O y (.Attribute i attr ax) q:=mQ λs p r L ay aa ao G I b A n aj=>by
 rwa[ds (@bh _)];intro dx;rw[Y.eq (U (IX ..)<|U (l ..) V)<|Y.bind<|c s p r L ay aa ao G I b _ n λa4 as aK gb=>?_];rw[dH ?_];have DD:ck as.heap r (.q0 f B C) a4:=gb;rw[Y4 DD λh bU hz hB hh m cB aS aI=>U cB<|c1 (ae h (aB as) as.gens.size m bU hz hB hh) λD ĵ=>?_];have oz:Sub (e6 (ų ah.1) ah.4) as.heap:=aM.sub (n.grow aK).2;have Nq:∀k dh,(e6 (ų ah.1) ah.4).get h=W k->hW k=W dh->False:=λk dh i ft=>by have bH:=oz h k dh i ft;rw[aI]at bH;cases bH;rw[ad0 h k _ i ft V]
 rw[dR<|T9 ĵ (λc G=>DC G) ?_ (fk.start oz (λn aO=>(bg aO).symm▸aI) (by simp) λn aO=>bg aO▸Nq) λeR w iW I=>?_]
 .have:=ao.2;show s.depth+90<1000;rw[ct (.t (.a .x<|.n 90)<|.n 1000) [.l (.a .x .y)<|.n 900] Z this]
 .simp only[q5]at I;rw[fb I λnB jY pG=>?_];have a7:bb [] [] as w:=iW.same λn aO=>by cases VB:eR.objs with
   |nil=>rw[VB]at jY;cases jY|cons e E=>
    rw[VB]at jY pG aO;cases jY
    revert n;rwa[hg ?_]
    .rw[.inl aI]
    .intro n aO;have:n.1∈E.map (·.1):=y6 aO;rw[show E.map (·.1)=[(aB as)]from pG]at this;rw[.inr<|l_ (bg this).symm]
  rw[U (aw ..)<|ev<|Y.pure<|aj _ w (aK.trans a7) ⟨D,V⟩]
theorem Aq:(bh ah).gl "range"=W (.type "range"):=by cbv
theorem Hk:(bh ah).gl "bytearray"=W (.type "bytearray"):=by cbv
theorem VC:(bh ah).gl "list"=W (.type "list"):=by cbv
theorem VD:(bh ah).gl "Buffer"=W (.ref 1963):=by cbv
theorem ad1:(bh ah).gl "make_final_message"=W (.ref 1895):=by cbv
theorem ad2:(bh ah).gl "make_blocks"=W (.ref 1900):=by cbv
theorem ad3:(bh ah).gl "ECC"=W (.ref 139):=by cbv
theorem ad4:(bh ah).gl "GEN_POLY"=W (.ref 1868):=by cbv
theorem ad5:∃D,(bh ah).gl "VERSION_M1"=W (.int (-3) D):=⟨262,by cbv⟩
theorem ad6:∃D,(bh ah).gl "VERSION_M3"=W (.int (-1) D):=⟨256,by cbv⟩
theorem vZ(c:eF ah):qm (bh ah):=⟨iV c,(by cbv),Aq,(by cbv),(by cbv)⟩
theorem DE(E:List Int):∀(x:Nat),b9 c r (E.map .int) (kD C x E):=by induction E with|nil=>intro fl;show b9 _ _ [] [];rw[V]|cons f E a3=>intro x;rw[ie _ _ V (ov _ V)<|a3<|x+1]
theorem ad7(M:cY)(ab:Nat):(e6 M ab).get 1888=W (h7 "tuple" 0<|kD ab 319 n9):=by cbv
theorem ad8(M:cY)(ab:Nat):(e6 M ab).get 1890=W (h7 "list" 0<|kD ab 576 uD++kD ab 576 uD):=by cbv
theorem ad9(M:cY)(ab:Nat):(e6 M ab).get 1868=W (jv "dict"<|.dict (Ac ab 1 rS).toArray 18):=by cbv
theorem ad_(M:cY)(ab:Nat):rS.map (λe=>(e6 M ab).get e.2.1)=(Di ab 1 rS).map W:=by cbv
theorem ad'(ab:Nat):rS.map (λe=>findBy dV.is (Ac ab 1 rS).toArray<|.int e.1)=rS.map λe=>W (.ref e.2.1):=rfl
theorem Nr{a9 cN:Type}{J t:a9->cN}{E:List a9}:E.map J=E.map t->∀e∈E,J e=t e:=by induction E with|nil=>intro fl eM c;rw[db c]|cons cR e3 a3=>intro c e aY;rw[dw aY (λi=>U i (wK c).1)<|a3 (wK c).2 e]
theorem aea{ab:Nat}{J:Nat->Option Obj}{cw:List<|Int×Nat×List Int}:∀{x:Nat},cw.map (λe=>J e.2.1)=(Di ab x cw).map W->∀e∈cw,∃uG,J e.2.1=W (h7 "tuple" 0<|kD ab uG e.2.2):=by induction cw with|nil=>intro fl eM hq c;rw[db c]|cons cR e3 a3=>intro x c e aY;rw[dw aY (λi=>⟨x+1,U i (wK c).1⟩)<|a3 (wK c).2 e]
section
section
variable{x:Nat}{O:dA}{y:b_}{i:bJ}{m:dV}{az:List<|dV×fR}{ax:Pos}{j:Int}
noncomputable def DF(az:List<|dV×fR)(m:dV):Option fR:=(az.find? λi=>i.1=m).map (·.2)
theorem g1.find{az:List<|dV×fR}:∀{cX:List<|dV×aF},g1 v c r az cX->DF az m=W kf->∃a4,valueAt cX m=W a4/\gr v c r kf a4:=by induction az with
 |nil=>intro cX eM i;rw[dN i]|cons h2 az a3=>
  obtain⟨fN,z⟩:=h2;intro cX q i;rw[d7 q λa4 gG cB dY eN=>U cB ?_];unfold DF at i;unfold valueAt;rw[List.find?_cons]at i⊢;by_cases e:fN=m
  .simp only[e,decide_true,tu,Fu]at i⊢;subst i;rw[(dj a4 V dY)]
  .simp only[e,decide_false]at i⊢;rw[a3 eN i]
def rY(g:ea)(x:Nat)(O:dA)(y:b_)(i:bJ)(kf:fR):Prop:=∀(s:cq)(p:Env)(r L ay:List aE)(aa:Nat),eW x s->p.scope=O->cx g p r L ay aa->dk aU g.w s [] [] p (bG g p r L aa y) i λb a4=>gr g.w b.heap r kf a4
noncomputable def s3:dV->bj|.none=>.none|.int j=>.int j|.str f=>.str f
theorem aeb(q:ck c r (s3 m) a4):dV.is m a4=ag:=by cases m with|none=>unfold s3 at q;rwa[U q];rfl|int j=>unfold s3 at q;obtain⟨D,rfl⟩:=q;rw[beq_self_eq_true j]|str f=>unfold s3 at q;obtain⟨D,rfl⟩:=q;rw[beq_self_eq_true f]
theorem rY.item(aO:g.prog=aU)(bw:rY g x O y e8<|.tb az)(bO:ai g x O y gX .cH<|s3 m)(bi:DF az m=W kf)(T:oD gX=ag:=by rfl):rY g x O y (.Subscript e8 gX ax) kf:=λs p r L ay aa ao G I=>by have am:=bO s p r L ay aa ao G I;rw[aO]at am;rw[t4 I.ok (bw s p r L ay aa ao G I) (λb w a4 q t=>gr.grow t q) am λb e2 fG n aA bl=>FH aA λbU cX dt R VE ap=>U dt<|bt (g1.find ap bi) λa4 aQ aT=>?_];intro A aj;rw[Y.of<|vc VE.typeIs slot_dict_getitem.lookup (wpAny_getItem_of (aeb bl) VE.mapOf aQ<|aj _ _ (bK.tok ..) aT)<|Cp T _ _]
theorem rY.aeN(aO:g.prog=aU)(c:rY g x O y i<|.iT z):ai g x O y i .cH z:=λs p r L ay aa ao G I=>by rw[U aO<|(c s p r L ay aa ao G I).to λb a4 q=>by rw[q]]
end
variable{v:cU}{b:au}{ž:Nat->Obj}{ab:Nat}{x:Nat}{O:dA}{y:b_}{i rZ oV:bJ}{C j:Int}{ax xu d':Pos}{m:dV}{aq:List Int}
theorem Ar(c:eF ah):Sub (e6 (ų ah.1) ah.4) ah.2.heap:=c.sub ⟨bK.refl ..,λB a8 k N bH cm eO=>⟨#[],JK▸eO▸bH⟩⟩
theorem aec(c:eF ah):ck ah.2.heap (bh ah).tabs (.tup<|n9.map .int) (.ref 1888):=p0 1888 _ 0 V (pF _ bf) (Ar c _ _ _ (ad7 ..) V)<|DE _ _
theorem aed(c:eF ah):ck ah.2.heap (bh ah).tabs (bu oU) (.ref 1890):=p0 1890 _ 0 V (pF _ bf) (Ar c _ _ _ (ad8 ..) V)<|b9.append (DE uD 576)<|DE uD 576
theorem rY.B0(c:eF ah)(R:fe O "ECC"=ag:=by cbv):rY (bh ah) x O y (.Name "ECC" d') vX:=λs p r L ay aa ao G I=>by
 subst G;intro b A n aj;rw[sz (h3 (iV c) I ad3 R) bf b _ n λa4 w t lW=>aj a4 w t ?_];subst lW;have bC:∀o,o∈(bh ah).tabs->o∈Dv:=λo e=>by rcases l1.mp e with rfl|rfl<;>decide
 rw[gr.to (λxk k l i=>⟨((n.grow t).2).1.1 _ _ (λe=>l<|bC _ e) i,λe=>(I.9 _ e).elim (λe=>l<|bC _ e) λe=>b2 (dK i) e⟩) _ _ c.3]
noncomputable def Ns:fR->Option (List<|dV×fR)|.tb az=>W az|_=>aX
noncomputable def VF:fR->Option (List bj)|.iT (.tup aJ)=>W aJ|_=>aX
def Hl(hb:Int)(qz:dV):Option (List bj):=(Ns vX).bind λaz=>(DF az<|.int hb).bind λz=>(Ns z).bind λGV=>(DF GV qz).bind VF
theorem VG(c:Ns z=W az):z=.tb az:=by
 cases z
 .rw[dN c]
 .rw[congrArg fR.tb<|md c]
theorem aee(c:VF z=W aJ):z=.iT (.tup aJ):=by cases z with|tb=>rw[dN c]|iT aG=>cases aG<;>first|rw[dN c]|rw[congrArg (λf=>fR.iT<|bj.tup f)<|md c]
theorem ai.B0{aJ:List bj}(c:eF ah)(bw:cI (bh ah) x O y rZ j)(bO:ai (bh ah) x O y oV .cH<|s3 m)(bi:Hl j m=W aJ)(T:oD rZ=ag:=by rfl)(gc:oD oV=ag:=by rfl)(R:fe O "ECC"=ag:=by cbv):ai (bh ah) x O y (.Subscript (.Subscript (.Name "ECC" d') rZ ax) oV xu) .cH (.tup aJ):=by rw[d6 bi λaz bq bi=>d6 bi λz af bi=>d6 bi λGV aQ bi=>d6 bi λaG am dX=>rY.aeN V<|rY.item V (rY.item (m:=.int j) V (VG bq▸rY.B0 c R) bw (af.trans<|congrArg W<|VG aQ) T) bO (am.trans<|congrArg W<|aee dX) gc]
noncomputable def xQ(o:Int):Option (List Int):=(rS.find? λe=>e.1==o).map (·.2.2)
theorem VH(v:cU)(j:Int)(D:Tok):(jx v).is (dV.int j) (.int j D)=ag:=beq_self_eq_true j
theorem aef(ab:Nat)(cw:List<|Int×Nat×List Int):∀(x:Nat),∀i∈Ac ab x cw,∃m,(jx v).is m i.key=ag/\i.hash=(jx v).hash m:=by induction cw with|nil=>intro fl eM c;rw[db c]|cons h2 q a3=>obtain⟨m,h,E⟩:=h2;intro x i c;rw[dw c (λe=>U e ⟨_,VH v m _,V⟩)<|a3 _ i]
theorem ai.KZ(c:eF ah)(bw:cI (bh ah) x O y i j)(bi:xQ j=W aq)(T:oD i=ag:=by rfl)(R:fe O "GEN_POLY"=ag:=by cbv):ai (bh ah) x O y (.Subscript (.Name "GEN_POLY" d') i ax) .cH (.tup<|aq.map .int):=λs p r L ay aa ao G I=>by
 rw[t4 I.ok (sz (h3 (iV c) I ad4<|G▸R) bf) (λu u u e u=>e) (eP bw ao G I) λb e2 fG n aA bl=>U aA<|c1 bl λD gS=>U gS<|wQ bi λe aY gT=>bL gT ?_];have Ķ:e.1=j:=by have:=List.find?_some aY;rw[eq_of_beq this]
 have ls:=List.mem_of_find?_eq_some aY;rw[c1 (aea (ad_ (ų ah.1) ah.4) e ls) λuG pG=>?_];have oz:=c.sub n.2;have bk:b.heap.MapOf (jx ah.1) 1868 (findBy dV.is (Ac ah.4 1 rS).toArray):=⟨_,_,18,oz _ _ _ (ad9 ..) V,⟨V,V,V⟩,V,λi bq=>aef ah.4 _ _ i<|Jx.mp bq,λu=>V⟩;have nB:=Nr (ad' ah.4) e ls;rw[Ķ]at nB;intro A aj;rw[Y.of<|vc bk.typeIs slot_dict_getitem.lookup (wpAny_getItem_of (VH ah.1 j D) bk nB<|aj _ _ (bK.tok ..)<|⟨e.2.1,_,0,V,λR=>hp (I.9 _ R) (λC=>?_) λC=>?_,(oz _ _ _ pG V),DE _ _⟩)<|Cp T _ _]
 .have As:=rX (ž:=λu=>mZ) pG V;rw[pF _ ⟨As.1,As.2.1⟩ C]
 .rw[b2 (cg (uF (rX (ž:=λu=>mZ) pG V).2.2) c.2) C]
end
def lu{a9 cN:Type}(J:Nat)(bo:cU->BT)(o t:Nat)(D:Sem a9)(C:Nat->e5)(h:Nat->a9)(eD:e5->cN)(f:Nat->cN):Prop:=∀(a:Bool)(v:cU)(m:Nat),(λz:cU=>(iU ⟨aU,ų z⟩ (bo z) o t (rN nM ⟨aU,ų z⟩ (bo z) o t J) D<|C m).map (λq=>(q.1,eD q.2,q.2.d'.map (·.1)))=W (h m,f m,Da<|iU ⟨aU,ų z⟩ (bo z) o t (rN nM ⟨aU,ų z⟩ (bo z) o t J) D<|C m))<|v.withFollow "special-get-raises" a
theorem v0(c:lu J bo o t D C h eD f)(ap:s.depth+3*J<f6)(ae:fk (bo v) o t cE (C b.toks) b)(aY:∀eR w,fk (bo v) o t cE eR w->eD eR=f b.toks->A (h b.toks) w):ce (cD aU v) s D A (λu u=>False) b:=by rw[abz ap ae ?_ aY];have:=c (v.params.followText "special-get-raises") v b.toks;rw[B7]at this;rw[this]
noncomputable def kj(x i:aE):Obj:={cls:=.ref 1963,dict:=W i,data:=.plain,slots:=#[W<|.ref x]}
noncomputable def l2:Obj:={cls:=.type "dict",data:=.dict #[]}
noncomputable def aeg:List Nat:=[1,0,0,0,1,0,0,0,0,0,0,0,0,0,0,0,1,0,0,0,0,0,1,0,1]
theorem Nt(ap:s.depth+90<f6)(G:Sub (e6 (ų v) ab) b.heap)(aL:b.heap.get? h=W (kj x i))(aj:∀w,kM b w->A (.ref x) w):ce (cD aU v) s (q0 (.ref h) "_data" ag) A aC b:=by
 have Nq:∀k dh,(e6 (ų v) ab).get h=W k->hW k=W dh->False:=λk dh m2 ft=>by have bH:=G h k dh m2 ft;replace bH:=aL▸bH;cases bH;rw[VA h k _ m2 ft V]
 rw[se (v0 (A:=λz w=>z=.ref x/\kM b w) ((show lu 30 (jy ab) (aB b) b.gens.size (q0 (.ref h) "_data" ag) (λD=>⟨[(h,kj x i)],0,D,aeg,[],[]⟩) (λu=>.ref x) (λC=>(C.bq,C.objs,C.m)) (λu=>([],[(h,kj x i)],0))from(λa v D=>by cases a<;>cbv))) ap (fk.start G (λn aO=>(bg aO).symm▸aL) (by simp) λn aO=>bg aO▸Nq) λeR w iW I=>⟨V,?_⟩) (λz w⟨i,m⟩=>i▸aj w m) λu u f=>f.elim];simp only[q5]at I;rw[fb I λnB jY pG=>?_];have t:bK [] b w:=iW.same λn aO=>by replace aO:=jY▸aO;rw[U (bg aO)<|.inl aL]
 rw[⟨Q7 w,w.toks,?_,λa k i=>t.1 a k (λe=>nomatch e) i⟩];have af:=iW.8;replace af:=nB▸af;obtain⟨aO,ķ,ĸ,fJ,os⟩:=w;simp only[Rt,true_and];rw[⟨af,iW.11,iW.10⟩]
def Hn:Stmt:=k3 (dq aU 19) 6
noncomputable def uH:Scope:={kind:=.function,names:=[(".0",.local),("k",.local),("self",.free),("int",.globalImplicit),("map",.globalImplicit),("str",.globalImplicit),("list",.globalImplicit),("len",.globalImplicit)],isGenerator:=ag,isCoroutine:=be,more:=[]}
noncomputable def s4(a6:List Bool)(m:Nat):List Bool:=(a6.drop m).take 8++bX (m+8-(gu a6)) be
theorem chunk_len(c:m<gu a6):gu (s4 a6 m)=8:=by unfold s4;simp;rw[(iv 8<|gu a6-m).elim (λer=>(iv (gu a6)<|(m)+8).elim (λg0=>rg 100201 1011 (.e (.a .x .y)<|.n 8) [.l .x .z,.e .x<|.n 8,.e (.a .y .w)<|.a .u<|.n 8,.e (.a .z .u) .w] Z (vm _ _) (FR er) (dM g0)<|dM<|ct (.l .x .y) [.t .x .y] Z c) λg0=>nj 10201 1011 (.e (.a .x .y)<|.n 8) [.l .x<|.n 8,.e .x<|.n 8,.e .y<|.n 0] Z (pf _ _) (FR er)<|jl g0) λer=>rg 10021101 100011 (.e (.a .x .y)<|.n 8) [.l .x .z,.l (.a .w<|.n 8)<|.a .y .u,.l .u<|.a .z .w,.e .x .z,.e (.a .y .u)<|.a .w<|.n 8,.e (.a .z .w) .u] Z (vm _ _) (ef _ _) (ef _ _) (R2 er) (dM<|eA (.l .x<|.a .y<|.n 8) [.l .z<|.n 8,.l .x<|.a .z .y] Z er<|ef _ _)<|dM<|ct (.l .x .y) [.t .x .y] Z c]
def gM(a6:List Bool):List Int:=a6.map b2i
theorem aeh(a6:List Bool):fI (gM a6):=λv bV=>by rw[mL bV λa u bN=>bL bN ?_];cases a<;>decide
inductive ja(v:cU)(ab:Nat)(hD ix:Str->Option aF)(aP g_ h x:aE)(a6:List Bool)(S:Str->Option aF)(b:au):Prop|mk(f2:b.heap.Ns aP S)(f3:b.heap.IsCell g_<|W<|.ref h)(gw:∃i,b.heap.get? h=W (kj x i))(j_:b.heap.get? x=W (c9<|br<|gM a6))(lL:Sub (e6 (ų v) ab) b.heap)(oA:b.heap.Ns 3 hD)(w5:b.heap.Ns 0 ix):ja v ab hD ix aP g_ h x a6 S b
theorem ja.nI:sW (ja v ab hD ix aP g_ h x a6 S):=λb w n t=>by have m:=vO t;rw[⟨n.1.keeps m,(bt n.2 λk i q=>⟨k,m _ _ i,q⟩),n.3.imp λi e=>m _ _ e,m _ _ n.4,λh k dh i ft=>m _ _<|n.5 h k dh i ft,n.6.keeps m,n.7.keeps m⟩]
inductive Au(ge:Env)(aP g_:aE):Prop|mk(f2:ge.scope=uH)(f3:ge.locals=aP)(gw:ge.globals=3)(j_:ge.builtins=0)(lL:ge.cells.lookup ("self":Str)=W g_):Au ge aP g_
noncomputable def xR(hD ix:Str->Option aF)(f:Str):Option Value:=match hD f with|some z=>W z|none=>ix f
theorem DG(c:Au ge aP g_)(R:uH.names.lookup f=W .globalImplicit)(aI:xR hD ix f=W z):pl (ja v ab hD ix aP g_ h x a6 S) ge f z:=by rw[⟨⟨by rwa[U c.1];rfl,by unfold zd;rwa[U c.1];rw[R]⟩,λb n=>(dj hD (c.3▸n.6) ?_)⟩];unfold xR at aI;cases i:hD f with|some aG=>replace aI:=i▸aI;rw[.inl aI]|none=>replace aI:=i▸aI;rw[.inr ⟨V,(dj ix (c.4▸n.7) aI)⟩]
theorem aei(ak:dS i=ag)(c:g' aU v s aC ge M i<|hC j):g' aU v s aC ge M (.List [i] ax) (IsL [] [.int j]):=λb A G aj=>by rw[iG (U (arm_eval_List ..) V)<|bc<|qU ?_];rw[iG (U (kV ak)<|V) (?_:ce _ s (pT [(be,ee i ge)]>>=_) A aC b)];rw[iG (V)<|bc<|bc<|c b _ G λg as aK cW=>pd bf<|lH<|kQ<|cr<|cr<|jE (aj _ _ (oR aK<|xF λa k i=>eY _ i) ?_) (by show 1<=cy;decide)];rw[c1 cW λD cB=>U cB<|Md (N:=[.int j D])<|⟨_,_,V,by rw[⟨D,V⟩],by rw[V]⟩]
theorem Nu(c:Au ge aP g_)(aT:S "k"=W (.int m D)):g' aU v s aC ge (ja v ab hD ix aP g_ h x a6 S) (.Name "k" ax) (hC m):=λb A G aj=>TM (by rwa[U c.1];rfl) (by unfold zd;rwa[U c.1];rfl) (c.2▸G.1) aT (aj _ _ (Gz b) ⟨D,V⟩) bf
theorem VI(ap:s.depth+90<f6)(c:Au ge aP g_):g' aU v s aC ge (ja v ab hD ix aP g_ h x a6 S) (.Attribute (.Name "self" fn) "_data" fQ) (λb g=>g=.ref x/\b.heap.get? x=W (c9<|br<|gM a6)):=λb A G aj=>Attribute_name<|TN (by rwa[U c.1];rfl) (by unfold zd;rwa[U c.1];rfl) c.5 G.2 (G.3.elim λi l=>Nt ap G.5 l λw t=>aj _ w t ⟨V,vO t _ _ G.4⟩) bf bf
theorem aej(E:List Bool):Me ((br<|gM E).toList).toArray=E.map λa=>.int (b2i a):=by unfold Me br gM;simp only[ho];rw[pa λa u=>?_];cases a<;>rfl
theorem aek{a6:List Bool}{m:Nat}:zg (br<|gM a6) (W (m:Int)) (W<|(m:Int)+8)=br (gM<|(a6.drop m).take 8):=by rwa[U (aca ..)];simp[br,gM,u9,wB]
section
section
variable{v:cU}{s:cq}{aC:aF->au->Prop}{b:au}{h x g_ aP:aE}{a6:List Bool}{ab m:Nat}{ge:Env}{S hD ix:Str->Option aF}{D:Tok}{dm el mS uh rw Av uI uJ uK xS xT xU xV Aw Ho DH Ax Ay DI DJ DK Az AA DL Hp Hq VJ Ĺ VK ĺ Ļ:Pos}
theorem ael(cO:s.handled=aX)(ap:s.depth+90<f6)(c:Au ge aP g_)(aT:S "k"=W (.int m D))(cG:m<gu a6)(d4:gu a6<=2^20)(af:xR hD ix "int"=W (.type "int"))(am:xR hD ix "map"=W (.type "map"))(a':xR hD ix "str"=W (.type "str"))(cJ:xR hD ix "list"=W (.type "list"))(ez:xR hD ix "len"=W (.builtin "len"))(iM:(mS.endLine==VK.line)=ag):g' aU v s aC ge (ja v ab hD ix aP g_ h x a6 S) (.Call (.Name "int" dm) [.Call (.Attribute (.Constant (.str nc) 0 el) "join" mS) [.Call (.Name "map" uh) [.Name "str" rw,.BinOp (.Call (.Name "list" Av) [.Subscript (.Attribute (.Name "self" uI) "_data" uJ) (.Slice (W<|.Name "k" uK) (W<|.BinOp (.Name "k" xS) .Add (.Constant (.int 8) 0 xT) xU) aX xV) Aw] [] Ho) .Add (.BinOp (.List [.Constant (.int 0) 0 DH] Ax) .Mult (.BinOp (.BinOp (.Name "k" Ay) .Add (.Constant (.int 8) 0 DI) DJ) .Sub (.Call (.Name "len" DK) [.Attribute (.Name "self" Az) "_data" AA] [] DL) Hp) Hq) VJ] [] Ĺ] [] VK,.Constant (.int 2) 0 ĺ] [] Ļ) (hC<|valOf<|s4 a6 m):=by
 have G:cy=2^24:=V;have bl:g' aU v s aC ge (ja v ab hD ix aP g_ h x a6 S) (.Subscript (.Attribute (.Name "self" uI) "_data" uJ) (.Slice (W<|.Name "k" uK) (W<|.BinOp (.Name "k" xS) .Add (.Constant (.int 8) 0 xT) xU) aX xV) Aw) (λb g=>∃gi,g=.ref gi/\b.heap.get? gi=W (c9<|br<|gM<|(a6.drop m).take 8)):=by have:=ab0 (ax:=xV) (xu:=Aw) ja.nI (VI (hD:=hD) (ix:=ix) (a6:=a6) (h:=h) (x:=x) (v:=v) (aC:=aC) (ab:=ab) (fn:=uI) (fQ:=uJ) ap c) (Nu (ax:=uK) c aT) (Ub (ax:=xU) ja.nI (Nu (ax:=xS) c aT)<|GA (j:=8) (m:=0) (ax:=xT)) (by rwa[U (n8 ..)];unfold gM;rwa[U (dg ..)];rw[fE 211 (.l .x .y) [.l .x<|.n 1048576,.e .y<|.n 16777216] Z d4 G]);rw[aek]at this;rw[this]
 have aw:g' aU v s aC ge (ja v ab hD ix aP g_ h x a6 S) (.Call (.Name "list" Av) [.Subscript (.Attribute (.Name "self" uI) "_data" uJ) (.Slice (W<|.Name "k" uK) (W<|.BinOp (.Name "k" xS) .Add (.Constant (.int 8) 0 xT) xU) aX xV) Aw] [] Ho) (IsL []<|((a6.drop m).take 8).map λa=>.int<|b2i a):=by rwa[GC ja.nI (DG c V cJ) V (z9 V ja.nI bl (λb w g⟨gi,i,t⟩iR=>⟨gi,i,vO iR _ _ t⟩) GB)];rintro b aV _ bN;rw[d7 bN λg u cB dt eh=>U cB ?_];obtain⟨gi,rfl,aI⟩:=dt;rwa[U eh];have:=ab4 (ſ:=aU) (v:=v) (aC:=aC) cO aI (by rwa[U (n8 ..)];unfold gM;simp;rw[bM (.l .x<|.n 16777216) [.l .x<|.n 8] Z<|pf _ _]);rw[<-JL (xs:=br<|gM<|(a6.drop m).take 8),aej]at this;rw[this]
 have ak:g' aU v s aC ge (ja v ab hD ix aP g_ h x a6 S) (.Call (.Name "len" DK) [.Attribute (.Name "self" Az) "_data" AA] [] DL) (hC (gu a6)):=by
  rwa[GC ja.nI (DG c V ez) V (z9 V ja.nI (VI (S:=S) (hD:=hD) (h:=h) (x:=x) (v:=v) (aC:=aC) (ab:=ab) (fn:=Az) (fQ:=AA) ap c) (λb w g⟨i,t⟩iR=>⟨i,vO iR _ _ t⟩) GB)];rintro b aV _ fd A aj;rw[d7 fd λg u gS gT hK=>U gS ?_];obtain⟨rfl,aI⟩:=gT;rwa[U hK];have ae:(br<|gM a6).size=gu a6:=by rwa[U (n8 ..)];unfold gM;rw[U (dg ..) V]
  rw[Sa aI (ae▸bM (.b2 (.c .x)<|.n 9223372036854775808) [.l .x<|.n 1048576] Z d4)<|ae.symm▸aj _ _ (xE ..) ⟨_,V⟩]
 have ae:g' aU v s aC ge (ja v ab hD ix aP g_ h x a6 S) (.BinOp (.List [.Constant (.int 0) 0 DH] Ax) .Mult (.BinOp (.BinOp (.Name "k" Ay) .Add (.Constant (.int 8) 0 DI) DJ) .Sub (.Call (.Name "len" DK) [.Attribute (.Name "self" Az) "_data" AA] [] DL) Hp) Hq) (IsL []<|(bX (m+8-(gu a6)) be).map λa=> .int<|b2i a):=by
  rwa[GD ja.nI (aei (ax:=Ax) (j:=0) V GA) Mc (abP ja.nI (Ub ja.nI (Nu (ax:=Ay) c aT) GA) ak)];rintro b e2 fG _ aA jp;rw[c1 jp λaG j'=>U j' ?_];have:=ab2 (ſ:=aU) (v:=v) (s:=s) (aC:=aC) (aG:=aG) (m:=(m:Int)+8-(gu a6)) aA (by simp) (ct (.cN (.g<|.n 9223372036854775808)<|.s (.a (.c .x)<|.n 8)<|.c .y) [.l .y<|.n 1048576] Z d4) (ct (.b2 (.s (.a (.c .x)<|.n 8)<|.c .y)<|.n 9223372036854775808) [.t .x .y] Z cG) (by simp;rw[ct (.cN (.a (.c .x)<|.n 8)<|.a (.n 16777216)<|.c .y) [.t .x .y] Z cG]);have i:(bX (om ((m:Int)+8-(gu a6))) [bj.int 0]).flatten=(bX (m+8-(gu a6)) be).map λa=>bj.int (b2i a):=by rw[((show om ((m:Int)+8-(gu a6))=m+8-(gu a6) from Fb (m+8) (gu a6)).symm)▸ ?_];generalize m+8-(gu a6)=o;induction o with
   |zero=>rfl |succ o aW=>rw[U l'<|U kr<|U aW<|U l'<|U hU ?_];rfl
  rw[i] at this;rw[this]
 have bC:=GD (ax:=VJ) ja.nI aw Mc ae (al:=IsL []<|(s4 a6 m).map λa=> .int<|b2i a) (by intro b e2 fG _ af am;unfold s4;rwa[U jg];rw[ab1 af am (by simp;rw[(iv 8<|gu a6-m).elim (λer=>(iv (gu a6)<|(m)+8).elim (λg0=>rf 211 (.l (.a .x .y) .z) [.t .w .u,.e .z<|.n 16777216,.l .x<|.n 8,.e (.a .y .u)<|.a .w<|.n 8] Z cG G (pf _ _)<|dM g0) λg0=>fq 21 (.l (.a .x .y) .z) [.e .z<|.n 16777216,.l .x<|.n 8,.e .y<|.n 0] Z G (pf _ _)<|jl g0) λer=>rf 211 (.l (.a .x .y) .z) [.t .w .u,.e .z<|.n 16777216,.l .x<|.n 8,.e (.a .y .u)<|.a .w<|.n 8] Z cG G (pf _ _)<|dM<|eA (.l .x<|.a .y<|.n 8) [.l .z<|.n 8,.l .x<|.a .z .y] Z er<|ef _ _])]);have cp:=chunk_len cG;rwa[GC ja.nI (DG c V af) V (z9 V ja.nI (ab' cp cO ja.nI (DG c V am) (DG c V a') bC V iM V) (λu u u c u=>c)<|z9 V ja.nI GA (L' _) GB)];rintro b aV _ mR A aj;rw[d7 mR λg u n2 uk ul=>d7 ul λbm u rt xj ub=>U n2 ?_];obtain⟨aG,rfl⟩:=uk;rwa[U rt];obtain⟨kY,rfl⟩:=xj;rw[U ub<|abL cp<|aj _ _ (xE ..) ⟨_,V⟩]
end
end
section
variable{v:cU}{b:au}{ž:Nat->Obj}{ab:Nat}
def v1(M:cY)(ab:Nat):FuncData:=fdOf<|GP aU M ab
theorem VL(M:cY)(ab:Nat):(e6 M ab).get 1945=W (GP aU M ab):=by cbv
theorem aem(M:cY)(ab:Nat):(e6 M ab).get 1944=W (MO aU M ab):=by cbv
theorem xW(c:eF ah)(a:gU (bh ah) b)(aL:(e6 (ų ah.1) ah.4).get h=W k)(bl:k.data=.func bp)(l:bp.body=.stmts eC)(aY:bp.code=.ref e)(Nv:(e6 (ų ah.1) ah.4).get e=W sO)(aQ:sO.data=.fields N)(af:N[1]?=W (.str bp.qualname D))(zD:bp.scope.isCoroutine=be)(lh:bp.scope.isGenerator=be)(aT:bp.scope.kind=.function)(bi:bp.scope.names.all (λf=>f.2 !=.free)=ag)(aA:bp.closure=[]):FnAt b h bp eC:=by have G:=c.sub a;rw[⟨⟨k,G _ _ _ aL (by obtain⟨g,bU,rL,bz⟩:=k;cases rL<;>first|rfl|cases bl),bl⟩,zD,lh,l,⟨e,sO,N,D,aY,G _ _ _ Nv (by obtain⟨g,bU,rL,bz⟩:=sO;cases rL<;>first|rfl|cases aQ),aQ,af⟩,aT,λf R=>?_,aA,(DC<|c.sub a)⟩];have:=hH.mp bi f R;simpa using this
theorem ai.SE{x:Nat}{O:dA}{y:b_}{f:Str}{a:Array UInt8}{fn fQ:Pos}(aM:eF ah)(c:ai (bh ah) x O y (.Name f fn) .cH<|.buf a):ai (bh ah) x O y (.Attribute (.Name f fn) "_data" fQ) .cH (.oH a):=λs p r L ay aa ao G I b A n aj=>by rw[Y.eq (IX ..)<|Y.bind<|c s p r L ay aa ao G I b _ n λa4 as aK gb=>dH<|wN gb λh bU uL bN aS aI bl v2 u=>U bN<|dR<|kv<|Y.of<|Nt (by have:=ao.2;show s.depth+90<1000;rw[ct (.t (.a .x<|.n 90)<|.n 1000) [.l (.a .x .y)<|.n 900] Z this]) (aM.sub (n.grow aK).2) aI λw m ju=>fW m λX fJ cB iR=>?_];obtain rfl:=cB;have a7:bb [] [] as {as with heap:=X,toks:=fJ}:=bK.heap (λa k u i=>iR a k i) ju.1;rw[ev<|Y.pure<|aj _ _ (aK.trans a7)<|sq bU V bl<|iR _ _ v2]
theorem Hr(c:eF ah):(bh ah).I7:=by
 have bk:∃AB k,(s2 (ų ah.1) ah.3 ah.4 ah.5).nsMap 3 "__builtins__"=W (.ref AB)/\AB≠builtinsNs/\(e6 (ų ah.1) ah.4).get AB=W k/\k.cls=.type "module"/\k.dict=W builtinsNs/\k.data=.plain:=(RG 4 (aa_ aU (ų ah.1)) (by cbv) bf (by cbv) V V V);rw[J' bk λAB k af am a' cJ ez gD=>⟨iV c,λs aC w A aT aY=>?_,?_,pF _ bf⟩]
 .have gY:hW k=W k:=by obtain⟨g,bU,rL,bz⟩:=k;cases rL<;>first|rfl|rw[nomatch gD]
  have aL:=Ar c _ _ _ a' gY;have VM:=rX (ž:=λu=>mZ) a' gY;rw[wpAny_builtinsFor ((J6 (Vx) λk i=>c.1 _ _ i).at' λdh i=>aT 3 dh (dK i) (pF _ bf) i) af am (aT _ _ (dK aL) (pF _ ⟨VM.1,VM.2.1⟩) aL) cJ ez gD aY]
 .rw[cg bf c.2]
theorem Nw{ſ:cM}{v:cU}{s:cq}{p:Env}{b:au}{f:Str}{m:Nat}{fn fQ:Pos}{b0:List fa}{K:gO->au->Prop}(aT:p.scope.kind=.function)(c:∀fJ,Y ſ v s (d3 b0 p) K {b with toks:=fJ}):Y ſ v s (d3 (.Expr (.Constant (.str f) m fn) fQ::b0) p) K b:=by
 rw[zz<|d8 ?_];intro eg;have T:yI p=be:=by unfold yI;rwa[U aT];rfl
 rw[U (IJ (hi:=T) (hs:=t8 V))<|dH<|dC<|PN<|Y.pure ⟨V,c _⟩]
def jz(a6:List Bool)(j:Nat):Int:=valOf<|s4 a6<|8*j
@[reducible]def VN(a6:List Bool):b_:=lT ["self"] [(.cH,.buf<|br<|gM a6)] []
theorem VO{o:Nat}(ae:o<=2^20):tH 0 o 8=((o+7)/8:Nat)/\wJ 0 o 8=ag:=by have AC:=Tn o;rw[⟨AC,?_⟩];unfold wJ;rwa[U AC];rw[if_pos bf,sA _ (gP _)<|gP _,sA _ (gP _) (by rw[bM (.b2 (.c .x)<|.n 4611686018427387904) [.l .x<|.n 1048576] Z ae]),sA _ (gP _)<|gP _,sA _ (gP _) (by rw[fE 4 (.b2 (.c .x)<|.n 4611686018427387904) [.l .y<|.n 1048576,.l (.m 8 .x)<|.a .y<|.n 7] Z ae<|p2 _ 8]),sA _ (by rw[bM (.cN (.g<|.n 4611686018427387904)<|.a (.c .x)<|.s (.n 8)<|.n 1) [] Z]) (by rw[bM (.b2 (.a (.c .x)<|.s (.n 8)<|.n 1)<|.n 4611686018427387904) [.l .x<|.n 1048576] Z ae])];rw[Bool.or_true,];rfl
theorem aen(aM:eF ah)(ae:gu a6<=2^20)(ao:eW x s)(I:cx (bh ah) eE r L ay aa)(G:eE.scope=fH Hn):dk aU ah.1 s [] [] eE (bG (bh ah) eE r L aa<|VN a6) (.Call (.Name "range" CT) [.Constant (.int 0) 0 LB,.Call (.Name "len" Gg) [.Attribute (.Name "self" CU) "_data" CV] [] ae7,.Constant (.int 8) 0 amN] [] amO) (zB r 0 8<|(gu a6+7)/8):=by rwa[lj I.ok (h3 (Hr aM).1 I Aq (by rw[G,];cbv)) V (hZ V I.ok KJ (iL _)<|hZ V I.ok (eP (by have:=ai.EO (ax:=ae7) (d':=Gg) (vZ aM) (ai.SE (x:=x) (f:="self") (fn:=CU) (fQ:=CV) aM<|ai.name (f:="self") (ax:=CU) (O:=fH Hn) (y:=VN a6) V Z) (by unfold gM;rwa[U (dg ..)];rw[mA ae bf]);rwa[gM,dg]at this) ao G I) (iL _)<|hZ V I.ok KJ (iL _) jo)];rintro b aV aO i5 A aj;rw[g4 λu bW=>d7 i5 λu u bH af ff=>d7 ff λu u cm am ui=>d7 ui λu u eO a' hu=>?_];obtain⟨D,rfl⟩:=af;obtain⟨aG,rfl⟩:=am;obtain⟨z,rfl⟩:=a';subst hu eO cm bH;rw[bW<|Y.of<|call_range_3 bf (aj _ _ (bK.new _ _ b _ _) ⟨_,_,_,_,_,V,λe=>ia _<|I.ok.2 _ aO _ e,FE ..,(VO ae).2,(VO ae).1⟩)<|.inl<|vJ bf]
theorem aeo(aM:eF ah)(ao:eW (x+1) s)(I:cx (bh ah) p r L ay aa)(n:bG (bh ah) p r L aa y b)(aS:h∉r)(aI:b.heap.get? h=W (kj bU uL))(ļ:uL∉r)(lh:b.heap.get? uL=W l2)(gx:1998<=uL)(bl:bU∉r)(v2:b.heap.get? bU=W (c9<|br<|gM a6))(bC:TabAt b.heap 1944 1940 c3)(h1:bo.handled=aX)(LD:bo.depth<=900)(ae:gu a6<=2^20)(aj:∀ed aP t an f4 lq eB w,b.heap.objs.size<=ed->b.heap.objs.size<=aP->b.heap.objs.size<=an->ed<Ų (ű (Q7 w))->aP<Ų (ű (Q7 w))->an<Ų (ű (Q7 w))->b.gens.size<=t->t<w.gens.size->bb [1940] [] b w->TabAt w.heap 1944 1940 lq->lq=c3++eB->oN ed aP (an::f4) [an]->(∀a∈f4,(b.heap.objs.size<=a\/a∉r)/\a<Ų (ű (Q7 w)))->jW aU ah.1 bo ed t aP (an::f4) [an] ((gu a6+7)/8) (oT<|jz a6) 0 w->A (.ref ed) w):Y aU ah.1 s (eS (.ref 1945) [.ref h] []) A b:=by
 have aA:=Hr aM;have Nx:ck b.heap r (.buf<|br<|gM a6) (.ref h):=⟨h,bU,uL,V,aS,aI,bl,v2,ļ,lh,gx⟩;rw[CX (eH:=["self"]) (bT:=[(.cH,.buf<|br<|gM a6)]) aA.1 ao ((show FnAt b 1945 (v1 (ų ah.1) ah.4) (hv Hn)from(xW aM n.2 (VL ..) V V V (aem ..) V V V V V V V))) V V I n ⟨_,_,V,Nx,V⟩ V (tL V) Z λw dZ cd eo bs go=>ds (@bh _) ?_];intro dx;rw[d8 ?_];intro eg;have jw:(c5 (v1 (ų ah.1) ah.4) 1945 b).scope=fH Hn:=V;have C2:(c5 (v1 (ų ah.1) ah.4) 1945 b).code=.ref 1944:=V;have Gq:(c5 (v1 (ų ah.1) ah.4) 1945 b).globals=3:=V;have z2:(c5 (v1 (ų ah.1) ah.4) 1945 b).builtins=0:=V;generalize ð:s.deeper (c5 (v1 (ų ah.1) ah.4) 1945 b)=k4 at*;generalize bq:c5 (v1 (ų ah.1) ah.4) 1945 b=eE at*;conv=>arg 4;arg 1;whnf
 have vV:eE.scope.kind=.function:=by rw[jw,];rfl
 rw[Nw vV λfJ=>?_];replace bs:bG (bh ah) eE (cc eE++r) [] (aB w) (lT ["self"] [(.cH,.buf<|br<|gM a6)] []) {w with toks:=fJ}:=bs.grow<|bK.tok _ _ _ _;replace cd:bb [] [] b {w with toks:=fJ}:=cd.trans<|bK.tok _ _ _ _;have DM:(aB w)=(aB {w with toks:=fJ}):=V;generalize({w with toks:=fJ}:au)=as at*;rw[DM]at eo bs;have oP:=cd.2;have AD:=bs.2;rw[g4 λu bW=>c0 (AD.ns aA.1) λĽ ľ=>jh bs.3 λcS al xx dt eh=>?_];obtain-:=dt;obtain-:=eh;rw[bt (xx "self" (.f<|.buf<|br<|gM a6)<|sD V) λa4 jq ap=>bt (al.3 "self"<|.inl (by show eE.scope.names.lookup _=_;rw[jw,];cbv)) λg_ lM lW=>?_];rw[jq]at lW;rw[wN ap λgi uG cP fd kb Ny jN Nz u=>?_];obtain rfl:=fd;rw[bW ?_];have uu:g_∈cc eE:=t3 lM;have LZ:wu uH eE=dB (hs eE uH.names []):=Lf λe aY zQ=>by
  have:e.1="self":=by simp only[uH,fT,na,or_false]at aY;rcases aY with rfl|rfl|rfl|rfl|rfl|rfl|rfl|rfl<;>first|rfl|rw[nomatch zQ]
  rw[this,];rw[⟨g_,lM⟩]
 have akA:1944≠1940:=bf;rw[Y.bind<|dH<|Y.bind ?_];have ht:Ų (ű (Q7 ah.2))<=b.heap.objs.size:=n.2.1.2;have cp:(br<|gM a6).size=gu a6:=by rw[n8,];unfold gM;rw[dg,]
 rwa[Tp (me:=hs eE uH.names []) (qj:=g_::gi::uG::(bh ah).sS) (uf:=λj z=>j<(gu a6+7)/8/\∃D,z=.int ((0:Int)+j*8) D) (Gh:=λan j c=>o9 c an ((0:Int)+(j:Nat)*8) ((((gu a6+7)/8:Nat))-(j:Nat)) 8) (eD:=oT<|jz a6) V LZ bf V V V (mA (a5 (hf _ _) go.2) bf) (DC<|aM.sub AD) h1 C2 (bC.keeps λa k i=>cd.1 a k (λe=>db e) i) (λf=>V) ?_ ?_ ?_ ?_ ?_ ?_ (λj z c=>c.1)]
 .intro ew nt d_ nU aT aY;rwa[iG (U Gq<|U z2 V)];replace aY:=z2▸aY;rw[aA.2 ew nt d_ nU (λa k l bC i=>aT a k (λe=>bC<|e▸l1.mpr (.inr V))<|AD.1.1 a k bC i) aY]
 .rw[hg (eo.8 _ (eo.4 _ uu).1)<|hg (dK Ny)<|hg (dK Nz) λa l=>cg (nv.mp l).1 AD.1.2]
 .rw[mt<|mt<|mt<|nv.mpr aA.3]
 .intro e;rw[dw e (λe=>b2 (e▸bC.1.lt.2)<|dZ g_ uu) λe=>dw e (λe=>kb<|e▸bR (I.6 _<|I.7 _<|l1.mpr<|.inr V)) λe=>dw e (λe=>jN<|e▸bR (I.6 _<|I.7 _<|l1.mpr<|.inr V)) λe=>(nv.mp e).2<|l1.mpr<|.inr V]
 .rw[d8 ?_];intro eg--qc iterator
  rw[aen aM ae go eo jw as _ bs λCW ar a7 i2=>g4 λu bW=>Kb i2 λq a D aG z rt akB T Hs xq=>?_];obtain rfl:=rt;rw[bW<|Y.of<|IL T Hs<|U xq<|⟨_,V,a7.2,by show _<(ar.heap.push _).objs.size;rw[f',];rw[kN _],a7.trans<|bK.push ar _ ar.toks,(fu _ V),λew Gr=>Lake.Walks.lt<|FC Gr _ 0 8<|(gu a6+7)/8⟩]
 .--qc aaa
  intro aP code ew nt j B ar vE Gr Ŀ _ T aQ zY vF L0;rw[g4 λu bW=>c0 aQ λu xj=>c1 xj λfp ub=>?_];obtain rfl:=ub;rw[bW ?_];have fZ:∀a,a∈g_::gi::uG::(bh ah).sS->∀k,Ű (Q7 as) a=W k->Ű (Q7 ar) a=W k:=L0;have cl:ja ah.1 ah.4 (bh ah).mg (bh ah).mb aP g_ gi uG a6 vE ar:=by
   rw[⟨zY,?_,⟨_,fZ _ (mt bB) _ Ny⟩,fZ _ (mt<|mt bB) _ Nz,λa k dh i ft=>?_,Ľ.at' λk i=>fZ 3 ?_ k i,ľ.at' λk i=>fZ 0 ?_ k i⟩]
   .rw[bt lW λk i q=>⟨k,fZ _ (bB) _ i,q⟩]
   .have As:=rX (ž:=λu=>mZ) i ft;rw[fZ a (mt<|mt<|mt<|nv.mpr ⟨cg (uF As.2.2) aM.2,pF _ ⟨As.1,As.2.1⟩⟩) _<|(aM.sub AD) a k dh i ft]
   .rw[mt<|mt<|mt<|nv.mpr ⟨cg bf aM.2,aA.1.4⟩]
   .rw[mt<|mt<|mt<|nv.mpr ⟨cg bf aM.2,aA.1.5⟩]
  have hl:Au (genEnv uH (hs eE uH.names []) aP code eE.builtins eE) aP g_:=⟨V,V,Gq,z2,(Lg lM uH.names [] aR<|.inr bf)⟩;have qs:((0:Int)+j*8)=((8*j:Nat)):=by push_cast;rw[bM (.e0 (.a (.n 0)<|.r (.c .x) 8)<|.m 8<|.c .x) [] Z]
  replace vF:=qs▸vF;rw[ael Gr (by show ew.depth+90<1000;rw[ct (.t (.a .x<|.n 90)<|.n 1000) [.l .y<|.n 900,.l .x<|.o .y] Z LD Ŀ]) hl vF (fq 41 (.t (.m 8 .x) .y) [.t .x .z,.l (.m 8 .z)<|.a .y<|.n 7] Z aQ.1<|p2 _ 8) ae (by cbv) (by cbv) (by cbv) VC (by cbv) V ar _ cl λg co jM ŀ=>⟨ŀ,jM⟩]
 .intro ed aP t an lq eB d_ nn eI lK Ł qp C4 qq L1 il L2 lU i3 oG;rw[Y.pure<|Y.pure ⟨_,V,aj ed aP t an (g_::gi::uG::(bh ah).sS) lq eB d_ (a5 oP nn) (a5 oP eI) (a5 oP lK) Ł qp C4 (a5 cd.4 qq) L1 ((cd.mono aR λu c=>c).trans il) L2 lU i3 (hg ⟨.inl<|dZ _ uu,cg (eo.8 _ (eo.4 _ uu).1) il.2⟩<|hg ⟨.inr λe=>kb<|bR e,cg (dK Ny) il.2⟩<|hg ⟨.inr λe=>jN<|bR e,cg (dK Nz) il.2⟩ λa l=>⟨.inr λe=>(I.9 _ e).elim (nv.mp l).2 λC=>b2 (nv.mp l).1 C,cg (nv.mp l).1<|a5 AD.1.2 il.2⟩)<|oG bo h1 (dr _)<|dr _⟩]
end
section
variable{g:ea}{p:Env}{r L:List aE}{b:au}{an gd:Inv}
noncomputable def Inv.both(an gd:Inv):Inv where
 W:=an.W++gd.W
 G:=an.G++gd.G
 St:=λr b=>an.St r b/\gd.St r b
 frame:=λr b w cL cf c t dz jK=>⟨an.frame r b w cL cf c.1 t (λa l=>⟨(dz a l).1,λe=>(dz a l).2<|b7 e⟩) λj T e=>jK j T<|b7 e,gd.frame r b w cL cf c.2 t (λa l=>⟨(dz a l).1,λe=>(dz a l).2<|bR e⟩) λj T e=>jK j T<|bR e⟩
 mono:=λr bx b c cC=>⟨an.mono r bx b c.1 cC,gd.mono r bx b c.2 cC⟩
theorem Inv.At.fst(c:(an.both gd).At g p r L b):an.At g p r L b:=⟨c.1.1,λa l=>c.2 a<|b7 l,λj T=>c.3 j<|b7 T⟩
theorem Inv.At.snd(c:(an.both gd).At g p r L b):gd.At g p r L b:=⟨c.1.2,λa l=>c.2 a<|bR l,λj T=>c.3 j<|bR T⟩
theorem Inv.At.both(c:an.At g p r L b)(X:gd.At g p r L b):(an.both gd).At g p r L b:=⟨⟨c.1,X.1⟩,λa l=>bS l (c.2 a)<|X.2 a,λj T=>bS T (c.3 j)<|X.3 j⟩
noncomputable def Inv.none:Inv:=⟨[],[],λu u=>True,λu u u u u u u u u=>trivial,λu u u u u=>trivial⟩
noncomputable def hQ(e M:aE):Inv where
 W:=[M]
 G:=[]
 St:=λr b=>e∉r/\∃c3,TabAt b.heap e M c3
 frame:=λr b w cL cf c t dz u=>by
  obtain⟨aY,c3,bC⟩:=c;rw[⟨aY,c3,bC.kept λa l k i=>t.1 a k (λdf=>?_) i⟩];rcases l with rfl|rfl
  .rw[aY (dz _ df).1]
  .rw[(dz _ df).2 bB]
 mono:=λr bx b c cC=>by obtain⟨aY,c3,bC⟩:=c;rw[⟨λdf=>(cC _ df).elim aY λC=>b2 bC.1.lt.1 C,c3,bC⟩]
def xX(v:cU)(bo:cq)(ed:aE)(t:Nat)(aP:aE)(bQ aZ:List aE)(o Q:Nat)(eD:Nat->aF->Prop):Inv where
 W:=aP::aZ
 G:=[t]
 St:=λr b=>jW aU v bo ed t aP bQ aZ o eD Q b/\oN ed aP bQ aZ/\(∀a∈ed::aP::bQ,(a∈aP::aZ\/a∉r)/\a<(aB b))/\∀a∈aP::aZ,1998<=a
 frame:=λr b w cL cf c il dz jK=>by rw[lG c λaf am a' cJ=>⟨af.frame am il (λa l e=>hp ((a' a e).1) (λC=>(dz a l).2 C) λC=>C (dz a l).1) λe=>jK t e bB,am,λa l=>⟨(a' a l).1,cg (a' a l).2 il.2⟩,cJ⟩]
 mono:=λr bx b c cC=>by rw[lG c λaf am a' cJ=>⟨af,am,λa l=>⟨(hp ((a' a l).1) (λC=>.inl C) λC=>.inr λe=>(cC a e).elim C λeR=>b2 (a' a l).2 eR),(a' a l).2⟩,cJ⟩]
noncomputable def nC(av:aE)(aJ:List bj):Inv where
 W:=[av]
 G:=[]
 St:=λr b=>1998<=av/\iO b.heap r av (.lst aJ)/\∀N o,b.heap.get? av=W {cls:=.type "list",data:=.seq N o}->∀z∈N.toList,∀h,z=.ref h->av<=h
 frame:=λr b w cL cf c t dz u=>by have VP:∀k,b.heap.get? av=W k->Ű (Q7 w) av=W k:=λk i=>t.1 _ k (λe=>(dz _ e).2 bB) i;rw[⟨c.1,c.2.1.to (λa k l i=>⟨t.1 a k (λe=>l (dz a e).1) i,l⟩) VP,λN o i=>c.2.2 N o<|fW c.2.1 λĭ gE np u=>?_⟩];have bH:=VP _ np;rw[i]at bH;rw[np.symm▸bH▸V]
 mono:=λr bx b c cC=>⟨c.1,c.2.1.to (λa k l i=>⟨i,λe=>(cC a e).elim l λC=>b2 (dK i) C⟩) λk i=>i,c.2.2⟩
noncomputable def NA(y:b_):Bool:=y.all λn=>match n.2 with|.f cR=>ag|_=>be
set_option tactic.hygienic true in theorem v3(c:NA y=ag):nz y:=λf bz e=>by induction e with
 |here=>
  unfold NA at c;rw[on,ir]at c
  rename_i z;cases z with
  |f aG=>rw[⟨aG,V⟩]|o aG=>rw[iJ c.1]|b aG=>rw[iJ c.1]
 |there _ _ aW=>unfold NA at c;rw[on,ir]at c;rw[aW c.2]
theorem gU.SJ(a:gU g b)(cl:M∈g.tabs\/(aB g.s0)<=M)(t:bb [M] [] b w)(c:TabAt b.heap e M c3)(X:TabAt w.heap e M<|c3++eB):gU g w:=by
 rw[⟨a.1.hj t (λB a8=>cl.elim (λC=>.inl<|bg a8▸C) λC=>.inr<|fY<|bg a8▸C) aR,λB a8 k N bH cm eO=>c1 (a.2 B a8 k N bH cm eO) λS i=>?_⟩];by_cases VQ:B=M
 .subst VQ;have t1:=c.2.2;replace t1:=i▸t1;have t1:=ek t1;rw[⟨S++eB,(X.2.2.symm▸?_)⟩];have lU:c3=N++S:=by have:=congrArg Obj.data t1;simpa using this.symm
  have aL:k.cls=.none/\k.dict=aX/\k.slots=#[]:=⟨congrArg Obj.cls t1,congrArg Obj.dict t1,congrArg Obj.slots t1⟩;obtain⟨K6,du,akC,akD⟩:=k;obtain⟨rfl,rfl,rfl⟩:=aL;rw[lU.symm▸Array.append_assoc.symm▸V]
 .rw[⟨S,t.1 _ _ (λe=>VQ<|bg e) i⟩]
namespace b'
theorem doc(c:b' g x s O an y b0 b1):b' g x s O an y (.Expr (.Constant (.str D) Q fn) fQ::b0) b1:=λp r L ay aa b ao G I n T=>Nw I.1 λfJ=>Y.mono (c p r L ay aa _ ao G I (n.grow<|bK.tok _ _ _ _)<|T.it (bK.tok [] [] b fJ) aR aR) λJ w X=>X.trans<|gV.refl an b|>.trans ⟨λu c=>c,λu c=>.inl c,λu c=>.inl c,λu c=>.inl c,λu c=>.inl c,bK.tok ..⟩
end b'
end
noncomputable def s5(av:aE):Obj:={cls:=.type "builtin_function_or_method",data:=.fields #[.builtin "list.append",.ref av]}
noncomputable def l4(N:Array aF)(m:Nat):Obj:={cls:=.type "list",data:=.seq N m}
theorem NB(iW:fk bo (aB b) b.gens.size b C w)(aI:C.bq=[])(rO:∀n∈C.objs,b.heap.get? n.1=W n.2\/(aB b)<=n.1):kM b w/\(aB b)<=(aB w):=by have t:bK [] b w:=iW.same rO;rw[⟨⟨Q7 w,w.toks,?_,λa k i=>t.1 a k (λe=>nomatch e) i⟩,t.2⟩];have af:=iW.8;replace af:=aI▸af;obtain⟨aO,ķ,ĸ,fJ,os⟩:=w;simp only[Rt,true_and];rw[⟨by rw[af],iW.11,iW.10⟩]
theorem Keeps.SM(m:kM b w)(C:(aB b)<=(aB w)):bb [] [] b w:=by rw[fW m λX fJ bN iR=>?_];obtain rfl:=bN;rw[bK.heap (λa k u i=>iR a k i) C]
theorem aep(ap:s.depth+90<f6)(G:Sub (e6 (ų v) ab) b.heap)(aL:b.heap.get? av=W (l4 N m))(c7:1998<=av)(aj:∀w,bb [] [] b w->Ű (Q7 w) (aB b)=W (s5 av)->A (.ref<|aB b) w):Y aU v s (q0 (.ref av) "append" ag) A b:=by
 rw[Y.of<|v0 ((show lu 30 (jy ab) (aB b) b.gens.size (q0 (.ref av) "append" ag) (λD=>⟨[(av,l4 N m)],0,D,[1,1,1,1,1,1],[],[]⟩) (λu=>.ref<|aB b) (λC=>(C.bq,C.objs,C.m)) (λu=>([],[(av,l4 N m),((aB b),s5 av)],1))from(λa v D=>by cases a<;>cbv))) ap (fk.start G (λn aO=>bg aO▸aL) (by simp) λn aO k dh i ft=>by rw[bg aO]at i;rw[b2 (uF (rX (ž:=λu=>mZ) i ft).2.2) c7]) λeR w iW I=>?_];simp only[q5]at I;rw[fb I λnB jY pG=>?_];rw[c0 (NB iW nB (λn aO=>by
  rw[jY]at aO
  revert n;rwa[hg ?_]
  .rw[.inl aL]
  .intro n aO;rwa[U (bg aO)];rw[.inr<|dr _])) λiR C=>?_];rw[aj w (Keeps.SM iR C)<|iW.3 1 _ _ (by rwa[U jY];rfl)]
theorem aeq(ap:s.depth+90<f6)(G:Sub (e6 (ų v) ab) b.heap)(bk:b.heap.get? S=W (s5 av))(aL:b.heap.get? av=W (l4 N m))(c7:1998<=av)(ae:N.size<=cy)(aj:∀w,bb [av] [] b w->(∃fN,Ű (Q7 w) av=W (l4 (N.push f) fN))->A .none w):Y aU v s (eS (.ref S) [f] []) A b:=by
 rw[kv<|Y.of<|wpAny_call<|Bl<|ou bk ?_];rw[bc<|se (v0 (s:=s.in1) (A:=λu w=>kM b w) ((show lu 30 (jy ab) (aB b) b.gens.size (checkBoundCall "list.append" ⟨[.ref av,f],[]⟩) (λD=>⟨[(av,l4 N m)],0,D,[1,1,1],[],[]⟩) (λu=>()) (λC=>(C.bq,C.objs,C.m)) (λu=>([],[(av,l4 N m)],0))from(λa v D=>by cases a<;>cbv))) ap (fk.start G (λn aO=>bg aO▸aL) (by simp) λn aO k dh i ft=>by rw[bg aO]at i;rw[b2 (uF (rX (ž:=λu=>mZ) i ft).2.2) c7]) λeR w iW I=>?_) (λu as sC=>?_) λu u e=>e.elim]
 .simp only[q5]at I;rw[fb I λnB jY pG=>?_];rw[(NB iW nB λn aO=>by rw[jY]at aO;rwa[U (bg aO)];rw[.inl aL]).1]
 .rw[ds (@GetElem.getElem _ _ _ _ _ _ _ _) ?_];intro dx;rw[fW sC λbw jr cB iR=>U cB<|cr ⟨o8 slot_list_append.plain _,yK entry_list_append ?_⟩];have VR:=iR _ _ aL;rw[(?_:ce _ _ (updateSeq av (·.push f)>>=λu=>ret .none) _ _ _)];rw[bc<|yO VR V<|cr ?_];intro C;have t:bb [av] [] b {b with heap:=bw.update av (jG (·.push f)),toks:=jr}:=bK.heap (λa k l i=>(sm _ _ λe=>l<|hG.mpr e.symm).trans<|iR a k i) C.1;rw[aj _ t ⟨m+1,(U (nP _ VR (by rw[(U (QS ..) ?_)];rfl))<|(U (QS ..) ?_))⟩];rfl
def dF(g:ea)(x:Nat)(s:cq)(O:dA)(an:Inv)(y:b_)(i:bJ)(jb:bj->Inv->Prop):Prop:=∀(p:Env)(r L ay:List aE)(aa:Nat)(b:au),eW x s->p.scope=O->cx g p r L ay aa->bG g p r L aa y b->an.At g p r L b->∀A:aF->au->Prop,(∀a4 as z d1 da eZ,jb z d1->gV an p r L da L d1 b as->cx g p da L ay eZ->bG g p da L eZ y as->d1.At g p da L as->ck as.heap da z a4->A a4 as)->Y g.prog g.w s (ee i p) A b
theorem gV.rI(t:bb [] [] b as):gV an p r L r L an b as:=⟨λu c=>c,λu c=>.inl c,λu c=>.inl c,λu c=>.inl c,λu c=>.inl c,t.mono aR aR⟩
theorem dF.afg(c:ai g x O y i m z)(aT:m≠.ls:=by decide):dF g x s O an y i (λh5 bZ=>h5=z/\bZ=an):=λp r L ay aa b ao G I n T A aj=>(c.hA aT) s p r L ay aa ao G I b A n λa4 as t q=>aj a4 as z an r aa ⟨V,V⟩ (gV.rI t) I (n.grow t) (T.it t aR aR) q
theorem gV.inside(t:bb (cc p) [] b as):gV an p r L r L an b as:=⟨λu c=>c,λu c=>.inl c,λu c=>.inl c,λu c=>.inl c,λu c=>.inl c,t.mono (λa l=>b7<|bR l) aR⟩
namespace b'
theorem wL(bq:dF g x s O an y i jb)(R:ln O f=ag)(c:∀z d1,jb z d1->b' g x s O d1 ((f,.f z)::y) b0 b1)(sL:t7 i=ag:=by rfl):b' g x s O an y (.Assign [.Name f d'] i ax::b0) b1:=next λp r L ay aa b ao G I n T=>by rw[d8 ?_];intro eg;rw[Y.eq (E0 (hs:=t8 sL) ..)<|dH<|Y.bind<|bq p r L ay aa b ao G I n T _ λa4 as z d1 da eZ aI dJ hM dd gA q=>dH<|Y.bind<|sF (a:=be) hM dd q (G▸R) λar a7 dD=>Y.pure ⟨V,(RL _ d1 da L eZ (dJ.trans<|gV.inside a7) hM dD (gA.off hM a7 λa l=>.inr l)<|c z d1 aI)⟩]
theorem B8(bq:dF g x s O an y i jb)(ak:t7 i=ag)(c:∀z d1,jb z d1->z=.none/\b' g x s O d1 y b0 b1):b' g x s O an y (.Expr i ax::b0) b1:=next λp r L ay aa b ao G I n T=>by
 rw[d8 ?_];intro eg;have p3:yI p=be:=by unfold yI;rwa[U I.1];rfl
 rw[(IJ (hi:=p3) (hs:=t8 ak)).symm▸dH (Y.bind<|bq p r L ay aa b ao G I n T _ λa4 as z d1 da eZ aI dJ hM dd gA q=>c0 (c z d1 aI) λfw ap=>?_)];obtain rfl:=fw;subst q;have np:EV i ax .none=dB .next:=by unfold EV;cases i<;>rfl
 rw[np.symm▸Y.pure ⟨V,(RL y d1 da L eZ dJ hM dd gA ap)⟩]
end b'
theorem ai.raw(aI:gj y f=W (.f<|.raw h))(R:hL O f=ag):ai g x O y (.Name f ax) .cH (.raw h):=ai.name aI R
theorem dF.SO(aM:eF ah)(aI:gj y f=W (.f<|.raw<|.ref av))(R:hL O f=ag)(lK:∀p r L b,an.At (bh ah) p r L b->(nC av aJ).At (bh ah) p r L b):dF (bh ah) x s O an y (.Attribute (.Name f d') "append" ax) (λz bZ=>bZ=an/\∃S,z=.hA [(S,s5 av)] (.ref S)):=λp r L ay aa b ao G I n T A aj=>by rw[Y.bind<|(ai.raw aI R) s p r L ay aa ao G I b _ n λa4 as aK gb=>?_];have DD:ck as.heap r (.raw<|.ref av) a4:=gb;subst DD;rw[dH ?_];have dd:=n.grow aK;have gA:=T.it aK aR aR;rw[fb (lK _ _ _ _ gA).1 λc7 cB u=>fW cB λN m aL ap=>dR<|aep (by have:=ao.2;show s.depth+90<1000;rw[ct (.t (.a .x<|.n 90)<|.n 1000) [.l (.a .x .y)<|.n 900] Z this]) (aM.sub dd.2) aL c7 λar a7 bk=>ev<|Y.pure<|aj _ ar (.hA [(Ų (ű (Q7 as)),s5 av)]<|.ref as.heap.objs.size) an r aa ⟨V,_,V⟩ (gV.rI<|aK.trans a7) I (dd.grow a7) (gA.it a7 aR aR)<|⟨V,λe aY=>(bg aY).symm▸⟨λC=>ia _<|cg (I.8 _ C) dd.1,bk⟩⟩]
section
variable{g:ea}{p:Env}{r L:List aE}{b w:au}{an xY AE:Inv}{av:aE}{aJ b8:List bj}
inductive Ht(g:ea)(an:Inv)(av:aE)(aJ:List bj)(bZ:Inv)(VS:List bj):Prop|mk(f2:∀p r L b,an.At g p r L b->(nC av aJ).At g p r L b)(f3:∀p r L b w,an.At g p r L b->bb [av] [] b w->(nC av VS).At g p r L w->bZ.At g p r L w)(gw:bZ.W=an.W)(j_:bZ.G=an.G)(lL:av∈an.W):Ht g an av aJ bZ VS
theorem Inv.At.chg(c:an.At g p r L b)(t:bb [av] [] b w)(c7:av∈r)(rx:av∉an.W):an.At g p r L w:=c.it t (λa l=>bg l▸⟨c7,rx⟩) aR
theorem aer(af:av∉xY.W)(am:av∉AE.W):Ht g (xY.both<|(nC av aJ).both AE) av aJ (xY.both<|(nC av b8).both AE) b8:=⟨(λp r L b c=>c.snd.fst),(λp r L b w c t X=>(c.fst.chg t (c.snd.fst.2 av bB).1 af).both<|X.both<|c.snd.snd.chg t (c.snd.fst.2 av bB).1 am),(V),(V),(bR<|b7 bB)⟩
theorem aes(af:av∉xY.W)(am:av∉AE.W):Ht g (xY.both<|AE.both<|nC av aJ) av aJ (xY.both<|AE.both<|nC av b8) b8:=⟨(λp r L b c=>c.snd.snd),(λp r L b w c t X=>(c.fst.chg t (c.snd.snd.2 av bB).1 af).both<|(c.snd.fst.chg t (c.snd.snd.2 av bB).1 am).both X),(V),(V),(bR<|bR bB)⟩
theorem aet(ak:az.all dS=ag)(c:nk ſ v s [] [] p M az al)(G:M b)(cl:t0 [] [] M)(bk:∀b,M b->b.heap.get? S=W k)(aL:k.cls=.type "builtin_function_or_method")(bl:k.data=.fields bn)(aA:∀aV w,bb [] [] b w->al w aV->Y ſ v s (eS (.ref S) aV []) A w):Y ſ v s (qV ax (.ref S) [] (kp Cn<|j1 az p) []) A b:=by
 unfold qV;rw[ph ?_];intro p6;rw[dR<|zw ak c G λaV as aK cW=>dH<|U (zv ak ..)<|U (y4 ..)<|U (tk ..) ?_];have aT:Y ſ v s (tp<|.ref S) (λm w=>m=.machine/\w=as) as:=by unfold tp;rw[dC<|Bf (bk as<|cl _ _ G aK)<|U bl<|aL.symm▸Y.pure ⟨V,V⟩]
 rw[hy aT<|su<|hy (aA aV _ aK cW) λq ar ap=>dC<|kK<|pS<|Y.pure ap]
def AF(y:b_):Prop:=∀f z,¬fm y f (.b z)
noncomputable def Hu(y:b_):Bool:=y.all λn=>match n.2 with|.b cR=>be|_=>ag
theorem AH(c:Hu y=ag):AF y:=λf z e=>by generalize G:Slot.b z=bz at e;induction e with|here=>subst G;unfold Hu at c;rw[on,ir]at c;rw[iJ c.1]|there _ _ aW=>unfold Hu at c;rw[on,ir]at c;rw[aW c.2 G]
theorem bG.FA(n:bG g p r L aa y b)(cz:AF y)(cC:∀C∈cL,C∈r)(aL:∀C∈cL,C∉cc p)(hk:∀C∈cL,C∉L)(t:bb cL aD b w)(l:gU g w):bG g p r L aa y w:=by rw[jh n.3 λcS al af am a'=>⟨a5 n.1 t.2,l,cS,al.keeps λa l k i=>t.1 a k (λe=>aL a e l) i,λf bz R=>bt (af f bz R) λz aQ q=>⟨z,aQ,q.own cC (λe h i df=>?_) λa k l i=>t.1 a k l i⟩,am,a'⟩];cases bz with|f aG=>rw[e]|o aG=>rw[fK (am f aG R) λgi kb cP u=>?_];replace cP:=i▸aQ▸cP;cases cP;rw[hk _ df kb]|b aG=>rw[cz f aG R]
theorem aeu(aa:Nat)(r:List aE)(b:au)(a4:aF)(cC:∀h∈r,h<aa)(c7:av∈r)(c:fB aa r .fr z b a4):ck b.heap r z a4/\∀h,a4=.ref h->av<=h:=⟨c.cH cC bf,λh aS=>by rw[fK c λa i l u=>?_];replace i:=aS▸i;cases i;rw[mB<|cg (cC av c7) l]⟩
theorem VT(q:ck c r (.hA [(a,c9 f)]<|.ref a) a4):ck c r (.oH f) a4:=by obtain⟨rfl,e⟩:=q;have:=e _ bB;rw[(sq a V this.1 this.2)]
theorem aev(l:av<=a)(aa:Nat)(r:List aE)(b:au)(a4:aF)(_:∀h∈r,h<aa)(_:av∈r)(c:fB aa r .cH (.hA [(a,c9 f)]<|.ref a) b a4):ck b.heap r (.oH f) a4/\∀h,a4=.ref h->av<=h:=⟨VT c,λh aS=>by have:=c.1;replace this:=aS▸this;cases this;rw[l]⟩
theorem al.SR(aI:gj y f=W (.f<|.hA [(a,c9<|br aq)]<|.ref a):=by rfl)(R:hL O f=ag:=by cbv):ai g x O y (.Name f ax) .cH (ha aq):=λs p r L ay aa ao G I=>((ai.name aI R) s p r L ay aa ao G I).to λb a4 c=>VT c
theorem dF.SS(aM:eF ah)(cz:AF y)(i2:Ht (bh ah) an av aJ bZ<|aJ++[z])(aI:gj y f=W (.f<|.hA [(S,s5 av)]<|.ref S))(R:hL O f=ag)(bq:ai (bh ah) x O y i m h5)(aQ:∀(aa:Nat)(r:List aE)b a4,(∀h∈r,h<aa)->av∈r->fB aa r m h5 b a4->ck b.heap r z a4/\∀h,a4=.ref h->av<=h)(ae:gu aJ<=cy)(ak:dS i=ag:=by rfl):dF (bh ah) x s O an y (.Call (.Name f d') [i] [] ax) (λaG d1=>aG=.none/\d1=bZ):=λp r L ay aa b ao G I n T A aj=>by
 subst G
 .rw[Y.bind<|(ai.name aI R) s p r L ay aa ao V I b _ n λa4 as aK gb=>c0 gb λcB bk=>U cB ?_];have lX:=bk (S,s5 av) bB;have dd:=n.grow aK;have gA:=T.it aK aR aR;rwa[aet (M:=λD=>bG (bh ah) p r L aa y D/\Ű (Q7 D) S=W (s5 av)/\an.At (bh ah) p r L D) (by simp[ak]) (Dh ak<|dk.weak (bq s p r L ay aa ao V I) λD e=>e.1) ⟨dd,lX.2,gA⟩ (λD fp e t=>⟨e.1.grow t,t.all _ _ e.2.1,e.2.2.it t aR aR⟩) (λD e=>e.2.1) V V];rintro aV ar a7 gS;rw[bt gS λNC gT ND=>U gT<|c0 (aQ aa r _ _ I.8 (((i2.1 _ _ _ _ gA).2 av bB).1) ND) λND iB=>?_];have dD:=dd.grow a7;have ip:=gA.it a7 aR aR;have aw:=i2.1 _ _ _ _ ip;rw[fb aw.1 λc7 hK U'=>fW hK λN m aL ap=>?_];have cp:N.size=gu aJ:=by simpa using ap.length
  have oI:=aw.2 av bB;rw[aeq (by have:=ao.2;show s.depth+90<1000;rw[ct (.t (.a .x<|.n 90)<|.n 1000) [.l (.a .x .y)<|.n 900] Z this]) (aM.sub dD.2) (a7.all _ _ lX.2) aL c7 (cp▸ae) λco b4 Hv=>c1 Hv λfN Hv=>?_];have NE:(aB ah.2)<=av:=by
   rw[hp (oI.2.2.2.1) (λe=>?_) λe=>?_]
   .exfalso;rcases l1.mp e with e|e<;>(rw[e]at c7;rw[absurd c7 bf])
   .rw[e]
  have fZ:∀a k,a∉r->Ű (Q7 ar) a=W k->Ű (Q7 co) a=W k/\a∉r:=λa k l i=>⟨b4.1 a k (λe=>l<|bg e▸oI.1) i,l⟩;have ł:(nC av<|aJ++[z]).At (bh ah) p r L co:=by
   rw[⟨⟨c7,⟨N.push NC,fN,Hv,?_⟩,λex o i=>?_⟩,λa l=>?_,aR⟩]
   .rw[U BY<|b9.append ?_<|b9.to fZ _ _ ap];rw[⟨NC,[],V,ck.to fZ _ _ ND,by rw[V]⟩]
   .have bH:=Hv.symm.trans i;have cm:ex=N.push NC:=by have:=congrArg Obj.data<|ek bH;simp only[l4,Ru]at this;rw[this.1.symm]
    rw[U cm<|BY.symm▸?_];intro aG dX h aS;rw[bS dX (λe=>?_) λe=>?_]
    .rw[U' _ _ aL aG e h aS]
    .rw[bg e]at aS;rw[iB h aS]
   .rw[kO (aw.2 a l) λdO d5 eb e9 f_=>⟨dO,d5,eb,e9,cg f_ b4.2⟩]
  rw[aj .none co .none bZ r aa ⟨V,V⟩ ⟨λu c=>c,λu c=>.inl c,λu c=>.inl c,λu c=>.inl<|i2.3▸c,λu c=>.inl<|i2.4▸c,(((aK.trans a7).mono aR aR).trans<|b4.mono (λa l=>bR<|bg l▸i2.5) aR)⟩ I (dD.FA cz (λC ae=>(bg ae).symm▸oI.1) (λC ae=>bg ae▸oI.2.2.1) (λC ae=>bg ae▸oI.2.1) b4<|dD.2.to b4 λC ae=>bg ae▸NE) (i2.2 _ _ _ _ _ ip b4 ł)<|V]
end
noncomputable def Hw:List Nat:=[1,0,0,0,1,0,0,0,1,0,0,0,0,1,2]
theorem aew(h x i o t ab:Nat)(oE:Sem Bool):lu 30 (jy ab) o t (yQ (.ref h) "toints" oE) (λD=>⟨[(h,kj x i),(i,l2)],0,D,Hw,[],[]⟩) (λu=>(.ref 1945,[.ref h])) (λC=>(C.bq,C.objs,C.m)) (λu=>([],[(h,kj x i),(i,l2)],0)):=λa v D=>by cases a<;>cbv
theorem VU(h x i o t ab:Nat)(oE:Sem Bool):lu 30 (jy ab) o t (yQ (.ref h) "extend" oE) (λD=>⟨[(h,kj x i),(i,l2)],0,D,Hw,[],[]⟩) (λu=>(.ref 1924,[.ref h])) (λC=>(C.bq,C.objs,C.m)) (λu=>([],[(h,kj x i),(i,l2)],0)):=λa v D=>by cases a<;>cbv
theorem aex(h x i o t ab:Nat)(oE:Sem Bool):lu 30 (jy ab) o t (yQ (.ref h) "getbits" oE) (λD=>⟨[(h,kj x i),(i,l2)],0,D,Hw,[],[]⟩) (λu=>(.ref 1938,[.ref h])) (λC=>(C.bq,C.objs,C.m)) (λu=>([],[(h,kj x i),(i,l2)],0)):=λa v D=>by cases a<;>cbv
theorem Hx(ae:∀(h x i o t ab:Nat)(oE:Sem Bool),lu 30 (jy ab) o t (yQ (.ref h) nm oE) (λD=>⟨[(h,kj x i),(i,l2)],0,D,Hw,[],[]⟩) (λu=>(J,[.ref h])) (λC=>(C.bq,C.objs,C.m)) λu=>([],[(h,kj x i),(i,l2)],0))(ap:s.depth+90<f6)(G:Sub (e6 (ų v) ab) b.heap)(aL:b.heap.get? h=W (kj x i))(Ab:b.heap.get? i=W l2)(gx:1998<=i)(aj:∀w,bb [] [] b w->A (J,[.ref h]) w):Y aU v s (yQ (.ref h) nm oE) A b:=by
 have c_:h≠i:=λe=>by replace aL:=Ab▸e▸aL;cases aL
 have ls:∀n∈[(h,kj x i),(i,l2)],n=(h,kj x i)\/n=(i,l2):=λn aO=>(fT.mp aO).imp id λe=>bg e;rw[Y.of (v0 (ae h x i b.heap.objs.size b.gens.size ab oE) ap (fk.start G (λn aO=>by rcases ls n aO with rfl|rfl<;>assumption) (by simp[c_]) λn aO k dh m2 ft=>by
  rcases ls n aO with rfl|rfl
  .have bH:=G h k dh m2 ft;replace bH:=aL▸bH;cases bH;rw[VA h k _ m2 ft V]
  .rw[b2 (uF (rX (ž:=λu=>mZ) m2 ft).2.2) gx]) λeR w iW I=>?_)];simp only[q5]at I;rw[fb I λnB jY pG=>?_];rw[c0 (NB iW nB (λn aO=>by
  replace aO:=jY▸aO;rcases ls n aO with rfl|rfl
  .rw[.inl aL]
  .rw[.inl Ab])) λiR C=>?_];rw[aj w<|Keeps.SM iR C]
theorem dF.afq(aM:eF ah)(cz:nz y)(aI:gj y f=W (.f<|.buf<|br<|gM a6))(R:hL O f=ag)(ae:gu a6<=2^20)(iM:(oS.endLine==ax.line)=ag:=by rfl):dF (bh ah) (x+1) s O (hQ 1944 1940) y (.Call (.Attribute (.Name f d') "toints" oS) [] [] ax) (λz bZ=>∃ed aP t dE f4,z=.raw (.ref ed)/\bZ=(hQ 1944 1940).both (xX ah.1 s.in1 ed t aP (dE::f4) [dE] ((gu a6+7)/8) 0<|oT<|jz a6)/\1998<=aP/\1998<=dE):=λp r L ay aa b ao G I n T A aj=>by
 rwa[ds (@bh _)];intro dx;rw[vq (az:=[]) V (by show 0<20;decide) V iM<|(ai.name aI R) s p r L ay aa ao G I b _ n λa4 as aK gb=>YX gb λh bU uL bN aS nn bl v2 bq lh gx=>U bN ?_];have gI:s.depth+90<recursionLimit:=by have:=ao.2;show s.depth+90<1000;rw[ct (.t (.a .x<|.n 90)<|.n 1000) [.l (.a .x<|.o .y)<|.n 900] Z this]
 have dd:=n.grow aK;rw[Hx aew gI (aM.sub dd.2) nn lh gx λar a7=>?_];have dD:=dd.grow a7;have ip:(hQ 1944 1940).At (bh ah) p r L ar:=T.it (aK.trans a7) aR aR;rwa[zF (M:=λD=>bG (bh ah) p r L aa y D/\Ű (Q7 D) h=W (kj bU uL)/\Ű (Q7 D) bU=W (c9<|br<|gM a6)/\(hQ 1944 1940).At (bh ah) p r L D) (k:=GP aU (ų ah.1) ah.4) (bp:=v1 (ų ah.1) ah.4) V (by show 0<20;decide) jo ⟨dD,a7.all _ _ nn,a7.all _ _ v2,ip⟩ (λD e=>aM.sub e.1.2 _ _ _ (VL ..) V) V (λD fp e t=>⟨e.1.grow t,t.all _ _ e.2.1,t.all _ _ e.2.2.1,e.2.2.2.it t aR aR⟩)];rintro aV co b4 rfl;have i8:=dD.grow b4;have nD:(hQ 1944 1940).At (bh ah) p r L co:=ip.it b4 aR aR;rw[c0 nD.1 λNF cB=>c1 cB λc3 bC=>aeo (bo:=s.in1) aM ao I i8 aS (b4.all _ _<|a7.all _ _ nn) bq (b4.all _ _<|a7.all _ _ lh) gx bl (b4.all _ _<|a7.all _ _ v2) bC ao.1 (by have:=ao.2;show s.depth<=900;rw[ct (.l .x<|.n 900) [.l (.a .x<|.o .y)<|.n 900] Z this]) ae λed aP t dE f4 lq eB cv bH cm eO hu rG xr vD qs eL sG lU i3 DN oG=>?_];subst lU;have r0:=nD.2 1940 bB;have dZ:∀a∈[aP,dE],(aB co)<=a/\a<(aB cv):=λa l=>by
  revert a;rwa[hg ?_]
  .rw[⟨cm,rG⟩]
  .intro a l;rw[bg l,];rw[⟨eO,xr⟩]
 have qA:bG (bh ah) p ([aP,dE]++r) L (aB cv) y cv:=i8.Bs cz (λC ae=>by rw[bg ae,];rw[r0.1]) (λC ae=>by rw[bg ae,];rw[r0.2.2.1]) eL (i8.2.SJ (.inl<|l1.mpr<|.inr V) eL bC sG) λa l=>(dZ a l).1;have ht:(aB ah.2)<=(aB co):=i8.2.1.2;have k5:=I.up (c':=(aB co)) i8.1;have xZ:∀a∈r,a<(aB co):=λa l=>k5.8 a l;have bV:∀a∈[aP,dE],a∈[aP,dE]++r/\a∉L/\a∉cc p/\(a∈(bh ah).tabs\/(aB ah.2)<=a)/\a<(aB cv):=λa l=>⟨b7 l,λe=>b2 (xZ a (I.5 a e).1) (dZ a l).1,λe=>b2 (xZ a (I.4 a e).1) (dZ a l).1,.inr<|a5 ht (dZ a l).1,(dZ a l).2⟩;have ep:(hQ 1944 1940).At (bh ah) p ([aP,dE]++r) L cv:=by
  rw[⟨⟨λe=>?_,_,sG⟩,λa l=>?_,aR⟩]
  .rw[bS e (λe=>b2 bC.1.lt.1 (dZ _ e).1) λe=>NF e]
  .rw[U (bg l)<|⟨bR r0.1,r0.2.1,r0.2.2.1,r0.2.2.2.1,cg r0.2.2.2.2 eL.2⟩]
 have pi:(xX ah.1 s.in1 ed t aP (dE::f4) [dE] ((gu a6+7)/8) 0<|oT<|jz a6).At (bh ah) p ([aP,dE]++r) L cv:=by
  rw[⟨⟨oG,i3,λa l=>?_,λa l=>a5 (a5 aM.2 ht) (dZ a l).1⟩,bV,λj T=>?_⟩]
  .by_cases aY:a∈[aP,dE]
   .rw[⟨.inl aY,(dZ a aY).2⟩]
   .rcases fT.mp l with rfl|l
    .rw[⟨.inr λe=>bS e aY λe=>b2 (xZ _ e) bH,hu⟩]
    rcases fT.mp l with rfl|l
    .rw[absurd bB aY]
    rcases fT.mp l with rfl|l
    .rw[absurd (mt bB) aY]
    .rw[c0 (DN a l) λnB jY=>⟨.inr λe=>bS e aY λe=>nB.elim (λC=>b2 (xZ _ e) C) λC=>C e,jY⟩]
  .rw[U (bg T)<|⟨a5 i8.2.1.4 vD,qs⟩]
 have js:bb [] [] b co:=(aK.trans a7).trans b4;rw[aj _ cv (.raw<|.ref ed) _ _ _ ⟨ed,aP,t,dE,f4,V,V,a5 (a5 aM.2 ht) cm,a5 (a5 aM.2 ht) eO⟩ ⟨λa l=>bR l,λa l=>bS l (λe=>.inr<|a5 js.2 (dZ a e).1) .inl,λu c=>.inl c,λa l=>bS l .inl λe=>.inr<|a5 js.2 (dZ a e).1,λj T=>.inr ?_,?_⟩ (k5.l3 dZ ht eL.2) qA (ep.both pi)<|V]
 .have:j=t:=by
   rw[bS T (λe=>?_) λe=>?_]
   .rw[db e]
   .rw[bg e]
  rw[this,];rw[a5 js.4 vD]
 .rw[(js.mono aR aR).trans<|eL.mono (λa l=>bR l) aR]
section
variable{g:ea}{x:Nat}{O:dA}{y:b_}{p:Env}{r L ay:List aE}{aa:Nat}{s:cq}{b w:au}{f B:Str}{z:bj}{ax:Pos}{b0:List fa}{an:Inv}{b1:jU->b_->Inv->Prop}
theorem aey{fn fQ:Pos}{A:List aF->au->Prop}{ax:Pos}(aj:∀av aC w,(aB b)<=av->av<aC->aC<(aB w)->Ű (Q7 w) av=W (l4 #[] 0)->Ű (Q7 w) aC=W (l4 #[] 0)->bb [] [] b w->A [.ref av,.ref aC] w):Y g.prog g.w s (pT<|kp ax<|j1 [.List [] fn,.List [] fQ] p) A b:=by
 have VV:∀(n:Pos)(b:au)(A:aF->au->Prop),A (.ref<|aB b) {b with heap:=b.heap.push<|l4 #[] 0}->Y g.prog g.w s (ee (.List [] n) p) A b:=by intro n b A c;rw[dH<|ev<|Y.of<|jE c (by show 0<=cy;rw[eQ _])]
 rw[Y.bind<|VV fn b _<|ev<|dR<|Y.bind<|VV fQ _ _<|ev<|dR<|Y.pure<|Y.pure<|Y.pure<|aj _ _ _ (dr _) (by show(aB b)<(b.heap.push<|l4 #[] 0).objs.size;rwa[U (f' ..)];rw[kN _]) (by show(b.heap.push<|l4 #[] 0).objs.size<((b.heap.push<|l4 #[] 0).push<|l4 #[] 0).objs.size;rwa[U (f' (b.heap.push<|l4 #[] 0) ..)];rw[kN _]) (eY _<|fu _ V) (fu _ V) ?_];rw[(bK.push b _ b.toks).trans<|bK.push {b with heap:=b.heap.push<|l4 #[] 0} _ b.toks]
theorem VW(c7:1998<=av)(cC:av∈r)(af:av∉L)(am:av∉cc p)(a':(aB g.s0)<=av)(cJ:b.heap.get? av=W (l4 #[] 0)):(nC av []).At g p r L b:=⟨⟨c7,⟨#[],0,cJ,by show b9 _ _ [] [];rw[V]⟩,λN o i=>by
  have cm:N=#[]:=by have:=congrArg Obj.data<|ek<|cJ.symm.trans i;simp only[l4,Ru]at this;rw[this.1.symm]
  rw[cm.symm▸aR]⟩,λa l=>bg l▸⟨cC,af,am,.inr a',dK cJ⟩,aR⟩
namespace b'
theorem afs{fn fQ iC i_ sR nR:Pos}{i5 ff:Nat}(gx:1998<=(aB g.s0))(cz:nz y)(R:ln O f=ag)(a8:ln O B=ag)(sL:∀p:Env,p.scope=O->E1 [.Tuple [.Name f fn,.Name B fQ] i5 sR] (.Tuple [.List [] iC,.List [] i_] ff nR) ax.line p=dB be)(Hs:∀p:Env,p.scope=O->Bu [.Tuple [.Name f fn,.Name B fQ] i5 sR] (.Tuple [.List [] iC,.List [] i_] ff nR) p=dB (W [f,B]))(c:∀av aC,av≠aC->av∉an.W->aC∉an.W->b' g x s O (an.both<|(nC av []).both<|nC aC []) ((f,.f<|.raw<|.ref av)::(B,.f<|.raw<|.ref aC)::y) b0 b1):b' g x s O an y (.Assign [.Tuple [.Name f fn,.Name B fQ] i5 sR] (.Tuple [.List [] iC,.List [] i_] ff nR) ax::b0) b1:=next λp r L ay aa b ao G I n T=>by
 rwa[ds (@pY _ _ _)];intro dx;rw[d8 ?_];intro eg;rw[Y.eq (Q_ ..)<|dH<|Y.eq (U (sL p G) V)<|ev ?_];rwa[ds (@Bu _ _ _)];intro dx;rw[gR bf<|Y.bind<|Y.eq (arm_eval_Tuple ..)<|dH<|Y.bind<|aey λav aC as c7 DO hl af am aK=>?_];rw[Y.of<|jE (Y.bind<|Y.eq (Hs p G ..) ?_) (by show 2<=cy;decide)];rw[ev<|Y.pure<|dC<|mv ?_];have cV:Heap.IsTuple (as.heap.push {cls:=.type "tuple",data:=.seq [fv av,fv aC].toArray}) (aB as) #[.ref av,.ref aC]:=⟨_,fu _ V,V,0,V⟩;have NG:bb [] [] as {as with heap:=as.heap.push {cls:=.type "tuple",data:=.seq [fv av,fv aC].toArray}}:=bK.push as _ as.toks;generalize hY:({as with heap:=as.heap.push {cls:=.type "tuple",data:=.seq [fv av,fv aC].toArray}}:au)=ar at NG;rw[Y.bind<|kv<|Y.of<|PG (items:=#[.ref av,.ref aC]) ao.1 (hY▸cV) λX bq C=>?_];have b4:bb [] [] ar {ar with heap:=X}:=bK.heap (ab:=ar.toks) (λa k u i=>bq a k (gQ<|dK i) i) C.1;generalize({ar with heap:=X}:au)=co at b4;have js:bb [] [] b co:=(aK.trans NG).trans b4;have vR:bb [] [] as co:=NG.trans b4;have ht:(aB g.s0)<=(aB b):=n.2.1.2;have en:=I.up (c':=(aB b)) n.1;have dZ:∀a∈[av,aC],(aB b)<=a/\a<(aB co):=λa l=>by
  revert a;rwa[hg ?_]
  .rw[⟨c7,cg (BF DO hl) vR.2⟩]
  .intro a l;rw[bg l,];rw[⟨mB<|mA c7 DO,cg hl vR.2⟩]
 have k5:cx g p ([av,aC]++r) L ay (aB co):=en.l3 dZ ht js.2;have xZ:∀a∈r,a<(aB b):=λa l=>en.8 a l;have qB:∀a∈[av,aC],a∉L/\a∉cc p/\a∉an.W:=λa l=>⟨λe=>b2 (xZ a (I.5 a e).1) (dZ a l).1,λe=>b2 (xZ a (I.4 a e).1) (dZ a l).1,λe=>b2 (T.2 a e).2.2.2.2 (dZ a l).1⟩;have Ń:(nC aC []).At g p ([av,aC]++r) L co:=VW (a5 (a5 gx ht) (dZ aC (by rw[mt bB])).1) (mt bB) (qB aC (by rw[mt bB])).1 (qB aC<|mt bB).2.1 (a5 ht (dZ aC<|mt bB).1)<|vR.all _ _ am;have ń:=((T.wide (λa l=>bR l) λa l=>bS l (λe=>.inr (dZ a e).1) .inl).it js aR aR).both<|(VW (a5 (a5 gx ht) c7) (by rw[bB]) (qB av<|bB).1 (qB av<|bB).2.1 (a5 ht c7)<|vR.all _ _ af).both Ń;rw[(?_:Y _ _ s (EY [tq p B,tq p f] [.ref aC,.ref av]>>=λu=>dB Flow.next) _ co)];rw[Y.bind<|dR<|sF (a:=be) k5 (n.Bs cz (cL:=[]) aR aR js (n.2.to js aR) λa l=>(dZ a l).1) (z:=.raw<|.ref aC) V (G▸a8) λcv eL qA=>dR ?_];rw[sF (a:=be) k5 qA (z:=.raw<|.ref av) V (G▸R) λuM o1 DP=>?_];have np:EY [] []=dB ():=V;rw[Y.pure<|Y.pure ⟨V,_,_,[av,aC]++r,L,_,(⟨λa l=>bR l,λa l=>bS l (λe=>.inr (dZ a e).1) .inl,λu c=>.inl c,λa l=>?_,λj T=>.inl ?_,?_⟩),k5,DP,(ń.off k5 eL λa l=>.inr l).off k5 o1 λa l=>.inr l,c av aC (gQ DO) (qB av (by rw[bB])).2.2 (qB aC<|mt bB).2.2⟩]
 .rw[bS l (λe=>.inl e) λe=>.inr (dZ a e).1]
 .rw[bS T (λe=>?_) λe=>?_]
  .rw[e]
  .rw[db e]
 .rw[((js.mono aR aR).trans<|eL.mono (λa l=>b7<|bR l) aR).trans<|o1.mono (λa l=>b7<|bR l) aR]
end b'
end
theorem AllP.map{a9 cN pH:Type}{M:cN->pH->Prop}{E:List a9}{J:a9->cN}{t:a9->pH}(c:∀h∈E,M (J h)<|t h):AllP M (E.map J) (E.map t):=by rw[⟨by simp,λj f B R a8=>?_⟩];rw[eX]at R a8;cases i:E[j]? with|none=>replace R:=i▸R;rw[dN R]|some h=>rw[i]at R a8;cases R;cases a8;rw[c h<|j3 i]
theorem AllP.gn{pH:Type}{M:bj->pH->Prop}{h x:Int}{o:Nat}{t:Nat->pH}(c:∀j,j<o->M (.int<|h+j*x) (t j)):AllP M ((ij h x o).map .int) ((cZ o).map t):=by have:(Lake.ij h x o).map bj.int=(cZ o).map λ(j:Nat)=>bj.int (h+j*x):=ho ..;rw[U this<|AllP.map λj T=>c j<|lb.mp T]
theorem aez(dQ:List Int)(J:Int->List Int):(dQ.map λv=>(J v).map bj.int).flatten=(dQ.flatMap J).map bj.int:=by induction dQ with|nil=>rfl|cons v dQ aW=>rw[U hU<|U kr<|U aW<|U nO<|U jg V]
theorem o2(E:List a9)(J:a9->bj):(E.map λh=>[J h]).flatten=E.map J:=by induction E with|nil=>rfl|cons v dQ aW=>rw[U hU<|U kr<|U aW ?_];rfl
noncomputable def nE(o:Nat):List bj:=(cZ o).map λ(j:Nat)=>bj.int j
theorem al.range(o:qm g){f:Str}{S:Nat}{e:Pos}{iP:Bool}(c:cI g x O y i S)(ae:S<2^62)(R:fe O "range"=ag:=by cbv)(ak:dS i=ag:=by rfl):fj g x O y iP (.Name f d') (.Call (.Name "range" e) [i] [] ax) (nE S):=by rw[bL ((show(ij 0 1 ..).map bj.int=nE ..from(by simp[ij,nE])))<|al.q_ o c ae R ak]
theorem zP.one{cn iK dT:bJ}{a2:dA}{a9:Type}{E:List a9}{o3 uN:a9->bj}(bE:fj g x O y be cn iK<|E.map o3)(c:∀h∈E,mT ag (ey a2 O) cn (o3 h)/\ai g x (ey a2 O) (k0 cn (o3 h)<|gK (ey a2 O) y) dT .cH (uN h))(ae:gu E<=cy)(jO:n3 a2 O=ag:=by cbv)(fr:qn cn (gK (ey a2 O) y)=ag:=by cbv)(bi:∀p f,sb iK p f=dB f:=by intros;rfl):zP g x O y dT ⟨cn,iK,[],0⟩ [] a2 ax (E.map o3) (E.map λh=>[uN h]):=⟨⟨jO,V,eQ _,λcd e=>(dN e),bi,AllP.map λh aS=>⟨(c h aS).1,CY fr,jS.one V V (c h aS).2⟩,by rwa[U (o2 ..)<|U (dg ..)];rw[ae]⟩,bE⟩
theorem al.comp{cn iK dT:bJ}{a2:dA}{a9:Type}{E:List a9}{o3 uN:a9->bj}(o:qm g)(bE:fj g x O y be cn iK<|E.map o3)(c:∀h∈E,mT ag (ey a2 O) cn (o3 h)/\ai g x (ey a2 O) (k0 cn (o3 h)<|gK (ey a2 O) y) dT .cH (uN h))(ae:gu E<=cy)(jO:n3 a2 O=ag:=by cbv)(fr:qn cn (gK (ey a2 O) y)=ag:=by cbv)(bi:∀p f,sb iK p f=dB f:=by intros;rfl):ai g x O y (.ListComp dT [⟨cn,iK,[],0⟩] a2 ax) .fr (.lst<|E.map uN):=by have:=ai.comp o.ok<|zP.one (ax:=ax) bE c ae jO fr bi;rwa[o2]at this
theorem al.wO{cn iK dT:bJ}{a2:dA}{a9:Type}{E:List a9}{o3:a9->bj}{uN:a9->Int}(o:qm g)(bE:fj g x O y be cn iK<|E.map o3)(c:∀h∈E,mT ag (ey a2 O) cn (o3 h)/\cI g x (ey a2 O) (k0 cn (o3 h)<|gK (ey a2 O) y) dT (uN h))(ae:gu E<=cy)(jO:n3 a2 O=ag:=by cbv)(fr:qn cn (gK (ey a2 O) y)=ag:=by cbv)(bi:∀p f,sb iK p f=dB f:=by intros;rfl):ai g x O y (.ListComp dT [⟨cn,iK,[],0⟩] a2 ax) .fr (bu<|E.map uN):=by have:=al.comp (ax:=ax) o bE c ae jO fr bi;rw[U (bu.eq_1 ..)<|U ho this]
def Hy(g:ea)(f:Str)(eH:List Str)(Hz:dA)(eC:List fa):Prop:=∃h bp,g.gl f=W (.ref h)/\zW g h bp eC/\bp.scope=Hz/\∀b aV,gu aV=gu eH->sd b bp ⟨aV,[]⟩ (eH.zip aV)
theorem al.call(aA:g.Ok)(bi:Hy g f eH Hz eC)(aS:hO g (x+1) O y az bT)(jP:bd g x Hz [] (lT eH bT []) eC λc2 u=>c2=.ret p9)(aw:gu bT=gu eH:=by rfl)(R:fe O f=ag:=by cbv)(aL:eH.all (ln Hz)=ag:=by cbv)(xm:gu az<20:=by decide):ai g (x+1) O y (.Call (.Name f d') az [] ax) .cH p9:=by rw[FH bi λh bp aI G cB l=>?_];obtain rfl:=cB;rw[ai.call aA aI R G aS aw l aL jP xm]
section
section
variable{g:ea}{x:Nat}{O:dA}{y:b_}{p:Env}{r L ay:List aE}{aa:Nat}{s:cq}{b:au}{f:Str}{z:bj}{a4:aF}{i:bJ}{ax d':Pos}{an bZ:Inv}{jb:bj->Inv->Prop}{J:aF}
theorem dF.SW(aA:g.Ok)(aI:g.gl f=W J)(R:fe O f=ag)(bi:Cm J=ag)(ak:dS i=ag)(bq:dF g x s O an y i jb)(ro:∀(p:Env)(r L ay:List aE)(aa:Nat)(b:au)z d1 a4,jb z d1->cx g p r L ay aa->bG g p r L aa y b->d1.At g p r L b->ck b.heap r z a4->∀A:aF->au->Prop,(∀o0 ar h5,AI h5 d1->bb [] [] b ar->ck ar.heap r h5 o0->A o0 ar)->Y g.prog g.w s (eS J [a4] []) A b):dF g x s O an y (.Call (.Name f d') [i] [] ax) AI:=λp r L ay aa b ao G I n T A aj=>by
 have iz:=G▸R
 .rw[Y.bind<|sz (a_:=[]) (aD:=[]) (h3 aA I aI iz) (w7 iz) b _ n λa4 as aK lW=>U lW<|zx (lN:=[]) (M:=λD=>D=as) (a_:=L++cc p++an.W) (aD:=an.G) (al:=λD aV=>∃a4 z d1 da eZ,aV=[a4]/\jb z d1/\gV an p r L da L d1 as D/\cx g p da L ay eZ/\bG g p da L eZ y D/\d1.At g p da L D/\ck D.heap da z a4) bi (by simp[ak]) ?_ V ?_]
  .rintro D A ax rfl rT;rw[U (kV ak)<|(Y.bind<|bq p r L ay aa D ao G I (n.grow aK) (T.it aK aR aR) _ λa4 ar z d1 da eZ af am a' cJ ez gD=>ev<|dR<|Y.pure<|Y.pure<|rT _ _ am.6<|RM a4 z d1 da eZ V af am a' cJ ez gD)]
  .rintro aV ar _ eh;rw[FJ eh λa4 z d1 da eZ fd af am a' cJ ez gD=>U fd<|ro p da L ay eZ ar z d1 a4 af a' cJ ez gD _ λo0 co h5 fM b4 q=>aj o0 co h5 d1 da eZ fM (((gV.rI aK).trans am).trans<|gV.rI b4) a' (cJ.grow b4) (ez.it b4 aR aR) q]
theorem dF.afw{jb:List Int->Inv->Prop}(av:aE)(aA:g.Ok)(aI:g.gl "bytearray"=W (.type "bytearray"))(c7:∀aq bZ p r L b,jb aq bZ->bZ.At g p r L b->av∈r)(bq:dF g x s O an y i λz bZ=>∃aq,z=bu aq/\jb aq bZ/\fI aq/\gu aq<=cy)(R:fe O "bytearray"=ag:=by cbv)(ak:dS i=ag:=by rfl):dF g x s O an y (.Call (.Name "bytearray" d') [i] [] ax) (λh5 bZ=>∃aq a,h5=.hA [(a,c9<|br aq)] (.ref a)/\av<=a/\jb aq bZ):=by
 rwa[dF.SW aA aI R V ak bq];rintro p r L ay aa b z d1 a4 gS I n T q A aj;rw[jh gS λaq gT af l ae=>?_];obtain rfl:=gT;rw[jH (ck.iw q) λh N o hK fM ap=>U hK<|c0 (ai.EP l ap) λdm el=>?_];have cp:gu N.toList=gu aq:=by have:=ap.length;simpa using this
 rw[Sl ⟨_,fM,V,o,V⟩ dm (cp▸ae) λX S=>?_];replace S:=el▸S;rw[aj _ _ (.hA [(b.heap.objs.size,c9<|br aq)]<|.ref b.heap.objs.size) ⟨aq,_,V,mB<|cg (I.8 _<|c7 _ _ _ _ _ _ af T) n.1,af⟩ S.grow<|⟨V,λe aY=>U (bg aY)<|⟨λe=>ia _<|cg (I.8 _ e) n.1,S.1⟩⟩]
end
variable{x:Nat}{O:dA}{y:b_}{s:cq}{a1 cw:Inv}{ed aP dE t S Q o:Nat}{f4:List aE}{J:Nat->Int}{f:Str}{i:bJ}{a2:dA}{dm el mS uh rw Av uI uJ uK ax:Pos}{iR:Nat}
theorem dF.words(aM:eF ah)(cz:nz y)(aI:gj y f=W (.f<|.raw<|.ref ed))(R:hL O f=ag)(bq:cI (bh ah) x O y i o)(bk:Q+o<=S)(ae:o<=2^20)(VX:∀a∈[aP,dE],a∉a1.W/\a∉cw.W)(VY:t∉a1.G/\t∉cw.G)(MD:fe O "range"=ag)(ME:fe O "zip"=ag)(ak:dS i=ag)(lp:n3 a2 O=ag)(bV:(a2.names.lookup ("word":Str)==W .local&&a2.names.lookup ("k":Str)==W .local)=ag)(fA:([("k":Str),("word":Str)].all<|qh ag<|ey a2 O)=ag)(AJ:hL (ey a2 O) "word"=ag)(nq:gK (ey a2 O) y=[]):dF (bh ah) x s O ((a1.both<|xX ah.1 s.in1 ed t aP (dE::f4) [dE] S Q<|oT J).both cw) y (.ListComp (.Name "word" dm) [⟨.Tuple [.Name "k" el,.Name "word" mS] iR uh,.Call (.Name "zip" rw) [.Call (.Name "range" Av) [i] [] uI,.Name f uJ] [] ax,[],0⟩] a2 uK) (λz bZ=>z=bu ((cZ o).map λj=>J<|Q+j)/\bZ=(a1.both<|xX ah.1 s.in1 ed t aP (dE::f4) [dE] S (Q+o)<|oT J).both cw):=λp r L ay aa b ao G I n T A aj=>by
 rwa[ds (@YS _ _ _ _)];intro dx;subst G;have lP:=T.fst.snd;have DQ:=T.fst.fst.both T.snd;rw[lG lP.1 λoG i3 jT qd=>?_];have aA:=iV aM;have g7:=n.now;have en:=I.up n.1;have NH:∀a∈[aP,dE],a∈r/\(aB ah.2)<=a/\a∉cc p:=λa l=>by rw[kO (lP.2 a l) λdO d5 eb e9 f_=>⟨dO,e9.elim (λe=>?_) id,eb⟩];have:=qd a l;rcases l1.mp e with rfl|rfl<;>rw[absurd this bf]
 have NI:∀a∈(a1.both cw).W,a∈r:=λa l=>(DQ.2 a l).1;rwa[Uu (x:=x) (ky:=[aP,dE]) (ll:=[t]) (lm:=λD=>jW aU ah.1 s.in1 ed t aP (dE::f4) [dE] S (oT J) (Q+o) D) (bv:=(cZ o).map λ(j:Nat)=>.tup [.int j,.int<|J<|Q+j]) (dU:=(cZ o).map λj=>[.int<|J<|Q+j]) aA ⟨lp,V,eQ _,λcd e=>(dN e),λu u=>V,?_,by rw[U (o2 ..)<|U (dg ..)<|U mE ?_];rw[a5 ae bf]⟩ cz ?_ NH (λj gc=>?_) ao I n DQ]
 .rw[AllP.map λj gc=>⟨⟨["k","word"],V,V,fA⟩,?_,qv.of<|jS.one V V<|ai.name ?_ AJ⟩]
  .rw[U nq λB bz e=>nomatch e]
  .rw[U nq ?_];rfl
 .rw[acl (x:=x) (ay:=ay) (y:=y) (M:=λD=>bG (bh ah) p r L (aB b) y D/\b.gens.size<=D.gens.size/\bb [] [] b D) aA ao en (λD e=>⟨e.1,oG.frame i3 e.2.2 (λu e=>db e) λe=>(db e),cg (lP.3 t bB).2 e.2.1,λa l=>cg (jT a l).2 e.2.2.2⟩) (λD fp e cd=>⟨e.1.grow cd,a5 e.2.1 cd.4,e.2.2.trans cd⟩) (dk.weak (eP bq ao V en) λD e=>e.1) (λD A e aj=>(ai.raw (x:=x) aI R) s p r L ay (aB b) ao V en D A e.1 λa4 fp cd q=>aj a4 fp cd ?_) Aq (by cbv) MD ME ak (bM (.t .x<|.n 4611686018427387904) [.l .x<|.n 1048576] Z ae) bk i3 (λa l e=>?_) λa l=>en.8 a<|NI a l]
  .have gG:ck fp.heap r (.raw<|.ref ed) a4:=q;rw[gG]
  .rw[hp ((jT a l).1) (λC=>bS e (VX a C).1 (VX a C).2) λC=>C<|NI a e]
 .rw[U (bg gc)<|⟨(lP.3 t bB).1,λe=>bS e VY.1 VY.2⟩]
 .intro x0 DR w lX gz qp xO rC zS i9 Ņ VZ ej;rw[c1 lX λqa lX=>⟨qa,lX,λX dy=>?_⟩];have d0:bb [x0] [] w {w with heap:=X}:=bK.same dy;have l0:bb ([aP,dE]++(a1.both cw).W) ([t]++(a1.both cw).G) b {w with heap:=X}:=gz.hj d0 (λa l=>.inr<|bg l▸fY qp) λu e=>db e;have sE:∀a∈[aP,dE]++(a1.both cw).W,a∈r/\a∉cc p:=λa l=>bS l (λe=>⟨(NH a e).1,(NH a e).2.2⟩) λe=>⟨(DQ.2 a e).1,(DQ.2 a e).2.2.1⟩;have NJ:gU (bh ah) {w with heap:=X}:=ej.to d0 λC ae=>bg ae▸a5 n.2.1.2 qp;have NK:x0∉r:=λe=>b2 (en.8 _ e) qp;have V0:(a1.both cw).At (bh ah) p r L {w with heap:=X}:=by have dm:=Ņ (x0::r) (λa l=>mt l) λa l=>dw l (λe=>e▸bB) λe=>mt<|mt e;have el:=dm.it d0 (λa l=>(bg l).symm▸⟨bB,λC=>NK<|NI _ C⟩) λu e=>db e;rw[el.narrow DQ (λa l=>mt l) l0.2]
  have ņ:∀a∈ed::aP::dE::f4,a≠x0:=λa l e=>b2 (jT a l).2<|e▸qp;have Ň:(xX ah.1 s.in1 ed t aP (dE::f4) [dE] S (Q+o)<|oT J).At (bh ah) p r L {w with heap:=X}:=⟨⟨VZ.frame i3 d0 (λa l e=>ņ a e<|bg l) λe=>db e,i3,λa l=>⟨(jT a l).1,cg (jT a l).2 l0.2⟩,qd⟩,λa l=>kO (lP.2 a l) λdO d5 eb e9 f_=>⟨dO,d5,eb,e9,cg f_ l0.2⟩,λj gc=>⟨(lP.3 j gc).1,cg (lP.3 j gc).2 l0.4⟩⟩;rwa[aj (.ref DR) _ (bu<|(cZ o).map λj=>J<|Q+j) ((a1.both<|xX ah.1 s.in1 ed t aP (dE::f4) [dE] S (Q+o)<|oT J).both cw) r aa ⟨V,V⟩ ⟨λu c=>c,λu c=>.inl c,λu c=>.inl c,λu c=>.inl c,λu c=>.inl c,l0.mono (λa l=>bR ?_) λj gc=>?_⟩ I (n.yT cz (λC ae=>(sE C ae).1) (λC ae=>(sE C ae).2) l0 NJ) ((V0.fst.both Ň).both V0.snd)]
  .rw[bS l (λe=>b7<|bR e) λe=>bS e (λe=>b7<|b7 e) λe=>bR e]
  .rw[hp (jf.mp gc) (λe=>b7<|bR e) λe=>bS e (λe=>b7<|b7 e) λe=>bR e]
  .have xa:DR∉r:=λe=>b2 (en.8 _ e) xO;have:=((i9.obj (ib<|ib rC) dy).sub λB a8=>mt a8).rep xa;rw[o2]at this;rw[((U ho this):ck X r (.lst<|((cZ o).map λj=>J<|Q+j).map bj.int) _)]
end
theorem aeA:∀(h a:Nat),(h|||a)=(h^^^a)+(h&&&a):=by intro h;induction h using Je with|ind h aW=>
  intro a;by_cases c:h=0
  .subst c;simp
  have j:=aW (h/2) (fE 3 (.t .x .y) [.t (.n 0) .y,.l (.m 2 .x) .y] Z (P3 c)<|p2 _ 2)<|a/2;have HA:(h|||a)/2=h/2|||a/2:=Nat.or_div_two;have P:(h^^^a)/2=h/2^^^a/2:=Nat.xor_div_two;have d5:(h&&&a)/2=h/2&&&a/2:=Nat.and_div_two;have wQ:(h|||a)%2=h%2|||a%2:=Nat.or_mod_two_pow (n:=1);have ň:(h^^^a)%2=h%2^^^a%2:=Nat.xor_mod_two_pow (n:=1);have ŉ:(h&&&a)%2=h%2&&&a%2:=Nat.and_mod_two_pow (n:=1);have cK:(h%2|||a%2)=(h%2^^^a%2)+(h%2&&&a%2):=by have af:=BG h;have am:=BG a;rcases af with i|i<;>rcases am with cP|cP<;>rw[U i (U cP ?_)]<;>rfl
  rw[bL (wx (h|||a) 2)<|bL (wx (h^^^a) 2)<|bL (wx (h&&&a) 2) ?_];rw[U HA<|U P<|U d5<|U wQ<|U ň<|U ŉ<|U j<|U cK<|U (Nat.mul_add ..) ?_];rw[Nat.add_add_add_comm ..]
theorem NL(h:Nat):wG (h:Int)=-(h:Int)-1:=by unfold wG;rfl
theorem DS(h a:Nat):lc (h:Int) (a:Int)=((h^^^a:Nat):Int):=by
 have Ŋ:wF (h:Int) (a:Int)=((h&&&a:Nat):Int):=by
  unfold wF;have af:decide (0<=(h:Int))=ag:=by rfl
  have am:decide (0<=(a:Int))=ag:=by assumption
  rwa[U af<|U am];rfl
 have ŋ:QJ (h:Int) (a:Int)=((h|||a:Nat):Int):=by
  unfold QJ wF;rwa[U (NL ..)<|U (NL ..)];have af:decide (0<=-(h:Int)-1)=be:=by simp;rw[bM (.b2 (.g<|.c .x)<|.n 1) [] Z]
  have am:decide (0<=-(a:Int)-1)=be:=by simp;lia
  rw[af.symm▸am.symm▸?_]
  dsimp only;have bH:wG (-(h:Int)-1)=h:=by unfold wG;rw[bM (.e0 (.s (.g<|.s (.g<|.c .x)<|.n 1)<|.n 1)<|.c .x) [] Z]
  have cm:wG (-(a:Int)-1)=a:=by unfold wG;rw[bM (.e0 (.s (.g<|.s (.g<|.c .x)<|.n 1)<|.n 1)<|.c .x) [] Z]
  rw[U bH<|U cm<|U (NL ..) ?_];simp only[hF];unfold wG;rw[bM (.e0 (.s (.g<|.s (.g<|.c .x)<|.n 1)<|.n 1)<|.c .x) [] Z]
 unfold lc;rw[U Ŋ<|U ŋ<|U (aeA h a)<|ct (.e0 (.s (.c<|.a .x .y)<|.c .y)<|.c .x) [] Z]
theorem V1(aS:0<=h/\h<2^o)(l:0<=a/\a<2^o):0<=lc h a/\lc h a<2^o:=by rw[c1 (BC aS.1) λf bN=>?_];obtain rfl:=bN;rw[c1 (BC l.1) λB cB=>?_];obtain rfl:=cB;rwa[U (DS ..)];have:=Jl (x:=f) (y:=B) (n:=o) (by exact_mod_cast aS.2) (by exact_mod_cast l.2);rw[⟨by rw[gP _],by exact_mod_cast this⟩]
section
noncomputable def oe(t:List Int)(m:Nat)(kk:Int):Nat->List Int->List Int|0,c4=>c4|o+1,c4=>(oe t m kk o c4).set (m+o+1)<|lc ((oe t m kk o c4).getD (m+o+1) 0)<|oU.getD (om (kk+t.getD o 0)) 0
theorem aeB:oe t m kk (o+1) c4=(oe t m kk o c4).set (m+o+1) (lc ((oe t m kk o c4).getD (m+o+1) 0)<|oU.getD (om (kk+t.getD o 0)) 0):=rfl
def uO(t:List Int)(c4:List Int)(m:Nat):List Int:=if c4.getD m 0=0 then c4 else oe t m (n9.getD (om (c4.getD m 0)) 0) (gu t) c4
def pI(t aq:List Int)(m:Nat):List Int:=(cZ m).foldl (uO t)<|aq++bX (gu t) 0
def pJ(t aq:List Int):List Int:=(pI t aq (gu aq)).drop (gu aq)
def DT(t:List Int):Prop:=∀f∈t,0<=f/\f<255
theorem NM:(n9.all λf=>decide (0<=f)&&decide (f<255))=ag/\n9.length=256:=ji
theorem NN:(oU.all λf=>decide (0<=f)&&decide (f<256))=ag/\oU.length=510:=by decide+kernel
theorem HB{E:List Int}{a:Int}(l:0<a)(c:(E.all λf=>decide (0<=f)&&decide (f<a))=ag)(j:Nat):0<=E.getD j 0/\E.getD j 0<a:=by rw[(dG).symm▸?_];cases i:E[j]? with|none=>rw[⟨I8 _,l⟩]|some f=>have:=hH.mp c f<|j3 i;simpa using this
theorem V2(j:Nat):0<=oU.getD j 0/\oU.getD j 0<256:=HB bf NN.1 j
theorem aeC{t:List Int}(c:DT t)(j:Nat):0<=t.getD j 0/\t.getD j 0<255:=by rw[HB bf (hH.mpr λf R=>?_) j];have:=c f R;simpa using this
theorem NO{E:List Int}(c:fI E)(j:Nat):0<=E.getD j 0/\E.getD j 0<256:=by rw[HB bf (hH.mpr λf R=>?_) j];have:=c f R;simpa using this
theorem aeD(c:fI E)(R:0<=f/\f<256)(j:Nat):fI (E.set j f):=λv bV=>by
 rw[hp (Fq bV) (λe=>?_) λe=>?_]
 .rw[c v e]
 .rw[U e R]
theorem NP:∀(o:Nat){c4:List Int},fI c4->fI (oe t m kk o c4)/\gu (oe t m kk o c4)=gu c4|0,c4,c=>⟨c,V⟩|o+1,c4,c=>by rw[c0 (NP o c) λaf am=>⟨aeD af (V1 (o:=8) (NO af _)<|V2 _) _,by rw[U u'<|U am V]⟩]
theorem aeE(c:fI c4):fI (uO t c4 m)/\gu (uO t c4 m)=gu c4:=by
 unfold uO;split
 .rw[⟨c,V⟩]
 .rw[NP _ c]
theorem NQ(t aq:List Int)(m:Nat):pI t aq (m+1)=uO t (pI t aq m) m:=by unfold pI;rwa[U JB<|U y5];rfl
theorem NR(c:fI aq):∀m,fI (pI t aq m)/\gu (pI t aq m)=gu aq+gu t
 |0=>by
  unfold pI;rw[⟨λv bV=>bS bV (λe=>?_) λe=>?_,by simp⟩]
  .rw[c v e]
  .rw[U (tC e) ?_];decide|m+1=>by rw[c0 (NR c m) λaf am=>U (NQ ..)<|c0 (aeE af) λa' cJ=>⟨a',cJ.trans am⟩]
section
variable{g:ea}{x:Nat}{O:dA}{y:b_}{s:cq}{i:bJ}{ax e:Pos}{o:Nat}{an:Inv}
noncomputable def DV(o:Nat)(D aG z:Tok):Obj:={cls:=.type "range",data:=.fields #[.int 0 D,.int o aG,.int 1 z]}
theorem dF.range(gE:qm g)(c:cI g x O y i o)(R:fe O "range"=ag:=by cbv)(ak:dS i=ag:=by rfl):dF g x s O an y (.Call (.Name "range" e) [i] [] ax) (λz bZ=>bZ=an/\∃q D aG v,z=.hA [(q,DV o D aG v)] (.ref q)):=λp r L ay aa b ao G I n T A aj=>by
 subst G;have Mj:dk g.prog g.w s [] [] p (bG g p r L aa y) (.Call (.Name "range" e) [i] [] ax) (λb a4=>∃q D aG v,a4=.ref q/\q∉r/\b.heap.get? q=W (DV o D aG v)):=by rw[lj I.ok (h3 gE.ok I gE.range R) V (hZ ak I.ok (eP c ao V I) (iL _) jo) ?_ (by simp[ak])];rintro b aV n cB A aj;rw[d7 cB λu u dt eh fd=>?_];obtain rfl:=dt;obtain⟨D,rfl⟩:=eh;obtain rfl:=fd;rw[Y.of<|EQ<|aj _ _ (bK.new _ _ b _ _) ⟨_,_,_,_,V,λe=>ia _<|cg (I.8 _ e) n.1,fu _ V⟩]
 rw[Mj b _ n λa4 as t e=>Ka e λq D aG v bH ap aL=>?_];subst bH;rw[aj _ as (.hA [(q,DV o D aG v)]<|.ref q) an r aa ⟨V,q,D,aG,v,V⟩ (gV.rI t) I (n.grow t) (T.it t aR aR)<|⟨V,λn aO=>bg aO▸⟨ap,aL⟩⟩]
theorem fj.afI(aI:gj y f=W (.f<|.hA [(q,DV o D aG z)]<|.ref q))(R:hL O f=ag)(ae:o<2^62):fj g x O y iP (.Name B d') (.Name f e) ((ij 0 1 o).map .int):=fj.yi λs p r L ay aa ao G I=>((ai.name aI R) s p r L ay aa ao G I).to λb a4 aQ=>by obtain⟨rfl,c⟩:=aQ;obtain⟨af,am⟩:=c _ bB;have d4:=F5 o;rw[⟨q,o,D,aG,z,V,af,am,ER bf bf (gP _) (by exact_mod_cast ae),d4⟩]
end
end
theorem NS(m f:Nat):fy (m+1) f=kh (fy m f):=rfl
theorem aeF(c:f<256):kh f<256:=by have:((cZ 256).all λf=>decide<|kh f<256)=ag:=ji;simpa using hH.mp this f<|lb.mpr c
theorem v4(R:f<256)(a8:B<256):f^^^B<256:=Jl (n:=8) R a8
theorem aeG:∀(B f:Nat),f<256->B<256->kh (f^^^B)=kh f^^^kh B:=by intro B;induction B using Je with|ind B aW=>
  intro f R a8;by_cases aM:B=0
  .rw[U aM ?_];simp[kh]
  have bC:=hH.mp (show((cZ 256).all λB=>B==0||(cZ 8).any λQ=>decide<|B^^^2^Q<B)=ag from(by decide+kernel)) B<|lb.mpr a8;rw[EG]at bC;rcases bC with bC|bC
  .rw[absurd (eq_of_beq bC) aM]
  rw[bt (Qh.mp bC) λQ cu cG=>?_];have cG:=of_decide_eq_true cG;have DW:=λC(ae:C<256)=>eq_of_beq<|hH.mp (hH.mp (show((cZ 8).all λQ=>(cZ 256).all λf=>kh (f^^^2^Q)==kh f^^^kh (2^Q))=ag from ji) Q cu) C<|lb.mpr ae;have kZ:=BF cG a8;have i:B=(B^^^2^Q)^^^2^Q:=U (ty ..)<|U (Fh ..)<|U (BH ..) V
  calc kh (f^^^B)=kh ((f^^^(B^^^2^Q))^^^2^Q):=by rw[U (ty ..)<|bL i V]
   _=kh (f^^^(B^^^2^Q))^^^kh (2^Q):=DW _<|v4 R kZ
   _=(kh f^^^kh (B^^^2^Q))^^^kh (2^Q):=U (aW _ cG f R kZ) V
   _=kh f^^^kh ((B^^^2^Q)^^^2^Q):=U (DW _ kZ)<|U (ty ..) V
   _=kh f^^^kh B:=bL i V
theorem HC(c:f<256)(m):fy m f<256:=by induction m with|zero=>rw[c]|succ m a3=>rw[aeF<|a3]
theorem HD(m):fy m 0=0:=by induction m with|zero=>rw[V]|succ m a3=>rwa[U (NS ..)<|U (a3)];rfl
theorem V3(R:f<256)(a8:B<256)(m):fy m (f^^^B)=fy m f^^^fy m B:=by induction m with|zero=>rw[V]|succ m a3=>rw[U (NS ..)<|U (a3)<|U (aeG _ _ (HC R m)<|HC a8 m) ?_];rfl
theorem NT(Q:Nat)(f:Nat)(m):fy m (fy Q f)=fy (Q+m) f:=by induction m with|zero=>rw[V]|succ m a3=>rwa[U (NS ..)<|U (a3)];rfl
theorem aeH(Q m f:Nat):fy Q (fy m f)=fy m (fy Q f):=U (NT ..)<|U (NT ..)<|U (tx ..) V
def et(E:List Nat):Prop:=∀f∈E,f<256
noncomputable def gf:List Nat->List Nat->List Nat|f::aJ,B::b8=>(B^^^f)::gf aJ b8|[],b8=>b8|cR::e3,[]=>[]
theorem s6(f:Nat)(aJ:List Nat)(B:Nat)(b8:List Nat):gf (f::aJ) (B::b8)=(B^^^f)::gf aJ b8:=rfl
theorem V4:∀(aG E:List Nat),gu (gf aG E)=gu E:=by intro fc;induction fc with|nil=>intro E;cases E<;>rfl|cons f aJ a3=>intro eV;cases eV with|nil=>rw[V]|cons B b8=>simp[s6,a3 b8]
theorem aeI:∀{aG E:List Nat},et aG->et E->et (gf aG E):=by intro fc;induction fc with
 |nil=>intro E eM c;cases E<;>rw[c]|cons f aJ a3=>intro eV;cases eV with
  |nil=>intro eM hq;rw[aR]|cons B b8=>
   intro dX aw;rw[λC ae=>by
    revert C;rwa[hg ?_]
    .rw[v4 (aw B bB)<|dX f bB]
    .intro C ae;rw[a3 (λe aY=>dX e<|mt aY) (λe aY=>aw e<|mt aY) C ae]]
def d0(t:List Nat)(g:Nat):List Nat:=t.map λQ=>fy Q g
theorem v5(c:g<256):et (d0 t g):=λf R=>by rw[mL R λQ u bN=>bL bN<|HC c Q]
def m3(t:List Nat):List Nat->List Nat|[]=>[]|g::E=>gf (d0 t g) E
theorem HE(t:List Nat)(g:Nat)(E:List Nat):m3 t (g::E)=gf (d0 t g) E:=rfl
def hc(t:List Nat):Nat->List Nat->List Nat|0,E=>E|o+1,E=>hc t o<|m3 t E
theorem DX(t:List Nat)(E:List Nat)(o:Nat):hc t (o+1) E=hc t o (m3 t E):=rfl
def hR(t aq:List Nat):List Nat:=hc t (gu aq)<|aq++bX (gu t) 0
theorem HF(c:et E):et (m3 t E):=by cases E with|nil=>rw[aR]|cons g E=>rw[aeI (v5<|c g bB) λe aY=>c e<|mt aY]
theorem HG(t E:List Nat):gu (m3 t E)=gu E-1:=by cases E with|nil=>rfl|cons g E=>simp[HE,V4]
theorem NU(o:Nat):∀{E:List Nat},et E->et (hc t o E):=by induction o with|zero=>intro fl c;rw[c]|succ o a3=>intro fl c;rw[a3<|HF c]
theorem HH(t:List Nat)(o:Nat):∀(E:List Nat),gu (hc t o E)=gu E-o:=by induction o with|zero=>intro E;rw[V]|succ o a3=>intro E;rw[U (DX ..)<|U (a3 ..)<|U (HG ..)<|(iv (o)<|gu E-1).elim (λer=>(iv ((o)+1)<|gu E).elim (λg0=>rg 10101011 1010101 (.e .x .y) [.l .z<|.a .x .w,.l .u<|.a .y<|.o .w,.l .u<|.a .z<|.n 1,.e (.a .x .w) .z,.e (.a .y<|.o .w) .u,.e (.a .z<|.n 1) .u] Z (ef _ _) (ef _ _) (ef _ _) (dM er) (dM g0)<|dM<|ct (.l (.n 1) .x) [.l (.o .y) .x] Z g0) λg0=>(iv 1<|gu E).elim (λx1=>rg 101001 10111 (.e .x .y) [.l .z<|.o .w,.e (.a .x .w) .u,.e .y<|.n 0,.e (.a .u<|.n 1) .z] Z g0 (dM er) (jl g0)<|dM x1) λx1=>kU 10101 1011 (.e .x .y) [.l .x .z,.e .y<|.n 0,.e .z<|.n 0] Z (jF _ _) (jl g0)<|jl x1) λer=>nj 101 1011 (.e .x .y) [.e .x<|.n 0,.e .y<|.n 0] Z (jl er)<|jl<|eA (.l .x<|.o .y) [.l .z .y,.l .x<|.a .z<|.n 1] Z er<|ef _ _]
theorem pK(t aq:List Nat):gu (hR t aq)=gu t:=by unfold hR;rwa[U (HH ..)];simp
theorem m4(o:Nat):et (bX o 0):=λf R=>by rwa[U (tC R)];decide
theorem og(aS:et h)(l:et a):et (h++a):=λf R=>bS R (aS f)<|l f
theorem NV(c:et aq):et (hR t aq):=NU _<|og c<|m4 _
def HI(g:Nat):Prop:=g=0\/∃m,g=fy m 1
noncomputable def g2:List Nat->List Nat->List Nat|f::aJ,B::b8=>(f^^^B)::g2 aJ b8|cR,e3=>[]
theorem o4(f:Nat)(aJ:List Nat)(B:Nat)(b8:List Nat):g2 (f::aJ) (B::b8)=(f^^^B)::g2 aJ b8:=rfl
theorem NW:∀{h a:List Nat},gu h=gu a->gu (g2 h a)=gu h|[],[],cR=>V|cR::e3,[],c=>nomatch c|[],cR::e3,c=>nomatch c|f::aJ,B::b8,c=>by simp[o4,NW (by simpa using c)]
theorem V5:∀{h a:List Nat},et h->et a->et (g2 h a):=by intro fc;induction fc with
 |nil=>intro a eM hq;cases a<;>rw[aR]|cons f aJ a3=>intro eV;cases eV with
  |nil=>intro eM hq;rw[aR]|cons B b8=>
   intro aS l;rw[λC ae=>by
    revert C;rwa[hg ?_]
    .rw[v4 (aS f bB)<|l B bB]
    .intro C ae;rw[a3 (λe aY=>aS e<|mt aY) (λe aY=>l e<|mt aY) C ae]]
theorem HJ:∀{h a g x:List Nat},gu h=gu a->g2 (h++g) (a++x)=g2 h a++g2 g x|[],[],cR,e3,ur=>V|cR::e3,[],ur,C7,c=>by rw[nomatch c]|[],cR::e3,ur,C7,c=>by rw[nomatch c]|f::aJ,B::b8,g,x,c=>by simp[o4,HJ (a:=b8) (by simpa using c)]
theorem DY(h:List Nat):g2 h (bX (gu h) 0)=h:=by induction h with|nil=>rw[V]|cons f aJ a3=>simp[l',o4,a3]
theorem aeJ(h a g x:Nat):(h^^^a)^^^(g^^^x)=(h^^^g)^^^(a^^^x):=by rw[U (ty ..)<|bL (ty a ..)<|U (Jm a g)<|U (ty g ..)<|bL (ty ..) V]
theorem aeK:∀(aG z h a:List Nat),gu aG=gu z->gu h=gu a->gf (g2 aG z) (g2 h a)=g2 (gf aG h) (gf z a):=by intro aG;induction aG with
 |nil=>intro z h a c e3;cases z with
  |nil=>cases h<;>cases a<;>rfl|cons _ _=>rw[nomatch c]
 |cons f aG aW=>intro z h a c X;cases z with
  |nil=>rw[nomatch c]|cons B z=>cases h with
   |nil=>cases a with|nil=>rfl|cons _ _=>rw[nomatch X]
   |cons n h=>cases a with
    |nil=>rw[nomatch X]|cons e a=>simp only[o4,s6];rw[U (aW z h a (q6 c)<|q6 X)<|U (aeJ ..) V]
theorem V6(aA:g<256)(bl:x<256):d0 t (g^^^x)=g2 (d0 t g) (d0 t x):=by induction t with|nil=>rfl|cons Q t aW=>rw[((U (V3 aA bl ..)<|U aW V):fy Q (g^^^x)::d0 t (g^^^x)=(fy Q g^^^fy Q x)::g2 (d0 t g) (d0 t x))]
theorem aeL(aS:et h)(l:et a)(c:gu h=gu a):m3 t (g2 h a)=g2 (m3 t h) (m3 t a):=by cases h with
 |nil=>cases a with|nil=>rfl|cons=>rw[nomatch c]
 |cons f h=>cases a with
  |nil=>rw[nomatch c]|cons B a=>rw[((U (V6 (aS f bB)<|l B bB)<|U (aeK _ _ _ _ (by simp[d0]) (by simpa using c)) V):gf (d0 t<|f^^^B) (g2 h a)=g2 (gf (d0 t f) h) (gf (d0 t B) a))]
theorem HK(o:Nat):∀{h a:List Nat},et h->et a->gu h=gu a->hc t o (g2 h a)=g2 (hc t o h) (hc t o a):=by induction o with|zero=>intro fl eM hq n0 D0;rw[V]|succ o a3=>intro h a aS l c;rw[U (DX ..)<|U (aeL aS l c)<|U (a3 (HF aS) (HF l)<|U (HG ..)<|U (HG ..)<|U c V) ?_];rfl
theorem NX(t:List Nat):d0 t 0=bX (gu t) 0:=by induction t with|nil=>rfl|cons Q t aW=>show fy Q 0::d0 t 0=_;rwa[U (HD ..)<|U aW];rfl
theorem V7(o:Nat):∀(E:List Nat),gf (bX o 0) E=E:=by induction o with|zero=>intro E;cases E<;>rfl|succ o a3=>intro eV;cases eV with|nil=>rw[V]|cons f E=>simp[l',s6,a3 E]
theorem AK(o:Nat)(E:List Nat)(Q):hc t (Q+o) (bX Q 0++E)=hc t o E:=by induction Q with|zero=>simp|succ Q a3=>rw[U (by rw[ct (.e (.a (.o .x) .y)<|.o<|.a .x .y) [] Z]:Q+1+o=(Q+o)+1)<|U (DX ..)<|U l'<|U u5<|U (HE ..)<|U (NX ..)<|U (V7 ..)<|U (a3) V]
theorem aeM(aG:List Nat):∀(S:Nat),gf aG (bX (gu aG+S) 0)=aG++bX S 0:=by induction aG with|nil=>intro S;simp;cases S<;>rfl|cons f aG a3=>intro S;rw[U gt<|U (by rw[ct (.e (.a (.o .x) .y)<|.o<|.a .x .y) [] Z]:gu aG+1+S=(gu aG+S)+1)<|U l'<|U (s6 ..)<|U (a3 S) ?_];simp
theorem V8:∀(z E C:List Nat),gu z<=gu E->gf z (E++C)=gf z E++C:=by intro fc;induction fc with|nil=>intro E C hq;cases E<;>cases C<;>rfl|cons f z a3=>intro eV;cases eV with|nil=>intro eM c;simp at c|cons B E=>intro C c;rw[U u5<|U (s6 ..)<|U (s6 ..)<|U (a3 E C (by simpa using c)) ?_];rfl
def v6(t:List Nat):Nat->List Nat->List Nat|0,aG=>aG|S+1,aG=>v6 t S<|m3 t<|aG++[0]
theorem V9(t aG:List Nat)(S:Nat):v6 t (S+1) aG=v6 t S (m3 t<|aG++[0]):=rfl
theorem V_(aI:0<gu t)(S:Nat):∀(aG:List Nat),gu aG=gu t->hc t S (aG++bX S 0)=v6 t S aG:=by induction S with
 |zero=>intro aG eM;rw[tB ..]|succ S a3=>
  intro aG dX;rw[kP (by cases aG with
   |nil=>rw[y8]at dX;lia|cons g kY=>rw[(kR g kY V)]:∃g kY,aG=g::kY) λg kY bN=>?_];obtain rfl:=bN;rwa[U (DX ..)<|U (V9 ..)];have i:m3 t (g::kY++bX (S+1) 0)=m3 t (g::kY++[0])++bX S 0:=by rw[((bL (V8 _ _ _ (by replace dX:=gt▸dX;simp[d0,<-dX]))<|U (mD ..) ?_):gf (d0 t g) (kY++bX (S+1) 0)=gf (d0 t g) (kY++[0])++bX S 0)];rfl
  rw[U i<|U (a3 _ (by rwa[U (HG ..)];simp at dX⊢;omega)) V]
theorem V':∀{aG E:List Nat},et aG->et E->gf (aG.map<|fy m) (E.map<|fy m)=(gf aG E).map (fy m)|[],E,cR,e3=>by cases E<;>rfl|cR::e3,[],ur,C7=>V|f::aG,B::E,dX,aw=>by have:=V' (m:=m) (λe aY=>dX e<|mt aY) λe aY=>aw e<|mt aY;simp only[hU,s6,this,V3 (aw B bB)<|dX f bB]
theorem NY:d0 t (fy m g)=(d0 t g).map (fy m):=by unfold d0;rw[U ho<|pa λQ u=>aeH Q m g]
theorem aeO(aw:et E):m3 t (E.map<|fy m)=(m3 t E).map (fy m):=by cases E with|nil=>rfl|cons g E=>rw[((U NY<|((V' (v5<|aw g bB) λe aY=>aw e<|mt aY).symm)▸V):gf (d0 t<|fy m g) (E.map<|fy m)=(gf (d0 t g) E).map (fy m))]
theorem aeP(S:Nat):∀{aG:List Nat},et aG->v6 t S (aG.map<|fy m)=(v6 t S aG).map (fy m):=by induction S with
 |zero=>intro fl eM;rw[V]|succ S a3=>
  intro aG dX;have i:aG.map (fy m)++[0]=(aG++[0]).map (fy m):=by simp[HD]
  rw[U (V9 ..)<|U i<|U (aeO (E:=aG++[0])<|og dX<|m4 1)<|U (a3<|HF (E:=aG++[0])<|og dX<|m4 1) ?_];rfl
noncomputable def d2(E:List Nat):List Int:=E.map λ(o:Nat)=>(o:Int)
theorem HL(E:List Nat)(j:Nat):(d2 E).getD j 0=((E.getD j 0:Nat):Int):=by unfold d2;rw[U (dG)<|(dG).symm▸(eX).symm▸?_];cases E[j]?<;>rfl
theorem AM(c:et E)(j:Nat):E.getD j 0<256:=by rwa[U (dG)];cases i:E[j]? with|none=>decide|some f=>rw[c f<|j3 i]
theorem Wa(c:f<256)(aM:f≠0):∃m:Nat,m<255/\n9.getD f 0=m/\fy m 1=f:=by
 have:=hH.mp (show((cZ 256).all λf=>f==0||(decide (0<=n9.getD f 0)&&decide (n9.getD f 0<255)&&fy (om (n9.getD f 0)) 1==f))=ag from ji) f<|lb.mpr c;rw[EG]at this;rcases this with e|e
 .rw[absurd (eq_of_beq e) aM]
 .simp only[ir,decide_eq_true_eq]at e;obtain⟨⟨dm,el⟩,mS⟩:=e;rw[(sq (om (n9.getD f 0)) ((Int.toNat_lt dm).mpr el) (RX 101 1011 (.e0 .x<|.c .x) [.cN .x<|.c .x,.e0 (.c .x) .x] Z (mK _)<|pg dm)<|eq_of_beq mS)]
theorem Wb:(oU.getD 0 0==1&&(cZ 509).all λj=>oU.getD (j+1) 0==((kh (om (oU.getD j 0)):Nat):Int))=ag:=by decide+kernel
theorem aeQ(j):j<510->oU.getD j 0=((fy j 1:Nat):Int):=by induction j with|zero=>intro fl;have:=(kJ.mp Wb).1;rw[eq_of_beq this]|succ j a3=>intro c;have:=hH.mp (kJ.mp Wb).2 j<|lb.mpr<|bM (.t .x<|.n 509) [.t (.o .x)<|.n 510] Z c;rw[U (eq_of_beq this)<|U (a3<|mB c)<|U (hF ..) ?_];rfl
def pL(t:List Nat)(m g:Nat):Nat->List Nat->List Nat|0,c4=>c4|o+1,c4=>(pL t m g o c4).set (m+o+1)<|(pL t m g o c4).getD (m+o+1) 0^^^fy (t.getD o 0) g
theorem Wc(t:List Nat)(m g:Nat)(c4:List Nat)(o:Nat):pL t m g (o+1) c4=(pL t m g o c4).set (m+o+1) ((pL t m g o c4).getD (m+o+1) 0^^^fy (t.getD o 0) g):=rfl
theorem aeR(aA:g<256)(o:Nat):∀{c4:List Nat},et c4->et (pL t m g o c4):=by induction o with|zero=>intro fl c;rw[c]|succ o a3=>
  intro c4 c;rw[λf R=>by
   rw[hp (Fq R) (λe=>?_) λe=>?_]
   .rw[a3 c f e]
   .rw[U e<|v4 (AM (a3 c) _)<|HC aA _]]
theorem aeS(E:List Nat)(j f:Nat):d2 (E.set j f)=(d2 E).set j (f:Int):=by unfold d2;rw[U y7 V]
theorem aeT(aA:g<256)(D1:g≠0)(aI:∀Q∈t,Q<255)(Ō:kk=n9.getD g 0)(o:Nat):∀{c4:List Nat},et c4->oe (d2 t) m kk o (d2 c4)=d2 (pL t m g o c4):=by induction o with|zero=>intro fl eM;rw[V]|succ o a3=>
  intro c4 c;rw[fK (Wa aA D1) λE aw i cP=>U aeB<|U (a3 c)<|U (Wc ..)<|U (aeS ..)<|U (HL ..)<|U (HL ..)<|U Ō<|U i ?_];have nr:t.getD o 0<255:=by rwa[U (dG)];cases e:t[o]? with
   |none=>decide|some f=>rw[aI f<|j3 e]
  have af:om ((E:Int)+((t.getD o 0:Nat)))=E+t.getD o 0:=kU 1011 101 (.e .x<|.a .y .z) [.cN (.a (.c .y)<|.c .z)<|.c .x,.e0 (.c .x)<|.a (.c .y)<|.c .z] Z (mK _)<|pg<|ct (.cN (.n 0)<|.a (.c .x)<|.c .y) [] Z;rw[U af<|U (aeQ _ (by rw[ct (.t (.a .x .y)<|.n 510) [.t .x<|.n 255,.t .y<|.n 255] Z aw nr]))<|U (DS ..)<|bL (NT ..)<|U cP V]
theorem aeU(o:Nat):∀(c4:List Nat),pL t m 0 o c4=c4:=by induction o with|zero=>intro fl;rw[V]|succ o a3=>
  intro c4;rw[U (Wc ..)<|U (a3 c4)<|U (HD ..)<|U (BH ..) ?_];apply wD;intro j;rwa[U (Jw)];split
  .rename_i c;subst c;split
   .rename_i c;rwa[U (dG)<|U (eT c)];rfl
   .rename_i c;rw[U (o_ (by rw[eA (.l .x<|.o<|.a .y .z) [.i5 (.o<|.a .y .z) .x] Z c])) V]
  .rfl
theorem aeV(aI:∀Q∈t,Q<255)(c:et c4):uO (d2 t) (d2 c4) m=d2 (pL t m (c4.getD m 0) (gu t) c4):=by
 unfold uO;rwa[U (HL ..)];by_cases aM:c4.getD m 0=0
 .rw[U (if_pos (by rw[FP 101 0 (.e0 (.c .x)<|.n 0) [.e .x<|.n 0] Z aM]))<|U aM<|U (aeU ..) V]
 .rw[U (if_neg (by rw[bM (.m8 (.c .x)<|.n 0) [.t (.n 0) .x] Z<|P3 aM]))<|U (hF ..)<|U (by rw[dg ..]:gu (d2 t)=gu t)<|U (aeT (AM c m) aM aI V (gu t) c) V]
theorem aeW:∀(aG E:List Nat)(S:Nat),S<gu aG->gf (aG.take<|S+1) E=(gf (aG.take S) E).set S ((gf (aG.take S) E).getD S 0^^^aG.getD S 0):=by intro fc;induction fc with|nil=>intro fl eM c;simp at c|cons f aG a3=>intro eV;cases eV with|nil=>intro S hq;cases S<;>rw[BK ..]|cons B E=>intro rp;cases rp with|zero=>intro hq;rfl|succ S=>intro c;have:=a3 E S (by simpa using c);simp only[Jt,s6,this,Jv,List.getD_cons_succ]
theorem Wd:∀o,o<=gu t->(pL t m g o c4).drop (m+1)=gf ((d0 t g).take o) (c4.drop<|m+1)
 |0,cR=>by rw[(?_:c4.drop (m+1)=_)];cases c4.drop (m+1)<;>rfl|o+1,c=>by
  have j:=Wd (m:=m) (g:=g) (c4:=c4) o (by rw[mB c]);rw[(U List.drop_set<|U (if_neg (by rw[ct (.i5 (.o<|.a .x .y)<|.o .x) [] Z]))<|U j<|U (aeW _ _ _ (by simp[d0];assumption)) ?_)];have bH:m+o+1-(m+1)=o:=kU 1011 101 (.e .x .y) [.l (.o<|.a .z .y)<|.a .x<|.o .z,.e (.a .x<|.o .z)<|.o<|.a .z .y] Z (ef _ _)<|dM<|ct (.l (.o .x)<|.o<|.a .x .y) [] Z;have cm:(pL t m g o c4).getD (m+o+1) 0=(gf ((d0 t g).take o)<|c4.drop<|m+1).getD o 0:=j▸(dG).symm▸(dG).symm▸(BR).symm▸((by rw[ct (.e (.a (.o .x) .y)<|.o<|.a .x .y) [] Z]:m+1+o=m+o+1).symm)▸V;have eO:fy (t.getD o 0) g=(d0 t g).getD o 0:=by rw[U (dG)<|U (dG)<|(U (eX)<|U (eT (by assumption)) ?_)];rfl
  rw[bH.symm▸cm.symm▸eO.symm▸V]
theorem aeX(t:List Nat)(o:Nat):∀(E:List Nat),hc t (o+1) E=m3 t (hc t o E):=by induction o with|zero=>intro fl;rw[V]|succ o a3=>intro E;rw[(U (a3 ..) ?_)];rfl
theorem aeY(aI:∀Q∈t,Q<255)(c:et aq)(m):m<=gu aq->∃c4,pI (d2 t) (d2 aq) m=d2 c4/\et c4/\gu c4=gu aq+gu t/\c4.drop m=hc t m (aq++bX (gu t) 0):=by induction m with
 |zero=>intro fl;rw[(tP (aq++bX (gu t) 0) (by unfold pI;simp[d2]) (og c<|m4 _) (by simp) V)]|succ m a3=>
  intro aT;rw[jh (a3<|mB aT) λc4 bH cm eO hu=>?_];have cG:m<gu c4:=lJ 211 (.t .x .y) [.l (.o .x) .z,.e .y<|.a .z .w] Z aT eO;have cp:∀o,gu (pL t m (c4.getD m 0) o c4)=gu c4:=λo=>by induction o with
   |zero=>rfl|succ o aW=>rw[(U u'<|U aW V)]
  rw[(tP (pL t m (c4.getD m 0) (gu t) c4) ?_ (aeR (AM cm m) _ cm) (U (cp ..)<|U eO V) ?_)]
  .rw[U (NQ ..)<|U bH<|U (aeV aI cm) V]
  .rw[U (Wd _<|dr _)<|U (aeX ..)<|bL hu<|U (Fo cG)<|?_];have:c4.getD m 0=c4[m]:=by rwa[U (dG)<|U (eT cG)];rfl
   rw[U this<|U (q2 (by simp[d0])) V]
theorem aeZ(aI:∀Q∈t,Q<255)(c:et aq):pJ (d2 t) (d2 aq)=d2 (hR t aq):=by rw[jh (aeY aI c (gu aq)<|dr _) λc4 bH cm eO hu=>?_];unfold pJ;rw[U (dg ..)<|bH.symm▸?_];unfold hR;rwa[bL hu];unfold d2;rw[U u9 V]
noncomputable def gB(E:List Nat):Nat:=E.foldl (λh f=>h*256+f) 0
theorem We(E:List Nat):∀(h:Nat),E.foldl (λh f=>h*256+f) h=h*256^gu E+gB E:=by induction E with|nil=>intro h;show h=h*1+0;rw[bM (.e .x<|.a (.r .x 1)<|.n 0) [] Z]|cons f E a3=>intro h;rw[((U (a3<|h*256+f)<|U (a3<|0*256+f)<|U (Fi ..)<|U (Nat.add_mul ..)<|U (y1 ..)<|U (sg ..)<|U (Nat.mul_assoc ..)<|U (si 256 ..)<|U (sh ..) V):E.foldl _ (h*256+f)=h*256^(gu E+1)+E.foldl _ (0*256+f))]
theorem r1(f:Nat)(E:List Nat):gB (f::E)=f*256^gu E+gB E:=by rw[((U (We ..)<|U (y1 ..)<|U (sg ..) V):E.foldl _ (0*256+f)=_)]
theorem D2:∀{E:List Nat},et E->gB E<256^gu E
 |[],_=>Nat.one_pos|f::E,c=>by
  rw[U (r1 ..)<|U gt<|U (Fi ..) ?_];have am:=c f bB
  calc f*256^gu E+gB E<f*256^gu E+256^gu E:=P4 (D2 λB a8=>c B<|mt a8) _
   _=(f+1)*256^gu E:=(y2 ..).symm
   _<=256*256^gu E:=BI _ am
   _=256^gu E*256:=si ..
theorem Wf(h a:List Nat):gB (h++a)=gB h*256^gu a+gB a:=by unfold gB;rwa[U y5<|U (We ..)];rfl
theorem Wg(aS:h<2^o)(l:a<2^o):(2^o*f+h)^^^(2^o*B+a)=2^o*(f^^^B)+(h^^^a):=by
 apply Nat.eq_of_testBit_eq;intro j;rw[U (Jn ..)<|U (Jo _ aS ..)<|U (Jo _ l ..)<|U (Jo _ (Jl aS l) ..) ?_];split
 .rw[U (Jn ..) V]
 .rw[U (Jn ..) V]
theorem ae0(o:Nat):(256:Nat)^o=2^(8*o):=by rw[U (show(256:Nat)=2^8 from V)<|bL (Nat.pow_mul ..) V]
theorem NZ:∀{h a:List Nat},et h->et a->gu h=gu a->gB (g2 h a)=gB h^^^gB a:=by intro fc;induction fc with
 |nil=>intro eV;cases eV with|nil=>intro eM hq n0;rw[V]|cons _ _=>intro eM hq c;rw[nomatch c]
 |cons f h a3=>intro eV;cases eV with|nil=>intro eM hq c;rw[nomatch c]|cons B a=>intro aS l c;have aw:=q6 c;have kb:et h:=λC ae=>aS C<|mt ae;have ej:et a:=λC ae=>l C<|mt ae;have af:=D2 kb;have am:=D2 ej;rw[<-aw]at am;rw[U (o4 ..)<|U (r1 ..)<|U (r1 ..)<|U (r1 ..)<|U (NW aw)<|bL aw<|U (a3 kb ej aw) ?_];rw[ae0]at af am⊢;rw[U (si ..)<|U (si f ..)<|U (si B ..)<|U (Wg af am) V]
def qC(t q:List Nat)(v:Nat):List Nat:=g2 (q.tail++[0])<|d0 t<|q.headD 0^^^v
theorem N0(c:gu q=gu t)(aI:0<gu t)(v:Nat):gu (qC t q v)=gu t:=by
 have af:gu (q.tail++[0])=gu (d0 t<|q.headD 0^^^v):=by unfold d0;rw[U e7<|U Qk<|U (dg ..)<|U Ql<|kU 10121 1011 (.e (.o .x) .y) [.e .z .y,.l .z<|.a .x<|.n 1,.e (.a .x<|.n 1) .z] Z c (ef _ _)<|dM<|fE 21 (.l (.n 1) .x) [.e .x .y,.t (.n 0) .y] Z c aI]
 unfold qC;rw[U (NW af)<|U af<|dg ..]
theorem HM(c:et q):q.headD 0<256:=by cases q with|nil=>decide|cons f q=>rw[c f bB]
theorem D3(c:et q):et (q.tail++[0]):=og (λf R=>c f<|List.mem_of_mem_tail R) λf R=>by rwa[U (bg R)];decide
theorem ae1:∀(aG z E:List Nat),gu aG=gu z+1->gu aG<=gu E->gf aG (gf z E)=gf (g2 (z++[0]) aG) E:=by intro fc;induction fc with|nil=>intro z E c n0;rw[nomatch c]|cons f aG a3=>intro eV;cases eV with
  |nil=>intro rp;cases rp with
   |nil=>intro c aw;rw[nomatch aw]|cons B E=>intro c aw;have dX:=Jy.mp<|q6 c;subst dX;rw[((U (BJ ..) ?_):(B^^^f)::E=(B^^^(0^^^f))::gf (g2 [] []) E)];rfl
  |cons C z=>intro rp;cases rp with|nil=>intro c aw;rw[nomatch aw]|cons B E=>intro c aw;rw[((U (a3 z E (q6 c)<|P5 aw)<|U (ty ..) V):((B^^^C)^^^f)::gf aG (gf z E)=(B^^^(C^^^f))::gf (g2 (z++[0]) aG) E)]
theorem ae2(q:List Nat):gf q (bX (gu q) 0)=q:=by induction q with|nil=>rw[V]|cons f q a3=>rw[U gt<|U l'<|U (s6 ..)<|U (a3)<|U (BJ ..) V]
theorem ae3(t:List Nat)(aI:0<gu t):∀(aq q:List Nat),gu q=gu t->hc t (gu aq) (gf q<|aq++bX (gu t) 0)=aq.foldl (qC t) q:=by intro fc;induction fc with|nil=>intro q ap;rw[((U (JA ..)<|bL ap<|ae2 q):gf q ([]++bX (gu t) 0)=q)]|cons v aq a3=>intro eV;cases eV with
  |nil=>intro ap;replace aI:=ap▸aI;rw[nomatch aI]|cons f q=>
   intro ap;rw[(?_:hc t (gu aq) (m3 t<|gf (f::q)<|v::(aq++bX (gu t) 0))=aq.foldl (qC t) (qC t (f::q) v))];have aw:gu (d0 t<|v^^^f)=gu q+1:=by unfold d0;rw[U (dg ..) ap.symm]
   rw[U (s6 ..)<|U (HE ..)<|U (ae1 _ _ _ aw (by rw[e7,gg];unfold d0;rw[dg,];rw[ct (.l .x<|.a .y .x) [] Z]))<|U (Jm v f)<|a3 _<|N0 ap aI v]
theorem Wh(aI:0<gu t):∀(aq q:List Nat),et aq->et q->gu q=gu t->et (aq.foldl (qC t) q)/\gu (aq.foldl (qC t) q)=gu t:=by intro fc;induction fc with|nil=>intro q eM c ap;rw[⟨c,ap⟩]|cons v aq a3=>intro q ak c ap;rw[a3 _ (λf R=>ak f<|mt R) (V5 (D3 c)<|v5<|v4 (HM c)<|ak v bB)<|N0 ap aI v]
section
section
variable{aN:Model}{s:cq}{aC:aF->au->Prop}{b:au}{bW:wI}{bE:Nat->oo}{lt:Nat->Nat->Bool}{j Q h a o S J lo x2 li pM m E jO cK l5 k6 q T:Nat}{gZ:Bool}{a9 cN pH g6 N1:Type}{st:fz}{n bs e:List Nat}{fU:Array<|Nat×Nat×Nat}
def qD(aN:Model)(s:cq)(b:au)(bW:wI)(bE:Nat->oo)(lt:Nat->Nat->Bool):Prop:=∀(j Q:Nat)(aC:aF->au->Prop)(A:Bool->au->Prop),A (lt j Q) b->ce aN s (keyLt' bW (bE j).1 (bE Q).1) A aC b
noncomputable def fS(bE:Nat->oo)(E:List Nat):Array Keyed:=(E.map bE).toArray
def hS(bW:wI)(bE:Nat->oo)(n:List Nat)(fU:Array<|Nat×Nat×Nat):SortSt:=J8 bW (fS bE n) fU 7 aX
theorem qE(E:List Nat):(fS bE E).size=gu E:=dg ..
theorem D4{E:List Nat}:(fS bE E)[j]?=E[j]?.map bE:=Qa.trans eX
theorem N2(E S:List Nat):fS bE E++fS bE S=fS bE (E++S):=by unfold fS;rw[U jg<|U (List.append_toArray ..) V]
theorem N3(E:List Nat)(f:Nat):(fS bE E).push (bE f)=fS bE (E++[f]):=N2 E [f]
theorem N4(E:List Nat)(j Q:Nat):(fS bE E).extract j Q=fS bE ((E.take Q).drop j):=by unfold fS;rw[U List.extract_toArray<|U List.extract_eq_take_drop<|U u9<|U wB<|U List.drop_take V]
theorem o5{g:Prop}[Decidable g]{D i:StateT fz Sem a9}{A:a9->fz->Prop}(c:g)(m:wpS aN s aC b D A st):wpS aN s aC b (if g then D else i) A st:=(if_pos c).symm▸m
theorem mo{g:Prop}[Decidable g]{D i:StateT fz Sem a9}{A:a9->fz->Prop}(c:¬g)(m:wpS aN s aC b i A st):wpS aN s aC b (if g then D else i) A st:=(if_neg c).symm▸m
theorem x3{A:a9->fz->Prop}{S:StateT fz Sem a9}(c:let ca:=A;wpS aN s aC b S ca st):wpS aN s aC b S A st:=c
theorem s7{J:fz->StateT fz Sem cN}{A:cN->fz->Prop}(m:wpS aN s aC b (J st) A st):wpS aN s aC b (get>>=J) A st:=lD<|wpS_get m
theorem Wi{f:String}{J:Unit->StateT fz Sem cN}{A:cN->fz->Prop}(m:wpS aN s aC b (J ()) A st):wpS aN s aC b ((liftM (rule f):StateT fz Sem Unit)>>=J) A st:=lD<|wpS_lift<|mv ⟨V,m⟩
theorem s8{J:oo->StateT fz Sem cN}{A:cN->fz->Prop}(i:n[j]?=W h)(m:wpS aN s aC b (J<|bE h) A st):wpS aN s aC b (elem' (fS bE n) j>>=J) A st:=by rw[lD<|U (elem'_eq ..)<|U D4<|U i<|f1 m]
theorem N5{A:Option Bool->fz->Prop}(aw:qD aN s b bW bE lt)(aT:kindOf st=bW)(m:A (W<|lt j Q) st):wpS aN s aC b (lt' (bE j)<|bE Q) A st:=by rw[U (lt'_eq ..)<|s7<|U aT<|lD<|wpS_lift<|uX<|aw j Q _ _ ⟨V,f1 m⟩]
theorem Wj{J:Option Bool->StateT fz Sem cN}{A:cN->fz->Prop}(aw:qD aN s b bW bE lt)(aT:kindOf st=bW)(af:lt j Q=ag->wpS aN s aC b (J<|W ag) A st)(am:lt j Q=be->wpS aN s aC b (J<|W be) A st):wpS aN s aC b (lt' (bE j) (bE Q)>>=J) A st:=by rwa[lD<|N5 aw aT];cases aA:lt j Q with|true=>rw[af aA]|false=>rw[am aA]
theorem N6{J:Option Bool->StateT fz Sem cN}{A:cN->fz->Prop}(aw:qD aN s b bW bE lt)(T:n[j]?=W h)(cu:n[Q]?=W a)(af:lt h a=ag->wpS aN s aC b (J<|W ag) A (hS bW bE n fU))(am:lt h a=be->wpS aN s aC b (J<|W be) A (hS bW bE n fU)):wpS aN s aC b (ltAt' j Q>>=J) A (hS bW bE n fU):=by rw[lD<|U (ltAt'_eq ..)<|s7<|s8 T<|s8 cu<|N5 aw V ?_];cases aA:lt h a with|true=>rw[af aA]|false=>rw[am aA]
theorem qF{eC:Nat->cN->StateT fz Sem (ForInStep cN)}{J:cN->StateT fz Sem pH}{A:pH->fz->Prop}(t:g6->cN)(fL:g6->fz)(ai:Nat->g6->Prop)(k2:N1->cN)(HN:N1->fz)(HO:N1->Prop)(D5:g6)(l:∀j f,j<T->ai j f->wpS aN s aC b (eC j<|t f) (λq kz=>match q with|.done g=>∃B,g=k2 B/\kz=HN B/\HO B|.yield g=>∃kX,g=t kX/\kz=fL kX/\ai (j+1) kX) (fL f))(aM:ai lo D5)(ud:∀f,ai (max lo T) f->∃B,t f=k2 B/\fL f=HN B/\HO B)(bi:∀B,HO B->wpS aN s aC b (J<|k2 B) A (HN B)):wpS aN s aC b (forIn [lo:T] (t D5) eC>>=J) A (fL D5):=by
 rwa[lD<|wpS_mono (wpS_forRange (I:=λj g st=>∃f,g=t f/\st=fL f/\ai j f) (Q:=λg st=>∃B,g=k2 B/\st=HN B/\HO B) ?_ ?_ ⟨D5,V,V,aM⟩)]
 .rintro j g st af am⟨f,rfl,rfl,R⟩;rw[l j f am R]
 .rintro g st⟨f,rfl,rfl,R⟩;rw[ud f R]
 .rintro g st⟨B,rfl,rfl,a8⟩;rw[bi B a8]
theorem hw{a9 cN:Type}{k:Option a9}{t:a9->Option cN}{q:cN}(c:k.bind t=W q):∃f,k=W f/\t f=W q:=I0.mp c
theorem v7{g:Bool}{h a q:a9}(c:g=ag)(e:(bif g then h else a)=q):h=q:=by subst c;rw[e]
theorem v8{g:Bool}{h a q:a9}(c:g=be)(e:(bif g then h else a)=q):a=q:=by subst c;rw[e]
theorem kl{g:Bool}{h a:Option a9}{q:a9}{aD:Prop}(e:(bif g then h else a)=W q)(af:g=ag->h=W q->aD)(am:g=be->a=W q->aD):aD:=by cases g with|true=>rw[af V e]|false=>rw[am V e]
theorem o6(c:i0 h a=ag):h<=a:=mC c
theorem qG(c:i0 h a=be):¬h<=a:=λC=>wn<|c.symm.trans<|Fe C
theorem v9{g:Bool}(c:g=be):¬g=ag:=λC=>wn<|c.symm.trans C
theorem r2(c:j<o):o-j=(o-(j+1))+1:=(Nat.succ_pred_eq_of_pos<|P6 c).symm
theorem r3(c:h<=o):o-max h o=0:=(Nat.max_eq_right c).symm▸Nat.sub_self o
noncomputable def N7(lt:Nat->Nat->Bool)(n:List Nat)(lo:Nat):Nat->Nat->Option Nat|0,o=>W o|J+1,o=>(n[lo+o]?).bind λh=>(n[lo+o-1]?).bind λa=>bif lt h a then W o else N7 lt n lo J<|o+1
def Wk(lt:Nat->Nat->Bool)(n:List Nat)(lo x2:Nat):Option Nat:=(N7 lt n lo (x2-1) 1).bind λo=>bif o==x2 then W o else(n[lo]?).bind λh=>(n[lo+o-1]?).bind λa=>bif kq 1 o then bif lt h a then W o else aX else aX
noncomputable def ae4:Nat->Nat->StateT fz Sem (Option Nat):=sortPriv%PySem.Builtin.countRun
theorem ae5{J:Option Nat->StateT fz Sem cN}{A:cN->fz->Prop}(aw:qD aN s b bW bE lt)(ak:1<=x2)(i:Wk lt n lo x2=W o)(c:wpS aN s aC b (J<|W o) A<|hS bW bE n fU):wpS aN s aC b (ae4 lo x2>>=J) A (hS bW bE n fU):=by
 obtain⟨S,bH,cm⟩:=hw i;rw[lD<|qF (λj=>(aX,j)) (λu=>hS bW bE n fU) (λj g=>g=j/\N7 lt n lo (x2-j) g=W S) (λ(_:Unit)=>(aX,S)) (λu=>hS bW bE n fU) (λu=>True) 1 (λj f am d9=>?_) ⟨V,bH⟩ (λf d9=>?_) λu u=>?_]
 .rw[x3 ?_];intro AN;have e:=d9.2;replace e:=(r2 am)▸e;obtain⟨h,aS,e⟩:=hw e;obtain⟨a,l,e⟩:=hw e;rw[N6 aw aS l (λaA=>f1 ⟨(),congrArg _<|ek<|v7 aA e,V,trivial⟩) λaA=>f1 ⟨f+1,V,V,congrArg (·+1) d9.1,v8 aA e⟩]
 .have e:=d9.2;replace e:=(r3 ak)▸e;rw[⟨(),congrArg _<|ek e,V,trivial⟩]
 .rw[kl cm (λaA i=>?_) λaA i=>?_]
  .rw[o5 aA<|f1<|(ek i)▸c]
  .obtain⟨h,aS,i⟩:=hw i;obtain⟨a,l,i⟩:=hw i;rw[mo (v9 aA)<|kl i (λaf i=>kl i (λam i=>o5 (o6 af)<|N6 aw aS l (λu=>f1<|(ek i)▸c) λC=>absurd am<|v9 C) λu i=>nomatch i) λu i=>nomatch i]
noncomputable def uB(n:List Nat)(li pM:Nat):List Nat:=(n[li]?).elim n λf=>(n.eraseIdx li).insertIdx pM f
theorem ae6(c:li<gu n)(bl:pM<=li)(m:Nat):(uB n li pM)[m]?=if m=pM then n[li]? else if pM<m/\m<=li then n[m-1]? else n[m]?:=by
 have i:uB n li pM=(n.eraseIdx li).insertIdx pM n[li]:=by unfold uB;rwa[U (eT c)];rfl
 rwa[U i<|U (List.getElem?_insertIdx)];rcases Nat.lt_trichotomy m pM with C|C|C
 .rw[U (if_pos C)<|U (if_neg<|gQ C)<|U (if_neg λe=>Jp C e.1)<|U (Qm<|cg C bl) V]
 .rw[U C<|U (if_neg<|ia _)<|U (if_pos V)<|U (if_pos V)<|U (if_pos<|a5 bl<|List.length_eraseIdx_of_lt c▸P7 c)<|U (eT c) V]
 .rw[U (if_neg<|Jp C)<|U (if_neg<|tw C)<|U (if_neg<|tw C) ?_];have i5:m-1+1=m:=yV<|mA (eQ _) C;by_cases aT:m<=li
  .rw[U (if_pos ⟨C,aT⟩)<|U (Qm<|cg (yZ (kN _) i5) aT) V]
  .rw[U (if_neg λe=>aT e.2)<|U (List.getElem?_eraseIdx_of_ge<|P7<|Jb aT)<|U i5 V]
theorem ae8(c:li<gu n)(bl:pM<=li):bubble (fS bE n) li (li-pM)=fS bE (uB n li pM):=by
 apply QO;intro m;rw[U (getElem?_bubble ((qE n).symm▸c) _ (jF _ _) ..)<|U (Nat.sub_sub_self bl)<|U (D4 (E:=uB n li pM))<|U (ae6 c bl ..) ?_];split
 .rw[D4]
 .split
  .rw[D4]
  .rw[D4]
noncomputable def HP(lt:Nat->Nat->Bool)(n:List Nat)(lo m:Nat):Nat->Nat->Nat->Option Nat|0,E,_=>W E|J+1,E,q=>bif i0 q E then W E else(n[lo+m]?).bind λh=>(n[lo+(E+q)/2]?).bind λa=>bif lt h a then HP lt n lo m J E ((E+q)/2)else HP lt n lo m J ((E+q)/2+1) q
def HQ(lt:Nat->Nat->Bool)(lo:Nat):Nat->Nat->List Nat->Option (List Nat)|0,_,n=>W n|J+1,m,n=>(HP lt n lo m m 0 m).bind λE=>bif i0 E m&&kq (lo+m) (gu n) then HQ lt lo J (m+1) (uB n (lo+m)<|lo+E)else aX
theorem ae9{J:Bool->StateT fz Sem cN}{A:cN->fz->Prop}(aw:qD aN s b bW bE lt)(ak:max jO 1<=o)(i:HQ lt lo (o-max jO 1) (max jO 1) n=W bs)(c:wpS aN s aC b (J ag) A<|hS bW bE bs fU):wpS aN s aC b (binarySort' lo o jO>>=J) A (hS bW bE n fU):=by
 rw[lD<|U (binarySort'_eq ..)<|qF (λu=>(aX,())) (λe=>hS bW bE e fU) (λm e=>HQ lt lo (o-m) m e=W bs) (λ(_:Unit)=>(aX,())) (λu=>hS bW bE bs fU) (λu=>True) n (λm e am C=>?_) i (λe C=>?_) λu u=>f1 c]
 .rw[x3 ?_];intro AN;rw[r2 am]at C;obtain⟨E,bH,C⟩:=hw C;rw[kl C (λl C=>?_) λu C=>nomatch C];obtain⟨fg,fD⟩:=kJ.mp l;rw[qF (λ(f:Nat×Nat)=>(aX,f.1,f.2)) (λu=>hS bW bE e fU) (λj f=>HP lt e lo m (m-j) f.1 f.2=W E) (λq=>(aX,E,q)) (λu=>hS bW bE e fU) (λu=>True) (0,m) (λj f am B=>?_) bH (λf B=>?_) λq u=>?_]
  .rw[x3 ?_];intro AN;rw[r2 am]at B;rw[kl B (λl B=>o5 (o6 l)<|f1 ⟨f.2,by rw[bL (ek B) V],V,trivial⟩) λl B=>?_];obtain⟨h,aS,B⟩:=hw B;obtain⟨a,ej,B⟩:=hw B;rw[mo (qG l)<|N6 aw aS ej (λaA=>f1 ⟨(f.1,(f.1+f.2)/2),V,V,v7 aA B⟩) λaA=>f1 ⟨((f.1+f.2)/2+1,f.2),V,V,v8 aA B⟩]
  .rw[r3<|eQ _]at B;rw[⟨f.2,by rw[bL (ek B) V],V,trivial⟩]
  .rw[lD<|U (moveDown'_eq ..)<|B3<|f1 ⟨uB e (lo+m)<|lo+E,V,congrArg (λh=>J8 bW h fU 7 aX)<|ae8 (o6 fD)<|Jq (o6 fg) lo,C⟩]
 .rw[r3 ak]at C;rw[⟨(),V,congrArg (λe=>hS bW bE e fU)<|ek C,trivial⟩]
noncomputable def D6(lt:Nat->Nat->Bool)(gZ:Bool)(cK:Nat)(m5:List Nat)(j:Nat):Option Bool:=(m5[j]?).map λf=>bif gZ then lt f cK else !lt cK f
def N8(lt:Nat->Nat->Bool)(gZ:Bool)(cK:Nat)(m5:List Nat)(Wl D7:Nat):Nat->Nat->Nat->Option (Nat×Nat)|0,h,k=>W (h,k)|J+1,h,k=>bif i0 D7 k then W (h,k)else(D6 lt gZ cK m5<|Wl+k).bind λa=>bif a then N8 lt gZ cK m5 Wl D7 J k (2*k+1)else W (h,k)
def N9(lt:Nat->Nat->Bool)(gZ:Bool)(cK:Nat)(m5:List Nat)(l5 k6 D7:Nat):Nat->Nat->Nat->Option (Nat×Nat)|0,h,k=>W (h,k)|J+1,h,k=>bif i0 D7 k then W (h,k)else(D6 lt gZ cK m5<|l5+(k6-k)).bind λa=>bif a then W (h,k)else N9 lt gZ cK m5 l5 k6 D7 J k<|2*k+1
def AO(lt:Nat->Nat->Bool)(gZ:Bool)(cK:Nat)(m5:List Nat)(l5:Nat):Nat->Nat->Nat->Option Nat|0,_,c=>W c|J+1,E,c=>bif i0 c E then W c else(D6 lt gZ cK m5<|l5+(E+(c-E)/2)).bind λa=>bif a then AO lt gZ cK m5 l5 J (E+(c-E)/2+1) c else AO lt gZ cK m5 l5 J E<|E+(c-E)/2
def N_(lt:Nat->Nat->Bool)(gZ:Bool)(cK:Nat)(m5:List Nat)(l5 o k6:Nat):Option Nat:=(D6 lt gZ cK m5<|l5+k6).bind λa=>bif a then(N8 lt gZ cK m5 (l5+k6) (o-k6) o 0 1).bind λq=>AO lt gZ cK m5 l5 o (k6+q.1+1)<|k6+min q.2 (o-k6)else(N9 lt gZ cK m5 l5 k6 (k6+1) o 0 1).bind λq=>AO lt gZ cK m5 l5 o (k6+1-min q.2 (k6+1))<|k6-q.1
noncomputable def ae_:Bool->oo->Array oo->Nat->Nat->Nat->StateT fz Sem (Option Nat):=sortPriv%PySem.Builtin.gallop
theorem D8{a:Bool}{J:Option Bool->StateT fz Sem cN}{A:cN->fz->Prop}(aw:qD aN s b bW bE lt)(aT:kindOf st=bW)(i:D6 lt gZ cK e j=W a)(af:a=ag->wpS aN s aC b (J<|W ag) A st)(am:a=be->wpS aN s aC b (J<|W be) A st):wpS aN s aC b ((do let f<-elem' (fS bE e) j;if gZ=ag then lt' f (bE cK)else do let q<-lt' (bE cK) f;pure (q.map (!·)))>>=J) A st:=by obtain⟨f,R,rfl⟩:=yR.mp i;rwa[lD<|s8 R];cases gZ with
 |true=>rwa[N5 aw aT];cases aA:lt f cK with
  |true=>rw[af aA]|false=>rw[am aA]
 |false=>
  rw[Wj aw aT (λaA=>f1<|am ?_) λaA=>f1<|af ?_]
  .rw[((U aA ?_):(!lt cK f)=be)];rfl
  .rw[((U aA ?_):(!lt cK f)=ag)];rfl
theorem Wm{J:Option Nat->StateT fz Sem cN}{A:cN->fz->Prop}(aw:qD aN s b bW bE lt)(aT:kindOf st=bW)(i:N_ lt gZ cK e l5 o k6=W q)(c:wpS aN s aC b (J<|W q) A st):wpS aN s aC b (ae_ gZ (bE cK) (fS bE e) l5 o k6>>=J) A st:=by
 obtain⟨a,bH,cm⟩:=hw i;rw[lD<|D8 aw aT bH (λl=>?_) λl=>?_]
 .obtain⟨dY,eO,hu⟩:=hw<|v7 l cm;rw[qF (λ(f:Nat×Nat)=>(aX,f.1,f.2)) (λu=>st) (λj f=>N8 lt gZ cK e (l5+k6) (o-k6) (o-j) f.1 f.2=W dY) (λ(_:Unit)=>(aX,dY.1,dY.2)) (λu=>st) (λu=>True) (0,1) (λj f am B=>?_) eO (λf B=>?_) λu u=>?_]
  .replace B:=(r2 am)▸B;rw[kl B (λl B=>o5 (o6 l)<|f1 ⟨(),by rw[bL (ek B) V],V,trivial⟩) λl B=>?_];obtain⟨a,ej,B⟩:=hw B;rw[mo (qG l)<|D8 aw aT (sh ..▸ej) (λaA=>f1 ⟨(f.2,2*f.2+1),V,V,v7 aA B⟩) λaA=>f1 ⟨(),by rw[bL (ek<|v8 aA B) V],V,trivial⟩]
  .replace B:=(r3<|eQ _)▸B;rw[⟨(),by rw[bL (ek B) V],V,trivial⟩]
  .rw[qF (λ(f:Nat×Nat)=>(aX,f.1,f.2)) (λu=>st) (λj f=>AO lt gZ cK e l5 (o-j) f.1 f.2=W q) (λf=>(aX,f,q)) (λu=>st) (λu=>True) (_,_) (λj f am B=>?_) hu (λf B=>?_) λu u=>f1 c]
   .replace B:=(r2 am)▸B;rw[kl B (λl B=>o5 (o6 l)<|f1 ⟨f.1,by rw[bL (ek B) V],V,trivial⟩) λl B=>?_];obtain⟨a,ej,B⟩:=hw B;rw[mo (qG l)<|D8 aw aT ej (λaA=>f1 ⟨(f.1+(f.2-f.1)/2+1,f.2),V,V,v7 aA B⟩) λaA=>f1 ⟨(f.1,f.1+(f.2-f.1)/2),V,V,v8 aA B⟩]
   .replace B:=(r3<|eQ _)▸B;rw[⟨f.1,by rw[bL (ek B) V],V,trivial⟩]
 .obtain⟨dY,eO,hu⟩:=hw<|v8 l cm;rw[qF (λ(f:Nat×Nat)=>(aX,f.1,f.2)) (λu=>st) (λj f=>N9 lt gZ cK e l5 k6 (k6+1) (o-j) f.1 f.2=W dY) (λ(_:Unit)=>(aX,dY.1,dY.2)) (λu=>st) (λu=>True) (0,1) (λj f am B=>?_) eO (λf B=>?_) λu u=>?_]
  .replace B:=(r2 am)▸B;rw[kl B (λl B=>o5 (o6 l)<|f1 ⟨(),by rw[bL (ek B) V],V,trivial⟩) λl B=>?_];obtain⟨a,ej,B⟩:=hw B;rw[mo (qG l)<|D8 aw aT ej (λaA=>f1 ⟨(),by rw[bL (ek<|v7 aA B) V],V,trivial⟩) λaA=>f1 ⟨(f.2,2*f.2+1),V,V,v8 aA B⟩]
  .replace B:=(r3<|eQ _)▸B;rw[⟨(),by rw[bL (ek B) V],V,trivial⟩]
  .rw[qF (λ(f:Nat×Nat)=>(aX,f.1,f.2)) (λu=>st) (λj f=>AO lt gZ cK e l5 (o-j) f.1 f.2=W q) (λf=>(aX,f,q)) (λu=>st) (λu=>True) (_,_) (λj f am B=>?_) hu (λf B=>?_) λu u=>f1 c]
   .replace B:=(r2 am)▸B;rw[kl B (λl B=>o5 (o6 l)<|f1 ⟨f.1,by rw[bL (ek B) V],V,trivial⟩) λl B=>?_];obtain⟨a,ej,B⟩:=hw B;rw[mo (qG l)<|D8 aw aT ej (λaA=>f1 ⟨(f.1+(f.2-f.1)/2+1,f.2),V,V,v7 aA B⟩) λaA=>f1 ⟨(f.1,f.1+(f.2-f.1)/2),V,V,v8 aA B⟩]
   .replace B:=(r3<|eQ _)▸B;rw[⟨f.1,by rw[bL (ek B) V],V,trivial⟩]
end
end
section
section
variable{aN:Model}{s:cq}{aC:aF->au->Prop}{b:au}{bW:wI}{bE:Nat->oo}{lt:Nat->Nat->Bool}{j:Nat}{st:fz}{kF km ca:List Nat}{J:Array oo->StateT fz Sem cN}{A:cN->fz->Prop}{r a_:Array oo}
noncomputable def HR(lt:Nat->Nat->Bool)(kF km:List Nat):Nat->List Nat->Nat->Nat->Nat->Nat->Option (List Nat)|0,_,_,_,_,_=>aX|J+1,oH,AP,qH,Wn,Wo=>(km[qH]?).bind λB=>(kF[AP]?).bind λf=>bif lt B f then bif qH+1==km.length then W (oH++[B]++kF.drop AP++km.drop (qH+1))else bif i0 7 (Wo+1)then aX else HR lt kF km J (oH++[B]) AP (qH+1) 0<|Wo+1 else bif AP+1+1==kF.length then W (oH++[f]++km.drop qH++kF.drop (AP+1))else bif i0 7 (Wn+1)then aX else HR lt kF km J (oH++[f]) (AP+1) qH (Wn+1) 0
def Wp(lt:Nat->Nat->Bool)(kF km:List Nat):Option (List Nat):=(km[0]?).bind λB=>bif 1==km.length then aX else bif 1==kF.length then aX else HR lt kF km (gu kF+gu km) [B] 0 1 0 0
noncomputable def ae':Array oo->Array oo->StateT fz Sem (Array oo):=sortPriv%PySem.Builtin.mergeLo
theorem Wq(E:List Nat)(j:Nat):(fS bE E).extract j (fS bE E).size=fS bE (E.drop j):=by rw[U (N4 ..)<|U (qE ..)<|U wA V]
theorem Wr(k aJ b8:List Nat)(f j Q:Nat):(fS bE k).push (bE f)++(fS bE aJ).extract j (fS bE aJ).size++(fS bE b8).extract Q (fS bE b8).size=fS bE (k++[f]++aJ.drop j++b8.drop Q):=by rw[U (N3 ..)<|U (Wq ..)<|U (Wq ..)<|U (N2 ..)<|U (N2 ..) V]
theorem afa(cC:r=fS bE kF)(qt:a_=fS bE km)(aw:qD aN s b bW bE lt)(aT:kindOf st=bW)(aI:gallopOf st=7)(i:Wp lt kF km=W ca)(c:wpS aN s aC b (J<|fS bE ca) A st):wpS aN s aC b (ae' r a_>>=J) A st:=by
 subst cC qt;obtain⟨B,Ws,i⟩:=hw i;rw[kl i (λu C=>nomatch C) λjk i=>kl i (λu C=>nomatch C) λlI i=>?_];have cV:gu kF+gu km=(fS bE kF).size+(fS bE km).size:=(qE kF).symm▸(qE km).symm▸V;have aM:0<(fS bE kF).size+(fS bE km).size:=cV▸cg ((j4.mp Ws).1) (wy _ _);rw[cV]at i;rw[<-qE km]at jk;rw[<-qE kF]at lI;rw[lD<|Wi<|s8 Ws<|mo (v9 jk)<|mo (v9 lI)<|s7<|qF (λ(_:Unit)=>(aX,#[bE B],0,1,gallopOf st)) (λu=>st) (λj u=>j=0) (λC=>(W<|fS bE ca,C)) (λu=>st) (λu=>True) () (λu u u u=>qF (λ(f:List Nat×Nat×Nat×Nat×Nat)=>(aX,fS bE f.1,f.2.1,f.2.2.1,f.2.2.2.1,f.2.2.2.2)) (λu=>st) (λj f=>HR lt kF km ((fS bE kF).size+(fS bE km).size-j) f.1 f.2.1 f.2.2.1 f.2.2.2.1 f.2.2.2.2=W ca) (λC=>(W<|fS bE ca,C)) (λu=>st) (λu=>True) ([B],0,1,0,0) (λj f am e=>?_) i (λf e=>?_) λu u=>f1 ⟨_,V,V,trivial⟩) V (λu C=>absurd (Nat.max_eq_zero_iff.mp C).2<|tw aM) λu u=>f1 c]
 .rw[x3 ?_];intro AN;rw[r2 am]at e;obtain⟨a,Wt,e⟩:=hw e;obtain⟨h,ed,e⟩:=hw e;rw[s8 Wt<|s8 ed<|Wj aw aT (λaA=>s8 Wt ?_) λaA=>s8 ed ?_]
  .rw[kl (v7 aA e) (λaf e=>o5 ((qE km).symm▸af)<|f1 ⟨_,congrArg (λk=>(W k,_))<|(Wr _ _ _ _ _ _).trans<|congrArg (fS bE)<|ek e,V,trivial⟩) λaf e=>kl e (λu C=>nomatch C) λjj e=>mo ((qE km).symm▸v9 af)<|mo (aI.symm▸qG jj)<|f1 ⟨(f.1++[a],f.2.1,f.2.2.1+1,0,f.2.2.2.2+1),congrArg (λk=>(aX,k,_))<|N3 _ _,V,e⟩]
  .rw[kl (v8 aA e) (λaf e=>o5 ((qE kF).symm▸af)<|f1 ⟨_,congrArg (λk=>(W k,_))<|(Wr _ _ _ _ _ _).trans<|congrArg (fS bE)<|ek e,V,trivial⟩) λaf e=>kl e (λu C=>nomatch C) λjj e=>mo ((qE kF).symm▸v9 af)<|mo (aI.symm▸qG jj)<|f1 ⟨(f.1++[h],f.2.1+1,f.2.2.1,f.2.2.2.1+1,0),congrArg (λk=>(aX,k,_))<|N3 _ _,V,e⟩]
 .rw[r3<|eQ _]at e;rw[nomatch e]
end
end
noncomputable def N'(x4:Nat):List Nat->Nat->List Nat->List Nat|[],_,n=>n|f::S,m,n=>N' x4 S (m+1)<|n.set (x4+m) f
theorem afb(x4:Nat)(S:List Nat):∀(m:Nat)(n:List Nat),((S.map bE).zipIdx m).foldl (λh e=>h.setIfInBounds (x4+e.2) e.1) (fS bE n)=fS bE (N' x4 S m n):=by induction S with
 |nil=>intro fl eM;rw[V]|cons f S a3=>
  intro m n;have i:(fS bE n).setIfInBounds (x4+m) (bE f)=fS bE (n.set (x4+m) f):=by unfold fS;rw[U (List.setIfInBounds_toArray ..)<|U y7 V]
  rw[U hU<|U Qg<|U Fn<|U i ?_];rw[a3 (m+1) _]
def Oa(lt:Nat->Nat->Bool)(n:List Nat)(fU:Array<|Nat×Nat×Nat)(j:Nat):Option (List Nat×Array (Nat×Nat×Nat)):=(fU[j]?).bind λh=>(fU[j+1]?).bind λa=>(n[a.1]?).bind λG5=>(N_ lt be G5 n h.1 h.2.1 0).bind λm=>bif h.2.1-m==0 then aX else(n[h.1+m+(h.2.1-m)-1]?).bind λjV=>(N_ lt ag jV n a.1 a.2.1<|a.2.1-1).bind λlv=>bif lv==0 then aX else(bif i0 (h.2.1-m) lv then Wp lt ((n.take a.1).drop<|h.1+m) ((n.take<|a.1+lv).drop a.1)else aX).bind λS=>W (N' (h.1+m) S 0 n,(fU.setIfInBounds j (h.1,h.2.1+a.2.1,h.2.2)).eraseIdxIfInBounds<|j+1)
theorem afc{J:PUnit->StateT fz Sem cN}{f st:fz}{A:cN->fz->Prop}(c:wpS aN s aC b (J ⟨⟩) A f):wpS aN s aC b ((set f:StateT fz Sem PUnit)>>=J) A st:=by rw[lD ?_];unfold wpS;rwa[U (StateT.run_set ..)];rw[cr ⟨V,c⟩]
theorem Wu{J:Bool->StateT fz Sem cN}{A:cN->fz->Prop}(aw:qD aN s b bW bE lt)(i:Oa lt n fU j=W q)(c:wpS aN s aC b (J ag) A<|hS bW bE q.1 q.2):wpS aN s aC b (mergeAt' j>>=J) A (hS bW bE n fU):=by obtain⟨h,ō,i⟩:=hw i;obtain⟨a,c4,i⟩:=hw i;obtain⟨G5,Ŏ,i⟩:=hw i;obtain⟨m,Ob,i⟩:=hw i;rw[kl i (λu C=>nomatch C) λae i=>?_];obtain⟨jV,ŏ,i⟩:=hw i;obtain⟨lv,Ő,i⟩:=hw i;rw[kl i (λu C=>nomatch C) λa8 i=>?_];obtain⟨S,Oc,i⟩:=hw i;have i:=ek i;subst i;rw[lD<|s7 ?_];rwa[U (ō:(sn<|hS bW bE n fU)[j]?=W h)<|U (c4:(sn<|hS bW bE n fU)[j+1]?=W a)];rw[afc<|s8 Ŏ<|Wm aw V Ob<|mo (v9 ae)<|s8 ŏ<|Wm aw V Ő<|mo (v9 a8) ?_];have cK:=Eq.mpr (congrArg (λC=>wpS aN s aC b (J ag) A<|J8 bW C ((fU.setIfInBounds j (h.1,h.2.1+a.2.1,h.2.2)).eraseIdxIfInBounds<|j+1) 7 aX)<|afb (bE:=bE) (h.1+m) S 0 n) c;rw[kl Oc (λaA Oc=>o5 (o6 aA)<|afa (N4 ..) (N4 ..) aw V V Oc<|lD<|B3<|s7<|f1 cK) λu C=>nomatch C]
def Od(lt:Nat->Nat->Bool)(DW:Nat):Nat->List Nat×Array (Nat×Nat×Nat)->Option (List Nat×Array (Nat×Nat×Nat))|0,f=>W f|J+1,f=>(if f.2.size>1 then f.2[f.2.size-2]? else aX).elim (W f) λk=>bif i0 k.2.2 DW then W f else(Oa lt f.1 f.2<|f.2.size-2).bind λq=>Od lt DW J q
def Wv(lt:Nat->Nat->Bool)(gJ o:Nat)(f:List Nat×Array (Nat×Nat×Nat)):Option (List Nat×Array (Nat×Nat×Nat)):=f.2.back?.elim (W f) λk=>(Od lt (power' gJ (2*k.1+k.2.1) (2*k.1+k.2.1+k.2.1+o) gJ) gJ f).bind λq=>W (q.1,q.2.modify (q.2.size-1) λf=>(f.1,f.2.1,power' gJ (2*k.1+k.2.1) (2*k.1+k.2.1+k.2.1+o) gJ))
def afd(lt:Nat->Nat->Bool)(gJ x5 lo o:Nat)(n:List Nat):Option (Nat×List Nat):=bif kq o x5 then bif i0 (max o 1) (min (gJ-lo) x5)then(HQ lt lo (min (gJ-lo) x5-max o 1) (max o 1) n).bind λe=>W (min (gJ-lo) x5,e)else aX else W (o,n)
def HS(lt:Nat->Nat->Bool)(gJ x5:Nat):Nat->Nat->List Nat×Array (Nat×Nat×Nat)->Option (List Nat×Array (Nat×Nat×Nat))|0,_,f=>W f|J+1,lo,f=>bif i0 gJ lo then W f else(Wk lt f.1 lo<|gJ-lo).bind λo=>(afd lt gJ x5 lo o f.1).bind λe=>(Wv lt gJ e.1 (e.2,f.2)).bind λq=>HS lt gJ x5 J (lo+e.1) (q.1,q.2.push (lo,e.1,0))
noncomputable def endAt(fU:Array<|Nat×Nat×Nat):Nat:=if((if fU.size-2>0 then fU[fU.size-2-1]?.map (·.2.1)else aX).any (·<(fU[fU.size-2+1]?.elim 0 (·.2.1))))=ag then fU.size-2-1 else fU.size-2
def Oe(lt:Nat->Nat->Bool):Nat->List Nat×Array (Nat×Nat×Nat)->Option (List Nat)|0,f=>W f.1|J+1,f=>bif i0 f.2.size 1 then W f.1 else(Oa lt f.1 f.2<|endAt f.2).bind λq=>Oe lt J q
def x6(lt:Nat->Nat->Bool)(gJ:Nat)(n:List Nat):Option (List Nat):=(HS lt gJ (minRun' gJ gJ 0) gJ 0 (n,#[])).bind λq=>Oe lt gJ q
def nF(bW:wI)(bE:Nat->oo)(f:List Nat×Array (Nat×Nat×Nat)):SortSt:=hS bW bE f.1 f.2
theorem Ww{a9 pH:Type}{k:Option a9}{h:pH}{J:a9->pH}{q:pH}{aD:Prop}(e:k.elim h J=q)(af:k=aX->h=q->aD)(am:∀f,k=W f->J f=q->aD):aD:=by cases k with|none=>rw[af V e]|some f=>rw[am f V e]
theorem afe{a9:Type}{eD:Nat->StateT fz Sem a9}{A:a9->fz->Prop}{M:Nat->List Nat->Prop}{cf:Prop}(m:(∀o e,M o e->wpS aN s aC b (eD o) A (hS bW bE e fU))->cf)(D:∀o e,M o e->wpS aN s aC b (eD o) A (hS bW bE e fU)):cf:=m D
theorem aff{A:Unit->fz->Prop}(aw:qD aN s b bW bE lt)(G:gu n=gJ)(i:x6 lt gJ n=W bs)(c:∀fU,A ()<|hS bW bE bs fU):wpS aN s aC b sortRuns' A (hS bW bE n #[]):=by
 obtain⟨sU,bH,cm⟩:=hw i;rw[U sortRuns'_eq<|s7<|U ((qE n).trans G)<|qF (λ(f:Nat×List Nat×Array (Nat×Nat×Nat))=>(aX,f.1)) (λ(f:Nat×List Nat×Array (Nat×Nat×Nat))=>nF bW bE f.2) (λj f=>HS lt gJ (minRun' gJ gJ 0) (gJ-j) f.1 f.2=W sU) (λC=>(aX,C)) (λu=>nF bW bE sU) (λu=>True) (0,n,#[]) (λj f am B=>?_) bH (λf B=>?_) λu u=>?_]
 .rw[x3 ?_];intro AN;rw[r2 am]at B;rw[kl B (λl B=>o5 (o6 l)<|f1 ⟨f.1,V,congrArg (nF bW bE)<|ek B,trivial⟩) λl B=>mo (qG l) ?_];apply afe (M:=λo e=>∃q,Wv lt gJ o (e,f.2.2)=W q/\HS lt gJ (minRun' gJ gJ 0) (gJ-(j+1)) (f.1+o) (q.1,q.2.push (f.1,o,0))=W sU)
  .intro Wx;obtain⟨ő,Œ,B⟩:=hw B;rwa[ae5 aw (P6<|Jb<|qG l) Œ];obtain⟨e,uP,B⟩:=hw B;obtain⟨q,s9,B⟩:=hw B;rw[kl uP (λbk uP=>o5 (o6 bk)<|Wi ?_) λbk uP=>mo (qG bk)<|s7 ?_]
   rotate_left
   .have uP:=ek uP;subst uP;rw[Wx ő f.2.1 ⟨q,s9,B⟩]
   rw[kl uP (λak uP=>?_) λu C=>nomatch C];obtain⟨œ,Of,C⟩:=hw uP;have C:=ek C;subst C;rw[ae9 aw (o6 ak) Of<|s7<|Wx _ œ ⟨q,s9,B⟩]
  .intro o e c;obtain⟨q,s9,B⟩:=c;rw[Ww s9 (λaY s9=>?_) λk aY s9=>?_]
   .have s9:=ek s9;subst s9;rw[U (aY:(sn<|hS bW bE _ f.2.2).back?=aX)<|lD<|B3<|f1 ⟨(_,_,_),V,V,B⟩]
   .obtain⟨gG,Og,C⟩:=hw s9;have C:=ek C;subst C;rw[U (aY:(sn<|hS bW bE _ f.2.2).back?=W k)<|qF (λu=>(aX,())) (nF bW bE) (λj f=>Od lt _ (gJ-j) f=W gG) (λ(_:Unit)=>(aX,())) (λu=>nF bW bE gG) (λu=>True) (_,_) (λj f am B=>?_) Og (λf B=>?_) λu u=>(lD<|B3<|lD<|B3<|f1 ⟨(_,_,_),V,V,B⟩)]
    .rw[x3 ?_];intro AN;rw[r2 am]at B;rw[s7<|Ww B (λbV B=>?_) λk bV B=>?_]
     .dsimp only;rw[U (bV:(if(sn<|nF bW bE f).size>1 then(sn<|nF bW bE f)[(sn<|nF bW bE f).size-2]? else aX)=aX)<|f1 ⟨(),V,congrArg (nF bW bE)<|ek B,trivial⟩]
     .dsimp only;rw[U (bV:(if(sn<|nF bW bE f).size>1 then(sn<|nF bW bE f)[(sn<|nF bW bE f).size-2]? else aX)=W k)<|kl B (λaQ B=>o5 (o6 aQ)<|f1 ⟨(),V,congrArg (nF bW bE)<|ek B,trivial⟩) λaQ B=>mo (qG aQ) ?_];obtain⟨x7,Ŕ,ŕ⟩:=hw B;rw[Wu aw Ŕ<|f1 ⟨x7,V,V,ŕ⟩]
    .rw[r3<|eQ _]at B;rw[⟨(),V,congrArg (nF bW bE)<|ek B,trivial⟩]
 .rw[r3<|eQ _]at B;rw[⟨f.1,V,congrArg (nF bW bE)<|ek B,trivial⟩]
 .rw[qF (λu=>(aX,())) (nF bW bE) (λj f=>Oe lt (gJ-j) f=W bs) (λ(_:Array<|Nat×Nat×Nat)=>(aX,())) (λx=>hS bW bE bs x) (λu=>True) sU (λj f am B=>?_) cm (λf B=>?_) λx u=>f1<|c x]
  .rw[r2 am]at B;rw[s7<|kl B (λl B=>o5 (o6 l)<|f1 ⟨f.2,V,congrArg (λe=>hS bW bE e f.2)<|ek B,trivial⟩) λl B=>mo (qG l)<|x3 ?_];intro AN;obtain⟨q,Of,Og⟩:=hw B;rw[Wu aw Of<|f1 ⟨q,V,V,Og⟩]
  .rw[r3<|eQ _]at B;rw[⟨f.2,V,congrArg (λe=>hS bW bE e f.2)<|ek B,trivial⟩]
noncomputable def v_:List Int->List Int->Bool|h::bT,a::a6=>bif h==a then v_ bT a6 else decide<|h<a|[],a6=>decide<|0<gu a6|_::_,[]=>be
noncomputable def jc(eJ:List Int):bj:=.tup<|eJ.map .int
theorem afh:∀(bT a6:List Int)(aJ b8:List aF)(j:Nat),b9 c r (bT.map .int) aJ->b9 c r (a6.map .int) b8->gu bT=gu a6->gv=be->A (v_ bT a6) b->KatLex ſ v s a gv A (aJ.zip b8) j b:=by intro fc;induction fc with|nil=>intro a6 aJ b8 j HT Oh aw bi aY;have l:a6=[]:=Jy.mp aw.symm;subst l;have bH:aJ=[]:=HT;subst bH;rw[U List.zip_nil_left<|kat_nil<|bi▸aY]|cons h bT a3=>intro eV;cases eV with|nil=>intro aJ b8 j HT Oh aw bi aY;rw[nomatch aw]|cons xk a6=>intro aJ b8 j HT Oh aw bi aY;obtain⟨g,aV,rfl,dY,eN⟩:=HT;obtain⟨bm,ql,rfl,HU,Ŗ⟩:=Oh;obtain⟨D,rfl⟩:=dY;obtain⟨fp,rfl⟩:=HU;rw[U Jz<|kat_cons<|wpAny_eqBool_int ?_];replace aY:A (bif h==xk then v_ bT a6 else decide<|h<xk) b:=aY;cases aA:h==xk with|true=>replace aY:=aA▸aY;rw[kat_yes<|a3 a6 aV ql (j+1) eN Ŗ (q6 aw) bi aY]|false=>replace aY:=aA▸aY;rw[kat_no ?_];cases a&&j==0 with|true=>rw[oneLt_int aY]|false=>rw[kat_one _ _<|lt_int aY]
noncomputable def l6(N:List aF)(j:Nat):Keyed:=(N.getD j<|N.headD .none,N.getD j<|N.headD .none)
theorem afi(N:List aF):N.toArray.zip N.toArray=((cZ (gu N)).map<|l6 N).toArray:=by
 apply QN.mp;rwa[U Array.toList_zip];apply wD;intro j;simp only[BN,eX];by_cases T:j<gu N
 .rw[U (nN T) ?_];simp[l6,Qn,Qo,eT T]
 .simp[Qn,Qo,o_<|sf T,T]
theorem afj(aL:b.heap.get? h=W (mH "list" N.toArray o))(am:2<=gu N)(ae:gu bs<=2^20)(ml:gu N<=2^20)(aT:∀(w:au)(A:wI->au->Prop),(∀a k,a≠h->b.heap.get? a=W k->Ű (Q7 w) a=W k)->A bW w->ce (cD ſ v) s (keyKind' N.toArray) A aC w)(aw:∀w:au,(∀a k,a≠h->b.heap.get? a=W k->Ű (Q7 w) a=W k)->qD (cD ſ v) s w bW (l6 N) lt)(i:x6 lt (gu N) (cZ (gu N))=W bs)(c:M (.done<|.ret .none) {b with heap:=sortedHeap b.heap h N (bs.map λj=>(l6 N j).2).toArray}):ce (cD ſ v) s (YN ⟨[.ref h],[]⟩) M aC b:=by
 rw[U (list_sort_plain ..)<|sv ?_];intro tZ;have aS:=dK aL;rwa[bc<|listItems_at aL V];have rU:N.toArray.size<=sizeLine:=by rwa[U y3<|U E6];rw[bM (.l .x<|.n 16777216) [.l .x<|.n 1048576] Z ml]
 rw[bc<|listUpdate_at aL V ?_ rU<|eQ _];obtain⟨bH,AQ⟩:∃bH,Ű (b.heap.update h<|jG λu=>#[]) h=W (mH "list" #[] bH):=⟨_,get?_update_seq aL λu=>#[]⟩;rw[bc<|seqEpoch_at AQ V<|bc<|Bw (bc<|wpAny_newList (kK ?_)<|eQ _) rU];have Wy:Ű (((b.heap.update h<|jG λu=>#[]).push<|mH "tuple" N.toArray 0).push<|mH "list" #[] 0) h=W (mH "list" #[] bH):=by rwa[U (Fx _ _ _ (by rw[size_push',vb];rw[gQ<|k' aS]))<|U (Fx _ _ _ (by rw[vb,];rw[gQ aS]))];rw[AQ]
 have rm:∀a k,a≠h->b.heap.get? a=W k->Ű (((b.heap.update h<|jG λu=>#[]).push<|mH "tuple" N.toArray 0).push<|mH "list" #[] 0) a=W k:=λa k l e=>by rwa[eY _<|eY _];rwa[U (QP _ _ _ _ l)];rw[e]
 rw[((tX ?_):ce (cD ſ v) s _ M aC {b with heap:=((b.heap.update h<|jG λu=>#[]).push<|mH "tuple" N.toArray 0).push<|mH "list" #[] 0})];intro vL
 dsimp only;have uQ:¬N.toArray.size<2:=by simpa using am
 rw[U (if_neg uQ)<|U (if_neg uQ)<|bc<|aT _ _ rm<|U (afi ..)<|bc<|se (aff (A:=λu kz=>∃fU,kz=hS bW (l6 N) bs fU) (aw _ rm) mE i λfU=>⟨fU,V⟩) ?_ λu u i=>i];rintro⟨⟨⟩,kz⟩w⟨rfl,fU,fA⟩
 dsimp only at fA;rwa[U fA]
 dsimp only;rw[bc<|seqEpoch_at Wy V<|bc<|listUpdate_at Wy V ?_ (hsz2:=by show((fS (l6 N) bs).map _).size<=_;rw[U Array.size_map<|U (qE ..)<|U E6 ?_];rw[bM (.l .x<|.o<|.n 16777216) [.l .x<|.n 1048576] Z ae])];rwa[U (show failedOf (hS bW (l6 N) bs fU)=aX from V)];simp only[bne_self_eq_false,EH,if_false];rw[cr ?_];have m2:(arrOf<|hS bW (l6 N) bs fU).map (·.2)=(bs.map λj=>(l6 N j).2).toArray:=by rw[(?_:((bs.map<|l6 N).toArray).map _=_)];simp
 rw[U m2 c]
theorem afk(aw:b.heap.IsList E N.toArray)(am:2<=gu N)(ae:gu bs<=2^20)(ml:gu N<=2^20)(aT:∀(s:cq)(w:au)(aC:aF->au->Prop)(A:wI->au->Prop),(∀a k,b.heap.get? a=W k->Ű (Q7 w) a=W k)->A bW w->ce (cD ſ v) s (keyKind' N.toArray) A aC w)(cG:∀(s:cq)(w:au),(∀a k,b.heap.get? a=W k->Ű (Q7 w) a=W k)->qD (cD ſ v) s w bW (l6 N) lt)(i:x6 lt (gu N) (cZ (gu N))=W bs)(c:A (.ref<|(aB b)+1) {b with heap:=B4 b.heap N (bs.map λj=>(l6 N j).2).toArray}):Y ſ v s (eS (.builtin "sorted") [.ref E] []) A b:=Y.of (by
 rw[Calls.call_function_entry kind_sorted plain_sorted entry_sorted (args_sorted1 _)<|jm ?_];intro jI;unfold tl.«sorted»;rw[bc<|cr ?_];have rU:gu N<=sizeLine:=by rwa[U E6];rw[bM (.l .x<|.n 16777216) [.l .x<|.n 1048576] Z ml]
 rw[bc<|collect_list aw (bc<|wpAny_newList ?_ rU) rU];have d4:((b.heap.push<|mH "list" #[] 0).update (aB b) (jG (·++N.toArray))).objs.size=(aB b)+1:=by rw[U (vb ..)<|U (size_push' ..) V]
 have Wz:Ű (((b.heap.push<|mH "list" #[] 0).update (aB b) (jG (·++N.toArray))).push<|mH "list" N.toArray 0) ((aB b)+1)=W (mH "list" N.toArray 0):=by rw[bL d4<|fu _ V]
 have rm:∀a k,b.heap.get? a=W k->a≠(aB b)+1/\Ű (((b.heap.push<|mH "list" #[] 0).update (aB b) (jG (·++N.toArray))).push<|mH "list" N.toArray 0) a=W k:=λa k e=>by have cG:a<(aB b):=dK e;rw[⟨gQ<|k' cG,(U (Fx _ _ _<|U d4<|gQ<|k' cG)<|U (QP _ _ _ _<|gQ cG)<|U (Fx _ _ _<|gQ cG) ?_)⟩];rw[e]
 rw[(?_:ce _ _ _ _ _ {b with heap:=((b.heap.push<|mH "list" #[] 0).update (aB b) (jG (·++N.toArray))).push<|mH "list" N.toArray 0})];rw[U d4<|kQ<|kL slot_list_sort ⟨_,Wz,V⟩ entry_list_sort (afj (lt:=lt) Wz am ae ml (λw A m aY=>aT _ w _ A (λa k e=>m a k (rm a k e).1 (rm a k e).2) aY) (λw m=>cG _ w λa k e=>m a k (rm a k e).1 (rm a k e).2) i ⟨_,V,?_⟩)<|args_list_sort _];rw[cr ⟨_,V,c⟩])
theorem afl(c:e1)(N:List aF)(oH:Array aF):Ų (ű c)<=(B4 c N oH).objs.size:=by unfold B4 sortedHeap;simp only[vb,size_push'];rw[bM (.l .x<|.o<|.o<|.o<|.o .x) [] Z]
theorem afm{K:List<|List Int}:∀{N:List aF},(∀m∈K,m≠[])->b9 c r (K.map jc) N->∃bn,KatTups c N bn/\gu bn=gu N/\∀J∈bn,∃o D,J=.int o D:=by induction K with|nil=>intro N eM q;have q:N=[]:=q;subst q;rw[⟨[],KatTups.nil,V,aR⟩]|cons m K a3=>intro N aT q;obtain⟨g,aV,rfl,dY,eN⟩:=q;obtain⟨bn,D,aw,bi⟩:=a3 (λm e=>aT m<|mt e) eN;obtain⟨h,ex,o,rfl,_,aI,ŗ⟩:=dY;cases m with|nil=>rw[absurd V<|aT _ bB]|cons f m=>
   obtain⟨g,ql,dX,⟨fp,rfl⟩,_⟩:=ŗ;rw[⟨.int f fp::bn,KatTups.cons aI V V (by rwa[bL (zb)<|U dX];rfl) D,by simp[aw],?_⟩];intro J Ř;rcases fT.mp Ř with rfl|e
   .rw[⟨f,fp,V⟩]
   .rw[bi J e]
theorem Oi{c:e1}{K:List<|List Int}{ex:List aF}(q:b9 c r (K.map jc) ex)(aM:0<gu K)(j:Nat):ck c r (jc<|K.getD j<|K.headD []) (l6 ex j).1/\K.getD j (K.headD [])∈K:=by
 have aw:gu ex=gu K:=by have:=q.length;simpa using this
 cases K with
 |nil=>rw[absurd aM<|ia 0]|cons m K=>
  obtain⟨g,aV,rfl,dY,eN⟩:=id q;by_cases T:j<gu (m::K)
  .have gc:j<gu (g::aV):=aw▸T;obtain⟨z,bH,cm⟩:=b9.get q (by rwa[U (eX)<|U (eT T)];rfl);have eO:(l6 (g::aV) j).1=z:=by rw[((U (dG)<|U bH ?_):(g::aV).getD j _=z)];rfl
   have hu:(m::K).getD j ((m::K).headD [])=(m::K)[j]:=by rwa[U (dG)<|U (eT T)];rfl
   rw[U eO<|U hu<|⟨cm,nb T⟩]
  .have eO:(l6 (g::aV) j).1=g:=by rw[((U (dG)<|U (o_<|U aw<|sf T) ?_):(g::aV).getD j _=g)];rfl
   have hu:(m::K).getD j ((m::K).headD [])=m:=by rwa[U (dG)<|U (o_<|sf T)];rfl
   rw[U eO<|U hu<|⟨dY,bB⟩]
theorem ai.sorted{g:ea}{x:Nat}{O:dA}{y:b_}{i:bJ}{m:i6}{K:List<|List Int}{lt:Nat->Nat->Bool}{S:Nat}{bs:List Nat}{d' ax:Pos}(aA:g.Ok)(c:ai g x O y i m<|.lst<|K.map jc)(bk:∀eJ∈K,gu eJ=S+1)(am:2<=gu K)(ae:gu K<=2^20)(ml:gu bs<=2^20)(cG:∀j Q,v_ (K.getD j<|K.headD []) (K.getD Q<|K.headD [])=lt j Q)(az:x6 lt (gu K) (cZ (gu K))=W bs)(aI:g.gl "sorted"=W (.builtin "sorted"))(R:fe O "sorted"=ag:=by cbv)(ak:dS i=ag:=by rfl):ai g x O y (.Call (.Name "sorted" d') [i] [] ax) .fr (.lst<|bs.map λj=>jc<|K.getD j<|K.headD []):=λs p r L ay aa ao G I=>by
 subst G;rw[lj I.ok (h3 aA I aI R) V (hZ ak I.ok (c s p r L ay aa ao V I) fB.hV jo) ?_ (by simp[ak])];intro b aV aO t9 A aj;obtain⟨e2,q,rfl,ka,rfl⟩:=t9;obtain⟨E,N,o,rfl,aw,ap⟩:=ka.iw;have cp:gu N.toList=gu K:=by have:=ap.length;simpa using this
 have aM:0<gu K:=cg Nat.zero_lt_two am;have c_:∀eJ∈K,eJ≠[]:=λeJ aT e=>by have:=bk eJ aT;replace this:=e▸this;rw[nomatch this]
 obtain⟨bn,bC,xg,bi⟩:=afm c_ ap;have ř:∀{X:e1}{ex bn:List aF},(∀a k,b.heap.get? a=W k->Ű X a=W k)->KatTups b.heap ex bn->KatTups X ex bn:=λ{X}{ex}=>by induction ex with
  |nil=>intro bn m D;cases bn with
   |nil=>rw[trivial]|cons _ _=>rw[D.elim]
  |cons aG ex aW=>intro bn m D;cases bn with|nil=>rw[D.elim]|cons J bn=>obtain⟨⟨h,k,aJ,o,bH,cm,eO,hu,rG⟩,D⟩:=D;rw[⟨⟨h,k,aJ,o,bH,m _ _ cm,eO,hu,rG⟩,aW m D⟩]
 rwa[afk (bW:=tuples'<|j6 "int"!=j6 "tuple") (⟨_,aw,V,o,by rw[U JL V]⟩:b.heap.IsList E N.toList.toArray) (cp▸am) ml (cp▸ae) ?_ ?_ (cp▸az)]
 .intro s w aC A m aY;rw[kat_kind (ř m bC) (by rwa[U xg<|U cp];rw[aM]) (λz aQ=>by obtain⟨o,D,rfl⟩:=bi z aQ;rw[Looks.now]) (by rfl) aY]
 .intro s w m j Q aC A aY;have Ś:=Oi ap aM Q;obtain⟨⟨h,ex,o,bH,_,w8,dY⟩,bg⟩:=(Oi ap aM j);obtain⟨⟨gi,akE,i7,ś,_,Ŝ,HU⟩,WA⟩:=Ś;rwa[U bH<|U ś];have f7:=dY.length;have h0:=HU.length;rw[dg,bk _ bg,BZ]at f7;rw[dg,bk _ WA,BZ]at h0;rw[kat_lt (m _ _ w8) V (m _ _ Ŝ) V<|afh _ _ _ _ 0 dY HU ((bk _ bg).trans (bk _ WA).symm) (decide_eq_false (by rwa[U f7<|U h0];rw[ia _]))<|cG j Q▸aY]
 .obtain⟨cP,bq⟩:=sortedAll_at b.heap N.toList (bs.map λj=>(l6 N.toList j).2).toArray;rw[aj _ _ (bK.heap (λa k u i=>sortedAll_old i)<|afl ..) ⟨_,V,yY aO.1,_,cP,bq,?_⟩];have m:∀a k,a∉r->b.heap.get? a=W k->Ű (B4 b.heap N.toList (bs.map λj=>(l6 N.toList j).2).toArray) a=W k/\a∉((aB b)+1)::r:=λa k l i=>⟨sortedAll_old i,λe=>dw e (λC=>gQ (k'<|dK i) C) l⟩;rw[(?_:b9 _ _ _<|bs.map λj=>(l6 N.toList j).2)];clear az ml bq aj
  revert m;generalize(B4 b.heap N.toList (bs.map λj=>(l6 N.toList j).2).toArray)=cO;intro m;induction bs with|nil=>show b9 _ _ [] [];rw[V]|cons j bs aW=>rw[⟨_,_,V,ck.to m _ _ (Oi ap aM j).1,aW⟩]
section
noncomputable def WB:fa->List fa|.For cR e3 a ur C7=>a|_=>[]
def WC:List Stmt:=WB<|((hv<|dq aU 18)[7]?).getD<|.Pass default
def WD:List Stmt:=WB<|(WC[3]?).getD<|.Pass default
section
variable{g:ea}{x:Nat}{O:dA}{y:b_}{e8 gX:bJ}{ax:Pos}{aq:List Int}{j:Int}
theorem ai.TQ(bw:ai g x O y e8 .cH<|.tup<|aq.map .int)(bO:cI g x O y gX j)(aM:0<=j)(R:om j<gu aq)(ae:gu aq<=cy)(T:oD gX=ag:=by rfl):cI g x O y (.Subscript e8 gX ax) (aq.getD (om j) 0):=ai.Ic bw bO aM (by rw[U (eX)<|U (dG)<|U (eT R) ?_];rfl) (by simpa using ae) T
end
def x8:Scope:=fH<|dq aU 18
def x9(v:cU)(s:cq)(ed lw aP dE:Nat)(f4:List aE)(S:Nat)(J:Nat->Int)(av aC:Nat)(Q:Nat)(l7 az:List bj):Inv:=((hQ 1944 1940).both<|xX v s.in1 ed lw aP (dE::f4) [dE] S Q<|oT J).both<|(nC av l7).both<|nC aC az
def AR(jd je av aC ed:Nat):b_:=[("gen_exp",.f<|bu oU),("gen_log",.f<|.tup<|n9.map .int),("append_error_block",.f<|.hA [(jd,s5 aC)]<|.ref jd),("append_data_block",.f<|.hA [(je,s5 av)]<|.ref je),("data_blocks",.f<|.raw<|.ref av),("error_blocks",.f<|.raw<|.ref aC),("codewords",.f<|.raw<|.ref ed)]
def s_(t:List Int)(o7:aE)(t1 t2 mp:Tok)(mq m6 ju:Int)(jd je av aC ed:Nat):b_:=("range_error_words",.f<|.hA [(o7,DV (gu t) t1 t2 mp)]<|.ref o7)::("gen",.f<|.tup<|t.map .int)::("num_error_words",.f<|.int (gu t))::("ec_info",.f<|.q0 mq m6 ju)::AR jd je av aC ed
def AS(c4:List Int)(o:Nat)(aD:b_):b_:=("error_block",.o<|ha c4)::("len_data",.f<|.int o)::aD
theorem afn(o:Nat):gu (nE o)=o:=by simp[nE]
variable{v:cU}{x:Nat}{t:List Int}{aq:List Int}{o7:aE}{t1 t2 mp:Tok}{jd je av aC ed:Nat}{mq m6 ju:Int}
theorem afo(aM:eF ah)(l:fI aq)(aI:DT t)(ae:gu aq<=1000/\gu t<=100){b0:List fa}{b1:jU->b_->Prop}(c:∀bP,gk (AS (pI t aq (gu aq)) (gu aq)<|s_ t o7 t1 t2 mp mq m6 ju jd je av aC ed) bP->bd (bh ah) x x8 [] bP b0 b1){y:b_}(cz:gk (AS (aq++bX (gu t) 0) (gu aq)<|s_ t o7 t1 t2 mp mq m6 ju jd je av aC ed) y):bd (bh ah) x x8 [] y (((WD)[5]?).getD (.Pass default)::b0) b1:=by
 rwa[ds (@bh _)];intro dx;have G:cy=2^24:=V;rwa[bd.le cz];conv=>arg 6;whnf
 rwa[bd.nu (λm y=>gk (AS (pI t aq m) (gu aq)<|s_ t o7 t1 t2 mp mq m6 ju jd je av aC ed) y) (λu u=>V) (al.range (vZ aM) (al.nm (z:=.int (gu aq)))<|bM (.t .x<|.n 4611686018427387904) [.l .x<|.n 1000] Z ae.1) ?_ ?_]
 .intro m f bP R d9;have aT:m<gu aq:=by simpa[nE]using(j4.mp R).1
  have ŝ:f=.int m:=by rw[nE,eX,nN aT]at R;rw[(ek R).symm]
  rwa[U ŝ];obtain⟨h1,fs⟩:=NR l m;rw[⟨al.t1,bd.le (bP:=("k",.f<|.int m)::AS (pI t aq m) (gu aq) (s_ t o7 t1 t2 mp mq m6 ju jd je av aC ed)) ⟨V,d9⟩<|U (NQ ..) ?_⟩];generalize pI t aq m=c4 at h1 fs;rwa[bd.assign (cI.cast (ai.Q9 (j:=m) al.Ei al.nm (gP _) (rf 211 (.t .x .y) [.t .z .w,.e .y<|.a .w .u,.e0 (.c .x)<|.c .z] Z aT fs<|pg<|bM (.cN (.n 0)<|.c .x) [] Z) h1<|lJ 2111 (.l .x .y) [.l .z<|.n 1000,.l .w<|.n 100,.e .y<|.n 16777216,.e .x<|.a .z .w] Z ae.1 ae.2 G fs)<|U (hF ..) V) Z];have D1:=NO h1 m;rwa[bd.qf (ei.ne al.nm ai.dv λu=>V)];cases aY:(c4.getD m 0 !=0)with
  |false=>
   have nW:c4.getD m 0=0:=by simpa using aY
   rw[bd.nil<|bd.nil ?_];unfold uO;rw[(if_pos nW).symm▸(g9 V)]|true=>
   have nW:¬c4.getD m 0=0:=by simpa using aY
   have aw:=(HB bf NM.1<|om (c4.getD m 0));rwa[bd.assign (ai.TQ (aq:=n9) al.nm al.nm D1.1 (NM.2▸tU (.t .x<|.n 256) [.b2 .x<|.n 256,.e0 (.c .x) .x] Z D1.2 (pg D1.1))<|NM.2▸wy ..) Z];unfold uO;rw[(if_neg nW).symm▸?_];generalize n9.getD (om (c4.getD m 0)) 0=kk at aw;rw[px ?_];intro qI;rwa[bd.nu (λo y=>gk (("lcoef",.f<|.int kk)::("k",.f<|.int m)::AS (oe t m kk o c4) (gu aq) (s_ t o7 t1 t2 mp mq m6 ju jd je av aC ed)) y) (λu u=>V) (fj.afI V Z<|bM (.t .x<|.n 4611686018427387904) [.l .x<|.n 100] Z ae.2) ?_ ?_]
   .intro o f mW R kG;obtain⟨ak,rfl⟩:=Gn R;obtain⟨Oj,Ol⟩:=NP o h1;have Ş:((0:Int)+o*1)=(o:Int):=bM (.e0 (.a (.n 0)<|.r (.c .x) 1)<|.c .x) [] Z;rw[Ş.symm▸⟨al.t1,bd.le (bP:=("n",.f<|.int o)::("lcoef",.f<|.int kk)::("k",.f<|.int m)::AS (oe t m kk o c4) (gu aq) (s_ t o7 t1 t2 mp mq m6 ju jd je av aC ed)) ⟨V,kG⟩<|(show oe t m kk (o+1) c4=(oe t m kk o c4).set (m+o+1) (lc ((oe t m kk o c4).getD (m+o+1) 0)<|oU.getD (om (kk+t.getD o 0)) 0)from V).symm▸?_⟩];generalize oe t m kk o c4=cm at Oj Ol;have qq:=aeC aI o;have bH:((m:Int)+o+1)=((m+o+1)):=by push_cast;rfl
    rw[bd.acu (aG:=oU.getD (om (kk+t.getD o 0)) 0) V Z (cI.cast (ai.add (ai.add al.nm al.nm) ai.dv) bH) (ai.t5 al.nm (ai.add al.nm<|cI.cast (ai.TQ al.nm al.nm (gP _) (by rwa[U (hF ..)];rw[ak])<|fE 211 (.l .x .y) [.l .x<|.n 100,.e .y<|.n 16777216] Z ae.2 G)<|U (hF ..) V) (Kk (.cN (.n 0)<|.a .x .y) [.cN (.n 0) .x,.cN (.n 0) .y] Z aw.1 qq.1) (by rwa[U NN.2];rw[FQ (.t .x<|.n 510) [.b2 .x<|.n 255,.b2 .y<|.n 255,.e0 (.c .x)<|.a .x .y] Z aw.2 qq.2<|pg<|Kk (.cN (.n 0)<|.a .x .y) [.cN (.n 0) .x,.cN (.n 0) .y] Z aw.1 qq.1]) (by rwa[U NN.2];rw[wy ..])) Oj (gP _) (by rwa[U (hF ..)];rw[Zz 21211 (.t (.o<|.a .x .y) .z) [.t .x .w,.e .u<|.a .w<|.v 5,.t .y<|.v 5,.e .z .u] Z aT fs ak Ol]) (by rwa[U (hF ..)];rw[(V1 (o:=8) (NO Oj<|m+o+1)<|V2 (om (kk+t.getD o 0)))]) (rf 2111 (.l .x .y) [.l .z<|.n 1000,.l .w<|.n 100,.e .y<|.n 16777216,.e .u<|.a .z .w,.e .x .u] Z ae.1 ae.2 G fs Ol)<|bd.nil ?_];rw[(g9 V)]
   .rw[(g9 V)]
   .intro mW kG;rw[dg,sP]at kG;rw[bd.nil<|bd.nil ?_];obtain⟨_,_,q⟩:=kG;rw[q]
 .rw[(g9 V)]
 .intro bP d9;rw[afn]at d9;rw[c bP d9]
end
section
inductive x_(av aC aP dE:aE):Prop|mk(f2:av≠aC)(f3:av∉[1940,aP,dE])(gw:aC∉[1940,aP,dE])(j_:1998<=aP)(lL:1998<=dE):x_ av aC aP dE
theorem x_.ci(c:x_ av aC aP dE):∀a∈[aP,dE],a∉[1940]/\a∉[av,aC]:=λa l=>by
 have af:1998<=a:=by
  revert a;rwa[hg ?_]
  .rw[c.4]
  .intro a l;rw[U (bg l) c.5]
 have ej:a∈[1940,aP,dE]:=mt l;rw[⟨λe=>?_,λe=>?_⟩]
 .rw[bg e]at af;rw[absurd af bf]
 .rcases fT.mp e with rfl|e
  .rw[c.2 ej]
  .rw[bg e]at ej;rw[c.3 ej]
variable{v:cU}{x:Nat}{s:cq}{t:List Int}{o7:aE}{t1 t2 mp:Tok}{jd je av aC aP dE ed lw S Q o:Nat}{f4:List aE}{J:Nat->Int}{mq m6 ju:Int}{l7 az:List bj}{y:b_}{b1:jU->b_->Inv->Prop}
noncomputable def lx(J:Nat->Int)(Q o:Nat):List Int:=(cZ o).map λj=>J<|Q+j
theorem afp(aM:eF ah)(aT:x_ av aC aP dE)(aI:DT t)(bi:∀j,0<=J j/\J j<256)(cu:Q+o<=S)(ae:o<=1000/\gu t<=100)(v':gu l7<=1000)(kE:gu az<=1000)(c:∀bP,gk (s_ t o7 t1 t2 mp mq m6 o jd je av aC ed) bP->b1 .next bP (x9 ah.1 s ed lw aP dE f4 S J av aC (Q+o) (l7++[ha<|lx J Q o])<|az++[ha<|pJ t<|lx J Q o]))(cz:gk (s_ t o7 t1 t2 mp mq m6 o jd je av aC ed) y):b' (bh ah) x s x8 (x9 ah.1 s ed lw aP dE f4 S J av aC Q l7 az) y WD b1:=by rwa[ds (@bh _)];intro dx;rw[CQ ?_];intro HV;have G:cy=2^24:=V;have aA:=iV aM;have x':gu (lx J Q o)=o:=(by simp[lx]);have ya:fI (lx J Q o):=(λf R=>by rw[mL R λj u bN=>?_];obtain rfl:=bN;rw[bi _]);rw[b'.le cz<|rH ?_];intro s';have Om:∀(h m7 gz m:Nat)(bU:Option aE)(hz hB hh:Tok),∃D,vN 30 (jy ah.4) m7 gz (q0 (.ref h) "num_data" ag) (λD=>⟨[(h,qy bU mq m6 o hz hB hh m)],0,D,Ap,[],[]⟩) (.int (o:Int) D) (λC=>(C.bq,C.objs.head?,C.objs.tail.map (·.1))) (λu=>([],W (h,qy bU mq m6 o hz hB hh m),[m7])):=λh m7 gz m bU hz hB hh=>⟨hh,Vy h m7 gz m bU mq m6 o hz hB hh ah.4⟩;rwa[b'.wL (dF.afw (jb:=λaq bZ=>aq=lx J Q o/\bZ=x9 ah.1 s ed lw aP dE f4 S J av aC (Q+o) l7 az) av aA Hk (by rintro aq bZ p r L b⟨_,rfl⟩T;rw[(T.snd.fst.2 av bB).1]) λp r L ay aa b ao G I n T A aj=>(dF.words (a1:=hQ 1944 1940) (cw:=(nC av l7).both<|nC aC az) (t:=lw) aM (v3 V) V V (Hj (f:=mq) (B:=m6) (C:=o) aM al.nm Om (λu=>V) λu u=>V) cu (bM (.l .x<|.n 1048576) [.l .x<|.n 1000] Z ae.1) aT.ci ⟨(λe=>nomatch e),λe=>nomatch e⟩ V V V V V V V V) p r L ay aa b ao G I n T A λa4 as z d1 da eZ fM=>aj a4 as z d1 da eZ ⟨lx J Q o,fM.1,⟨V,fM.2⟩,ya,U x'<|a5 ae.1 bf⟩) V<|ds (@x9 _ _ _ _ _ _ _ _ _ _ _ _ _ _)];intro dx;rintro z d1⟨_,a,rfl,ş,rfl,rfl⟩;generalize lx J Q o=aq at x' ya c;rw[b'.B8 (dF.SS (aJ:=l7) (bZ:=x9 ah.1 s ed lw aP dE f4 S J av aC (Q+o) (l7++[ha aq]) az) (S:=je) aM (AH V) (aer aT.2 λe=>aT.1<|bg e) V Z al.nm (aev ş)<|fE 211 (.l .x .y) [.l .x<|.n 1000,.e .y<|.n 16777216] Z v' G) V<|su<|⟨V,(CQ ?_)⟩];intro HV;rw[b'.oa<|bd.assign (z:=.int (gu aq)) (ai.EO (vZ aM) al.SR<|ct (.t .x<|.n 4611686018427387904) [.l .y<|.n 1000,.e .x .y] Z ae.1 x') Z<|bd.nil<|b'.oa<|bd.yu (ai.acp aA al.SR Hk<|fq 211 (.l .x .y) [.l .z<|.n 1000,.e .y<|.n 16777216,.e .x .z] Z ae.1 G x') Z<|bd.nil<|b'.oa<|bd.acs (aq:=aq) (de:=bX (om (gu t:Int)) 0) V Z (ai.vI (C:=0) (ai.list (aJ:=[.int 0]) (fC.g8 ai.dv fC.nl) (by show 1<=cy;decide)) al.nm (gP _)<|bM (.cN (.c .x)<|.n 16777216) [.l .x<|.n 100] Z ae.2) (λf R=>by rwa[U (tC R)];decide) (gg▸rf 2111 (.t (.a .x .y) .z) [.l .w<|.n 1000,.l .u<|.n 100,.e .z<|.n 16777216,.e .x .w,.e0 (.c .y)<|.c .u] Z ae.1 ae.2 G x' (pg<|bM (.cN (.n 0)<|.c .x) [] Z))<|bd.nil ?_];rw[b'.oa<|afo (t:=t) (t1:=t1) (t2:=t2) (mp:=mp) (mq:=mq) (m6:=m6) (ju:=o) (jd:=jd) (je:=je) (av:=av) (aC:=aC) (ed:=ed) aM ya aI (⟨ct (.l .x<|.n 1000) [.l .y<|.n 1000,.e .x .y] Z ae.1 x',ae.2⟩) (λbP Š=>bd.nil<|b'.le Š<|c0 (NR (t:=t) ya (gu aq)) λh1 fs=>rH ?_)<|g9 V];intro s';rw[b'.B8 (dF.SS (aJ:=az) (bZ:=x9 ah.1 s ed lw aP dE f4 S J av aC (Q+o) (l7++[ha aq])<|az++[ha<|pJ t aq]) (S:=jd) aM (AH V) (aes aT.3 λe=>aT.1 (bg e).symm) V Z (ai.acm (o:=aq.length) al.Ei al.nm<|rf 2111 (.l .x .y) [.l .z<|.n 1000,.l .w<|.n 100,.e .y<|.n 16777216,.e .u .z,.e .x<|.a .u .w] Z ae.1 ae.2 G x' fs) aeu<|fE 211 (.l .x .y) [.l .x<|.n 1000,.e .y<|.n 16777216] Z kE G) V<|su<|⟨V,b'.nil<|c _<|g9 V⟩]
end
theorem WE{a9:Type}{M:List a9->Prop}(aM:M [])(G:∀E h,M E->M (E++[h]))(E:List a9):M E:=by
 have:∀q:List a9,M q.reverse:=λq=>by induction q with
  |nil=>rw[aM]|cons h q aW=>rwa[U List.reverse_cons];rw[G _ _ aW]
 rw[List.reverse_reverse E▸this E.reverse]
def mr(J:Nat->Int)(E:List<|Nat×List Int):Nat×List bj×List bj:=E.foldl (λst n=>(st.1+n.1,st.2.1++[ha<|lx J st.1 n.1],st.2.2++[ha<|pJ n.2<|lx J st.1 n.1])) (0,[],[])
theorem On(J:Nat->Int)(E:List<|Nat×List Int)(n:Nat×List Int):mr J (E++[n])=((mr J E).1+n.1,(mr J E).2.1++[ha<|lx J (mr J E).1 n.1],(mr J E).2.2++[ha<|pJ n.2<|lx J (mr J E).1 n.1]):=by unfold mr;rw[y5.symm▸?_];rfl
theorem afr(J:Nat->Int)(E:List<|Nat×List Int):(mr J E).2.1.length=gu E/\(mr J E).2.2.length=gu E/\(mr J E).1=(E.map (·.1)).sum:=by induction E using WE with|aM=>rw[⟨V,V,V⟩]|G E n aW=>
  rw[fb aW λaf am a'=>U (On ..)<|⟨?_,?_,?_⟩]
  .simp[af]
  .simp[am]
  .simp[a']
def wa(v:cU)(s:cq)(ed lw aP dE:Nat)(f4:List aE)(S:Nat)(J:Nat->Int)(av aC:Nat)(E:List<|Nat×List Int):Inv:=x9 v s ed lw aP dE f4 S J av aC (mr J E).1 (mr J E).2.1 (mr J E).2.2
theorem aft{E:List<|Nat×List Int}{o j:Nat}{n:Nat×List Int}(c:((E++bX o n).map (·.1)).sum<=S)(T:j<o):((E++bX j n).map (·.1)).sum+n.1<=S:=by simp only[jg,Qp,BS,List.sum_replicate_nat]at c⊢;have:=BI n.1<|P2 T;rw[y2]at this;rw[zo (.l (.a (.a .x .y) .z) .w) [.l (.a .x .u) .w,.l (.a .y .z) .u] Z c this]
theorem afu(aM:eF ah)(aT:x_ av aC aP dE)(aI:DT t)(aO:xQ (gu t)=W t)(bi:∀j,0<=J j/\J j<256)(ae:a0<=1000/\gu t<=100)(aw:gu E+lv<=500)(bk:((E++bX lv (a0,t)).map (·.1)).sum<=S)(c:∀bP,gk (AR jd je av aC ed) bP->b1 .next bP (wa ah.1 s ed lw aP dE f4 S J av aC<|E++bX lv (a0,t)))(cz:gk (("ec_info",.f<|.q0 lv ((a0+gu t:Nat)) a0)::AR jd je av aC ed) y):b' (bh ah) x s x8 (wa ah.1 s ed lw aP dE f4 S J av aC E) y WC b1:=by
 rwa[ds (@bh _)];intro dx;rw[CQ ?_];intro HV;rwa[b'.le cz];rw[rH ?_];intro s';have š:∀(h m7 gz m:Nat)(bU:Option aE)(hz hB hh:Tok),∃D,vN 30 (jy ah.4) m7 gz (q0 (.ref h) "num_total" ag) (λD=>⟨[(h,qy bU lv ((a0+gu t:Nat)) a0 hz hB hh m)],0,D,Ap,[],[]⟩) (.int ((a0+gu t:Nat)) D) (λC=>(C.bq,C.objs.head?,C.objs.tail.map (·.1))) (λu=>([],W (h,qy bU lv ((a0+gu t:Nat):Int) a0 hz hB hh m),[m7])):=λh m7 gz m bU hz hB hh=>⟨hB,(λa v D=>by cases a<;>cbv)⟩;have Om:∀(h m7 gz m:Nat)(bU:Option aE)(hz hB hh:Tok),∃D,vN 30 (jy ah.4) m7 gz (q0 (.ref h) "num_data" ag) (λD=>⟨[(h,qy bU lv ((a0+gu t:Nat)) a0 hz hB hh m)],0,D,Ap,[],[]⟩) (.int (a0:Int) D) (λC=>(C.bq,C.objs.head?,C.objs.tail.map (·.1))) (λu=>([],W (h,qy bU lv ((a0+gu t:Nat)) a0 hz hB hh m),[m7])):=λh m7 gz m bU hz hB hh=>⟨hh,Vy h m7 gz m bU lv ((a0+gu t:Nat):Int) a0 hz hB hh ah.4⟩;have D9:∀(h m7 gz m:Nat)(bU:Option aE)(hz hB hh:Tok),∃D,vN 30 (jy ah.4) m7 gz (q0 (.ref h) "num_blocks" ag) (λD=>⟨[(h,qy bU lv ((a0+gu t:Nat)) a0 hz hB hh m)],0,D,Ap,[],[]⟩) (.int (lv:Int) D) (λC=>(C.bq,C.objs.head?,C.objs.tail.map (·.1))) (λu=>([],W (h,qy bU lv ((a0+gu t:Nat)) a0 hz hB hh m),[m7])):=λh m7 gz m bU hz hB hh=>⟨hz,(λa v D=>by cases a<;>cbv)⟩;rw[b'.oa<|bd.assign (z:=.int (gu t)) (cI.cast (ai.sub (Hj (C:=a0) aM al.nm š (λu=>V) λu u=>V)<|Hj (B:=((a0+gu t:Nat))) aM al.nm Om (λu=>V) λu u=>V) (by push_cast;rw[ct (.e0 (.s (.a (.c .x)<|.c .y)<|.c .x)<|.c .y) [] Z])) Z<|bd.nil<|b'.oa<|bd.assign (z:=.tup<|t.map .int) (ai.KZ aM al.nm aO) Z<|bd.nil<|b'.wL (dF.range (vZ aM) al.nm) Z ?_];rwa[ds (@pY _ _ _)];intro dx;rintro z d1 fw;rw[c0 fw λhJ j8=>U hJ<|tN j8 λo7 t1 t2 mp j9=>U j9<|b'.nu (λj y an=>gk (s_ t o7 t1 t2 mp lv ((a0+gu t:Nat)) a0 jd je av aC ed) y/\an=wa ah.1 s ed lw aP dE f4 S J av aC (E++bX j (a0,t))) (λu u=>V) (mX.q_ (o:=lv) (iV aM) (Hj aM al.nm D9 (λu=>V) λu u=>V) Aq Z V<|ct (.t .x<|.n 4611686018427387904) [.l (.a .y .x)<|.n 500] Z aw) ?_ ⟨(g9 V),by rw[U List.replicate_zero<|U (tB ..) V]⟩ ?_]
 .rw[ds (@s_ _ _ _ _ _ _ _ _ _ _ _ _ _) ?_];intro dx;rintro j f bP bZ R mN;rw[c0 mN λd9 ob=>U ob<|c0 (Gn R) λT r4=>U r4<|fb (afr J<|E++bX j (a0,t)) λf7 h0 Ţ=>?_];have cp:gu (E++bX j (a0,t))<=1000:=e7▸gg▸eA (.l (.a .x .y)<|.n 1000) [.l (.a .x .z)<|.n 500,.t .y .z] Z aw T;rw[⟨al.t1,afp (o:=a0) (t1:=t1) (mq:=lv) aM aT aI bi (Ţ▸aft bk T) ae (ct (.l .x<|.n 1000) [.e .x .y,.l .y<|.n 1000] Z f7 cp) (ct (.l .x<|.n 1000) [.e .x .y,.l .y<|.n 1000] Z h0 cp) (λmW kG=>⟨kG,(U List.replicate_succ'<|bL (mD ..) ?_)⟩) d9⟩];unfold wa;rw[U (On ..) V]
 .rintro bP bZ yb;rw[c0 yb λd9 D'=>U D'<|U (dg ..)<|U (sP ..)<|b'.nil<|c _<|c0 d9 λu Ea=>c0 Ea λu ţ=>c0 ţ λu Oo=>c0 Oo λu q=>q]
noncomputable abbrev Lay:=Nat×Nat×List Int
noncomputable def yd(i:Lay):bj:=.q0 i.1 ((i.2.1+gu i.2.2:Nat):Int) i.2.1
noncomputable def hm(az:List Lay):List (Nat×List Int):=az.flatMap λi=>bX i.1 i.2
theorem afv(j:Nat):gu (hm<|az.take j)<=gu (hm az)/\((hm<|az.take j).map (·.1)).sum<=((hm az).map (·.1)).sum:=by
 have:hm az=hm (az.take j)++hm (az.drop j):=by unfold hm;rw[bL JC<|U (sl ..) V]
 rw[U this<|U e7<|U jg<|U Qp<|⟨hf _ _,hf _ _⟩]
inductive AT(az:List Lay)(S:Nat):Prop|mk(f2:∀i∈az,DT i.2.2/\xQ (gu i.2.2)=W i.2.2/\i.2.1<=1000/\gu i.2.2<=100)(f3:gu (hm az)<=500)(gw:((hm az).map (·.1)).sum<=S):AT az S
theorem afx(E:List Bool):∀(h:Int),0<=h->0<=E.foldl (λh a=>2*h+(bif a then 1 else 0)) h/\E.foldl (λh a=>2*h+(bif a then 1 else 0)) h<(h+1)*2^gu E:=by induction E with
 |nil=>intro h c;rw[⟨c,by simp;rw[nT (.b2 .x<|.o .x) [] Z]⟩]|cons a E a3=>
  intro h c;have l:(0:Int)<=(bif a then 1 else 0)/\(bif a then(1:Int)else 0)<=1:=by cases a<;>decide
  rw[c0 (a3 (2*h+(bif a then 1 else 0))<|I6 (PQ bf c) l.1) λaf am=>⟨af,Int.lt_of_lt_of_le am ?_⟩];have i:(h+1)*2^gu (a::E)=(2*(h+1))*2^gu E:=U gt<|U (Int.pow_succ ..)<|U (E_ _ 2)<|bL (I2 ..)<|U (E_ (h+1) 2) V;rw[i.symm▸Int.mul_le_mul_of_nonneg_right (U (Bz ..)<|U (Int.add_assoc ..)<|Int.add_le_add_left (Int.add_le_add_right l.2 1) _) (Int.pow_nonneg bf)]
theorem afy(o:Nat):valOf (bX o be)=0:=by unfold valOf;induction o with|zero=>rfl|succ o aW=>rwa[U l'<|U Fn];rw[aW]
theorem afz(a6:List Bool)(j:Nat):0<=jz a6 j/\jz a6 j<256:=by
 unfold jz;by_cases c:8*j<gu a6
 .have:=(by have:=afx (s4 a6<|8*j) 0 bf;simpa[valOf]using this);rw[chunk_len c]at this;rw[this]
 .unfold s4;rw[U (wC (by rw[ct (.l .x<|.m 8 .y) [.i5 (.m 8 .y) .x] Z c]))<|U List.take_nil<|U (JA ..)<|U (afy ..) ?_];decide
theorem afA(aM:eF ah)(kE:AT az<|(gu a6+7)/8)(ae:gu a6<=2^20):b' (bh ah) (x+1) s x8 (hQ 1944 1940) [("buff",.f<|.buf<|br<|gM a6),("ec_infos",.f<|.tup<|az.map yd)] ((hv<|dq aU 18).take 8) (λc2 bP bZ=>c2=.next/\∃ed lw aP dE f4 jd je av aC,gk (AR jd je av aC ed) bP/\x_ av aC aP dE/\bZ=wa ah.1 s ed lw aP dE f4 ((gu a6+7)/8) (jz a6) av aC (hm az)):=by
 rwa[ds (@bh _)];intro dx;rw[xp ?_];intro AU;rw[rH ?_];intro s';have gE:=vZ aM;have aA:=iV aM;conv=>arg 7;whnf
 rw[b'.doc ?_];conv=>arg 7;whnf
 rwa[b'.wL (dF.afq aM (v3 V) (by rfl) Z ae) Z];rintro z d1 bN;rw[Y2 bN λed aP lw dE f4 cB dt eI KC=>U cB ?_];obtain rfl:=dt;rw[CQ ?_];intro HV;rw[rH ?_];intro s';conv=>arg 7;whnf
 rwa[b'.afs (B:="error_blocks") aM.2 (v3 V) Z Z (λp bq=>by rfl) ?_]
 .intro p bq;have i:p={p with scope:=x8}:=bL bq V;rwa[U i]
  cbv
 intro av aC DO c7 hl;rw[CQ ?_];intro HV;rw[rH ?_];intro s';have aT:x_ av aC aP dE:=⟨DO,λe=>c7 ?_,λe=>hl ?_,eI,KC⟩
 .conv=>arg 7;whnf
  rwa[b'.wL (dF.SO (aJ:=[]) aM (by rfl) Z λp r L b c=>c.snd.fst) Z];rintro z d1 eh;rw[c0 eh λfd gS=>c1 gS λje gT=>U fd ?_];obtain rfl:=gT;rw[rH ?_];intro s';conv=>arg 7;whnf
  rwa[b'.wL (dF.SO (aJ:=[]) aM (by rfl) Z λp r L b c=>c.snd.snd) Z];rintro z d1 hK;rw[c0 hK λjp j'=>c1 j' λjd kW=>U jp ?_];obtain rfl:=kW;rw[rH ?_];intro s';conv=>arg 7;whnf
  rw[b'.oa<|bd.assign (ai.glob (iV aM) (by cbv) (aec aM) (by cbv)) Z<|bd.nil<|b'.oa<|bd.assign (ai.glob (iV aM) (by cbv) (aed aM) (by cbv)) Z<|bd.nil<|b'.nu (λj y an=>gk (AR jd je av aC ed) y/\an=wa ah.1 s ed lw aP dE f4 ((gu a6+7)/8) (jz a6) av aC (hm<|az.take j)) (λu u=>V) (mX.tup<|ai.name V Z) ?_ ⟨(g9 V),V⟩ ?_]
  .rw[ds (@AR _ _ _ _ _) ?_];intro dx;rintro j f bP bZ R mR;rw[c0 mR λd9 n2=>U n2<|ds (@wa _ _ _ _ _ _ _ _ _ _ _ _) ?_];intro dx;replace R:=(eX)▸R;rw[wQ R λi bq uk=>bL uk<|lG (kE.1 i<|j3 bq) λdO d5 eb e9=>?_];have fA:hm (az.take<|j+1)=hm (az.take j)++bX i.1 i.2:=(by rwa[U List.take_succ<|U bq];simp[hm]);rw[c0 (afv (az:=az)<|j+1) λfg fD=>?_];have cp:=kE.2;have Ť:=kE.3;obtain⟨lv,a0,t⟩:=i;rw[fA]at fg fD;rw[e7,gg]at fg;rw[⟨al.t1,afu (a0:=a0) (t:=t) aM aT dO d5 (afz a6) ⟨eb,e9⟩ (a5 fg cp) (a5 fD Ť) (λmW kG=>⟨kG,U fA V⟩) ⟨V,d9⟩⟩]
  .rintro bP bZ ul;rw[c0 ul λd9 rt=>U rt<|U (dg ..)<|U wA<|b'.nil ⟨V,(Zl ed lw aP dE f4 jd je av aC d9 aT V)⟩]
 .rw[dw e (λe=>b7<|hG.mpr e) λe=>bR e]
 .rw[dw e (λe=>b7<|hG.mpr e) λe=>bR e]
section
theorem afB{S:cM}{v:cU}{p:Env}{y:Ctx}{mn:List fa}{K:gO->au->Prop}(mm:List fa):∀(n:Pos)(b:au),j5 (cD S v) y (d3 mm p) (λJ bs w=>J=.next/\j5 (cD S v) y (d3 mn p) (λJ u w=>K J w) (λu u u=>False) bs w) (λu u u=>False) n b->j5 (cD S v) y (d3 (mm++mn) p) (λJ u w=>K J w) (λu u u=>False) n b:=by induction mm with|nil=>intro n b c;rw[wt]at c;rw[c.2]|cons st E a3=>intro n b c;rwa[U u5<|U (qW ..)];rw[qW]at c;rw[za]at c⊢;rw[mF _ y _ (λJ bs w bi=>?_) (λu u u f=>f) n b c];cases J with|next=>rw[a3 bs w bi]|brk=>rw[nomatch bi.1]|cont=>rw[nomatch bi.1]|ret z=>rw[nomatch bi.1]
theorem Eb{ſ:cM}{v:cU}{s:cq}{p:Env}{b:au}{mm mn:List fa}{K:gO->au->Prop}(c:Y ſ v s (d3 mm p) (λJ w=>J=.next/\Y ſ v s (d3 mn p) K w) b):Y ſ v s (d3 (mm++mn) p) K b:=λy n aM af am=>afB mm n b<|mF _ y _ (λJ bs w bi=>⟨bi.1,bi.2 y bs aM af am⟩) (λu u u f=>f) n b<|c y n aM af am
variable{g:ea}{p Op:Env}{r L ay:List aE}{aa:Nat}{b w:au}{an:Inv}
theorem Inv.At.into(T:an.At g p r L b)(dZ:∀a∈cc Op,(aB b)<=a)(t:bb [] [] b w):an.At g Op (cc Op++r) [] w:=by have c:=(T.wide (λa l=>bR l) λa l=>bS l (λe=>.inr<|dZ a e) .inl).it t aR aR;rw[⟨c.1,λa l=>⟨(c.2 a l).1,(λe=>db e),λe=>b2 (T.2 a l).2.2.2.2<|dZ a e,(c.2 a l).2.2.2⟩,c.3⟩]
variable{ab:Nat}{x:Nat}{s:cq}{a6:List Bool}{az:List Lay}{y:b_}{aV:List aF}{A:aF->au->Prop}
def Ec(M:cY)(ab:Nat):FuncData:=fdOf<|GL aU M ab
theorem WF(M:cY)(ab:Nat):(e6 M ab).get 1900=W (GL aU M ab):=by cbv
theorem afC(M:cY)(ab:Nat):(e6 M ab).get 1899=W (UB aU M ab):=by cbv
def HW(a6:List Bool)(az:List Lay):bj:=.tup [.lst (mr (jz a6)<|hm az).2.1,.lst (mr (jz a6)<|hm az).2.2]
theorem afD(aM:eF ah)(ao:eW (x+2) s)(I:cx (bh ah) p r L ay aa)(n:bG (bh ah) p r L aa y b)(cV:(hQ 1944 1940).At (bh ah) p r L b)(aQ:oM aa r [(.cH,.tup<|az.map yd),(.cH,.buf<|br<|gM a6)] b aV)(kE:AT az<|(gu a6+7)/8)(ae:gu a6<=2^20)(aj:∀h N o av ye Ed aC AV Ee w,bb [1940] [] b w->(hQ 1944 1940).At (bh ah) p r L w->gU (bh ah) w->h∉r->Ű (Q7 w) h=W {cls:=.type "tuple",data:=.seq N o}->N.toList=[.ref av,.ref aC]->av∉r->Ű (Q7 w) av=W {cls:=.type "list",data:=.seq ye Ed}->b9 w.heap r (mr (jz a6)<|hm az).2.1 ye.toList->(∀z∈ye.toList,∀f,z=.ref f->av<=f)->(aB b)<=av->aC∉r->Ű (Q7 w) aC=W {cls:=.type "list",data:=.seq AV Ee}->b9 w.heap r (mr (jz a6)<|hm az).2.2 AV.toList->A (.ref h) w):Y aU ah.1 s (eS (.ref 1900) aV []) A b:=by
 rw[g4 λu bW=>d7 aQ λhP u bN u cB=>d7 cB λlY u dt u Oq=>?_];obtain rfl:=bN;obtain rfl:=dt;have Ot:_=[]:=Oq;subst Ot;rw[bW<|CX (eH:=["ec_infos","buff"]) (iV aM) ao ((show FnAt b 1900 (Ec (ų ah.1) ah.4) (hv<|dq aU 18)from(xW aM n.2 (WF ..) V V V (afC ..) V V V V V V V))) V V I n aQ V (tL V) Z λw dZ cd eo bs go=>d8 ?_];intro eg;have jw:(c5 (Ec (ų ah.1) ah.4) 1900 b).scope=x8:=V;generalize s.deeper (c5 (Ec (ų ah.1) ah.4) 1900 b)=k4 at*;generalize c5 (Ec (ų ah.1) ah.4) 1900 b=eE at*;rw[Eb<|Y.mono (afA aM kE ae eE (cc eE++r) [] r _ w go jw eo bs<|cV.into dZ cd)<|ds (@HDiv.hDiv _ _ _ _ _ _) ?_];intro dx;rintro J as eh;rw[eh.gp λc2 lS da iA eZ d1 fd akF dJ gS gA=>c0 fd λfw hJ=>?_];obtain rfl:=fw;rw[Y7 hJ λed lw aP dE f4 jd je av aC rk aT j8=>?_];obtain rfl:=j8;rw[fb gS λj9 hM dd=>U j9<|⟨V,?_⟩];have WG:=dd.le λf bz e=>rk.has e;have HX:∀a∈r,a∈da:=λa l=>dJ.1 a<|bR l;have jt:∀a∈r,a<(aB b):=λa l=>cg (I.8 a l) n.1;have aK:bb [1940] [] b as:=(cd.mono aR aR).hj dJ.6 (λa l=>by
  rw[bS l (λe=>?_) λe=>?_]
  .rw[bS e (λe=>?_) λe=>?_]
   .rw[db e]
   .rw[.inr<|fY<|dZ a e]
  .rw[.inl e]) aR;have WH:∀a∈[av,aC],(aB b)<=a:=λa l=>by
  have bV:a∈(wa ah.1 k4 ed lw aP dE f4 ((gu a6+7)/8) (jz a6) av aC<|hm az).W:=bR l;rcases dJ.4 a bV with C|C
  .have:a≠1940:=λi=>by subst i;rw[dw l (λi=>aT.2<|i▸bB) λl=>aT.3<|bg l▸bB]
   rw[absurd (bg C) this]
  .rw[a5 cd.2 C]
 have WI:∀a∈[av,aC],a∉r:=λa l e=>b2 (jt a e)<|WH a l;conv=>arg 4;arg 1;whnf
 rw[Y.eq (U (qW ..)<|U (exec_Return_some ..) V)<|Y.bind<|dH<|Y.bind<|(ai.tuple (fC.g8 (al.nm)<|fC.g8 (al.nm) fC.nl) (by show 2<=cy;decide)) k4 eE da iA r eZ go jw hM as _ WG λa4 ar a7 x7=>d8 ?_];intro eg;have ip:=gA.it a7 aR aR;have iS:bb [1940] [] b ar:=aK.trans<|a7.mono aR aR;rw[g4 λu bW=>mb x7 λh N o gT aS aL ap=>?_];obtain rfl:=gT;rw[bW ?_];rw[d7 (by rw[d7 ap λz E i e q=>?_];rw[⟨z,E,i,e,q⟩]:∃xx f7,N.toList=xx::f7/\xx=.ref av/\b9 ar.heap da [.raw<|.ref aC] f7) λxx f7 bH dm ap=>?_];rw[d7 (by rw[d7 ap λz E i e q=>?_];rw[⟨z,E,i,e,q⟩]:∃C0 h0,f7=C0::h0/\C0=.ref aC/\b9 ar.heap da [] h0) λC0 h0 cm el ap=>?_];rw[g4 λu bW=>?_];subst ap cm dm el;have fZ:∀a k,a∉da->Ű (Q7 ar) a=W k->Ű (Q7 ar) a=W k/\a∉r:=λa k l i=>⟨i,λe=>l<|HX a e⟩;rw[fb ip.snd.fst.1 λc7 hK ť=>fW hK λye Ed HY Ou=>fb ip.snd.snd.1 λhl jp akG=>fW jp λAV Ee Ov Ow=>c0 ip.fst.fst.1 λNF j'=>c1 j' λc3 lU=>bW<|Y.pure<|Y.pure<|⟨_,V,aj h N o av ye Ed aC AV Ee ar iS ⟨⟨λe=>NF<|HX _ e,c3,lU⟩,λa l=>kO (cV.2 a l) λdO d5 eb e9 f_=>⟨dO,d5,eb,e9,cg f_ iS.2⟩,aR⟩ (WG.grow a7).2 (λe=>aS<|HX _ e) aL bH (WI av<|bB) HY (b9.to fZ _ _ Ou) (ť _ _ HY) (WH av<|bB) (WI aC<|mt bB) Ov<|b9.to fZ _ _ Ow⟩]
theorem afE(aM:eF ah)(ao:eW (x+2) s)(I:cx (bh ah) p r L ay aa)(n:bG (bh ah) p r L aa y b)(cV:(hQ 1944 1940).At (bh ah) p r L b)(aQ:oM aa r [(.cH,.tup<|az.map yd),(.cH,.buf<|br<|gM a6)] b aV)(kE:AT az<|(gu a6+7)/8)(ae:gu a6<=2^20)(aj:∀a4 w,bb [1940] [] b w->(hQ 1944 1940).At (bh ah) p r L w->gU (bh ah) w->ck w.heap r (HW a6 az) a4->A a4 w):Y aU ah.1 s (eS (.ref 1900) aV []) A b:=by
 rw[afD aM ao I n cV aQ kE ae λh N o av ye Ed aC AV Ee w t Ŧ l aS aL bH c7 HY Ou u u hl Ov Ow=>aj _ w t Ŧ l<|⟨h,N,o,V,aS,aL,(U bH<|(⟨_,_,V,?_,?_⟩))⟩]
 .rw[⟨av,ye,Ed,V,c7,HY,Ou⟩]
 .rw[⟨_,_,V,(⟨aC,AV,Ee,V,hl,Ov,Ow⟩),by rw[V]⟩]
end
def pN:Scope:=fH<|dq aU 17
noncomputable def afF:fa->Pos|.FunctionDef cR e3 ur C7 õ akH akI akJ akK n=>n|_=>default
def HZ:Pos:=afF jX
noncomputable def AW:Str:="make_final_message.<locals>.to_binary"
def afG:Inv where
 W:=[1892]
 G:=[]
 St:=λr b=>1894∉r/\∃c3,TabAt b.heap 1894 1892 c3/\codeAmong HZ c3.toList=aX
 frame:=λr b w cL cf c t dz u=>by
  rw[c0 c λaY bN=>bt bN λc3 bC aA=>⟨aY,(dj c3 (bC.kept λa l k i=>t.1 a k (λdf=>?_) i) aA)⟩];rcases l with rfl|rfl
  .rw[aY (dz _ df).1]
  .rw[(dz _ df).2 bB]
 mono:=λr bx b c cC=>by rw[c0 c λaY cB=>bt cB λc3 bC aA=>⟨λdf=>(cC _ df).elim aY λC=>b2 bC.1.lt.1 C,(dj c3 bC aA)⟩]
def yf(bm cT:aE):Inv where
 W:=[1892,cT]
 G:=[]
 St:=λr b=>1894∉r/\bm∉r/\1998<=bm/\1998<=cT/\(∃c3,TabAt b.heap 1894 1892 c3/\codeAmong HZ c3.toList=W (.ref bm))/\(∃c3,TabAt b.heap bm cT c3)/\b.heap.CodeRec (.ref bm) AW
 frame:=λr b w cL cf c t dz u=>by
  rw[g4 λu bW=>sp c λaY aA af am fw hJ j8=>bt fw λc3 bC sB=>c1 hJ λEf Eg=>Ka j8 λe k N D i aI q=>?_];cases i;rw[bW<|⟨aY,aA,af,am,⟨c3,bC.kept λa l k i=>t.1 a k (λdf=>?_) i,sB⟩,⟨Ef,Eg.kept λa l k i=>t.1 a k (λdf=>?_) i⟩,bm,k,N,D,V,t.1 _ _ (λdf=>aA (dz _ df).1) aI,q⟩]
  .rcases l with rfl|rfl
   .rw[aY (dz _ df).1]
   .rw[(dz _ df).2 bB]
  .rcases l with rfl|rfl
   .rw[aA (dz _ df).1]
   .rw[(dz _ df).2<|mt bB]
 mono:=λr bx b c cC=>by rw[g4 λu bW=>sp c λaY aA af am j9 mN a'=>bt j9 λc3 bC sB=>c1 mN λEf Eg=>bW<|⟨λdf=>(cC _ df).elim aY λC=>b2 bC.1.lt.1 C,λdf=>(cC _ df).elim aA λC=>b2 Eg.1.lt.1 C,af,am,⟨c3,bC,sB⟩,⟨Ef,Eg⟩,a'⟩]
def k7:Option (aE×aE)->Inv|none=>afG|some e=>yf e.1 e.2
def WJ(bm e_:aE)(nm:aF):FuncData:={name:="to_binary",qualname:=AW,params:=ut jX,body:=.stmts<|hv jX,scope:=fH jX,globals:=3,closure:=[],closureTuple:=.none,code:=.ref bm,builtins:=0,defaults:=.ref e_,kwdefaults:=.none,annotations:=aX,pyModule:=nm,doc:=.none}
def ta(bm e_:aE)(nm:aF):Obj:={cls:=.type "function",data:=.func<|WJ bm e_ nm}
noncomputable def Ox(D:Tok):Obj:={cls:=.type "tuple",data:=.seq #[.int 8 D]}
def yg(J bm e_:aE)(nm:aF)(D:Tok):bj:=.hA [(J,ta bm e_ nm),(e_,Ox D)]<|.ref J
theorem afH:∃xz,jX=.FunctionDef "to_binary" (ut jX) (hv jX) [] aX [] (fH jX) aX "to_binary" HZ/\(ut jX).defaults=[.Constant (.int 8) 0 xz]/\(ut jX).kw_defaults=[]/\(ut jX).kwonlyargs=[]:=(tP _ V V V V)
theorem afJ(p:Env):annTrees (ut jX) aX p=[]:=rfl
theorem afK(gx:1998<=(aB b))(cC:∀a∈r,a<(aB b))(AX:p.code=.ref 1894)(c:(k7 k).St r b)(aj:∀bm cT a_ X fJ,(∀a∈a_,(aB b)<=a)->B1 1892 b.heap X->(aB b)<=Ų (ű X)->(∀a∈a_,a<Ų (ű X))->(∃c3 eB,TabAt b.heap 1894 1892 c3/\TabAt X 1894 1892 (c3++eB))->(k7<|W (bm,cT)).St (a_++r) {b with heap:=X,toks:=fJ}->(k=W (bm,cT)/\a_=[]\/k=aX/\a_=[cT])->A (.ref bm) {b with heap:=X,toks:=fJ}):ce aN s (functionCode p HZ c2 name AW (ut jX) (fH jX)<|.stmts<|hv jX) A aC b:=by cases k with
 |none=>
  rw[g4 λu bW=>c0 c λaY ob=>bt ob λc3 bC aA=>bW<|wpAny_functionCodeX AX bC.1 bC.2 aA λbm X fJ bq af am a' cJ ez⟨cT,z1,jj,tQ⟩=>aj bm cT [cT] X fJ (λa l=>(bg l).symm▸z1) bq (mB<|mA af am) (λa l=>bg l▸(⟨jj,tQ⟩:TabAt X bm cT #[]).1.lt.2) ⟨c3,_,bC,a',ez⟩ (⟨λe=>?_,λe=>?_,a5 gx af,a5 gx z1,⟨_,⟨a',ez⟩,?_⟩,⟨#[],jj,tQ⟩,cJ⟩)<|.inr ⟨V,V⟩]
  .rw[dw e (λe=>b2 (e▸bC.1.lt.1) z1) λe=>aY e]
  .rw[dw e (λe=>((⟨jj,tQ⟩:TabAt X bm cT #[]).ne) e) λe=>b2 (cC _ e) af]
  .rw[U Array.toList_append<|codeAmong_snoc _ bC.triples aA]|some e=>rw[g4 λu bW=>?_];obtain⟨bm,cT⟩:=e;rw[sp (id c) λaY aA af am r4 yb a'=>bt r4 λc3 bC sB=>c1 yb λEf Eg=>bW<|wpAny_functionCode_hit AX bC.1 sB<|aj bm cT [] b.heap b.toks aR (J1 _ _) (dr _) aR ⟨c3,#[],bC,JK▸bC⟩ c<|.inl ⟨V,V⟩]
section
variable{x:Nat}{s:cq}{p:Env}{r L ay:List aE}{aa:Nat}{b:au}{k:Option<|aE×aE}{y:b_}{a1:Inv}{b0:List fa}{K:gO->au->Prop}
theorem afL(p:Env):wu (fH jX) p=dB []:=by rfl
theorem afM(aM:eF ah)(no:p.scope=pN)(AX:p.code=.ref 1894)(aY:qualnameIn p "to_binary" "to_binary"=AW)(ao:eW x s)(cz:nz y)(I:cx (bh ah) p r L ay aa)(n:bG (bh ah) p r L aa y b)(T:(k7 k).At (bh ah) p r L b)(cV:a1.At (bh ah) p r L b)(ŧ:1892∉a1.W)(c:∀bm cT J e_ nm D w a_ c',(k=W (bm,cT)/\a_=[]\/k=aX/\a_=[cT])->(∀a∈a_,(aB b)<=a)->bb (cc p++[1892]) [] b w->cx (bh ah) p (a_++r) L ay c'->bG (bh ah) p (a_++r) L c' (("to_binary",.f<|yg J bm e_ nm D)::y) w->(k7<|W (bm,cT)).At (bh ah) p (a_++r) L w->a1.At (bh ah) p (a_++r) L w->Y aU ah.1 s (d3 b0 p) K w):Y aU ah.1 s (d3 (jX::b0) p) K b:=by
 rw[jh afH λxz bH cm eO hu=>?_];have Eh:=Hr aM;have WK:1998<=(aB b):=a5 aM.2 n.2.1.2;rw[U (qW ..)<|U bH<|U (exec_def ..)<|U aY<|U (defaultsOf_eq ..)<|U cm<|U eO<|U (afJ ..) ?_];rw[Y.bind<|dH ?_];rw[d8 ?_];intro eg;rw[dC<|kK ?_];rw[jm ?_];intro jI;rw[bc<|wpAny_evalAll_consts _ _ _ (λi bq=>by rwa[U (bg bq)];rfl) λN zs rU=>?_];rw[kQ<|cr ?_];rw[kK<|lH ?_];rwa[iG (by rw[U (makeFunction_eq ..)<|U hu V])];rw[c1 (by cases N with|nil=>rw[nomatch rU]|cons z q=>cases q with
   |nil=>rw[c1 rU.1 λD fw=>?_];rwa[U fw];rw[⟨D,V⟩]|cons _ _=>rw[nomatch rU.2]:∃D,N=[.int 8 D]) λD bN=>?_];rwa[U bN];rw[bc<|wpAny_newTextTuple<|lH<|lH ?_];simp only[makeTail,List.isEmpty_nil,if_true,pure_bind,afL];generalize fX:({b with heap:=b.heap.push {cls:=.type "tuple",data:=.seq [tG 8 D].toArray},toks:=zs}:au)=as;have aK:bb [] [] b as:=fX▸(bK.push b _ _);have sU:(aB as)=(aB b)+1:=bL fX<|f' ..;have Ũ:Ű (Q7 as) (aB b)=W (Ox D):=bL fX<|fu _ V;have gA:=T.it aK aR aR;have dd:=n.now.grow aK;have Do:∀a∈r,a<(aB as):=λa l=>cg ((I.up (c':=(aB b)) n.1).8 a l) aK.2;have gx:1998<=(aB as):=a5 WK aK.2;rw[bc<|afK gx Do AX gA.1 λbm cT a_ X fJ qt ũ d4 Ū⟨c3,eB,bC,sG⟩fA aL=>?_];have a7:bb [1892] [] as {as with heap:=X,toks:=fJ}:=bK.heap (λa k l i=>ũ a k (λe=>l<|hG.mpr e) i) d4;generalize hY:({as with heap:=X,toks:=fJ}:au)=ar at a7 fA;have mP:∀a k,a<(aB ah.2)->a∉(bh ah).tabs->Ű (Q7 ah.2) a=W k->Ű (Q7 ar) a=W k:=λa k l bC i=>a7.1 a k (λe=>bC<|l1.mpr<|.inl<|bg e)<|dd.2.1.1 a k bC i;rw[I.2.symm▸I.3.symm▸bc (Eh.2 _ _ _ _ mP ?_)];have WL:gU (bh ah) ar:=dd.2.SJ (.inl<|l1.mpr<|.inl V) a7 bC<|bL hY sG;have lO:=(WL.ns Eh.1).1;rwa[bc<|wpAny_nsGet lO];rw[lH<|jE ?_ (by size_fits)];generalize am2:((bh ah).mg "__name__").getD .none=nm;have ht:(aB ah.2)<=(aB as):=dd.2.1.2;have WM:(1892:aE)∈r:=(T.2 1892 (by cases k<;>rw[bB])).1;have ū:(1892:aE)∉cc p:=(T.2 1892 (by cases k<;>rw[bB])).2.2.1;have hM:=I.up (c':=(aB as))<|a5 n.1 aK.2;have nG:∀a∈a_,(aB as)<=a/\a<(aB ar):=λa l=>⟨qt a l,bL hY<|Ū a l⟩;have qJ:cx (bh ah) p (a_++r) L ay (aB ar):=hM.l3 nG ht a7.2;have dD:bG (bh ah) p (a_++r) L (aB ar) y ar:=dd.Bs cz (cL:=[1892]) (λC ae=>U (bg ae) WM) (λC ae=>U (bg ae) ū) a7 WL λa l=>(nG a l).1;have Ŭ:(aB b)≠1892:=λe=>absurd (e▸WK) bf;have jt:∀a∈r,a<(aB b):=λa l=>cg (I.8 a l) n.1;have ŭ:(aB b)∉a_++r:=λe=>bS e (λe=>absurd (nG _ e).1<|U sU<|bM (.nl (.o .x) .x) [] Z) λe=>ia _<|jt _ e;have Ů:a1.At (bh ah) p (a_++r) L ar:=((cV.it aK aR aR).wide (λa l=>bR l) λa l=>bS l (λe=>.inr (nG a e).1) .inl).it a7 (λa l=>U (bg l)<|⟨bR WM,ŧ⟩) aR;have ip:(k7<|W (bm,cT)).At (bh ah) p (a_++r) L ar:=by
  rw[⟨fA,λa l=>?_,aR⟩];have cK:a=1892\/(∃g,k=W (g,a))\/a∈a_:=by
   rw[dw l (λe=>?_) λe=>?_]
   .rw[.inl e]
   .rw[(bg e).symm▸?_];rcases aL with⟨i,_⟩|⟨_,i⟩
    .rw[.inr<|.inl ⟨bm,i⟩]
    .rw[U i<|.inr<|.inr bB]
  have rr:a∈(k7 k).W->a∈a_++r/\a∉L/\a∉cc p/\(a∈(bh ah).tabs\/(aB ah.2)<=a)/\a<(aB ar):=λe=>by rw[kO (gA.2 a e) λdO d5 eb e9 f_=>⟨bR dO,d5,eb,e9,cg f_ a7.2⟩]
  rcases cK with e|⟨g,e⟩|e
  .rw[rr<|e▸by cases k<;>rw[bB]]
  .rw[rr<|U e<|mt bB]
  .have vG:=(nG a e).1;rw[⟨b7 e,λdf=>b2 (Do a (I.5 a df).1) vG,λdf=>b2 (Do a (I.4 a df).1) vG,.inr<|a5 ht vG,(nG a e).2⟩]--qc function object
 rw[dH ?_];have b4:bb [] [] ar {ar with heap:=ar.heap.push<|ta bm (aB b) nm}:=bK.push ar _ ar.toks;have WN:({ar with heap:=ar.heap.push<|ta bm (aB b) nm}:au).heap.get? (aB ar)=W (ta bm (aB b) nm):=fu _ V;rw[(?_:Y _ _ s _ _ {ar with heap:=ar.heap.push<|ta bm (aB b) nm})];generalize({ar with heap:=ar.heap.push<|ta bm (aB b) nm}:au)=co at b4 WN;have Nx:ck co.heap (a_++r) (yg (aB ar) bm (aB b) nm D) (.ref<|aB ar):=by
  rw[⟨V,λe aY=>?_⟩]
  revert e;rwa[hg ?_]
  .rw[⟨λC=>ia _<|qJ.8 _ C,WN⟩]
  .intro e aY;rw[(bg aY).symm▸⟨ŭ,b4.all _ _<|a7.1 _ _ (λe=>Ŭ<|bg e) Ũ⟩]
 rw[Y.bind<|sF (a:=be) qJ (dD.grow b4) Nx (by rwa[U no];cbv) λcv eL qA=>Y.pure ?_];rw[c bm cT _ _ nm D cv a_ _ aL (λa l=>a5 aK.2 (nG a l).1) ?_ qJ qA ((ip.it b4 aR aR).off qJ eL λa l=>.inr l)<|(Ů.it b4 aR aR).off qJ eL λa l=>.inr l];rw[(((aK.mono aR aR).trans<|a7.mono (λa l=>bR l) aR).trans<|b4.mono aR aR).trans<|eL.mono (λa l=>b7 l) aR]
end
theorem dF.ahq(aM:eF ah)(cz:nz y)(d9:1940∉gd.W)(aS:hO (bh ah) (x+2) O y gF [(.cH,.tup<|az.map yd),(.cH,.buf<|br<|gM a6)])(kE:AT az<|(gu a6+7)/8)(ae:gu a6<=2^20)(xm:gu gF<20)(R:fe O "make_blocks"=ag:=by cbv):dF (bh ah) (x+2) s O ((hQ 1944 1940).both gd) y (.Call (.Name "make_blocks" e) gF [] ax) (λz bZ=>z=HW a6 az/\bZ=(hQ 1944 1940).both gd):=λp r L ay aa b ao G I n T A aj=>by
 have iz:=G▸R
 .rw[Y.bind<|sz (a_:=[]) (aD:=[]) (h3 (iV aM) I ad2 iz) (w7 iz) b _ n λa4 as aK lW=>U lW ?_];have dd:=n.grow aK;have gA:=T.it aK aR aR;rwa[zF (k:=GL aU (ų ah.1) ah.4) (bp:=Ec (ų ah.1) ah.4) (M:=λD=>bG (bh ah) p r L aa y D/\((hQ 1944 1940).both gd).At (bh ah) p r L D) aS.star xm (λD A n e aj=>aS.t6 ao G I D A n e.1 aj) ⟨dd,gA⟩ (λD e=>aM.sub e.1.2 _ _ _ (WF ..) V) V (λD fp e t=>⟨e.1.grow t,e.2.it t aR aR⟩)];intro aV ar a7 aQ;have dD:=dd.grow a7;have ip:=gA.it a7 aR aR;rw[afE aM ao I dD ip.fst aQ kE ae λa4 co b4 cV Oy q=>?_];have r0:=ip.fst.2 1940 bB;rw[aj a4 co (HW a6 az) _ r aa ⟨V,V⟩ ⟨λu c=>c,λu c=>.inl c,λu c=>.inl c,λu c=>.inl c,λu c=>.inl c,(((aK.trans a7).mono aR aR).trans<|b4.mono (λa l=>bR<|b7 l) aR)⟩ I (dD.yT cz (λC ae=>(bg ae).symm▸r0.1) (λC ae=>bg ae▸r0.2.2.1) b4 Oy) (cV.both<|ip.snd.it b4 (λa l=>bg l▸⟨r0.1,d9⟩) aR) q]
namespace b'
theorem ahr(bq:dF g x s O an y i λz bZ=>z=.tup N/\bZ=an)(ak:pt az=W aJ)(aw:gu N=gu aJ)(aL:aJ.all (ln O)=ag)(c:b' g x s O an (pu aJ N y) b0 b1)(sL:∀p:Env,E1 [.Tuple az o pv] i ax.line p=dB be:=by intros;rfl)(bV:∀p:Env,Bu [.Tuple az o pv] i p=dB aX:=by intros;rfl):b' g x s O an y (.Assign [.Tuple az o pv] i ax::b0) b1:=next λp r L ay aa b ao no I n T=>by
 rwa[ds (@pY _ _ _)];intro dx;rw[d8 ?_];intro eg;rw[dH<|U (sL ..)<|ev<|Y.bind<|bq p r L ay aa b ao no I n T _ λa4 as z d1 da eZ v2 dJ hM dd gA gb=>c0 v2 λbN cB=>?_];obtain rfl:=bN;obtain rfl:=cB;rw[U (bV ..)<|ev<|U (rfl:(ww [JY az o pv] p)=[(be,E2 (.Tuple az o pv) p)])<|Y.bind ?_];have q:vs (.Tuple az o pv) as.heap da (.tup N) a4:=by rw[mb gb λh ex S hK u aI ap=>?_];obtain rfl:=hK;rw[⟨N,h,ex,V,V,⟨_,aI,V,S,V⟩,ap⟩]
 rw[w' (a:=be) ao.1 hM dd q (no▸⟨aJ,ak,aw,aL⟩) λar a7 dD=>Y.pure ⟨V,_,_,da,L,eZ,dJ.trans<|gV.inside a7,hM,?_,gA.off hM a7 λa l=>.inr l,c⟩];have:k0 (.Tuple az o pv) (.tup N) y=pu aJ N y:=by rw[((U ak ?_):pu ((pt az).getD []) N y=_)];rfl
 rw[bL this dD]
theorem qf(bC:ei g x O y D a)(c:b' g x s O an y (bif a then w2 else w3) λc2 bP bZ=>match c2 with|.next=>b' g x s O bZ bP b0 b1|c2=>b1 c2 bP bZ):b' g x s O an y (.If D w2 w3 ax::b0) b1:=λp r L ay aa b ao G I n T=>by rw[d8 ?_];intro eg;rw[SH n (bC s p r L ay aa ao G I) λas aK=>Y.mono (c p r L ay aa as ao G I (n.grow aK)<|T.it aK aR aR) ?_];rintro J ar e;rw[e.gp λc2 bP bx cQ c' bZ aO l dJ bq gc=>?_];have rD:=(gV.rI (p:=p) aK).trans dJ;cases c2 with|next=>obtain⟨rfl,eo,bs⟩:=bq;rw[.inl ⟨V,Y.mono (aO p bx cQ ay c' ar ao G eo bs gc) λJ w X=>X.trans rD⟩]|brk=>obtain⟨rfl,bq⟩:=bq;rw[.inr ⟨(λe=>nomatch e),.brk,bP,bx,cQ,c',bZ,aO,l,rD,⟨V,bq⟩,gc⟩]|cont=>obtain⟨rfl,bq⟩:=bq;rw[.inr ⟨(λe=>nomatch e),.cont,bP,bx,cQ,c',bZ,aO,l,rD,⟨V,bq⟩,gc⟩]|ret z=>obtain⟨a4,rfl,bq⟩:=bq;rw[.inr ⟨(λe=>nomatch e),.ret z,bP,bx,cQ,c',bZ,aO,l,rD,⟨a4,V,bq⟩,gc⟩]
end b'
section
open PySem PySem.W PySem.Calls PyProof.Rows
noncomputable def m8(i:aE):Obj:={cls:=.ref 1963,dict:=W i,data:=.plain}
noncomputable def afN:List Nat:=[1,0,0,0,1,0,1,0,1,0,0,0,0,0,0,0,0,1,0,0,0,0,0,1,0,1]
theorem afO(o t ab:Nat)(aJ:List aF):lu 30 (jy ab) o t (callAny (.ref 1963) ⟨aJ,[]⟩) (λD=>⟨[],0,D,[0,0],[],[]⟩) (λu=>.again<|.call (.builtin "type.__call__") ⟨.ref 1963::aJ,[]⟩) (λC=>(C.bq,C.objs,C.m)) (λu=>([],[],0)):=λa v D=>by cases a<;>cbv
theorem afP(o t ab:Nat)(aJ:List aF):lu 30 (jy ab) o t (Bk "type.__call__" ⟨.ref 1963::aJ,[]⟩) (λD=>⟨[],0,D,[0],[],[]⟩) (λu=>()) (λC=>(C.bq,C.objs,C.m)) (λu=>([],[],0)):=λa v D=>by cases a<;>cbv
theorem afQ(o t ab:Nat):lu 30 (jy ab) o t (mroOf<|.ref 1963) (λD=>⟨[],0,D,[0],[],[]⟩) (λu=>[.ref 1963,.type "object"]) (λC=>(C.bq,C.objs,C.m)) (λu=>([],[],0)):=λa v D=>by cases a<;>cbv
theorem afR(o t ab:Nat):lu 30 (jy ab) o t (Bind.madeBy<|.ref 1963) (λD=>⟨[],0,D,[0,0],[],[]⟩) (λu=>W "object.__new__") (λC=>(C.bq,C.objs,C.m)) (λu=>([],[],0)):=λa v D=>by cases a<;>cbv
theorem afS(o t ab:Nat)(f:aF):lu 30 (jy ab) o t (eS (.builtin "object.__new__") [.ref 1963,f] []) (λD=>⟨[],0,D,bX 20 0,[],[]⟩) (λu=>.ref<|o+1) (λC=>(C.bq,C.objs,C.m)) (λu=>([],[(o,l2),(o+1,m8 o)],2)):=λa v D=>by cases a<;>cbv
theorem afT(o t ab:Nat):lu 30 (jy ab) o t (eS (.builtin "object.__new__") [.ref 1963] []) (λD=>⟨[],0,D,bX 15 0,[],[]⟩) (λu=>.ref<|o+1) (λC=>(C.bq,C.objs,C.m)) (λu=>([],[(o,l2),(o+1,m8 o)],2)):=λa v D=>by cases a<;>cbv
theorem afU(h i o t ab:Nat):lu 30 (jy ab) o t (isInstance (.ref h)<|.ref 1963) (λD=>⟨[(h,m8 i)],0,D,[1,0],[],[]⟩) (λu=>ag) (λC=>(C.bq,C.objs,C.m)) (λu=>([],[(h,m8 i)],0)):=λa v D=>by cases a<;>cbv
theorem afV(h i o t ab:Nat):lu 30 (jy ab) o t (specialOf (.ref h) "__init__") (λD=>⟨[(h,m8 i)],0,D,[1,0,0,0],[],[]⟩) (λu=>W<|.ref 1917) (λC=>(C.bq,C.objs,C.m)) (λu=>([],[(h,m8 i)],0)):=λa v D=>by cases a<;>cbv
theorem afW(h i o t ab:Nat):lu 30 (jy ab) o t (bindSpecial (.ref 1917)<|.ref h) (λD=>⟨[(h,m8 i)],0,D,[0],[],[]⟩) (λu=>(.ref 1917,[.ref h])) (λC=>(C.bq,C.objs,C.m)) (λu=>([],[(h,m8 i)],0)):=λa v D=>by cases a<;>cbv
theorem afX(h x i o t ab:Nat):lu 30 (jy ab) o t (setAttr (.ref h) "_data"<|.ref x) (λD=>⟨[(h,m8 i)],0,D,afN,[],[]⟩) (λu=>()) (λC=>(C.bq,C.objs,C.m)) (λu=>([],[(h,kj x i)],0)):=λa v D=>by cases a<;>cbv
end
section
open PySem PySem.W PySem.Calls PyProof.Rows
theorem wb{a9:Type}{D:Sem a9}{z:a9}{os:List<|aE×Obj}{O:List Nat}{A:a9->au->Prop}(ae:lu 30 (jy ab) (aB b) b.gens.size D (λD=>⟨os,0,D,O,[],[]⟩) (λu=>z) (λC=>(C.bq,C.objs,C.m)) λu=>([],os,0))(ap:s.depth+90<f6)(G:Sub (e6 (ų v) ab) b.heap)(aL:∀n∈os,b.heap.get? n.1=W n.2)(ak:(os.map (·.1)).Nodup)(gx:∀n∈os,1998<=n.1)(aj:∀w,bb [] [] b w->A z w):Y aU v s D A b:=by rw[Y.of<|v0 ae ap (fk.start G aL ak λn aO k dh i ft=>b2 (uF (rX (ž:=λu=>mZ) i ft).2.2)<|gx n aO) λeR w iW I=>?_];simp only[q5]at I;rw[fb I λnB jY pG=>aj w<|iW.same λn aO=>by rw[jY]at aO;rw[.inl<|aL n aO]]
theorem yj(G:Sub bo b.heap)(t:bb [] [] b w):Sub bo w.heap:=λh k dh i ft=>t.all _ _<|G h k dh i ft
@[elab_as_elim]theorem afY{a9:Type _}{M:List a9->Prop}(E:List a9)(c:gu E<=1)(aM:M [])(af:∀f,M [f]):M E:=by cases E with|nil=>rw[aM]|cons f q=>cases q with|nil=>rw[af f]|cons B q=>rw[absurd c<|PY<|wy 2 _]
theorem afZ(Dy:gu b0<=1)(ap:s.depth+90<f6)(G:Sub (e6 (ų v) ab) b.heap)(aj:∀w,Ű (Q7 w) (aB b)=W l2->Ű (Q7 w) ((aB b)+1)=W (m8<|aB b)->bb [] [] b w->A (.ref<|(aB b)+1) w):Y aU v s (eS (.builtin "object.__new__") (.ref 1963::b0) []) A b:=by
 have cK:∀(eR:e5)(w:au),fk (e6 (ų v) ab) (aB b) b.gens.size b eR w->(eR.bq,eR.objs,eR.m)=(([]:List iZ),[((aB b),l2),((aB b)+1,m8<|aB b)],2)->A (.ref<|(aB b)+1) w:=λeR w iW I=>by
  simp only[q5]at I;rw[fb I λnB jY pG=>aj w (iW.3 0 _ _ (by rwa[U jY];rfl)) (iW.3 1 _ _ (by rwa[U jY];rfl))<|iW.grow λn aO=>?_];rw[jY]at aO
  revert n;rwa[hg ?_]
  .rw[.inr<|dr _]
  .intro n aO;rw[U (bg aO)<|.inr<|j2 _]
 rw[afY b0 Dy ?_ λf=>?_]
 .rw[Y.of<|v0 (afT (aB b) b.gens.size ab) ap (fk.start G aR pZ aR) cK]
 .rw[Y.of<|v0 (afS (aB b) b.gens.size ab f) ap (fk.start G aR pZ aR) cK]
theorem WO{b0:List aF}{A:aF->au->Prop}(Dy:gu b0<=1)(ap:s.depth+91<f6)(G:Sub (e6 (ų v) ab) b.heap)(gx:1998<=(aB b))(c:∀ew h i as,ew.handled=s.handled->ew.depth<=s.depth+1->ew.units<=s.units+1->(aB b)<=i->i<h->Ű (Q7 as) h=W (m8 i)->Ű (Q7 as) i=W l2->bb [] [] b as->Y aU v ew (eS (.ref 1917) (.ref h::b0) []) (λq ar=>q=.none/\A (.ref h) ar) as):Y aU v s (eS (.ref 1963) b0 []) A b:=by rwa[Y.call<|em.my V];have WP:s.depth+90<recursionLimit:=mA (j2 _) ap;rw[wb (afO _ _ ab b0) WP G aR pZ aR λas aK=>?_];have fX:=yj G aK;rw[⟨V,em.my V<|Y.bind<|wb (afP _ _ ab b0) WP fX aR pZ aR λar a7=>?_⟩];have hY:=yj fX a7;rw[Y.pure ⟨JN _ (by decide+kernel),em.builtin (by show ri.contains "type.__call__"=be;decide+kernel) JO ?_⟩];have dO:(s.under<|.builtin "type.__call__" ⟨.ref 1963::b0,[]⟩).handled=s.handled:=V;have d5:(s.under<|.builtin "type.__call__" ⟨.ref 1963::b0,[]⟩).depth<=s.depth+1:=Jq (dr 1) _;have eb:(s.under<|.builtin "type.__call__" ⟨.ref 1963::b0,[]⟩).units<=s.units+1:=Jq (dr 1) _;generalize s.under (.builtin "type.__call__" ⟨.ref 1963::b0,[]⟩)=ew at dO d5 eb;replace ap:ew.depth+90<recursionLimit:=eA (.t (.a .x<|.n 90) .y) [.t (.a .z<|.n 91) .y,.l .x<|.o .z] Z ap d5;rw[Y.bind<|wb (afQ _ _ ab) ap hY aR pZ aR λco b4=>?_];have ny:=yj hY b4;rw[Y.bind<|wb (afR _ _ ab) ap ny aR pZ aR λcv eL=>?_];have WQ:=yj ny eL;rw[ev ?_];have ke:=((aK.trans a7).trans b4).trans eL;rw[dR<|afZ Dy ap WQ λuM bq aS o1=>?_];have Aa:=yj WQ o1;have rk:∀n∈[((aB cv)+1,m8<|aB cv)],1998<=n.1:=λn aO=>bg aO▸yY (a5 gx ke.2);have p7:∀{w:au},bb [] [] uM w->∀n∈[((aB cv)+1,m8<|aB cv)],Ű (Q7 w) n.1=W n.2:=λt n aO=>bg aO▸t.all _ _ aS;rw[Y.bind<|wb (afU ((aB cv)+1) (aB cv) _ _ ab) ap Aa (p7<|bK.refl ..) (by simp) rk λakL sY=>?_];have WR:=yj Aa sY;rw[dR<|Y.bind<|wb (afV ((aB cv)+1) (aB cv) _ _ ab) ap WR (p7 sY) (by simp) rk λakM Oz=>Y.holding<|Y.bind<|wb (afW ((aB cv)+1) (aB cv) _ _ ab) ap (yj WR Oz) (p7<|sY.trans Oz) (by simp) rk λů af0=>d8 ?_];intro eg;have OA:=(sY.trans Oz).trans af0;rwa[hy (c ew ((aB cv)+1) (aB cv) ů dO d5 eb ke.2 (kN _) (OA.all _ _ aS) (OA.all _ _ bq)<|(ke.trans o1).trans OA)];rintro q akN⟨rfl,aY⟩;rw[Y.pure<|Y.pure ⟨_,V,aY⟩]
end
theorem WS(aA:g.Ok)(ao:eW (x+1) s)(bi:FnAt b h bp eC)(kB:bp.globals=3)(iB:bp.builtins=0)(I:cx g p r L ay aa)(n:bG g p r L aa y b)(aQ:oM aa r bT b aV)(aw:gu bT=gu eH)(l:sd b bp ⟨ql,[]⟩<|eH.zip aV)(aL:eH.all (ln bp.scope)=ag)(jP:∀w,(∀a∈cc<|c5 bp h b,(aB b)<=a)->bb [] [] b w->cx g (c5 bp h b) (cc (c5 bp h b)++r) [] r (aB w)->bG g (c5 bp h b) (cc (c5 bp h b)++r) [] (aB w) (lT eH bT []) w->eW x (s.deeper<|c5 bp h b)->Y g.prog g.w (s.deeper<|c5 bp h b) (d3 eC<|c5 bp h b) (λJ d_=>A (LG J) d_) w):Y g.prog g.w s (eS (.ref h) ql []) A b:=Tx aA ao bi kB iB (λa l=>I.6 a<|I.7 a l) I.9 I.8 n.1 n.2 aQ aw l aL jP
def AY:Stmt:=k3 (dq aU 19) 2
def Ej(M:cY)(ab:Nat):FuncData:=fdOf<|MN aU M ab
theorem af1(M:cY)(ab:Nat):(e6 M ab).get 1917=W (MN aU M ab):=by cbv
theorem af2(M:cY)(ab:Nat):(e6 M ab).get 1916=W (UD aU M ab):=by cbv
theorem WT(M:cY)(ab:Nat):(e6 M ab).get 1910=W (GN aU M ab):=by cbv
theorem WU(aM:eF ah)(ao:eW (x+1) s)(I:cx (bh ah) p r L ay aa)(n:bG (bh ah) p r L aa y b)(aS:b.heap.get? h=W (m8 i))(gx:1998<=h)(aQ:fB aa r jV.1 jV.2 b a4)(af3:sd b (Ej (ų ah.1) ah.4) ⟨ql,[]⟩ [("self",.ref h),("iterable",a4)])(Ct:gj (lT ["self","iterable"] [(.cH,.raw<|.ref h),jV] []) "self"=W (.f<|.raw<|.ref h))(d9:∀iC i_ mi,ai (bh ah) x (fH AY) (lT ["self","iterable"] [(.cH,.raw<|.ref h),jV] []) (.Call (.Name "bytearray" iC) [.Name "iterable" i_] [] mi) .fr<|ha aq)(aj:∀bU w,bb [h] [] b w->b.heap.objs.size<=bU->Ű (Q7 w) bU=W (c9<|br aq)->Ű (Q7 w) h=W (kj bU i)->A .none w):Y aU ah.1 s (eS (.ref 1917) ql []) A b:=by
 rw[WS (eH:=["self","iterable"]) (bT:=[(.cH,.raw<|.ref h),jV]) (iV aM) ao ((show FnAt b 1917 (Ej (ų ah.1) ah.4) (hv AY)from(xW (e:=1916) aM n.2 (af1 ..) V V V (af2 ..) V V V V V V V))) V V I n ⟨_,_,V,(V),_,_,V,aQ,V⟩ V af3 Z λw dZ cd eo bs go=>?_];rwa[ds (@bh _)];intro dx;have jw:(c5 (Ej (ų ah.1) ah.4) 1917 b).scope=fH AY:=V;generalize s.deeper (c5 (Ej (ų ah.1) ah.4) 1917 b)=k4 at*;generalize c5 (Ej (ų ah.1) ah.4) 1917 b=eE at*;rw[FK (show∃fn fQ iC i_ mi qo,hv AY=[.Assign [.Attribute (.Name "self" fn) "_data" fQ] (.Call (.Name "bytearray" iC) [.Name "iterable" i_] [] mi) qo]from((Zh _ _ _ _ _ _ V))) λfn fQ iC i_ mi qo jP=>jP.symm▸Y.bind (dH ?_)];rw[d8 ?_];intro eg;have sL:E1 [.Attribute (.Name "self" fn) "_data" fQ] (.Call (.Name "bytearray" iC) [.Name "iterable" i_] [] mi) qo.line eE=dB be:=V;have Hs:Bu [.Attribute (.Name "self" fn) "_data" fQ] (.Call (.Name "bytearray" iC) [.Name "iterable" i_] [] mi) eE=dB aX:=V;rwa[ev<|gR bf];rw[Y.bind<|(d9 iC i_ mi) k4 eE _ [] r _ go jw eo w _ bs λakO as aK bl=>?_];rw[fK bl λbU fw m0 he=>U fw ?_];replace he:Ű (Q7 as) bU=W (c9<|br aq):=he;rwa[ev<|Y.eq (by rw[show(ww [Expr.Attribute (.Name "self" fn) "_data" fQ] eE)=[(be,E2 (.Attribute (.Name "self" fn) "_data" fQ) eE)]from V,])];rw[Y.bind ?_];rw[d8 ?_];intro eg;rw[(?_:Y _ _ k4 (E2 (.Attribute (.Name "self" fn) "_data" fQ) eE<|.ref bU) _ as)];rw[Y.eq (by rw[arm_assign_Attribute,])<|dR ?_];rw[d8 ?_];intro eg;have dd:=bs.grow aK;rw[(ai.name (x:=x) (O:=fH AY) (f:="self") Ct Z) k4 eE _ [] r _ go jw eo as _ dd λiy ar a7 aL=>?_];have iN:iy=.ref h:=by have c:ck ar.heap (cc eE++r) (.raw<|.ref h) iy:=aL;rw[c]
 rw[U iN<|dH ?_];have b4:bb [] [] b ar:=(cd.trans aK).trans a7;rw[dR<|Y.of<|v0 (afX h bU i ar.heap.objs.size ar.gens.size ah.4) (by show k4.depth+90<1000;rw[ct (.t (.a .x<|.n 90)<|.n 1000) [.l (.a .x .y)<|.n 900] Z go.2]) (fk.start (aM.sub (dd.grow a7).2) (λe aY=>bg aY▸(b4.all _ _ aS)) (by simp) λe aY k dh m2 ft=>?_) λeR co iW I=>?_]
 .rw[bg aY]at m2;rw[b2 (uF (rX (ž:=λu=>mZ) m2 ft).2.2) gx]
 .simp only[q5]at I;rw[fb I λnB jY pG=>?_];have eL:bb [h] [] ar co:=iW.grow λe aY=>by rw[jY]at aY;rw[bg aY,];rw[.inl bB]
  have c_:bU≠h:=λe=>by rw[e]at m0;rw[b2 (dK aS)<|a5 cd.2 m0]
  rw[wZ<|Y.pure ?_];rw[SG ?_];rw[aj bU co ((b4.mono aR aR).trans eL) (a5 cd.2 m0) (eL.1 _ _ (λe=>c_<|bg e)<|a7.all _ _ he)<|iW.3 0 _ _ (by rw[jY,];rfl)]
theorem af4(aM:eF ah)(ao:eW (x+1) s)(I:cx (bh ah) p r L ay aa)(n:bG (bh ah) p r L aa y b)(aS:b.heap.get? h=W (m8 i))(gx:1998<=h)(aQ:fB aa r m (bu aq) b a4)(l:fI aq)(ae:gu aq<=cy)(aj:∀bU w,bb [h] [] b w->(aB b)<=bU->Ű (Q7 w) bU=W (c9<|br aq)->Ű (Q7 w) h=W (kj bU i)->A .none w):Y aU ah.1 s (eS (.ref 1917) [.ref h,a4] []) A b:=WU aM ao I n aS gx aQ (J7 (o:=GN aU (ų ah.1) ah.4) V ((aM.sub n.2) _ _ _ (WT (ų ah.1) ah.4) V) V V V) (by cases m<;>rfl) (λiC i_ mi=>by
  have cu:∃fN,ai (bh ah) x (fH AY) (lT ["self","iterable"] [(.cH,.raw<|.ref h),(m,bu aq)] []) (.Name "iterable" i_) fN (bu aq):=by cases m with
   |fr=>rw[⟨.cH,al.nm⟩]|cH=>rw[⟨.cH,al.nm⟩]|ls=>rw[⟨.ls,al.ZX⟩]
  rw[c1 cu λfN cu=>?_];rw[ai.aco (iV aM) cu Hk l ae Z (by rfl)]) aj
section
theorem af5(o t ab:Nat):lu 30 (jy ab) o t (tp<|.ref 1963) (λD=>⟨[],0,D,[0,0],[],[]⟩) (λu=>.machine) (λC=>(C.bq,C.objs,C.m)) (λu=>([],[],0)):=λa v D=>by cases a<;>cbv
variable{v:cU}{b:au}{ab:Nat}{x:Nat}{s:cq}{p:Env}{O:dA}{r L ay:List aE}{aa:Nat}{y:b_}{i:bJ}{aq:List Int}{m:i6}
theorem WV(ap:s.depth+90<f6)(ak:az.all dS=ag)(c:nk aU v s [] [] p M az al)(G:M b)(cl:t0 [] [] M)(oz:∀b,M b->Sub (e6 (ų v) ab) b.heap)(w0:∀b w aV,al b aV->bb [] [] b w->al w aV)(aA:∀aV w,bb [] [] b w->al w aV->Y aU v s (eS (.ref 1963) aV []) A w):Y aU v s (qV ax (.ref 1963) [] (kp Cn<|j1 az p) []) A b:=by unfold qV;rw[ph ?_];intro p6;rw[dR<|zw ak c G λaV as aK cW=>dH<|U (zv ak ..)<|U (y4 ..)<|U (tk ..)<|Y.bind<|wb (af5 _ _ ab) ap (oz as<|cl _ _ G aK) aR pZ aR λar a7=>hy (aA aV ar (aK.trans a7)<|w0 _ _ _ cW a7) λq ar ap=>dC<|kK<|pS<|Y.pure ap]
theorem ai.L8{e ax:Pos}(aM:eF ah)(c:ai (bh ah) (x+2) O y i m<|bu aq)(l:fI aq)(ae:gu aq<=cy)(R:fe O "Buffer"=ag:=by cbv)(ak:dS i=ag:=by rfl):ai (bh ah) (x+2) O y (.Call (.Name "Buffer" e) [i] [] ax) .cH (.buf<|br aq):=λs p r L ay aa ao G I b A n aj=>by
 have iz:fe p.scope "Buffer"=ag:=G▸R;have bl:=ao.2
 .rw[Y.bind<|sz (a_:=[]) (aD:=[]) (h3 (y:=y) (iV aM) I VD iz) (w7 iz) b _ n λa4 as aK lW=>?_];subst lW;rwa[Y.eq (U (EW ..) V)];have dd:=n.grow aK;rwa[WV (ab:=ah.4) (M:=bG (bh ah) p r L aa y) (by show s.depth+90<1000;rw[ct (.t (.a .x<|.n 90)<|.n 1000) [.l (.a .x<|.a .y<|.n 2)<|.n 900] Z bl]) (by simp[ak]) (Dh (g:=bh ah) ak<|c s p r L ay aa ao G I) dd (λD fp e t=>e.grow t) (λD e=>aM.sub e.2) (λD fp aV aQ t=>by obtain⟨a4,rfl,aQ⟩:=aQ;rw[(dj a4 V<|fB.hV _ _ _ aQ t)])];rintro aV ar a7⟨a4,rfl,aQ⟩;have dD:=dd.grow a7;have gx:1998<=(aB ar):=a5 aM.2 dD.2.1.2;rw[WO (dr 1) (by show s.depth+91<1000;rw[ct (.t (.a .x<|.n 91)<|.n 1000) [.l (.a .x<|.a .y<|.n 2)<|.n 900] Z bl]) (aM.sub dD.2) gx λew h cP co fg fD h6 bq yk OB xt b4=>?_];have wc:1998<=h:=a5 gx<|a5 bq<|mB yk;rw[af4 (s:=ew) (x:=x) aM ⟨fg.trans ao.1,by rw[eA (.l (.a .x<|.o .y)<|.n 900) [.l (.a .z<|.a .y<|.n 2)<|.n 900,.l .x<|.o .z] Z bl fD],by rw[eA (.l (.a .x<|.m 4<|.o .y)<|.n 5000) [.l (.a .z<|.m 4<|.a .y<|.n 2)<|.n 5000,.l .x<|.o .z] Z ao.3 h6]⟩ I (dD.grow b4) OB wc (fB.hV _ _ _ aQ b4) l ae λbU cv eL m0 he hN=>⟨V,?_⟩];have jt:∀a∈r,a<(aB ar):=λa l=>cg (I.8 a l) dD.1;rw[aj _ cv ((aK.trans a7).trans<|b4.hj eL (λa l=>.inr<|fY<|bg l▸a5 bq (mB yk)) aR)<|Kf h bU cP V (λe=>b2 (jt _ e)<|a5 bq<|mB yk) hN (λe=>b2 (jt _ e)<|a5 b4.2 m0) he (λe=>b2 (jt _ e) bq) (eL.1 _ _ (λe=>absurd (bg e)<|gQ yk) xt)<|a5 gx bq]
end
section
open PySem PySem.W PySem.F PySem.Calls PyProof.Rows
theorem af6(aL:b.heap.get? h=W (c9 a))(aw:b.heap.IsTuple E #[])(c_:E≠h)(c:∀X,Ű X h=W (c9 #[])->iE h b.heap X->A .none {b with heap:=X}):Y ſ v s (eS (.builtin "bytearray.__init__") [.ref h,.ref E]) A b:=Sj (N:=[]) Z8 Z9 (.inr V) aL aw c_ (λu e=>nomatch e) (eQ _) c
theorem af7(aw:b.heap.IsTuple E #[])(c:∀X,mM b.heap X (c9 #[])->A (.ref b.heap.objs.size) {b with heap:=X}):Y ſ v s (eS (.type "bytearray") [.ref E]) A b:=by rwa[Ks Kw (Kx _)<|Kz _];have S:mM b.heap (b.heap.push<|c9 #[]) (c9 #[]):=mM.push V;rw[⟨g5 (b:={b with heap:=b.heap.push<|c9 #[]}) S.1,(bt (id aw) λk jJ u=>af6 (b:={b with heap:=b.heap.push<|c9 #[]}) S.1 (aw.push _) (gQ<|dK jJ) λX aI G=>⟨V,c X<|S.same aI G⟩)⟩]
end
def hE(h bU i:aE)(aq:List Int):Inv where
 W:=[bU]
 G:=[]
 St:=λr b=>h∉r/\b.heap.get? h=W (kj bU i)/\i∉r/\b.heap.get? i=W l2/\1998<=h/\1998<=i/\1998<=bU/\b.heap.get? bU=W (c9<|br aq)
 frame:=λr b w cL cf c t dz u=>by rw[q8 c λaf am a' cJ ez gD jj tQ=>⟨af,t.1 _ _ (λe=>af (dz _ e).1) am,a',t.1 _ _ (λe=>a' (dz _ e).1) cJ,ez,gD,jj,t.1 _ _ (λe=>(dz _ e).2 bB) tQ⟩]
 mono:=λr bx b c cC=>by rw[q8 c λaf am a' cJ ez gD jj tQ=>⟨λe=>(cC _ e).elim af λC=>b2 (dK am) C,am,λe=>(cC _ e).elim a' λC=>b2 (dK cJ) C,cJ,ez,gD,jj,tQ⟩]
theorem af8(M:cY)(ab:Nat):(e6 M ab).get 1909=W (UC aU M ab):=by cbv
theorem af9(aM:eF ah)(ao:eW (x+1) s)(I:cx (bh ah) p r L ay aa)(n:bG (bh ah) p r L aa y b)(aS:b.heap.get? h=W (m8 i))(gx:1998<=h)(aj:∀bU w,bb [h] [] b w->b.heap.objs.size<=bU->Ű (Q7 w) bU=W (c9<|br [])->Ű (Q7 w) h=W (kj bU i)->A .none w):Y aU ah.1 s (eS (.ref 1917) [.ref h] []) A b:=WU (jV:=(.cH,.raw<|.ref 1909)) aM ao I n aS gx (by rw[V]) (J7 (o:=GN aU (ų ah.1) ah.4) V ((aM.sub n.2) _ _ _ (WT (ų ah.1) ah.4) V) V V V) V (λiC i_ mi=>by intro s p r L ay aa ao G I;rw[lj I.ok (h3 (iV aM) I Hk (by rw[G,];cbv)) V (hZ V I.ok ((al.nm (g:=bh ah)) s p r L ay aa ao G I) fB.hV jo) ?_ V];rintro b aV aO bN A aj;rw[d7 bN λe2 q cB ka dt=>U cB<|U dt ?_];have af_:ck b.heap r (.raw<|.ref 1909) e2:=ka;rw[U af_<|af7 ⟨_,aM.sub aO.2 _ _ _ (af8 ..) V,V,0,V⟩ λX S=>?_];rw[aj _ _ S.grow<|MI aO.1 S]) aj
theorem dF.L8(aM:eF ah)(cz:nz y)(R:fe O "Buffer"=ag:=by cbv):dF (bh ah) (x+2) s O an y (.Call (.Name "Buffer" e) [] [] ax) (λz bZ=>∃h bU i,z=.raw (.ref h)/\bU∉an.W/\bZ=an.both (hE h bU i [])):=λp r L ay aa b ao G I n T A aj=>by
 have iz:fe p.scope "Buffer"=ag:=G▸R;have bl:=ao.2
 .rw[Y.bind<|sz (a_:=[]) (aD:=[]) (h3 (iV aM) I VD iz) (w7 iz) b _ n λa4 as aK lW=>U lW<|Y.eq (by rw[EW,]) ?_];have dd:=n.grow aK;rwa[WV (by show s.depth+90<1000;rw[ct (.t (.a .x<|.n 90)<|.n 1000) [.l (.a .x<|.a .y<|.n 2)<|.n 900] Z bl]) V jo dd (λD fp e t=>e.grow t) (λD e=>aM.sub e.2) (λu u u c u=>c)];rintro aV ar a7 rfl;have dD:=dd.grow a7;have gx:1998<=(aB ar):=a5 aM.2 dD.2.1.2;rw[WO (eQ 1) (by show s.depth+91<1000;rw[ct (.t (.a .x<|.n 91)<|.n 1000) [.l (.a .x<|.a .y<|.n 2)<|.n 900] Z bl]) (aM.sub dD.2) gx λew h cP co fg fD h6 bq yk OB xt b4=>?_];have H0:(aB ar)<=h:=a5 bq<|mB yk;rw[af9 (x:=x) aM ⟨fg.trans ao.1,by rw[eA (.l (.a .x<|.o .y)<|.n 900) [.l (.a .z<|.a .y<|.n 2)<|.n 900,.l .x<|.o .z] Z bl fD],by rw[eA (.l (.a .x<|.m 4<|.o .y)<|.n 5000) [.l (.a .z<|.m 4<|.a .y<|.n 2)<|.n 5000,.l .x<|.o .z] Z ao.3 h6]⟩ I (dD.grow b4) OB (a5 gx H0) λbU cv eL m0 he hN=>⟨V,?_⟩];have jt:∀a∈r,a<(aB ar):=λa l=>cg (I.8 a l) dD.1;have ke:bb [] [] b cv:=(aK.trans a7).trans<|b4.hj eL (λa l=>.inr<|fY<|bg l▸H0) aR;have WW:(aB ar)<=bU:=a5 b4.2 m0;have ht:(aB ah.2)<=(aB b):=n.2.1.2;have WX:Ű (Q7 cv) cP=W l2:=eL.1 _ _ (λe=>absurd (bg e)<|gQ yk) xt;have dZ:∀a∈[bU],(aB b)<=a/\a<(aB cv):=λa l=>bg l▸⟨a5 ((aK.trans a7).2) WW,(dK he)⟩;have en:=I.up n.1;have Ah:bU≠h:=λe=>by replace he:=hN▸e▸he;rw[nomatch he]
  have OC:bU≠cP:=λe=>by replace he:=WX▸e▸he;rw[absurd (congrArg Obj.cls<|ek he) bf]
  have af':bU∉an.W:=λe=>b2 (T.2 bU e).2.2.2.2 (dZ bU<|bB).1;have qH:(hE h bU cP []).At (bh ah) p ([bU]++r) L cv:=by
   rw[⟨⟨λe=>?_,hN,λe=>?_,WX,a5 gx H0,a5 gx bq,a5 gx WW,he⟩,λa l=>?_,aR⟩]
   .rw[bS e (λe=>Ah (bg e).symm) λe=>b2 (jt _ e) H0]
   .rw[bS e (λe=>OC (bg e).symm) λe=>b2 (jt _ e) bq]
   .have ej:=dZ a l;rw[⟨b7 l,λe=>b2 (en.8 a (I.5 a e).1) ej.1,λe=>b2 (en.8 a (I.4 a e).1) ej.1,.inr<|a5 ht ej.1,ej.2⟩]
  rw[aj _ cv (.raw<|.ref h) _ _ _ (zj h bU cP V af' V) ⟨λa l=>bR l,λa l=>bS l (λe=>.inr (dZ a e).1) .inl,λu c=>.inl c,λa l=>bS l .inl λe=>.inr (dZ a e).1,λj T=>.inl<|bS T id λe=>db e,ke.mono aR aR⟩ (en.l3 dZ ht ke.2) (n.Bs cz aR aR ke (n.2.to ke aR) λa l=>(dZ a l).1) (((T.wide (λa l=>bR l) λa l=>bS l (λe=>.inr (dZ a e).1) .inl).it ke aR aR).both qH)<|V]
def H1:Stmt:=k3 (dq aU 19) 3
def AZ(M:cY)(ab:Nat):FuncData:=fdOf<|Dj aU M ab
theorem OD(M:cY)(ab:Nat):(e6 M ab).get 1924=W (Dj aU M ab):=by cbv
theorem aga(M:cY)(ab:Nat):(e6 M ab).get 1923=W (UE aU M ab):=by cbv
theorem WY(aM:eF ah)(ao:eW (x+1) s)(I:cx (bh ah) p r L ay aa)(n:bG (bh ah) p r L aa y b)(hN:b.heap.get? h=W (kj bU i))(he:b.heap.get? bU=W (c9 a))(agb:∀ew w,eW x ew->bb [] [] b w->Y aU ah.1 ew (eS (.builtin "bytearray.extend") [.ref bU,a4] []) (λq d_=>q=.none/\A .none d_) w):Y aU ah.1 s (eS (.ref 1924) [.ref h,a4] []) A b:=by
 rw[WS (g:=bh ah) (eH:=["self","iterable"]) (bT:=[(.cH,.raw<|.ref h),(.cH,.raw a4)]) (iV aM) ao ((show FnAt b 1924 (AZ (ų ah.1) ah.4) (hv H1)from(xW (e:=1923) aM n.2 (OD ..) V V V (aga ..) V V V V V V V))) V V I n ⟨_,_,V,(V),_,_,V,(V),V⟩ V (tL V) Z λw dZ cd eo bs go=>ds (@bh _) ?_];intro dx;have jw:(c5 (AZ (ų ah.1) ah.4) 1924 b).scope=fH H1:=V;generalize s.deeper (c5 (AZ (ų ah.1) ah.4) 1924 b)=k4 at*;generalize c5 (AZ (ų ah.1) ah.4) 1924 b=eE at*;rw[Y3 (show∃fn fQ iC i_ mi qo,hv H1=[.Expr (.Call (.Attribute (.Attribute (.Name "self" fn) "_data" fQ) "extend" iC) [.Name "iterable" i_] [] mi) qo]/\(iC.endLine==mi.line)=ag from((Zi _ _ _ _ _ _ V V))) λfn fQ iC i_ mi qo jP iM=>jP.symm▸?_];rw[K4 eo.1 V<|vq (az:=[.Name "iterable" i_]) V (by show 1<20;decide) V iM<|Y.eq (IX ..)<|Y.bind<|(al.nm (g:=bh ah) (O:=fH H1) (z:=.raw<|.ref h)) k4 eE _ [] r _ go jw eo w _ bs λiy as aK aL=>d8 ?_];intro eg;have iN:iy=.ref h:=by have c:ck as.heap (cc eE++r) (.raw<|.ref h) iy:=aL;rw[c]
 subst iN;rw[dH ?_];have dd:=bs.grow aK;rw[dR<|kv<|Y.of<|Nt (by show k4.depth+90<1000;rw[ct (.t (.a .x<|.n 90)<|.n 1000) [.l (.a .x .y)<|.n 900] Z go.2]) (aM.sub dd.2) ((cd.trans aK).all _ _ hN) λar m ju=>fW m λX fJ fw iR=>?_];obtain rfl:=fw;have a7:bb [] [] as {as with heap:=X,toks:=fJ}:=bK.heap (λa k u i=>iR a k i) ju.1;rw[ev<|Y.pure ?_];generalize({as with heap:=X,toks:=fJ}:au)=ar at a7;have iS:=(cd.trans aK).trans a7;rw[Y.of<|Uy (iS.all _ _ he)<|zx (J:=.builtin "bytearray.extend") (lN:=[.ref bU]) (aD:=[]) (M:=bG (bh ah) eE (cc eE++r) [] (aB w)<|lT ["self","iterable"] [(.cH,.raw<|.ref h),(.cH,.raw a4)] []) V V (Dh (g:=bh ah) V<|(al.nm (g:=bh ah) (x:=x) (z:=.raw a4)) k4 eE _ [] r _ go jw eo) (dd.grow a7) ?_];rintro aV co b4 hJ;rw[bt hJ λbm j8 aQ=>?_];obtain rfl:=j8;rw[d8 ?_];intro eg;have pm:bm=a4:=by have c:ck co.heap (cc eE++r) (.raw a4) bm:=aQ;rw[c]
 subst pm;rwa[Y.mono (agb k4 co go<|iS.trans b4)];rintro q cv j9;rw[c0 j9 λmN aY=>?_];obtain rfl:=mN;rw[⟨V,SG aY⟩]
section
section
variable{v:cU}{s:cq}{p:Env}{a_:List aE}{aD:List Nat}{M:au->Prop}
theorem WZ(ak:az.all dS=ag)(cp:gu az<20)(c:nk ſ v s a_ aD p M az al)(G:M b)(bi:∀b aV,al b aV->b.heap.get? h=W k)(bl:k.data=.func bp)(aA:∀aV w,bb a_ aD b w->al w aV->Y ſ v s (eS (.ref h) (lN++aV) []) A w):Y ſ v s (qV ax (.ref h) lN (kp Cn<|j1 az p) []) A b:=by
 rw[dR<|zw ak c G λaV as aK cW=>dH<|U (zv ak ..)<|U (y4 ..)<|U (tk ..) ?_];have aT:Y ſ v s (tp<|.ref h) (λm w=>m=.frame/\w=as) as:=by rw[dC<|Bf (bi as aV cW)<|bl.symm▸Y.pure ⟨V,V⟩]
 rw[hy aT<|su ?_];have Cw:∀q ar,A q ar->Y ſ v s (do holding [q] point;dB q) A ar:=λq ar ap=>dC<|kK<|pS<|Y.pure ap
 dsimp only;split
 .rw[hy (aA aV _ aK cW) λq ar ap=>Cw q ar ap]
 .rw[Y.bind<|Y.keep<|Y.mono (aA aV _ aK cW) λq ar ap=>Cw q ar ap]
end
variable{x:Nat}{s:cq}{O:dA}{y:b_}{an:Inv}{h bU cP:aE}{aq de:List Int}{f:Str}{i:bJ}{d' oS ax:Pos}
theorem dF.Ug(aM:eF ah)(cz:AF y)(iX:bU∉an.W)(aI:gj y f=W (.f<|.raw<|.ref h))(R:hL O f=ag)(bq:dF (bh ah) (x+1) s O (an.both<|hE h bU cP aq) y i λz bZ=>z=bu de/\bZ=an.both (hE h bU cP aq))(l:fI de)(ae:gu aq+gu de<cy)(ak:dS i=ag:=by rfl)(iM:(oS.endLine==ax.line)=ag:=by rfl):dF (bh ah) (x+1) s O (an.both<|hE h bU cP aq) y (.Call (.Attribute (.Name f d') "extend" oS) [i] [] ax) (λz bZ=>z=.none/\bZ=an.both (hE h bU cP<|aq++de)):=λp r L ay aa b ao G I n T A aj=>by
 rwa[ds (@bh _)];intro dx;rwa[vq (az:=[i]) (by simp[ak]) (by show 1<20;decide) V iM];rw[d8 ?_];intro eg;rw[(ai.raw (g:=bh ah) aI R) s p r L ay aa ao G I b _ n λa4 as aK gb=>?_];have DD:ck as.heap r (.raw<|.ref h) a4:=gb;rwa[U DD];have gI:s.depth+90<recursionLimit:=by have:=ao.2;show s.depth+90<1000;rw[ct (.t (.a .x<|.n 90)<|.n 1000) [.l (.a .x<|.o .y)<|.n 900] Z this]
 have dd:=n.grow aK;have gA:=T.it aK aR aR;rw[q8 gA.snd.1 λtb hN tc oh wc uR uS he=>Hx VU gI (aM.sub dd.2) hN oh uR λar a7=>?_];rwa[WZ (lN:=[.ref h]) (M:=λD=>D=ar) (a_:=L++cc p++(an.both<|hE h bU cP aq).W) (aD:=(an.both<|hE h bU cP aq).G) (k:=Dj aU (ų ah.1) ah.4) (bp:=AZ (ų ah.1) ah.4) (al:=λD aV=>∃a4 da eZ,aV=[a4]/\gV (an.both<|hE h bU cP aq) p r L da L (an.both<|hE h bU cP aq) ar D/\cx (bh ah) p da L ay eZ/\bG (bh ah) p da L eZ y D/\(an.both<|hE h bU cP aq).At (bh ah) p da L D/\ck D.heap da (bu de) a4) (by simp[ak]) (by show 1<20;decide) ?_ V ?_ V]
 .rintro D A ax rfl rT;rw[Y.eq (U (kV ak)<|V) (?_:Y _ _ s (pT [(be,ee i p)]) A D)];rw[Y.eq (V)<|Y.bind<|bq p r L ay aa D ao G I (dd.grow a7) (gA.it a7 aR aR) _ λa4 co z d1 da eZ af am a' cJ ez gD=>?_];rw[c0 af λj9 mN=>?_];obtain rfl:=j9;obtain rfl:=mN;rw[gR bf<|ev<|dR<|Y.pure<|Y.pure<|rT _ _ am.6 ⟨a4,da,eZ,V,am,a',cJ,ez,gD⟩]
 .rintro D aV ob;rw[wN ob λa4 da eZ r4 am a' cJ ez gD=>U r4 ?_];rw[aM.sub cJ.2 _ _ _ (OD ..) V]
 .rintro aV co b4 yb;rw[wN yb λa4 da eZ D' dJ k5 i8 nD q=>U D' ?_];rw[q8 nD.snd.1 λtb hN tc oh u u u he=>jH (ck.iw q) λE N o Ea aw ap=>U Ea<|c0 (ai.EP l ap) λdm el=>?_];have cp:gu N.toList=gu de:=by have:=ap.length;simpa using this
  rw[WY (x:=x) aM ao k5 i8 hN he λew cv go eL=>?_];rw[kv<|Sq (N:=N.toList) go.1 (eL.all _ _ he) ⟨_,eL.all _ _ aw,V,o,V⟩ dm (by rwa[U cp<|U (n8 ..)];rw[ae]) λX fJ iN aT ju=>?_];rw[el]at iN;have bH:br aq++br de=br (aq++de):=by simp[br]
  rw[bH]at iN;have o1:bb [bU] [] cv {cv with heap:=X,toks:=fJ}:=bK.heap (λa k l i=>aT a k (λe=>l<|hG.mpr e) i) ju.1;have W0:({cv with heap:=X,toks:=fJ}:au).heap.get? bU=W (c9<|br<|aq++de):=iN;generalize({cv with heap:=X,toks:=fJ}:au)=uM at o1 W0;have bV:=nD.snd.2 bU bB;have NE:(aB ah.2)<=bU:=by
   rcases bV.2.2.2.1 with e|e
   .exfalso;rcases l1.mp e with e|e<;>(rw[e]at uS;rw[absurd uS bf])
   .rw[e]
  have Ah:bU≠h:=λe=>by rw[e,hN]at he;cases he
  have OC:bU≠cP:=λe=>by rw[e,oh]at he;rw[absurd (congrArg Obj.cls<|ek he) (by decide:¬(j6 "dict"=j6 "bytearray"))]
  have qA:=i8.grow eL;have DP:bG (bh ah) p da L eZ y uM:=qA.FA cz (λC ae=>(bg ae).symm▸bV.1) (λC ae=>bg ae▸bV.2.2.1) (λC ae=>U (bg ae) bV.2.1) o1<|qA.2.to o1 λC ae=>bg ae▸NE;have qH:(hE h bU cP<|aq++de).At (bh ah) p da L uM:=⟨⟨tb,o1.1 _ _ (λe=>Ah (bg e).symm)<|eL.all _ _ hN,tc,o1.1 _ _ (λe=>OC (bg e).symm)<|eL.all _ _ oh,wc,uR,uS,W0⟩,λa ej=>(bg ej).symm▸⟨bV.1,bV.2.1,bV.2.2.1,bV.2.2.2.1,cg bV.2.2.2.2<|a5 eL.2 o1.2⟩,aR⟩;rw[⟨V,aj .none uM .none _ da eZ ⟨V,V⟩ (((gV.rI<|aK.trans a7).trans dJ).trans ⟨λu c=>c,λu c=>.inl c,λu c=>.inl c,λu c=>.inl c,λu c=>.inl c,?_⟩) k5 DP (((nD.fst.it eL aR aR).chg o1 bV.1 iX).both qH)<|V⟩];rw[(eL.mono aR aR).trans<|o1.mono (λa ej=>bR<|bR ej) aR]
end
theorem agc(aM:eF ah)(a:gU (bh ah) b)(bi:b.heap.get? J=W (ta bm e_ nm))(aA:b.heap.CodeRec (.ref bm) AW):FnAt b J (WJ bm e_ nm) (hv jX):=⟨(dj _ bi V),by cbv,by cbv,V,aA,by cbv,(by have:(fH jX).names.all (λf=>f.2 !=.free)=ag:=Z;intro f R;have:=hH.mp this f R;simpa using this),V,(DC<|aM.sub a)⟩
theorem agd{ſ:cM}{v:cU}{s:cq}{h aP:aE}{t o:Nat}{bQ aZ:List aE}{J:Nat->Int}{f:Str}{h4:Pos}{r:List aE}(bi:oN h aP bQ aZ)(cO:s.handled=aX)(ap:s.depth<f6)(ar:au):ue ſ v s (.Name f h4) r ((cZ o).map λj=>.int<|J j) ar h (h::aP::bQ) (aP::aZ) [t] (λj b=>jW ſ v s h t aP bQ aZ o (λj z=>∃D,z=.int (J j) D) j b) (λu=>True):=⟨(λa l=>by
  revert a;rwa[hg ?_]
  .rw[mt bB]
  .intro a l;rw[mt<|mt<|bi.3 a l]),(λj b w cL cf st il dz jK=>st.frame bi il dz λe=>jK t e bB),(λu u u u u u u u=>trivial),(λj B b A a8 st aj=>by
  have T:j<o:=by simpa using(j4.mp a8).1
  rw[st.item bi cO ap T λz w aQ kz il=>(dj z V<|Y.pure<|aj z w (λbx kd f8 pr=>?_) kz il)];rw[eX,nN T]at a8;cases a8;rw[(?_:ck _ _ _ _)];rw[aQ]),(λb A st aj=>by rw[dg,mE]at st;rw[st.done bi cO ap λw cd=>aj w cd trivial]),(λj b A st aj=>st.self bi cO ap aj)⟩
section
variable{x:Nat}{s:cq}{O:dA}{y:b_}{a1:Inv}{J bm cT e_:aE}{nm:aF}{D:Tok}{f B:Str}{i:bJ}{h4 sN ax:Pos}{z:Int}
theorem xK.ahW(aM:eF ah)(cV:cT∉a1.W)(aI:gj y f=W (.f<|yg J bm e_ nm D))(R:hL O f=ag)(bq:cI (bh ah) (x+1) O y i z)(ak:dS i=ag):xK (bh ah) (x+1) s O (a1.both<|yf bm cT) y (.Name B sN) (.Call (.Name f h4) [i] [] ax) ((cZ 8).map λj=>.int<|oQ z 8 j):=λp r L ay aa K b ao G I n T rO A aj=>by
 .rw[Y.bind<|(ai.name aI R) s p r L ay aa ao G I b _ n λa4 as aK gb=>c0 gb λfw Ek=>?_];obtain rfl:=fw;have Ai:=(Ek (J,ta bm e_ nm)<|bB).2;rwa[zF (k:=ta bm e_ nm) (M:=λaG=>bG (bh ah) p r L aa y aG/\Ű (Q7 aG) J=W (ta bm e_ nm)/\bb [] [] b aG) (by simp[ak]) (by show 1<20;decide) (Dh ak<|dk.weak (eP bq ao G I) λaG e=>e.1) ⟨n.grow aK,Ai,aK⟩ (λaG e=>e.2.1) V (λaG kY e t=>⟨e.1.grow t,t.all _ _ e.2.1,e.2.2.trans t⟩)];rintro aV ar a7 hJ;rw[bt hJ λa4 j8 j9=>?_];obtain rfl:=j8;rw[c1 j9 λwT mN=>?_];obtain rfl:=mN;have iS:=aK.trans a7;have dD:=n.grow iS;have ip:=T.it iS aR aR;rw[sp ip.snd.1 λakP akQ age A0 ob r4 W1=>bt ob λagf agg agh=>c1 r4 λc3 bC=>?_];have W2:=ip.snd.2 cT<|mt bB;have W3:(aB ah.2)<=cT:=by
   rw[hp (W2.2.2.2.1) (λe=>?_) λe=>?_]
   .exfalso;rcases l1.mp e with e|e<;>(replace A0:=e▸A0;rw[absurd A0 bf])
   .rw[e]
  rw[abc (bo:=s) (o:=8) (Hr aM) ao (agc aM dD.2 (a7.all _ _ Ai) W1) V V V V bC (λe=>b2 (nv.mp e).1 W3) I dD (J7 (items:=#[.int 8 D]) V (a7.all _ _<|(Ek (e_,Ox D)<|mt bB).2) V V V) bf Aq (by cbv) ao.1 λh aP t dE f4 lq eB co bH cm eO hu rG xr vD qs b4 sG lU i3 DN agi=>?_];have oG:=agi s ao.1 (dr _)<|dr _;have jt:∀a∈r,a<(aB ar):=λa l=>cg (I.8 a l) dD.1;have akR:=iS.2;rwa[aj (.ref h) co ((iS.mono aR aR).trans<|b4.mono (λa l=>bR<|mt l) aR) (dD.2.to b4 λC ae=>bg ae▸W3) (λbx dX f8=>?_)]
  .have OE:=(T.wide dX f8).it iS aR aR;rw[sp OE.snd.1 λagj agk u u u u u=>?_];have agl:1892≠cT:=λe=>absurd (e▸A0) bf;have agm:1894≠cT:=λe=>absurd (e▸A0) bf;rw[(OE.fst.it b4 (λa l=>bg l▸⟨dX _ W2.1,cV⟩) aR).both ⟨⟨agj,agk,age,A0,⟨agf,agg.kept λa l k i=>b4.1 a k (λdf=>?_) i,agh⟩,⟨lq,sG⟩,?_⟩,λa l=>?_,aR⟩]
   .rcases l with rfl|rfl
    .rw[agm<|bg df]
    .rw[agl<|bg df]
   .rw[Ka W1 λe k N SQ dY eN qi=>?_];cases dY;rw[⟨bm,k,N,SQ,V,b4.1 _ _ (λdf=>bC.ne<|bg df) eN,qi⟩]
   .rw[kO (OE.snd.2 a l) λdO d5 eb e9 f_=>⟨dO,d5,eb,e9,cg f_ b4.2⟩]
  .intro nU rT;have ap:s.depth<recursionLimit:=by show s.depth<1000;rw[ct (.t .x<|.n 1000) [.l (.a .x<|.o .y)<|.n 900] Z ao.2]
   rw[oG.self i3 ao.1 ap<|rT h co (h::aP::dE::f4) (aP::[dE]) [t] _ (bK.refl ..) ⟨agd i3 ao.1 ap co,oG,λa l=>.inl ?_,λj gc=>.inl ?_,λj gc=>?_,λa l=>?_⟩]
   .have hr:=dD.1
    revert a;rwa[hg ?_]
    .rw[a5 hr cm]
    .intro a l;rw[U (bg l)<|a5 hr eO]
   .rw[U (bg gc)<|a5 rO<|a5 iS.4 vD]
   .rw[U (bg gc) qs]
   .revert a;rwa[hg ?_]
    .rw[⟨hu,λe=>b2 (jt _ e) bH⟩]
    intro a l;rcases fT.mp l with rfl|l
    .rw[⟨rG,λe=>b2 (jt _ e) cm⟩]
    rcases fT.mp l with rfl|l
    .rw[⟨xr,λe=>b2 (jt _ e) eO⟩]
    .rw[c0 (DN a l) λdm el=>⟨el,λe=>hp (dm) (λC=>(I.9 _ e).elim (nv.mp C).2 λeR=>b2 (nv.mp C).1 eR) λC=>b2 (jt _ e) C⟩]
end
noncomputable def OF(qK:Nat->Int)(o:Nat):Int:=qK<|argBest (λj Q=>decide<|qK j>qK Q)<|o-1
theorem agn(cO:s.handled=aX)(aw:b.heap.IsList E N)(ak:0<N.size)(aQ:∀j z,N[j]?=W z->∃D,z=tG (qK j) D)(aj:∀D w,bb [] [] b w->A (.int (OF qK N.size) D) w):Y ſ v s (eS (.builtin "max") [.ref E] []) A b:=by
 rw[bt (id aw) λk aL u=>kv<|Y.of<|call_max_walkS<|EL aw<|Zk (aB b) [(aB b),E] [(aB b)] _ N.size (λj z=>N[j]?=W z) _ _ V (JU (prog:=ſ) (w:=v) (A:=s.in1) cO (aB b) E (gQ<|dK aL) N).toS ⟨⟨_,fu _ V,V,V⟩,aw.push _⟩ (λa l=>?_) ak (CmpOf.ints_gt qK aQ) λz w cl bk C=>?_]
 .rw[U (f' ..) ?_]
  revert a;rwa[hg ?_]
  .rw[kN _]
  .intro a l;rw[U (bg l)<|k'<|dK aL]
 .rw[c1 (aQ _ _ cl) λD bN=>?_];obtain rfl:=bN;have aI:w.gens=b.gens:=bk.gens;rw[aj D w ⟨λa k u i=>bk.heap a k (λe=>ia _<|bg e▸dK i)<|eY _ i,C.1,λj f u i=>aI.symm▸i,C.2,λc=>aI▸c,bk.os⟩]
theorem ago{aq:List Int}:∀{N:List aF},b9 c r (aq.map bj.int) N->∀(j:Nat)(z:aF),N[j]?=W z->∃D,z=tG (aq.getD j 0) D:=by induction aq with|nil=>intro N q j z i;subst q;trivial|cons o aq a3=>intro N q j z i;rw[d7 q λg aV fw dY eN=>?_];obtain rfl:=fw;cases j with|zero=>simp at i;rw[bL i dY]|succ j=>rw[a3 eN j z (by simpa using i)]
def td(aq:List Int):Int:=OF (λj=>aq.getD j 0) (gu aq)
theorem ai.max(aA:g.Ok)(c:ai g x O y i m<|bu aq)(c_:0<gu aq)(aI:g.gl "max"=W (.builtin "max"))(R:fe O "max"=ag:=by cbv)(ak:dS i=ag:=by rfl):cI g x O y (.Call (.Name "max" d') [i] [] ax) (td aq):=mQ λs p r L ay aa ao G I=>by
 subst G;rw[lj I.ok (h3 aA I aI R) V (hZ ak I.ok (c s p r L ay aa ao V I) fB.hV jo) ?_ (by simp[ak])];rintro b aV aO cB A aj;rw[d7 cB λe2 q dt ka eh=>?_];obtain rfl:=dt;obtain rfl:=eh;rw[jH ka.iw λE N o fd aw ap=>?_];obtain rfl:=fd;have cp:N.size=gu aq:=by have:=ap.length;simpa using this
 rw[agn (qK:=λj=>aq.getD j 0) ao.1 ⟨_,aw,V,o,V⟩ (cp▸c_) (λj z i=>ago ap j z (by simpa using i)) λD w t=>cp.symm▸aj _ w t ⟨D,V⟩]
theorem ai.min2(aA:g.Ok)(bw:cI g x O y E h)(bO:cI g x O y q a)(aI:g.gl "min"=W (.builtin "min"))(R:fe O "min"=ag:=by cbv)(ak:dS E=ag/\dS q=ag):cI g x O y (.Call (.Name "min" d') [E,q] [] ax) (if a<h then a else h):=mQ λs p r L ay aa ao G I=>by subst G;rw[lj I.ok (h3 aA I aI R) V (hZ ak.1 I.ok (eP bw ao V I) (iL _)<|hZ ak.2 I.ok (eP bO ao V I) (iL _) jo) ?_ (by simp[ak])];intro b aV aO t9 A aj;obtain⟨e2,e,rfl,⟨D,rfl⟩,fG,df,rfl,⟨aG,rfl⟩,rfl⟩:=t9;rw[kv<|Y.of<|min_two_ints ao.1 λX ab aT C=>?_];rwa[aj _ _ (bK.heap (λa k u i=>aT a k i) C.1)];split<;>rw[⟨_,V⟩]
theorem ai.sum(aA:g.Ok)(c:ai g x O y i m<|bu aq)(aI:g.gl "sum"=W (.builtin "sum"))(R:fe O "sum"=ag:=by cbv)(ak:dS i=ag:=by rfl):cI g x O y (.Call (.Name "sum" d') [i] [] ax) aq.sum:=mQ λs p r L ay aa ao G I=>by
 subst G;rw[lj I.ok (h3 aA I aI R) V (hZ ak I.ok (c s p r L ay aa ao V I) fB.hV jo) ?_ (by simp[ak])];intro b aV aO t9 A aj;obtain⟨e2,q,rfl,ka,rfl⟩:=t9;obtain⟨E,N,o,rfl,aw,ap⟩:=ka.iw;have T:wH N.toList aq:=b9.ints.mp ap;obtain⟨aJ,El⟩:=(IntsAre.allInts T).items;have fs:b.heap.IsList E (intItems aJ):=⟨_,aw,V,o,by rw[bL El<|U JL V]⟩;rw[kv<|Y.of<|sum_intListG ao.1 fs λX ab fp aT C=>?_];have eE:preSum (numAt aJ) aJ.size=aq.sum:=by have:=T.numsOf;rw[show N.toList=(intItems aJ).toList by rw[bL El V],nums_intItems]at this;rw[U (preSum_eq ..)<|U (q2 (by simp))<|U this V]
 rwa[U eE];rw[aj _ _ (bK.heap (λa k u i=>aT a k i) C.1) ⟨_,V⟩]
theorem bd.Ul(aI:gj y f=W (.f<|.int h))(R:hL O f=ag)(aL:ln O f=ag)(bq:cI g x O y i a)(c:bd g x O a1 ((f,.f<|.int<|h+a)::y) b0 b1):bd g x O a1 y (.AugAssign (.Name f d') .Add i ax::b0) b1:=vx c λs p r L ay aa b ao G I n=>by rw[d8 ?_];intro eg;subst G;rw[Y.eq (PySem.exec_AugAssign_Name ..)<|dH ?_];rw[ph ?_];intro p6;obtain⟨dY,eN,qi⟩:=Cy R;obtain⟨cS,al,af,_⟩:=n.3;obtain⟨a4,jq,D,rfl⟩:=af _ _<|sD aI;rw[Y.bind<|KL al (K9 dY) jq eN<|dR<|(eP bq ao V I) b _ n λagp as aK l=>?_];obtain⟨aG,rfl⟩:=l;rw[dH<|dC<|JW<|wpAny_iadd_int<|dH<|Y.bind<|sF (a:=be) (z:=.int<|h+a) I ((n.grow aK).grow<|bK.tok [] [] as<|as.toks+1) ⟨_,V⟩ aL λar a7 dD=>?_];rw[Y.pure ⟨V,r,L,aa,fF.inside<|((aK.trans<|bK.tok [] [] as<|as.toks+1).mono aR λu c=>c).trans a7,I,dD⟩]
noncomputable def W4(k E:Int):Int:=lc (lc E (wF (E.fdiv 128) k*128)*2)<|wF (E.fdiv 128) k*29
theorem W5(E k:Int):bd g x (fH<|dq aU 22) [] [("ones",.f<|.int k),("lanes",.f<|.int E)] (hv<|dq aU 22) (λc2 u=>c2=.ret (.int<|W4 k E)):=by
 conv=>arg 6;whnf
 rw[bd.assign (ai.and (ai.div al.nm ai.dv bf<|vJ bf) al.nm) Z<|bd.ret (ai.xor (ai.mul (ai.xor al.nm<|ai.mul al.nm ai.dv<|CZ bf) ai.dv<|CZ bf)<|ai.mul al.nm ai.dv<|CZ bf) V]
noncomputable def OG:List (List Int):=[[3,3,70,2,18],[3,2,70,2,22],[4,0,100,2,18],[4,3,100,2,26],[4,2,100,4,16],[5,0,134,2,24],[5,3,134,4,18],[5,2,134,4,22]]
structure qL(g:ea)extends qm g where
 lay:∃z,g.gl "_law_layouts"=W z/\ck g.s0.heap g.tabs (.tup<|OG.map jc) z
 min:g.gl "min"=W (.builtin "min")
 sum:g.gl "sum"=W (.builtin "sum")
 sorted:g.gl "sorted"=W (.builtin "sorted")
 Me:Hy g "_law_doubled" ["lanes","ones"] (fH<|dq aU 22)<|hv<|dq aU 22
 Uo:Hy g "_law_multiples" ["checks"] (fH<|dq aU 23)<|hv<|dq aU 23
 Up:Hy g "_law_rest" ["words","checks","multiples"] (fH<|dq aU 24)<|hv<|dq aU 24
theorem H2(c:(nE o)[j]?=W f):j<o/\f=.int j:=by
 have T:j<o:=by simpa[nE]using(j4.mp c).1
 rw[nE,eX,nN T]at c;rw[⟨T,(ek c).symm⟩]
noncomputable def A1(m:Nat):Int:=((cZ<|m+1).map λn=>(256:Int)^n).sum
def te(k:Int):Nat->Int->Int|0,v=>v|b+1,v=>W4 k<|te k b v
def r5(k:Int):Nat->Int|0=>1|n+1=>lc (r5 k n*256)<|te k n<|r5 k n
def r6(k v:Int):Nat->List Int|0=>[0]|b+1=>r6 k v b++(r6 k v b).map λf=>lc (te k b v) f
def kH(m:Nat):List Int:=r6 (A1 m) (r5 (A1 m) m) 8
theorem A2(k v:Int)(b):gu (r6 k v b)=2^b:=by induction b with|zero=>rw[V]|succ b a3=>rw[(U e7<|U (dg ..)<|U (a3)<|(Nat.mul_two _).symm)]
theorem agq(o:qL g)(m:Nat)(aT:m<=30):bd g (x+1) (fH<|dq aU 23) [] [("checks",.f<|.int m)] (hv<|dq aU 23) (λc2 u=>c2=.ret (bu<|kH m)):=by
 have G:cy=2^24:=V;conv=>arg 6;whnf
 rwa[bd.assign (z:=.int<|A1 m) (ai.sum o.ok (al.wO (o3:=λ(j:Nat)=>bj.int j) o.toqm (al.range o.toqm (cI.cast (ai.add al.nm ai.dv) V)<|bM (.t (.o .x)<|.n 4611686018427387904) [.l .x<|.n 30] Z aT) (λn aO=>⟨al.t1,?_⟩) (by simp;rw[fE 211 (.l (.o .x) .y) [.l .x<|.n 30,.e .y<|.n 16777216] Z aT G])) o.sum) Z]
 .have aO:=lb.mp aO;rw[ai.pow ai.dv al.nm (gP _) (ct (.cN (.c .x)<|.n 1000000) [.l .y<|.n 30,.t .x<|.o .y] Z aT aO) bf]
 unfold kH;generalize A1 m=k;rwa[bd.assign ai.dv Z<|bd.nu (λj y=>gk [("whole",.f<|.int<|r5 k j),("ones",.f<|.int k),("checks",.f<|.int m)] y) (λu u=>V) (al.range o.toqm al.nm (by rw[bM (.t .x<|.n 4611686018427387904) [.l .x<|.n 30] Z aT])) ?_ (g9 V)]
 .intro j f bP R d9;obtain⟨T,rfl⟩:=H2 R;rw[⟨al.t1,bd.le (bP:=[("power",.f<|.int j),("whole",.f<|.int<|r5 k j),("ones",.f<|.int k),("checks",.f<|.int m)]) ⟨V,d9⟩<|bd.assign al.nm Z<|px ?_⟩];intro qI;rwa[bd.nu (λQ y=>gk [("turned",.f<|.int<|te k Q<|r5 k j),("whole",.f<|.int<|r5 k j),("ones",.f<|.int k),("checks",.f<|.int m)] y) (λu u=>V) (al.range o.toqm al.nm (by rw[ct (.t .x<|.n 4611686018427387904) [.l .y<|.n 30,.t .x .y] Z aT T])) ?_ (g9 V)]
  .intro Q f mW R kG;obtain⟨cu,rfl⟩:=H2 R;rw[⟨al.t1,bd.le (bP:=[("step",.f<|.int Q),("turned",.f<|.int<|te k Q<|r5 k j),("whole",.f<|.int<|r5 k j),("ones",.f<|.int k),("checks",.f<|.int m)]) ⟨V,kG⟩<|bd.assign (al.call o.ok o.Me (hO.g8 al.nm<|hO.g8 al.nm hO.nl)<|W5 _ _) Z<|bd.nil<|g9 V⟩]
  .intro mW kG;rw[show gu (nE j)=j by simp[nE]]at kG;rw[bd.le kG<|bd.assign (ai.xor (ai.mul al.nm ai.dv<|CZ bf) al.nm) Z<|bd.nil<|g9 V]
 .intro bP d9;rw[show gu (nE m)=m by simp[nE]]at d9;rwa[bd.le d9<|bd.assign (z:=bu [0]) (ai.list (fC.g8 ai.dv fC.nl) bf) Z];generalize r5 k m=v;rwa[bd.nu (λb y=>gk [("multiples",.f<|bu<|r6 k v b),("whole",.f<|.int<|te k b v),("ones",.f<|.int k)] y) (λu u=>V) (al.range (S:=8) o.toqm ai.dv bf) ?_ (g9 V)]
  .intro b f mW R kG;obtain⟨agr,rfl⟩:=H2 R;have cp:gu (r6 k v b)<=128:=by rwa[U (A2 ..)];rw[a5 (Fj bf<|Nat.le_of_lt_succ agr) (by decide)]
   rw[⟨al.t1,bd.le (bP:=[("step",.f<|.int b),("multiples",.f<|bu<|r6 k v b),("whole",.f<|.int<|te k b v),("ones",.f<|.int k)]) ⟨V,kG⟩<|bd.assign (z:=bu<|r6 k v<|b+1) (ai.vH al.nm (al.wO o.toqm (fj.list (jR.of al.nm)<|.inl<|kR _ _ V) (λf R=>⟨al.t1,ai.xor al.nm al.nm⟩)<|fE 21 (.l .x .y) [.e .y<|.n 16777216,.l .x<|.n 128] Z G cp) (by rwa[U (dg ..)];rw[fE 321 (.l (.a .x .x) .y) [.e .y<|.n 16777216,.l .x<|.n 128] Z G cp])) Z ?_⟩];rw[bd.assign (al.call o.ok o.Me (hO.g8 al.nm<|hO.g8 al.nm hO.nl)<|W5 _ _) Z<|bd.nil<|g9 V]
  .intro mW kG;rw[bd.le kG<|bd.ret al.nm V]
noncomputable def iX(Em c v:Int):Int:=lc (c*256)<|v*Em
def A3(de:List Int)(Em c v:Int):Int:=lc (iX Em c v)<|de.getD (om ((iX Em c v).fdiv Em)) 0
def nH(de:List Int)(m:Nat)(dQ:List Int):Int:=dQ.foldl (A3 de<|256^m) 0
def yl(de:List Int)(m:Nat)(dQ:List Int):List Int:=(ij ((m:Int)-1) (-1) m).map λn=>((nH de m dQ).fdiv<|256^om n).fmod 256
theorem W6(aT:m<=30):BX h (256^m)=be:=by
 rw[PyProof.noPylong_of_log2 ?_];have af:((256:Int)^m).natAbs=256^m:=by rwa[U (PS ..)];rfl
 rw[U af<|(Nat.log2_lt<|tw<|Fk bf).mpr<|mA (Fj bf aT) (by rwa[U (show(256:Nat)=2^8 from V)<|bL (Nat.pow_mul ..)];rw[Nat.pow_lt_pow_right (by decide) (by decide)]:256^30<2^9000)]
theorem ags(de:List Int)(m:Nat)(dQ:List Int)(T:j<gu dQ):nH de m (dQ.take<|j+1)=A3 de (256^m) (nH de m<|dQ.take j) (dQ.getD j 0):=by
 have c:dQ[j]?=W (dQ.getD j 0):=by rwa[U (dG)<|U (eT T)];rfl
 unfold nH;rw[U u4<|U c<|U y5 ?_];rfl
theorem OH{j m:Nat}(c:j<m):(m:Int)-1+(j:Int)*-1=((m-1-j:Nat):Int):=by rw[I9,yU,<-BA,I_,Jg];rw[(Int.ofNat_sub ((tx 1 j).symm▸c:1+j<=m)).symm]
theorem agt(o:qL g)(m:Nat)(aT:m<=30)(dQ de:List Int)(bV:gu dQ<=1000/\∀v∈dQ,0<=v/\v<256)(bk:gu de<=256)(aY:∀j,j<gu dQ->0<=(iX (256^m) (nH de m<|dQ.take j)<|dQ.getD j 0).fdiv (256^m)/\om ((iX (256^m) (nH de m<|dQ.take j)<|dQ.getD j 0).fdiv<|256^m)<gu de):bd g x (fH<|dq aU 24) [] [("multiples",.f<|bu de),("checks",.f<|.int m),("words",.f<|bu dQ)] (hv<|dq aU 24) (λc2 u=>c2=.ret (bu<|yl de m dQ)):=by
 rw[px ?_];intro qI;have G:cy=2^24:=V;conv=>arg 6;whnf
 rw[bd.assign (z:=.int<|256^m) (ai.pow ai.dv al.nm (gP _) (bM (.cN (.c .x)<|.n 1000000) [.l .x<|.n 30] Z aT) bf) Z<|bd.assign ai.dv Z<|bd.nu (λj y=>gk [("held",.f<|.int<|nH de m<|dQ.take j),("top",.f<|.int<|256^m),("multiples",.f<|bu de),("checks",.f<|.int m)] y) (λu u=>V) (fj.list (jR.of al.nm)<|.inl<|kR _ _ V) ?_ (g9 V) ?_]
 .intro j f bP R d9;obtain⟨T,rfl⟩:=TB R;have l:=bV.2 (dQ.getD j 0) (by rwa[U (dG)<|U (eT T)];rw[nb T]);obtain⟨iT,dm⟩:=aY j T;rw[⟨al.t1,bd.le (bP:=[("word",.f<|.int<|dQ.getD j 0),("held",.f<|.int<|nH de m<|dQ.take j),("top",.f<|.int<|256^m),("multiples",.f<|bu de),("checks",.f<|.int m)]) ⟨V,d9⟩<|U (ags de m dQ T) ?_⟩];generalize nH de m (dQ.take j)=c at*;rw[bd.assign (z:=.int<|iX (256^m) c<|dQ.getD j 0) (ai.xor (ai.mul al.nm ai.dv<|CZ bf)<|ai.mul al.nm al.nm<|xv (by rw[⟨nT (.b2 (.g<|.n 18446744073709551616) .x) [.cN (.n 0) .x] Z l.1,nT (.b2 .x<|.n 18446744073709551616) [.b2 .x<|.n 256] Z l.2⟩])) Z<|bd.assign (ai.xor al.nm<|ai.t5 al.nm (ai.div al.nm al.nm (I'<|Ja bf)<|W6 aT) iT dm<|fE 211 (.l .x .y) [.l .x<|.n 256,.e .y<|.n 16777216] Z bk G) Z<|bd.nil<|g9 V]
 .intro bP d9;rw[dg,wA]at d9;rw[bd.le d9<|bd.ret (al.wO o.toqm (al.DZ o.toqm (ai.sub al.nm ai.dv) (ai.neg ai.dv) (ai.neg ai.dv) bf ((by decide+kernel:∀m:Nat,m<=30->wJ ((m:Int)-1) (-1) (-1)=ag) m aT) (vJ bf) ((by decide+kernel:∀m:Nat,m<=30->tH ((m:Int)-1) (-1) (-1)=m) m aT) (ak:=⟨V,V,V⟩)) (λn aO=>⟨al.t1,?_⟩) (by rwa[U (sP ..)];rw[fE 211 (.l .x .y) [.l .x<|.n 30,.e .y<|.n 16777216] Z aT G])) V];rwa[ds (@gK _ _)];intro dx;obtain⟨j,T,rfl⟩:=la.mp aO;have T:=lb.mp T;rw[ai.mod (ai.div al.nm (ai.pow ai.dv al.nm (OH T▸gP (m-1-j)) (OH T▸I5.mpr (a5 (jF (m-1) j)<|a5 (jF m 1)<|a5 aT (by decide:30<=1000000))) bf) (I'<|Ja bf)<|W6<|U (congrArg om<|OH T)<|a5 (jF _ _)<|a5 (jF _ _) aT) ai.dv bf]
theorem agu:∀j,j<8->fy j 1=2^j:=by decide
theorem agv(h a:Nat):(h:Int).fmod (a:Int)=((h%a:Nat):Int):=by rwa[U (Int.fmod_eq_emod_of_nonneg _<|gP _)];rfl
theorem W7(h a:Nat):(h:Int).fdiv (a:Int)=((h/a:Nat):Int):=by rwa[U (Int.fdiv_eq_ediv_of_nonneg _<|gP _)];rfl
theorem A4(t:List Nat)(g:Nat):gu (d0 t g)=gu t:=dg ..
theorem tf(c:g<256)(aw:et E):et (g::E):=λf R=>by
 rcases fT.mp R with rfl|e
 .rw[c]
 .rw[aw f e]
theorem agw(cV:∀j,j<8->te k j v=((gB ((1::d0 t 1).map<|fy j):Nat):Int))(b):b<=8->∀g,g<2^b->(r6 k v b)[g]?=W ((gB (g::d0 t g):Nat):Int):=by induction b with
 |zero=>
  intro fl g aA;have aM:g=0:=FP 101 0 (.e .x<|.n 0) [.t .x<|.n 1] Z aA;subst aM;have:gB (0::d0 t 0)=0:=by rwa[U (NX ..)<|U (show(0:Nat)::bX (gu t) 0=bX (gu t+1) 0 from V)];induction(gu t+1)with|zero=>rfl|succ o aW=>rw[U l'<|U (r1 ..)<|U aW<|U (y1 ..) V]
  rwa[U this];rfl|succ b a3=>
  intro G g aA;have aO:(2:Nat)^b<=128:=a5 (Fj (by decide)<|P5 G) (by decide);rw[(?_:(r6 k v b++(r6 k v b).map λf=>lc (te k b v) f)[g]?=_)];by_cases c:g<2^b
  .rw[U (u_ (by rw[A2,];rw[c])) ?_];rw[a3 (mB G) g c]
  .have ka:g-2^b<2^b:=by rw[Fi]at aA;rw[(iv (2^b)<|g).elim (λer=>eA (.t .x .y) [.t .z<|.r .y 2,.e (.a .x .y) .z] Z aA<|dM er) λer=>fq 3 (.t .x .y) [.t .z<|.r .y 2,.l .x .z,.e .x<|.n 0] Z aA (jF _ _)<|jl er]
   rw[U (y9 (by rw[A2,];rw[sf c]))<|U (A2 ..)<|U (eX)<|U (a3 (mB G) _ ka)<|U (tu ..)<|U (cV b G)<|U (DS ..) ?_]
   congr 2;have bH:(1::d0 t 1).map (fy b)=2^b::d0 t (2^b):=by rw[U hU<|bL NY<|U (agu b G) V]
   have cm:2^b^^^(g-2^b)=g:=by have:=Wg (f:=1) (B:=0) (Fk (by decide)) ka;rw[Nat.mul_one,Nat.mul_zero,pW,sg,BH,BJ,Nat.mul_one]at this;rw[zn 10121 1011 (.e .x .y) [.e .x<|.a .z .w,.l .y<|.a .w .z,.e (.a .w .z) .y] Z this (ef _ _)<|dM<|ct (.l .x .y) [.i5 .y .x] Z c]
   have H3:2^b<256:=mA aO (by decide);have xs:=BF ka H3;rw[U bH<|bL (NZ (tf H3<|v5 H3) (tf xs<|v5 xs)<|U gt<|U gt<|U (A4 ..)<|U (A4 ..) V)<|U (o4 ..)<|bL (V6 H3 xs)<|U cm V]
def pO(m:Nat)(t:List Nat):Bool:=t.length==m&&((cZ 8).all λj=>te (A1 m) j (r5 (A1 m) m)==((gB ((1::d0 t 1).map<|fy j):Nat):Int))
theorem tg(c:pO m t=ag):gu t=m/\∀g,g<256->(kH m)[g]?=W ((gB (g::d0 t g):Nat):Int):=by unfold pO at c;obtain⟨af,am⟩:=kJ.mp c;rw[⟨eq_of_beq af,agw (λj T=>eq_of_beq<|hH.mp am j<|lb.mpr T) 8<|dr _⟩]
theorem OI(m:Nat):(256:Int)^m=((256^m:Nat):Int):=by push_cast;rfl
theorem agx(c:et E):gB (g::E)/256^gu E=g:=by rw[U (r1 ..)<|U (si ..)<|U (P8 (Fk (by decide)) ..)<|U (Jj<|D2 c)<|U (pW ..) V]
theorem W8{t q:List Nat}{v:Nat}(aI:0<gu t)(ap:gu q=gu t)(l:et q)(bV:v<256):iX (256^gu t) ((gB q:Nat):Int) (v:Int)=((gB ((q.headD 0^^^v)::(q.tail++[0])):Nat):Int):=by cases q with|nil=>replace aI:=ap▸aI;rw[nomatch aI]|cons f q=>
  unfold iX;rw[U (OI ..)<|U (show(256:Int)=((256:Nat))from V)<|bL (E9 ..)<|bL (E9 ..)<|U (DS ..) ?_]
  congr 1;have bH:gB (f::q)*256=gB (f::(q++[0])):=by have:=Wf (f::q) [0];rw[show gB [0]=0 from V,pW,Ql,Nat.pow_one]at this;rw[this.symm]
  have cm:v*256^gu t=gB (v::bX (gu t) 0):=by
   rwa[U (r1 ..)<|U gg];have:∀o,gB (bX o 0)=0:=λo=>by induction o with
    |zero=>rfl|succ o aW=>rw[U l'<|U (r1 ..)<|U aW<|U (y1 ..) V]
   rw[U (this ..)<|U (pW ..) V]
  have R:f<256:=l f bB;have bC:et (q++[0]):=D3 l;have cp:gu (q++[0])=gu t:=by rwa[U e7];rw[ap]
  rw[U bH<|U cm<|bL (NZ (tf R bC) (tf bV<|m4 _)<|U gt<|U gt<|U cp<|U gg V)<|U (o4 ..) ((bL cp<|U (DY ..) ?_):gB ((f^^^v)::g2 (q++[0]) (bX (gu t) 0))=_)];rfl
theorem W9{t q:List Nat}(aI:0<gu t)(ap:gu q=gu t):gu (q.tail++[0])=gu t:=e7.trans<|Qk▸ap▸yV (ap.symm▸aI)
theorem W_{t q:List Nat}{v:Nat}(aI:0<gu t)(ap:gu q=gu t)(l:et q)(bV:v<256):(iX (256^gu t) ((gB q:Nat):Int) (v:Int)).fdiv (256^gu t)=((q.headD 0^^^v:Nat):Int):=by have cp:=W9 aI ap;rw[U (W8 aI ap l bV)<|U (OI ..)<|U (W7 ..)<|bL cp<|U (agx<|D3 l) V]
theorem agy{t:List Nat}{de:List Int}(aI:0<gu t)(bk:∀g,g<256->de[g]?=W ((gB (g::d0 t g):Nat):Int)):∀(aq q:List Nat),et aq->et q->gu q=gu t->(d2 aq).foldl (A3 de<|256^gu t) ((gB q:Nat):Int)=((gB (aq.foldl (qC t) q):Nat):Int):=by intro fc;induction fc with|nil=>intro q eM hq n0;rw[V]|cons v aq a3=>intro q ak l ap;have bV:=ak v bB;rw[(?_:(d2 aq).foldl _ (A3 de (256^gu t) ((gB q:Nat)) (v:Int))=_)];rw[U ((show A3 de (256^gu t) ((gB q:Nat):Int) (v:Int)=((gB (qC t q v):Nat):Int)from(by have aA:=v4 (HM l) bV;have cp:gu (q.tail++[0])=gu (d0 t<|q.headD 0^^^v):=(W9 aI ap).trans (A4 ..).symm;unfold A3;rw[U (W_ aI ap l bV)<|U (hF ..)<|U (dG)<|U (bk _ aA)<|U (W8 aI ap l bV)<|U I1<|U (DS ..)<|bL (NZ (tf aA<|D3 l) (tf aA<|v5 aA)<|U gt<|U gt<|U cp V)<|U (o4 ..)<|U (Fh ..)<|U (r1 ..)<|U (y1 ..)<|U (sg ..) ?_];rfl)))<|a3 _ (λf R=>ak f<|mt R) (V5 (D3 l)<|v5<|v4 (HM l) bV)<|N0 ap aI v]
theorem agz(o:Nat):gB (bX o 0)=0:=by induction o with|zero=>rfl|succ o aW=>rw[U l'<|U (r1 ..)<|U aW<|U (y1 ..) V]
theorem W'(c:pO m t=ag)(aI:0<m)(ak:et aq):nH (kH m) m (d2 aq)=((gB (aq.foldl (qC t)<|bX m 0):Nat):Int):=by obtain⟨aw,bk⟩:=tg c;subst aw;have:=agy aI bk aq _ ak (m4 (gu t)) gg;rw[agz]at this;rw[this]
theorem agA(c:et q)(T:j<gu q):gB q/256^(gu q-1-j)%256=q.getD j 0:=by
 have i:q=q.take j++(q.getD j 0::q.drop (j+1)):=by rw[U (dG)<|U (eT T)<|U I1<|bL (Fo T)<|U (sl ..) V]
 have aw:gu (q.drop<|j+1)=gu q-1-j:=by rwa[U o'];rw[(iv ((j)+1)<|gu q).elim (λer=>rg 100011 10011101 (.e .x .y) [.l .z<|.a .x<|.o .w,.l .u<|.a .y .w,.l .z<|.a .u<|.n 1,.e (.a .x<|.o .w) .z,.e (.a .y .w) .u,.e (.a .u<|.n 1) .z] Z (ef _ _) (ef _ _) (ef _ _) (dM er) (dM<|eA (.l .x .y) [.l (.o .x) .z,.l .z<|.a .y<|.n 1] Z er<|ef _ _)<|dM<|ct (.l (.n 1) .x) [.l (.o .y) .x] Z er) λer=>(iv (j)<|gu q-1).elim (λg0=>(iv 1<|gu q).elim (λx1=>rg 1011 100101 (.e .x .y) [.l .z<|.o .w,.e .x<|.n 0,.e (.a .y .w) .u,.e (.a .u<|.n 1) .z] Z er (jl er) (dM g0)<|dM x1) λx1=>kU 1011 10101 (.e .x .y) [.l .y .z,.e .x<|.n 0,.e .z<|.n 0] Z (jF _ _) (jl er)<|jl x1) λg0=>nj 101 1011 (.e .x .y) [.e .x<|.n 0,.e .y<|.n 0] Z (jl er)<|jl g0]
 have l:gB q=(gB (q.take j)*256+q.getD j 0)*256^(gu q-1-j)+gB (q.drop<|j+1):=by
  conv=>lhs;rw[i]
  rw[U (Wf ..)<|U (r1 ..)<|U gt<|U aw<|U (Fi ..)<|U (Nat.add_mul ..)<|U (Nat.mul_assoc ..)<|U (si 256 ..)<|U (sh ..) V]
 have bl:=D2 (E:=q.drop<|j+1) λf R=>c f<|BL R;rw[aw]at bl;rw[U l<|U (si ..)<|U (P8 (Fk (by decide)) ..)<|U (Jj bl)<|U (pW ..)<|U (si ..)<|U (y0 ..)<|U (Fg<|AM c j) V]
theorem Xa(c:pO m t=ag)(aI:0<m)(ak:et aq):yl (kH m) m (d2 aq)=d2 (hR t aq):=by
 have aw:=(tg c).1;have OJ:hR t aq=aq.foldl (qC t) (bX m 0):=by rwa[bL aw];rw[(by rwa[bL (ae3 t (aw▸aI) aq _ gg)<|U (V7 ..)];rfl)]
 have T:=Wh (aw▸aI) aq (bX m 0) ak (m4 _) (by rw[U gg<|U aw V]);unfold yl;rwa[U (W' c aI ak)<|U OJ];generalize aq.foldl (qC t) (bX m 0)=q at T;obtain⟨l,Xb⟩:=T;rw[aw]at Xb;subst Xb;apply wD;intro j;unfold d2 ij;rw[U (eX)<|U (eX)<|U (eX) ?_];by_cases T:j<gu q
 .rw[U (nN T)<|U (eT T) ?_];simp only[tu]
  congr 1;have bH:om ((gu q)-1+(j:Int)*-1)=gu q-1-j:=by rw[U (I9 ..)<|U (yU _)<|bL BA<|U (I_ ..)<|(Fb (gu q)<|1+j).trans (Jg ..).symm]
  rw[U bH<|U (OI ..)<|U (W7 ..)<|U (show(256:Int)=((256:Nat))from V)<|U (agv ..)<|U (agA l T)<|U (dG)<|U (eT T) ?_];rfl
 .rw[U (o_ (by simpa using T))<|U (o_ (by simpa using T)) ?_];rfl
theorem agB(c:pO m t=ag)(aI:0<m)(ak:et aq)(j:Nat)(T:j<gu (d2 aq)):0<=(iX (256^m) (nH (kH m) m<|(d2 aq).take j)<|(d2 aq).getD j 0).fdiv (256^m)/\om ((iX (256^m) (nH (kH m) m<|(d2 aq).take j)<|(d2 aq).getD j 0).fdiv<|256^m)<gu (kH m):=by
 have aw:=(tg c).1;have vz:et (aq.take j):=λf R=>ak f<|BM R;have OK:(d2 aq).take j=d2 (aq.take j):=by unfold d2;rw[wB.symm]
 have gc:=Wh (aw▸aI) (aq.take j) (bX m 0) vz (m4 _) (by rw[U gg<|U aw V]);rw[U OK<|U (W' c aI vz)<|U (HL ..) ?_];subst aw;rw[U (W_ aI gc.2 gc.1<|AM ak j)<|U (hF ..)<|⟨gP _,yZ (v4 (HM gc.1)<|AM ak j) (show gu (kH (gu t))=256 from A2 ..).symm⟩]
theorem OL(t:List Nat)(o:Nat):∀(E C:List Nat),o+gu t<=gu E->hc t o (E++C)=hc t o E++C:=by induction o with|zero=>intro E C hq;rw[V]|succ o a3=>intro eV;cases eV with|nil=>intro C c;rw[y8]at c;omega|cons g E=>intro C c;rw[gt]at c;rw[((U (V8 _ _ _ (by rw[A4,];rw[eA (.l .x .y) [.l (.a (.o .z) .x)<|.o .y] Z c]))<|a3 _ C (by rwa[U (V4 ..)];rw[eA (.l (.a .x .y) .z) [.l (.a (.o .x) .y)<|.o .z] Z c])):hc t o (gf (d0 t g)<|E++C)=hc t o (gf (d0 t g) E)++C)]
theorem OM(t:List Nat)(o:Nat):∀(S:Nat)(E:List Nat),hc t (o+S) E=hc t S (hc t o E):=by induction o with|zero=>intro S E;rwa[U (sg ..)];rfl|succ o a3=>intro S E;rw[U (Nat.add_right_comm ..)<|a3 S<|m3 t E]
theorem agC:∀(h a:List Nat),g2 h a=g2 a h:=by intro fc;induction fc with
 |nil=>intro eV;cases eV with|nil=>rw[V]|cons _ _=>rw[V]
 |cons f h a3=>intro eV;cases eV with|nil=>rw[V]|cons B a=>rw[U (o4 ..)<|U (o4 ..)<|U (Jm ..)<|U (a3 a) V]
theorem ON(h:List Nat):g2 (bX (gu h) 0) h=h:=U (agC ..)<|U (DY ..) V
theorem Xc(h:List Nat):g2 h h=bX (gu h) 0:=by induction h with|nil=>rw[V]|cons f h a3=>rw[U (o4 ..)<|U (Fh ..)<|U (a3) ?_];rfl
theorem agD(c:f^^^B=0):f=B:=by have:(f^^^B)^^^B=0^^^B:=U c V;rwa[ty,Fh,BH,BJ]at this
theorem Xd:∀{h a:List Nat},gu h=gu a->g2 h a=bX (gu h) 0->h=a:=by intro fc;induction fc with
 |nil=>intro eV;cases eV with|nil=>intro eM hq;rw[V]|cons _ _=>intro c hq;rw[nomatch c]
 |cons f h a3=>intro eV;cases eV with|nil=>intro c hq;rw[nomatch c]|cons B a=>intro c i;rw[o4,gt,l']at i;obtain⟨bH,cm⟩:=wK i;rw[U (agD bH)<|U (a3 (q6 c) cm) V]
def wd(m:Nat):Bool:=yl (kH m) m (1::bX (255-m) 0)==bX (m-1) 0++[1]
theorem agE(aI:0<gu t):hR t (x::bX S 0)=v6 t S (d0 t x):=by unfold hR;rw[U gt<|U gg<|U u5<|U (DX ..)<|U (HE ..)<|U tD<|U (tx S ..) ?_];have:=aeM (d0 t x) S;rw[A4]at this;rw[U this<|U (V_ aI S _<|A4 ..) V]
theorem agF(c:d2 h=d2 a):h=a:=by have:=congrArg (Fs om) c;unfold d2 at this;rw[ho,ho,show(om∘λ(o:Nat)=>(o:Int))=id from funext λo=>hF o,BU,BU]at this;rw[this]
theorem Xe(o:Nat):d2 (bX o 0)=bX o 0:=by unfold d2;rwa[U BS];rfl
theorem agG(c:pO m t=ag)(aI:0<m)(ap:wd m=ag)(we:∀g,g<256->HI g)(aA:g<256):hR t (g::bX (255-m) 0)=bX (m-1) 0++[g]:=by
 have aw:=(tg c).1;have bH:hR t (1::bX (255-m) 0)=bX (m-1) 0++[1]:=by
  apply agF;rwa[bL (Xa c aI<|tf (by decide)<|m4 _)];have:=eq_of_beq ap;have i:d2 (1::bX (255-m) 0)=1::bX (255-m) 0:=by rw[((U (Xe ..) V):(1:Int)::d2 (bX (255-m) 0)=_)]
  rwa[U i<|U this];unfold d2;rwa[U jg<|U BS];rfl
 rw[agE<|aw▸aI]at bH⊢;rcases we g aA with rfl|⟨Q,rfl⟩
 .rw[U (NX ..) ?_];have ae:∀(S:Nat),v6 t S (bX (gu t) 0)=bX (gu t) 0:=by intro S;rw[bL (V_ (aw▸aI) S _ gg)<|U tD<|U (tx ..) ?_];have:=AK (t:=t) 0 (bX (gu t) 0) S;rwa[tD]at this
  rw[U (ae ..)<|U aw<|U (show[0]=bX 1 0 from V)<|U tD<|U (yV aI) V]
 .rw[U NY<|U (aeP _<|v5 (by decide))<|U bH<|U jg<|U BS<|U (HD ..) ?_];rfl
def wf(t E:List Nat):Prop:=E.length=255/\et E/\hc t (255-(gu t)) E=bX (gu t) 0
theorem agH(c:pO m t=ag)(aI:0<m)(aT:m<255)(ap:wd m=ag)(we:∀g,g<256->HI g)(bV:wf t<|g::S):wf t (S++[g]):=by
 have aw:=(tg c).1;subst aw;obtain⟨wg,ym,wh⟩:=bV;have aA:g<256:=ym g tz;have bk:et S:=λf R=>ym f<|sj _ R;have uT:gu S=254:=by rw[gt]at wg;rw[FP 21 0 (.e .x<|.n 254) [.e (.o .x)<|.n 255] Z wg]
 rw[⟨by rwa[U e7<|U uT];rfl,og bk λf R=>hG.mp R▸aA,?_⟩];have np:g::S=g2 (g::bX 254 0) (0::S):=by rw[U (o4 ..)<|U (BH ..)<|bL uT<|U (ON ..) V]
 have rN:=m4 254;have cp:gu (g::bX 254 0)=gu (0::S):=by rw[gt,gt,gg,uT]
 rw[np,HK _ (tf aA rN) (tf (by decide) bk) cp]at wh;have f7:gu (hc t (255-(gu t))<|g::bX 254 0)=gu t:=by rw[U (HH ..)<|U gt<|U gg ?_];rw[kU 10011 101101 (.e .x .y) [.l (.o<|.n 254)<|.a .x .z,.l (.n 255)<|.a .z .y,.e (.a .x .z)<|.o<|.n 254,.e (.a .z .y)<|.n 255] Z (ef _ _) (ef _ _) (dM<|bM (.l .x<|.o<|.n 254) [.l .x<|.n 255] Z<|jF _ _)<|dM<|bM (.l .x<|.n 255) [.t .x<|.n 255] Z aT]
 have h0:gu (hc t (255-(gu t))<|0::S)=gu t:=by rw[U (HH ..)<|U gt<|U uT ?_];rw[kU 10011 101101 (.e .x .y) [.l (.o<|.n 254)<|.a .x .z,.l (.n 255)<|.a .z .y,.e (.a .x .z)<|.o<|.n 254,.e (.a .z .y)<|.n 255] Z (ef _ _) (ef _ _) (dM<|bM (.l .x<|.o<|.n 254) [.l .x<|.n 255] Z<|jF _ _)<|dM<|bM (.l .x<|.n 255) [.t .x<|.n 255] Z aT]
 have bH:hc t (255-(gu t)) (g::bX 254 0)=hc t (254-(gu t)) S:=by have:=Xd (f7.trans h0.symm)<|f7.symm▸wh;have ae:=AK (t:=t) (254-(gu t)) S 1;rw[show 1+(254-(gu t))=255-(gu t) by rw[kU 10011 101101 (.e (.a (.n 1) .x) .y) [.l (.n 254)<|.a .x .z,.l (.n 255)<|.a .y .z,.e (.a .x .z)<|.n 254,.e (.a .y .z)<|.n 255] Z (ef _ _) (ef _ _) (dM<|bM (.l .x<|.n 254) [.t .x<|.n 255] Z aT)<|dM<|bM (.l .x<|.n 255) [.t .x<|.n 255] Z aT]]at ae;rw[this.trans ae]
 have aY:gu (hc t (254-(gu t)) S)=gu t:=by rwa[U (HH ..)<|U uT];rw[kU 10011 101101 (.e .x .y) [.l (.n 254)<|.a .x .z,.l (.n 254)<|.a .z .y,.e (.a .x .z)<|.n 254,.e (.a .z .y)<|.n 254] Z (ef _ _) (ef _ _) (dM<|bM (.l .x<|.n 254) [.l .x<|.n 254] Z<|jF _ _)<|dM<|bM (.l .x<|.n 254) [.t .x<|.n 255] Z aT]
 have akS:et (hc t (254-(gu t)) S):=NU _ bk--qc last step
 rw[U (by rw[kU 10011 101101 (.e .x<|.o .y) [.l (.n 255)<|.a .x .z,.l (.n 254)<|.a .y .z,.e (.a .x .z)<|.n 255,.e (.a .y .z)<|.n 254] Z (ef _ _) (ef _ _) (dM<|bM (.l .x<|.n 255) [.t .x<|.n 255] Z aT) (dM<|bM (.l .x<|.n 254) [.t .x<|.n 255] Z aT)]:255-(gu t)=(254-(gu t))+1)<|U (OM ..)<|U (OL t _ _ _ (by rw[fq 21 (.l (.a .x .y) .z) [.e .z<|.n 254,.e (.a .x .y)<|.n 254] Z uT<|dM<|bM (.l .x<|.n 254) [.t .x<|.n 255] Z aT]))<|bL bH ?_];have cm:∀e:List Nat,gu e=gu t->e++[g]=g2 (e++[0]) (bX (gu t) 0++[g]):=λe aY=>by rw[U (HJ (by rw[aY,gg]))<|bL aY<|U (DY ..)<|U (o4 ..)<|U (BJ ..) ?_];rfl
 have eO:hc t 1 (hc t (255-(gu t)) (g::bX 254 0)++[0])=bX (gu t-1) 0++[g]:=by
  rw[bL (OL t _ _ _ (by rw[gt,gg];rw[ct (.l (.a .x .y)<|.o<|.n 254) [.e (.a .x .y)<|.n 255] Z<|dM<|bM (.l .x<|.n 255) [.t .x<|.n 255] Z aT]))<|bL (OM ..)<|bL (agG c aI ap we aA) ?_];unfold hR;rwa[U gt<|U gg]
  congr 1;rw[u5,u5,show[0]=bX 1 0 from V,tD,tD,show 255-(gu t)+gu t=254+1 by rw[nj 1011 101 (.e (.a .x .y)<|.o<|.n 254) [.l (.n 255)<|.a .x .y,.e (.a .x .y)<|.n 255] Z (ef _ _)<|dM<|bM (.l .x<|.n 255) [.t .x<|.n 255] Z aT]]
 have hu:hc t 1 (bX (gu t) 0++[g])=bX (gu t-1) 0++[g]:=by have:=AK (t:=t) 0 (bX (gu t-1) 0++[g]) 1;rw[<-mD,tD,show 1+(gu t-1)=t.length by rw[nj 1011 101 (.e (.a (.n 1) .x) .y) [.l .y<|.a .x<|.n 1,.e (.a .x<|.n 1) .y] Z (ef _ _)<|dM<|bM (.l (.n 1) .x) [.t (.n 0) .x] Z aI]] at this;rw[this]
 rw[U (cm _ f7)<|U (HK _ (og (NU _<|tf aA rN)<|show et [0] from m4 1) (og (m4 _) λf R=>hG.mp R▸aA) (by rw[e7,e7,f7,gg];rfl))<|U eO<|U hu<|U (Xc ..)<|U e7<|U gg<|U (yV aI:gu t-1+ [g].length=gu t) V]
theorem Xf(c:pO m t=ag)(aI:0<m)(aT:m<255)(ap:wd m=ag)(we:∀g,g<256->HI g):∀{h a:List Nat},wf t (h++a)->wf t (a++h)|[],a,v=>(tB a).symm▸v|g::h,a,v=>by have:=agH c aI aT ap we (S:=h++a) v;rw[mD]at this;have:=Xf c aI aT ap we this;rwa[mD]at this
theorem agI(aQ:gu z=gu t)(v:wf t<|aG++z):hR t aG=z:=by
 obtain⟨wg,ym,wh⟩:=v;have dX:et aG:=λf R=>ym f<|u3 _ R;have agJ:et z:=λf R=>ym f<|wz _ R;rw[e7]at wg;have i:aG++z=g2 (aG++bX (gu t) 0) (bX (gu aG) 0++z):=by rw[U (HJ (by rw[gg,]))<|U (DY ..)<|bL aQ<|U (ON ..) V]
 rw[show 255-(gu t)=aG.length by rw[zn 101121 10211 (.e .x .y) [.e .z .w,.e (.a .y .z)<|.n 255,.l (.n 255)<|.a .x .w,.e (.a .x .w)<|.n 255] Z aQ wg (ef _ _)<|dM<|fq 21 (.l .x<|.n 255) [.e .y .x,.e (.a .z .y)<|.n 255] Z aQ wg],i,HK _ (og dX<|m4 _) (og (m4 _) agJ) (by rw[U e7<|U e7<|U gg<|U gg<|U aQ V])]at wh;have ae:=AK (t:=t) 0 z (gu aG);rw[pW]at ae;rw[ae]at wh;have aw:gu (hR t aG)=gu z:=U (pK ..)<|U aQ V;rw[Xd aw (by rwa[U (pK ..)];rw[wh])]
theorem agK(l:et a)(aw:gu a+gu t<=255):wf t (a++hR t a++bX (255-(gu a)-(gu t)) 0):=by
 have bq:=NV (t:=t) l;rw[⟨by rw[U e7<|U e7<|U (pK ..)<|U gg ?_];rw[zn 100111 1001 (.e (.a (.a .x .y) .z)<|.n 255) [.l .w<|.a .z .y,.l (.n 255)<|.a .w .x,.e (.a .z .y) .w,.e (.a .w .x)<|.n 255] Z (ef _ _) (ef _ _) (dM<|eA (.l .x .y) [.l (.a .z .x)<|.n 255,.l (.n 255)<|.a .y .z] Z aw<|ef _ _)<|dM<|ct (.l .x<|.n 255) [.l (.a .x .y)<|.n 255] Z aw],og (og l bq)<|m4 _,?_⟩];rw[U (by rw[rg 100011 10011101 (.e .x<|.a .y .z) [.l (.n 255)<|.a .x .w,.l .u<|.a .z .w,.l (.n 255)<|.a .u .y,.e (.a .x .w)<|.n 255,.e (.a .z .w) .u,.e (.a .u .y)<|.n 255] Z (ef _ _) (ef _ _) (ef _ _) (dM<|ct (.l .x<|.n 255) [.l (.a .y .x)<|.n 255] Z aw) (dM<|eA (.l .x .y) [.l (.a .z .x)<|.n 255,.l (.n 255)<|.a .y .z] Z aw<|ef _ _) (dM<|ct (.l .x<|.n 255) [.l (.a .x .y)<|.n 255] Z aw)]:255-(gu t)=gu a+(255-(gu a)-(gu t)))<|U (OM ..)<|U (OL t _ _ _ (by rw[e7,pK];rw[dr _])) ?_];have i:a++hR t a=g2 (a++bX (gu t) 0) (bX (gu a) 0++hR t a):=by rwa[U (HJ (by rw[gg,]))<|U (DY ..)];have:=ON<|hR t a;rw[pK]at this;rw[U this V]
 have ae:=AK (t:=t) 0 (hR t a) (gu a);rw[pW]at ae;have bH:hc t (gu a) (a++hR t a)=bX (gu t) 0:=by rw[U i<|U (HK _ (og l<|m4 _) (og (m4 _) bq) (by rw[e7,e7,gg,gg,pK]))<|U ae ((U (Xc ..)<|U (pK ..) V):g2 (hR t a) (hR t a)=_)]
 rw[U bH<|U tD<|U (tx ..) ?_];have:=AK (t:=t) 0 (bX (gu t) 0)<|255-(gu a)-(gu t);rwa[tD]at this
theorem agL(c:pO m t=ag)(aI:0<m)(aT:m<255)(ap:wd m=ag)(we:∀g,g<256->HI g)(v:wf t aP)(l:a+m<=255):hR t (aP.drop (a+m)++aP.take a)=(aP.drop a).take m:=by
 have aw:=(tg c).1;rwa[agI ?_]
 .rw[U sk<|U o'<|U v.1<|U aw<|nj 201 1011 (.e .x .y) [.l .x .y,.e .x .y] Z (pf _ _)<|FR<|eA (.l .x .y) [.l (.a .z .x)<|.n 255,.l (.n 255)<|.a .y .z] Z l<|ef _ _]
 .have i:aP.take a++(aP.drop a).take m++aP.drop (a+m)=aP:=by rw[U (mD ..)<|bL y_<|U (sl ..)<|U (sl ..) V]
  have:=Xf c aI aT ap we<|i.symm▸v;rwa[<-mD]at this
section
variable{g:ea}{x:Nat}{O:dA}{y:b_}{s:cq}{a1 aN bo:Inv}{z:bj}
theorem dF.comp(aA:g.Ok)(cz:nz y)(cf:Mx g x s O an y dT t b5 a2 ax bv dU)(f9:mX g x O y t.target t.iter bv):dF g x s O an y (.ListComp dT (t::b5) a2 ax) (λz bZ=>z=.lst dU.flatten/\bZ=an):=λp r L ay aa b ao G I n T A aj=>by
 subst G;have g7:=n.now;have en:=I.up n.1;have Xg:∀a∈an.W,a∈r:=λa l=>(T.2 a l).1;rwa[Uu (x:=x) (an:=an) (ky:=[]) (ll:=[]) (lm:=λu=>True) (bv:=bv) (dU:=dU) aA cf cz ?_ aR aR ao I n T]
 .intro D A e aj;rw[f9 s p r L ay b.heap.objs.size b.gens.size ao V en D A ⟨e.1,e.2.1⟩ λa4 fp cd aQ=>aj a4 fp cd λnU rT=>aQ nU λdE ar bQ aZ mh St aN=>rT dE ar bQ aZ mh St aN.3 ?_];have yn:=aN.yh;rw[⟨yn.1,yn.2,yn.3,yn.4,yn.5,λa l=>⟨(yn.6 a l).1,λe=>(yn.6 a l).2<|Xg a e⟩⟩]
 .intro x0 DR w lX gz qp xO rC zS i9 C4 VZ ej;rw[c1 lX λqa lX=>⟨qa,lX,λX dy=>?_⟩];have d0:=bK.same (ab:=w.toks) dy;have l0:=(gz.mono (λa l=>by simpa using l) λa l=>by simpa using l).hj d0 (λa l=>.inr<|bg l▸fY qp) aR;have NJ:=ej.to d0 λC ae=>bg ae▸a5 n.2.1.2 qp;have NK:x0∉r:=λe=>b2 (en.8 _ e) qp;have agM:an.At g p r L {w with heap:=X}:=by rw[((C4 (x0::r) (λa l=>mt l) λa l=>dw l (λe=>e▸bB) λe=>mt<|mt e).it d0 (λa l=>(bg l).symm▸⟨bB,λC=>NK<|Xg _ C⟩) aR).narrow T (λa l=>mt l) l0.2]
  rwa[aj (.ref DR) _ (.lst dU.flatten) an r aa ⟨V,V⟩ ⟨λu c=>c,λu c=>.inl c,λu c=>.inl c,λu c=>.inl c,λu c=>.inl c,l0.mono (λa l=>bR l) λu c=>c⟩ I (n.yT cz (λC ae=>(T.2 C ae).1) (λC ae=>(T.2 C ae).2.2.1) l0 NJ) agM];have xa:DR∉r:=λe=>b2 (en.8 _ e) xO;rw[((i9.obj (ib<|ib rC) dy).sub λB a8=>mt a8).rep xa]
theorem Inv.At.swap{p:Env}{r L:List aE}{b:au}(c:((a1.both bo).both aN).At g p r L b):((a1.both aN).both bo).At g p r L b:=(c.fst.fst.both c.snd).both c.fst.snd
end
section
def ms(a6:List<|List Int):List Int:=(cZ (om (td<|a6.map λa=>(gu a:Int)))).flatMap λm=>a6.flatMap λa=>if m<a.length then(cZ 8).map λj=>oQ (a.getD m 0) 8 j else[]
theorem Xh(E:List a9)(J:a9->List Int):(E.map λh=>(J h).map bj.int).flatten=(E.flatMap J).map bj.int:=by induction E with|nil=>rfl|cons v dQ aW=>rw[U hU<|U kr<|U aW<|U nO<|U jg V]
theorem OO(c:qn (.Name f e) y=ag)(ak:(B==f)=be):qn (.Name f e) ((B,bz)::y)=ag:=by unfold qn LK at*;simp only[on,List.all_nil,Py]at*;rwa[U ak];simpa using c
theorem OP(ak:(B==f)=be):gj ((B,bz)::y) f=gj y f:=by rw[((U ak ?_):(bif B==f then W bz else gj y f)=_)];rfl
theorem agN(ak:0<o):∃j,j<o/\OF qK o=qK j:=by
 rw[(dj _ ?_ V)];have:∀(lt:Nat->Nat->Bool)S,argBest lt S<=S:=by intro lt S;induction S with
  |zero=>rw[dr _]|succ S aW=>unfold argBest;split<;>(first|rw[kN _]|rw[ct (.l .x<|.o .y) [.l .x .y] Z aW])
 have:=this (λj Q=>decide<|qK j>qK Q)<|o-1;rw[eA (.t .x .y) [.l .x .z,.e (.a .z<|.n 1) .y] Z this<|dM<|bM (.l (.n 1) .x) [.t (.n 0) .x] Z ak]
theorem OQ(c:0<gu aq):td aq∈aq:=by rw[bt (agN (qK:=λj=>aq.getD j 0) c) λj T i=>?_];unfold td;rw[U i<|U (dG)<|U (eT T)<|nb T]
variable{v:cU}{x:Nat}{s:cq}{O:dA}{y:b_}{a1:Inv}{J bm cT e_:aE}{nm:aF}{D:Tok}{f:Str}{a6:List<|List Int}{a2 yo:dA}{dm el mS uh rw Av uI uJ uK xS xT xU xV Aw Ho DH Ax Ay DI DJ DK Az AA DL Hp Hq:Pos}
theorem dF.bits(aM:eF ah)(cz:nz y)(cV:cT∉a1.W)(l:∀a∈a6,fI a/\gu a<=1000)(c_:0<gu a6)(aw:gu a6<=100)(Xi:gj y f=W (.f<|.lst<|a6.map ha))(ug:hL O f=ag)(Lc:fe O "range"=ag)(Ld:fe O "max"=ag)(agO:n3 yo O=ag)(agP:fe (ey yo O) "len"=ag)(n1:hL (ey yo O) "block"=ag)(agQ:qh ag (ey yo O) "block"=ag)(agR:qn (.Name "block" rw) (gK (ey yo O) y)=ag)(jO:n3 a2 O=ag)(fA:([("k":Str),"block","bit"].all<|qh ag<|ey a2 O)=ag)(Xj:(qn (.Name "k" dm) (gK (ey a2 O) y)&&qn (.Name "block" el) (gK (ey a2 O) y)&&qn (.Name "bit" mS) (gK (ey a2 O) y))=ag)(Xk:gj (gK (ey a2 O) y) f=W (.f<|.lst<|a6.map ha))(Kt:gj (gK (ey a2 O) y) "to_binary"=W (.f<|yg J bm e_ nm D))(AJ:([f,"k","block","bit","to_binary"].all<|hL<|ey a2 O)=ag)(agS:fe (ey a2 O) "len"=ag)(agT:(("k":Str)==f)=be):dF (bh ah) (x+1) s O (a1.both<|yf bm cT) y (.ListComp (.Name "bit" uh) [⟨.Name "k" dm,.Call (.Name "range" Av) [.Call (.Name "max" uI) [.ListComp (.Call (.Name "len" uJ) [.Name "block" uK] [] xS) [⟨.Name "block" rw,.Name f xT,[],0⟩] yo xU] [] xV] [] Aw,[],0⟩,⟨.Name "block" el,.Name f Ho,[.Compare (.Name "k" DH) [.Lt] [.Call (.Name "len" Ax) [.Name "block" Ay] [] DI] DJ],0⟩,⟨.Name "bit" mS,.Call (.Name "to_binary" DK) [.Subscript (.Name "block" Az) (.Name "k" AA) DL] [] Hp,[],0⟩] a2 Hq) (λz bZ=>z=bu (ms a6)/\bZ=a1.both (yf bm cT)):=by
 rwa[ds (@pY _ _ _)];intro dx;have aA:=iV aM;have gE:=vZ aM;have G:cy=2^24:=V;simp only[on,List.all_nil,Py,ir]at fA AJ Xj;rw[fb fA λxM Ae agU=>kO AJ λCz zJ Xl agV agW=>c0 Xj λbN agX=>c0 bN λAi MX=>?_];have ls:td (a6.map λa=>(gu a))∈a6.map λa=>(gu a:Int):=OQ (by simpa using c_);rw[bt (by rw[mL ls λa ej i=>?_];rw[(dj (gu a) i.symm (l a ej).2)]:∃S:Nat,td (a6.map λa=>(gu a))=S/\S<=1000) λS bk A5=>?_];have Xm:cI (bh ah) (x+1) O y (.Call (.Name "max" uI) [.ListComp (.Call (.Name "len" uJ) [.Name "block" uK] [] xS) [⟨.Name "block" rw,.Name f xT,[],0⟩] yo xU] [] xV) S:=by rw[bk▸?_];rw[ai.max aA (al.wO gE (fj.list (jR.of<|ai.name Xi ug)<|.inl<|kR _ _ V) (λa ej=>⟨agQ,ai.EO gE (al.nm (by rfl) n1) (by have:=(l a ej).2;rw[bM (.t .x<|.n 4611686018427387904) [.l .x<|.n 1000] Z this]) agP⟩) (fE 211 (.l .x .y) [.l .x<|.n 100,.e .y<|.n 16777216] Z aw G) agO agR λu u=>V) (by simpa using c_) (by cbv) Ld V]
 have cK:(bu<|ms a6)=.lst ((cZ S).map λm=>((a6.map λa=>(if m<a.length then(cZ 8).map λj=>oQ (a.getD m 0) 8 j else[]).map bj.int).flatten)).flatten:=by
  unfold ms;rw[U bk<|U (hF ..) (?_:bj.lst _=_)];rwa[bL (Xh ..)]
  congr 2;rw[pa λm u=>bL (Xh ..) V]
 rw[cK.symm▸?_];rw[dF.comp aA cz ⟨jO,V,eQ _,λcd e=>(by cases e;rfl),λu u=>V,AllP.gn λm aT=>?_,?_⟩<|mX.q_ aA Xm Aq Lc V<|bM (.t .x<|.n 4611686018427387904) [.l .x<|.n 1000] Z A5]
 .have Ob:((0:Int)+m*1)=(m:Int):=bM (.e0 (.a (.n 0)<|.r (.c .x) 1)<|.c .x) [] Z;rw[Ob.symm▸⟨xM,CY Ai,(qv.next V V (by show 1<=1;decide) (λcd e=>(by cases e;rfl)) (λu u=>V) V (xK.of<|mX.list (ai.name ((OP agT).trans Xk) Cz) bf<|.inl<|kR _ _ V)<|AllP.map λa ej=>c0 (l a ej) λh1 fs=>⟨Ae,CY<|OO MX bf,?_⟩)⟩];have bC:ei (bh ah) (x+1) (ey a2 O) (k0 (.Name "block" el) (ha a)<|k0 (.Name "k" dm) (.int m)<|gK (ey a2 O) y) (.Compare (.Name "k" DH) [.Lt] [.Call (.Name "len" Ax) [.Name "block" Ay] [] DI] DJ) (decide<|(m:Int)<gu a):=ei.lt (ai.name (by rfl) zJ) (ai.EO gE (ai.name (by rfl) Xl) (bM (.t .x<|.n 4611686018427387904) [.l .x<|.n 1000] Z fs) agS) λu=>V;by_cases H4:m<gu a
  .rw[(if_pos H4).symm▸?_];have bH:decide ((m:Int)<gu a)=ag:=by simpa using H4
   replace bC:=bH▸bC;have cm:((cZ 8).map λj=>oQ (a.getD m 0) 8 j).map bj.int=((cZ 8).map λj=>[bj.int<|oQ (a.getD m 0) 8 j]).flatten:=by rwa[U (o2 ..)<|U ho];rfl
   rw[cm.symm▸qv.next V V (eQ _) (λcd e=>(dN e)) (λu u=>V) bC (xK.ahW (z:=a.getD m 0) aM cV ((OP bf).trans<|(OP bf).trans Kt) agW (cI.cast (ai.Q9 (ai.name (by rfl) Xl) (ai.name (by rfl) zJ) (gP _) (by assumption) h1<|fE 21 (.l .x .y) [.e .y<|.n 16777216,.l .x<|.n 1000] Z G fs)<|U (hF ..) V) V) (AllP.map λj T=>⟨agU,CY<|OO (OO agX bf) bf,qv.of<|jS.one V V<|ai.name (by rfl) agV⟩)]
  .rw[(if_neg H4).symm▸ ?_];have bH:decide ((m:Int)<gu a)=be:=by simpa using H4
   replace bC:=bH▸bC;rw[qv.of<|jS.skip bC]
 .have: ∀m:Nat,gu ((a6.map λa=>(if m<a.length then(cZ 8).map λj=>oQ (a.getD m 0) 8 j else []).map bj.int).flatten)<=8*gu a6:=by intro m;clear c_ aw Xi Xk l cK ls bk Xm;induction a6 with
   |nil=>rw[dr _] |cons a a6 aW=>
    rw[U hU<|U kr<|U e7<|U (dg ..)<|U gt ?_];have:gu (if m<a.length then(cZ 8).map λj=>oQ (a.getD m 0) 8 j else [])<=8:=by split<;>simp
    rw[eA (.l (.a .x .y)<|.m 8<|.o .z) [.l .y<|.m 8 .z,.l .x<|.n 8] Z aW this]
  have am: ∀o:Nat,((cZ o).map λm=>((a6.map λa=>(if m<a.length then(cZ 8).map λj=>oQ (a.getD m 0) 8 j else []).map bj.int).flatten)).flatten.length<=o*(8*gu a6):=by intro o;induction o with
   |zero=>rw[eQ _] |succ o aW=> rw[(JB:cZ (o+1)=cZ o++ [o]).symm▸jg.symm▸BP.symm▸e7.symm▸ ?_];have:=this o;rwa[U (y2 ..)];simp only[hU,BQ,kr,List.flatten_nil,tB];rw[oy (.l (.a .x .y)<|.a .z<|.m 8 .w) [.l .x .z,.l .y<|.m 8 .w] Z aW this]
  have cJ:S*(8*gu a6)<=1000*(8*100):=Jr A5<|ni 41 (.l (.m 8 .x)<|.m 8<|.n 100) [.l .x<|.n 100] Z aw;rw[fq 21 (.l .x .y) [.e .y<|.n 16777216,.l .x .z,.l .z<|.m 1000<|.m 8<|.n 100] Z G (am S) cJ]
end
section
open PySem PySem.W PySem.F PySem.Calls PyProof.Rows
theorem Xn:yM "bytes" "__mul__" "bytes.__mul__":=.of (owner:="bytes") (n:="__mul__") (by rwa[U (h_ ..)<|U h'];cbv) (by decide+kernel) (by decide+kernel) ji (by first|rw[.inl (by decide+kernel)]|rw[.inr (by decide+kernel)]) (by rwa[U (k_ ..)];cbv)
noncomputable def A6(o:Nat):Array UInt8:=(bX o 0).toArray
section
variable{s:cq}{b:au}{D aG:Tok}{o:Nat}
theorem agY{A:aF->au->Prop}(ak:o=0\/o=7)(c:A (.bytes (A6 o) b.toks) {b with toks:=b.toks+1}):ce (cD ſ v) s (yG .Mult (.bytes #[0] D)<|.int o aG) A aC b:=by
 rw[wpAny_binaryOp_repeat (T:="bytes") (U:="int") bf (λw=>sx w _ D) (λw=>yE w o aG) (PySem.fillsNumberSlot_seq (id:="bytes.__mul__") (r:=W<|.builtin "bytes.__rmul__") Xn.lookup (by decide+kernel) (show yM "bytes" "__rmul__" "bytes.__rmul__"from(.of (owner:="bytes") (n:="__rmul__") (by rwa[U (h_ ..)<|U h'];cbv) ji ji ji (by first|rw[.inl ji]|rw[.inr ji]) (by rwa[U (k_ ..)];cbv))).lookup ji) F.fills_int_mul Fy (by rfl) QW.lookup<|kL Fy (yE b o aG) QX (Gx (x:=0) (λst m=>V)<|sq _ V V<|kL Xn (sx _ _ D) (nK V) ?_ (by unfold ko;rwa[U (tn (id:="bytes.__mul__") (n:=['_','_','l','u','m','_','_']) (o:=['s','e','t','y','b']) V V)];cbv))<|QY _ _];rcases ak with rfl|rfl
 .rw[Gx (x:=1) (λst m=>V)<|dj _ V c]
 .rw[Gx (x:=1) (λst m=>V)<|dj _ V c]
end
variable{g:ea}{x:Nat}{O:dA}{y:b_}{q:bJ}{ax bs:Pos}{Q o:Nat}
theorem ai.u6(ak:o=0\/o=7)(c:cI g x O y q o):ai g x O y (.BinOp (.Constant (.bytes [0]) Q bs) .Mult q ax) .cH (.bytes<|Lake.A6 o):=λs p r L ay aa ao G I=>by
 rw[rn (kw:=λb g=>∃D,g=.bytes #[0] D) I.ok (λb A u aj=>?_) (λu u u c u=>c) (eP c ao G I) λb e2 fG u bw bO A aj=>?_]
 .rw[Y.of<|wpAny_mkBytes<|aj _ _ (bK.tok ..) ⟨_,V⟩]
 .obtain⟨D,rfl⟩:=bw;obtain⟨aG,rfl⟩:=bO;rw[Y.of<|agY ak<|aj _ _ (bK.tok ..) ?_];rw[(?_:ck _ _ _ _)];rw[⟨_,V⟩]
end
section
variable{b w:au}{x:Nat}{s:cq}{p:Env}{r L ay:List aE}{aa:Nat}{O:dA}{y:b_}{an gd:Inv}{h bU cP:aE}{aq de:List Int}{f:Str}{i:bJ}{d' oS ax:Pos}{cL:List aE}{aD:List Nat}
theorem agZ(aM:eF ah)(cz:AF y)(d9:gd.At (bh ah) p r L b)(h1:(hE h bU cP aq).At (bh ah) p r L b)(lK:an.At (bh ah) p r L b)(bl:bU∈an.W)(OR:bU∉gd.W)(dz:∀C∈cL,C∈an.W/\C∉gd.W/\1998<=C)(lP:∀j∈aD,j∈an.G/\j∉gd.G)(ag0:∀a∈gd.W,a∈an.W)(ag1:∀j∈gd.G,j∈an.G)(n:bG (bh ah) p r L aa y b)(t:bb (bU::cL) aD b w)(he:Ű (Q7 w) bU=W (c9<|br de)):bG (bh ah) p r L aa y w/\(gd.both<|hE h bU cP de).At (bh ah) p r L w/\gV an p r L r L (gd.both<|hE h bU cP de) b w:=by
 rw[q8 h1.1 λtb hN tc oh wc uR uS akT=>?_];have uy:∀C∈bU::cL,C∈an.W/\C∉gd.W/\1998<=C:=λC ae=>dw ae (λe=>e▸⟨bl,OR,uS⟩)<|dz C;have ag2:∀C∈bU::cL,Ų (ű (Q7 ah.2))<=C:=λC ae=>by
  rw[fb (uy C ae) λox u qk=>?_];rcases(lK.2 C ox).2.2.2.1 with e|e
  .exfalso;rcases l1.mp e with e|e<;>(rw[e]at qk;rw[absurd qk bf])
  .rw[e]
 have l:=n.2.toG t ag2 λj T=>(lK.3 j (lP j T).1).1;have H5:∀C∈bU::cL,C∈r:=λC ae=>(lK.2 C (uy C ae).1).1;have qH:(hE h bU cP de).At (bh ah) p r L w:=⟨⟨tb,t.1 _ _ (λe=>tb<|H5 _ e) hN,tc,t.1 _ _ (λe=>tc<|H5 _ e) oh,wc,uR,uS,he⟩,λa ej=>by rw[kO (h1.2 a ej) λdO d5 eb e9 f_=>?_];rw[⟨dO,d5,eb,e9,cg f_ t.2⟩],aR⟩;rw[⟨(n.FA cz H5 (λC ae=>(lK.2 C (uy C ae).1).2.2.1) (λC ae=>(lK.2 C (uy C ae).1).2.1) t l),(d9.it t (λC ae=>⟨H5 C ae,(uy C ae).2.1⟩) λj T=>(lP j T).2).both qH,⟨λu c=>c,λu c=>.inl c,λu c=>.inl c,λa l=>?_,λj T=>?_,t.mono (λC ae=>bR (uy C ae).1) λj T=>(lP j T).1⟩⟩]
 .rw[bS l (λe=>?_) λe=>?_]
  .rw[.inl<|ag0 a e]
  .rw[U (bg e)<|.inl bl]
 .rw[bS T (λe=>?_) λe=>?_]
  .rw[.inl<|ag1 j e]
  .rw[db e]
theorem dF.aiN{jb:bj->Inv->Prop}{AI:Inv->Prop}(aM:eF ah)(h1:∀p r L b,an.At (bh ah) p r L b->(hE h bU cP aq).At (bh ah) p r L b)(ag3:∀z d1,jb z d1->∀p r L b,d1.At (bh ah) p r L b->(hE h bU cP aq).At (bh ah) p r L b)(aI:gj y f=W (.f<|.raw<|.ref h))(R:hL O f=ag)(bq:dF (bh ah) (x+1) s O an y i jb)(ro:∀(p:Env)(r L ay:List aE)(aa:Nat)(b:au)z d1 a4,jb z d1->cx (bh ah) p r L ay aa->bG (bh ah) p r L aa y b->d1.At (bh ah) p r L b->ck b.heap r z a4->∀ew,eW x ew->∀A:au->Prop,(∀w pA,AI pA->gV d1 p r L r L pA b w->bG (bh ah) p r L aa y w->pA.At (bh ah) p r L w->A w)->Y aU ah.1 ew (eS (.builtin "bytearray.extend") [.ref bU,a4] []) (λq d_=>q=.none/\A d_) b)(ak:dS i=ag:=by rfl)(iM:(oS.endLine==ax.line)=ag:=by rfl):dF (bh ah) (x+1) s O an y (.Call (.Attribute (.Name f d') "extend" oS) [i] [] ax) (λz bZ=>z=.none/\AI bZ):=λp r L ay aa b ao G I n T A aj=>by
 rw[vq (az:=[i]) (by simp[ak]) (by show 1<20;decide) V iM<|d8 ?_];intro eg;rw[(ai.raw (g:=bh ah) aI R) s p r L ay aa ao G I b _ n λa4 as aK gb=>U gb ?_];have gI:s.depth+90<recursionLimit:=by have:=ao.2;show s.depth+90<1000;rw[ct (.t (.a .x<|.n 90)<|.n 1000) [.l (.a .x<|.o .y)<|.n 900] Z this]
 have dd:=n.grow aK;have gA:=T.it aK aR aR;rw[q8 (h1 _ _ _ _ gA).1 λtb hN tc oh wc uR uS he=>Hx VU gI (aM.sub dd.2) hN oh uR λar a7=>WZ (lN:=[.ref h]) (M:=λD=>D=ar) (a_:=L++cc p++an.W) (aD:=an.G) (k:=Dj aU (ų ah.1) ah.4) (bp:=AZ (ų ah.1) ah.4) (al:=λD aV=>∃a4 z d1 da eZ,aV=[a4]/\jb z d1/\gV an p r L da L d1 ar D/\cx (bh ah) p da L ay eZ/\bG (bh ah) p da L eZ y D/\d1.At (bh ah) p da L D/\ck D.heap da z a4) (by simp[ak]) (by show 1<20;decide) ?_ V ?_ V ?_]
 .rintro D A ax rfl rT;rw[Y.eq (U (kV ak)<|V) ((Y.eq (V)<|Y.bind<|bq p r L ay aa D ao G I (dd.grow a7) (gA.it a7 aR aR) _ λa4 co z d1 da eZ af am a' cJ ez gD=>gR bf<|ev<|dR<|Y.pure<|Y.pure<|rT _ _ am.6<|RM a4 z d1 da eZ V af am a' cJ ez gD):Y _ _ s (pT [(be,ee i p)]) A D)]
 .rintro D aV Oo;rw[FJ Oo λa4 z d1 da eZ ag4 af am a' cJ ez gD=>U ag4<|aM.sub cJ.2 _ _ _ (OD ..) V]
 .rintro aV co b4 ag5;rw[FJ ag5 λa4 z d1 da eZ ag6 af dJ k5 i8 nD q=>U ag6<|q8 (ag3 _ _ af _ _ _ _ nD).1 λtb hN tc oh u u u he=>WY (x:=x) aM ao k5 i8 hN he λew cv go eL=>ro p da L ay eZ cv z d1 a4 af k5 (i8.grow eL) (nD.it eL aR aR) (ck.to (λa k l i=>⟨eL.all _ _ i,l⟩) _ _ q) ew go _ λuM pA fM rD DP ag7=>aj .none uM .none pA da eZ ⟨V,fM⟩ (((gV.rI<|aK.trans a7).trans dJ).trans<|(gV.rI eL).trans rD) k5 DP ag7<|V]
theorem dF.aiT{o:Nat}{Q:Nat}{q:bJ}{fn fQ:Pos}(aM:eF ah)(cz:AF y)(OR:bU∉gd.W)(aI:gj y f=W (.f<|.raw<|.ref h))(R:hL O f=ag)(ak:o=0\/o=7)(bq:cI (bh ah) (x+1) O y q o)(ae:gu aq<=2^20)(iM:(oS.endLine==ax.line)=ag:=by rfl):dF (bh ah) (x+1) s O (gd.both<|hE h bU cP aq) y (.Call (.Attribute (.Name f d') "extend" oS) [.BinOp (.Constant (.bytes [0]) Q fn) .Mult q fQ] [] ax) (λz bZ=>z=.none/\bZ=gd.both (hE h bU cP<|aq++bX o 0)):=by
 rw[dF.aiN aM (λu u u u c=>c.snd) (by rintro z d1 fw _ _ _ _ c;rw[c0 fw λu hJ=>?_];obtain rfl:=hJ;rw[c.snd]) aI R (dF.afg<|Lake.ai.u6 ak bq) ?_ V iM];rintro p r L ay aa b z d1 a4 j8 I n T ap ew go A aj;rw[g4 λu bW=>c0 j8 λj9 mN=>?_];obtain rfl:=j9;obtain rfl:=mN;rw[c1 ap λD ob=>?_];obtain rfl:=ob;rw[q8 T.snd.1 λtb hN tc oh wc uR uS he=>bW ?_];have d4:(A6 o).size=o:=by simp[A6]
 rw[Z7 he (by rwa[U (n8 ..)<|U d4];rw[a5 (P9 ae (ak.elim (λe=>U e bf) λe=>U e bf:o<=7)) bf]) λX cO G=>⟨V,?_⟩];have bH:br aq++A6 o=br (aq++bX o 0):=by simp[br,A6]
 rw[bH]at cO;rw[fb (agZ (cL:=[]) aM cz T.fst T.snd T (bR bB) OR aR aR (λa l=>b7 l) (λa l=>b7 l) n (bK.same G) cO) λdm el mS=>aj _ _ V mS dm el]
end
section
section
variable{g:ea}{x:Nat}{O:dA}{y:b_}{p:Env}{r bx L ay:List aE}{aa:Nat}{s:cq}{b:au}{i:bJ}{an:Inv}
inductive Inv.k9(an bZ:Inv):Prop|mk(f2:∀g p r L b,an.At g p r L b->bZ.At g p r L b)(f3:∀a∈bZ.W,a∈an.W)(gw:∀a∈bZ.G,a∈an.G):Inv.k9 an bZ
theorem Inv.k9.refl(an:Inv):Inv.k9 an an:=⟨λu u u u u c=>c,λu c=>c,λu c=>c⟩
theorem dF.conv(af:Inv.k9 an bZ)(c:dF g x s O bZ y i jb)(am:∀z gd,jb z gd->∃yp,AI z yp/\Inv.k9 gd yp):dF g x s O an y i AI:=λp r L ay aa b ao G I n T A aj=>by rw[c p r L ay aa b ao G I n (af.1 _ _ _ _ _ T) A λa4 as z gd da eZ aI dJ hM dd gA q=>bt (am z gd aI) λyp fM fs=>aj a4 as z yp da eZ fM ⟨dJ.1,dJ.2,dJ.3,λa l=>(dJ.4 a<|fs.2 a l).imp (af.2 a) id,λa l=>(dJ.5 a<|fs.3 a l).imp (af.3 a) id,dJ.6.mono (λa l=>bS l (λe=>b7 e) λe=>bR<|af.2 a e) af.3⟩ hM dd (fs.1 _ _ _ _ _ gA) q]
theorem dF.conv'(af:Inv.k9 an bZ)(am:Inv.k9 gd yp)(c:dF g x s O bZ y i λaG K=>aG=z/\K=gd):dF g x s O an y i (λaG K=>aG=z/\K=yp):=dF.conv af c λ_ _⟨h,a⟩=>(dj yp ⟨h,V⟩<|a▸am)
theorem cx.sub(I:cx g p r L ay aa)(c:∀h∈bx,h∈r)(aL:∀h∈cc p,h∈bx)(hk:∀h∈L,h∈bx)(aM:∀h∈ay,h∈bx):cx g p bx L ay aa:=⟨(I.1),(I.2),(I.3),(λh aS=>⟨aL h aS,(I.4 h aS).2⟩),(λh aS=>⟨hk h aS,(I.5 h aS).2⟩),(aM),(I.7),(λh aS=>I.8 h<|c h aS),(λh aS=>I.9 h<|c h aS),(I.10)⟩
end
end
def qM(c:e1)(h:aE)(aq:List Int):Prop:=iO c [] h<|bu aq
theorem En{aq:List Int}:∀{N:List aF}{c X:e1}{r a_:List aE},b9 c r (aq.map bj.int) N->b9 X a_ (aq.map bj.int) N:=by induction aq with|nil=>intro fl eM hq n0 D0 q;rw[q]|cons o aq a3=>intro fl eM hq n0 D0 q;rw[d7 q λg aV i dY eN=>(ie g aV i dY<|a3 eN)]
theorem iO.ints(q:iO c r h<|bu aq):qM c h aq:=fW q λN o i q=>⟨N,o,i,En q⟩
theorem qM.obj(q:qM c h aq):iO c r h (bu aq):=fW q λN o i q=>⟨N,o,i,En q⟩
theorem qM.keep(q:qM c h aq)(m:∀k,Ű c h=W k->Ű X h=W k):qM X h aq:=fW q λN o i q=>⟨N,o,m _ i,En q⟩
inductive pP(bT:List aE)(fo:List<|List Int)(c:e1):Prop|mk(f2:gu bT=gu fo)(f3:bT.Nodup)(gw:∀(j:Nat)h aq,bT[j]?=W h->fo[j]?=W aq->qM c h aq):pP bT fo c
theorem pP.keep(q:pP bT fo c)(m:∀h∈bT,∀k,Ű c h=W k->Ű X h=W k):pP bT fo X:=⟨q.1,q.2,λj h aq aS ak=>(q.3 j h aq aS ak).keep<|m h<|j3 aS⟩
theorem pP.push(q:pP bT (bX o aq) c)(aS:h∉bT)(T:qM c h aq):pP (bT++[h]) (bX (o+1) aq) c:=by
 rw[⟨by rw[U e7<|U q.1<|U gg<|U gg ?_];rfl,?_,λj a de l bk=>?_⟩]
 .rw[gW wE<|⟨q.2,by simp,λf R B a8 i=>aS (by rw[hG]at a8;rwa[bL a8<|bL i];rw[R])⟩]
 .replace bk:=(va)▸bk;split at bk
  .cases bk;rcases pV j (gu bT) with e|e
   .replace l:=(u_ e)▸l;rw[q.3 j a aq l (by rw[U (va)<|U (if_pos (by have:=q.1;rw[gg]at this;rw[eA (.t .x .y) [.t .x .z,.e .z .y] Z e this])) V])]
   .replace l:=(y9 e)▸l;have:=j3 l;rw[hG]at this;rw[this▸T]
  .rw[nomatch bk]
theorem ag8(aq:List Int)(aA:g.Ok)(Eo:n3 a2 p.scope=ag)(H6:t.ifs=[])(qq:t.is_async=0)(bi:∀f,sb t.iter p f=dB f)(hk:∀(j:Nat)f,bv[j]?=W f->mT ag (ey a2 p.scope) t.target f/\sI t.target f (gK (ey a2 p.scope) y)/\ai g x (ey a2 p.scope) (k0 t.target f<|gK (ey a2 p.scope) y) dT .fr (bu aq))(ae:gu bv<=cy)(f9:fj g x p.scope y be t.target t.iter bv)(ao:eW x s)(I:cx g p r L ay aa)(n:bG g p r L aa y b)(aj:∀aP av(bT:List aE)w,(∃S,w.heap.Ns aP S)->bb [] [] b w->b.heap.objs.size<=aP->b.heap.objs.size<=av->aP≠av->aP<Ų (ű (Q7 w))->(∀h∈bT,b.heap.objs.size<=h/\h≠aP/\h≠av/\h<Ų (ű (Q7 w)))->pP bT (bX (gu bv) aq) w.heap->(∃N,w.heap.PlainList av N/\N.toList=bT.map fv)->zA g.prog g.w s oF A (.ref av) aP w):Y g.prog g.w s (wv (.ListComp dT [t] a2 ax) a2 p (Bp [t] ax) (Bq []) (yH [t]) (Br [t] p) oF) A b:=by
 rwa[KY (Lm I n Eo) qq bi];have g7:=n.now;have en:=I.up n.1;rw[f9 s p r L ay _ b.gens.size ao V (I.up n.1) b _ ⟨g7,dr _⟩ λa4 as aK pw=>pw _ λan ar bQ aZ mh St aN=>(dj an V λav aP cv gm=>⟨λA aY=>aN.1.5 0 cv A (aN.1.2 0 ar cv [] [] aN.2 gm.3 aR aR) aY,(fb gm.4 λc7 eI qb=>ds (@l9 _ _ _ _) ?_)⟩)];intro dx;rw[Kn ?_];intro Tg;have a7:=aN.3;have fO:b.heap.objs.size<=Ų (ű (Q7 ar)):=a5 aK.2 a7.2;have sK:Ų (ű (Q7 ar))<=Ų (ű (Q7 cv)):=gm.3.2;have eK:∀a∈aZ,b.heap.objs.size<=a/\a<Ų (ű (Q7 ar)):=λa l=>⟨(aN.4 a l).elim id λe=>db e,(aN.7 a<|aN.1.1 a l).1⟩;have kA:∀j∈mh,g.s0.gens.size<=j:=λj T=>(aN.5 j T).elim (λe=>a5 g7.2.1.4 e) λe=>db e;have dD:=g7.grow<|aK.trans a7;have f8:∀a∈aP::av::(aZ++r),a∈r\/b.heap.objs.size<=a:=λa l=>by rw[dw l (λi=>.inr<|i▸a5 fO eI) λl=>dw l (λi=>.inr<|i▸a5 fO c7) λl=>bS l (λe=>.inr (eK a e).1) .inl]
 have xc:∀a∈aP::av::(aZ++r),a<Ų (ű (Q7 cv)):=λa l=>by rw[dw l (λi=>i▸gm.5.2) λl=>dw l (λi=>i▸gm.5.1) λl=>bS l (λe=>cg (eK a e).2 sK) λe=>cg (en.8 a e)<|a5 fO sK]
 have xd:∀a∈aZ++[av],(b.heap.objs.size<=a\/(a∈r/\Ų (ű (Q7 g.s0))<=a/\a∉cc p))/\a∈aP::av::(aZ++r)/\aP≠a:=λa l=>by rw[bS l (λe=>⟨.inl (eK a e).1,mt<|mt<|b7 e,λi=>b2 (eK a e).2<|i▸eI⟩) λe=>U (bg e)<|⟨.inl<|a5 fO c7,mt bB,ib qb⟩]
 have rB:cx g (l9 a2 (hs p a2.names []) aP p) (aP::av::(aZ++r)) (aZ++[av]) g.tabs cv.heap.objs.size:=Li aA en Eo (a5 fO eI) bB (λa l=>mt<|mt<|bR l) xc g7.2.1.2 f8 xd;have ke:bb [] [] b cv:=(aK.trans a7).trans gm.3;have xe:bG g (l9 a2 (hs p a2.names []) aP p) (aP::av::(aZ++r)) (aZ++[av]) cv.heap.objs.size (gK (ey a2 p.scope) y) cv:=Lj en g7 Eo ke (a5 fO eI) gm.2 (dr _) (λa l=>(f8 a l).imp id fY) λa l=>bS l (λe=>.inr λk i=>aN.1.6 0 ar a k aN.2 e<|(aK.trans a7).all a k i) λe=>.inl<|bg e▸a5 fO c7;have di:mf g.prog g.w s t.target (aP::av::(aZ++r)) bv ar an bQ aZ mh St:=⟨aN.1.1,aN.1.2,λj f b A R st aj=>aN.1.3 j f b A R st λz w aQ kz t=>aj z w (λbx kd f8 pr=>aQ bx kd (λa l=>⟨(f8 a l).1,by
  rcases(f8 a l).2 with e|e
  .rw[dw e (λi=>.inr<|.inr<|i▸eI) λe=>dw e (λi=>.inr<|.inr<|i▸c7) λe=>bS e (λe=>.inr<|.inl e) .inl]
  .rw[.inr e]⟩) pr) kz t,aN.1.4,aN.1.5,aN.1.6⟩;have jT:∀a∈bQ,a≠av/\a≠aP:=λa l=>⟨λe=>b2 (aN.7 a l).1<|e▸c7,λe=>b2 (aN.7 a l).1<|e▸eI⟩;have vw:∀a∈aZ,a∈aZ++[av]:=λa l=>b7 l;have k1:∀f z,¬fm (gK (ey a2 p.scope) y) f (.o z):=λf z=>S_;have oI:av∉aZ:=λe=>b2 (eK av e).2 c7;have ag9:av∈aZ++[av]:=bR bB;have sE:∀a∈aZ++[av,aP],a∈aP::av::(aZ++r):=λa l=>bS l (λe=>mt<|mt<|b7 e) λe=>dw e (λi=>i▸mt bB) λe=>bg e▸bB;rw[K' (bv:=bv) V V qq (H6▸eQ _) (λcd e=>dN e) di.yh (λj D=>bb (aZ++[av,aP]) mh cv D/\bG g (l9 a2 (hs p a2.names []) aP p) (aP::av::(aZ++r)) (aZ++[av]) cv.heap.objs.size (gK (ey a2 p.scope) y) D/\∃bT:List aE,gu bT=j/\(∀h∈bT,Ų (ű (Q7 cv))<=h/\h<Ų (ű (Q7 D)))/\pP bT (bX j aq) D.heap/\∃N,D.heap.PlainList av N/\N.toList=bT.map fv) ?_ ?_ ⟨bK.refl ..,xe,[],V,aR,⟨V,pZ,λj h de e=>dN e⟩,#[],gm.1,V⟩<|aN.1.2 0 ar cv [] [] aN.2 gm.3 aR aR]
 .intro j f oJ D z R ag_ sJ aQ n4 fx;rwa[ds (@Bind.bind _ _ _ _ _ _)];intro dx;rw[d8 ?_];intro eg;obtain⟨dO,d5,bT,ft,qN,OS,N,Cv,H7⟩:=ag_;obtain⟨fg,fD,h6⟩:=hk j f R;rw[Y.bind<|w' ao.1 rB (d5.AG rB vw fx kA k1) (aQ _ _ (λa l=>⟨cg (rB.8 a l) d5.1,.inl l⟩)<|(gm.3.mono aR aR).trans<|dO.mono sE λu c=>c) fg λjr oK dD=>U H6<|Y.bind<|(show vv g x (ey a2 p.scope) (k0 t.target f<|gK (ey a2 p.scope) y) [] ag from V).bF ao V rB dD λmU uU=>tY V<|U (rfl:([t]:List lC)[0+1]?=aX)<|Y.bind<|(h6 s (l9 a2 (hs p a2.names []) aP p) _ _ _ _ ao V<|rB.up<|a5 dD.1 uU.2) mU _ ((dD.grow uU).now) λB Al b4 a8=>?_];obtain⟨h,rfl,GY,hN⟩:=a8;have Xo:∀a k,a∉aZ->a≠aP->Ű (Q7 oJ) a=W k->Ű (Q7 Al) a=W k:=λa k l ej i=>b4.all a k<|uU.all a k<|oK.1 a k (λe=>ej<|bg e)<|fx.1 a k l i;have ag':Al.heap.PlainList av N:=Cv.at λk i=>Xo av k oI qb i;have cp:N.size=j:=by rw[bL ft<|bL BZ<|U H7<|U (dg ..) V]
  have Df:j<gu bv:=(j4.mp R).1;rw[dC<|II ag' (λX lk dy=>Y.pure ?_)<|cp▸a5 (mB Df) ae];have rA:bb [av] [] Al {Al with heap:=X}:=bK.same dy;have vM:Ų (ű (Q7 D))<=Ų (ű (Q7 mU)):=a5 oK.2 uU.2;have gY:∀a∈bT,a∉aZ/\a≠aP/\a≠av:=λa l=>⟨λe=>b2 (cg (eK a e).2 sK) (qN a l).1,λe=>b2 gm.5.2<|e▸(qN a l).1,λe=>b2 gm.5.1<|e▸(qN a l).1⟩;have aha:h≠av:=λe=>b2 (cg gm.5.1<|a5 dD.1 uU.2)<|e▸GY;rw[⟨⟨?_,?_,bT++[h],?_,?_,?_,N.push<|.ref h,lk,?_⟩,?_⟩]
  .rw[((dO.trans<|fx.mono (λa l=>b7 l) λu c=>c).trans<|(oK.mono (λa l=>bR<|mt l) aR).trans<|((uU.trans b4).mono aR aR).trans<|rA.mono (λa l=>bR<|bg l▸bB) aR)]
  .rw[(((dD.grow uU).grow b4).Pk rB (λC ae=>bg ae▸ag9) rA<|Tc k1).le λB bz c=>fD B bz c]
  .rw[U e7<|U ft ?_];rfl
  .intro a l;rcases jf.mp l with e|e
   .rw[⟨(qN a e).1,cg (qN a e).2<|a5 fx.2<|a5 vM<|a5 b4.2 rA.2⟩]
   .rw[U (bg e)<|⟨a5 (a5 dD.1 uU.2) GY,cg hN.lt rA.2⟩]
  .rw[pP.push (OS.keep λa l k i=>rA.1 a k (λe=>(gY a l).2.2<|bg e)<|Xo a k (gY a l).1 (gY a l).2.1 i) (λe=>b2 (cg (qN h e).2<|a5 fx.2 vM) GY)<|(hN.ints).keep λk i=>rA.1 h k (λe=>aha<|bg e) i]
  .rw[U BY<|U H7<|U jg ?_];rfl
  .rw[di.2 _ _ _ [av,aP] [] n4 ((oK.mono (λa l=>mt l) λu c=>c).trans<|((uU.trans b4).mono aR aR).trans<|rA.mono (λa l=>bg l▸bB) aR) (λa l e=>dw l (λi=>(jT _ e).1 i) λC=>(jT a e).2<|bg C) aR]
 .intro oJ D ru fx _;obtain⟨dO,d5,bT,ft,qN,OS,N,Cv,H7⟩:=ru;have gY:∀a∈bT,a∉aZ/\a≠aP/\a≠av:=λa l=>⟨λe=>b2 (cg (eK a e).2 sK) (qN a l).1,λe=>b2 gm.5.2<|e▸(qN a l).1,λe=>b2 gm.5.1<|e▸(qN a l).1⟩;have bs:=d5.AG rB vw fx kA k1;rw[bt bs.3 λcS al u=>bt al.2 λS bk u=>aj aP av bT D (ov S bk) ((ke.mono aR aR).hj (dO.trans<|fx.mono (λa l=>b7 l) λu c=>c) (λa l=>bS l (λe=>.inr<|fY (eK a e).1) λe=>dw e (λi=>.inr<|fY<|i▸a5 fO c7) λe=>.inr<|fY<|(bg e)▸a5 fO eI) λj T=>(aN.5 j T).elim (λe=>.inr<|sy e) λe=>db e) (a5 fO eI) (a5 fO c7) (ib qb) (cg gm.5.2<|a5 dO.2 fx.2) (λh aS=>⟨a5 ke.2 (qN h aS).1,(gY h aS).2.1,(gY h aS).2.2,cg (qN h aS).2 fx.2⟩) (OS.keep λa l k i=>fx.1 a k (gY a l).1 i) ⟨N,Cv.at λk i=>fx.1 av k oI i,H7⟩]
noncomputable def Slot.u7:Slot->Slot|.o z=>.f z|bz=>bz
noncomputable def OT(y:b_):b_:=y.map λn=>(n.1,n.2.u7)
theorem OU{y:b_}:∀{f:Str}{bz:Slot},fm (OT y) f bz->∃r7,fm y f r7/\bz=r7.u7:=by induction y with
 |nil=>intro fl eM c;rw[nomatch c]|cons h2 y a3=>
  obtain⟨B,aG⟩:=h2;intro f bz c;rcases iQ c with⟨rfl,rfl⟩|⟨c_,c⟩
  .rw[⟨aG,.here,V⟩]
  .obtain⟨r7,dm,el⟩:=a3 c;rw[⟨r7,.there (by simpa using λi=>c_ i.symm) dm,el⟩]
theorem cx.UP(I:cx g p r L ay aa)(cL:List aE)(af:∀C∈cL,C∉cc p)(am:∀C∈cL,C∉L)(a':∀C∈cL,C∉ay):cx g p (r.filter λh=>!cL.contains h) L ay aa:=by have m:∀h,h∈r->h∉cL->h∈r.filter λh=>!cL.contains h:=λh aS ae=>pX.mpr ⟨aS,by simpa using ae⟩;rw[I.sub (λh aS=>(pX.mp aS).1) (λh aS=>m h (I.4 h aS).1 λe=>af h e aS) (λh aS=>m h (I.5 h aS).1 λe=>am h e aS) λh aS=>m h (I.6 h aS) λe=>a' h e aS]
theorem cx.UQ(I:cx g p r L ay aa):cx g p r [] ay aa:=⟨I.1,I.2,I.3,λh aS=>⟨(I.4 h aS).1,(I.4 h aS).2.1,λe=>db e,(I.4 h aS).2.2.2⟩,λh e=>db e,I.6,I.7,I.8,I.9,I.10⟩
theorem bG.u7(n:bG g p r L aa y b)(I:cx g p r L ay aa):bG g p (r.filter λh=>!L.contains h) [] aa (OT y) b:=by
 rwa[ds (@List.filter _ _ _)];intro dx;rw[jh n.3 λcS al af am a'=>⟨n.1,n.2,cS,al,λf bz R=>?_,λf z R=>?_,λf z R=>?_⟩]
 .obtain⟨r7,e,rfl⟩:=OU R;rw[bt (af f r7 e) λz aQ q=>⟨z,aQ,?_⟩];have G:∀B∈r.filter λh=>!L.contains h,B∈r:=λB a8=>(pX.mp a8).1;cases r7 with
  |f aG=>rw[ck.sub q G]|b aG=>rw[(q:lQ b.heap r (.b aG) z).sub G]|o aG=>
   obtain⟨h,aS,i,_⟩:=am f aG e;obtain⟨gi,cP,q⟩:=q;rw[aQ]at i;cases i;cases cP;rw[(q.sub G).rep λe=>by have:=(pX.mp e).2;simp at this;rw[this aS]]
 .obtain⟨r7,e,i⟩:=OU R;cases r7<;>cases i
 .obtain⟨r7,e,i⟩:=OU R;cases r7<;>cases i;obtain⟨h,i,dm,el⟩:=a' f z e;rw[⟨h,i,λe=>db e,el⟩]
noncomputable def ahb(y:b_):Bool:=y.all λn=>match n.2 with|.o _=>be|_=>ag
theorem Xp:∀{y:b_}{f:Str}{bz:Slot},fm y f bz->(f,bz)∈y|_,_,_,.here=>tz|_,_,_,.there _ c=>sj _<|Xp c
theorem bd.unit{st:List fa}{lS:b_}(k1:ahb y=ag)(af:bd g x O a1 y st λc2 bP=>c2=.next/\gk lS bP)(am:bd g x O a1 (OT lS) b0 b1):bd g x O a1 y (st++b0) b1:=λs p r L ay aa b ao G I n=>by rw[d8 ?_];intro eg;rwa[Eb<|Y.mono (af s p r [] ay aa b ao G I.UQ<|n.narrow (λu c=>c) (λu e=>db e) n.1 λf z e=>iJ<|hH.mp k1 _<|Xp e)];rintro J as e;rw[e.gp λc2 bP bx cQ c' aO l dJ bq=>?_];obtain⟨rfl,aw⟩:=aO;obtain⟨rfl,eo,bs⟩:=bq;have dZ:∀a∈cQ,b.heap.objs.size<=a:=λa l=>(dJ.3 a l).elim (λe=>db e) id;have cC:∀a∈r,a∉cQ:=λa l e=>b2 (cg (I.8 a l) n.1)<|dZ a e;have qJ:=(eo.UQ).UP cQ (λC ae e=>(eo.4 C e).2.2.1 ae) (λC u e=>db e) λC ae e=>cC C (I.6 C e) ae;rw[⟨V,Y.mono (am s p _ [] ay c' as ao G qJ<|(bs.le λf bz e=>aw.has e).u7 eo) λJ ar X=>X.trans ⟨λa l=>pX.mpr ⟨dJ.1 a l,by simpa using cC a l⟩,λa l=>dJ.2 a (pX.mp l).1,λu e=>db e,dJ.4.mono (λa l=>bS l (λe=>bS e (λe=>db e) λe=>b7<|bR e) λe=>bR e) λu c=>c⟩⟩]
abbrev yq(a0:List<|List Int)(bD:Int):b_:=[("data",.f<|.lst<|a0.map bu),("checks",.f<|.int bD)]
abbrev wi(a0:List<|List Int)(bD b6:Int):b_:=[("data",.f<|.lst<|a0.map bu),("checks",.f<|.int bD),("total",.f<|.int b6)]
abbrev th(a0:List<|List Int)(bD br b6:Int)(e0:List Int):b_:=[("data",.f<|.lst<|a0.map bu),("checks",.f<|.int bD),("blocks",.f<|.int br),("total",.f<|.int b6),("numbers",.f<|bu e0)]
noncomputable def k8(gN:List Int):List Int:=gN.take 26++([0,0]:List Int).drop (gu gN)
theorem Xq:∀o,o<29->2<=o->0<o-2+(if o<3 then 1 else 0)/\o-2+(if o<3 then 1 else 0)<=30:=by decide
noncomputable def oi(e0:List Int):List Int:=(e0.drop 2).map (λo=>o.fmod 256)++(if gu e0<3 then[0]else[])
noncomputable def b3(q m:Nat):Nat:=om ((OG.getD q []).getD m 0)
theorem ahc:∀q,q<8->OG[q]?=W [(b3 q 0:Int),(b3 q 1:Int),(b3 q 2:Int),(b3 q 3:Int),(b3 q 4:Int)]:=by decide
def kn:List Stmt:=hv<|dq aU 25
theorem ahd{cw:List<|List Int}{q:Nat}{aq:List Int}(c:cw[q]?=W aq):(cw.map jc)[q]?=W (jc aq):=by rwa[U (eX)<|U c];rfl
theorem ahe(o:qL g)(gN:List Int)(ih:gu gN<=63){b1:jU->b_->Prop}(c:∀q,q<8->gu (oi<|k8 gN)<=30->0<gu (oi<|k8 gN)->2<=gu (k8 gN)->gu (k8 gN)<=28->bd g (x+2) (fH<|dq aU 25) a1 [("octets",.f<|bu<|oi<|k8 gN),("checks",.f<|.int<|b3 q 4),("blocks",.f<|.int<|b3 q 3),("total",.f<|.int<|b3 q 2),("level",.f<|.int<|b3 q 1),("version",.f<|.int<|b3 q 0),("numbers",.f<|bu<|k8 gN)] b0 b1):bd g (x+2) (fH<|dq aU 25) a1 [("script",.f<|bu gN)] (kn.take 3++b0) b1:=by
 have G:cy=2^24:=V;conv=>arg 6;whnf--ana
 rwa[bd.assign (ai.vH (aq:=gN.take 26) (ai.DU (o:=26) al.nm ai.dv<|fE 211 (.l .x .y) [.l .x<|.n 63,.e .y<|.n 16777216] Z ih G) (ai.yc (aq:=[0,0]) (o:=gN.length) (ai.list (fC.g8 ai.dv<|fC.g8 ai.dv fC.nl) bf) (al.oO o.toqm al.nm<|bM (.t .x<|.n 4611686018427387904) [.l .x<|.n 63] Z ih) bf) (by simp;rw[fq 21 (.l (.a .x .y) .z) [.e .z<|.n 16777216,.l .x<|.n 26,.l .y<|.n 2] Z G (pf _ _)<|jF _ _])) Z];change bd _ _ _ _ ((_,Slot.f<|bu<|k8 gN)::_) _ _;have OV:gN.take 26++([0,0]:List Int).drop (gu gN)=k8 gN:=V;generalize k8 gN=e0 at c OV;rw[py ?_];intro qO;have uQ:2<=gu e0:=by rwa[bL OV];simp;rw[(iv 26<|gu gN).elim (λer=>fE 21 (.l (.n 2)<|.a .x .y) [.e .x<|.n 26] Z<|FR er) λer=>fq 211 (.l (.n 2)<|.a .x .y) [.l (.n 2)<|.a .y .z,.e .x .z] Z (ef _ _)<|R2 er]
 have yr:gu e0<=28:=by rwa[bL OV];simp;rw[ct (.l (.a .x .y)<|.n 28) [.l .x<|.n 26,.l .y<|.n 2] Z (pf _ _)<|jF _ _]--qc anb
 have ahf:0<=(e0.getD 0 0).fmod 8:=BD _ bf;have ahg:(e0.getD 0 0).fmod 8<8:=Fc _ bf;obtain⟨q,gH⟩:=BC ahf;have ap:q<8:=Zx 211 (.t .x<|.n 8) [.b2 .x<|.n 8,.e0 .x<|.c .x] Z ahg gH;obtain⟨f5,ahh,H8⟩:=o.lay;have aL:gu (oi e0)=(gu e0-2)+(if gu e0<3 then 1 else 0):=by unfold oi;rw[U e7<|U (dg ..)<|U o' ?_];split<;>rfl
 have AQ:0<gu (oi e0):=aL.symm▸(Xq (gu e0) (Jh yr) uQ).1;have A7:gu (oi e0)<=30:=aL.symm▸(Xq (gu e0) (Jh yr) uQ).2;specialize c q ap A7 AQ uQ yr;have ahi:=ahd<|ahc q ap;rwa[bd.unpack (aJ:=["version","level","total","blocks","checks"]) (ai.Ic (ai.glob o.ok ahh H8 Z) (cI.cast (ai.mod (al.PX (S:=0) (aq:=e0) al.nm ai.dv (bM (.t (.n 0) .x) [.l (.n 2) .x] Z uQ)<|fE 21 (.l .x .y) [.e .y<|.n 16777216,.l .x<|.n 28] Z G yr) ai.dv bf) gH) (gP q) ahi bf) V V Z<|bd.assign (z:=bu<|oi e0) (ai.cast (ai.vH (de:=if gu e0<3 then[0]else[]) (cW:=.fr) ?_ (ai.ite (m:=.cH) (e:=decide<|gu e0<3) ?_ ?_ ?_) ?_) V) Z]
 .rw[al.wO (E:=e0.drop 2) o.toqm (fj.list (jR.of<|ai.yc (o:=2) al.nm ai.dv<|fE 21 (.l .x .y) [.e .y<|.n 16777216,.l .x<|.n 28] Z G yr)<|.inl<|kR _ _ V) (λv bV=>⟨al.t1,ai.mod al.nm ai.dv bf⟩) (by simp;rw[rf 221 (.l .x<|.a .y<|.n 2) [.e .y<|.n 16777216,.e .z<|.a .w .u,.l .z<|.n 30,.l .x<|.a .w<|.n 2] Z G aL A7<|ef _ _])]
 .rw[ei.cast (ei.lt (al.oO o.toqm al.nm<|lJ 21 (.t .x<|.n 4611686018427387904) [.e .y<|.a .z .w,.l .y<|.n 30,.l .x<|.a .z<|.n 2] Z aL A7<|ef _ _) ai.dv λu=>V) (by congr 1;simp;rw[⟨λbN=>bM (.t .x<|.n 3) [.b2 (.c .x)<|.n 3] Z bN,λbN=>bM (.b2 (.c .x)<|.n 3) [.t .x<|.n 3] Z bN⟩])]
 .intro c;rw[U (if_pos<|of_decide_eq_true c)<|(ai.list (aJ:=[.int 0]) (fC.g8 ai.dv fC.nl) bf).hA]
 .intro c;rw[U (if_neg<|of_decide_eq_false c)<|(ai.list (aJ:=[]) fC.nl bf).hA]
 .rw[a5 (l_ e7.symm)<|a5 A7 bf]
 rw[bd.le (g9 V) c]
def H9(bD br b6:Int)(j:Int):Int:=b6.fdiv br-bD+(if j>=br-b6.fmod br then 1 else 0)
def H_(bD br b:Int):Int:=if(320:Int).fdiv (bD*br)<b then(320:Int).fdiv (bD*br)else b
noncomputable def ahj(g3:List Int)(m:Int):Int:=(g3.getD (om (m.fmod (gu g3))) 0+101*m.fdiv (gu g3)).fmod 256
noncomputable def qP(f5:Nat->Nat):Nat->Nat|0=>0|j+1=>qP f5 j+f5 j
def ys(g3:List Int)(c6 f5:Nat->Nat)(j:Nat):List Int:=bX (c6 j-f5 j) 0++(ij (qP f5 j) 1<|f5 j).map (ahj g3)
def l8(g3:List Int)(c6 f5:Nat->Nat)(br:Nat):List (List Int):=(cZ br).map<|ys g3 c6 f5
structure H'(bD br b6:Nat)(c6 f5:Nat->Nat):Prop where
 zM:1<=bD/\bD<=30
 zN:1<=br/\br<=10
 xk:∀j:Nat,j<br->H9 bD br b6 j=c6 j/\H_ bD br (c6 j)=f5 j/\f5 j<=c6 j/\c6 j<=200/\2<=c6 j
theorem ahk{f5:Nat->Nat}{br:Nat}(c:∀j,j<br->f5 j<=200)(j):j<=br->qP f5 j<=200*j:=by induction j with|zero=>intro fl;rw[dr _]|succ j a3=>intro T;have:=a3<|ct (.l .x .y) [.l (.o .x) .y] Z T;have:=c j<|ct (.t .x .y) [.l (.o .x) .y] Z T;show qP f5 j+f5 j<=_;omega
theorem ahl(o:qL g)(g3 e0:List Int)(aL:0<gu g3/\gu g3<=30){bD br b6 le z:Nat}{c6 f5:Nat->Nat}(cw:H' bD br b6 c6 f5){b1:jU->b_->Prop}(c:bd g (x+2) (fH<|dq aU 25) a1 [("data",.f<|.lst<|(l8 g3 c6 f5 br).map bu),("checks",.f<|.int bD),("blocks",.f<|.int br),("total",.f<|.int b6),("level",.f<|.int le),("version",.f<|.int z),("numbers",.f<|bu e0)] b0 b1):bd g (x+2) (fH<|dq aU 25) a1 [("octets",.f<|bu g3),("checks",.f<|.int bD),("blocks",.f<|.int br),("total",.f<|.int b6),("level",.f<|.int le),("version",.f<|.int z),("numbers",.f<|bu e0)] ((kn.take 6).drop 3++b0) b1:=by
 rw[py ?_];intro qO;have G:cy=2^24:=V;obtain⟨hP,lY⟩:=cw.zM;obtain⟨fg,fD⟩:=cw.zN;rw[bd.unit (lS:=[("data",.o<|.lst<|(l8 g3 c6 f5 br).map bu),("checks",.f<|.int bD),("blocks",.f<|.int br),("total",.f<|.int b6),("level",.f<|.int le),("version",.f<|.int z),("numbers",.f<|bu e0)]) V (px ?_) c];intro qI;conv=>arg 6;whnf
 rw[bd.yu (ai.list (aJ:=[]) trivial<|eQ _) Z<|bd.assign ai.dv Z<|bd.nu (λj y=>gk [("taken",.f<|.int<|qP f5 j),("data",.o<|.lst<|(cZ j).map λQ=>bu<|ys g3 c6 f5 Q),("octets",.f<|bu g3),("checks",.f<|.int bD),("blocks",.f<|.int br),("total",.f<|.int b6),("level",.f<|.int le),("version",.f<|.int z),("numbers",.f<|bu e0)] y) (λu u=>V) (al.range o.toqm al.nm (by rw[bM (.t .x<|.n 4611686018427387904) [.l .x<|.n 10] Z fD])) ?_ (g9 V) ?_]
 .intro j f bP R d9;obtain⟨T,rfl⟩:=H2 R;rwa[ds (@bd _ _ _ _ _ _ _)];intro dx;obtain⟨ox,OW,qk,Ia,akU⟩:=cw.xk j T;have bC:=ahk (f5:=f5) (λj T=>by have:=cw.xk j T;rw[ct (.l .x<|.n 200) [.l .x .y,.l .y<|.n 200] Z this.2.2.1 this.2.2.2.1]) j (by rw[ct (.l .x .y) [.t .x .y] Z T]);rw[⟨al.t1,bd.le (bP:=[("number",.f<|.int j),("taken",.f<|.int<|qP f5 j),("data",.o<|.lst<|(cZ j).map λQ=>bu<|ys g3 c6 f5 Q),("octets",.f<|bu g3),("checks",.f<|.int bD),("blocks",.f<|.int br),("total",.f<|.int b6),("level",.f<|.int le),("version",.f<|.int z),("numbers",.f<|bu e0)]) ⟨V,d9⟩ ?_⟩]--size
  rw[px ?_];intro qI;rw[py ?_];intro qO;rwa[bd.assign (cI.cast (ai.add (ai.sub (ai.div al.nm al.nm (by rw[ct (.m8 (.c .x)<|.n 0) [.t .y .x] Z T])<|vJ (by rw[bM (.t .x<|.n 1073741824) [.l .x<|.n 10] Z fD])) al.nm)<|ai.ite (m:=.cH) (ei.ge al.nm (ai.sub al.nm<|ai.mod al.nm al.nm (by rw[ct (.m8 (.c .x)<|.n 0) [.t .y .x] Z T])) λu=>V) (λe=>?_) λe=>?_) ox) Z]
  .rw[U (if_pos<|of_decide_eq_true e) ai.dv]
  .rw[U (if_neg<|of_decide_eq_false e) ai.dv]--live
  have ahm:(bD:Int)*br=((bD*br:Nat)):=V;have ahn:1<=bD*br:=Jr hP fg;have aho:bD*br<=300:=Jr lY fD;rwa[bd.assign (cI.cast (ai.min2 o.ok al.nm (ai.div ai.dv (ai.mul al.nm al.nm<|xv (by rw[⟨bM (.b2 (.g<|.n 18446744073709551616)<|.c .x) [] Z,bM (.b2 (.c .x)<|.n 18446744073709551616) [.l .x<|.n 30] Z lY⟩])) (by rwa[U ahm];rw[bM (.m8 (.c .x)<|.n 0) [.l (.n 1) .x] Z ahn])<|vJ (by rw[bM (.t .x<|.n 1073741824) [.l .x<|.n 300] Z aho])) o.min (ak:=⟨V,V⟩)) OW) Z]--data.append
  rw[py ?_];intro qO;rwa[bd.append (z:=bu<|ys g3 c6 f5 j) V Z (ai.vH (fi:=.fr) (ai.cast (ai.vI (ai.list (aJ:=[.int 0]) (fC.g8 ai.dv fC.nl) bf) (ai.sub al.nm al.nm) (by rw[ct (.cN (.g<|.n 9223372036854775808)<|.s (.c .x)<|.c .y) [.l .y .x] Z qk]) (by rw[ct (.cN (.s (.c .x)<|.c .y)<|.n 16777216) [.l .x<|.n 200] Z Ia])) (by rw[U (by omega:om ((c6 j:Int)-f5 j)=c6 j-f5 j) V])) (al.wO (E:=ij (qP f5 j) 1<|f5 j) o.toqm ((by rw[kU 1011 101 (.e .x .y) [.cN (.s (.a (.c .z)<|.c .y)<|.c .z)<|.c .x,.e0 (.c .x)<|.s (.a (.c .z)<|.c .y)<|.c .z] Z (mK _) (pg<|ct (.cN (.n 0)<|.s (.a (.c .x)<|.c .y)<|.c .x) [] Z)]:om ((qP f5 j:Int)+f5 j-qP f5 j)=f5 j)▸fj.YY o.ok al.nm (ai.add al.nm al.nm) o.range (by cbv) ⟨V,V⟩ (by rw[bM (.cN (.g<|.n 4611686018427387904)<|.c .x) [] Z]) (by rw[fq 661 (.b2 (.c .x)<|.n 4611686018427387904) [.l .y<|.n 10,.t .z .y,.l .x<|.m 200 .z] Z fD T bC]) (by rw[ct (.cN (.g<|.n 4611686018427387904)<|.a (.c .x)<|.c .y) [] Z]) (by rw[rf 661 (.b2 (.a (.c .x)<|.c .y)<|.n 4611686018427387904) [.l .z<|.n 10,.t .w .z,.l .y .u,.l .u<|.n 200,.l .x<|.m 200 .w] Z fD T qk Ia bC])) (λm aT=>⟨al.t1,?_⟩) (by rwa[U (sP ..)];rw[fq 21 (.l .x .y) [.e .y<|.n 16777216,.l .x .z,.l .z<|.n 200] Z G qk Ia])) (by rw[U gg<|U (dg ..)<|U (sP ..) ?_];rw[lJ 3121 (.l (.a .x .y) .z) [.e .z<|.n 16777216,.l .y .w,.l .w<|.n 200,.l .x .w] Z G qk Ia<|jF _ _])) (by simp;rw[fq 21 (.l .x .y) [.e .y<|.n 16777216,.l .z<|.n 10,.t .x .z] Z G fD T])]
  .obtain⟨Q,cu,rfl⟩:=la.mp aT;have ik:0<=((qP f5 j:Int)+(Q:Int)*1):=by rw[ct (.cN (.n 0)<|.a (.c .x)<|.r (.c .y) 1) [] Z]
   have Ib:0<=((qP f5 j:Int)+(Q:Int)*1).fmod (gu g3):=BD _ (by rw[bM (.b2 (.n 0)<|.c .x) [.t (.n 0) .x] Z aL.1]);have bg:((qP f5 j:Int)+(Q:Int)*1).fmod (gu g3)<gu g3:=Fc _ (by rw[bM (.b2 (.n 0)<|.c .x) [.t (.n 0) .x] Z aL.1]);rw[ai.mod (ai.add (ai.t5 (aq:=g3) al.nm (ai.mod al.nm (al.oO o.toqm al.nm (by rw[bM (.t .x<|.n 4611686018427387904) [.l .x<|.n 30] Z aL.2])) (by rw[tU (.m8 (.c .x)<|.n 0) [.cN (.n 0) .x,.b2 .x<|.c .x] Z Ib bg])) Ib (by rw[vk (.t .x .y) [.b2 .x<|.c .y,.e0 (.c .x) .x] Z bg<|pg Ib]) (by rw[fE 211 (.l .x .y) [.l .x<|.n 30,.e .y<|.n 16777216] Z aL.2 G]))<|ai.mul ai.dv (ai.div al.nm (al.oO o.toqm al.nm (by rw[bM (.t .x<|.n 4611686018427387904) [.l .x<|.n 30] Z aL.2])) (by rw[tU (.m8 (.c .x)<|.n 0) [.cN (.n 0) .x,.b2 .x<|.c .x] Z Ib bg])<|vJ (by rw[bM (.t .x<|.n 1073741824) [.l .x<|.n 30] Z aL.2]))<|xv bf) ai.dv bf]
  rw[bd.Ul V Z Z al.nm<|bd.nil ⟨V,(?_:W (Slot.o<|bj.lst _)=W (Slot.o<|bj.lst _)),V,V,V,V,V,V,V,trivial⟩];rwa[U JB<|U jg];rfl
 .intro bP d9;replace d9:=(by simp[nE]:gu (nE br)=br)▸d9;rw[bd.le d9<|bd.nil ⟨V,(?_:W (Slot.o<|bj.lst _)=W (Slot.o<|bj.lst _)),V,V,V,V,V,V,trivial⟩];unfold l8;rwa[U ho];rfl
theorem ei.ajc(c:ai g x O y E .cH .none)(bk:ua .IsNot<|.Constant .none Q bs):ei g x O y (.Compare E [.IsNot] [.Constant .none Q bs] ax) be:=λs p r L ay aa ao G I=>vo (kw:=λb g=>g=.none) (oB:=λb g=>g=.none) I.ok (λb A n aj=>c s p r L ay aa ao G I b A n λa4 w t q=>aj a4 w t<|q) (λu u u c u=>c) (Sx.to λu u c=>c) (λb e2 fG u af am=>by subst af am;rw[hi.now (λA aY=>r' (rfl:wr .IsNot .none .none=dB (.bool be)) aY) V])<|bk p
theorem fC.ints(E:List<|Int×Nat×Pos):fC g x O y (E.map λn=>.Constant (.int n.1) n.2.1 n.2.2) ((E.map (·.1)).map bj.int):=by induction E with|nil=>rw[trivial]|cons _ E a3=>rw[⟨V,ai.dv,a3⟩]
theorem ei.My(E:List<|Int×Nat×Pos)(aQ:cI g x O y i z)(aw:gu E<=cy)(bq:az=E.map λn=>.Constant (.int n.1) n.2.1 n.2.2):ei g x O y (.Compare i [.In] [.Tuple az o iC] ax) ((E.map (·.1)).any (·==z)):=by rw[U bq<|ei.O0 aQ (ai.tuple (fC.ints E) (by simpa using aw)) λu=>V]
theorem Xr{z a:Int}(aQ:z<=a)(E:List Int):E.all (λf=>decide<|a<f)=ag->E.any (·==z)=be:=by induction E with|nil=>intro fl;rw[V]|cons f E a3=>intro c;have X:=kJ.mp c;rw[((U (a3 X.2)<|U (beq_false_of_ne λi=>BB.mpr (i▸aQ)<|of_decide_eq_true X.1) V):(f==z||E.any (·==z))=be)]
def dL(j:Nat):Stmt:=((hv<|dq aU 17)[j]?).getD<|.Pass default
theorem ahp:hv (dq aU 17)=[dL 0,dL 1,dL 2,dL 3,dL 4,dL 5,dL 6,dL 7,dL 8,dL 9,dL 10,dL 11,dL 12,dL 13]:=rfl
inductive yt(a6:List<|List Int):Prop|mk(f2:∀a∈a6,fI a/\gu a<=1000)(f3:0<gu a6)(gw:gu a6<=100):yt a6
theorem Xs(a6:List<|List Int):fI (ms a6):=λf R=>by
 rw[bt (tE.mp R) λm u R=>bt (tE.mp R) λa u R=>?_];split at R
 .rw[mL R λj u bN=>U bN ?_];have:=(show 0<=oQ (a.getD m 0) 8 j/\oQ (a.getD m 0) 8 j<2 from(by unfold oQ;rw[U (bitAnd_m1 ..)<|⟨nT (.cN (.n 0) .x) [.cN (.n 0) .x] Z<|ZD _ 1,nT (.b2 .x<|.n 2) [.b2 .x<|.n 2] Z<|ZE _ 1⟩]));rw[⟨Kk (.cN (.n 0) .x) [.e0 .y .x,.cN (.n 0) .y] Z bN this.1,Zw 21 (.b2 .x<|.n 256) [.e0 .y .x,.b2 .y<|.n 2] Z bN this.2⟩]
 .rw[db R]
theorem Ie{a9 cN:Type}{J:a9->List cN}{o:Nat}:∀{E:List a9},(∀h∈E,gu (J h)<=o)->gu (E.flatMap J)<=gu E*o|[],cR=>eQ _|h::E,c=>by rw[U nO<|U e7<|U gt<|U (y2 ..)<|(tx ..).symm▸P9 (Ie λa l=>c a<|mt l) (c h bB)]
theorem yt.UW{a6:List<|List Int}(c:yt a6):gu (ms a6)<=800000:=by
 have ls:td (a6.map λa=>(gu a))∈a6.map λa=>(gu a:Int):=OQ (by simpa using c.2);rw[mL ls λa l i=>?_];have ej:=(c.1 a l).2;rwa[a5 (Ie λm u=>a5 (Ie (o:=8) λa u=>?_)<|BI _ c.3)]
 .split<;>simp
 .rw[U mE<|bL i<|U (hF ..)<|BI _ ej]
noncomputable def yw(hb:Int):Nat:=if([2,3,4,5,6].any (·==hb))=ag then 7 else 0
@[reducible]def kI(bm cT:aE):Inv:=(hQ 1944 1940).both<|yf bm cT
def Xt(hb:Int)(J bm e_:aE)(nm:aF)(D:Tok)(h:aE)(az:List<|List Int):b_:=[("version",.f<|.int hb),("to_binary",.f<|yg J bm e_ nm D),("res",.f<|.raw<|.ref h),("error_blocks",.f<|.lst<|az.map ha)]
theorem Xu{a1 bo aN:Inv}:Inv.k9 ((a1.both aN).both bo) ((a1.both bo).both aN):=⟨λu u u u u c=>c.swap,λu c=>(bS c (λc=>bS c (λc=>b7<|b7 c) λc=>bR c) λc=>b7<|bR c),λu c=>(bS c (λc=>bS c (λc=>b7<|b7 c) λc=>bR c) λc=>b7<|bR c)⟩
theorem Xv(aM:eF ah){o:Nat}(ak:o=0\/o=7)(iX:bU∉(kI bm cT).W)(ae:gu aq<=2^20){y:b_}(cz:gk (("remainder",.f<|.int o)::Xt hb J bm e_ nm D h az) y):b' (bh ah) (x+1) s pN ((kI bm cT).both<|hE h bU cP aq) y [dL 12] (λc2 bP bZ=>c2=.next/\gj bP "res"=W (.f<|.raw<|.ref h)/\bZ=(kI bm cT).both (hE h bU cP<|aq++bX o 0)):=by
 rwa[b'.le cz];conv=>arg 7;arg 1;whnf
 rw[b'.B8 (dF.aiT aM (AH V) iX V Z ak al.nm ae) V<|su<|⟨V,b'.nil ⟨V,V,V⟩⟩]
theorem ahs(aM:eF ah)(aQ:-3<=hb/\hb<=7)(cl:1998<=cT)(bl:bU≠1940/\bU≠1892/\bU≠cT)(kE:yt az)(ae:gu aq<=200000)(cz:gk (Xt hb J bm e_ nm D h az) y):b' (bh ah) (x+1) s pN ((kI bm cT).both<|hE h bU cP aq) y [dL 9,dL 10,dL 11,dL 12] (λc2 bP bZ=>c2=.next/\gj bP "res"=W (.f<|.raw<|.ref h)/\bZ=(kI bm cT).both (hE h bU cP<|aq++ms az++bX (yw hb) 0)):=by
 have gE:=vZ aM;have aA:=iV aM;have bV:=kE.UW;have iX:bU∉(kI bm cT).W:=λe=>bS e (λe=>bl.1<|bg e) λe=>dw e (λe=>bl.2.1 e) λe=>bl.2.2<|bg e;rwa[b'.le cz];conv=>arg 7;arg 1;whnf
 rwa[b'.B8 (dF.Ug (de:=ms az) aM (AH V) iX V Z (dF.conv' Xu Xu<|dF.bits (a1:=(hQ 1944 1940).both<|hE h bU cP aq) (J:=J) (bm:=bm) (cT:=cT) (e_:=e_) (D:=D) aM (v3 V) (λe=>?_) kE.1 kE.2 kE.3 V V Z V Z V V V V V V V V V V V V) (Xs az)<|fq 211 (.t (.a .x .y) .z) [.l .x<|.n 200000,.e .z<|.n 16777216,.l .y<|.n 800000] Z ae V bV) V]
 .rw[dw e (λe=>?_) λe=>?_]
  .rw[e]at cl;rw[absurd cl bf]
  .rw[bl.2.2 (bg e).symm]
 rw[su<|⟨V,?_⟩];have cp:gu (aq++ms az)<=2^20:=U e7<|ct (.l (.a .x .y)<|.n 1048576) [.l .x<|.n 200000,.l .y<|.n 800000] Z ae bV;generalize aq++ms az=de at cp;conv=>arg 7;arg 1;whnf
 rw[b'.oa<|bd.assign ai.dv Z<|bd.nil ?_]
 dsimp only;conv=>arg 7;arg 1;whnf
 rwa[b'.qf (a:=([2,3,4,5,6]:List Int).any (·==hb)) (ei.My [(2,_,_),(3,_,_),(4,_,_),(5,_,_),(6,_,_)] al.nm (by show 5<=cy;decide) V)];unfold yw;cases l:([2,3,4,5,6]:List Int).any (·==hb)with|true=>rw[xp ?_];intro AU;rw[b'.oa<|bd.assign ai.dv Z<|bd.nil<|b'.nil<|Xv (o:=7) aM (.inr V) iX cp<|g9 V]|false=>rw[xp ?_];intro AU;rw[b'.qf (ei.cast (ei.My ([(14,_,_),(15,_,_),(16,_,_),(17,_,_),(18,_,_),(19,_,_),(20,_,_),(28,_,_),(29,_,_),(30,_,_),(31,_,_),(32,_,_),(33,_,_),(34,_,_)]) al.nm (by show 14<=cy;decide) V)<|Xr aQ.2 _ V)<|b'.qf (a:=be) (ei.cast (ei.My ([(21,_,_),(22,_,_),(23,_,_),(24,_,_),(25,_,_),(26,_,_),(27,_,_)]) al.nm (by show 7<=cy;decide) V)<|Xr aQ.2 _ V)<|b'.nil<|b'.nil<|b'.nil<|Xv aM (.inl V) iX cp<|g9 V]
noncomputable def Xw(v:Int)(n:Nat):Int:=(v.fdiv<|2^(7-n)).fmod 2
def r8(v:Int):List Int:=(cZ 8).map<|Xw v
theorem aht(dQ:List Int):gu (dQ.flatMap r8)=8*gu dQ:=by induction dQ with|nil=>rfl|cons v dQ aW=>rw[nO,e7,aW,gt];simp[r8];rw[bM (.e (.a (.n 8)<|.m 8 .x)<|.m 8<|.o .x) [] Z]
theorem Xx(E:List a9)(J:a9->List Int):(E.map λh=>(J h).map bj.int).flatten=(E.flatMap J).map bj.int:=by induction E with|nil=>rfl|cons h E aW=>rw[U hU<|U kr<|U aW<|U nO<|U jg V]
theorem ahu(o:qL g){a0:List<|List Int}{bD br b6 le z:Nat}{e0:List Int}(bl:gu a0<=10/\∀a∈a0,gu a<=200/\∀v∈a,0<=v/\v<256){b1:jU->b_->Prop}(c:bd g (x+2) (fH<|dq aU 25) a1 [("bits",.f<|bu<|a0.flatMap λa=>a.flatMap r8),("data",.f<|.lst<|a0.map bu),("checks",.f<|.int bD),("blocks",.f<|.int br),("total",.f<|.int b6),("level",.f<|.int le),("version",.f<|.int z),("numbers",.f<|bu e0)] b0 b1):bd g (x+2) (fH<|dq aU 25) a1 [("data",.f<|.lst<|a0.map bu),("checks",.f<|.int bD),("blocks",.f<|.int br),("total",.f<|.int b6),("level",.f<|.int le),("version",.f<|.int z),("numbers",.f<|bu e0)] ((kn.take 7).drop 6++b0) b1:=by
 rw[py ?_];intro qO;have G:cy=2^24:=V;conv=>arg 6;whnf
 rwa[bd.comp (bv:=a0.map bu) (dU:=a0.map λa=>(a.flatMap r8).map .int) o.ok ?_ Z (by rfl) V]
 .rw[⟨⟨by cbv,V,eQ _,λcd e=>(by rwa[bL (md e)];rfl),λu u=>V,AllP.map λa l=>⟨al.t1,al.fr,?_⟩,?_⟩,fj.list (jR.of al.nm)<|.inl<|kR _ _ V⟩]
  .obtain⟨Xy,ahv⟩:=bl.2 a l;rw[bL (aez a r8)<|jS.next (t:=_) (bv:=a.map .int) V V (eQ _) (λcd e=>(by rwa[bL (md e)];rfl)) (λu u=>V) V (fj.list (jR.of al.nm)<|.inl<|kR _ _ V)<|AllP.map λv bV=>⟨al.t1,al.fr,?_⟩];rw[((by rw[U (o2 ..)<|(U ho ?_)];rfl:(r8 v).map bj.int=((cZ 8).map λn=>[bj.int<|Xw v n]).flatten).symm)▸jS.next (t:=_) V V (eQ _) (λcd e=>(dN e)) (λu u=>V) V (al.q_ o.toqm (S:=8) ai.dv bf) ?_];rw[AllP.gn λn aO=>⟨al.t1,al.fr,(jS.one V V<|ai.mod (ai.div al.nm (cI.cast (a:=2^(7-n)) (ai.pow ai.dv (ai.sub ai.dv al.nm) (by rw[bM (.cN (.n 0)<|.s (.n 7)<|.a (.n 0)<|.r (.c .x) 1) [.t .x<|.n 8] Z aO]) (by rw[bM (.cN (.s (.n 7)<|.a (.n 0)<|.r (.c .x) 1)<|.n 1000000) [] Z]) bf) (by congr 1;rwa[U (tv ..)<|U (yU ..)];rw[Fb 7 n])) ?_ ?_) ai.dv bf)⟩]
   .rw[I'<|Ja bf]
   .rw[vJ ?_];have af:((2:Int)^(7-n)).natAbs=2^(7-n):=by rwa[U (PS ..)];rfl
    rw[mA (af▸Fj bf (jF 7 n)) bf]
  .rw[U (Xx ..)<|U (dg ..)<|a5 (Ie (o:=1600) λa l=>?_)<|fE 271 (.l (.r .x 1600) .y) [.l .x<|.n 10,.e .y<|.n 16777216] Z bl.1 G];obtain⟨Xy,ahv⟩:=bl.2 a l;rw[U (aht ..)<|ni 41 (.l (.m 8 .x)<|.n 1600) [.l .x<|.n 200] Z Xy]
 .rw[U (Xx ..)<|bd.le (g9 V) c]
noncomputable def wj(a6:List Int):Int:=a6.foldl (λv a=>2*v+a) 0
def ly(aN:List Int)(b6:Nat):List Int:=(cZ b6).map λQ=>wj<|(aN.drop<|8*Q).take 8
theorem ahw(o:qL g){a0:List<|List Int}{bD br b6:Nat}{e0 aN:List Int}(bC:b6<=200)(bk:gu aN=8*b6+7)(jj:aN.drop (8*b6)=bX 7 0){b1:jU->b_->Prop}(c:bd g (x+2) (fH<|dq aU 25) a1 (("sent",.f<|bu<|ly aN b6)::th a0 bD br b6 e0) b0 b1):bd g (x+2) (fH<|dq aU 25) a1 (("message",.f<|bu aN)::th a0 bD br b6 e0) ((kn.take 11).drop 8++b0) b1:=by
 rw[py ?_];intro qO;have G:cy=2^24:=V;rw[bd.unit (lS:=(("sent",.o<|bu<|ly aN b6)::th a0 bD br b6 e0)) V (px ?_) c];intro qI;conv=>arg 6;whnf
 have qs:(8:Int)*b6=((8*b6:Nat)):=V;rw[bd.qf (a:=be) (ei.or ⟨be,ei.cast (ei.ne (al.oO o.toqm al.nm<|fE 41 (.t .x<|.n 4611686018427387904) [.l .y<|.n 200,.e .x<|.a (.m 8 .y)<|.n 7] Z bC bk) (ai.add (ai.mul ai.dv al.nm<|xv bf) ai.dv) λu=>V) (by rwa[U bk];simp),(λe=>nomatch e),λu=>⟨be,ei.cast (ei.O1 (aq:=aN.drop<|8*b6) (ai.yc al.nm (cI.cast (ai.mul ai.dv al.nm<|xv bf) qs)<|fq 2141 (.l .x .y) [.l .z<|.n 200,.e .x<|.a (.m 8 .z)<|.n 7,.e .y<|.n 16777216] Z bC bk G) (ai.vI (ai.list (aJ:=[.int 0]) (fC.g8 ai.dv fC.nl) bf) ai.dv bf bf) λu=>V) (by rwa[U jj];rfl),(λe=>nomatch e),λu=>V⟩⟩)<|bd.nil ?_];rwa[bd.yu (ai.list (aJ:=[]) trivial<|eQ _) Z<|bd.nu (bv:=(ij 0 8<|(8*b6+7)/8).map .int) (λj y=>gk (("sent",.o<|bu<|(ly aN b6).take j)::("message",.f<|bu aN)::th a0 bD br b6 e0) y) (λu u=>V) ?_ ?_ ?_]
 .rw[al.ZY o.toqm ai.dv (cI.cast (ai.mul ai.dv al.nm<|xv bf) qs) ai.dv (ni 41 (.t (.m 8 .x)<|.n 1099511627776) [.l .x<|.n 200] Z bC) (ak:=⟨V,V,V⟩)]
 .intro j f bP R d9;obtain⟨T,rfl⟩:=Gn R;have T:j<b6:=fq 44 (.t .x .y) [.t .x .z,.l (.m 8 .z)<|.a (.m 8 .y)<|.n 7] Z T<|p2 _ 8;rw[⟨al.t1,bd.le (bP:=(("start",.f<|.int<|0+j*8)::("sent",.o<|bu<|(ly aN b6).take j)::("message",.f<|bu aN)::th a0 bD br b6 e0)) ⟨V,d9⟩<|bd.assign ai.dv Z<|px ?_⟩];intro qI;have qs:(0+(j:Int)*8)=((8*j:Nat)):=bM (.e0 (.a (.n 0)<|.r (.c .x) 8)<|.c<|.m 8 .x) [] Z;have ahx:(0+(j:Int)*8+8)=((8*j+8:Nat)):=bM (.e0 (.a (.a (.n 0)<|.r (.c .x) 8)<|.n 8)<|.c<|.a (.m 8 .x)<|.n 8) [] Z;rwa[bd.nu (bv:=((aN.drop<|8*j).take 8).map .int) (λQ y=>gk (("word",.f<|.int<|wj<|((aN.drop<|8*j).take 8).take Q)::("sent",.o<|bu<|(ly aN b6).take j)::("message",.f<|bu aN)::th a0 bD br b6 e0) y) (λu u=>V) (fj.list (jR.of (ai.cast (ai.YE (S:=8*j+8) al.nm (cI.cast al.nm qs) (cI.cast (ai.add al.nm ai.dv) ahx)<|fq 2141 (.l .x .y) [.l .z<|.n 200,.e .x<|.a (.m 8 .z)<|.n 7,.e .y<|.n 16777216] Z bC bk G)<|U (by rw[nj 1011 101 (.e .x<|.n 8) [.l (.a (.m 8 .y)<|.n 8)<|.a .x<|.m 8 .y,.e (.a .x<|.m 8 .y)<|.a (.m 8 .y)<|.n 8] Z (ef _ _) (dM<|bM (.l (.m 8 .x)<|.a (.m 8 .x)<|.n 8) [] Z)]:8*j+8-8*j=8) V) bf)<|.inl<|kR _ _ V) ?_ ?_]
  .intro Q f mW R kG;obtain⟨cu,rfl⟩:=TB R;rw[⟨al.t1,bd.le (bP:=("bit",.f<|.int<|((aN.drop<|8*j).take 8).getD Q 0)::(("word",.f<|.int<|wj<|((aN.drop<|8*j).take 8).take Q)::("sent",.o<|bu<|(ly aN b6).take j)::("message",.f<|bu aN)::th a0 bD br b6 e0)) ⟨V,kG⟩<|bd.assign (ai.add (ai.mul ai.dv al.nm<|xv bf) al.nm) Z<|bd.nil ⟨(?_:W (Slot.f<|bj.int _)=W (Slot.f<|bj.int _)),V,V,V,V,V,V,V,trivial⟩⟩];rw[U (wj.eq_1 ..)<|U (wj.eq_1 ..)<|U (aba _ _ _<|abb cu) V]
  .rw[(g9 V)]
  .intro mW kG;rw[dg,wA]at kG;rwa[bd.le kG];have gc:j<gu (ly aN b6):=by simpa[ly]using T
   rw[bd.append V Z al.nm (by simp;rw[lJ 211 (.l .x .y) [.l .z<|.n 200,.e .y<|.n 16777216,.t .w .z,.l .x .w] Z bC G T<|pf _ _])<|bd.nil ⟨?_,V,V,V,V,V,V,trivial⟩];have i:(ly aN b6).take (j+1)=(ly aN b6).take j++[wj<|(aN.drop<|8*j).take 8]:=by rwa[U (u4 (i:=j))<|U (eT gc)];simp[ly]
   rw[(?_:W (Slot.o<|bj.lst _)=W (Slot.o<|bu _))];rw[U i<|U (bu.eq_1 ..)<|U jg ?_];rfl
 .rw[(g9 V)]
 .intro bP d9;rw[dg,sP,show(ly aN b6).take ((8*b6+7)/8)=ly aN b6 from q2 (by simp[ly];rw[fE 4 (.l .x .y) [.t (.a (.m 8 .x)<|.n 7)<|.a (.m 8 .y)<|.n 8] Z<|rh _ 7])]at d9;rw[bd.le d9<|bd.nil ⟨V,g9 V⟩]
noncomputable def ff(f:Nat×Nat):List Int:=[(f.1:Int),(f.2:Int)]
def lz(k:List<|Nat×Nat):bj:=.lst<|k.map λf=>jc<|ff f
noncomputable def iD(c6:List Nat):List (Nat×Nat):=c6.zipIdx.flatMap λe=>(cZ e.1).map λn=>(n,e.2)
noncomputable def m9(c6:List Nat)(bD:Nat):List (Nat×Nat):=(cZ bD).flatMap λn=>c6.zipIdx.map λe=>(e.1+n,e.2)
inductive If(c6:List Nat)(dQ:List<|Nat×Nat):Prop|mk(lt:Nat->Nat->Bool)(bs:List Nat)(af:gu (iD c6)<=2^20)(am:2<=gu (iD c6))(a':gu bs<=2^20)(cJ:∀j Q,v_ (ff<|(iD c6).getD j<|(iD c6).headD (0,0)) (ff<|(iD c6).getD Q<|(iD c6).headD (0,0))=lt j Q)(ez:x6 lt (gu (iD c6)) (cZ (gu (iD c6)))=W bs)(gD:(bs.map λj=>(iD c6).getD j<|(iD c6).headD (0,0))=dQ):If c6 dQ
theorem ahy(cw:List<|Nat×Nat)(c:0<gu cw)(j:Nat):(cw.map ff).getD j ((cw.map ff).headD [])=ff (cw.getD j<|cw.headD (0,0)):=by cases cw with|nil=>cases c|cons D cw=>rw[U (dG)<|U (dG)<|U (eX) ?_];cases(D::cw)[j]?<;>rfl
theorem OX(a0:List<|List Int):fj.enumItems (a0.map bu)=a0.zipIdx.map λn=>bj.tup [.int n.2,bu n.1]:=by unfold fj.enumItems;rwa[U BV<|U ho];rfl
theorem Ig(E:List a9)(J:a9->List (Nat×Nat)):(E.map λh=>(J h).map λf=>jc<|ff f).flatten=(E.flatMap J).map λf=>jc (ff f):=by induction E with|nil=>rfl|cons h E aW=>rw[U hU<|U kr<|U aW<|U nO<|U jg V]
theorem Xz(a0:List<|List Int):(a0.zipIdx.flatMap λn=>(cZ (gu n.1)).map λj=>(j,n.2))=iD (a0.map gu):=by unfold iD;rwa[U BV<|U (Ft ..)];rfl
theorem XA(a0:List<|List Int)(bD:Nat):((cZ bD).flatMap λj=>a0.zipIdx.map λn=>(gu n.1+j,n.2))=m9 (a0.map gu) bD:=by
 unfold m9;rwa[U BV]
 congr 1
 funext j;rwa[U ho];rfl
theorem ahz(o:qL g){a0:List<|List Int}{bD br b6:Nat}{e0 dW:List Int}{dQ:List<|Nat×Nat}(aA:bD<=30)(bl:gu a0<=10/\∀a∈a0,gu a<=200/\∀v∈a,0<=v/\v<256)(aL:If (a0.map gu) dQ)(ae:gu (dQ++m9 (a0.map gu) bD)<=5000){b1:jU->b_->Prop}(c:bd g (x+2) (fH<|dq aU 25) a1 (("order",.f<|lz<|dQ++m9 (a0.map gu) bD)::("sent",.f<|bu dW)::th a0 bD br b6 e0) b0 b1):bd g (x+2) (fH<|dq aU 25) a1 (("sent",.f<|bu dW)::th a0 bD br b6 e0) ((kn.take 13).drop 11++b0) b1:=by
 rw[py ?_];intro qO;have G:cy=2^24:=V;conv=>arg 6;whnf
 obtain⟨lt,bs,zV,HA,ahA,ahB,ahC,XB⟩:=aL;have OY:gu ((iD<|a0.map gu).map ff)=gu (iD<|a0.map gu):=dg ..;have bV:gu dQ=gu bs:=by rw[bL XB<|U (dg ..) V]
 have OZ:∀j,((iD<|a0.map gu).map ff).getD j (((iD<|a0.map gu).map ff).headD [])=ff ((iD<|a0.map gu).getD j<|(iD<|a0.map gu).headD (0,0)):=λj=>ahy _ (by rw[bM (.t (.n 0) .x) [.l (.n 2) .x] Z HA]) j;rwa[bd.assign (z:=lz dQ) (ai.cast (ai.sorted (S:=1) o.ok (ai.cast (ai.comp (bv:=fj.enumItems<|a0.map bu) (dU:=a0.zipIdx.map λn=>((cZ (gu n.1)).map λj=>(j,n.2)).map λf=>jc<|ff f) o.ok ?_) ?_) ?_ (OY▸HA) (OY▸zV) ahA (λj Q=>by rwa[U (OZ ..)<|U (OZ ..)];rw[ahB j Q]) (OY▸ahC) o.sorted) ?_) Z]
 .rw[U (OX ..)<|⟨⟨by cbv,V,eQ _,λcd e=>(by rwa[bL (md e)];rfl),λu u=>V,AllP.map λn aO=>⟨al.t2,al.fr,?_⟩,?_⟩,OX a0▸fj.enumerate o.ok (jR.of al.nm) o.enumerate Z V⟩]
  .have l:gu n.1<=200:=(bl.2 n.1 (by have:=y'.mp aO;rw[j3 this])).1;have i:(((cZ (gu n.1)).map λj=>(j,n.2)).map λf=>jc<|ff f)=((cZ (gu n.1)).map λj=>[jc<|ff (j,n.2)]).flatten:=by rwa[U (o2 ..)<|U ho];rfl
   rw[i▸jS.next (t:=_) V V (eQ _) (λcd e=>(dN e)) (λu u=>V) V (al.q_ o.toqm (al.oO o.toqm al.nm (by rw[bM (.t .x<|.n 4611686018427387904) [.l .x<|.n 200] Z l])) (by rw[bM (.t .x<|.n 4611686018427387904) [.l .x<|.n 200] Z l])) (AllP.gn λj T=>⟨al.t1,al.fr,(jS.one V V<|ai.tuple (fC.g8 (cI.cast al.nm (by rw[U (tv ..)<|U (yU ..) V]))<|fC.g8 al.nm fC.nl) bf)⟩)]
  .rw[U (Ig ..)<|U (Xz ..)<|U (dg ..)<|a5 zV (by decide)]
 .rw[U (Ig ..)<|U (Xz ..)<|U ho ?_];rfl
 .intro eJ aT;obtain⟨D,_,rfl⟩:=la.mp aT;rfl
 .unfold lz;rw[bL XB<|U ho<|congrArg bj.lst<|pa λj u=>congrArg jc<|OZ j]
 have ahD:(dQ.map λf=>jc<|ff f)++((m9 (a0.map gu) bD).map λf=>jc<|ff f)=(dQ++m9 (a0.map gu) bD).map λf=>jc (ff f):=jg.symm;replace ae:=e7▸ae;rw[bd.assign (z:=lz<|dQ++m9 (a0.map gu) bD) (ai.cast (ai.cat (aJ:=dQ.map λf=>jc<|ff f) al.nm (ai.cast (ai.comp (bv:=(ij 0 1 bD).map .int) (dU:=(cZ bD).map λj=>(a0.zipIdx.map λn=>(gu n.1+j,n.2)).map λf=>jc<|ff f) o.ok ?_) ?_) (by rwa[U (dg ..)<|U (dg ..)];rw[fq 21 (.l (.a .x .y) .z) [.e .z<|.n 16777216,.l (.a .x .y)<|.n 5000] Z G ae]))<|congrArg bj.lst ahD) Z<|bd.le (g9 V) c]
 .rw[⟨⟨by cbv,V,eQ _,λcd e=>(by rwa[bL (md e)];rfl),λu u=>V,AllP.gn λj T=>⟨al.t1,al.fr,?_⟩,?_⟩,al.q_ o.toqm (S:=bD) al.nm (by rw[bM (.t .x<|.n 4611686018427387904) [.l .x<|.n 30] Z aA])⟩]
  .have i:((a0.zipIdx.map λn=>(gu n.1+j,n.2)).map λf=>jc<|ff f)=(a0.zipIdx.map λn=>[jc<|ff (gu n.1+j,n.2)]).flatten:=by rwa[U (o2 ..)<|U ho];rfl
   rw[i▸jS.next (t:=_) V V (eQ _) (λcd e=>(dN e)) (λu u=>V) V (OX a0▸fj.enumerate o.ok (jR.of al.nm) o.enumerate V V) (AllP.map λn aO=>⟨al.t2,al.fr,?_⟩)];have l:gu n.1<=200:=(bl.2 n.1 (by have:=y'.mp aO;rw[j3 this])).1;rw[jS.one V V<|ai.tuple (aJ:=(ff (gu n.1+j,n.2)).map .int) (fC.g8 (cI.cast (ai.add (al.oO o.toqm al.nm (by rw[bM (.t .x<|.n 4611686018427387904) [.l .x<|.n 200] Z l])) al.nm) (by rw[ct (.e0 (.a (.c .x)<|.a (.n 0)<|.r (.c .y) 1)<|.c<|.a .x .y) [] Z]:((gu n.1)+(0+(j:Int)*1))=((gu n.1+j))))<|fC.g8 al.nm fC.nl) bf]
  .rw[U (Ig ..)<|U (XA ..)<|U (dg ..)<|fq 21 (.l .x .y) [.e .y<|.n 16777216,.l (.a .z .x)<|.n 5000] Z G ae]
 .rw[U (Ig ..)<|U (XA ..) V]
theorem bd.ajq(aI:gj y f=W (.o<|bu aq))(R:hL O f=ag)(T:cI g x O y vy j)(aQ:cI g x O y e8 aG)(aM:0<=j)(cG:om j<gu aq)(ae:gu aq<=cy)(c:bd g x O a1 ((f,.o<|bu<|aq.set (om j)<|aq.getD (om j) 0+aG)::y) b0 b1)(fA:∀iy pz uC,augStore vy iy pz uC=(do holding [uC,iy,pz]<|wp iy pz uC;release [uC,iy,pz] [];dB .next):=by intros;rfl):bd g x O a1 y (.AugAssign (.Subscript (.Name f d') vy un) .Add e8 ax::b0) b1:=vx c λs p r L ay aa b ao G I n=>by
 rwa[ds (@PySem.exec _ _)];intro dx;rw[d8 ?_];intro eg;rw[B' (n.AL I<|sD aI) λh cS aS al jq aL um=>?_];obtain⟨N,o,aw,ap⟩:=aL;have ih:cy=2^24:=V;have cp:N.size=gu aq:=by simpa using ap.length
 have cu:(aq.map bj.int)[om j]?=W (.int<|aq.getD (om j) 0):=by rw[U (eX)<|U (dG)<|U (eT cG) ?_];rfl
 obtain⟨a4,rZ,wT,rfl⟩:=ap.get cu;replace rZ:=(zb)▸rZ;rw[dH<|Y.bind<|CJ al jq (G▸R) b _ (bK.refl ..) λiy as aK MJ=>U MJ<|dR<|(eP T ao G I) as _ (n.grow aK) λpz ar a7 xl=>c1 xl λD eh=>U eh ?_];have iS:=aK.trans a7;have ahE:ar.heap.IsList h N:=⟨_,iS.all _ _ aw,V,o,V⟩;rw[dR<|dH<|dC<|PC ahE aM (vl (.b2 .x<|.n 9223372036854775808) [.t .x .y,.l .y .z,.e .z<|.n 16777216,.cN .x<|.c .x] Z cG ae ih<|mK _) rZ ?_];rw[dR<|(eP aQ ao G I) _ _ (n.grow iS) λĘ cv eL MK=>c1 MK λfp fd=>U fd<|dH<|Y.of<|JW<|wpAny_iadd_int ?_];have xL:bb [] [] b {cv with toks:=cv.toks+1}:=(iS.trans eL).trans<|bK.tok _ _ _ _;rw[dH<|U (fA ..)<|dR<|Y.of<|Lr (xL.all _ _ aw) aM (vl (.b2 .x<|.n 9223372036854775808) [.t .x .y,.l .y .z,.e .z<|.n 16777216,.cN .x<|.c .x] Z cG ae ih<|mK _) (RZ 211 (.b2 .x<|.c .x) [.t .y .z,.e .x .z,.cN .x<|.c .y] Z cG cp<|mK _) λX i7 fM dy=>?_];have sY:bb [h] [] {cv with toks:=cv.toks+1} {cv with heap:=X,toks:=cv.toks+1}:=bK.same dy;have iN:iO X r h (bu<|aq.set (om j)<|aq.getD (om j) 0+aG):=by rw[⟨_,i7,fM,?_⟩];rwa[U JJ<|U y7];rw[(En ap).set (z:=.int<|aq.getD (om j) 0+aG) ⟨_,V⟩ _]
 rw[Y.bind<|wZ<|Y.pure ⟨V,(zj r L aa (fF.ownAt aS xL sY) I<|um _ _ _ xL sY iN)⟩]
theorem ei.le(aw:gk bP y)(c:ei g x O bP i a):ei g x O y i a:=λs p r L ay aa ao G I b A n aj=>c s p r L ay aa ao G I b A (n.le λf bz e=>aw.has e) aj
noncomputable def du(k:List<|Nat×Nat)(j:Nat):Nat×Nat:=k.getD j (0,0)
def jA(k:List<|Nat×Nat)(bn br:Nat):Nat->List Int|0=>bX br 0|Q+1=>(jA k bn br Q).set (du k<|bn+Q).2<|(jA k bn br Q).getD (du k<|bn+Q).2 0+1
def iY(k:List<|Nat×Nat)(bn br:Nat):Nat->List Int|0=>bX br 0|Q+1=>if(jA k bn br Q).getD (du k<|bn+Q).2 0=0 then(iY k bn br Q).set (du k<|bn+Q).2 (du k<|bn+Q).1 else iY k bn br Q
theorem Ih:iY k bn m (Q+1)=if(jA k bn m Q).getD (du k<|bn+Q).2 0=0 then(iY k bn m Q).set (du k<|bn+Q).2 (du k<|bn+Q).1 else iY k bn m Q:=rfl
theorem XC:jA k bn m (Q+1)=(jA k bn m Q).set (du k<|bn+Q).2 ((jA k bn m Q).getD (du k<|bn+Q).2 0+1):=rfl
theorem XD(k:List<|Nat×Nat)(bn br:Nat)(Q):gu (jA k bn br Q)=br:=by induction Q with|zero=>rw[gg]|succ Q a3=>rw[U (XC)<|U u'<|U (a3) V]
theorem A8(k:List<|Nat×Nat)(bn br:Nat):∀Q,gu (iY k bn br Q)=br
 |0=>gg|Q+1=>by
  rwa[U (Ih)];split
  .rw[U u'<|U (A8 k bn br Q) V]
  .rw[A8 k bn br Q]
theorem O2(c:j<gu k):(k.map λf=>jc<|ff f)[j]?=W (jc<|ff<|du k j):=by rw[U (eX)<|U (du.eq_1 ..)<|U (dG)<|U (eT c) ?_];rfl
theorem ahF(o:qL g){a0:List<|List Int}{bD br b6 bn S:Nat}{e0 dW:List Int}{k:List<|Nat×Nat}(ak:2<=gu e0/\gu e0<=28)(iB:br<=10)(bC:b6<=200)(ahG:1<=b6)(jJ:gu k=b6)(im:∀j,j<b6->(du k j).2<br)(wk:(e0.getD 1 0).fmod b6=bn)(A5:∀Q,Q<S->bn+Q<b6/\(jA k bn br Q).getD (du k<|bn+Q).2 0<bD)(akV:bn+S<=b6)(ahH:bn+S<b6->¬(jA k bn br S).getD (du k<|bn+S).2 0<bD){b1:jU->b_->Prop}(c:bd g (x+2) (fH<|dq aU 25) a1 (("begins",.f<|bu<|iY k bn br S)::("after",.f<|.int (bn+S:Nat))::("first",.f<|.int bn)::("order",.f<|lz k)::("sent",.f<|bu dW)::wi a0 bD b6) b0 b1):bd g (x+2) (fH<|dq aU 25) a1 (("order",.f<|lz k)::("sent",.f<|bu dW)::th a0 bD br b6 e0) ((kn.take 18).drop 13++b0) b1:=by
 rw[py ?_];intro qO;have G:cy=2^24:=V;rw[bd.unit (lS:=(("begins",.o<|bu<|iY k bn br S)::("after",.f<|.int (bn+S:Nat))::("first",.f<|.int bn)::("order",.f<|lz k)::("sent",.f<|bu dW)::wi a0 bD b6)) V (px ?_) c];intro qI;conv=>arg 6;whnf
 rw[bd.assign (cI.cast (ai.mod (al.PX (aq:=e0) al.nm ai.dv (by rw[bM (.t (.n 1) .x) [.l (.n 2) .x] Z ak.1])<|fE 211 (.l .x .y) [.l .x<|.n 28,.e .y<|.n 16777216] Z ak.2 G) al.nm (by rw[bM (.m8 (.c .x)<|.n 0) [.l (.n 1) .x] Z ahG])) wk) Z<|bd.assign al.nm Z<|bd.yu (ai.cast (ai.vI (ai.list (fC.g8 ai.dv fC.nl) bf) al.nm (by rw[bM (.cN (.g<|.n 9223372036854775808)<|.c .x) [] Z]) (by rw[bM (.cN (.c .x)<|.n 16777216) [.l .x<|.n 10] Z iB])) (rfl:bu (bX (om (br:Int)) 0)=bu (iY k bn br 0))) Z<|bd.yu (ai.cast (ai.vI (C:=0) (ai.list (fC.g8 ai.dv fC.nl) bf) al.nm (by rw[bM (.cN (.g<|.n 9223372036854775808)<|.c .x) [] Z]) (by rw[bM (.cN (.c .x)<|.n 16777216) [.l .x<|.n 10] Z iB])) (rfl:bu (bX (om (br:Int)) 0)=bu (jA k bn br 0))) Z ?_];rw[bd.Zs (λm y=>∃Q,Q<=S/\m=S-Q/\gk (("losses",.o<|bu<|jA k bn br Q)::("begins",.o<|bu<|iY k bn br Q)::("after",.f<|.int (bn+Q:Nat))::("first",.f<|.int bn)::("order",.f<|lz k)::("sent",.f<|bu dW)::wi a0 bD b6) y) ?_ S ⟨0,eQ _,V,g9 V⟩];rintro m y⟨Q,cu,rfl,d9⟩;have A9:=XD k bn br Q;have ya:=A8 k bn br Q;rw[⟨decide<|Q<S,ei.le d9<|ei.and ⟨decide<|bn+Q<b6,ei.cast (ei.lt al.nm al.nm λu=>V)<|decide_eq_decide.mpr (by rw[⟨λbN=>eA (.t (.a .x .y) .z) [.b2 (.c<|.a .x .y)<|.c .z] Z bN,λbN=>eA (.b2 (.c<|.a .x .y)<|.c .z) [.t (.a .x .y) .z] Z bN⟩]),λe=>?_,λe=>⟨decide<|(jA k bn br Q).getD (du k<|bn+Q).2 0<bD,ei.lt (ai.t5 al.Ei (ai.Ic (z:=.int ((du k<|bn+Q).2:Nat)) (ai.item al.nm al.nm (gP _) (O2 (by rwa[U (hF ..)<|U jJ];rw[of_decide_eq_true e])) (by rwa[U (dg ..)];rw[fq 2111 (.l .x .y) [.l .z<|.n 200,.e .x .z,.e .y<|.n 16777216] Z bC jJ G])) ai.dv bf V bf) (gP _) (by rwa[U A9];rw[im _<|of_decide_eq_true e])<|fq 211 (.l .x .y) [.l .z<|.n 10,.e .y<|.n 16777216,.e .x .z] Z iB G A9) al.nm λu=>V,λq=>?_,λq=>?_⟩⟩,λe=>?_,λe=>?_⟩]
 .have:=of_decide_eq_false e;rw[decide_eq_false λq=>this (A5 Q q).1]
 .have:=of_decide_eq_false q;rw[decide_eq_false λq=>this (A5 Q q).2]
 .rw[decide_eq_true ?_];rcases pV Q S with C|C
  .rw[C]
  .have i:=u1 cu C;subst i;rw[absurd (of_decide_eq_true q)<|ahH<|of_decide_eq_true e]
 .rw[px ?_];intro qI;have O3:=of_decide_eq_true e;obtain⟨dm,el⟩:=A5 Q O3;have R:=im (bn+Q) dm;rwa[bd.le d9<|bd.unpack (aJ:=["place","number"]) (ai.item al.nm al.nm (gP _) (O2 (by rwa[U (hF ..)];rw[lJ 21 (.t (.a .x .y) .z) [.e .z .w,.t (.a .x .y) .w] Z jJ dm])) (by rwa[U (dg ..)];rw[fq 2111 (.l .x .y) [.l .z<|.n 200,.e .x .z,.e .y<|.n 16777216] Z bC jJ G])) V V Z];rwa[U (hF ..)];have XE:∀{y:b_}(O4:List Int),gk (("number",.f<|.int ((du k<|bn+Q).2:Nat))::("begins",.o<|bu O4)::("losses",.o<|bu<|jA k bn br Q)::("after",.f<|.int (bn+Q:Nat))::("first",.f<|.int bn)::("order",.f<|lz k)::("sent",.f<|bu dW)::wi a0 bD b6) y->O4=iY k bn br (Q+1)->bd g (x+2) (fH<|dq aU 25) a1 y (match((hv<|dq aU 25)[17]?).getD (.Pass default)with|.While _ a _ _=>a.drop 2|_=>[]) (λc2 bP=>(match c2 with|.next|.cont=>True|_=>False)/\∃m,m<S-Q/\∃Q,Q<=S/\m=S-Q/\gk (("losses",.o<|bu<|jA k bn br Q)::("begins",.o<|bu<|iY k bn br Q)::("after",.f<|.int (bn+Q:Nat))::("first",.f<|.int bn)::("order",.f<|lz k)::("sent",.f<|bu dW)::wi a0 bD b6) bP):=by
   intro y O4 aw i;rw[px ?_];intro qI;subst i;conv=>arg 6;whnf
   rw[bd.le aw<|bd.ajq V Z al.nm ai.dv (gP _) (by rwa[U A9];rw[R]) (by rw[fq 211 (.l .x .y) [.l .z<|.n 10,.e .y<|.n 16777216,.e .x .z] Z iB G A9])<|bd.Ul V Z Z ai.dv<|bd.nil ⟨trivial,S-(Q+1),by rw[oy (.t .x .y) [.l .z<|.a .y .w,.e (.a .x<|.o .w) .z] Z (ef _ _)<|dM<|ct (.l (.o .x) .y) [.t .x .y] Z O3],Q+1,O3,V,?_⟩];rw[⟨V,V,V,V,V,V,V,V,V,trivial⟩]
  rwa[bd.qf (ei.eq (ai.t5 al.Ei al.nm (gP _) (by rwa[U A9];rw[R]) (by rw[fq 211 (.l .x .y) [.l .z<|.n 10,.e .y<|.n 16777216,.e .x .z] Z iB G A9])) ai.dv λu=>V)];rwa[U (hF ..)];by_cases C:(jA k bn br Q).getD (du k<|bn+Q).2 0=0
  .rw[U (beq_iff_eq.mpr C:((jA k bn br Q).getD (du k<|bn+Q).2 0==0)=ag)<|aaV (z:= .int ((du k<|bn+Q).1:Nat)) V Z al.nm al.nm (du k<|bn+Q).2 (.inl ⟨gP _,by rwa[U (dg ..)<|U ya];rw[ct (.b2 (.c .x)<|.c .y) [.t .x .y] Z R],V⟩) (by rwa[U (dg ..)];rw[fq 211 (.l .x .y) [.l .z<|.n 10,.e .y<|.n 16777216,.e .x .z] Z iB G ya])<|bd.nil ?_];rw[XE ((iY k bn br Q).set (du k<|bn+Q).2 (du k<|bn+Q).1) ⟨V,(?_:W (Slot.o<|bj.lst _)=W (Slot.o<|bj.lst _)),V,V,V,V,V,V,V,V,trivial⟩ (by rw[U (Ih)<|U (if_pos C) V])];rw[U y7 V]
  .rw[U (beq_false_of_ne C:((jA k bn br Q).getD (du k<|bn+Q).2 0==0)=be)<|bd.nil<|XE (iY k bn br Q) ⟨V,V,V,V,V,V,V,V,V,V,trivial⟩ (by rw[U (Ih)<|U (if_neg C) V])]
 .have i:=u1 cu<|sf<|of_decide_eq_false e;subst i;rw[bd.le d9<|bd.nil ⟨V,g9 V⟩]
noncomputable def yx(bT:List aE):bj:=.lst<|bT.map λh=>.raw<|.ref h
noncomputable def wl(gE:Nat)(bT:List aE)(fo:List<|List Int):Inv where
 W:=bT
 G:=[]
 St:=λr b=>pP bT fo b.heap/\∀h∈bT,gE<=h
 frame:=λr b w cL cf c t dz u=>⟨c.1.keep λh aS k i=>t.1 h k (λe=>(dz h e).2 aS) i,c.2⟩
 mono:=λu u u c u=>c
theorem qM.set{c X:e1}{h:aE}{aq:List Int}{N:Array aF}{o:Nat}{z:Int}{D:Tok}(Q:Nat)(q:b9 c [] (aq.map bj.int) N.toList)(i:Ű X h=W {cls:=.type "list",data:=.seq (N.setIfInBounds Q<|.int z D) o}):qM X h (aq.set Q z):=by rw[⟨_,o,i,(U JJ<|U y7<|(En q).set (z:=.int z) ⟨D,V⟩ Q)⟩]
theorem b'.ajv(ahI:Hu y=ag)(aI:gj y f=W (.f<|yx bT))(R:hL O f=ag)(bq:cI g x O y i z)(bw:cI g x O y nY j)(bO:cI g x O y z6 Q)(ahJ:0<=j)(ep:om j<gu fo)(ahK:0<=Q)(XF:om Q<gu (fo.getD (om j) []))(ox:gu bT<=cy)(OW:gu (fo.getD (om j) [])<=cy)(c:b' g x s O (wl (aB g.s0) bT<|fo.set (om j)<|(fo.getD (om j) []).set (om Q) z) y b0 b1)(ak:t7 i=ag:=by rfl)(aO:oD nY=ag:=by rfl):b' g x s O (wl (aB g.s0) bT fo) y (.Assign [.Subscript (.Subscript (.Name f d') nY fn) z6 un] i ax::b0) b1:=b'.next λp r L ay aa b ao G I n T=>by
 rw[d8 ?_];intro eg;have fA:pP bT fo b.heap:=T.1.1;have gY:om j<gu bT:=fA.1▸ep;have aS:bT[om j]?=W bT[om j]:=eT gY;generalize bT[om j]=h at aS;have lO:fo[om j]?=W (fo.getD (om j) []):=by rwa[U (dG)<|U (eT ep)];rfl
 have ih:cy=2^24:=V;generalize fo.getD (om j) []=aq at*;rw[Y.eq (PK (hs:=t8 ak) ..)<|dH<|Y.bind<|(eP bq ao G I) b _ n λa4 as aK lW=>c1 lW λwT bH=>Y.eq (U (assign_Subscript ..) V) ?_];subst bH;have d9:ai g x O y (.Subscript (.Name f d') nY fn) .cH (.raw<|.ref h):=ai.item (aJ:=bT.map λh=>bj.raw<|.ref h) (ai.name aI R) bw ahJ (by rwa[U (eX)<|U aS];rfl) (by rwa[U (dg ..)];rw[ox]) aO;rw[Y.bind<|dR<|(d9 s p r L ay aa ao G I) as _ (n.grow aK) λiy ar a7 iN=>d8 ?_];intro eg;obtain rfl:iy=.ref h:=iN;rwa[ds (@pY _ _ _)];intro dx;rw[ph ?_];intro p6;rw[dR<|(eP bO ao G I) ar _ (n.grow<|aK.trans a7) λpz co b4 xl=>c1 xl λD eh=>?_];obtain rfl:=eh;rwa[dH<|ds (@pY _ _ _)];intro dx;have js:=(aK.trans a7).trans b4;obtain⟨N,o,aL,ap⟩:=fA.3 (om j) h aq aS lO;have cp:N.size=gu aq:=by simpa using ap.length
 obtain⟨wg,ym,wh,akW,akX⟩:=T.2 h<|j3 aS;rw[dR<|Y.of<|Lr (js.all _ _ aL) ahK (vl (.b2 .x<|.n 9223372036854775808) [.e .x<|.n 16777216,.t .y .z,.l .z .x,.cN .x<|.c .y] Z ih XF OW<|mK _) (RZ 211 (.b2 .x<|.c .x) [.t .y .z,.e .x .z,.cN .x<|.c .y] Z XF cp<|mK _) λX i7 fM dy=>wZ<|Y.pure ⟨V,y,wl (aB g.s0) bT<|fo.set (om j)<|aq.set (om Q) z,r,L,aa,(ds (@nd _ _ _ _ _) ?_)⟩];intro dx;have eL:bb [h] [] co {co with heap:=X}:=bK.same (ab:=co.toks) dy;have bs:bG g p r L aa y {co with heap:=X}:=(n.grow js).FA (AH ahI) (cL:=[h]) (λC ae=>bg ae▸wg) (λC ae=>bg ae▸wh) (λC ae=>bg ae▸ym) eL<|(n.grow js).2.to eL λC ae=>bg ae▸T.1.2 h (j3 aS);rw[⟨⟨λu c=>c,λu c=>.inl c,λu c=>.inl c,λu c=>.inl c,λu c=>.inl c,(js.mono aR aR).trans<|eL.mono (λa l=>bR<|bg l▸j3 aS) λu c=>c⟩,I,bs,⟨?_,λa l=>?_,aR⟩,c⟩]
 .rw[⟨⟨by rwa[U u'];rw[fA.1],fA.2,λm a de l bk=>?_⟩,T.1.2⟩];by_cases aT:m=om j
  .subst aT;replace l:=aS▸l;cases l;replace bk:=(Qq ep)▸bk;cases bk;rw[qM.set (om Q) ap fM]
  .replace bk:=(Qr<|ib aT)▸bk;rw[(fA.3 m a de l bk).keep λk i=>eL.1 a k (λe=>aT ?_)<|js.all a k i];replace l:=(bg e)▸l;rw[(Qe (j4.mp l).1 fA.2).mp<|l.trans aS.symm]
 .rw[kO (T.2 a l) λdO d5 eb e9 f_=>⟨dO,d5,eb,e9,cg f_<|a5 js.2 eL.2⟩]
theorem ahL{bT:List aE}:∀{fo:List<|List Int}{N:List aF},gu bT=gu fo->(∀(j:Nat)h aq,bT[j]?=W h->fo[j]?=W aq->qM c h aq)->(∀h∈bT,h∉r)->b9 c cL (bT.map λh=>.raw<|.ref h) N->b9 c r (fo.map bu) N:=by induction bT with
 |nil=>intro eV;cases eV with|nil=>intro eM hq n0 D0 q;rw[q]|cons _ _=>intro eM aw n0 D0 Vo;rw[nomatch aw]
 |cons h bT a3=>intro eV;cases eV with
  |nil=>intro eM aw n0 D0 Vo;rw[nomatch aw]|cons aq fo=>intro N aw c cC q;rw[d7 q λa4 aV i dY eN=>by rw[ie a4 aV i ?_<|a3 (q6 aw) (λj a de l bk=>c (j+1) a de l bk) (λa l=>cC a<|mt l) eN];obtain rfl:a4=.ref h:=dY;rw[((c 0 h aq V V).obj).rep<|cC h bB]]
theorem ahM(bT:List aE):b9 c r (bT.map λh=>.raw<|.ref h) (bT.map fv):=by induction bT with|nil=>rw[V]|cons h bT a3=>rw[(ie (.ref h) (bT.map fv) V V<|a3)]
theorem bG.swap(n:bG g p r L aa y b)(aI:fm y f<|.f ajD)(c:∀a4,ck b.heap r ajD a4->ck b.heap r z a4):bG g p r L aa ((f,.f z)::y) b:=by
 rw[jh n.3 λcS al af am a'=>⟨n.1,n.2,cS,al,λB bz a8=>?_,λB aG a8=>?_,λB aG a8=>?_⟩]
 .rcases iQ a8 with⟨rfl,rfl⟩|⟨_,e⟩
  .obtain⟨a4,aQ,q⟩:=af B _ aI;rw[⟨a4,aQ,c a4 q⟩]
  .rw[af B bz e]
 .rcases iQ a8 with⟨_,i⟩|⟨_,e⟩
  .rw[nomatch i]
  .obtain⟨h,aS,i,bl⟩:=am B aG e;rw[⟨h,aS,i,λC v ae bV=>?_⟩];rcases iQ bV with⟨_,i⟩|⟨_,df⟩
   .rw[nomatch i]
   .rw[bl C v ae df]
 .rcases iQ a8 with⟨_,i⟩|⟨_,e⟩
  .rw[nomatch i]
  .rw[a' B aG e]
theorem bd.rings{B:Str}{sN ax un:Pos}{dT:bJ}{t:lC}{a2:dA}{bv:List bj}{Ii:fa}{lS:List aE->b_}{fo:List<|List Int}(aq:List Int)(aA:g.Ok)(Eo:n3 a2 O=ag)(H6:t.ifs=[])(qq:t.is_async=0)(bi:∀(p:Env)f,sb t.iter p f=dB f)(hk:∀(j:Nat)f,bv[j]?=W f->mT ag (ey a2 O) t.target f/\sI t.target f (gK (ey a2 O) y)/\ai g x (ey a2 O) (k0 t.target f<|gK (ey a2 O) y) dT .fr (bu aq))(ae:gu bv<=cy)(f9:fj g x O y be t.target t.iter bv)(a8:(O.names.lookup B==W .local)=ag)(aw:(sN.line==ax.line)=ag)(vz:(a2.names.any λf=>f.1==B&&(f.2==.local||f.2==.cell))=be)(ahN:∀s bT,gu bT=gu bv->b' g x s O (wl (aB g.s0) bT<|bX (gu bv) aq) ((B,.f<|yx bT)::y) [Ii] λc2 bP bZ=>c2=.next/\bZ=wl (aB g.s0) bT fo/\gk ((B,.f<|yx bT)::lS bT) bP)(c:∀bT,bd g x O a1 ((B,.f<|.lst<|fo.map bu)::lS bT) b0 b1):bd g x O a1 y (.Assign [.Name B sN] (.ListComp dT [t] a2 ax) un::Ii::b0) b1:=λs p r L ay aa b ao G I n=>by
 rw[d8 ?_];intro eg;subst G;have CK:=eq_of_beq a8;rw[zz<|(PL (hs:=Tj I.1 CK aw vz)).symm▸dH (Y.bind<|d8 ?_)];intro eg;have g7:=n.now;have en:=I.up (c':=(aB b)) n.1;have aM:(aB g.s0)<=(aB b):=n.2.1.2;rw[Y.bind<|ag8 aq aA Eo H6 qq (bi p) hk ae f9 ao en g7 (A:=λu w=>Y g.prog g.w s (dB ()) _ w) λaP av bT w bk gz eI c7 rC zS r9 XG i9=>Y.eq (EZ ..)<|dH<|c1 bk λS bk=>?_];have CL:aP∉cc p:=λe=>b2 (en.8 aP (en.4 aP e).1) eI;have gY:gu bT=gu bv:=by rw[U XG.1<|U gg V]
 have bV:∀a∈aP::bT,(aB b)<=a/\a<(aB w):=λa l=>dw l (λi=>i▸⟨eI,zS⟩) λe=>⟨(r9 a e).1,(r9 a e).2.2.2⟩;have eo:=en.l3 bV aM gz.2;have bs:=g7.l3 gz λa l=>(bV a l).1;have ap:ck w.heap ((aP::bT)++r) (yx bT) (.ref av):=by rw[g4 λu bW=>bt i9 λN dt aQ=>c1 dt λo i=>bW<|p0 av N o V (λe=>bS e (λe=>dw e (λi=>rC i.symm) λe=>(r9 av e).2.2.1 V) λe=>b2 (en.8 av e) c7) i<|aQ.symm▸ahM bT]
 have Ls:ln p.scope B=ag:=by unfold ln;rw[U CK V]
 rw[sF (a:=be) eo bs ap Ls λd_ vA Ge=>?_];have CM:d_.heap.Ns aP S:=bk.at' λk i=>vA.1 _ k CL i;rw[(dj S CM λX dy=>Y.pure<|Y.pure ⟨V,?_⟩)]--qc loop
 rw[FS ?_];intro La;have d0:bb [aP] [] d_ {d_ with heap:=X}:=bK.same (ab:=d_.toks) dy;have Ij:∀a∈bT,a∉r:=λa l e=>b2 (en.8 a e) (r9 a l).1;have XH:∀a∈bT,a∉cc p:=λa l e=>Ij a l (en.4 a e).1;have i8:bG g p (bT++r) L (aB d_) ((B,.f<|yx bT)::y) {d_ with heap:=X}:=by rw[(Ge.yv (cL:=[aP]) (λC ae=>b7<|bg ae▸bB) (λC ae=>bg ae▸CL) (λC ae=>bg ae▸a5 aM eI) aR (λa k l i=>g4 λu bW=>jH CM λdh az zy cP bl u=>?_) d0).D_ (λa l=>bS l (λe=>b7<|mt e) bR)<|l_ dy.1.symm];rw[bg l,cP]at i;cases i;rw[bW<|SZ bl]
 have vM:(aB w)<=(aB d_):=vA.2;have k5:cx g p (bT++r) L ay (aB d_):=en.l3 (λa l=>⟨(r9 a l).1,cg (r9 a l).2.2.2 vM⟩) aM<|a5 gz.2 vM;have ahO:pP bT (bX (gu bv) aq) X:=XG.keep λh aS k i=>d0.1 h k (λe=>(r9 h aS).2.1<|bg e)<|vA.1 h k (XH h aS) i;have nD:(wl (aB g.s0) bT<|bX (gu bv) aq).At g p (bT++r) L {d_ with heap:=X}:=⟨⟨ahO,λh aS=>a5 aM (r9 h aS).1⟩,λa l=>⟨b7 l,λe=>Ij a l (en.5 a e).1,XH a l,.inr<|a5 aM (r9 a l).1,cg (r9 a l).2.2.2<|a5 vM d0.2⟩,aR⟩;have b4:bb (cc p) [] b {d_ with heap:=X}:=((gz.mono aR λu c=>c).trans vA).hj d0 (λa l=>.inr<|bg l▸fY eI) aR;rw[Y.eq (show d3 (Ii::b0) p=d3 ([Ii]++b0) p from V)<|Eb<|Y.mono (ahN s bT gY p (bT++r) L ay _ _ ao V k5 i8 nD)<|ds (@wl _ _ _) ?_];intro dx;rwa[ds (@pY _ _ _)];intro dx;rintro J cv e;rw[e.gp λc2 bP bx cQ c' bZ aO l dJ bq T=>?_];obtain⟨rfl,rfl,rk⟩:=aO;obtain⟨rfl,eo,bs⟩:=bq;rw[⟨V,?_⟩];have HX:∀a∈bx,a∈bT++r\/(aB b)<=a:=λa l=>(dJ.2 a l).imp id λe=>a5 b4.2 e;have ahP:cx g p (bx.filter λh=>!bT.contains h) cQ ay c':=eo.UP bT (λC ae=>(T.2 C ae).2.2.1) (λC ae=>(T.2 C ae).2.1) λC ae e=>Ij C ae<|I.6 C e;have oz:∀a∈bx.filter λh=>!bT.contains h,a∈bx:=λa l=>(pX.mp l).1;have qA:bG g p (bx.filter λh=>!bT.contains h) cQ c' ((B,.f<|.lst<|fo.map bu)::lS bT) cv:=by
  have iT:=(bs.D_ oz bs.1).le λf bz e=>rk.has e;rw[(iT.swap (z:=.lst<|fo.map bu) .here λa4 q=>?_).le λf bz e=>?_]
  .obtain⟨h,N,o,i,aS,aI,ap⟩:=q;rw[p0 h N o i aS aI<|ahL T.1.1.1 T.1.1.3 (λh aS e=>by have:=(pX.mp e).2;simp at this;rw[this aS]) ap]
  .rcases iQ e with⟨rfl,rfl⟩|⟨c_,e⟩
   .rw[.here]
   .have G0:(B==f)=be:=by simpa using λi=>c_ i.symm
    rw[.there G0<|.there G0 e]
 rw[Y.mono (c bT s p _ cQ ay c' cv ao V ahP qA) λJ uM X=>X.trans ⟨λa l=>pX.mpr ⟨dJ.1 a<|bR l,?_⟩,λa l=>?_,λa l=>(dJ.3 a l).imp id λe=>a5 b4.2 e,?_⟩]
 .have:a∉bT:=λe=>Ij a e l;simpa using this
 .obtain⟨dm,el⟩:=pX.mp l;rw[(dJ.2 a dm).elim (λe=>bS e (λe=>absurd e (by simpa using el)) .inl) λe=>.inr<|a5 b4.2 e]
 .rw[(b4.mono (λa l=>b7<|bR l) λu c=>c).hj dJ.6 (λa l=>bS l (λe=>.inl<|b7 e) λe=>.inr<|fY (r9 a e).1) aR]
def iq(k:List<|Nat×Nat)(dW:List Int)(bn gs br:Nat):Nat->List (List Int)|0=>bX br<|bX 255 0|j+1=>if j<bn\/j>=gs then(iq k dW bn gs br j).set (du k j).2 (((iq k dW bn gs br j).getD (du k j).2 []).set (du k j).1<|dW.getD j 0)else iq k dW bn gs br j
theorem Ep:iq k dW bn gs m (j+1)=if j<bn\/j>=gs then(iq k dW bn gs m j).set (du k j).2 (((iq k dW bn gs m j).getD (du k j).2 []).set (du k j).1<|dW.getD j 0)else iq k dW bn gs m j:=rfl
theorem XI{M:List Int->Prop}{E:List<|List Int}(c:∀f∈E,M f){o:Nat}{B:List Int}(a8:M B):∀f∈E.set o B,M f:=λf R=>by
 rcases Fq R with e|e
 .rw[c f e]
 .rw[e▸a8]
theorem A_(k:List<|Nat×Nat)(dW:List Int)(bn gs br:Nat)(j):gu (iq k dW bn gs br j)=br/\((∀Q,Q<j->(du k Q).2<br)->∀q∈iq k dW bn gs br j,gu q=255):=by induction j with
 |zero=>rw[⟨gg,λu q ap=>by rwa[U (tC ap)];rw[gg]⟩]|succ j a3=>
  obtain⟨af,am⟩:=a3;rwa[U (Ep)];split
  .rw[⟨by rw[U u'<|U af V],λaL=>?_⟩];have am:=am λQ cu=>aL Q<|k' cu;rw[XI am<|U u'<|am _ ?_];have:=aL j<|kN j;rwa[U (dG)<|U (eT (by rw[fq 21 (.t .x .y) [.e .y .z,.t .x .z] Z af this]))];rw[nb _]
  .rw[⟨af,λaL=>am λQ cu=>aL Q<|k' cu⟩]
theorem ahQ(o:qL g){a0:List<|List Int}{bD b6 bn gs:Nat}{dW pQ:List Int}{k:List<|Nat×Nat}(iB:gu a0<=10)(bC:b6<=200)(jJ:gu k=b6)(ih:gu dW=b6)(im:∀j,j<b6->(du k j).2<gu a0/\(du k j).1<255){b1:jU->b_->Prop}(c:bd g (x+2) (fH<|dq aU 25) a1 (("rings",.f<|.lst<|(iq k dW bn gs (gu a0) b6).map bu)::("begins",.f<|bu pQ)::("order",.f<|lz k)::("sent",.f<|bu dW)::yq a0 bD) b0 b1):bd g (x+2) (fH<|dq aU 25) a1 (("begins",.f<|bu pQ)::("after",.f<|.int gs)::("first",.f<|.int bn)::("order",.f<|lz k)::("sent",.f<|bu dW)::wi a0 bD b6) ((kn.take 20).drop 18++b0) b1:=by
 rw[py ?_];intro qO;have G:cy=2^24:=V;conv=>arg 6;whnf
 have oV:gu (a0.map bu)=gu a0:=dg ..;rw[bd.rings (fo:=iq k dW bn gs (gu a0) b6) (lS:=λu=>(("begins",.f<|bu pQ)::("order",.f<|lz k)::("sent",.f<|bu dW)::yq a0 bD)) (bX 255 0) o.ok Z V V (λu u=>V) (λj f R=>⟨al.t1,al.fr,ai.cast (ai.vI (ai.list (fC.g8 ai.dv fC.nl) bf) ai.dv bf bf) V⟩) (by rwa[U oV];rw[fE 211 (.l .x .y) [.l .x<|.n 10,.e .y<|.n 16777216] Z iB G]) (fj.list (jR.of al.nm)<|.inl<|kR _ _ V) V (by rfl) V (λs bT gY=>?_) λbT=>c];rw[xp ?_];intro AU;rwa[b'.nu (λj y an=>an=wl (aB g.s0) bT (iq k dW bn gs (gu a0) j)/\gk (("rings",.f<|yx bT)::("begins",.f<|bu pQ)::("after",.f<|.int gs)::("first",.f<|.int bn)::("order",.f<|lz k)::("sent",.f<|bu dW)::wi a0 bD b6) y) (λu u=>V) (mX.q_ o.ok al.nm o.range Z V (by rw[bM (.t .x<|.n 4611686018427387904) [.l .x<|.n 200] Z bC])) ?_ ⟨by rwa[U oV];rfl,g9 V⟩]
 .rw[ds (@pY _ _ _) ?_];intro dx;rintro j f bP bZ R⟨rfl,d9⟩;obtain⟨T,f4⟩:=Gn R;obtain rfl:f=.int j:=f4.trans<|congrArg bj.int (by rwa[U (tv ..)];rw[yU _]);obtain⟨fg,fD⟩:=im j T;obtain⟨dY,eN⟩:=A_ k dW bn gs (gu a0) j;have qi:gu ((iq k dW bn gs (gu a0) j).getD (du k j).2 [])=255:=by rw[eN (λQ cu=>(im Q (by rw[eA (.t .x .y) [.t .z .y,.t .x .z] Z T cu])).1) _<|U (dG)<|U (eT (by rw[fq 211 (.t .x .y) [.t .x .z,.e .y .z] Z fg dY])) ?_];rw[nb _]
  rw[⟨al.t1,b'.le (bP:=(("index",.f<|.int j)::("rings",.f<|yx bT)::("begins",.f<|bu pQ)::("after",.f<|.int gs)::("first",.f<|.int bn)::("order",.f<|lz k)::("sent",.f<|bu dW)::wi a0 bD b6)) ⟨V,d9⟩<|b'.oa<|bd.unpack (aJ:=["place","number"]) (ai.item al.nm al.nm (gP _) (O2 (by rwa[U (hF ..)];rw[fq 21 (.t .x .y) [.e .y .z,.t .x .z] Z jJ T])) (by rwa[U (dg ..)];rw[fq 2111 (.l .x .y) [.l .z<|.n 200,.e .x .z,.e .y<|.n 16777216] Z bC jJ G])) V V Z<|bd.nil ?_⟩];rw[U (hF ..)<|b'.qf (a:=decide<|j<bn\/j>=gs) (ei.or ⟨decide<|j<bn,ei.cast (ei.lt al.nm al.nm λu=>V)<|decide_eq_decide.mpr (by rw[⟨λbN=>ct (.t .x .y) [.b2 (.c .x)<|.c .y] Z bN,λbN=>ct (.b2 (.c .x)<|.c .y) [.t .x .y] Z bN⟩]),λe=>decide_eq_true<|.inl<|of_decide_eq_true e,λe=>⟨decide<|j>=gs,ei.cast (ei.ge al.nm al.nm λu=>V)<|decide_eq_decide.mpr (by rw[⟨λbN=>ct (.l .x .y) [.cN (.c .x)<|.c .y] Z bN,λbN=>ct (.cN (.c .x)<|.c .y) [.l .x .y] Z bN⟩]),λe=>decide_eq_true<|.inr<|of_decide_eq_true e,λdf=>decide_eq_false λq=>q.elim (of_decide_eq_false e)<|of_decide_eq_false df⟩⟩)<|xp ?_];intro AU;by_cases C:j<bn\/j>=gs
  .rw[U (decide_eq_true C)<|b'.ajv (z:=dW.getD j 0) (j:=((du k j).2)) V V Z (ai.t5 al.nm al.nm (gP _) (by rwa[U (hF ..)];rw[fq 21 (.t .x .y) [.e .y .z,.t .x .z] Z ih T]) (by rw[fq 2111 (.l .x .y) [.l .z<|.n 200,.e .x .z,.e .y<|.n 16777216] Z bC ih G])) al.nm al.nm (gP _) (by rwa[U (hF ..)];rw[fq 211 (.t .x .y) [.t .x .z,.e .y .z] Z fg dY]) (gP _) (by rw[U (hF ..)<|U (hF ..)<|U qi ?_];rw[fD]) (by rw[lJ 211 (.l .x .y) [.l .z<|.n 10,.e .y<|.n 16777216,.e .w .z,.e .x .w] Z iB G oV gY]) (by rwa[U (hF ..)<|U qi];rw[ni 21 (.l (.n 255) .x) [.e .x<|.n 16777216] Z G])<|b'.nil<|b'.nil ⟨?_,?_⟩]
   .rw[U (Ep)<|U (if_pos C)<|U (hF ..)<|U (hF ..) V]
   .rw[⟨V,V,V,V,V,V,V,V,V,trivial⟩]
  .rw[U (decide_eq_false C)<|b'.nil<|b'.nil ⟨by rw[U (Ep)<|U (if_neg C) V],⟨V,V,V,V,V,V,V,V,V,trivial⟩⟩]
 .rintro bP bZ⟨rfl,d9⟩;rw[U (dg ..)<|U (sP ..)<|b'.le d9<|b'.nil ⟨V,V,g9 V⟩]
section
variable{g:ea}{x:Nat}{O:dA}{y:b_}{r a_:List aE}{b:au}{s:cq}
theorem ahR{c:e1}{aq:List Int}{N ex:Array aF}(gb:b9 c r (aq.map .int) N.toList)(x7:b9 c a_ (aq.map .int) ex.toList):∀Q(af:Q<N.size)(am:Q<ex.size),J9 s b N[Q] ex[Q] ag:=λQ af am=>by
 have f7:N.size=gu aq:=by simpa using gb.length
 have cu:(aq.map bj.int)[Q]?=W (.int<|aq.getD Q 0):=by rw[U (eX)<|U (dG)<|U (eT (by rw[eA (.t .x .y) [.t .x .z,.e .z .y] Z af f7])) ?_];rfl
 obtain⟨e2,bH,t1,dm⟩:=gb.get cu;obtain⟨fG,cm,t2,el⟩:=x7.get cu;rw[zb,pb af]at bH;rw[zb,pb am]at cm;rw[U (ek bH)<|U (ek cm)<|U dm<|U el ?_];have:=Rh (A:=s) (s:=b) (aq.getD Q 0) t1 (aq.getD Q 0) t2;rwa[beq_self_eq_true]at this
theorem O5(o:Nat):((cZ o).all λu=>ag)=ag:=by simp
theorem ahS{aq:List Int}{e2 fG:aF}(dX:s.units<cLine)(bw:IsL r (aq.map .int) b e2)(bO:IsL a_ (aq.map .int) b fG):J9 s b e2 fG ag:=by
 obtain⟨h,N,o,rfl,aI,ap⟩:=bw;obtain⟨a,ex,S,rfl,fM,gH⟩:=bO;by_cases i:h=a
 .subst i;rw[SeqAt.EqAt.same _]
 .rw[SeqAt.EqAt.of_refs i ?_];have f7:N.size=gu aq:=by simpa using ap.length
  have h0:ex.size=gu aq:=by simpa using gH.length
  have:=SeqAt.RcAt.lists ⟨_,aI,V,o,V⟩ ⟨_,fM,V,S,V⟩ (f7.trans h0.symm) dX<|ahR ap gH;rwa[O5]at this
theorem XJ{fo:List<|List Int}{N ex:Array aF}(dX:s.units<cLine)(gb:b9 b.heap r (fo.map bu) N.toList)(x7:b9 b.heap a_ (fo.map bu) ex.toList):∀Q(af:Q<N.size)(am:Q<ex.size),J9 s b N[Q] ex[Q] ag:=λQ af am=>by
 have f7:N.size=gu fo:=by simpa using gb.length
 have cu:(fo.map bu)[Q]?=W (bu<|fo.getD Q []):=by rw[U (eX)<|U (dG)<|U (eT (by rw[eA (.t .x .y) [.t .x .z,.e .z .y] Z af f7])) ?_];rfl
 obtain⟨e2,bH,dm⟩:=gb.get cu;obtain⟨fG,cm,el⟩:=x7.get cu;rw[zb,pb af]at bH;rw[zb,pb am]at cm;rw[U (ek bH)<|U (ek cm)<|ahS dX (ck.iw dm)<|ck.iw el]
theorem ahT{fo:List<|List Int}{e2 fG:aF}(dX:s.units+1<cLine)(bw:IsL r (fo.map bu) b e2)(bO:IsL a_ (fo.map bu) b fG):hi g.prog g.w s [] [] (wr .Eq e2 fG) (FZ ag) b:=by
 obtain⟨h,N,o,rfl,aI,ap⟩:=bw;obtain⟨a,ex,S,rfl,fM,gH⟩:=bO;have f7:N.size=gu fo:=by simpa using ap.length
 have h0:ex.size=gu fo:=by simpa using gH.length
 rw[bL (O5 N.size)<|hi.now (λA aY=>SeqAt.eq_listAt ⟨_,aI,V,o,V⟩ ⟨_,fM,V,S,V⟩ (f7.trans h0.symm) (by rw[ct (.t .x .y) [.t (.o .x) .y] Z dX]) (XJ dX ap gH) aY) V]
theorem ahU{fo:List<|List Int}{e2 fG:aF}(dX:s.units+1<cLine)(bw:IsL r (fo.map bu) b e2)(bO:IsL a_ (fo.map bu) b fG):hi g.prog g.w s [] [] (wr .NotEq e2 fG) (FZ be) b:=by
 obtain⟨h,N,o,rfl,aI,ap⟩:=bw;obtain⟨a,ex,S,rfl,fM,gH⟩:=bO;have f7:N.size=gu fo:=by simpa using ap.length
 have h0:ex.size=gu fo:=by simpa using gH.length
 have i:(!(cZ N.size).all λu=>ag)=be:=by rwa[U (O5 ..)];rfl
 rw[bL i<|hi.now (λA aY=>Rg ⟨_,aI,V,o,V⟩ ⟨_,fM,V,S,V⟩ (f7.trans h0.symm) (by rw[ct (.t .x .y) [.t (.o .x) .y] Z dX]) (XJ dX ap gH) g.prog g.w (λu u=>False) A aY) V]
theorem XK(ao:eW x s):s.units+1<cLine:=mA (Nat.succ_le_succ<|a5 (hf _ _) ao.3) bf
variable{E q:bJ}{cW fi:i6}{ax:Pos}{fo:List<|List Int}
theorem ei.ajM(bw:ai g x O y E cW<|.lst<|fo.map bu)(bO:ai g x O y q fi<|.lst<|fo.map bu)(bk:ua .NotEq q):ei g x O y (.Compare E [.NotEq] [q] ax) be:=λs p r L ay aa ao G I=>vo I.ok (bw s p r L ay aa ao G I) fB.hV (bO s p r L ay aa ao G I) (λb e2 fG n af am=>ahU (XK ao) af.iw am.iw)<|bk p
theorem ai.ajN(bw:ai g x O y E cW<|.lst<|fo.map bu)(bO:ai g x O y q fi<|.lst<|fo.map bu)(bk:ua .Eq q):ai g x O y (.Compare E [.Eq] [q] ax) .cH (.bool ag):=λs p r L ay aa ao G I=>(aaf I.ok (bw s p r L ay aa ao G I) fB.hV (bO s p r L ay aa ao G I) (bk p) λb e2 fG n af am=>ahT (XK ao) af.iw am.iw).to λb g c=>c
end
def A'(de:List Int)(bD:Nat)(n:List Int×Int):List Int:=n.1.take (om n.2)++yl de bD (n.1.drop (om n.2+bD)++n.1.take (om n.2))++n.1.drop (om n.2+bD)
theorem XM(aJ b8:List<|List Int):fj.zipItems (aJ.map bu) (b8.map bu)=(aJ.zip b8).map λn=>bj.tup [bu n.1,bu n.2]:=by unfold fj.zipItems;rwa[U List.zip_map<|U ho];rfl
theorem XN(aJ:List<|List Int)(b8:List Int):fj.zipItems (aJ.map bu) (b8.map .int)=(aJ.zip b8).map λn=>bj.tup [bu n.1,.int n.2]:=by unfold fj.zipItems;rwa[U List.zip_map<|U ho];rfl
theorem ahV(o:qL g){a0 yy jZ:List<|List Int}{bD:Nat}{dW pQ:List Int}{k:List<|Nat×Nat}(aT:bD<=30)(bl:gu a0<=10/\∀a∈a0,gu a<=200)(ap:gu yy=gu a0)(l:gu pQ=gu a0)(jJ:gu k<=5000)(n1:∀n∈yy.zip pQ,gu n.1=255/\(∀v∈n.1,0<=v/\v<256)/\0<=n.2/\n.2<=255/\∀j,j<gu (n.1.drop (om n.2+bD)++n.1.take (om n.2))->0<=(iX (256^bD) (nH (kH bD) bD<|(n.1.drop (om n.2+bD)++n.1.take (om n.2)).take j)<|(n.1.drop (om n.2+bD)++n.1.take (om n.2)).getD j 0).fdiv (256^bD)/\om ((iX (256^bD) (nH (kH bD) bD<|(n.1.drop (om n.2+bD)++n.1.take (om n.2)).take j)<|(n.1.drop (om n.2+bD)++n.1.take (om n.2)).getD j 0).fdiv<|256^bD)<gu (kH bD))(O6:(yy.zip pQ).map (A' (kH bD) bD)=jZ)(uT:∀q∈jZ,gu q=255)(im:∀f∈k,f.2<gu a0/\f.1<255)(bH:(jZ.zip a0).map (λn=>n.1.take (gu n.2))=a0)(cm:k.map (λf=>(jZ.getD f.2 []).getD f.1 0)=dW)(eO:(jZ.zip a0).map (λn=>n.1.drop<|gu n.2+bD)=a0.map λa=>bX (255-(gu a)-bD) 0)(ae:∀a∈a0,gu a+bD<=255):bd g (x+2) (fH<|dq aU 25) [] (("rings",.f<|.lst<|yy.map bu)::("begins",.f<|bu pQ)::("order",.f<|lz k)::("sent",.f<|bu dW)::yq a0 bD) (kn.drop 20) (λc2 u=>c2=.ret (.bool ag)):=by
 rw[py ?_];intro qO;have G:cy=2^24:=V;have ahX:kn.drop 20=(kn.drop 20).take 3++kn.drop 23:=V;have Ik:gu jZ=gu a0:=bL O6<|U (dg ..)<|U JD<|U ap<|U l<|U (Nat.min_self ..) V;rwa[U ahX<|bd.unit (lS:=(("mended",.o<|.lst<|jZ.map bu)::("order",.f<|lz k)::("sent",.f<|bu dW)::yq a0 bD)) V ?_]
 .rw[px ?_];intro qI;conv=>arg 6;whnf
  rwa[bd.assign (z:=bu<|kH bD) (al.call o.ok o.Uo (hO.g8 al.nm hO.nl)<|agq o bD aT) Z];have ahY:gu (kH bD)<=256:=l_<|A2 ..;generalize kH bD=de at*;rwa[bd.yu (ai.list (aJ:=[]) trivial<|eQ _) Z<|bd.nu (λj y=>gk (("mended",.o<|.lst<|(jZ.take j).map bu)::("multiples",.f<|bu de)::("rings",.f<|.lst<|yy.map bu)::("begins",.f<|bu pQ)::("order",.f<|lz k)::("sent",.f<|bu dW)::yq a0 bD) y) (λu u=>V) (fj.zip o.ok (jR.of al.nm) (jR.of al.nm) o.zip Z ⟨V,V⟩) ?_ (g9 V)]
  .intro j f bP R d9;rw[XN,eX]at R;obtain⟨n,aO,rfl⟩:=yR.mp R;obtain⟨af,am,a',cJ,ez⟩:=n1 n<|j3 aO;have XO:jZ[j]?=W (A' de bD n):=by rw[bL O6<|U (eX)<|U aO ?_];rfl
   have T:=(j4.mp XO).1;rw[⟨al.t2,bd.le (bP:=(("begin",.f<|.int n.2)::("ring",.f<|bu n.1)::("mended",.o<|.lst<|(jZ.take j).map bu)::("multiples",.f<|bu de)::("rings",.f<|.lst<|yy.map bu)::("begins",.f<|bu pQ)::("order",.f<|lz k)::("sent",.f<|bu dW)::yq a0 bD)) ⟨V,V,d9⟩<|px ?_⟩];intro qI;have c4:n.2=(om n.2):=RX 101 1011 (.e0 .x<|.c .x) [.cN .x<|.c .x,.e0 (.c .x) .x] Z (mK _)<|pg a';have XP:n.2+(bD:Int)=((om n.2+bD:Nat)):=Zy 21 0 (.e0 (.a .x<|.c .x)<|.c<|.a .y .x) [.e0 .x<|.c .y] Z c4;have H8:gu (yl de bD<|n.1.drop (om n.2+bD)++n.1.take (om n.2))=bD:=by unfold yl;rw[U (dg ..)<|U (sP ..) V]
   have XQ:gu (n.1.drop (om n.2+bD)++n.1.take (om n.2))<=1000:=by rw[U e7<|U o'<|U sk ?_];rw[fq 31 (.l (.a .x .y)<|.n 1000) [.e .z<|.n 255,.l .x .z,.l .y .z] Z af (jF _ _)<|vm _ _]
   rw[bd.append (z:=bu<|A' de bD n) V Z (ai.vH (ai.vH (ai.DU al.nm (cI.cast al.nm c4) (by rw[fE 21 (.l .x .y) [.e .y<|.n 16777216,.e .x<|.n 255] Z G af])) (al.call o.ok o.Up (hO.g8 (ai.vH (ai.yc (o:=om n.2+bD) al.nm (cI.cast (ai.add al.nm al.nm) XP)<|fE 21 (.l .x .y) [.e .y<|.n 16777216,.e .x<|.n 255] Z G af) (ai.DU al.nm (cI.cast al.nm c4) (by omega)) ?_)<|hO.g8 al.nm<|hO.g8 al.nm hO.nl)<|agt o bD aT _ de ⟨XQ,λv bV=>?_⟩ ahY ez) ?_) (ai.yc al.nm (cI.cast (ai.add al.nm al.nm) XP) (by omega)) ?_) ?_<|bd.nil ⟨?_,V,V,V,V,V,V,V,trivial⟩]
   .rw[bL e7<|fE 21 (.l .x .y) [.e .y<|.n 16777216,.l .x<|.n 1000] Z G XQ]
   .rcases jf.mp bV with e|e
    .rw[am v<|BL e]
    .rw[am v<|BM e]
   .rw[U H8<|U sk ?_];omega
   .rw[U e7<|U H8<|U sk<|U o'<|rf 3211 (.l (.a (.a .x .y) .z) .w) [.l .y<|.n 30,.e .w<|.n 16777216,.e .u<|.n 255,.l .x .u,.l .z .u] Z aT G af (vm _ _)<|jF _ _]
   .rw[U (dg ..)<|U sk<|lJ 211 (.l .x .y) [.l .z<|.n 10,.e .y<|.n 16777216,.e .w .z,.l .x .w] Z bl.1 G Ik<|vm _ _]
   .rw[(?_:W (Slot.o<|bj.lst _)=W (Slot.o<|bj.lst _))];rw[U u4<|U XO<|U jg ?_];rfl
  .intro bP d9;rw[XN,dg,show jZ.take (gu (yy.zip pQ))=jZ from q2 (by rwa[bL O6<|U (dg ..)];rw[dr _])]at d9;rw[bd.le d9<|bd.nil ⟨V,g9 V⟩]
 .rw[((py ?_):bd _ _ _ _ (("mended",Slot.f<|.lst<|jZ.map bu)::("order",.f<|lz k)::("sent",.f<|bu dW)::yq a0 bD) _ _)];intro qO;conv=>arg 6;whnf
  have XR:gu (jZ.zip a0)<=10:=by rwa[U JD];rw[ct (.l .x<|.n 10) [.l .y<|.n 10,.l .x .y] Z bl.1<|vm _ _]
  have ls:∀n∈jZ.zip a0,gu n.1=255/\gu n.2<=200:=λn aO=>⟨uT _ (Fp aO).1,bl.2 _ (Fp aO).2⟩;rw[bd.qf (a:=be) (ei.or ⟨be,ei.ajM (ai.cast (ai.comp (bv:=fj.zipItems (jZ.map bu)<|a0.map bu) (dU:=(jZ.zip a0).map λn=>[bu<|n.1.take (gu n.2)]) o.ok ?_) ?_) al.nm λu=>V,(λe=>nomatch e),λu=>⟨be,ei.cast (ei.O1 (aq:=dW) (ai.cast (al.wO (E:=k) (o3:=λf=>jc<|ff f) (uN:=λf=>(jZ.getD f.2 []).getD f.1 0) o.toqm (fj.list (jR.of al.nm)<|.inr ⟨⟨_,_,_,V⟩,λf R=>by obtain⟨j,_,rfl⟩:=la.mp R;rw[⟨_,V⟩]⟩) (λf R=>⟨al.t2,?_⟩) (by rw[fE 211 (.l .x .y) [.l .x<|.n 5000,.e .y<|.n 16777216] Z jJ G]))<|congrArg bu cm) al.nm λu=>V) (by simp),(λe=>nomatch e),λu=>V⟩⟩)<|bd.nil ?_]
  .rw[⟨⟨by cbv,V,eQ _,λcd e=>(dN e),λu u=>V,XM jZ a0▸AllP.map λn aO=>⟨al.t2,al.fr,jS.one V V<|ai.DU al.nm (al.oO o.toqm al.nm (by have:=ls n aO;rw[bM (.t .x<|.n 4611686018427387904) [.l .x<|.n 200] Z this.2])) (by have:=ls n aO;rw[fE 21 (.l .x .y) [.e .y<|.n 16777216,.e .x<|.n 255] Z G this.1])⟩,by rwa[U (o2 ..)<|U (dg ..)];rw[fE 21 (.l .x .y) [.e .y<|.n 16777216,.l .x<|.n 10] Z G XR]⟩,fj.zip o.ok (jR.of al.nm) (jR.of al.nm) o.zip Z ⟨V,V⟩⟩]
  .rw[U (o2 ..)<|congrArg bj.lst<|Eq.trans ?_<|congrArg (Fs bu) bH];rwa[U ho];rfl
  .obtain⟨H,P⟩:=im f R;have ac:gu (jZ.getD f.2 [])=255:=by rw[uT _<|U (dG)<|U (eT (by rw[fq 21 (.t .x .y) [.e .y .z,.t .x .z] Z Ik H])) ?_];rw[nb _]
   rw[ai.t5 (aq:=jZ.getD f.2 []) (ai.item al.nm al.nm (gP _) (by rw[U (hF ..)<|U (eX)<|U (dG)<|U (eT (by rw[fq 21 (.t .x .y) [.e .y .z,.t .x .z] Z Ik H])) ?_];rfl) (by rwa[U (dg ..)];rw[fq 211 (.l .x .y) [.l .z<|.n 10,.e .y<|.n 16777216,.e .x .z] Z bl.1 G Ik])) al.nm (gP _) (by rwa[U (hF ..)<|U ac];rw[P])<|fE 21 (.l .x .y) [.e .y<|.n 16777216,.e .x<|.n 255] Z G ac]
  rw[bd.ret (ai.ajN (fo:=a0.map λa=>bX (255-(gu a)-bD) 0) (ai.cast (ai.comp (bv:=fj.zipItems (jZ.map bu)<|a0.map bu) (dU:=(jZ.zip a0).map λn=> [bu<|n.1.drop<|gu n.2+bD]) o.ok ?_) ?_) (ai.cast (ai.comp (bv:=a0.map bu) (dU:=a0.map λa=> [bu<|bX (255-(gu a)-bD) 0]) o.ok ?_) ?_) λu=>V) V]
  .rw[⟨⟨by cbv,V,eQ _,λcd e=>(dN e),λu u=>V,XM jZ a0▸AllP.map λn aO=>⟨al.t2,al.fr,jS.one V V<|ai.yc al.nm (cI.cast (ai.add (al.oO o.toqm al.nm (by have:=ls n aO;rw[bM (.t .x<|.n 4611686018427387904) [.l .x<|.n 200] Z this.2])) al.nm) V) (by have:=ls n aO;rw[fE 21 (.l .x .y) [.e .y<|.n 16777216,.e .x<|.n 255] Z G this.1])⟩,by rwa[U (o2 ..)<|U (dg ..)];rw[fE 21 (.l .x .y) [.e .y<|.n 16777216,.l .x<|.n 10] Z G XR]⟩,fj.zip o.ok (jR.of al.nm) (jR.of al.nm) o.zip Z ⟨V,V⟩⟩]
  .rw[U (o2 ..)<|congrArg bj.lst<|Eq.trans ?_<|congrArg (Fs bu) eO];rwa[U ho];rfl
  .rw[⟨⟨by cbv,V,eQ _,λcd e=>(dN e),λu u=>V,AllP.map λa l=>⟨al.t1,al.fr,jS.one V V<|ai.cast (ai.vI (C:=0) (ai.list (fC.g8 ai.dv fC.nl) bf) (ai.sub (ai.sub ai.dv<|al.oO o.toqm al.nm (by have:=bl.2 a l;rw[bM (.t .x<|.n 4611686018427387904) [.l .x<|.n 200] Z this])) al.nm) (by have:=bl.2 a l;rw[ct (.cN (.g<|.n 9223372036854775808)<|.s (.s (.n 255)<|.c .x)<|.c .y) [.l .y<|.n 30,.l .x<|.n 200] Z aT this]) (by rw[ct (.cN (.s (.s (.n 255)<|.c .x)<|.c .y)<|.n 16777216) [] Z])) (by rw[U (by have:=ae a l;omega:om ((255:Int)-(gu a)-bD)=255-(gu a)-bD) V])⟩,by rwa[U (o2 ..)<|U (dg ..)];rw[fE 211 (.l .x .y) [.l .x<|.n 10,.e .y<|.n 16777216] Z bl.1 G]⟩,fj.list (jR.of al.nm)<|.inl<|kR _ _ V⟩]
  .rw[U (o2 ..)<|U ho ?_];rfl
theorem ei.half(aM:eF ah)(aQ:ai (bh ah) x pN y (.Name "version" i_) .cH<|.int hb):ei (bh ah) x pN y (.Compare (.Name "version" i_) [.In] [.Tuple [.Name "VERSION_M1" fn,.Name "VERSION_M3" fQ] o iC] ax) (([-3,-1]:List Int).any (·==hb)):=ei.O0 (aq:=[-3,-1]) aQ (ai.tuple (fC.g8 (by rw[c1 (ad5 (ah:=ah)) λD c=>ai.glob (iV aM) c (⟨D,V⟩) (by cbv)])<|fC.g8 (by rw[c1 (ad6 (ah:=ah)) λD c=>ai.glob (iV aM) c (⟨D,V⟩) (by cbv)]) fC.nl) (by show 2<=cy;decide)) λu=>V
def XS(hb:Int)(J bm e_:aE)(nm:aF)(D:Tok)(Il:bj)(l7 az:List<|List Int):b_:=[("version",.f<|.int hb),("to_binary",.f<|yg J bm e_ nm D),("cw_four",.f Il),("data_blocks",.f<|.lst<|l7.map ha),("error_blocks",.f<|.lst<|az.map ha)]
theorem ahZ(aM:eF ah)(cl:1998<=cT)(ah0:cT∉an.W)(v':yt l7)(c:∀h bU cP,bU∉((kI bm cT).both an).W->b' (bh ah) (x+2) s pN (((kI bm cT).both an).both<|hE h bU cP<|ms l7) (("res",.f<|.raw<|.ref h)::XS hb J bm e_ nm D Il l7 az) b0 b1)(cz:gk (XS hb J bm e_ nm D Il l7 az) y):b' (bh ah) (x+2) s pN ((kI bm cT).both an) y (dL 6::dL 7::b0) b1:=by
 rwa[b'.le cz];rw[rH ?_];intro s';conv=>arg 7;arg 1;whnf
 rwa[b'.wL (dF.L8 (x:=x) aM<|v3 V) Z];rintro z d1 bN;rw[jH bN λh bU cP cB m0 dt=>?_];obtain rfl:=cB;obtain rfl:=dt;have ah1:bU≠cT:=λe=>m0<|b7<|bR<|mt<|hG.mpr e;have cV:cT∉((((hQ 1944 1940).both an)).both<|hE h bU cP []).W:=λe=>by
  rw[bS e (λe=>?_) λe=>?_]
  .rw[bS e (λe=>?_) λe=>?_]
   .replace cl:=(bg e)▸cl;rw[absurd cl bf]
   .rw[ah0 e]
  .rw[ah1 (bg e).symm]
 have f7:Inv.k9 (((kI bm cT).both an).both<|hE h bU cP []) ((((hQ 1944 1940).both an).both<|hE h bU cP []).both<|yf bm cT):=⟨λu u u u u c=>((c.fst.fst.fst.both c.fst.snd).both c.snd).both c.fst.fst.snd,λC ae=>by rw[bS ae (λe=>bS e (λe=>bS e (λe=>b7<|b7<|b7 e) λe=>b7<|bR e) λe=>bR e) λe=>b7<|b7<|bR e],λC ae=>bS ae (λe=>bS e (λe=>bS e (λe=>b7<|b7<|b7 e) λe=>b7<|bR e) λe=>bR e) λe=>b7<|b7<|bR e⟩;have h0:Inv.k9 ((((hQ 1944 1940).both an).both<|hE h bU cP []).both<|yf bm cT) (((kI bm cT).both an).both<|hE h bU cP []):=⟨λu u u u u c=>((c.fst.fst.fst.both c.snd).both c.fst.fst.snd).both c.fst.snd,λC ae=>by rw[bS ae (λe=>bS e (λe=>bS e (λe=>b7<|b7<|b7 e) λe=>bR e) λe=>b7<|b7<|bR e) λe=>b7<|bR e],λC ae=>bS ae (λe=>bS e (λe=>bS e (λe=>b7<|b7<|b7 e) λe=>bR e) λe=>b7<|b7<|bR e) λe=>b7<|bR e⟩;conv=>arg 7;arg 1;whnf
 rw[b'.B8 (dF.Ug (x:=x+1) (an:=(kI bm cT).both an) (aq:=[]) (de:=ms l7) aM (AH V) m0 V Z (dF.conv' f7 h0<|dF.bits (x:=x+1) (a6:=l7) (J:=J) (bm:=bm) (cT:=cT) (e_:=e_) (nm:=nm) (D:=D) aM (v3 V) cV v'.1 v'.2 v'.3 V V Z V Z V V V V V V V V V V V V) (Xs l7) (by show 0+_<_;rw[fE 21 (.t (.a (.n 0) .x) .y) [.e .y<|.n 16777216,.l .x<|.n 800000] Z V v'.UW])) V<|su<|⟨V,c h bU cP m0⟩]
section
section
variable{g:ea}{x:Nat}{O:dA}{y:b_}{s:cq}{an bZ:Inv}{st:List fa}{b1:jU->b_->Inv->Prop}
theorem b'.conv(af:Inv.k9 an bZ)(c:b' g x s O bZ y st b1):b' g x s O an y st b1:=λp r L ay aa b ao G I n T=>by rwa[Y.mono (c p r L ay aa b ao G I n<|af.1 _ _ _ _ _ T)];rintro J w bN;rw[bN.gp λc2 bP bx cQ c' gd dO d5 eb e9 f_=>⟨c2,bP,bx,cQ,c',gd,dO,d5,⟨eb.1,eb.2,eb.3,λa l=>(eb.4 a l).imp (af.2 a) id,λa l=>(eb.5 a l).imp (af.3 a) id,eb.6.mono (λa l=>bS l (λe=>b7 e) λe=>bR<|af.2 a e) af.3⟩,e9,f_⟩]
theorem Inv.ajU:Inv.k9 an (an.both Inv.none):=⟨λu u u u u c=>c.both<|⟨trivial,aR,aR⟩,λa l=>bS l id (λe=>nomatch e),λa l=>bS l id λe=>nomatch e⟩
theorem Inv.k9.ajV(c:Inv.k9 an bZ):Inv.k9 (an.both gd) (bZ.both gd):=⟨λu u u u u e=>(c.1 _ _ _ _ _ e.fst).both e.snd,λa l=>bS l (λe=>b7<|c.2 a e) λe=>bR e,λa l=>bS l (λe=>b7<|c.3 a e) λe=>bR e⟩
end
variable{J:aE}
def Er(bm cT:aE)(aN:List Int)(c2:jU)(bP:b_)(bZ:Inv):Prop:=∃h bU cP,c2=.next/\gj bP "res"=W (.f<|.raw<|.ref h)/\bU∉(kI bm cT).W/\bZ=(kI bm cT).both (hE h bU cP aN)
end
def mu(J:Nat->Int)(E:List<|Nat×List Int):Nat×List (List Int)×List (List Int):=E.foldl (λst n=>(st.1+n.1,st.2.1++[lx J st.1 n.1],st.2.2++[pJ n.2<|lx J st.1 n.1])) (0,[],[])
theorem ah2(J:Nat->Int)(E:List<|Nat×List Int)(n:Nat×List Int):mu J (E++[n])=((mu J E).1+n.1,(mu J E).2.1++[lx J (mu J E).1 n.1],(mu J E).2.2++[pJ n.2<|lx J (mu J E).1 n.1]):=by unfold mu;rwa[U y5];rfl
theorem ah3(J:Nat->Int)(E:List<|Nat×List Int):mr J E=((mu J E).1,(mu J E).2.1.map ha,(mu J E).2.2.map ha):=by induction E using WE with|aM=>rfl|G E n aW=>rw[U (On ..)<|U (ah2 ..)<|U aW ?_];simp
def Es(hb:Int)(qz:dV)(a6:List Bool)(J bm e_:aE)(nm:aF)(D:Tok):b_:=[("version",.f<|.int hb),("error",.f<|s3 qz),("buff",.f<|.buf<|br<|gM a6),("to_binary",.f<|yg J bm e_ nm D)]
theorem ah4(aM:eF ah)(aQ:-3<=hb/\hb<=7)(cO:([-3,-1]:List Int).any (·==hb)=be)(cl:1998<=cT)(ah5:Hl hb qz=W (m_.map yd))(ah6:AT m_<|(gu a6+7)/8)(D9:gu a6<=2^20)(v':yt (mu (jz a6)<|hm m_).2.1)(kE:yt (mu (jz a6)<|hm m_).2.2)(ae:gu (ms (mu (jz a6)<|hm m_).2.1)<=200000)(cz:gk (Es hb qz a6 J bm e_ nm D) y):b' (bh ah) (x+2) s pN (kI bm cT) y [dL 2,dL 3,dL 4,dL 5,dL 6,dL 7,dL 8,dL 9,dL 10,dL 11,dL 12] (Er bm cT<|ms (mu (jz a6)<|hm m_).2.1++ms (mu (jz a6)<|hm m_).2.2++bX (yw hb) 0):=by
 rw[xp ?_];intro AU;rw[b'.le cz<|rH ?_];intro s';conv=>arg 7;arg 1;whnf
 rw[b'.oa<|bd.assign (ai.B0 aM al.nm al.nm ah5) Z<|bd.nil ?_]
 dsimp only;conv=>arg 7;arg 1;whnf
 rwa[b'.ahr (N:=[.lst<|(mu (jz a6)<|hm m_).2.1.map ha,.lst<|(mu (jz a6)<|hm m_).2.2.map ha]) (aJ:=["data_blocks","error_blocks"]) (dF.conv (Inv.k9.refl _) (dF.ahq aM (v3 V) (λe=>?_) (hO.g8 al.nm<|hO.g8 al.nm hO.nl) ah6 D9 (by show 2<20;decide)) ?_) V V Z]
 .rw[dw e (λe=>?_) λe=>?_]
  .rw[absurd e bf]
  .rw[<-bg e]at cl;rw[absurd cl bf]
 .rw[su<|dj _ ⟨?_,V⟩<|Inv.k9.refl _];unfold HW;rw[U (ah3 ..) V]
 conv=>arg 7;arg 1;whnf
 rw[b'.oa<|bd.assign ai.Yx Z<|bd.nil ?_]
 dsimp only;conv=>arg 7;arg 1;whnf
 rw[b'.qf (ei.cast (ei.half aM al.nm) cO)<|b'.nil (by
    rw[xp ?_];intro AU;rw[b'.conv Inv.ajU<|ahZ (Il:=.none) aM cl (λe=>nomatch e) v' (λh bU cP m0=>?_)<|g9 V];conv=>arg 7;arg 1;whnf
    rw[b'.qf (ei.ajc al.nm λu=>V)<|b'.nil ?_];have iX:bU∉(kI bm cT).W:=λe=>m0<|u3 _ e;rwa[b'.conv (Inv.k9.ajV<|⟨λu u u u u c=>c.fst,λa l=>b7 l,λa l=>b7 l⟩)];intro p r L ay aa b ao G I n T;rwa[Y.mono (ahs (h:=h) (J:=J) (e_:=e_) (D:=D) aM aQ cl (⟨λe=>iX<|u3 _<|hG.mpr e,λe=>iX<|wz _<|e▸tz,λe=>iX<|wz _<|sj _<|hG.mpr e⟩) kE ae (g9 V) p r L ay aa b ao G I n T)];rintro c2 w ob;rw[ob.gp λXT bP bx cQ c' gd r4 dY eN qi CT=>fb r4 λdO d5 eb=>⟨XT,bP,bx,cQ,c',gd,⟨h,bU,cP,dO,d5,iX,eb⟩,dY,eN,qi,CT⟩])]
def yz(M:cY)(ab:Nat):FuncData:=fdOf<|GK aU M ab
theorem XU(M:cY)(ab:Nat):(e6 M ab).get 1895=W (GK aU M ab):=by cbv
theorem ah7(M:cY)(ab:Nat):(e6 M ab).get 1894=W (MM aU M ab):=by cbv
theorem ah8:∃f m fn fQ,dL 0=.Expr (.Constant (.str f) m fn) fQ:=(Ze _ _ _ _ V)
theorem ah9:∃fn fQ,dL 13=.Return (W<|.Name "res" fn) fQ:=(kR _ _ V)
theorem ah_(aM:eF ah)(ao:eW (x+3) s)(I:cx (bh ah) p r L ay aa)(n:bG (bh ah) p r L aa y b)(T:((hQ 1944 1940).both<|k7 k).At (bh ah) p r L b)(aQ:oM aa r [(.cH,.int hb),(.cH,s3 qz),(.cH,.buf<|br<|gM a6)] b aV)(Et:∀(ew:cq)bm cT J e_ nm D y,1998<=cT->gk (Es hb qz a6 J bm e_ nm D) y->b' (bh ah) (x+2) ew pN (kI bm cT) y [dL 2,dL 3,dL 4,dL 5,dL 6,dL 7,dL 8,dL 9,dL 10,dL 11,dL 12] (Er bm cT aN))(aj:∀a4 w bm cT a_,(k=W (bm,cT)/\a_=[]\/k=aX/\a_=[cT])->(∀a∈a_,(aB b)<=a)->bb (1940::(k7 k).W) [] b w->gU (bh ah) w->((hQ 1944 1940).both<|k7<|W (bm,cT)).At (bh ah) p (a_++r) L w->ck w.heap (a_++r) (.buf<|br aN) a4->A a4 w):Y aU ah.1 s (eS (.ref 1895) aV []) A b:=by
 rw[d7 aQ λhP u fw u hJ=>?_];obtain rfl:=fw;rw[d7 hJ λlY u j8 u j9=>?_];obtain rfl:=j8;rw[d7 j9 λuz u mN u Oq=>?_];obtain rfl:=mN;have Ot:_=[]:=Oq;subst Ot;rw[CX (x:=x+2) (eH:=["version","error","buff"]) (iV aM) ao ((show FnAt b 1895 (yz (ų ah.1) ah.4) (hv<|dq aU 17)from(xW aM n.2 (XU ..) V V V (ah7 ..) V V V V V V V))) V V I n aQ V (tL V) Z λw dZ cd eo bs go=>?_];rwa[ds (@bh _)];intro dx;rw[d8 ?_];intro eg;have jw:(c5 (yz (ų ah.1) ah.4) 1895 b).scope=pN:=V;have C2:(c5 (yz (ų ah.1) ah.4) 1895 b).code=.ref 1894:=V;have nW:qualnameIn (c5 (yz (ų ah.1) ah.4) 1895 b) "to_binary" "to_binary"=AW:=V;generalize s.deeper (c5 (yz (ų ah.1) ah.4) 1895 b)=k4 at*;generalize c5 (yz (ų ah.1) ah.4) 1895 b=eE at*;rw[ahp.symm▸tN ah8 λD5 ik fn fQ np=>Nw eo.1 λfJ=>?_];have vr:bb [] [] w {w with toks:=fJ}:=bK.tok ..;have dd:=bs.grow vr;have O7:=(T.into dZ cd).it vr aR aR;generalize({w with toks:=fJ}:au)=as at vr dd O7;have Im:(aB b)<=(aB as):=a5 cd.2 vr.2;rw[afM aM jw C2 nW go (v3 V) eo dd O7.snd O7.fst (λe=>absurd (bg e) bf) λbm cT J e_ nm D ar a_ rE qt nG a7 qJ dD ip ah'=>Eb<|Y.mono (Et k4 bm cT J e_ nm D _ ip.1.2.2.2.1 ((g9 V)) eE (a_++(cc eE++r)) [] r rE ar go jw qJ dD<|ah'.both ip) ?_];rintro c2 co ob;rw[ob.gp λXT Lp zT Gc Gd akY r4 akZ dJ yb nD=>mb r4 λh bU cP D' aia m0 Ea=>?_];obtain rfl:=D';obtain rfl:=Ea;obtain⟨rfl,k5,i8⟩:=yb;rw[⟨V,(kP ah9 λiC i_ aib=>Y.eq (U aib<|U (qW ..)<|U (exec_Return_some ..) V)<|Y.bind<|dH<|Y.bind<|(ai.raw aia V) k4 eE zT Gc r Gd go jw k5 co _ i8 λa4 cv eL O8=>?_)⟩];rw[d8 ?_];intro eg;have aic:ck cv.heap zT (.raw<|.ref h) a4:=O8;rw[U aic<|Y.pure<|Y.pure<|dj _ V ?_];have vB:=nD.it eL aR aR;rw[q8 vB.snd.1 λtb hN tc oh wc uR uS he=>?_];have O9:∀a∈a_++r,a∈zT:=λa l=>dJ.1 a<|bS l (λe=>b7 e) λe=>bR<|bR e;have jt:∀a∈r,a<(aB b):=λa l=>cg (I.8 a l) n.1;have XV:(aB ar)<=bU:=hp (dJ.4 bU<|bR bB) (λe=>absurd e m0) λe=>e;have O_:∀a∈a_,a<(aB ar):=λa l=>cg (qJ.8 a<|b7 l) dD.1;have aid:bU∉a_++r:=λe=>bS e (λe=>b2 (O_ _ e) XV) λe=>b2 (jt _ e)<|a5 Im<|a5 a7.2 XV;have lH:∀a∈(kI bm cT).W,a∈1940::(k7 k).W\/(aB b)<=a:=λa l=>by
  rw[bS l (λe=>?_) λe=>?_]
  .rw[.inl<|bg e▸bB]
  .rcases qt with⟨rfl,_⟩|⟨rfl,rfl⟩
   .rw[.inl<|mt e]
   .rw[dw e (λe=>.inl<|mt<|e▸bB) λe=>.inr<|a5 Im<|nG a<|bg e▸bB]
 have ke:bb (1940::(k7 k).W) [] b cv:=by
  have aie:bb (1940::(k7 k).W) [] b as:=(cd.trans vr).mono aR aR;have js:=(aie.hj a7 (λa l=>bS l (λe=>.inr<|fY<|dZ a e) λe=>.inl<|bg e▸(mt (by cases k<;>rw[bB]))) aR).hj dJ.6 (λa l=>by
   rw[bS l (λe=>?_) λe=>?_]
   .rw[bS e (λe=>?_) λe=>?_]
    .cases e
    .rw[.inr<|fY<|dZ a e]
   .rw[(lH a e).imp id fY]) λj gc=>by rcases jf.mp gc with e|e<;>cases e
  rw[js.trans<|eL.mono aR aR]
 rwa[aj (.ref h) cv bm cT a_ qt (λa l=>a5 Im<|nG a l) ke (i8.grow eL).2 ⟨(kI bm cT).mono _ _ _ vB.fst.1 λa l=>.inl<|O9 a l,λa l=>?_,λj gc=>?_⟩]
 .rw[kO (vB.fst.2 a l) λdO d5 eb e9 f_=>?_];have rr:a∈((hQ 1944 1940).both<|k7 k).W->a∈a_++r/\a∉L/\a∉cc p/\(a∈(bh ah).tabs\/(aB ah.2)<=a)/\a<(aB cv):=λe=>by rw[kO (T.2 a e) λfg fD h6 n6 sM=>⟨bR fg,fD,h6,n6,f_⟩]
  rw[bS l (λe=>?_) λe=>?_]
  .rw[rr<|b7 e]
  .rcases qt with⟨rfl,_⟩|⟨rfl,rfl⟩
   .rw[rr<|bR e]
   .rw[dw e (λe=>?_) λe=>?_]
    .rw[rr<|bR<|e▸bB]
    .have XW:a∈[cT]:=bg e▸bB;have wX:=a5 Im<|nG a XW;rw[⟨b7 XW,λe=>b2 (jt a (I.5 a e).1) wX,λe=>b2 (jt a (I.4 a e).1) wX,e9,f_⟩]
 .rcases jf.mp gc with e|e<;>cases e
 .rw[(Kf h bU cP V (λe=>tb<|O9 _ e) hN aid he (λe=>tc<|O9 _ e) oh uR)]
theorem bG.aj'(n:bG g p r L aa y b)(dz:∀C∈cL,C∈r/\C∉L/\C∉cc p/\∀k,b.heap.get? C=W k->k.cls=.none)(t:bb cL aD b w)(l:gU g w)(bV:∀a∈aZ,b.heap.objs.size<=a):bG g p (aZ++r) L w.heap.objs.size y w:=by
 rw[jh n.3 λcS al af am a'=>?_];have fZ:∀a k,a∉r->b.heap.get? a=W k->Ű (Q7 w) a=W k/\a∉aZ++r:=λa k l i=>⟨t.1 a k (λe=>l (dz a e).1) i,by rwa[gW jf<|gW not_or];rw[⟨λe=>b2 (dK i)<|bV a e,l⟩]⟩;rw[⟨dr _,l,cS,al.keeps λa l k i=>t.1 a k (λe=>(dz a e).2.2.1 l) i,λf bz R=>bt (af f bz R) λz aQ q=>⟨z,aQ,?_⟩,am,a'⟩];have cK:∀aG,Cx b.heap r aG z->Cx w.heap (aZ++r) aG z:=λaG⟨gi,cP,gG⟩=>by
  rw[⟨gi,cP,iO.to fZ (λk m2=>t.1 _ _ (λdf=>?_) m2) gG⟩];have ak:=(dz _ df).2.2.2;cases aG<;>try rw[gG]
  .rw[fW gG λN o m2 u=>?_];have:=ak _ m2;cases this
  .have:=ak _ gG;rw[absurd this (by decide:¬(j6 "bytearray"=q3))]
 cases bz with
 |f aG=>rw[ck.to fZ _ _ q]|o aG=>rw[cK aG q]|b aG=>rw[cK aG q]
def O':Stmt:=k3 (dq aU 19) 5
def Eu(M:cY)(ab:Nat):FuncData:=fdOf<|GO aU M ab
theorem XX(M:cY)(ab:Nat):(e6 M ab).get 1938=W (GO aU M ab):=by cbv
theorem aif(M:cY)(ab:Nat):(e6 M ab).get 1937=W (UF aU M ab):=by cbv
theorem aig(aM:eF ah)(ao:eW (x+1) s)(I:cx (bh ah) p r L ay aa)(n:bG (bh ah) p r L aa y b)(ap:ck b.heap r (.buf a) a4)(aj:∀o0 w,bb [] [] b w->ck w.heap r (.oH a) o0->A o0 w):Y aU ah.1 s (eS (.ref 1938) [a4] []) A b:=by rw[CX (eH:=["self"]) (bT:=[(.cH,.buf a)]) (iV aM) ao ((show FnAt b 1938 (Eu (ų ah.1) ah.4) (hv O')from(xW aM n.2 (XX ..) V V V (aif ..) V V V V V V V))) V V I n ⟨_,_,V,ap,V⟩ V (tL V) Z λw dZ cd eo bs go=>?_];have jw:(c5 (Eu (ų ah.1) ah.4) 1938 b).scope=fH O':=V;generalize s.deeper (c5 (Eu (ų ah.1) ah.4) 1938 b)=k4 at*;generalize c5 (Eu (ų ah.1) ah.4) 1938 b=eE at*;rw[tM (show∃fn fQ iC,hv O'=[.Return (W<|.Attribute (.Name "self" fn) "_data" fQ) iC]from((RH _ _ _ V))) λfn fQ iC jP=>Y.bind<|dH<|Y.bind<|(ai.SE aM<|al.nm) k4 eE (cc eE++r) [] r _ go jw eo w _ bs λo0 as aK gb=>Y.pure<|Y.pure ⟨o0,V,aj o0 as (cd.trans aK)<|ck.sub gb λB a8=>bR a8⟩]
theorem dF.akc(aM:eF ah)(aS:hO (bh ah) (x+3) O y gF [(.cH,.int hb),(.cH,s3 qz),(.cH,.buf<|br<|gM a6)])(xm:gu gF<20)(R:fe O "make_final_message"=ag)(Et:∀(ew:cq)bm cT J e_ nm D y,1998<=cT->gk (Es hb qz a6 J bm e_ nm D) y->b' (bh ah) (x+2) ew pN (kI bm cT) y [dL 2,dL 3,dL 4,dL 5,dL 6,dL 7,dL 8,dL 9,dL 10,dL 11,dL 12] (Er bm cT aN)):dF (bh ah) (x+3) s O ((hQ 1944 1940).both<|k7 k) y (.Call (.Name "make_final_message" e) gF [] ax) (λz bZ=>z=.buf (br aN)/\∃q,bZ=(hQ 1944 1940).both (k7<|W q)):=λp r L ay aa b ao G I n T A aj=>by
 rwa[ds (@ea.w _)];intro dx;have iz:=G▸R
 .rw[Y.bind<|sz (a_:=[]) (aD:=[]) (h3 (iV aM) I ad1 iz) (w7 iz) b _ n λa4 as aK lW=>U lW ?_];have dd:=n.grow aK;have gA:=T.it aK aR aR;rwa[zF (k:=GK aU (ų ah.1) ah.4) (bp:=yz (ų ah.1) ah.4) (M:=λD=>bG (bh ah) p r L aa y D/\((hQ 1944 1940).both<|k7 k).At (bh ah) p r L D) aS.star xm (λD A n e aj=>aS.t6 ao G I D A n e.1 aj) ⟨dd,gA⟩ (λD e=>aM.sub e.1.2 _ _ _ (XU ..) V) V (λD fp e t=>⟨e.1.grow t,e.2.it t aR aR⟩)];intro aV ar a7 aQ;have dD:=dd.grow a7;have ip:=gA.it a7 aR aR;rw[ah_ aM ao I dD ip aQ Et λa4 co bm cT a_ qt nG b4 Oy nD q=>?_];have dz:∀C∈1940::(k7 k).W,C∈r/\C∉L/\C∉cc p/\∀k,Ű (Q7 ar) C=W k->k.cls=.none:=λC ae=>by
   rw[lG (ip.2 C ae) λdO d5 eb u=>⟨dO,d5,eb,λim i=>?_⟩];rcases fT.mp ae with rfl|ae
   .rw[c0 ip.fst.1 λu fw=>c1 fw λc3 lU=>?_];have:=lU.2.2;replace this:=i▸this;rw[U (ek this) V]
   .have fA:=ip.snd.1;cases k with
    |none=>rw[c0 fA λu hJ=>bt hJ λc3 lU u=>?_];have:=lU.2.2;replace this:=i▸(bg ae)▸this;rw[U (ek this) V]|some q=>
     rw[sp fA λu u u u j8 j9 u=>bt j8 λc3 lU u=>c1 j9 λEf aih=>?_];rcases fT.mp ae with rfl|ae
     .have:=lU.2.2;replace this:=i▸this;rw[U (ek this) V]
     .have:=aih.2.2;replace this:=i▸(bg ae)▸this;rw[U (ek this) V]
  have O_:∀a∈a_,a<Ų (ű (Q7 co)):=λa l=>by
   rcases qt with⟨_,rfl⟩|⟨_,rfl⟩
   .rw[db l]
   .rw[U (bg l)<|(nD.2 cT<|bR<|mt bB).2.2.2.2]
  have qJ:=I.up dD.1;have k5:=qJ.l3 (λa l=>⟨nG a l,O_ a l⟩) dD.2.1.2 b4.2;have qA:=dD.aj' dz b4 Oy nG;rw[aj a4 co (.buf<|br aN) _ _ _ ⟨V,(bm,cT),V⟩ ⟨λa l=>bR l,λa l=>bS l (λe=>.inr<|a5 (aK.trans a7).2<|nG a e) .inl,λu c=>.inl c,λa l=>?_,λj gc=>?_,?_⟩ k5 qA nD q]
  .rw[bS l (λe=>?_) λe=>?_]
   .rw[.inl<|b7 e]
   .rcases qt with⟨rfl,_⟩|⟨rfl,rfl⟩
    .rw[.inl<|bR e]
    .rw[dw e (λe=>.inl<|bR<|e▸bB) λe=>.inr<|a5 (aK.trans a7).2<|nG a<|bg e▸bB]
  .rcases jf.mp gc with e|e<;>rw[db e]
  .rw[((aK.trans a7).mono aR aR).trans<|b4.mono (λC ae=>bR ae) aR]
section
variable{b:au}{x:Nat}{s:cq}{O:dA}{p:Env}{r L ay:List aE}{aa:Nat}{y:b_}{hb:Int}{qz:dV}{a6:List Bool}{aN:List Int}{k:Option<|aE×aE}{an:Inv}{i rZ oV c4:bJ}{e oS ax d' fn fQ iC i_ mi qo C3 xz:Pos}{a:Array UInt8}{jb:Inv->Prop}{m:i6}
theorem dF.ake(aM:eF ah)(mP:∀p,uZ i "getbits" p (ee i p)=ee i p)(iM:(oS.endLine==ax.line)=ag)(bq:dF (bh ah) (x+1) s O an y i λz bZ=>z=.buf a/\jb bZ):dF (bh ah) (x+1) s O an y (.Call (.Attribute i "getbits" oS) [] [] ax) (λz bZ=>z=.oH a/\jb bZ):=λp r L ay aa b ao G I n T A aj=>by
 rwa[ds (@bh _)];intro dx;rw[vq (az:=[]) V (by show 0<20;decide) (mP p) iM<|bq p r L ay aa b ao G I n T _ λa4 as z d1 da eZ aI dJ hM dd gA q=>g4 λu bW=>?_];obtain⟨rfl,aI⟩:=aI;obtain⟨h,bU,uL,rfl,aS,hN,bl,he,DN,oh,gx⟩:=q;rw[bW ?_];have gI:s.depth+90<recursionLimit:=by have:=ao.2;show s.depth+90<1000;rw[ct (.t (.a .x<|.n 90)<|.n 1000) [.l (.a .x<|.o .y)<|.n 900] Z this]
 rw[Hx aex gI (aM.sub dd.2) hN oh gx λar a7=>?_];have dD:=dd.grow a7;have ip:=gA.it a7 aR aR;have XY:ck ar.heap da (.buf a) (.ref h):=(Kf h bU uL V aS (a7.all _ _ hN) bl (a7.all _ _ he) DN (a7.all _ _ oh) gx);rwa[zF (lN:=[.ref h]) (M:=λD=>bG (bh ah) p da L eZ y D/\ck D.heap da (.buf a) (.ref h)/\d1.At (bh ah) p da L D) (k:=GO aU (ų ah.1) ah.4) (bp:=Eu (ų ah.1) ah.4) V (by show 0<20;decide) jo ⟨dD,XY,ip⟩ (λD e=>aM.sub e.1.2 _ _ _ (XX ..) V) V (λD fp e t=>⟨e.1.grow t,ck.to (λa k l i=>⟨t.all _ _ i,l⟩) _ _ e.2.1,e.2.2.it t aR aR⟩)];rintro aV co b4 rfl;have i8:=dD.grow b4;rw[aig (x:=x) aM ao hM i8 (ck.to (λa k l i=>⟨b4.all _ _ i,l⟩) _ _ XY) λo0 cv eL O8=>aj o0 cv (.oH a) d1 da eZ ⟨V,aI⟩ (dJ.trans<|gV.rI<|(a7.trans b4).trans eL) hM (i8.grow eL) ((ip.it b4 aR aR).it eL aR aR) O8]
theorem aii(aq:List Int):∀(N:List aF),gu N=gu aq->(∀(Q:Nat)z,N[Q]?=W z->∃D,z=.int (aq.getD Q 0) D)->b9 c r (aq.map bj.int) N:=by induction aq with
 |nil=>intro eV;cases eV with|nil=>intro eM hq;show b9 c r [] [];rw[V]|cons cR e3=>intro c hq;cases c
 |cons o aq a3=>intro eV;cases eV with
  |nil=>intro c hq;cases c|cons z N=>
   intro aw aQ;rw[(ie z N V ?_<|a3 N (by simpa using aw) λQ aG dX=>?_)]
   .rw[c1 (aQ 0 z V) λD i=>(ov D i)]
   .rw[aQ (Q+1) aG dX]
theorem dF.akg(aM:eF ah)(R:fe O "list"=ag)(sT:fI aN)(ae:gu aN<=2^24)(bq:dF (bh ah) x s O an y i λz bZ=>z=ha aN/\jb bZ)(ak:dS i=ag:=by rfl):dF (bh ah) x s O an y (.Call (.Name "list" d') [i] [] ax) (λz bZ=>z=bu aN/\jb bZ):=λp r L ay aa b ao=>by
 rw[dF.SW (iV aM) VC R V ak bq ?_ p r L ay aa b ao];rintro p r L ay aa b z d1 a4 dt I n T q A aj;rw[c0 dt λeh aI=>?_];obtain rfl:=eh;rw[fK q λh fd aS hN=>?_];obtain rfl:=fd;have d4:=n8 aN;rw[kv<|Y.of<|Ui ao.1 hN (d4▸ae) λX fJ gy bm aT aL f9 ju=>?_];have t:bb [] [] b {b with heap:=X,toks:=fJ}:=bK.heap (λa k u i=>aT a k i) ju.1;rw[aj _ _ (bu aN) ⟨V,aI⟩ t<|⟨_,gy,bm,V,λe=>ia _<|cg (I.8 _ e) n.1,aL,aii aN _ (U BZ<|U f9.1<|U d4 V) λQ z aQ=>?_⟩];have cu:Q<gu aN:=by have:=(j4.mp aQ).1;rw[BZ,f9.1,d4]at this;rw[this]
 rw[fW (f9.2 Q z (by simpa using aQ)) λagp aG bH gS=>?_];obtain rfl:=gS;replace bH:=(MG cu)▸bH;cases bH;rw[⟨aG,U (MF<|MH sT cu) V⟩]
theorem dF.hook(aM:eF ah)(af:cI (bh ah) (x+3) O y rZ hb)(am:ai (bh ah) (x+3) O y oV .cH<|s3 qz)(a':ai (bh ah) (x+3) O y c4 m<|bu<|gM a6)(ak:dS rZ=ag/\dS oV=ag/\dS c4=ag)(iM:(qo.endLine==C3.line)=ag)(aI:fe O "list"=ag/\fe O "make_final_message"=ag/\fe O "Buffer"=ag)(sT:fI aN)(aij:gu aN<=2^24)(D9:gu a6<=2^20)(Et:∀(ew:cq)bm cT J e_ nm D y,1998<=cT->gk (Es hb qz a6 J bm e_ nm D) y->b' (bh ah) (x+2) ew pN (kI bm cT) y [dL 2,dL 3,dL 4,dL 5,dL 6,dL 7,dL 8,dL 9,dL 10,dL 11,dL 12] (Er bm cT aN)):dF (bh ah) (x+3) s O ((hQ 1944 1940).both<|k7 k) y (.Call (.Name "list" fn) [.Call (.Attribute (.Call (.Name "make_final_message" fQ) [rZ,oV,.Call (.Name "Buffer" iC) [c4] [] i_] [] mi) "getbits" qo) [] [] C3] [] xz) (λz bZ=>z=bu aN/\∃q,bZ=(hQ 1944 1940).both (k7<|W q)):=dF.akg aM aI.1 sT aij (dF.ake aM (λu=>V) iM<|dF.akc aM ⟨ak.1,af,ak.2.1,am,V,ai.L8 aM a' (aeh a6) (by unfold gM;rwa[U (dg ..)];rw[a5 D9 bf]) aI.2.2 ak.2.2,trivial⟩ (by show 3<20;decide) aI.2.1 Et) V
end
theorem b'.aki(c:bd g x O [] y E λc2 bP=>c2=.next/\b' g x s O an bP b0 b1):b' g x s O an y (E++b0) b1:=λp r L ay aa b ao G I n T=>by rw[d8 ?_];intro eg;rwa[Eb<|Y.mono (c s p r L ay aa b ao G I n)];rintro J as bN;rw[bN.gp λc2 bP bx cQ c' cB l dJ dt=>?_];obtain⟨rfl,aO⟩:=cB;obtain⟨rfl,eo,bs⟩:=dt;rw[⟨V,Y.mono (aO p bx cQ ay c' as ao G eo bs<|T.step I dJ) λJ w X=>X.trans dJ.yC⟩]
theorem b'.akj(c:bd g x O [] y E λc2 bP=>b1 c2 bP an):b' g x s O an y E b1:=λp r L ay aa b ao G I n T=>by rwa[Y.mono (c s p r L ay aa b ao G I n)];rintro J as eh;rw[eh.gp λc2 bP bx cQ c' aO l dJ bq=>⟨c2,bP,bx,cQ,c',an,aO,l,dJ.yC,bq,T.step I dJ⟩]
def aik(ah:DA)(x:Nat)(hb:Int)(cK:dV)(a6:List Bool)(aN:List Int):Prop:=∀(ew:cq)bm cT J e_ nm D y,1998<=cT->gk (Es hb cK a6 J bm e_ nm D) y->b' (bh ah) (x+2) ew pN (kI bm cT) y [dL 2,dL 3,dL 4,dL 5,dL 6,dL 7,dL 8,dL 9,dL 10,dL 11,dL 12] (Er bm cT aN)
noncomputable def Io(e0:List Int)(b6:Nat):Nat:=om ((e0.getD 1 0).fmod b6)
def ail(bD:Nat)(n:List Int×Int):Prop:=n.1.length=255/\(∀v∈n.1,0<=v/\v<256)/\0<=n.2/\n.2<=255/\∀j,j<gu (n.1.drop (om n.2+bD)++n.1.take (om n.2))->0<=(iX (256^bD) (nH (kH bD) bD<|(n.1.drop (om n.2+bD)++n.1.take (om n.2)).take j)<|(n.1.drop (om n.2+bD)++n.1.take (om n.2)).getD j 0).fdiv (256^bD)/\om ((iX (256^bD) (nH (kH bD) bD<|(n.1.drop (om n.2+bD)++n.1.take (om n.2)).take j)<|(n.1.drop (om n.2+bD)++n.1.take (om n.2)).getD j 0).fdiv<|256^bD)<gu (kH bD)
structure XZ(bD b6 bn:Nat)(a0:List<|List Int)(dW:List Int)(k:List<|Nat×Nat)where
 m:Nat
 ha:List<|List Int
 ol:gu k=b6
 d':∀j,j<b6->(du k j).2<gu a0/\(du k j).1<255
 a_:∀Q,Q<m->bn+Q<b6/\(jA k bn (gu a0) Q).getD (du k<|bn+Q).2 0<bD
 rx:bn+m<=b6
 JF:bn+m<b6->¬(jA k bn (gu a0) m).getD (du k<|bn+m).2 0<bD
 q:∀n∈(iq k dW bn (bn+m) (gu a0) b6).zip<|iY k bn (gu a0) m,ail bD n
 akm:((iq k dW bn (bn+m) (gu a0) b6).zip<|iY k bn (gu a0) m).map (A' (kH bD) bD)=ha
 akn:∀q∈ha,gu q=255
 bp:(ha.zip a0).map (λn=>n.1.take (gu n.2))=a0
 bV:k.map (λf=>(ha.getD f.2 []).getD f.1 0)=dW
 d3:(ha.zip a0).map (λn=>n.1.drop<|gu n.2+bD)=a0.map λa=>bX (255-(gu a)-bD) 0
 hz:∀a∈a0,gu a+bD<=255
structure X0(ah:DA)(x:Nat)(q:Nat)(g3 e0:List Int)where
 sz:Nat->Nat
 lv:Nat->Nat
 bs:List Bool
 M:List Int
 ws:List<|Nat×Nat
 lay:H' (b3 q 4) (b3 q 3) (b3 q 2) sz lv
 bits:((l8 g3 sz lv<|b3 q 3).flatMap λa=>a.flatMap r8)=gM bs
 ako:gu bs<=2^20
 akp:aik ah x (b3 q 0) (.int<|b3 q 1) bs M
 akq:fI M
 Vt:gu M=8*b3 q 2+7
 akr:M.drop (8*b3 q 2)=bX 7 0
 ord:If ((l8 g3 sz lv<|b3 q 3).map gu) ws
 aks:XZ (b3 q 4) (b3 q 2) (Io e0<|b3 q 2) (l8 g3 sz lv<|b3 q 3) (ly M<|b3 q 2)<|ws++m9 ((l8 g3 sz lv<|b3 q 3).map gu) (b3 q 4)
theorem X1(g3:List Int){c6 f5:Nat->Nat}{bD br b6:Nat}(cw:H' bD br b6 c6 f5):gu (l8 g3 c6 f5 br)<=10/\∀a∈l8 g3 c6 f5 br,gu a<=200/\∀v∈a,0<=v/\v<256:=by
 rw[⟨by unfold l8;rwa[U (dg ..)<|U mE];rw[cw.zN.2],λa l=>?_⟩];obtain⟨j,T,rfl⟩:=la.mp l;obtain⟨_,_,a',cJ,_⟩:=cw.xk j<|lb.mp T;unfold ys;rwa[ds (@Fs _ _ _ _)];intro dx;rw[⟨by rw[U e7<|U gg<|U (dg ..)<|U (sP ..) ?_];rw[eA (.l (.a .x .y)<|.n 200) [.l .z<|.n 200,.e (.a .x .y) .z] Z cJ<|dM a'],λf R=>?_⟩];rcases jf.mp R with R|R
 .rw[U (tC R) ?_];decide
 .obtain⟨m,_,rfl⟩:=la.mp R;rw[⟨BD _ bf,Fc _ bf⟩]
theorem X2:∀q,q<8->b3 q 2<=200/\1<=b3 q 2/\b3 q 3<=10:=by decide
theorem aim(aM:eF ah)(o:qL<|bh ah)(gN:List Int)(ih:gu gN<=63)(eD:∀q:Nat,q<8->Nonempty (X0 ah x q (oi<|k8 gN)<|k8 gN)):b' (bh ah) (x+3) s (fH<|dq aU 25) ((hQ 1944 1940).both<|k7 k) [("script",.f<|bu gN)] (hv<|dq aU 25) (λc2 u u=>c2=.ret (.bool ag)):=by
 rw[U (show hv (dq aU 25)=(kn.take 3++((kn.take 6).drop 3++(kn.take 7).drop 6))++kn.drop 7 from V)<|b'.aki<|ahe o gN ih λq ap A7 AQ uQ yr=>py ?_];intro qO;rw[px ?_];intro qI;rw[py ?_];intro qO;obtain⟨J⟩:=eD q ap;obtain⟨t1,t2,mp⟩:=X2 q ap;have bl:=X1 (oi<|k8 gN) J.lay;have n':gu (l8 (oi<|k8 gN) J.sz J.lv<|b3 q 3)=b3 q 3:=by unfold l8;rw[U (dg ..)<|U mE V]
 rw[ahl o _ _ ⟨AQ,A7⟩ J.lay<|bL (tB<|(kn.take 7).drop 6)<|ahu o bl<|bd.nil ⟨V,(rH ?_)⟩];intro s';conv=>arg 7;whnf
 rwa[b'.wL (dF.hook aM al.nm al.nm (ai.cast al.nm<|congrArg bu J.bits) ⟨V,V,V⟩ V ⟨by cbv,by cbv,by cbv⟩ J.akq (by rwa[U J.Vt];rw[ni 41 (.l (.a (.m 8 .x)<|.n 7)<|.n 16777216) [.l .x<|.n 200] Z t1]) J.ako J.akp) Z];rintro z xY⟨rfl,dY,rfl⟩;have ca:=J.aks;rw[b'.akj ((U (show kn.drop 8=(kn.take 11).drop 8++((kn.take 13).drop 11++((kn.take 18).drop 13++((kn.take 20).drop 18++kn.drop 20)))from V)<|bd.le (bP:=[("message",.f<|bu J.M),("data",.f<|.lst<|(l8 (oi<|k8 gN) J.sz J.lv<|b3 q 3).map bu),("checks",.f<|.int<|b3 q 4),("blocks",.f<|.int<|b3 q 3),("total",.f<|.int<|b3 q 2),("numbers",.f<|bu<|k8 gN)]) (g9 V) ?_):bd _ _ _ _ _ (kn.drop 8) _)];have Ba:=J.ord;have bk:=J.Vt;have jj:=J.akr;have X3:=J.lay.zM.2;generalize l8 (oi<|k8 gN) J.sz J.lv (b3 q 3)=a0 at*;generalize J.M=aN at*;generalize J.ws=dQ at*;have wk:((k8 gN).getD 1 0).fmod (b3 q 2)=Io (k8 gN) (b3 q 2):=(Fa<|BD _ (by rw[bM (.b2 (.n 0)<|.c .x) [.l (.n 1) .x] Z t2])).symm;have ih:gu (ly aN<|b3 q 2)=b3 q 2:=by unfold ly;rw[U (dg ..)<|U mE V]
 have jJ:gu (dQ++m9 (a0.map gu) (b3 q 4))<=5000:=by rwa[U ca.ol];rw[bM (.l .x<|.n 5000) [.l .x<|.n 200] Z t1]
 rw[ahw o t1 bk jj<|ahz o X3 bl Ba jJ<|ahF o ⟨uQ,yr⟩ mp t1 t2 ca.ol (λj T=>n'▸(ca.d' j T).1) wk (n'▸ca.a_) ca.rx (n'▸ca.JF)<|ahQ o bl.1 t1 ca.ol ih ca.d'<|ahV o X3 ⟨bl.1,λa l=>(bl.2 a l).1⟩ (A_ ..).1 (by rw[U (A8 ..)<|U n' V]) jJ (n'▸ca.q) (n'▸ca.akm) ca.akn (λf R=>?_) ca.bp ca.bV ca.d3 ca.hz];obtain⟨j,T,i⟩:=List.mem_iff_getElem.mp R;have:=ca.d' j<|ca.ol▸T;rwa[du,dG,eT T,I1,i]at this
section
def jB(k:List<|Nat×Nat)(o:Nat):Nat->Nat|0=>0|j+1=>jB k o j+(if(du k j).2=o then 1 else 0)
theorem Bb:jB k o (j+1)=jB k o j+(if(du k j).2=o then 1 else 0):=rfl
structure Ev(k:List<|Nat×Nat)(b6 br:Nat)(cw:Nat->Nat):Prop where
 len:gu k=b6
 num:∀j,j<b6->(du k j).2<br
 p8:∀j,j<b6->(du k j).1=jB k (du k j).2 j
 GF:∀o,o<br->jB k o b6=cw o
theorem Ew(k:List<|Nat×Nat)(o:Nat)(c:j<=Q):jB k o j<=jB k o Q:=by induction c with|refl=>rw[dr _]|step _ aW=>rw[a5 aW<|hf _ _]
theorem ain(k:List<|Nat×Nat)(o n:Nat)(j):n<jB k o j->∃Q,Q<j/\(du k Q).2=o/\jB k o Q=n:=by induction j with|zero=>intro c;rw[absurd c<|Js _]|succ j a3=>
  intro c;replace c:n<jB k o j+(if(du k j).2=o then 1 else 0):=c;by_cases aO:n<jB k o j
  .obtain⟨Q,af,am,a'⟩:=a3 aO;rw[⟨Q,k' af,am,a'⟩]
  .by_cases ak:(du k j).2=o
   .rw[if_pos ak]at c;rw[⟨j,kN j,ak,by rw[nj 1011 101 (.e .x .y) [.t .y<|.o .x,.i5 .y .x] Z c aO]⟩]
   .rw[if_neg ak]at c;omega
theorem Ex{a9:Type}{E:List a9}{h a:Nat}{z x:a9}(aS:h<gu E):(E.set h z).getD a x=if h=a then z else E.getD a x:=by
 rwa[U (dG)<|U (dG)];by_cases c:h=a
 .subst c;rwa[U (if_pos V)<|U (Qq aS)];rfl
 .rw[U (if_neg c)<|U (Qr c) V]
section
variable{k:List<|Nat×Nat}{b6 br bn:Nat}{cw:Nat->Nat}(cf:Ev k b6 br cw)
include cf
theorem Ip{o:Nat}:∀Q,bn+Q<=b6->(jA k bn br Q).getD o 0=if o<br then(jB k o (bn+Q):Int)-jB k o bn else 0
 |0,_=>by rw[U (jA.eq_1 ..)<|U (dG)<|U (va) ?_];split<;>simp|Q+1,c=>by
  have ak:=cf.num (bn+Q)<|eA (.t (.a .x .y) .z) [.l (.a .x<|.o .y) .z] Z c;rw[U (XC)<|U (Ex (by rw[XD,];rw[ak]))<|U (Ip Q<|eA (.l (.a .x .y) .z) [.l (.a .x<|.o .y) .z] Z c)<|U (Ip Q<|eA (.l (.a .x .y) .z) [.l (.a .x<|.o .y) .z] Z c)<|bL (sh ..)<|U (Bb) ?_];by_cases i:(du k<|bn+Q).2=o
  .subst i;rw[U (if_pos V)<|U (if_pos V)<|U (if_pos ak)<|U (if_pos ak)<|ct (.e0 (.o<|.s (.c .x)<|.c .y)<|.s (.c<|.o .x)<|.c .y) [] Z]
  .rw[U (if_neg i)<|U (if_neg i)<|U (pW ..) V]
theorem Pa{o:Nat}(l:o<br):∀Q,bn+Q<=b6->(iY k bn br Q).getD o 0=if jB k o (bn+Q)=jB k o bn then 0 else(jB k o bn:Int)
 |0,_=>by rw[U (iY.eq_1 ..)<|U (dG)<|U (va)<|U (if_pos l)<|U (pW ..)<|U (if_pos V) ?_];rfl|Q+1,c=>by
  have ak:=cf.num (bn+Q) (by rw[eA (.t (.a .x .y) .z) [.l (.a .x<|.o .y) .z] Z c]);have aO:=cf.p8 (bn+Q) (by rw[eA (.t (.a .x .y) .z) [.l (.a .x<|.o .y) .z] Z c]);have bk:=Ew k o<|hf bn Q;have aW:=Pa l Q (by rw[eA (.l (.a .x .y) .z) [.l (.a .x<|.o .y) .z] Z c]);rw[U (Ih)<|U (Ip cf Q (by rw[eA (.l (.a .x .y) .z) [.l (.a .x<|.o .y) .z] Z c]))<|U (if_pos ak)<|bL (sh ..)<|U (Bb) ?_];by_cases C:(jB k (du k<|bn+Q).2 (bn+Q):Int)-jB k (du k<|bn+Q).2 bn=0
  .rw[U (if_pos C)<|U (Ex (by rw[A8,];rw[ak])) ?_];by_cases i:(du k<|bn+Q).2=o
   .rw[U (if_pos i)<|U (if_pos i)<|U (if_neg (by rw[ct (.ne (.o .x) .y) [.l .y .x] Z bk])) ?_];subst i;rw[U aO<|nj 21 0 (.e0 (.c .x)<|.c .y) [.e0 (.s (.c .x)<|.c .y)<|.n 0] Z C]
   .rw[U (if_neg i)<|U (if_neg i)<|U (pW ..) aW]
  .rw[U (if_neg C)<|U aW ?_];by_cases i:(du k<|bn+Q).2=o
   .subst i;rw[U (if_pos V)<|U (if_neg (by omega))<|U (if_neg (by rw[ct (.ne (.o .x) .y) [.l .y .x] Z bk])) V]
   .rw[U (if_neg i)<|U (pW ..) V]
theorem aio{bD S:Nat}(bg:∀Q,Q<S->bn+Q<b6/\(jA k bn br Q).getD (du k<|bn+Q).2 0<bD){o:Nat}(l:o<br)(Q):Q<=S->bn+Q<=b6->jB k o (bn+Q)<=jB k o bn+bD:=by induction Q with
 |zero=>intro fl eM;rw[hf _ _]|succ Q a3=>
  intro c bC;have aW:=a3 (ct (.l .x .y) [.l (.o .x) .y] Z c)<|eA (.l (.a .x .y) .z) [.l (.a .x<|.o .y) .z] Z bC;obtain⟨dm,el⟩:=bg Q<|ct (.t .x .y) [.l (.o .x) .y] Z c;rw[Ip cf Q (by rw[eA (.l (.a .x .y) .z) [.t (.a .x .y) .z] Z dm]),if_pos<|cf.num _ dm]at el;rwa[bL (sh ..)<|U (Bb)];by_cases i:(du k<|bn+Q).2=o
  .subst i;rw[U (if_pos V)<|eA (.l (.o .x)<|.a .y .z) [.b2 (.s (.c .x)<|.c .y)<|.c .z] Z el]
  .rw[U (if_neg i) aW]
end
theorem aip(M:Nat->Prop)[DecidablePred M]:∀aa,¬M aa->∃S,S<=aa/\(∀Q,Q<S->M Q)/\¬M S:=by
 have cK:∀o,(∀Q,Q<o->M Q)\/∃S,S<o/\(∀Q,Q<S->M Q)/\¬M S:=by intro o;induction o with
  |zero=>rw[.inl λQ cu=>absurd cu<|Js _]|succ o aW=>
   rcases aW with c|⟨S,af,am⟩
   .by_cases aO:M o
    .rw[.inl λQ cu=>(P_.mp cu).elim (c Q) λe=>e▸aO]
    .rw[.inr ⟨o,kN o,c,aO⟩]
   .rw[.inr ⟨S,k' af,am⟩]
 intro aa hr;rcases cK aa with c|⟨S,af,am⟩
 .rw[⟨aa,dr _,c,hr⟩]
 .rw[⟨S,mB af,am⟩]
end
section
noncomputable def jC(yA:List<|List Int)(o n:Nat):Int:=(yA.getD o []).getD n 0
section
variable{k:List<|Nat×Nat}{dW:List Int}{br b6:Nat}{cw:Nat->Nat}{yA:List<|List Int}
theorem X4{j o n:Nat}(T:(du k j).2<br)(aO:(du k j).1<255)(aL:∀Q,Q<j->(du k Q).2<br):jC (iq k dW bn gs br<|j+1) o n=if(j<bn\/j>=gs)/\(du k j).2=o/\(du k j).1=n then dW.getD j 0 else jC (iq k dW bn gs br j) o n:=by
 rwa[ds (@instDecidableAnd _ _ _ _)];intro dx;obtain⟨af,am⟩:=A_ k dW bn gs br j;have a':gu ((iq k dW bn gs br j).getD (du k j).2 [])=255:=by rw[am aL _<|U (dG)<|U (eT (by rw[fq 211 (.t .x .y) [.t .x .z,.e .y .z] Z T af])) ?_];rw[nb _]
 unfold jC;rwa[U (Ep)];by_cases C:j<bn\/j>=gs
 .rw[U (if_pos C)<|U (Ex (by rw[fq 211 (.t .x .y) [.t .x .z,.e .y .z] Z T af])) ?_];by_cases i:(du k j).2=o
  .rw[U (if_pos i)<|U (Ex (by rw[fE 211 (.t .x .y) [.t .x<|.n 255,.e .y<|.n 255] Z aO a'])) ?_];by_cases cm:(du k j).1=n
   .rw[U (if_pos cm)<|U (if_pos ⟨C,i,cm⟩) V]
   .rw[U (if_neg cm)<|U (if_neg λe=>cm e.2.2)<|U i V]
  .rw[U (if_neg i)<|U (if_neg λe=>i e.2.1) V]
 .rw[U (if_neg C)<|U (if_neg λe=>C e.1) V]
variable(cf:Ev k b6 br cw)(fs:∀o,o<br->cw o<=255)(G:∀Q,Q<b6->dW.getD Q 0=jC yA (du k Q).2 (du k Q).1)
include cf fs G
theorem Pb{j:Nat}(T:j<b6):(du k j).1<255:=by have af:=cf.num j T;have am:=cf.p8 j T;have a':jB k (du k j).2 (j+1)<=jB k (du k j).2 b6:=Ew k _ T;rw[Bb,if_pos V,cf.GF _ af]at a';have:=fs _ af;rw[eA (.t .x<|.n 255) [.e .x .y,.l (.o .y) .z,.l .z<|.n 255] Z am a' this]
theorem aiq(j):j<=b6->∀Q,Q<j->(Q<bn\/Q>=gs)->jC (iq k dW bn gs br j) (du k Q).2 (du k Q).1=jC yA (du k Q).2 (du k Q).1:=by induction j with|zero=>intro fl Q c n0;rw[absurd c<|Js _]|succ j a3=>
  intro T Q c aT;rwa[U (X4 (cf.num j T) (Pb cf fs G T) λQ cu=>cf.num Q<|eA (.t .x .y) [.l (.o .z) .y,.t .x .z] Z T cu)];split
  .rename_i e;rw[U (G j T)<|U e.2.1<|U e.2.2 V]
  .rename_i e;rcases P_.mp c with C|C
   .rw[a3 (ct (.l .x .y) [.l (.o .x) .y] Z T) Q C aT]
   .subst C;rw[absurd ⟨aT,V,V⟩ e]
theorem air{o n:Nat}(ae:jC yA o n=0)(j):j<=b6->jC (iq k dW bn gs br j) o n=0:=by induction j with
 |zero=>
  intro fl;have i:(bX br<|bX 255 (0:Int)).getD o []=if o<br then bX 255 0 else[]:=by rwa[U (dG)<|U (va)];split<;>rfl
  unfold jC;rwa[U (iq.eq_1 ..)<|U i];split
  .rw[U (dG)<|U (va) ?_];split<;>rfl
  .rfl|succ j a3=>
  intro T;rwa[U (X4 (cf.num j T) (Pb cf fs G T) λQ cu=>cf.num Q<|eA (.t .x .y) [.l (.o .z) .y,.t .x .z] Z T cu)];split
  .rename_i e;rw[U (G j T)<|U e.2.1<|U e.2.2<|U ae V]
  .rw[a3<|ct (.l .x .y) [.l (.o .x) .y] Z T]
theorem ais{bD S:Nat}(aS:gs=bn+S)(bg:∀Q,Q<S->bn+Q<b6/\(jA k bn br Q).getD (du k<|bn+Q).2 0<bD)(vQ:bn+S<=b6)(eI:∀o n,o<br->cw o<=n->jC yA o n=0){o n:Nat}(ak:o<br)(aO:n<om ((iY k bn br S).getD o 0)\/om ((iY k bn br S).getD o 0)+bD<=n):jC (iq k dW bn gs br b6) o n=jC yA o n:=by
 rcases pV n (cw o)with e|e
 .rw[<-cf.GF o ak]at e;obtain⟨Q,af,am,a'⟩:=ain k o n b6 e;have X5:=cf.p8 Q af;rw[am,a']at X5;by_cases C:Q<bn\/Q>=gs
  .have:=aiq cf fs G b6 (dr _) Q af C;rwa[am,X5]at this
  .exfalso;have ox:bn<=Q/\Q<bn+S:=by omega
   have hP:=Ew k o ox.1;have lY:=Ew k o ox.2;rw[Bb,if_pos am]at lY;have uz:=aio cf bg ak S (dr _) vQ;rw[Pa cf ak S vQ,if_neg (by rw[eA (.ne .x .y) [.l .y .z,.l (.o .z) .x] Z hP lY])]at aO;omega
 .rw[U (eI o n ak e)<|air cf fs G (eI o n ak e) b6<|dr _]
theorem ait(l:∀Q,Q<b6->0<=dW.getD Q 0/\dW.getD Q 0<256)(j):j<=b6->∀q∈iq k dW bn gs br j,fI q:=by induction j with|zero=>intro fl q ap;rwa[U (tC ap)];rw[λv bV=>by rwa[U (tC bV)];decide]|succ j a3=>
  intro T q ap;have aW:=a3 (by rw[ct (.l .x .y) [.l (.o .x) .y] Z T]);rw[Ep]at ap;split at ap
  .rw[XI aW (λv bV=>?_) q ap];rcases Fq bV with e|e
   .rw[aW _ ?_ v e];have af:=(A_ k dW bn gs br j).1;have am:=cf.num j T;rwa[U (dG)<|U (eT (by rw[fq 21 (.t .x .y) [.e .y .z,.t .x .z] Z af am]))];rw[nb _]
   .rw[e▸l j T]
  .rw[aW q ap]
end
theorem getD_at{a9:Type}{E:List a9}{j:Nat}{x f:a9}(c:E[j]?=W f):E.getD j x=f:=by rwa[U (dG)<|U c];rfl
theorem at_getD{a9:Type}{E:List a9}{j:Nat}{x:a9}(c:j<gu E):E[j]?=W (E.getD j x):=by rwa[U (dG)<|U (eT c)];rfl
theorem X6{h a:List Int}(aw:gu h=gu a)(c:∀j,j<gu h->h.getD j 0=a.getD j 0):h=a:=by apply Ju aw;intro j af am;have:=c j af;rwa[dG,dG,eT af,eT am]at this
theorem aiu{h a:List Int}{m:Nat}(aw:gu h=gu a)(c:∀j,j<m->h.getD j 0=a.getD j 0):h.take m=a.take m:=by rw[X6 (by rw[U sk<|U sk<|U aw V]) λj T=>?_];rw[sk]at T;have:=c j (by rw[eA (.t .x .y) [.t .x .z,.l .z .y] Z T<|pf _ _]);rw[dG,dG]at this⊢;rw[U (Qs)<|U (Qs)<|U (if_pos (by rw[eA (.t .x .y) [.t .x .z,.l .z .y] Z T<|pf _ _]))<|U (if_pos (by omega)) ?_];rw[this]
theorem aiv{h a:List Int}{m:Nat}(aw:gu h=gu a)(c:∀j,m<=j->h.getD j 0=a.getD j 0):h.drop m=a.drop m:=by rw[X6 (U o'<|U o'<|U aw V) λj T=>?_];have:=c (m+j)<|hf _ _;rw[dG,dG]at this⊢;rwa[U (BR)<|U (BR)];rw[this]
def h9(t:List Nat)(a:List Int):List Int:=a++d2 (hR t<|a.map om)++bX (255-(gu a)-(gu t)) 0
theorem Iq(c:fI a):d2 (a.map om)=a:=by
 unfold d2;rwa[U ho];conv=>rhs;rw[<-BU a]
 rw[pa λf R=>Fa (c f R).1]
theorem Ey(c:fI a):et (a.map om):=λf R=>by obtain⟨B,a8,rfl⟩:=la.mp R;have:=c B a8;rw[tU (.t .x<|.n 256) [.b2 .x<|.n 256,.e0 (.c .x) .x] Z this.2<|pg this.1]
theorem Ez(h a:List Nat):d2 (h++a)=d2 h++d2 a:=jg
theorem yB(h:List Nat):gu (d2 h)=gu h:=dg ..
theorem aiw(l:fI a)(aw:gu a+gu t<=255):∃aP,wf t aP/\d2 aP=h9 t a:=by rw[⟨_,agK (Ey l) (by rwa[U (dg ..)];rw[aw]),?_⟩];rw[U (Ez ..)<|U (Ez ..)<|U (Iq l)<|U (Xe ..)<|U (dg ..) ?_];rfl
theorem X7(l:fI a)(aw:gu a+gu t<=255):gu (h9 t a)=255:=by unfold h9;rw[U e7<|U e7<|U (yB ..)<|U (pK ..)<|U gg<|zn 100111 1001 (.e (.a (.a .x .y) .z)<|.n 255) [.l .w<|.a .z .y,.l (.n 255)<|.a .w .x,.e (.a .z .y) .w,.e (.a .w .x)<|.n 255] Z (ef _ _) (ef _ _) (dM<|eA (.l .x .y) [.l (.a .z .x)<|.n 255,.l (.n 255)<|.a .y .z] Z aw<|ef _ _)<|dM<|ct (.l .x<|.n 255) [.l (.a .x .y)<|.n 255] Z aw]
end
theorem aix(l:fI a):fI (h9 t a):=λv bV=>by
 unfold h9 at bV;rcases jf.mp bV with e|e
 .rcases jf.mp e with e|e
  .rw[l v e]
  .obtain⟨o,ak,rfl⟩:=la.mp e;have:=NV (Ey l) o ak;rw[⟨bM (.cN (.n 0)<|.c .x) [] Z,bM (.b2 (.c .x)<|.n 256) [.t .x<|.n 256] Z this⟩]
 .rw[U (tC e) ?_];decide
theorem X8(a:List Int):(h9 t a).drop (gu a+gu t)=bX (255-(gu a)-(gu t)) 0:=by
 unfold h9;have:gu (a++d2 (hR t<|a.map om))=gu a+gu t:=by rw[U e7<|U (yB ..)<|U (pK ..) V]
 rw[bL this<|U JE V]
theorem aiy(c:gu a+gu t<=n):(h9 t a).getD n 0=0:=by
 have:=X8 (t:=t) a;have i:(h9 t a)[n]?=(bX (255-(gu a)-(gu t)) (0:Int))[n-(gu a+gu t)]?:=by rw[bL this<|U (BR)<|U (Nat.add_sub_cancel' c) V]
 rw[U (dG)<|U i<|U (va) ?_];split<;>rfl
theorem X9(J:a9->cN)(c:cN×a9->pH)(E:List a9):((E.map J).zip E).map c=E.map λa=>c (J a,a):=by induction E with|nil=>rw[V]|cons h E a3=>rw[hU,Jz,hU,a3,hU]
theorem X_{a9:Type}{J:a9->a9}{E:List a9}(c:∀h∈E,J h=h):E.map J=E:=by
 conv=>rhs;rw[<-BU E]
 rw[pa c]
theorem aiz(c:fI E)(j:Nat):0<=E.getD j 0/\E.getD j 0<256:=by rwa[U (dG)];cases i:E[j]? with|none=>decide|some f=>rw[c f<|j3 i]
theorem aiA{t:List Nat}{m b6 bn:Nat}{a0:List<|List Int}{k:List<|Nat×Nat}{dW:List Int}(c:pO m t=ag)(aI:0<m)(aT:m<=30)(ap:wd m=ag)(bl:∀a∈a0,fI a)(aw:∀a∈a0,gu a+2*m<=255)(cf:Ev k b6 (gu a0) λo=>gu (a0.getD o [])+m)(wk:bn<b6)(EA:dW=k.map λf=>jC (a0.map<|h9 t) f.2 f.1):Nonempty (XZ m b6 bn a0 dW k):=by
 have kB:=(tg c).1;have p7:∀o,o<gu a0->a0.getD o []∈a0:=λo ak=>by rwa[U (dG)<|U (eT ak)];rw[nb ak]
 have Pc:∀o,o<gu a0->(a0.map<|h9 t).getD o []=h9 t (a0.getD o []):=λo ak=>by rw[U (dG)<|U (eX)<|U (at_getD (x:=[]) ak) ?_];rfl
 have fs:∀o,o<gu a0->gu (a0.getD o [])+m<=255:=λo ak=>by have:=aw _<|p7 o ak;rw[ct (.l (.a .x .y)<|.n 255) [.l (.a .x<|.m 2 .y)<|.n 255] Z this]
 have G:∀Q,Q<b6->dW.getD Q 0=jC (a0.map<|h9 t) (du k Q).2 (du k Q).1:=λQ cu=>by rw[U EA<|U (dG)<|U (eX)<|U (at_getD (x:=(0,0))<|cf.len▸cu) ?_];rfl
 have eI:∀o n,o<gu a0->gu (a0.getD o [])+m<=n->jC (a0.map<|h9 t) o n=0:=λo n ak aO=>by unfold jC;rw[U (Pc o ak)<|aiy (by rwa[U kB];rw[aO])]
 have Dm:∀Q,Q<b6->0<=dW.getD Q 0/\dW.getD Q 0<256:=λQ cu=>by rwa[U (G Q cu)];unfold jC;rw[U (Pc _<|cf.num Q cu)<|aiz (aix<|bl _<|p7 _<|cf.num Q cu) _]
 obtain⟨S,af,am,a'⟩:=aip (λQ=>bn+Q<b6/\(jA k bn (gu a0) Q).getD (du k<|bn+Q).2 0<m) (b6-bn) λe=>by have:=e.1;rw[fq 10 .f [.t (.a .x .y) .z,.l .z<|.a .y .x] Z this<|ef _ _]
 have vQ:bn+S<=b6:=by rw[oy (.l (.a .x .y) .z) [.l .y .w,.e (.a .w .x) .z] Z af<|dM<|ct (.l .x .y) [.t .x .y] Z wk]
 have Bc:=λj=>(A_ k dW bn (bn+S) (gu a0) j).1;have iB:=A8 k bn (gu a0) S;have X':=(A_ k dW bn (bn+S) (gu a0) b6).2 cf.num;have n1:=ait cf fs G (bn:=bn) (gs:=bn+S) Dm b6<|dr _;have Ya:∀o,o<gu a0->0<=(iY k bn (gu a0) S).getD o 0/\om ((iY k bn (gu a0) S).getD o 0)+m<=255:=λo ak=>by have hP:=Ew k o<|mB wk;rw[cf.GF o ak]at hP;have:=aw _<|p7 o ak;rwa[U (Pa cf ak S vQ)];split<;>omega
 have ae:∀n∈(iq k dW bn (bn+S) (gu a0) b6).zip<|iY k bn (gu a0) S,∃o,o<gu a0/\(iq k dW bn (bn+S) (gu a0) b6)[o]?=W n.1/\(iY k bn (gu a0) S)[o]?=W n.2:=λn aO=>by obtain⟨o,ak⟩:=List.mem_iff_getElem?.mp aO;obtain⟨dm,el⟩:=BN.mp ak;rw[⟨o,iB▸(j4.mp el).1,dm,el⟩]
 have aiB:∀o,o<gu a0->A' (kH m) m ((iq k dW bn (bn+S) (gu a0) b6).getD o [],(iY k bn (gu a0) S).getD o 0)=h9 t (a0.getD o []):=λo ak=>by
  have qB:=λn=>ais cf fs G (gs:=bn+S) (bD:=m) V am vQ eI (n:=n) ak;have cp:gu ((iq k dW bn (bn+S) (gu a0) b6).getD o [])=gu (h9 t<|a0.getD o []):=by rw[U (X7 (bl _<|p7 o ak)<|kB.symm▸fs o ak)<|X' _<|U (dG)<|U (eT (by rw[Bc,];rw[ak])) ?_];rw[nb _]
  unfold jC at qB;replace qB:=(Pc o ak)▸qB;have kB:=(tg c).1;obtain⟨aP,v,i⟩:=aiw (bl _<|p7 o ak) (by rwa[U kB];rw[(fs o ak)]);unfold A'
  dsimp only;rw[U (aiu cp λj T=>qB j<|.inl T)<|U (aiv cp λj T=>qB j<|.inr T)<|bL i ?_];have aiC:∀Q,(d2 aP).drop Q=d2 (aP.drop Q):=λQ=>u9.symm;have OK:∀Q,(d2 aP).take Q=d2 (aP.take Q):=λQ=>wB.symm;rw[U (aiC ..) (U (OK ..) (bL (Ez ..) (U (Xa c aI<|og (λf R=>v.2.1 f<|BL R) λf R=>v.2.1 f<|BM R) (U (agL c aI (by rw[bM (.t .x<|.n 255) [.l .x<|.n 30] Z aT]) ap (λg c=>by
     by_cases aM:g=0
     .rw[.inl aM]
     .rw[fK (Wa c aM) λm u u i=>.inr ⟨m,i.symm⟩]) v<|(Ya o ak).2)<|bL (Ez ..)<|bL (Ez ..)<|U (mD ..)<|bL y_<|U (sl ..)<|U (sl ..) V))))]
 rw[⟨⟨S,a0.map<|h9 t,cf.len,λj T=>⟨cf.num j T,Pb cf fs G T⟩,am,vQ,λe q=>a' ⟨e,q⟩,λn aO=>?_,?_,λq ap=>?_,?_,EA.symm,?_,λa l=>by have:=aw a l;rw[ct (.l (.a .x .y)<|.n 255) [.l (.a .x<|.m 2 .y)<|.n 255] Z this]⟩⟩]
 .obtain⟨o,ak,dm,el⟩:=ae n aO;have bk:=j3 dm;have fg:=X' _ bk;have fD:=n1 _ bk;have h6:=Ya o ak;replace h6:=(getD_at el)▸h6;have qQ:fI (n.1.drop (om n.2+m)++n.1.take (om n.2)):=λf R=>by
   rcases jf.mp R with e|e
   .rw[fD f<|BL e]
   .rw[fD f<|BM e]
  rw[⟨fg,fD,h6.1,by rw[vk (.cN .x<|.n 255) [.l (.a .x .y)<|.n 255,.cN .x<|.c .x] Z h6.2<|mK _],λj T=>?_⟩];have:=agB c aI (Ey qQ) j (by rwa[U (Iq qQ)];rw[T]);rwa[Iq qQ,]at this
 .apply wD;intro o;rwa[U (eX)<|U (eX)];by_cases ak:o<gu a0
  .have dm:=at_getD (E:=iq k dW bn (bn+S) (gu a0) b6) (x:=[]) (by rwa[U (Bc ..)];rw[ak]);have el:=at_getD (E:=iY k bn (gu a0) S) (x:=0) (by rwa[U iB];rw[ak]);rwa[U ((BN (z:=((iq k dW bn (bn+S) (gu a0) b6).getD o [],(iY k bn (gu a0) S).getD o 0))).mpr ⟨dm,el⟩)<|U (at_getD (x:=[]) ak)];rw[congrArg W<|aiB o ak]
  .rw[U (o_ (l:=a0) (by rw[ct (.l .x .y) [.i5 .y .x] Z ak]))<|U (o_ (by rw[JD,Bc,iB];rw[eA (.l .x .y) [.i5 .y .z,.l .x .z] Z ak<|pf _ _])) ?_];rfl
 .obtain⟨a,l,rfl⟩:=la.mp ap;rw[X7 (bl a l) (by have:=aw a l;rw[eA (.l (.a .x .y)<|.n 255) [.e .y .z,.l (.a .x<|.m 2 .z)<|.n 255] Z kB this])]
 .rw[U (X9 ..)<|X_ λa u=>(show(h9 t a).take (gu a)=a from(by unfold h9;rw[U (mD ..)<|U List.take_left V]))]
 .rw[U (X9 ..)<|pa λa u=>?_];have:=X8 (t:=t) a;rwa[kB]at this
def hn(v:Int):List Int:=(cZ 8).map<|oQ v 8
theorem Ir(v:Int):gu (hn v)=8:=dg ..
theorem aiD:((cZ 256).all λv=>((r8 (v:Int)==hn (v:Int))&&(wj (hn (v:Int))==(v:Int)))&&(valOf ((hn (v:Int)).map (·==1))==(v:Int))&&((hn (v:Int)).all λa=>a==0||a==1))=ag:=by decide+kernel
theorem EB(c:0<=v/\v<256):(r8 v=hn v/\wj (hn v)=v)/\valOf ((hn v).map (·==1))=v/\∀a∈hn v,a=0\/a=1:=by obtain⟨o,rfl⟩:=BC c.1;have:=hH.mp aiD o<|lb.mpr<|bM (.t .x<|.n 256) [.b2 (.c .x)<|.n 256] Z c.2;rw[ir,ir,ir]at this;rw[⟨⟨eq_of_beq this.1.1.1,eq_of_beq this.1.1.2⟩,eq_of_beq this.1.2,λa l=>?_⟩];have:=hH.mp this.2 a l;simpa using this
theorem aiE{dQ:List Int}:fI dQ->dQ.flatMap r8=dQ.flatMap hn:=by induction dQ with|nil=>intro fl;rw[V]|cons v dQ a3=>intro c;rw[U nO<|U nO<|U ((EB<|c v tz).1.1)<|U (a3 λf R=>c f<|sj _ R) V]
theorem Pd:∀(E:List Int)(j:Nat)(c:j<gu E),((E.flatMap hn).drop<|8*j).take 8=hn E[j]
 |h::E,0,_=>by rw[U nO<|U (Nat.mul_zero ..)<|U BK<|U (Qt<|l_ (Ir h).symm)<|U (q2<|l_<|Ir h) ?_];rfl|h::E,j+1,c=>by
  have:(hn h++E.flatMap hn).drop 8=E.flatMap hn:=by have:=JE (l₁:=hn h) (l₂:=E.flatMap hn);rwa[Ir]at this
  rw[U nO<|U (Nat.mul_succ ..)<|U (tx ..)<|bL y_<|U this<|U (Pd E j<|Nat.lt_of_succ_lt_succ c) ?_];rfl
theorem EC(E:List Int):gu (E.flatMap hn)=8*gu E:=by induction E with|nil=>rfl|cons h E aW=>rw[U nO<|U e7<|U (Ir ..)<|U aW<|U gt ?_];rw[bM (.e (.a (.n 8)<|.m 8 .x)<|.m 8<|.o .x) [] Z]
def pR(dQ:List Int):List Bool:=(dQ.flatMap hn).map (·==1)
theorem aiF(c:fI dQ):dQ.flatMap hn=gM (pR dQ):=by
 unfold gM pR;rwa[U ho];conv=>lhs;rw[<-BU<|dQ.flatMap hn]
 rw[(pa λf R=>?_)];obtain⟨v,bV,R⟩:=tE.mp R;rcases(EB<|c v bV).2.2 f R with rfl|rfl<;>rfl
theorem aiG(c:fI dQ)(T:j<gu dQ):jz (pR dQ) j=dQ.getD j 0:=by
 have aw:gu (pR dQ)=8*gu dQ:=by unfold pR;rw[U (dg ..)<|U (EC ..) V]
 have aA:s4 (pR dQ) (8*j)=(hn dQ[j]).map (·==1):=by
  unfold s4;have bH:((pR dQ).drop<|8*j).take 8=(hn dQ[j]).map (·==1):=by unfold pR;rw[bL u9<|bL wB<|U (Pd dQ j T) V]
  rw[U bH<|U (PT<|aw.symm▸Ji 8 T)<|tB _]
 unfold jz;rw[U aA<|U ((EB<|c _<|nb T).2.1)<|U (dG)<|U (eT T) ?_];rfl
theorem Yb:∀(E:List<|Nat×List Int)(a0:List<|List Int)(Q:Nat)(av aC:List<|List Int),E=a0.map (λa=>(gu a,t))->(∀j,j<gu a0.flatten->J (Q+j)=a0.flatten.getD j 0)->E.foldl (λst n=>(st.1+n.1,st.2.1++[lx J st.1 n.1],st.2.2++[pJ n.2<|lx J st.1 n.1])) (Q,av,aC)=(Q+gu a0.flatten,av++a0,aC++a0.map (pJ t))
 |_,[],Q,av,aC,c,_=>by rwa[U c];simp|_,a::a0,Q,av,aC,c,bi=>by
  rwa[U c];have l:lx J Q (gu a)=a:=by
   apply wD;intro j;unfold lx;rwa[U (eX)];by_cases T:j<gu a
   .rw[U (nN T)<|U (eT T)<|U (tu ..)<|U (bi j (by rw[kr,e7];rw[eA (.t .x<|.a .y .z) [.t .x .y] Z T]))<|U kr<|U (dG)<|U (u_ T)<|U (eT T) ?_];rfl
   .rw[U (o_ (by simpa using T))<|U (o_ (by simpa using T)) ?_];rfl
  have aW:=Yb (J:=J) (a0.map λa=>(gu a,t)) a0 (Q+gu a) (av++[a]) (aC++[pJ t a]) V λj T=>by rw[U (sh ..)<|U (bi (gu a+j) (by rw[kr,e7];rw[eA (.t (.a .x .y)<|.a .x .z) [.t .y .z] Z T]))<|U kr<|U (dG)<|U (y9<|hf _ _)<|U (Ff ..)<|U (dG) V]
  rwa[U hU<|U Fn]
  dsimp only;rw[U l<|U aW<|U kr<|U e7<|U hU<|U (sh ..)<|U (mD ..)<|U (mD ..) ?_];rfl
theorem aiH(c:hm m_=a0.map λa=>(gu a,t))(l:fI a0.flatten):mu (jz<|pR a0.flatten) (hm m_)=(gu a0.flatten,a0,a0.map<|pJ t):=by
 have:=Yb (J:=jz<|pR a0.flatten) (hm m_) a0 0 [] [] c λj T=>by rwa[U (sg ..)];rw[aiG l T]
 rw[sg]at this;rw[this]
def jD(a6:List<|List Int):List Int:=(cZ (om (td<|a6.map λa=>(gu a:Int)))).flatMap λm=>a6.flatMap λa=>if m<a.length then[a.getD m 0]else[]
theorem Pe(a6:List<|List Int):ms a6=(jD a6).flatMap hn:=by
 unfold ms jD;rw[U Qu (congrArg (List.flatMap · _) (funext λm=>U Qu (congrArg (List.flatMap · _)<|funext λa=>?_)))];split
 .rw[(tB _).symm]
 .rfl
theorem Yc(c:f∈jD a6):∃a∈a6,f∈a:=by
 obtain⟨m,_,c⟩:=tE.mp c;obtain⟨a,l,c⟩:=tE.mp c;split at c
 .rename_i aT;rw[⟨a,l,(U (hG.mp c)<|U (dG)<|U (eT aT) ?_)⟩];rw[nb aT]
 .rw[nomatch c]
theorem aiI(c:fI E):ly (E.flatMap hn++C) (gu E)=E:=by
 unfold ly;apply Ju (by rw[U (dg ..)<|U mE V]);intro j af am;rwa[U (List.getElem_map ..)<|U (List.getElem_range ..)];have aw:=EC E;have i:((E.flatMap hn++C).drop<|8*j).take 8=hn E[j]:=by rw[U (List.drop_append_of_le_length (by rw[fq 241 (.l (.m 8 .x) .y) [.t .x .z,.e .y<|.m 8 .z] Z am aw]))<|U (Qt (by rw[o',];rw[lJ 241 (.l (.n 8) .x) [.t .y .z,.e .w<|.m 8 .z,.l .w<|.a .x<|.m 8 .y] Z am aw<|ef _ _]))<|U (Pd E j am) V]
 rw[U i<|U ((EB<|c _<|nb am).1.2) V]
noncomputable def ti(f:Nat×Nat):Nat:=f.1*8+f.2
def nJ(c6:List Nat):List Nat:=(iD c6).map ti
noncomputable def Is(aV:List Nat)(j Q:Nat):Bool:=kq (aV.getD j<|aV.headD 0)<|aV.getD Q<|aV.headD 0
def qR(c6:List Nat):List (Nat×Nat):=(cZ (om (td<|c6.map λ(o:Nat)=>(o:Int)))).flatMap λm=>c6.zipIdx.flatMap λe=>if m<e.1 then[(m,e.2)]else[]
def It(c6:List Nat):Bool:=i0 (gu c6) 8&&i0 2 (gu (nJ c6))&&i0 (gu (nJ c6)) 5000&&(match x6 (Is<|nJ c6) (gu (nJ c6)) (cZ (gu (nJ c6)))with|some n=>i0 (gu n) 5000&&n.map (λj=>(nJ c6).getD j<|(nJ c6).headD 0)==(qR c6).map ti|none=>be)
theorem map_getD{a9 cN:Type}{J:a9->cN}{x:a9}{uG:cN}{a1:List a9}(c:0<gu a1)(j:Nat):(a1.map J).getD j ((a1.map J).headD uG)=J (a1.getD j<|a1.headD x):=by cases a1 with|nil=>cases c|cons D a1=>rw[U (dG)<|U (dG)<|U (eX) ?_];cases(D::a1)[j]?<;>rfl
theorem getD_mem{a9:Type}{x:a9}{a1:List a9}(c:0<gu a1)(j:Nat):a1.getD j (a1.headD x)∈a1:=by cases a1 with|nil=>rw[nomatch c]|cons D a1=>
  rwa[U (dG)];by_cases T:j<gu (D::a1)
  .rw[U (eT T) ?_];rw[nb T]
  .rw[U (o_<|sf T) ?_];rw[tz]
theorem aiJ{a9:Type}{x:a9}{a6:List a9}{n:a9×Nat}(c:n∈a6.zipIdx):a6.getD n.2 x=n.1:=by have:=y'.mp c;rwa[U (dG)<|U this];rfl
theorem ED{a9 cN:Type}{E:List a9}{J t:a9->List cN}(c:∀h∈E,J h=t h):E.flatMap J=E.flatMap t:=by rw[U Qv<|U Qv<|U (pa c) V]
theorem aiK(c:f∈iD c6):f.2<gu c6:=by obtain⟨e,aY,c⟩:=tE.mp c;obtain⟨n,_,rfl⟩:=la.mp c;rw[(j4.mp<|y'.mp aY).1]
theorem aiL{c6:List Nat}{f:Nat×Nat}(c:f∈qR c6):f.2<gu c6/\f.1<c6.getD f.2 0:=by
 obtain⟨m,_,c⟩:=tE.mp c;obtain⟨e,aY,c⟩:=tE.mp c;split at c
 .rename_i aT;rw[U (hG.mp c)<|⟨((j4.mp<|y'.mp aY).1),by rwa[U (aiJ aY)];rw[aT]⟩]
 .rw[nomatch c]
theorem aiM(R:f.2<8)(a8:B.2<8):v_ (ff f) (ff B)=kq (ti f) (ti B):=by
 have l:∀h a:Nat,kq h a=decide (h<a):=λh a=>by cases c:kq h a with
  |true=>rw[(decide_eq_true<|mC c).symm]|false=>rw[(decide_eq_false λe=>by rw[show kq h a=ag from Fe e]at c;rw[R4 c]).symm]
 rwa[U (l ..)];rw[(?_:(bif(f.1:Int)==B.1 then v_ [(f.2:Int)] [(B.2:Int)]else decide<|(f.1:Int)<B.1)=_)];cases af:((f.1)==(B.1:Int))with
 |false=>
  have af:f.1≠B.1:=λe=>by replace af:=e▸af;simp at af
  show decide _=decide _
  congr 1;unfold ti;rw[propext (by
     have st:∀{h a g x:Nat},a<8->h<g->h*8+a<g*8+x:=λR e=>cg (P4 R _)<|a5 (y2 _ 8▸BI 8 e)<|hf _ _;rw[⟨λe=>st R<|E'.mp e,λe=>E'.mpr ?_⟩];rcases Nat.lt_or_gt_of_ne af with C|C
     .rw[C]
     .rw[absurd (st a8 C)<|Jp e])]|true=>
  have af:f.1=B.1:=by have:=eq_of_beq af;rw[nj 21 0 (.e .x .y) [.e0 (.c .x)<|.c .y] Z this]
  rw[(?_:(bif(f.2:Int)==B.2 then v_ [] []else decide<|(f.2:Int)<B.2)=_)];cases am:((f.2)==(B.2:Int))with
  |false=>
   have am:f.2≠B.2:=λe=>by replace am:=e▸am;simp at am
   show decide _=decide _
   congr 1;unfold ti;apply propext;rw[⟨λbN=>lJ 41 (.t (.a (.r .x 8) .y)<|.a (.r .z 8) .w) [.e .x .z,.b2 (.c .y)<|.c .w] Z af bN,λbN=>lJ 51 (.b2 (.c .x)<|.c .y) [.e .z .w,.t (.a (.r .z 8) .x)<|.a (.r .w 8) .y] Z af bN⟩]|true=>
   have am:f.2=B.2:=by have:=eq_of_beq am;rw[nj 21 0 (.e .x .y) [.e0 (.c .x)<|.c .y] Z this]
   have i:=J4 af am;subst i;rw[(decide_eq_false<|ia _).symm]
theorem aiO{c6:List Nat}(c:It c6=ag):If c6 (qR c6):=by
 unfold It at c;simp only[ir]at c;obtain⟨⟨⟨af,am⟩,a'⟩,cJ⟩:=c;have af:=mC af;have am:=mC am;have a':=mC a';have cp:gu (nJ c6)=gu (iD c6):=dg ..;have Yd:0<gu (iD c6):=by rw[ct (.t (.n 0) .x) [.l (.n 2) .y,.e .y .x] Z am cp]
 cases G:x6 (Is<|nJ c6) (gu (nJ c6)) (cZ (gu (nJ c6)))with
 |none=>replace cJ:=G▸cJ;rw[iJ cJ]|some bs=>
  replace cJ:=G▸cJ
  dsimp only at cJ;rw[ir]at cJ;obtain⟨ez,gD⟩:=cJ;have ez:=mC ez;have gD:=eq_of_beq gD;have Pf:∀j,(nJ c6).getD j ((nJ c6).headD 0)=ti ((iD c6).getD j<|(iD c6).headD (0,0)):=λj=>map_getD Yd j;have ak:∀j,((iD c6).getD j<|(iD c6).headD (0,0)).2<gu c6:=λj=>aiK<|getD_mem Yd j;rw[⟨Is<|nJ c6,bs,by rw[fE 211 (.l .x<|.n 1048576) [.l .y<|.n 5000,.e .y .x] Z a' cp],by rw[ct (.l (.n 2) .x) [.l (.n 2) .y,.e .y .x] Z am cp],by rw[bM (.l .x<|.n 1048576) [.l .x<|.n 5000] Z ez],λj Q=>?_,by rwa[bL cp];rw[G],?_⟩]
  .unfold Is;rw[U (Pf ..)<|U (Pf ..)<|aiM (cg (ak j) af)<|cg (ak Q) af]
  .have Ye:∀f:Nat×Nat,f.2<8->(ti f/8,ti f%8)=f:=λf R=>by unfold ti;rw[J4 (by dsimp only;rw[kU 1004 10114 (.e .x .y) [.t .z<|.n 8,.l (.m 8 .x)<|.a (.r .y 8) .z,.t (.a (.r .y 8) .z)<|.a (.m 8 .x)<|.n 8] Z R (p2 _ 8)<|rh _ 7]) (by dsimp only;rw[si,y0,Fg R])]
   have bH:(bs.map λj=>(iD c6).getD j<|(iD c6).headD (0,0))=(bs.map λj=>(nJ c6).getD j<|(nJ c6).headD 0).map λg=>(g/8,g%8):=by
    rw[U ho<|pa λj u=>?_]
    dsimp only[Rv];rw[U (Pf ..)<|U (Ye _<|cg (ak j) af) V]
   rw[U bH<|U gD<|U ho<|X_ λf R=>Ye f<|cg (aiL R).1 af]
noncomputable def Iu:List (Nat×Nat)->List Nat->Option (List Nat)|[],aV=>W aV|f::E,aV=>bif kq f.2 (gu aV)&&u2 (aV.getD f.2 0) f.1 then Iu E (aV.set f.2<|f.1+1)else aX
theorem Yf{k:List<|Nat×Nat}{br:Nat}{gv:List Nat}:∀(E:List<|Nat×Nat)(j:Nat)(aV:List Nat),k.drop j=E->j<=gu k->gu aV=br->(∀o,o<br->aV.getD o 0=jB k o j)->Iu E aV=W gv->(∀Q,j<=Q->Q<gu k->(du k Q).2<br/\(du k Q).1=jB k (du k Q).2 Q)/\∀o,o<br->gv.getD o 0=jB k o (gu k)
 |[],j,aV,bl,T,aw,aA,ap=>by
  have cp:j=gu k:=by have:=congrArg gu bl;rw[o']at this;simp at this;rw[kU 101 10011 (.e .x .y) [.l .x .y,.e .z<|.n 0,.l .y<|.a .z .x] Z T this<|ef _ _]
  subst cp;cases ap;rw[⟨λQ af am=>absurd am<|Fd.mpr af,aA⟩]|f::E,j,aV,bl,T,aw,aA,ap=>by
  have cG:j<gu k:=by have:=congrArg gu bl;rw[o',gt]at this;rw[(iv (j)<|gu k).elim (λer=>lJ 21 (.t .x .y) [.e .z<|.o .w,.e (.a .z .x) .y] Z this<|dM er) λer=>lJ 20 (.t .x .y) [.e .z<|.o .w,.e .z<|.n 0] Z this<|jl er]
  have R:du k j=f:=by
   have:(k.drop j)[0]?=W f:=by rwa[U bl];rfl
   rw[BR,pW]at this;rw[getD_at this]
  replace ap:(bif kq f.2 (gu aV)&&u2 (aV.getD f.2 0) f.1 then Iu E (aV.set f.2<|f.1+1)else aX)=W gv:=ap;cases l:(kq f.2 (gu aV)&&u2 (aV.getD f.2 0) f.1)with
  |false=>replace ap:=l▸ap;rw[nomatch ap]|true=>
   rw[l,cond_true]at ap;obtain⟨fg,fD⟩:=kJ.mp l;have fg:f.2<gu aV:=mC fg;have fD:=Jk fD;have Eh:=aA f.2<|aw▸fg;obtain⟨dY,eN⟩:=Yf E (j+1) (aV.set f.2<|f.1+1) (by rwa[bL y_<|U bl];rfl) cG ((u' ..).trans aw) (λo ak=>by
    rw[U (Ex fg)<|U (Bb)<|U R ?_];split
    .rename_i i;subst i;rw[bL Eh<|U fD V]
    .rw[aA o ak]) ap;rw[⟨λQ af am=>?_,eN⟩];rcases pV j Q with C|C
   .rw[dY Q C am]
   .have i:Q=j:=u1 C af;subst i;rw[U R<|⟨aw▸fg,by rw[bL Eh<|U fD V]⟩]
def Iw(c6:List Nat)(bD b6:Nat):Bool:=u2 (gu (qR c6++m9 c6 bD)) b6&&Iu (qR c6++m9 c6 bD) (bX (gu c6) 0)==W (c6.map λo=>o+bD)
theorem aiP{c6:List Nat}{bD b6:Nat}(c:Iw c6 bD b6=ag):Ev (qR c6++m9 c6 bD) b6 (gu c6) (λo=>c6.getD o 0+bD):=by unfold Iw at c;obtain⟨af,am⟩:=kJ.mp c;have af:=Jk af;have am:=eq_of_beq am;obtain⟨dY,eN⟩:=Yf (k:=qR c6++m9 c6 bD) _ 0 _ V (eQ _) gg (λo ak=>by rw[U (dG)<|U (va)<|U (if_pos ak) ?_];rfl) am;rw[⟨af,λj T=>(dY j (eQ _)<|af▸T).1,λj T=>(dY j (eQ _)<|af▸T).2,λo ak=>bL af<|bL (eN o ak)<|U (dG)<|U (eX)<|U (at_getD (x:=0) ak) ?_⟩];rfl
noncomputable abbrev qS:OpenLaw:=J2
set_option tactic.hygienic true in theorem aiQ{c:e1}{j:Nat}{k:Obj}(i:Ű c j=W k):hW k=W k:=by
 unfold Heap.get? at i;split at i
 .cases i
 .rename_i f;obtain⟨g,x,rL,bz⟩:=k;cases rL<;>first|rfl|rw[absurd i<|f _ _ _]
theorem aiR(M:cY)(ž:Nat->Obj)(ab:Nat)(life:mw)(aw:(pc M).life=life):∀a k,Ű (pc M) a=W k->¬theTopsOwn (pc M) a->Ű (oc M ž ab life) a=W k:=by
 intro a k l ak;have cG:a<11:=by have:=dK l;rw[this]
 have i:=congrArg (λE=>E[a]?)<|adN M ž ab;simp only[eX,nN cG,tu,Fu]at i;have a':(a==mz)=be:=beq_false_of_ne λe=>ak<|.inl e;have cJ:(a==qY)=be:=beq_false_of_ne λe=>ak<|.inr<|.inl e;rw[a',cJ]at i;simp only[Bool.or_self,cond_false]at i;rw[Vq l]at i;have rl:a<1998:=BF cG (by decide);rw[(tK rl i).trans<|aiQ l]
theorem Yg(M:cY)(ž:Nat->Obj)(ab:Nat)(life:mw):(oc M ž ab life).nsMap mainGlobals "law"=W (.ref 1997):=by cbv
theorem aiS(M:cY)(ž:Nat->Obj)(ab:Nat)(life:mw):Ű (oc M ž ab life) 1997=W (GQ aU M ab):=by cbv
theorem aiU(M:cY)(ž:Nat->Obj)(ab:Nat)(life:mw):isTheDefsW aU (oc M ž ab life) "law":=by
 rw[⟨1997,_,_,ut<|dq aU 25,hv<|dq aU 25,fH<|dq aU 25,(Rw (Dz ..) _).trans<|Yg ..,aiS ..,V,?_,V,V,V,V,V,V,V,V,?_⟩]
 .cbv
 .rw[⟨.inl ⟨by cbv,V⟩,[],by cbv,.inl ⟨V,V⟩⟩]
theorem Yh:J2.wellSaid=ag:=by cbv
theorem aiV{g:ClaimW}{Yi:List aF->Sem Fin}{v:cU}{b:au}{aiW:aE->Prop}{eG:Prop}{Pg:e1->Prop}(ae:b.asleep)(aiX:b.gens=#[])(aiY:∀gF,g.pre gF=ag->WData.layableAll gF=ag->∀ord:List DictEntry->List DictEntry,(∀E,(ord E).Perm E)->∃N as,B6 g.records (Bx b.heap) (ų v) ord gF b=W (N,as)/\j5 (cD g.prog v) s0 (Yi N) (λgv u w=>∃J,gv=.done J/\(g.Ends b gF N as (.ok J) w/\w.os=b.os/\B2 w.gens/\Pg w.heap)) (λu u u=>False) default as):g.CallFrom (λN=>⟨Yi N,.builtin "claim.caller" {},default,[]⟩) v aiW eG Pg b:=by
 intro gF Dx Ph ord Ba;rw[fW (aiY gF Dx Ph ord Ba) λN as Ix AX=>?_];have gY:=layAllW_rest _ _ _ Ix;rw[Y1 (wp_halts_full (M:=cD g.prog v) (s:=as) (R:=λq w=>g.Ends b gF N as q w/\w.os=b.os/\Pg w.heap) (JT gY.2.2.2 ae) (mF _ _ _ (by rintro gv n w⟨J,rfl,af,am,a',cJ⟩;rw[⟨⟨af,am,cJ⟩,leftWithCleanup_false_of_bare a'⟩]) (λu u u c=>c.elim) _ _ AX)) λm q d_ w aiZ MZ ai0 CA rP Pi=>?_];rw[kO (Shared.forget_eq ai0) λYj u u m2 u=>?_];have CA:=CA.congr Yj;replace Pi:=Yj▸Pi;replace rP:=m2▸rP;rw[(vg N as Ix<|RI m _ w aiZ ?_ (λu j f R=>by replace R:=aiX▸R;trivial) Pi (U ((runN_life _ _ _ MZ).trans gY.2.2.2) V)<|Q8 rP)];rcases CA with⟨z,rfl,Pj,Pl,Pm,Pn,Po⟩|⟨i,im,ai1,rfl,Pj,Pl,Pm,Pn,Po⟩
 .rw[.inl<|Zc z V Pj Pl Pm (λa k B u=>Pn a k B) Po]
 .rw[.inr<|RI i im ai1 V Pj Pl Pm Pn λa k B u=>Po a k B]
theorem ai2(aJ:List Int):∀(b:au),∃N,wH N aJ/\B6 [] me M ord (aJ.map .int) b=W (N,{b with toks:=b.toks+gu aJ}):=by induction aJ with
 |nil=>intro b;rw[(dj [] .nil V)]|cons f aJ a3=>
  intro b;obtain⟨N,aQ,i⟩:=a3 {b with toks:=b.toks+1};rw[(dj (.int f b.toks::N) (.cons _ _ aQ)<|U hU<|U (layAllW.eq_2 ..)<|U (layW.eq_3 ..) ?_)]
  dsimp only;rwa[U i]
  dsimp only;rw[U gt<|U (sh ..)<|U (tx 1 ..) V]
theorem ai3(c:WShape.hasItems [] aJ .int=ag):∃aq:List Int,aJ=aq.map .int:=by induction aJ with|nil=>rw[⟨[],V⟩]|cons f aJ aW=>replace c:=kJ.mp c;rw[c1 (aW c.2) λaq bN=>?_];obtain rfl:=bN;cases f with|int j=>rw[⟨j::aq,V⟩]|_=>rw[iJ c.1]
theorem ai4(c:qS.row.toRowW.claim.pre gF=ag):∃aJ:List Int,gF=[.list<|aJ.map .int]/\gu aJ<=63:=by rw[c0 (kJ.mp c) λaf am=>?_];cases gF with|nil=>rw[Rx]at af;rw[iJ af]|cons f q=>rw[c0 (kJ.mp af) λa' cJ=>?_];cases q with|cons B q=>rw[Rx]at cJ;rw[iJ cJ]|nil=>cases f with
   |list aJ=>
    rw[c1 (ai3<|(tk _).symm.trans a') λaq gS=>?_];obtain rfl:=gS;rw[(dj aq V ?_)];change WTm.holds [] (.and (.not<|.lt (.lit<|.int 63)<|.len<|.arg 0)<|.lit<|.bool ag) {args:=[.list<|aq.map .int]}=ag at am;by_cases aA:gu aq<=63
    .rw[aA]
    .exfalso;have:(63:Int)<(gu aq):=bM (.b2 (.n 63)<|.c .x) [.nl .x<|.n 63] Z aA;have i:less? (WData.int 63) (WData.int (gu aq))=W ag:=by rw[less?,Num.less?];simp;omega
     simp[WTm.holds,WTm.value,i]at am|_=>rw[iJ a']
noncomputable abbrev lA(b:au)(N:List aF)(ab:Nat):Shared:={b with heap:=b.heap.push {cls:=.type "list",data:=.seq N.toArray},toks:=ab}
def Yk:Prop:=∀(v:cU)(b:au)(os:tt),oY v os b->∀(aJ:List Int)(N:List aF)(ab:Nat),gu aJ<=63->wH N aJ->Y aU v callerA (eS (.ref 1997) [.ref 1998] []) (λz w=>z=.bool ag/\w.os=b.os/\B2 w.gens/\OldK (lA b N ab).heap w.heap) (lA b N ab)
theorem ai5:aU.bare:=⟨by cbv,by cbv,by cbv,by cbv,by cbv,by cbv⟩
theorem Yl:qS.row.toRowW.promised:=⟨[.list []],by cbv,by cbv⟩
theorem ai6(c:Yk):J2.Holds:=by
 rw[⟨Yh,row_said Yh,Yl,⟨ai5,Z,V⟩,Yl.witness,λv=>fK (adM v) λos ae ao ai7=>?_⟩];rw[⟨(ov _ ao),λb G=>?_⟩];obtain rfl:=ai7 b G;rw[(sq _ (Vw _) V<|fK (by
    rw[jH ((wp_iff_halts (M:=cD aU v) (c:=.builtin "claim.caller" {}) (topStub aU).cur (λq w=>q=.ok (.ret .none)/\oY v os w) default<|vY v ze os).mp (mF _ _ _ (λgv n w X=>by obtain⟨rfl,hl⟩:=X;rw[⟨⟨V,hl⟩,U hl.2 (by cbv)⟩]) (λu u u X=>X.elim) default _<|adL (v:=v) ze os)) λo q w ak cB hl=>?_];obtain rfl:=cB;rw[g4 λu bW=>fK (runNI_real (den:=(cD aU v).den) (prog:=aU) (w:=v) ak V) λd_ ap bi aA=>?_];obtain rfl:d_=w:=Shared.eq_of_forget_eq bi hl.2;rw[fW (ado ap aA ae) λS jr bk bC=>bW<|sq d_ hl (vg S jr bk bC)<|runN_life _ _ _ ap]) λb hl ai8 aw=>?_)];rw[(Zb b (by
    rw[g4 λu bW=>?_];rw[bt hl.1 λa1 bN cO=>?_];rw[kP bN λž ab cV=>?_];rw[bW ?_];rw[cV]at cO;rw[⟨ai8,aw,Q8 hl.3,?_,?_,?_,?_,?_,?_,?_,?_,?_⟩]
    .intro a k l ak;rw[cO,];rw[aiR _ _ _ _ aw.symm a k l ak]
    .rw[cO,];rw[Heap.accountedI_of_ok<|adO ..]
    .rw[cO,];rw[statics_of_ok<|adP ..]
    .rw[cO,];rw[Pin.keysAreStrs_of<|Dz ..]
    .rw[cO,];rw[λf R=>(Pin.builtinOf_eq (Nl ..) f).trans<|Heap.of_bltView (Nl ..) (adQ ..) f R]
    .rw[cO,];rw[J' (Heap.bmainOk_spec<|adT (ų v) ž ab b.heap.life) λAB im h u g x J u=>?_];rw[⟨AB,im,(Rw (Dz ..) _).trans h,g,x,J⟩]
    .rw[hl.2,];intro t aI;simp at aI
    .rw[cO,];rw[names_of_bound<|adR ..]
    .rw[cO,];rw[laid_of_kept<|adS ..]) ?_ (λf R=>(db R)) (λf R=>(db R)) ?_)]
 .intro o ak;obtain rfl:o=mG "law":=((by simpa using ak:qS.row.pinned=ag/\o=qS.row.name).2);rw[bt hl.1 λa1 gT cO=>kP gT λž ab cV=>U cO<|cV.symm▸aiU ..]
 .rw[aiV (g:=qS.row.toRowW.claim) (JT aw ae) hl.2 λgF Dx Ph ord Ba=>bt (ai4 Dx) λaJ hK R=>?_];obtain rfl:=hK;rw[bt (ai2 (me:=Bx b.heap) (M:=ų v) (ord:=ord) aJ b) λN aQ Ix=>?_];have d4:b.heap.objs.size=1998:=by rw[bt hl.1 λa1 u cO=>U cO<|vd ..]
  have Iy:B6 [] (Bx b.heap) (ų v) ord [.list<|aJ.map .int] b=W ([.ref 1998],lA b N<|b.toks+gu aJ):=by
   rw[B6,layW,Ix]
   dsimp only;rw[B6,d4]
  rw[(vg _ _ Iy ?_)];have lO:(lA b N<|b.toks+gu aJ).heap.Ns mz (b.heap.nsMap mz):=by
   rwa[ds (@Q7 _)];intro dx;have:b.heap.Ns mz (b.heap.nsMap mz):=by rw[bt hl.1 λa1 jp cO=>kP jp λž ab cV=>U cO<|cV.symm▸J5 (Dz ..)]
   rw[this.at' λk i=>eY _ i]
  have ai9:b.heap.nsMap mz "law"=W (.ref 1997):=by rw[bt hl.1 λa1 j' cO=>kP j' λž ab cV=>U cO<|cV.symm▸Yg ..]
  have cK:Y aU v callerA (do match<-nsGet mz "law"with
   |some J=>do ret<|<-eS J [.ref 1998]|none=>unsupported "claim.caller:no-such-global") (λgv w=>∃J,gv=.done J/\(qS.row.toRowW.claim.Ends b [.list<|aJ.map .int] [.ref 1998] (lA b N<|b.toks+gu aJ) (.ok J) w/\w.os=b.os/\B2 w.gens/\(qS.row.writes=ag->namesKept qS.row.toRowW.claim.prog qS.row.keeps b.heap w.heap/\∀f∈qS.row.toRowW.claim.records,∀h,Bx b.heap f.1=W h->recordClass w.heap h f.1 (f.2.map (·.1))=ag))) (lA b N<|b.toks+gu aJ):=by
   rw[d8 ?_];intro eg;rw[dC<|wpAny_nsGet lO<|Y.eq (U ai9 V) ?_];rw[hy (c v b os hl aJ N _ R aQ) λz w pm=>Y.pure<|dj _ V<|lG pm λkW aL l aT=>U kW ?_];rw[fK (reads_layAllW Ba _ _ _ Iy Ph _ λu u i=>i) λbT AJ p3 zM=>?_];have cw:Laid [] v b (lA b N<|b.toks+gu aJ) [.list<|aJ.map .int] [.ref 1998] bT:=⟨(dj ord Ba Iy),AJ,p3,zM,layAllW_keeps _ _ _ Iy,hl.2,V⟩;have t:GoodWG qS.row.toRowW.claim (Bx b.heap) (ExcName.means b.heap) [.list<|aJ.map .int] (lA b N<|b.toks+gu aJ) (.ok<|.ret<|.bool ag) w:=⟨.inl<|Zd (.bool ag) (.bool ag) [] V (λu=>V) (.bool _) (by cbv) λu=>⟨pZ,aR⟩,aT,aL,l⟩;have C:=t.laid (c:=qS.row.toRowW.claim) V V (ident_freeW V V V) cw;rw[⟨C.1,C.2.1,C.2.2,λe=>iJ e⟩]
  rw[cK s0 default caller_in V aR]
theorem Pq(c:eF ah)(aL:(e6 (ų ah.1) ah.4).get h=W k)(gY:hW k=W k)(bl:k.data=.func bp)(l:bp.body=.stmts eC)(aY:bp.code=.ref e)(Nv:(e6 (ų ah.1) ah.4).get e=W sO)(ai_:hW sO=W sO)(aQ:sO.data=.fields N)(af:N[1]?=W (.str bp.qualname D))(aS:h≠1892/\h≠1940)(ai':e≠1892/\e≠1940)(G:(bp.scope.isCoroutine||bp.scope.isGenerator)=be)(aT:bp.scope.kind=.function)(bi:(bp.scope.names.all λf=>f.2 !=.free)=ag)(aA:bp.closure=[])(aI:bp.globals=3)(iB:bp.builtins=0):zW (bh ah) h bp eC:=by have sub:=Ar c;rw[IB]at G;rw[⟨(dj k (sub _ _ _ aL gY) bl),pF _ aS,G.1,G.2,l,(Zg e sO N D aY (pF _ ai') (sub _ _ _ Nv ai_) aQ af),aT,λf R=>?_,aA,aI,iB⟩];have:=hH.mp bi f R;simpa using this
@[elab_as_elim]theorem Ym{a9:Type _}{M:List a9->Prop}(E:List a9)(c:gu E=1)(af:∀f,M [f]):M E:=by cases E with|nil=>rw[nomatch c]|cons f q=>cases q with|nil=>rw[af f]|cons B q=>rw[nomatch c]
@[elab_as_elim]theorem Yn{a9:Type _}{M:List a9->Prop}(E:List a9)(c:gu E=2)(am:∀f B,M [f,B]):M E:=by cases E with|nil=>rw[nomatch c]|cons f q=>rw[Ym q (q6 c) λB=>am f B]
@[elab_as_elim]theorem aja{a9:Type _}{M:List a9->Prop}(E:List a9)(c:gu E=3)(a':∀f B C,M [f,B,C]):M E:=by cases E with|nil=>rw[nomatch c]|cons f q=>rw[Yn q (q6 c) λB C=>a' f B C]
def Iz(M:cY)(ab:Nat):FuncData:=fdOf<|GQ aU M ab
theorem ajb(c:eF ah)(a:gU (bh ah) b):FnAt b 1997 (Iz (ų ah.1) ah.4) (hv<|dq aU 25):=xW c a (by cbv:(e6 (ų ah.1) ah.4).get 1997=W (GQ aU (ų ah.1) ah.4)) V V V (by cbv:(e6 (ų ah.1) ah.4).get 1996=W (UL aU (ų ah.1) ah.4)) V V V V V V V
theorem ajd(aM:eF ah){cw:List<|List Int}:∀{tj:List<|Nat×Nat},gu cw=gu tj->(∀(j:Nat)(E:List Int)(q:Nat×Nat),cw[j]?=W E->tj[j]?=W q->(q.1≠1892/\q.1≠1940)/\(e6 (ų ah.1) ah.4).get q.1=W (h7 "tuple" 0<|kD ah.4 q.2 E))->b9 ah.2.heap (bh ah).tabs (cw.map jc) (tj.map λq=>.ref q.1):=by induction cw with
 |nil=>intro eV;cases eV with|nil=>intro eM hq;show b9 _ _ [] [];rw[V]|cons _ _=>intro c hq;rw[nomatch c]
 |cons E cw a3=>intro eV;cases eV with|nil=>intro c hq;rw[nomatch c]|cons q tj=>intro c ap;obtain⟨af,am⟩:=ap 0 E q V V;rw[ie _ _ V (p0 q.1 _ 0 V (pF _ af) (Ar aM _ _ _ am V)<|DE E q.2)<|a3 (q6 c) λj m1 gG bH cm=>ap (j+1) m1 gG bH cm]
theorem aje{cw:List<|List Int}{tj:List<|Nat×Nat}{a1:BT}{ab:Nat}(c:(cw.zip tj).map (λe=>a1.get e.2.1)=(cw.zip tj).map λe=>W<|h7 "tuple" 0<|kD ab e.2.2 e.1)(am:∀q∈tj,q.1≠1892/\q.1≠1940):∀(j:Nat)(E:List Int)(q:Nat×Nat),cw[j]?=W E->tj[j]?=W q->(q.1≠1892/\q.1≠1940)/\a1.get q.1=W (h7 "tuple" 0<|kD ab q.2 E):=λj E q bH cm=>⟨am q<|j3 cm,Nr c (E,q)<|j3 (by rwa[gW (BN)];rw[⟨bH,cm⟩])⟩
theorem ajf(aM:eF ah):qL (bh ah)where
 toqm:=vZ aM
 lay:=⟨_,(by cbv),p0 1975 _ 0 V (pF _ bf) (Ar aM 1975 _ _ (by cbv:(e6 (ų ah.1) ah.4).get 1975=W (UH aU (ų ah.1) ah.4)) V)<|ajd aM (tj:=[(1967,930),(1968,935),(1969,940),(1970,945),(1971,950),(1972,955),(1973,960),(1974,965)]) V<|aje (by cbv) bf⟩
 min:=(by cbv)
 sum:=(by cbv)
 sorted:=(by cbv)
 Me:=⟨1982,fdOf<|MP aU (ų ah.1) ah.4,(by cbv),Pq aM (by cbv:(e6 (ų ah.1) ah.4).get 1982=W (MP aU (ų ah.1) ah.4)) V V V V (by cbv:(e6 (ų ah.1) ah.4).get 1981=W (UI aU (ų ah.1) ah.4)) V V V bf bf V V V V V V,by cbv,λb aV aw=>by rw[Yn aV aw λf B=>(tL V)]⟩
 Uo:=⟨1987,fdOf<|MQ aU (ų ah.1) ah.4,(by cbv),Pq aM (by cbv:(e6 (ų ah.1) ah.4).get 1987=W (MQ aU (ų ah.1) ah.4)) V V V V (by cbv:(e6 (ų ah.1) ah.4).get 1986=W (UJ aU (ų ah.1) ah.4)) V V V bf bf V V V V V V,by cbv,λb aV aw=>by rw[Ym aV aw λf=>(tL V)]⟩
 Up:=⟨1992,fdOf<|MR aU (ų ah.1) ah.4,(by cbv),Pq aM (by cbv:(e6 (ų ah.1) ah.4).get 1992=W (MR aU (ų ah.1) ah.4)) V V V V (by cbv:(e6 (ų ah.1) ah.4).get 1991=W (UK aU (ų ah.1) ah.4)) V V V bf bf V V V V V V,by cbv,λb aV aw=>by rw[aja aV aw λf B C=>(tL V)]⟩
theorem Yo(c:eF ah):TabAt ah.2.heap 1944 1940 #[]:=by have Pr:=Hh c _ _ _ ((show(n_ aU (ų ah.1) ah.3 ah.4).get 1944=W (MO aU (ų ah.1) ah.4)from(by cbv))) V;have Ps:=Hh c _ _ _ ((show(n_ aU (ų ah.1) ah.3 ah.4).get 1940=W (UG aU (ų ah.1) ah.4)from(by cbv))) V;rw[tab_of Pr Ps V V V V V V V V bf]
theorem Yp(c:eF ah):TabAt ah.2.heap 1894 1892 #[]:=by have Pr:=Hh c _ _ _ ((show(n_ aU (ų ah.1) ah.3 ah.4).get 1894=W (MM aU (ų ah.1) ah.4)from(by cbv))) V;have Ps:=Hh c _ _ _ ((show(n_ aU (ų ah.1) ah.3 ah.4).get 1892=W (UA aU (ų ah.1) ah.4)from(by cbv))) V;rw[tab_of Pr Ps V V V V V V V V bf]
def Yq(x:Nat):Prop:=∀(ah:DA),eF ah->∀gN:List Int,gu gN<=63->∀q:Nat,q<8->Nonempty (X0 ah x q (oi<|k8 gN)<|k8 gN)
theorem ajg(T:wH N aq):b9 c r (aq.map bj.int) N:=by induction T with|nil=>show b9 c r [] [];rw[V]|cons o D _ aW=>rw[(ie _ _ V ((ov D V)) aW)]
theorem ajh(eD:Yq 0):Yk:=by
 intro v b os aC aJ N fJ El aQ;rw[d8 ?_];intro eg;rw[fW ((show∃ž ab,eF ⟨v,b,ž,ab,b.heap.life⟩/\b.heap=oc (ų v) ž ab b.heap.life from(by
    have d4:b.heap.objs.size=1998:=by rw[bt aC.1 λa1 u cO=>U cO<|vd ..]
    rw[bt aC.1 λa1 bN cO=>kP bN λž ab cV=>?_];have i:b.heap=oc (ų v) ž ab b.heap.life:=by replace cO:=cV▸cO;rw[cO]
    rw[(vg ž ab ⟨λa k e=>?_,l_ d4.symm,aC.4⟩ i)];rw[DB]at e;rw[U i e]))) λž ab aM u=>?_];have d4:b.heap.objs.size=1998:=by rw[bt aC.1 λa1 u cO=>U cO<|vd ..]
 have d0:bb [] [] b (lA b N fJ):=bK.push b _ fJ;have Yr:gU (bh ⟨v,b,ž,ab,b.heap.life⟩) (lA b N fJ):=⟨d0.mono aR aR,λB a8 k ex bH cm eO=>⟨#[],by rw[JK.symm▸eO▸d0.all _ _ bH]⟩⟩;have aji:(lA b N fJ).heap.get? 1998=W {cls:=.type "list",data:=.seq N.toArray}:=by have:(lA b N fJ).heap.get? b.heap.objs.size=W {cls:=.type "list",data:=.seq N.toArray}:=fu _ V;rwa[d4]at this
 have DM:(lA b N fJ).heap.objs.size=1999:=by rw[U (f' ..)<|U d4 V]
 have ao:eW (0+3+1) callerA:=⟨V,bf,bf⟩;have ajj:(1998:aE)∉([1892,1940]:List aE):=bf;have ajk:∀D∈(bh ⟨v,b,ž,ab,b.heap.life⟩).tabs,D∈([1892,1940]:List aE):=λD bC=>by rcases l1.mp bC with rfl|rfl<;>decide
 rw[Tz (x:=0+3) (aa:=1999) (eH:=["script"]) (bT:=[(.cH,bu aJ)]) (iV aM) ao (ajb aM Yr) V V ajk (λh aS=>.inl<|l1.mpr (by simpa using aS)) (λf R=>by
  revert f;rwa[hg ?_]
  .decide
  .intro f R;rwa[U (bg R)];decide) (l_ DM.symm) Yr ⟨_,_,V,?_,V⟩ V (tL V) Z λw dZ cd eo bs go=>?_]
 .rw[((⟨1998,N.toArray,0,V,ajj,aji,ajg aQ⟩):ck _ _ (.lst _) _)]
 have jw:(c5 (Iz (ų v) ab) 1997<|lA b N fJ).scope=fH (dq aU 25):=V;generalize callerA.deeper (c5 (Iz (ų v) ab) 1997<|lA b N fJ)=k4 at*;generalize c5 (Iz (ų v) ab) 1997 (lA b N fJ)=eE at*;have ik:∀a k,b.heap.get? a=W k->Ű (Q7 w) a=W k:=λa k i=>cd.all _ _<|d0.all _ _ i;have t':∀a∈cc eE,1999<=a:=λa l=>DM▸dZ a l;have Ys:∀o:Nat,o<1999->o≠1892->o≠1940->o∉cc eE++([1892,1940]:List aE):=λo ak af am e=>bS e (λe=>absurd (t' o e)<|Nat.not_le.mpr ak) λe=>dw e (λe=>af e) λe=>am<|bg e;have Yt:∀o:Nat,(o=1892\/o=1940)->o∈cc eE++([1892,1940]:List aE)/\o∉([]:List aE)/\o∉cc eE/\(o∈(bh ⟨v,b,ž,ab,b.heap.life⟩).tabs\/(bh ⟨v,b,ž,ab,b.heap.life⟩).s0.heap.objs.size<=o)/\o<Ų (ű (Q7 w)):=λo ak=>by
  have cG:o<1999:=by rcases ak with rfl|rfl<;>decide
  rw[⟨bR (by rcases ak with rfl|rfl<;>decide),(λe=>db e),λe=>absurd (t' o e)<|Nat.not_le.mpr cG,.inl<|l1.mpr ak,cg (yZ cG DM.symm) cd.2⟩]
 have T:((hQ 1944 1940).both<|k7 aX).At (bh ⟨v,b,ž,ab,b.heap.life⟩) eE (cc eE++[1892,1940]) [] w:=by rw[Inv.At.both ⟨⟨Ys 1944 bf bf bf,_,((Yo aM).keeps ik)⟩,λa l=>Yt a<|.inr<|bg l,aR⟩ ⟨⟨Ys 1894 bf bf bf,_,((Yp aM).keeps ik),V⟩,λa l=>Yt a<|.inl<|bg l,aR⟩]
 rwa[Y.mono (aim aM (ajf aM) aJ El (eD _ aM aJ El) eE (cc eE++[1892,1940]) [] [1892,1940] _ w go jw eo bs T)];rintro J d_ bN;rw[bN.gp λc2 bP bx cQ c' bZ cB l dJ dt u=>?_];obtain rfl:=cB;obtain⟨a4,rfl,ap⟩:=dt;rwa[U ap];have l0:bb [1892,1940] [] (lA b N fJ) d_:=(cd.mono aR aR).hj dJ.6 (λa l=>by
  rw[bS l (λe=>?_) λe=>?_]
  .rw[bS e (λe=>?_) λe=>?_]
   .rw[db e]
   .rw[.inr<|fY<|dZ a e]
  .rw[bS e (λe=>?_) λe=>?_]
   .rw[.inl (by rwa[U (bg e)];decide)]
   .rw[.inl (by rwa[U (bg e)];decide)]) λj gc=>by rcases jf.mp gc with e|e<;>rw[db e]
 rw[⟨_,V,V,l0.6,l0.5 ?_,?_⟩]
 .intro B a8;have:(lA b N fJ).gens=#[]:=aC.2;replace a8:=this▸a8;simp at a8
 have table:∀a k,(a=1892\/a=1940)->(lA b N fJ).heap.get? a=W k->isCodeTable (lA b N fJ).heap a/\k.cls=.none/\∃ex eB,k.data=.fields ex/\Ű (Q7 d_) a=W {k with data:=.fields<|ex++eB}:=by
  intro a k ej i;have p3:a∈(bh ⟨v,b,ž,ab,b.heap.life⟩).tabs:=l1.mpr ej;rcases ej with rfl|rfl
  .have D:=(Yp aM);have bH:=D.2.2;have cm:=d0.all _ _ bH;replace cm:=i▸cm;cases ek cm;rw[c1 (l.2 1892 p3 _ #[] bH V V) λeB eO=>⟨(D.keeps d0.all).2.isCodeTable,V,#[],eB,V,eO⟩]
  .have D:=(Yo aM);have bH:=D.2.2;have cm:=d0.all _ _ bH;replace cm:=i▸cm;cases ek cm;rw[c1 (l.2 1940 p3 _ #[] bH V V) λeB eO=>⟨(D.keeps d0.all).2.isCodeTable,V,#[],eB,V,eO⟩]
 rw[⟨λa k i=>?_,λa k i=>?_⟩]
 .by_cases ej:a=1892\/a=1940
  .rw[.inr<|.inl<|table a k ej i]
  .rw[.inl<|l0.1 _ _ (λe=>ej (by simpa using e)) i]
 .by_cases ej:a=1892\/a=1940
  .rw[fb (table a k ej i) λu u eh=>fW eh λex eB u eO=>⟨_,eO⟩]
  .rw[⟨k,l0.1 _ _ (λe=>ej (by simpa using e)) i⟩]
def wm(q:Nat):Nat:=b3 q 2/b3 q 3-b3 q 4
def Bd(q:Nat):Nat:=b3 q 2%b3 q 3
def j0(q j:Nat):Nat:=wm q+(bif i0 (b3 q 3-Bd q) j then 1 else 0)
def qT(q j:Nat):Nat:=min (j0 q j)<|320/(b3 q 4*b3 q 3)
def uV(q:Nat):List Nat:=(cZ<|b3 q 3).map<|j0 q
def lB(bD:Nat):List Nat:=((xQ bD).getD []).map om
def lsN(q:Nat):List Lay:=bif Bd q==0 then[(b3 q 3,wm q,d2<|lB<|b3 q 4)]else[(b3 q 3-Bd q,wm q,d2<|lB<|b3 q 4),(Bd q,wm q+1,d2<|lB<|b3 q 4)]
noncomputable def EE:List Nat:=[16,18,22,24,26]
theorem ajl:(EE.all λbD=>((xQ bD==W (d2<|lB bD))&&(lB bD).all (λQ=>kq Q 255))&&(pO bD (lB bD)&&wd bD))=ag:=Z
def layB(q:Nat):Bool:=EE.contains (b3 q 4)&&i0 1 (b3 q 3)&&i0 (b3 q 3) 10&&((cZ<|b3 q 3).all λj=>(H9 (b3 q 4) (b3 q 3) (b3 q 2) j==(j0 q j:Int))&&(H_ (b3 q 4) (b3 q 3) (j0 q j)==(qT q j:Int))&&i0 (qT q j) (j0 q j)&&i0 (j0 q j) 200&&i0 2 (j0 q j))&&((lsN q).flatMap (λi=>bX i.1 i.2.1)==uV q)&&(yw (b3 q 0)==7)
structure IA(q:Nat):Prop where
 KZ:xQ (b3 q 4:Int)=W (d2<|lB<|b3 q 4)
 VX:∀Q∈lB<|b3 q 4,Q<255
 M1:pO (b3 q 4) (lB<|b3 q 4)=ag
 alr:wd (b3 q 4)=ag
 zM:1<=b3 q 4/\b3 q 4<=26
 zN:1<=b3 q 3/\b3 q 3<=10
 xk:∀j:Nat,j<b3 q 3->H9 (b3 q 4) (b3 q 3) (b3 q 2) j=(j0 q j:Int)/\H_ (b3 q 4) (b3 q 3) (j0 q j)=(qT q j:Int)/\qT q j<=j0 q j/\j0 q j<=200/\2<=j0 q j
 als:(lsN q).flatMap (λi=>bX i.1 i.2.1)=uV q
 alu:yw (b3 q 0)=7
 B0:Hl (b3 q 0:Int) (.int<|b3 q 1)=W ((lsN q).map yd)
 alv:It (uV q)=ag
 ord:Iw (uV q) (b3 q 4) (b3 q 2)=ag
theorem ajm(h1:layB q=ag):b3 q 4∈EE/\(1<=b3 q 3/\b3 q 3<=10)/\(∀j:Nat,j<b3 q 3->H9 (b3 q 4) (b3 q 3) (b3 q 2) j=(j0 q j:Int)/\H_ (b3 q 4) (b3 q 3) (j0 q j)=(qT q j:Int)/\qT q j<=j0 q j/\j0 q j<=200/\2<=j0 q j)/\(lsN q).flatMap (λi=>bX i.1 i.2.1)=uV q/\yw (b3 q 0)=7:=by unfold layB at h1;simp only[ir]at h1;obtain⟨⟨⟨⟨⟨fg,fD⟩,h6⟩,n6⟩,sM⟩,vC⟩:=h1;rw[⟨Qj.mp fg,⟨mC fD,mC h6⟩,λj T=>?_,eq_of_beq sM,eq_of_beq vC⟩];have:=hH.mp n6 j<|lb.mpr T;simp only[ir]at this;obtain⟨⟨⟨⟨hP,lY⟩,uz⟩,ajn⟩,ajo⟩:=this;rw[⟨eq_of_beq hP,eq_of_beq lY,mC uz,mC ajn,mC ajo⟩]
theorem ajp(c:bD∈EE):xQ (bD:Int)=W (d2<|lB bD)/\(∀Q∈lB bD,Q<255)/\pO bD (lB bD)=ag/\wd bD=ag:=by have aI:=hH.mp ajl bD c;simp only[ir]at aI;obtain⟨⟨w8,lR⟩,De,Pt⟩:=aI;rw[⟨eq_of_beq w8,λQ cu=>mC<|hH.mp lR Q cu,De,Pt⟩]
theorem ajr(ap:q<8):IA q:=by have bk:=lb.mpr ap;obtain⟨fg,fD,h6,n6,sM⟩:=ajm<|hH.mp (show((cZ 8).all layB)=ag from Z) q bk;have cm:=Nr (show(cZ 8).map (λq=>Hl (b3 q 0:Int)<|.int<|b3 q 1)=(cZ 8).map (λq=>W<|(lsN q).map yd)from V) q bk;obtain⟨eO,hu⟩:=kJ.mp<|hH.mp (show((cZ 8).all λq=>It (uV q)&&Iw (uV q) (b3 q 4) (b3 q 2))=ag from(by cbv)) q bk;obtain⟨w8,lR,De,Pt⟩:=ajp fg;have vC:1<=b3 q 4/\b3 q 4<=26:=(by decide:∀g,g∈EE->1<=g/\g<=26) (b3 q 4) fg;rw[IA.mk w8 lR De Pt vC fD h6 n6 sM cm eO hu]
theorem ajs(c:n<gu a):(h9 t a).getD n 0=a.getD n 0:=by unfold h9;rw[U (dG)<|U (dG)<|U (mD ..)<|U (u_ c) V]
theorem ajt(c:n<gu t):(h9 t a).getD (gu a+n) 0=(d2<|hR t<|a.map om).getD n 0:=by unfold h9;rw[U (dG)<|U (dG)<|U (mD ..)<|U (y9<|hf _ _)<|U (Ff ..)<|U (u_ (by rw[yB,pK];rw[c])) V]
theorem Yu{t:List Nat}{a0:List<|List Int}{n:List Int×Nat}(c:n∈a0.zipIdx):(a0.map<|h9 t).getD n.2 []=h9 t n.1:=getD_at (by rwa[U (eX)<|U (y'.mp c)];rfl)
theorem Yv(E:List a9)(J:a9->List cN):E.flatMap J=E.zipIdx.flatMap λn=>J n.1:=by conv=>lhs;rw[<-List.zipIdx_map_fst 0 E,Ft]
theorem aju{t:List Nat}(a0:List<|List Int):jD a0=(qR<|a0.map gu).map λf=>jC (a0.map<|h9 t) f.2 f.1:=by
 unfold jD qR;have np:(a0.map gu).map (λ(o:Nat)=>(o:Int))=a0.map λa=>(gu a:Int):=ho ..;rw[U np<|U JF<|ED λm u=>U JF<|U BV<|U (Ft ..)<|U (Yv a0 ..)<|ED λn aO=>?_]
 dsimp only[Prod.map,id];split
 .rename_i aT;rw[(?_:[n.1.getD m 0]=[jC (a0.map<|h9 t) n.2 m])];unfold jC;rw[U (Yu aO)<|U (ajs aT) V]
 .rfl
theorem ajw{t:List Nat}{m:Nat}(aI:gu t=m)(a0:List<|List Int)(aM:0<gu a0):jD (a0.map λa=>d2<|hR t<|a.map om)=(m9 (a0.map gu) m).map λf=>jC (a0.map<|h9 t) f.2 f.1:=by
 unfold jD m9;have bk:om (td<|(a0.map λa=>d2<|hR t<|a.map om).map λa=>(gu a))=m:=by obtain⟨a,l,i⟩:=la.mp<|OQ (aq:=(a0.map λa=>d2<|hR t<|a.map om).map λa=>(gu a)) (by rwa[U (dg ..)<|U (dg ..)];rw[aM]);obtain⟨h,_,rfl⟩:=la.mp l;rw[bL i<|U (yB ..)<|U (pK ..)<|U aI ?_];rfl
 rw[U bk<|U JF<|ED λn aO=>?_];have aO:=lb.mp aO;rw[U (Ft ..)<|U ho<|U BV<|U ho<|U (Yv a0 ..) ?_];have i:∀{a9:Type}(E:List a9)(J:a9->Int),E.map J=E.flatMap λh=>[J h]:=λE J=>by induction E with|nil=>rfl|cons h E aW=>rw[U hU<|U nO<|U aW ?_];rfl
 rw[U (i ..)<|ED λe aY=>?_]
 dsimp only[Rv,Prod.map,id];rwa[U (if_pos (by rw[yB,pK,aI];rw[aO]))];show _=[jC (a0.map<|h9 t) e.2<|gu e.1+n];unfold jC;rw[U (Yu aY)<|U (ajt<|aI▸aO) V]
theorem Yw(K:IA q):gu (d2<|lB<|b3 q 4)=b3 q 4:=by have:=(tg K.M1).1;rw[U (yB ..) this]
theorem Yy(q:Nat):∀i∈lsN q,i.2.2=d2 (lB<|b3 q 4):=by intro i bq;unfold lsN at bq;cases R:Bd q==0 with|true=>rw[R,cond_true]at bq;rw[U (hG.mp bq) V]|false=>
  rw[R,cond_false]at bq;rcases fT.mp bq with rfl|bq
  .rfl
  .rw[U (hG.mp bq) V]
theorem ajx(t:List Int)(m_:List Lay):(∀i∈m_,i.2.2=t)->hm m_=(m_.flatMap λi=>bX i.1 i.2.1).map λo=>(o,t):=by induction m_ with|nil=>intro fl;rw[V]|cons i m_ a3=>intro c;unfold hm;rw[U nO<|U nO<|U jg<|U BS ?_];have af:=a3 λf R=>c f<|sj _ R;unfold hm at af;rw[U af<|bL (c i tz) V]
theorem Yz:∀{E:List<|List a9},(∀h∈E,gu h<=o)->gu E.flatten<=gu E*o|[],_=>eQ _|h::E,c=>by have af:=c h tz;have am:=Yz λf R=>c f<|sj _ R;rw[U kr<|U e7<|U gt<|U (y2 ..)<|oy (.l (.a .x .y)<|.a .z .w) [.l .x .w,.l .y .z] Z af am]
theorem ajy(a0:List<|List Int):(a0.flatMap λa=>a.flatMap hn)=a0.flatten.flatMap hn:=by induction a0 with|nil=>rw[V]|cons a a0 a3=>rw[U nO<|U kr<|U JC<|U (a3) V]
theorem ajz(a0:List<|List Int):(a0.map gu).sum=gu a0.flatten:=by induction a0 with|nil=>rw[V]|cons a a0 a3=>rw[U hU<|U List.sum_cons<|U kr<|U e7<|U (a3) V]
theorem ajA(K:IA q):∀i∈lsN q,i.2.1<=1000:=by
 have c:=(K.xk 0 K.zN.1).2.2.2.1;have l:wm q<=200:=by unfold j0 at c;rw[ct (.l .x<|.n 200) [.l (.a .x .y)<|.n 200] Z c]
 intro i bq;unfold lsN at bq;cases R:Bd q==0 with
 |true=>rw[R,cond_true]at bq;rwa[U (hG.mp bq)];show wm q<=1000;rw[bM (.l .x<|.n 1000) [.l .x<|.n 200] Z l]|false=>
  rw[R,cond_false]at bq;rcases fT.mp bq with rfl|bq
  .show wm q<=1000;rw[bM (.l .x<|.n 1000) [.l .x<|.n 200] Z l]
  .rw[U (hG.mp bq) ?_];show wm q+1<=1000;rw[bM (.l (.o .x)<|.n 1000) [.l .x<|.n 200] Z l]
theorem ajB:∀q,q<8->1<=b3 q 0/\b3 q 0<=7:=by decide
theorem plain2(x:Nat):Yq x:=by
 intro ah aM gN ih q ap;have K:=ajr ap;obtain⟨t1,t2,mp⟩:=X2 q ap;have aQ:=ajB q ap;generalize k8 gN=e0;generalize oi e0=g3;have cw:H' (b3 q 4) (b3 q 3) (b3 q 2) (j0 q) (qT q):=⟨⟨K.zM.1,by have:=K.zM.2;rw[bM (.l .x<|.n 30) [.l .x<|.n 26] Z this]⟩,K.zN,K.xk⟩;have bl:=X1 g3 cw;have n':(l8 g3 (j0 q) (qT q)<|b3 q 3).map gu=uV q:=(by unfold l8 uV;rw[U ho<|pa λj T=>?_];have:=K.xk j<|lb.mp T;rw[(?_:gu (ys g3 (j0 q) (qT q) j)=_)];unfold ys;rw[U e7<|U gg<|U (dg ..)<|U (sP ..)<|kU 1011 101 (.e (.a .x .y) .z) [.l .z<|.a .x .y,.e (.a .x .y) .z] Z (ef _ _)<|dM this.2.2.1]);have Be:gu (l8 g3 (j0 q) (qT q)<|b3 q 3)=b3 q 3:=by unfold l8;rw[U (dg ..)<|U mE V]
 generalize Pu:l8 g3 (j0 q) (qT q) (b3 q 3)=a0 at*;have qQ:∀a∈a0,fI a:=λa l=>(bl.2 a l).2;have xg:fI a0.flatten:=λf R=>by obtain⟨a,l,R⟩:=List.mem_flatten.mp R;rw[qQ a l f R]
 have kB:=(tg K.M1).1;have OJ:∀a∈a0,pJ (d2<|lB<|b3 q 4) a=d2 (hR (lB<|b3 q 4)<|a.map om):=λa l=>by have cm:=aeZ K.VX<|Ey<|qQ a l;rwa[Iq<|qQ a l,]at cm
 have Pv:hm (lsN q)=a0.map λa=>(gu a,d2<|lB<|b3 q 4):=by rw[U (ajx _ _<|Yy q)<|U K.als<|bL n'<|U ho ?_];rfl
 have EF:=aiH Pv xg;rw[pa OJ]at EF;generalize AC:(a0.map λa=>d2<|hR (lB<|b3 q 4)<|a.map om)=r_ at*;have n1:∀a∈r_,fI a/\gu a=b3 q 4:=λa l=>by rw[<-AC]at l;obtain⟨h,aS,rfl⟩:=la.mp l;rw[⟨λf R=>?_,by rw[U (yB ..)<|U (pK ..)<|U kB V]⟩];obtain⟨o,ak,rfl⟩:=la.mp R;have:=NV (t:=lB<|b3 q 4) (Ey<|qQ h aS) o ak;rw[⟨bM (.cN (.n 0)<|.c .x) [] Z,bM (.b2 (.c .x)<|.n 256) [.t .x<|.n 256] Z this⟩]
 have Bc:gu r_=b3 q 3:=bL AC<|U (dg ..)<|U Be V;have hP:=K.zM;have fg:=K.zN;have EA:jD a0++jD r_=(qR (a0.map gu)++m9 (a0.map gu) (b3 q 4)).map λf=>jC (a0.map<|h9<|lB<|b3 q 4) f.2 f.1:=by rw[U jg<|bL (aju ..)<|bL AC<|bL (ajw kB a0<|fE 21 (.t (.n 0) .x) [.e .x .y,.l (.n 1) .y] Z Be fg.1) V]
 have hk:=aiP (c6:=a0.map gu) (by rwa[U n'];rw[K.ord]);have eK:gu (jD a0++jD r_)=b3 q 2:=U EA<|U (dg ..)<|U hk.len V;have YA:fI (jD a0++jD r_):=λv bV=>by
  rcases jf.mp bV with bV|bV
  .obtain⟨a,l,bV⟩:=Yc bV;rw[qQ a l v bV]
  .obtain⟨a,l,bV⟩:=Yc bV;rw[(n1 a l).1 v bV]
 have Ek:gu a0.flatten<=2000:=a5 (Yz λa l=>(bl.2 a l).1)<|fE 661 (.l (.r .x 200)<|.n 2000) [.e .x .y,.l .y<|.n 10] Z Be fg.2;have Pw:gu (pR a0.flatten)=8*gu a0.flatten:=by unfold pR;rw[U (dg ..)<|U (EC ..) V]
 have sT:ms a0++ms r_++bX (yw<|b3 q 0) 0=(jD a0++jD r_).flatMap hn++bX 7 0:=by rw[U K.alu<|U JC<|U (Pe ..)<|U (Pe ..) V]
 have YD:gu ((jD a0++jD r_).flatMap hn)=8*b3 q 2:=U (EC ..)<|U eK V;have ajC:ly ((jD a0++jD r_).flatMap hn++bX 7 0) (b3 q 2)=jD a0++jD r_:=by have:=aiI (C:=bX 7 0) YA;rwa[eK]at this
 have ajE:gu (jD a0)<=200:=by rw[e7]at eK;rw[eA (.l .x<|.n 200) [.l .y<|.n 200,.e (.a .x .z) .y] Z t1 eK]
 have wk:Io e0 (b3 q 2)<b3 q 2:=by have af:=Fc (e0.getD 1 0) (b:=(b3 q 2:Int))<|bM (.b2 (.n 0)<|.c .x) [.l (.n 1) .x] Z t2;have am:=BD (e0.getD 1 0) (b:=(b3 q 2:Int))<|bM (.b2 (.n 0)<|.c .x) [.l (.n 1) .x] Z t2;unfold Io;rw[vk (.t .x .y) [.b2 .x<|.c .y,.e0 (.c .x) .x] Z af<|pg am]
 have xd:Ev (qR (a0.map gu)++m9 (a0.map gu) (b3 q 4)) (b3 q 2) (gu a0) (λo=>gu (a0.getD o [])+b3 q 4):=by
  rw[⟨hk.len,λj T=>?_,hk.p8,λo ak=>?_⟩]
  .have:=hk.num j T;rwa[dg]at this
  .rw[U (hk.GF o (by rw[dg,];rw[ak])) ?_];have:(a0.map gu).getD o 0=gu (a0.getD o []):=by rw[U (dG)<|U (eX)<|U (at_getD (x:=[]) ak) ?_];rfl
   rw[U this V]
 obtain⟨ca⟩:=aiA K.M1 hP.1 (bM (.l .x<|.n 30) [.l .x<|.n 26] Z hP.2) K.alr qQ (λa l=>by have:=(bl.2 a l).1;rw[fE 31 (.l (.a .x<|.m 2 .y)<|.n 255) [.l .y<|.n 26,.l .x<|.n 200] Z hP.2 this]) xd wk EA;rw[⟨⟨j0 q,qT q,pR a0.flatten,(jD a0++jD r_).flatMap hn++bX 7 0,qR<|a0.map gu,cw,?_,?_,?_,?_,?_,?_,?_,?_⟩⟩]
 .rw[U Pu<|bL (aiF xg) ?_];have:(a0.flatMap λa=>a.flatMap r8)=a0.flatMap λa=>a.flatMap hn:=ED λa l=>aiE<|qQ a l;rw[U this<|ajy a0]
 .rw[fE 41 (.l .x<|.n 1048576) [.l .y<|.n 2000,.e .x<|.m 8 .y] Z Ek Pw]
 .intro ew bm cT J e_ nm D y cl cz;have:=ah4 (x:=x) (s:=ew) aM ⟨by rw[bM (.cN (.g<|.n 3)<|.c .x) [] Z],by rw[bM (.cN (.c .x)<|.n 7) [.l .x<|.n 7] Z aQ.2]⟩ ?_ cl K.B0 ?_ ?_ ?_ ?_ ?_ cz
  .rw[EF]at this;rw[bL sT this]
  .have eO:((-3)==(b3 q 0:Int))=be:=beq_false_of_ne<|ni 2 (.m8 (.g<|.n 3)<|.c .x) [] Z;have bH:((-1)==(b3 q 0:Int))=be:=beq_false_of_ne<|ni 2 (.m8 (.g<|.n 1)<|.c .x) [] Z;rw[((U eO<|U bH ?_):((-3)==(b3 q 0:Int)||((-1:Int)==(b3 q 0:Int)||false))=be)];rfl
  .rw[⟨λi bq=>?_,by rwa[U Pv<|U (dg ..)];rw[ct (.l .x<|.n 500) [.e .x .y,.l .y<|.n 10] Z Be fg.2],?_⟩]
   .rw[U (Yy q i bq)<|⟨λf R=>?_,by rwa[U (Yw K)];rw[K.KZ],ajA K i bq,by rwa[U (Yw K)];rw[bM (.l .x<|.n 100) [.l .x<|.n 26] Z hP.2]⟩];obtain⟨o,ak,rfl⟩:=la.mp R;have:=K.VX o ak;rw[⟨bM (.cN (.n 0)<|.c .x) [] Z,bM (.b2 (.c .x)<|.n 255) [.t .x<|.n 255] Z this⟩]
   .rw[U Pv<|U ho<|U Pw ((U (ajz ..)<|fE 4 (.l .x .y) [.t (.a (.m 8 .x)<|.n 7)<|.a (.m 8 .y)<|.n 8] Z<|rh _ 7):(a0.map gu).sum<=_)]
  .rw[fE 41 (.l .x<|.n 1048576) [.l .y<|.n 2000,.e .x<|.m 8 .y] Z Ek Pw]
  .rw[U EF<|⟨λa l=>⟨qQ a l,by have:=(bl.2 a l).1;rw[bM (.l .x<|.n 1000) [.l .x<|.n 200] Z this]⟩,by rwa[U Be];rw[bM (.t (.n 0) .x) [.l (.n 1) .x] Z fg.1],by rwa[U Be];rw[bM (.l .x<|.n 100) [.l .x<|.n 10] Z fg.2]⟩]
  .rw[U EF<|⟨λa l=>⟨(n1 a l).1,by rwa[U ((n1 a l).2)];rw[bM (.l .x<|.n 1000) [.l .x<|.n 26] Z hP.2]⟩,by rwa[U Bc];rw[bM (.t (.n 0) .x) [.l (.n 1) .x] Z fg.1],by rwa[U Bc];rw[bM (.l .x<|.n 100) [.l .x<|.n 10] Z fg.2]⟩]
  .rw[U EF<|U (Pe ..)<|U (EC ..) ?_];show 8*gu (jD a0)<=_;rw[ni 41 (.l (.m 8 .x)<|.n 200000) [.l .x<|.n 200] Z ajE]
 .intro f R;rcases jf.mp R with R|R
  .obtain⟨v,bV,R⟩:=tE.mp R;rcases(EB<|YA v bV).2.2 f R with rfl|rfl<;>decide
  .rw[U (tC R) ?_];decide
 .rw[U e7<|U YD<|U gg V]
 .rw[bL YD<|U JE V]
 .rw[U Pu<|aiO (by rwa[U n'];rw[K.alv])]
 .rw[Pu,ajC];rw[ca]
end Mine.Lake
end
theorem PySem.Challenge.cw_nv0011_02_holds : PySem.Challenge.rw_nv0011_02.Holds :=
 Mine.Lake.ai6 (Mine.Lake.ajh (Mine.Lake.plain2 0))
