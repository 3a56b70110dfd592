import PyProof.Rows.All
import Wide.All
import OpenK.AllK
import Wide.FinOn
import PyProof.EnumIter
import PyProof.CollectWalk
import PyProof.JoinWalk
import PyProof.ListRange
import PyProof.ZipIter
import PyProof.Rows.SortRuns
import PyProof.Rows.SortPure
import KE.KSortTup
import KE.BitLaws
import Lean
import PySem.Challenge.RW_nv0011_01
set_option Elab.async false
set_option linter.all false
set_option maxRecDepth 1000000
set_option maxHeartbeats 0
set_option genInjectivity false
set_option genSizeOf false
set_option tactic.hygienic false
set_option bootstrap.genMatcherCode false
set_option backward.match.sparseCases false
section
open Bool renaming true->Z,false->a1,and_eq_true_iff->l8,or_eq_false_iff->GC,and_false->Nb,false_ne_true->uz,and_eq_true->h_,or_eq_true->CM,or_false->sb,or_eq_true_iff->Nd,not_eq_true'->GD,false_and->Nf,false_eq_true->CN,and_true->Ng
open PySem renaming Around->bY,Shared->ag,Value->al,wpAny->b9,wpAny_bind->bj,wpAny_pure->cN,Addr->aq,wpAny_load->zp,wpAny_of_eq->q4,holding->GE,wpAny_holding->k5,Code->iv,Program->cl,World->b7,model->cq,Flow->gb,codeAny->zq,wpCode_mono->zr,call->er,denote->tp,wpCode_iff_wp->CO,Builtin->tq,entryFor->k6,standAt->zs,wpAny_standAt->pS,typeLookup_type->hJ,builtinLookup_eq_fast->hK,isSubtype_type->kH,entryFor_of_tree->o_,argsOk->jc,signature?_of->sc,wpAny_callSpecial?_slot->or,wpAny_call_entry->k7,wpAny_mkInt->tr,wpAny_letGo->uA,wpAny_specialOf->hX,typeIs_int->wP,seqIndex?->CP,wpAny_sequenceKey->GF,Heap->eH,sizeLine->cI,checkBuiltinCall->uB,plainId_quiet->ot,checkTypeCall->CQ,wpAny_isInstance->q5,typeLookup->k8,entryFor_alias->GG,isSubtype->uC,codeAny_of_tree->zt,wpAny_typeOf->wR,wpAny_rule->l9,wpAny_point->o',pyNext->nO,wpAny_pyIter_list->CR,wpAny_newObj_type->jd,wpAny_attempt->ts,GenState->uD,Expr->bB,eval->dD,binaryOp->tt,IntMulOk->CS,markedEach->wS,evalEach->uE,compareOp->wT,wpAny_loadName_local->GH,wpAny_loadName_free->Nh,spliced->ou,backTo->jX,starEach->je,callWith->pT,keeperOf->sd,slot_list_getitem->Ni,IsPart->tu,storeName->tv,wpAny_storeName_local->Nj,bindName->pa,wpAny_storeName_cell->Nk,Stmt->ez,execs->dE,execs_cons->pU,execs_nil->wU,swapsWith->tw,foldedSetIterable->zu,closureFor->uF,pyIter->nb,newFunctionEnv->zv,relabel->wV,comprehension->wW,lookup_relabel_local->Nl,Comprehension->kI,Scope->c4,letOwnedTupleGo->zw,compEnvC->q6,firstIterPos->CT,firstAsync->zx,firstIter->CU,wpAny_newFunctionEnv->GJ,IsRange->q7,call_range_1->CV,small_one->CW,assignEach->uG,attributeBase->tx,calleeOf->CX,methodCallForm->CY,methodCallPos->CZ,wpAny_list_append_plain->Nm,interactive->wX,exec_Expr->GK,dropValue->C1,recursionLimit->fF,NameKind->se,wpAny_alloc->zy,mem_of_lookup->GL,arm_keywordEach_nil->C2,FuncData->uH,BindsTo->iO,wpAny_pyIter_range->GN,assignInOrder->zz,assign_Name->GO,wpAny_unpackItems_tuple->Nn,exec_Assign_Name->C3,passing->pV,GenOnlyQ->C4,cStatics->pW,Keeps->kk,wpAny_mkText->GP,rawInt->hv,codeAny_builtin->wY,IsRangeIter->ov,Setting->pb,Result->pX,Life->fQ,treeTable->nc,table_eq_tree->wZ,Params->cc,DictEntry->zA,wpAny_BinOp->GQ,Slot->uI,wpAny_seqItems->ty,isSubtype_stop->GR,wpAny_pyIter_slot->GS,ItemsOf->w0,wpAny_updateSeq->w1,codeAny_extend_loopS->No,strValues->zC,getAttr->ow,callType_new->GT,Fin->C5,wpAny_newTuple->zE,wpAny_mono->q8,wpAny_setField_rec->w2,firstArgMember->C6,wpAny_ite_split->GU,sizeLine_eq->C7,wpAny_Constant_str->Np,setGen_self->C8,IsZip->pY,IsPair->l_,wpAny_onRaise->GV,wpAny_updateSeq_pair->Nq,getMethod->w3,subDict->zF,wpAny_dictEntries->GW,mainNs->l',blockStart->zG,OsState->nd,arm_eval_Attribute->GX,swapsWithSole->GY,swappedStores->GZ,assign->G0,classAt->zH
open Pure renaming pure->dz
open Option renaming some->W,none->aQ,map_eq_some_iff->zI,isSome_iff_exists->G1,map_some->tz,bind_eq_some_iff->G2,elim->Nr,getD_some->Ns
open Int renaming zero_add->w4,add_zero->pc,mul_zero->zJ,mul_add->zK,mul_assoc->G3,zero_mul->G4,natCast_add->Nt,natCast_mul->C9,mul_comm->C_,neg_eq_neg_one_mul->G5,sub_eq_add_neg->zL,ofNat_le->G6,ofNat_lt->C',le_of_eq->w5,not_lt->G7,add_nonneg->G8,mul_nonneg->Nu,le_refl->G9,natCast_nonneg->iP,toNat_of_nonneg->G_,natCast_pos->Nv,mul_neg->G',mul_one->Ha,sub_sub->Hb,toNat_sub->Da,toNat_natCast->mD,eq_ofNat_of_zero_le->zM,fdiv_eq_ediv_of_nonneg->Nw,toNat->Db,fmod_nonneg_of_pos->zN,fmod_lt_of_pos->zO
open Nat renaming lt_of_not_le->Hc,le_of_not_lt->q_,le_antisymm->w6,sub_le_iff_le_add->Nx,le_refl->dA,sub_add_cancel->zP,sub_eq_zero_of_le->Ny,mul_div_le->Nz,succ_pos->zQ,div_add_mod->uJ,min_eq_left->Dc,min_eq_right->Dd,le_max_right->Hd,succ_ne_zero->NA,strongRecOn->He,zero_le->eJ,le_trans->bb,ne_of_lt->gD,lt_or_ge->pZ,succ_ne_self->ND,ne_of_gt->q',lt_succ_of_lt->mE,le_succ->kl,le_of_eq->mF,lt_irrefl->h',lt_of_lt_of_le->cw,not_le_of_lt->NE,le_add_left->uK,lt_succ_self->lM,le_add_right->iw,le_of_succ_le->Hf,not_lt_of_le->NF,lt_of_le_of_lt->mG,zero_add->ra,lt_trans->zR,add_div_right->NG,le_of_lt->nP,le_succ_of_le->w7,add_le_add_right->NH,blt->ma,le_of_ble_eq_true->mI,ble_eq_true_of_le->De,sub_sub->Hg,lt_of_lt_of_eq->Hh,le_total->ix,add_sub_cancel_left->NI,sub_le->k9,mod_eq_of_lt->Df,succ_le_of_lt->NJ,add_comm->w8,lt_succ_of_le->Hi,mod_two_eq_zero_or_one->zS,mul_le_mul_left->Dg,add_assoc->uL,div_eq_of_lt->Hj,ble->hY,beq->Dh,mul_add_mod->w9,pos_of_ne_zero->NK,xor_lt_two_pow->Hk,xor_assoc->Di,xor_zero->Hl,pow_succ->zT,zero_mul->w_,mul_comm->rb,add_lt_add_left->NL,succ_mul->w',mul_le_mul_right->zU,testBit_xor->Hm,testBit_two_pow_mul_add->Hn,zero_xor->Ho,le_of_succ_le_succ->NM,sub_pos_of_lt->NN,lt_asymm->Hp,le_sub_one_of_lt->NO,add_le_add_left->Hq,max_eq_zero_iff->NP,pow_le_pow_right->Dj,le_of_lt_succ->NQ,pow_pos->Dk,add_zero->zV,mul_add_div->NR,mul_le_mul->Hr,add_le_add->Hs
open Classical renaming byContradiction->Dl
open Eq renaming symm->Dm
open List renaming mem_cons->fR,mem_append->mb,mem_append_left->uM,mem_append_right->xa,mem_singleton->km,mem_cons_self->Ht,mem_cons_of_mem->zW,mem_map->k_,length_filterMap_le->NS,take_add_one->zX,length_take->NT,mem_of_getElem?->ox,take_length->xb,size_toArray->xc,getElem?_toArray->NU,not_mem_nil->oy,lookup_cons->sf,all_cons->nQ,any_nil->xd,length_cons->iy,cons_append->Hu,drop_zero->zY,take_succ_cons->Hv,getElem?_eq_some_iff->k',mem_filter->zZ,mem_reverse->NV,mem_of_mem_drop->NW,mem_of_mem_take->NX,forIn_cons->tA,getElem?_map->fk,getD_eq_getElem?_getD->fK,getElem?_eq_getElem->fG,map_drop->xe,map_take->z0,map_append->mc,replicate->dq,replicate_succ->nf,foldl_cons->Dn,flatten_cons->jA,map_cons->iz,range->c2,all_eq_true->hn,mem_range->la,length_map->d3,getElem?_range->mJ,getElem?_zipIdx->NY,forIn_nil->z2,append_nil->uN,take_append_drop->xf,flatten_append->z3,drop_eq_getElem_cons->Do,length_append->gU,append_assoc->rc,map_snd_zip->NZ,of_mem_zip->N0,length_range->oz,getElem_mem->sg,ext_getElem?->uO,getElem?_set->Hw,mem_map_of_mem->xg,getElem?_of_mem->N1,nodup_append->xh,map_nil->z4,mem_toArray->Hx,length_eq_zero_iff->Hy,map_map->jY,length->hg,getElem?_eq_none->oA,take_of_length_le->uP,length_drop->z5,drop_eq_nil_of_le->z6,zipIdx_cons->N2,map_set->Hz,nodup_nil->rd,any_eq_true->N3,length_nil->Dp,eq_nil_of_length_eq_zero->N4,zip_cons_cons->N5,contains_iff_mem->N6,nil_append->HA,getElem?_append_left->uQ,getElem?_append_right->xi,drop_drop->HB,map_congr_left->rf,flatMap_cons->nR,mem_or_eq_of_mem_set->N7,length_set->N8,range_succ->HC,foldl_append->z8,eq_of_mem_replicate->z9,length_tail->N9,length_singleton->N_,length_replicate->ng,getElem?_eraseIdx_of_lt->N',getElem?_zip_eq_some->Oa,zip_eq_zipWith->Ob,getElem?_zipWith->Oc,sum_append->Od,map_replicate->Oe,flatMap_append->HD,zipIdx_map->Dq,mem_flatMap->uR,flatMap_assoc->Of,mem_zipIdx_iff_getElem?->HE,flatMap_map->HF,flatMap_def->Og,map_flatMap->HG
open Option.some renaming inj->d4,injEq->HH
open PySem.Builtin.Bytes renaming decodersThatHold->Oh,exported->z_,payload->Oi,fitsIndex->Oj,subscript?->Ol,write->HI,checkResize->Om,slotIsOwn->On,buffer?->Oo
open PySem.Sem renaming wp->jZ,wp_mono->md,wp_bind'->z',wp_onRaise->Op
open PySem.Builtin.Bytes.exported renaming match_1->Wy
open PySem.Manifest renaming owners->HJ
open String renaming ofList->HK,splitOn->Oq,splitOnAux->Ot
open PySem.Builtin renaming«bytearray.__len__»->Wz,«bytearray.__getitem__»->WA,«bytearray.__setitem__»->WB,«bytearray.__iter__»->WC,«bytearray.extend»->WD,«type.__call__»->WE,«bytearray.__init__»->WF,«list.__new__»->WG,«bytearray.extend.end»->WH,divisionGoesByPylong->xj,bitXor->kn,bitAnd->tB,«dict_keyiterator.__iter__»->Ou,«int.__new__»->Ov,«map.__new__»->Ow,«bytearray_iterator.__next__»->WI,«list.__init__»->WJ,«zip.__next__»->Ox,«zip.__new__»->Oy,«tuple.__new__»->WK,bitNot->uS,bitOr->Oz,«list.sort»->WL,«bytes.__mul__»->HL
open PySem.Str renaming ofString->ho,empty->mK
open Array renaming getElem?_eq_some_iff->HM,size_append->Dr,size_push->Ds,getElem?_eq_none->HN,getElem?_eq_getElem->uT,toList_push->Dt,getElem?_append_left->OA,mem_append->OB,isEmpty_iff->OC,toList_inj->OD,ext_getElem?->OE,append_empty->HO,toArray_toList->HP,length_toList->Du
open PySem.Obj renaming mapBytearray->OF,mapSeq->jB,data_mapDictKeys->OG,mapSeq_push_plain->OH
open PySem.Heap renaming get?_update_self->pd,SameBut->iQ,get?_push_size->fc,get?_push_of_some->eD,size_push->fZ,lt_size->dB,size_update->tC,IsCell->HQ,ExtBut->Aa,get?_update_other->rg,get?_push_ne->Dv,get?_update_ne->OI
open PySem.Heap.SameBut renaming update->Ab
open PySem.Code renaming quiet_builtin->HR,builtin->Ac
open PySem.F renaming entry_type_call->HS,slot_list_add->OJ,entry_list_add->OK,args_list_add_2->OL,slot_int_rmul->Dw,slot_int_index->OM,entry_int_rmul->ON,args_int_rmul_2->OO,slot_range_reversed->HT,entry_proto_collect->OP,plain_list_iadd->OQ,entry_list_iadd->OR,plain_extend_loop->HU,args_object_init_3->HV,slot_range_iterator_next->Dx,entry_range_iterator_next->OS,args_range_iterator_next_1->OT,slot_zip_next->Dy,entry_zip_next->OU,args_zip_next_1->OV
open PySem.Value renaming ref->fl,type->kJ,builtin->Ad,none->oB,int->tD
open PySem.Walks renaming list->HW,range->Dz
open PyProof.Rows renaming AllBare->Ae,IntsAre->uU,subscriptTail->DA,tail_any->tE,SortKind->p0,Keyed->lb,SortSt->eW,wpS_bind->me,wpS_pure->e3,gallopOf->DB,pendingOf->ri,seqObj->lc,sortedAll->Af
open Exists renaming intro->p1
open PySem.P renaming add_int->OW,sub_int->OX
open PySem.Calls renaming Name_function_global->DC,loadGlobal_global->OY,loadGlobal_builtin->O0
open PySem.Heap.IsSliceOf renaming new->O1
open PySem.Env renaming kindOf->xk
open ForInStep renaming yield->rj
open PySem.Builtin.Range renaming small->xl,rangeSize->rk,rangeFitsLong->sh
open PySem.IsRange renaming new->DD
open PySem.MeetsSeq.EqGives renaming int->WN
open PUnit renaming unit->si
open List.Pairwise renaming nil->O2
open PySem.Builtin.List renaming listFitsIndex->O3,listExtendWith->HX,listSameRef->DE
open Or renaming elim->g_
open PySem.Fin renaming done->DF
open Ne renaming symm->iA
open List.cons renaming inj->xm
open PySem.WalksS renaming genexpQ->HY
open PySem.Heap.ExtBut renaming refl->HZ
open PySem.W renaming absHeap->j0,alive->hZ,abs_get->sk,absHeap_size->tF,boot_heap->oC,behindTheImports->rl,topStub->xn,boot_drawn->pe,layAllW->Ag
open PySem.Challenge renaming pw_nv0011_01->WP,rw_nv0011_01->H0
open PySem.Slot renaming of->O4
open PySem.ItemsOf renaming nil->O5
open Prod.mk renaming inj->O6,injEq->p2
open PySem.World renaming withFollow_self->Ah
open PySem.Builtin.SmallTypes renaming newClass->DG,iterAll->H1,newRecord->DH,nextOf->xo,ownedTupleIsFree->O7,ownedTupleHandOut->O8,ownedTupleFields->WQ
open PySem.W.KBy renaming picked->xp
open PySem.Moved renaming eq_with->O9
open PySem.Builtin.Generator renaming genWake->WS
open PySem.GenOnly renaming setGen->O_
open PySem.W.BT renaming get_node->mL,ins_node->Ai
open PySem.Expr renaming Tuple->O'
open Prod renaming ext->H2
open PySem.Shared renaming asleep_of_life->H3,mk->DI,rest_eq->Pa
open PySem.Heap.Ns renaming of_isNs->H4,at'->Pb
open PySem.Shared.mk renaming injEq->Pc
open PySem.BindsTo renaming of_eq->p3,of_defaults->H5
open PySem.Data.seq renaming injEq->Pd
open Nat.succ renaming inj->uW
open PyProof.Rows.SortSt renaming mk'->H6
open Function renaming comp->Pe
open PySem.Pin renaming globalOf_eq->Pf
open PySem.W.WShape renaming hasAll->Pg
open PySem PySem.W PyProof.Rows
namespace Mine
theorem U{α:Sort v}{a:α}:a=a:=rfl
local macro_rules |`(tactic|cbv)=>`(tactic|kernel_rfl)
universe gw hw iR lN nS p4 tG tH uX xq DJ H7 Ph al5 al6 al7 al8 al9 al_ al' ama amb amc amd ame amf amg amh ami amk aml amm amp amq amr ams amt amu amv amw amx amy amz amA amB aN u
section
section
variable{cC:Sort gw}{c7:Sort hw}{dN:Sort iR}{eX:Sort lN}{gx:Sort nS}{hL:Sort p4}{lf:Sort tG}{lO:Sort tH}{nT:Sort uX}{rm:Sort xq}{xr:Sort DJ}{DK:Sort H7}{Pi:Sort Ph}
section
variable{bv bD bT cD c' d5 fw jC nh:Prop}{ak:Prop}
theorem cY(c:bv/\bD)(l:bv->bD->ak):ak:=l c.1 c.2
theorem eQ(c:bv/\bD/\bT)(l:bv->bD->bT->ak):ak:=cY c.2<|l c.1
theorem lg(c:bv/\bD/\bT/\cD)(l:bv->bD->bT->cD->ak):ak:=eQ c.2<|l c.1
theorem kK(c:bv/\bD/\bT/\cD/\c')(l:bv->bD->bT->cD->c'->ak):ak:=lg c.2<|l c.1
theorem Aj(c:bv/\bD/\bT/\cD/\c'/\d5)(l:bv->bD->bT->cD->c'->d5->ak):ak:=kK c.2<|l c.1
theorem rn(c:bv/\bD/\bT/\cD/\c'/\d5/\fw)(l:bv->bD->bT->cD->c'->d5->fw->ak):ak:=Aj c.2<|l c.1
theorem p5(c:bv/\bD/\bT/\cD/\c'/\d5/\fw/\jC)(l:bv->bD->bT->cD->c'->d5->fw->jC->ak):ak:=rn c.2<|l c.1
theorem WT(c:bv/\bD/\bT/\cD/\c'/\d5/\fw/\jC/\nh)(l:bv->bD->bT->cD->c'->d5->fw->jC->nh->ak):ak:=p5 c.2<|l c.1
end
section
variable{q bv bD bT cD c' d5:cC->Prop}{ak:Prop}
theorem c5(c:∃J,q J)(l:∀J,q J->ak):ak:=c.elim l
theorem br(c:∃J,bv J/\bD J)(l:∀J,bv J->bD J->ak):ak:=c5 c λJ c=>cY c<|l J
theorem fx(c:∃J,bv J/\bD J/\bT J)(l:∀J,bv J->bD J->bT J->ak):ak:=c5 c λJ c=>eQ c<|l J
theorem jf(c:∃J,bv J/\bD J/\bT J/\cD J)(l:∀J,bv J->bD J->bT J->cD J->ak):ak:=c5 c λJ c=>lg c<|l J
theorem WU(c:∃J,bv J/\bD J/\bT J/\cD J/\c' J/\d5 J)(l:∀J,bv J->bD J->bT J->cD J->c' J->d5 J->ak):ak:=c5 c λJ c=>Aj c<|l J
end
section
variable{q bv bD bT cD c' d5:cC->c7->Prop}{ak:Prop}
theorem lh(c:∃J P,q J P)(l:∀J P,q J P->ak):ak:=c.elim λJ c=>c.elim<|l J
theorem gc(c:∃J P,bv J P/\bD J P)(l:∀J P,bv J P->bD J P->ak):ak:=lh c λJ P c=>cY c<|l J P
theorem ei(c:∃J P,bv J P/\bD J P/\bT J P)(l:∀J P,bv J P->bD J P->bT J P->ak):ak:=lh c λJ P c=>eQ c<|l J P
theorem DL(c:∃J P,bv J P/\bD J P/\bT J P/\cD J P)(l:∀J P,bv J P->bD J P->bT J P->cD J P->ak):ak:=lh c λJ P c=>lg c<|l J P
theorem H8(c:∃J P,bv J P/\bD J P/\bT J P/\cD J P/\c' J P)(l:∀J P,bv J P->bD J P->bT J P->cD J P->c' J P->ak):ak:=lh c λJ P c=>kK c<|l J P
theorem H9(c:∃J P,bv J P/\bD J P/\bT J P/\cD J P/\c' J P/\d5 J P)(l:∀J P,bv J P->bD J P->bT J P->cD J P->c' J P->d5 J P->ak):ak:=lh c λJ P c=>Aj c<|l J P
end
section
variable{q bv bD bT cD c' d5 fw jC:cC->c7->dN->Prop}{ak:Prop}
theorem sl(c:∃J P X,q J P X)(l:∀J P X,q J P X->ak):ak:=c.elim λJ c=>lh c<|l J
theorem xs(c:∃J P X,bv J P X/\bD J P X)(l:∀J P X,bv J P X->bD J P X->ak):ak:=sl c λJ P X c=>cY c<|l J P X
theorem jD(c:∃J P X,bv J P X/\bD J P X/\bT J P X)(l:∀J P X,bv J P X->bD J P X->bT J P X->ak):ak:=sl c λJ P X c=>eQ c<|l J P X
theorem ni(c:∃J P X,bv J P X/\bD J P X/\bT J P X/\cD J P X)(l:∀J P X,bv J P X->bD J P X->bT J P X->cD J P X->ak):ak:=sl c λJ P X c=>lg c<|l J P X
theorem uZ(c:∃J P X,bv J P X/\bD J P X/\bT J P X/\cD J P X/\c' J P X/\d5 J P X)(l:∀J P X,bv J P X->bD J P X->bT J P X->cD J P X->c' J P X->d5 J P X->ak):ak:=sl c λJ P X c=>Aj c<|l J P X
theorem WV(c:∃J P X,bv J P X/\bD J P X/\bT J P X/\cD J P X/\c' J P X/\d5 J P X/\fw J P X)(l:∀J P X,bv J P X->bD J P X->bT J P X->cD J P X->c' J P X->d5 J P X->fw J P X->ak):ak:=sl c λJ P X c=>rn c<|l J P X
theorem WW(c:∃J P X,bv J P X/\bD J P X/\bT J P X/\cD J P X/\c' J P X/\d5 J P X/\fw J P X/\jC J P X)(l:∀J P X,bv J P X->bD J P X->bT J P X->cD J P X->c' J P X->d5 J P X->fw J P X->jC J P X->ak):ak:=sl c λJ P X c=>p5 c<|l J P X
end
section
variable{q bv bD bT cD c' d5 fw:cC->c7->dN->eX->Prop}{ak:Prop}
theorem sm(c:∃J P X aJ,q J P X aJ)(l:∀J P X aJ,q J P X aJ->ak):ak:=c.elim λJ c=>sl c<|l J
theorem DM(c:∃J P X aJ,bv J P X aJ/\bD J P X aJ)(l:∀J P X aJ,bv J P X aJ->bD J P X aJ->ak):ak:=sm c λJ P X aJ c=>cY c<|l J P X aJ
theorem H_(c:∃J P X aJ,bv J P X aJ/\bD J P X aJ/\bT J P X aJ)(l:∀J P X aJ,bv J P X aJ->bD J P X aJ->bT J P X aJ->ak):ak:=sm c λJ P X aJ c=>eQ c<|l J P X aJ
theorem WX(c:∃J P X aJ,bv J P X aJ/\bD J P X aJ/\bT J P X aJ/\cD J P X aJ)(l:∀J P X aJ,bv J P X aJ->bD J P X aJ->bT J P X aJ->cD J P X aJ->ak):ak:=sm c λJ P X aJ c=>lg c<|l J P X aJ
theorem WY(c:∃J P X aJ,bv J P X aJ/\bD J P X aJ/\bT J P X aJ/\cD J P X aJ/\c' J P X aJ)(l:∀J P X aJ,bv J P X aJ->bD J P X aJ->bT J P X aJ->cD J P X aJ->c' J P X aJ->ak):ak:=sm c λJ P X aJ c=>kK c<|l J P X aJ
theorem WZ(c:∃J P X aJ,bv J P X aJ/\bD J P X aJ/\bT J P X aJ/\cD J P X aJ/\c' J P X aJ/\d5 J P X aJ)(l:∀J P X aJ,bv J P X aJ->bD J P X aJ->bT J P X aJ->cD J P X aJ->c' J P X aJ->d5 J P X aJ->ak):ak:=sm c λJ P X aJ c=>Aj c<|l J P X aJ
theorem Pj(c:∃J P X aJ,bv J P X aJ/\bD J P X aJ/\bT J P X aJ/\cD J P X aJ/\c' J P X aJ/\d5 J P X aJ/\fw J P X aJ)(l:∀J P X aJ,bv J P X aJ->bD J P X aJ->bT J P X aJ->cD J P X aJ->c' J P X aJ->d5 J P X aJ->fw J P X aJ->ak):ak:=sm c λJ P X aJ c=>rn c<|l J P X aJ
end
section
variable{q bv bD bT cD c' d5 fw:cC->c7->dN->eX->gx->Prop}{ak:Prop}
theorem Ak(c:∃J P X aJ ba,q J P X aJ ba)(l:∀J P X aJ ba,q J P X aJ ba->ak):ak:=c.elim λJ c=>sm c<|l J
theorem W0(c:∃J P X aJ ba,bv J P X aJ ba/\bD J P X aJ ba/\bT J P X aJ ba/\cD J P X aJ ba)(l:∀J P X aJ ba,bv J P X aJ ba->bD J P X aJ ba->bT J P X aJ ba->cD J P X aJ ba->ak):ak:=Ak c λJ P X aJ ba c=>lg c<|l J P X aJ ba
theorem H'(c:∃J P X aJ ba,bv J P X aJ ba/\bD J P X aJ ba/\bT J P X aJ ba/\cD J P X aJ ba/\c' J P X aJ ba)(l:∀J P X aJ ba,bv J P X aJ ba->bD J P X aJ ba->bT J P X aJ ba->cD J P X aJ ba->c' J P X aJ ba->ak):ak:=Ak c λJ P X aJ ba c=>kK c<|l J P X aJ ba
theorem DN(c:∃J P X aJ ba,bv J P X aJ ba/\bD J P X aJ ba/\bT J P X aJ ba/\cD J P X aJ ba/\c' J P X aJ ba/\d5 J P X aJ ba/\fw J P X aJ ba)(l:∀J P X aJ ba,bv J P X aJ ba->bD J P X aJ ba->bT J P X aJ ba->cD J P X aJ ba->c' J P X aJ ba->d5 J P X aJ ba->fw J P X aJ ba->ak):ak:=Ak c λJ P X aJ ba c=>rn c<|l J P X aJ ba
end
section
variable{q bv bD bT cD c':cC->c7->dN->eX->gx->hL->Prop}{ak:Prop}
theorem DO(c:∃J P X aJ ba bZ,q J P X aJ ba bZ)(l:∀J P X aJ ba bZ,q J P X aJ ba bZ->ak):ak:=c.elim λJ c=>Ak c<|l J
theorem W1(c:∃J P X aJ ba bZ,bv J P X aJ ba bZ/\bD J P X aJ ba bZ)(l:∀J P X aJ ba bZ,bv J P X aJ ba bZ->bD J P X aJ ba bZ->ak):ak:=DO c λJ P X aJ ba bZ c=>cY c<|l J P X aJ ba bZ
theorem W2(c:∃J P X aJ ba bZ,bv J P X aJ ba bZ/\bD J P X aJ ba bZ/\bT J P X aJ ba bZ)(l:∀J P X aJ ba bZ,bv J P X aJ ba bZ->bD J P X aJ ba bZ->bT J P X aJ ba bZ->ak):ak:=DO c λJ P X aJ ba bZ c=>eQ c<|l J P X aJ ba bZ
end
section
variable{q:cC->c7->dN->eX->gx->hL->lf->Prop}{ak:Prop}
theorem W3(c:∃J P X aJ ba bZ c8,q J P X aJ ba bZ c8)(l:∀J P X aJ ba bZ c8,q J P X aJ ba bZ c8->ak):ak:=c.elim λJ c=>DO c<|l J
end
section
variable{q bv bD bT cD c' d5 fw jC nh:cC->c7->dN->eX->gx->hL->lf->lO->Prop}{ak:Prop}
theorem W4(c:∃J P X aJ ba bZ c8 dc,q J P X aJ ba bZ c8 dc)(l:∀J P X aJ ba bZ c8 dc,q J P X aJ ba bZ c8 dc->ak):ak:=c.elim λJ c=>W3 c<|l J
end
section
variable{q bv bD bT:cC->c7->dN->eX->gx->hL->lf->lO->nT->Prop}{ak:Prop}
theorem Pk(c:∃J P X aJ ba bZ c8 dc ee,q J P X aJ ba bZ c8 dc ee)(l:∀J P X aJ ba bZ c8 dc ee,q J P X aJ ba bZ c8 dc ee->ak):ak:=c.elim λJ c=>W4 c<|l J
theorem W6(c:∃J P X aJ ba bZ c8 dc ee,bv J P X aJ ba bZ c8 dc ee/\bD J P X aJ ba bZ c8 dc ee/\bT J P X aJ ba bZ c8 dc ee)(l:∀J P X aJ ba bZ c8 dc ee,bv J P X aJ ba bZ c8 dc ee->bD J P X aJ ba bZ c8 dc ee->bT J P X aJ ba bZ c8 dc ee->ak):ak:=Pk c λJ P X aJ ba bZ c8 dc ee c=>eQ c<|l J P X aJ ba bZ c8 dc ee
end
end
theorem Pl{bv bD bT cD c' d5 fw jC nh p6:Prop}{ak:Prop}(c:bv/\bD/\bT/\cD/\c'/\d5/\fw/\jC/\nh/\p6)(l:bv->bD->bT->cD->c'->d5->fw->jC->nh->p6->ak):ak:=WT c.2<|l c.1
theorem W7{bv bD bT cD c' d5 fw jC nh p6 Al:Prop}{ak:Prop}(c:bv/\bD/\bT/\cD/\c'/\d5/\fw/\jC/\nh/\p6/\Al)(l:bv->bD->bT->cD->c'->d5->fw->jC->nh->p6->Al->ak):ak:=Pl c.2<|l c.1
theorem Pm{cC:Sort gw}{c7:Sort hw}{dN:Sort iR}{eX:Sort lN}{gx:Sort nS}{hL:Sort p4}{lf:Sort tG}{lO:Sort tH}{nT:Sort uX}{rm:Sort xq}{q:cC->c7->dN->eX->gx->hL->lf->lO->nT->rm->Prop}{ak:Prop}(c:∃J P X aJ ba bZ c8 dc ee f0,q J P X aJ ba bZ c8 dc ee f0)(l:∀J P X aJ ba bZ c8 dc ee f0,q J P X aJ ba bZ c8 dc ee f0->ak):ak:=c.elim λJ c=>Pk c<|l J
theorem Pn{cC:Sort gw}{c7:Sort hw}{dN:Sort iR}{eX:Sort lN}{gx:Sort nS}{hL:Sort p4}{lf:Sort tG}{lO:Sort tH}{nT:Sort uX}{rm:Sort xq}{bv bD bT cD c' d5 fw jC nh p6 Al:cC->c7->dN->eX->gx->hL->lf->lO->nT->rm->Prop}{ak:Prop}(c:∃J P X aJ ba bZ c8 dc ee f0,bv J P X aJ ba bZ c8 dc ee f0/\bD J P X aJ ba bZ c8 dc ee f0/\bT J P X aJ ba bZ c8 dc ee f0/\cD J P X aJ ba bZ c8 dc ee f0/\c' J P X aJ ba bZ c8 dc ee f0/\d5 J P X aJ ba bZ c8 dc ee f0/\fw J P X aJ ba bZ c8 dc ee f0/\jC J P X aJ ba bZ c8 dc ee f0/\nh J P X aJ ba bZ c8 dc ee f0/\p6 J P X aJ ba bZ c8 dc ee f0/\Al J P X aJ ba bZ c8 dc ee f0)(l:∀J P X aJ ba bZ c8 dc ee f0,bv J P X aJ ba bZ c8 dc ee f0->bD J P X aJ ba bZ c8 dc ee f0->bT J P X aJ ba bZ c8 dc ee f0->cD J P X aJ ba bZ c8 dc ee f0->c' J P X aJ ba bZ c8 dc ee f0->d5 J P X aJ ba bZ c8 dc ee f0->fw J P X aJ ba bZ c8 dc ee f0->jC J P X aJ ba bZ c8 dc ee f0->nh J P X aJ ba bZ c8 dc ee f0->p6 J P X aJ ba bZ c8 dc ee f0->Al J P X aJ ba bZ c8 dc ee f0->ak):ak:=Pm c λJ P X aJ ba bZ c8 dc ee f0 c=>W7 c<|l J P X aJ ba bZ c8 dc ee f0
theorem W8{cC:Sort gw}{c7:Sort hw}{dN:Sort iR}{eX:Sort lN}{gx:Sort nS}{hL:Sort p4}{lf:Sort tG}{lO:Sort tH}{nT:Sort uX}{rm:Sort xq}{xr:Sort DJ}{q:cC->c7->dN->eX->gx->hL->lf->lO->nT->rm->xr->Prop}{ak:Prop}(c:∃J P X aJ ba bZ c8 dc ee f0 p7,q J P X aJ ba bZ c8 dc ee f0 p7)(l:∀J P X aJ ba bZ c8 dc ee f0 p7,q J P X aJ ba bZ c8 dc ee f0 p7->ak):ak:=c.elim λJ c=>Pm c<|l J
theorem W9{cC:Sort gw}{c7:Sort hw}{dN:Sort iR}{eX:Sort lN}{gx:Sort nS}{hL:Sort p4}{lf:Sort tG}{lO:Sort tH}{nT:Sort uX}{rm:Sort xq}{xr:Sort DJ}{DK:Sort H7}{q:cC->c7->dN->eX->gx->hL->lf->lO->nT->rm->xr->DK->Prop}{ak:Prop}(c:∃J P X aJ ba bZ c8 dc ee f0 p7 u0,q J P X aJ ba bZ c8 dc ee f0 p7 u0)(l:∀J P X aJ ba bZ c8 dc ee f0 p7 u0,q J P X aJ ba bZ c8 dc ee f0 p7 u0->ak):ak:=c.elim λJ c=>W8 c<|l J
theorem W_{cC:Sort gw}{c7:Sort hw}{dN:Sort iR}{eX:Sort lN}{gx:Sort nS}{hL:Sort p4}{lf:Sort tG}{lO:Sort tH}{nT:Sort uX}{rm:Sort xq}{xr:Sort DJ}{DK:Sort H7}{Pi:Sort Ph}{q:cC->c7->dN->eX->gx->hL->lf->lO->nT->rm->xr->DK->Pi->Prop}{ak:Prop}(c:∃J P X aJ ba bZ c8 dc ee f0 p7 u0 Ia,q J P X aJ ba bZ c8 dc ee f0 p7 u0 Ia)(l:∀J P X aJ ba bZ c8 dc ee f0 p7 u0 Ia,q J P X aJ ba bZ c8 dc ee f0 p7 u0 Ia->ak):ak:=c.elim λJ c=>W9 c<|l J
theorem Po{cC:Sort gw}{c7:Sort hw}{dN:Sort iR}{eX:Sort lN}{gx:Sort nS}{bv bD bT cD c' d5 fw jC nh p6:cC->c7->dN->eX->gx->Prop}{ak:Prop}(c:∃J P X aJ ba,bv J P X aJ ba/\bD J P X aJ ba/\bT J P X aJ ba/\cD J P X aJ ba/\c' J P X aJ ba/\d5 J P X aJ ba/\fw J P X aJ ba/\jC J P X aJ ba/\nh J P X aJ ba/\p6 J P X aJ ba)(l:∀J P X aJ ba,bv J P X aJ ba->bD J P X aJ ba->bT J P X aJ ba->cD J P X aJ ba->c' J P X aJ ba->d5 J P X aJ ba->fw J P X aJ ba->jC J P X aJ ba->nh J P X aJ ba->p6 J P X aJ ba->ak):ak:=Ak c λJ P X aJ ba c=>Pl c<|l J P X aJ ba
theorem gJ{r:Prop}(c:∀ak:Prop,(r->ak)->ak):r:=c r id
@[elab_as_elim]theorem V{bf:Sort gw}{h b:bf}{ak:bf->Prop}(c:h=b)(l:ak b):ak h:=c▸l
@[elab_as_elim]theorem b'{bf:Sort gw}{h b:bf}{ak:bf->Prop}(c:b=h)(l:ak b):ak h:=c▸l
@[elab_as_elim]theorem g2{h b:Prop}{ak:Prop->Prop}(c:h↔b)(l:ak b):ak h:=propext c▸l
theorem bd{r:Prop}[Decidable r](c:decide r=Z:=by exact Eq.refl Z):r:=of_decide_eq_true c
theorem iS{r:Prop}[Decidable r](c:decide r=Z:=by cbv):r:=of_decide_eq_true c
end
section
theorem iT{aT:Model}{q:bY}{bf:Type}{E eR:Sem bf}{C:bf->ag->Prop}{as:al->ag->Prop}{a:ag}(i:E=eR)(c:b9 aT q eR C as a):b9 aT q E C as a:=i▸c
section
variable{aT:Model}{q:bY}{a:ag}{bf cE:Type}{as:al->ag->Prop}{C:cE->ag->Prop}
theorem li{h:bf}{I:bf->Sem cE}(c:b9 aT q (I h) C as a):b9 aT q (dz h>>=I) C as a:=bj<|cN c
theorem nU{h:aq}{o:Obj}{I:Obj->Sem cE}(aP:a.heap.get? h=W o)(c:b9 aT q (I o) C as a):b9 aT q (load h>>=I) C as a:=bj<|zp aP c
theorem ia{h:aq}{o:Obj}{O:Array al}{k:Nat}{f:al}{I:al->Sem cE}(aP:a.heap.get? h=W o)(bl:o.data=.fields O)(ac:O[k]?=W f)(c:b9 aT q (I f) C as a):b9 aT q (field (.ref h) k>>=I) C as a:=bj<|wpAny_field aP bl ac c
theorem mM{E:Sem bf}{h:bf}{I:bf->Sem cE}(i:E=dz h)(c:b9 aT q (I h) C as a):b9 aT q (E>>=I) C as a:=bj<|q4 i c
theorem ko{O:List al}{aA:Sem bf}{I:bf->Sem cE}(c:b9 aT q aA (λh v=>b9 aT q (I h) C as v) as a):b9 aT q (GE O aA>>=I) C as a:=bj<|k5 c
theorem oD{g:Prop}[Decidable g]{h b:Sem cE}(c:¬g)(l:b9 aT q b C as a):b9 aT q (if g then h else b) C as a:=iT (if_neg c) l
theorem Pp{g:Prop}[Decidable g]{h b:Sem cE}(c:g)(l:b9 aT q h C as a):b9 aT q (if g then h else b) C as a:=iT (if_pos c) l
end
end
theorem oE{cC:Sort gw}{bv:cC->Prop}(J:cC)(af:bv J):∃J,bv J:=⟨J,af⟩
theorem dj{cC:Sort gw}{bv bD:cC->Prop}(J:cC)(af:bv J)(ap:bD J):∃J,bv J/\bD J:=⟨J,af,ap⟩
theorem ro{cC:Sort gw}{bv bD bT:cC->Prop}(J:cC)(af:bv J)(ap:bD J)(bk:bT J):∃J,bv J/\bD J/\bT J:=⟨J,af,ap,bk⟩
theorem p8{cC:Sort gw}{bv bD bT cD:cC->Prop}(J:cC)(af:bv J)(ap:bD J)(bk:bT J)(cx:cD J):∃J,bv J/\bD J/\bT J/\cD J:=⟨J,af,ap,bk,cx⟩
theorem W'{cC:Sort gw}{bv bD bT cD c':cC->Prop}(J:cC)(af:bv J)(ap:bD J)(bk:bT J)(cx:cD J)(ef:c' J):∃J,bv J/\bD J/\bT J/\cD J/\c' J:=⟨J,af,ap,bk,cx,ef⟩
theorem Xb{cC:Sort gw}{bv bD bT cD c' d5:cC->Prop}(J:cC)(af:bv J)(ap:bD J)(bk:bT J)(cx:cD J)(ef:c' J)(fL:d5 J):∃J,bv J/\bD J/\bT J/\cD J/\c' J/\d5 J:=⟨J,af,ap,bk,cx,ef,fL⟩
theorem j1{cC:Sort gw}{c7:Sort hw}{bv:cC->c7->Prop}(J:cC)(P:c7)(af:bv J P):∃J P,bv J P:=⟨J,P,af⟩
theorem tI{cC:Sort gw}{c7:Sort hw}{bv bD:cC->c7->Prop}(J:cC)(P:c7)(af:bv J P)(ap:bD J P):∃J P,bv J P/\bD J P:=⟨J,P,af,ap⟩
theorem jg{cC:Sort gw}{c7:Sort hw}{bv bD bT:cC->c7->Prop}(J:cC)(P:c7)(af:bv J P)(ap:bD J P)(bk:bT J P):∃J P,bv J P/\bD J P/\bT J P:=⟨J,P,af,ap,bk⟩
theorem Ib{cC:Sort gw}{c7:Sort hw}{bv bD bT cD:cC->c7->Prop}(J:cC)(P:c7)(af:bv J P)(ap:bD J P)(bk:bT J P)(cx:cD J P):∃J P,bv J P/\bD J P/\bT J P/\cD J P:=⟨J,P,af,ap,bk,cx⟩
theorem Pq{cC:Sort gw}{c7:Sort hw}{bv bD bT cD c' d5:cC->c7->Prop}(J:cC)(P:c7)(af:bv J P)(ap:bD J P)(bk:bT J P)(cx:cD J P)(ef:c' J P)(fL:d5 J P):∃J P,bv J P/\bD J P/\bT J P/\cD J P/\c' J P/\d5 J P:=⟨J,P,af,ap,bk,cx,ef,fL⟩
theorem Pr{cC:Sort gw}{c7:Sort hw}{dN:Sort iR}{bv:cC->c7->dN->Prop}(J:cC)(P:c7)(X:dN)(af:bv J P X):∃J P X,bv J P X:=⟨J,P,X,af⟩
theorem Am{cC:Sort gw}{c7:Sort hw}{dN:Sort iR}{bv bD bT:cC->c7->dN->Prop}(J:cC)(P:c7)(X:dN)(af:bv J P X)(ap:bD J P X)(bk:bT J P X):∃J P X,bv J P X/\bD J P X/\bT J P X:=⟨J,P,X,af,ap,bk⟩
theorem p_{cC:Sort gw}{c7:Sort hw}{dN:Sort iR}{bv bD bT cD:cC->c7->dN->Prop}(J:cC)(P:c7)(X:dN)(af:bv J P X)(ap:bD J P X)(bk:bT J P X)(cx:cD J P X):∃J P X,bv J P X/\bD J P X/\bT J P X/\cD J P X:=⟨J,P,X,af,ap,bk,cx⟩
theorem Xc{cC:Sort gw}{c7:Sort hw}{dN:Sort iR}{bv bD bT cD c':cC->c7->dN->Prop}(J:cC)(P:c7)(X:dN)(af:bv J P X)(ap:bD J P X)(bk:bT J P X)(cx:cD J P X)(ef:c' J P X):∃J P X,bv J P X/\bD J P X/\bT J P X/\cD J P X/\c' J P X:=⟨J,P,X,af,ap,bk,cx,ef⟩
theorem Ps{cC:Sort gw}{c7:Sort hw}{dN:Sort iR}{bv bD bT cD c' d5:cC->c7->dN->Prop}(J:cC)(P:c7)(X:dN)(af:bv J P X)(ap:bD J P X)(bk:bT J P X)(cx:cD J P X)(ef:c' J P X)(fL:d5 J P X):∃J P X,bv J P X/\bD J P X/\bT J P X/\cD J P X/\c' J P X/\d5 J P X:=⟨J,P,X,af,ap,bk,cx,ef,fL⟩
theorem Pt{cC:Sort gw}{c7:Sort hw}{dN:Sort iR}{bv bD bT cD c' d5 fw:cC->c7->dN->Prop}(J:cC)(P:c7)(X:dN)(af:bv J P X)(ap:bD J P X)(bk:bT J P X)(cx:cD J P X)(ef:c' J P X)(fL:d5 J P X)(g3:fw J P X):∃J P X,bv J P X/\bD J P X/\bT J P X/\cD J P X/\c' J P X/\d5 J P X/\fw J P X:=⟨J,P,X,af,ap,bk,cx,ef,fL,g3⟩
theorem Ic{cC:Sort gw}{c7:Sort hw}{dN:Sort iR}{bv bD bT cD c' d5 fw jC:cC->c7->dN->Prop}(J:cC)(P:c7)(X:dN)(af:bv J P X)(ap:bD J P X)(bk:bT J P X)(cx:cD J P X)(ef:c' J P X)(fL:d5 J P X)(g3:fw J P X)(sn:jC J P X):∃J P X,bv J P X/\bD J P X/\bT J P X/\cD J P X/\c' J P X/\d5 J P X/\fw J P X/\jC J P X:=⟨J,P,X,af,ap,bk,cx,ef,fL,g3,sn⟩
theorem Xd{cC:Sort gw}{c7:Sort hw}{dN:Sort iR}{eX:Sort lN}{bv:cC->c7->dN->eX->Prop}(J:cC)(P:c7)(X:dN)(aJ:eX)(af:bv J P X aJ):∃J P X aJ,bv J P X aJ:=⟨J,P,X,aJ,af⟩
theorem DP{cC:Sort gw}{c7:Sort hw}{dN:Sort iR}{eX:Sort lN}{bv bD:cC->c7->dN->eX->Prop}(J:cC)(P:c7)(X:dN)(aJ:eX)(af:bv J P X aJ)(ap:bD J P X aJ):∃J P X aJ,bv J P X aJ/\bD J P X aJ:=⟨J,P,X,aJ,af,ap⟩
theorem Xe{cC:Sort gw}{c7:Sort hw}{dN:Sort iR}{eX:Sort lN}{bv bD bT cD c':cC->c7->dN->eX->Prop}(J:cC)(P:c7)(X:dN)(aJ:eX)(af:bv J P X aJ)(ap:bD J P X aJ)(bk:bT J P X aJ)(cx:cD J P X aJ)(ef:c' J P X aJ):∃J P X aJ,bv J P X aJ/\bD J P X aJ/\bT J P X aJ/\cD J P X aJ/\c' J P X aJ:=⟨J,P,X,aJ,af,ap,bk,cx,ef⟩
theorem Ie{cC:Sort gw}{c7:Sort hw}{dN:Sort iR}{eX:Sort lN}{bv bD bT cD c' d5 fw:cC->c7->dN->eX->Prop}(J:cC)(P:c7)(X:dN)(aJ:eX)(af:bv J P X aJ)(ap:bD J P X aJ)(bk:bT J P X aJ)(cx:cD J P X aJ)(ef:c' J P X aJ)(fL:d5 J P X aJ)(g3:fw J P X aJ):∃J P X aJ,bv J P X aJ/\bD J P X aJ/\bT J P X aJ/\cD J P X aJ/\c' J P X aJ/\d5 J P X aJ/\fw J P X aJ:=⟨J,P,X,aJ,af,ap,bk,cx,ef,fL,g3⟩
theorem Pu{cC:Sort gw}{c7:Sort hw}{dN:Sort iR}{eX:Sort lN}{gx:Sort nS}{bv bD bT cD c':cC->c7->dN->eX->gx->Prop}(J:cC)(P:c7)(X:dN)(aJ:eX)(ba:gx)(af:bv J P X aJ ba)(ap:bD J P X aJ ba)(bk:bT J P X aJ ba)(cx:cD J P X aJ ba)(ef:c' J P X aJ ba):∃J P X aJ ba,bv J P X aJ ba/\bD J P X aJ ba/\bT J P X aJ ba/\cD J P X aJ ba/\c' J P X aJ ba:=⟨J,P,X,aJ,ba,af,ap,bk,cx,ef⟩
theorem Pv{cC:Sort gw}{c7:Sort hw}{dN:Sort iR}{eX:Sort lN}{gx:Sort nS}{bv bD bT cD c' d5 fw:cC->c7->dN->eX->gx->Prop}(J:cC)(P:c7)(X:dN)(aJ:eX)(ba:gx)(af:bv J P X aJ ba)(ap:bD J P X aJ ba)(bk:bT J P X aJ ba)(cx:cD J P X aJ ba)(ef:c' J P X aJ ba)(fL:d5 J P X aJ ba)(g3:fw J P X aJ ba):∃J P X aJ ba,bv J P X aJ ba/\bD J P X aJ ba/\bT J P X aJ ba/\cD J P X aJ ba/\c' J P X aJ ba/\d5 J P X aJ ba/\fw J P X aJ ba:=⟨J,P,X,aJ,ba,af,ap,bk,cx,ef,fL,g3⟩
theorem Xf{cC:Sort gw}{c7:Sort hw}{dN:Sort iR}{eX:Sort lN}{gx:Sort nS}{hL:Sort p4}{bv:cC->c7->dN->eX->gx->hL->Prop}(J:cC)(P:c7)(X:dN)(aJ:eX)(ba:gx)(bZ:hL)(af:bv J P X aJ ba bZ):∃J P X aJ ba bZ,bv J P X aJ ba bZ:=⟨J,P,X,aJ,ba,bZ,af⟩
theorem Xg{cC:Sort gw}{c7:Sort hw}{dN:Sort iR}{eX:Sort lN}{gx:Sort nS}{hL:Sort p4}{bv bD:cC->c7->dN->eX->gx->hL->Prop}(J:cC)(P:c7)(X:dN)(aJ:eX)(ba:gx)(bZ:hL)(af:bv J P X aJ ba bZ)(ap:bD J P X aJ ba bZ):∃J P X aJ ba bZ,bv J P X aJ ba bZ/\bD J P X aJ ba bZ:=⟨J,P,X,aJ,ba,bZ,af,ap⟩
theorem Xh{cC:Sort gw}{c7:Sort hw}{dN:Sort iR}{eX:Sort lN}{gx:Sort nS}{hL:Sort p4}{bv bD bT:cC->c7->dN->eX->gx->hL->Prop}(J:cC)(P:c7)(X:dN)(aJ:eX)(ba:gx)(bZ:hL)(af:bv J P X aJ ba bZ)(ap:bD J P X aJ ba bZ)(bk:bT J P X aJ ba bZ):∃J P X aJ ba bZ,bv J P X aJ ba bZ/\bD J P X aJ ba bZ/\bT J P X aJ ba bZ:=⟨J,P,X,aJ,ba,bZ,af,ap,bk⟩
theorem Xi{cC:Sort gw}{c7:Sort hw}{dN:Sort iR}{eX:Sort lN}{gx:Sort nS}{hL:Sort p4}{lf:Sort tG}{lO:Sort tH}{bv bD bT cD c' d5 fw:cC->c7->dN->eX->gx->hL->lf->lO->Prop}(J:cC)(P:c7)(X:dN)(aJ:eX)(ba:gx)(bZ:hL)(c8:lf)(dc:lO)(af:bv J P X aJ ba bZ c8 dc)(ap:bD J P X aJ ba bZ c8 dc)(bk:bT J P X aJ ba bZ c8 dc)(cx:cD J P X aJ ba bZ c8 dc)(ef:c' J P X aJ ba bZ c8 dc)(fL:d5 J P X aJ ba bZ c8 dc)(g3:fw J P X aJ ba bZ c8 dc):∃J P X aJ ba bZ c8 dc,bv J P X aJ ba bZ c8 dc/\bD J P X aJ ba bZ c8 dc/\bT J P X aJ ba bZ c8 dc/\cD J P X aJ ba bZ c8 dc/\c' J P X aJ ba bZ c8 dc/\d5 J P X aJ ba bZ c8 dc/\fw J P X aJ ba bZ c8 dc:=⟨J,P,X,aJ,ba,bZ,c8,dc,af,ap,bk,cx,ef,fL,g3⟩
theorem Xj{cC:Sort gw}{c7:Sort hw}{dN:Sort iR}{eX:Sort lN}{gx:Sort nS}{hL:Sort p4}{lf:Sort tG}{lO:Sort tH}{nT:Sort uX}{bv bD bT:cC->c7->dN->eX->gx->hL->lf->lO->nT->Prop}(J:cC)(P:c7)(X:dN)(aJ:eX)(ba:gx)(bZ:hL)(c8:lf)(dc:lO)(ee:nT)(af:bv J P X aJ ba bZ c8 dc ee)(ap:bD J P X aJ ba bZ c8 dc ee)(bk:bT J P X aJ ba bZ c8 dc ee):∃J P X aJ ba bZ c8 dc ee,bv J P X aJ ba bZ c8 dc ee/\bD J P X aJ ba bZ c8 dc ee/\bT J P X aJ ba bZ c8 dc ee:=⟨J,P,X,aJ,ba,bZ,c8,dc,ee,af,ap,bk⟩
section
inductive jE where|x|y|z|w|u|v(k:Nat)|n(l:Nat)|o(f:jE)|a(f B:jE)|s(f B:jE)|m(l:Nat)(f:jE)|r(f:jE)(l:Nat)|g(f:jE)|c(f:jE)
inductive dF where|l(f B:jE)|t(f B:jE)|e(f B:jE)|nl(f B:jE)|lF(f B:jE)|ne(f B:jE)|b3(f B:jE)|b_(f B:jE)|eG(f B:jE)|qH(f B:jE)|pD(f B:jE)|fQ(f B:jE)|f
noncomputable def p':List Nat->Nat->Nat|f::_,0=>f|_::D,k+1=>p' D k|[],_=>0
noncomputable def qa:List Int->Nat->Int|f::_,0=>f|_::D,k+1=>qa D k|[],_=>0
variable(g:List Nat)(z:List Int)
noncomputable def lj:jE->Nat|.x=>p' g 0|.y=>p' g 1|.z=>p' g 2|.w=>p' g 3|.u=>p' g 4|.v k=>p' g k|.o f=>lj f+1|.n l=>l|.a f B=>lj f+lj B|.m l f=>l*lj f|.r f l=>lj f*l|_=>0
noncomputable def kp:jE->Int|.x=>qa z 0|.y=>qa z 1|.z=>qa z 2|.w=>qa z 3|.u=>qa z 4|.v k=>qa z k|.o f=>kp f+1|.n l=>l|.a f B=>kp f+kp B|.s f B=>kp f-kp B|.m l f=>l*kp f|.r f l=>kp f*l|.g f=>-kp f|.c f=>lj g f
def fy:dF->Prop|.l f B=>lj g f<=lj g B|.t f B=>lj g f<lj g B|.e f B=>lj g f=lj g B|.nl f B=>¬lj g f<=lj g B|.lF f B=>¬lj g f<lj g B|.ne f B=>¬lj g f=lj g B|.b3 f B=>kp g z f<=kp g z B|.b_ f B=>kp g z f<kp g z B|.eG f B=>kp g z f=kp g z B|.qH f B=>¬kp g z f<=kp g z B|.pD f B=>¬kp g z f<kp g z B|.fQ f B=>¬kp g z f=kp g z B|.f=>False
noncomputable abbrev j2:=Int×List Int×List Int
noncomputable def so:List Int->List Int->List Int|[],e=>e|r,[]=>r|f::r,B::e=>(f+B)::so r e
noncomputable def tJ(l:Int)(r:List Int):List Int:=r.map (l*·)
noncomputable def kq:Nat->List Int|0=>[1]|k+1=>0::kq k
noncomputable def iC:List Int->List Nat->Int|f::r,B::e=>f*B+iC r e|_,_=>0
noncomputable def ib:List Int->List Int->Int|f::r,B::e=>f*B+ib r e|_,_=>0
noncomputable def qb(f B:j2):j2:=(f.1+B.1,so f.2.1 B.2.1,so f.2.2 B.2.2)
noncomputable def rp(l:Int)(f:j2):j2:=(l*f.1,tJ l f.2.1,tJ l f.2.2)
noncomputable def hM(E:j2):Int:=E.1+iC E.2.1 g+ib E.2.2 z
noncomputable def mf:jE->j2|.x=>(0,kq 0,[])|.y=>(0,kq 1,[])|.z=>(0,kq 2,[])|.w=>(0,kq 3,[])|.u=>(0,kq 4,[])|.o f=>qb (mf f) (1,[],[])|.v k=>(0,kq k,[])|.n l=>(l,[],[])|.a f B=>qb (mf f)<|mf B|.m l f=>rp l<|mf f|.r f l=>rp l<|mf f|_=>(0,[],[])
noncomputable def kL:jE->j2|.x=>(0,[],kq 0)|.y=>(0,[],kq 1)|.z=>(0,[],kq 2)|.w=>(0,[],kq 3)|.u=>(0,[],kq 4)|.o f=>qb (kL f) (1,[],[])|.v k=>(0,[],kq k)|.n l=>(l,[],[])|.a f B=>qb (kL f)<|kL B|.s f B=>qb (kL f)<|rp (-1)<|kL B|.m l f=>rp l<|kL f|.r f l=>rp l<|kL f|.g f=>rp (-1)<|kL f|.c f=>mf f
theorem Pw:∀(g:List Nat)r e,iC (so r e) g=iC r g+iC e g
 |g,[],e=>by cases g<;>exact(w4 _).symm|g,f::r,[]=>by cases g<;>exact(pc _).symm|[],f::r,B::e=>U|G::g,f::r,B::e=>by
  show(f+B)*G+iC (so r e) g=f*G+iC r g+(B*G+iC e g);rw[Pw g r e,Int.add_mul]
  ac_rfl
theorem Px:∀(g:List Int)r e,ib (so r e) g=ib r g+ib e g
 |g,[],e=>by cases g<;>exact(w4 _).symm|g,f::r,[]=>by cases g<;>exact(pc _).symm|[],f::r,B::e=>U|G::g,f::r,B::e=>by
  show(f+B)*G+ib (so r e) g=f*G+ib r g+(B*G+ib e g);rw[Px g r e,Int.add_mul]
  ac_rfl
theorem Py(l:Int):∀(g:List Nat)r,iC (tJ l r) g=l*iC r g|g,[]=>by cases g<;>exact(zJ _).symm|[],f::r=>(zJ _).symm|G::g,f::r=>by show l*f*G+iC (tJ l r) g=l*(f*G+iC r g);rw[Py l g r,zK,G3]
theorem Pz(l:Int):∀(g:List Int)r,ib (tJ l r) g=l*ib r g|g,[]=>by cases g<;>exact(zJ _).symm|[],f::r=>(zJ _).symm|G::g,f::r=>by show l*f*G+ib (tJ l r) g=l*(f*G+ib r g);rw[Pz l g r,zK,G3]
theorem PA:∀(g:List Nat)k,iC (kq k) g=p' g k|[],0=>U|[],k+1=>U|G::g,0=>by show 1*(G:Int)+iC [] g=G;rw[Int.one_mul];cases g<;>exact pc _|G::g,k+1=>by show 0*(G:Int)+iC (kq k) g=p' g k;rw[PA g k,G4,w4]
theorem PB:∀(g:List Int)k,ib (kq k) g=qa g k|[],0=>U|[],k+1=>U|G::g,0=>by show 1*(G:Int)+ib [] g=G;rw[Int.one_mul];cases g<;>exact pc _|G::g,k+1=>by show 0*(G:Int)+ib (kq k) g=qa g k;rw[PB g k,G4,w4]
theorem PC(g:List Nat):iC [] g=0:=by cases g<;>rfl
theorem PD(g:List Int):ib [] g=0:=by cases g<;>rfl
theorem sp(f B:j2):hM g z (qb f B)=hM g z f+hM g z B:=by
 show f.1+B.1+iC (so _ _) g+ib (so _ _) z=f.1+iC _ g+ib _ z+(B.1+iC _ g+ib _ z);rw[Pw,Px]
 ac_rfl
theorem tK(l:Int)(f:j2):hM g z (rp l f)=l*hM g z f:=by show l*f.1+iC (tJ _ _) g+ib (tJ _ _) z=l*(f.1+iC _ g+ib _ z);rw[Py,Pz,zK,zK]
theorem pf(l:Int):hM g z (l,[],[])=l:=by show l+iC [] g+ib [] z=l;rw[PC,PD,pc,pc]
theorem xt(k:Nat):hM g z (0,kq k,[])=p' g k:=by show 0+iC (kq k) g+ib [] z=p' g k;rw[PA,PD,pc,w4]
theorem xu(k:Nat):hM g z (0,[],kq k)=qa z k:=by show 0+iC [] g+ib (kq k) z=qa z k;rw[PB,PC,pc,w4]
theorem mN:∀f,hM g z (mf f)=lj g f|.x=>xt g z 0|.y=>xt g z 1|.z=>xt g z 2|.w=>xt g z 3|.u=>xt g z 4|.v k=>xt g z k|.o f=>(sp ..).trans<|mN f▸pf g z 1▸(Nt ..).symm|.n l=>pf g z l|.a f B=>(sp ..).trans<|mN f▸mN B▸(Nt ..).symm|.m l f=>(tK ..).trans<|mN f▸(C9 ..).symm|.r f l=>(tK ..).trans<|mN f▸(C_ ..).trans (C9 ..).symm|.s _ _=>pf g z 0|.g _=>pf g z 0|.c _=>pf g z 0
theorem lP:∀f,hM g z (kL f)=kp g z f|.x=>xu g z 0|.y=>xu g z 1|.z=>xu g z 2|.w=>xu g z 3|.u=>xu g z 4|.v k=>xu g z k|.o f=>(sp ..).trans<|lP f▸pf g z 1▸U|.n l=>pf g z l|.a f B=>(sp ..).trans<|lP f▸lP B▸U|.s f B=>(sp ..).trans<|tK g z (-1) (kL B)▸lP f▸lP B▸G5 _▸zL.symm|.m l f=>(tK ..).trans<|lP f▸U|.r f l=>(tK ..).trans<|lP f▸C_ ..|.g f=>(tK ..).trans<|lP f▸(G5 _).symm|.c f=>mN g z f
noncomputable def nj(B f:j2)(l:Int):j2:=qb (qb B<|rp (-1) f) (l,[],[])
theorem If(B f:j2)(l:Int):hM g z (nj B f l)=hM g z B-hM g z f+l:=by rw[nj,sp,sp,tK,pf,<-G5,zL]
noncomputable def nV:dF->Bool×j2|.l f B=>(a1,nj (mf B) (mf f) 0)|.t f B=>(a1,nj (mf B) (mf f)<|-1)|.e f B=>(Z,nj (mf B) (mf f) 0)|.nl f B=>(a1,nj (mf f) (mf B)<|-1)|.lF f B=>(a1,nj (mf f) (mf B) 0)|.ne _ _=>(a1,(0,[],[]))|.b3 f B=>(a1,nj (kL B) (kL f) 0)|.b_ f B=>(a1,nj (kL B) (kL f)<|-1)|.eG f B=>(Z,nj (kL B) (kL f) 0)|.qH f B=>(a1,nj (kL f) (kL B)<|-1)|.pD f B=>(a1,nj (kL f) (kL B) 0)|.fQ _ _=>(a1,(0,[],[]))|.f=>(a1,(-1,[],[]))
theorem DQ{f B:j2}{h b:Int}(R:hM g z f=h)(a8:hM g z B=b)(c:h<=b):0<=hM g z (nj B f 0):=by rw[If,R,a8,pc];exact Int.sub_nonneg_of_le c
theorem DR{f B:j2}{h b:Int}(R:hM g z f=h)(a8:hM g z B=b)(c:h<b):0<=hM g z (nj B f<|-1):=by rw[If,R,a8];exact Int.le_sub_one_of_lt<|Int.sub_pos_of_lt c
theorem PE{f B:j2}{h b:Int}(R:hM g z f=h)(a8:hM g z B=b)(c:h=b):hM g z (nj B f 0)=0:=by rw[If,R,a8,pc,c,Int.sub_self]
theorem PF:∀I,fy g z I->(cond (nV I).1 (hM g z (nV I).2=0)<|0<=hM g z (nV I).2)|.l f B,c=>DQ g z (mN g z f) (mN g z B)<|G6.mpr c|.t f B,c=>DR g z (mN g z f) (mN g z B)<|C'.mpr c|.e f B,c=>PE g z (mN g z f) (mN g z B)<|congrArg Nat.cast c|.nl f B,c=>DR g z (mN g z B) (mN g z f)<|C'.mpr<|Hc c|.lF f B,c=>DQ g z (mN g z B) (mN g z f)<|G6.mpr<|q_ c|.ne _ _,_=>w5 (pf g z 0).symm|.b3 f B,c=>DQ g z (lP g z f) (lP g z B) c|.b_ f B,c=>DR g z (lP g z f) (lP g z B) c|.eG f B,c=>PE g z (lP g z f) (lP g z B) c|.qH f B,c=>DR g z (lP g z B) (lP g z f)<|Int.lt_of_not_ge c|.pD f B,c=>DQ g z (lP g z B) (lP g z f)<|G7.mp c|.fQ _ _,_=>w5 (pf g z 0).symm|.f,c=>c.elim
noncomputable def tL(b:Bool):dF->dF|.l f B=>.nl f B|.t f B=>.lF f B|.e f B=>cond b (.t f B)<|.t B f|.nl f B=>.l f B|.lF f B=>.t f B|.ne f B=>.e f B|.b3 f B=>.qH f B|.b_ f B=>.pD f B|.eG f B=>cond b (.b_ f B)<|.b_ B f|.qH f B=>.b3 f B|.pD f B=>.b_ f B|.fQ f B=>.eG f B|.f=>.e (.n 0)<|.n 0
theorem Xk:∀s,(fy g z (tL Z s)->False)->(fy g z (tL a1 s)->False)->fy g z s|.l _ _,c,_=>Dl c|.t _ _,c,_=>Dl c|.e _ _,c,l=>w6 (q_ l)<|q_ c|.nl _ _,c,_=>c|.lF _ _,c,_=>c|.ne _ _,c,_=>c|.b3 _ _,c,_=>Dl c|.b_ _ _,c,_=>Dl c|.eG _ _,c,l=>Int.le_antisymm (G7.mp l)<|G7.mp c|.qH _ _,c,_=>c|.pD _ _,c,_=>c|.fQ _ _,c,_=>c|.f,c,_=>c U
def gk(s:Prop):List dF->Prop|[]=>s|I::D=>fy g z I->gk s D
noncomputable def xv:List Int->List dF->Option j2|l::bR,I::D=>cond ((nV I).1||decide (0<=l)) ((xv bR D).map<|qb<|rp l (nV I).2) aQ|[],I::D=>(xv [] D).map<|qb (nV I).2|_,[]=>W (0,[],[])
theorem DS{H C:Prop}(c:H->C):∀D:List dF,gk g z H D->gk g z C D|[]=>c|_::D=>λe R=>DS c D<|e R
theorem Ig:∀(bR:List Int)(D:List dF){E},xv bR D=W E->gk g z (0<=hM g z E) D
 |[],[],_,c=>by cases c;exact w5 (pf g z 0).symm|_::_,[],_,c=>by cases c;exact w5 (pf g z 0).symm|[],I::D,E,c=>by
  intro bg;obtain⟨aN,e4,rfl⟩:=zI.mp c;have step:0<=hM g z (nV I).2:=by have aS:=PF g z I bg;cases a5:(nV I).1 with
   |true=>rw[a5]at aS;exact w5<|Dm aS|false=>rw[a5]at aS;exact aS
  exact DS g z (λe=>by rw[sp];exact G8 step e) D<|Ig [] D e4|l::bR,I::D,E,c=>by intro bg;have aS:=PF g z I bg;replace c:cond ((nV I).1||decide (0<=l)) ((xv bR D).map<|qb<|rp l (nV I).2) aQ=W E:=c;cases m:(nV I).1||decide (0<=l)with
  |false=>rw[m]at c;cases c|true=>
   rw[m]at c;obtain⟨aN,e4,rfl⟩:=zI.mp c;have step:0<=l*hM g z (nV I).2:=by cases a5:(nV I).1 with
    |true=>rw[a5]at aS;rw[show hM g z (nV I).2=0 from aS];exact w5 (zJ l).symm|false=>rw[a5]at m aS;exact Nu (of_decide_eq_true m) aS
   exact DS g z (λe=>by rw[sp,tK];exact G8 step e) D<|Ig bR D e4
noncomputable def PG(E:j2):Bool:=decide (E.1<0)&&E.2.1.all (λf=>decide<|f<=0)&&E.2.2.all (λf=>decide<|f=0)
theorem PH:∀(g:List Nat)r,r.all (λf=>decide<|f<=0)=Z->iC r g<=0|[],r,_=>by cases r<;>exact G9 0|_::_,[],_=>G9 0|G::g,f::r,c=>by have c:=l8.mp c;exact Int.add_nonpos (Int.mul_nonpos_of_nonpos_of_nonneg (of_decide_eq_true c.1)<|iP G)<|PH g r c.2
theorem PI:∀(g:List Int)r,r.all (λf=>decide<|f=0)=Z->ib r g=0|[],r,_=>by cases r<;>rfl|_::_,[],_=>U|G::g,f::r,c=>by have c:=l8.mp c;show f*G+ib r g=0;rw[PI g r c.2,of_decide_eq_true c.1,G4,pc]
theorem Xl{E:j2}(c:PG E=Z):¬0<=hM g z E:=by have c:=l8.mp c;have af:=l8.mp c.1;refine Int.not_le.mpr ?_;show E.1+iC E.2.1 g+ib E.2.2 z<0;rw[PI z _ c.2,pc];exact Int.add_neg_of_neg_of_nonpos (of_decide_eq_true af.1)<|PH g _ af.2
noncomputable def eg(s:dF)(D:List dF)(b:Bool)(bR:List Int):Bool:=((xv bR<|tL b s::D).map PG).getD a1
theorem PJ{s:dF}{D:List dF}{b:Bool}{bR:List Int}(c:eg s D b bR=Z):fy g z (tL b s)->gk g z False D:=by have e:=λE=>Ig g z bR (tL b s::D) (E:=E);rw[eg]at c;cases L:xv bR (tL b s::D)with|none=>rw[L]at c;cases c|some E=>rw[L]at c;have:=e E L;intro ay;have eY:=this ay;exact DS g z (Xl g z c) D eY
theorem hx(g:List Nat)(z:List Int)(bR iU:List Int)(s:dF)(D:List dF)(c:(eg s D Z bR&&eg s D a1 iU)=Z):gk g z (fy g z s) D:=by
 have c:=l8.mp c;have cF:∀D:List dF,(fy g z (tL Z s)->gk g z False D)->(fy g z (tL a1 s)->gk g z False D)->gk g z (fy g z s) D:=by intro D;induction D with
  |nil=>exact λh b=>Xk g z s h b|cons f D a2=>exact λh b R=>a2 (λe=>h e R)<|λe=>b e R
 exact cF D (PJ g z c.1)<|PJ g z c.2
theorem f1{ff:Int}(s:dF)(D:List dF)(c:(eg s D Z []&&eg s D a1 [])=Z):gk [] [ff] (fy [] [ff] s) D:=hx [] [ff] [] [] s D c
theorem PK{ff:Int}(bR:List Int)(s:dF)(D:List dF)(c:(eg s D Z bR&&eg s D a1 bR)=Z):gk [] [ff] (fy [] [ff] s) D:=hx [] [ff] bR bR s D c
theorem Ih{ff j3:Int}(s:dF)(D:List dF)(c:(eg s D Z []&&eg s D a1 [])=Z):gk [] [ff,j3] (fy [] [ff,j3] s) D:=hx [] [ff,j3] [] [] s D c
theorem Xm{ff j3:Int}(bR:List Int)(s:dF)(D:List dF)(c:(eg s D Z bR&&eg s D a1 bR)=Z):gk [] [ff,j3] (fy [] [ff,j3] s) D:=hx [] [ff,j3] bR bR s D c
theorem PL{ff j3 An:Int}(bR:List Int)(s:dF)(D:List dF)(c:(eg s D Z bR&&eg s D a1 bR)=Z):gk [] [ff,j3,An] (fy [] [ff,j3,An] s) D:=hx [] [ff,j3,An] bR bR s D c
theorem cy{cA:Nat}(s:dF)(D:List dF)(c:(eg s D Z []&&eg s D a1 [])=Z):gk [cA] [] (fy [cA] [] s) D:=hx [cA] [] [] [] s D c
theorem rq{cA:Nat}(bR:List Int)(s:dF)(D:List dF)(c:(eg s D Z bR&&eg s D a1 bR)=Z):gk [cA] [] (fy [cA] [] s) D:=hx [cA] [] bR bR s D c
theorem Ii{cA:Nat}(bR iU:List Int)(s:dF)(D:List dF)(c:(eg s D Z bR&&eg s D a1 iU)=Z):gk [cA] [] (fy [cA] [] s) D:=hx [cA] [] bR iU s D c
theorem pg{cA:Nat}{ff:Int}(s:dF)(D:List dF)(c:(eg s D Z []&&eg s D a1 [])=Z):gk [cA] [ff] (fy [cA] [ff] s) D:=hx [cA] [ff] [] [] s D c
theorem Ij{cA:Nat}{ff:Int}(bR:List Int)(s:dF)(D:List dF)(c:(eg s D Z bR&&eg s D a1 bR)=Z):gk [cA] [ff] (fy [cA] [ff] s) D:=hx [cA] [ff] bR bR s D c
theorem Xn{cA:Nat}{ff:Int}(bR iU:List Int)(s:dF)(D:List dF)(c:(eg s D Z bR&&eg s D a1 iU)=Z):gk [cA] [ff] (fy [cA] [ff] s) D:=hx [cA] [ff] bR iU s D c
theorem DT{cA:Nat}{ff j3:Int}(s:dF)(D:List dF)(c:(eg s D Z []&&eg s D a1 [])=Z):gk [cA] [ff,j3] (fy [cA] [ff,j3] s) D:=hx [cA] [ff,j3] [] [] s D c
theorem c3{cA dr:Nat}(s:dF)(D:List dF)(c:(eg s D Z []&&eg s D a1 [])=Z):gk [cA,dr] [] (fy [cA,dr] [] s) D:=hx [cA,dr] [] [] [] s D c
theorem gd{cA dr:Nat}(bR:List Int)(s:dF)(D:List dF)(c:(eg s D Z bR&&eg s D a1 bR)=Z):gk [cA,dr] [] (fy [cA,dr] [] s) D:=hx [cA,dr] [] bR bR s D c
theorem rr{cA dr:Nat}(bR iU:List Int)(s:dF)(D:List dF)(c:(eg s D Z bR&&eg s D a1 iU)=Z):gk [cA,dr] [] (fy [cA,dr] [] s) D:=hx [cA,dr] [] bR iU s D c
theorem Ik{cA dr:Nat}{ff:Int}(s:dF)(D:List dF)(c:(eg s D Z []&&eg s D a1 [])=Z):gk [cA,dr] [ff] (fy [cA,dr] [ff] s) D:=hx [cA,dr] [ff] [] [] s D c
theorem Xo{cA dr:Nat}{ff:Int}(bR:List Int)(s:dF)(D:List dF)(c:(eg s D Z bR&&eg s D a1 bR)=Z):gk [cA,dr] [ff] (fy [cA,dr] [ff] s) D:=hx [cA,dr] [ff] bR bR s D c
theorem hh{cA dr es:Nat}(s:dF)(D:List dF)(c:(eg s D Z []&&eg s D a1 [])=Z):gk [cA,dr,es] [] (fy [cA,dr,es] [] s) D:=hx [cA,dr,es] [] [] [] s D c
theorem j4{cA dr es:Nat}(bR:List Int)(s:dF)(D:List dF)(c:(eg s D Z bR&&eg s D a1 bR)=Z):gk [cA,dr,es] [] (fy [cA,dr,es] [] s) D:=hx [cA,dr,es] [] bR bR s D c
theorem nW{cA dr es:Nat}(bR iU:List Int)(s:dF)(D:List dF)(c:(eg s D Z bR&&eg s D a1 iU)=Z):gk [cA,dr,es] [] (fy [cA,dr,es] [] s) D:=hx [cA,dr,es] [] bR iU s D c
theorem Ao{cA dr es:Nat}{ff:Int}(s:dF)(D:List dF)(c:(eg s D Z []&&eg s D a1 [])=Z):gk [cA,dr,es] [ff] (fy [cA,dr,es] [ff] s) D:=hx [cA,dr,es] [ff] [] [] s D c
theorem oF{cA dr es gE:Nat}(s:dF)(D:List dF)(c:(eg s D Z []&&eg s D a1 [])=Z):gk [cA,dr,es,gE] [] (fy [cA,dr,es,gE] [] s) D:=hx [cA,dr,es,gE] [] [] [] s D c
theorem ph{cA dr es gE:Nat}(bR:List Int)(s:dF)(D:List dF)(c:(eg s D Z bR&&eg s D a1 bR)=Z):gk [cA,dr,es,gE] [] (fy [cA,dr,es,gE] [] s) D:=hx [cA,dr,es,gE] [] bR bR s D c
theorem Ap{cA dr es gE:Nat}(bR iU:List Int)(s:dF)(D:List dF)(c:(eg s D Z bR&&eg s D a1 iU)=Z):gk [cA,dr,es,gE] [] (fy [cA,dr,es,gE] [] s) D:=hx [cA,dr,es,gE] [] bR iU s D c
theorem xw{cA dr es gE jF:Nat}(s:dF)(D:List dF)(c:(eg s D Z []&&eg s D a1 [])=Z):gk [cA,dr,es,gE,jF] [] (fy [cA,dr,es,gE,jF] [] s) D:=hx [cA,dr,es,gE,jF] [] [] [] s D c
theorem rs{cA dr es gE jF:Nat}(bR:List Int)(s:dF)(D:List dF)(c:(eg s D Z bR&&eg s D a1 bR)=Z):gk [cA,dr,es,gE,jF] [] (fy [cA,dr,es,gE,jF] [] s) D:=hx [cA,dr,es,gE,jF] [] bR bR s D c
theorem rt{cA dr es gE jF:Nat}(bR iU:List Int)(s:dF)(D:List dF)(c:(eg s D Z bR&&eg s D a1 iU)=Z):gk [cA,dr,es,gE,jF] [] (fy [cA,dr,es,gE,jF] [] s) D:=hx [cA,dr,es,gE,jF] [] bR iU s D c
theorem Xp{cA dr es gE jF qc:Nat}(bR:List Int)(s:dF)(D:List dF)(c:(eg s D Z bR&&eg s D a1 bR)=Z):gk [cA,dr,es,gE,jF,qc] [] (fy [cA,dr,es,gE,jF,qc] [] s) D:=hx [cA,dr,es,gE,jF,qc] [] bR bR s D c
theorem Il{cA dr es gE jF qc:Nat}(bR iU:List Int)(s:dF)(D:List dF)(c:(eg s D Z bR&&eg s D a1 iU)=Z):gk [cA,dr,es,gE,jF,qc] [] (fy [cA,dr,es,gE,jF,qc] [] s) D:=hx [cA,dr,es,gE,jF,qc] [] bR iU s D c
theorem PM{cA dr es gE jF qc Im:Nat}(bR iU:List Int)(s:dF)(D:List dF)(c:(eg s D Z bR&&eg s D a1 iU)=Z):gk [cA,dr,es,gE,jF,qc,Im] [] (fy [cA,dr,es,gE,jF,qc,Im] [] s) D:=hx [cA,dr,es,gE,jF,qc,Im] [] bR iU s D c
theorem f2(h b:Nat):h<=h-b+b:=Nx.mp<|dA _
theorem eN{h b:Nat}(c:b<=h):h-b+b=h:=zP c
theorem jh{h b:Nat}(c:h<=b):h-b=0:=Ny c
theorem qd(f l:Nat):l*(f/l)<=f:=Nz f l
theorem qe(f l:Nat):f<(l+1)*(f/(l+1))+(l+1):=Nat.lt_mul_div_succ f<|zQ l
theorem Xq(f l:Nat):f%(l+1)<l+1:=Nat.mod_lt f<|zQ l
theorem Xr(f l:Nat):l*(f/l)+f%l=f:=uJ f l
theorem tM(h b:Nat):min h b<=h:=Nat.min_le_left h b
theorem DU(h b:Nat):min h b<=b:=Nat.min_le_right h b
theorem Io{h b:Nat}(c:h<=b):min h b=h:=Dc c
theorem PN{h b:Nat}(c:b<=h):min h b=b:=Dd c
theorem PO(h b:Nat):h<=max h b:=Nat.le_max_left h b
theorem Xs(h b:Nat):b<=max h b:=Hd h b
theorem ru(f:Int):f<=f.toNat:=Int.self_le_toNat f
theorem oG{f:Int}(c:0<=f):f.toNat=f:=G_ c
theorem PP(f:Int)(l:Nat):((l+1:Nat):Int)*(f/((l+1:Nat):Int))+f%((l+1:Nat):Int)=f:=Int.mul_ediv_add_emod f _
theorem PQ(f:Int)(l:Nat):0<=f%((l+1:Nat):Int):=Int.emod_nonneg f<|Int.natCast_ne_zero.mpr<|NA l
theorem PR(f:Int)(l:Nat):f%((l+1:Nat):Int)<((l+1:Nat):Int):=Int.emod_lt_of_pos f<|Nv.mpr<|zQ l
end
section
variable{bf:Type}{H:bf->Prop}{h b g:bf}{D y:List bf}
theorem g4(c:H h)(l:∀b∈D,H b):∀b∈h::D,H b:=λb e=>(fR.mp e).elim (λi=>i▸c)<|l b
theorem aW:∀b∈([]:List bf),H b:=λw e=>nomatch e
theorem bN{ak:Prop}(e:h∈D++y)(c:h∈D->ak)(l:h∈y->ak):ak:=(mb.mp e).elim c l
theorem dH{ak:Prop}(e:h∈b::D)(c:h=b->ak)(l:h∈D->ak):ak:=(fR.mp e).elim c l
theorem b3(e:h∈D):h∈D++y:=uM _ e
theorem bO(e:h∈y):h∈D++y:=xa _ e
theorem bm(e:h∈[b]):h=b:=km.mp e
theorem bz:h∈h::D:=Ht
theorem mt(e:h∈D):h∈b::D:=zW _ e
theorem rv{bf:Sort aN}{cE:Sort u}{h:bf}{b:cE}{ak:bf->cE->Prop}(c:ak h b):∀f B,f=h/\B=b->ak f B:=λw w i=>i.1▸i.2▸c
theorem cd{h b:Nat}{H:Prop}(c:h<b)(l:b<=h):H:=absurd c<|Nat.not_lt.mpr l
theorem mg{bf cE:Type}{I:bf->cE}{D:List bf}{b:cE}{ak:Prop}(c:b∈D.map I)(l:∀h,h∈D->I h=b->ak):ak:=(k_.mp c).elim λh e=>l h e.1 e.2
theorem u1{bf cE:Type}{I:bf->cE}{f:Option bf}{b:cE}{ak:Prop}(c:f.map I=W b)(l:∀h,f=W h->I h=b->ak):ak:=(zI.mp c).elim λh e=>l h e.1 e.2
theorem iV{H:Prop}(c:a1=Z):H:=nomatch c
theorem PS{H:Prop}(c:Z=a1):H:=nomatch c
theorem dI{bf:Type aN}{h:bf}{H:Prop}(c:aQ=W h):H:=nomatch c
theorem DV{bf:Type aN}{h:bf}{H:Prop}(c:W h=aQ):H:=nomatch c
theorem dt{bf:Type aN}{h:bf}{H:Prop}(c:h∈([]:List bf)):H:=nomatch c
theorem lk{bf:Type aN}{h b:bf}(c:W h=W b):h=b:=d4 c
end
noncomputable def qf:List String:=["bytearray.__contains__","bytearray.__mod__","bytearray.__rmod__","_struct.pack_into.held","bytearray.find.held"]++Oh
noncomputable def rw:iv->Bool|.builtin id bL=>qf.contains id|_=>a1
def sq(D:List<|iv×Pos):Prop:=∀f∈D,rw f.1=a1
def Y(prog:cl)(j:b7)(q:bY)(E:Sem bf)(C:bf->ag->Prop)(a:ag):Prop:=∀A r,A.In q->rw A.code=a1->sq A.below->jZ (cq prog j) A E (λh w v=>C h v) (λw w w=>False) r a
def d2(prog:cl)(j:b7)(q:bY)(g:iv)(b_:gb->ag->Prop)(a:ag):Prop:=∀A r,A.code=g->A.Below q->sq A.below->wpCode (cq prog j) A (λy v=>match y with|.ok I=>b_ I v|.error _=>False) r a
theorem Y.of(c:b9 (cq prog j) q E C (λw w=>False) a):Y prog j q E C a:=λA r cn w w=>c A r cn
theorem d2.of(c:zq (cq prog j) q g (λy v=>match y with|.ok I=>b_ I v|.error _=>False) a):d2 prog j q g b_ a:=λA r az cn w=>c A r az cn
theorem Y.pure(c:C h a):Y prog j q (pure h) C a:=λw w w w w=>c
theorem Y.mono(c:Y prog j q E C a)(ah:∀h a,C h a->nk h a):Y prog j q E nk a:=λA r cn af ap=>md _ A E (λh w v=>ah h v) (λw w w f=>f) r a<|c A r cn af ap
theorem Y.bind(c:Y prog j q aA (λh v=>Y prog j q (I h) C v) a):Y prog j q (aA>>=I) C a:=λA r cn af ap=>by exact V (z' ..)<|md _ A aA (λh bn v aa=>aa A bn cn af ap) (λw w w aa=>aa) r a<|c A r cn af ap
theorem Y.holding(c:Y prog j q aA C a):Y prog j q (GE O aA) C a:=λA r cn af ap=>by exact V (Sem.wp_holding ..)<|c A r cn af ap
theorem Y.keep(c:Y prog j q aA C a):Y prog j q (aA.keep O) C a:=λA r cn af ap=>by exact V (Sem.wp_keep ..)<|c A r cn af ap
theorem Y.onRaise(c:Y prog j q aA C a):Y prog j q (aA.onRaise l) C a:=λA r cn af ap=>by exact V (Op ..)<|md _ A aA (λw w w aa=>aa) (λw w w aa=>aa.elim) r a<|c A r cn af ap
theorem Y.tryCatch(c:Y prog j q aA C a):Y prog j q (aA.tryCatch l) C a:=λA r cn af ap=>by exact V (Sem.wp_tryCatch ..)<|md _ A aA (λw w w aa=>aa) (λw w w aa=>aa.elim) r a<|c A r cn af ap
theorem Y.attempt{aA:Sem bf}{C:Except al bf->ag->Prop}(c:Y prog j q aA (λh v=>C (.ok h) v) a):Y prog j q aA.attempt C a:=λA r cn af ap=>by exact V (Sem.wp_attempt ..)<|md _ A aA (λw w w aa=>aa) (λw w w aa=>aa.elim) r a<|c A r cn af ap
theorem Y.eq(i:E=eR)(c:Y prog j q eR C a):Y prog j q E C a:=i▸c
theorem Y.run(az:d2 prog j q g C a):Y prog j q (PySem.run g) C a:=λA r cn af ap=>by
 refine V (Sem.wp_run ..) ?_;have pi:(A.enter g aQ r).Below q:=cn.enter g aQ r (by intro f;exact dI f);refine zr (λy v f=>?_)<|az (A.enter g aQ r) r U pi ?_
 .cases y with|ok I=>exact f|error i=>exact f.elim
 .intro f R
  revert f;refine g4 ?_ ?_
  .exact af
  .intro f R;exact ap f R
theorem Y.runOwn(az:d2 prog j q g C a):Y prog j q (PySem.runOwn g n) C a:=Y.onRaise<|Y.run az
theorem Y.runValue(az:d2 prog j q g (λI v=>∃u,I=.ret u/\C u v) a):Y prog j q (PySem.runValue g) C a:=by refine Y.bind<|Y.mono (Y.run az) ?_;rintro I v bP;exact br bP λu cB c=>V cB<|Y.pure c
theorem Y.call(az:d2 prog j q (.call I ⟨aj,PT⟩) (λI v=>∃u,I=.ret u/\C u v) a):Y prog j q (er I aj PT) C a:=Y.runValue az
def xx(prog:cl)(j:b7)(q:bY)(b_:gb->ag->Prop)(g':Fin)(v:ag):Prop:=match g' with|.done I=>b_ I v|.again be=>be.quiet=Z/\d2 prog j q be b_ v
theorem d2.lI(cJ:rw g=a1)(c:Y prog j (q.under g) (tp table g) (xx prog j q b_) a):d2 prog j q g b_ a:=λA r az cn ap=>by refine g2 (CO ..)<|V az<|md _ A _ (λg' bn v aa=>?_) (λw w w aa=>aa) r a<|c A r (az▸cn.in) (az▸cJ) ap;cases g' with|done I=>exact aa|again be=>exact⟨aa.1,aa.2 (A.goto be) bn U (cn.goto be) ap⟩
theorem d2.mono(c:d2 prog j q g b_ a)(iD:∀I a,b_ I a->Xt I a):d2 prog j q g Xt a:=λA r az cn ap=>zr (λy v f=>by cases y with|ok I=>exact iD I v f|error i=>exact f)<|c A r az cn ap
theorem d2.loop(cJ:rw g=a1)(a5:g.quiet=Z)(ai:Nat->ag->Prop)(oH:∀t a,ai t a->Y prog j (q.under g) (tp table g) (λg' v=>match g' with|.done I=>b_ I v|.again be=>(be=g/\∃aA,aA<t/\ai aA v)\/(be.quiet=Z/\d2 prog j q be b_ v)) a)(t:Nat)(c:ai t a):d2 prog j q g b_ a:=by induction t using He generalizing a with|ind t a2=>refine d2.lI cJ<|Y.mono (oH t a c) λg' v bg=>?_;cases g' with|done I=>exact bg|again be=>
   rcases bg with⟨rfl,aA,bt,ll⟩|bg
   .exact⟨a5,a2 aA bt ll⟩
   .exact bg
theorem d2.builtin{id:String}{f3:Args}{b:tq}{b_:gb->ag->Prop}(cJ:rw (.builtin id f3)=a1)(m:k6 table id=W b)(c:Y prog j (q.under<|.builtin id f3) (b f3) (xx prog j q b_) a):d2 prog j q (.builtin id f3) b_ a:=by refine d2.lI cJ ?_;show Y prog j _ (match k6 table id with|some b=>b f3|none=>unsupported<|(withoutEnding? id "#data").getD id) _ a;exact V m c
theorem Aq{id u2:String}(c:qf.contains id=a1)(aI:qf.contains u2=Z):id≠u2:=λi=>nomatch(i▸c).symm.trans aI
theorem Ar[Decidable g](c:¬g)(l:i c=B):dite g E i=B:=(dif_neg c).trans l
set_option tactic.hygienic true in theorem Y.exported(c:C a1 a):Y prog j q (z_ pj) C a:=λA r w af ap=>by
 have az:sq ((A.code,r)::A.below):=λf R=>dH R (λi=>i▸af)<|ap f;refine Eq.mpr (congrArg (λb=>C b a) (List.any_eq_false.mpr λf R=>?_:List.any _ _=a1)) c;have a5:=az f R;clear R;obtain⟨g,e⟩:=f;cases g
 case builtin id f3=>
  refine V (Bool.not_eq_true ..) ?_
  delta Wy
  dsimp only[z_._sparseCasesOn_1];refine Ar (Aq (u2:="bytearray.__contains__") a5 U)<|Ar (Aq (u2:="bytearray.__mod__") a5 U)<|Ar (Aq (u2:="bytearray.__rmod__") a5 U)<|Ar (Aq (u2:="_struct.pack_into.held") a5 U)<|Ar (Aq (u2:="bytearray.find.held") a5 U) ?_;obtain⟨aj,PT⟩:=f3;cases aj with
  |nil=>rfl|cons u y=>
   have i:Oh.contains id=a1:=by have nn:qf.contains id=a1:=a5;unfold qf at nn;rw[List.contains_append,GC]at nn;exact nn.2
   exact(congrArg (_&&·) i).trans<|Nb _
 all_goals exact uz
section
theorem dV(c:Y prog j q (l ()) C a):Y prog j q (zs aj>>=l) C a:=Y.bind<|Y.of<|pS c
theorem eo(c:Y prog j q (I h) C a):Y prog j q (dz h>>=I) C a:=Y.bind<|Y.pure c
theorem d6(c:Y prog j q aA (λh v=>Y prog j q (I h) C v) a):Y prog j q (GE O aA>>=I) C a:=Y.bind<|Y.holding c
theorem hi(c:Y prog j q aA H a)(l:∀h v,H h v->Y prog j q (I h) C v):Y prog j q (aA>>=I) C a:=Y.bind<|Y.mono c l
theorem du(c:b9 (cq prog j) q aA (λh v=>Y prog j q (I h) C v) (λw w=>False) a):Y prog j q (aA>>=I) C a:=Y.bind<|Y.of c
theorem gK[Decidable g](c:¬g)(l:Y prog j q b C a):Y prog j q (if g then h else b) C a:=Y.eq (if_neg c) l
theorem tN[Decidable g](c:g)(l:Y prog j q h C a):Y prog j q (if g then h else b) C a:=Y.eq (if_pos c) l
end
section
open PySem PySem.F
theorem xy:HJ.lookup (HK ['y','a','r','r','a','e','t','y','b'].reverse)=W Manifest.sig_bytearray:=by cbv
theorem Ip:Slot "bytearray" "__len__" "bytearray.__len__":=.of (owner:="bytearray") (n:="__len__") (by rw[hJ,hK];cbv) (by decide+kernel) (by decide+kernel) (by decide+kernel) (by first|exact .inl (by decide+kernel)|exact .inr (by decide+kernel)) (by rw[kH];cbv)
theorem Xu:k6 table "bytearray.__len__"=W Wz:=o_ (by cbv)
theorem Xv(h:al):jc "bytearray.__len__" ⟨[h],[]⟩:=by unfold jc;rw[sc (id:="bytearray.__len__") (n:=['_','_','n','e','l','_','_']) (o:=['y','a','r','r','a','e','t','y','b']) (by cbv) xy];cbv
theorem u3:Slot "bytearray" "__getitem__" "bytearray.__getitem__":=.of (owner:="bytearray") (n:="__getitem__") (by rw[hJ,hK];cbv) (by decide+kernel) (by decide+kernel) (by decide+kernel) (by first|exact .inl (by decide+kernel)|exact .inr (by decide+kernel)) (by rw[kH];cbv)
theorem PU:k6 table "bytearray.__getitem__"=W WA:=o_ (by cbv)
theorem PV(h b:al):jc "bytearray.__getitem__" ⟨[h,b],[]⟩:=by unfold jc;rw[sc (id:="bytearray.__getitem__") (n:=['_','_','m','e','t','i','t','e','g','_','_']) (o:=['y','a','r','r','a','e','t','y','b']) (by cbv) xy];cbv
theorem PW:Slot "bytearray" "__setitem__" "bytearray.__setitem__":=.of (owner:="bytearray") (n:="__setitem__") (by rw[hJ,hK];cbv) (by decide+kernel) (by decide+kernel) (by decide+kernel) (by first|exact .inl (by decide+kernel)|exact .inr (by decide+kernel)) (by rw[kH];cbv)
theorem Xw:k6 table "bytearray.__setitem__"=W WB:=o_ (by cbv)
theorem Xy(h b g:al):jc "bytearray.__setitem__" ⟨[h,b,g],[]⟩:=by unfold jc;rw[sc (id:="bytearray.__setitem__") (n:=['_','_','m','e','t','i','t','e','s','_','_']) (o:=['y','a','r','r','a','e','t','y','b']) (by cbv) xy];cbv
theorem PX:Slot "bytearray" "__iter__" "bytearray.__iter__":=.of (owner:="bytearray") (n:="__iter__") (by rw[hJ,hK];cbv) (by decide+kernel) (by decide+kernel) (by decide+kernel) (by first|exact .inl (by decide+kernel)|exact .inr (by decide+kernel)) (by rw[kH];cbv)
theorem Xz:k6 table "bytearray.__iter__"=W WC:=o_ (by cbv)
theorem XA(h:al):jc "bytearray.__iter__" ⟨[h],[]⟩:=by unfold jc;rw[sc (id:="bytearray.__iter__") (n:=['_','_','r','e','t','i','_','_']) (o:=['y','a','r','r','a','e','t','y','b']) (by cbv) xy];cbv
theorem Iq:Slot "bytearray" "extend" "bytearray.extend":=.of (owner:="bytearray") (n:="extend") (by rw[hJ,hK];cbv) (by decide+kernel) (by decide+kernel) (by decide+kernel) (by first|exact .inl (by decide+kernel)|exact .inr (by decide+kernel)) (by rw[kH];cbv)
theorem PY:k6 table "bytearray.extend"=W WD:=o_ (by cbv)
theorem XB:typeOf (.builtin "bytearray.extend")=pure (.type "method_descriptor"):=by show builtinType _=_;rw[builtinType_eq_fast];cbv
theorem PZ(h b:al):jc "bytearray.extend" ⟨[h,b],[]⟩:=by unfold jc;rw[sc (id:="bytearray.extend") (n:=['d','n','e','t','x','e']) (o:=['y','a','r','r','a','e','t','y','b']) (by cbv) xy];cbv
end
section
open PySem PySem.F PySem.Calls
variable{prog:cl}{j:b7}{q:bY}{a:ag}{as:al->ag->Prop}
noncomputable def cQ(b:Array UInt8):Obj:={cls:=.type "bytearray",data:=.bytearray b 0}
theorem gV{h:aq}{b:Array UInt8}(c:a.heap.get? h=W (cQ b)):a.TypeIs (.ref h) "bytearray":=⟨_,c,U⟩
theorem P0(aP:a.heap.get? h=W (cQ b))(kM:(b.size:Int)<2^63)(c:C (.int b.size<|a.toks+1) {a with toks:=a.toks+1+1}):b9 (cq prog j) q (call (.builtin "len") [.ref h]) C as a:=by refine call_function_entry kind_len plain_len entry_len (args_len1 _)<|bj (m:=oneArg "len" _)<|cN ?_;refine bj (m:=callSpecial? (.ref h)<|ho "__len__")<|or (name:=ho "__len__") (gV aP) Ip (k7 Ip (gV aP) Xu ?_<|Xv _);show b9 _ _ (do retInt (<-Oi<|.ref h).size) _ _ a;exact bj<|bj<|nU aP<|cN<|cN<|bj<|tr<|cN<|dj _ U<|ko<|cN<|bj<|uA<|oD (cy (.pD (.c .x)<|.n 0) [] U)<|oD (cy (.qH (.n 9223372036854775808)<|.c .x) [.b_ (.c .x)<|.n 9223372036854775808] U kM)<|bj<|tr<|cN<|dj _ U c
theorem XC(aO:0<=l)(c:l<2^63):Oj l=Z:=by unfold Oj;simp only[h_,decide_eq_true_eq];exact⟨f1 (.b3 (.g<|.n 9223372036854775808) .x) [.b3 (.n 0) .x] U aO,c⟩
theorem P1(aO:0<=l)(no:l<2^63)(c:C (W l) a):b9 (cq prog j) q (Ol<|.int l E) C as a:=by refine bj<|hX (T:="int") (wP a l E) int_index<|mM (h:=l) U<|oD (by refine V (XC aO no) ?_;decide) ?_;exact cN c
theorem xz(aP:a.heap.get? h=W (cQ b))(c:C b a):b9 (cq prog j) q (Oi<|.ref h) C as a:=bj<|nU aP<|cN<|cN c
theorem P2{l:Int}{t:Nat}(aO:0<=l)(ay:l<t):CP l t=W l.toNat:=by unfold CP;simp only[show¬l<0 by exact f1 (.pD .x<|.n 0) [.b3 (.n 0) .x] U aO,if_false,h_,decide_eq_true_eq,aO,ay,and_self,if_true]
theorem P3{h:aq}{b:Array UInt8}{l:Int}{E:Tok}{f:UInt8}{C:al->ag->Prop}(aP:a.heap.get? h=W (cQ b))(aO:0<=l)(no:l<2^63)(R:b[l.toNat]?=W f)(c:C (.int f.toNat a.toks) {a with toks:=a.toks+1}):b9 (cq prog j) q (getItem (.ref h)<|.int l E) C as a:=by
 refine k5<|bj<|GF (gV aP) bd ?_;refine bj<|or (name:=ho "__getitem__") (gV aP) u3 (k7 u3 (gV aP) PU ?_<|PV _ _);show b9 _ _ (Ol (.int l E)>>=_) _ _ a;refine bj<|P1 aO no<|bj<|xz aP<|iT (V (P2 aO (by exact Ik (.b_ .x<|.c .x) [.t .y .x,.b3 .x<|.c .y] U ((HM.mp R).1)<|ru _)) U) ?_
 dsimp only[Option.bind];refine iT (V R U) ?_;exact bj<|tr<|cN<|dj _ U<|cN c
end
section
open PySem PySem.F PySem.Calls
theorem P4{c:eH}{h:aq}{b:Array UInt8}{I:Array UInt8->Array UInt8}(aP:c.get? h=W (cQ b)):(c.update h<|OF I).get? h=W (cQ<|I b):=pd (OF I) aP U
theorem u4{h:aq}{b:Array UInt8}{I:Array UInt8->Array UInt8}{C:Unit->ag->Prop}(aP:a.heap.get? h=W (cQ b))(ab:(I b).size<=cI)(c:∀aa,aa.get? h=W (cQ<|I b)->iQ h a.heap aa->C () {a with heap:=aa}):b9 (cq prog j) q (HI (.ref h) I) C as a:=by refine nU aP<|bj<|wpAny_update aP<|wpAny_lookBehind (P4 aP) ?_<|c _ (P4 aP)<|Ab ..;show(if(I b).size>cI then W "bytearray:memory"else aQ)=aQ;exact(if_neg<|Nat.not_lt.mpr ab).symm▸U
theorem P5(aO:0<=l)(af:l<256)(c:C l.toNat.toUInt8 a):b9 (cq prog j) q (Builtin.Bytes.byteValue<|.int l E) C as a:=by exact mM (h:=l) U<|oD (by simp only[CM,decide_eq_true_eq];exact not_or.mpr ⟨f1 (.pD .x<|.n 0) [.b3 (.n 0) .x] U aO,f1 (.qH (.n 256) .x) [.b_ .x<|.n 256] U af⟩)<|cN c
theorem XD{h:aq}{b:Array UInt8}{l u:Int}{E xA:Tok}{C:Unit->ag->Prop}(aP:a.heap.get? h=W (cQ b))(aO:0<=l)(no:l<2^63)(ay:l<b.size)(u5:0<=u)(Ir:u<256)(ab:b.size<=cI)(c:∀aa,aa.get? h=W (cQ<|b.setIfInBounds l.toNat u.toNat.toUInt8)->iQ h a.heap aa->C () {a with heap:=aa}):b9 (cq prog j) q (setItem (.ref h) (.int l E)<|.int u xA) C as a:=by refine k5<|bj<|GF (gV aP) bd ?_;refine bj<|or (name:=ho "__setitem__") (gV aP) PW (k7 PW (gV aP) Xw ?_<|Xy _ _ _);refine bj<|P1 aO no<|bj<|P5 u5 Ir<|bj<|xz aP<|iT (V (P2 aO ay) U) ?_;exact bj<|u4 aP (by simpa using ab) λaa aK L=>cN<|dj _ U<|cN<|c aa aK L
end
section
open PySem PySem.F PySem.Calls
theorem DW{id:String}{f3:Args}(c:qf.contains id=a1):rw (.builtin id f3)=a1:=c
theorem d2.slot{aY:String}{name:Str}{id:String}{b:tq}{pj:al}{ca:List al}{b_:gb->ag->Prop}(c:Slot aY name id)(cK:a.TypeIs pj aY)(m:k6 table id=W b)(cJ:qf.contains id=a1)(az:Y prog j q.in1 (b ⟨pj::ca,[]⟩) (xx prog j q b_) a)(a7:jc id ⟨pj::ca,[]⟩):d2 prog j q (.call (.builtin id) ⟨pj::ca,[]⟩) b_ a:=by refine d2.lI U ?_;show Y prog j q.in1 (do uB id ⟨pj::ca,[]⟩;again<|.builtin id ⟨pj::ca,[]⟩) _ a;exact du<|c.check _ _ _ _ _ _ _ _ cK a7<|Y.pure ⟨ot c.plain _,d2.builtin (DW cJ) m<|V (Around.under_plainId c.plain ..) az⟩
theorem Y.Bj{aY:String}{name:Str}{id:String}{b:tq}{pj:al}{ca:List al}{C:al->ag->Prop}(c:Slot aY name id)(cK:a.TypeIs pj aY)(m:k6 table id=W b)(cJ:qf.contains id=a1)(a7:jc id ⟨pj::ca,[]⟩)(az:Y prog j q.in1 (b ⟨pj::ca,[]⟩) (xx prog j q λI v=>∃u,I=.ret u/\C u v) a):Y prog j q (er (.builtin id)<|pj::ca) C a:=Y.call<|d2.slot c cK m cJ az a7
theorem XE(aP:a.heap.get? h=W (cQ b))(c:C () a):Y prog j q (Om<|.ref h) C a:=by exact Y.bind<|Y.bind (aA:=z_<|.ref h)<|Y.exported<|Y.of<|bj<|nU aP<|cN<|cN<|λA r w ay ap=>c
end
section
open PySem PySem.F PySem.Calls
theorem Is(u6:TypeCalled aY newId XF)(It:CQ aY ⟨f3,[]⟩=pure ())(c:Y prog j q.in1 (er (.builtin newId)<|.type aY::f3) (λnp an=>an.TypeIs np aY/\Y prog j q.in1 (er (.builtin XF)<|np::f3) (λy am=>y=.none/\C np am) an) a):Y prog j q (er (.type aY) f3) C a:=by
 refine lh u6.mro λg amD XG=>Y.call<|d2.lI U<|Y.pure ⟨HR _ iS,d2.builtin (by show qf.contains "type.__call__"=a1;decide+kernel) HS ?_⟩;unfold WE
 dsimp only;refine Y.eq (by exact V (if_neg (by refine V u6.notType ?_;decide))<|V (if_neg (by refine V u6.canCreate ?_;decide))<|V It<|V XG U) ?_;refine eo<|eo<|gK (by simp)<|du<|q4 u6.made<|eo<|d6<|Y.mono c ?_;rintro np an bP;refine cY bP λcK bo=>du<|q5 cK u6.sub<|gK bd<|d6<|du<|hX cK u6.init.lookup<|Y.holding<|V (u6.init.bind ..)<|eo<|hi bo ?_;rintro y am cB;refine cY cB λdv a5=>?_;obtain rfl:=dv;exact Y.pure<|Y.pure ⟨_,U,a5⟩
end
section
open PySem PySem.F PySem.Calls
theorem P6:mroOf (.type "bytearray")=pure [.type "bytearray",.type "object"]:=by refine V (mroOf_type ..) ?_;cbv
theorem XH:k8 (.type "bytearray") "__new__"=pure (W<|.builtin "bytearray.__new__"):=by refine V (hJ ..)<|V hK ?_;cbv
theorem Iu:Slot "bytearray" "__init__" "bytearray.__init__":=.of (owner:="bytearray") (n:="__init__") (by refine V (hJ ..)<|V hK ?_;cbv) (by decide+kernel) (by decide+kernel) (by decide+kernel) (by first|exact .inl (by decide+kernel)|exact .inr (by decide+kernel)) (by refine V (kH ..) ?_;cbv)
theorem P7:k6 table "bytearray.__init__"=W WF:=o_ (by cbv)
theorem P8(h b:al):jc "bytearray.__init__" ⟨[h,b],[]⟩:=by unfold jc;refine V (sc (id:="bytearray.__init__") (n:=['_','_','t','i','n','i','_','_']) (o:=['y','a','r','r','a','e','t','y','b']) (by cbv) xy) ?_;cbv
theorem Iv:TypeCalled "bytearray" "bytearray.__new__" "bytearray.__init__":=⟨by decide+kernel,by decide+kernel,(j1 _ _ P6),madeBy_type P6 XH (by decide+kernel),by decide+kernel,by refine V (kH ..) ?_;cbv,Iu⟩
theorem Iw(h:al):CQ "bytearray" ⟨[h],[]⟩=pure ():=by cbv
theorem XI(h:al):uB "bytearray.__new__" ⟨[.type "bytearray",h],[]⟩=pure ():=by cbv
theorem XJ:k6 table "bytearray.__new__"=W WG:=GG (id':="list.__new__") (by cbv) (by first|rfl|decide+kernel) (by decide+kernel) (by cbv)
theorem XK:plainId "bytearray.__new__"=Z:=by decide+kernel
theorem XM:("bytearray.__new__".splitOn ".__new__").headD ""="bytearray":=by simp+decide[Oq,Ot]
theorem Ix:uC (.type "bytearray") (.type "bytearray")=pure Z:=by refine V (kH ..) ?_;cbv
theorem Iy(h:al)(c:C (.ref a.heap.objs.size) {a with heap:=a.heap.push<|cQ #[]}):Y prog j q (er (.builtin "bytearray.__new__") [.type "bytearray",h]) C a:=by
 refine Y.call<|d2.of<|zt ?_;show b9 _ q.in1 (do uB "bytearray.__new__" ⟨[.type "bytearray",h],[]⟩;again<|.builtin "bytearray.__new__" ⟨[.type "bytearray",h],[]⟩) _ _ a;refine mM (XI h)<|cN ⟨ot XK _,codeAny_builtin_stack XJ U λr st=>?_⟩;have lQ:=Ix;obtain⟨aZ,s,z,x,os⟩:=a;simp only[XM]
 wp_walk;exact⟨_,U,c⟩
end
section
open PySem PySem.F PySem.Calls
theorem P9(aP:a.heap.get? h=W (cQ b))(c:C a1 a):Y prog j q (z_ (fl h)<||>do
            let As<-Builtin.Bytes.exportsOf<|fl h
            pure<|decide<|As>0) C a:=by exact Y.bind (aA:=z_<|.ref h)<|Y.exported<|Y.of<|bj<|nU aP<|cN<|cN c
end
section
open PySem PySem.F PySem.Calls
theorem XN:k8 (.type "bytearray") "__release_buffer__"=pure (W<|.builtin "bytearray.__release_buffer__"):=by refine V (hJ ..)<|V hK ?_;cbv
theorem XO:k8 (.type "list") "__index__"=pure aQ:=by refine V (hJ ..)<|V hK ?_;cbv
theorem P_:k8 (.type "list") "__buffer__"=pure aQ:=by refine V (hJ ..)<|V hK ?_;cbv
theorem Iz(aP:a.heap.get? h=W (cQ b))(c:C a1 a):b9 (cq prog j) q (Builtin.Bytes.ownRelease<|.ref h) C as a:=by refine bj<|bj<|hX (gV aP) XN<|oD iS<|iT (V (show("bytearray.__release_buffer__".dropRight<|"__release_buffer__".length+1)="bytearray"by decide+kernel) U) ?_;exact q5 (gV aP) Ix<|cN c
set_option backward.match.sparseCases true in noncomputable def nX:al->Option UInt8|.int k _=>W k.toNat.toUInt8|_=>aQ
def u7(O:List al):Prop:=∀u∈O,∃k E,u=.int k E/\0<=k/\k<256
set_option backward.match.sparseCases true in theorem XP(c:u7 O):(O.takeWhile λ|.int k _=>decide (0<=k)&&decide (k<256)|_=>a1)=O:=by induction O with|nil=>rfl|cons u O a2=>refine ei (c u<|.head _) λk E bP aO af=>?_;obtain rfl:=bP;exact V (List.takeWhile_cons_of_pos (by simp[aO,af]))<|V (a2 λf R=>c f<|.tail _ R) U
set_option backward.match.sparseCases true in theorem P'(XQ:k8 (.type aY) "__index__"=pure aQ)(Qa:k8 (.type aY) "__buffer__"=pure aQ)(XR:aY="list"\/aY="tuple")(aP:a.heap.get? h=W (cQ b))(aI:∃o,a.heap.get? D=W o/\o.cls=.type aY/\∃t,o.data=.seq O.toArray t)(c9:D≠h)(m:u7 O)(ab:O.length<=cI)(c:∀aa,aa.get? h=W (cQ (O.filterMap nX).toArray)->iQ h a.heap aa->C .none {a with heap:=aa}):Y prog j q (er (.builtin "bytearray.__init__") [.ref h,.ref D]) C a:=by
 refine Y.Bj Iu (gV aP) P7 iS (P8 _ _)<|du<|Iz aP<|gK bd<|du<|q4 (a:=[W<|fl D,aQ,aQ]) U<|eo<|eo<|Y.bind<|P9 aP<|gK bd<|du<|u4 aP (eJ _) λbo Au fm=>gJ λw bI=>fx aI λo qg az cB=>c5 cB λt bl=>bI ?_;have qg:=fm.extBut D _ c9 qg;have cK:Shared.TypeIs {a with heap:=bo} (.ref D) aY:=⟨o,qg,az⟩;refine du<|nU qg<|iT (V bl U)<|cN<|gK bd<|eo<|du<|hX cK XQ<|gK bd<|du<|bj<|hX cK Qa<|bj<|hX cK Qa<|cN<|du<|wR cK ?_;refine tN (by rcases XR with i|i<;>subst i<;>decide)<|du ?_;refine nU qg<|iT (V bl U)<|cN ?_
 dsimp only;generalize aS:List.takeWhile _ O=DX;obtain rfl:DX=O:=aS.symm.trans<|XP m;refine Y.eq (V (show DX.toArray[DX.length]?=aQ by simp) U) ?_;have dW:(DX.filterMap nX).toArray.size<=sizeLine:=bb (NS _ _) ab;exact du<|l9<|du<|u4 Au dW λbE u8 hy=>Y.pure ⟨_,U,c bE u8 ⟨hy.1.trans fm.1,λb m=>(hy.2 b m).trans<|fm.2 b m⟩⟩
theorem XS(aP:a.heap.get? h=W (cQ b))(aI:a.heap.IsList D O.toArray)(c9:D≠h)(m:u7 O)(ab:O.length<=cI)(c:∀aa,aa.get? h=W (cQ (O.filterMap nX).toArray)->iQ h a.heap aa->C .none {a with heap:=aa}):Y prog j q (er (.builtin "bytearray.__init__") [.ref h,.ref D]) C a:=P' XO P_ (.inl U) aP aI c9 m ab c
end
section
open PySem PySem.F PySem.Calls
inductive lR(c aa:eH)(o:Obj):Prop|mk(fS:aa.get? c.objs.size=W o)(fT:∀b f,c.get? b=W f->aa.get? b=W f)(gy:aa.objs.size=c.objs.size+1):lR c aa o
theorem lR.push(bg:o.isFreed=a1):lR c (c.push o) o:=⟨fc _ bg,λw w i=>eD _ i,fZ ..⟩
theorem lR.same(aA:lR c bo o)(s:bE.get? c.objs.size=W db)(L:iQ c.objs.size bo bE):lR c bE db:=⟨s,λb f i=>(L.2 b<|gD<|dB i).trans<|aA.2 b f i,L.1.trans aA.3⟩
theorem Qb(aI:a.heap.IsList D O.toArray)(m:u7 O)(ab:O.length<=cI)(c:∀aa,lR a.heap aa (cQ (O.filterMap nX).toArray)->C (.ref a.heap.objs.size) {a with heap:=aa}):Y prog j q (er (.type "bytearray") [.ref D]) C a:=by refine Is Iv (Iw _)<|Iy _ ?_;have aA:lR a.heap (a.heap.push<|cQ #[]) (cQ #[]):=lR.push U;exact⟨gV (a:={a with heap:=a.heap.push<|cQ #[]}) aA.1,(br (id aI) λo qg w=>XS (a:={a with heap:=a.heap.push<|cQ #[]}) aA.1 (aI.push _) (gD<|dB qg) m ab λaa aK L=>⟨U,c aa<|aA.same aK L⟩)⟩
end
section
open PySem PySem.F PySem.Calls
theorem XT:k6 table "bytearray.extend.end"=W WH:=o_ (by cbv)
theorem Qc:plainId "bytearray.extend.loop"=Z:=by decide+kernel
theorem XU:plainId "bytearray.extend.end"=Z:=by decide+kernel
theorem Qd(aP:a.heap.get? h=W (cQ b))(ab:b.size+d7.size<=cI)(c:∀aa,aa.get? h=W (cQ<|b++d7)->iQ h a.heap aa->b_ (.ret .none) {a with heap:=aa}):Y prog j ej (do
   if !d7.isEmpty then Om<|.ref h
   HI (.ref h) (·++d7)
   ret .none) (xx prog j q b_) a:=by
 have bS:Y prog j ej (do
   HI (.ref h) (·++d7)
   ret .none) (xx prog j q b_) a:=by refine du<|u4 aP (by refine V Dr ?_;exact ab) λaa aK L=>?_;exact Y.pure<|c aa aK L
 cases bt:d7.isEmpty with
 |true=>trivial|false=>exact Y.bind<|XE aP bS
theorem XV(aP:a.heap.get? h=W (cQ b))(h0:a.heap.get? e8=W (cQ d7))(ab:b.size+d7.size<=cI)(c:∀aa,aa.get? h=W (cQ<|b++d7)->iQ h a.heap aa->b_ (.ret .none) {a with heap:=aa}):d2 prog j q (.builtin "bytearray.extend.end" ⟨[.ref h,a',.ref e8],[]⟩) b_ a:=by exact d2.builtin (DW (by decide+kernel)) XT<|du<|o'<|du<|xz h0<|Qd aP ab c
theorem XW(ae:Nat->Array UInt8->ag->Prop)(oH:∀t aG a,ae t aG a->Y prog j q.in1 (nO ic) (λy v=>match y with|none=>v.heap.get? h=W (cQ b)/\v.heap.get? e8=W (cQ aG)/\b.size+aG.size<=cI/\∀aa,aa.get? h=W (cQ<|b++aG)->iQ h v.heap aa->b_ (.ret .none) {v with heap:=aa}|some u=>∃k E,u=.int k E/\0<=k/\k<256/\aG.size<cI/\v.heap.get? e8=W (cQ aG)/\∀aa,aa.get? e8=W (cQ<|aG.push k.toNat.toUInt8)->iQ e8 v.heap aa->∃aA,aA<t/\ae aA (aG.push k.toNat.toUInt8) {v with heap:=aa}) a)(t:Nat)(aG:Array UInt8)(c:ae t aG a):d2 prog j q (.builtin "bytearray.extend.loop" ⟨[.ref h,a',ic,.ref e8],[]⟩) b_ a:=by refine d2.loop (DW (by decide+kernel)) (ot Qc _) (λt a=>∃aG,ae t aG a) ?_ t<|oE aG c;rintro t a bP;refine c5 bP λaG e5=>hi (oH t aG a e5) λy v av=>?_;cases y with|none=>exact lg av λaf ap bk cx=>Y.pure<|.inr ⟨ot XU _,XV af ap bk cx⟩|some u=>refine H9 av λk E cB aO af ab h0 XX=>?_;obtain rfl:=cB;refine Y.bind<|Y.tryCatch<|Y.holding<|Y.of<|P5 aO af<|du<|uA<|du<|u4 h0 (by refine V (Ds ..) ?_;exact ab) λaa aK L=>?_;exact br (XX aa aK L) λaA bt XY=>Y.pure<|.inl ⟨U,(dj aA bt<|oE _ XY)⟩
end
section
open PySem PySem.F PySem.Calls
theorem XZ(aI:a.heap.IsList D bA)(c:C () a):b9 (cq prog j) q (Builtin.Bytes.lengthHint "bytearray.extend"<|.ref D) C as a:=by
 refine bj<|hX aI.typeIs F.slot_list_len.lookup ?_
 dsimp only;refine iT (V (show splitId "list.__len__"=W ("list","__len__")by decide+kernel) U) ?_;exact bj<|q5 aI.typeIs sub_list_self<|oD bd<|Pp iS<|cN c
theorem X0{O:List al}{l:Nat}{k:Int}{E:Tok}(c:O[l]?=W (.int k E)):((O.take l).filterMap nX).toArray.push k.toNat.toUInt8=((O.take<|l+1).filterMap nX).toArray:=by refine V zX<|V c<|V List.filterMap_append ?_;simp[nX]
theorem X1(O:List al)(l:Nat):((O.take l).filterMap nX).toArray.size<=min l O.length:=bb (NS _ _)<|NT▸dA _
theorem X2{h ai e8:aq}{bF a0:List aq}{b:Array UInt8}{a':al}{O:List al}{St:Nat->eH->Prop}{b_:gb->ag->Prop}(cZ:Walks prog j q.in1 ai bF a0 O.length (λk u=>O[k]?=W u) St)(a7:a.heap.get? h=W (cQ b))(h0:a.heap.get? e8=W (cQ #[]))(f4:St 0 a.heap)(DY:h∉a0)(tP:e8∉bF)(X3:h≠e8)(m:u7 O)(ab:b.size+O.length<cI)(c:∀aa x,aa.get? h=W (cQ<|b++(O.filterMap nX).toArray)->(∀f o,f≠h->f≠e8->f∉a0->a.heap.get? f=W o->aa.get? f=W o)->b_ (.ret .none) {a with heap:=aa,toks:=x}):d2 prog j q (.builtin "bytearray.extend.loop" ⟨[.ref h,a',.ref ai,.ref e8],[]⟩) b_ a:=by
 have Qe:e8∉a0:=λe=>tP<|cZ.sub _ e;refine XW (b:=b) (λt aG v=>∃aa x l,v={a with heap:=aa,toks:=x}/\l<=O.length/\t=O.length-l/\aG=((O.take l).filterMap nX).toArray/\St l aa/\aa.get? e8=W (cQ aG)/\∀f o,f≠e8->f∉a0->a.heap.get? f=W o->aa.get? f=W o) ?_ O.length #[]<|Pt a.heap a.toks 0 U (eJ _) U U f4 h0 λw w w w i=>i;rintro t aG v e9;refine WV e9 λaa x l hp aS jG jH DZ u9 IA=>V hp ?_;obtain rfl:=jG;obtain rfl:=jH;have sr:=X1 O l;rcases pZ l O.length with Av|j6
 .refine Y.of<|cZ.item l _ _ _ Av DZ λu bo xB aM u_ rx=>ei (m u<|ox aM) λk E mh aO af=>?_;obtain rfl:=mh;refine(Pq k E U aO af (xw (.t .x .y) [.t (.a .z .w) .y,.l .x .u,.l .u .w] U ab sr<|DU _ _) (rx _ _ Qe u9) λbE u8 hy=>(dj (O.length-(l+1)) (oF (.t .x .y) [.l .z<|.a .y .w,.e (.a .x<|.o .w) .z] U (f2 _ _)<|eN<|c3 (.l (.o .x) .y) [.t .x .y] U Av)<|Pt bE xB (l+1) U Av U (X0 aM) ?_ u8 ?_))
  .exact cZ.frame _ _ _ u_ λf R o i=>hy.extBut f o (λe=>tP<|e▸R) i
  .exact λf o D0 Aw i=>hy.extBut f o D0<|rx f o Aw<|IA f o D0 Aw i
 .obtain rfl:l=O.length:=w6 aS j6;rw[xb]at u9 sr⊢;refine Y.of<|cZ.done _ _ _ DZ λbo xB rx=>⟨rx _ _ DY<|IA _ _ X3 DY a7,rx _ _ Qe u9,by exact xw (.l (.a .x .y) .z) [.t (.a .x .w) .z,.l .y .u,.l .u .w] U ab sr<|tM _ _,λbE u8 hy=>c bE xB u8 λf o X4 D0 Aw i=>hy.extBut f o X4<|rx f o Aw<|IA f o D0 Aw i⟩
theorem Qf(cJ:q.handled=aQ)(aP:a.heap.get? h=W (cQ b))(aI:a.heap.IsList D O.toArray)(m:u7 O)(ab:b.size+O.length<cI)(c:∀aa x,aa.get? h=W (cQ<|b++(O.filterMap nX).toArray)->(∀f o,f≠h->a.heap.get? f=W o->aa.get? f=W o)->C .none {a with heap:=aa,toks:=x}):Y prog j q (er (.builtin "bytearray.extend") [.ref h,.ref D]) C a:=by
 refine Y.Bj Iq (gV aP) PY iS (PZ _ _)<|du<|q4 (a:=(fl h,fl D)) U<|du<|hX aI.typeIs P_<|gK bd<|Y.bind<|Y.tryCatch<|Y.of<|CR aI<|d6<|Y.of<|XZ (aI.push _)<|du<|jd (Y.pure ⟨ot Qc _,?_⟩) (by show(#[]:Array UInt8).size<=cI;decide);generalize ji:a.heap.push {cls:=.type "list_iterator",data:=.fields #[.ref D,.int 0 0]}=c6;have h0:c6.objs.size=a.heap.objs.size+1:=ji▸fZ ..;refine br (id aI) λamE qg w=>?_;have cP:=dB qg;have xC:=dB aP;have IB:c6.IsListIter a.heap.objs.size D 0:=ji▸⟨_,fc _ U,U,U⟩;have X5:c6.IsList D O.toArray:=ji▸aI.push _;have cZ:=HW (prog:=prog) (w:=j) (A:=q.in1) cJ a.heap.objs.size D (gD cP) O.toArray;simp only[xc,NU]at cZ;have Qg:∀f o,a.heap.get? f=W o->(c6.push<|cQ #[]).get? f=W o:=λf o i=>eD _<|ji▸eD _ i;refine X2 (b:=b) (O:=O) cZ (Qg _ _ aP) (fc _ U) ⟨IB.at λo i=>eD _ i,X5.push _⟩ ?_ ?_ ?_ m ab λaa x aK aS=>(dj _ U<|c aa x aK λf o R i=>aS f o R ?_ ?_<|Qg f o i)
 .simpa using gD xC
 .refine V h0 ?_;simp only[fR,oy,or_false,not_or];exact⟨ND _,q'<|mE cP⟩
 .exact V h0<|gD<|mE xC
 .exact V h0<|gD<|mE<|dB i
 .simpa using gD<|dB i
end
section
open PySem PySem.F PySem.Calls
theorem xD:k8 (.type "bytes") "__buffer__"=pure (W<|.builtin "bytes.__buffer__"):=by refine V (hJ ..)<|V hK ?_;cbv
theorem X7:k8 (.type "bytes") "__release_buffer__"=pure aQ:=by refine V (hJ ..)<|V hK ?_;cbv
theorem X8:uC (.type "bytes") (.type "bytes")=pure Z:=by refine V (kH ..) ?_;cbv
theorem ry(a:ag)(b:Array UInt8)(E:Tok):a.TypeIs (.bytes b E) "bytes":=rfl
theorem Qh(c:C Z a):b9 (cq prog j) q (On (.bytes b E) "__buffer__") C as a:=by refine bj<|hX (ry a b E) xD<|oD iS<|iT (V (show("bytes.__buffer__".dropRight<|"__buffer__".length+1)="bytes"by decide+kernel) U) ?_;exact q5 (ry a b E) X8 c
theorem X9{id:String}{ID:Bool}{b:Array UInt8}{E:Tok}{C:Option (Array UInt8)->ag->Prop}(c:C (W b) a):b9 (cq prog j) q (Oo id (.bytes b E) ID) C as a:=by exact bj<|hX (ry a b E) xD<|bj<|Qh<|bj<|hX (ry a b E) xD<|bj<|bj<|bj<|hX (ry a b E) X7<|cN<|cN<|cN c
theorem X_{h:aq}{b d7:Array UInt8}{E:Tok}{C:al->ag->Prop}(aP:a.heap.get? h=W (cQ b))(ab:b.size+d7.size<=cI)(c:∀aa,aa.get? h=W (cQ<|b++d7)->iQ h a.heap aa->C .none {a with heap:=aa}):Y prog j q (er (.builtin "bytearray.extend") [.ref h,.bytes d7 E]) C a:=by refine Y.Bj Iq (gV aP) PY iS (PZ _ _)<|du<|q4 (a:=(fl h,Value.bytes d7 E)) U<|du<|hX (ry a d7 E) xD<|tN bd<|du<|l9<|du<|xz aP<|du<|bj<|ts<|bj<|hX (ry a d7 E) xD<|bj<|Qh<|oD bd<|bj<|hX (ry a d7 E) xD ?_;exact bj<|X9<|cN<|cN<|tN (by rfl)<|Qd aP ab λaa aK L=>(dj _ U<|c aa aK L)
end
section
open PySem PySem.F PySem.Calls
theorem IE:k8 (.type "bytearray") "__buffer__"=pure (W<|.builtin "bytearray.__buffer__"):=by refine V (hJ ..)<|V hK ?_;cbv
theorem X':k8 (.type "bytearray") "__index__"=pure aQ:=by refine V (hJ ..)<|V hK ?_;cbv
theorem Ya:k8 (.type "tuple") "__index__"=pure aQ:=by refine V (hJ ..)<|V hK ?_;cbv
theorem Yb:k8 (.type "tuple") "__buffer__"=pure aQ:=by refine V (hJ ..)<|V hK ?_;cbv
theorem Yc(aP:a.heap.get? h=W (cQ b))(c:C Z a):b9 (cq prog j) q (On (.ref h) "__buffer__") C as a:=by refine bj<|hX (gV aP) IE<|oD iS<|iT (V (show("bytearray.__buffer__".dropRight<|"__buffer__".length+1)="bytearray"by decide+kernel) U) ?_;exact q5 (gV aP) Ix c
theorem Yd{id:String}{ID:Bool}{h:aq}{b:Array UInt8}{C:Option (Array UInt8)->ag->Prop}(aP:a.heap.get? h=W (cQ b))(c:C (W b) a):b9 (cq prog j) q (Oo id (.ref h) ID) C as a:=by exact bj<|hX (gV aP) IE<|bj<|Yc aP<|bj<|hX (gV aP) IE<|bj<|Iz aP<|bj<|xz aP<|cN c
theorem Ye{h D:aq}{b g:Array UInt8}{C:al->ag->Prop}(aP:a.heap.get? h=W (cQ b))(aI:a.heap.get? D=W (cQ g))(c9:D≠h)(ab:g.size<=cI)(c:∀aa,aa.get? h=W (cQ g)->iQ h a.heap aa->C .none {a with heap:=aa}):Y prog j q (er (.builtin "bytearray.__init__") [.ref h,.ref D]) C a:=by refine Y.Bj Iu (gV aP) P7 iS (P8 _ _)<|du<|Iz aP<|gK bd<|du<|q4 (a:=[W<|fl D,aQ,aQ]) U<|eo<|eo<|Y.bind<|P9 aP<|gK bd<|du<|u4 aP (eJ _) λbo Au fm=>?_;have IF:bo.get? D=W (cQ g):=fm.extBut D _ c9 aI;exact du<|nU IF<|cN<|gK bd<|eo<|du<|hX (gV (a:={a with heap:=bo}) IF) X'<|gK bd<|du<|Yd (a:={a with heap:=bo}) IF<|du<|l9<|du<|u4 (a:={a with heap:=bo}) Au ab λbE u8 hy=>Y.pure ⟨_,U,c bE u8<|fm.trans hy⟩
theorem Yf{D:aq}{g:Array UInt8}{C:al->ag->Prop}(aI:a.heap.get? D=W (cQ g))(ab:g.size<=cI)(c:∀aa,lR a.heap aa (cQ g)->C (.ref a.heap.objs.size) {a with heap:=aa}):Y prog j q (er (.type "bytearray") [.ref D]) C a:=by refine Is Iv (Iw _)<|Iy _ ?_;have aA:lR a.heap (a.heap.push<|cQ #[]) (cQ #[]):=lR.push U;exact⟨gV (a:={a with heap:=a.heap.push<|cQ #[]}) aA.1,(Ye (a:={a with heap:=a.heap.push<|cQ #[]}) aA.1 (aA.2 _ _ aI) (gD<|dB aI) ab λaa aK L=>⟨U,c aa<|aA.same aK L⟩)⟩
end
inductive iW(a v:ag):Prop|mk(fS:a.heap.objs.size<=v.heap.objs.size)(fT:a.gens.size<=v.gens.size):iW a v
theorem iW.refl(a:ag):iW a a:=⟨dA _,dA _⟩
theorem iW.trans(f:iW h b)(B:iW b g):iW h g:=⟨bb f.1 B.1,bb f.2 B.2⟩
theorem Qi(a:ag)(h:aq)(I:Obj->Obj):iW a {a with heap:=a.heap.update h I}:=⟨by show _<=(a.heap.update h I).objs.size;refine V (tC ..) ?_;exact dA _,dA _⟩
theorem Qj(a:ag)(o:Obj):iW a {a with heap:=a.heap.push o}:=⟨by show _<=(a.heap.push o).objs.size;refine V (fZ ..) ?_;exact kl _,dA _⟩
theorem Qk(a:ag)(g:uD):iW a {a with gens:=a.gens.push g}:=⟨dA _,by show _<=(a.gens.push g).size;refine V (Ds ..) ?_;exact kl _⟩
theorem pk(a:ag)(s:Nat)(f:uD):iW a (a.setGen s f):=⟨dA _,by show _<=(a.setGen s f).gens.size;simp[Shared.setGen]⟩
theorem IG(c:Runs aT A r E mO a i v):iW a v:=by induction c with|done=>exact iW.refl _|raise=>exact iW.refl _|again _ _ a2=>exact a2|rule _ a2=>exact a2|«at»_ a2=>exact a2|load _ _ a2=>exact a2|update _ _ a2=>exact(Qi ..).trans a2|loadIfAlive _ a2=>exact a2|point _ a2=>exact a2|alloc _ a2=>exact(Qj ..).trans a2|fresh _ a2=>exact⟨a2.1,a2.2⟩|ask _ a2=>exact a2|choose _ _ a2=>exact⟨a2.1,a2.2⟩|os _ a2=>exact⟨a2.1,a2.2⟩|handled _ a2=>exact a2|genState _ _ a2=>exact a2|stack _ a2=>exact a2|thread _ a2=>exact a2|newGen _ a2=>exact(Qk ..).trans a2|call _ _ d' nY=>exact d'.trans nY|callSusp _ d'=>exact d'|yield=>exact iW.refl _|resumeFresh _ _ _ _ d' nY=>exact((pk ..).trans d').trans<|(pk ..).trans nY|resumeSuspended _ _ _ _ d' nY=>exact((pk ..).trans d').trans<|(pk ..).trans nY|resumeJustStarted _ _ _ a2=>exact a2|resumeThrowFresh _ _ a2=>exact(pk ..).trans a2|resumeRunning _ _ a2=>exact a2|resumeFinished _ _ a2=>exact a2|segRet _ _ d' nY=>exact d'.trans nY|segGen _ _ d' nY=>exact d'.trans<|(pk ..).trans nY|segSuspOut _ _ d'=>exact d'|segSuspGen _ _ _ _ d' nY=>exact d'.trans<|(pk ..).trans nY
theorem Yg(c:Wakes aT A r s y a mP v):iW a v:=by
 unfold Wakes at c;split at c
 .exact c.elim
 .split at c
  .exact DL c λqh an av w w bP=>V bP<|((pk ..).trans<|IG av).trans<|pk ..
  .exact V c.2<|iW.refl _
  .exact V c.2<|pk ..
 .exact DL c λqh an av w w cB=>V cB<|((pk ..).trans<|IG av).trans<|pk ..
 .exact V c.2<|iW.refl _
 .exact V c.2<|iW.refl _
theorem Yh(aT:Model)(A:Ctx)(bV:ag)(E:Sem bf):∀(C:bf->Pos->ag->Prop)(as:al->Pos->ag->Prop)(r:Pos)(a:ag),iW bV a->jZ aT A E C as r a->jZ aT A E (λh bn v=>iW bV v/\C h bn v) (λi bn v=>iW bV v/\as i bn v) r a:=by induction E with|pure h=>intro C as r a ay c;exact⟨ay,c⟩|raise i=>intro C as r a ay c;exact⟨ay,c⟩|unsupported _=>intro C as r a _ c;exact c|finish _=>intro C as r a _ c;exact c|rule _ l a2=>intro C as r a ay c;exact a2 () C as r a ay c|«at»bn l a2=>intro C as r a ay c;exact a2 () C as bn a ay c|load h _ l a2=>intro C as r a ay c;exact br c λo aP c=>⟨o,aP,a2 o C as r a ay c⟩|update h _ I l a2=>intro C as r a ay c;exact⟨c.1,a2 () C as r _ (ay.trans<|Qi ..) c.2⟩|loadIfAlive h l a2=>intro C as r a ay c;exact a2 _ C as r a ay c|point _ l a2=>intro C as r a ay c;exact a2 () C as r a ay c|register _ _=>intro C as r a _ c;exact c|alloc o l a2=>intro C as r a ay c;exact a2 _ C as r _ (ay.trans<|Qj ..) c|fresh l a2=>intro C as r a ay c;exact a2 _ C as r {a with toks:=a.toks+1} ⟨ay.1,ay.2⟩ c|ask l a2=>intro C as r a ay c;exact a2 _ C as r a ay c|choose kN aA l a2=>intro C as r a ay c;exact⟨c.1,a2 _ C as r {a with drawn:=a.drawn.bump kN} ⟨ay.1,ay.2⟩ c.2⟩|os e _ l a2=>intro C as r a ay c;exact a2 _ C as r {a with os:=(Os.step a.os e).1} ⟨ay.1,ay.2⟩ c|call g bl _ _ l a2=>intro C as r a ay c;exact gc c λy v av c=>⟨y,v,av,a2 y C as r v (ay.trans<|IG av) c⟩|handled IH l a2=>intro C as r a ay c;exact a2 _ C as r a ay c|genState s l a2=>intro C as r a ay c;exact br c λst L c=>⟨st,L,a2 _ C as r a ay c⟩|newGen g l a2=>intro C as r a ay c;exact a2 _ C as r _ (ay.trans<|Qk ..) c|resume s y _ l a2=>intro C as r a ay c;exact gc c λmP v bS c=>⟨mP,v,bS,a2 mP C as r v (ay.trans<|Yg bS) c⟩|yield _ _ _ _=>intro C as r a _ c;exact c|stack l a2=>intro C as r a ay c;exact a2 _ C as r a ay c|fork _ _=>intro C as r a _ c;exact c|thread l a2=>intro C as r a ay c;exact a2 _ C as r a ay c|await _ _ _ _ _=>intro C as r a _ c;exact c
theorem j7(c:Y prog j q E (λh v=>iW a v->C h v) a):Y prog j q E C a:=λA r cn af ap=>md _ A E (λh w v f=>f.2 f.1) (λw w w f=>f.2) r a<|Yh _ A a E _ _ r a (iW.refl a)<|c A r cn af ap
inductive a9(p:List aq)(ak:List Nat)(a v:ag):Prop|mk(fS:∀(b:aq)(o:Obj),b∉p->a.heap.get? b=W o->v.heap.get? b=W o)(fT:a.heap.objs.size<=v.heap.objs.size)(gy:∀(k:Nat)(f:uD),k∉ak->a.gens[k]?=W f->v.gens[k]?=W f)(jI:a.gens.size<=v.gens.size)(lm:Ae a.gens->Ae v.gens)(nZ:v.os=a.os):a9 p ak a v
abbrev bJ(p:List aq)(a v:ag):Prop:=a9 p [] a v
theorem bJ.refl(p:List aq)(ak:List Nat)(a:ag):a9 p ak a a:=⟨λw w w i=>i,dA _,λw w w i=>i,dA _,id,U⟩
theorem a9.trans(h:a9 p ak a an)(b:a9 p ak an am):a9 p ak a am:=⟨λf o R i=>b.1 f o R<|h.1 f o R i,bb h.2 b.2,λk f ac i=>b.3 k f ac<|h.3 k f ac i,bb h.4 b.4,λc=>b.5<|h.5 c,b.6.trans h.6⟩
theorem gz{c:eH}{h:aq}(a7:c.objs.size<=h):c.get? h=aQ:=by cases i:c.get? h with|none=>rfl|some o=>exact cd (dB i) a7
theorem ss{s:Array uD}{k:Nat}(ac:s.size<=k):s[k]?=aQ:=HN ac
theorem a9.drop(h:a9 p ak a v)(c:∀b∈p,b∈aU\/a.heap.get? b=aQ)(aK:∀k∈ak,k∈c6\/a.gens[k]?=aQ):a9 aU c6 a v:=⟨λf o R i=>h.1 f o (λe=>(c f e).elim R λG=>by replace i:=G▸i;exact dI i) i,h.2,λk f ac i=>h.3 k f (λe=>(aK k e).elim ac λG=>by replace i:=G▸i;exact dI i) i,h.4,h.5,h.6⟩
theorem a9.mono(h:a9 p ak a v)(c:∀b∈p,b∈aU)(aK:∀k∈ak,k∈c6):a9 aU c6 a v:=h.drop (λb m=>.inl<|c b m) λk ac=>.inl<|aK k ac
theorem a9.hj(h:a9 p ak a an)(b:a9 aU c6 an am)(c:∀B∈aU,B∈p\/a.heap.get? B=aQ)(aK:∀k∈c6,k∈ak\/a.gens[k]?=aQ):a9 p ak a am:=⟨λf o R i=>b.1 f o (λe=>(c f e).elim R λG=>by replace i:=G▸i;exact dI i)<|h.1 f o R i,bb h.2 b.2,λk f ac i=>b.3 k f (λe=>(aK k e).elim ac λG=>by replace i:=G▸i;exact dI i)<|h.3 k f ac i,bb h.4 b.4,λe=>b.5<|h.5 e,b.6.trans h.6⟩
theorem bJ.heap(l:∀(b:aq)(o:Obj),b∉p->a.heap.get? b=W o->aa.get? b=W o)(G:a.heap.objs.size<=aa.objs.size):bJ p a {a with heap:=aa,toks:=x}:=⟨l,G,λw w w i=>i,dA _,id,U⟩
theorem bJ.push(a:ag)(o:Obj)(x:Nat):bJ [] a {a with heap:=a.heap.push o,toks:=x}:=bJ.heap (λw w w i=>eD _ i) (by refine V (fZ ..) ?_;exact kl _)
theorem bJ.tok(p:List aq)(ak:List Nat)(a:ag)(x:Nat):a9 p ak a {a with toks:=x}:=⟨λw w w i=>i,dA _,λw w w i=>i,dA _,id,U⟩
theorem bJ.new(p:List aq)(ak:List Nat)(a:ag)(o:Obj)(x:Nat):a9 p ak a {a with heap:=a.heap.push o,toks:=x}:=(bJ.push a o x).mono aW aW
theorem bJ.same(L:iQ h a.heap aa):bJ [h] a {a with heap:=aa,toks:=x}:=bJ.heap (λb o m i=>(L.2 b (by simpa using m)).trans i)<|mF L.1.symm
inductive bh where|none|bool(b:Bool)|int(k:Int)|str(f:Str)|tup(aH:List bh)|lst(aH:List bh)|nE(b:Array UInt8)|raw(g:al)|bytes(b:Array UInt8)|qP(f B G:Int)|buf(b:Array UInt8)|gQ(os:List<|aq×Obj)(g:al)
mutual/--v al1 at c;al2 objects al3 off X -/def cf(c:eH)(p:List aq):bh->al->Prop|.none,g=>g=.none|.bool b,g=>g=.bool b|.int k,g=>∃E,g=.int k E|.str f,g=>∃E,g=.str f E|.tup aH,g=>∃h O t,g=.ref h/\h∉p/\c.get? h=W {cls:=.type "tuple",data:=.seq O t}/\bW c p aH O.toList|.lst aH,g=>∃h O t,g=.ref h/\h∉p/\c.get? h=W {cls:=.type "list",data:=.seq O t}/\bW c p aH O.toList|.nE b,g=>∃h,g=.ref h/\h∉p/\c.get? h=W (cQ b)|.raw u,g=>g=u|.bytes b,g=>∃E,g=.bytes b E|.qP f B G,g=>∃h z f5 f6 fU t,g=.ref h/\h∉p/\c.get? h=W {cls:=.ref 135,dict:=z,data:=.seq #[.int f f5,.int B f6,.int G fU] t}|.buf b,g=>∃h z i,g=.ref h/\h∉p/\c.get? h=W {cls:=.ref 1963,dict:=W i,data:=.plain,slots:=#[W<|.ref z]}/\z∉p/\c.get? z=W (cQ b)/\i∉p/\c.get? i=W {cls:=.type "dict",data:=.dict #[]}/\2011<=i|.gQ os u,g=>g=u/\∀r∈os,r.1∉p/\c.get? r.1=W r.2 def bW(c:eH)(p:List aq):List bh->List al->Prop|[],O=>O=[]|f::aH,O=>∃g aR,O=g::aR/\cf c p f g/\bW c p aH aR end
mutual theorem cf.to{c aa:eH}{p aU:List aq}(l:∀(b:aq)(o:Obj),b∉p->c.get? b=W o->aa.get? b=W o/\b∉aU):∀(u:bh)(g:al),cf c p u g->cf aa aU u g|.none,_,y=>y|.bool _,_,y=>y|.int _,_,y=>y|.str _,_,y=>y|.raw _,_,y=>y|.bytes _,_,y=>y|.gQ os u,_,y=>by exact And.intro y.1 λr aZ=>⟨(l r.1 _ (y.2 r aZ).1 (y.2 r aZ).2).2,(l r.1 _ (y.2 r aZ).1 (y.2 r aZ).2).1⟩|.qP ..,_,y=>by obtain⟨h,z,f5,f6,fU,t,i,a7,aK⟩:=y;exact p1 h ⟨z,f5,f6,fU,t,i,(l h _ a7 aK).2,(l h _ a7 aK).1⟩|.buf _,_,y=>by obtain⟨h,z,f,i,a7,aK,bl,iX,bp,j6,gm⟩:=y;exact p1 h ⟨z,f,i,(l h _ a7 aK).2,(l h _ a7 aK).1,(l z _ bl iX).2,(l z _ bl iX).1,(l f _ bp j6).2,(l f _ bp j6).1,gm⟩|.tup aH,_,y=>by obtain⟨h,O,t,i,a7,aK,av⟩:=y;exact p1 h ⟨O,t,i,(l h _ a7 aK).2,(l h _ a7 aK).1,bW.to l aH O.toList av⟩|.lst aH,_,y=>by obtain⟨h,O,t,i,a7,aK,av⟩:=y;exact p1 h ⟨O,t,i,(l h _ a7 aK).2,(l h _ a7 aK).1,bW.to l aH O.toList av⟩|.nE b,_,y=>by obtain⟨h,i,a7,aK⟩:=y;exact p1 h ⟨i,(l h _ a7 aK).2,(l h _ a7 aK).1⟩theorem bW.to{c aa:eH}{p aU:List aq}(l:∀(b:aq)(o:Obj),b∉p->c.get? b=W o->aa.get? b=W o/\b∉aU):∀(aH:List bh)(O:List al),bW c p aH O->bW aa aU aH O|[],_,y=>y|f::aH,_,y=>by obtain⟨g,aR,i,et,fn⟩:=y;exact p1 g ⟨aR,i,cf.to l f g et,bW.to l aH aR fn⟩end
def IsL(p:List aq)(aH:List bh)(a:ag)(g:al):Prop:=∃h O t,g=.ref h/\a.heap.get? h=W {cls:=.type "list",data:=.seq O t}/\bW a.heap p aH O.toList
theorem cf.kg(y:cf a.heap p (.lst aH) g):IsL p aH a g:=by exact ni y λh O t i w aK av=>⟨h,O,t,i,aK,av⟩
theorem cf.sub(y:cf c p u g)(L:∀B∈aU,B∈p):cf c aU u g:=cf.to (λb o m i=>⟨i,λe=>m<|L b e⟩) u g y
def su(aU:List aq)(ak:List Nat)(H:ag->Prop):Prop:=∀a v,H a->a9 aU ak a v->H v
def mQ(aU:List aq)(ak:List Nat)(ar:ag->al->Prop):Prop:=∀a v g,ar a g->a9 aU ak a v->ar v g
inductive gL(aU:List aq)(ak:List Nat)(p:List aq)(H:ag->Prop):Prop|mk(fS:su aU ak H)(fT:∀a,H a->∀f∈p,f<a.heap.objs.size)(gy:∀B∈aU,B∈p):gL aU ak p H
def cm(prog:cl)(j:b7)(q:bY)(aU:List aq)(ak:List Nat)(n:Env)(H:ag->Prop)(i:bB)(ar:ag->al->Prop):Prop:=∀a(C:al->ag->Prop),H a->(∀g v,a9 aU ak a v->ar v g->C g v)->Y prog j q (dD i n) C a
def gW(prog:cl)(j:b7)(q:bY)(aU:List aq)(ak:List Nat)(E:Sem al)(ar:ag->al->Prop)(a:ag):Prop:=∀C:al->ag->Prop,(∀g v,a9 aU ak a v->ar v g->C g v)->Y prog j q E C a
theorem gW.tok(c:∀C:al->ag->Prop,C u {a with toks:=a.toks+1}->b9 (cq prog j) q E C (λw w=>False) a)(aM:ar {a with toks:=a.toks+1} u):gW prog j q aU ak E ar a:=λw ah=>Y.of<|c _<|ah _ _ (bJ.tok ..) aM
theorem gW.now(c:∀C:al->ag->Prop,C u a->b9 (cq prog j) q E C (λw w=>False) a)(aM:ar a u):gW prog j q aU ak E ar a:=λw ah=>Y.of<|c _<|ah _ _ (bJ.refl ..) aM
abbrev dZ(k:Int):ag->al->Prop:=λw g=>∃E,g=.int k E
abbrev II(b:Bool):ag->al->Prop:=λw g=>g=.bool b
abbrev Yi:ag->al->Prop:=λw g=>g=.none
abbrev mi(p:List aq)(u:bh):ag->al->Prop:=λa g=>cf a.heap p u g
theorem ie(k:Int):mQ aU ak (dZ k):=λw w w c w=>c
theorem gL.is(bM:gL aU ak p H)(u:bh):mQ aU ak (mi p u):=λw w w c s=>cf.to (λb o m i=>⟨s.1 b o (λe=>m<|bM.3 b e) i,m⟩) _ _ c
theorem IJ(c:C () a):Y prog j q (release O qi) C a:=by unfold release;generalize O.filter _=D;induction D with|nil=>exact Y.pure c|cons f D a2=>cases D with|nil=>exact Y.pure c|cons B D=>exact du<|k5<|o' a2
theorem IK(c:Y prog j q aA C a):Y prog j q (operate O aA) C a:=d6<|Y.mono c λw w a5=>Y.bind<|IJ<|Y.pure a5
theorem IL:cm prog j q aU ak n H (.Constant (.int k) l aj) (dZ k):=λa C w ah=>Y.of<|tr<|ah _ _ (bJ.tok ..) ⟨_,U⟩
theorem Ql:cm prog j q aU ak n H (.Constant .none l aj) Yi:=λa C w ah=>Y.pure<|ah _ _ (bJ.refl ..) U
theorem qj(bM:gL aU ak p H)(bo:cm prog j q aU ak n H D j8)(aM:mQ aU ak j8)(bE:cm prog j q aU ak n H y n0)(qk:∀a fM g5,H a->j8 a fM->n0 a g5->gW prog j q aU ak (tt nq fM g5) ar a):cm prog j q aU ak n H (.BinOp D nq y aj) ar:=λa C L ah=>by exact Y.bind<|bo a _ L λfM an aL cR=>d6<|bE an _ (bM.1 _ _ L aL) λg5 am a_ eZ=>dV<|IK<|qk am fM g5 (bM.1 _ _ L<|aL.trans a_) (aM _ _ _ cR a_) eZ _ λg cg ce jj=>ah g cg ((aL.trans a_).trans ce) jj
section
theorem Yj(bM:gL aU ak p H)(bo:cm prog j q aU ak n H D<|dZ h)(bE:cm prog j q aU ak n H y<|dZ b):cm prog j q aU ak n H (.BinOp D .Add y aj) (dZ<|h+b):=qj bM bo (ie h) bE (by rintro a _ _-⟨E,rfl⟩⟨aN,rfl⟩;exact gW.tok (λC c=>OW c) ⟨_,U⟩)
theorem Yk(bM:gL aU ak p H)(bo:cm prog j q aU ak n H D<|dZ h)(bE:cm prog j q aU ak n H y<|dZ b):cm prog j q aU ak n H (.BinOp D .Sub y aj) (dZ<|h-b):=qj bM bo (ie h) bE (by rintro a _ _-⟨E,rfl⟩⟨aN,rfl⟩;exact gW.tok (λC c=>OX c) ⟨_,U⟩)
theorem Yl(bM:gL aU ak p H)(bo:cm prog j q aU ak n H D<|dZ h)(bE:cm prog j q aU ak n H y<|dZ b)(bt:CS h b):cm prog j q aU ak n H (.BinOp D .Mult y aj) (dZ<|h*b):=qj bM bo (ie h) bE (by rintro a _ _-⟨E,rfl⟩⟨aN,rfl⟩;exact gW.tok (λC c=>PySem.P.mul_int c bt) ⟨_,U⟩)
theorem Ym(bM:gL aU ak p H)(bo:cm prog j q aU ak n H D<|dZ h)(bE:cm prog j q aU ak n H y<|dZ b)(m:b≠0)(aZ:xj h b=a1):cm prog j q aU ak n H (.BinOp D .FloorDiv y aj) (dZ<|h.fdiv b):=qj bM bo (ie h) bE (by rintro a _ _-⟨E,rfl⟩⟨aN,rfl⟩;exact gW.tok (λC c=>floordiv_int m c<|.inl aZ) ⟨_,U⟩)
theorem Yn(bM:gL aU ak p H)(bo:cm prog j q aU ak n H D<|dZ h)(bE:cm prog j q aU ak n H y<|dZ b)(m:b≠0):cm prog j q aU ak n H (.BinOp D .Mod y aj) (dZ<|h.fmod b):=qj bM bo (ie h) bE (by rintro a _ _-⟨E,rfl⟩⟨aN,rfl⟩;exact gW.tok (λC c=>mod_int' m c) ⟨_,U⟩)
theorem Yo(bM:gL aU ak p H)(bo:cm prog j q aU ak n H D<|dZ h)(bE:cm prog j q aU ak n H y<|dZ b):cm prog j q aU ak n H (.BinOp D .BitXor y aj) (dZ<|kn h b):=qj bM bo (ie h) bE (by rintro a _ _-⟨E,rfl⟩⟨aN,rfl⟩;exact gW.tok (λC c=>xor_int c) ⟨_,U⟩)
theorem Yp(bM:gL aU ak p H)(bo:cm prog j q aU ak n H D<|dZ h)(bE:cm prog j q aU ak n H y<|dZ b):cm prog j q aU ak n H (.BinOp D .BitAnd y aj) (dZ<|tB h b):=qj bM bo (ie h) bE (by rintro a _ _-⟨E,rfl⟩⟨aN,rfl⟩;exact gW.tok (λC c=>and_int c)<|oE _ U)
end
theorem Yq(c:cm prog j q aU ak n H f<|dZ h):cm prog j q aU ak n H (.UnaryOp .USub f aj) (dZ<|-h):=λa C L ah=>by refine Y.bind<|c a _ L λg an aL cR=>?_;obtain⟨E,rfl⟩:=cR;exact dV<|Y.holding<|Y.of<|PySem.P.neg_int<|ah _ _ (aL.trans<|bJ.tok ..) ⟨_,U⟩
theorem Yr(bM:gL aU ak p H)(bo:cm prog j q aU ak n H D j8)(aM:mQ aU ak j8)(bE:cm prog j q aU ak n H y n0)(bt:wS [nq] [y] (uE [y] n)=[dD y n])(qk:∀a fM g5,H a->j8 a fM->n0 a g5->gW prog j q aU ak (wT nq fM g5) ar a):cm prog j q aU ak n H (.Compare D [nq] [y] aj) ar:=λa C L ah=>by exact V (arm_eval_Compare ..)<|V bt<|Y.bind<|bo a _ L λfM an aL cR=>d6<|bE an _ (bM.1 _ _ L aL) λg5 am a_ eZ=>dV<|IK<|qk am fM g5 (bM.1 _ _ L<|aL.trans a_) (aM _ _ _ cR a_) eZ _ λg cg ce jj=>ah g cg ((aL.trans a_).trans ce) jj
inductive pl(n:Env)(c:eH)(cV:Str->Option al):Prop|mk(fS:n.scope.kind=.function)(fT:∃aA,c.Ns n.locals aA/\∀f,n.kindOf f=W .local->aA f=cV f)(gy:∀f,n.kindOf f=W .cell\/n.kindOf f=W .free->∃h,n.cells.lookup f=W h/\c.IsCell h (cV f)):pl n c cV
noncomputable def b4(n:Env):List Addr:=n.locals::n.cells.map (·.2)
theorem sv(c:n.cells.lookup f=W h):h∈b4 n:=by refine mt ?_;generalize n.cells=D at c;induction D with|nil=>exact dI c|cons r D a2=>
  obtain⟨B,b⟩:=r;rw[sf]at c;split at c
  .cases c;exact bz
  .exact mt<|a2 c
theorem pl.keeps(u:pl n c cV)(l:∀b∈b4 n,∀o,c.get? b=W o->aa.get? b=W o):pl n aa cV:=⟨u.1,br u.2 λaA ay bt=>⟨aA,ay.at' λo i=>l _ bz o i,bt⟩,λf R=>let⟨h,a7,az⟩:=u.3 f R;⟨h,a7,let⟨o,i,z⟩:=az;⟨o,l _ (sv a7) o i,z⟩⟩⟩
def Qm(n:Env)(f:Str):Prop:=n.kindOf f=W .local\/n.kindOf f=W .cell\/n.kindOf f=W .free
theorem D1(ar:pl n a.heap cV)(R:Qm n f)(aM:cV f=W u)(az:(f==("__classdict__":Str))=a1)(c:C u a):Y prog j q (loadName n f) C a:=by
 rcases R with R|R|R
 .exact br ar.2 λaA ay bt=>Y.of<|GH ar.1 R ay ((bt f R).trans aM) c
 .exact br (ar.3 f<|.inl R) λh a7 ln=>Y.of<|wpAny_loadName_cell ar.1 R a7 (aM▸ln) c
 .exact br (ar.3 f<|.inr R) λh a7 ln=>Y.of<|Nh ar.1 R a7 (aM▸ln) c az
inductive xE:List (Str×bh)->Str->bh->Prop|here{gn:List<|Str×bh}{f:Str}{u:bh}:xE ((f,u)::gn) f u|there{gn:List<|Str×bh}{f B:Str}{u aN:bh}:(B==f)=a1->xE gn f u->xE ((B,aN)::gn) f u
inductive oI(n:Env)(p:List aq)(gn:List<|Str×bh)(bc:ag->Prop)(a:ag):Prop|mk(fS:∀f∈p,f<a.heap.objs.size)(fT:∃cV,pl n a.heap cV/\∀f u,xE gn f u->∃g,cV f=W g/\cf a.heap p u g)(gy:bc a):oI n p gn bc a
theorem Ys:mi p (.int k) a g↔dZ k a g:=Iff.rfl
theorem cm.to(c:cm prog j q aU ak n H i ar)(l:∀a g,ar a g->Ax a g):cm prog j q aU ak n H i Ax:=λa C r ah=>c a C r λg v s aM=>ah g v s<|l v g aM
def u'(prog:cl)(j:b7)(q:bY)(aU:List aq)(ak:List Nat)(n:Env)(H:ag->Prop)(i:bB)(b:Bool):Prop:=∀a(C:Bool->ag->Prop),H a->(∀v,a9 aU ak a v->C b v)->Y prog j q (isTrue i n<|dD i n) C a
theorem xF(bM:gL aU ak p H)(bo:cm prog j q aU ak n H D j8)(aM:mQ aU ak j8)(bE:cm prog j q aU ak n H y n0)(qk:∀a fM g5,H a->j8 a fM->n0 a g5->gW prog j q aU ak (wT nq fM g5) (II b) a)(bt:wS [nq] [y] (uE [y] n)=[dD y n]:=by rfl):u' prog j q aU ak n H (.Compare D [nq] [y] aj) b:=λa C L ah=>by rw[arm_isTrue_Compare,bt];refine Y.bind<|bo a _ L λfM an aL cR=>d6<|bE an _ (bM.1 _ _ L aL) λg5 am a_ eZ=>dV<|Y.bind<|IK<|qk am fM g5 (bM.1 _ _ L<|aL.trans a_) (aM _ _ _ cR a_) eZ _ λg cg ce jj=>?_;subst jj;exact Y.holding<|Y.pure<|ah cg<|(aL.trans a_).trans ce
section
theorem Yt(bM:gL aU ak p H)(bo:cm prog j q aU ak n H D<|dZ h)(bE:cm prog j q aU ak n H y<|dZ b)(bt:wS [.NotEq] [y] (uE [y] n)=[dD y n]:=by rfl):u' prog j q aU ak n H (.Compare D [.NotEq] [y] aj) (h !=b):=xF bM bo (ie h) bE (by rintro a _ _-⟨E,rfl⟩⟨aN,rfl⟩;exact gW.now (λC c=>PySem.P.ne_int c) U) bt
theorem Yu(bM:gL aU ak p H)(bo:cm prog j q aU ak n H D<|dZ h)(bE:cm prog j q aU ak n H y<|dZ b)(bt:wS [.Lt] [y] (uE [y] n)=[dD y n]:=by rfl):u' prog j q aU ak n H (.Compare D [.Lt] [y] aj) (decide<|h<b):=xF bM bo (ie h) bE (by rintro a _ _-⟨E,rfl⟩⟨aN,rfl⟩;exact gW.now (λC c=>PySem.P.lt_int c) U) bt
end
theorem Yv(bM:gL aU ak p H)(bC:u' prog j q aU ak n H E b)(bo:b=Z->cm prog j q aU ak n H f ar)(bE:b=a1->cm prog j q aU ak n H B ar):cm prog j q aU ak n H (.IfExp E f B aj) ar:=λa C L ah=>by refine Y.bind<|bC a _ L λan aL=>?_;cases b with|true=>refine V (if_pos U) ?_;exact bo U an _ (bM.1 _ _ L aL) λg am a_ l=>ah g am (aL.trans a_) l|false=>refine V (if_neg bd) ?_;exact bE U an _ (bM.1 _ _ L aL) λg am a_ l=>ah g am (aL.trans a_) l
def mR(prog:cl)(j:b7)(q:bY)(aU:List aq)(ak:List Nat)(n:Env)(H:ag->Prop)(aB:List bB)(ar:ag->List al->Prop):Prop:=∀a(C:List al->ag->Prop)(aj:Pos),H a->(∀aR v,a9 aU ak a v->ar v aR->C aR v)->Y prog j q (ou<|jX aj<|je aB n) C a
noncomputable def d0:bB->Bool|.Starred ..=>a1|_=>Z
theorem kr(c:d0 i=Z):je (i::aB) n=(a1,dD i n)::je aB n:=by cases i<;>first|rfl|exact Bool.noConfusion c
theorem iY:mR prog j q aU ak n H [] (λw aR=>aR=[]):=λa C aj L ah=>Y.pure<|ah _ _ (bJ.refl ..) U
theorem hN(ay:d0 i=Z)(bM:gL aU ak p H)(c:cm prog j q aU ak n H i ar)(aM:mQ aU ak ar)(L:mR prog j q aU ak n H aB IM):mR prog j q aU ak n H (i::aB) (λa aR=>∃g y,aR=g::y/\ar a g/\IM a y):=λa C aj aZ ah=>by exact(kr ay).symm▸Y.bind (c a _ aZ λg an aL cR=>eo<|d6<|L an _ aj (bM.1 _ _ aZ aL) λaR am a_ eZ=>Y.pure<|ah _ am (aL.trans a_)<|jg g aR U (aM _ _ _ cR a_) eZ)
theorem va:∀{aB:List bB},aB.all d0=Z->(jX aj<|je aB n).any (·.1)=a1|[],bL=>by refine V (arm_starEach_nil ..) ?_;rfl|i::aB,c=>by rw[nQ,h_]at c;refine kr c.1▸?_;show(a1||(jX aj<|je aB n).any (·.1))=a1;refine V (va c.2) ?_;rfl
theorem xG(ay:aB.all d0=Z)(c:mR prog j q aU ak n H aB ar)(L:H a)(ah:∀aR v,a9 aU ak a v->ar v aR->C ⟨aR,[]⟩ v):Y prog j q (evalArgs I Z (jX aj<|je aB n) []) C a:=by have cF:Y prog j q (ou<|jX aj<|je aB n) (λO v=>C ⟨O,[]⟩ v) a:=c a _ aj L ah;cases aB with|nil=>exact hi cF λO v aa=>eo<|Y.holding<|eo<|eo<|Y.pure aa|cons i aB=>rw[nQ,h_]at ay;rw[kr ay.1]at cF⊢;exact hi cF λO v aa=>eo<|Y.holding<|eo<|eo<|Y.pure aa
noncomputable def Ay:al->Bool|.builtin bL=>Z|.type bL=>Z|_=>a1
theorem xH(bg:Ay I=Z)(ay:aB.all d0=Z)(c:mR prog j q aU ak n H aB ar)(L:H a)(az:∀aR v,a9 aU ak a v->ar v aR->Y prog j q (er I (jJ++aR) []) C v):Y prog j q (pT aj I jJ (jX Az<|je aB n) []) C a:=by
 refine d6<|xG ay c L λaR an aL cR=>dV<|V (va ay ..)<|V (xd ..)<|V (sb ..) ?_;have aS:sd I=dz .machine:=by cases I<;>first|rfl|exact iV bg
 exact V aS<|eo<|hi (az aR an aL cR) λy am av=>du<|k5<|o'<|Y.pure av
def n1(H:ag->Prop)(n:Env)(f:Str)(u:al):Prop:=(n.scope.kind=.function/\n.kindOf f=W .globalImplicit)/\∀a,H a->∃hk,a.heap.Ns n.globals hk/\(hk f=W u\/(hk f=aQ/\∃hz,a.heap.Ns n.builtins hz/\hz f=W u))
theorem rz(c:n1 H n f u)(bl:(f==("__debug__":Str))=a1:=by decide):cm prog j q aU ak n H (.Name f aj) (λw g=>g=u):=λa C L ah=>by
 refine cY c λbP c=>cY bP λaS R=>br (c a L) λhk aK cB=>?_;obtain aM|⟨aM,hz,m,ql⟩:=cB
 .exact Y.of<|DC aS R (OY aK aM<|ah _ _ (bJ.refl ..) U) bl
 .exact Y.of<|DC aS R (O0 aK aM m ql<|ah _ _ (bJ.refl ..) U) bl
theorem kO(bM:gL aU ak p H)(aK:n1 H n f I)(bg:Ay I=Z)(c:mR prog j q aU ak n H aB ar)(az:∀a aR,H a->ar a aR->gW prog j q aU ak (er I aR []) cZ a)(ay:aB.all d0=Z:=by rfl)(bl:(f==("__debug__":Str))=a1:=by decide):cm prog j q aU ak n H (.Call (.Name f IN) aB [] aj) cZ:=λa C L ah=>by .exact Y.bind<|rz (aU:=aU) (ak:=ak) aK bl a _ L λg an aL cR=>V cR<|xH (jJ:=[]) bg ay c (bM.1 _ _ L aL) λaR am a_ eZ=>az am aR (bM.1 _ _ L<|aL.trans a_) eZ _ λy cg ce jj=>ah y cg ((aL.trans a_).trans ce) jj
theorem Yw(c:IsL p aH a g)(ab:aH.length<2^62):gW prog j q aU ak (er (.builtin "len") [g] []) (dZ aH.length) a:=by
 refine jD c λh O t dv aK av=>?_;obtain rfl:=dv;have aI:a.heap.IsList h O:=⟨_,aK,U,t,U⟩;have cL:∀(b5:List bh)(fz:List al),bW a.heap p b5 fz->fz.length=b5.length:=by intro b5;induction b5 with
  |nil=>intro fz c;subst c;rfl|cons B b5 a2=>intro fz c;refine ei c λg aR ek e_ ap=>?_;obtain rfl:=ek;obtain-:=e_;simp[a2 aR ap]
 have i:O.size=aH.length:=by have:=cL aH O.toList av;simpa using this
 intro C ah;exact Y.of<|Calls.call_len_list aI (c3 (.b_ (.c .x)<|.n 9223372036854775808) [.t .y<|.n 4611686018427387904,.e .x .y] U ab i)<|i.symm▸ah _ _ (bJ.tok ..) ⟨_,U⟩
theorem Yx(bM:gL aU ak p H)(aK:n1 H n "len"<|.builtin "len")(L:d0 i=Z)(c:cm prog j q aU ak n H i ar)(aM:mQ aU ak ar)(sw:∀a g,H a->ar a g->IsL p aH a g)(ab:aH.length<2^62):cm prog j q aU ak n H (.Call (.Name "len" IN) [i] [] aj) (dZ aH.length):=kO bM aK U (hN L bM c aM iY) (by rintro a aR aZ gX;refine ei gX λg y gF az hq=>?_;obtain rfl:=gF;obtain rfl:=hq;exact Yw (sw a g aZ az) ab) (by simp[L])
section
variable{p:List aq}{a:ag}
theorem bW.length:∀{aH:List bh}{O:List al},bW c p aH O->O.length=aH.length|[],bL,y=>by refine V y ?_;rfl|bL::dQ,lp,y=>by obtain⟨g,aR,rfl,_,y⟩:=y;exact V iy<|V iy<|V (bW.length y) U
theorem bW.append(fV:bW c p b5 fz):∀{aH:List bh}{O:List al},bW c p aH O->bW c p (aH++b5) (O++fz)|[],bL,y=>by refine V y ?_;exact fV|bL::dQ,lp,y=>by exact ei y λg aR bP et fn=>V bP<|V Hu<|(jg g (aR++fz) U et<|bW.append fV fn)
theorem bW.get:∀{aH:List bh}{O:List al}{k:Nat}{f:bh},bW c p aH O->aH[k]?=W f->∃g,O[k]?=W g/\cf c p f g|[],bL,dQ,lp,xI,i=>dI i|B::aH,bL,0,f,y,i=>by refine ei y λg aR iZ et fn=>V iZ ?_;cases i;exact(dj g U et)|B::aH,bL,k+1,f,y,i=>by exact ei y λg aR kt et fn=>V kt<|bW.get (k:=k) fn (by simpa using i)
theorem bW.drop:∀{aH:List bh}{O:List al}(t:Nat),bW c p aH O->bW c p (aH.drop t) (O.drop t)|bL,dQ,0,y=>y|[],bL,dQ+1,y=>by refine V y ?_;exact zY ..|bL::dQ,lp,t+1,y=>by refine ei y λg aR gX et fn=>?_;refine V gX ?_;exact bW.drop t fn
theorem bW.take:∀{aH:List bh}{O:List al}(t:Nat),bW c p aH O->bW c p (aH.take t) (O.take t)|bL,dQ,0,y=>U|[],bL,dQ+1,y=>by refine V (show _=[]from y) ?_;exact zY ..|bL::dQ,lp,t+1,y=>by exact ei y λg aR gF et fn=>V gF<|V Hv<|V Hv<|(jg g (aR.take t) U et<|bW.take t fn)
theorem bW.ints:∀{aw:List Int}{O:List al},bW c p (aw.map bh.int) O↔uU O aw
 |[],O=>by exact⟨λc=>c▸.nil,λc=>by cases c;rfl⟩|t::aw,O=>by
  constructor
  .rintro dv;refine ei dv λg aR ek e_ y=>V ek ?_;obtain⟨E,rfl⟩:=e_;exact .cons _ _<|bW.ints.mp y
  .intro c;cases c with|cons _ E c=>exact(jg _ _ U (oE E U)<|bW.ints.mpr c)
theorem Qn{aH:List bh}{O:Array al}{x:Nat}(co:∀f∈p,f<a.heap.objs.size)(av:bW a.heap p aH O.toList):mi p (.lst aH) {a with heap:=a.heap.push {cls:=.type "list",data:=.seq O},toks:=x} (.ref a.heap.objs.size):=by refine(p_ _ O 0 U (λe=>absurd (co _ e)<|h' _) (fc _ U)<|bW.to (λb o m i=>⟨eD _ i,m⟩) _ _ av)
theorem Qo{aH:List bh}{O:Array al}{x:Nat}(co:∀f∈p,f<a.heap.objs.size)(av:bW a.heap p aH O.toList):mi p (.tup aH) {a with heap:=a.heap.push {cls:=.type "tuple",data:=.seq O},toks:=x} (.ref a.heap.objs.size):=by refine(p_ _ O 0 U (λe=>absurd (co _ e)<|h' _) (fc _ U)<|bW.to (λb o m i=>⟨eD _ i,m⟩) _ _ av)
theorem Yy(bM:gL aU ak p H)(c:mR prog j q aU ak n H aB<|λa aR=>bW a.heap p aH aR)(ab:aH.length<=cI):cm prog j q aU ak n H (.Tuple aB l aj) (mi p<|.tup aH):=λa C L ah=>by refine dV<|Y.bind<|c a _ aj L λaR an aL cR=>Y.of<|jd ?_ (by show aR.toArray.size<=cI;refine V xc<|V cR.length ?_;exact ab);exact ah _ _ (aL.trans<|bJ.new _ _ an _ an.toks)<|Qo (bM.2 _<|bM.1 _ _ L aL) cR
theorem Yz(co:∀f∈p,f<a.heap.objs.size)(az:IsL p aH a g)(bl:IsL p b5 a z)(ab:aH.length+b5.length<=cI):gW prog j q aU ak (tt .Add g z) (mi p<|.lst<|aH++b5) a:=by
 refine jD az λh O t hq mS qm=>V hq<|jD bl λb fz aA jK AA oJ=>V jK ?_;intro C ah;have i:O++fz=(O.toList++fz.toList).toArray:=by simp
 have ig:=qm.length;have j9:=oJ.length;exact Y.of<|concat_meets ⟨_,mS,U⟩ ⟨_,AA,U⟩ noFill_list_add seq_list_add OJ OK (OL _ _) (list_addW h b O fz t aA aQ aQ #[] #[] (by simp at ig j9;exact xw (.l (.a .x .y) .z) [.l (.a .w .u) .z,.e .x .w,.e .y .u] U ab ig j9)) ⟨mS,AA,(ah _ _ (bJ.new _ _ a _ a.toks)<|Qn co (by simpa using bW.append oJ qm))⟩
theorem YA(bM:gL aU ak p H)(bo:cm prog j q aU ak n H D j8)(aM:mQ aU ak j8)(bE:cm prog j q aU ak n H y n0)(cR:∀a g,H a->j8 a g->IsL p aH a g)(eZ:∀a g,H a->n0 a g->IsL p b5 a g)(ab:aH.length+b5.length<=cI):cm prog j q aU ak n H (.BinOp D .Add y aj) (mi p<|.lst<|aH++b5):=qj bM bo aM bE λa g z L az bl=>Yz (bM.2 a L) (cR a g L az) (eZ a z L bl) ab
end
theorem tQ(bM:gL aU ak p H)(bo:cm prog j q aU ak n H eS j8)(aM:mQ aU ak j8)(bE:cm prog j q aU ak n H f7 n0)(bC:∀a g z,H a->j8 a g->n0 a z->gW prog j q aU ak (DA eS f7 g z) ar a):cm prog j q aU ak n H (.Subscript eS f7 aj) ar:=λa C L ah=>by exact Y.bind<|bo a _ L λg an aL cR=>d6<|bE an _ (bM.1 _ _ L aL) λz am a_ eZ=>dV<|bC am g z (bM.1 _ _ L<|aL.trans a_) (aM _ _ _ cR a_) eZ C λy cg ce jj=>ah y cg ((aL.trans a_).trans ce) jj
noncomputable def n2:bB->Bool|.Slice ..=>a1|_=>Z
theorem AB(c:n2 f7=Z)(g z:al):subscripted f7 a1 g z=operate [g,z] (getItem g z):=by cases f7<;>first|rfl|exact iV c
theorem YB(ac:n2 f7=Z)(c:IsL p aH a g)(bl:dZ l a z)(aO:0<=l)(R:aH[l.toNat]?=W f)(ab:aH.length<=cI):gW prog j q aU ak (DA eS f7 g z) (mi p f) a:=by refine jD c λh O t bP aK av=>V bP<|c5 bl λE cB=>V cB ?_;have aI:a.heap.IsList h O:=⟨_,aK,U,t,U⟩;exact br (av.get R) λu aM IP=>gW.now (λC a5=>tE aI.typeIs Ni.lookup (wpAny_getItem_list aI aO (Ao (.b_ .x<|.n 9223372036854775808) [.l .x .y,.t .z .x,.e .y<|.n 16777216,.b3 .x<|.c .z] U ab ((k'.mp R).1) U<|ru _) (by simpa using aM) a5)<|AB ac _ _) IP
theorem YC(bM:gL aU ak p H)(bo:cm prog j q aU ak n H eS ar)(aM:mQ aU ak ar)(sw:∀a g,H a->ar a g->IsL p aH a g)(bE:cm prog j q aU ak n H f7<|dZ l)(aO:0<=l)(R:aH[l.toNat]?=W f)(ab:aH.length<=cI)(ac:n2 f7=Z:=by rfl):cm prog j q aU ak n H (.Subscript eS f7 aj) (mi p f):=tQ bM bo aM bE λa g z L az bl=>YB ac (sw a g L az) bl aO R ab
abbrev Qp(lo ac:Option Int):ag->al->Prop:=λa g=>∃h D2 D3,g=.ref h/\a.heap.IsSliceOf h D2 D3 .none/\tu D2 lo/\tu D3 ac
def IQ(prog:cl)(j:b7)(q:bY)(aU:List aq)(ak:List Nat)(n:Env)(H:ag->Prop)(i:Option bB)(l:Option Int):Prop:=match i,l with|none,aQ=>True|some i,W l=>cm prog j q aU ak n H i<|dZ l|bL,dQ=>False
theorem Qq(c:IQ prog j q aU ak n H i l)(L:H a)(ah:∀g v,a9 aU ak a v->tu g l->C g v):Y prog j q (valueOrNone<|evalOpt i n) C a:=by cases i with
 |none=>cases l with|none=>refine ?_;exact Y.pure<|ah _ _ (bJ.refl ..) .none|some l=>exact c.elim
 |some i=>cases l with|none=>exact c.elim|some l=>exact(show cm prog j q aU ak n H i (dZ l)from c) a _ L λg v s⟨E,az⟩=>ah g v s<|az▸.int l E
theorem IR{D aN:Option bB}{lo ac:Option Int}{aj:Pos}(bM:gL aU ak p H)(bo:IQ prog j q aU ak n H D lo)(bE:IQ prog j q aU ak n H aN ac):cm prog j q aU ak n H (.Slice D aN aQ aj) (Qp lo ac):=λa C L ah=>by exact Y.bind<|Qq bo L λg an aL cR=>d6<|Qq bE (bM.1 _ _ L aL) λz am a_ eZ=>d6<|Y.pure<|Y.of<|jd (ah _ _ ((aL.trans a_).trans<|bJ.new _ _ am _ am.toks)<|p_ _ g z U (O1 ..) cR eZ) (by show 3<=cI+2;decide)
theorem Qr{eS:bB}{D aN:Option bB}{aj:Pos}{lo ac:Option Int}{aH b5:List bh}{g z:al}(co:∀f∈p,f<a.heap.objs.size)(c:IsL p aH a g)(bl:Qp lo ac a z)(ab:aH.length<=cI)(a8:∀O:Array al,bW a.heap p aH O.toList->bW a.heap p b5 (slicePick O lo ac aQ).toList):gW prog j q aU ak (DA eS (.Slice D aN aQ aj) g z) (mi p<|.lst b5) a:=by
 refine jD c λh O t dv aK av=>V dv<|ni bl λbx D2 D3 ek lS n3 IT=>V ek ?_;have aI:a.heap.IsList h O:=⟨_,aK,U,t,U⟩;have dW:O.size<=sizeLine:=by have:=av.length;simp at this;exact hh (.l .x .y) [.l .z .y,.e .x .z] U ab this
 intro C ah;exact Y.of<|tE aI.typeIs Ni.lookup (wpAny_getItem_list_slice aI lS n3 IT .none (by simp) (ah _ _ (bJ.new _ _ a _ a.toks)<|Qn co<|a8 O av) dW) (ops:=[.ref bx,.ref h]) U
theorem YD{eS:bB}{D:bB}{r bn:Pos}{aH:List bh}{l:Nat}(bM:gL aU ak p H){ar:ag->al->Prop}(bo:cm prog j q aU ak n H eS ar)(aM:mQ aU ak ar)(sw:∀a g,H a->ar a g->IsL p aH a g)(bE:cm prog j q aU ak n H D<|dZ l)(ab:aH.length<=cI):cm prog j q aU ak n H (.Subscript eS (.Slice (W D) aQ aQ r) bn) (mi p<|.lst<|aH.drop l):=tQ bM bo aM (IR bM (lo:=W l) (ac:=aQ) bE trivial) λa g z L az bl=>Qr (bM.2 a L) (sw a g L az) bl ab λO av=>by refine V (slicePick_from' ..) ?_;simpa using av.drop l
theorem YE{eS:bB}{aN:bB}{r bn:Pos}{aH:List bh}{l:Nat}(bM:gL aU ak p H){ar:ag->al->Prop}(bo:cm prog j q aU ak n H eS ar)(aM:mQ aU ak ar)(sw:∀a g,H a->ar a g->IsL p aH a g)(bE:cm prog j q aU ak n H aN<|dZ l)(ab:aH.length<=cI):cm prog j q aU ak n H (.Subscript eS (.Slice aQ (W aN) aQ r) bn) (mi p<|.lst<|aH.take l):=tQ bM bo aM (IR bM (lo:=aQ) (ac:=W l) trivial bE) λa g z L az bl=>Qr (bM.2 a L) (sw a g L az) bl ab λO av=>by refine V (slicePick_upto' ..) ?_;simpa using av.take l
section
variable{prog:cl}{j:b7}{q:bY}{n:Env}{p aU:List aq}{ak:List Nat}{gn:List<|Str×bh}{bc H:ag->Prop}{a:ag}{K:gb->ag->Prop}
theorem D4{c:eH}{h b:aq}{aA:Str->Option al}{u:Option al}(ay:c.Ns h aA)(az:c.IsCell b u):b≠h:=by rintro rfl;refine jD ay λo aB AC i bl w=>br az λdb ck iE=>?_;rw[i]at ck;cases ck;rw[bl]at iE;cases iE
theorem YF(r:oI n p gn bc a)(av:cf a.heap p u g)(R:n.kindOf f=W .local)(fN:n.locals∈p)(hA:su [n.locals] [] bc)(c:∀v,a9 [n.locals] [] a v->oI n p ((f,u)::gn) bc v->C () v):Y prog j q (tv n f g) C a:=by
 refine br r.2 λcV ar vb=>br ar.2 λaA ay bt=>(Y.of<|Nj R ay (λaa mj ea=>?_) (by refine V ar.1 ?_;rfl));have s:a9 [n.locals] [] a {a with heap:=aa,toks:=a.toks+1}:=bJ.same ea;refine c _ s ⟨λB a8=>cw (r.1 B a8) s.2,(dj (λB=>if B=f then W g else cV B) ⟨ar.1,(dj _ mj λB a8=>?_),λB a8=>?_⟩ λB aN e4=>?_),hA _ _ r.3 s⟩
 .split
  .rfl
  .exact bt B a8
 .refine br (ar.3 B a8) λh a7 az=>(dj h a7 ?_);have j_:B≠f:=by rintro rfl;rw[R]at a8;rcases a8 with e|e<;>cases e
  have c9:h≠n.locals:=D4 ay az;exact(if_neg j_).symm▸br az λo i z=>⟨o,(ea.2 h c9).trans i,z⟩
 .have cF:∀aN be,cf a.heap p aN be->cf aa p aN be:=λaN be y=>cf.to (λb o m i=>⟨s.1 b o (λe=>m<|(bm e)▸fN) i,m⟩) _ _ y;cases e4 with
  |here=>exact(dj g (if_pos U)<|cF _ _ av)|there c9 e4=>
   refine br (vb B aN e4) λbe jL jk=>?_;have j_:B≠f:=by rintro rfl;simp at c9
   exact(dj be ((if_neg j_).trans jL)<|cF _ _ jk)
theorem Qs(c:Y prog j q (tv n f g) C a):Y prog j q (pa n f g) C a:=by exact du<|k5<|o'<|hi c λw v a5=>Y.of<|o' a5
inductive IU(n:Env)(f:Str)(h:aq):Prop|mk(fS:n.kindOf f=W .cell)(fT:n.cells.lookup f=W h)(gy:∀B b,n.kindOf B=W .cell\/n.kindOf B=W .free->n.cells.lookup B=W b->B≠f->b≠h):IU n f h
theorem YG(r:oI n p gn bc a)(av:cf a.heap p u g)(R:IU n f h)(fN:h∈p)(hA:su [h] [] bc)(c:∀v,a9 [h] [] a v->oI n p ((f,u)::gn) bc v->C () v):Y prog j q (tv n f g) C a:=by
 refine br r.2 λcV ar vb=>br ar.2 λaA ay bt=>br (ar.3 f<|.inl R.1) λfg ku ln=>?_;replace ku:=R.2▸ku;cases ku;refine(Y.of<|Nk ar.1 R.1 R.2 ln<|λaa jL ea=>?_);have s:a9 [h] [] a {a with heap:=aa}:=bJ.same (x:=a.toks) ea;have c9:h≠n.locals:=D4 ay ln;refine c _ s ⟨λB a8=>cw (r.1 B a8) s.2,⟨λB=>if B=f then W g else cV B,⟨ar.1,⟨aA,ay.at' λo i=>s.1 _ o (λe=>c9 (bm e).symm) i,λB a8=>?_⟩,λB a8=>?_⟩,λB aN e4=>?_⟩,hA _ _ r.3 s⟩
 .have j_:B≠f:=by rintro rfl;replace a8:=R.1▸a8;exact nomatch a8
  exact(bt B a8).trans (if_neg j_).symm
 .by_cases j_:B=f
  .subst j_;exact⟨h,R.2,if_pos U▸jL⟩
  .exact br (ar.3 B a8) λb m az=>⟨b,m,(if_neg j_▸br az λo i z=>⟨o,(ea.2 b<|R.3 B b a8 m j_).trans i,z⟩)⟩
 .have cF:∀aN be,cf a.heap p aN be->cf aa p aN be:=λaN be y=>cf.to (λb o m i=>⟨s.1 b o (λe=>m<|(bm e)▸fN) i,m⟩) _ _ y;cases e4 with
  |here=>exact⟨g,if_pos U,cF _ _ av⟩|there c9 e4=>
   refine br (vb B aN e4) λbe jL jk=>?_;have j_:B≠f:=by rintro rfl;simp at c9
   exact⟨be,(if_neg j_).trans jL,cF _ _ jk⟩
def AD(n:Env)(f:Str):Prop:=n.kindOf f=W .local\/∃h,IU n f h
theorem D5{st:ez}{ca:List ez}(c:Y prog j q (exec st n) (λI v=>I=.next/\Y prog j q (dE ca n) K v) a):Y prog j q (dE (st::ca) n) K a:=by refine Y.eq (pU ..)<|hi c ?_;rintro I v⟨rfl,aa⟩;exact aa
theorem Qt(c:K .next a):Y prog j q (dE [] n) K a:=by refine V (wU ..) ?_;exact Y.pure c
noncomputable def AE:bB->Bool|.ListComp ..|.SetComp ..|.DictComp ..=>a1|_=>Z
theorem vc(c:AE i=Z):tw i E D n=dz a1:=by cases i<;>first|rfl|exact iV c
theorem YH(co:∀h∈b4 n,h∈p)(hA:su (b4 n) [] bc)(r:oI n p gn bc a)(av:cf a.heap p u g)(R:AD n f)(c:∀v,a9 (b4 n) [] a v->oI n p ((f,u)::gn) bc v->C () v):Y prog j q (tv n f g) C a:=by
 rcases R with R|⟨h,R⟩
 .have iF:∀{a v:ag},a9 [n.locals] [] a v->a9 (b4 n) [] a v:=λs=>s.mono (λb m=>bm m▸bz) aW;exact YF r av R (co _ bz) (λa v c s=>hA _ _ c<|iF s) λv s bn=>c v (iF s) bn
 .have iF:∀{a v:ag},a9 [h] [] a v->a9 (b4 n) [] a v:=λs=>s.mono (λb m=>bm m▸sv R.2) aW;exact YG r av R (co _<|sv R.2) (λa v c s=>hA _ _ c<|iF s) λv s bn=>c v (iF s) bn
theorem YI{i:bB}{aj:Pos}{ar:ag->al->Prop}{ca:List ez}(r:H a)(bp:cm prog j q aU ak n H i ar)(c:∀g v,a9 aU ak a v->ar v g->K (.ret g) v):Y prog j q (dE (.Return (W i) aj::ca) n) K a:=by refine Y.bind<|dV<|Y.bind<|bp a _ r λg an aL hr=>Y.pure<|Y.pure<|c g an aL hr
set_option backward.match.sparseCases true in theorem Qu{E:bB}{aj:Pos}{b:Bool}{vd ve:List ez}{ca:List ez}(r:H a)(bC:u' prog j q aU ak n H E b)(c:∀v,a9 aU ak a v->Y prog j q (dE (bif b then vd else ve) n) (λI el=>(I=.next/\Y prog j q (dE ca n) K el)\/(I≠.next/\K I el)) v):Y prog j q (dE (.If E vd ve aj::ca) n) K a:=by
 refine Y.bind<|dV<|Y.bind<|bC a _ r λan aL=>?_;have cF:Y prog j q (dE (bif b then vd else ve) n) (λI v=>Y prog j q (match I with|.next=>dE ca n|I=>dz I) K v) an:=by
  refine Y.mono (c an aL) λI v bg=>?_;rcases bg with⟨rfl,bg⟩|⟨c9,bg⟩
  .exact bg
  .cases I with|next=>exact absurd U c9|_=>exact Y.pure bg
 cases b with|true=>refine V (if_pos U) ?_;exact cF|false=>refine V (if_neg bd) ?_;exact cF
end
def AF(prog:cl)(j:b7)(q:bY)(pm:Option<|al->Sem Unit)(C:al->ag->Prop)(b6:al)(aX:aq)(v:ag):Prop:=match pm with|none=>∃aA,v.heap.Ns aX aA/\∀aa,iQ aX v.heap aa->C b6 {v with heap:=aa}|some aN=>Y prog j q (aN b6) (λw el=>∃aA,el.heap.Ns aX aA/\∀aa,iQ aX el.heap aa->C .none {el with heap:=aa}) v
theorem YJ(pn:clausesOf i=s::bQ)(L:∀f,zu s.iter n f=dz f)(IV:uF a6 n=dz kP)(AG:a6.kind=.function)(Qv:∀f∈a6.names,f.2=.local->a6.names.lookup f.1=W .local)(c:Y prog j q jJ (λf an=>Y prog j q (nb f) (λa' am=>Y prog j q YK (λb6 cg=>Y prog j q (zv a6 n.globals kP [] n.qual aQ .none<|W n) (λsx cU=>d2 prog j q (.compStart i 0 a' b6 {sx with scope:=wV a6 n}) (λw=>AF prog j q pm C b6 sx.locals) cU) cg) am) an) a):Y prog j q (wW i a6 n aj YK a1 jJ pm) C a:=by unfold wW;refine IV.symm▸pn.symm▸hi c λf an bo=>dV<|Y.bind<|Y.eq (L f)<|Y.pure<|d6<|Y.mono bo λa' am bE=>?_;cases pm with
 |none=>
  refine Y.bind<|Y.mono bE λb6 cg ml=>eo<|hi ml λsx cU IW=>?_
  dsimp only;have aM:∀f∈(a6.names.filter λf=>(f.2==.local||f.2==.cell)&&f.1 !=(".0":Str)).reverse,f.2=.local->xk {sx with scope:=wV a6 n} f.1=W .local:=λf R aI=>Nl<|Qv f (zZ.mp<|NV.mp R).1 aI;exact Y.holding<|Y.bind<|Y.attempt<|Y.holding<|Y.run<|d2.mono IW λI v av=>br av λaA ay av=>d6<|Y.of<|wpAny_comp_letGo (cenv:={sx with scope:=wV a6 n}) AG _ v aA aM ay λaa po w ea=>Y.pure<|av aa ea|some aN=>
  refine dV<|Y.bind<|Y.mono bE λb6 cg ml=>eo<|hi ml λsx cU IW=>?_
  dsimp only;have aM:∀f∈(a6.names.filter λf=>(f.2==.local||f.2==.cell)&&f.1 !=(".0":Str)).reverse,f.2=.local->xk {sx with scope:=wV a6 n} f.1=W .local:=λf R aI=>Nl<|Qv f (zZ.mp<|NV.mp R).1 aI;have ql:∀f∈(a6.names.filter λf=>(f.2==.local||f.2==.cell)&&f.1 !=(".0":Str)).reverse.drop 1++(a6.names.filter λf=>(f.2==.local||f.2==.cell)&&f.1 !=(".0":Str)).reverse.take 1,f.2=.local->xk {sx with scope:=wV a6 n} f.1=W .local:=λf R aI=>bN R (λaf=>aM f (NW af) aI) λaf=>aM f (NX af) aI;exact Y.holding<|Y.bind<|Y.attempt<|Y.holding<|Y.run<|d2.mono IW λI v av=>du<|l9<|d6<|Y.mono av λw el jk=>br jk λaA ay jk=>du<|wpAny_comp_letGo (cenv:={sx with scope:=wV a6 n}) AG _ el aA ql ay λaa po w ea=>Y.pure<|jk aa ea
noncomputable def AH(hs:List bB)(n:Env):Sem Bool:=match hs with|[]=>dz Z|g::_=>isTrue g n<|dD g n
theorem YL(c:hs.length<=1):(forIn hs Z λg y=>if y=Z then do let jl<-isTrue g n<|dD g n;dz (rj jl)else dz (rj y):Sem Bool)=AH hs n:=by cases hs with|nil=>rfl|cons g y=>cases y with|nil=>simp[AH,tA]|cons _ _=>exact absurd c<|NE<|uK 2 _
noncomputable def pp(dk:bB)(dJ:List kI)(a6:c4)(aj:Pos)(z:Nat)(b6:al)(n:Env)(hs:List bB):Sem Unit:=do
 let jl<-AH hs n if jl then match dJ[z+1]? with
  |some bX=>do
   let f<-dD bX.iter n
   zs bX.iter.pos let f<-zu bX.iter n f let _<-runOwn (.compStart (.ListComp dk dJ a6 aj) (z+1) (<-holding [f]<|nb f) b6 n) n
  |none=>do let _<-call (.builtin "list.append") [b6,<-dD dk n]else dz ()
theorem Qw(aK:dJ[z]?=W s)(aO:s.is_async=0)(af:s.ifs.length<=1)(ap:∀bX,dJ[z+1]?=W bX->bX.is_async=0):compTurn (.ListComp dk dJ a6 aj) z a' b6 n=(do zs s.iter.pos match<-nO a' with|none=>dz<|.done .next|some u=>do
    zw s.target a' u
    assign s.target n u
    pp dk dJ a6 aj z b6 n s.ifs
    again<|.compLoop (.ListComp dk dJ a6 aj) z a' b6 n):=by
 unfold compTurn pp;simp only[aK,aO];rw[if_neg (by decide),if_neg (by decide)]
 congr 1;funext _;congr 1;funext y;cases y with|none=>rfl|some u=>
  dsimp only
  congr 1;funext _;congr 1;funext _;rw[show(forIn s.ifs Z λg y=>_:Sem Bool)=AH s.ifs n from(by rw[<-YL af])];simp only[bind_assoc]
  congr 1;funext jl;cases jl with|false=>rfl|true=>simp only[if_true];cases iX:dJ[z+1]? with|none=>simp only[bind_assoc]|some bX=>simp only[ap bX iX,bind_assoc];rfl
theorem IX(aK:dJ[z]?=W s)(aO:s.is_async=0)(AI:∀C:al->ag->Prop,C (.ref ai) a->Y prog j q (nb<|.ref ai) C a)(c:d2 prog j q (.compLoop (.ListComp dk dJ a6 aj) z (.ref ai) b6 n) b_ a):d2 prog j q (.compStart (.ListComp dk dJ a6 aj) z (.ref ai) b6 n) b_ a:=by
 refine d2.lI U<|Y.onRaise ?_;unfold compStart;refine V (show clausesOf (.ListComp dk dJ a6 aj)=dJ from U ..)<|V (aK ..)<|V (Option.elim_some ..)<|V (aO ..)<|gK bd<|du<|wpAny_askSetting ?_;split
 .exact eo<|Y.pure ⟨U,c⟩
 .exact du<|l9<|dV<|Y.bind<|AI _<|Y.pure ⟨U,c⟩
inductive IY(am cU:ag)(aC aX:aq):Prop|mk(fS:cU.heap.PlainList aC #[])(fT:cU.heap.Ns aX<|λw=>aQ)(gy:bJ [] am cU)(jI:am.heap.objs.size<=aC/\am.heap.objs.size<=aX/\aC≠aX)(lm:aC<cU.heap.objs.size/\aX<cU.heap.objs.size):IY am cU aC aX
inductive IZ(n:Env)(a6:c4)(kP:List<|Str×aq):Prop|mk(fS:uF a6 n=dz kP)(fT:a6.kind=.function)(gy:∀B∈a6.names,B.2≠.cell)(jI:∀B∈a6.names,B.2=.local->a6.names.lookup B.1=W .local):IZ n a6 kP
theorem Qx(oK:IZ n a6 kP)(aO:s.is_async=0)(L:∀f,zu s.iter n f=dz f)(c:Y prog j q (dD s.iter n) (λg an=>Y prog j q (nb g) (λa' am=>∃ai,a'=.ref ai/\∀aC aX cU,IY am cU aC aX->(∀C:al->ag->Prop,C (.ref ai) cU->Y prog j q (nb<|.ref ai) C cU)/\d2 prog j q (.compLoop (.ListComp dk (s::bQ) a6 aj) 0 (.ref ai) (.ref aC)<|q6 a6 kP aX n) (λw=>AF prog j q pm C (.ref aC) aX) cU) an) a):Y prog j q (wW (.ListComp dk (s::bQ) a6 aj) a6 n (CT (s::bQ) aj) (newList []) (zx<|s::bQ) (CU (s::bQ) n) pm) C a:=by obtain⟨vf,I0,hs,YM⟩:=s;obtain rfl:YM=0:=aO;have a7:zx (⟨vf,I0,hs,0⟩::bQ)=a1:=U;refine YJ (s:=⟨vf,I0,hs,0⟩) (bQ:=bQ) U L oK.1 oK.2 oK.4<|Y.mono c λg an bo=>Y.mono bo λa' am bE=>?_;obtain⟨ai,rfl,bE⟩:=bE;refine Y.of<|jd<|Y.of<|GJ oK.3 (by intro B a8;simp at a8) (λbo Qy D6=>?_) oK.2;generalize I1:am.heap.push {cls:=.type "list",dict:=aQ,data:=.seq ([]:List al).toArray}=I2 at Qy D6⊢;have fW:I2.objs.size=am.heap.objs.size+1:=b' I1<|V (fZ ..) U;have tR:am.heap.objs.size≠I2.objs.size:=fW▸gD (lM _);have qn:∀b o,am.heap.get? b=W o->bo.get? b=W o:=λb o i=>D6.extBut b o (fW▸gD (mE<|dB i))<|eD _<|I1▸eD _ i;have ab:bo.objs.size=am.heap.objs.size+2:=V D6.1<|V (fZ ..)<|V fW U;have S:IY am {am with heap:=bo,toks:=am.toks+([]:List<|Str×al).length} am.heap.objs.size I2.objs.size:=⟨⟨_,D6.extBut _ _ tR<|eD _<|I1▸fc _ U⟩,Qy,bJ.heap (λb o w i=>qn b o i)<|ab▸iw _ _,⟨dA _,fW▸kl _,tR⟩,⟨by show _<bo.objs.size;refine V ab ?_;exact Nat.lt_add_of_pos_right bd,by show _<bo.objs.size;refine V ab<|V fW ?_;exact lM _⟩⟩;obtain⟨AI,aI⟩:=bE _ _ _ S;exact IX (s:=⟨vf,I0,hs,0⟩) U U AI aI
section
variable{prog:cl}{j:b7}{q:bY}{n:Env}{p aU:List aq}{ak:List Nat}{gn:List<|Str×bh}{bc:ag->Prop}{a:ag}{K:gb->ag->Prop}
end
theorem bW.at:∀{aH:List bh}{O:List al}{k:Nat}{u:al},bW c p aH O->O[k]?=W u->∃f,aH[k]?=W f/\cf c p f u|[],bL,dQ,lp,y,i=>by subst y;exact dI i|B::aH,bL,0,u,y,i=>by refine ei y λg aR cB et fn=>?_;obtain rfl:=cB;cases i;exact(dj B U et)|B::aH,bL,k+1,u,y,i=>by refine ei y λg aR ek et fn=>?_;obtain rfl:=ek;exact bW.at (k:=k) fn (by simpa using i)
def AJ(p:List aq)(h z:Int)(t:Nat):ag->al->Prop:=λa g=>∃y b E aN u,g=.ref y/\y∉p/\q7 a.heap y h b z E aN u/\xl h b z=Z/\rk h b z=t
theorem D7(t:Nat):rk 0 t 1=t:=by refine V (rangeSize_one ..) ?_;split<;>(first|exact Int.sub_zero _|lia)
theorem Qz{i:bB}{di aj:Pos}{t:Nat}(bM:gL aU ak p H)(aK:n1 H n "range"<|.type "range")(L:d0 i=Z)(c:cm prog j q aU ak n H i<|dZ t)(ay:t<2^62):cm prog j q aU ak n H (.Call (.Name "range" di) [i] [] aj) (AJ p 0 1 t):=kO bM aK U (hN L bM c (ie _) iY) (by rintro a aR aZ⟨g,y,rfl,⟨E,rfl⟩,rfl⟩C ah;exact Y.of<|CV<|ah _ _ (bJ.new _ _ a _ _) ⟨_,t,_,_,_,U,λe=>h' _<|bM.2 _ aZ _ e,DD ..,CW (iP _) (iP _) (iP _)<|cy (.b_ (.c .x)<|.n 4611686018427387904) [.t .x<|.n 4611686018427387904] U ay,D7 t⟩) (by simp[L])
theorem AK(k:Int)(c:-(2^62)<=k)(aa:k<2^62):sh k=Z:=by unfold sh;exact V (h_ ..)<|V decide_eq_true_eq<|V decide_eq_true_eq<|⟨f1 (.b3 (.g<|.n 9223372036854775808) .x) [.b3 (.g<|.n 4611686018427387904) .x] U c,f1 (.b_ .x<|.n 9223372036854775808) [.b_ .x<|.n 4611686018427387904] U aa⟩
theorem YN(bM:gL aU ak p H)(bo:cm prog j q aU ak n H D<|dZ h)(bE:cm prog j q aU ak n H y<|dZ b)(m:0<=b)(dR:b<=1000000)(a7:h.natAbs<2^64):cm prog j q aU ak n H (.BinOp D .Pow y aj) (dZ<|h^b.toNat):=qj bM bo (ie h) bE (by rintro a _ _-⟨E,rfl⟩⟨aN,rfl⟩;exact gW.tok (λC c=>pow_int_small m dR a7 c) ⟨_,U⟩)
theorem YO(bM:gL aU ak p H)(bo:cm prog j q aU ak n H eS<|mi p<|.tup aH)(bE:cm prog j q aU ak n H f7<|dZ l)(aO:0<=l)(R:aH[l.toNat]?=W f)(ab:aH.length<=cI)(ac:n2 f7=Z:=by rfl):cm prog j q aU ak n H (.Subscript eS f7 aj) (mi p f):=tQ bM bo (bM.is _) bE λa g z L az bl=>by
 refine ni az λh O t e_ a7 aK av=>V e_<|c5 bl λE gF=>V gF ?_;have aI:IsTup a.heap h O:=⟨_,aK,U,t,U⟩;refine br (av.get R) λu aM IP=>?_;have cP:l.toNat<aH.length:=(k'.mp R).1;have cL:O.size=aH.length:=by simpa using av.length
 have ea:cI=2^24:=U;have YP:CP l O.size=W l.toNat:=by unfold CP;have i:(if l<0 then l+(O.size:Int)else l)=l:=if_neg (by exact f1 (.pD .x<|.n 0) [.b3 (.n 0) .x] U aO);refine V (i ..) ?_;rw[if_pos];refine V (h_ ..)<|V decide_eq_true_eq<|V decide_eq_true_eq ?_;exact⟨aO,(Int.toNat_lt aO).mp<|V cL cP⟩
 exact gW.now (λC a5=>tE aI.typeIs PySem.F.slot_tuple_getitem.lookup (PyProof.Rows.getItem_tuple aI (by exact f1 (.b3 (.g<|.n 9223372036854775808) .x) [.b3 (.n 0) .x] U aO) (Ao (.b_ .x<|.n 9223372036854775808) [.l .x .y,.t .z .x,.e .y<|.n 16777216,.b3 .x<|.c .z] U ab cP ea<|ru _) YP (by simpa using aM) a5)<|AB ac _ _) IP
theorem IntsAre.mem{O:List al}{aw:List Int}(c:uU O aw){u:al}(aM:u∈O):∃t E,u=.int t E:=by induction c with|nil=>exact dt aM|cons t E _ a2=>
  rcases fR.mp aM with rfl|aM
  .exact(j1 t E U)
  .exact a2 aM
noncomputable def isInt(l:Int):al->Bool|.int t bL=>t==l|_=>a1
theorem IntsAre.any{O:List al}{aw:List Int}(c:uU O aw)(l:Int):O.any (isInt l)=aw.any (·==l):=by induction c with|nil=>rfl|cons t E _ a2=>refine V (List.any_cons ..)<|V (a2 ..) ?_;rfl
theorem YQ{aw:List Int}{l:Int}{g z:al}(bl:dZ l a z)(az:mi p (.tup<|aw.map bh.int) a g):gW prog j q aU ak (wT .In z g) (II (aw.any (·==l))) a:=by refine ni az λh O t iZ a7 aK av=>V iZ<|c5 bl λE jK=>V jK ?_;have ac:=bW.ints.mp av;refine(IntsAre.any ac l)▸gW.now (λC a5=>SeqAt.in_tupleAt (isInt l) ⟨_,aK,U,t,U⟩ (λB a8=>lh (IntsAre.mem ac (by simpa using a8)) λaA aN kt=>?_)<|Array.any_toList▸a5) U;refine V kt ?_;exact(WN aA l aN E).at _ _
theorem YR{D y:bB}{aj:Pos}{aw:List Int}{l:Int}(bM:gL aU ak p H)(bo:cm prog j q aU ak n H D<|dZ l)(bE:cm prog j q aU ak n H y<|mi p<|.tup<|aw.map bh.int)(bt:wS [.In] [y] (uE [y] n)=[dD y n]:=by rfl):u' prog j q aU ak n H (.Compare D [.In] [y] aj) (aw.any (·==l)):=xF bM bo (ie l) bE (λa g z L az bl=>YQ az bl) bt
theorem YS(c:n1 H n f u)(av:∀a,H a->cf a.heap p I3 u)(bM:gL aU ak p H)(bl:(f==("__debug__":Str))=a1:=by decide):cm prog j q aU ak n H (.Name f aj) (mi p I3):=λa C L ah=>rz (aU:=aU) (ak:=ak) c bl a C L λg v s i=>ah g v s<|i▸av v (bM.1 _ _ L s)
section
variable{prog:cl}{j:b7}{q:bY}{n:Env}{p aU:List aq}{ak:List Nat}{gn:List<|Str×bh}{bc:ag->Prop}{a:ag}{K:gb->ag->Prop}
inductive xJ:List bB->List Str->Prop|nil:xJ [] []|cons{f:Str}{aj:Pos}{aB:List bB}{aH:List Str}:xJ aB aH->xJ (.Name f aj::aB) (f::aH)
theorem YT{aB:List bB}{aH:List Str}(ay:xJ aB aH):(uG aB n).findIdx? (·.1)=aQ/\(uG aB n).length=aH.length:=by induction ay with|nil=>exact⟨U,U⟩|cons _ a2=>exact cY a2 λaf ap=>⟨List.findIdx?_cons.trans ((if_neg uz).trans (congrArg (Option.map (·+1)) af)),congrArg (·+1) ap⟩
end
section
variable{prog:cl}{j:b7}{q:bY}{n:Env}{a:ag}{K:gb->ag->Prop}
theorem QA{b8 ic:bB}{ep:List ez}{aj:Pos}{ca:List ez}(L:∀f,zu ic n f=dz f)(c:Y prog j q (dD ic n) (λg an=>Y prog j q (nb g) (λa' am=>∃ai,a'=.ref ai/\d2 prog j q (.forLoop b8 (.ref ai) ep [] n) (λI v=>(I=.next/\Y prog j q (dE ca n) K v)\/(∃u,I=.ret u/\K I v)) am) an) a):Y prog j q (dE (.For b8 ic ep [] aj::ca) n) K a:=by
 refine Y.bind<|Y.eq (exec_For ..) ?_;refine dV<|hi c λg an bo=>?_;refine Y.eq (V (L ..) U)<|eo ?_;refine dV<|d6<|Y.mono bo λa' am bE=>?_;obtain⟨ai,rfl,bE⟩:=bE;refine Y.runOwn<|d2.mono bE λI v bg=>?_;rcases bg with⟨rfl,bg⟩|⟨u,rfl,bg⟩
 .exact bg
 .exact Y.pure bg
end
section
variable{prog:cl}{j:b7}{q:bY}{n:Env}{a:ag}{K:gb->ag->Prop}
theorem I4:∀{aB:List bB},aB.all d0=Z->(jX aj<|je aB n).all (!·.1)=Z|[],bL=>by cbv|i::aB,c=>by rw[nQ,h_]at c;refine V (kr c.1) ?_;show(!a1&&(jX aj<|je aB n).all (!·.1))=Z;refine V (I4 c.2) ?_;rfl
theorem tS(ay:aB.all d0=Z)(cL:aB.length<20)(mm:tx o attr n (dD o n)=dD o n)(i0:(pq.endLine==aj.line)=Z)(c:Y prog j q (dD o n) (λlq an=>Y prog j q (CX Z o n lq attr) (λbF am=>Y prog j q (pT aj bF.1 bF.2 (jX aj<|je aB n) []) C am) an) a):Y prog j q (dD (.Call (.Attribute o attr pq) aB [] aj) n) C a:=by
 refine Y.eq (V (arm_eval_Call ..)<|V mm U)<|hi c λlq an bo=>?_;refine dV ?_;have I5:CY (aB.length+([]:List Keyword).length) (jX aj<|je aB n) (backToKw aj<|keywordEach [] n)=Z:=by unfold CY;refine V (I4 ay)<|?_;show(Z&&Z&&decide (aB.length+0+0<30))=Z;simp;exact cy (.t .x<|.n 30) [.t .x<|.n 20] U cL
 unfold methodCall;refine I5.symm▸d6 (Y.mono bo λbF am bE=>?_);have I6:CZ Z o n pq aj=dz aj:=by unfold CZ;simp[i0]
 obtain⟨I,jJ⟩:=bF;refine Y.bind<|Y.eq I6<|Y.pure<|Y.eq (U) ?_;exact bE
theorem YU(bM:gL aU ak p H)(aP:cm prog j q aU ak n H o<|λw g=>g=.ref h)(aI:∀a,H a->a.heap.PlainList h O)(bp:cm prog j q aU ak n H i ar)(dW:O.size<=cI)(ay:d0 i=Z)(mm:tx o "append" n (dD o n)=dD o n)(i0:(pq.endLine==aj.line)=Z)(r:H a)(c:∀g an am,a9 aU ak a an->H an->ar an g->am.heap.PlainList h (O.push g)->a9 [h] [] an am->C .none am):Y prog j q (dD (.Call (.Attribute o "append" pq) [i] [] aj) n) C a:=by
 refine tS (by simp[ay]) (by show 1<20;decide) mm i0<|aP a _ r λg an aL az=>?_;refine V az ?_;have c_:=bM.1 _ _ r aL;refine c5 (aI an c_) λl aS=>?_;refine Y.of<|Calls.getMethod_list_append aS U U ?_;refine xH (H:=H) (aU:=aU) (ak:=ak) (ar:=λa aR=>∃g y,aR=g::y/\ar a g/\y=[]) U (by simp[ay]) ?_ c_ ?_
 .intro a C aj aZ ah;refine Y.eq (V (kr ay)<|U) ?_;show Y prog j q (ou [(a1,dD i n)]) C a;refine Y.eq (U) ?_;refine Y.bind<|bp a _ aZ λg an aL cR=>?_;refine gK bd ?_;exact eo<|d6<|Y.pure<|Y.pure<|ah _ _ aL<|jg g [] U cR U
 .rintro aR am a_ dv;refine ei dv λg y ek az e_=>?_;refine V ek ?_;obtain rfl:=e_;have dS:=bM.1 _ _ c_ a_;refine Y.of<|Nm (aI am dS) (λaa nr ea=>?_) dW;exact c g am _ (aL.trans a_) dS az nr<|bJ.same (x:=am.toks) ea
theorem I7{i:bB}{aj:Pos}{ca:List ez}(aS:n.scope.kind=.function)(ay:AE i=Z)(c:Y prog j q (dD i n) (λg v=>g=.none/\Y prog j q (dE ca n) K v) a):Y prog j q (dE (.Expr i aj::ca) n) K a:=by
 refine D5 ?_;have ac:wX n=a1:=by unfold wX;refine V aS ?_;rfl
 refine(GK (hi:=ac) (hs:=vc ay)).symm▸dV (hi c ?_);rintro g v⟨rfl,aa⟩;have rA:C1 i aj .none=dz .next:=by unfold C1;cases i<;>rfl
 exact rA.symm▸Y.pure ⟨U,aa⟩
end
set_option backward.match.sparseCases true in theorem I8(c:Y prog j (q.deeper n) (dE ep n) (λI v=>b_ (.ret<|match I with|.ret u=>u|_=>.none) v) a):d2 prog j q (.func ep n) b_ a:=by refine d2.lI U ?_;show Y prog j (q.deeper n) (do point;match<-(dE ep n).onRaise (leaving n)with|.ret u=>ret u|_=>ret .none) _ a;refine du<|o'<|Y.bind<|Y.onRaise<|Y.mono c λI v aa=>?_;cases I<;>exact Y.pure aa
theorem D8(fA:q.depth<fF)(aP:a.heap.get? h=W o)(iE:o.data=.func bi)(xK:bi.scope.isCoroutine=a1)(n4:bi.scope.isGenerator=a1)(iG:bi.body=.stmts ep)(rB:a.heap.CodeRec bi.code bi.qualname)(c:Y prog j q.in1 (bindArgs bi f3) (λih an=>Y prog j q.in1 (zv bi.scope bi.globals bi.closure ih (bi.qualname++".<locals>.") (W h) bi.code aQ bi.builtins) (λn am=>am.heap.NoLimit/\d2 prog j q (.func ep n) b_ am) an) a):d2 prog j q (.call (.ref h) f3) b_ a:=by refine d2.lI U<|du<|zp aP<|WX rB λg I9 O QB az YV YW a5=>?_;simp only[iE,callFunction,xK,n4,iG,az];rw[az]at c;exact Y.bind (aA:=field (.ref g) 1)<|Y.of<|wpAny_field YV YW a5<|eo<|hi c λih an bo=>hi bo λn am bE=>du<|wpAny_enterFrame bE.1 fA<|Y.pure ⟨U,bE.2⟩
noncomputable def xL:List (Str×al)->List bh->List (Str×bh)->List (Str×bh)|(f,bL)::aG,u::O,gn=>xL aG O<|(f,u)::gn|bL,dQ,gn=>gn
theorem YX(co:∀h∈b4 n,h∈p)(hA:su (b4 n) [] bc):∀{ih:List<|Str×al}{O:List bh}{gn:List<|Str×bh}{a:ag},(∀r∈ih,AD n r.1)->oI n p gn bc a->bW a.heap p O (ih.map (·.2))->(∀v,a9 (b4 n) [] a v->oI n p (xL ih O gn) bc v->C () v)->Y prog j q (forIn ih () λr w=>do tv n r.1 r.2;dz<|rj ()) C a:=by intro ih;induction ih with
 |nil=>intro O gn a aP r av c;refine Y.pure<|c a (bJ.refl ..) ?_;cases O with
  |nil=>exact r|cons u O=>refine gc av λg aR i w=>?_;cases i
 |cons tT aG a2=>intro O gn a aP r av c;obtain⟨f,g⟩:=tT;cases O with|nil=>cases av|cons u O=>refine gJ λw bI=>ei av λbe aR i et fn=>?_;cases i;exact bI<|Y.eq (tA ..)<|Y.bind<|Y.bind<|YH co hA r et (aP _ bz) λan aL c_=>Y.pure<|a2 (λe a5=>aP e<|mt a5) c_ (bW.to (λb o m i=>⟨aL.1 b o (λe=>m<|co b e) i,m⟩) _ _ fn) λam a_ dS=>c am (aL.trans a_) dS
set_option tactic.hygienic true in theorem AL:∀(eb:List<|Str×se)(t:Nat)(b6:List<|Str×aq)(f:Str),((b6.lookup f).isSome=Z\/eb.lookup f=W .cell)->((cellsFrom t eb b6).lookup f).isSome=Z
 |[],t,b6,f,c=>by
  rcases c with c|c
  .exact c
  .exact dI c|(B,l)::y,t,b6,f,c=>by
  unfold cellsFrom;split
  .rename_i aS;refine AL y (t+1) _ f<|V sf ?_;cases m:f==B with
   |true=>exact .inl U|false=>
    rcases c with c|c
    .exact .inl c
    .rw[sf,m]at c;exact .inr c
  .rename_i aS;refine AL y t b6 f ?_;rcases c with c|c
   .exact .inl c
   .rw[sf]at c;cases m:f==B with|true=>replace c:=m▸c;cases c;simp at aS|false=>replace c:=m▸c;exact .inr c
theorem I_:∀(eb:List<|Str×se)(c:eH),c.objs.size<=(pushCells c eb).objs.size
 |[],c=>dA _|(bL,l)::y,c=>by
  unfold pushCells;split
  .exact bb (by refine V (fZ ..) ?_;exact kl _)<|I_ y _
  .exact I_ y c
noncomputable abbrev qo(a6:c4)(ch oL:aq)(oM:Str)(func:Option aq)(code:al)(oN:aq):Env:=newEnv a6 ch oL (cellsFrom (ch+1) a6.names []) oM func code aQ oN
theorem QC{a6:c4}{oL:aq}{ih:List<|Str×al}{oM:Str}{func:Option aq}{code:al}{oN:aq}{O:List bh}{C:Env->ag->Prop}(aS:a6.kind=.function)(bg:∀f∈a6.names,f.2≠.free)(aP:∀r∈ih,AD (qo a6 a.heap.objs.size oL oM func code oN) r.1)(av:bW a.heap p O (ih.map (·.2)))(co:∀f∈p,f<a.heap.objs.size)(c:∀v,(∀h∈b4<|qo a6 a.heap.objs.size oL oM func code oN,a.heap.objs.size<=h)->oI (qo a6 a.heap.objs.size oL oM func code oN) (b4 (qo a6 a.heap.objs.size oL oM func code oN)++p) (xL ih O []) (bJ [] a) v->C (qo a6 a.heap.objs.size oL oM func code oN) v):Y prog j q (zv a6 oL [] ih oM func code aQ oN) C a:=by
 unfold zv;refine du<|zy<|du<|wpAny_layCells _ (λname QE amF=>by rfl) a6.names [] _ _ ?_;refine V (fZ ..) ?_;generalize ji:pushCells (a.heap.push {cls:=.type<|if(aQ:Option Env).isSome then"dict"else"frame",data:=.dict #[]}) a6.names=c6;change Y prog j q (do
  forIn ih si λf w=>do tv (qo a6 a.heap.objs.size oL oM func code oN) f.1 f.2;dz<|rj si
  dz<|qo a6 a.heap.objs.size oL oM func code oN) C {a with heap:=c6};have qi:∀b o,a.heap.get? b=W o->c6.get? b=W o:=λb o i=>ji▸pushCells_keeps _ _ b o (eD _ i);have f8:a.heap.objs.size+1<=c6.objs.size:=by rw[<-ji,<-fZ (h:=a.heap)];exact I_ _ _
 have jl:CellsOk c6 (a.heap.objs.size+1) (cellsFrom (a.heap.objs.size+1) a6.names []):=by have:=cellsFrom_ok a6.names (a.heap.push {cls:=.type<|if(aQ:Option Env).isSome then"dict"else"frame",data:=.dict #[]}) (a.heap.objs.size+1) [] ⟨λw w c=>(dt c),O2⟩ (by refine V (fZ ..) ?_;exact dA _);rw[fZ,ji]at this;exact this
 have mn:c6.Ns a.heap.objs.size (λw=>aQ):=by have:(a.heap.push {cls:=.type<|if(aQ:Option Env).isSome then"dict"else"frame",data:=.dict #[]}).Ns a.heap.objs.size (λw=>aQ):=Heap.Ns.new ..;exact ji▸this.keeps λb o i=>pushCells_keeps _ _ b o i
 have s:bJ [] a {a with heap:=c6}:=bJ.heap (x:=a.toks) (λb o w i=>qi b o i)<|Hf f8;have sy:∀h∈b4<|qo a6 a.heap.objs.size oL oM func code oN,a.heap.objs.size<=h/\h<c6.objs.size:=by
  intro h a7
  revert h;refine g4 ?_ ?_
  .exact⟨dA _,f8⟩
  .intro h a7;exact mg a7 λr aZ bP=>b' bP<|cY (jl.empty r.1 r.2 aZ) λaz mT=>⟨Hf mT,az.lt⟩
 have iH:oI (qo a6 a.heap.objs.size oL oM func code oN) (b4 (qo a6 a.heap.objs.size oL oM func code oN)++p) [] (bJ [] a) {a with heap:=c6}:=by
  refine⟨λf R=>?_,(dj (λw=>aQ) ⟨aS,(dj _ mn λw w=>U),λf R=>?_⟩ λf u R=>nomatch R),s⟩
  .exact bN R (λR=>(sy f R).2) λR=>cw (co f R)<|Hf f8
  .rcases R with R|R
   .exact c5 (G1.mp<|AL a6.names (a.heap.objs.size+1) [] f<|.inr R) λh a7=>(dj h a7 (jl.empty f h<|GL a7).1)
   .exact absurd U<|bg _<|GL R
 refine Y.bind<|YX (bc:=bJ [] a) (λh a7=>b3 a7) ?_ aP iH ?_ λv bX bn=>Y.pure<|c v (λh a7=>(sy h a7).1) bn
 .intro E eR bC gt;exact bC.hj gt (λb m=>.inr<|gz (sy b m).1) aW
 .exact bW.to (λb o m i=>⟨qi b o i,λe=>bN e (λe=>h' _<|cw (dB i) (sy b e).1) m⟩) _ _ av
theorem xM(ay:aB.all d0=Z)(cL:aB.length<20)(c:mR prog j q aU ak n H aB ar)(L:H a)(bg:∀a,H a->a.heap.get? h=W o)(bl:o.data=.func bi)(bM:su aU ak H)(az:∀aR v,a9 aU ak a v->ar v aR->Y prog j q (er (.ref h) (jJ++aR) []) C v):Y prog j q (pT aj (.ref h) jJ (jX Az<|je aB n) []) C a:=by
 unfold pT;refine d6<|xG ay c L λaR an aL cR=>dV<|V (va ay ..)<|V (xd ..)<|V (sb ..) ?_;have aS:Y prog j q (sd<|.ref h) (λl v=>l=.frame/\v=an) an:=by unfold sd;exact du<|zp (bg an<|bM _ _ L aL)<|bl.symm▸Y.pure ⟨U,U⟩
 refine hi aS<|rv ?_;have AM:∀y am,C y am->Y prog j q (do holding [y] point;dz y) C am:=λy am av=>du<|k5<|o'<|Y.pure av
 dsimp only;split
 .exact hi (az aR _ aL cR) λy am av=>AM y am av
 .exact Y.bind<|Y.keep<|Y.mono (az aR _ aL cR) λy am av=>AM y am av
theorem YY(bM:gL aU ak p H)(aK:n1 H n f<|.ref h)(bg:∀a,H a->a.heap.get? h=W o)(bl:o.data=.func bi)(c:mR prog j q aU ak n H aB ar)(az:∀a aR,H a->ar a aR->gW prog j q aU ak (er (.ref h) aR []) cZ a)(cL:aB.length<20)(ay:aB.all d0=Z:=by rfl)(YZ:(f==("__debug__":Str))=a1:=by decide):cm prog j q aU ak n H (.Call (.Name f IN) aB [] aj) cZ:=λa C L ah=>by .refine Y.bind<|rz (aU:=aU) (ak:=ak) aK YZ a _ L λg an aL cR=>?_;subst cR;exact Y.eq (V (C2 ..) U)<|xM (jJ:=[]) ay cL c (bM.1 _ _ L aL) bg bl bM.1 λaR am a_ eZ=>az am aR (bM.1 _ _ L<|aL.trans a_) eZ _ λy cg ce jj=>ah y cg ((aL.trans a_).trans ce) jj
noncomputable abbrev cX(bi:uH)(h:aq)(a:ag):Env:=qo bi.scope a.heap.objs.size bi.globals (bi.qualname++".<locals>.") (W h) bi.code bi.builtins
inductive FnAt(a:ag)(h:aq)(bi:uH)(ep:List ez):Prop|mk(fS:∃o,a.heap.get? h=W o/\o.data=.func bi)(fT:bi.scope.isCoroutine=a1)(gy:bi.scope.isGenerator=a1)(jI:bi.body=.stmts ep)(lm:a.heap.CodeRec bi.code bi.qualname)(nZ:bi.scope.kind=.function)(vg:∀f∈bi.scope.names,f.2≠.free)(D9:bi.closure=[])(I':a.heap.NoLimit):FnAt a h bi ep
theorem Y0(fA:q.depth<fF)(bg:FnAt a h bi ep)(m:iO a bi ⟨aR,[]⟩ ih)(aP:∀r∈ih,AD (cX bi h a) r.1)(av:bW a.heap p O (ih.map (·.2)))(co:∀f∈p,f<a.heap.objs.size)(c:∀v,(∀b∈b4<|cX bi h a,a.heap.objs.size<=b)->oI (cX bi h a) (b4 (cX bi h a)++p) (xL ih O []) (bJ [] a) v->Y prog j (q.deeper<|cX bi h a) (dE ep<|cX bi h a) (λI el=>∃u,I=.ret u/\C u el) v):Y prog j q (er (.ref h) aR []) C a:=by
 refine br bg.1 λo kv bl=>Y.call<|D8 fA kv bl bg.2 bg.3 bg.4 bg.5<|Y.of<|m _ _ _ _<|bg.8.symm▸QC bg.6 bg.7 aP av co λv dP bn=>⟨?_,I8 ?_⟩
 .exact bg.9.keeps λb o i=>bn.3.1 b o (λc=>nomatch c) i
 .refine Y.mono (c v dP bn) ?_;rintro I el bP;refine br bP λu cB a5=>?_;obtain rfl:=cB;exact(dj u U a5)
structure dw where
 prog:cl
 w:b7
 s0:ag
 tabs:List aq
 mg:Str->Option al
 mb:Str->Option al
def Y1(tabs:List aq)(a v:ag):Prop:=∀B∈tabs,∀o O,a.heap.get? B=W o->o.cls=.none->o.data=.fields O->∃d7,v.heap.get? B=W {o with data:=.fields<|O++d7}
inductive fh(g:dw)(a:ag):Prop|mk(fS:a9 g.tabs [] g.s0 a)(fT:Y1 g.tabs g.s0 a):fh g a
theorem fh.toG(b:fh g a)(s:a9 cb ak a v)(dK:∀G∈cb,g.s0.heap.objs.size<=G)(lr:∀k∈ak,g.s0.gens.size<=k):fh g v:=by exact⟨b.1.hj s (λB a8=>.inr<|gz<|dK B a8)<|λk ac=>.inr<|ss<|lr k ac,λB a8 o O bG cr eE=>c5 (b.2 B a8 o O bG cr eE) λd7 i=>⟨d7,s.1 _ _ (λe=>cd (dB bG)<|dK B e) i⟩⟩
theorem fh.to(b:fh g a)(s:a9 cb [] a v)(dK:∀G∈cb,g.s0.heap.objs.size<=G):fh g v:=b.toG s dK aW
inductive dw.Ok(g:dw):Prop|mk(fS:g.s0.heap.Ns 3 g.mg)(fT:g.s0.heap.Ns 0 g.mb)(gy:∀a,fh g a->a.heap.NoLimit)(jI:3∉g.tabs)(lm:0∉g.tabs)(nZ:∀E∈g.tabs,E<g.s0.heap.objs.size):dw.Ok g
inductive Slot where|f(u:bh)|o(u:bh)|b(u:bh)
def Slot.loose:Slot->Prop|.f bL=>False|_=>True
noncomputable abbrev b0:=List<|Str×Slot
inductive fo:b0->Str->Slot->Prop|here{A:b0}{f:Str}{u:Slot}:fo ((f,u)::A) f u|there{A:b0}{f B:Str}{u aN:Slot}:(B==f)=a1->fo A f u->fo ((B,aN)::A) f u
def jM(c:eH)(p:List aq)(h:aq):bh->Prop|.lst aH=>∃O t,c.get? h=W {cls:=.type "list",data:=.seq O t}/\bW c p aH O.toList|.nE b=>c.get? h=W (cQ b)|_=>False
def AN(c:eH)(p:List aq)(u:bh)(g:al):Prop:=∃h,g=.ref h/\jM c p h u
def lT(c:eH)(p:List aq):Slot->al->Prop|.f u,g=>cf c p u g|.o u,g=>AN c p u g|.b u,g=>AN c p u g
theorem jM.to(l:∀(b:aq)(o:Obj),b∉p->c.get? b=W o->aa.get? b=W o/\b∉aU)(a7:∀o,c.get? h=W o->aa.get? h=W o)(y:jM c p h u):jM aa aU h u:=by
 cases u<;>try exact y.elim
 .exact gc y λO t i y=>⟨O,t,a7 _ i,bW.to l _ _ y⟩
 .exact a7 _ y
theorem jM.lt(y:jM c p h u):h<c.objs.size:=by
 cases u<;>try exact y.elim
 .exact gc y λO t i y=>dB i
 .exact dB y
theorem jM.rep(y:jM c p h u)(a7:h∉p):cf c p u (.ref h):=by
 cases u<;>try exact y.elim
 .exact gc y λO t i y=>(p_ h O t U a7 i y)
 .exact(ro h U a7 y)
inductive cM(g:dw)(n:Env)(p N aF:List aq)(S:Nat):Prop|mk(fS:n.scope.kind=.function)(fT:n.globals=3)(gy:n.builtins=0)(jI:∀h∈b4 n,h∈p/\g.s0.heap.objs.size<=h/\h∉N/\h∉aF)(lm:∀h∈N,h∈p/\g.s0.heap.objs.size<=h/\h∉aF)(nZ:∀h∈aF,h∈p)(vg:∀h∈g.tabs,h∈aF)(D9:∀h∈p,h<S)(I':∀h∈p,h∈g.tabs\/g.s0.heap.objs.size<=h)(QF:∀f B h b,n.cells.lookup f=W h->n.cells.lookup B=W b->f≠B->h≠b):cM g n p N aF S
inductive bw(g:dw)(n:Env)(p N:List aq)(S:Nat)(A:b0)(a:ag):Prop|mk(fS:S<=a.heap.objs.size)(fT:fh g a)(gy:∃cV,pl n a.heap cV/\(∀f bx,fo A f bx->∃u,cV f=W u/\lT a.heap p bx u)/\(∀f u,fo A f (.o u)->∃h∈N,cV f=W (.ref h)/\∀B aN,B≠f->fo A B (.o aN)->cV B≠W (.ref h))/\(∀f u,fo A f (.b u)->∃h,cV f=W (.ref h)/\h∉N/\h∉b4 n)):bw g n p N S A a
theorem lT.keep(l:∀(b:aq)(o:Obj),c.get? b=W o->aa.get? b=W o)(y:lT c p bx u):lT aa p bx u:=by cases bx with|f aN=>exact cf.to (λb o m i=>⟨l b o i,m⟩) _ _ y|o aN=>refine br y λh i y=>?_;exact⟨h,i,y.to (λb o m i=>⟨l b o i,m⟩)<|λo i=>l _ o i⟩|b aN=>refine br y λh i y=>?_;exact⟨h,i,y.to (λb o m i=>⟨l b o i,m⟩)<|λo i=>l _ o i⟩
theorem bw.grow(r:bw g n p N S A a)(s:a9 [] [] a v):bw g n p N S A v:=by have l:∀b o,a.heap.get? b=W o->v.heap.get? b=W o:=λb o i=>s.1 b o (λc=>dt c) i;exact⟨bb r.1 s.2,r.2.to s<|λG c=>dt c,(jf r.3 λcV ar af ap bk=>⟨cV,ar.keeps λb w o i=>l b o i,λf bx R=>br (af f bx R) λu i y=>⟨u,i,y.keep l⟩,ap,bk⟩)⟩
theorem cM.ok(M:cM g n p N aF S):gL [] [] p (bw g n p N S A):=⟨λw w r s=>r.grow s,λa r f R=>cw (M.8 f R) r.1,aW⟩
inductive ha where|fr|b2|ls deriving DecidableEq
def e'(S:Nat)(p:List aq):ha->bh->ag->al->Prop|.fr,u=>λa g=>∃h,g=.ref h/\S<=h/\jM a.heap (h::p) h u|.b2,u=>λa g=>cf a.heap p u g|.ls,u=>λa g=>AN a.heap p u g
theorem e'.iB:mQ [] [] (e' S p l u):=by intro a v g c s;have rC:∀b o,a.heap.get? b=W o->v.heap.get? b=W o:=λb o i=>s.1 b o (λc=>dt c) i;cases l with|fr=>refine fx c λh i ay y=>?_;exact⟨h,i,ay,y.to (λb o m i=>⟨rC b o i,m⟩) λo i=>rC _ o i⟩|b2=>exact cf.to (λb o m i=>⟨rC b o i,m⟩) _ _ c|ls=>refine br c λh i y=>?_;exact⟨h,i,y.to (λb o m i=>⟨rC b o i,m⟩) λo i=>rC _ o i⟩
theorem jM.sub(y:jM c p h u)(L:∀B∈aU,B∈p):jM c aU h u:=y.to (λb o m i=>⟨i,λe=>m<|L b e⟩) λo i=>i
theorem e'.kg(c:e' S p l (.lst aH) a g):IsL p aH a g:=by cases l with|fr=>refine fx c λh i ay y=>?_;exact gc (y.sub (aU:=p) λB a8=>mt a8) λO t ck fV=>⟨h,O,t,i,ck,fV⟩|b2=>exact cf.kg c|ls=>refine br c λh i cB=>?_;exact gc cB λO t ck fV=>⟨h,O,t,i,ck,fV⟩
theorem e'.b2(co:∀h∈p,h<S)(c:e' S p l u a g)(aS:l≠.ls):cf a.heap p u g:=by cases l with|fr=>refine fx c λh bP ay y=>?_;exact V bP<|(y.sub λB a8=>mt a8).rep λe=>cd (co h e) ay|b2=>exact c|ls=>exact absurd U aS
inductive eK(z:Nat)(q:bY):Prop|mk(fS:q.handled=aQ)(fT:q.depth+z<=900)(gy:q.units+4*z<=5000):eK z q
def ae(g:dw)(z:Nat)(Q:c4)(A:b0)(i:bB)(l:ha)(u:bh):Prop:=∀(q:bY)(n:Env)(p N aF:List aq)(S:Nat),eK z q->n.scope=Q->cM g n p N aF S->cm g.prog g.w q [] [] n (bw g n p N S A) i (e' S p l u)
def gA(g:dw)(z:Nat)(Q:c4)(A:b0)(i:bB)(b:Bool):Prop:=∀(q:bY)(n:Env)(p N aF:List aq)(S:Nat),eK z q->n.scope=Q->cM g n p N aF S->u' g.prog g.w q [] [] n (bw g n p N S A) i b
theorem ae.gQ(c:ae g z Q A i l u)(aS:l≠.ls:=by decide):ae g z Q A i .b2 u:=λq n p N aF S ax L M=>(c q n p N aF S ax L M).to λa g aM=>aM.b2 M.8 aS
theorem QG:e' S p .b2 (.int l) a g↔dZ l a g:=Ys (p:=p)
section
abbrev dd(g:dw)(z:Nat)(Q:c4)(A:b0)(i:bB)(h:Int):Prop:=ae g z Q A i .b2<|.int h
theorem mo(c:∀(q:bY)(n:Env)(p N aF:List aq)(S:Nat),eK z q->n.scope=Q->cM g n p N aF S->cm g.prog g.w q [] [] n (bw g n p N S A) i (dZ h)):dd g z Q A i h:=λq n p N aF S ax L M=>(c q n p N aF S ax L M).to λa g c=>QG.mpr c
theorem eT(c:dd g z Q A i h)(ax:eK z q)(L:n.scope=Q)(M:cM g n p N aF S):cm g.prog g.w q [] [] n (bw g n p N S A) i (dZ h):=(c q n p N aF S ax L M).to λa g c=>QG.mp c
namespace ae
theorem cT:dd g z Q A (.Constant (.int k) t aj) k:=mo λw w w w w w w w w=>IL
theorem WM:ae g z Q A (.Constant .none t aj) .b2 .none:=λw w w w w w w w w=>Ql.to λa g c=>c
theorem neg(c:dd g z Q A f h):dd g z Q A (.UnaryOp .USub f aj) (-h):=mo λw w w w w w ax L M=>Yq<|eT c ax L M
section
variable(bo:dd g z Q A D h)(bE:dd g z Q A y b)
include bo bE
theorem add:dd g z Q A (.BinOp D .Add y aj) (h+b):=mo λw w w w w w ax L M=>Yj M.ok (eT bo ax L M)<|eT bE ax L M
theorem sub:dd g z Q A (.BinOp D .Sub y aj) (h-b):=mo λw w w w w w ax L M=>Yk M.ok (eT bo ax L M)<|eT bE ax L M
theorem mul(bt:CS h b):dd g z Q A (.BinOp D .Mult y aj) (h*b):=mo λw w w w w w ax L M=>Yl M.ok (eT bo ax L M) (eT bE ax L M) bt
theorem div(m:b≠0)(aZ:xj h b=a1):dd g z Q A (.BinOp D .FloorDiv y aj) (h.fdiv b):=mo λw w w w w w ax L M=>Ym M.ok (eT bo ax L M) (eT bE ax L M) m aZ
theorem mod(m:b≠0):dd g z Q A (.BinOp D .Mod y aj) (h.fmod b):=mo λw w w w w w ax L M=>Yn M.ok (eT bo ax L M) (eT bE ax L M) m
theorem xor:dd g z Q A (.BinOp D .BitXor y aj) (kn h b):=mo λw w w w w w ax L M=>Yo M.ok (eT bo ax L M)<|eT bE ax L M
theorem and:dd g z Q A (.BinOp D .BitAnd y aj) (tB h b):=mo λw w w w w w ax L M=>Yp M.ok (eT bo ax L M)<|eT bE ax L M
theorem pow(m:0<=b)(dR:b<=1000000)(a7:h.natAbs<2^64):dd g z Q A (.BinOp D .Pow y aj) (h^b.toNat):=mo λw w w w w w ax L M=>YN M.ok (eT bo ax L M) (eT bE ax L M) m dR a7
end
end ae
noncomputable def D_(Q:c4)(f:Str):Bool:=Q.names.lookup f==W .local||(Q.names.lookup f==W .cell||Q.names.lookup f==W .free)
theorem vh{o h b:Option se}(c:(o==h||o==b)=Z):o=h\/o=b:=(Nd.mp c).imp eq_of_beq eq_of_beq
theorem D'{n:Env}{f:Str}(c:D_ n.scope f=Z):Qm n f:=(Nd.mp c).imp eq_of_beq vh
noncomputable def fI:b0->Str->Option Slot|[],_=>aQ|(B,aN)::A,f=>bif B==f then W aN else fI A f
theorem oO:∀{A:b0}{f:Str}{bx:Slot},fI A f=W bx->fo A f bx|[],bL,dQ,c=>dI c|(B,aN)::A,f,bx,c=>by unfold fI at c;cases i:B==f with|true=>replace c:=i▸c;cases c;exact b' (eq_of_beq i) .here|false=>replace c:=i▸c;exact .there i<|oO c
theorem Ja(aK:fI A f=W bx)(R:D_ n.scope f=Z)(az:(f==("__classdict__":Str))=a1)(bl:(f==("__debug__":Str))=a1):cm g.prog g.w q aU ak n (bw g n p N S A) (.Name f aj) (λa g=>lT a.heap p bx g):=λa C r ah=>by refine fx r.3 λcV ar af w=>br (af _ _<|oO aK) λg h1 av=>Y.eq (V (arm_eval_Name ..) U)<|dV ?_;refine gK (by refine V bl ?_;decide) ?_;exact D1 ar (D' R) h1 az<|ah g a (bJ.refl ..) av
noncomputable def ht(Q:c4)(f:Str):Bool:=D_ Q f&&!(f==("__classdict__":Str))&&!(f==("__debug__":Str))
theorem xN(c:ht Q f=Z):D_ Q f=Z/\(f==("__classdict__":Str))=a1/\(f==("__debug__":Str))=a1:=by unfold ht at c;simp only[h_,GD]at c;exact⟨c.1.1,c.1.2,c.2⟩
namespace ae
theorem name(aK:fI A f=W (.f u))(R:ht Q f=Z):ae g z Q A (.Name f aj) .b2 u:=λq n p N aF S ax L M=>by subst L;exact eQ (xN R) λh b e=>(Ja (g:=g) aK h b e)
theorem WO(aK:fI A f=W (.o u))(R:ht Q f=Z):ae g z Q A (.Name f aj) .ls u:=λq n p N aF S ax L M=>by subst L;exact eQ (xN R) λh b e=>(Ja (g:=g) aK h b e)
theorem v5(aK:fI A f=W (.b u))(R:ht Q f=Z):ae g z Q A (.Name f aj) .ls u:=λq n p N aF S ax L M=>by subst L;exact eQ (xN R) λh b e=>(Ja (g:=g) aK h b e)
end ae
noncomputable def eA(Q:c4)(f:Str):Bool:=Q.names.lookup f==W .globalImplicit&&!(f==("__debug__":Str))
noncomputable def dw.gl(g:dw)(f:Str):Option Value:=match g.mg f with|some u=>W u|none=>g.mb f
theorem fh.ns(az:g.Ok)(c:fh g a):a.heap.Ns 3 g.mg/\a.heap.Ns 0 g.mb:=⟨az.1.at' λo i=>c.1.1 _ _ az.4 i,az.2.at' λo i=>c.1.1 _ _ az.5 i⟩
theorem hB(az:g.Ok)(M:cM g n p N aF S)(c:g.gl f=W u)(R:eA n.scope f=Z):n1 (bw g n p N S A) n f u:=by unfold eA at R;rw[h_]at R;refine⟨⟨M.1,eq_of_beq R.1⟩,λa r=>(dj g.mg (M.2▸(r.2.ns az).1) ?_)⟩;unfold dw.gl at c;cases i:g.mg f with|some aN=>rw[i]at c;exact .inl c|none=>rw[i]at c;exact .inr ⟨U,(dj g.mb (M.3▸(r.2.ns az).2) c)⟩
theorem vi(c:eA Q f=Z):(f==("__debug__":Str))=a1:=by unfold eA at c;simp only[h_,GD]at c;exact c.2
theorem Y2(az:g.Ok)(c:fh g a)(av:cf g.s0.heap g.tabs I3 u)(co:∀h∈p,h∈g.tabs\/g.s0.heap.objs.size<=h):cf a.heap p I3 u:=cf.to (λb o m i=>⟨c.1.1 b o m i,λe=>(co b e).elim m λG=>cd (dB i) G⟩) _ _ av
namespace ae
theorem glob(az:g.Ok)(c:g.gl f=W a4)(av:cf g.s0.heap g.tabs u a4)(R:eA Q f=Z):ae g z Q A (.Name f aj) .b2 u:=λq n p N aF S ax L M=>by subst L;exact YS (hB az M c R) (λa r=>Y2 az r.2 av M.9) M.ok<|vi R
end ae
end
section
variable{g:dw}{z:Nat}{Q:c4}{A:b0}{D y f aN j eS f7:bB}{l cR eZ:ha}{k:Int}{aj bn:Pos}{aH:List bh}{aw dh:List Int}
@[reducible]noncomputable def cS(aw:List Int):bh:=.lst<|aw.map .int
namespace ae
theorem item(bo:ae g z Q A eS l<|.lst aH)(bE:dd g z Q A f7 k)(aO:0<=k)(R:aH[k.toNat]?=W u)(ab:aH.length<=cI)(ac:n2 f7=Z:=by rfl):ae g z Q A (.Subscript eS f7 aj) .b2 u:=λq n p N aF S ax L M=>YC M.ok (bo q n p N aF S ax L M) e'.iB (λa g w c=>c.kg) (eT bE ax L M) aO R ab ac
theorem BJ(bo:ae g z Q A eS l<|cS aw)(bE:dd g z Q A f7 k)(aO:0<=k)(R:k.toNat<aw.length)(ab:aw.length<=cI)(ac:n2 f7=Z:=by rfl):dd g z Q A (.Subscript eS f7 aj) (aw.getD k.toNat 0):=item bo bE aO (by refine V (fk)<|V (fK)<|V (fG R) ?_;rfl) (by simpa using ab) ac
theorem BK(bo:ae g z Q A eS .b2<|.tup aH)(bE:dd g z Q A f7 k)(aO:0<=k)(R:aH[k.toNat]?=W u)(ab:aH.length<=cI)(ac:n2 f7=Z:=by rfl):ae g z Q A (.Subscript eS f7 aj) .b2 u:=λq n p N aF S ax L M=>YO M.ok (bo q n p N aF S ax L M) (eT bE ax L M) aO R ab ac
theorem drop{t:Nat}(bo:ae g z Q A eS l<|.lst aH)(bE:dd g z Q A D t)(ab:aH.length<=cI):ae g z Q A (.Subscript eS (.Slice (W D) aQ aQ aj) bn) .b2 (.lst<|aH.drop t):=λq n p N aF S ax L M=>YD M.ok (bo q n p N aF S ax L M) e'.iB (λa g w c=>c.kg) (eT bE ax L M) ab
theorem take{t:Nat}(bo:ae g z Q A eS l<|.lst aH)(bE:dd g z Q A D t)(ab:aH.length<=cI):ae g z Q A (.Subscript eS (.Slice aQ (W D) aQ aj) bn) .b2 (.lst<|aH.take t):=λq n p N aF S ax L M=>YE M.ok (bo q n p N aF S ax L M) e'.iB (λa g w c=>c.kg) (eT bE ax L M) ab
theorem MD{t:Nat}(bo:ae g z Q A eS l<|cS aw)(bE:dd g z Q A D t)(ab:aw.length<=cI):ae g z Q A (.Subscript eS (.Slice (W D) aQ aQ aj) bn) .b2 (cS<|aw.drop t):=by have:=drop (aj:=aj) (bn:=bn) bo bE (by simpa using ab);rwa[<-xe]at this
theorem WR{t:Nat}(bo:ae g z Q A eS l<|cS aw)(bE:dd g z Q A D t)(ab:aw.length<=cI):ae g z Q A (.Subscript eS (.Slice aQ (W D) aQ aj) bn) .b2 (cS<|aw.take t):=by have:=take (aj:=aj) (bn:=bn) bo bE (by simpa using ab);rwa[<-z0]at this
end ae
namespace ae
theorem cat(bo:ae g z Q A D cR<|.lst aH)(bE:ae g z Q A y eZ<|.lst b5)(ab:aH.length+b5.length<=cI):ae g z Q A (.BinOp D .Add y aj) .b2 (.lst<|aH++b5):=λq n p N aF S ax L M=>YA M.ok (bo q n p N aF S ax L M) e'.iB (bE q n p N aF S ax L M) (λa g w c=>c.kg) (λa g w c=>c.kg) ab
theorem tO(bo:ae g z Q A D cR<|cS aw)(bE:ae g z Q A y eZ<|cS dh)(ab:aw.length+dh.length<=cI):ae g z Q A (.BinOp D .Add y aj) .b2 (cS<|aw++dh):=by have:=cat (aj:=aj) bo bE (by simpa using ab);rwa[<-mc]at this
theorem ite(bC:gA g z Q A E e)(bo:e=Z->ae g z Q A f l u)(bE:e=a1->ae g z Q A B l u):ae g z Q A (.IfExp E f B aj) l u:=λq n p N aF S ax L M=>Yv M.ok (bC q n p N aF S ax L M) (λe=>bo e q n p N aF S ax L M) λe=>bE e q n p N aF S ax L M
end ae
def eU(g:dw)(z:Nat)(Q:c4)(A:b0):List bB->List bh->Prop|[],[]=>True|i::aB,u::O=>d0 i=Z/\ae g z Q A i .b2 u/\eU g z Q A aB O|bL,dQ=>False
theorem eU.sj(ax:eK z q)(L:n.scope=Q)(M:cM g n p N aF S):∀{aB:List bB}{O:List bh},eU g z Q A aB O->mR g.prog g.w q [] [] n (bw g n p N S A) aB (λa aR=>bW a.heap p O aR)|[],[],bL=>λa C aj aZ ah=>iY a C aj aZ λaR v s c=>ah aR v s (by show bW _ _ _ _;exact c)|i::aB,u::O,c=>λa C aj aZ ah=>hN c.1 M.ok (c.2.1 q n p N aF S ax L M) e'.iB (eU.sj ax L M c.2.2) a C aj aZ λaR v s c=>ah aR v s (by refine ei c λg y bP af ap=>?_;obtain rfl:=bP;exact(jg g y U af ap))
theorem Y3(M:cM g n p N aF S)(c:mR g.prog g.w q [] [] n (bw g n p N S A) aB<|λa aR=>bW a.heap p aH aR)(ab:aH.length<=cI):cm g.prog g.w q [] [] n (bw g n p N S A) (.List aB aj) (e' S p .fr<|.lst aH):=λa C L ah=>by refine dV<|Y.bind<|c a _ aj L λaR an aL cR=>Y.of<|jd ?_ (by show aR.toArray.size<=cI;refine V xc<|V cR.length ?_;exact ab);refine ah _ _ (aL.trans<|bJ.new _ _ an _ an.toks) ⟨_,U,(L.grow aL).1,aR.toArray,0,fc _ U,?_⟩;exact bW.to (λb o m i=>⟨eD _ i,by refine g2 fR<|g2 not_or ?_;exact⟨gD<|dB i,m⟩⟩) _ _ (by simpa using cR)
namespace ae
theorem list(c:eU g z Q A aB aH)(ab:aH.length<=cI):ae g z Q A (.List aB aj) .fr (.lst aH):=λq n p N aF S ax L M=>Y3 M (c.sj ax L M) ab
theorem tuple(c:eU g z Q A aB aH)(ab:aH.length<=cI):ae g z Q A (.Tuple aB t aj) .b2 (.tup aH):=λq n p N aF S ax L M=>Yy M.ok (c.sj ax L M) ab
end ae
theorem foldl_rep(D:Array bf):∀(t:Nat)(b6:Array bf),((dq t D).foldl (λf B=>f++B) b6).toList=b6.toList++(dq t D.toList).flatten|0,b6=>by simp|t+1,b6=>by refine V nf<|V Dn<|V (foldl_rep D t ..)<|V nf<|V jA ?_;simp
theorem Y4{f:Int}(mT:-(2^63:Int)<=f)(no:f<2^63):¬(!O3 f)=Z:=V (show O3 f=Z from l8.mpr ⟨decide_eq_true mT,decide_eq_true no⟩) bd
theorem Y5{t:Nat}(c:t<=2^24):¬Builtin.List.listTooLong t=Z:=λe=>absurd (of_decide_eq_true e)<|NF c
theorem QI{j:b7}{D:aq}{f:Int}{aN:Tok}(aI:a.heap.get? D=W {cls:=.type "list",data:=.seq bA aA})(mT:-(2^63:Int)<=f)(no:f<2^63)(dW:bA.size*f.toNat<=2^24)(c:C (.ref a.heap.objs.size) {a with heap:=a.heap.push {cls:=.type "list",data:=.seq<|List.foldl (λJ P=>J++P) #[]<|dq (if bA.isEmpty=Z then 0 else f.toNat) bA}}):b9 (cq prog j) q (tt .Mult (.ref D)<|.int f aN) C as a:=wpAny_binaryOp_repeat_ref (T:="list") (U:="int") bd ⟨_,aI,U⟩ (λv=>wP v f aN) noFill_list_mul F.fills_int_mul Dw repeat_list OM.lookup (call_meets Dw (wP a f aN) ON (OO _ _) (int___rmul___int_list f aN D bA aA) ⟨aI,U,⟨_,aI,U⟩,call_meets F.slot_list_mul ⟨_,aI,U⟩ F.entry_list_mul (F.args_list_mul_2 _ _) (AutoListH.list___mul___list_int_3 D bA aA f aN (Y4 mT no) (NF<|bb dW bd)<|Y5 dW) ⟨aI,c⟩⟩)
theorem bW.rep(y:bW c p aH O):∀t,bW c p (dq t aH).flatten (dq t O).flatten|0=>U|t+1=>nf▸nf▸jA▸jA▸bW.append (bW.rep y t) y
end
section
variable{g:dw}{z:Nat}{Q:c4}{A:b0}{i D y f B E j:bB}{l cR eZ:ha}{h k:Int}{aj:Pos}{aw dh:List Int}
set_option tactic.hygienic true in theorem Y6(bA:Array bf)(t:Nat):(dq (if bA.isEmpty=Z then 0 else t) bA.toList).flatten=(dq t bA.toList).flatten:=by
 split
 .rename_i c;have:bA.toList=[]:=by simpa using c
  refine V this ?_;simp
 .rfl
theorem Y7(M:cM g n p N aF S)(r:bw g n p N S A a)(aI:IsL p aH a kP)(av:dZ h a Y8)(mT:-(2^63:Int)<=h)(no:h<2^63)(dW:aH.length*h.toNat<=2^24):gW g.prog g.w q [] [] (tt .Mult kP Y8) (e' S p .fr<|.lst (dq h.toNat aH).flatten) a:=λC ah=>by refine jD aI λtV O t bP aK jk=>V bP<|c5 av λE cB=>V cB ?_;have cL:=jk.length;refine Y.of<|QI aK mT no (by simp at cL;refine V cL ?_;exact dW) ?_;refine ah _ _ (bJ.new _ _ a _ a.toks) ⟨_,U,r.1,_,0,fc _ U,?_⟩;refine V (foldl_rep ..)<|V (Y6 ..) ?_;have:=jk.rep h.toNat;refine bW.to (λb o m i=>⟨eD _ i,by refine g2 fR<|g2 not_or ?_;exact⟨gD<|dB i,m⟩⟩) _ _ (by simpa using this)
namespace ae
theorem rep(bo:ae g z Q A D l<|.lst aH)(bE:dd g z Q A y h)(mT:-(2^63:Int)<=h)(no:h<2^63)(dW:aH.length*h.toNat<=2^24):ae g z Q A (.BinOp D .Mult y aj) .fr (.lst (dq h.toNat aH).flatten):=λq n p N aF S ax L M=>qj M.ok (bo q n p N aF S ax L M) e'.iB (eT bE ax L M) λa fM g5 r af ap=>Y7 M r af.kg ap mT no dW
theorem F9(bo:ae g z Q A D l<|cS [G])(bE:dd g z Q A y h)(mT:-(2^63:Int)<=h)(dW:h<=2^24):ae g z Q A (.BinOp D .Mult y aj) .fr (cS<|dq h.toNat G):=by
 have:=rep (aj:=aj) bo bE mT (f1 (.b_ .x<|.n 9223372036854775808) [.b3 .x<|.n 16777216] U dW) (by simp;assumption);have i:(dq h.toNat [bh.int G]).flatten=(dq h.toNat G).map bh.int:=by induction h.toNat with
  |zero=>rfl|succ t a2=>refine V nf<|V jA<|V a2<|V nf<|V iz ?_;rfl
 rw[show([G].map bh.int)=[bh.int G]from U]at this;rwa[i]at this
end ae
def vj(nq:CmpOp)(y:bB):Prop:=∀n,wS [nq] [y] (uE [y] n)=[dD y n]
theorem Y9{q:bY}{a:ag}{p:List aq}{fM g5:al}(e4:q.units<cLine)(bo:IsL p (aw.map .int) a fM)(bE:IsL p (dh.map .int) a g5):gW g.prog g.w q [] [] (wT .Eq fM g5) (II<|aw==dh) a:=by
 refine jD bo λY_ O t dv aK av=>V dv<|jD bE λY' fz aA ek iX jk=>V ek ?_;have d':=bW.ints.mp av;have nY:=bW.ints.mp jk;have ig:O.size=aw.length:=by simpa using av.length
 have j9:fz.size=dh.length:=by simpa using jk.length
 have aI:a.heap.IsList Y_ O:=⟨_,aK,U,t,U⟩;have nr:a.heap.IsList Y' fz:=⟨_,iX,U,aA,U⟩;by_cases ab:aw.length=dh.length
 .have i:(aw==dh)=(c2 O.size).all λaD=>aw.getD aD 0==dh.getD aD 0:=by
   refine V ig<|g2 Bool.eq_iff_iff<|g2 hn<|g2 beq_iff_eq ?_;constructor
   .rintro rfl aD _;simp
   .intro c;refine List.ext_getElem ab λaD af ap=>?_;have:=c aD<|la.mpr af;simpa[fK,af,ap]using this
  refine V i<|gW.now (λC a5=>SeqAt.eq_listAt aI nr (by exact Ap [1,-1,1,-1] [1,1,-1,1] (.e .x .y) [.e .x .z,.e .y .w,.e .z .w] U ig j9 ab) e4 (λaD af ap=>?_) a5) U;have vk:∃E,O[aD]=.int (aw.getD aD 0) E:=by refine br (av.get (k:=aD) (f:=.int<|aw.getD aD 0) (by refine V (fk)<|V (fK)<|V (fG (by exact ph [1,1,-1,1] (.t .x .y) [.e .z .w,.e .y .w,.t .x .z] U j9 ab ap)) ?_;rfl)) λa4 bG et=>?_;refine c5 et λE qp=>?_;obtain rfl:=qp;exact⟨E,d4<|(uT af).symm.trans (by simpa using bG)⟩
  have ls:∃E,fz[aD]=.int (dh.getD aD 0) E:=by refine br (jk.get (k:=aD) (f:=.int<|dh.getD aD 0) (by refine V (fk)<|V (fK)<|V (fG (by exact hh (.t .x .y) [.e .z .y,.t .x .z] U j9 ap)) ?_;rfl)) λa4 bG et=>?_;refine c5 et λE sz=>?_;obtain rfl:=sz;exact⟨E,d4<|(uT ap).symm.trans (by simpa using bG)⟩
  exact c5 vk λE bG=>c5 ls λeR cr=>V bG<|cr.symm▸SeqAt.EqAt.int_int _ _ _ _
 .have i:(aw==dh)=a1:=beq_false_of_ne λe=>ab<|congrArg _ e;exact V i<|gW.now (λC a5=>SeqAt.eq_list_lengthsAt aI nr (by simp;lia) e4 a5) U
namespace gA
section
variable(bo:dd g z Q A D h)(bE:dd g z Q A y b)
include bo bE
theorem ne(bt:vj .NotEq y):gA g z Q A (.Compare D [.NotEq] [y] aj) (h !=b):=λq n p N aF S ax L M=>Yt M.ok (eT bo ax L M) (eT bE ax L M)<|bt n
theorem lt(bt:vj .Lt y):gA g z Q A (.Compare D [.Lt] [y] aj) (decide<|h<b):=λq n p N aF S ax L M=>Yu M.ok (eT bo ax L M) (eT bE ax L M)<|bt n
theorem ge(bt:vj .GtE y):gA g z Q A (.Compare D [.GtE] [y] aj) (decide<|h>=b):=λq n p N aF S ax L M=>xF M.ok (eT bo ax L M) (ie h) (eT bE ax L M) (by rintro a _ _-⟨E,rfl⟩⟨aN,rfl⟩;exact gW.now (λC c=>PySem.P.ge_int c) U)<|bt n
theorem gt(bt:vj .Gt y):gA g z Q A (.Compare D [.Gt] [y] aj) (decide<|h>b):=λq n p N aF S ax L M=>xF M.ok (eT bo ax L M) (ie h) (eT bE ax L M) (by rintro a _ _-⟨E,rfl⟩⟨aN,rfl⟩;exact gW.now (λC c=>PySem.P.gt_int c) U)<|bt n
end
theorem MF(bo:dd g z Q A D h)(bE:ae g z Q A y .b2<|.tup<|aw.map .int)(bt:vj .In y):gA g z Q A (.Compare D [.In] [y] aj) (aw.any (·==h)):=λq n p N aF S ax L M=>YR M.ok (eT bo ax L M) (bE q n p N aF S ax L M)<|bt n
end gA
namespace ae
theorem W5(bo:ae g z Q A D cR<|cS aw)(bE:ae g z Q A y eZ<|cS dh)(bt:vj .Eq y):ae g z Q A (.Compare D [.Eq] [y] aj) .b2 (.bool<|aw==dh):=λq n p N aF S ax L M=>(Yr M.ok (bo q n p N aF S ax L M) e'.iB (bE q n p N aF S ax L M) (bt n) λa fM g5 r af ap=>Y9 (mG (bb (iw _ _) ax.3) bd) af.kg ap.kg).to λa a4 c=>c
theorem len(az:g.Ok)(c:ae g z Q A i l<|.lst aH)(aK:g.gl "len"=W (.builtin "len"))(R:eA Q "len"=Z)(ay:d0 i=Z)(ab:aH.length<2^62):dd g z Q A (.Call (.Name "len" di) [i] [] aj) aH.length:=mo λq n p N aF S ax L M=>by subst L;exact Yx M.ok (hB az M aK R) ay (c q n p N aF S ax U M) e'.iB (λa g w c=>c.kg) ab
theorem v8{di:Pos}(az:g.Ok)(c:ae g z Q A i l<|cS aw)(aK:g.gl "len"=W (.builtin "len"))(R:eA Q "len"=Z)(ay:d0 i=Z)(ab:aw.length<2^62):dd g z Q A (.Call (.Name "len" di) [i] [] aj) aw.length:=by have:=len (aj:=aj) (di:=di) az c aK R ay (by simpa using ab);rwa[d3]at this
end ae
end
def tW:bB->eH->List aq->bh->al->Prop|.Tuple ..,c,p,f,u=>∃b5 aY qq,f=.tup b5/\u=.ref aY/\c.IsTuple aY qq/\bW c p b5 qq.toList|bL,c,p,f,u=>cf c p f u
def sA(o:Obj):Prop:=(∀O t,o≠{cls:=.type "list",data:=.seq O t})/\(∀b,o≠cQ b)
theorem Ea(c:o.cls≠.type "list"/\o.cls≠.type "bytearray"):sA o:=⟨λO t e=>c.1<|e▸U,λb e=>c.2<|e▸U⟩
theorem Za(c:o.data=.dict aB t):sA o:=⟨λO t e=>(by rw[e]at c;cases c),λb e=>(by rw[e]at c;cases c)⟩
inductive mp(prog:cl)(j:b7)(q:bY)(b8:bB)(p:List aq)(bA:List bh)(am:ag)(ai:aq)(bF a0:List aq)(bQ:List Nat)(St:Nat->ag->Prop):Prop|mk(fS:∀b∈a0,b∈bF)(fT:∀k a v p c6,St k a->a9 p c6 a v->(∀b∈p,b∉bF)->(∀s∈c6,s∉bQ)->St k v)(gy:∀k f(a:ag)(C:al->ag->Prop),bA[k]?=W f->St k a->(∀u v,(∀bu jN,(∀b∈bu,b<a.heap.objs.size/\(b∈p\/b∈a0\/am.heap.objs.size<=b))->a9 bu jN am a->tW b8 v.heap bu f u)->St (k+1) v->a9 a0 bQ a v->C u v)->Y prog j q (nO<|.ref ai) (λy an=>∃u,y=W u/\Y prog j q (zw b8 (.ref ai) u) (λw am=>C u am) an) a)(jI:∀(a:ag)(C:Option al->ag->Prop),St bA.length a->(∀v,a9 a0 bQ a v->C aQ v)->Y prog j q (nO<|.ref ai) C a)(lm:∀k(a:ag)(C:al->ag->Prop),St k a->C (.ref ai) a->Y prog j q (nb<|.ref ai) C a)(nZ:∀k a b o,St k a->b∈a0->a.heap.get? b=W o->sA o):mp prog j q b8 p bA am ai bF a0 bQ St
inductive Eb(prog:cl)(j:b7)(q:bY)(b8:bB)(S K:Nat)(j':List aq)(kQ:List Nat)(p cb:List aq)(bA:List bh)(an am:ag)(ai:aq)(bF a0:List aq)(bQ:List Nat)(St:Nat->ag->Prop):Prop|mk(fS:mp prog j q b8 p bA am ai bF a0 bQ St)(fT:St 0 am)(gy:a9 [] [] an am)(jI:∀b∈a0,S<=b\/b∈j')(lm:∀s∈bQ,K<=s\/s∈kQ)(nZ:∀s∈bQ,s<am.gens.size)(vg:∀b∈bF,b<am.heap.objs.size/\b∉cb):Eb prog j q b8 S K j' kQ p cb bA an am ai bF a0 bQ St
def xO(prog:cl)(j:b7)(q:bY)(b8:bB)(S K:Nat)(j':List aq)(kQ:List Nat)(p cb:List aq)(g:al)(bA:List bh)(an:ag):Prop:=∀C:al->ag->Prop,(∀ai am bF a0 bQ St,Eb prog j q b8 S K j' kQ p cb bA an am ai bF a0 bQ St->C (.ref ai) am)->Y prog j q (nb g) C an
theorem QK{b8:bB}{p:List aq}{bA:List bh}{am:ag}{ai:aq}{bF a0:List aq}{bQ:List Nat}{St:Nat->ag->Prop}{n:Env}{ep:List ez}{b_:gb->ag->Prop}(cZ:mp prog j q b8 p bA am ai bF a0 bQ St)(ae:Nat->ag->Prop)(oH:∀k f bV a u,bA[k]?=W f->ae k bV->St k bV->(∀bu jN,(∀b∈bu,b<bV.heap.objs.size/\(b∈p\/b∈a0\/am.heap.objs.size<=b))->a9 bu jN am bV->tW b8 a.heap bu f u)->St (k+1) a->a9 a0 bQ bV a->Y prog j q (do assign b8 n u;dE ep n) (λI v=>match I with|.next|.cont=>ae (k+1) v/\St (k+1) v|.brk=>b_ .next v|.ret u=>b_ (.ret u) v) a)(qr:∀bV a,ae bA.length bV->St bA.length bV->a9 a0 bQ bV a->b_ .next a)(aO:ae 0 a)(f4:St 0 a):d2 prog j q (.forLoop b8 (.ref ai) ep [] n) b_ a:=by
 refine d2.loop U U (λl a=>∃k,k<=bA.length/\l=bA.length-k/\ae k a/\St k a) ?_ bA.length<|p8 0 (eJ _) U aO f4;rintro l a⟨k,ac,rfl,dx,L⟩;refine Y.onRaise<|dV<|Y.bind<|Y.onRaise<|g_ (pZ k bA.length) (λcP=>?_) λj6=>?_
 .refine Y.mono (cZ.3 k bA[k] a (λu v=>Y prog j q (do assign b8 n u;dE ep n) (λI v=>match I with
   |.next|.cont=>ae (k+1) v/\St (k+1) v|.brk=>b_ .next v|.ret u=>b_ (.ret u) v) v) (fG cP) L λu an aM fm aL=>oH k _ a an u (fG cP) dx L aM fm aL) ?_;rintro y an⟨u,rfl,E⟩;show Y prog j q (do zw b8 (.ref ai) u;assign b8 n u;match<-dE ep n with
   |.next|.cont=>again<|.forLoop b8 (.ref ai) ep [] n|.brk=>dz<|.done .next|.ret u=>dz<|.done<|.ret u) _ an;refine hi E λw am E=>?_;have i:(do assign b8 n u;match<-dE ep n with
   |.next|.cont=>again<|.forLoop b8 (.ref ai) ep [] n|.brk=>dz<|.done .next|.ret u=>dz (.done<|.ret u):Sem Fin)=((do assign b8 n u;dE ep n)>>=λI=>match I with
   |.next|.cont=>again<|.forLoop b8 (.ref ai) ep [] n|.brk=>dz<|.done .next|.ret u=>dz<|.done<|.ret u):=by simp only[bind_assoc]
  refine V i<|hi E λI am bg=>?_;cases I with
  |next=>exact Y.pure<|.inl ⟨U,(dj (bA.length-(k+1)) (oF (.t .x .y) [.l .z<|.a .y .w,.e (.a .x<|.o .w) .z] U (f2 _ _)<|eN<|c3 (.l (.o .x) .y) [.t .x .y] U cP)<|p8 (k+1) cP U bg.1 bg.2)⟩|cont=>exact Y.pure<|.inl ⟨U,(dj (bA.length-(k+1)) (oF (.t .x .y) [.l .z<|.a .y .w,.e (.a .x<|.o .w) .z] U (f2 _ _)<|eN<|c3 (.l (.o .x) .y) [.t .x .y] U cP)<|p8 (k+1) cP U bg.1 bg.2)⟩|brk=>exact Y.pure bg|ret u=>exact Y.pure bg
 .obtain rfl:k=bA.length:=w6 ac j6;refine cZ.4 a _ L λan aL=>Y.pure<|.inr ⟨U,(d2.lI U ?_)⟩;show Y prog j q (do let I<-dE [] n;dz<|DF I) _ an;refine Y.eq (V (arm_execs_nil ..) U) ?_;exact eo<|Y.pure<|qr a an dx L aL
theorem Zb{b8:bB}{p:List aq}{bA:List bh}{am:ag}{ai:aq}{bF a0:List aq}{bQ:List Nat}{St:Nat->ag->Prop}{n:Env}{dk:bB}{dJ:List kI}{a6:c4}{aj:Pos}{z:Nat}{b6:al}{s:kI}{b_:gb->ag->Prop}(aK:dJ[z]?=W s)(bC:s.target=b8)(aO:s.is_async=0)(af:s.ifs.length<=1)(ap:∀bX,dJ[z+1]?=W bX->bX.is_async=0)(cZ:mp prog j q b8 p bA am ai bF a0 bQ St)(ae:Nat->ag->Prop)(oH:∀k f bV a u,bA[k]?=W f->ae k bV->St k bV->(∀bu jN,(∀b∈bu,b<bV.heap.objs.size/\(b∈p\/b∈a0\/am.heap.objs.size<=b))->a9 bu jN am bV->tW b8 a.heap bu f u)->St (k+1) a->a9 a0 bQ bV a->Y prog j q (do assign s.target n u;pp dk dJ a6 aj z b6 n s.ifs) (λw v=>ae (k+1) v/\St (k+1) v) a)(qr:∀bV a,ae bA.length bV->a9 a0 bQ bV a->b_ .next a)(dx:ae 0 a)(f4:St 0 a):d2 prog j q (.compLoop (.ListComp dk dJ a6 aj) z (.ref ai) b6 n) b_ a:=by
 subst bC;refine d2.loop U U (λl a=>∃k,k<=bA.length/\l=bA.length-k/\ae k a/\St k a) ?_ bA.length<|p8 0 (eJ _) U dx f4;rintro l a⟨k,ac,rfl,dx,L⟩;refine Y.onRaise<|V (Qw aK aO af ap)<|dV<|Y.bind ?_;rcases pZ k bA.length with cP|j6
 .refine Y.mono (cZ.3 k bA[k] a (λu v=>Y prog j q (do assign s.target n u;pp dk dJ a6 aj z b6 n s.ifs) (λw v=>ae (k+1) v/\St (k+1) v) v) (fG cP) L λu an aM fm aL=>oH k _ a an u (fG cP) dx L aM fm aL) ?_;rintro y an⟨u,rfl,E⟩;refine hi E λw am E=>?_;have i:(do assign s.target n u;pp dk dJ a6 aj z b6 n s.ifs;again (.compLoop (.ListComp dk dJ a6 aj) z (.ref ai) b6 n):Sem Fin)=((do assign s.target n u;pp dk dJ a6 aj z b6 n s.ifs)>>=λw=>again<|.compLoop (.ListComp dk dJ a6 aj) z (.ref ai) b6 n):=by simp only[bind_assoc]
  exact V i<|hi E λI am bg=>Y.pure<|.inl ⟨U,(dj (bA.length-(k+1)) (oF (.t .x .y) [.l .z<|.a .y .w,.e (.a .x<|.o .w) .z] U (f2 _ _)<|eN<|c3 (.l (.o .x) .y) [.t .x .y] U cP)<|p8 (k+1) cP U bg.1 bg.2)⟩
 .obtain rfl:k=bA.length:=w6 ac j6;exact cZ.4 a _ L λan aL=>Y.pure<|qr a an dx aL
section
theorem QM(c:cf an.heap p f u)(bS:∀b∈a0,an.heap.objs.size<=b)(aL:a9 [] [] an am)(co:∀b∈bu,b∈p\/b∈a0\/am.heap.objs.size<=b)(a_:a9 bu jN am a)(ce:a9 a0 [] a v):cf v.heap bu f u:=by refine cf.to (λb o m i=>?_) _ _ c;have cP:=dB i;have QN:b∉a0:=λe=>cd cP<|bS b e;have gM:b∉bu:=λe=>(co b e).elim m λe=>e.elim QN λe=>cd (cw cP aL.2) e;exact⟨ce.1 _ _ QN<|a_.1 _ _ gM<|aL.1 _ _ (λe=>dt e) i,gM⟩
theorem QQ(bS:∀b∈a0,an.heap.objs.size<=b)(aL:a9 [] [] an am)(co:∀b∈bu,b∈p\/b∈a0\/am.heap.objs.size<=b)(a_:a9 bu jN am a)(ce:a9 a0 [] a v):∀{b5:List bh}{O:List al},bW an.heap p b5 O->bW v.heap bu b5 O|[],O,y=>y|B::b5,O,y=>by exact ei y λu fz bP et fn=>V bP<|jg u fz U (QM et bS aL co a_ ce)<|QQ bS aL co a_ ce fn
theorem mp.of{b8:bB}{ai:aq}{bF a0:List aq}{t:Nat}{sB:Nat->al->Prop}{St:Nat->eH->Prop}(cZ:Walks prog j q ai bF a0 t sB St)(cK:∀c p f u,cf c p f u->(∃k,k<t/\bA[k]?=W f)->tW b8 c p f u)(bC:∀u,(∃k,k<t/\sB k u)->∀k(a:ag)(C:Unit->ag->Prop),St (k+1) a.heap->C () a->Y prog j q (zw b8 (.ref ai) u) C a)(ay:bA.length=t)(aM:∀k f u,bA[k]?=W f->sB k u->cf an.heap p f u)(bS:∀b∈a0,an.heap.objs.size<=b)(aL:a9 [] [] an am)(aS:∀k c b o,St k c->b∈a0->c.get? b=W o->sA o):mp prog j q b8 p bA am ai bF a0 [] (λk a=>St k a.heap):=⟨(cZ.sub),(λk a v p c6 st s co w=>cZ.frame k _ _ st λb m o i=>s.1 b o (λe=>co b e m) i),(λk f a C R st ah=>by have ac:k<t:=ay▸(k'.mp R).1;refine j7<|Y.of<|cZ.item k a _ _ ac st λu aa x bM kR aS G=>(dj u U ?_);have s:a9 a0 [] a {a with heap:=aa,toks:=x}:=bJ.heap (λb o m i=>aS b o m i) G.1;exact bC u (dj k ac bM) k _ _ kR<|ah u _ (λbu jN gM bX=>cK _ _ _ _ (QM (aM k f u R bM) bS aL (λb m=>(gM b m).2) bX s)<|dj k ac R) kR s),(λa C st ah=>j7<|Y.of<|cZ.done a _ _ (ay▸st) λaa x aS G=>ah _<|bJ.heap (λb o m i=>aS b o m i) G.1),(λk a C st ah=>Y.of<|cZ.self k a _ _ st ah),(λk a b o st m i=>aS k _ b o st m i)⟩
theorem QR{c:eH}{b D:aq}{k:Nat}{o:Obj}(f:c.IsListIter b D k)(i:c.get? b=W o):sA o:=by refine fx f λdb ck az w=>?_;replace ck:=i▸ck;exact V (lk ck)<|Ea ⟨by refine V az ?_;decide,by refine V az ?_;decide⟩
theorem Zc{c:eH}{b D:aq}{k:Nat}{o:Obj}(f:c.IsTupleIter b D k)(i:c.get? b=W o):sA o:=by refine fx f λdb ck az w=>?_;replace ck:=i▸ck;exact V (lk ck)<|Ea ⟨by refine V az ?_;decide,by refine V az ?_;decide⟩
def AO(p cb:List aq)(aH:List bh)(a:ag)(g:al):Prop:=∃h O t,g=.ref h/\h∉cb/\a.heap.get? h=W {cls:=.type "list",data:=.seq O t}/\bW a.heap p aH O.toList
theorem QS{b8:bB}{S K:Nat}(hu:S<=a.heap.objs.size)(cJ:q.handled=aQ){g:al}(dK:∀b∈cb,b<a.heap.objs.size)(c:AO p cb aH a g)(bC:(∃f hC,b8=.Name f hC)\/(∃aB l hC,b8=.Tuple aB l hC)/\∀f∈aH,∃b5,f=.tup b5):xO prog j q b8 S K [] [] p cb g aH a:=λC ah=>by
 obtain⟨h,O,t,rfl,a7,aK,av⟩:=c;have aI:a.heap.IsList h O:=⟨_,aK,U,t,U⟩;have cP:h<a.heap.objs.size:=dB aK;have cL:O.size=aH.length:=by simpa using av.length
 refine Y.of<|CR aI ?_;have s:a9 [] [] a {a with heap:=a.heap.push {cls:=.type "list_iterator",data:=.fields #[.ref h,.int 0 0]}}:=bJ.push a _ a.toks;refine ah _ _ _ _ _ _ ⟨mp.of (HW (prog:=prog) (w:=j) cJ a.heap.objs.size h (gD cP) O) ?_ ?_ cL.symm (λk f u R aM=>?_) (λb m=>mF (bm m).symm) s<|λk c b o st m i=>QR (bm m▸st.1) i,?_,s,λb m=>.inl<|bm m▸hu,aW,aW,λb m=>?_⟩
 .rintro c p f u y⟨k,_,R⟩;rcases bC with⟨B,hC,rfl⟩|⟨⟨aB,l,hC,rfl⟩,bC⟩
  .exact y
  .refine gJ λw bI=>?_;obtain⟨b5,rfl⟩:=bC f<|ox R;obtain⟨aY,fz,aA,rfl,_,i,y⟩:=y;exact bI<|⟨b5,aY,fz,U,U,⟨_,i,U,aA,U⟩,y⟩
 .rintro u⟨k,ac,aM⟩aD v C st a5;rcases bC with⟨f,hC,rfl⟩|⟨⟨aB,l,hC,rfl⟩,bC⟩
  .exact Y.pure a5
  .refine gJ λw bI=>br (av.at (k:=k) (u:=u) (by simpa using aM)) λf R sC=>?_;obtain⟨b5,rfl⟩:=bC f<|ox R;obtain⟨aY,_,_,rfl,_⟩:=sC;exact bI<|Y.of<|wpAny_letOwnedTupleGo_listiter st.1 a5
 .refine gJ λw bI=>br (av.at (k:=k) (u:=u) (by simpa using aM)) λjm h2 sC=>?_;replace h2:=R▸h2;cases h2;exact bI sC
 .exact⟨⟨_,fc _ U,U,U⟩,aI.at λo i=>eD _ i⟩
 .refine V (fZ ..) ?_
  revert b;refine g4 ?_ ?_
  .exact⟨lM _,λe=>h' _<|dK _ e⟩
  .intro b m;exact V (bm m)<|⟨mE cP,a7⟩
theorem QT{S K:Nat}(hu:S<=a.heap.objs.size)(cJ:q.handled=aQ){g:al}{f:Str}{hC:Pos}(dK:∀b∈cb,b<a.heap.objs.size)(tX:∀b∈cb,b∈p)(c:cf a.heap p (.tup aH) g):xO prog j q (.Name f hC) S K [] [] p cb g aH a:=λC ah=>by
 refine ni c λh O t dv a7 aK av=>V dv ?_;have aI:a.heap.IsTuple h O:=⟨_,aK,U,t,U⟩;have cP:h<a.heap.objs.size:=dB aK;have cL:O.size=aH.length:=by simpa using av.length
 refine Y.of<|wpAny_pyIter_tuple aI ?_;have s:a9 [] [] a {a with heap:=a.heap.push {cls:=.type "tuple_iterator",data:=.fields #[.ref h,.int 0 0]}}:=bJ.push a _ a.toks;refine ah _ _ _ _ _ _ ⟨mp.of (Walks.tuple (prog:=prog) (w:=j) cJ a.heap.objs.size h (gD cP) O) (λw w w w y w=>y) (λu w k v C st a5=>Y.pure a5) cL.symm (λk f u R aM=>?_) (λb m=>mF (bm m).symm) s<|λk c b o st m i=>Zc (bm m▸st.1) i,?_,s,λb m=>.inl<|bm m▸hu,aW,aW,λb m=>?_⟩
 .refine br (av.at (k:=k) (u:=u) (by simpa using aM)) λjm h2 sC=>?_;replace h2:=R▸h2;cases h2;exact sC
 .exact⟨⟨_,fc _ U,U,U⟩,aI.at λo i=>eD _ i⟩
 .refine V (fZ ..) ?_
  revert b;refine g4 ?_ ?_
  .exact⟨lM _,λe=>h' _<|dK _ e⟩
  .intro b m;exact V (bm m)<|⟨mE cP,λe=>a7<|tX _ e⟩
noncomputable def h3(h z:Int)(t:Nat):List Int:=(c2 t).map λ(k:Nat)=>h+k*z
theorem QU{S K:Nat}(hu:S<=a.heap.objs.size)(cJ:q.handled=aQ){g:al}{f:Str}{hC:Pos}{h z:Int}{t:Nat}(dK:∀b∈cb,b<a.heap.objs.size)(c:AJ p h z t a g):xO prog j q (.Name f hC) S K [] [] p cb g ((h3 h z t).map .int) a:=λC ah=>by
 refine H' c λy b E aN u ek av ac L ay=>V ek<|Y.of<|GN ac L<|V ay<|ah _ _ _ _ _ _ ⟨mp.of (Dz (prog:=prog) (w:=j) cJ a.heap.objs.size h z t) (λw w w w y w=>y) (λu w k v C st a5=>Y.pure a5) (by simp[h3]) (λk f u R aM=>?_) (λb m=>mF (bm m).symm) (bJ.push a _ a.toks)<|λk c b o st m i=>by rw[bm m]at i;rw[show c.get? _=_ from st]at i;cases i;exact Ea ⟨by show kJ _≠_;decide,by show kJ _≠_;decide⟩,?_,bJ.push a _ a.toks,λb m=>.inl<|bm m▸hu,aW,aW,λb m=>?_⟩
 .refine c5 aM λE kt=>V kt ?_;have cP:k<t:=by simpa[h3]using(k'.mp R).1
  have:f=.int (h+k*z):=by rw[h3,fk,fk,mJ cP]at R;exact(d4 R).symm
  exact V this<|(⟨E,U⟩)
 .exact((show h+((0:Nat):Int)*z=h by simp).symm)▸((show((t:Int)-((0:Nat):Int))=t by simp).symm)▸fc _ U
 .exact V (fZ ..)<|V (bm m)<|⟨lM _,λe=>h' _<|dK _ e⟩
theorem mp.ofT{aB:List bB}{l:Nat}{hC:Pos}{ai:aq}{bF a0:List aq}{t:Nat}{QV:Nat->Array al->Prop}{St:Nat->eH->Prop}{Zd:Nat->aq->eH->Prop}(cZ:WalksT prog j q ai bF a0 t QV St Zd)(ay:bA.length=t)(aM:∀k f qq,bA[k]?=W f->QV k qq->∃b5,f=.tup b5/\bW an.heap p b5 qq.toList)(bS:∀b∈a0,an.heap.objs.size<=b)(aL:a9 [] [] an am)(aS:∀k c b o,St k c->b∈a0->c.get? b=W o->sA o):mp prog j q (.Tuple aB l hC) p bA am ai bF a0 [] (λk a=>St k a.heap):=⟨(cZ.sub),(λk a v p c6 st s co w=>cZ.frame k _ _ st λb m o i=>s.1 b o (λe=>co b e m) i),(λk f a C R st ah=>by refine j7<|Y.of<|cZ.item k a _ _ (ay▸(k'.mp R).1) st λaY qq aa x bM cK Ze bt aS G=>⟨_,U,?_⟩;have s:a9 a0 [] a {a with heap:=aa,toks:=x}:=bJ.heap (λb o m i=>aS b o m i) G.1;refine j7<|Y.of<|cZ.go aB l hC k aY _ _ _ bt λtY Zf QW ev=>?_;have bX:a9 a0 [] {a with heap:=aa,toks:=x} {a with heap:=tY,toks:=x}:=bJ.heap (x:=x) (λb o m i=>QW b o m i) ev.1;refine ah _ _ (λbu jN gM qs=>br (aM k f qq R bM) λb5 nt av=>V nt<|fx Ze λo aK az nu=>c5 nu λaA bl=>?_) Zf<|s.trans bX;exact⟨b5,aY,qq,U,U,⟨o,QW _ _ (cZ.apart k aY _ bt) aK,az,aA,bl⟩,QQ (v:={a with heap:=tY,toks:=x}) bS aL (λb m=>(gM b m).2) qs (s.trans bX) av⟩),(λa C st ah=>j7<|Y.of<|cZ.done a _ _ (ay▸st) λaa x aS G=>ah _<|bJ.heap (λb o m i=>aS b o m i) G.1),(λk a C st ah=>Y.of<|cZ.self k a _ _ st ah),(λk a b o st m i=>aS k _ b o st m i)⟩
end
noncomputable def pr(i1:Bool)(n:Env)(N:List aq):List Addr:=bif i1 then N++b4 n else b4 n
theorem pr.mem(M:cM g n p N aF S):∀b∈pr i1 n N,b∈p:=by intro b m;cases i1 with|false=>exact(M.4 b m).1|true=>exact bN m (λc=>(M.5 b c).1) λc=>(M.4 b c).1
def fp(g:dw)(z:Nat)(Q:c4)(A:b0)(i1:Bool)(b8 i:bB)(bA:List bh):Prop:=∀(q:bY)(n:Env)(p N aF:List aq)(S K:Nat),eK z q->n.scope=Q->cM g n p N aF S->cm g.prog g.w q [] [] n (λa=>bw g n p N S A a/\K<=a.gens.size) i (λa a4=>xO g.prog g.w q b8 S K [] [] p (pr i1 n N) a4 bA a)
theorem cm.weak(c:cm prog j q aU ak n H i ar)(l:∀a,cG a->H a):cm prog j q aU ak n cG i ar:=λa C r ah=>c a C (l a r) ah
def ka(g:dw)(z:Nat)(Q:c4)(A:b0)(i1:Bool)(i:bB)(aH:List bh):Prop:=∀(q:bY)(n:Env)(p N aF:List aq)(S:Nat),eK z q->n.scope=Q->cM g n p N aF S->cm g.prog g.w q [] [] n (bw g n p N S A) i (λa a4=>AO p (pr i1 n N) aH a a4)
theorem AO.iB:mQ [] [] (λa a4=>AO p cb aH a a4):=λa v a4 c s=>by refine ni c λh O t i ab aK av=>?_;have rC:∀b o,a.heap.get? b=W o->v.heap.get? b=W o:=λb o i=>s.1 b o (λc=>dt c) i;exact⟨h,O,t,i,ab,rC _ _ aK,bW.to (λb o m i=>⟨rC b o i,m⟩) _ _ av⟩
theorem ka.of(c:ae g z Q A i l<|.lst aH)(aS:l≠.ls:=by decide):ka g z Q A i1 i aH:=λq n p N aF S ax L M=>((c.gQ aS) q n p N aF S ax L M).to λa a4 aM=>by have ql:cf a.heap p (.lst aH) a4:=aM;exact ni ql λh O t i a7 aK av=>⟨h,O,t,i,λe=>a7<|pr.mem M h e,aK,av⟩
theorem ka.v5(aK:fI A f=W (.b<|.lst aH))(R:ht Q f=Z):ka g z Q A i1 (.Name f aj) aH:=λq n p N aF S ax L M a C r ah=>by refine gJ λw bI=>?_;subst L;obtain⟨af,ap,bk⟩:=xN R;obtain⟨cV,ar,dm,eY,lU⟩:=r.3;obtain⟨a4,h1,av⟩:=dm _ _<|oO aK;obtain⟨h,a7,sD,Ec⟩:=lU _ _<|oO aK;refine bI<|dV<|V (if_neg (by rw[bk];decide))<|D1 ar (D' af) h1 ap<|ah a4 a (bJ.refl ..)<|gJ λw bI=>?_;obtain⟨fg,i,O,t,aK,av⟩:=av;subst i;rw[h1]at a7;cases a7;refine bI<|⟨h,O,t,U,λe=>?_,aK,av⟩;cases i1 with|false=>exact Ec e|true=>exact bN e sD Ec
def QX(b8:bB)(aH:List bh):Prop:=(∃f hC,b8=.Name f hC)\/(∃aB l hC,b8=.Tuple aB l hC)/\∀f∈aH,∃b5,f=.tup b5
namespace fp
theorem list(c:ka g z Q A i1 i aH)(bC:QX b8 aH):fp g z Q A i1 b8 i aH:=λq n p N aF S K ax L M a C r ah=>let r:=r.1
 c q n p N aF S ax L M a C r λa4 v s aM=>ah a4 v s<|QS (r.grow s).1 ax.1 (λb m=>cw (M.8 b<|pr.mem M b m) (r.grow s).1) aM bC
theorem tup(c:ae g z Q A i .b2<|.tup aH):fp g z Q A i1 (.Name f di) i aH:=λq n p N aF S K ax L M a C r ah=>let r:=r.1
 c q n p N aF S ax L M a C r λa4 v s aM=>ah a4 v s<|QT (r.grow s).1 ax.1 (λb m=>cw (M.8 b<|pr.mem M b m) (r.grow s).1) (pr.mem M) aM
theorem v_(c:∀(q:bY)(n:Env)(p N aF:List aq)(S:Nat),eK z q->n.scope=Q->cM g n p N aF S->cm g.prog g.w q [] [] n (bw g n p N S A) i (AJ p h b t)):fp g z Q A i1 (.Name f di) i ((h3 h b t).map .int):=λq n p N aF S K ax L M a C r ah=>let r:=r.1
 c q n p N aF S ax L M a C r λa4 v s aM=>ah a4 v s<|QU (r.grow s).1 ax.1 (λb m=>cw (M.8 b<|pr.mem M b m) (r.grow s).1) aM
theorem v'{f:Str}{t:Nat}{e:Pos}(az:g.Ok)(c:dd g z Q A i t)(aK:g.gl "range"=W (.type "range"))(R:eA Q "range"=Z)(ay:d0 i=Z)(ab:t<2^62):fp g z Q A i1 (.Name f di) (.Call (.Name "range" e) [i] [] aj) ((h3 0 1 t).map .int):=v_ λq n p N aF S ax L M=>by subst L;exact Qz M.ok (hB az M aK R) ay (eT c ax U M) ab
theorem Xa(az:g.Ok)(bo:dd g z Q A D h)(bE:dd g z Q A y b)(aK:g.gl "range"=W (.type "range"))(R:eA Q "range"=Z)(ay:d0 D=Z/\d0 y=Z)(a7:-(2^62)<=h)(ku:h<2^62)(m:-(2^62)<=b)(dR:b<2^62):fp g z Q A i1 (.Name f di) (.Call (.Name "range" e) [D,y] [] aj) ((h3 h 1 (b-h).toNat).map .int):=v_ λq n p N aF S ax L M=>by subst L;refine kO M.ok (hB az M aK R) U (hN ay.1 M.ok (eT bo ax U M) (ie _)<|hN ay.2 M.ok (eT bE ax U M) (ie _) iY) ?_ (by simp[ay]);rintro a aR aZ⟨_,_,rfl,⟨E,rfl⟩,_,_,rfl,⟨aN,rfl⟩,rfl⟩C ah;refine Y.of<|call_range_2<|ah _ _ (bJ.new _ _ a _ _) ⟨_,b,_,_,_,U,λe=>h' _<|M.ok.2 _ aZ _ e,DD ..,CW a7 ku m dR,(V (rangeSize_one ..) ?_)⟩;split<;>lia
theorem Ga{f:Str}{e:Pos}{st:Int}{t:Nat}(az:g.Ok)(bo:dd g z Q A D h)(bE:dd g z Q A y b)(ml:dd g z Q A E st)(aK:g.gl "range"=W (.type "range"))(R:eA Q "range"=Z)(ay:d0 D=Z/\d0 y=Z/\d0 E=Z)(aO:st≠0)(L:xl h b st=Z)(aZ:xj (b-h) st=a1)(dW:rk h b st=t):fp g z Q A i1 (.Name f di) (.Call (.Name "range" e) [D,y,E] [] aj) ((h3 h st t).map .int):=v_ λq n p N aF S ax ea M=>by subst ea;refine kO M.ok (hB az M aK R) U (hN ay.1 M.ok (eT bo ax U M) (ie _)<|hN ay.2.1 M.ok (eT bE ax U M) (ie _)<|hN ay.2.2 M.ok (eT ml ax U M) (ie _) iY) ?_ (by simp[ay]);rintro a aR qt⟨_,_,rfl,⟨E,rfl⟩,_,_,rfl,⟨aN,rfl⟩,_,_,rfl,⟨u,rfl⟩,rfl⟩C ah;exact Y.of<|call_range_3 aO (ah _ _ (bJ.new _ _ a _ _) ⟨_,b,_,_,_,U,λe=>h' _<|M.ok.2 _ qt _ e,DD ..,L,dW⟩)<|.inl aZ
noncomputable def enumItems(aH:List bh):List bh:=aH.zipIdx.map λr=>.tup [.int r.2,r.1]
theorem enumerate(az:g.Ok)(c:ka g z Q A i1 i aH)(aK:g.gl "enumerate"=W (.type "enumerate"))(R:eA Q "enumerate"=Z)(ay:d0 i=Z):fp g z Q A i1 (.Tuple aB aA hC) (.Call (.Name "enumerate" e) [i] [] aj) (enumItems aH):=λq n p N aF S K ax L M=>by
 subst L;refine cm.weak (H:=bw g n p N S A) (kO M.ok (hB az M aK R) U (hN ay M.ok (c q n p N aF S ax U M) AO.iB iY) ?_ (by simp[ay]))<|λw r=>r.1;rintro a aR r Zg C ah;refine ei Zg λw w Zh Zi Zj=>V Zh<|ni Zi λh O t Zk a7 aK av=>V Zk<|V Zj ?_;have aI:a.heap.IsList h O:=⟨_,aK,U,t,U⟩;have cP:h<a.heap.objs.size:=dB aK;have cL:O.size=aH.length:=by simpa using av.length
 refine Y.of<|call_enumerate_list aI λaa bp gB Ed aS=>?_;have s:a9 [] [] a {a with heap:=aa}:=bJ.heap (x:=a.toks) (λb o w i=>aS b o i)<|Ed▸iw ..;refine ah _ _ s λC ah=>Y.of<|wpAny_pyIter_enum bp ?_;have bS:∀b∈[a.heap.objs.size+1,a.heap.objs.size],a.heap.objs.size<=b:=λb m=>by
  revert b;refine g4 ?_ ?_
  .exact kl _
  .intro b m;exact mF (bm m).symm
 refine ah _ _ _ _ _ _ ⟨mp.ofT (an:=a) (WalksT.enumerate ax.1 _ _ h (by show@Ne Nat _ _;exact cy (.ne (.o .x) .x) [] U) (gD<|mE cP) (gD cP) O) (by simp[enumItems,cL]) (λk f qq R bM=>?_) bS s<|λk c b o st m i=>?_,⟨⟨_,bp⟩,gB,aI.at λo i=>aS _ o i⟩,bJ.refl ..,λb m=>.inl<|bb r.1<|bS b m,aW,aW,λb m=>?_⟩
 .refine gc bM λE u aM Zl=>V Zl<|br (av.at (k:=k) (u:=u) (by simpa using aM)) λjm h2 sC=>?_;simp only[enumItems,fk,NY,h2,tz,ra,HH]at R;subst R;exact⟨_,U,(p1 _ ⟨_,U,p1 E U,p1 _ ⟨_,U,sC,U⟩⟩)⟩
 .refine eQ st λZm eY w=>c5 Zm λqn dm=>dH m (λe=>?_) λe=>?_
  .replace i:=e▸i;rw[show c.get? _=_ from dm]at i;cases i;exact Ea ⟨by show kJ _≠_;decide,by show kJ _≠_;decide⟩
  .exact QR (bm e▸eY) i
 .have dK:∀b∈pr i1 n N,b<a.heap.objs.size:=λb m=>cw (M.8 b<|pr.mem M b m) r.1;show b<aa.objs.size/\_;simp only[fR,oy,or_false]at m;rcases m with rfl|rfl|rfl
  .exact⟨by refine V Ed ?_;show@LT.lt Nat _ _ _;exact lM _,λe=>absurd (dK _ e) (by show¬@LT.lt Nat _ _ _;exact cy (.lF (.o .x) .x) [] U)⟩
  .exact⟨by refine V Ed ?_;show@LT.lt Nat _ _ _;exact kl _,λe=>absurd (dK _ e) (by show¬@LT.lt Nat _ _ _;exact cy (.lF .x .x) [] U)⟩
  .exact⟨cw cP<|Ed▸iw ..,a7⟩
end fp
noncomputable def lu(Q:c4)(f:Str):Bool:=Q.names.lookup f==W .local||Q.names.lookup f==W .cell
noncomputable def Jb(cV:Str->Option al)(f:Str)(a4:al):Str->Option Value:=λB=>if B=f then W a4 else cV B
noncomputable def sE(b:Bool)(n:Env):List Addr:=bif b then[n.locals]else b4 n
noncomputable def oP(b:Bool)(Q:c4)(f:Str):Bool:=bif b then Q.names.lookup f==W .local else lu Q f
theorem xP:∀G∈sE b n,G∈b4 n:=λG ab=>by cases b with|true=>exact(bm ab)▸bz|false=>exact ab
theorem Zn:n.locals∈sE b n:=by cases b with|true=>exact bz|false=>exact bz
theorem QY(ar:pl n a.heap cV)(ac:∀f B h b,n.cells.lookup f=W h->n.cells.lookup B=W b->f≠B->h≠b)(R:oP b n.scope f=Z)(c:∀v,a9 (sE b n) [] a v->pl n v.heap (Jb cV f a4)->C () v):Y prog j q (tv n f a4) C a:=by
 refine br ar.2 λaA ay bt=>?_;have AP:n.kindOf f=W .local\/(b=a1/\n.kindOf f=W .cell):=by cases b with|true=>exact .inl<|eq_of_beq R|false=>exact(vh R).imp id λe=>⟨U,e⟩
 clear R;rcases AP with R|⟨rfl,R⟩
 .
  refine(Y.of<|Nj R ay (λaa mj ea=>?_) (by refine V ar.1 ?_;rfl));have s:a9 [n.locals] [] a {a with heap:=aa,toks:=a.toks+1}:=bJ.same ea;refine c _ (s.mono (λb m=>bm m▸Zn) aW) ⟨ar.1,⟨_,mj,λB a8=>?_⟩,λB a8=>?_⟩
  .show(if B=f then W a4 else aA B)=if B=f then W a4 else cV B;split
   .rfl
   .exact bt B a8
  .refine br (ar.3 B a8) λh a7 az=>⟨h,a7,?_⟩;have j_:B≠f:=by rintro rfl;rw[R]at a8;rcases a8 with e|e<;>cases e
   have c9:h≠n.locals:=D4 ay az;show HQ _ h<|if B=f then W a4 else cV B;exact V (if_neg j_)<|br az λo i z=>⟨o,(ea.2 h c9).trans i,z⟩
 .refine br (ar.3 f<|.inl R) λh a7 ln=>(Y.of<|Nk ar.1 R a7 ln<|λaa jL ea=>?_);have s:a9 [h] [] a {a with heap:=aa}:=bJ.same (x:=a.toks) ea;have c9:h≠n.locals:=D4 ay ln;refine c _ (s.mono (λb m=>bm m▸sv a7) aW) ⟨ar.1,⟨aA,ay.at' λo i=>s.1 _ o (λe=>c9 (bm e).symm) i,λB a8=>?_⟩,λB a8=>?_⟩
  .have j_:B≠f:=by rintro rfl;rw[R]at a8;cases a8
   exact(bt B a8).trans (if_neg j_).symm
  .by_cases j_:B=f
   .subst j_;exact⟨h,a7,by show HQ _ h<|if B=B then W a4 else cV B;refine V (if_pos U) ?_;exact jL⟩
   .refine br (ar.3 B a8) λb m az=>⟨b,m,?_⟩;show HQ _ b<|if B=f then W a4 else cV B;exact V (if_neg j_)<|br az λo i z=>⟨o,(ea.2 b<|ac _ _ _ _ m a7 j_).trans i,z⟩
theorem lT.own{c aa:eH}{bx:Slot}{a4:al}{cb:List aq}(dK:∀G∈cb,G∈p)(aI:bx.loose->∀h,a4=.ref h->h∉cb)(l:∀b o,b∉cb->c.get? b=W o->aa.get? b=W o)(y:lT c p bx a4):lT aa p bx a4:=by have f9:∀b o,b∉p->c.get? b=W o->aa.get? b=W o/\b∉p:=λb o m i=>⟨l b o (λe=>m<|dK b e) i,m⟩;cases bx with|f aN=>exact cf.to f9 _ _ y|o aN=>exact br y λh i y=>⟨h,i,y.to f9 λo ck=>l h o (aI trivial h i) ck⟩|b aN=>exact br y λh i y=>⟨h,i,y.to f9 λo ck=>l h o (aI trivial h i) ck⟩
theorem bw.loose(r:bw g n p N S A a)(M:cM g n p N aF S):∃cV,pl n a.heap cV/\(∀f bx,fo A f bx->∃u,cV f=W u/\lT a.heap p bx u/\(bx.loose->∀h,u=.ref h->h∉b4 n))/\(∀f u,fo A f (.o u)->∃h∈N,cV f=W (.ref h)/\∀B aN,B≠f->fo A B (.o aN)->cV B≠W (.ref h))/\(∀f u,fo A f (.b u)->∃h,cV f=W (.ref h)/\h∉N/\h∉b4 n):=by refine jf r.3 λcV ar af ap bk=>(p8 cV ar (λf bx R=>br (af f bx R) λu aM av=>(ro u aM av λe4 h i=>?_)) ap bk);subst i;cases bx with|f ps=>exact e4.elim|o ps=>refine fx (ap f ps R) λfg ku i w=>?_;replace i:=aM▸i;cases i;exact λe=>(M.4 _ e).2.2.1 ku|b ps=>refine fx (bk f ps R) λfg i w c=>?_;replace i:=aM▸i;cases i;exact c
theorem i2(c:fo ((f,aN)::A) B bx):(B=f/\bx=aN)\/(B≠f/\fo A B bx):=by cases c with|here=>exact .inl ⟨U,U⟩|there i c=>exact .inr ⟨λe=>by subst e;simp at i,c⟩
theorem Zo{b:Bool}{C:Unit->ag->Prop}(M:cM g n p N aF S)(r:bw g n p N S A a)(av:cf a.heap p u a4)(R:oP b n.scope f=Z)(c:∀v,a9 (sE b n) [] a v->bw g n p N S ((f,.f u)::A) v->C () v):Y g.prog g.w q (tv n f a4) C a:=by
 refine jf (r.loose M) λcV ar af ap bk=>QY ar M.10 R λv s Ax=>c v s ⟨bb r.1 s.2,r.2.to s<|λG ab=>(M.4 G<|xP G ab).2.1,Jb cV f a4,Ax,?_,?_,?_⟩
 .intro B bx a8;rcases i2 a8 with⟨rfl,rfl⟩|⟨c9,a8⟩
  .exact⟨a4,if_pos U,lT.own (bx:=.f u) (cb:=sE b n) (λG ab=>(M.4 G<|xP G ab).1) (λe=>e.elim) (λb o m i=>s.1 b o m i) av⟩
  .exact fx (af B bx a8) λaN e4 y aI=>⟨aN,(if_neg c9).trans e4,y.own (cb:=sE b n) (λG ab=>(M.4 G<|xP G ab).1) (λe h i dg=>aI e h i<|xP _ dg) λb o m i=>s.1 b o m i⟩
 .intro B aN a8;rcases i2 a8 with⟨_,e⟩|⟨c9,a8⟩
  .exact nomatch e
  .refine fx (ap B aN a8) λh a7 i bl=>⟨h,a7,(if_neg c9).trans i,λG E ab bC=>?_⟩;rcases i2 bC with⟨_,e⟩|⟨AQ,bC⟩
   .exact nomatch e
   .show(if G=f then W a4 else cV G)≠_;exact V (if_neg AQ)<|bl G E ab bC
 .intro B aN a8;rcases i2 a8 with⟨_,e⟩|⟨c9,a8⟩
  .exact nomatch e
  .exact fx (bk B aN a8) λh i dm eY=>⟨h,(if_neg c9).trans i,dm,eY⟩
theorem sF(M:cM g n p N aF S)(r:bw g n p N S A a)(av:cf a.heap p u a4)(R:oP b n.scope f=Z)(c:∀v,a9 (sE b n) [] a v->bw g n p N S ((f,.f u)::A) v->C () v):Y g.prog g.w q (pa n f a4) C a:=Qs<|Zo M r av R c
theorem cM.more(M:cM g n p N aF S)(a7:S<=h)(hu:h<c0)(aO:g.s0.heap.objs.size<=S):cM g n (h::p) (h::N) aF c0:=⟨(M.1),(M.2),(M.3),(λb m=>⟨mt (M.4 b m).1,(M.4 b m).2.1,λe=>dH e (λe=>cd (M.8 b (M.4 b m).1)<|e▸a7) (M.4 b m).2.2.1,(M.4 b m).2.2.2⟩),(λb m=>by
  refine dH m (λi=>?_) λe=>?_
  .exact V i<|⟨bz,bb aO a7,λe=>cd (M.8 _<|M.6 _ e) a7⟩
  .exact⟨mt (M.5 b e).1,(M.5 b e).2⟩),(λb m=>mt<|M.6 b m),(M.7),(λb m=>dH m (λe=>e▸hu) λe=>zR (cw (M.8 b e) a7) hu),(λb m=>dH m (λe=>.inr<|e▸bb aO a7) λe=>M.9 b e),(M.10)⟩
theorem jM.some(y:jM c p h u):c.get? h≠aQ:=by
 cases u<;>try exact y.elim
 .exact gc y λO t i y=>V i<|λe=>DV e
 .exact V (show c.get? h=_ from y)<|λe=>DV e
theorem lT.off(l:∀b o,c.get? b=W o->aa.get? b=W o)(a7:∀h∈cZ,c.get? h=aQ)(y:lT c p bx a4):lT aa (cZ++p) bx a4/\(bx.loose->∀h∈cZ,a4≠.ref h):=by have f9:∀b o,b∉p->c.get? b=W o->aa.get? b=W o/\b∉cZ++p:=λb o m i=>⟨l b o i,by refine g2 mb<|g2 not_or ?_;exact⟨λe=>(by replace i:=(a7 b e)▸i;exact dI i),m⟩⟩;cases bx with|f aN=>exact⟨cf.to f9 _ _ y,λe=>False.elim e⟩|o aN=>exact br y λb i y=>⟨⟨b,i,y.to f9 λo ck=>l b o ck⟩,λw h qu e=>by replace e:=i▸e;cases e;exact absurd (a7 _ qu) y.some⟩|b aN=>exact br y λb i y=>⟨⟨b,i,y.to f9 λo ck=>l b o ck⟩,λw h qu e=>by replace e:=i▸e;cases e;exact absurd (a7 _ qu) y.some⟩
theorem Zp{C:Unit->ag->Prop}{tZ:ag}{cZ:List aq}(M:cM g n p N aF S)(r:bw g n p N S A tZ)(oQ:a9 [] [] tZ a){h:Nat}(qu:∀b∈h::cZ,tZ.heap.objs.size<=b)(av:jM a.heap (h::(cZ++p)) h u)(R:lu n.scope f=Z)(c:∀v,a9 (b4 n) [] a v->bw g n (h::(cZ++p)) (h::N) v.heap.objs.size ((f,.o u)::A) v->C () v):Y g.prog g.w q (pa n f<|.ref h) C a:=by
 refine jf (r.loose M) λcV ar af ap bk=>?_;have c9:∀b∈h::cZ,tZ.heap.get? b=aQ:=λb m=>gz<|qu b m;have hP:∀b o,tZ.heap.get? b=W o->a.heap.get? b=W o:=λb o i=>oQ.1 b o (λe=>dt e) i;have dP:∀b∈p,b≠h:=λb m e=>cd (cw (M.8 b m) r.1)<|e▸(qu h bz);have sy:h∉b4 n:=λe=>dP h (M.4 h e).1 U;have xQ:∀B bx,fo A B bx->∃u,cV B=W u/\lT a.heap (h::(cZ++p)) bx u/\(bx.loose->u≠.ref h/\∀b,u=.ref b->b∉b4 n):=λB bx a8=>let⟨u,i,y,aI⟩:=af B bx a8
  ⟨u,i,(y.off hP c9).1,λe=>⟨(y.off hP c9).2 e h bz,aI e⟩⟩;refine Qs<|QY (b:=a1) (ar.keeps λb w o i=>hP b o i) M.10 R λv s Ax=>c v s ⟨dA _,(r.2.to oQ<|λG ab=>dt ab).to s<|λG ab=>(M.4 G ab).2.1,Jb cV f<|.ref h,Ax,?_,?_,?_⟩
 .intro B bx a8;rcases i2 a8 with⟨rfl,rfl⟩|⟨c9,a8⟩
  .refine⟨_,if_pos U,lT.own (bx:=.o u) (cb:=b4 n) (λG ab=>mt<|bO (M.4 G ab).1) (λw b i=>by cases i;exact sy) (λb o m i=>s.1 b o m i) ⟨h,U,av⟩⟩
  .exact fx (xQ B bx a8) λaN e4 y aI=>⟨aN,(if_neg c9).trans e4,y.own (λG ab=>mt<|bO (M.4 G ab).1) (λe=>(aI e).2) λb o m i=>s.1 b o m i⟩
 .intro B aN a8;rcases i2 a8 with⟨j_,e⟩|⟨c9,kw⟩
  .cases e;refine⟨h,bz,if_pos j_,λG E ab bC=>?_⟩;rcases i2 bC with⟨e,_⟩|⟨AQ,rD⟩
   .exact absurd (e.trans j_.symm) ab
   .show(if G=f then _ else cV G)≠_;refine V (if_neg AQ) ?_;intro i;refine fx (xQ G _ rD) λj bS y aI=>?_;rw[i]at bS;cases bS;exact(aI trivial).1 U
  .refine fx (ap B aN kw) λb m i bl=>⟨b,mt m,(if_neg c9).trans i,λG E ab bC=>?_⟩;rcases i2 bC with⟨Zq,e⟩|⟨AQ,rD⟩
   .show(if G=f then _ else _)≠_;refine V (if_pos Zq) ?_;intro e;cases e;refine fx (xQ B _ kw) λj bS y aI=>?_;rw[i]at bS;cases bS;exact(aI trivial).1 U
   .show(if G=f then _ else cV G)≠_;exact V (if_neg AQ)<|bl G E ab rD
 .intro B aN a8;rcases i2 a8 with⟨_,e⟩|⟨c9,kw⟩
  .cases e
  .refine fx (bk B aN kw) λb i dm eY=>⟨b,(if_neg c9).trans i,λe=>dH e (λe=>?_) λe=>?_,eY⟩
   .refine fx (xQ B _ kw) λj bS y aI=>?_;rw[i]at bS;cases bS;exact(aI trivial).1<|V e U
   .exact dm e
theorem Zr(M:cM g n p N aF S)(r:bw g n p N S A tZ)(oQ:a9 [] [] tZ a)(a7:tZ.heap.objs.size<=h)(av:jM a.heap (h::p) h u)(R:lu n.scope f=Z)(c:∀v,a9 (b4 n) [] a v->bw g n (h::p) (h::N) v.heap.objs.size ((f,.o u)::A) v->C () v):Y g.prog g.w q (pa n f<|.ref h) C a:=Zp (cZ:=[]) M r oQ (λb m=>bm m▸a7) av R c
noncomputable def hb(n:Env):List (Str×se)->List (Str×aq)->List (Str×aq)|[],b6=>b6|(t,l)::y,b6=>if l==.free then(match n.cells.lookup t with|some h=>hb n y ((t,h)::b6)|none=>hb n y b6)else hb n y b6
theorem QZ:∀(eb:List<|Str×se)(b6:List<|Str×aq),(∀r∈eb,r.2=.free->∃h,n.cells.lookup r.1=W h)->(forIn eb b6 λf y=>match f with|(name,QE)=>if(QE==.free)=Z then do let B<-cellOf n name;dz (rj<|(name,B)::y)else dz (rj y):Sem<|List<|Str×aq)=dz (hb n eb b6)
 |[],b6,_=>by refine V z2 ?_;rfl|(t,l)::y,b6,c=>by
  have a2:=λb6=>QZ y b6 λr aZ=>c r<|mt aZ;refine V (tA ..) ?_;unfold hb;by_cases aS:(l==.free)=Z
  .refine c5 (c (t,l) bz<|eq_of_beq aS) λh a7=>?_
   dsimp only at a7⊢;refine(if_pos aS).symm▸(if_pos aS).symm▸a7.symm▸?_;unfold cellOf;exact a7.symm▸a2 _
  .dsimp only;exact(if_neg aS).symm▸(if_neg aS).symm▸a2 _
theorem Jc(c:∀r∈a6.names,r.2=.free->∃h,n.cells.lookup r.1=W h):uF a6 n=dz (hb n a6.names []):=by have:=QZ a6.names [] c;exact congrArg (λE=>E>>=λD=>(dz D:Sem<|List<|Str×aq)) this
set_option tactic.hygienic true in theorem t0:∀(eb:List<|Str×se)(b6:List<|Str×aq),(∀r∈b6,n.cells.lookup r.1=W r.2)->∀r∈hb n eb b6,n.cells.lookup r.1=W r.2
 |[],b6,c=>c|(t,l)::y,b6,c=>by
  unfold hb;split
  .split
   .rename_i h a7;exact t0 y _ λr aZ=>dH aZ (λe=>e▸a7)<|c r
   .exact t0 y _ c
  .exact t0 y _ c
set_option tactic.hygienic true in theorem xR(a8:n.cells.lookup B=W h):∀(eb:List<|Str×se)(b6:List<|Str×aq),(∀r∈b6,n.cells.lookup r.1=W r.2)->(b6.lookup B=W h\/(B,.free)∈eb)->(hb n eb b6).lookup B=W h
 |[],b6,bL,c=>c.elim id λe=>dt e|(t,l)::y,b6,a7,c=>by
  unfold hb;split
  .rename_i aS;split
   .rename_i b m;refine xR a8 y _ (λr aZ=>dH aZ (λe=>e▸m)<|a7 r) ?_;by_cases i:B=t
    .subst i;replace m:=a8▸m;cases m;exact .inl (by simp)
    .rcases c with c|c
     .exact .inl<|V sf<|V (beq_false_of_ne i) c
     .refine dH c (λe=>?_) λe=>?_
      .cases e;exact absurd U i
      .exact .inr e
   .rename_i m;refine xR a8 y _ a7 ?_;rcases c with c|c
    .exact .inl c
    .refine dH c (λe=>?_) λe=>?_
     .cases e;rw[a8]at m;exact DV m
     .exact .inr e
  .rename_i aS;refine xR a8 y _ a7 ?_;rcases c with c|c
   .exact .inl c
   .refine dH c (λe=>?_) λe=>?_
    .cases e;exact absurd U aS
    .exact .inr e
noncomputable def eO(a6 Q:c4):Scope:={a6 with names:=a6.names.map λ(t,l)=>if(l==.free&&Q.kind==.function&&Q.names.lookup t==W .cell)then(t,.cell)else(t,l)}
noncomputable def Slot.MW:Slot->Slot|.f u=>.f u|.o u=>.b u|.b u=>.b u
noncomputable def rE(Q:c4)(f:Str):Bool:=Q.names.lookup f==W .cell||Q.names.lookup f==W .free
noncomputable def hQ(Q:c4):b0->b0|[]=>[]|(f,bx)::A=>bif rE Q f then(f,bx.MW)::hQ Q A else hQ Q A
theorem vl:∀{A:b0}{f:Str}{bx:Slot},fo (hQ Q A) f bx->rE Q f=Z/\∃lV,fo A f lV/\bx=lV.MW
 |[],_,_,c=>nomatch c|(B,aN)::A,f,bx,c=>by unfold hQ at c;cases i:rE Q B with
  |true=>
   rw[i,cond_true]at c;rcases i2 c with⟨rfl,rfl⟩|⟨c9,c⟩
   .exact⟨i,(dj aN .here U)⟩
   .exact cY (vl c) λaf cB=>br cB λlV ap bk=>⟨af,(dj lV (.there (beq_false_of_ne<|iA c9) ap) bk)⟩|false=>rw[i,cond_false]at c;refine cY (vl c) λaf dv=>br dv λlV ap bk=>⟨af,(dj lV (.there ?_ ap) bk)⟩;exact beq_false_of_ne λe=>by subst e;rw[i]at af;exact iV af
noncomputable def oR(a6 Q:c4):Bool:=a6.kind==.function&&a6.names.all (λr=>r.2 !=.cell)&&a6.names.all (λr=>r.2 !=.free||rE Q r.1)&&a6.names.all (λr=>r.2 !=.local||a6.names.lookup r.1==W .local)
theorem Jd(c:oR a6 Q=Z):a6.kind=.function/\(∀B∈a6.names,B.2≠.cell)/\(∀r∈a6.names,r.2=.free->rE Q r.1=Z)/\(∀B∈a6.names,B.2=.local->a6.names.lookup B.1=W .local):=by unfold oR at c;simp only[h_,beq_iff_eq,hn,bne_iff_ne,CM]at c;exact cY c λbP cx=>cY bP λe9 bk=>cY e9 λaf ap=>⟨af,ap,λr aZ e=>(bk r aZ).elim (λG=>absurd e G) id,λr aZ e=>(cx r aZ).elim (λG=>absurd e G) id⟩
theorem Q0:∀{D:List<|Str×se},D.lookup f=W l->(f,l)∈D|[],c=>dI c|(B,fB)::y,c=>by rw[sf]at c;cases i:f==B with|true=>replace c:=i▸c;cases c;exact V (eq_of_beq i) bz|false=>replace c:=i▸c;exact mt<|Q0 c
set_option tactic.hygienic true in theorem Zs(aS:∀r∈a6.names,r.2≠.cell)(c:rE (eO a6 Q) B=Z):(B,.free)∈a6.names:=by
 have:∃l,(eO a6 Q).names.lookup B=W l/\(l=.cell\/l=.free):=(vh c).elim (λe=>dj _ e<|.inl U) λe=>dj _ e<|.inr U;refine br this λl af ap=>mg (Q0 af) λe_ aZ i=>?_;obtain⟨t,fB⟩:=e_
 dsimp only at i;split at i
 .rename_i e;cases i;simp only[h_,beq_iff_eq]at e;exact b' e.1.1 aZ
 .cases i;rcases ap with rfl|rfl
  .exact absurd U<|aS _ aZ
  .exact aZ
theorem Q1(az:g.Ok)(M:cM g n p N aF S)(aS:oR a6 n.scope=Z)(fW:S<=aX)(Zt:aX∈bu)(gM:∀b∈p,b∈bu)(hu:∀b∈bu,b<c0)(aO:g.s0.heap.objs.size<=S)(Zu:∀b∈bu,b∈p\/S<=b)(kb:∀b∈cW,(S<=b\/(b∈p/\g.s0.heap.objs.size<=b/\b∉b4 n))/\b∈bu/\aX≠b):cM g (q6 a6 (hb n a6.names []) aX n) bu cW g.tabs c0:=by
 refine lg (Jd aS) λiF jn hc rF=>?_;have pn:∀r∈hb n a6.names [],r.2∈b4 n:=λr aZ=>sv<|t0 a6.names [] aW r aZ;refine⟨iF,M.2,M.3,λh a7=>?_,λh a7=>have aI:g.s0.heap.objs.size<=h:=(kb h a7).1.elim (λe=>bb aO e) λe=>e.2.1
  ⟨(kb h a7).2.1,aI,λe=>cd (az.6 _ e) aI⟩,λh a7=>gM h<|M.6 h<|M.7 h a7,λh a7=>a7,hu,λh a7=>?_,λf B h b a7 m c9=>?_⟩
 .rcases fR.mp a7 with rfl|a7
  .exact⟨Zt,bb aO fW,(λe=>(kb _ e).2.2 U),λe=>cd (az.6 _ e)<|bb aO fW⟩
  .refine mg a7 λr aZ gX=>b' gX ?_;have:=M.4 _<|pn r aZ;exact⟨gM _ this.1,this.2.1,(λe=>(kb _ e).1.elim (λG=>cd (M.8 _ this.1) G) λG=>G.2.2<|pn r aZ),λe=>cd (az.6 _ e) this.2.1⟩
 .rcases Zu h a7 with e|e
  .exact M.9 h e
  .exact .inr<|bb aO e
 .refine br (by have:(hb n a6.names []).lookup f=W h:=a7;clear m;generalize hb n a6.names []=D at this;induction D with|nil=>exact dI this|cons e D a2=>obtain⟨G,j⟩:=e;rw[sf]at this;cases i:f==G with|true=>replace this:=i▸this;cases this;exact⟨_,bz,V (eq_of_beq i) U⟩|false=>replace this:=i▸this;refine br (a2 this) λr af ap=>?_;exact⟨r,mt af,ap⟩:∃r∈hb n a6.names [],r=(f,h)) λr aZ i=>?_;refine br (by have:(hb n a6.names []).lookup B=W b:=m;clear a7 aZ;generalize hb n a6.names []=D at this;induction D with|nil=>exact dI this|cons e D a2=>obtain⟨G,j⟩:=e;rw[sf]at this;cases i:B==G with|true=>replace this:=i▸this;cases this;exact⟨_,bz,V (eq_of_beq i) U⟩|false=>replace this:=i▸this;refine br (a2 this) λr af ap=>?_;exact⟨r,mt af,ap⟩:∃r∈hb n a6.names [],r=(B,b)) λbn qt ck=>?_;subst i ck;exact M.10 f B h b (t0 a6.names [] aW _ aZ) (t0 a6.names [] aW _ qt) c9
theorem Q2(M:cM g n p N aF S)(r:bw g n p N S A an)(aS:oR a6 n.scope=Z)(s:a9 [] [] an a)(fW:an.heap.objs.size<=aX)(ay:a.heap.Ns aX aA)(hu:c0<=a.heap.objs.size)(gM:∀b∈bu,b∈p\/an.heap.get? b=aQ)(kb:∀b∈cW,an.heap.objs.size<=b\/∀o,an.heap.get? b=W o->sA o):bw g (q6 a6 (hb n a6.names []) aX n) bu cW c0 (hQ (eO a6 n.scope) A) a:=by
 refine lg (Jd aS) λiF jn hc rF=>jf (r.loose M) λcV ar af ap bk=>?_;have hP:∀b o,an.heap.get? b=W o->a.heap.get? b=W o:=λb o i=>s.1 b o (λe=>dt e) i;have pn:∀r∈hb n a6.names [],r.2∈b4 n:=λr aZ=>sv<|t0 a6.names [] aW r aZ;refine⟨hu,r.2.to s aW,λB=>if(eO a6 n.scope).names.lookup B=W .local then aA B else cV B,⟨iF,⟨aA,ay,λB a8=>(if_pos a8).symm⟩,λB a8=>?_⟩,λB bx a8=>?_,λB aN a8=>?_,λB aN a8=>?_⟩
 .have kw:rE (eO a6 n.scope) B=Z:=by unfold rE;exact g_ (a8) (λa8=>(show(eO a6 n.scope).names.lookup B=W .cell from a8).symm▸U) λa8=>(show(eO a6 n.scope).names.lookup B=W .free from a8).symm▸U
  have bg:=Zs jn kw;have mU:=hc _ bg U;have:n.kindOf B=W .cell\/n.kindOf B=W .free:=vh mU;refine br (ar.3 B this) λh a7 gF=>br gF λo i bH=>⟨h,xR a7 a6.names [] aW<|.inr bg,o,hP _ _ i,?_⟩;rw[if_neg]
  .exact bH
  .intro e;rcases a8 with a8|a8<;>(have kw:(eO a6 n.scope).names.lookup B=_:=a8;rw[e]at kw;exact nomatch kw)
 .refine cY (vl a8) λmU hq=>br hq λlV kw iZ=>V iZ<|fx (af B lV kw) λu aM av aI=>⟨u,?_,?_⟩
  .refine(if_neg ?_).trans aM;intro e;unfold rE at mU;replace mU:=e▸mU;exact iV mU
  .have f9:∀b o,b∉p->an.heap.get? b=W o->a.heap.get? b=W o/\b∉bu:=λb o m i=>⟨hP b o i,λe=>(gM b e).elim m λG=>by replace i:=G▸i;exact dI i⟩;cases lV with
   |f aN=>exact cf.to f9 _ _ av|o aN=>refine br av λh i y=>?_;exact⟨h,i,y.to f9 λo i=>hP _ o i⟩|b aN=>refine br av λh i y=>?_;exact⟨h,i,y.to f9 λo i=>hP _ o i⟩
 .refine cY (vl a8) λw jK=>br jK λlV w i=>?_;cases lV<;>exact nomatch i
 .refine cY (vl a8) λmU kt=>br kt λlV kw i=>fx (af B lV kw) λu aM av aI=>?_;have Zv:¬(eO a6 n.scope).names.lookup B=W .local:=by intro e;unfold rE at mU;replace mU:=e▸mU;exact iV mU
  have cF:∀h ps,u=.ref h->lV.loose->jM an.heap p h ps->∃h,(λB=>if(eO a6 n.scope).names.lookup B=W .local then aA B else cV B) B=W (.ref h)/\h∉cW/\h∉b4 (q6 a6 (hb n a6.names []) aX n):=by
   intro h ps a7 ea aP;have c9:=aP.some;refine⟨h,(if_neg Zv).trans<|a7▸aM,λe=>?_,λe=>?_⟩
   .refine g_ (kb _ e) (λG=>?_) λG=>?_
    .exact c9<|gz G
    .cases ps<;>try exact aP.elim
     .exact gc aP λO t i w=>(G _ i).1 _ _ U
     .exact(G _ aP).2 _ U
   refine dH e (λe=>?_) λe=>?_
   .exact c9<|e▸gz fW
   .refine mg e λr aZ nt=>?_;obtain rfl:=nt;exact aI ea _ a7<|pn r aZ
  cases lV with
  |f aN=>exact nomatch i|o ps=>refine br av λh i y=>?_;exact cF h _ i trivial y|b ps=>refine br av λh i y=>?_;exact cF h _ i trivial y
theorem Zw:¬fo (hQ Q A) f (.o u):=λc=>by refine cY (vl c) λw ek=>br ek λlV w i=>?_;cases lV<;>cases i
def he:b0->b0->Prop|[],bL=>True|(f,bx)::y,A=>fI A f=W bx/\he y A
theorem hD:∀{bU A:b0},bU.map (λr=>fI A r.1)=bU.map (λr=>W r.2)->he bU A|[],bL,dQ=>trivial|bL::dQ,lp,c=>⟨(xm c).1,hD (xm c).2⟩
theorem he.has:∀{bU A:b0}{f:Str}{bx:Slot},he bU A->fo bU f bx->fo A f bx
 |[],_,_,_,_,c=>nomatch c|(B,aN)::y,A,f,bx,aI,c=>by
  rcases i2 c with⟨rfl,rfl⟩|⟨_,c⟩
  .exact oO aI.1
  .exact he.has aI.2 c
theorem bw.le(r:bw g n p N S A a)(c:∀f bx,fo bU f bx->fo A f bx):bw g n p N S bU a:=by exact jf r.3 λcV ar af ap bk=>⟨r.1,r.2,cV,ar,λf bx R=>af f bx<|c f bx R,λf u R=>fx (ap f u<|c _ _ R) λh a7 i bl=>⟨h,a7,i,λB aN a8 bC=>bl B aN a8<|c _ _ bC⟩,λf u R=>bk f u<|c _ _ R⟩
noncomputable def Q3:bB->Option Str|.Name f bL=>W f|_=>aQ
theorem Zx{i:bB}{f:Str}{ak:Prop}(c:Q3 i=W f)(l:∀r,i=.Name f r->ak):ak:=by cases i<;>first|exact dI c|exact l _ (congrArg (Expr.Name · _)<|lk c)
noncomputable def qv:List bB->Option (List Str)|[]=>W []|i::aB=>(Q3 i).bind λf=>(qv aB).map (f::·)
theorem Je:∀{aB:List bB}{aH:List Str},qv aB=W aH->xJ aB aH|[],aH,c=>by cases c;exact .nil|i::aB,aH,c=>by exact br (G2.mp c) λf R c=>Zx R λr e=>br (zI.mp c) λb5 a8 bP=>e▸bP▸.cons (Je a8)
noncomputable def qw:List Str->List bh->b0->b0|f::aH,u::O,A=>qw aH O<|(f,.f u)::A|bL,dQ,A=>A
noncomputable def lv(b8:bB)(u:bh)(A:b0):b0:=match b8,u with|.Name f bL,u=>(f,.f u)::A|.Tuple aB bL dQ,.tup O=>qw ((qv aB).getD []) O A|bL,dQ=>A
def mV(b:Bool)(Q:c4)(b8:bB)(u:bh):Prop:=match b8,u with|.Name f _,_=>oP b Q f=Z|.Tuple aB _ _,.tup O=>∃aH,qv aB=W aH/\O.length=aH.length/\aH.all (oP b Q)=Z|_,_=>False
set_option tactic.hygienic true in theorem Jf{H:b0->Prop}{b8:bB}{u:bh}{A:b0}(af:∀f r,b8=.Name f r->H ((f,.f u)::A))(ap:∀aB l r O,b8=.Tuple aB l r->H (qw ((qv aB).getD []) O A))(bk:H A):H (lv b8 u A):=by
 cases b8
 case Name f r=>exact af f r U
 case Tuple aB l r=>
  cases u
  case tup O=>exact ap aB l r O U
  all_goals exact bk
 all_goals exact bk
set_option tactic.hygienic true in theorem Zy{b:Bool}{Q:c4}{b8:bB}{u:bh}(c:mV b Q b8 u){ak:Prop}(af:∀f r,b8=.Name f r->oP b Q f=Z->ak)(ap:∀aB l r O aH,b8=.Tuple aB l r->u=.tup O->qv aB=W aH->O.length=aH.length->aH.all (oP b Q)=Z->ak):ak:=by
 cases b8
 case Name f r=>exact af f r U c
 case Tuple aB l r=>
  cases u
  case tup O=>exact c.elim λaH e=>ap aB l r O aH U U e.1 e.2.1 e.2.2
  all_goals exact c.elim
 all_goals exact c.elim
theorem Zz(M:cM g n p N aF S):∀{aB:List bB}{aH:List Str}{O:List bh}{aR:List al}{A:b0}{a:ag},xJ aB aH->(∀f∈aH,oP b n.scope f=Z)->bw g n p N S A a->bW a.heap p O aR->O.length=aH.length->(∀v,a9 (sE b n) [] a v->bw g n p N S (qw aH O A) v->C () v)->Y g.prog g.w q (zz ((uG aB n).map (·.2)) aR) C a:=by intro aB aH O aR A a ay aP r av aI c;induction ay generalizing O aR A a with
 |nil=>cases O with|nil=>exact Y.eq (show zz ((uG [] n).map (·.2)) _=dz ()from(show _=[]from av)▸U)<|Y.pure<|c a (bJ.refl ..) r|cons _ _=>cases aI
 |@cons f aj aB aH ay a2=>cases O with
  |nil=>cases aI|cons u O=>
    refine ei av λg aR e9 et fn=>V e9 ?_
    .show Y _ _ q (holding aR (assign (.Name f aj) n g)>>=λw=>zz ((uG aB n).map (·.2)) aR) C a;refine Y.bind<|Y.holding<|Y.eq (GO ..)<|Y.bind<|Y.of<|pS<|sF M r et (aP f bz) λan aL c_=>a2 (λB a8=>aP B<|mt a8) c_ (bW.to (λb o m i=>⟨aL.1 b o (λe=>m (M.4 b<|xP _ e).1) i,m⟩) _ _ fn) (by simpa using aI) λam a_ dS=>c am (aL.trans a_) dS
theorem AR{b:Bool}{b8:bB}{C:Unit->ag->Prop}(cJ:q.handled=aQ)(M:cM g n p N aF S)(r:bw g n p N S A a)(av:tW b8 a.heap p u a4)(bC:mV b n.scope b8 u)(c:∀v,a9 (sE b n) [] a v->bw g n p N S (lv b8 u A) v->C () v):Y g.prog g.w q (assign b8 n a4) C a:=by
 refine Zy bC (λf hC bG bC=>?_) λaB l vm O aH bG cr ay aI aP=>?_
 .subst bG;exact Y.eq (GO ..)<|Y.bind<|Y.of<|pS<|sF M r av bC c
 .subst bG cr;refine ni av λb5 aY qq i dv cK av=>V dv ?_;cases i;refine Y.bind<|Y.of<|pS ?_;unfold unpack;refine cY (YT (n:=n)<|Je ay) λbG cr=>V bG<|cr.symm▸?_;have cL:qq.size=aH.length:=by have:=av.length;simp at this;exact nW [1,-1,-1] [1,1,1] (.e .x .y) [.e .z .y,.e .x .z] U aI this
  refine b' cL<|Y.bind<|Y.holding<|j7<|Y.of<|Nn cJ cK λaa bp G=>?_;have s:bJ [] a {a with heap:=aa}:=bJ.heap (x:=a.toks) (λb o w i=>bp b o (gD<|dB i) i) G.1;refine Zz M (Je ay) (hn.mp aP) (r.grow s) (bW.to (λb o m i=>⟨s.1 b o (λc=>dt c) i,m⟩) _ _ av) aI λv bX bn=>c v ((s.mono (λw c=>dt c) λw c=>c).trans bX) ?_;show bw g n p N S (qw ((qv aB).getD []) O A) v;exact V ay bn
def AccAt(c:eH)(p:List aq)(aC:aq)(b5:List bh):Prop:=∃O,c.PlainList aC O/\bW c p b5 O.toList
theorem AccAt.to{c aa:eH}{aC:aq}{b5:List bh}{cb:List aq}(l:∀b o,b∉cb->c.get? b=W o->aa.get? b=W o)(dK:∀G∈cb,G∈p)(de:aC∉cb)(y:AccAt c p aC b5):AccAt aa p aC b5:=br y λO r y=>⟨O,r.at λo i=>l _ o de i,bW.to (λb o m i=>⟨l b o (λe=>m<|dK b e) i,m⟩) _ _ y⟩
def jo(g:dw)(z:Nat)(Q:c4)(dJ:List kI)(dk:bB)(a6:c4)(aj:Pos)(aD:Nat)(hs:List bB)(A:b0)(lw:List bh):Prop:=∀(q:bY)(n:Env)(p N aF:List aq)(S:Nat)(aC:aq),eK z q->n.scope=Q->cM g n p N aF S->aC∈N->(∀f u,¬fo A f (.o u))->∀(b5:List bh)(a:ag),b5.length+lw.length<=cI->bw g n p N S A a->AccAt a.heap p aC b5->∀C:Unit->ag->Prop,(∀v,a9 [aC,n.locals] [] a v->bw g n p N S A v->AccAt v.heap p aC (b5++lw)->C () v)->Y g.prog g.w q (pp dk dJ a6 aj aD (.ref aC) n hs) C a
def vn(g:dw)(z:Nat)(Q:c4)(A:b0)(hs:List bB)(b:Bool):Prop:=match hs with|[]=>b=Z|[E]=>gA g z Q A E b|_=>False
theorem vn.tU(c:vn g z Q A hs b)(ax:eK z q)(L:n.scope=Q)(M:cM g n p N aF S)(r:bw g n p N S A a)(ah:∀v,a9 [] [] a v->C b v):Y g.prog g.w q (AH hs n) C a:=by
 unfold vn at c;split at c
 .replace ah:=c▸ah;exact Y.pure<|ah a<|bJ.refl ..
 .exact c q n p N aF S ax L M a C r ah
 .exact c.elim
theorem bw.Gg(r:bw g n p N S A a)(M:cM g n p N aF S)(dK:∀G∈cb,G∈N)(s:a9 cb ak a v)(lr:∀k∈ak,g.s0.gens.size<=k)(nv:∀f u,¬fo A f (.o u)):bw g n p N S A v:=by refine jf r.3 λcV ar af ap bk=>⟨bb r.1 s.2,r.2.toG s (λG ab=>(M.5 G<|dK G ab).2.1) lr,cV,ar.keeps λb m o i=>s.1 b o (λe=>(M.4 b m).2.2.1<|dK b e) i,λf bx R=>br (af f bx R) λu aM y=>⟨u,aM,y.own (cb:=cb) (λG ab=>(M.5 G<|dK G ab).1) (λe h i dg=>?_) λb o m i=>s.1 b o m i⟩,ap,bk⟩;subst i;cases bx with|f aN=>exact e.elim|o aN=>exact nv _ _ R|b aN=>refine fx (bk f aN R) λfg i c w=>?_;rw[aM]at i;cases i;exact c<|dK _ dg
theorem bw.Xx(r:bw g n p N S A a)(M:cM g n p N aF S)(dK:∀G∈cb,G∈N)(s:a9 cb [] a v)(nv:∀f u,¬fo A f (.o u)):bw g n p N S A v:=r.Gg M dK s aW nv
theorem AccAt.grow(l:∀b o,c.get? b=W o->aa.get? b=W o)(y:AccAt c p aC b5):AccAt aa p aC b5:=y.to (cb:=[]) (λb o w i=>l b o i) aW<|λe=>nomatch e
theorem a9.all(s:a9 [] [] a v):∀b o,a.heap.get? b=W o->v.heap.get? b=W o:=λb o i=>s.1 b o (λe=>nomatch e) i
theorem jo.one(aK:dJ[aD+1]?=aQ)(ac:vn g z Q A hs Z)(c:ae g z Q A dk l u)(aS:l≠.ls:=by decide):jo g z Q dJ dk a6 aj aD hs A [u]:=by
 intro q n p N aF S aC ax L M de nv b5 a ab r b6 C ah;refine Y.bind<|ac.tU ax L M r λan aL=>tN U<|V aK<|Y.bind<|(c.gQ aS) q n p N aF S ax L M an _ (r.grow aL) λB am a_ a8=>br ((b6.grow aL.all).grow a_.all) λO aZ av=>?_;have cL:O.size=b5.length:=by simpa using av.length
 refine du<|Nm aZ (λaa nr ea=>Y.pure ?_)<|cL▸bb (iw _ _) ab;have Jg:a9 [aC] [] am {am with heap:=aa}:=bJ.same (x:=am.toks) ea;refine ah _ ((aL.trans a_).mono aW (λw c=>c)|>.trans (Jg.mono (λb m=>bm m▸bz) λw c=>c)) (((r.grow aL).grow a_).Xx M (cb:=[aC]) (λG ab=>bm ab▸de) Jg nv) ⟨_,nr,(V Dt ?_)⟩;have f9:∀b o,b∉p->am.heap.get? b=W o->aa.get? b=W o/\b∉p:=λb o m i=>⟨Jg.1 b o (λe=>m<|bm e▸((M.5 aC de).1)) i,m⟩;refine bW.append ?_<|bW.to f9 _ _ av;exact⟨B,[],U,cf.to f9 _ _ a8,by exact U⟩
theorem jo.skip(ac:vn g z Q A hs a1):jo g z Q dJ dk a6 aj aD hs A []:=by intro q n p N aF S aC ax L M de nv b5 a ab r b6 C ah;exact Y.bind<|ac.tU ax L M r λan aL=>gK bd<|Y.pure<|ah an (aL.mono aW λw c=>c) (r.grow aL) (by refine V (uN ..) ?_;exact b6.grow aL.all)
theorem cM.wide(M:cM g n p N aF S)(bS:∀b∈a0,S<=b/\b<c0)(aO:g.s0.heap.objs.size<=S)(hu:S<=c0):cM g n (a0++p) (a0++N) aF c0:=⟨(M.1),(M.2),(M.3),(λb m=>⟨bO (M.4 b m).1,(M.4 b m).2.1,λe=>bN e (λe=>cd (M.8 b (M.4 b m).1) (bS b e).1) (M.4 b m).2.2.1,(M.4 b m).2.2.2⟩),(λb m=>bN m (λe=>⟨b3 e,bb aO (bS b e).1,λdg=>cd (M.8 _<|M.6 _ dg) (bS b e).1⟩) λe=>⟨bO (M.5 b e).1,(M.5 b e).2⟩),(λb m=>bO<|M.6 b m),(M.7),(λb m=>bN m (λe=>(bS b e).2) λe=>cw (M.8 b e) hu),(λb m=>bN m (λe=>.inr<|bb aO (bS b e).1) λe=>M.9 b e),(M.10)⟩
theorem bw.wide(r:bw g n p N S A a)(s:a9 [] [] a v)(bS:∀b∈a0,a.heap.objs.size<=b):bw g n (a0++p) (a0++N) v.heap.objs.size A v:=by
 refine jf r.3 λcV ar af ap bk=>?_;have hP:=s.all;refine⟨dA _,r.2.to s aW,cV,ar.keeps λb w o i=>hP b o i,λf bx R=>?_,λf u R=>?_,λf u R=>?_⟩
 .refine br (af f bx R) λu aM y=>⟨u,aM,?_⟩;have f9:∀b o,b∉p->a.heap.get? b=W o->v.heap.get? b=W o/\b∉a0++p:=λb o m i=>⟨hP b o i,by refine g2 mb<|g2 not_or ?_;exact⟨λe=>cd (dB i)<|bS b e,m⟩⟩;cases bx with
  |f aN=>exact cf.to f9 _ _ y|o aN=>refine br y λh i y=>?_;exact⟨h,i,y.to f9 λo i=>hP _ o i⟩|b aN=>refine br y λh i y=>?_;exact⟨h,i,y.to f9 λo i=>hP _ o i⟩
 .exact fx (ap f u R) λh a7 i bl=>⟨h,bO a7,i,bl⟩
 .refine fx (bk f u R) λh i dm eY=>⟨h,i,λe=>bN e (λe=>br (af f _ R) λhR aM bP=>br bP λfg ck y=>?_) dm,eY⟩;rw[i]at aM;cases aM;cases ck;exact cd y.lt<|bS _ e
theorem lT.sub(y:lT c p bx a4)(L:∀B∈aU,B∈p):lT c aU bx a4:=by cases bx with|f aN=>exact cf.sub y L|o aN=>refine br y λh i y=>?_;exact⟨h,i,y.sub L⟩|b aN=>refine br y λh i y=>?_;exact⟨h,i,y.sub L⟩
theorem bw.narrow(r:bw g n p N S A a)(co:∀b∈bu,b∈p)(kb:∀b∈cW,b∈N)(hu:c0<=a.heap.objs.size)(nv:∀f u,¬fo A f (.o u)):bw g n bu cW c0 A a:=by exact jf r.3 λcV ar af ap bk=>⟨hu,r.2,cV,ar,λf bx R=>br (af f bx R) λu aM y=>⟨u,aM,y.sub co⟩,λf u R=>(nv f u R).elim,λf u R=>let⟨h,i,dm,eY⟩:=bk f u R;⟨h,i,λe=>dm<|kb h e,eY⟩⟩
def AllP{bf cE:Type}(H:bf->cE->Prop)(aH:List bf)(b5:List cE):Prop:=aH.length=b5.length/\∀(k:Nat)f B,aH[k]?=W f->b5[k]?=W B->H f B
def t3(b8:bB)(u:bh)(A:b0):Prop:=∀B bx,fo A B bx->fo (lv b8 u A) B bx
theorem Q4:∀{aH:List Str}{O:List bh}{A:b0},(∀f u,¬fo A f (.o u))->∀f u,¬fo (qw aH O A) f (.o u)
 |[],bL,A,c=>c|bL::dQ,[],A,c=>c|B::aH,aN::O,A,c=>Q4 (aH:=aH) (O:=O) (A:=(B,.f aN)::A) λf u e=>by
  rcases i2 e with⟨_,i⟩|⟨_,e⟩
  .cases i
  .exact c f u e
theorem ZA(c:∀f u,¬fo A f (.o u)):∀f aN,¬fo (lv b8 u A) f (.o aN):=by
 refine Jf (H:=λA=>∀f aN,¬fo A f (.o aN)) (λB r w f aN e=>?_) (λaB l r O w=>Q4 c) c;rcases i2 e with⟨_,i⟩|⟨_,e⟩
 .cases i
 .exact c _ _ e
theorem Q5{aD:Nat}{s:kI}{bA:List bh}{ds:List<|List bh}{aC:aq}{b5:List bh}{cg:ag}{ai:aq}{bF a0:List aq}{bQ:List Nat}{St:Nat->ag->Prop}{b_:gb->ag->Prop}(aK:dJ[aD]?=W s)(aO:s.is_async=0)(af:s.ifs.length<=1)(ap:∀bX,dJ[aD+1]?=W bX->bX.is_async=0)(ax:eK z q)(L:n.scope=Q)(kb:AllP (λf o=>mV Z Q s.target f/\t3 s.target f A/\jo g z Q dJ dk a6 aj aD s.ifs (lv s.target f A) o) bA ds)(M:cM g n p N aF S)(de:aC∈N)(nv:∀f u,¬fo A f (.o u))(cZ:mp g.prog g.w q s.target p bA cg ai bF a0 bQ St)(lx:∀k∈bQ,g.s0.gens.size<=k)(AS:∀b∈a0,b∈N)(kx:∀b∈bF,b≠aC/\b≠n.locals)(qx:aC∉a0)(r:bw g n p N S A a)(b6:AccAt a.heap p aC b5)(ab:b5.length+ds.flatten.length<=cI)(ce:a9 [] [] cg a)(st:St 0 a)(iD:∀v,a9 (a0++[aC,n.locals]) bQ a v->bw g n p N S A v->AccAt v.heap p aC (b5++ds.flatten)->b_ .next v):d2 g.prog g.w q (.compLoop (.ListComp dk dJ a6 aj) aD (.ref ai) (.ref aC) n) b_ a:=by
 have vo:aC∈p:=(M.5 aC de).1;have Jh:aC∉b4 n:=λe=>(M.4 aC e).2.2.1 de;have tX:∀b∈a0++[aC,n.locals],b∈p:=λb m=>by
  refine bN m (λe=>?_) λe=>?_
  .exact(M.5 b<|AS b e).1
  .rcases fR.mp e with rfl|e
   .exact vo
   .exact(bm e)▸(M.4 _ bz).1
 refine Zb aK U aO af ap cZ (λk E=>a9 (a0++[aC,n.locals]) bQ a E/\bw g n p N S A E/\AccAt E.heap p aC (b5++(ds.take k).flatten)) ?_ ?_ ⟨bJ.refl ..,r,by simpa using b6⟩ st
 .rintro k f qy E u R cB sG aM oS gN;refine eQ cB λdT d8 dO=>?_;have ac:k<ds.length:=kb.1▸(k'.mp R).1;refine eQ (kb.2 k f ds[k] R<|fG ac) λfX gY jO=>?_;refine Y.bind<|AR ax.1 M (d8.Gg M AS gN lx nv) (aM p _ (λb m=>⟨cw (M.8 b m) d8.1,.inl m⟩)<|(ce.mono aW aW).trans<|dT.mono tX λw c=>c) (L▸fX) λiI aL dS=>?_;have cL:(b5++(ds.take k).flatten).length+ds[k].length<=sizeLine:=by
   refine bb ?_ ab;have i:ds.flatten=(ds.take k).flatten++(ds[k]++(ds.drop<|k+1).flatten):=by
    conv=>lhs;rw[<-xf k ds]
    exact V z3<|V (Do ac)<|V jA U
   refine V i ?_;simp only[gU];exact oF (.l (.a (.a .x .y) .z)<|.a .x<|.a .y<|.a .z .w) [] U
  refine jO q n p N aF S aC ax L M de (ZA nv) _ iI cL dS ((dO.to (cb:=a0) (λb o m i=>gN.1 b o m i) (λG ab=>(M.5 G<|AS G ab).1) qx).to (cb:=[n.locals]) (λb o m i=>aL.1 b o m i) (λG ab=>bm ab▸(M.4 _ bz).1)<|λe=>Jh<|bm e▸bz) _ λn5 a_ ky vp=>⟨⟨?_,ky.le λB bx c=>gY B bx c,?_⟩,?_⟩
  .exact(dT.trans<|gN.mono (λb m=>b3 m) λw c=>c).trans<|(aL.mono (λb m=>bO<|mt m) aW).trans<|a_.mono (λb m=>bO m) aW
  .have i:(ds.take<|k+1).flatten=(ds.take k).flatten++ds[k]:=by refine V zX<|V (fG ac)<|V z3 ?_;simp
   exact V i<|b' (rc ..) vp
  .refine cZ.2 _ _ _ [aC,n.locals] [] oS ((aL.mono (λb m=>mt m) λw c=>c).trans a_) (λb m e=>?_) aW;rcases fR.mp m with rfl|m
   .exact(kx _ e).1 U
   .exact(kx b e).2<|bm m
 .rintro qy E dv gN;refine eQ dv λdT d8 dO=>iD E (dT.trans<|gN.mono (λb m=>b3 m) λw c=>c) (d8.Gg M AS gN lx nv) ?_;have i:ds.take bA.length=ds:=kb.1▸xb;rw[i]at dO;exact dO.to (cb:=a0) (λb o m i=>gN.1 b o m i) (λG ab=>(M.5 G<|AS G ab).1) qx
theorem cM.up(M:cM g n p N aF S)(c:S<=c0):cM g n p N aF c0:=⟨M.1,M.2,M.3,M.4,M.5,M.6,M.7,λh a7=>cw (M.8 h a7) c,M.9,M.10⟩
theorem bw.now(r:bw g n p N S A a):bw g n p N a.heap.objs.size A a:=⟨dA _,r.2,r.3⟩
def sH(i:bB):Prop:=∀n f,zu i n f=dz f
theorem jo.next(aK:dJ[aD+1]?=W s)(aO:s.is_async=0)(af:s.ifs.length<=1)(ap:∀bX,dJ[aD+2]?=W bX->bX.is_async=0)(bg:sH s.iter)(ac:vn g z Q A hs Z)(gB:fp g z Q A Z s.target s.iter bA)(kb:AllP (λf o=>mV Z Q s.target f/\t3 s.target f A/\jo g z Q dJ dk a6 aj (aD+1) s.ifs (lv s.target f A) o) bA ds):jo g z Q dJ dk a6 aj aD hs A ds.flatten:=by
 intro q n p N aF S aC ax L M de nv b5 a ab r b6 C ah;refine Y.bind<|ac.tU ax L M r λan aL=>?_;refine tN U ?_;refine V (aK ..) ?_;have c_:=(r.grow aL).now;have h4:=M.up (c0:=an.heap.objs.size) (r.grow aL).1;refine Y.bind<|gB q n p N aF _ an.gens.size ax L h4 an _ ⟨c_,dA _⟩ λa4 am a_ qz=>?_;refine dV ?_;refine Y.eq (V (bg ..) U) ?_;refine eo<|d6<|qz _ λai cg bF a0 bQ St aT=>?_;have ce:=aT.3;have AT:an.heap.objs.size<=cg.heap.objs.size:=bb a_.2 ce.2;have fq:∀b∈a0,an.heap.objs.size<=b/\b<cg.heap.objs.size:=λb m=>⟨(aT.4 b m).elim id (λe=>nomatch e),(aT.7 b<|aT.1.1 b m).1⟩;have mW:∀k∈bQ,an.gens.size<=k:=λk ac=>(aT.5 k ac).elim id λe=>nomatch e;have vp:AccAt cg.heap (a0++p) aC b5:=by refine br (b6.grow aL.all) λO aZ av=>?_;have hP:=(a_.trans ce).all;exact⟨O,aZ.at λo i=>hP _ o i,bW.to (λb o m i=>⟨hP b o i,by refine g2 mb<|g2 not_or ?_;exact⟨λe=>cd (dB i) (fq b e).1,m⟩⟩) _ _ av⟩
 have cZ:mp g.prog g.w q s.target (a0++p) bA cg ai bF a0 bQ St:=⟨aT.1.1,aT.1.2,λk f a C R st ah=>aT.1.3 k f a C R st λu v aM kR s=>ah u v (λbu jN gM qs=>aM bu jN (λb m=>⟨(gM b m).1,by exact g_ ((gM b m).2) (λe=>bN e (λe=>.inr<|.inl e) .inl) λe=>.inr e⟩) qs) kR s,aT.1.4,aT.1.5,aT.1.6⟩;refine Y.bind<|Y.runOwn<|IX aK aO (λC a5=>aT.1.5 0 cg C aT.2 a5)<|Q5 aK aO af ap ax L kb (h4.wide fq c_.2.1.2 AT) (bO de) nv cZ (λk ac=>bb c_.2.1.4<|mW k ac) (λb m=>b3 m) (λb m=>⟨λe=>(aT.7 b m).2<|b3<|e▸de,λe=>(aT.7 b m).2<|bO<|e▸bz⟩) (λe=>cd (h4.8 aC (M.5 aC de).1) (fq aC e).1) (c_.wide (a_.trans ce)<|λb m=>(fq b m).1) vp ab (bJ.refl ..) aT.2 λv bX bn go=>Y.pure ?_;refine ah v ?_ (bn.narrow (λb m=>bO m) (λb m=>bO m) (bb (bb (r.grow aL).1 AT) bX.2) nv) ⟨go.choose,go.choose_spec.1,bW.to (λb o m i=>⟨i,λe=>m<|bO e⟩) _ _ go.choose_spec.2⟩;exact(((aL.trans a_).trans ce).mono aW λw c=>c).hj bX (λb m=>bN m (λe=>.inr<|gz<|bb aL.2 (fq b e).1) .inl) λk ac=>.inr<|ss<|bb aL.4<|mW k ac
structure M5(g:dw)(z:Nat)(Q:c4)(A:b0)(dk:bB)(s:kI)(bQ:List kI)(a6:c4)(aj:Pos)(bA:List bh)(ds:List<|List bh):Prop where
 ok:oR a6 Q=Z
 h0:s.is_async=0
 aq:s.ifs.length<=1
 ay:∀bX,(s::bQ)[1]?=W bX->bX.is_async=0
 hf:sH s.iter
 iD:AllP (λf o=>mV Z (eO a6 Q) s.target f/\t3 s.target f (hQ (eO a6 Q) A)/\jo g z (eO a6 Q) (s::bQ) dk a6 aj 0 s.ifs (lv s.target f<|hQ (eO a6 Q) A) o) bA ds
 hz:ds.flatten.length<=cI
structure xS(g:dw)(z:Nat)(Q:c4)(A:b0)(dk:bB)(s:kI)(bQ:List kI)(a6:c4)(aj:Pos)(bA:List bh)(ds:List<|List bh):Prop extends M5 g z Q A dk s bQ a6 aj bA ds where it:fp g z Q A a1 s.target s.iter bA
theorem Q6(M:cM g n p N aF S)(r:bw g n p N S A a)(aS:oR a6 n.scope=Z):IZ n a6 (hb n a6.names []):=by refine lg (Jd aS) λiF jn hc rF=>br r.3 λcV ar w=>⟨Jc λe a5 xT=>?_,iF,jn,rF⟩;have mU:=hc e a5 xT;have:n.kindOf e.1=W .cell\/n.kindOf e.1=W .free:=vh mU;exact br (ar.3 e.1 this) λh a7 w=>⟨h,a7⟩
theorem ZB(az:g.Ok)(c6:M5 g z n.scope A dk s bQ a6 aj bA ds)(gB:cm g.prog g.w q [] [] n (λE=>bw g n p N a.heap.objs.size A E/\a.gens.size<=E.gens.size/\a9 [] [] a E) s.iter<|λE a4=>xO g.prog g.w q s.target a.heap.objs.size a.gens.size j' kQ p (pr a1 n N) a4 bA E)(xU:∀b∈j',b∈p/\g.s0.heap.objs.size<=b/\b∉b4 n)(Ji:∀k∈kQ,g.s0.gens.size<=k)(ax:eK z q)(M:cM g n p N aF S)(r:bw g n p N S A a)(ah:∀aX aC v,(∃aA,v.heap.Ns aX aA)->a9 j' kQ a v->a.heap.objs.size<=aX->a.heap.objs.size<=aC->aX≠aC->aX<v.heap.objs.size->AccAt v.heap (aX::aC::p) aC ds.flatten->AF g.prog g.w q pm C (.ref aC) aX v):Y g.prog g.w q (wW (.ListComp dk (s::bQ) a6 aj) a6 n (CT (s::bQ) aj) (newList []) (zx<|s::bQ) (CU (s::bQ) n) pm) C a:=by
 refine Qx (Q6 M r c6.1) c6.2 (λf=>c6.5 n f) ?_;have iH:=r.now;have eL:=M.up (c0:=a.heap.objs.size) r.1;refine gB a _ ⟨iH,dA _,bJ.refl ..⟩ λa4 an aL qz=>qz _ λai am bF a0 n6 St aT=>(dj ai U λaC aX cU jP=>⟨λC a5=>aT.1.5 0 cU C (aT.1.2 0 am cU [] [] aT.2 jP.3 aW aW) a5,(eQ jP.4 λde fW tR=>?_)⟩);have a_:=aT.3;have g6:a.heap.objs.size<=am.heap.objs.size:=bb aL.2 a_.2;have AU:am.heap.objs.size<=cU.heap.objs.size:=jP.3.2;have fq:∀b∈a0,(a.heap.objs.size<=b\/b∈j')/\b<am.heap.objs.size:=λb m=>⟨aT.4 b m,(aT.7 b<|aT.1.1 b m).1⟩;have dS:=iH.grow<|aL.trans a_--sx frame inside
 have gM:∀b∈aX::aC::(a0++p),b∈p\/a.heap.objs.size<=b:=λb m=>by
  refine dH m (λi=>?_) λm=>?_
  .exact .inr<|i▸bb g6 fW
  refine dH m (λi=>?_) λm=>?_
  .exact .inr<|i▸bb g6 de
  exact bN m (λe=>(fq b e).1.elim .inr λG=>.inl (xU b G).1) λe=>.inl e
 have AV:∀b∈aX::aC::(a0++p),b<cU.heap.objs.size:=λb m=>by
  refine dH m (λi=>?_) λm=>?_
  .exact i▸jP.5.2
  refine dH m (λi=>?_) λm=>?_
  .exact i▸jP.5.1
  exact bN m (λe=>cw (fq b e).2 AU) λe=>cw (eL.8 b e)<|bb g6 AU
 have Jj:∀b∈a0++[aC],(a.heap.objs.size<=b\/(b∈p/\g.s0.heap.objs.size<=b/\b∉b4 n))/\b∈aX::aC::(a0++p)/\aX≠b:=λb m=>by
  refine bN m (λe=>?_) λe=>?_
  .exact⟨(fq b e).1.imp id<|xU b,mt<|mt<|b3 e,λi=>cd (fq b e).2<|i▸fW⟩
  .exact V (bm e)<|⟨.inl<|bb g6 de,mt bz,iA tR⟩
 have Jk:cM g (q6 a6 (hb n a6.names []) aX n) (aX::aC::(a0++p)) (a0++[aC]) g.tabs cU.heap.objs.size:=Q1 az eL c6.1 (bb g6 fW) bz (λb m=>mt<|mt<|bO m) AV iH.2.1.2 gM Jj;have ly:a9 [] [] a cU:=(aL.trans a_).trans jP.3;have AW:bw g (q6 a6 (hb n a6.names []) aX n) (aX::aC::(a0++p)) (a0++[aC]) cU.heap.objs.size (hQ (eO a6 n.scope) A) cU:=Q2 eL iH c6.1 ly (bb g6 fW) jP.2 (dA _) (λb m=>(gM b m).imp id gz) λb m=>bN m (λe=>.inr λo i=>aT.1.6 0 am b o aT.2 e<|(aL.trans a_).all b o i) λe=>.inl<|bm e▸bb g6 de;have b6:AccAt cU.heap (aX::aC::(a0++p)) aC []:=⟨#[],jP.1,by show bW _ _ [] [];exact U⟩;have cZ:mp g.prog g.w q s.target (aX::aC::(a0++p)) bA am ai bF a0 n6 St:=⟨aT.1.1,aT.1.2,λk f a C R st ah=>aT.1.3 k f a C R st λu v aM kR s=>ah u v (λbu jN gM qs=>aM bu jN (λb m=>⟨(gM b m).1,by
  rcases(gM b m).2 with e|e
  .refine dH e (λi=>?_) λe=>?_
   .exact .inr<|.inr<|i▸fW
   exact dH e (λi=>.inr<|.inr<|i▸de) λe=>bN e (λe=>.inr<|.inl e) .inl
  .exact .inr e⟩) qs) kR s,aT.1.4,aT.1.5,aT.1.6⟩;have kx:∀b∈bF,b≠aC/\b≠aX:=λb m=>⟨λe=>cd (aT.7 b m).1<|e▸de,λe=>cd (aT.7 b m).1<|e▸fW⟩;have ab:([]:List bh).length+ds.flatten.length<=sizeLine:=by simpa using c6.7
 refine Q5 (g:=g) (z:=z) (Q:=eO a6 n.scope) (A:=hQ (eO a6 n.scope) A) (aF:=g.tabs) (s:=s) (bA:=bA) (ds:=ds) (b5:=[]) (cg:=am) (bF:=bF) (a0:=a0) (St:=St) U c6.2 c6.3 c6.4 ax U c6.6 Jk (bO bz) (λf u=>Zw) cZ (λk ac=>(aT.5 k ac).elim (λe=>bb iH.2.1.4 e)<|Ji k) (λb m=>b3 m) kx (λe=>cd (fq aC e).2 de) AW b6 ab jP.3 (aT.1.2 0 am cU [] [] aT.2 jP.3 aW aW) λv bX bn go=>gJ λw bI=>br bn.3 λcV ar w=>br ar.2 λaA bt w=>bI<|ah aX aC v (oE aA bt) ?_ (bb g6 fW) (bb g6 de) (iA tR) (cw jP.5.2 bX.2) ?_
 .refine(ly.mono aW aW).hj bX (λb m=>bN m (λe=>?_) λe=>?_) λk ac=>(aT.5 k ac).elim (λe=>.inr<|ss e) .inl
  .exact(fq b e).1.elim (λG=>.inr<|gz G) .inl
  .exact dH e (λi=>.inr<|gz<|i▸bb g6 de) λe=>.inr<|gz<|(bm e)▸bb g6 fW
 .refine br go λO aZ av=>?_;have lQ:∀b∈aX::aC::p,b∈aX::aC::(a0++p):=λb e=>by
   refine dH e (λi=>?_) λe=>?_
   .exact V i bz
   refine dH e (λi=>?_) λe=>?_
   .exact V i<|mt bz
   .exact mt<|mt<|bO e
  exact⟨O,aZ,bW.to (λb o m i=>⟨i,λe=>m<|lQ b e⟩) _ _ (by simpa using av)⟩
theorem Q7(az:g.Ok)(c6:xS g z n.scope A dk s bQ a6 aj bA ds)(ax:eK z q)(M:cM g n p N aF S)(r:bw g n p N S A a)(ah:∀aX aC v,(∃aA,v.heap.Ns aX aA)->a9 [] [] a v->a.heap.objs.size<=aX->a.heap.objs.size<=aC->aX≠aC->aX<v.heap.objs.size->AccAt v.heap (aX::aC::p) aC ds.flatten->AF g.prog g.w q pm C (.ref aC) aX v):Y g.prog g.w q (wW (.ListComp dk (s::bQ) a6 aj) a6 n (CT (s::bQ) aj) (newList []) (zx<|s::bQ) (CU (s::bQ) n) pm) C a:=ZB az c6.toM5 (cm.weak (c6.it q n p N aF _ a.gens.size ax U<|M.up r.1) λE e=>⟨e.1,e.2.1⟩) aW aW ax M r ah
theorem AccAt.obj{aX aC:aq}{v:ag}{aa:eH}{b5:List bh}(c:AccAt v.heap (aX::aC::p) aC b5)(sI:aX≠aC)(L:iQ aX v.heap aa):jM aa (aC::p) aC (.lst b5):=by refine br c λO bP av=>c5 bP λt i=>⟨O,t,(L.2 aC<|iA sI).trans i,bW.to (λb o m i=>⟨(L.2 b λe=>m<|e▸Ht).trans i,λe=>m<|zW _ e⟩) _ _ av⟩
theorem ae.comp(az:g.Ok)(c6:xS g z Q A dk s bQ a6 aj bA ds):ae g z Q A (.ListComp dk (s::bQ) a6 aj) .fr (.lst ds.flatten):=λq n p N aF S ax L M a C r ah=>by subst L;exact Y.eq (eval_ListComp ..)<|Q7 az c6 ax M r λaX aC v bt gO fW de sI Ee jp=>c5 bt λaA bt=>⟨aA,bt,λaa ea=>ah _ _ (gO.hj (bJ.same (x:=v.toks) ea) (λb m=>.inr<|bm m▸gz fW) aW) ⟨aC,U,bb r.1 de,jp.obj sI ea⟩⟩
inductive jq where|next|brk|cont|ret(u:bh)
def Ef(g:dw)(n:Env)(p N aF:List aq)(S:Nat)(A:b0):jq->gb->ag->Prop|.next,I,a=>I=.next/\cM g n p N aF S/\bw g n p N S A a|.brk,I,a=>I=.brk/\cM g n p N aF S/\bw g n p N S A a|.cont,I,a=>I=.cont/\cM g n p N aF S/\bw g n p N S A a|.ret u,I,a=>∃a4,I=.ret a4/\cf a.heap aF u a4
inductive f_(aY:List aq)(n:Env)(p N bu cW:List aq)(a v:ag):Prop|mk(fS:∀b∈p,b∈bu)(fT:∀b∈bu,b∈p\/a.heap.objs.size<=b)(gy:∀b∈cW,b∈N\/a.heap.objs.size<=b)(jI:a9 (N++b4 n++aY) [] a v):f_ aY n p N bu cW a v
theorem f_.refl(a:ag):f_ aY n p N p N a a:=⟨λw c=>c,λw c=>.inl c,λw c=>.inl c,bJ.refl ..⟩
theorem f_.trans(h:f_ aY n p N dn jr a an)(b:f_ aY n dn jr mq nw an am):f_ aY n p N mq nw a am:=by
 refine⟨λB c=>b.1 B<|h.1 B c,λB c=>(b.2 B c).elim (h.2 B) λe=>.inr<|bb h.4.2 e,λB c=>(b.3 B c).elim (h.3 B) λe=>.inr<|bb h.4.2 e,h.4.hj b.4 (λB a8=>bN a8 (λa8=>?_) λa8=>?_) aW⟩
 .exact bN a8 (λa8=>(h.3 B a8).elim (λe=>.inl<|uM _<|uM _ e) λe=>.inr<|gz e) λa8=>.inl<|uM _<|xa _ a8
 .exact .inl<|xa _ a8
inductive vq(g:dw)(aY:List aq)(n:Env)(p N aF:List aq)(cu:jq->b0->Prop)(a:ag)(I:gb)(v:ag):Prop|mk(cO:jq)(bU:b0)(bu cW:List aq)(c0:Nat)(af:cu cO bU)(ap:fh g v)(bk:f_ aY n p N bu cW a v)(cx:Ef g n bu cW aF c0 bU cO I v):vq g aY n p N aF cu a I v
theorem vq.hO{cu:jq->b0->Prop}{I:gb}{v:ag}{ak:Prop}(c:vq g aY n p N aF cu a I v)(l:∀cO bU bu cW c0,cu cO bU->fh g v->f_ aY n p N bu cW a v->Ef g n bu cW aF c0 bU cO I v->ak):ak:=c.casesOn l
def bq(g:dw)(z:Nat)(Q:c4)(aY:List aq)(A:b0)(st:List ez)(cu:jq->b0->Prop):Prop:=∀(q:bY)(n:Env)(p N aF:List aq)(S:Nat)(a:ag),eK z q->n.scope=Q->cM g n p N aF S->bw g n p N S A a->Y g.prog g.w q (dE st n) (vq g aY n p N aF cu a) a
theorem vq.trans{dn jr:List aq}{an am:ag}{cu:jq->b0->Prop}{I:gb}(h:f_ aY n p N dn jr a an)(b:vq g aY n dn jr aF cu an I am):vq g aY n p N aF cu a I am:=b.hO λcO bU bu cW c0 af ap bk cx=>⟨cO,bU,bu,cW,c0,af,ap,h.trans bk,cx⟩
namespace bq
theorem nil(c:cu .next A):bq g z Q aY A [] cu:=λq n p N aF S a ax L M r=>by exact Y.eq (wU ..)<|Y.pure ⟨.next,A,p,N,S,c,r.2,f_.refl a,U,M,r⟩
theorem le(aI:he bU A)(c:bq g z Q aY bU ca cu):bq g z Q aY A ca cu:=λq n p N aF S a ax L M r=>c q n p N aF S a ax L M<|r.le λf bx e=>aI.has e
theorem mono{Q8:jq->b0->Prop}(c:bq g z Q aY A ca cu)(aZ:∀cO A,cu cO A->Q8 cO A):bq g z Q aY A ca Q8:=λq n p N aF S a ax L M r=>Y.mono (c q n p N aF S a ax L M r) λI v e=>e.hO λcO bU bu cW c0 af ap bk cx=>⟨cO,bU,bu,cW,c0,aZ _ _ af,ap,bk,cx⟩
end bq
theorem f_.inside(s:a9 (b4 n) [] a an):f_ aY n p N p N a an:=⟨λw c=>c,λw c=>.inl c,λw c=>.inl c,s.mono (λb m=>b3<|bO m) λw c=>c⟩
theorem f_.M9(s:a9 [] [] a an):f_ aY n p N p N a an:=f_.inside<|s.mono aW λw c=>c
theorem AX{st:ez}{vr:b0}(c:bq g z Q aY vr ca cu)(af:∀(q:bY)(n:Env)(p N aF:List aq)(S:Nat)(a:ag),eK z q->n.scope=Q->cM g n p N aF S->bw g n p N S A a->Y g.prog g.w q (exec st n) (λI an=>I=.next/\∃dn jr e6,f_ aY n p N dn jr a an/\cM g n dn jr aF e6/\bw g n dn jr e6 vr an) a):bq g z Q aY A (st::ca) cu:=λq n p N aF S a ax L M r=>by refine D5<|Y.mono (af q n p N aF S a ax L M r) ?_;rintro I an cB;exact cY cB λdv ek=>jD ek λdn jr e6 eh h4 c_=>V dv<|⟨U,Y.mono (c q n dn jr aF e6 an ax L h4 c_) λI v aa=>aa.trans eh⟩
namespace bq
theorem assign(bp:ae g z Q A i l u)(R:lu Q f=Z)(c:bq g z Q aY ((f,.f u)::A) ca cu)(aS:l≠.ls:=by decide)(rG:∀n:Env,n.scope=Q->tw i (W<|.Name f di) aj.line n=dz a1:=by exact λw w=>vc U):bq g z Q aY A (.Assign [.Name f di] i aj::ca) cu:=AX c λq n p N aF S a ax L M r=>by exact Y.eq (C3 (hs:=rG n L) ..)<|dV<|Y.bind<|(bp.gQ aS) q n p N aF S ax L M a _ r λa4 an aL hr=>dV<|Y.bind<|sF (b:=a1) M (r.grow aL) hr (L▸R) λam a_ dS=>Y.pure ⟨U,(Am p N S (f_.inside<|(aL.mono aW λw c=>c).trans a_) M dS)⟩
theorem M_(bp:ae g z Q A i .fr u)(R:lu Q f=Z)(c:bq g z Q aY ((f,.o u)::A) ca cu)(rG:∀n:Env,n.scope=Q->tw i (W<|.Name f di) aj.line n=dz a1:=by exact λw w=>vc U):bq g z Q aY A (.Assign [.Name f di] i aj::ca) cu:=AX c λq n p N aF S a ax L M r=>by refine Y.eq (C3 (hs:=rG n L) ..)<|dV ?_;have iH:=r.now;have eL:=M.up (c0:=a.heap.objs.size) r.1;exact Y.bind<|bp q n p N aF _ ax L eL a _ iH λa4 an aL hr=>fx hr λh gX a7 aP=>V gX<|dV<|Y.bind<|Zr eL iH aL a7 aP (L▸R) λam a_ dS=>Y.pure ⟨U,(Am (h::p) (h::N) _ (⟨λb m=>mt m,λb m=>dH m (λe=>.inr<|e▸a7) .inl,λb m=>dH m (λe=>.inr<|e▸a7) .inl,((aL.mono aW λw c=>c).trans a_).mono (λb m=>b3<|bO m) λw c=>c⟩) (eL.more a7 (cw aP.lt a_.2) r.2.1.2) dS)⟩
theorem ret(bp:ae g z Q A i l u)(c:cu (.ret u) A)(aS:l≠.ls:=by decide):bq g z Q aY A (.Return (W i) aj::ca) cu:=λq n p N aF S a ax L M r=>by exact YI r ((bp.gQ aS) q n p N aF S ax L M) λa4 v s aM=>⟨.ret u,A,p,N,S,c,(r.grow s).2,f_.M9 s,a4,U,cf.sub aM M.6⟩
end bq
theorem bw.yY(r:bw g n p N S A a)(co:∀G∈cb,G∈p)(aP:∀G∈cb,G∉b4 n)(aO:∀G∈cb,g.s0.heap.objs.size<=G)(lr:∀k∈ak,g.s0.gens.size<=k)(aS:∀b o,b∈cb->a.heap.get? b=W o->sA o)(s:a9 cb ak a v):bw g n p N S A v:=by
 refine jf r.3 λcV ar af ap bk=>⟨bb r.1 s.2,r.2.toG s aO lr,cV,ar.keeps λb m o i=>s.1 b o (λe=>aP b e m) i,λf bx R=>br (af f bx R) λu aM y=>?_,ap,bk⟩;have cF:∀aN h,jM a.heap p h aN->h∉cb:=λaN h y e=>by
  cases aN<;>try exact y.elim
  .exact gc y λO t i w=>(aS h _ e i).1 _ _ U
  .exact(aS h _ e y).2 _ U
 refine⟨u,aM,y.own (cb:=cb) co (λe h i=>?_) λb o m i=>s.1 b o m i⟩;subst i;cases bx with
 |f aN=>exact e.elim|o aN=>refine br y λfg i y=>?_;cases i;exact cF aN _ y|b aN=>refine br y λfg i y=>?_;cases i;exact cF aN _ y
theorem cM.m6(M:cM g n p N aF S)(bS:∀b∈a0,S<=b/\b<c0)(aO:g.s0.heap.objs.size<=S)(hu:S<=c0):cM g n (a0++p) N aF c0:=⟨(M.1),(M.2),(M.3),(λb m=>⟨bO (M.4 b m).1,(M.4 b m).2⟩),(λb m=>⟨bO (M.5 b m).1,(M.5 b m).2⟩),(λb m=>bO<|M.6 b m),(M.7),(λb m=>bN m (λe=>(bS b e).2) λe=>cw (M.8 b e) hu),(λb m=>bN m (λe=>.inr<|bb aO (bS b e).1) λe=>M.9 b e),(M.10)⟩
theorem bw.m6(r:bw g n p N S A a)(s:a9 [] [] a v)(bS:∀b∈a0,a.heap.objs.size<=b):bw g n (a0++p) N v.heap.objs.size A v:=by refine jf r.3 λcV ar af ap bk=>?_;have hP:=s.all;refine⟨dA _,r.2.to s aW,cV,ar.keeps λb w o i=>hP b o i,λf bx R=>br (af f bx R) λu aM y=>⟨u,aM,?_⟩,ap,bk⟩;have f9:∀b o,b∉p->a.heap.get? b=W o->v.heap.get? b=W o/\b∉a0++p:=λb o m i=>⟨hP b o i,by refine g2 mb<|g2 not_or ?_;exact⟨λe=>cd (dB i)<|bS b e,m⟩⟩;cases bx with|f aN=>exact cf.to f9 _ _ y|o aN=>refine br y λh i y=>?_;exact⟨h,i,y.to f9 λo i=>hP _ o i⟩|b aN=>refine br y λh i y=>?_;exact⟨h,i,y.to f9 λo i=>hP _ o i⟩
namespace bq
theorem q9(bC:gA g z Q A E b)(c:bq g z Q aY A (bif b then vd else ve)<|λcO bU=>match cO with|.next=>bq g z Q aY bU ca cu|cO=>cu cO bU):bq g z Q aY A (.If E vd ve aj::ca) cu:=λq n p N aF S a ax L M r=>by refine Qu r (bC q n p N aF S ax L M) λan aL=>Y.mono (c q n p N aF S an ax L M<|r.grow aL) ?_;rintro I am e;refine e.hO λcO bU bu cW c0 aZ m eh bp=>?_;have qA:=(f_.M9 (aY:=aY) (n:=n) (p:=p) (N:=N) aL).trans eh;cases cO with|next=>obtain⟨rfl,ew,bn⟩:=bp;exact .inl ⟨U,Y.mono (aZ q n bu cW aF c0 am ax L ew bn) λI v aa=>aa.trans qA⟩|brk=>obtain⟨rfl,bp⟩:=bp;exact .inr ⟨(λe=>nomatch e),.brk,bU,bu,cW,c0,aZ,m,qA,U,bp⟩|cont=>obtain⟨rfl,bp⟩:=bp;exact .inr ⟨(λe=>nomatch e),.cont,bU,bu,cW,c0,aZ,m,qA,U,bp⟩|ret u=>obtain⟨a4,rfl,bp⟩:=bp;exact .inr ⟨(λe=>nomatch e),.ret u,bU,bu,cW,c0,aZ,m,qA,a4,U,bp⟩
theorem oU(ae:Nat->b0->Prop)(bg:sH ic)(gB:fp g z Q A Z b8 ic bA)(oH:∀k f bU,bA[k]?=W f->ae k bU->mV a1 Q b8 f/\bq g z Q [] (lv b8 f bU) ep (λcO vs=>match cO with
   |.next|.cont=>ae (k+1) vs|.brk=>bq g z Q aY vs ca cu|.ret u=>cu (.ret u) vs))(aO:ae 0 A)(qr:∀bU,ae bA.length bU->bq g z Q aY bU ca cu):bq g z Q aY A (.For b8 ic ep [] aj::ca) cu:=λq n p N aF S a ax L M r=>by
 refine QA (λf=>bg n f) ?_;have iH:=r.now;have eL:=M.up (c0:=a.heap.objs.size) r.1;have hf:g.s0.heap.objs.size<=a.heap.objs.size:=r.2.1.2;refine gB q n p N aF _ a.gens.size ax L eL a _ ⟨iH,dA _⟩ λa4 an aL qz=>qz _ λai am bF a0 bQ St aT=>(dj ai U ?_);have a_:=aT.3;have g6:a.heap.objs.size<=am.heap.objs.size:=bb aL.2 a_.2;have fq:∀b∈a0,a.heap.objs.size<=b/\b<am.heap.objs.size:=λb m=>⟨(aT.4 b m).elim id<|λe=>dt e,(aT.7 b<|aT.1.1 b m).1⟩;have mW:∀k∈bQ,a.gens.size<=k:=λk ac=>(aT.5 k ac).elim id λe=>dt e;have AY:∀k∈bQ,g.s0.gens.size<=k:=λk ac=>bb r.2.1.4<|mW k ac;have dS:=iH.m6 (aL.trans a_)<|λb m=>(fq b m).1;have AZ:∀b∈a0,b∉b4 n:=λb m e=>cd (eL.8 b (eL.4 b e).1) (fq b m).1;have Jl:∀b∈a0++(N++b4 n),b∈a0++p:=λb m=>bN m (λe=>b3 e) λe=>bO<|bN e (λe=>(eL.5 b e).1) λe=>(eL.4 b e).1--from sx start to a state of sx loop
 have vt:∀{bu cW:List aq}{E:ag},(∀b∈a0++p,b∈bu)->(∀b∈bu,b∈a0++p\/am.heap.objs.size<=b)->(∀b∈cW,b∈N\/am.heap.objs.size<=b)->a9 (a0++(N++b4 n)) bQ am E->f_ aY n p N bu cW a E:=by intro bu cW E dT d8 dO eM;exact⟨λb m=>dT b<|bO m,λb m=>(d8 b m).elim (λe=>bN e (λe=>.inr (fq b e).1) .inl) λe=>.inr<|bb g6 e,λb m=>(dO b m).elim .inl λe=>.inr<|bb g6 e,(((aL.trans a_).mono (λw c=>dt c) λw c=>c).hj eM (λb m=>bN m (λe=>.inr<|gz (fq b e).1) λe=>.inl<|b3 e) λk ac=>.inr<|ss<|mW k ac)⟩
 refine QK aT.1 (λk E=>∃bU bu cW c0,ae k bU/\(∀b∈a0++p,b∈bu)/\(∀b∈bu,b∈a0++p\/am.heap.objs.size<=b)/\(∀b∈cW,b∈N\/am.heap.objs.size<=b)/\a9 (a0++(N++b4 n)) bQ am E/\cM g n bu cW aF c0/\bw g n bu cW c0 bU E) ?_ ?_ (Ie A (a0++p) N _ aO (λw c=>c) (λw c=>.inl c) (λw c=>.inl c) (bJ.refl ..) (eL.m6 fq hf g6) dS) aT.2
 .rintro k f qy E u R kt sG aM oS gN;refine Pj kt λbU bu cW c0 eu dT d8 dO eM ew bn=>?_;have c_:bw g n bu cW c0 bU E:=bn.yY (cb:=a0) (λG ab=>dT G<|b3 ab) AZ (λG ab=>bb hf (fq G ab).1) AY (λb o m i=>aT.1.6 k qy b o sG m i) gN;refine cY (oH k f bU R eu) λbC iG=>Y.bind<|AR (b:=a1) ax.1 ew c_ (aM bu _ (λb m=>⟨cw (ew.8 b m) bn.1,(d8 b m).elim (λe=>bN e (λe=>.inr<|.inl e) .inl) λe=>.inr<|.inr e⟩)<|eM.mono (λb m=>dT b<|Jl b m) λw c=>c) (L▸bC) λiI sJ dS=>Y.mono (iG q n bu cW aF c0 iI ax L ew dS) ?_;rintro I n5 nu;refine nu.hO λcO nx mq nw qB aZ m eh bp=>?_;have fX:∀b∈a0++p,b∈mq:=λb m=>eh.1 b<|dT b m;have xV:am.heap.objs.size<=iI.heap.objs.size:=bb eM.2<|bb gN.2 sJ.2;have gY:∀b∈mq,b∈a0++p\/am.heap.objs.size<=b:=λb m=>(eh.2 b m).elim (d8 b) λe=>.inr<|bb xV e;have jO:∀b∈nw,b∈N\/am.heap.objs.size<=b:=λb m=>(eh.3 b m).elim (dO b) λe=>.inr<|bb xV e;have Q9:a9 (cW++b4 n) [] iI n5:=eh.4.mono (λb m=>by simpa using m) λw c=>c;have ny:a9 (a0++(N++b4 n)) bQ am n5:=by exact((eM.trans<|gN.mono (λb m=>b3 m) λw c=>c).trans<|sJ.mono (λb m=>bO<|bO m) λw c=>dt c).hj Q9 (λb m=>bN m (λe=>(dO b e).elim (λe=>.inl<|bO<|b3 e) λe=>.inr<|gz e) λe=>.inl<|bO<|bO e) λw c=>dt c
  have rH:St (k+1) n5:=by
   refine aT.1.2 _ _ _ (cW++b4 n) [] oS ((sJ.mono (λb m=>bO m) λw c=>c).trans Q9) (λb m e=>bN m (λm=>?_) λm=>?_)<|λw c=>dt c
   .rcases dO b m with G|G
    .exact(aT.7 b e).2<|b3 G
    .exact cd (aT.7 b e).1 G
   .exact(aT.7 b e).2<|bO m
  cases cO with
  |next=>refine eQ bp λsK qC qD=>?_;exact V sK<|⟨(Ie nx mq nw qB aZ fX gY jO ny qC qD),rH⟩|cont=>refine eQ bp λqp qC qD=>?_;exact V qp<|⟨(Ie nx mq nw qB aZ fX gY jO ny qC qD),rH⟩|brk=>exact eQ bp λsL qC qD=>V sL<|.inl ⟨U,Y.mono (aZ q n mq nw aF qB n5 ax L qC qD) λI v aa=>aa.trans<|vt fX gY jO ny⟩|ret u=>exact br bp λa4 sz av=>V sz<|.inr ⟨a4,U,.ret u,nx,mq,nw,qB,aZ,m,vt fX gY jO ny,a4,U,av⟩
 .rintro qy E vu sG gN;refine Pj vu λbU bu cW c0 eu dT d8 dO eM ew bn=>?_;have c_:bw g n bu cW c0 bU E:=bn.yY (cb:=a0) (λG ab=>dT G<|b3 ab) AZ (λG ab=>bb hf (fq G ab).1) AY (λb o m i=>aT.1.6 _ qy b o sG m i) gN;exact .inl ⟨U,Y.mono (qr bU eu q n bu cW aF c0 E ax L ew c_) λI v aa=>aa.trans<|vt dT d8 dO<|eM.trans<|gN.mono (λb m=>b3 m) λw c=>c⟩
end bq
section
section
variable{prog:cl}{j:b7}{q:bY}{a:ag}
end
variable{g:dw}{n:Env}{q:bY}{a:ag}{f:Str}{a4:al}{i E:bB}{di:Pos}
theorem bw.Gr(r:bw g n p N S A a)(M:cM g n p N aF S)(R:fo A f<|.o u):∃h cV,h∈N/\pl n a.heap cV/\cV f=W (.ref h)/\jM a.heap p h u/\(∀an am hR,a9 [] [] a an->a9 [h] [] an am->jM am.heap p h hR->bw g n p N S ((f,.o hR)::A) am):=by
 refine gJ λw bI=>jf r.3 λcV ar af ap bk=>br (af _ _ R) λa4 h1 bP=>br bP λfg i av=>fx (ap _ _ R) λh a7 sD bl=>?_;subst i;obtain rfl:fg=h:=by replace sD:=h1▸sD;cases sD;rfl
 refine bI<|⟨fg,cV,a7,ar,h1,av,λan am hR oQ aL aP=>?_⟩;have ii:∀b o,b∉[fg]->a.heap.get? b=W o->am.heap.get? b=W o:=λb o m i=>aL.1 b o m<|oQ.all b o i;have h5:fg∉b4 n:=λe=>(M.4 _ e).2.2.1 a7;refine⟨bb r.1<|bb oQ.2 aL.2,(r.2.to oQ aW).to aL<|λG ab=>bm ab▸(M.5 fg a7).2.1,cV,ar.keeps λb m o i=>ii b o (λe=>h5<|bm e▸m) i,λB bx a8=>?_,λB aN a8=>?_,λB aN a8=>?_⟩
 .rcases i2 a8 with⟨rfl,rfl⟩|⟨c9,a8⟩
  .exact⟨_,h1,fg,U,aP⟩
  .refine br (af B bx a8) λj bS y=>⟨j,bS,y.own (cb:=[fg]) (λG ab=>bm ab▸((M.5 fg a7).1)) (λe b i dg=>gJ λw bI=>?_) ii⟩;subst i;have:=bm dg;subst this;refine bI ?_;cases bx with|f aN=>exact e.elim|o aN=>exact bl B aN c9 a8 bS|b aN=>refine fx (bk B aN a8) λA0 i dm w=>?_;rw[bS]at i;cases i;exact dm a7
 .rcases i2 a8 with⟨rfl,e⟩|⟨c9,kw⟩
  .refine⟨fg,a7,h1,λG E ab bC=>?_⟩;rcases i2 bC with⟨dg,_⟩|⟨_,bC⟩
   .exact absurd dg ab
   .exact bl G E ab bC
  .refine fx (ap B aN kw) λb m i iE=>⟨b,m,i,λG E ab bC=>?_⟩;rcases i2 bC with⟨dg,_⟩|⟨_,bC⟩
   .refine V dg<|h1.symm▸?_;intro e;cases e;exact bl B aN c9 kw i
   .exact iE G E ab bC
 .rcases i2 a8 with⟨_,e⟩|⟨_,a8⟩
  .exact nomatch e
  .exact bk B aN a8
theorem f_.ownAt(a7:h∈N)(oQ:a9 [] [] a an)(aL:a9 [h] [] an am):f_ aY n p N p N a am:=⟨λw c=>c,λw c=>.inl c,λw c=>.inl c,(oQ.mono aW λw c=>c).trans<|aL.mono (λb m=>b3<|b3<|bm m▸a7) λw c=>c⟩
theorem Jm{cV:Str->Option al}{a4:al}(ar:pl n a.heap cV)(h1:cV f=W a4)(R:ht n.scope f=Z):cm g.prog g.w q [] [] n (a9 [] [] a) (.Name f di) (λw g=>g=a4):=λE C r ah=>by refine eQ (xN R) λaf ap bk=>Y.eq (V (arm_eval_Name ..) U)<|Y.bind<|Y.of<|pS ?_;refine gK (by refine V bk ?_;decide) ?_;exact D1 (ar.keeps λb w o i=>r.all b o i) (D' af) h1 ap<|ah a4 E (bJ.refl ..) U
theorem ZC(M:cM g n p N aF S)(r:bw g n p N S A a):gL [] [] p (a9 [] [] a):=⟨λw w h b=>h.trans b,λE s f R=>cw (cw (M.8 f R) r.1) s.2,aW⟩
theorem Q_(r:bw g n p N S A a)(c:cm g.prog g.w q [] [] n (bw g n p N S A) i ar):cm g.prog g.w q [] [] n (a9 [] [] a) i ar:=λE C s ah=>c E C (r.grow s) ah
namespace bq
theorem append(aK:fI A f=W (.o<|.lst aH))(R:ht Q f=Z)(bp:ae g z Q A i l u)(ab:aH.length<=cI)(c:bq g z Q aY ((f,.o<|.lst<|aH++[u])::A) ca cu)(aS:l≠.ls:=by decide)(ay:d0 i=Z:=by rfl)(mm:∀n,tx (.Name f di) "append" n (dD (.Name f di) n)=dD (.Name f di) n:=by exact λw=>U)(i0:(pq.endLine==aj.line)=Z:=by rfl):bq g z Q aY A (.Expr (.Call (.Attribute (.Name f di) "append" pq) [i] [] aj) Q'::ca) cu:=λq n p N aF S a ax L M r=>by
 refine H8 (r.Gr M<|oO aK) λh cV a7 ar h1 cB A1=>gc cB λO t aP av=>?_;have cL:O.size=aH.length:=by simpa using av.length
 refine I7 M.1 U<|YU (p:=p) (aU:=[]) (ak:=[]) (H:=a9 [] [] a) (h:=h) (O:=O) (ar:=e' S p .b2 u) (ZC M r) (Jm ar h1<|L▸R) (λE s=>⟨t,s.all _ _ aP⟩) (Q_ r<|(bp.gQ aS) q n p N aF S ax L M) (cL▸ab) ay (mm n) i0 (bJ.refl ..) ?_;intro a4 an am aL _ aM aI a_;refine c5 aI λaA aI=>?_;have f9:∀b o,b∉p->an.heap.get? b=W o->am.heap.get? b=W o/\b∉p:=λb o m i=>⟨a_.1 b o (λe=>m<|bm e▸((M.5 h a7).1)) i,m⟩;have dS:=A1 an am (.lst<|aH++[u]) aL a_ ⟨_,aA,aI,by refine V Dt<|bW.append ?_<|bW.to f9 _ _<|bW.to (λb o m i=>⟨aL.all b o i,m⟩) _ _ av;exact⟨a4,[],U,cf.to f9 _ _ aM,by exact U⟩⟩;exact⟨U,Y.mono (c q n p N aF S am ax L M dS) λI v aa=>aa.trans<|f_.ownAt a7 aL a_⟩
end bq
end
theorem bw.Nc(r:bw g n p N S A a)(co:∀b∈bu,b∈p)(hu:c0<=a.heap.objs.size):bw g n bu N c0 A a:=by exact jf r.3 λcV ar af ap bk=>⟨hu,r.2,cV,ar,λf bx R=>br (af f bx R) λu aM y=>⟨u,aM,y.sub co⟩,ap,bk⟩
theorem ZD{B:Str}{sM aj xW:Pos}{dk:bB}{dJ:List kI}{a6:c4}{n:Env}(aS:n.scope.kind=.function)(a8:n.scope.names.lookup B=W .local)(aI:(sM.line==aj.line)=Z)(xX:(a6.names.any λf=>f.1==B&&(f.2==.local||f.2==.cell))=a1):tw (.ListComp dk dJ a6 aj) (W<|.Name B sM) xW.line n=dz Z:=by
 have af:n.blockKind=.function:=by unfold Env.blockKind;refine V aS ?_;rfl
 have ap:n.kindOf B=W .local:=a8;have bk:(sM.line==(Expr.ListComp dk dJ a6 aj).pos.line)=Z:=aI;unfold tw
 dsimp only;refine V af<|V ap<|V bk<|V xX ?_;rfl
theorem ZE{B:Str}{sM aj xW:Pos}{dk:bB}{dJ:List kI}{a6:c4}{n:Env}(a8:(n.scope.names.lookup B==W .local)=a1):tw (.ListComp dk dJ a6 aj) (W<|.Name B sM) xW.line n=dz a1:=by
 have ap:(n.kindOf B==W .local)=a1:=a8;unfold tw
 dsimp only;rw[ap,Nb,Nf,Nf]
namespace bq
theorem comp(az:g.Ok)(c6:xS g z Q A dk s bQ a6 aj bA ds)(a8:(Q.names.lookup B==W .local)=Z)(aI:(sM.line==aj.line)=Z)(xX:(a6.names.any λf=>f.1==B&&(f.2==.local||f.2==.cell))=a1)(c:bq g z Q aY ((B,.f<|.lst ds.flatten)::A) ca cu):bq g z Q aY A (.Assign [.Name B sM] (.ListComp dk (s::bQ) a6 aj) xW::ca) cu:=AX c λq n p N aF S a ax L M r=>by
 subst L;have Ra:=eq_of_beq a8;refine(PySem.exec_Assign_Name_used (hs:=ZD M.1 Ra aI xX)).symm▸dV (Y.bind ?_);have iH:=r.now;have eL:=M.up (c0:=a.heap.objs.size) r.1;have aO:g.s0.heap.objs.size<=a.heap.objs.size:=r.2.1.2;refine Y.bind<|Q7 az c6 ax eL iH (C:=λw v=>Y g.prog g.w q (dz ()) _ v) λaX aC v bt gO fW de sI Ee jp=>Y.eq (GO ..)<|dV<|c5 bt λaA bt=>?_;have Rb:aX∉b4 n:=λe=>cd (eL.8 aX (eL.4 aX e).1) fW;have bS:∀b∈[aX],a.heap.objs.size<=b/\b<v.heap.objs.size:=λb m=>bm m▸⟨fW,Ee⟩;have ew:=eL.m6 bS aO gO.2;have bn:=iH.m6 gO<|λb m=>(bS b m).1;have av:cf v.heap ([aX]++p) (.lst ds.flatten) (.ref aC):=by
  refine gJ λw bI=>br jp λO dv av=>c5 dv λt i=>bI ?_;refine(p_ aC O t U (λe=>?_) i (bW.to (λb o m i=>⟨i,λe=>m (by
   refine dH e (λi=>?_) λe=>?_
   .exact V i bz
   .exact mt<|mt e)⟩) _ _ av));exact dH e (λi=>sI i.symm) λe=>cd (eL.8 aC e) de
 have ZF:lu n.scope B=Z:=by unfold lu;exact V Ra U
 refine sF (b:=a1) ew bn av ZF λel Jn Rc=>?_;have Rd:el.heap.Ns aX aA:=bt.at' λo i=>Jn.1 _ o Rb i;refine(dj aA Rd λaa ea=>Y.pure<|Y.pure ⟨U,(Am p N el.heap.objs.size ?_ (eL.up<|bb gO.2 Jn.2) ?_)⟩)
 .have eB:a9 [aX] [] el {el with heap:=aa}:=bJ.same (x:=el.toks) ea;refine f_.inside<|((gO.mono aW λw c=>c).trans Jn).hj eB (λb m=>.inr<|bm m▸gz fW) aW
 .have eB:a9 [aX] [] el {el with heap:=aa}:=bJ.same (x:=el.toks) ea;refine(Rc.yY (cb:=[aX]) (λG ab=>b3 ab) (λG ab=>bm ab▸Rb) (λG ab=>bm ab▸bb aO fW) (ak:=[]) aW (λb o m i=>gJ λw bI=>jD Rd λdb aB AC ck bl w=>?_) eB).Nc (λb m=>bO m)<|mF ea.1.symm;rw[bm m,ck]at i;cases i;exact bI<|Za bl
end bq
section
variable{g:dw}{z:Nat}{Q:c4}{A:b0}{n:Env}{p N aF aY:List aq}{S:Nat}{q:bY}{a:ag}{f:Str}{u mP:bh}{a4:al}{i:bB}{aB:List bB}{aj di:Pos}{l:ha}{ep:List ez}{h:aq}{bi:uH}
inductive vv(g:dw)(h:aq)(bi:uH)(ep:List ez):Prop|mk(fS:∃o,g.s0.heap.get? h=W o/\o.data=.func bi)(fT:h∉g.tabs)(gy:bi.scope.isCoroutine=a1)(jI:bi.scope.isGenerator=a1)(lm:bi.body=.stmts ep)(nZ:∃e o O E,bi.code=.ref e/\e∉g.tabs/\g.s0.heap.get? e=W o/\o.data=.fields O/\O[1]?=W (.str bi.qualname E))(vg:bi.scope.kind=.function)(D9:∀f∈bi.scope.names,f.2≠.free)(I':bi.closure=[])(QF:bi.globals=3)(ZG:bi.builtins=0):vv g h bi ep
theorem vv.at_(az:g.Ok)(c:vv g h bi ep)(b:fh g a):FnAt a h bi ep:=by exact br c.1 λo i bl=>WY c.6 λe rI O E bG cr eE hE sN=>⟨⟨o,b.1.1 _ _ c.2 i,bl⟩,c.3,c.4,c.5,⟨e,rI,O,E,bG,b.1.1 _ _ cr eE,hE,sN⟩,c.7,c.8,c.9,az.3 a b⟩
noncomputable def gG(g:dw)(z:Nat)(Q:c4)(A:b0):List bB->List (ha×bh)->Prop|[],[]=>True|i::aB,(l,u)::O=>d0 i=Z/\ae g z Q A i l u/\gG g z Q A aB O|bL,dQ=>False
noncomputable def mr(S:Nat)(p:List aq):List (ha×bh)->ag->List al->Prop|[],bL,aR=>aR=[]|(l,u)::O,a,aR=>∃g y,aR=g::y/\e' S p l u a g/\mr S p O a y
theorem gG.star:∀{aB:List bB}{O:List<|ha×bh},gG g z Q A aB O->aB.all d0=Z|[],[],bL=>U|i::aB,(l,u)::O,c=>by refine V nQ<|V c.1<|V (gG.star c.2.2) ?_;rfl
theorem gG.sj{q:bY}{n:Env}{p N aF:List aq}{S:Nat}(ax:eK z q)(L:n.scope=Q)(M:cM g n p N aF S):∀{aB:List bB}{O:List<|ha×bh},gG g z Q A aB O->mR g.prog g.w q [] [] n (bw g n p N S A) aB (mr S p O)|[],[],bL=>λa C aj aZ ah=>iY a C aj aZ λaR v s c=>ah aR v s c|i::aB,(l,u)::O,c=>λa C aj aZ ah=>hN c.1 M.ok (c.2.1 q n p N aF S ax L M) e'.iB (gG.sj ax L M c.2.2) a C aj aZ λaR v s c=>ah aR v s c
noncomputable def ha.slot:ha×bh->Slot|(.ls,u)=>.b u|(bL,u)=>.f u
noncomputable def xY:(ha×bh)->al->bh|(.ls,bL),g=>.raw g|(bL,u),dQ=>u
theorem mr.length:∀{O:List<|ha×bh}{aR:List al},mr S p O a aR->aR.length=O.length|[],aR,c=>by refine V (show aR=[]from c) ?_;rfl|(l,u)::O,aR,c=>by obtain⟨g,y,rfl,_,c⟩:=c;exact V iy<|V iy<|V (mr.length c) U
noncomputable def A2:List (ha×bh)->List al->List bh|h::ec,g::aR=>xY h g::A2 ec aR|bL,dQ=>[]
theorem mr.Gv(co:∀h∈p,h<S):∀{O:List<|ha×bh}{aR:List al},mr S p O a aR->bW a.heap p (A2 O aR) aR|[],aR,c=>c|(l,u)::O,aR,c=>by obtain⟨g,y,rfl,af,c⟩:=c;refine(jg g y U ?_<|mr.Gv co c);cases l with|ls=>exact U|fr=>exact af.b2 co bd|b2=>exact af
theorem Jo{f:Str}{h:aq}:∀{D:List<|Str×aq},D.lookup f=W h->(f,h)∈D|[],c=>dI c|(B,b)::y,c=>by rw[sf]at c;cases i:f==B with|true=>replace c:=i▸c;cases c;exact V (eq_of_beq i) bz|false=>replace c:=i▸c;exact mt<|Jo c
theorem Re(a:ag)(a6:c4):∀f B h b,(cellsFrom (a.heap.objs.size+1) a6.names []).lookup f=W h->(cellsFrom (a.heap.objs.size+1) a6.names []).lookup B=W b->f≠B->h≠b:=by have jl:=cellsFrom_ok a6.names (a.heap.push {cls:=.type "frame",data:=.dict #[]}) (a.heap.objs.size+1) [] ⟨λw w c=>(dt c),O2⟩ (by refine V (fZ ..) ?_;exact dA _);rw[fZ]at jl;intro f B h b a7 m c9 i;subst i;have ku:=Jo a7;have dR:=Jo m;have aZ:=jl.apart;generalize cellsFrom (a.heap.objs.size+1) a6.names []=D at ku dR aZ;induction D with
 |nil=>exact dt ku|cons r D a2=>
  rw[List.pairwise_cons]at aZ;refine g_ (fR.mp ku) (λe=>?_) λe=>?_
  .refine g_ (fR.mp dR) (λdg=>?_) λdg=>?_
   .rw[<-e]at dg;cases dg;exact c9 U
   .exact aZ.1 _ dg<|b' e U
  .exact g_ (fR.mp dR) (λdg=>aZ.1 _ e<|b' dg U) λdg=>a2 e dg aZ.2
noncomputable def js:List Str->List (ha×bh)->b0->b0|f::aH,h::ec,A=>js aH ec<|(f,ha.slot h)::A|bL,dQ,A=>A
theorem Rf:∀{aH:List Str}{ec:List<|ha×bh}{aR:List al}{A:b0}{gn:List<|Str×bh}{B:Str}{bx:Slot},aH.length=aR.length->ec.length=aR.length->(∀B bx,fo A B bx->∃h g,bx=ha.slot h/\xE gn B (xY h g)/\e' S p h.1 h.2 a g)->mr S p ec a aR->fo (js aH ec A) B bx->∃h g,bx=ha.slot h/\xE (xL (aH.zip aR) (A2 ec aR) gn) B (xY h g)/\e' S p h.1 h.2 a g:=by intro aH;induction aH with
 |nil=>intro ec aR A gn B bx aI nr aO aM c;cases aR with
  |nil=>cases ec with
   |nil=>exact aO B bx c|cons _ _=>cases nr
  |cons _ _=>cases aI
 |cons f aH a2=>intro ec aR A gn B bx aI nr aO aM c;cases ec with
  |nil=>cases aR with
   |nil=>cases aI|cons _ _=>cases nr
  |cons jQ ec=>
   obtain⟨l,u⟩:=jQ;refine ei aM λg y dv af ap=>?_;obtain rfl:=dv;refine a2 (ec:=ec) (aR:=y) (A:=(f,ha.slot (l,u))::A) (gn:=(f,xY (l,u) g)::gn) (by simpa using aI) (by simpa using nr) (λG bx ab=>?_) ap c;rcases i2 ab with⟨rfl,rfl⟩|⟨c9,ab⟩
   .exact(jg (l,u) g U .here af)
   .exact ei (aO G bx ab) λh be i e dg=>(jg h be i (.there (beq_false_of_ne<|iA c9) e) dg)
theorem ZH{o:Obj}{eb:List Str}{ec:List<|ha×bh}{aR:List al}{C:al->ag->Prop}(az:g.Ok)(ax:eK (z+1) q)(bg:vv g h bi ep)(M:cM g n p N aF S)(r:bw g n p N S A a)(aM:mr S p ec a aR)(aI:ec.length=eb.length)(m:iO a bi ⟨aR,[]⟩<|eb.zip aR)(aP:eb.all (lu bi.scope)=Z)(iG:bq g z bi.scope [] (js eb ec []) ep<|λcO w=>cO=.ret mP)(ah:∀a4 v,a9 [] [] a v->cf v.heap p mP a4->C a4 v):Y g.prog g.w q (er (.ref h) aR []) C a:=by
 have cL:=aM.length;have hf:g.s0.heap.objs.size<=a.heap.objs.size:=r.2.1.2;have i3:∀f∈p,f<a.heap.objs.size:=λf R=>cw (M.8 f R) r.1;have A3:=Re a bi.scope;have cr:(eb.zip aR).map (·.2)=aR:=by have:aR.length=eb.length:=cL.trans aI;rw[NZ];exact c3 (.l .x .y) [.e .x .y] U this
 refine Y0 (p:=p) (O:=A2 ec aR) (ih:=eb.zip aR) (mG (bb (iw _ _) ax.2) bd) (bg.at_ az r.2) m (λe a5=>?_) (cr.symm▸aM.Gv M.8) i3 λv dP bn=>?_
 .refine(vh<|hn.mp aP _<|(N0 a5).1).elim .inl λaS=>?_
  .exact c5 (G1.mp<|AL bi.scope.names (a.heap.objs.size+1) [] e.1<|.inr aS) λb dR=>.inr ⟨b,aS,dR,λB A0 w a8 c9=>A3 _ _ _ _ a8 dR c9⟩
 .have AV:∀b∈b4<|cX bi h a,b<v.heap.objs.size:=λb m=>bn.1 b<|b3 m;have bX:a9 [] [] a v:=bn.3;have ew:cM g (cX bi h a) (b4 (cX bi h a)++p) [] p v.heap.objs.size:=by exact⟨bg.7,bg.10,bg.11,λb m=>⟨b3 m,bb hf<|dP b m,(λe=>dt e),λe=>cd (i3 b e)<|dP b m⟩,aW,λb m=>bO m,λb m=>M.6 b<|M.7 b m,bn.1,λb m=>bN m (λe=>.inr<|bb hf<|dP b e) λe=>M.9 b e,A3⟩
  have xZ:bw g (cX bi h a) (b4 (cX bi h a)++p) [] v.heap.objs.size (js eb ec []) v:=by
   refine br bn.2 λcV ar vb=>?_;have cF:∀B bx,fo (js eb ec []) B bx->∃iJ be,bx=ha.slot iJ/\(∃j,cV B=W j/\cf v.heap (b4 (cX bi h a)++p) (xY iJ be) j)/\e' S p iJ.1 iJ.2 a be:=λB bx a8=>by exact ei (Rf (S:=S) (p:=p) (a:=a) (gn:=[]) (nW [1,1,1] [1,-1,-1] (.e .x .y) [.e .z .x,.e .y .z] U aI cL) (id<|Dm cL) (by intro _ _ c;cases c) aM a8) λiJ be i e dg=>⟨iJ,be,i,vb _ _ e,dg⟩
   refine⟨dA _,r.2.to bX aW,cV,ar,λB bx a8=>?_,λB aN a8=>?_,λB aN a8=>?_⟩
   .refine ei (cF B bx a8) λek be e_ gX vw=>?_;obtain⟨l,u⟩:=ek;refine V e_ ?_;obtain⟨j,bS,av⟩:=gX;refine⟨j,bS,?_⟩;cases l with
    |fr=>exact av|b2=>exact av|ls=>
     have jk:j=be:=by have aa:cf v.heap (b4 (cX bi h a)++p) (.raw be) j:=av;exact aa
     exact V jk<|br vw λb i y=>⟨b,i,y.to (λb o m i=>⟨bX.all b o i,by refine g2 mb<|g2 not_or ?_;exact⟨λe=>cd (dB i)<|dP b e,m⟩⟩) λo i=>bX.all _ o i⟩
   .refine gc (cF B _ a8) λgF be i w=>?_;obtain⟨l,u⟩:=gF;cases l<;>cases i
   .refine ei (cF B _ a8) λhq be i iZ vw=>?_;obtain⟨l,u⟩:=hq;obtain⟨j,bS,av⟩:=iZ;cases l<;>cases i;have jk:j=be:=by have aa:cf v.heap (b4 (cX bi h a)++p) (.raw be) j:=av;exact aa
    subst jk;refine br vw λb i y=>?_;subst i;exact⟨b,bS,(λe=>dt e),λe=>cd y.lt<|dP b e⟩
  have gf:eK z (q.deeper<|cX bi h a):=⟨ax.1,by have:=ax.2;show q.depth+1+z<=900;exact c3 (.l (.a (.o .x) .y)<|.n 900) [.l (.a .x<|.o .y)<|.n 900] U this,by have:=ax.3;show q.units+3+4*z<=5000;exact c3 (.l (.a (.a .x<|.n 3)<|.m 4 .y)<|.n 5000) [.l (.a .x<|.m 4<|.o .y)<|.n 5000] U this⟩;refine Y.mono (iG (q.deeper<|cX bi h a) (cX bi h a) _ [] p _ v gf U ew xZ) ?_;rintro I el e;refine e.hO λcO bU bu cW c0 e u9 eh dg=>?_;obtain rfl:=e;obtain⟨a4,rfl,av⟩:=dg;exact⟨a4,U,ah a4 el (bX.hj eh.4 (λb m=>.inr<|gz<|dP b (by simpa using m)) aW) av⟩
theorem ae.call{f:Str}{eb:List Str}{ec:List<|ha×bh}(az:g.Ok)(aK:g.gl f=W (.ref h))(R:eA Q f=Z)(bg:vv g h bi ep)(a7:gG g (z+1) Q A aB ec)(aI:ec.length=eb.length)(m:∀a aR,aR.length=eb.length->iO a bi ⟨aR,[]⟩ (eb.zip aR))(aP:eb.all (lu bi.scope)=Z)(iG:bq g z bi.scope [] (js eb ec []) ep<|λcO w=>cO=.ret mP)(vx:aB.length<20):ae g (z+1) Q A (.Call (.Name f di) aB [] aj) .b2 mP:=λq n p N aF S ax L M=>by subst L;exact br bg.1 λo i bl=>YY (o:=o) M.ok (hB az M aK R) (λa r=>r.2.1.1 _ _ bg.2 i) bl (a7.sj ax U M) (λa aR r aM C ah=>ZH (o:=o) az ax bg M r aM aI (m a aR<|aM.length.trans aI) aP iG λa4 v s y=>ah a4 v s y) vx a7.star<|vi R
theorem ZI(aA:Nat):rk 0 aA 8=((aA+7)/8:Nat):=by cases aA with|zero=>rfl|succ l=>show(if(0:Int)<((l+1:Nat):Int)then(((l+1:Nat):Int)-0-1)/8+1 else 0)=((l+8)/8:Nat);rw[if_pos<|Nv.mpr<|zQ l,NG l bd,Int.sub_zero];exact congrArg (λG:Int=>G/8+1)<|Int.add_sub_cancel (l:Int) 1
end
structure Inv where
 W:List aq
 G:List Nat
 St:List aq->ag->Prop
 frame:∀p a v cb c6,St p a->a9 cb c6 a v->(∀b∈cb,b∈p/\b∉W)->(∀s∈c6,s∉G)->St p v
 mono:∀p bu a,St p a->(∀b∈bu,b∈p\/a.heap.objs.size<=b)->St bu a
inductive Inv.At(ai:Inv)(g:dw)(n:Env)(p N:List aq)(a:ag):Prop|mk(fS:ai.St p a)(fT:∀b∈ai.W,b∈p/\b∉N/\b∉b4 n/\(b∈g.tabs\/g.s0.heap.objs.size<=b)/\b<a.heap.objs.size)(gy:∀k∈ai.G,g.s0.gens.size<=k/\k<a.gens.size):Inv.At ai g n p N a
inductive gP(ai:Inv)(n:Env)(p N bu cW:List aq)(b1:Inv)(a v:ag):Prop|mk(fS:∀b∈p,b∈bu)(fT:∀b∈bu,b∈p\/a.heap.objs.size<=b)(gy:∀b∈cW,b∈N\/a.heap.objs.size<=b)(jI:∀b∈b1.W,b∈ai.W\/a.heap.objs.size<=b)(lm:∀k∈b1.G,k∈ai.G\/a.gens.size<=k)(nZ:a9 (N++b4 n++ai.W) ai.G a v):gP ai n p N bu cW b1 a v
theorem gP.refl(ai:Inv)(a:ag):gP ai n p N p N ai a a:=⟨λw c=>c,λw c=>.inl c,λw c=>.inl c,λw c=>.inl c,λw c=>.inl c,bJ.refl ..⟩
theorem gP.trans(h:gP ai n p N dn jr dX a an)(b:gP dX n dn jr mq nw oT an am):gP ai n p N mq nw oT a am:=by
 refine⟨λB c=>b.1 B<|h.1 B c,λB c=>(b.2 B c).elim (h.2 B) λe=>.inr<|bb h.6.2 e,λB c=>(b.3 B c).elim (h.3 B) λe=>.inr<|bb h.6.2 e,λB c=>(b.4 B c).elim (h.4 B) λe=>.inr<|bb h.6.2 e,λB c=>(b.5 B c).elim (h.5 B) λe=>.inr<|bb h.6.4 e,h.6.hj b.6 (λB a8=>?_) λB a8=>(h.5 B a8).imp id ss⟩;refine bN a8 (λa8=>?_) λa8=>?_
 .exact bN a8 (λa8=>(h.3 B a8).elim (λe=>.inl<|b3<|b3 e) λe=>.inr<|gz e) λa8=>.inl<|b3<|bO a8
 .exact(h.4 B a8).elim (λe=>.inl<|bO e) λe=>.inr<|gz e
theorem f_.wm(c:f_ [] n p N bu cW a v):gP ai n p N bu cW ai a v:=⟨c.1,c.2,c.3,λw c=>.inl c,λw c=>.inl c,c.4.mono (λb m=>b3 (by simpa using m)) aW⟩
theorem Inv.At.step{ai:Inv}{bu cW:List aq}(c:ai.At g n p N a)(M:cM g n p N aF S)(s:f_ [] n p N bu cW a v):ai.At g n bu cW v:=by
 refine⟨?_,λb m=>?_,λk ac=>⟨(c.3 k ac).1,cw (c.3 k ac).2 s.4.4⟩⟩
 .refine ai.frame _ _ _ _ _ (ai.mono _ _ _ c.1 s.2) s.4 (λb m=>?_) aW;simp only[uN,mb]at m;exact g_ (m) (λe=>⟨s.1 b (M.5 b e).1,λj=>(c.2 b j).2.1 e⟩) λe=>⟨s.1 b (M.4 b e).1,λj=>(c.2 b j).2.2.1 e⟩
 .exact kK (c.2 b m) λdT d8 dO eM gg=>⟨s.1 b dT,λe=>(s.3 b e).elim d8 λG=>cd gg G,dO,eM,cw gg s.4.2⟩
inductive vy(g:dw)(ai:Inv)(n:Env)(p N aF:List aq)(cu:jq->b0->Inv->Prop)(a:ag)(I:gb)(v:ag):Prop|mk(cO:jq)(bU:b0)(bu cW:List aq)(c0:Nat)(b1:Inv)(af:cu cO bU b1)(ap:fh g v)(bk:gP ai n p N bu cW b1 a v)(cx:Ef g n bu cW aF c0 bU cO I v)(ef:b1.At g n bu cW v):vy g ai n p N aF cu a I v
theorem vy.hO{ai:Inv}{cu:jq->b0->Inv->Prop}{I:gb}{v:ag}{ak:Prop}(c:vy g ai n p N aF cu a I v)(l:∀cO bU bu cW c0 b1,cu cO bU b1->fh g v->gP ai n p N bu cW b1 a v->Ef g n bu cW aF c0 bU cO I v->b1.At g n bu cW v->ak):ak:=c.casesOn l
def ct(g:dw)(z:Nat)(q:bY)(Q:c4)(ai:Inv)(A:b0)(st:List ez)(cu:jq->b0->Inv->Prop):Prop:=∀(n:Env)(p N aF:List aq)(S:Nat)(a:ag),eK z q->n.scope=Q->cM g n p N aF S->bw g n p N S A a->ai.At g n p N a->Y g.prog g.w q (dE st n) (vy g ai n p N aF cu a) a
theorem vy.trans{ai dX:Inv}{dn jr:List aq}{a an am:ag}{cu:jq->b0->Inv->Prop}{I:gb}(h:gP ai n p N dn jr dX a an)(b:vy g dX n dn jr aF cu an I am):vy g ai n p N aF cu a I am:=b.hO λcO bU bu cW c0 b1 af ap bk cx ef=>⟨cO,bU,bu,cW,c0,b1,af,ap,h.trans bk,cx,ef⟩
theorem ZJ{prog:cl}{j:b7}{st:ez}{b_:gb->ag->Prop}(c:Y prog j q (dE [st] n) (λI v=>(I=.next->Y prog j q (dE ca n) b_ v)/\(I≠.next->b_ I v)) a):Y prog j q (dE (st::ca) n) b_ a:=by rw[pU]at c⊢;intro A r cn af ap;have aa:=c A r cn af ap;rw[z']at aa⊢;refine md _ A _ (λI bn v bg=>?_) (λw w w f=>f) r a aa;cases I with|next=>rw[wU]at bg;exact(bg.1 U) A bn cn af ap|brk=>exact bg.2<|λe=>nomatch e|cont=>exact bg.2<|λe=>nomatch e|ret u=>exact bg.2<|λe=>nomatch e
namespace ct
theorem nil(c:cu .next A ai):ct g z q Q ai A [] cu:=λn p N aF S a ax L M r ac=>by exact Y.eq (wU ..)<|Y.pure ⟨.next,A,p,N,S,ai,c,r.2,gP.refl ai a,⟨U,M,r⟩,ac⟩
theorem le(aI:he bU A)(c:ct g z q Q ai bU ca cu):ct g z q Q ai A ca cu:=λn p N aF S a ax L M r=>c n p N aF S a ax L M<|r.le λf bx e=>aI.has e
theorem nM{st:ez}(c:bq g z Q [] A [st]<|λcO bU=>match cO with|.next=>ct g z q Q ai bU ca cu|cO=>cu cO bU ai):ct g z q Q ai A (st::ca) cu:=λn p N aF S a ax L M r ac=>by refine ZJ<|Y.mono (c q n p N aF S a ax L M r) ?_;rintro I an e;refine e.hO λcO bU bu cW c0 aZ m eh bp=>?_;cases cO with|next=>obtain⟨rfl,ew,bn⟩:=bp;exact⟨λw=>Y.mono (aZ n bu cW aF c0 an ax L ew bn<|ac.step M eh) λI v aa=>aa.trans eh.wm,λe=>absurd U e⟩|brk=>obtain⟨rfl,bp⟩:=bp;exact⟨(λe=>nomatch e),λw=>⟨.brk,bU,bu,cW,c0,ai,aZ,m,eh.wm,⟨U,bp⟩,ac.step M eh⟩⟩|cont=>obtain⟨rfl,bp⟩:=bp;exact⟨(λe=>nomatch e),λw=>⟨.cont,bU,bu,cW,c0,ai,aZ,m,eh.wm,⟨U,bp⟩,ac.step M eh⟩⟩|ret u=>obtain⟨a4,rfl,bp⟩:=bp;exact⟨(λe=>nomatch e),λw=>⟨.ret u,bU,bu,cW,c0,ai,aZ,m,eh.wm,⟨a4,U,bp⟩,ac.step M eh⟩⟩
theorem next{st:ez}(af:∀(n:Env)(p N aF:List aq)(S:Nat)(a:ag),eK z q->n.scope=Q->cM g n p N aF S->bw g n p N S A a->ai.At g n p N a->Y g.prog g.w q (exec st n) (λI an=>I=.next/\∃vr dX dn jr e6,gP ai n p N dn jr dX a an/\cM g n dn jr aF e6/\bw g n dn jr e6 vr an/\dX.At g n dn jr an/\ct g z q Q dX vr ca cu) a):ct g z q Q ai A (st::ca) cu:=λn p N aF S a ax L M r ac=>by refine D5<|Y.mono (af n p N aF S a ax L M r ac) ?_;rintro I an bP;exact cY bP λcB dv=>H' dv λvr dX dn jr e6 eh h4 c_ gH c=>V cB<|⟨U,Y.mono (c n dn jr aF e6 an ax L h4 c_ gH) λI v aa=>aa.trans eh⟩
end ct
def mX(g:dw)(z:Nat)(Q:c4)(A:b0)(b8 i:bB)(bA:List bh):Prop:=∀(q:bY)(n:Env)(p N aF:List aq)(S K:Nat),eK z q->n.scope=Q->cM g n p N aF S->cm g.prog g.w q [] [] n (λa=>bw g n p N S A a/\K<=a.gens.size) i (λa a4=>xO g.prog g.w q b8 S K [] [] p p a4 bA a)
theorem mX.tup(c:ae g z Q A i .b2<|.tup aH):mX g z Q A (.Name f di) i aH:=λq n p N aF S K ax L M a C r ah=>let r:=r.1
 c q n p N aF S ax L M a C r λa4 v s aM=>ah a4 v s<|QT (r.grow s).1 ax.1 (λb m=>cw (M.8 b m) (r.grow s).1) (λw c=>c) aM
theorem mX.v_(c:∀(q:bY)(n:Env)(p N aF:List aq)(S:Nat),eK z q->n.scope=Q->cM g n p N aF S->cm g.prog g.w q [] [] n (bw g n p N S A) i (AJ p h b t)):mX g z Q A (.Name f di) i ((h3 h b t).map .int):=λq n p N aF S K ax L M a C r ah=>let r:=r.1
 c q n p N aF S ax L M a C r λa4 v s aM=>ah a4 v s<|QU (r.grow s).1 ax.1 (λb m=>cw (M.8 b m) (r.grow s).1) aM
theorem mX.v'{f:Str}{t:Nat}{e:Pos}(az:g.Ok)(c:dd g z Q A i t)(aK:g.gl "range"=W (.type "range"))(R:eA Q "range"=Z)(ay:d0 i=Z)(ab:t<2^62):mX g z Q A (.Name f di) (.Call (.Name "range" e) [i] [] aj) ((h3 0 1 t).map .int):=mX.v_ λq n p N aF S ax L M=>by subst L;exact Qz M.ok (hB az M aK R) ay (eT c ax U M) ab
theorem Inv.At.it{ai:Inv}{a0:List aq}{bQ:List Nat}(c:ai.At g n p N a)(s:a9 a0 bQ a v)(co:∀b∈a0,b∈p/\b∉ai.W)(lr:∀k∈bQ,k∉ai.G):ai.At g n p N v:=⟨ai.frame _ _ _ _ _ c.1 s co lr,λb m=>kK (c.2 b m) λdT d8 dO eM gg=>⟨dT,d8,dO,eM,cw gg s.2⟩,λk ac=>⟨(c.3 k ac).1,cw (c.3 k ac).2 s.4⟩⟩
theorem Inv.At.wide{ai:Inv}{bu:List aq}(c:ai.At g n p N a)(e4:∀b∈p,b∈bu)(co:∀b∈bu,b∈p\/a.heap.objs.size<=b):ai.At g n bu N a:=⟨ai.mono _ _ _ c.1 co,λb m=>cY (c.2 b m) λdT y=>⟨e4 b dT,y⟩,c.3⟩
namespace ct
theorem oU(ae:Nat->b0->Inv->Prop)(bg:sH ic)(gB:mX g z Q A b8 ic bA)(oH:∀k f bU b1,bA[k]?=W f->ae k bU b1->mV a1 Q b8 f/\ct g z q Q b1 (lv b8 f bU) ep (λcO vs Jp=>match cO with
   |.next|.cont=>ae (k+1) vs Jp|.brk=>ct g z q Q Jp vs ca cu|.ret u=>cu (.ret u) vs Jp))(aO:ae 0 A ai)(qr:∀bU b1,ae bA.length bU b1->ct g z q Q b1 bU ca cu):ct g z q Q ai A (.For b8 ic ep [] aj::ca) cu:=λn p N aF S a ax L M r ac=>by
 refine QA (λf=>bg n f) ?_;have iH:=r.now;have eL:=M.up (c0:=a.heap.objs.size) r.1;have hf:g.s0.heap.objs.size<=a.heap.objs.size:=r.2.1.2;refine gB q n p N aF _ a.gens.size ax L eL a _ ⟨iH,dA _⟩ λa4 an aL qz=>qz _ λdp am bF a0 bQ St aT=>⟨dp,U,?_⟩;have a_:=aT.3;have g6:a.heap.objs.size<=am.heap.objs.size:=bb aL.2 a_.2;have fq:∀b∈a0,a.heap.objs.size<=b/\b<am.heap.objs.size:=λb m=>⟨(aT.4 b m).elim id<|λe=>dt e,(aT.7 b<|aT.1.1 b m).1⟩;have mW:∀k∈bQ,a.gens.size<=k/\k<am.gens.size:=λk ac=>⟨(aT.5 k ac).elim id<|λe=>dt e,aT.6 k ac⟩;have AY:∀k∈bQ,g.s0.gens.size<=k:=λk ac=>bb r.2.1.4 (mW k ac).1;have dS:=iH.m6 (aL.trans a_)<|λb m=>(fq b m).1;have jR:=aL.trans a_;have AZ:∀b∈a0,b∉b4 n:=λb m e=>cd (eL.8 b (eL.4 b e).1) (fq b m).1;have Jl:∀b∈a0++(N++b4 n++ai.W),b∈a0++p:=λb m=>by
  refine bN m (λe=>?_) λe=>?_
  .exact b3 e
  exact bO<|bN e (λe=>bN e (λe=>(eL.5 b e).1) λe=>(eL.4 b e).1) λe=>(ac.2 b e).1
 have Jq:∀{b1:Inv},(∀k∈b1.G,k∈ai.G\/am.gens.size<=k)->∀k∈bQ,k∉b1.G:=λc k aK e=>(c k e).elim (λe=>cd (ac.3 k e).2 (mW k aK).1) λe=>cd (mW k aK).2 e;have Rg:∀{b1:Inv},(∀b∈b1.W,b∈ai.W\/am.heap.objs.size<=b)->∀b∈a0,b∉b1.W:=λc b m e=>(c b e).elim (λe=>cd (ac.2 b e).2.2.2.2 (fq b m).1) λe=>cd (fq b m).2 e;have vt:∀{bu cW:List aq}{b1:Inv}{E:ag},(∀b∈a0++p,b∈bu)->(∀b∈bu,b∈a0++p\/am.heap.objs.size<=b)->(∀b∈cW,b∈N\/am.heap.objs.size<=b)->(∀b∈b1.W,b∈ai.W\/am.heap.objs.size<=b)->(∀k∈b1.G,k∈ai.G\/am.gens.size<=k)->a9 (a0++(N++b4 n++ai.W)) (bQ++ai.G) am E->gP ai n p N bu cW b1 a E:=by
  intro bu cW b1 E dT d8 dO gg sO eM;refine⟨λb m=>dT b<|bO m,λb m=>(d8 b m).elim (λe=>bN e (λe=>.inr (fq b e).1) .inl) λe=>.inr<|bb g6 e,λb m=>(dO b m).elim .inl λe=>.inr<|bb g6 e,λb m=>(gg b m).elim .inl λe=>.inr<|bb g6 e,λb m=>(sO b m).elim .inl λe=>.inr<|bb (bb aL.4 a_.4) e,((jR.mono aW aW).hj eM (λb m=>?_) λk ac=>?_)⟩
  .exact bN m (λe=>.inr<|gz (fq b e).1) λe=>.inl e
  .exact bN ac (λe=>.inr<|ss (mW k e).1) λe=>.inl e
 refine QK aT.1 (λk E=>∃bU bu cW c0 b1,ae k bU b1/\(∀b∈a0++p,b∈bu)/\(∀b∈bu,b∈a0++p\/am.heap.objs.size<=b)/\(∀b∈cW,b∈N\/am.heap.objs.size<=b)/\(∀b∈b1.W,b∈ai.W\/am.heap.objs.size<=b)/\(∀k∈b1.G,k∈ai.G\/am.gens.size<=k)/\a9 (a0++(N++b4 n++ai.W)) (bQ++ai.G) am E/\cM g n bu cW aF c0/\bw g n bu cW c0 bU E/\b1.At g n bu cW E) ?_ ?_ ⟨A,a0++p,N,_,ai,aO,λw c=>c,λw c=>.inl c,λw c=>.inl c,λw c=>.inl c,λw c=>.inl c,bJ.refl ..,(eL.m6 fq hf g6),dS,((ac.wide (λb m=>bO m) λb m=>bN m (λe=>.inr (fq b e).1) .inl).it jR aW aW)⟩ aT.2
 .rintro k f qy E u R bP sG aM oS gN;refine Po bP λbU bu cW c0 b1 eu dT d8 dO gg sO eM ew bn gp=>?_;have c_:bw g n bu cW c0 bU E:=bn.yY (cb:=a0) (λG ab=>dT G<|b3 ab) AZ (λG ab=>bb hf (fq G ab).1) AY (λb o m i=>aT.1.6 k qy b o sG m i) gN;have gH:b1.At g n bu cW E:=gp.it gN (λb m=>⟨dT b<|b3 m,Rg gg b m⟩)<|Jq sO;refine cY (oH k f bU b1 R eu) λbC iG=>Y.bind<|AR (b:=a1) ax.1 ew c_ (aM bu _ (λb m=>⟨cw (ew.8 b m) bn.1,(d8 b m).elim (λe=>bN e (λe=>.inr<|.inl e) .inl) λe=>.inr<|.inr e⟩)<|eM.mono (λb m=>dT b<|Jl b m) λw c=>c) (L▸bC) λiI sJ dS=>Y.mono (iG n bu cW aF c0 iI ax L ew dS<|gH.step ew<|f_.inside sJ) ?_;rintro I n5 cB;refine cB.hO λcO nx mq nw qB oT aZ m eh bp t4=>?_;have fX:∀b∈a0++p,b∈mq:=λb m=>eh.1 b<|dT b m;have xV:am.heap.objs.size<=iI.heap.objs.size:=bb eM.2<|bb gN.2 sJ.2;have gY:∀b∈mq,b∈a0++p\/am.heap.objs.size<=b:=λb m=>(eh.2 b m).elim (d8 b) λe=>.inr<|bb xV e;have jO:∀b∈nw,b∈N\/am.heap.objs.size<=b:=λb m=>(eh.3 b m).elim (dO b) λe=>.inr<|bb xV e;have Eg:∀b∈oT.W,b∈ai.W\/am.heap.objs.size<=b:=λb m=>(eh.4 b m).elim (gg b) λe=>.inr<|bb xV e;have x0:∀k∈oT.G,k∈ai.G\/am.gens.size<=k:=λb m=>(eh.5 b m).elim (sO b) λe=>.inr<|bb (bb eM.4<|bb gN.4 sJ.4) e;have ny:a9 (a0++(N++b4 n++ai.W)) (bQ++ai.G) am n5:=by exact((eM.trans<|gN.mono (λb m=>b3 m) λw c=>b3 c).trans<|sJ.mono (λb m=>bO<|b3<|bO m) aW).hj eh.6 (λb m=>bN m (λe=>bN e (λe=>(dO b e).elim (λe=>.inl<|bO<|b3<|b3 e) λe=>.inr<|gz e) λe=>.inl<|bO<|b3<|bO e) λe=>(gg b e).elim (λe=>.inl<|bO<|bO e) λe=>.inr<|gz e) λk ac=>(sO k ac).elim (λe=>.inl<|bO e) λe=>.inr<|ss e
  have rH:St (k+1) n5:=by have a5:∀b∈N++b4 n++ai.W,b∉bF:=λb m e=>(aT.7 b e).2<|bN m (λe=>bN e (λe=>(eL.5 b e).1) λe=>(eL.4 b e).1) λe=>(ac.2 b e).1;exact aT.1.2 _ _ _ (cW++b4 n++b1.W) b1.G oS ((sJ.mono (λb m=>b3<|bO m) aW).trans eh.6) (λb m=>bN m (λm=>bN m (λm=>g_ (dO b m) (λG=>a5 b<|b3<|b3 G) λG=>λe=>cd (aT.7 b e).1 G) λm=>a5 b<|b3<|bO m) λm=>g_ (gg b m) (λG=>a5 b<|bO G) λG=>λe=>cd (aT.7 b e).1 G) λk ac e=>Jq sO k e ac
  cases cO with
  |next=>refine eQ bp λdv qC qD=>?_;exact V dv<|⟨⟨nx,mq,nw,qB,oT,aZ,fX,gY,jO,Eg,x0,ny,qC,qD,t4⟩,rH⟩|cont=>refine eQ bp λek qC qD=>?_;exact V ek<|⟨⟨nx,mq,nw,qB,oT,aZ,fX,gY,jO,Eg,x0,ny,qC,qD,t4⟩,rH⟩|brk=>exact eQ bp λe_ qC qD=>V e_<|.inl ⟨U,Y.mono (aZ n mq nw aF qB n5 ax L qC qD t4) λI v aa=>aa.trans<|vt fX gY jO Eg x0 ny⟩|ret u=>exact br bp λa4 gX av=>V gX<|.inr ⟨a4,U,.ret u,nx,mq,nw,qB,oT,aZ,m,vt fX gY jO Eg x0 ny,⟨a4,U,av⟩,t4⟩
 .rintro qy E gF sG gN;refine Po gF λbU bu cW c0 b1 eu dT d8 dO gg sO eM ew bn gp=>?_;have c_:bw g n bu cW c0 bU E:=bn.yY (cb:=a0) (λG ab=>dT G<|b3 ab) AZ (λG ab=>bb hf (fq G ab).1) AY (λb o m i=>aT.1.6 _ qy b o sG m i) gN;have gH:b1.At g n bu cW E:=gp.it gN (λb m=>⟨dT b<|b3 m,Rg gg b m⟩)<|Jq sO;exact .inl ⟨U,Y.mono (qr bU b1 eu n bu cW aF c0 E ax L ew c_ gH) λI v aa=>aa.trans<|vt dT d8 dO gg sO<|eM.trans<|gN.mono (λb m=>b3 m) λw c=>b3 c⟩
end ct
section
section
variable{prog:cl}{j:b7}{q:bY}{a v:ag}{h aX:aq}{s t aD:Nat}{bF a0:List aq}{d9:Nat->al->Prop}
theorem A4(t:Nat):pV (λw=>Z) t 0=c2 t:=by unfold pV;refine V zY ?_;exact List.filter_eq_self.mpr λw w=>U
def jt(prog:cl)(j:b7)(q:bY)(h:aq)(s:Nat)(aX:aq)(bF a0:List aq)(t:Nat)(d9:Nat->al->Prop)(aD:Nat)(a:ag):Prop:=GenAt prog j q h s aX bF a0 (λw=>Z) t d9 aD a
theorem a9.moved(aA:Moved a0 (C4 s) a v)(G:iW a v):a9 a0 [s] a v:=by
 refine⟨aA.heap,G.1,λk f ac i=>?_,G.2,aA.gens.bare,aA.os⟩;rcases aA.gens with e|e
 .exact V e i
 .exact(e.1.2 k<|λc=>ac<|km.mpr c).trans i
inductive n7(h aX:aq)(bF a0:List aq):Prop|mk(fS:h≠aX)(fT:h∉bF)(gy:∀b∈a0,b∈bF)(jI:pW∈bF)(lm:pW≠aX)(nZ:pW∉a0):n7 h aX bF a0
theorem jt.frame{cb:List aq}{c6:List Nat}(c:jt prog j q h s aX bF a0 t d9 aD a)(bg:n7 h aX bF a0)(hS:a9 cb c6 a v)(dK:∀b∈cb,b∉h::aX::bF)(ji:s∉c6):jt prog j q h s aX bF a0 t d9 aD v:=by refine gJ λw bI=>eQ c λbP cB dv=>br dv λbQ lx sP=>xs bP λo nm A5 aP y=>br cB λdH mn vz=>bI ?_;have l:∀b∈h::aX::bF,∀o,a.heap.get? b=W o->v.heap.get? b=W o:=λb m o i=>hS.1 b o (λe=>dK b e m) i;exact⟨⟨o,nm,A5,l h bz o aP,y⟩,⟨dH,mn.at' λo i=>l _ (mt<|mt bg.4) o i,vz⟩,bQ,hS.3 s bQ ji lx,λel kc=>sP el λb m o i=>kc b m o<|l b (mt m) o i⟩
theorem jt.item(c:jt prog j q h s aX bF a0 t d9 aD a)(bg:n7 h aX bF a0)(cJ:q.handled=aQ)(av:q.depth<fF)(dx:aD<t){C:Option al->ag->Prop}(ah:∀u v,d9 aD u->jt prog j q h s aX bF a0 t d9 (aD+1) v->a9 (aX::a0) [s] a v->C (W u) v):Y prog j q (nO<|.ref h) C a:=by refine j7<|Y.of<|(HY (prog:=prog) (w:=j) cJ h s aX bF a0 (λw=>Z) t d9 bg.1 bg.2 bg.3 av bg.4 bg.5 bg.6).item aD a _ _ (by refine V (A4 ..)<|V oz ?_;exact dx) c λu v aM st aA G=>?_;refine gJ λw bI=>br aM λk ac M=>?_;rw[A4,mJ dx]at ac;cases ac;exact bI<|ah u v M st<|a9.moved aA G
theorem jt.done(c:jt prog j q h s aX bF a0 t d9 t a)(bg:n7 h aX bF a0)(cJ:q.handled=aQ)(av:q.depth<fF){C:Option al->ag->Prop}(ah:∀v,a9 (aX::a0) [s] a v->C aQ v):Y prog j q (nO<|.ref h) C a:=by exact j7<|Y.of<|(HY (prog:=prog) (w:=j) cJ h s aX bF a0 (λw=>Z) t d9 bg.1 bg.2 bg.3 av bg.4 bg.5 bg.6).done a _ _ (by refine V (A4 ..)<|V oz ?_;exact c) λv aA G=>ah v<|a9.moved aA G
theorem jt.self(c:jt prog j q h s aX bF a0 t d9 aD a)(bg:n7 h aX bF a0)(cJ:q.handled=aQ)(av:q.depth<fF){C:al->ag->Prop}(ah:C (.ref h) a):Y prog j q (nb<|.ref h) C a:=Y.of<|(HY (prog:=prog) (w:=j) cJ h s aX bF a0 (λw=>Z) t d9 bg.1 bg.2 bg.3 av bg.4 bg.5 bg.6).self aD a _ _ c ah
end
end
section
inductive TabAt(c:eH)(g H:aq)(cv:Array al):Prop|mk(fS:c.IsCode g H cv)(fT:c.TableAt g H cv):TabAt c g H cv
theorem TabAt.keeps(f:TabAt c g H cv)(l:∀b o,c.get? b=W o->aa.get? b=W o):TabAt aa g H cv:=⟨f.1.keeps l,f.2.keeps l⟩
theorem TabAt.kept(f:TabAt c g H cv)(l:∀b,b=g\/b=H->∀o,c.get? b=W o->aa.get? b=W o):TabAt aa g H cv:=by obtain⟨⟨o,O,Jr,Js,Jt,vf,Ju,Jv,Jw,nq,h,et,fn,rJ,x1,Eh,vA,b,y⟩,⟨⟨db,ZK,fg,fV⟩,E⟩⟩:=f;exact⟨⟨o,O,Jr,Js,Jt,vf,Ju,Jv,Jw,nq,l _ (.inl U) _ h,et,fn,rJ,x1,Eh,vA,l _ (.inr U) _ b,y⟩,⟨db,ZK,l _ (.inl U) _ fg,fV⟩,l _ (.inr U) _ E⟩
theorem TabAt.ne(f:TabAt c g H cv):g≠H:=by exact Pn f.1 λo O Jr Js Jt vf Ju Jv Jw nq h et fn rJ x1 Eh vA b x2 x3 c9=>c9
theorem TabAt.triples(f:TabAt c g H cv):TriplesOk cv.toList:=by exact Pn f.1 λo O Jr Js Jt vf Ju Jv Jw nq h et fn rJ x1 Eh vA b x2 x3 c9=>x3
theorem ZL(az:n.code=.ref g)(kS:TabAt a.heap g H cv)(ah:∀code aa x kT d7,Aa H a.heap aa->a.heap.objs.size<=aa.objs.size->TabAt aa g H kT->kT=cv++d7->C code {a with heap:=aa,toks:=x}):b9 (cq prog j) q (genexprCode n aj qualname a6) C as a:=by cases bg:codeAmong aj cv.toList with|some be=>exact wpAny_genexprCode_hit az kS.1 bg<|ah be a.heap a.toks cv #[] (HZ _ _) (dA _) kS (by simp)|none=>exact wpAny_genexprCodeX az kS.1 kS.2 bg λbe aa x bp af ap bk cx ef fL=>ah _ aa x _ _ bp (nP<|mG af ap) ⟨bk,ef⟩ U
theorem Rh{n:Env}{dk ic:bB}{f:Str}{hC:Pos}{a6:c4}{kP:List<|Str×aq}{aj:Pos}{g H:aq}{cv:Array al}{pt:List aq}{t:Nat}{sB:Nat->al->Prop}{Ei:aq->Nat->eH->Prop}{bc:bY}{d9:Nat->al->Prop}{C:al->ag->Prop}(xK:a6.isCoroutine=a1)(IV:uF a6 n=pure kP)(ln:∀B∈a6.names,B.2≠.cell)(aO:a6.names.lookup (".0":Str)=W NameKind.local)(R:a6.names.lookup f=W .local)(AG:a6.kind=.function)(fA:q.depth<fF)(aI:a.heap.NoLimit)(amG:bc.handled=aQ)(az:n.code=.ref g)(kS:TabAt a.heap g H cv)(L:∀f,genFold ic n f=pure f)(ZM:∀(ej:bY)mY v(nk:aq->ag->Prop),(∀b o,b≠H->a.heap.get? b=W o->v.heap.get? b=W o)->nk n.builtins v->b9 (cq prog j) ej (builtinsFor n.globals n.builtins) nk mY v)(Ej:∀b∈pt,b<a.heap.objs.size)(vB:pW∈pt)(Ri:H∉pt)(gB:Y prog j q (dD ic n) (λA6 an=>Y prog j q (nb A6) (λa' am=>∃ai,a'=.ref ai/\a.heap.objs.size<=ai/\ai<am.heap.objs.size/\a9 [] [] a am/\Ei ai 0 am.heap/\∀ej:bY,ej.handled=aQ->Walks prog j ej ai [ai] [ai] t sB (Ei ai)) an) a)(ZN:∀aX code(ej:bY)mY k u(am:ag)t5,ej.handled=aQ->ej.depth<=bc.depth+1->ej.units<=bc.units+4->k<t->sB k u->am.heap.Ns aX t5->t5 f=W u->(∀b∈pt,∀o,a.heap.get? b=W o->am.heap.get? b=W o)->b9 (cq prog j) ej (dD dk<|genEnv a6 kP aX code n.builtins n) (λB cg=>d9 k B/\kk am cg) mY am)(ZO:∀k u,sB k u->k<t)(ah:∀h aX s ai kT d7 v,a.heap.objs.size<=h->a.heap.objs.size<=aX->a.heap.objs.size<=ai->h<v.heap.objs.size->aX<v.heap.objs.size->ai<v.heap.objs.size->a.gens.size<=s->s<v.gens.size->a9 [H] [] a v->TabAt v.heap g H kT->kT=cv++d7->n7 h aX (ai::pt) [ai]->(∀qE:bY,qE.handled=aQ->qE.depth<=bc.depth->qE.units<=bc.units->jt prog j qE h s aX (ai::pt) [ai] t d9 0 v)->C (.ref h) v):Y prog j q (dD (.GeneratorExp dk [⟨.Name f hC,ic,[],0⟩] a6 aj) n) C a:=by
 refine V (eval_GeneratorExp1 _ _ _ _ _ _ _ xK)<|IV.symm▸hi gB λA6 an bo=>dV<|V (L A6)<|eo<|d6<|Y.mono bo λa' am bE=>WU bE λai cB Ek Jx ls f4 qu=>V cB ?_;have jn:∀b o,a.heap.get? b=W o->am.heap.get? b=W o:=λb o i=>ls.1 b o (λe=>dt e) i;have Rj:am.heap.NoLimit:=aI.keeps jn;refine du<|wpAny_enterFrame Rj fA<|eo<|Y.bind<|j7<|Y.of<|ZL az (kS.keeps jn) λcode bk Rk kT d7 vC pu ZP lz i4=>?_;have hc:∀b o,b≠H->a.heap.get? b=W o->bk.get? b=W o:=λb o m i=>vC b o m<|jn b o i;refine du<|ZM _ _ _ _ hc ?_;have ZQ:∀B∈([((".0":Str),fl ai)]:List<|Str×al),a6.names.lookup B.1=W NameKind.local:=by
  intro B a8
  revert B;refine g4 ?_ ?_
  .exact aO
  .intro B a8;exact dt a8
 refine du<|GJ ln ZQ (λaa mj ea=>?_) AG;have i:(λB:Str=>([((".0":Str),fl ai)]:List<|Str×al).reverse.lookup B)=λB:Str=>if B=(".0":Str)then W (fl ai)else aQ:=by
  funext B;by_cases a8:B=".0"
  .refine V a8 ?_;rfl
  .have:(B==(".0":Str))=a1:=by simpa using a8
   simp[List.lookup,this,a8]
 replace mj:=i▸mj;simp only[newGenerator,newFields];refine j7<|Y.of<|bj<|wpAny_newGen<|bj<|GP<|bj<|GP<|jd ?_ (by size_fits);intro G;have n8:a.heap.objs.size<=bk.objs.size:=bb ls.2 pu;have dW:aa.objs.size=bk.objs.size+1:=V ea.1<|V (fZ ..) U;have rF:∀b o,bk.get? b=W o->aa.get? b=W o:=λb o i=>ea.extBut b o (gD<|dB i)<|eD _ i;let kU:Obj:={cls:=.type "generator",data:=.fields #[.int am.gens.size 0,.str "<genexpr>"<|Rk+1,.str (n.qual++"<genexpr>")<|Rk+1+1]};have El:∀b o,bk.get? b=W o->(aa.push kU).get? b=W o:=λb o i=>eD _<|rF b o i;have Rl:∀b o,b≠H->a.heap.get? b=W o->(aa.push kU).get? b=W o:=λb o m i=>El b o<|hc b o m i;have Em:pW<a.heap.objs.size:=Ej _ vB;have kM:n7 aa.objs.size bk.objs.size (ai::pt) [ai]:=by
  refine⟨V dW<|ND _,λe=>?_,λb m=>bm m▸bz,mt vB,gD<|cw Em n8,λe=>?_⟩
  .refine dH e (λe=>?_) λe=>?_
   .have:ai<bk.objs.size:=cw Jx pu;rw[<-e,dW]at this;exact cd this<|kl _
   .have:=cw (Ej _ e) n8;replace this:=dW▸this;exact cd this<|kl _
  .replace Em:=(bm e)▸Em;exact cd Em Ek
 refine ah aa.objs.size bk.objs.size am.gens.size ai kT d7 _ (V dW<|w7 n8) n8 Ek (by show aa.objs.size<(aa.push kU).objs.size;refine V (fZ ..) ?_;exact lM _) (by show bk.objs.size<(aa.push kU).objs.size;refine V (fZ ..)<|V dW ?_;exact mE<|lM _) (by show ai<(aa.push kU).objs.size;refine V (fZ ..)<|V dW ?_;exact mE<|mE<|cw Jx pu) ls.4 (by show am.gens.size<(am.gens.push _).size;refine V (Ds ..) ?_;exact lM _) ?_ (ZP.keeps El) lz kM ?_
 .refine⟨λb o m i=>Rl b o (λe=>m<|km.mpr e) i,?_,λk B w i=>?_,?_,λm=>(ls.5 m).push U,ls.6⟩
  .show a.heap.objs.size<=(aa.push kU).objs.size;exact V (fZ ..)<|V dW<|w7<|w7 n8
  .show(am.gens.push _)[k]?=_;have ck:=ls.3 k B (λe=>dt e) i;have cP:k<am.gens.size:=by
    refine g_ (pZ k am.gens.size) (λc=>?_) λc=>?_
    .exact c
    .replace ck:=(HN c)▸ck;exact dI ck
   refine V (Array.getElem?_push_lt cP)<|b' (uT cP) ?_;exact ck
  .show a.gens.size<=(am.gens.push _).size;exact V (Ds ..)<|w7 ls.4
 .intro qE Rm Jy ZR;refine GenAt.freshD (cenv:=genEnv a6 kP bk.objs.size code n.builtins n) (m:=λB=>if B=".0"then W (.ref ai)else aQ) Rm (λej ax=>(qu ej ax).mono_fp λb m=>bm m▸bz) (λw=>Z) d9 R (by simp[genEnv,AG]) xK ?_ ?_ ⟨_,_,_,fc _ U,U,U,U⟩ (Array.getElem?_push_size ..) ?_ (mj.push _) ?_
  .show bk.objs.size∉ai::pt;intro e;refine dH e (λe=>?_) λe=>?_
   .have:ai<bk.objs.size:=cw Jx pu;replace this:=e▸this;exact h' _ this
   .exact h' _<|cw (Ej _ e) n8
  .have ZS:∀cg:ag,(∀b∈ai::pt,b∉[ai]->∀o,(aa.push kU).get? b=W o->cg.heap.get? b=W o)->∀b∈pt,∀o,a.heap.get? b=W o->cg.heap.get? b=W o:=λcg c b m o i=>c b (mt m) (λe=>cd (Ej b m)<|bm e▸Ek) o<|Rl b o (λe=>Ri<|e▸m) i;exact⟨λej mY k u cg t5 gf w w aM x4 t6 aS=>cN ⟨U,cg.heap,cg.toks,U,λw w i=>i⟩,λej mY k u cg t5 gf bl e4 aM w x4 t6 aS=>ZN _ code ej mY k u cg t5 gf (bb bl<|NH Jy 1) (bb e4<|NH ZR 4) (ZO k u aM) aM x4 t6<|ZS cg aS⟩
  .refine(qu qE Rm).frame _ _ _ f4 λb m o i=>?_;rw[bm m]at i⊢;exact El _ _<|vC _ _ (λe=>cd kS.1.lt.2<|e▸Ek) i
  .exact br Rj λdH mn vz=>⟨dH,mn.at' λo i=>El _ _<|vC _ _ (λe=>Ri<|e▸vB) i,vz⟩
end
theorem ZT:uC (.type "range_iterator") (.type "reversed")=pure a1:=by refine V (kH ..) ?_;cbv
section
noncomputable def En(t:Nat):Obj:={cls:=.type "range_iterator",data:=.fields #[hv<|(t:Int)-1,hv t,hv<|-1]}
theorem Rn(k:Int)(E:Tok):asInt? (.int k E)=pure (W k):=by simp only[asInt?]
theorem ZU{y:aq}{t:Nat}{E aN u:Tok}{C:al->ag->Prop}(av:q7 a.heap y 0 t 1 E aN u)(ay:(t:Int)<2^62)(c:C (.ref a.heap.objs.size) {a with heap:=a.heap.push<|En t}):b9 (cq prog j) q (call (.builtin "range.__reversed__") [.ref y]) C as a:=by
 have cK:a.TypeIs (.ref y) "range":=⟨_,av,U⟩;refine k7 HT cK F.entry_range_reversed ?_<|F.args_range_reversed_1 _;have ab:rk 0 t 1=t:=D7 t;have ZV:(sh 0&&sh t&&sh 1&&sh (-1)&&sh (0-1)&&sh (t:Int))=Z:=by
  unfold sh;have bG:(-9223372036854775808:Int)<=t:=by exact cy (.b3 (.g<|.n 9223372036854775808)<|.c .x) [] U
  have cr:(t:Int)<9223372036854775808:=by exact cy (.b_ (.c .x)<|.n 9223372036854775808) [.b_ (.c .x)<|.n 4611686018427387904] U ay
  simp[bG,cr]
 refine mM (h:=fl y) U<|bj (m:=Builtin.Range.rangeFields<|.ref y)<|ia av U (f:=.int 0 E) U ?_;simp only[Rn,pure_bind];refine ia av U (f:=.int t aN) U ?_;simp only[Rn,pure_bind];refine ia av U (f:=.int 1 u) U<|cN ?_;refine ab.symm▸ZV.symm▸?_;have eE:(0+((t:Int)-1)*1)=(t:Int)-1:=by exact cy (.eG (.a (.n 0)<|.r (.s (.c .x)<|.n 1) 1)<|.s (.c .x)<|.n 1) [] U
 exact bj<|jd<|eE.symm▸cN (dj _ U c)
theorem ZW{y:aq}{t:Nat}{E aN u:Tok}{Ro:al->ag->Prop}(av:q7 a.heap y 0 t 1 E aN u)(ay:(t:Int)<2^62)(c:Ro (.ref a.heap.objs.size) {a with heap:=a.heap.push<|En t}):zq (cq prog j) q (.call (.builtin "reversed.__new__") ⟨[.type "reversed",.ref y],[]⟩) (wants Ro as) a:=by
 have cK:a.TypeIs (.ref y) "range":=⟨_,av,U⟩;refine zt ?_;show b9 _ q.in1 (do uB "reversed.__new__" ⟨[.type "reversed",.ref y],[]⟩;again<|.builtin "reversed.__new__" ⟨[.type "reversed",.ref y],[]⟩) _ _ a;refine mM (F.newCall_reversed_1 _)<|cN ⟨ot F.plain_reversed_new _,wY F.entry_reversed_new<|mM (newClass_reversed _) ?_⟩;try dsimp only
 refine mM (h:=()) (by first|rfl|cbv)<|mM (h:=()) (by first|rfl|cbv) ?_;try dsimp only
 refine bj<|hX cK HT.lookup ?_;try dsimp only
 refine mM (HT.bind _) ?_;try dsimp only
 first|refine V (if_neg<|show¬((Ad "range.__reversed__"==oB)=Z)from uz) ?_|(show b9 _ _ (if(Ad "range.__reversed__"==oB)=Z then _ else _) _ _ _;rw[if_neg<|show¬((Ad "range.__reversed__"==oB)=Z)from uz])
 refine bj<|l9<|bj (m:=runValue<|.call (.builtin "range.__reversed__") ⟨[.ref y],[]⟩)<|show b9 _ _ (call (.builtin "range.__reversed__") [.ref y]) _ _ _ from ZU av ay ?_;first|exact cN c|exact li<|cN c
theorem ZX{y:aq}{t:Nat}{E aN u:Tok}{C:al->ag->Prop}(av:q7 a.heap y 0 t 1 E aN u)(ay:(t:Int)<2^62)(c:C (.ref a.heap.objs.size) {a with heap:=a.heap.push<|En t}):b9 (cq prog j) q (call (.type "reversed") [.ref y]) C as a:=by exact callType_other (U:="range_iterator") (Q₁:=λnp an=>np=.ref a.heap.objs.size/\an={a with heap:=a.heap.push<|En t}) (by decide+kernel) F.create_reversed (j1 _ _ F.mro_reversed) F.made_reversed ZT (F.typeCall_reversed_1 _) (ZW av ay ⟨U,U⟩)<|rv<|⟨⟨_,fc _ U,U⟩,c⟩
end
section
variable{g:dw}
noncomputable def Jz:gb->al|.ret u=>u|_=>.none
theorem ZY(fA:q.depth<fF)(bg:FnAt a h bi ep)(m:iO a bi ⟨aR,[]⟩ ih)(aP:∀r∈ih,AD (cX bi h a) r.1)(av:bW a.heap p O (ih.map (·.2)))(co:∀f∈p,f<a.heap.objs.size)(c:∀v,(∀b∈b4<|cX bi h a,a.heap.objs.size<=b)->oI (cX bi h a) (b4 (cX bi h a)++p) (xL ih O []) (bJ [] a) v->Y prog j (q.deeper<|cX bi h a) (dE ep<|cX bi h a) (λI el=>C (Jz I) el) v):Y prog j q (er (.ref h) aR []) C a:=by
 refine br bg.1 λo kv bl=>Y.call<|D8 fA kv bl bg.2 bg.3 bg.4 bg.5<|Y.of<|m _ _ _ _<|bg.8.symm▸QC bg.6 bg.7 aP av co λv dP bn=>⟨?_,I8 ?_⟩
 .exact bg.9.keeps λb o i=>bn.3.1 b o (λc=>dt c) i
 .refine Y.mono (c v dP bn) ?_;intro I el a5;exact⟨_,U,by cases I<;>exact a5⟩
theorem Rp(az:g.Ok)(ax:eK (z+1) q)(bg:FnAt a h bi ep)(pv:bi.globals=3)(n9:bi.builtins=0)(JA:∀h∈g.tabs,h∈p)(JB:∀h∈p,h∈g.tabs\/g.s0.heap.objs.size<=h)(Eo:∀f∈p,f<S)(hu:S<=a.heap.objs.size)(t7:fh g a)(aM:mr S p ec a aR)(aI:ec.length=eb.length)(m:iO a bi ⟨pw,[]⟩<|eb.zip aR)(aP:eb.all (lu bi.scope)=Z)(iG:∀v,(∀b∈b4<|cX bi h a,a.heap.objs.size<=b)->a9 [] [] a v->cM g (cX bi h a) (b4 (cX bi h a)++p) [] p v.heap.objs.size->bw g (cX bi h a) (b4 (cX bi h a)++p) [] v.heap.objs.size (js eb ec []) v->eK z (q.deeper<|cX bi h a)->Y g.prog g.w (q.deeper<|cX bi h a) (dE ep<|cX bi h a) (λI el=>C (Jz I) el) v):Y g.prog g.w q (er (.ref h) pw []) C a:=by
 have cL:=aM.length;have hf:g.s0.heap.objs.size<=a.heap.objs.size:=t7.1.2;have i3:∀f∈p,f<a.heap.objs.size:=λf R=>cw (Eo f R) hu;have A3:=Re a bi.scope;have cr:(eb.zip aR).map (·.2)=aR:=by have:aR.length=eb.length:=cL.trans aI;rw[NZ];exact c3 (.l .x .y) [.e .x .y] U this
 refine ZY (p:=p) (O:=A2 ec aR) (ih:=eb.zip aR) (mG (bb (iw _ _) ax.2) bd) bg m (λe a5=>?_) (cr.symm▸aM.Gv Eo) i3 λv dP bn=>?_
 .refine(vh<|hn.mp aP _<|(N0 a5).1).elim .inl λaS=>?_
  .exact c5 (G1.mp<|AL bi.scope.names (a.heap.objs.size+1) [] e.1<|.inr aS) λb dR=>.inr ⟨b,aS,dR,λB A0 w a8 c9=>A3 _ _ _ _ a8 dR c9⟩
 .have AV:∀b∈b4<|cX bi h a,b<v.heap.objs.size:=λb m=>bn.1 b<|b3 m;have bX:a9 [] [] a v:=bn.3;have ew:cM g (cX bi h a) (b4 (cX bi h a)++p) [] p v.heap.objs.size:=by exact⟨bg.6,pv,n9,λb m=>⟨b3 m,bb hf<|dP b m,(λe=>nomatch e),λe=>cd (i3 b e)<|dP b m⟩,aW,λb m=>bO m,JA,bn.1,λb m=>bN m (λe=>.inr<|bb hf<|dP b e) λe=>JB b e,A3⟩
  have xZ:bw g (cX bi h a) (b4 (cX bi h a)++p) [] v.heap.objs.size (js eb ec []) v:=by
   refine br bn.2 λcV ar vb=>?_;have cF:∀B bx,fo (js eb ec []) B bx->∃iJ be,bx=ha.slot iJ/\(∃j,cV B=W j/\cf v.heap (b4 (cX bi h a)++p) (xY iJ be) j)/\e' S p iJ.1 iJ.2 a be:=λB bx a8=>by exact ei (Rf (S:=S) (p:=p) (a:=a) (gn:=[]) (nW [1,1,1] [1,-1,-1] (.e .x .y) [.e .z .x,.e .y .z] U aI cL) (id<|Dm cL) (by intro _ _ c;exact nomatch c) aM a8) λiJ be i e dg=>⟨iJ,be,i,vb _ _ e,dg⟩
   refine⟨dA _,t7.to bX aW,cV,ar,λB bx a8=>?_,λB aN a8=>?_,λB aN a8=>?_⟩
   .refine ei (cF B bx a8) λbP be cB dv vw=>?_;obtain⟨l,u⟩:=bP;obtain rfl:=cB;obtain⟨j,bS,av⟩:=dv;refine⟨j,bS,?_⟩;cases l with
    |fr=>exact av|b2=>exact av|ls=>
     have jk:j=be:=by have aa:cf v.heap (b4 (cX bi h a)++p) (.raw be) j:=av;exact aa
     subst jk;exact br vw λb i y=>⟨b,i,y.to (λb o m i=>⟨bX.all b o i,by refine g2 mb<|g2 not_or ?_;exact⟨λe=>cd (dB i)<|dP b e,m⟩⟩) λo i=>bX.all _ o i⟩
   .refine gc (cF B _ a8) λek be i w=>?_;obtain⟨l,u⟩:=ek;cases l<;>exact nomatch i
   .refine ei (cF B _ a8) λe_ be i gX vw=>?_;obtain⟨l,u⟩:=e_;obtain⟨j,bS,av⟩:=gX;cases l<;>cases i;have jk:j=be:=by have aa:cf v.heap (b4 (cX bi h a)++p) (.raw be) j:=av;exact aa
    subst jk;refine br vw λb i y=>?_;subst i;exact⟨b,bS,(λe=>nomatch e),λe=>cd y.lt<|dP b e⟩
  have gf:eK z (q.deeper<|cX bi h a):=⟨ax.1,by have:=ax.2;show q.depth+1+z<=900;exact c3 (.l (.a (.o .x) .y)<|.n 900) [.l (.a .x<|.o .y)<|.n 900] U this,by have:=ax.3;show q.units+3+4*z<=5000;exact c3 (.l (.a (.a .x<|.n 3)<|.m 4 .y)<|.n 5000) [.l (.a .x<|.m 4<|.o .y)<|.n 5000] U this⟩;exact iG v dP bX ew xZ gf
theorem Rq(az:g.Ok)(ax:eK (z+1) q)(bg:FnAt a h bi ep)(pv:bi.globals=3)(n9:bi.builtins=0)(JA:∀h∈g.tabs,h∈p)(JB:∀h∈p,h∈g.tabs\/g.s0.heap.objs.size<=h)(Eo:∀f∈p,f<S)(hu:S<=a.heap.objs.size)(t7:fh g a)(aM:mr S p ec a aR)(aI:ec.length=eb.length)(m:iO a bi ⟨pw,[]⟩<|eb.zip aR)(aP:eb.all (lu bi.scope)=Z)(iG:∀v,(∀b∈b4<|cX bi h a,a.heap.objs.size<=b)->a9 [] [] a v->cM g (cX bi h a) (b4 (cX bi h a)++p) [] p v.heap.objs.size->bw g (cX bi h a) (b4 (cX bi h a)++p) [] v.heap.objs.size (js eb ec []) v->eK z (q.deeper<|cX bi h a)->Y g.prog g.w (q.deeper<|cX bi h a) (dE ep<|cX bi h a) (λI el=>∃u,I=.ret u/\C u el) v):Y g.prog g.w q (er (.ref h) pw []) C a:=Rp az ax bg pv n9 JA JB Eo hu t7 aM aI m aP λv dm eY lU vD sQ=>(iG v dm eY lU vD sQ).mono λI a e=>br e λu i c=>V i c
theorem A7(az:g.Ok)(ax:eK (z+1) q)(bg:FnAt a h bi ep)(pv:bi.globals=3)(n9:bi.builtins=0)(M:cM g n p N aF S)(r:bw g n p N S A a)(aM:mr S p ec a aR)(aI:ec.length=eb.length)(m:iO a bi ⟨pw,[]⟩<|eb.zip aR)(aP:eb.all (lu bi.scope)=Z)(iG:∀v,(∀b∈b4<|cX bi h a,a.heap.objs.size<=b)->a9 [] [] a v->cM g (cX bi h a) (b4 (cX bi h a)++p) [] p v.heap.objs.size->bw g (cX bi h a) (b4 (cX bi h a)++p) [] v.heap.objs.size (js eb ec []) v->eK z (q.deeper<|cX bi h a)->Y g.prog g.w (q.deeper<|cX bi h a) (dE ep<|cX bi h a) (λI el=>∃u,I=.ret u/\C u el) v):Y g.prog g.w q (er (.ref h) pw []) C a:=Rq az ax bg pv n9 (λb m=>M.6 b<|M.7 b m) M.9 M.8 r.1 r.2 aM aI m aP iG
inductive dw.GI(g:dw):Prop|mk(fS:g.Ok)(fT:∀(q:bY)(as:al->ag->Prop)(c:ag)(C:aq->ag->Prop),(∀b o,b<g.s0.heap.objs.size->b∉g.tabs->g.s0.heap.get? b=W o->c.heap.get? b=W o)->C 0 c->b9 (cq g.prog g.w) q (builtinsFor 3 0) C as c)(gy:pW<g.s0.heap.objs.size/\pW∉g.tabs):dw.GI g
noncomputable def dw.rh(g:dw):List Addr:=(c2 g.s0.heap.objs.size).filter λb=>!g.tabs.contains b
theorem mZ{b:aq}:b∈g.rh↔b<g.s0.heap.objs.size/\b∉g.tabs:=by unfold dw.rh;simp
theorem Walks.lt{prog:cl}{j:b7}{ai:aq}{bF a0:List aq}{t:Nat}{H:Nat->al->Prop}{St:Nat->eH->Prop}(cZ:Walks prog j q ai bF a0 t H St):Walks prog j q ai bF a0 t (λk u=>k<t/\H k u) St:=⟨(cZ.sub),(cZ.frame),(λk a C as ac st ah=>cZ.item k a C as ac st λu aa x bM=>ah u aa x ⟨ac,bM⟩),(cZ.done),(cZ.self)⟩
theorem ZZ{t:Nat}{e dg vE:Pos}(az:g.Ok)(M:cM g n p N aF S)(c:cm g.prog g.w q [] [] n (bw g n p N S A) i<|dZ t)(aK:g.gl "range"=W (.type "range"))(iX:g.gl "reversed"=W (.type "reversed"))(R:eA n.scope "range"=Z)(h2:eA n.scope "reversed"=Z)(ay:d0 i=Z)(ab:t<2^62):cm g.prog g.w q [] [] n (bw g n p N S A) (.Call (.Name "reversed" e) [.Call (.Name "range" dg) [i] [] vE] [] aj) (λa g=>∃ai,g=.ref ai/\S<=ai/\ov a.heap ai ((t:Int)-1) t (-1)):=by
 have pi:cm g.prog g.w q [] [] n (bw g n p N S A) (.Call (.Name "range" dg) [i] [] vE) (λa g=>∃y E aN u,g=.ref y/\q7 a.heap y 0 t 1 E aN u):=by refine kO M.ok (hB az M aK R) U (hN ay M.ok c (ie _) iY) ?_ (by simp[ay]);rintro a aR r gF C ah;exact ei gF λw w hq iZ jK=>V hq<|c5 iZ λE e9=>V e9<|V jK<|Y.of<|CV<|ah _ _ (bJ.new _ _ a _ _)<|DP _ _ _ _ U<|fc _ U
 have JC:mQ [] [] (λa g=>∃y E aN u,g=.ref y/\q7 a.heap y 0 t 1 E aN u):=by rintro a v be kt s;exact DM kt λy E aN u i c=>(DP y E aN u i<|s.1 _ _ (λe=>dt e) c)
 refine kO M.ok (hB az M iX h2) U (hN U M.ok pi JC iY) ?_ U;rintro a aR r nt C ah;exact ei nt λw w nu sK qp=>V nu<|DM sK λy E aN u hp av=>V hp<|V qp<|Y.of<|ZX av (cy (.b_ (.c .x)<|.n 4611686018427387904) [.t .x<|.n 4611686018427387904] U ab)<|ah _ _ (bJ.new _ _ a _ _)<|ro _ U r.1<|fc _ U
end
section
variable{g:dw}{z:Nat}{Q:c4}{A:b0}{i eS f7:bB}{l:ha}{aj di:Pos}{aw:List Int}
noncomputable def JD:bB->List Str|.Name f bL=>[f]|.Tuple aB bL dQ=>(qv aB).getD []|_=>[]
noncomputable def py(b8:bB)(A:b0):Bool:=(JD b8).all λf=>A.all λr=>!(r.1==f)
theorem Z0(c:fo A B bx):∃r∈A,r.1=B:=by induction c with|here=>exact(dj _ bz U)|there _ _ a2=>refine br a2 λr aZ i=>?_;exact(dj r (mt aZ) i)
theorem Rr:∀{aH:List Str}{O:List bh}{A:b0},(∀f∈aH,f≠B)->fo A B bx->fo (qw aH O A) B bx|[],bL,dQ,lp,c=>c|f::aH,[],bL,dQ,c=>c|f::aH,u::O,A,ay,c=>Rr (aH:=aH) (O:=O) (λG ab=>ay G<|mt ab)<|.there (beq_false_of_ne<|ay f bz) c
theorem A8(c:py b8 A=Z):t3 b8 u A:=by
 intro B bx a8;have cF:∀f∈JD b8,f≠B:=by intro f R i;subst i;refine br (Z0 a8) λr aZ i=>?_;have:=hn.mp (hn.mp c f R) r aZ;replace this:=i▸this;simp at this
 refine Jf (H:=λA=>fo A B bx) (λf r i=>?_) (λaB l r O i=>?_) a8
 .subst i;exact .there (beq_false_of_ne<|cF _<|bz) a8
 .subst i;exact Rr cF a8
structure p9(g:dw):Prop where
 ok:g.Ok
 len:g.gl "len"=W (.builtin "len")
 range:g.gl "range"=W (.type "range")
 enumerate:g.gl "enumerate"=W (.type "enumerate")
 zip:g.gl "zip"=W (.type "zip")
theorem rK(c:-(2^64)<h/\h<2^64):CS h b:=IntMulOk.of_left<|intBits_le_64 c.1 c.2
theorem A9(c:-(2^64)<b/\b<2^64):CS h b:=IntMulOk.of_right<|intBits_le_64 c.1 c.2
theorem sR(c:b.natAbs<1073741824):xj h b=a1:=PyProof.noPylong_small c
theorem ae.cast(c:ae g z Q A i l u)(e:u=hR):ae g z Q A i l hR:=e▸c
theorem dd.cast(c:dd g z Q A i h)(e:h=b):dd g z Q A i b:=e▸c
theorem eU.nl:eU g z Q A [] []:=trivial
theorem eU.fH(c:ae g z Q A i .b2 u)(L:eU g z Q A aB O)(ay:d0 i=Z:=by rfl):eU g z Q A (i::aB) (u::O):=⟨ay,c,L⟩
theorem gG.nl:gG g z Q A [] []:=trivial
theorem gG.fH(c:ae g z Q A i l u)(L:gG g z Q A aB O)(ay:d0 i=Z:=by rfl):gG g z Q A (i::aB) ((l,u)::O):=⟨ay,c,L⟩
theorem gA.cast(c:gA g z Q A i e)(j:e=dg):gA g z Q A i dg:=j▸c
namespace ar
theorem fr(c:py b8 A=Z:=by cbv):t3 b8 u A:=A8 c
theorem nm(aK:fI A f=W (.f u):=by rfl)(R:ht Q f=Z:=by cbv):ae g z Q A (.Name f aj) .b2 u:=ae.name aK R
theorem NB(aK:fI A f=W (.o u):=by rfl)(R:ht Q f=Z:=by cbv):ae g z Q A (.Name f aj) .ls u:=ae.WO aK R
theorem X6(aK:fI A f=W (.b u):=by rfl)(R:ht Q f=Z:=by cbv):ae g z Q A (.Name f aj) .ls u:=ae.v5 aK R
theorem v8(t:p9 g)(c:ae g z Q A i l<|cS aw)(ab:aw.length<2^62)(R:eA Q "len"=Z:=by cbv)(ay:d0 i=Z:=by rfl):dd g z Q A (.Call (.Name "len" di) [i] [] aj) aw.length:=ae.v8 t.ok c t.len R ay ab
theorem v'(t:p9 g){f:Str}{aA:Nat}{e:Pos}(c:dd g z Q A i aA)(ab:aA<2^62)(R:eA Q "range"=Z:=by cbv)(ay:d0 i=Z:=by rfl):fp g z Q A i1 (.Name f di) (.Call (.Name "range" e) [i] [] aj) ((h3 0 1 aA).map .int):=fp.v' t.ok c t.range R ay ab
theorem Ga(t:p9 g){f:Str}{e:Pos}{st:Int}{aA:Nat}(bo:dd g z Q A D h)(bE:dd g z Q A y b)(ml:dd g z Q A E st)(aO:st≠0)(L:xl h b st=Z)(aZ:xj (b-h) st=a1)(dW:rk h b st=aA)(R:eA Q "range"=Z:=by cbv)(ay:d0 D=Z/\d0 y=Z/\d0 E=Z:=by exact⟨U,U,U⟩):fp g z Q A i1 (.Name f di) (.Call (.Name "range" e) [D,y,E] [] aj) ((h3 h st aA).map .int):=fp.Ga t.ok bo bE ml t.range R ay aO L aZ dW
theorem NC{aA:Nat}(bo:ae g z Q A eS l<|cS aw)(bE:dd g z Q A f7 aA)(R:aA<aw.length)(ab:aw.length<=cI)(ac:n2 f7=Z:=by rfl):dd g z Q A (.Subscript eS f7 aj) (aw.getD aA 0):=ae.BJ bo bE (iP aA) R ab ac
theorem t1(c:oP e Q f=Z:=by cbv):mV e Q (.Name f di) u:=c
theorem t2(ay:qv aB=W b5:=by rfl)(aI:O.length=b5.length:=by rfl)(c:b5.all (oP e Q)=Z:=by cbv):mV e Q (.Tuple aB aA di) (.tup O):=⟨b5,ay,aI,c⟩
end ar
theorem vF(h z:Int)(t:Nat):(h3 h z t).length=t:=by simp[h3]
theorem Rs(c:((h3 h z t).map bh.int)[k]?=W f):k<t/\f=.int (h+k*z):=by
 have ac:k<t:=by simpa[h3]using(k'.mp c).1
 refine⟨ac,?_⟩;rw[h3,fk,fk,mJ ac]at c;exact(d4 c).symm
theorem Z1{aw:List Int}{k:Nat}{f:bh}(c:(aw.map bh.int)[k]?=W f):k<aw.length/\f=.int (aw.getD k 0):=by
 have ac:k<aw.length:=by simpa using(k'.mp c).1
 refine⟨ac,?_⟩;rw[fk,fG ac]at c;exact V (fK)<|V (fG ac)<|(d4 c).symm
end
structure e0 where
 T:BT
 n:Nat
 toks:Nat
noncomputable def e0.abs(b:ag)(gq:Nat)(f:e0):Shared:=⟨j0 f.T f.n b.heap.life,b.gens,b.drawn,gq+f.toks,b.os⟩
noncomputable def kz:Bool->Option Unit|true=>W ()|false=>aQ
noncomputable def JE(aY:BT)(t h:Nat):Option Obj:=(kz<|ma h t).bind λw=>(aY.get h).bind hZ
noncomputable def JF(aY:BT)(t h:Nat):Option (Option Obj):=match ma h t with|true=>(aY.get h).map hZ|false=>W aQ
noncomputable def kA{bf:Type}(st:pb)(gq:Nat)(eF:Ctx->Pos->e0->Option (pX×e0))(A:Ctx):Sem bf->Pos->e0->Option (Except al bf×Pos×e0)
 |.pure h,r,a=>W (.ok h,r,a)|.raise i,r,a=>W (.error i,r,a)|.rule bL l,r,a=>kA st gq eF A (l ()) r a|.at bn l,bL,a=>kA st gq eF A (l ()) bn a|.point bL l,r,a=>kA st gq eF A (l ()) r a|.ask l,r,a=>kA st gq eF A (l st) r a|.fresh l,r,⟨aY,t,x⟩=>kA st gq eF A (l<|gq+x) r ⟨aY,t,x+1⟩|.handled IH l,r,a=>kA st gq eF A (l<|if IH then A.own else A.handled) r a|.stack l,r,a=>kA st gq eF A (l<|(A.code,r)::A.below) r a|.thread l,r,a=>kA st gq eF A (l 0) r a|.load h bL l,r,⟨aY,t,x⟩=>(JE aY t h).bind λo=>kA st gq eF A (l o) r ⟨aY,t,x⟩|.update h bL I l,r,⟨aY,t,x⟩=>(JE aY t h).bind λw=>kA st gq eF A (l ()) r ⟨aY.set h I,t,x⟩|.alloc o l,r,⟨aY,t,x⟩=>(kz ((aY.ins t o).get t).isSome).bind λw=>kA st gq eF A (l t) r ⟨aY.ins t o,t+1,x⟩|.loadIfAlive h l,r,⟨aY,t,x⟩=>(JF aY t h).bind λo=>kA st gq eF A (l o) r ⟨aY,t,x⟩|.call g c bL dQ l,r,a=>(eF (A.enter g c r) r a).bind λ|(y,v)=>kA st gq eF A (l y) r v
 |bL,dQ,lp=>aQ
noncomputable def Z2(kU:iv->Pos->e0->Option (pX×e0)):Except al Fin×Pos×e0->Option (pX×e0)|(.ok<|.done cO,bL,v)=>W (.ok cO,v)|(.ok<|.again g,bn,v)=>(kz g.quiet).bind λw=>kU g bn v|(.error i,bL,v)=>W (.error i,v)
noncomputable def tT(kd:String->Option tq)(st:pb)(gq:Nat):Nat->Ctx->Pos->e0->Option (pX×e0)|0,bL,dQ,lp=>aQ|I+1,A,r,a=>(kA st gq (tT kd st gq I) A (tp kd A.code) r a).bind<|Z2 λg r a=>tT kd st gq I (A.goto g) r a
section
theorem rL(c:kz e=W aN):e=Z:=by
 cases e
 .exact dI c
 .rfl
theorem dY{bf cE:Type}{f:Option bf}{I:bf->Option cE}{B:cE}(c:f.bind I=W B){ak:Prop}(l:∀h,f=W h->I h=W B->ak):ak:=by cases f with|none=>exact dI c|some h=>exact l h U c
theorem Rt{aY:BT}{t h:Nat}{o:Obj}{D:fQ}(c:JE aY t h=W o):(j0 aY t D).get? h=W o/\∃f,aY.get h=W f:=dY c λw af c=>dY c λf ap c=>⟨(sk (mI<|rL af) ap).trans c,f,ap⟩
theorem Z3(c:JF aY t h=W o):(j0 aY t D).get? h=o:=by unfold JF at c;cases i:ma h t with
 |false=>
  replace c:=i▸c;have lt:¬h<t:=λe=>by rw[show ma h t=Z from De e]at i;exact PS i
  exact(abs_get_none lt).symm▸d4 c|true=>replace c:=i▸c;cases s:aY.get h with|none=>replace c:=s▸c;exact dI c|some f=>replace c:=s▸c;exact(sk (mI i) s).trans<|d4 c
noncomputable def Ru{bf:Type}(b:ag)(gq:Nat)(C:bf->Pos->ag->Prop)(as:al->Pos->ag->Prop):Except al bf×Pos×e0->Prop|(.ok h,r,a)=>C h r<|a.abs b gq|(.error i,r,a)=>as i r<|a.abs b gq
theorem JG{bf:Type}{eF:Ctx->Pos->e0->Option (pX×e0)}(qF:∀A r a y,eF A r a=W y->Returns (cq prog j) A r (a.abs b gq) y.1 (y.2.abs b gq))(A:Ctx)(E:Sem bf)(C:bf->Pos->ag->Prop)(as:al->Pos->ag->Prop):∀(r:Pos)(a:e0)(y:Except al bf×Pos×e0),kA ⟨prog,j.params⟩ gq eF A E r a=W y->Ru b gq C as y->jZ (cq prog j) A E C as r (a.abs b gq):=by induction E with|pure h=>exact λr a y c=>d4 c▸id|raise i=>exact λr a y c=>d4 c▸id|rule _ l a2=>exact a2 ()|«at»e l a2=>exact λw=>a2 () e|point _ l a2=>exact a2 ()|ask l a2=>exact a2 _|fresh l a2=>exact λr a=>a2 _ r _|handled IH l a2=>exact a2 _|stack l a2=>exact λr=>a2 _ r|thread l a2=>exact a2 _|load h rM l a2=>exact λr a y c a5=>dY c λo i c=>⟨o,(Rt i).1,a2 o r a y c a5⟩|update h rM I l a2=>exact λr a y c a5=>dY c λo i c=>(Rt (D:=b.heap.life) i).elim λbG cr=>cr.elim λf cr=>⟨Option.isSome_of_mem bG,by show jZ _ _ (l ()) _ _ _ ⟨(j0 a.T a.n b.heap.life).update h I,_,_,_,_⟩;exact absHeap_set cr▸a2 () r _ y c a5⟩|alloc o l a2=>exact λr a y c a5=>dY c λaN i c=>by show jZ _ _ (l (j0 a.T a.n b.heap.life).objs.size) _ _ _ ⟨(j0 a.T a.n b.heap.life).push o,_,_,_,_⟩;exact V (tF ..)<|b' (absHeap_ins<|rL i)<|a2 a.n r _ y c a5|loadIfAlive h l a2=>exact λr a y c a5=>dY c λo i c=>by show jZ _ _ (l<|(j0 a.T a.n b.heap.life).get? h) _ _ _ _;exact(Z3 i).symm▸a2 o r a y c a5|call g bl s D l a2=>exact λr a y c a5=>dY c λf i c=>⟨f.1,_,qF _ _ _ _ i,a2 f.1 r f.2 y c a5⟩|_=>exact λr a y c=>dI c
theorem JH:∀(I:Nat)(A:Ctx)(r:Pos)(a:e0)(y:pX×e0),tT table ⟨prog,j.params⟩ gq I A r a=W y->Returns (cq prog j) A r (a.abs b gq) y.1 (y.2.abs b gq)
 |0,bL,dQ,lp,xI,c=>dI c|I+1,A,r,a,y,c=>by
  have cF:wpCode (cq prog j) A (λhr an=>hr=y.1/\an=y.2.abs b gq) r (a.abs b gq):=by
   refine g2 (CO ..)<|dY c λf i c=>JG (λA r a y az=>JH I A r a y az) A _ _ _ r a f i ?_
   match f,c with
   |(.error qh,c_,an),c=>exact d4 c▸⟨U,U⟩|(.ok<|.done cO,c_,an),c=>exact d4 c▸⟨U,U⟩|(.ok<|.again g,c_,an),c=>exact dY c λw a5 c=>⟨rL a5,⟨_,_,JH I (A.goto g) c_ an y c,U,U⟩⟩
  refine ei cF λhr an av e9 hp=>b' e9 ?_;obtain rfl:=hp;exact av
end
noncomputable def JI(bc:BT)(h:Nat):Option Obj:=(bc.get h).bind hZ
noncomputable def kV{bf:Type}(st:pb)(bc:BT)(eF:iv->Nat->Option (pX×Nat)):Sem bf->Nat->Option (Except al bf×Nat)
 |.pure h,l=>W (.ok h,l)|.raise i,l=>W (.error i,l)|.rule bL I,l=>kV st bc eF (I ()) l|.at bL I,l=>kV st bc eF (I ()) l|.point bL I,l=>kV st bc eF (I ()) l|.ask I,l=>kV st bc eF (I st) l|.fresh I,l=>kV st bc eF (I l)<|l+1|.thread I,l=>kV st bc eF (I 0) l|.load h bL I,l=>(JI bc h).bind λo=>kV st bc eF (I o) l|.call g aQ bL dQ I,l=>(eF g l).bind λ|(y,fB)=>kV st bc eF (I y) fB
 |bL,dQ=>aQ
noncomputable def Z4(kU:iv->Nat->Option (pX×Nat)):Except al Fin×Nat->Option (pX×Nat)|(.ok<|.done cO,fB)=>W (.ok cO,fB)|(.ok<|.again be,fB)=>(kz be.quiet).bind λw=>kU be fB|(.error i,fB)=>W (.error i,fB)
noncomputable def vG(kd:String->Option tq)(st:pb)(bc:BT):Nat->iv->Nat->Option (pX×Nat)|0,bL,dQ=>aQ|I+1,g,l=>(kV st bc (vG kd st bc I) (tp kd g) l).bind<|Z4<|vG kd st bc I
def Sub(bc:BT)(c:eH):Prop:=∀h o db,bc.get h=W o->hZ o=W db->c.get? h=W db
section
theorem Rv(L:Sub bc c)(i:JI bc h=W o):c.get? h=W o:=dY i λf af ap=>L h f o af ap
noncomputable abbrev sS(a:ag)(l:Nat):Shared:={a with toks:=l}
noncomputable def Z5{bf:Type}(a:ag)(C:bf->Pos->ag->Prop)(as:al->Pos->ag->Prop)(bn:Pos):Except al bf×Nat->Prop|(.ok h,l)=>C h bn<|sS a l|(.error i,l)=>as i bn<|sS a l
theorem Ep(L:Sub bc a.heap)(qF:∀g l y,eF g l=W y->∀A r,A.code=g->Returns (cq prog j) A r (sS a l) y.1 (sS a y.2))(E:Sem bf)(A:Ctx)(C:bf->Pos->ag->Prop)(as:al->Pos->ag->Prop):∀(l:Nat)(y:Except al bf×Nat)(r:Pos),kV ⟨prog,j.params⟩ bc eF E l=W y->(∀bn,Z5 a C as bn y)->jZ (cq prog j) A E C as r (sS a l):=by induction E with
 |pure h=>exact λl y r c a5=>(d4 c▸a5 r:)|raise i=>exact λl y r c a5=>(d4 c▸a5 r:)|rule _ I a2=>exact a2 ()|«at»e I a2=>exact λl y w=>a2 () l y e|point _ I a2=>exact a2 ()|ask I a2=>exact a2 _|thread I a2=>exact a2 _|fresh I a2=>exact λl=>a2 _<|l+1|load h rM I a2=>exact λl y r c a5=>dY c λo i c=>⟨o,Rv L i,a2 o l y r c a5⟩|call g bl s D I a2=>
  cases bl
  case some=>exact λl y r c=>nomatch c
  exact λl y r c a5=>dY c λf i c=>⟨f.1,_,qF _ _ _ i (A.enter g aQ r) r U,a2 f.1 f.2 y r c a5⟩|_=>exact λl y r c=>nomatch c
theorem Er(L:Sub bc a.heap):∀(I:Nat)(g:iv)(l:Nat)(y:pX×Nat),vG table ⟨prog,j.params⟩ bc I g l=W y->∀(A:Ctx)(r:Pos),A.code=g->Returns (cq prog j) A r (sS a l) y.1 (sS a y.2)
 |0,bL,dQ,lp,c=>nomatch c|I+1,g,l,y,c=>λA r az=>by
  have cF:wpCode (cq prog j) A (λhr an=>hr=y.1/\an=sS a y.2) r (sS a l):=by
   refine g2 (CO ..)<|V az<|dY c λf i c=>Ep L (λg l y az=>Er L I g l y az) _ A _ _ l f r i λbn=>?_
   match f,c with
   |(.error qh,cR),c=>exact d4 c▸⟨U,U⟩|(.ok<|.done cO,cR),c=>exact d4 c▸⟨U,U⟩|(.ok<|.again be,cR),c=>exact dY c λw a5 c=>⟨rL a5,⟨_,_,Er L I be cR y c (A.goto be) bn U,U,U⟩⟩
  refine ei cF λhr an av e9 hp=>?_;obtain rfl:=e9;obtain rfl:=hp;exact av
theorem Z6(L:Sub bc a.heap)(c:∀l,kV ⟨prog,j.params⟩ bc (vG table ⟨prog,j.params⟩ bc I) E l=W (.ok h,l+z))(a5:C h {a with toks:=a.toks+z}):Y prog j q E C a:=λA r w w w=>Ep L (λg l y az=>Er L I g l y az) E A _ _ a.toks _ r (c _) λw=>a5
theorem Z7(L:Sub bc a.heap)(c:∀l,kV ⟨prog,j.params⟩ bc (vG nc ⟨prog,j.params⟩ bc I) E l=W (.ok h,l+z))(a5:C h {a with toks:=a.toks+z}):Y prog j q E C a:=Z6 (I:=I) (z:=z) L (λl=>wZ▸c l) a5
end
noncomputable def cj(r:cl)(k:Nat):Stmt:=(r.main.body[k]?).getD<|.Pass default
noncomputable def gr:ez->Nat->ez|.ClassDef _ _ _ b _ _ _ _ _ _ _,aD=>(b[aD]?).getD<|.Pass default|_,_=>.Pass default
noncomputable def sT:ez->Arguments|.FunctionDef _ h _ _ _ _ _ _ _ _=>h|_=>⟨[],[],aQ,[],[],aQ,[]⟩
noncomputable def gC:ez->List ez|.FunctionDef _ _ b _ _ _ _ _ _ _=>b|_=>[]
noncomputable def fa:ez->c4|.FunctionDef _ _ _ _ _ _ a _ _ _=>a|_=>default
noncomputable def lW(D:List Obj):BT:=(D.foldl (λ(f:BT×Nat)o=>(f.1.ins f.2 o,f.2+1)) (.nil,0)).1
@[reducible]noncomputable def da(f:String)(E:Tok):Value:=.str (ho f) E
@[reducible]noncomputable def bs(H:cc)(f:String)(E:Tok)(u:al):DictEntry:=⟨PyData.keyHash H<|ho f,da f E,u⟩
@[reducible]noncomputable def e7(g:String)(z:Data):Obj:={cls:=.type g,data:=z}
@[reducible]noncomputable def t8(z:Data):Obj:={cls:=.none,data:=z}
@[reducible]noncomputable def ke(G:Nat):Nat->List Int->List al|_,[]=>[]|z,f::D=>.int f (G+z)::ke G (z+1) D
@[reducible]noncomputable def hT(G:Nat):Nat->List String->List al|_,[]=>[]|z,f::D=>da f (G+z)::hT G (z+1) D
noncomputable def JJ(H:cc):Nat->List String->List zA|_,[]=>[]|z,f::D=>bs H f z (.builtin f)::JJ H (z+1) D
noncomputable def JK(H:cc):Nat->List String->List zA|_,[]=>[]|z,f::D=>bs H f z (.type f)::JK H (z+1) D
@[reducible]noncomputable def fs(g:String)(t:Nat)(D:List al):Obj:=e7 g<|.seq D.toArray t
noncomputable def eG:Obj:=e7 "tuple"<|.seq #[] 0
noncomputable def dm:Obj:=t8<|.fields #[]
@[reducible]noncomputable def hF(G:Nat)(S C:String)(E q bc as y:Nat)(b:Bool)(d9 fV:Nat)(vH A_ Z8 Z9:al)(aY:Nat):Obj:=e7 "code"<|.fields #[da S<|G+E,da C<|G+(E+1),da "/claim/cut.py"<|G+(E+2),.int q 0,.int bc 0,.int 0 0,.int 0 0,.int as 0,.ref y,.bool b,.int d9 0,.ref fV,vH,A_,Z8,Z9,.int ((G+aY:Nat):Int) 0,.int q 0,da "/claim/cut.py"<|G+(aY+1)]
@[reducible]noncomputable def Rw(a:ez)(S C:String)(s:Nat)(kP:List<|Str×aq)(JL doc JM:al)(JN:Option aq)(JO JP:al):FuncData:={name:=ho S,qualname:=ho C,params:=sT a,body:=.stmts<|gC a,scope:=fa a,globals:=s,closure:=kP,defaults:=JL,kwdefaults:=.none,doc:=doc,pyModule:=JM,annotations:=JN,code:=JO,closureTuple:=JP,builtins:=0}
@[reducible]noncomputable def iK(a:ez)(S C:String)(s:Nat)(kP:List<|Str×aq)(JL doc JM:al)(JN:Option aq)(JO JP:al):Obj:=e7 "function"<|.func<|Rw a S C s kP JL doc JM JN JO JP
@[reducible]noncomputable def iL(a:ez)(S C:String):Obj:=t8<|.func<|Rw a S C 0 [] .none .none .none aQ .none .none
@[reducible]noncomputable def A'(h b g:Nat)(u:al):Obj:={cls:=.type "frame",dict:=aQ,data:=.plain,slots:=#[W<|.ref h,W<|.ref b,W<|.ref g,aQ,W u,aQ,W<|.ref 0]}
section
noncomputable def Es(bK:cl)(H:cc):Obj:=t8<|.dict #[] 0
noncomputable def Rx(bK:cl)(H:cc):Obj:={cls:=(.type "module"),dict:=(W 0),data:=.plain,slots:=#[]}
noncomputable def Ry(bK:cl)(H:cc):Obj:=hF 0 "__new__" "EC.__new__" 293 37 4 3 76 Z 181 77 .none (.ref 78) (.ref 79) (.ref 80) 300
noncomputable def Et(bK:cl)(H:cc):Obj:=iK (gr (cj bK 11) 4) "__new__" "EC.__new__" 3 [] .none (da "Create new instance of EC(num_blocks, num_total, num_data)" 302) (da "segno.consts" 194) aQ (.ref 81) .none
noncomputable def Rz(bK:cl)(H:cc):Obj:=e7 "builtin_function_or_method"<|.fields #[(.builtin "object.__init_subclass__"),(.ref 135)]
noncomputable def Ba(bK:cl)(H:cc):List Obj:=[e7 "dict"<|.dict ([bs H "__name__" 1<|da "builtins" 160,bs H "__doc__" 2<|.builtin "builtins.__doc__:str#opaque",bs H "__package__" 3<|.builtin "builtins.__package__:str#opaque",bs H "__loader__" 4<|.builtin "builtins.__loader__:shared#opaque",bs H "__spec__" 5<|.builtin "builtins.__spec__#opaque"]++JJ H 6 ["__build_class__","__import__","abs","all","any","ascii","bin","breakpoint","callable","chr","compile","delattr","dir","divmod","eval","exec","format","getattr","globals","hasattr","hash","hex","id","input","isinstance","issubclass","iter","aiter","len","locals","max","min","next","anext","oct","ord","pow","print","repr","round","setattr","sorted","sum","vars"]++[bs H "None" 50 .none,bs H "Ellipsis" 51 .ellipsis,bs H "NotImplemented" 52 .notImplemented,bs H "False" 53<|.bool a1,bs H "True" 54<|.bool Z]++JK H 55 ["bool","memoryview","bytearray","bytes","classmethod","complex","dict","enumerate","filter","float","frozenset","property","int","list","map","object","range","reversed","set","slice","staticmethod","str","super","tuple","type","zip"]++[bs H "__debug__" 81<|.bool Z]++JK H 82 ["BaseException","BaseExceptionGroup","Exception","GeneratorExit","KeyboardInterrupt","SystemExit","ArithmeticError","AssertionError","AttributeError","BufferError","EOFError","ImportError","LookupError","MemoryError","NameError","OSError","ReferenceError","RuntimeError","StopAsyncIteration","StopIteration","SyntaxError","SystemError","TypeError","ValueError","Warning","FloatingPointError","OverflowError","ZeroDivisionError","BytesWarning","DeprecationWarning","EncodingWarning","FutureWarning","ImportWarning","PendingDeprecationWarning","ResourceWarning","RuntimeWarning","SyntaxWarning","UnicodeWarning","UserWarning","BlockingIOError","ChildProcessError","ConnectionError","FileExistsError","FileNotFoundError","InterruptedError","IsADirectoryError","NotADirectoryError","PermissionError","ProcessLookupError","TimeoutError","IndentationError","_IncompleteInputError","IndexError","KeyError","ModuleNotFoundError","NotImplementedError","PythonFinalizationError","RecursionError","UnboundLocalError","UnicodeError","BrokenPipeError","ConnectionAbortedError","ConnectionRefusedError","ConnectionResetError","TabError","UnicodeDecodeError","UnicodeEncodeError","UnicodeTranslateError","ExceptionGroup"]++[bs H "EnvironmentError" 151<|.type "OSError",bs H "IOError" 152<|.type "OSError"]++JJ H 153 ["open"]++[bs H "quit" 154<|.builtin "builtins.quit#opaque",bs H "exit" 155<|.builtin "builtins.exit#opaque",bs H "copyright" 156<|.builtin "builtins.copyright#opaque",bs H "credits" 157<|.builtin "builtins.credits#opaque",bs H "license" 158<|.builtin "builtins.license#opaque",bs H "help" 159<|.builtin "builtins.help#opaque"]).toArray 159,e7 "dict"<|.dict #[(bs H "builtins" 162<|.ref 4),(bs H "__main__" 163<|.ref 5)] 2,Es bK H,e7 "dict"<|.dict #[(bs H "__name__" 165<|da "segno.consts" 194),(bs H "__doc__" 166 .none),(bs H "__package__" 167 .none),(bs H "__loader__" 168<|.builtin "__main__.__loader__#opaque"),(bs H "__spec__" 169 .none),(bs H "__annotations__" 170<|.ref 6),(bs H "__builtins__" 171<|.ref 4),(bs H "__file__" 173<|da "/claim/cut.py" 172),(bs H "__cached__" 174 .none),(bs H "_wall" 193<|.ref 21),(bs H "_tuplegetter" 252<|.ref 60),(bs H "VERSION_M4" 254<|.int (0) 253),(bs H "VERSION_M3" 257<|.int (-1) 256),(bs H "VERSION_M2" 260<|.int (-2) 259),(bs H "VERSION_M1" 263<|.int (-3) 262),(bs H "ERROR_LEVEL_L" 265<|.int (1) 264),(bs H "ERROR_LEVEL_M" 267<|.int (0) 266),(bs H "ERROR_LEVEL_Q" 269<|.int (3) 268),(bs H "ERROR_LEVEL_H" 271<|.int (2) 270),(bs H "EC" 399<|.ref 135)] 20,Rx bK H,{cls:=(.type "module"),dict:=(W 3),data:=.plain,slots:=#[]},e7 "dict"<|.dict #[] 0,eG,dm,hF 0 "<module>" "<module>" 176 1 0 0 7 a1 175 8 .none .none .none .none 179,A' 9 3 3<|da "__main__" 164,eG,t8<|.fields #[(.int (1) 0),(.int (0) 0),(.ref 20),(.int (5) 0),(.int (0) 0),(.ref 27),(.int (31) 0),(.int (0) 0),(.ref 71)],hF 0 "<module>" "<module>" 182 1 0 0 11 a1 181 12 .none .none .none .none 185,A' 13 3 3<|da "__main__" 164,eG,dm,fs "tuple" 0<|hT 0 190 ["k"],eG,iL (cj bK 0) "_wall" "_wall",hF 0 "_wall" "_wall" 187 1 1 3 15 Z 181 16 .none (.ref 17) (.ref 18) (.ref 19) 191,iK (cj bK 0) "_wall" "_wall" 3 [] .none .none (da "__main__" 164) aQ (.ref 20) .none,eG,e7 "builtin_function_or_method"<|.fields #[(.builtin "type.__prepare__"),(.type "type")],e7 "dict"<|.dict #[(bs H "__module__" 203<|da "segno.consts" 194),(bs H "__qualname__" 205<|da "_tuplegetter" 204),(bs H "__firstlineno__" 207<|.int (5) 206),(bs H "__init__" 216<|.ref 35),(bs H "__get__" 225<|.ref 43),(bs H "__set__" 234<|.ref 50),(bs H "__delete__" 242<|.ref 57),(bs H "__static_attributes__" 245<|.ref 58)] 8,eG,t8<|.fields #[(.int (7) 0),(.int (4) 0),(.ref 34),(.int (11) 0),(.int (4) 0),(.ref 42),(.int (18) 0),(.int (4) 0),(.ref 49),(.int (21) 0),(.int (4) 0),(.ref 56)],hF 0 "_tuplegetter" "_tuplegetter" 198 5 0 0 25 a1 181 26 .none .none .none .none 201,A' 27 3 24<|da "segno.consts" 194,eG,dm,fs "tuple" 0<|hT 0 211 ["self","index","doc"],eG,iL (gr (cj bK 2) 0) "__init__" "_tuplegetter.__init__",hF 0 "__init__" "_tuplegetter.__init__" 208 7 3 3 29 Z 181 30 .none (.ref 31) (.ref 32) (.ref 33) 214,iK (gr (cj bK 2) 0) "__init__" "_tuplegetter.__init__" 3 [] .none .none (da "segno.consts" 194) aQ (.ref 34) .none,e7 "tuple"<|.seq #[.none] 0,eG,dm,fs "tuple" 0<|hT 0 220 ["self","obj","objtype"],eG,iL (gr (cj bK 2) 1) "__get__" "_tuplegetter.__get__",hF 0 "__get__" "_tuplegetter.__get__" 217 11 3 3 37 Z 181 38 .none (.ref 39) (.ref 40) (.ref 41) 223,iK (gr (cj bK 2) 1) "__get__" "_tuplegetter.__get__" 3 [] (.ref 36) .none (da "segno.consts" 194) aQ (.ref 42) .none,eG,dm,fs "tuple" 0<|hT 0 229 ["self","obj","value"],eG,iL (gr (cj bK 2) 2) "__set__" "_tuplegetter.__set__",hF 0 "__set__" "_tuplegetter.__set__" 226 18 3 3 44 Z 181 45 .none (.ref 46) (.ref 47) (.ref 48) 232,iK (gr (cj bK 2) 2) "__set__" "_tuplegetter.__set__" 3 [] .none .none (da "segno.consts" 194) aQ (.ref 49) .none,eG,dm,fs "tuple" 0<|hT 0 238 ["self","obj"],eG,iL (gr (cj bK 2) 3) "__delete__" "_tuplegetter.__delete__",hF 0 "__delete__" "_tuplegetter.__delete__" 235 21 2 3 51 Z 181 52 .none (.ref 53) (.ref 54) (.ref 55) 240,iK (gr (cj bK 2) 3) "__delete__" "_tuplegetter.__delete__" 3 [] .none .none (da "segno.consts" 194) aQ (.ref 56) .none,fs "tuple" 0<|hT 0 243 ["__doc__","index"],e7 "dict"<|.dict #[(bs H "__module__" 203<|da "segno.consts" 194),(bs H "__firstlineno__" 207<|.int (5) 206),(bs H "__init__" 216<|.ref 35),(bs H "__get__" 225<|.ref 43),(bs H "__set__" 234<|.ref 50),(bs H "__delete__" 242<|.ref 57),(bs H "__static_attributes__" 245<|.ref 58),(bs H "__dict__" 247<|.ref 61),(bs H "__weakref__" 249<|.ref 62),(bs H "__doc__" 250 .none)] 4,{cls:=(.type "type"),dict:=aQ,data:=(.cls {name:=(ho "_tuplegetter"),bases:= [(.type "object")],mro:= [(.ref 60),(.type "object")],ns:=59,qualname:=(ho "_tuplegetter"),hasDict:=Z,slotNames:= [],subclasses:= [],abstract:=a1,collection:=aQ,hasDel:=a1}),slots:= #[aQ,aQ,(W<|da "_tuplegetter" 196),(W<|da "_tuplegetter" 204),(W<|.builtin "object.__new__"),(W<|.bool Z)]},e7 "getset_descriptor"<|.fields #[(da "__dict__" 246),(.ref 60),(.builtin "function.__dict__"),(.builtin "function.__dict__#set")],e7 "getset_descriptor"<|.fields #[(da "__weakref__" 248),(.ref 60),(.builtin "ExceptionGroup.__weakref__"),.none],e7 "super"<|.fields #[(.ref 60),(.ref 60),(.ref 60)],e7 "builtin_function_or_method"<|.fields #[(.builtin "object.__init_subclass__"),(.ref 60)],e7 "tuple"<|.seq #[(.type "tuple")] 0,e7 "builtin_function_or_method"<|.fields #[(.builtin "type.__prepare__"),(.type "type")],e7 "dict"<|.dict #[(bs H "__module__" 279<|da "segno.consts" 194),(bs H "__qualname__" 281<|da "EC" 280),(bs H "__firstlineno__" 283<|.int (31) 282),(bs H "__doc__" 285<|da "EC(num_blocks, num_total, num_data)" 284),(bs H "__slots__" 287<|.ref 73),(bs H "_fields" 291<|.ref 74),(bs H "_field_defaults" 292<|.ref 75),(bs H "__new__" 303<|.ref 82),(bs H "_make" 325<|.ref 91),(bs H "_replace" 336<|.ref 100),(bs H "__replace__" 337<|.ref 100),(bs H "__repr__" 345<|.ref 107),(bs H "_asdict" 352<|.ref 114),(bs H "__getnewargs__" 360<|.ref 121),(bs H "__match_args__" 364<|.ref 122),(bs H "num_blocks" 374<|.ref 124),(bs H "num_total" 384<|.ref 127),(bs H "num_data" 394<|.ref 130),(bs H "__static_attributes__" 395<|.ref 132),(bs H "__classcell__" 396<|.ref 68)] 20,e7 "cell"<|.cell<|W<|.ref 135,eG,t8<|.fields #[(.int (37) 0),(.int (4) 0),(.ref 81),(.int (42) 0),(.int (4) 0),(.ref 88),(.int (49) 0),(.int (4) 0),(.ref 99),(.int (60) 0),(.int (4) 0),(.ref 106),(.int (64) 0),(.int (4) 0),(.ref 113),(.int (67) 0),(.int (4) 0),(.ref 120)],hF 0 "EC" "EC" 274 31 0 0 69 a1 181 70 .none .none .none .none 277,A' 71 3 67<|da "segno.consts" 194,eG,fs "tuple" 0<|hT 0 288 ["num_blocks","num_total","num_data"],e7 "dict"<|.dict #[] 0,eG,dm,fs "tuple" 0<|hT 0 296 ["_cls","num_blocks","num_total","num_data"],eG,iL (gr (cj bK 11) 4) "__new__" "EC.__new__",Ry bK H,Et bK H,eG,dm,fs "tuple" 0<|hT 0 307 ["cls","iterable","result"],eG,iL (gr (cj bK 11) 5) "_make" "EC._make",hF 0 "_make" "EC._make" 304 41 2 3 83 Z 181 84 .none (.ref 85) (.ref 86) (.ref 87) 310,iK (gr (cj bK 11) 5) "_make" "EC._make" 3 [] .none (da "Make a new EC object from a sequence or iterable" 312) (da "segno.consts" 194) (W 92) (.ref 88) .none,e7 "dict"<|.dict #[(bs H "__module__" 314<|da "segno.consts" 194),(bs H "__name__" 317<|da "_make" 316),(bs H "__qualname__" 320<|da "EC._make" 319),(bs H "__doc__" 322<|da "Make a new EC object from a sequence or iterable" 312),(bs H "__annotations__" 324<|.ref 92)] 5,{cls:=(.type "classmethod"),dict:=(W 90),data:=(.fields #[(.ref 89),(.bool a1)]),slots:= #[]},e7 "dict"<|.dict #[] 0,e7 "tuple"<|.seq #[(.ref 68)] 0,fs "tuple" 0<|hT 0 329 ["__class__"],dm,fs "tuple" 0<|hT 0 330 ["self","kwds","result"],eG,iL (gr (cj bK 11) 6) "_replace" "EC._replace",e7 "code"<|.fields #[(da "_replace" 326),(da "EC._replace" 327),(da "/claim/cut.py" 328),(.int (49) 0),(.int (1) 0),(.int (1) 0),(.int (0) 0),(.int (11) 0),(.ref 94),(.bool Z),(.int (181) 0),(.ref 95),.none,(.ref 96),(.ref 97),(.ref 98),(.int (333) 0),(.int (49) 0),(da "/claim/cut.py" 334)],iK (gr (cj bK 11) 6) "_replace" "EC._replace" 3 [((ho "__class__"),68)] .none (da "Return a new EC object replacing specified fields with new values" 335) (da "segno.consts" 194) aQ (.ref 99)<|.ref 93,eG,dm,fs "tuple" 0<|hT 0 341 ["self"],eG,iL (gr (cj bK 11) 8) "__repr__" "EC.__repr__",hF 0 "__repr__" "EC.__repr__" 338 60 1 3 101 Z 181 102 .none (.ref 103) (.ref 104) (.ref 105) 342,iK (gr (cj bK 11) 8) "__repr__" "EC.__repr__" 3 [] .none (da "Return a nicely formatted representation string" 344) (da "segno.consts" 194) aQ (.ref 106) .none,eG,dm,fs "tuple" 0<|hT 0 349 ["self"],eG,iL (gr (cj bK 11) 9) "_asdict" "EC._asdict",hF 0 "_asdict" "EC._asdict" 346 64 1 3 108 Z 181 109 .none (.ref 110) (.ref 111) (.ref 112) 350,iK (gr (cj bK 11) 9) "_asdict" "EC._asdict" 3 [] .none .none (da "segno.consts" 194) aQ (.ref 113) .none,eG,dm,fs "tuple" 0<|hT 0 356 ["self"],eG,iL (gr (cj bK 11) 10) "__getnewargs__" "EC.__getnewargs__",hF 0 "__getnewargs__" "EC.__getnewargs__" 353 67 1 3 115 Z 181 116 .none (.ref 117) (.ref 118) (.ref 119) 357,iK (gr (cj bK 11) 10) "__getnewargs__" "EC.__getnewargs__" 3 [] .none (da "Return self as a plain tuple.  Used by copy and pickle." 359) (da "segno.consts" 194) aQ (.ref 120) .none,fs "tuple" 0<|hT 0 361 ["num_blocks","num_total","num_data"],e7 "dict"<|.dict #[(bs H "index" 371<|.int (0) 365),(bs H "__doc__" 373<|da "Alias for field number 0" 366)] 2,{cls:=(.ref 60),dict:=(W 123),data:= .plain,slots:= #[]},e7 "frame"<|.dict #[(bs H "self" 367<|.ref 124),(bs H "index" 368<|.int (0) 365),(bs H "doc" 369<|da "Alias for field number 0" 366)] 3,e7 "dict"<|.dict #[(bs H "index" 381<|.int (1) 375),(bs H "__doc__" 383<|da "Alias for field number 1" 376)] 2,{cls:=(.ref 60),dict:=(W 126),data:= .plain,slots:= #[]},e7 "frame"<|.dict #[(bs H "self" 377<|.ref 127),(bs H "index" 378<|.int (1) 375),(bs H "doc" 379<|da "Alias for field number 1" 376)] 3,e7 "dict"<|.dict #[(bs H "index" 391<|.int (2) 385),(bs H "__doc__" 393<|da "Alias for field number 2" 386)] 2,{cls:=(.ref 60),dict:=(W 129),data:= .plain,slots:= #[]},e7 "frame"<|.dict #[(bs H "self" 387<|.ref 130),(bs H "index" 388<|.int (2) 385),(bs H "doc" 389<|da "Alias for field number 2" 386)] 3,eG,e7 "list"<|.seq #[] 0,e7 "dict"<|.dict #[(bs H "__module__" 279<|da "segno.consts" 194),(bs H "__firstlineno__" 283<|.int (31) 282),(bs H "__doc__" 285<|da "EC(num_blocks, num_total, num_data)" 284),(bs H "__slots__" 287<|.ref 73),(bs H "_fields" 291<|.ref 74),(bs H "_field_defaults" 292<|.ref 75),(bs H "__new__" 303<|.ref 136),(bs H "_make" 325<|.ref 91),(bs H "_replace" 336<|.ref 100),(bs H "__replace__" 337<|.ref 100),(bs H "__repr__" 345<|.ref 107),(bs H "_asdict" 352<|.ref 114),(bs H "__getnewargs__" 360<|.ref 121),(bs H "__match_args__" 364<|.ref 122),(bs H "num_blocks" 374<|.ref 124),(bs H "num_total" 384<|.ref 127),(bs H "num_data" 394<|.ref 130),(bs H "__static_attributes__" 395<|.ref 132)] 2,{cls:=(.type "type"),dict:=aQ,data:=(.cls {name:=(ho "EC"),bases:= [(.type "tuple")],mro:= [(.ref 135),(.type "tuple"),(.type "object")],ns:=134,qualname:=(ho "EC"),hasDict:=a1,slotNames:= [],subclasses:= [],abstract:=a1,collection:=aQ,hasDel:=a1}),slots:= #[(W<|.ref 65),aQ,(W<|da "EC" 272),(W<|da "EC" 280),(W .none),(W<|.bool a1)]},e7 "staticmethod"<|.fields #[(.ref 82)],e7 "super"<|.fields #[(.ref 135),(.ref 135),(.ref 135)],Rz bK H]
noncomputable def n_(bK:cl)(H:cc):BT:=lW<|Ba bK H
end
noncomputable abbrev ao:cl:=WP
section
variable{g:dw}{z:Nat}{Q:c4}{A:b0}{n:Env}{p N aF:List aq}{S:Nat}{q bc:bY}{a:ag}{u:Int}{t:Nat}{I be cG:aq}{bi:uH}{cv:Array al}
noncomputable def i5:Stmt:=((gC<|cj ao 17)[1]?).getD<|.Pass default
noncomputable def Bb:Scope:={kind:=.function,names:=[(".0",.local),("i",.local),("val",.free)],isGenerator:=Z,isCoroutine:=a1,more:=[]}
theorem Z_:∃e1 fi hG ij kW pz x5 Bc JQ cy pg DT RA,gC i5=[.Return (W<|.GeneratorExp (.BinOp (.BinOp (.Name "val" e1) .RShift (.Name "i" fi) hG) .BitAnd (.Constant (.int 1) 0 ij) kW) [⟨.Name "i" pz,.Call (.Name "reversed" x5) [.Call (.Name "range" Bc) [.Name "length" JQ] [] cy] [] pg,[],0⟩] Bb DT) RA]:=⟨_,_,_,_,_,_,_,_,_,_,_,_,_,U⟩
noncomputable def nz(u:Int)(t k:Nat):Int:=tB (u.fdiv<|2^(t-1-k)) 1
theorem RB{prog:cl}{j:b7}{as:al->ag->Prop}{n:Env}{f:Str}{aA:Str->Option al}{u:al}{aj:Pos}{C:al->ag->Prop}(aS:n.scope.kind=.function)(aI:n.kindOf f=W .local)(ay:a.heap.Ns n.locals aA)(aM:aA f=W u)(c:C u a)(bl:(f==("__debug__":Str))=a1):b9 (cq prog j) q (dD (.Name f aj) n) C as a:=by exact iT (eval_Name (hd:=bl) ..)<|bj<|pS<|GH aS aI ay aM c
theorem RC{prog:cl}{j:b7}{as:al->ag->Prop}{n:Env}{f:Str}{h:aq}{u:al}{aj:Pos}{C:al->ag->Prop}(aS:n.scope.kind=.function)(aI:n.kindOf f=W .free)(a7:n.cells.lookup f=W h)(aM:a.heap.IsCell h<|W u)(c:C u a)(bl:(f==("__debug__":Str))=a1)(ay:(f==("__classdict__":Str))=a1):b9 (cq prog j) q (dD (.Name f aj) n) C as a:=by exact V (eval_Name (hd:=bl) ..)<|bj<|pS<|Nh aS aI a7 aM c ay
theorem Z'(az:g.GI)(ax:eK (z+1) q)(bg:FnAt a I bi<|gC i5)(oK:bi.scope=fa i5)(pv:bi.globals=3)(n9:bi.builtins=0)(rB:bi.code=.ref be)(bC:TabAt a.heap be cG cv)(x6:cG∉g.rh)(M:cM g n p N aF S)(r:bw g n p N S A a){xA RD:Tok}{aR:List al}(m:iO a bi ⟨aR,[]⟩ [("val",.int u xA),("length",.int t RD)])(ay:t<2^62)(aK:g.gl "range"=W (.type "range"))(iX:g.gl "reversed"=W (.type "reversed"))(hA:bc.handled=aQ){C:al->ag->Prop}(ah:∀h aX s ai f' kT d7 v,a.heap.objs.size<=h->a.heap.objs.size<=aX->a.heap.objs.size<=ai->h<v.heap.objs.size->aX<v.heap.objs.size->ai<v.heap.objs.size->a.gens.size<=s->s<v.gens.size->a9 [cG] [] a v->TabAt v.heap be cG kT->kT=cv++d7->n7 h aX (ai::f') [ai]->(∀b∈f',(b∈g.rh\/a.heap.objs.size<=b)/\b<v.heap.objs.size)->(∀qE:bY,qE.handled=aQ->qE.depth<=bc.depth->qE.units<=bc.units->jt g.prog g.w qE h s aX (ai::f') [ai] t (λk B=>∃E,B=.int (nz u t k) E) 0 v)->C (.ref h) v):Y g.prog g.w q (er (.ref I) aR []) C a:=by
 refine A7 (eb:=["val","length"]) (ec:=[(.b2,.int u),(.b2,.int t)]) (aR:=[.int u xA,.int t RD]) az.1 ax bg pv n9 M r ?_ U m (by refine V oK ?_;cbv) λv dP bX ew bn gf=>?_
 .refine⟨_,_,U,?_,_,_,U,?_,U⟩
  .show cf _ _ _ _;exact⟨_,U⟩
  .show cf _ _ _ _;exact⟨_,U⟩
 have pn:=bg.8;have i6:(cX bi I a).scope=fa i5:=oK;have Bd:(cX bi I a).code=.ref be:=rB;have Eu:(cX bi I a).globals=3:=pv;have x7:(cX bi I a).builtins=0:=n9;have fA:(q.deeper<|cX bi I a).depth<recursionLimit:=mG (bb (iw _ _) gf.2) bd;generalize aaa:q.deeper (cX bi I a)=kf at*;generalize bp:cX bi I a=ed at*;refine W_ Z_ λe1 fi hG ij kW pz x5 Bc JQ cy pg DT RA iG=>V iG<|gJ λw bI=>jf bn.3 λcV ar af bP cB=>?_;obtain-:=bP;obtain-:=cB;refine br (af "val" (.f<|.int u)<|oO U) λa4 h1 av=>?_;have jk:∃E,a4=.int u E:=by have:cf v.heap (b4 ed++p) (.int u) a4:=av;exact this
 refine c5 jk λE dv=>?_;obtain rfl:=dv;refine br (ar.3 "val"<|.inl (by show ed.scope.names.lookup _=_;refine V i6 ?_;cbv)) λgZ ln ms=>?_;refine bI ?_;rw[h1]at ms;have sU:gZ∈b4 ed:=sv ln;have JR:uF Bb ed=dz (hb ed Bb.names []):=Jc λe a5 xT=>by
  have nn:e∈([((".0":Str),NameKind.local),(("i":Str),NameKind.local),(("val":Str),NameKind.free)]:List<|Str×se):=a5;rcases fR.mp nn with rfl|nn
  .cases xT
  rcases fR.mp nn with rfl|nn
  .cases xT
  exact V (bm nn)<|⟨gZ,ln⟩
 refine Y.bind<|dV<|Y.bind ?_;have hf:g.s0.heap.objs.size<=a.heap.objs.size:=r.2.1.2;have mm:∀b o,b<g.s0.heap.objs.size->b∉g.tabs->g.s0.heap.get? b=W o->v.heap.get? b=W o:=λb o w m i=>bn.2.1.1 b o m i;refine Rh (g:=be) (H:=cG) (cv:=cv) (kP:=hb ed Bb.names []) (pt:=gZ::g.rh) (t:=t) (sB:=λk u=>k<t/\∃E,u=.int ((t:Int)-1+k*(-1)) E) (Ei:=λai k c=>ov c ai ((t:Int)-1+(k:Nat)*(-1)) ((t:Int)-(k:Nat))<|-1) (bc:=bc) (d9:=λk B=>∃E,B=.int (nz u t k) E) U JR bd U U U fA (az.1.3 _ bn.2) hA Bd (bC.keeps λb o i=>bX.1 b o (λe=>dt e) i) (λf=>U) ?_ ?_ ?_ ?_ ?_ ?_ (λk u c=>c.1) ?_
 .--sx al8 place
  intro ej mY el nk aS a5;refine iT (V Eu<|V x7 U) ?_;rw[x7]at a5;exact az.2 ej mY el nk (λb o m bC i=>aS b o (λe=>x6<|e▸mZ.mpr ⟨m,bC⟩)<|mm b o m bC i) a5
 .intro b m
  revert b;refine g4 ?_ ?_
  .exact ew.8 _ (ew.4 _ sU).1
  .intro b m;exact cw (mZ.mp m).1 bn.2.1.2
 .exact mt<|mZ.mpr az.3
 .intro e;refine dH e (λe=>?_) λe=>?_
  .have:=bC.1.lt.2;exact cd (e▸this)<|dP gZ sU
  .exact x6 e
 .--sx iterator
  have cL:cm g.prog g.w kf [] [] ed (bw g ed (b4 ed++p) [] v.heap.objs.size<|js ["val","length"] [(.b2,.int u),(.b2,.int t)] []) (.Name "length" JQ) (dZ t):=eT (ae.name (g:=g) (z:=z) (Q:=fa i5) (u:=.int t) U (by cbv)) gf i6 ew;refine ZZ az.1 ew cL aK iX (by refine V i6 ?_;cbv) (by refine V i6 ?_;cbv) U ay v _ bn λA6 an aL⟨ai,i,ll,gB⟩=>?_;refine V i<|Y.of<|(Dz gf.1 ai ((t:Int)-1) (-1) t).self 0 an _ _ ?_ ⟨ai,U,ll,dB gB,aL,?_,λej gf=>Mine.Walks.lt<|Dz gf ai ((t:Int)-1) (-1) t⟩
  .simpa using gB
  .simpa using gB
 .--sx Yh
  intro aX code ej mY k B am t5 Ev _ _ ac aM x4 t6 JT;refine gJ λw bI=>cY aM λw ek=>c5 ek λeR e_=>?_;obtain rfl:=e_;refine bI<|GQ<|GQ<|RC (u:=.int u E) U U (xR ln Bb.names [] aW<|.inr<|mt<|mt bz) ?_ ?_ bd bd
  .exact br ms λo i bl=>⟨o,JT gZ bz o i,bl⟩
  refine RB U U x4 t6 (rshift_int (by lia) ?_) bd;have bG:((t:Int)-1+k*(-1)).toNat=t-1-k:=by rw[G',Ha,<-zL,Hb];exact(Da t<|1+k).trans (Hg ..).symm
  refine V bG<|tr<|and_int ⟨⟨am.toks+1+1,U⟩,am.heap,am.toks+1+1+1,U,λw w i=>i⟩
 .intro h aX s ai kT d7 el a7 fW ll ku pA Be vI JU hS JV lz kM n4;have n8:a.heap.objs.size<=v.heap.objs.size:=bX.2;refine Y.pure<|Y.pure ⟨_,U,ah h aX s ai (gZ::g.rh) kT d7 el (bb n8 a7) (bb n8 fW) (bb n8 ll) ku pA Be (bb bX.4 vI) JU ((bX.mono aW λw c=>c).trans hS) JV lz kM (λb m=>?_) n4⟩
  revert b;refine g4 ?_ ?_
  .exact⟨.inr<|dP _ sU,cw (ew.8 _ (ew.4 _ sU).1) hS.2⟩
  .intro b m;exact⟨.inl m,cw (mZ.mp m).1<|bb bn.2.1.2 hS.2⟩
end
section
theorem RE:HJ.lookup (HK ['p','a','m'].reverse)=W Manifest.sig_map:=by cbv
theorem Bf:uI "map" "__next__" "map.__next__":=O4 (owner:="map") (n:="__next__") (by refine V (hJ ..)<|V hK ?_;cbv) (by decide+kernel) (by decide+kernel) (by decide+kernel) (by first|exact .inl (by decide+kernel)|exact .inr (by decide+kernel)) (by refine V (kH ..) ?_;cbv)
theorem RF:k6 table "map.__next__"=W Builtin.«map.__next__»:=o_ (by cbv)
theorem RG(h:al):jc "map.__next__" ⟨[h],[]⟩:=by unfold jc;refine V (sc (id:="map.__next__") (n:=['_','_','t','x','e','n','_','_']) (o:=['p','a','m']) (by cbv) RE) ?_;cbv
theorem aab:k8 (.type "map") "__len__"=pure aQ:=by refine V (hJ ..)<|V hK ?_;cbv
theorem aac:k8 (.type "map") "__length_hint__"=pure aQ:=by refine V (hJ ..)<|V hK ?_;cbv
theorem RH:uI "map" "__iter__" "map.__iter__":=O4 (owner:="map") (n:="__iter__") (by refine V (hJ ..)<|V hK ?_;cbv) (by decide+kernel) (by decide+kernel) (by decide+kernel) (by first|exact .inl (by decide+kernel)|exact .inr (by decide+kernel)) (by refine V (kH ..) ?_;cbv)
theorem aad:k6 table "map.__iter__"=W Ou:=GG (id':="dict_keyiterator.__iter__") (by cbv) (by first|rfl|decide+kernel|(unfold Oq;simp+decide[Ot])) (by decide+kernel) (by cbv)
theorem aae(h:al):jc "map.__iter__" ⟨[h],[]⟩:=by unfold jc;refine V (sc (id:="map.__iter__") (n:=['_','_','r','e','t','i','_','_']) (o:=['p','a','m']) (by cbv) RE) ?_;cbv
section
variable{prog:cl}{j:b7}{q:bY}{as:al->ag->Prop}{a:ag}{aT aY ae ch:aq}
inductive oV(c:eH)(aT aY ae ch:aq)(bA:Array al)(k:Nat):Prop|mk(fS:c.get? aT=W {cls:=.type "map",data:=.fields #[.ref aY,.type "str"]})(fT:∃t,c.get? aY=W {cls:=.type "tuple",data:=.seq #[.ref ae] t})(gy:c.IsListIter ae ch k)(jI:c.IsList ch bA):oV c aT aY ae ch bA k
theorem oV.keep{c aa:eH}{bA:Array al}{k:Nat}(f:oV c aT aY ae ch bA k)(l:∀b∈[aT,aY,ae,ch],∀o,c.get? b=W o->aa.get? b=W o):oV aa aT aY ae ch bA k:=by obtain⟨aA,⟨t,E⟩,aD,D⟩:=f;exact⟨l aT (bz) _ aA,⟨t,l aY (mt bz) _ E⟩,(br aD λo aP y=>⟨o,l ae (mt<|mt bz) _ aP,y⟩),D.at λo i=>l ch (by simp) o i⟩
theorem aaf{bA:Array al}{k:Nat}{h:Int}{E:Tok}{C:Option al->ag->Prop}(f:oV a.heap aT aY ae ch bA k)(rN:aT≠ae)(cK:aY≠ae)(fN:ch≠ae)(R:bA[k]?=W (.int h E))(a7:h.natAbs.log2<1920)(ah:∀aa eR x,oV aa aT aY ae ch bA (k+1)->iQ ae a.heap aa->a.toks<=x->C (W<|.str (toString h) eR) {a with heap:=aa,toks:=x}):b9 (cq prog j) q (nO<|.ref aT) C as a:=by
 obtain⟨bt,⟨RI,bC⟩,dx,aI⟩:=f;have sV:a.TypeIs (.ref aT) "map":=⟨_,bt,U⟩;refine bj<|ts<|or (name:=ho "__next__") sV Bf (k7 Bf sV RF ?_<|RG _);refine mM (h:=(fl aT,[])) U ?_;try dsimp only
 refine ia bt U (f:=.ref aY) U<|bj (m:=seqItems?<|.ref aY)<|ty bC U ?_;try dsimp only
 refine bj<|bj<|ko<|wpAny_nextOf_list_item dx aI R λbo aag fm=>cN<|cN ?_;have RJ:=(fm.2 aT rN).trans bt;exact ia RJ U (f:=.type "str") U<|ko<|PySem.P.str_of_int a7<|bj<|uA<|cN<|dj _ U<|cN<|ah bo _ _ ⟨RJ,(oE RI<|(fm.2 aY cK).trans bC),aag,aI.at λo i=>(fm.2 ch fN).trans i⟩ fm<|kl _
theorem aah{bA:Array al}{k:Nat}{C:Option al->ag->Prop}(cJ:q.handled=aQ)(f:oV a.heap aT aY ae ch bA k)(R:bA[k]?=aQ)(ah:∀aa,Aa ae a.heap aa->C aQ {a with heap:=aa}):b9 (cq prog j) q (nO<|.ref aT) C as a:=by
 obtain⟨bt,⟨RI,bC⟩,dx,aI⟩:=f;have sV:a.TypeIs (.ref aT) "map":=⟨_,bt,U⟩;refine bj<|ts<|or (name:=ho "__next__") sV Bf (k7 Bf sV RF ?_<|RG _);refine mM (h:=(fl aT,[])) U ?_;try dsimp only
 refine ia bt U (f:=.ref aY) U<|bj (m:=seqItems?<|.ref aY)<|ty bC U ?_;try dsimp only
 exact bj<|bj<|ko<|wpAny_nextOf_list_end cJ dx aI R λaa f sW h2=>br h2 λo aP az=>bj<|q5 (T:="StopIteration") (b:=Z) ⟨o,aP,az⟩ GR<|cN<|ah _ sW
theorem aai{bA:Array al}{k:Nat}{C:al->ag->Prop}(f:oV a.heap aT aY ae ch bA k)(c:C (.ref aT) a):b9 (cq prog j) q (nb<|.ref aT) C as a:=by have sV:a.TypeIs (.ref aT) "map":=⟨_,f.1,U⟩;exact GS sV RH<|k7 RH sV aad (cN<|dj _ U<|jg "map" _ sV Bf.lookup c)<|aae _
theorem aaj(cJ:q.handled=aQ)(rN:aT≠ae)(cK:aY≠ae)(fN:ch≠ae)(aw:List<|Int×Tok)(ay:∀r∈aw,r.1.natAbs.log2<1920):WalksS prog j q aT [aT,aY,ae,ch] [ae] (λh b=>b=h) aw.length (λk u=>∃r aN,aw[k]?=W r/\u=.str (toString r.1) aN) (λk a=>oV a.heap aT aY ae ch (aw.map λr=>tD r.1 r.2).toArray k)where
 sub:=λb m=>by refine V (bm m) ?_;exact mt<|mt bz
 grefl:=λw=>U
 gtrans:=λw w w h b=>b.trans h
 frame:=λk a aa x st w aS=>st.keep aS
 item:=λk a C as ac st ah=>by have aZ:aw[k]?=W aw[k]:=fG ac;refine aaf (h:=aw[k].1) (E:=aw[k].2) st rN cK fN (by simp[aZ]) (ay _<|sg ac) λaa eR x kR L bC=>ah _ _ (tI _ eR aZ U) kR ⟨λb o m i=>L.extBut b o (λe=>m<|km.mpr e) i,U,U,U,bC⟩
 done:=λa C as st ah=>aah cJ st (by simp) λaa bp=>ah _ ⟨λb o m i=>bp b o (λe=>m<|km.mpr e) i,U,U,U,dA _⟩
 self:=λk a C as st ah=>aai st ah
end
end
section
open PySem PySem.Builtin PySem.Builtin.Str PyProof.Rows
section
variable{prog:cl}{j:b7}{q:bY}{as:al->ag->Prop}{a:ag}{ai:aq}{bF a0:List aq}{ak:Array uD->Array uD->Prop}{t:Nat}{H:Nat->al->Prop}{St:Nat->ag->Prop}
theorem aak{C:List al->ag->Prop}(cZ:WalksS prog j q.in1 ai bF a0 ak t H St)(cK:∀k a,St k a->a.TypeIs (.ref ai) "map")(f4:St 0 a)(kx:∀b∈bF,b<a.heap.objs.size)(ll:ai∈bF)(ah:∀v b6,Moved a0 ak a v->w0 H b6 t->C b6.toList v)(ay:t<=cI):b9 (cq prog j) q (collect<|.ref ai) C as a:=by
 have tP:a.heap.objs.size∉bF:=λbt=>h' _<|kx _ bt;have Ew:a.heap.objs.size≠ai:=λi=>tP<|i▸ll;refine bj<|wpAny_runValue<|wY OP ?_;refine bj<|jd ?_;refine cN ⟨ot OQ _,wY OR ?_⟩;have u_:=cZ.frame 0 a (a.heap.push {cls:=.type "list",data:=.seq ([]:List al).toArray}) a.toks f4 (dA _) λb w o i=>eD _ i;show b9 _ q.in1 (HX (.ref a.heap.objs.size) (.ref ai)<|.ref a.heap.objs.size) _ _ _;refine bj<|wR (cK 0 _ u_) ?_;have af:DE (.ref a.heap.objs.size) (.ref ai)=a1:=by simp[DE,Ew]
 have ap:(kJ "map"==kJ "list")=a1:=bd;have bk:(kJ "map"==kJ "tuple")=a1:=bd;simp only[af,ap,bk,sb,CN,if_false];refine bj<|cZ.self 0 _ _ _ u_ ?_;refine ko<|bj<|hX (cK 0 _ u_) aab ?_;refine bj<|hX (cK 0 _ u_) aac ?_;refine cN<|bj<|l9 ?_;have t9:(a.heap.push {cls:=.type "list",data:=.seq ([]:List al).toArray}).get? a.heap.objs.size=W {cls:=.type "list",data:=.seq ([]:List al).toArray}:=fc _ U;refine bj<|bj<|w1 t9 U ?_;have vJ:=pd (jB (·.push oB)) t9 U;refine w1 vJ U ?_;have sX:∀b o,b≠a.heap.objs.size->(a.heap.push {cls:=.type "list",data:=.seq ([]:List al).toArray}).get? b=W o->(((a.heap.push {cls:=.type "list",data:=.seq ([]:List al).toArray}).update a.heap.objs.size (jB (·.push oB))).update a.heap.objs.size (jB (·.pop))).get? b=W o:=λb o m i=>(rg _ _<|iA m).trans<|(rg _ _<|iA m).trans i;refine cN ⟨ot HU _,No cZ ay _ tP _ t 0 _ _ _ U (eJ _) (cZ.frame 0 ({a with heap:=a.heap.push {cls:=.type "list",data:=.seq ([]:List al).toArray}}:ag) _ a.toks u_ (dA _) λb m o i=>sX b o (λc=>tP<|c▸m) i) (pd (jB (·.pop)) vJ U) (O5 H) λv go be bt vK jp=>?_⟩;refine nU vK<|cN<|ah v go (Moved.drop_new (o:={cls:=.type "list",data:=.seq ([]:List al).toArray}) (tk:=a.toks) (Moved.trans cZ.gtrans ((Moved.refl cZ.grefl).then_heap (by first|exact dA _|exact kl _|omega) λb o m i=>?_) bt)<|dA _) jp;exact sX b o (λe=>by replace m:=e▸m;exact m bz) i
theorem aal{E:Tok}{C:al->ag->Prop}(cZ:WalksS prog j q.in1.in1 ai bF a0 ak t H St)(cK:∀k a,St k a->a.TypeIs (.ref ai) "map")(f4:St 0 a)(kx:∀b∈bF,b<a.heap.objs.size)(ll:ai∈bF)(aam:∀k u,H k u->∃B aN,u=Value.str B aN)(a5:∀v(D:List<|Str×Tok),Moved a0 ak a v->w0 H (zC D).toArray t->JoinOk mK (D.map (·.1))=Z/\∀eR l,C (.str (Txt.join mK (D.map (·.1))) eR) {v with toks:=l})(dW:t<=cI):b9 (cq prog j) q (call (.builtin "str.join") [.str mK E,.ref ai]) C as a:=by
 refine wpAny_call<|codeAny_call_builtin F.slot_str_join.plain F.entry_str_join<|F.slot_str_join.check _ _ _ _ _ _ _ _ (typeIs_str _ _ _) (F.args_str_join_2 _ _) ?_;refine iT (join_tree_other ..)<|bj<|wR (cK 0 a f4) ?_;refine bj<|wpAny_tryCatch<|cZ.of_in1.self 0 a _ _ f4 ?_;refine bj<|aak cZ cK f4 kx ll (λv b6 bt jp=>?_) dW;refine c5 (exists_strValues b6.toList λu aM=>by obtain⟨aD,dx,rfl⟩:=Array.mem_iff_getElem.mp<|Array.mem_toList_iff.mp aM;exact aam aD _<|jp.2 aD _<|uT dx) λD aI=>?_;refine iT (b' aI U) ?_;have aan:w0 H (zC D).toArray t:=by refine V aI ?_;simpa using jp
 refine cY (a5 v D bt aan) λkS aao=>?_;unfold JoinOk at kS;rw[GD]at kS;have s:Gives (joinTail mK<|zC D) (joinMade mK D):=by have x8:=gives_joinTail mK D kS;cases D with|nil=>exact x8|cons r y=>cases y with
   |nil=>exact x8|cons e fV=>exact x8
 exact s prog j q (wants C as) v<|post_join D ⟨joinFit_length kS,aao⟩
end
end
structure e2 where
 objs:List<|aq×Obj
 m:Nat
 toks:Nat
 sc:List Nat
 eB:List<|aq×aq
 gs:List iv
def jS(D:List<|aq×aq):Prop:=∀r∈D,r.1=r.2
noncomputable def Bg(bc:BT)(h:aq):e2->Option (Obj×e2)
 |⟨os,aA,x,0::y,kB,bQ⟩=>(JI bc h).bind λo=>W (o,⟨os,aA,x,y,kB,bQ⟩)|⟨os,aA,x,(k+1)::y,kB,bQ⟩=>os[k]?.bind λ|(b,o)=>W (o,⟨os,aA,x,y,(h,b)::kB,bQ⟩)
 |⟨bL,dQ,lp,[],xI,aap⟩=>aQ
noncomputable def RK(h:aq)(I:Obj->Obj):e2->Option e2
 |⟨os,aA,x,(k+1)::y,kB,bQ⟩=>os[k]?.bind λ|(b,o)=>(hZ<|I o).bind λdb=>W ⟨os.set k (b,db),aA,x,y,(h,b)::kB,bQ⟩
 |_=>aQ
noncomputable def ik{bf:Type}(st:pb)(bc:BT)(t s:Nat)(eF:iv->e2->Option (gb×e2)):Sem bf->e2->Option (bf×e2)
 |.pure h,G=>W (h,G)|.rule bL l,G=>ik st bc t s eF (l ()) G|.at bL l,G=>ik st bc t s eF (l ()) G|.point bL l,G=>ik st bc t s eF (l ()) G|.ask l,G=>ik st bc t s eF (l st) G|.thread l,G=>ik st bc t s eF (l 0) G|.fresh l,⟨os,aA,x,Q,kB,bQ⟩=>ik st bc t s eF (l x) ⟨os,aA,x+1,Q,kB,bQ⟩|.load h bL l,G=>(Bg bc h G).bind λ|(o,ev)=>ik st bc t s eF (l o) ev
 |.loadIfAlive h l,G=>(Bg bc h G).bind λ|(o,ev)=>ik st bc t s eF (l<|W o) ev
 |.update h bL I l,G=>(RK h I G).bind λB=>ik st bc t s eF (l ()) B|.alloc o l,⟨os,aA,x,Q,kB,bQ⟩=>(hZ o).bind λdb=>ik st bc t s eF (l<|t+aA) ⟨os++[(t+aA,db)],aA+1,x,Q,kB,bQ⟩|.newGen g l,⟨os,aA,x,Q,kB,bQ⟩=>ik st bc t s eF (l<|s+bQ.length) ⟨os,aA,x,Q,kB,bQ++[g]⟩|.call g aQ bL dQ l,G=>(eF g G).bind λ|(I,ev)=>ik st bc t s eF (l<|.ok I) ev
 |bL,dQ=>aQ
noncomputable def RL:Data->Option uH|.func bi=>W bi|_=>aQ
noncomputable def RM:al->Option (Str×Tok)|.str e E=>W (e,E)|_=>aQ
noncomputable def RN:Data->Option (Str×Tok)|.fields O=>(O[1]?:Option al).bind RM|_=>aQ
noncomputable def RO:FuncBody->Option (List ez)|.stmts b=>W b|_=>aQ
noncomputable def RP:al->Option aq|.ref h=>W h|_=>aQ
noncomputable def fnOf(bc:BT):iv->e2->Option (uH×List ez×Args×aq×e2)
 |.call (.ref h) f3,G=>(Bg bc h G).bind λ|(o,rP)=>(RL o.data).bind λbi=>(kz<|!bi.scope.isGenerator).bind λw=>(kz<|!bi.scope.isCoroutine).bind λw=>(RO bi.body).bind λep=>(RP bi.code).bind λBh=>(Bg bc Bh rP).bind λ|(I9,JW)=>(RN I9.data).bind λe=>(kz<|e.1==bi.qualname).bind λw=>W (bi,ep,f3,h,JW)
 |bL,dQ=>aQ
noncomputable def JX(kU:iv->e2->Option (gb×e2)):Fin×e2->Option (gb×e2)|(.done cO,ev)=>W (cO,ev)|(.again be,ev)=>(kz be.quiet).bind λw=>kU be ev
noncomputable def pB(kd:String->Option tq)(st:pb)(bc:BT)(t s:Nat):Nat->iv->e2->Option (gb×e2)
 |0,bL,dQ=>aQ|I+1,g,G=>match rw g||ma 3 g.weight with
  |true=>aQ|false=>match fnOf bc g G with
   |some (bi,ep,f3,h,rP)=>(ik st bc t s (pB kd st bc t s I) (bindArgs bi f3) rP).bind λ|(ih,JW)=>(ik st bc t s (pB kd st bc t s I) (zv bi.scope bi.globals bi.closure ih (bi.qualname++".<locals>.") (W h) bi.code aQ bi.builtins) JW).bind λ|(n,aaq)=>pB kd st bc t s I (.func ep n) aaq
   |none=>(ik st bc t s (pB kd st bc t s I) (tp kd g) G).bind<|JX<|pB kd st bc t s I
inductive eV(bc:BT)(t s:Nat)(bV:ag)(G:e2)(a:ag):Prop|mk(fS:a.heap.objs.size=t+G.m)(fT:a.toks=G.toks)(gy:∀(k:Nat)(b:aq)(o:Obj),G.objs[k]?=W (b,o)->a.heap.get? b=W o)(jI:(G.objs.map (·.1)).Nodup)(lm:Sub bc a.heap)(nZ:∀r∈G.objs,∀o db,bc.get r.1=W o->hZ o=W db->False)(vg:∀b o,(∀r∈G.objs,r.1≠b)->bV.heap.get? b=W o->a.heap.get? b=W o)(D9:a.gens=bV.gens++(G.gs.map GenState.fresh).toArray)(I':bV.gens.size=s)(QF:a.os=bV.os)(ZG:a.drawn=bV.drawn):eV bc t s bV G a
section
theorem RR(c:hZ o=W db):db=o/\o.isFreed=a1:=by obtain⟨g,z,qG,bx⟩:=o;cases qG<;>first|exact⟨(d4 c).symm,Eq.refl _⟩|exact nomatch c
theorem eV.re{os:List<|aq×Obj}{aA x:Nat}{Q aar:List Nat}{kB aas:List<|aq×aq}{bQ:List iv}{a:ag}(k:eV bc t s bV ⟨os,aA,x,Q,kB,bQ⟩ a):eV bc t s bV ⟨os,aA,x,aar,aas,bQ⟩ a:=⟨k.1,k.2,k.3,k.4,k.5,k.6,k.7,k.8,k.9,k.10,k.11⟩
theorem jS.E'(c:jS<|r::D):jS D:=λe a5=>c e<|mt a5
theorem jS.hd(c:jS<|(h,b)::D):h=b:=c _ bz
theorem Ex(c:Bg bc h G=W B)(aP:jS B.2.eB):jS G.eB/\∀a,eV bc t s bV G a->a.heap.get? h=W B.1/\eV bc t s bV B.2 a:=match G,c with|⟨os,aA,x,0::y,kB,bQ⟩,c=>dY c λo i c=>by cases c;exact⟨aP,λa k=>⟨Rv k.5 i,k.re⟩⟩|⟨os,aA,x,(aD+1)::y,kB,bQ⟩,c=>dY c λr i c=>by cases c;exact⟨aP.E',λa k=>⟨(aP.hd:h=r.1)▸k.3 aD r.1 r.2 i,k.re⟩⟩
set_option tactic.hygienic true in theorem aat(c:RK h I G=W ev)(aP:jS ev.eB):jS G.eB/\∀a,eV bc t s bV G a->(a.heap.get? h).isSome=Z/\eV bc t s bV ev {a with heap:=a.heap.update h I}:=by match G,c with
 |⟨os,aA,x,(k+1)::y,kB,bQ⟩,c=>
  refine dY c λr i c=>dY c λjm fO c=>?_;obtain⟨b,f⟩:=r;cases c;obtain rfl:h=b:=aP.hd;obtain⟨rfl,bg⟩:=RR fO;refine⟨aP.E',λa e=>?_⟩;have RS:a.heap.get? h=W f:=e.3 k h f i;have ac:k<os.length:=(k'.mp i).1;have Bi:(os.set k (h,I f)).map (·.1)=os.map (·.1):=by
   apply uO;intro aD;refine V (fk)<|V (fk)<|V (Hw) ?_;split
   .rename_i x9;refine b' x9<|V i ?_;rfl
   .rfl
  have c9:∀(aD:Nat)(b:aq)(o:Obj),aD≠k->os[aD]?=W (b,o)->b≠h:=by
   intro aD b o dx m JY;subst JY;have aau:aD<(os.map (·.1)).length:=by simpa using(k'.mp m).1
   have bG:(os.map (·.1))[aD]?=W b:=by refine V (fk)<|V m ?_;rfl
   have cr:(os.map (·.1))[k]?=W b:=by refine V (fk)<|V i ?_;rfl
   exact dx<|(List.getElem?_inj aau e.4).mp<|bG.trans cr.symm
  refine⟨by refine V RS ?_;rfl,⟨?_,e.2,?_,?_,?_,?_,?_,e.8,e.9,e.10,e.11⟩⟩
  .show(a.heap.update h I).objs.size=_;exact V (tC ..) e.1
  .intro aD b o dx;replace dx:=(Hw)▸dx;split at dx
   .rename_i x9;skip;cases dx;exact pd I RS bg
   .rename_i x9;exact(rg _ _ (c9 aD b o (λe=>x9 e.symm) dx).symm).trans<|e.3 aD b o dx
  .show((os.set k (h,I f)).map (·.1)).Nodup;exact V Bi e.4
  .intro b o db m kc;have JY:h≠b:=by rintro rfl;exact e.6 (h,f) (ox i) o db m kc
   exact(rg _ _ JY).trans<|e.5 b o db m kc
  .intro r aZ o db m kc;have:r.1∈(os.set k (h,I f)).map (·.1):=xg aZ;replace this:=Bi▸this;exact mg this λbn qt ck=>e.6 bn qt o db (ck▸m) kc
  .intro b o m aS;have sY:∀r∈os,r.1≠b:=by intro r aZ;have:r.1∈os.map (·.1):=xg aZ;replace this:=Bi▸this;exact mg this λbn qt ck=>ck▸m bn qt
   exact(rg _ _<|sY (h,f)<|ox i).trans<|e.7 b o sY aS
set_option tactic.hygienic true in theorem aav(fO:hZ o=W db)(a:ag)(e:eV bc t s bV G a):a.heap.objs.size=t+G.m/\eV bc t s bV ⟨G.objs++[(t+G.m,db)],G.m+1,G.toks,G.sc,G.eB,G.gs⟩ {a with heap:=a.heap.push o}:=by
 refine cY (RR fO) λe9 bg=>?_;obtain rfl:=e9;have cP:∀r∈G.objs,r.1<t+G.m:=by intro r aZ;refine c5 (N1 aZ) λk ac=>?_;exact b' e.1<|dB<|e.3 k r.1 r.2 ac
 refine⟨e.1,⟨?_,e.2,?_,?_,?_,?_,?_,e.8,e.9,e.10,e.11⟩⟩
 .show(a.heap.push db).objs.size=_;refine V (fZ ..)<|V e.1 ?_;rfl
 .intro k b f ac;show(a.heap.push db).get? b=W f;replace ac:=(List.getElem?_append)▸ac;split at ac
  .exact eD _<|e.3 k b f ac
  .rename_i aI;replace ac:=(List.getElem?_singleton)▸ac;split at ac
   .cases ac;exact b' e.1<|fc _ bg
   .exact dI ac
 .show((G.objs++[(t+G.m,db)]).map (·.1)).Nodup;refine V mc<|g2 xh<|⟨e.4,by simp,?_⟩;intro h a7 b m Bk;refine mg a7 λr aZ jG=>?_;obtain rfl:=jG;simp only[iz,z4,km]at m;exact h' _<|Hh (cP r aZ)<|m.symm.trans Bk.symm
 .intro h f jm i Ey;exact eD _<|e.5 h f jm i Ey
 .intro r aZ f jm i Ey;refine bN aZ (λaZ=>?_) λaZ=>?_
  .exact e.6 r aZ f jm i Ey
  .simp only[km]at aZ;subst aZ;have:=dB<|e.5 _ f jm i Ey;replace this:=e.1▸this;exact h' _ this
 .intro b f m aS;exact eD _<|e.7 b f (λr aZ=>m r<|b3 aZ) aS
end
section
section
variable{prog:cl}{j:b7}{bc:BT}{t s:Nat}{bV:ag}
def aaw(prog:cl)(j:b7)(bc:BT)(t s:Nat)(bV:ag)(ch:List (iv×Pos)->Prop)(b_:Nat){bf:Type}(E:Sem bf)(G:e2)(B:bf×e2):Prop:=jS G.eB/\∀(q:bY)(A:Ctx)(r:Pos)(a:ag)(C:bf->Pos->ag->Prop),q.depth+b_<fF->A.In q->(∀r,ch<|(A.code,r)::A.below)->eV bc t s bV G a->(∀bn v,eV bc t s bV B.2 v->C B.1 bn v)->jZ (cq prog j) A E C (λw w w=>False) r a
def qH(prog:cl)(j:b7)(bc:BT)(t s:Nat)(bV:ag)(ch:List (iv×Pos)->Prop)(b_:Nat)(eF:iv->e2->Option (gb×e2)):Prop:=∀g G B,eF g G=W B->jS B.2.eB->jS G.eB/\∀(q:bY)a,q.depth+b_<fF->eV bc t s bV G a->∀A r,A.code=g->A.Below q->ch A.below->wpCode (cq prog j) A (λy v=>y=.ok B.1/\eV bc t s bV B.2 v) r a
variable{ch:List (iv×Pos)->Prop}{b_:Nat}{eF:iv->e2->Option (gb×e2)}
theorem RT{bf:Type}(qF:qH prog j bc t s bV ch b_ eF)(E:Sem bf):∀(G:e2)(B:bf×e2),ik ⟨prog,j.params⟩ bc t s eF E G=W B->jS B.2.eB->aaw prog j bc t s bV ch b_ E G B:=by induction E with
 |pure h=>exact λG B c aP=>by cases c;exact⟨aP,λq A r a C w w w k a5=>a5 r a k⟩|rule _ l a2=>exact a2 ()|«at»e l a2=>exact λG B c aP=>⟨(a2 () G B c aP).1,λq A w=>(a2 () G B c aP).2 q A e⟩|point _ l a2=>exact a2 ()|ask l a2=>exact a2 _|thread l a2=>exact a2 _|fresh l a2=>exact λG B c aP=>⟨(a2 _ _ B c aP).1,λq A r a C y h b k=>by show _->jZ _ _ (l a.toks) _ _ _ _;exact k.2.symm▸(a2 _ _ B c aP).2 q A r _ C y h b ⟨k.1,U,k.3,k.4,k.5,k.6,k.7,k.8,k.9,k.10,k.11⟩⟩|load h rM l a2=>exact λG B c aP=>dY c λf i c=>have af:=a2 f.1 f.2 B c aP
   have bk:=Ex (t:=t) (s:=s) (bV:=bV) i af.1
   ⟨bk.1,λq A r a C y h b k a5=>⟨f.1,(bk.2 a k).1,af.2 q A r a C y h b (bk.2 a k).2 a5⟩⟩|loadIfAlive h l a2=>exact λG B c aP=>dY c λf i c=>have af:=a2 (W f.1) f.2 B c aP
   have bk:=Ex (t:=t) (s:=s) (bV:=bV) i af.1
   ⟨bk.1,λq A r a C y fg b k a5=>by show jZ _ _ (l<|a.heap.get? h) _ _ _ _;exact((bk.2 a k).1).symm▸af.2 q A r a C y fg b (bk.2 a k).2 a5⟩|update h rM I l a2=>exact λG B c aP=>dY c λf i c=>have af:=a2 () f B c aP
   have bk:=aat (bc:=bc) (t:=t) (s:=s) (bV:=bV) i af.1
   ⟨bk.1,λq A r a C y h b k a5=>⟨(bk.2 a k).1,af.2 q A r _ C y h b (bk.2 a k).2 a5⟩⟩|alloc o l a2=>exact λG B c aP=>dY c λdb i c=>have af:=a2 _ _ B c aP
   ⟨af.1,λq A r a C y h b k a5=>by have bk:=aav i a k;show jZ _ _ (l a.heap.objs.size) _ _ _ _;exact bk.1.symm▸af.2 q A r _ C y h b bk.2 a5⟩|newGen Bh l a2=>exact λG B c aP=>have af:=a2 _ _ B c aP
   ⟨af.1,λq A r a C y h b k a5=>by
    have i:a.gens.size=s+G.gs.length:=by refine V k.8<|V Dr<|V k.9 ?_;simp
    show jZ _ _ (l a.gens.size) _ _ _ _;exact i.symm▸af.2 q A r _ C y h b ⟨k.1,k.2,k.3,k.4,k.5,k.6,k.7,(congrArg (·.push<|.fresh Bh) k.8).trans (by simp),k.9,k.10,k.11⟩ a5⟩|call g bl kz D l a2=>
  cases bl
  case some=>exact λG B c=>dI c
  exact λG B c aP=>dY c λf i c=>have af:=a2 (.ok f.1) f.2 B c aP
    have bk:=qF g G f i af.1
    ⟨bk.1,λq A r a C y cn fN k a5=>zr (λfV v B=>B.1▸af.2 q A r v C y cn fN B.2 a5)<|bk.2 q a y k (A.enter g aQ r) r U (cn.enter g aQ r (by intro f;exact dI f))<|fN r⟩|_=>exact λG B c=>dI c
theorem Bl{bf:Type}(qF:qH prog j bc t s bV sq b_ eF){E:Sem bf}{G:e2}{B:bf×e2}(c:ik ⟨prog,j.params⟩ bc t s eF E G=W B)(aP:jS B.2.eB):jS G.eB/\∀(q:bY)a(C:bf->ag->Prop),q.depth+b_<fF->eV bc t s bV G a->(∀v,eV bc t s bV B.2 v->C B.1 v)->Y prog j q E C a:=have l:=RT qF E G B c aP
 ⟨l.1,λq a C y k a5 A r cn cJ az=>l.2 q A r a _ y cn (λr f R=>dH R (λe=>e▸cJ)<|az f) k λw v hH=>a5 v hH⟩
theorem qH.tU(qF:qH prog j bc t s bV sq b_ eF)(c:eF g G=W B)(aP:jS B.2.eB):jS G.eB/\∀(q:bY)a(H:gb->ag->Prop),q.depth+b_<fF->eV bc t s bV G a->(∀v,eV bc t s bV B.2 v->H B.1 v)->d2 prog j q g H a:=have l:=qF g G B c aP
 ⟨l.1,λq a H y k bM A r az cn fN=>zr (λy v e=>e.1▸bM v e.2)<|l.2 q a y k A r az cn fN⟩
theorem qH.of{g:iv}{B:gb×e2}{q:bY}{a:ag}(c:d2 prog j q g (λI v=>I=B.1/\eV bc t s bV B.2 v) a):∀A r,A.code=g->A.Below q->sq A.below->wpCode (cq prog j) A (λy v=>y=.ok B.1/\eV bc t s bV B.2 v) r a:=λA r az cn fN=>zr (λy v e=>by cases y with|ok I=>exact⟨congrArg _ e.1,e.2⟩|error i=>exact e.elim)<|c A r az cn fN
theorem aay(c:RL f=W I):f=.func I:=by
 cases f
 case func=>cases c;rfl
 all_goals exact dI c
theorem aaz(c:RO f=W I):f=.stmts I:=by
 cases f
 case stmts=>cases c;rfl
 all_goals exact dI c
theorem aaA(c:RP f=W I):f=.ref I:=by
 cases f
 case ref=>cases c;rfl
 all_goals exact dI c
theorem aaB(c:RM f=W I):f=.str I.1 I.2:=by
 cases f
 case str=>cases c;rfl
 all_goals exact dI c
set_option tactic.hygienic true in theorem aaC(c:RN f=W I):∃O,f=.fields O/\(O[1]?:Option al)=W (.str I.1 I.2):=by
 cases f
 case fields O=>exact dY c λu i c=>(dj O U<|i.trans<|congrArg W<|aaB c)
 all_goals exact dI c
theorem Ez(c:kz (!e)=W aN):e=a1:=by
 cases e
 .rfl
 .exact dI c
set_option tactic.hygienic true in theorem aaD(c:fnOf bc g G=W B)(aP:jS B.2.2.2.2.eB):g=.call (.ref B.2.2.2.1) B.2.2.1/\B.1.scope.isGenerator=a1/\B.1.scope.isCoroutine=a1/\B.1.body=.stmts B.2.1/\jS G.eB/\∀a,eV bc t s bV G a->(∃o,a.heap.get? B.2.2.2.1=W o/\o.data=.func B.1)/\a.heap.CodeRec B.1.code B.1.qualname/\eV bc t s bV B.2.2.2.2 a:=by
 cases g
 case call u f3=>
  cases u
  case ref h=>refine dY c λf bG c=>dY c λbi cr c=>dY c λw eE c=>dY c λw hE c=>dY c λamH sN c=>dY c λBh Bm c=>dY c λaN x_ c=>dY c λe vL c=>dY c λw aaE c=>?_;cases c;have ap:=Ex (t:=t) (s:=s) (bV:=bV) x_ aP;have cx:=Ex (t:=t) (s:=s) (bV:=bV) bG ap.1;exact⟨U,Ez eE,Ez hE,aaz sN,cx.1,λa k=>⟨⟨f.1,(cx.2 a k).1,aay cr⟩,((aaC vL).elim λO l=>⟨Bh,aN.1,O,e.2,aaA Bm,(ap.2 a (cx.2 a k).2).1,l.1,l.2.trans<|V (eq_of_beq<|rL aaE) U⟩),(ap.2 a (cx.2 a k).2).2⟩⟩
  all_goals exact dI c
 all_goals exact dI c
theorem JZ{g:iv}(c:ma 3 g.weight=a1):g.weight<=3:=q_ λe=>nomatch c.symm.trans<|De e
theorem RU{kU:iv->e2->Option (gb×e2)}{f:Fin×e2}{B:gb×e2}(c:JX kU f=W B){ak:Prop}(af:f=(.done B.1,B.2)->ak)(ap:∀g G,f=(.again g,G)->g.quiet=Z->kU g G=W B->ak):ak:=match f,c with|(.done cO,ev),c=>by cases c;exact af U|(.again be,ev),c=>dY c λw i c=>ap be ev U (rL i) c
theorem rQ(c:z+3*(I+1)<D)(aS:l<=3):z+l+3*I<D:=oF (.t (.a (.a .x .y)<|.m 3 .z) .w) [.t (.a .x<|.m 3<|.o .z) .w,.l .y<|.n 3] U c aS
theorem RV(fN:∀c:eH,Sub bc c->c.NoLimit):∀I,qH prog j bc t s bV sq (3*I)<|pB table ⟨prog,j.params⟩ bc t s I|0=>λg G B c w=>dI c|I+1=>λg G B c aP=>by have a2:=RV fN I;unfold pB at c;cases bS:rw g||ma 3 g.weight with|true=>replace c:=bS▸c;exact dI c|false=>replace c:=bS▸c;have cJ:=GC.mp bS;have x':=JZ cJ.2;cases bg:fnOf bc g G with
   |some u=>replace c:=bg▸c;refine dY c λaN qh c=>dY c λf EA c=>?_;have jj:=a2.tU c aP;have eZ:=Bl a2 EA jj.1;have cR:=Bl a2 qh eZ.1;have l:=aaD (t:=t) (s:=s) (bV:=bV) bg cR.1;refine⟨l.2.2.2.2.1,λq a y k=>qH.of<|V l.1 ?_⟩;have fB:=l.2.2.2.2.2 a k;exact fB.1.elim λo kv=>D8 (rQ (l:=0) y (eJ 3)|>mG (iw _ _)) kv.1 kv.2 l.2.2.1 l.2.1 l.2.2.2.1 fB.2.1 (cR.2 q.in1 a _ (rQ (l:=0) y<|eJ 3) fB.2.2 λan J0=>eZ.2 q.in1 an _ (rQ (l:=0) y<|eJ 3) J0 λam ya=>⟨fN _ ya.5,jj.2 q am _ (rQ (l:=0) y<|eJ 3) ya λv hH=>⟨U,hH⟩⟩)|none=>
    replace c:=bg▸c;refine dY c λf qh c=>RU (kU:=pB table ⟨prog,j.params⟩ bc t s I) c (λe=>?_) λbe ev e a5 ef=>?_
    .subst e;have cR:=Bl a2 qh aP;exact⟨cR.1,λq a y k=>qH.of<|d2.lI cJ.1<|cR.2 (q.under g) a _ (rQ y x') k λv hH=>⟨U,hH⟩⟩
    .subst e;have eZ:=a2.tU ef aP;have cR:=Bl a2 qh eZ.1;exact⟨cR.1,λq a y k=>qH.of<|d2.lI cJ.1<|cR.2 (q.under g) a _ (rQ y x') k λv hH=>⟨a5,eZ.2 q v _ (rQ (l:=0) y<|eJ 3) hH λel aaF=>⟨U,aaF⟩⟩⟩
noncomputable def Bn{bf:Type}:Option (bf×e2)->List aq|some y=>y.2.eB.map (·.2)|none=>[]
theorem RW:∀{D:List<|aq×aq},D.map (·.1)=D.map (·.2)->jS D
 |[],bL=>aW|(h,b)::D,c=>λr aZ=>by
  simp only[iz,List.cons.injEq]at c
  revert r;refine g4 ?_ ?_
  .exact c.1
  .intro r aZ;exact RW c.2 r aZ
theorem RX{bf cE:Type}{d9:e2->cE}{o:Option<|bf×e2}{h:bf}{f:cE}(c:o.map (λy=>(y.1,d9 y.2,y.2.eB.map (·.1)))=W (h,f,Bn o)){ak:Prop}(l:∀ev,o=W (h,ev)->jS ev.eB->d9 ev=f->ak):ak:=by cases o with|none=>exact dI c|some B=>have c:=O6<|d4 c;have aa:=O6 c.2;exact l B.2 (congrArg (λe=>W (e,B.2)) c.1) (RW aa.2) aa.1
theorem aaG{bf cE:Type}{q:bY}{E:Sem bf}{a:ag}{G:e2}{h:bf}{f:cE}{I:Nat}{d9:e2->cE}{C:bf->ag->Prop}(fN:∀c:eH,Sub bc c->c.NoLimit)(av:q.depth+3*I<fF)(ab:eV bc t s bV G a)(c:(ik ⟨prog,j.params⟩ bc t s (pB nc ⟨prog,j.params⟩ bc t s I) E G).map (λy=>(y.1,d9 y.2,y.2.eB.map (·.1)))=W (h,f,Bn<|ik ⟨prog,j.params⟩ bc t s (pB nc ⟨prog,j.params⟩ bc t s I) E G))(a5:∀ev v,eV bc t s bV ev v->d9 ev=f->C h v):Y prog j q E C a:=by rw[<-wZ]at c;exact RX c λev i aP M=>(Bl (RV fN I) i aP).2 q a C av ab λv hH=>a5 ev v hH M
end
end
section
section
variable{prog:cl}{j:b7}{bc:BT}{t s:Nat}{bV:ag}
variable{b_:Nat}
noncomputable abbrev RY:List (iv×Pos)->Prop:=λw=>True
theorem J1{bf:Type}(qF:qH prog j bc t s bV RY b_ eF){E:Sem bf}{G:e2}{B:bf×e2}(c:ik ⟨prog,j.params⟩ bc t s eF E G=W B)(aP:jS B.2.eB):jS G.eB/\∀(q:bY)a(C:bf->ag->Prop)(as:al->ag->Prop),q.depth+b_<fF->eV bc t s bV G a->(∀v,eV bc t s bV B.2 v->C B.1 v)->b9 (cq prog j) q E C as a:=have l:=RT qF E G B c aP
 ⟨l.1,λq a C as y k a5 A r cn=>md _ A E (λw w w c=>c) (λw w w c=>c.elim) r a<|l.2 q A r a _ y cn (λw=>trivial) k λw v hH=>a5 v hH⟩
noncomputable def t_(kd:String->Option tq)(st:pb)(bc:BT)(t s:Nat):Nat->iv->e2->Option (gb×e2)|0,bL,dQ=>aQ|I+1,g,G=>(kz<|!ma 3 g.weight).bind λw=>(ik st bc t s (t_ kd st bc t s I) (tp kd g) G).bind<|JX<|t_ kd st bc t s I
theorem RZ:∀I,qH prog j bc t s bV RY (3*I)<|t_ table ⟨prog,j.params⟩ bc t s I
 |0=>λg G B c w=>nomatch c|I+1=>λg G B c aP=>by
  have a2:=RZ I;refine dY c λaN bS c=>dY c λf qh c=>RU (kU:=t_ table ⟨prog,j.params⟩ bc t s I) c (λe=>?_) λbe ev e a5 ef=>?_
  .subst e;have cR:=J1 a2 qh aP;exact⟨cR.1,λq a y k A r az cn w=>zt (R:=λy v=>y=.ok B.1/\eV bc t s bV B.2 v) (cR.2 (q.under g) a _ _ (rQ y<|JZ<|Ez bS) k λv hH=>⟨U,hH⟩) A r az cn⟩
  .subst e;have eZ:=a2 _ _ _ ef aP;have cR:=J1 a2 qh eZ.1;exact⟨cR.1,λq a y k A r az cn w=>zt (R:=λy v=>y=.ok B.1/\eV bc t s bV B.2 v) (cR.2 (q.under g) a _ _ (rQ y<|JZ<|Ez bS) k λv hH=>⟨a5,λA r az cn=>eZ.2 q v (rQ (l:=0) y<|eJ 3) hH A r az cn trivial⟩) A r az cn⟩
theorem aaH{bf cE:Type}{q:bY}{E:Sem bf}{a:ag}{G:e2}{h:bf}{f:cE}{I:Nat}{d9:e2->cE}{C:bf->ag->Prop}(av:q.depth+3*I<fF)(ab:eV bc t s bV G a)(c:(ik ⟨prog,j.params⟩ bc t s (t_ nc ⟨prog,j.params⟩ bc t s I) E G).map (λy=>(y.1,d9 y.2,y.2.eB.map (·.1)))=W (h,f,Bn<|ik ⟨prog,j.params⟩ bc t s (t_ nc ⟨prog,j.params⟩ bc t s I) E G))(a5:∀ev v,eV bc t s bV ev v->d9 ev=f->C h v):b9 (cq prog j) q E C (λw w=>False) a:=by rw[<-wZ]at c;exact RX c λev i aP M=>(J1 (RZ I) i aP).2 q a C _ av ab λv hH=>a5 ev v hH M
end
end
noncomputable abbrev ex(j:b7):BT:=n_ ao j.params
def hI{bf:Type}(bc:b7->BT)(E:Sem bf)(h:bf)(z:Nat):Prop:=∀(b:Bool)(j:b7)(l:Nat),kV ⟨ao,(j.withFollow "special-get-raises" b).params⟩ (bc<|j.withFollow "special-get-raises" b) (vG nc ⟨ao,(j.withFollow "special-get-raises" b).params⟩ (bc<|j.withFollow "special-get-raises" b) 30) E l=W (.ok h,l+z)
theorem EB(c:hI bc E h z)(L:Sub (bc j) a.heap)(a5:C h {a with toks:=a.toks+z}):Y ao j q E C a:=by refine Z7 (bc:=bc j) (I:=30) (z:=z) L (λl=>?_) a5;have:=c (j.params.followText "special-get-raises") j l;rw[Ah]at this;exact this
theorem lX(c:hI bc E h 0)(L:Sub (bc j) a.heap)(a5:C h a):Y ao j q E C a:=EB c L a5
theorem aaI:hI ex (mroOf<|.ref 135) [.ref 135,.type "tuple",.type "object"] 0:=λb j l=>by cases b<;>cbv
theorem aaJ:hI ex (Bind.madeBy<|.ref 135) aQ 0:=λb j l=>by cases b<;>cbv
theorem R0:hI ex (k8 (.ref 135) "__init__") (W<|.builtin "object.__init__") 0:=λb j l=>by cases b<;>cbv
theorem aaK:hI ex (uC (.ref 135)<|.ref 135) Z 0:=λb j l=>by cases b<;>cbv
theorem aaL:hI ex (uC (.ref 135)<|.type "tuple") Z 0:=λb j l=>by cases b<;>cbv
theorem aaM:hI ex (Bind.madeHere "tuple.__new__"<|.ref 135) () 0:=λb j l=>by cases b<;>cbv
theorem aaO:hI ex (isType<|.ref 135) Z 0:=λb j l=>by cases b<;>cbv
theorem aaR(h:al):hI ex (bindSpecial (.builtin "object.__init__") h) (.builtin "object.__init__",[h]) 0:=λb j l=>by cases b<;>cbv
theorem aaS(f B G:al):hI ex (callAny (.ref 135) ⟨[f,B,G],[]⟩) (.again<|.call (.builtin "type.__call__") ⟨[.ref 135,f,B,G],[]⟩) 0:=λb j l=>by cases b<;>cbv
theorem aaV:hI ex (ow (.ref 135) "__new__") (.ref 82) 1:=λb j l=>by cases b<;>cbv
theorem aaW(f B G:al):hI ex (callAny (.builtin "type.__call__") ⟨[.ref 135,f,B,G],[]⟩) (.again<|.builtin "type.__call__" ⟨[.ref 135,f,B,G],[]⟩) 0:=λb j l=>by cases b<;>cbv
def rR{bf cE:Type}(I:Nat)(bc:b7->BT)(t s:Nat)(E:Sem bf)(G:Nat->e2)(h:bf)(d9:e2->cE)(f:Nat->cE):Prop:=∀(b:Bool)(j:b7)(l:Nat),(ik ⟨ao,(j.withFollow "special-get-raises" b).params⟩ (bc<|j.withFollow "special-get-raises" b) t s (pB nc ⟨ao,(j.withFollow "special-get-raises" b).params⟩ (bc<|j.withFollow "special-get-raises" b) t s I) E<|G l).map (λy=>(y.1,d9 y.2,y.2.eB.map (·.1)))=W (h,f l,Bn<|ik ⟨ao,(j.withFollow "special-get-raises" b).params⟩ (bc<|j.withFollow "special-get-raises" b) t s (pB nc ⟨ao,(j.withFollow "special-get-raises" b).params⟩ (bc<|j.withFollow "special-get-raises" b) t s I) E<|G l)
theorem R1{bf cE:Type}{I:Nat}{bc:b7->BT}{t s:Nat}{E:Sem bf}{G:Nat->e2}{h:bf}{d9:e2->cE}{f:Nat->cE}{C:bf->ag->Prop}(c:rR I bc t s E G h d9 f)(fN:∀c:eH,Sub (bc j) c->c.NoLimit)(av:q.depth+3*I<fF)(ab:eV (bc j) t s bV (G a.toks) a)(a5:∀ev v,eV (bc j) t s bV ev v->d9 ev=f a.toks->C h v):Y ao j q E C a:=by refine aaG fN av ab ?_ a5;have:=c (j.params.followText "special-get-raises") j a.toks;rw[Ah]at this;exact this
theorem aaX(h t s:Nat)(f B G:al)(o:Option aq)(z:Data):rR 10 ex t s (call (.builtin "object.__init__") [.ref h,f,B,G]) (λl=>⟨[(h,{cls:=.ref 135,dict:=o,data:=z})],0,l,[1,0,1,0,0,0,0,0],[],[]⟩) .none (λG=>(G.m,G.gs,G.objs)) (λl=>(0,[],[(h,{cls:=.ref 135,dict:=o,data:=z})])):=λb j l=>by cases b<;>cbv
theorem eV.start{bc:BT}{K:List<|aq×Obj}{Q:List Nat}(L:Sub bc a.heap)(qI:∀r∈K,a.heap.get? r.1=W r.2)(ay:(K.map (·.1)).Nodup)(aP:∀r∈K,∀o db,bc.get r.1=W o->hZ o=W db->False):eV bc a.heap.objs.size a.gens.size a ⟨K,0,a.toks,Q,[],[]⟩ a:=⟨(U),(U),(λk b o i=>qI (b,o)<|ox i),(ay),(L),(aP),(λw w w i=>i),(by rfl),(U),(U),(U)⟩
theorem eV.grow{bc:BT}{K:List aq}{G:e2}{v:ag}(k:eV bc a.heap.objs.size a.gens.size a G v)(qI:∀r∈G.objs,r.1∈K\/a.heap.objs.size<=r.1):a9 K [] a v:=⟨(λb o m i=>k.7 b o (λr aZ e=>(qI r aZ).elim (λc=>m<|e▸c) λc=>h' _<|cw (dB i)<|e▸c) i),(by refine V k.1 ?_;exact iw _ _),(λaD f w i=>by refine V k.8 ?_;exact(OA (HM.mp i).1).trans i),(by refine V k.8<|V Dr ?_;exact iw _ _),(λc B a8=>by
  rw[k.8,OB]at a8;rcases a8 with a8|a8
  .exact c B a8
  .simp only[Hx,k_]at a8;obtain⟨g,_,rfl⟩:=a8;rfl),(k.10)⟩
theorem eV.same(k:eV bc a.heap.objs.size a.gens.size a G v)(qI:∀r∈G.objs,a.heap.get? r.1=W r.2\/a.heap.objs.size<=r.1):bJ [] a v:=⟨(λb o w i=>by
  by_cases m:∃r∈G.objs,r.1=b
  .obtain⟨r,aZ,rfl⟩:=m;obtain⟨aD,dx⟩:=N1 aZ;rcases qI r aZ with c|c
   .replace i:=c▸i;cases i;exact k.3 aD _ _ dx
   .exact cd (dB i) c
  .exact k.7 b o (λr aZ e=>m<|dj r aZ e) i),(by refine V k.1 ?_;exact iw _ _),(λaD f w i=>by refine V k.8 ?_;exact(OA (HM.mp i).1).trans i),(by refine V k.8<|V Dr ?_;exact iw _ _),(λc B a8=>by
  rw[k.8,OB]at a8;rcases a8 with a8|a8
  .exact c B a8
  .simp only[Hx,k_]at a8;obtain⟨g,_,rfl⟩:=a8;rfl),(k.10)⟩
theorem EC{bf:Type}{prog:cl}{j:b7}{q:bY}{as:al->ag->Prop}{E:Sem bf}{a:ag}{h:Nat->bf}{z:Nat}{C:bf->ag->Prop}(c:∀st l,kV st .nil (λw w=>aQ) E l=W (.ok<|h l,l+z))(a5:C (h a.toks) {a with toks:=a.toks+z}):b9 (cq prog j) q E C as a:=λA r w=>Ep (bc:=.nil) (eF:=λw w=>aQ) (a:=a) (λb o db i=>nomatch i) (λg l y az=>nomatch az) E A _ _ a.toks _ r (c _ _) λw=>a5
noncomputable def yb(aG:List Bool):Str:=⟨(aG.map λb=>bif b then 49 else 48).toArray⟩
noncomputable def valOf(aG:List Bool):Int:=aG.foldl (λh b=>2*h+(bif b then 1 else 0)) 0
noncomputable def yc:Nat->List (List Bool)|0=>[[]]|t+1=>(yc t).map (List.cons a1)++(yc t).map (List.cons Z)
theorem ED:∀D:List Bool,D∈yc D.length|[]=>km.mpr U|false::D=>uM _<|xg<|ED D|true::D=>xa _<|xg<|ED D
theorem aaY(st:pb)(l:Nat)(E aN:Tok):(yc 8).map (λaG=>kV st .nil (λw w=>aQ) (Ov ⟨[.type "int",.str (yb aG) E,.int 2 aN],[]⟩) l)=(yc 8).map λaG=>W (.ok<|.done<|.ret<|.int (valOf aG) l,l+1):=by cbv
theorem aaZ(st:pb)(l:Nat)(E aN:Tok)(m:aG.length=8):kV st .nil (λw w=>aQ) (Ov ⟨[.type "int",.str (yb aG) E,.int 2 aN],[]⟩) l=W (.ok<|.done<|.ret<|.int (valOf aG) l,l+1):=List.map_inj_left.mp (aaY st l E aN) _<|m▸ED aG
theorem aa0(h b:al):CQ "int" ⟨[h,b],[]⟩=pure ():=by cbv
theorem aa1(h b:al):uB "int.__new__" ⟨[.type "int",h,b],[]⟩=pure ():=by cbv
theorem aa2{prog:cl}{j:b7}{q:bY}{as:al->ag->Prop}{a:ag}{E aN:Tok}{aG:List Bool}(m:aG.length=8){C:al->ag->Prop}(c:C (.int (valOf aG) a.toks) {a with toks:=a.toks+1}):b9 (cq prog j) q (call (.type "int") [.str (yb aG) E,.int 2 aN]) C as a:=GT F.called_int F.newNe_int (aa0 _ _) (aa1 _ _) (λnp=>HV np _ _) F.entry_int_new (S:=λw b_ a=>b_ (.ok<|.ret<|.int (valOf aG) a.toks) {a with toks:=a.toks+1}) (λprog j q b_ a a5=>EC (λst l=>aaZ st l E aN m) a5) ⟨wP _ _ _,c⟩
section
theorem R2:mroOf (.type "map")=pure [.type "map",.type "object"]:=by refine V (mroOf_type ..) ?_;cbv
theorem aa3:k8 (.type "map") "__new__"=pure (W<|.builtin "map.__new__"):=by refine V (hJ ..)<|V hK ?_;cbv
theorem aa4:uC (.type "map") (.type "map")=pure Z:=by refine V (kH ..) ?_;cbv
theorem aa5:uI "map" "__init__" "object.__init__":=.of (owner:="object") (n:="__init__") (by refine V (hJ ..)<|V hK ?_;cbv) (by decide+kernel) (by decide+kernel) (by decide+kernel) (by first|exact .inl (by decide+kernel)|exact .inr (by decide+kernel)) (by refine V (kH ..) ?_;cbv)
theorem aa6:TypeCalled "map" "map.__new__" "object.__init__":=⟨by decide+kernel,by decide+kernel,(j1 _ _ R2),madeBy_type R2 aa3 (by decide+kernel),by decide+kernel,aa4,aa5⟩
theorem aa7(h b:al):CQ "map" ⟨[h,b],[]⟩=pure ():=by cbv
theorem aa8(h b:al):uB "map.__new__" ⟨[.type "map",h,b],[]⟩=pure ():=by cbv
theorem aa9:k6 table "map.__new__"=W Ow:=o_ (by cbv)
theorem aa_:(W "map.__new__"!=W "object.__new__")=Z:=by decide+kernel
theorem aa'(h b:al):DG "map" ⟨[.type "map",h,b],[]⟩=pure (.type "map",[h,b]):=by unfold DG;rfl
section
variable{prog:cl}{j:b7}{q:bY}{as:al->ag->Prop}{a:ag}{ch:aq}
theorem aba{bA:Array al}(aI:a.heap.IsList ch bA)(ej:bY)(mY:al->ag->Prop)(b_:C5->ag->Prop)(iD:∀aT aY ae aa x,oV aa aT aY ae ch bA 0->a.heap.objs.size<=aT->a.heap.objs.size<=aY->a.heap.objs.size<=ae->aT≠ae->aY≠ae->(∀b o,a.heap.get? b=W o->aa.get? b=W o)->b_ (.done<|.ret<|.ref aT) {a with heap:=aa,toks:=x}):b9 (cq prog j) ej (Ow ⟨[.type "map",.type "str",.ref ch],[]⟩) b_ mY a:=by
  refine mM (aa' _ _) ?_;try dsimp only
  refine mM (h:=()) (by first|rfl|cbv) ?_;try dsimp only
  refine oD (by simp)<|bj (m:=H1 [fl ch])<|bj<|bj<|ko<|CR aI<|cN<|cN<|cN ?_;have ab:(a.heap.push {cls:=.type "list_iterator",data:=.fields #[.ref ch,.int 0 0]}).objs.size=a.heap.objs.size+1:=fZ ..;have e5:(a.heap.push {cls:=.type "list_iterator",data:=.fields #[.ref ch,.int 0 0]}).get? a.heap.objs.size=W {cls:=.type "list_iterator",data:=.fields #[.ref ch,.int 0 0]}:=fc _ U;have cR:∀b o,a.heap.get? b=W o->(a.heap.push {cls:=.type "list_iterator",data:=.fields #[.ref ch,.int 0 0]}).get? b=W o:=λb o i=>eD _ i;generalize(a.heap.push {cls:=.type "list_iterator",data:=.fields #[.ref ch,.int 0 0]})=bo at*;refine bj (m:=newTuple [fl a.heap.objs.size])<|zE<|bj (m:=DH (kJ "map") [fl bo.objs.size,kJ "str"]) ?_;unfold DH;refine jd<|cN ?_;have vM:(bo.push {cls:=.type "tuple",data:=.seq #[fl a.heap.objs.size]}).objs.size=a.heap.objs.size+2:=V (fZ ..)<|V ab U;refine iD _ bo.objs.size a.heap.objs.size _ _ ⟨fc _ U,⟨0,eD _<|fc _ U⟩,⟨_,eD _<|eD _ e5,U,U⟩,aI.at λo i=>eD _<|eD _<|cR _ o i⟩ ?_ ?_ (dA _) ?_ ?_ λb o i=>eD _<|eD _<|cR b o i;all_goals(try simp only[fZ,ab])
  all_goals(first|(show@LE.le Nat _ _ _;(first|exact kl _|exact cy (.l .x<|.o<|.o .x) [] U))|(show@Ne Nat _ _;lia))
theorem abb{bA:Array al}{C:al->ag->Prop}(aI:a.heap.IsList ch bA)(c:∀aT aY ae aa x,oV aa aT aY ae ch bA 0->a.heap.objs.size<=aT->a.heap.objs.size<=aY->a.heap.objs.size<=ae->aT≠ae->aY≠ae->(∀b o,a.heap.get? b=W o->aa.get? b=W o)->C (.ref aT) {a with heap:=aa,toks:=x}):b9 (cq prog j) q (call (.type "map") [.type "str",.ref ch]) C as a:=by refine GT aa6 aa_ (aa7 _ _) (aa8 _ _) (λnp=>HV np _ _) aa9 (S:=λw b_ v=>v=a/\∀aT aY ae aa x,oV aa aT aY ae ch bA 0->a.heap.objs.size<=aT->a.heap.objs.size<=aY->a.heap.objs.size<=ae->aT≠ae->aY≠ae->(∀b o,a.heap.get? b=W o->aa.get? b=W o)->b_ (.ok<|.ret<|.ref aT) {a with heap:=aa,toks:=x}) ?_ ⟨U,λaT aY ae aa x bt h b g z i I=>⟨⟨_,bt.1,U⟩,c aT aY ae aa x bt h b g z i I⟩⟩;rintro abc abd ej b_ v⟨rfl,iD⟩;exact aba aI ej.in1 _ _ iD
end
end
theorem EE(a:ag):kk a a:=⟨a.heap,a.toks,U,λw w i=>i⟩
theorem vN(a:ag)(x:Nat):kk a {a with toks:=x}:=⟨a.heap,x,U,λw w i=>i⟩
theorem vO(l:∀b o,a.heap.get? b=W o->aa.get? b=W o):kk a {a with heap:=aa,toks:=x}:=⟨aa,x,U,l⟩
theorem n'(f:kk h b)(B:kk b g):kk h g:=by refine gc f λaf t1 bP iF=>?_;obtain rfl:=bP;refine gc B λap t2 cB jn=>?_;obtain rfl:=cB;exact⟨ap,t2,U,λb o i=>jn b o<|iF b o i⟩
theorem t'(f:kk h b):∀r o,h.heap.get? r=W o->b.heap.get? r=W o:=by exact gc f λaf t1 dv iF=>V dv iF
section
def qJ(H:ag->Prop):Prop:=∀a v,H a->kk a v->H v
def Bo(ar:ag->al->Prop):Prop:=∀a v g,ar a g->kk a v->ar v g
def gI(prog:cl)(j:b7)(q:bY)(as:al->ag->Prop)(n:Env)(H:ag->Prop)(i:bB)(ar:ag->al->Prop):Prop:=∀a(C:al->ag->Prop),H a->(∀g v,kk a v->ar v g->C g v)->b9 (cq prog j) q (dD i n) C as a
def vP(prog:cl)(j:b7)(q:bY)(as:al->ag->Prop)(n:Env)(H:ag->Prop)(aB:List bB)(ar:ag->List al->Prop):Prop:=∀a(C:List al->ag->Prop)(aj:Pos),H a->(∀aR v,kk a v->ar v aR->C aR v)->b9 (cq prog j) q (ou<|jX aj<|je aB n) C as a
theorem EF:gI prog j q as n H (.Constant (.int k) l aj) (dZ k):=λa C w ah=>tr<|ah _ _ (vN ..) ⟨_,U⟩
theorem R3(c:n1 H n f u)(bl:(f==("__debug__":Str))=a1:=by decide):gI prog j q as n H (.Name f aj) (λw g=>g=u):=λa C L ah=>by
 refine cY c λek c=>cY ek λaS R=>br (c a L) λhk aK e_=>?_;obtain aM|⟨aM,hz,m,ql⟩:=e_
 .exact DC aS R (OY aK aM<|ah _ _ (EE a) U) bl
 .exact DC aS R (O0 aK aM m ql<|ah _ _ (EE a) U) bl
theorem EG:vP prog j q as n H [] (λw aR=>aR=[]):=λa C aj L ah=>cN<|ah _ _ (EE a) U
theorem yd(ay:d0 i=Z)(bM:qJ H)(c:gI prog j q as n H i ar)(aM:Bo ar)(L:vP prog j q as n H aB IM):vP prog j q as n H (i::aB) (λa aR=>∃g y,aR=g::y/\ar a g/\IM a y):=λa C aj aZ ah=>by exact(kr ay).symm▸bj (c a _ aZ λg an aL cR=>li<|ko<|L an _ aj (bM _ _ aZ aL) λaR am a_ eZ=>cN<|ah _ am (n' aL a_)<|jg g aR U (aM _ _ _ cR a_) eZ)
theorem abe(ay:aB.all d0=Z)(c:vP prog j q as n H aB ar)(L:H a)(ah:∀aR v,kk a v->ar v aR->C ⟨aR,[]⟩ v):b9 (cq prog j) q (evalArgs I Z (jX aj<|je aB n) []) C as a:=by have cF:b9 (cq prog j) q (ou<|jX aj<|je aB n) (λO v=>C ⟨O,[]⟩ v) as a:=c a _ aj L ah;cases aB with|nil=>exact bj<|q8 cF (λO v aa=>li<|k5<|li<|li<|cN aa) λw w f=>f|cons i aB=>rw[nQ,h_]at ay;rw[kr ay.1]at cF⊢;exact bj<|q8 cF (λO v aa=>li<|k5<|li<|li<|cN aa) λw w f=>f
theorem R4(bg:Ay I=Z)(ay:aB.all d0=Z)(c:vP prog j q as n H aB ar)(L:H a)(az:∀aR v,kk a v->ar v aR->b9 (cq prog j) q (er I (jJ++aR) []) C as v):b9 (cq prog j) q (pT aj I jJ (jX Az<|je aB n) []) C as a:=by
 refine ko<|abe ay c L λaR an aL cR=>bj<|pS<|V (va ay ..)<|V (xd ..)<|V (sb ..) ?_;have aS:sd I=dz .machine:=by cases I<;>first|rfl|exact iV bg
 exact V aS<|li<|bj<|q8 (az aR an aL cR) (λy am av=>ko<|o'<|cN av) λw w f=>f
def vQ(prog:cl)(j:b7)(q:bY)(as:al->ag->Prop)(E:Sem al)(ar:ag->al->Prop)(a:ag):Prop:=∀C:al->ag->Prop,(∀g v,kk a v->ar v g->C g v)->b9 (cq prog j) q E C as a
theorem EH(bM:qJ H)(aK:n1 H n f I)(bg:Ay I=Z)(c:vP prog j q as n H aB ar)(az:∀a aR,H a->ar a aR->vQ prog j q as (er I aR []) cZ a)(ay:aB.all d0=Z:=by rfl)(bl:(f==("__debug__":Str))=a1:=by decide):gI prog j q as n H (.Call (.Name f IN) aB [] aj) cZ:=λa C L ah=>by .exact bj<|R3 aK bl a _ L λg an aL cR=>V cR<|R4 (jJ:=[]) bg ay c (bM _ _ L aL) λaR am a_ eZ=>az am aR (bM _ _ L<|n' aL a_) eZ _ λy cg ce jj=>ah y cg (n' (n' aL a_) ce) jj
theorem EI(bM:qJ H)(bo:gI prog j q as n H D j8)(aM:Bo j8)(bE:gI prog j q as n H y n0)(qk:∀a h b,H a->j8 a h->n0 a b->vQ prog j q as (tt nq h b) ar a):gI prog j q as n H (.BinOp D nq y aj) ar:=λa C L ah=>GQ<|bo a _ L λh an aL cR=>bE an _ (bM _ _ L aL) λb am a_ eZ=>qk am h b (bM _ _ L<|n' aL a_) (aM _ _ _ cR a_) eZ _ λg cg ce jj=>ah g cg (n' (n' aL a_) ce) jj
theorem J2(k:Int):Bo (dZ k):=λw w w c w=>c
theorem R5(bM:qJ H)(bo:gI prog j q as n H D<|dZ h)(bE:gI prog j q as n H y<|dZ b):gI prog j q as n H (.BinOp D .Add y aj) (dZ<|h+b):=EI bM bo (J2 h) bE (by rintro a _ _-gX gF C ah;refine c5 gX λE hq=>?_;refine V hq ?_;refine c5 gF λaN iZ=>?_;refine V iZ ?_;exact OW<|ah _ _ (vN ..)<|oE _ U)
theorem abf(bM:qJ H)(bo:gI prog j q as n H D<|dZ h)(bE:gI prog j q as n H y<|dZ b):gI prog j q as n H (.BinOp D .Sub y aj) (dZ<|h-b):=EI bM bo (J2 h) bE (by rintro a _ _-jK kt C ah;refine c5 jK λE nt=>?_;refine V nt ?_;refine c5 kt λaN nu=>?_;refine V nu ?_;exact OX<|ah _ _ (vN ..) ⟨_,U⟩)
end
section
open PySem PySem.W PyProof.Rows Builtin
section
theorem R6{h bx:aq}{b:Array UInt8}{D aN:al}{lo ac:Option Int}{C:al->ag->Prop}(aP:a.heap.get? h=W (cQ b))(lS:a.heap.IsSliceOf bx D aN .none)(aI:tu D lo)(e4:tu aN ac)(ab:b.size<=cI)(c:C (.ref a.heap.objs.size) {a with heap:=a.heap.push<|cQ<|xp b lo ac}):b9 (cq prog j) q (getItem (.ref h)<|.ref bx) C as a:=by
 obtain⟨o,qK,az,bl⟩:=lS;have cK:a.TypeIs (.ref bx) "slice":=⟨o,qK,az⟩;refine k5<|bj<|GF (gV aP) bd ?_;refine bj<|or (name:=ho "__getitem__") (gV aP) u3 (k7 u3 (gV aP) PU ?_<|PV _ _);show b9 _ _ (Bytes.subscript? (.ref bx)>>=λy=>_) _ _ a;refine bj<|bj<|hX cK slice_no_index<|cN<|bj<|wR cK<|bj<|ia (f:=.none) qK bl U ?_
 kby_none;refine wpAny_ite<|KBy.ite_no (show¬((oB==hv 0)=Z)from uz)<|ia (f:=D) qK bl U ?_;have dW:(xp b lo ac).size<=sizeLine:=bb (KBc.size_picked_le b _ _) ab;have kU:b9 (cq prog j) q.in1 (sliceIndices (rawPart lo) (rawPart ac) (rawPart aQ) b.size) (λy v=>y=sliceBounds lo ac aQ b.size/\v=a) (λw w=>False) a:=q4 (sliceIndices_raw lo ac aQ b.size<|λi=>nomatch i) ⟨U,U⟩;cases aI<;>cases e4<;>(first|(kby_none;(refine ia (f:=.none) qK bl U ?_);kby_none)|(kby_none;(refine ia (f:=.int _ _) qK bl U ?_);kby_int)|(kby_int;(refine ia (f:=.none) qK bl U ?_);kby_none)|(kby_int;(refine ia (f:=.int _ _) qK bl U ?_);kby_int))<;>refine cN ?_;all_goals refine bj<|xz aP<|bj<|q8 kU (λy v av=>?_) λw w i=>i.elim;obtain⟨J3,EJ⟩:=av;subst J3 EJ;exact bj<|jd (cN<|dj _ U<|cN c) dW
end
end
section
open PySem PySem.W PyProof.Rows Builtin
theorem ye:uI "bytearray_iterator" "__next__" "bytearray_iterator.__next__":=.of (owner:="bytearray_iterator") (n:="__next__") (by refine V (hJ ..)<|V hK ?_;cbv) (by decide+kernel) (by decide+kernel) (by decide+kernel) (by first|exact .inl (by decide+kernel)|exact .inr (by decide+kernel)) (by refine V (kH ..) ?_;cbv)
theorem R7:uI "bytearray_iterator" "__iter__" "bytearray_iterator.__iter__":=.of (owner:="bytearray_iterator") (n:="__iter__") (by refine V (hJ ..)<|V hK ?_;cbv) (by decide+kernel) (by decide+kernel) (by decide+kernel) (by first|exact .inl (by decide+kernel)|exact .inr (by decide+kernel)) (by refine V (kH ..) ?_;cbv)
theorem R8:k6 table "bytearray_iterator.__next__"=W WI:=o_ (by cbv)
theorem abg:k6 table "bytearray_iterator.__iter__"=W Ou:=GG (id':="dict_keyiterator.__iter__") (by cbv) U (by decide+kernel) (by cbv)
theorem R9(h:al):jc "bytearray_iterator.__next__" ⟨[h],[]⟩:=by unfold jc;cbv
theorem abh(h:al):jc "bytearray_iterator.__iter__" ⟨[h],[]⟩:=by unfold jc;cbv
section
inductive ua(c:eH)(a' h:aq)(b:Array UInt8)(k:Nat):Prop|mk(fS:c.get? a'=W {cls:=.type "bytearray_iterator",data:=.fields #[.ref h,hv k]})(fT:c.get? h=W (cQ b)):ua c a' h b k
theorem abi(aP:a.heap.get? h=W (cQ b))(ah:ua (a.heap.push {cls:=.type "bytearray_iterator",data:=.fields #[.ref h,hv (0:Nat)]}) a.heap.objs.size h b 0->C (.ref a.heap.objs.size) {a with heap:=a.heap.push {cls:=.type "bytearray_iterator",data:=.fields #[.ref h,hv (0:Nat)]}}):b9 (cq prog j) q (nb<|.ref h) C as a:=by refine GS (gV aP) PX<|k7 PX (gV aP) Xz ?_<|XA _;show b9 _ _ (do ret<|<-newFields "bytearray_iterator" [.ref h,hv 0]) _ _ a;exact bj<|jd<|cN<|dj _ U<|jg "bytearray_iterator" _ ⟨_,fc _ U,U⟩ ye.lookup<|ah ⟨fc _ U,eD _ aP⟩
theorem abj(f:ua a.heap a' h b k)(c:C (.ref a') a):b9 (cq prog j) q (nb<|.ref a') C as a:=by have cK:a.TypeIs (.ref a') "bytearray_iterator":=⟨_,f.1,U⟩;exact GS cK R7<|k7 R7 cK abg (cN<|dj _ U<|jg "bytearray_iterator" _ cK ye.lookup c)<|abh _
theorem abk(f:ua a.heap a' h b k)(R:b[k]?=W g)(ah:∀aa,ua aa a' h b (k+1)->iQ a' a.heap aa->C (W<|.int (g.toNat:Int) a.toks) {a with heap:=aa,toks:=a.toks+1}):b9 (cq prog j) q (nO<|.ref a') C as a:=by
 have cK:a.TypeIs (.ref a') "bytearray_iterator":=⟨_,f.1,U⟩;obtain⟨ac,a7⟩:=f;have c9:a'≠h:=λe=>by rw[e,a7]at ac;have af:=congrArg (λo:Option Obj=>o.map (·.cls)) ac;simp[cQ]at af
 refine bj<|ts<|or (name:=ho "__next__") cK ye (k7 ye cK R8 ?_<|R9 _);show b9 _ _ (field (.ref a') 0>>=_) _ _ a;refine ia ac U (f:=.ref h) U<|nU a7<|ia ac U (f:=.int k 0) U ?_;simp only[mD,R];refine bj<|w2 ac (dA _) λaa gp L=>bj<|tr<|cN<|dj _ U<|cN<|ah aa ⟨gp,(L.2 h<|iA c9).trans a7⟩ L
theorem abl(cJ:q.handled=aQ)(f:ua a.heap a' h b k)(R:b[k]?=aQ)(ah:∀aa,Aa a' a.heap aa->C aQ {a with heap:=aa}):b9 (cq prog j) q (nO<|.ref a') C as a:=by have cK:a.TypeIs (.ref a') "bytearray_iterator":=⟨_,f.1,U⟩;obtain⟨ac,a7⟩:=f;refine bj<|ts<|or (name:=ho "__next__") cK ye (k7 ye cK R8 ?_<|R9 _);show b9 _ _ (field (.ref a') 0>>=_) _ _ a;refine ia ac U (f:=.ref h) U<|nU a7<|ia ac U (f:=.int k 0) U ?_;simp only[mD,R];refine bj<|l9<|bj<|wpAny_setField ac U (by simp)<|bj<|uA<|bj<|bj<|jd (bj (m:=C6 _ _)<|q4 (a:=oB) (by first|rfl|(simp only[C6];rfl))<|jd (bj<|wpAny_handled<|iT (V (show q.in1.handled=aQ from cJ) U)<|li<|wpAny_throw ?_) (by size_fits)) (by size_fits);refine bj<|q5 (T:="StopIteration") (b:=Z) ⟨_,fc _ U,U⟩ GR ?_;exact cN<|ah _<|((Ab ..).extBut.push _).push _
end
theorem abm(cJ:q.handled=aQ)(ai h:aq)(b:Array UInt8):Walks prog j q ai [ai,h] [ai] b.size (λk u=>∃g aN,b[k]?=W g/\u=.int (g.toNat:Int) aN) (λk c=>ua c ai h b k):=⟨(λw m=>by refine V (bm m) ?_;exact bz),(λw w w st aS=>⟨aS ai (bz) _ st.1,aS h (mt bz) _ st.2⟩),(λk a C as ac st ah=>by refine abk st (g:=b[k]) (by simp[ac]) λaa abn ea=>?_;exact ah _ aa (a.toks+1) (tI _ _ (by simp[ac]) U) abn λb o m i=>ea.extBut b o (λc=>m (by simp[c])) i),(λa C as st ah=>abl cJ st (by simp) λaa sW=>ah aa a.toks λb o m i=>sW b o (λc=>m (by simp[c])) i),(λw w w w st ah=>abj st ah)⟩
end
section
open PySem PySem.W PyProof.Rows Builtin
section
theorem abo(av:a.heap.get? y=W (cQ b))(c:C a1 a):b9 (cq prog j) q (Builtin.List.listLengthHint<|.ref y) C as a:=by
 refine bj<|hX (gV av) Ip.lookup ?_;generalize R_:("bytearray.__len__":String)=abp
 wp_delta;refine((show splitId abp=W ("bytearray","__len__")from by subst R_;decide+kernel).symm)▸?_;subst R_;refine bj<|q5 (T:="bytearray") (b:=Z) (gV av) (by refine V (kH ..) ?_;cbv) ?_;exact GU (λBk=>absurd Bk bd)<|λw=>GU (λw=>bj<|wR (gV av)<|cN c)<|λBk=>absurd iS Bk
def J4(b:Array UInt8):Nat->al->Prop:=λk u=>∃g aN,b[k]?=W g/\u=.int (g.toNat:Int) aN
theorem abq(cJ:q.handled=aQ)(av:a.heap.get? y=W (cQ b))(cL:b.size<=2^24)(e8:aq)(mP:al)(R':Nat)(h0:a.heap.get? e8=W {cls:=.type "list",data:=.seq #[] R'})(iD:∀aa x go be,(∀b o,b≠e8->a.heap.get? b=W o->aa.get? b=W o)->aa.get? e8=W {cls:=.type "list",dict:=aQ,data:=.seq go be,slots:=#[]}->w0 (J4 b) go b.size->b_ (.ok<|.ret mP) {a with heap:=aa,toks:=x}):b9 (cq prog j) q.in1 (HX (.ref e8) (.ref y) mP) (λg' v=>match g' with|.done I=>b_ (.ok I) v|.again be=>be.quiet=Z/\zq (cq prog j) q be b_ v) (λi v=>b_ (.error i) v) a:=by
 have Bp:e8≠y:=λi=>by rw[i,av]at h0;have af:=congrArg (λo:Option Obj=>o.map (·.cls)) h0;simp[cQ]at af
 have Ew:e8≠a.heap.objs.size:=gD<|dB h0;have tP:e8∉[a.heap.objs.size,y]:=λbt=>dH bt Ew λbt=>Bp<|bm bt;have cF:∀(c:eH)(fM x:Nat),ua c a.heap.objs.size y b 0->(∀b o,b≠e8->a.heap.get? b=W o->c.get? b=W o)->c.get? e8=W {cls:=.type "list",data:=.seq #[] fM}->zq (cq prog j) q (.builtin "list.extend.loop" ⟨[.ref e8,.ref a.heap.objs.size,mP],[]⟩) b_ {a with heap:=c,toks:=x}:=by intro c fM x gB aS t9;refine No ((abm (prog:=prog) (j:=j) (q:=q.in1) cJ a.heap.objs.size y b).toS) (by refine V C7 ?_;omega) e8 tP mP b.size 0 _ #[] fM U (eJ _) gB t9 (O5 _) λv go be bt vK jp=>?_;exact V (O9 bt)<|iD v.heap v.toks go be (λb o m i=>bt.heap b o (λnA=>dH nA (λck=>m ck) λnA=>absurd (dB i)<|bm nA▸h' _)<|aS b o m i) vK jp
 refine bj<|wR (gV av) ?_;have af:DE (.ref e8) (.ref y)=a1:=by simp[DE,Bp]
 have ap:(kJ "bytearray"==kJ "list")=a1:=bd;have bk:(kJ "bytearray"==kJ "tuple")=a1:=bd;simp only[af,ap,bk,sb,CN,if_false];refine bj<|abi av λJ5=>ko<|abo (b:=b) (eD _ av) ?_;have t9:=eD {cls:=.type "bytearray_iterator",data:=.fields #[.ref y,hv (0:Nat)]} h0;refine GU (λw=>?_)<|λw=>cN ⟨ot HU _,cF _ R' _ J5 (λb o w i=>eD _ i) t9⟩;refine bj<|l9<|bj<|bj<|w1 t9 U ?_;have vJ:=pd (jB (·.push oB)) t9 U;refine w1 (hz:=by seq_fits) vJ U ?_;have sX:∀b o,b≠e8->(a.heap.push {cls:=.type "bytearray_iterator",data:=.fields #[.ref y,hv (0:Nat)]}).get? b=W o->(((a.heap.push {cls:=.type "bytearray_iterator",data:=.fields #[.ref y,hv (0:Nat)]}).update e8 (jB (·.push oB))).update e8 (jB (·.pop))).get? b=W o:=λb o m i=>(rg _ _<|iA m).trans<|(rg _ _<|iA m).trans i;refine cN ⟨ot HU _,cF _ _ _ ⟨sX _ _ (iA Ew) J5.1,sX _ _ (iA Bp) J5.2⟩ (λb o m i=>sX b o m<|eD _ i) (pd (jB (·.pop)) vJ U)⟩
theorem abr(cJ:q.handled=aQ)(av:a.heap.get? y=W (cQ b))(cL:b.size<=2^24)(e8:aq)(h0:a.heap.get? e8=W {cls:=.type "list",data:=.seq #[]})(iD:∀aa x go be,(∀b o,b≠e8->a.heap.get? b=W o->aa.get? b=W o)->aa.get? e8=W {cls:=.type "list",dict:=aQ,data:=.seq go be,slots:=#[]}->w0 (J4 b) go b.size->b_ (.ok<|.ret .none) {a with heap:=aa,toks:=x}):b9 (cq prog j) q.in1 (WJ ⟨[.ref e8,.ref y],[]⟩) (λg' v=>match g' with|.done I=>b_ (.ok I) v|.again be=>be.quiet=Z/\zq (cq prog j) q be b_ v) (λi v=>b_ (.error i) v) a:=by
 have Bp:e8≠y:=λi=>by rw[i,av]at h0;have af:=congrArg (λo:Option Obj=>o.map (·.cls)) h0;simp[cQ]at af
 show b9 _ _ (do let qn<-Builtin.List.listItems<|.ref e8;Builtin.List.listUpdate (.ref e8)<|λw=>#[];letGo qn.toList.reverse;HX (.ref e8) (.ref y) .none) _ _ a;refine bj<|bj<|ty h0 U<|cN<|bj<|w1 h0 U ?_;have vJ:=pd (jB<|λw=>(#[]:Array al)) h0 U;have sX:∀b o,b≠e8->a.heap.get? b=W o->(a.heap.update e8<|jB<|λw=>(#[]:Array al)).get? b=W o:=λb o m i=>(rg _ _<|iA m).trans i;exact bj<|uA<|abq cJ (sX y _ (iA Bp) av) cL e8 .none _ vJ λaa x go be aS vK jp=>iD aa x go be (λb o m i=>aS b o m<|sX b o m i) vK jp
end
theorem Sa(cJ:q.handled=aQ)(av:a.heap.get? y=W (cQ b))(cL:b.size<=2^24)(ah:∀aa x go be,(∀b o,a.heap.get? b=W o->aa.get? b=W o)->aa.get? a.heap.objs.size=W {cls:=.type "list",dict:=aQ,data:=.seq go be,slots:=#[]}->w0 (J4 b) go b.size->C (.ref a.heap.objs.size) {a with heap:=aa,toks:=x}):b9 (cq prog j) q (call (.type "list") [.ref y]) C as a:=by refine callType_codes (Q₁:=λnp an=>np=.ref a.heap.objs.size/\an={a with heap:=a.heap.push {cls:=.type "list",data:=.seq #[]}}) F.called_list (F.typeCall_list_1 _) F.entry_list_init (code_list_new _ ⟨U,U⟩) λnp an bo=>?_;obtain⟨rfl,rfl⟩:=bo;have h0:(a.heap.push {cls:=.type "list",data:=.seq #[]}).get? a.heap.objs.size=W {cls:=.type "list",data:=.seq #[]}:=fc _ U;refine⟨⟨_,h0,U⟩,F.args_list_init_2 _ _,abr (q:=q.in1) cJ (eD _ av) cL _ h0 λaa x go be aS vK jp=>?_⟩;exact⟨U,ah aa x go be (λb o i=>aS b o (gD<|dB i)<|eD _ i) vK jp⟩
end
section
theorem abt(bM:qJ H)(bo:gI prog j q as n H eS j8)(aM:Bo j8)(bE:gI prog j q as n H f7 n0)(bC:∀a g z,H a->j8 a g->n0 a z->vQ prog j q as (DA eS f7 g z) ar a):gI prog j q as n H (.Subscript eS f7 aj) ar:=λa C L ah=>by exact bj<|bo a _ L λg an aL cR=>ko<|bE an _ (bM _ _ L aL) λz am a_ eZ=>bj<|pS<|bC am g z (bM _ _ L<|n' aL a_) (aM _ _ _ cR a_) eZ C λy cg ce jj=>ah y cg (n' (n' aL a_) ce) jj
theorem Sb(c:gI prog j q as n H i<|dZ l)(L:H a)(ah:∀g v,kk a v->tu g (W l)->C g v):b9 (cq prog j) q (valueOrNone<|evalOpt (W i) n) C as a:=c a _ L λg v s⟨E,az⟩=>ah g v s<|az▸.int l E
theorem abu{D aN:bB}{lo ac:Int}{aj:Pos}(bM:qJ H)(bo:gI prog j q as n H D<|dZ lo)(bE:gI prog j q as n H aN<|dZ ac):gI prog j q as n H (.Slice (W D) (W aN) aQ aj) (λa g=>∃bx u hR,g=.ref bx/\a.heap.IsSliceOf bx u hR .none/\tu u (W lo)/\tu hR (W ac)):=λa C L ah=>by refine bj<|Sb bo L λg an aL cR=>ko<|Sb bE (bM _ _ L aL) λz am a_ eZ=>?_;refine ko ?_;refine iT (U) ?_;refine cN ?_;refine jd ?_ (by show 3<=cI+2;decide);exact ah _ _ (n' (n' aL a_)<|vO λb o i=>eD _ i)<|p_ _ g z U (O1 ..) cR eZ
theorem abv{eS D aN:bB}{lo ac:Int}{h:aq}{b:Array UInt8}{aj vE:Pos}(bM:qJ H)(bo:gI prog j q as n H eS<|λa g=>g=.ref h/\a.heap.get? h=W (cQ b))(aI:gI prog j q as n H D<|dZ lo)(e4:gI prog j q as n H aN<|dZ ac)(ab:b.size<=cI):gI prog j q as n H (.Subscript eS (.Slice (W D) (W aN) aQ aj) vE) (λa g=>∃fg,g=.ref fg/\a.heap.get? fg=W (cQ<|xp b (W lo)<|W ac)):=abt bM bo (λa v g c s=>⟨c.1,t' s _ _ c.2⟩) (abu bM aI e4) (by rintro a g z-bP cB C ah;refine cY bP λdv aP=>?_;obtain rfl:=dv;refine ni cB λbx u hR ek lS e1 fi=>?_;obtain rfl:=ek;refine tE (gV aP) u3.lookup (R6 aP lS e1 fi ab ?_) (ops:=[.ref bx,.ref h]) U;exact ah _ _ (vO λb o i=>eD _ i)<|dj _ U<|fc _ U)
end
section
section
variable{prog:cl}{j:b7}{q:bY}{as:al->ag->Prop}{a:ag}{aH:List bh}
theorem J6:Bo (IsL [] aH):=λa v g c s=>by exact jD c λh O t i aK av=>⟨h,O,t,i,t' s _ _ aK,bW.to (λb o m i=>⟨t' s _ _ i,m⟩) _ _ av⟩
theorem J7{O:List al}{x:Nat}(c:bW a.heap [] aH O):IsL [] aH {a with heap:=a.heap.push {cls:=.type "list",data:=.seq O.toArray},toks:=x} (.ref a.heap.objs.size):=⟨_,O.toArray,0,U,fc _ U,bW.to (λb o m i=>⟨eD _ i,m⟩) _ _ (by simpa using c)⟩
theorem abw{g z:al}(az:IsL [] aH a g)(bl:IsL [] b5 a z)(ab:aH.length+b5.length<=cI):vQ prog j q as (tt .Add g z) (IsL []<|aH++b5) a:=by
 refine jD az λh O t bP mS qm=>?_;obtain rfl:=bP;refine jD bl λb fz aA cB AA oJ=>?_;obtain rfl:=cB;intro C ah;have i:O++fz=(O.toList++fz.toList).toArray:=by simp
 have ig:=qm.length;have j9:=oJ.length;exact concat_meets ⟨_,mS,U⟩ ⟨_,AA,U⟩ noFill_list_add seq_list_add OJ OK (OL _ _) (list_addW h b O fz t aA aQ aQ #[] #[] (by simp at ig j9;exact V ig<|V j9 ab)) ⟨mS,AA,(i▸ah _ _ (vO (x:=a.toks) λb o i=>eD _ i) (J7 (x:=a.toks)<|bW.append oJ qm))⟩
theorem abx{g:al}{l:Int}{aN:Tok}(az:IsL [] aH a g)(c9:aH≠[])(mT:-(2^63:Int)<=l)(no:l<2^63)(ab:aH.length*l.toNat<=2^24):vQ prog j q as (tt .Mult g<|.int l aN) (IsL [] (dq l.toNat aH).flatten) a:=by
 refine jD az λh O t dv mS qm=>?_;obtain rfl:=dv;intro C ah;have ig:O.size=aH.length:=by simpa using qm.length
 have ay:¬O.isEmpty=Z:=λe=>by rw[OC]at e;replace ig:=e▸ig;exact c9<|Hy.mp ig.symm
 refine QI mS mT no (ig▸ab)<|(if_neg ay).symm▸?_;have i:List.foldl (λJ P=>J++P) #[] (dq l.toNat O)=((dq l.toNat O.toList).flatten).toArray:=by apply OD.mp;refine V (foldl_rep ..) ?_;simp
 exact i.symm▸ah _ _ (vO (x:=a.toks) λb o i=>eD _ i) (J7 (x:=a.toks)<|bW.rep qm _)
noncomputable def J8(b:Array UInt8):List bh:=b.toList.map λg=>.int (g.toNat:Int)
theorem Sc:∀(D:List UInt8)(O:List al),O.length=D.length->(∀(k:Nat)(u:al),O[k]?=W u->∃g aN,D[k]?=W g/\u=.int (g.toNat:Int) aN)->bW a.heap [] (D.map λg=>.int (g.toNat:Int)) O|[],[],bL,dQ=>by show bW _ _ [] [];exact U|[],u::O,c,bL=>by cases c|g::D,[],c,bL=>by cases c|g::D,u::O,c,aM=>by refine gc (aM 0 u U) λbe aN i ek=>?_;obtain rfl:=ek;cases i;exact(jg _ O U ((oE aN U))<|Sc D O (by simpa using c) λk u ac=>aM (k+1) u ac)
theorem aby{h:aq}{b:Array UInt8}(cJ:q.handled=aQ)(aP:a.heap.get? h=W (cQ b))(ab:b.size<=2^24):vQ prog j q as (er (.type "list") [.ref h] []) (IsL []<|J8 b) a:=λC ah=>by refine Sa cJ aP ab λaa x b6 be aS h0 jp=>ah _ _ (vO aS) ⟨_,b6,be,U,h0,(Sc (a:={a with heap:=aa,toks:=x}) b.toList b6.toList (jp.1) λk u aM=>?_)⟩;have:=jp.2 k u (by simpa using aM);refine gc this λg aN i e_=>?_;obtain rfl:=e_;exact⟨g,aN,by simpa using i,U⟩
end
end
section
noncomputable def b2i(b:Bool):Int:=bif b then 1 else 0
section
variable{prog:cl}{j:b7}{q:bY}{as:al->ag->Prop}{a:ag}
def EK(c6:eH)(aG:List Bool):ag->al->Prop:=λa g=>∃(aT aY ae ch:aq)(aw:List<|Int×Tok),g=.ref aT/\(∀b o,c6.get? b=W o->b≠ae)/\oV a.heap aT aY ae ch (aw.map λr:Int×Tok=>tD r.1 r.2).toArray 0/\aT≠ae/\aY≠ae/\ch≠ae/\aw.map (·.1)=aG.map b2i
theorem Sd:∀(D:List Int)(O:List al),bW a.heap [] (D.map .int) O->∃aw:List<|Int×Tok,O=aw.map (λr=>tD r.1 r.2)/\aw.map (·.1)=D|[],O,c=>by have aa:bW a.heap [] [] O:=c;exact⟨[],aa,U⟩|k::D,O,c=>by have aa:bW a.heap [] (.int k::D.map .int) O:=c;exact ei aa λg aR e9 af ap=>V e9<|c5 af λE hp=>V hp<|br (Sd D aR ap) λaw jG i=>V jG<|⟨(k,E)::aw,U,V iz<|V i U⟩
theorem abz{g:al}{aG:List Bool}(az:IsL [] (aG.map λb=>.int<|b2i b) a g){c6:eH}(hu:∀b o,c6.get? b=W o->a.heap.get? b=W o):vQ prog j q as (er (.type "map") [.type "str",g] []) (EK c6 aG) a:=λC ah=>by
 refine jD az λh O t bP mS qm=>V bP ?_;have i:(aG.map λb=>bh.int<|b2i b)=(aG.map b2i).map .int:=by refine V jY ?_;rfl
 rw[i]at qm;refine br (Sd _ _ qm) λaw aM ay=>abb ⟨_,mS,U,t,U⟩ λaT aY ae aa x bt rN cK e5 abA abB aS=>ah _ _ (vO aS) ⟨aT,aY,ae,h,aw,U,(λb o i e=>cd (dB<|hu b o i)<|e▸e5),(b' aM ?_),abA,abB,λe=>cd (dB mS)<|e▸e5,ay⟩;simpa using bt
theorem abC(b:Bool):(b2i b).natAbs.log2<1920:=by cases b<;>decide
theorem abD:∀aG∈yc 8,Txt.join mK (aG.map λb=>(ho<|toString<|b2i b))=yb aG/\JoinOk mK (aG.map λb=>(ho<|toString<|b2i b))=Z:=by decide+kernel
theorem abE(m:aG.length=8)(cJ:q.handled=aQ)(az:EK c6 aG a g)(ah:∀eR aa x,(∀b o,c6.get? b=W o->a.heap.get? b=W o->aa.get? b=W o)->C (.str (yb aG) eR) {a with heap:=aa,toks:=x}):b9 (cq prog j) q (er (.builtin "str.join") [.str mK E,g] []) C as a:=by
 refine DN az λaT aY ae ch aw e_ abF bt af ap bk mn=>V e_ ?_;have aI:aw.length=8:=by have:=congrArg hg mn;rw[d3,d3]at this;exact this.trans m
 have dx:=abD aG<|m▸ED aG;have cZ:=aaj (prog:=prog) (j:=j) (q:=q.in1.in1) (aT:=aT) (aY:=aY) (ae:=ae) (ch:=ch) cJ af ap bk aw (λr aZ=>by have:r.1∈aw.map (·.1):=xg aZ;replace this:=mn▸this;refine mg this λb w m=>b' m ?_;exact abC b);refine aal cZ (λk a st=>⟨_,st.1,U⟩) bt (λb m=>?_) (bz) (λk u⟨r,aN,_,i⟩=>⟨_,aN,i⟩) (λv D Se jp=>?_) (by refine V aI ?_;decide)
 .obtain⟨bm,⟨t,abG⟩,⟨o,abH,_⟩,⟨db,abI,_⟩⟩:=bt;simp only[fR,oy,or_false]at m;rcases m with rfl|rfl|rfl|rfl
  .exact dB bm
  .exact dB abG
  .exact dB abH
  .exact dB abI
 .have cL:D.length=aw.length:=by simpa[zC]using jp.1
  have i:D.map (·.1)=aG.map λb=>(ho<|toString<|b2i b):=by
   have bG:D.map (·.1)=(aw.map (·.1)).map λk=>ho (toString k):=by
    refine uO λaD=>?_;rcases pZ aD D.length with dx|dx
    .refine gc (jp.2 aD (.str (D[aD].1)<|D[aD].2) (by simp[zC,dx])) λr aN aZ aM=>(fk).symm▸(fk).symm▸(fk).symm▸aZ.symm▸(fG dx).symm▸?_;have e:=(Value.str.inj aM).1;simp only[tz];exact e.symm▸U
    .exact V (oA (by simpa using dx))<|V (oA (by simpa using cL▸dx)) U
   refine V bG<|V mn<|V jY ?_;rfl
  exact i.symm▸⟨dx.2,λeR l=>dx.1.symm▸(O9 Se).symm▸ah eR v.heap l λb o m i=>Se.heap b o (λe=>abF b o m<|bm e) i⟩
end
end
section
theorem abJ(ay:aB.all d0=Z)(cL:aB.length<20)(mm:tx o attr n (dD o n)=dD o n)(i0:(pq.endLine==aj.line)=Z)(c:b9 (cq prog j) q (dD o n) (λlq an=>b9 (cq prog j) q (CX Z o n lq attr) (λbF am=>b9 (cq prog j) q (pT aj bF.1 bF.2 (jX aj<|je aB n) []) C as am) as an) as a):b9 (cq prog j) q (dD (.Call (.Attribute o attr pq) aB [] aj) n) C as a:=by
 refine iT (V (arm_eval_Call ..)<|V mm U)<|bj<|q8 c (λlq an bo=>?_) λw w f=>f;refine bj<|pS ?_;have I5:CY (aB.length+([]:List Keyword).length) (jX aj<|je aB n) (backToKw aj<|keywordEach [] n)=Z:=by unfold CY;refine V (I4 ay)<|?_;show(Z&&Z&&decide (aB.length+0+0<30))=Z;simp;exact cy (.t .x<|.n 30) [.t .x<|.n 20] U cL
 unfold methodCall;refine I5.symm▸ko (q8 bo (λbF am bE=>?_) λw w f=>f);have I6:CZ Z o n pq aj=dz aj:=by unfold CZ;simp[i0]
 obtain⟨I,jJ⟩:=bF;refine mM I6<|iT (U) ?_;exact bE
end
section
theorem abK(m:aG.length=8)(cJ:q.handled=aQ)(bM:qJ H)(bt:n1 H n "map"<|.type "map")(f4:n1 H n "str"<|.type "str")(bp:gI prog j q as n H i<|IsL []<|aG.map λb=>.int<|b2i b)(ay:d0 i=Z)(i0:(nB.endLine==fi.line)=Z)(mm:tx (.Constant (.str mK) l J9) "join" n (dD (.Constant (.str mK) l J9) n)=dD (.Constant (.str mK) l J9) n):gI prog j q as n H (.Call (.Attribute (.Constant (.str mK) l J9) "join" nB) [.Call (.Name "map" J_) [.Name "str" J',i] [] e1] [] fi) (λw g=>∃E,g=.str (yb aG) E):=λa C L ah=>by
 refine abJ (aB:=[.Call (.Name "map" J_) [.Name "str" J',i] [] e1]) U (by show 1<20;decide) mm i0<|Np ?_;unfold CX;refine(if_pos U).symm▸?_
 with_reducible refine GM.join (x:=mK) ?_
 have Ka:qJ (λE=>H E/\∀b o,a.heap.get? b=W o->E.heap.get? b=W o):=λh b c s=>⟨bM _ _ c.1 s,λr o i=>t' s _ _<|c.2 r o i⟩;have lA:n1 (λE=>H E/\∀b o,a.heap.get? b=W o->E.heap.get? b=W o) n "map" (.type "map"):=⟨bt.1,λE c=>bt.2 E c.1⟩;have DZ:n1 (λE=>H E/\∀b o,a.heap.get? b=W o->E.heap.get? b=W o) n "str" (.type "str"):=⟨f4.1,λE c=>f4.2 E c.1⟩;have sW:gI prog j q as n (λE=>H E/\∀b o,a.heap.get? b=W o->E.heap.get? b=W o) i (IsL []<|aG.map λb=>.int<|b2i b):=λE C c ah=>bp E C c.1 ah;have Bi:gI prog j q as n (λE=>H E/\∀b o,a.heap.get? b=W o->E.heap.get? b=W o) (.Call (.Name "map" J_) [.Name "str" J',i] [] e1) (EK a.heap aG):=by refine EH Ka lA U (yd U Ka (R3 DZ) (λw w w c w=>c)<|yd ay Ka sW J6 EG) ?_ (by refine V nQ<|V nQ<|V ay ?_;rfl);rintro E aR bP cB;refine cY bP λw aS=>ei cB λw w dv ek e_=>ei e_ λg w gX az gF=>?_;obtain rfl:=dv;obtain rfl:=ek;obtain rfl:=gX;obtain rfl:=gF;exact abz az aS
 have Kb:vP prog j q as n (λE=>H E/\∀b o,a.heap.get? b=W o->E.heap.get? b=W o) [.Call (.Name "map" J_) [.Name "str" J',i] [] e1] (λE aR=>∃g,aR=[g]/\EK a.heap aG E g):=λE C aj c ah=>by exact bj<|Bi E _ c λg an aL cR=>li<|ko<|cN<|cN<|ah _ _ aL ⟨g,U,cR⟩
 refine R4 (jJ:=[.str mK a.toks]) U U Kb ⟨bM _ _ L<|vN ..,λb o i=>i⟩ ?_;rintro aR am a_ hq;refine br hq λg iZ az=>?_;obtain rfl:=iZ;refine abE m cJ az λeR aa x aS=>ah _ _ (gc (n' (vN a<|a.toks+1) a_) λap t2 jK jn=>?_) ⟨_,U⟩;obtain rfl:=jK;exact⟨aa,x,U,λb o i=>aS b o i<|jn b o i⟩
end
theorem abL(b:Array UInt8)(l:Nat):xp b (W (l:Int)) (W<|(l:Int)+8)=((b.toList.drop l).take 8).toArray:=by
 refine V (KBc.picked_eq ..) ?_;simp only[Nr];have i:((l:Int)+8)=((l+8:Nat):Int):=by rfl
 refine V i<|V (clipAt_nat ..)<|V (clipAt_nat ..) ?_
 congr 1;have ay:b.toList.length=b.size:=by simp
 rcases ix l b.size with c|c
 .refine V (Dc c) ?_;rcases ix (l+8) b.size with aa|aa
  .exact V (Dc aa)<|V (show l+8-l=8 by exact NI ..) U
  .exact V (Dd aa)<|V (uP (by refine V z5<|V ay ?_;exact dA _))<|V (uP (by refine V z5<|V ay ?_;exact(ix (l)<|b.size).elim (λd_=>hh (.l .x<|.n 8) [.l .y<|.a .z<|.n 8,.e (.a .x .z) .y] U aa<|eN d_) λd_=>cy (.l .x<|.n 8) [.e .x<|.n 0] U<|jh d_)) U
 .refine V (Dd c)<|V (z6<|ay▸dA _)<|V (z6 (by refine V ay ?_;omega)) ?_;simp
section
theorem abM{a':aq}{f gR step:Int}{C:al->ag->Prop}(gB:ov a.heap a' f gR step)(Kc:0<gR)(ah:∀aa,ov aa a' (f+step) (gR-1) step->iQ a' a.heap aa->C (.int f a.toks) {a with heap:=aa,toks:=a.toks+1}):b9 (cq prog j) q (xo<|.ref a') C as a:=by have cK:a.TypeIs (.ref a') "range_iterator":=⟨_,gB,U⟩;refine bj<|or (name:=ho "__next__") cK Dx (call_meets Dx cK OS (OT _) (AutoRange.range_iterator___next___range_iterator_1 a' f gR step<|f1 (.qH .x<|.n 0) [.b_ (.n 0) .x] U Kc) ⟨gB,?_⟩);exact cN<|ah _ (pd _ (pd _ gB U) U)<|(Ab ..).trans<|Ab ..
theorem abN{a':aq}{f gR step:Int}{C:al->ag->Prop}(cJ:q.handled=aQ)(gB:ov a.heap a' f gR step)(Kc:gR<=0)(g7:∀aa i,Aa a' a.heap aa->(∃o,aa.get? i=W o/\o.cls=.type "StopIteration")->as (.ref i) {a with heap:=aa}):b9 (cq prog j) q (xo<|.ref a') C as a:=by
 have cK:a.TypeIs (.ref a') "range_iterator":=⟨_,gB,U⟩;refine bj<|or (name:=ho "__next__") cK Dx (k7 Dx cK OS ?_<|OT _);show b9 _ _ (field (.ref a') 0>>=_) _ _ a;refine ia gB U (f:=hv f) U<|ia gB U (f:=hv gR) U<|ia gB U (f:=hv step) U<|Pp Kc<|bj<|l9<|bj<|bj<|bj<|jd (bj (m:=C6 _ _)<|q4 (a:=oB) (by first|rfl|(simp only[C6];rfl))<|jd (bj<|wpAny_handled ?_) (by size_fits)) (by size_fits);first|refine iT (V (show q.in1.handled=aQ from cJ) U) ?_|rw[cJ]
 exact li<|wpAny_throw<|g7 _ _ (((HZ a' a.heap).push _).push _)<|dj _ (fc _ U) U
theorem abO{h:aq}{s t:Nat}{bQ:uD}{H:Nat->ag->ag->Prop}{aU:Protocol}{C:al->ag->Prop}(aI:a.heap.NoLimit)(fA:q.depth<fF)(aK:a.heap.IsGen h s)(lx:a.gens[s]?=W bQ)(sP:bQ.Goes (cq prog j) q.in1 (λt bV y an=>y=.ok .next/\H t bV an) aU t (.send .none)<|a.setGen s .running)(oa:∀u an n6,n6.bare=Z->aU (t-1) (a.setGen s .running) u an (λfV el=>match t with|0=>False|aA+1=>n6.Goes (cq prog j) q.in1 (λt bV y an=>y=.ok .next/\H t bV an) aU aA fV el)->C u (an.setGen s n6))(bM:∀an,¬H t (a.setGen s .running) an):b9 (cq prog j) q (xo<|.ref h) C as a:=by refine bj<|or (name:=ho "__next__") aK.typeIs slot_gen_next (k7 slot_gen_next aK.typeIs entry_gen_next ?_<|args_gen_next _);show b9 _ q.in1 (WS (.ref h)<|.send .none) _ _ a;refine ko<|wpAny_genNumber aK<|bj<|wpAny_genState lx ?_;cases bQ with
 |running=>exact sP.elim|finished=>exact sP.elim|_=>
  refine bj<|wpAny_roomToWake aI fA<|wpAny_resumeQ lx sP (λf an R=>?_)<|λu an n6 m aM=>?_
  .exact(bM _ R.2).elim
  .exact cN<|dj u U<|cN<|oa u an n6 m aM
theorem jt.nextOf{h aX:aq}{s t aD:Nat}{bF a0:List aq}{d9:Nat->al->Prop}(c:jt prog j q h s aX bF a0 t d9 aD a)(bg:n7 h aX bF a0)(av:q.depth<fF)(dx:aD<t){C:al->ag->Prop}(ah:∀u v,d9 aD u->jt prog j q h s aX bF a0 t d9 (aD+1) v->Moved (aX::a0) (C4 s) a v->C u v):b9 (cq prog j) q (xo<|.ref h) C as a:=by
 refine eQ c λaK aI bP=>br bP λbQ lx sP=>?_;have cL:(pV (λw=>Z) t 0).length=t:=V (A4 ..)<|V oz U;refine c5 (⟨t-aD-1,by exact Il [1,-1,1,0,0,0,1,1] [1,1,0,1,1,1,0,0] (.e .x<|.o .y) [.e .z .w,.l .z<|.a .x .u,.l (.v 5)<|.a .y<|.n 1,.l .w<|.a (.v 5) .u,.e (.a .x .u) .z,.e (.a .y<|.n 1)<|.v 5,.e (.a (.v 5) .u) .w] U cL (f2 _ _) (f2 _ _) (f2 _ _) (eN<|j4 [1,1,-1] (.l .x .y) [.t .x .z,.e .y .z] U dx cL) (eN<|hh (.l (.n 1) .x) [.t .y .z,.l .z<|.a .x .y] U dx<|f2 _ _)<|eN<|c3 (.l .x .y) [.t .x .y] U dx⟩:∃aA,(pV (λw=>Z) t 0).length-aD=aA+1) λaA bt=>?_;replace sP:=bt▸sP;refine wpAny_with_toks (dA a.toks)<|abO (H:=λt bV an=>t=0/\GenSince aX a0 bV an) aI av aK lx (sP _ λw w w i=>i) (λu an n6 m aM=>eQ aM λcB dv abP=>br cB λk ac M=>gc dv λbo xB e9 rx=>?_)<|λan aZ=>absurd aZ.1<|NA aA;obtain rfl:=e9;have Ke:(pV (λw=>Z) t 0).length-1-(aA+1-1)=aD:=(ix (aA+1-1)<|(pV (λf=>Z) t 0).length-1).elim (λd_=>(ix (aD)<|(pV (λf=>Z) t 0).length).elim (λgS=>PM [1,-1,1,0,1,0,0,1,0,1] [1,1,0,1,0,1,1,0,1,0] (.e .x .y) [.e .z<|.o .w,.l .u<|.a .x<|.v 5,.l (.v 6)<|.a .z .y,.l (.v 6)<|.a .u<|.n 1,.l (.o .w)<|.a (.v 5)<|.n 1,.e (.a .x<|.v 5) .u,.e (.a .z .y)<|.v 6,.e (.a .u<|.n 1)<|.v 6,.e (.a (.v 5)<|.n 1)<|.o .w] U bt (f2 _ _) (f2 _ _) (f2 _ _) (f2 _ _) (eN d_) (eN gS) (eN<|j4 [1,-1,1] (.l (.n 1) .x) [.e .y<|.o .z,.l .y .x] U bt<|k9 _ _)<|eN<|cy (.l (.n 1)<|.o .x) [] U) λgS=>Il [0,-1,0,0,1,0] [1,0,1,1,0,1] (.e .x .y) [.e .z<|.o .w,.l .u .y,.l .x<|.v 5,.e .z<|.n 0,.e (.a (.v 5)<|.n 1) .u] U bt gS (k9 _ _) (jh gS)<|eN<|j4 [1,-1,1] (.l (.n 1) .x) [.e .y<|.o .z,.l .y .x] U bt<|k9 _ _) λd_=>(ix (aD)<|(pV (λf=>Z) t 0).length).elim (λgS=>PM [1,-1,1,1,0,1,1] [1,0,0,0,1,0,0] (.e .x .y) [.e .z<|.o .w,.l .u<|.v 5,.l (.v 6)<|.a .u<|.n 1,.e .x<|.n 0,.e (.a .z .y)<|.v 6,.e (.a (.v 5)<|.n 1)<|.o .w] U bt d_ (f2 _ _) (jh d_) (eN gS)<|eN<|cy (.l (.n 1)<|.o .x) [] U) λgS=>Il [0,-1,0,0,1,0] [1,0,1,1,0,1] (.e .x .y) [.e .z<|.o .w,.l .u .y,.l .x<|.v 5,.e .z<|.n 0,.e (.a (.v 5)<|.n 1) .u] U bt gS (k9 _ _) (jh gS)<|eN<|j4 [1,-1,1] (.l (.n 1) .x) [.e .y<|.o .z,.l .y .x] U bt<|k9 _ _;replace ac:=Ke▸ac;have x9:k=aD:=by rw[A4,mJ dx]at ac;exact(d4 ac).symm
 subst x9;have DY:h∉a0:=λc=>bg.2<|bg.3 h c;intro EL;refine ah u _ M ⟨xs aK λo nm A5 aP y=>⟨o,nm,A5,rx h o bg.1 DY aP,y⟩,(let⟨dH,mn,vz⟩:=aI;⟨dH,mn.at' λo i=>rx pW o bg.5 bg.6 i,vz⟩),n6,C8 (gs:=.running)<|C8 lx,λel kc=>?_⟩ ⟨λb o m i=>rx b o (λc=>m<|c▸bz ..) (λc=>m<|mt c) i,GenOnlyQ.of ((O_ a s .running).trans<|O_ _ s n6) (C8 (gs:=.running)<|C8 lx) m,U,U,EL⟩;have i:(pV (λw=>Z) t 0).length-(k+1)=aA:=(ix ((k)+1)<|(pV (λf=>Z) t 0).length).elim (λd_=>rt [1,-1,1,0,0,1] [1,1,0,1,1,0] (.e .x .y) [.e .z<|.o .y,.l .w<|.a .x<|.o .u,.l .w<|.a .z .u,.e (.a .x<|.o .u) .w,.e (.a .z .u) .w] U bt (f2 _ _) (f2 _ _) (eN d_)<|eN<|c3 (.l .x .y) [.l (.o .x) .y] U d_) λd_=>(ix (k)<|(pV (λf=>Z) t 0).length).elim (λgS=>rt [1,-1,1,0,1] [1,0,0,1,0] (.e .x .y) [.e .z<|.o .y,.l .w<|.o .u,.e .x<|.n 0,.e (.a .z .u) .w] U bt d_ (jh d_)<|eN gS) λgS=>nW [1,-1,0,1] [1,0,1,0] (.e .x .y) [.e .z<|.o .y,.e .x<|.n 0,.e .z<|.n 0] U bt (jh d_)<|jh gS;exact V i<|abP el kc
end
section
section
variable{prog:cl}{j:b7}{q:bY}{as:al->ag->Prop}{a v:ag}{G fC eI d' h aX:aq}{s t aA aD:Nat}{bF a0:List aq}{d9:Nat->al->Prop}
inductive rS(G fC eI d' h aX:aq)(bF a0:List aq):Prop|mk(fS:fC≠G)(fT:eI≠G)(gy:d'≠G)(jI:fC≠eI)(lm:fC≠d')(nZ:eI≠d')(vg:∀b∈[G,fC,eI,d'],b∉h::aX::bF)(D9:n7 h aX bF a0):rS G fC eI d' h aX bF a0
inductive qL(prog:cl)(j:b7)(q:bY)(G fC eI d' h:aq)(s:Nat)(aX:aq)(bF a0:List aq)(t aA aD:Nat)(d9:Nat->al->Prop)(vR:al)(k:Nat)(a:ag):Prop|mk(fS:pY a.heap G fC eI vR)(fT:l_ a.heap fC (.ref d')<|.ref h)(gy:∃r e,l_ a.heap eI r e)(jI:ov a.heap d' (0+(k:Nat)*1) ((t:Int)-(k:Nat)) 1)(lm:jt prog j q h s aX bF a0 aA d9 (aD+k) a):qL prog j q G fC eI d' h s aX bF a0 t aA aD d9 vR k a
theorem rS.sub(aC:rS G fC eI d' h aX bF a0):∀b∈aX::a0,b∈h::aX::bF:=λb m=>by
 revert b;refine g4 ?_ ?_
 .exact mt bz
 .intro b m;exact zW _<|zW _<|aC.8.3 b m
theorem qL.frame{vR:al}{k:Nat}{cb:List aq}{c6:List Nat}(c:qL prog j q G fC eI d' h s aX bF a0 t aA aD d9 vR k a)(aC:rS G fC eI d' h aX bF a0)(hS:a9 cb c6 a v)(dK:∀b∈cb,b∉[G,fC,eI,d']++h::aX::bF)(ji:s∉c6):qL prog j q G fC eI d' h s aX bF a0 t aA aD d9 vR k v:=by have l:∀b∈[G,fC,eI,d'],∀o,a.heap.get? b=W o->v.heap.get? b=W o:=λb m o i=>hS.1 b o (λe=>dK b e<|b3 m) i;exact lh c.3 λr e Kf=>⟨l G (bz) _ c.1,l fC (mt bz) _ c.2,(j1 r e<|l eI (mt<|mt bz) _ Kf),l d' (by simp) _ c.4,c.5.frame aC.8 hS (λb m e=>dK b m<|bO e) ji⟩
theorem abQ{k:Nat}{C:al->ag->Prop}(c:qL prog j q G fC eI d' h s aX bF a0 t aA aD d9 .none k a)(aC:rS G fC eI d' h aX bF a0)(av:q.depth<fF)(ac:k<t)(dx:aD+k<aA)(ah:∀aY E u v,d9 (aD+k) u->l_ v.heap aY (.int k E) u->aY≠G->qL prog j q G fC eI d' h s aX bF a0 t aA aD d9 (hv aY) (k+1) v->Moved ([G,eI,d']++aX::a0) (C4 s) a v->C (.ref aY) v):b9 (cq prog j) q (Ox ⟨[.ref G],[]⟩) (λg' v=>∃u,g'=.done (.ret u)/\C u v) as a:=by
 obtain⟨ab,yf,⟨r,e,EM⟩,af,aK⟩:=c;have abR:∀b∈[G,fC,eI,d'],b∉aX::a0:=λb m e=>aC.7 b m<|aC.sub b e;show b9 _ _ (field (.ref G) 2>>=_) _ _ _;refine ia ab U (f:=.bool a1) U ?_;show b9 _ _ (field (.ref G) 3>>=_) _ _ _;refine ia ab U (f:=.ref fC) U<|bj<|ty yf U ?_;show b9 _ _ (O7 (.ref G)>>=_) _ _ _;refine bj ?_;unfold O7;refine ia ab U (f:=.none) U<|cN ?_;simp only[if_true];refine bj<|l9<|ia ab U (f:=.ref eI) U<|bj<|w2 ab (by simp) λbo vS fm=>?_;replace vS:pY bo G fC eI .ellipsis:=vS;refine bj ?_;simp only[N2,List.zipIdx_nil,tA,z2];refine bj<|bj<|GV ?_;show b9 _ _ (xo (.ref d')>>=_) _ _ _;refine bj<|abM (a:={a with heap:=bo}) (fm.extBut _ _ aC.3 af) (c3 (.b_ (.n 0)<|.s (.c .x)<|.c .y) [.t .y .x] U ac) λbE abS hy=>cN ?_;have Sf:l_ bE eI r e:=hy.extBut _ _ aC.6<|fm.extBut _ _ aC.2 EM;refine bj<|ty Sf U<|bj<|Nq Sf λml Kg m0=>?_;replace Kg:l_ ml eI _ e:=Kg;refine bj<|uA<|cN<|bj<|bj<|GV ?_;show b9 _ _ (xo (.ref h)>>=_) _ _ _;have Kh:∀g o,g≠G->g≠eI->g≠d'->a.heap.get? g=W o->ml.get? g=W o:=λg o il lY sZ i=>m0.extBut _ _ lY<|hy.extBut _ _ sZ<|fm.extBut _ _ il i;have Bq:a9 [G,eI,d'] [] a {a with heap:=ml,toks:=a.toks+1}:=bJ.heap (λb o m i=>Kh b o (λe=>m (by simp[e])) (λe=>m (by simp[e])) (λe=>m (by simp[e])) i)<|V m0.1<|V hy.1<|V fm.1<|dA _;have abT:=aK.frame aC.8 Bq (λb m e=>aC.7 b (by simp at m⊢;rcases m with i|i|i<;>simp[i]) e)<|λe=>dt e;refine bj<|abT.nextOf aC.8 av dx λu cU aM abU bt=>cN ?_;have rF:∀b∈[G,fC,eI,d'],∀o,ml.get? b=W o->cU.heap.get? b=W o:=λb m o i=>bt.heap b o (abR b m) i;have Sh:=rF eI (mt<|mt bz) _ Kg;refine bj<|ty Sh U<|bj<|Nq Sh λpC EN yg=>?_;replace EN:l_ pC eI _ u:=EN;refine bj<|uA<|cN<|cN<|bj<|ty EN U<|bj<|zE ?_;have Si:pY pC G fC eI .ellipsis:=yg.extBut _ _ (iA aC.2)<|rF G (bz) _<|m0.extBut _ _ (iA aC.2)<|hy.extBut _ _ (iA aC.3) vS;have abV:l_ (pC.push {cls:=.type "tuple",data:=.seq [tD (0+(k:Nat)*1) a.toks,u].toArray}) pC.objs.size (.int (0+(k:Nat)*1) a.toks) u:=fc _ U;have Ki:G<pC.objs.size:=dB Si;show b9 _ _ (O8 (.ref G) (.ref pC.objs.size)>>=_) _ _ _;refine bj ?_;unfold O8;have abW:pY (pC.push {cls:=.type "tuple",data:=.seq [tD (0+(k:Nat)*1) a.toks,u].toArray}) G fC eI .ellipsis:=eD _ Si;refine bj<|w2 abW (by simp) λabX Kj Kk=>?_;replace Kj:pY abX G fC eI (hv pC.objs.size):=Kj;refine w2 Kj (by simp) λvT Kl Km=>?_;replace Kl:pY vT G fC eI (hv pC.objs.size):=Kl;have eC:∀g o,g≠G->pC.get? g=W o->vT.get? g=W o:=λg o il i=>Km.extBut _ _ il<|Kk.extBut _ _ il<|eD _ i;have EO:∀g o,g≠G->g≠eI->cU.heap.get? g=W o->vT.get? g=W o:=λg o il lY i=>eC g o il<|yg.extBut _ _ lY i;have n4:jt prog j q h s aX bF a0 aA d9 (aD+(k+1)) {cU with heap:=vT}:=by have abY:a9 [G,eI] [] cU {cU with heap:=vT}:=bJ.heap (x:=cU.toks) (λb o m i=>EO b o (λe=>m (by simp[e])) (λe=>m (by simp[e])) i) (by refine V Km.1<|V Kk.1<|V (fZ ..)<|V yg.1 ?_;exact kl _);exact abU.frame aC.8 abY (λb m e=>aC.7 b (by simp at m⊢;rcases m with i|i<;>simp[i]) e)<|λe=>dt e
 have Kn:l_ vT pC.objs.size (.int (0+(k:Nat)*1) a.toks) u:=Km.extBut _ _ (q' Ki)<|Kk.extBut _ _ (q' Ki) abV;refine cN<|dj _ U<|ah pC.objs.size a.toks u _ aM ?_ (q' Ki) ⟨Kl,EO _ _ aC.1 aC.4<|rF fC (mt bz) _<|Kh fC _ aC.1 aC.4 aC.5 yf,(j1 _ _<|eC _ _ aC.2 EN),?_,n4⟩ ?_
 .have i:(0+(k:Int)*1)=k:=cy (.eG (.a (.n 0)<|.r (.c .x) 1)<|.c .x) [] U;replace Kn:=i▸Kn;exact Kn
 .have bG:(0+((k+1:Nat):Int)*1)=0+(k:Int)*1+1:=by push_cast;rfl
  have cr:(t:Int)-((k+1:Nat):Int)=(t:Int)-(k:Int)-1:=by push_cast;exact c3 (.eG (.s (.c .x)<|.o<|.c .y)<|.s (.s (.c .x)<|.c .y)<|.n 1) [] U
  show ov vT d' _ _ 1;exact b' bG<|cr▸EO _ _ aC.3 (iA aC.6) (rF d' (by simp) _<|m0.extBut _ _ (iA aC.6) abS)
 .refine⟨λb o m i=>?_,bt.gens,bt.drawn,bt.os,bb (kl _) bt.toks⟩;rw[mb,not_or]at m;have dr:b≠G:=λe=>m.1 (by simp[e]);have es:b≠eI:=λe=>m.1 (by simp[e]);have gE:b≠d':=λe=>m.1 (by simp[e]);exact EO b o dr es<|bt.heap b o m.2<|Kh b o dr es gE i
theorem abZ{k:Nat}{C:C5->ag->Prop}(cJ:q.handled=aQ)(c:qL prog j q G fC eI d' h s aX bF a0 t aA aD d9 .none k a)(aC:rS G fC eI d' h aX bF a0)(ac:t<=k)(g7:∀aa i,(∀g o,g≠G->g≠d'->a.heap.get? g=W o->aa.get? g=W o)->(∃o,aa.get? i=W o/\o.cls=.type "StopIteration")->as (.ref i) {a with heap:=aa}):b9 (cq prog j) q (Ox ⟨[.ref G],[]⟩) C as a:=by
 obtain⟨ab,yf,⟨r,e,EM⟩,af,aK⟩:=c;show b9 _ _ (field (.ref G) 2>>=_) _ _ _;refine ia ab U (f:=.bool a1) U<|ia ab U (f:=.ref fC) U<|bj<|ty yf U<|bj<|ia ab U (f:=.none) U<|cN<|bj<|l9<|ia ab U (f:=.ref eI) U<|bj<|w2 ab (by simp) λbo vS fm=>?_;replace vS:pY bo G fC eI .ellipsis:=vS;refine bj<|bj<|bj<|GV<|bj<|abN (a:={a with heap:=bo}) cJ (fm.extBut _ _ aC.3 af) (c3 (.b3 (.s (.c .x)<|.c .y)<|.n 0) [.l .x .y] U ac) λbE i hy bp=>br bp λEP yh Sj=>?_;have vM:pY bE G fC eI .ellipsis:=hy _ _ (iA aC.3) vS;have ab0:i≠G:=λf=>by subst f;rw[vM]at yh;cases yh;simp at Sj
 refine w2 vM (by simp) λml w m0=>g7 ml i (λg o il sZ f=>m0.extBut _ _ il<|hy _ _ sZ<|fm.extBut _ _ il f)<|dj EP (m0.extBut _ _ ab0 yh) Sj
theorem ab1{k:Nat}{C:Option al->ag->Prop}(c:qL prog j q.in1 G fC eI d' h s aX bF a0 t aA aD d9 .none k a)(aC:rS G fC eI d' h aX bF a0)(av:q.depth<fF)(ac:k<t)(dx:aD+k<aA)(ah:∀aY E u v,d9 (aD+k) u->l_ v.heap aY (.int k E) u->aY≠G->qL prog j q.in1 G fC eI d' h s aX bF a0 t aA aD d9 (hv aY) (k+1) v->Moved ([G,eI,d']++aX::a0) (C4 s) a v->C (W<|.ref aY) v):b9 (cq prog j) q (nO<|.ref G) C as a:=by have cK:a.TypeIs (.ref G) "zip":=⟨_,c.1,U⟩;exact bj<|ts<|or (name:=ho "__next__") cK Dy (k7 Dy cK OU (abQ c aC av ac dx λaY E u v dT d8 dO eM gg=>cN<|ah aY E u v dT d8 dO eM gg)<|OV _)
theorem ab2{k:Nat}{C:Option al->ag->Prop}(cJ:q.handled=aQ)(c:qL prog j q.in1 G fC eI d' h s aX bF a0 t aA aD d9 .none k a)(aC:rS G fC eI d' h aX bF a0)(ac:t<=k)(ah:∀aa,(∀g o,g≠G->g≠d'->a.heap.get? g=W o->aa.get? g=W o)->C aQ {a with heap:=aa}):b9 (cq prog j) q (nO<|.ref G) C as a:=by have cK:a.TypeIs (.ref G) "zip":=⟨_,c.1,U⟩;refine bj<|ts<|or (name:=ho "__next__") cK Dy (k7 Dy cK OU (abZ (q:=q.in1) cJ c aC ac λaa i aS bp=>?_)<|OV _);exact br bp λo aP az=>bj<|q5 (T:="StopIteration") (b:=Z) ⟨o,aP,az⟩ GR<|cN<|ah _ aS
end
end
section
section
variable{prog:cl}{j:b7}{q:bY}{a v:ag}
inductive s0(prog:cl)(j:b7)(q:bY)(b8:bB)(p:List aq)(bA:List bh)(am:ag)(ai:aq)(bF a0:List aq)(bQ:List Nat)(St:Nat->ag->Prop)(kX:ag->Prop):Prop|mk(fS:∀b∈a0,b∈bF)(fT:∀k a v p c6,St k a->a9 p c6 a v->(∀b∈p,b∉bF)->(∀s∈c6,s∉bQ)->St k v)(gy:∀a v p c6,kX a->a9 p c6 a v->(∀b∈p,b∉bF)->(∀s∈c6,s∉bQ)->kX v)(jI:∀k f(a:ag)(C:al->ag->Prop),bA[k]?=W f->St k a->(∀u v,(∀bu jN,(∀b∈bu,b<a.heap.objs.size/\(b∈p\/b∈a0\/am.heap.objs.size<=b))->a9 bu jN am a->tW b8 v.heap bu f u)->St (k+1) v->a9 a0 bQ a v->C u v)->Y prog j q (nO<|.ref ai) (λy an=>∃u,y=W u/\Y prog j q (zw b8 (.ref ai) u) (λw am=>C u am) an) a)(lm:∀(a:ag)(C:Option al->ag->Prop),St bA.length a->(∀v,a9 a0 bQ a v->kX v->C aQ v)->Y prog j q (nO<|.ref ai) C a)(nZ:∀k(a:ag)(C:al->ag->Prop),St k a->C (.ref ai) a->Y prog j q (nb<|.ref ai) C a):s0 prog j q b8 p bA am ai bF a0 bQ St kX
theorem mp.CE{b8:bB}{p:List aq}{bA:List bh}{am:ag}{ai:aq}{bF a0:List aq}{bQ:List Nat}{St:Nat->ag->Prop}(cZ:mp prog j q b8 p bA am ai bF a0 bQ St):s0 prog j q b8 p bA am ai bF a0 bQ St (λw=>True):=⟨cZ.1,cZ.2,λw w w w w w w w=>trivial,cZ.3,λa C st ah=>cZ.4 a C st λv s=>ah v s trivial,cZ.5⟩
inductive Ko(prog:cl)(j:b7)(q:bY)(b8:bB)(S K:Nat)(j':List aq)(kQ:List Nat)(p cb:List aq)(bA:List bh)(am:ag)(ai:aq)(bF a0:List aq)(bQ:List Nat)(St:Nat->ag->Prop)(kX:ag->Prop):Prop|mk(fS:s0 prog j q b8 p bA am ai bF a0 bQ St kX)(fT:St 0 am)(gy:∀b∈a0,S<=b\/b∈j')(jI:∀s∈bQ,K<=s\/s∈kQ)(lm:∀s∈bQ,s<am.gens.size)(nZ:∀b∈bF,b<am.heap.objs.size/\b∉cb):Ko prog j q b8 S K j' kQ p cb bA am ai bF a0 bQ St kX
theorem Eb.CE{b8:bB}{S K:Nat}{j':List aq}{kQ:List Nat}{p cb:List aq}{bA:List bh}{an am:ag}{ai:aq}{bF a0:List aq}{bQ:List Nat}{St:Nat->ag->Prop}(aT:Eb prog j q b8 S K j' kQ p cb bA an am ai bF a0 bQ St):Ko prog j q b8 S K j' kQ p cb bA am ai bF a0 bQ St (λw=>True):=⟨aT.1.CE,aT.2,aT.4,aT.5,aT.6,aT.7⟩
theorem ab3{b8:bB}{p:List aq}{bA:List bh}{am:ag}{ai:aq}{bF a0:List aq}{bQ:List Nat}{St:Nat->ag->Prop}{kX:ag->Prop}{n:Env}{dk:bB}{dJ:List kI}{a6:c4}{aj:Pos}{z:Nat}{b6:al}{s:kI}{b_:gb->ag->Prop}(aK:dJ[z]?=W s)(bC:s.target=b8)(aO:s.is_async=0)(af:s.ifs.length<=1)(ap:∀bX,dJ[z+1]?=W bX->bX.is_async=0)(cZ:s0 prog j q b8 p bA am ai bF a0 bQ St kX)(ae:Nat->ag->Prop)(oH:∀k f bV a u,bA[k]?=W f->ae k bV->St k bV->(∀bu jN,(∀b∈bu,b<bV.heap.objs.size/\(b∈p\/b∈a0\/am.heap.objs.size<=b))->a9 bu jN am bV->tW b8 a.heap bu f u)->St (k+1) a->a9 a0 bQ bV a->Y prog j q (do assign s.target n u;pp dk dJ a6 aj z b6 n s.ifs) (λw v=>ae (k+1) v/\St (k+1) v) a)(qr:∀bV a,ae bA.length bV->a9 a0 bQ bV a->kX a->b_ .next a)(dx:ae 0 a)(f4:St 0 a):d2 prog j q (.compLoop (.ListComp dk dJ a6 aj) z (.ref ai) b6 n) b_ a:=by
 subst bC;refine d2.loop U U (λl a=>∃k,k<=bA.length/\l=bA.length-k/\ae k a/\St k a) ?_ bA.length<|p8 0 (eJ _) U dx f4;rintro l a⟨k,ac,rfl,dx,L⟩;refine Y.onRaise<|Y.eq (Qw aK aO af ap ..)<|dV<|Y.bind ?_;rcases pZ k bA.length with cP|j6
 .refine Y.mono (cZ.4 k bA[k] a (λu v=>Y prog j q (do assign s.target n u;pp dk dJ a6 aj z b6 n s.ifs) (λw v=>ae (k+1) v/\St (k+1) v) v) (fG cP) L λu an aM fm aL=>oH k _ a an u (fG cP) dx L aM fm aL) ?_;rintro y an⟨u,rfl,E⟩;refine hi E λw am E=>?_;have i:(do assign s.target n u;pp dk dJ a6 aj z b6 n s.ifs;again (.compLoop (.ListComp dk dJ a6 aj) z (.ref ai) b6 n):Sem Fin)=((do assign s.target n u;pp dk dJ a6 aj z b6 n s.ifs)>>=λw=>again<|.compLoop (.ListComp dk dJ a6 aj) z (.ref ai) b6 n):=by simp only[bind_assoc]
  exact V i<|hi E λI am bg=>Y.pure<|.inl ⟨U,(dj (bA.length-(k+1)) (oF (.t .x .y) [.l .z<|.a .y .w,.e (.a .x<|.o .w) .z] U (f2 _ _)<|eN<|c3 (.l (.o .x) .y) [.t .x .y] U cP)<|p8 (k+1) cP U bg.1 bg.2)⟩
 .obtain rfl:k=bA.length:=w6 ac j6;exact cZ.5 a _ L λan aL bp=>Y.pure<|qr a an dx aL bp
end
variable{g:dw}{z:Nat}{Q:c4}{A:b0}{n:Env}{p N aF:List aq}{S:Nat}{q:bY}{a v:ag}{f:Str}{u:bh}{dJ:List kI}{dk:bB}{a6:c4}{aj:Pos}{aD:Nat}{hs:List bB}{ai:Inv}
def jT(A:b0):Prop:=∀f bx,fo A f bx->∃u,bx=.f u
theorem Sk:∀{aH:List Str}{O:List bh}{A:b0},jT A->jT (qw aH O A)
 |[],bL,A,c=>c|bL::dQ,[],A,c=>c|B::aH,aN::O,A,c=>Sk (aH:=aH) (O:=O) (A:=(B,.f aN)::A) λf u e=>by
  rcases i2 e with⟨_,i⟩|⟨_,e⟩
  .exact⟨aN,i⟩
  .exact c f u e
theorem ab4(c:jT A):jT (lv b8 u A):=by
 refine Jf (H:=jT) (λB r w f aN e=>?_) (λaB l r O w=>Sk c) c;rcases i2 e with⟨_,i⟩|⟨_,e⟩
 .exact⟨_,i⟩
 .exact c _ _ e
theorem jT.aax(c:jT A):∀f u,¬fo A f (.o u):=λf u e=>by refine c5 (c _ _ e) λaN i=>?_;cases i
theorem bw.wQ(r:bw g n p N S A a)(cn:jT A)(co:∀G∈cb,G∈p)(aP:∀G∈cb,G∉b4 n)(s:a9 cb ak a v)(m:fh g v):bw g n p N S A v:=by refine jf r.3 λcV ar af ap bk=>⟨bb r.1 s.2,m,cV,ar.keeps λb m o i=>s.1 b o (λe=>aP b e m) i,λf bx R=>br (af f bx R) λu aM y=>c5 (cn f bx R) λaN dv=>?_,ap,bk⟩;obtain rfl:=dv;exact⟨u,aM,y.own (cb:=cb) co (λe=>e.elim) λb o m i=>s.1 b o m i⟩
def pD(g:dw)(z:Nat)(q:bY)(Q:c4)(ai:Inv)(dJ:List kI)(dk:bB)(a6:c4)(aj:Pos)(aD:Nat)(hs:List bB)(A:b0)(lw:List bh):Prop:=∀(n:Env)(p N aF:List aq)(S:Nat)(aC:aq),eK z q->n.scope=Q->cM g n p N aF S->aC∈N->jT A->∀(b5:List bh)(a:ag),b5.length+lw.length<=cI->bw g n p N S A a->ai.At g n p N a->AccAt a.heap p aC b5->∀C:Unit->ag->Prop,(∀v,a9 ([aC,n.locals]++ai.W) ai.G a v->bw g n p N S A v->ai.At g n p N v->AccAt v.heap p aC (b5++lw)->C () v)->Y g.prog g.w q (pp dk dJ a6 aj aD (.ref aC) n hs) C a
theorem Inv.At.off(c:ai.At g n p N a)(M:cM g n p N aF S){cb:List aq}(s:a9 cb [] a v)(dK:∀b∈cb,b∈N\/b∈b4 n):ai.At g n p N v:=c.it s (λb m=>(dK b m).elim (λe=>⟨(M.5 b e).1,λj=>(c.2 b j).2.1 e⟩) λe=>⟨(M.4 b e).1,λj=>(c.2 b j).2.2.1 e⟩) aW
theorem pD.of(c:jo g z Q dJ dk a6 aj aD hs A lw):pD g z q Q ai dJ dk a6 aj aD hs A lw:=λn p N aF S aC ax L M de cn b5 a ab r ac b6 C ah=>c q n p N aF S aC ax L M de cn.aax b5 a ab r b6 C λv s bn go=>ah v (s.mono (λb m=>b3 m) aW) bn (ac.off M s λb m=>dH m (λe=>.inl<|e▸de) λe=>.inr<|bm e▸bz) go
theorem Sl{aD:Nat}{s:kI}{bA:List bh}{ds:List<|List bh}{aC:aq}{b5:List bh}{cg:ag}{dp:aq}{bF a0:List aq}{bQ:List Nat}{St:Nat->ag->Prop}{kX:ag->Prop}{b_:gb->ag->Prop}(aK:dJ[aD]?=W s)(aO:s.is_async=0)(af:s.ifs.length<=1)(ap:∀bX,dJ[aD+1]?=W bX->bX.is_async=0)(ax:eK z q)(L:n.scope=Q)(kb:AllP (λf o=>mV Z Q s.target f/\t3 s.target f A/\pD g z q Q ai dJ dk a6 aj aD s.ifs (lv s.target f A) o) bA ds)(M:cM g n p N aF S)(de:aC∈N)(cn:jT A)(cZ:s0 g.prog g.w q s.target p bA cg dp bF a0 bQ St kX)(lx:∀k∈bQ,g.s0.gens.size<=k/\k∉ai.G)(qM:∀b∈a0,b∈p/\b∉b4 n/\g.s0.heap.objs.size<=b)(kx:∀b∈bF,b≠aC/\b≠n.locals/\b∉ai.W)(r:bw g n p N S A a)(ac:ai.At g n p N a)(b6:AccAt a.heap p aC b5)(ab:b5.length+ds.flatten.length<=cI)(ce:a9 [] [] cg a)(st:St 0 a)(iD:∀v,a9 (a0++([aC,n.locals]++ai.W)) (bQ++ai.G) a v->bw g n p N S A v->ai.At g n p N v->AccAt v.heap p aC (b5++ds.flatten)->kX v->b_ .next v):d2 g.prog g.w q (.compLoop (.ListComp dk dJ a6 aj) aD (.ref dp) (.ref aC) n) b_ a:=by
 have vo:aC∈p:=(M.5 aC de).1;have Jh:aC∉b4 n:=λe=>(M.4 aC e).2.2.1 de;have qx:aC∉a0:=λe=>(kx aC<|cZ.1 aC e).1 U;have tX:∀b∈a0++([aC,n.locals]++ai.W),b∈p:=λb m=>by
  refine bN m (λe=>?_) λe=>?_
  .exact(qM b e).1
  refine bN e (λe=>?_) λe=>?_
  .rcases fR.mp e with rfl|e
   .exact vo
   .exact(bm e)▸(M.4 _ bz).1
  .exact(ac.2 b e).1
 refine ab3 aK U aO af ap cZ (λk E=>a9 (a0++([aC,n.locals]++ai.W)) (bQ++ai.G) a E/\bw g n p N S A E/\ai.At g n p N E/\AccAt E.heap p aC (b5++(ds.take k).flatten)) ?_ ?_ ⟨bJ.refl ..,r,ac,by simpa using b6⟩ st
 .rintro k f qy E u R ek sG aM oS gN;refine lg ek λdT d8 eM dO=>?_;have Kp:k<ds.length:=kb.1▸(k'.mp R).1;refine eQ (kb.2 k f ds[k] R<|fG Kp) λfX gY jO=>?_;have bC:mV Z n.scope s.target f:=L▸fX;refine Y.bind<|AR ax.1 M (d8.wQ cn (λG ab=>(qM G ab).1) (λG ab=>(qM G ab).2.1) gN<|d8.2.toG gN (λG ab=>(qM G ab).2.2) λk ac=>(lx k ac).1) (aM p _ (λb m=>⟨cw (M.8 b m) d8.1,.inl m⟩)<|(ce.mono aW aW).trans<|dT.mono tX λw c=>c) bC λiI aL dS=>?_;have cL:(b5++(ds.take k).flatten).length+ds[k].length<=sizeLine:=by
   refine bb ?_ ab;have i:ds.flatten=(ds.take k).flatten++(ds[k]++(ds.drop<|k+1).flatten):=by
    conv=>lhs;rw[<-xf k ds]
    exact V z3<|V (Do Kp)<|V jA U
   refine V i ?_;simp only[gU];exact oF (.l (.a (.a .x .y) .z)<|.a .x<|.a .y<|.a .z .w) [] U
  refine jO n p N aF S aC ax L M de (ab4 cn) _ iI cL dS ((eM.it gN (λb m=>⟨(qM b m).1,(kx b<|cZ.1 b m).2.2⟩) λk ac=>(lx k ac).2).off M aL λb m=>.inr<|xP _ m) ((dO.to (cb:=a0) (λb o m i=>gN.1 b o m i) (λG ab=>(qM G ab).1) qx).to (cb:=[n.locals]) (λb o m i=>aL.1 b o m i) (λG ab=>bm ab▸(M.4 _ bz).1)<|λe=>Jh<|bm e▸bz) _ λn5 a_ ky ya vp=>⟨⟨?_,ky.le λB bx c=>gY B bx c,ya,?_⟩,?_⟩
  .exact(dT.trans<|gN.mono (λb m=>b3 m) λw c=>b3 c).trans<|(aL.mono (λb m=>bO<|b3<|mt m) aW).trans<|a_.mono (λb m=>bO m) λw c=>bO c
  .have i:(ds.take<|k+1).flatten=(ds.take k).flatten++ds[k]:=by refine V zX<|V (fG Kp)<|V z3 ?_;simp
   exact V i<|b' (rc ..) vp
  .refine cZ.2 _ _ _ ([aC,n.locals]++ai.W) ai.G oS ((aL.mono (λb m=>b3<|mt m) aW).trans a_) (λb m e=>bN m (λm=>?_) λm=>?_)<|λk ac e=>(lx k e).2 ac
   .rcases fR.mp m with rfl|m
    .exact(kx _ e).1 U
    .exact(kx b e).2.1<|bm m
   .exact(kx b e).2.2 m
 .rintro qy E gF gN bp;refine lg gF λdT d8 eM dO=>?_;refine iD E (dT.trans<|gN.mono (λb m=>b3 m) λw c=>b3 c) (d8.wQ cn (λG ab=>(qM G ab).1) (λG ab=>(qM G ab).2.1) gN<|d8.2.toG gN (λG ab=>(qM G ab).2.2) λk ac=>(lx k ac).1) (eM.it gN (λb m=>⟨(qM b m).1,(kx b<|cZ.1 b m).2.2⟩) λk ac=>(lx k ac).2) ?_ bp;have i:ds.take bA.length=ds:=kb.1▸xb;rw[i]at dO;exact dO.to (cb:=a0) (λb o m i=>gN.1 b o m i) (λG ab=>(qM G ab).1) qx
end
section
def Kq(prog:cl)(j:b7)(q:bY)(b8:bB)(S K:Nat)(j':List aq)(kQ:List Nat)(p cb:List aq)(bA:List bh)(kX:ag->Prop)(g:al)(an:ag):Prop:=∀C:al->ag->Prop,(∀ai am bF a0 bQ St,a9 [] [] an am->Ko prog j q b8 S K j' kQ p cb bA am ai bF a0 bQ St kX->C (.ref ai) am)->Y prog j q (nb g) C an
variable{g:dw}{z:Nat}{Q:c4}{A:b0}{n:Env}{p N aF:List aq}{S:Nat}{q:bY}{a v:ag}{f:Str}{u:bh}{a4:al}{dJ bQ:List kI}{dk:bB}{a6:c4}{aj:Pos}{aD:Nat}{hs:List bB}{ai:Inv}{s:kI}{bA:List bh}{ds:List<|List bh}{b8 i:bB}
def vU(g:dw)(z:Nat)(q:bY)(Q:c4)(ai:Inv)(A:b0)(b8 i:bB)(bA:List bh):Prop:=∀(n:Env)(p N aF:List aq)(S K:Nat)(a:ag),eK z q->n.scope=Q->cM g n p N aF S->bw g n p N S A a->ai.At g n p N a->K<=a.gens.size->∀C:al->ag->Prop,(∀a4 v,a9 ai.W ai.G a v->fh g v->(∀bu,(∀b∈p,b∈bu)->(∀b∈bu,b∈p\/a.heap.objs.size<=b)->ai.At g n bu N v)->Kq g.prog g.w q b8 S K [] [] p p bA (λw=>True) a4 v->C a4 v)->Y g.prog g.w q (dD i n) C a
theorem vU.of(c:mX g z Q A b8 i bA):vU g z q Q ai A b8 i bA:=λn p N aF S K a ax L M r ac qI C ah=>c q n p N aF S K ax L M a C ⟨r,qI⟩ λa4 v s aM=>ah a4 v (s.mono aW aW) (r.2.to s aW) (λbu e4 gM=>(ac.wide e4 gM).it s aW aW) λC ah=>aM C λdp am bF a0 bQ St aT=>ah dp am bF a0 bQ St aT.3 aT.CE
theorem mX.list(c:ae g z Q A i l<|.lst aH)(aS:l≠.ls)(bC:QX b8 aH):mX g z Q A b8 i aH:=λq n p N aF S K ax L M a C r ah=>let r:=r.1
 (c.gQ aS) q n p N aF S ax L M a C r λa4 v s aM=>ah a4 v s<|QS (r.grow s).1 ax.1 (λb m=>cw (M.8 b m) (r.grow s).1) (by refine ni aM λh O t i a7 aK av=>?_;exact⟨h,O,t,i,a7,aK,av⟩) bC
theorem Inv.At.narrow{bu:List aq}(c:ai.At g n bu N v)(ab5:ai.At g n p N a)(co:∀b∈p,b∈bu)(G:a.heap.objs.size<=v.heap.objs.size):ai.At g n p N v:=⟨ai.mono _ _ _ c.1 λb m=>.inl<|co b m,λb m=>kK (ab5.2 b m) λdT d8 dO eM gg=>⟨dT,d8,dO,eM,cw gg G⟩,c.3⟩
theorem bw.zB(r:bw g n p N S A a)(cn:jT A)(co:∀G∈cb,G∈p)(aP:∀G∈cb,G∉b4 n)(s:a9 cb ak a v)(m:fh g v)(bS:∀b∈a0,a.heap.objs.size<=b):bw g n (a0++p) N v.heap.objs.size A v:=by refine jf r.3 λcV ar af ap bk=>⟨dA _,m,cV,ar.keeps λb m o i=>s.1 b o (λe=>aP b e m) i,λf bx R=>br (af f bx R) λu aM y=>c5 (cn f bx R) λaN bP=>?_,ap,bk⟩;obtain rfl:=bP;exact⟨u,aM,cf.to (λb o m i=>⟨s.1 b o (λe=>m<|co b e) i,by refine g2 mb<|g2 not_or ?_;exact⟨λe=>cd (dB i)<|bS b e,m⟩⟩) _ _ y⟩
theorem AccAt.wide(y:AccAt a.heap p aC b5)(s:a9 cb ak a v)(co:∀G∈cb,G∈p)(de:aC∉cb)(bS:∀b∈a0,a.heap.objs.size<=b):AccAt v.heap (a0++p) aC b5:=br y λO r y=>⟨O,r.at λo i=>s.1 _ o de i,bW.to (λb o m i=>⟨s.1 b o (λe=>m<|co b e) i,by refine g2 mb<|g2 not_or ?_;exact⟨λe=>cd (dB i)<|bS b e,m⟩⟩) _ _ y⟩
theorem pD.next(aK:dJ[aD+1]?=W s)(aO:s.is_async=0)(af:s.ifs.length<=1)(ap:∀bX,dJ[aD+2]?=W bX->bX.is_async=0)(bg:sH s.iter)(ac:vn g z Q A hs Z)(gB:vU g z q Q ai A s.target s.iter bA)(kb:AllP (λf o=>mV Z Q s.target f/\t3 s.target f A/\pD g z q Q ai dJ dk a6 aj (aD+1) s.ifs (lv s.target f A) o) bA ds):pD g z q Q ai dJ dk a6 aj aD hs A ds.flatten:=by intro n p N aF S aC ax L M de cn b5 a ab r Sm b6 C ah;refine Y.bind<|ac.tU ax L M r λan aL=>?_;refine tN U<|V aK ?_;have c_:=(r.grow aL).now;have h4:=M.up (c0:=an.heap.objs.size) (r.grow aL).1;have s1:ai.At g n p N an:=Sm.it aL (λw e=>dt e) λw e=>dt e;refine Y.bind<|gB n p N aF _ an.gens.size an ax L h4 c_ s1 (dA _) _ λa4 am a_ Sn J0 qz=>?_;have dS:bw g n p N an.heap.objs.size A am:=c_.wQ cn (λG ab=>(s1.2 G ab).1) (λG ab=>(s1.2 G ab).2.2.1) a_ Sn;refine dV<|Y.eq (V (bg ..) U) ?_;refine eo<|d6<|qz _ λdp cg bF a0 bQ St ce aT=>?_;have Br:g.s0.heap.objs.size<=an.heap.objs.size:=c_.2.1.2;have AT:an.heap.objs.size<=cg.heap.objs.size:=bb a_.2 ce.2;have fq:∀b∈a0,an.heap.objs.size<=b/\b<cg.heap.objs.size:=λb m=>⟨(aT.3 b m).elim id<|λe=>dt e,(aT.6 b<|aT.1.1 b m).1⟩;have mW:∀k∈bQ,an.gens.size<=k:=λk ac=>(aT.4 k ac).elim id λe=>dt e;have ub:a9 ai.W ai.G an cg:=a_.trans<|ce.mono (λw e=>dt e) λw e=>dt e;have ky:bw g n (a0++p) N cg.heap.objs.size A cg:=c_.zB cn (λG ab=>(s1.2 G ab).1) (λG ab=>(s1.2 G ab).2.2.1) ub (Sn.to ce λw e=>dt e) λb m=>(fq b m).1;have ab6:aC∉ai.W:=λe=>(s1.2 aC e).2.1 de;have vp:AccAt cg.heap (a0++p) aC b5:=(b6.grow aL.all).wide ub (λG ab=>(s1.2 G ab).1) ab6 λb m=>(fq b m).1;have ya:ai.At g n (a0++p) N cg:=(J0 (a0++p) (λb m=>bO m) λb m=>bN m (λe=>.inr (fq b e).1) .inl).it ce (λw e=>dt e) λw e=>dt e;have amI:aC<an.heap.objs.size:=h4.8 aC (M.5 aC de).1;have cZ:s0 g.prog g.w q s.target (a0++p) bA cg dp bF a0 bQ St (λw=>True):=⟨aT.1.1,aT.1.2,aT.1.3,λk f a C R st ah=>aT.1.4 k f a C R st λu v aM kR s=>ah u v (λbu jN gM qs=>aM bu jN (λb m=>⟨(gM b m).1,by exact g_ ((gM b m).2) (λe=>bN e (λe=>.inr<|.inl e) .inl) λe=>.inr e⟩) qs) kR s,aT.1.5,aT.1.6⟩;refine Y.bind<|Y.runOwn<|IX aK aO (λC a5=>aT.1.6 0 cg C aT.2 a5)<|Sl aK aO af ap ax L kb (h4.m6 fq Br AT) de cn cZ (λk ac=>⟨bb c_.2.1.4<|mW k ac,λe=>cd (s1.3 k e).2<|mW k ac⟩) (λb m=>⟨b3 m,λe=>cd (h4.8 b (M.4 b e).1) (fq b m).1,bb Br (fq b m).1⟩) (λb m=>⟨λe=>(aT.6 b m).2<|e▸(M.5 aC de).1,λe=>(aT.6 b m).2<|e▸(M.4 _ bz).1,λe=>(aT.6 b m).2 (s1.2 b e).1⟩) ky ya vp ab (bJ.refl ..) aT.2 λv bX bn hH go w=>Y.pure ?_;have j3:a.heap.objs.size<=v.heap.objs.size:=bb aL.2<|bb AT bX.2;refine ah v ?_ (bn.Nc (λb m=>bO m)<|bb r.1 j3) (hH.narrow Sm (λb m=>bO m) j3) ⟨go.choose,go.choose_spec.1,bW.to (λb o m i=>⟨i,λe=>m<|bO e⟩) _ _ go.choose_spec.2⟩;refine((aL.mono (λw c=>dt c) λw c=>dt c).trans<|ub.mono (λb m=>bO m) λw c=>c).hj bX (λb m=>bN m (λe=>.inr<|gz<|bb aL.2 (fq b e).1) .inl) λk ac=>bN ac (λe=>.inr<|ss<|bb aL.4<|mW k e) .inl
inductive Kr(g:dw)(z:Nat)(q:bY)(Q:c4)(ai:Inv)(A:b0)(dk:bB)(s:kI)(bQ:List kI)(a6:c4)(aj:Pos)(bA:List bh)(ds:List<|List bh):Prop|mk(fS:oR a6 Q=Z)(fT:s.is_async=0)(gy:s.ifs.length<=1)(jI:∀bX,(s::bQ)[1]?=W bX->bX.is_async=0)(lm:sH s.iter)(nZ:AllP (λf o=>mV Z (eO a6 Q) s.target f/\t3 s.target f (hQ (eO a6 Q) A)/\pD g z q (eO a6 Q) ai (s::bQ) dk a6 aj 0 s.ifs (lv s.target f<|hQ (eO a6 Q) A) o) bA ds)(vg:ds.flatten.length<=cI):Kr g z q Q ai A dk s bQ a6 aj bA ds
theorem ab7(c:jT A):jT (hQ Q A):=λf bx e=>by obtain⟨_,lV,aa,rfl⟩:=vl e;obtain⟨u,rfl⟩:=c _ _ aa;exact⟨u,U⟩
theorem So(az:g.Ok)(c6:Kr g z q n.scope ai A dk s bQ a6 aj bA ds)(cn:jT A)(gB:cm g.prog g.w q [] [] n (λE=>bw g n p N a.heap.objs.size A E/\a.gens.size<=E.gens.size/\a9 [] [] a E) s.iter<|λE a4=>Kq g.prog g.w q s.target a.heap.objs.size a.gens.size j' kQ p ai.W bA kX a4 E)(xU:∀b∈j',b∈p/\g.s0.heap.objs.size<=b/\b∉b4 n)(Ji:∀k∈kQ,g.s0.gens.size<=k/\k∉ai.G)(ax:eK z q)(M:cM g n p N aF S)(r:bw g n p N S A a)(ac:ai.At g n p N a)(ah:∀aX aC v,(∃aA,v.heap.Ns aX aA)->a9 (j'++ai.W) (kQ++ai.G) a v->a.heap.objs.size<=aX->a.heap.objs.size<=aC->aX≠aC->aX<v.heap.objs.size->AccAt v.heap (aX::aC::p) aC ds.flatten->(∀bu,(∀b∈p,b∈bu)->(∀b∈bu,b∈aX::aC::p)->ai.At g n bu N v)->kX v->fh g v->AF g.prog g.w q pm C (.ref aC) aX v):Y g.prog g.w q (wW (.ListComp dk (s::bQ) a6 aj) a6 n (CT (s::bQ) aj) (newList []) (zx<|s::bQ) (CU (s::bQ) n) pm) C a:=by
 refine Qx (Q6 M r c6.1) c6.2 (λf=>c6.5 n f) ?_;have iH:=r.now;have eL:=M.up (c0:=a.heap.objs.size) r.1;refine gB a _ ⟨iH,dA _,bJ.refl ..⟩ λa4 an aL qz=>qz _ λdp am bF a0 n6 St a_ aT=>(dj dp U λaC aX cU jP=>⟨λC a5=>aT.1.6 0 cU C (aT.1.2 0 am cU [] [] aT.2 jP.3 aW aW) a5,(eQ jP.4 λde fW tR=>?_)⟩);have g6:a.heap.objs.size<=am.heap.objs.size:=bb aL.2 a_.2;have Br:g.s0.heap.objs.size<=a.heap.objs.size:=iH.2.1.2;have AU:am.heap.objs.size<=cU.heap.objs.size:=jP.3.2;have fq:∀b∈a0,(a.heap.objs.size<=b\/b∈j')/\b<am.heap.objs.size:=λb m=>⟨aT.3 b m,(aT.6 b<|aT.1.1 b m).1⟩;have gM:∀b∈aX::aC::(a0++p),b∈p\/a.heap.objs.size<=b:=λb m=>dH m (λi=>.inr<|i▸bb g6 fW) λm=>dH m (λi=>.inr<|i▸bb g6 de) λm=>bN m (λe=>(fq b e).1.elim .inr λG=>.inl (xU b G).1) λe=>.inl e;have AV:∀b∈aX::aC::(a0++p),b<cU.heap.objs.size:=λb m=>dH m (λi=>i▸jP.5.2) λm=>dH m (λi=>i▸jP.5.1) λm=>bN m (λe=>cw (fq b e).2 AU) λe=>cw (eL.8 b e)<|bb g6 AU;have Jj:∀b∈[aC],(a.heap.objs.size<=b\/(b∈p/\g.s0.heap.objs.size<=b/\b∉b4 n))/\b∈aX::aC::(a0++p)/\aX≠b:=λb e=>(bm e).symm▸⟨.inl<|bb g6 de,mt bz,iA tR⟩;have Jk:cM g (q6 a6 (hb n a6.names []) aX n) (aX::aC::(a0++p)) [aC] g.tabs cU.heap.objs.size:=Q1 az eL c6.1 (bb g6 fW) bz (λb m=>mt<|mt<|bO m) AV Br gM Jj;have ly:a9 [] [] a cU:=(aL.trans a_).trans jP.3;have AW:bw g (q6 a6 (hb n a6.names []) aX n) (aX::aC::(a0++p)) [aC] cU.heap.objs.size (hQ (eO a6 n.scope) A) cU:=Q2 eL iH c6.1 ly (bb g6 fW) jP.2 (dA _) (λb m=>(gM b m).imp id gz) λb e=>.inl<|bm e▸bb g6 de;have b6:AccAt cU.heap (aX::aC::(a0++p)) aC []:=⟨#[],jP.1,by show bW _ _ [] [];exact U⟩;have cZ:s0 g.prog g.w q s.target (aX::aC::(a0++p)) bA am dp bF a0 n6 St kX:=⟨aT.1.1,aT.1.2,aT.1.3,λk f a C R st ah=>aT.1.4 k f a C R st λu v aM kR s=>ah u v (λbu jN gM qs=>aM bu jN (λb m=>⟨(gM b m).1,by exact g_ ((gM b m).2) (λe=>dH e (λi=>.inr<|.inr<|i▸fW) λe=>dH e (λi=>.inr<|.inr<|i▸de) λe=>bN e (λe=>.inr<|.inl e) .inl) λe=>.inr e⟩) qs) kR s,aT.1.5,aT.1.6⟩;have pn:∀b∈b4<|q6 a6 (hb n a6.names []) aX n,b=aX\/b∈b4 n:=λb m=>by
  refine dH m (λe=>?_) λe=>?_
  .exact .inl e
  .exact mg e λr aZ e_=>b' e_<|.inr<|sv<|t0 a6.names [] aW r aZ
 have ab8:ai.At g (q6 a6 (hb n a6.names []) aX n) (aX::aC::(a0++p)) [aC] cU:=by have hH:ai.At g n (aX::aC::(a0++p)) N cU:=(ac.wide (λb m=>mt<|mt<|bO m) gM).it ly aW aW;refine⟨hH.1,λb m=>kK (hH.2 b m) λdT d8 dO eM gg=>?_,hH.3⟩;have cP:=(ac.2 b m).2.2.2.2;exact⟨dT,λe=>cd cP<|bm e▸bb g6 de,λe=>(pn b e).elim (λe=>cd cP<|e▸bb g6 fW) dO,eM,gg⟩
 have ab:([]:List bh).length+ds.flatten.length<=sizeLine:=by simpa using c6.7
 refine Sl (g:=g) (z:=z) (Q:=eO a6 n.scope) (A:=hQ (eO a6 n.scope) A) (aF:=g.tabs) (s:=s) (bA:=bA) (ds:=ds) (b5:=[]) (cg:=am) (bF:=bF) (a0:=a0) (St:=St) U c6.2 c6.3 c6.4 ax U c6.6 Jk bz (ab7 cn) cZ (λk gp=>(aT.4 k gp).elim (λe=>⟨bb iH.2.1.4 e,λdg=>cd (ac.3 k dg).2 e⟩)<|Ji k) (λb m=>⟨mt<|mt<|b3 m,λe=>(pn b e).elim (λe=>cd (fq b m).2<|e▸fW) λe=>(fq b m).1.elim (λG=>cd (eL.8 b (eL.4 b e).1) G) λG=>(xU b G).2.2 e,(fq b m).1.elim (bb Br) λG=>(xU b G).2.1⟩) (λb m=>⟨λe=>cd (aT.6 b m).1<|e▸de,λe=>cd (aT.6 b m).1<|e▸fW,(aT.6 b m).2⟩) AW ab8 b6 ab jP.3 (aT.1.2 0 am cU [] [] aT.2 jP.3 aW aW) λv bX bn hH go bp=>?_;refine br bn.3 λcV ar w=>br ar.2 λaA bt w=>ah aX aC v (oE aA bt) ?_ (bb g6 fW) (bb g6 de) (iA tR) (cw jP.5.2 bX.2) ?_ ?_ bp bn.2
 .exact(ly.mono aW aW).hj bX (λb m=>bN m (λe=>(fq b e).1.elim (λG=>.inr<|gz G) λG=>.inl<|b3 G) λe=>bN e (λe=>dH e (λi=>.inr<|gz<|i▸bb g6 de) λe=>.inr<|gz<|(bm e)▸bb g6 fW) λe=>.inl<|bO e) λk ac=>bN ac (λac=>(aT.4 k ac).elim (λe=>.inr<|ss e) λe=>.inl<|b3 e) λe=>.inl<|bO e
 .refine br go λO aZ av=>?_;have lQ:∀b∈aX::aC::p,b∈aX::aC::(a0++p):=λb e=>by
   refine dH e (λi=>?_) λe=>?_
   .exact V i bz
   refine dH e (λi=>?_) λe=>?_
   .exact V i<|mt bz
   .exact mt<|mt<|bO e
  exact⟨O,aZ,bW.to (λb o m i=>⟨i,λe=>m<|lQ b e⟩) _ _ (by simpa using av)⟩
 .intro bu e4 ab9;refine⟨ai.mono _ _ _ hH.1 λb m=>.inl<|g_ (fR.mp<|ab9 b m) (λe=>?_) λe=>?_,λb m=>kK (ac.2 b m) λdT d8 dO eM gg=>⟨e4 _ dT,d8,dO,eM,cw gg<|bb ly.2 bX.2⟩,hH.3⟩
  .exact V e bz
  refine dH e (λe=>?_) λe=>?_
  .exact V e<|mt bz
  .exact mt<|mt<|bO e
end
theorem ab_(h b:al):DG "zip" ⟨[.type "zip",h,b],[]⟩=pure (.type "zip",[h,b]):=by unfold DG;rfl
section
theorem ab'{y h:aq}{s t:Nat}{E aN u:Tok}(av:q7 a.heap y 0 t 1 E aN u)(ay:t<2^62)(aK:a.heap.IsGen h s)(ej:bY)(mY:al->ag->Prop)(b_:C5->ag->Prop)(iD:∀aa,pY aa (a.heap.objs.size+3) (a.heap.objs.size+1) (a.heap.objs.size+2) .none->l_ aa (a.heap.objs.size+1) (.ref a.heap.objs.size) (.ref h)->l_ aa (a.heap.objs.size+2) .none .none->ov aa a.heap.objs.size 0 t 1->aa.objs.size=a.heap.objs.size+4->(∀b o,a.heap.get? b=W o->aa.get? b=W o)->b_ (.done<|.ret<|.ref<|a.heap.objs.size+3) {a with heap:=aa}):b9 (cq prog j) ej (Oy ⟨[.type "zip",.ref y,.ref h],[]⟩) b_ mY a:=by
 unfold Oy;refine mM (ab_ _ _) ?_;try dsimp only
 refine oD (by simp)<|bj (m:=H1 [fl y,fl h]) ?_;unfold H1;simp only[tA,z2];have dW:rk 0 t 1=t:=D7 t;have mj:(t:Int)<2^62:=by exact_mod_cast ay
 refine bj<|bj<|ko<|GN av (CW bd bd (cy (.b3 (.g<|.n 4611686018427387904)<|.c .x) [] U) mj)<|cN<|dW.symm▸?_;have Ks:(a.heap.push {cls:=.type "range_iterator",data:=.fields #[hv 0,hv t,hv 1]}).objs.size=a.heap.objs.size+1:=fZ ..;have Kt:ov (a.heap.push {cls:=.type "range_iterator",data:=.fields #[hv 0,hv t,hv 1]}) a.heap.objs.size 0 t 1:=fc _ U;have cR:∀b o,a.heap.get? b=W o->(a.heap.push {cls:=.type "range_iterator",data:=.fields #[hv 0,hv t,hv 1]}).get? b=W o:=λb o i=>eD _ i;generalize(a.heap.push {cls:=.type "range_iterator",data:=.fields #[hv 0,hv t,hv 1]})=bo at*;have Au:bo.IsGen h s:=by refine xs aK λo nm A5 aP y=>?_;exact⟨o,nm,A5,cR _ _ aP,y⟩
 refine bj<|ko<|wpAny_pyIter_gen (s:={a with heap:=bo}) Au<|cN<|cN<|cN<|bj (m:=newTuple [fl a.heap.objs.size,fl h])<|zE<|bj (m:=newTuple [oB,oB])<|zE<|bj (m:=DH (kJ "zip") _) ?_;unfold DH;refine jd (cN ?_) (by show Array.size _<=cI+2;refine V xc ?_;exact bb (show _<=10 by simp[WQ]) bd);have vM:(bo.push {cls:=.type "tuple",data:=.seq #[fl a.heap.objs.size,fl h]}).objs.size=a.heap.objs.size+2:=V (fZ ..)<|V Ks U;have Ku:((bo.push {cls:=.type "tuple",data:=.seq #[fl a.heap.objs.size,fl h]}).push {cls:=.type "tuple",data:=.seq #[.none,.none]}).objs.size=a.heap.objs.size+3:=V (fZ ..)<|V vM U;have il:l_ (bo.push {cls:=.type "tuple",data:=.seq #[fl a.heap.objs.size,fl h]}) (a.heap.objs.size+1) (.ref a.heap.objs.size) (.ref h):=by exact b' Ks<|fc _ U
 have ii:∀b o,bo.get? b=W o->(bo.push {cls:=.type "tuple",data:=.seq #[fl a.heap.objs.size,fl h]}).get? b=W o:=λb o i=>eD _ i;show b_ (.done<|.ret<|.ref ((bo.push {cls:=.type "tuple",data:=.seq #[fl a.heap.objs.size,fl h]}).push {cls:=.type "tuple",data:=.seq #[.none,.none]}).objs.size) {a with heap:=(((bo.push {cls:=.type "tuple",data:=.seq #[fl a.heap.objs.size,fl h]}).push {cls:=.type "tuple",data:=.seq #[.none,.none]}).push {cls:=.type "zip",data:=.fields #[.none,.bool a1,.bool a1,.ref bo.objs.size,.ref (bo.push {cls:=.type "tuple",data:=.seq #[fl a.heap.objs.size,fl h]}).objs.size]})};refine Ku.symm▸Ks.symm▸vM.symm▸?_;generalize(bo.push {cls:=.type "tuple",data:=.seq #[fl a.heap.objs.size,fl h]})=bE at*;have lY:l_ (bE.push {cls:=.type "tuple",data:=.seq #[.none,.none]}) (a.heap.objs.size+2) .none .none:=vM▸fc _ U;have Kv:∀b o,bE.get? b=W o->(bE.push {cls:=.type "tuple",data:=.seq #[.none,.none]}).get? b=W o:=λb o i=>eD _ i;generalize(bE.push {cls:=.type "tuple",data:=.seq #[.none,.none]})=ml at*;have EQ:∀(f:Obj)b o,ml.get? b=W o->(ml.push f).get? b=W o:=λf b o i=>eD _ i;exact iD _ (b' Ku<|fc _ U) (EQ _ _ _<|Kv _ _ il) (EQ _ _ _ lY) (EQ _ _ _<|Kv _ _<|ii _ _ Kt) (V (fZ ..)<|V Ku U) λb o i=>EQ _ _ _<|Kv _ _<|ii _ _<|cR _ _ i
theorem aca{y h:aq}{s t:Nat}{E aN u:Tok}{C:al->ag->Prop}(av:q7 a.heap y 0 t 1 E aN u)(ay:t<2^62)(aK:a.heap.IsGen h s)(c:∀aa,pY aa (a.heap.objs.size+3) (a.heap.objs.size+1) (a.heap.objs.size+2) .none->l_ aa (a.heap.objs.size+1) (.ref a.heap.objs.size) (.ref h)->l_ aa (a.heap.objs.size+2) .none .none->ov aa a.heap.objs.size 0 t 1->aa.objs.size=a.heap.objs.size+4->(∀b o,a.heap.get? b=W o->aa.get? b=W o)->C (.ref<|a.heap.objs.size+3) {a with heap:=aa}):b9 (cq prog j) q (call (.type "zip") [.ref y,.ref h]) C as a:=by refine GT PySem.F.called_zip bd (PySem.F.typeCall_zip_2 _ _) (PySem.F.newCall_zip_2 _ _) (λnp=>HV np _ _) PySem.F.entry_zip_new (S:=λw b_ v=>v=a/\∀aa,pY aa (a.heap.objs.size+3) (a.heap.objs.size+1) (a.heap.objs.size+2) .none->l_ aa (a.heap.objs.size+1) (.ref a.heap.objs.size) (.ref h)->l_ aa (a.heap.objs.size+2) .none .none->ov aa a.heap.objs.size 0 t 1->aa.objs.size=a.heap.objs.size+4->(∀b o,a.heap.get? b=W o->aa.get? b=W o)->b_ (.ok<|.ret<|.ref<|a.heap.objs.size+3) {a with heap:=aa}) ?_ ⟨U,λaa h b g z i I=>⟨⟨_,h,U⟩,c aa h b g z i I⟩⟩;rintro abc abd ej b_ v⟨rfl,iD⟩;exact ab' av ay aK ej.in1 _ _ iD
end
section
section
variable{prog:cl}{j:b7}{q:bY}{a v:ag}{h aX:aq}{s t aA aD:Nat}{bF a0:List aq}
def ob(I:Nat->Int)(k:Nat)(u:al):Prop:=∃E,u=.int (I k) E
theorem acb(aC:rS G fC eI d' h aX bF a0)(cJ:q.handled=aQ)(av:q.depth<fF)(bt:aD+t<=aA)(am:ag):s0 prog j q (.Tuple aB l hC) p ((c2 t).map λ(k:Nat)=>.tup [.int k,.int<|I<|aD+k]) am G ([G,fC,eI,d']++h::aX::bF) ([G,eI,d']++aX::a0) [s] (λk a=>qL prog j q.in1 G fC eI d' h s aX bF a0 t aA aD (ob I) .none k a) (λa=>jt prog j q.in1 h s aX bF a0 aA (ob I) (aD+t) a):=⟨(λb m=>by
  refine bN m (λe=>?_) λe=>?_
  .refine b3 ?_;simp only[fR,oy,or_false]at e⊢;rcases e with e|e|e<;>simp[e]
  .exact bO<|aC.sub b e),(λk a v cb c6 st hS dK ji=>st.frame aC hS dK λe=>ji s e bz),(λa v cb c6 st hS dK ji=>st.frame aC.8 hS (λb m e=>dK b m<|bO e) λe=>ji s e bz),(λk f a C R st ah=>by
  have ac:k<t:=by simpa using(k'.mp R).1
  rw[fk,mJ ac]at R;obtain rfl:bh.tup [.int k,.int<|I<|aD+k]=f:=d4 R;refine j7<|Y.of<|ab1 st aC av ac (oF (.t (.a .x .y) .z) [.l (.a .x .w) .z,.t .y .w] U bt ac) λaY E u an aM cK acc oS s2 i4=>⟨_,U,(c5 aM λeR nu=>?_)⟩;obtain rfl:=nu;refine Y.of<|wpAny_letOwnedTupleGo_zip oS.1 λaa kC ea=>?_;have ls:a9 [G] [] an {an with heap:=aa}:=bJ.same (x:=an.toks) ea;have jn:∀b∈[fC,eI,d'],∀o,an.heap.get? b=W o->aa.get? b=W o:=λb m o i=>ea.extBut b o (by
   simp only[fR,oy,or_false]at m;rcases m with rfl|rfl|rfl
   .exact aC.1
   .exact aC.2
   .exact aC.3) i;refine lh oS.3 λr e Kf=>ah _ _ (λbu jN gM qs=>?_) ⟨kC,jn fC (bz) _ oS.2,⟨r,e,jn eI (mt bz) _ Kf⟩,jn d' (mt<|mt bz) _ oS.4,oS.5.frame aC.8 ls (λb m e=>aC.7 G (bz)<|bm m▸e) λe=>dt e⟩<|(a9.moved s2 i4).trans<|ls.mono (λb m=>by refine V (bm m) ?_;exact bz) aW;refine⟨_,aY,_,U,U,⟨_,ea.extBut _ _ acc cK,U,0,U⟩,?_⟩;exact⟨_,_,U,⟨E,U⟩,_,_,U,⟨eR,U⟩,U⟩),(λa C st ah=>by
  rw[d3,oz]at st;refine j7<|Y.of<|ab2 cJ st aC (dA _) λaa aS i4=>?_;have ls:a9 [G,d'] [] a {a with heap:=aa}:=bJ.heap (x:=a.toks) (λb o m i=>aS b o (λe=>m (by simp[e])) (λe=>m (by simp[e])) i) i4.1;refine ah _ (ls.mono (λb m=>?_) aW)<|st.5.frame aC.8 ls (λb m e=>aC.7 b ?_ e) λe=>dt e
  .simp only[fR,oy,or_false]at m;rcases m with rfl|rfl<;>simp
  .simp only[fR,oy,or_false]at m;rcases m with rfl|rfl<;>simp),(λk a C st ah=>Y.of<|wpAny_pyIter_zip st.1 ah)⟩
end
variable{g:dw}{z:Nat}{A:b0}{n:Env}{p N aF:List aq}{S:Nat}{q:bY}{a v:ag}{aj dm eY di:Pos}{i:bB}{f:Str}{aB:List bB}{ii:Nat}{hC:Pos}{h aX:aq}{s t aA aD:Nat}{bF a0 cb:List aq}{I:Nat->Int}
theorem acd{H:ag->Prop}(az:g.Ok)(ax:eK z q)(M:cM g n p N aF S)(bM:∀E,H E->bw g n p N S A E/\jt g.prog g.w q.in1 h s aX bF a0 aA (ob I) aD E/\s<E.gens.size/\∀b∈h::aX::bF,b<E.heap.objs.size)(ace:su [] [] H)(bp:cm g.prog g.w q [] [] n H i<|dZ t)(R:cm g.prog g.w q [] [] n H (.Name f di)<|λw a4=>a4=.ref h)(aci:g.gl "range"=W (.type "range"))(acj:g.gl "zip"=W (.type "zip"))(Kw:eA n.scope "range"=Z)(Kx:eA n.scope "zip"=Z)(ay:d0 i=Z)(ab:t<2^62)(bt:aD+t<=aA)(kM:n7 h aX bF a0)(dK:∀b∈h::aX::bF,b∉cb)(ack:∀b∈cb,b<S){K:Nat}{rM:Pos}:cm g.prog g.w q [] [] n H (.Call (.Name "zip" dm) [.Call (.Name "range" eY) [i] [] aj,.Name f di] [] hC) (λE a4=>Kq g.prog g.w q (.Tuple aB ii rM) S K (aX::a0) [s] p cb ((c2 t).map λ(k:Nat)=>.tup [.int k,.int<|I<|aD+k]) (λa=>jt g.prog g.w q.in1 h s aX bF a0 aA (ob I) (aD+t) a) a4 E):=by
 have kS:gL [] [] p H:=⟨ace,λa r f R=>cw (M.8 f R) (bM a r).1.1,aW⟩;have Sp:=hB (A:=A) az M aci Kw;have Sq:=hB (A:=A) az M acj Kx;have pi:cm g.prog g.w q [] [] n H (.Call (.Name "range" eY) [i] [] aj) (λa g=>∃y E aN u,g=.ref y/\q7 a.heap y 0 t 1 E aN u):=by refine kO kS ⟨Sp.1,λa r=>Sp.2 a (bM a r).1⟩ U (hN ay kS bp (ie _) iY) ?_ (by simp[ay]);rintro a aR r bP C ah;exact ei bP λw w cB dv ek=>V cB<|c5 dv λE e9=>V e9<|V ek<|Y.of<|CV<|ah _ _ (bJ.new _ _ a _ _)<|DP _ _ _ _ U<|fc _ U
 have JC:mQ [] [] (λa g=>∃y E aN u,g=.ref y/\q7 a.heap y 0 t 1 E aN u):=by rintro a v be e_ s;exact DM e_ λy E aN u i c=>(DP y E aN u i<|s.1 _ _ (λe=>dt e) c)
 refine kO kS ⟨Sq.1,λa r=>Sq.2 a (bM a r).1⟩ U (hN U kS pi JC<|hN U kS R (λw w w c w=>c) iY) ?_ U;rintro a aR r gX C ah;refine ei gX λw w gF hq iZ=>ei iZ λw w jK kt nt=>V gF<|DM hq λy E aN u hp av=>V hp<|V jK<|V kt<|V nt<|lg (bM a r) λxZ aK pv cP=>Y.of<|aca av ab aK.1 λaa Sr yf EM gB dW aS=>?_;have hS:a9 [] [] a {a with heap:=aa}:=bJ.heap (x:=a.toks) (λb o w i=>aS b o i)<|dW▸iw _ _;have lt':∀b∈h::aX::bF,b<a.heap.objs.size:=cP;have aC:rS (a.heap.objs.size+3) (a.heap.objs.size+1) (a.heap.objs.size+2) a.heap.objs.size h aX bF a0:=by
  refine⟨?_,?_,?_,?_,?_,?_,λb m e=>?_,kM⟩;all_goals first|(show@Ne Nat _ _;lia)|skip
  have dR:a.heap.objs.size<=b:=by simp only[fR,oy,or_false]at m;rcases m with rfl|rfl|rfl|rfl<;>(show@LE.le Nat _ _ _;(first|exact iw ..|exact dA _|exact kl _))
  exact cd (lt' b e) dR
 refine ah _ _ hS λC ah=>Y.of<|wpAny_pyIter_zip Sr<|ah _ _ _ _ _ _ (bJ.refl ..) ⟨acb aC ax.1 (mG (bb (iw _ _) ax.2) bd) bt _,⟨Sr,yf,(j1 _ _ EM),?_,aK.frame kM hS aW λe=>dt e⟩,λb m=>?_,λk ac=>.inr ac,λk ac=>(bm ac)▸pv,λb m=>?_⟩
 .show ov aa _ _ _ 1;exact gB
 .refine bN m (λe=>?_) λe=>?_
  .refine .inl<|bb xZ.1 ?_;simp only[fR,oy,or_false]at e;rcases e with rfl|rfl|rfl<;>(show@LE.le Nat _ _ _;(first|exact iw ..|exact dA _))
  .exact .inr e
 .refine V dW<|bN m (λe=>?_) λe=>?_
  .have dR:a.heap.objs.size<=b/\b<a.heap.objs.size+4:=by simp only[fR,oy,or_false]at e;rcases e with rfl|rfl|rfl|rfl<;>(constructor<;>first|(show@LE.le Nat _ _ _;(first|exact iw ..|exact kl _|exact lM _|lia))|(show@LT.lt Nat _ _ _;omega))
   exact⟨dR.2,λe=>cd (ack b e)<|bb xZ.1 dR.1⟩
  .exact⟨cw (lt' b e)<|iw _ _,dK b e⟩
end
section
def gs(aw:List Int):Prop:=∀j∈aw,0<=j/\j<256
noncomputable def cz(aw:List Int):Array UInt8:=(aw.map λk=>k.toNat.toUInt8).toArray
@[reducible]noncomputable def gh(aw:List Int):bh:=.nE<|cz aw
theorem nC(aw:List Int):(cz aw).size=aw.length:=d3 ..
theorem Ky(c:0<=k/\k<256):((k.toNat.toUInt8).toNat:Int)=k:=by have:k.toNat<256:=pg (.t .x<|.n 256) [.b_ .x<|.n 256,.eG (.c .x) .x] U c.2<|oG c.1;simp[Nat.toUInt8,UInt8.toNat_ofNat',Df this];first|exact G_ c.1|exact Int.max_eq_left c.1|exact c.1
theorem Kz{aw:List Int}{aD:Nat}(c:aD<aw.length):(cz aw)[aD]?=W (aw.getD aD 0).toNat.toUInt8:=by simp[cz,c,fK]
theorem KA{aw:List Int}(m:gs aw){aD:Nat}(c:aD<aw.length):0<=aw.getD aD 0/\aw.getD aD 0<256:=(fK).symm▸(fG c).symm▸m _ (sg c)
section
variable{g:dw}{z:Nat}{Q:c4}{A:b0}{n:Env}{p N aF:List aq}{S:Nat}{q:bY}{a:ag}{i D eS f7:bB}{l:ha}{u:bh}{k:Int}{aj bn di:Pos}{aw:List Int}{b:Array UInt8}
theorem e'.CG(c:e' S p l (.nE b) a a4):∃h,a4=.ref h/\a.heap.get? h=W (cQ b):=by cases l with|fr=>refine fx c λh i ay y=>?_;exact(dj h i y)|b2=>exact fx c λh i w y=>(dj h i y)|ls=>refine br c λh i y=>?_;exact(dj h i y)
theorem KB{aa:eH}(hu:S<=a.heap.objs.size)(aA:lR a.heap aa<|cQ b):e' S p .fr (.nE b) {a with heap:=aa} (.ref a.heap.objs.size):=⟨_,U,hu,aA.1⟩
theorem lR.grow(aA:lR a.heap aa o):a9 [] [] a {a with heap:=aa}:=bJ.heap (x:=a.toks) (λb o w i=>aA.2 b o i)<|aA.3▸kl _
namespace ae
theorem OZ(bo:ae g z Q A eS l<|gh aw)(bE:dd g z Q A f7 k)(aO:0<=k)(R:k.toNat<aw.length)(m:gs aw)(ab:aw.length<=cI)(ac:n2 f7=Z:=by rfl):dd g z Q A (.Subscript eS f7 aj) (aw.getD k.toNat 0):=mo λq n p N aF S ax L M=>tQ M.ok (bo q n p N aF S ax L M) e'.iB (eT bE ax L M) λa fM g5 r az bl=>by refine br (e'.CG az) λh bP aK=>V bP<|c5 bl λE cB=>V cB ?_;intro C ah;exact Y.of<|tE (gV aK) u3.lookup (P3 aK aO (Ao (.b_ .x<|.n 9223372036854775808) [.t .x .y,.l .y .z,.e .z<|.n 16777216,.b3 .x<|.c .x] U R ab U<|ru _) (Kz R)<|(Ky<|KA m R).symm▸ah _ _ (bJ.tok ..) ⟨_,U⟩)<|AB ac _ _
theorem CH(t:p9 g)(c:ae g z Q A i l<|gh aw)(ab:aw.length<2^62)(R:eA Q "len"=Z:=by cbv)(ay:d0 i=Z:=by rfl):dd g z Q A (.Call (.Name "len" di) [i] [] aj) aw.length:=mo λq n p N aF S ax L M=>by subst L;refine kO M.ok (hB t.ok M t.len R) U (hN ay M.ok (c q n p N aF S ax U M) e'.iB iY) ?_ (by simp[ay]);rintro a aR aZ gF;refine ei gF λfM y hq az iZ=>V hq<|V iZ<|br (e'.CG az) λh jK aK=>V jK ?_;intro C ah;refine Y.of<|P0 aK (by refine V (nC ..) ?_;exact cy (.b_ (.c .x)<|.n 9223372036854775808) [.t .x<|.n 4611686018427387904] U ab) ?_;exact V (nC ..)<|ah _ _ (bJ.tok ..) ⟨_,U⟩
theorem aaN{t:Nat}(bo:ae g z Q A eS l<|gh aw)(bE:dd g z Q A D t)(ab:aw.length<=cI):ae g z Q A (.Subscript eS (.Slice (W D) aQ aQ aj) bn) .fr (gh<|aw.drop t):=λq n p N aF S ax L M=>tQ M.ok (bo q n p N aF S ax L M) e'.iB (IR M.ok (lo:=W t) (ac:=aQ) (eT bE ax L M) trivial) λa fM g5 r az bl=>by
  refine br (e'.CG az) λh dv aK=>V dv<|ni bl λbx D2 D3 ek lS n3 IT=>V ek ?_;intro C ah;refine Y.of<|tE (gV aK) u3.lookup (R6 aK lS n3 IT (by refine V (nC ..) ?_;exact ab) ?_) (ops:=[.ref bx,.ref h]) U;have i:xp (cz aw) (W (t:Int)) aQ=cz (aw.drop t):=by
   refine V (KBc.picked_eq ..) ?_;simp only[Nr];refine V (clipAt_nat ..) ?_;have ay:(cz aw).toList.length=aw.length:=d3 ..;refine(nC aw).symm▸g_ (ix t aw.length) (λc=>?_) λc=>?_
   .refine V (Dc c)<|V (uP<|z5.symm▸ay.symm▸dA _) ?_;simp[cz,xe]
   .refine V (Dd c)<|V (z6<|ay.symm▸dA _)<|V (z6 c) ?_;simp[cz]
  exact i.symm▸ah _ _ (bJ.new _ _ a _ a.toks) ⟨_,U,r.1,fc _ U⟩
theorem zD:∀{aw:List Int}{O:List al},gs aw->bW a.heap p (aw.map .int) O->u7 O/\(O.filterMap nX).toArray=cz aw
 |[],O,bL,c=>by have aa:bW a.heap p [] O:=c;exact V aa<|⟨aW,U⟩|k::aw,O,m,c=>by
  have aa:bW a.heap p (.int k::aw.map .int) O:=c;refine ei aa λg aR e9 af ap=>V e9<|c5 af λE hp=>V hp<|cY (zD (λj bS=>m j<|mt bS) ap) λdm eY=>?_;have ac:=m k bz;refine⟨λu aM=>dH aM (λi=>(jg k E i ac.1 ac.2))<|dm u,?_⟩;have acl:aR.filterMap nX=aw.map λk=>k.toNat.toUInt8:=by have:=congrArg Array.toList eY;exact this
  simp[cz,nX,acl]
theorem aaP{e:Pos}(az:g.Ok)(c:ae g z Q A i l<|cS aw)(aK:g.gl "bytearray"=W (.type "bytearray"))(m:gs aw)(ab:aw.length<=cI)(R:eA Q "bytearray"=Z:=by cbv)(ay:d0 i=Z:=by rfl):ae g z Q A (.Call (.Name "bytearray" e) [i] [] aj) .fr (gh aw):=λq n p N aF S ax L M=>by
 subst L;refine kO M.ok (hB az M aK R) U (hN ay M.ok (c q n p N aF S ax U M) e'.iB iY) ?_ (by simp[ay]);rintro a aR aZ kt C ah;refine ei kt λfM y nt jL nu=>V nt<|V nu<|jD jL.kg λh O t sK iX av=>V sK<|cY (zD m av) λdm eY=>?_;have cL:O.toList.length=aw.length:=by have:=av.length;simpa using this
 refine Qb (O:=O.toList) ⟨_,iX,U,t,U⟩ dm (cL▸ab) λaa aA=>?_;rw[eY]at aA;exact ah _ _ aA.grow<|KB aZ.1 aA
theorem aaQ{e:Pos}(az:g.Ok)(c:ae g z Q A i l<|gh aw)(aK:g.gl "bytearray"=W (.type "bytearray"))(ab:aw.length<=cI)(R:eA Q "bytearray"=Z:=by cbv)(ay:d0 i=Z:=by rfl):ae g z Q A (.Call (.Name "bytearray" e) [i] [] aj) .fr (gh aw):=λq n p N aF S ax L M=>by subst L;refine kO M.ok (hB az M aK R) U (hN ay M.ok (c q n p N aF S ax U M) e'.iB iY) ?_ (by simp[ay]);rintro a aR aZ qp C ah;exact ei qp λfM y sL jL sz=>V sL<|V sz<|br (e'.CG jL) λh vu iX=>V vu<|Yf iX (by refine V (nC ..) ?_;exact ab) λaa aA=>ah _ _ aA.grow<|KB aZ.1 aA
end ae
end
end
section
theorem acm:k8 (.type "bytearray") "__getattribute__"=pure (W<|.builtin "bytearray.__getattribute__"):=by refine V (hJ ..)<|V hK ?_;cbv
theorem acn:k8 (.type "bytearray") "__getattr__"=pure aQ:=by refine V (hJ ..)<|V hK ?_;cbv
section
variable{prog:cl}{j:b7}{q:bY}{a:ag}{h:aq}{b:Array UInt8}
theorem Ss(aP:a.heap.get? h=W (cQ b))(c:C (.builtin "bytearray.extend",[.ref h]) a):b9 (cq prog j) q (w3 (.ref h) "extend" n3) C as a:=by have cK:=gV aP;exact bj<|hX cK acm<|bj<|hX cK acn<|bj<|hX cK Iq.lookup<|mM XB<|nU aP<|bj<|l9<|cN c
end
variable{g:dw}{z:Nat}{Q:c4}{A:b0}{n:Env}{p N aF aY:List aq}{S:Nat}{q:bY}{a:ag}{f:Str}{i KC eS:bB}{l:ha}{k aN:Int}{aj di pq Q' xW:Pos}{aw dh:List Int}{ca:List ez}{cu:jq->b0->Prop}
theorem Bs{H:ag->Prop}{ar:ag->al->Prop}(ay:d0 i=Z)(c:cm g.prog g.w q [] [] n H i ar):mR g.prog g.w q [] [] n H [i] (λa aR=>∃a4,aR=[a4]/\ar a a4):=λa C aj aZ ah=>by exact V (kr ay)<|(Y.bind<|c a _ aZ λa4 an aL cR=>eo<|d6<|Y.pure<|Y.pure<|ah _ _ aL<|dj a4 U cR)
namespace bq
theorem aaT(aK:fI A f=W (.o<|gh aw))(R:ht Q f=Z)(bp:ae g z Q A i l<|cS dh)(m:gs dh)(ab:aw.length+dh.length<cI)(c:bq g z Q aY ((f,.o<|gh<|aw++dh)::A) ca cu)(ay:d0 i=Z:=by rfl)(mm:∀n,tx (.Name f di) "extend" n (dD (.Name f di) n)=dD (.Name f di) n:=by exact λw=>U)(i0:(pq.endLine==aj.line)=Z:=by rfl):bq g z Q aY A (.Expr (.Call (.Attribute (.Name f di) "extend" pq) [i] [] aj) Q'::ca) cu:=λq n p N aF S a ax L M r=>by
 refine H8 (r.Gr M<|oO aK) λh cV a7 ar h1 aP A1=>?_;replace aP:a.heap.get? h=W (cQ<|cz aw):=aP;refine I7 M.1 U<|tS (aB:=[i]) (by simp[ay]) (by show 1<20;decide) (mm n) i0<|Jm (g:=g) ar h1 (L▸R) a _ (bJ.refl ..) λa4 an aL az=>V az<|Y.of<|Ss (aL.all _ _ aP)<|xH (H:=a9 [] [] a) (aU:=[]) (ak:=[]) U (by simp[ay]) (Bs ay<|Q_ r<|bp q n p N aF S ax L M) aL ?_;rintro aR am a_ bP;refine br bP λa4 cB aM=>V cB<|jD aM.kg λD O t dv aI av=>V dv<|cY (ae.zD m av) λdm eY=>?_;have cL:O.toList.length=dh.length:=by have:=av.length;simpa using this
 have jR:=aL.trans a_;refine j7<|Qf (O:=O.toList) ax.1 (jR.all _ _ aP) ⟨_,aI,U,t,U⟩ dm (by refine V cL<|V (nC ..) ?_;exact ab) λaa x kv aS i4=>?_;rw[eY]at kv;have i:cz aw++cz dh=cz (aw++dh):=by simp[cz]
 rw[i]at kv;have ce:a9 [h] [] am {am with heap:=aa,toks:=x}:=bJ.heap (λb o m i=>aS b o (λe=>m<|km.mpr e) i) i4.1;exact⟨U,Y.mono (c q n p N aF S _ ax L M<|A1 am _ (gh<|aw++dh) jR ce kv) λI v aa=>aa.trans<|f_.ownAt a7 jR ce⟩
theorem aaU(aK:fI A f=W (.o<|gh aw))(R:ht Q f=Z)(ac:dd g z Q A KC k)(aM:dd g z Q A eS aN)(m:gs aw)(aO:0<=k)(cP:k.toNat<aw.length)(av:0<=kn (aw.getD k.toNat 0) aN/\kn (aw.getD k.toNat 0) aN<256)(ab:aw.length<=cI)(c:bq g z Q aY ((f,.o<|gh<|aw.set k.toNat<|kn (aw.getD k.toNat 0) aN)::A) ca cu)(f4:∀lq Bt ER,augStore KC lq Bt ER=(do holding [ER,lq,Bt]<|setItem lq Bt ER;release [ER,lq,Bt] [];dz .next):=by intros;rfl):bq g z Q aY A (.AugAssign (.Subscript (.Name f di) KC xW) .BitXor eS aj::ca) cu:=AX c λq n p N aF S a ax L M r=>by
 refine H8 (r.Gr M<|oO aK) λh cV a7 ar h1 aP A1=>?_;replace aP:a.heap.get? h=W (cQ<|cz aw):=aP;have lS:cI=2^24:=U;refine dV<|Y.bind<|Jm (g:=g) ar h1 (L▸R) a _ (bJ.refl ..) λlq an aL aco=>V aco<|d6<|(eT ac ax L M) an _ (r.grow aL) λBt am a_ acp=>c5 acp λE ek=>V ek ?_;have jR:=aL.trans a_;refine d6<|dV<|du<|P3 (jR.all _ _ aP) aO (Ao (.b_ .x<|.n 9223372036854775808) [.t .x .y,.l .y .z,.e .z<|.n 16777216,.b3 .x<|.c .x] U cP ab lS<|ru _) (Kz cP) ?_;have ce:a9 [] [] am {am with toks:=am.toks+1}:=bJ.tok _ _ _ _;refine(Ky<|KA m cP).symm▸d6 ((eT aM ax L M) _ _ (r.grow<|jR.trans ce) λamJ cU ft acq=>c5 acq λeR e_=>V e_<|dV<|Y.of<|wpAny_operate'<|ixor_int ?_);have KD:a9 [] [] a {cU with toks:=cU.toks+1}:=((jR.trans ce).trans ft).trans<|bJ.tok _ _ _ _;refine dV<|V (f4 ..)<|d6<|Y.of<|XD (KD.all _ _ aP) aO (Ao (.b_ .x<|.n 9223372036854775808) [.t .x .y,.l .y .z,.e .z<|.n 16777216,.b3 .x<|.c .x] U cP ab lS<|ru _) (by refine V (nC ..) ?_;exact Ik (.b_ .x<|.c .x) [.t .y .x,.b3 .x<|.c .y] U cP<|ru _) av.1 av.2 (by refine V (nC ..) ?_;exact ab) λaa kv ea=>?_;have i:(cz aw).setIfInBounds k.toNat (kn (aw.getD k.toNat 0) aN).toNat.toUInt8=cz (aw.set k.toNat<|kn (aw.getD k.toNat 0) aN):=by simp[cz,Hz]
 rw[i]at kv;have vV:a9 [h] [] {cU with toks:=cU.toks+1} {cU with heap:=aa,toks:=cU.toks+1}:=bJ.same (x:=cU.toks+1) ea;exact Y.bind<|IJ<|Y.pure ⟨U,(Am p N S (f_.ownAt a7 KD vV) M<|A1 _ _ _ KD vV kv)⟩
end bq
end
noncomputable def qN:List (Int×Nat×List Int):=[(2,1869,[25,1]),(5,1870,[113,164,166,119,10]),(6,1871,[166,0,134,5,176,15]),(7,1872,[87,229,146,149,238,102,21]),(8,1873,[175,238,208,249,215,252,196,28]),(10,1874,[251,67,46,61,118,70,64,94,32,45]),(13,1875,[74,152,176,100,86,100,106,104,130,218,206,140,78]),(14,1876,[199,249,155,48,190,124,218,137,216,87,207,59,22,91]),(15,1877,[8,183,61,91,202,37,51,58,58,237,140,124,5,99,105]),(16,1878,[120,104,107,109,102,161,76,3,91,191,147,169,182,194,225,120]),(17,1879,[43,139,206,78,43,239,123,206,214,147,24,99,150,39,243,163,136]),(18,1880,[215,234,158,94,184,97,118,170,79,187,152,148,252,179,5,98,96,153]),(20,1881,[17,60,79,50,61,163,26,187,202,180,221,225,83,239,156,164,212,212,188,190]),(22,1882,[210,171,247,242,93,230,14,109,221,53,200,74,8,172,98,80,219,134,160,105,165,231]),(24,1883,[229,121,135,48,211,117,251,126,159,180,169,152,192,226,228,218,111,0,117,232,87,96,227,21]),(26,1884,[173,125,158,2,103,182,118,17,145,201,111,28,165,53,161,21,245,142,13,102,48,227,153,145,218,70]),(28,1885,[168,223,200,104,224,234,108,180,110,190,195,147,205,27,232,201,21,43,245,87,42,195,212,119,242,37,9,123]),(30,1887,[41,173,145,152,216,31,179,182,50,48,110,86,239,96,222,125,42,173,226,193,224,130,156,37,251,216,238,40,192,180])]
noncomputable def lB:List Int:=[0,0,1,25,2,50,26,198,3,223,51,238,27,104,199,75,4,100,224,14,52,141,239,129,28,193,105,248,200,8,76,113,5,138,101,47,225,36,15,33,53,147,142,218,240,18,130,69,29,181,194,125,106,39,249,185,201,154,9,120,77,228,114,166,6,191,139,98,102,221,48,253,226,152,37,179,16,145,34,136,54,208,148,206,143,150,219,189,241,210,19,92,131,56,70,64,30,66,182,163,195,72,126,110,107,58,40,84,250,133,186,61,202,94,155,159,10,21,121,43,78,212,229,172,115,243,167,87,7,112,192,247,140,128,99,13,103,74,222,237,49,197,254,24,227,165,153,119,38,184,180,124,17,68,146,217,35,32,137,46,55,63,209,91,149,188,207,205,144,135,151,178,220,252,190,97,242,86,211,171,20,42,93,158,132,60,57,83,71,109,65,162,31,45,67,216,183,123,164,118,196,23,73,236,127,12,111,246,108,161,59,82,41,157,85,170,251,96,134,177,187,204,62,90,203,89,95,176,156,169,160,81,11,245,22,235,122,117,44,215,79,174,213,233,230,231,173,232,116,214,244,234,168,80,88,175]
noncomputable def s3:List Int:=[1,2,4,8,16,32,64,128,29,58,116,232,205,135,19,38,76,152,45,90,180,117,234,201,143,3,6,12,24,48,96,192,157,39,78,156,37,74,148,53,106,212,181,119,238,193,159,35,70,140,5,10,20,40,80,160,93,186,105,210,185,111,222,161,95,190,97,194,153,47,94,188,101,202,137,15,30,60,120,240,253,231,211,187,107,214,177,127,254,225,223,163,91,182,113,226,217,175,67,134,17,34,68,136,13,26,52,104,208,189,103,206,129,31,62,124,248,237,199,147,59,118,236,197,151,51,102,204,133,23,46,92,184,109,218,169,79,158,33,66,132,21,42,84,168,77,154,41,82,164,85,170,73,146,57,114,228,213,183,115,230,209,191,99,198,145,63,126,252,229,215,179,123,246,241,255,227,219,171,75,150,49,98,196,149,55,110,220,165,87,174,65,130,25,50,100,200,141,7,14,28,56,112,224,221,167,83,166,81,162,89,178,121,242,249,239,195,155,43,86,172,69,138,9,18,36,72,144,61,122,244,245,247,243,251,235,203,139,11,22,44,88,176,125,250,233,207,131,27,54,108,216,173,71,142]
noncomputable def m1:List Int:=s3++s3
noncomputable def vW(x:Nat):Nat->List (Int×Nat×List Int)->List zA|_,[]=>[]|z,(l,h,D)::y=>⟨hashInt l,.int l<|x+z,.ref h⟩::vW x (z+(D.length+2)) y
noncomputable def Bu(x:Nat):Nat->List (Int×Nat×List Int)->List Obj|_,[]=>[]|z,(_,_,D)::y=>fs "tuple" 0 (ke x (z+1) D)::Bu x (z+(D.length+2)) y
section
noncomputable def Su(bK:cl)(H:cc)(x:Nat):Obj:=dm
noncomputable def KE(bK:cl)(H:cc)(x:Nat):Obj:=hF x "make_final_message" "make_final_message" 835 79 3 3 1891 Z 181 1892 .none .none .none (.ref 1893) 838
noncomputable def ES(bK:cl)(H:cc)(x:Nat):Obj:=iK (cj bK 17) "make_final_message" "make_final_message" 3 [] .none (da "Constructs the final message (codewords incl. error correction).\n\nISO/IEC 18004:2015(E) -- 7.6 Constructing the final message codeword sequence (page 45)\n\n:param int version: (Micro) QR Code version constant.\n:param int error: Error level constant.\n:param buff: Byte buffer.\n:return: Byte buffer representing the final message.\n"<|x+840) (da "segno.encoder"<|x+833) aQ (.ref 1894) .none
noncomputable def Sv(bK:cl)(H:cc)(x:Nat):Obj:=hF x "make_blocks" "make_blocks" 842 111 2 3 1896 Z 181 1897 .none .none .none (.ref 1898) 845
noncomputable def ET(bK:cl)(H:cc)(x:Nat):Obj:=iK (cj bK 18) "make_blocks" "make_blocks" 3 [] .none (da "Returns the data and error blocks.\n\n:param ec_infos: Iterable of ECC information\n:param buff: Byte buffer.\n"<|x+847) (da "segno.encoder"<|x+833) aQ (.ref 1899) .none
noncomputable def Sw(bK:cl)(H:cc)(x:Nat):Obj:=eG
noncomputable def EU(bK:cl)(H:cc)(x:Nat):Obj:=e7 "tuple"<|.seq #[(.ref 1909)] 0
noncomputable def Sx(bK:cl)(H:cc)(x:Nat):Obj:=hF x "__init__" "Buffer.__init__" 866 146 2 3 1911 Z 181 1912 .none (.ref 1913) (.ref 1914) (.ref 1915) 871
noncomputable def KF(bK:cl)(H:cc)(x:Nat):Obj:=iK (gr (cj bK 19) 2) "__init__" "Buffer.__init__" 3 [] (.ref 1910) .none (da "segno.encoder"<|x+833) aQ (.ref 1916) .none
noncomputable def Sy(bK:cl)(H:cc)(x:Nat):Obj:=hF x "extend" "Buffer.extend" 874 149 2 3 1918 Z 181 1919 .none (.ref 1920) (.ref 1921) (.ref 1922) 879
noncomputable def Bv(bK:cl)(H:cc)(x:Nat):Obj:=iK (gr (cj bK 19) 3) "extend" "Buffer.extend" 3 [] .none .none (da "segno.encoder"<|x+833) aQ (.ref 1923) .none
noncomputable def Sz(bK:cl)(H:cc)(x:Nat):Obj:=hF x "getbits" "Buffer.getbits" 891 155 1 3 1932 Z 181 1933 .none (.ref 1934) (.ref 1935) (.ref 1936) 895
noncomputable def EV(bK:cl)(H:cc)(x:Nat):Obj:=iK (gr (cj bK 19) 5) "getbits" "Buffer.getbits" 3 [] .none .none (da "segno.encoder"<|x+833) aQ (.ref 1937) .none
noncomputable def SA(bK:cl)(H:cc)(x:Nat):Obj:=dm
noncomputable def KG(bK:cl)(H:cc)(x:Nat):Obj:=hF x "toints" "Buffer.toints" 898 158 1 3 1939 Z 181 1940 .none (.ref 1941) (.ref 1942) (.ref 1943) 903
noncomputable def EW(bK:cl)(H:cc)(x:Nat):Obj:=iK (gr (cj bK 19) 6) "toints" "Buffer.toints" 3 [] .none (da "Returns an iterable of integers interpreting the content of `seq`\nas sequence of binary numbers of length 8.\n"<|x+905) (da "segno.encoder"<|x+833) aQ (.ref 1944) .none
noncomputable def acr(bK:cl)(H:cc)(x:Nat):Obj:=fs "tuple" 0<|ke x 930 [7,10,15,20,26,18,20]
noncomputable def acs(bK:cl)(H:cc)(x:Nat):Obj:=fs "tuple" 0<|ke x 937 [10,16,26,18,24,16,18]
noncomputable def act(bK:cl)(H:cc)(x:Nat):Obj:=fs "tuple" 0<|ke x 944 [13,22,18,26,18,24,18]
noncomputable def acu(bK:cl)(H:cc)(x:Nat):Obj:=fs "tuple" 0<|ke x 951 [17,28,22,16,22,28,26]
noncomputable def SB(bK:cl)(H:cc)(x:Nat):Obj:=e7 "tuple"<|.seq #[(.ref 1967),(.ref 1968),(.ref 1969),(.ref 1970)] 0
noncomputable def acv(bK:cl)(H:cc)(x:Nat):Obj:=fs "tuple" 0<|ke x 959 [1,1,1,1,1,2,2]
noncomputable def acw(bK:cl)(H:cc)(x:Nat):Obj:=fs "tuple" 0<|ke x 966 [1,1,1,2,2,4,4]
noncomputable def acx(bK:cl)(H:cc)(x:Nat):Obj:=fs "tuple" 0<|ke x 973 [1,1,2,2,4,4,6]
noncomputable def acy(bK:cl)(H:cc)(x:Nat):Obj:=fs "tuple" 0<|ke x 980 [1,1,2,4,4,4,5]
noncomputable def SC(bK:cl)(H:cc)(x:Nat):Obj:=e7 "tuple"<|.seq #[(.ref 1972),(.ref 1973),(.ref 1974),(.ref 1975)] 0
noncomputable def SD(bK:cl)(H:cc)(x:Nat):Obj:=hF x "_law_free" "_law_free" 988 172 1 3 1977 Z 181 1978 .none (.ref 1979) (.ref 1980) (.ref 1981) 995
noncomputable def EX(bK:cl)(H:cc)(x:Nat):Obj:=iK (cj bK 23) "_law_free" "_law_free" 3 [] .none .none (da "law_nv0011_01"<|x+928) aQ (.ref 1982) .none
noncomputable def SE(bK:cl)(H:cc)(x:Nat):Obj:=hF x "_law_doubled" "_law_doubled" 998 181 2 3 1984 Z 181 1985 .none (.ref 1986) (.ref 1987) (.ref 1988) 1004
noncomputable def EY(bK:cl)(H:cc)(x:Nat):Obj:=iK (cj bK 24) "_law_doubled" "_law_doubled" 3 [] .none .none (da "law_nv0011_01"<|x+928) aQ (.ref 1989) .none
noncomputable def SF(bK:cl)(H:cc)(x:Nat):Obj:=hF x "_law_multiples" "_law_multiples" 1007 184 1 3 1991 Z 181 1992 .none .none .none (.ref 1993) 1010
noncomputable def EZ(bK:cl)(H:cc)(x:Nat):Obj:=iK (cj bK 25) "_law_multiples" "_law_multiples" 3 [] .none .none (da "law_nv0011_01"<|x+928) aQ (.ref 1994) .none
noncomputable def SG(bK:cl)(H:cc)(x:Nat):Obj:=hF x "_law_rest" "_law_rest" 1013 197 3 3 1996 Z 181 1997 .none .none .none (.ref 1998) 1016
noncomputable def E0(bK:cl)(H:cc)(x:Nat):Obj:=iK (cj bK 26) "_law_rest" "_law_rest" 3 [] .none .none (da "law_nv0011_01"<|x+928) aQ (.ref 1999) .none
noncomputable def SH(bK:cl)(H:cc)(x:Nat):Obj:=hF x "_law_woven" "_law_woven" 1019 204 1 3 2001 Z 181 2002 .none .none .none (.ref 2003) 1022
noncomputable def E1(bK:cl)(H:cc)(x:Nat):Obj:=iK (cj bK 27) "_law_woven" "_law_woven" 3 [] .none .none (da "law_nv0011_01"<|x+928) aQ (.ref 2004) .none
noncomputable def SI(bK:cl)(H:cc)(x:Nat):Obj:=hF x "law" "law" 1025 206 1 3 2006 Z 181 2007 .none .none .none (.ref 2008) 1028
noncomputable def E2(bK:cl)(H:cc)(x:Nat):Obj:=iK (cj bK 28) "law" "law" 3 [] .none .none (da "law_nv0011_01"<|x+928) aQ (.ref 2009) .none
noncomputable def SJ(H:cc)(x:Nat):List DictEntry:=[(bs H "__doc__" 166 .none),(bs H "__package__" 167 .none),(bs H "__loader__" 168<|.builtin "__main__.__loader__#opaque"),(bs H "__spec__" 169 .none),(bs H "__annotations__" 170<|.ref 6),(bs H "__builtins__" 171<|.ref 4),(bs H "__file__" 173<|da "/claim/cut.py" 172),(bs H "__cached__" 174 .none),(bs H "_wall" 193<|.ref 21),(bs H "_tuplegetter" 252<|.ref 60),(bs H "VERSION_M4" 254<|.int (0) 253),(bs H "VERSION_M3" 257<|.int (-1) 256),(bs H "VERSION_M2" 260<|.int (-2) 259),(bs H "VERSION_M1" 263<|.int (-3) 262),(bs H "ERROR_LEVEL_L" 265<|.int (1) 264),(bs H "ERROR_LEVEL_M" 267<|.int (0) 266),(bs H "ERROR_LEVEL_Q" 269<|.int (3) 268),(bs H "ERROR_LEVEL_H" 271<|.int (2) 270),(bs H "EC" 399<|.ref 135),(bs H "ECC" (x+0)<|.ref 139),(bs H "GEN_POLY" (x+318)<|.ref 1868),(bs H "GALIOS_LOG" (x+575)<|.ref 1888),(bs H "GALIOS_EXP" (x+832)<|.ref 1890),(bs H "make_final_message" (x+841)<|.ref 1895),(bs H "make_blocks" (x+848)<|.ref 1900),(bs H "Buffer" (x+927)<|.ref 1963),(bs H "_law_checks" (x+958)<|.ref 1971),(bs H "_law_blocks" (x+987)<|.ref 1976),(bs H "_law_free" (x+997)<|.ref 1983),(bs H "_law_doubled" (x+1006)<|.ref 1990),(bs H "_law_multiples" (x+1012)<|.ref 1995),(bs H "_law_rest" (x+1018)<|.ref 2000),(bs H "_law_woven" (x+1024)<|.ref 2005),(bs H "law" (x+1030)<|.ref 2010)]
noncomputable def vX(bK:cl)(H:cc)(x:Nat):List Obj:=((Ba bK H).set 3<|e7 "dict"<|.dict ((bs H "__name__" 165<|da "law_nv0011_01"<|x+928)::SJ H x).toArray 35).set 12<|t8<|.fields #[(.int (1) 0),(.int (0) 0),(.ref 20),(.int (5) 0),(.int (0) 0),(.ref 27),(.int (31) 0),(.int (0) 0),(.ref 71),(.int (79) 0),(.int (0) 0),(.ref 1894),(.int (111) 0),(.int (0) 0),(.ref 1899),(.int (141) 0),(.int (0) 0),(.ref 1906),(.int (172) 0),(.int (0) 0),(.ref 1982),(.int (181) 0),(.int (0) 0),(.ref 1989),(.int (184) 0),(.int (0) 0),(.ref 1994),(.int (197) 0),(.int (0) 0),(.ref 1999),(.int (204) 0),(.int (0) 0),(.ref 2004),(.int (206) 0),(.int (0) 0),(.ref 2009)]
noncomputable def vY(bK:cl)(H:cc)(x:Nat):List Obj:=e7 "dict" (.dict (vW x 1 qN).toArray 18)::(Bu x 1 (qN.take 17)++e7 "dict" (.dict #[⟨30,(.int (30)<|x+286),(.ref 1887)⟩] 1)::(Bu x 286 (qN.drop 17)++[fs "tuple" 0<|ke x 319 lB,fs "list" 0<|ke x 576 s3,fs "list" 0<|ke x 576 s3++ke x 576 s3,eG,Su bK H x,iL (cj bK 17) "make_final_message" "make_final_message",KE bK H x,ES bK H x,eG,dm,iL (cj bK 18) "make_blocks" "make_blocks",Sv bK H x,ET bK H x,eG,e7 "builtin_function_or_method"<|.fields #[(.builtin "type.__prepare__"),(.type "type")],e7 "dict"<|.dict #[(bs H "__module__" (x+856)<|da "segno.encoder"<|x+833),(bs H "__qualname__" (x+858)<|da "Buffer"<|x+857),(bs H "__firstlineno__" (x+860)<|.int (141)<|x+859),(bs H "__doc__" (x+862)<|da "Wraps a :cls:`bytearray` and provides some useful methods to add bits.\n    "<|x+861),(bs H "__slots__" (x+865)<|.ref 1908),(bs H "__init__" (x+873)<|.ref 1917),(bs H "extend" (x+881)<|.ref 1924),(bs H "append_bits" (x+890)<|.ref 1931),(bs H "getbits" (x+897)<|.ref 1938),(bs H "toints" (x+906)<|.ref 1945),(bs H "__len__" (x+913)<|.ref 1952),(bs H "__getitem__" (x+921)<|.ref 1959),(bs H "__static_attributes__" (x+923)<|.ref 1960)] 13,eG,t8<|.fields #[(.int (146) 0),(.int (4) 0),(.ref 1916),(.int (149) 0),(.int (4) 0),(.ref 1923),(.int (152) 0),(.int (4) 0),(.ref 1930),(.int (155) 0),(.int (4) 0),(.ref 1937),(.int (158) 0),(.int (4) 0),(.ref 1944),(.int (164) 0),(.int (4) 0),(.ref 1951),(.int (167) 0),(.int (4) 0),(.ref 1958)],hF x "Buffer" "Buffer" 851 141 0 0 1904 a1 181 1905 .none .none .none .none 854,A' 1906 3 1903<|da "segno.encoder"<|x+833,fs "list" 0<|hT x 864 ["_data"],Sw bK H x,EU bK H x,eG,dm,fs "tuple" 0<|hT x 869 ["self","iterable"],eG,iL (gr (cj bK 19) 2) "__init__" "Buffer.__init__",Sx bK H x,KF bK H x,eG,dm,fs "tuple" 0<|hT x 877 ["self","iterable"],eG,iL (gr (cj bK 19) 3) "extend" "Buffer.extend",Sy bK H x,Bv bK H x,eG,dm,fs "tuple" 0<|hT x 885 ["self","val","length"],eG,iL (gr (cj bK 19) 4) "append_bits" "Buffer.append_bits",hF x "append_bits" "Buffer.append_bits" 882 152 3 3 1925 Z 181 1926 .none (.ref 1927) (.ref 1928) (.ref 1929) 888,iK (gr (cj bK 19) 4) "append_bits" "Buffer.append_bits" 3 [] .none .none (da "segno.encoder"<|x+833) aQ (.ref 1930) .none,eG,dm,fs "tuple" 0<|hT x 894 ["self"],eG,iL (gr (cj bK 19) 5) "getbits" "Buffer.getbits",Sz bK H x,EV bK H x,eG,SA bK H x,fs "tuple" 0<|hT x 901 ["self"],fs "tuple" 0<|hT x 902 ["self"],iL (gr (cj bK 19) 6) "toints" "Buffer.toints",KG bK H x,EW bK H x,eG,dm,fs "tuple" 0<|hT x 910 ["self"],eG,iL (gr (cj bK 19) 7) "__len__" "Buffer.__len__",hF x "__len__" "Buffer.__len__" 907 164 1 3 1946 Z 181 1947 .none (.ref 1948) (.ref 1949) (.ref 1950) 911,iK (gr (cj bK 19) 7) "__len__" "Buffer.__len__" 3 [] .none .none (da "segno.encoder"<|x+833) aQ (.ref 1951) .none,eG,dm,fs "tuple" 0<|hT x 917 ["self","item"],eG,iL (gr (cj bK 19) 8) "__getitem__" "Buffer.__getitem__",hF x "__getitem__" "Buffer.__getitem__" 914 167 2 3 1953 Z 181 1954 .none (.ref 1955) (.ref 1956) (.ref 1957) 919,iK (gr (cj bK 19) 8) "__getitem__" "Buffer.__getitem__" 3 [] .none .none (da "segno.encoder"<|x+833) aQ (.ref 1958) .none,fs "tuple" 0<|hT x 922 ["_data"],fs "list" 1<|hT x 864 ["_data"],e7 "dict"<|.dict #[(bs H "__module__" (x+856)<|da "segno.encoder"<|x+833),(bs H "__firstlineno__" (x+860)<|.int (141)<|x+859),(bs H "__doc__" (x+862)<|da "Wraps a :cls:`bytearray` and provides some useful methods to add bits.\n    "<|x+861),(bs H "__slots__" (x+865)<|.ref 1908),(bs H "__init__" (x+873)<|.ref 1917),(bs H "extend" (x+881)<|.ref 1924),(bs H "append_bits" (x+890)<|.ref 1931),(bs H "getbits" (x+897)<|.ref 1938),(bs H "toints" (x+906)<|.ref 1945),(bs H "__len__" (x+913)<|.ref 1952),(bs H "__getitem__" (x+921)<|.ref 1959),(bs H "__static_attributes__" (x+923)<|.ref 1960),(bs H "_data" (x+925)<|.ref 1964)] 2,{cls:=(.type "type"),dict:=aQ,data:=(.cls {name:=(ho "Buffer"),bases:=[(.type "object")],mro:=[(.ref 1963),(.type "object")],ns:=1962,qualname:=(ho "Buffer"),hasDict:=a1,slotNames:=[(ho "_data")],subclasses:=[],abstract:=a1,collection:=aQ,hasDel:=a1}),slots:=#[aQ,aQ,(W<|da "Buffer"<|x+849),(W<|da "Buffer"<|x+857),(W<|.builtin "object.__new__"),(W<|.bool a1)]},e7 "member_descriptor"<|.fields #[(da "_data"<|x+924),(.ref 1963),(.builtin "proto.slot"),(.builtin "proto.slot#set"),(.int (0) 0)],e7 "super"<|.fields #[(.ref 1963),(.ref 1963),(.ref 1963)],e7 "builtin_function_or_method"<|.fields #[(.builtin "object.__init_subclass__"),(.ref 1963)],acr bK H x,acs bK H x,act bK H x,acu bK H x,SB bK H x,acv bK H x,acw bK H x,acx bK H x,acy bK H x,SC bK H x,eG,dm,fs "tuple" 0<|hT x 991 ["version","side","free","marks"],eG,iL (cj bK 23) "_law_free" "_law_free",SD bK H x,EX bK H x,eG,dm,fs "tuple" 0<|hT x 1001 ["lanes","ones","high"],eG,iL (cj bK 24) "_law_doubled" "_law_doubled",SE bK H x,EY bK H x,eG,dm,iL (cj bK 25) "_law_multiples" "_law_multiples",SF bK H x,EZ bK H x,eG,dm,iL (cj bK 26) "_law_rest" "_law_rest",SG bK H x,E0 bK H x,eG,dm,iL (cj bK 27) "_law_woven" "_law_woven",SH bK H x,E1 bK H x,eG,dm,iL (cj bK 28) "law" "law",SI bK H x,E2 bK H x]))
noncomputable def yi(bK:cl)(H:cc)(T:Nat->Obj):BT:=lW<|Ba bK H++(c2 1729).map T
noncomputable def kD(bK:cl)(H:cc)(T:Nat->Obj)(x:Nat):BT:=lW<|vX bK H x++((c2 1729).map T++vY bK H x)
noncomputable def ju(bK:cl)(H:cc)(T:Nat->Obj)(x l aA:Nat):BT:=lW<|(Ba bK H).set 3 (e7 "dict"<|.dict (bs H "__name__" 165 (da "segno.consts" 194)::(SJ H x).take l).toArray<|l+1)++((c2 1729).map T++(vY bK H x).take aA)
end
section
inductive dC where|none|int(k:Int)|str(f:Str)deriving DecidableEq
noncomputable def dC.is:dC->al->Bool|.none,.none=>Z|.int l,.int k bL=>k==l|.str f,.str B bL=>B==f|bL,dQ=>a1
noncomputable def dC.hash(j:b7):dC->Int|.none=>4238894112|.int l=>hashInt l|.str f=>hashStr j f
@[elab_as_elim]theorem dC.cs{ak:dC->al->Prop}{l:dC}{u:al}(c:l.is u=Z)(af:ak .none .none)(ap:∀k E,ak (.int k)<|.int k E)(bk:∀f E,ak (.str f)<|.str f E):ak l u:=by cases l<;>cases u<;>first|exact af|exact iV c|exact eq_of_beq c▸ap _ _|exact eq_of_beq c▸bk _ _
section
variable{prog:cl}{j:b7}{q:bY}{as:al->ag->Prop}{a:ag}
theorem acz(b:Bool)(j:b7)(l:Nat):kV ⟨prog,(j.withFollow "special-get-raises" b).params⟩ .nil (vG nc ⟨prog,(j.withFollow "special-get-raises" b).params⟩ .nil 10) (pyHash .none) l=W (.ok 4238894112,l+1):=by cases b<;>cbv
theorem acA(c:C 4238894112 {a with toks:=a.toks+1}):b9 (cq prog j) q (pyHash .none) C as a:=λA r cn=>by have i:=acz (prog:=prog) (j.params.followText "special-get-raises") j a.toks;rw[Ah,<-wZ]at i;exact Ep (a:=a) (bc:=.nil) (λh o db bp=>nomatch bp) (λg l y az=>Er (bc:=.nil) (λh o db bp=>nomatch bp) 10 g l y az) _ A _ _ a.toks _ r i λw=>c
theorem yj(c9:(h==b)=a1)(bg:∀f E,h≠.float f E)(az:∀C:al->ag->Prop,C (.bool y) a->b9 (cq prog j) q (wT .Eq h b) C as a)(c:C y a):b9 (cq prog j) q (eqBool h b) C as a:=by refine k5<|oD (by refine V c9 ?_;decide) ?_;cases h<;>first|exact(bj<|az _<|wpAny_truthy_bool c)|exact absurd U<|bg _ _
theorem SK{bf:Type}[DecidableEq bf]{I:bf->dC}(bg:∀h b,I h=I b->h=b)(k aD:bf):decide (k=aD)=decide (I k=I aD):=by
 by_cases e:k=aD
 .exact V e<|V (decide_eq_true U)<|V (decide_eq_true U) U
 .exact V (decide_eq_false e)<|V (decide_eq_false λi=>e<|bg _ _ i) U
theorem acB{I:Int->dC}(bg:∀h b,I h=I b->h=b)(k aD:Int):(k==aD)=decide (I k=I aD):=SK bg k aD
noncomputable def acC(prog:cl)(j:b7):KeyKind prog j dC where
 is:=dC.is
 hash:=dC.hash j
 inj:=λu h b a7=>by
  refine dC.cs a7 ?_ ?_ ?_
  .cases b<;>intro m<;>first|rfl|exact iV m
  .intro k E;cases b<;>intro m<;>first|exact iV m|exact congrArg dC.int<|eq_of_beq m
  .intro k E;cases b<;>intro m<;>first|exact iV m|exact congrArg dC.str<|eq_of_beq m
 byValue:=λl u c=>dC.cs c U (λw w=>U) λw w=>U
 pyHash:=λ{q as a l u C}aM=>by
  refine dC.cs aM ?_ ?_ ?_
  .exact acA
  .exact λw w c=>wpAny_pyHash_int c
  .exact λw w c=>wpAny_pyHash_str c
 eqBool:=λ{q as a h b aN u C}e4 aM=>by
  refine dC.cs e4 ?_ ?_ ?_
  .refine dC.cs aM ?_ ?_ ?_
   .intro c;unfold eqBool;exact k5<|bj<|l9<|cN c
   .exact λw w c=>yj U (λw w e=>nomatch e) (λC a5=>EqNone.eq_none_int a5) c
   .exact λw w c=>yj U (λw w e=>nomatch e) (λC a5=>EqNone.eq_none_str a5) c
  .intro k E;refine dC.cs aM ?_ ?_ ?_
   .exact λc=>yj U (λw w e=>nomatch e) (λC a5=>EqNone.eq_int_none a5) c
   .exact λaD w c=>wpAny_eqBool_int<|(acB (I:=dC.int) (λw w i=>by injection i) k aD).symm▸c
   .exact λw w c=>yj U (λw w e=>nomatch e) (λC a5=>EqMixed.eq_int_str a5) c
  .intro f E;refine dC.cs aM ?_ ?_ ?_
   .exact λc=>yj U (λw w e=>nomatch e) (λC a5=>EqNone.eq_str_none a5) c
   .exact λw w c=>yj U (λw w e=>nomatch e) (λC a5=>EqMixed.eq_str_int a5) c
   .exact λB w c=>wpAny_eqBool_str<|(SK (I:=dC.str) (λw w i=>by injection i) f B).symm▸c
 «strs»:=λl f E u c=>by
  cases l
  .exact iV c
  .exact iV c
  .refine b' (eq_of_beq c) ?_;cases u<;>rfl
end
end
inductive dG(l:Nat)(a v:ag):Prop|mk(fS:bJ [] a v)(fT:v.heap.objs.size=a.heap.objs.size+l)(gy:v.gens=a.gens):dG l a v
theorem dG.refl(a:ag):dG 0 a a:=⟨bJ.refl ..,U,U⟩
theorem dG.trans(f:dG l h b)(B:dG D b g):dG (l+D) h g:=⟨f.1.trans B.1,B.2▸f.2▸hh (.e (.a (.a .x .y) .z)<|.a .x<|.a .y .z) [] U,B.3.trans f.3⟩
theorem dG.tok(a:ag)(E:Nat):dG 0 a {a with toks:=E}:=⟨bJ.tok ..,U,U⟩
theorem dG.push(a:ag)(o:Obj)(E:Nat):dG 1 a {a with heap:=a.heap.push o,toks:=E}:=⟨bJ.new ..,by show(a.heap.push o).objs.size=_;exact V (fZ ..) U,U⟩
theorem Sub.grow(c:Sub bc a.heap)(s:bJ [] a v):Sub bc v.heap:=λh o db i fO=>s.1 h db (λe=>nomatch e)<|c h o db i fO
set_option backward.match.sparseCases true in theorem acD(aP:a.heap.get? E=W {cls:=.type "tuple",data:=.seq bA t})(dW:bA.size<=cI)(ah:∀v,dG 1 a v->C bA.toList v):Y ao j q (collect<|.ref E) C a:=by
 refine Y.of<|bj<|wpAny_runValue<|wY OP<|bj<|jd (cN ⟨ot OQ _,wY OR ?_⟩) (by show 0<=cI;decide);have h0:(a.heap.push {cls:=.type "list",data:=.seq ([]:List al).toArray}).get? a.heap.objs.size=W {cls:=.type "list",data:=.seq #[] 0}:=fc _ U;have cP:=dB aP;have SL:b9 (cq ao j) q (load a.heap.objs.size>>=λo=>match o.data with|Data.seq aH _=>pure aH.toList|_=>unsupported "internal:collect") C (λw w=>False) {a with heap:=(a.heap.push {cls:=.type "list",data:=.seq ([]:List al).toArray}).update a.heap.objs.size (jB (·++bA))}:=by
  refine nU (pd (jB (·++bA)) h0 U)<|cN ?_;refine V (show((#[]:Array al)++bA).toList=bA.toList by simp)<|ah _ ⟨bJ.heap (x:=a.toks) (λb db w m=>(rg _ _<|q'<|dB m).trans<|eD _ m) ?_,?_,U⟩
  .exact V (tC ..)<|V (fZ ..)<|kl _
  .exact V (tC ..)<|V (fZ ..) U
 refine q8 (wpAny_extend_seq (hsz:=dW) (A:=q) (R:=λy v=>y=.ok (.ret<|.ref a.heap.objs.size)/\v={a with heap:=(a.heap.push {cls:=.type "list",data:=.seq ([]:List al).toArray}).update a.heap.objs.size (jB (·++bA))}) (s:={a with heap:=a.heap.push {cls:=.type "list",data:=.seq ([]:List al).toArray}}) _ E _ 0 (.inr U) h0 (eD _ aP) U U ⟨U,U⟩) (λg' v c=>?_) λi v c=>?_
 .cases g' with
  |done I=>obtain⟨i,rfl⟩:=c;cases i;exact SL|again be=>exact⟨c.1,codeAny_mono c.2 λy el av=>by obtain⟨rfl,rfl⟩:=av;exact SL⟩
 .exact absurd c.1 (by simp)
theorem acE(E:al):hI ex (callAny (.builtin "tuple.__new__") ⟨[.ref 135,E],[]⟩) (.again<|.builtin "tuple.__new__" ⟨[.ref 135,E],[]⟩) 0:=λb j l=>by cases b<;>cbv
theorem acF:k6 table "tuple.__new__"=W WK:=o_ (by cbv)
theorem acG:plainId "tuple.__new__"=Z:=iS
theorem acH:hI ex (classHasDel 135) a1 0:=λb j l=>by cases b<;>cbv
theorem acI(L:Sub (ex j) a.heap)(bC:a.heap.get? E=W {cls:=.type "tuple",data:=.seq #[f,B,G] t})(c:∀v,dG 3 a v->v.heap.get? (a.heap.objs.size+2)=W {cls:=.ref 135,dict:=W<|a.heap.objs.size+1,data:=.seq #[f,B,G]}->C (.ref<|a.heap.objs.size+2) v):Y ao j q (er (.builtin "tuple.__new__") [.ref 135,.ref E]) C a:=by
 refine Y.call<|d2.lI U<|lX (acE _) L ⟨ot acG _,d2.builtin (DW iS) acF<|Y.bind<|lX aaO L<|gK bd<|Y.bind<|lX aaL L<|gK bd<|Y.bind<|lX aaM L<|Y.bind<|lX R0 L<|tN bd<|eo<|eo<|gK bd<|Y.bind<|acD bC (by show 3<=cI;decide) λan aL=>eo ?_⟩;refine du<|zy ?_;generalize hy:({an with heap:=an.heap.push {cls:=.type "dict",data:=.dict #[]}}:ag)=am;have a_:dG 1 an am:=hy▸dG.push an _ an.toks;unfold newObj newObjAsIs
 dsimp only;refine((if_neg (by show¬3>cI;decide)).symm)▸Y.bind (du<|zy ?_);generalize m0:({am with heap:=am.heap.push {cls:=.ref 135,dict:=W an.heap.objs.size,data:=.seq [f,B,G].toArray}}:ag)=cg;have ce:dG 1 am cg:=m0▸dG.push am _ am.toks;have EA:am.heap.objs.size=a.heap.objs.size+2:=V a_.2<|V aL.2 U;have a5:=c cg ((aL.trans a_).trans ce) (by refine b' EA<|b' aL.2<|b' m0 ?_;exact fc _ U);exact Y.bind<|lX acH (L.grow<|(aL.1.trans a_.1).trans ce.1)<|Y.eq (V (if_neg bd)<|V EA U)<|Y.pure<|Y.pure ⟨_,U,a5⟩
section
variable{j:b7}{a:ag}
noncomputable def fdOf(o:Obj):FuncData:=match o.data with|.func bi=>bi|_=>default
noncomputable abbrev Bw(j:b7):FuncData:=fdOf<|Et ao j.params
theorem acJ(j:b7):(Bw j).body=.stmts [.Expr (.Constant (.str "Create new instance of EC(num_blocks, num_total, num_data)") 0 ⟨38,8,38,72⟩) ⟨38,8,38,72⟩,.Return (W<|.Call (.Attribute (.Name "tuple" ⟨39,15,39,20⟩) "__new__" ⟨39,15,39,28⟩) [(.Name "_cls" ⟨39,29,39,33⟩),(.Tuple [(.Name "num_blocks" ⟨39,36,39,46⟩),(.Name "num_total" ⟨39,48,39,57⟩),(.Name "num_data" ⟨39,59,39,67⟩)] 0 ⟨39,35,39,68⟩)] [] ⟨39,15,39,69⟩) ⟨39,8,39,69⟩]:=by cbv
noncomputable abbrev SM:Scope:={kind:=.function,names:=[("_cls",.local),("num_blocks",.local),("num_total",.local),("num_data",.local),("tuple",.globalImplicit)],isGenerator:=a1,isCoroutine:=a1,more:=(fa<|gr (cj ao 11) 4).more}
theorem KH(j:b7):(Bw j).scope=SM:=by cbv
theorem acK(H:cc)(f B G:al):hI ex (bindArgs (fdOf<|Et ao H) ⟨[.ref 135,f,B,G],[]⟩) [("_cls",.ref 135),("num_blocks",f),("num_total",B),("num_data",G)] 0:=λb j l=>by cases b<;>cbv
theorem Bx(L:Sub bc c)(i:bc.get h=W o)(fO:hZ o=W o):c.get? h=W o:=L h o o i fO
theorem acL(L:Sub (ex j) a.heap):a.heap.get? 82=W (Et ao j.params):=Bx L (by cbv) U
theorem acM(L:Sub (ex j) a.heap):a.heap.CodeRec (Bw j).code (Bw j).qualname:=⟨81,Ry ao j.params,_,294,U,Bx L (by cbv) U,U,U⟩
theorem SN(L:Sub (ex j) a.heap):a.heap.NoLimit:=⟨λw=>aQ,⟨Es ao j.params,#[],0,Bx L (by cbv) U,U,λi bp=>by simp at bp,λw=>U⟩,U⟩
noncomputable abbrev yk(t:aq)(e:Str)(I:Option aq)(g:al):Env:=newEnv SM t 3 [] e I g aQ 0
theorem acN(t:aq)(e:Str)(I:Option aq)(g:al):hI ex (dD (.Name "tuple" ⟨39,15,39,20⟩)<|yk t e I g) (.type "tuple") 0:=λb j l=>by cases b<;>cbv
theorem acO(t:aq)(e:Str)(I:Option aq)(g:al):hI ex (CX Z (.Name "tuple" ⟨39,15,39,20⟩) (yk t e I g) (.type "tuple") "__new__") (.builtin "tuple.__new__",[]) 1:=λb j l=>by cases b<;>cbv
theorem E3(ay:a.heap.Ns t aA)(R:(yk t e I g).kindOf f=W .local)(aM:aA f=W u)(bl:(f==("__debug__":Str))=a1)(c:C u a):Y ao j q (dD (.Name f r)<|yk t e I g) C a:=by exact dV<|V (if_neg (by refine V bl ?_;decide))<|Y.of<|GH U R ay aM c
theorem acP(L:Sub (ex j) a.heap)(ay:a.heap.Ns t aA)(af:aA "_cls"=W (.ref 135))(ap:aA "num_blocks"=W f)(bk:aA "num_total"=W B)(cx:aA "num_data"=W G)(c:∀v,dG 4 a v->v.heap.get? (a.heap.objs.size+3)=W {cls:=.ref 135,dict:=W<|a.heap.objs.size+2,data:=.seq #[f,B,G]}->C (.ref<|a.heap.objs.size+3) v):Y ao j q (dD (.Call (.Attribute (.Name "tuple" ⟨39,15,39,20⟩) "__new__" ⟨39,15,39,28⟩) [(.Name "_cls" ⟨39,29,39,33⟩),(.Tuple [(.Name "num_blocks" ⟨39,36,39,46⟩),(.Name "num_total" ⟨39,48,39,57⟩),(.Name "num_data" ⟨39,59,39,67⟩)] 0 ⟨39,35,39,68⟩)] [] ⟨39,15,39,69⟩)<|yk t e I g) C a:=by
 refine tS U bd U U<|lX (acN t e I g) L<|EB (acO t e I g) L ?_;generalize uc:({a with toks:=a.toks+1}:ag)=bV;have oQ:dG 0 a bV:=uc▸dG.tok a _;have E4:bV.heap.Ns t aA:=uc▸ay;have acQ:bV.heap.objs.size=a.heap.objs.size:=uc▸U;refine xH (H:=λE=>E=bV) (aU:=[]) (ak:=[]) (ar:=λE aR=>dG 1 bV E/\aR=[.ref 135,.ref bV.heap.objs.size]/\E.heap.get? bV.heap.objs.size=W {cls:=.type "tuple",data:=.seq #[f,B,G]}) U U ?_ U ?_
 .rintro E nk aj rfl ah;refine Y.eq (V (kr U)<|V (kr U)<|U) ?_;show Y ao j q (ou [(a1,_),(a1,_)]) _ _;refine Y.eq (U)<|Y.bind<|E3 E4 U af bd ?_;refine gK bd<|eo<|d6 ?_;refine Y.eq (U)<|Y.bind<|Y.eq (V (arm_eval_Tuple ..) U)<|dV ?_;refine Y.bind<|Y.eq (V (kr U)<|V (kr U)<|V (kr U)<|U) ?_;show Y ao j q (ou [(a1,_),(a1,_),(a1,_)]) _ _;refine Y.bind<|E3 E4 U ap bd<|gK bd<|eo<|d6<|Y.eq (U)<|Y.bind<|E3 E4 U bk bd ?_;refine gK bd<|eo<|d6<|Y.eq (U)<|Y.bind<|E3 E4 U cx bd ?_;refine gK bd<|eo<|d6<|Y.pure<|Y.pure<|Y.pure<|Y.pure<|Y.of<|jd (gK bd<|eo<|d6<|Y.pure<|Y.pure<|Y.pure<|ah _ _ (dG.push _ _ _).1 ⟨dG.push _ _ _,U,fc _ U⟩) (by show 3<=cI;decide)
 .rintro aR E gt bP;refine eQ bP λaL cB bC=>?_;obtain rfl:=cB;have f4:Sub (ex j) E.heap:=L.grow<|oQ.1.trans aL.1;refine acI f4 bC λv bX aP=>?_;have i:E.heap.objs.size=a.heap.objs.size+1:=V aL.2<|V acQ U;rw[i]at aP⊢;have gO:dG 4 a v:=by have:=(oQ.trans aL).trans bX;simpa using this
  exact c v gO aP
end
theorem acR(t:aq)(e:Str)(I:Option aq)(g:al):hI ex (exec (.Expr (.Constant (.str "Create new instance of EC(num_blocks, num_total, num_data)") 0 ⟨38,8,38,72⟩) ⟨38,8,38,72⟩)<|yk t e I g) .next 1:=λb j l=>by cases b<;>cbv
theorem acS(fA:q.depth<fF)(L:Sub (ex j) a.heap)(c:∀v,dG 5 a v->v.heap.get? (a.heap.objs.size+4)=W {cls:=.ref 135,dict:=W<|a.heap.objs.size+3,data:=.seq #[f,B,G]}->b_ (.ret<|.ref<|a.heap.objs.size+4) v):d2 ao j q (.call (.ref 82) ⟨[.ref 135,f,B,G],[]⟩) b_ a:=by
 refine D8 (bi:=Bw j) fA (acL L) U (V (KH ..) U) (V (KH ..) U) (acJ j) (acM L)<|lX (acK _ f B G) L<|Y.eq (V (KH ..) U) ?_;refine Y.of<|GJ bd (by intro r aZ;simp only[fR,oy,or_false]at aZ;rcases aZ with rfl|rfl|rfl|rfl<;>rfl) (λaa mn KI=>?_) U;generalize fm:({a with heap:=aa,toks:=a.toks+_}:ag)=an;have aL:dG 1 a an:=by
  subst fm;refine⟨bJ.heap (λb o w i=>KI.extBut b o (gD<|dB i)<|eD _ i) ?_,?_,U⟩
  .exact V KI.1<|V (fZ ..)<|kl _
  .show aa.objs.size=_;exact V KI.1<|V (fZ ..) U
 have vZ:Sub (ex j) an.heap:=L.grow aL.1;refine⟨SN vZ,I8<|Y.eq (pU ..)<|Y.bind<|EB (acR _ _ _ _) vZ ?_⟩;generalize hy:({an with toks:=an.toks+1}:ag)=am;have a_:dG 0 an am:=hy▸dG.tok an _;refine Y.bind<|dV ?_;have acT:am.heap.Ns a.heap.objs.size (λnm=>List.lookup nm ([("_cls",.ref 135),("num_blocks",f),("num_total",B),("num_data",G)]:List<|Str×al).reverse):=by subst hy;subst fm;exact mn
 refine Y.bind<|acP (vZ.grow a_.1) acT U U U U λv bX aP=>Y.pure<|Y.pure ?_;have i:am.heap.objs.size=a.heap.objs.size+1:=V a_.2<|V aL.2 U;rw[i]at aP⊢;have gO:dG 5 a v:=by have:=(aL.trans a_).trans bX;simpa using this
 exact c v gO aP
theorem acU(L:Sub (ex j) c):c.NoLimit:=SN (a:={heap:=c}) L
theorem acV(fA:q.depth+100<fF)(L:Sub (ex j) a.heap)(c:∀v,dG 5 a v->v.heap.get? (a.heap.objs.size+4)=W {cls:=.ref 135,dict:=W<|a.heap.objs.size+3,data:=.seq #[f,B,G]}->C (.ref<|a.heap.objs.size+4) v):Y ao j q (er (.ref 135) [f,B,G]) C a:=by
 refine Y.call<|d2.lI U<|lX (aaS f B G) L ⟨U,d2.lI U<|lX (aaW f B G) L ⟨HR _ iS,d2.builtin (by show qf.contains "type.__call__"=a1;decide+kernel) HS ?_⟩⟩;have acW:(q.under<|Ac "type.__call__" ⟨[fl 135,f,B,G],[]⟩).depth<recursionLimit:=by
  show q.depth+_<_;have x':(Ac "type.__call__" ⟨[fl 135,f,B,G],[]⟩).weight=1:=by cbv
  exact hh (.t (.a .x .y) .z) [.t (.a .x<|.n 100) .z,.e .y<|.n 1] U fA x'
 refine Y.bind<|lX aaI L<|gK bd<|Y.bind<|lX aaJ L<|Y.bind<|EB aaV L ?_;generalize fm:({a with toks:=a.toks+1}:ag)=an;have aL:dG 0 a an:=fm▸dG.tok a _;have vZ:Sub (ex j) an.heap:=L.grow aL.1;refine d6<|Y.call<|acS acW vZ λam a_ aP=>(dj _ U ?_);have i:an.heap.objs.size=a.heap.objs.size:=aL.2;rw[i]at aP⊢;have gO:dG 5 a am:=by have:=aL.trans a_;simpa using this
 have yl:Sub (ex j) am.heap:=L.grow gO.1;have a5:=c am gO aP;have SO:∀{q:bY}{C:al->ag->Prop},C (.ref 135) am->Y ao j q (typeOf<|.ref<|a.heap.objs.size+4) C am:=λah=>du<|wpAny_loadPart aP<|Y.pure ah;refine Y.bind<|Y.bind<|SO<|lX aaK yl<|gK bd<|d6<|Y.bind<|Y.bind<|SO<|lX R0 yl<|Y.holding<|Y.bind<|lX (aaR _) yl<|Y.bind<|R1 (bV:=am) (aaX (a.heap.objs.size+4) am.heap.objs.size am.gens.size f B G (W<|a.heap.objs.size+3)<|.seq #[f,B,G]) (λc m=>acU m) ?_ (eV.start yl (λr aZ=>?_) (by simp) λr aZ o db i fO=>?_) ?_
 .show q.depth+_+3*10<fF;have:fF=1000:=U;have x':(Ac "type.__call__" ⟨[fl 135,f,B,G],[]⟩).weight=1:=by cbv
  exact hh (.t (.a (.a .x .y)<|.m 3<|.n 10) .z) [.t (.a .x<|.n 100) .z,.e .y<|.n 1] U fA x'
 .simp only[km]at aZ;exact V aZ aP
 .simp only[km]at aZ;subst aZ;have aI:a.heap.objs.size+4<a.heap.objs.size:=dB<|L _ o db i fO;exact rq [0,1] .f [.t (.a .x<|.n 4) .x] U aI
 .rintro ev v hH kC;simp only[p2]at kC;refine eQ kC λbt lx aS=>?_;have x8:dG 0 am v:=⟨hH.same (by refine V aS ?_;intro r aZ;simp only[km]at aZ;refine V aZ ?_;exact .inl aP),by exact V hH.1<|V bt U,by refine V hH.8<|V lx ?_;rfl⟩;refine Y.pure<|gK bd ?_;have acX:dG 5 a v:=by have:=gO.trans x8;simpa using this
  exact Y.pure ⟨_,U,c v acX<|x8.1.1 _ _ (λe=>nomatch e) aP⟩
section
variable{j:b7}
noncomputable abbrev aV(j:b7):KeyKind ao j dC:=acC ao j
inductive fb where|g5(u:bh)|rA(aB:List<|dC×fb)
mutual def fd(j:b7)(c:eH)(p:List aq):fb->al->Prop|.g5 u,g=>cf c p u g|.rA aB,g=>∃z cH,g=.ref z/\z∉p/\c.DictOf (aV j) z cH/\ga j c p aB cH def ga(j:b7)(c:eH)(p:List aq):List (dC×fb)->List (dC×al)->Prop|[],cH=>cH=[]|i::aB,cH=>∃g y,cH=(i.1,g)::y/\fd j c p i.2 g/\ga j c p aB y end
theorem acY{c aa:eH}{z:aq}{cH:List<|dC×al}(f:c.DictOf (aV j) z cH)(l:∀o,c.get? z=W o->aa.get? z=W o):aa.DictOf (aV j) z cH:=xs f λo aB AC aP y=>⟨o,aB,AC,l o aP,y⟩
mutual theorem fd.to{c aa:eH}{p aU:List aq}(l:∀(b:aq)(o:Obj),b∉p->c.get? b=W o->aa.get? b=W o/\b∉aU):∀(u:fb)(g:al),fd j c p u g->fd j aa aU u g
 |.g5 u,g,y=>cf.to l u g y|.rA aB,g,y=>by
  obtain⟨z,cH,i,R,bl,av⟩:=y;have a8:z∉aU:=by obtain⟨o,_,_,aP,_⟩:=id bl;exact(l z o R aP).2
  exact⟨z,cH,i,a8,acY bl λo i=>(l z o R i).1,ga.to l aB cH av⟩theorem ga.to{c aa:eH}{p aU:List aq}(l:∀(b:aq)(o:Obj),b∉p->c.get? b=W o->aa.get? b=W o/\b∉aU):∀(aB:List<|dC×fb)(cH:List<|dC×al),ga j c p aB cH->ga j aa aU aB cH|[],cH,y=>y|i::aB,cH,y=>by obtain⟨g,fV,bG,et,fn⟩:=y;exact⟨g,fV,bG,fd.to l i.2 g et,ga.to l aB fV fn⟩end
variable{p:List aq}
theorem ga.grow(s:bJ [] a v)(y:ga j a.heap p aB cH):ga j v.heap p aB cH:=ga.to (λb o m i=>⟨s.1 b o (λe=>nomatch e) i,m⟩) _ _ y
theorem fd.grow(s:bJ [] a v)(y:fd j a.heap p u g):fd j v.heap p u g:=fd.to (λb o m i=>⟨s.1 b o (λe=>nomatch e) i,m⟩) _ _ y
theorem ga.same(L:iQ z c aa)(bl:z∈p)(y:ga j c p aB cH):ga j aa p aB cH:=ga.to (λb o m i=>⟨(L.2 b λe=>m<|e▸bl).trans i,m⟩) _ _ y
theorem ga.sub(L:∀B∈aU,B∈p)(y:ga j c p aB cH):ga j c aU aB cH:=ga.to (λb o m i=>⟨i,λe=>m<|L b e⟩) _ _ y
theorem ga.keys:∀{aB:List<|dC×fb}{cH:List<|dC×al},ga j c p aB cH->cH.map (·.1)=aB.map (·.1)|[],cH,y=>by refine V y ?_;rfl|i::aB,cH,y=>by exact ei y λg fV bP w fn=>V bP<|V iz<|iz.symm▸(ga.keys fn).symm▸U
theorem ga.append(fV:ga j c p E5 SP):∀{aB:List<|dC×fb}{cH:List<|dC×al},ga j c p aB cH->ga j c p (aB++E5) (cH++SP)|[],cH,y=>by refine V y ?_;exact fV|i::aB,cH,y=>by exact ei y λg e cB et fn=>V cB<|jg g (e++SP) U et<|ga.append fV fn
def rT(j:b7)(q:bY)(E:Sem al)(l:Nat)(ar:List aq->ag->al->Prop):Prop:=∀(a:ag)(C:al->ag->Prop),Sub (ex j) a.heap->(∀g v,dG l a v->(∀p:List aq,(∀f∈p,0<=f/\f<a.heap.objs.size)->ar p v g)->C g v)->Y ao j q E C a
inductive kE(j:b7)(q:bY):List (Sem al×Sem al)->Nat->List (dC×fb)->Prop|nil:kE j q [] 0 []|cons{r:Sem al×Sem al}{cv:List<|Sem al×Sem al}{t aA:Nat}{l:dC}{u:fb}{aB:List<|dC×fb}:rT j q r.1 0 (λw w g=>l.is g=Z)->rT j q r.2 t (λp a g=>fd j a.heap p u g)->kE j q cv aA aB->kE j q (r::cv) (t+aA) ((l,u)::aB)
theorem kE.length(c:kE j q cv t aB):aB.length=cv.length:=by induction c with|nil=>rfl|cons _ _ _ a2=>simp[a2]
theorem ym{a v:ag}{l:Nat}(s:dG l a v)(co:∀f∈p,0<=f/\f<a.heap.objs.size):∀f∈p,0<=f/\f<v.heap.objs.size:=λf R=>⟨(co f R).1,cw (co f R).2 s.1.2⟩
theorem acZ{cv:List<|Sem al×Sem al}{t:Nat}{aB:List<|dC×fb}(c:kE j q cv t aB):∀(a:ag)(C:List (al×al)->ag->Prop),Sub (ex j) a.heap->(∀O cH v,dG t a v->Carries (aV j) O cH->(∀p:List aq,(∀f∈p,0<=f/\f<a.heap.objs.size)->ga j v.heap p aB cH)->C O v)->Y ao j q (evalPairs cv) C a:=by induction c with|nil=>intro a C L ah;exact Y.pure<|ah [] [] a (dG.refl a) trivial λp w=>by exact U|@cons r cv t aA l u aB aS aM _ a2=>intro a C L ah;obtain⟨amK,fy⟩:=r;exact Y.bind<|aS a _ L λg an aL cR=>d6<|aM an _ (L.grow aL.1) λz am a_ eZ=>d6<|a2 am _ (L.grow<|aL.1.trans a_.1) λO cH cg ce az av=>Y.pure<|ah _ ((l,z)::cH) cg (by have:=(aL.trans a_).trans ce;rwa[ra]at this) ⟨cR [] aW,U,az⟩ λp co=>(jg z cH U ((eZ p<|ym aL co).grow ce.1)<|av p<|ym (aL.trans a_) co)
theorem SQ(c:eH):(c.push {cls:=.type "dict",data:=.dict #[]}).DictOf (aV j) c.objs.size []:=⟨_,#[],0,fc _ U,⟨U,U,U⟩,U,λw bp=>by simp at bp,.nil,rd⟩
theorem SR(s:dG l a an)(L:iQ z an.heap aa)(bl:a.heap.objs.size<=z):dG l a {an with heap:=aa,toks:=x}:=⟨s.1.hj (bJ.same (x:=x) L) (λb m=>.inr<|bm m▸gz bl) aW,by show aa.objs.size=_;exact V L.1<|V s.2 U,s.3⟩
theorem KJ(L:Sub (ex j) c):139<=c.objs.size:=NJ<|dB<|Bx (h:=138) (o:=Rz ao j.params) L (by cbv) U
theorem ac0{cv:List<|Sem al×Sem al}{t:Nat}{aB:List<|dC×fb}{C:aq->ag->Prop}(c:kE j q cv t aB)(ay:(aB.map (·.1)).Nodup)(cL:cv.length<=15)(L:Sub (ex j) a.heap)(ah:∀v cH,dG (t+1) a v->v.heap.DictOf (aV j) a.heap.objs.size cH->(∀p:List aq,(∀f∈p,0<=f/\f<a.heap.objs.size)->ga j v.heap (a.heap.objs.size::p) aB cH)->C a.heap.objs.size v):Y ao j q (zF cv) C a:=by
 refine du<|zy ?_;generalize fm:({a with heap:=a.heap.push {cls:=.type "dict",data:=.dict #[]}}:ag)=an;have aL:dG 1 a an:=fm▸dG.push a _ a.toks;have KL:an.heap.DictOf (aV j) a.heap.objs.size []:=fm▸SQ _;refine d6<|tN cL<|Y.bind<|acZ c an _ (L.grow aL.1) λO cH am a_ az av=>Y.holding ?_;have bG:=c.length;have cr:=(av [] aW).keys;have eE:cH.length=aB.length:=by have:=congrArg hg cr;simpa using this
 have dW:cI=2^24:=U;refine du<|wpAny_storeAll (knd:=aV j) O cH [] am _ az (KL.keep λb o i=>a_.1.1 b o (λe=>dt e) i) (by simp;exact ph [1,1,1,1,-1] (.l .x .y) [.l .z<|.n 15,.e .w .z,.e .x .w,.e .y<|.n 16777216] U cL bG eE dW) λaa iE ea=>Y.pure<|Y.pure ?_;rw[merged_nil_of_nodup cH<|cr▸ay]at iE;have ce:dG (t+1) a {am with heap:=aa,toks:=am.toks+O.length}:=by have:=SR (aL.trans a_) ea (x:=am.toks+O.length)<|dA _;rwa[w8 1 t]at this
 refine ah _ cH ce iE λp co=>?_;have:=av (a.heap.objs.size::p) (λf R=>by
  revert f;refine g4 ?_ ?_
  .exact⟨eJ _,aL.2▸lM _⟩
  .intro f R;exact ym aL co f R);exact this.same ea bz
end
noncomputable def s4:BT->Nat|.nil=>0|.node bL D y=>max 1<|max (2*s4 D)<|2*s4 y+1
theorem E6:∀(E:BT)(k:Nat)(o:Obj),E.get k=W o->k<s4 E
 |.nil,k,o,c=>dI c|.node u D y,k,o,c=>by
  rw[mL]at c;show k<max 1 (max (2*s4 D)<|2*s4 y+1);by_cases aO:k=0
  .exact V aO<|cy (.t (.n 0) .x) [.l (.n 1) .x] U<|PO _ _
  .rw[if_neg aO]at c;by_cases af:k%2=1
   .rw[if_pos af]at c;have:=E6 D _ o c;exact rs [1,2,1,1,1] (.t .x .y) [.t .z .w,.l .u .y,.t .x<|.a (.m 2 .z)<|.n 2,.l (.m 2 .w) .u] U this (Xs _ _) (qe _ 1)<|PO _ _
   .rw[if_neg af]at c;have:=E6 y _ o c;exact cw (Hi (bb (mF ((uJ k 2).symm.trans (congrArg (2*(k/2)+·)<|(zS k).resolve_right af)))<|Dg 2<|Nat.le_of_pred_lt this))<|bb (Hd ..)<|Hd ..
theorem SS(j:b7):s4 (ex j)=139:=by cbv
inductive nD(z:aq)(t:Nat)(a v:ag):Prop|mk(fS:bJ [z] a v)(fT:v.heap.objs.size=a.heap.objs.size+t)(gy:v.gens=a.gens):nD z t a v
theorem nD.refl(z:aq)(a:ag):nD z 0 a a:=⟨bJ.refl ..,U,U⟩
theorem nD.trans(f:nD z l h b)(B:nD z D b g):nD z (l+D) h g:=⟨f.1.trans B.1,B.2▸f.2▸hh (.e (.a (.a .x .y) .z)<|.a .x<|.a .y .z) [] U,B.3.trans f.3⟩
theorem dG.d{z:aq}{l:Nat}{h b:ag}(f:dG l h b):nD z l h b:=⟨f.1.mono aW λw c=>c,f.2,f.3⟩
theorem ac1(L:iQ z a.heap aa):nD z 0 a {a with heap:=aa,toks:=x}:=⟨bJ.same L,L.1,U⟩
theorem Sub.C0(c:Sub (ex j) a.heap)(bl:139<=z)(s:nD z t a v):Sub (ex j) v.heap:=λh o db i fO=>s.1.1 h db (λe=>by
  have cP:h<139:=by have:=E6 _ _ _ i;rwa[SS]at this
  exact cd ((bm e)▸cP) bl)<|c h o db i fO
theorem fd.C0(s:nD z t a v)(bl:z∈p)(y:fd j a.heap p u g):fd j v.heap p u g:=fd.to (λb o m i=>⟨s.1.1 b o (λe=>m<|bm e▸bl) i,m⟩) _ _ y
theorem ac2{b6:List<|dC×al}{l:dC}{u:al}(c:l∉b6.map (·.1)):stored b6 l u=b6++[(l,u)]:=by unfold stored;rw[if_neg];intro e;exact br (N3.mp e) λjQ yn bp=>c<|k_.mpr<|dj jQ yn<|of_decide_eq_true bp
theorem ac3{z:aq}{cv:List<|Sem al×Sem al}{t:Nat}{aB:List<|dC×fb}(c:kE j q cv t aB):∀(b6:List<|dC×al)(a:ag)(C:PUnit->ag->Prop),Sub (ex j) a.heap->a.heap.DictOf (aV j) z b6->139<=z->(b6.map (·.1)++aB.map (·.1)).Nodup->b6.length+aB.length<=1000->(∀v cH,nD z t a v->v.heap.DictOf (aV j) z (b6++cH)->(∀p:List aq,(∀f∈p,0<=f/\f<a.heap.objs.size)->ga j v.heap (z::p) aB cH)->C si v)->Y ao j q (forIn cv si λ(f:Sem al×Sem al)(_:PUnit)=>(do
   let jQ<-f.1 let SU<-holding [jQ] f.2
   holding [jQ,SU]<|dictSet z jQ SU
   dz (rj si):Sem<|ForInStep PUnit)) C a:=by induction c with|nil=>intro b6 a C L bl aI ay ab ah;exact Y.eq (z2 ..)<|Y.pure<|ah a [] (nD.refl z a) (by simpa using bl) λp w=>by exact U|@cons r cv t aA l u aB aS aM _ a2=>
  intro b6 a C L bl aI ay ab ah;have v0:z<a.heap.objs.size:=by refine xs (id bl) λo w w aP w=>?_;exact dB aP
  refine V (tA ..)<|Y.bind<|Y.bind<|aS a _ L λg an aL cR=>d6<|aM an _ (L.grow aL.1) λg5 am a_ eZ=>?_;have kC:cI=2^24:=U;refine d6<|Y.of<|wpAny_dictSet_pairs (knd:=aV j) (hsz:=by simp only[iy]at ab;exact j4 [1,1,-1] (.l .x .y) [.l (.a .x<|.o .z)<|.n 1000,.e .y<|.n 16777216] U ab kC) (cR [] λw c=>dt c) (bl.keep λb o i=>(aL.1.trans a_.1).1 b o (λe=>dt e) i) λaa iE ea=>Y.pure ?_;have v1:l∉b6.map (·.1):=by intro e;rw[xh]at ay;exact ay.2.2 l e l (bz) U
  replace iE:=(ac2 v1)▸iE;generalize m0:({am with heap:=aa,toks:=am.toks+1}:ag)=cg;have ce:nD z 0 am cg:=m0▸ac1 ea;have lC:nD z (0+t+0) a cg:=((aL.d).trans a_.d).trans ce;refine a2 (b6++[(l,g5)]) cg _ (L.C0 aI lC) (m0▸iE) aI ?_ (by simp only[gU,iy,Dp]at ab⊢;exact c3 (.l (.a (.a .x<|.o<|.n 0) .y)<|.n 1000) [.l (.a .x<|.o .y)<|.n 1000] U ab) λv cH bX KM av=>?_
  .simpa using ay
  .refine ah v ((l,g5)::cH) (by have:=lC.trans bX;simpa using this) (by simpa using KM) λp co=>?_;have By:∀f∈z::p,0<=f/\f<an.heap.objs.size:=by
    intro f R
    revert f;refine g4 ?_ ?_
    .exact⟨eJ _,cw v0 aL.1.2⟩
    .intro f R;exact ym aL co f R
   refine(jg g5 cH U (((eZ (z::p) By).C0 ce bz).C0 bX bz)<|av p λf R=>⟨(co f R).1,cw (co f R).2 lC.1.2⟩)
theorem ac4(c:kE j q cv t aB)(ay:(aB.map (·.1)).Nodup)(cL:¬cv.length<=15)(KN:cv.length<=100)(L:Sub (ex j) a.heap)(ah:∀v cH,dG (t+1) a v->v.heap.DictOf (aV j) a.heap.objs.size cH->(∀p:List aq,(∀f∈p,0<=f/\f<a.heap.objs.size)->ga j v.heap (a.heap.objs.size::p) aB cH)->C a.heap.objs.size v):Y ao j q (zF cv) C a:=by refine du<|zy ?_;generalize fm:({a with heap:=a.heap.push {cls:=.type "dict",data:=.dict #[]}}:ag)=an;have aL:dG 1 a an:=fm▸dG.push a _ a.toks;refine d6<|gK cL<|du<|l9<|Y.bind<|ac3 c [] an _ (L.grow aL.1) (fm▸SQ _) (KJ L) (by simpa using ay) (by simp;exact c3 (.l .x<|.n 1000) [.l .y<|.n 100,.e .x .y] U KN c.length) λv cH bX iE av=>Y.pure<|Y.pure ?_;have gO:dG (t+1) a v:=⟨aL.1.hj bX.1 (λb m=>.inr<|bm m▸gz (dA _)) λw c=>dt c,V bX.2<|V aL.2<|c3 (.e (.a (.o .x) .y)<|.a .x<|.o .y) [] U,bX.3.trans aL.3⟩;exact ah v cH gO (by simpa using iE) λp co=>av p<|ym aL co
theorem SV(c:kE j q cv t aB)(ay:(aB.map (·.1)).Nodup)(KN:cv.length<=100)(L:Sub (ex j) a.heap)(ah:∀v cH,dG (t+1) a v->v.heap.DictOf (aV j) a.heap.objs.size cH->(∀p:List aq,(∀f∈p,0<=f/\f<a.heap.objs.size)->ga j v.heap (a.heap.objs.size::p) aB cH)->C a.heap.objs.size v):Y ao j q (zF cv) C a:=by
 by_cases aI:cv.length<=15
 .exact ac0 c ay aI L ah
 .exact ac4 c ay aI KN L ah
theorem ac5(Bz:l.is cF=Z)(bt:a.heap.DictOf (aV j) z cH)(aS:l∉cH.map (·.1))(dW:cH.length<=1000)(ah:∀aa,aa.DictOf (aV j) z (cH++[(l,u)])->iQ z a.heap aa->C () {a with heap:=aa}):Y ao j q (dictPut z ((aV j).hash l) cF u) C a:=by
 refine Y.of<|uZ bt λo aB AC aP az bl SW aZ ay=>?_;have kC:cI=2^24:=U;have jv:aB.size<=sizeLine:=by
  have bG:=aZ.length;have cr:aB.toList.length=aB.size:=by simp
  exact ph [1,1,-1,1,-1] (.l .x .y) [.l .z<|.n 1000,.e .y<|.n 16777216,.e .w .z,.e .w .x] U dW kC bG cr
 refine bj<|wpAny_dictFind_of (knd:=aV j) Bz aP bl SW ?_;have Ke:(aB.findIdx? λi=>(aV j).is l i.key)=cH.findIdx? λjQ=>decide (jQ.1=l):=by refine b' (aZ.findIdx l) ?_;obtain⟨D⟩:=aB;simp
 have ac6:(cH.findIdx? λjQ=>decide<|jQ.1=l)=aQ:=by refine g2 (List.findIdx?_eq_none_iff) ?_;intro jQ yn;exact decide_eq_false λi=>aS<|k_.mpr ⟨jQ,yn,i⟩
 refine Ke.symm▸ac6.symm▸wpAny_updateDictKeys (hz:=jv) aP bl (ah _ ⟨_,_,AC+1,pd _ aP<|Obj.isFreed_of_dict<|OG bl _,az.mapDictKeys _,OG bl _,SW.push Bz _,?_,?_⟩<|Ab ..)
 .have:=aZ.append Bz ((aV j).hash l) u;obtain⟨D⟩:=aB;simpa using this
 .refine V mc<|g2 xh<|⟨ay,by simp,?_⟩;intro h a7 b m;simp only[iz,z4,km]at m;exact V m λi=>aS<|i▸a7
theorem ac7:uC (.type "dict") (.type "dict")=dz Z:=by refine V (kH ..) ?_;cbv
theorem ac8:k8 (.type "dict") "__iter__"=dz (W<|.builtin "dict.__iter__"):=by refine V (hJ ..)<|V hK ?_;cbv
set_option backward.match.sparseCases true in theorem ac9(yo:z≠h)(a7:(h==sysModules)=a1)(bl:a.heap.DictOf (aV j) z cH)(bt:a.heap.DictOf (aV j) h d7)(c9:cH≠[])(ay:(cH.map (·.1)++d7.map (·.1)).Nodup)(dW:cH.length+d7.length<=1000)(ah:∀aa,aa.DictOf (aV j) z (cH++d7)->iQ z a.heap aa->C () {a with heap:=aa}):Y ao j q (mergeMapping z (.ref h) a1) C a:=by
 refine gJ λw bI=>uZ (id bl) λac_ KO amL ac' rB mu E7 ada amM=>uZ (id bt) λSX rU adb E8 adc E9 ade SZ amN=>bI ?_;have cK:a.TypeIs (.ref h) "dict":=⟨SX,E8,adc.1⟩;have cL:d7.length=rU.size:=by refine b' SZ.length ?_;simp
 refine du<|q5 cK ac7<|du<|hX cK ac8<|((show((W<|Ad "dict.__iter__")==W (Ad "dict.__iter__"))=Z from by decide).symm)▸eo ?_
 dsimp only;refine V (if_neg (by refine V a7 ?_;decide))<|du<|GW ac' mu ?_;have adf:KO.isEmpty=a1:=by cases bp:KO.isEmpty with|false=>rfl|true=>exfalso;have aO:KO=#[]:=OC.mp bp;subst aO;have:=ada.length;exact c9<|N4 this.symm
 refine V (if_neg (by refine V adf ?_;decide))<|du<|GW E8 E9 ?_;refine du<|wpAny_dictEpoch E8 E9 ?_;have cF:∀(k:Nat)(v:ag)(aa:eH),v={a with heap:=aa}->k<=rU.size->aa.DictOf (aV j) z (cH++d7.take k)->iQ z a.heap aa->Y ao j q (forIn (List.range' k<|rU.size-k) si λk(amO:PUnit)=>do
    let As<-dictEntries h match As[k]? with
     |some i=>do
      holding [i.key,i.val]<|dictPut z i.hash i.key i.val let As<-dictEpoch h if(As !=adb)=Z then do
        unsupported "dict.changed-during-merge"
        dz<|rj si else dz<|rj si|f=>do
      unsupported "dict.changed-during-merge"
      dz<|rj si) (λw v=>C () v) v:=by intro k;induction lA:rU.size-k generalizing k with
  |zero=>intro v aa i ac iE ea;have:d7.take k=d7:=uP<|oF (.l .x .y) [.e .x .z,.e .w<|.n 0,.l .z<|.a .w .y] U cL lA<|f2 _ _;exact V i<|Y.pure<|ah aa (this▸iE) ea|succ aA a2=>
   intro v aa i ac iE ea;refine V i ?_;have cP:k<rU.size:=(ix (k)<|rU.size).elim (λd_=>ph [1,-1,1] (.t .x .y) [.e .z<|.o .w,.e (.a .z .x) .y] U lA<|eN d_) λd_=>ph [0,-1,1] (.t .x .y) [.e .z<|.o .w,.e .z<|.n 0] U lA<|jh d_;have S0:aa.get? h=W SX:=(ea.2 h yo.symm).trans E8;refine V List.range'_succ<|V (tA ..)<|Y.bind<|du<|GW (s:={a with heap:=aa}) S0 E9<|V (uT cP)<|gJ λw bI=>?_;refine c5 (⟨d7[k]'(j4 [1,-1,1] (.t .x .y) [.e .y .z,.t .x .z] U cL cP),fG _⟩:∃jQ,d7[k]?=W jQ) λjQ yn=>?_;obtain⟨l,u⟩:=jQ;refine cY (SZ.get? (e:=rU[k]) (by simp[cP]) yn) λBz adg=>br (ade rU[k]<|Array.getElem_mem cP) λfB S1 adh=>?_;obtain rfl:fB=l:=(aV j).inj _ _ _ S1 Bz;refine bI ?_
   dsimp only;refine adh.symm▸adg.symm▸?_;have EL:d7.take (k+1)=d7.take k++[(fB,u)]:=by refine V zX<|V yn ?_;rfl
   have adi:fB∉(cH++d7.take k).map (·.1):=by
    have mj:(cH.map (·.1)++(d7.take<|k+1).map (·.1)).Nodup:=by refine ay.sublist<|List.Sublist.append (List.Sublist.refl _)<|(List.take_sublist _ _).map _
    rw[EL,mc,<-rc,<-mc]at mj;rw[xh]at mj;intro e;exact mj.2.2 fB e fB (bz) U
   exact d6<|ac5 (a:={a with heap:=aa}) S1 iE adi (gU▸NT▸hh (.l (.a .x .y)<|.n 1000) [.l (.a .x .z)<|.n 1000,.l .y .z] U dW (DU _ _)) λtY KM S2=>du<|wpAny_dictEpoch (s:={a with heap:=tY}) ((S2.2 h yo.symm).trans S0) E9<|V (if_neg (by simp))<|Y.pure<|a2 (k+1) ((ix ((k)+1)<|rU.size).elim (λd_=>rt [1,-1,1,0,0,1] [1,1,0,1,1,0] (.e .x .y) [.e .z<|.o .y,.l .w<|.a .x<|.o .u,.l .w<|.a .z .u,.e (.a .x<|.o .u) .w,.e (.a .z .u) .w] U lA (f2 _ _) (f2 _ _) (eN d_)<|eN<|c3 (.l .x .y) [.l (.o .x) .y] U d_) λd_=>(ix (k)<|rU.size).elim (λgS=>rt [1,-1,1,0,1] [1,0,0,1,0] (.e .x .y) [.e .z<|.o .y,.l .w<|.o .u,.e .x<|.n 0,.e (.a .z .u) .w] U lA d_ (jh d_)<|eN gS) λgS=>nW [1,-1,0,1] [1,0,1,0] (.e .x .y) [.e .z<|.o .y,.e .x<|.n 0,.e .z<|.n 0] U lA (jh d_)<|jh gS) _ tY U cP (V EL<|b' (rc ..) KM)<|ea.trans S2
 have hP:=cF 0 a a.heap U (eJ _) (by simpa using bl)<|Heap.SameBut.refl _ _;rw[Nat.sub_zero,<-List.range_eq_range']at hP;exact hi hP λw v c=>Y.pure c
noncomputable def KP(run:List<|Sem al×Sem al)(im:Option aq):Sem (Option aq):=if run.isEmpty=Z then dz im else match im with|none=>do let z<-zF run;dz<|W z|some z=>do
   let sub<-holding [.ref z]<|zF run
   (holding [.ref z,.ref sub]<|mergeMapping z (.ref sub) a1).onRaise λf=>do let _<-holding [.ref z,f]<|runValue<|.builtin "proto.let_go" {}
   dz<|W z
def E_(j:b7)(bV:ag)(im:Option aq)(b6:List<|dC×fb)(t:Nat)(a:ag):Prop:=dG t bV a/\match im with|none=>b6=[]/\t=0|some z=>z=bV.heap.objs.size/\∃cH,a.heap.DictOf (aV j) z cH/\cH≠[]/\∀p:List aq,(∀f∈p,0<=f/\f<bV.heap.objs.size)->ga j a.heap (z::p) b6 cH
theorem S3{run:List<|Sem al×Sem al}{im:Option aq}{aA t:Nat}{b6 aB:List<|dC×fb}{C:Option aq->ag->Prop}(uc:Sub (ex j) bV.heap)(c:E_ j bV im b6 t a)(aZ:kE j q run aA aB)(c9:run≠[])(ay:(b6.map (·.1)++aB.map (·.1)).Nodup)(ab:b6.length+aB.length<=1000)(aI:run.length<=100)(ah:∀v,E_ j bV (W bV.heap.objs.size) (b6++aB) (t+(aA+1)) v->C (W bV.heap.objs.size) v):Y ao j q (KP run im) C a:=by
 refine gK (by simpa using c9) ?_;have jv:aB≠[]:=by intro e;subst e;have:=aZ.length;simp at this;exact c9<|N4 this.symm
 have adj:∀cH:List<|dC×al,∀p:List aq,∀c:eH,ga j c p aB cH->cH≠[]:=by intro cH p c y e;subst e;cases aB with
  |nil=>exact jv U|cons i aB=>refine ?_;refine gc y λw w i w=>?_;cases i
 refine cY c λs c=>?_;have L:Sub (ex j) a.heap:=uc.grow s.1;cases im with|none=>refine cY c λe9 hp=>?_;obtain rfl:=e9;obtain rfl:=hp;have dW:a.heap.objs.size=bV.heap.objs.size:=s.2;refine Y.bind<|SV aZ (by simpa using ay) aI L λv cH bX bl av=>Y.pure ?_;rw[dW]at bl av⊢;exact ah v ⟨s.trans bX,U,cH,bl,adj cH _ _<|av [] aW,λp co=>av p co⟩|some z=>
  refine cY c λjG jH=>?_;obtain rfl:=jG;refine fx jH λcH bl aS av=>?_;have v0:bV.heap.objs.size<a.heap.objs.size:=by refine xs (id bl) λo w w aP w=>?_;exact dB aP
  have S4:=KJ uc;refine d6<|SV aZ ((xh.mp ay).2.1) aI L λan d7 aL bt S5=>?_;have KL:an.heap.DictOf (aV j) bV.heap.objs.size cH:=bl.keep λb o i=>aL.1.1 b o (λe=>dt e) i;have bG:=(av [] aW).keys;have cr:=(S5 [] aW).keys;have ig:cH.length=b6.length:=by have:=congrArg hg bG;simpa using this
  have j9:d7.length=aB.length:=by have:=congrArg hg cr;simpa using this
  refine Y.bind<|Y.onRaise<|Y.holding<|ac9 (gD v0) ?_ KL bt aS (bG▸cr▸ay) (oF (.l (.a .x .y)<|.n 1000) [.l (.a .z .w)<|.n 1000,.e .x .z,.e .y .w] U ab ig j9) λaa iE ea=>Y.pure ?_
  .have:sysModules=1:=U;refine V this ?_;cases e:a.heap.objs.size==1 with
   |false=>rfl|true=>have:=eq_of_beq e;have:=KJ L;lia
  .have adk:dG (t+(aA+1)) bV {an with heap:=aa}:=SR (s.trans aL) ea (x:=an.toks)<|dA _;refine ah _ ⟨adk,U,cH++d7,iE,by simp[aS],λp co=>?_⟩;have et:ga j aa (bV.heap.objs.size::p) b6 cH:=((av p co).grow aL.1).same ea bz;have fn:=S5 (bV.heap.objs.size::p) (λf R=>by
    revert f;refine g4 ?_ ?_
    .exact⟨eJ _,v0⟩
    .intro f R;exact⟨(co f R).1,cw (co f R).2 s.1.2⟩);have rJ:ga j aa (bV.heap.objs.size::p) aB d7:=(fn.same ea (by simp)).sub λB a8=>mt a8;exact ga.append rJ et
theorem kE.snoc(c:kE j q cv t aB)(aS:rT j q r.1 0 λw w g=>l.is g=Z)(aM:rT j q r.2 aA λp a g=>fd j a.heap p u g):kE j q (cv++[r]) (t+aA) (aB++[(l,u)]):=by induction c with|nil=>have:=kE.cons aS aM<|kE.nil (j:=j) (q:=q);simpa using this|cons h b _ a2=>refine V (uL ..) ?_;exact .cons h b a2
theorem adl(I:(Option (Sem al)×Sem al)->(Option aq×List (Sem al×Sem al))->Sem (ForInStep<|Option aq×List (Sem al×Sem al)))(yp:∀(r:Sem al×Sem al)(im:Option aq)(run:List<|Sem al×Sem al),run.length+1<17->I (W r.1,r.2) (im,run)=dz (.yield (im,run++[r])))(KQ:∀(r:Sem al×Sem al)(im:Option aq)(run:List<|Sem al×Sem al),run.length+1=17->I (W r.1,r.2) (im,run)=(do let aA<-KP (run++[r]) im;dz<|.yield (aA,[])))(uc:Sub (ex j) bV.heap){cv:List<|Sem al×Sem al}{t:Nat}{aB:List<|dC×fb}(c:kE j q cv t aB):∀(im:Option aq)(run:List<|Sem al×Sem al)(b6 oW:List<|dC×fb)(l aA:Nat)(a:ag)(C:Option aq×List (Sem al×Sem al)->ag->Prop),E_ j bV im b6 l a->kE j q run aA oW->run.length<17->(b6.map (·.1)++oW.map (·.1)++aB.map (·.1)).Nodup->b6.length+oW.length+aB.length<=1000->(∀yq v2 go yr fB po v,E_ j bV yq go fB v->kE j q v2 po yr->v2.length=(run.length+cv.length)%17->go++yr=b6++oW++aB->fB+po=l+aA+t+(run.length+cv.length)/17->C (yq,v2) v)->Y ao j q (forIn (cv.map λr=>(W r.1,r.2)) (im,run) I) C a:=by induction c with
 |nil=>intro im run b6 oW l aA a C de aZ aI ay ab ah;exact Y.eq (V z4<|V z2 U)<|Y.pure<|ah im run b6 oW l aA a de aZ (by simp[Df aI]) (by simp) (by simp[Hj aI])|@cons r cv h b Fa u aB aS aM lz a2=>
  intro im run b6 oW l aA a C de aZ aI ay ab ah;refine Y.eq (V iz<|V (tA ..) U) ?_;have S6:=aZ.snoc aS aM;have mj:(b6.map (·.1)++(oW++[(Fa,u)]).map (·.1)++aB.map (·.1)).Nodup:=by simpa using ay
  rcases pZ (run.length+1) 17 with cP|j6
  .refine V (yp r im run cP)<|eo<|a2 im (run++[r]) b6 (oW++[(Fa,u)]) l (aA+h) a C de S6 (by simpa using cP) mj (by simp at ab⊢;exact hh (.l (.a (.a .x<|.o .y) .z)<|.n 1000) [.l (.a (.a .x .y)<|.o .z)<|.n 1000] U ab) λyq v2 go yr fB po v v3 qt nr sW ud=>ah yq v2 go yr fB po v v3 qt ?_ (by simpa using sW) ?_
   .refine V nr ?_;congr 1;simp;exact c3 (.e (.a (.o .x) .y)<|.a .x<|.o .y) [] U
   .refine V ud ?_;simp only[gU,iy,Dp];exact V (show run.length+(0+1)+cv.length=run.length+(cv.length+1)by exact c3 (.e (.a (.a .x<|.o<|.n 0) .y)<|.a .x<|.o .y) [] U)<|xw (.e (.a (.a (.a .x<|.a .y .z) .w) .u)<|.a (.a (.a .x .y)<|.a .z .w) .u) [] U
  .have Fb:run.length+1=17:=w6 aI j6;refine V (KQ r im run Fb)<|Y.bind<|Y.bind<|S3 uc de S6 (by simp) ((xh.mp mj).1) (by simp at ab⊢;exact hh (.l (.a .x<|.o .y)<|.n 1000) [.l (.a (.a .x .y)<|.o .z)<|.n 1000] U ab) (by simp;exact cy (.l .x<|.n 99) [.e (.o .x)<|.n 17] U Fb) λan KR=>Y.pure<|a2 (W bV.heap.objs.size) [] (b6++(oW++[(Fa,u)])) [] (l+(aA+h+1)) 0 an C KR .nil (by simp) (by simpa using mj) (by simp at ab⊢;exact hh (.l (.a (.a .x<|.o .y) .z)<|.n 1000) [.l (.a (.a .x .y)<|.o .z)<|.n 1000] U ab) λyq v2 go yr fB po v v3 qt nr sW ud=>ah yq v2 go yr fB po v v3 qt ?_ (by simpa using sW) ?_
   .refine V nr ?_;simp only[Dp,iy];exact V (show run.length+(cv.length+1)=0+cv.length+17 by exact rr [1,-1] [1,1] (.e (.a .x<|.o .y)<|.a (.a (.n 0) .y)<|.n 17) [.e (.o .x)<|.n 17] U Fb)<|V (Nat.add_mod_right ..) U
   .refine V ud ?_;simp only[Dp,iy];exact V (show run.length+(cv.length+1)=0+cv.length+17 by exact rr [1,-1] [1,1] (.e (.a .x<|.o .y)<|.a (.a (.n 0) .y)<|.n 17) [.e (.o .x)<|.n 17] U Fb)<|V (NG _ bd)<|xw (.e (.a (.a (.a (.a .x<|.o<|.a .y .z)<|.n 0) .w) .u)<|.a (.a (.a .x .y)<|.a .z .w)<|.o .u) [] U
theorem adm(L:Sub (ex j) a.heap)(c:kE j q cv t aB)(ay:(aB.map (·.1)).Nodup)(ab:aB.length<=1000)(av:cv.length%17≠0)(ah:∀v,dG (t+(cv.length/17+1)) a v->(∀p:List aq,(∀f∈p,0<=f/\f<a.heap.objs.size)->fd j v.heap p (.rA aB) (.ref a.heap.objs.size))->C (.ref a.heap.objs.size) v):Y ao j q (dictDisplay<|cv.map λr=>(W r.1,r.2)) C a:=by
 refine Y.bind<|adl (bV:=a) _ (λr im run aI=>?_) (λr im run aI=>?_) L c aQ [] [] [] 0 0 a _ ⟨dG.refl a,U,U⟩ .nil bd (by simpa using ay) (by simpa using ab) λim run b6 oW l aA v de aZ aI bp aS=>?_
 .have c9:((run++[(r.1,r.2)]).length==17)=a1:=by simp;exact rq [-1,1] (.ne .x<|.n 16) [.t (.o .x)<|.n 17] U aI
  simp only[c9,CN,if_false]
 .have c9:((run++[(r.1,r.2)]).length==17)=Z:=by simp;exact Ii [1,-1] [1,1] (.e .x<|.n 16) [.e (.o .x)<|.n 17] U aI
  simp only[c9,if_true];rfl
 .have KS:run≠[]:=by intro e;subst e;simp at aI;exact av<|id<|Dm aI
  have adn:(b6.map (·.1)++oW.map (·.1)).Nodup:=by refine b' mc<|V bp ?_;simpa using ay
  have ado:b6.length+oW.length<=1000:=by have:=congrArg hg bp;simp at this;exact hh (.l (.a .x .y)<|.n 1000) [.l .z<|.n 1000,.e (.a .x .y) .z] U ab this
  refine Y.bind ((S3 L de aZ KS adn ado (by refine V aI ?_;exact cy (.l .x<|.n 100) [.t .x<|.n 17] U<|Xq _ 16) λan KR=>?_):Y ao j q (KP run im) _ v);refine cY KR λs bP=>cY bP λcB dv=>fx dv λcH bl ek ud=>?_;obtain-:=cB;obtain-:=ek;refine Y.pure<|ah an ?_ λp co=>?_
  .have i:l+(aA+1)=t+(cv.length/17+1):=by simp at aS;exact Ap [1,-1] [1,1] (.e (.a .x<|.o .y)<|.a .z<|.o .w) [.e (.a .x .y)<|.a .z .w] U aS
   exact b' i s
  .refine(Ib _ cH U (λe=>h' _ (co _ e).2) bl ?_);rw[bp]at ud;exact(ud p co).sub λB a8=>mt a8
noncomputable def pairsOf(n:Env)(aj:Pos):List bB->List bB->List (Sem al×Sem al)|l::bR,u::O=>(dD l n,do let f<-dD u n;zs aj;dz f)::pairsOf n aj bR O|bL,dQ=>[]
theorem S7:∀(bR O:List bB),(evalEachOpt (bR.map W) n).zip ((uE O n).map λu=>do let f<-u;zs aj;dz f)=(pairsOf n aj bR O).map λr=>(W r.1,r.2)|[],O=>by refine V z4<|?_;cases O<;>rfl|l::bR,[]=>by rfl|l::bR,u::O=>by refine V iz<|(((V iz<|V iz<|V N5<|V (S7 bR O) ?_)));rfl
noncomputable def envOf(r:cl):Env:={scope:=r.main.scope,locals:=l',globals:=l',cells:=[],code:=.ref 13,frame:=W 14}
noncomputable def Fc:List (Str×Int):=[("VERSION_M1",-3),("VERSION_M2",-2),("VERSION_M3",-1),("VERSION_M4",0),("ERROR_LEVEL_L",1),("ERROR_LEVEL_M",0),("ERROR_LEVEL_Q",3),("ERROR_LEVEL_H",2)]
theorem adp(aj:Pos):hI ex (dD (.Name "VERSION_M1" aj)<|envOf ao) (.int (-3) 262) 0:=λb j l=>by cases b<;>cbv
theorem adq(aj:Pos):hI ex (dD (.Name "VERSION_M2" aj)<|envOf ao) (.int (-2) 259) 0:=λb j l=>by cases b<;>cbv
theorem adr(aj:Pos):hI ex (dD (.Name "VERSION_M3" aj)<|envOf ao) (.int (-1) 256) 0:=λb j l=>by cases b<;>cbv
theorem ads(aj:Pos):hI ex (dD (.Name "VERSION_M4" aj)<|envOf ao) (.int 0 253) 0:=λb j l=>by cases b<;>cbv
theorem adt(aj:Pos):hI ex (dD (.Name "ERROR_LEVEL_L" aj)<|envOf ao) (.int 1 264) 0:=λb j l=>by cases b<;>cbv
theorem adu(aj:Pos):hI ex (dD (.Name "ERROR_LEVEL_M" aj)<|envOf ao) (.int 0 266) 0:=λb j l=>by cases b<;>cbv
theorem adv(aj:Pos):hI ex (dD (.Name "ERROR_LEVEL_Q" aj)<|envOf ao) (.int 3 268) 0:=λb j l=>by cases b<;>cbv
theorem adw(aj:Pos):hI ex (dD (.Name "ERROR_LEVEL_H" aj)<|envOf ao) (.int 2 270) 0:=λb j l=>by cases b<;>cbv
theorem adx(aj:Pos):hI ex (dD (.Name "EC" aj)<|envOf ao) (.ref 135) 0:=λb j l=>by cases b<;>cbv
theorem ady:hI ex (sd<|.ref 135) .machine 0:=λb j l=>by cases b<;>cbv
theorem adz(f:Str)(k:Int)(c:Fc.lookup f=W k)(aj:Pos):∃E,hI ex (dD (.Name f aj)<|envOf ao) (.int k E) 0:=by
 have bt:=GL c;simp only[Fc,fR,p2,oy,or_false]at bt;rcases bt with⟨rfl,rfl⟩|⟨rfl,rfl⟩|⟨rfl,rfl⟩|⟨rfl,rfl⟩|⟨rfl,rfl⟩|⟨rfl,rfl⟩|⟨rfl,rfl⟩|⟨rfl,rfl⟩
 .exact⟨_,adp aj⟩
 .exact⟨_,adq aj⟩
 .exact⟨_,adr aj⟩
 .exact⟨_,ads aj⟩
 .exact⟨_,adt aj⟩
 .exact⟨_,adu aj⟩
 .exact⟨_,adv aj⟩
 .exact⟨_,adw aj⟩
theorem S8:fd j c p (.g5<|.int k) (.int k E):=p1 E U
theorem adA:fd j c p (.g5<|.str k) (.str k E):=p1 E U
theorem adB:fd j c p (.g5 .none) .none:=rfl
theorem KT(l:fd j c p (.g5<|.int k) g):∃E,g=.int k E:=l
theorem Fd:rT j q (dD (.Constant (.int k) l aj) n) 0 (λp a g=>fd j a.heap p (.g5<|.int k) g):=λa C L ah=>Y.of<|tr<|ah _ _ (dG.tok ..) λp w=>S8
theorem adC:rT j q (dD (.Constant .none l aj) n) 0 (λp a g=>fd j a.heap p (.g5 .none) g):=λa C L ah=>Y.pure<|ah _ _ (dG.refl a) λp w=>adB
theorem adD:rT j q (dD (.Constant (.str f) l aj) n) 0 (λp a g=>fd j a.heap p (.g5<|.str f) g):=λa C L ah=>Y.of<|GP<|ah _ _ (dG.tok ..) λp w=>adA
theorem adE(c:Fc.lookup f=W k):rT j q (dD (.Name f aj)<|envOf ao) 0 (λp a g=>fd j a.heap p (.g5<|.int k) g):=λa C L ah=>by obtain⟨E,bC⟩:=adz f k c aj;exact lX bC L<|ah _ _ (dG.refl a) λp w=>S8
theorem adF(fA:q.depth+100<fF):rT j q (dD (.Call (.Name "EC" amj) [.Constant (.int h) iJ acf,.Constant (.int b) Fe acg,.Constant (.int g) ach AW] [] aj)<|envOf ao) 5 (λp a u=>fd j a.heap p (.g5<|.qP h b g) u):=λa C L ah=>by
 .refine Y.bind<|lX (adx _) L ?_;refine Y.eq (V (C2 ..) U) ?_;refine d6<|xG (H:=λE=>E=a) (aU:=[]) (ak:=[]) (ar:=λE aR=>dG 0 a E/\∃KU kd KV,aR=[.int h KU,.int b kd,.int g KV]) U ?_ U λaR an aL bo=>?_
  .rintro E nk aj rfl qO;refine Y.eq (V (kr U)<|V (kr U)<|V (kr U)<|U) ?_;show Y ao j q (ou [(a1,_),(a1,_),(a1,_)]) _ _;refine Y.eq (U) ?_;refine Y.bind<|Fd (l:=iJ) (aj:=acf) _ _ L λfM an aL cR=>?_;refine c5 (KT (cR [] aW):∃E,fM=.int h E) λiI bP=>V bP ?_;refine gK bd ?_;refine eo<|d6 ?_;refine Y.eq (U) ?_;refine Y.bind<|Fd (l:=Fe) (aj:=acg) _ _ (L.grow aL.1) λg5 am a_ eZ=>?_;refine c5 (KT (eZ [] aW):∃E,g5=.int b E) λn5 cB=>V cB ?_;refine gK bd ?_;refine eo<|d6 ?_;refine Y.eq (U) ?_;refine Y.bind<|Fd (l:=ach) (aj:=AW) _ _ (L.grow<|aL.1.trans a_.1) λadG cg ce jj=>?_;refine c5 (KT (jj [] aW):∃E,adG=.int g E) λadH dv=>V dv ?_;refine gK bd ?_;refine eo<|d6 ?_;refine Y.pure<|Y.pure<|Y.pure<|Y.pure ?_;have s:dG 0 E cg:=by have:=(aL.trans a_).trans ce;simpa using this
   exact qO _ _ s.1 ⟨s,(Pr iI n5 adH U)⟩
  .refine cY bo λaL ek=>sl ek λKU kd KV e_=>V e_ ?_;have fm:=L.grow aL.1;refine dV ?_;refine Y.bind<|lX ady fm ?_;refine Y.bind<|acV fA fm λam a_ aP=>?_;refine du<|k5<|o'<|Y.pure ?_;have s:dG 5 a am:=by have:=aL.trans a_;simpa using this
   refine ah _ am s λp co=>?_;refine(Xh _ _ KU kd KV _ U (λe=>?_) aP);exact cd ((co _ e).2)<|aL.2▸iw _ _
noncomputable def adI:PySem.Const->Option (Nat×bh)|.int k=>W (0,.int k)|.none=>W (0,.none)|.str f=>W (0,.str f)|_=>aQ
noncomputable def cT:bB->Option Int|.Constant (.int k) bL dQ=>W k|_=>aQ
noncomputable def S9:bB->Option Str|.Name f bL=>W f|_=>aQ
noncomputable def ints3:List bB->Option (Int×Int×Int)|[h,b,g]=>(cT h).bind λh=>(cT b).bind λb=>(cT g).bind λg=>W (h,b,g)|_=>aQ
noncomputable def Ff:bB->Option (Nat×bh)|.Constant g bL dQ=>adI g|.Name f bL=>(Fc.lookup f).bind λk=>W (0,.int k)|.Call I ec [] bL=>(S9 I).bind λf=>(kz<|f==("EC":Str)).bind λw=>(ints3 ec).bind λE=>W (5,.qP E.1 E.2.1 E.2.2)|_=>aQ
noncomputable def KW:List bB->Option (Nat×List bh)|[]=>W (0,[])|i::aB=>(Ff i).bind λh=>(KW aB).bind λb=>W (h.1+b.1,h.2::b.2)
noncomputable def S_:bB->Option (List bB)|.Tuple aB bL dQ=>W aB|_=>aQ
noncomputable def dictOf:bB->Option (List (Option bB)×List bB)|.Dict bR O bL=>W (bR,O)|_=>aQ
noncomputable def Fg(i:bB):Option (Nat×bh):=(S_ i).elim (Ff i) λaB=>(KW aB).bind λr=>(kz<|aB.all d0&&hY r.2.length 1000).bind λw=>W (r.1+1,.tup r.2)
noncomputable def S':bh->Option dC|.none=>W .none|.int k=>W<|.int k|.str f=>W<|.str f|_=>aQ
noncomputable def KX:List bB->Option (List dC)|[]=>W []|i::aB=>(Ff i).bind λh=>(kz<|Dh h.1 0).bind λw=>(S' h.2).bind λl=>(KX aB).bind λbR=>W<|l::bR
noncomputable def KY:List (Option bB)->Option (List bB)|[]=>W []|o::aB=>o.bind λi=>(KY aB).bind λy=>W<|i::y
noncomputable def KZ:List dC->Bool|[]=>Z|l::bR=>!bR.contains l&&KZ bR
noncomputable def Fh:List dC->List (Nat×fb)->Option (Nat×List (dC×fb))|[],[]=>W (0,[])|l::bR,u::O=>(Fh bR O).bind λy=>W (u.1+y.1,(l,u.2)::y.2)|bL,dQ=>aQ
noncomputable def adJ(bR:List dC)(O:List<|Nat×fb):Option (Nat×fb):=(kz<|KZ bR&&hY bR.length 1000&&!(Dh (bR.length%17) 0)).bind λw=>(Fh bR O).bind λy=>W (y.1+(y.2.length/17+1),.rA y.2)
noncomputable def K0{bf cE:Type}(I:bf->Option cE):List bf->Option (List cE)|[]=>W []|h::y=>(I h).bind λb=>(K0 I y).bind λaG=>W<|b::aG
noncomputable def K1(I:bB->Option (Nat×fb))(z:List (Option bB)×List bB):Option (Nat×fb):=(KY z.1).bind λbR=>(KX bR).bind λmk=>(K0 I z.2).bind λO=>adJ mk O
noncomputable def Ta(i:bB):Option (Nat×fb):=(dictOf i).elim ((Fg i).map λr=>(r.1,.g5 r.2))<|K1 λi=>(Fg i).map λr=>(r.1,.g5 r.2)
noncomputable def K2(i:bB):Option (Nat×fb):=(dictOf i).bind<|K1 Ta
abbrev v4(j:b7)(q:bY)(i:bB)(t:Nat)(u:fb):Prop:=rT j q (dD i<|envOf ao) t λp a g=>fd j a.heap p u g
inductive BA{bf cE:Type}(b_:bf->cE->Prop):List bf->List cE->Prop|nil:BA b_ [] []|cons{h:bf}{b:cE}{D:List bf}{y:List cE}:b_ h b->BA b_ D y->BA b_ (h::D) (b::y)
set_option tactic.hygienic true in theorem K3(c:cT i=W k):∃aD r,i=.Constant (.int k) aD r:=by
 cases i
 case Constant g aD r=>
  cases g
  case int=>cases c;exact(j1 _ _ U)
  all_goals exact dI c
 all_goals exact dI c
theorem adK(c:S9 i=W f):∃r,i=.Name f r:=by
 cases i
 case Name=>cases c;exact⟨_,U⟩
 all_goals exact dI c
set_option tactic.hygienic true in theorem K4(fA:q.depth+100<fF)(c:Ff i=W (t,u)):v4 j q i t (.g5 u):=by
 cases i
 case Constant g _ _=>
  cases g
  case int=>cases c;exact Fd
  case none=>cases c;exact adC
  case str=>cases c;exact adD
  all_goals exact dI c
 case Name=>exact dY c λk aI c=>by cases c;exact adE aI
 case Call I ec bR _=>
  cases bR
  case nil=>
   refine dY c λf af c=>dY c λw ap c=>dY c λE bk c=>?_;cases c;refine c5 (adK af) λr e9=>V e9 ?_;cases eq_of_beq<|rL ap
   match ec,bk with
   |[h,b,g],bk=>refine dY bk λk a7 c=>dY c λaD m c=>dY c λl az c=>?_;cases c;exact lh (K3 a7) λw w jH=>V jH<|lh (K3 m) λw w mh=>V mh<|lh (K3 az) λw w nE=>V nE<|adF fA
  all_goals exact dI c
 all_goals exact dI c
theorem Tb(fA:q.depth+100<fF):∀{aB:List bB}{t:Nat}{O:List bh},KW aB=W (t,O)->aB.all d0=Z->∀(a:ag)(aj:Pos)(C:List al->ag->Prop),Sub (ex j) a.heap->(∀aR v,dG t a v->(∀p:List aq,(∀f∈p,0<=f/\f<a.heap.objs.size)->bW v.heap p O aR)->C aR v)->Y ao j q (ou<|jX aj<|je aB<|envOf ao) C a|[],t,O,c,bL,a,aj,C,L,ah=>by cases c;exact Y.pure<|ah [] a (dG.refl a) λp w=>by exact U|i::aB,t,O,c,ay,a,aj,C,L,ah=>by refine dY c λh af c=>dY c λb ap c=>?_;cases c;rw[nQ,h_]at ay;exact(kr ay.1).symm▸Y.bind (K4 fA af a _ L λg an aL cR=>eo<|d6<|Tb fA ap ay.2 an aj _ (L.grow aL.1) λaR am a_ eZ=>Y.pure<|ah _ am (aL.trans a_) λp co=>(jg g aR U (cf.to (λb o m i=>⟨a_.1.1 b o (λe=>dt e) i,m⟩) _ _<|cR p co)<|eZ p<|ym aL co))
theorem EP{bf cE:Type}{o:Option bf}{b:cE}{I:bf->cE}{B:cE}{ak:Prop}(c:o.elim b I=B)(iF:o=aQ->b=B->ak)(jn:∀h,o=W h->I h=B->ak):ak:=by
 cases o
 .exact iF U c
 .exact jn _ U c
theorem adL{i:bB}{aB:List bB}{ak:Prop}(c:S_ i=W aB)(l:∀aD r,i=.Tuple aB aD r->ak):ak:=by cases i<;>first|exact dI c|exact l _ _ (congrArg (O' · _ _)<|lk c)
theorem Tc{i:bB}{z:List (Option bB)×List bB}{ak:Prop}(c:dictOf i=W z)(l:∀r,i=.Dict z.1 z.2 r->ak):ak:=by cases i<;>first|exact dI c|exact l _<|congrArg (λz:List (Option bB)×List bB=>PySem.Expr.Dict z.1 z.2 _)<|lk c
theorem adM(fA:q.depth+100<fF){i:bB}{t:Nat}{u:bh}(c:Fg i=W (t,u)):v4 j q i t (.g5 u):=by
 refine EP c (λw c=>K4 fA c) λaB bC c=>adL bC λaD aj bG=>dY c λr af c=>dY c λw az c=>?_
 .cases c;refine V bG<|cY (l8.mp<|rL az) λil lY=>?_;intro a C L ah;refine dV<|Y.bind<|Tb fA af il a aj _ L λaR an aL cR=>Y.of<|jd ?_ ?_
  .exact ah _ _ (aL.trans<|dG.push an _ an.toks) λp co=>Qo (λf R=>cw (co f R).2 aL.1.2) (by simpa using cR p co)
  .have:r.2.length<=1000:=mI lY;show aR.toArray.size<=cI;have ab:cI=2^24:=U;exact V xc<|j4 [1,1,1,-1] (.l .x .y) [.e .x .z,.l .z<|.n 1000,.e .y<|.n 16777216] U ((cR [] aW).length) this ab
set_option tactic.hygienic true in theorem adN(aS:S' u=W l)(y:fd j c [] (.g5 u) g):l.is g=Z:=by
 cases u
 case none=>exact lk aS▸(show g=_ from y)▸U
 case int k=>exact c5 y λE e=>lk aS▸e▸beq_self_eq_true k
 case str k=>exact c5 y λE e=>lk aS▸e▸beq_self_eq_true k
 all_goals exact dI aS
theorem Td(fA:q.depth+100<fF):∀{bR O:List bB}{mk:List dC}{cH:List<|Nat×fb}{t:Nat}{aB:List<|dC×fb},KX bR=W mk->BA (λu r=>v4 j q u r.1 r.2) O cH->Fh mk cH=W (t,aB)->kE j q (pairsOf (envOf ao) aj bR O) t aB
 |[],O,mk,cH,t,aB,aS,aM,ab=>by cases aS;cases cH with|nil=>cases ab;cases aM;exact .nil|cons r cH=>exact dI ab
 |l::bR,O,mk,cH,t,aB,aS,aM,ab=>by refine dY aS λh af aS=>dY aS λw aO aS=>dY aS λFa adO aS=>dY aS λamP ap aS=>?_;cases aS;cases aM with|nil=>exact dI ab|@cons amQ r adP cv u5 qP=>refine dY ab λy kC ab=>?_;cases ab;exact .cons (λa C L ah=>K4 (t:=0) fA (af.trans<|congrArg W<|H2 (Nat.eq_of_beq_eq_true<|rL aO) U) a C L λg v s y=>ah g v s λp co=>adN adO<|y [] aW) (λa C L ah=>Y.bind<|u5 a _ L λg v s y=>dV<|Y.pure<|ah g v s y)<|Td fA ap qP kC
theorem Te:∀{bR:List dC},KZ bR=Z->bR.Nodup|[],bL=>rd|l::bR,c=>by exact cY (l8.mp c) λaf ap=>List.nodup_cons.mpr ⟨λe=>iV<|(congrArg Bool.not<|N6.mpr e).symm.trans af,Te ap⟩
theorem Tf:∀{bR:List dC}{O:List<|Nat×fb}{t:Nat}{aB:List<|dC×fb},Fh bR O=W (t,aB)->aB.map (·.1)=bR
 |[],O,t,aB,c=>by cases O with|nil=>cases c;rfl|cons r O=>exact dI c
 |l::bR,O,t,aB,c=>by cases O with|nil=>exact dI c|cons r O=>refine dY c λy aa c=>?_;cases c;exact congrArg (l::·)<|Tf aa
theorem Tg:∀{D:List<|Option bB}{y:List bB},KY D=W y->D=y.map W|[],y,c=>lk c▸U|o::D,y,c=>dY c λi af c=>dY c λfV ap c=>lk c▸af▸congrArg (W i::·) (Tg ap)
theorem Th{bf cE:Type}{I:bf->Option cE}{b_:bf->cE->Prop}(bg:∀h b,I h=W b->b_ h b):∀{D:List bf}{y:List cE},K0 I D=W y->BA b_ D y|[],y,c=>lk c▸.nil|h::D,y,c=>dY c λb af c=>dY c λaG ap c=>lk c▸.cons (bg _ _ af) (Th bg ap)
theorem Ti(fA:q.depth+100<fF){I:bB->Option (Nat×fb)}{z:List (Option bB)×List bB}{aj:Pos}{t:Nat}{u:fb}(bg:∀i t u,I i=W (t,u)->v4 j q i t u)(c:K1 I z=W (t,u))(a:ag)(C:al->ag->Prop)(L:Sub (ex j) a.heap)(ah:∀v,dG t a v->(∀p:List aq,(∀f∈p,0<=f/\f<a.heap.objs.size)->fd j v.heap p u (.ref a.heap.objs.size))->C (.ref a.heap.objs.size) v):Y ao j q (dD (.Dict z.1 z.2 aj)<|envOf ao) C a:=by refine dY c λbR aP c=>dY c λmk aS c=>dY c λcH aM c=>dY c λw az c=>dY c λy ab c=>?_;cases c;refine cY (l8.mp<|rL az) λaz sZ=>cY (l8.mp az) λil lY=>?_;have i:=Tf ab;have ys:y.2.length=mk.length:=(d3 ..).symm.trans<|congrArg hg i;have aZ:=Td (aj:=aj) fA aS (Th (b_:=λu r=>v4 j q u r.1 r.2) (λh b m=>bg h b.1 b.2 m) aM) ab;have cr:=aZ.length;exact V (Tg aP)<|V (arm_eval_Dict ..)<|V (S7 ..)<|dV<|adm L aZ (i▸Te il) (ys.symm▸mI lY) (b' cr<|V ys λe=>iV<|(congrArg (λl=>!Dh l 0) e).symm.trans sZ) λv s aS=>ah v (cr▸s) aS
theorem adQ(fA:q.depth+100<fF){i:bB}{t:Nat}{u:fb}(c:Ta i=W (t,u)):v4 j q i t u:=by
 have m:∀i t u,(Fg i).map (λr=>(r.1,fb.g5 r.2))=W (t,u)->v4 j q i t u:=λi t u c=>u1 c λr aZ e=>by cases e;exact adM fA aZ
 exact EP c (λw c=>m _ _ _ c) λz bC c=>Tc bC λr bG=>V bG λa C L ah=>Ti fA m c a C L λv=>ah _ v
noncomputable abbrev rV:Ctx:=⟨.builtin "claim.caller" {},aQ,aQ,[],aQ⟩
noncomputable def BB(r:cl):Sem (al×aq):=do
 let code<-moduleCode r.main let frame<-newBodyFrame code l' l'
 pure (code,frame)
section
noncomputable def yt(H:cc):e0:=⟨lW (oC H).objs.toList,11,boot_toks⟩
noncomputable def BC(j:b7):e0:=match kA ⟨ao,j.params⟩ 0 (λw w w=>aQ) rV (BB ao) default (yt j.params)with|some f=>f.2.2|none=>⟨.nil,0,0⟩
end
theorem adR(j:b7):kA ⟨ao,j.params⟩ 0 (λw w w=>aQ) rV (BB ao) default (yt j.params)=W (.ok (.ref 13,14),default,BC j):=by cbv
noncomputable abbrev mv(r:cl):Ctx:=rV.enter (.body (rl r)<|envOf r) aQ default
noncomputable def Tj(r:cl):Sem Flow:=do
 zG (rl r)<|envOf r
 dE (r.main.body.take 12)<|envOf r
theorem adS(j:b7):kA ⟨ao,j.params⟩ 0 (tT nc ⟨ao,j.params⟩ 0 400) (mv ao) (Tj ao) default (BC j)=W (.ok .next,⟨31,0,73,58⟩,⟨n_ ao j.params,139,400⟩):=by cbv
section
def h6{bf:Type}(H:cc)(x:Nat)(E:Sem bf)(y:bf)(aY:BT)(t l:Nat)(e:Pos)(ue:BT)(s5 fB:Nat)(dg:Pos):Prop:=kA ⟨ao,H⟩ x (tT nc ⟨ao,H⟩ x 400) (mv ao) E e ⟨aY,t,l⟩=W (.ok y,dg,⟨ue,s5,fB⟩)
theorem Fi{bf:Type}{j:b7}{x:Nat}{E:Sem bf}{y:bf}(aY ue:cc->BT){t l s5 fB:Nat}{e dg:Pos}(c:∀b,h6 (j.withFollow "special-get-raises" b).params x E y (aY (j.withFollow "special-get-raises" b).params) t l e (ue (j.withFollow "special-get-raises" b).params) s5 fB dg):h6 j.params x E y (aY j.params) t l e (ue j.params) s5 fB dg:=by have:=c<|j.params.followText "special-get-raises";rwa[Ah]at this
variable(j:b7)(T:Nat->Obj)(x:Nat)
noncomputable def Fj(r:cl):List Stmt:=(r.main.body.drop 13).take 2
noncomputable def Fk(r:cl):List Stmt:=(r.main.body.drop 15).take 1
noncomputable def Fl(r:cl):List Stmt:=r.main.body.drop 16
theorem adT(e:Pos):h6 (j.withFollow "special-get-raises" a1).params x (pa (envOf ao) "ECC"<|.ref 139) () (yi ao (j.withFollow "special-get-raises" a1).params T) 1868 0 e (ju ao (j.withFollow "special-get-raises" a1).params T x 20 0) 1868 1 e:=by unfold h6;cbv
theorem adU(e:Pos):h6 (j.withFollow "special-get-raises" Z).params x (pa (envOf ao) "ECC"<|.ref 139) () (yi ao (j.withFollow "special-get-raises" Z).params T) 1868 0 e (ju ao (j.withFollow "special-get-raises" Z).params T x 20 0) 1868 1 e:=by unfold h6;cbv
theorem adV(e:Pos):h6 (j.withFollow "special-get-raises" a1).params x (dE (Fj ao)<|envOf ao) .next (ju ao (j.withFollow "special-get-raises" a1).params T x 20 0) 1868 1 e (ju ao (j.withFollow "special-get-raises" a1).params T x 22 21) 1889 576 ⟨76,0,76,10⟩:=by unfold h6;cbv
theorem adW(e:Pos):h6 (j.withFollow "special-get-raises" Z).params x (dE (Fj ao)<|envOf ao) .next (ju ao (j.withFollow "special-get-raises" Z).params T x 20 0) 1868 1 e (ju ao (j.withFollow "special-get-raises" Z).params T x 22 21) 1889 576 ⟨76,0,76,10⟩:=by unfold h6;cbv
theorem adX:h6 (j.withFollow "special-get-raises" a1).params x (dE (Fk ao)<|envOf ao) .next (ju ao (j.withFollow "special-get-raises" a1).params T x 22 21) 1889 576 ⟨76,0,76,10⟩ (ju ao (j.withFollow "special-get-raises" a1).params T x 23 23) 1891 833 ⟨77,0,77,10⟩:=by unfold h6;cbv
theorem adY:h6 (j.withFollow "special-get-raises" Z).params x (dE (Fk ao)<|envOf ao) .next (ju ao (j.withFollow "special-get-raises" Z).params T x 22 21) 1889 576 ⟨76,0,76,10⟩ (ju ao (j.withFollow "special-get-raises" Z).params T x 23 23) 1891 833 ⟨77,0,77,10⟩:=by unfold h6;cbv
theorem adZ:h6 (j.withFollow "special-get-raises" a1).params x (dE (Fl ao)<|envOf ao) .next (ju ao (j.withFollow "special-get-raises" a1).params T x 23 23) 1891 833 ⟨77,0,77,10⟩ (kD ao (j.withFollow "special-get-raises" a1).params T x) 2011 1031 ⟨206,0,229,41⟩:=by unfold h6;cbv
theorem ad0:h6 (j.withFollow "special-get-raises" Z).params x (dE (Fl ao)<|envOf ao) .next (ju ao (j.withFollow "special-get-raises" Z).params T x 23 23) 1891 833 ⟨77,0,77,10⟩ (kD ao (j.withFollow "special-get-raises" Z).params T x) 2011 1031 ⟨206,0,229,41⟩:=by unfold h6;cbv
theorem ad1(e:Pos):h6 j.params x (pa (envOf ao) "ECC"<|.ref 139) () (yi ao j.params T) 1868 0 e (ju ao j.params T x 20 0) 1868 1 e:=Fi (yi ao · T) (ju ao · T x 20 0) λb=>b.rec (adT j T x e)<|adU j T x e
theorem ad2(e:Pos):h6 j.params x (dE (Fj ao)<|envOf ao) .next (ju ao j.params T x 20 0) 1868 1 e (ju ao j.params T x 22 21) 1889 576 ⟨76,0,76,10⟩:=Fi (ju ao · T x 20 0) (ju ao · T x 22 21) λb=>b.rec (adV j T x e)<|adW j T x e
theorem ad3:h6 j.params x (dE (Fk ao)<|envOf ao) .next (ju ao j.params T x 22 21) 1889 576 ⟨76,0,76,10⟩ (ju ao j.params T x 23 23) 1891 833 ⟨77,0,77,10⟩:=Fi (ju ao · T x 22 21) (ju ao · T x 23 23) λb=>b.rec (adX j T x)<|adY j T x
theorem runC:h6 j.params x (dE (Fl ao)<|envOf ao) .next (ju ao j.params T x 23 23) 1891 833 ⟨77,0,77,10⟩ (kD ao j.params T x) 2011 1031 ⟨206,0,229,41⟩:=Fi (ju ao · T x 23 23) (kD ao · T x) λb=>b.rec (adZ j T x)<|ad0 j T x
end
theorem K5(n:Env):∀(lZ l0:List ez),dE (lZ++l0) n=(dE lZ n>>=λI=>match I with|.next=>dE l0 n|I=>dz I)
 |[],l0=>by refine V (HA ..)<|V (wU ..) ?_;rfl|st::lZ,l0=>by
  refine V Hu<|V (pU ..)<|V (pU ..)<|V (bind_assoc ..) ?_
  congr 1
  funext I;cases I with|next=>exact K5 n lZ l0|_=>rfl
theorem ad4:(xn ao).cur=(BB ao>>=λa3=>(run (.body (rl ao) {scope:=ao.main.scope,locals:=l',globals:=l',cells:=[],code:=a3.1,frame:=W a3.2})>>=λw=>ret .none)):=by unfold xn BB;simp only[bind_assoc,pure_bind]
theorem boot_abs(H:cc):j0 (yt H).T (yt H).n (oC H).life=oC H:=by cbv
theorem ad5:rl ao=ao.main.body.take 12++(cj ao 12::ao.main.body.drop 13):=by cbv
def yu(f:Step):Prop:=∀I a,f≠.halt (.done I) a
theorem qQ:yu (.go a E):=λw w c=>nomatch c
theorem Fm[Decidable g](R:yu f)(a8:yu B):yu (if g then f else B):=by
 by_cases c:g
 .exact V (if_pos c) R
 .exact V (if_neg c) a8
theorem qR(c:∀I,o≠.done I):yu (.halt o a):=λI w i=>c I (Step.halt.inj i).1
set_option tactic.hygienic true in theorem ad6{dJ}{drawn}{toks os code aj stack}(yv:Sem Fin)(c:∀I,yv≠.pure (.done I)):yu (step den r j ⟨Fn,dJ,drawn,toks,os⟩ ⟨yv,code,aj,stack⟩):=by
 cases yv
 case pure g'=>
  cases g'
  case done I=>exact absurd U<|c I
  exact qQ
 case raise i=>cases stack with|nil=>exact Fm (qR λw c=>nomatch c)<|qR λw c=>nomatch c|cons fr ca=>cases fr<;>exact qQ
 case load h _ l=>
  dsimp only[step];generalize Fn.get? h=f;cases f
  .exact qR λw c=>nomatch c
  .exact qQ
 case genState s l=>
  dsimp only[step];generalize dJ[s]?=f;cases f
  .exact qR λw c=>nomatch c
  .exact qQ
 case resume s y D l=>dsimp only[step];generalize dJ[s]?=f;cases f with|none=>exact qR λw c=>nomatch c|some B=>
   cases B
   case fresh=>
    cases y
    case send u=>cases u<;>exact qQ
    exact qQ
   all_goals exact qQ
 case yield=>dsimp only[step];generalize splitAtGen stack=f;cases f with
  |none=>exact qR λw c=>nomatch c|some B=>exact qQ
 all_goals first|exact qQ|exact qR λw c=>nomatch c|exact Fm qQ (qR λw c=>nomatch c)|exact Fm (qR λw c=>nomatch c) qQ|exact Fm (qR λw c=>nomatch c) (qR λw c=>nomatch c)|skip
theorem ad7(c:step den r j a E=.halt (.done I) v):through E=Z:=by
 obtain⟨Fn,dJ,drawn,toks,os⟩:=a;obtain⟨yv,code,aj,stack⟩:=E;by_cases e:∃I,yv=.pure (.done I)
 .obtain⟨I,rfl⟩:=e;cases stack with
  |nil=>rfl|cons fr ca=>cases fr<;>cases c
 .exact absurd c<|ad6 yv (λI i=>e ⟨I,i⟩) _ _
theorem Tk:∀{t:Nat}{a v:ag}{E:Thread}{I:gb},runN den r j t a E=.halted (.done I) v->(∀l an iI,runN den r j l a E=.running an iI->iI.calm=Z)->a.asleep->∃aA iI,schedN den r j aA (.single a E)=.running (.single v iI)/\through iI=Z
 |0,_,_,_,_,c,_,_=>by cases c|t+1,a,v,E,I,c,az,ab=>by have i:=sstep_single den r j a E (az 0 a E U) ab;simp only[runN]at c;cases L:step den r j a E with
  |go am n5=>
   rw[L]at c i;refine g_ (i) (λi=>?_) λi=>?_
   .exact gc (Tk c (λl an iI e=>az (l+1) an iI (by simp only[runN,L];exact e))<|H3 (step_life den r j a am E n5 L) ab) λaA iI bt bC=>(tI (aA+1) iI (by simp only[schedN,i,Step.lift];exact bt) bC)
   .cases i|halt amR am=>rw[L]at c;injection c with af ap;subst af ap;obtain rfl:=step_halt_same den r j a am E _ L;exact(tI 0 E U<|ad7 L)
noncomputable def yw:ez->bB|.Assign bL u dQ=>u|_=>.Constant .none 0 default
noncomputable def rW:fb:=match K2 (yw<|cj ao 12)with|some (_,u)=>u|none=>.g5 .none
theorem ad8:K2 (yw<|cj ao 12)=W (1729,rW):=by cbv
noncomputable def Tl:ez->Pos|.Assign bL dQ r=>r|_=>default
theorem ad9:cj ao 12=.Assign [.Name "ECC" ⟨74,0,74,3⟩] (yw<|cj ao 12) (Tl<|cj ao 12):=by cbv
theorem ad_(fA:q.depth+100<fF)(c:K2 i=W (t,u))(a:ag)(C:al->ag->Prop)(L:Sub (ex j) a.heap)(ah:∀v,dG t a v->(∀p:List aq,(∀f∈p,0<=f/\f<a.heap.objs.size)->fd j v.heap p u (.ref a.heap.objs.size))->C (.ref a.heap.objs.size) v):Y ao j q (dD i<|envOf ao) C a:=by exact dY c λz af c=>Tc af λr bG=>V bG<|Ti fA (λi t u c=>adQ fA c) c a C L ah
theorem ad'(c:s4 aY<=t):Sub aY (j0 aY t au):=λh o db i fO=>(sk (cw (E6 _ _ _ i) c) i).trans fO
section
variable{j:b7}{a:ag}
abbrev h7{bf:Type}(j:b7)(A:Ctx)(E:Sem bf)(C:bf->Pos->ag->Prop)(r:Pos)(a:ag):Prop:=jZ (cq ao j) A E C (λw w w=>False) r a
theorem Fo(c:h7 j A E C r a)(l:∀h r a,C h r a->nk h r a):h7 j A E nk r a:=md _ A E l (λw w w f=>f) r a c
theorem pE(c:h7 j A E (λh r a=>h7 j A (I h) C r a) r a):h7 j A (E>>=I) C r a:=by show jZ _ _ _ _ _ _ _;exact V (z' ..) c
theorem Tm(c:h7 j A (E>>=I) C r a):h7 j A E (λh r a=>h7 j A (I h) C r a) r a:=by have aa:jZ _ _ _ _ _ _ _:=c;rw[z']at aa;exact aa
theorem aea(c:h7 j A E C r a):h7 j A (E.onRaise l) C r a:=by show jZ _ _ _ _ _ _ _;exact V (Op ..)<|md _ A E (λw w w f=>f) (λw w w f=>f.elim) r a c
theorem Tn(c:kA ⟨ao,j.params⟩ gq (tT nc ⟨ao,j.params⟩ gq I) A E r f=W (.ok h,bn,jm))(a5:C h bn<|jm.abs b gq):h7 j A E C r (f.abs b gq):=by rw[<-wZ]at c;exact JG (prog:=ao) (j:=j) (b:=b) (λA r a y az=>JH I A r a y az) A E C _ r f _ c a5
noncomputable def BD:Around:={handled:=aQ,depth:=400,frames:=aQ,guards:=aQ,units:=100000}
theorem aec(D:List ez)(i:Env):(Code.body D i).cUnits<=10000:=by show 3*1<=10000;decide
theorem aed:(mv ao).In BD:=by
 refine⟨U,?_,λD c=>(dI c),λs c=>(dI c),?_⟩
 .show frameCount [(Ac "claim.caller" {},default)]+(Code.body (rl ao)<|envOf ao).weight<=400;decide+kernel
 .have:=aec (rl ao)<|envOf ao;have ap:unitsOf [(Ac "claim.caller" {},default)]<=10:=iS;exact uK ..
theorem aeg(b:ag):h7 j (mv ao) (Tj ao) (λI r a=>I=.next/\a=e0.abs b 0 ⟨n_ ao j.params,139,400⟩) default (e0.abs b 0<|BC j):=Tn (adS j) ⟨U,U⟩
theorem aeh:sq (mv ao).below:=by
 intro f R
 revert f;refine g4 ?_ ?_
 .decide+kernel
 .intro f R;exact dt R
theorem aei:∀k,k<139->∃o,(n_ ao j.params).get k=W o/\hZ o=W o:=by
 have c:(c2 139).all (λk=>match(n_ ao j.params).get k with|some o=>(hZ o).isSome|none=>a1)=Z:=by cbv
 intro k ac;have:=hn.mp c k<|la.mpr ac;cases i:(n_ ao j.params).get k with|none=>rw[i]at this;cases this|some o=>rw[i]at this;refine(dj o U ?_);obtain⟨h,b,z,g⟩:=o;cases z<;>first|rfl|exact iV this
theorem K6(o:Obj):∀(E:BT)(t:Nat),(∀k,k<t->(E.get k).isSome=Z)->((E.ins t o).get t).isSome=Z
 |.nil,t,c=>by cases t with
  |zero=>rfl|succ t=>exact absurd (c 0<|zQ t) (by simp[BT.get])
 |.node u D y,t,c=>by
  refine V (Ai ..) ?_;by_cases ay:t=0
  .refine V ay ?_;rfl
  refine V (if_neg ay) ?_;by_cases aZ:t%2=1
  .refine V (if_pos aZ)<|V (mL ..)<|V (if_neg ay)<|V (if_pos aZ)<|K6 o D _ λk ac=>?_;have:=c (2*k+1) (by exact j4 [1,2,1] (.t (.o<|.m 2 .x) .y) [.t .x .z,.l (.m 2 .z) .y] U ac<|qd _ 2);rw[mL,if_neg (by exact cy (.ne (.o<|.m 2 .x)<|.n 0) [] U),if_pos<|w9 2 k 1,show(2*k+1)/2=k by exact rr [2,0,1] [2,1,0] (.e .x .y) [.l (.m 2 .x)<|.o<|.m 2 .y,.t (.o<|.m 2 .y)<|.a (.m 2 .x)<|.n 2] U (qd _ 2)<|qe _ 1]at this;exact this
  .refine V (if_neg aZ)<|V (mL ..)<|V (if_neg ay)<|V (if_neg aZ)<|K6 o y _ λk ac=>?_;have:=c (2*k+2) (by exact ph [1,2,1,2] (.t (.a (.m 2 .x)<|.n 2) .y) [.t .x .z,.l (.m 2 .w) .y,.e (.a .z<|.n 1) .w] U ac (qd _ 2)<|eN<|hh (.l (.n 1) .x) [.t .y .z,.l .z .x] U ac<|k9 _ _);rw[mL,if_neg (by exact cy (.ne (.a (.m 2 .x)<|.n 2)<|.n 0) [] U),if_neg λe=>absurd ((w9 2 k 2).symm.trans e) bd,show(2*k+2)/2-1=k by exact nW [2,2,0,1,0] [2,0,1,0,2] (.e .x .y) [.l .z<|.a .x<|.n 1,.l (.m 2 .z)<|.a (.m 2 .y)<|.n 2,.t (.a (.m 2 .y)<|.n 2)<|.a (.m 2 .z)<|.n 2,.e (.a .x<|.n 1) .z] U (f2 _ _) (qd _ 2) (qe _ 1)<|eN<|gd [2,1] (.l (.n 1) .x) [.t (.a (.m 2 .y)<|.n 2)<|.a (.m 2 .x)<|.n 2] U<|qe _ 1]at this;exact this
theorem To:∀(D mw:List Obj)(E:BT),(∀k,k<mw.length->E.get k=mw[k]?)->∀k,k<(mw++D).length->(D.foldl (λ(f:BT×Nat)o=>(f.1.ins f.2 o,f.2+1)) (E,mw.length)).1.get k=(mw++D)[k]?
 |[],mw,E,c,k,ac=>by simpa using c k (by simpa using ac)|o::D,mw,E,c,k,ac=>by
  have L:((E.ins mw.length o).get mw.length).isSome=Z:=K6 o E _ λaD dx=>by refine V (c aD dx) ?_;simp[dx]
  have:=To D (mw++[o]) (E.ins mw.length o) (λaD dx=>by
   refine V (BT.get_ins o E _ L ..) ?_;by_cases i:aD=mw.length
   .subst i;simp
   .exact V (if_neg i)<|V (c aD (by simp at dx;omega))<|V (uQ (by simp at dx;omega)) U) k (by simpa using ac);simpa using this
theorem K7(D:List Obj)(k:Nat)(ac:k<D.length):(lW D).get k=D[k]?:=by have:=To D [] .nil (λw c=>nomatch c) k (by simpa using ac);simpa[lW]using this
theorem aej(ay:c.objs.size=t)(aK:∀k,k<t->E.get k=c.objs[k]?):j0 E t c.life=c:=by
 obtain⟨objs,au⟩:=c;refine congrArg (Heap.mk · au)<|OE λk=>?_;have:=absHeap_at E t au k;refine this.trans ?_;by_cases ac:k<t
 .refine V (if_pos ac)<|V (aK k ac)<|V (uT (by exact j4 [1,-1,1] (.t .x .y) [.e .y .z,.t .x .z] U ay ac)) ?_;rfl
 .exact V (if_neg ac)<|V (HN (by lia)) U
theorem Tp{c:eH}{k:Nat}{o:Obj}(i:c.get? k=W o):c.objs[k]?=W o:=by
 unfold Heap.get? at i;split at i
 .exact dI i
 .exact i
theorem Tq:(Ba ao j.params).length=139:=by cbv
theorem aek{ch:List Obj}{b a:ag}(aI:ch.length=139)(kc:∀k,k<139->∃o,(lW ch).get k=W o/\hZ o=W o)(s:dG 1729 (e0.abs b 0 ⟨lW ch,139,400⟩) a):a=e0.abs a a.toks ⟨lW<|ch++(c2 1729).map λk=>(a.heap.objs[139+k]?).getD default,1868,0⟩:=by
 have ab:a.heap.objs.size=1868:=by refine V s.2 ?_;show(j0 _ _ _).objs.size+1729=_;exact V (tF ..) U
 have cJ:j0 (lW<|ch++(c2 1729).map λk=>(a.heap.objs[139+k]?).getD default) 1868 a.heap.life=a.heap:=by
  refine aej ab λk ac=>V (K7 _ _ (by refine V gU<|V aI<|V (d3 ..)<|V oz ?_;exact ac))<|g_ (pZ k 139) (λc=>?_) λc=>?_
  .refine V (uQ<|aI▸c)<|br (kc k c) λo af ap=>?_;exact(K7 _ _<|aI▸c)▸af.symm▸(Tp<|s.1.1 k o (λe=>dt e)<|(sk c af).trans ap).symm
  .refine V (xi<|aI▸c)<|V aI<|V (fk)<|V (mJ (by exact(ix 139<|k).elim (λd_=>c3 (.t .x<|.n 1729) [.t .y<|.n 1868,.e (.a .x<|.n 139) .y] U ac<|eN d_) λd_=>c3 (.t .x<|.n 1729) [.l .y<|.n 139,.l .x .y] U d_<|k9 _ _)) ?_;show W ((a.heap.objs[139+(k-139)]?).getD default)=_;refine V (show 139+(k-139)=k by exact rr [1,1,0] [1,0,1] (.e (.a (.n 139) .x) .y) [.l .y<|.a .x<|.n 139,.e (.a .x<|.n 139) .y] U (f2 _ _)<|eN c)<|V (uT (by exact gd [1,-1,1] (.t .x .y) [.e .y<|.n 1868,.t .x<|.n 1868] U ab ac)) ?_;rfl
 obtain⟨Fn,dJ,drawn,toks,os⟩:=a;show DI _ _ _ _ _=DI _ _ _ _ _;refine V cJ ?_;rfl
theorem ael{b a:ag}(s:dG 1729 (e0.abs b 0 ⟨n_ ao j.params,139,400⟩) a):∃T,a=e0.abs a a.toks ⟨yi ao j.params T,1868,0⟩:=⟨_,aek Tq aei s⟩
end
section
variable{j:b7}
theorem aem{x:Nat}:(vX ao j.params x).length=139:=by cbv
theorem Tr{ch yx:List Obj}{T:Nat->Obj}(aI:ch.length=139)(k:Nat)(af:139<=k)(ap:k<1868):(lW<|ch++((c2 1729).map T++yx)).get k=W (T<|k-139):=by refine V (K7 _ _ (by simp[aI];exact c3 (.t .x<|.a (.n 139)<|.a (.n 1729) .y) [.t .x<|.n 1868] U ap))<|V (xi (by exact c3 (.l .x .y) [.e .x<|.n 139,.l (.n 139) .y] U aI af))<|V aI<|V (uQ (by simp;exact Nat.sub_lt_left_of_lt_add af ap))<|V (fk)<|V (mJ (by omega)) ?_;rfl
theorem aen{ch:List Obj}{T:Nat->Obj}(aI:ch.length=139)(k:Nat)(af:139<=k)(ap:k<1868):(lW<|ch++(c2 1729).map T).get k=W (T<|k-139):=by have:=Tr (ch:=ch) (yx:=[]) (T:=T) aI k af ap;simpa using this
noncomputable def yy:List Addr:=c2 139++(c2 143).map λk=>k+1868
theorem aeo{ch yx aT:List Obj}{T:Nat->Obj}{u:fb}{g:al}{I Fp:fQ}(aI:ch.length=139)(bt:aT.length=139)(l:fd j (j0 (lW<|ch++(c2 1729).map T) 1868 I) (c2 139) u g):fd j (j0 (lW<|aT++((c2 1729).map T++yx)) 2011 Fp) yy u g:=by
 refine fd.to (λk o ac i=>⟨?_,?_⟩) _ _ l
 rotate_left
 .have cP:k<1868:=by have:=dB i;rwa[tF]at this
  intro e;refine bN e (λe=>?_) λe=>?_
  .exact ac e
  .refine mg e λaD w bP=>?_;obtain rfl:=bP;exact cd cP<|uK _ _
 have cP:k<1868:=by have:=dB i;rwa[tF]at this
 have j6:139<=k:=g_ (pZ k 139) (λe=>absurd (la.mpr e) ac) λe=>e;exact(sk (life:=Fp) (n:=2011) (cw cP bd)<|Tr (yx:=yx) (T:=T) bt k j6 cP).symm▸(sk (life:=I) cP<|aen (T:=T) aI k j6 cP)▸i.symm▸U
theorem aep{T:Nat->Obj}{x:Nat}{I Fp:fQ}{u:fb}(l:fd j (j0 (yi ao j.params T) 1868 I) (c2 139) u<|.ref 139):fd j (j0 (kD ao j.params T x) 2011 Fp) yy u (.ref 139):=aeo Tq aem l
noncomputable def kY(j:b7)(z:Drawn)(os:nd):Shared:=⟨oC j.params,#[],z,boot_toks,os⟩
theorem aeq(z:Drawn)(os:nd):e0.abs (kY j z os) 0 (yt j.params)=kY j z os:=by show DI _ _ _ _ _=DI _ _ _ _ _;refine V (show(kY j z os).heap.life=(oC j.params).life from U)<|V (boot_abs ..)<|V (ra ..) ?_;rfl
theorem aer(c:s4 aY=t)(b:ag)(l:Nat):Sub aY (e0.abs b 0 ⟨aY,t,l⟩).heap:=ad'<|mF c
theorem aes:BD.depth+100<recursionLimit:=by decide+kernel
theorem aet:AE (yw<|cj ao 12)=Z:=by cbv
inductive l1(j:b7)(os:nd)(a:ag):Prop|mk(fS:∃aY,(∃T x,aY=kD ao j.params T x)/\a.heap=j0 aY 2011 a.heap.life)(fT:a.gens=#[])(gy:a.os=os)(jI:fd j a.heap yy rW<|.ref 139):l1 j os a
theorem Fq:(e0.abs b gq ⟨aY,t,l⟩).heap=j0 aY t b.heap.life:=rfl
noncomputable def K8(r:cl):Sem Flow:=do
 pa (envOf r) "ECC"<|.ref 139
 dE (r.main.body.drop 13)<|envOf r
theorem K9(c:h6 j.params x E y aY t l e ue s5 fB dg)(a5:C y dg<|e0.abs b x ⟨ue,s5,fB⟩):h7 j (mv ao) E C e (e0.abs b x ⟨aY,t,l⟩):=Tn c a5
theorem Ts(c:h6 j.params x (dE lZ n) .next aY t l e ue s5 fB dg)(a5:h7 j (mv ao) (dE l0 n) C dg<|e0.abs b x ⟨ue,s5,fB⟩):h7 j (mv ao) (dE (lZ++l0) n) C e (e0.abs b x ⟨aY,t,l⟩):=K5 n lZ l0▸pE (K9 c a5)
theorem aeu(D:List ez):D.drop 13=(D.drop 13).take 2++((D.drop 15).take 1++D.drop 16):=(xf 2 _).symm.trans<|congrArg _<|HB.trans<|(xf 1 _).symm.trans<|congrArg _ HB
theorem aev(r:cl):K8 r=(do pa (envOf r) "ECC"<|.ref 139;dE (Fj r++(Fk r++Fl r))<|envOf r):=by unfold K8;refine V (aeu ..) ?_;rfl
theorem aew{os:nd}{e dm eY lU:Pos}{K_ Tt Tu j2 BE:BT}{Fs Ft Fu:List ez}{n:Env}{bc:Sem Unit}(aK:a.gens=#[])(aP:a.os=os)(i:a=e0.abs a a.toks ⟨K_,1868,0⟩)(aex:h6 j.params a.toks bc () K_ 1868 0 e Tt 1868 1 e)(aey:h6 j.params a.toks (dE Fs n) .next Tt 1868 1 e Tu 1889 576 dm)(aez:h6 j.params a.toks (dE Ft n) .next Tu 1889 576 dm j2 1891 833 eY)(aeA:h6 j.params a.toks (dE Fu n) .next j2 1891 833 eY BE 2011 1031 lU)(cK:∃T x,BE=kD ao j.params T x)(aS:∀u:fb,fd j (j0 K_ 1868 a.heap.life) (c2 139) u (.ref 139)->fd j (j0 BE 2011 a.heap.life) yy u (.ref 139))(l:fd j a.heap (c2 139) rW<|.ref 139):h7 j (mv ao) (bc>>=λw=>dE (Fs++(Ft++Fu)) n) (λI w v=>I=.next/\l1 j os v) e a:=by generalize aM:rW=u at l;have g7:l1 j os (e0.abs a a.toks ⟨BE,2011,1031⟩):=⟨⟨BE,cK,by refine V Fq ?_;rfl⟩,aK,aP,Fq▸aM▸aS u (((congrArg Shared.heap i).trans Fq)▸l)⟩;have c:=pE (I:=λw=>dE (Fs++(Ft++Fu)) n)<|K9 (b:=a) (C:=λw r a=>h7 j (mv ao) (dE (Fs++(Ft++Fu)) n) (λI w v=>I=.next/\l1 j os v) r a) aex<|Ts aey<|Ts aez<|K9 aeA ⟨U,g7⟩;rw[<-i]at c;exact c
theorem aeB{os:nd}{e:Pos}{b:ag}(aK:b.gens=#[])(aP:b.os=os)(s:dG 1729 (e0.abs b 0 ⟨n_ ao j.params,139,400⟩) a)(l:fd j a.heap (c2 139) rW<|.ref 139):h7 j (mv ao) (K8 ao) (λI w v=>I=.next/\l1 j os v) e a:=by exact c5 (ael s) λT i=>aev ao▸aew (s.3.trans aK) (s.1.6.trans aP) i (ad1 j T a.toks e) (ad2 j T a.toks e) (ad3 j T a.toks) (runC j T a.toks) (j1 T a.toks U) (λu=>aep) l
end
theorem aeC{os:nd}{e r:Pos}{aY:BT}{b:ag}{i:bB}{ca:List ez}{u:fb}{n:Env}{A:Ctx}(az:AE i=Z)(bp:∀(a:ag)(C:al->ag->Prop),Sub aY a.heap->(∀v,dG 1729 a v->(∀p:List aq,(∀f∈p,0<=f/\f<a.heap.objs.size)->fd j v.heap p u (.ref a.heap.objs.size))->C (.ref a.heap.objs.size) v)->Y ao j BD (dD i n) C a)(cn:A.In BD)(cJ:rw A.code=a1)(pn:sq A.below)(aI:s4 aY=139)(aeD:∀a,dG 1729 (e0.abs b 0 ⟨aY,139,400⟩) a->fd j a.heap (c2 139) u (.ref 139)->h7 j A (do pa n "ECC"<|.ref 139;dE ca n) (λI w v=>I=.next/\l1 j os v) ⟨74,0,74,3⟩ a):h7 j A (dE (.Assign [.Name "ECC" ⟨74,0,74,3⟩] i r::ca) n) (λI w v=>I=.next/\l1 j os v) e (e0.abs b 0 ⟨aY,139,400⟩):=by
 refine V (pU ..)<|V (C3 (hs:=vc az))<|pE<|pE<|pE ?_;have ab:(e0.abs b 0 ⟨aY,139,400⟩).heap.objs.size=139:=V Fq<|tF ..;refine md _ _ _ (λg r v c=>?_) (λw w w c=>c) _ _<|bp _ (λg v=>g=.ref 139/\dG 1729 (e0.abs b 0 ⟨aY,139,400⟩) v/\fd j v.heap (c2 139) u (.ref 139)) (aer aI b 400) (λv s l=>?_) A _ cn cJ pn
 .refine eQ c λbP s l=>?_;obtain rfl:=bP;exact pE<|pE<|Fo (Tm<|aeD v s l) λw bn el c=>c
 .exact⟨U,s,l _ λf R=>⟨eJ _,la.mp R⟩⟩
theorem aeE:rw (mv ao).code=a1:=by cbv
theorem aeF(a:ag)(C:al->ag->Prop)(L:Sub (n_ ao j.params) a.heap)(ah:∀v,dG 1729 a v->(∀p:List aq,(∀f∈p,0<=f/\f<a.heap.objs.size)->fd j v.heap p rW (.ref a.heap.objs.size))->C (.ref a.heap.objs.size) v):Y ao j BD (dD (yw<|cj ao 12)<|envOf ao) C a:=ad_ aes ad8 a C L ah
theorem aeG{os:nd}{e:Pos}{b:ag}{st:ez}{ca:List ez}(f4:st=.Assign [.Name "ECC" ⟨74,0,74,3⟩] (yw<|cj ao 12) (Tl<|cj ao 12))(av:ca=ao.main.body.drop 13)(aK:b.gens=#[])(aP:b.os=os):h7 j (mv ao) (dE (st::ca)<|envOf ao) (λI w v=>I=.next/\l1 j os v) e (e0.abs b 0 ⟨n_ ao j.params,139,400⟩):=by exact V f4<|aeC (aY:=n_ ao j.params) (u:=rW) (n:=envOf ao) (A:=mv ao) aet aeF aed aeE aeh (SS j) λa s l=>V av<|aeB aK aP s l
theorem aeI{os:nd}{b:ag}{aY:BT}{lZ l0 D:List ez}{n:Env}{A:Ctx}{Fv Fw:e0}{mw:Sem<|al×aq}{I:al×aq->iv}(m:e0.abs b 0 Fv=b)(BF:kA ⟨ao,j.params⟩ 0 (λw w w=>aQ) rV mw default Fv=W (.ok (.ref 13,14),default,Fw))(bg:I (.ref 13,14)=.body D n)(cn:A=rV.enter (.body D n) aQ default)(aeJ:h7 j A (do zG D n;dE lZ n) (λI w a=>I=.next/\a=e0.abs b 0 ⟨aY,139,400⟩) default<|e0.abs b 0 Fw)(aI:D=lZ++l0)(BG:∀e,h7 j A (dE l0 n) (λI w v=>I=.next/\l1 j os v) e<|e0.abs b 0 ⟨aY,139,400⟩):h7 j rV (mw>>=λa3=>(run (I a3)>>=λw=>ret .none)) (λg' w v=>g'=.done (.ret .none)/\l1 j os v) default b:=by
 refine pE ?_;have L:=λC as=>JG (prog:=ao) (j:=j) (b:=b) (gq:=0) (eF:=λw w w=>aQ) (λA r a y az=>nomatch az) rV mw C as default Fv _ BF;replace L:=m▸L;refine L _ _ ?_
 dsimp only[Ru];refine bg.symm▸pE ?_;show jZ _ _ (run _) _ _ _ _;refine V (Sem.wp_run ..)<|g2 (CO ..)<|b' cn ?_;have aeK:(cq ao j).den A.code=(do zG D n;let I<-(dE D n).onRaise<|leaving n;dz<|DF I):=by refine V cn ?_;rfl
 refine aeK.symm▸?_;have cF:h7 j A (do zG D n;let I<-(dE D n).onRaise<|leaving n;dz<|DF I) (λg' w v=>g'=.done .next/\l1 j os v) default (e0.abs b 0 Fw):=by refine pE<|Fo (Tm aeJ) λw r v c=>pE<|aea<|V aI<|V (K5 ..)<|pE<|Fo c λI bn el aa=>?_;obtain⟨rfl,rfl⟩:=aa;exact Fo (BG bn) λI Rc amS tY=>⟨congrArg DF tY.1,tY.2⟩
 refine md _ _ _ (λg' r a c=>?_) (λw w w c=>c.elim) _ _ cF;obtain⟨rfl,c⟩:=c;exact⟨U,c⟩
theorem aeL(z:Drawn)(os:nd)(e:Pos):h7 j (mv ao) (dE (cj ao 12::ao.main.body.drop 13)<|envOf ao) (λI w v=>I=.next/\l1 j os v) e (e0.abs (kY j z os) 0 ⟨n_ ao j.params,139,400⟩):=aeG (b:=kY j z os) ad9 U U U
noncomputable def Tv(a3:al×aq):Code:=.body (rl ao) {scope:=ao.main.scope,locals:=l',globals:=l',cells:=[],code:=a3.1,frame:=W a3.2}
theorem aeM:Tv (.ref 13,14)=.body (rl ao) (envOf ao):=rfl
theorem aeO(z:Drawn)(os:nd):h7 j (mv ao) (do zG (rl ao)<|envOf ao;dE (ao.main.body.take 12)<|envOf ao) (λI w a=>I=.next/\a=e0.abs (kY j z os) 0 ⟨n_ ao j.params,139,400⟩) default (e0.abs (kY j z os) 0<|BC j):=aeg (j:=j)<|kY j z os
theorem aeP(z:Drawn)(os:nd):h7 j rV (xn ao).cur (λg' w v=>g'=.done (.ret .none)/\l1 j os v) default (kY j z os):=ad4▸aeI (os:=os) (b:=kY j z os) (aY:=n_ ao j.params) (lZ:=ao.main.body.take 12) (l0:=cj ao 12::ao.main.body.drop 13) (D:=rl ao) (n:=envOf ao) (A:=mv ao) (Fv:=yt j.params) (Fw:=BC j) (mw:=BB ao) (I:=Tv) (aeq z os) (adR j) aeM U (aeO z os) ad5 (aeL z os)
theorem aeQ:opening ao=plainProg ao.main.scope.names:=by cbv
theorem Tw(a:ag):fenceModules? ao a=W a:=by cbv
theorem aeR(j:b7):(fencedOpening nc ao j 600).map (λa=>(a.heap,a.gens,a.drawn,a.toks))=W (oC j.params,Array.mk [],pe,boot_toks):=boot_open (N:=600) aeQ (by cbv) Tw j
theorem aeS(j:b7):∃os,(kY j pe os).asleep/\AfterRun (opening ao) j (kY j pe os)/\∀a,AfterRun (opening ao) j a->a=kY j pe os:=by
 refine gJ λw bI=>u1 (aeR j) λbV af ap=>br (G2.mp af) λa cx ef=>?_;cases ef;refine bI ?_;rw[<-wZ]at cx;have q:=AfterImport.of_importEnds cx;have i:bV=kY j pe bV.os:=by refine gJ λw bI=>?_;obtain⟨Fn,dJ,drawn,toks,os⟩:=bV;simp only[p2]at ap;obtain⟨bG,cr,eE,hE⟩:=ap;subst bG cr eE hE;refine bI ?_;rfl
 exact(ro bV.os (i▸q.life) (i▸q) λv ea=>(AfterImport.unique ea q).trans i)
theorem aeT(j:b7)(os:nd)(ab:(kY j pe os).asleep):∃an,l1 j os an/\(∃t E,schedN (tp table) ao j t (.single (kY j pe os)<|xn ao)=.running (.single an E)/\through E=Z)/\an.heap.life=(oC j.params).life:=by refine jD ((wp_iff_halts (M:=cq ao j) (c:=.builtin "claim.caller" {}) (xn ao).cur (λy v=>y=.ok (.ret .none)/\l1 j os v) default<|kY j pe os).mp (md _ _ _ (λg' r v aa=>by obtain⟨rfl,g7⟩:=aa;exact⟨⟨U,g7⟩,V g7.2 (by cbv)⟩) (λw w w aa=>aa.elim) default _<|aeP (j:=j) pe os)) λt y v ay cB g7=>?_;obtain rfl:=cB;refine gJ λw bI=>fx (runNI_real (den:=(cq ao j).den) (prog:=ao) (w:=j) ay U) λel av bg az=>?_;obtain rfl:el=v:=Shared.eq_of_forget_eq bg g7.2;exact gc (Tk av az ab) λaA iI bt bC=>bI<|ro el g7 (tI aA iI bt bC)<|runN_life _ _ _ av
noncomputable abbrev nF(H:cc)(T:Nat->Obj)(x:Nat)(au:fQ):Heap:=j0 (kD ao H T x) 2011 au
theorem aeU(H:cc)(T:Nat->Obj)(x:Nat):(c2 11).map (λb=>bif b==l'||b==pW then aQ else(kD ao H T x).get b)=(c2 11).map (λb=>bif b==l'||b==pW then aQ else(oC H).objs[b]?):=by cbv
theorem aeV(H:cc)(T:Nat->Obj)(x:Nat)(au:fQ):(nF H T x au).accountedOkI (importedModules ao.main.body)=Z:=by cbv
theorem aeW(H:cc)(T:Nat->Obj)(x:Nat)(au:fQ):staticsOk (importedModules ao.main.body) (oC H) (nF H T x au)=Z:=by cbv
theorem BH(H:cc)(T:Nat->Obj)(x:Nat)(au:fQ):(nF H T x au).isNs mainGlobals=Z:=by cbv
theorem K'(H:cc)(T:Nat->Obj)(x:Nat)(au:fQ):(nF H T x au).isNs builtinsNs=Z:=by cbv
theorem aeY(H:cc)(T:Nat->Obj)(x:Nat)(au:fQ):(nF H T x au).bltView=bltViewBooted:=by cbv
theorem ae0(H:cc)(T:Nat->Obj)(x:Nat)(au:fQ):namesBound ao (nF H T x au)=Z:=by cbv
theorem ae1(H:cc)(T:Nat->Obj)(x:Nat)(au:fQ):laidKept (oC H) (nF H T x au)=Z:=by cbv
theorem ae2(H:cc)(T:Nat->Obj)(x:Nat)(au:fQ):(nF H T x au).bmainOk=Z:=by cbv
section
noncomputable def oc:Obj:={cls:=.none,data:=.freed}
@[irreducible]noncomputable def em(H:cc)(x:Nat):BT:=((kD ao H (λw=>oc) x).set 1892 λo=>{o with data:=.freed}).set 1940 λo=>{o with data:=.freed}
@[irreducible]noncomputable def pF(H:cc)(T:Nat->Obj)(x:Nat)(au:fQ):Heap:=j0 (kD ao H T x) 2011 au
@[reducible]noncomputable def a3(j:b7)(aE:ag)(T:Nat->Obj)(x:Nat)(au:fQ):dw:={prog:=ao,w:=j,s0:=aE,tabs:=[1892,1940],mg:=(pF j.params T x au).nsMap 3,mb:=(pF j.params T x au).nsMap 0}
end
inductive dy(j:b7)(aE:ag)(T:Nat->Obj)(x:Nat)(au:fQ):Prop|mk(fS:∀b o,(pF j.params T x au).get? b=W o->aE.heap.get? b=W o)(fT:2011<=aE.heap.objs.size)(gy:fd j aE.heap yy rW<|.ref 139):dy j aE T x au
theorem BI(H:cc)(T:Nat->Obj)(x:Nat)(au:fQ):pF H T x au=nF H T x au:=by unfold pF;rfl
inductive qS:BT->BT->Prop|nil:qS .nil .nil|node{u hR:Obj}{D y oX fV:BT}:(u=hR\/hZ hR=aQ)->qS D oX->qS y fV->qS (.node u D y) (.node hR oX fV)
theorem ae5(c:f=jm\/hZ jm=aQ)(e:qS E eR):∀k:Nat,qS (E.ins k f) (eR.ins k jm):=by induction e with
 |nil=>exact λk=>.node c .nil .nil|node h b g La Lb=>
  intro k;refine V (Ai ..)<|V (Ai ..) ?_;split
  .exact .node c b g
  .split
   .exact .node h (La _) g
   .exact .node h b<|Lb _
set_option tactic.hygienic true in theorem ae6(a7:hZ o=W db)(e:qS E eR):∀k:Nat,eR.get k=W o->E.get k=W o:=by induction e with
 |nil=>intro k i;exact dI i|node h b g La Lb=>
  intro k i;rw[mL]at i⊢;split
  .rename_i e;replace i:=(if_pos e)▸i;cases i;rcases h with rfl|h
   .rfl
   .rw[a7]at h;exact DV h
  .rename_i e;replace i:=(if_neg e)▸i;split
   .rename_i dg;replace i:=(if_pos dg)▸i;exact La _ i
   .rename_i dg;replace i:=(if_neg dg)▸i;exact Lb _ i
theorem Tx:∀{D oX:List Obj}(E eR:BT)(t:Nat),hg D=oX.length->(∀(k:Nat)f jm,D[k]?=W f->oX[k]?=W jm->f=jm\/hZ jm=aQ)->qS E eR->qS (D.foldl (λ(f:BT×Nat)o=>(f.1.ins f.2 o,f.2+1)) (E,t)).1 (oX.foldl (λ(f:BT×Nat)o=>(f.1.ins f.2 o,f.2+1)) (eR,t)).1|[],[],E,eR,t,bL,dQ,c=>c|f::D,[],E,eR,t,e,bL,c=>by cases e|[],f::D,E,eR,t,e,bL,c=>by cases e|f::D,jm::oX,E,eR,t,e,R,c=>Tx _ _ (t+1) (by simpa using e) (λk B ae7 i ck=>R (k+1) B ae7 i ck)<|ae5 (R 0 f jm U U) c t
theorem ae8(tV BL:List Obj)(T:Nat->Obj):qS (lW<|tV++((c2 1729).map T++BL)) (lW<|tV++((c2 1729).map (λw=>oc)++BL)):=by
 refine Tx _ _ 0 (by simp) (λk f jm i ck=>g_ (pZ k tV.length) (λc=>?_) λc=>?_) .nil
 .rw[uQ c]at i ck;replace ck:=i▸ck;cases ck;exact .inl U
 .rw[xi c]at i ck;refine g_ (pZ (k-tV.length) 1729) (λap=>?_) λap=>?_
  .rw[uQ (by simpa using ap),fk,mJ ap]at ck;cases ck;exact .inr U
  .rw[xi<|ap]at i ck;simp only[d3]at i ck;replace ck:=i▸ck;cases ck;exact .inl U
theorem ae9(H:cc)(T:Nat->Obj)(x:Nat):qS (kD ao H T x) (kD ao H (λw=>oc) x):=by unfold kD;exact ae8 (vX ao H x) (vY ao H x) T
set_option tactic.hygienic true in theorem qT(c:(em H x).get h=W o)(a7:hZ o=W db):h≠1892/\h≠1940/\(kD ao H T x).get h=W o:=by
 unfold em at c;rw[BT.get_set]at c;have cF:∀f:Option Obj,(f.map λo:Obj=>{o with data:=.freed})=W o->False:=by intro f R;refine u1 R λB w bP=>?_;obtain rfl:=bP;exact dI a7
 split at c
 .exact(cF _ c).elim
 .rename_i af;rw[BT.get_set]at c;split at c
  .exact(cF _ c).elim
  .rename_i ap;exact⟨ap,af,ae6 a7 (ae9 H T x) h c⟩
theorem Lc(f:Obj):∀(E:BT)(k aD:Nat)(o:Obj),(E.ins k f).get aD=W o->aD<=k\/∃db,E.get aD=W db
 |.nil,k,aD,o,c=>by
  have aa:(BT.node f .nil .nil).get aD=W o:=c;rw[mL]at aa;split at aa
  .exact .inl (by lia)
  .split at aa<;>exact dI aa|.node u D y,k,aD,o,c=>by
  rw[Ai]at c;refine V (mL ..) ?_;by_cases dx:aD=0
  .exact .inl<|c3 (.l .x .y) [.e .x<|.n 0] U dx
  .refine V (if_neg dx) ?_;by_cases ac:k=0
   .rw[if_pos ac,mL,if_neg dx]at c;exact .inr ⟨o,c⟩
   .rw[if_neg ac]at c;by_cases Fx:k%2=1
    .rw[if_pos Fx,mL,if_neg dx]at c;by_cases yz:aD%2=1
     .rw[if_pos yz]at c⊢;exact g_ (Lc f D (k/2) (aD/2) o c) (λe=>.inl<|rs [1,-1,2,1,1] (.l .x .y) [.e .z<|.n 1,.l .w .u,.e (.a (.m 2 .u) .z) .y,.t .x<|.a (.m 2 .w)<|.n 2] U Fx e (Xr _ 2)<|qe _ 1) λe=>.inr e
     .rw[if_neg yz]at c⊢;exact .inr ⟨o,c⟩
    .rw[if_neg Fx,mL,if_neg dx]at c;by_cases yz:aD%2=1
     .rw[if_pos yz]at c⊢;exact .inr ⟨o,c⟩
     .rw[if_neg yz]at c⊢;have rA:=(zS k).resolve_right Fx;have vR:=(zS aD).resolve_right yz;have Kt:1<=k/2:=Nat.one_le_iff_ne_zero.mpr λG=>ac<|b' (uJ k 2)<|V rA<|V G U;exact g_ (Lc f y (k/2-1) (aD/2-1) o c) (λe=>.inl<|b' (uJ aD 2)<|V vR<|bb (Dg 2<|bb (Nx.mp e)<|mF<|zP Kt)<|Nz k 2) λe=>.inr e
theorem Tz:∀(D:List Obj)(E:BT)(t:Nat),(∀aD o,E.get aD=W o->aD<t)->∀aD o,(D.foldl (λ(f:BT×Nat)o=>(f.1.ins f.2 o,f.2+1)) (E,t)).1.get aD=W o->aD<t+D.length|[],E,t,c,aD,o,i=>c aD o i|f::D,E,t,c,aD,o,i=>by have:=Tz D (E.ins t f) (t+1) (λaD o i=>(Lc f E t aD o i).elim (λe=>by exact c3 (.t .x<|.o .y) [.l .x .y] U e) λe=>c5 e λdb e=>mE<|c aD db e) aD o i;exact V iy<|hh (.t .x<|.a .y<|.o .z) [.t .x<|.a (.o .y) .z] U this
theorem s6(c:(kD ao H T x).get h=W o):h<2011:=by
 have i:(vX ao H x++((c2 1729).map T++vY ao H x)).length=2011:=by refine V gU<|V gU<|V (d3 ..)<|V oz ?_;cbv
 have:=Tz _ .nil 0 (λaD o i=>dI i) h o c;rw[i]at this;exact this
theorem dy.sub(c:dy j aE T x au)(b:fh (a3 j aE T x au) a):Sub (em j.params x) a.heap:=λh o db i fO=>by exact eQ (qT (T:=T) i fO) λaf ap bk=>b.1.1 _ _ (by simp[af,ap])<|c.1 _ _<|V (BI ..)<|b' fO<|sk (s6 bk) bk
theorem Fy(c:dy j aE T x au):Sub (kD ao j.params T x) aE.heap:=λh o db i fO=>c.1 _ _ (by refine V (BI ..)<|b' fO ?_;exact sk (s6 i) i)
theorem TA{c:eH}{j:b7}(L:Sub (em j.params x) c):c.NoLimit:=⟨λw=>aQ,⟨Es ao j.params,#[],0,Bx (o:=Es ao j.params) L (by cbv) U,U,λi bp=>by simp at bp,λw=>U⟩,U⟩
theorem ae_:(pF H T x au).Ns 3 ((pF H T x au).nsMap 3):=by refine V (BI ..) ?_;exact H4<|BH ..
theorem ae':(pF H T x au).Ns 0 ((pF H T x au).nsMap 0):=by refine V (BI ..) ?_;exact H4<|K' ..
theorem lD:E∈(a3 j aE T x au).tabs↔E=1892\/E=1940:=by simp
theorem TB(c:dy j aE T x au):aE.heap.Ns 3 ((pF j.params T x au).nsMap 3):=Pb (ae_ (H:=j.params) (T:=T) (x:=x) (au:=au)) λo i=>c.1 _ _ i
theorem afa(c:dy j aE T x au):aE.heap.Ns 0 ((pF j.params T x au).nsMap 0):=Pb (ae' (H:=j.params) (T:=T) (x:=x) (au:=au)) λo i=>c.1 _ _ i
theorem Fz(c:dy j aE T x au)(a:ag)(b:fh (a3 j aE T x au) a):a.heap.NoLimit:=TA (x:=x) (j:=j)<|c.sub b
theorem od(t:aq)(ay:t≠1892/\t≠1940):t∉(a3 j aE T x au).tabs:=λe=>(lD.mp e).elim ay.1 ay.2
theorem afb(c:dy j aE T x au):∀E∈(a3 j aE T x au).tabs,E<aE.heap.objs.size:=λE bC=>by rcases lD.mp bC with rfl|rfl<;>exact cw bd c.2
theorem io(c:dy j aE T x au):(a3 j aE T x au).Ok:=@dw.Ok.mk (a3 j aE T x au) (by dsimp only[a3];exact TB c) (by dsimp only[a3];exact afa c) (Fz c) (od 3 bd) (od 0 bd)<|afb c
noncomputable def m2(z:Option aq)(f B G:Int)(f5 f6 fU:Tok)(l:Nat):Obj:={cls:=.ref 135,dict:=z,data:=.seq #[.int f f5,.int B f6,.int G fU] l}
noncomputable def ip(x:Nat):b7->BT:=λj=>em j.params x
noncomputable def uf:List Nat:=[1,0,0,0,0,0,0,1,0,1,0,0,0,0,0,0,0,0,0,0,0,0,0,0,2,2,2,2,2,2,2,0,0,0,0,2,1,0,0,0,0,0,0,2,2,0,0,0,0,0,0,0,0,0,0,0,0,1,0,1]
theorem afc(h t s l:Nat)(z:Option aq)(f B G:Int)(f5 f6 fU:Tok)(x:Nat):rR 30 (ip x) t s (ow (.ref h) "num_total" Z) (λE=>⟨[(h,m2 z f B G f5 f6 fU l)],0,E,uf,[],[]⟩) (.int B f6) (λG=>(G.gs,G.objs.head?,G.objs.tail.map (·.1))) (λw=>([],W (h,m2 z f B G f5 f6 fU l),[t])):=λb j E=>by cases b<;>cbv
theorem TC(h t s l:Nat)(z:Option aq)(f B G:Int)(f5 f6 fU:Tok)(x:Nat):rR 30 (ip x) t s (ow (.ref h) "num_data" Z) (λE=>⟨[(h,m2 z f B G f5 f6 fU l)],0,E,uf,[],[]⟩) (.int G fU) (λG=>(G.gs,G.objs.head?,G.objs.tail.map (·.1))) (λw=>([],W (h,m2 z f B G f5 f6 fU l),[t])):=λb j E=>by cases b<;>cbv
theorem afd(h t s l:Nat)(z:Option aq)(f B G:Int)(f5 f6 fU:Tok)(x:Nat):rR 30 (ip x) t s (ow (.ref h) "num_blocks" Z) (λE=>⟨[(h,m2 z f B G f5 f6 fU l)],0,E,uf,[],[]⟩) (.int f f5) (λG=>(G.gs,G.objs.head?,G.objs.tail.map (·.1))) (λw=>([],W (h,m2 z f B G f5 f6 fU l),[t])):=λb j E=>by cases b<;>cbv
noncomputable def qU(t:Nat)(o:Obj):Bool:=match o.cls with|.ref h=>!(Dh h t)|_=>Z
theorem Ld{nG:Obj->Prop}{f:Obj}(R:nG f):∀(E:BT),(∀aD o,E.get aD=W o->nG o)->∀(k aD:Nat)(o:Obj),(E.ins k f).get aD=W o->nG o
 |.nil,bL,k,aD,o,c=>by
  have aa:(BT.node f .nil .nil).get aD=W o:=c;rw[mL]at aa;split at aa
  .cases aa;exact R
  .split at aa<;>exact dI aa|.node u D y,bC,k,aD,o,c=>by
  have aI:∀aD o,D.get aD=W o->nG o:=λaD o i=>bC (2*aD+1) o (by refine V (mL ..)<|V (if_neg (by exact cy (.ne (.o<|.m 2 .x)<|.n 0) [] U))<|V (if_pos<|w9 2 aD 1)<|V (show(2*aD+1)/2=aD by exact rr [2,0,1] [2,1,0] (.e .x .y) [.l (.m 2 .x)<|.o<|.m 2 .y,.t (.o<|.m 2 .y)<|.a (.m 2 .x)<|.n 2] U (qd _ 2)<|qe _ 1) ?_;exact i);have av:∀aD o,y.get aD=W o->nG o:=λaD o i=>bC (2*aD+2) o (by refine V (mL ..)<|V (if_neg (by exact cy (.ne (.a (.m 2 .x)<|.n 2)<|.n 0) [] U))<|V (if_neg λe=>absurd ((w9 2 aD 2).symm.trans e) bd)<|V (show(2*aD+2)/2-1=aD by exact nW [2,2,0,1,0] [2,0,1,0,2] (.e .x .y) [.l .z<|.a .x<|.n 1,.l (.m 2 .z)<|.a (.m 2 .y)<|.n 2,.t (.a (.m 2 .y)<|.n 2)<|.a (.m 2 .z)<|.n 2,.e (.a .x<|.n 1) .z] U (f2 _ _) (qd _ 2) (qe _ 1)<|eN<|gd [2,1] (.l (.n 1) .x) [.t (.a (.m 2 .y)<|.n 2)<|.a (.m 2 .x)<|.n 2] U<|qe _ 1) ?_;exact i);have aM:nG u:=bC 0 u (by exact V (mL ..)<|V (if_pos U) U);rw[Ai]at c;have cF:∀(hR:Obj)(oX fV:BT),nG hR->(∀aD o,oX.get aD=W o->nG o)->(∀aD o,fV.get aD=W o->nG o)->(BT.node hR oX fV).get aD=W o->nG o:=by
   intro hR oX fV h b g i;rw[mL]at i;split at i
   .cases i;exact h
   .split at i
    .exact b _ _ i
    .exact g _ _ i
  split at c
  .exact cF f D y R aI av c
  .split at c
   .exact cF u _ y aM (Ld R D aI _) av c
   .exact cF u D _ aM aI (Ld R y av _) c
theorem TD{nG:Obj->Prop}:∀(D:List Obj)(E:BT)(t:Nat),(∀aD o,E.get aD=W o->nG o)->(∀o∈D,nG o)->∀aD o,(D.foldl (λ(f:BT×Nat)o=>(f.1.ins f.2 o,f.2+1)) (E,t)).1.get aD=W o->nG o|[],E,t,c,bL,aD,o,i=>c aD o i|f::D,E,t,c,aI,aD,o,i=>TD D (E.ins t f) (t+1) (λaD o i=>Ld (aI f bz) E c t aD o i) (λo aP=>aI o<|mt aP) aD o i
theorem afe(H:cc)(x:Nat):(vX ao H x).all (qU 135)=Z:=by cbv
theorem aff(H:cc)(x:Nat):(vY ao H x).all (qU 135)=Z:=by cbv
theorem afg(H:cc)(x:Nat):(vX ao H x).all (qU 1963)=Z:=by cbv
theorem afi(H:cc)(x:Nat):(vY ao H x).all (qU 1963)=Z:=by cbv
theorem afj(t:Nat)(tV BL:List Obj)(a7:tV.all (qU t)=Z)(m:BL.all (qU t)=Z)(h:Nat)(o:Obj)(c:(lW<|tV++((c2 1729).map (λw=>oc)++BL)).get h=W o):qU t o=Z:=by
 refine TD (nG:=λo=>qU t o=Z) _ .nil 0 (λaD o i=>by exact dI i) (λo aP=>bN aP (λe=>?_) λe=>?_) h o c
 .exact hn.mp a7 o e
 .refine bN e (λe=>?_) λe=>?_
  .refine mg e λw w bP=>b' bP ?_;rfl
  .exact hn.mp m o e
theorem TE(a7:(vX ao H x).all (qU t)=Z)(m:(vY ao H x).all (qU t)=Z):∀(h:Nat)(o db:Obj),(em H x).get h=W o->hZ o=W db->db.cls≠.ref t:=by
 intro h o db c kc e;refine eQ (qT (T:=λw=>oc) c kc) λaf ap bk=>?_;have:=afj t _ _ a7 m h o bk;have i:db=o:=by obtain⟨g,bH,qG,bx⟩:=o;cases qG<;>first|(cases kc;rfl)|cases kc
 subst i;unfold qU at this;rw[e]at this;simp at this
theorem afk:∀(h:Nat)(o db:Obj),(em H x).get h=W o->hZ o=W db->db.cls≠.ref 135:=TE (afe H x)<|aff H x
theorem TF:∀(h:Nat)(o db:Obj),(em H x).get h=W o->hZ o=W db->db.cls≠.ref 1963:=TE (afg H x)<|afi H x
theorem FA(aO:dy j aE T x au)(c:ae (a3 j aE T x au) z Q A i .b2<|.qP f B G)(ab:∀(h t s l:Nat)(bH:Option aq)(f5 f6 fU:Tok),∃E,rR 30 (ip x) t s (ow (.ref h) attr Z) (λE=>⟨[(h,m2 bH f B G f5 f6 fU l)],0,E,uf,[],[]⟩) (.int y E) (λG=>(G.gs,G.objs.head?,G.objs.tail.map (·.1))) λw=>([],W (h,m2 bH f B G f5 f6 fU l),[t]))(m:∀n,tx i attr n (dD i n)=dD i n)(aI:∀lq oe,letTemporaryGo i lq oe=dz ()):dd (a3 j aE T x au) z Q A (.Attribute i attr aj) y:=mo λq n p N aF S ax L M a C r ah=>by
 refine Y.eq (V (GX ..)<|V (m ..) U)<|Y.bind<|c q n p N aF S ax L M a _ r λa4 an aL hr=>?_;refine dV ?_;have BM:cf an.heap p (.qP f B G) a4:=hr;refine W2 BM λh bH f5 f6 fU l cB a7 aK=>V cB<|c5 (ab h an.heap.objs.size an.gens.size l bH f5 f6 fU) λE afl=>?_;have lQ:Sub (em j.params x) an.heap:=aO.sub (r.grow aL).2;have Le:∀o db,(em j.params x).get h=W o->hZ o=W db->False:=λo db i fO=>by have bG:=lQ h o db i fO;rw[aK]at bG;cases bG;exact afk h o _ i fO U
 refine d6<|R1 afl (λc L=>TA L) ?_ (eV.start lQ (λr aZ=>(bm aZ).symm▸aK) (by simp) λr aZ=>bm aZ▸Le) λev v iq M=>?_
 .have:=ax.2;show q.depth+90<1000;exact c3 (.t (.a .x<|.n 90)<|.n 1000) [.l (.a .x .y)<|.n 900] U this
 .simp only[p2]at M;refine eQ M λm3 jw oY=>?_;have a_:a9 [] [] an v:=iq.same λr aZ=>by cases TG:ev.objs with
   |nil=>rw[TG]at jw;cases jw|cons e D=>
    rw[TG]at jw oY aZ;cases jw
    revert r;refine g4 ?_ ?_
    .exact .inl aK
    .intro r aZ;have:r.1∈D.map (·.1):=xg aZ;rw[show D.map (·.1)=[an.heap.objs.size]from oY]at this;exact .inr<|mF (bm this).symm
  exact V (aI ..)<|eo<|Y.pure<|ah _ v (aL.trans a_) ⟨E,U⟩
theorem TH:(a3 j aE T x au).gl "len"=W (.builtin "len"):=by cbv
theorem yA:(a3 j aE T x au).gl "range"=W (.type "range"):=by cbv
theorem afm:(a3 j aE T x au).gl "enumerate"=W (.type "enumerate"):=by cbv
theorem TI:(a3 j aE T x au).gl "zip"=W (.type "zip"):=by cbv
theorem afn:(a3 j aE T x au).gl "reversed"=W (.type "reversed"):=by cbv
theorem FB:(a3 j aE T x au).gl "bytearray"=W (.type "bytearray"):=by cbv
theorem TJ:(a3 j aE T x au).gl "list"=W (.type "list"):=by cbv
theorem afo:(a3 j aE T x au).gl "map"=W (.type "map"):=by cbv
theorem gl_str:(a3 j aE T x au).gl "str"=W (.type "str"):=by cbv
theorem gl_int:(a3 j aE T x au).gl "int"=W (.type "int"):=by cbv
theorem TK:(a3 j aE T x au).gl "Buffer"=W (.ref 1963):=by cbv
theorem afp:(a3 j aE T x au).gl "make_final_message"=W (.ref 1895):=by cbv
theorem afq:(a3 j aE T x au).gl "make_blocks"=W (.ref 1900):=by cbv
theorem afr:(a3 j aE T x au).gl "ECC"=W (.ref 139):=by cbv
theorem afs:(a3 j aE T x au).gl "GEN_POLY"=W (.ref 1868):=by cbv
theorem aft:(a3 j aE T x au).gl "GALIOS_LOG"=W (.ref 1888):=by cbv
theorem afu:(a3 j aE T x au).gl "GALIOS_EXP"=W (.ref 1890):=by cbv
theorem afv:∃E,(a3 j aE T x au).gl "VERSION_M1"=W (.int (-3) E):=⟨262,by cbv⟩
theorem afw:∃E,(a3 j aE T x au).gl "VERSION_M3"=W (.int (-1) E):=⟨256,by cbv⟩
theorem ug(c:dy j aE T x au):p9 (a3 j aE T x au):=⟨io c,TH,yA,afm,TI⟩
theorem yB:∀(D:List Int)(z:Nat),bW c p (D.map .int)<|ke G z D|[],bL=>by show bW _ _ [] [];exact U|f::D,z=>jg _ _ U (oE _ U)<|yB D<|z+1
theorem afx(H:cc)(x:Nat):(em H x).get 1888=W (fs "tuple" 0<|ke x 319 lB):=by cbv
theorem afy(H:cc)(x:Nat):(em H x).get 1890=W (fs "list" 0<|ke x 576 s3++ke x 576 s3):=by cbv
theorem afz(H:cc)(x:Nat):(em H x).get 1868=W (e7 "dict"<|.dict (vW x 1 qN).toArray 18):=by cbv
theorem afA(H:cc)(x:Nat):qN.map (λe=>(em H x).get e.2.1)=(Bu x 1 qN).map W:=by cbv
theorem afB(x:Nat):qN.map (λe=>findBy dC.is (vW x 1 qN).toArray<|.int e.1)=qN.map λe=>W (.ref e.2.1):=by cbv
theorem FC{bf cE:Type}{I s:bf->cE}:∀{D:List bf},D.map I=D.map s->∀e∈D,I e=s e|[],bL,dQ,c=>dt c|bL::dQ,c,e,a5=>dH a5 (λi=>V i (xm c).1)<|FC (xm c).2 e
theorem TL{x:Nat}{I:Nat->Option Obj}:∀{ch:List<|Int×Nat×List Int}{z:Nat},ch.map (λe=>I e.2.1)=(Bu x z ch).map W->∀e∈ch,∃s7,I e.2.1=W (fs "tuple" 0<|ke x s7 e.2.2)|[],bL,dQ,lp,c=>dt c|bL::dQ,z,c,e,a5=>dH a5 (λi=>⟨z+1,V i (xm c).1⟩)<|TL (xm c).2 e
section
section
variable{z:Nat}{Q:c4}{A:b0}{i:bB}{l:dC}{aB:List<|dC×fb}{aj di:Pos}{k:Int}
noncomputable def BN(aB:List<|dC×fb)(l:dC):Option fb:=(aB.find? λi=>i.1=l).map (·.2)
theorem ga.find:∀{aB:List<|dC×fb}{cH:List<|dC×al},ga j c p aB cH->BN aB l=W jQ->∃a4,valueAt cH l=W a4/\fd j c p jQ a4
 |[],cH,bL,i=>dI i|(fB,u)::aB,cH,y,i=>by
  refine ei y λa4 fV cB et fn=>V cB ?_;unfold BN at i;unfold valueAt;rw[List.find?_cons]at i⊢;by_cases e:fB=l
  .simp only[e,decide_true,tz,HH]at i⊢;subst i;exact(dj a4 U et)
  .simp only[e,decide_false]at i⊢;exact ga.find fn i
def qV(g:dw)(z:Nat)(Q:c4)(A:b0)(i:bB)(jQ:fb):Prop:=∀(q:bY)(n:Env)(p N aF:List aq)(S:Nat),eK z q->n.scope=Q->cM g n p N aF S->cm ao g.w q [] [] n (bw g n p N S A) i λa a4=>fd g.w a.heap p jQ a4
noncomputable def rX:dC->bh|.none=>.none|.int k=>.int k|.str f=>.str f
theorem afC(y:cf c p (rX l) a4):dC.is l a4=Z:=by cases l with|none=>unfold rX at y;refine V y ?_;rfl|int k=>unfold rX at y;obtain⟨E,rfl⟩:=y;exact beq_self_eq_true k|str f=>unfold rX at y;obtain⟨E,rfl⟩:=y;exact beq_self_eq_true f
theorem qV.item(aZ:g.prog=ao)(bo:qV g z Q A eS<|.rA aB)(bE:ae g z Q A f7 .b2<|rX l)(bg:BN aB l=W jQ)(ac:n2 f7=Z:=by rfl):qV g z Q A (.Subscript eS f7 aj) jQ:=λq n p N aF S ax L M=>by have ap:=bE q n p N aF S ax L M;rw[aZ]at ap;refine tQ M.ok (bo q n p N aF S ax L M) (λa v a4 y s=>fd.grow s y) ap λa fM g5 r az bl=>DL az λbH cH dv R TM av=>V dv<|br (ga.find av bg) λa4 aM aS=>?_;intro C ah;exact Y.of<|tE TM.typeIs slot_dict_getitem.lookup (wpAny_getItem_of (afC bl) TM.mapOf aM<|ah _ _ (bJ.tok ..) aS)<|AB ac _ _
theorem qV.aeb(aZ:g.prog=ao)(c:qV g z Q A i<|.g5 u):ae g z Q A i .b2 u:=λq n p N aF S ax L M=>by exact V aZ<|(c q n p N aF S ax L M).to λa a4 y=>by exact y
end
variable{j:b7}{aE a:ag}{T:Nat->Obj}{x:Nat}{au:fQ}{z:Nat}{Q:c4}{A:b0}{i Lf ys:bB}{G k:Int}{aj vE di:Pos}{l:dC}{aw:List Int}
theorem v6(c:dy j aE T x au):Sub (em j.params x) aE.heap:=c.sub ⟨bJ.refl ..,λB a8 o O bG cr eE=>⟨#[],HO▸eE▸bG⟩⟩
theorem afD(c:dy j aE T x au):cf aE.heap (a3 j aE T x au).tabs (.tup<|lB.map .int) (.ref 1888):=p_ 1888 _ 0 U (od _ bd) (v6 c _ _ _ (afx ..) U)<|yB _ _
theorem afE(c:dy j aE T x au):cf aE.heap (a3 j aE T x au).tabs (cS m1) (.ref 1890):=p_ 1890 _ 0 U (od _ bd) (v6 c _ _ _ (afy ..) U)<|bW.append (yB s3 576)<|yB s3 576
theorem ae.aee(c:dy j aE T x au)(R:eA Q "GALIOS_LOG"=Z:=by cbv):ae (a3 j aE T x au) z Q A (.Name "GALIOS_LOG" di) .b2 (.tup<|lB.map .int):=ae.glob (io c) aft (afD c) R
theorem ae.aef(c:dy j aE T x au)(R:eA Q "GALIOS_EXP"=Z:=by cbv):ae (a3 j aE T x au) z Q A (.Name "GALIOS_EXP" di) .b2 (cS m1):=ae.glob (io c) afu (afE c) R
theorem qV.z1(c:dy j aE T x au)(R:eA Q "ECC"=Z:=by cbv):qV (a3 j aE T x au) z Q A (.Name "ECC" di) rW:=λq n p N aF S ax L M=>by
 subst L;intro a C r ah;refine rz (hB (io c) M afr R) bd a _ r λa4 v s ms=>ah a4 v s ?_;subst ms;have bC:∀t,t∈(a3 j aE T x au).tabs->t∈yy:=λt e=>by rcases lD.mp e with rfl|rfl<;>decide
 exact fd.to (λA0 o m i=>⟨((r.grow s).2).1.1 _ _ (λe=>m<|bC _ e) i,λe=>(M.9 _ e).elim (λe=>m<|bC _ e) λe=>cd (dB i) e⟩) _ _ c.3
noncomputable def Lg:fb->Option (List<|dC×fb)|.rA aB=>W aB|_=>aQ
noncomputable def TN:fb->Option (List bh)|.g5 (.tup aH)=>W aH|_=>aQ
noncomputable def FD(gi:Int)(og:dC):Option (List bh):=(Lg rW).bind λaB=>(BN aB<|.int gi).bind λu=>(Lg u).bind λE5=>(BN E5 og).bind TN
theorem TO(c:Lg u=W aB):u=.rA aB:=by
 cases u
 .exact dI c
 .exact congrArg fb.rA<|lk c
theorem afF(c:TN u=W aH):u=.g5 (.tup aH):=by cases u with|rA=>exact dI c|g5 aN=>cases aN<;>first|exact dI c|exact congrArg (λf=>fb.g5<|bh.tup f)<|lk c
theorem ae.z1{aH:List bh}(c:dy j aE T x au)(bo:dd (a3 j aE T x au) z Q A Lf k)(bE:ae (a3 j aE T x au) z Q A ys .b2<|rX l)(bg:FD k l=W aH)(ac:n2 Lf=Z:=by rfl)(gp:n2 ys=Z:=by rfl)(R:eA Q "ECC"=Z:=by cbv):ae (a3 j aE T x au) z Q A (.Subscript (.Subscript (.Name "ECC" di) Lf aj) ys vE) .b2 (.tup aH):=by exact dY bg λaB bp bg=>dY bg λu af bg=>dY bg λE5 aM bg=>dY bg λaN ap e4=>qV.aeb U<|qV.item U (qV.item (l:=.int k) U (TO bp▸qV.z1 c R) bo (af.trans<|congrArg W<|TO aM) ac) bE (ap.trans<|congrArg W<|afF e4) gp
noncomputable def v7(t:Int):Option (List Int):=(qN.find? λe=>e.1==t).map (·.2.2)
theorem TP(j:b7)(k:Int)(E:Tok):(aV j).is (dC.int k) (.int k E)=Z:=beq_self_eq_true k
theorem TQ(x:Nat):∀(ch:List<|Int×Nat×List Int)(z:Nat),∀i∈vW x z ch,∃l,(aV j).is l i.key=Z/\i.hash=(aV j).hash l|[],bL,dQ,c=>dt c|(l,h,D)::y,z,i,c=>dH (b:=⟨hashInt l,.int l<|x+z,.ref h⟩) (D:=vW x (z+(D.length+2)) y) c (λe=>V e ⟨_,TP j l _,U⟩)<|TQ x y _ i
theorem ae.IC(c:dy j aE T x au)(bo:dd (a3 j aE T x au) z Q A i k)(bg:v7 k=W aw)(ac:n2 i=Z:=by rfl)(R:eA Q "GEN_POLY"=Z:=by cbv):ae (a3 j aE T x au) z Q A (.Subscript (.Name "GEN_POLY" di) i aj) .b2 (.tup<|aw.map .int):=λq n p N aF S ax L M=>by
 refine tQ M.ok (rz (hB (io c) M afs<|L▸R) bd) (λw w w e w=>e) (eT bo ax L M) λa fM g5 r az bl=>V az<|c5 bl λE gX=>V gX<|u1 bg λe a5 gF=>b' gF ?_;have afG:e.1=k:=by have:=List.find?_some a5;exact eq_of_beq this
 have nA:=List.mem_of_find?_eq_some a5;refine c5 (TL (afA j.params x) e nA) λs7 oY=>?_;have lQ:=c.sub r.2;have bt:a.heap.MapOf (aV j) 1868 (findBy dC.is (vW x 1 qN).toArray):=⟨_,_,18,lQ _ _ _ (afz ..) U,⟨U,U,U⟩,U,λi bp=>TQ x _ _ i<|Hx.mp bp,λw=>U⟩;have m3:=FC (afB x) e nA;rw[afG]at m3;intro C ah;refine Y.of<|tE bt.typeIs slot_dict_getitem.lookup (wpAny_getItem_of (k:=dC.int k) (TP j k E) bt m3<|ah _ _ (bJ.tok ..)<|⟨e.2.1,_,0,U,λR=>g_ (M.9 _ R) (λG=>?_) λG=>?_,(lQ _ _ _ oY U),yB _ _⟩)<|AB ac _ _
 .have yC:=qT (T:=λw=>oc) oY U;exact od _ ⟨yC.1,yC.2.1⟩ G
 .exact cd (cw (s6 (qT (T:=λw=>oc) oY U).2.2) c.2) G
end
def kZ{bf cE:Type}(I:Nat)(bc:b7->BT)(t s:Nat)(E:Sem bf)(G:Nat->e2)(h:Nat->bf)(d9:e2->cE)(f:Nat->cE):Prop:=∀(b:Bool)(j:b7)(l:Nat),(ik ⟨ao,(j.withFollow "special-get-raises" b).params⟩ (bc<|j.withFollow "special-get-raises" b) t s (t_ nc ⟨ao,(j.withFollow "special-get-raises" b).params⟩ (bc<|j.withFollow "special-get-raises" b) t s I) E<|G l).map (λy=>(y.1,d9 y.2,y.2.eB.map (·.1)))=W (h l,f l,Bn<|ik ⟨ao,(j.withFollow "special-get-raises" b).params⟩ (bc<|j.withFollow "special-get-raises" b) t s (t_ nc ⟨ao,(j.withFollow "special-get-raises" b).params⟩ (bc<|j.withFollow "special-get-raises" b) t s I) E<|G l)
theorem uh(c:kZ I bc t s E G h d9 f)(av:q.depth+3*I<fF)(ab:eV (bc j) t s bV (G a.toks) a)(a5:∀ev v,eV (bc j) t s bV ev v->d9 ev=f a.toks->C (h a.toks) v):b9 (cq ao j) q E C (λw w=>False) a:=by refine aaH av ab ?_ a5;have:=c (j.params.followText "special-get-raises") j a.toks;rw[Ah]at this;exact this
noncomputable def jU(z i:aq):Obj:={cls:=.ref 1963,dict:=W i,data:=.plain,slots:=#[W<|.ref z]}
noncomputable def lE:Obj:={cls:=.type "dict",data:=.dict #[]}
noncomputable def afH:List Nat:=[1,0,0,0,1,0,0,0,0,0,0,0,0,0,0,0,1,0,0,0,0,0,1,0,1]
theorem afI(h z i t s:Nat)(x:Nat):kZ 30 (ip x) t s (ow (.ref h) "_data" Z) (λE=>⟨[(h,jU z i)],0,E,afH,[],[]⟩) (λw=>.ref z) (λG=>(G.gs,G.objs,G.m)) (λw=>([],[(h,jU z i)],0)):=λb j E=>by cases b<;>cbv
section
theorem Lh(av:q.depth+90<fF)(L:Sub (em j.params x) a.heap)(aP:a.heap.get? h=W (jU z i))(ah:∀v,kk a v->C (.ref z) v):b9 (cq ao j) q (ow (.ref h) "_data" Z) C as a:=by
 have Le:∀o db,(em j.params x).get h=W o->hZ o=W db->False:=λo db mx fO=>by have bG:=L h o db mx fO;replace bG:=aP▸bG;cases bG;exact TF h o _ mx fO U
 refine q8 (uh (C:=λu v=>u=.ref z/\kk a v) (afI h z i a.heap.objs.size a.gens.size x) av (eV.start L (λr aZ=>(bm aZ).symm▸aP) (by simp) λr aZ=>bm aZ▸Le) λev v iq M=>⟨U,?_⟩) (λu v⟨i,l⟩=>i▸ah v l) λw w f=>f.elim;simp only[p2]at M;refine eQ M λm3 jw oY=>?_;have s:bJ [] a v:=iq.same λr aZ=>by replace aZ:=jw▸aZ;exact V (bm aZ)<|.inl aP
 refine⟨v.heap,v.toks,?_,λb o i=>s.1 b o (λe=>nomatch e) i⟩;have af:=iq.8;replace af:=m3▸af;obtain⟨aZ,afJ,afK,fj,os⟩:=v;simp only[Pc,true_and];exact⟨af,iq.11,iq.10⟩
end
noncomputable def BO:Stmt:=gr (cj ao 19) 6
noncomputable def s8:Scope:={kind:=.function,names:=[(".0",.local),("k",.local),("self",.free),("int",.globalImplicit),("map",.globalImplicit),("str",.globalImplicit),("list",.globalImplicit),("len",.globalImplicit)],isGenerator:=Z,isCoroutine:=a1,more:=[]}
noncomputable def rY(aG:List Bool)(l:Nat):List Bool:=(aG.drop l).take 8++dq (l+8-aG.length) a1
theorem chunk_len(c:l<aG.length):(rY aG l).length=8:=by unfold rY;simp;exact(ix 8<|aG.length-l).elim (λd_=>(ix (aG.length)<|(l)+8).elim (λgS=>rt [1,0,-1,0,0] [1,1,0,1,1] (.e (.a .x .y)<|.n 8) [.l .x .z,.e .x<|.n 8,.e (.a .y .w)<|.a .u<|.n 8,.e (.a .z .u) .w] U (DU _ _) (Io d_) (eN gS)<|eN<|c3 (.l .x .y) [.t .x .y] U c) λgS=>rr [1,0,-1,0] [1,1,0,1] (.e (.a .x .y)<|.n 8) [.l .x<|.n 8,.e .x<|.n 8,.e .y<|.n 0] U (tM _ _) (Io d_)<|jh gS) λd_=>rt [1,0,1,1,-1,0,0] [1,1,0,0,0,1,1] (.e (.a .x .y)<|.n 8) [.l .x .z,.l (.a .w<|.n 8)<|.a .y .u,.l .u<|.a .z .w,.e .x .z,.e (.a .y .u)<|.a .w<|.n 8,.e (.a .z .w) .u] U (DU _ _) (f2 _ _) (f2 _ _) (PN d_) (eN<|hh (.l .x<|.a .y<|.n 8) [.l .z<|.n 8,.l .x<|.a .z .y] U d_<|f2 _ _)<|eN<|c3 (.l .x .y) [.t .x .y] U c
noncomputable def gu(aG:List Bool):List Int:=aG.map b2i
theorem afL(aG:List Bool):gs (gu aG):=λj bS=>by refine mg bS λb w bP=>b' bP ?_;cases b<;>decide
section
inductive iM(j:b7)(x:Nat)(hk hz:Str->Option al)(aX gZ h z:aq)(aG:List Bool)(aA:Str->Option al)(a:ag):Prop|mk(fS:a.heap.Ns aX aA)(fT:a.heap.IsCell gZ<|W<|.ref h)(gy:∃i,a.heap.get? h=W (jU z i))(jI:a.heap.get? z=W (cQ<|cz<|gu aG))(lm:Sub (em j.params x) a.heap)(nZ:a.heap.Ns 3 hk)(vg:a.heap.Ns 0 hz):iM j x hk hz aX gZ h z aG aA a
theorem iM.mH:qJ (iM j x hk hz aX gZ h z aG aA):=λa v r s=>by have l:=t' s;exact⟨r.1.keeps l,(br r.2 λo i y=>⟨o,l _ _ i,y⟩),r.3.imp λi e=>l _ _ e,l _ _ r.4,λh o db i fO=>l _ _<|r.5 h o db i fO,r.6.keeps l,r.7.keeps l⟩
inductive yD(ge:Env)(aX gZ:aq):Prop|mk(fS:ge.scope=s8)(fT:ge.locals=aX)(gy:ge.globals=3)(jI:ge.builtins=0)(lm:ge.cells.lookup ("self":Str)=W gZ):yD ge aX gZ
noncomputable def v9(hk hz:Str->Option al)(f:Str):Option Value:=match hk f with|some u=>W u|none=>hz f
theorem BP(c:yD ge aX gZ)(R:s8.names.lookup f=W .globalImplicit)(aK:v9 hk hz f=W u):n1 (iM j x hk hz aX gZ h z aG aA) ge f u:=by refine⟨⟨by refine V c.1 ?_;rfl,by unfold xk;refine V c.1 ?_;exact R⟩,λa r=>(dj hk (c.3▸r.6) ?_)⟩;unfold v9 at aK;cases i:hk f with|some aN=>replace aK:=i▸aK;exact .inl aK|none=>replace aK:=i▸aK;exact .inr ⟨U,(dj hz (c.4▸r.7) aK)⟩
theorem afM(ay:d0 i=Z)(c:gI ao j q as ge H i<|dZ k):gI ao j q as ge H (.List [i] aj) (IsL [] [.int k]):=λa C L ah=>by refine iT (V (arm_eval_List ..) U) ?_;refine bj<|pS ?_;refine iT (V (kr ay)<|U) ?_;show b9 _ q (ou [(a1,dD i ge)]>>=_) C as a;refine iT (U) ?_;refine bj<|bj<|c a _ L λg an aL cR=>?_;refine oD bd ?_;refine li<|ko<|cN<|cN ?_;refine jd (ah _ _ (n' aL<|vO (x:=an.toks) λb o i=>eD _ i) ?_) (by show 1<=cI;decide);refine c5 cR λE cB=>?_;refine V cB ?_;refine J7 (x:=an.toks) (O:=[.int k E]) ?_;exact⟨_,_,U,by exact⟨E,U⟩,by exact U⟩
theorem Li(c:yD ge aX gZ)(aS:aA "k"=W (.int l E)):gI ao j q as ge (iM j x hk hz aX gZ h z aG aA) (.Name "k" aj) (dZ l):=λa C L ah=>RB (by refine V c.1 ?_;rfl) (by unfold xk;refine V c.1 ?_;rfl) (c.2▸L.1) aS (ah _ _ (EE a) ⟨E,U⟩) bd
theorem TR(av:q.depth+90<fF)(c:yD ge aX gZ):gI ao j q as ge (iM j x hk hz aX gZ h z aG aA) (.Attribute (.Name "self" e1) "_data" fi) (λa g=>g=.ref z/\a.heap.get? z=W (cQ<|cz<|gu aG)):=λa C L ah=>Attribute_name<|RC (u:=.ref h) (by refine V c.1 ?_;rfl) (by unfold xk;refine V c.1 ?_;rfl) c.5 L.2 (L.3.elim λi m=>Lh av L.5 m λv s=>ah _ v s ⟨U,t' s _ _ L.4⟩) bd bd
theorem afN(D:List Bool):J8 ((cz<|gu D).toList).toArray=D.map λb=>.int (b2i b):=by unfold J8 cz gu;simp only[jY];refine rf λb w=>?_;cases b<;>rfl
theorem afO{aG:List Bool}{l:Nat}:xp (cz<|gu aG) (W (l:Int)) (W<|(l:Int)+8)=cz (gu<|(aG.drop l).take 8):=by refine V (abL ..) ?_;simp[cz,gu,xe,z0]
end
section
section
variable{j:b7}{q:bY}{as:al->ag->Prop}{a:ag}{h z gZ aX:aq}{aG:List Bool}{x l:Nat}{ge:Env}{aA hk hz:Str->Option al}{E:Tok}{dm eY lU vD sQ yE s9 s_ s' wa wb wc wd yF BQ yG we wf yH wg yI wh wi yJ yK FE TS afP TT afQ afR:Pos}
theorem afS(cJ:q.handled=aQ)(av:q.depth+90<fF)(c:yD ge aX gZ)(aS:aA "k"=W (.int l E))(cP:l<aG.length)(dW:aG.length<=2^20)(af:v9 hk hz "int"=W (.type "int"))(ap:v9 hk hz "map"=W (.type "map"))(bk:v9 hk hz "str"=W (.type "str"))(cx:v9 hk hz "list"=W (.type "list"))(ef:v9 hk hz "len"=W (.builtin "len"))(i0:(lU.endLine==TT.line)=Z):gI ao j q as ge (iM j x hk hz aX gZ h z aG aA) (.Call (.Name "int" dm) [.Call (.Attribute (.Constant (.str mK) 0 eY) "join" lU) [.Call (.Name "map" vD) [.Name "str" sQ,.BinOp (.Call (.Name "list" yE) [.Subscript (.Attribute (.Name "self" s9) "_data" s_) (.Slice (W<|.Name "k" s') (W<|.BinOp (.Name "k" wa) .Add (.Constant (.int 8) 0 wb) wc) aQ wd) yF] [] BQ) .Add (.BinOp (.List [.Constant (.int 0) 0 yG] we) .Mult (.BinOp (.BinOp (.Name "k" wf) .Add (.Constant (.int 8) 0 yH) wg) .Sub (.Call (.Name "len" yI) [.Attribute (.Name "self" wh) "_data" wi] [] yJ) yK) FE) TS] [] afP] [] TT,.Constant (.int 2) 0 afQ] [] afR) (dZ<|valOf<|rY aG l):=by
 have L:cI=2^24:=U;have bl:gI ao j q as ge (iM j x hk hz aX gZ h z aG aA) (.Subscript (.Attribute (.Name "self" s9) "_data" s_) (.Slice (W<|.Name "k" s') (W<|.BinOp (.Name "k" wa) .Add (.Constant (.int 8) 0 wb) wc) aQ wd) yF) (λa g=>∃fg,g=.ref fg/\a.heap.get? fg=W (cQ<|cz<|gu<|(aG.drop l).take 8)):=by have:=abv (aj:=wd) (vE:=yF) iM.mH (TR (aA:=aA) (hk:=hk) (hz:=hz) (aG:=aG) (h:=h) (z:=z) (j:=j) (as:=as) (x:=x) (e1:=s9) (fi:=s_) av c) (Li (aj:=s') c aS) (R5 (aj:=wc) iM.mH (Li (aj:=wa) c aS)<|EF (k:=8) (l:=0) (aj:=wb)) (by refine V (nC ..) ?_;unfold gu;refine V (d3 ..) ?_;exact gd [1,1,-1] (.l .x .y) [.l .x<|.n 1048576,.e .y<|.n 16777216] U dW L);rw[afO]at this;exact this
 have aI:gI ao j q as ge (iM j x hk hz aX gZ h z aG aA) (.Call (.Name "list" yE) [.Subscript (.Attribute (.Name "self" s9) "_data" s_) (.Slice (W<|.Name "k" s') (W<|.BinOp (.Name "k" wa) .Add (.Constant (.int 8) 0 wb) wc) aQ wd) yF] [] BQ) (IsL []<|((aG.drop l).take 8).map λb=>.int<|b2i b):=by refine EH iM.mH (BP c U cx) U (yd U iM.mH bl (λa v g⟨fg,i,s⟩ii=>⟨fg,i,t' ii _ _ s⟩) EG) ?_;rintro a aR _ bP;refine ei bP λg w cB dv ek=>V cB ?_;obtain⟨fg,rfl,aK⟩:=dv;refine V ek ?_;have:=aby (prog:=ao) (j:=j) (as:=as) cJ aK (by refine V (nC ..) ?_;unfold gu;simp;exact cy (.l .x<|.n 16777216) [.l .x<|.n 8] U<|tM _ _);rw[<-HP (xs:=cz<|gu<|(aG.drop l).take 8),afN]at this;exact this
 have ay:gI ao j q as ge (iM j x hk hz aX gZ h z aG aA) (.Call (.Name "len" yI) [.Attribute (.Name "self" wh) "_data" wi] [] yJ) (dZ aG.length):=by
  refine EH iM.mH (BP c U ef) U (yd U iM.mH (TR (aA:=aA) (hk:=hk) (hz:=hz) (aG:=aG) (h:=h) (z:=z) (j:=j) (as:=as) (x:=x) (e1:=wh) (fi:=wi) av c) (λa v g⟨i,s⟩ii=>⟨i,t' ii _ _ s⟩) EG) ?_;rintro a aR _ e_ C ah;refine ei e_ λg w gX gF hq=>V gX ?_;obtain⟨rfl,aK⟩:=gF;refine V hq ?_;have ab:(cz<|gu aG).size=aG.length:=by refine V (nC ..) ?_;unfold gu;exact V (d3 ..) U
  exact P0 aK (ab▸cy (.b_ (.c .x)<|.n 9223372036854775808) [.l .x<|.n 1048576] U dW)<|ab.symm▸ah _ _ (vN ..) ⟨_,U⟩
 have ab:gI ao j q as ge (iM j x hk hz aX gZ h z aG aA) (.BinOp (.List [.Constant (.int 0) 0 yG] we) .Mult (.BinOp (.BinOp (.Name "k" wf) .Add (.Constant (.int 8) 0 yH) wg) .Sub (.Call (.Name "len" yI) [.Attribute (.Name "self" wh) "_data" wi] [] yJ) yK) FE) (IsL []<|(dq (l+8-aG.length) a1).map λb=> .int<|b2i b):=by
  refine EI iM.mH (afM (aj:=we) (k:=0) U EF) J6 (abf (aj:=yK) iM.mH (R5 (aj:=wg) iM.mH (Li (aj:=wf) c aS) EF) ay) ?_;rintro a fM g5 _ az iZ;refine c5 iZ λaN jK=>V jK ?_;have:=abx (prog:=ao) (j:=j) (q:=q) (as:=as) (aN:=aN) (l:=(l:Int)+8-aG.length) az (by simp) (c3 (.b3 (.g<|.n 9223372036854775808)<|.s (.a (.c .x)<|.n 8)<|.c .y) [.l .y<|.n 1048576] U dW) (c3 (.b_ (.s (.a (.c .x)<|.n 8)<|.c .y)<|.n 9223372036854775808) [.t .x .y] U cP) (by simp;exact c3 (.b3 (.a (.c .x)<|.n 8)<|.a (.n 16777216)<|.c .y) [.t .x .y] U cP);have i:(dq ((l:Int)+8-aG.length).toNat [bh.int 0]).flatten=(dq (l+8-aG.length) a1).map λb=>bh.int (b2i b):=by refine((show((l:Int)+8-aG.length).toNat=l+8-aG.length from Da (l+8) aG.length).symm)▸ ?_;generalize l+8-aG.length=t;induction t with
   |zero=>rfl |succ t a2=>refine V nf<|V jA<|V a2<|V nf<|V iz ?_;rfl
  rw[i] at this;exact this
 have bC:=EI (aj:=TS) iM.mH aI J6 ab (ar:=IsL []<|(rY aG l).map λb=> .int<|b2i b) (by intro a fM g5 _ af ap;unfold rY;refine V mc ?_;exact abw af ap (by simp;exact(ix 8<|aG.length-l).elim (λd_=>(ix (aG.length)<|(l)+8).elim (λgS=>rs [1,1,-1,1,1] (.l (.a .x .y) .z) [.t .w .u,.e .z<|.n 16777216,.l .x<|.n 8,.e (.a .y .u)<|.a .w<|.n 8] U cP L (tM _ _)<|eN gS) λgS=>j4 [1,-1,1,1] (.l (.a .x .y) .z) [.e .z<|.n 16777216,.l .x<|.n 8,.e .y<|.n 0] U L (tM _ _)<|jh gS) λd_=>rs [1,1,-1,1,1] (.l (.a .x .y) .z) [.t .w .u,.e .z<|.n 16777216,.l .x<|.n 8,.e (.a .y .u)<|.a .w<|.n 8] U cP L (tM _ _)<|eN<|hh (.l .x<|.a .y<|.n 8) [.l .z<|.n 8,.l .x<|.a .z .y] U d_<|f2 _ _));have cL:=chunk_len cP;refine EH iM.mH (BP c U af) U (yd U iM.mH (abK cL cJ iM.mH (BP c U ap) (BP c U bk) bC U i0 U) (λw w w c w=>c)<|yd U iM.mH EF (J2 _) EG) ?_;rintro a aR _ nt C ah;refine ei nt λg w nu sK qp=>ei qp λbe w sL sz vu=>V nu ?_;obtain⟨aN,rfl⟩:=sK;refine V sL ?_;obtain⟨ps,rfl⟩:=sz;exact V vu<|aa2 cL<|ah _ _ (vN ..) ⟨_,U⟩
end
end
section
variable{j:b7}{aE a:ag}{T:Nat->Obj}{x:Nat}{au:fQ}
noncomputable def ta(H:cc)(x:Nat):FuncData:=fdOf<|EW ao H x
theorem TU(H:cc)(x:Nat):(em H x).get 1945=W (EW ao H x):=by cbv
theorem afT(H:cc)(x:Nat):(em H x).get 1944=W (KG ao H x):=by cbv
theorem afU(a:ag)(H:cc)(x:Nat)(f:al):iO a (ta H x) ⟨[f],[]⟩ [("self",f)]:=p3 (by cbv)
theorem wj(c:dy j aE T x au)(b:fh (a3 j aE T x au) a)(aP:(em j.params x).get h=W o)(bl:o.data=.func bi)(m:bi.body=.stmts ep)(a5:bi.code=.ref e)(Lj:(em j.params x).get e=W rI)(aM:rI.data=.fields O)(af:O[1]?=W (.str bi.qualname E))(xK:bi.scope.isCoroutine=a1)(j6:bi.scope.isGenerator=a1)(aS:bi.scope.kind=.function)(bg:bi.scope.names.all (λf=>f.2 !=.free)=Z)(az:bi.closure=[]):FnAt a h bi ep:=by have L:=c.sub b;refine⟨⟨o,L _ _ _ aP (by obtain⟨g,bH,qG,bx⟩:=o;cases qG<;>first|rfl|cases bl),bl⟩,xK,j6,m,⟨e,rI,O,E,a5,L _ _ _ Lj (by obtain⟨g,bH,qG,bx⟩:=rI;cases qG<;>first|rfl|cases aM),aM,af⟩,aS,λf R=>?_,az,Fz c a b⟩;have:=hn.mp bg f R;simpa using this
theorem afV(c:dy j aE T x au)(b:fh (a3 j aE T x au) a):FnAt a 1945 (ta j.params x) (gC BO):=wj (e:=1944) (E:=x+899) c b (TU ..) U (by cbv) (by cbv) (afT ..) U (by cbv) (by cbv) (by cbv) (by cbv) (by cbv) (by cbv)
theorem ae.QD{z:Nat}{Q:c4}{A:b0}{f:Str}{b:Array UInt8}{e1 fi:Pos}(aO:dy j aE T x au)(c:ae (a3 j aE T x au) z Q A (.Name f e1) .b2<|.buf b):ae (a3 j aE T x au) z Q A (.Attribute (.Name f e1) "_data" fi) .b2 (.nE b):=λq n p N aF S ax L M a C r ah=>by refine Y.eq (GX ..)<|Y.bind<|c q n p N aF S ax L M a _ r λa4 an aL hr=>dV<|uZ hr λh bH tb bP a7 aK bl ui w=>V bP<|d6<|j7<|Y.of<|Lh (by have:=ax.2;show q.depth+90<1000;exact c3 (.t (.a .x<|.n 90)<|.n 1000) [.l (.a .x .y)<|.n 900] U this) (aO.sub (r.grow aL).2) aK λv l i4=>gc l λaa fj cB ii=>?_;obtain rfl:=cB;have a_:a9 [] [] an {an with heap:=aa,toks:=fj}:=bJ.heap (λb o w i=>ii b o i) i4.1;exact eo<|Y.pure<|ah _ _ (aL.trans a_)<|ro bH U bl<|ii _ _ ui
theorem FF(c:dy j aE T x au):(a3 j aE T x au).GI:=by
 have bt:∃yL o,(pF j.params T x au).nsMap 3 "__builtins__"=W (.ref yL)/\yL≠builtinsNs/\(em j.params x).get yL=W o/\o.cls=.type "module"/\o.dict=W builtinsNs/\o.data=.plain:=(Pq 4 (Rx ao j.params) (by cbv) bd (by cbv) U U U);refine H9 bt λyL o af ap bk cx ef fL=>⟨io c,λq as v C aS a5=>?_,?_,od _ bd⟩
 .have kc:hZ o=W o:=by obtain⟨g,bH,qG,bx⟩:=o;cases qG<;>first|rfl|exact nomatch fL
  have aP:=v6 c _ _ _ bk kc;have TV:=qT (T:=λw=>oc) bk kc;refine wpAny_builtinsFor ((TB c).at' λdb i=>aS 3 db (dB i) (od _ bd) i) af ap (aS _ _ (dB aP) (od _ ⟨TV.1,TV.2.1⟩) aP) cx ef fL a5
 .exact cw bd c.2
theorem Lk{prog:cl}{j:b7}{q:bY}{n:Env}{a:ag}{f:Str}{l:Nat}{e1 fi:Pos}{ca:List ez}{K:gb->ag->Prop}(aS:n.scope.kind=.function)(c:∀fj,Y prog j q (dE ca n) K {a with toks:=fj}):Y prog j q (dE (.Expr (.Constant (.str f) l e1) fi::ca) n) K a:=by
 refine D5 ?_;have ac:wX n=a1:=by unfold wX;refine V aS ?_;rfl
 exact V (GK (hi:=ac) (hs:=vc U))<|dV<|du<|Np<|Y.pure ⟨U,c _⟩
noncomputable def i7(aG:List Bool)(k:Nat):Int:=valOf<|rY aG<|8*k
@[reducible]noncomputable def Ll(aG:List Bool):b0:=js ["self"] [(.b2,.buf<|cz<|gu aG)] []
theorem afW{z:Nat}{aG:List Bool}{vA x2 x3 Lm:Pos}(aO:dy j aE T x au)(ab:aG.length<=2^20):dd (a3 j aE T x au) z (fa BO) (Ll aG) (.Call (.Name "len" vA) [.Attribute (.Name "self" x2) "_data" x3] [] Lm) aG.length:=by have:=ae.CH (aj:=Lm) (di:=vA) (ug aO) (ae.QD (z:=z) (f:="self") (e1:=x2) (fi:=x3) aO<|ae.name (f:="self") (aj:=x2) (Q:=fa BO) (A:=Ll aG) (u:=.buf<|cz<|gu aG) U (by cbv)) (by unfold gu;refine V (d3 ..) ?_;exact mG ab bd);rwa[gu,d3]at this
theorem TW{t:Nat}(ab:t<=2^20):rk 0 t 8=((t+7)/8:Nat)/\xl 0 t 8=Z:=by have BR:=ZI t;refine⟨BR,?_⟩;unfold xl;refine V BR ?_;rw[if_pos bd,AK _ (iP _)<|iP _,AK _ (by exact iP _) (by exact cy (.b_ (.c .x)<|.n 4611686018427387904) [.l .x<|.n 1048576] U ab),AK _ (iP _) (by exact iP _),AK _ (iP _) (by exact gd [8,1,1] (.b_ (.c .x)<|.n 4611686018427387904) [.l .y<|.n 1048576,.l (.m 8 .x)<|.a .y<|.n 7] U ab<|qd _ 8),AK _ (by exact cy (.b3 (.g<|.n 4611686018427387904)<|.a (.c .x)<|.s (.n 8)<|.n 1) [] U) (by exact cy (.b_ (.a (.c .x)<|.s (.n 8)<|.n 1)<|.n 4611686018427387904) [.l .x<|.n 1048576] U ab)];rw[Bool.or_true];rfl
theorem afX(aO:dy j aE T x au)(ab:aG.length<=2^20)(ax:eK z q)(M:cM (a3 j aE T x au) ed p N aF S)(L:ed.scope=fa BO):cm ao j q [] [] ed (bw (a3 j aE T x au) ed p N S<|Ll aG) (.Call (.Name "range" x1) [.Constant (.int 0) 0 Eh,.Call (.Name "len" vA) [.Attribute (.Name "self" x2) "_data" x3] [] Lm,.Constant (.int 8) 0 amn] [] amo) (AJ p 0 8<|(aG.length+7)/8):=by refine kO M.ok (hB (FF aO).1 M yA (by rw[L];cbv)) U (hN U M.ok IL (ie _)<|hN U M.ok (eT (afW aO ab) ax L M) (ie _)<|hN U M.ok IL (ie _) iY) ?_;rintro a aR aZ iF C ah;refine gJ λw bI=>ei iF λw w bG af jn=>ei jn λw w cr ap hc=>ei hc λw w eE bk hE=>?_;obtain⟨E,rfl⟩:=af;obtain⟨aN,rfl⟩:=ap;obtain⟨u,rfl⟩:=bk;subst hE eE cr bG;exact bI<|Y.of<|call_range_3 bd (ah _ _ (bJ.new _ _ a _ _) ⟨_,_,_,_,_,U,λe=>h' _<|M.ok.2 _ aZ _ e,DD ..,(TW ab).2,(TW ab).1⟩)<|.inl<|sR bd
theorem afY(aO:dy j aE T x au)(ax:eK (z+1) q)(M:cM (a3 j aE T x au) n p N aF S)(r:bw (a3 j aE T x au) n p N S A a)(a7:h∉p)(aK:a.heap.get? h=W (jU bH tb))(afZ:tb∉p)(j6:a.heap.get? tb=W lE)(gm:2011<=tb)(bl:bH∉p)(ui:a.heap.get? bH=W (cQ<|cz<|gu aG))(bC:TabAt a.heap 1944 1940 cv)(hA:bc.handled=aQ)(Jy:bc.depth<=900)(ab:aG.length<=2^20)(ah:∀dL aX s ai f' kT d7 v,a.heap.objs.size<=dL->a.heap.objs.size<=aX->a.heap.objs.size<=ai->dL<v.heap.objs.size->aX<v.heap.objs.size->ai<v.heap.objs.size->a.gens.size<=s->s<v.gens.size->a9 [1940] [] a v->TabAt v.heap 1944 1940 kT->kT=cv++d7->n7 dL aX (ai::f') [ai]->(∀b∈f',(a.heap.objs.size<=b\/b∉p)/\b<v.heap.objs.size)->jt ao j bc dL s aX (ai::f') [ai] ((aG.length+7)/8) (ob<|i7 aG) 0 v->C (.ref dL) v):Y ao j q (er (.ref 1945) [.ref h] []) C a:=by
 have az:=FF aO;have Ln:cf a.heap p (.buf<|cz<|gu aG) (.ref h):=⟨h,bH,tb,U,a7,aK,bl,ui,afZ,j6,gm⟩;refine A7 (g:=a3 j aE T x au) (eb:=["self"]) (ec:=[(.b2,.buf<|cz<|gu aG)]) (aR:=[.ref h]) az.1 ax (afV aO r.2) (by cbv) (by cbv) M r ⟨_,_,U,Ln,U⟩ U (afU a j.params x<|.ref h) (by cbv) λv dP bX ew bn gf=>?_;have i6:(cX (ta j.params x) 1945 a).scope=fa BO:=by cbv
 have Bd:(cX (ta j.params x) 1945 a).code=.ref 1944:=by cbv
 have Eu:(cX (ta j.params x) 1945 a).globals=3:=by cbv
 have x7:(cX (ta j.params x) 1945 a).builtins=0:=by cbv
 generalize aaa:q.deeper (cX (ta j.params x) 1945 a)=kf at*;generalize bp:cX (ta j.params x) 1945 a=ed at*;conv=>arg 4;arg 1;whnf
 have ud:ed.scope.kind=.function:=by rw[i6];rfl
 refine Lk ud λfj=>?_;replace bn:bw (a3 j aE T x au) ed (b4 ed++p) [] v.heap.objs.size (js ["self"] [(.b2,.buf<|cz<|gu aG)] []) {v with toks:=fj}:=bn.grow<|bJ.tok _ _ _ _;replace bX:a9 [] [] a {v with toks:=fj}:=bX.trans<|bJ.tok _ _ _ _;have BS:v.heap.objs.size=({v with toks:=fj}:ag).heap.objs.size:=U;generalize({v with toks:=fj}:ag)=an at*;rw[BS]at ew bn;have n8:a.heap.objs.size<=an.heap.objs.size:=bX.2;have yM:=bn.2;refine gJ λw bI=>cY (yM.ns az.1) λaf0 af1=>jf bn.3 λcV ar vH dv ek=>?_;obtain-:=dv;obtain-:=ek;refine br (vH "self" (.f<|.buf<|cz<|gu aG)<|oO U) λa4 h1 av=>br (ar.3 "self"<|.inl (by show ed.scope.names.lookup _=_;rw[i6];cbv)) λgZ ln ms=>?_;rw[h1]at ms;refine uZ av λfg s7 ck e_ ku Lo iE Lp w=>?_;obtain rfl:=e_;refine bI ?_;have sU:gZ∈b4 ed:=sv ln;have JR:uF s8 ed=dz (hb ed s8.names []):=Jc λe a5 xT=>by
  have:e.1="self":=by simp only[s8,fR,oy,or_false]at a5;rcases a5 with rfl|rfl|rfl|rfl|rfl|rfl|rfl|rfl<;>first|rfl|exact nomatch xT
  rw[this];exact⟨gZ,ln⟩
 have amT:1944≠1940:=bd;refine Y.bind<|dV<|Y.bind ?_;have hf:aE.heap.objs.size<=a.heap.objs.size:=r.2.1.2;have cL:(cz<|gu aG).size=aG.length:=by rw[nC];unfold gu;rw[d3]
 refine Rh (g:=1944) (H:=1940) (cv:=cv) (kP:=hb ed s8.names []) (pt:=gZ::fg::s7::(a3 j aE T x au).rh) (t:=(aG.length+7)/8) (sB:=λk u=>k<(aG.length+7)/8/\∃E,u=.int ((0:Int)+k*8) E) (Ei:=λai k c=>ov c ai ((0:Int)+(k:Nat)*8) ((((aG.length+7)/8:Nat):Int)-(k:Nat)) 8) (bc:=bc) (d9:=ob<|i7 aG) U JR bd U U U (mG (bb (iw _ _) gf.2) bd) (Fz aO _ yM) hA Bd (bC.keeps λb o i=>bX.1 b o (λe=>dt e) i) (λf=>U) ?_ ?_ ?_ ?_ ?_ ?_ (λk u c=>c.1) ?_
 .intro ej mY el nk aS a5;refine iT (V Eu<|V x7 U) ?_;replace a5:=x7▸a5;refine az.2 ej mY el nk (λb o m bC i=>aS b o (λe=>bC<|e▸lD.mpr (.inr U))<|yM.1.1 b o bC i) a5
 .exact g4 (ew.8 _ (ew.4 _ sU).1)<|g4 (dB Lo)<|g4 (dB Lp) λb m=>cw (mZ.mp m).1 yM.1.2
 .exact mt<|mt<|mt<|mZ.mpr az.3
 .intro e;exact dH e (λe=>cd (e▸bC.1.lt.2)<|dP gZ sU) λe=>dH e (λe=>ku<|e▸bO (M.6 _<|M.7 _<|lD.mpr<|.inr U)) λe=>dH e (λe=>iE<|e▸bO (M.6 _<|M.7 _<|lD.mpr<|.inr U)) λe=>(mZ.mp e).2<|lD.mpr<|.inr U
 .--sx iterator
  refine afX aO ab gf ew i6 an _ bn λA6 am a_ iD=>gJ λw bI=>H' iD λy b E aN u sL amU ac FG vz=>?_;obtain rfl:=sL;exact bI<|Y.of<|GN ac FG<|V vz<|⟨_,U,a_.2,by show _<(am.heap.push _).objs.size;rw[fZ];exact lM _,a_.trans<|bJ.push am _ am.toks,(fc _ U),λej Ev=>Mine.Walks.lt<|Dz Ev _ 0 8<|(aG.length+7)/8⟩
 .--sx Yh
  intro aX code ej mY k B am t5 Ev af2 _ ac aM x4 t6 JT;refine gJ λw bI=>cY aM λw sz=>c5 sz λeR vu=>?_;obtain rfl:=vu;refine bI ?_;have f9:∀b,b∈gZ::fg::s7::(a3 j aE T x au).rh->∀o,an.heap.get? b=W o->am.heap.get? b=W o:=JT;have bM:iM j x (a3 j aE T x au).mg (a3 j aE T x au).mb aX gZ fg s7 aG t5 am:=by
   refine⟨x4,?_,⟨_,f9 _ (mt bz) _ Lo⟩,f9 _ (mt<|mt bz) _ Lp,λb o db i fO=>?_,af0.at' λo i=>f9 3 ?_ o i,af1.at' λo i=>f9 0 ?_ o i⟩
   .exact br ms λo i y=>⟨o,f9 _ (bz) _ i,y⟩
   .have yC:=qT (T:=λw=>oc) i fO;exact f9 b (mt<|mt<|mt<|mZ.mpr ⟨cw (s6 yC.2.2) aO.2,od _ ⟨yC.1,yC.2.1⟩⟩) _<|(aO.sub yM) b o db i fO
   .exact mt<|mt<|mt<|mZ.mpr ⟨cw bd aO.2,az.1.4⟩
   .exact mt<|mt<|mt<|mZ.mpr ⟨cw bd aO.2,az.1.5⟩
  have g7:yD (genEnv s8 (hb ed s8.names []) aX code ed.builtins ed) aX gZ:=⟨U,U,Eu,x7,(xR ln s8.names [] aW<|.inr bd)⟩;have vL:((0:Int)+k*8)=((8*k:Nat):Int):=by push_cast;exact cy (.eG (.a (.n 0)<|.r (.c .x) 8)<|.m 8<|.c .x) [] U
  replace t6:=vL▸t6;exact afS (l:=8*k) Ev (by show ej.depth+90<1000;exact c3 (.t (.a .x<|.n 90)<|.n 1000) [.l .y<|.n 900,.l .x<|.o .y] U Jy af2) g7 t6 (j4 [1,8,1] (.t (.m 8 .x) .y) [.t .x .z,.l (.m 8 .z)<|.a .y<|.n 7] U aM.1<|qd _ 8) ab gl_int afo gl_str TJ TH U am _ bM λg cg jj af3=>⟨af3,jj⟩
 .intro dL aX s ai kT d7 el mS fW ll af4 pA Be vI JU hS JV lz kM n4;refine Y.pure<|Y.pure ⟨_,U,ah dL aX s ai (gZ::fg::s7::(a3 j aE T x au).rh) kT d7 el (bb n8 mS) (bb n8 fW) (bb n8 ll) af4 pA Be (bb bX.4 vI) JU ((bX.mono aW λw c=>c).trans hS) JV lz kM (g4 ⟨.inl<|dP _ sU,cw (ew.8 _ (ew.4 _ sU).1) hS.2⟩<|g4 ⟨.inr λe=>ku<|bO e,cw (dB Lo) hS.2⟩<|g4 ⟨.inr λe=>iE<|bO e,cw (dB Lp) hS.2⟩ λb m=>⟨.inr λe=>(M.9 _ e).elim (mZ.mp m).2 λG=>cd (mZ.mp m).1 G,cw (mZ.mp m).1<|bb yM.1.2 hS.2⟩)<|n4 bc hA (dA _)<|dA _⟩
end
section
variable{g:dw}{n:Env}{p N:List aq}{a:ag}{ai fD:Inv}
noncomputable def Inv.both(ai fD:Inv):Inv where
 W:=ai.W++fD.W
 G:=ai.G++fD.G
 St:=λp a=>ai.St p a/\fD.St p a
 frame:=λp a v cb c6 c s dK ji=>⟨ai.frame p a v cb c6 c.1 s (λb m=>⟨(dK b m).1,λe=>(dK b m).2<|b3 e⟩) λk ac e=>ji k ac<|b3 e,fD.frame p a v cb c6 c.2 s (λb m=>⟨(dK b m).1,λe=>(dK b m).2<|bO e⟩) λk ac e=>ji k ac<|bO e⟩
 mono:=λp bu a c co=>⟨ai.mono p bu a c.1 co,fD.mono p bu a c.2 co⟩
theorem Inv.At.fst(c:(ai.both fD).At g n p N a):ai.At g n p N a:=⟨c.1.1,λb m=>c.2 b<|b3 m,λk ac=>c.3 k<|b3 ac⟩
theorem Inv.At.snd(c:(ai.both fD).At g n p N a):fD.At g n p N a:=⟨c.1.2,λb m=>c.2 b<|bO m,λk ac=>c.3 k<|bO ac⟩
theorem Inv.At.both(c:ai.At g n p N a)(aa:fD.At g n p N a):(ai.both fD).At g n p N a:=⟨⟨c.1,aa.1⟩,λb m=>bN m (c.2 b)<|aa.2 b,λk ac=>bN ac (c.3 k)<|aa.3 k⟩
noncomputable def Inv.none:Inv:=⟨[],[],λw w=>True,λw w w w w w w w w=>trivial,λw w w w w=>trivial⟩
theorem Inv.aeH:Inv.none.At g n p N a:=⟨trivial,aW,aW⟩
noncomputable def hU(e H:aq):Inv where
 W:=[H]
 G:=[]
 St:=λp a=>e∉p/\∃cv,TabAt a.heap e H cv
 frame:=λp a v cb c6 c s dK w=>by
  obtain⟨a5,cv,bC⟩:=c;refine⟨a5,cv,bC.kept λb m o i=>s.1 b o (λdg=>?_) i⟩;rcases m with rfl|rfl
  .exact a5 (dK _ dg).1
  .exact(dK _ dg).2 bz
 mono:=λp bu a c co=>by obtain⟨a5,cv,bC⟩:=c;exact⟨λdg=>(co _ dg).elim a5 λG=>cd bC.1.lt.1 G,cv,bC⟩
noncomputable def wk(j:b7)(bc:bY)(dL:aq)(s:Nat)(aX:aq)(bF a0:List aq)(t aD:Nat)(d9:Nat->al->Prop):Inv where
 W:=aX::a0
 G:=[s]
 St:=λp a=>jt ao j bc dL s aX bF a0 t d9 aD a/\n7 dL aX bF a0/\(∀b∈dL::aX::bF,(b∈aX::a0\/b∉p)/\b<a.heap.objs.size)/\∀b∈aX::a0,2011<=b
 frame:=λp a v cb c6 c hS dK ji=>by exact lg c λaf ap bk cx=>⟨af.frame ap hS (λb m e=>g_ ((bk b e).1) (λG=>(dK b m).2 G) λG=>G (dK b m).1) λe=>ji s e bz,ap,λb m=>⟨(bk b m).1,cw (bk b m).2 hS.2⟩,cx⟩
 mono:=λp bu a c co=>by exact lg c λaf ap bk cx=>⟨af,ap,λb m=>⟨(g_ ((bk b m).1) (λG=>.inl G) λG=>.inr λe=>(co b e).elim G λev=>cd (bk b m).2 ev),(bk b m).2⟩,cx⟩
noncomputable def m4(aC:aq)(aH:List bh):Inv where
 W:=[aC]
 G:=[]
 St:=λp a=>2011<=aC/\jM a.heap p aC (.lst aH)/\∀O t,a.heap.get? aC=W {cls:=.type "list",data:=.seq O t}->∀u∈O.toList,∀h,u=.ref h->aC<=h
 frame:=λp a v cb c6 c s dK w=>by have TX:∀o,a.heap.get? aC=W o->v.heap.get? aC=W o:=λo i=>s.1 _ o (λe=>(dK _ e).2 bz) i;refine⟨c.1,c.2.1.to (λb o m i=>⟨s.1 b o (λe=>m (dK b e).1) i,m⟩) TX,λO t i=>c.2.2 O t<|gc c.2.1 λadP cA rA w=>?_⟩;have bG:=TX _ rA;rw[i]at bG;exact rA.symm▸bG▸U
 mono:=λp bu a c co=>⟨c.1,c.2.1.to (λb o m i=>⟨i,λe=>(co b e).elim m λG=>cd (dB i) G⟩) λo i=>i,c.2.2⟩
noncomputable def Lq(A:b0):Bool:=A.all λr=>match r.2 with|.f bL=>Z|_=>a1
set_option tactic.hygienic true in theorem uj(c:Lq A=Z):jT A:=λf bx e=>by induction e with
 |here=>
  unfold Lq at c;rw[nQ,h_]at c
  rename_i u;cases u with
  |f aN=>exact⟨aN,U⟩|o aN=>exact iV c.1|b aN=>exact iV c.1
 |there _ _ a2=>unfold Lq at c;rw[nQ,h_]at c;exact a2 c.2
theorem fh.QH(b:fh g a)(bM:H∈g.tabs\/g.s0.heap.objs.size<=H)(s:a9 [H] [] a v)(c:TabAt a.heap e H cv)(aa:TabAt v.heap e H<|cv++d7):fh g v:=by
 refine⟨b.1.hj s (λB a8=>bM.elim (λG=>.inl<|bm a8▸G) λG=>.inr<|gz<|bm a8▸G) aW,λB a8 o O bG cr eE=>c5 (b.2 B a8 o O bG cr eE) λaA i=>?_⟩;by_cases TY:B=H
 .subst TY;have t1:=c.2.2;replace t1:=i▸t1;have t1:=d4 t1;refine⟨aA++d7,(aa.2.2.symm▸?_)⟩;have lz:cv=O++aA:=by have:=congrArg Obj.data t1;simpa using this.symm
  have aP:o.cls=.none/\o.dict=aQ/\o.slots=#[]:=⟨congrArg Obj.cls t1,congrArg Obj.dict t1,congrArg Obj.slots t1⟩;obtain⟨I9,ac_,amV,amW⟩:=o;obtain⟨rfl,rfl,rfl⟩:=aP;exact lz.symm▸Array.append_assoc.symm▸U
 .exact⟨aA,s.1 _ _ (λe=>TY<|bm e) i⟩
namespace ct
theorem doc(c:ct g z q Q ai A ca cu):ct g z q Q ai A (.Expr (.Constant (.str E) aD e1) fi::ca) cu:=λn p N aF S a ax L M r ac=>Lk M.1 λfj=>Y.mono (c n p N aF S _ ax L M (r.grow<|bJ.tok _ _ _ _)<|ac.it (bJ.tok [] [] a fj) aW aW) λI v aa=>aa.trans<|gP.refl ai a|>.trans ⟨λw c=>c,λw c=>.inl c,λw c=>.inl c,λw c=>.inl c,λw c=>.inl c,bJ.tok ..⟩
end ct
end
noncomputable def qW(aC:aq):Obj:={cls:=.type "builtin_function_or_method",data:=.fields #[.builtin "list.append",.ref aC]}
noncomputable def k0(O:Array al)(l:Nat):Obj:={cls:=.type "list",data:=.seq O l}
theorem af5(h t s l x:Nat)(O:Array al):kZ 30 (ip x) t s (ow (.ref h) "append" Z) (λE=>⟨[(h,k0 O l)],0,E,[1,1,1,1,1,1],[],[]⟩) (λw=>.ref t) (λG=>(G.gs,G.objs,G.m)) (λw=>([],[(h,k0 O l),(t,qW h)],1)):=λb j E=>by cases b<;>cbv
theorem af6(h t s l x:Nat)(O:Array al)(f:al):kZ 30 (ip x) t s (checkBoundCall "list.append" ⟨[.ref h,f],[]⟩) (λE=>⟨[(h,k0 O l)],0,E,[1,1,1],[],[]⟩) (λw=>()) (λG=>(G.gs,G.objs,G.m)) (λw=>([],[(h,k0 O l)],0)):=λb j E=>by cases b<;>cbv
section
theorem Lr(iq:eV bc a.heap.objs.size a.gens.size a G v)(aK:G.gs=[])(qI:∀r∈G.objs,a.heap.get? r.1=W r.2\/a.heap.objs.size<=r.1):kk a v/\a.heap.objs.size<=v.heap.objs.size:=by have s:bJ [] a v:=iq.same qI;refine⟨⟨v.heap,v.toks,?_,λb o i=>s.1 b o (λe=>nomatch e) i⟩,s.2⟩;have af:=iq.8;replace af:=aK▸af;obtain⟨aZ,afJ,afK,fj,os⟩:=v;simp only[Pc,true_and];exact⟨by exact af,iq.11,iq.10⟩
theorem Keeps.QJ(l:kk a v)(G:a.heap.objs.size<=v.heap.objs.size):a9 [] [] a v:=by refine gc l λaa fj bP ii=>?_;obtain rfl:=bP;exact bJ.heap (λb o w i=>ii b o i) G
theorem af7(av:q.depth+90<fF)(L:Sub (em j.params x) a.heap)(aP:a.heap.get? aC=W (k0 O l))(de:2011<=aC)(ah:∀v,a9 [] [] a v->v.heap.get? a.heap.objs.size=W (qW aC)->C (.ref a.heap.objs.size) v):Y ao j q (ow (.ref aC) "append" Z) C a:=by
 refine Y.of<|uh (af5 aC a.heap.objs.size a.gens.size l x O) av (eV.start L (λr aZ=>bm aZ▸aP) (by simp) λr aZ o db i fO=>by rw[bm aZ]at i;exact cd (s6 (qT (T:=λw=>oc) i fO).2.2) de) λev v iq M=>?_;simp only[p2]at M;refine eQ M λm3 jw oY=>?_;refine cY (Lr iq m3 (λr aZ=>by
  rw[jw]at aZ
  revert r;refine g4 ?_ ?_
  .exact .inl aP
  .intro r aZ;refine V (bm aZ) ?_;exact .inr<|dA _)) λii G=>?_;exact ah v (Keeps.QJ ii G)<|iq.3 1 _ _ (by refine V jw ?_;rfl)
theorem af8(av:q.depth+90<fF)(L:Sub (em j.params x) a.heap)(bt:a.heap.get? aA=W (qW aC))(aP:a.heap.get? aC=W (k0 O l))(de:2011<=aC)(ab:O.size<=cI)(ah:∀v,a9 [aC] [] a v->(∃fB,v.heap.get? aC=W (k0 (O.push f) fB))->C .none v):Y ao j q (er (.ref aA) [f] []) C a:=by
 refine j7<|Y.of<|wpAny_call<|zt<|nU bt ?_;refine bj<|q8 (uh (q:=q.in1) (C:=λw v=>kk a v) (af6 aC a.heap.objs.size a.gens.size l x O f) av (eV.start L (λr aZ=>bm aZ▸aP) (by simp) λr aZ o db i fO=>by rw[bm aZ]at i;exact cd (s6 (qT (T:=λw=>oc) i fO).2.2) de) λev v iq M=>?_) (λw an rC=>?_) λw w e=>e.elim
 .simp only[p2]at M;refine eQ M λm3 jw oY=>?_;exact(Lr iq m3 λr aZ=>by rw[jw]at aZ;refine V (bm aZ) ?_;exact .inl aP).1
 .refine gc rC λbo iI cB ii=>V cB<|cN ⟨ot slot_list_append.plain _,wY entry_list_append ?_⟩;have TZ:=ii _ _ aP;show b9 _ _ (updateSeq aC (·.push f)>>=λw=>ret .none) _ _ _;refine bj<|w1 TZ U<|cN ?_;intro G;have s:a9 [aC] [] a {a with heap:=bo.update aC (jB (·.push f)),toks:=iI}:=bJ.heap (λb o m i=>(rg _ _ λe=>m<|km.mpr e.symm).trans<|ii b o i) G.1;refine ah _ s ⟨l+1,(V (pd _ TZ (by refine(V (OH ..) ?_);rfl))<|(V (OH ..) ?_))⟩;rfl
end
def d1(g:dw)(z:Nat)(q:bY)(Q:c4)(ai:Inv)(A:b0)(i:bB)(kh:bh->Inv->Prop):Prop:=∀(n:Env)(p N aF:List aq)(S:Nat)(a:ag),eK z q->n.scope=Q->cM g n p N aF S->bw g n p N S A a->ai.At g n p N a->∀C:al->ag->Prop,(∀a4 an u dX dn e6,kh u dX->gP ai n p N dn N dX a an->cM g n dn N aF e6->bw g n dn N e6 A an->dX.At g n dn N an->cf an.heap dn u a4->C a4 an)->Y g.prog g.w q (dD i n) C a
theorem gP.rO(s:a9 [] [] a an):gP ai n p N p N ai a an:=⟨λw c=>c,λw c=>.inl c,λw c=>.inl c,λw c=>.inl c,λw c=>.inl c,s.mono aW aW⟩
theorem d1.aeN(c:ae g z Q A i l u)(aS:l≠.ls:=by decide):d1 g z q Q ai A i (λhR b1=>hR=u/\b1=ai):=λn p N aF S a ax L M r ac C ah=>(c.gQ aS) q n p N aF S ax L M a C r λa4 an s y=>ah a4 an u ai p S ⟨U,U⟩ (gP.rO s) M (r.grow s) (ac.it s aW aW) y
theorem gP.inside(s:a9 (b4 n) [] a an):gP ai n p N p N ai a an:=⟨λw c=>c,λw c=>.inl c,λw c=>.inl c,λw c=>.inl c,λw c=>.inl c,s.mono (λb m=>b3<|bO m) aW⟩
namespace ct
theorem uV(bp:d1 g z q Q ai A i kh)(R:lu Q f=Z)(c:∀u dX,kh u dX->ct g z q Q dX ((f,.f u)::A) ca cu)(rG:∀n:Env,n.scope=Q->tw i (W<|.Name f di) aj.line n=dz a1:=by exact λw w=>vc U):ct g z q Q ai A (.Assign [.Name f di] i aj::ca) cu:=next λn p N aF S a ax L M r ac=>by refine Y.eq (C3 (hs:=rG n L) ..)<|dV<|Y.bind<|bp n p N aF S a ax L M r ac _ λa4 an u dX dn e6 aK eh h4 c_ gH y=>dV<|Y.bind<|sF (b:=a1) h4 c_ y (L▸R) λam a_ dS=>Y.pure ⟨U,(Pu _ dX dn N e6 (eh.trans<|gP.inside a_) h4 dS (gH.off h4 a_ λb m=>.inr m)<|c u dX aK)⟩
theorem z7(bp:d1 g z q Q ai A i kh)(ay:AE i=Z)(c:∀u dX,kh u dX->u=.none/\ct g z q Q dX A ca cu):ct g z q Q ai A (.Expr i aj::ca) cu:=next λn p N aF S a ax L M r ac=>by
 have pi:wX n=a1:=by unfold wX;refine V M.1 ?_;rfl
 refine(GK (hi:=pi) (hs:=vc ay)).symm▸dV (Y.bind<|bp n p N aF S a ax L M r ac _ λa4 an u dX dn e6 aK eh h4 c_ gH y=>cY (c u dX aK) λe9 av=>?_);obtain rfl:=e9;subst y;have rA:C1 i aj .none=dz .next:=by unfold C1;cases i<;>rfl
 exact rA.symm▸Y.pure ⟨U,(Pu A dX dn N e6 eh h4 c_ gH av)⟩
end ct
theorem ae.raw(aK:fI A f=W (.f<|.raw h))(R:ht Q f=Z):ae g z Q A (.Name f aj) .b2 (.raw h):=ae.name aK R
theorem d1.QL(aO:dy j aE T x au)(aK:fI A f=W (.f<|.raw<|.ref aC))(R:ht Q f=Z)(ll:∀n p N a,ai.At (a3 j aE T x au) n p N a->(m4 aC aH).At (a3 j aE T x au) n p N a):d1 (a3 j aE T x au) z q Q ai A (.Attribute (.Name f di) "append" aj) (λu b1=>b1=ai/\∃aA,u=.gQ [(aA,qW aC)] (.ref aA)):=λn p N aF S a ax L M r ac C ah=>by refine Y.bind<|(ae.raw (g:=a3 j aE T x au) (z:=z) aK R) q n p N aF S ax L M a _ r λa4 an aL hr=>?_;have BM:cf an.heap p (.raw<|.ref aC) a4:=hr;subst BM;refine dV ?_;have c_:=r.grow aL;have gH:=ac.it aL aW aW;exact eQ (ll _ _ _ _ gH).1 λde cB w=>gc cB λO l aP av=>d6<|af7 (by have:=ax.2;show q.depth+90<1000;exact c3 (.t (.a .x<|.n 90)<|.n 1000) [.l (.a .x .y)<|.n 900] U this) (aO.sub c_.2) aP de λam a_ bt=>eo<|Y.pure<|ah _ am (.gQ [(an.heap.objs.size,qW aC)]<|.ref an.heap.objs.size) ai p S ⟨U,_,U⟩ (gP.rO<|aL.trans a_) M (c_.grow a_) (gH.it a_ aW aW)<|⟨U,λe a5=>(bm a5).symm▸⟨λG=>h' _<|cw (M.8 _ G) c_.1,bt⟩⟩
section
variable{g:dw}{n:Env}{p N:List aq}{a v:ag}{ai wl yN:Inv}{aC:aq}{aH b5:List bh}
inductive FH(g:dw)(ai:Inv)(aC:aq)(aH:List bh)(b1:Inv)(T0:List bh):Prop|mk(fS:∀n p N a,ai.At g n p N a->(m4 aC aH).At g n p N a)(fT:∀n p N a v,ai.At g n p N a->a9 [aC] [] a v->(m4 aC T0).At g n p N v->b1.At g n p N v)(gy:b1.W=ai.W)(jI:b1.G=ai.G)(lm:aC∈ai.W):FH g ai aC aH b1 T0
theorem Inv.At.chg(c:ai.At g n p N a)(s:a9 [aC] [] a v)(de:aC∈p)(qu:aC∉ai.W):ai.At g n p N v:=c.it s (λb m=>bm m▸⟨de,qu⟩) aW
theorem af9(af:aC∉wl.W)(ap:aC∉yN.W):FH g (wl.both<|(m4 aC aH).both yN) aC aH (wl.both<|(m4 aC b5).both yN) b5:=⟨(λn p N a c=>c.snd.fst),(λn p N a v c s aa=>(c.fst.chg s (c.snd.fst.2 aC bz).1 af).both<|aa.both<|c.snd.snd.chg s (c.snd.fst.2 aC bz).1 ap),(U),(U),(bO<|b3 bz)⟩
theorem af_(af:aC∉wl.W)(ap:aC∉yN.W):FH g (wl.both<|yN.both<|m4 aC aH) aC aH (wl.both<|yN.both<|m4 aC b5) b5:=⟨(λn p N a c=>c.snd.snd),(λn p N a v c s aa=>(c.fst.chg s (c.snd.snd.2 aC bz).1 af).both<|(c.snd.fst.chg s (c.snd.snd.2 aC bz).1 ap).both aa),(U),(U),(bO<|bO bz)⟩
theorem af'(ay:aB.all d0=Z)(c:mR prog j q [] [] n H aB ar)(L:H a)(bM:su [] [] H)(bt:∀a,H a->a.heap.get? aA=W o)(aP:o.cls=.type "builtin_function_or_method")(bl:o.data=.fields mO)(az:∀aR v,a9 [] [] a v->ar v aR->Y prog j q (er (.ref aA) aR []) C v):Y prog j q (pT aj (.ref aA) [] (jX Az<|je aB n) []) C a:=by
 unfold pT;refine d6<|xG ay c L λaR an aL cR=>dV<|V (va ay ..)<|V (xd ..)<|V (sb ..) ?_;have aS:Y prog j q (sd<|.ref aA) (λl v=>l=.machine/\v=an) an:=by unfold sd;exact du<|zp (bt an<|bM _ _ L aL)<|V bl<|aP.symm▸Y.pure ⟨U,U⟩
 exact hi aS<|rv<|hi (az aR _ aL cR) λy am av=>du<|k5<|o'<|Y.pure av
def yO(A:b0):Prop:=∀f u,¬fo A f (.b u)
noncomputable def Ls(A:b0):Bool:=A.all λr=>match r.2 with|.b bL=>a1|_=>Z
theorem BU(c:Ls A=Z):yO A:=λf u e=>by generalize L:Slot.b u=bx at e;induction e with|here=>subst L;unfold Ls at c;rw[nQ,h_]at c;exact iV c.1|there _ _ a2=>unfold Ls at c;rw[nQ,h_]at c;exact a2 c.2 L
theorem bw.IS(r:bw g n p N S A a)(cn:yO A)(co:∀G∈cb,G∈p)(aP:∀G∈cb,G∉b4 n)(kb:∀G∈cb,G∉N)(s:a9 cb ak a v)(m:fh g v):bw g n p N S A v:=by refine jf r.3 λcV ar af ap bk=>⟨bb r.1 s.2,m,cV,ar.keeps λb m o i=>s.1 b o (λe=>aP b e m) i,λf bx R=>br (af f bx R) λu aM y=>⟨u,aM,y.own (cb:=cb) co (λe h i dg=>?_) λb o m i=>s.1 b o m i⟩,ap,bk⟩;cases bx with|f aN=>exact e|o aN=>refine fx (ap f aN R) λfg ku ck w=>?_;replace ck:=i▸aM▸ck;cases ck;exact kb _ dg ku|b aN=>exact cn f aN R
theorem aga(S:Nat)(p:List aq)(a:ag)(a4:al)(co:∀h∈p,h<S)(de:aC∈p)(c:e' S p .fr u a a4):cf a.heap p u a4/\∀h,a4=.ref h->aC<=h:=⟨c.b2 co bd,λh a7=>by refine fx c λb i m w=>?_;replace i:=a7▸i;cases i;exact nP<|cw (co aC de) m⟩
theorem T1(y:cf c p (.gQ [(b,cQ f)]<|.ref b) a4):cf c p (.nE f) a4:=by obtain⟨rfl,e⟩:=y;have:=e _ bz;exact(ro b U this.1 this.2)
theorem agb(m:aC<=b)(S:Nat)(p:List aq)(a:ag)(a4:al)(_:∀h∈p,h<S)(_:aC∈p)(c:e' S p .b2 (.gQ [(b,cQ f)]<|.ref b) a a4):cf a.heap p (.nE f) a4/\∀h,a4=.ref h->aC<=h:=⟨T1 c,λh a7=>by have:=c.1;replace this:=a7▸this;cases this;exact m⟩
theorem ar.QO(aK:fI A f=W (.f<|.gQ [(b,cQ<|cz aw)]<|.ref b):=by rfl)(R:ht Q f=Z:=by cbv):ae g z Q A (.Name f aj) .b2 (gh aw):=λq n p N aF S ax L M=>((ae.name (g:=g) (z:=z) aK R) q n p N aF S ax L M).to λa a4 c=>T1 c
theorem d1.QP(aO:dy j aE T x au)(cn:yO A)(iD:FH (a3 j aE T x au) ai aC aH b1<|aH++[u])(aK:fI A f=W (.f<|.gQ [(aA,qW aC)]<|.ref aA))(R:ht Q f=Z)(bp:ae (a3 j aE T x au) z Q A i l hR)(aM:∀(S:Nat)(p:List aq)a a4,(∀h∈p,h<S)->aC∈p->e' S p l hR a a4->cf a.heap p u a4/\∀h,a4=.ref h->aC<=h)(ab:aH.length<=cI)(ay:d0 i=Z:=by rfl):d1 (a3 j aE T x au) z q Q ai A (.Call (.Name f di) [i] [] aj) (λaN dX=>aN=.none/\dX=b1):=λn p N aF S a ax L M r ac C ah=>by
 subst L
 .refine Y.bind<|(ae.name (g:=a3 j aE T x au) (z:=z) aK R) q n p N aF S ax U M a _ r λa4 an aL hr=>cY hr λcB bt=>V cB ?_;have lA:=bt (aA,qW aC) bz;have c_:=r.grow aL;have gH:=ac.it aL aW aW;refine af' (H:=λE=>bw (a3 j aE T x au) n p N S A E/\E.heap.get? aA=W (qW aC)/\ai.At (a3 j aE T x au) n p N E) (o:=qW aC) (by simp[ay]) (Bs ay<|cm.weak (bp q n p N aF S ax U M) λE e=>e.1) ⟨c_,lA.2,gH⟩ (λE eR e s=>⟨e.1.grow s,s.all _ _ e.2.1,e.2.2.it s aW aW⟩) (λE e=>e.2.1) U U ?_;rintro aR am a_ gX;refine br gX λBV gF Lt=>V gF<|cY (aM S p _ _ M.8 (((iD.1 _ _ _ _ gH).2 aC bz).1) Lt) λLt n9=>?_;have dS:=c_.grow a_;have iN:=gH.it a_ aW aW;have aI:=iD.1 _ _ _ _ iN;refine eQ aI.1 λde hq S4=>gc hq λO l aP av=>?_;have cL:O.size=aH.length:=by simpa using av.length
  have qx:=aI.2 aC bz;refine af8 (by have:=ax.2;show q.depth+90<1000;exact c3 (.t (.a .x<|.n 90)<|.n 1000) [.l (.a .x .y)<|.n 900] U this) (aO.sub dS.2) (a_.all _ _ lA.2) aP de (cL▸ab) λcg ce FI=>c5 FI λfB FI=>?_;have Lu:aE.heap.objs.size<=aC:=by
   refine g_ (qx.2.2.2.1) (λe=>?_) λe=>?_
   .exfalso;rcases lD.mp e with e|e<;>(rw[e]at de;exact absurd de bd)
   .exact e
  have f9:∀b o,b∉p->am.heap.get? b=W o->cg.heap.get? b=W o/\b∉p:=λb o m i=>⟨ce.1 b o (λe=>m<|bm e▸qx.1) i,m⟩;have agc:(m4 aC<|aH++[u]).At (a3 j aE T x au) n p N cg:=by
   refine⟨⟨de,⟨O.push BV,fB,FI,?_⟩,λfz t i=>?_⟩,λb m=>?_,aW⟩
   .refine V Dt<|bW.append ?_<|bW.to f9 _ _ av;exact⟨BV,[],U,cf.to f9 _ _ Lt,by exact U⟩
   .have bG:W (k0 (O.push BV) fB)=W {cls:=.type "list",data:=.seq fz t}:=FI.symm.trans i;have cr:fz=O.push BV:=by have:=congrArg Obj.data<|d4 bG;simp only[k0,Pd]at this;exact this.1.symm
    refine V cr<|Dt.symm▸?_;intro aN e4 h a7;refine bN e4 (λe=>?_) λe=>?_
    .exact S4 _ _ aP aN e h a7
    .rw[bm e]at a7;exact n9 h a7
   .exact kK (aI.2 b m) λdT d8 dO eM gg=>⟨dT,d8,dO,eM,cw gg ce.2⟩
  refine ah .none cg .none b1 p S ⟨U,U⟩ ⟨λw c=>c,λw c=>.inl c,λw c=>.inl c,λw c=>.inl<|iD.3▸c,λw c=>.inl<|iD.4▸c,(((aL.trans a_).mono aW aW).trans<|ce.mono (λb m=>bO<|bm m▸iD.5) aW)⟩ M (dS.IS cn (λG ab=>(bm ab).symm▸qx.1) (λG ab=>bm ab▸qx.2.2.1) (λG ab=>bm ab▸qx.2.1) ce<|dS.2.to ce λG ab=>bm ab▸Lu) (iD.2 _ _ _ _ _ iN ce agc)<|U
end
noncomputable def FJ:List Nat:=[1,0,0,0,1,0,0,0,1,0,0,0,0,1,2]
theorem agd(h z i t s x:Nat)(n3:Sem Bool):kZ 30 (ip x) t s (w3 (.ref h) "toints" n3) (λE=>⟨[(h,jU z i),(i,lE)],0,E,FJ,[],[]⟩) (λw=>(.ref 1945,[.ref h])) (λG=>(G.gs,G.objs,G.m)) (λw=>([],[(h,jU z i),(i,lE)],0)):=λb j E=>by cases b<;>cbv
theorem T2(h z i t s x:Nat)(n3:Sem Bool):kZ 30 (ip x) t s (w3 (.ref h) "extend" n3) (λE=>⟨[(h,jU z i),(i,lE)],0,E,FJ,[],[]⟩) (λw=>(.ref 1924,[.ref h])) (λG=>(G.gs,G.objs,G.m)) (λw=>([],[(h,jU z i),(i,lE)],0)):=λb j E=>by cases b<;>cbv
theorem age(h z i t s x:Nat)(n3:Sem Bool):kZ 30 (ip x) t s (w3 (.ref h) "getbits" n3) (λE=>⟨[(h,jU z i),(i,lE)],0,E,FJ,[],[]⟩) (λw=>(.ref 1938,[.ref h])) (λG=>(G.gs,G.objs,G.m)) (λw=>([],[(h,jU z i),(i,lE)],0)):=λb j E=>by cases b<;>cbv
section
theorem FK(ab:∀(h z i t s x:Nat)(n3:Sem Bool),kZ 30 (ip x) t s (w3 (.ref h) nm n3) (λE=>⟨[(h,jU z i),(i,lE)],0,E,FJ,[],[]⟩) (λw=>(I,[.ref h])) (λG=>(G.gs,G.objs,G.m)) λw=>([],[(h,jU z i),(i,lE)],0))(av:q.depth+90<fF)(L:Sub (em j.params x) a.heap)(aP:a.heap.get? h=W (jU z i))(yh:a.heap.get? i=W lE)(gm:2011<=i)(ah:∀v,a9 [] [] a v->C (I,[.ref h]) v):Y ao j q (w3 (.ref h) nm n3) C a:=by
 have c9:h≠i:=λe=>by replace aP:=yh▸e▸aP;cases aP
 have nA:∀r∈[(h,jU z i),(i,lE)],r=(h,jU z i)\/r=(i,lE):=λr aZ=>(fR.mp aZ).imp id λe=>bm e;refine Y.of (uh (ab h z i a.heap.objs.size a.gens.size x n3) av (eV.start L (λr aZ=>by rcases nA r aZ with rfl|rfl<;>assumption) (by simp[c9]) λr aZ o db mx fO=>by
  rcases nA r aZ with rfl|rfl
  .have bG:=L h o db mx fO;replace bG:=aP▸bG;cases bG;exact TF h o _ mx fO U
  .exact cd (s6 (qT (T:=λw=>oc) mx fO).2.2) gm) λev v iq M=>?_);simp only[p2]at M;refine eQ M λm3 jw oY=>?_;refine cY (Lr iq m3 (λr aZ=>by
  replace aZ:=jw▸aZ;rcases nA r aZ with rfl|rfl
  .exact .inl aP
  .exact .inl yh)) λii G=>?_;exact ah v<|Keeps.QJ ii G
end
theorem d1.aeX(aO:dy j aE T x au)(cn:jT A)(aK:fI A f=W (.f<|.buf<|cz<|gu aG))(R:ht Q f=Z)(ab:aG.length<=2^20)(i0:(nB.endLine==aj.line)=Z:=by rfl):d1 (a3 j aE T x au) (z+1) q Q (hU 1944 1940) A (.Call (.Attribute (.Name f di) "toints" nB) [] [] aj) (λu b1=>∃dL aX s dp f',u=.raw (.ref dL)/\b1=(hU 1944 1940).both (wk j q.in1 dL s aX (dp::f') [dp] ((aG.length+7)/8) 0<|ob<|i7 aG)/\2011<=aX/\2011<=dp):=λn p N aF S a ax L M r ac C ah=>by
 refine tS (aB:=[]) U (by show 0<20;decide) U i0<|(ae.name (g:=a3 j aE T x au) (z:=z+1) aK R) q n p N aF S ax L M a _ r λa4 an aL hr=>WW hr λh bH tb bP a7 mS bl ui bp j6 gm=>V bP ?_;have fA:q.depth+90<recursionLimit:=by have:=ax.2;show q.depth+90<1000;exact c3 (.t (.a .x<|.n 90)<|.n 1000) [.l (.a .x<|.o .y)<|.n 900] U this
 have c_:=r.grow aL;refine FK agd fA (aO.sub c_.2) mS j6 gm λam a_=>?_;have dS:=c_.grow a_;have iN:(hU 1944 1940).At (a3 j aE T x au) n p N am:=ac.it (aL.trans a_) aW aW;refine xM (H:=λE=>bw (a3 j aE T x au) n p N S A E/\E.heap.get? h=W (jU bH tb)/\E.heap.get? bH=W (cQ<|cz<|gu aG)/\(hU 1944 1940).At (a3 j aE T x au) n p N E) (aU:=[]) (ak:=[]) (o:=EW ao j.params x) (bi:=ta j.params x) U (by show 0<20;decide) iY ⟨dS,a_.all _ _ mS,a_.all _ _ ui,iN⟩ (λE e=>aO.sub e.1.2 _ _ _ (TU ..) U) U (λE eR e s=>⟨e.1.grow s,s.all _ _ e.2.1,s.all _ _ e.2.2.1,e.2.2.2.it s aW aW⟩) ?_;rintro aR cg ce rfl;have ky:=dS.grow ce;have oh:(hU 1944 1940).At (a3 j aE T x au) n p N cg:=iN.it ce aW aW;refine cY oh.1 λLv cB=>c5 cB λcv bC=>afY (bc:=q.in1) aO ax M ky a7 (ce.all _ _<|a_.all _ _ mS) bp (ce.all _ _<|a_.all _ _ j6) gm bl (ce.all _ _<|a_.all _ _ ui) bC ax.1 (by have:=ax.2;show q.depth<=900;exact c3 (.l .x<|.n 900) [.l (.a .x<|.o .y)<|.n 900] U this) ab λdL aX s dp f' kT d7 cU bG cr eE hE sN Bm x_ vL ft rD lz kM BW n4=>?_;subst lz;have qX:=oh.2 1940 bz;have dP:∀b∈[aX,dp],cg.heap.objs.size<=b/\b<cU.heap.objs.size:=λb m=>by
  revert b;refine g4 ?_ ?_
  .exact⟨cr,sN⟩
  .intro b m;rw[bm m];exact⟨eE,Bm⟩
 have rZ:bw (a3 j aE T x au) n ([aX,dp]++p) N cU.heap.objs.size A cU:=ky.zB cn (λG ab=>by rw[bm ab];exact qX.1) (λG ab=>by rw[bm ab];exact qX.2.2.1) ft (ky.2.QH (.inl<|lD.mpr<|.inr U) ft bC rD) λb m=>(dP b m).1;have hf:aE.heap.objs.size<=cg.heap.objs.size:=ky.2.1.2;have lF:=M.up (c0:=cg.heap.objs.size) ky.1;have wn:∀b∈p,b<cg.heap.objs.size:=λb m=>lF.8 b m;have bS:∀b∈[aX,dp],b∈[aX,dp]++p/\b∉N/\b∉b4 n/\(b∈(a3 j aE T x au).tabs\/aE.heap.objs.size<=b)/\b<cU.heap.objs.size:=λb m=>⟨b3 m,λe=>cd (wn b (M.5 b e).1) (dP b m).1,λe=>cd (wn b (M.4 b e).1) (dP b m).1,.inr<|bb hf (dP b m).1,(dP b m).2⟩;have d':(hU 1944 1940).At (a3 j aE T x au) n ([aX,dp]++p) N cU:=by
  refine⟨⟨λe=>?_,_,rD⟩,λb m=>?_,aW⟩
  .exact bN e (λe=>cd bC.1.lt.1 (dP _ e).1) λe=>Lv e
  .exact V (bm m)<|⟨bO qX.1,qX.2.1,qX.2.2.1,qX.2.2.2.1,cw qX.2.2.2.2 ft.2⟩
 have nY:(wk j q.in1 dL s aX (dp::f') [dp] ((aG.length+7)/8) 0<|ob<|i7 aG).At (a3 j aE T x au) n ([aX,dp]++p) N cU:=by
  refine⟨⟨n4,kM,λb m=>?_,λb m=>bb (bb aO.2 hf) (dP b m).1⟩,bS,λk ac=>?_⟩
  .by_cases a5:b∈[aX,dp]
   .exact⟨.inl a5,(dP b a5).2⟩
   .rcases fR.mp m with rfl|m
    .exact⟨.inr λe=>bN e a5 λe=>cd (wn _ e) bG,hE⟩
    rcases fR.mp m with rfl|m
    .exact absurd bz a5
    rcases fR.mp m with rfl|m
    .exact absurd (mt bz) a5
    .exact cY (BW b m) λm3 jw=>⟨.inr λe=>bN e a5 λe=>m3.elim (λG=>cd (wn _ e) G) λG=>G e,jw⟩
  .exact V (bm ac)<|⟨bb ky.2.1.4 x_,vL⟩
 have pG:a9 [] [] a cg:=(aL.trans a_).trans ce;refine ah _ cU (.raw<|.ref dL) _ _ _ ⟨dL,aX,s,dp,f',U,U,bb (bb aO.2 hf) cr,bb (bb aO.2 hf) eE⟩ ⟨λb m=>bO m,λb m=>bN m (λe=>.inr<|bb pG.2 (dP b e).1) .inl,λw c=>.inl c,λb m=>bN m .inl λe=>.inr<|bb pG.2 (dP b e).1,λk ac=>.inr ?_,?_⟩ (lF.m6 dP hf ft.2) rZ (d'.both nY)<|U
 .have:k=s:=by
   refine bN ac (λe=>?_) λe=>?_
   .exact dt e
   .exact bm e
  rw[this];exact bb pG.4 x_
 .exact(pG.mono aW aW).trans<|ft.mono (λb m=>bO m) aW
section
variable{g:dw}{z:Nat}{Q:c4}{A:b0}{n:Env}{p N aF:List aq}{S:Nat}{q:bY}{a v:ag}{f B:Str}{u:bh}{aj:Pos}{ca:List ez}{ai:Inv}{cu:jq->b0->Inv->Prop}
theorem agf{e1 fi:Pos}{C:List al->ag->Prop}{aj:Pos}(ah:∀aC as v,a.heap.objs.size<=aC->aC<as->as<v.heap.objs.size->v.heap.get? aC=W (k0 #[] 0)->v.heap.get? as=W (k0 #[] 0)->a9 [] [] a v->C [.ref aC,.ref as] v):Y g.prog g.w q (ou<|jX aj<|je [.List [] e1,.List [] fi] n) C a:=by
 have T3:∀(r:Pos)(a:ag)(C:al->ag->Prop),C (.ref a.heap.objs.size) {a with heap:=a.heap.push<|k0 #[] 0}->Y g.prog g.w q (dD (.List [] r) n) C a:=by intro r a C c;exact dV<|eo<|Y.of<|jd c (by show 0<=cI;exact eJ _)
 refine Y.bind<|T3 e1 a _<|eo<|d6<|Y.bind<|T3 fi _ _<|eo<|d6<|Y.pure<|Y.pure<|Y.pure<|ah _ _ _ (dA _) (by show a.heap.objs.size<(a.heap.push<|k0 #[] 0).objs.size;refine V (fZ ..) ?_;exact lM _) (by show(a.heap.push<|k0 #[] 0).objs.size<((a.heap.push<|k0 #[] 0).push<|k0 #[] 0).objs.size;refine V (fZ (a.heap.push<|k0 #[] 0) ..) ?_;exact lM _) (eD _<|fc _ U) (fc _ U) ?_;exact(bJ.push a _ a.toks).trans<|bJ.push {a with heap:=a.heap.push<|k0 #[] 0} _ a.toks
theorem T4(de:2011<=aC)(co:aC∈p)(af:aC∉N)(ap:aC∉b4 n)(bk:g.s0.heap.objs.size<=aC)(cx:a.heap.get? aC=W (k0 #[] 0)):(m4 aC []).At g n p N a:=⟨⟨de,⟨#[],0,cx,by show bW _ _ [] [];exact U⟩,λO t i=>by
  have cr:O=#[]:=by have:=congrArg Obj.data<|d4<|cx.symm.trans i;simp only[k0,Pd]at this;exact this.1.symm
  exact cr.symm▸aW⟩,λb m=>bm m▸⟨co,af,ap,.inr bk,dB cx⟩,aW⟩
namespace ct
theorem aeZ{e1 fi hG ij rM fy:Pos}{iF jn:Nat}(gm:2011<=g.s0.heap.objs.size)(cn:jT A)(R:lu Q f=Z)(a8:lu Q B=Z)(rG:∀n:Env,n.scope=Q->GY [.Tuple [.Name f e1,.Name B fi] iF rM] (.Tuple [.List [] hG,.List [] ij] jn fy) aj.line n=dz a1)(FG:∀n:Env,n.scope=Q->GZ [.Tuple [.Name f e1,.Name B fi] iF rM] (.Tuple [.List [] hG,.List [] ij] jn fy) n=dz (W [f,B]))(c:∀aC as,aC≠as->aC∉ai.W->as∉ai.W->ct g z q Q (ai.both<|(m4 aC []).both<|m4 as []) ((f,.f<|.raw<|.ref aC)::(B,.f<|.raw<|.ref as)::A) ca cu):ct g z q Q ai A (.Assign [.Tuple [.Name f e1,.Name B fi] iF rM] (.Tuple [.List [] hG,.List [] ij] jn fy) aj::ca) cu:=next λn p N aF S a ax L M r ac=>by
 refine Y.eq (PyProof.Rows.exec_Assign ..)<|dV<|Y.eq (V (rG n L) U)<|eo ?_;refine gK bd<|Y.bind<|Y.eq (arm_eval_Tuple ..)<|dV<|Y.bind<|agf λaC as an de BX g7 af ap aL=>?_;refine Y.of<|jd (Y.bind<|Y.eq (FG n L ..) ?_) (by show 2<=cI;decide);refine eo<|Y.pure<|du<|l9 ?_;have cK:Heap.IsTuple (an.heap.push {cls:=.type "tuple",data:=.seq [fl aC,fl as].toArray}) an.heap.objs.size #[.ref aC,.ref as]:=⟨_,fc _ U,U,0,U⟩;have Lw:a9 [] [] an {an with heap:=an.heap.push {cls:=.type "tuple",data:=.seq [fl aC,fl as].toArray}}:=bJ.push an _ an.toks;generalize hy:({an with heap:=an.heap.push {cls:=.type "tuple",data:=.seq [fl aC,fl as].toArray}}:ag)=am at Lw;refine Y.bind<|j7<|Y.of<|Nn (items:=#[.ref aC,.ref as]) ax.1 (hy▸cK) λaa bp G=>?_;have ce:a9 [] [] am {am with heap:=aa}:=bJ.heap (x:=am.toks) (λb o w i=>bp b o (gD<|dB i) i) G.1;generalize({am with heap:=aa}:ag)=cg at ce;have pG:a9 [] [] a cg:=(aL.trans Lw).trans ce;have ub:a9 [] [] an cg:=Lw.trans ce;have hf:g.s0.heap.objs.size<=a.heap.objs.size:=r.2.1.2;have eL:=M.up (c0:=a.heap.objs.size) r.1;have dP:∀b∈[aC,as],a.heap.objs.size<=b/\b<cg.heap.objs.size:=λb m=>by
  revert b;refine g4 ?_ ?_
  .exact⟨de,cw (zR BX g7) ub.2⟩
  .intro b m;rw[bm m];exact⟨nP<|mG de BX,cw g7 ub.2⟩
 have lF:cM g n ([aC,as]++p) N aF cg.heap.objs.size:=eL.m6 dP hf pG.2;have wn:∀b∈p,b<a.heap.objs.size:=λb m=>eL.8 b m;have yP:∀b∈[aC,as],b∉N/\b∉b4 n/\b∉ai.W:=λb m=>⟨λe=>cd (wn b (M.5 b e).1) (dP b m).1,λe=>cd (wn b (M.4 b e).1) (dP b m).1,λe=>cd (ac.2 b e).2.2.2.2 (dP b m).1⟩;have agg:(m4 as []).At g n ([aC,as]++p) N cg:=T4 (bb (bb gm hf) (dP as (by exact mt bz)).1) (mt bz) (yP as (by exact mt bz)).1 (yP as<|mt bz).2.1 (bb hf (dP as<|mt bz).1)<|ub.all _ _ ap;have agh:=((ac.wide (λb m=>bO m) λb m=>bN m (λe=>.inr (dP b e).1) .inl).it pG aW aW).both<|(T4 (bb (bb gm hf) de) (by exact bz) (yP aC<|bz).1 (yP aC<|bz).2.1 (bb hf de)<|ub.all _ _ af).both agg;show Y _ _ q (zz [pa n B,pa n f] [.ref as,.ref aC]>>=λw=>dz Flow.next) _ cg;refine Y.bind<|d6<|sF (b:=a1) lF (r.zB cn (cb:=[]) aW aW pG (r.2.to pG aW) λb m=>(dP b m).1) (u:=.raw<|.ref as) U (L▸a8) λcU ft rZ=>d6 ?_;refine sF (b:=a1) lF rZ (u:=.raw<|.ref aC) U (L▸R) λuk oi BY=>?_;have rA:zz [] []=dz ():=U;refine Y.pure<|Y.pure ⟨U,_,_,[aC,as]++p,N,_,(⟨λb m=>bO m,λb m=>bN m (λe=>.inr (dP b e).1) .inl,λw c=>.inl c,λb m=>?_,λk ac=>.inl ?_,?_⟩),lF,BY,(agh.off lF ft λb m=>.inr m).off lF oi λb m=>.inr m,c aC as (gD BX) (yP aC (by exact bz)).2.2 (yP as<|mt bz).2.2⟩
 .exact bN m (λe=>.inl e) λe=>.inr (dP b e).1
 .refine bN ac (λe=>?_) λe=>?_
  .exact e
  .exact dt e
 .exact((pG.mono aW aW).trans<|ft.mono (λb m=>b3<|bO m) aW).trans<|oi.mono (λb m=>b3<|bO m) aW
end ct
end
theorem AllP.map{bf cE pH:Type}{H:cE->pH->Prop}{D:List bf}{I:bf->cE}{s:bf->pH}(c:∀h∈D,H (I h)<|s h):AllP H (D.map I) (D.map s):=by refine⟨by simp,λk f B R a8=>?_⟩;rw[fk]at R a8;cases i:D[k]? with|none=>replace R:=i▸R;exact dI R|some h=>rw[i]at R a8;cases R;cases a8;exact c h<|ox i
theorem AllP.gv{pH:Type}{H:bh->pH->Prop}{h z:Int}{t:Nat}{s:Nat->pH}(c:∀k,k<t->H (.int<|h+k*z) (s k)):AllP H ((h3 h z t).map .int) ((c2 t).map s):=by have:(Mine.h3 h z t).map bh.int=(c2 t).map λ(k:Nat)=>bh.int (h+k*z):=jY ..;exact V this<|AllP.map λk ac=>c k<|la.mp ac
theorem Lx(df:List Int)(I:Int->List Int):(df.map λj=>(I j).map bh.int).flatten=(df.flatMap I).map bh.int:=by induction df with|nil=>rfl|cons j df a2=>exact V iz<|V jA<|V a2<|V nR<|V mc U
theorem r0(D:List bf)(I:bf->bh):(D.map λh=>[I h]).flatten=D.map I:=by induction D with|nil=>rfl|cons j df a2=>refine V iz<|V jA<|V a2 ?_;rfl
noncomputable def m5(t:Nat):List bh:=(c2 t).map λ(k:Nat)=>bh.int k
theorem agi(t:Nat):(h3 0 1 t).map bh.int=m5 t:=by simp[h3,m5]
theorem ar.range(t:p9 g){f:Str}{aA:Nat}{e:Pos}{i1:Bool}(c:dd g z Q A i aA)(ab:aA<2^62)(R:eA Q "range"=Z:=by cbv)(ay:d0 i=Z:=by rfl):fp g z Q A i1 (.Name f di) (.Call (.Name "range" e) [i] [] aj) (m5 aA):=by exact b' (agi ..)<|ar.v' t c ab R ay
theorem xS.one{b8 ic dk:bB}{a6:c4}{bf:Type}{D:List bf}{nH oZ:bf->bh}(a':fp g z Q A a1 b8 ic<|D.map nH)(c:∀h∈D,mV Z (eO a6 Q) b8 (nH h)/\ae g z (eO a6 Q) (lv b8 (nH h)<|hQ (eO a6 Q) A) dk .b2 (oZ h))(ab:D.length<=cI)(jl:oR a6 Q=Z:=by cbv)(fr:py b8 (hQ (eO a6 Q) A)=Z:=by cbv)(bg:sH ic:=by exact λw w=>U):xS g z Q A dk ⟨b8,ic,[],0⟩ [] a6 aj (D.map nH) (D.map λh=>[oZ h]):=⟨⟨jl,U,eJ _,λbX e=>(dI e),bg,AllP.map λh a7=>⟨(c h a7).1,A8 fr,jo.one U U (c h a7).2⟩,by refine V (r0 ..)<|V (d3 ..) ?_;exact ab⟩,a'⟩
theorem ar.comp{b8 ic dk:bB}{a6:c4}{bf:Type}{D:List bf}{nH oZ:bf->bh}(t:p9 g)(a':fp g z Q A a1 b8 ic<|D.map nH)(c:∀h∈D,mV Z (eO a6 Q) b8 (nH h)/\ae g z (eO a6 Q) (lv b8 (nH h)<|hQ (eO a6 Q) A) dk .b2 (oZ h))(ab:D.length<=cI)(jl:oR a6 Q=Z:=by cbv)(fr:py b8 (hQ (eO a6 Q) A)=Z:=by cbv)(bg:sH ic:=by exact λw w=>U):ae g z Q A (.ListComp dk [⟨b8,ic,[],0⟩] a6 aj) .fr (.lst<|D.map oZ):=by have:=ae.comp (aj:=aj) t.ok<|xS.one (aj:=aj) a' c ab jl fr bg;rwa[r0]at this
theorem ar.uY{b8 ic dk:bB}{a6:c4}{bf:Type}{D:List bf}{nH:bf->bh}{oZ:bf->Int}(t:p9 g)(a':fp g z Q A a1 b8 ic<|D.map nH)(c:∀h∈D,mV Z (eO a6 Q) b8 (nH h)/\dd g z (eO a6 Q) (lv b8 (nH h)<|hQ (eO a6 Q) A) dk (oZ h))(ab:D.length<=cI)(jl:oR a6 Q=Z:=by cbv)(fr:py b8 (hQ (eO a6 Q) A)=Z:=by cbv)(bg:sH ic:=by exact λw w=>U):ae g z Q A (.ListComp dk [⟨b8,ic,[],0⟩] a6 aj) .fr (cS<|D.map oZ):=by have:=ar.comp (aj:=aj) (oZ:=λh=>bh.int<|oZ h) t a' c ab jl fr bg;exact V (cS.eq_1 ..)<|V jY this
theorem bq.lock(aK:fI A f=W (.o u))(c:bq g z Q aY ((f,.b u)::A) ca cu):bq g z Q aY A ca cu:=λq n p N aF S a ax L M r=>by
 refine gJ λw bI=>jf r.3 λcV ar af ap bk=>br (af _ _<|oO aK) λa4 h1 bP=>br bP λfg i av=>fx (ap _ _<|oO aK) λh a7 sD bl=>?_;subst i;obtain rfl:fg=h:=by replace sD:=h1▸sD;cases sD;rfl
 refine bI ?_;have lQ:∀b∈N.filter λb=>!(b==fg),b∈N:=λb m=>(zZ.mp m).1;have ew:cM g n p (N.filter λb=>!(b==fg)) aF S:=⟨M.1,M.2,M.3,λb m=>⟨(M.4 b m).1,(M.4 b m).2.1,λe=>(M.4 b m).2.2.1<|lQ b e,(M.4 b m).2.2.2⟩,λb m=>M.5 b<|lQ b m,M.6,M.7,M.8,M.9,M.10⟩;have bn:bw g n p (N.filter λb=>!(b==fg)) S ((f,.b u)::A) a:=by
  refine⟨r.1,r.2,cV,ar,λB bx a8=>?_,λB aN a8=>?_,λB aN a8=>?_⟩
  .rcases i2 a8 with⟨rfl,rfl⟩|⟨_,a8⟩
   .exact⟨_,h1,fg,U,av⟩
   .exact af B bx a8
  .rcases i2 a8 with⟨_,e⟩|⟨c9,a8⟩
   .exact nomatch e
   .refine fx (ap B aN a8) λb m i iE=>⟨b,zZ.mpr ⟨m,?_⟩,i,λG E ab bC=>?_⟩
    .have:b≠fg:=λe=>bl B aN c9 a8<|e▸i;simpa using this
    .rcases i2 bC with⟨_,e⟩|⟨_,bC⟩
     .exact nomatch e
     .exact iE G E ab bC
  .rcases i2 a8 with⟨rfl,_⟩|⟨_,a8⟩
   .refine⟨fg,h1,λe=>?_,λe=>(M.4 _ e).2.2.1 a7⟩;have:=(zZ.mp e).2;simp at this
   .exact fx (bk B aN a8) λb i dm eY=>⟨b,i,λe=>dm<|lQ b e,eY⟩
 refine Y.mono (c q n p _ aF S a ax L ew bn) λI v e=>e.hO λcO bU bu cW c0 dT d8 dO eM=>⟨cO,bU,bu,cW,c0,dT,d8,⟨dO.1,dO.2,λb m=>(dO.3 b m).imp (lQ b) id,dO.4.mono (λb m=>bN m (λm=>?_) λm=>?_) λw c=>c⟩,eM⟩
 .exact bN m (λm=>b3<|b3<|lQ b m) λm=>b3<|bO m
 .exact bO m
def yQ(g:dw)(f:Str)(eb:List Str)(FL:c4)(ep:List ez):Prop:=∃h bi,g.gl f=W (.ref h)/\vv g h bi ep/\bi.scope=FL/\∀a aR,aR.length=eb.length->iO a bi ⟨aR,[]⟩ (eb.zip aR)
theorem ar.call(az:g.Ok)(bg:yQ g f eb FL ep)(a7:gG g (z+1) Q A aB ec)(iG:bq g z FL [] (js eb ec []) ep λcO w=>cO=.ret mP)(aI:ec.length=eb.length:=by rfl)(R:eA Q f=Z:=by cbv)(aP:eb.all (lu FL)=Z:=by cbv)(vx:aB.length<20:=by decide):ae g (z+1) Q A (.Call (.Name f di) aB [] aj) .b2 mP:=by refine DL bg λh bi aK L cB m=>?_;obtain rfl:=cB;exact ae.call az aK R L a7 aI m aP iG vx
section
section
variable{g:dw}{z:Nat}{Q:c4}{A:b0}{n:Env}{p N aF:List aq}{S:Nat}{q:bY}{a v:ag}{f:Str}{u:bh}{a4:al}{i:bB}{aj di:Pos}{l:ha}{ai b1:Inv}{kh:bh->Inv->Prop}{I:al}{mP:bh->bh}
theorem d1.ae3(az:g.Ok)(aK:g.gl f=W I)(R:eA Q f=Z)(bg:Ay I=Z)(ay:d0 i=Z)(bp:d1 g z q Q ai A i kh)(qk:∀(n:Env)(p N aF:List aq)(S:Nat)(a:ag)u dX a4,kh u dX->cM g n p N aF S->bw g n p N S A a->dX.At g n p N a->cf a.heap p u a4->∀C:al->ag->Prop,(∀oe am hR,yR hR dX->a9 [] [] a am->cf am.heap p hR oe->C oe am)->Y g.prog g.w q (er I [a4] []) C a):d1 g z q Q ai A (.Call (.Name f di) [i] [] aj) yR:=λn p N aF S a ax L M r ac C ah=>by
 have h2:eA n.scope f=Z:=L▸R
 .refine Y.bind<|rz (aU:=[]) (ak:=[]) (hB (A:=A) az M aK h2) (vi h2) a _ r λa4 an aL ms=>V ms<|xH (jJ:=[]) (H:=λE=>E=an) (aU:=N++b4 n++ai.W) (ak:=ai.G) (ar:=λE aR=>∃a4 u dX dn e6,aR=[a4]/\kh u dX/\gP ai n p N dn N dX an E/\cM g n dn N aF e6/\bw g n dn N e6 A E/\dX.At g n dn N E/\cf E.heap dn u a4) bg (by simp[ay]) ?_ U ?_
  .rintro E C aj rfl qO;exact V (kr ay)<|(Y.bind<|bp n p N aF S E ax L M (r.grow aL) (ac.it aL aW aW) _ λa4 am u dX dn e6 af ap bk cx ef fL=>eo<|d6<|Y.pure<|Y.pure<|qO _ _ ap.6<|Pv a4 u dX dn e6 U af ap bk cx ef fL)
  .rintro aR am _ ek;exact DN ek λa4 u dX dn e6 e_ af ap bk cx ef fL=>V e_<|qk n dn N aF e6 am u dX a4 af bk cx ef fL _ λoe cg hR iX ce y=>ah oe cg hR dX dn e6 iX (((gP.rO aL).trans ap).trans<|gP.rO ce) bk (cx.grow ce) (ef.it ce aW aW) y
theorem d1.ae4{kh:List Int->Inv->Prop}(aC:aq)(az:g.Ok)(aK:g.gl "bytearray"=W (.type "bytearray"))(de:∀aw b1 n p N a,kh aw b1->b1.At g n p N a->aC∈p)(bp:d1 g z q Q ai A i λu b1=>∃aw,u=cS aw/\kh aw b1/\gs aw/\aw.length<=cI)(R:eA Q "bytearray"=Z:=by cbv)(ay:d0 i=Z:=by rfl):d1 g z q Q ai A (.Call (.Name "bytearray" di) [i] [] aj) (λhR b1=>∃aw b,hR=.gQ [(b,cQ<|cz aw)] (.ref b)/\aC<=b/\kh aw b1):=by
 refine d1.ae3 az aK R U ay bp ?_;rintro n p N aF S a u dX a4 gX M r ac y C ah;refine jf gX λaw gF af m ab=>?_;obtain rfl:=gF;refine jD (cf.kg y) λh O t hq iX av=>V hq<|cY (ae.zD m av) λdm eY=>?_;have cL:O.toList.length=aw.length:=by have:=av.length;simpa using this
 refine Qb (O:=O.toList) ⟨_,iX,U,t,U⟩ dm (cL▸ab) λaa aA=>?_;replace aA:=eY▸aA;exact ah _ _ (.gQ [(a.heap.objs.size,cQ<|cz aw)]<|.ref a.heap.objs.size) ⟨aw,_,U,nP<|cw (M.8 _<|de _ _ _ _ _ _ af ac) r.1,af⟩ aA.grow<|⟨U,λe a5=>V (bm a5)<|⟨λe=>h' _<|cw (M.8 _ e) r.1,aA.1⟩⟩
end
variable{j:b7}{aE:ag}{T:Nat->Obj}{x:Nat}{au:fQ}{z:Nat}{Q:c4}{A:b0}{q:bY}{aY ch:Inv}{dL aX dp s aA aD t:Nat}{f':List aq}{I:Nat->Int}{f:Str}{i:bB}{a6:c4}{dm eY lU vD sQ yE s9 s_ s' aj:Pos}{ii:Nat}
theorem d1.words(aO:dy j aE T x au)(cn:jT A)(aK:fI A f=W (.f<|.raw<|.ref dL))(R:ht Q f=Z)(bp:dd (a3 j aE T x au) z Q A i t)(bt:aD+t<=aA)(ab:t<=2^20)(T5:∀b∈[aX,dp],b∉aY.W/\b∉ch.W)(T6:s∉aY.G/\s∉ch.G)(Kw:eA Q "range"=Z)(Kx:eA Q "zip"=Z)(ay:d0 i=Z)(kS:oR a6 Q=Z)(bS:(a6.names.lookup ("word":Str)==W .local&&a6.names.lookup ("k":Str)==W .local)=Z)(f4:([("k":Str),("word":Str)].all<|oP Z<|eO a6 Q)=Z)(yS:ht (eO a6 Q) "word"=Z)(mU:hQ (eO a6 Q) A=[]):d1 (a3 j aE T x au) z q Q ((aY.both<|wk j q.in1 dL s aX (dp::f') [dp] aA aD<|ob I).both ch) A (.ListComp (.Name "word" dm) [⟨.Tuple [.Name "k" eY,.Name "word" lU] ii vD,.Call (.Name "zip" sQ) [.Call (.Name "range" yE) [i] [] s9,.Name f s_] [] aj,[],0⟩] a6 s') (λu b1=>u=cS ((c2 t).map λk=>I<|aD+k)/\b1=(aY.both<|wk j q.in1 dL s aX (dp::f') [dp] aA (aD+t)<|ob I).both ch):=λn p N aF S a ax L M r ac C ah=>by
 subst L;have lr:=ac.fst.snd;have BZ:=ac.fst.fst.both ac.snd;refine lg lr.1 λn4 kM kx mT=>?_;have az:=io aO;have iH:=r.now;have eL:=M.up (c0:=a.heap.objs.size) r.1;have Ly:∀b∈[aX,dp],b∈p/\aE.heap.objs.size<=b/\b∉b4 n:=λb m=>by refine kK (lr.2 b m) λdT d8 dO eM gg=>⟨dT,eM.elim (λe=>?_) id,dO⟩;have:=mT b m;rcases lD.mp e with rfl|rfl<;>exact absurd this bd
 have Lz:∀b∈(aY.both ch).W,b∈p:=λb m=>(BZ.2 b m).1;refine So (g:=a3 j aE T x au) (z:=z) (ai:=aY.both ch) (j':=[aX,dp]) (kQ:=[s]) (kX:=λE=>jt ao j q.in1 dL s aX (dp::f') [dp] aA (ob I) (aD+t) E) (bA:=(c2 t).map λ(k:Nat)=>.tup [.int k,.int<|I<|aD+k]) (ds:=(c2 t).map λk=>[.int<|I<|aD+k]) az ⟨kS,U,eJ _,λbX e=>(dI e),λw w=>U,?_,by refine V (r0 ..)<|V (d3 ..)<|V oz ?_;exact bb ab bd⟩ cn ?_ Ly (λk gp=>?_) ax M r BZ ?_
 .refine AllP.map λk gp=>⟨⟨["k","word"],U,U,f4⟩,?_,pD.of<|jo.one U U<|ae.name (u:=.int<|I<|aD+k) ?_ yS⟩
  .exact V mU λB bx e=>nomatch e
  .refine V mU ?_;rfl
 .refine acd (g:=a3 j aE T x au) (z:=z) (S:=a.heap.objs.size) (aF:=aF) (A:=A) (H:=λE=>bw (a3 j aE T x au) n p N a.heap.objs.size A E/\a.gens.size<=E.gens.size/\a9 [] [] a E) az ax eL (λE e=>⟨e.1,n4.frame kM e.2.2 (λw e=>dt e) λe=>(dt e),cw (lr.3 s bz).2 e.2.1,λb m=>cw (kx b m).2 e.2.2.2⟩) (λE eR e bX=>⟨e.1.grow bX,bb e.2.1 bX.4,e.2.2.trans bX⟩) (cm.weak (eT bp ax U eL) λE e=>e.1) (λE C e ah=>(ae.raw (g:=a3 j aE T x au) (z:=z) aK R) q n p N aF a.heap.objs.size ax U eL E C e.1 λa4 eR bX y=>ah a4 eR bX ?_) yA TI Kw Kx ay (cy (.t .x<|.n 4611686018427387904) [.l .x<|.n 1048576] U ab) bt kM (λb m e=>?_) λb m=>eL.8 b<|Lz b m
  .have fV:cf eR.heap p (.raw<|.ref dL) a4:=y;exact fV
  .exact g_ ((kx b m).1) (λG=>bN e (T5 b G).1 (T5 b G).2) λG=>G<|Lz b e
 .exact V (bm gp)<|⟨(lr.3 s bz).1,λe=>bN e T6.1 T6.2⟩
 .intro ul B0 v lA gO pA v3 sI Ee jp agj T7 dR;refine c5 lA λpo lA=>⟨po,lA,λaa ea=>?_⟩;have eB:a9 [ul] [] v {v with heap:=aa}:=bJ.same (x:=v.toks) ea;have lC:a9 ([aX,dp]++(aY.both ch).W) ([s]++(aY.both ch).G) a {v with heap:=aa}:=gO.hj eB (λb m=>.inr<|bm m▸gz pA) λw e=>dt e;have tX:∀b∈[aX,dp]++(aY.both ch).W,b∈p/\b∉b4 n:=λb m=>bN m (λe=>⟨(Ly b e).1,(Ly b e).2.2⟩) λe=>⟨(BZ.2 b e).1,(BZ.2 b e).2.2.1⟩;have LA:fh (a3 j aE T x au) {v with heap:=aa}:=dR.to eB λG ab=>bm ab▸bb r.2.1.2 pA;have LB:ul∉p:=λe=>cd (eL.8 _ e) pA;have T8:(aY.both ch).At (a3 j aE T x au) n p N {v with heap:=aa}:=by have dm:=agj (ul::p) (λb m=>mt m) λb m=>dH m (λe=>e▸bz) λe=>mt<|mt e;have eY:=dm.it eB (λb m=>(bm m).symm▸⟨bz,λG=>LB<|Lz _ G⟩) λw e=>dt e;exact eY.narrow BZ (λb m=>mt m) lC.2
  have agk:∀b∈dL::aX::dp::f',b≠ul:=λb m e=>cd (kx b m).2<|e▸pA;have agl:(wk j q.in1 dL s aX (dp::f') [dp] aA (aD+t)<|ob I).At (a3 j aE T x au) n p N {v with heap:=aa}:=⟨⟨T7.frame kM eB (λb m e=>agk b e<|bm m) λe=>dt e,kM,λb m=>⟨(kx b m).1,cw (kx b m).2 lC.2⟩,mT⟩,λb m=>kK (lr.2 b m) λdT d8 dO eM gg=>⟨dT,d8,dO,eM,cw gg lC.2⟩,λk gp=>⟨(lr.3 k gp).1,cw (lr.3 k gp).2 lC.4⟩⟩;refine ah (.ref B0) _ (cS<|(c2 t).map λk=>I<|aD+k) ((aY.both<|wk j q.in1 dL s aX (dp::f') [dp] aA (aD+t)<|ob I).both ch) p S ⟨U,U⟩ ⟨λw c=>c,λw c=>.inl c,λw c=>.inl c,λw c=>.inl c,λw c=>.inl c,lC.mono (λb m=>bO ?_) λk gp=>?_⟩ M (r.wQ cn (λG ab=>(tX G ab).1) (λG ab=>(tX G ab).2) lC LA) ((T8.fst.both agl).both T8.snd) ?_
  .exact bN m (λe=>b3<|bO e) λe=>bN e (λe=>b3<|b3 e) λe=>bO e
  .exact g_ (mb.mp gp) (λe=>b3<|bO e) λe=>bN e (λe=>b3<|b3 e) λe=>bO e
  .have vo:B0∉p:=λe=>cd (eL.8 _ e) v3;have:=((jp.obj (iA<|iA sI) ea).sub (aU:=p) λB a8=>mt a8).rep vo;rw[r0]at this;show cf aa p (.lst<|((c2 t).map λk=>I<|aD+k).map bh.int) _;exact V jY this
end
theorem agm:∀(h b:Nat),(h|||b)=(h^^^b)+(h&&&b):=by intro h;induction h using He with|ind h a2=>
  intro b;by_cases c:h=0
  .subst c;simp
  have k:=a2 (h/2) (gd [2,1,1] (.t .x .y) [.t (.n 0) .y,.l (.m 2 .x) .y] U (NK c)<|qd _ 2)<|b/2;have Ec:(h|||b)/2=h/2|||b/2:=Nat.or_div_two;have P:(h^^^b)/2=h/2^^^b/2:=Nat.xor_div_two;have d8:(h&&&b)/2=h/2&&&b/2:=Nat.and_div_two;have u1:(h|||b)%2=h%2|||b%2:=Nat.or_mod_two_pow (n:=1);have agn:(h^^^b)%2=h%2^^^b%2:=Nat.xor_mod_two_pow (n:=1);have ago:(h&&&b)%2=h%2&&&b%2:=Nat.and_mod_two_pow (n:=1);have cF:(h%2|||b%2)=(h%2^^^b%2)+(h%2&&&b%2):=by have af:=zS h;have ap:=zS b;rcases af with i|i<;>rcases ap with ck|ck<;>refine V i (V ck ?_)<;>rfl
  refine b' (uJ (h|||b) 2)<|b' (uJ (h^^^b) 2)<|b' (uJ (h&&&b) 2) ?_;refine V Ec<|V P<|V d8<|V u1<|V agn<|V ago<|V k<|V cF<|V (Nat.mul_add ..) ?_;exact Nat.add_add_add_comm ..
theorem LC(h:Nat):uS (h:Int)=-(h:Int)-1:=by unfold uS;rfl
theorem B1(h b:Nat):kn (h:Int) (b:Int)=((h^^^b:Nat):Int):=by
 have agp:tB (h:Int) (b:Int)=((h&&&b:Nat):Int):=by
  unfold tB;have af:decide (0<=(h:Int))=Z:=by rfl
  have ap:decide (0<=(b:Int))=Z:=by assumption
  refine V af<|V ap ?_;rfl
 have agq:Oz (h:Int) (b:Int)=((h|||b:Nat):Int):=by
  unfold Oz tB;refine V (LC ..)<|V (LC ..) ?_;have af:decide (0<=-(h:Int)-1)=a1:=by simp;exact cy (.b_ (.g<|.c .x)<|.n 1) [] U
  have ap:decide (0<=-(b:Int)-1)=a1:=by simp;lia
  refine af.symm▸ap.symm▸?_
  dsimp only;have bG:uS (-(h:Int)-1)=h:=by unfold uS;exact cy (.eG (.s (.g<|.s (.g<|.c .x)<|.n 1)<|.n 1)<|.c .x) [] U
  have cr:uS (-(b:Int)-1)=b:=by unfold uS;exact cy (.eG (.s (.g<|.s (.g<|.c .x)<|.n 1)<|.n 1)<|.c .x) [] U
  refine V bG<|V cr<|V (LC ..) ?_;simp only[mD];unfold uS;exact cy (.eG (.s (.g<|.s (.g<|.c .x)<|.n 1)<|.n 1)<|.c .x) [] U
 unfold kn;exact V agp<|V agq<|V (agm h b)<|c3 (.eG (.s (.c<|.a .x .y)<|.c .y)<|.c .x) [] U
theorem T9(a7:0<=h/\h<2^t)(m:0<=b/\b<2^t):0<=kn h b/\kn h b<2^t:=by refine c5 (zM a7.1) λf bP=>?_;obtain rfl:=bP;refine c5 (zM m.1) λB cB=>?_;obtain rfl:=cB;refine V (B1 ..) ?_;have:=Hk (x:=f) (y:=B) (n:=t) (by exact_mod_cast a7.2) (by exact_mod_cast m.2);exact⟨by exact iP _,by exact_mod_cast this⟩
section
noncomputable def nI(s:List Int)(l:Nat)(h8:Int):Nat->List Int->List Int|0,c1=>c1|t+1,c1=>(nI s l h8 t c1).set (l+t+1)<|kn ((nI s l h8 t c1).getD (l+t+1) 0)<|m1.getD (h8+s.getD t 0).toNat 0
theorem agr{s:List Int}{l:Nat}{h8:Int}{t:Nat}{c1:List Int}:nI s l h8 (t+1) c1=(nI s l h8 t c1).set (l+t+1) (kn ((nI s l h8 t c1).getD (l+t+1) 0)<|m1.getD (h8+s.getD t 0).toNat 0):=rfl
noncomputable def tc(s:List Int)(c1:List Int)(l:Nat):List Int:=if c1.getD l 0=0 then c1 else nI s l (lB.getD (c1.getD l 0).toNat 0) s.length c1
noncomputable def o0(s aw:List Int)(l:Nat):List Int:=(c2 l).foldl (tc s)<|aw++dq s.length 0
noncomputable def ks(s aw:List Int):List Int:=(o0 s aw aw.length).drop aw.length
def B2(s:List Int):Prop:=∀f∈s,0<=f/\f<255
theorem LD:(lB.all λf=>decide (0<=f)&&decide (f<255))=Z/\lB.length=256:=iS
theorem LF:(m1.all λf=>decide (0<=f)&&decide (f<256))=Z/\m1.length=510:=by decide+kernel
theorem FM{D:List Int}{b:Int}(m:0<b)(c:(D.all λf=>decide (0<=f)&&decide (f<b))=Z)(k:Nat):0<=D.getD k 0/\D.getD k 0<b:=by refine(fK).symm▸?_;cases i:D[k]? with|none=>exact⟨G9 _,m⟩|some f=>have:=hn.mp c f<|ox i;simpa using this
theorem ags(k:Nat):0<=lB.getD k 0/\lB.getD k 0<255:=FM bd LD.1 k
theorem T_(k:Nat):0<=m1.getD k 0/\m1.getD k 0<256:=FM bd LF.1 k
theorem agt{s:List Int}(c:B2 s)(k:Nat):0<=s.getD k 0/\s.getD k 0<255:=by refine FM bd (hn.mpr λf R=>?_) k;have:=c f R;simpa using this
theorem LG{D:List Int}(c:gs D)(k:Nat):0<=D.getD k 0/\D.getD k 0<256:=by refine FM bd (hn.mpr λf R=>?_) k;have:=c f R;simpa using this
theorem agu(c:gs D)(R:0<=f/\f<256)(k:Nat):gs (D.set k f):=λj bS=>by
 refine g_ (N7 bS) (λe=>?_) λe=>?_
 .exact c j e
 .exact V e R
theorem LH:∀(t:Nat){c1:List Int},gs c1->gs (nI s l h8 t c1)/\(nI s l h8 t c1).length=c1.length|0,c1,c=>⟨c,U⟩|t+1,c1,c=>by exact cY (LH (s:=s) (l:=l) (h8:=h8) t c) λaf ap=>⟨agu af (T9 (t:=8) (LG af _)<|T_ _) _,by exact V N8<|V ap U⟩
theorem agv(c:gs c1):gs (tc s c1 l)/\(tc s c1 l).length=c1.length:=by
 unfold tc;split
 .exact⟨c,U⟩
 .exact LH _ c
theorem LI(s aw:List Int)(l:Nat):o0 s aw (l+1)=tc s (o0 s aw l) l:=by unfold o0;refine V HC<|V z8 ?_;rfl
theorem LJ(c:gs aw):∀l,gs (o0 s aw l)/\(o0 s aw l).length=aw.length+s.length
 |0=>by
  unfold o0;refine⟨λj bS=>bN bS (λe=>?_) λe=>?_,by simp⟩
  .exact c j e
  .refine V (z9 e) ?_;decide|l+1=>by exact cY (LJ c (s:=s) l) λaf ap=>V (LI ..)<|cY (agv (s:=s) (l:=l) af) λbk cx=>⟨bk,cx.trans ap⟩
section
variable{g:dw}{z:Nat}{Q:c4}{A:b0}{q:bY}{i:bB}{aj e:Pos}{t:Nat}{ai:Inv}
noncomputable def B3(t:Nat)(E aN u:Tok):Obj:={cls:=.type "range",data:=.fields #[.int 0 E,.int t aN,.int 1 u]}
theorem d1.range(cA:p9 g)(c:dd g z Q A i t)(R:eA Q "range"=Z:=by cbv)(ay:d0 i=Z:=by rfl):d1 g z q Q ai A (.Call (.Name "range" e) [i] [] aj) (λu b1=>b1=ai/\∃y E aN j,u=.gQ [(y,B3 t E aN j)] (.ref y)):=λn p N aF S a ax L M r ac C ah=>by
 subst L;have Kb:cm g.prog g.w q [] [] n (bw g n p N S A) (.Call (.Name "range" e) [i] [] aj) (λa a4=>∃y E aN j,a4=.ref y/\y∉p/\a.heap.get? y=W (B3 t E aN j)):=by refine kO M.ok (hB cA.ok M cA.range R) U (hN ay M.ok (eT c ax U M) (ie _) iY) ?_ (by simp[ay]);rintro a aR r cB C ah;refine ei cB λw w dv ek e_=>?_;obtain rfl:=dv;obtain⟨E,rfl⟩:=ek;obtain rfl:=e_;exact Y.of<|CV<|ah _ _ (bJ.new _ _ a _ _) ⟨_,_,_,_,U,λe=>h' _<|cw (M.8 _ e) r.1,fc _ U⟩
 refine Kb a _ r λa4 an s e=>H_ e λy E aN j bG av aP=>?_;subst bG;exact ah _ an (.gQ [(y,B3 t E aN j)]<|.ref y) ai p S ⟨U,y,E,aN,j,U⟩ (gP.rO s) M (r.grow s) (ac.it s aW aW)<|⟨U,λr aZ=>bm aZ▸⟨av,aP⟩⟩
theorem fp.afh(aK:fI A f=W (.f<|.gQ [(y,B3 t E aN u)]<|.ref y))(R:ht Q f=Z)(ab:t<2^62):fp g z Q A i1 (.Name B di) (.Name f e) ((h3 0 1 t).map .int):=fp.v_ λq n p N aF S ax L M=>((ae.name (g:=g) (z:=z) aK R) q n p N aF S ax L M).to λa a4 aM=>by obtain⟨rfl,c⟩:=aM;obtain⟨af,ap⟩:=c _ bz;have dW:rk 0 t 1=t:=D7 t;exact⟨y,t,E,aN,u,U,af,ap,CW bd bd (iP _) (by exact_mod_cast ab),dW⟩
end
end
noncomputable def jV(f:Nat):Nat:=if f<128 then 2*f else(2*f)^^^285
noncomputable def hl:Nat->Nat->Nat|0,f=>f|l+1,f=>jV<|hl l f
theorem LK(l f:Nat):hl (l+1) f=jV (hl l f):=rfl
theorem agw(c:f<256):jV f<256:=by have:((c2 256).all λf=>decide<|jV f<256)=Z:=iS;simpa using hn.mp this f<|la.mpr c
theorem agx:((c2 8).all λaD=>(c2 256).all λf=>jV (f^^^2^aD)==jV f^^^jV (2^aD))=Z:=iS
theorem agy:((c2 256).all λB=>B==0||(c2 8).any λaD=>decide<|B^^^2^aD<B)=Z:=by decide+kernel
theorem wo(R:f<256)(a8:B<256):f^^^B<256:=Hk (n:=8) R a8
theorem agz:∀(B f:Nat),f<256->B<256->jV (f^^^B)=jV f^^^jV B:=by intro B;induction B using He with|ind B a2=>
  intro f R a8;by_cases aO:B=0
  .refine V aO ?_;simp[jV]
  have bC:=hn.mp agy B<|la.mpr a8;rw[CM]at bC;rcases bC with bC|bC
  .exact absurd (eq_of_beq bC) aO
  refine br (N3.mp bC) λaD dx cP=>?_;have cP:B^^^2^aD<B:=of_decide_eq_true cP;have wp:=λG(ab:G<256)=>eq_of_beq<|hn.mp (hn.mp agx aD dx) G<|la.mpr ab;have kw:B^^^2^aD<256:=zR cP a8;have i:B=(B^^^2^aD)^^^2^aD:=V (Di ..)<|V (Nat.xor_self ..)<|V (Hl ..) U
  calc jV (f^^^B)=jV ((f^^^(B^^^2^aD))^^^2^aD):=by exact V (Di ..)<|b' i U
   _=jV (f^^^(B^^^2^aD))^^^jV (2^aD):=wp _<|wo R kw
   _=(jV f^^^jV (B^^^2^aD))^^^jV (2^aD):=V (a2 _ cP f R kw) U
   _=jV f^^^jV ((B^^^2^aD)^^^2^aD):=V (wp _ kw)<|V (Di ..) U
   _=jV f^^^jV B:=b' i U
theorem B4(c:f<256):∀l,hl l f<256|0=>c|l+1=>agw<|B4 c l
theorem LL:∀l,hl l 0=0|0=>U|l+1=>by refine V (LK ..)<|V (LL l) ?_;rfl
theorem T'(R:f<256)(a8:B<256):∀l,hl l (f^^^B)=hl l f^^^hl l B|0=>U|l+1=>by refine V (LK ..)<|V (T' R a8 l)<|V (agz _ _ (B4 R l)<|B4 a8 l) ?_;rfl
theorem FN(aD:Nat)(f:Nat):∀l,hl l (hl aD f)=hl (aD+l) f|0=>U|l+1=>by refine V (LK ..)<|V (FN aD f l) ?_;rfl
theorem agA(aD l f:Nat):hl aD (hl l f)=hl l (hl aD f):=V (FN ..)<|V (FN ..)<|V (w8 ..) U
def eP(D:List Nat):Prop:=∀f∈D,f<256
noncomputable def jx:List Nat->List Nat->List Nat|f::aH,B::b5=>(B^^^f)::jx aH b5|[],b5=>b5|bL::dQ,[]=>[]
theorem B5(f:Nat)(aH:List Nat)(B:Nat)(b5:List Nat):jx (f::aH) (B::b5)=(B^^^f)::jx aH b5:=rfl
theorem Ua:∀(aN D:List Nat),(jx aN D).length=D.length|[],D=>by cases D<;>rfl|bL::dQ,[]=>U|f::aH,B::b5=>by simp[B5,Ua aH b5]
theorem Ub:∀{aN D:List Nat},eP aN->eP D->eP (jx aN D)
 |[],D,bL,c=>by cases D<;>exact c|bL::dQ,[],lp,xI=>aW|f::aH,B::b5,e4,aI=>λG ab=>by
  revert G;refine g4 ?_ ?_
  .exact wo (aI B bz)<|e4 f bz
  .intro G ab;exact Ub (λe a5=>e4 e<|mt a5) (λe a5=>aI e<|mt a5) G ab
noncomputable def eB(s:List Nat)(g:Nat):List Nat:=s.map λaD=>hl aD g
theorem B6(c:g<256):eP (eB s g):=λf R=>by exact mg R λaD w bP=>b' bP<|B4 c aD
noncomputable def wq(s:List Nat):List Nat->List Nat|[]=>[]|g::D=>jx (eB s g) D
theorem Uc(s:List Nat)(g:Nat)(D:List Nat):wq s (g::D)=jx (eB s g) D:=rfl
noncomputable def qY(s:List Nat):Nat->List Nat->List Nat|0,D=>D|t+1,D=>qY s t<|wq s D
theorem agB(s:List Nat)(D:List Nat)(t:Nat):qY s (t+1) D=qY s t (wq s D):=rfl
noncomputable def um(s aw:List Nat):List Nat:=qY s aw.length<|aw++dq s.length 0
theorem agC(c:eP D):eP (wq s D):=by cases D with|nil=>exact aW|cons g D=>exact Ub (B6<|c g bz) λe a5=>c e<|mt a5
theorem agD(s D:List Nat):(wq s D).length=D.length-1:=by cases D with|nil=>rfl|cons g D=>simp[Uc,Ua]
theorem Ud:∀(t:Nat){D:List Nat},eP D->eP (qY s t D)|0,bL,c=>c|t+1,bL,c=>Ud t<|agC c
theorem Ue(s:List Nat):∀(t:Nat)(D:List Nat),(qY s t D).length=D.length-t|0,D=>U|t+1,D=>by refine V (agB ..)<|V (Ue s t ..)<|V (agD ..) ?_;exact(ix (t)<|D.length-1).elim (λd_=>(ix ((t)+1)<|D.length).elim (λgS=>rt [1,1,0,1,0,1,0] [1,0,1,0,1,0,1] (.e .x .y) [.l .z<|.a .x .w,.l .u<|.a .y<|.o .w,.l .u<|.a .z<|.n 1,.e (.a .x .w) .z,.e (.a .y<|.o .w) .u,.e (.a .z<|.n 1) .u] U (f2 _ _) (f2 _ _) (f2 _ _) (eN d_) (eN gS)<|eN<|c3 (.l (.n 1) .x) [.l (.o .y) .x] U gS) λgS=>(ix 1<|D.length).elim (λwr=>rt [1,0,0,1,0] [1,1,1,0,1] (.e .x .y) [.l .z<|.o .w,.e (.a .x .w) .u,.e .y<|.n 0,.e (.a .u<|.n 1) .z] U gS (eN d_) (jh gS)<|eN wr) λwr=>nW [1,0,1,0] [1,1,0,1] (.e .x .y) [.l .x .z,.e .y<|.n 0,.e .z<|.n 0] U (k9 _ _) (jh gS)<|jh wr) λd_=>rr [1,0,1] [1,1,0] (.e .x .y) [.e .x<|.n 0,.e .y<|.n 0] U (jh d_)<|jh<|hh (.l .x<|.o .y) [.l .z .y,.l .x<|.a .z<|.n 1] U d_<|f2 _ _
theorem agE(s aw:List Nat):(um s aw).length=s.length:=by unfold um;refine V (Ue ..) ?_;simp
theorem yT(t:Nat):eP (dq t 0):=λf R=>by refine V (z9 R) ?_;decide
theorem LM(a7:eP h)(m:eP b):eP (h++b):=λf R=>bN R (a7 f)<|m f
theorem agF(c:eP aw):eP (um s aw):=Ud _<|LM c<|yT _
noncomputable def oj:List Nat->List Nat->List Nat|f::aH,B::b5=>(f^^^B)::oj aH b5|bL,dQ=>[]
theorem yU(f:Nat)(aH:List Nat)(B:Nat)(b5:List Nat):oj (f::aH) (B::b5)=(f^^^B)::oj aH b5:=rfl
theorem LN:∀{h b:List Nat},h.length=b.length->(oj h b).length=h.length|[],[],bL=>U|bL::dQ,[],c=>nomatch c|[],bL::dQ,c=>nomatch c|f::aH,B::b5,c=>by simp[yU,LN (h:=aH) (b:=b5) (by simpa using c)]
theorem Uf:∀{h b:List Nat},eP h->eP b->eP (oj h b)
 |[],b,bL,dQ=>by cases b<;>exact aW|bL::dQ,[],lp,xI=>aW|f::aH,B::b5,a7,m=>λG ab=>by
  revert G;refine g4 ?_ ?_
  .exact wo (a7 f bz)<|m B bz
  .intro G ab;exact Uf (λe a5=>a7 e<|mt a5) (λe a5=>m e<|mt a5) G ab
theorem Ug:∀(h:List Nat),oj h (dq h.length 0)=h|[]=>U|f::aH=>by simp[nf,yU,Ug aH]
theorem agG(az:g<256)(bl:z<256):eB s (g^^^z)=oj (eB s g) (eB s z):=by induction s with|nil=>rfl|cons aD s a2=>show hl aD (g^^^z)::eB s (g^^^z)=(hl aD g^^^hl aD z)::oj (eB s g) (eB s z);exact V (T' az bl ..)<|V a2 U
theorem agH(s:List Nat):eB s 0=dq s.length 0:=by induction s with|nil=>rfl|cons aD s a2=>show hl aD 0::eB s 0=_;refine V (LL ..)<|V a2 ?_;rfl
theorem Uh:∀(t:Nat)(D:List Nat),jx (dq t 0) D=D|0,D=>by cases D<;>rfl|t+1,[]=>U|t+1,f::D=>by simp[nf,B5,Uh t D]
theorem agI:eB s (hl l g)=(eB s g).map (hl l):=by unfold eB;exact V jY<|rf λaD w=>agA aD l g
noncomputable def eC(D:List Nat):List Int:=D.map λ(t:Nat)=>(t:Int)
theorem FO(D:List Nat)(k:Nat):(eC D).getD k 0=((D.getD k 0:Nat):Int):=by unfold eC;refine V (fK)<|(fK).symm▸(fk).symm▸?_;cases D[k]?<;>rfl
theorem yV(c:eP D)(k:Nat):D.getD k 0<256:=by refine V (fK) ?_;cases i:D[k]? with|none=>decide|some f=>exact c f<|ox i
theorem agJ:((c2 256).all λf=>f==0||(decide (0<=lB.getD f 0)&&decide (lB.getD f 0<255)&&hl (lB.getD f 0).toNat 1==f))=Z:=iS
theorem agK(c:f<256)(aO:f≠0):∃l:Nat,l<255/\lB.getD f 0=l/\hl l 1=f:=by
 have:=hn.mp agJ f<|la.mpr c;rw[CM]at this;rcases this with e|e
 .exact absurd (eq_of_beq e) aO
 .simp only[h_,decide_eq_true_eq]at e;obtain⟨⟨dm,eY⟩,lU⟩:=e;exact(ro (lB.getD f 0).toNat ((Int.toNat_lt dm).mpr eY) (Xn [1,0,1] [1,1,0] (.eG .x<|.c .x) [.b3 .x<|.c .x,.eG (.c .x) .x] U (ru _)<|oG dm)<|eq_of_beq lU)
theorem Ui:(m1.getD 0 0==1&&(c2 509).all λk=>m1.getD (k+1) 0==((jV (m1.getD k 0).toNat:Nat):Int))=Z:=by decide+kernel
theorem Uj:∀k,k<510->m1.getD k 0=((hl k 1:Nat):Int)|0,bL=>by have:=(l8.mp Ui).1;exact eq_of_beq this|k+1,c=>by have:=hn.mp (l8.mp Ui).2 k<|la.mpr<|cy (.t .x<|.n 509) [.t (.o .x)<|.n 510] U c;refine V (eq_of_beq this)<|V (Uj k<|nP c)<|V (mD ..) ?_;rfl
noncomputable def o1(s:List Nat)(l g:Nat):Nat->List Nat->List Nat|0,c1=>c1|t+1,c1=>(o1 s l g t c1).set (l+t+1)<|(o1 s l g t c1).getD (l+t+1) 0^^^hl (s.getD t 0) g
theorem Uk(s:List Nat)(l g:Nat)(c1:List Nat)(t:Nat):o1 s l g (t+1) c1=(o1 s l g t c1).set (l+t+1) ((o1 s l g t c1).getD (l+t+1) 0^^^hl (s.getD t 0) g):=rfl
theorem LO(az:g<256):∀(t:Nat){c1:List Nat},eP c1->eP (o1 s l g t c1)
 |0,bL,c=>c|t+1,c1,c=>λf R=>by
  refine g_ (N7 R) (λe=>?_) λe=>?_
  .exact LO az t c f e
  .exact V e<|wo (yV (LO az t c) _)<|B4 az _
theorem agL(D:List Nat)(k f:Nat):eC (D.set k f)=(eC D).set k (f:Int):=by unfold eC;exact V Hz U
theorem Ul(az:g<256)(yW:g≠0)(aK:∀aD∈s,aD<255)(Um:h8=lB.getD g 0):∀(t:Nat){c1:List Nat},eP c1->nI (eC s) l h8 t (eC c1)=eC (o1 s l g t c1)
 |0,bL,dQ=>U|t+1,c1,c=>by
  refine fx (agK az yW) λD aI i ck=>V agr<|V (Ul az yW aK Um t c)<|V (Uk ..)<|V (agL ..)<|V (FO ..)<|V (FO ..)<|V Um<|V i ?_;have mW:s.getD t 0<255:=by refine V (fK) ?_;cases e:s[t]? with
   |none=>decide|some f=>exact aK f<|ox e
  have af:((D:Int)+((s.getD t 0:Nat):Int)).toNat=D+s.getD t 0:=nW [1,1,0] [1,0,1] (.e .x<|.a .y .z) [.b3 (.a (.c .y)<|.c .z)<|.c .x,.eG (.c .x)<|.a (.c .y)<|.c .z] U (ru _)<|oG<|c3 (.b3 (.n 0)<|.a (.c .x)<|.c .y) [] U;exact V af<|V (Uj _ (by exact c3 (.t (.a .x .y)<|.n 510) [.t .x<|.n 255,.t .y<|.n 255] U aI mW))<|V (B1 ..)<|b' (FN ..)<|V ck U
set_option tactic.hygienic true in theorem Un:∀(t:Nat)(c1:List Nat),o1 s l 0 t c1=c1
 |0,bL=>U|t+1,c1=>by
  refine V (Uk ..)<|V (Un t c1)<|V (LL ..)<|V (Hl ..) ?_;apply uO;intro k;refine V (Hw) ?_;split
  .rename_i c;subst c;split
   .rename_i c;refine V (fK)<|V (fG c) ?_;rfl
   .rename_i c;exact V (oA (by exact hh (.l .x<|.o<|.a .y .z) [.lF (.o<|.a .y .z) .x] U c)) U
  .rfl
theorem agM(aK:∀aD∈s,aD<255)(c:eP c1):tc (eC s) (eC c1) l=eC (o1 s l (c1.getD l 0) s.length c1):=by
 unfold tc;refine V (FO ..) ?_;by_cases aO:c1.getD l 0=0
 .exact V (if_pos (by exact Ii [1,0] [1,1] (.eG (.c .x)<|.n 0) [.e .x<|.n 0] U aO))<|V aO<|V (Un ..) U
 .exact V (if_neg (by exact cy (.fQ (.c .x)<|.n 0) [.t (.n 0) .x] U<|NK aO))<|V (mD ..)<|V (show(eC s).length=s.length by exact d3 ..)<|V (Ul (yV c l) aO aK U s.length c) U
theorem Uo:∀(aN D:List Nat)(aA:Nat),aA<aN.length->jx (aN.take<|aA+1) D=(jx (aN.take aA) D).set aA ((jx (aN.take aA) D).getD aA 0^^^aN.getD aA 0)|[],bL,dQ,c=>by simp at c|f::aN,[],aA,bL=>by cases aA<;>exact zY ..|f::aN,B::D,0,bL=>by rfl|f::aN,B::D,aA+1,c=>by have:=Uo aN D aA (by simpa using c);simp only[Hv,B5,this,List.set_cons_succ,List.getD_cons_succ]
theorem Up:∀t,t<=s.length->(o1 s l g t c1).drop (l+1)=jx ((eB s g).take t) (c1.drop<|l+1)
 |0,bL=>by show c1.drop (l+1)=_;cases c1.drop (l+1)<;>rfl|t+1,c=>by
  have k:=Up (s:=s) (l:=l) (g:=g) (c1:=c1) t (by exact nP c);refine(V List.drop_set<|V (if_neg (by exact c3 (.lF (.o<|.a .x .y)<|.o .x) [] U))<|V k<|V (Uo _ _ _ (by simp[eB];assumption)) ?_);have bG:l+t+1-(l+1)=t:=nW [1,1,0] [1,0,1] (.e .x .y) [.l (.o<|.a .z .y)<|.a .x<|.o .z,.e (.a .x<|.o .z)<|.o<|.a .z .y] U (f2 _ _)<|eN<|c3 (.l (.o .x)<|.o<|.a .x .y) [] U;have cr:(o1 s l g t c1).getD (l+t+1) 0=(jx ((eB s g).take t)<|c1.drop<|l+1).getD t 0:=k▸(fK).symm▸(fK).symm▸(List.getElem?_drop).symm▸((show l+1+t=l+t+1 by exact c3 (.e (.a (.o .x) .y)<|.o<|.a .x .y) [] U).symm)▸U;have eE:hl (s.getD t 0) g=(eB s g).getD t 0:=by refine V (fK)<|V (fK)<|(V (fk)<|V (fG (by assumption)) ?_);rfl
  exact bG.symm▸cr.symm▸eE.symm▸U
theorem Uq(s:List Nat):∀(t:Nat)(D:List Nat),qY s (t+1) D=wq s (qY s t D)|0,bL=>U|t+1,D=>by refine(V (Uq s t ..) ?_);rfl
theorem Ur(aK:∀aD∈s,aD<255)(c:eP aw):∀l,l<=aw.length->∃c1,o0 (eC s) (eC aw) l=eC c1/\eP c1/\c1.length=aw.length+s.length/\c1.drop l=qY s l (aw++dq s.length 0)
 |0,bL=>(p8 (aw++dq s.length 0) (by unfold o0;simp[eC]) (LM c<|yT _) (by simp) U)|l+1,aS=>by
  refine jf (Ur aK c l<|nP aS) λc1 bG cr eE hE=>?_;have cP:l<c1.length:=ph [1,1,-1] (.t .x .y) [.l (.o .x) .z,.e .y<|.a .z .w] U aS eE;have cL:∀t,(o1 s l (c1.getD l 0) t c1).length=c1.length:=λt=>by induction t with
   |zero=>rfl|succ t a2=>exact(V N8<|V a2 U)
  refine(p8 (o1 s l (c1.getD l 0) s.length c1) ?_ (LO (yV cr l) _ cr) (V (cL ..)<|V eE U) ?_)
  .exact V (LI ..)<|V bG<|V (agM aK cr) U
  .refine V (Up _<|dA _)<|V (Uq ..)<|b' hE<|V (Do cP)<|?_;have:c1.getD l 0=c1[l]:=by refine V (fK)<|V (fG cP) ?_;rfl
   exact V this<|V (uP (by simp[eB])) U
theorem agN(aK:∀aD∈s,aD<255)(c:eP aw):ks (eC s) (eC aw)=eC (um s aw):=by refine jf (Ur aK c aw.length<|dA _) λc1 bG cr eE hE=>?_;unfold ks;refine V (d3 ..)<|bG.symm▸?_;unfold um;refine b' hE ?_;unfold eC;exact V xe U
noncomputable def gj(D:List Nat):Nat:=D.foldl (λh f=>h*256+f) 0
theorem FP:∀(D:List Nat)(h:Nat),D.foldl (λh f=>h*256+f) h=h*256^D.length+gj D|[],h=>by show h=h*1+0;exact cy (.e .x<|.a (.r .x 1)<|.n 0) [] U|f::D,h=>by show D.foldl _ (h*256+f)=h*256^(D.length+1)+D.foldl _ (0*256+f);exact V (FP D<|h*256+f)<|V (FP D<|0*256+f)<|V (zT ..)<|V (Nat.add_mul ..)<|V (w_ ..)<|V (ra ..)<|V (Nat.mul_assoc ..)<|V (rb 256 ..)<|V (uL ..) U
theorem qZ(f:Nat)(D:List Nat):gj (f::D)=f*256^D.length+gj D:=by show D.foldl _ (0*256+f)=_;exact V (FP ..)<|V (w_ ..)<|V (ra ..) U
theorem B7:∀{D:List Nat},eP D->gj D<256^D.length
 |[],_=>Nat.one_pos|f::D,c=>by
  refine V (qZ ..)<|V iy<|V (zT ..) ?_;have ap:=c f bz
  calc f*256^D.length+gj D<f*256^D.length+256^D.length:=NL (B7 (D:=D) λB a8=>c B<|mt a8) _
   _=(f+1)*256^D.length:=(w' ..).symm
   _<=256*256^D.length:=zU _ ap
   _=256^D.length*256:=rb ..
theorem Us(h b:List Nat):gj (h++b)=gj h*256^b.length+gj b:=by unfold gj;refine V z8<|V (FP ..) ?_;rfl
theorem Ut{t f B h b:Nat}(a7:h<2^t)(m:b<2^t):(2^t*f+h)^^^(2^t*B+b)=2^t*(f^^^B)+(h^^^b):=by
 apply Nat.eq_of_testBit_eq;intro k;refine V (Hm ..)<|V (Hn _ a7 ..)<|V (Hn _ m ..)<|V (Hn _ (Hk a7 m) ..) ?_;split
 .exact V (Hm ..) U
 .exact V (Hm ..) U
theorem agO(t:Nat):(256:Nat)^t=2^(8*t):=by exact V (show(256:Nat)=2^8 from U)<|b' (Nat.pow_mul ..) U
theorem FQ:∀{h b:List Nat},eP h->eP b->h.length=b.length->gj (oj h b)=gj h^^^gj b|[],[],_,_,_=>U|[],_::_,_,_,c=>nomatch c|_::_,[],_,_,c=>nomatch c|f::h,B::b,a7,m,c=>by have aI:h.length=b.length:=uW c;have ku:eP h:=λG ab=>a7 G<|mt ab;have dR:eP b:=λG ab=>m G<|mt ab;have af:=B7 ku;have ap:=B7 dR;rw[<-aI]at ap;refine V (yU ..)<|V (qZ ..)<|V (qZ ..)<|V (qZ ..)<|V (LN aI)<|b' aI<|V (FQ ku dR aI) ?_;rw[agO]at af ap⊢;exact V (rb ..)<|V (rb f ..)<|V (rb B ..)<|V (Ut af ap) U
noncomputable def ol(s y:List Nat)(j:Nat):List Nat:=oj (y.tail++[0])<|eB s<|y.headD 0^^^j
theorem LP{s y:List Nat}(c:y.length=s.length)(aK:0<s.length)(j:Nat):(ol s y j).length=s.length:=by
 have af:(y.tail++[0]).length=(eB s<|y.headD 0^^^j).length:=by unfold eB;refine V gU<|V N9<|V (d3 ..)<|V N_ ?_;exact nW [1,-1,1,0] [1,1,0,1] (.e (.o .x) .y) [.e .z .y,.l .z<|.a .x<|.n 1,.e (.a .x<|.n 1) .z] U c (f2 _ _)<|eN<|gd [1,-1,1] (.l (.n 1) .x) [.e .x .y,.t (.n 0) .y] U c aK
 unfold ol;refine V (LN af)<|V af ?_;exact d3 ..
theorem LQ{y:List Nat}(c:eP y):y.headD 0<256:=by cases y with|nil=>decide|cons f y=>exact c f bz
theorem FR{y:List Nat}(c:eP y):eP (y.tail++[0]):=LM (λf R=>c f<|List.mem_of_mem_tail R) λf R=>by refine V (bm R) ?_;decide
theorem Uu{s y:List Nat}{j:Nat}(c:eP y)(bS:j<256):eP (ol s y j):=Uf (FR c)<|B6<|wo (LQ c) bS
theorem Uv:∀(aN u D:List Nat),aN.length=u.length+1->aN.length<=D.length->jx aN (jx u D)=jx (oj (u++[0]) aN) D|[],u,D,c,_=>nomatch c|f::aN,[],[],c,aI=>nomatch aI|f::aN,[],B::D,c,aI=>by have e4:aN=[]:=Hy.mp<|uW c;subst e4;show(B^^^f)::D=(B^^^(0^^^f))::jx (oj [] []) D;refine V (Ho ..) ?_;rfl|f::aN,G::u,[],c,aI=>nomatch aI|f::aN,G::u,B::D,c,aI=>by show((B^^^G)^^^f)::jx aN (jx u D)=(B^^^(G^^^f))::jx (oj (u++[0]) aN) D;exact V (Uv aN u D (uW c)<|NM aI)<|V (Di ..) U
theorem Uw:∀(y:List Nat),jx y (dq y.length 0)=y|[]=>U|f::y=>by exact V iy<|V nf<|V (B5 ..)<|V (Uw y)<|V (Ho ..) U
theorem Ux(s:List Nat)(aK:0<s.length):∀(aw y:List Nat),y.length=s.length->qY s aw.length (jx y<|aw++dq s.length 0)=aw.foldl (ol s) y
 |[],y,av=>by show jx y ([]++dq s.length 0)=y;refine V (HA ..)<|b' av ?_;exact Uw y|j::aw,[],av=>by replace aK:=av▸aK;exact nomatch aK|j::aw,f::y,av=>by
  show qY s aw.length (wq s<|jx (f::y)<|j::(aw++dq s.length 0))=aw.foldl (ol s) (ol s (f::y) j);have aI:(eB s<|j^^^f).length=y.length+1:=by unfold eB;refine V (d3 ..) ?_;exact av.symm
  refine V (B5 ..)<|V (Uc ..)<|V (Uv _ _ _ aI (by rw[gU,ng];unfold eB;rw[d3];exact c3 (.l .x<|.a .y .x) [] U))<|V (Nat.xor_comm j f) ?_;exact Ux s aK aw _<|LP av aK j
theorem agP{s:List Nat}(aK:0<s.length)(aw:List Nat):um s aw=aw.foldl (ol s) (dq s.length 0):=by refine b' (Ux s aK aw _ ng)<|V (Uh ..) ?_;rfl
theorem LR{s:List Nat}(aK:0<s.length):∀(aw y:List Nat),eP aw->eP y->y.length=s.length->eP (aw.foldl (ol s) y)/\(aw.foldl (ol s) y).length=s.length|[],y,_,c,av=>⟨c,av⟩|j::aw,y,ay,c,av=>LR aK aw _ (λf R=>ay f<|mt R) (Uu c<|ay j bz)<|LP av aK j
section
section
variable{aT:Model}{q:bY}{as:al->ag->Prop}{a:ag}{bI:p0}{a':Nat->lb}{lt:Nat->Nat->Bool}{k aD h b t aA I lo ws kN o2 l D jl cF lG kF y ac:Nat}{gR:Bool}{bf cE pH gn LS:Type}{st:eW}{r bn e:List Nat}{fe:Array<|Nat×Nat×Nat}
def o3(aT:Model)(q:bY)(a:ag)(bI:p0)(a':Nat->lb)(lt:Nat->Nat->Bool):Prop:=∀(k aD:Nat)(as:al->ag->Prop)(C:Bool->ag->Prop),C (lt k aD) a->b9 aT q (keyLt' bI (a' k).1 (a' aD).1) C as a
noncomputable def dU(a':Nat->lb)(D:List Nat):Array Keyed:=(D.map a').toArray
noncomputable def hm(bI:p0)(a':Nat->lb)(r:List Nat)(fe:Array<|Nat×Nat×Nat):SortSt:=H6 bI (dU a' r) fe 7 aQ
theorem m7(D:List Nat):(dU a' D).size=D.length:=d3 ..
theorem B8{D:List Nat}:(dU a' D)[k]?=D[k]?.map a':=NU.trans fk
theorem B9(D aA:List Nat):dU a' D++dU a' aA=dU a' (D++aA):=by unfold dU;exact V mc<|V (List.append_toArray ..) U
theorem yX(D:List Nat)(f:Nat):(dU a' D).push (a' f)=dU a' (D++[f]):=B9 D [f]
theorem wt(D:List Nat)(k aD:Nat):(dU a' D).extract k aD=dU a' ((D.take aD).drop k):=by unfold dU;exact V List.extract_toArray<|V List.extract_eq_take_drop<|V xe<|V z0<|V List.drop_take U
theorem m8{g:Prop}[Decidable g]{E i:StateT eW Sem bf}{C:bf->eW->Prop}(c:g)(l:wpS aT q as a E C st):wpS aT q as a (if g then E else i) C st:=(if_pos c).symm▸l
theorem i8{g:Prop}[Decidable g]{E i:StateT eW Sem bf}{C:bf->eW->Prop}(c:¬g)(l:wpS aT q as a i C st):wpS aT q as a (if g then E else i) C st:=(if_neg c).symm▸l
theorem pI{I:eW->StateT eW Sem cE}{C:cE->eW->Prop}(l:wpS aT q as a (I st) C st):wpS aT q as a (get>>=I) C st:=me<|wpS_get l
theorem B_{I:PUnit->StateT eW Sem cE}{s:eW->eW}{C:cE->eW->Prop}(l:wpS aT q as a (I ⟨⟩) C<|s st):wpS aT q as a (modify s>>=I) C st:=me<|wpS_modify l
theorem LU{f:String}{I:Unit->StateT eW Sem cE}{C:cE->eW->Prop}(l:wpS aT q as a (I ()) C st):wpS aT q as a ((liftM (rule f):StateT eW Sem Unit)>>=I) C st:=me<|wpS_lift<|l9 ⟨U,l⟩
theorem nJ{I:lb->StateT eW Sem cE}{C:cE->eW->Prop}(i:r[k]?=W h)(l:wpS aT q as a (I<|a' h) C st):wpS aT q as a (elem' (dU a' r) k>>=I) C st:=by refine me ?_;refine V (elem'_eq ..)<|V B8<|V i ?_;exact e3 l
theorem LV{C:Option Bool->eW->Prop}(aI:o3 aT q a bI a' lt)(aS:kindOf st=bI)(l:C (W<|lt k aD) st):wpS aT q as a (lt' (a' k)<|a' aD) C st:=by refine V (lt'_eq ..) ?_;refine pI ?_;refine V aS ?_;exact me<|wpS_lift<|ts<|aI k aD _ _ ⟨U,e3 l⟩
theorem LW{I:Option Bool->StateT eW Sem cE}{C:cE->eW->Prop}(aI:o3 aT q a bI a' lt)(aS:kindOf st=bI)(af:lt k aD=Z->wpS aT q as a (I<|W Z) C st)(ap:lt k aD=a1->wpS aT q as a (I<|W a1) C st):wpS aT q as a (lt' (a' k) (a' aD)>>=I) C st:=by refine me<|LV aI aS ?_;cases az:lt k aD with|true=>exact af az|false=>exact ap az
theorem LX{I:Option Bool->StateT eW Sem cE}{C:cE->eW->Prop}(aI:o3 aT q a bI a' lt)(ac:r[k]?=W h)(dx:r[aD]?=W b)(af:lt h b=Z->wpS aT q as a (I<|W Z) C (hm bI a' r fe))(ap:lt h b=a1->wpS aT q as a (I<|W a1) C (hm bI a' r fe)):wpS aT q as a (ltAt' k aD>>=I) C (hm bI a' r fe):=by refine me ?_;refine V (ltAt'_eq ..) ?_;refine pI<|nJ ac<|nJ dx<|LV aI U ?_;cases az:lt h b with|true=>exact af az|false=>exact ap az
theorem om{ep:Nat->cE->StateT eW Sem (ForInStep cE)}{I:cE->StateT eW Sem pH}{C:pH->eW->Prop}(s:gn->cE)(e8:gn->eW)(ae:Nat->gn->Prop)(kz:LS->cE)(FS:LS->eW)(FT:LS->Prop)(B':gn)(m:∀k f,k<ac->ae k f->wpS aT q as a (ep k<|s f) (λy kR=>match y with|.done g=>∃B,g=kz B/\kR=FS B/\FT B|.yield g=>∃jm,g=s jm/\kR=e8 jm/\ae (k+1) jm) (e8 f))(aO:ae lo B')(qr:∀f,ae (max lo ac) f->∃B,s f=kz B/\e8 f=FS B/\FT B)(bg:∀B,FT B->wpS aT q as a (I<|kz B) C (FS B)):wpS aT q as a (forIn [lo:ac] (s B') ep>>=I) C (e8 B'):=by
 refine me<|wpS_mono (wpS_forRange (I:=λk g st=>∃f,g=s f/\st=e8 f/\ae k f) (Q:=λg st=>∃B,g=kz B/\st=FS B/\FT B) ?_ ?_ ⟨B',U,U,aO⟩) ?_
 .rintro k g st af ap⟨f,rfl,rfl,R⟩;exact m k f ap R
 .rintro g st⟨f,rfl,rfl,R⟩;exact qr f R
 .rintro g st⟨B,rfl,rfl,a8⟩;exact bg B a8
theorem gT{bf cE:Type}{o:Option bf}{s:bf->Option cE}{y:cE}(c:o.bind s=W y):∃f,o=W f/\s f=W y:=G2.mp c
theorem td{g:Bool}{h b y:bf}(c:g=Z)(e:(bif g then h else b)=y):h=y:=by subst c;exact e
theorem te{g:Bool}{h b y:bf}(c:g=a1)(e:(bif g then h else b)=y):b=y:=by subst c;exact e
theorem hV{g:Bool}{h b:Option bf}{y:bf}{ak:Prop}(e:(bif g then h else b)=W y)(af:g=Z->h=W y->ak)(ap:g=a1->b=W y->ak):ak:=by cases g with|true=>exact af U e|false=>exact ap U e
theorem on(c:hY h b=Z):h<=b:=mI c
theorem nK(c:hY h b=a1):¬h<=b:=λG=>uz<|c.symm.trans<|De G
theorem pJ{g:Bool}(c:g=a1):¬g=Z:=λG=>uz<|c.symm.trans G
theorem pK(c:k<t):t-k=(t-(k+1))+1:=(Nat.succ_pred_eq_of_pos<|NN c).symm
theorem pL(c:h<=t):t-max h t=0:=(Nat.max_eq_right c).symm▸Nat.sub_self t
noncomputable def LY(lt:Nat->Nat->Bool)(r:List Nat)(lo:Nat):Nat->Nat->Option Nat|0,t=>W t|I+1,t=>(r[lo+t]?).bind λh=>(r[lo+t-1]?).bind λb=>bif lt h b then W t else LY lt r lo I<|t+1
noncomputable def Uy(lt:Nat->Nat->Bool)(r:List Nat)(lo ws:Nat):Option Nat:=(LY lt r lo (ws-1) 1).bind λt=>bif t==ws then W t else(r[lo]?).bind λh=>(r[lo+t-1]?).bind λb=>bif ma 1 t then bif lt h b then W t else aQ else aQ
noncomputable def agQ:Nat->Nat->StateT eW Sem (Option Nat):=sortPriv%PySem.Builtin.countRun
theorem agR{I:Option Nat->StateT eW Sem cE}{C:cE->eW->Prop}(aI:o3 aT q a bI a' lt)(ay:1<=ws)(i:Uy lt r lo ws=W t)(c:wpS aT q as a (I<|W t) C<|hm bI a' r fe):wpS aT q as a (agQ lo ws>>=I) C (hm bI a' r fe):=by
 obtain⟨aA,bG,cr⟩:=gT i;refine me<|om (λk=>(aQ,k)) (λw=>hm bI a' r fe) (λk g=>g=k/\LY lt r lo (ws-k) g=W aA) (λ(_:Unit)=>(aQ,aA)) (λw=>hm bI a' r fe) (λw=>True) 1 (λk f ap e5=>?_) ⟨U,bG⟩ (λf e5=>?_) λw w=>?_
 .have e:=e5.2;replace e:=(pK ap)▸e;obtain⟨h,a7,e⟩:=gT e;obtain⟨b,m,e⟩:=gT e;exact LX aI a7 m (λaz=>e3 ⟨(),congrArg _<|d4<|td az e,U,trivial⟩) λaz=>e3 ⟨f+1,U,U,congrArg (·+1) e5.1,te az e⟩
 .have e:=e5.2;replace e:=(pL ay)▸e;exact⟨(),congrArg _<|d4 e,U,trivial⟩
 .refine hV cr (λaz i=>?_) λaz i=>?_
  .exact m8 az<|e3<|(d4 i)▸c
  .obtain⟨h,a7,i⟩:=gT i;obtain⟨b,m,i⟩:=gT i;refine i8 (pJ az)<|hV i (λaf i=>?_) λw i=>nomatch i;exact hV i (λap i=>m8 (on af)<|LX aI a7 m (λw=>e3<|(d4 i)▸c) λG=>absurd ap<|pJ G) λw i=>nomatch i
noncomputable def s2(r:List Nat)(kN o2:Nat):List Nat:=(r[kN]?).elim r λf=>(r.eraseIdx kN).insertIdx o2 f
theorem agS(c:kN<r.length)(bl:o2<=kN)(l:Nat):(s2 r kN o2)[l]?=if l=o2 then r[kN]? else if o2<l/\l<=kN then r[l-1]? else r[l]?:=by
 have i:s2 r kN o2=(r.eraseIdx kN).insertIdx o2 r[kN]:=by unfold s2;refine V (fG c) ?_;rfl
 refine V i<|V (List.getElem?_insertIdx) ?_;rcases Nat.lt_trichotomy l o2 with G|G|G
 .exact V (if_pos G)<|V (if_neg<|gD G)<|V (if_neg λe=>Hp G e.1)<|V (N'<|cw G bl) U
 .refine V G ?_;exact V (if_neg<|h' _)<|V (if_pos U)<|V (if_pos U)<|V (if_pos<|bb bl<|List.length_eraseIdx_of_lt c▸NO c)<|V (fG c) U
 .refine V (if_neg<|Hp G)<|V (if_neg<|q' G)<|V (if_neg<|q' G) ?_;have iF:l-1+1=l:=zP<|mG (eJ _) G;by_cases aS:l<=kN
  .exact V (if_pos ⟨G,aS⟩)<|V (N'<|cw (Hh (lM _) iF) aS) U
  .exact V (if_neg λe=>aS e.2)<|V (List.getElem?_eraseIdx_of_ge<|NO<|Hc aS)<|V iF U
theorem agT(c:kN<r.length)(bl:o2<=kN):bubble (dU a' r) kN (kN-o2)=dU a' (s2 r kN o2):=by
 apply OE;intro l;refine V (getElem?_bubble ((m7 r).symm▸c) _ (k9 _ _) ..)<|V (Nat.sub_sub_self bl)<|V (B8 (D:=s2 r kN o2))<|V (agS c bl ..) ?_;split
 .exact B8
 .split
  .exact B8
  .exact B8
noncomputable def FU(lt:Nat->Nat->Bool)(r:List Nat)(lo l:Nat):Nat->Nat->Nat->Option Nat|0,D,_=>W D|I+1,D,y=>bif hY y D then W D else(r[lo+l]?).bind λh=>(r[lo+(D+y)/2]?).bind λb=>bif lt h b then FU lt r lo l I D ((D+y)/2)else FU lt r lo l I ((D+y)/2+1) y
noncomputable def FV(lt:Nat->Nat->Bool)(lo:Nat):Nat->Nat->List Nat->Option (List Nat)|0,_,r=>W r|I+1,l,r=>(FU lt r lo l l 0 l).bind λD=>bif hY D l&&ma (lo+l) r.length then FV lt lo I (l+1) (s2 r (lo+l)<|lo+D)else aQ
theorem agU{I:Bool->StateT eW Sem cE}{C:cE->eW->Prop}(aI:o3 aT q a bI a' lt)(ay:max jl 1<=t)(i:FV lt lo (t-max jl 1) (max jl 1) r=W bn)(c:wpS aT q as a (I Z) C<|hm bI a' bn fe):wpS aT q as a (binarySort' lo t jl>>=I) C (hm bI a' r fe):=by
 refine me ?_;refine V (binarySort'_eq ..) ?_;refine om (λw=>(aQ,())) (λe=>hm bI a' e fe) (λl e=>FV lt lo (t-l) l e=W bn) (λ(_:Unit)=>(aQ,())) (λw=>hm bI a' bn fe) (λw=>True) r (λl e ap G=>?_) i (λe G=>?_) λw w=>e3 c
 .rw[pK ap]at G;obtain⟨D,bG,G⟩:=gT G;refine hV G (λm G=>?_) λw G=>nomatch G;obtain⟨fX,gY⟩:=l8.mp m;refine om (λ(f:Nat×Nat)=>(aQ,f.1,f.2)) (λw=>hm bI a' e fe) (λk f=>FU lt e lo l (l-k) f.1 f.2=W D) (λy=>(aQ,D,y)) (λw=>hm bI a' e fe) (λw=>True) (0,l) (λk f ap B=>?_) bG (λf B=>?_) λy w=>?_
  .rw[pK ap]at B;refine hV B (λm B=>m8 (on m)<|e3 ⟨f.2,by exact b' (d4 B) U,U,trivial⟩) λm B=>?_;obtain⟨h,a7,B⟩:=gT B;obtain⟨b,dR,B⟩:=gT B;exact i8 (nK m)<|LX aI a7 dR (λaz=>e3 ⟨(f.1,(f.1+f.2)/2),U,U,td az B⟩) λaz=>e3 ⟨((f.1+f.2)/2+1,f.2),U,U,te az B⟩
  .rw[pL<|eJ _]at B;exact⟨f.2,by exact b' (d4 B) U,U,trivial⟩
  .refine me ?_;refine V (moveDown'_eq ..) ?_;exact wpS_modify<|e3 ⟨s2 e (lo+l)<|lo+D,U,congrArg (λh=>H6 bI h fe 7 aQ)<|agT (on gY)<|Hq (on fX) lo,G⟩
 .rw[pL ay]at G;exact⟨(),U,congrArg (λe=>hm bI a' e fe)<|d4 G,trivial⟩
noncomputable def Ca(lt:Nat->Nat->Bool)(gR:Bool)(cF:Nat)(my:List Nat)(k:Nat):Option Bool:=(my[k]?).map λf=>bif gR then lt f cF else !lt cF f
noncomputable def LZ(lt:Nat->Nat->Bool)(gR:Bool)(cF:Nat)(my:List Nat)(Uz Cb:Nat):Nat->Nat->Nat->Option (Nat×Nat)|0,h,o=>W (h,o)|I+1,h,o=>bif hY Cb o then W (h,o)else(Ca lt gR cF my<|Uz+o).bind λb=>bif b then LZ lt gR cF my Uz Cb I o (2*o+1)else W (h,o)
noncomputable def L0(lt:Nat->Nat->Bool)(gR:Bool)(cF:Nat)(my:List Nat)(lG kF Cb:Nat):Nat->Nat->Nat->Option (Nat×Nat)|0,h,o=>W (h,o)|I+1,h,o=>bif hY Cb o then W (h,o)else(Ca lt gR cF my<|lG+(kF-o)).bind λb=>bif b then W (h,o)else L0 lt gR cF my lG kF Cb I o<|2*o+1
noncomputable def yZ(lt:Nat->Nat->Bool)(gR:Bool)(cF:Nat)(my:List Nat)(lG:Nat):Nat->Nat->Nat->Option Nat|0,_,c=>W c|I+1,D,c=>bif hY c D then W c else(Ca lt gR cF my<|lG+(D+(c-D)/2)).bind λb=>bif b then yZ lt gR cF my lG I (D+(c-D)/2+1) c else yZ lt gR cF my lG I D<|D+(c-D)/2
noncomputable def L1(lt:Nat->Nat->Bool)(gR:Bool)(cF:Nat)(my:List Nat)(lG t kF:Nat):Option Nat:=(Ca lt gR cF my<|lG+kF).bind λb=>bif b then(LZ lt gR cF my (lG+kF) (t-kF) t 0 1).bind λy=>yZ lt gR cF my lG t (kF+y.1+1)<|kF+min y.2 (t-kF)else(L0 lt gR cF my lG kF (kF+1) t 0 1).bind λy=>yZ lt gR cF my lG t (kF+1-min y.2 (kF+1))<|kF-y.1
noncomputable def agV:Bool->lb->Array lb->Nat->Nat->Nat->StateT eW Sem (Option Nat):=sortPriv%PySem.Builtin.gallop
theorem Cc{b:Bool}{I:Option Bool->StateT eW Sem cE}{C:cE->eW->Prop}(aI:o3 aT q a bI a' lt)(aS:kindOf st=bI)(i:Ca lt gR cF e k=W b)(af:b=Z->wpS aT q as a (I<|W Z) C st)(ap:b=a1->wpS aT q as a (I<|W a1) C st):wpS aT q as a ((do let f<-elem' (dU a' e) k;if gR=Z then lt' f (a' cF)else do let y<-lt' (a' cF) f;pure (y.map (!·)))>>=I) C st:=by obtain⟨f,R,rfl⟩:=zI.mp i;refine me<|nJ R ?_;cases gR with
 |true=>refine LV aI aS ?_;cases az:lt f cF with
  |true=>exact af az|false=>exact ap az
 |false=>
  refine LW aI aS (λaz=>e3<|ap ?_) λaz=>e3<|af ?_
  .show(!lt cF f)=a1;refine V az ?_;rfl
  .show(!lt cF f)=Z;refine V az ?_;rfl
theorem UA{I:Option Nat->StateT eW Sem cE}{C:cE->eW->Prop}(aI:o3 aT q a bI a' lt)(aS:kindOf st=bI)(i:L1 lt gR cF e lG t kF=W y)(c:wpS aT q as a (I<|W y) C st):wpS aT q as a (agV gR (a' cF) (dU a' e) lG t kF>>=I) C st:=by
 obtain⟨b,bG,cr⟩:=gT i;refine me<|Cc aI aS bG (λm=>?_) λm=>?_
 .obtain⟨et,eE,hE⟩:=gT<|td m cr;refine om (λ(f:Nat×Nat)=>(aQ,f.1,f.2)) (λw=>st) (λk f=>LZ lt gR cF e (lG+kF) (t-kF) (t-k) f.1 f.2=W et) (λ(_:Unit)=>(aQ,et.1,et.2)) (λw=>st) (λw=>True) (0,1) (λk f ap B=>?_) eE (λf B=>?_) λw w=>?_
  .replace B:=(pK ap)▸B;refine hV B (λm B=>m8 (on m)<|e3 ⟨(),by exact b' (d4 B) U,U,trivial⟩) λm B=>?_;obtain⟨b,dR,B⟩:=gT B;exact i8 (nK m)<|Cc aI aS (uL ..▸dR) (λaz=>e3 ⟨(f.2,2*f.2+1),U,U,td az B⟩) λaz=>e3 ⟨(),by exact b' (d4<|te az B) U,U,trivial⟩
  .replace B:=(pL<|eJ _)▸B;exact⟨(),by exact b' (d4 B) U,U,trivial⟩
  .refine om (λ(f:Nat×Nat)=>(aQ,f.1,f.2)) (λw=>st) (λk f=>yZ lt gR cF e lG (t-k) f.1 f.2=W y) (λf=>(aQ,f,y)) (λw=>st) (λw=>True) (_,_) (λk f ap B=>?_) hE (λf B=>?_) λw w=>e3 c
   .replace B:=(pK ap)▸B;refine hV B (λm B=>m8 (on m)<|e3 ⟨f.1,by exact b' (d4 B) U,U,trivial⟩) λm B=>?_;obtain⟨b,dR,B⟩:=gT B;exact i8 (nK m)<|Cc aI aS dR (λaz=>e3 ⟨(f.1+(f.2-f.1)/2+1,f.2),U,U,td az B⟩) λaz=>e3 ⟨(f.1,f.1+(f.2-f.1)/2),U,U,te az B⟩
   .replace B:=(pL<|eJ _)▸B;exact⟨f.1,by exact b' (d4 B) U,U,trivial⟩
 .obtain⟨et,eE,hE⟩:=gT<|te m cr;refine om (λ(f:Nat×Nat)=>(aQ,f.1,f.2)) (λw=>st) (λk f=>L0 lt gR cF e lG kF (kF+1) (t-k) f.1 f.2=W et) (λ(_:Unit)=>(aQ,et.1,et.2)) (λw=>st) (λw=>True) (0,1) (λk f ap B=>?_) eE (λf B=>?_) λw w=>?_
  .replace B:=(pK ap)▸B;refine hV B (λm B=>m8 (on m)<|e3 ⟨(),by exact b' (d4 B) U,U,trivial⟩) λm B=>?_;obtain⟨b,dR,B⟩:=gT B;exact i8 (nK m)<|Cc aI aS dR (λaz=>e3 ⟨(),by exact b' (d4<|td az B) U,U,trivial⟩) λaz=>e3 ⟨(f.2,2*f.2+1),U,U,te az B⟩
  .replace B:=(pL<|eJ _)▸B;exact⟨(),by exact b' (d4 B) U,U,trivial⟩
  .refine om (λ(f:Nat×Nat)=>(aQ,f.1,f.2)) (λw=>st) (λk f=>yZ lt gR cF e lG (t-k) f.1 f.2=W y) (λf=>(aQ,f,y)) (λw=>st) (λw=>True) (_,_) (λk f ap B=>?_) hE (λf B=>?_) λw w=>e3 c
   .replace B:=(pK ap)▸B;refine hV B (λm B=>m8 (on m)<|e3 ⟨f.1,by exact b' (d4 B) U,U,trivial⟩) λm B=>?_;obtain⟨b,dR,B⟩:=gT B;exact i8 (nK m)<|Cc aI aS dR (λaz=>e3 ⟨(f.1+(f.2-f.1)/2+1,f.2),U,U,td az B⟩) λaz=>e3 ⟨(f.1,f.1+(f.2-f.1)/2),U,U,te az B⟩
   .replace B:=(pL<|eJ _)▸B;exact⟨f.1,by exact b' (d4 B) U,U,trivial⟩
end
end
section
section
variable{aT:Model}{q:bY}{as:al->ag->Prop}{a:ag}{bI:p0}{a':Nat->lb}{lt:Nat->Nat->Bool}{k:Nat}{cE:Type}{st:eW}{fu fE b_:List Nat}{I:Array lb->StateT eW Sem cE}{C:cE->eW->Prop}{p aU:Array lb}
noncomputable def FW(lt:Nat->Nat->Bool)(fu fE:List Nat):Nat->List Nat->Nat->Nat->Nat->Nat->Option (List Nat)|0,_,_,_,_,_=>aQ|I+1,lw,y0,pM,Cd,Ce=>(fE[pM]?).bind λB=>(fu[y0]?).bind λf=>bif lt B f then bif pM+1==fE.length then W (lw++[B]++fu.drop y0++fE.drop (pM+1))else bif hY 7 (Ce+1)then aQ else FW lt fu fE I (lw++[B]) y0 (pM+1) 0<|Ce+1 else bif y0+1+1==fu.length then W (lw++[f]++fE.drop pM++fu.drop (y0+1))else bif hY 7 (Cd+1)then aQ else FW lt fu fE I (lw++[f]) (y0+1) pM (Cd+1) 0
noncomputable def UB(lt:Nat->Nat->Bool)(fu fE:List Nat):Option (List Nat):=(fE[0]?).bind λB=>bif 1==fE.length then aQ else bif 1==fu.length then aQ else FW lt fu fE (fu.length+fE.length) [B] 0 1 0 0
noncomputable def FX(lt:Nat->Nat->Bool)(fu fE:List Nat):Nat->List Nat->Nat->Nat->Nat->Nat->Option (List Nat)|0,_,_,_,_,_=>aQ|I+1,lw,y1,g0,Cd,Ce=>(fE[g0-1]?).bind λB=>(fu[y1-1]?).bind λf=>bif lt B f then bif y1-1==0 then W (fu.take (y1-1)++fE.take g0++(lw++[f]).reverse)else bif hY 7 (Cd+1)then aQ else FX lt fu fE I (lw++[f]) (y1-1) g0 (Cd+1) 0 else bif g0-1==1 then W (fE.take (g0-1)++fu.take y1++(lw++[B]).reverse)else bif hY 7 (Ce+1)then aQ else FX lt fu fE I (lw++[B]) y1 (g0-1) 0<|Ce+1
noncomputable def UC(lt:Nat->Nat->Bool)(fu fE:List Nat):Option (List Nat):=(fu[fu.length-1]?).bind λB=>bif fu.length-1==0 then aQ else bif fE.length==1 then aQ else FX lt fu fE (fu.length+fE.length) [B] (fu.length-1) fE.length 0 0
noncomputable def agW:Array lb->Array lb->StateT eW Sem (Array lb):=sortPriv%PySem.Builtin.mergeLo
noncomputable def agX:Array lb->Array lb->StateT eW Sem (Array lb):=sortPriv%PySem.Builtin.mergeHi
theorem UD(D:List Nat)(k:Nat):(dU a' D).extract k (dU a' D).size=dU a' (D.drop k):=by exact V (wt ..)<|V (m7 ..)<|V xb U
theorem agY(D:List Nat):(dU a' D).reverse=dU a' D.reverse:=by unfold dU;exact V List.reverse_toArray<|V List.map_reverse U
theorem UE(o aH b5:List Nat)(f k aD:Nat):(dU a' o).push (a' f)++(dU a' aH).extract k (dU a' aH).size++(dU a' b5).extract aD (dU a' b5).size=dU a' (o++[f]++aH.drop k++b5.drop aD):=by exact V (yX ..)<|V (UD ..)<|V (UD ..)<|V (B9 ..)<|V (B9 ..) U
theorem UF(o aH b5:List Nat)(f k aD:Nat):(dU a' aH).extract 0 k++(dU a' b5).extract 0 aD++((dU a' o).push<|a' f).reverse=dU a' (aH.take k++b5.take aD++(o++[f]).reverse):=by refine V (yX ..)<|V (wt ..)<|V (wt ..)<|V (agY ..)<|V (B9 ..)<|V (B9 ..) ?_;rfl
theorem UG{D:List Nat}{f:Nat}(c:D[k]?=W f):k<D.length:=(k'.mp c).1
theorem agZ(co:p=dU a' fu)(oa:aU=dU a' fE)(aI:o3 aT q a bI a' lt)(aS:kindOf st=bI)(aK:DB st=7)(i:UB lt fu fE=W b_)(c:wpS aT q as a (I<|dU a' b_) C st):wpS aT q as a (agW p aU>>=I) C st:=by
 subst co oa;obtain⟨B,y2,i⟩:=gT i;refine hV i (λw G=>nomatch G) λdr i=>hV i (λw G=>nomatch G) λes i=>?_;have cK:fu.length+fE.length=(dU a' fu).size+(dU a' fE).size:=(m7 (a':=a') fu).symm▸(m7 (a':=a') fE).symm▸U;have aO:0<(dU a' fu).size+(dU a' fE).size:=cK▸cw (UG y2) (uK _ _);rw[cK]at i;rw[<-m7 (a':=a') fE]at dr;rw[<-m7 (a':=a') fu]at es;refine me<|LU<|nJ y2<|i8 (pJ dr)<|i8 (pJ es)<|pI ?_;refine om (λ(_:Unit)=>(aQ,#[a' B],0,1,DB st)) (λw=>st) (λk w=>k=0) (λG=>(W<|dU a' b_,G)) (λw=>st) (λw=>True) () (λw w w w=>?_) U (λw G=>absurd (NP.mp G).2<|q' aO) λw w=>e3 c;refine om (λ(f:List Nat×Nat×Nat×Nat×Nat)=>(aQ,dU a' f.1,f.2.1,f.2.2.1,f.2.2.2.1,f.2.2.2.2)) (λw=>st) (λk f=>FW lt fu fE ((dU a' fu).size+(dU a' fE).size-k) f.1 f.2.1 f.2.2.1 f.2.2.2.1 f.2.2.2.2=W b_) (λG=>(W<|dU a' b_,G)) (λw=>st) (λw=>True) ([B],0,1,0,0) (λk f ap e=>?_) i (λf e=>?_) λw w=>e3 ⟨_,U,U,trivial⟩
 .rw[pK ap]at e;obtain⟨b,Cf,e⟩:=gT e;obtain⟨h,dL,e⟩:=gT e;refine nJ Cf<|nJ dL<|LW aI aS (λaz=>nJ Cf ?_) λaz=>nJ dL ?_
  .refine hV (td az e) (λaf e=>m8 ((m7 (a':=a') fE).symm▸af)<|e3 ⟨_,congrArg (λo=>(W o,_))<|(UE _ _ _ _ _ _).trans<|congrArg (dU a')<|d4 e,U,trivial⟩) λaf e=>hV e (λw G=>nomatch G) λg3 e=>i8 ((m7 (a':=a') fE).symm▸pJ af)<|i8 (aK.symm▸nK g3)<|e3 ⟨(f.1++[b],f.2.1,f.2.2.1+1,0,f.2.2.2.2+1),congrArg (λo=>(aQ,o,_))<|yX _ _,U,e⟩
  .refine hV (te az e) (λaf e=>m8 ((m7 (a':=a') fu).symm▸af)<|e3 ⟨_,congrArg (λo=>(W o,_))<|(UE _ _ _ _ _ _).trans<|congrArg (dU a')<|d4 e,U,trivial⟩) λaf e=>hV e (λw G=>nomatch G) λg3 e=>i8 ((m7 (a':=a') fu).symm▸pJ af)<|i8 (aK.symm▸nK g3)<|e3 ⟨(f.1++[h],f.2.1+1,f.2.2.1,f.2.2.2.1+1,0),congrArg (λo=>(aQ,o,_))<|yX _ _,U,e⟩
 .rw[pL<|eJ _]at e;exact nomatch e
theorem ag0(co:p=dU a' fu)(oa:aU=dU a' fE)(aI:o3 aT q a bI a' lt)(aS:kindOf st=bI)(aK:DB st=7)(i:UC lt fu fE=W b_)(c:wpS aT q as a (I<|dU a' b_) C st):wpS aT q as a (agX p aU>>=I) C st:=by
 subst co oa;obtain⟨B,y2,i⟩:=gT i;refine hV i (λw G=>nomatch G) λdr i=>hV i (λw G=>nomatch G) λes i=>?_;have cK:fu.length+fE.length=(dU a' fu).size+(dU a' fE).size:=(m7 (a':=a') fu).symm▸(m7 (a':=a') fE).symm▸U;have aO:0<(dU a' fu).size+(dU a' fE).size:=cK▸cw (mG (eJ _)<|UG y2) (iw _ _);rw[cK]at i;rw[<-m7 (a':=a') fE]at es i;rw[<-m7 (a':=a') fu]at dr y2 i;refine me<|LU<|nJ y2<|i8 (pJ dr)<|i8 (pJ es)<|pI ?_;refine om (λ(_:Unit)=>(aQ,(dU a' fu).size-1,(dU a' fE).size,#[a' B],DB st)) (λw=>st) (λk w=>k=0) (λG=>(W<|dU a' b_,G)) (λw=>st) (λw=>True) () (λw w w w=>?_) U (λw G=>absurd (NP.mp G).2<|q' aO) λw w=>e3 c;refine om (λ(f:List Nat×Nat×Nat×Nat×Nat)=>(aQ,f.2.1,f.2.2.1,dU a' f.1,f.2.2.2.1,f.2.2.2.2)) (λw=>st) (λk f=>FX lt fu fE ((dU a' fu).size+(dU a' fE).size-k) f.1 f.2.1 f.2.2.1 f.2.2.2.1 f.2.2.2.2=W b_) (λG=>(W<|dU a' b_,G)) (λw=>st) (λw=>True) ([B],(dU a' fu).size-1,(dU a' fE).size,0,0) (λk f ap e=>?_) i (λf e=>?_) λw w=>e3 ⟨_,U,U,trivial⟩
 .rw[pK ap]at e;obtain⟨b,Cf,e⟩:=gT e;obtain⟨h,dL,e⟩:=gT e;refine nJ Cf<|nJ dL<|LW aI aS (λaz=>nJ dL ?_) λaz=>nJ Cf ?_
  .refine hV (td az e) (λaf e=>m8 af<|e3 ⟨_,congrArg (λo=>(W o,_))<|(UF _ _ _ _ _ _).trans<|congrArg (dU a')<|d4 e,U,trivial⟩) λaf e=>hV e (λw G=>nomatch G) λg3 e=>i8 (pJ af)<|i8 (aK.symm▸nK g3)<|e3 ⟨(f.1++[h],f.2.1-1,f.2.2.1,f.2.2.2.1+1,0),congrArg (λo=>(aQ,_,_,o,_))<|yX _ _,U,e⟩
  .refine hV (te az e) (λaf e=>m8 af<|e3 ⟨_,congrArg (λo=>(W o,_))<|(UF _ _ _ _ _ _).trans<|congrArg (dU a')<|d4 e,U,trivial⟩) λaf e=>hV e (λw G=>nomatch G) λg3 e=>i8 (pJ af)<|i8 (aK.symm▸nK g3)<|e3 ⟨(f.1++[b],f.2.1,f.2.2.1-1,0,f.2.2.2.2+1),congrArg (λo=>(aQ,_,_,o,_))<|yX _ _,U,e⟩
 .rw[pL<|eJ _]at e;exact nomatch e
end
end
section
section
variable{aT:Model}{q:bY}{as:al->ag->Prop}{a:ag}{bI:p0}{a':Nat->lb}{lt:Nat->Nat->Bool}{k f8 tf wp:Nat}{cE:Type}{r bn:List Nat}{fe:Array<|Nat×Nat×Nat}{y:List Nat×Array (Nat×Nat×Nat)}
noncomputable def L2(un:Nat):List Nat->Nat->List Nat->List Nat|[],_,r=>r|f::aA,l,r=>L2 un aA (l+1)<|r.set (un+l) f
theorem UH(un:Nat):∀(aA:List Nat)(l:Nat)(r:List Nat),((aA.map a').zipIdx l).foldl (λh e=>h.setIfInBounds (un+e.2) e.1) (dU a' r)=dU a' (L2 un aA l r)
 |[],_,_=>U|f::aA,l,r=>by
  have i:(dU a' r).setIfInBounds (un+l) (a' f)=dU a' (r.set (un+l) f):=by unfold dU;exact V (List.setIfInBounds_toArray ..)<|V Hz U
  refine V iz<|V N2<|V Dn<|V i ?_;exact UH un aA (l+1) _
noncomputable def L3(lt:Nat->Nat->Bool)(r:List Nat)(fe:Array<|Nat×Nat×Nat)(k:Nat):Option (List Nat×Array (Nat×Nat×Nat)):=(fe[k]?).bind λh=>(fe[k+1]?).bind λb=>(r[b.1]?).bind λFe=>(L1 lt a1 Fe r h.1 h.2.1 0).bind λl=>bif h.2.1-l==0 then aQ else(r[h.1+l+(h.2.1-l)-1]?).bind λiJ=>(L1 lt Z iJ r b.1 b.2.1<|b.2.1-1).bind λg0=>bif g0==0 then aQ else(bif hY (h.2.1-l) g0 then UB lt ((r.take b.1).drop<|h.1+l) ((r.take<|b.1+g0).drop b.1)else UC lt ((r.take b.1).drop<|h.1+l)<|(r.take<|b.1+g0).drop b.1).bind λaA=>W (L2 (h.1+l) aA 0 r,(fe.setIfInBounds k (h.1,h.2.1+b.2.1,h.2.2)).eraseIdxIfInBounds<|k+1)
theorem ag1{I:PUnit->StateT eW Sem cE}{f st:eW}{C:cE->eW->Prop}(c:wpS aT q as a (I ⟨⟩) C f):wpS aT q as a ((set f:StateT eW Sem PUnit)>>=I) C st:=by refine me ?_;unfold wpS;refine V (StateT.run_set ..) ?_;exact cN ⟨U,c⟩
theorem UI{I:Bool->StateT eW Sem cE}{C:cE->eW->Prop}(aI:o3 aT q a bI a' lt)(i:L3 lt r fe k=W y)(c:wpS aT q as a (I Z) C<|hm bI a' y.1 y.2):wpS aT q as a (mergeAt' k>>=I) C (hm bI a' r fe):=by obtain⟨h,ag2,i⟩:=gT i;obtain⟨b,c1,i⟩:=gT i;obtain⟨Fe,ag3,i⟩:=gT i;obtain⟨l,L4,i⟩:=gT i;refine hV i (λw G=>nomatch G) λab i=>?_;obtain⟨iJ,ag4,i⟩:=gT i;obtain⟨g0,ag5,i⟩:=gT i;refine hV i (λw G=>nomatch G) λa8 i=>?_;obtain⟨aA,Cg,i⟩:=gT i;have i:=d4 i;subst i;refine me<|pI ?_;refine V (show(ri<|hm bI a' r fe)[k]?=W h from ag2)<|V (show(ri<|hm bI a' r fe)[k+1]?=W b from c1) ?_;refine ag1<|nJ ag3<|UA aI U L4<|i8 (pJ ab)<|nJ ag4<|UA aI U ag5<|i8 (pJ a8) ?_;have cF:=Eq.mpr (congrArg (λG=>wpS aT q as a (I Z) C<|H6 bI G ((fe.setIfInBounds k (h.1,h.2.1+b.2.1,h.2.2)).eraseIdxIfInBounds<|k+1) 7 aQ)<|UH (a':=a') (h.1+l) aA 0 r) c;exact hV Cg (λaz Cg=>m8 (on az)<|agZ (wt ..) (wt ..) aI U U Cg<|B_<|pI<|e3 cF) λaz Cg=>i8 (nK az)<|ag0 (wt ..) (wt ..) aI U U Cg<|B_<|pI<|e3 cF
end
end
section
section
variable{aT:Model}{q:bY}{as:al->ag->Prop}{a:ag}{bI:p0}{a':Nat->lb}{lt:Nat->Nat->Bool}{k f8 tf wp:Nat}{cE:Type}{r bn:List Nat}{fe:Array<|Nat×Nat×Nat}{y:List Nat×Array (Nat×Nat×Nat)}
noncomputable def L5(lt:Nat->Nat->Bool)(wp:Nat):Nat->List Nat×Array (Nat×Nat×Nat)->Option (List Nat×Array (Nat×Nat×Nat))|0,f=>W f|I+1,f=>(if f.2.size>1 then f.2[f.2.size-2]? else aQ).elim (W f) λo=>bif hY o.2.2 wp then W f else(L3 lt f.1 f.2<|f.2.size-2).bind λy=>L5 lt wp I y
noncomputable def UJ(lt:Nat->Nat->Bool)(f8 t:Nat)(f:List Nat×Array (Nat×Nat×Nat)):Option (List Nat×Array (Nat×Nat×Nat)):=f.2.back?.elim (W f) λo=>(L5 lt (power' f8 (2*o.1+o.2.1) (2*o.1+o.2.1+o.2.1+t) f8) f8 f).bind λy=>W (y.1,y.2.modify (y.2.size-1) λf=>(f.1,f.2.1,power' f8 (2*o.1+o.2.1) (2*o.1+o.2.1+o.2.1+t) f8))
noncomputable def ag8(lt:Nat->Nat->Bool)(f8 tf lo t:Nat)(r:List Nat):Option (Nat×List Nat):=bif ma t tf then bif hY (max t 1) (min (f8-lo) tf)then(FV lt lo (min (f8-lo) tf-max t 1) (max t 1) r).bind λe=>W (min (f8-lo) tf,e)else aQ else W (t,r)
noncomputable def FY(lt:Nat->Nat->Bool)(f8 tf:Nat):Nat->Nat->List Nat×Array (Nat×Nat×Nat)->Option (List Nat×Array (Nat×Nat×Nat))|0,_,f=>W f|I+1,lo,f=>bif hY f8 lo then W f else(Uy lt f.1 lo<|f8-lo).bind λt=>(ag8 lt f8 tf lo t f.1).bind λe=>(UJ lt f8 e.1 (e.2,f.2)).bind λy=>FY lt f8 tf I (lo+e.1) (y.1,y.2.push (lo,e.1,0))
noncomputable def endAt(fe:Array<|Nat×Nat×Nat):Nat:=if((if fe.size-2>0 then fe[fe.size-2-1]?.map (·.2.1)else aQ).any (·<(fe[fe.size-2+1]?.elim 0 (·.2.1))))=Z then fe.size-2-1 else fe.size-2
noncomputable def L6(lt:Nat->Nat->Bool):Nat->List Nat×Array (Nat×Nat×Nat)->Option (List Nat)|0,f=>W f.1|I+1,f=>bif hY f.2.size 1 then W f.1 else(L3 lt f.1 f.2<|endAt f.2).bind λy=>L6 lt I y
noncomputable def uo(lt:Nat->Nat->Bool)(f8:Nat)(r:List Nat):Option (List Nat):=(FY lt f8 (minRun' f8 f8 0) f8 0 (r,#[])).bind λy=>L6 lt f8 y
noncomputable def m9(bI:p0)(a':Nat->lb)(f:List Nat×Array (Nat×Nat×Nat)):SortSt:=hm bI a' f.1 f.2
theorem UK{bf pH:Type}{o:Option bf}{h:pH}{I:bf->pH}{y:pH}{ak:Prop}(e:o.elim h I=y)(af:o=aQ->h=y->ak)(ap:∀f,o=W f->I f=y->ak):ak:=by cases o with|none=>exact af U e|some f=>exact ap f U e
theorem ag9{bf:Type}{d9:Nat->StateT eW Sem bf}{C:bf->eW->Prop}{H:Nat->List Nat->Prop}{c6:Prop}(l:(∀t e,H t e->wpS aT q as a (d9 t) C (hm bI a' e fe))->c6)(E:∀t e,H t e->wpS aT q as a (d9 t) C (hm bI a' e fe)):c6:=l E
theorem ag_{C:Unit->eW->Prop}(aI:o3 aT q a bI a' lt)(L:r.length=f8)(i:uo lt f8 r=W bn)(c:∀fe,C ()<|hm bI a' bn fe):wpS aT q as a sortRuns' C (hm bI a' r #[]):=by
 obtain⟨rP,bG,cr⟩:=gT i;refine V sortRuns'_eq ?_;refine pI ?_;refine V (show(arrOf<|hm bI a' r #[]).size=f8 from(m7 r).trans L) ?_;refine om (λ(f:Nat×List Nat×Array (Nat×Nat×Nat))=>(aQ,f.1)) (λ(f:Nat×List Nat×Array (Nat×Nat×Nat))=>m9 bI a' f.2) (λk f=>FY lt f8 (minRun' f8 f8 0) (f8-k) f.1 f.2=W rP) (λG=>(aQ,G)) (λw=>m9 bI a' rP) (λw=>True) (0,r,#[]) (λk f ap B=>?_) bG (λf B=>?_) λw w=>?_
 .rw[pK ap]at B;refine hV B (λm B=>m8 (on m)<|e3 ⟨f.1,U,congrArg (m9 bI a')<|d4 B,trivial⟩) λm B=>i8 (nK m) ?_;apply ag9 (aT:=aT) (q:=q) (as:=as) (a:=a) (bI:=bI) (a':=a') (H:=λt e=>∃y,UJ lt f8 t (e,f.2.2)=W y/\FY lt f8 (minRun' f8 f8 0) (f8-(k+1)) (f.1+t) (y.1,y.2.push (f.1,t,0))=W rP) (fe:=f.2.2)
  .intro UL;obtain⟨ag',aha,B⟩:=gT B;refine agR aI (NN<|Hc<|nK m) aha ?_;obtain⟨e,tg,B⟩:=gT B;obtain⟨y,r1,B⟩:=gT B;refine hV tg (λbt tg=>m8 (on bt)<|LU ?_) λbt tg=>i8 (nK bt)<|pI ?_
   rotate_left
   .have tg:=d4 tg;subst tg;exact UL ag' f.2.1 ⟨y,r1,B⟩
   refine hV tg (λay tg=>?_) λw G=>nomatch G;obtain⟨ahb,L7,G⟩:=gT tg;have G:=d4 G;subst G;exact agU aI (on ay) L7<|pI<|UL _ ahb ⟨y,r1,B⟩
  .intro t e c;obtain⟨y,r1,B⟩:=c;refine UK r1 (λa5 r1=>?_) λo a5 r1=>?_
   .have r1:=d4 r1;subst r1;refine V (show(ri<|hm bI a' _ f.2.2).back?=aQ from a5) ?_;exact B_<|e3 ⟨(_,_,_),U,U,B⟩
   .obtain⟨fV,L8,G⟩:=gT r1;have G:=d4 G;subst G;refine V (show(ri<|hm bI a' _ f.2.2).back?=W o from a5) ?_;refine om (λw=>(aQ,())) (m9 bI a') (λk f=>L5 lt _ (f8-k) f=W fV) (λ(_:Unit)=>(aQ,())) (λw=>m9 bI a' fV) (λw=>True) (_,_) (λk f ap B=>?_) L8 (λf B=>?_) λw w=>B_<|B_<|e3 ⟨(_,_,_),U,U,B⟩
    .rw[pK ap]at B;refine pI<|UK B (λbS B=>?_) λo bS B=>?_
     .dsimp only;refine V (show(if(ri<|m9 bI a' f).size>1 then(ri<|m9 bI a' f)[(ri<|m9 bI a' f).size-2]? else aQ)=aQ from bS) ?_;exact e3 ⟨(),U,congrArg (m9 bI a')<|d4 B,trivial⟩
     .dsimp only;refine V (show(if(ri<|m9 bI a' f).size>1 then(ri<|m9 bI a' f)[(ri<|m9 bI a' f).size-2]? else aQ)=W o from bS) ?_;refine hV B (λaM B=>m8 (on aM)<|e3 ⟨(),U,congrArg (m9 bI a')<|d4 B,trivial⟩) λaM B=>i8 (nK aM) ?_;obtain⟨L9,ahc,ahd⟩:=gT B;exact UI aI ahc<|e3 ⟨L9,U,U,ahd⟩
    .rw[pL<|eJ _]at B;exact⟨(),U,congrArg (m9 bI a')<|d4 B,trivial⟩
 .rw[pL<|eJ _]at B;exact⟨f.1,U,congrArg (m9 bI a')<|d4 B,trivial⟩
 .refine om (λw=>(aQ,())) (m9 bI a') (λk f=>L6 lt (f8-k) f=W bn) (λ(_:Array<|Nat×Nat×Nat)=>(aQ,())) (λz=>hm bI a' bn z) (λw=>True) rP (λk f ap B=>?_) cr (λf B=>?_) λz w=>e3<|c z
  .rw[pK ap]at B;refine pI<|hV B (λm B=>m8 (on m)<|e3 ⟨f.2,U,congrArg (λe=>hm bI a' e f.2)<|d4 B,trivial⟩) λm B=>i8 (nK m) ?_;obtain⟨y,L7,L8⟩:=gT B;exact UI aI L7<|e3 ⟨y,U,U,L8⟩
  .rw[pL<|eJ _]at B;exact⟨f.2,U,congrArg (λe=>hm bI a' e f.2)<|d4 B,trivial⟩
end
end
section
noncomputable def o4:List Int->List Int->Bool|h::ec,b::aG=>bif h==b then o4 ec aG else decide<|h<b|[],aG=>decide<|0<aG.length|_::_,[]=>a1
noncomputable def k1(bR:List Int):bh:=.tup<|bR.map .int
section
variable{prog:cl}{j:b7}{q:bY}{a:ag}{lt:Nat->Nat->Bool}{c:eH}{p:List aq}
theorem UM{b:Bool}{C:Bool->ag->Prop}{g':Bool}:∀(ec aG:List Int)(aH b5:List al)(k:Nat),bW c p (ec.map .int) aH->bW c p (aG.map .int) b5->ec.length=aG.length->g'=a1->C (o4 ec aG) a->KatLex prog j q b g' C (aH.zip b5) k a|[],aG,aH,b5,k,FZ,L_,aI,bg,a5=>by have m:aG=[]:=Hy.mp aI.symm;subst m;have bG:aH=[]:=FZ;subst bG;refine V List.zip_nil_left ?_;exact kat_nil<|bg▸a5|h::ec,[],aH,b5,k,FZ,L_,aI,bg,a5=>nomatch aI|h::ec,A0::aG,aH,b5,k,FZ,L_,aI,bg,a5=>by obtain⟨g,aR,rfl,et,fn⟩:=FZ;obtain⟨be,pw,rfl,F0,ahe⟩:=L_;obtain⟨E,rfl⟩:=et;obtain⟨eR,rfl⟩:=F0;refine V N5 ?_;refine kat_cons<|wpAny_eqBool_int ?_;unfold o4 at a5;cases az:h==A0 with|true=>replace a5:=az▸a5;exact kat_yes<|UM ec aG aR pw (k+1) fn ahe (uW aI) bg a5|false=>replace a5:=az▸a5;refine kat_no ?_;cases b&&k==0 with|true=>exact oneLt_int a5|false=>exact kat_one _ _<|lt_int a5
noncomputable def lH(O:List al)(k:Nat):Keyed:=(O.getD k<|O.headD .none,O.getD k<|O.headD .none)
theorem ahf(O:List al):O.toArray.zip O.toArray=((c2 O.length).map<|lH O).toArray:=by
 apply OD.mp;refine V Array.toList_zip ?_;apply uO;intro k;simp only[Oa,fk];by_cases ac:k<O.length
 .refine V (mJ ac) ?_;simp[lH,Ob,Oc,fG ac]
 .simp[Ob,Oc,oA<|q_ ac,ac]
theorem ahg{h:aq}{O:List al}{bI:p0}{t:Nat}{bn:List Nat}{as:al->ag->Prop}{H:C5->ag->Prop}(aP:a.heap.get? h=W (lc "list" O.toArray t))(ap:2<=O.length)(ab:bn.length<=2^20)(kC:O.length<=2^20)(aS:∀(v:ag)(C:p0->ag->Prop),(∀b o,b≠h->a.heap.get? b=W o->v.heap.get? b=W o)->C bI v->b9 (cq prog j) q (keyKind' O.toArray) C as v)(aI:∀v:ag,(∀b o,b≠h->a.heap.get? b=W o->v.heap.get? b=W o)->o3 (cq prog j) q v bI (lH O) lt)(i:uo lt O.length (c2 O.length)=W bn)(c:H (.done<|.ret .none) {a with heap:=sortedHeap a.heap h O (bn.map λk=>(lH O k).2).toArray}):b9 (cq prog j) q (WL ⟨[.ref h],[]⟩) H as a:=by
 refine V (list_sort_plain ..) ?_;have a7:h<a.heap.objs.size:=dB aP;refine bj<|listItems_at aP U ?_;have qP:O.toArray.size<=sizeLine:=by refine V xc<|V C7 ?_;exact cy (.l .x<|.n 16777216) [.l .x<|.n 1048576] U kC
 refine bj<|listUpdate_at aP U ?_ qP<|eJ _;obtain⟨bG,y3⟩:∃bG,(a.heap.update h<|jB λw=>#[]).get? h=W (lc "list" #[] bG):=⟨_,get?_update_seq aP λw=>#[]⟩;refine bj<|seqEpoch_at y3 U ?_;refine bj<|zE ?_ qP;refine bj<|wpAny_newList ?_<|eJ _;refine k5 ?_;have UN:(((a.heap.update h<|jB λw=>#[]).push<|lc "tuple" O.toArray 0).push<|lc "list" #[] 0).get? h=W (lc "list" #[] bG):=by refine V (Dv _ _ _ (by rw[size_push',tC];exact gD<|mE a7))<|V (Dv _ _ _ (by rw[tC];exact gD a7)) ?_;exact y3
 have qi:∀b o,b≠h->a.heap.get? b=W o->(((a.heap.update h<|jB λw=>#[]).push<|lc "tuple" O.toArray 0).push<|lc "list" #[] 0).get? b=W o:=λb o m e=>by refine eD _<|eD _ ?_;refine V (OI _ _ _ _ m) ?_;exact e
 show b9 (cq prog j) q _ H as {a with heap:=((a.heap.update h<|jB λw=>#[]).push<|lc "tuple" O.toArray 0).push<|lc "list" #[] 0}
 dsimp only;have wu:¬O.toArray.size<2:=by simpa using ap
 refine V (if_neg wu)<|V (if_neg wu) ?_;refine bj<|aS _ _ qi ?_;refine V (ahf ..) ?_;refine bj<|q8 (ag_ (as:=as) (r:=c2 O.length) (C:=λw kR=>∃fe,kR=hm bI (lH O) bn fe) (aI _ qi) oz i λfe=>⟨fe,U⟩) ?_ λw w i=>i;rintro⟨⟨⟩,kR⟩v⟨rfl,fe,f4⟩
 dsimp only at f4;refine V f4 ?_
 dsimp only;refine bj<|seqEpoch_at UN U ?_;refine bj<|listUpdate_at UN U ?_ (hsz2:=by show((dU (lH O) bn).map _).size<=_;refine V Array.size_map<|V (m7 ..)<|V C7 ?_;exact cy (.l .x<|.o<|.n 16777216) [.l .x<|.n 1048576] U ab);refine V (show failedOf (hm bI (lH O) bn fe)=aQ from U) ?_;simp only[bne_self_eq_false,CN,if_false];refine cN ?_;have mx:(arrOf<|hm bI (lH O) bn fe).map (·.2)=(bn.map λk=>(lH O k).2).toArray:=by show((bn.map<|lH O).toArray).map _=_;simp
 refine V mx ?_;exact c
end
end
section
section
variable{prog:cl}{j:b7}{q:bY}{a:ag}{lt:Nat->Nat->Bool}{p:List aq}{bI:p0}
theorem ahh{D:aq}{O:List al}{bn:List Nat}{C:al->ag->Prop}(aI:a.heap.IsList D O.toArray)(ap:2<=O.length)(ab:bn.length<=2^20)(kC:O.length<=2^20)(aS:∀(q:bY)(v:ag)(as:al->ag->Prop)(C:p0->ag->Prop),(∀b o,a.heap.get? b=W o->v.heap.get? b=W o)->C bI v->b9 (cq prog j) q (keyKind' O.toArray) C as v)(cP:∀(q:bY)(v:ag),(∀b o,a.heap.get? b=W o->v.heap.get? b=W o)->o3 (cq prog j) q v bI (lH O) lt)(i:uo lt O.length (c2 O.length)=W bn)(c:C (.ref<|a.heap.objs.size+1) {a with heap:=Af a.heap O (bn.map λk=>(lH O k).2).toArray}):Y prog j q (er (.builtin "sorted") [.ref D] []) C a:=Y.of (by
 refine Calls.call_function_entry kind_sorted plain_sorted entry_sorted (args_sorted1 _) ?_;unfold tq.«sorted»;refine bj (m:=checkCount "sorted" 1 1 _)<|cN ?_;have qP:O.length<=sizeLine:=by refine V C7 ?_;exact cy (.l .x<|.n 16777216) [.l .x<|.n 1048576] U kC
 refine bj<|collect_list aI ?_ qP;refine bj<|wpAny_newList ?_ qP;have dW:((a.heap.push<|lc "list" #[] 0).update a.heap.objs.size (jB (·++O.toArray))).objs.size=a.heap.objs.size+1:=by exact V (tC ..)<|V (size_push' ..) U
 have UO:(((a.heap.push<|lc "list" #[] 0).update a.heap.objs.size (jB (·++O.toArray))).push<|lc "list" O.toArray 0).get? (a.heap.objs.size+1)=W (lc "list" O.toArray 0):=by refine b' dW ?_;exact fc _ U
 have qi:∀b o,a.heap.get? b=W o->b≠a.heap.objs.size+1/\(((a.heap.push<|lc "list" #[] 0).update a.heap.objs.size (jB (·++O.toArray))).push<|lc "list" O.toArray 0).get? b=W o:=λb o e=>by have cP:b<a.heap.objs.size:=dB e;refine⟨gD<|mE cP,?_⟩;refine V (Dv _ _ _<|V dW<|gD<|mE cP)<|V (OI _ _ _ _<|gD cP)<|V (Dv _ _ _<|gD cP) ?_;exact e
 show b9 _ _ _ _ _ {a with heap:=((a.heap.push<|lc "list" #[] 0).update a.heap.objs.size (jB (·++O.toArray))).push<|lc "list" O.toArray 0};refine V dW ?_;refine ko (k7 slot_list_sort ⟨_,UO,U⟩ entry_list_sort (ahg (bI:=bI) (lt:=lt) (bn:=bn) (a:={a with heap:=((a.heap.push<|lc "list" #[] 0).update a.heap.objs.size (jB (·++O.toArray))).push<|lc "list" O.toArray 0}) UO ap ab kC (λv C l a5=>aS _ v _ C (λb o e=>l b o (qi b o e).1 (qi b o e).2) a5) (λv l=>cP _ v λb o e=>l b o (qi b o e).1 (qi b o e).2) i ⟨_,U,?_⟩)<|args_list_sort _);exact cN ⟨_,U,c⟩)
theorem ahi(c:eH)(O:List al)(lw:Array al):c.objs.size<=(Af c O lw).objs.size:=by unfold Af sortedHeap;simp only[tC,size_push'];exact cy (.l .x<|.o<|.o<|.o<|.o .x) [] U
theorem UP{c:eH}:∀{K:List<|List Int}{O:List al},(∀l∈K,l≠[])->bW c p (K.map k1) O->∃mO,KatTups c O mO/\mO.length=O.length/\∀I∈mO,∃t E,I=.int t E|[],O,_,y=>by have y:O=[]:=y;subst y;exact⟨[],KatTups.nil,U,aW⟩|l::K,O,aS,y=>by obtain⟨g,aR,rfl,et,fn⟩:=y;obtain⟨mO,E,aI,bg⟩:=UP (λl e=>aS l<|mt e) fn;obtain⟨h,fz,t,rfl,_,aK,ahj⟩:=et;cases l with|nil=>exact absurd U<|aS _ bz|cons f l=>
   obtain⟨g,pw,e4,⟨eR,rfl⟩,_⟩:=ahj;refine⟨.int f eR::mO,KatTups.cons aK U U (by refine b' (Array.getElem?_toList)<|V e4 ?_;rfl) E,by simp[aI],?_⟩;intro I ahk;rcases fR.mp ahk with rfl|e
   .exact⟨f,eR,U⟩
   .exact bg I e
theorem L'{c:eH}{K:List<|List Int}{fz:List al}(y:bW c p (K.map k1) fz)(aO:0<K.length)(k:Nat):cf c p (k1<|K.getD k<|K.headD []) (lH fz k).1/\K.getD k (K.headD [])∈K:=by
 have aI:fz.length=K.length:=by have:=y.length;simpa using this
 cases K with
 |nil=>exact absurd aO<|h' 0|cons l K=>
  obtain⟨g,aR,rfl,et,fn⟩:=id y;by_cases ac:k<(l::K).length
  .have gp:k<(g::aR).length:=aI▸ac;obtain⟨u,bG,cr⟩:=bW.get (k:=k) y (by refine V (fk)<|V (fG ac) ?_;rfl);have eE:(lH (g::aR) k).1=u:=by show(g::aR).getD k _=u;refine V (fK)<|V bG ?_;rfl
   have hE:(l::K).getD k ((l::K).headD [])=(l::K)[k]:=by refine V (fK)<|V (fG ac) ?_;rfl
   refine V eE<|V hE ?_;exact⟨cr,sg ac⟩
  .have eE:(lH (g::aR) k).1=g:=by show(g::aR).getD k _=g;refine V (fK)<|V (oA<|V aI<|q_ ac) ?_;rfl
   have hE:(l::K).getD k ((l::K).headD [])=l:=by refine V (fK)<|V (oA<|q_ ac) ?_;rfl
   refine V eE<|V hE ?_;exact⟨et,bz⟩
end
theorem ae.sorted{g:dw}{z:Nat}{Q:c4}{A:b0}{i:bB}{l:ha}{K:List<|List Int}{lt:Nat->Nat->Bool}{aA:Nat}{bn:List Nat}{di aj:Pos}(az:g.Ok)(c:ae g z Q A i l<|.lst<|K.map k1)(bt:∀bR∈K,bR.length=aA+1)(ap:2<=K.length)(ab:K.length<=2^20)(kC:bn.length<=2^20)(cP:∀k aD,o4 (K.getD k<|K.headD []) (K.getD aD<|K.headD [])=lt k aD)(aB:uo lt K.length (c2 K.length)=W bn)(aK:g.gl "sorted"=W (.builtin "sorted"))(R:eA Q "sorted"=Z:=by cbv)(ay:d0 i=Z:=by rfl):ae g z Q A (.Call (.Name "sorted" di) [i] [] aj) .fr (.lst<|bn.map λk=>k1<|K.getD k<|K.headD []):=λq n p N aF S ax L M=>by
 subst L;refine kO M.ok (hB az M aK R) U (hN ay M.ok (c q n p N aF S ax U M) e'.iB iY) ?_ (by simp[ay]);rintro a aR aZ⟨fM,y,rfl,jL,rfl⟩C ah;obtain⟨D,O,t,rfl,aI,av⟩:=jL.kg;have cL:O.toList.length=K.length:=by have:=av.length;simpa using this
 have aO:0<K.length:=cw Nat.zero_lt_two ap;have c9:∀bR∈K,bR≠[]:=λbR aS e=>by have:=bt bR aS;replace this:=e▸this;exact nomatch this
 obtain⟨mO,bC,F1,bg⟩:=UP c9 av;have ahl:∀{aa:eH}{fz mO:List al},(∀b o,a.heap.get? b=W o->aa.get? b=W o)->KatTups a.heap fz mO->KatTups aa fz mO:=λ{aa}{fz}=>by induction fz with
  |nil=>intro mO l E;cases mO with
   |nil=>exact trivial|cons _ _=>exact E.elim
  |cons aN fz a2=>intro mO l E;cases mO with|nil=>exact E.elim|cons I mO=>obtain⟨⟨h,o,aH,t,bG,cr,eE,hE,sN⟩,E⟩:=E;exact⟨⟨h,o,aH,t,bG,l _ _ cr,eE,hE,sN⟩,a2 l E⟩
 refine ahh (bI:=tuples'<|kJ "int"!=kJ "tuple") (lt:=lt) (O:=O.toList) (bn:=bn) (show a.heap.IsList D O.toList.toArray from⟨_,aI,U,t,by exact V HP U⟩) (cL▸ap) kC (cL▸ab) ?_ ?_ (cL▸aB) ?_
 .intro q v as C l a5;exact kat_kind (ahl l bC) (by refine V F1<|V cL ?_;exact aO) (λu aM=>by obtain⟨t,E,rfl⟩:=bg u aM;exact Looks.now) (by rfl) a5
 .intro q v l k aD as C a5;have ahm:=L' av aO aD;obtain⟨⟨h,fz,t,bG,_,vk,et⟩,bm⟩:=(L' av aO k);obtain⟨⟨fg,amX,s5,ahn,_,aho,F0⟩,UQ⟩:=ahm;refine V bG<|V ahn ?_;have ig:=et.length;have j9:=F0.length;rw[d3,bt _ bm,Du]at ig;rw[d3,bt _ UQ,Du]at j9;exact kat_lt (l _ _ vk) U (l _ _ aho) U<|UM _ _ _ _ 0 et F0 ((bt _ bm).trans (bt _ UQ).symm) (decide_eq_false (by refine V ig<|V j9 ?_;exact h' _))<|cP k aD▸a5
 .obtain⟨ck,bp⟩:=sortedAll_at a.heap O.toList (bn.map λk=>(lH O.toList k).2).toArray;refine ah _ _ (bJ.heap (x:=a.toks) (λb o w i=>sortedAll_old i)<|ahi ..) ⟨_,U,w7 aZ.1,_,ck,bp,?_⟩;have l:∀b o,b∉p->a.heap.get? b=W o->(Af a.heap O.toList (bn.map λk=>(lH O.toList k).2).toArray).get? b=W o/\b∉(a.heap.objs.size+1)::p:=λb o m i=>⟨sortedAll_old i,λe=>dH e (λG=>gD (mE<|dB i) G) m⟩;show bW _ _ _<|bn.map λk=>(lH O.toList k).2;clear aB kC bp ah
  revert l;generalize(Af a.heap O.toList (bn.map λk=>(lH O.toList k).2).toArray)=cJ;intro l;induction bn with|nil=>show bW _ _ [] [];exact U|cons k bn a2=>exact⟨_,_,U,cf.to l _ _ (L' av aO k).1,a2⟩
end
section
noncomputable def UR:ez->List ez|.For bL dQ b lp xI=>b|_=>[]
noncomputable def US:List Stmt:=UR<|((gC<|cj ao 18)[7]?).getD<|.Pass default
noncomputable def UT:List Stmt:=UR<|(US[3]?).getD<|.Pass default
section
variable{g:dw}{z:Nat}{Q:c4}{A:b0}{eS f7:bB}{aj:Pos}{aw:List Int}{k:Int}
theorem ae.RQ(bo:ae g z Q A eS .b2<|.tup<|aw.map .int)(bE:dd g z Q A f7 k)(aO:0<=k)(R:k.toNat<aw.length)(ab:aw.length<=cI)(ac:n2 f7=Z:=by rfl):dd g z Q A (.Subscript eS f7 aj) (aw.getD k.toNat 0):=ae.BK bo bE aO (by refine V (fk)<|V (fK)<|V (fG R) ?_;rfl) (by simpa using ab) ac
end
noncomputable def uq:Scope:=fa<|cj ao 18
noncomputable def y4(j:b7)(q:bY)(dL k2 aX dp:Nat)(f':List aq)(aA:Nat)(I:Nat->Int)(aC as:Nat)(aD:Nat)(i9 aB:List bh):Inv:=((hU 1944 1940).both<|wk j q.in1 dL k2 aX (dp::f') [dp] aA aD<|ob I).both<|(m4 aC i9).both<|m4 as aB
noncomputable def y5(ir iu aC as dL:Nat):b0:=[("gen_exp",.f<|cS m1),("gen_log",.f<|.tup<|lB.map .int),("append_error_block",.f<|.gQ [(ir,qW as)]<|.ref ir),("append_data_block",.f<|.gQ [(iu,qW aC)]<|.ref iu),("data_blocks",.f<|.raw<|.ref aC),("error_blocks",.f<|.raw<|.ref as),("codewords",.f<|.raw<|.ref dL)]
noncomputable def th(s:List Int)(lJ:aq)(t1 t2 l2:Tok)(l3 l4 i4:Int)(ir iu aC as dL:Nat):b0:=("range_error_words",.f<|.gQ [(lJ,B3 s.length t1 t2 l2)]<|.ref lJ)::("gen",.f<|.tup<|s.map .int)::("num_error_words",.f<|.int s.length)::("ec_info",.f<|.qP l3 l4 i4)::y5 ir iu aC as dL
noncomputable def y6(c1:List Int)(t:Nat)(ak:b0):b0:=("error_block",.o<|gh c1)::("len_data",.f<|.int t)::ak
theorem ahp:nI s l h8 (t+1) c1=(nI s l h8 t c1).set (l+t+1) (kn ((nI s l h8 t c1).getD (l+t+1) 0)<|m1.getD (h8+s.getD t 0).toNat 0):=rfl
theorem ahq(t:Nat):(m5 t).length=t:=by simp[m5]
variable{j:b7}{aE:ag}{T:Nat->Obj}{x:Nat}{au:fQ}{z:Nat}{s:List Int}{aw:List Int}{lJ:aq}{t1 t2 l2:Tok}{ir iu aC as dL:Nat}{l3 l4 i4:Int}
theorem ahr(aO:dy j aE T x au)(m:gs aw)(aK:B2 s)(ab:aw.length<=1000/\s.length<=100){ca:List ez}{cu:jq->b0->Prop}(c:∀bU,he (y6 (o0 s aw aw.length) aw.length<|th s lJ t1 t2 l2 l3 l4 i4 ir iu aC as dL) bU->bq (a3 j aE T x au) z uq [] bU ca cu){A:b0}(cn:he (y6 (aw++dq s.length 0) aw.length<|th s lJ t1 t2 l2 l3 l4 i4 ir iu aC as dL) A):bq (a3 j aE T x au) z uq [] A (((UT)[5]?).getD (.Pass default)::ca) cu:=by
 have L:cI=2^24:=U;refine bq.le cn ?_;conv=>arg 6;whnf
 refine bq.oU (λl A=>he (y6 (o0 s aw l) aw.length<|th s lJ t1 t2 l2 l3 l4 i4 ir iu aC as dL) A) (λw w=>U) (ar.range (aA:=aw.length) (ug aO) (ar.nm (u:=.int aw.length))<|cy (.t .x<|.n 4611686018427387904) [.l .x<|.n 1000] U ab.1) ?_ ?_ ?_
 .intro l f bU R e5;have aS:l<aw.length:=by simpa[m5]using(k'.mp R).1
  have ahs:f=.int l:=by rw[m5,fk,mJ aS]at R;exact(d4 R).symm
  refine V ahs ?_;obtain⟨hA,fN⟩:=LJ (s:=s) m l;refine⟨ar.t1,bq.le (bU:=("k",.f<|.int l)::y6 (o0 s aw l) aw.length (th s lJ t1 t2 l2 l3 l4 i4 ir iu aC as dL)) ⟨U,e5⟩<|V (LI ..) ?_⟩;generalize o0 s aw l=c1 at hA fN;refine bq.assign (u:=.int<|c1.getD l 0) (dd.cast (ae.OZ (aw:=c1) (k:=l) ar.NB ar.nm (iP _) (rs [1,1,-1,1] (.t .x .y) [.t .z .w,.e .y<|.a .w .u,.eG (.c .x)<|.c .z] U aS fN<|oG<|cy (.b3 (.n 0)<|.c .x) [] U) hA<|ph [1,1,1,-1,1] (.l .x .y) [.l .z<|.n 1000,.l .w<|.n 100,.e .y<|.n 16777216,.e .x<|.a .z .w] U ab.1 ab.2 L fN)<|V (mD ..) U) (by cbv) ?_;have yW:=LG hA l;refine bq.q9 (gA.ne ar.nm ae.cT λw=>U) ?_;cases a5:(c1.getD l 0 !=0)with
  |false=>
   have nn:c1.getD l 0=0:=by simpa using a5
   refine bq.nil<|bq.nil ?_;unfold tc;exact(if_pos nn).symm▸(hD U)|true=>
   have nn:¬c1.getD l 0=0:=by simpa using a5
   have aI:=ags (c1.getD l 0).toNat;refine bq.assign (u:=.int<|lB.getD (c1.getD l 0).toNat 0) (ae.RQ (aw:=lB) ar.nm ar.nm yW.1 (LD.2▸pg (.t .x<|.n 256) [.b_ .x<|.n 256,.eG (.c .x) .x] U yW.2 (oG yW.1))<|LD.2▸uK ..) (by cbv) ?_;unfold tc;refine(if_neg nn).symm▸?_;generalize lB.getD (c1.getD l 0).toNat 0=h8 at aI;refine bq.oU (λt A=>he (("lcoef",.f<|.int h8)::("k",.f<|.int l)::y6 (nI s l h8 t c1) aw.length (th s lJ t1 t2 l2 l3 l4 i4 ir iu aC as dL)) A) (λw w=>U) (fp.afh (t:=s.length) (y:=lJ) (E:=t1) (aN:=t2) (u:=l2) U (by cbv)<|cy (.t .x<|.n 4611686018427387904) [.l .x<|.n 100] U ab.2) ?_ ?_ ?_
   .intro t f nx R mz;obtain⟨ay,rfl⟩:=Rs R;obtain⟨Ma,Mb⟩:=LH (s:=s) (l:=l) (h8:=h8) t hA;have aht:((0:Int)+t*1)=(t:Int):=cy (.eG (.a (.n 0)<|.r (.c .x) 1)<|.c .x) [] U;refine aht.symm▸⟨ar.t1,bq.le (bU:=("n",.f<|.int t)::("lcoef",.f<|.int h8)::("k",.f<|.int l)::y6 (nI s l h8 t c1) aw.length (th s lJ t1 t2 l2 l3 l4 i4 ir iu aC as dL)) ⟨U,mz⟩<|ahp.symm▸?_⟩;generalize nI s l h8 t c1=cr at Ma Mb;have vI:=agt aK t;have bG:((l:Int)+t+1)=((l+t+1:Nat):Int):=by push_cast;rfl
    refine bq.aaU (aw:=cr) (k:=((l+t+1:Nat):Int)) (aN:=m1.getD (h8+s.getD t 0).toNat 0) U (by cbv) (dd.cast (ae.add (ae.add ar.nm ar.nm) ae.cT) bG) (ae.BJ (aw:=m1) ar.nm (ae.add ar.nm<|dd.cast (ae.RQ (aw:=s) ar.nm ar.nm (iP _) (by refine V (mD ..) ?_;exact ay)<|gd [1,1,-1] (.l .x .y) [.l .x<|.n 100,.e .y<|.n 16777216] U ab.2 L)<|V (mD ..) U) (Ih (.b3 (.n 0)<|.a .x .y) [.b3 (.n 0) .x,.b3 (.n 0) .y] U aI.1 vI.1) (by refine V LF.2 ?_;exact DT (.t .x<|.n 510) [.b_ .x<|.n 255,.b_ .y<|.n 255,.eG (.c .x)<|.a .x .y] U aI.2 vI.2<|oG<|Ih (.b3 (.n 0)<|.a .x .y) [.b3 (.n 0) .x,.b3 (.n 0) .y] U aI.1 vI.1) (by refine V LF.2 ?_;exact uK ..)) Ma (iP _) (by refine V (mD ..) ?_;exact Xp [1,1,-1,1,-1] (.t (.o<|.a .x .y) .z) [.t .x .w,.e .u<|.a .w<|.v 5,.t .y<|.v 5,.e .z .u] U aS fN ay Mb) (by refine V (mD ..) ?_;exact(T9 (t:=8) (LG Ma<|l+t+1)<|T_ (h8+s.getD t 0).toNat)) (rs [1,1,1,-1,1,1] (.l .x .y) [.l .z<|.n 1000,.l .w<|.n 100,.e .y<|.n 16777216,.e .u<|.a .z .w,.e .x .u] U ab.1 ab.2 L fN Mb)<|bq.nil ?_;exact(hD U)
   .exact(hD U)
   .intro nx mz;rw[d3,vF]at mz;refine bq.nil<|bq.nil ?_;obtain⟨_,_,y⟩:=mz;exact y
 .exact(hD U)
 .intro bU e5;rw[ahq]at e5;exact c bU e5
end
section
inductive wv(aC as aX dp:aq):Prop|mk(fS:aC≠as)(fT:aC∉[1940,aX,dp])(gy:as∉[1940,aX,dp])(jI:2011<=aX)(lm:2011<=dp):wv aC as aX dp
theorem wv.ci(c:wv aC as aX dp):∀b∈[aX,dp],b∉[1940]/\b∉[aC,as]:=λb m=>by
 have af:2011<=b:=by
  revert b;refine g4 ?_ ?_
  .exact c.4
  .intro b m;exact V (bm m) c.5
 have dR:b∈[1940,aX,dp]:=mt m;refine⟨λe=>?_,λe=>?_⟩
 .rw[bm e]at af;exact absurd af bd
 .rcases fR.mp e with rfl|e
  .exact c.2 dR
  .rw[bm e]at dR;exact c.3 dR
variable{j:b7}{aE:ag}{T:Nat->Obj}{x:Nat}{au:fQ}{z:Nat}{q:bY}{s:List Int}{lJ:aq}{t1 t2 l2:Tok}{ir iu aC as aX dp dL k2 aA aD t:Nat}{f':List aq}{I:Nat->Int}{l3 l4 i4:Int}{i9 aB:List bh}{A:b0}{cu:jq->b0->Inv->Prop}
noncomputable def ki(I:Nat->Int)(aD t:Nat):List Int:=(c2 t).map λk=>I<|aD+k
theorem ahu:(ki I aD t).length=t:=by simp[ki]
theorem ahv(bg:∀k,0<=I k/\I k<256):gs (ki I aD t):=λf R=>by refine mg R λk w bP=>?_;obtain rfl:=bP;exact bg _
theorem ahw(aO:dy j aE T x au)(aS:wv aC as aX dp)(aK:B2 s)(bg:∀k,0<=I k/\I k<256)(dx:aD+t<=aA)(ab:t<=1000/\s.length<=100)(r2:i9.length<=1000)(jv:aB.length<=1000)(c:∀bU,he (th s lJ t1 t2 l2 l3 l4 t ir iu aC as dL) bU->cu .next bU (y4 j q dL k2 aX dp f' aA I aC as (aD+t) (i9++[gh<|ki I aD t])<|aB++[gh<|ks s<|ki I aD t]))(cn:he (th s lJ t1 t2 l2 l3 l4 t ir iu aC as dL) A):ct (a3 j aE T x au) z q uq (y4 j q dL k2 aX dp f' aA I aC as aD i9 aB) A UT cu:=by have L:cI=2^24:=U;have az:=io aO;have ww:(ki I aD t).length=t:=ahu;have F2:gs (ki I aD t):=ahv bg;refine ct.le cn ?_;have Mc:∀(h lK gO l:Nat)(bH:Option aq)(f5 f6 fU:Tok),∃E,rR 30 (ip x) lK gO (ow (.ref h) "num_data" Z) (λE=>⟨[(h,m2 bH l3 l4 t f5 f6 fU l)],0,E,uf,[],[]⟩) (.int (t:Int) E) (λG=>(G.gs,G.objs.head?,G.objs.tail.map (·.1))) (λw=>([],W (h,m2 bH l3 l4 t f5 f6 fU l),[lK])):=λh lK gO l bH f5 f6 fU=>⟨fU,TC h lK gO l bH l3 l4 t f5 f6 fU x⟩;refine ct.uV (d1.ae4 (kh:=λaw b1=>aw=ki I aD t/\b1=y4 j q dL k2 aX dp f' aA I aC as (aD+t) i9 aB) aC az FB (by rintro aw b1 n p N a⟨_,rfl⟩ac;exact(ac.snd.fst.2 aC bz).1) λn p N aF S a ax L M r ac C ah=>(d1.words (t:=t) (aY:=hU 1944 1940) (ch:=(m4 aC i9).both<|m4 as aB) (s:=k2) aO (uj U) U (by cbv) (FA (f:=l3) (B:=l4) (G:=t) aO ar.nm Mc (λw=>U) λw w=>U) dx (cy (.l .x<|.n 1048576) [.l .x<|.n 1000] U ab.1) aS.ci ⟨(λe=>nomatch e),λe=>nomatch e⟩ (by cbv) (by cbv) U (by cbv) (by cbv) (by cbv) (by cbv) (by cbv)) n p N aF S a ax L M r ac C λa4 an u dX dn e6 iX=>ah a4 an u dX dn e6 ⟨ki I aD t,iX.1,⟨U,iX.2⟩,F2,V ww<|bb ab.1 bd⟩) (by cbv) ?_;rintro u dX⟨_,b,rfl,ahx,rfl,rfl⟩;generalize ki I aD t=aw at ww F2 c;refine ct.z7 (d1.QP (aH:=i9) (u:=gh aw) (b1:=y4 j q dL k2 aX dp f' aA I aC as (aD+t) (i9++[gh aw]) aB) (aA:=iu) aO (BU U) (af9 aS.2 λe=>aS.1<|bm e) U (by cbv) ar.nm (agb ahx)<|gd [1,1,-1] (.l .x .y) [.l .x<|.n 1000,.e .y<|.n 16777216] U r2 L) U<|rv<|⟨U,?_⟩;refine ct.nM<|bq.assign (u:=.int aw.length) (ae.CH (ug aO) ar.QO<|c3 (.t .x<|.n 4611686018427387904) [.l .y<|.n 1000,.e .x .y] U ab.1 ww) (by cbv)<|bq.nil<|ct.nM<|bq.M_ (u:=gh aw) (ae.aaQ az ar.QO FB<|j4 [1,1,-1,1] (.l .x .y) [.l .z<|.n 1000,.e .y<|.n 16777216,.e .x .z] U ab.1 L ww) (by cbv)<|bq.nil ?_;refine ct.nM<|bq.aaT (aw:=aw) (dh:=dq (s.length:Int).toNat 0) U (by cbv) (ae.F9 (G:=0) (ae.list (aH:=[.int 0]) (eU.fH ae.cT eU.nl) (by show 1<=cI;decide)) ar.nm (iP _)<|cy (.b3 (.c .x)<|.n 16777216) [.l .x<|.n 100] U ab.2) (λf R=>by refine V (z9 R) ?_;decide) (ng▸rs [1,1,1,-1,1,1] (.t (.a .x .y) .z) [.l .w<|.n 1000,.l .u<|.n 100,.e .z<|.n 16777216,.e .x .w,.eG (.c .y)<|.c .u] U ab.1 ab.2 L ww (oG<|cy (.b3 (.n 0)<|.c .x) [] U))<|bq.nil ?_;refine ct.nM<|ahr (s:=s) (lJ:=lJ) (t1:=t1) (t2:=t2) (l2:=l2) (l3:=l3) (l4:=l4) (i4:=t) (ir:=ir) (iu:=iu) (aC:=aC) (as:=as) (dL:=dL) aO F2 aK (⟨c3 (.l .x<|.n 1000) [.l .y<|.n 1000,.e .x .y] U ab.1 ww,ab.2⟩) (λbU ahy=>bq.nil<|ct.le ahy<|cY (LJ (s:=s) F2 aw.length) λhA fN=>?_)<|hD U;exact ct.z7 (d1.QP (aH:=aB) (u:=gh<|ks s aw) (b1:=y4 j q dL k2 aX dp f' aA I aC as (aD+t) (i9++[gh aw])<|aB++[gh<|ks s aw]) (aA:=ir) aO (BU U) (af_ aS.3 λe=>aS.1 (bm e).symm) U (by cbv) (ae.aaN (t:=aw.length) ar.NB ar.nm<|rs [1,1,1,-1,1,1] (.l .x .y) [.l .z<|.n 1000,.l .w<|.n 100,.e .y<|.n 16777216,.e .u .z,.e .x<|.a .u .w] U ab.1 ab.2 L ww fN) aga<|gd [1,1,-1] (.l .x .y) [.l .x<|.n 1000,.e .y<|.n 16777216] U jv L) U<|rv<|⟨U,ct.nil<|c _<|hD U⟩
end
theorem UU{bf:Type}{H:List bf->Prop}(aO:H [])(L:∀D h,H D->H (D++[h]))(D:List bf):H D:=by
 have:∀y:List bf,H y.reverse:=λy=>by induction y with
  |nil=>exact aO|cons h y a2=>refine V List.reverse_cons ?_;exact L _ _ a2
 exact List.reverse_reverse D▸this D.reverse
noncomputable def l5(I:Nat->Int)(D:List<|Nat×List Int):Nat×List bh×List bh:=D.foldl (λst r=>(st.1+r.1,st.2.1++[gh<|ki I st.1 r.1],st.2.2++[gh<|ks r.2<|ki I st.1 r.1])) (0,[],[])
theorem Md(I:Nat->Int)(D:List<|Nat×List Int)(r:Nat×List Int):l5 I (D++[r])=((l5 I D).1+r.1,(l5 I D).2.1++[gh<|ki I (l5 I D).1 r.1],(l5 I D).2.2++[gh<|ks r.2<|ki I (l5 I D).1 r.1]):=by unfold l5;refine z8.symm▸?_;rfl
theorem ahz(I:Nat->Int)(D:List<|Nat×List Int):(l5 I D).2.1.length=D.length/\(l5 I D).2.2.length=D.length/\(l5 I D).1=(D.map (·.1)).sum:=by induction D using UU with|aO=>exact⟨U,U,U⟩|L D r a2=>
  refine eQ a2 λaf ap bk=>V (Md ..)<|⟨?_,?_,?_⟩
  .simp[af]
  .simp[ap]
  .simp[bk]
noncomputable def wx(j:b7)(q:bY)(dL k2 aX dp:Nat)(f':List aq)(aA:Nat)(I:Nat->Int)(aC as:Nat)(D:List<|Nat×List Int):Inv:=y4 j q dL k2 aX dp f' aA I aC as (l5 I D).1 (l5 I D).2.1 (l5 I D).2.2
theorem ahA{D:List<|Nat×List Int}{t k:Nat}{r:Nat×List Int}(c:((D++dq t r).map (·.1)).sum<=aA)(ac:k<t):((D++dq k r).map (·.1)).sum+r.1<=aA:=by simp only[mc,Od,Oe,List.sum_replicate_nat]at c⊢;have:=zU r.1<|NJ ac;rw[w']at this;exact xw (.l (.a (.a .x .y) .z) .w) [.l (.a .x .u) .w,.l (.a .y .z) .u] U c this
theorem ahB(aO:dy j aE T x au)(aS:wv aC as aX dp)(aK:B2 s)(aZ:v7 s.length=W s)(bg:∀k,0<=I k/\I k<256)(ab:cp<=1000/\s.length<=100)(aI:D.length+g0<=500)(bt:((D++dq g0 (cp,s)).map (·.1)).sum<=aA)(c:∀bU,he (y5 ir iu aC as dL) bU->cu .next bU (wx j q dL k2 aX dp f' aA I aC as<|D++dq g0 (cp,s)))(cn:he (("ec_info",.f<|.qP g0 ((cp+s.length:Nat):Int) cp)::y5 ir iu aC as dL) A):ct (a3 j aE T x au) z q uq (wx j q dL k2 aX dp f' aA I aC as D) A US cu:=by
 refine ct.le cn ?_;have ahC:∀(h lK gO l:Nat)(bH:Option aq)(f5 f6 fU:Tok),∃E,rR 30 (ip x) lK gO (ow (.ref h) "num_total" Z) (λE=>⟨[(h,m2 bH g0 ((cp+s.length:Nat):Int) cp f5 f6 fU l)],0,E,uf,[],[]⟩) (.int ((cp+s.length:Nat):Int) E) (λG=>(G.gs,G.objs.head?,G.objs.tail.map (·.1))) (λw=>([],W (h,m2 bH g0 ((cp+s.length:Nat):Int) cp f5 f6 fU l),[lK])):=λh lK gO l bH f5 f6 fU=>⟨f6,afc h lK gO l bH g0 ((cp+s.length:Nat):Int) cp f5 f6 fU x⟩;have Mc:∀(h lK gO l:Nat)(bH:Option aq)(f5 f6 fU:Tok),∃E,rR 30 (ip x) lK gO (ow (.ref h) "num_data" Z) (λE=>⟨[(h,m2 bH g0 ((cp+s.length:Nat):Int) cp f5 f6 fU l)],0,E,uf,[],[]⟩) (.int (cp:Int) E) (λG=>(G.gs,G.objs.head?,G.objs.tail.map (·.1))) (λw=>([],W (h,m2 bH g0 ((cp+s.length:Nat):Int) cp f5 f6 fU l),[lK])):=λh lK gO l bH f5 f6 fU=>⟨fU,TC h lK gO l bH g0 ((cp+s.length:Nat):Int) cp f5 f6 fU x⟩;have Me:∀(h lK gO l:Nat)(bH:Option aq)(f5 f6 fU:Tok),∃E,rR 30 (ip x) lK gO (ow (.ref h) "num_blocks" Z) (λE=>⟨[(h,m2 bH g0 ((cp+s.length:Nat):Int) cp f5 f6 fU l)],0,E,uf,[],[]⟩) (.int (g0:Int) E) (λG=>(G.gs,G.objs.head?,G.objs.tail.map (·.1))) (λw=>([],W (h,m2 bH g0 ((cp+s.length:Nat):Int) cp f5 f6 fU l),[lK])):=λh lK gO l bH f5 f6 fU=>⟨f5,afd h lK gO l bH g0 ((cp+s.length:Nat):Int) cp f5 f6 fU x⟩;refine ct.nM<|bq.assign (u:=.int s.length) (dd.cast (ae.sub (FA (f:=g0) (B:=((cp+s.length:Nat):Int)) (G:=cp) aO ar.nm ahC (λw=>U) λw w=>U)<|FA (f:=g0) (B:=((cp+s.length:Nat):Int)) (G:=cp) aO ar.nm Mc (λw=>U) λw w=>U) (by push_cast;exact c3 (.eG (.s (.a (.c .x)<|.c .y)<|.c .x)<|.c .y) [] U)) (by cbv)<|bq.nil<|ct.nM<|bq.assign (u:=.tup<|s.map .int) (ae.IC aO ar.nm aZ) (by cbv)<|bq.nil<|ct.uV (d1.range (ug aO) (t:=s.length) ar.nm) (by cbv) ?_;rintro u dX e9;refine cY e9 λhp jG=>V hp<|sm jG λlJ t1 t2 l2 jH=>V jH<|ct.oU (λk A ai=>he (th s lJ t1 t2 l2 g0 ((cp+s.length:Nat):Int) cp ir iu aC as dL) A/\ai=wx j q dL k2 aX dp f' aA I aC as (D++dq k (cp,s))) (λw w=>U) (mX.v' (t:=g0) (io aO) (FA (f:=g0) (B:=((cp+s.length:Nat):Int)) (G:=cp) aO ar.nm Me (λw=>U) λw w=>U) yA (by cbv) U<|c3 (.t .x<|.n 4611686018427387904) [.l (.a .y .x)<|.n 500] U aI) ?_ ⟨(hD U),by exact V List.replicate_zero<|V (uN ..) U⟩ ?_
 .rintro k f bU b1 R mh;refine cY mh λe5 nE=>V nE<|cY (Rs R) λac q0=>V q0<|eQ (ahz I<|D++dq k (cp,s)) λig j9 ahD=>?_;have cL:(D++dq k (cp,s)).length<=1000:=gU▸ng▸hh (.l (.a .x .y)<|.n 1000) [.l (.a .x .z)<|.n 500,.t .y .z] U aI ac;refine⟨ar.t1,ahw (t:=cp) (s:=s) (lJ:=lJ) (t1:=t1) (t2:=t2) (l2:=l2) (l3:=g0) (l4:=((cp+s.length:Nat):Int)) aO aS aK bg (ahD▸ahA bt ac) ab (c3 (.l .x<|.n 1000) [.e .x .y,.l .y<|.n 1000] U ig cL) (c3 (.l .x<|.n 1000) [.e .x .y,.l .y<|.n 1000] U j9 cL) (λnx mz=>⟨mz,(V List.replicate_succ'<|b' (rc ..) ?_)⟩) e5⟩;unfold wx;exact V (Md ..) U
 .rintro bU b1 wy;exact cY wy λe5 Ch=>V Ch<|V (d3 ..)<|V (vF ..)<|ct.nil<|c _<|cY e5 λw Ci=>cY Ci λw ahE=>cY ahE λw Mf=>cY Mf λw y=>y
noncomputable abbrev Lay:=Nat×Nat×List Int
noncomputable def ti(i:Lay):bh:=.qP i.1 ((i.2.1+i.2.2.length:Nat):Int) i.2.1
noncomputable def g8(aB:List Lay):List (Nat×List Int):=aB.flatMap λi=>dq i.1 i.2
theorem ahF{aB:List Lay}{k:Nat}{i:Lay}(c:aB[k]?=W i):g8 (aB.take<|k+1)=g8 (aB.take k)++dq i.1 i.2:=by refine V List.take_succ<|V c ?_;simp[g8]
theorem ahG(k:Nat):(g8<|aB.take k).length<=(g8 aB).length/\((g8<|aB.take k).map (·.1)).sum<=((g8 aB).map (·.1)).sum:=by
 have:g8 aB=g8 (aB.take k)++g8 (aB.drop k):=by unfold g8;exact b' HD<|V (xf ..) U
 exact V this<|V gU<|V mc<|V Od<|⟨iw _ _,iw _ _⟩
inductive y7(aB:List Lay)(aA:Nat):Prop|mk(fS:∀i∈aB,B2 i.2.2/\v7 i.2.2.length=W i.2.2/\i.2.1<=1000/\i.2.2.length<=100)(fT:(g8 aB).length<=500)(gy:((g8 aB).map (·.1)).sum<=aA):y7 aB aA
theorem UV:∀(D:List Bool)(h:Int),0<=h->0<=D.foldl (λh b=>2*h+(bif b then 1 else 0)) h/\D.foldl (λh b=>2*h+(bif b then 1 else 0)) h<(h+1)*2^D.length
 |[],h,c=>⟨c,by simp;exact f1 (.b_ .x<|.o .x) [] U⟩|b::D,h,c=>by
  have m:(0:Int)<=(bif b then 1 else 0)/\(bif b then(1:Int)else 0)<=1:=by cases b<;>decide
  refine cY (UV D (2*h+(bif b then 1 else 0))<|G8 (Nu bd c) m.1) λaf ap=>⟨af,Int.lt_of_lt_of_le ap ?_⟩;have i:(h+1)*2^(b::D).length=(2*(h+1))*2^D.length:=V iy<|V (Int.pow_succ ..)<|V (C_ _ 2)<|b' (G3 ..)<|V (C_ (h+1) 2) U;exact i.symm▸Int.mul_le_mul_of_nonneg_right (V (zK ..)<|V (Int.add_assoc ..)<|Int.add_le_add_left (Int.add_le_add_right m.2 1) _) (Int.pow_nonneg bd)
theorem ahH(D:List Bool):0<=valOf D/\valOf D<2^D.length:=by have:=UV D 0 bd;simpa[valOf]using this
theorem ahJ(t:Nat):valOf (dq t a1)=0:=by unfold valOf;induction t with|zero=>rfl|succ t a2=>refine V nf<|V Dn ?_;exact a2
theorem ahK(aG:List Bool)(k:Nat):0<=i7 aG k/\i7 aG k<256:=by
 unfold i7;by_cases c:8*k<aG.length
 .have:=ahH<|rY aG<|8*k;rw[chunk_len c]at this;exact this
 .unfold rY;refine V (z6 (by exact c3 (.l .x<|.m 8 .y) [.lF (.m 8 .y) .x] U c))<|V List.take_nil<|V (HA ..)<|V (ahJ ..) ?_;decide
theorem ahL(aO:dy j aE T x au)(jv:y7 aB<|(aG.length+7)/8)(ab:aG.length<=2^20):ct (a3 j aE T x au) (z+1) q uq (hU 1944 1940) [("buff",.f<|.buf<|cz<|gu aG),("ec_infos",.f<|.tup<|aB.map ti)] ((gC<|cj ao 18).take 8) (λcO bU b1=>cO=.next/\∃dL k2 aX dp f' ir iu aC as,he (y5 ir iu aC as dL) bU/\wv aC as aX dp/\b1=wx j q dL k2 aX dp f' ((aG.length+7)/8) (i7 aG) aC as (g8 aB)):=by
 have cA:=ug aO;have az:=io aO;conv=>arg 7;whnf
 refine ct.doc ?_;conv=>arg 7;whnf
 refine ct.uV (d1.aeX aO (uj U) (by rfl) (by cbv) ab) (by cbv) ?_;rintro u dX bP;refine W0 bP λdL aX k2 dp f' cB dv fW IB=>V cB ?_;obtain rfl:=dv;conv=>arg 7;whnf
 refine ct.aeZ (f:="data_blocks") (B:="error_blocks") aO.2 (uj U) (by cbv) (by cbv) (λn bp=>by rfl) ?_ ?_
 .intro n bp;have i:n={n with scope:=uq}:=b' bp U;refine V i ?_
  cbv
 intro aC as BX de g7;have aS:wv aC as aX dp:=⟨BX,λe=>de ?_,λe=>g7 ?_,fW,IB⟩
 .conv=>arg 7;whnf
  refine ct.uV (d1.QL (aC:=aC) (aH:=[]) aO (by rfl) (by cbv) λn p N a c=>c.snd.fst) (by cbv) ?_;rintro u dX ek;refine cY ek λe_ gX=>c5 gX λiu gF=>V e_ ?_;obtain rfl:=gF;conv=>arg 7;whnf
  refine ct.uV (d1.QL (aC:=as) (aH:=[]) aO (by rfl) (by cbv) λn p N a c=>c.snd.snd) (by cbv) ?_;rintro u dX hq;refine cY hq λiZ jK=>c5 jK λir kt=>V iZ ?_;obtain rfl:=kt;conv=>arg 7;whnf
  refine ct.nM<|bq.assign (ae.aee aO) (by cbv)<|bq.nil<|ct.nM<|bq.assign (ae.aef aO) (by cbv)<|bq.nil<|ct.oU (λk A ai=>he (y5 ir iu aC as dL) A/\ai=wx j q dL k2 aX dp f' ((aG.length+7)/8) (i7 aG) aC as (g8<|aB.take k)) (λw w=>U) (mX.tup<|ae.name (u:=.tup<|aB.map ti) U (by cbv)) ?_ ⟨(hD U),U⟩ ?_
  .rintro k f bU b1 R nt;refine cY nt λe5 nu=>V nu ?_;replace R:=(fk)▸R;refine u1 R λi bp sK=>b' sK<|lg (jv.1 i<|ox bp) λdT d8 dO eM=>?_;have f4:=ahF bp;refine cY (ahG (aB:=aB)<|k+1) λfX gY=>?_;have cL:=jv.2;have ahM:=jv.3;obtain⟨g0,cp,s⟩:=i;rw[f4]at fX gY;rw[gU,ng]at fX;exact⟨ar.t1,ahB (g0:=g0) (cp:=cp) (s:=s) aO aS dT d8 (ahK aG) ⟨dO,eM⟩ (bb fX cL) (bb gY ahM) (λnx mz=>⟨mz,V f4 U⟩) ⟨U,e5⟩⟩
  .rintro bU b1 qp;exact cY qp λe5 sL=>V sL<|V (d3 ..)<|V xb<|ct.nil ⟨U,(Xj dL k2 aX dp f' ir iu aC as e5 aS U)⟩
 .exact dH e (λe=>b3<|km.mpr e) λe=>bO e
 .exact dH e (λe=>b3<|km.mpr e) λe=>bO e
section
theorem UW{aA:cl}{j:b7}{n:Env}{A:Ctx}{l0:List ez}{K:gb->ag->Prop}:∀(lZ:List ez)(r:Pos)(a:ag),jZ (cq aA j) A (dE lZ n) (λI bn v=>I=.next/\jZ (cq aA j) A (dE l0 n) (λI w v=>K I v) (λw w w=>False) bn v) (λw w w=>False) r a->jZ (cq aA j) A (dE (lZ++l0) n) (λI w v=>K I v) (λw w w=>False) r a|[],r,a,c=>by rw[wU]at c;exact c.2|st::D,r,a,c=>by refine V Hu<|V (pU ..) ?_;rw[pU]at c;rw[z']at c⊢;refine md _ A _ (λI bn v bg=>?_) (λw w w f=>f) r a c;cases I with|next=>exact UW D bn v bg|brk=>exact nomatch bg.1|cont=>exact nomatch bg.1|ret u=>exact nomatch bg.1
theorem Mg{prog:cl}{j:b7}{q:bY}{n:Env}{a:ag}{lZ l0:List ez}{K:gb->ag->Prop}(c:Y prog j q (dE lZ n) (λI v=>I=.next/\Y prog j q (dE l0 n) K v) a):Y prog j q (dE (lZ++l0) n) K a:=λA r aO af ap=>UW lZ r a<|md _ A _ (λI bn v bg=>⟨bg.1,bg.2 A bn aO af ap⟩) (λw w w f=>f) r a<|c A r aO af ap
variable{g:dw}{n y8:Env}{p N aF:List aq}{S:Nat}{a v:ag}{ai:Inv}
theorem Inv.At.into(ac:ai.At g n p N a)(dP:∀b∈b4 y8,a.heap.objs.size<=b)(s:a9 [] [] a v):ai.At g y8 (b4 y8++p) [] v:=by have c:=(ac.wide (bu:=b4 y8++p) (λb m=>bO m) λb m=>bN m (λe=>.inr<|dP b e) .inl).it s aW aW;exact⟨c.1,λb m=>⟨(c.2 b m).1,(λe=>dt e),λe=>cd (ac.2 b m).2.2.2.2<|dP b e,(c.2 b m).2.2.2⟩,c.3⟩
variable{j:b7}{aE:ag}{T:Nat->Obj}{x:Nat}{au:fQ}{z:Nat}{q:bY}{aG:List Bool}{aB:List Lay}{A:b0}{aR:List al}{C:al->ag->Prop}
noncomputable def y9(H:cc)(x:Nat):FuncData:=fdOf<|ET ao H x
theorem UX(H:cc)(x:Nat):(em H x).get 1900=W (ET ao H x):=by cbv
theorem ahN(H:cc)(x:Nat):(em H x).get 1899=W (Sv ao H x):=by cbv
theorem ahO(a:ag)(H:cc)(x:Nat)(f B:al):iO a (y9 H x) ⟨[f,B],[]⟩ [("ec_infos",f),("buff",B)]:=p3 (by cbv)
theorem ahP(c:dy j aE T x au)(b:fh (a3 j aE T x au) a):FnAt a 1900 (y9 j.params x) (gC<|cj ao 18):=wj (e:=1899) (E:=x+843) c b (UX ..) U (by cbv) (by cbv) (ahN ..) U (by cbv) (by cbv) (by cbv) (by cbv) (by cbv) (by cbv)
noncomputable def F3(aG:List Bool)(aB:List Lay):bh:=.tup [.lst (l5 (i7 aG)<|g8 aB).2.1,.lst (l5 (i7 aG)<|g8 aB).2.2]
theorem ahQ(aO:dy j aE T x au)(ax:eK (z+2) q)(M:cM (a3 j aE T x au) n p N aF S)(r:bw (a3 j aE T x au) n p N S A a)(cK:(hU 1944 1940).At (a3 j aE T x au) n p N a)(aM:mr S p [(.b2,.tup<|aB.map ti),(.b2,.buf<|cz<|gu aG)] a aR)(jv:y7 aB<|(aG.length+7)/8)(ab:aG.length<=2^20)(ah:∀h O t aC wz Cj as y_ Ck v,a9 [1940] [] a v->(hU 1944 1940).At (a3 j aE T x au) n p N v->fh (a3 j aE T x au) v->h∉p->v.heap.get? h=W {cls:=.type "tuple",data:=.seq O t}->O.toList=[.ref aC,.ref as]->aC∉p->v.heap.get? aC=W {cls:=.type "list",data:=.seq wz Cj}->bW v.heap p (l5 (i7 aG)<|g8 aB).2.1 wz.toList->(∀u∈wz.toList,∀f,u=.ref f->aC<=f)->a.heap.objs.size<=aC->as∉p->v.heap.get? as=W {cls:=.type "list",data:=.seq y_ Ck}->bW v.heap p (l5 (i7 aG)<|g8 aB).2.2 y_.toList->C (.ref h) v):Y ao j q (er (.ref 1900) aR []) C a:=by
 refine gJ λw bI=>ei aM λil w bP w cB=>ei cB λlY w dv w Mh=>?_;obtain rfl:=bP;obtain rfl:=dv;have Mi:_=[]:=Mh;subst Mi;refine bI<|A7 (g:=a3 j aE T x au) (eb:=["ec_infos","buff"]) (io aO) ax (ahP aO r.2) (by cbv) (by cbv) M r aM U (ahO a j.params x il lY) (by cbv) λv dP bX ew bn gf=>?_;have i6:(cX (y9 j.params x) 1900 a).scope=uq:=by cbv
 generalize q.deeper (cX (y9 j.params x) 1900 a)=kf at*;generalize cX (y9 j.params x) 1900 a=ed at*;refine Mg<|Y.mono (ahL (z:=z) aO jv ab ed (b4 ed++p) [] p _ v gf i6 ew bn<|cK.into (y8:=ed) dP bX) ?_;rintro I an ek;refine ek.hO λcO vr dn jr e6 dX e_ amY eh gX gH=>cY e_ λe9 hp=>?_;obtain rfl:=e9;refine W6 hp λdL k2 aX dp f' ir iu aC as sr aS jG=>?_;obtain rfl:=jG;refine eQ gX λjH h4 c_=>V jH<|⟨U,?_⟩;have UY:=c_.le λf bx e=>sr.has e;have Mj:∀b∈p,b∈dn:=λb m=>eh.1 b<|bO m;have i3:∀b∈p,b<a.heap.objs.size:=λb m=>cw (M.8 b m) r.1;have aL:a9 [1940] [] a an:=(bX.mono aW aW).hj eh.6 (λb m=>by
  refine bN m (λe=>?_) λe=>?_
  .refine bN e (λe=>?_) λe=>?_
   .exact dt e
   .exact .inr<|gz<|dP b e
  .exact .inl e) aW;have UZ:∀b∈[aC,as],a.heap.objs.size<=b:=λb m=>by
  have bS:b∈(wx j kf dL k2 aX dp f' ((aG.length+7)/8) (i7 aG) aC as<|g8 aB).W:=bO m;rcases eh.4 b bS with G|G
  .have:b≠1940:=λi=>by subst i;exact dH m (λi=>aS.2<|i▸bz) λm=>aS.3<|bm m▸bz
   exact absurd (bm G) this
  .exact bb bX.2 G
 have U0:∀b∈[aC,as],b∉p:=λb m e=>cd (i3 b e)<|UZ b m;conv=>arg 4;arg 1;whnf
 refine Y.eq (V (pU ..)<|V (exec_Return_some ..) U)<|Y.bind<|dV<|Y.bind<|(ae.tuple (g:=a3 j aE T x au) (z:=z+1) (Q:=uq) (A:=y5 ir iu aC as dL) (aH:=[.raw<|.ref aC,.raw<|.ref as]) (eU.fH (ar.nm (f:="data_blocks"))<|eU.fH (ar.nm (f:="error_blocks")) eU.nl) (by show 2<=cI;decide)) kf ed dn jr p e6 gf i6 h4 an _ UY λa4 am a_ L9=>?_;have iN:=gH.it a_ aW aW;have jR:a9 [1940] [] a am:=aL.trans<|a_.mono aW aW;refine gJ λw bI=>ni L9 λh O t gF a7 aP av=>?_;obtain rfl:=gF;refine bI ?_;refine ei (by refine ei av λu D i e y=>?_;exact⟨u,D,i,e,y⟩:∃vH ig,O.toList=vH::ig/\vH=.ref aC/\bW am.heap dn [.raw<|.ref as] ig) λvH ig bG dm av=>?_;refine ei (by refine ei av λu D i e y=>?_;exact⟨u,D,i,e,y⟩:∃A_ j9,ig=A_::j9/\A_=.ref as/\bW am.heap dn [] j9) λA_ j9 cr eY av=>?_;refine gJ λw bI=>?_;subst av cr dm eY;have f9:∀b o,b∉dn->am.heap.get? b=W o->am.heap.get? b=W o/\b∉p:=λb o m i=>⟨i,λe=>m<|Mj b e⟩;exact eQ iN.snd.fst.1 λde hq ahR=>gc hq λwz Cj F4 Mk=>eQ iN.snd.snd.1 λg7 iZ amZ=>gc iZ λy_ Ck Ml Mm=>cY iN.fst.fst.1 λLv jK=>c5 jK λcv lz=>bI<|Y.pure<|Y.pure<|⟨_,U,ah h O t aC wz Cj as y_ Ck am jR ⟨⟨λe=>Lv<|Mj _ e,cv,lz⟩,λb m=>kK (cK.2 b m) λdT d8 dO eM gg=>⟨dT,d8,dO,eM,cw gg jR.2⟩,aW⟩ (UY.grow a_).2 (λe=>a7<|Mj _ e) aP bG (U0 aC<|bz) F4 (bW.to f9 _ _ Mk) (ahR _ _ F4) (UZ aC<|bz) (U0 as<|mt bz) Ml<|bW.to f9 _ _ Mm⟩
theorem ahS(aO:dy j aE T x au)(ax:eK (z+2) q)(M:cM (a3 j aE T x au) n p N aF S)(r:bw (a3 j aE T x au) n p N S A a)(cK:(hU 1944 1940).At (a3 j aE T x au) n p N a)(aM:mr S p [(.b2,.tup<|aB.map ti),(.b2,.buf<|cz<|gu aG)] a aR)(jv:y7 aB<|(aG.length+7)/8)(ab:aG.length<=2^20)(ah:∀a4 v,a9 [1940] [] a v->(hU 1944 1940).At (a3 j aE T x au) n p N v->fh (a3 j aE T x au) v->cf v.heap p (F3 aG aB) a4->C a4 v):Y ao j q (er (.ref 1900) aR []) C a:=by
 refine ahQ aO ax M r cK aM jv ab λh O t aC wz Cj as y_ Ck v s ahU m a7 aP bG de F4 Mk w w g7 Ml Mm=>ah _ v s ahU m<|⟨h,O,t,U,a7,aP,(V bG<|(⟨_,_,U,?_,?_⟩))⟩
 .exact⟨aC,wz,Cj,U,de,F4,Mk⟩
 .exact⟨_,_,U,(⟨as,y_,Ck,U,g7,Ml,Mm⟩),by exact U⟩
end
noncomputable def o5:Scope:=fa<|cj ao 17
noncomputable def ahV:ez->Pos|.FunctionDef bL dQ lp xI aap am0 am1 am2 am3 r=>r|_=>default
noncomputable def F5:Pos:=ahV i5
noncomputable def y':Str:="make_final_message.<locals>.to_binary"
noncomputable def ahW:Inv where
 W:=[1892]
 G:=[]
 St:=λp a=>1894∉p/\∃cv,TabAt a.heap 1894 1892 cv/\codeAmong F5 cv.toList=aQ
 frame:=λp a v cb c6 c s dK w=>by
  refine cY c λa5 bP=>br bP λcv bC az=>⟨a5,(dj cv (bC.kept λb m o i=>s.1 b o (λdg=>?_) i) az)⟩;rcases m with rfl|rfl
  .exact a5 (dK _ dg).1
  .exact(dK _ dg).2 bz
 mono:=λp bu a c co=>by exact cY c λa5 cB=>br cB λcv bC az=>⟨λdg=>(co _ dg).elim a5 λG=>cd bC.1.lt.1 G,(dj cv bC az)⟩
noncomputable def ur(be cG:aq):Inv where
 W:=[1892,cG]
 G:=[]
 St:=λp a=>1894∉p/\be∉p/\2011<=be/\2011<=cG/\(∃cv,TabAt a.heap 1894 1892 cv/\codeAmong F5 cv.toList=W (.ref be))/\(∃cv,TabAt a.heap be cG cv)/\a.heap.CodeRec (.ref be) y'
 frame:=λp a v cb c6 c s dK w=>by
  refine gJ λw bI=>rn c λa5 az af ap e9 hp jG=>br e9 λcv bC rB=>c5 hp λCm Cn=>H_ jG λe o O E i aK y=>?_;cases i;refine bI<|⟨a5,az,af,ap,⟨cv,bC.kept λb m o i=>s.1 b o (λdg=>?_) i,rB⟩,⟨Cm,Cn.kept λb m o i=>s.1 b o (λdg=>?_) i⟩,be,o,O,E,U,s.1 _ _ (λdg=>az (dK _ dg).1) aK,y⟩
  .rcases m with rfl|rfl
   .exact a5 (dK _ dg).1
   .exact(dK _ dg).2 bz
  .rcases m with rfl|rfl
   .exact az (dK _ dg).1
   .exact(dK _ dg).2<|mt bz
 mono:=λp bu a c co=>by exact gJ λw bI=>rn c λa5 az af ap jH mh bk=>br jH λcv bC rB=>c5 mh λCm Cn=>bI<|⟨λdg=>(co _ dg).elim a5 λG=>cd bC.1.lt.1 G,λdg=>(co _ dg).elim az λG=>cd Cn.1.lt.1 G,af,ap,⟨cv,bC,rB⟩,⟨Cm,Cn⟩,bk⟩
noncomputable def lL:Option (aq×aq)->Inv|none=>ahW|some e=>ur e.1 e.2
noncomputable def F6(be eu:aq)(nm:al):FuncData:={name:="to_binary",qualname:=y',params:=sT i5,body:=.stmts<|gC i5,scope:=fa i5,globals:=3,closure:=[],closureTuple:=.none,code:=.ref be,builtins:=0,defaults:=.ref eu,kwdefaults:=.none,annotations:=aQ,pyModule:=nm,doc:=.none}
noncomputable def r3(be eu:aq)(nm:al):Obj:={cls:=.type "function",data:=.func<|F6 be eu nm}
noncomputable def Co(E:Tok):Obj:={cls:=.type "tuple",data:=.seq #[.int 8 E]}
noncomputable def us(I be eu:aq)(nm:al)(E:Tok):bh:=.gQ [(I,r3 be eu nm),(eu,Co E)]<|.ref I
theorem ahX:∃Bc,i5=.FunctionDef "to_binary" (sT i5) (gC i5) [] aQ [] (fa i5) aQ "to_binary" F5/\(sT i5).defaults=[.Constant (.int 8) 0 Bc]/\(sT i5).kw_defaults=[]/\(sT i5).kwonlyargs=[]:=(p8 _ U U U U)
theorem ahY(n:Env):annTrees (sT i5) aQ n=[]:=rfl
theorem ahZ:∀f∈(fa i5).names,f.2≠.free:=by
 have:(fa i5).names.all (λf=>f.2 !=.free)=Z:=by cbv
 intro f R;have:=hn.mp this f R;simpa using this
theorem ah0(gm:2011<=a.heap.objs.size)(co:∀b∈p,b<a.heap.objs.size)(za:n.code=.ref 1894)(c:(lL o).St p a)(ah:∀be cG aU aa fj,(∀b∈aU,a.heap.objs.size<=b)->Aa 1892 a.heap aa->a.heap.objs.size<=aa.objs.size->(∀b∈aU,b<aa.objs.size)->(∃cv d7,TabAt a.heap 1894 1892 cv/\TabAt aa 1894 1892 (cv++d7))->(lL<|W (be,cG)).St (aU++p) {a with heap:=aa,toks:=fj}->(o=W (be,cG)/\aU=[]\/o=aQ/\aU=[cG])->C (.ref be) {a with heap:=aa,toks:=fj}):b9 aT q (functionCode n F5 cO name y' (sT i5) (fa i5)<|.stmts<|gC i5) C as a:=by cases o with
 |none=>
  refine gJ λw bI=>cY c λa5 nE=>br nE λcv bC az=>bI<|wpAny_functionCodeX za bC.1 bC.2 az λbe aa fj bp af ap bk cx ef⟨cG,x6,g3,sn⟩=>ah be cG [cG] aa fj (λb m=>(bm m).symm▸x6) bp (nP<|mG af ap) (λb m=>bm m▸(⟨g3,sn⟩:TabAt aa be cG #[]).1.lt.2) ⟨cv,_,bC,bk,ef⟩ (⟨λe=>?_,λe=>?_,bb gm af,bb gm x6,⟨_,⟨bk,ef⟩,?_⟩,⟨#[],g3,sn⟩,cx⟩)<|.inr ⟨U,U⟩
  .exact dH e (λe=>cd (e▸bC.1.lt.1) x6) λe=>a5 e
  .exact dH e (λe=>((⟨g3,sn⟩:TabAt aa be cG #[]).ne) e) λe=>cd (co _ e) af
  .exact V Array.toList_append<|codeAmong_snoc _ bC.triples az|some e=>refine gJ λw bI=>?_;obtain⟨be,cG⟩:=e;exact rn (id c) λa5 az af ap q0 wy bk=>br q0 λcv bC rB=>c5 wy λCm Cn=>bI<|wpAny_functionCode_hit za bC.1 rB<|ah be cG [] a.heap a.toks aW (HZ _ _) (dA _) aW ⟨cv,#[],bC,HO▸bC⟩ c<|.inl ⟨U,U⟩
section
variable{j:b7}{aE:ag}{T:Nat->Obj}{x:Nat}{au:fQ}{z:Nat}{q:bY}{n:Env}{p N aF:List aq}{S:Nat}{a:ag}{o:Option<|aq×aq}{A:b0}{aY:Inv}{ca:List ez}{K:gb->ag->Prop}
theorem ah1(n:Env):uF (fa i5) n=dz []:=by rfl
theorem ah2(aO:dy j aE T x au)(oK:n.scope=o5)(za:n.code=.ref 1894)(a5:qualnameIn n "to_binary" "to_binary"=y')(ax:eK z q)(cn:jT A)(M:cM (a3 j aE T x au) n p N aF S)(r:bw (a3 j aE T x au) n p N S A a)(ac:(lL o).At (a3 j aE T x au) n p N a)(cK:aY.At (a3 j aE T x au) n p N a)(ah3:1892∉aY.W)(c:∀be cG I eu nm E v aU c0,(o=W (be,cG)/\aU=[]\/o=aQ/\aU=[cG])->(∀b∈aU,a.heap.objs.size<=b)->a9 (b4 n++[1892]) [] a v->cM (a3 j aE T x au) n (aU++p) N aF c0->bw (a3 j aE T x au) n (aU++p) N c0 (("to_binary",.f<|us I be eu nm E)::A) v->(lL<|W (be,cG)).At (a3 j aE T x au) n (aU++p) N v->aY.At (a3 j aE T x au) n (aU++p) N v->Y ao j q (dE ca n) K v):Y ao j q (dE (i5::ca) n) K a:=by
 refine jf ahX λBc bG cr eE hE=>?_;have U1:=FF aO;have U2:2011<=a.heap.objs.size:=bb aO.2 r.2.1.2;refine V (pU ..)<|V bG<|V (exec_def ..)<|V a5<|V (defaultsOf_eq ..)<|V cr<|V eE<|V (ahY ..) ?_;refine Y.bind<|dV ?_;refine du<|k5 ?_;refine bj<|wpAny_evalAll_consts _ _ _ (λi bp=>by refine V (bm bp) ?_;rfl) λO xB qP=>?_;refine ko<|cN ?_;refine k5<|li ?_;refine iT (by exact V (makeFunction_eq ..)<|V hE U) ?_;refine c5 (by cases O with|nil=>exact nomatch qP|cons u y=>cases y with
   |nil=>refine c5 qP.1 λE e9=>?_;refine V e9 ?_;exact⟨E,U⟩|cons _ _=>exact nomatch qP.2:∃E,O=[.int 8 E]) λE bP=>?_;refine V bP ?_;refine bj<|wpAny_newTextTuple<|li<|li ?_;simp only[makeTail,List.isEmpty_nil,if_true,pure_bind,ah1];generalize fm:({a with heap:=a.heap.push {cls:=.type "tuple",data:=.seq [tD 8 E].toArray},toks:=xB}:ag)=an;have aL:a9 [] [] a an:=fm▸(bJ.push a _ _);have rP:an.heap.objs.size=a.heap.objs.size+1:=b' fm<|fZ ..;have ah4:an.heap.get? a.heap.objs.size=W (Co E):=b' fm<|fc _ U;have gH:=ac.it aL aW aW;have c_:=r.now.grow aL;have By:∀b∈p,b<an.heap.objs.size:=λb m=>cw ((M.up (c0:=a.heap.objs.size) r.1).8 b m) aL.2;have gm:2011<=an.heap.objs.size:=bb U2 aL.2;refine bj<|ah0 gm By za gH.1 λbe cG aU aa fj oa ah5 dW ah6⟨cv,d7,bC,rD⟩f4 aP=>?_;have a_:a9 [1892] [] an {an with heap:=aa,toks:=fj}:=bJ.heap (λb o m i=>ah5 b o (λe=>m<|km.mpr e) i) dW;generalize hy:({an with heap:=aa,toks:=fj}:ag)=am at a_ f4;have mm:∀b o,b<aE.heap.objs.size->b∉(a3 j aE T x au).tabs->aE.heap.get? b=W o->am.heap.get? b=W o:=λb o m bC i=>a_.1 b o (λe=>bC<|lD.mpr<|.inl<|bm e)<|c_.2.1.1 b o bC i;refine M.2.symm▸M.3.symm▸bj (U1.2 _ _ _ _ mm ?_);have U3:fh (a3 j aE T x au) am:=c_.2.QH (.inl<|lD.mpr<|.inl U) a_ bC<|b' hy rD;have mn:=(U3.ns U1.1).1;refine bj<|wpAny_nsGet mn ?_;refine li<|jd ?_ (by size_fits);generalize amC:((a3 j aE T x au).mg "__name__").getD .none=nm;have hf:aE.heap.objs.size<=an.heap.objs.size:=c_.2.1.2;have U4:(1892:aq)∈p:=(ac.2 1892 (by cases o<;>exact bz)).1;have ah7:(1892:aq)∉b4 n:=(ac.2 1892 (by cases o<;>exact bz)).2.2.1;have h4:=M.up (c0:=an.heap.objs.size)<|bb r.1 aL.2;have m_:∀b∈aU,an.heap.objs.size<=b/\b<am.heap.objs.size:=λb m=>⟨oa b m,b' hy<|ah6 b m⟩;have r4:cM (a3 j aE T x au) n (aU++p) N aF am.heap.objs.size:=h4.m6 m_ hf a_.2;have dS:bw (a3 j aE T x au) n (aU++p) N am.heap.objs.size A am:=c_.zB cn (cb:=[1892]) (λG ab=>V (bm ab) U4) (λG ab=>V (bm ab) ah7) a_ U3 λb m=>(m_ b m).1;have ah8:a.heap.objs.size≠1892:=λe=>absurd (e▸U2) bd;have i3:∀b∈p,b<a.heap.objs.size:=λb m=>cw (M.8 b m) r.1;have ah9:a.heap.objs.size∉aU++p:=λe=>bN e (λe=>absurd (m_ _ e).1<|V rP<|cy (.nl (.o .x) .x) [] U) λe=>h' _<|i3 _ e;have ah_:aY.At (a3 j aE T x au) n (aU++p) N am:=((cK.it aL aW aW).wide (λb m=>bO m) λb m=>bN m (λe=>.inr (m_ b e).1) .inl).it a_ (λb m=>V (bm m)<|⟨bO U4,ah3⟩) aW;have iN:(lL<|W (be,cG)).At (a3 j aE T x au) n (aU++p) N am:=by
  refine⟨f4,λb m=>?_,aW⟩;have cF:b=1892\/(∃g,o=W (g,b))\/b∈aU:=by
   refine dH m (λe=>?_) λe=>?_
   .exact .inl e
   .refine(bm e).symm▸?_;rcases aP with⟨i,_⟩|⟨_,i⟩
    .exact .inr<|.inl ⟨be,i⟩
    .exact V i<|.inr<|.inr bz
  have qn:b∈(lL o).W->b∈aU++p/\b∉N/\b∉b4 n/\(b∈(a3 j aE T x au).tabs\/aE.heap.objs.size<=b)/\b<am.heap.objs.size:=λe=>by exact kK (gH.2 b e) λdT d8 dO eM gg=>⟨bO dT,d8,dO,eM,cw gg a_.2⟩
  rcases cF with e|⟨g,e⟩|e
  .exact qn<|e▸by cases o<;>exact bz
  .exact qn<|V e<|mt bz
  .have t7:=(m_ b e).1;exact⟨b3 e,λdg=>cd (By b (M.5 b dg).1) t7,λdg=>cd (By b (M.4 b dg).1) t7,.inr<|bb hf t7,(m_ b e).2⟩--sx function object
 refine dV ?_;have ce:a9 [] [] am {am with heap:=am.heap.push<|r3 be a.heap.objs.size nm}:=bJ.push am _ am.toks;have U5:({am with heap:=am.heap.push<|r3 be a.heap.objs.size nm}:ag).heap.get? am.heap.objs.size=W (r3 be a.heap.objs.size nm):=fc _ U;show Y _ _ q _ _ {am with heap:=am.heap.push<|r3 be a.heap.objs.size nm};generalize({am with heap:=am.heap.push<|r3 be a.heap.objs.size nm}:ag)=cg at ce U5;have Ln:cf cg.heap (aU++p) (us am.heap.objs.size be a.heap.objs.size nm E) (.ref am.heap.objs.size):=by
  refine⟨U,λe a5=>?_⟩
  revert e;refine g4 ?_ ?_
  .exact⟨λG=>h' _<|r4.8 _ G,U5⟩
  .intro e a5;exact(bm a5).symm▸⟨ah9,ce.all _ _<|a_.1 _ _ (λe=>ah8<|bm e) ah4⟩
 refine Y.bind<|sF (b:=a1) r4 (dS.grow ce) Ln (by refine V oK ?_;cbv) λcU ft rZ=>Y.pure ?_;refine c be cG _ _ nm E cU aU _ aP (λb m=>bb aL.2 (m_ b m).1) ?_ r4 rZ ((iN.it ce aW aW).off r4 ft λb m=>.inr m)<|(ah_.it ce aW aW).off r4 ft λb m=>.inr m;exact(((aL.mono aW aW).trans<|a_.mono (λb m=>bO m) aW).trans<|ce.mono aW aW).trans<|ft.mono (λb m=>b3 m) aW
end
theorem d1.ag6(aO:dy j aE T x au)(cn:jT A)(e5:1940∉fD.W)(a7:gG (a3 j aE T x au) (z+2) Q A f3 [(.b2,.tup<|aB.map ti),(.b2,.buf<|cz<|gu aG)])(jv:y7 aB<|(aG.length+7)/8)(ab:aG.length<=2^20)(vx:f3.length<20)(R:eA Q "make_blocks"=Z:=by cbv):d1 (a3 j aE T x au) (z+2) q Q ((hU 1944 1940).both fD) A (.Call (.Name "make_blocks" e) f3 [] aj) (λu b1=>u=F3 aG aB/\b1=(hU 1944 1940).both fD):=λn p N aF S a ax L M r ac C ah=>by
 have h2:eA n.scope "make_blocks"=Z:=L▸R
 .refine Y.bind<|rz (aU:=[]) (ak:=[]) (hB (A:=A) (io aO) M afq h2) (vi h2) a _ r λa4 an aL ms=>V ms ?_;have c_:=r.grow aL;have gH:=ac.it aL aW aW;refine xM (jJ:=[]) (o:=ET ao j.params x) (bi:=y9 j.params x) (H:=λE=>bw (a3 j aE T x au) n p N S A E/\((hU 1944 1940).both fD).At (a3 j aE T x au) n p N E) a7.star vx (λE C r e ah=>a7.sj ax L M E C r e.1 ah) ⟨c_,gH⟩ (λE e=>aO.sub e.1.2 _ _ _ (UX ..) U) U (λE eR e s=>⟨e.1.grow s,e.2.it s aW aW⟩) ?_;intro aR am a_ aM;have dS:=c_.grow a_;have iN:=gH.it a_ aW aW;refine ahS aO ax M dS iN.fst aM jv ab λa4 cg ce cK Mn y=>?_;have qX:=iN.fst.2 1940 bz;exact ah a4 cg (F3 aG aB) _ p S ⟨U,U⟩ ⟨λw c=>c,λw c=>.inl c,λw c=>.inl c,λw c=>.inl c,λw c=>.inl c,(((aL.trans a_).mono aW aW).trans<|ce.mono (λb m=>bO<|b3 m) aW)⟩ M (dS.wQ cn (cb:=[1940]) (λG ab=>(bm ab).symm▸qX.1) (λG ab=>bm ab▸qX.2.2.1) ce Mn) (cK.both<|iN.snd.it ce (λb m=>bm m▸⟨qX.1,e5⟩) aW) y
namespace ct
theorem ag7(bp:d1 g z q Q ai A i λu b1=>u=.tup O/\b1=ai)(ay:qv aB=W aH)(aI:O.length=aH.length)(aP:aH.all (lu Q)=Z)(c:ct g z q Q ai (qw aH O A) ca cu)(rG:∀n:Env,GY [.Tuple aB t vm] i aj.line n=dz a1:=by exact λw=>U)(bS:∀n:Env,GZ [.Tuple aB t vm] i n=dz aQ:=by exact λw=>U):ct g z q Q ai A (.Assign [.Tuple aB t vm] i aj::ca) cu:=next λn p N aF S a ax oK M r ac=>by
 refine dV<|V (rG ..)<|eo<|Y.bind<|bp n p N aF S a ax oK M r ac _ λa4 an u dX dn e6 ui eh h4 c_ gH hr=>cY ui λbP cB=>?_;obtain rfl:=bP;obtain rfl:=cB;refine V (bS ..)<|eo<|V (show(uG [O' aB t vm] n)=[(a1,G0 (.Tuple aB t vm) n)]from U)<|Y.bind ?_;have y:tW (.Tuple aB t vm) an.heap dn (.tup O) a4:=by refine ni hr λh fz aA hq w aK av=>?_;obtain rfl:=hq;exact⟨O,h,fz,U,U,⟨_,aK,U,aA,U⟩,av⟩
 refine AR (b:=a1) ax.1 h4 c_ y (oK▸⟨aH,ay,aI,aP⟩) λam a_ dS=>Y.pure ⟨U,_,_,dn,N,e6,eh.trans<|gP.inside a_,h4,?_,gH.off h4 a_ λb m=>.inr m,c⟩;have:lv (.Tuple aB t vm) (.tup O) A=qw aH O A:=by show qw ((qv aB).getD []) O A=_;refine V ay ?_;rfl
 exact b' this dS
theorem q9(bC:gA g z Q A E b)(c:ct g z q Q ai A (bif b then vd else ve) λcO bU b1=>match cO with|.next=>ct g z q Q b1 bU ca cu|cO=>cu cO bU b1):ct g z q Q ai A (.If E vd ve aj::ca) cu:=λn p N aF S a ax L M r ac=>by refine Qu r (bC q n p N aF S ax L M) λan aL=>Y.mono (c n p N aF S an ax L M (r.grow aL)<|ac.it aL aW aW) ?_;rintro I am e;refine e.hO λcO bU bu cW c0 b1 aZ m eh bp gp=>?_;have qA:=(gP.rO (ai:=ai) (n:=n) (p:=p) (N:=N) aL).trans eh;cases cO with|next=>obtain⟨rfl,ew,bn⟩:=bp;exact .inl ⟨U,Y.mono (aZ n bu cW aF c0 am ax L ew bn gp) λI v aa=>aa.trans qA⟩|brk=>obtain⟨rfl,bp⟩:=bp;exact .inr ⟨(λe=>nomatch e),.brk,bU,bu,cW,c0,b1,aZ,m,qA,⟨U,bp⟩,gp⟩|cont=>obtain⟨rfl,bp⟩:=bp;exact .inr ⟨(λe=>nomatch e),.cont,bU,bu,cW,c0,b1,aZ,m,qA,⟨U,bp⟩,gp⟩|ret u=>obtain⟨a4,rfl,bp⟩:=bp;exact .inr ⟨(λe=>nomatch e),.ret u,bU,bu,cW,c0,b1,aZ,m,qA,⟨a4,U,bp⟩,gp⟩
end ct
section
open PySem PySem.W PySem.Calls PyProof.Rows
noncomputable def mA(i:aq):Obj:={cls:=.ref 1963,dict:=W i,data:=.plain}
noncomputable def ah':List Nat:=[1,0,0,0,1,0,1,0,1,0,0,0,0,0,0,0,0,1,0,0,0,0,0,1,0,1]
theorem aia(t s x:Nat)(aH:List al):kZ 30 (ip x) t s (callAny (.ref 1963) ⟨aH,[]⟩) (λE=>⟨[],0,E,[0,0],[],[]⟩) (λw=>.again<|.call (.builtin "type.__call__") ⟨.ref 1963::aH,[]⟩) (λG=>(G.gs,G.objs,G.m)) (λw=>([],[],0)):=λb j E=>by cases b<;>cbv
theorem aib(t s x:Nat)(aH:List al):kZ 30 (ip x) t s (uB "type.__call__" ⟨.ref 1963::aH,[]⟩) (λE=>⟨[],0,E,[0],[],[]⟩) (λw=>()) (λG=>(G.gs,G.objs,G.m)) (λw=>([],[],0)):=λb j E=>by cases b<;>cbv
theorem aic(t s x:Nat):kZ 30 (ip x) t s (mroOf<|.ref 1963) (λE=>⟨[],0,E,[0],[],[]⟩) (λw=>[.ref 1963,.type "object"]) (λG=>(G.gs,G.objs,G.m)) (λw=>([],[],0)):=λb j E=>by cases b<;>cbv
theorem aid(t s x:Nat):kZ 30 (ip x) t s (Bind.madeBy<|.ref 1963) (λE=>⟨[],0,E,[0,0],[],[]⟩) (λw=>W "object.__new__") (λG=>(G.gs,G.objs,G.m)) (λw=>([],[],0)):=λb j E=>by cases b<;>cbv
theorem aie(t s x:Nat)(f:al):kZ 30 (ip x) t s (er (.builtin "object.__new__") [.ref 1963,f] []) (λE=>⟨[],0,E,dq 20 0,[],[]⟩) (λw=>.ref<|t+1) (λG=>(G.gs,G.objs,G.m)) (λw=>([],[(t,lE),(t+1,mA t)],2)):=λb j E=>by cases b<;>cbv
theorem aif(t s x:Nat):kZ 30 (ip x) t s (er (.builtin "object.__new__") [.ref 1963] []) (λE=>⟨[],0,E,dq 15 0,[],[]⟩) (λw=>.ref<|t+1) (λG=>(G.gs,G.objs,G.m)) (λw=>([],[(t,lE),(t+1,mA t)],2)):=λb j E=>by cases b<;>cbv
theorem aig(h i t s x:Nat):kZ 30 (ip x) t s (isInstance (.ref h)<|.ref 1963) (λE=>⟨[(h,mA i)],0,E,[1,0],[],[]⟩) (λw=>Z) (λG=>(G.gs,G.objs,G.m)) (λw=>([],[(h,mA i)],0)):=λb j E=>by cases b<;>cbv
theorem aih(h i t s x:Nat):kZ 30 (ip x) t s (specialOf (.ref h) "__init__") (λE=>⟨[(h,mA i)],0,E,[1,0,0,0],[],[]⟩) (λw=>W<|.ref 1917) (λG=>(G.gs,G.objs,G.m)) (λw=>([],[(h,mA i)],0)):=λb j E=>by cases b<;>cbv
theorem aii(h i t s x:Nat):kZ 30 (ip x) t s (bindSpecial (.ref 1917)<|.ref h) (λE=>⟨[(h,mA i)],0,E,[0],[],[]⟩) (λw=>(.ref 1917,[.ref h])) (λG=>(G.gs,G.objs,G.m)) (λw=>([],[(h,mA i)],0)):=λb j E=>by cases b<;>cbv
theorem aij(h z i t s x:Nat):kZ 30 (ip x) t s (setAttr (.ref h) "_data"<|.ref z) (λE=>⟨[(h,mA i)],0,E,ah',[],[]⟩) (λw=>()) (λG=>(G.gs,G.objs,G.m)) (λw=>([],[(h,jU z i)],0)):=λb j E=>by cases b<;>cbv
end
section
open PySem PySem.W PySem.Calls PyProof.Rows
theorem ut{bf:Type}{E:Sem bf}{u:bf}{os:List<|aq×Obj}{Q:List Nat}{C:bf->ag->Prop}(ab:kZ 30 (ip x) a.heap.objs.size a.gens.size E (λE=>⟨os,0,E,Q,[],[]⟩) (λw=>u) (λG=>(G.gs,G.objs,G.m)) λw=>([],os,0))(av:q.depth+90<fF)(L:Sub (em j.params x) a.heap)(aP:∀r∈os,a.heap.get? r.1=W r.2)(ay:(os.map (·.1)).Nodup)(gm:∀r∈os,2011<=r.1)(ah:∀v,a9 [] [] a v->C u v):Y ao j q E C a:=by refine Y.of<|uh ab av (eV.start L aP ay λr aZ o db i fO=>cd (s6 (qT (T:=λw=>oc) i fO).2.2)<|gm r aZ) λev v iq M=>?_;simp only[p2]at M;exact eQ M λm3 jw oY=>ah v<|iq.same λr aZ=>by rw[jw]at aZ;exact .inl<|aP r aZ
theorem wA(L:Sub bc a.heap)(s:a9 [] [] a v):Sub bc v.heap:=λh o db i fO=>s.all _ _<|L h o db i fO
@[elab_as_elim]theorem aik{bf:Type _}{H:List bf->Prop}(D:List bf)(c:D.length<=1)(aO:H [])(af:∀f,H [f]):H D:=by cases D with|nil=>exact aO|cons f y=>cases y with|nil=>exact af f|cons B y=>exact absurd c<|NE<|uK 2 _
theorem ail(BG:ca.length<=1)(av:q.depth+90<fF)(L:Sub (em j.params x) a.heap)(ah:∀v,v.heap.get? a.heap.objs.size=W lE->v.heap.get? (a.heap.objs.size+1)=W (mA a.heap.objs.size)->a9 [] [] a v->C (.ref<|a.heap.objs.size+1) v):Y ao j q (er (.builtin "object.__new__") (.ref 1963::ca) []) C a:=by
 have cF:∀(ev:e2)(v:ag),eV (em j.params x) a.heap.objs.size a.gens.size a ev v->(ev.gs,ev.objs,ev.m)=(([]:List iv),[(a.heap.objs.size,lE),(a.heap.objs.size+1,mA a.heap.objs.size)],2)->C (.ref<|a.heap.objs.size+1) v:=λev v iq M=>by
  simp only[p2]at M;refine eQ M λm3 jw oY=>ah v (iq.3 0 _ _ (by refine V jw ?_;rfl)) (iq.3 1 _ _ (by refine V jw ?_;rfl))<|iq.grow (K:=[]) λr aZ=>?_;rw[jw]at aZ
  revert r;refine g4 ?_ ?_
  .exact .inr<|dA _
  .intro r aZ;exact V (bm aZ)<|.inr<|kl _
 refine aik ca BG ?_ λf=>?_
 .exact Y.of<|uh (aif a.heap.objs.size a.gens.size x) av (eV.start (K:=[]) L aW rd aW) cF
 .exact Y.of<|uh (aie a.heap.objs.size a.gens.size x f) av (eV.start (K:=[]) L aW rd aW) cF
theorem U6{ca:List al}{C:al->ag->Prop}(BG:ca.length<=1)(av:q.depth+91<fF)(L:Sub (em j.params x) a.heap)(gm:2011<=a.heap.objs.size)(c:∀ej h i an,ej.handled=q.handled->ej.depth<=q.depth+1->ej.units<=q.units+1->a.heap.objs.size<=i->i<h->an.heap.get? h=W (mA i)->an.heap.get? i=W lE->a9 [] [] a an->Y ao j ej (er (.ref 1917) (.ref h::ca) []) (λy am=>y=.none/\C (.ref h) am) an):Y ao j q (er (.ref 1963) ca []) C a:=by refine Y.call<|d2.lI U ?_;have U7:q.depth+90<recursionLimit:=mG (kl _) av;refine ut (aia _ _ x ca) U7 L aW rd aW λan aL=>?_;have fm:=wA L aL;refine⟨U,d2.lI U<|Y.bind<|ut (aib _ _ x ca) U7 fm aW rd aW λam a_=>?_⟩;have hy:=wA fm a_;refine Y.pure ⟨HR _ (by decide+kernel),d2.builtin (by show qf.contains "type.__call__"=a1;decide+kernel) HS ?_⟩;have dT:(q.under<|.builtin "type.__call__" ⟨.ref 1963::ca,[]⟩).handled=q.handled:=U;have d8:(q.under<|.builtin "type.__call__" ⟨.ref 1963::ca,[]⟩).depth<=q.depth+1:=Hq (dA 1) _;have dO:(q.under<|.builtin "type.__call__" ⟨.ref 1963::ca,[]⟩).units<=q.units+1:=Hq (dA 1) _;generalize q.under (.builtin "type.__call__" ⟨.ref 1963::ca,[]⟩)=ej at dT d8 dO;replace av:ej.depth+90<recursionLimit:=hh (.t (.a .x<|.n 90) .y) [.t (.a .z<|.n 91) .y,.l .x<|.o .z] U av d8;refine Y.bind<|ut (aic _ _ x) av hy aW rd aW λcg ce=>?_;have m0:=wA hy ce;refine Y.bind<|ut (aid _ _ x) av m0 aW rd aW λcU ft=>?_;have U8:=wA m0 ft;refine eo ?_;have ly:=((aL.trans a_).trans ce).trans ft;refine d6<|ail BG av U8 λuk bp a7 oi=>?_;have yg:=wA U8 oi;have sr:∀r∈[(cU.heap.objs.size+1,mA cU.heap.objs.size)],2011<=r.1:=λr aZ=>bm aZ▸w7 (bb gm ly.2);have xC:∀{v:ag},a9 [] [] uk v->∀r∈[(cU.heap.objs.size+1,mA cU.heap.objs.size)],v.heap.get? r.1=W r.2:=λs r aZ=>bm aZ▸s.all _ _ a7;refine Y.bind<|ut (aig (cU.heap.objs.size+1) cU.heap.objs.size _ _ x) av yg (xC<|bJ.refl ..) (by simp) sr λam4 vV=>?_;have U9:=wA yg vV;refine d6<|Y.bind<|ut (aih (cU.heap.objs.size+1) cU.heap.objs.size _ _ x) av U9 (xC vV) (by simp) sr λam5 Mo=>Y.holding<|Y.bind<|ut (aii (cU.heap.objs.size+1) cU.heap.objs.size _ _ x) av (wA U9 Mo) (xC<|vV.trans Mo) (by simp) sr λaim ain=>?_;have Mp:=(vV.trans Mo).trans ain;refine hi (c ej (cU.heap.objs.size+1) cU.heap.objs.size aim dT d8 dO ly.2 (lM _) (Mp.all _ _ a7) (Mp.all _ _ bp)<|(ly.trans oi).trans Mp) ?_;rintro y am6⟨rfl,a5⟩;exact Y.pure<|Y.pure ⟨_,U,a5⟩
end
theorem U_(az:g.Ok)(ax:eK (z+1) q)(bg:FnAt a h bi ep)(pv:bi.globals=3)(n9:bi.builtins=0)(M:cM g n p N aF S)(r:bw g n p N S A a)(aM:mr S p ec a aR)(aI:ec.length=eb.length)(m:iO a bi ⟨pw,[]⟩<|eb.zip aR)(aP:eb.all (lu bi.scope)=Z)(iG:∀v,(∀b∈b4<|cX bi h a,a.heap.objs.size<=b)->a9 [] [] a v->cM g (cX bi h a) (b4 (cX bi h a)++p) [] p v.heap.objs.size->bw g (cX bi h a) (b4 (cX bi h a)++p) [] v.heap.objs.size (js eb ec []) v->eK z (q.deeper<|cX bi h a)->Y g.prog g.w (q.deeper<|cX bi h a) (dE ep<|cX bi h a) (λI el=>C (Jz I) el) v):Y g.prog g.w q (er (.ref h) pw []) C a:=Rp az ax bg pv n9 (λb m=>M.6 b<|M.7 b m) M.9 M.8 r.1 r.2 aM aI m aP iG
noncomputable def zb:Stmt:=gr (cj ao 19) 2
noncomputable def wB(H:cc)(x:Nat):FuncData:=fdOf<|KF ao H x
theorem aio(H:cc)(x:Nat):(em H x).get 1917=W (KF ao H x):=by cbv
theorem aip(H:cc)(x:Nat):(em H x).get 1916=W (Sx ao H x):=by cbv
theorem U'(H:cc)(x:Nat):(em H x).get 1910=W (EU ao H x):=by cbv
theorem aiq(a:ag)(H:cc)(x:Nat)(L:Sub (em H x) a.heap)(f B:al):iO a (wB H x) ⟨[f,B],[]⟩ [("self",f),("iterable",B)]:=H5 (T:=1910) (o:=EU ao H x) (items:=#[.ref 1909]) (n:=0) (by cbv) (L _ _ _ (U' H x) U) (by cbv) U (by cbv)
theorem air(a:ag)(H:cc)(x:Nat)(L:Sub (em H x) a.heap)(f:al):iO a (wB H x) ⟨[f],[]⟩ [("self",f),("iterable",.ref 1909)]:=H5 (T:=1910) (o:=EU ao H x) (items:=#[.ref 1909]) (n:=0) (by cbv) (L _ _ _ (U' H x) U) (by cbv) U (by cbv)
theorem ais(c:dy j aE T x au)(b:fh (a3 j aE T x au) a):FnAt a 1917 (wB j.params x) (gC zb):=wj (e:=1916) (E:=x+867) c b (aio ..) U (by cbv) (by cbv) (aip ..) U (by cbv) (by cbv) (by cbv) (by cbv) (by cbv) (by cbv)
theorem ait:∃e1 fi hG ij kW pz,gC zb=[.Assign [.Attribute (.Name "self" e1) "_data" fi] (.Call (.Name "bytearray" hG) [.Name "iterable" ij] [] kW) pz]:=(Xf _ _ _ _ _ _ U)
theorem Va(aO:dy j aE T x au)(ax:eK (z+1) q)(M:cM (a3 j aE T x au) n p N aF S)(r:bw (a3 j aE T x au) n p N S A a)(a7:a.heap.get? h=W (mA i))(gm:2011<=h)(aM:e' S p iJ.1 iJ.2 a a4)(aiu:iO a (wB j.params x) ⟨pw,[]⟩ [("self",.ref h),("iterable",a4)])(AI:fI (js ["self","iterable"] [(.b2,.raw<|.ref h),iJ] []) "self"=W (.f<|.raw<|.ref h))(e5:∀hG ij kW,ae (a3 j aE T x au) z (fa zb) (js ["self","iterable"] [(.b2,.raw<|.ref h),iJ] []) (.Call (.Name "bytearray" hG) [.Name "iterable" ij] [] kW) .fr<|gh aw)(ah:∀bH v,a9 [h] [] a v->a.heap.objs.size<=bH->v.heap.get? bH=W (cQ<|cz aw)->v.heap.get? h=W (jU bH i)->C .none v):Y ao j q (er (.ref 1917) pw []) C a:=by
 refine U_ (g:=a3 j aE T x au) (eb:=["self","iterable"]) (ec:=[(.b2,.raw<|.ref h),iJ]) (aR:=[.ref h,a4]) (io aO) ax (ais aO r.2) (by cbv) (by cbv) M r ⟨_,_,U,(U),_,_,U,aM,U⟩ U aiu (by cbv) λv dP bX ew bn gf=>?_;have i6:(cX (wB j.params x) 1917 a).scope=fa zb:=by cbv
 generalize q.deeper (cX (wB j.params x) 1917 a)=kf at*;generalize cX (wB j.params x) 1917 a=ed at*;refine DO ait λe1 fi hG ij kW pz iG=>iG.symm▸Y.bind (dV ?_);have rG:GY [.Attribute (.Name "self" e1) "_data" fi] (.Call (.Name "bytearray" hG) [.Name "iterable" ij] [] kW) pz.line ed=dz a1:=U;have FG:GZ [.Attribute (.Name "self" e1) "_data" fi] (.Call (.Name "bytearray" hG) [.Name "iterable" ij] [] kW) ed=dz aQ:=U;refine eo<|gK bd ?_;refine Y.bind<|(e5 hG ij kW) kf ed _ [] p _ gf i6 ew v _ bn λam7 an aL bl=>?_;refine fx bl λbH e9 mu g1=>V e9 ?_;replace g1:an.heap.get? bH=W (cQ<|cz aw):=g1;refine eo<|Y.eq (by rw[show(uG [Expr.Attribute (.Name "self" e1) "_data" fi] ed)=[(a1,G0 (.Attribute (.Name "self" e1) "_data" fi) ed)]from U]) ?_;refine Y.bind ?_;show Y _ _ kf (G0 (.Attribute (.Name "self" e1) "_data" fi) ed<|.ref bH) _ an;refine Y.eq (by rw[arm_assign_Attribute])<|d6 ?_;have c_:=bn.grow aL;refine(ae.name (g:=a3 j aE T x au) (z:=z) (Q:=fa zb) (A:=js ["self","iterable"] [(.b2,.raw<|.ref h),iJ] []) (u:=.raw<|.ref h) (f:="self") (aj:=e1) AI (by cbv)) kf ed _ [] p _ gf i6 ew an _ c_ λlq am a_ aP=>?_;have kv:lq=.ref h:=by have c:cf am.heap (b4 ed++p) (.raw<|.ref h) lq:=aP;exact c
 refine V kv<|dV ?_;have ce:a9 [] [] a am:=(bX.trans aL).trans a_;refine d6<|Y.of<|uh (aij h bH i am.heap.objs.size am.gens.size x) (by show kf.depth+90<1000;exact c3 (.t (.a .x<|.n 90)<|.n 1000) [.l (.a .x .y)<|.n 900] U gf.2) (eV.start (aO.sub (c_.grow a_).2) (λe a5=>bm a5▸(ce.all _ _ a7)) (by simp) λe a5 o db mx fO=>?_) λev cg iq M=>?_
 .rw[bm a5]at mx;exact cd (s6 (qT (T:=λw=>oc) mx fO).2.2) gm
 .simp only[p2]at M;refine eQ M λm3 jw oY=>?_;have ft:a9 [h] [] am cg:=iq.grow λe a5=>by rw[jw]at a5;rw[bm a5];exact .inl bz
  have c9:bH≠h:=λe=>by rw[e]at mu;exact cd (dB a7)<|bb bX.2 mu
  refine IJ<|Y.pure ?_;refine Qt ?_;refine ah bH cg ((ce.mono aW aW).trans ft) (bb bX.2 mu) (ft.1 _ _ (λe=>c9<|bm e)<|a_.all _ _ g1)<|iq.3 0 _ _ (by rw[jw];rfl)
theorem aiv(aO:dy j aE T x au)(ax:eK (z+1) q)(M:cM (a3 j aE T x au) n p N aF S)(r:bw (a3 j aE T x au) n p N S A a)(a7:a.heap.get? h=W (mA i))(gm:2011<=h)(aM:e' S p l (cS aw) a a4)(m:gs aw)(ab:aw.length<=cI)(ah:∀bH v,a9 [h] [] a v->a.heap.objs.size<=bH->v.heap.get? bH=W (cQ<|cz aw)->v.heap.get? h=W (jU bH i)->C .none v):Y ao j q (er (.ref 1917) [.ref h,a4] []) C a:=Va (iJ:=(l,cS aw)) aO ax M r a7 gm aM (aiq a j.params x (aO.sub r.2) (.ref h) a4) (by cases l<;>rfl) (λhG ij kW=>by
  have dx:∃fB,ae (a3 j aE T x au) z (fa zb) (js ["self","iterable"] [(.b2,.raw<|.ref h),(l,cS aw)] []) (.Name "iterable" ij) fB (cS aw):=by cases l with
   |fr=>exact⟨.b2,ar.nm⟩|b2=>exact⟨.b2,ar.nm⟩|ls=>exact⟨.ls,ar.X6⟩
  refine c5 dx λfB dx=>?_;exact ae.aaP (aj:=kW) (e:=hG) (io aO) dx FB m ab (by cbv) (by rfl)) ah
section
theorem aiw(t s x:Nat):kZ 30 (ip x) t s (sd<|.ref 1963) (λE=>⟨[],0,E,[0,0],[],[]⟩) (λw=>.machine) (λG=>(G.gs,G.objs,G.m)) (λw=>([],[],0)):=λb j E=>by cases b<;>cbv
variable{j:b7}{aE a:ag}{T:Nat->Obj}{x:Nat}{au:fQ}{z:Nat}{q:bY}{n:Env}{Q:c4}{p N aF:List aq}{S:Nat}{A:b0}{i:bB}{aw:List Int}{l:ha}
theorem Vb(av:q.depth+90<fF)(ay:aB.all d0=Z)(c:mR ao j q [] [] n H aB ar)(L:H a)(bM:su [] [] H)(lQ:∀a,H a->Sub (em j.params x) a.heap)(sw:∀a v aR,ar a aR->a9 [] [] a v->ar v aR)(az:∀aR v,a9 [] [] a v->ar v aR->Y ao j q (er (.ref 1963) aR []) C v):Y ao j q (pT aj (.ref 1963) [] (jX Az<|je aB n) []) C a:=by unfold pT;exact d6<|xG ay c L λaR an aL cR=>dV<|V (va ay ..)<|V (xd ..)<|V (sb ..)<|Y.bind<|ut (aiw _ _ x) av (lQ an<|bM _ _ L aL) aW rd aW λam a_=>hi (az aR am (aL.trans a_)<|sw _ _ _ cR a_) λy am av=>du<|k5<|o'<|Y.pure av
theorem ae.JS{e aj:Pos}(aO:dy j aE T x au)(c:ae (a3 j aE T x au) (z+2) Q A i l<|cS aw)(m:gs aw)(ab:aw.length<=cI)(R:eA Q "Buffer"=Z:=by cbv)(ay:d0 i=Z:=by rfl):ae (a3 j aE T x au) (z+2) Q A (.Call (.Name "Buffer" e) [i] [] aj) .b2 (.buf<|cz aw):=λq n p N aF S ax L M a C r ah=>by
 have h2:eA n.scope "Buffer"=Z:=L▸R;have bl:=ax.2
 .refine Y.bind<|rz (aU:=[]) (ak:=[]) (hB (A:=A) (io aO) M TK h2) (vi h2) a _ r λa4 an aL ms=>?_;subst ms;refine Y.eq (V (C2 ..) U) ?_;have c_:=r.grow aL;refine Vb (x:=x) (H:=bw (a3 j aE T x au) n p N S A) (by show q.depth+90<1000;exact c3 (.t (.a .x<|.n 90)<|.n 1000) [.l (.a .x<|.a .y<|.n 2)<|.n 900] U bl) (by simp[ay]) (Bs (g:=a3 j aE T x au) ay<|c q n p N aF S ax L M) c_ (λE eR e s=>e.grow s) (λE e=>aO.sub e.2) (λE eR aR aM s=>by obtain⟨a4,rfl,aM⟩:=aM;exact(dj a4 U<|e'.iB _ _ _ aM s)) ?_;rintro aR am a_⟨a4,rfl,aM⟩;have dS:=c_.grow a_;have gm:2011<=am.heap.objs.size:=bb aO.2 dS.2.1.2;refine U6 (dA 1) (by show q.depth+91<1000;exact c3 (.t (.a .x<|.n 91)<|.n 1000) [.l (.a .x<|.a .y<|.n 2)<|.n 900] U bl) (aO.sub dS.2) gm λej h ck cg fX gY jO bp wC Mq vC ce=>?_;have uu:2011<=h:=bb gm<|bb bp<|nP wC;refine aiv (q:=ej) (z:=z) aO ⟨fX.trans ax.1,by exact hh (.l (.a .x<|.o .y)<|.n 900) [.l (.a .z<|.a .y<|.n 2)<|.n 900,.l .x<|.o .z] U bl gY,by exact hh (.l (.a .x<|.m 4<|.o .y)<|.n 5000) [.l (.a .z<|.m 4<|.a .y<|.n 2)<|.n 5000,.l .x<|.o .z] U ax.3 jO⟩ M (dS.grow ce) Mq uu (e'.iB _ _ _ aM ce) m ab λbH cU ft mu g1 h5=>⟨U,?_⟩;have i3:∀b∈p,b<am.heap.objs.size:=λb m=>cw (M.8 b m) dS.1;exact ah _ cU ((aL.trans a_).trans<|ce.hj ft (λb m=>.inr<|gz<|bm m▸bb bp (nP wC)) aW)<|Ic h bH ck U (λe=>cd (i3 _ e)<|bb bp<|nP wC) h5 (λe=>cd (i3 _ e)<|bb ce.2 mu) g1 (λe=>cd (i3 _ e) bp) (ft.1 _ _ (λe=>absurd (bm e)<|gD wC) vC)<|bb gm bp
end
section
open PySem PySem.W PySem.F PySem.Calls PyProof.Rows
section
theorem aix(aP:a.heap.get? h=W (cQ b))(aI:a.heap.IsTuple D #[])(c9:D≠h)(c:∀aa,aa.get? h=W (cQ #[])->iQ h a.heap aa->C .none {a with heap:=aa}):Y prog j q (er (.builtin "bytearray.__init__") [.ref h,.ref D]) C a:=P' (O:=[]) Ya Yb (.inr U) aP aI c9 (λw e=>nomatch e) (eJ _) c
theorem aiy(aI:a.heap.IsTuple D #[])(c:∀aa,lR a.heap aa (cQ #[])->C (.ref a.heap.objs.size) {a with heap:=aa}):Y prog j q (er (.type "bytearray") [.ref D]) C a:=by refine Is Iv (Iw _)<|Iy _ ?_;have aA:lR a.heap (a.heap.push<|cQ #[]) (cQ #[]):=lR.push U;exact⟨gV (a:={a with heap:=a.heap.push<|cQ #[]}) aA.1,(br (id aI) λo qg w=>aix (a:={a with heap:=a.heap.push<|cQ #[]}) aA.1 (aI.push _) (gD<|dB qg) λaa aK L=>⟨U,c aa<|aA.same aK L⟩)⟩
end
end
noncomputable def g9(h bH i:aq)(aw:List Int):Inv where
 W:=[bH]
 G:=[]
 St:=λp a=>h∉p/\a.heap.get? h=W (jU bH i)/\i∉p/\a.heap.get? i=W lE/\2011<=h/\2011<=i/\2011<=bH/\a.heap.get? bH=W (cQ<|cz aw)
 frame:=λp a v cb c6 c s dK w=>by exact p5 c λaf ap bk cx ef fL g3 sn=>⟨af,s.1 _ _ (λe=>af (dK _ e).1) ap,bk,s.1 _ _ (λe=>bk (dK _ e).1) cx,ef,fL,g3,s.1 _ _ (λe=>(dK _ e).2 bz) sn⟩
 mono:=λp bu a c co=>by exact p5 c λaf ap bk cx ef fL g3 sn=>⟨λe=>(co _ e).elim af λG=>cd (dB ap) G,ap,λe=>(co _ e).elim bk λG=>cd (dB cx) G,cx,ef,fL,g3,sn⟩
theorem aiz(H:cc)(x:Nat):(em H x).get 1909=W (Sw ao H x):=by cbv
theorem aiA(aO:dy j aE T x au)(ax:eK (z+1) q)(M:cM (a3 j aE T x au) n p N aF S)(r:bw (a3 j aE T x au) n p N S A a)(a7:a.heap.get? h=W (mA i))(gm:2011<=h)(ah:∀bH v,a9 [h] [] a v->a.heap.objs.size<=bH->v.heap.get? bH=W (cQ<|cz [])->v.heap.get? h=W (jU bH i)->C .none v):Y ao j q (er (.ref 1917) [.ref h] []) C a:=Va (iJ:=(.b2,.raw<|.ref 1909)) (a4:=.ref 1909) (aw:=[]) aO ax M r a7 gm (by exact U) (air a j.params x (aO.sub r.2)<|.ref h) U (λhG ij kW=>by intro q n p N aF S ax L M;refine kO M.ok (hB (io aO) M FB (by rw[L];cbv)) U (hN U M.ok ((ar.nm (g:=a3 j aE T x au) (z:=z) (u:=.raw<|.ref 1909)) q n p N aF S ax L M) e'.iB iY) ?_ U;rintro a aR aZ bP C ah;refine ei bP λfM y cB jL dv=>V cB<|V dv ?_;have aiB:cf a.heap p (.raw<|.ref 1909) fM:=jL;refine V aiB<|aiy ⟨_,aO.sub aZ.2 _ _ _ (aiz ..) U,U,0,U⟩ λaa aA=>?_;exact ah _ _ aA.grow<|KB aZ.1 aA) ah
theorem d1.JS(aO:dy j aE T x au)(cn:jT A)(R:eA Q "Buffer"=Z:=by cbv):d1 (a3 j aE T x au) (z+2) q Q ai A (.Call (.Name "Buffer" e) [] [] aj) (λu b1=>∃h bH i,u=.raw (.ref h)/\bH∉ai.W/\b1=ai.both (g9 h bH i [])):=λn p N aF S a ax L M r ac C ah=>by
 have h2:eA n.scope "Buffer"=Z:=L▸R;have bl:=ax.2
 .refine Y.bind<|rz (aU:=[]) (ak:=[]) (hB (A:=A) (io aO) M TK h2) (vi h2) a _ r λa4 an aL ms=>V ms<|Y.eq (by rw[C2]) ?_;have c_:=r.grow aL;refine Vb (x:=x) (H:=bw (a3 j aE T x au) n p N S A) (ar:=λw aR=>aR=[]) (by show q.depth+90<1000;exact c3 (.t (.a .x<|.n 90)<|.n 1000) [.l (.a .x<|.a .y<|.n 2)<|.n 900] U bl) U iY c_ (λE eR e s=>e.grow s) (λE e=>aO.sub e.2) (λw w w c w=>c) ?_;rintro aR am a_ rfl;have dS:=c_.grow a_;have gm:2011<=am.heap.objs.size:=bb aO.2 dS.2.1.2;refine U6 (eJ 1) (by show q.depth+91<1000;exact c3 (.t (.a .x<|.n 91)<|.n 1000) [.l (.a .x<|.a .y<|.n 2)<|.n 900] U bl) (aO.sub dS.2) gm λej h ck cg fX gY jO bp wC Mq vC ce=>?_;have F7:am.heap.objs.size<=h:=bb bp<|nP wC;refine aiA (q:=ej) (z:=z) aO ⟨fX.trans ax.1,by exact hh (.l (.a .x<|.o .y)<|.n 900) [.l (.a .z<|.a .y<|.n 2)<|.n 900,.l .x<|.o .z] U bl gY,by exact hh (.l (.a .x<|.m 4<|.o .y)<|.n 5000) [.l (.a .z<|.m 4<|.a .y<|.n 2)<|.n 5000,.l .x<|.o .z] U ax.3 jO⟩ M (dS.grow ce) Mq (bb gm F7) λbH cU ft mu g1 h5=>⟨U,?_⟩;have i3:∀b∈p,b<am.heap.objs.size:=λb m=>cw (M.8 b m) dS.1;have ly:a9 [] [] a cU:=(aL.trans a_).trans<|ce.hj ft (λb m=>.inr<|gz<|bm m▸F7) aW;have Vc:am.heap.objs.size<=bH:=bb ce.2 mu;have hf:aE.heap.objs.size<=a.heap.objs.size:=r.2.1.2;have Vd:cU.heap.get? ck=W lE:=ft.1 _ _ (λe=>absurd (bm e)<|gD wC) vC;have dP:∀b∈[bH],a.heap.objs.size<=b/\b<cU.heap.objs.size:=λb m=>bm m▸⟨bb ((aL.trans a_).2) Vc,(dB g1)⟩;have eL:=M.up (c0:=a.heap.objs.size) r.1;have yo:bH≠h:=λe=>by replace g1:=h5▸e▸g1;exact nomatch g1
  have Mr:bH≠ck:=λe=>by replace g1:=Vd▸e▸g1;exact absurd (congrArg Obj.cls<|d4 g1) bd
  have aiC:bH∉ai.W:=λe=>cd (ac.2 bH e).2.2.2.2 (dP bH<|bz).1;have pM:(g9 h bH ck []).At (a3 j aE T x au) n ([bH]++p) N cU:=by
   refine⟨⟨λe=>?_,h5,λe=>?_,Vd,bb gm F7,bb gm bp,bb gm Vc,g1⟩,λb m=>?_,aW⟩
   .exact bN e (λe=>yo (bm e).symm) λe=>cd (i3 _ e) F7
   .exact bN e (λe=>Mr (bm e).symm) λe=>cd (i3 _ e) bp
   .have dR:=dP b m;exact⟨b3 m,λe=>cd (eL.8 b (M.5 b e).1) dR.1,λe=>cd (eL.8 b (M.4 b e).1) dR.1,.inr<|bb hf dR.1,dR.2⟩
  exact ah _ cU (.raw<|.ref h) _ _ _ (Am h bH ck U aiC U) ⟨λb m=>bO m,λb m=>bN m (λe=>.inr (dP b e).1) .inl,λw c=>.inl c,λb m=>bN m .inl λe=>.inr (dP b e).1,λk ac=>.inl<|bN ac id λe=>dt e,ly.mono aW aW⟩ (eL.m6 dP hf ly.2) (r.zB cn (cb:=[]) aW aW ly (r.2.to ly aW) λb m=>(dP b m).1) (((ac.wide (λb m=>bO m) λb m=>bN m (λe=>.inr (dP b e).1) .inl).it ly aW aW).both pM)<|U
noncomputable def Cp:Stmt:=gr (cj ao 19) 3
noncomputable def wD(H:cc)(x:Nat):FuncData:=fdOf<|Bv ao H x
theorem Ms(H:cc)(x:Nat):(em H x).get 1924=W (Bv ao H x):=by cbv
theorem aiD(H:cc)(x:Nat):(em H x).get 1923=W (Sy ao H x):=by cbv
theorem aiE(a:ag)(H:cc)(x:Nat)(f B:al):iO a (wD H x) ⟨[f,B],[]⟩ [("self",f),("iterable",B)]:=p3 (by cbv)
theorem aiF(c:dy j aE T x au)(b:fh (a3 j aE T x au) a):FnAt a 1924 (wD j.params x) (gC Cp):=wj (e:=1923) (E:=x+875) c b (Ms ..) U (by cbv) (by cbv) (aiD ..) U (by cbv) (by cbv) (by cbv) (by cbv) (by cbv) (by cbv)
theorem aiG:∃e1 fi hG ij kW pz,gC Cp=[.Expr (.Call (.Attribute (.Attribute (.Name "self" e1) "_data" fi) "extend" hG) [.Name "iterable" ij] [] kW) pz]/\(hG.endLine==kW.line)=Z:=(Xg _ _ _ _ _ _ U U)
theorem Ve(aO:dy j aE T x au)(ax:eK (z+1) q)(M:cM (a3 j aE T x au) n p N aF S)(r:bw (a3 j aE T x au) n p N S A a)(h5:a.heap.get? h=W (jU bH i))(g1:a.heap.get? bH=W (cQ b))(aiH:∀ej v,eK z ej->a9 [] [] a v->Y ao j ej (er (.builtin "bytearray.extend") [.ref bH,a4] []) (λy el=>y=.none/\C .none el) v):Y ao j q (er (.ref 1924) [.ref h,a4] []) C a:=by
 refine U_ (g:=a3 j aE T x au) (eb:=["self","iterable"]) (ec:=[(.b2,.raw<|.ref h),(.b2,.raw a4)]) (aR:=[.ref h,a4]) (io aO) ax (aiF aO r.2) (by cbv) (by cbv) M r ⟨_,_,U,(U),_,_,U,(U),U⟩ U (aiE a j.params x (.ref h) a4) (by cbv) λv dP bX ew bn gf=>?_;have i6:(cX (wD j.params x) 1924 a).scope=fa Cp:=by cbv
 generalize q.deeper (cX (wD j.params x) 1924 a)=kf at*;generalize cX (wD j.params x) 1924 a=ed at*;refine W1 aiG λe1 fi hG ij kW pz iG i0=>iG.symm▸?_;refine I7 ew.1 U<|tS (aB:=[.Name "iterable" ij]) U (by show 1<20;decide) U i0<|Y.eq (GX ..)<|Y.bind<|(ar.nm (g:=a3 j aE T x au) (z:=z) (Q:=fa Cp) (A:=js ["self","iterable"] [(.b2,.raw<|.ref h),(.b2,.raw a4)] []) (u:=.raw<|.ref h) (f:="self")) kf ed _ [] p _ gf i6 ew v _ bn λlq an aL aP=>?_;have kv:lq=.ref h:=by have c:cf an.heap (b4 ed++p) (.raw<|.ref h) lq:=aP;exact c
 subst kv;refine dV ?_;have c_:=bn.grow aL;refine d6<|j7<|Y.of<|Lh (by show kf.depth+90<1000;exact c3 (.t (.a .x<|.n 90)<|.n 1000) [.l (.a .x .y)<|.n 900] U gf.2) (aO.sub c_.2) ((bX.trans aL).all _ _ h5) λam l i4=>gc l λaa fj e9 ii=>?_;obtain rfl:=e9;have a_:a9 [] [] an {an with heap:=aa,toks:=fj}:=bJ.heap (λb o w i=>ii b o i) i4.1;refine eo<|Y.pure ?_;generalize({an with heap:=aa,toks:=fj}:ag)=am at a_;have jR:=(bX.trans aL).trans a_;refine Y.of<|Ss (jR.all _ _ g1)<|xH (I:=.builtin "bytearray.extend") (jJ:=[.ref bH]) (aU:=[]) (ak:=[]) (H:=bw (a3 j aE T x au) ed (b4 ed++p) [] v.heap.objs.size<|js ["self","iterable"] [(.b2,.raw<|.ref h),(.b2,.raw a4)] []) U U (Bs (g:=a3 j aE T x au) U<|(ar.nm (g:=a3 j aE T x au) (z:=z) (Q:=fa Cp) (u:=.raw a4) (f:="iterable")) kf ed _ [] p _ gf i6 ew) (c_.grow a_) ?_;rintro aR cg ce hp;refine br hp λbe jG aM=>?_;obtain rfl:=jG;have ql:be=a4:=by have c:cf cg.heap (b4 ed++p) (.raw a4) be:=aM;exact c
 subst ql;refine Y.mono (aiH kf cg gf<|jR.trans ce) ?_;rintro y cU jH;refine cY jH λmh a5=>?_;obtain rfl:=mh;exact⟨U,Qt a5⟩
section
section
variable{j:b7}{q:bY}{n:Env}{aU:List aq}{ak:List Nat}{H:ag->Prop}
theorem Vf(ay:aB.all d0=Z)(cL:aB.length<20)(c:mR prog j q aU ak n H aB ar)(L:H a)(bg:∀a aR,ar a aR->a.heap.get? h=W o)(bl:o.data=.func bi)(az:∀aR v,a9 aU ak a v->ar v aR->Y prog j q (er (.ref h) (jJ++aR) []) C v):Y prog j q (pT aj (.ref h) jJ (jX Az<|je aB n) []) C a:=by
 refine d6<|xG ay c L λaR an aL cR=>dV<|V (va ay ..)<|V (xd ..)<|V (sb ..) ?_;have aS:Y prog j q (sd<|.ref h) (λl v=>l=.frame/\v=an) an:=by exact du<|zp (bg an aR cR)<|bl.symm▸Y.pure ⟨U,U⟩
 refine hi aS<|rv ?_;have AM:∀y am,C y am->Y prog j q (do holding [y] point;dz y) C am:=λy am av=>du<|k5<|o'<|Y.pure av
 dsimp only;split
 .exact hi (az aR _ aL cR) λy am av=>AM y am av
 .exact Y.bind<|Y.keep<|Y.mono (az aR _ aL cR) λy am av=>AM y am av
end
variable{j:b7}{aE:ag}{T:Nat->Obj}{x:Nat}{au:fQ}{z:Nat}{q:bY}{Q:c4}{A:b0}{ai:Inv}{h bH ck:aq}{aw dh:List Int}{f:Str}{i:bB}{di nB aj:Pos}
theorem d1.Sg(aO:dy j aE T x au)(cn:yO A)(i_:bH∉ai.W)(aK:fI A f=W (.f<|.raw<|.ref h))(R:ht Q f=Z)(bp:d1 (a3 j aE T x au) (z+1) q Q (ai.both<|g9 h bH ck aw) A i λu b1=>u=cS dh/\b1=ai.both (g9 h bH ck aw))(m:gs dh)(ab:aw.length+dh.length<cI)(ay:d0 i=Z:=by rfl)(i0:(nB.endLine==aj.line)=Z:=by rfl):d1 (a3 j aE T x au) (z+1) q Q (ai.both<|g9 h bH ck aw) A (.Call (.Attribute (.Name f di) "extend" nB) [i] [] aj) (λu b1=>u=.none/\b1=ai.both (g9 h bH ck<|aw++dh)):=λn p N aF S a ax L M r ac C ah=>by
 refine tS (aB:=[i]) (by simp[ay]) (by show 1<20;decide) U i0 ?_;refine(ae.raw (g:=a3 j aE T x au) (z:=z+1) aK R) q n p N aF S ax L M a _ r λa4 an aL hr=>?_;have BM:cf an.heap p (.raw<|.ref h) a4:=hr;refine V BM ?_;have fA:q.depth+90<recursionLimit:=by have:=ax.2;show q.depth+90<1000;exact c3 (.t (.a .x<|.n 90)<|.n 1000) [.l (.a .x<|.o .y)<|.n 900] U this
 have c_:=r.grow aL;have gH:=ac.it aL aW aW;refine p5 gH.snd.1 λr5 h5 r6 nL uu tj tk g1=>?_;refine FK T2 fA (aO.sub c_.2) h5 nL tj λam a_=>?_;refine Vf (jJ:=[.ref h]) (H:=λE=>E=am) (aU:=N++b4 n++(ai.both<|g9 h bH ck aw).W) (ak:=(ai.both<|g9 h bH ck aw).G) (o:=Bv ao j.params x) (bi:=wD j.params x) (ar:=λE aR=>∃a4 dn e6,aR=[a4]/\gP (ai.both<|g9 h bH ck aw) n p N dn N (ai.both<|g9 h bH ck aw) am E/\cM (a3 j aE T x au) n dn N aF e6/\bw (a3 j aE T x au) n dn N e6 A E/\(ai.both<|g9 h bH ck aw).At (a3 j aE T x au) n dn N E/\cf E.heap dn (cS dh) a4) (by simp[ay]) (by show 1<20;decide) ?_ U ?_ (by cbv) ?_
 .rintro E C aj rfl qO;refine Y.eq (V (kr ay)<|U) ?_;show Y _ _ q (ou [(a1,dD i n)]) C E;refine Y.eq (U) ?_;refine Y.bind<|bp n p N aF S E ax L M (c_.grow a_) (gH.it a_ aW aW) _ λa4 cg u dX dn e6 af ap bk cx ef fL=>?_;refine cY af λjH mh=>?_;obtain rfl:=jH;obtain rfl:=mh;refine gK bd ?_;exact eo<|d6<|Y.pure<|Y.pure<|qO _ _ ap.6 ⟨a4,dn,e6,U,ap,bk,cx,ef,fL⟩
 .rintro E aR nE;refine uZ nE λa4 dn e6 q0 ap bk cx ef fL=>V q0 ?_;exact aO.sub cx.2 _ _ _ (Ms ..) U
 .rintro aR cg ce wy;refine uZ wy λa4 dn e6 Ch eh lF ky oh y=>V Ch ?_;refine p5 oh.snd.1 λr5 h5 r6 nL w w w g1=>?_;refine jD (cf.kg y) λD O t Ci aI av=>V Ci ?_;refine cY (ae.zD m av) λdm eY=>?_;have cL:O.toList.length=dh.length:=by have:=av.length;simpa using this
  refine Ve (z:=z) aO ax lF ky h5 g1 λej cU gf ft=>?_;refine j7<|Qf (O:=O.toList) gf.1 (ft.all _ _ g1) ⟨_,ft.all _ _ aI,U,t,U⟩ dm (by refine V cL<|V (nC ..) ?_;exact ab) λaa fj kv aS i4=>?_;rw[eY]at kv;have bG:cz aw++cz dh=cz (aw++dh):=by simp[cz]
  rw[bG]at kv;have oi:a9 [bH] [] cU {cU with heap:=aa,toks:=fj}:=bJ.heap (λb o m i=>aS b o (λe=>m<|km.mpr e) i) i4.1;have Vg:({cU with heap:=aa,toks:=fj}:ag).heap.get? bH=W (cQ<|cz<|aw++dh):=kv;generalize({cU with heap:=aa,toks:=fj}:ag)=uk at oi Vg;have bS:=oh.snd.2 bH bz;have Lu:aE.heap.objs.size<=bH:=by
   rcases bS.2.2.2.1 with e|e
   .exfalso;rcases lD.mp e with e|e<;>(rw[e]at tk;exact absurd tk bd)
   .exact e
  have yo:bH≠h:=λe=>by rw[e,h5]at g1;cases g1
  have Mr:bH≠ck:=λe=>by rw[e,nL]at g1;exact absurd (congrArg Obj.cls<|d4 g1)<|show¬(kJ "dict"=kJ "bytearray")by decide
  have rZ:=ky.grow ft;have BY:bw (a3 j aE T x au) n dn N e6 A uk:=rZ.IS cn (λG ab=>(bm ab).symm▸bS.1) (λG ab=>bm ab▸bS.2.2.1) (λG ab=>V (bm ab) bS.2.1) oi<|rZ.2.to oi λG ab=>bm ab▸Lu;have pM:(g9 h bH ck<|aw++dh).At (a3 j aE T x au) n dn N uk:=⟨⟨r5,oi.1 _ _ (λe=>yo (bm e).symm)<|ft.all _ _ h5,r6,oi.1 _ _ (λe=>Mr (bm e).symm)<|ft.all _ _ nL,uu,tj,tk,Vg⟩,λb dR=>(bm dR).symm▸⟨bS.1,bS.2.1,bS.2.2.1,bS.2.2.2.1,cw bS.2.2.2.2<|bb ft.2 oi.2⟩,aW⟩;refine⟨U,ah .none uk .none _ dn e6 ⟨U,U⟩ (((gP.rO<|aL.trans a_).trans eh).trans ⟨λw c=>c,λw c=>.inl c,λw c=>.inl c,λw c=>.inl c,λw c=>.inl c,?_⟩) lF BY (((oh.fst.it ft aW aW).chg oi bS.1 i_).both pM)<|U⟩;exact(ft.mono aW aW).trans<|oi.mono (λb dR=>bO<|bO dR) aW
end
theorem aiI(c:a.heap.get? eu=W (Co E))(f:al):iO a (F6 be eu nm) ⟨[f],[]⟩ [("val",f),("length",.int 8 E)]:=H5 (T:=eu) (o:=Co E) (items:=#[.int 8 E]) (n:=0) (by cbv) c (by cbv) U (by cbv)
theorem aiJ(aO:dy j aE T x au)(b:fh (a3 j aE T x au) a)(bg:a.heap.get? I=W (r3 be eu nm))(az:a.heap.CodeRec (.ref be) y'):FnAt a I (F6 be eu nm) (gC i5):=⟨(dj _ bg U),by cbv,by cbv,U,az,by cbv,ahZ,U,Fz aO a b⟩
theorem aiK{prog:cl}{j:b7}{q:bY}{h aX:aq}{s t:Nat}{bF a0:List aq}{I:Nat->Int}{f:Str}{hC:Pos}{p:List aq}(bg:n7 h aX bF a0)(cJ:q.handled=aQ)(av:q.depth<fF)(am:ag):s0 prog j q (.Name f hC) p ((c2 t).map λk=>.int<|I k) am h (h::aX::bF) (aX::a0) [s] (λk a=>jt prog j q h s aX bF a0 t (λk u=>∃E,u=.int (I k) E) k a) (λw=>True):=⟨(λb m=>by
  revert b;refine g4 ?_ ?_
  .exact mt bz
  .intro b m;exact mt<|mt<|bg.3 b m),(λk a v cb c6 st hS dK ji=>st.frame bg hS dK λe=>ji s e bz),(λw w w w w w w w=>trivial),(λk B a C a8 st ah=>by
  have ac:k<t:=by simpa using(k'.mp a8).1
  refine st.item bg cJ av ac λu v aM kR hS=>(dj u U<|Y.pure<|ah u v (λbu jN gM qs=>?_) kR hS);rw[fk,mJ ac]at a8;cases a8;show cf _ _ _ _;exact aM),(λa C st ah=>by rw[d3,oz]at st;exact st.done bg cJ av λv bX=>ah v bX trivial),(λk a C st ah=>st.self bg cJ av ah)⟩
section
variable{j:b7}{aE:ag}{T:Nat->Obj}{x:Nat}{au:fQ}{z:Nat}{q:bY}{Q:c4}{A:b0}{aY:Inv}{I be cG eu:aq}{nm:al}{E:Tok}{f B:Str}{i:bB}{hC sM aj:Pos}{u:Int}
theorem vU.ahI(aO:dy j aE T x au)(cK:cG∉aY.W)(aK:fI A f=W (.f<|us I be eu nm E))(R:ht Q f=Z)(bp:dd (a3 j aE T x au) (z+1) Q A i u)(ay:d0 i=Z):vU (a3 j aE T x au) (z+1) q Q (aY.both<|ur be cG) A (.Name B sM) (.Call (.Name f hC) [i] [] aj) ((c2 8).map λk=>.int<|nz u 8 k):=λn p N aF S K a ax L M r ac qI C ah=>by
 .refine Y.bind<|(ae.name (g:=a3 j aE T x au) (z:=z+1) aK R) q n p N aF S ax L M a _ r λa4 an aL hr=>cY hr λe9 Cq=>?_;obtain rfl:=e9;have yp:=(Cq (I,r3 be eu nm)<|bz).2;refine xM (jJ:=[]) (o:=r3 be eu nm) (bi:=F6 be eu nm) (H:=λaN=>bw (a3 j aE T x au) n p N S A aN/\aN.heap.get? I=W (r3 be eu nm)/\a9 [] [] a aN) (by simp[ay]) (by show 1<20;decide) (Bs (g:=a3 j aE T x au) ay<|cm.weak (eT bp ax L M) λaN e=>e.1) ⟨r.grow aL,yp,aL⟩ (λaN e=>e.2.1) U (λaN ps e s=>⟨e.1.grow s,s.all _ _ e.2.1,e.2.2.trans s⟩) ?_;rintro aR am a_ hp;refine br hp λa4 jG jH=>?_;obtain rfl:=jG;refine c5 jH λxA mh=>?_;obtain rfl:=mh;have jR:=aL.trans a_;have dS:=r.grow jR;have iN:=ac.it jR aW aW;refine rn iN.snd.1 λam8 am9 aiL zc nE q0 Vh=>br nE λaiM aiN aiO=>c5 q0 λcv bC=>?_;have Vi:=iN.snd.2 cG<|mt bz;have Vj:aE.heap.objs.size<=cG:=by
   refine g_ (Vi.2.2.2.1) (λe=>?_) λe=>?_
   .exfalso;rcases lD.mp e with e|e<;>(replace zc:=e▸zc;exact absurd zc bd)
   .exact e
  refine Z' (g:=a3 j aE T x au) (bc:=q) (t:=8) (FF aO) ax (aiJ aO dS.2 (a_.all _ _ yp) Vh) U U U U bC (λe=>cd (mZ.mp e).1 Vj) M dS (aiI (a_.all _ _<|(Cq (eu,Co E)<|mt bz).2)<|.int u xA) bd yA afn ax.1 λh aX s dp f' kT d7 cg bG cr eE hE sN Bm x_ vL ce rD lz kM BW aiP=>?_;have n4:=aiP q ax.1 (dA _)<|dA _;have i3:∀b∈p,b<am.heap.objs.size:=λb m=>cw (M.8 b m) dS.1;have am_:a.heap.objs.size<=am.heap.objs.size:=jR.2;refine ah (.ref h) cg ((jR.mono aW aW).trans<|ce.mono (λb m=>bO<|mt m) aW) (dS.2.to ce λG ab=>bm ab▸Vj) (λbu e4 gM=>?_) ?_
  .have Mt:=(ac.wide e4 gM).it jR aW aW;refine rn Mt.snd.1 λaiQ aiR w w w w w=>?_;have aiS:1892≠cG:=λe=>absurd (e▸zc) bd;have aiT:1894≠cG:=λe=>absurd (e▸zc) bd;refine(Mt.fst.it ce (λb m=>bm m▸⟨e4 _ Vi.1,cK⟩) aW).both ⟨⟨aiQ,aiR,aiL,zc,⟨aiM,aiN.kept λb m o i=>ce.1 b o (λdg=>?_) i,aiO⟩,⟨kT,rD⟩,?_⟩,λb m=>?_,aW⟩
   .rcases m with rfl|rfl
    .exact aiT<|bm dg
    .exact aiS<|bm dg
   .refine H_ Vh λe o O QB et fn rJ=>?_;cases et;exact⟨be,o,O,QB,U,ce.1 _ _ (λdg=>bC.ne<|bm dg) fn,rJ⟩
   .exact kK (Mt.snd.2 b m) λdT d8 dO eM gg=>⟨dT,d8,dO,eM,cw gg ce.2⟩
  .intro nk qO;have av:q.depth<recursionLimit:=by show q.depth<1000;exact c3 (.t .x<|.n 1000) [.l (.a .x<|.o .y)<|.n 900] U ax.2
   refine n4.self kM ax.1 av<|qO h cg (h::aX::dp::f') (aX::[dp]) [s] _ (bJ.refl ..) ⟨aiK kM ax.1 av cg,n4,λb m=>.inl ?_,λk gp=>.inl ?_,λk gp=>?_,λb m=>?_⟩
   .have hu:S<=am.heap.objs.size:=dS.1
    revert b;refine g4 ?_ ?_
    .exact bb hu cr
    .intro b m;exact V (bm m)<|bb hu eE
   .exact V (bm gp)<|bb qI<|bb jR.4 x_
   .exact V (bm gp) vL
   .revert b;refine g4 ?_ ?_
    .exact⟨hE,λe=>cd (i3 _ e) bG⟩
    intro b m;rcases fR.mp m with rfl|m
    .exact⟨sN,λe=>cd (i3 _ e) cr⟩
    rcases fR.mp m with rfl|m
    .exact⟨Bm,λe=>cd (i3 _ e) eE⟩
    .exact cY (BW b m) λdm eY=>⟨eY,λe=>g_ (dm) (λG=>(M.9 _ e).elim (mZ.mp G).2 λev=>cd (mZ.mp G).1 ev) λG=>cd (i3 _ e) G⟩
end
noncomputable def Mu(pN:Nat->Int)(t:Nat):Int:=pN<|argBest (λk aD=>decide<|pN k>pN aD)<|t-1
theorem aiU(cJ:q.handled=aQ)(aI:a.heap.IsList D O)(ay:0<O.size)(aM:∀k u,O[k]?=W u->∃E,u=tD (pN k) E)(ah:∀E v,a9 [] [] a v->C (.int (Mu pN O.size) E) v):Y prog j q (er (.builtin "max") [.ref D] []) C a:=by
 refine br (id aI) λo aP w=>j7<|Y.of<|call_max_walkS<|CR aI<|Xi a.heap.objs.size [a.heap.objs.size,D] [a.heap.objs.size] _ O.size (λk u=>O[k]?=W u) _ _ U (HW (prog:=prog) (w:=j) (A:=q.in1) cJ a.heap.objs.size D (gD<|dB aP) O).toS ⟨⟨_,fc _ U,U,U⟩,aI.push _⟩ (λb m=>?_) ay (CmpOf.ints_gt pN aM) λu v bM bt G=>?_
 .refine V (fZ ..) ?_
  revert b;refine g4 ?_ ?_
  .exact lM _
  .intro b m;exact V (bm m)<|mE<|dB aP
 .refine c5 (aM _ _ bM) λE bP=>?_;obtain rfl:=bP;have aK:v.gens=a.gens:=bt.gens;refine ah E v ⟨λb o w i=>bt.heap b o (λe=>h' _<|bm e▸dB i)<|eD _ i,G.1,λk f w i=>aK.symm▸i,G.2,λc=>aK▸c,bt.os⟩
theorem Vk:∀{aw:List Int}{O:List al},bW c p (aw.map bh.int) O->∀(k:Nat)(u:al),O[k]?=W u->∃E,u=tD (aw.getD k 0) E|[],O,y,k,u,i=>by subst y;trivial|t::aw,O,y,k,u,i=>by refine ei y λg aR e9 et fn=>?_;obtain rfl:=e9;cases k with|zero=>simp at i;exact b' i et|succ k=>exact Vk fn k u (by simpa using i)
noncomputable def r7(aw:List Int):Int:=Mu (λk=>aw.getD k 0) aw.length
theorem ae.max(az:g.Ok)(c:ae g z Q A i l<|cS aw)(c9:0<aw.length)(aK:g.gl "max"=W (.builtin "max"))(R:eA Q "max"=Z:=by cbv)(ay:d0 i=Z:=by rfl):dd g z Q A (.Call (.Name "max" di) [i] [] aj) (r7 aw):=mo λq n p N aF S ax L M=>by
 subst L;refine kO M.ok (hB az M aK R) U (hN ay M.ok (c q n p N aF S ax U M) e'.iB iY) ?_ (by simp[ay]);rintro a aR aZ cB C ah;refine ei cB λfM y dv jL ek=>?_;obtain rfl:=dv;obtain rfl:=ek;refine jD jL.kg λD O t e_ aI av=>?_;obtain rfl:=e_;have cL:O.size=aw.length:=by have:=av.length;simpa using this
 exact aiU (pN:=λk=>aw.getD k 0) ax.1 ⟨_,aI,U,t,U⟩ (cL▸c9) (λk u i=>Vk av k u (by simpa using i)) λE v s=>cL.symm▸ah _ v s ⟨E,U⟩
section
section
variable{g:dw}{z:Nat}{Q:c4}{A:b0}{i D y:bB}{l:ha}{di aj:Pos}{h b:Int}{aY:List aq}{ca:List ez}{cu:jq->b0->Prop}{f:Str}
theorem ae.min2(az:g.Ok)(bo:dd g z Q A D h)(bE:dd g z Q A y b)(aK:g.gl "min"=W (.builtin "min"))(R:eA Q "min"=Z:=by cbv)(ay:d0 D=Z/\d0 y=Z:=by exact⟨U,U⟩):dd g z Q A (.Call (.Name "min" di) [D,y] [] aj) (if b<h then b else h):=mo λq n p N aF S ax L M=>by subst L;refine kO M.ok (hB az M aK R) U (hN ay.1 M.ok (eT bo ax U M) (ie _)<|hN ay.2 M.ok (eT bE ax U M) (ie _) iY) ?_ (by simp[ay]);rintro a aR aZ⟨fM,e,rfl,⟨E,rfl⟩,g5,dg,rfl,⟨aN,rfl⟩,rfl⟩C ah;refine j7<|Y.of<|min_two_ints ax.1 λaa x aS G=>?_;refine ah _ _ (bJ.heap (λb o w i=>aS b o i) G.1) ?_;split<;>exact⟨_,U⟩
theorem ae.sum{aw:List Int}(az:g.Ok)(c:ae g z Q A i l<|cS aw)(aK:g.gl "sum"=W (.builtin "sum"))(R:eA Q "sum"=Z:=by cbv)(ay:d0 i=Z:=by rfl):dd g z Q A (.Call (.Name "sum" di) [i] [] aj) aw.sum:=mo λq n p N aF S ax L M=>by
 subst L;refine kO M.ok (hB az M aK R) U (hN ay M.ok (c q n p N aF S ax U M) e'.iB iY) ?_ (by simp[ay]);rintro a aR aZ⟨fM,y,rfl,jL,rfl⟩C ah;obtain⟨D,O,t,rfl,aI,av⟩:=jL.kg;have ac:uU O.toList aw:=bW.ints.mp av;obtain⟨aH,Cr⟩:=(IntsAre.allInts ac).items;have fN:a.heap.IsList D (intItems aH):=⟨_,aI,U,t,by exact b' Cr<|V HP U⟩;refine j7<|Y.of<|sum_intListG ax.1 fN λaa x eR aS G=>?_;have ed:preSum (numAt aH) aH.size=aw.sum:=by have:=ac.numsOf;rw[show O.toList=(intItems aH).toList by exact b' Cr U,nums_intItems]at this;exact V (preSum_eq ..)<|V (uP (by simp))<|V this U
 refine V ed ?_;exact ah _ _ (bJ.heap (λb o w i=>aS b o i) G.1) ⟨_,U⟩
theorem bq.ahT(aK:fI A f=W (.f<|.int h))(R:ht Q f=Z)(aP:lu Q f=Z)(bp:dd g z Q A i b)(c:bq g z Q aY ((f,.f<|.int<|h+b)::A) ca cu):bq g z Q aY A (.AugAssign (.Name f di) .Add i aj::ca) cu:=AX c λq n p N aF S a ax L M r=>by subst L;refine Y.eq (PySem.exec_AugAssign_Name ..)<|dV ?_;obtain⟨et,fn,rJ⟩:=xN R;obtain⟨cV,ar,af,_⟩:=r.3;obtain⟨a4,h1,E,rfl⟩:=af _ _<|oO aK;refine Y.bind<|D1 ar (D' et) h1 fn<|d6<|(eT bp ax U M) a _ r λaiV an aL m=>?_;obtain⟨aN,rfl⟩:=m;refine dV<|du<|wpAny_operate'<|wpAny_iadd_int<|dV<|Y.bind<|sF (b:=a1) (u:=.int<|h+b) M ((r.grow aL).grow<|bJ.tok [] [] an<|an.toks+1) ⟨_,U⟩ aP λam a_ dS=>?_;exact Y.pure ⟨U,p,N,S,f_.inside<|((aL.trans<|bJ.tok [] [] an<|an.toks+1).mono aW λw c=>c).trans a_,M,dS⟩
end
end
section
variable{g:dw}{z:Nat}
noncomputable def Vl(o D:Int):Int:=kn (kn D (tB (D.fdiv 128) o*128)*2)<|tB (D.fdiv 128) o*29
theorem Vm(D o:Int):bq g z (fa<|cj ao 24) [] [("ones",.f<|.int o),("lanes",.f<|.int D)] (gC<|cj ao 24) (λcO w=>cO=.ret (.int<|Vl o D)):=by
 conv=>arg 6;whnf
 exact bq.assign (ae.and (ae.div ar.nm ae.cT bd<|sR bd) ar.nm) (by cbv)<|bq.ret (ae.xor (ae.mul (ae.xor ar.nm<|ae.mul ar.nm ae.cT<|A9 bd) ae.cT<|A9 bd)<|ae.mul ar.nm ae.cT<|A9 bd) U
noncomputable def F8(u:Int):Int:=if u>1 then(4*u+17)*(4*u+17)-3*64-31-2*(4*u+17-16)-25*((u.fdiv 7+2)*(u.fdiv 7+2)-3)+10*(u.fdiv 7+2-2)else(4*u+17)*(4*u+17)-3*64-31-2*(4*u+17-16)
noncomputable def m'(u:Int):Int:=if u>6 then F8 u-36 else F8 u
theorem aiW(u:Int)(aM:1<=u/\u<=7):bq g z (fa<|cj ao 23) [] [("version",.f<|.int u)] (gC<|cj ao 23) (λcO w=>cO=.ret (.int<|m' u)):=by
 conv=>arg 6;whnf
 have am':(2:Int)^64=18446744073709551616:=by decide
 refine bq.assign (ae.add (ae.mul ae.cT ar.nm<|rK bd) ae.cT) (by cbv)<|bq.assign (ae.sub (ae.sub (ae.sub (ae.mul ar.nm ar.nm<|rK (by exact⟨PK [1,4] (.b_ (.g<|.n 18446744073709551616)<|.a (.m 4 .x)<|.n 17) [.b3 (.n 1) .x] U aM.1,PK [1,4] (.b_ (.a (.m 4 .x)<|.n 17)<|.n 18446744073709551616) [.b3 .x<|.n 7] U aM.2⟩))<|ae.mul ae.cT ae.cT<|rK bd) ae.cT)<|ae.mul ae.cT (ae.sub ar.nm ae.cT)<|rK bd) (by cbv) ?_;have Vn:∀I:Int,bq g z (fa<|cj ao 23) [] [("free",.f<|.int I),("version",.f<|.int u)] [((gC<|cj ao 23)[3]?).getD<|.Pass default,((gC<|cj ao 23)[4]?).getD<|.Pass default] (λcO w=>cO=.ret (.int<|if u>6 then I-36 else I)):=by
  intro I;conv=>arg 6;whnf
  refine bq.q9 (gA.gt ar.nm ae.cT λw=>U) ?_;by_cases fL:u>6
  .refine V (show decide (u>6)=Z from decide_eq_true fL)<|V (if_pos fL) ?_;exact bq.assign (ae.sub ar.nm ae.cT) (by cbv)<|bq.nil<|bq.ret ar.nm U
  .refine V (show decide (u>6)=a1 from decide_eq_false fL)<|V (if_neg fL) ?_;exact bq.nil<|bq.ret ar.nm U
 refine bq.q9 (gA.gt ar.nm ae.cT λw=>U) ?_;by_cases af:u>1
 .refine V (show decide (u>1)=Z from decide_eq_true af) ?_;have bl:u.fdiv 7<=1/\0<=u.fdiv 7:=by refine V (Nw _ (by decide)) ?_;exact⟨PL [7,1,1,1] (.b3 .x<|.n 1) [.b3 .y<|.n 7,.eG (.a (.m 7 .x) .z) .y,.b3 (.n 0) .z] U aM.2 (PP _ 6)<|PQ _ 6,PL [7,1,-1,1] (.b3 (.n 0) .x) [.b3 (.n 1) .y,.eG (.a (.m 7 .x) .z) .y,.b_ .z<|.n 7] U aM.1 (PP _ 6)<|PR _ 6⟩
  refine bq.assign (ae.add (ae.div ar.nm ae.cT bd<|sR bd) ae.cT) (by cbv)<|bq.assign (ae.add (ae.sub ar.nm<|ae.mul ae.cT (ae.sub (ae.mul ar.nm ar.nm<|rK (by exact⟨f1 (.b_ (.g<|.n 18446744073709551616)<|.a .x<|.n 2) [.b3 (.n 0) .x] U bl.2,f1 (.b_ (.a .x<|.n 2)<|.n 18446744073709551616) [.b3 .x<|.n 1] U bl.1⟩)) ae.cT)<|rK bd)<|ae.mul ae.cT (ae.sub ar.nm ae.cT)<|rK bd) (by cbv)<|bq.nil ?_;refine bq.le (hD U)<|bq.mono (Vn _) λcO w e=>?_;exact V e<|V (m'.eq_1 ..)<|V (F8.eq_1 ..)<|V (if_pos af) U
 .refine V (show decide (u>1)=a1 from decide_eq_false af) ?_;refine bq.nil<|bq.le (hD U)<|bq.mono (Vn _) λcO w e=>?_;exact V e<|V (m'.eq_1 ..)<|V (F8.eq_1 ..)<|V (if_neg af) U
end
section
variable{g:dw}{z:Nat}
noncomputable def Cs:List (List Int):=[[7,10,15,20,26,18,20],[10,16,26,18,24,16,18],[13,22,18,26,18,24,18],[17,28,22,16,22,28,26]]
noncomputable def Ct:List (List Int):=[[1,1,1,1,1,2,2],[1,1,1,2,2,4,4],[1,1,2,2,4,4,6],[1,1,2,4,4,4,5]]
structure r8(g:dw)extends p9 g where
 So:∃u,g.gl "_law_checks"=W u/\cf g.s0.heap g.tabs (.tup<|Cs.map k1) u
 Sp:∃u,g.gl "_law_blocks"=W u/\cf g.s0.heap g.tabs (.tup<|Ct.map k1) u
 min:g.gl "min"=W (.builtin "min")
 sum:g.gl "sum"=W (.builtin "sum")
 sorted:g.gl "sorted"=W (.builtin "sorted")
 Sq:yQ g "_law_free" ["version"] (fa<|cj ao 23)<|gC<|cj ao 23
 JY:yQ g "_law_doubled" ["lanes","ones"] (fa<|cj ao 24)<|gC<|cj ao 24
 Sr:yQ g "_law_multiples" ["checks"] (fa<|cj ao 25)<|gC<|cj ao 25
 Ss:yQ g "_law_rest" ["words","checks","multiples"] (fa<|cj ao 26)<|gC<|cj ao 26
 JZ:yQ g "_law_woven" ["blocks"] (fa<|cj ao 27)<|gC<|cj ao 27
theorem Cu{t k:Nat}{f:bh}(c:(m5 t)[k]?=W f):k<t/\f=.int k:=by
 have ac:k<t:=by simpa[m5]using(k'.mp c).1
 rw[m5,fk,mJ ac]at c;exact⟨ac,(d4 c).symm⟩
noncomputable def zd(l:Nat):Int:=((c2<|l+1).map λr=>(256:Int)^r).sum
noncomputable def r9(o:Int):Nat->Int->Int|0,j=>j|a+1,j=>Vl o<|r9 o a j
noncomputable def q1(o:Int):Nat->Int|0=>1|r+1=>kn (q1 o r*256)<|r9 o r<|q1 o r
noncomputable def o6(o j:Int):Nat->List Int|0=>[0]|a+1=>o6 o j a++(o6 o j a).map λf=>kn (r9 o a j) f
noncomputable def kj(l:Nat):List Int:=o6 (zd l) (q1 (zd l) l) 8
theorem wE(o j:Int):∀a,(o6 o j a).length=2^a|0=>U|a+1=>by refine(V gU<|V (d3 ..)<|V (wE o j a) ?_);exact(Nat.mul_two _).symm
theorem aiY(t:r8 g)(l:Nat)(aS:l<=30):bq g (z+1) (fa<|cj ao 25) [] [("checks",.f<|.int l)] (gC<|cj ao 25) (λcO w=>cO=.ret (cS<|kj l)):=by
 have L:cI=2^24:=U;conv=>arg 6;whnf
 refine bq.assign (u:=.int<|zd l) (ae.sum t.ok (ar.uY (D:=c2<|l+1) (nH:=λ(k:Nat)=>bh.int k) (oZ:=λr=>(256:Int)^r) t.top9 (ar.range (aA:=l+1) t.top9 (dd.cast (ae.add ar.nm ae.cT) U) (by exact cy (.t (.o .x)<|.n 4611686018427387904) [.l .x<|.n 30] U aS)) (λr aZ=>⟨ar.t1,?_⟩) (by simp;exact gd [1,1,-1] (.l (.o .x) .y) [.l .x<|.n 30,.e .y<|.n 16777216] U aS L)) t.sum) (by cbv) ?_
 .have aZ:r<l+1:=la.mp aZ;exact ae.pow ae.cT ar.nm (iP _) (by exact c3 (.b3 (.c .x)<|.n 1000000) [.l .y<|.n 30,.t .x<|.o .y] U aS aZ) bd
 unfold kj;generalize zd l=o;refine bq.assign ae.cT (by cbv)<|bq.oU (λk A=>he [("whole",.f<|.int<|q1 o k),("ones",.f<|.int o),("checks",.f<|.int l)] A) (λw w=>U) (ar.range t.top9 ar.nm (by exact cy (.t .x<|.n 4611686018427387904) [.l .x<|.n 30] U aS)) ?_ (hD U) ?_
 .intro k f bU R e5;obtain⟨ac,rfl⟩:=Cu R;refine⟨ar.t1,bq.le (bU:=[("power",.f<|.int k),("whole",.f<|.int<|q1 o k),("ones",.f<|.int o),("checks",.f<|.int l)]) ⟨U,e5⟩<|bq.assign ar.nm (by cbv) ?_⟩;refine bq.oU (λaD A=>he [("turned",.f<|.int<|r9 o aD<|q1 o k),("whole",.f<|.int<|q1 o k),("ones",.f<|.int o),("checks",.f<|.int l)] A) (λw w=>U) (ar.range t.top9 ar.nm (by exact c3 (.t .x<|.n 4611686018427387904) [.l .y<|.n 30,.t .x .y] U aS ac)) ?_ (hD U) ?_
  .intro aD f nx R mz;obtain⟨dx,rfl⟩:=Cu R;refine⟨ar.t1,bq.le (bU:=[("step",.f<|.int aD),("turned",.f<|.int<|r9 o aD<|q1 o k),("whole",.f<|.int<|q1 o k),("ones",.f<|.int o),("checks",.f<|.int l)]) ⟨U,mz⟩ ?_⟩;exact bq.assign (ar.call t.ok t.JY (gG.fH ar.nm<|gG.fH ar.nm gG.nl)<|Vm _ _) (by cbv)<|bq.nil<|hD U
  .intro nx mz;rw[show(m5 k).length=k by simp[m5]]at mz;exact bq.le mz<|bq.assign (ae.xor (ae.mul ar.nm ae.cT<|A9 bd) ar.nm) (by cbv)<|bq.nil<|hD U
 .intro bU e5;rw[show(m5 l).length=l by simp[m5]]at e5;refine bq.le e5<|bq.assign (u:=cS [0]) (ae.list (aH:=[.int 0]) (eU.fH ae.cT eU.nl) bd) (by cbv) ?_;generalize q1 o l=j;refine bq.oU (λa A=>he [("multiples",.f<|cS<|o6 o j a),("whole",.f<|.int<|r9 o a j),("ones",.f<|.int o)] A) (λw w=>U) (ar.range (aA:=8) t.top9 ae.cT bd) ?_ (hD U) ?_
  .intro a f nx R mz;obtain⟨ze,rfl⟩:=Cu R;have cL:(o6 o j a).length<=128:=by refine V (wE ..) ?_;exact bb (Dj bd<|NQ ze) (by decide)
   refine⟨ar.t1,bq.le (bU:=[("step",.f<|.int a),("multiples",.f<|cS<|o6 o j a),("whole",.f<|.int<|r9 o a j),("ones",.f<|.int o)]) ⟨U,mz⟩ ?_⟩;refine bq.assign (u:=cS<|o6 o j<|a+1) (ae.tO (aw:=o6 o j a) (dh:=(o6 o j a).map λf=>kn (r9 o a j) f) ar.nm (ar.uY (D:=o6 o j a) t.top9 (fp.list (ka.of ar.nm)<|.inl<|j1 _ _ U) (λf R=>⟨ar.t1,ae.xor ar.nm ar.nm⟩) (by exact gd [1,-1,1] (.l .x .y) [.e .y<|.n 16777216,.l .x<|.n 128] U L cL)) (by refine V (d3 ..) ?_;exact gd [1,-1,2] (.l (.a .x .x) .y) [.e .y<|.n 16777216,.l .x<|.n 128] U L cL)) (by cbv) ?_;exact bq.assign (ar.call t.ok t.JY (gG.fH ar.nm<|gG.fH ar.nm gG.nl)<|Vm _ _) (by cbv)<|bq.nil<|hD U
  .intro nx mz;exact bq.le mz<|bq.ret ar.nm U
end
section
variable{g:dw}{z:Nat}
noncomputable def i_(Cv c j:Int):Int:=kn (c*256)<|j*Cv
noncomputable def zf(dh:List Int)(Cv c j:Int):Int:=kn (i_ Cv c j)<|dh.getD ((i_ Cv c j).fdiv Cv).toNat 0
noncomputable def na(dh:List Int)(l:Nat)(df:List Int):Int:=df.foldl (zf dh<|256^l) 0
noncomputable def tl(dh:List Int)(l:Nat)(df:List Int):List Int:=(h3 ((l:Int)-1) (-1) l).map λr=>((na dh l df).fdiv<|256^r.toNat).fmod 256
theorem Vo(l:Nat):(256:Int)^l≠0:=Int.ne_of_gt<|Int.pow_pos bd
theorem Vp{h:Int}{l:Nat}(aS:l<=30):xj h (256^l)=a1:=by
 refine PyProof.noPylong_of_log2 ?_;have af:((256:Int)^l).natAbs=256^l:=by refine V (Int.natAbs_pow ..) ?_;rfl
 refine V af ?_;refine(Nat.log2_lt<|q'<|Dk bd).mpr ?_;exact mG (Dj bd aS)<|show 256^30<2^9000 by refine V (show(256:Nat)=2^8 from U)<|b' (Nat.pow_mul ..) ?_;exact Nat.pow_lt_pow_right (by decide) (by decide)
theorem aiZ(dh:List Int)(l:Nat)(df:List Int){k:Nat}(ac:k<df.length):na dh l (df.take<|k+1)=zf dh (256^l) (na dh l<|df.take k) (df.getD k 0):=by
 have c:df[k]?=W (df.getD k 0):=by refine V (fK)<|V (fG ac) ?_;rfl
 unfold na;refine V zX<|V c<|V z8 ?_;rfl
theorem Mv{k l:Nat}(c:k<l):(l:Int)-1+(k:Int)*-1=((l-1-k:Nat):Int):=by rw[G',Ha,<-zL,Hb,Hg];exact(Int.ofNat_sub<|show 1+k<=l from(w8 1 k).symm▸c).symm
theorem ai0(t:r8 g)(l:Nat)(aS:l<=30)(df dh:List Int)(bS:df.length<=1000/\∀j∈df,0<=j/\j<256)(bt:dh.length<=256)(a5:∀k,k<df.length->0<=(i_ (256^l) (na dh l<|df.take k)<|df.getD k 0).fdiv (256^l)/\((i_ (256^l) (na dh l<|df.take k)<|df.getD k 0).fdiv<|256^l).toNat<dh.length):bq g z (fa<|cj ao 26) [] [("multiples",.f<|cS dh),("checks",.f<|.int l),("words",.f<|cS df)] (gC<|cj ao 26) (λcO w=>cO=.ret (cS<|tl dh l df)):=by
 have L:cI=2^24:=U;conv=>arg 6;whnf
 refine bq.assign (u:=.int<|256^l) (ae.pow ae.cT ar.nm (iP _) (by exact cy (.b3 (.c .x)<|.n 1000000) [.l .x<|.n 30] U aS) bd) (by cbv)<|bq.assign ae.cT (by cbv)<|bq.oU (λk A=>he [("held",.f<|.int<|na dh l<|df.take k),("top",.f<|.int<|256^l),("multiples",.f<|cS dh),("checks",.f<|.int l)] A) (λw w=>U) (fp.list (ka.of ar.nm)<|.inl<|j1 _ _ U) ?_ (hD U) ?_
 .intro k f bU R e5;obtain⟨ac,rfl⟩:=Z1 R;have m:=bS.2 (df.getD k 0) (by refine V (fK)<|V (fG ac) ?_;exact sg ac);obtain⟨eG,dm⟩:=a5 k ac;refine⟨ar.t1,bq.le (bU:=[("word",.f<|.int<|df.getD k 0),("held",.f<|.int<|na dh l<|df.take k),("top",.f<|.int<|256^l),("multiples",.f<|cS dh),("checks",.f<|.int l)]) ⟨U,e5⟩ ?_⟩;refine V (aiZ dh l df ac) ?_;generalize na dh l (df.take k)=c at*;refine bq.assign (u:=.int<|i_ (256^l) c<|df.getD k 0) (ae.xor (ae.mul ar.nm ae.cT<|A9 bd)<|ae.mul ar.nm ar.nm<|rK (by exact⟨f1 (.b_ (.g<|.n 18446744073709551616) .x) [.b3 (.n 0) .x] U m.1,f1 (.b_ .x<|.n 18446744073709551616) [.b_ .x<|.n 256] U m.2⟩)) (by cbv) ?_;exact bq.assign (ae.xor ar.nm<|ae.BJ ar.nm (ae.div ar.nm ar.nm (Vo l)<|Vp aS) eG dm (by exact gd [1,1,-1] (.l .x .y) [.l .x<|.n 256,.e .y<|.n 16777216] U bt L)) (by cbv)<|bq.nil<|hD U
 .intro bU e5;rw[d3,xb]at e5;refine bq.le e5<|bq.ret (ar.uY (D:=h3 ((l:Int)-1) (-1) l) t.top9 (ar.Ga (aA:=l) t.top9 (ae.sub ar.nm ae.cT) (ae.neg ae.cT) (ae.neg ae.cT) bd ((show∀l:Nat,l<=30->xl ((l:Int)-1) (-1) (-1)=Z by decide+kernel) l aS) (sR bd)<|(show∀l:Nat,l<=30->rk ((l:Int)-1) (-1) (-1)=l by decide+kernel) l aS) (λr aZ=>⟨ar.t1,?_⟩) (by refine V (vF ..) ?_;exact gd [1,1,-1] (.l .x .y) [.l .x<|.n 30,.e .y<|.n 16777216] U aS L)) U;obtain⟨k,ac,rfl⟩:=k_.mp aZ;have ac:=la.mp ac;refine ae.mod (ae.div ar.nm (ae.pow ae.cT ar.nm (Mv ac▸iP (l-1-k)) (Mv ac▸G6.mpr (bb (k9 (l-1) k)<|bb (k9 l 1)<|bb aS<|show 30<=1000000 by decide)) bd) (Vo _)<|Vp<|V (congrArg Db<|Mv ac)<|bb (k9 _ _)<|bb (k9 _ _) aS) ae.cT bd
end
theorem ai1:∀k,k<8->hl k 1=2^k:=by decide
theorem ai2(h b:Nat):(h:Int).fmod (b:Int)=((h%b:Nat):Int):=by refine V (Int.fmod_eq_emod_of_nonneg _<|iP _) ?_;rfl
theorem Vq(h b:Nat):(h:Int).fdiv (b:Int)=((h/b:Nat):Int):=by refine V (Nw _<|iP _) ?_;rfl
theorem Mw(s:List Nat)(g:Nat):(eB s g).length=s.length:=d3 ..
theorem zg{g:Nat}{D:List Nat}(c:g<256)(aI:eP D):eP (g::D):=λf R=>by
 rcases fR.mp R with rfl|e
 .exact c
 .exact aI f e
theorem Mx{s:List Nat}{o j:Int}(cK:∀k,k<8->r9 o k j=((gj ((1::eB s 1).map<|hl k):Nat):Int)):∀a,a<=8->∀g,g<2^a->(o6 o j a)[g]?=W ((gj (g::eB s g):Nat):Int)
 |0,_,g,az=>by
  have aO:g=0:=by exact Ii [1,0] [1,1] (.e .x<|.n 0) [.t .x<|.n 1] U az
  subst aO;have:gj (0::eB s 0)=0:=by refine V (agH ..)<|V (show(0:Nat)::dq s.length 0=dq (s.length+1) 0 from U) ?_;induction(s.length+1)with|zero=>rfl|succ t a2=>exact V nf<|V (qZ ..)<|V a2<|V (w_ ..) U
  refine V this ?_;rfl|a+1,L,g,az=>by
  have aZ:(2:Nat)^a<=128:=bb (show 2^a<=2^7 from Dj (by decide)<|NM L) (by decide);unfold o6;by_cases c:g<2^a
  .refine V (uQ (by rw[wE];exact c)) ?_;exact Mx cK a (nP L) g c
  .have jL:g-2^a<2^a:=by rw[zT]at az;exact(ix (2^a)<|g).elim (λd_=>hh (.t .x .y) [.t .z<|.r .y 2,.e (.a .x .y) .z] U az<|eN d_) λd_=>j4 [2,1,1,1] (.t .x .y) [.t .z<|.r .y 2,.l .x .z,.e .x<|.n 0] U az (k9 _ _)<|jh d_
   refine V (xi (by rw[wE];exact q_ c))<|V (wE ..)<|V (fk)<|V (Mx cK a (nP L) _ jL)<|V (tz ..)<|V (cK a L)<|V (B1 ..) ?_
   congr 2;have bG:(1::eB s 1).map (hl a)=2^a::eB s (2^a):=by exact V iz<|b' agI<|V (ai1 a L) U
   have cr:2^a^^^(g-2^a)=g:=by have:=Ut (t:=a) (f:=1) (B:=0) (h:=0) (b:=g-2^a) (Dk (by decide)) jL;rw[Nat.mul_one,Nat.mul_zero,zV,ra,Hl,Ho,Nat.mul_one]at this;exact Ap [1,-1,1,0] [1,1,0,1] (.e .x .y) [.e .x<|.a .z .w,.l .y<|.a .w .z,.e (.a .w .z) .y] U this (f2 _ _)<|eN<|c3 (.l .x .y) [.lF .y .x] U c
   have F_:2^a<256:=mG aZ (by decide);have vB:g-2^a<256:=zR jL F_;exact V bG<|b' (FQ (zg F_<|B6 F_) (zg vB<|B6 vB)<|V iy<|V iy<|V (Mw ..)<|V (Mw ..) U)<|V (yU ..)<|b' (agG F_ vB)<|V cr U
noncomputable def uv(l:Nat)(s:List Nat):Bool:=s.length==l&&((c2 8).all λk=>r9 (zd l) k (q1 (zd l) l)==((gj ((1::eB s 1).map<|hl k):Nat):Int))
theorem Cw{s:List Nat}{l:Nat}(c:uv l s=Z):s.length=l/\∀g,g<256->(kj l)[g]?=W ((gj (g::eB s g):Nat):Int):=by unfold uv at c;obtain⟨af,ap⟩:=l8.mp c;exact⟨eq_of_beq af,Mx (λk ac=>eq_of_beq<|hn.mp ap k<|la.mpr ac) 8<|dA _⟩
theorem My(l:Nat):(256:Int)^l=((256^l:Nat):Int):=by push_cast;rfl
theorem ai5{g:Nat}{D:List Nat}(c:eP D):gj (g::D)/256^D.length=g:=by exact V (qZ ..)<|V (rb ..)<|V (NR (Dk (by decide)) ..)<|V (Hj<|B7 c)<|V (zV ..) U
theorem Vr{s y:List Nat}{j:Nat}(aK:0<s.length)(av:y.length=s.length)(m:eP y)(bS:j<256):i_ (256^s.length) ((gj y:Nat):Int) (j:Int)=((gj ((y.headD 0^^^j)::(y.tail++[0])):Nat):Int):=by cases y with|nil=>replace aK:=av▸aK;exact nomatch aK|cons f y=>
  unfold i_;refine V (My ..)<|V (show(256:Int)=((256:Nat):Int)from U)<|b' (C9 ..)<|b' (C9 ..)<|V (B1 ..) ?_
  congr 1;have bG:gj (f::y)*256=gj (f::(y++[0])):=by have:=Us (f::y) [0];rw[show gj [0]=0 from U,zV,N_,Nat.pow_one]at this;exact this.symm
  have cr:j*256^s.length=gj (j::dq s.length 0):=by
   refine V (qZ ..)<|V ng ?_;have:∀t,gj (dq t 0)=0:=λt=>by induction t with
    |zero=>rfl|succ t a2=>exact V nf<|V (qZ ..)<|V a2<|V (w_ ..) U
   exact V (this ..)<|V (zV ..) U
  have R:f<256:=m f bz;have bC:eP (y++[0]):=FR m;have cL:(y++[0]).length=s.length:=by refine V gU ?_;exact av
  refine V bG<|V cr<|b' (FQ (zg R bC) (zg bS<|yT _)<|V iy<|V iy<|V cL<|V ng U)<|V (yU ..) ?_;show gj ((f^^^j)::oj (y++[0]) (dq s.length 0))=_;refine b' cL<|V (Ug ..) ?_;rfl
theorem Vs{s y:List Nat}(aK:0<s.length)(av:y.length=s.length):(y.tail++[0]).length=s.length:=gU.trans<|N9▸av▸zP (av.symm▸aK)
theorem Vt{s y:List Nat}{j:Nat}(aK:0<s.length)(av:y.length=s.length)(m:eP y)(bS:j<256):(i_ (256^s.length) ((gj y:Nat):Int) (j:Int)).fdiv (256^s.length)=((y.headD 0^^^j:Nat):Int):=by have cL:=Vs aK av;exact V (Vr aK av m bS)<|V (My ..)<|V (Vq ..)<|b' cL<|V (ai5<|FR m) U
theorem ai6{s y:List Nat}{j:Nat}{dh:List Int}(aK:0<s.length)(bt:∀g,g<256->dh[g]?=W ((gj (g::eB s g):Nat):Int))(av:y.length=s.length)(m:eP y)(bS:j<256):zf dh (256^s.length) ((gj y:Nat):Int) (j:Int)=((gj (ol s y j):Nat):Int):=by have az:=wo (LQ m) bS;have cL:(y.tail++[0]).length=(eB s<|y.headD 0^^^j).length:=(Vs aK av).trans (Mw ..).symm;unfold zf;refine V (Vt aK av m bS)<|V (mD ..)<|V (fK)<|V (bt _ az)<|V (Vr aK av m bS)<|V Ns<|V (B1 ..)<|b' (FQ (zg az<|FR m) (zg az<|B6 az)<|V iy<|V iy<|V cL U)<|V (yU ..)<|V (Nat.xor_self ..)<|V (qZ ..)<|V (w_ ..)<|V (ra ..) ?_;rfl
theorem Vu{s:List Nat}{dh:List Int}(aK:0<s.length)(bt:∀g,g<256->dh[g]?=W ((gj (g::eB s g):Nat):Int)):∀(aw y:List Nat),eP aw->eP y->y.length=s.length->(eC aw).foldl (zf dh<|256^s.length) ((gj y:Nat):Int)=((gj (aw.foldl (ol s) y):Nat):Int)|[],y,_,_,_=>U|j::aw,y,ay,m,av=>by have bS:=ay j bz;show(eC aw).foldl _ (zf dh (256^s.length) ((gj y:Nat):Int) (j:Int))=_;refine V (ai6 aK bt av m bS) ?_;exact Vu aK bt aw _ (λf R=>ay f<|mt R) (Uu m bS)<|LP av aK j
theorem ai7(t:Nat):gj (dq t 0)=0:=by induction t with|zero=>rfl|succ t a2=>exact V nf<|V (qZ ..)<|V a2<|V (w_ ..) U
theorem Vv{s aw:List Nat}{l:Nat}(c:uv l s=Z)(aK:0<l)(ay:eP aw):na (kj l) l (eC aw)=((gj (aw.foldl (ol s)<|dq l 0):Nat):Int):=by obtain⟨aI,bt⟩:=Cw c;subst aI;have:=Vu aK bt aw _ ay (yT s.length) ng;rw[ai7]at this;exact this
theorem ai8{y:List Nat}(c:eP y){k:Nat}(ac:k<y.length):gj y/256^(y.length-1-k)%256=y.getD k 0:=by
 have i:y=y.take k++(y.getD k 0::y.drop (k+1)):=by exact V (fK)<|V (fG ac)<|V Ns<|b' (Do ac)<|V (xf ..) U
 have aI:(y.drop<|k+1).length=y.length-1-k:=by refine V z5 ?_;exact(ix ((k)+1)<|y.length).elim (λd_=>rt [1,1,0,0,0,1,1] [1,0,1,1,1,0,0] (.e .x .y) [.l .z<|.a .x<|.o .w,.l .u<|.a .y .w,.l .z<|.a .u<|.n 1,.e (.a .x<|.o .w) .z,.e (.a .y .w) .u,.e (.a .u<|.n 1) .z] U (f2 _ _) (f2 _ _) (f2 _ _) (eN d_) (eN<|hh (.l .x .y) [.l (.o .x) .z,.l .z<|.a .y<|.n 1] U d_<|f2 _ _)<|eN<|c3 (.l (.n 1) .x) [.l (.o .y) .x] U d_) λd_=>(ix (k)<|y.length-1).elim (λgS=>(ix 1<|y.length).elim (λwr=>rt [1,1,0,1,1] [1,0,1,0,0] (.e .x .y) [.l .z<|.o .w,.e .x<|.n 0,.e (.a .y .w) .u,.e (.a .u<|.n 1) .z] U d_ (jh d_) (eN gS)<|eN wr) λwr=>nW [1,1,0,1] [1,0,1,0] (.e .x .y) [.l .y .z,.e .x<|.n 0,.e .z<|.n 0] U (k9 _ _) (jh d_)<|jh wr) λgS=>rr [1,0,1] [1,1,0] (.e .x .y) [.e .x<|.n 0,.e .y<|.n 0] U (jh d_)<|jh gS
 have m:gj y=(gj (y.take k)*256+y.getD k 0)*256^(y.length-1-k)+gj (y.drop<|k+1):=by
  conv=>lhs;rw[i]
  exact V (Us ..)<|V (qZ ..)<|V iy<|V aI<|V (zT ..)<|V (Nat.add_mul ..)<|V (Nat.mul_assoc ..)<|V (rb 256 ..)<|V (uL ..) U
 have bl:=B7 (D:=y.drop<|k+1) λf R=>c f<|NW R;rw[aI]at bl;exact V m<|V (rb ..)<|V (NR (Dk (by decide)) ..)<|V (Hj bl)<|V (zV ..)<|V (rb ..)<|V (w9 ..)<|V (Df<|yV c k) U
theorem ai9{s aw:List Nat}{l:Nat}(c:uv l s=Z)(aK:0<l)(ay:eP aw):tl (kj l) l (eC aw)=eC (um s aw):=by
 have aI:=(Cw c).1;have aja:um s aw=aw.foldl (ol s) (dq l 0):=by refine b' aI ?_;exact agP (aI▸aK) aw
 have ac:=LR (s:=s) (aI▸aK) aw (dq l 0) ay (yT _) (by exact V ng<|V aI U);unfold tl;refine V (Vv c aK ay)<|V aja ?_;generalize aw.foldl (ol s) (dq l 0)=y at ac;obtain⟨m,Vw⟩:=ac;rw[aI]at Vw;subst Vw;apply uO;intro k;unfold eC h3;refine V (fk)<|V (fk)<|V (fk) ?_;by_cases ac:k<y.length
 .refine V (mJ ac)<|V (fG ac) ?_;simp only[tz]
  congr 1;have bG:((y.length:Int)-1+(k:Int)*-1).toNat=y.length-1-k:=by refine V (G' ..)<|V (Ha _)<|b' zL<|V (Hb ..) ?_;exact(Da y.length<|1+k).trans (Hg ..).symm
  refine V bG<|V (My ..)<|V (Vq ..)<|V (show(256:Int)=((256:Nat):Int)from U)<|V (ai2 ..)<|V (ai8 m ac)<|V (fK)<|V (fG ac) ?_;rfl
 .refine V (oA (by simpa using ac))<|V (oA (by simpa using ac)) ?_;rfl
theorem ajb{s aw:List Nat}{l:Nat}(c:uv l s=Z)(aK:0<l)(ay:eP aw)(k:Nat)(ac:k<(eC aw).length):0<=(i_ (256^l) (na (kj l) l<|(eC aw).take k)<|(eC aw).getD k 0).fdiv (256^l)/\((i_ (256^l) (na (kj l) l<|(eC aw).take k)<|(eC aw).getD k 0).fdiv<|256^l).toNat<(kj l).length:=by
 have aI:=(Cw c).1;have xX:eP (aw.take k):=λf R=>ay f<|NX R;have ajc:(eC aw).take k=eC (aw.take k):=by unfold eC;exact z0.symm
 have gp:=LR (s:=s) (aI▸aK) (aw.take k) (dq l 0) xX (yT _) (by exact V ng<|V aI U);refine V ajc<|V (Vv c aK xX)<|V (FO ..) ?_;subst aI;refine V (Vt aK gp.2 gp.1<|yV ay k)<|V (mD ..) ?_;exact⟨iP _,Hh (wo (LQ gp.1)<|yV ay k) (show(kj s.length).length=256 from wE ..).symm⟩
section
variable{g:dw}{z:Nat}
noncomputable def hc(E:Nat×Nat×Int):List Int:=[(E.1:Int),(E.2.1:Int),E.2.2]
noncomputable def k3(aG:List<|List Int):List (Nat×Nat×Int):=aG.zipIdx.flatMap λr=>r.1.zipIdx.map λe=>(e.2,r.2,e.1)
noncomputable def pO(aG:List<|List Int)(k:Nat):Nat×Nat×Int:=(k3 aG).getD k<|(k3 aG).headD (0,0,0)
theorem ajg(aY:List<|Nat×Nat×Int)(c:0<aY.length)(k:Nat):(aY.map hc).getD k ((aY.map hc).headD [])=hc (aY.getD k<|aY.headD (0,0,0)):=by cases aY with|nil=>cases c|cons E aY=>refine V (fK)<|V (fK)<|V (fk) ?_;cases(E::aY)[k]?<;>rfl
theorem Vx(t:r8 g)(aG:List<|List Int)(bx:Slot)(lS:bx=.b (.lst<|aG.map cS)\/bx=.f (.lst<|aG.map cS))(ab:(k3 aG).length<=2^20)(ap:2<=(k3 aG).length){lt:Nat->Nat->Bool}{bn:List Nat}(kC:bn.length<=2^20)(cP:∀k aD,o4 (hc<|pO aG k) (hc<|pO aG aD)=lt k aD)(aB:uo lt (k3 aG).length (c2 (k3 aG).length)=W bn):bq g z (fa<|cj ao 27) [] [("blocks",bx)] (gC<|cj ao 27) (λcO w=>cO=.ret (cS<|bn.map λk=>(pO aG k).2.2)):=by
 have L:cI=2^24:=U;conv=>arg 6;whnf
 have ajh:∀{aj:Pos}{Q:c4}{A:b0},fI A "blocks"=W bx->ht Q "blocks"=Z->ka g z Q A a1 (.Name "blocks" aj) (aG.map cS):=by
  intro aj Q A af ap;rcases lS with rfl|rfl
  .exact ka.v5 af ap
  .exact ka.of<|ae.name af ap
 have bG:fp.enumItems (aG.map cS)=aG.zipIdx.map λr=>bh.tup [.int r.2,cS r.1]:=by unfold fp.enumItems;refine V Dq<|V jY ?_;rfl
 have cr:∀D:List<|List Int×Nat,(D.map λr=>r.1.zipIdx.map λe=>k1<|hc (e.2,r.2,e.1)).flatten=(D.flatMap λr=>r.1.zipIdx.map λe=>(e.2,r.2,e.1)).map λE=>k1 (hc E):=by intro D;induction D with
  |nil=>rfl|cons r D a2=>refine V iz<|V jA<|V a2<|V nR<|V mc<|V jY ?_;rfl
 have wF:∀k,hc (pO aG k)=((k3 aG).map hc).getD k (((k3 aG).map hc).headD []):=λk=>(ajg _ (by exact cy (.t (.n 0) .x) [.l (.n 2) .x] U ap) k).symm;have aji:((k3 aG).map λE=>k1<|hc E)=((k3 aG).map hc).map k1:=by refine V jY ?_;rfl
 have Mz:((k3 aG).map hc).length=(k3 aG).length:=d3 ..;refine bq.ret (ar.uY (D:=bn) (nH:=λk=>k1<|hc<|pO aG k) (oZ:=λk=>(pO aG k).2.2) t.top9 (fp.list (ka.of<|ae.cast (ae.sorted (K:=(k3 aG).map hc) (lt:=lt) (aA:=2) (bn:=bn) t.ok (ae.cast (ae.comp (bA:=fp.enumItems<|aG.map cS) (ds:=aG.zipIdx.map λr=>r.1.zipIdx.map λe=>k1<|hc (e.2,r.2,e.1)) t.ok ?_)<|congrArg bh.lst<|(cr _).trans aji) ?_ (Mz▸ap) (Mz▸ab) kC (λk aD=>by refine b' (wF ..)<|b' (wF ..) ?_;exact cP k aD) (Mz▸aB) t.sorted) ?_) ?_) (λk ac=>⟨ar.t2,ar.nm⟩) (by exact gd [1,1,-1] (.l .x .y) [.l .x<|.n 1048576,.e .y<|.n 16777216] U kC L)) U
 .refine V bG ?_;refine⟨⟨by cbv,U,eJ _,λbX e=>(by refine b' (lk e) ?_;rfl),λw w=>U,AllP.map λr aZ=>⟨ar.t2,ar.fr,?_⟩,?_⟩,bG▸fp.enumerate t.ok (ajh U (by cbv)) t.enumerate (by cbv) U⟩
  .have eE:fp.enumItems (r.1.map bh.int)=r.1.zipIdx.map λe=>bh.tup [.int e.2,.int e.1]:=by unfold fp.enumItems;refine V Dq<|V jY ?_;rfl
   refine b' (r0 r.1.zipIdx λe=>k1<|hc (e.2,r.2,e.1)) ?_;refine jo.next (s:=_) U U (eJ _) (λbX e=>(dI e)) (λw w=>U) U (fp.enumerate t.ok (ka.of ar.nm) t.enumerate (by cbv) U) ?_;refine V eE ?_;exact AllP.map λe a5=>⟨ar.t2,ar.fr,jo.one U U<|ae.tuple (aH:=(hc (e.2,r.2,e.1)).map .int) (eU.fH ar.nm<|eU.fH ar.nm<|eU.fH ar.nm eU.nl) bd⟩
  .refine V (cr ..)<|V (d3 ..) ?_;show(k3 aG).length<=_;exact gd [1,1,-1] (.l .x .y) [.l .x<|.n 1048576,.e .y<|.n 16777216] U ab L
 .intro bR aS;obtain⟨E,_,rfl⟩:=k_.mp aS;rfl
 .exact congrArg bh.lst<|rf λk w=>congrArg k1 (wF k).symm
 .exact .inr ⟨⟨_,_,_,U⟩,λf R=>by obtain⟨k,_,rfl⟩:=k_.mp R;exact⟨_,U⟩⟩
end
section
variable{g:dw}{z:Nat}{aY:List aq}{ca:List ez}
noncomputable def r_(h9:List Int):List Int:=h9.take 26++([0,0]:List Int).drop h9.length
theorem Vy:∀t,t<29->2<=t->0<t-2+(if t<3 then 1 else 0)/\t-2+(if t<3 then 1 else 0)<=30:=by decide
noncomputable def pP(i':List Int):List Int:=(i'.drop 2).map (λt=>t.fmod 256)++(if i'.length<3 then[0]else[])
noncomputable def ey(aV u:Nat):Nat:=((Cs.getD aV []).getD (u-1) 0).toNat
noncomputable def fJ(aV u:Nat):Nat:=((Ct.getD aV []).getD (u-1) 0).toNat
theorem ajj:∀aV,aV<4->∀u,u<8->1<=u->(Cs.getD aV [])[u-1]?=W ((ey aV u:Nat):Int):=by decide
theorem ajk:∀aV,aV<4->∀u,u<8->1<=u->(Ct.getD aV [])[u-1]?=W ((fJ aV u:Nat):Int):=by decide
theorem ajl{ch:List<|List Int}(fN:ch.length=4){aV:Nat}(c:aV<4):(ch.map k1)[aV]?=W (k1<|ch.getD aV []):=by refine V (fk)<|V (fK)<|V (fG<|fN▸c) ?_;rfl
noncomputable def r':List Stmt:=gC<|cj ao 28
theorem ajm(t:r8 g)(h9:List Int)(lS:h9.length<=63){cu:jq->b0->Prop}(c:∀aV u:Nat,aV<4->1<=u->u<8->(pP<|r_ h9).length<=30->0<(pP<|r_ h9).length->bq g (z+2) (fa<|cj ao 28) aY [("free",.f<|.int<|m' u),("blocks",.f<|.int<|fJ aV u),("checks",.f<|.int<|ey aV u),("octets",.f<|cS<|pP<|r_ h9),("kind",.f<|.int aV),("version",.f<|.int u)] ca cu):bq g (z+2) (fa<|cj ao 28) aY [("script",.f<|cS h9)] (r'.take 7++ca) cu:=by
 have L:cI=2^24:=U;conv=>arg 6;whnf--amL
 refine bq.assign (ae.tO (aw:=h9.take 26) (dh:=([0,0]:List Int).drop h9.length) (ae.WR (t:=26) ar.nm ae.cT (by exact gd [1,1,-1] (.l .x .y) [.l .x<|.n 63,.e .y<|.n 16777216] U lS L)) (ae.MD (aw:=[0,0]) (t:=h9.length) (ae.list (eU.fH ae.cT<|eU.fH ae.cT eU.nl) bd) (ar.v8 t.top9 ar.nm (by exact cy (.t .x<|.n 4611686018427387904) [.l .x<|.n 63] U lS)) bd) (by simp;exact j4 [1,-1,1,1] (.l (.a .x .y) .z) [.e .z<|.n 16777216,.l .x<|.n 26,.l .y<|.n 2] U L (tM _ _)<|k9 _ _)) (by cbv) ?_;change bq _ _ _ _ ((_,Slot.f<|cS<|r_ h9)::_) _ _;have MA:h9.take 26++([0,0]:List Int).drop h9.length=r_ h9:=U;generalize r_ h9=i' at c MA;have wu:2<=i'.length:=by refine b' MA ?_;simp;exact(ix 26<|h9.length).elim (λd_=>gd [1,-1] (.l (.n 2)<|.a .x .y) [.e .x<|.n 26] U<|Io d_) λd_=>j4 [1,1,-1] (.l (.n 2)<|.a .x .y) [.l (.n 2)<|.a .y .z,.e .x .z] U (f2 _ _)<|PN d_
 have Cx:i'.length<=28:=by refine b' MA ?_;simp;exact c3 (.l (.a .x .y)<|.n 28) [.l .x<|.n 26,.l .y<|.n 2] U (tM _ _)<|k9 _ _--version,kind
 have F':0<=(i'.getD 0 0).fmod 7:=zN _ bd;have Vz:(i'.getD 0 0).fmod 7<7:=zO _ bd;have ajn:0<=(i'.getD 1 0).fmod 4:=zN _ bd;have VA:(i'.getD 1 0).fmod 4<4:=zO _ bd;obtain⟨u,aM⟩:=zM<|show 0<=(i'.getD 0 0).fmod 7+1 by exact f1 (.b3 (.n 0)<|.o .x) [.b3 (.n 0) .x] U F'
 obtain⟨aV,E7⟩:=zM ajn;refine bq.assign (u:=.int u) (dd.cast (ae.add (ae.mod (ar.NC (aA:=0) (aw:=i') ar.nm ae.cT (by exact cy (.t (.n 0) .x) [.l (.n 2) .x] U wu) (by exact gd [1,-1,1] (.l .x .y) [.e .y<|.n 16777216,.l .x<|.n 28] U L Cx)) ae.cT bd) ae.cT) aM) (by cbv) ?_;refine bq.assign (u:=.int aV) (dd.cast (ae.mod (ar.NC (aA:=1) (aw:=i') ar.nm ae.cT (by exact cy (.t (.n 1) .x) [.l (.n 2) .x] U wu) (by exact gd [1,-1,1] (.l .x .y) [.e .y<|.n 16777216,.l .x<|.n 28] U L Cx)) ae.cT bd) E7) (by cbv) ?_--octets
 have aP:(pP i').length=(i'.length-2)+(if i'.length<3 then 1 else 0):=by unfold pP;refine V gU<|V (d3 ..)<|V z5 ?_;split<;>rfl
 have y3:0<(pP i').length:=aP.symm▸(Vy i'.length (Hi Cx) wu).1;have zh:(pP i').length<=30:=aP.symm▸(Vy i'.length (Hi Cx) wu).2;refine bq.assign (u:=cS<|pP i') (ae.cast (ae.tO (aw:=(i'.drop 2).map λt=>t.fmod 256) (dh:=if i'.length<3 then[0]else[]) (cR:=.fr) ?_ (ae.ite (l:=.b2) (e:=decide<|i'.length<3) ?_ ?_ ?_) ?_) U) (by cbv) ?_
 .exact ar.uY (D:=i'.drop 2) t.top9 (fp.list (ka.of<|ae.MD (aw:=i') (t:=2) ar.nm ae.cT (by exact gd [1,-1,1] (.l .x .y) [.e .y<|.n 16777216,.l .x<|.n 28] U L Cx))<|.inl<|j1 _ _ U) (λj bS=>⟨ar.t1,ae.mod ar.nm ae.cT bd⟩) (by simp;exact rs [1,-1,-1,1,1] (.l .x<|.a .y<|.n 2) [.e .y<|.n 16777216,.e .z<|.a .w .u,.l .z<|.n 30,.l .x<|.a .w<|.n 2] U L aP zh<|f2 _ _)
 .exact gA.cast (gA.lt (ar.v8 t.top9 ar.nm (by exact ph [1,-1,1,1] (.t .x<|.n 4611686018427387904) [.e .y<|.a .z .w,.l .y<|.n 30,.l .x<|.a .z<|.n 2] U aP zh<|f2 _ _)) ae.cT λw=>U) (by congr 1;simp;exact⟨λbP=>cy (.t .x<|.n 3) [.b_ (.c .x)<|.n 3] U bP,λbP=>cy (.b_ (.c .x)<|.n 3) [.t .x<|.n 3] U bP⟩)
 .intro c;exact V (if_pos<|of_decide_eq_true c)<|(ae.list (aH:=[.int 0]) (eU.fH ae.cT eU.nl) bd).gQ
 .intro c;exact V (if_neg<|of_decide_eq_false c)<|(ae.list (aH:=[]) eU.nl bd).gQ
 .exact bb (mF gU.symm)<|bb zh bd
 have v1:aV<4:=by exact Ij [1,1,-1] (.t .x<|.n 4) [.b_ .x<|.n 4,.eG .x<|.c .x] U VA E7
 have u5:1<=u:=by exact pg (.l (.n 1) .x) [.b3 (.n 0) .x,.eG (.o .x)<|.c .x] U F' aM
 have MB:u<8:=by exact Ij [1,1,-1] (.t .x<|.n 8) [.b_ .x<|.n 7,.eG (.o .x)<|.c .x] U Vz aM
 specialize c aV u v1 u5 MB zh y3--amM,blocks
 have Ir:((u:Int)-1).toNat=u-1:=Da u 1;obtain⟨fv,ajo,ajp⟩:=t.So;obtain⟨BV,ajq,ajr⟩:=t.Sp;have mB:∀{ch:List<|List Int}{aA:Nat}{B:al}{A:b0}{f:Str}{di e1 fi hG ij kW pz x5:Pos},g.gl f=W B->cf g.s0.heap g.tabs (.tup<|ch.map k1) B->ch.length=4->(ch.getD aV [])[u-1]?=W (aA:Int)->(ch.getD aV []).length<=7->fI A "kind"=W (.f<|.int aV)->fI A "version"=W (.f<|.int u)->eA (fa<|cj ao 28) f=Z-> dd g (z+2) (fa<|cj ao 28) A (.Subscript (.Subscript (.Name f di) (.Name "kind" e1) fi) (.BinOp (.Name "version" hG) .Sub (.Constant (.int 1) 0 ij) kW) pz) aA:=by intro ch aA B A f di e1 fi hG ij kW pz x5 aK av fN ajs ajt af ap R;refine ae.BK (aH:=(ch.getD aV []).map .int) (ae.BK (aH:=ch.map k1) (ae.glob t.ok aK av R) (ae.name af (by cbv)) (by exact cy (.b3 (.n 0)<|.c .x) [] U) (ajl fN (by exact Xo [1,1,-1,1] (.t .x<|.n 4) [.b_ .x<|.n 4,.eG .x<|.c .y,.eG (.c .x)<|.c .y] U VA E7<|oG<|cy (.b3 (.n 0)<|.c .x) [] U)) (by refine V (d3 ..) ?_;exact gd [1,-1,1] (.l .x .y) [.e .y<|.n 16777216,.e .x<|.n 4] U L fN)) (ae.sub (ae.name ap (by cbv)) ae.cT) (by exact pg (.b3 (.n 0)<|.s (.c .x)<|.n 1) [.b3 (.n 0) .x,.eG (.o .x)<|.c .x] U F' aM) ?_ (by refine V (d3 ..) ?_;exact gd [1,-1,1] (.l .x .y) [.e .y<|.n 16777216,.l .x<|.n 7] U L ajt);refine V Ir<|V (fk)<|V ajs ?_;rfl
 refine bq.assign (u:= .int<|ey aV u) (mB (x5:=default) ajo ajp U (ajj aV v1 u MB u5) ?_ U U (by cbv)) (by cbv) ?_
 .exact(show∀aV,aV<4->(Cs.getD aV []).length<=7 by decide) aV v1
 refine bq.assign (u:= .int<|fJ aV u) (mB (x5:=default) ajq ajr U (ajk aV v1 u MB u5) ?_ U U (by cbv)) (by cbv) ?_
 .exact(show∀aV,aV<4->(Ct.getD aV []).length<=7 by decide) aV v1
 refine bq.assign (u:= .int<|m' u) (ar.call t.ok t.Sq (gG.fH ar.nm gG.nl)<|aiW u (by exact⟨pg (.b3 (.n 1)<|.c .x) [.b3 (.n 0) .x,.eG (.o .x)<|.c .x] U F' aM,Ij [1,1,-1] (.b3 (.c .x)<|.n 7) [.b_ .x<|.n 7,.eG (.o .x)<|.c .x] U Vz aM⟩)) (by cbv) ?_;exact bq.le (hD U) c
end
section
variable{g:dw}{z:Nat}{aY:List aq}{ca:List ez}{Q:c4}{A:b0}
noncomputable def Gb(en cz fr:Int)(k:Int):Int:=(fr.fdiv 8).fdiv cz-en+(if k>=cz-(fr.fdiv 8).fmod cz then 1 else 0)
noncomputable def Gc(en cz a:Int):Int:=if(620:Int).fdiv (en*cz)<a then(620:Int).fdiv (en*cz)else a
noncomputable def Gd(fY:List Int)(l:Int):Int:=(fY.getD (l.fmod fY.length).toNat 0+101*l.fdiv fY.length).fmod 256
noncomputable def o7(fv:Nat->Nat):Nat->Nat|0=>0|k+1=>o7 fv k+fv k
noncomputable def wG(fY:List Int)(fP fv:Nat->Nat)(k:Nat):List Int:=dq (fP k-fv k) 0++(h3 (o7 fv k) 1<|fv k).map (Gd fY)
noncomputable def oo(fY:List Int)(fP fv:Nat->Nat)(cz:Nat):List (List Int):=(c2 cz).map<|wG fY fP fv
structure Ge(en cz:Nat)(fr:Int)(fP fv:Nat->Nat):Prop where
 vh:1<=en/\en<=30
 xT:1<=cz/\cz<=10
 vi:∀k:Nat,k<cz->Gb en cz fr k=fP k/\Gc en cz (fP k)=fv k/\fv k<=fP k/\fP k<=200/\2<=fP k
theorem VB{fv:Nat->Nat}{cz:Nat}(c:∀k,k<cz->fv k<=200):∀k,k<=cz->o7 fv k<=200*k|0,_=>dA _|k+1,ac=>by have:=VB c k (by exact c3 (.l .x .y) [.l (.o .x) .y] U ac);have:=c k (by exact c3 (.t .x .y) [.l (.o .x) .y] U ac);show o7 fv k+fv k<=_;omega
theorem aju(t:r8 g)(fY:List Int)(aP:0<fY.length/\fY.length<=30){en cz:Nat}{fr:Int}{aV u:Nat}{fP fv:Nat->Nat}(ch:Ge en cz fr fP fv){cu:jq->b0->Prop}(c:bq g (z+2) (fa<|cj ao 28) aY [("data",.b<|.lst<|(oo fY fP fv cz).map cS),("free",.f<|.int fr),("blocks",.f<|.int cz),("checks",.f<|.int en),("kind",.f<|.int aV),("version",.f<|.int u)] ca cu):bq g (z+2) (fa<|cj ao 28) aY [("free",.f<|.int fr),("blocks",.f<|.int cz),("checks",.f<|.int en),("octets",.f<|cS fY),("kind",.f<|.int aV),("version",.f<|.int u)] ((r'.take 10).drop 7++ca) cu:=by
 have L:cI=2^24:=U;obtain⟨il,lY⟩:=ch.vh;obtain⟨fX,gY⟩:=ch.xT;conv=>arg 6;whnf
 refine bq.M_ (ae.list (aH:=[]) trivial<|eJ _) (by cbv)<|bq.assign ae.cT (by cbv) ?_;refine bq.oU (λk A=>he [("taken",.f<|.int<|o7 fv k),("data",.o<|.lst<|(c2 k).map λaD=>cS<|wG fY fP fv aD),("free",.f<|.int fr),("blocks",.f<|.int cz),("checks",.f<|.int en),("octets",.f<|cS fY),("kind",.f<|.int aV),("version",.f<|.int u)] A) (λw w=>U) (ar.range t.top9 ar.nm (by exact cy (.t .x<|.n 4611686018427387904) [.l .x<|.n 10] U gY)) ?_ (hD U) ?_
 .intro k f bU R e5;obtain⟨ac,rfl⟩:=Cu R;obtain⟨j3,An,pu,Gf,ana⟩:=ch.vi k ac;have bC:=VB (fv:=fv) (cz:=cz) (λk ac=>by have:=ch.vi k ac;exact c3 (.l .x<|.n 200) [.l .x .y,.l .y<|.n 200] U this.2.2.1 this.2.2.2.1) k (by exact c3 (.l .x .y) [.t .x .y] U ac);refine⟨ar.t1,bq.le (bU:=[("number",.f<|.int k),("taken",.f<|.int<|o7 fv k),("data",.o<|.lst<|(c2 k).map λaD=>cS<|wG fY fP fv aD),("free",.f<|.int fr),("blocks",.f<|.int cz),("checks",.f<|.int en),("octets",.f<|cS fY),("kind",.f<|.int aV),("version",.f<|.int u)]) ⟨U,e5⟩ ?_⟩--size
  refine bq.assign (u:=.int<|fP k) (dd.cast (ae.add (ae.sub (ae.div (ae.div ar.nm ae.cT bd<|sR bd) ar.nm (by exact c3 (.fQ (.c .x)<|.n 0) [.t .y .x] U ac)<|sR (by exact cy (.t .x<|.n 1073741824) [.l .x<|.n 10] U gY)) ar.nm) (b:=if(k:Int)>=cz-(fr.fdiv 8).fmod cz then 1 else 0)<|ae.ite (l:=.b2) (gA.ge ar.nm (ae.sub ar.nm<|ae.mod (ae.div ar.nm ae.cT bd<|sR bd) ar.nm (by exact c3 (.fQ (.c .x)<|.n 0) [.t .y .x] U ac)) λw=>U) (λe=>?_) λe=>?_) j3) (by cbv) ?_
  .refine V (if_pos<|of_decide_eq_true e) ?_;exact ae.cT
  .refine V (if_neg<|of_decide_eq_false e) ?_;exact ae.cT--live
  have ajv:(en:Int)*cz=((en*cz:Nat):Int):=U;have ajw:en*cz<=300:=Hr lY gY;refine bq.assign (u:=.int<|fv k) (dd.cast (ae.min2 t.ok ar.nm (ae.div ae.cT (ae.mul ar.nm ar.nm<|rK (by exact⟨cy (.b_ (.g<|.n 18446744073709551616)<|.c .x) [] U,cy (.b_ (.c .x)<|.n 18446744073709551616) [.l .x<|.n 30] U lY⟩)) (by refine V ajv ?_;exact cy (.fQ (.c .x)<|.n 0) [.l (.n 1) .x] U<|Hr il fX)<|sR (by exact cy (.t .x<|.n 1073741824) [.l .x<|.n 300] U ajw)) t.min) An) (by cbv) ?_--data.append
  refine bq.append (u:=cS<|wG fY fP fv k) U (by cbv) (ae.tO (aw:=dq (fP k-fv k) 0) (dh:=(h3 (o7 fv k) 1<|fv k).map<|Gd fY) (cR:=.fr) (eZ:=.fr) (ae.cast (ae.F9 (G:=0) (ae.list (aH:=[.int 0]) (eU.fH ae.cT eU.nl) bd) (ae.sub ar.nm ar.nm) (by exact c3 (.b3 (.g<|.n 9223372036854775808)<|.s (.c .x)<|.c .y) [.l .y .x] U pu) (by exact c3 (.b3 (.s (.c .x)<|.c .y)<|.n 16777216) [.l .x<|.n 200] U Gf)) (by exact V (show((fP k:Int)-fv k).toNat=fP k-fv k by omega) U)) (ar.uY (D:=h3 (o7 fv k) 1<|fv k) t.top9 (show fp _ _ _ _ _ _ _ _ from(show((o7 fv k:Int)+fv k-o7 fv k).toNat=fv k by exact nW [1,1,0] [1,0,1] (.e .x .y) [.b3 (.s (.a (.c .z)<|.c .y)<|.c .z)<|.c .x,.eG (.c .x)<|.s (.a (.c .z)<|.c .y)<|.c .z] U (ru _)<|oG<|c3 (.b3 (.n 0)<|.s (.a (.c .x)<|.c .y)<|.c .x) [] U)▸fp.Xa t.ok ar.nm (ae.add ar.nm ar.nm) t.range (by cbv) ⟨U,U⟩ (by exact cy (.b3 (.g<|.n 4611686018427387904)<|.c .x) [] U) (by exact j4 [1,200,200,1] (.b_ (.c .x)<|.n 4611686018427387904) [.l .y<|.n 10,.t .z .y,.l .x<|.m 200 .z] U gY ac bC) (by exact c3 (.b3 (.g<|.n 4611686018427387904)<|.a (.c .x)<|.c .y) [] U) (by exact rs [1,200,200,1,1,1] (.b_ (.a (.c .x)<|.c .y)<|.n 4611686018427387904) [.l .z<|.n 10,.t .w .z,.l .y .u,.l .u<|.n 200,.l .x<|.m 200 .w] U gY ac pu Gf bC)) (λl aS=>⟨ar.t1,?_⟩) (by refine V (vF ..) ?_;exact j4 [1,-1,1,1] (.l .x .y) [.e .y<|.n 16777216,.l .x .z,.l .z<|.n 200] U L pu Gf)) (by refine V ng<|V (d3 ..)<|V (vF ..) ?_;exact ph [1,-1,1,2,1] (.l (.a .x .y) .z) [.e .z<|.n 16777216,.l .y .w,.l .w<|.n 200,.l .x .w] U L pu Gf<|k9 _ _)) (by simp;exact j4 [1,-1,1,1] (.l .x .y) [.e .y<|.n 16777216,.l .z<|.n 10,.t .x .z] U L gY ac) ?_
  .obtain⟨aD,dx,rfl⟩:=k_.mp aS;have hP:0<=((o7 fv k:Int)+(aD:Int)*1):=by exact c3 (.b3 (.n 0)<|.a (.c .x)<|.r (.c .y) 1) [] U
   have Gh:0<=((o7 fv k:Int)+(aD:Int)*1).fmod fY.length:=zN _ (by exact cy (.b_ (.n 0)<|.c .x) [.t (.n 0) .x] U aP.1);have bm:((o7 fv k:Int)+(aD:Int)*1).fmod fY.length<fY.length:=zO _ (by exact cy (.b_ (.n 0)<|.c .x) [.t (.n 0) .x] U aP.1);exact ae.mod (ae.add (ae.BJ (aw:=fY) ar.nm (ae.mod ar.nm (ar.v8 t.top9 ar.nm (by exact cy (.t .x<|.n 4611686018427387904) [.l .x<|.n 30] U aP.2)) (by exact pg (.fQ (.c .x)<|.n 0) [.b3 (.n 0) .x,.b_ .x<|.c .x] U Gh bm)) Gh (by exact Ik (.t .x .y) [.b_ .x<|.c .y,.eG (.c .x) .x] U bm<|oG Gh) (by exact gd [1,1,-1] (.l .x .y) [.l .x<|.n 30,.e .y<|.n 16777216] U aP.2 L))<|ae.mul ae.cT (ae.div ar.nm (ar.v8 t.top9 ar.nm (by exact cy (.t .x<|.n 4611686018427387904) [.l .x<|.n 30] U aP.2)) (by exact pg (.fQ (.c .x)<|.n 0) [.b3 (.n 0) .x,.b_ .x<|.c .x] U Gh bm)<|sR (by exact cy (.t .x<|.n 1073741824) [.l .x<|.n 30] U aP.2))<|rK bd) ae.cT bd
  refine bq.ahT U (by cbv) (by cbv) ar.nm<|bq.nil ⟨U,?_,U,U,U,U,U,U,trivial⟩;show W (Slot.o<|bh.lst _)=W (Slot.o<|bh.lst _);refine V HC<|V mc ?_;rfl
 .intro bU e5;replace e5:=(show(m5 cz).length=cz by simp[m5])▸e5;refine bq.le e5<|bq.lock (f:="data") U<|bq.le ?_ c;refine⟨?_,U,U,U,U,U,trivial⟩;show W (Slot.b<|bh.lst _)=W (Slot.b<|bh.lst _);unfold oo;refine V jY ?_;rfl
end
section
variable{g:dw}{z:Nat}{Q:c4}{A:b0}{q:bY}{aY aT bc:Inv}{i:bB}{u:bh}
theorem d1.comp(az:g.Ok)(cn:jT A)(c6:Kr g z q Q ai A dk s bQ a6 aj bA ds)(gB:mX g z Q A s.target s.iter bA):d1 g z q Q ai A (.ListComp dk (s::bQ) a6 aj) (λu b1=>u=.lst ds.flatten/\b1=ai):=λn p N aF S a ax L M r ac C ah=>by
 subst L;have iH:=r.now;have eL:=M.up (c0:=a.heap.objs.size) r.1;have VC:∀b∈ai.W,b∈p:=λb m=>(ac.2 b m).1;refine So (g:=g) (z:=z) (ai:=ai) (j':=[]) (kQ:=[]) (kX:=λw=>True) (bA:=bA) (ds:=ds) az c6 cn ?_ aW aW ax M r ac ?_
 .intro E C e ah;refine gB q n p N aF a.heap.objs.size a.gens.size ax U eL E C ⟨e.1,e.2.1⟩ λa4 eR bX aM=>ah a4 eR bX λnk qO=>aM nk λdp am bF a0 n6 St aT=>qO dp am bF a0 n6 St aT.3 ?_;have wH:=aT.CE;exact⟨wH.1,wH.2,wH.3,wH.4,wH.5,λb m=>⟨(wH.6 b m).1,λe=>(wH.6 b m).2<|VC b e⟩⟩
 .intro ul B0 v lA gO pA v3 sI Ee jp Be T7 dR;refine c5 lA λpo lA=>⟨po,lA,λaa ea=>?_⟩;have eB:a9 [ul] [] v {v with heap:=aa}:=bJ.same (x:=v.toks) ea;have lC:a9 ai.W ai.G a {v with heap:=aa}:=(gO.mono (λb m=>by simpa using m) λb m=>by simpa using m).hj eB (λb m=>.inr<|bm m▸gz pA) aW;have LA:fh g {v with heap:=aa}:=dR.to eB λG ab=>bm ab▸bb r.2.1.2 pA;have LB:ul∉p:=λe=>cd (eL.8 _ e) pA;have ajx:ai.At g n p N {v with heap:=aa}:=by exact((Be (ul::p) (λb m=>mt m) λb m=>dH m (λe=>e▸bz) λe=>mt<|mt e).it eB (λb m=>(bm m).symm▸⟨bz,λG=>LB<|VC _ G⟩) aW).narrow ac (λb m=>mt m) lC.2
  refine ah (.ref B0) _ (.lst ds.flatten) ai p S ⟨U,U⟩ ⟨λw c=>c,λw c=>.inl c,λw c=>.inl c,λw c=>.inl c,λw c=>.inl c,lC.mono (λb m=>bO m) λw c=>c⟩ M (r.wQ cn (λG ab=>(ac.2 G ab).1) (λG ab=>(ac.2 G ab).2.2.1) lC LA) ajx ?_;have vo:B0∉p:=λe=>cd (eL.8 _ e) v3;exact((jp.obj (iA<|iA sI) ea).sub (aU:=p) λB a8=>mt a8).rep vo
theorem Inv.At.swap{n:Env}{p N:List aq}{a:ag}(c:((aY.both bc).both aT).At g n p N a):((aY.both aT).both bc).At g n p N a:=(c.fst.fst.both c.snd).both c.fst.snd
theorem ajy{b:aq}(c:b∈((aY.both aT).both bc).W):b∈((aY.both bc).both aT).W:=bN c (λc=>bN c (λc=>b3<|b3 c) λc=>bO c) λc=>b3<|bO c
theorem ajz{b:Nat}(c:b∈((aY.both aT).both bc).G):b∈((aY.both bc).both aT).G:=bN c (λc=>bN c (λc=>b3<|b3 c) λc=>bO c) λc=>b3<|bO c
end
section
noncomputable def ja(aG:List<|List Int):List Int:=(c2 (r7<|aG.map λb=>(b.length:Int)).toNat).flatMap λl=>aG.flatMap λb=>if l<b.length then(c2 8).map λk=>nz (b.getD l 0) 8 k else[]
theorem VD(D:List bf)(I:bf->List Int):(D.map λh=>(I h).map bh.int).flatten=(D.flatMap I).map bh.int:=by induction D with|nil=>rfl|cons j df a2=>exact V iz<|V jA<|V a2<|V nR<|V mc U
theorem MC(c:py (.Name f e) A=Z)(ay:(B==f)=a1):py (.Name f e) ((B,bx)::A)=Z:=by unfold py JD at*;simp only[nQ,List.all_nil,Ng]at*;refine V ay ?_;simpa using c
theorem ME(ay:(B==f)=a1):fI ((B,bx)::A) f=fI A f:=by show(bif B==f then W bx else fI A f)=_;refine V ay ?_;rfl
theorem ajA(ay:0<t):∃k,k<t/\Mu pN t=pN k:=by
 refine(dj _ ?_ U);have:∀(lt:Nat->Nat->Bool)aA,argBest lt aA<=aA:=by intro lt aA;induction aA with
  |zero=>exact dA _|succ aA a2=>unfold argBest;split<;>(first|exact lM _|exact c3 (.l .x<|.o .y) [.l .x .y] U a2)
 have:=this (λk aD=>decide<|pN k>pN aD)<|t-1;exact hh (.t .x .y) [.l .x .z,.e (.a .z<|.n 1) .y] U this<|eN<|cy (.l (.n 1) .x) [.t (.n 0) .x] U ay
theorem MG(c:0<aw.length):r7 aw∈aw:=by refine br (ajA (pN:=λk=>aw.getD k 0) c) λk ac i=>?_;unfold r7;exact V i<|V (fK)<|V (fG ac)<|sg ac
variable{j:b7}{aE:ag}{T:Nat->Obj}{x:Nat}{au:fQ}{z:Nat}{q:bY}{Q:c4}{A:b0}{aY:Inv}{I be cG eu:aq}{nm:al}{E:Tok}{f:Str}{aG:List<|List Int}{a6 wI:c4}{dm eY lU vD sQ yE s9 s_ s' wa wb wc wd yF BQ yG we wf yH wg yI wh wi yJ yK FE:Pos}
theorem d1.bits(aO:dy j aE T x au)(cn:jT A)(cK:cG∉aY.W)(m:∀b∈aG,gs b/\b.length<=1000)(c9:0<aG.length)(aI:aG.length<=100)(VE:fI A f=W (.f<|.lst<|aG.map gh))(sC:ht Q f=Z)(ajB:eA Q "range"=Z)(ajD:eA Q "max"=Z)(ajE:oR wI Q=Z)(ajF:eA (eO wI Q) "len"=Z)(oJ:ht (eO wI Q) "block"=Z)(ajG:oP Z (eO wI Q) "block"=Z)(ajH:py (.Name "block" sQ) (hQ (eO wI Q) A)=Z)(jl:oR a6 Q=Z)(f4:([("k":Str),"block","bit"].all<|oP Z<|eO a6 Q)=Z)(VF:(py (.Name "k" dm) (hQ (eO a6 Q) A)&&py (.Name "block" eY) (hQ (eO a6 Q) A)&&py (.Name "bit" lU) (hQ (eO a6 Q) A))=Z)(VG:fI (hQ (eO a6 Q) A) f=W (.f<|.lst<|aG.map gh))(It:fI (hQ (eO a6 Q) A) "to_binary"=W (.f<|us I be eu nm E))(yS:([f,"k","block","bit","to_binary"].all<|ht<|eO a6 Q)=Z)(ajJ:eA (eO a6 Q) "len"=Z)(ajM:(("k":Str)==f)=a1):d1 (a3 j aE T x au) (z+1) q Q (aY.both<|ur be cG) A (.ListComp (.Name "bit" vD) [⟨.Name "k" dm,.Call (.Name "range" yE) [.Call (.Name "max" s9) [.ListComp (.Call (.Name "len" s_) [.Name "block" s'] [] wa) [⟨.Name "block" sQ,.Name f wb,[],0⟩] wI wc] [] wd] [] yF,[],0⟩,⟨.Name "block" eY,.Name f BQ,[.Compare (.Name "k" yG) [.Lt] [.Call (.Name "len" we) [.Name "block" wf] [] yH] wg],0⟩,⟨.Name "bit" lU,.Call (.Name "to_binary" yI) [.Subscript (.Name "block" wh) (.Name "k" wi) yJ] [] yK,[],0⟩] a6 FE) (λu b1=>u=cS (ja aG)/\b1=aY.both (ur be cG)):=by
 have az:=io aO;have cA:=ug aO;have L:cI=2^24:=U;simp only[nQ,List.all_nil,Ng,h_]at f4 yS VF;refine eQ f4 λvZ yl ajN=>kK yS λJ3 EJ VH ajO ajP=>cY VF λbP ajS=>cY bP λyp KQ=>?_;have nA:r7 (aG.map λb=>(b.length:Int))∈aG.map λb=>(b.length:Int):=MG (by simpa using c9);refine br (by refine mg nA λb dR i=>?_;exact(dj b.length i.symm (m b dR).2):∃aA:Nat,r7 (aG.map λb=>(b.length:Int))=aA/\aA<=1000) λaA bt VI=>?_;have VJ:dd (a3 j aE T x au) (z+1) Q A (.Call (.Name "max" s9) [.ListComp (.Call (.Name "len" s_) [.Name "block" s'] [] wa) [⟨.Name "block" sQ,.Name f wb,[],0⟩] wI wc] [] wd) aA:=by refine bt▸?_;exact ae.max az (ar.uY (D:=aG) (nH:=gh) (oZ:=λb=>(b.length:Int)) cA (fp.list (ka.of<|ae.name VE sC)<|.inl<|j1 _ _ U) (λb dR=>⟨ajG,ae.CH cA (ar.nm (by rfl) oJ) (by have:=(m b dR).2;exact cy (.t .x<|.n 4611686018427387904) [.l .x<|.n 1000] U this) ajF⟩) (gd [1,1,-1] (.l .x .y) [.l .x<|.n 100,.e .y<|.n 16777216] U aI L) ajE ajH λw w=>U) (by simpa using c9) (by cbv) ajD U
 have cF:(cS<|ja aG)=.lst ((c2 aA).map λl=>((aG.map λb=>(if l<b.length then(c2 8).map λk=>nz (b.getD l 0) 8 k else[]).map bh.int).flatten)).flatten:=by
  unfold ja;refine V bt<|V (mD ..) ?_;show bh.lst _=_;refine b' (VD ..) ?_
  congr 2;exact rf λl w=>b' (VD ..) U
 refine cF.symm▸?_;refine d1.comp az cn ⟨jl,U,eJ _,λbX e=>(by cases e;rfl),λw w=>U,AllP.gv (h:=0) (z:=1) λl aS=>?_,?_⟩<|mX.v' (t:=aA) az VJ yA ajB U<|cy (.t .x<|.n 4611686018427387904) [.l .x<|.n 1000] U VI
 .have L4:((0:Int)+l*1)=(l:Int):=cy (.eG (.a (.n 0)<|.r (.c .x) 1)<|.c .x) [] U;refine L4.symm▸⟨vZ,A8 yp,(pD.next (s:=⟨.Name "block" eY,.Name f BQ,[.Compare (.Name "k" yG) [.Lt] [.Call (.Name "len" we) [.Name "block" wf] [] yH] wg],0⟩) U U (by show 1<=1;decide) (λbX e=>(by cases e;rfl)) (λw w=>U) U (vU.of<|mX.list (ae.name (u:=.lst<|aG.map gh) ((ME ajM).trans VG) J3) bd<|.inl<|j1 _ _ U)<|AllP.map λb dR=>cY (m b dR) λhA fN=>⟨yl,A8<|MC KQ bd,?_⟩)⟩;have bC:gA (a3 j aE T x au) (z+1) (eO a6 Q) (lv (.Name "block" eY) (gh b)<|lv (.Name "k" dm) (.int l)<|hQ (eO a6 Q) A) (.Compare (.Name "k" yG) [.Lt] [.Call (.Name "len" we) [.Name "block" wf] [] yH] wg) (decide<|(l:Int)<b.length):= gA.lt (ae.name (by rfl) EJ) (ae.CH cA (ae.name (by rfl) VH) (cy (.t .x<|.n 4611686018427387904) [.l .x<|.n 1000] U fN) ajJ) λw=>U;by_cases Gi:l<b.length
  .refine(if_pos Gi).symm▸ ?_;have bG:decide ((l:Int)<b.length)=Z:=by simpa using Gi
   replace bC:=bG▸bC;have cr:((c2 8).map λk=>nz (b.getD l 0) 8 k).map bh.int=((c2 8).map λk=> [bh.int<|nz (b.getD l 0) 8 k]).flatten:=by refine V (r0 ..)<|V jY ?_;rfl
   refine cr.symm▸pD.next (s:=⟨.Name "bit" lU,.Call (.Name "to_binary" yI) [.Subscript (.Name "block" wh) (.Name "k" wi) yJ] [] yK,[],0⟩) U U (eJ _) (λbX e=>(dI e)) (λw w=>U) bC (vU.ahI (u:=b.getD l 0) aO cK ((ME bd).trans<|(ME bd).trans It) ajP (dd.cast (ae.OZ (aw:=b) (k:=l) (ae.name (by rfl) VH) (ae.name (by rfl) EJ) (iP _) (by assumption) hA<|gd [1,-1,1] (.l .x .y) [.e .y<|.n 16777216,.l .x<|.n 1000] U L fN)<|V (mD ..) U) U) (AllP.map λk ac=>⟨ajN,A8<|MC (MC ajS bd) bd,pD.of<|jo.one U U<|ae.name (u:= .int<|nz (b.getD l 0) 8 k) (by rfl) ajO⟩)
  .refine(if_neg Gi).symm▸ ?_;have bG:decide ((l:Int)<b.length)=a1:=by simpa using Gi
   replace bC:=bG▸bC;exact pD.of<|jo.skip bC
 .have: ∀l:Nat,((aG.map λb=>(if l<b.length then(c2 8).map λk=>nz (b.getD l 0) 8 k else []).map bh.int).flatten).length<=8*aG.length:=by intro l;clear c9 aI VE VG m cF nA bt VJ;induction aG with
   |nil=>exact dA _ |cons b aG a2=>
    refine V iz<|V jA<|V gU<|V (d3 ..)<|V iy ?_;have:(if l<b.length then(c2 8).map λk=>nz (b.getD l 0) 8 k else []).length<=8:=by split<;>simp
    exact hh (.l (.a .x .y)<|.m 8<|.o .z) [.l .y<|.m 8 .z,.l .x<|.n 8] U a2 this
  have ap: ∀t:Nat,((c2 t).map λl=>((aG.map λb=>(if l<b.length then(c2 8).map λk=>nz (b.getD l 0) 8 k else []).map bh.int).flatten)).flatten.length<=t*(8*aG.length):=by intro t;induction t with
   |zero=>exact eJ _ |succ t a2=> refine(show c2 (t+1)=c2 t++ [t] from HC).symm▸mc.symm▸z3.symm▸gU.symm▸ ?_;have:=this t;refine V (w' ..) ?_;simp only[iz,z4,jA,List.flatten_nil,uN];exact oF (.l (.a .x .y)<|.a .z<|.m 8 .w) [.l .x .z,.l .y<|.m 8 .w] U a2 this
  have cx:aA*(8*aG.length)<=1000*(8*100):=Hr VI<|rq [1,8] (.l (.m 8 .x)<|.m 8<|.n 100) [.l .x<|.n 100] U aI;exact j4 [1,-1,1,1] (.l .x .y) [.e .y<|.n 16777216,.l .x .z,.l .z<|.m 1000<|.m 8<|.n 100] U L (ap aA) cx
end
section
open PySem PySem.W PySem.F PySem.Calls PyProof.Rows
theorem ajT:HJ.lookup (HK ['s','e','t','y','b'].reverse)=W Manifest.sig_bytes:=by cbv
theorem VK:uI "bytes" "__mul__" "bytes.__mul__":=.of (owner:="bytes") (n:="__mul__") (by refine V (hJ ..)<|V hK ?_;cbv) (by decide+kernel) (by decide+kernel) iS (by first|exact .inl (by decide+kernel)|exact .inr (by decide+kernel)) (by refine V (kH ..) ?_;cbv)
theorem ajU:k6 table "bytes.__mul__"=W HL:=o_ (by cbv)
theorem ajV(h b:al):jc "bytes.__mul__" ⟨[h,b],[]⟩:=by unfold jc;refine V (sc (id:="bytes.__mul__") (n:=['_','_','l','u','m','_','_']) (o:=['s','e','t','y','b']) (by cbv) ajT) ?_;cbv
theorem ajW:uI "bytes" "__rmul__" "bytes.__rmul__":=.of (owner:="bytes") (n:="__rmul__") (by refine V (hJ ..)<|V hK ?_;cbv) iS iS iS (by first|exact .inl iS|exact .inr iS) (by refine V (kH ..) ?_;cbv)
theorem ajX:fillsNumberSlot (.type "bytes") "mul"=pure a1:=PySem.fillsNumberSlot_seq (id:="bytes.__mul__") (r:=W<|.builtin "bytes.__rmul__") VK.lookup (by decide+kernel) ajW.lookup iS
theorem ajY:seqRepeat? (.type "bytes")=pure (W<|.builtin "bytes.__mul__"):=by rfl
noncomputable def tm(t:Nat):Array UInt8:=(dq t 0).toArray
theorem ajZ(st:pb)(l:Nat)(E aN:Tok)(t:Int)(b:Array UInt8):kV st .nil (λw w=>aQ) (Builtin.«int.__rmul__» ⟨[.int t aN,.bytes b E],[]⟩) l=W (.ok<|.done<|.ret .notImplemented,l+0):=by cbv
theorem aj0(st:pb)(l:Nat)(E aN:Tok):kV st .nil (λw w=>aQ) (HL ⟨[.bytes #[0] E,.int 0 aN],[]⟩) l=W (.ok<|.done<|.ret<|.bytes (tm 0) l,l+1):=by cbv
theorem aj1(st:pb)(l:Nat)(E aN:Tok):kV st .nil (λw w=>aQ) (HL ⟨[.bytes #[0] E,.int 7 aN],[]⟩) l=W (.ok<|.done<|.ret<|.bytes (tm 7) l,l+1):=by cbv
section
variable{q:bY}{a:ag}{E aN:Tok}{t:Nat}
theorem aj2{C:al->ag->Prop}(ay:t=0\/t=7)(c:C (.bytes (tm t) a.toks) {a with toks:=a.toks+1}):b9 (cq prog j) q (tt .Mult (.bytes #[0] E)<|.int t aN) C as a:=by
 refine wpAny_binaryOp_repeat (T:="bytes") (U:="int") bd (λv=>ry v _ E) (λv=>wP v t aN) ajX F.fills_int_mul Dw ajY OM.lookup<|k7 Dw (wP a t aN) ON (EC (z:=0) (λst l=>ajZ st l E aN t _)<|ro _ U U<|k7 VK (ry _ _ E) ajU ?_<|ajV _ _)<|OO _ _;rcases ay with rfl|rfl
 .exact EC (z:=1) (λst l=>aj0 st l E aN)<|dj _ U c
 .exact EC (z:=1) (λst l=>aj1 st l E aN)<|dj _ U c
end
variable{g:dw}{z:Nat}{Q:c4}{A:b0}{y:bB}{aj bn:Pos}{aD t:Nat}
theorem ae.px(ay:t=0\/t=7)(c:dd g z Q A y t):ae g z Q A (.BinOp (.Constant (.bytes [0]) aD bn) .Mult y aj) .b2 (.bytes<|Mine.tm t):=λq n p N aF S ax L M=>by
 refine qj (j8:=λa g=>∃E,g=.bytes #[0] E) M.ok (λa C w ah=>?_) (λw w w c w=>c) (eT c ax L M) λa fM g5 w bo bE C ah=>?_
 .exact Y.of<|wpAny_mkBytes<|ah _ _ (bJ.tok ..) ⟨_,U⟩
 .obtain⟨E,rfl⟩:=bo;obtain⟨aN,rfl⟩:=bE;refine Y.of<|aj2 ay<|ah _ _ (bJ.tok ..) ?_;show cf _ _ _ _;exact⟨_,U⟩
end
section
variable{j:b7}{aE a v:ag}{T:Nat->Obj}{x:Nat}{au:fQ}{z:Nat}{q:bY}{n:Env}{p N aF:List aq}{S:Nat}{Q:c4}{A:b0}{ai fD:Inv}{h bH ck:aq}{aw dh:List Int}{f:Str}{i:bB}{di nB aj:Pos}{cb:List aq}{ak:List Nat}
theorem aj3(aO:dy j aE T x au)(cn:yO A)(e5:fD.At (a3 j aE T x au) n p N a)(hA:(g9 h bH ck aw).At (a3 j aE T x au) n p N a)(ll:ai.At (a3 j aE T x au) n p N a)(bl:bH∈ai.W)(MH:bH∉fD.W)(dK:∀G∈cb,G∈ai.W/\G∉fD.W/\2011<=G)(lr:∀k∈ak,k∈ai.G/\k∉fD.G)(aj4:∀b∈fD.W,b∈ai.W)(aj5:∀k∈fD.G,k∈ai.G)(r:bw (a3 j aE T x au) n p N S A a)(s:a9 (bH::cb) ak a v)(g1:v.heap.get? bH=W (cQ<|cz dh)):bw (a3 j aE T x au) n p N S A v/\(fD.both<|g9 h bH ck dh).At (a3 j aE T x au) n p N v/\gP ai n p N p N (fD.both<|g9 h bH ck dh) a v:=by
 refine p5 hA.1 λr5 h5 r6 nL uu tj tk anb=>?_;have sY:∀G∈bH::cb,G∈ai.W/\G∉fD.W/\2011<=G:=λG ab=>dH ab (λe=>e▸⟨bl,MH,tk⟩)<|dK G;have aj6:∀G∈bH::cb,aE.heap.objs.size<=G:=λG ab=>by
  refine eQ (sY G ab) λj3 w pu=>?_;rcases(ll.2 G j3).2.2.2.1 with e|e
  .exfalso;rcases lD.mp e with e|e<;>(rw[e]at pu;exact absurd pu bd)
  .exact e
 have m:fh (a3 j aE T x au) v:=r.2.toG s aj6 λk ac=>(ll.3 k (lr k ac).1).1;have Gj:∀G∈bH::cb,G∈p:=λG ab=>(ll.2 G (sY G ab).1).1;have pM:(g9 h bH ck dh).At (a3 j aE T x au) n p N v:=⟨⟨r5,s.1 _ _ (λe=>r5<|Gj _ e) h5,r6,s.1 _ _ (λe=>r6<|Gj _ e) nL,uu,tj,tk,g1⟩,λb dR=>by refine kK (hA.2 b dR) λdT d8 dO eM gg=>?_;exact⟨dT,d8,dO,eM,cw gg s.2⟩,aW⟩;refine⟨(r.IS cn Gj (λG ab=>(ll.2 G (sY G ab).1).2.2.1) (λG ab=>(ll.2 G (sY G ab).1).2.1) s m),(e5.it s (λG ab=>⟨Gj G ab,(sY G ab).2.1⟩) λk ac=>(lr k ac).2).both pM,⟨λw c=>c,λw c=>.inl c,λw c=>.inl c,λb m=>?_,λk ac=>?_,s.mono (λG ab=>bO (sY G ab).1) λk ac=>(lr k ac).1⟩⟩
 .refine bN m (λe=>?_) λe=>?_
  .exact .inl<|aj4 b e
  .exact V (bm e)<|.inl bl
 .refine bN ac (λe=>?_) λe=>?_
  .exact .inl<|aj5 k e
  .exact dt e
theorem d1.aiX{kh:bh->Inv->Prop}{yR:Inv->Prop}(aO:dy j aE T x au)(hA:∀n p N a,ai.At (a3 j aE T x au) n p N a->(g9 h bH ck aw).At (a3 j aE T x au) n p N a)(aj7:∀u dX,kh u dX->∀n p N a,dX.At (a3 j aE T x au) n p N a->(g9 h bH ck aw).At (a3 j aE T x au) n p N a)(aK:fI A f=W (.f<|.raw<|.ref h))(R:ht Q f=Z)(bp:d1 (a3 j aE T x au) (z+1) q Q ai A i kh)(qk:∀(n:Env)(p N aF:List aq)(S:Nat)(a:ag)u dX a4,kh u dX->cM (a3 j aE T x au) n p N aF S->bw (a3 j aE T x au) n p N S A a->dX.At (a3 j aE T x au) n p N a->cf a.heap p u a4->∀ej,eK z ej->∀C:ag->Prop,(∀v oT,yR oT->gP dX n p N p N oT a v->bw (a3 j aE T x au) n p N S A v->oT.At (a3 j aE T x au) n p N v->C v)->Y ao j ej (er (.builtin "bytearray.extend") [.ref bH,a4] []) (λy el=>y=.none/\C el) a)(ay:d0 i=Z:=by rfl)(i0:(nB.endLine==aj.line)=Z:=by rfl):d1 (a3 j aE T x au) (z+1) q Q ai A (.Call (.Attribute (.Name f di) "extend" nB) [i] [] aj) (λu b1=>u=.none/\yR b1):=λn p N aF S a ax L M r ac C ah=>by
 refine tS (aB:=[i]) (by simp[ay]) (by show 1<20;decide) U i0 ?_;refine(ae.raw (g:=a3 j aE T x au) (z:=z+1) aK R) q n p N aF S ax L M a _ r λa4 an aL hr=>?_;refine V hr ?_;have fA:q.depth+90<recursionLimit:=by have:=ax.2;show q.depth+90<1000;exact c3 (.t (.a .x<|.n 90)<|.n 1000) [.l (.a .x<|.o .y)<|.n 900] U this
 have c_:=r.grow aL;have gH:=ac.it aL aW aW;refine p5 (hA _ _ _ _ gH).1 λr5 h5 r6 nL uu tj tk g1=>?_;refine FK T2 fA (aO.sub c_.2) h5 nL tj λam a_=>?_;refine Vf (jJ:=[.ref h]) (H:=λE=>E=am) (aU:=N++b4 n++ai.W) (ak:=ai.G) (o:=Bv ao j.params x) (bi:=wD j.params x) (ar:=λE aR=>∃a4 u dX dn e6,aR=[a4]/\kh u dX/\gP ai n p N dn N dX am E/\cM (a3 j aE T x au) n dn N aF e6/\bw (a3 j aE T x au) n dn N e6 A E/\dX.At (a3 j aE T x au) n dn N E/\cf E.heap dn u a4) (by simp[ay]) (by show 1<20;decide) ?_ U ?_ (by cbv) ?_
 .rintro E C aj rfl qO;refine Y.eq (V (kr ay)<|U) ?_;show Y _ _ q (ou [(a1,dD i n)]) C E;refine Y.eq (U) ?_;refine Y.bind<|bp n p N aF S E ax L M (c_.grow a_) (gH.it a_ aW aW) _ λa4 cg u dX dn e6 af ap bk cx ef fL=>?_;refine gK bd ?_;exact eo<|d6<|Y.pure<|Y.pure<|qO _ _ ap.6<|Pv a4 u dX dn e6 U af ap bk cx ef fL
 .rintro E aR Mf;refine DN Mf λa4 u dX dn e6 aj8 af ap bk cx ef fL=>V aj8 ?_;exact aO.sub cx.2 _ _ _ (Ms ..) U
 .rintro aR cg ce aj9;refine DN aj9 λa4 u dX dn e6 aj_ af eh lF ky oh y=>V aj_ ?_;refine p5 (aj7 _ _ af _ _ _ _ oh).1 λr5 h5 r6 nL w w w g1=>?_;refine Ve (z:=z) aO ax lF ky h5 g1 λej cU gf ft=>?_;refine qk n dn N aF e6 cU u dX a4 af lF (ky.grow ft) (oh.it ft aW aW) (cf.to (λb o m i=>⟨ft.all _ _ i,m⟩) _ _ y) ej gf _ λuk oT iX qA BY aj'=>?_;exact ah .none uk .none oT dn e6 ⟨U,iX⟩ (((gP.rO<|aL.trans a_).trans eh).trans<|(gP.rO ft).trans qA) lF BY aj'<|U
theorem d1.ai3{t:Nat}{aD:Nat}{y:bB}{e1 fi:Pos}(aO:dy j aE T x au)(cn:yO A)(MH:bH∉fD.W)(aK:fI A f=W (.f<|.raw<|.ref h))(R:ht Q f=Z)(ay:t=0\/t=7)(bp:dd (a3 j aE T x au) (z+1) Q A y t)(ab:aw.length<=2^20)(i0:(nB.endLine==aj.line)=Z:=by rfl):d1 (a3 j aE T x au) (z+1) q Q (fD.both<|g9 h bH ck aw) A (.Call (.Attribute (.Name f di) "extend" nB) [.BinOp (.Constant (.bytes [0]) aD e1) .Mult y fi] [] aj) (λu b1=>u=.none/\b1=fD.both (g9 h bH ck<|aw++dq t 0)):=by
 refine d1.aiX (kh:=λu b1=>u=.bytes (tm t)/\b1=fD.both (g9 h bH ck aw)) aO (λw w w w c=>c.snd) (by rintro u dX e9 _ _ _ _ c;refine cY e9 λw hp=>?_;obtain rfl:=hp;exact c.snd) aK R (d1.aeN<|Mine.ae.px ay bp) ?_ U i0;rintro n p N aF S a u dX a4 jG M r ac av ej gf C ah;refine gJ λw bI=>cY jG λjH mh=>?_;obtain rfl:=jH;obtain rfl:=mh;refine c5 av λE nE=>?_;obtain rfl:=nE;refine p5 ac.snd.1 λr5 h5 r6 nL uu tj tk g1=>bI ?_;have dW:(tm t).size=t:=by simp[tm]
 refine X_ g1 (by refine V (nC ..)<|V dW ?_;exact bb (Hs ab<|show t<=7 from ay.elim (λe=>V e bd) λe=>V e bd) bd) λaa cJ L=>⟨U,?_⟩;have bG:cz aw++tm t=cz (aw++dq t 0):=by simp[cz,tm]
 rw[bG]at cJ;exact eQ (aj3 (ai:=fD.both<|g9 h bH ck aw) (cb:=[]) (ak:=[]) aO cn ac.fst ac.snd ac (bO bz) MH aW aW (λb m=>b3 m) (λb m=>b3 m) r (bJ.same (x:=a.toks) L) cJ) λdm eY lU=>ah _ _ U lU dm eY
end
section
variable{j:b7}{aE a:ag}{T:Nat->Obj}{x:Nat}{au:fQ}{z:Nat}{q:bY}{n:Env}{p N aF:List aq}{S:Nat}{Q:c4}{A:b0}{fD:Inv}{f:Str}{di nB aj e:Pos}{aG:List Bool}{f3:List bB}{K:Nat}{t:Nat}{s:List Int}
end
section
section
variable{g:dw}{z:Nat}{Q:c4}{A:b0}{n:Env}{p bu N aF:List aq}{S:Nat}{q:bY}{a:ag}{i:bB}{ai:Inv}
inductive Inv.j5(ai b1:Inv):Prop|mk(fS:∀g n p N a,ai.At g n p N a->b1.At g n p N a)(fT:∀b∈b1.W,b∈ai.W)(gy:∀b∈b1.G,b∈ai.G):Inv.j5 ai b1
theorem Inv.j5.refl(ai:Inv):Inv.j5 ai ai:=⟨λw w w w w c=>c,λw c=>c,λw c=>c⟩
theorem d1.conv(af:Inv.j5 ai b1)(c:d1 g z q Q b1 A i kh)(ap:∀u fD,kh u fD->∃wJ,yR u wJ/\Inv.j5 fD wJ):d1 g z q Q ai A i yR:=λn p N aF S a ax L M r ac C ah=>by exact c n p N aF S a ax L M r (af.1 _ _ _ _ _ ac) C λa4 an u fD dn e6 aK eh h4 c_ gH y=>br (ap u fD aK) λwJ iX fN=>ah a4 an u wJ dn e6 iX ⟨eh.1,eh.2,eh.3,λb m=>(eh.4 b<|fN.2 b m).imp (af.2 b) id,λb m=>(eh.5 b<|fN.3 b m).imp (af.3 b) id,eh.6.mono (λb m=>bN m (λe=>b3 e) λe=>bO<|af.2 b e) af.3⟩ h4 c_ (fN.1 _ _ _ _ _ gH) y
theorem d1.conv'(af:Inv.j5 ai b1)(ap:Inv.j5 fD wJ)(c:d1 g z q Q b1 A i λaN K=>aN=u/\K=fD):d1 g z q Q ai A i (λaN K=>aN=u/\K=wJ):=d1.conv af c λ_ _⟨h,b⟩=>(dj wJ ⟨h,U⟩<|b▸ap)
end
variable{j:b7}{aE:ag}{T:Nat->Obj}{x:Nat}{au:fQ}{z:Nat}{q:bY}{Q:c4}{A:b0}{ai aY:Inv}{I be cG eu:aq}{nm:al}{E:Tok}{f:Str}{i D:bB}{hC aj:Pos}{u:Int}{t:Nat}
end
section
theorem gA.ai4(c:ae g z Q A D .b2 .none)(bt:vj .IsNot<|.Constant .none aD bn):gA g z Q A (.Compare D [.IsNot] [.Constant .none aD bn] aj) a1:=λq n p N aF S ax L M=>xF (j8:=λa g=>g=.none) (n0:=λa g=>g=.none) M.ok (λa C r ah=>c q n p N aF S ax L M a C r λa4 v s y=>ah a4 v s<|y) (λw w w c w=>c) (Ql.to λw w c=>c) (λa fM g5 w af ap=>by subst af ap;exact gW.now (λC a5=>q4 (rfl:wT .IsNot .none .none=dz (.bool a1)) a5) U)<|bt n
end
theorem eU.ints:∀D:List<|Int×Nat×Pos,eU g z Q A (D.map λr=>.Constant (.int r.1) r.2.1 r.2.2) ((D.map (·.1)).map bh.int)|[]=>trivial|_::D=>⟨U,ae.cT,eU.ints D⟩
theorem gA.Kd(D:List<|Int×Nat×Pos)(aM:dd g z Q A i u)(aI:D.length<=cI)(bp:aB=D.map λr=>.Constant (.int r.1) r.2.1 r.2.2):gA g z Q A (.Compare i [.In] [.Tuple aB t hG] aj) ((D.map (·.1)).any (·==u)):=by exact V bp<|gA.MF aM (ae.tuple (eU.ints D) (by simpa using aI)) λw=>U
noncomputable def dM(k:Nat):Stmt:=((gC<|cj ao 17)[k]?).getD<|.Pass default
theorem aka:gC (cj ao 17)=[dM 0,dM 1,dM 2,dM 3,dM 4,dM 5,dM 6,dM 7,dM 8,dM 9,dM 10,dM 11,dM 12,dM 13]:=by cbv
inductive tn(aG:List<|List Int):Prop|mk(fS:∀b∈aG,gs b/\b.length<=1000)(fT:0<aG.length)(gy:aG.length<=100):tn aG
theorem akb(u:Int)(t k:Nat):0<=nz u t k/\nz u t k<2:=by unfold nz;exact V (bitAnd_m1 ..)<|⟨f1 (.b3 (.n 0) .x) [.b3 (.n 0) .x] U<|PQ _ 1,f1 (.b_ .x<|.n 2) [.b_ .x<|.n 2] U<|PR _ 1⟩
theorem Gk(aG:List<|List Int):gs (ja aG):=λf R=>by
 refine br (uR.mp R) λl w R=>br (uR.mp R) λb w R=>?_;split at R
 .refine mg R λk w bP=>V bP ?_;have:=akb (b.getD l 0) 8 k;exact⟨Ih (.b3 (.n 0) .x) [.eG .y .x,.b3 (.n 0) .y] U bP this.1,Xm [1,-1,1] (.b_ .x<|.n 256) [.eG .y .x,.b_ .y<|.n 2] U bP this.2⟩
 .exact dt R
theorem zi{bf cE:Type}{I:bf->List cE}{t:Nat}:∀{D:List bf},(∀h∈D,(I h).length<=t)->(D.flatMap I).length<=D.length*t|[],bL=>eJ _|h::D,c=>by refine V nR<|V gU<|V iy<|V (w' ..) ?_;exact(w8 ..).symm▸Hs (zi (D:=D) λb m=>c b<|mt m) (c h bz)
theorem tn.SY{aG:List<|List Int}(c:tn aG):(ja aG).length<=800000:=by
 have nA:r7 (aG.map λb=>(b.length:Int))∈aG.map λb=>(b.length:Int):=MG (by simpa using c.2);refine mg nA λb m i=>?_;have dR:=(c.1 b m).2;refine bb (zi (t:=100*8) λl w=>bb (zi (t:=8) λb w=>?_)<|zU _ c.3) ?_
 .split<;>simp
 .exact V oz<|b' i<|V (mD ..)<|zU _ dR
noncomputable def pQ(gi:Int):Nat:=if([2,3,4,5,6].any (·==gi))=Z then 7 else 0
@[reducible]noncomputable def jy(be cG:aq):Inv:=(hU 1944 1940).both<|ur be cG
noncomputable def VL(gi:Int)(I be eu:aq)(nm:al)(E:Tok)(h:aq)(aB:List<|List Int):b0:=[("version",.f<|.int gi),("to_binary",.f<|us I be eu nm E),("res",.f<|.raw<|.ref h),("error_blocks",.f<|.lst<|aB.map gh)]
theorem VM{aY bc aT:Inv}:Inv.j5 ((aY.both aT).both bc) ((aY.both bc).both aT):=⟨λw w w w w c=>c.swap,λw c=>ajy c,λw c=>ajz c⟩
theorem VN(aO:dy j aE T x au){t:Nat}(ay:t=0\/t=7)(i_:bH∉(jy be cG).W)(ab:aw.length<=2^20){A:b0}(cn:he (("remainder",.f<|.int t)::VL gi I be eu nm E h aB) A):ct (a3 j aE T x au) (z+1) q o5 ((jy be cG).both<|g9 h bH ck aw) A [dM 12] (λcO bU b1=>cO=.next/\fI bU "res"=W (.f<|.raw<|.ref h)/\b1=(jy be cG).both (g9 h bH ck<|aw++dq t 0)):=by
 refine ct.le cn ?_;conv=>arg 7;arg 1;whnf
 exact ct.z7 (d1.ai3 (t:=t) aO (BU U) i_ U (by cbv) ay ar.nm ab) U<|rv<|⟨U,ct.nil ⟨U,U,U⟩⟩
theorem akc(aO:dy j aE T x au)(aM:-3<=gi/\gi<=7)(bM:2011<=cG)(bl:bH≠1940/\bH≠1892/\bH≠cG)(jv:tn aB)(ab:aw.length<=200000)(cn:he (VL gi I be eu nm E h aB) A):ct (a3 j aE T x au) (z+1) q o5 ((jy be cG).both<|g9 h bH ck aw) A [dM 9,dM 10,dM 11,dM 12] (λcO bU b1=>cO=.next/\fI bU "res"=W (.f<|.raw<|.ref h)/\b1=(jy be cG).both (g9 h bH ck<|aw++ja aB++dq (pQ gi) 0)):=by
 have cA:=ug aO;have az:=io aO;have bS:=jv.SY;have i_:bH∉(jy be cG).W:=λe=>bN e (λe=>bl.1<|bm e) λe=>dH e (λe=>bl.2.1 e) λe=>bl.2.2<|bm e;refine ct.le cn ?_;conv=>arg 7;arg 1;whnf
 refine ct.z7 (d1.Sg (ai:=jy be cG) (dh:=ja aB) aO (BU U) i_ U (by cbv) (d1.conv' VM VM<|d1.bits (aY:=(hU 1944 1940).both<|g9 h bH ck aw) (aG:=aB) (I:=I) (be:=be) (cG:=cG) (eu:=eu) (nm:=nm) (E:=E) aO (uj U) (λe=>?_) jv.1 jv.2 jv.3 U (by cbv) (by cbv) (by cbv) (by cbv) (by cbv) (by cbv) (by cbv) (by cbv) (by cbv) (by cbv) (by cbv) (by cbv) (by cbv) (by cbv) (by cbv) (by cbv)) (Gk aB)<|j4 [1,1,-1,1] (.t (.a .x .y) .z) [.l .x<|.n 200000,.e .z<|.n 16777216,.l .y<|.n 800000] U ab U bS) U ?_
 .refine dH e (λe=>?_) λe=>?_
  .rw[e]at bM;exact absurd bM bd
  .exact bl.2.2 (bm e).symm
 refine rv<|⟨U,?_⟩;have cL:(aw++ja aB).length<=2^20:=V gU<|c3 (.l (.a .x .y)<|.n 1048576) [.l .x<|.n 200000,.l .y<|.n 800000] U ab bS;generalize aw++ja aB=dh at cL;conv=>arg 7;arg 1;whnf
 refine ct.nM<|bq.assign (u:=.int 0) ae.cT (by cbv)<|bq.nil ?_
 dsimp only;conv=>arg 7;arg 1;whnf
 refine ct.q9 (b:=([2,3,4,5,6]:List Int).any (·==gi)) (gA.Kd [(2,_,_),(3,_,_),(4,_,_),(5,_,_),(6,_,_)] ar.nm (by show 5<=cI;decide) U) ?_;unfold pQ;cases m:([2,3,4,5,6]:List Int).any (·==gi)with|true=>exact ct.nM<|bq.assign (u:=.int 7) ae.cT (by cbv)<|bq.nil<|ct.nil<|VN (t:=7) aO (.inr U) i_ cL<|hD U|false=>exact ct.q9 (b:=a1) (gA.cast (gA.Kd [(14,_,_),(15,_,_),(16,_,_),(17,_,_),(18,_,_),(19,_,_),(20,_,_),(28,_,_),(29,_,_),(30,_,_),(31,_,_),(32,_,_),(33,_,_),(34,_,_)] ar.nm (by show 14<=cI;decide) U) (by simp;exact⟨f1 (.fQ (.n 14) .x) [.b3 .x<|.n 7] U aM.2,⟨f1 (.fQ (.n 15) .x) [.b3 .x<|.n 7] U aM.2,⟨f1 (.fQ (.n 16) .x) [.b3 .x<|.n 7] U aM.2,⟨f1 (.fQ (.n 17) .x) [.b3 .x<|.n 7] U aM.2,⟨f1 (.fQ (.n 18) .x) [.b3 .x<|.n 7] U aM.2,⟨f1 (.fQ (.n 19) .x) [.b3 .x<|.n 7] U aM.2,⟨f1 (.fQ (.n 20) .x) [.b3 .x<|.n 7] U aM.2,⟨f1 (.fQ (.n 28) .x) [.b3 .x<|.n 7] U aM.2,⟨f1 (.fQ (.n 29) .x) [.b3 .x<|.n 7] U aM.2,⟨f1 (.fQ (.n 30) .x) [.b3 .x<|.n 7] U aM.2,⟨f1 (.fQ (.n 31) .x) [.b3 .x<|.n 7] U aM.2,⟨f1 (.fQ (.n 32) .x) [.b3 .x<|.n 7] U aM.2,⟨f1 (.fQ (.n 33) .x) [.b3 .x<|.n 7] U aM.2,f1 (.fQ (.n 34) .x) [.b3 .x<|.n 7] U aM.2⟩⟩⟩⟩⟩⟩⟩⟩⟩⟩⟩⟩⟩))<|ct.q9 (b:=a1) (gA.cast (gA.Kd [(21,_,_),(22,_,_),(23,_,_),(24,_,_),(25,_,_),(26,_,_),(27,_,_)] ar.nm (by show 7<=cI;decide) U) (by simp;exact⟨f1 (.fQ (.n 21) .x) [.b3 .x<|.n 7] U aM.2,⟨f1 (.fQ (.n 22) .x) [.b3 .x<|.n 7] U aM.2,⟨f1 (.fQ (.n 23) .x) [.b3 .x<|.n 7] U aM.2,⟨f1 (.fQ (.n 24) .x) [.b3 .x<|.n 7] U aM.2,⟨f1 (.fQ (.n 25) .x) [.b3 .x<|.n 7] U aM.2,⟨f1 (.fQ (.n 26) .x) [.b3 .x<|.n 7] U aM.2,f1 (.fQ (.n 27) .x) [.b3 .x<|.n 7] U aM.2⟩⟩⟩⟩⟩⟩))<|ct.nil<|ct.nil<|ct.nil<|VN (t:=0) aO (.inl U) i_ cL<|hD U
section
variable{g:dw}{z:Nat}{aY:List aq}{ca:List ez}{Q:c4}{A:b0}
noncomputable def l6:Nat->List (List Int)|0=>[[]]|a+1=>(l6 a).flatMap λmB=>[mB++[0],mB++[1]]
theorem zj:∀a,a<=8->(l6 a).length=2^a/\∀y∈l6 a,y.length=a:=by decide+kernel
noncomputable def jz(j:Int):List Int:=(l6 8).getD j.toNat []
theorem MI{j:Int}(c:0<=j/\j<256):(l6 8)[j.toNat]?=W (jz j)/\(jz j).length=8:=by
 have af:j.toNat<(l6 8).length:=by refine V ((zj 8<|dA _).1) ?_;show j.toNat<256;exact pg (.t .x<|.n 256) [.b_ .x<|.n 256,.eG (.c .x) .x] U c.2<|oG c.1
 have i:jz j=(l6 8)[j.toNat]:=by unfold jz;refine V (fK)<|V (fG af) ?_;rfl
 exact⟨by exact V i<|V (fG af) U,(zj 8<|dA _).2 _<|i▸sg af⟩
theorem Gl:∀{df:List Int},(∀j∈df,0<=j/\j<256)->(df.flatMap jz).length=8*df.length|[],_=>U|j::df,c=>by refine V nR<|V gU<|V ((MI<|c j bz).2)<|V (Gl λf e=>c f<|mt e)<|V iy ?_;exact cy (.e (.a (.n 8)<|.m 8 .x)<|.m 8<|.o .x) [] U
theorem VO{bf:Type}(D:List bf)(I:bf->List Int):(D.map λh=>(I h).map bh.int).flatten=(D.flatMap I).map bh.int:=by induction D with|nil=>rfl|cons h D a2=>exact V iz<|V jA<|V a2<|V nR<|V mc U
theorem akd(t:r8 g){cp:List<|List Int}{en:Nat}{fr:Int}{aV u:Nat}{cz:Int}(bl:cp.length<=10/\∀b∈cp,b.length<=200/\∀j∈b,0<=j/\j<256){cu:jq->b0->Prop}(c:bq g (z+2) (fa<|cj ao 28) aY [("bits",.f<|cS<|cp.flatMap λb=>b.flatMap jz),("rows",.f<|.lst<|(l6 8).map cS),("data",.b<|.lst<|cp.map cS),("free",.f<|.int fr),("checks",.f<|.int en),("kind",.f<|.int aV),("version",.f<|.int u)] ca cu):bq g (z+2) (fa<|cj ao 28) aY [("data",.b<|.lst<|cp.map cS),("free",.f<|.int fr),("blocks",.f<|.int cz),("checks",.f<|.int en),("kind",.f<|.int aV),("version",.f<|.int u)] ((r'.take 13).drop 10++ca) cu:=by
 have L:cI=2^24:=U;conv=>arg 6;whnf
 refine bq.assign (u:=.lst<|(l6 0).map cS) (ae.list (aH:=[cS []]) (eU.fH (ae.list (aH:=[]) eU.nl bd).gQ eU.nl) bd) (by cbv) ?_;refine bq.oU (λa A=>he [("rows",.f<|.lst<|(l6 a).map cS),("data",.b<|.lst<|cp.map cS),("free",.f<|.int fr),("checks",.f<|.int en),("kind",.f<|.int aV),("version",.f<|.int u)] A) (λw w=>U) (ar.range (aA:=8) t.top9 ae.cT bd) ?_ (hD U) ?_
 .intro a f bU R e5;obtain⟨ze,rfl⟩:=Cu R;obtain⟨anc,ake⟩:=zj a (by exact cy (.l .x<|.n 8) [.t .x<|.n 8] U ze);have aZ:2^a<=128:=bb (Dj bd<|NQ ze) (by decide);refine⟨ar.t1,bq.le (bU:=[("step",.f<|.int a),("rows",.f<|.lst<|(l6 a).map cS),("data",.b<|.lst<|cp.map cS),("free",.f<|.int fr),("checks",.f<|.int en),("kind",.f<|.int aV),("version",.f<|.int u)]) ⟨U,e5⟩ ?_⟩;have VP:∀b_:List<|List Int,(b_.map λmB=>[cS<|mB++[0],cS<|mB++[1]]).flatten=(b_.flatMap λmB=>[mB++[0],mB++[1]]).map cS:=by intro b_;induction b_ with|nil=>rfl|cons y b_ a2=>refine V iz<|V jA<|V a2 ?_;rfl
  refine bq.assign (u:=.lst<|(l6<|a+1).map cS) (ae.cast (ae.comp (bA:=(l6 a).map cS) (ds:=(l6 a).map λmB=>[cS<|mB++[0],cS<|mB++[1]]) t.ok ?_)<|congrArg bh.lst<|VP _) (by cbv) (bq.nil<|hD U) bd λn bp=>ZE (by refine V bp ?_;cbv);refine⟨⟨by cbv,U,eJ _,λbX e=>(by refine b' (lk e) ?_;rfl),λw w=>U,AllP.map λmB av=>⟨ar.t1,ar.fr,?_⟩,?_⟩,fp.list (ka.of ar.nm)<|.inl<|j1 _ _ U⟩
  .refine jo.next (s:=_) (bA:=([0,1]:List Int).map .int) (ds:=([0,1]:List Int).map λb=>[cS<|mB++[b]]) U U (eJ _) (λbX e=>(dI e)) (λw w=>U) U (fp.tup<|ae.tuple (eU.fH ae.cT<|eU.fH ae.cT eU.nl) bd)<|AllP.map λb m=>⟨ar.t1,ar.fr,jo.one U U<|ae.tO ar.nm (ae.list (aH:=[.int b]) (eU.fH ar.nm eU.nl) bd) (by have:=ake mB av;show _+1<=_;exact j4 [1,-1,1,1] (.l (.o .x) .y) [.e .y<|.n 16777216,.t .z<|.n 8,.e .x .z] U L ze this)⟩
  .refine V (VP ..)<|V (d3 ..) ?_;show(l6<|a+1).length<=_;refine V ((zj (a+1) (by exact cy (.l (.o .x)<|.n 8) [.t .x<|.n 8] U ze)).1)<|V (zT ..) ?_;exact gd [1,-1,2] (.l (.r .x 2) .y) [.e .y<|.n 16777216,.l .x<|.n 128] U L aZ
 .intro bU e5;refine bq.le e5<|bq.comp (bA:=cp.map cS) (ds:=cp.map λb=>(b.flatMap jz).map .int) t.ok ?_ (by cbv) (by rfl) (by cbv) ?_
  .refine⟨⟨by cbv,U,eJ _,λbX e=>(by refine b' (lk e) ?_;rfl),λw w=>U,AllP.map λb m=>⟨ar.t1,ar.fr,?_⟩,?_⟩,fp.list (ka.v5 U (by cbv))<|.inl<|j1 _ _ U⟩
   .obtain⟨VQ,Gm⟩:=bl.2 b m;refine b' (Lx b jz) ?_;refine jo.next (s:=_) (bA:=b.map .int) U U (eJ _) (λbX e=>(by refine b' (lk e) ?_;rfl)) (λw w=>U) U (fp.list (ka.of ar.nm)<|.inl<|j1 _ _ U)<|AllP.map λj bS=>⟨ar.t1,ar.fr,?_⟩;obtain⟨bG,cr⟩:=MI<|Gm j bS;refine b' (r0 (jz j) bh.int) ?_;refine jo.next (s:=_) (bA:=(jz j).map .int) U U (eJ _) (λbX e=>(dI e)) (λw w=>U) U (fp.list (ka.of<|ae.item (u:=cS<|jz j) (aH:=(l6 8).map cS) ar.nm ar.nm (Gm j bS).1 (by refine V (fk)<|V bG ?_;rfl) (by refine V (d3 ..)<|V ((zj 8<|dA _).1) ?_;exact rq [1,-1] (.l (.n 256) .x) [.e .x<|.n 16777216] U L))<|.inl<|j1 _ _ U)<|AllP.map λf R=>⟨ar.t1,ar.fr,jo.one U U ar.nm⟩
   .refine V (VO ..)<|V (d3 ..) ?_;refine bb (zi (t:=1600) λb m=>?_) (by exact gd [1,1600,-1] (.l (.r .x 1600) .y) [.l .x<|.n 10,.e .y<|.n 16777216] U bl.1 L);obtain⟨VQ,Gm⟩:=bl.2 b m;refine V (Gl Gm) ?_;exact rq [1,8] (.l (.m 8 .x)<|.n 1600) [.l .x<|.n 200] U VQ
  .refine V (VO ..) ?_;exact bq.le (hD U) c
end
section
variable{j:b7}{aE:ag}{T:Nat->Obj}{x:Nat}{au:fQ}{z:Nat}{Q:c4}{A:b0}{E:Tok}{aj:Pos}
theorem ae.ai_(aO:dy j aE T x au)(R:eA Q "VERSION_M1"=Z:=by cbv):ae (a3 j aE T x au) z Q A (.Name "VERSION_M1" aj) .b2 (.int<|-3):=by exact c5 (afv (j:=j) (aE:=aE) (T:=T) (x:=x) (au:=au)) λE c=>ae.glob (io aO) c (⟨E,U⟩) R
theorem ae.ai'(aO:dy j aE T x au)(R:eA Q "VERSION_M3"=Z:=by cbv):ae (a3 j aE T x au) z Q A (.Name "VERSION_M3" aj) .b2 (.int<|-1):=by exact c5 (afw (j:=j) (aE:=aE) (T:=T) (x:=x) (au:=au)) λE c=>ae.glob (io aO) c (⟨E,U⟩) R
theorem gA.half(aO:dy j aE T x au)(aM:ae (a3 j aE T x au) z o5 A (.Name "version" ij) .b2<|.int gi):gA (a3 j aE T x au) z o5 A (.Compare (.Name "version" ij) [.In] [.Tuple [.Name "VERSION_M1" e1,.Name "VERSION_M3" fi] t hG] aj) (([-3,-1]:List Int).any (·==gi)):=gA.MF (aw:=[-3,-1]) aM (ae.tuple (eU.fH (ae.ai_ aO)<|eU.fH (ae.ai' aO) eU.nl) (by show 2<=cI;decide)) λw=>U
end
noncomputable def MJ(gi:Int)(I be eu:aq)(nm:al)(E:Tok)(Gn:bh)(i9 aB:List<|List Int):b0:=[("version",.f<|.int gi),("to_binary",.f<|us I be eu nm E),("cw_four",.f Gn),("data_blocks",.f<|.lst<|i9.map gh),("error_blocks",.f<|.lst<|aB.map gh)]
theorem akf(aO:dy j aE T x au)(bM:2011<=cG)(akg:cG∉ai.W)(r2:tn i9)(c:∀h bH ck,bH∉((jy be cG).both ai).W->ct (a3 j aE T x au) (z+2) q o5 (((jy be cG).both ai).both<|g9 h bH ck<|ja i9) (("res",.f<|.raw<|.ref h)::MJ gi I be eu nm E Gn i9 aB) ca cu)(cn:he (MJ gi I be eu nm E Gn i9 aB) A):ct (a3 j aE T x au) (z+2) q o5 ((jy be cG).both ai) A (dM 6::dM 7::ca) cu:=by
 refine ct.le cn ?_;conv=>arg 7;arg 1;whnf
 refine ct.uV (d1.JS (z:=z) aO<|uj U) (by cbv) ?_;rintro u dX bP;refine jD bP λh bH ck cB mu dv=>?_;obtain rfl:=cB;obtain rfl:=dv;have akh:bH≠cG:=λe=>mu<|b3<|bO<|mt<|km.mpr e;have cK:cG∉((((hU 1944 1940).both ai)).both<|g9 h bH ck []).W:=λe=>by
  refine bN e (λe=>?_) λe=>?_
  .refine bN e (λe=>?_) λe=>?_
   .replace bM:=(bm e)▸bM;exact absurd bM bd
   .exact akg e
  .exact akh (bm e).symm
 have ig:Inv.j5 (((jy be cG).both ai).both<|g9 h bH ck []) ((((hU 1944 1940).both ai).both<|g9 h bH ck []).both<|ur be cG):=⟨λw w w w w c=>((c.fst.fst.fst.both c.fst.snd).both c.snd).both c.fst.fst.snd,λG ab=>by exact bN ab (λe=>bN e (λe=>bN e (λe=>b3<|b3<|b3 e) λe=>b3<|bO e) λe=>bO e) λe=>b3<|b3<|bO e,λG ab=>bN ab (λe=>bN e (λe=>bN e (λe=>b3<|b3<|b3 e) λe=>b3<|bO e) λe=>bO e) λe=>b3<|b3<|bO e⟩;have j9:Inv.j5 ((((hU 1944 1940).both ai).both<|g9 h bH ck []).both<|ur be cG) (((jy be cG).both ai).both<|g9 h bH ck []):=⟨λw w w w w c=>((c.fst.fst.fst.both c.snd).both c.fst.fst.snd).both c.fst.snd,λG ab=>by exact bN ab (λe=>bN e (λe=>bN e (λe=>b3<|b3<|b3 e) λe=>bO e) λe=>b3<|b3<|bO e) λe=>b3<|bO e,λG ab=>bN ab (λe=>bN e (λe=>bN e (λe=>b3<|b3<|b3 e) λe=>bO e) λe=>b3<|b3<|bO e) λe=>b3<|bO e⟩;conv=>arg 7;arg 1;whnf
 exact ct.z7 (d1.Sg (z:=z+1) (ai:=(jy be cG).both ai) (aw:=[]) (dh:=ja i9) aO (BU U) mu U (by cbv) (d1.conv' ig j9<|d1.bits (z:=z+1) (aG:=i9) (I:=I) (be:=be) (cG:=cG) (eu:=eu) (nm:=nm) (E:=E) aO (uj U) cK r2.1 r2.2 r2.3 U (by cbv) (by cbv) (by cbv) (by cbv) (by cbv) (by cbv) (by cbv) (by cbv) (by cbv) (by cbv) (by cbv) (by cbv) (by cbv) (by cbv) (by cbv) (by cbv)) (Gk i9) (by show 0+_<_;exact gd [1,-1,1] (.t (.a (.n 0) .x) .y) [.e .y<|.n 16777216,.l .x<|.n 800000] U U r2.SY)) U<|rv<|⟨U,c h bH ck mu⟩
section
section
variable{g:dw}{z:Nat}{Q:c4}{A:b0}{q:bY}{ai b1:Inv}{st:List ez}{cu:jq->b0->Inv->Prop}
theorem ct.conv(af:Inv.j5 ai b1)(c:ct g z q Q b1 A st cu):ct g z q Q ai A st cu:=λn p N aF S a ax L M r ac=>by refine Y.mono (c n p N aF S a ax L M r<|af.1 _ _ _ _ _ ac) ?_;rintro I v bP;exact bP.hO λcO bU bu cW c0 fD dT d8 dO eM gg=>⟨cO,bU,bu,cW,c0,fD,dT,d8,⟨dO.1,dO.2,dO.3,λb m=>(dO.4 b m).imp (af.2 b) id,λb m=>(dO.5 b m).imp (af.3 b) id,dO.6.mono (λb m=>bN m (λe=>b3 e) λe=>bO<|af.2 b e) af.3⟩,eM,gg⟩
theorem Inv.ajd:Inv.j5 ai (ai.both Inv.none):=⟨λw w w w w c=>c.both Inv.aeH,λb m=>bN m id (λe=>nomatch e),λb m=>bN m id λe=>nomatch e⟩
theorem Inv.aje:Inv.j5 (ai.both b1) ai:=⟨λw w w w w c=>c.fst,λb m=>b3 m,λb m=>b3 m⟩
theorem Inv.j5.ajf(c:Inv.j5 ai b1):Inv.j5 (ai.both fD) (b1.both fD):=⟨λw w w w w e=>(c.1 _ _ _ _ _ e.fst).both e.snd,λb m=>bN m (λe=>b3<|c.2 b e) λe=>bO e,λb m=>bN m (λe=>b3<|c.3 b e) λe=>bO e⟩
end
variable{a:ag}{z:Nat}{q:bY}{Q:c4}{A:b0}{n:Env}{p N aF:List aq}{S:Nat}{I:aq}
def Cy(be cG:aq)(aT:List Int)(cO:jq)(bU:b0)(b1:Inv):Prop:=∃h bH ck,cO=.next/\fI bU "res"=W (.f<|.raw<|.ref h)/\bH∉(jy be cG).W/\b1=(jy be cG).both (g9 h bH ck aT)
theorem aki(c:bH∉(jy be cG).W):bH≠1940/\bH≠1892/\bH≠cG:=⟨λe=>c<|uM _<|km.mpr e,λe=>c<|xa _<|e▸Ht,λe=>c<|xa _<|zW _<|km.mpr e⟩
theorem akj(aO:dy j aE T x au)(aM:-3<=gi/\gi<=7)(bM:2011<=cG)(r2:tn i9)(jv:tn aB)(ab:(ja i9).length<=200000)(cn:he (MJ gi I be eu nm E .none i9 aB) A):ct (a3 j aE T x au) (z+2) q o5 (jy be cG) A [dM 6,dM 7,dM 8,dM 9,dM 10,dM 11,dM 12] (Cy be cG<|ja i9++ja aB++dq (pQ gi) 0):=by
 refine ct.conv Inv.ajd<|akf (ai:=Inv.none) (Gn:=.none) aO bM (λe=>nomatch e) r2 (λh bH ck mu=>?_) cn;conv=>arg 7;arg 1;whnf
 refine ct.q9 (b:=a1) (gA.ai4 ar.nm λw=>U)<|ct.nil ?_;have i_:bH∉(jy be cG).W:=λe=>mu<|uM _ e;refine ct.conv (Inv.j5.ajf Inv.aje) ?_;intro n p N aF S a ax L M r ac;refine Y.mono (akc (z:=z+1) (h:=h) (I:=I) (be:=be) (eu:=eu) (nm:=nm) (E:=E) aO aM bM (aki i_) jv ab (hD U) n p N aF S a ax L M r ac) ?_;rintro cO v nE;exact nE.hO λVR bU bu cW c0 fD q0 et fn rJ x1=>eQ q0 λdT d8 dO=>⟨VR,bU,bu,cW,c0,fD,⟨h,bH,ck,dT,d8,i_,dO⟩,et,fn,rJ,x1⟩
end
noncomputable def l7(I:Nat->Int)(D:List<|Nat×List Int):Nat×List (List Int)×List (List Int):=D.foldl (λst r=>(st.1+r.1,st.2.1++[ki I st.1 r.1],st.2.2++[ks r.2<|ki I st.1 r.1])) (0,[],[])
theorem akk(I:Nat->Int)(D:List<|Nat×List Int)(r:Nat×List Int):l7 I (D++[r])=((l7 I D).1+r.1,(l7 I D).2.1++[ki I (l7 I D).1 r.1],(l7 I D).2.2++[ks r.2<|ki I (l7 I D).1 r.1]):=by unfold l7;refine V z8 ?_;rfl
theorem akl(I:Nat->Int)(D:List<|Nat×List Int):l5 I D=((l7 I D).1,(l7 I D).2.1.map gh,(l7 I D).2.2.map gh):=by induction D using UU with|aO=>rfl|L D r a2=>refine V (Md ..)<|V (akk ..)<|V a2 ?_;simp
noncomputable def Cz(gi:Int)(og:dC)(aG:List Bool)(I be eu:aq)(nm:al)(E:Tok):b0:=[("version",.f<|.int gi),("error",.f<|rX og),("buff",.f<|.buf<|cz<|gu aG),("to_binary",.f<|us I be eu nm E)]
theorem akm(aO:dy j aE T x au)(aM:-3<=gi/\gi<=7)(cJ:([-3,-1]:List Int).any (·==gi)=a1)(bM:2011<=cG)(akn:FD gi og=W (kG.map ti))(ako:y7 kG<|(aG.length+7)/8)(Me:aG.length<=2^20)(r2:tn (l7 (i7 aG)<|g8 kG).2.1)(jv:tn (l7 (i7 aG)<|g8 kG).2.2)(ab:(ja (l7 (i7 aG)<|g8 kG).2.1).length<=200000)(cn:he (Cz gi og aG I be eu nm E) A):ct (a3 j aE T x au) (z+2) q o5 (jy be cG) A [dM 2,dM 3,dM 4,dM 5,dM 6,dM 7,dM 8,dM 9,dM 10,dM 11,dM 12] (Cy be cG<|ja (l7 (i7 aG)<|g8 kG).2.1++ja (l7 (i7 aG)<|g8 kG).2.2++dq (pQ gi) 0):=by
 refine ct.le cn ?_;conv=>arg 7;arg 1;whnf
 refine ct.nM<|bq.assign (u:=.tup<|kG.map ti) (ae.z1 aO ar.nm ar.nm akn) (by cbv)<|bq.nil ?_
 dsimp only;conv=>arg 7;arg 1;whnf
 refine ct.ag7 (O:=[.lst<|(l7 (i7 aG)<|g8 kG).2.1.map gh,.lst<|(l7 (i7 aG)<|g8 kG).2.2.map gh]) (aH:=["data_blocks","error_blocks"]) (d1.conv (Inv.j5.refl _) (d1.ag6 (fD:=ur be cG) (aG:=aG) (aB:=kG) aO (uj U) (λe=>?_) (gG.fH ar.nm<|gG.fH ar.nm gG.nl) ako Me (by show 2<20;decide)) ?_) U U (by cbv) ?_
 .refine dH e (λe=>?_) λe=>?_
  .exact absurd e bd
  .rw[<-bm e]at bM;exact absurd bM bd
 .refine rv<|dj _ ⟨?_,U⟩<|Inv.j5.refl _;unfold F3;exact V (akl ..) U
 conv=>arg 7;arg 1;whnf
 refine ct.nM<|bq.assign (u:=.none) ae.WM (by cbv)<|bq.nil ?_
 dsimp only;conv=>arg 7;arg 1;whnf
 exact ct.q9 (b:=a1) (gA.cast (gA.half aO ar.nm) cJ)<|ct.nil<|akj aO aM bM r2 jv ab<|hD U
noncomputable def uw(H:cc)(x:Nat):FuncData:=fdOf<|ES ao H x
theorem VS(H:cc)(x:Nat):(em H x).get 1895=W (ES ao H x):=by cbv
theorem akp(H:cc)(x:Nat):(em H x).get 1894=W (KE ao H x):=by cbv
theorem akq(a:ag)(H:cc)(x:Nat)(f B G:al):iO a (uw H x) ⟨[f,B,G],[]⟩ [("version",f),("error",B),("buff",G)]:=p3 (by cbv)
theorem akr:∃f l e1 fi,dM 0=.Expr (.Constant (.str f) l e1) fi:=(Xd _ _ _ _ U)
theorem aks:∃e1 fi,dM 13=.Return (W<|.Name "res" e1) fi:=(j1 _ _ U)
theorem akt(c:dy j aE T x au)(b:fh (a3 j aE T x au) a):FnAt a 1895 (uw j.params x) (gC<|cj ao 17):=wj (e:=1894) (E:=x+836) c b (VS ..) U (by cbv) (by cbv) (akp ..) U (by cbv) (by cbv) (by cbv) (by cbv) (by cbv) (by cbv)
theorem aku:he (Cz gi og aG I be eu nm E) (("to_binary",.f<|us I be eu nm E)::js ["version","error","buff"] [(.b2,.int gi),(.b2,rX og),(.b2,.buf<|cz<|gu aG)] []):=(hD U)
theorem akv(aO:dy j aE T x au)(ax:eK (z+3) q)(M:cM (a3 j aE T x au) n p N aF S)(r:bw (a3 j aE T x au) n p N S A a)(ac:((hU 1944 1940).both<|lL o).At (a3 j aE T x au) n p N a)(aM:mr S p [(.b2,.int gi),(.b2,rX og),(.b2,.buf<|cz<|gu aG)] a aR)(MK:∀(ej:bY)be cG I eu nm E A,2011<=cG->he (Cz gi og aG I be eu nm E) A->ct (a3 j aE T x au) (z+2) ej o5 (jy be cG) A [dM 2,dM 3,dM 4,dM 5,dM 6,dM 7,dM 8,dM 9,dM 10,dM 11,dM 12] (Cy be cG aT))(ah:∀a4 v be cG aU,(o=W (be,cG)/\aU=[]\/o=aQ/\aU=[cG])->(∀b∈aU,a.heap.objs.size<=b)->a9 (1940::(lL o).W) [] a v->fh (a3 j aE T x au) v->((hU 1944 1940).both<|lL<|W (be,cG)).At (a3 j aE T x au) n (aU++p) N v->cf v.heap (aU++p) (.buf<|cz aT) a4->C a4 v):Y ao j q (er (.ref 1895) aR []) C a:=by
 refine ei aM λil w e9 w hp=>?_;obtain rfl:=e9;refine ei hp λlY w jG w jH=>?_;obtain rfl:=jG;refine ei jH λsZ w mh w Mh=>?_;obtain rfl:=mh;have Mi:_=[]:=Mh;subst Mi;refine A7 (g:=a3 j aE T x au) (z:=z+2) (eb:=["version","error","buff"]) (io aO) ax (akt aO r.2) (by cbv) (by cbv) M r aM U (akq a j.params x il lY sZ) (by cbv) λv dP bX ew bn gf=>?_;have i6:(cX (uw j.params x) 1895 a).scope=o5:=by cbv
 have Bd:(cX (uw j.params x) 1895 a).code=.ref 1894:=by cbv
 have nn:qualnameIn (cX (uw j.params x) 1895 a) "to_binary" "to_binary"=y':=by cbv
 generalize q.deeper (cX (uw j.params x) 1895 a)=kf at*;generalize cX (uw j.params x) 1895 a=ed at*;refine aka.symm▸sm akr λB' hP e1 fi rA=>Lk ew.1 λfj=>?_;have gt:a9 [] [] v {v with toks:=fj}:=bJ.tok ..;have c_:=bn.grow gt;have ML:=(ac.into (y8:=ed) dP bX).it gt aW aW;generalize({v with toks:=fj}:ag)=an at gt c_ ML;have Go:a.heap.objs.size<=an.heap.objs.size:=bb bX.2 gt.2;refine ah2 (z:=z+2) aO i6 Bd nn gf (uj U) ew c_ ML.snd ML.fst (λe=>absurd (bm e) bd) λbe cG I eu nm E am aU qB oa m_ a_ r4 dS iN akw=>Mg<|Y.mono (MK kf be cG I eu nm E _ iN.1.2.2.2.1 aku ed (aU++(b4 ed++p)) [] p qB am gf i6 r4 dS<|akw.both iN) ?_;rintro cO cg nE;refine nE.hO λVR ane MM akx aky anf q0 ang eh wy oh=>ni q0 λh bH ck Ch akz mu Ci=>?_;obtain rfl:=Ch;obtain rfl:=Ci;obtain⟨rfl,lF,ky⟩:=wy;refine⟨U,(lh aks λhG ij akA=>Y.eq (V akA<|V (pU ..)<|V (exec_Return_some ..) U)<|Y.bind<|dV<|Y.bind<|(ae.raw (g:=a3 j aE T x au) (z:=z+2) akz (by cbv)) kf ed MM akx p aky gf i6 lF cg _ ky λa4 cU ft MN=>?_)⟩;have akB:cf cU.heap MM (.raw<|.ref h) a4:=MN;refine V akB<|Y.pure<|Y.pure<|dj _ U ?_;have t4:=oh.it ft aW aW;refine p5 t4.snd.1 λr5 h5 r6 nL uu tj tk g1=>?_;have MO:∀b∈aU++p,b∈MM:=λb m=>eh.1 b<|bN m (λe=>b3 e) λe=>bO<|bO e;have i3:∀b∈p,b<a.heap.objs.size:=λb m=>cw (M.8 b m) r.1;have VT:am.heap.objs.size<=bH:=g_ (eh.4 bH<|bO bz) (λe=>absurd e mu) λe=>e;have MP:∀b∈aU,b<am.heap.objs.size:=λb m=>cw (r4.8 b<|b3 m) dS.1;have akC:bH∉aU++p:=λe=>bN e (λe=>cd (MP _ e) VT) λe=>cd (i3 _ e)<|bb Go<|bb a_.2 VT;have li:∀b∈(jy be cG).W,b∈1940::(lL o).W\/a.heap.objs.size<=b:=λb m=>by
  refine bN m (λe=>?_) λe=>?_
  .exact .inl<|bm e▸bz
  .rcases oa with⟨rfl,_⟩|⟨rfl,rfl⟩
   .exact .inl<|mt e
   .exact dH e (λe=>.inl<|mt<|e▸bz) λe=>.inr<|bb Go<|m_ b<|bm e▸bz
 have ly:a9 (1940::(lL o).W) [] a cU:=by
  have akD:a9 (1940::(lL o).W) [] a an:=(bX.trans gt).mono aW aW;have pG:=(akD.hj a_ (λb m=>bN m (λe=>.inr<|gz<|dP b e) λe=>.inl<|bm e▸(mt (by cases o<;>exact bz))) aW).hj eh.6 (λb m=>by
   refine bN m (λe=>?_) λe=>?_
   .refine bN e (λe=>?_) λe=>?_
    .cases e
    .exact .inr<|gz<|dP b e
   .exact(li b e).imp id gz) λk gp=>by rcases mb.mp gp with e|e<;>cases e
  exact pG.trans<|ft.mono aW aW
 refine ah (.ref h) cU be cG aU oa (λb m=>bb Go<|m_ b m) ly (ky.grow ft).2 ⟨(jy be cG).mono _ _ _ t4.fst.1 λb m=>.inl<|MO b m,λb m=>?_,λk gp=>?_⟩ ?_
 .refine kK (t4.fst.2 b m) λdT d8 dO eM gg=>?_;have qn:b∈((hU 1944 1940).both<|lL o).W->b∈aU++p/\b∉N/\b∉b4 n/\(b∈(a3 j aE T x au).tabs\/aE.heap.objs.size<=b)/\b<cU.heap.objs.size:=λe=>by exact kK (ac.2 b e) λfX gY jO ny rH=>⟨bO fX,gY,jO,ny,gg⟩
  refine bN m (λe=>?_) λe=>?_
  .exact qn<|b3 e
  .rcases oa with⟨rfl,_⟩|⟨rfl,rfl⟩
   .exact qn<|bO e
   .refine dH e (λe=>?_) λe=>?_
    .exact qn<|bO<|e▸bz
    .have VU:b∈[cG]:=bm e▸bz;have u9:=bb Go<|m_ b VU;exact⟨b3 VU,λe=>cd (i3 b (M.5 b e).1) u9,λe=>cd (i3 b (M.4 b e).1) u9,eM,gg⟩
 .rcases mb.mp gp with e|e<;>cases e
 .exact(Ic h bH ck U (λe=>r5<|MO _ e) h5 akC g1 (λe=>r6<|MO _ e) nL tj)
section
theorem bw.ajC(r:bw g n p N S A a)(dK:∀G∈cb,G∈p/\G∉N/\G∉b4 n/\∀o,a.heap.get? G=W o->o.cls=.none)(s:a9 cb ak a v)(m:fh g v)(bS:∀b∈a0,a.heap.objs.size<=b):bw g n (a0++p) N v.heap.objs.size A v:=by
 refine jf r.3 λcV ar af ap bk=>?_;have f9:∀b o,b∉p->a.heap.get? b=W o->v.heap.get? b=W o/\b∉a0++p:=λb o m i=>⟨s.1 b o (λe=>m (dK b e).1) i,by refine g2 mb<|g2 not_or ?_;exact⟨λe=>cd (dB i)<|bS b e,m⟩⟩;refine⟨dA _,m,cV,ar.keeps λb m o i=>s.1 b o (λe=>(dK b e).2.2.1 m) i,λf bx R=>br (af f bx R) λu aM y=>⟨u,aM,?_⟩,ap,bk⟩;have cF:∀aN,AN a.heap p aN u->AN v.heap (a0++p) aN u:=λaN⟨fg,ck,fV⟩=>by
  refine⟨fg,ck,jM.to f9 (λo mx=>s.1 _ _ (λdg=>?_) mx) fV⟩;have ay:=(dK _ dg).2.2.2;cases aN<;>try exact fV
  .refine gc fV λO t mx w=>?_;have:=ay _ mx;cases this
  .have:=ay _ fV;exact absurd this<|show¬(kJ "bytearray"=oB)by decide
 cases bx with
 |f aN=>exact cf.to f9 _ _ y|o aN=>exact cF aN y|b aN=>exact cF aN y
end
noncomputable def Gp:Stmt:=gr (cj ao 19) 5
noncomputable def zk(H:cc)(x:Nat):FuncData:=fdOf<|EV ao H x
theorem VV(H:cc)(x:Nat):(em H x).get 1938=W (EV ao H x):=by cbv
theorem akE(H:cc)(x:Nat):(em H x).get 1937=W (Sz ao H x):=by cbv
theorem akF(a:ag)(H:cc)(x:Nat)(f:al):iO a (zk H x) ⟨[f],[]⟩ [("self",f)]:=p3 (by cbv)
theorem akG:∃e1 fi hG,gC Gp=[.Return (W<|.Attribute (.Name "self" e1) "_data" fi) hG]:=(Pr _ _ _ U)
theorem akH(c:dy j aE T x au)(b:fh (a3 j aE T x au) a):FnAt a 1938 (zk j.params x) (gC Gp):=wj (e:=1937) (E:=x+892) c b (VV ..) U (by cbv) (by cbv) (akE ..) U (by cbv) (by cbv) (by cbv) (by cbv) (by cbv) (by cbv)
theorem akI(aO:dy j aE T x au)(ax:eK (z+1) q)(M:cM (a3 j aE T x au) n p N aF S)(r:bw (a3 j aE T x au) n p N S A a)(av:cf a.heap p (.buf b) a4)(ah:∀oe v,a9 [] [] a v->cf v.heap p (.nE b) oe->C oe v):Y ao j q (er (.ref 1938) [a4] []) C a:=by
 refine A7 (g:=a3 j aE T x au) (z:=z) (eb:=["self"]) (ec:=[(.b2,.buf b)]) (aR:=[a4]) (io aO) ax (akH aO r.2) (by cbv) (by cbv) M r ⟨_,_,U,av,U⟩ U (akF a j.params x a4) (by cbv) λv dP bX ew bn gf=>?_;have i6:(cX (zk j.params x) 1938 a).scope=fa Gp:=by cbv
 generalize q.deeper (cX (zk j.params x) 1938 a)=kf at*;generalize cX (zk j.params x) 1938 a=ed at*;exact sl akG λe1 fi hG iG=>Y.bind<|dV<|Y.bind<|(ae.QD (z:=z) aO<|ar.nm (g:=a3 j aE T x au) (z:=z) (Q:=fa Gp) (A:=js ["self"] [(.b2,.buf b)] []) (u:=.buf b) (f:="self")) kf ed (b4 ed++p) [] p _ gf i6 ew v _ bn λoe an aL hr=>Y.pure<|Y.pure ⟨oe,U,ah oe an (bX.trans aL)<|cf.sub (u:=.nE b) hr λB a8=>bO a8⟩
theorem d1.ajI(aO:dy j aE T x au)(a7:gG (a3 j aE T x au) (z+3) Q A f3 [(.b2,.int gi),(.b2,rX og),(.b2,.buf<|cz<|gu aG)])(vx:f3.length<20)(R:eA Q "make_final_message"=Z)(MK:∀(ej:bY)be cG I eu nm E A,2011<=cG->he (Cz gi og aG I be eu nm E) A->ct (a3 j aE T x au) (z+2) ej o5 (jy be cG) A [dM 2,dM 3,dM 4,dM 5,dM 6,dM 7,dM 8,dM 9,dM 10,dM 11,dM 12] (Cy be cG aT)):d1 (a3 j aE T x au) (z+3) q Q ((hU 1944 1940).both<|lL o) A (.Call (.Name "make_final_message" e) f3 [] aj) (λu b1=>u=.buf (cz aT)/\∃y,b1=(hU 1944 1940).both (lL<|W y)):=λn p N aF S a ax L M r ac C ah=>by
 have h2:eA n.scope "make_final_message"=Z:=L▸R
 .refine Y.bind<|rz (aU:=[]) (ak:=[]) (hB (A:=A) (io aO) M afp h2) (vi h2) a _ r λa4 an aL ms=>V ms ?_;have c_:=r.grow aL;have gH:=ac.it aL aW aW;refine xM (jJ:=[]) (o:=ES ao j.params x) (bi:=uw j.params x) (H:=λE=>bw (a3 j aE T x au) n p N S A E/\((hU 1944 1940).both<|lL o).At (a3 j aE T x au) n p N E) a7.star vx (λE C r e ah=>a7.sj ax L M E C r e.1 ah) ⟨c_,gH⟩ (λE e=>aO.sub e.1.2 _ _ _ (VS ..) U) (by cbv) (λE eR e s=>⟨e.1.grow s,e.2.it s aW aW⟩) ?_;intro aR am a_ aM;have dS:=c_.grow a_;have iN:=gH.it a_ aW aW;refine akv (og:=og) (aG:=aG) (gi:=gi) (aT:=aT) aO ax M dS iN aM MK λa4 cg be cG aU oa m_ ce Mn oh y=>?_;have dK:∀G∈1940::(lL o).W,G∈p/\G∉N/\G∉b4 n/\∀o,am.heap.get? G=W o->o.cls=.none:=λG ab=>by
   refine lg (iN.2 G ab) λdT d8 dO w=>⟨dT,d8,dO,λkB i=>?_⟩;rcases fR.mp ab with rfl|ab
   .refine cY iN.fst.1 λw e9=>c5 e9 λcv lz=>?_;have:=lz.2.2;replace this:=i▸this;exact V (d4 this) U
   .have f4:=iN.snd.1;cases o with
    |none=>refine cY f4 λw hp=>br hp λcv lz w=>?_;have:=lz.2.2;replace this:=i▸(bm ab)▸this;exact V (d4 this) U|some y=>
     refine rn f4 λw w w w jG jH w=>br jG λcv lz w=>c5 jH λCm akJ=>?_;rcases fR.mp ab with rfl|ab
     .have:=lz.2.2;replace this:=i▸this;exact V (d4 this) U
     .have:=akJ.2.2;replace this:=i▸(bm ab)▸this;exact V (d4 this) U
  have MP:∀b∈aU,b<cg.heap.objs.size:=λb m=>by
   rcases oa with⟨_,rfl⟩|⟨_,rfl⟩
   .exact dt m
   .exact V (bm m)<|(oh.2 cG<|bO<|mt bz).2.2.2.2
  have r4:=M.up (c0:=am.heap.objs.size) dS.1;have lF:cM (a3 j aE T x au) n (aU++p) N aF cg.heap.objs.size:=r4.m6 (λb m=>⟨m_ b m,MP b m⟩) dS.2.1.2 ce.2;have rZ:bw (a3 j aE T x au) n (aU++p) N cg.heap.objs.size A cg:=dS.ajC dK ce Mn m_;refine ah a4 cg (.buf<|cz aT) _ _ _ ⟨U,(be,cG),U⟩ ⟨λb m=>bO m,λb m=>bN m (λe=>.inr<|bb (aL.trans a_).2<|m_ b e) .inl,λw c=>.inl c,λb m=>?_,λk gp=>?_,?_⟩ lF rZ oh y
  .refine bN m (λe=>?_) λe=>?_
   .exact .inl<|b3 e
   .rcases oa with⟨rfl,_⟩|⟨rfl,rfl⟩
    .exact .inl<|bO e
    .exact dH e (λe=>.inl<|bO<|e▸bz) λe=>.inr<|bb (aL.trans a_).2<|m_ b<|bm e▸bz
  .rcases mb.mp gp with e|e<;>exact dt e
  .exact((aL.trans a_).mono aW aW).trans<|ce.mono (λG ab=>bO ab) aW
section
variable{j:b7}{aE a:ag}{T:Nat->Obj}{x:Nat}{au:fQ}{z:Nat}{Q:c4}{A:b0}{aT:List Int}{i:bB}{nB aj di:Pos}{b:Array UInt8}{l:ha}
theorem ae.ajK(aO:dy j aE T x au)(mm:∀n,tx i "getbits" n (dD i n)=dD i n)(i0:(nB.endLine==aj.line)=Z)(bp:ae (a3 j aE T x au) (z+1) Q A i .b2<|.buf b):ae (a3 j aE T x au) (z+1) Q A (.Call (.Attribute i "getbits" nB) [] [] aj) .b2 (.nE b):=λq n p N aF S ax L M a C r ah=>by
 refine tS (aB:=[]) U (by show 0<20;decide) (mm n) i0<|bp q n p N aF S ax L M a _ r λa4 an aL y=>gJ λw bI=>?_;obtain⟨h,bH,tb,rfl,a7,h5,bl,g1,BW,nL,gm⟩:=y;refine bI ?_;have c_:=r.grow aL;have fA:q.depth+90<recursionLimit:=by have:=ax.2;show q.depth+90<1000;exact c3 (.t (.a .x<|.n 90)<|.n 1000) [.l (.a .x<|.o .y)<|.n 900] U this
 refine FK age fA (aO.sub c_.2) h5 nL gm λam a_=>?_;have dS:=c_.grow a_;have VW:cf am.heap p (.buf b) (.ref h):=(Ic h bH tb U a7 (a_.all _ _ h5) bl (a_.all _ _ g1) BW (a_.all _ _ nL) gm);refine xM (jJ:=[.ref h]) (H:=λE=>bw (a3 j aE T x au) n p N S A E/\cf E.heap p (.buf b) (.ref h)) (aU:=[]) (ak:=[]) (o:=EV ao j.params x) (bi:=zk j.params x) U (by show 0<20;decide) iY ⟨dS,VW⟩ (λE e=>aO.sub e.1.2 _ _ _ (VV ..) U) (by cbv) (λE eR e s=>⟨e.1.grow s,cf.to (λb o m i=>⟨s.all _ _ i,m⟩) _ _ e.2⟩) ?_;rintro aR cg ce rfl;exact akI (z:=z) aO ax M (dS.grow ce) (cf.to (λb o m i=>⟨ce.all _ _ i,m⟩) _ _ VW) λoe cU ft MN=>ah oe cU (((aL.trans a_).trans ce).trans ft) MN
theorem VX:∀(aw:List Int)(O:List al),O.length=aw.length->(∀(aD:Nat)u,O[aD]?=W u->∃E,u=.int (aw.getD aD 0) E)->bW c p (aw.map bh.int) O
 |[],[],bL,dQ=>by show bW c p [] [];exact U|[],bL::dQ,c,lp=>by cases c|bL::dQ,[],c,lp=>by cases c|t::aw,u::O,aI,aM=>by
  refine(jg u O U ?_<|VX aw O (by simpa using aI) λaD aN e4=>?_)
  .exact c5 (aM 0 u U) λE i=>(oE E i)
  .exact aM (aD+1) aN e4
theorem ae.ajL(aO:dy j aE T x au)(rN:gs aT)(ab:aT.length<=2^24)(bp:ae (a3 j aE T x au) z Q A i .b2<|gh aT)(R:eA Q "list"=Z:=by cbv)(ay:d0 i=Z:=by rfl):ae (a3 j aE T x au) z Q A (.Call (.Name "list" di) [i] [] aj) .fr (cS aT):=λq n p N aF S ax L M=>by
 subst L;refine kO M.ok (hB (io aO) M TJ R) U (hN ay M.ok (bp q n p N aF S ax U M) e'.iB iY) ?_ (by simp[ay]);rintro a aR r⟨fM,y,rfl,av,rfl⟩C ah;refine fx av λh e_ a7 h5=>?_;refine V e_ ?_;have dW:=nC aT;refine j7<|Y.of<|Sa ax.1 h5 (dW▸ab) λaa fj go be aS aP gB i4=>?_;have s:a9 [] [] a {a with heap:=aa,toks:=fj}:=bJ.heap (λb o w i=>aS b o i) i4.1;refine ah _ _ s ⟨_,U,r.1,go,be,aP,VX aT _ (V Du<|V gB.1<|V dW U) λaD u aM=>?_⟩;have dx:aD<aT.length:=by have:=(k'.mp aM).1;rw[Du,gB.1,dW]at this;exact this
 refine gc (gB.2 aD u (by simpa using aM)) λaiV aN bG gX=>?_;refine V gX ?_;replace bG:=(Kz dx)▸bG;cases bG;exact⟨aN,V (Ky<|KA rN dx) U⟩
end
section
variable{j:b7}{aE a:ag}{T:Nat->Obj}{x:Nat}{au:fQ}{z:Nat}
inductive wK(aG:List<|List Int)(df:List Int):Prop|mk(lt:Nat->Nat->Bool)(bn:List Nat)(af:(k3 aG).length<=2^20)(ap:2<=(k3 aG).length)(bk:bn.length<=2^20)(cx:∀k aD,o4 (hc<|pO aG k) (hc<|pO aG aD)=lt k aD)(ef:uo lt (k3 aG).length (c2 (k3 aG).length)=W bn)(fL:(bn.map λk=>(pO aG k).2.2)=df):wK aG df
theorem VY{g:dw}{Q:c4}{A:b0}{f:Str}{di aj e:Pos}{aG:List<|List Int}{df:List Int}(t:r8 g)(c:wK aG df)(R:eA Q "_law_woven"=Z)(av:ht Q f=Z)(aK:fI A f=W (.b<|.lst<|aG.map cS)\/fI A f=W (.f<|.lst<|aG.map cS)):ae g (z+1) Q A (.Call (.Name "_law_woven" di) [.Name f e] [] aj) .b2 (cS df):=by
 obtain⟨lt,bn,af,ap,bk,cx,ef,rfl⟩:=c;rcases aK with aK|aK
 .exact ar.call t.ok t.JZ (gG.fH (ae.v5 aK av) gG.nl) (Vx t aG _ (.inl U) af ap bk cx ef) U R (by cbv) (by show 1<20;decide)
 .exact ar.call t.ok t.JZ (gG.fH (ae.name aK av) gG.nl) (Vx t aG _ (.inr U) af ap bk cx ef) U R (by cbv) (by show 1<20;decide)
theorem akK(aO:dy j aE T x au)(t:r8<|a3 j aE T x au){cp nN:List<|List Int}{en aV u:Nat}{fr:Int}{aT wL wM:List Int}(aS:en<=30)(bl:cp.length<=10/\∀b∈cp,b.length<=200/\∀j∈b,0<=j/\j<256)(rN:gs aT)(ab:aT.length<=2^24)(a5:∀df∈cp,∀k,k<df.length->0<=(i_ (256^en) (na (kj en) en<|df.take k)<|df.getD k 0).fdiv (256^en)/\((i_ (256^en) (na (kj en) en<|df.take k)<|df.getD k 0).fdiv<|256^en).toNat<(kj en).length)(av:cp.map (tl (kj en) en)=nN)(akL:wK cp wL)(akM:wK nN wM)(bS:(∀j∈wL++wM,0<=j/\j<256)/\(wL++wM).length<=5000)(akN:aT=(wL++wM).flatMap jz++dq (fr.fmod 8).toNat 0):bq (a3 j aE T x au) (z+2) (fa<|cj ao 28) [] [("message",.f<|.buf<|cz aT),("rows",.f<|.lst<|(l6 8).map cS),("data",.b<|.lst<|cp.map cS),("free",.f<|.int fr),("checks",.f<|.int en)] (r'.drop 14) (λcO w=>cO=.ret (.bool Z)):=by
 have L:cI=2^24:=U;have VZ:=zO fr (b:=8) bd;conv=>arg 6;whnf
 refine bq.assign (u:=cS<|kj en) (ar.call t.ok t.Sr (gG.fH ar.nm gG.nl)<|aiY t en aS) (by cbv) ?_;have b3:(kj en).length<=256:=mF<|wE ..;generalize kj en=dh at*;refine bq.comp (bA:=cp.map cS) (ds:=cp.map λb=>[cS<|tl dh en b]) t.ok ⟨⟨by cbv,U,eJ _,λbX e=>(dI e),λw w=>U,AllP.map λb m=>⟨ar.t1,ar.fr,jo.one U U<|ar.call t.ok t.Ss (gG.fH ar.nm<|gG.fH ar.nm<|gG.fH ar.nm gG.nl)<|ai0 t en aS b dh ⟨by have:=(bl.2 b m).1;exact cy (.l .x<|.n 1000) [.l .x<|.n 200] U this,(bl.2 b m).2⟩ b3<|a5 b m⟩,by refine V (r0 ..)<|V (d3 ..) ?_;exact gd [1,1,-1] (.l .x .y) [.l .x<|.n 10,.e .y<|.n 16777216] U bl.1 L⟩,fp.list (ka.v5 U (by cbv))<|.inl<|j1 _ _ U⟩ (by cbv) (by rfl) (by cbv) ?_;refine V (r0 ..)<|V (show(cp.map λb=>cS<|tl dh en b)=nN.map cS by rw[<-av,jY];rfl) ?_;refine bq.assign (u:=cS aT) (ae.cast (ae.tO (aw:=(wL++wM).flatMap jz) (dh:=dq (fr.fmod 8).toNat 0) (cR:=.fr) (eZ:=.fr) (ae.cast (ae.comp (bA:=(wL++wM).map .int) (ds:=(wL++wM).map λj=>(jz j).map .int) t.ok ?_) ?_) (ae.F9 (G:=0) (ae.list (aH:=[.int 0]) (eU.fH ae.cT eU.nl) bd) (ae.mod ar.nm ae.cT bd) (by exact f1 (.b3 (.g<|.n 9223372036854775808) .x) [.b3 (.n 0) .x] U<|zN fr (b:=8) bd) (by exact f1 (.b3 .x<|.n 16777216) [.b_ .x<|.n 8] U VZ)) ?_) (by exact V akN U)) (by cbv) ?_
 .refine⟨⟨by cbv,U,eJ _,λbX e=>(by refine b' (lk e) ?_;rfl),λw w=>U,AllP.map λf R=>⟨ar.t1,ar.fr,?_⟩,?_⟩,fp.list (ka.of<|ae.tO (VY t akL (by cbv) (by cbv)<|.inl U) (VY t akM (by cbv) (by cbv)<|.inr U) (by refine b' gU ?_;exact gd [1,1,-1] (.l .x .y) [.l .x<|.n 5000,.e .y<|.n 16777216] U bS.2 L))<|.inl<|j1 _ _ U⟩
  .obtain⟨bG,cr⟩:=MI<|bS.1 f R;refine b' (r0 (jz f) bh.int) ?_;exact jo.next (s:=_) (bA:=(jz f).map .int) U U (eJ _) (λbX e=>(dI e)) (λw w=>U) U (fp.list (ka.of<|ae.item (u:=cS<|jz f) (aH:=(l6 8).map cS) ar.nm ar.nm (bS.1 f R).1 (by refine V (fk)<|V bG ?_;rfl) (by refine V (d3 ..)<|V ((zj 8<|dA _).1) ?_;exact rq [1,-1] (.l (.n 256) .x) [.e .x<|.n 16777216] U L))<|.inl<|j1 _ _ U)<|AllP.map λf R=>⟨ar.t1,ar.fr,jo.one U U ar.nm⟩
  .refine V (Lx ..)<|V (d3 ..)<|V (Gl bS.1) ?_;exact gd [1,8,-1] (.l (.m 8 .x) .y) [.l .x<|.n 5000,.e .y<|.n 16777216] U bS.2 L
 .exact congrArg bh.lst<|Lx _ _
 .exact V (Gl bS.1)<|V ng<|bb (Hs (Dg 8 bS.2)<|Int.toNat_le.mpr<|Int.le_of_lt VZ) bd
 refine bq.ret (u:=.bool Z) (ae.cast (ae.W5 (ae.ajL aO rN ab<|ae.ajK (z:=z+1) aO (λw=>U) (by rfl) ar.nm) ar.nm λw=>U) (by simp)) U
end
section
section
variable{g:dw}{z:Nat}{Q:c4}{A:b0}{q:bY}{ai:Inv}{D ca:List ez}
theorem ct.ajQ{cu:jq->b0->Inv->Prop}(c:bq g z Q [] A D λcO bU=>cO=.next/\ct g z q Q ai bU ca cu):ct g z q Q ai A (D++ca) cu:=λn p N aF S a ax L M r ac=>by refine Mg<|Y.mono (c q n p N aF S a ax L M r) ?_;rintro I an bP;refine bP.hO λcO bU bu cW c0 cB m eh dv=>?_;obtain⟨rfl,aZ⟩:=cB;obtain⟨rfl,ew,bn⟩:=dv;exact⟨U,Y.mono (aZ n bu cW aF c0 an ax L ew bn<|ac.step M eh) λI v aa=>aa.trans eh.wm⟩
theorem ct.ajR{cu:jq->b0->Inv->Prop}(c:bq g z Q [] A D λcO bU=>cu cO bU ai):ct g z q Q ai A D cu:=λn p N aF S a ax L M r ac=>by refine Y.mono (c q n p N aF S a ax L M r) ?_;rintro I an ek;exact ek.hO λcO bU bu cW c0 aZ m eh bp=>⟨cO,bU,bu,cW,c0,ai,aZ,m,eh.wm,bp,ac.step M eh⟩
end
variable{j:b7}{aE a:ag}{T:Nat->Obj}{x:Nat}{au:fQ}{z:Nat}{q:bY}{o:Option<|aq×aq}
def akO(j:b7)(aE:ag)(T:Nat->Obj)(x:Nat)(au:fQ)(z:Nat)(gi:Int)(cF:dC)(aG:List Bool)(aT:List Int):Prop:=∀(ej:bY)be cG I eu nm E A,2011<=cG->he (Cz gi cF aG I be eu nm E) A->ct (a3 j aE T x au) (z+2) ej o5 (jy be cG) A [dM 2,dM 3,dM 4,dM 5,dM 6,dM 7,dM 8,dM 9,dM 10,dM 11,dM 12] (Cy be cG aT)
noncomputable def zl(aV:Nat):Int:=([1,0,3,2]:List Int).getD aV 0
structure V0(j:b7)(aE:ag)(T:Nat->Obj)(x:Nat)(au:fQ)(z:Nat)(aV u:Nat)(fY:List Int)where
 ek:Nat->Nat
 lv:Nat->Nat
 bs:List Bool
 M:List Int
 kA:List<|List Int
 ob:List Int
 oc:List Int
 lay:Ge (ey aV u) (fJ aV u) (m' u) ek lv
 bits:((oo fY ek lv<|fJ aV u).flatMap λb=>b.flatMap jz)=gu bs
 ajT:bs.length<=2^20
 ajU:akO j aE T x au z u (.int<|zl aV) bs M
 ajV:gs M
 ajW:M.length<=2^24
 aQ:∀df∈oo fY ek lv<|fJ aV u,∀k,k<df.length->0<=(i_ (256^ey aV u) (na (kj<|ey aV u) (ey aV u)<|df.take k)<|df.getD k 0).fdiv (256^ey aV u)/\((i_ (256^ey aV u) (na (kj<|ey aV u) (ey aV u)<|df.take k)<|df.getD k 0).fdiv<|256^ey aV u).toNat<(kj<|ey aV u).length
 ajX:(oo fY ek lv<|fJ aV u).map (tl (kj<|ey aV u)<|ey aV u)=kA
 ajY:wK (oo fY ek lv<|fJ aV u) ob
 ajZ:wK kA oc
 aj0:(∀j∈ob++oc,0<=j/\j<256)/\(ob++oc).length<=5000
 aj1:M=(ob++oc).flatMap jz++dq ((m' u).fmod 8).toNat 0
theorem akP(fY:List Int)(l:Int):0<=Gd fY l/\Gd fY l<256:=⟨zN _ bd,zO _ bd⟩
theorem V1(fY:List Int){fP fv:Nat->Nat}{en cz:Nat}{fr:Int}(ch:Ge en cz fr fP fv):(oo fY fP fv cz).length<=10/\∀b∈oo fY fP fv cz,b.length<=200/\∀j∈b,0<=j/\j<256:=by
 refine⟨by unfold oo;refine V (d3 ..)<|V oz ?_;exact ch.xT.2,λb m=>?_⟩;obtain⟨k,ac,rfl⟩:=k_.mp m;obtain⟨_,_,bk,cx,_⟩:=ch.vi k<|la.mp ac;unfold wG;refine⟨by refine V gU<|V ng<|V (d3 ..)<|V (vF ..) ?_;exact hh (.l (.a .x .y)<|.n 200) [.l .z<|.n 200,.e (.a .x .y) .z] U cx<|eN bk,λf R=>?_⟩;refine bN R (λR=>?_) λR=>?_
 .refine V (z9 R) ?_;decide
 .obtain⟨l,_,rfl⟩:=k_.mp R;exact akP fY l
theorem akQ:gC (cj ao 28)=r'.take 7++((r'.take 10).drop 7++((r'.take 13).drop 10++r'.drop 13)):=by cbv
theorem akR(aO:dy j aE T x au)(t:r8<|a3 j aE T x au)(h9:List Int)(lS:h9.length<=63)(d9:∀aV u:Nat,aV<4->1<=u->u<8->Nonempty (V0 j aE T x au z aV u<|pP<|r_ h9)):ct (a3 j aE T x au) (z+3) q (fa<|cj ao 28) ((hU 1944 1940).both<|lL o) [("script",.f<|cS h9)] (gC<|cj ao 28) (λcO w w=>cO=.ret (.bool Z)):=by
 refine V akQ<|b' (rc ..)<|b' (rc ..) ?_;refine ct.ajQ<|rc _ _ _▸ajm (z:=z+1) t h9 lS λaV u aS af g3 zh y3=>?_;obtain⟨I⟩:=d9 aV u aS af g3;have bl:=V1 (pP<|r_ h9) I.lay;refine aju (z:=z+1) (ca:=(r'.take 13).drop 10) t _ ⟨y3,zh⟩ I.lay ?_;refine b' (uN<|(r'.take 13).drop 10) ?_;refine akd (z:=z+1) (ca:=[]) t bl<|bq.nil ⟨U,?_⟩;conv=>arg 7;whnf
 refine ct.uV (d1.ajI (z:=z) (og:=.int<|zl aV) (aG:=I.bs) (aT:=I.M) aO ⟨U,ar.nm,U,ae.BK (aH:=([1,0,3,2]:List Int).map .int) (ae.tuple (eU.fH ae.cT<|eU.fH ae.cT<|eU.fH ae.cT<|eU.fH ae.cT eU.nl) bd) ar.nm (iP _) ?_ bd,U,ae.JS (z:=z+1) aO (ae.cast ar.nm<|congrArg cS I.bits) (afL _) ?_ (by cbv) U,trivial⟩ (by show 3<20;decide) (by cbv) I.ajU) (by cbv) ?_
 .refine V (fk) ?_;have:([1,0,3,2]:List Int)[aV]?=W (zl aV):=(show∀aV,aV<4->([1,0,3,2]:List Int)[aV]?=W (zl aV)by decide) aV aS;refine V (mD ..)<|V this ?_;rfl
 .unfold gu;refine V (d3 ..) ?_;exact bb I.ajT bd
 rintro B wl⟨rfl,et,rfl⟩;refine ct.ajR<|bq.le (hD U)<|akK (z:=z+1) (u:=u) (aV:=aV) aO t I.lay.vh.2 bl I.ajV I.ajW I.aQ I.ajX I.ajY I.ajZ I.aj0 I.aj1
end
noncomputable def jb(j:Int):List Int:=(c2 8).map<|nz j 8
theorem Gq(j:Int):(jb j).length=8:=d3 ..
theorem akS:((c2 256).all λj=>(jz (j:Int)==jb (j:Int))&&(valOf ((jb (j:Int)).map (·==1))==(j:Int))&&((jb (j:Int)).all λb=>b==0||b==1))=Z:=by decide+kernel
theorem MQ{j:Int}(c:0<=j/\j<256):jz j=jb j/\valOf ((jb j).map (·==1))=j/\∀b∈jb j,b=0\/b=1:=by obtain⟨t,rfl⟩:=zM c.1;have:=hn.mp akS t<|la.mpr (by exact cy (.t .x<|.n 256) [.b_ (.c .x)<|.n 256] U c.2);rw[h_,h_]at this;refine⟨eq_of_beq this.1.1,eq_of_beq this.1.2,λb m=>?_⟩;have:=hn.mp this.2 b m;simpa using this
theorem MR:∀{df:List Int},gs df->df.flatMap jz=df.flatMap jb|[],_=>U|j::df,c=>by exact V nR<|V nR<|V ((MQ<|c j bz).1)<|V (MR λf R=>c f<|mt R) U
theorem V2:∀(D:List Int)(k:Nat)(c:k<D.length),((D.flatMap jb).drop<|8*k).take 8=jb D[k]
 |h::D,0,_=>by refine V nR<|V (Nat.mul_zero ..)<|V zY<|V (List.take_append_of_le_length<|mF (Gq h).symm)<|V (uP<|mF<|Gq h) ?_;rfl|h::D,k+1,c=>by
  have:(jb h++D.flatMap jb).drop 8=D.flatMap jb:=by have:=List.drop_left (l₁:=jb h) (l₂:=D.flatMap jb);rwa[Gq]at this
  refine V nR<|V (Nat.mul_succ ..)<|V (w8 ..)<|b' HB<|V this<|V (V2 D k<|Nat.lt_of_succ_lt_succ c) ?_;rfl
theorem CA(D:List Int):(D.flatMap jb).length=8*D.length:=by induction D with|nil=>rfl|cons h D a2=>refine V nR<|V gU<|V (Gq ..)<|V a2<|V iy ?_;exact cy (.e (.a (.n 8)<|.m 8 .x)<|.m 8<|.o .x) [] U
noncomputable def op(df:List Int):List Bool:=(df.flatMap jb).map (·==1)
theorem akT{df:List Int}(c:gs df):df.flatMap jb=gu (op df):=by
 unfold gu op;refine V jY ?_;conv=>lhs;rw[<-List.map_id<|df.flatMap jb]
 refine(rf λf R=>?_);obtain⟨j,bS,R⟩:=uR.mp R;rcases(MQ<|c j bS).2.2 f R with rfl|rfl<;>rfl
theorem akU{df:List Int}(c:gs df){k:Nat}(ac:k<df.length):i7 (op df) k=df.getD k 0:=by
 have aI:(op df).length=8*df.length:=by unfold op;exact V (d3 ..)<|V (CA ..) U
 have az:rY (op df) (8*k)=(jb df[k]).map (·==1):=by
  unfold rY;have bG:((op df).drop<|8*k).take 8=(jb df[k]).map (·==1):=by unfold op;exact b' xe<|b' z0<|V (V2 df k ac) U
  refine V bG<|V (Ny<|aI.symm▸Dg 8 ac) ?_;exact uN _
 unfold i7;refine V az<|V ((MQ<|c _<|sg ac).2.1)<|V (fK)<|V (fG ac) ?_;rfl
theorem V3{I:Nat->Int}{s:List Int}:∀(D:List<|Nat×List Int)(cp:List<|List Int)(aD:Nat)(aC as:List<|List Int),D=cp.map (λb=>(b.length,s))->(∀k,k<cp.flatten.length->I (aD+k)=cp.flatten.getD k 0)->D.foldl (λst r=>(st.1+r.1,st.2.1++[ki I st.1 r.1],st.2.2++[ks r.2<|ki I st.1 r.1])) (aD,aC,as)=(aD+cp.flatten.length,aC++cp,as++cp.map (ks s))
 |_,[],aD,aC,as,c,_=>by refine V c ?_;simp|_,b::cp,aD,aC,as,c,bg=>by
  refine V c ?_;have m:ki I aD b.length=b:=by
   apply uO;intro k;unfold ki;refine V (fk) ?_;by_cases ac:k<b.length
   .refine V (mJ ac)<|V (fG ac)<|V (tz ..)<|V (bg k<|V jA<|V gU<|hh (.t .x<|.a .y .z) [.t .x .y] U ac)<|V jA<|V (fK)<|V (uQ ac)<|V (fG ac) ?_;rfl
   .refine V (oA (by simpa using ac))<|V (oA (by simpa using ac)) ?_;rfl
  have a2:=V3 (I:=I) (s:=s) (cp.map λb=>(b.length,s)) cp (aD+b.length) (aC++[b]) (as++[ks s b]) U λk ac=>by exact V (uL ..)<|V (bg (b.length+k)<|V jA<|V gU<|hh (.t (.a .x .y)<|.a .x .z) [.t .y .z] U ac)<|V jA<|V (fK)<|V (xi<|iw _ _)<|V (NI ..)<|V (fK) U
  refine V iz<|V Dn ?_
  dsimp only;refine V m<|V a2<|V jA<|V gU<|V iz<|V (uL ..)<|V (rc ..)<|V (rc ..) ?_;rfl
theorem akV{cp:List<|List Int}{s:List Int}{kG:List Lay}(c:g8 kG=cp.map λb=>(b.length,s))(m:gs cp.flatten):l7 (i7<|op cp.flatten) (g8 kG)=(cp.flatten.length,cp,cp.map<|ks s):=by
 have:=V3 (I:=i7<|op cp.flatten) (s:=s) (g8 kG) cp 0 [] [] c λk ac=>by refine V (ra ..) ?_;exact akU m ac
 rw[ra]at this;exact this
noncomputable def oq(aG:List<|List Int):List Int:=(c2 (r7<|aG.map λb=>(b.length:Int)).toNat).flatMap λl=>aG.flatMap λb=>if l<b.length then[b.getD l 0]else[]
theorem CB(aG:List<|List Int):ja aG=(oq aG).flatMap jb:=by
 unfold ja oq;refine V Of ?_;refine congrArg (List.flatMap · _)<|funext λl=>?_;refine V Of ?_;refine congrArg (List.flatMap · _)<|funext λb=>?_;split
 .exact(uN _).symm
 .rfl
set_option tactic.hygienic true in theorem V4{aG:List<|List Int}{f:Int}(c:f∈oq aG):∃b∈aG,f∈b:=by
 obtain⟨l,_,c⟩:=uR.mp c;obtain⟨b,m,c⟩:=uR.mp c;split at c
 .rename_i aS;refine⟨b,m,?_⟩;refine V (bm c)<|V (fK)<|V (fG aS) ?_;exact sg aS
 .exact nomatch c
noncomputable def o8(fP:List Nat):List (Nat×Nat):=fP.zipIdx.flatMap λe=>(c2 e.1).map λr=>(r,e.2)
noncomputable def wN(f:Nat×Nat):Nat:=f.1*8+f.2
noncomputable def mC(fP:List Nat):List Nat:=(o8 fP).map wN
noncomputable def Gs(aR:List Nat)(k aD:Nat):Bool:=ma (aR.getD k<|aR.headD 0)<|aR.getD aD<|aR.headD 0
noncomputable def V5(fP:List Nat):List Nat:=(c2 (r7<|fP.map λ(t:Nat)=>(t:Int)).toNat).flatMap λl=>fP.zipIdx.flatMap λe=>if l<e.1 then[l*8+e.2]else[]
noncomputable def zm(fP:List Nat):Bool:=hY fP.length 8&&hY 2 (mC fP).length&&hY (mC fP).length 5000&&(match uo (Gs<|mC fP) (mC fP).length (c2 (mC fP).length)with|some r=>hY r.length 5000&&r.map (λk=>(mC fP).getD k<|(mC fP).headD 0)==V5 fP|none=>a1)
theorem map_getD{bf cE:Type}{I:bf->cE}{z:bf}{s7:cE}{aY:List bf}(c:0<aY.length)(k:Nat):(aY.map I).getD k ((aY.map I).headD s7)=I (aY.getD k<|aY.headD z):=by cases aY with|nil=>cases c|cons E aY=>refine V (fK)<|V (fK)<|V (fk) ?_;cases(E::aY)[k]?<;>rfl
theorem getD_mem{bf:Type}{z:bf}{aY:List bf}(c:0<aY.length)(k:Nat):aY.getD k (aY.headD z)∈aY:=by cases aY with|nil=>exact nomatch c|cons E aY=>
  refine V (fK) ?_;by_cases ac:k<(E::aY).length
  .refine V (fG ac) ?_;exact sg ac
  .refine V (oA<|q_ ac) ?_;exact bz
noncomputable def ux(aG:List<|List Int)(f:Nat×Nat):Int:=(aG.getD f.2 []).getD f.1 0
theorem V6{aG:List<|List Int}{r:List Int×Nat}(c:r∈aG.zipIdx):aG.getD r.2 []=r.1:=by have:=HE.mp c;refine V (fK)<|V this ?_;rfl
theorem akW(aG:List<|List Int):o8 (aG.map hg)=aG.zipIdx.flatMap λr=>(c2 r.1.length).map λk=>(k,r.2):=by unfold o8;refine V Dq<|V (HF ..) ?_;rfl
theorem Gt{bf cE:Type}{D:List bf}{I s:bf->List cE}(c:∀h∈D,I h=s h):D.flatMap I=D.flatMap s:=by exact V Og<|V Og<|V (rf c) U
theorem V7(aG:List<|List Int):k3 aG=(o8<|aG.map hg).map λf=>(f.1,f.2,ux aG f):=by
 refine V (akW ..)<|V HG ?_;refine Gt λr aZ=>?_;refine V jY ?_;apply uO;intro k;refine V (fk)<|V (fk)<|V (NY) ?_;by_cases ac:k<r.1.length
 .refine V (mJ ac)<|V (fG ac) ?_;simp only[tz,ra,Pe];have:ux aG (k,r.2)=r.1[k]:=by unfold ux;refine V (V6 aZ)<|V (fK)<|V (fG ac) ?_;rfl
  exact V this U
 .refine V (oA<|q_ ac)<|V (oA (l:=c2 r.1.length) (by simpa using ac)) ?_;rfl
theorem akX{fP:List Nat}{f:Nat×Nat}(c:f∈o8 fP):f.2<fP.length:=by obtain⟨e,a5,c⟩:=uR.mp c;obtain⟨r,_,rfl⟩:=k_.mp c;have:=HE.mp a5;exact(k'.mp this).1
theorem akY{h b g z:Nat}(m:b<8)(bl:z<8)(c:h≠g):(h:Int)<g↔h*8+b<g*8+z:=by
 have st:∀{h b g z:Nat},b<8->h<g->h*8+b<g*8+z:=λm e=>cw (NL m _)<|bb (w' _ 8▸zU 8 e)<|iw _ _;refine⟨λe=>st m<|C'.mp e,λe=>C'.mpr ?_⟩;rcases Nat.lt_or_gt_of_ne c with G|G
 .exact G
 .exact absurd (st bl G)<|Hp e
theorem V8{h b:Nat}(c:b<8):(h*8+b)%8=b:=by rw[rb,w9,Df c]
theorem akZ(cZ:Nat×Nat->Int){f B:Nat×Nat}(R:f.2<8)(a8:B.2<8):o4 (hc (f.1,f.2,cZ f)) (hc (B.1,B.2,cZ B))=ma (wN f) (wN B):=by
 have m:∀h b:Nat,ma h b=decide (h<b):=λh b=>by cases c:ma h b with
  |true=>exact(decide_eq_true<|mI c).symm|false=>exact(decide_eq_false λe=>by rw[show ma h b=Z from De e]at c;exact PS c).symm
 refine V (m ..) ?_;unfold hc o4
 dsimp only;cases af:((f.1:Int)==(B.1:Int))with
 |false=>
  have af:f.1≠B.1:=λe=>by replace af:=e▸af;simp at af
  show decide _=decide _
  congr 1;unfold wN;exact propext<|akY R a8 af|true=>
  have af:f.1=B.1:=by have:=eq_of_beq af;exact rr [1,-1] [1,1] (.e .x .y) [.eG (.c .x)<|.c .y] U this
  show o4 [(f.2:Int),cZ f] [(B.2:Int),cZ B]=_;unfold o4;cases ap:((f.2:Int)==(B.2:Int))with
  |false=>
   have ap:f.2≠B.2:=λe=>by replace ap:=e▸ap;simp at ap
   show decide _=decide _
   congr 1;unfold wN;apply propext;exact⟨λbP=>ph [1,8,1] (.t (.a (.r .x 8) .y)<|.a (.r .z 8) .w) [.e .x .z,.b_ (.c .y)<|.c .w] U af bP,λbP=>ph [1,-8,1] (.b_ (.c .x)<|.c .y) [.e .z .w,.t (.a (.r .z 8) .x)<|.a (.r .w 8) .y] U af bP⟩|true=>
   have ap:f.2=B.2:=by have:=eq_of_beq ap;exact rr [1,-1] [1,1] (.e .x .y) [.eG (.c .x)<|.c .y] U this
   have i:f=B:=H2 af ap;subst i;show o4 [cZ f] [cZ f]=_;unfold o4 o4;refine V (beq_self_eq_true ..) ?_;simp
theorem V9{aG:List<|List Int}(c:zm (aG.map hg)=Z):wK aG (oq aG):=by
 unfold zm at c;simp only[h_]at c;obtain⟨⟨⟨af,ap⟩,bk⟩,cx⟩:=c;have af:=mI af;have ap:=mI ap;have bk:=mI bk;rw[d3]at af;have cL:(mC<|aG.map hg).length=(k3 aG).length:=by rw[V7,d3];exact d3 ..
 have MS:0<(o8<|aG.map hg).length:=by have:(mC<|aG.map hg).length=(o8<|aG.map hg).length:=d3 ..;exact c3 (.t (.n 0) .x) [.l (.n 2) .y,.e .y .x] U ap this
 cases L:uo (Gs<|mC<|aG.map hg) (mC<|aG.map hg).length (c2 (mC<|aG.map hg).length)with|none=>replace cx:=L▸cx;exact iV cx|some bn=>
  replace cx:=L▸cx
  dsimp only at cx;rw[h_]at cx;obtain⟨ef,fL⟩:=cx;have ef:=mI ef;have fL:=eq_of_beq fL;have wF:∀k,pO aG k=(λf:Nat×Nat=>(f.1,f.2,ux aG f)) ((o8<|aG.map hg).getD k<|(o8<|aG.map hg).headD (0,0)):=λk=>by unfold pO;refine V (V7 ..) ?_;exact map_getD MS k
  have MT:∀k,(mC<|aG.map hg).getD k ((mC<|aG.map hg).headD 0)=wN ((o8<|aG.map hg).getD k<|(o8<|aG.map hg).headD (0,0)):=λk=>map_getD MS k;have ay:∀k,((o8<|aG.map hg).getD k<|(o8<|aG.map hg).headD (0,0)).2<aG.length:=λk=>by have:=akX<|getD_mem (z:=(0,0)) MS k;rwa[d3]at this
  refine⟨Gs<|mC<|aG.map hg,bn,by exact gd [1,1,-1] (.l .x<|.n 1048576) [.l .y<|.n 5000,.e .y .x] U bk cL,by exact c3 (.l (.n 2) .x) [.l (.n 2) .y,.e .y .x] U ap cL,by exact cy (.l .x<|.n 1048576) [.l .x<|.n 5000] U ef,λk aD=>?_,by refine b' cL ?_;exact L,?_⟩
  .unfold Gs;refine V (wF ..)<|V (wF ..)<|V (MT ..)<|V (MT ..) ?_;exact akZ (ux aG) (cw (ay k) af)<|cw (ay aD) af
  .have bG:(bn.map λk=>(pO aG k).2.2)=(bn.map λk=>(mC<|aG.map hg).getD k<|(mC<|aG.map hg).headD 0).map λg=>ux aG (g/8,g%8):=by
    refine V jY ?_;refine rf λk w=>?_;refine V (wF ..) ?_
    dsimp only[Pe];refine V (MT ..) ?_;have:=ay k;unfold wN
    congr 1;refine H2 ?_ ?_
    .dsimp only;exact Ap [8,1,1,1,0] [8,0,0,0,1] (.e .x .y) [.l .z<|.n 8,.t .w .z,.l (.m 8 .y)<|.a (.r .x 8) .w,.t (.a (.r .x 8) .w)<|.a (.m 8 .y)<|.n 8] U af this (qd _ 8)<|qe _ 7
    .exact(V8<|cw this af).symm
   refine V bG<|V fL ?_;unfold V5 oq;refine V (jY ..)<|V HG ?_;refine Gt λl w=>?_;refine V HG<|V Dq<|V (HF ..) ?_;have cr:(aG.flatMap λb=>if l<b.length then[b.getD l 0]else[])=aG.zipIdx.flatMap λr=>if l<r.1.length then[r.1.getD l 0]else[]:=by conv=>lhs;rw[<-List.zipIdx_map_fst 0 aG,HF]
   refine V cr ?_;refine Gt λr aZ=>?_;have V_:r.2<aG.length:=(k'.mp<|HE.mp aZ).1
   dsimp only[Prod.map,id];split
   .show[ux aG ((l*8+r.2)/8,(l*8+r.2)%8)]=_;unfold ux
    dsimp only;exact V (V8<|cw V_ af)<|V (show(l*8+r.2)/8=l by exact Ap [8,0,0,0,1] [8,1,1,1,0] (.e .x .y) [.l .z<|.n 8,.t .w .z,.l (.m 8 .x)<|.a (.r .y 8) .w,.t (.a (.r .y 8) .w)<|.a (.m 8 .x)<|.n 8] U af V_ (qd _ 8)<|qe _ 7)<|V (V6 aZ) U
   .rfl
noncomputable abbrev o9:OpenLaw:=H0
set_option tactic.hygienic true in theorem ak0{c:eH}{k:Nat}{o:Obj}(i:c.get? k=W o):hZ o=W o:=by
 unfold Heap.get? at i;split at i
 .cases i
 .rename_i f;obtain⟨g,z,qG,bx⟩:=o;cases qG<;>first|rfl|exact absurd i<|f _ _ _
theorem ak1(H:cc)(T:Nat->Obj)(x:Nat)(au:fQ)(aI:(oC H).life=au):∀b o,(oC H).get? b=W o->¬theTopsOwn (oC H) b->(nF H T x au).get? b=W o:=by
 intro b o m ay;have cP:b<11:=by have:=dB m;exact this
 have i:=congrArg (λD=>D[b]?)<|aeU H T x;simp only[fk,mJ cP,tz,HH]at i;have bk:(b==l')=a1:=beq_false_of_ne λe=>ay<|.inl e;have cx:(b==pW)=a1:=beq_false_of_ne λe=>ay<|.inr<|.inl e;rw[bk,cx]at i;simp only[Bool.or_self,cond_false]at i;rw[Tp m]at i;have Av:b<2011:=zR cP (by decide);exact(sk Av i).trans<|ak0 m
theorem ak2{os:nd}{a:ag}(g7:l1 j os a)(L:∃t E,schedN (tp table) ao j t (.single (kY j pe os)<|xn ao)=.running (.single a E)/\through E=Z)(aI:a.heap.life=(kY j pe os).heap.life):TopRan ao j (kY j pe os) a:=by
 refine gJ λw bI=>?_;refine br g7.1 λaY bP cJ=>?_;refine lh bP λT x cK=>?_;refine bI ?_;rw[cK]at cJ;refine⟨L,aI,Pa g7.3,?_,?_,?_,?_,?_,?_,?_,?_,?_⟩
 .intro b o m ay;rw[cJ];exact ak1 _ _ _ _ aI.symm b o m ay
 .rw[cJ];exact Heap.accountedI_of_ok<|aeV ..
 .rw[cJ];exact statics_of_ok<|aeW ..
 .rw[cJ];exact Pin.keysAreStrs_of<|BH ..
 .rw[cJ];exact λf R=>(Pin.builtinOf_eq (K' ..) f).trans<|Heap.of_bltView (K' ..) (aeY ..) f R
 .rw[cJ];refine H9 (Heap.bmainOk_spec<|ae2 j.params T x a.heap.life) λyL kB h w g z I w=>?_;exact⟨yL,kB,(Pf (BH ..) _).trans h,g,z,I⟩
 .rw[g7.2];intro s aK;simp at aK
 .rw[cJ];exact names_of_bound<|ae0 ..
 .rw[cJ];exact laid_of_kept<|ae1 ..
theorem V'(H:cc)(T:Nat->Obj)(x:Nat)(au:fQ):(nF H T x au).nsMap mainGlobals "law"=W (.ref 2010):=by cbv
theorem ak3(H:cc)(T:Nat->Obj)(x:Nat)(au:fQ):(nF H T x au).get? 2010=W (E2 ao H x):=by cbv
theorem ak4(H:cc)(T:Nat->Obj)(x:Nat)(au:fQ):isTheDefsW ao (nF H T x au) "law":=by
 refine⟨2010,_,_,sT<|cj ao 28,gC<|cj ao 28,fa<|cj ao 28,(Pf (BH ..) _).trans<|V' ..,ak3 ..,U,?_,U,U,U,U,U,U,U,U,?_⟩
 .cbv
 .exact⟨.inl ⟨by cbv,U⟩,[],by cbv,.inl ⟨U,U⟩⟩
theorem Wa:H0.wellSaid=Z:=by cbv
theorem ak5{g:ClaimW}{MU:List al->Sem Fin}{j:b7}{a:ag}{ak6:aq->Prop}{dJ:Prop}{MV:eH->Prop}(ab:a.asleep)(ak7:a.gens=#[])(ak8:∀f3,g.pre f3=Z->WData.layableAll f3=Z->∀sa:List zA->List zA,(∀D,(sa D).Perm D)->∃O an,Ag g.records (zH a.heap) j.params sa f3 a=W (O,an)/\jZ (cq g.prog j) rV (MU O) (λg' w v=>∃I,g'=.done I/\(g.Ends a f3 O an (.ok I) v/\v.os=a.os/\Ae v.gens/\MV v.heap)) (λw w w=>False) default an):g.CallFrom (λO=>⟨MU O,.builtin "claim.caller" {},default,[]⟩) j ak6 dJ MV a:=by
 intro f3 BF MX sa Gu;refine gc (ak8 f3 BF MX sa Gu) λO an Gw za=>?_;have kc:=layAllW_rest _ _ _ Gw;refine WZ (wp_halts_full (M:=cq g.prog j) (c:=.builtin "claim.caller" {}) (t:=MU O) (p:=default) (s:=an) (R:=λy v=>g.Ends a f3 O an y v/\v.os=a.os/\MV v.heap) (H3 kc.2.2.2 ab) (md _ _ _ (by rintro g' r v⟨I,rfl,af,ap,bk,cx⟩;exact⟨⟨af,ap,cx⟩,leftWithCleanup_false_of_bare bk⟩) (λw w w c=>c.elim) _ _ za)) λl y el v ak9 KS ak_ AP qK MY=>?_;refine kK (Shared.forget_eq ak_) λWb w w mx w=>?_;have AP:=AP.congr Wb;replace MY:=Wb▸MY;replace qK:=mx▸qK;refine(tI O an Gw<|Ps l _ v ak9 ?_ (λw k f R=>by replace R:=ak7▸R;trivial) MY (V ((runN_life _ _ _ KS).trans kc.2.2.2) U)<|Pa qK);rcases AP with⟨u,rfl,MZ,M0,M1,M2,M3⟩|⟨i,kB,ak',rfl,MZ,M0,M1,M2,M3⟩
 .exact .inl<|Xb u U MZ M0 M1 (λb o B w=>M2 b o B) M3
 .exact .inr<|Ps i kB ak' U MZ M0 M1 M2 λb o B w=>M3 b o B
theorem Wc:∀(aH:List Int)(a:ag),∃O,uU O aH/\Ag [] kP H sa (aH.map .int) a=W (O,{a with toks:=a.toks+aH.length})
 |[],a=>(dj [] .nil U)|f::aH,a=>by
  obtain⟨O,aM,i⟩:=Wc aH {a with toks:=a.toks+1};refine(dj (.int f a.toks::O) (.cons _ _ aM)<|V iz<|V (layAllW.eq_2 ..)<|V (layW.eq_3 ..) ?_)
  dsimp only;refine V i ?_
  dsimp only;exact V iy<|V (uL ..)<|V (w8 1 ..) U
theorem ala(c:WShape.hasItems [] aH .int=Z):∃aw:List Int,aH=aw.map .int:=by induction aH with|nil=>exact⟨[],U⟩|cons f aH a2=>replace c:=l8.mp c;refine c5 (a2 c.2) λaw bP=>?_;obtain rfl:=bP;cases f with|int k=>exact⟨k::aw,U⟩|_=>exact iV c.1
theorem alb(c:o9.row.toRowW.claim.pre f3=Z):∃aH:List Int,f3=[.list<|aH.map .int]/\aH.length<=63:=by refine cY (l8.mp c) λaf ap=>?_;cases f3 with|nil=>rw[Pg]at af;exact iV af|cons f y=>refine cY (l8.mp af) λbk cx=>?_;cases y with|cons B y=>rw[Pg]at cx;exact iV cx|nil=>cases f with
   |list aH=>
    refine c5 (ala<|(sb _).symm.trans bk) λaw gX=>?_;obtain rfl:=gX;refine(dj aw U ?_);change WTm.holds [] (.and (.not<|.lt (.lit<|.int 63)<|.len<|.arg 0)<|.lit<|.bool Z) {args:=[.list<|aw.map .int]}=Z at ap;by_cases az:aw.length<=63
    .exact az
    .exfalso;have:(63:Int)<(aw.length:Int):=cy (.b_ (.n 63)<|.c .x) [.nl .x<|.n 63] U az;have i:less? (WData.int 63) (WData.int aw.length)=W Z:=by rw[less?,Num.less?];simp;omega
     simp[WTm.holds,WTm.value,i]at ap|_=>exact iV bk
noncomputable abbrev k4(a:ag)(O:List al)(x:Nat):Shared:={a with heap:=a.heap.push {cls:=.type "list",data:=.seq O.toArray},toks:=x}
def Wd:Prop:=∀(j:b7)(a:ag)(os:nd),l1 j os a->∀(aH:List Int)(O:List al)(x:Nat),aH.length<=63->uU O aH->Y ao j callerA (er (.ref 2010) [.ref 2011] []) (λu v=>u=.bool Z/\v.os=a.os/\Ae v.gens/\OldK (k4 a O x).heap v.heap) (k4 a O x)
theorem alc(f3 i9:List WData):o9.row.toRowW.claim.post f3 (.bool Z) i9=Z:=by cbv
theorem ald:ao.bare:=⟨by cbv,by cbv,by cbv,by cbv,by cbv,by cbv⟩
theorem We:o9.row.toRowW.promised:=⟨[.list []],by cbv,by cbv⟩
theorem ale:opensWell ao=Z:=by cbv
theorem alf(c:Wd):H0.Holds:=by
 refine⟨Wa,row_said Wa,We,⟨ald,ale,U⟩,We.witness,λj=>fx (aeS j) λos ab ax alg=>?_⟩;refine⟨(oE _ ax),λa L=>?_⟩;obtain rfl:=alg a L;refine(ro _ (Tw _) U<|fx (aeT j os ab) λa g7 alh aI=>?_);refine(W' a (ak2 g7 alh aI) ?_ (λf R=>(dt R)) (λf R=>(dt R)) ?_)
 .intro t ay;obtain rfl:t=ho "law":=((by simpa using ay:o9.row.pinned=Z/\t=o9.row.name).2);exact br g7.1 λaY gF cJ=>lh gF λT x cK=>V cJ<|cK.symm▸ak4 ..
 .refine ak5 (g:=o9.row.toRowW.claim) (H3 aI ab) g7.2 λf3 BF MX sa Gu=>br (alb BF) λaH hq R=>?_;obtain rfl:=hq;refine br (Wc (kP:=zH a.heap) (H:=j.params) (sa:=sa) aH a) λO aM Gw=>?_;have dW:a.heap.objs.size=2011:=by exact br g7.1 λaY w cJ=>V cJ<|tF ..
  have Gx:Ag [] (zH a.heap) j.params sa [.list<|aH.map .int] a=W ([.ref 2011],k4 a O<|a.toks+aH.length):=by
   rw[Ag,layW,Gw]
   dsimp only;rw[Ag,dW]
  refine(tI _ _ Gx ?_);have mn:(k4 a O<|a.toks+aH.length).heap.Ns l' (a.heap.nsMap l'):=by
   have:a.heap.Ns l' (a.heap.nsMap l'):=by exact br g7.1 λaY iZ cJ=>lh iZ λT x cK=>V cJ<|cK.symm▸H4 (BH ..)
   exact this.at' λo i=>eD _ i
  have ali:a.heap.nsMap l' "law"=W (.ref 2010):=by exact br g7.1 λaY jK cJ=>lh jK λT x cK=>V cJ<|cK.symm▸V' ..
  have cF:Y ao j callerA (do match<-nsGet l' "law"with
   |some I=>do ret<|<-er I [.ref 2011]|none=>unsupported "claim.caller:no-such-global") (λg' v=>∃I,g'=.done I/\(o9.row.toRowW.claim.Ends a [.list<|aH.map .int] [.ref 2011] (k4 a O<|a.toks+aH.length) (.ok I) v/\v.os=a.os/\Ae v.gens/\(o9.row.writes=Z->namesKept o9.row.toRowW.claim.prog o9.row.keeps a.heap v.heap/\∀f∈o9.row.toRowW.claim.records,∀h,zH a.heap f.1=W h->recordClass v.heap h f.1 (f.2.map (·.1))=Z))) (k4 a O<|a.toks+aH.length):=by
   refine du<|wpAny_nsGet mn<|Y.eq (V ali U) ?_;refine hi (c j a os g7 aH O _ R aM) λu v ql=>Y.pure<|dj _ U<|lg ql λkt aP m aS=>V kt ?_;refine fx (reads_layAllW Gu _ _ _ Gx MX _ λw w i=>i) λec yS pi xQ=>?_;have ch:Laid [] j a (k4 a O<|a.toks+aH.length) [.list<|aH.map .int] [.ref 2011] ec:=⟨(dj sa Gu Gx),yS,pi,xQ,layAllW_keeps _ _ _ Gx,g7.2,U⟩;have s:GoodWG o9.row.toRowW.claim (zH a.heap) (ExcName.means a.heap) [.list<|aH.map .int] (k4 a O<|a.toks+aH.length) (.ok<|.ret<|.bool Z) v:=⟨.inl<|Xc (.bool Z) (.bool Z) [] U (λw=>U) (.bool _) (alc _ _) λw=>⟨rd,aW⟩,aS,aP,m⟩;have G:=s.laid (c:=o9.row.toRowW.claim) U U (ident_freeW U U U) ch;exact⟨G.1,G.2.1,G.2.2,λe=>iV e⟩
  exact cF rV default caller_in (by cbv) aW
section
variable{j:b7}{a:ag}{T:Nat->Obj}{x:Nat}{au:fQ}{os:nd}
theorem alj(as:l1 j os a):∃T x,dy j a T x a.heap.life/\a.heap=nF j.params T x a.heap.life:=by
 have dW:a.heap.objs.size=2011:=by exact br as.1 λaY w cJ=>V cJ<|tF ..
 refine br as.1 λaY bP cJ=>lh bP λT x cK=>?_;have i:a.heap=nF j.params T x a.heap.life:=by replace cJ:=cK▸cJ;exact cJ
 refine(tI T x ⟨λb o e=>?_,mF dW.symm,as.4⟩ i);rw[BI]at e;exact V i e
theorem CC(c:dy j aE T x au)(aP:(em j.params x).get h=W o)(kc:hZ o=W o)(bl:o.data=.func bi)(m:bi.body=.stmts ep)(a5:bi.code=.ref e)(Lj:(em j.params x).get e=W rI)(alk:hZ rI=W rI)(aM:rI.data=.fields O)(af:O[1]?=W (.str bi.qualname E))(a7:h≠1892/\h≠1940)(alm:e≠1892/\e≠1940)(L:(bi.scope.isCoroutine||bi.scope.isGenerator)=a1)(aS:bi.scope.kind=.function)(bg:(bi.scope.names.all λf=>f.2 !=.free)=Z)(az:bi.closure=[])(aK:bi.globals=3)(n9:bi.builtins=0):vv (a3 j aE T x au) h bi ep:=by have sub:=v6 c;rw[GC]at L;refine⟨(dj o (sub _ _ _ aP kc) bl),od _ a7,L.1,L.2,m,(Xe e rI O E a5 (od _ alm) (sub _ _ _ Lj alk) aM af),aS,λf R=>?_,az,aK,n9⟩;have:=hn.mp bg f R;simpa using this
@[elab_as_elim]theorem Gy{bf:Type _}{H:List bf->Prop}(D:List bf)(c:D.length=1)(af:∀f,H [f]):H D:=by cases D with|nil=>exact nomatch c|cons f y=>cases y with|nil=>exact af f|cons B y=>exact nomatch c
@[elab_as_elim]theorem Wf{bf:Type _}{H:List bf->Prop}(D:List bf)(c:D.length=2)(ap:∀f B,H [f,B]):H D:=by cases D with|nil=>exact nomatch c|cons f y=>exact Gy y (uW c) λB=>ap f B
@[elab_as_elim]theorem aln{bf:Type _}{H:List bf->Prop}(D:List bf)(c:D.length=3)(bk:∀f B G,H [f,B,G]):H D:=by cases D with|nil=>exact nomatch c|cons f y=>exact Wf y (uW c) λB G=>bk f B G
noncomputable def CD(H:cc)(x:Nat):FuncData:=fdOf<|E2 ao H x
theorem alo(a:ag)(H:cc)(x:Nat)(f:al):iO a (CD H x) ⟨[f],[]⟩ [("script",f)]:=p3 (by cbv)
theorem alp(c:dy j aE T x au)(b:fh (a3 j aE T x au) a):FnAt a 2010 (CD j.params x) (gC<|cj ao 28):=wj (e:=2009) (E:=x+1026) c b (show(em j.params x).get 2010=W (E2 ao j.params x)by cbv) U (by cbv) (by cbv) (show(em j.params x).get 2009=W (SI ao j.params x)by cbv) U (by cbv) (by cbv) (by cbv) (by cbv) (by cbv) (by cbv)
theorem alq:(a3 j aE T x au).gl "_law_free"=W (.ref 1983):=by cbv
theorem alr(a:ag)(H:cc)(x:Nat)(f:al):iO a (fdOf<|EX ao H x) ⟨[f],[]⟩ [("version",f)]:=p3 (by cbv)
theorem als:(a3 j aE T x au).gl "_law_doubled"=W (.ref 1990):=by cbv
theorem alt(a:ag)(H:cc)(x:Nat)(f B:al):iO a (fdOf<|EY ao H x) ⟨[f,B],[]⟩ [("lanes",f),("ones",B)]:=p3 (by cbv)
theorem alu:(a3 j aE T x au).gl "_law_multiples"=W (.ref 1995):=by cbv
theorem alv(a:ag)(H:cc)(x:Nat)(f:al):iO a (fdOf<|EZ ao H x) ⟨[f],[]⟩ [("checks",f)]:=p3 (by cbv)
theorem alw:(a3 j aE T x au).gl "_law_rest"=W (.ref 2000):=by cbv
theorem alx(a:ag)(H:cc)(x:Nat)(f B G:al):iO a (fdOf<|E0 ao H x) ⟨[f,B,G],[]⟩ [("words",f),("checks",B),("multiples",G)]:=p3 (by cbv)
theorem aly:(a3 j aE T x au).gl "_law_woven"=W (.ref 2005):=by cbv
theorem alz(a:ag)(H:cc)(x:Nat)(f:al):iO a (fdOf<|E1 ao H x) ⟨[f],[]⟩ [("blocks",f)]:=p3 (by cbv)
theorem alA:(a3 j aE T x au).gl "_law_checks"=W (.ref 1971):=by cbv
theorem alB:(a3 j aE T x au).gl "_law_blocks"=W (.ref 1976):=by cbv
theorem alC:(a3 j aE T x au).gl "min"=W (.builtin "min"):=by cbv
theorem alD:(a3 j aE T x au).gl "sum"=W (.builtin "sum"):=by cbv
theorem alE:(a3 j aE T x au).gl "sorted"=W (.builtin "sorted"):=by cbv
theorem M4(aO:dy j aE T x au):∀{ch:List<|List Int}{q2:List<|Nat×Nat},ch.length=q2.length->(∀(k:Nat)(D:List Int)(y:Nat×Nat),ch[k]?=W D->q2[k]?=W y->(y.1≠1892/\y.1≠1940)/\(em j.params x).get y.1=W (fs "tuple" 0<|ke x y.2 D))->bW aE.heap (a3 j aE T x au).tabs (ch.map k1) (q2.map λy=>.ref y.1)|[],[],_,_=>by show bW _ _ [] [];exact U|[],_::_,c,_=>nomatch c|_::_,[],c,_=>nomatch c|D::ch,y::q2,c,av=>by obtain⟨af,ap⟩:=av 0 D y U U;exact jg _ _ U (p_ y.1 _ 0 U (od _ af) (v6 aO _ _ _ ap U)<|yB D y.2)<|M4 aO (uW c) λk oX fV bG cr=>av (k+1) oX fV bG cr
theorem Wg{ch:List<|List Int}{q2:List<|Nat×Nat}{aY:BT}{x:Nat}(c:(ch.zip q2).map (λe=>aY.get e.2.1)=(ch.zip q2).map λe=>W<|fs "tuple" 0<|ke x e.2.2 e.1)(ap:∀y∈q2,y.1≠1892/\y.1≠1940):∀(k:Nat)(D:List Int)(y:Nat×Nat),ch[k]?=W D->q2[k]?=W y->(y.1≠1892/\y.1≠1940)/\aY.get y.1=W (fs "tuple" 0<|ke x y.2 D):=λk D y bG cr=>⟨ap y<|ox cr,FC c (D,y)<|ox (i:=k) (by refine g2 (Oa) ?_;exact⟨bG,cr⟩)⟩
theorem alF(aO:dy j aE T x au):r8 (a3 j aE T x au)where
 top9:=ug aO
 So:=⟨_,alA,p_ 1971 _ 0 U (od _ bd) (v6 aO 1971 _ _ (show(em j.params x).get 1971=W (SB ao j.params x)by cbv) U)<|M4 aO (ch:=Cs) (q2:=[(1967,930),(1968,937),(1969,944),(1970,951)]) U<|Wg (by cbv) bd⟩
 Sp:=⟨_,alB,p_ 1976 _ 0 U (od _ bd) (v6 aO 1976 _ _ (show(em j.params x).get 1976=W (SC ao j.params x)by cbv) U)<|M4 aO (ch:=Ct) (q2:=[(1972,959),(1973,966),(1974,973),(1975,980)]) U<|Wg (by cbv) bd⟩
 min:=alC
 sum:=alD
 sorted:=alE
 Sq:=⟨1983,fdOf<|EX ao j.params x,alq,CC (e:=1982) (E:=x+989) aO (show(em j.params x).get 1983=W (EX ao j.params x)by cbv) U U (by cbv) (by cbv) (show(em j.params x).get 1982=W (SD ao j.params x)by cbv) U U (by cbv) bd bd (by cbv) (by cbv) (by cbv) (by cbv) (by cbv) (by cbv),by cbv,λa aR aI=>by exact Gy aR aI λf=>alr a j.params x f⟩
 JY:=⟨1990,fdOf<|EY ao j.params x,als,CC (e:=1989) (E:=x+999) aO (show(em j.params x).get 1990=W (EY ao j.params x)by cbv) U U (by cbv) (by cbv) (show(em j.params x).get 1989=W (SE ao j.params x)by cbv) U U (by cbv) bd bd (by cbv) (by cbv) (by cbv) (by cbv) (by cbv) (by cbv),by cbv,λa aR aI=>by exact Wf aR aI λf B=>alt a j.params x f B⟩
 Sr:=⟨1995,fdOf<|EZ ao j.params x,alu,CC (e:=1994) (E:=x+1008) aO (show(em j.params x).get 1995=W (EZ ao j.params x)by cbv) U U (by cbv) (by cbv) (show(em j.params x).get 1994=W (SF ao j.params x)by cbv) U U (by cbv) bd bd (by cbv) (by cbv) (by cbv) (by cbv) (by cbv) (by cbv),by cbv,λa aR aI=>by exact Gy aR aI λf=>alv a j.params x f⟩
 Ss:=⟨2000,fdOf<|E0 ao j.params x,alw,CC (e:=1999) (E:=x+1014) aO (show(em j.params x).get 2000=W (E0 ao j.params x)by cbv) U U (by cbv) (by cbv) (show(em j.params x).get 1999=W (SG ao j.params x)by cbv) U U (by cbv) bd bd (by cbv) (by cbv) (by cbv) (by cbv) (by cbv) (by cbv),by cbv,λa aR aI=>by exact aln aR aI λf B G=>alx a j.params x f B G⟩
 JZ:=⟨2005,fdOf<|E1 ao j.params x,aly,CC (e:=2004) (E:=x+1020) aO (show(em j.params x).get 2005=W (E1 ao j.params x)by cbv) U U (by cbv) (by cbv) (show(em j.params x).get 2004=W (SH ao j.params x)by cbv) U U (by cbv) bd bd (by cbv) (by cbv) (by cbv) (by cbv) (by cbv) (by cbv),by cbv,λa aR aI=>by exact Gy aR aI λf=>alz a j.params x f⟩
theorem alG(H:cc)(T:Nat->Obj)(x:Nat):(kD ao H T x).get 1940=W (SA ao H x):=by cbv
theorem alH(H:cc)(T:Nat->Obj)(x:Nat):(kD ao H T x).get 1892=W (Su ao H x):=by cbv
theorem alI(H:cc)(T:Nat->Obj)(x:Nat):(kD ao H T x).get 1944=W (KG ao H x):=by cbv
theorem alJ(H:cc)(T:Nat->Obj)(x:Nat):(kD ao H T x).get 1894=W (KE ao H x):=by cbv
theorem Wh(c:dy j aE T x au):TabAt aE.heap 1944 1940 #[]:=by have CF:=Fy c _ _ _ (alI j.params T x) U;have CI:=Fy c _ _ _ (alG j.params T x) U;exact⟨⟨_,_,_,_,_,_,_,_,_,_,CF,U,U,U,U,U,U,CI,U,trivial,bd⟩,⟨(Ib _ _ CF U U U),CI⟩⟩
theorem Wi(c:dy j aE T x au):TabAt aE.heap 1894 1892 #[]:=by have CF:=Fy c _ _ _ (alJ j.params T x) U;have CI:=Fy c _ _ _ (alH j.params T x) U;exact⟨⟨_,_,_,_,_,_,_,_,_,_,CF,U,U,U,U,U,U,CI,U,trivial,bd⟩,⟨(Ib _ _ CF U U U),CI⟩⟩
def Wj(z:Nat):Prop:=∀(j:b7)(aE:ag)(T:Nat->Obj)(x:Nat)(au:fQ),dy j aE T x au->∀h9:List Int,h9.length<=63->∀aV u:Nat,aV<4->1<=u->u<8->Nonempty (V0 j aE T x au z aV u<|pP<|r_ h9)
theorem alK(ac:uU O aw):bW c p (aw.map bh.int) O:=by induction ac with|nil=>show bW c p [] [];exact U|cons t E _ a2=>exact(jg _ _ U ((oE E U)) a2)
theorem alL(d9:Wj 0):Wd:=by
 intro j a os as aH O fj Cr aM;refine gc (alj as) λT x aO w=>?_;have dW:a.heap.objs.size=2011:=by exact br as.1 λaY w cJ=>V cJ<|tF ..
 have eB:a9 [] [] a (k4 a O fj):=bJ.push a _ fj;have Wk:fh (a3 j a T x a.heap.life) (k4 a O fj):=⟨eB.mono aW aW,λB a8 o fz bG cr eE=>⟨#[],by exact HO.symm▸eE▸eB.all _ _ bG⟩⟩;have alM:(k4 a O fj).heap.get? 2011=W {cls:=.type "list",data:=.seq O.toArray}:=by have:(k4 a O fj).heap.get? a.heap.objs.size=W {cls:=.type "list",data:=.seq O.toArray}:=fc _ U;rwa[dW]at this
 have BS:(k4 a O fj).heap.objs.size=2012:=by exact V (fZ ..)<|V dW U
 have ax:eK (0+3+1) callerA:=⟨U,bd,bd⟩;have alN:∀E∈(a3 j a T x a.heap.life).tabs,E∈([1892,1940]:List aq):=λE bC=>by rcases lD.mp bC with rfl|rfl<;>decide
 refine Rq (g:=a3 j a T x a.heap.life) (z:=0+3) (p:=[1892,1940]) (S:=2012) (eb:=["script"]) (ec:=[(.b2,cS aH)]) (aR:=[.ref 2011]) (io aO) ax (alp aO Wk) (by cbv) (by cbv) alN (λh a7=>.inl<|lD.mpr (by simpa using a7)) (λf R=>by
  revert f;refine g4 ?_ ?_
  .decide
  .intro f R;refine V (bm R) ?_;decide) (mF BS.symm) Wk ⟨_,_,U,?_,U⟩ U (alo _ j.params x<|.ref 2011) (by cbv) λv dP bX ew bn gf=>?_
 .show cf _ _ (.lst _) _;exact⟨2011,O.toArray,0,U,bd,alM,alK aM⟩
 have i6:(cX (CD j.params x) 2010<|k4 a O fj).scope=fa (cj ao 28):=by cbv
 generalize callerA.deeper (cX (CD j.params x) 2010<|k4 a O fj)=kf at*;generalize cX (CD j.params x) 2010 (k4 a O fj)=ed at*;have hP:∀b o,a.heap.get? b=W o->v.heap.get? b=W o:=λb o i=>bX.all _ _<|eB.all _ _ i;have sy:∀b∈b4 ed,2012<=b:=λb m=>BS▸dP b m;have Wl:∀t:Nat,t<2012->t≠1892->t≠1940->t∉b4 ed++([1892,1940]:List aq):=λt ay af ap e=>bN e (λe=>absurd (sy t e)<|Nat.not_le.mpr ay) λe=>dH e (λe=>af e) λe=>ap<|bm e;have Wm:∀t:Nat,(t=1892\/t=1940)->t∈b4 ed++([1892,1940]:List aq)/\t∉([]:List aq)/\t∉b4 ed/\(t∈(a3 j a T x a.heap.life).tabs\/(a3 j a T x a.heap.life).s0.heap.objs.size<=t)/\t<v.heap.objs.size:=λt ay=>by
  have cP:t<2012:=by rcases ay with rfl|rfl<;>decide
  refine⟨bO (by rcases ay with rfl|rfl<;>decide),(λe=>dt e),λe=>absurd (sy t e)<|Nat.not_le.mpr cP,.inl<|lD.mpr ay,cw (BS▸cP) bX.2⟩
 have ac:((hU 1944 1940).both<|lL aQ).At (a3 j a T x a.heap.life) ed (b4 ed++[1892,1940]) [] v:=by refine Inv.At.both ⟨⟨Wl 1944 bd bd bd,_,((Wh aO).keeps hP)⟩,λb m=>Wm b<|.inr<|bm m,aW⟩ ⟨⟨Wl 1894 bd bd bd,_,((Wi aO).keeps hP),U⟩,λb m=>Wm b<|.inl<|bm m,aW⟩
 refine Y.mono (akR (z:=0) (q:=kf) (o:=aQ) aO (alF aO) aH Cr (d9 j a T x a.heap.life aO aH Cr) ed (b4 ed++[1892,1940]) [] [1892,1940] _ v gf i6 ew bn ac) ?_;rintro I el bP;refine bP.hO λcO bU bu cW c0 b1 cB m eh dv w=>?_;obtain rfl:=cB;obtain⟨a4,rfl,av⟩:=dv;refine V av ?_;have lC:a9 [1892,1940] [] (k4 a O fj) el:=(bX.mono aW aW).hj eh.6 (λb m=>by
  refine bN m (λe=>?_) λe=>?_
  .refine bN e (λe=>?_) λe=>?_
   .exact dt e
   .exact .inr<|gz<|dP b e
  .refine bN e (λe=>?_) λe=>?_
   .exact .inl (by refine V (bm e) ?_;decide)
   .exact .inl (by refine V (bm e) ?_;decide)) λk gp=>by rcases mb.mp gp with e|e<;>exact dt e
 refine⟨_,U,U,lC.6,lC.5 ?_,?_⟩
 .intro B a8;have:(k4 a O fj).gens=#[]:=as.2;replace a8:=this▸a8;simp at a8
 have table:∀b o,(b=1892\/b=1940)->(k4 a O fj).heap.get? b=W o->isCodeTable (k4 a O fj).heap b/\o.cls=.none/\∃fz d7,o.data=.fields fz/\el.heap.get? b=W {o with data:=.fields<|fz++d7}:=by
  intro b o dR i;have pi:b∈(a3 j a T x a.heap.life).tabs:=lD.mpr dR;rcases dR with rfl|rfl
  .have E:=(Wi aO);have bG:=E.2.2;have cr:=eB.all _ _ bG;replace cr:=i▸cr;cases d4 cr;exact c5 (m.2 1892 pi _ #[] bG U U) λd7 eE=>⟨(E.keeps eB.all).2.isCodeTable,U,#[],d7,U,eE⟩
  .have E:=(Wh aO);have bG:=E.2.2;have cr:=eB.all _ _ bG;replace cr:=i▸cr;cases d4 cr;exact c5 (m.2 1940 pi _ #[] bG U U) λd7 eE=>⟨(E.keeps eB.all).2.isCodeTable,U,#[],d7,U,eE⟩
 refine⟨λb o i=>?_,λb o i=>?_⟩
 .by_cases dR:b=1892\/b=1940
  .exact .inr<|.inl<|table b o dR i
  .exact .inl<|lC.1 _ _ (λe=>dR (by simpa using e)) i
 .by_cases dR:b=1892\/b=1940
  .exact eQ (table b o dR i) λw w ek=>gc ek λfz d7 w eE=>⟨_,eE⟩
  .exact⟨o,lC.1 _ _ (λe=>dR (by simpa using e)) i⟩
end
noncomputable def Wn(u:Nat):Nat:=(m' u).toNat/8
noncomputable def uy(aV u:Nat):Nat:=Wn u/fJ aV u-ey aV u
noncomputable def zn(aV u:Nat):Nat:=Wn u%fJ aV u
noncomputable def hW(aV u k:Nat):Nat:=uy aV u+(bif hY (fJ aV u-zn aV u) k then 1 else 0)
noncomputable def pR(aV u k:Nat):Nat:=min (hW aV u k)<|620/(ey aV u*fJ aV u)
noncomputable def jW(en:Nat):List Nat:=((v7 en).getD []).map Db
noncomputable def lsN(aV u:Nat):List Lay:=bif zn aV u==0 then[(fJ aV u,uy aV u,eC<|jW<|ey aV u)]else[(fJ aV u-zn aV u,uy aV u,eC<|jW<|ey aV u),(zn aV u,uy aV u+1,eC<|jW<|ey aV u)]
noncomputable def CJ:List Nat:=[7,10,13,15,16,17,18,20,22,24,26,28]
noncomputable def wO:List (Nat×Nat):=(c2 4).flatMap λaV=>(c2 7).map λu=>(aV,u+1)
theorem alO:(CJ.all λen=>(v7 en==W (eC<|jW en))&&(jW en).all (λaD=>ma aD 255)&&uv en (jW en))=Z:=by cbv
noncomputable def layB(aV u:Nat):Bool:=CJ.contains (ey aV u)&&hY 1 (fJ aV u)&&hY (fJ aV u) 10&&((c2<|fJ aV u).all λk=>(Gb (ey aV u) (fJ aV u) (m' u) k==(hW aV u k:Int))&&(Gc (ey aV u) (fJ aV u) (hW aV u k)==(pR aV u k:Int))&&hY (pR aV u k) (hW aV u k)&&hY (hW aV u k) 200&&hY 2 (hW aV u k))&&((lsN aV u).flatMap (λi=>dq i.1 i.2.1)==(c2<|fJ aV u).map (hW aV u))&&(pQ u==((m' u).fmod 8).toNat)
theorem alP:(wO.all λe=>layB e.1 e.2)=Z:=by cbv
theorem alQ:wO.map (λe=>FD (e.2:Int)<|.int<|zl e.1)=wO.map (λe=>W<|(lsN e.1 e.2).map ti):=by cbv
theorem alR:(wO.all λe=>zm<|(c2<|fJ e.1 e.2).map<|hW e.1 e.2)=Z:=by cbv
theorem alS:(wO.all λe=>zm<|dq (fJ e.1 e.2)<|ey e.1 e.2)=Z:=by cbv
theorem alT{aV u:Nat}(aS:aV<4)(af:1<=u)(g3:u<8):(aV,u)∈wO:=by unfold wO;refine uR.mpr ⟨aV,la.mpr aS,k_.mpr ⟨u-1,la.mpr (by exact(ix 1<|u).elim (λd_=>c3 (.t .x<|.n 7) [.t .y<|.n 8,.e (.a .x<|.n 1) .y] U g3<|eN d_) λd_=>c3 (.t .x<|.n 7) [.l .y<|.n 1,.l .x .y] U d_<|k9 _ _),?_⟩⟩;exact V (zP af) U
theorem M6{b:List Int}(c:gs b):eC (b.map Db)=b:=by
 unfold eC;refine V jY ?_;conv=>rhs;rw[<-List.map_id b]
 exact rf λf R=>G_ (c f R).1
theorem Gz{b:List Int}(c:gs b):eP (b.map Db):=λf R=>by obtain⟨B,a8,rfl⟩:=k_.mp R;have:=c B a8;exact pg (.t .x<|.n 256) [.b_ .x<|.n 256,.eG (.c .x) .x] U this.2<|oG this.1
structure CK(aV u:Nat):Prop where
 IC:v7 (ey aV u:Int)=W (eC<|jW<|ey aV u)
 TL:∀aD∈jW<|ey aV u,aD<255
 Ez:uv (ey aV u) (jW<|ey aV u)=Z
 vh:1<=ey aV u/\ey aV u<=30
 xT:1<=fJ aV u/\fJ aV u<=10
 vi:∀k:Nat,k<fJ aV u->Gb (ey aV u) (fJ aV u) (m' u) k=(hW aV u k:Int)/\Gc (ey aV u) (fJ aV u) (hW aV u k)=(pR aV u k:Int)/\pR aV u k<=hW aV u k/\hW aV u k<=200/\2<=hW aV u k
 ak6:(lsN aV u).flatMap (λi=>dq i.1 i.2.1)=(c2<|fJ aV u).map (hW aV u)
 ak7:pQ u=((m' u).fmod 8).toNat
 z1:FD (u:Int) (.int<|zl aV)=W ((lsN aV u).map ti)
 ak8:zm ((c2<|fJ aV u).map<|hW aV u)=Z
 ak9:zm (dq (fJ aV u)<|ey aV u)=Z
theorem alU{aV u:Nat}(hA:layB aV u=Z):ey aV u∈CJ/\(1<=fJ aV u/\fJ aV u<=10)/\(∀k:Nat,k<fJ aV u->Gb (ey aV u) (fJ aV u) (m' u) k=(hW aV u k:Int)/\Gc (ey aV u) (fJ aV u) (hW aV u k)=(pR aV u k:Int)/\pR aV u k<=hW aV u k/\hW aV u k<=200/\2<=hW aV u k)/\(lsN aV u).flatMap (λi=>dq i.1 i.2.1)=(c2<|fJ aV u).map (hW aV u)/\pQ u=((m' u).fmod 8).toNat:=by unfold layB at hA;simp only[h_]at hA;obtain⟨⟨⟨⟨⟨fX,gY⟩,jO⟩,ny⟩,rH⟩,x0⟩:=hA;refine⟨N6.mp fX,⟨mI gY,mI jO⟩,λk ac=>?_,eq_of_beq rH,eq_of_beq x0⟩;have:=hn.mp ny k<|la.mpr ac;simp only[h_]at this;obtain⟨⟨⟨⟨il,lY⟩,sZ⟩,alV⟩,alW⟩:=this;exact⟨eq_of_beq il,eq_of_beq lY,mI sZ,mI alV,mI alW⟩
theorem alX{en:Nat}(c:en∈CJ):v7 (en:Int)=W (eC<|jW en)/\(∀aD∈jW en,aD<255)/\uv en (jW en)=Z:=by have aK:=hn.mp alO en c;simp only[h_]at aK;obtain⟨⟨vk,ls⟩,Bq⟩:=aK;exact⟨eq_of_beq vk,λaD dx=>mI<|hn.mp ls aD dx,Bq⟩
theorem alY{aV u:Nat}(aS:aV<4)(af:1<=u)(g3:u<8):CK aV u:=by
 have bt:=alT aS af g3;have bG:=hn.mp alP (aV,u) bt;have cr:=FC alQ (aV,u) bt;have eE:=hn.mp alR (aV,u) bt;have hE:=hn.mp alS (aV,u) bt
 dsimp only at bG cr eE hE;obtain⟨fX,gY,jO,ny,rH⟩:=alU bG;obtain⟨vk,ls,Bq⟩:=alX fX;exact CK.mk vk ls Bq ((show∀g,g∈CJ->1<=g/\g<=30 by decide) (ey aV u) fX) gY jO ny rH cr eE hE
theorem Wo{aV u:Nat}(K:CK aV u):(eC<|jW<|ey aV u).length=ey aV u:=by have:=(Cw K.Ez).1;unfold eC;refine V (d3 ..) ?_;exact this
theorem Wp(aV u:Nat):∀i∈lsN aV u,i.2.2=eC (jW<|ey aV u):=by intro i bp;unfold lsN at bp;cases R:zn aV u==0 with|true=>rw[R,cond_true]at bp;exact V (bm bp) U|false=>
  rw[R,cond_false]at bp;rcases fR.mp bp with rfl|bp
  .rfl
  .exact V (bm bp) U
theorem Wq(aV u:Nat):∀kG:List Lay,(∀i∈kG,i.2.2=eC (jW<|ey aV u))->g8 kG=(kG.flatMap λi=>dq i.1 i.2.1).map λt=>(t,eC<|jW<|ey aV u)|[],_=>U|i::kG,c=>by unfold g8;refine V nR<|V nR<|V mc<|V Oe ?_;have af:=Wq aV u kG λf R=>c f<|mt R;unfold g8 at af;exact V af<|b' (c i bz) U
theorem alZ(fY:List Int){aV u:Nat}(K:CK aV u):(oo fY (hW aV u) (pR aV u)<|fJ aV u).map hg=(c2<|fJ aV u).map (hW aV u):=by unfold oo;refine V jY ?_;refine rf λk ac=>?_;have:=K.vi k<|la.mp ac;show(wG fY (hW aV u) (pR aV u) k).length=_;unfold wG;refine V gU<|V ng<|V (d3 ..)<|V (vF ..) ?_;exact nW [1,1,0] [1,0,1] (.e (.a .x .y) .z) [.l .z<|.a .x .y,.e (.a .x .y) .z] U (f2 _ _)<|eN this.2.2.1
theorem Wr{bf:Type}{t:Nat}:∀{D:List<|List bf},(∀h∈D,h.length<=t)->D.flatten.length<=D.length*t|[],_=>eJ _|h::D,c=>by have ap:=Wr (D:=D) λf R=>c f<|mt R;refine V jA<|V gU<|V iy<|V (w' ..) ?_;exact oF (.l (.a .x .y)<|.a .z .w) [.l .x .w,.l .y .z] U (c h bz) ap
theorem Ws{aG:List<|List Int}(m:∀b∈aG,b.length<=200)(aI:aG.length<=10)(aO:0<aG.length):(oq aG).length<=2000:=by
 unfold oq;have bt:(r7<|aG.map λb=>(b.length:Int)).toNat<=200:=by obtain⟨b,dR,i⟩:=k_.mp<|MG (aw:=aG.map λb=>(b.length:Int)) (by refine V (d3 ..) ?_;exact aO);have:=m b dR;refine b' i ?_;exact c3 (.l .x<|.n 200) [.l .y<|.n 200,.eG (.c .x)<|.c .y] U this<|oG<|cy (.b3 (.n 0)<|.c .x) [] U
 refine bb (zi (t:=10) λl w=>bb (zi (t:=1) λb w=>?_) (by exact cy (.l (.r .x 1)<|.n 10) [.l .x<|.n 10] U aI)) (by refine V oz ?_;exact rq [1,10] (.l (.r .x 10)<|.n 2000) [.l .x<|.n 200] U bt);split<;>simp
theorem Wt:∀cp:List<|List Int,(cp.flatMap λb=>b.flatMap jb)=cp.flatten.flatMap jb|[]=>U|b::cp=>by exact V nR<|V jA<|V HD<|V (Wt cp) U
theorem Wu:∀cp:List<|List Int,(cp.map hg).sum=cp.flatten.length|[]=>U|b::cp=>by exact V iz<|V List.sum_cons<|V jA<|V gU<|V (Wu cp) U
theorem al0{aV u:Nat}(K:CK aV u):∀i∈lsN aV u,i.2.1<=1000:=by
 have c:=(K.vi 0 K.xT.1).2.2.2.1;have m:uy aV u<=200:=by unfold hW at c;exact c3 (.l .x<|.n 200) [.l (.a .x .y)<|.n 200] U c
 intro i bp;unfold lsN at bp;cases R:zn aV u==0 with
 |true=>rw[R,cond_true]at bp;refine V (bm bp) ?_;show uy aV u<=1000;exact cy (.l .x<|.n 1000) [.l .x<|.n 200] U m|false=>
  rw[R,cond_false]at bp;rcases fR.mp bp with rfl|bp
  .show uy aV u<=1000;exact cy (.l .x<|.n 1000) [.l .x<|.n 200] U m
  .refine V (bm bp) ?_;show uy aV u+1<=1000;exact cy (.l (.o .x)<|.n 1000) [.l .x<|.n 200] U m
theorem plain1(z:Nat):Wj z:=by
 intro j aE T x au aO h9 lS aV u aS af g3;have K:=alY aS af g3;generalize pP (r_ h9)=fY;have ch:Ge (ey aV u) (fJ aV u) (m' u) (hW aV u) (pR aV u):=⟨K.vh,K.xT,K.vi⟩;have bl:=V1 fY ch;have v0:=alZ fY K;have zo:(oo fY (hW aV u) (pR aV u)<|fJ aV u).length=fJ aV u:=by unfold oo;exact V (d3 ..)<|V oz U
 generalize GA:oo fY (hW aV u) (pR aV u) (fJ aV u)=cp at*;have q3:∀b∈cp,gs b:=λb m=>(bl.2 b m).2;have F1:gs cp.flatten:=λf R=>by obtain⟨b,m,R⟩:=List.mem_flatten.mp R;exact q3 b m f R
 have Wv:∀b∈cp,tl (kj<|ey aV u) (ey aV u) b=ks (eC<|jW<|ey aV u) b/\gs (ks (eC<|jW<|ey aV u) b)/\(ks (eC<|jW<|ey aV u) b).length=ey aV u:=λb m=>by
  have bG:=ai9 K.Ez K.vh.1<|Gz<|q3 b m;have cr:=agN K.TL<|Gz<|q3 b m;rw[M6<|q3 b m]at bG cr;refine V bG<|V cr ?_;refine⟨U,λf R=>?_,?_⟩
  .obtain⟨t,ay,rfl⟩:=k_.mp R;have:=agF (s:=jW<|ey aV u) (Gz<|q3 b m) t ay;exact⟨cy (.b3 (.n 0)<|.c .x) [] U,cy (.b_ (.c .x)<|.n 256) [.t .x<|.n 256] U this⟩
  .unfold eC;refine V (d3 ..)<|V (agE ..) ?_;exact(Cw K.Ez).1
 have M7:g8 (lsN aV u)=cp.map λb=>(b.length,eC<|jW<|ey aV u):=by refine V (Wq aV u _<|Wp aV u)<|V K.ak6<|b' v0<|V jY ?_;rfl
 have GB:=akV M7 F1;have al1:cp.map (tl (kj<|ey aV u)<|ey aV u)=cp.map (ks<|eC<|jW<|ey aV u):=rf λb m=>(Wv b m).1;generalize BR:cp.map (ks<|eC<|jW<|ey aV u)=nN at*;have oJ:∀b∈nN,gs b/\b.length=ey aV u:=λb m=>by replace m:=BR▸m;obtain⟨h,a7,rfl⟩:=k_.mp m;exact(Wv h a7).2
 have CL:nN.length=fJ aV u:=by exact b' BR<|V (d3 ..)<|V zo U
 have al2:nN.map hg=dq (fJ aV u) (ey aV u):=by refine g2 List.eq_replicate_iff ?_;refine⟨by exact V (d3 ..)<|V CL U,λt ay=>?_⟩;obtain⟨b,m,rfl⟩:=k_.mp ay;exact(oJ b m).2
 have il:=K.vh;have fX:=K.xT;have Ww:∀j∈oq cp++oq nN,0<=j/\j<256:=λj bS=>by
  refine bN bS (λbS=>?_) λbS=>?_
  .obtain⟨b,m,bS⟩:=V4 bS;exact q3 b m j bS
  .obtain⟨b,m,bS⟩:=V4 bS;exact(oJ b m).1 j bS
 have M8:=Ws (aG:=cp) (λb m=>(bl.2 b m).1) bl.1 (by exact gd [1,-1,1] (.t (.n 0) .x) [.e .x .y,.l (.n 1) .y] U zo fX.1);have Wx:=Ws (aG:=nN) (λb m=>by refine V ((oJ b m).2) ?_;exact cy (.l .x<|.n 200) [.l .x<|.n 30] U il.2) (by exact c3 (.l .x<|.n 10) [.e .x .y,.l .y<|.n 10] U CL fX.2) (by exact gd [1,-1,1] (.t (.n 0) .x) [.e .x .y,.l (.n 1) .y] U CL fX.1);have Cq:cp.flatten.length<=2000:=bb (Wr λb m=>(bl.2 b m).1) (by exact gd [1,200,200] (.l (.r .x 200)<|.n 2000) [.e .x .y,.l .y<|.n 10] U zo fX.2);have M':(op cp.flatten).length=8*cp.flatten.length:=by unfold op;exact V (d3 ..)<|V (CA ..) U
 have rN:ja cp++ja nN++dq (pQ u) 0=(oq cp++oq nN).flatMap jz++dq ((m' u).fmod 8).toNat 0:=by exact V K.ak7<|V (MR Ww)<|V HD<|V (CB ..)<|V (CB ..) U
 have al3:pQ u<=7:=by unfold pQ;split<;>omega
 have al4:(ja cp++ja nN++dq (pQ u) 0).length<=2^24:=by refine V gU<|V gU<|V (CB ..)<|V (CB ..)<|V (CA ..)<|V (CA ..)<|V ng ?_;exact j4 [1,8,8,1] (.l (.a (.a (.m 8 .x)<|.m 8 .y) .z)<|.n 16777216) [.l .x<|.n 2000,.l .y<|.n 2000,.l .z<|.n 7] U M8 Wx al3
 refine⟨⟨hW aV u,pR aV u,op cp.flatten,ja cp++ja nN++dq (pQ u) 0,nN,oq cp,oq nN,ch,?_,?_,?_,?_,al4,?_,?_,?_,?_,⟨Ww,?_⟩,rN⟩⟩
 .refine V GA<|b' (akT F1) ?_;have:(cp.flatMap λb=>b.flatMap jz)=cp.flatMap λb=>b.flatMap jb:=Gt λb m=>MR<|q3 b m;refine V this ?_;exact Wt cp
 .exact gd [1,8,1] (.l .x<|.n 1048576) [.l .y<|.n 2000,.e .x<|.m 8 .y] U Cq M'
 .intro ej be cG I eu nm E A bM cn;have:=akm (z:=z) (q:=ej) (kG:=lsN aV u) (aG:=op cp.flatten) aO ⟨by exact cy (.b3 (.g<|.n 3)<|.c .x) [] U,by exact cy (.b3 (.c .x)<|.n 7) [.t .x<|.n 8] U g3⟩ ?_ bM K.z1 ?_ ?_ ?_ ?_ ?_ cn
  .replace this:=GB▸this;exact this
  .have eE:((-3:Int)==(u:Int))=a1:=beq_false_of_ne (by exact rq [-1] (.fQ (.g<|.n 3)<|.c .x) [] U);have bG:((-1:Int)==(u:Int))=a1:=beq_false_of_ne (by exact rq [-1] (.fQ (.g<|.n 1)<|.c .x) [] U);show((-3:Int)==(u:Int)||((-1:Int)==(u:Int)||false))=a1;refine V eE<|V bG ?_;rfl
  .refine⟨λi bp=>?_,by refine V M7<|V (d3 ..) ?_;exact c3 (.l .x<|.n 500) [.e .x .y,.l .y<|.n 10] U zo fX.2,?_⟩
   .refine V (Wp aV u i bp) ?_;refine⟨λf R=>?_,by refine V (Wo K) ?_;exact K.IC,al0 K i bp,by refine V (Wo K) ?_;exact cy (.l .x<|.n 100) [.l .x<|.n 30] U il.2⟩;obtain⟨t,ay,rfl⟩:=k_.mp R;have:=K.TL t ay;exact⟨cy (.b3 (.n 0)<|.c .x) [] U,cy (.b_ (.c .x)<|.n 255) [.t .x<|.n 255] U this⟩
   .refine V M7<|V jY<|V M' ?_;show(cp.map hg).sum<=_;refine V (Wu ..) ?_;exact gd [8,1] (.l .x .y) [.t (.a (.m 8 .x)<|.n 7)<|.a (.m 8 .y)<|.n 8] U<|qe _ 7
  .exact gd [1,8,1] (.l .x<|.n 1048576) [.l .y<|.n 2000,.e .x<|.m 8 .y] U Cq M'
  .refine V GB ?_;exact⟨λb m=>⟨q3 b m,by have:=(bl.2 b m).1;exact cy (.l .x<|.n 1000) [.l .x<|.n 200] U this⟩,by refine V zo ?_;exact cy (.t (.n 0) .x) [.l (.n 1) .x] U fX.1,by refine V zo ?_;exact cy (.l .x<|.n 100) [.l .x<|.n 10] U fX.2⟩
  .refine V GB ?_;exact⟨λb m=>⟨(oJ b m).1,by refine V ((oJ b m).2) ?_;exact cy (.l .x<|.n 1000) [.l .x<|.n 30] U il.2⟩,by refine V CL ?_;exact cy (.t (.n 0) .x) [.l (.n 1) .x] U fX.1,by refine V CL ?_;exact cy (.l .x<|.n 100) [.l .x<|.n 10] U fX.2⟩
  .refine V GB<|V (CB ..)<|V (CA ..) ?_;show 8*(oq cp).length<=_;exact rq [1,8] (.l (.m 8 .x)<|.n 200000) [.l .x<|.n 2000] U M8
 .intro f R;refine bN R (λR=> ?_) λR=> ?_
  .refine bN R (λR=> ?_) λR=> ?_
   .exact Gk _ f R
   .exact Gk _ f R
  .refine V (z9 R) ?_;decide
 .refine V GA ?_;intro df Na k ac;have:=ajb K.Ez K.vh.1 (Gz<|q3 df Na) k (by refine V (M6<|q3 df Na) ?_;exact ac);rwa [M6<|q3 df Na] at this
 .refine V GA ?_;exact al1
 .refine V GA ?_;exact V9 (by refine V v0 ?_;exact K.ak8)
 .exact V9 (by refine V al2 ?_;exact K.ak9)
 .refine V gU ?_;exact c3 (.l (.a .x .y)<|.n 5000) [.l .x<|.n 2000,.l .y<|.n 2000] U M8 Wx
end Mine
end
theorem PySem.Challenge.cw_nv0011_01_holds : PySem.Challenge.rw_nv0011_01.Holds :=
 Mine.alf (Mine.alL (Mine.plain1 0))
