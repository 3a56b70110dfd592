import PyProof.Rows.All
import Wide.All
import OpenK.AllK
import Wide.FinOn
import PyProof.EnumIter
import PyProof.CollectWalk
import PyProof.JoinWalk
import PyProof.ListRange
import PyProof.ZipIter
import KE.BitLaws
import Lean
import PySem.Challenge.RW_nv0011_03
set_option Elab.async false
set_option linter.all false
set_option maxRecDepth 1000000
set_option maxHeartbeats 0
set_option genInjectivity false
set_option genSizeOf false
set_option tactic.hygienic false
set_option bootstrap.genMatcherCode false
set_option backward.match.sparseCases false
section
open Bool renaming true->W,false->a2,and_eq_true_iff->l9,or_eq_false_iff->Gc,false_ne_true->zp,and_eq_true->jU,or_eq_true->w5,or_false->q9,or_eq_true_iff->MF,not_eq_true'->Gd,eq_iff_iff->Ge,false_eq_true->Gf,and_true->MH
open PySem renaming Around->ch,Shared->ai,Value->au,wpAny->cj,wpAny_bind->bg,wpAny_pure->cu,Addr->aw,wpAny_load->zq,wpAny_of_eq->nW,holding->Gg,wpAny_holding->kH,Code->iI,Program->cL,World->ck,model->cG,Flow->gn,codeAny->zr,wpCode_mono->zs,call->et,denote->tn,wpCode_iff_wp->CK,Builtin->uP,entryFor->kI,standAt->zt,wpAny_standAt->pY,typeLookup_type->hq,builtinLookup_eq_fast->hr,isSubtype_type->kj,entryFor_of_tree->oA,argsOk->iJ,signature?_of->q_,builtinType_eq_fast->MI,wpAny_callSpecial?_slot->ni,wpAny_call_entry->kJ,wpAny_mkInt->r3,wpAny_letGo->uQ,wpAny_specialOf->g6,typeIs_int->w6,seqIndex?->w7,wpAny_sequenceKey->zu,Heap->e0,sizeLine->cp,setItem->w8,checkBuiltinCall->uR,plainId_quiet->nX,checkTypeCall->CL,wpAny_isInstance->q',typeLookup->kK,entryFor_alias->Gh,isSubtype->uS,codeAny_of_tree->zv,wpAny_typeOf->w_,wpAny_rule->l_,wpAny_point->o_,pyNext->nY,wpAny_pyIter_list->CM,wpAny_newObj_type->i4,wpAny_attempt->uT,GenState->uU,Expr->bH,eval->dF,binaryOp->tq,markedEach->uV,evalEach->tr,compareOp->ts,wpAny_loadName_local->Gi,wpAny_loadName_free->MJ,spliced->mB,backTo->jV,starEach->jh,callWith->pZ,keeperOf->r4,slot_list_getitem->Gk,IsPart->tt,storeName->tu,wpAny_storeName_local->MK,bindName->o',wpAny_storeName_cell->ML,Stmt->eS,execs->dG,execs_cons->pa,execs_nil->uW,swapsWith->w',foldedSetIterable->zw,closureFor->uX,pyIter->nj,newFunctionEnv->zx,relabel->xa,comprehension->xb,lookup_relabel_local->MM,Comprehension->k9,Scope->dp,letOwnedTupleGo->zy,compEnvC->ra,firstIterPos->CN,firstAsync->zz,firstIter->CO,wpAny_newFunctionEnv->Gm,IsRange->rb,call_range_1->CP,assignEach->r5,attributeBase->tv,calleeOf->CQ,methodCallForm->CS,methodCallPos->CT,wpAny_list_append_plain->MO,interactive->xc,exec_Expr->Gn,dropValue->CW,recursionLimit->fA,NameKind->r6,wpAny_alloc->zA,mem_of_lookup->Go,arm_keywordEach_nil->CX,FuncData->uY,BindsTo->jr,arm_eval_Name->Gp,clipAt_nat->CY,wpAny_pyIter_range->Gq,wpAny_pyIter_zip->Gr,assignInOrder->zB,assign_Name->Gs,wpAny_unpackItems_tuple->MP,exec_Assign_Name->CZ,exec_Return_some->Gt,swapsWithSole->zC,swappedStores->zD,assign->zE,slot_list_setitem->C0,entry_list_setitem->MQ,wpAny_listSubscript_int->MR,wpAny_setSeqItemAt->MS,wpAny_seqItems->r7,passing->p0,GenOnlyQ->C1,cStatics->p1,Keeps->kk,wpAny_mkText->Gu,rawInt->hE,codeAny_builtin->xd,IsRangeIter->oB,Setting->pb,Result->p2,Life->go,treeTable->nk,table_eq_tree->xe,Params->cy,DictEntry->zF,wpAny_BinOp->Gv,Slot->uZ,isSubtype_stop->Gw,wpAny_pyIter_slot->Gx,ItemsOf->xf,wpAny_updateSeq->xg,codeAny_extend_loopS->MT,strValues->zG,getAttr->oC,callType_new->Gy,Fin->Gz,wpAny_newTuple->C2,wpAny_mono->r8,wpAny_setField_rec->xh,firstArgMember->C3,wpAny_ite_split->GB,wpAny_Constant_str->MU,setGen_self->C4,IsZip->p3,IsPair->l',wpAny_onRaise->GC,wpAny_updateSeq_pair->MV,getMethod->u0,subDict->zH,wpAny_dictEntries->GE,mainNs->ma,blockStart->zJ,OsState->nn,arm_eval_Attribute->GF,classAt->zK
open Pure renaming pure->dC
open Option renaming some->A,none->a7,map_eq_some_iff->C5,bind->MW,isSome_iff_exists->GG,elim->GH,map_some->r9,bind_eq_some_iff->MX
open Int renaming zero_add->tw,add_zero->pc,mul_zero->zL,mul_add->zM,mul_assoc->GI,zero_mul->GJ,natCast_add->MZ,natCast_mul->M0,mul_comm->C6,neg_eq_neg_one_mul->GK,sub_eq_add_neg->GL,ofNat_lt->GN,le_of_eq->u1,not_lt->C7,add_nonneg->GO,mul_nonneg->M1,le_refl->GP,natCast_nonneg->kL,toNat_of_nonneg->M2,natCast_pos->M3,add_comm->GQ,toNat_sub->zN,toNat_lt->zO,add_le_add_right->M4,lt_of_lt_of_le->M5,eq_ofNat_of_zero_le->xi,add_sub_cancel->M6,toNat_natCast->mC,fmod_eq_emod_of_nonneg->M7,fmod_nonneg_of_pos->u2,fmod_lt_of_pos->u3
open Nat renaming le_of_not_lt->u4,le_antisymm->u5,sub_le_iff_le_add->GR,le_refl->dD,sub_add_cancel->M8,mul_div_le->M9,succ_pos->r_,mod_lt->GS,div_add_mod->tx,min_eq_left->u6,min_eq_right->xj,le_max_right->GT,succ_ne_zero->GU,strongRecOn->GV,le_trans->a',sub_le->hR,zero_le->hf,ne_of_lt->hS,lt_or_ge->pd,succ_ne_self->M_,ne_of_gt->zP,lt_succ_of_lt->pe,le_succ->js,le_of_eq->oD,lt_irrefl->iK,lt_of_lt_of_le->cI,not_le_of_lt->M',le_add_left->p4,lt_succ_self->ks,le_add_right->hT,le_of_succ_le->GW,le_total->jt,not_lt_of_le->Na,lt_of_le_of_lt->mD,zero_add->zQ,lt_trans->C8,add_div_right->Nb,le_of_lt->no,le_succ_of_le->xk,add_le_add_right->GX,blt->ty,le_of_ble_eq_true->C_,ble_eq_true_of_le->Nc,mod_eq_of_lt->Nd,succ_le_of_lt->Nf,add_comm->tz,mod_two_eq_zero_or_one->zR,mul_le_mul_left->zS,beq->C',mul_add_mod->Da,pos_of_ne_zero->GY,mul_add->Db,xor_lt_two_pow->Ng,xor_assoc->nZ,xor_self->GZ,xor_zero->zT,mul_succ->G0,xor_comm->Dc,zero_xor->zU,add_le_add->G1,mul_le_mul_right->G2,succ_mul->G3,add_le_add_left->G4
open Classical renaming byContradiction->Dd
open Eq renaming symm->zV
open List renaming mem_cons->e1,mem_append->jW,mem_append_left->tA,mem_append_right->xl,mem_singleton->kl,mem_cons_self->G5,mem_cons_of_mem->zW,mem_map->zX,length_filterMap_le->Nh,take_add_one->xm,length_take->zY,mem_of_getElem?->pf,take_length->xn,size_toArray->zZ,not_mem_nil->mE,lookup_cons->r',all_cons->n0,any_nil->u7,length_cons->jX,cons_append->u8,drop_zero->z0,take_succ_cons->G6,getElem?_eq_some_iff->k_,mem_filter->tB,mem_reverse->Ni,mem_of_mem_take->G7,forIn_cons->tC,any_cons->G8,getElem?_map->fW,getD_eq_getElem?_getD->hF,getElem?_eq_getElem->gQ,length_map->gp,map_drop->u9,map_take->z1,take_of_length_le->oE,drop_eq_nil_of_le->u_,map_append->mb,replicate->dE,replicate_succ->np,foldl_cons->z2,flatten_cons->oF,map_cons->ju,range->c9,all_eq_true->hU,ext_getElem->Nj,mem_range->mF,getElem?_range->mG,getElem?_zipIdx->Nk,getElem?_zip_eq_some->Nl,forIn_nil->z3,append_nil->u',take_append_drop->va,flatten_append->z4,drop_eq_getElem_cons->De,length_append->io,append_assoc->tD,set_cons_zero->Nm,set_cons_succ->G9,map_snd_zip->Nn,of_mem_zip->No,length_range->pg,foldl_append->z5,getElem_mem->xo,ext_getElem?->xp,getElem?_set->G_,mem_map_of_mem->xq,getElem?_of_mem->Np,nodup_append->xr,map_nil->xs,mem_toArray->G',map_map->ph,length->sa,getElem?_eq_none->rc,length_drop->sb,map_set->Df,nodup_nil->rd,any_eq_true->Nq,length_nil->z6,eq_nil_of_length_eq_zero->Nr,nil_append->Ha,getElem?_append_left->z7,getElem?_append_right->Dg,drop_drop->Hb,map_congr_left->vb,flatMap_cons->tE,mem_or_eq_of_mem_set->Ns,length_set->Dh,range_succ->z8,eq_of_mem_replicate->Hc,length_replicate->tF,sum_append->Nt,map_replicate->Nu,replicate_zero->Nv,flatMap_append->Hd,mem_flatMap->He,flatMap_def->Nw,drop_left->Nx,take_append->Ny
open Option.some renaming inj->fu,injEq->xt
open PySem.Builtin.Bytes renaming decodersThatHold->Nz,exported->z9,payload->NA,fitsIndex->NB,subscript?->NC,write->Hf,checkResize->ND,lengthHint->NE,slotIsOwn->NF,buffer?->NG
open PySem.Sem renaming wp->jY,wp_mono->mc,wp_bind'->z_,wp_onRaise->NH
open PySem.Builtin.Bytes.exported renaming match_1->VX
open PySem.Manifest renaming owners->Hg
open String renaming ofList->Hh,splitOn->NI,splitOnAux->NJ
open PySem.Builtin renaming«bytearray.__len__»->VY,«bytearray.__getitem__»->VZ,«bytearray.__setitem__»->V0,«bytearray.__iter__»->V1,«bytearray.extend»->V2,«bytearray.pop»->NK,«type.__call__»->V3,«bytearray.__init__»->V4,«list.__new__»->V5,«bytearray.extend.end»->V6,divisionGoesByPylong->z',bitXor->lH,bitAnd->Di,«dict_keyiterator.__iter__»->NL,«int.__new__»->NM,«map.__new__»->NN,«bytearray_iterator.__next__»->V7,«list.__init__»->V8,«zip.__next__»->NO,«zip.__new__»->NP,«tuple.__new__»->V9,bitNot->vc,bitOr->NQ,«bytes.__mul__»->Hi
open PySem.Str renaming ofString->hg,empty->mH
open Array renaming getElem?_eq_some_iff->Hj,isEmpty_iff->Hk,getElem?_eq_getElem->pi,eraseIdxIfInBounds->NR,size_append->Dj,size_push->Aa,getElem?_eq_none->Hl,toList_push->Ab,getElem?_append_left->NS,mem_append->NT,append_empty->Hm,length_toList->NU
open PySem.Obj renaming mapBytearray->NV,mapSeq->mI,data_mapDictKeys->NW,data->Dk,cls->sc,mapSeq_push_plain->NX
open PySem.Heap renaming get?_update_self->n1,SameBut->hV,get?_push_size->fj,get?_push_of_some->eT,size_push->f',lt_size->dH,size_update->Dl,IsCell->Hn,ExtBut->Ac,get?_update_other->rf
open PySem.Heap.SameBut renaming update->sd
open PySem.Value renaming ref->e8,int->se,type->hh,builtin->Ad,none->oG
open PySem.Code renaming quiet_builtin->Ho,builtin->Ae
open PySem.F renaming entry_type_call->Hp,slot_list_add->NY,entry_list_add->NZ,args_list_add_2->N0,slot_int_rmul->Dm,slot_int_index->N1,entry_int_rmul->N2,args_int_rmul_2->N3,slot_range_reversed->Hq,entry_proto_collect->N4,plain_list_iadd->N5,entry_list_iadd->N6,plain_extend_loop->Hr,args_object_init_3->Hs,slot_range_iterator_next->Dn,entry_range_iterator_next->N7,args_range_iterator_next_1->N8,slot_zip_next->Do,entry_zip_next->N9,args_zip_next_1->N_
open PySem.Walks renaming list->Ht,range->Dp
open PyProof.Rows renaming AllBare->Af,IntsAre->xu,subscriptTail->Dq,tail_any->sf,exec_Assign->Hu
open Exists renaming intro->md
open PySem.P renaming add_int->N',sub_int->Oa
open PySem.Calls renaming Name_function_global->Dr,loadGlobal_global->Ob,loadGlobal_builtin->Oc
open PySem.Heap.IsSliceOf renaming new->Od
open PySem.Env renaming kindOf->xv
open ForInStep renaming yield->rg
open PySem.Builtin.Range renaming small->xw,rangeSize->sg,rangeFitsLong->sh
open PySem.IsRange renaming new->Hv
open PySem.MeetsSeq.EqGives renaming int->V_
open PUnit renaming unit->si
open List.Pairwise renaming nil->Oe
open Or renaming elim->eU
open PySem.Builtin.List renaming listFitsIndex->Of,listSubscript?->Og,listExtendWith->Hw,listSameRef->Ds
open PySem.SeqAt.EqAt renaming int_int->Oh
open PySem.Fin renaming done->Dt
open LT renaming lt->nq
open Ne renaming symm->ip
open List.cons renaming inj->xx
open PySem.Expr renaming Tuple->Du
open PySem.WalksS renaming genexpQ->Hx
open PySem.Heap.ExtBut renaming refl->Hy
open PySem.W renaming absHeap->jZ,alive->h_,abs_get->sj,absHeap_size->tG,boot_heap->oH,behindTheImports->rh,topStub->xy,boot_drawn->pj,layAllW->Ag
open PySem.Challenge renaming pw_nv0011_03->V',rw_nv0011_03->Hz
open PySem.Slot renaming of->Oi
open PySem.ItemsOf renaming nil->Oj
open Prod.mk renaming inj->Ol,injEq->p5
open PySem.World renaming withFollow_self->Ah
open PySem.Builtin.SmallTypes renaming newClass->Dv,iterAll->HA,newRecord->Dw,nextOf->xz,ownedTupleIsFree->Om,ownedTupleHandOut->On,ownedTupleFields->Wa
open PySem.W.KBy renaming picked->xA
open PySem.Moved renaming eq_with->Oo
open PySem.Builtin.Generator renaming genWake->Wb
open PySem.GenOnly renaming setGen->Op
open PySem.W.BT renaming get_node->mJ,ins_node->Ai
open PySem.Shared renaming asleep_of_life->HB,mk->Dx,rest_eq->Oq
open PySem.Heap.Ns renaming of_isNs->HC,at'->Ot
open PySem.Shared.mk renaming injEq->Ou
open PySem.BindsTo renaming of_eq->tH,of_defaults->Dy
open PySem.Data.seq renaming injEq->Ov
open Nat.succ renaming inj->Dz
open PySem.Pin renaming globalOf_eq->Ow
open PySem.W.WShape renaming hasAll->Ox
open PySem PySem.W PyProof.Rows
namespace Mine
theorem f{α:Sort v}{a:α}:a=a:=rfl
local macro_rules |`(tactic|cbv)=>`(tactic|kernel_rfl)
universe f8 g7 hW km nr p6 tI tJ vd xC DA HD Oy akY akZ ak0 ak1 ak2 ak3 ak4 ak5 ak7 ak8 ak9 ala alb alc ald ale alf alg alh ali alj alk alm aln alo alp alq alr als alt alu alv av B
section
section
variable{cq:Sort f8}{cY:Sort g7}{ds:Sort hW}{ex:Sort km}{ga:Sort nr}{hX:Sort p6}{k':Sort tI}{lI:Sort tJ}{n2:Sort vd}{ri:Sort xC}{xD:Sort DA}{DB:Sort HD}{Oz:Sort Oy}
section
variable{bq bz bS cB dj ed fB jw nt:Prop}{ao:Prop}
theorem cx(c:bq/\bz)(p:bq->bz->ao):ao:=p c.1 c.2
theorem eV(c:bq/\bz/\bS)(p:bq->bz->bS->ao):ao:=cx c.2<|p c.1
theorem hG(c:bq/\bz/\bS/\cB)(p:bq->bz->bS->cB->ao):ao:=eV c.2<|p c.1
theorem j0(c:bq/\bz/\bS/\cB/\dj)(p:bq->bz->bS->cB->dj->ao):ao:=hG c.2<|p c.1
theorem xE(c:bq/\bz/\bS/\cB/\dj/\ed)(p:bq->bz->bS->cB->dj->ed->ao):ao:=j0 c.2<|p c.1
theorem oI(c:bq/\bz/\bS/\cB/\dj/\ed/\fB)(p:bq->bz->bS->cB->dj->ed->fB->ao):ao:=xE c.2<|p c.1
theorem pk(c:bq/\bz/\bS/\cB/\dj/\ed/\fB/\jw)(p:bq->bz->bS->cB->dj->ed->fB->jw->ao):ao:=oI c.2<|p c.1
theorem Wc(c:bq/\bz/\bS/\cB/\dj/\ed/\fB/\jw/\nt)(p:bq->bz->bS->cB->dj->ed->fB->jw->nt->ao):ao:=pk c.2<|p c.1
end
section
variable{u bq bz bS cB dj ed:cq->Prop}{ao:Prop}
theorem cJ(c:∃N,u N)(p:∀N,u N->ao):ao:=c.elim p
theorem bl(c:∃N,bq N/\bz N)(p:∀N,bq N->bz N->ao):ao:=cJ c λN c=>cx c<|p N
theorem eW(c:∃N,bq N/\bz N/\bS N)(p:∀N,bq N->bz N->bS N->ao):ao:=cJ c λN c=>eV c<|p N
theorem iL(c:∃N,bq N/\bz N/\bS N/\cB N)(p:∀N,bq N->bz N->bS N->cB N->ao):ao:=cJ c λN c=>hG c<|p N
theorem Wd(c:∃N,bq N/\bz N/\bS N/\cB N/\dj N/\ed N)(p:∀N,bq N->bz N->bS N->cB N->dj N->ed N->ao):ao:=cJ c λN c=>xE c<|p N
end
section
variable{u bq bz bS cB dj ed:cq->cY->Prop}{ao:Prop}
theorem kn(c:∃N S,u N S)(p:∀N S,u N S->ao):ao:=c.elim λN c=>c.elim<|p N
theorem fM(c:∃N S,bq N S/\bz N S)(p:∀N S,bq N S->bz N S->ao):ao:=kn c λN S c=>cx c<|p N S
theorem dZ(c:∃N S,bq N S/\bz N S/\bS N S)(p:∀N S,bq N S->bz N S->bS N S->ao):ao:=kn c λN S c=>eV c<|p N S
theorem DC(c:∃N S,bq N S/\bz N S/\bS N S/\cB N S)(p:∀N S,bq N S->bz N S->bS N S->cB N S->ao):ao:=kn c λN S c=>hG c<|p N S
theorem DD(c:∃N S,bq N S/\bz N S/\bS N S/\cB N S/\dj N S)(p:∀N S,bq N S->bz N S->bS N S->cB N S->dj N S->ao):ao:=kn c λN S c=>j0 c<|p N S
theorem HE(c:∃N S,bq N S/\bz N S/\bS N S/\cB N S/\dj N S/\ed N S)(p:∀N S,bq N S->bz N S->bS N S->cB N S->dj N S->ed N S->ao):ao:=kn c λN S c=>xE c<|p N S
end
section
variable{u bq bz bS cB dj ed fB jw:cq->cY->ds->Prop}{ao:Prop}
theorem sk(c:∃N S Z,u N S Z)(p:∀N S Z,u N S Z->ao):ao:=c.elim λN c=>kn c<|p N
theorem tK(c:∃N S Z,bq N S Z/\bz N S Z)(p:∀N S Z,bq N S Z->bz N S Z->ao):ao:=sk c λN S Z c=>cx c<|p N S Z
theorem iM(c:∃N S Z,bq N S Z/\bz N S Z/\bS N S Z)(p:∀N S Z,bq N S Z->bz N S Z->bS N S Z->ao):ao:=sk c λN S Z c=>eV c<|p N S Z
theorem la(c:∃N S Z,bq N S Z/\bz N S Z/\bS N S Z/\cB N S Z)(p:∀N S Z,bq N S Z->bz N S Z->bS N S Z->cB N S Z->ao):ao:=sk c λN S Z c=>hG c<|p N S Z
theorem ve(c:∃N S Z,bq N S Z/\bz N S Z/\bS N S Z/\cB N S Z/\dj N S Z/\ed N S Z)(p:∀N S Z,bq N S Z->bz N S Z->bS N S Z->cB N S Z->dj N S Z->ed N S Z->ao):ao:=sk c λN S Z c=>xE c<|p N S Z
theorem We(c:∃N S Z,bq N S Z/\bz N S Z/\bS N S Z/\cB N S Z/\dj N S Z/\ed N S Z/\fB N S Z)(p:∀N S Z,bq N S Z->bz N S Z->bS N S Z->cB N S Z->dj N S Z->ed N S Z->fB N S Z->ao):ao:=sk c λN S Z c=>oI c<|p N S Z
theorem Wf(c:∃N S Z,bq N S Z/\bz N S Z/\bS N S Z/\cB N S Z/\dj N S Z/\ed N S Z/\fB N S Z/\jw N S Z)(p:∀N S Z,bq N S Z->bz N S Z->bS N S Z->cB N S Z->dj N S Z->ed N S Z->fB N S Z->jw N S Z->ao):ao:=sk c λN S Z c=>pk c<|p N S Z
end
section
variable{u bq bz bS cB dj ed fB:cq->cY->ds->ex->Prop}{ao:Prop}
theorem sl(c:∃N S Z aD,u N S Z aD)(p:∀N S Z aD,u N S Z aD->ao):ao:=c.elim λN c=>sk c<|p N
theorem DE(c:∃N S Z aD,bq N S Z aD/\bz N S Z aD)(p:∀N S Z aD,bq N S Z aD->bz N S Z aD->ao):ao:=sl c λN S Z aD c=>cx c<|p N S Z aD
theorem Aj(c:∃N S Z aD,bq N S Z aD/\bz N S Z aD/\bS N S Z aD)(p:∀N S Z aD,bq N S Z aD->bz N S Z aD->bS N S Z aD->ao):ao:=sl c λN S Z aD c=>eV c<|p N S Z aD
theorem Wg(c:∃N S Z aD,bq N S Z aD/\bz N S Z aD/\bS N S Z aD/\cB N S Z aD)(p:∀N S Z aD,bq N S Z aD->bz N S Z aD->bS N S Z aD->cB N S Z aD->ao):ao:=sl c λN S Z aD c=>hG c<|p N S Z aD
theorem Wh(c:∃N S Z aD,bq N S Z aD/\bz N S Z aD/\bS N S Z aD/\cB N S Z aD/\dj N S Z aD)(p:∀N S Z aD,bq N S Z aD->bz N S Z aD->bS N S Z aD->cB N S Z aD->dj N S Z aD->ao):ao:=sl c λN S Z aD c=>j0 c<|p N S Z aD
theorem Wi(c:∃N S Z aD,bq N S Z aD/\bz N S Z aD/\bS N S Z aD/\cB N S Z aD/\dj N S Z aD/\ed N S Z aD)(p:∀N S Z aD,bq N S Z aD->bz N S Z aD->bS N S Z aD->cB N S Z aD->dj N S Z aD->ed N S Z aD->ao):ao:=sl c λN S Z aD c=>xE c<|p N S Z aD
theorem DF(c:∃N S Z aD,bq N S Z aD/\bz N S Z aD/\bS N S Z aD/\cB N S Z aD/\dj N S Z aD/\ed N S Z aD/\fB N S Z aD)(p:∀N S Z aD,bq N S Z aD->bz N S Z aD->bS N S Z aD->cB N S Z aD->dj N S Z aD->ed N S Z aD->fB N S Z aD->ao):ao:=sl c λN S Z aD c=>oI c<|p N S Z aD
end
section
variable{u bq bz bS cB dj ed fB:cq->cY->ds->ex->ga->Prop}{ao:Prop}
theorem xF(c:∃N S Z aD a_,u N S Z aD a_)(p:∀N S Z aD a_,u N S Z aD a_->ao):ao:=c.elim λN c=>sl c<|p N
theorem Wj(c:∃N S Z aD a_,bq N S Z aD a_/\bz N S Z aD a_)(p:∀N S Z aD a_,bq N S Z aD a_->bz N S Z aD a_->ao):ao:=xF c λN S Z aD a_ c=>cx c<|p N S Z aD a_
theorem HF(c:∃N S Z aD a_,bq N S Z aD a_/\bz N S Z aD a_/\bS N S Z aD a_/\cB N S Z aD a_)(p:∀N S Z aD a_,bq N S Z aD a_->bz N S Z aD a_->bS N S Z aD a_->cB N S Z aD a_->ao):ao:=xF c λN S Z aD a_ c=>hG c<|p N S Z aD a_
theorem HG(c:∃N S Z aD a_,bq N S Z aD a_/\bz N S Z aD a_/\bS N S Z aD a_/\cB N S Z aD a_/\dj N S Z aD a_)(p:∀N S Z aD a_,bq N S Z aD a_->bz N S Z aD a_->bS N S Z aD a_->cB N S Z aD a_->dj N S Z aD a_->ao):ao:=xF c λN S Z aD a_ c=>j0 c<|p N S Z aD a_
theorem DH(c:∃N S Z aD a_,bq N S Z aD a_/\bz N S Z aD a_/\bS N S Z aD a_/\cB N S Z aD a_/\dj N S Z aD a_/\ed N S Z aD a_/\fB N S Z aD a_)(p:∀N S Z aD a_,bq N S Z aD a_->bz N S Z aD a_->bS N S Z aD a_->cB N S Z aD a_->dj N S Z aD a_->ed N S Z aD a_->fB N S Z aD a_->ao):ao:=xF c λN S Z aD a_ c=>oI c<|p N S Z aD a_
end
section
variable{u bq bz bS cB dj:cq->cY->ds->ex->ga->hX->Prop}{ao:Prop}
theorem DI(c:∃N S Z aD a_ b6,u N S Z aD a_ b6)(p:∀N S Z aD a_ b6,u N S Z aD a_ b6->ao):ao:=c.elim λN c=>xF c<|p N
theorem Wk(c:∃N S Z aD a_ b6,bq N S Z aD a_ b6/\bz N S Z aD a_ b6)(p:∀N S Z aD a_ b6,bq N S Z aD a_ b6->bz N S Z aD a_ b6->ao):ao:=DI c λN S Z aD a_ b6 c=>cx c<|p N S Z aD a_ b6
theorem Wl(c:∃N S Z aD a_ b6,bq N S Z aD a_ b6/\bz N S Z aD a_ b6/\bS N S Z aD a_ b6)(p:∀N S Z aD a_ b6,bq N S Z aD a_ b6->bz N S Z aD a_ b6->bS N S Z aD a_ b6->ao):ao:=DI c λN S Z aD a_ b6 c=>eV c<|p N S Z aD a_ b6
end
section
variable{u:cq->cY->ds->ex->ga->hX->k'->Prop}{ao:Prop}
theorem Wm(c:∃N S Z aD a_ b6 dh,u N S Z aD a_ b6 dh)(p:∀N S Z aD a_ b6 dh,u N S Z aD a_ b6 dh->ao):ao:=c.elim λN c=>DI c<|p N
end
section
variable{u bq bz bS cB dj ed fB jw nt:cq->cY->ds->ex->ga->hX->k'->lI->Prop}{ao:Prop}
theorem Wn(c:∃N S Z aD a_ b6 dh dt,u N S Z aD a_ b6 dh dt)(p:∀N S Z aD a_ b6 dh dt,u N S Z aD a_ b6 dh dt->ao):ao:=c.elim λN c=>Wm c<|p N
end
section
variable{u bq bz bS:cq->cY->ds->ex->ga->hX->k'->lI->n2->Prop}{ao:Prop}
theorem OA(c:∃N S Z aD a_ b6 dh dt ej,u N S Z aD a_ b6 dh dt ej)(p:∀N S Z aD a_ b6 dh dt ej,u N S Z aD a_ b6 dh dt ej->ao):ao:=c.elim λN c=>Wn c<|p N
theorem Wo(c:∃N S Z aD a_ b6 dh dt ej,bq N S Z aD a_ b6 dh dt ej/\bz N S Z aD a_ b6 dh dt ej/\bS N S Z aD a_ b6 dh dt ej)(p:∀N S Z aD a_ b6 dh dt ej,bq N S Z aD a_ b6 dh dt ej->bz N S Z aD a_ b6 dh dt ej->bS N S Z aD a_ b6 dh dt ej->ao):ao:=OA c λN S Z aD a_ b6 dh dt ej c=>eV c<|p N S Z aD a_ b6 dh dt ej
end
end
theorem OB{bq bz bS cB dj ed fB jw nt p7:Prop}{ao:Prop}(c:bq/\bz/\bS/\cB/\dj/\ed/\fB/\jw/\nt/\p7)(p:bq->bz->bS->cB->dj->ed->fB->jw->nt->p7->ao):ao:=Wc c.2<|p c.1
theorem Wp{bq bz bS cB dj ed fB jw nt p7 Ak:Prop}{ao:Prop}(c:bq/\bz/\bS/\cB/\dj/\ed/\fB/\jw/\nt/\p7/\Ak)(p:bq->bz->bS->cB->dj->ed->fB->jw->nt->p7->Ak->ao):ao:=OB c.2<|p c.1
theorem OC{cq:Sort f8}{cY:Sort g7}{ds:Sort hW}{ex:Sort km}{ga:Sort nr}{hX:Sort p6}{k':Sort tI}{lI:Sort tJ}{n2:Sort vd}{ri:Sort xC}{u:cq->cY->ds->ex->ga->hX->k'->lI->n2->ri->Prop}{ao:Prop}(c:∃N S Z aD a_ b6 dh dt ej gb,u N S Z aD a_ b6 dh dt ej gb)(p:∀N S Z aD a_ b6 dh dt ej gb,u N S Z aD a_ b6 dh dt ej gb->ao):ao:=c.elim λN c=>OA c<|p N
theorem OD{cq:Sort f8}{cY:Sort g7}{ds:Sort hW}{ex:Sort km}{ga:Sort nr}{hX:Sort p6}{k':Sort tI}{lI:Sort tJ}{n2:Sort vd}{ri:Sort xC}{bq bz bS cB dj ed fB jw nt p7 Ak:cq->cY->ds->ex->ga->hX->k'->lI->n2->ri->Prop}{ao:Prop}(c:∃N S Z aD a_ b6 dh dt ej gb,bq N S Z aD a_ b6 dh dt ej gb/\bz N S Z aD a_ b6 dh dt ej gb/\bS N S Z aD a_ b6 dh dt ej gb/\cB N S Z aD a_ b6 dh dt ej gb/\dj N S Z aD a_ b6 dh dt ej gb/\ed N S Z aD a_ b6 dh dt ej gb/\fB N S Z aD a_ b6 dh dt ej gb/\jw N S Z aD a_ b6 dh dt ej gb/\nt N S Z aD a_ b6 dh dt ej gb/\p7 N S Z aD a_ b6 dh dt ej gb/\Ak N S Z aD a_ b6 dh dt ej gb)(p:∀N S Z aD a_ b6 dh dt ej gb,bq N S Z aD a_ b6 dh dt ej gb->bz N S Z aD a_ b6 dh dt ej gb->bS N S Z aD a_ b6 dh dt ej gb->cB N S Z aD a_ b6 dh dt ej gb->dj N S Z aD a_ b6 dh dt ej gb->ed N S Z aD a_ b6 dh dt ej gb->fB N S Z aD a_ b6 dh dt ej gb->jw N S Z aD a_ b6 dh dt ej gb->nt N S Z aD a_ b6 dh dt ej gb->p7 N S Z aD a_ b6 dh dt ej gb->Ak N S Z aD a_ b6 dh dt ej gb->ao):ao:=OC c λN S Z aD a_ b6 dh dt ej gb c=>Wp c<|p N S Z aD a_ b6 dh dt ej gb
theorem Wq{cq:Sort f8}{cY:Sort g7}{ds:Sort hW}{ex:Sort km}{ga:Sort nr}{hX:Sort p6}{k':Sort tI}{lI:Sort tJ}{n2:Sort vd}{ri:Sort xC}{xD:Sort DA}{u:cq->cY->ds->ex->ga->hX->k'->lI->n2->ri->xD->Prop}{ao:Prop}(c:∃N S Z aD a_ b6 dh dt ej gb p8,u N S Z aD a_ b6 dh dt ej gb p8)(p:∀N S Z aD a_ b6 dh dt ej gb p8,u N S Z aD a_ b6 dh dt ej gb p8->ao):ao:=c.elim λN c=>OC c<|p N
theorem Wr{cq:Sort f8}{cY:Sort g7}{ds:Sort hW}{ex:Sort km}{ga:Sort nr}{hX:Sort p6}{k':Sort tI}{lI:Sort tJ}{n2:Sort vd}{ri:Sort xC}{xD:Sort DA}{DB:Sort HD}{u:cq->cY->ds->ex->ga->hX->k'->lI->n2->ri->xD->DB->Prop}{ao:Prop}(c:∃N S Z aD a_ b6 dh dt ej gb p8 vf,u N S Z aD a_ b6 dh dt ej gb p8 vf)(p:∀N S Z aD a_ b6 dh dt ej gb p8 vf,u N S Z aD a_ b6 dh dt ej gb p8 vf->ao):ao:=c.elim λN c=>Wq c<|p N
theorem Ws{cq:Sort f8}{cY:Sort g7}{ds:Sort hW}{ex:Sort km}{ga:Sort nr}{hX:Sort p6}{k':Sort tI}{lI:Sort tJ}{n2:Sort vd}{ri:Sort xC}{xD:Sort DA}{DB:Sort HD}{Oz:Sort Oy}{u:cq->cY->ds->ex->ga->hX->k'->lI->n2->ri->xD->DB->Oz->Prop}{ao:Prop}(c:∃N S Z aD a_ b6 dh dt ej gb p8 vf HH,u N S Z aD a_ b6 dh dt ej gb p8 vf HH)(p:∀N S Z aD a_ b6 dh dt ej gb p8 vf HH,u N S Z aD a_ b6 dh dt ej gb p8 vf HH->ao):ao:=c.elim λN c=>Wr c<|p N
theorem OE{cq:Sort f8}{cY:Sort g7}{ds:Sort hW}{ex:Sort km}{ga:Sort nr}{bq bz bS cB dj ed fB jw nt p7:cq->cY->ds->ex->ga->Prop}{ao:Prop}(c:∃N S Z aD a_,bq N S Z aD a_/\bz N S Z aD a_/\bS N S Z aD a_/\cB N S Z aD a_/\dj N S Z aD a_/\ed N S Z aD a_/\fB N S Z aD a_/\jw N S Z aD a_/\nt N S Z aD a_/\p7 N S Z aD a_)(p:∀N S Z aD a_,bq N S Z aD a_->bz N S Z aD a_->bS N S Z aD a_->cB N S Z aD a_->dj N S Z aD a_->ed N S Z aD a_->fB N S Z aD a_->jw N S Z aD a_->nt N S Z aD a_->p7 N S Z aD a_->ao):ao:=xF c λN S Z aD a_ c=>OB c<|p N S Z aD a_
theorem gc{r:Prop}(c:∀ao:Prop,(r->ao)->ao):r:=c r id
@[elab_as_elim]theorem l{bk:Sort f8}{i b:bk}{ao:bk->Prop}(c:i=b)(p:ao b):ao i:=c▸p
@[elab_as_elim]theorem c2{bk:Sort f8}{i b:bk}{ao:bk->Prop}(c:b=i)(p:ao b):ao i:=c▸p
@[elab_as_elim]theorem gq{i b:Prop}{ao:Prop->Prop}(c:i↔b)(p:ao b):ao i:=propext c▸p
theorem aS{r:Prop}[Decidable r](c:decide r=W:=by exact Eq.refl W):r:=of_decide_eq_true c
theorem fv{r:Prop}[Decidable r](c:decide r=W:=by cbv):r:=of_decide_eq_true c
end
section
theorem iq{ba:Model}{u:ch}{bk:Type}{E eM:Sem bk}{J:bk->ai->Prop}{aN:au->ai->Prop}{a:ai}(j:E=eM)(c:cj ba u eM J aN a):cj ba u E J aN a:=j▸c
section
variable{ba:Model}{u:ch}{a:ai}{bk d0:Type}{aN:au->ai->Prop}{J:d0->ai->Prop}
theorem lb{i:bk}{R:bk->Sem d0}(c:cj ba u (R i) J aN a):cj ba u (dC i>>=R) J aN a:=bg<|cu c
theorem nu{i:aw}{v:Obj}{R:Obj->Sem d0}(aJ:a.heap.get? i=A v)(c:cj ba u (R v) J aN a):cj ba u (load i>>=R) J aN a:=bg<|zq aJ c
theorem ir{i:aw}{v:Obj}{V:Array au}{q:Nat}{h:au}{R:au->Sem d0}(aJ:a.heap.get? i=A v)(bp:v.data=.fields V)(ah:V[q]?=A h)(c:cj ba u (R h) J aN a):cj ba u (field (.ref i) q>>=R) J aN a:=bg<|wpAny_field aJ bp ah c
theorem me{E:Sem bk}{i:bk}{R:bk->Sem d0}(j:E=dC i)(c:cj ba u (R i) J aN a):cj ba u (E>>=R) J aN a:=bg<|nW j c
theorem kM{V:List au}{ae:Sem bk}{R:bk->Sem d0}(c:cj ba u ae (λi w=>cj ba u (R i) J aN w) aN a):cj ba u (Gg V ae>>=R) J aN a:=bg<|kH c
theorem nv{g:Prop}[Decidable g]{i b:Sem d0}(c:¬g)(p:cj ba u b J aN a):cj ba u (if g then i else b) J aN a:=iq (if_neg c) p
theorem OF{g:Prop}[Decidable g]{i b:Sem d0}(c:g)(p:cj ba u i J aN a):cj ba u (if g then i else b) J aN a:=iq (if_pos c) p
end
end
theorem gD{cq:Sort f8}{bq:cq->Prop}(N:cq)(ag:bq N):∃N,bq N:=⟨N,ag⟩
theorem dk{cq:Sort f8}{bq bz:cq->Prop}(N:cq)(ag:bq N)(aF:bz N):∃N,bq N/\bz N:=⟨N,ag,aF⟩
theorem p9{cq:Sort f8}{bq bz bS:cq->Prop}(N:cq)(ag:bq N)(aF:bz N)(bb:bS N):∃N,bq N/\bz N/\bS N:=⟨N,ag,aF,bb⟩
theorem p'{cq:Sort f8}{bq bz bS cB:cq->Prop}(N:cq)(ag:bq N)(aF:bz N)(bb:bS N)(cn:cB N):∃N,bq N/\bz N/\bS N/\cB N:=⟨N,ag,aF,bb,cn⟩
theorem Wt{cq:Sort f8}{bq bz bS cB dj:cq->Prop}(N:cq)(ag:bq N)(aF:bz N)(bb:bS N)(cn:cB N)(eC:dj N):∃N,bq N/\bz N/\bS N/\cB N/\dj N:=⟨N,ag,aF,bb,cn,eC⟩
theorem HI{cq:Sort f8}{bq bz bS cB dj ed:cq->Prop}(N:cq)(ag:bq N)(aF:bz N)(bb:bS N)(cn:cB N)(eC:dj N)(gS:ed N):∃N,bq N/\bz N/\bS N/\cB N/\dj N/\ed N:=⟨N,ag,aF,bb,cn,eC,gS⟩
theorem mf{cq:Sort f8}{cY:Sort g7}{bq:cq->cY->Prop}(N:cq)(S:cY)(ag:bq N S):∃N S,bq N S:=⟨N,S,ag⟩
theorem tL{cq:Sort f8}{cY:Sort g7}{bq bz:cq->cY->Prop}(N:cq)(S:cY)(ag:bq N S)(aF:bz N S):∃N S,bq N S/\bz N S:=⟨N,S,ag,aF⟩
theorem eH{cq:Sort f8}{cY:Sort g7}{bq bz bS:cq->cY->Prop}(N:cq)(S:cY)(ag:bq N S)(aF:bz N S)(bb:bS N S):∃N S,bq N S/\bz N S/\bS N S:=⟨N,S,ag,aF,bb⟩
theorem HJ{cq:Sort f8}{cY:Sort g7}{bq bz bS cB:cq->cY->Prop}(N:cq)(S:cY)(ag:bq N S)(aF:bz N S)(bb:bS N S)(cn:cB N S):∃N S,bq N S/\bz N S/\bS N S/\cB N S:=⟨N,S,ag,aF,bb,cn⟩
theorem HK{cq:Sort f8}{cY:Sort g7}{bq bz bS cB dj ed:cq->cY->Prop}(N:cq)(S:cY)(ag:bq N S)(aF:bz N S)(bb:bS N S)(cn:cB N S)(eC:dj N S)(gS:ed N S):∃N S,bq N S/\bz N S/\bS N S/\cB N S/\dj N S/\ed N S:=⟨N,S,ag,aF,bb,cn,eC,gS⟩
theorem OG{cq:Sort f8}{cY:Sort g7}{ds:Sort hW}{bq:cq->cY->ds->Prop}(N:cq)(S:cY)(Z:ds)(ag:bq N S Z):∃N S Z,bq N S Z:=⟨N,S,Z,ag⟩
theorem Wu{cq:Sort f8}{cY:Sort g7}{ds:Sort hW}{bq bz:cq->cY->ds->Prop}(N:cq)(S:cY)(Z:ds)(ag:bq N S Z)(aF:bz N S Z):∃N S Z,bq N S Z/\bz N S Z:=⟨N,S,Z,ag,aF⟩
theorem DJ{cq:Sort f8}{cY:Sort g7}{ds:Sort hW}{bq bz bS:cq->cY->ds->Prop}(N:cq)(S:cY)(Z:ds)(ag:bq N S Z)(aF:bz N S Z)(bb:bS N S Z):∃N S Z,bq N S Z/\bz N S Z/\bS N S Z:=⟨N,S,Z,ag,aF,bb⟩
theorem mK{cq:Sort f8}{cY:Sort g7}{ds:Sort hW}{bq bz bS cB:cq->cY->ds->Prop}(N:cq)(S:cY)(Z:ds)(ag:bq N S Z)(aF:bz N S Z)(bb:bS N S Z)(cn:cB N S Z):∃N S Z,bq N S Z/\bz N S Z/\bS N S Z/\cB N S Z:=⟨N,S,Z,ag,aF,bb,cn⟩
theorem Wv{cq:Sort f8}{cY:Sort g7}{ds:Sort hW}{bq bz bS cB dj:cq->cY->ds->Prop}(N:cq)(S:cY)(Z:ds)(ag:bq N S Z)(aF:bz N S Z)(bb:bS N S Z)(cn:cB N S Z)(eC:dj N S Z):∃N S Z,bq N S Z/\bz N S Z/\bS N S Z/\cB N S Z/\dj N S Z:=⟨N,S,Z,ag,aF,bb,cn,eC⟩
theorem OI{cq:Sort f8}{cY:Sort g7}{ds:Sort hW}{bq bz bS cB dj ed:cq->cY->ds->Prop}(N:cq)(S:cY)(Z:ds)(ag:bq N S Z)(aF:bz N S Z)(bb:bS N S Z)(cn:cB N S Z)(eC:dj N S Z)(gS:ed N S Z):∃N S Z,bq N S Z/\bz N S Z/\bS N S Z/\cB N S Z/\dj N S Z/\ed N S Z:=⟨N,S,Z,ag,aF,bb,cn,eC,gS⟩
theorem OJ{cq:Sort f8}{cY:Sort g7}{ds:Sort hW}{bq bz bS cB dj ed fB:cq->cY->ds->Prop}(N:cq)(S:cY)(Z:ds)(ag:bq N S Z)(aF:bz N S Z)(bb:bS N S Z)(cn:cB N S Z)(eC:dj N S Z)(gS:ed N S Z)(lJ:fB N S Z):∃N S Z,bq N S Z/\bz N S Z/\bS N S Z/\cB N S Z/\dj N S Z/\ed N S Z/\fB N S Z:=⟨N,S,Z,ag,aF,bb,cn,eC,gS,lJ⟩
theorem HL{cq:Sort f8}{cY:Sort g7}{ds:Sort hW}{bq bz bS cB dj ed fB jw:cq->cY->ds->Prop}(N:cq)(S:cY)(Z:ds)(ag:bq N S Z)(aF:bz N S Z)(bb:bS N S Z)(cn:cB N S Z)(eC:dj N S Z)(gS:ed N S Z)(lJ:fB N S Z)(sm:jw N S Z):∃N S Z,bq N S Z/\bz N S Z/\bS N S Z/\cB N S Z/\dj N S Z/\ed N S Z/\fB N S Z/\jw N S Z:=⟨N,S,Z,ag,aF,bb,cn,eC,gS,lJ,sm⟩
theorem Ww{cq:Sort f8}{cY:Sort g7}{ds:Sort hW}{ex:Sort km}{bq:cq->cY->ds->ex->Prop}(N:cq)(S:cY)(Z:ds)(aD:ex)(ag:bq N S Z aD):∃N S Z aD,bq N S Z aD:=⟨N,S,Z,aD,ag⟩
theorem DK{cq:Sort f8}{cY:Sort g7}{ds:Sort hW}{ex:Sort km}{bq bz:cq->cY->ds->ex->Prop}(N:cq)(S:cY)(Z:ds)(aD:ex)(ag:bq N S Z aD)(aF:bz N S Z aD):∃N S Z aD,bq N S Z aD/\bz N S Z aD:=⟨N,S,Z,aD,ag,aF⟩
theorem OK{cq:Sort f8}{cY:Sort g7}{ds:Sort hW}{ex:Sort km}{bq bz bS:cq->cY->ds->ex->Prop}(N:cq)(S:cY)(Z:ds)(aD:ex)(ag:bq N S Z aD)(aF:bz N S Z aD)(bb:bS N S Z aD):∃N S Z aD,bq N S Z aD/\bz N S Z aD/\bS N S Z aD:=⟨N,S,Z,aD,ag,aF,bb⟩
theorem Wx{cq:Sort f8}{cY:Sort g7}{ds:Sort hW}{ex:Sort km}{bq bz bS cB:cq->cY->ds->ex->Prop}(N:cq)(S:cY)(Z:ds)(aD:ex)(ag:bq N S Z aD)(aF:bz N S Z aD)(bb:bS N S Z aD)(cn:cB N S Z aD):∃N S Z aD,bq N S Z aD/\bz N S Z aD/\bS N S Z aD/\cB N S Z aD:=⟨N,S,Z,aD,ag,aF,bb,cn⟩
theorem Wy{cq:Sort f8}{cY:Sort g7}{ds:Sort hW}{ex:Sort km}{bq bz bS cB dj:cq->cY->ds->ex->Prop}(N:cq)(S:cY)(Z:ds)(aD:ex)(ag:bq N S Z aD)(aF:bz N S Z aD)(bb:bS N S Z aD)(cn:cB N S Z aD)(eC:dj N S Z aD):∃N S Z aD,bq N S Z aD/\bz N S Z aD/\bS N S Z aD/\cB N S Z aD/\dj N S Z aD:=⟨N,S,Z,aD,ag,aF,bb,cn,eC⟩
theorem HM{cq:Sort f8}{cY:Sort g7}{ds:Sort hW}{ex:Sort km}{bq bz bS cB dj ed fB:cq->cY->ds->ex->Prop}(N:cq)(S:cY)(Z:ds)(aD:ex)(ag:bq N S Z aD)(aF:bz N S Z aD)(bb:bS N S Z aD)(cn:cB N S Z aD)(eC:dj N S Z aD)(gS:ed N S Z aD)(lJ:fB N S Z aD):∃N S Z aD,bq N S Z aD/\bz N S Z aD/\bS N S Z aD/\cB N S Z aD/\dj N S Z aD/\ed N S Z aD/\fB N S Z aD:=⟨N,S,Z,aD,ag,aF,bb,cn,eC,gS,lJ⟩
theorem WA{cq:Sort f8}{cY:Sort g7}{ds:Sort hW}{ex:Sort km}{ga:Sort nr}{bq bz bS cB:cq->cY->ds->ex->ga->Prop}(N:cq)(S:cY)(Z:ds)(aD:ex)(a_:ga)(ag:bq N S Z aD a_)(aF:bz N S Z aD a_)(bb:bS N S Z aD a_)(cn:cB N S Z aD a_):∃N S Z aD a_,bq N S Z aD a_/\bz N S Z aD a_/\bS N S Z aD a_/\cB N S Z aD a_:=⟨N,S,Z,aD,a_,ag,aF,bb,cn⟩
theorem OL{cq:Sort f8}{cY:Sort g7}{ds:Sort hW}{ex:Sort km}{ga:Sort nr}{bq bz bS cB dj:cq->cY->ds->ex->ga->Prop}(N:cq)(S:cY)(Z:ds)(aD:ex)(a_:ga)(ag:bq N S Z aD a_)(aF:bz N S Z aD a_)(bb:bS N S Z aD a_)(cn:cB N S Z aD a_)(eC:dj N S Z aD a_):∃N S Z aD a_,bq N S Z aD a_/\bz N S Z aD a_/\bS N S Z aD a_/\cB N S Z aD a_/\dj N S Z aD a_:=⟨N,S,Z,aD,a_,ag,aF,bb,cn,eC⟩
theorem OM{cq:Sort f8}{cY:Sort g7}{ds:Sort hW}{ex:Sort km}{ga:Sort nr}{bq bz bS cB dj ed fB:cq->cY->ds->ex->ga->Prop}(N:cq)(S:cY)(Z:ds)(aD:ex)(a_:ga)(ag:bq N S Z aD a_)(aF:bz N S Z aD a_)(bb:bS N S Z aD a_)(cn:cB N S Z aD a_)(eC:dj N S Z aD a_)(gS:ed N S Z aD a_)(lJ:fB N S Z aD a_):∃N S Z aD a_,bq N S Z aD a_/\bz N S Z aD a_/\bS N S Z aD a_/\cB N S Z aD a_/\dj N S Z aD a_/\ed N S Z aD a_/\fB N S Z aD a_:=⟨N,S,Z,aD,a_,ag,aF,bb,cn,eC,gS,lJ⟩
theorem WB{cq:Sort f8}{cY:Sort g7}{ds:Sort hW}{ex:Sort km}{ga:Sort nr}{hX:Sort p6}{bq:cq->cY->ds->ex->ga->hX->Prop}(N:cq)(S:cY)(Z:ds)(aD:ex)(a_:ga)(b6:hX)(ag:bq N S Z aD a_ b6):∃N S Z aD a_ b6,bq N S Z aD a_ b6:=⟨N,S,Z,aD,a_,b6,ag⟩
theorem WC{cq:Sort f8}{cY:Sort g7}{ds:Sort hW}{ex:Sort km}{ga:Sort nr}{hX:Sort p6}{bq bz:cq->cY->ds->ex->ga->hX->Prop}(N:cq)(S:cY)(Z:ds)(aD:ex)(a_:ga)(b6:hX)(ag:bq N S Z aD a_ b6)(aF:bz N S Z aD a_ b6):∃N S Z aD a_ b6,bq N S Z aD a_ b6/\bz N S Z aD a_ b6:=⟨N,S,Z,aD,a_,b6,ag,aF⟩
theorem WE{cq:Sort f8}{cY:Sort g7}{ds:Sort hW}{ex:Sort km}{ga:Sort nr}{hX:Sort p6}{bq bz bS:cq->cY->ds->ex->ga->hX->Prop}(N:cq)(S:cY)(Z:ds)(aD:ex)(a_:ga)(b6:hX)(ag:bq N S Z aD a_ b6)(aF:bz N S Z aD a_ b6)(bb:bS N S Z aD a_ b6):∃N S Z aD a_ b6,bq N S Z aD a_ b6/\bz N S Z aD a_ b6/\bS N S Z aD a_ b6:=⟨N,S,Z,aD,a_,b6,ag,aF,bb⟩
theorem WF{cq:Sort f8}{cY:Sort g7}{ds:Sort hW}{ex:Sort km}{ga:Sort nr}{hX:Sort p6}{k':Sort tI}{lI:Sort tJ}{bq bz bS cB dj ed fB:cq->cY->ds->ex->ga->hX->k'->lI->Prop}(N:cq)(S:cY)(Z:ds)(aD:ex)(a_:ga)(b6:hX)(dh:k')(dt:lI)(ag:bq N S Z aD a_ b6 dh dt)(aF:bz N S Z aD a_ b6 dh dt)(bb:bS N S Z aD a_ b6 dh dt)(cn:cB N S Z aD a_ b6 dh dt)(eC:dj N S Z aD a_ b6 dh dt)(gS:ed N S Z aD a_ b6 dh dt)(lJ:fB N S Z aD a_ b6 dh dt):∃N S Z aD a_ b6 dh dt,bq N S Z aD a_ b6 dh dt/\bz N S Z aD a_ b6 dh dt/\bS N S Z aD a_ b6 dh dt/\cB N S Z aD a_ b6 dh dt/\dj N S Z aD a_ b6 dh dt/\ed N S Z aD a_ b6 dh dt/\fB N S Z aD a_ b6 dh dt:=⟨N,S,Z,aD,a_,b6,dh,dt,ag,aF,bb,cn,eC,gS,lJ⟩
theorem WG{cq:Sort f8}{cY:Sort g7}{ds:Sort hW}{ex:Sort km}{ga:Sort nr}{hX:Sort p6}{k':Sort tI}{lI:Sort tJ}{n2:Sort vd}{bq bz bS:cq->cY->ds->ex->ga->hX->k'->lI->n2->Prop}(N:cq)(S:cY)(Z:ds)(aD:ex)(a_:ga)(b6:hX)(dh:k')(dt:lI)(ej:n2)(ag:bq N S Z aD a_ b6 dh dt ej)(aF:bz N S Z aD a_ b6 dh dt ej)(bb:bS N S Z aD a_ b6 dh dt ej):∃N S Z aD a_ b6 dh dt ej,bq N S Z aD a_ b6 dh dt ej/\bz N S Z aD a_ b6 dh dt ej/\bS N S Z aD a_ b6 dh dt ej:=⟨N,S,Z,aD,a_,b6,dh,dt,ej,ag,aF,bb⟩
section
inductive jx where|x|y|z|w|u|v(q:Nat)|n(p:Nat)|o(h:jx)|a(h M:jx)|s(h M:jx)|m(p:Nat)(h:jx)|r(h:jx)(p:Nat)|g(h:jx)|c(h:jx)
inductive dV where|l(h M:jx)|t(h M:jx)|e(h M:jx)|nl(h M:jx)|iO(h M:jx)|ne(h M:jx)|cz(h M:jx)|cg(h M:jx)|eK(h M:jx)|qM(h M:jx)|oD(h M:jx)|fU(h M:jx)|f
noncomputable def qa:List Nat->Nat->Nat|h::_,0=>h|_::H,q+1=>qa H q|[],_=>0
noncomputable def qb:List Int->Nat->Int|h::_,0=>h|_::H,q+1=>qb H q|[],_=>0
variable(g:List Nat)(z:List Int)
noncomputable def lc:jx->Nat|.x=>qa g 0|.y=>qa g 1|.z=>qa g 2|.w=>qa g 3|.u=>qa g 4|.v q=>qa g q|.o h=>lc h+1|.n p=>p|.a h M=>lc h+lc M|.m p h=>p*lc h|.r h p=>lc h*p|_=>0
noncomputable def ko:jx->Int|.x=>qb z 0|.y=>qb z 1|.z=>qb z 2|.w=>qb z 3|.u=>qb z 4|.v q=>qb z q|.o h=>ko h+1|.n p=>p|.a h M=>ko h+ko M|.s h M=>ko h-ko M|.m p h=>p*ko h|.r h p=>ko h*p|.g h=>-ko h|.c h=>lc g h
def fN:dV->Prop|.l h M=>lc g h<=lc g M|.t h M=>lc g h<lc g M|.e h M=>lc g h=lc g M|.nl h M=>¬lc g h<=lc g M|.iO h M=>¬lc g h<lc g M|.ne h M=>¬lc g h=lc g M|.cz h M=>ko g z h<=ko g z M|.cg h M=>ko g z h<ko g z M|.eK h M=>ko g z h=ko g z M|.qM h M=>¬ko g z h<=ko g z M|.oD h M=>¬ko g z h<ko g z M|.fU h M=>¬ko g z h=ko g z M|.f=>False
noncomputable abbrev j1:=Int×List Int×List Int
noncomputable def sn:List Int->List Int->List Int|[],e=>e|r,[]=>r|h::r,M::e=>(h+M)::sn r e
noncomputable def tM(p:Int)(r:List Int):List Int:=r.map (p*·)
noncomputable def kp:Nat->List Int|0=>[1]|q+1=>0::kp q
noncomputable def iN:List Int->List Nat->Int|h::r,M::e=>h*M+iN r e|_,_=>0
noncomputable def iu:List Int->List Int->Int|h::r,M::e=>h*M+iu r e|_,_=>0
noncomputable def qc(h M:j1):j1:=(h.1+M.1,sn h.2.1 M.2.1,sn h.2.2 M.2.2)
noncomputable def rj(p:Int)(h:j1):j1:=(p*h.1,tM p h.2.1,tM p h.2.2)
noncomputable def hY(E:j1):Int:=E.1+iN E.2.1 g+iu E.2.2 z
noncomputable def mg:jx->j1|.x=>(0,kp 0,[])|.y=>(0,kp 1,[])|.z=>(0,kp 2,[])|.w=>(0,kp 3,[])|.u=>(0,kp 4,[])|.o h=>qc (mg h) (1,[],[])|.v q=>(0,kp q,[])|.n p=>(p,[],[])|.a h M=>qc (mg h)<|mg M|.m p h=>rj p<|mg h|.r h p=>rj p<|mg h|_=>(0,[],[])
noncomputable def kN:jx->j1|.x=>(0,[],kp 0)|.y=>(0,[],kp 1)|.z=>(0,[],kp 2)|.w=>(0,[],kp 3)|.u=>(0,[],kp 4)|.o h=>qc (kN h) (1,[],[])|.v q=>(0,[],kp q)|.n p=>(p,[],[])|.a h M=>qc (kN h)<|kN M|.s h M=>qc (kN h)<|rj (-1)<|kN M|.m p h=>rj p<|kN h|.r h p=>rj p<|kN h|.g h=>rj (-1)<|kN h|.c h=>mg h
theorem ON:∀(g:List Nat)r e,iN (sn r e) g=iN r g+iN e g
 |g,[],e=>by cases g<;>exact(tw _).symm|g,h::r,[]=>by cases g<;>exact(pc _).symm|[],h::r,M::e=>f|G::g,h::r,M::e=>by
  show(h+M)*G+iN (sn r e) g=h*G+iN r g+(M*G+iN e g);rw[ON g r e,Int.add_mul]
  ac_rfl
theorem OO:∀(g:List Int)r e,iu (sn r e) g=iu r g+iu e g
 |g,[],e=>by cases g<;>exact(tw _).symm|g,h::r,[]=>by cases g<;>exact(pc _).symm|[],h::r,M::e=>f|G::g,h::r,M::e=>by
  show(h+M)*G+iu (sn r e) g=h*G+iu r g+(M*G+iu e g);rw[OO g r e,Int.add_mul]
  ac_rfl
theorem OP(p:Int):∀(g:List Nat)r,iN (tM p r) g=p*iN r g|g,[]=>by cases g<;>exact(zL _).symm|[],h::r=>(zL _).symm|G::g,h::r=>by show p*h*G+iN (tM p r) g=p*(h*G+iN r g);rw[OP p g r,zM,GI]
theorem OQ(p:Int):∀(g:List Int)r,iu (tM p r) g=p*iu r g|g,[]=>by cases g<;>exact(zL _).symm|[],h::r=>(zL _).symm|G::g,h::r=>by show p*h*G+iu (tM p r) g=p*(h*G+iu r g);rw[OQ p g r,zM,GI]
theorem OR:∀(g:List Nat)q,iN (kp q) g=qa g q|[],0=>f|[],q+1=>f|G::g,0=>by show 1*(G:Int)+iN [] g=G;rw[Int.one_mul];cases g<;>exact pc _|G::g,q+1=>by show 0*(G:Int)+iN (kp q) g=qa g q;rw[OR g q,GJ,tw]
theorem OS:∀(g:List Int)q,iu (kp q) g=qb g q|[],0=>f|[],q+1=>f|G::g,0=>by show 1*(G:Int)+iu [] g=G;rw[Int.one_mul];cases g<;>exact pc _|G::g,q+1=>by show 0*(G:Int)+iu (kp q) g=qb g q;rw[OS g q,GJ,tw]
theorem OT(g:List Nat):iN [] g=0:=by cases g<;>rfl
theorem OU(g:List Int):iu [] g=0:=by cases g<;>rfl
theorem so(h M:j1):hY g z (qc h M)=hY g z h+hY g z M:=by
 show h.1+M.1+iN (sn _ _) g+iu (sn _ _) z=h.1+iN _ g+iu _ z+(M.1+iN _ g+iu _ z);rw[ON,OO]
 ac_rfl
theorem tN(p:Int)(h:j1):hY g z (rj p h)=p*hY g z h:=by show p*h.1+iN (tM _ _) g+iu (tM _ _) z=p*(h.1+iN _ g+iu _ z);rw[OP,OQ,zM,zM]
theorem pl(p:Int):hY g z (p,[],[])=p:=by show p+iN [] g+iu [] z=p;rw[OT,OU,pc,pc]
theorem xG(q:Nat):hY g z (0,kp q,[])=qa g q:=by show 0+iN (kp q) g+iu [] z=qa g q;rw[OR,OU,pc,tw]
theorem xH(q:Nat):hY g z (0,[],kp q)=qb z q:=by show 0+iN [] g+iu (kp q) z=qb z q;rw[OS,OT,pc,tw]
theorem mL:∀h,hY g z (mg h)=lc g h|.x=>xG g z 0|.y=>xG g z 1|.z=>xG g z 2|.w=>xG g z 3|.u=>xG g z 4|.v q=>xG g z q|.o h=>(so ..).trans<|mL h▸pl g z 1▸(MZ ..).symm|.n p=>pl g z p|.a h M=>(so ..).trans<|mL h▸mL M▸(MZ ..).symm|.m p h=>(tN ..).trans<|mL h▸(M0 ..).symm|.r h p=>(tN ..).trans<|mL h▸(C6 ..).trans (M0 ..).symm|.s _ _=>pl g z 0|.g _=>pl g z 0|.c _=>pl g z 0
theorem lK:∀h,hY g z (kN h)=ko g z h|.x=>xH g z 0|.y=>xH g z 1|.z=>xH g z 2|.w=>xH g z 3|.u=>xH g z 4|.v q=>xH g z q|.o h=>(so ..).trans<|lK h▸pl g z 1▸f|.n p=>pl g z p|.a h M=>(so ..).trans<|lK h▸lK M▸f|.s h M=>(so ..).trans<|tN g z (-1) (kN M)▸lK h▸lK M▸GK _▸GL.symm|.m p h=>(tN ..).trans<|lK h▸f|.r h p=>(tN ..).trans<|lK h▸C6 ..|.g h=>(tN ..).trans<|lK h▸(GK _).symm|.c h=>mL g z h
noncomputable def nw(M h:j1)(p:Int):j1:=qc (qc M<|rj (-1) h) (p,[],[])
theorem HN(M h:j1)(p:Int):hY g z (nw M h p)=hY g z M-hY g z h+p:=by rw[nw,so,so,tN,pl,<-GK,GL]
noncomputable def n3:dV->Bool×j1|.l h M=>(a2,nw (mg M) (mg h) 0)|.t h M=>(a2,nw (mg M) (mg h)<|-1)|.e h M=>(W,nw (mg M) (mg h) 0)|.nl h M=>(a2,nw (mg h) (mg M)<|-1)|.iO h M=>(a2,nw (mg h) (mg M) 0)|.ne _ _=>(a2,(0,[],[]))|.cz h M=>(a2,nw (kN M) (kN h) 0)|.cg h M=>(a2,nw (kN M) (kN h)<|-1)|.eK h M=>(W,nw (kN M) (kN h) 0)|.qM h M=>(a2,nw (kN h) (kN M)<|-1)|.oD h M=>(a2,nw (kN h) (kN M) 0)|.fU _ _=>(a2,(0,[],[]))|.f=>(a2,(-1,[],[]))
theorem DM{h M:j1}{i b:Int}(X:hY g z h=i)(a3:hY g z M=b)(c:i<=b):0<=hY g z (nw M h 0):=by rw[HN,X,a3,pc];exact Int.sub_nonneg_of_le c
theorem DN{h M:j1}{i b:Int}(X:hY g z h=i)(a3:hY g z M=b)(c:i<b):0<=hY g z (nw M h<|-1):=by rw[HN,X,a3];exact Int.le_sub_one_of_lt<|Int.sub_pos_of_lt c
theorem OV{h M:j1}{i b:Int}(X:hY g z h=i)(a3:hY g z M=b)(c:i=b):hY g z (nw M h 0)=0:=by rw[HN,X,a3,pc,c,Int.sub_self]
theorem OW:∀R,fN g z R->(cond (n3 R).1 (hY g z (n3 R).2=0)<|0<=hY g z (n3 R).2)|.l h M,c=>DM g z (mL g z h) (mL g z M)<|Int.ofNat_le.mpr c|.t h M,c=>DN g z (mL g z h) (mL g z M)<|GN.mpr c|.e h M,c=>OV g z (mL g z h) (mL g z M)<|congrArg Nat.cast c|.nl h M,c=>DN g z (mL g z M) (mL g z h)<|GN.mpr<|Nat.lt_of_not_le c|.iO h M,c=>DM g z (mL g z M) (mL g z h)<|Int.ofNat_le.mpr<|u4 c|.ne _ _,_=>u1 (pl g z 0).symm|.cz h M,c=>DM g z (lK g z h) (lK g z M) c|.cg h M,c=>DN g z (lK g z h) (lK g z M) c|.eK h M,c=>OV g z (lK g z h) (lK g z M) c|.qM h M,c=>DN g z (lK g z M) (lK g z h)<|Int.lt_of_not_ge c|.oD h M,c=>DM g z (lK g z M) (lK g z h)<|C7.mp c|.fU _ _,_=>u1 (pl g z 0).symm|.f,c=>c.elim
noncomputable def tO(b:Bool):dV->dV|.l h M=>.nl h M|.t h M=>.iO h M|.e h M=>cond b (.t h M)<|.t M h|.nl h M=>.l h M|.iO h M=>.t h M|.ne h M=>.e h M|.cz h M=>.qM h M|.cg h M=>.oD h M|.eK h M=>cond b (.cg h M)<|.cg M h|.qM h M=>.cz h M|.oD h M=>.cg h M|.fU h M=>.eK h M|.f=>.e (.n 0)<|.n 0
theorem WH:∀t,(fN g z (tO W t)->False)->(fN g z (tO a2 t)->False)->fN g z t|.l _ _,c,_=>Dd c|.t _ _,c,_=>Dd c|.e _ _,c,p=>u5 (u4 p)<|u4 c|.nl _ _,c,_=>c|.iO _ _,c,_=>c|.ne _ _,c,_=>c|.cz _ _,c,_=>Dd c|.cg _ _,c,_=>Dd c|.eK _ _,c,p=>Int.le_antisymm (C7.mp p)<|C7.mp c|.qM _ _,c,_=>c|.oD _ _,c,_=>c|.fU _ _,c,_=>c|.f,c,_=>c f
def gE(t:Prop):List dV->Prop|[]=>t|R::H=>fN g z R->gE t H
noncomputable def xI:List Int->List dV->Option j1|p::ce,R::H=>cond ((n3 R).1||decide (0<=p)) ((xI ce H).map<|qc<|rj p (n3 R).2) a7|[],R::H=>(xI [] H).map<|qc (n3 R).2|_,[]=>A (0,[],[])
theorem DO{L J:Prop}(c:L->J):∀H:List dV,gE g z L H->gE g z J H|[]=>c|_::H=>λe X=>DO c H<|e X
theorem HO:∀(ce:List Int)(H:List dV){E},xI ce H=A E->gE g z (0<=hY g z E) H
 |[],[],_,c=>by cases c;exact u1 (pl g z 0).symm|_::_,[],_,c=>by cases c;exact u1 (pl g z 0).symm|[],R::H,E,c=>by
  intro be;obtain⟨av,d_,rfl⟩:=C5.mp c;have step:0<=hY g z (n3 R).2:=by have a8:=OW g z R be;cases aZ:(n3 R).1 with
   |true=>rw[aZ]at a8;exact u1<|zV a8|false=>rw[aZ]at a8;exact a8
  exact DO g z (λe=>by rw[so];exact GO step e) H<|HO [] H d_|p::ce,R::H,E,c=>by intro be;have a8:=OW g z R be;replace c:cond ((n3 R).1||decide (0<=p)) ((xI ce H).map<|qc<|rj p (n3 R).2) a7=A E:=c;cases n:(n3 R).1||decide (0<=p)with
  |false=>rw[n]at c;cases c|true=>
   rw[n]at c;obtain⟨av,d_,rfl⟩:=C5.mp c;have step:0<=p*hY g z (n3 R).2:=by cases aZ:(n3 R).1 with
    |true=>rw[aZ]at a8;rw[show hY g z (n3 R).2=0 from a8];exact u1 (zL p).symm|false=>rw[aZ]at n a8;exact M1 (of_decide_eq_true n) a8
   exact DO g z (λe=>by rw[so,tN];exact GO step e) H<|HO ce H d_
noncomputable def OX(E:j1):Bool:=decide (E.1<0)&&E.2.1.all (λh=>decide<|h<=0)&&E.2.2.all (λh=>decide<|h=0)
theorem OY:∀(g:List Nat)r,r.all (λh=>decide<|h<=0)=W->iN r g<=0|[],r,_=>by cases r<;>exact GP 0|_::_,[],_=>GP 0|G::g,h::r,c=>by have c:=l9.mp c;exact Int.add_nonpos (Int.mul_nonpos_of_nonpos_of_nonneg (of_decide_eq_true c.1)<|kL G)<|OY g r c.2
theorem OZ:∀(g:List Int)r,r.all (λh=>decide<|h=0)=W->iu r g=0|[],r,_=>by cases r<;>rfl|_::_,[],_=>f|G::g,h::r,c=>by have c:=l9.mp c;show h*G+iu r g=0;rw[OZ g r c.2,of_decide_eq_true c.1,GJ,pc]
theorem WI{E:j1}(c:OX E=W):¬0<=hY g z E:=by have c:=l9.mp c;have ag:=l9.mp c.1;refine Int.not_le.mpr ?_;show E.1+iN E.2.1 g+iu E.2.2 z<0;rw[OZ z _ c.2,pc];exact Int.add_neg_of_neg_of_nonpos (of_decide_eq_true ag.1)<|OY g _ ag.2
noncomputable def eo(t:dV)(H:List dV)(b:Bool)(ce:List Int):Bool:=((xI ce<|tO b t::H).map OX).getD a2
theorem O0{t:dV}{H:List dV}{b:Bool}{ce:List Int}(c:eo t H b ce=W):fN g z (tO b t)->gE g z False H:=by have e:=λE=>HO g z ce (tO b t::H) (E:=E);rw[eo]at c;cases Q:xI ce (tO b t::H)with|none=>rw[Q]at c;cases c|some E=>rw[Q]at c;have:=e E Q;intro ay;have ee:=this ay;exact DO g z (WI g z c) H ee
theorem hZ(g:List Nat)(z:List Int)(ce i5:List Int)(t:dV)(H:List dV)(c:(eo t H W ce&&eo t H a2 i5)=W):gE g z (fN g z t) H:=by
 have c:=l9.mp c;have cV:∀H:List dV,(fN g z (tO W t)->gE g z False H)->(fN g z (tO a2 t)->gE g z False H)->gE g z (fN g z t) H:=by intro H;induction H with
  |nil=>exact λi b=>WH g z t i b|cons h H a5=>exact λi b X=>a5 (λe=>i e X)<|λe=>b e X
 exact cV H (O0 g z c.1)<|O0 g z c.2
theorem gd{fX:Int}(t:dV)(H:List dV)(c:(eo t H W []&&eo t H a2 [])=W):gE [] [fX] (fN [] [fX] t) H:=hZ [] [fX] [] [] t H c
theorem O1{fX:Int}(ce:List Int)(t:dV)(H:List dV)(c:(eo t H W ce&&eo t H a2 ce)=W):gE [] [fX] (fN [] [fX] t) H:=hZ [] [fX] ce ce t H c
theorem HP{fX ji:Int}(t:dV)(H:List dV)(c:(eo t H W []&&eo t H a2 [])=W):gE [] [fX,ji] (fN [] [fX,ji] t) H:=hZ [] [fX,ji] [] [] t H c
theorem WJ{fX ji:Int}(ce:List Int)(t:dV)(H:List dV)(c:(eo t H W ce&&eo t H a2 ce)=W):gE [] [fX,ji] (fN [] [fX,ji] t) H:=hZ [] [fX,ji] ce ce t H c
theorem bZ{cK:Nat}(t:dV)(H:List dV)(c:(eo t H W []&&eo t H a2 [])=W):gE [cK] [] (fN [cK] [] t) H:=hZ [cK] [] [] [] t H c
theorem sp{cK:Nat}(ce:List Int)(t:dV)(H:List dV)(c:(eo t H W ce&&eo t H a2 ce)=W):gE [cK] [] (fN [cK] [] t) H:=hZ [cK] [] ce ce t H c
theorem Al{cK:Nat}(ce i5:List Int)(t:dV)(H:List dV)(c:(eo t H W ce&&eo t H a2 i5)=W):gE [cK] [] (fN [cK] [] t) H:=hZ [cK] [] ce i5 t H c
theorem qd{cK:Nat}{fX:Int}(t:dV)(H:List dV)(c:(eo t H W []&&eo t H a2 [])=W):gE [cK] [fX] (fN [cK] [fX] t) H:=hZ [cK] [fX] [] [] t H c
theorem HQ{cK:Nat}{fX:Int}(ce i5:List Int)(t:dV)(H:List dV)(c:(eo t H W ce&&eo t H a2 i5)=W):gE [cK] [fX] (fN [cK] [fX] t) H:=hZ [cK] [fX] ce i5 t H c
theorem DP{cK:Nat}{fX ji:Int}(t:dV)(H:List dV)(c:(eo t H W []&&eo t H a2 [])=W):gE [cK] [fX,ji] (fN [cK] [fX,ji] t) H:=hZ [cK] [fX,ji] [] [] t H c
theorem c'{cK dL:Nat}(t:dV)(H:List dV)(c:(eo t H W []&&eo t H a2 [])=W):gE [cK,dL] [] (fN [cK,dL] [] t) H:=hZ [cK,dL] [] [] [] t H c
theorem gT{cK dL:Nat}(ce:List Int)(t:dV)(H:List dV)(c:(eo t H W ce&&eo t H a2 ce)=W):gE [cK,dL] [] (fN [cK,dL] [] t) H:=hZ [cK,dL] [] ce ce t H c
theorem pm{cK dL:Nat}(ce i5:List Int)(t:dV)(H:List dV)(c:(eo t H W ce&&eo t H a2 i5)=W):gE [cK,dL] [] (fN [cK,dL] [] t) H:=hZ [cK,dL] [] ce i5 t H c
theorem xJ{cK dL:Nat}{fX:Int}(t:dV)(H:List dV)(c:(eo t H W []&&eo t H a2 [])=W):gE [cK,dL] [fX] (fN [cK,dL] [fX] t) H:=hZ [cK,dL] [fX] [] [] t H c
theorem HR{cK dL:Nat}{fX:Int}(ce:List Int)(t:dV)(H:List dV)(c:(eo t H W ce&&eo t H a2 ce)=W):gE [cK,dL] [fX] (fN [cK,dL] [fX] t) H:=hZ [cK,dL] [fX] ce ce t H c
theorem gv{cK dL eF:Nat}(t:dV)(H:List dV)(c:(eo t H W []&&eo t H a2 [])=W):gE [cK,dL,eF] [] (fN [cK,dL,eF] [] t) H:=hZ [cK,dL,eF] [] [] [] t H c
theorem iO{cK dL eF:Nat}(ce:List Int)(t:dV)(H:List dV)(c:(eo t H W ce&&eo t H a2 ce)=W):gE [cK,dL,eF] [] (fN [cK,dL,eF] [] t) H:=hZ [cK,dL,eF] [] ce ce t H c
theorem oJ{cK dL eF:Nat}(ce i5:List Int)(t:dV)(H:List dV)(c:(eo t H W ce&&eo t H a2 i5)=W):gE [cK,dL,eF] [] (fN [cK,dL,eF] [] t) H:=hZ [cK,dL,eF] [] ce i5 t H c
theorem xK{cK dL eF:Nat}{fX:Int}(t:dV)(H:List dV)(c:(eo t H W []&&eo t H a2 [])=W):gE [cK,dL,eF] [fX] (fN [cK,dL,eF] [fX] t) H:=hZ [cK,dL,eF] [fX] [] [] t H c
theorem WK{cK dL eF:Nat}{fX:Int}(ce:List Int)(t:dV)(H:List dV)(c:(eo t H W ce&&eo t H a2 ce)=W):gE [cK,dL,eF] [fX] (fN [cK,dL,eF] [fX] t) H:=hZ [cK,dL,eF] [fX] ce ce t H c
theorem nx{cK dL eF gU:Nat}(t:dV)(H:List dV)(c:(eo t H W []&&eo t H a2 [])=W):gE [cK,dL,eF,gU] [] (fN [cK,dL,eF,gU] [] t) H:=hZ [cK,dL,eF,gU] [] [] [] t H c
theorem ny{cK dL eF gU:Nat}(ce:List Int)(t:dV)(H:List dV)(c:(eo t H W ce&&eo t H a2 ce)=W):gE [cK,dL,eF,gU] [] (fN [cK,dL,eF,gU] [] t) H:=hZ [cK,dL,eF,gU] [] ce ce t H c
theorem HS{cK dL eF gU:Nat}(ce i5:List Int)(t:dV)(H:List dV)(c:(eo t H W ce&&eo t H a2 i5)=W):gE [cK,dL,eF,gU] [] (fN [cK,dL,eF,gU] [] t) H:=hZ [cK,dL,eF,gU] [] ce i5 t H c
theorem xL{cK dL eF gU jy:Nat}(t:dV)(H:List dV)(c:(eo t H W []&&eo t H a2 [])=W):gE [cK,dL,eF,gU,jy] [] (fN [cK,dL,eF,gU,jy] [] t) H:=hZ [cK,dL,eF,gU,jy] [] [] [] t H c
theorem qe{cK dL eF gU jy:Nat}(ce:List Int)(t:dV)(H:List dV)(c:(eo t H W ce&&eo t H a2 ce)=W):gE [cK,dL,eF,gU,jy] [] (fN [cK,dL,eF,gU,jy] [] t) H:=hZ [cK,dL,eF,gU,jy] [] ce ce t H c
theorem tP{cK dL eF gU jy:Nat}(ce i5:List Int)(t:dV)(H:List dV)(c:(eo t H W ce&&eo t H a2 i5)=W):gE [cK,dL,eF,gU,jy] [] (fN [cK,dL,eF,gU,jy] [] t) H:=hZ [cK,dL,eF,gU,jy] [] ce i5 t H c
theorem O2{cK dL eF gU jy qg:Nat}(ce:List Int)(t:dV)(H:List dV)(c:(eo t H W ce&&eo t H a2 ce)=W):gE [cK,dL,eF,gU,jy,qg] [] (fN [cK,dL,eF,gU,jy,qg] [] t) H:=hZ [cK,dL,eF,gU,jy,qg] [] ce ce t H c
theorem HT{cK dL eF gU jy qg:Nat}(ce i5:List Int)(t:dV)(H:List dV)(c:(eo t H W ce&&eo t H a2 i5)=W):gE [cK,dL,eF,gU,jy,qg] [] (fN [cK,dL,eF,gU,jy,qg] [] t) H:=hZ [cK,dL,eF,gU,jy,qg] [] ce i5 t H c
theorem O3{cK dL eF gU jy qg HU:Nat}(ce i5:List Int)(t:dV)(H:List dV)(c:(eo t H W ce&&eo t H a2 i5)=W):gE [cK,dL,eF,gU,jy,qg,HU] [] (fN [cK,dL,eF,gU,jy,qg,HU] [] t) H:=hZ [cK,dL,eF,gU,jy,qg,HU] [] ce i5 t H c
theorem fk(i b:Nat):i<=i-b+b:=GR.mp<|dD _
theorem eu{i b:Nat}(c:b<=i):i-b+b=i:=M8 c
theorem lL{i b:Nat}(c:i<=b):i-b=0:=Nat.sub_eq_zero_of_le c
theorem pn(h p:Nat):p*(h/p)<=h:=M9 h p
theorem qh(h p:Nat):h<(p+1)*(h/(p+1))+(p+1):=Nat.lt_mul_div_succ h<|r_ p
theorem WL(h p:Nat):h%(p+1)<p+1:=GS h<|r_ p
theorem WM(h p:Nat):p*(h/p)+h%p=h:=tx h p
theorem qi(i b:Nat):min i b<=i:=Nat.min_le_left i b
theorem vg(i b:Nat):min i b<=b:=Nat.min_le_right i b
theorem Am{i b:Nat}(c:i<=b):min i b=i:=u6 c
theorem O4{i b:Nat}(c:b<=i):min i b=b:=xj c
theorem O5(i b:Nat):i<=max i b:=Nat.le_max_left i b
theorem WN(i b:Nat):b<=max i b:=GT i b
theorem qj(h:Int):h<=h.toNat:=Int.self_le_toNat h
theorem oK{h:Int}(c:0<=h):h.toNat=h:=M2 c
theorem WO(h:Int)(p:Nat):0<=h%((p+1:Nat):Int):=Int.emod_nonneg h<|Int.natCast_ne_zero.mpr<|GU p
theorem WP(h:Int)(p:Nat):h%((p+1:Nat):Int)<((p+1:Nat):Int):=Int.emod_lt_of_pos h<|M3.mpr<|r_ p
end
section
variable{bk:Type}{L:bk->Prop}{i b g:bk}{H D:List bk}
theorem gr(c:L i)(p:∀b∈H,L b):∀b∈i::H,L b:=λb e=>(e1.mp e).elim (λj=>j▸c)<|p b
theorem aP:∀b∈([]:List bk),L b:=λx e=>nomatch e
theorem kO(c:L i):∀b∈[i],L b:=gr c aP
theorem h'(c:L i)(p:L b):∀g∈[i,b],L g:=gr c<|kO p
theorem bD{ao:Prop}(e:i∈H++D)(c:i∈H->ao)(p:i∈D->ao):ao:=(jW.mp e).elim c p
theorem di{ao:Prop}(e:i∈b::H)(c:i=b->ao)(p:i∈H->ao):ao:=(e1.mp e).elim c p
theorem bO(e:i∈H):i∈H++D:=tA _ e
theorem bB(e:i∈D):i∈H++D:=xl _ e
theorem bc(e:i∈[b]):i=b:=kl.mp e
theorem bm:i∈i::H:=G5
theorem mt(e:i∈H):i∈b::H:=zW _ e
theorem qk{bk:Sort av}{d0:Sort B}{i:bk}{b:d0}{ao:bk->d0->Prop}(c:ao i b):∀h M,h=i/\M=b->ao h M:=λx x j=>j.1▸j.2▸c
theorem b4{i b:Nat}{L:Prop}(c:i<b)(p:b<=i):L:=absurd c<|Nat.not_lt.mpr p
theorem j2{bk d0:Type}{R:bk->d0}{H:List bk}{b:d0}{ao:Prop}(c:b∈H.map R)(p:∀i,i∈H->R i=b->ao):ao:=(zX.mp c).elim λi e=>p i e.1 e.2
theorem n4{bk d0:Type}{R:bk->d0}{h:Option bk}{b:d0}{ao:Prop}(c:h.map R=A b)(p:∀i,h=A i->R i=b->ao):ao:=(C5.mp c).elim λi e=>p i e.1 e.2
theorem jj{L:Prop}(c:a2=W):L:=nomatch c
theorem HV{L:Prop}(c:W=a2):L:=nomatch c
theorem d1{bk:Type av}{i:bk}{L:Prop}(c:a7=A i):L:=nomatch c
theorem DQ{bk:Type av}{i:bk}{L:Prop}(c:A i=a7):L:=nomatch c
theorem dI{bk:Type av}{i:bk}{L:Prop}(c:i∈([]:List bk)):L:=nomatch c
theorem nz{bk:Type av}{i b:bk}(c:A i=A b):i=b:=fu c
end
noncomputable def ql:List String:=["bytearray.__contains__","bytearray.__mod__","bytearray.__rmod__","_struct.pack_into.held","bytearray.find.held"]++Nz
noncomputable def rk:iI->Bool|.builtin id bC=>ql.contains id|_=>a2
def sq(H:List<|iI×Pos):Prop:=∀h∈H,rk h.1=a2
def I(prog:cL)(k:ck)(u:ch)(E:Sem bk)(J:bk->ai->Prop)(a:ai):Prop:=∀C r,C.In u->rk C.code=a2->sq C.below->jY (cG prog k) C E (λi x w=>J i w) (λx x x=>False) r a
def d6(prog:cL)(k:ck)(u:ch)(g:iI)(cM:gn->ai->Prop)(a:ai):Prop:=∀C r,C.code=g->C.Below u->sq C.below->wpCode (cG prog k) C (λD w=>match D with|.ok R=>cM R w|.error _=>False) r a
theorem I.of(c:cj (cG prog k) u E J (λx x=>False) a):I prog k u E J a:=λC r b7 x x=>c C r b7
theorem d6.of(c:zr (cG prog k) u g (λD w=>match D with|.ok R=>cM R w|.error _=>False) a):d6 prog k u g cM a:=λC r aO b7 x=>c C r aO b7
theorem I.pure(c:J i a):I prog k u (pure i) J a:=λx x x x x=>c
theorem I.mono(c:I prog k u E J a)(ac:∀i a,J i a->nA i a):I prog k u E nA a:=λC r b7 ag aF=>mc _ C E (λi x w=>ac i w) (λx x x h=>h) r a<|c C r b7 ag aF
theorem I.bind(c:I prog k u ae (λi w=>I prog k u (R i) J w) a):I prog k u (ae>>=R) J a:=λC r b7 ag aF=>by exact l (z_ ..)<|mc _ C ae (λi bR w aa=>aa C bR b7 ag aF) (λx x x aa=>aa) r a<|c C r b7 ag aF
theorem I.holding(c:I prog k u ae J a):I prog k u (Gg V ae) J a:=λC r b7 ag aF=>by exact l (Sem.wp_holding ..)<|c C r b7 ag aF
theorem I.keep(c:I prog k u ae J a):I prog k u (ae.keep V) J a:=λC r b7 ag aF=>by exact l (Sem.wp_keep ..)<|c C r b7 ag aF
theorem I.onRaise(c:I prog k u ae J a):I prog k u (ae.onRaise p) J a:=λC r b7 ag aF=>by exact l (NH ..)<|mc _ C ae (λx x x aa=>aa) (λx x x aa=>aa.elim) r a<|c C r b7 ag aF
theorem I.tryCatch(c:I prog k u ae J a):I prog k u (ae.tryCatch p) J a:=λC r b7 ag aF=>by exact l (Sem.wp_tryCatch ..)<|mc _ C ae (λx x x aa=>aa) (λx x x aa=>aa.elim) r a<|c C r b7 ag aF
theorem I.attempt{ae:Sem bk}{J:Except au bk->ai->Prop}(c:I prog k u ae (λi w=>J (.ok i) w) a):I prog k u ae.attempt J a:=λC r b7 ag aF=>by exact l (Sem.wp_attempt ..)<|mc _ C ae (λx x x aa=>aa) (λx x x aa=>aa.elim) r a<|c C r b7 ag aF
theorem I.eq(j:E=eM)(c:I prog k u eM J a):I prog k u E J a:=j▸c
theorem I.run(aO:d6 prog k u g J a):I prog k u (PySem.run g) J a:=λC r b7 ag aF=>by
 refine l (Sem.wp_run ..) ?_;have po:(C.enter g a7 r).Below u:=b7.enter g a7 r (by intro h;exact d1 h);refine zs (λD w h=>?_)<|aO (C.enter g a7 r) r f po ?_
 .cases D with|ok R=>exact h|error j=>exact h.elim
 .intro h X
  revert h;refine gr ?_ ?_
  .exact ag
  .intro h X;exact aF h X
theorem I.runOwn(aO:d6 prog k u g J a):I prog k u (PySem.runOwn g m) J a:=I.onRaise<|I.run aO
theorem I.runValue(aO:d6 prog k u g (λR w=>∃B,R=.ret B/\J B w) a):I prog k u (PySem.runValue g) J a:=by refine I.bind<|I.mono (I.run aO) ?_;rintro R w bK;exact bl bK λB b8 c=>l b8<|I.pure c
theorem I.call(aO:d6 prog k u (.call R ⟨ak,O6⟩) (λR w=>∃B,R=.ret B/\J B w) a):I prog k u (et R ak O6) J a:=I.runValue aO
def xM(prog:cL)(k:ck)(u:ch)(cM:gn->ai->Prop)(hi:Fin)(w:ai):Prop:=match hi with|.done R=>cM R w|.again aR=>aR.quiet=W/\d6 prog k u aR cM w
theorem d6.lZ(b':rk g=a2)(c:I prog k (u.under g) (tn table g) (xM prog k u cM) a):d6 prog k u g cM a:=λC r aO b7 aF=>by refine gq (CK ..)<|l aO<|mc _ C _ (λhi bR w aa=>?_) (λx x x aa=>aa) r a<|c C r (aO▸b7.in) (aO▸b') aF;cases hi with|done R=>exact aa|again aR=>exact⟨aa.1,aa.2 (C.goto aR) bR f (b7.goto aR) aF⟩
theorem d6.mono(c:d6 prog k u g cM a)(iP:∀R a,cM R a->WQ R a):d6 prog k u g WQ a:=λC r aO b7 aF=>zs (λD w h=>by cases D with|ok R=>exact iP R w h|error j=>exact h)<|c C r aO b7 aF
theorem d6.loop(b':rk g=a2)(aZ:g.quiet=W)(aj:Nat->ai->Prop)(mh:∀s a,aj s a->I prog k (u.under g) (tn table g) (λhi w=>match hi with|.done R=>cM R w|.again aR=>(aR=g/\∃ae,ae<s/\aj ae w)\/(aR.quiet=W/\d6 prog k u aR cM w)) a)(s:Nat)(c:aj s a):d6 prog k u g cM a:=by induction s using GV generalizing a with|ind s a5=>refine d6.lZ b'<|I.mono (mh s a c) λhi w be=>?_;cases hi with|done R=>exact be|again aR=>
   rcases be with⟨rfl,ae,bw,lf⟩|be
   .exact⟨aZ,a5 ae bw lf⟩
   .exact be
theorem d6.builtin{id:String}{fO:Args}{b:uP}{cM:gn->ai->Prop}(b':rk (.builtin id fO)=a2)(n:kI table id=A b)(c:I prog k (u.under<|.builtin id fO) (b fO) (xM prog k u cM) a):d6 prog k u (.builtin id fO) cM a:=by refine d6.lZ b' ?_;show I prog k _ (match kI table id with|some b=>b fO|none=>unsupported<|(withoutEnding? id "#data").getD id) _ a;exact l n c
theorem An{id vh:String}(c:ql.contains id=a2)(aM:ql.contains vh=W):id≠vh:=λj=>nomatch(j▸c).symm.trans aM
theorem Ao[Decidable g](c:¬g)(p:j c=M):dite g E j=M:=(dif_neg c).trans p
set_option tactic.hygienic true in theorem I.exported(c:J a2 a):I prog k u (z9 pp) J a:=λC r x ag aF=>by
 have aO:sq ((C.code,r)::C.below):=λh X=>di X (λj=>j▸ag)<|aF h;refine Eq.mpr (congrArg (λb=>J b a) (List.any_eq_false.mpr λh X=>?_:List.any _ _=a2)) c;have aZ:=aO h X;clear X;obtain⟨g,e⟩:=h;cases g
 case builtin id fO=>
  refine l (Bool.not_eq_true ..) ?_
  delta VX
  dsimp only[z9._sparseCasesOn_1];refine Ao (An (vh:="bytearray.__contains__") aZ f)<|Ao (An (vh:="bytearray.__mod__") aZ f)<|Ao (An (vh:="bytearray.__rmod__") aZ f)<|Ao (An (vh:="_struct.pack_into.held") aZ f)<|Ao (An (vh:="bytearray.find.held") aZ f) ?_;obtain⟨ak,O6⟩:=fO;cases ak with
  |nil=>rfl|cons B D=>
   have j:Nz.contains id=a2:=by have lg:ql.contains id=a2:=aZ;unfold ql at lg;rw[List.contains_append,Gc]at lg;exact lg.2
   exact(congrArg (_&&·) j).trans<|Bool.and_false _
 all_goals exact zp
section
theorem dQ(c:I prog k u (p ()) J a):I prog k u (zt ak>>=p) J a:=I.bind<|I.of<|pY c
theorem ea(c:I prog k u (R i) J a):I prog k u (dC i>>=R) J a:=I.bind<|I.pure c
theorem d2(c:I prog k u ae (λi w=>I prog k u (R i) J w) a):I prog k u (Gg V ae>>=R) J a:=I.bind<|I.holding c
theorem g8(c:I prog k u ae L a)(p:∀i w,L i w->I prog k u (R i) J w):I prog k u (ae>>=R) J a:=I.bind<|I.mono c p
theorem dv(c:cj (cG prog k) u ae (λi w=>I prog k u (R i) J w) (λx x=>False) a):I prog k u (ae>>=R) J a:=I.bind<|I.of c
theorem fY[Decidable g](c:¬g)(p:I prog k u b J a):I prog k u (if g then i else b) J a:=I.eq (if_neg c) p
theorem tQ[Decidable g](c:g)(p:I prog k u i J a):I prog k u (if g then i else b) J a:=I.eq (if_pos c) p
end
section
open PySem PySem.F
theorem vi:Hg.lookup (Hh ['y','a','r','r','a','e','t','y','b'].reverse)=A Manifest.sig_bytearray:=by cbv
theorem HW:Slot "bytearray" "__len__" "bytearray.__len__":=.of (owner:="bytearray") (n:="__len__") (by rw[hq,hr];cbv) (by decide+kernel) (by decide+kernel) (by decide+kernel) (by first|exact .inl (by decide+kernel)|exact .inr (by decide+kernel)) (by rw[kj];cbv)
theorem WR:kI table "bytearray.__len__"=A VY:=oA (by cbv)
theorem WS(i:au):iJ "bytearray.__len__" ⟨[i],[]⟩:=by unfold iJ;rw[q_ (id:="bytearray.__len__") (n:=['_','_','n','e','l','_','_']) (o:=['y','a','r','r','a','e','t','y','b']) (by cbv) vi];cbv
theorem vj:Slot "bytearray" "__getitem__" "bytearray.__getitem__":=.of (owner:="bytearray") (n:="__getitem__") (by rw[hq,hr];cbv) (by decide+kernel) (by decide+kernel) (by decide+kernel) (by first|exact .inl (by decide+kernel)|exact .inr (by decide+kernel)) (by rw[kj];cbv)
theorem O7:kI table "bytearray.__getitem__"=A VZ:=oA (by cbv)
theorem O8(i b:au):iJ "bytearray.__getitem__" ⟨[i,b],[]⟩:=by unfold iJ;rw[q_ (id:="bytearray.__getitem__") (n:=['_','_','m','e','t','i','t','e','g','_','_']) (o:=['y','a','r','r','a','e','t','y','b']) (by cbv) vi];cbv
theorem O9:Slot "bytearray" "__setitem__" "bytearray.__setitem__":=.of (owner:="bytearray") (n:="__setitem__") (by rw[hq,hr];cbv) (by decide+kernel) (by decide+kernel) (by decide+kernel) (by first|exact .inl (by decide+kernel)|exact .inr (by decide+kernel)) (by rw[kj];cbv)
theorem WT:kI table "bytearray.__setitem__"=A V0:=oA (by cbv)
theorem WV(i b g:au):iJ "bytearray.__setitem__" ⟨[i,b,g],[]⟩:=by unfold iJ;rw[q_ (id:="bytearray.__setitem__") (n:=['_','_','m','e','t','i','t','e','s','_','_']) (o:=['y','a','r','r','a','e','t','y','b']) (by cbv) vi];cbv
theorem O_:Slot "bytearray" "__iter__" "bytearray.__iter__":=.of (owner:="bytearray") (n:="__iter__") (by rw[hq,hr];cbv) (by decide+kernel) (by decide+kernel) (by decide+kernel) (by first|exact .inl (by decide+kernel)|exact .inr (by decide+kernel)) (by rw[kj];cbv)
theorem WW:kI table "bytearray.__iter__"=A V1:=oA (by cbv)
theorem WX(i:au):iJ "bytearray.__iter__" ⟨[i],[]⟩:=by unfold iJ;rw[q_ (id:="bytearray.__iter__") (n:=['_','_','r','e','t','i','_','_']) (o:=['y','a','r','r','a','e','t','y','b']) (by cbv) vi];cbv
theorem DR:Slot "bytearray" "extend" "bytearray.extend":=.of (owner:="bytearray") (n:="extend") (by rw[hq,hr];cbv) (by decide+kernel) (by decide+kernel) (by decide+kernel) (by first|exact .inl (by decide+kernel)|exact .inr (by decide+kernel)) (by rw[kj];cbv)
theorem HX:kI table "bytearray.extend"=A V2:=oA (by cbv)
theorem WY:typeOf (.builtin "bytearray.extend")=pure (.type "method_descriptor"):=by show builtinType _=_;rw[MI];cbv
theorem HY(i b:au):iJ "bytearray.extend" ⟨[i,b],[]⟩:=by unfold iJ;rw[q_ (id:="bytearray.extend") (n:=['d','n','e','t','x','e']) (o:=['y','a','r','r','a','e','t','y','b']) (by cbv) vi];cbv
theorem O':Slot "bytearray" "pop" "bytearray.pop":=.of (owner:="bytearray") (n:="pop") (by rw[hq,hr];cbv) (by decide+kernel) (by decide+kernel) (by decide+kernel) (by first|exact .inl (by decide+kernel)|exact .inr (by decide+kernel)) (by rw[kj];cbv)
theorem WZ:kI table "bytearray.pop"=A NK:=oA (by cbv)
theorem W0:typeOf (.builtin "bytearray.pop")=pure (.type "method_descriptor"):=by show builtinType _=_;rw[MI];cbv
theorem W1(i b:au):iJ "bytearray.pop" ⟨[i,b],[]⟩:=by unfold iJ;rw[q_ (id:="bytearray.pop") (n:=['p','o','p']) (o:=['y','a','r','r','a','e','t','y','b']) (by cbv) vi];cbv
end
section
open PySem PySem.F PySem.Calls
variable{prog:cL}{k:ck}{u:ch}{a:ai}{aN:au->ai->Prop}
noncomputable def cf(b:Array UInt8):Obj:={cls:=.type "bytearray",data:=.bytearray b 0}
theorem gF{i:aw}{b:Array UInt8}(c:a.heap.get? i=A (cf b)):a.TypeIs (.ref i) "bytearray":=⟨_,c,f⟩
theorem Pa(aJ:a.heap.get? i=A (cf b))(ia:(b.size:Int)<2^63)(c:J (.int b.size<|a.toks+1) {a with toks:=a.toks+1+1}):cj (cG prog k) u (call (.builtin "len") [.ref i]) J aN a:=by refine call_function_entry kind_len plain_len entry_len (args_len1 _)<|bg (m:=oneArg "len" _)<|cu ?_;refine bg (m:=callSpecial? (.ref i)<|hg "__len__")<|ni (name:=hg "__len__") (gF aJ) HW (kJ HW (gF aJ) WR ?_<|WS _);show cj _ _ (do retInt (<-NA<|.ref i).size) _ _ a;exact bg<|bg<|nu aJ<|cu<|cu<|bg<|r3<|cu<|dk _ f<|kM<|cu<|bg<|uQ<|nv (bZ (.oD (.c .x)<|.n 0) [] f)<|nv (bZ (.qM (.n 9223372036854775808)<|.c .x) [.cg (.c .x)<|.n 9223372036854775808] f ia)<|bg<|r3<|cu<|dk _ f c
theorem W2(aG:0<=p)(c:p<2^63):NB p=W:=by unfold NB;simp only[jU,decide_eq_true_eq];exact⟨gd (.cz (.g<|.n 9223372036854775808) .x) [.cz (.n 0) .x] f aG,c⟩
theorem Pb(aG:0<=p)(nB:p<2^63)(c:J (A p) a):cj (cG prog k) u (NC<|.int p E) J aN a:=by refine bg<|g6 (T:="int") (w6 a p E) int_index<|me (i:=p) f<|nv (by refine l (W2 aG nB) ?_;decide) ?_;exact cu c
theorem vk(aJ:a.heap.get? i=A (cf b))(c:J b a):cj (cG prog k) u (NA<|.ref i) J aN a:=bg<|nu aJ<|cu<|cu c
theorem Pc{p:Int}{s:Nat}(aG:0<=p)(ay:p<s):w7 p s=A p.toNat:=by unfold w7;simp only[show¬p<0 by exact gd (.oD .x<|.n 0) [.cz (.n 0) .x] f aG,if_false,jU,decide_eq_true_eq,aG,ay,and_self,if_true]
theorem Pd{i:aw}{b:Array UInt8}{p:Int}{E:Tok}{h:UInt8}{J:au->ai->Prop}(aJ:a.heap.get? i=A (cf b))(aG:0<=p)(nB:p<2^63)(X:b[p.toNat]?=A h)(c:J (.int h.toNat a.toks) {a with toks:=a.toks+1}):cj (cG prog k) u (getItem (.ref i)<|.int p E) J aN a:=by
 refine kH<|bg<|zu (gF aJ) aS ?_;refine bg<|ni (name:=hg "__getitem__") (gF aJ) vj (kJ vj (gF aJ) O7 ?_<|O8 _ _);show cj _ _ (NC (.int p E)>>=_) _ _ a;refine bg<|Pb aG nB<|bg<|vk aJ<|iq (l (Pc aG (by exact xJ (.cg .x<|.c .x) [.t .y .x,.cz .x<|.c .y] f ((Hj.mp X).1)<|qj _)) f) ?_
 dsimp only[MW];refine iq (l X f) ?_;exact bg<|r3<|cu<|dk _ f<|cu c
end
section
open PySem PySem.F PySem.Calls
theorem Pe{c:e0}{i:aw}{b:Array UInt8}{R:Array UInt8->Array UInt8}(aJ:c.get? i=A (cf b)):(c.update i<|NV R).get? i=A (cf<|R b):=n1 (NV R) aJ f
theorem tR{i:aw}{b:Array UInt8}{R:Array UInt8->Array UInt8}{J:Unit->ai->Prop}(aJ:a.heap.get? i=A (cf b))(U:(R b).size<=cp)(c:∀aa,aa.get? i=A (cf<|R b)->hV i a.heap aa->J () {a with heap:=aa}):cj (cG prog k) u (Hf (.ref i) R) J aN a:=by refine nu aJ<|bg<|wpAny_update aJ<|wpAny_lookBehind (Pe aJ) ?_<|c _ (Pe aJ)<|sd ..;show(if(R b).size>cp then A "bytearray:memory"else a7)=a7;exact(if_neg<|Nat.not_lt.mpr U).symm▸f
theorem Pf(aG:0<=p)(ag:p<256)(c:J p.toNat.toUInt8 a):cj (cG prog k) u (Builtin.Bytes.byteValue<|.int p E) J aN a:=by exact me (i:=p) f<|nv (by simp only[w5,decide_eq_true_eq];exact not_or.mpr ⟨gd (.oD .x<|.n 0) [.cz (.n 0) .x] f aG,gd (.qM (.n 256) .x) [.cg .x<|.n 256] f ag⟩)<|cu c
theorem W3{i:aw}{b:Array UInt8}{p B:Int}{E nC:Tok}{J:Unit->ai->Prop}(aJ:a.heap.get? i=A (cf b))(aG:0<=p)(nB:p<2^63)(ay:p<b.size)(HZ:0<=B)(xN:B<256)(U:b.size<=cp)(c:∀aa,aa.get? i=A (cf<|b.setIfInBounds p.toNat B.toNat.toUInt8)->hV i a.heap aa->J () {a with heap:=aa}):cj (cG prog k) u (w8 (.ref i) (.int p E)<|.int B nC) J aN a:=by refine kH<|bg<|zu (gF aJ) aS ?_;refine bg<|ni (name:=hg "__setitem__") (gF aJ) O9 (kJ O9 (gF aJ) WT ?_<|WV _ _ _);refine bg<|Pb aG nB<|bg<|Pf HZ xN<|bg<|vk aJ<|iq (l (Pc aG ay) f) ?_;exact bg<|tR aJ (by simpa using U) λaa aK Q=>cu<|dk _ f<|cu<|c aa aK Q
end
section
open PySem PySem.F PySem.Calls
theorem DS{id:String}{fO:Args}(c:ql.contains id=a2):rk (.builtin id fO)=a2:=c
theorem d6.slot{a0:String}{name:Str}{id:String}{b:uP}{pp:au}{b_:List au}{cM:gn->ai->Prop}(c:Slot a0 name id)(cz:a.TypeIs pp a0)(n:kI table id=A b)(b':ql.contains id=a2)(aO:I prog k u.in1 (b ⟨pp::b_,[]⟩) (xM prog k u cM) a)(aX:iJ id ⟨pp::b_,[]⟩):d6 prog k u (.call (.builtin id) ⟨pp::b_,[]⟩) cM a:=by refine d6.lZ f ?_;show I prog k u.in1 (do uR id ⟨pp::b_,[]⟩;again<|.builtin id ⟨pp::b_,[]⟩) _ a;exact dv<|c.check _ _ _ _ _ _ _ _ cz aX<|I.pure ⟨nX c.plain _,d6.builtin (DS b') n<|l (Around.under_plainId c.plain ..) aO⟩
theorem I.vZ{a0:String}{name:Str}{id:String}{b:uP}{pp:au}{b_:List au}{J:au->ai->Prop}(c:Slot a0 name id)(cz:a.TypeIs pp a0)(n:kI table id=A b)(b':ql.contains id=a2)(aX:iJ id ⟨pp::b_,[]⟩)(aO:I prog k u.in1 (b ⟨pp::b_,[]⟩) (xM prog k u λR w=>∃B,R=.ret B/\J B w) a):I prog k u (et (.builtin id)<|pp::b_) J a:=I.call<|d6.slot c cz n b' aO aX
theorem Pg(aJ:a.heap.get? i=A (cf b))(c:J () a):I prog k u (ND<|.ref i) J a:=by exact I.bind<|I.bind (ae:=z9<|.ref i)<|I.exported<|I.of<|bg<|nu aJ<|cu<|cu<|λC r x ay aF=>c
theorem W4(aJ:a.heap.get? i=A (cf b))(ay:0<b.size)(U:b.size<=cp)(c:∀aa,aa.get? i=A (cf<|b.eraseIdxIfInBounds<|b.size-1)->hV i a.heap aa->J (.int (b[b.size-1]'(by exact c' (.t .x .y) [.e (.a .x<|.n 1) .y] f<|eu<|bZ (.l (.n 1) .x) [.t (.n 0) .x] f ay)).toNat a.toks) {a with heap:=aa,toks:=a.toks+1}):I prog k u (et (.builtin "bytearray.pop") [.ref i,.int (-1) E]) J a:=by
 refine I.vZ O' (gF aJ) WZ (by decide+kernel) (W1 _ _) ?_;unfold NK;refine dv<|nW (a:=(e8 i,[se (-1) E])) f<|dv<|nW (a:=(-1:Int)) f<|dv<|vk aJ ?_
 dsimp only;refine fY (by simp only[Hk];intro j;subst j;simp at ay) ?_;have ah:w7 (-1) b.size=A (b.size-1):=by unfold w7;simp only[show(-1:Int)<0 by decide,if_true,jU,decide_eq_true_eq];exact l (if_pos (by exact⟨bZ (.cz (.n 0)<|.a (.g<|.n 1)<|.c .x) [.t (.n 0) .x] f ay,bZ (.cg (.a (.g<|.n 1)<|.c .x)<|.c .x) [] f⟩))<|(congrArg (λG:Int=>A G.toNat)<|GQ (-1) b.size).trans<|congrArg A<|zN b.size 1
 refine l ah ?_
 dsimp only[MW];refine l (pi (by exact c' (.t .x .y) [.e (.a .x<|.n 1) .y] f<|eu<|bZ (.l (.n 1) .x) [.t (.n 0) .x] f ay)) ?_
 dsimp only[Option.map];refine I.bind<|Pg aJ<|dv<|tR aJ ?_ λaa aK Q=>?_
 .exact a' (by unfold NR;split<;>(try refine l (Array.size_eraseIdx ..) ?_)<;>(first|exact dD _|exact hR ..)) U
 .exact I.of<|bg<|r3<|cu ⟨_,f,c aa aK Q⟩
end
section
open PySem PySem.F PySem.Calls
theorem H0(vl:TypeCalled a0 newId W5)(H1:CL a0 ⟨fO,[]⟩=pure ())(c:I prog k u.in1 (et (.builtin newId)<|.type a0::fO) (λnD an=>an.TypeIs nD a0/\I prog k u.in1 (et (.builtin W5)<|nD::fO) (λD al=>D=.none/\J nD al) an) a):I prog k u (et (.type a0) fO) J a:=by
 refine kn vl.mro λg alw W6=>I.call<|d6.lZ f<|I.pure ⟨Ho _ fv,d6.builtin (by show ql.contains "type.__call__"=a2;decide+kernel) Hp ?_⟩;unfold V3
 dsimp only;refine I.eq (by exact l (if_neg (by refine l vl.notType ?_;decide))<|l (if_neg (by refine l vl.canCreate ?_;decide))<|l H1<|l W6 f) ?_;refine ea<|ea<|fY (by simp)<|dv<|nW vl.made<|ea<|d2<|I.mono c ?_;rintro nD an bK;refine cx bK λcz bn=>dv<|q' cz vl.sub<|fY aS<|d2<|dv<|g6 cz vl.init.lookup<|I.holding<|l (vl.init.bind ..)<|ea<|g8 bn ?_;rintro D al b8;refine cx b8 λdm aZ=>?_;obtain rfl:=dm;exact I.pure<|I.pure ⟨_,f,aZ⟩
end
section
open PySem PySem.F PySem.Calls
theorem Ph:mroOf (.type "bytearray")=pure [.type "bytearray",.type "object"]:=by refine l (mroOf_type ..) ?_;cbv
theorem W7:kK (.type "bytearray") "__new__"=pure (A<|.builtin "bytearray.__new__"):=by refine l (hq ..)<|l hr ?_;cbv
theorem H2:Slot "bytearray" "__init__" "bytearray.__init__":=.of (owner:="bytearray") (n:="__init__") (by refine l (hq ..)<|l hr ?_;cbv) (by decide+kernel) (by decide+kernel) (by decide+kernel) (by first|exact .inl (by decide+kernel)|exact .inr (by decide+kernel)) (by refine l (kj ..) ?_;cbv)
theorem Pi:kI table "bytearray.__init__"=A V4:=oA (by cbv)
theorem Pj(i b:au):iJ "bytearray.__init__" ⟨[i,b],[]⟩:=by unfold iJ;refine l (q_ (id:="bytearray.__init__") (n:=['_','_','t','i','n','i','_','_']) (o:=['y','a','r','r','a','e','t','y','b']) (by cbv) vi) ?_;cbv
theorem H3:TypeCalled "bytearray" "bytearray.__new__" "bytearray.__init__":=⟨by decide+kernel,by decide+kernel,(mf _ _ Ph),madeBy_type Ph W7 (by decide+kernel),by decide+kernel,by refine l (kj ..) ?_;cbv,H2⟩
theorem H4(i:au):CL "bytearray" ⟨[i],[]⟩=pure ():=by cbv
theorem W8(i:au):uR "bytearray.__new__" ⟨[.type "bytearray",i],[]⟩=pure ():=by cbv
theorem W9:kI table "bytearray.__new__"=A V5:=Gh (id':="list.__new__") (by cbv) (by first|rfl|decide+kernel) (by decide+kernel) (by cbv)
theorem W_:plainId "bytearray.__new__"=W:=by decide+kernel
theorem W':("bytearray.__new__".splitOn ".__new__").headD ""="bytearray":=by simp+decide[NI,NJ]
theorem H5:uS (.type "bytearray") (.type "bytearray")=pure W:=by refine l (kj ..) ?_;cbv
theorem H6(i:au)(c:J (.ref a.heap.objs.size) {a with heap:=a.heap.push<|cf #[]}):I prog k u (et (.builtin "bytearray.__new__") [.type "bytearray",i]) J a:=by
 refine I.call<|d6.of<|zv ?_;show cj _ u.in1 (do uR "bytearray.__new__" ⟨[.type "bytearray",i],[]⟩;again<|.builtin "bytearray.__new__" ⟨[.type "bytearray",i],[]⟩) _ _ a;refine me (W8 i)<|cu ⟨nX W_ _,codeAny_builtin_stack W9 f λr st=>?_⟩;have lM:=H5;obtain⟨a1,t,z,y,os⟩:=a;simp only[W']
 wp_walk;exact⟨_,f,c⟩
end
section
open PySem PySem.F PySem.Calls
theorem Pk(aJ:a.heap.get? i=A (cf b))(c:J a2 a):I prog k u (z9 (e8 i)<||>do
            let Ap<-Builtin.Bytes.exportsOf<|e8 i
            pure<|decide<|Ap>0) J a:=by exact I.bind (ae:=z9<|.ref i)<|I.exported<|I.of<|bg<|nu aJ<|cu<|cu c
end
section
open PySem PySem.F PySem.Calls
theorem Xa:kK (.type "bytearray") "__release_buffer__"=pure (A<|.builtin "bytearray.__release_buffer__"):=by refine l (hq ..)<|l hr ?_;cbv
theorem Xb:kK (.type "list") "__index__"=pure a7:=by refine l (hq ..)<|l hr ?_;cbv
theorem Pl:kK (.type "list") "__buffer__"=pure a7:=by refine l (hq ..)<|l hr ?_;cbv
theorem H7(aJ:a.heap.get? i=A (cf b))(c:J a2 a):cj (cG prog k) u (Builtin.Bytes.ownRelease<|.ref i) J aN a:=by refine bg<|bg<|g6 (gF aJ) Xa<|nv fv<|iq (l (show("bytearray.__release_buffer__".dropRight<|"__release_buffer__".length+1)="bytearray"by decide+kernel) f) ?_;exact q' (gF aJ) H5<|cu c
set_option backward.match.sparseCases true in noncomputable def n5:au->Option UInt8|.int q _=>A q.toNat.toUInt8|_=>a7
def vm(V:List au):Prop:=∀B∈V,∃q E,B=.int q E/\0<=q/\q<256
set_option backward.match.sparseCases true in theorem Xc(c:vm V):(V.takeWhile λ|.int q _=>decide (0<=q)&&decide (q<256)|_=>a2)=V:=by induction V with|nil=>rfl|cons B V a5=>refine dZ (c B<|.head _) λq E bK aG ag=>?_;obtain rfl:=bK;exact l (List.takeWhile_cons_of_pos (by simp[aG,ag]))<|l (a5 λh X=>c h<|.tail _ X) f
set_option backward.match.sparseCases true in theorem Pm(Xd:kK (.type a0) "__index__"=pure a7)(Pn:kK (.type a0) "__buffer__"=pure a7)(Xe:a0="list"\/a0="tuple")(aJ:a.heap.get? i=A (cf b))(aM:∃v,a.heap.get? H=A v/\v.cls=.type a0/\∃s,v.data=.seq V.toArray s)(c_:H≠i)(n:vm V)(U:V.length<=cp)(c:∀aa,aa.get? i=A (cf (V.filterMap n5).toArray)->hV i a.heap aa->J .none {a with heap:=aa}):I prog k u (et (.builtin "bytearray.__init__") [.ref i,.ref H]) J a:=by
 refine I.vZ H2 (gF aJ) Pi fv (Pj _ _)<|dv<|H7 aJ<|fY aS<|dv<|nW (a:=[A<|e8 H,a7,a7]) f<|ea<|ea<|I.bind<|Pk aJ<|fY aS<|dv<|tR aJ (hf _) λbn vn fw=>gc λx dA=>eW aM λv qm aO b8=>cJ b8 λs bp=>dA ?_;have qm:=fw.extBut H _ c_ qm;have cz:Shared.TypeIs {a with heap:=bn} (.ref H) a0:=⟨v,qm,aO⟩;refine dv<|nu qm<|iq (l bp f)<|cu<|fY aS<|ea<|dv<|g6 cz Xd<|fY aS<|dv<|bg<|g6 cz Pn<|bg<|g6 cz Pn<|cu<|dv<|w_ cz ?_;refine tQ (by rcases Xe with j|j<;>subst j<;>decide)<|dv ?_;refine nu qm<|iq (l bp f)<|cu ?_
 dsimp only;generalize a8:List.takeWhile _ V=DT;obtain rfl:DT=V:=a8.symm.trans<|Xc n;refine I.eq (l (show DT.toArray[DT.length]?=a7 by simp) f) ?_;have dW:(DT.filterMap n5).toArray.size<=sizeLine:=a' (Nh _ _) U;exact dv<|l_<|dv<|tR vn dW λbG vo hH=>I.pure ⟨_,f,c bG vo ⟨hH.1.trans fw.1,λb n=>(hH.2 b n).trans<|fw.2 b n⟩⟩
theorem Xf(aJ:a.heap.get? i=A (cf b))(aM:a.heap.IsList H V.toArray)(c_:H≠i)(n:vm V)(U:V.length<=cp)(c:∀aa,aa.get? i=A (cf (V.filterMap n5).toArray)->hV i a.heap aa->J .none {a with heap:=aa}):I prog k u (et (.builtin "bytearray.__init__") [.ref i,.ref H]) J a:=Pm Xb Pl (.inl f) aJ aM c_ n U c
end
section
open PySem PySem.F PySem.Calls
inductive lN(c aa:e0)(v:Obj):Prop|mk(fQ:aa.get? c.objs.size=A v)(fR:∀b h,c.get? b=A h->aa.get? b=A h)(gs:aa.objs.size=c.objs.size+1):lN c aa v
theorem lN.push(be:v.isFreed=a2):lN c (c.push v) v:=⟨fj _ be,λx x j=>eT _ j,f' ..⟩
theorem lN.same(ae:lN c bn v)(t:bG.get? c.objs.size=A dq)(Q:hV c.objs.size bn bG):lN c bG dq:=⟨t,λb h j=>(Q.2 b<|hS<|dH j).trans<|ae.2 b h j,Q.1.trans ae.3⟩
theorem Po(aM:a.heap.IsList H V.toArray)(n:vm V)(U:V.length<=cp)(c:∀aa,lN a.heap aa (cf (V.filterMap n5).toArray)->J (.ref a.heap.objs.size) {a with heap:=aa}):I prog k u (et (.type "bytearray") [.ref H]) J a:=by refine H0 H3 (H4 _)<|H6 _ ?_;have ae:lN a.heap (a.heap.push<|cf #[]) (cf #[]):=lN.push f;exact⟨gF (a:={a with heap:=a.heap.push<|cf #[]}) ae.1,(bl (id aM) λv qm x=>Xf (a:={a with heap:=a.heap.push<|cf #[]}) ae.1 (aM.push _) (hS<|dH qm) n U λaa aK Q=>⟨f,c aa<|ae.same aK Q⟩)⟩
end
section
open PySem PySem.F PySem.Calls
theorem Xg:kI table "bytearray.extend.end"=A V6:=oA (by cbv)
theorem H8:plainId "bytearray.extend.loop"=W:=by decide+kernel
theorem Xh:plainId "bytearray.extend.end"=W:=by decide+kernel
theorem Pp(aJ:a.heap.get? i=A (cf b))(U:b.size+ec.size<=cp)(c:∀aa,aa.get? i=A (cf<|b++ec)->hV i a.heap aa->cM (.ret .none) {a with heap:=aa}):I prog k d5 (do
   if !ec.isEmpty then ND<|.ref i
   Hf (.ref i) (·++ec)
   ret .none) (xM prog k u cM) a:=by
 have cr:I prog k d5 (do
   Hf (.ref i) (·++ec)
   ret .none) (xM prog k u cM) a:=by refine dv<|tR aJ (by refine l Dj ?_;exact U) λaa aK Q=>?_;exact I.pure<|c aa aK Q
 cases bw:ec.isEmpty with
 |true=>trivial|false=>exact I.bind<|Pg aJ cr
theorem Xi(aJ:a.heap.get? i=A (cf b))(hs:a.heap.get? fZ=A (cf ec))(U:b.size+ec.size<=cp)(c:∀aa,aa.get? i=A (cf<|b++ec)->hV i a.heap aa->cM (.ret .none) {a with heap:=aa}):d6 prog k u (.builtin "bytearray.extend.end" ⟨[.ref i,ey,.ref fZ],[]⟩) cM a:=by exact d6.builtin (DS (by decide+kernel)) Xg<|dv<|o_<|dv<|vk hs<|Pp aJ U c
theorem Pq(af:Nat->Array UInt8->ai->Prop)(mh:∀s aQ a,af s aQ a->I prog k u.in1 (nY ht) (λD w=>match D with|none=>w.heap.get? i=A (cf b)/\w.heap.get? fZ=A (cf aQ)/\b.size+aQ.size<=cp/\∀aa,aa.get? i=A (cf<|b++aQ)->hV i w.heap aa->cM (.ret .none) {w with heap:=aa}|some B=>∃q E,B=.int q E/\0<=q/\q<256/\aQ.size<cp/\w.heap.get? fZ=A (cf aQ)/\∀aa,aa.get? fZ=A (cf<|aQ.push q.toNat.toUInt8)->hV fZ w.heap aa->∃ae,ae<s/\af ae (aQ.push q.toNat.toUInt8) {w with heap:=aa}) a)(s:Nat)(aQ:Array UInt8)(c:af s aQ a):d6 prog k u (.builtin "bytearray.extend.loop" ⟨[.ref i,ey,ht,.ref fZ],[]⟩) cM a:=by refine d6.loop (DS (by decide+kernel)) (nX H8 _) (λs a=>∃aQ,af s aQ a) ?_ s<|gD aQ c;rintro s a bK;refine cJ bK λaQ fx=>g8 (mh s aQ a fx) λD w aB=>?_;cases D with|none=>exact hG aB λag aF bb cn=>I.pure<|.inr ⟨nX Xh _,Xi ag aF bb cn⟩|some B=>refine HE aB λq E b8 aG ag U hs Xj=>?_;obtain rfl:=b8;refine I.bind<|I.tryCatch<|I.holding<|I.of<|Pf aG ag<|dv<|uQ<|dv<|tR hs (by refine l (Aa ..) ?_;exact U) λaa aK Q=>?_;exact bl (Xj aa aK Q) λae bw Xk=>I.pure<|.inl ⟨f,(dk ae bw<|gD _ Xk)⟩
end
section
open PySem PySem.F PySem.Calls
theorem Xl(aM:a.heap.IsList H bs)(c:J () a):cj (cG prog k) u (NE "bytearray.extend"<|.ref H) J aN a:=by
 refine bg<|g6 aM.typeIs F.slot_list_len.lookup ?_
 dsimp only;refine iq (l (show splitId "list.__len__"=A ("list","__len__")by decide+kernel) f) ?_;exact bg<|q' aM.typeIs sub_list_self<|nv aS<|OF fv<|cu c
theorem Xm{V:List au}{p:Nat}{q:Int}{E:Tok}(c:V[p]?=A (.int q E)):((V.take p).filterMap n5).toArray.push q.toNat.toUInt8=((V.take<|p+1).filterMap n5).toArray:=by refine l xm<|l c<|l List.filterMap_append ?_;simp[n5]
theorem Xn(V:List au)(p:Nat):((V.take p).filterMap n5).toArray.size<=min p V.length:=a' (Nh _ _)<|zY▸dD _
theorem Xo{i aj fZ:aw}{bA aV:List aw}{b:Array UInt8}{ey:au}{V:List au}{St:Nat->e0->Prop}{cM:gn->ai->Prop}(de:Walks prog k u.in1 aj bA aV V.length (λq B=>V[q]?=A B) St)(aX:a.heap.get? i=A (cf b))(hs:a.heap.get? fZ=A (cf #[]))(gG:St 0 a.heap)(xO:i∉aV)(qn:fZ∉bA)(Xp:i≠fZ)(n:vm V)(U:b.size+V.length<cp)(c:∀aa y,aa.get? i=A (cf<|b++(V.filterMap n5).toArray)->(∀h v,h≠i->h≠fZ->h∉aV->a.heap.get? h=A v->aa.get? h=A v)->cM (.ret .none) {a with heap:=aa,toks:=y}):d6 prog k u (.builtin "bytearray.extend.loop" ⟨[.ref i,ey,.ref aj,.ref fZ],[]⟩) cM a:=by
 have Aq:fZ∉aV:=λe=>qn<|de.sub _ e;refine Pq (b:=b) (λs aQ w=>∃aa y p,w={a with heap:=aa,toks:=y}/\p<=V.length/\s=V.length-p/\aQ=((V.take p).filterMap n5).toArray/\St p aa/\aa.get? fZ=A (cf aQ)/\∀h v,h≠fZ->h∉aV->a.heap.get? h=A v->aa.get? h=A v) ?_ V.length #[]<|OJ a.heap a.toks 0 f (hf _) f f gG hs λx x x x j=>j;rintro s aQ w e2;refine We e2 λaa y p g2 a8 h0 hu DU rl H9=>l g2 ?_;obtain rfl:=h0;obtain rfl:=hu;have n6:=Xn V p;rcases pd p V.length with mN|ib
 .refine I.of<|de.item p _ _ _ mN DU λB bn xP aL vp ro=>dZ (n B<|pf aL) λq E iv aG ag=>?_;obtain rfl:=iv;refine(HK q E f aG ag (xL (.t .x .y) [.t (.a .z .w) .y,.l .x .u,.l .u .w] f U n6<|vg _ _) (ro _ _ Aq rl) λbG vo hH=>(dk (V.length-(p+1)) (nx (.t .x .y) [.l .z<|.a .y .w,.e (.a .x<|.o .w) .z] f (fk _ _)<|eu<|c' (.l (.o .x) .y) [.t .x .y] f mN)<|OJ bG xP (p+1) f mN f (Xm aL) ?_ vo ?_))
  .exact de.frame _ _ _ vp λh X v j=>hH.extBut h v (λe=>qn<|e▸X) j
  .exact λh v DV Ar j=>hH.extBut h v DV<|ro h v Ar<|H9 h v DV Ar j
 .obtain rfl:p=V.length:=u5 a8 ib;rw[xn]at rl n6⊢;refine I.of<|de.done _ _ _ DU λbn xP ro=>⟨ro _ _ xO<|H9 _ _ Xp xO aX,ro _ _ Aq rl,by exact xL (.l (.a .x .y) .z) [.t (.a .x .w) .z,.l .y .u,.l .u .w] f U n6<|qi _ _,λbG vo hH=>c bG xP vo λh v Xq DV Ar j=>hH.extBut h v Xq<|ro h v Ar<|H9 h v DV Ar j⟩
theorem Pr(b':u.handled=a7)(aJ:a.heap.get? i=A (cf b))(aM:a.heap.IsList H V.toArray)(n:vm V)(U:b.size+V.length<cp)(c:∀aa y,aa.get? i=A (cf<|b++(V.filterMap n5).toArray)->(∀h v,h≠i->a.heap.get? h=A v->aa.get? h=A v)->J .none {a with heap:=aa,toks:=y}):I prog k u (et (.builtin "bytearray.extend") [.ref i,.ref H]) J a:=by
 refine I.vZ DR (gF aJ) HX fv (HY _ _)<|dv<|nW (a:=(e8 i,e8 H)) f<|dv<|g6 aM.typeIs Pl<|fY aS<|I.bind<|I.tryCatch<|I.of<|CM aM<|d2<|I.of<|Xl (aM.push _)<|dv<|i4 (I.pure ⟨nX H8 _,?_⟩) (by show(#[]:Array UInt8).size<=cp;decide);generalize iQ:a.heap.push {cls:=.type "list_iterator",data:=.fields #[.ref H,.int 0 0]}=dc;have hs:dc.objs.size=a.heap.objs.size+1:=iQ▸f' ..;refine bl (id aM) λalx qm x=>?_;have c1:=dH qm;have xQ:=dH aJ;have H_:dc.IsListIter a.heap.objs.size H 0:=iQ▸⟨_,fj _ f,f,f⟩;have Xr:dc.IsList H V.toArray:=iQ▸aM.push _;have de:=Ht (prog:=prog) (w:=k) (A:=u.in1) b' a.heap.objs.size H (hS c1) V.toArray;simp only[zZ,List.getElem?_toArray]at de;have Ps:∀h v,a.heap.get? h=A v->(dc.push<|cf #[]).get? h=A v:=λh v j=>eT _<|iQ▸eT _ j;refine Xo (b:=b) (V:=V) de (Ps _ _ aJ) (fj _ f) ⟨H_.at λv j=>eT _ j,Xr.push _⟩ ?_ ?_ ?_ n U λaa y aK a8=>(dk _ f<|c aa y aK λh v X j=>a8 h v X ?_ ?_<|Ps h v j)
 .simpa using hS xQ
 .refine l hs ?_;simp only[e1,mE,or_false,not_or];exact⟨M_ _,zP<|pe c1⟩
 .exact l hs<|hS<|pe xQ
 .exact l hs<|hS<|pe<|dH j
 .simpa using hS<|dH j
end
section
open PySem PySem.F PySem.Calls
theorem xR:kK (.type "bytes") "__buffer__"=pure (A<|.builtin "bytes.__buffer__"):=by refine l (hq ..)<|l hr ?_;cbv
theorem Xs:kK (.type "bytes") "__release_buffer__"=pure a7:=by refine l (hq ..)<|l hr ?_;cbv
theorem Xt:uS (.type "bytes") (.type "bytes")=pure W:=by refine l (kj ..) ?_;cbv
theorem rp(a:ai)(b:Array UInt8)(E:Tok):a.TypeIs (.bytes b E) "bytes":=rfl
theorem Pt(c:J W a):cj (cG prog k) u (NF (.bytes b E) "__buffer__") J aN a:=by refine bg<|g6 (rp a b E) xR<|nv fv<|iq (l (show("bytes.__buffer__".dropRight<|"__buffer__".length+1)="bytes"by decide+kernel) f) ?_;exact q' (rp a b E) Xt c
theorem Xu{id:String}{As:Bool}{b:Array UInt8}{E:Tok}{J:Option (Array UInt8)->ai->Prop}(c:J (A b) a):cj (cG prog k) u (NG id (.bytes b E) As) J aN a:=by exact bg<|g6 (rp a b E) xR<|bg<|Pt<|bg<|g6 (rp a b E) xR<|bg<|bg<|bg<|g6 (rp a b E) Xs<|cu<|cu<|cu c
theorem Xv{i:aw}{b ec:Array UInt8}{E:Tok}{J:au->ai->Prop}(aJ:a.heap.get? i=A (cf b))(U:b.size+ec.size<=cp)(c:∀aa,aa.get? i=A (cf<|b++ec)->hV i a.heap aa->J .none {a with heap:=aa}):I prog k u (et (.builtin "bytearray.extend") [.ref i,.bytes ec E]) J a:=by refine I.vZ DR (gF aJ) HX fv (HY _ _)<|dv<|nW (a:=(e8 i,Value.bytes ec E)) f<|dv<|g6 (rp a ec E) xR<|tQ aS<|dv<|l_<|dv<|vk aJ<|dv<|bg<|uT<|bg<|g6 (rp a ec E) xR<|bg<|Pt<|nv aS<|bg<|g6 (rp a ec E) xR ?_;exact bg<|Xu<|cu<|cu<|tQ (by rfl)<|Pp aJ U λaa aK Q=>(dk _ f<|c aa aK Q)
end
section
open PySem PySem.F PySem.Calls
theorem H':kK (.type "bytearray") "__buffer__"=pure (A<|.builtin "bytearray.__buffer__"):=by refine l (hq ..)<|l hr ?_;cbv
theorem Xx:kK (.type "bytearray") "__index__"=pure a7:=by refine l (hq ..)<|l hr ?_;cbv
theorem Xy:kK (.type "tuple") "__index__"=pure a7:=by refine l (hq ..)<|l hr ?_;cbv
theorem XB:kK (.type "tuple") "__buffer__"=pure a7:=by refine l (hq ..)<|l hr ?_;cbv
theorem XC(aJ:a.heap.get? i=A (cf b))(c:J W a):cj (cG prog k) u (NF (.ref i) "__buffer__") J aN a:=by refine bg<|g6 (gF aJ) H'<|nv fv<|iq (l (show("bytearray.__buffer__".dropRight<|"__buffer__".length+1)="bytearray"by decide+kernel) f) ?_;exact q' (gF aJ) H5 c
theorem XD{id:String}{As:Bool}{i:aw}{b:Array UInt8}{J:Option (Array UInt8)->ai->Prop}(aJ:a.heap.get? i=A (cf b))(c:J (A b) a):cj (cG prog k) u (NG id (.ref i) As) J aN a:=by exact bg<|g6 (gF aJ) H'<|bg<|XC aJ<|bg<|g6 (gF aJ) H'<|bg<|H7 aJ<|bg<|vk aJ<|cu c
theorem XE{i H:aw}{b g:Array UInt8}{J:au->ai->Prop}(aJ:a.heap.get? i=A (cf b))(aM:a.heap.get? H=A (cf g))(c_:H≠i)(U:g.size<=cp)(c:∀aa,aa.get? i=A (cf g)->hV i a.heap aa->J .none {a with heap:=aa}):I prog k u (et (.builtin "bytearray.__init__") [.ref i,.ref H]) J a:=by refine I.vZ H2 (gF aJ) Pi fv (Pj _ _)<|dv<|H7 aJ<|fY aS<|dv<|nW (a:=[A<|e8 H,a7,a7]) f<|ea<|ea<|I.bind<|Pk aJ<|fY aS<|dv<|tR aJ (hf _) λbn vn fw=>?_;have Ia:bn.get? H=A (cf g):=fw.extBut H _ c_ aM;exact dv<|nu Ia<|cu<|fY aS<|ea<|dv<|g6 (gF (a:={a with heap:=bn}) Ia) Xx<|fY aS<|dv<|XD (a:={a with heap:=bn}) Ia<|dv<|l_<|dv<|tR (a:={a with heap:=bn}) vn U λbG vo hH=>I.pure ⟨_,f,c bG vo<|fw.trans hH⟩
theorem XF{H:aw}{g:Array UInt8}{J:au->ai->Prop}(aM:a.heap.get? H=A (cf g))(U:g.size<=cp)(c:∀aa,lN a.heap aa (cf g)->J (.ref a.heap.objs.size) {a with heap:=aa}):I prog k u (et (.type "bytearray") [.ref H]) J a:=by refine H0 H3 (H4 _)<|H6 _ ?_;have ae:lN a.heap (a.heap.push<|cf #[]) (cf #[]):=lN.push f;exact⟨gF (a:={a with heap:=a.heap.push<|cf #[]}) ae.1,(XE (a:={a with heap:=a.heap.push<|cf #[]}) ae.1 (ae.2 _ _ aM) (hS<|dH aM) U λaa aK Q=>⟨f,c aa<|ae.same aK Q⟩)⟩
end
inductive i6(a w:ai):Prop|mk(fQ:a.heap.objs.size<=w.heap.objs.size)(fR:a.gens.size<=w.gens.size):i6 a w
theorem i6.refl(a:ai):i6 a a:=⟨dD _,dD _⟩
theorem i6.trans(h:i6 i b)(M:i6 b g):i6 i g:=⟨a' h.1 M.1,a' h.2 M.2⟩
theorem Pu(a:ai)(i:aw)(R:Obj->Obj):i6 a {a with heap:=a.heap.update i R}:=⟨by show _<=(a.heap.update i R).objs.size;refine l (Dl ..) ?_;exact dD _,dD _⟩
theorem Pv(a:ai)(v:Obj):i6 a {a with heap:=a.heap.push v}:=⟨by show _<=(a.heap.push v).objs.size;refine l (f' ..) ?_;exact js _,dD _⟩
theorem Pw(a:ai)(g:uU):i6 a {a with gens:=a.gens.push g}:=⟨dD _,by show _<=(a.gens.push g).size;refine l (Aa ..) ?_;exact js _⟩
theorem pq(a:ai)(t:Nat)(h:uU):i6 a (a.setGen t h):=⟨dD _,by show _<=(a.setGen t h).gens.size;simp[Shared.setGen]⟩
theorem Ib(c:Runs ba C r E XG a j w):i6 a w:=by induction c with|done=>exact i6.refl _|raise=>exact i6.refl _|again _ _ a5=>exact a5|rule _ a5=>exact a5|«at»_ a5=>exact a5|load _ _ a5=>exact a5|update _ _ a5=>exact(Pu ..).trans a5|loadIfAlive _ a5=>exact a5|point _ a5=>exact a5|alloc _ a5=>exact(Pv ..).trans a5|fresh _ a5=>exact⟨a5.1,a5.2⟩|ask _ a5=>exact a5|choose _ _ a5=>exact⟨a5.1,a5.2⟩|os _ a5=>exact⟨a5.1,a5.2⟩|handled _ a5=>exact a5|genState _ _ a5=>exact a5|stack _ a5=>exact a5|thread _ a5=>exact a5|newGen _ a5=>exact(Pw ..).trans a5|call _ _ eg n9=>exact eg.trans n9|callSusp _ eg=>exact eg|yield=>exact i6.refl _|resumeFresh _ _ _ _ eg n9=>exact((pq ..).trans eg).trans<|(pq ..).trans n9|resumeSuspended _ _ _ _ eg n9=>exact((pq ..).trans eg).trans<|(pq ..).trans n9|resumeJustStarted _ _ _ a5=>exact a5|resumeThrowFresh _ _ a5=>exact(pq ..).trans a5|resumeRunning _ _ a5=>exact a5|resumeFinished _ _ a5=>exact a5|segRet _ _ eg n9=>exact eg.trans n9|segGen _ _ eg n9=>exact eg.trans<|(pq ..).trans n9|segSuspOut _ _ eg=>exact eg|segSuspGen _ _ _ _ eg n9=>exact eg.trans<|(pq ..).trans n9
theorem XH(c:Wakes ba C r t D a mO w):i6 a w:=by
 unfold Wakes at c;split at c
 .exact c.elim
 .split at c
  .exact DC c λqo an aB x x bK=>l bK<|((pq ..).trans<|Ib aB).trans<|pq ..
  .exact l c.2<|i6.refl _
  .exact l c.2<|pq ..
 .exact DC c λqo an aB x x b8=>l b8<|((pq ..).trans<|Ib aB).trans<|pq ..
 .exact l c.2<|i6.refl _
 .exact l c.2<|i6.refl _
theorem XI(ba:Model)(C:Ctx)(b1:ai)(E:Sem bk):∀(J:bk->Pos->ai->Prop)(aN:au->Pos->ai->Prop)(r:Pos)(a:ai),i6 b1 a->jY ba C E J aN r a->jY ba C E (λi bR w=>i6 b1 w/\J i bR w) (λj bR w=>i6 b1 w/\aN j bR w) r a:=by induction E with|pure i=>intro J aN r a ay c;exact⟨ay,c⟩|raise j=>intro J aN r a ay c;exact⟨ay,c⟩|unsupported _=>intro J aN r a _ c;exact c|finish _=>intro J aN r a _ c;exact c|rule _ p a5=>intro J aN r a ay c;exact a5 () J aN r a ay c|«at»bR p a5=>intro J aN r a ay c;exact a5 () J aN bR a ay c|load i _ p a5=>intro J aN r a ay c;exact bl c λv aJ c=>⟨v,aJ,a5 v J aN r a ay c⟩|update i _ R p a5=>intro J aN r a ay c;exact⟨c.1,a5 () J aN r _ (ay.trans<|Pu ..) c.2⟩|loadIfAlive i p a5=>intro J aN r a ay c;exact a5 _ J aN r a ay c|point _ p a5=>intro J aN r a ay c;exact a5 () J aN r a ay c|register _ _=>intro J aN r a _ c;exact c|alloc v p a5=>intro J aN r a ay c;exact a5 _ J aN r _ (ay.trans<|Pv ..) c|fresh p a5=>intro J aN r a ay c;exact a5 _ J aN r {a with toks:=a.toks+1} ⟨ay.1,ay.2⟩ c|ask p a5=>intro J aN r a ay c;exact a5 _ J aN r a ay c|choose XJ ae p a5=>intro J aN r a ay c;exact⟨c.1,a5 _ J aN r {a with drawn:=a.drawn.bump XJ} ⟨ay.1,ay.2⟩ c.2⟩|os e _ p a5=>intro J aN r a ay c;exact a5 _ J aN r {a with os:=(Os.step a.os e).1} ⟨ay.1,ay.2⟩ c|call g bp _ _ p a5=>intro J aN r a ay c;exact fM c λD w aB c=>⟨D,w,aB,a5 D J aN r w (ay.trans<|Ib aB) c⟩|handled xS p a5=>intro J aN r a ay c;exact a5 _ J aN r a ay c|genState t p a5=>intro J aN r a ay c;exact bl c λst Q c=>⟨st,Q,a5 _ J aN r a ay c⟩|newGen g p a5=>intro J aN r a ay c;exact a5 _ J aN r _ (ay.trans<|Pw ..) c|resume t D _ p a5=>intro J aN r a ay c;exact fM c λmO w cr c=>⟨mO,w,cr,a5 mO J aN r w (ay.trans<|XH cr) c⟩|yield _ _ _ _=>intro J aN r a _ c;exact c|stack p a5=>intro J aN r a ay c;exact a5 _ J aN r a ay c|fork _ _=>intro J aN r a _ c;exact c|thread p a5=>intro J aN r a ay c;exact a5 _ J aN r a ay c|await _ _ _ _ _=>intro J aN r a _ c;exact c
theorem kP(c:I prog k u E (λi w=>i6 a w->J i w) a):I prog k u E J a:=λC r b7 ag aF=>mc _ C E (λi x w h=>h.2 h.1) (λx x x h=>h.2) r a<|XI _ C a E _ _ r a (i6.refl a)<|c C r b7 ag aF
inductive a9(o:List aw)(ao:List Nat)(a w:ai):Prop|mk(fQ:∀(b:aw)(v:Obj),b∉o->a.heap.get? b=A v->w.heap.get? b=A v)(fR:a.heap.objs.size<=w.heap.objs.size)(gs:∀(q:Nat)(h:uU),q∉ao->a.gens[q]?=A h->w.gens[q]?=A h)(i7:a.gens.size<=w.gens.size)(kq:Af a.gens->Af w.gens)(mP:w.os=a.os):a9 o ao a w
abbrev bM(o:List aw)(a w:ai):Prop:=a9 o [] a w
theorem bM.refl(o:List aw)(ao:List Nat)(a:ai):a9 o ao a a:=⟨λx x x j=>j,dD _,λx x x j=>j,dD _,id,f⟩
theorem a9.trans(i:a9 o ao a an)(b:a9 o ao an al):a9 o ao a al:=⟨λh v X j=>b.1 h v X<|i.1 h v X j,a' i.2 b.2,λq h ah j=>b.3 q h ah<|i.3 q h ah j,a' i.4 b.4,λc=>b.5<|i.5 c,b.6.trans i.6⟩
theorem fS{c:e0}{i:aw}(aX:c.objs.size<=i):c.get? i=a7:=by cases j:c.get? i with|none=>rfl|some v=>exact b4 (dH j) aX
theorem rq{t:Array uU}{q:Nat}(ah:t.size<=q):t[q]?=a7:=Hl ah
theorem a9.drop(i:a9 o ao a w)(c:∀b∈o,b∈aW\/a.heap.get? b=a7)(aK:∀q∈ao,q∈dc\/a.gens[q]?=a7):a9 aW dc a w:=⟨λh v X j=>i.1 h v (λe=>(c h e).elim X λG=>by replace j:=G▸j;exact d1 j) j,i.2,λq h ah j=>i.3 q h (λe=>(aK q e).elim ah λG=>by replace j:=G▸j;exact d1 j) j,i.4,i.5,i.6⟩
theorem a9.mono(i:a9 o ao a w)(c:∀b∈o,b∈aW)(aK:∀q∈ao,q∈dc):a9 aW dc a w:=i.drop (λb n=>.inl<|c b n) λq ah=>.inl<|aK q ah
theorem a9.gR(i:a9 o ao a an)(b:a9 aW dc an al)(c:∀M∈aW,M∈o\/a.heap.get? M=a7)(aK:∀q∈dc,q∈ao\/a.gens[q]?=a7):a9 o ao a al:=⟨λh v X j=>b.1 h v (λe=>(c h e).elim X λG=>by replace j:=G▸j;exact d1 j)<|i.1 h v X j,a' i.2 b.2,λq h ah j=>b.3 q h (λe=>(aK q e).elim ah λG=>by replace j:=G▸j;exact d1 j)<|i.3 q h ah j,a' i.4 b.4,λe=>b.5<|i.5 e,b.6.trans i.6⟩
theorem bM.heap(p:∀(b:aw)(v:Obj),b∉o->a.heap.get? b=A v->aa.get? b=A v)(G:a.heap.objs.size<=aa.objs.size):bM o a {a with heap:=aa,toks:=y}:=⟨p,G,λx x x j=>j,dD _,id,f⟩
theorem bM.push(a:ai)(v:Obj)(y:Nat):bM [] a {a with heap:=a.heap.push v,toks:=y}:=bM.heap (λx x x j=>eT _ j) (by refine l (f' ..) ?_;exact js _)
theorem bM.tok(o:List aw)(ao:List Nat)(a:ai)(y:Nat):a9 o ao a {a with toks:=y}:=⟨λx x x j=>j,dD _,λx x x j=>j,dD _,id,f⟩
theorem bM.new(o:List aw)(ao:List Nat)(a:ai)(v:Obj)(y:Nat):a9 o ao a {a with heap:=a.heap.push v,toks:=y}:=(bM.push a v y).mono aP aP
theorem bM.same(Q:hV i a.heap aa):bM [i] a {a with heap:=aa,toks:=y}:=bM.heap (λb v n j=>(Q.2 b (by simpa using n)).trans j)<|oD Q.1.symm
inductive bd where|none|bool(b:Bool)|int(q:Int)|str(h:Str)|tup(aA:List bd)|lst(aA:List bd)|l3(b:Array UInt8)|raw(g:au)|bytes(b:Array UInt8)|ec(h M G:Int)|buf(b:Array UInt8)|gf(os:List<|aw×Obj)(g:au)
mutual/--v Vw at c;akM objects akN off X -/def bV(c:e0)(o:List aw):bd->au->Prop|.none,g=>g=.none|.bool b,g=>g=.bool b|.int q,g=>∃E,g=.int q E|.str h,g=>∃E,g=.str h E|.tup aA,g=>∃i V s,g=.ref i/\i∉o/\c.get? i=A {cls:=.type "tuple",data:=.seq V s}/\bX c o aA V.toList|.lst aA,g=>∃i V s,g=.ref i/\i∉o/\c.get? i=A {cls:=.type "list",data:=.seq V s}/\bX c o aA V.toList|.l3 b,g=>∃i,g=.ref i/\i∉o/\c.get? i=A (cf b)|.raw B,g=>g=B|.bytes b,g=>∃E,g=.bytes b E|.ec h M G,g=>∃i z f0 f1 fT s,g=.ref i/\i∉o/\c.get? i=A {cls:=.ref 135,dict:=z,data:=.seq #[.int h f0,.int M f1,.int G fT] s}|.buf b,g=>∃i z j,g=.ref i/\i∉o/\c.get? i=A {cls:=.ref 1963,dict:=A j,data:=.plain,slots:=#[A<|.ref z]}/\z∉o/\c.get? z=A (cf b)/\j∉o/\c.get? j=A {cls:=.type "dict",data:=.dict #[]}/\1993<=j|.gf os B,g=>g=B/\∀r∈os,r.1∉o/\c.get? r.1=A r.2 def bX(c:e0)(o:List aw):List bd->List au->Prop|[],V=>V=[]|h::aA,V=>∃g aY,V=g::aY/\bV c o h g/\bX c o aA aY end
mutual theorem bV.to{c aa:e0}{o aW:List aw}(p:∀(b:aw)(v:Obj),b∉o->c.get? b=A v->aa.get? b=A v/\b∉aW):∀(B:bd)(g:au),bV c o B g->bV aa aW B g|.none,_,D=>D|.bool _,_,D=>D|.int _,_,D=>D|.str _,_,D=>D|.raw _,_,D=>D|.bytes _,_,D=>D|.gf os B,_,D=>by exact And.intro D.1 λr a1=>⟨(p r.1 _ (D.2 r a1).1 (D.2 r a1).2).2,(p r.1 _ (D.2 r a1).1 (D.2 r a1).2).1⟩|.ec ..,_,D=>by obtain⟨i,z,f0,f1,fT,s,j,aX,aK⟩:=D;exact md i ⟨z,f0,f1,fT,s,j,(p i _ aX aK).2,(p i _ aX aK).1⟩|.buf _,_,D=>by obtain⟨i,z,h,j,aX,aK,bp,ge,br,ib,gg⟩:=D;exact md i ⟨z,h,j,(p i _ aX aK).2,(p i _ aX aK).1,(p z _ bp ge).2,(p z _ bp ge).1,(p h _ br ib).2,(p h _ br ib).1,gg⟩|.tup aA,_,D=>by obtain⟨i,V,s,j,aX,aK,aB⟩:=D;exact md i ⟨V,s,j,(p i _ aX aK).2,(p i _ aX aK).1,bX.to p aA V.toList aB⟩|.lst aA,_,D=>by obtain⟨i,V,s,j,aX,aK,aB⟩:=D;exact md i ⟨V,s,j,(p i _ aX aK).2,(p i _ aX aK).1,bX.to p aA V.toList aB⟩|.l3 b,_,D=>by obtain⟨i,j,aX,aK⟩:=D;exact md i ⟨j,(p i _ aX aK).2,(p i _ aX aK).1⟩theorem bX.to{c aa:e0}{o aW:List aw}(p:∀(b:aw)(v:Obj),b∉o->c.get? b=A v->aa.get? b=A v/\b∉aW):∀(aA:List bd)(V:List au),bX c o aA V->bX aa aW aA V|[],_,D=>D|h::aA,_,D=>by obtain⟨g,aY,j,eD,eN⟩:=D;exact md g ⟨aY,j,bV.to p h g eD,bX.to p aA aY eN⟩end
def IsL(o:List aw)(aA:List bd)(a:ai)(g:au):Prop:=∃i V s,g=.ref i/\a.heap.get? i=A {cls:=.type "list",data:=.seq V s}/\bX a.heap o aA V.toList
theorem bV.jB(D:bV a.heap o (.lst aA) g):IsL o aA a g:=by exact la D λi V s j x aK aB=>⟨i,V,s,j,aK,aB⟩
theorem bV.sub(D:bV c o B g)(Q:∀M∈aW,M∈o):bV c aW B g:=bV.to (λb v n j=>⟨j,λe=>n<|Q b e⟩) B g D
def sr(aW:List aw)(ao:List Nat)(L:ai->Prop):Prop:=∀a w,L a->a9 aW ao a w->L w
def mi(aW:List aw)(ao:List Nat)(aE:ai->au->Prop):Prop:=∀a w g,aE a g->a9 aW ao a w->aE w g
inductive gH(aW:List aw)(ao:List Nat)(o:List aw)(L:ai->Prop):Prop|mk(fQ:sr aW ao L)(fR:∀a,L a->∀h∈o,h<a.heap.objs.size)(gs:∀M∈aW,M∈o):gH aW ao o L
def co(prog:cL)(k:ck)(u:ch)(aW:List aw)(ao:List Nat)(m:Env)(L:ai->Prop)(j:bH)(aE:ai->au->Prop):Prop:=∀a(J:au->ai->Prop),L a->(∀g w,a9 aW ao a w->aE w g->J g w)->I prog k u (dF j m) J a
def gI(prog:cL)(k:ck)(u:ch)(aW:List aw)(ao:List Nat)(E:Sem au)(aE:ai->au->Prop)(a:ai):Prop:=∀J:au->ai->Prop,(∀g w,a9 aW ao a w->aE w g->J g w)->I prog k u E J a
theorem gI.tok(c:∀J:au->ai->Prop,J B {a with toks:=a.toks+1}->cj (cG prog k) u E J (λx x=>False) a)(aL:aE {a with toks:=a.toks+1} B):gI prog k u aW ao E aE a:=λx ac=>I.of<|c _<|ac _ _ (bM.tok ..) aL
theorem gI.now(c:∀J:au->ai->Prop,J B a->cj (cG prog k) u E J (λx x=>False) a)(aL:aE a B):gI prog k u aW ao E aE a:=λx ac=>I.of<|c _<|ac _ _ (bM.refl ..) aL
abbrev d'(q:Int):ai->au->Prop:=λx g=>∃E,g=.int q E
abbrev DW(b:Bool):ai->au->Prop:=λx g=>g=.bool b
abbrev XK:ai->au->Prop:=λx g=>g=.none
abbrev lO(o:List aw)(B:bd):ai->au->Prop:=λa g=>bV a.heap o B g
theorem kr(q:Int):mi aW ao (d' q):=λx x x c x=>c
theorem gH.is(bJ:gH aW ao o L)(B:bd):mi aW ao (lO o B):=λx x x c t=>bV.to (λb v n j=>⟨t.1 b v (λe=>n<|bJ.3 b e) j,n⟩) _ _ c
theorem Au(c:J () a):I prog k u (release V Ic) J a:=by unfold release;generalize V.filter _=H;induction H with|nil=>exact I.pure c|cons h H a5=>cases H with|nil=>exact I.pure c|cons M H=>exact dv<|kH<|o_ a5
theorem DX(c:I prog k u ae J a):I prog k u (operate V ae) J a:=d2<|I.mono c λx x aZ=>I.bind<|Au<|I.pure aZ
theorem DY:co prog k u aW ao m L (.Constant (.int q) p ak) (d' q):=λa J x ac=>I.of<|r3<|ac _ _ (bM.tok ..) ⟨_,f⟩
theorem Ie:co prog k u aW ao m L (.Constant .none p ak) XK:=λa J x ac=>I.pure<|ac _ _ (bM.refl ..) f
theorem rr(bJ:gH aW ao o L)(bn:co prog k u aW ao m L H jz)(aL:mi aW ao jz)(bG:co prog k u aW ao m L D nE)(qp:∀a fC gJ,L a->jz a fC->nE a gJ->gI prog k u aW ao (tq nG fC gJ) aE a):co prog k u aW ao m L (.BinOp H nG D ak) aE:=λa J Q ac=>by exact I.bind<|bn a _ Q λfC an aI cS=>d2<|bG an _ (bJ.1 _ _ Q aI) λgJ al a6 e5=>dQ<|DX<|qp al fC gJ (bJ.1 _ _ Q<|aI.trans a6) (aL _ _ _ cS a6) e5 _ λg bT bQ jk=>ac g bT ((aI.trans a6).trans bQ) jk
section
theorem XM(bJ:gH aW ao o L)(bn:co prog k u aW ao m L H<|d' i)(bG:co prog k u aW ao m L D<|d' b):co prog k u aW ao m L (.BinOp H .Add D ak) (d'<|i+b):=rr bJ bn (kr i) bG (by rintro a _ _-⟨E,rfl⟩⟨av,rfl⟩;exact gI.tok (λJ c=>N' c) ⟨_,f⟩)
theorem XN(bJ:gH aW ao o L)(bn:co prog k u aW ao m L H<|d' i)(bG:co prog k u aW ao m L D<|d' b):co prog k u aW ao m L (.BinOp H .Sub D ak) (d'<|i-b):=rr bJ bn (kr i) bG (by rintro a _ _-⟨E,rfl⟩⟨av,rfl⟩;exact gI.tok (λJ c=>Oa c) ⟨_,f⟩)
theorem XO(bJ:gH aW ao o L)(bn:co prog k u aW ao m L H<|d' i)(bG:co prog k u aW ao m L D<|d' b)(bw:IntMulOk i b):co prog k u aW ao m L (.BinOp H .Mult D ak) (d'<|i*b):=rr bJ bn (kr i) bG (by rintro a _ _-⟨E,rfl⟩⟨av,rfl⟩;exact gI.tok (λJ c=>PySem.P.mul_int c bw) ⟨_,f⟩)
theorem XP(bJ:gH aW ao o L)(bn:co prog k u aW ao m L H<|d' i)(bG:co prog k u aW ao m L D<|d' b)(n:b≠0)(a1:z' i b=a2):co prog k u aW ao m L (.BinOp H .FloorDiv D ak) (d'<|i.fdiv b):=rr bJ bn (kr i) bG (by rintro a _ _-⟨E,rfl⟩⟨av,rfl⟩;exact gI.tok (λJ c=>floordiv_int n c<|.inl a1) ⟨_,f⟩)
theorem XQ(bJ:gH aW ao o L)(bn:co prog k u aW ao m L H<|d' i)(bG:co prog k u aW ao m L D<|d' b)(n:b≠0):co prog k u aW ao m L (.BinOp H .Mod D ak) (d'<|i.fmod b):=rr bJ bn (kr i) bG (by rintro a _ _-⟨E,rfl⟩⟨av,rfl⟩;exact gI.tok (λJ c=>mod_int' n c) ⟨_,f⟩)
theorem XR(bJ:gH aW ao o L)(bn:co prog k u aW ao m L H<|d' i)(bG:co prog k u aW ao m L D<|d' b):co prog k u aW ao m L (.BinOp H .BitXor D ak) (d'<|lH i b):=rr bJ bn (kr i) bG (by rintro a _ _-⟨E,rfl⟩⟨av,rfl⟩;exact gI.tok (λJ c=>xor_int c) ⟨_,f⟩)
end
theorem XS(c:co prog k u aW ao m L h<|d' i):co prog k u aW ao m L (.UnaryOp .USub h ak) (d'<|-i):=λa J Q ac=>by refine I.bind<|c a _ Q λg an aI cS=>?_;obtain⟨E,rfl⟩:=cS;exact dQ<|I.holding<|I.of<|PySem.P.neg_int<|ac _ _ (aI.trans<|bM.tok ..) ⟨_,f⟩
theorem XT(bJ:gH aW ao o L)(bn:co prog k u aW ao m L H jz)(aL:mi aW ao jz)(bG:co prog k u aW ao m L D nE)(bw:uV [nG] [D] (tr [D] m)=[dF D m])(qp:∀a fC gJ,L a->jz a fC->nE a gJ->gI prog k u aW ao (ts nG fC gJ) aE a):co prog k u aW ao m L (.Compare H [nG] [D] ak) aE:=λa J Q ac=>by exact l (arm_eval_Compare ..)<|l bw<|I.bind<|bn a _ Q λfC an aI cS=>d2<|bG an _ (bJ.1 _ _ Q aI) λgJ al a6 e5=>dQ<|DX<|qp al fC gJ (bJ.1 _ _ Q<|aI.trans a6) (aL _ _ _ cS a6) e5 _ λg bT bQ jk=>ac g bT ((aI.trans a6).trans bQ) jk
inductive pr(m:Env)(c:e0)(cW:Str->Option au):Prop|mk(fQ:m.scope.kind=.function)(fR:∃ae,c.Ns m.locals ae/\∀h,m.kindOf h=A .local->ae h=cW h)(gs:∀h,m.kindOf h=A .cell\/m.kindOf h=A .free->∃i,m.cells.lookup h=A i/\c.IsCell i (cW h)):pr m c cW
noncomputable def bY(m:Env):List Addr:=m.locals::m.cells.map (·.2)
theorem ss(c:m.cells.lookup h=A i):i∈bY m:=by refine mt ?_;generalize m.cells=H at c;induction H with|nil=>exact d1 c|cons r H a5=>
  obtain⟨M,b⟩:=r;rw[r']at c;split at c
  .cases c;exact bm
  .exact mt<|a5 c
theorem pr.keeps(B:pr m c cW)(p:∀b∈bY m,∀v,c.get? b=A v->aa.get? b=A v):pr m aa cW:=⟨B.1,bl B.2 λae ay bw=>⟨ae,ay.at' λv j=>p _ bm v j,bw⟩,λh X=>let⟨i,aX,aO⟩:=B.3 h X;⟨i,aX,let⟨v,j,z⟩:=aO;⟨v,p _ (ss aX) v j,z⟩⟩⟩
def Px(m:Env)(h:Str):Prop:=m.kindOf h=A .local\/m.kindOf h=A .cell\/m.kindOf h=A .free
theorem DZ(aE:pr m a.heap cW)(X:Px m h)(aL:cW h=A B)(aO:(h==("__classdict__":Str))=a2)(c:J B a):I prog k u (loadName m h) J a:=by
 rcases X with X|X|X
 .exact bl aE.2 λae ay bw=>I.of<|Gi aE.1 X ay ((bw h X).trans aL) c
 .exact bl (aE.3 h<|.inl X) λi aX lh=>I.of<|wpAny_loadName_cell aE.1 X aX (aL▸lh) c
 .exact bl (aE.3 h<|.inr X) λi aX lh=>I.of<|MJ aE.1 X aX (aL▸lh) c aO
inductive xT:List (Str×bd)->Str->bd->Prop|here{hj:List<|Str×bd}{h:Str}{B:bd}:xT ((h,B)::hj) h B|there{hj:List<|Str×bd}{h M:Str}{B av:bd}:(M==h)=a2->xT hj h B->xT ((M,av)::hj) h B
inductive oL(m:Env)(o:List aw)(hj:List<|Str×bd)(bf:ai->Prop)(a:ai):Prop|mk(fQ:∀h∈o,h<a.heap.objs.size)(fR:∃cW,pr m a.heap cW/\∀h B,xT hj h B->∃g,cW h=A g/\bV a.heap o B g)(gs:bf a):oL m o hj bf a
theorem XU:lO o (.int q) a g↔d' q a g:=Iff.rfl
theorem co.to(c:co prog k u aW ao m L j aE)(p:∀a g,aE a g->Av a g):co prog k u aW ao m L j Av:=λa J r ac=>c a J r λg w t aL=>ac g w t<|p w g aL
def tS(prog:cL)(k:ck)(u:ch)(aW:List aw)(ao:List Nat)(m:Env)(L:ai->Prop)(j:bH)(b:Bool):Prop:=∀a(J:Bool->ai->Prop),L a->(∀w,a9 aW ao a w->J b w)->I prog k u (isTrue j m<|dF j m) J a
theorem vq(bJ:gH aW ao o L)(bn:co prog k u aW ao m L H jz)(aL:mi aW ao jz)(bG:co prog k u aW ao m L D nE)(qp:∀a fC gJ,L a->jz a fC->nE a gJ->gI prog k u aW ao (ts nG fC gJ) (DW b) a)(bw:uV [nG] [D] (tr [D] m)=[dF D m]:=by rfl):tS prog k u aW ao m L (.Compare H [nG] [D] ak) b:=λa J Q ac=>by rw[arm_isTrue_Compare,bw];refine I.bind<|bn a _ Q λfC an aI cS=>d2<|bG an _ (bJ.1 _ _ Q aI) λgJ al a6 e5=>dQ<|I.bind<|DX<|qp al fC gJ (bJ.1 _ _ Q<|aI.trans a6) (aL _ _ _ cS a6) e5 _ λg bT bQ jk=>?_;subst jk;exact I.holding<|I.pure<|ac bT<|(aI.trans a6).trans bQ
section
theorem XV(bJ:gH aW ao o L)(bn:co prog k u aW ao m L H<|d' i)(bG:co prog k u aW ao m L D<|d' b)(bw:uV [.Eq] [D] (tr [D] m)=[dF D m]:=by rfl):tS prog k u aW ao m L (.Compare H [.Eq] [D] ak) (i==b):=vq bJ bn (kr i) bG (by rintro a _ _-⟨E,rfl⟩⟨av,rfl⟩;exact gI.now (λJ c=>PySem.P.eq_int c) f) bw
theorem XW(bJ:gH aW ao o L)(bn:co prog k u aW ao m L H<|d' i)(bG:co prog k u aW ao m L D<|d' b)(bw:uV [.NotEq] [D] (tr [D] m)=[dF D m]:=by rfl):tS prog k u aW ao m L (.Compare H [.NotEq] [D] ak) (i !=b):=vq bJ bn (kr i) bG (by rintro a _ _-⟨E,rfl⟩⟨av,rfl⟩;exact gI.now (λJ c=>PySem.P.ne_int c) f) bw
theorem XX(bJ:gH aW ao o L)(bn:co prog k u aW ao m L H<|d' i)(bG:co prog k u aW ao m L D<|d' b)(bw:uV [.Lt] [D] (tr [D] m)=[dF D m]:=by rfl):tS prog k u aW ao m L (.Compare H [.Lt] [D] ak) (decide<|i<b):=vq bJ bn (kr i) bG (by rintro a _ _-⟨E,rfl⟩⟨av,rfl⟩;exact gI.now (λJ c=>PySem.P.lt_int c) f) bw
end
theorem XY(bJ:gH aW ao o L)(bI:tS prog k u aW ao m L E b)(bn:b=W->co prog k u aW ao m L h aE)(bG:b=a2->co prog k u aW ao m L M aE):co prog k u aW ao m L (.IfExp E h M ak) aE:=λa J Q ac=>by refine I.bind<|bI a _ Q λan aI=>?_;cases b with|true=>refine l (if_pos f) ?_;exact bn f an _ (bJ.1 _ _ Q aI) λg al a6 p=>ac g al (aI.trans a6) p|false=>refine l (if_neg aS) ?_;exact bG f an _ (bJ.1 _ _ Q aI) λg al a6 p=>ac g al (aI.trans a6) p
def mR(prog:cL)(k:ck)(u:ch)(aW:List aw)(ao:List Nat)(m:Env)(L:ai->Prop)(as:List bH)(aE:ai->List au->Prop):Prop:=∀a(J:List au->ai->Prop)(ak:Pos),L a->(∀aY w,a9 aW ao a w->aE w aY->J aY w)->I prog k u (mB<|jV ak<|jh as m) J a
noncomputable def dT:bH->Bool|.Starred ..=>a2|_=>W
theorem jA(c:dT j=W):jh (j::as) m=(a2,dF j m)::jh as m:=by cases j<;>first|rfl|exact Bool.noConfusion c
theorem kt:mR prog k u aW ao m L [] (λx aY=>aY=[]):=λa J ak Q ac=>I.pure<|ac _ _ (bM.refl ..) f
theorem jl(ay:dT j=W)(bJ:gH aW ao o L)(c:co prog k u aW ao m L j aE)(aL:mi aW ao aE)(Q:mR prog k u aW ao m L as If):mR prog k u aW ao m L (j::as) (λa aY=>∃g D,aY=g::D/\aE a g/\If a D):=λa J ak a1 ac=>by exact(jA ay).symm▸I.bind (c a _ a1 λg an aI cS=>ea<|d2<|Q an _ ak (bJ.1 _ _ a1 aI) λaY al a6 e5=>I.pure<|ac _ al (aI.trans a6)<|eH g aY f (aL _ _ _ cS a6) e5)
theorem vr:∀{as:List bH},as.all dT=W->(jV ak<|jh as m).any (·.1)=a2|[],bC=>by refine l (arm_starEach_nil ..) ?_;rfl|j::as,c=>by rw[n0,jU]at c;refine jA c.1▸?_;show(a2||(jV ak<|jh as m).any (·.1))=a2;refine l (vr c.2) ?_;rfl
theorem xU(ay:as.all dT=W)(c:mR prog k u aW ao m L as aE)(Q:L a)(ac:∀aY w,a9 aW ao a w->aE w aY->J ⟨aY,[]⟩ w):I prog k u (evalArgs R W (jV ak<|jh as m) []) J a:=by have cV:I prog k u (mB<|jV ak<|jh as m) (λV w=>J ⟨V,[]⟩ w) a:=c a _ ak Q ac;cases as with|nil=>exact g8 cV λV w aa=>ea<|I.holding<|ea<|ea<|I.pure aa|cons j as=>rw[n0,jU]at ay;rw[jA ay.1]at cV⊢;exact g8 cV λV w aa=>ea<|I.holding<|ea<|ea<|I.pure aa
noncomputable def Aw:au->Bool|.builtin bC=>W|.type bC=>W|_=>a2
theorem vs(be:Aw R=W)(ay:as.all dT=W)(c:mR prog k u aW ao m L as aE)(Q:L a)(aO:∀aY w,a9 aW ao a w->aE w aY->I prog k u (et R (iR++aY) []) J w):I prog k u (pZ ak R iR (jV Ax<|jh as m) []) J a:=by
 refine d2<|xU ay c Q λaY an aI cS=>dQ<|l (vr ay ..)<|l (u7 ..)<|l (q9 ..) ?_;have a8:r4 R=dC .machine:=by cases R<;>first|rfl|exact jj be
 exact l a8<|ea<|g8 (aO aY an aI cS) λD al aB=>dv<|kH<|o_<|I.pure aB
def n_(L:ai->Prop)(m:Env)(h:Str)(B:au):Prop:=(m.scope.kind=.function/\m.kindOf h=A .globalImplicit)/\∀a,L a->∃hm,a.heap.Ns m.globals hm/\(hm h=A B\/(hm h=a7/\∃hI,a.heap.Ns m.builtins hI/\hI h=A B))
theorem qq(c:n_ L m h B)(bp:(h==("__debug__":Str))=a2:=by decide):co prog k u aW ao m L (.Name h ak) (λx g=>g=B):=λa J Q ac=>by
 refine cx c λbK c=>cx bK λa8 X=>bl (c a Q) λhm aK b8=>?_;obtain aL|⟨aL,hI,n,oM⟩:=b8
 .exact I.of<|Dr a8 X (Ob aK aL<|ac _ _ (bM.refl ..) f) bp
 .exact I.of<|Dr a8 X (Oc aK aL n oM<|ac _ _ (bM.refl ..) f) bp
theorem mS(bJ:gH aW ao o L)(aK:n_ L m h R)(be:Aw R=W)(c:mR prog k u aW ao m L as aE)(aO:∀a aY,L a->aE a aY->gI prog k u aW ao (et R aY []) de a)(ay:as.all dT=W:=by rfl)(bp:(h==("__debug__":Str))=a2:=by decide):co prog k u aW ao m L (.Call (.Name h Ig) as [] ak) de:=λa J Q ac=>by .exact I.bind<|qq (aW:=aW) (ao:=ao) aK bp a _ Q λg an aI cS=>l cS<|vs (iR:=[]) be ay c (bJ.1 _ _ Q aI) λaY al a6 e5=>aO al aY (bJ.1 _ _ Q<|aI.trans a6) e5 _ λD bT bQ jk=>ac D bT ((aI.trans a6).trans bQ) jk
theorem XZ(c:IsL o aA a g)(U:aA.length<2^62):gI prog k u aW ao (et (.builtin "len") [g] []) (d' aA.length) a:=by
 refine iM c λi V s dm aK aB=>?_;obtain rfl:=dm;have aM:a.heap.IsList i V:=⟨_,aK,f,s,f⟩;have cP:∀(ca:List bd)(fD:List au),bX a.heap o ca fD->fD.length=ca.length:=by intro ca;induction ca with
  |nil=>intro fD c;subst c;rfl|cons M ca a5=>intro fD c;refine dZ c λg aY dX eO aF=>?_;obtain rfl:=dX;obtain-:=eO;simp[a5 aY aF]
 have j:V.size=aA.length:=by have:=cP aA V.toList aB;simpa using this
 intro J ac;exact I.of<|Calls.call_len_list aM (c' (.cg (.c .x)<|.n 9223372036854775808) [.t .y<|.n 4611686018427387904,.e .x .y] f U j)<|j.symm▸ac _ _ (bM.tok ..) ⟨_,f⟩
theorem X0(bJ:gH aW ao o L)(aK:n_ L m "len"<|.builtin "len")(Q:dT j=W)(c:co prog k u aW ao m L j aE)(aL:mi aW ao aE)(qr:∀a g,L a->aE a g->IsL o aA a g)(U:aA.length<2^62):co prog k u aW ao m L (.Call (.Name "len" Ig) [j] [] ak) (d' aA.length):=mS bJ aK f (jl Q bJ c aL kt) (by rintro a aY a1 fE;refine dZ fE λg D gh aO gV=>?_;obtain rfl:=gh;obtain rfl:=gV;exact XZ (qr a g a1 aO) U) (by simp[Q])
section
variable{o:List aw}{a:ai}
theorem bX.length:∀{aA:List bd}{V:List au},bX c o aA V->V.length=aA.length|[],bC,D=>by refine l D ?_;rfl|bC::dw,ic,D=>by obtain⟨g,aY,rfl,_,D⟩:=D;exact l jX<|l jX<|l (bX.length D) f
theorem bX.append(gw:bX c o ca fD):∀{aA:List bd}{V:List au},bX c o aA V->bX c o (aA++ca) (V++fD)|[],bC,D=>by refine l D ?_;exact gw|bC::dw,ic,D=>by exact dZ D λg aY bK eD eN=>l bK<|l u8<|(eH g (aY++fD) f eD<|bX.append gw eN)
theorem bX.get:∀{aA:List bd}{V:List au}{q:Nat}{h:bd},bX c o aA V->aA[q]?=A h->∃g,V[q]?=A g/\bV c o h g|[],bC,dw,ic,su,j=>d1 j|M::aA,bC,0,h,D,j=>by refine dZ D λg aY h1 eD eN=>l h1 ?_;cases j;exact(dk g f eD)|M::aA,bC,q+1,h,D,j=>by exact dZ D λg aY jC eD eN=>l jC<|bX.get (q:=q) eN (by simpa using j)
theorem bX.drop:∀{aA:List bd}{V:List au}(s:Nat),bX c o aA V->bX c o (aA.drop s) (V.drop s)|bC,dw,0,D=>D|[],bC,dw+1,D=>by refine l D ?_;exact z0 ..|bC::dw,ic,s+1,D=>by refine dZ D λg aY fE eD eN=>?_;refine l fE ?_;exact bX.drop s eN
theorem bX.take:∀{aA:List bd}{V:List au}(s:Nat),bX c o aA V->bX c o (aA.take s) (V.take s)|bC,dw,0,D=>f|[],bC,dw+1,D=>by refine l (show _=[]from D) ?_;exact z0 ..|bC::dw,ic,s+1,D=>by exact dZ D λg aY gh eD eN=>l gh<|l G6<|l G6<|(eH g (aY.take s) f eD<|bX.take s eN)
theorem bX.ints:∀{ab:List Int}{V:List au},bX c o (ab.map bd.int) V↔xu V ab
 |[],V=>by exact⟨λc=>c▸.nil,λc=>by cases c;rfl⟩|s::ab,V=>by
  constructor
  .rintro dm;refine dZ dm λg aY dX eO D=>l dX ?_;obtain⟨E,rfl⟩:=eO;exact .cons _ _<|bX.ints.mp D
  .intro c;cases c with|cons _ E c=>exact(eH _ _ f (gD E f)<|bX.ints.mpr c)
theorem Py{aA:List bd}{V:Array au}{y:Nat}(cA:∀h∈o,h<a.heap.objs.size)(aB:bX a.heap o aA V.toList):lO o (.lst aA) {a with heap:=a.heap.push {cls:=.type "list",data:=.seq V},toks:=y} (.ref a.heap.objs.size):=by refine(mK _ V 0 f (λe=>absurd (cA _ e)<|iK _) (fj _ f)<|bX.to (λb v n j=>⟨eT _ j,n⟩) _ _ aB)
theorem Pz{aA:List bd}{V:Array au}{y:Nat}(cA:∀h∈o,h<a.heap.objs.size)(aB:bX a.heap o aA V.toList):lO o (.tup aA) {a with heap:=a.heap.push {cls:=.type "tuple",data:=.seq V},toks:=y} (.ref a.heap.objs.size):=by refine(mK _ V 0 f (λe=>absurd (cA _ e)<|iK _) (fj _ f)<|bX.to (λb v n j=>⟨eT _ j,n⟩) _ _ aB)
theorem X1(bJ:gH aW ao o L)(c:mR prog k u aW ao m L as<|λa aY=>bX a.heap o aA aY)(U:aA.length<=cp):co prog k u aW ao m L (.Tuple as p ak) (lO o<|.tup aA):=λa J Q ac=>by refine dQ<|I.bind<|c a _ ak Q λaY an aI cS=>I.of<|i4 ?_ (by show aY.toArray.size<=cp;refine l zZ<|l cS.length ?_;exact U);exact ac _ _ (aI.trans<|bM.new _ _ an _ an.toks)<|Pz (bJ.2 _<|bJ.1 _ _ Q aI) cS
theorem X2(cA:∀h∈o,h<a.heap.objs.size)(aO:IsL o aA a g)(bp:IsL o ca a z)(U:aA.length+ca.length<=cp):gI prog k u aW ao (tq .Add g z) (lO o<|.lst<|aA++ca) a:=by
 refine iM aO λi V s gV mT qs=>l gV<|iM bp λb fD ae i8 Ay vt=>l i8 ?_;intro J ac;have j:V++fD=(V.toList++fD.toList).toArray:=by simp
 have h2:=qs.length;have i9:=vt.length;exact I.of<|concat_meets ⟨_,mT,f⟩ ⟨_,Ay,f⟩ noFill_list_add seq_list_add NY NZ (N0 _ _) (list_addW i b V fD s ae a7 a7 #[] #[] (by simp at h2 i9;exact xL (.l (.a .x .y) .z) [.l (.a .w .u) .z,.e .x .w,.e .y .u] f U h2 i9)) ⟨mT,Ay,(ac _ _ (bM.new _ _ a _ a.toks)<|Py cA (by simpa using bX.append vt qs))⟩
theorem X3(bJ:gH aW ao o L)(bn:co prog k u aW ao m L H jz)(aL:mi aW ao jz)(bG:co prog k u aW ao m L D nE)(cS:∀a g,L a->jz a g->IsL o aA a g)(e5:∀a g,L a->nE a g->IsL o ca a g)(U:aA.length+ca.length<=cp):co prog k u aW ao m L (.BinOp H .Add D ak) (lO o<|.lst<|aA++ca):=rr bJ bn aL bG λa g z Q aO bp=>X2 (bJ.2 a Q) (cS a g Q aO) (e5 a z Q bp) U
end
theorem rs(bJ:gH aW ao o L)(bn:co prog k u aW ao m L ez jz)(aL:mi aW ao jz)(bG:co prog k u aW ao m L fo nE)(bI:∀a g z,L a->jz a g->nE a z->gI prog k u aW ao (Dq ez fo g z) aE a):co prog k u aW ao m L (.Subscript ez fo ak) aE:=λa J Q ac=>by exact I.bind<|bn a _ Q λg an aI cS=>d2<|bG an _ (bJ.1 _ _ Q aI) λz al a6 e5=>dQ<|bI al g z (bJ.1 _ _ Q<|aI.trans a6) (aL _ _ _ cS a6) e5 J λD bT bQ jk=>ac D bT ((aI.trans a6).trans bQ) jk
noncomputable def mU:bH->Bool|.Slice ..=>a2|_=>W
theorem xV(c:mU fo=W)(g z:au):subscripted fo a2 g z=operate [g,z] (getItem g z):=by cases fo<;>first|rfl|exact jj c
theorem X4(ah:mU fo=W)(c:IsL o aA a g)(bp:d' p a z)(aG:0<=p)(X:aA[p.toNat]?=A h)(U:aA.length<=cp):gI prog k u aW ao (Dq ez fo g z) (lO o h) a:=by refine iM c λi V s bK aK aB=>l bK<|cJ bp λE b8=>l b8 ?_;have aM:a.heap.IsList i V:=⟨_,aK,f,s,f⟩;exact bl (aB.get X) λB aL Az=>gI.now (λJ aZ=>sf aM.typeIs Gk.lookup (wpAny_getItem_list aM aG (xK (.cg .x<|.n 9223372036854775808) [.l .x .y,.t .z .x,.e .y<|.n 16777216,.cz .x<|.c .z] f U ((k_.mp X).1) f<|qj _) (by simpa using aL) aZ)<|xV ah _ _) Az
theorem PA(bJ:gH aW ao o L)(bn:co prog k u aW ao m L ez aE)(aL:mi aW ao aE)(qr:∀a g,L a->aE a g->IsL o aA a g)(bG:co prog k u aW ao m L fo<|d' p)(aG:0<=p)(X:aA[p.toNat]?=A h)(U:aA.length<=cp)(ah:mU fo=W:=by rfl):co prog k u aW ao m L (.Subscript ez fo ak) (lO o h):=rs bJ bn aL bG λa g z Q aO bp=>X4 ah (qr a g Q aO) bp aG X U
abbrev PB(lo ah:Option Int):ai->au->Prop:=λa g=>∃i D0 D1,g=.ref i/\a.heap.IsSliceOf i D0 D1 .none/\tt D0 lo/\tt D1 ah
def Ih(prog:cL)(k:ck)(u:ch)(aW:List aw)(ao:List Nat)(m:Env)(L:ai->Prop)(j:Option bH)(p:Option Int):Prop:=match j,p with|none,a7=>True|some j,A p=>co prog k u aW ao m L j<|d' p|bC,dw=>False
theorem PC(c:Ih prog k u aW ao m L j p)(Q:L a)(ac:∀g w,a9 aW ao a w->tt g p->J g w):I prog k u (valueOrNone<|evalOpt j m) J a:=by cases j with
 |none=>cases p with|none=>refine ?_;exact I.pure<|ac _ _ (bM.refl ..) .none|some p=>exact c.elim
 |some j=>cases p with|none=>exact c.elim|some p=>exact(show co prog k u aW ao m L j (d' p)from c) a _ Q λg w t⟨E,aO⟩=>ac g w t<|aO▸.int p E
theorem D2{H av:Option bH}{lo ah:Option Int}{ak:Pos}(bJ:gH aW ao o L)(bn:Ih prog k u aW ao m L H lo)(bG:Ih prog k u aW ao m L av ah):co prog k u aW ao m L (.Slice H av a7 ak) (PB lo ah):=λa J Q ac=>by exact I.bind<|PC bn Q λg an aI cS=>d2<|PC bG (bJ.1 _ _ Q aI) λz al a6 e5=>d2<|I.pure<|I.of<|i4 (ac _ _ ((aI.trans a6).trans<|bM.new _ _ al _ al.toks)<|mK _ g z f (Od ..) cS e5) (by show 3<=cp+2;decide)
theorem Ii{ez:bH}{H av:Option bH}{ak:Pos}{lo ah:Option Int}{aA ca:List bd}{g z:au}(cA:∀h∈o,h<a.heap.objs.size)(c:IsL o aA a g)(bp:PB lo ah a z)(U:aA.length<=cp)(a3:∀V:Array au,bX a.heap o aA V.toList->bX a.heap o ca (slicePick V lo ah a7).toList):gI prog k u aW ao (Dq ez (.Slice H av a7 ak) g z) (lO o<|.lst ca) a:=by
 refine iM c λi V s dm aK aB=>l dm<|la bp λbt D0 D1 dX j3 nH Ij=>l dX ?_;have aM:a.heap.IsList i V:=⟨_,aK,f,s,f⟩;have dW:V.size<=sizeLine:=by have:=aB.length;simp at this;exact gv (.l .x .y) [.l .z .y,.e .x .z] f U this
 intro J ac;exact I.of<|sf aM.typeIs Gk.lookup (wpAny_getItem_list_slice aM j3 nH Ij .none (by simp) (ac _ _ (bM.new _ _ a _ a.toks)<|Py cA<|a3 V aB) dW) (ops:=[.ref bt,.ref i]) f
theorem X5{ez:bH}{H:bH}{r bR:Pos}{aA:List bd}{p:Nat}(bJ:gH aW ao o L){aE:ai->au->Prop}(bn:co prog k u aW ao m L ez aE)(aL:mi aW ao aE)(qr:∀a g,L a->aE a g->IsL o aA a g)(bG:co prog k u aW ao m L H<|d' p)(U:aA.length<=cp):co prog k u aW ao m L (.Subscript ez (.Slice (A H) a7 a7 r) bR) (lO o<|.lst<|aA.drop p):=rs bJ bn aL (D2 bJ (lo:=A p) (ah:=a7) bG trivial) λa g z Q aO bp=>Ii (bJ.2 a Q) (qr a g Q aO) bp U λV aB=>by refine l (slicePick_from' ..) ?_;simpa using aB.drop p
theorem X6{ez:bH}{av:bH}{r bR:Pos}{aA:List bd}{p:Nat}(bJ:gH aW ao o L){aE:ai->au->Prop}(bn:co prog k u aW ao m L ez aE)(aL:mi aW ao aE)(qr:∀a g,L a->aE a g->IsL o aA a g)(bG:co prog k u aW ao m L av<|d' p)(U:aA.length<=cp):co prog k u aW ao m L (.Subscript ez (.Slice a7 (A av) a7 r) bR) (lO o<|.lst<|aA.take p):=rs bJ bn aL (D2 bJ (lo:=a7) (ah:=A p) trivial bG) λa g z Q aO bp=>Ii (bJ.2 a Q) (qr a g Q aO) bp U λV aB=>by refine l (slicePick_upto' ..) ?_;simpa using aB.take p
section
variable{prog:cL}{k:ck}{u:ch}{m:Env}{o aW:List aw}{ao:List Nat}{hj:List<|Str×bd}{bf L:ai->Prop}{a:ai}{K:gn->ai->Prop}
theorem D3{c:e0}{i b:aw}{ae:Str->Option au}{B:Option au}(ay:c.Ns i ae)(aO:c.IsCell b B):b≠i:=by rintro rfl;refine iM ay λv as AA j bp x=>bl aO λdq cg iS=>?_;rw[j]at cg;cases cg;rw[bp]at iS;cases iS
theorem X7(r:oL m o hj bf a)(aB:bV a.heap o B g)(X:m.kindOf h=A .local)(gK:m.locals∈o)(iT:sr [m.locals] [] bf)(c:∀w,a9 [m.locals] [] a w->oL m o ((h,B)::hj) bf w->J () w):I prog k u (tu m h g) J a:=by
 refine bl r.2 λcW aE vu=>bl aE.2 λae ay bw=>(I.of<|MK X ay (λaa mj dB=>?_) (by refine l aE.1 ?_;rfl));have t:a9 [m.locals] [] a {a with heap:=aa,toks:=a.toks+1}:=bM.same dB;refine c _ t ⟨λM a3=>cI (r.1 M a3) t.2,(dk (λM=>if M=h then A g else cW M) ⟨aE.1,(dk _ mj λM a3=>?_),λM a3=>?_⟩ λM av d_=>?_),iT _ _ r.3 t⟩
 .split
  .rfl
  .exact bw M a3
 .refine bl (aE.3 M a3) λi aX aO=>(dk i aX ?_);have j4:M≠h:=by rintro rfl;rw[X]at a3;rcases a3 with e|e<;>cases e
  have c_:i≠m.locals:=D3 ay aO;exact(if_neg j4).symm▸bl aO λv j z=>⟨v,(dB.2 i c_).trans j,z⟩
 .have cV:∀av aR,bV a.heap o av aR->bV aa o av aR:=λav aR D=>bV.to (λb v n j=>⟨t.1 b v (λe=>n<|(bc e)▸gK) j,n⟩) _ _ D;cases d_ with
  |here=>exact(dk g (if_pos f)<|cV _ _ aB)|there c_ d_=>
   refine bl (vu M av d_) λaR nI hJ=>?_;have j4:M≠h:=by rintro rfl;simp at c_
   exact(dk aR ((if_neg j4).trans nI)<|cV _ _ hJ)
theorem PD(c:I prog k u (tu m h g) J a):I prog k u (o' m h g) J a:=by exact dv<|kH<|o_<|g8 c λx w aZ=>I.of<|o_ aZ
inductive Ik(m:Env)(h:Str)(i:aw):Prop|mk(fQ:m.kindOf h=A .cell)(fR:m.cells.lookup h=A i)(gs:∀M b,m.kindOf M=A .cell\/m.kindOf M=A .free->m.cells.lookup M=A b->M≠h->b≠i):Ik m h i
theorem X8(r:oL m o hj bf a)(aB:bV a.heap o B g)(X:Ik m h i)(gK:i∈o)(iT:sr [i] [] bf)(c:∀w,a9 [i] [] a w->oL m o ((h,B)::hj) bf w->J () w):I prog k u (tu m h g) J a:=by
 refine bl r.2 λcW aE vu=>bl aE.2 λae ay bw=>bl (aE.3 h<|.inl X.1) λe9 ku lh=>?_;replace ku:=X.2▸ku;cases ku;refine(I.of<|ML aE.1 X.1 X.2 lh<|λaa nI dB=>?_);have t:a9 [i] [] a {a with heap:=aa}:=bM.same (y:=a.toks) dB;have c_:i≠m.locals:=D3 ay lh;refine c _ t ⟨λM a3=>cI (r.1 M a3) t.2,⟨λM=>if M=h then A g else cW M,⟨aE.1,⟨ae,ay.at' λv j=>t.1 _ v (λe=>c_ (bc e).symm) j,λM a3=>?_⟩,λM a3=>?_⟩,λM av d_=>?_⟩,iT _ _ r.3 t⟩
 .have j4:M≠h:=by rintro rfl;replace a3:=X.1▸a3;exact nomatch a3
  exact(bw M a3).trans (if_neg j4).symm
 .by_cases j4:M=h
  .subst j4;exact⟨i,X.2,if_pos f▸nI⟩
  .exact bl (aE.3 M a3) λb n aO=>⟨b,n,(if_neg j4▸bl aO λv j z=>⟨v,(dB.2 b<|X.3 M b a3 n j4).trans j,z⟩)⟩
 .have cV:∀av aR,bV a.heap o av aR->bV aa o av aR:=λav aR D=>bV.to (λb v n j=>⟨t.1 b v (λe=>n<|(bc e)▸gK) j,n⟩) _ _ D;cases d_ with
  |here=>exact⟨g,if_pos f,cV _ _ aB⟩|there c_ d_=>
   refine bl (vu M av d_) λaR nI hJ=>?_;have j4:M≠h:=by rintro rfl;simp at c_
   exact⟨aR,(if_neg j4).trans nI,cV _ _ hJ⟩
def AB(m:Env)(h:Str):Prop:=m.kindOf h=A .local\/∃i,Ik m h i
theorem AC{st:eS}{b_:List eS}(c:I prog k u (exec st m) (λR w=>R=.next/\I prog k u (dG b_ m) K w) a):I prog k u (dG (st::b_) m) K a:=by refine I.eq (pa ..)<|g8 c ?_;rintro R w⟨rfl,aa⟩;exact aa
theorem PE(c:K .next a):I prog k u (dG [] m) K a:=by refine l (uW ..) ?_;exact I.pure c
noncomputable def xW:bH->Bool|.ListComp ..|.SetComp ..|.DictComp ..=>a2|_=>W
theorem tT(c:xW j=W):w' j E H m=dC a2:=by cases j<;>first|rfl|exact jj c
theorem X9(cA:∀i∈bY m,i∈o)(iT:sr (bY m) [] bf)(r:oL m o hj bf a)(aB:bV a.heap o B g)(X:AB m h)(c:∀w,a9 (bY m) [] a w->oL m o ((h,B)::hj) bf w->J () w):I prog k u (tu m h g) J a:=by
 rcases X with X|⟨i,X⟩
 .have i_:∀{a w:ai},a9 [m.locals] [] a w->a9 (bY m) [] a w:=λt=>t.mono (λb n=>bc n▸bm) aP;exact X7 r aB X (cA _ bm) (λa w c t=>iT _ _ c<|i_ t) λw t bR=>c w (i_ t) bR
 .have i_:∀{a w:ai},a9 [i] [] a w->a9 (bY m) [] a w:=λt=>t.mono (λb n=>bc n▸ss X.2) aP;exact X8 r aB X (cA _<|ss X.2) (λa w c t=>iT _ _ c<|i_ t) λw t bR=>c w (i_ t) bR
theorem X_{j:bH}{ak:Pos}{aE:ai->au->Prop}{b_:List eS}(r:L a)(br:co prog k u aW ao m L j aE)(c:∀g w,a9 aW ao a w->aE w g->K (.ret g) w):I prog k u (dG (.Return (A j) ak::b_) m) K a:=by refine I.bind<|dQ<|I.bind<|br a _ r λg an aI f2=>I.pure<|I.pure<|c g an aI f2
set_option backward.match.sparseCases true in theorem PF{E:bH}{ak:Pos}{b:Bool}{vv vw:List eS}{b_:List eS}(r:L a)(bI:tS prog k u aW ao m L E b)(c:∀w,a9 aW ao a w->I prog k u (dG (bif b then vv else vw) m) (λR ek=>(R=.next/\I prog k u (dG b_ m) K ek)\/(R≠.next/\K R ek)) w):I prog k u (dG (.If E vv vw ak::b_) m) K a:=by
 refine I.bind<|dQ<|I.bind<|bI a _ r λan aI=>?_;have cV:I prog k u (dG (bif b then vv else vw) m) (λR w=>I prog k u (match R with|.next=>dG b_ m|R=>dC R) K w) an:=by
  refine I.mono (c an aI) λR w be=>?_;rcases be with⟨rfl,be⟩|⟨c_,be⟩
  .exact be
  .cases R with|next=>exact absurd f c_|_=>exact I.pure be
 cases b with|true=>refine l (if_pos f) ?_;exact cV|false=>refine l (if_neg aS) ?_;exact cV
end
def AD(prog:cL)(k:ck)(u:ch)(ps:Option<|au->Sem Unit)(J:au->ai->Prop)(cb:au)(aH:aw)(w:ai):Prop:=match ps with|none=>∃ae,w.heap.Ns aH ae/\∀aa,hV aH w.heap aa->J cb {w with heap:=aa}|some av=>I prog k u (av cb) (λx ek=>∃ae,ek.heap.Ns aH ae/\∀aa,hV aH ek.heap aa->J .none {ek with heap:=aa}) w
theorem X'(pt:clausesOf j=t::bU)(Q:∀h,zw t.iter m h=dC h)(Il:uX a4 m=dC kQ)(AE:a4.kind=.function)(PG:∀h∈a4.names,h.2=.local->a4.names.lookup h.1=A .local)(c:I prog k u iR (λh an=>I prog k u (nj h) (λey al=>I prog k u Yb (λcb bT=>I prog k u (zx a4 m.globals kQ [] m.qual a7 .none<|A m) (λsv cZ=>d6 prog k u (.compStart j 0 ey cb {sv with scope:=xa a4 m}) (λx=>AD prog k u ps J cb sv.locals) cZ) bT) al) an) a):I prog k u (xb j a4 m ak Yb a2 iR ps) J a:=by unfold xb;refine Il.symm▸pt.symm▸g8 c λh an bn=>dQ<|I.bind<|I.eq (Q h)<|I.pure<|d2<|I.mono bn λey al bG=>?_;cases ps with
 |none=>
  refine I.bind<|I.mono bG λcb bT jD=>ea<|g8 jD λsv cZ Im=>?_
  dsimp only;have aL:∀h∈(a4.names.filter λh=>(h.2==.local||h.2==.cell)&&h.1 !=(".0":Str)).reverse,h.2=.local->xv {sv with scope:=xa a4 m} h.1=A .local:=λh X aM=>MM<|PG h (tB.mp<|Ni.mp X).1 aM;exact I.holding<|I.bind<|I.attempt<|I.holding<|I.run<|d6.mono Im λR w aB=>bl aB λae ay aB=>d2<|I.of<|wpAny_comp_letGo (cenv:={sv with scope:=xa a4 m}) AE _ w ae aL ay λaa pu x dB=>I.pure<|aB aa dB|some av=>
  refine dQ<|I.bind<|I.mono bG λcb bT jD=>ea<|g8 jD λsv cZ Im=>?_
  dsimp only;have aL:∀h∈(a4.names.filter λh=>(h.2==.local||h.2==.cell)&&h.1 !=(".0":Str)).reverse,h.2=.local->xv {sv with scope:=xa a4 m} h.1=A .local:=λh X aM=>MM<|PG h (tB.mp<|Ni.mp X).1 aM;have oM:∀h∈(a4.names.filter λh=>(h.2==.local||h.2==.cell)&&h.1 !=(".0":Str)).reverse.drop 1++(a4.names.filter λh=>(h.2==.local||h.2==.cell)&&h.1 !=(".0":Str)).reverse.take 1,h.2=.local->xv {sv with scope:=xa a4 m} h.1=A .local:=λh X aM=>bD X (λag=>aL h (List.mem_of_mem_drop ag) aM) λag=>aL h (G7 ag) aM;exact I.holding<|I.bind<|I.attempt<|I.holding<|I.run<|d6.mono Im λR w aB=>dv<|l_<|d2<|I.mono aB λx ek hJ=>bl hJ λae ay hJ=>dv<|wpAny_comp_letGo (cenv:={sv with scope:=xa a4 m}) AE _ ek ae oM ay λaa pu x dB=>I.pure<|hJ aa dB
noncomputable def AF(hv:List bH)(m:Env):Sem Bool:=match hv with|[]=>dC W|g::_=>isTrue g m<|dF g m
theorem Yc(c:hv.length<=1):(forIn hv W λg D=>if D=W then do let kv<-isTrue g m<|dF g m;dC (rg kv)else dC (rg D):Sem Bool)=AF hv m:=by cases hv with|nil=>rfl|cons g D=>cases D with|nil=>simp[AF,tC]|cons _ _=>exact absurd c<|M'<|p4 2 _
noncomputable def pv(dz:bH)(d3:List k9)(a4:dp)(ak:Pos)(z:Nat)(cb:au)(m:Env)(hv:List bH):Sem Unit:=do
 let kv<-AF hv m if kv then match d3[z+1]? with
  |some cc=>do
   let h<-dF cc.iter m
   zt cc.iter.pos let h<-zw cc.iter m h let _<-runOwn (.compStart (.ListComp dz d3 a4 ak) (z+1) (<-holding [h]<|nj h) cb m) m
  |none=>do let _<-call (.builtin "list.append") [cb,<-dF dz m]else dC ()
theorem PH(aK:d3[z]?=A t)(aG:t.is_async=0)(ag:t.ifs.length<=1)(aF:∀cc,d3[z+1]?=A cc->cc.is_async=0):compTurn (.ListComp dz d3 a4 ak) z ey cb m=(do zt t.iter.pos match<-nY ey with|none=>dC<|.done .next|some B=>do
    zy t.target ey B
    assign t.target m B
    pv dz d3 a4 ak z cb m t.ifs
    again<|.compLoop (.ListComp dz d3 a4 ak) z ey cb m):=by
 unfold compTurn pv;simp only[aK,aG];rw[if_neg (by decide),if_neg (by decide)]
 congr 1;funext _;congr 1;funext D;cases D with|none=>rfl|some B=>
  dsimp only
  congr 1;funext _;congr 1;funext _;rw[show(forIn t.ifs W λg D=>_:Sem Bool)=AF t.ifs m from(by rw[<-Yc ag])];simp only[bind_assoc]
  congr 1;funext kv;cases kv with|false=>rfl|true=>simp only[if_true];cases ge:d3[z+1]? with|none=>simp only[bind_assoc]|some cc=>simp only[aF cc ge,bind_assoc];rfl
theorem Io(aK:d3[z]?=A t)(aG:t.is_async=0)(AG:∀J:au->ai->Prop,J (.ref aj) a->I prog k u (nj<|.ref aj) J a)(c:d6 prog k u (.compLoop (.ListComp dz d3 a4 ak) z (.ref aj) cb m) cM a):d6 prog k u (.compStart (.ListComp dz d3 a4 ak) z (.ref aj) cb m) cM a:=by
 refine d6.lZ f<|I.onRaise ?_;unfold compStart;refine l (show clausesOf (.ListComp dz d3 a4 ak)=d3 from f ..)<|l (aK ..)<|l (Option.elim_some ..)<|l (aG ..)<|fY aS<|dv<|wpAny_askSetting ?_;split
 .exact ea<|I.pure ⟨f,c⟩
 .exact dv<|l_<|dQ<|I.bind<|AG _<|I.pure ⟨f,c⟩
inductive Ip(al cZ:ai)(aq aH:aw):Prop|mk(fQ:cZ.heap.PlainList aq #[])(fR:cZ.heap.Ns aH<|λx=>a7)(gs:bM [] al cZ)(i7:al.heap.objs.size<=aq/\al.heap.objs.size<=aH/\aq≠aH)(kq:aq<cZ.heap.objs.size/\aH<cZ.heap.objs.size):Ip al cZ aq aH
inductive Iq(m:Env)(a4:dp)(kQ:List<|Str×aw):Prop|mk(fQ:uX a4 m=dC kQ)(fR:a4.kind=.function)(gs:∀M∈a4.names,M.2≠.cell)(i7:∀M∈a4.names,M.2=.local->a4.names.lookup M.1=A .local):Iq m a4 kQ
theorem PI(li:Iq m a4 kQ)(aG:t.is_async=0)(Q:∀h,zw t.iter m h=dC h)(c:I prog k u (dF t.iter m) (λg an=>I prog k u (nj g) (λey al=>∃aj,ey=.ref aj/\∀aq aH cZ,Ip al cZ aq aH->(∀J:au->ai->Prop,J (.ref aj) cZ->I prog k u (nj<|.ref aj) J cZ)/\d6 prog k u (.compLoop (.ListComp dz (t::bU) a4 ak) 0 (.ref aj) (.ref aq)<|ra a4 kQ aH m) (λx=>AD prog k u ps J (.ref aq) aH) cZ) an) a):I prog k u (xb (.ListComp dz (t::bU) a4 ak) a4 m (CN (t::bU) ak) (newList []) (zz<|t::bU) (CO (t::bU) m) ps) J a:=by obtain⟨vx,Ir,hv,Yd⟩:=t;obtain rfl:Yd=0:=aG;have aX:zz (⟨vx,Ir,hv,0⟩::bU)=a2:=f;refine X' (t:=⟨vx,Ir,hv,0⟩) (bU:=bU) f Q li.1 li.2 li.4<|I.mono c λg an bn=>I.mono bn λey al bG=>?_;obtain⟨aj,rfl,bG⟩:=bG;refine I.of<|i4<|I.of<|Gm li.3 (by intro M a3;simp at a3) (λbn PJ D4=>?_) li.2;generalize Is:al.heap.push {cls:=.type "list",dict:=a7,data:=.seq ([]:List au).toArray}=It at PJ D4⊢;have f9:It.objs.size=al.heap.objs.size+1:=c2 Is<|l (f' ..) f;have tU:al.heap.objs.size≠It.objs.size:=f9▸hS (ks _);have qt:∀b v,al.heap.get? b=A v->bn.get? b=A v:=λb v j=>D4.extBut b v (f9▸hS (pe<|dH j))<|eT _<|Is▸eT _ j;have U:bn.objs.size=al.heap.objs.size+2:=l D4.1<|l (f' ..)<|l f9 f;have Y:Ip al {al with heap:=bn,toks:=al.toks+([]:List<|Str×au).length} al.heap.objs.size It.objs.size:=⟨⟨_,D4.extBut _ _ tU<|eT _<|Is▸fj _ f⟩,PJ,bM.heap (λb v x j=>qt b v j)<|U▸hT _ _,⟨dD _,f9▸js _,tU⟩,⟨by show _<bn.objs.size;refine l U ?_;exact Nat.lt_add_of_pos_right aS,by show _<bn.objs.size;refine l U<|l f9 ?_;exact ks _⟩⟩;obtain⟨AG,aM⟩:=bG _ _ _ Y;exact Io (t:=⟨vx,Ir,hv,0⟩) f f AG aM
section
variable{prog:cL}{k:ck}{u:ch}{m:Env}{o aW:List aw}{ao:List Nat}{hj:List<|Str×bd}{bf:ai->Prop}{a:ai}{K:gn->ai->Prop}
end
theorem bX.at:∀{aA:List bd}{V:List au}{q:Nat}{B:au},bX c o aA V->V[q]?=A B->∃h,aA[q]?=A h/\bV c o h B|[],bC,dw,ic,D,j=>by subst D;exact d1 j|M::aA,bC,0,B,D,j=>by refine dZ D λg aY b8 eD eN=>?_;obtain rfl:=b8;cases j;exact(dk M f eD)|M::aA,bC,q+1,B,D,j=>by refine dZ D λg aY dX eD eN=>?_;obtain rfl:=dX;exact bX.at (q:=q) eN (by simpa using j)
def AH(o:List aw)(i z:Int)(s:Nat):ai->au->Prop:=λa g=>∃D b E av B,g=.ref D/\D∉o/\rb a.heap D i b z E av B/\xw i b z=W/\sg i b z=s
theorem D5(s:Nat):sg 0 s 1=s:=by refine l (rangeSize_one ..) ?_;split<;>(first|exact Int.sub_zero _|lia)
theorem PK{j:bH}{dO ak:Pos}{s:Nat}(bJ:gH aW ao o L)(aK:n_ L m "range"<|.type "range")(Q:dT j=W)(c:co prog k u aW ao m L j<|d' s)(ay:s<2^62):co prog k u aW ao m L (.Call (.Name "range" dO) [j] [] ak) (AH o 0 1 s):=mS bJ aK f (jl Q bJ c (kr _) kt) (by rintro a aY a1⟨g,D,rfl,⟨E,rfl⟩,rfl⟩J ac;exact I.of<|CP<|ac _ _ (bM.new _ _ a _ _) ⟨_,s,_,_,_,f,λe=>iK _<|bJ.2 _ a1 _ e,Hv ..,small_one (kL _) (kL _) (kL _)<|bZ (.cg (.c .x)<|.n 4611686018427387904) [.t .x<|.n 4611686018427387904] f ay,D5 s⟩) (by simp[Q])
theorem rt(q:Int)(c:-(2^62)<=q)(aa:q<2^62):sh q=W:=by unfold sh;exact l (jU ..)<|l decide_eq_true_eq<|l decide_eq_true_eq<|⟨gd (.cz (.g<|.n 9223372036854775808) .x) [.cz (.g<|.n 4611686018427387904) .x] f c,gd (.cg .x<|.n 9223372036854775808) [.cg .x<|.n 4611686018427387904] f aa⟩
theorem Ye(bJ:gH aW ao o L)(bn:co prog k u aW ao m L H<|d' i)(bG:co prog k u aW ao m L D<|d' b)(n:0<=b)(eX:b<=1000000)(aX:i.natAbs<2^64):co prog k u aW ao m L (.BinOp H .Pow D ak) (d'<|i^b.toNat):=rr bJ bn (kr i) bG (by rintro a _ _-⟨E,rfl⟩⟨av,rfl⟩;exact gI.tok (λJ c=>pow_int_small n eX aX c) ⟨_,f⟩)
theorem Yf(bJ:gH aW ao o L)(bn:co prog k u aW ao m L ez<|lO o<|.tup aA)(bG:co prog k u aW ao m L fo<|d' p)(aG:0<=p)(X:aA[p.toNat]?=A h)(U:aA.length<=cp)(ah:mU fo=W:=by rfl):co prog k u aW ao m L (.Subscript ez fo ak) (lO o h):=rs bJ bn (bJ.is _) bG λa g z Q aO bp=>by
 refine la aO λi V s eO aX aK aB=>l eO<|cJ bp λE gh=>l gh ?_;have aM:IsTup a.heap i V:=⟨_,aK,f,s,f⟩;refine bl (aB.get X) λB aL Az=>?_;have c1:p.toNat<aA.length:=(k_.mp X).1;have cP:V.size=aA.length:=by simpa using aB.length
 have dB:cp=2^24:=f;have Yg:w7 p V.size=A p.toNat:=by unfold w7;have j:(if p<0 then p+(V.size:Int)else p)=p:=if_neg (by exact gd (.oD .x<|.n 0) [.cz (.n 0) .x] f aG);refine l (j ..) ?_;rw[if_pos];refine l (jU ..)<|l decide_eq_true_eq<|l decide_eq_true_eq ?_;exact⟨aG,(zO aG).mp<|l cP c1⟩
 exact gI.now (λJ aZ=>sf aM.typeIs PySem.F.slot_tuple_getitem.lookup (PyProof.Rows.getItem_tuple aM (by exact gd (.cz (.g<|.n 9223372036854775808) .x) [.cz (.n 0) .x] f aG) (xK (.cg .x<|.n 9223372036854775808) [.l .x .y,.t .z .x,.e .y<|.n 16777216,.cz .x<|.c .z] f U c1 dB<|qj _) Yg (by simpa using aL) aZ)<|xV ah _ _) Az
theorem Yh(bJ:gH aW ao o L)(bn:co prog k u aW ao m L ez aE)(aL:mi aW ao aE)(qr:∀a g,L a->aE a g->IsL o aA a g)(bG:co prog k u aW ao m L fo<|d' p)(aG:p<0)(ag:-(aA.length:Int)<=p)(X:aA[(p+aA.length).toNat]?=A h)(U:aA.length<=cp)(ah:mU fo=W:=by rfl):co prog k u aW ao m L (.Subscript ez fo ak) (lO o h):=rs bJ bn aL bG λa g z Q aO bp=>by
 refine iM (qr a g Q aO) λi V s fE aK aB=>l fE<|cJ bp λE gV=>l gV ?_;have aM:a.heap.IsList i V:=⟨_,aK,f,s,f⟩;refine bl (aB.get X) λB aL Az=>?_;have cP:V.size=aA.length:=by simpa using aB.length
 have dB:cp=2^24:=f;exact gI.now (λJ aZ=>sf aM.typeIs Gk.lookup (wpAny_getItem_list_neg aM aG (HR [1,1,-1] (.cz (.g<|.c .x) .x) [.cz (.g<|.c .y) .x,.e .x .y] f ag cP) (xJ (.cz (.g<|.n 9223372036854775808) .x) [.cz (.g<|.c .x) .x,.l .x .y,.e .y<|.n 16777216] f ag U dB) (by refine l cP ?_;simpa using aL) aZ)<|xV ah _ _) Az
theorem IntsAre.mem{V:List au}{ab:List Int}(c:xu V ab){B:au}(aL:B∈V):∃s E,B=.int s E:=by induction c with|nil=>exact dI aL|cons s E _ a5=>
  rcases e1.mp aL with rfl|aL
  .exact(mf s E f)
  .exact a5 aL
noncomputable def isInt(p:Int):au->Bool|.int s bC=>s==p|_=>a2
theorem IntsAre.any{V:List au}{ab:List Int}(c:xu V ab)(p:Int):V.any (isInt p)=ab.any (·==p):=by induction c with|nil=>rfl|cons s E _ a5=>refine l (G8 ..)<|l (a5 ..) ?_;rfl
theorem Yi{ab:List Int}{p:Int}{g z:au}(bp:d' p a z)(aO:lO o (.tup<|ab.map bd.int) a g):gI prog k u aW ao (ts .In z g) (DW (ab.any (·==p))) a:=by refine la aO λi V s h1 aX aK aB=>l h1<|cJ bp λE i8=>l i8 ?_;have ah:=bX.ints.mp aB;refine(IntsAre.any ah p)▸gI.now (λJ aZ=>SeqAt.in_tupleAt (isInt p) ⟨_,aK,f,s,f⟩ (λM a3=>kn (IntsAre.mem ah (by simpa using a3)) λae av jC=>?_)<|Array.any_toList▸aZ) f;refine l jC ?_;exact(V_ ae p av E).at _ _
theorem Yj{H D:bH}{ak:Pos}{ab:List Int}{p:Int}(bJ:gH aW ao o L)(bn:co prog k u aW ao m L H<|d' p)(bG:co prog k u aW ao m L D<|lO o<|.tup<|ab.map bd.int)(bw:uV [.In] [D] (tr [D] m)=[dF D m]:=by rfl):tS prog k u aW ao m L (.Compare H [.In] [D] ak) (ab.any (·==p)):=vq bJ bn (kr p) bG (λa g z Q aO bp=>Yi aO bp) bw
theorem Yk(c:n_ L m h B)(aB:∀a,L a->bV a.heap o Iu B)(bJ:gH aW ao o L)(bp:(h==("__debug__":Str))=a2:=by decide):co prog k u aW ao m L (.Name h ak) (lO o Iu):=λa J Q ac=>qq (aW:=aW) (ao:=ao) c bp a J Q λg w t j=>ac g w t<|j▸aB w (bJ.1 _ _ Q t)
section
variable{prog:cL}{k:ck}{u:ch}{m:Env}{o aW:List aw}{ao:List Nat}{hj:List<|Str×bd}{bf:ai->Prop}{a:ai}{K:gn->ai->Prop}
inductive xX:List bH->List Str->Prop|nil:xX [] []|cons{h:Str}{ak:Pos}{as:List bH}{aA:List Str}:xX as aA->xX (.Name h ak::as) (h::aA)
theorem Yl{as:List bH}{aA:List Str}(ay:xX as aA):(r5 as m).findIdx? (·.1)=a7/\(r5 as m).length=aA.length:=by induction ay with|nil=>exact⟨f,f⟩|cons _ a5=>exact cx a5 λag aF=>⟨List.findIdx?_cons.trans ((if_neg zp).trans (congrArg (Option.map (·+1)) ag)),congrArg (·+1) aF⟩
end
section
variable{prog:cL}{k:ck}{u:ch}{m:Env}{a:ai}{K:gn->ai->Prop}
theorem Ym{E:bH}{el:List eS}{ak:Pos}{b_:List eS}(af:Nat->ai->Prop)(mh:∀s a,af s a->I prog k u (isTrue E m<|dF E m) (λb w=>(b=W/\I prog k u (dG el m) (λR ek=>(R=.next\/R=.cont)/\∃ae,ae<s/\af ae ek) w)\/(b=a2/\I prog k u (dG b_ m) K w)) a)(s:Nat)(c:af s a):I prog k u (dG (.While E el [] ak::b_) m) K a:=by
 refine AC<|I.eq (exec_While ..)<|dQ<|I.runOwn<|d6.loop f f af ?_ s c;intro s a fx;refine I.onRaise<|g8 (mh s a fx) λb an n=>?_;rcases n with⟨rfl,n⟩|⟨rfl,n⟩
 .refine g8 n λR al be=>cx be λbK b8=>bl b8 λae bw c4=>?_;obtain rfl|rfl:=bK
  .exact I.pure<|.inl ⟨f,(dk ae bw c4)⟩
  .exact I.pure<|.inl ⟨f,(dk ae bw c4)⟩
 .refine I.eq (l (if_neg aS)<|l (uW ..) f) ?_;exact ea<|I.pure ⟨f,n⟩
theorem PL{b5 ht:bH}{el:List eS}{ak:Pos}{b_:List eS}(Q:∀h,zw ht m h=dC h)(c:I prog k u (dF ht m) (λg an=>I prog k u (nj g) (λey al=>∃aj,ey=.ref aj/\d6 prog k u (.forLoop b5 (.ref aj) el [] m) (λR w=>(R=.next/\I prog k u (dG b_ m) K w)\/(∃B,R=.ret B/\K R w)) al) an) a):I prog k u (dG (.For b5 ht el [] ak::b_) m) K a:=by
 refine I.bind<|I.eq (exec_For ..) ?_;refine dQ<|g8 c λg an bn=>?_;refine I.eq (l (Q ..) f)<|ea ?_;refine dQ<|d2<|I.mono bn λey al bG=>?_;obtain⟨aj,rfl,bG⟩:=bG;refine I.runOwn<|d6.mono bG λR w be=>?_;rcases be with⟨rfl,be⟩|⟨B,rfl,be⟩
 .exact be
 .exact I.pure be
end
section
variable{prog:cL}{k:ck}{u:ch}{m:Env}{a:ai}{K:gn->ai->Prop}
theorem Iv:∀{as:List bH},as.all dT=W->(jV ak<|jh as m).all (!·.1)=W|[],bC=>by cbv|j::as,c=>by rw[n0,jU]at c;refine l (jA c.1) ?_;show(!a2&&(jV ak<|jh as m).all (!·.1))=W;refine l (Iv c.2) ?_;rfl
theorem sw(ay:as.all dT=W)(cP:as.length<20)(ml:tv v attr m (dF v m)=dF v m)(hw:(pw.endLine==ak.line)=W)(c:I prog k u (dF v m) (λkR an=>I prog k u (CQ W v m kR attr) (λbA al=>I prog k u (pZ ak bA.1 bA.2 (jV ak<|jh as m) []) J al) an) a):I prog k u (dF (.Call (.Attribute v attr pw) as [] ak) m) J a:=by
 refine I.eq (l (arm_eval_Call ..)<|l ml f)<|g8 c λkR an bn=>?_;refine dQ ?_;have Iw:CS (as.length+([]:List Keyword).length) (jV ak<|jh as m) (backToKw ak<|keywordEach [] m)=W:=by unfold CS;refine l (Iv ay)<|?_;show(W&&W&&decide (as.length+0+0<30))=W;simp;exact bZ (.t .x<|.n 30) [.t .x<|.n 20] f cP
 unfold methodCall;refine Iw.symm▸d2 (I.mono bn λbA al bG=>?_);have Ix:CT W v m pw ak=dC ak:=by unfold CT;simp[hw]
 obtain⟨R,iR⟩:=bA;refine I.bind<|I.eq Ix<|I.pure<|I.eq (f) ?_;exact bG
theorem Yn(bJ:gH aW ao o L)(aJ:co prog k u aW ao m L v<|λx g=>g=.ref i)(aM:∀a,L a->a.heap.PlainList i V)(br:co prog k u aW ao m L j aE)(dW:V.size<=cp)(ay:dT j=W)(ml:tv v "append" m (dF v m)=dF v m)(hw:(pw.endLine==ak.line)=W)(r:L a)(c:∀g an al,a9 aW ao a an->L an->aE an g->al.heap.PlainList i (V.push g)->a9 [i] [] an al->J .none al):I prog k u (dF (.Call (.Attribute v "append" pw) [j] [] ak) m) J a:=by
 refine sw (by simp[ay]) (by show 1<20;decide) ml hw<|aJ a _ r λg an aI aO=>?_;refine l aO ?_;have cX:=bJ.1 _ _ r aI;refine cJ (aM an cX) λp a8=>?_;refine I.of<|Calls.getMethod_list_append a8 f f ?_;refine vs (L:=L) (aW:=aW) (ao:=ao) (aE:=λa aY=>∃g D,aY=g::D/\aE a g/\D=[]) f (by simp[ay]) ?_ cX ?_
 .intro a J ak a1 ac;refine I.eq (l (jA ay)<|f) ?_;show I prog k u (mB [(a2,dF j m)]) J a;refine I.eq (f) ?_;refine I.bind<|br a _ a1 λg an aI cS=>?_;refine fY aS ?_;exact ea<|d2<|I.pure<|I.pure<|ac _ _ aI<|eH g [] f cS f
 .rintro aY al a6 dm;refine dZ dm λg D dX aO eO=>?_;refine l dX ?_;obtain rfl:=eO;have df:=bJ.1 _ _ cX a6;refine I.of<|MO (aM al df) (λaa jE dB=>?_) dW;exact c g al _ (aI.trans a6) df aO jE<|bM.same (y:=al.toks) dB
theorem Iy{j:bH}{ak:Pos}{b_:List eS}(a8:m.scope.kind=.function)(ay:xW j=W)(c:I prog k u (dF j m) (λg w=>g=.none/\I prog k u (dG b_ m) K w) a):I prog k u (dG (.Expr j ak::b_) m) K a:=by
 refine AC ?_;have ah:xc m=a2:=by unfold xc;refine l a8 ?_;rfl
 refine(Gn (hi:=ah) (hs:=tT ay)).symm▸dQ (g8 c ?_);rintro g w⟨rfl,aa⟩;have px:CW j ak .none=dC .next:=by unfold CW;cases j<;>rfl
 exact px.symm▸I.pure ⟨f,aa⟩
end
set_option backward.match.sparseCases true in theorem Iz(c:I prog k (u.deeper m) (dG el m) (λR w=>cM (.ret<|match R with|.ret B=>B|_=>.none) w) a):d6 prog k u (.func el m) cM a:=by refine d6.lZ f ?_;show I prog k (u.deeper m) (do point;match<-(dG el m).onRaise (leaving m)with|.ret B=>ret B|_=>ret .none) _ a;refine dv<|o_<|I.bind<|I.onRaise<|I.mono c λR w aa=>?_;cases R<;>exact I.pure aa
theorem D6(fF:u.depth<fA)(aJ:a.heap.get? i=A v)(iS:v.data=.func bh)(xY:bh.scope.isCoroutine=a2)(kS:bh.scope.isGenerator=a2)(iU:bh.body=.stmts el)(ru:a.heap.CodeRec bh.code bh.qualname)(c:I prog k u.in1 (bindArgs bh fO) (λiw an=>I prog k u.in1 (zx bh.scope bh.globals bh.closure iw (bh.qualname++".<locals>.") (A i) bh.code a7 bh.builtins) (λm al=>al.heap.NoLimit/\d6 prog k u (.func el m) cM al) an) a):d6 prog k u (.call (.ref i) fO) cM a:=by refine d6.lZ f<|dv<|zq aJ<|Wg ru λg IA V AI aO Yo Yp aZ=>?_;simp only[iS,callFunction,xY,kS,iU,aO];rw[aO]at c;exact I.bind (ae:=field (.ref g) 1)<|I.of<|wpAny_field Yo Yp aZ<|ea<|g8 c λiw an bn=>g8 bn λm al bG=>dv<|wpAny_enterFrame bG.1 fF<|I.pure ⟨f,bG.2⟩
noncomputable def xZ:List (Str×au)->List bd->List (Str×bd)->List (Str×bd)|(h,bC)::aQ,B::V,hj=>xZ aQ V<|(h,B)::hj|bC,dw,hj=>hj
theorem Yq(cA:∀i∈bY m,i∈o)(iT:sr (bY m) [] bf):∀{iw:List<|Str×au}{V:List bd}{hj:List<|Str×bd}{a:ai},(∀r∈iw,AB m r.1)->oL m o hj bf a->bX a.heap o V (iw.map (·.2))->(∀w,a9 (bY m) [] a w->oL m o (xZ iw V hj) bf w->J () w)->I prog k u (forIn iw () λr x=>do tu m r.1 r.2;dC<|rg ()) J a:=by intro iw;induction iw with
 |nil=>intro V hj a aJ r aB c;refine I.pure<|c a (bM.refl ..) ?_;cases V with
  |nil=>exact r|cons B V=>refine fM aB λg aY j x=>?_;cases j
 |cons tV aQ a5=>intro V hj a aJ r aB c;obtain⟨h,g⟩:=tV;cases V with|nil=>cases aB|cons B V=>refine gc λx dA=>dZ aB λaR aY j eD eN=>?_;cases j;exact dA<|I.eq (tC ..)<|I.bind<|I.bind<|X9 cA iT r eD (aJ _ bm) λan aI cX=>I.pure<|a5 (λe aZ=>aJ e<|mt aZ) cX (bX.to (λb v n j=>⟨aI.1 b v (λe=>n<|cA b e) j,n⟩) _ _ eN) λal a6 df=>c al (aI.trans a6) df
set_option tactic.hygienic true in theorem AJ:∀(eh:List<|Str×r6)(s:Nat)(cb:List<|Str×aw)(h:Str),((cb.lookup h).isSome=W\/eh.lookup h=A .cell)->((cellsFrom s eh cb).lookup h).isSome=W
 |[],s,cb,h,c=>by
  rcases c with c|c
  .exact c
  .exact d1 c|(M,p)::D,s,cb,h,c=>by
  unfold cellsFrom;split
  .rename_i a8;refine AJ D (s+1) _ h<|l r' ?_;cases n:h==M with
   |true=>exact .inl f|false=>
    rcases c with c|c
    .exact .inl c
    .rw[r',n]at c;exact .inr c
  .rename_i a8;refine AJ D s cb h ?_;rcases c with c|c
   .exact .inl c
   .rw[r']at c;cases n:h==M with|true=>replace c:=n▸c;cases c;simp at a8|false=>replace c:=n▸c;exact .inr c
theorem IB:∀(eh:List<|Str×r6)(c:e0),c.objs.size<=(pushCells c eh).objs.size
 |[],c=>dD _|(bC,p)::D,c=>by
  unfold pushCells;split
  .exact a' (by refine l (f' ..) ?_;exact js _)<|IB D _
  .exact IB D c
noncomputable abbrev qu(a4:dp)(b0 oN:aw)(oO:Str)(func:Option aw)(code:au)(oP:aw):Env:=newEnv a4 b0 oN (cellsFrom (b0+1) a4.names []) oO func code a7 oP
theorem PM{a4:dp}{oN:aw}{iw:List<|Str×au}{oO:Str}{func:Option aw}{code:au}{oP:aw}{V:List bd}{J:Env->ai->Prop}(a8:a4.kind=.function)(be:∀h∈a4.names,h.2≠.free)(aJ:∀r∈iw,AB (qu a4 a.heap.objs.size oN oO func code oP) r.1)(aB:bX a.heap o V (iw.map (·.2)))(cA:∀h∈o,h<a.heap.objs.size)(c:∀w,(∀i∈bY<|qu a4 a.heap.objs.size oN oO func code oP,a.heap.objs.size<=i)->oL (qu a4 a.heap.objs.size oN oO func code oP) (bY (qu a4 a.heap.objs.size oN oO func code oP)++o) (xZ iw V []) (bM [] a) w->J (qu a4 a.heap.objs.size oN oO func code oP) w):I prog k u (zx a4 oN [] iw oO func code a7 oP) J a:=by
 unfold zx;refine dv<|zA<|dv<|wpAny_layCells _ (λname PN aly=>by rfl) a4.names [] _ _ ?_;refine l (f' ..) ?_;generalize iQ:pushCells (a.heap.push {cls:=.type<|if(a7:Option Env).isSome then"dict"else"frame",data:=.dict #[]}) a4.names=dc;change I prog k u (do
  forIn iw si λh x=>do tu (qu a4 a.heap.objs.size oN oO func code oP) h.1 h.2;dC<|rg si
  dC<|qu a4 a.heap.objs.size oN oO func code oP) J {a with heap:=dc};have Ic:∀b v,a.heap.get? b=A v->dc.get? b=A v:=λb v j=>iQ▸pushCells_keeps _ _ b v (eT _ j);have d4:a.heap.objs.size+1<=dc.objs.size:=by rw[<-iQ,<-f' (h:=a.heap)];exact IB _ _
 have kv:CellsOk dc (a.heap.objs.size+1) (cellsFrom (a.heap.objs.size+1) a4.names []):=by have:=cellsFrom_ok a4.names (a.heap.push {cls:=.type<|if(a7:Option Env).isSome then"dict"else"frame",data:=.dict #[]}) (a.heap.objs.size+1) [] ⟨λx x c=>(dI c),Oe⟩ (by refine l (f' ..) ?_;exact dD _);rw[f',iQ]at this;exact this
 have lj:dc.Ns a.heap.objs.size (λx=>a7):=by have:(a.heap.push {cls:=.type<|if(a7:Option Env).isSome then"dict"else"frame",data:=.dict #[]}).Ns a.heap.objs.size (λx=>a7):=Heap.Ns.new ..;exact iQ▸this.keeps λb v j=>pushCells_keeps _ _ b v j
 have t:bM [] a {a with heap:=dc}:=bM.heap (y:=a.toks) (λb v x j=>Ic b v j)<|GW d4;have sx:∀i∈bY<|qu a4 a.heap.objs.size oN oO func code oP,a.heap.objs.size<=i/\i<dc.objs.size:=by
  intro i aX
  revert i;refine gr ?_ ?_
  .exact⟨dD _,d4⟩
  .intro i aX;exact j2 aX λr a1 bK=>c2 bK<|cx (kv.empty r.1 r.2 a1) λaO mV=>⟨GW mV,aO.lt⟩
 have iV:oL (qu a4 a.heap.objs.size oN oO func code oP) (bY (qu a4 a.heap.objs.size oN oO func code oP)++o) [] (bM [] a) {a with heap:=dc}:=by
  refine⟨λh X=>?_,(dk (λx=>a7) ⟨a8,(dk _ lj λx x=>f),λh X=>?_⟩ λh B X=>nomatch X),t⟩
  .exact bD X (λX=>(sx h X).2) λX=>cI (cA h X)<|GW d4
  .rcases X with X|X
   .exact cJ (GG.mp<|AJ a4.names (a.heap.objs.size+1) [] h<|.inr X) λi aX=>(dk i aX (kv.empty h i<|Go aX).1)
   .exact absurd f<|be _<|Go X
 refine I.bind<|Yq (bf:=bM [] a) (λi aX=>bO aX) ?_ aJ iV ?_ λw cc bR=>I.pure<|c w (λi aX=>(sx i aX).1) bR
 .intro E eM bI tW;exact bI.gR tW (λb n=>.inr<|fS (sx b n).1) aP
 .exact bX.to (λb v n j=>⟨Ic b v j,λe=>bD e (λe=>iK _<|cI (dH j) (sx b e).1) n⟩) _ _ aB
theorem vy(ay:as.all dT=W)(cP:as.length<20)(c:mR prog k u aW ao m L as aE)(Q:L a)(be:∀a,L a->a.heap.get? i=A v)(bp:v.data=.func bh)(bJ:sr aW ao L)(aO:∀aY w,a9 aW ao a w->aE w aY->I prog k u (et (.ref i) (iR++aY) []) J w):I prog k u (pZ ak (.ref i) iR (jV Ax<|jh as m) []) J a:=by
 unfold pZ;refine d2<|xU ay c Q λaY an aI cS=>dQ<|l (vr ay ..)<|l (u7 ..)<|l (q9 ..) ?_;have a8:I prog k u (r4<|.ref i) (λp w=>p=.frame/\w=an) an:=by unfold r4;exact dv<|zq (be an<|bJ _ _ Q aI)<|bp.symm▸I.pure ⟨f,f⟩
 refine g8 a8<|qk ?_;have py:∀D al,J D al->I prog k u (do holding [D] point;dC D) J al:=λD al aB=>dv<|kH<|o_<|I.pure aB
 dsimp only;split
 .exact g8 (aO aY _ aI cS) λD al aB=>py D al aB
 .exact I.bind<|I.keep<|I.mono (aO aY _ aI cS) λD al aB=>py D al aB
theorem Yr(bJ:gH aW ao o L)(aK:n_ L m h<|.ref i)(be:∀a,L a->a.heap.get? i=A v)(bp:v.data=.func bh)(c:mR prog k u aW ao m L as aE)(aO:∀a aY,L a->aE a aY->gI prog k u aW ao (et (.ref i) aY []) de a)(cP:as.length<20)(ay:as.all dT=W:=by rfl)(Ys:(h==("__debug__":Str))=a2:=by decide):co prog k u aW ao m L (.Call (.Name h Ig) as [] ak) de:=λa J Q ac=>by .refine I.bind<|qq (aW:=aW) (ao:=ao) aK Ys a _ Q λg an aI cS=>?_;subst cS;exact I.eq (l (CX ..) f)<|vy (iR:=[]) ay cP c (bJ.1 _ _ Q aI) be bp bJ.1 λaY al a6 e5=>aO al aY (bJ.1 _ _ Q<|aI.trans a6) e5 _ λD bT bQ jk=>ac D bT ((aI.trans a6).trans bQ) jk
noncomputable abbrev c3(bh:uY)(i:aw)(a:ai):Env:=qu bh.scope a.heap.objs.size bh.globals (bh.qualname++".<locals>.") (A i) bh.code bh.builtins
inductive FnAt(a:ai)(i:aw)(bh:uY)(el:List eS):Prop|mk(fQ:∃v,a.heap.get? i=A v/\v.data=.func bh)(fR:bh.scope.isCoroutine=a2)(gs:bh.scope.isGenerator=a2)(i7:bh.body=.stmts el)(kq:a.heap.CodeRec bh.code bh.qualname)(mP:bh.scope.kind=.function)(sy:∀h∈bh.scope.names,h.2≠.free)(x0:bh.closure=[])(AK:a.heap.NoLimit):FnAt a i bh el
theorem Yt(fF:u.depth<fA)(be:FnAt a i bh el)(n:jr a bh ⟨aY,[]⟩ iw)(aJ:∀r∈iw,AB (c3 bh i a) r.1)(aB:bX a.heap o V (iw.map (·.2)))(cA:∀h∈o,h<a.heap.objs.size)(c:∀w,(∀b∈bY<|c3 bh i a,a.heap.objs.size<=b)->oL (c3 bh i a) (bY (c3 bh i a)++o) (xZ iw V []) (bM [] a) w->I prog k (u.deeper<|c3 bh i a) (dG el<|c3 bh i a) (λR ek=>∃B,R=.ret B/\J B ek) w):I prog k u (et (.ref i) aY []) J a:=by
 refine bl be.1 λv jF bp=>I.call<|D6 fF jF bp be.2 be.3 be.4 be.5<|I.of<|n _ _ _ _<|be.8.symm▸PM be.6 be.7 aJ aB cA λw dx bR=>⟨?_,Iz ?_⟩
 .exact be.9.keeps λb v j=>bR.3.1 b v (λc=>nomatch c) j
 .refine I.mono (c w dx bR) ?_;rintro R ek bK;refine bl bK λB b8 aZ=>?_;obtain rfl:=b8;exact(dk B f aZ)
structure d7 where
 prog:cL
 w:ck
 s0:ai
 tabs:List aw
 mg:Str->Option au
 mb:Str->Option au
def Yu(tabs:List aw)(a w:ai):Prop:=∀M∈tabs,∀v V,a.heap.get? M=A v->v.cls=.none->v.data=.fields V->∃ec,w.heap.get? M=A {v with data:=.fields<|V++ec}
inductive fp(g:d7)(a:ai):Prop|mk(fQ:a9 g.tabs [] g.s0 a)(fR:Yu g.tabs g.s0 a):fp g a
theorem fp.toG(b:fp g a)(t:a9 cd ao a w)(dr:∀G∈cd,g.s0.heap.objs.size<=G)(jG:∀q∈ao,g.s0.gens.size<=q):fp g w:=by exact⟨b.1.gR t (λM a3=>.inr<|fS<|dr M a3)<|λq ah=>.inr<|rq<|jG q ah,λM a3 v V bW cR f3=>cJ (b.2 M a3 v V bW cR f3) λec j=>⟨ec,t.1 _ _ (λe=>b4 (dH bW)<|dr M e) j⟩⟩
theorem fp.to(b:fp g a)(t:a9 cd [] a w)(dr:∀G∈cd,g.s0.heap.objs.size<=G):fp g w:=b.toG t dr aP
inductive d7.Ok(g:d7):Prop|mk(fQ:g.s0.heap.Ns 3 g.mg)(fR:g.s0.heap.Ns 0 g.mb)(gs:∀a,fp g a->a.heap.NoLimit)(i7:3∉g.tabs)(kq:0∉g.tabs)(mP:∀E∈g.tabs,E<g.s0.heap.objs.size):d7.Ok g
inductive Slot where|f(B:bd)|o(B:bd)|b(B:bd)
def Slot.loose:Slot->Prop|.f bC=>False|_=>True
noncomputable abbrev cm:=List<|Str×Slot
inductive fb:cm->Str->Slot->Prop|here{C:cm}{h:Str}{B:Slot}:fb ((h,B)::C) h B|there{C:cm}{h M:Str}{B av:Slot}:(M==h)=a2->fb C h B->fb ((M,av)::C) h B
def jm(c:e0)(o:List aw)(i:aw):bd->Prop|.lst aA=>∃V s,c.get? i=A {cls:=.type "list",data:=.seq V s}/\bX c o aA V.toList|.l3 b=>c.get? i=A (cf b)|_=>False
def AL(c:e0)(o:List aw)(B:bd)(g:au):Prop:=∃i,g=.ref i/\jm c o i B
def lP(c:e0)(o:List aw):Slot->au->Prop|.f B,g=>bV c o B g|.o B,g=>AL c o B g|.b B,g=>AL c o B g
theorem jm.to(p:∀(b:aw)(v:Obj),b∉o->c.get? b=A v->aa.get? b=A v/\b∉aW)(aX:∀v,c.get? i=A v->aa.get? i=A v)(D:jm c o i B):jm aa aW i B:=by
 cases B<;>try exact D.elim
 .exact fM D λV s j D=>⟨V,s,aX _ j,bX.to p _ _ D⟩
 .exact aX _ D
theorem jm.lt(D:jm c o i B):i<c.objs.size:=by
 cases B<;>try exact D.elim
 .exact fM D λV s j D=>dH j
 .exact dH D
theorem jm.rep(D:jm c o i B)(aX:i∉o):bV c o B (.ref i):=by
 cases B<;>try exact D.elim
 .exact fM D λV s j D=>(mK i V s f aX j D)
 .exact(p9 i f aX D)
inductive ct(g:d7)(m:Env)(o O ax:List aw)(Y:Nat):Prop|mk(fQ:m.scope.kind=.function)(fR:m.globals=3)(gs:m.builtins=0)(i7:∀i∈bY m,i∈o/\g.s0.heap.objs.size<=i/\i∉O/\i∉ax)(kq:∀i∈O,i∈o/\g.s0.heap.objs.size<=i/\i∉ax)(mP:∀i∈ax,i∈o)(sy:∀i∈g.tabs,i∈ax)(x0:∀i∈o,i<Y)(AK:∀i∈o,i∈g.tabs\/g.s0.heap.objs.size<=i)(D7:∀h M i b,m.cells.lookup h=A i->m.cells.lookup M=A b->h≠M->i≠b):ct g m o O ax Y
inductive bo(g:d7)(m:Env)(o O:List aw)(Y:Nat)(C:cm)(a:ai):Prop|mk(fQ:Y<=a.heap.objs.size)(fR:fp g a)(gs:∃cW,pr m a.heap cW/\(∀h bt,fb C h bt->∃B,cW h=A B/\lP a.heap o bt B)/\(∀h B,fb C h (.o B)->∃i∈O,cW h=A (.ref i)/\∀M av,M≠h->fb C M (.o av)->cW M≠A (.ref i))/\(∀h B,fb C h (.b B)->∃i,cW h=A (.ref i)/\i∉O/\i∉bY m)):bo g m o O Y C a
theorem lP.keep(p:∀(b:aw)(v:Obj),c.get? b=A v->aa.get? b=A v)(D:lP c o bt B):lP aa o bt B:=by cases bt with|f av=>exact bV.to (λb v n j=>⟨p b v j,n⟩) _ _ D|o av=>refine bl D λi j D=>?_;exact⟨i,j,D.to (λb v n j=>⟨p b v j,n⟩)<|λv j=>p _ v j⟩|b av=>refine bl D λi j D=>?_;exact⟨i,j,D.to (λb v n j=>⟨p b v j,n⟩)<|λv j=>p _ v j⟩
theorem bo.grow(r:bo g m o O Y C a)(t:a9 [] [] a w):bo g m o O Y C w:=by have p:∀b v,a.heap.get? b=A v->w.heap.get? b=A v:=λb v j=>t.1 b v (λc=>dI c) j;exact⟨a' r.1 t.2,r.2.to t<|λG c=>dI c,(iL r.3 λcW aE ag aF bb=>⟨cW,aE.keeps λb x v j=>p b v j,λh bt X=>bl (ag h bt X) λB j D=>⟨B,j,D.keep p⟩,aF,bb⟩)⟩
theorem ct.ok(P:ct g m o O ax Y):gH [] [] o (bo g m o O Y C):=⟨λx x r t=>r.grow t,λa r h X=>cI (P.8 h X) r.1,aP⟩
inductive hx where|fr|b2|ls deriving DecidableEq
def fg(Y:Nat)(o:List aw):hx->bd->ai->au->Prop|.fr,B=>λa g=>∃i,g=.ref i/\Y<=i/\jm a.heap (i::o) i B|.b2,B=>λa g=>bV a.heap o B g|.ls,B=>λa g=>AL a.heap o B g
theorem fg.h4:mi [] [] (fg Y o p B):=by intro a w g c t;have rv:∀b v,a.heap.get? b=A v->w.heap.get? b=A v:=λb v j=>t.1 b v (λc=>dI c) j;cases p with|fr=>refine eW c λi j ay D=>?_;exact⟨i,j,ay,D.to (λb v n j=>⟨rv b v j,n⟩) λv j=>rv _ v j⟩|b2=>exact bV.to (λb v n j=>⟨rv b v j,n⟩) _ _ c|ls=>refine bl c λi j D=>?_;exact⟨i,j,D.to (λb v n j=>⟨rv b v j,n⟩) λv j=>rv _ v j⟩
theorem jm.sub(D:jm c o i B)(Q:∀M∈aW,M∈o):jm c aW i B:=D.to (λb v n j=>⟨j,λe=>n<|Q b e⟩) λv j=>j
theorem fg.jB(c:fg Y o p (.lst aA) a g):IsL o aA a g:=by cases p with|fr=>refine eW c λi j ay D=>?_;exact fM (D.sub (aW:=o) λM a3=>mt a3) λV s cg gw=>⟨i,V,s,j,cg,gw⟩|b2=>exact bV.jB c|ls=>refine bl c λi j b8=>?_;exact fM b8 λV s cg gw=>⟨i,V,s,j,cg,gw⟩
theorem fg.b2(cA:∀i∈o,i<Y)(c:fg Y o p B a g)(a8:p≠.ls):bV a.heap o B g:=by cases p with|fr=>refine eW c λi bK ay D=>?_;exact l bK<|(D.sub λM a3=>mt a3).rep λe=>b4 (cA i e) ay|b2=>exact c|ls=>exact absurd f a8
inductive eJ(z:Nat)(u:ch):Prop|mk(fQ:u.handled=a7)(fR:u.depth+z<=900)(gs:u.units+4*z<=5000):eJ z u
def af(g:d7)(z:Nat)(T:dp)(C:cm)(j:bH)(p:hx)(B:bd):Prop:=∀(u:ch)(m:Env)(o O ax:List aw)(Y:Nat),eJ z u->m.scope=T->ct g m o O ax Y->co g.prog g.w u [] [] m (bo g m o O Y C) j (fg Y o p B)
def ei(g:d7)(z:Nat)(T:dp)(C:cm)(j:bH)(b:Bool):Prop:=∀(u:ch)(m:Env)(o O ax:List aw)(Y:Nat),eJ z u->m.scope=T->ct g m o O ax Y->tS g.prog g.w u [] [] m (bo g m o O Y C) j b
theorem af.gf(c:af g z T C j p B)(a8:p≠.ls:=by decide):af g z T C j .b2 B:=λu m o O ax Y ar Q P=>(c u m o O ax Y ar Q P).to λa g aL=>aL.b2 P.8 a8
theorem PO:fg Y o .b2 (.int p) a g↔d' p a g:=XU (o:=o)
section
abbrev c5(g:d7)(z:Nat)(T:dp)(C:cm)(j:bH)(i:Int):Prop:=af g z T C j .b2<|.int i
theorem n'(c:∀(u:ch)(m:Env)(o O ax:List aw)(Y:Nat),eJ z u->m.scope=T->ct g m o O ax Y->co g.prog g.w u [] [] m (bo g m o O Y C) j (d' i)):c5 g z T C j i:=λu m o O ax Y ar Q P=>(c u m o O ax Y ar Q P).to λa g c=>PO.mpr c
theorem fc(c:c5 g z T C j i)(ar:eJ z u)(Q:m.scope=T)(P:ct g m o O ax Y):co g.prog g.w u [] [] m (bo g m o O Y C) j (d' i):=(c u m o O ax Y ar Q P).to λa g c=>PO.mp c
namespace af
theorem du:c5 g z T C (.Constant (.int q) s ak) q:=n' λx x x x x x x x x=>DY
theorem Mh:af g z T C (.Constant .none s ak) .b2 .none:=λx x x x x x x x x=>Ie.to λa g c=>c
theorem neg(c:c5 g z T C h i):c5 g z T C (.UnaryOp .USub h ak) (-i):=n' λx x x x x x ar Q P=>XS<|fc c ar Q P
section
variable(bn:c5 g z T C H i)(bG:c5 g z T C D b)
include bn bG
theorem add:c5 g z T C (.BinOp H .Add D ak) (i+b):=n' λx x x x x x ar Q P=>XM P.ok (fc bn ar Q P)<|fc bG ar Q P
theorem sub:c5 g z T C (.BinOp H .Sub D ak) (i-b):=n' λx x x x x x ar Q P=>XN P.ok (fc bn ar Q P)<|fc bG ar Q P
theorem mul(bw:IntMulOk i b):c5 g z T C (.BinOp H .Mult D ak) (i*b):=n' λx x x x x x ar Q P=>XO P.ok (fc bn ar Q P) (fc bG ar Q P) bw
theorem div(n:b≠0)(a1:z' i b=a2):c5 g z T C (.BinOp H .FloorDiv D ak) (i.fdiv b):=n' λx x x x x x ar Q P=>XP P.ok (fc bn ar Q P) (fc bG ar Q P) n a1
theorem mod(n:b≠0):c5 g z T C (.BinOp H .Mod D ak) (i.fmod b):=n' λx x x x x x ar Q P=>XQ P.ok (fc bn ar Q P) (fc bG ar Q P) n
theorem xor:c5 g z T C (.BinOp H .BitXor D ak) (lH i b):=n' λx x x x x x ar Q P=>XR P.ok (fc bn ar Q P)<|fc bG ar Q P
theorem pow(n:0<=b)(eX:b<=1000000)(aX:i.natAbs<2^64):c5 g z T C (.BinOp H .Pow D ak) (i^b.toNat):=n' λx x x x x x ar Q P=>Ye P.ok (fc bn ar Q P) (fc bG ar Q P) n eX aX
end
end af
noncomputable def D8(T:dp)(h:Str):Bool:=T.names.lookup h==A .local||(T.names.lookup h==A .cell||T.names.lookup h==A .free)
theorem vz{v i b:Option r6}(c:(v==i||v==b)=W):v=i\/v=b:=(MF.mp c).imp eq_of_beq eq_of_beq
theorem D9{m:Env}{h:Str}(c:D8 m.scope h=W):Px m h:=(MF.mp c).imp eq_of_beq vz
noncomputable def fU:cm->Str->Option Slot|[],_=>a7|(M,av)::C,h=>bif M==h then A av else fU C h
theorem mW:∀{C:cm}{h:Str}{bt:Slot},fU C h=A bt->fb C h bt|[],bC,dw,c=>d1 c|(M,av)::C,h,bt,c=>by unfold fU at c;cases j:M==h with|true=>replace c:=j▸c;cases c;exact c2 (eq_of_beq j) .here|false=>replace c:=j▸c;exact .there j<|mW c
theorem IC(aK:fU C h=A bt)(X:D8 m.scope h=W)(aO:(h==("__classdict__":Str))=a2)(bp:(h==("__debug__":Str))=a2):co g.prog g.w u aW ao m (bo g m o O Y C) (.Name h ak) (λa g=>lP a.heap o bt g):=λa J r ac=>by refine eW r.3 λcW aE ag x=>bl (ag _ _<|mW aK) λg hy aB=>I.eq (l (Gp ..) f)<|dQ ?_;refine fY (by refine l bp ?_;decide) ?_;exact DZ aE (D9 X) hy aO<|ac g a (bM.refl ..) aB
noncomputable def g9(T:dp)(h:Str):Bool:=D8 T h&&!(h==("__classdict__":Str))&&!(h==("__debug__":Str))
theorem x1(c:g9 T h=W):D8 T h=W/\(h==("__classdict__":Str))=a2/\(h==("__debug__":Str))=a2:=by unfold g9 at c;simp only[jU,Gd]at c;exact⟨c.1.1,c.1.2,c.2⟩
namespace af
theorem name(aK:fU C h=A (.f B))(X:g9 T h=W):af g z T C (.Name h ak) .b2 B:=λu m o O ax Y ar Q P=>by subst Q;exact eV (x1 X) λi b e=>(IC (g:=g) aK i b e)
theorem Mk(aK:fU C h=A (.o B))(X:g9 T h=W):af g z T C (.Name h ak) .ls B:=λu m o O ax Y ar Q P=>by subst Q;exact eV (x1 X) λi b e=>(IC (g:=g) aK i b e)
theorem BU(aK:fU C h=A (.b B))(X:g9 T h=W):af g z T C (.Name h ak) .ls B:=λu m o O ax Y ar Q P=>by subst Q;exact eV (x1 X) λi b e=>(IC (g:=g) aK i b e)
end af
noncomputable def eE(T:dp)(h:Str):Bool:=T.names.lookup h==A .globalImplicit&&!(h==("__debug__":Str))
noncomputable def d7.gl(g:d7)(h:Str):Option Value:=match g.mg h with|some B=>A B|none=>g.mb h
theorem fp.ns(aO:g.Ok)(c:fp g a):a.heap.Ns 3 g.mg/\a.heap.Ns 0 g.mb:=⟨aO.1.at' λv j=>c.1.1 _ _ aO.4 j,aO.2.at' λv j=>c.1.1 _ _ aO.5 j⟩
theorem ix(aO:g.Ok)(P:ct g m o O ax Y)(c:g.gl h=A B)(X:eE m.scope h=W):n_ (bo g m o O Y C) m h B:=by unfold eE at X;rw[jU]at X;refine⟨⟨P.1,eq_of_beq X.1⟩,λa r=>(dk g.mg (P.2▸(r.2.ns aO).1) ?_)⟩;unfold d7.gl at c;cases j:g.mg h with|some av=>rw[j]at c;exact .inl c|none=>rw[j]at c;exact .inr ⟨f,(dk g.mb (P.3▸(r.2.ns aO).2) c)⟩
theorem tX(c:eE T h=W):(h==("__debug__":Str))=a2:=by unfold eE at c;simp only[jU,Gd]at c;exact c.2
theorem Yv(aO:g.Ok)(c:fp g a)(aB:bV g.s0.heap g.tabs Iu B)(cA:∀i∈o,i∈g.tabs\/g.s0.heap.objs.size<=i):bV a.heap o Iu B:=bV.to (λb v n j=>⟨c.1.1 b v n j,λe=>(cA b e).elim n λG=>b4 (dH j) G⟩) _ _ aB
namespace af
theorem glob(aO:g.Ok)(c:g.gl h=A aU)(aB:bV g.s0.heap g.tabs B aU)(X:eE T h=W):af g z T C (.Name h ak) .b2 B:=λu m o O ax Y ar Q P=>by subst Q;exact Yk (ix aO P c X) (λa r=>Yv aO r.2 aB P.9) P.ok<|tX X
end af
end
section
variable{g:d7}{z:Nat}{T:dp}{C:cm}{H D h av k ez fo:bH}{p cS e5:hx}{q:Int}{ak bR:Pos}{aA:List bd}{ab eA:List Int}
@[reducible]noncomputable def bN(ab:List Int):bd:=.lst<|ab.map .int
namespace af
theorem item(bn:af g z T C ez p<|.lst aA)(bG:c5 g z T C fo q)(aG:0<=q)(X:aA[q.toNat]?=A B)(U:aA.length<=cp)(ah:mU fo=W:=by rfl):af g z T C (.Subscript ez fo ak) .b2 B:=λu m o O ax Y ar Q P=>PA P.ok (bn u m o O ax Y ar Q P) fg.h4 (λa g x c=>c.jB) (fc bG ar Q P) aG X U ah
theorem yJ(bn:af g z T C ez p<|bN ab)(bG:c5 g z T C fo q)(aG:0<=q)(X:q.toNat<ab.length)(U:ab.length<=cp)(ah:mU fo=W:=by rfl):c5 g z T C (.Subscript ez fo ak) (ab.getD q.toNat 0):=item bn bG aG (by refine l (fW)<|l (hF)<|l (gQ X) ?_;rfl) (by simpa using U) ah
theorem Wz(bn:af g z T C ez p<|bN ab)(bG:c5 g z T C fo q)(aG:q<0)(ag:-(ab.length:Int)<=q)(U:ab.length<=cp)(ah:mU fo=W:=by rfl):c5 g z T C (.Subscript ez fo ak) (ab.getD (q+ab.length).toNat 0):=λu m o O ax Y ar Q P=>Yh (aA:=ab.map bd.int) P.ok (bn u m o O ax Y ar Q P) fg.h4 (λa g x c=>c.jB) (fc bG ar Q P) aG (by simpa using ag) (by have X:(q+ab.length).toNat<ab.length:=(zO<|Int.add_left_neg (ab.length:Int)▸M4 ag _).mpr<|M5 (Int.add_lt_add_right aG _)<|u1<|tw _;refine l (gp ..)<|l (fW)<|l (hF)<|l (gQ X) ?_;rfl) (by simpa using U) ah
theorem Ml(bn:af g z T C ez .b2<|.tup aA)(bG:c5 g z T C fo q)(aG:0<=q)(X:aA[q.toNat]?=A B)(U:aA.length<=cp)(ah:mU fo=W:=by rfl):af g z T C (.Subscript ez fo ak) .b2 B:=λu m o O ax Y ar Q P=>Yf P.ok (bn u m o O ax Y ar Q P) (fc bG ar Q P) aG X U ah
theorem drop{s:Nat}(bn:af g z T C ez p<|.lst aA)(bG:c5 g z T C H s)(U:aA.length<=cp):af g z T C (.Subscript ez (.Slice (A H) a7 a7 ak) bR) .b2 (.lst<|aA.drop s):=λu m o O ax Y ar Q P=>X5 P.ok (bn u m o O ax Y ar Q P) fg.h4 (λa g x c=>c.jB) (fc bG ar Q P) U
theorem take{s:Nat}(bn:af g z T C ez p<|.lst aA)(bG:c5 g z T C H s)(U:aA.length<=cp):af g z T C (.Subscript ez (.Slice a7 (A H) a7 ak) bR) .b2 (.lst<|aA.take s):=λu m o O ax Y ar Q P=>X6 P.ok (bn u m o O ax Y ar Q P) fg.h4 (λa g x c=>c.jB) (fc bG ar Q P) U
theorem yK{s:Nat}(bn:af g z T C ez p<|bN ab)(bG:c5 g z T C H s)(U:ab.length<=cp):af g z T C (.Subscript ez (.Slice (A H) a7 a7 ak) bR) .b2 (bN<|ab.drop s):=by have:=drop (ak:=ak) (bR:=bR) bn bG (by simpa using U);rwa[<-u9]at this
theorem yL{s:Nat}(bn:af g z T C ez p<|bN ab)(bG:c5 g z T C H s)(U:ab.length<=cp):af g z T C (.Subscript ez (.Slice a7 (A H) a7 ak) bR) .b2 (bN<|ab.take s):=by have:=take (ak:=ak) (bR:=bR) bn bG (by simpa using U);rwa[<-z1]at this
end af
theorem Yw(bs:Array au)(i b:Nat):(slicePick bs (A (i:Int)) (A (b:Int)) a7).toList=(bs.toList.drop i).take (b-i):=by
 refine l (slicePick_plain ..) ?_;simp only[GH,CY];refine eU (jt i bs.size) (λc=>?_) λc=>?_
 .refine l (u6 c)<|eU (jt b bs.size) (λaa=>?_) λaa=>?_
  .exact l (u6 aa) f
  .exact l (xj aa)<|l (oE (by simp))<|l (oE (by simp;exact a' aa<|GR.mp<|dD _)) f
 .refine l (xj c)<|l (u_ (by simp))<|l (u_ (by simpa using c)) ?_;simp
namespace af
theorem mid{s ae:Nat}(bn:af g z T C ez p<|.lst aA)(bG:c5 g z T C H s)(jD:c5 g z T C av ae)(U:aA.length<=cp):af g z T C (.Subscript ez (.Slice (A H) (A av) a7 ak) bR) .b2 (.lst<|(aA.drop s).take<|ae-s):=λu m o O ax Y ar Q P=>rs P.ok (bn u m o O ax Y ar Q P) fg.h4 (D2 P.ok (lo:=A s) (ah:=A ae) (fc bG ar Q P)<|fc jD ar Q P) λa g z dB aO bp=>Ii (P.ok.2 a dB) aO.jB bp U λV aB=>by refine l (Yw ..) ?_;exact(aB.drop s).take<|ae-s
theorem WD{s ae:Nat}(bn:af g z T C ez p<|bN ab)(bG:c5 g z T C H s)(jD:c5 g z T C av ae)(U:ab.length<=cp):af g z T C (.Subscript ez (.Slice (A H) (A av) a7 ak) bR) .b2 (bN<|(ab.drop s).take<|ae-s):=by have:=mid (ak:=ak) (bR:=bR) bn bG jD (by simpa using U);rwa[<-u9,<-z1]at this
theorem cat(bn:af g z T C H cS<|.lst aA)(bG:af g z T C D e5<|.lst ca)(U:aA.length+ca.length<=cp):af g z T C (.BinOp H .Add D ak) .b2 (.lst<|aA++ca):=λu m o O ax Y ar Q P=>X3 P.ok (bn u m o O ax Y ar Q P) fg.h4 (bG u m o O ax Y ar Q P) (λa g x c=>c.jB) (λa g x c=>c.jB) U
theorem yM(bn:af g z T C H cS<|bN ab)(bG:af g z T C D e5<|bN eA)(U:ab.length+eA.length<=cp):af g z T C (.BinOp H .Add D ak) .b2 (bN<|ab++eA):=by have:=cat (ak:=ak) bn bG (by simpa using U);rwa[<-mb]at this
theorem ite(bI:ei g z T C E e)(bn:e=W->af g z T C h p B)(bG:e=a2->af g z T C M p B):af g z T C (.IfExp E h M ak) p B:=λu m o O ax Y ar Q P=>XY P.ok (bI u m o O ax Y ar Q P) (λe=>bn e u m o O ax Y ar Q P) λe=>bG e u m o O ax Y ar Q P
end af
def gt(g:d7)(z:Nat)(T:dp)(C:cm):List bH->List bd->Prop|[],[]=>True|j::as,B::V=>dT j=W/\af g z T C j .b2 B/\gt g z T C as V|bC,dw=>False
theorem gt.q3(ar:eJ z u)(Q:m.scope=T)(P:ct g m o O ax Y):∀{as:List bH}{V:List bd},gt g z T C as V->mR g.prog g.w u [] [] m (bo g m o O Y C) as (λa aY=>bX a.heap o V aY)|[],[],bC=>λa J ak a1 ac=>kt a J ak a1 λaY w t c=>ac aY w t (by show bX _ _ _ _;exact c)|j::as,B::V,c=>λa J ak a1 ac=>jl c.1 P.ok (c.2.1 u m o O ax Y ar Q P) fg.h4 (gt.q3 ar Q P c.2.2) a J ak a1 λaY w t c=>ac aY w t (by refine dZ c λg D bK ag aF=>?_;obtain rfl:=bK;exact(eH g D f ag aF))
theorem Yx(P:ct g m o O ax Y)(c:mR g.prog g.w u [] [] m (bo g m o O Y C) as<|λa aY=>bX a.heap o aA aY)(U:aA.length<=cp):co g.prog g.w u [] [] m (bo g m o O Y C) (.List as ak) (fg Y o .fr<|.lst aA):=λa J Q ac=>by refine dQ<|I.bind<|c a _ ak Q λaY an aI cS=>I.of<|i4 ?_ (by show aY.toArray.size<=cp;refine l zZ<|l cS.length ?_;exact U);refine ac _ _ (aI.trans<|bM.new _ _ an _ an.toks) ⟨_,f,(Q.grow aI).1,aY.toArray,0,fj _ f,?_⟩;exact bX.to (λb v n j=>⟨eT _ j,by refine gq e1<|gq not_or ?_;exact⟨hS<|dH j,n⟩⟩) _ _ (by simpa using cS)
namespace af
theorem list(c:gt g z T C as aA)(U:aA.length<=cp):af g z T C (.List as ak) .fr (.lst aA):=λu m o O ax Y ar Q P=>Yx P (c.q3 ar Q P) U
theorem tuple(c:gt g z T C as aA)(U:aA.length<=cp):af g z T C (.Tuple as s ak) .b2 (.tup aA):=λu m o O ax Y ar Q P=>X1 P.ok (c.q3 ar Q P) U
end af
theorem foldl_rep(H:Array bk):∀(s:Nat)(cb:Array bk),((dE s H).foldl (λh M=>h++M) cb).toList=cb.toList++(dE s H.toList).flatten|0,cb=>by simp|s+1,cb=>by refine l np<|l z2<|l (foldl_rep H s ..)<|l np<|l oF ?_;simp
theorem Yy{h:Int}(mV:-(2^63:Int)<=h)(nB:h<2^63):¬(!Of h)=W:=l (show Of h=W from l9.mpr ⟨decide_eq_true mV,decide_eq_true nB⟩) aS
theorem Yz{s:Nat}(c:s<=2^24):¬Builtin.List.listTooLong s=W:=λe=>absurd (of_decide_eq_true e)<|Na c
theorem PP{k:ck}{H:aw}{h:Int}{av:Tok}(aM:a.heap.get? H=A {cls:=.type "list",data:=.seq bs ae})(mV:-(2^63:Int)<=h)(nB:h<2^63)(dW:bs.size*h.toNat<=2^24)(c:J (.ref a.heap.objs.size) {a with heap:=a.heap.push {cls:=.type "list",data:=.seq<|List.foldl (λN S=>N++S) #[]<|dE (if bs.isEmpty=W then 0 else h.toNat) bs}}):cj (cG prog k) u (tq .Mult (.ref H)<|.int h av) J aN a:=wpAny_binaryOp_repeat_ref (T:="list") (U:="int") aS ⟨_,aM,f⟩ (λw=>w6 w h av) noFill_list_mul F.fills_int_mul Dm repeat_list N1.lookup (call_meets Dm (w6 a h av) N2 (N3 _ _) (int___rmul___int_list h av H bs ae) ⟨aM,f,⟨_,aM,f⟩,call_meets F.slot_list_mul ⟨_,aM,f⟩ F.entry_list_mul (F.args_list_mul_2 _ _) (AutoListH.list___mul___list_int_3 H bs ae h av (Yy mV nB) (Na<|a' dW aS)<|Yz dW) ⟨aM,c⟩⟩)
theorem bX.rep(D:bX c o aA V):∀s,bX c o (dE s aA).flatten (dE s V).flatten|0=>f|s+1=>np▸np▸oF▸oF▸bX.append (bX.rep D s) D
end
section
variable{g:d7}{z:Nat}{T:dp}{C:cm}{j H D h M E k:bH}{p cS e5:hx}{i q:Int}{ak:Pos}{ab eA:List Int}
set_option tactic.hygienic true in theorem YA(bs:Array bk)(s:Nat):(dE (if bs.isEmpty=W then 0 else s) bs.toList).flatten=(dE s bs.toList).flatten:=by
 split
 .rename_i c;have:bs.toList=[]:=by simpa using c
  refine l this ?_;simp
 .rfl
theorem YB(P:ct g m o O ax Y)(r:bo g m o O Y C a)(aM:IsL o aA a kQ)(aB:d' i a YC)(mV:-(2^63:Int)<=i)(nB:i<2^63)(dW:aA.length*i.toNat<=2^24):gI g.prog g.w u [] [] (tq .Mult kQ YC) (fg Y o .fr<|.lst (dE i.toNat aA).flatten) a:=λJ ac=>by refine iM aM λtY V s bK aK hJ=>l bK<|cJ aB λE b8=>l b8 ?_;have cP:=hJ.length;refine I.of<|PP aK mV nB (by simp at cP;refine l cP ?_;exact dW) ?_;refine ac _ _ (bM.new _ _ a _ a.toks) ⟨_,f,r.1,_,0,fj _ f,?_⟩;refine l (foldl_rep ..)<|l (YA ..) ?_;have:=hJ.rep i.toNat;refine bX.to (λb v n j=>⟨eT _ j,by refine gq e1<|gq not_or ?_;exact⟨hS<|dH j,n⟩⟩) _ _ (by simpa using this)
namespace af
theorem rep(bn:af g z T C H p<|.lst aA)(bG:c5 g z T C D i)(mV:-(2^63:Int)<=i)(nB:i<2^63)(dW:aA.length*i.toNat<=2^24):af g z T C (.BinOp H .Mult D ak) .fr (.lst (dE i.toNat aA).flatten):=λu m o O ax Y ar Q P=>rr P.ok (bn u m o O ax Y ar Q P) fg.h4 (fc bG ar Q P) λa fC gJ r ag aF=>YB P r ag.jB aF mV nB dW
theorem Mo(bn:af g z T C H p<|bN [G])(bG:c5 g z T C D i)(mV:-(2^63:Int)<=i)(dW:i<=2^24):af g z T C (.BinOp H .Mult D ak) .fr (bN<|dE i.toNat G):=by
 have:=rep (ak:=ak) bn bG mV (gd (.cg .x<|.n 9223372036854775808) [.cz .x<|.n 16777216] f dW) (by simp;assumption);have j:(dE i.toNat [bd.int G]).flatten=(dE i.toNat G).map bd.int:=by induction i.toNat with
  |zero=>rfl|succ s a5=>refine l np<|l oF<|l a5<|l np<|l ju ?_;rfl
 rw[show([G].map bd.int)=[bd.int G]from f]at this;rwa[j]at this
end af
def tZ(nG:CmpOp)(D:bH):Prop:=∀m,uV [nG] [D] (tr [D] m)=[dF D m]
theorem YD{u:ch}{a:ai}{o:List aw}{fC gJ:au}(d_:u.units<cLine)(bn:IsL o (ab.map .int) a fC)(bG:IsL o (eA.map .int) a gJ):gI g.prog g.w u [] [] (ts .Eq fC gJ) (DW<|ab==eA) a:=by
 refine iM bn λID V s dm aK aB=>l dm<|iM bG λIE fD ae dX ge hJ=>l dX ?_;have eg:=bX.ints.mp aB;have n9:=bX.ints.mp hJ;have h2:V.size=ab.length:=by simpa using aB.length
 have i9:fD.size=eA.length:=by simpa using hJ.length
 have aM:a.heap.IsList ID V:=⟨_,aK,f,s,f⟩;have jE:a.heap.IsList IE fD:=⟨_,ge,f,ae,f⟩;by_cases U:ab.length=eA.length
 .have j:(ab==eA)=(c9 V.size).all λaC=>ab.getD aC 0==eA.getD aC 0:=by
   refine l h2<|gq Ge<|gq hU<|gq beq_iff_eq ?_;constructor
   .rintro rfl aC _;simp
   .intro c;refine Nj U λaC ag aF=>?_;have:=c aC<|mF.mpr ag;simpa[hF,ag,aF]using this
  refine l j<|gI.now (λJ aZ=>SeqAt.eq_listAt aM jE (by exact HS [1,-1,1,-1] [1,1,-1,1] (.e .x .y) [.e .x .z,.e .y .w,.e .z .w] f h2 i9 U) d_ (λaC ag aF=>?_) aZ) f;have AM:∃E,V[aC]=.int (ab.getD aC 0) E:=by refine bl (aB.get (q:=aC) (h:=.int<|ab.getD aC 0) (by refine l (fW)<|l (hF)<|l (gQ (by exact ny [1,1,-1,1] (.t .x .y) [.e .z .w,.e .y .w,.t .x .z] f i9 U aF)) ?_;rfl)) λaU bW eD=>?_;refine cJ eD λE qv=>?_;obtain rfl:=qv;exact⟨E,fu<|(pi ag).symm.trans (by simpa using bW)⟩
  have lk:∃E,fD[aC]=.int (eA.getD aC 0) E:=by refine bl (hJ.get (q:=aC) (h:=.int<|eA.getD aC 0) (by refine l (fW)<|l (hF)<|l (gQ (by exact gv (.t .x .y) [.e .z .y,.t .x .z] f i9 aF)) ?_;rfl)) λaU bW eD=>?_;refine cJ eD λE sz=>?_;obtain rfl:=sz;exact⟨E,fu<|(pi aF).symm.trans (by simpa using bW)⟩
  exact cJ AM λE bW=>cJ lk λeM cR=>l bW<|cR.symm▸Oh _ _ _ _
 .have j:(ab==eA)=a2:=beq_false_of_ne λe=>U<|congrArg _ e;exact l j<|gI.now (λJ aZ=>SeqAt.eq_list_lengthsAt aM jE (by simp;lia) d_ aZ) f
theorem YE{u:ch}{a:ai}{o:List aw}{fC gJ:au}(d_:u.units<cLine)(bn:IsL o (ab.map .int) a fC)(bG:IsL o (eA.map .int) a gJ):gI g.prog g.w u [] [] (ts .NotEq fC gJ) (DW<|ab !=eA) a:=by
 refine iM bn λID V s eO aK aB=>l eO<|iM bG λIE fD ae fE ge hJ=>l fE ?_;have h2:V.size=ab.length:=by simpa using aB.length
 have i9:fD.size=eA.length:=by simpa using hJ.length
 have aM:a.heap.IsList ID V:=⟨_,aK,f,s,f⟩;have jE:a.heap.IsList IE fD:=⟨_,ge,f,ae,f⟩;by_cases U:ab.length=eA.length
 .have j:(ab==eA)=(c9 V.size).all λaC=>ab.getD aC 0==eA.getD aC 0:=by
   refine l h2<|gq Ge<|gq hU<|gq beq_iff_eq ?_;constructor
   .rintro rfl aC _;simp
   .intro c;refine Nj U λaC ag aF=>?_;have:=c aC<|mF.mpr ag;simpa[hF,ag,aF]using this
  refine(show(ab !=eA)=!(ab==eA)from f).symm▸j.symm▸gI.now (λJ aZ=>SeqAt.RcNeAt.lists aM jE (by exact HS [1,-1,1,-1] [1,1,-1,1] (.e .x .y) [.e .x .z,.e .y .w,.e .z .w] f h2 i9 U) d_ (λaC ag aF=>?_) g.prog g.w (λx x=>False) J aZ) f;have AM:∃E,V[aC]=.int (ab.getD aC 0) E:=by refine bl (aB.get (q:=aC) (h:=.int<|ab.getD aC 0) (by refine l (fW)<|l (hF)<|l (gQ (by exact ny [1,1,-1,1] (.t .x .y) [.e .z .w,.e .y .w,.t .x .z] f i9 U aF)) ?_;rfl)) λaU bW eD=>?_;refine cJ eD λE qw=>?_;obtain rfl:=qw;exact⟨E,fu<|(pi ag).symm.trans (by simpa using bW)⟩
  have lk:∃E,fD[aC]=.int (eA.getD aC 0) E:=by refine bl (hJ.get (q:=aC) (h:=.int<|eA.getD aC 0) (by refine l (fW)<|l (hF)<|l (gQ (by exact gv (.t .x .y) [.e .z .y,.t .x .z] f i9 aF)) ?_;rfl)) λaU bW eD=>?_;refine cJ eD λE sA=>?_;obtain rfl:=sA;exact⟨E,fu<|(pi aF).symm.trans (by simpa using bW)⟩
  exact cJ AM λE bW=>cJ lk λeM cR=>bW.symm▸cR.symm▸Oh _ _ _ _
 .have j:(ab !=eA)=W:=by refine gq bne_iff_ne ?_;exact λe=>U<|congrArg _ e
  refine j.symm▸?_;exact gI.now (λJ aZ=>SeqAt.RcNeAt.lists_lengths aM jE (by simp;lia) d_ g.prog g.w (λx x=>False) J aZ) f
namespace ei
section
variable(bn:c5 g z T C H i)(bG:c5 g z T C D b)
include bn bG
theorem eq(bw:tZ .Eq D):ei g z T C (.Compare H [.Eq] [D] ak) (i==b):=λu m o O ax Y ar Q P=>XV P.ok (fc bn ar Q P) (fc bG ar Q P)<|bw m
theorem ne(bw:tZ .NotEq D):ei g z T C (.Compare H [.NotEq] [D] ak) (i !=b):=λu m o O ax Y ar Q P=>XW P.ok (fc bn ar Q P) (fc bG ar Q P)<|bw m
theorem lt(bw:tZ .Lt D):ei g z T C (.Compare H [.Lt] [D] ak) (decide<|i<b):=λu m o O ax Y ar Q P=>XX P.ok (fc bn ar Q P) (fc bG ar Q P)<|bw m
end
theorem FR(bn:c5 g z T C H i)(bG:af g z T C D .b2<|.tup<|ab.map .int)(bw:tZ .In D):ei g z T C (.Compare H [.In] [D] ak) (ab.any (·==i)):=λu m o O ax Y ar Q P=>Yj P.ok (fc bn ar Q P) (bG u m o O ax Y ar Q P)<|bw m
theorem Mq(bn:af g z T C H cS<|bN ab)(bG:af g z T C D e5<|bN eA)(bw:tZ .NotEq D):ei g z T C (.Compare H [.NotEq] [D] ak) (ab !=eA):=λu m o O ax Y ar Q P=>vq P.ok (bn u m o O ax Y ar Q P) fg.h4 (bG u m o O ax Y ar Q P) (λa fC gJ r ag aF=>YE (mD (a' (hT _ _) ar.3) aS) ag.jB aF.jB)<|bw m
end ei
def AN(g:d7)(z:Nat)(T:dp)(C:cm):List bH->Bool->Prop|[],e=>e=a2|j::as,e=>∃b,ei g z T C j b/\(b=W->e=W)/\(b=a2->AN g z T C as e)
theorem AN.p_(ar:eJ z u)(Q:m.scope=T)(P:ct g m o O ax Y):∀{as:List bH}{e:Bool}{a:ai}{J:Bool->ai->Prop},AN g z T C as e->bo g m o O Y C a->(∀w,a9 [] [] a w->J e w)->I g.prog g.w u (allTrue .Or as m) J a|[],e,a,J,c,r,ac=>by replace ac:=(show e=a2 from c)▸ac;exact I.pure<|ac a<|bM.refl ..|j::as,e,a,J,c,r,ac=>by refine eW c λb ag aF bb=>I.bind<|ag u m o O ax Y ar Q P a _ r λan aI=>?_;cases b with|true=>replace ac:=(aF f)▸ac;exact I.pure<|ac an aI|false=>exact AN.p_ ar Q P (bb f) (r.grow aI) λal a6=>ac al<|aI.trans a6
namespace ei
theorem or(c:AN g z T C as e):ei g z T C (.BoolOp .Or as ak) e:=λu m o O ax Y ar Q P a J r ac=>by exact c.p_ ar Q P r ac
end ei
namespace af
theorem WU(bn:af g z T C H cS<|bN ab)(bG:af g z T C D e5<|bN eA)(bw:tZ .Eq D):af g z T C (.Compare H [.Eq] [D] ak) .b2 (.bool<|ab==eA):=λu m o O ax Y ar Q P=>(XT P.ok (bn u m o O ax Y ar Q P) fg.h4 (bG u m o O ax Y ar Q P) (bw m) λa fC gJ r ag aF=>YD (mD (a' (hT _ _) ar.3) aS) ag.jB aF.jB).to λa aU c=>c
theorem len(aO:g.Ok)(c:af g z T C j p<|.lst aA)(aK:g.gl "len"=A (.builtin "len"))(X:eE T "len"=W)(ay:dT j=W)(U:aA.length<2^62):c5 g z T C (.Call (.Name "len" dO) [j] [] ak) aA.length:=n' λu m o O ax Y ar Q P=>by subst Q;exact X0 P.ok (ix aO P aK X) ay (c u m o O ax Y ar f P) fg.h4 (λa g x c=>c.jB) U
theorem ll{dO:Pos}(aO:g.Ok)(c:af g z T C j p<|bN ab)(aK:g.gl "len"=A (.builtin "len"))(X:eE T "len"=W)(ay:dT j=W)(U:ab.length<2^62):c5 g z T C (.Call (.Name "len" dO) [j] [] ak) ab.length:=by have:=len (ak:=ak) (dO:=dO) aO c aK X ay (by simpa using U);rwa[gp]at this
end af
end
def rw:bH->e0->List aw->bd->au->Prop|.Tuple ..,c,o,h,B=>∃ca a0 pz,h=.tup ca/\B=.ref a0/\c.IsTuple a0 pz/\bX c o ca pz.toList|bC,c,o,h,B=>bV c o h B
def sB(v:Obj):Prop:=(∀V s,v≠{cls:=.type "list",data:=.seq V s})/\(∀b,v≠cf b)
theorem x2(c:v.cls≠.type "list"/\v.cls≠.type "bytearray"):sB v:=⟨λV s e=>c.1<|e▸f,λb e=>c.2<|e▸f⟩
theorem YF(c:v.data=.dict as s):sB v:=⟨λV s e=>(by rw[e]at c;cases c),λb e=>(by rw[e]at c;cases c)⟩
inductive lQ(prog:cL)(k:ck)(u:ch)(b5:bH)(o:List aw)(bs:List bd)(al:ai)(aj:aw)(bA aV:List aw)(bU:List Nat)(St:Nat->ai->Prop):Prop|mk(fQ:∀b∈aV,b∈bA)(fR:∀q a w o dc,St q a->a9 o dc a w->(∀b∈o,b∉bA)->(∀t∈dc,t∉bU)->St q w)(gs:∀q h(a:ai)(J:au->ai->Prop),bs[q]?=A h->St q a->(∀B w,(∀bi jH,(∀b∈bi,b<a.heap.objs.size/\(b∈o\/b∈aV\/al.heap.objs.size<=b))->a9 bi jH al a->rw b5 w.heap bi h B)->St (q+1) w->a9 aV bU a w->J B w)->I prog k u (nY<|.ref aj) (λD an=>∃B,D=A B/\I prog k u (zy b5 (.ref aj) B) (λx al=>J B al) an) a)(i7:∀(a:ai)(J:Option au->ai->Prop),St bs.length a->(∀w,a9 aV bU a w->J a7 w)->I prog k u (nY<|.ref aj) J a)(kq:∀q(a:ai)(J:au->ai->Prop),St q a->J (.ref aj) a->I prog k u (nj<|.ref aj) J a)(mP:∀q a b v,St q a->b∈aV->a.heap.get? b=A v->sB v):lQ prog k u b5 o bs al aj bA aV bU St
inductive D_(prog:cL)(k:ck)(u:ch)(b5:bH)(Y K:Nat)(j5:List aw)(kT:List Nat)(o cd:List aw)(bs:List bd)(an al:ai)(aj:aw)(bA aV:List aw)(bU:List Nat)(St:Nat->ai->Prop):Prop|mk(fQ:lQ prog k u b5 o bs al aj bA aV bU St)(fR:St 0 al)(gs:a9 [] [] an al)(i7:∀b∈aV,Y<=b\/b∈j5)(kq:∀t∈bU,K<=t\/t∈kT)(mP:∀t∈bU,t<al.gens.size)(sy:∀b∈bA,b<al.heap.objs.size/\b∉cd):D_ prog k u b5 Y K j5 kT o cd bs an al aj bA aV bU St
def x3(prog:cL)(k:ck)(u:ch)(b5:bH)(Y K:Nat)(j5:List aw)(kT:List Nat)(o cd:List aw)(g:au)(bs:List bd)(an:ai):Prop:=∀J:au->ai->Prop,(∀aj al bA aV bU St,D_ prog k u b5 Y K j5 kT o cd bs an al aj bA aV bU St->J (.ref aj) al)->I prog k u (nj g) J an
theorem PQ{b5:bH}{o:List aw}{bs:List bd}{al:ai}{aj:aw}{bA aV:List aw}{bU:List Nat}{St:Nat->ai->Prop}{m:Env}{el:List eS}{cM:gn->ai->Prop}(de:lQ prog k u b5 o bs al aj bA aV bU St)(af:Nat->ai->Prop)(mh:∀q h b1 a B,bs[q]?=A h->af q b1->St q b1->(∀bi jH,(∀b∈bi,b<b1.heap.objs.size/\(b∈o\/b∈aV\/al.heap.objs.size<=b))->a9 bi jH al b1->rw b5 a.heap bi h B)->St (q+1) a->a9 aV bU b1 a->I prog k u (do assign b5 m B;dG el m) (λR w=>match R with|.next|.cont=>af (q+1) w/\St (q+1) w|.brk=>cM .next w|.ret B=>cM (.ret B) w) a)(sC:∀b1 a,af bs.length b1->St bs.length b1->a9 aV bU b1 a->cM .next a)(aG:af 0 a)(gG:St 0 a):d6 prog k u (.forLoop b5 (.ref aj) el [] m) cM a:=by
 refine d6.loop f f (λp a=>∃q,q<=bs.length/\p=bs.length-q/\af q a/\St q a) ?_ bs.length<|p' 0 (hf _) f aG gG;rintro p a⟨q,ah,rfl,c4,Q⟩;refine I.onRaise<|dQ<|I.bind<|I.onRaise<|eU (pd q bs.length) (λc1=>?_) λib=>?_
 .refine I.mono (de.3 q bs[q] a (λB w=>I prog k u (do assign b5 m B;dG el m) (λR w=>match R with
   |.next|.cont=>af (q+1) w/\St (q+1) w|.brk=>cM .next w|.ret B=>cM (.ret B) w) w) (gQ c1) Q λB an aL fw aI=>mh q _ a an B (gQ c1) c4 Q aL fw aI) ?_;rintro D an⟨B,rfl,E⟩;show I prog k u (do zy b5 (.ref aj) B;assign b5 m B;match<-dG el m with
   |.next|.cont=>again<|.forLoop b5 (.ref aj) el [] m|.brk=>dC<|.done .next|.ret B=>dC<|.done<|.ret B) _ an;refine g8 E λx al E=>?_;have j:(do assign b5 m B;match<-dG el m with
   |.next|.cont=>again<|.forLoop b5 (.ref aj) el [] m|.brk=>dC<|.done .next|.ret B=>dC (.done<|.ret B):Sem Fin)=((do assign b5 m B;dG el m)>>=λR=>match R with
   |.next|.cont=>again<|.forLoop b5 (.ref aj) el [] m|.brk=>dC<|.done .next|.ret B=>dC<|.done<|.ret B):=by simp only[bind_assoc]
  refine l j<|g8 E λR al be=>?_;cases R with
  |next=>exact I.pure<|.inl ⟨f,(dk (bs.length-(q+1)) (nx (.t .x .y) [.l .z<|.a .y .w,.e (.a .x<|.o .w) .z] f (fk _ _)<|eu<|c' (.l (.o .x) .y) [.t .x .y] f c1)<|p' (q+1) c1 f be.1 be.2)⟩|cont=>exact I.pure<|.inl ⟨f,(dk (bs.length-(q+1)) (nx (.t .x .y) [.l .z<|.a .y .w,.e (.a .x<|.o .w) .z] f (fk _ _)<|eu<|c' (.l (.o .x) .y) [.t .x .y] f c1)<|p' (q+1) c1 f be.1 be.2)⟩|brk=>exact I.pure be|ret B=>exact I.pure be
 .obtain rfl:q=bs.length:=u5 ah ib;refine de.4 a _ Q λan aI=>I.pure<|.inr ⟨f,(d6.lZ f ?_)⟩;show I prog k u (do let R<-dG [] m;dC<|Dt R) _ an;refine I.eq (l (arm_execs_nil ..) f) ?_;exact ea<|I.pure<|sC a an c4 Q aI
theorem YG{b5:bH}{o:List aw}{bs:List bd}{al:ai}{aj:aw}{bA aV:List aw}{bU:List Nat}{St:Nat->ai->Prop}{m:Env}{dz:bH}{d3:List k9}{a4:dp}{ak:Pos}{z:Nat}{cb:au}{t:k9}{cM:gn->ai->Prop}(aK:d3[z]?=A t)(bI:t.target=b5)(aG:t.is_async=0)(ag:t.ifs.length<=1)(aF:∀cc,d3[z+1]?=A cc->cc.is_async=0)(de:lQ prog k u b5 o bs al aj bA aV bU St)(af:Nat->ai->Prop)(mh:∀q h b1 a B,bs[q]?=A h->af q b1->St q b1->(∀bi jH,(∀b∈bi,b<b1.heap.objs.size/\(b∈o\/b∈aV\/al.heap.objs.size<=b))->a9 bi jH al b1->rw b5 a.heap bi h B)->St (q+1) a->a9 aV bU b1 a->I prog k u (do assign t.target m B;pv dz d3 a4 ak z cb m t.ifs) (λx w=>af (q+1) w/\St (q+1) w) a)(sC:∀b1 a,af bs.length b1->a9 aV bU b1 a->cM .next a)(c4:af 0 a)(gG:St 0 a):d6 prog k u (.compLoop (.ListComp dz d3 a4 ak) z (.ref aj) cb m) cM a:=by
 subst bI;refine d6.loop f f (λp a=>∃q,q<=bs.length/\p=bs.length-q/\af q a/\St q a) ?_ bs.length<|p' 0 (hf _) f c4 gG;rintro p a⟨q,ah,rfl,c4,Q⟩;refine I.onRaise<|l (PH aK aG ag aF)<|dQ<|I.bind ?_;rcases pd q bs.length with c1|ib
 .refine I.mono (de.3 q bs[q] a (λB w=>I prog k u (do assign t.target m B;pv dz d3 a4 ak z cb m t.ifs) (λx w=>af (q+1) w/\St (q+1) w) w) (gQ c1) Q λB an aL fw aI=>mh q _ a an B (gQ c1) c4 Q aL fw aI) ?_;rintro D an⟨B,rfl,E⟩;refine g8 E λx al E=>?_;have j:(do assign t.target m B;pv dz d3 a4 ak z cb m t.ifs;again (.compLoop (.ListComp dz d3 a4 ak) z (.ref aj) cb m):Sem Fin)=((do assign t.target m B;pv dz d3 a4 ak z cb m t.ifs)>>=λx=>again<|.compLoop (.ListComp dz d3 a4 ak) z (.ref aj) cb m):=by simp only[bind_assoc]
  exact l j<|g8 E λR al be=>I.pure<|.inl ⟨f,(dk (bs.length-(q+1)) (nx (.t .x .y) [.l .z<|.a .y .w,.e (.a .x<|.o .w) .z] f (fk _ _)<|eu<|c' (.l (.o .x) .y) [.t .x .y] f c1)<|p' (q+1) c1 f be.1 be.2)⟩
 .obtain rfl:q=bs.length:=u5 ah ib;exact de.4 a _ Q λan aI=>I.pure<|sC a an c4 aI
section
theorem PR(c:bV an.heap o h B)(cr:∀b∈aV,an.heap.objs.size<=b)(aI:a9 [] [] an al)(cA:∀b∈bi,b∈o\/b∈aV\/al.heap.objs.size<=b)(a6:a9 bi jH al a)(bQ:a9 aV [] a w):bV w.heap bi h B:=by refine bV.to (λb v n j=>?_) _ _ c;have c1:=dH j;have PS:b∉aV:=λe=>b4 c1<|cr b e;have g0:b∉bi:=λe=>(cA b e).elim n λe=>e.elim PS λe=>b4 (cI c1 aI.2) e;exact⟨bQ.1 _ _ PS<|a6.1 _ _ g0<|aI.1 _ _ (λe=>dI e) j,g0⟩
theorem PT(cr:∀b∈aV,an.heap.objs.size<=b)(aI:a9 [] [] an al)(cA:∀b∈bi,b∈o\/b∈aV\/al.heap.objs.size<=b)(a6:a9 bi jH al a)(bQ:a9 aV [] a w):∀{ca:List bd}{V:List au},bX an.heap o ca V->bX w.heap bi ca V|[],V,D=>D|M::ca,V,D=>by exact dZ D λB fD bK eD eN=>l bK<|eH B fD f (PR eD cr aI cA a6 bQ)<|PT cr aI cA a6 bQ eN
theorem lQ.of{b5:bH}{aj:aw}{bA aV:List aw}{s:Nat}{sD:Nat->au->Prop}{St:Nat->e0->Prop}(de:Walks prog k u aj bA aV s sD St)(cz:∀c o h B,bV c o h B->(∃q,q<s/\bs[q]?=A h)->rw b5 c o h B)(bI:∀B,(∃q,q<s/\sD q B)->∀q(a:ai)(J:Unit->ai->Prop),St (q+1) a.heap->J () a->I prog k u (zy b5 (.ref aj) B) J a)(ay:bs.length=s)(aL:∀q h B,bs[q]?=A h->sD q B->bV an.heap o h B)(cr:∀b∈aV,an.heap.objs.size<=b)(aI:a9 [] [] an al)(a8:∀q c b v,St q c->b∈aV->c.get? b=A v->sB v):lQ prog k u b5 o bs al aj bA aV [] (λq a=>St q a.heap):=⟨(de.sub),(λq a w o dc st t cA x=>de.frame q _ _ st λb n v j=>t.1 b v (λe=>cA b e n) j),(λq h a J X st ac=>by have ah:q<s:=ay▸(k_.mp X).1;refine kP<|I.of<|de.item q a _ _ ah st λB aa y bJ oa a8 G=>(dk B f ?_);have t:a9 aV [] a {a with heap:=aa,toks:=y}:=bM.heap (λb v n j=>a8 b v n j) G.1;exact bI B (dk q ah bJ) q _ _ oa<|ac B _ (λbi jH g0 cc=>cz _ _ _ _ (PR (aL q h B X bJ) cr aI (λb n=>(g0 b n).2) cc t)<|dk q ah X) oa t),(λa J st ac=>kP<|I.of<|de.done a _ _ (ay▸st) λaa y a8 G=>ac _<|bM.heap (λb v n j=>a8 b v n j) G.1),(λq a J st ac=>I.of<|de.self q a _ _ st ac),(λq a b v st n j=>a8 q _ b v st n j)⟩
theorem D'{c:e0}{b H:aw}{q:Nat}{v:Obj}(h:c.IsListIter b H q)(j:c.get? b=A v):sB v:=by refine eW h λdq cg aO x=>?_;replace cg:=j▸cg;exact l (nz cg)<|x2 ⟨by refine l aO ?_;decide,by refine l aO ?_;decide⟩
theorem YH{c:e0}{b H:aw}{q:Nat}{v:Obj}(h:c.IsTupleIter b H q)(j:c.get? b=A v):sB v:=by refine eW h λdq cg aO x=>?_;replace cg:=j▸cg;exact l (nz cg)<|x2 ⟨by refine l aO ?_;decide,by refine l aO ?_;decide⟩
def vA(o cd:List aw)(aA:List bd)(a:ai)(g:au):Prop:=∃i V s,g=.ref i/\i∉cd/\a.heap.get? i=A {cls:=.type "list",data:=.seq V s}/\bX a.heap o aA V.toList
theorem PU{b5:bH}{Y K:Nat}(g3:Y<=a.heap.objs.size)(b':u.handled=a7){g:au}(dr:∀b∈cd,b<a.heap.objs.size)(c:vA o cd aA a g)(bI:(∃h hn,b5=.Name h hn)\/(∃as p hn,b5=.Tuple as p hn)/\∀h∈aA,∃ca,h=.tup ca):x3 prog k u b5 Y K [] [] o cd g aA a:=λJ ac=>by
 obtain⟨i,V,s,rfl,aX,aK,aB⟩:=c;have aM:a.heap.IsList i V:=⟨_,aK,f,s,f⟩;have c1:i<a.heap.objs.size:=dH aK;have cP:V.size=aA.length:=by simpa using aB.length
 refine I.of<|CM aM ?_;have t:a9 [] [] a {a with heap:=a.heap.push {cls:=.type "list_iterator",data:=.fields #[.ref i,.int 0 0]}}:=bM.push a _ a.toks;refine ac _ _ _ _ _ _ ⟨lQ.of (Ht (prog:=prog) (w:=k) b' a.heap.objs.size i (hS c1) V) ?_ ?_ cP.symm (λq h B X aL=>?_) (λb n=>oD (bc n).symm) t<|λq c b v st n j=>D' (bc n▸st.1) j,?_,t,λb n=>.inl<|bc n▸g3,aP,aP,λb n=>?_⟩
 .rintro c o h B D⟨q,_,X⟩;rcases bI with⟨M,hn,rfl⟩|⟨⟨as,p,hn,rfl⟩,bI⟩
  .exact D
  .refine gc λx dA=>?_;obtain⟨ca,rfl⟩:=bI h<|pf X;obtain⟨a0,fD,ae,rfl,_,j,D⟩:=D;exact dA<|⟨ca,a0,fD,f,f,⟨_,j,f,ae,f⟩,D⟩
 .rintro B⟨q,ah,aL⟩aC w J st aZ;rcases bI with⟨h,hn,rfl⟩|⟨⟨as,p,hn,rfl⟩,bI⟩
  .exact I.pure aZ
  .refine gc λx dA=>bl (aB.at (q:=q) (B:=B) (by simpa using aL)) λh X sE=>?_;obtain⟨ca,rfl⟩:=bI h<|pf X;obtain⟨a0,_,_,rfl,_⟩:=sE;exact dA<|I.of<|wpAny_letOwnedTupleGo_listiter st.1 aZ
 .refine gc λx dA=>bl (aB.at (q:=q) (B:=B) (by simpa using aL)) λj6 hk sE=>?_;replace hk:=X▸hk;cases hk;exact dA sE
 .exact⟨⟨_,fj _ f,f,f⟩,aM.at λv j=>eT _ j⟩
 .refine l (f' ..) ?_
  revert b;refine gr ?_ ?_
  .exact⟨ks _,λe=>iK _<|dr _ e⟩
  .intro b n;exact l (bc n)<|⟨pe c1,aX⟩
theorem YI{Y K:Nat}(g3:Y<=a.heap.objs.size)(b':u.handled=a7){g:au}{h:Str}{hn:Pos}(dr:∀b∈cd,b<a.heap.objs.size)(t0:∀b∈cd,b∈o)(c:bV a.heap o (.tup aA) g):x3 prog k u (.Name h hn) Y K [] [] o cd g aA a:=λJ ac=>by
 refine la c λi V s dm aX aK aB=>l dm ?_;have aM:a.heap.IsTuple i V:=⟨_,aK,f,s,f⟩;have c1:i<a.heap.objs.size:=dH aK;have cP:V.size=aA.length:=by simpa using aB.length
 refine I.of<|wpAny_pyIter_tuple aM ?_;have t:a9 [] [] a {a with heap:=a.heap.push {cls:=.type "tuple_iterator",data:=.fields #[.ref i,.int 0 0]}}:=bM.push a _ a.toks;refine ac _ _ _ _ _ _ ⟨lQ.of (Walks.tuple (prog:=prog) (w:=k) b' a.heap.objs.size i (hS c1) V) (λx x x x D x=>D) (λB x q w J st aZ=>I.pure aZ) cP.symm (λq h B X aL=>?_) (λb n=>oD (bc n).symm) t<|λq c b v st n j=>YH (bc n▸st.1) j,?_,t,λb n=>.inl<|bc n▸g3,aP,aP,λb n=>?_⟩
 .refine bl (aB.at (q:=q) (B:=B) (by simpa using aL)) λj6 hk sE=>?_;replace hk:=X▸hk;cases hk;exact sE
 .exact⟨⟨_,fj _ f,f,f⟩,aM.at λv j=>eT _ j⟩
 .refine l (f' ..) ?_
  revert b;refine gr ?_ ?_
  .exact⟨ks _,λe=>iK _<|dr _ e⟩
  .intro b n;exact l (bc n)<|⟨pe c1,λe=>aX<|t0 _ e⟩
noncomputable def j7(i z:Int)(s:Nat):List Int:=(c9 s).map λ(q:Nat)=>i+q*z
theorem PV{Y K:Nat}(g3:Y<=a.heap.objs.size)(b':u.handled=a7){g:au}{h:Str}{hn:Pos}{i z:Int}{s:Nat}(dr:∀b∈cd,b<a.heap.objs.size)(c:AH o i z s a g):x3 prog k u (.Name h hn) Y K [] [] o cd g ((j7 i z s).map .int) a:=λJ ac=>by
 refine HG c λD b E av B dX aB ah Q ay=>l dX<|I.of<|Gq ah Q<|l ay<|ac _ _ _ _ _ _ ⟨lQ.of (Dp (prog:=prog) (w:=k) b' a.heap.objs.size i z s) (λx x x x D x=>D) (λB x q w J st aZ=>I.pure aZ) (by simp[j7]) (λq h B X aL=>?_) (λb n=>oD (bc n).symm) (bM.push a _ a.toks)<|λq c b v st n j=>by rw[bc n]at j;rw[show c.get? _=_ from st]at j;cases j;exact x2 ⟨by show hh _≠_;decide,by show hh _≠_;decide⟩,?_,bM.push a _ a.toks,λb n=>.inl<|bc n▸g3,aP,aP,λb n=>?_⟩
 .refine cJ aL λE jC=>l jC ?_;have c1:q<s:=by simpa[j7]using(k_.mp X).1
  have:h=.int (i+q*z):=by rw[j7,fW,fW,mG c1]at X;exact(fu X).symm
  exact l this<|(⟨E,f⟩)
 .exact((show i+((0:Nat):Int)*z=i by simp).symm)▸((show((s:Int)-((0:Nat):Int))=s by simp).symm)▸fj _ f
 .exact l (f' ..)<|l (bc n)<|⟨ks _,λe=>iK _<|dr _ e⟩
theorem lQ.ofT{as:List bH}{p:Nat}{hn:Pos}{aj:aw}{bA aV:List aw}{s:Nat}{PW:Nat->Array au->Prop}{St:Nat->e0->Prop}{YJ:Nat->aw->e0->Prop}(de:WalksT prog k u aj bA aV s PW St YJ)(ay:bs.length=s)(aL:∀q h pz,bs[q]?=A h->PW q pz->∃ca,h=.tup ca/\bX an.heap o ca pz.toList)(cr:∀b∈aV,an.heap.objs.size<=b)(aI:a9 [] [] an al)(a8:∀q c b v,St q c->b∈aV->c.get? b=A v->sB v):lQ prog k u (.Tuple as p hn) o bs al aj bA aV [] (λq a=>St q a.heap):=⟨(de.sub),(λq a w o dc st t cA x=>de.frame q _ _ st λb n v j=>t.1 b v (λe=>cA b e n) j),(λq h a J X st ac=>by refine kP<|I.of<|de.item q a _ _ (ay▸(k_.mp X).1) st λa0 pz aa y bJ cz IF bw a8 G=>⟨_,f,?_⟩;have t:a9 aV [] a {a with heap:=aa,toks:=y}:=bM.heap (λb v n j=>a8 b v n j) G.1;refine kP<|I.of<|de.go as p hn q a0 _ _ _ bw λt3 YK PX ep=>?_;have cc:a9 aV [] {a with heap:=aa,toks:=y} {a with heap:=t3,toks:=y}:=bM.heap (y:=y) (λb v n j=>PX b v n j) ep.1;refine ac _ _ (λbi jH g0 qx=>bl (aL q h pz X bJ) λca lm aB=>l lm<|eW IF λv aK aO mm=>cJ mm λae bp=>?_) YK<|t.trans cc;exact⟨ca,a0,pz,f,f,⟨v,PX _ _ (de.apart q a0 _ bw) aK,aO,ae,bp⟩,PT (w:={a with heap:=t3,toks:=y}) cr aI (λb n=>(g0 b n).2) qx (t.trans cc) aB⟩),(λa J st ac=>kP<|I.of<|de.done a _ _ (ay▸st) λaa y a8 G=>ac _<|bM.heap (λb v n j=>a8 b v n j) G.1),(λq a J st ac=>I.of<|de.self q a _ _ st ac),(λq a b v st n j=>a8 q _ b v st n j)⟩
end
noncomputable def pA(ie:Bool)(m:Env)(O:List aw):List Addr:=bif ie then O++bY m else bY m
theorem pA.mem(P:ct g m o O ax Y):∀b∈pA ie m O,b∈o:=by intro b n;cases ie with|false=>exact(P.4 b n).1|true=>exact bD n (λc=>(P.5 b c).1) λc=>(P.4 b c).1
def gx(g:d7)(z:Nat)(T:dp)(C:cm)(ie:Bool)(b5 j:bH)(bs:List bd):Prop:=∀(u:ch)(m:Env)(o O ax:List aw)(Y K:Nat),eJ z u->m.scope=T->ct g m o O ax Y->co g.prog g.w u [] [] m (λa=>bo g m o O Y C a/\K<=a.gens.size) j (λa aU=>x3 g.prog g.w u b5 Y K [] [] o (pA ie m O) aU bs a)
theorem co.weak(c:co prog k u aW ao m L j aE)(p:∀a,bv a->L a):co prog k u aW ao m bv j aE:=λa J r ac=>c a J (p a r) ac
def lR(g:d7)(z:Nat)(T:dp)(C:cm)(ie:Bool)(j:bH)(aA:List bd):Prop:=∀(u:ch)(m:Env)(o O ax:List aw)(Y:Nat),eJ z u->m.scope=T->ct g m o O ax Y->co g.prog g.w u [] [] m (bo g m o O Y C) j (λa aU=>vA o (pA ie m O) aA a aU)
theorem vA.h4:mi [] [] (λa aU=>vA o cd aA a aU):=λa w aU c t=>by refine la c λi V s j U aK aB=>?_;have rv:∀b v,a.heap.get? b=A v->w.heap.get? b=A v:=λb v j=>t.1 b v (λc=>dI c) j;exact⟨i,V,s,j,U,rv _ _ aK,bX.to (λb v n j=>⟨rv b v j,n⟩) _ _ aB⟩
theorem lR.of(c:af g z T C j p<|.lst aA)(a8:p≠.ls:=by decide):lR g z T C ie j aA:=λu m o O ax Y ar Q P=>((c.gf a8) u m o O ax Y ar Q P).to λa aU aL=>by have oM:bV a.heap o (.lst aA) aU:=aL;exact la oM λi V s j aX aK aB=>⟨i,V,s,j,λe=>aX<|pA.mem P i e,aK,aB⟩
theorem lR.BU(aK:fU C h=A (.b<|.lst aA))(X:g9 T h=W):lR g z T C ie (.Name h ak) aA:=λu m o O ax Y ar Q P a J r ac=>by refine gc λx dA=>?_;subst Q;obtain⟨ag,aF,bb⟩:=x1 X;obtain⟨cW,aE,dd,ee,i'⟩:=r.3;obtain⟨aU,hy,aB⟩:=dd _ _<|mW aK;obtain⟨i,aX,pB,Ea⟩:=i' _ _<|mW aK;refine dA<|dQ<|l (if_neg (by rw[bb];decide))<|DZ aE (D9 ag) hy aF<|ac aU a (bM.refl ..)<|gc λx dA=>?_;obtain⟨e9,j,V,s,aK,aB⟩:=aB;subst j;rw[hy]at aX;cases aX;refine dA<|⟨i,V,s,f,λe=>?_,aK,aB⟩;cases ie with|false=>exact Ea e|true=>exact bD e pB Ea
def PY(b5:bH)(aA:List bd):Prop:=(∃h hn,b5=.Name h hn)\/(∃as p hn,b5=.Tuple as p hn)/\∀h∈aA,∃ca,h=.tup ca
theorem t4(c:i<s)(p:Nat):@Ne Nat i (s+p):=iO [-1,1] (.ne .x<|.a .y .z) [.t .x .y] f c
namespace gx
theorem list(c:lR g z T C ie j aA)(bI:PY b5 aA):gx g z T C ie b5 j aA:=λu m o O ax Y K ar Q P a J r ac=>let r:=r.1
 c u m o O ax Y ar Q P a J r λaU w t aL=>ac aU w t<|PU (r.grow t).1 ar.1 (λb n=>cI (P.8 b<|pA.mem P b n) (r.grow t).1) aL bI
theorem yO(c:∀(u:ch)(m:Env)(o O ax:List aw)(Y:Nat),eJ z u->m.scope=T->ct g m o O ax Y->co g.prog g.w u [] [] m (bo g m o O Y C) j (AH o i b s)):gx g z T C ie (.Name h dO) j ((j7 i b s).map .int):=λu m o O ax Y K ar Q P a J r ac=>let r:=r.1
 c u m o O ax Y ar Q P a J r λaU w t aL=>ac aU w t<|PV (r.grow t).1 ar.1 (λb n=>cI (P.8 b<|pA.mem P b n) (r.grow t).1) aL
theorem t_{h:Str}{s:Nat}{e:Pos}(aO:g.Ok)(c:c5 g z T C j s)(aK:g.gl "range"=A (.type "range"))(X:eE T "range"=W)(ay:dT j=W)(U:s<2^62):gx g z T C ie (.Name h dO) (.Call (.Name "range" e) [j] [] ak) ((j7 0 1 s).map .int):=yO λu m o O ax Y ar Q P=>by subst Q;exact PK P.ok (ix aO P aK X) ay (fc c ar f P) U
theorem FW{h:Str}{e:Pos}{st:Int}{s:Nat}(aO:g.Ok)(bn:c5 g z T C H i)(bG:c5 g z T C D b)(jD:c5 g z T C E st)(aK:g.gl "range"=A (.type "range"))(X:eE T "range"=W)(ay:dT H=W/\dT D=W/\dT E=W)(aG:st≠0)(Q:xw i b st=W)(a1:z' (b-i) st=a2)(dW:sg i b st=s):gx g z T C ie (.Name h dO) (.Call (.Name "range" e) [H,D,E] [] ak) ((j7 i st s).map .int):=yO λu m o O ax Y ar dB P=>by subst dB;refine mS P.ok (ix aO P aK X) f (jl ay.1 P.ok (fc bn ar f P) (kr _)<|jl ay.2.1 P.ok (fc bG ar f P) (kr _)<|jl ay.2.2 P.ok (fc jD ar f P) (kr _) kt) ?_ (by simp[ay]);rintro a aY qy⟨_,_,rfl,⟨E,rfl⟩,_,_,rfl,⟨av,rfl⟩,_,_,rfl,⟨B,rfl⟩,rfl⟩J ac;exact I.of<|call_range_3 aG (ac _ _ (bM.new _ _ a _ _) ⟨_,b,_,_,_,f,λe=>iK _<|P.ok.2 _ qy _ e,Hv ..,Q,dW⟩)<|.inl a1
noncomputable def enumItems(aA:List bd):List bd:=aA.zipIdx.map λr=>.tup [.int r.2,r.1]
theorem enumerate(aO:g.Ok)(c:lR g z T C ie j aA)(aK:g.gl "enumerate"=A (.type "enumerate"))(X:eE T "enumerate"=W)(ay:dT j=W):gx g z T C ie (.Tuple as ae hn) (.Call (.Name "enumerate" e) [j] [] ak) (enumItems aA):=λu m o O ax Y K ar Q P=>by
 subst Q;refine co.weak (L:=bo g m o O Y C) (mS P.ok (ix aO P aK X) f (jl ay P.ok (c u m o O ax Y ar f P) vA.h4 kt) ?_ (by simp[ay]))<|λx r=>r.1;rintro a aY r YL J ac;refine dZ YL λx x YM YN YO=>l YM<|la YN λi V s YP aX aK aB=>l YP<|l YO ?_;have aM:a.heap.IsList i V:=⟨_,aK,f,s,f⟩;have c1:i<a.heap.objs.size:=dH aK;have cP:V.size=aA.length:=by simpa using aB.length
 refine I.of<|call_enumerate_list aM λaa br gL oQ a8=>?_;have t:a9 [] [] a {a with heap:=aa}:=bM.heap (y:=a.toks) (λb v x j=>a8 b v j)<|oQ▸hT ..;refine ac _ _ t λJ ac=>I.of<|wpAny_pyIter_enum br ?_;have cr:∀b∈[a.heap.objs.size+1,a.heap.objs.size],a.heap.objs.size<=b:=λb n=>by
  revert b;refine gr ?_ ?_
  .exact js _
  .intro b n;exact oD (bc n).symm
 refine ac _ _ _ _ _ _ ⟨lQ.ofT (an:=a) (WalksT.enumerate ar.1 _ _ i (by show@Ne Nat _ _;exact bZ (.ne (.o .x) .x) [] f) (hS<|pe c1) (hS c1) V) (by simp[enumItems,cP]) (λq h pz X bJ=>?_) cr t<|λq c b v st n j=>?_,⟨⟨_,br⟩,gL,aM.at λv j=>a8 _ v j⟩,bM.refl ..,λb n=>.inl<|a' r.1<|cr b n,aP,aP,λb n=>?_⟩
 .refine fM bJ λE B aL YQ=>l YQ<|bl (aB.at (q:=q) (B:=B) (by simpa using aL)) λj6 hk sE=>?_;simp only[enumItems,fW,Nk,hk,r9,zQ,xt]at X;subst X;exact⟨_,f,(md _ ⟨_,f,md E f,md _ ⟨_,f,sE,f⟩⟩)⟩
 .refine eV st λYR ee x=>cJ YR λqt dd=>di n (λe=>?_) λe=>?_
  .replace j:=e▸j;rw[show c.get? _=_ from dd]at j;cases j;exact x2 ⟨by show hh _≠_;decide,by show hh _≠_;decide⟩
  .exact D' (bc e▸ee) j
 .have dr:∀b∈pA ie m O,b<a.heap.objs.size:=λb n=>cI (P.8 b<|pA.mem P b n) r.1;show b<aa.objs.size/\_;simp only[e1,mE,or_false]at n;rcases n with rfl|rfl|rfl
  .exact⟨by refine l oQ ?_;show@nq Nat _ _ _;exact ks _,λe=>absurd (dr _ e) (by show¬@nq Nat _ _ _;exact bZ (.iO (.o .x) .x) [] f)⟩
  .exact⟨by refine l oQ ?_;show@nq Nat _ _ _;exact js _,λe=>absurd (dr _ e) (by show¬@nq Nat _ _ _;exact bZ (.iO .x .x) [] f)⟩
  .exact⟨cI c1<|oQ▸hT ..,aX⟩
noncomputable def zipItems(aA ca:List bd):List bd:=(aA.zip ca).map λr=>.tup [r.1,r.2]
theorem zip(aO:g.Ok)(bn:lR g z T C ie H aA)(bG:lR g z T C ie D ca)(aK:g.gl "zip"=A (.type "zip"))(X:eE T "zip"=W)(ay:dT H=W/\dT D=W):gx g z T C ie (.Tuple as ae hn) (.Call (.Name "zip" e) [H,D] [] ak) (zipItems aA ca):=λu m o O ax Y K ar Q P=>by
 subst Q;refine co.weak (L:=bo g m o O Y C) (mS P.ok (ix aO P aK X) f (jl ay.1 P.ok (bn u m o O ax Y ar f P) vA.h4<|jl ay.2 P.ok (bG u m o O ax Y ar f P) vA.h4 kt) ?_ (by simp[ay]))<|λx r=>r.1;rintro a aY r YS J ac;refine dZ YS λx x YT YU YV=>dZ YV λx x YW YX YY=>l YT<|la YU λi V s YZ aX aK aB=>l YZ<|l YW<|la YX λe9 fD j8 Y0 ku ge hJ=>l Y0<|l YY ?_;have aM:a.heap.IsList i V:=⟨_,aK,f,s,f⟩;have jE:a.heap.IsList e9 fD:=⟨_,ge,f,j8,f⟩;have c1:i<a.heap.objs.size:=dH aK;have mN:e9<a.heap.objs.size:=dH ge;have cP:V.size=aA.length:=by simpa using aB.length
 have AO:fD.size=ca.length:=by simpa using hJ.length
 refine I.of<|call_zip_2 aM jE λaa U t5 x4 ag aF oQ a8=>?_;have t:a9 [] [] a {a with heap:=aa}:=bM.heap (y:=a.toks) (λb v x j=>a8 b v j)<|oQ▸hT ..;refine ac _ _ t λJ ac=>I.of<|Gr U ?_;have cr:∀b∈[a.heap.objs.size+4,a.heap.objs.size+3,a.heap.objs.size,a.heap.objs.size+1],a.heap.objs.size<=b:=λb n=>by simp only[e1,mE,or_false]at n;rcases n with rfl|rfl|rfl|rfl<;>(show@LE.le Nat _ _ _;(first|exact hT ..|exact dD _|exact js _))
 refine ac _ _ _ _ _ _ ⟨lQ.ofT (an:=a) (WalksT.zip2 ar.1 (a.heap.objs.size+4) (a.heap.objs.size+2) (a.heap.objs.size+3) a.heap.objs.size (a.heap.objs.size+1) i e9 ⟨(by show@Ne Nat _ _;exact sp [-1] (.ne (.a .x<|.n 2)<|.a .x<|.n 4) [] f),(by show@Ne Nat _ _;exact sp [-1] (.ne (.a .x<|.n 3)<|.a .x<|.n 4) [] f),(by show@Ne Nat _ _;exact sp [-1] (.ne .x<|.a .x<|.n 4) [] f),(by show@Ne Nat _ _;exact sp [-1] (.ne (.o .x)<|.a .x<|.n 4) [] f),(by show@Ne Nat _ _;exact sp [-1] (.ne (.a .x<|.n 2)<|.a .x<|.n 3) [] f),(by show@Ne Nat _ _;exact bZ (.ne (.a .x<|.n 2) .x) [] f),(by show@Ne Nat _ _;exact bZ (.ne (.a .x<|.n 2)<|.o .x) [] f),(by show@Ne Nat _ _;exact bZ (.ne (.a .x<|.n 3) .x) [] f),(by show@Ne Nat _ _;exact bZ (.ne (.a .x<|.n 3)<|.o .x) [] f),(by show@Ne Nat _ _;exact sp [-1] (.ne .x<|.o .x) [] f),t4 c1 4,t4 c1 3,t4 c1 0,t4 c1 1,t4 mN 4,t4 mN 3,t4 mN 0,t4 mN 1⟩ V fD) (by simp[zipItems,cP,AO]) (λq h pz X bJ=>?_) cr t<|λq c b v st n j=>?_,⟨U,t5,⟨_,_,x4⟩,ag,aF,aM.at λv j=>a8 _ v j,jE.at λv j=>a8 _ v j⟩,bM.refl ..,λb n=>.inl<|a' r.1<|cr b n,aP,aP,λb n=>?_⟩
 .refine dZ bJ λB hz aL oM Y1=>l Y1<|bl (aB.at (q:=q) (B:=B) (by simpa using aL)) λN IG AP=>bl (hJ.at (q:=q) (B:=hz) (by simpa using oM)) λS IH x5=>?_;have j:(aA.zip ca)[q]?=A (N,S):=by refine gq (Nl) ?_;exact⟨IG,IH⟩
  simp only[zipItems,fW,j,r9,xt]at X;exact c2 X<|⟨_,f,(⟨_,_,f,AP,_,_,f,x5,f⟩)⟩
 .refine xE st λdd x Y2 qz qA x=>kn Y2 λx x i'=>?_;simp only[e1,mE,or_false]at n;rcases n with e|e|e|e<;>replace j:=e▸j
  .rw[show c.get? _=_ from dd]at j;cases j;exact x2 ⟨by show hh _≠_;decide,by show hh _≠_;decide⟩
  .rw[show c.get? _=_ from i']at j;cases j;exact x2 ⟨by show hh _≠_;decide,by show hh _≠_;decide⟩
  .exact D' qz j
  .exact D' qA j
 .have dr:∀b∈pA ie m O,b<a.heap.objs.size:=λb n=>cI (P.8 b<|pA.mem P b n) r.1;show b<aa.objs.size/\_;simp only[e1,mE,or_false]at n;rcases n with rfl|rfl|rfl|rfl|rfl|rfl|rfl
  .exact⟨by refine l oQ ?_;show@nq Nat _ _ _;exact ks _,λe=>absurd (dr _ e) (by show¬@nq Nat _ _ _;exact bZ (.iO (.a .x<|.n 4) .x) [] f)⟩
  .exact⟨by refine l oQ ?_;show@nq Nat _ _ _;exact bZ (.t (.a .x<|.n 2)<|.a .x<|.n 5) [] f,λe=>absurd (dr _ e) (by show¬@nq Nat _ _ _;exact bZ (.iO (.a .x<|.n 2) .x) [] f)⟩
  .exact⟨by refine l oQ ?_;show@nq Nat _ _ _;exact js _,λe=>absurd (dr _ e) (by show¬@nq Nat _ _ _;exact bZ (.iO (.a .x<|.n 3) .x) [] f)⟩
  .exact⟨by refine l oQ ?_;show@nq Nat _ _ _;exact bZ (.t .x<|.a .x<|.n 5) [] f,λe=>absurd (dr _ e) (by show¬@nq Nat _ _ _;exact bZ (.iO .x .x) [] f)⟩
  .exact⟨by refine l oQ ?_;show@nq Nat _ _ _;exact bZ (.t (.o .x)<|.a .x<|.n 5) [] f,λe=>absurd (dr _ e) (by show¬@nq Nat _ _ _;exact bZ (.iO (.o .x) .x) [] f)⟩
  .exact⟨cI c1<|oQ▸hT ..,aX⟩
  .exact⟨cI mN<|oQ▸hT ..,ku⟩
end gx
noncomputable def kU(T:dp)(h:Str):Bool:=T.names.lookup h==A .local||T.names.lookup h==A .cell
noncomputable def II(cW:Str->Option au)(h:Str)(aU:au):Str->Option Value:=λM=>if M=h then A aU else cW M
noncomputable def sF(b:Bool)(m:Env):List Addr:=bif b then[m.locals]else bY m
noncomputable def oR(b:Bool)(T:dp)(h:Str):Bool:=bif b then T.names.lookup h==A .local else kU T h
theorem x6:∀G∈sF b m,G∈bY m:=λG U=>by cases b with|true=>exact(bc U)▸bm|false=>exact U
theorem Y3:m.locals∈sF b m:=by cases b with|true=>exact bm|false=>exact bm
theorem PZ(aE:pr m a.heap cW)(ah:∀h M i b,m.cells.lookup h=A i->m.cells.lookup M=A b->h≠M->i≠b)(X:oR b m.scope h=W)(c:∀w,a9 (sF b m) [] a w->pr m w.heap (II cW h aU)->J () w):I prog k u (tu m h aU) J a:=by
 refine bl aE.2 λae ay bw=>?_;have AQ:m.kindOf h=A .local\/(b=a2/\m.kindOf h=A .cell):=by cases b with|true=>exact .inl<|eq_of_beq X|false=>exact(vz X).imp id λe=>⟨f,e⟩
 clear X;rcases AQ with X|⟨rfl,X⟩
 .
  refine(I.of<|MK X ay (λaa mj dB=>?_) (by refine l aE.1 ?_;rfl));have t:a9 [m.locals] [] a {a with heap:=aa,toks:=a.toks+1}:=bM.same dB;refine c _ (t.mono (λb n=>bc n▸Y3) aP) ⟨aE.1,⟨_,mj,λM a3=>?_⟩,λM a3=>?_⟩
  .show(if M=h then A aU else ae M)=if M=h then A aU else cW M;split
   .rfl
   .exact bw M a3
  .refine bl (aE.3 M a3) λi aX aO=>⟨i,aX,?_⟩;have j4:M≠h:=by rintro rfl;rw[X]at a3;rcases a3 with e|e<;>cases e
   have c_:i≠m.locals:=D3 ay aO;show Hn _ i<|if M=h then A aU else cW M;exact l (if_neg j4)<|bl aO λv j z=>⟨v,(dB.2 i c_).trans j,z⟩
 .refine bl (aE.3 h<|.inl X) λi aX lh=>(I.of<|ML aE.1 X aX lh<|λaa nI dB=>?_);have t:a9 [i] [] a {a with heap:=aa}:=bM.same (y:=a.toks) dB;have c_:i≠m.locals:=D3 ay lh;refine c _ (t.mono (λb n=>bc n▸ss aX) aP) ⟨aE.1,⟨ae,ay.at' λv j=>t.1 _ v (λe=>c_ (bc e).symm) j,λM a3=>?_⟩,λM a3=>?_⟩
  .have j4:M≠h:=by rintro rfl;rw[X]at a3;cases a3
   exact(bw M a3).trans (if_neg j4).symm
  .by_cases j4:M=h
   .subst j4;exact⟨i,aX,by show Hn _ i<|if M=M then A aU else cW M;refine l (if_pos f) ?_;exact nI⟩
   .refine bl (aE.3 M a3) λb n aO=>⟨b,n,?_⟩;show Hn _ b<|if M=h then A aU else cW M;exact l (if_neg j4)<|bl aO λv j z=>⟨v,(dB.2 b<|ah _ _ _ _ n aX j4).trans j,z⟩
theorem lP.own{c aa:e0}{bt:Slot}{aU:au}{cd:List aw}(dr:∀G∈cd,G∈o)(aM:bt.loose->∀i,aU=.ref i->i∉cd)(p:∀b v,b∉cd->c.get? b=A v->aa.get? b=A v)(D:lP c o bt aU):lP aa o bt aU:=by have fV:∀b v,b∉o->c.get? b=A v->aa.get? b=A v/\b∉o:=λb v n j=>⟨p b v (λe=>n<|dr b e) j,n⟩;cases bt with|f av=>exact bV.to fV _ _ D|o av=>exact bl D λi j D=>⟨i,j,D.to fV λv cg=>p i v (aM trivial i j) cg⟩|b av=>exact bl D λi j D=>⟨i,j,D.to fV λv cg=>p i v (aM trivial i j) cg⟩
theorem bo.loose(r:bo g m o O Y C a)(P:ct g m o O ax Y):∃cW,pr m a.heap cW/\(∀h bt,fb C h bt->∃B,cW h=A B/\lP a.heap o bt B/\(bt.loose->∀i,B=.ref i->i∉bY m))/\(∀h B,fb C h (.o B)->∃i∈O,cW h=A (.ref i)/\∀M av,M≠h->fb C M (.o av)->cW M≠A (.ref i))/\(∀h B,fb C h (.b B)->∃i,cW h=A (.ref i)/\i∉O/\i∉bY m):=by refine iL r.3 λcW aE ag aF bb=>(p' cW aE (λh bt X=>bl (ag h bt X) λB aL aB=>(p9 B aL aB λd_ i j=>?_)) aF bb);subst j;cases bt with|f kw=>exact d_.elim|o kw=>refine eW (aF h kw X) λe9 ku j x=>?_;replace j:=aL▸j;cases j;exact λe=>(P.4 _ e).2.2.1 ku|b kw=>refine eW (bb h kw X) λe9 j x c=>?_;replace j:=aL▸j;cases j;exact c
theorem iW(c:fb ((h,av)::C) M bt):(M=h/\bt=av)\/(M≠h/\fb C M bt):=by cases c with|here=>exact .inl ⟨f,f⟩|there j c=>exact .inr ⟨λe=>by subst e;simp at j,c⟩
theorem Y4{b:Bool}{J:Unit->ai->Prop}(P:ct g m o O ax Y)(r:bo g m o O Y C a)(aB:bV a.heap o B aU)(X:oR b m.scope h=W)(c:∀w,a9 (sF b m) [] a w->bo g m o O Y ((h,.f B)::C) w->J () w):I g.prog g.w u (tu m h aU) J a:=by
 refine iL (r.loose P) λcW aE ag aF bb=>PZ aE P.10 X λw t Av=>c w t ⟨a' r.1 t.2,r.2.to t<|λG U=>(P.4 G<|x6 G U).2.1,II cW h aU,Av,?_,?_,?_⟩
 .intro M bt a3;rcases iW a3 with⟨rfl,rfl⟩|⟨c_,a3⟩
  .exact⟨aU,if_pos f,lP.own (bt:=.f B) (cd:=sF b m) (λG U=>(P.4 G<|x6 G U).1) (λe=>e.elim) (λb v n j=>t.1 b v n j) aB⟩
  .exact eW (ag M bt a3) λav d_ D aM=>⟨av,(if_neg c_).trans d_,D.own (cd:=sF b m) (λG U=>(P.4 G<|x6 G U).1) (λe i j c0=>aM e i j<|x6 _ c0) λb v n j=>t.1 b v n j⟩
 .intro M av a3;rcases iW a3 with⟨_,e⟩|⟨c_,a3⟩
  .exact nomatch e
  .refine eW (aF M av a3) λi aX j bp=>⟨i,aX,(if_neg c_).trans j,λG E U bI=>?_⟩;rcases iW bI with⟨_,e⟩|⟨AR,bI⟩
   .exact nomatch e
   .show(if G=h then A aU else cW G)≠_;exact l (if_neg AR)<|bp G E U bI
 .intro M av a3;rcases iW a3 with⟨_,e⟩|⟨c_,a3⟩
  .exact nomatch e
  .exact eW (bb M av a3) λi j dd ee=>⟨i,(if_neg c_).trans j,dd,ee⟩
theorem vB(P:ct g m o O ax Y)(r:bo g m o O Y C a)(aB:bV a.heap o B aU)(X:oR b m.scope h=W)(c:∀w,a9 (sF b m) [] a w->bo g m o O Y ((h,.f B)::C) w->J () w):I g.prog g.w u (o' m h aU) J a:=PD<|Y4 P r aB X c
theorem ct.more(P:ct g m o O ax Y)(aX:Y<=i)(g3:i<cC)(aG:g.s0.heap.objs.size<=Y):ct g m (i::o) (i::O) ax cC:=⟨(P.1),(P.2),(P.3),(λb n=>⟨mt (P.4 b n).1,(P.4 b n).2.1,λe=>di e (λe=>b4 (P.8 b (P.4 b n).1)<|e▸aX) (P.4 b n).2.2.1,(P.4 b n).2.2.2⟩),(λb n=>by
  refine di n (λj=>?_) λe=>?_
  .exact l j<|⟨bm,a' aG aX,λe=>b4 (P.8 _<|P.6 _ e) aX⟩
  .exact⟨mt (P.5 b e).1,(P.5 b e).2⟩),(λb n=>mt<|P.6 b n),(P.7),(λb n=>di n (λe=>e▸g3) λe=>C8 (cI (P.8 b e) aX) g3),(λb n=>di n (λe=>.inr<|e▸a' aG aX) λe=>P.9 b e),(P.10)⟩
theorem jm.some(D:jm c o i B):c.get? i≠a7:=by
 cases B<;>try exact D.elim
 .exact fM D λV s j D=>l j<|λe=>DQ e
 .exact l (show c.get? i=_ from D)<|λe=>DQ e
theorem lP.off(p:∀b v,c.get? b=A v->aa.get? b=A v)(aX:∀i∈de,c.get? i=a7)(D:lP c o bt aU):lP aa (de++o) bt aU/\(bt.loose->∀i∈de,aU≠.ref i):=by have fV:∀b v,b∉o->c.get? b=A v->aa.get? b=A v/\b∉de++o:=λb v n j=>⟨p b v j,by refine gq jW<|gq not_or ?_;exact⟨λe=>(by replace j:=(aX b e)▸j;exact d1 j),n⟩⟩;cases bt with|f av=>exact⟨bV.to fV _ _ D,λe=>False.elim e⟩|o av=>exact bl D λb j D=>⟨⟨b,j,D.to fV λv cg=>p b v cg⟩,λx i qB e=>by replace e:=j▸e;cases e;exact absurd (aX _ qB) D.some⟩|b av=>exact bl D λb j D=>⟨⟨b,j,D.to fV λv cg=>p b v cg⟩,λx i qB e=>by replace e:=j▸e;cases e;exact absurd (aX _ qB) D.some⟩
theorem P0{J:Unit->ai->Prop}{t6:ai}{de:List aw}(P:ct g m o O ax Y)(r:bo g m o O Y C t6)(oS:a9 [] [] t6 a){i:Nat}(qB:∀b∈i::de,t6.heap.objs.size<=b)(aB:jm a.heap (i::(de++o)) i B)(X:kU m.scope h=W)(c:∀w,a9 (bY m) [] a w->bo g m (i::(de++o)) (i::O) w.heap.objs.size ((h,.o B)::C) w->J () w):I g.prog g.w u (o' m h<|.ref i) J a:=by
 refine iL (r.loose P) λcW aE ag aF bb=>?_;have c_:∀b∈i::de,t6.heap.get? b=a7:=λb n=>fS<|qB b n;have ig:∀b v,t6.heap.get? b=A v->a.heap.get? b=A v:=λb v j=>oS.1 b v (λe=>dI e) j;have dx:∀b∈o,b≠i:=λb n e=>b4 (cI (P.8 b n) r.1)<|e▸(qB i bm);have sx:i∉bY m:=λe=>dx i (P.4 i e).1 f;have x7:∀M bt,fb C M bt->∃B,cW M=A B/\lP a.heap (i::(de++o)) bt B/\(bt.loose->B≠.ref i/\∀b,B=.ref b->b∉bY m):=λM bt a3=>let⟨B,j,D,aM⟩:=ag M bt a3
  ⟨B,j,(D.off ig c_).1,λe=>⟨(D.off ig c_).2 e i bm,aM e⟩⟩;refine PD<|PZ (b:=a2) (aE.keeps λb x v j=>ig b v j) P.10 X λw t Av=>c w t ⟨dD _,(r.2.to oS<|λG U=>dI U).to t<|λG U=>(P.4 G U).2.1,II cW h<|.ref i,Av,?_,?_,?_⟩
 .intro M bt a3;rcases iW a3 with⟨rfl,rfl⟩|⟨c_,a3⟩
  .refine⟨_,if_pos f,lP.own (bt:=.o B) (cd:=bY m) (λG U=>mt<|bB (P.4 G U).1) (λx b j=>by cases j;exact sx) (λb v n j=>t.1 b v n j) ⟨i,f,aB⟩⟩
  .exact eW (x7 M bt a3) λav d_ D aM=>⟨av,(if_neg c_).trans d_,D.own (λG U=>mt<|bB (P.4 G U).1) (λe=>(aM e).2) λb v n j=>t.1 b v n j⟩
 .intro M av a3;rcases iW a3 with⟨j4,e⟩|⟨c_,jI⟩
  .cases e;refine⟨i,bm,if_pos j4,λG E U bI=>?_⟩;rcases iW bI with⟨e,_⟩|⟨AR,pC⟩
   .exact absurd (e.trans j4.symm) U
   .show(if G=h then _ else cW G)≠_;refine l (if_neg AR) ?_;intro j;refine eW (x7 G _ pC) λk cr D aM=>?_;rw[j]at cr;cases cr;exact(aM trivial).1 f
  .refine eW (aF M av jI) λb n j bp=>⟨b,mt n,(if_neg c_).trans j,λG E U bI=>?_⟩;rcases iW bI with⟨Y5,e⟩|⟨AR,pC⟩
   .show(if G=h then _ else _)≠_;refine l (if_pos Y5) ?_;intro e;cases e;refine eW (x7 M _ jI) λk cr D aM=>?_;rw[j]at cr;cases cr;exact(aM trivial).1 f
   .show(if G=h then _ else cW G)≠_;exact l (if_neg AR)<|bp G E U pC
 .intro M av a3;rcases iW a3 with⟨_,e⟩|⟨c_,jI⟩
  .cases e
  .refine eW (bb M av jI) λb j dd ee=>⟨b,(if_neg c_).trans j,λe=>di e (λe=>?_) λe=>?_,ee⟩
   .refine eW (x7 M _ jI) λk cr D aM=>?_;rw[j]at cr;cases cr;exact(aM trivial).1<|l e f
   .exact dd e
theorem Y6(P:ct g m o O ax Y)(r:bo g m o O Y C t6)(oS:a9 [] [] t6 a)(aX:t6.heap.objs.size<=i)(aB:jm a.heap (i::o) i B)(X:kU m.scope h=W)(c:∀w,a9 (bY m) [] a w->bo g m (i::o) (i::O) w.heap.objs.size ((h,.o B)::C) w->J () w):I g.prog g.w u (o' m h<|.ref i) J a:=P0 (de:=[]) P r oS (λb n=>bc n▸aX) aB X c
noncomputable def hl(m:Env):List (Str×r6)->List (Str×aw)->List (Str×aw)|[],cb=>cb|(s,p)::D,cb=>if p==.free then(match m.cells.lookup s with|some i=>hl m D ((s,i)::cb)|none=>hl m D cb)else hl m D cb
theorem P1:∀(eh:List<|Str×r6)(cb:List<|Str×aw),(∀r∈eh,r.2=.free->∃i,m.cells.lookup r.1=A i)->(forIn eh cb λh D=>match h with|(name,PN)=>if(PN==.free)=W then do let M<-cellOf m name;dC (rg<|(name,M)::D)else dC (rg D):Sem<|List<|Str×aw)=dC (hl m eh cb)
 |[],cb,_=>by refine l z3 ?_;rfl|(s,p)::D,cb,c=>by
  have a5:=λcb=>P1 D cb λr a1=>c r<|mt a1;refine l (tC ..) ?_;unfold hl;by_cases a8:(p==.free)=W
  .refine cJ (c (s,p) bm<|eq_of_beq a8) λi aX=>?_
   dsimp only at aX⊢;refine(if_pos a8).symm▸(if_pos a8).symm▸aX.symm▸?_;unfold cellOf;exact aX.symm▸a5 _
  .dsimp only;exact(if_neg a8).symm▸(if_neg a8).symm▸a5 _
theorem IJ(c:∀r∈a4.names,r.2=.free->∃i,m.cells.lookup r.1=A i):uX a4 m=dC (hl m a4.names []):=by have:=P1 a4.names [] c;exact congrArg (λE=>E>>=λH=>(dC H:Sem<|List<|Str×aw)) this
set_option tactic.hygienic true in theorem t7:∀(eh:List<|Str×r6)(cb:List<|Str×aw),(∀r∈cb,m.cells.lookup r.1=A r.2)->∀r∈hl m eh cb,m.cells.lookup r.1=A r.2
 |[],cb,c=>c|(s,p)::D,cb,c=>by
  unfold hl;split
  .split
   .rename_i i aX;exact t7 D _ λr a1=>di a1 (λe=>e▸aX)<|c r
   .exact t7 D _ c
  .exact t7 D _ c
set_option tactic.hygienic true in theorem x8(a3:m.cells.lookup M=A i):∀(eh:List<|Str×r6)(cb:List<|Str×aw),(∀r∈cb,m.cells.lookup r.1=A r.2)->(cb.lookup M=A i\/(M,.free)∈eh)->(hl m eh cb).lookup M=A i
 |[],cb,bC,c=>c.elim id λe=>dI e|(s,p)::D,cb,aX,c=>by
  unfold hl;split
  .rename_i a8;split
   .rename_i b n;refine x8 a3 D _ (λr a1=>di a1 (λe=>e▸n)<|aX r) ?_;by_cases j:M=s
    .subst j;replace n:=a3▸n;cases n;exact .inl (by simp)
    .rcases c with c|c
     .exact .inl<|l r'<|l (beq_false_of_ne j) c
     .refine di c (λe=>?_) λe=>?_
      .cases e;exact absurd f j
      .exact .inr e
   .rename_i n;refine x8 a3 D _ aX ?_;rcases c with c|c
    .exact .inl c
    .refine di c (λe=>?_) λe=>?_
     .cases e;rw[a3]at n;exact DQ n
     .exact .inr e
  .rename_i a8;refine x8 a3 D _ aX ?_;rcases c with c|c
   .exact .inl c
   .refine di c (λe=>?_) λe=>?_
    .cases e;exact absurd f a8
    .exact .inr e
noncomputable def eI(a4 T:dp):Scope:={a4 with names:=a4.names.map λ(s,p)=>if(p==.free&&T.kind==.function&&T.names.lookup s==A .cell)then(s,.cell)else(s,p)}
noncomputable def Slot.MG:Slot->Slot|.f B=>.f B|.o B=>.b B|.b B=>.b B
noncomputable def rx(T:dp)(h:Str):Bool:=T.names.lookup h==A .cell||T.names.lookup h==A .free
noncomputable def hA(T:dp):cm->cm|[]=>[]|(h,bt)::C=>bif rx T h then(h,bt.MG)::hA T C else hA T C
theorem vC:∀{C:cm}{h:Str}{bt:Slot},fb (hA T C) h bt->rx T h=W/\∃lS,fb C h lS/\bt=lS.MG
 |[],_,_,c=>nomatch c|(M,av)::C,h,bt,c=>by unfold hA at c;cases j:rx T M with
  |true=>
   rw[j,cond_true]at c;rcases iW c with⟨rfl,rfl⟩|⟨c_,c⟩
   .exact⟨j,(dk av .here f)⟩
   .exact cx (vC c) λag b8=>bl b8 λlS aF bb=>⟨ag,(dk lS (.there (beq_false_of_ne<|ip c_) aF) bb)⟩|false=>rw[j,cond_false]at c;refine cx (vC c) λag dm=>bl dm λlS aF bb=>⟨ag,(dk lS (.there ?_ aF) bb)⟩;exact beq_false_of_ne λe=>by subst e;rw[j]at ag;exact jj ag
noncomputable def ob(a4 T:dp):Bool:=a4.kind==.function&&a4.names.all (λr=>r.2 !=.cell)&&a4.names.all (λr=>r.2 !=.free||rx T r.1)&&a4.names.all (λr=>r.2 !=.local||a4.names.lookup r.1==A .local)
theorem IK(c:ob a4 T=W):a4.kind=.function/\(∀M∈a4.names,M.2≠.cell)/\(∀r∈a4.names,r.2=.free->rx T r.1=W)/\(∀M∈a4.names,M.2=.local->a4.names.lookup M.1=A .local):=by unfold ob at c;simp only[jU,beq_iff_eq,hU,bne_iff_ne,w5]at c;exact cx c λbK cn=>cx bK λe2 bb=>cx e2 λag aF=>⟨ag,aF,λr a1 e=>(bb r a1).elim (λG=>absurd e G) id,λr a1 e=>(cn r a1).elim (λG=>absurd e G) id⟩
theorem P2:∀{H:List<|Str×r6},H.lookup h=A p->(h,p)∈H|[],c=>d1 c|(M,fG)::D,c=>by rw[r']at c;cases j:h==M with|true=>replace c:=j▸c;cases c;exact l (eq_of_beq j) bm|false=>replace c:=j▸c;exact mt<|P2 c
set_option tactic.hygienic true in theorem Y7(a8:∀r∈a4.names,r.2≠.cell)(c:rx (eI a4 T) M=W):(M,.free)∈a4.names:=by
 have:∃p,(eI a4 T).names.lookup M=A p/\(p=.cell\/p=.free):=(vz c).elim (λe=>dk _ e<|.inl f) λe=>dk _ e<|.inr f;refine bl this λp ag aF=>j2 (P2 ag) λeO a1 j=>?_;obtain⟨s,fG⟩:=eO
 dsimp only at j;split at j
 .rename_i e;cases j;simp only[jU,beq_iff_eq]at e;exact c2 e.1.1 a1
 .cases j;rcases aF with rfl|rfl
  .exact absurd f<|a8 _ a1
  .exact a1
theorem P3(aO:g.Ok)(P:ct g m o O ax Y)(a8:ob a4 m.scope=W)(f9:Y<=aH)(Y8:aH∈bi)(g0:∀b∈o,b∈bi)(g3:∀b∈bi,b<cC)(aG:g.s0.heap.objs.size<=Y)(Y9:∀b∈bi,b∈o\/Y<=b)(iX:∀b∈cw,(Y<=b\/(b∈o/\g.s0.heap.objs.size<=b/\b∉bY m))/\b∈bi/\aH≠b):ct g (ra a4 (hl m a4.names []) aH m) bi cw g.tabs cC:=by
 refine hG (IK a8) λi_ iY sG ry=>?_;have pt:∀r∈hl m a4.names [],r.2∈bY m:=λr a1=>ss<|t7 a4.names [] aP r a1;refine⟨i_,P.2,P.3,λi aX=>?_,λi aX=>have aM:g.s0.heap.objs.size<=i:=(iX i aX).1.elim (λe=>a' aG e) λe=>e.2.1
  ⟨(iX i aX).2.1,aM,λe=>b4 (aO.6 _ e) aM⟩,λi aX=>g0 i<|P.6 i<|P.7 i aX,λi aX=>aX,g3,λi aX=>?_,λh M i b aX n c_=>?_⟩
 .rcases e1.mp aX with rfl|aX
  .exact⟨Y8,a' aG f9,(λe=>(iX _ e).2.2 f),λe=>b4 (aO.6 _ e)<|a' aG f9⟩
  .refine j2 aX λr a1 fE=>c2 fE ?_;have:=P.4 _<|pt r a1;exact⟨g0 _ this.1,this.2.1,(λe=>(iX _ e).1.elim (λG=>b4 (P.8 _ this.1) G) λG=>G.2.2<|pt r a1),λe=>b4 (aO.6 _ e) this.2.1⟩
 .rcases Y9 i aX with e|e
  .exact P.9 i e
  .exact .inr<|a' aG e
 .refine bl (by have:(hl m a4.names []).lookup h=A i:=aX;clear n;generalize hl m a4.names []=H at this;induction H with|nil=>exact d1 this|cons e H a5=>obtain⟨G,k⟩:=e;rw[r']at this;cases j:h==G with|true=>replace this:=j▸this;cases this;exact⟨_,bm,l (eq_of_beq j) f⟩|false=>replace this:=j▸this;refine bl (a5 this) λr ag aF=>?_;exact⟨r,mt ag,aF⟩:∃r∈hl m a4.names [],r=(h,i)) λr a1 j=>?_;refine bl (by have:(hl m a4.names []).lookup M=A b:=n;clear aX a1;generalize hl m a4.names []=H at this;induction H with|nil=>exact d1 this|cons e H a5=>obtain⟨G,k⟩:=e;rw[r']at this;cases j:M==G with|true=>replace this:=j▸this;cases this;exact⟨_,bm,l (eq_of_beq j) f⟩|false=>replace this:=j▸this;refine bl (a5 this) λr ag aF=>?_;exact⟨r,mt ag,aF⟩:∃r∈hl m a4.names [],r=(M,b)) λbR qy cg=>?_;subst j cg;exact P.10 h M i b (t7 a4.names [] aP _ a1) (t7 a4.names [] aP _ qy) c_
theorem P4(P:ct g m o O ax Y)(r:bo g m o O Y C an)(a8:ob a4 m.scope=W)(t:a9 [] [] an a)(f9:an.heap.objs.size<=aH)(ay:a.heap.Ns aH ae)(g3:cC<=a.heap.objs.size)(g0:∀b∈bi,b∈o\/an.heap.get? b=a7)(iX:∀b∈cw,an.heap.objs.size<=b\/∀v,an.heap.get? b=A v->sB v):bo g (ra a4 (hl m a4.names []) aH m) bi cw cC (hA (eI a4 m.scope) C) a:=by
 refine hG (IK a8) λi_ iY sG ry=>iL (r.loose P) λcW aE ag aF bb=>?_;have ig:∀b v,an.heap.get? b=A v->a.heap.get? b=A v:=λb v j=>t.1 b v (λe=>dI e) j;have pt:∀r∈hl m a4.names [],r.2∈bY m:=λr a1=>ss<|t7 a4.names [] aP r a1;refine⟨g3,r.2.to t aP,λM=>if(eI a4 m.scope).names.lookup M=A .local then ae M else cW M,⟨i_,⟨ae,ay,λM a3=>(if_pos a3).symm⟩,λM a3=>?_⟩,λM bt a3=>?_,λM av a3=>?_,λM av a3=>?_⟩
 .have jI:rx (eI a4 m.scope) M=W:=by unfold rx;exact eU (a3) (λa3=>(show(eI a4 m.scope).names.lookup M=A .cell from a3).symm▸f) λa3=>(show(eI a4 m.scope).names.lookup M=A .free from a3).symm▸f
  have be:=Y7 iY jI;have mX:=sG _ be f;have:m.kindOf M=A .cell\/m.kindOf M=A .free:=vz mX;refine bl (aE.3 M this) λi aX gh=>bl gh λv j bF=>⟨i,x8 aX a4.names [] aP<|.inr be,v,ig _ _ j,?_⟩;rw[if_neg]
  .exact bF
  .intro e;rcases a3 with a3|a3<;>(have jI:(eI a4 m.scope).names.lookup M=_:=a3;rw[e]at jI;exact nomatch jI)
 .refine cx (vC a3) λmX gV=>bl gV λlS jI h1=>l h1<|eW (ag M lS jI) λB aL aB aM=>⟨B,?_,?_⟩
  .refine(if_neg ?_).trans aL;intro e;unfold rx at mX;replace mX:=e▸mX;exact jj mX
  .have fV:∀b v,b∉o->an.heap.get? b=A v->a.heap.get? b=A v/\b∉bi:=λb v n j=>⟨ig b v j,λe=>(g0 b e).elim n λG=>by replace j:=G▸j;exact d1 j⟩;cases lS with
   |f av=>exact bV.to fV _ _ aB|o av=>refine bl aB λi j D=>?_;exact⟨i,j,D.to fV λv j=>ig _ v j⟩|b av=>refine bl aB λi j D=>?_;exact⟨i,j,D.to fV λv j=>ig _ v j⟩
 .refine cx (vC a3) λx i8=>bl i8 λlS x j=>?_;cases lS<;>exact nomatch j
 .refine cx (vC a3) λmX jC=>bl jC λlS jI j=>eW (ag M lS jI) λB aL aB aM=>?_;have vD:¬(eI a4 m.scope).names.lookup M=A .local:=by intro e;unfold rx at mX;replace mX:=e▸mX;exact jj mX
  have cV:∀i kw,B=.ref i->lS.loose->jm an.heap o i kw->∃i,(λM=>if(eI a4 m.scope).names.lookup M=A .local then ae M else cW M) M=A (.ref i)/\i∉cw/\i∉bY (ra a4 (hl m a4.names []) aH m):=by
   intro i kw aX dB aJ;have c_:=aJ.some;refine⟨i,(if_neg vD).trans<|aX▸aL,λe=>?_,λe=>?_⟩
   .refine eU (iX _ e) (λG=>?_) λG=>?_
    .exact c_<|fS G
    .cases kw<;>try exact aJ.elim
     .exact fM aJ λV s j x=>(G _ j).1 _ _ f
     .exact(G _ aJ).2 _ f
   refine di e (λe=>?_) λe=>?_
   .exact c_<|e▸fS f9
   .refine j2 e λr a1 lm=>?_;obtain rfl:=lm;exact aM dB _ aX<|pt r a1
  cases lS with
  |f av=>exact nomatch j|o kw=>refine bl aB λi j D=>?_;exact cV i _ j trivial D|b kw=>refine bl aB λi j D=>?_;exact cV i _ j trivial D
theorem Y_:¬fb (hA T C) h (.o B):=λc=>by refine cx (vC c) λx dX=>bl dX λlS x j=>?_;cases lS<;>cases j
def gM:cm->cm->Prop|[],bC=>True|(h,bt)::D,C=>fU C h=A bt/\gM D C
theorem iZ:∀{bP C:cm},bP.map (λr=>fU C r.1)=bP.map (λr=>A r.2)->gM bP C|[],bC,dw=>trivial|bC::dw,ic,c=>⟨(xx c).1,iZ (xx c).2⟩
theorem gM.has:∀{bP C:cm}{h:Str}{bt:Slot},gM bP C->fb bP h bt->fb C h bt
 |[],_,_,_,_,c=>nomatch c|(M,av)::D,C,h,bt,aM,c=>by
  rcases iW c with⟨rfl,rfl⟩|⟨_,c⟩
  .exact mW aM.1
  .exact gM.has aM.2 c
theorem bo.le(r:bo g m o O Y C a)(c:∀h bt,fb bP h bt->fb C h bt):bo g m o O Y bP a:=by exact iL r.3 λcW aE ag aF bb=>⟨r.1,r.2,cW,aE,λh bt X=>ag h bt<|c h bt X,λh B X=>eW (aF h B<|c _ _ X) λi aX j bp=>⟨i,aX,j,λM av a3 bI=>bp M av a3<|c _ _ bI⟩,λh B X=>bb h B<|c _ _ X⟩
noncomputable def P5:bH->Option Str|.Name h bC=>A h|_=>a7
theorem Y'{j:bH}{h:Str}{ao:Prop}(c:P5 j=A h)(p:∀r,j=.Name h r->ao):ao:=by cases j<;>first|exact d1 c|exact p _ (congrArg (Expr.Name · _)<|nz c)
noncomputable def nJ:List bH->Option (List Str)|[]=>A []|j::as=>(P5 j).bind λh=>(nJ as).map (h::·)
theorem IL:∀{as:List bH}{aA:List Str},nJ as=A aA->xX as aA|[],aA,c=>by cases c;exact .nil|j::as,aA,c=>by exact bl (MX.mp c) λh X c=>Y' X λr e=>bl (C5.mp c) λca a3 bK=>e▸bK▸.cons (IL a3)
noncomputable def mZ:List Str->List bd->cm->cm|h::aA,B::V,C=>mZ aA V<|(h,.f B)::C|bC,dw,C=>C
noncomputable def kx(b5:bH)(B:bd)(C:cm):cm:=match b5,B with|.Name h bC,B=>(h,.f B)::C|.Tuple as bC dw,.tup V=>mZ ((nJ as).getD []) V C|bC,dw=>C
def mn(b:Bool)(T:dp)(b5:bH)(B:bd):Prop:=match b5,B with|.Name h _,_=>oR b T h=W|.Tuple as _ _,.tup V=>∃aA,nJ as=A aA/\V.length=aA.length/\aA.all (oR b T)=W|_,_=>False
set_option tactic.hygienic true in theorem IM{L:cm->Prop}{b5:bH}{B:bd}{C:cm}(ag:∀h r,b5=.Name h r->L ((h,.f B)::C))(aF:∀as p r V,b5=.Tuple as p r->L (mZ ((nJ as).getD []) V C))(bb:L C):L (kx b5 B C):=by
 cases b5
 case Name h r=>exact ag h r f
 case Tuple as p r=>
  cases B
  case tup V=>exact aF as p r V f
  all_goals exact bb
 all_goals exact bb
set_option tactic.hygienic true in theorem Za{b:Bool}{T:dp}{b5:bH}{B:bd}(c:mn b T b5 B){ao:Prop}(ag:∀h r,b5=.Name h r->oR b T h=W->ao)(aF:∀as p r V aA,b5=.Tuple as p r->B=.tup V->nJ as=A aA->V.length=aA.length->aA.all (oR b T)=W->ao):ao:=by
 cases b5
 case Name h r=>exact ag h r f c
 case Tuple as p r=>
  cases B
  case tup V=>exact c.elim λaA e=>aF as p r V aA f f e.1 e.2.1 e.2.2
  all_goals exact c.elim
 all_goals exact c.elim
theorem Zb(P:ct g m o O ax Y):∀{as:List bH}{aA:List Str}{V:List bd}{aY:List au}{C:cm}{a:ai},xX as aA->(∀h∈aA,oR b m.scope h=W)->bo g m o O Y C a->bX a.heap o V aY->V.length=aA.length->(∀w,a9 (sF b m) [] a w->bo g m o O Y (mZ aA V C) w->J () w)->I g.prog g.w u (zB ((r5 as m).map (·.2)) aY) J a:=by intro as aA V aY C a ay aJ r aB aM c;induction ay generalizing V aY C a with
 |nil=>cases V with|nil=>exact I.eq (show zB ((r5 [] m).map (·.2)) _=dC ()from(show _=[]from aB)▸f)<|I.pure<|c a (bM.refl ..) r|cons _ _=>cases aM
 |@cons h ak as aA ay a5=>cases V with
  |nil=>cases aM|cons B V=>
    refine dZ aB λg aY e2 eD eN=>l e2 ?_
    .show I _ _ u (holding aY (assign (.Name h ak) m g)>>=λx=>zB ((r5 as m).map (·.2)) aY) J a;refine I.bind<|I.holding<|I.eq (Gs ..)<|I.bind<|I.of<|pY<|vB P r eD (aJ h bm) λan aI cX=>a5 (λM a3=>aJ M<|mt a3) cX (bX.to (λb v n j=>⟨aI.1 b v (λe=>n (P.4 b<|x6 _ e).1) j,n⟩) _ _ eN) (by simpa using aM) λal a6 df=>c al (aI.trans a6) df
theorem vE{b:Bool}{b5:bH}{J:Unit->ai->Prop}(b':u.handled=a7)(P:ct g m o O ax Y)(r:bo g m o O Y C a)(aB:rw b5 a.heap o B aU)(bI:mn b m.scope b5 B)(c:∀w,a9 (sF b m) [] a w->bo g m o O Y (kx b5 B C) w->J () w):I g.prog g.w u (assign b5 m aU) J a:=by
 refine Za bI (λh hn bW bI=>?_) λas p kV V aA bW cR ay aM aJ=>?_
 .subst bW;exact I.eq (Gs ..)<|I.bind<|I.of<|pY<|vB P r aB bI c
 .subst bW cR;refine la aB λca a0 pz j dm cz aB=>l dm ?_;cases j;refine I.bind<|I.of<|pY ?_;unfold unpack;refine cx (Yl (m:=m)<|IL ay) λbW cR=>l bW<|cR.symm▸?_;have cP:pz.size=aA.length:=by have:=aB.length;simp at this;exact oJ [1,-1,-1] [1,1,1] (.e .x .y) [.e .z .y,.e .x .z] f aM this
  refine c2 cP<|I.bind<|I.holding<|kP<|I.of<|MP b' cz λaa br G=>?_;have t:bM [] a {a with heap:=aa}:=bM.heap (y:=a.toks) (λb v x j=>br b v (hS<|dH j) j) G.1;refine Zb P (IL ay) (hU.mp aJ) (r.grow t) (bX.to (λb v n j=>⟨t.1 b v (λc=>dI c) j,n⟩) _ _ aB) aM λw cc bR=>c w ((t.mono (λx c=>dI c) λx c=>c).trans cc) ?_;show bo g m o O Y (mZ ((nJ as).getD []) V C) w;exact l ay bR
def AccAt(c:e0)(o:List aw)(aq:aw)(ca:List bd):Prop:=∃V,c.PlainList aq V/\bX c o ca V.toList
theorem AccAt.to{c aa:e0}{aq:aw}{ca:List bd}{cd:List aw}(p:∀b v,b∉cd->c.get? b=A v->aa.get? b=A v)(dr:∀G∈cd,G∈o)(db:aq∉cd)(D:AccAt c o aq ca):AccAt aa o aq ca:=bl D λV r D=>⟨V,r.at λv j=>p _ v db j,bX.to (λb v n j=>⟨p b v (λe=>n<|dr b e) j,n⟩) _ _ D⟩
def mo(g:d7)(z:Nat)(T:dp)(d3:List k9)(dz:bH)(a4:dp)(ak:Pos)(aC:Nat)(hv:List bH)(C:cm)(vF:List bd):Prop:=∀(u:ch)(m:Env)(o O ax:List aw)(Y:Nat)(aq:aw),eJ z u->m.scope=T->ct g m o O ax Y->aq∈O->(∀h B,¬fb C h (.o B))->∀(ca:List bd)(a:ai),ca.length+vF.length<=cp->bo g m o O Y C a->AccAt a.heap o aq ca->∀J:Unit->ai->Prop,(∀w,a9 [aq,m.locals] [] a w->bo g m o O Y C w->AccAt w.heap o aq (ca++vF)->J () w)->I g.prog g.w u (pv dz d3 a4 ak aC (.ref aq) m hv) J a
def vG(g:d7)(z:Nat)(T:dp)(C:cm)(hv:List bH)(b:Bool):Prop:=match hv with|[]=>b=W|[E]=>ei g z T C E b|_=>False
theorem vG.p_(c:vG g z T C hv b)(ar:eJ z u)(Q:m.scope=T)(P:ct g m o O ax Y)(r:bo g m o O Y C a)(ac:∀w,a9 [] [] a w->J b w):I g.prog g.w u (AF hv m) J a:=by
 unfold vG at c;split at c
 .replace ac:=c▸ac;exact I.pure<|ac a<|bM.refl ..
 .exact c u m o O ax Y ar Q P a J r ac
 .exact c.elim
theorem bo.F5(r:bo g m o O Y C a)(P:ct g m o O ax Y)(dr:∀G∈cd,G∈O)(t:a9 cd ao a w)(jG:∀q∈ao,g.s0.gens.size<=q)(nK:∀h B,¬fb C h (.o B)):bo g m o O Y C w:=by refine iL r.3 λcW aE ag aF bb=>⟨a' r.1 t.2,r.2.toG t (λG U=>(P.5 G<|dr G U).2.1) jG,cW,aE.keeps λb n v j=>t.1 b v (λe=>(P.4 b n).2.2.1<|dr b e) j,λh bt X=>bl (ag h bt X) λB aL D=>⟨B,aL,D.own (cd:=cd) (λG U=>(P.5 G<|dr G U).1) (λe i j c0=>?_) λb v n j=>t.1 b v n j⟩,aF,bb⟩;subst j;cases bt with|f av=>exact e.elim|o av=>exact nK _ _ X|b av=>refine eW (bb h av X) λe9 j c x=>?_;rw[aL]at j;cases j;exact c<|dr _ c0
theorem bo.Xw(r:bo g m o O Y C a)(P:ct g m o O ax Y)(dr:∀G∈cd,G∈O)(t:a9 cd [] a w)(nK:∀h B,¬fb C h (.o B)):bo g m o O Y C w:=r.F5 P dr t aP nK
theorem AccAt.grow(p:∀b v,c.get? b=A v->aa.get? b=A v)(D:AccAt c o aq ca):AccAt aa o aq ca:=D.to (cd:=[]) (λb v x j=>p b v j) aP<|λe=>nomatch e
theorem a9.all(t:a9 [] [] a w):∀b v,a.heap.get? b=A v->w.heap.get? b=A v:=λb v j=>t.1 b v (λe=>nomatch e) j
theorem mo.one(aK:d3[aC+1]?=a7)(ah:vG g z T C hv W)(c:af g z T C dz p B)(a8:p≠.ls:=by decide):mo g z T d3 dz a4 ak aC hv C [B]:=by
 intro u m o O ax Y aq ar Q P db nK ca a U r cb J ac;refine I.bind<|ah.p_ ar Q P r λan aI=>tQ f<|l aK<|I.bind<|(c.gf a8) u m o O ax Y ar Q P an _ (r.grow aI) λM al a6 a3=>bl ((cb.grow aI.all).grow a6.all) λV a1 aB=>?_;have cP:V.size=ca.length:=by simpa using aB.length
 refine dv<|MO a1 (λaa jE dB=>I.pure ?_)<|cP▸a' (hT _ _) U;have IN:a9 [aq] [] al {al with heap:=aa}:=bM.same (y:=al.toks) dB;refine ac _ ((aI.trans a6).mono aP (λx c=>c)|>.trans (IN.mono (λb n=>bc n▸bm) λx c=>c)) (((r.grow aI).grow a6).Xw P (cd:=[aq]) (λG U=>bc U▸db) IN nK) ⟨_,jE,(l Ab ?_)⟩;have fV:∀b v,b∉o->al.heap.get? b=A v->aa.get? b=A v/\b∉o:=λb v n j=>⟨IN.1 b v (λe=>n<|bc e▸((P.5 aq db).1)) j,n⟩;refine bX.append ?_<|bX.to fV _ _ aB;exact⟨M,[],f,bV.to fV _ _ a3,by exact f⟩
theorem mo.skip(ah:vG g z T C hv a2):mo g z T d3 dz a4 ak aC hv C []:=by intro u m o O ax Y aq ar Q P db nK ca a U r cb J ac;exact I.bind<|ah.p_ ar Q P r λan aI=>fY aS<|I.pure<|ac an (aI.mono aP λx c=>c) (r.grow aI) (by refine l (u' ..) ?_;exact cb.grow aI.all)
theorem ct.wide(P:ct g m o O ax Y)(cr:∀b∈aV,Y<=b/\b<cC)(aG:g.s0.heap.objs.size<=Y)(g3:Y<=cC):ct g m (aV++o) (aV++O) ax cC:=⟨(P.1),(P.2),(P.3),(λb n=>⟨bB (P.4 b n).1,(P.4 b n).2.1,λe=>bD e (λe=>b4 (P.8 b (P.4 b n).1) (cr b e).1) (P.4 b n).2.2.1,(P.4 b n).2.2.2⟩),(λb n=>bD n (λe=>⟨bO e,a' aG (cr b e).1,λc0=>b4 (P.8 _<|P.6 _ c0) (cr b e).1⟩) λe=>⟨bB (P.5 b e).1,(P.5 b e).2⟩),(λb n=>bB<|P.6 b n),(P.7),(λb n=>bD n (λe=>(cr b e).2) λe=>cI (P.8 b e) g3),(λb n=>bD n (λe=>.inr<|a' aG (cr b e).1) λe=>P.9 b e),(P.10)⟩
theorem bo.wide(r:bo g m o O Y C a)(t:a9 [] [] a w)(cr:∀b∈aV,a.heap.objs.size<=b):bo g m (aV++o) (aV++O) w.heap.objs.size C w:=by
 refine iL r.3 λcW aE ag aF bb=>?_;have ig:=t.all;refine⟨dD _,r.2.to t aP,cW,aE.keeps λb x v j=>ig b v j,λh bt X=>?_,λh B X=>?_,λh B X=>?_⟩
 .refine bl (ag h bt X) λB aL D=>⟨B,aL,?_⟩;have fV:∀b v,b∉o->a.heap.get? b=A v->w.heap.get? b=A v/\b∉aV++o:=λb v n j=>⟨ig b v j,by refine gq jW<|gq not_or ?_;exact⟨λe=>b4 (dH j)<|cr b e,n⟩⟩;cases bt with
  |f av=>exact bV.to fV _ _ D|o av=>refine bl D λi j D=>?_;exact⟨i,j,D.to fV λv j=>ig _ v j⟩|b av=>refine bl D λi j D=>?_;exact⟨i,j,D.to fV λv j=>ig _ v j⟩
 .exact eW (aF h B X) λi aX j bp=>⟨i,bB aX,j,bp⟩
 .refine eW (bb h B X) λi j dd ee=>⟨i,j,λe=>bD e (λe=>bl (ag h _ X) λhz aL bK=>bl bK λe9 cg D=>?_) dd,ee⟩;rw[j]at aL;cases aL;cases cg;exact b4 D.lt<|cr _ e
theorem lP.sub(D:lP c o bt aU)(Q:∀M∈aW,M∈o):lP c aW bt aU:=by cases bt with|f av=>exact bV.sub D Q|o av=>refine bl D λi j D=>?_;exact⟨i,j,D.sub Q⟩|b av=>refine bl D λi j D=>?_;exact⟨i,j,D.sub Q⟩
theorem bo.narrow(r:bo g m o O Y C a)(cA:∀b∈bi,b∈o)(iX:∀b∈cw,b∈O)(g3:cC<=a.heap.objs.size)(nK:∀h B,¬fb C h (.o B)):bo g m bi cw cC C a:=by exact iL r.3 λcW aE ag aF bb=>⟨g3,r.2,cW,aE,λh bt X=>bl (ag h bt X) λB aL D=>⟨B,aL,D.sub cA⟩,λh B X=>(nK h B X).elim,λh B X=>let⟨i,j,dd,ee⟩:=bb h B X;⟨i,j,λe=>dd<|iX i e,ee⟩⟩
def AllP{bk d0:Type}(L:bk->d0->Prop)(aA:List bk)(ca:List d0):Prop:=aA.length=ca.length/\∀(q:Nat)h M,aA[q]?=A h->ca[q]?=A M->L h M
def t8(b5:bH)(B:bd)(C:cm):Prop:=∀M bt,fb C M bt->fb (kx b5 B C) M bt
theorem P6:∀{aA:List Str}{V:List bd}{C:cm},(∀h B,¬fb C h (.o B))->∀h B,¬fb (mZ aA V C) h (.o B)
 |[],bC,C,c=>c|bC::dw,[],C,c=>c|M::aA,av::V,C,c=>P6 (aA:=aA) (V:=V) (C:=(M,.f av)::C) λh B e=>by
  rcases iW e with⟨_,j⟩|⟨_,e⟩
  .cases j
  .exact c h B e
theorem Zc(c:∀h B,¬fb C h (.o B)):∀h av,¬fb (kx b5 B C) h (.o av):=by
 refine IM (L:=λC=>∀h av,¬fb C h (.o av)) (λM r x h av e=>?_) (λas p r V x=>P6 c) c;rcases iW e with⟨_,j⟩|⟨_,e⟩
 .cases j
 .exact c _ _ e
theorem P7{aC:Nat}{t:k9}{bs:List bd}{dP:List<|List bd}{aq:aw}{ca:List bd}{bT:ai}{aj:aw}{bA aV:List aw}{bU:List Nat}{St:Nat->ai->Prop}{cM:gn->ai->Prop}(aK:d3[aC]?=A t)(aG:t.is_async=0)(ag:t.ifs.length<=1)(aF:∀cc,d3[aC+1]?=A cc->cc.is_async=0)(ar:eJ z u)(Q:m.scope=T)(iX:AllP (λh v=>mn W T t.target h/\t8 t.target h C/\mo g z T d3 dz a4 ak aC t.ifs (kx t.target h C) v) bs dP)(P:ct g m o O ax Y)(db:aq∈O)(nK:∀h B,¬fb C h (.o B))(de:lQ g.prog g.w u t.target o bs bT aj bA aV bU St)(ln:∀q∈bU,g.s0.gens.size<=q)(AS:∀b∈aV,b∈O)(ky:∀b∈bA,b≠aq/\b≠m.locals)(qC:aq∉aV)(r:bo g m o O Y C a)(cb:AccAt a.heap o aq ca)(U:ca.length+dP.flatten.length<=cp)(bQ:a9 [] [] bT a)(st:St 0 a)(iP:∀w,a9 (aV++[aq,m.locals]) bU a w->bo g m o O Y C w->AccAt w.heap o aq (ca++dP.flatten)->cM .next w):d6 g.prog g.w u (.compLoop (.ListComp dz d3 a4 ak) aC (.ref aj) (.ref aq) m) cM a:=by
 have sH:aq∈o:=(P.5 aq db).1;have IP:aq∉bY m:=λe=>(P.4 aq e).2.2.1 db;have t0:∀b∈aV++[aq,m.locals],b∈o:=λb n=>by
  refine bD n (λe=>?_) λe=>?_
  .exact(P.5 b<|AS b e).1
  .rcases e1.mp e with rfl|e
   .exact sH
   .exact(bc e)▸(P.4 _ bm).1
 refine YG aK f aG ag aF de (λq E=>a9 (aV++[aq,m.locals]) bU a E/\bo g m o O Y C E/\AccAt E.heap o aq (ca++(dP.take q).flatten)) ?_ ?_ ⟨bM.refl ..,r,by simpa using cb⟩ st
 .rintro q h qD E B X b8 sI aL oT g1;refine eV b8 λdJ dU dN=>?_;have ah:q<dP.length:=iX.1▸(k_.mp X).1;refine eV (iX.2 q h dP[q] X<|gQ ah) λfq iy jJ=>?_;refine I.bind<|vE ar.1 P (dU.F5 P AS g1 ln nK) (aL o _ (λb n=>⟨cI (P.8 b n) dU.1,.inl n⟩)<|(bQ.mono aP aP).trans<|dJ.mono t0 λx c=>c) (Q▸fq) λhB aI df=>?_;have cP:(ca++(dP.take q).flatten).length+dP[q].length<=sizeLine:=by
   refine a' ?_ U;have j:dP.flatten=(dP.take q).flatten++(dP[q]++(dP.drop<|q+1).flatten):=by
    conv=>lhs;rw[<-va q dP]
    exact l z4<|l (De ah)<|l oF f
   refine l j ?_;simp only[io];exact nx (.l (.a (.a .x .y) .z)<|.a .x<|.a .y<|.a .z .w) [] f
  refine jJ u m o O ax Y aq ar Q P db (Zc nK) _ hB cP df ((dN.to (cd:=aV) (λb v n j=>g1.1 b v n j) (λG U=>(P.5 G<|AS G U).1) qC).to (cd:=[m.locals]) (λb v n j=>aI.1 b v n j) (λG U=>bc U▸(P.4 _ bm).1)<|λe=>IP<|bc e▸bm) _ λoc a6 h3 vH=>⟨⟨?_,h3.le λM bt c=>iy M bt c,?_⟩,?_⟩
  .exact(dJ.trans<|g1.mono (λb n=>bO n) λx c=>c).trans<|(aI.mono (λb n=>bB<|mt n) aP).trans<|a6.mono (λb n=>bB n) aP
  .have j:(dP.take<|q+1).flatten=(dP.take q).flatten++dP[q]:=by refine l xm<|l (gQ ah)<|l z4 ?_;simp
   exact l j<|c2 (tD ..) vH
  .refine de.2 _ _ _ [aq,m.locals] [] oT ((aI.mono (λb n=>mt n) λx c=>c).trans a6) (λb n e=>?_) aP;rcases e1.mp n with rfl|n
   .exact(ky _ e).1 f
   .exact(ky b e).2<|bc n
 .rintro qD E dm g1;refine eV dm λdJ dU dN=>iP E (dJ.trans<|g1.mono (λb n=>bO n) λx c=>c) (dU.F5 P AS g1 ln nK) ?_;have j:dP.take bs.length=dP:=iX.1▸xn;rw[j]at dN;exact dN.to (cd:=aV) (λb v n j=>g1.1 b v n j) (λG U=>(P.5 G<|AS G U).1) qC
theorem ct.up(P:ct g m o O ax Y)(c:Y<=cC):ct g m o O ax cC:=⟨P.1,P.2,P.3,P.4,P.5,P.6,P.7,λi aX=>cI (P.8 i aX) c,P.9,P.10⟩
theorem bo.now(r:bo g m o O Y C a):bo g m o O a.heap.objs.size C a:=⟨dD _,r.2,r.3⟩
def rz(j:bH):Prop:=∀m h,zw j m h=dC h
theorem mo.next(aK:d3[aC+1]?=A t)(aG:t.is_async=0)(ag:t.ifs.length<=1)(aF:∀cc,d3[aC+2]?=A cc->cc.is_async=0)(be:rz t.iter)(ah:vG g z T C hv W)(gL:gx g z T C W t.target t.iter bs)(iX:AllP (λh v=>mn W T t.target h/\t8 t.target h C/\mo g z T d3 dz a4 ak (aC+1) t.ifs (kx t.target h C) v) bs dP):mo g z T d3 dz a4 ak aC hv C dP.flatten:=by
 intro u m o O ax Y aq ar Q P db nK ca a U r cb J ac;refine I.bind<|ah.p_ ar Q P r λan aI=>?_;refine tQ f ?_;refine l (aK ..) ?_;have cX:=(r.grow aI).now;have fs:=P.up (cC:=an.heap.objs.size) (r.grow aI).1;refine I.bind<|gL u m o O ax _ an.gens.size ar Q fs an _ ⟨cX,dD _⟩ λaU al a6 qE=>?_;refine dQ ?_;refine I.eq (l (be ..) f) ?_;refine ea<|d2<|qE _ λaj bT bA aV bU St ba=>?_;have bQ:=ba.3;have AT:an.heap.objs.size<=bT.heap.objs.size:=a' a6.2 bQ.2;have em:∀b∈aV,an.heap.objs.size<=b/\b<bT.heap.objs.size:=λb n=>⟨(ba.4 b n).elim id (λe=>nomatch e),(ba.7 b<|ba.1.1 b n).1⟩;have m0:∀q∈bU,an.gens.size<=q:=λq ah=>(ba.5 q ah).elim id λe=>nomatch e;have vH:AccAt bT.heap (aV++o) aq ca:=by refine bl (cb.grow aI.all) λV a1 aB=>?_;have ig:=(a6.trans bQ).all;exact⟨V,a1.at λv j=>ig _ v j,bX.to (λb v n j=>⟨ig b v j,by refine gq jW<|gq not_or ?_;exact⟨λe=>b4 (dH j) (em b e).1,n⟩⟩) _ _ aB⟩
 have de:lQ g.prog g.w u t.target (aV++o) bs bT aj bA aV bU St:=⟨ba.1.1,ba.1.2,λq h a J X st ac=>ba.1.3 q h a J X st λB w aL oa t=>ac B w (λbi jH g0 qx=>aL bi jH (λb n=>⟨(g0 b n).1,by exact eU ((g0 b n).2) (λe=>bD e (λe=>.inr<|.inl e) .inl) λe=>.inr e⟩) qx) oa t,ba.1.4,ba.1.5,ba.1.6⟩;refine I.bind<|I.runOwn<|Io aK aG (λJ aZ=>ba.1.5 0 bT J ba.2 aZ)<|P7 aK aG ag aF ar Q iX (fs.wide em cX.2.1.2 AT) (bB db) nK de (λq ah=>a' cX.2.1.4<|m0 q ah) (λb n=>bO n) (λb n=>⟨λe=>(ba.7 b n).2<|bO<|e▸db,λe=>(ba.7 b n).2<|bB<|e▸bm⟩) (λe=>b4 (fs.8 aq (P.5 aq db).1) (em aq e).1) (cX.wide (a6.trans bQ)<|λb n=>(em b n).1) vH U (bM.refl ..) ba.2 λw cc bR gy=>I.pure ?_;refine ac w ?_ (bR.narrow (λb n=>bB n) (λb n=>bB n) (a' (a' (r.grow aI).1 AT) cc.2) nK) ⟨gy.choose,gy.choose_spec.1,bX.to (λb v n j=>⟨j,λe=>n<|bB e⟩) _ _ gy.choose_spec.2⟩;exact(((aI.trans a6).trans bQ).mono aP λx c=>c).gR cc (λb n=>bD n (λe=>.inr<|fS<|a' aI.2 (em b e).1) .inl) λq ah=>.inr<|rq<|a' aI.4<|m0 q ah
structure MN(g:d7)(z:Nat)(T:dp)(C:cm)(dz:bH)(t:k9)(bU:List k9)(a4:dp)(ak:Pos)(bs:List bd)(dP:List<|List bd):Prop where
 ok:ob a4 T=W
 h0:t.is_async=0
 ar:t.ifs.length<=1
 aD:∀cc,(t::bU)[1]?=A cc->cc.is_async=0
 hf:rz t.iter
 hq:AllP (λh v=>mn W (eI a4 T) t.target h/\t8 t.target h (hA (eI a4 T) C)/\mo g z (eI a4 T) (t::bU) dz a4 ak 0 t.ifs (kx t.target h<|hA (eI a4 T) C) v) bs dP
 hz:dP.flatten.length<=cp
structure vI(g:d7)(z:Nat)(T:dp)(C:cm)(dz:bH)(t:k9)(bU:List k9)(a4:dp)(ak:Pos)(bs:List bd)(dP:List<|List bd):Prop extends MN g z T C dz t bU a4 ak bs dP where it:gx g z T C a2 t.target t.iter bs
theorem P8(P:ct g m o O ax Y)(r:bo g m o O Y C a)(a8:ob a4 m.scope=W):Iq m a4 (hl m a4.names []):=by refine hG (IK a8) λi_ iY sG ry=>bl r.3 λcW aE x=>⟨IJ λe aZ x9=>?_,i_,iY,ry⟩;have mX:=sG e aZ x9;have:m.kindOf e.1=A .cell\/m.kindOf e.1=A .free:=vz mX;exact bl (aE.3 e.1 this) λi aX x=>⟨i,aX⟩
theorem Zd(aO:g.Ok)(dc:MN g z m.scope C dz t bU a4 ak bs dP)(gL:co g.prog g.w u [] [] m (λE=>bo g m o O a.heap.objs.size C E/\a.gens.size<=E.gens.size/\a9 [] [] a E) t.iter<|λE aU=>x3 g.prog g.w u t.target a.heap.objs.size a.gens.size j5 kT o (pA a2 m O) aU bs E)(x_:∀b∈j5,b∈o/\g.s0.heap.objs.size<=b/\b∉bY m)(IQ:∀q∈kT,g.s0.gens.size<=q)(ar:eJ z u)(P:ct g m o O ax Y)(r:bo g m o O Y C a)(ac:∀aH aq w,(∃ae,w.heap.Ns aH ae)->a9 j5 kT a w->a.heap.objs.size<=aH->a.heap.objs.size<=aq->aH≠aq->aH<w.heap.objs.size->AccAt w.heap (aH::aq::o) aq dP.flatten->AD g.prog g.w u ps J (.ref aq) aH w):I g.prog g.w u (xb (.ListComp dz (t::bU) a4 ak) a4 m (CN (t::bU) ak) (newList []) (zz<|t::bU) (CO (t::bU) m) ps) J a:=by
 refine PI (P8 P r dc.1) dc.2 (λh=>dc.5 m h) ?_;have iV:=r.now;have e3:=P.up (cC:=a.heap.objs.size) r.1;refine gL a _ ⟨iV,dD _,bM.refl ..⟩ λaU an aI qE=>qE _ λaj al bA aV od St ba=>(dk aj f λaq aH cZ jK=>⟨λJ aZ=>ba.1.5 0 cZ J (ba.1.2 0 al cZ [] [] ba.2 jK.3 aP aP) aZ,(eV jK.4 λdb f9 tU=>?_)⟩);have a6:=ba.3;have g_:a.heap.objs.size<=al.heap.objs.size:=a' aI.2 a6.2;have AU:al.heap.objs.size<=cZ.heap.objs.size:=jK.3.2;have em:∀b∈aV,(a.heap.objs.size<=b\/b∈j5)/\b<al.heap.objs.size:=λb n=>⟨ba.4 b n,(ba.7 b<|ba.1.1 b n).1⟩;have df:=iV.grow<|aI.trans a6--qe frame inside
 have g0:∀b∈aH::aq::(aV++o),b∈o\/a.heap.objs.size<=b:=λb n=>by
  refine di n (λj=>?_) λn=>?_
  .exact .inr<|j▸a' g_ f9
  refine di n (λj=>?_) λn=>?_
  .exact .inr<|j▸a' g_ db
  exact bD n (λe=>(em b e).1.elim .inr λG=>.inl (x_ b G).1) λe=>.inl e
 have AV:∀b∈aH::aq::(aV++o),b<cZ.heap.objs.size:=λb n=>by
  refine di n (λj=>?_) λn=>?_
  .exact j▸jK.5.2
  refine di n (λj=>?_) λn=>?_
  .exact j▸jK.5.1
  exact bD n (λe=>cI (em b e).2 AU) λe=>cI (e3.8 b e)<|a' g_ AU
 have IR:∀b∈aV++[aq],(a.heap.objs.size<=b\/(b∈o/\g.s0.heap.objs.size<=b/\b∉bY m))/\b∈aH::aq::(aV++o)/\aH≠b:=λb n=>by
  refine bD n (λe=>?_) λe=>?_
  .exact⟨(em b e).1.imp id<|x_ b,mt<|mt<|bO e,λj=>b4 (em b e).2<|j▸f9⟩
  .exact l (bc e)<|⟨.inl<|a' g_ db,mt bm,ip tU⟩
 have IS:ct g (ra a4 (hl m a4.names []) aH m) (aH::aq::(aV++o)) (aV++[aq]) g.tabs cZ.heap.objs.size:=P3 aO e3 dc.1 (a' g_ f9) bm (λb n=>mt<|mt<|bB n) AV iV.2.1.2 g0 IR;have lp:a9 [] [] a cZ:=(aI.trans a6).trans jK.3;have AW:bo g (ra a4 (hl m a4.names []) aH m) (aH::aq::(aV++o)) (aV++[aq]) cZ.heap.objs.size (hA (eI a4 m.scope) C) cZ:=P4 e3 iV dc.1 lp (a' g_ f9) jK.2 (dD _) (λb n=>(g0 b n).imp id fS) λb n=>bD n (λe=>.inr λv j=>ba.1.6 0 al b v ba.2 e<|(aI.trans a6).all b v j) λe=>.inl<|bc e▸a' g_ db;have cb:AccAt cZ.heap (aH::aq::(aV++o)) aq []:=⟨#[],jK.1,by show bX _ _ [] [];exact f⟩;have de:lQ g.prog g.w u t.target (aH::aq::(aV++o)) bs al aj bA aV od St:=⟨ba.1.1,ba.1.2,λq h a J X st ac=>ba.1.3 q h a J X st λB w aL oa t=>ac B w (λbi jH g0 qx=>aL bi jH (λb n=>⟨(g0 b n).1,by
  rcases(g0 b n).2 with e|e
  .refine di e (λj=>?_) λe=>?_
   .exact .inr<|.inr<|j▸f9
   exact di e (λj=>.inr<|.inr<|j▸db) λe=>bD e (λe=>.inr<|.inl e) .inl
  .exact .inr e⟩) qx) oa t,ba.1.4,ba.1.5,ba.1.6⟩;have ky:∀b∈bA,b≠aq/\b≠aH:=λb n=>⟨λe=>b4 (ba.7 b n).1<|e▸db,λe=>b4 (ba.7 b n).1<|e▸f9⟩;have U:([]:List bd).length+dP.flatten.length<=sizeLine:=by simpa using dc.7
 refine P7 (g:=g) (z:=z) (T:=eI a4 m.scope) (C:=hA (eI a4 m.scope) C) (ax:=g.tabs) (t:=t) (bs:=bs) (dP:=dP) (ca:=[]) (bT:=al) (bA:=bA) (aV:=aV) (St:=St) f dc.2 dc.3 dc.4 ar f dc.6 IS (bB bm) (λh B=>Y_) de (λq ah=>(ba.5 q ah).elim (λe=>a' iV.2.1.4 e)<|IQ q) (λb n=>bO n) ky (λe=>b4 (em aq e).2 db) AW cb U jK.3 (ba.1.2 0 al cZ [] [] ba.2 jK.3 aP aP) λw cc bR gy=>gc λx dA=>bl bR.3 λcW aE x=>bl aE.2 λae bw x=>dA<|ac aH aq w (gD ae bw) ?_ (a' g_ f9) (a' g_ db) (ip tU) (cI jK.5.2 cc.2) ?_
 .refine(lp.mono aP aP).gR cc (λb n=>bD n (λe=>?_) λe=>?_) λq ah=>(ba.5 q ah).elim (λe=>.inr<|rq e) .inl
  .exact(em b e).1.elim (λG=>.inr<|fS G) .inl
  .exact di e (λj=>.inr<|fS<|j▸a' g_ db) λe=>.inr<|fS<|(bc e)▸a' g_ f9
 .refine bl gy λV a1 aB=>?_;have lM:∀b∈aH::aq::o,b∈aH::aq::(aV++o):=λb e=>by
   refine di e (λj=>?_) λe=>?_
   .exact l j bm
   refine di e (λj=>?_) λe=>?_
   .exact l j<|mt bm
   .exact mt<|mt<|bB e
  exact⟨V,a1,bX.to (λb v n j=>⟨j,λe=>n<|lM b e⟩) _ _ (by simpa using aB)⟩
theorem P9(aO:g.Ok)(dc:vI g z m.scope C dz t bU a4 ak bs dP)(ar:eJ z u)(P:ct g m o O ax Y)(r:bo g m o O Y C a)(ac:∀aH aq w,(∃ae,w.heap.Ns aH ae)->a9 [] [] a w->a.heap.objs.size<=aH->a.heap.objs.size<=aq->aH≠aq->aH<w.heap.objs.size->AccAt w.heap (aH::aq::o) aq dP.flatten->AD g.prog g.w u ps J (.ref aq) aH w):I g.prog g.w u (xb (.ListComp dz (t::bU) a4 ak) a4 m (CN (t::bU) ak) (newList []) (zz<|t::bU) (CO (t::bU) m) ps) J a:=Zd aO dc.toMN (co.weak (dc.it u m o O ax _ a.gens.size ar f<|P.up r.1) λE e=>⟨e.1,e.2.1⟩) aP aP ar P r ac
theorem AccAt.obj{aH aq:aw}{w:ai}{aa:e0}{ca:List bd}(c:AccAt w.heap (aH::aq::o) aq ca)(t9:aH≠aq)(Q:hV aH w.heap aa):jm aa (aq::o) aq (.lst ca):=by refine bl c λV bK aB=>cJ bK λs j=>⟨V,s,(Q.2 aq<|ip t9).trans j,bX.to (λb v n j=>⟨(Q.2 b λe=>n<|e▸G5).trans j,λe=>n<|zW _ e⟩) _ _ aB⟩
theorem af.comp(aO:g.Ok)(dc:vI g z T C dz t bU a4 ak bs dP):af g z T C (.ListComp dz (t::bU) a4 ak) .fr (.lst dP.flatten):=λu m o O ax Y ar Q P a J r ac=>by subst Q;exact I.eq (eval_ListComp ..)<|P9 aO dc ar P r λaH aq w bw g' f9 db t9 IT ja=>cJ bw λae bw=>⟨ae,bw,λaa dB=>ac _ _ (g'.gR (bM.same (y:=w.toks) dB) (λb n=>.inr<|bc n▸fS f9) aP) ⟨aq,f,a' r.1 db,ja.obj t9 dB⟩⟩
inductive lq where|next|brk|cont|ret(B:bd)
def Eb(g:d7)(m:Env)(o O ax:List aw)(Y:Nat)(C:cm):lq->gn->ai->Prop|.next,R,a=>R=.next/\ct g m o O ax Y/\bo g m o O Y C a|.brk,R,a=>R=.brk/\ct g m o O ax Y/\bo g m o O Y C a|.cont,R,a=>R=.cont/\ct g m o O ax Y/\bo g m o O Y C a|.ret B,R,a=>∃aU,R=.ret aU/\bV a.heap ax B aU
inductive fP(a0:List aw)(m:Env)(o O bi cw:List aw)(a w:ai):Prop|mk(fQ:∀b∈o,b∈bi)(fR:∀b∈bi,b∈o\/a.heap.objs.size<=b)(gs:∀b∈cw,b∈O\/a.heap.objs.size<=b)(i7:a9 (O++bY m++a0) [] a w):fP a0 m o O bi cw a w
theorem fP.refl(a:ai):fP a0 m o O o O a a:=⟨λx c=>c,λx c=>.inl c,λx c=>.inl c,bM.refl ..⟩
theorem fP.trans(i:fP a0 m o O cD h6 a an)(b:fP a0 m cD h6 lr mp an al):fP a0 m o O lr mp a al:=by
 refine⟨λM c=>b.1 M<|i.1 M c,λM c=>(b.2 M c).elim (i.2 M) λe=>.inr<|a' i.4.2 e,λM c=>(b.3 M c).elim (i.3 M) λe=>.inr<|a' i.4.2 e,i.4.gR b.4 (λM a3=>bD a3 (λa3=>?_) λa3=>?_) aP⟩
 .exact bD a3 (λa3=>(i.3 M a3).elim (λe=>.inl<|tA _<|tA _ e) λe=>.inr<|fS e) λa3=>.inl<|tA _<|xl _ a3
 .exact .inl<|xl _ a3
inductive vJ(g:d7)(a0:List aw)(m:Env)(o O ax:List aw)(cv:lq->cm->Prop)(a:ai)(R:gn)(w:ai):Prop|mk(cN:lq)(bP:cm)(bi cw:List aw)(cC:Nat)(ag:cv cN bP)(aF:fp g w)(bb:fP a0 m o O bi cw a w)(cn:Eb g m bi cw ax cC bP cN R w):vJ g a0 m o O ax cv a R w
theorem vJ.gi{cv:lq->cm->Prop}{R:gn}{w:ai}{ao:Prop}(c:vJ g a0 m o O ax cv a R w)(p:∀cN bP bi cw cC,cv cN bP->fp g w->fP a0 m o O bi cw a w->Eb g m bi cw ax cC bP cN R w->ao):ao:=c.casesOn p
def bE(g:d7)(z:Nat)(T:dp)(a0:List aw)(C:cm)(st:List eS)(cv:lq->cm->Prop):Prop:=∀(u:ch)(m:Env)(o O ax:List aw)(Y:Nat)(a:ai),eJ z u->m.scope=T->ct g m o O ax Y->bo g m o O Y C a->I g.prog g.w u (dG st m) (vJ g a0 m o O ax cv a) a
theorem vJ.trans{cD h6:List aw}{an al:ai}{cv:lq->cm->Prop}{R:gn}(i:fP a0 m o O cD h6 a an)(b:vJ g a0 m cD h6 ax cv an R al):vJ g a0 m o O ax cv a R al:=b.gi λcN bP bi cw cC ag aF bb cn=>⟨cN,bP,bi,cw,cC,ag,aF,i.trans bb,cn⟩
namespace bE
theorem nil(c:cv .next C):bE g z T a0 C [] cv:=λu m o O ax Y a ar Q P r=>by exact I.eq (uW ..)<|I.pure ⟨.next,C,o,O,Y,c,r.2,fP.refl a,f,P,r⟩
theorem le(aM:gM bP C)(c:bE g z T a0 bP b_ cv):bE g z T a0 C b_ cv:=λu m o O ax Y a ar Q P r=>c u m o O ax Y a ar Q P<|r.le λh bt e=>aM.has e
end bE
theorem fP.inside(t:a9 (bY m) [] a an):fP a0 m o O o O a an:=⟨λx c=>c,λx c=>.inl c,λx c=>.inl c,t.mono (λb n=>bO<|bB n) λx c=>c⟩
theorem fP.Gb(t:a9 [] [] a an):fP a0 m o O o O a an:=fP.inside<|t.mono aP λx c=>c
theorem x'{st:eS}{t':cm}(c:bE g z T a0 t' b_ cv)(ag:∀(u:ch)(m:Env)(o O ax:List aw)(Y:Nat)(a:ai),eJ z u->m.scope=T->ct g m o O ax Y->bo g m o O Y C a->I g.prog g.w u (exec st m) (λR an=>R=.next/\∃cD h6 eb,fP a0 m o O cD h6 a an/\ct g m cD h6 ax eb/\bo g m cD h6 eb t' an) a):bE g z T a0 C (st::b_) cv:=λu m o O ax Y a ar Q P r=>by refine AC<|I.mono (ag u m o O ax Y a ar Q P r) ?_;rintro R an b8;exact cx b8 λdm dX=>iM dX λcD h6 eb c6 fs cX=>l dm<|⟨f,I.mono (c u m cD h6 ax eb an ar Q fs cX) λR w aa=>aa.trans c6⟩
namespace bE
theorem assign(br:af g z T C j p B)(X:kU T h=W)(c:bE g z T a0 ((h,.f B)::C) b_ cv)(a8:p≠.ls:=by decide)(pD:∀m:Env,m.scope=T->w' j (A<|.Name h dO) ak.line m=dC a2:=by exact λx x=>tT f):bE g z T a0 C (.Assign [.Name h dO] j ak::b_) cv:=x' c λu m o O ax Y a ar Q P r=>by exact I.eq (CZ (hs:=pD m Q) ..)<|dQ<|I.bind<|(br.gf a8) u m o O ax Y ar Q P a _ r λaU an aI f2=>dQ<|I.bind<|vB (b:=a2) P (r.grow aI) f2 (Q▸X) λal a6 df=>I.pure ⟨f,(DJ o O Y (fP.inside<|(aI.mono aP λx c=>c).trans a6) P df)⟩
theorem B6(br:af g z T C j .fr B)(X:kU T h=W)(c:bE g z T a0 ((h,.o B)::C) b_ cv)(pD:∀m:Env,m.scope=T->w' j (A<|.Name h dO) ak.line m=dC a2:=by exact λx x=>tT f):bE g z T a0 C (.Assign [.Name h dO] j ak::b_) cv:=x' c λu m o O ax Y a ar Q P r=>by refine I.eq (CZ (hs:=pD m Q) ..)<|dQ ?_;have iV:=r.now;have e3:=P.up (cC:=a.heap.objs.size) r.1;exact I.bind<|br u m o O ax _ ar Q e3 a _ iV λaU an aI f2=>eW f2 λi fE aX aJ=>l fE<|dQ<|I.bind<|Y6 e3 iV aI aX aJ (Q▸X) λal a6 df=>I.pure ⟨f,(DJ (i::o) (i::O) _ (⟨λb n=>mt n,λb n=>di n (λe=>.inr<|e▸aX) .inl,λb n=>di n (λe=>.inr<|e▸aX) .inl,((aI.mono aP λx c=>c).trans a6).mono (λb n=>bO<|bB n) λx c=>c⟩) (e3.more aX (cI aJ.lt a6.2) r.2.1.2) df)⟩
theorem ret(br:af g z T C j p B)(c:cv (.ret B) C)(a8:p≠.ls:=by decide):bE g z T a0 C (.Return (A j) ak::b_) cv:=λu m o O ax Y a ar Q P r=>by exact X_ r ((br.gf a8) u m o O ax Y ar Q P) λaU w t aL=>⟨.ret B,C,o,O,Y,c,(r.grow t).2,fP.Gb t,aU,f,bV.sub aL P.6⟩
theorem Xz(aK:fU C h=A (.o B))(X:g9 T h=W)(c:cv (.ret B) C):bE g z T a0 C (.Return (A<|.Name h dO) ak::b_) cv:=λu m o O ax Y a ar Q P r=>by refine gc λx dA=>?_;subst Q;refine eV (x1 X) λag aF bb=>dA<|I.eq (l (pa ..)<|l (Gt ..) f)<|I.bind<|dQ<|gc λx dA=>iL r.3 λcW aE dd ee i'=>bl (dd _ _<|mW aK) λaU hy eO=>bl eO λe9 j aB=>eW (ee _ _<|mW aK) λi aX pB x=>?_;subst j;rw[hy]at pB;cases pB;refine dA<|I.eq (l (Gp ..) f)<|I.bind<|dQ ?_;refine fY (by refine l bb ?_;decide) ?_;exact DZ aE (D9 ag) hy aF<|I.pure<|I.pure<|⟨.ret B,C,o,O,Y,c,r.2,fP.refl a,_,f,((aB.sub P.6).rep (P.5 _ aX).2.2)⟩
end bE
theorem bo.yZ(r:bo g m o O Y C a)(cA:∀G∈cd,G∈o)(aJ:∀G∈cd,G∉bY m)(aG:∀G∈cd,g.s0.heap.objs.size<=G)(jG:∀q∈ao,g.s0.gens.size<=q)(a8:∀b v,b∈cd->a.heap.get? b=A v->sB v)(t:a9 cd ao a w):bo g m o O Y C w:=by
 refine iL r.3 λcW aE ag aF bb=>⟨a' r.1 t.2,r.2.toG t aG jG,cW,aE.keeps λb n v j=>t.1 b v (λe=>aJ b e n) j,λh bt X=>bl (ag h bt X) λB aL D=>?_,aF,bb⟩;have cV:∀av i,jm a.heap o i av->i∉cd:=λav i D e=>by
  cases av<;>try exact D.elim
  .exact fM D λV s j x=>(a8 i _ e j).1 _ _ f
  .exact(a8 i _ e D).2 _ f
 refine⟨B,aL,D.own (cd:=cd) cA (λe i j=>?_) λb v n j=>t.1 b v n j⟩;subst j;cases bt with
 |f av=>exact e.elim|o av=>refine bl D λe9 j D=>?_;cases j;exact cV av _ D|b av=>refine bl D λe9 j D=>?_;cases j;exact cV av _ D
theorem ct.n7(P:ct g m o O ax Y)(cr:∀b∈aV,Y<=b/\b<cC)(aG:g.s0.heap.objs.size<=Y)(g3:Y<=cC):ct g m (aV++o) O ax cC:=⟨(P.1),(P.2),(P.3),(λb n=>⟨bB (P.4 b n).1,(P.4 b n).2⟩),(λb n=>⟨bB (P.5 b n).1,(P.5 b n).2⟩),(λb n=>bB<|P.6 b n),(P.7),(λb n=>bD n (λe=>(cr b e).2) λe=>cI (P.8 b e) g3),(λb n=>bD n (λe=>.inr<|a' aG (cr b e).1) λe=>P.9 b e),(P.10)⟩
theorem bo.n7(r:bo g m o O Y C a)(t:a9 [] [] a w)(cr:∀b∈aV,a.heap.objs.size<=b):bo g m (aV++o) O w.heap.objs.size C w:=by refine iL r.3 λcW aE ag aF bb=>?_;have ig:=t.all;refine⟨dD _,r.2.to t aP,cW,aE.keeps λb x v j=>ig b v j,λh bt X=>bl (ag h bt X) λB aL D=>⟨B,aL,?_⟩,aF,bb⟩;have fV:∀b v,b∉o->a.heap.get? b=A v->w.heap.get? b=A v/\b∉aV++o:=λb v n j=>⟨ig b v j,by refine gq jW<|gq not_or ?_;exact⟨λe=>b4 (dH j)<|cr b e,n⟩⟩;cases bt with|f av=>exact bV.to fV _ _ D|o av=>refine bl D λi j D=>?_;exact⟨i,j,D.to fV λv j=>ig _ v j⟩|b av=>refine bl D λi j D=>?_;exact⟨i,j,D.to fV λv j=>ig _ v j⟩
namespace bE
theorem n8(bI:ei g z T C E b)(c:bE g z T a0 C (bif b then vv else vw)<|λcN bP=>match cN with|.next=>bE g z T a0 bP b_ cv|cN=>cv cN bP):bE g z T a0 C (.If E vv vw ak::b_) cv:=λu m o O ax Y a ar Q P r=>by refine PF r (bI u m o O ax Y ar Q P) λan aI=>I.mono (c u m o O ax Y an ar Q P<|r.grow aI) ?_;rintro R al e;refine e.gi λcN bP bi cw cC a1 n c6 br=>?_;have qF:=(fP.Gb (a0:=a0) (m:=m) (o:=o) (O:=O) aI).trans c6;cases cN with|next=>obtain⟨rfl,eB,bR⟩:=br;exact .inl ⟨f,I.mono (a1 u m bi cw ax cC al ar Q eB bR) λR w aa=>aa.trans qF⟩|brk=>obtain⟨rfl,br⟩:=br;exact .inr ⟨(λe=>nomatch e),.brk,bP,bi,cw,cC,a1,n,qF,f,br⟩|cont=>obtain⟨rfl,br⟩:=br;exact .inr ⟨(λe=>nomatch e),.cont,bP,bi,cw,cC,a1,n,qF,f,br⟩|ret B=>obtain⟨aU,rfl,br⟩:=br;exact .inr ⟨(λe=>nomatch e),.ret B,bP,bi,cw,cC,a1,n,qF,aU,f,br⟩
theorem XA(af:Nat->cm->Prop)(mh:∀s C,af s C->∃b,ei g z T C E b/\(b=W->bE g z T a0 C el (λcN bP=>(match cN with|.next|.cont=>True|_=>False)/\∃ae,ae<s/\af ae bP))/\(b=a2->bE g z T a0 C b_ cv))(s:Nat)(c:af s C):bE g z T a0 C (.While E el [] ak::b_) cv:=λu m o O ax Y a ar Q P r=>by refine Ym (λs w=>∃bP bi cw cC,af s bP/\fP a0 m o O bi cw a w/\ct g m bi cw ax cC/\bo g m bi cw cC bP w) ?_ s<|Wx C o O Y c (fP.refl a) P r;rintro s an⟨bP,bi,cw,cC,fx,c6,eB,bR⟩;refine eW (mh s bP fx) λb bI cz gN=>bI u m bi cw ax cC ar Q eB an _ bR λal a6=>?_;have IU:=c6.trans<|fP.Gb (a0:=a0) (m:=m) (o:=bi) (O:=cw) a6;cases b with
 |true=>refine .inl ⟨f,I.mono (cz f u m bi cw ax cC al ar Q eB<|bR.grow a6) ?_⟩;rintro R bT e;refine e.gi λcN AX m1 sJ ua e n sK br=>cx e λP_ e=>bl e λae bw c4=>?_;cases cN with
  |next=>obtain⟨rfl,br⟩:=br;exact⟨.inl f,(dk ae bw<|OK AX m1 sJ ua c4 (IU.trans sK) br)⟩|cont=>obtain⟨rfl,br⟩:=br;exact⟨.inr f,(dk ae bw<|OK AX m1 sJ ua c4 (IU.trans sK) br)⟩|brk=>exact P_.elim|ret B=>exact P_.elim
 |false=>exact .inr ⟨f,I.mono (gN f u m bi cw ax cC al ar Q eB<|bR.grow a6) λR w aa=>aa.trans IU⟩
theorem qf(af:Nat->cm->Prop)(be:rz ht)(gL:gx g z T C W b5 ht bs)(mh:∀q h bP,bs[q]?=A h->af q bP->mn a2 T b5 h/\bE g z T [] (kx b5 h bP) el (λcN vK=>match cN with
   |.next|.cont=>af (q+1) vK|.brk=>bE g z T a0 vK b_ cv|.ret B=>cv (.ret B) vK))(aG:af 0 C)(sC:∀bP,af bs.length bP->bE g z T a0 bP b_ cv):bE g z T a0 C (.For b5 ht el [] ak::b_) cv:=λu m o O ax Y a ar Q P r=>by
 refine PL (λh=>be m h) ?_;have iV:=r.now;have e3:=P.up (cC:=a.heap.objs.size) r.1;have gW:g.s0.heap.objs.size<=a.heap.objs.size:=r.2.1.2;refine gL u m o O ax _ a.gens.size ar Q e3 a _ ⟨iV,dD _⟩ λaU an aI qE=>qE _ λaj al bA aV bU St ba=>(dk aj f ?_);have a6:=ba.3;have g_:a.heap.objs.size<=al.heap.objs.size:=a' aI.2 a6.2;have em:∀b∈aV,a.heap.objs.size<=b/\b<al.heap.objs.size:=λb n=>⟨(ba.4 b n).elim id<|λe=>dI e,(ba.7 b<|ba.1.1 b n).1⟩;have m0:∀q∈bU,a.gens.size<=q:=λq ah=>(ba.5 q ah).elim id λe=>dI e;have AY:∀q∈bU,g.s0.gens.size<=q:=λq ah=>a' r.2.1.4<|m0 q ah;have df:=iV.n7 (aI.trans a6)<|λb n=>(em b n).1;have AZ:∀b∈aV,b∉bY m:=λb n e=>b4 (e3.8 b (e3.4 b e).1) (em b n).1;have IV:∀b∈aV++(O++bY m),b∈aV++o:=λb n=>bD n (λe=>bO e) λe=>bB<|bD e (λe=>(e3.5 b e).1) λe=>(e3.4 b e).1--from qe start to a state of qe loop
 have vL:∀{bi cw:List aw}{E:ai},(∀b∈aV++o,b∈bi)->(∀b∈bi,b∈aV++o\/al.heap.objs.size<=b)->(∀b∈cw,b∈O\/al.heap.objs.size<=b)->a9 (aV++(O++bY m)) bU al E->fP a0 m o O bi cw a E:=by intro bi cw E dJ dU dN eK;exact⟨λb n=>dJ b<|bB n,λb n=>(dU b n).elim (λe=>bD e (λe=>.inr (em b e).1) .inl) λe=>.inr<|a' g_ e,λb n=>(dN b n).elim .inl λe=>.inr<|a' g_ e,(((aI.trans a6).mono (λx c=>dI c) λx c=>c).gR eK (λb n=>bD n (λe=>.inr<|fS (em b e).1) λe=>.inl<|bO e) λq ah=>.inr<|rq<|m0 q ah)⟩
 refine PQ ba.1 (λq E=>∃bP bi cw cC,af q bP/\(∀b∈aV++o,b∈bi)/\(∀b∈bi,b∈aV++o\/al.heap.objs.size<=b)/\(∀b∈cw,b∈O\/al.heap.objs.size<=b)/\a9 (aV++(O++bY m)) bU al E/\ct g m bi cw ax cC/\bo g m bi cw cC bP E) ?_ ?_ (HM C (aV++o) O _ aG (λx c=>c) (λx c=>.inl c) (λx c=>.inl c) (bM.refl ..) (e3.n7 em gW g_) df) ba.2
 .rintro q h qD E B X jC sI aL oT g1;refine DF jC λbP bi cw cC da dJ dU dN eK eB bR=>?_;have cX:bo g m bi cw cC bP E:=bR.yZ (cd:=aV) (λG U=>dJ G<|bO U) AZ (λG U=>a' gW (em G U).1) AY (λb v n j=>ba.1.6 q qD b v sI n j) g1;refine cx (mh q h bP X da) λbI iU=>I.bind<|vE (b:=a2) ar.1 eB cX (aL bi _ (λb n=>⟨cI (eB.8 b n) bR.1,(dU b n).elim (λe=>bD e (λe=>.inr<|.inl e) .inl) λe=>.inr<|.inr e⟩)<|eK.mono (λb n=>dJ b<|IV b n) λx c=>c) (Q▸bI) λhB sL df=>I.mono (iU u m bi cw ax cC hB ar Q eB df) ?_;rintro R oc mm;refine mm.gi λcN nL lr mp oU a1 n c6 br=>?_;have fq:∀b∈aV++o,b∈lr:=λb n=>c6.1 b<|dJ b n;have ya:al.heap.objs.size<=hB.heap.objs.size:=a' eK.2<|a' g1.2 sL.2;have iy:∀b∈lr,b∈aV++o\/al.heap.objs.size<=b:=λb n=>(c6.2 b n).elim (dU b) λe=>.inr<|a' ya e;have jJ:∀b∈mp,b∈O\/al.heap.objs.size<=b:=λb n=>(c6.3 b n).elim (dN b) λe=>.inr<|a' ya e;have P':a9 (cw++bY m) [] hB oc:=c6.4.mono (λb n=>by simpa using n) λx c=>c;have qG:a9 (aV++(O++bY m)) bU al oc:=by exact((eK.trans<|g1.mono (λb n=>bO n) λx c=>c).trans<|sL.mono (λb n=>bB<|bB n) λx c=>dI c).gR P' (λb n=>bD n (λe=>(dN b e).elim (λe=>.inl<|bB<|bO e) λe=>.inr<|fS e) λe=>.inl<|bB<|bB e) λx c=>dI c
  have yb:St (q+1) oc:=by
   refine ba.1.2 _ _ _ (cw++bY m) [] oT ((sL.mono (λb n=>bB n) λx c=>c).trans P') (λb n e=>bD n (λn=>?_) λn=>?_)<|λx c=>dI c
   .rcases dN b n with G|G
    .exact(ba.7 b e).2<|bO G
    .exact b4 (ba.7 b e).1 G
   .exact(ba.7 b e).2<|bB n
  cases cN with
  |next=>refine eV br λsM qH oe=>?_;exact l sM<|⟨(HM nL lr mp oU a1 fq iy jJ qG qH oe),yb⟩|cont=>refine eV br λqv qH oe=>?_;exact l qv<|⟨(HM nL lr mp oU a1 fq iy jJ qG qH oe),yb⟩|brk=>exact eV br λqw qH oe=>l qw<|.inl ⟨f,I.mono (a1 u m lr mp ax oU oc ar Q qH oe) λR w aa=>aa.trans<|vL fq iy jJ qG⟩|ret B=>exact bl br λaU sz aB=>l sz<|.inr ⟨aU,f,.ret B,nL,lr,mp,oU,a1,n,vL fq iy jJ qG,aU,f,aB⟩
 .rintro qD E sA sI g1;refine DF sA λbP bi cw cC da dJ dU dN eK eB bR=>?_;have cX:bo g m bi cw cC bP E:=bR.yZ (cd:=aV) (λG U=>dJ G<|bO U) AZ (λG U=>a' gW (em G U).1) AY (λb v n j=>ba.1.6 _ qD b v sI n j) g1;exact .inl ⟨f,I.mono (sC bP da u m bi cw ax cC E ar Q eB cX) λR w aa=>aa.trans<|vL dJ dU dN<|eK.trans<|g1.mono (λb n=>bO n) λx c=>c⟩
theorem unpack(br:af g z T C j .b2<|.tup V)(ay:nJ as=A aA)(aM:V.length=aA.length)(aJ:aA.all (kU T)=W)(c:bE g z T a0 (mZ aA V C) b_ cv)(Q:∀m:Env,zC [.Tuple as s kV] j ak.line m=dC a2:=by exact λx=>f)(cr:∀m:Env,zD [.Tuple as s kV] j m=dC a7:=by exact λx=>f):bE g z T a0 C (.Assign [.Tuple as s kV] j ak::b_) cv:=x' c λu m o O ax Y a ar li P r=>by
 refine I.eq (Hu ..) ?_;refine dQ ?_;refine I.eq (l (Q ..) f) ?_;refine ea ?_;refine fY aS ?_;refine I.bind<|br u m o O ax Y ar li P a _ r λaU an aI f2=>?_;refine I.eq (l (cr ..) f) ?_;refine ea ?_;refine I.eq (l (show(r5 [Du as s kV] m)=[(a2,zE (.Tuple as s kV) m)]from f) f) ?_;refine I.bind ?_;have D:rw (.Tuple as s kV) an.heap o (.tup V) aU:=by refine la f2 λi fD ae lm x aK aB=>l lm ?_;exact⟨V,i,fD,f,f,⟨_,aK,f,ae,f⟩,aB⟩
 refine vE (b:=a2) ar.1 P (r.grow aI) D (li▸⟨aA,ay,aM,aJ⟩) λal a6 df=>I.pure ⟨f,o,O,Y,?_,P,?_⟩
 .exact fP.inside<|(aI.mono aP λx c=>c).trans a6
 .have oe:bo g m o O Y (mZ ((nJ as).getD []) V C) al:=df;rw[ay]at oe;exact oe
end bE
section
section
variable{prog:cL}{k:ck}{u:ch}{a:ai}
theorem Ze{H:aw}{bs:Array au}{s:Nat}{p:Int}{E:Tok}{B:au}{J:Unit->ai->Prop}(aJ:a.heap.get? H=A {cls:=.type "list",data:=.seq bs s})(aG:0<=p)(ia:p<2^63)(ay:p<bs.size)(ac:∀aa j8,aa.get? H=A {cls:=.type "list",data:=.seq (bs.setIfInBounds p.toNat B) j8}->hV H a.heap aa->J () {a with heap:=aa}):cj (cG prog k) u (w8 (.ref H) (.int p E) B) J aN a:=by
 have aM:a.heap.IsList H bs:=⟨_,aJ,f,s,f⟩;unfold w8;try with_reducible refine kH ?_
 first|refine bg (cu ?_)|skip
 refine bg<|zu aM.typeIs aS ?_;refine bg<|ni (name:=hg "__setitem__") aM.typeIs C0 (kJ C0 aM.typeIs MQ ?_<|args_list_setitem _ _ _);show cj _ _ (Og (.int p E)>>=_) _ _ a;refine bg<|MR (fitsIndex_of aG ia) ?_;clear ia;obtain⟨aC,rfl⟩:=xi aG;have c4:aC<bs.size:=c' (.t .x .y) [.cg (.c .x)<|.c .y] f ay;refine bg<|bg<|wpAny_seqItemAt aJ f<|cu<|iq (l (pi c4) f) ?_;have A0:=n1 (mI (·.setIfInBounds aC B)) aJ f;refine bg<|MS aJ f ?_;first|exact bg<|cu<|cu ⟨.none,f,cu<|ac _ _ A0<|sd ..⟩|exact cu ⟨.none,f,cu<|ac _ _ A0<|sd ..⟩
theorem Zf(aJ:a.heap.get? H=A {cls:=.type "list",data:=.seq bs s})(aG:p<0)(ia:-(2^63)<=p)(ag:-(bs.size:Int)<=p)(ac:∀aa j8,aa.get? H=A {cls:=.type "list",data:=.seq (bs.setIfInBounds (p+bs.size).toNat B) j8}->hV H a.heap aa->J () {a with heap:=aa}):cj (cG prog k) u (w8 (.ref H) (.int p E) B) J aN a:=by
 have aM:a.heap.IsList H bs:=⟨_,aJ,f,s,f⟩;unfold w8;try with_reducible refine kH ?_
 first|refine bg (cu ?_)|skip
 refine bg<|zu aM.typeIs aS ?_;refine bg<|ni (name:=hg "__setitem__") aM.typeIs C0 (kJ C0 aM.typeIs MQ ?_<|args_list_setitem _ _ _);show cj _ _ (Og (.int p E)>>=_) _ _ a;refine bg<|MR (fitsIndex_neg aG ia) ?_;clear ia;have c4:(p+bs.size).toNat<bs.size:=xJ (.t .x .y) [.cg .x<|.n 0,.eK (.c .x)<|.a .x<|.c .y] f aG<|oK<|qd (.cz (.n 0)<|.a .x<|.c .x) [.cz (.g<|.c .x) .x] f ag;obtain⟨aC,rfl⟩:∃aC:Nat,p=Int.negSucc aC:=by cases p with
  |ofNat s=>exact absurd aG<|C7.mpr<|Int.ofNat_nonneg s|negSucc s=>exact⟨s,f⟩
 refine bg<|bg<|bg<|r7 aJ f<|cu<|cu<|iq (l (seqIndex_neg aG ag) f) ?_;simp only[Option.bind_some,(pi c4),r9];have A0:=n1 (mI (·.setIfInBounds (Int.negSucc aC+bs.size).toNat B)) aJ f;refine bg<|MS aJ f ?_;first|exact bg<|cu<|cu ⟨.none,f,cu<|ac _ _ A0<|sd ..⟩|exact cu ⟨.none,f,cu<|ac _ _ A0<|sd ..⟩
end
variable{g:d7}{m:Env}{u:ch}{a:ai}{h:Str}{aU:au}{j E:bH}{dO:Pos}
theorem bo.B_(r:bo g m o O Y C a)(P:ct g m o O ax Y)(X:fb C h<|.o B):∃i cW,i∈O/\pr m a.heap cW/\cW h=A (.ref i)/\jm a.heap o i B/\(∀an al hz,a9 [] [] a an->a9 [i] [] an al->jm al.heap o i hz->bo g m o O Y ((h,.o hz)::C) al):=by
 refine gc λx dA=>iL r.3 λcW aE ag aF bb=>bl (ag _ _ X) λaU hy bK=>bl bK λe9 j aB=>eW (aF _ _ X) λi aX pB bp=>?_;subst j;obtain rfl:e9=i:=by replace pB:=hy▸pB;cases pB;rfl
 refine dA<|⟨e9,cW,aX,aE,hy,aB,λan al hz oS aI aJ=>?_⟩;have dR:∀b v,b∉[e9]->a.heap.get? b=A v->al.heap.get? b=A v:=λb v n j=>aI.1 b v n<|oS.all b v j;have h7:e9∉bY m:=λe=>(P.4 _ e).2.2.1 aX;refine⟨a' r.1<|a' oS.2 aI.2,(r.2.to oS aP).to aI<|λG U=>bc U▸(P.5 e9 aX).2.1,cW,aE.keeps λb n v j=>dR b v (λe=>h7<|bc e▸n) j,λM bt a3=>?_,λM av a3=>?_,λM av a3=>?_⟩
 .rcases iW a3 with⟨rfl,rfl⟩|⟨c_,a3⟩
  .exact⟨_,hy,e9,f,aJ⟩
  .refine bl (ag M bt a3) λk cr D=>⟨k,cr,D.own (cd:=[e9]) (λG U=>bc U▸((P.5 e9 aX).1)) (λe b j c0=>gc λx dA=>?_) dR⟩;subst j;have:=bc c0;subst this;refine dA ?_;cases bt with|f av=>exact e.elim|o av=>exact bp M av c_ a3 cr|b av=>refine eW (bb M av a3) λIW j dd x=>?_;rw[cr]at j;cases j;exact dd aX
 .rcases iW a3 with⟨rfl,e⟩|⟨c_,jI⟩
  .refine⟨e9,aX,hy,λG E U bI=>?_⟩;rcases iW bI with⟨c0,_⟩|⟨_,bI⟩
   .exact absurd c0 U
   .exact bp G E U bI
  .refine eW (aF M av jI) λb n j iS=>⟨b,n,j,λG E U bI=>?_⟩;rcases iW bI with⟨c0,_⟩|⟨_,bI⟩
   .refine l c0<|hy.symm▸?_;intro e;cases e;exact bp M av c_ jI j
   .exact iS G E U bI
 .rcases iW a3 with⟨_,e⟩|⟨_,a3⟩
  .exact nomatch e
  .exact bb M av a3
theorem fP.ownAt(aX:i∈O)(oS:a9 [] [] a an)(aI:a9 [i] [] an al):fP a0 m o O o O a al:=⟨λx c=>c,λx c=>.inl c,λx c=>.inl c,(oS.mono aP λx c=>c).trans<|aI.mono (λb n=>bO<|bO<|bc n▸aX) λx c=>c⟩
theorem Ec{cW:Str->Option au}{aU:au}(aE:pr m a.heap cW)(hy:cW h=A aU)(X:g9 m.scope h=W):co g.prog g.w u [] [] m (a9 [] [] a) (.Name h dO) (λx g=>g=aU):=λE J r ac=>by refine eV (x1 X) λag aF bb=>I.eq (l (Gp ..) f)<|I.bind<|I.of<|pY ?_;refine fY (by refine l bb ?_;decide) ?_;exact DZ (aE.keeps λb x v j=>r.all b v j) (D9 ag) hy aF<|ac aU E (bM.refl ..) f
theorem Zg(P:ct g m o O ax Y)(r:bo g m o O Y C a):gH [] [] o (a9 [] [] a):=⟨λx x i b=>i.trans b,λE t h X=>cI (cI (P.8 h X) r.1) t.2,aP⟩
theorem Qa(r:bo g m o O Y C a)(c:co g.prog g.w u [] [] m (bo g m o O Y C) j aE):co g.prog g.w u [] [] m (a9 [] [] a) j aE:=λE J t ac=>c E J (r.grow t) ac
namespace bE
theorem append(aK:fU C h=A (.o<|.lst aA))(X:g9 T h=W)(br:af g z T C j p B)(U:aA.length<=cp)(c:bE g z T a0 ((h,.o<|.lst<|aA++[B])::C) b_ cv)(a8:p≠.ls:=by decide)(ay:dT j=W:=by rfl)(ml:∀m,tv (.Name h dO) "append" m (dF (.Name h dO) m)=dF (.Name h dO) m:=by exact λx=>f)(hw:(pw.endLine==ak.line)=W:=by rfl):bE g z T a0 C (.Expr (.Call (.Attribute (.Name h dO) "append" pw) [j] [] ak) Qb::b_) cv:=λu m o O ax Y a ar Q P r=>by
 refine DD (r.B_ P<|mW aK) λi cW aX aE hy b8 vM=>fM b8 λV s aJ aB=>?_;have cP:V.size=aA.length:=by simpa using aB.length
 refine Iy P.1 f<|Yn (o:=o) (aW:=[]) (ao:=[]) (L:=a9 [] [] a) (i:=i) (V:=V) (aE:=fg Y o .b2 B) (Zg P r) (Ec aE hy<|Q▸X) (λE t=>⟨s,t.all _ _ aJ⟩) (Qa r<|(br.gf a8) u m o O ax Y ar Q P) (cP▸U) ay (ml m) hw (bM.refl ..) ?_;intro aU an al aI _ aL aM a6;refine cJ aM λae aM=>?_;have fV:∀b v,b∉o->an.heap.get? b=A v->al.heap.get? b=A v/\b∉o:=λb v n j=>⟨a6.1 b v (λe=>n<|bc e▸((P.5 i aX).1)) j,n⟩;have df:=vM an al (.lst<|aA++[B]) aI a6 ⟨_,ae,aM,by refine l Ab<|bX.append ?_<|bX.to fV _ _<|bX.to (λb v n j=>⟨aI.all b v j,n⟩) _ _ aB;exact⟨aU,[],f,bV.to fV _ _ aL,by exact f⟩⟩;exact⟨f,I.mono (c u m o O ax Y al ar Q P df) λR w aa=>aa.trans<|fP.ownAt aX aI a6⟩
end bE
end
theorem bX.set(aL:bV c o B g):∀{aA:List bd}{V:List au}(aC:Nat),bX c o aA V->bX c o (aA.set aC B) (V.set aC g)|[],bC,aC,D=>by refine l D ?_;rfl|bC::dw,ic,0,D=>by refine dZ D λaR aY bK eD eN=>?_;obtain rfl:=bK;exact l Nm<|l Nm<|(eH g aY f aL eN)|bC::dw,ic,aC+1,D=>by refine dZ D λaR aY b8 eD eN=>?_;obtain rfl:=b8;exact l G9<|l G9<|(eH aR (aY.set aC g) f eD<|bX.set aL aC eN)
theorem Qc(aK:fU C h=A (.o<|.lst aA))(X:g9 T h=W)(br:af g z T C j p B)(ah:c5 g z T C A1 q)(aC:Nat)(c4:(0<=q/\q<aA.length/\aC=q.toNat)\/(q<0/\-(aA.length:Int)<=q/\aC=(q+aA.length).toNat))(U:aA.length<=cp)(c:bE g z T a0 ((h,.o<|.lst<|aA.set aC B)::C) b_ cv)(a8:p≠.ls:=by decide)(ay:xW j=W:=by rfl):bE g z T a0 C (.Assign [.Subscript (.Name h dO) A1 vN] j ak::b_) cv:=x' c λu m o O ax Y a ar Q P r=>by
 refine I.eq (exec_Assign_Subscript (hs:=tT ay) ..)<|dQ<|I.bind<|(br.gf a8) u m o O ax Y ar Q P a _ r λaU an aI f2=>I.eq (l (assign_Subscript ..) f)<|DD (r.B_ P<|mW aK) λi cW aX aE hy dm vM=>fM dm λV s aJ aB=>?_;have cP:V.size=aA.length:=by simpa using aB.length
 have j3:cp=2^24:=f;refine I.bind<|d2<|(Ec (g:=g) aE hy<|Q▸X) an _ aI λkR al a6 jF=>?_;subst jF;refine d2<|(fc ah ar Q P) al _ (r.grow<|aI.trans a6) λyc bT bQ IX=>cJ IX λE dX=>?_;obtain rfl:=dX;refine dQ ?_;have lT:=(aI.trans a6).trans bQ;have hi:∀aa j8,aa.get? i=A {cls:=.type "list",data:=.seq (V.setIfInBounds aC aU) j8}->hV i bT.heap aa->∃cD h6 eb,fP a0 m o O cD h6 a {bT with heap:=aa}/\ct g m cD h6 ax eb/\bo g m cD h6 eb ((h,.o<|.lst<|aA.set aC B)::C) {bT with heap:=aa}:=by intro aa j8 ge dB;have e6:a9 [i] [] bT {bT with heap:=aa}:=bM.same (y:=bT.toks) dB;have fV:∀b v,b∉o->bT.heap.get? b=A v->aa.get? b=A v/\b∉o:=λb v n j=>⟨e6.1 b v (λe=>n<|bc e▸((P.5 i aX).1)) j,n⟩;exact⟨o,O,Y,fP.ownAt aX lT e6,P,vM bT _ _ lT e6 ⟨_,j8,ge,(l Array.toList_setIfInBounds<|(bX.to fV _ _<|bX.to (λb v n j=>⟨lT.all b v j,n⟩) _ _ aB).set (bV.to fV _ _<|bV.to (λb v n j=>⟨(a6.trans bQ).all b v j,n⟩) _ _ f2) aC)⟩⟩
 refine d2<|I.of ?_;rcases c4 with⟨aG,ag,rfl⟩|⟨aG,ag,rfl⟩
 .exact Ze (lT.all _ _ aJ) aG (xJ (.cg .x<|.n 9223372036854775808) [.l .x .y,.e .y<|.n 16777216,.cg .x<|.c .x] f U j3 ag) (HR [1,-1,1] (.cg .x<|.c .x) [.e .x .y,.cg .x<|.c .y] f cP ag) λaa j8 ge dB=>Au<|I.pure ⟨f,hi aa j8 ge dB⟩
 .refine Zf (lT.all _ _ aJ) aG (xJ (.cz (.g<|.n 9223372036854775808) .x) [.l .x .y,.e .y<|.n 16777216,.cz (.g<|.c .x) .x] f U j3 ag) (HR [1,-1,1] (.cz (.g<|.c .x) .x) [.e .x .y,.cz (.g<|.c .y) .x] f cP ag) λaa j8 ge dB=>?_;rw[cP]at ge;exact Au<|I.pure ⟨f,hi aa j8 ge dB⟩
theorem bo.MY(r:bo g m o O Y C a)(cA:∀b∈bi,b∈o)(g3:cC<=a.heap.objs.size):bo g m bi O cC C a:=by exact iL r.3 λcW aE ag aF bb=>⟨g3,r.2,cW,aE,λh bt X=>bl (ag h bt X) λB aL D=>⟨B,aL,D.sub cA⟩,aF,bb⟩
theorem Zh{M:Str}{pE ak vN:Pos}{dz:bH}{d3:List k9}{a4:dp}{m:Env}(a8:m.scope.kind=.function)(a3:m.scope.names.lookup M=A .local)(aM:(pE.line==ak.line)=W)(A2:(a4.names.any λh=>h.1==M&&(h.2==.local||h.2==.cell))=a2):w' (.ListComp dz d3 a4 ak) (A<|.Name M pE) vN.line m=dC W:=by
 have ag:m.blockKind=.function:=by unfold Env.blockKind;refine l a8 ?_;rfl
 have aF:m.kindOf M=A .local:=a3;have bb:(pE.line==(Expr.ListComp dz d3 a4 ak).pos.line)=W:=aM;unfold w'
 dsimp only;refine l ag<|l aF<|l bb<|l A2 ?_;rfl
namespace bE
theorem Gj(aO:g.Ok)(dc:vI g z T C dz t bU a4 ak bs dP)(a3:(T.names.lookup M==A .local)=W)(aM:(pE.line==ak.line)=W)(A2:(a4.names.any λh=>h.1==M&&(h.2==.local||h.2==.cell))=a2)(c:bE g z T a0 ((M,.o<|.lst dP.flatten)::C) b_ cv):bE g z T a0 C (.Assign [.Name M pE] (.ListComp dz (t::bU) a4 ak) vN::b_) cv:=x' c λu m o O ax Y a ar Q P r=>by
 subst Q;have Qd:=eq_of_beq a3;refine(PySem.exec_Assign_Name_used (hs:=Zh P.1 Qd aM A2)).symm▸dQ (I.bind ?_);have iV:=r.now;have e3:=P.up (cC:=a.heap.objs.size) r.1;have aG:g.s0.heap.objs.size<=a.heap.objs.size:=r.2.1.2;refine I.bind<|P9 aO dc ar e3 iV (J:=λx w=>I g.prog g.w u (dC ()) _ w) λaH aq w bw g' f9 db t9 IT ja=>I.eq (Gs ..)<|dQ<|cJ bw λae bw=>?_;have Qe:aH∉bY m:=λe=>b4 (e3.8 aH (e3.4 aH e).1) f9;have aB:jm w.heap (aq::([aH]++o)) aq (.lst dP.flatten):=by
  refine bl ja λV bK aB=>cJ bK λs j=>⟨V,s,j,bX.to (λb v n j=>⟨j,λe=>n<|di e (λj=>?_) λe=>?_⟩) _ _ aB⟩
  .exact l j<|mt bm
  .refine di e (λj=>?_) λe=>?_
   .exact l j bm
   .exact mt<|mt e
 have Zi:kU m.scope M=W:=by unfold kU;exact l Qd f
 have Zj:aq<w.heap.objs.size:=by refine bl ja λV b8 x=>?_;exact cJ b8 λs j=>dH j
 refine P0 (de:=[aH]) e3 iV g' (λb n=>di n (λe=>e▸db) λe=>bc e▸f9) aB Zi λek IY Qf=>?_;have Qg:ek.heap.Ns aH ae:=bw.at' λv j=>IY.1 _ v Qe j;refine⟨ae,Qg,λaa dB=>I.pure<|I.pure ⟨f,aq::o,aq::O,ek.heap.objs.size,?_,e3.more db (cI Zj IY.2) aG,?_⟩⟩
 .have d8:a9 [aH] [] ek {ek with heap:=aa}:=bM.same (y:=ek.toks) dB;exact⟨λb n=>mt n,λb n=>di n (λe=>.inr<|e▸db) .inl,λb n=>di n (λe=>.inr<|e▸db) .inl,(((g'.mono aP λx c=>c).trans IY).gR d8 (λb n=>.inr<|bc n▸fS f9) aP).mono (λb n=>bO<|bB n) λx c=>c⟩
 .have d8:a9 [aH] [] ek {ek with heap:=aa}:=bM.same (y:=ek.toks) dB;refine(Qf.yZ (cd:=[aH]) (λG U=>mt<|bO U) (λG U=>bc U▸Qe) (λG U=>bc U▸a' aG f9) (ao:=[]) aP (λb v n j=>iM Qg λdq as AA cg bp x=>?_) d8).MY (λb n=>di n (λe=>e▸bm) λe=>mt<|bB e)<|oD dB.1.symm;rw[bc n,cg]at j;cases j;exact YF bp
end bE
section
variable{g:d7}{z:Nat}{T:dp}{C:cm}{m:Env}{o O ax a0:List aw}{Y:Nat}{u:ch}{a:ai}{h:Str}{B mO:bd}{aU:au}{j:bH}{as:List bH}{ak dO:Pos}{p:hx}{el:List eS}{i:aw}{bh:uY}
inductive vO(g:d7)(i:aw)(bh:uY)(el:List eS):Prop|mk(fQ:∃v,g.s0.heap.get? i=A v/\v.data=.func bh)(fR:i∉g.tabs)(gs:bh.scope.isCoroutine=a2)(i7:bh.scope.isGenerator=a2)(kq:bh.body=.stmts el)(mP:∃e v V E,bh.code=.ref e/\e∉g.tabs/\g.s0.heap.get? e=A v/\v.data=.fields V/\V[1]?=A (.str bh.qualname E))(sy:bh.scope.kind=.function)(x0:∀h∈bh.scope.names,h.2≠.free)(AK:bh.closure=[])(D7:bh.globals=3)(Qh:bh.builtins=0):vO g i bh el
theorem vO.at_(aO:g.Ok)(c:vO g i bh el)(b:fp g a):FnAt a i bh el:=by exact bl c.1 λv j bp=>Wh c.6 λe rA V E bW cR f3 jL sN=>⟨⟨v,b.1.1 _ _ c.2 j,bp⟩,c.3,c.4,c.5,⟨e,rA,V,E,bW,b.1.1 _ _ cR f3,jL,sN⟩,c.7,c.8,c.9,aO.3 a b⟩
noncomputable def ha(g:d7)(z:Nat)(T:dp)(C:cm):List bH->List (hx×bd)->Prop|[],[]=>True|j::as,(p,B)::V=>dT j=W/\af g z T C j p B/\ha g z T C as V|bC,dw=>False
noncomputable def mq(Y:Nat)(o:List aw):List (hx×bd)->ai->List au->Prop|[],bC,aY=>aY=[]|(p,B)::V,a,aY=>∃g D,aY=g::D/\fg Y o p B a g/\mq Y o V a D
theorem ha.star:∀{as:List bH}{V:List<|hx×bd},ha g z T C as V->as.all dT=W|[],[],bC=>f|j::as,(p,B)::V,c=>by refine l n0<|l c.1<|l (ha.star c.2.2) ?_;rfl
theorem ha.q3{u:ch}{m:Env}{o O ax:List aw}{Y:Nat}(ar:eJ z u)(Q:m.scope=T)(P:ct g m o O ax Y):∀{as:List bH}{V:List<|hx×bd},ha g z T C as V->mR g.prog g.w u [] [] m (bo g m o O Y C) as (mq Y o V)|[],[],bC=>λa J ak a1 ac=>kt a J ak a1 λaY w t c=>ac aY w t c|j::as,(p,B)::V,c=>λa J ak a1 ac=>jl c.1 P.ok (c.2.1 u m o O ax Y ar Q P) fg.h4 (ha.q3 ar Q P c.2.2) a J ak a1 λaY w t c=>ac aY w t c
noncomputable def hx.slot:hx×bd->Slot|(.ls,B)=>.b B|(bC,B)=>.f B
noncomputable def yd:(hx×bd)->au->bd|(.ls,bC),g=>.raw g|(bC,B),dw=>B
theorem mq.length:∀{V:List<|hx×bd}{aY:List au},mq Y o V a aY->aY.length=V.length|[],aY,c=>by refine l (show aY=[]from c) ?_;rfl|(p,B)::V,aY,c=>by obtain⟨g,D,rfl,_,c⟩:=c;exact l jX<|l jX<|l (mq.length c) f
noncomputable def A3:List (hx×bd)->List au->List bd|i::eP,g::aY=>yd i g::A3 eP aY|bC,dw=>[]
theorem mq.Gl(cA:∀i∈o,i<Y):∀{V:List<|hx×bd}{aY:List au},mq Y o V a aY->bX a.heap o (A3 V aY) aY|[],aY,c=>c|(p,B)::V,aY,c=>by obtain⟨g,D,rfl,ag,c⟩:=c;refine(eH g D f ?_<|mq.Gl cA c);cases p with|ls=>exact f|fr=>exact ag.b2 cA aS|b2=>exact ag
theorem IZ{h:Str}{i:aw}:∀{H:List<|Str×aw},H.lookup h=A i->(h,i)∈H|[],c=>d1 c|(M,b)::D,c=>by rw[r']at c;cases j:h==M with|true=>replace c:=j▸c;cases c;exact l (eq_of_beq j) bm|false=>replace c:=j▸c;exact mt<|IZ c
theorem Qi(a:ai)(a4:dp):∀h M i b,(cellsFrom (a.heap.objs.size+1) a4.names []).lookup h=A i->(cellsFrom (a.heap.objs.size+1) a4.names []).lookup M=A b->h≠M->i≠b:=by have kv:=cellsFrom_ok a4.names (a.heap.push {cls:=.type "frame",data:=.dict #[]}) (a.heap.objs.size+1) [] ⟨λx x c=>(dI c),Oe⟩ (by refine l (f' ..) ?_;exact dD _);rw[f']at kv;intro h M i b aX n c_ j;subst j;have ku:=IZ aX;have eX:=IZ n;have a1:=kv.apart;generalize cellsFrom (a.heap.objs.size+1) a4.names []=H at ku eX a1;induction H with
 |nil=>exact dI ku|cons r H a5=>
  rw[List.pairwise_cons]at a1;refine eU (e1.mp ku) (λe=>?_) λe=>?_
  .refine eU (e1.mp eX) (λc0=>?_) λc0=>?_
   .rw[<-e]at c0;cases c0;exact c_ f
   .exact a1.1 _ c0<|c2 e f
  .exact eU (e1.mp eX) (λc0=>a1.1 _ e<|c2 c0 f) λc0=>a5 e c0 a1.2
noncomputable def jn:List Str->List (hx×bd)->cm->cm|h::aA,i::eP,C=>jn aA eP<|(h,hx.slot i)::C|bC,dw,C=>C
theorem Qj:∀{aA:List Str}{eP:List<|hx×bd}{aY:List au}{C:cm}{hj:List<|Str×bd}{M:Str}{bt:Slot},aA.length=aY.length->eP.length=aY.length->(∀M bt,fb C M bt->∃i g,bt=hx.slot i/\xT hj M (yd i g)/\fg Y o i.1 i.2 a g)->mq Y o eP a aY->fb (jn aA eP C) M bt->∃i g,bt=hx.slot i/\xT (xZ (aA.zip aY) (A3 eP aY) hj) M (yd i g)/\fg Y o i.1 i.2 a g:=by intro aA;induction aA with
 |nil=>intro eP aY C hj M bt aM jE aG aL c;cases aY with
  |nil=>cases eP with
   |nil=>exact aG M bt c|cons _ _=>cases jE
  |cons _ _=>cases aM
 |cons h aA a5=>intro eP aY C hj M bt aM jE aG aL c;cases eP with
  |nil=>cases aY with
   |nil=>cases aM|cons _ _=>cases jE
  |cons jM eP=>
   obtain⟨p,B⟩:=jM;refine dZ aL λg D dm ag aF=>?_;obtain rfl:=dm;refine a5 (eP:=eP) (aY:=D) (C:=(h,hx.slot (p,B))::C) (hj:=(h,yd (p,B) g)::hj) (by simpa using aM) (by simpa using jE) (λG bt U=>?_) aF c;rcases iW U with⟨rfl,rfl⟩|⟨c_,U⟩
   .exact(eH (p,B) g f .here ag)
   .exact dZ (aG G bt U) λi aR j e c0=>(eH i aR j (.there (beq_false_of_ne<|ip c_) e) c0)
theorem Zk{v:Obj}{eh:List Str}{eP:List<|hx×bd}{aY:List au}{J:au->ai->Prop}(aO:g.Ok)(ar:eJ (z+1) u)(be:vO g i bh el)(P:ct g m o O ax Y)(r:bo g m o O Y C a)(aL:mq Y o eP a aY)(aM:eP.length=eh.length)(n:jr a bh ⟨aY,[]⟩<|eh.zip aY)(aJ:eh.all (kU bh.scope)=W)(iU:bE g z bh.scope [] (jn eh eP []) el<|λcN x=>cN=.ret mO)(ac:∀aU w,a9 [] [] a w->bV w.heap o mO aU->J aU w):I g.prog g.w u (et (.ref i) aY []) J a:=by
 have cP:=aL.length;have gW:g.s0.heap.objs.size<=a.heap.objs.size:=r.2.1.2;have hK:∀h∈o,h<a.heap.objs.size:=λh X=>cI (P.8 h X) r.1;have A4:=Qi a bh.scope;have cR:(eh.zip aY).map (·.2)=aY:=by have:aY.length=eh.length:=cP.trans aM;rw[Nn];exact c' (.l .x .y) [.e .x .y] f this
 refine Yt (o:=o) (V:=A3 eP aY) (iw:=eh.zip aY) (mD (a' (hT _ _) ar.2) aS) (be.at_ aO r.2) n (λe aZ=>?_) (cR.symm▸aL.Gl P.8) hK λw dx bR=>?_
 .refine(vz<|hU.mp aJ _<|(No aZ).1).elim .inl λa8=>?_
  .exact cJ (GG.mp<|AJ bh.scope.names (a.heap.objs.size+1) [] e.1<|.inr a8) λb eX=>.inr ⟨b,a8,eX,λM IW x a3 c_=>A4 _ _ _ _ a3 eX c_⟩
 .have AV:∀b∈bY<|c3 bh i a,b<w.heap.objs.size:=λb n=>bR.1 b<|bO n;have cc:a9 [] [] a w:=bR.3;have eB:ct g (c3 bh i a) (bY (c3 bh i a)++o) [] o w.heap.objs.size:=by exact⟨be.7,be.10,be.11,λb n=>⟨bO n,a' gW<|dx b n,(λe=>dI e),λe=>b4 (hK b e)<|dx b n⟩,aP,λb n=>bB n,λb n=>P.6 b<|P.7 b n,bR.1,λb n=>bD n (λe=>.inr<|a' gW<|dx b e) λe=>P.9 b e,A4⟩
  have ye:bo g (c3 bh i a) (bY (c3 bh i a)++o) [] w.heap.objs.size (jn eh eP []) w:=by
   refine bl bR.2 λcW aE vu=>?_;have cV:∀M bt,fb (jn eh eP []) M bt->∃jN aR,bt=hx.slot jN/\(∃k,cW M=A k/\bV w.heap (bY (c3 bh i a)++o) (yd jN aR) k)/\fg Y o jN.1 jN.2 a aR:=λM bt a3=>by exact dZ (Qj (Y:=Y) (o:=o) (a:=a) (hj:=[]) (oJ [1,1,1] [1,-1,-1] (.e .x .y) [.e .z .x,.e .y .z] f aM cP) (id<|zV cP) (by intro _ _ c;cases c) aL a3) λjN aR j e c0=>⟨jN,aR,j,vu _ _ e,c0⟩
   refine⟨dD _,r.2.to cc aP,cW,aE,λM bt a3=>?_,λM av a3=>?_,λM av a3=>?_⟩
   .refine dZ (cV M bt a3) λdX aR eO fE vP=>?_;obtain⟨p,B⟩:=dX;refine l eO ?_;obtain⟨k,cr,aB⟩:=fE;refine⟨k,cr,?_⟩;cases p with
    |fr=>exact aB|b2=>exact aB|ls=>
     have hJ:k=aR:=by have aa:bV w.heap (bY (c3 bh i a)++o) (.raw aR) k:=aB;exact aa
     exact l hJ<|bl vP λb j D=>⟨b,j,D.to (λb v n j=>⟨cc.all b v j,by refine gq jW<|gq not_or ?_;exact⟨λe=>b4 (dH j)<|dx b e,n⟩⟩) λv j=>cc.all _ v j⟩
   .refine fM (cV M _ a3) λgh aR j x=>?_;obtain⟨p,B⟩:=gh;cases p<;>cases j
   .refine dZ (cV M _ a3) λgV aR j h1 vP=>?_;obtain⟨p,B⟩:=gV;obtain⟨k,cr,aB⟩:=h1;cases p<;>cases j;have hJ:k=aR:=by have aa:bV w.heap (bY (c3 bh i a)++o) (.raw aR) k:=aB;exact aa
    subst hJ;refine bl vP λb j D=>?_;subst j;exact⟨b,cr,(λe=>dI e),λe=>b4 D.lt<|dx b e⟩
  have fH:eJ z (u.deeper<|c3 bh i a):=⟨ar.1,by have:=ar.2;show u.depth+1+z<=900;exact c' (.l (.a (.o .x) .y)<|.n 900) [.l (.a .x<|.o .y)<|.n 900] f this,by have:=ar.3;show u.units+3+4*z<=5000;exact c' (.l (.a (.a .x<|.n 3)<|.m 4 .y)<|.n 5000) [.l (.a .x<|.m 4<|.o .y)<|.n 5000] f this⟩;refine I.mono (iU (u.deeper<|c3 bh i a) (c3 bh i a) _ [] o _ w fH f eB ye) ?_;rintro R ek e;refine e.gi λcN bP bi cw cC e rl c6 c0=>?_;obtain rfl:=e;obtain⟨aU,rfl,aB⟩:=c0;exact⟨aU,f,ac aU ek (cc.gR c6.4 (λb n=>.inr<|fS<|dx b (by simpa using n)) aP) aB⟩
theorem af.call{h:Str}{eh:List Str}{eP:List<|hx×bd}(aO:g.Ok)(aK:g.gl h=A (.ref i))(X:eE T h=W)(be:vO g i bh el)(aX:ha g (z+1) T C as eP)(aM:eP.length=eh.length)(n:∀a aY,aY.length=eh.length->jr a bh ⟨aY,[]⟩ (eh.zip aY))(aJ:eh.all (kU bh.scope)=W)(iU:bE g z bh.scope [] (jn eh eP []) el<|λcN x=>cN=.ret mO)(sO:as.length<20):af g (z+1) T C (.Call (.Name h dO) as [] ak) .b2 mO:=λu m o O ax Y ar Q P=>by subst Q;exact bl be.1 λv j bp=>Yr (v:=v) P.ok (ix aO P aK X) (λa r=>r.2.1.1 _ _ be.2 j) bp (aX.q3 ar f P) (λa aY r aL J ac=>Zk (v:=v) aO ar be P r aL aM (n a aY<|aL.length.trans aM) aJ iU λaU w t D=>ac aU w t D) sO aX.star<|tX X
theorem Qk(ae:Nat):sg 0 ae 8=((ae+7)/8:Nat):=by cases ae with|zero=>rfl|succ p=>show(if(0:Int)<((p+1:Nat):Int)then(((p+1:Nat):Int)-0-1)/8+1 else 0)=((p+8)/8:Nat);rw[if_pos<|M3.mpr<|r_ p,Nb p aS,Int.sub_zero];exact congrArg (λG:Int=>G/8+1)<|M6 (p:Int) 1
end
structure Inv where
 W:List aw
 G:List Nat
 St:List aw->ai->Prop
 frame:∀o a w cd dc,St o a->a9 cd dc a w->(∀b∈cd,b∈o/\b∉W)->(∀t∈dc,t∉G)->St o w
 mono:∀o bi a,St o a->(∀b∈bi,b∈o\/a.heap.objs.size<=b)->St bi a
inductive Inv.At(aj:Inv)(g:d7)(m:Env)(o O:List aw)(a:ai):Prop|mk(fQ:aj.St o a)(fR:∀b∈aj.W,b∈o/\b∉O/\b∉bY m/\(b∈g.tabs\/g.s0.heap.objs.size<=b)/\b<a.heap.objs.size)(gs:∀q∈aj.G,g.s0.gens.size<=q/\q<a.gens.size):Inv.At aj g m o O a
inductive f4(aj:Inv)(m:Env)(o O bi cw:List aw)(bL:Inv)(a w:ai):Prop|mk(fQ:∀b∈o,b∈bi)(fR:∀b∈bi,b∈o\/a.heap.objs.size<=b)(gs:∀b∈cw,b∈O\/a.heap.objs.size<=b)(i7:∀b∈bL.W,b∈aj.W\/a.heap.objs.size<=b)(kq:∀q∈bL.G,q∈aj.G\/a.gens.size<=q)(mP:a9 (O++bY m++aj.W) aj.G a w):f4 aj m o O bi cw bL a w
theorem f4.refl(aj:Inv)(a:ai):f4 aj m o O o O aj a a:=⟨λx c=>c,λx c=>.inl c,λx c=>.inl c,λx c=>.inl c,λx c=>.inl c,bM.refl ..⟩
theorem f4.trans(i:f4 aj m o O cD h6 dn a an)(b:f4 dn m cD h6 lr mp oV an al):f4 aj m o O lr mp oV a al:=by
 refine⟨λM c=>b.1 M<|i.1 M c,λM c=>(b.2 M c).elim (i.2 M) λe=>.inr<|a' i.6.2 e,λM c=>(b.3 M c).elim (i.3 M) λe=>.inr<|a' i.6.2 e,λM c=>(b.4 M c).elim (i.4 M) λe=>.inr<|a' i.6.2 e,λM c=>(b.5 M c).elim (i.5 M) λe=>.inr<|a' i.6.4 e,i.6.gR b.6 (λM a3=>?_) λM a3=>(i.5 M a3).imp id rq⟩;refine bD a3 (λa3=>?_) λa3=>?_
 .exact bD a3 (λa3=>(i.3 M a3).elim (λe=>.inl<|bO<|bO e) λe=>.inr<|fS e) λa3=>.inl<|bO<|bB a3
 .exact(i.4 M a3).elim (λe=>.inl<|bB e) λe=>.inr<|fS e
theorem fP.wQ(c:fP [] m o O bi cw a w):f4 aj m o O bi cw aj a w:=⟨c.1,c.2,c.3,λx c=>.inl c,λx c=>.inl c,c.4.mono (λb n=>bO (by simpa using n)) aP⟩
theorem Inv.At.step{aj:Inv}{bi cw:List aw}(c:aj.At g m o O a)(P:ct g m o O ax Y)(t:fP [] m o O bi cw a w):aj.At g m bi cw w:=by
 refine⟨?_,λb n=>?_,λq ah=>⟨(c.3 q ah).1,cI (c.3 q ah).2 t.4.4⟩⟩
 .refine aj.frame _ _ _ _ _ (aj.mono _ _ _ c.1 t.2) t.4 (λb n=>?_) aP;simp only[u',jW]at n;exact eU (n) (λe=>⟨t.1 b (P.5 b e).1,λk=>(c.2 b k).2.1 e⟩) λe=>⟨t.1 b (P.4 b e).1,λk=>(c.2 b k).2.2.1 e⟩
 .exact j0 (c.2 b n) λdJ dU dN eK f_=>⟨t.1 b dJ,λe=>(t.3 b e).elim dU λG=>b4 f_ G,dN,eK,cI f_ t.4.2⟩
inductive ub(g:d7)(aj:Inv)(m:Env)(o O ax:List aw)(cv:lq->cm->Inv->Prop)(a:ai)(R:gn)(w:ai):Prop|mk(cN:lq)(bP:cm)(bi cw:List aw)(cC:Nat)(bL:Inv)(ag:cv cN bP bL)(aF:fp g w)(bb:f4 aj m o O bi cw bL a w)(cn:Eb g m bi cw ax cC bP cN R w)(eC:bL.At g m bi cw w):ub g aj m o O ax cv a R w
theorem ub.gi{aj:Inv}{cv:lq->cm->Inv->Prop}{R:gn}{w:ai}{ao:Prop}(c:ub g aj m o O ax cv a R w)(p:∀cN bP bi cw cC bL,cv cN bP bL->fp g w->f4 aj m o O bi cw bL a w->Eb g m bi cw ax cC bP cN R w->bL.At g m bi cw w->ao):ao:=c.casesOn p
def b3(g:d7)(z:Nat)(u:ch)(T:dp)(aj:Inv)(C:cm)(st:List eS)(cv:lq->cm->Inv->Prop):Prop:=∀(m:Env)(o O ax:List aw)(Y:Nat)(a:ai),eJ z u->m.scope=T->ct g m o O ax Y->bo g m o O Y C a->aj.At g m o O a->I g.prog g.w u (dG st m) (ub g aj m o O ax cv a) a
theorem ub.trans{aj dn:Inv}{cD h6:List aw}{a an al:ai}{cv:lq->cm->Inv->Prop}{R:gn}(i:f4 aj m o O cD h6 dn a an)(b:ub g dn m cD h6 ax cv an R al):ub g aj m o O ax cv a R al:=b.gi λcN bP bi cw cC bL ag aF bb cn eC=>⟨cN,bP,bi,cw,cC,bL,ag,aF,i.trans bb,cn,eC⟩
theorem Zl{prog:cL}{k:ck}{st:eS}{cM:gn->ai->Prop}(c:I prog k u (dG [st] m) (λR w=>(R=.next->I prog k u (dG b_ m) cM w)/\(R≠.next->cM R w)) a):I prog k u (dG (st::b_) m) cM a:=by rw[pa]at c⊢;intro C r b7 ag aF;have aa:=c C r b7 ag aF;rw[z_]at aa⊢;refine mc _ C _ (λR bR w be=>?_) (λx x x h=>h) r a aa;cases R with|next=>rw[uW]at be;exact(be.1 f) C bR b7 ag aF|brk=>exact be.2<|λe=>nomatch e|cont=>exact be.2<|λe=>nomatch e|ret B=>exact be.2<|λe=>nomatch e
namespace b3
theorem nil(c:cv .next C aj):b3 g z u T aj C [] cv:=λm o O ax Y a ar Q P r ah=>by exact I.eq (uW ..)<|I.pure ⟨.next,C,o,O,Y,aj,c,r.2,f4.refl aj a,⟨f,P,r⟩,ah⟩
theorem le(aM:gM bP C)(c:b3 g z u T aj bP b_ cv):b3 g z u T aj C b_ cv:=λm o O ax Y a ar Q P r=>c m o O ax Y a ar Q P<|r.le λh bt e=>aM.has e
theorem mM{st:eS}(c:bE g z T [] C [st]<|λcN bP=>match cN with|.next=>b3 g z u T aj bP b_ cv|cN=>cv cN bP aj):b3 g z u T aj C (st::b_) cv:=λm o O ax Y a ar Q P r ah=>by refine Zl<|I.mono (c u m o O ax Y a ar Q P r) ?_;rintro R an e;refine e.gi λcN bP bi cw cC a1 n c6 br=>?_;cases cN with|next=>obtain⟨rfl,eB,bR⟩:=br;exact⟨λx=>I.mono (a1 m bi cw ax cC an ar Q eB bR<|ah.step P c6) λR w aa=>aa.trans c6.wQ,λe=>absurd f e⟩|brk=>obtain⟨rfl,br⟩:=br;exact⟨(λe=>nomatch e),λx=>⟨.brk,bP,bi,cw,cC,aj,a1,n,c6.wQ,⟨f,br⟩,ah.step P c6⟩⟩|cont=>obtain⟨rfl,br⟩:=br;exact⟨(λe=>nomatch e),λx=>⟨.cont,bP,bi,cw,cC,aj,a1,n,c6.wQ,⟨f,br⟩,ah.step P c6⟩⟩|ret B=>obtain⟨aU,rfl,br⟩:=br;exact⟨(λe=>nomatch e),λx=>⟨.ret B,bP,bi,cw,cC,aj,a1,n,c6.wQ,⟨aU,f,br⟩,ah.step P c6⟩⟩
theorem next{st:eS}(ag:∀(m:Env)(o O ax:List aw)(Y:Nat)(a:ai),eJ z u->m.scope=T->ct g m o O ax Y->bo g m o O Y C a->aj.At g m o O a->I g.prog g.w u (exec st m) (λR an=>R=.next/\∃t' dn cD h6 eb,f4 aj m o O cD h6 dn a an/\ct g m cD h6 ax eb/\bo g m cD h6 eb t' an/\dn.At g m cD h6 an/\b3 g z u T dn t' b_ cv) a):b3 g z u T aj C (st::b_) cv:=λm o O ax Y a ar Q P r ah=>by refine AC<|I.mono (ag m o O ax Y a ar Q P r ah) ?_;rintro R an bK;exact cx bK λb8 dm=>HG dm λt' dn cD h6 eb c6 fs cX eY c=>l b8<|⟨f,I.mono (c m cD h6 ax eb an ar Q fs cX eY) λR w aa=>aa.trans c6⟩
end b3
def m2(g:d7)(z:Nat)(T:dp)(C:cm)(b5 j:bH)(bs:List bd):Prop:=∀(u:ch)(m:Env)(o O ax:List aw)(Y K:Nat),eJ z u->m.scope=T->ct g m o O ax Y->co g.prog g.w u [] [] m (λa=>bo g m o O Y C a/\K<=a.gens.size) j (λa aU=>x3 g.prog g.w u b5 Y K [] [] o o aU bs a)
theorem m2.tup(c:af g z T C j .b2<|.tup aA):m2 g z T C (.Name h dO) j aA:=λu m o O ax Y K ar Q P a J r ac=>let r:=r.1
 c u m o O ax Y ar Q P a J r λaU w t aL=>ac aU w t<|YI (r.grow t).1 ar.1 (λb n=>cI (P.8 b n) (r.grow t).1) (λx c=>c) aL
theorem m2.yO(c:∀(u:ch)(m:Env)(o O ax:List aw)(Y:Nat),eJ z u->m.scope=T->ct g m o O ax Y->co g.prog g.w u [] [] m (bo g m o O Y C) j (AH o i b s)):m2 g z T C (.Name h dO) j ((j7 i b s).map .int):=λu m o O ax Y K ar Q P a J r ac=>let r:=r.1
 c u m o O ax Y ar Q P a J r λaU w t aL=>ac aU w t<|PV (r.grow t).1 ar.1 (λb n=>cI (P.8 b n) (r.grow t).1) aL
theorem m2.t_{h:Str}{s:Nat}{e:Pos}(aO:g.Ok)(c:c5 g z T C j s)(aK:g.gl "range"=A (.type "range"))(X:eE T "range"=W)(ay:dT j=W)(U:s<2^62):m2 g z T C (.Name h dO) (.Call (.Name "range" e) [j] [] ak) ((j7 0 1 s).map .int):=m2.yO λu m o O ax Y ar Q P=>by subst Q;exact PK P.ok (ix aO P aK X) ay (fc c ar f P) U
theorem Inv.At.it{aj:Inv}{aV:List aw}{bU:List Nat}(c:aj.At g m o O a)(t:a9 aV bU a w)(cA:∀b∈aV,b∈o/\b∉aj.W)(jG:∀q∈bU,q∉aj.G):aj.At g m o O w:=⟨aj.frame _ _ _ _ _ c.1 t cA jG,λb n=>j0 (c.2 b n) λdJ dU dN eK f_=>⟨dJ,dU,dN,eK,cI f_ t.2⟩,λq ah=>⟨(c.3 q ah).1,cI (c.3 q ah).2 t.4⟩⟩
theorem Inv.At.wide{aj:Inv}{bi:List aw}(c:aj.At g m o O a)(d_:∀b∈o,b∈bi)(cA:∀b∈bi,b∈o\/a.heap.objs.size<=b):aj.At g m bi O a:=⟨aj.mono _ _ _ c.1 cA,λb n=>cx (c.2 b n) λdJ D=>⟨d_ b dJ,D⟩,c.3⟩
namespace b3
theorem qf(af:Nat->cm->Inv->Prop)(be:rz ht)(gL:m2 g z T C b5 ht bs)(mh:∀q h bP bL,bs[q]?=A h->af q bP bL->mn a2 T b5 h/\b3 g z u T bL (kx b5 h bP) el (λcN vK I0=>match cN with
   |.next|.cont=>af (q+1) vK I0|.brk=>b3 g z u T I0 vK b_ cv|.ret B=>cv (.ret B) vK I0))(aG:af 0 C aj)(sC:∀bP bL,af bs.length bP bL->b3 g z u T bL bP b_ cv):b3 g z u T aj C (.For b5 ht el [] ak::b_) cv:=λm o O ax Y a ar Q P r ah=>by
 refine PL (λh=>be m h) ?_;have iV:=r.now;have e3:=P.up (cC:=a.heap.objs.size) r.1;have gW:g.s0.heap.objs.size<=a.heap.objs.size:=r.2.1.2;refine gL u m o O ax _ a.gens.size ar Q e3 a _ ⟨iV,dD _⟩ λaU an aI qE=>qE _ λcl al bA aV bU St ba=>⟨cl,f,?_⟩;have a6:=ba.3;have g_:a.heap.objs.size<=al.heap.objs.size:=a' aI.2 a6.2;have em:∀b∈aV,a.heap.objs.size<=b/\b<al.heap.objs.size:=λb n=>⟨(ba.4 b n).elim id<|λe=>dI e,(ba.7 b<|ba.1.1 b n).1⟩;have m0:∀q∈bU,a.gens.size<=q/\q<al.gens.size:=λq ah=>⟨(ba.5 q ah).elim id<|λe=>dI e,ba.6 q ah⟩;have AY:∀q∈bU,g.s0.gens.size<=q:=λq ah=>a' r.2.1.4 (m0 q ah).1;have df:=iV.n7 (aI.trans a6)<|λb n=>(em b n).1;have jO:=aI.trans a6;have AZ:∀b∈aV,b∉bY m:=λb n e=>b4 (e3.8 b (e3.4 b e).1) (em b n).1;have IV:∀b∈aV++(O++bY m++aj.W),b∈aV++o:=λb n=>by
  refine bD n (λe=>?_) λe=>?_
  .exact bO e
  exact bB<|bD e (λe=>bD e (λe=>(e3.5 b e).1) λe=>(e3.4 b e).1) λe=>(ah.2 b e).1
 have I1:∀{bL:Inv},(∀q∈bL.G,q∈aj.G\/al.gens.size<=q)->∀q∈bU,q∉bL.G:=λc q aK e=>(c q e).elim (λe=>b4 (ah.3 q e).2 (m0 q aK).1) λe=>b4 (m0 q aK).2 e;have Ql:∀{bL:Inv},(∀b∈bL.W,b∈aj.W\/al.heap.objs.size<=b)->∀b∈aV,b∉bL.W:=λc b n e=>(c b e).elim (λe=>b4 (ah.2 b e).2.2.2.2 (em b n).1) λe=>b4 (em b n).2 e;have vL:∀{bi cw:List aw}{bL:Inv}{E:ai},(∀b∈aV++o,b∈bi)->(∀b∈bi,b∈aV++o\/al.heap.objs.size<=b)->(∀b∈cw,b∈O\/al.heap.objs.size<=b)->(∀b∈bL.W,b∈aj.W\/al.heap.objs.size<=b)->(∀q∈bL.G,q∈aj.G\/al.gens.size<=q)->a9 (aV++(O++bY m++aj.W)) (bU++aj.G) al E->f4 aj m o O bi cw bL a E:=by
  intro bi cw bL E dJ dU dN f_ sP eK;refine⟨λb n=>dJ b<|bB n,λb n=>(dU b n).elim (λe=>bD e (λe=>.inr (em b e).1) .inl) λe=>.inr<|a' g_ e,λb n=>(dN b n).elim .inl λe=>.inr<|a' g_ e,λb n=>(f_ b n).elim .inl λe=>.inr<|a' g_ e,λb n=>(sP b n).elim .inl λe=>.inr<|a' (a' aI.4 a6.4) e,((jO.mono aP aP).gR eK (λb n=>?_) λq ah=>?_)⟩
  .exact bD n (λe=>.inr<|fS (em b e).1) λe=>.inl e
  .exact bD ah (λe=>.inr<|rq (m0 q e).1) λe=>.inl e
 refine PQ ba.1 (λq E=>∃bP bi cw cC bL,af q bP bL/\(∀b∈aV++o,b∈bi)/\(∀b∈bi,b∈aV++o\/al.heap.objs.size<=b)/\(∀b∈cw,b∈O\/al.heap.objs.size<=b)/\(∀b∈bL.W,b∈aj.W\/al.heap.objs.size<=b)/\(∀q∈bL.G,q∈aj.G\/al.gens.size<=q)/\a9 (aV++(O++bY m++aj.W)) (bU++aj.G) al E/\ct g m bi cw ax cC/\bo g m bi cw cC bP E/\bL.At g m bi cw E) ?_ ?_ ⟨C,aV++o,O,_,aj,aG,λx c=>c,λx c=>.inl c,λx c=>.inl c,λx c=>.inl c,λx c=>.inl c,bM.refl ..,(e3.n7 em gW g_),df,((ah.wide (λb n=>bB n) λb n=>bD n (λe=>.inr (em b e).1) .inl).it jO aP aP)⟩ ba.2
 .rintro q h qD E B X bK sI aL oT g1;refine OE bK λbP bi cw cC bL da dJ dU dN f_ sP eK eB bR fy=>?_;have cX:bo g m bi cw cC bP E:=bR.yZ (cd:=aV) (λG U=>dJ G<|bO U) AZ (λG U=>a' gW (em G U).1) AY (λb v n j=>ba.1.6 q qD b v sI n j) g1;have eY:bL.At g m bi cw E:=fy.it g1 (λb n=>⟨dJ b<|bO n,Ql f_ b n⟩)<|I1 sP;refine cx (mh q h bP bL X da) λbI iU=>I.bind<|vE (b:=a2) ar.1 eB cX (aL bi _ (λb n=>⟨cI (eB.8 b n) bR.1,(dU b n).elim (λe=>bD e (λe=>.inr<|.inl e) .inl) λe=>.inr<|.inr e⟩)<|eK.mono (λb n=>dJ b<|IV b n) λx c=>c) (Q▸bI) λhB sL df=>I.mono (iU m bi cw ax cC hB ar Q eB df<|eY.step eB<|fP.inside sL) ?_;rintro R oc b8;refine b8.gi λcN nL lr mp oU oV a1 n c6 br uc=>?_;have fq:∀b∈aV++o,b∈lr:=λb n=>c6.1 b<|dJ b n;have ya:al.heap.objs.size<=hB.heap.objs.size:=a' eK.2<|a' g1.2 sL.2;have iy:∀b∈lr,b∈aV++o\/al.heap.objs.size<=b:=λb n=>(c6.2 b n).elim (dU b) λe=>.inr<|a' ya e;have jJ:∀b∈mp,b∈O\/al.heap.objs.size<=b:=λb n=>(c6.3 b n).elim (dN b) λe=>.inr<|a' ya e;have Ed:∀b∈oV.W,b∈aj.W\/al.heap.objs.size<=b:=λb n=>(c6.4 b n).elim (f_ b) λe=>.inr<|a' ya e;have Ee:∀q∈oV.G,q∈aj.G\/al.gens.size<=q:=λb n=>(c6.5 b n).elim (sP b) λe=>.inr<|a' (a' eK.4<|a' g1.4 sL.4) e;have qG:a9 (aV++(O++bY m++aj.W)) (bU++aj.G) al oc:=by exact((eK.trans<|g1.mono (λb n=>bO n) λx c=>bO c).trans<|sL.mono (λb n=>bB<|bO<|bB n) aP).gR c6.6 (λb n=>bD n (λe=>bD e (λe=>(dN b e).elim (λe=>.inl<|bB<|bO<|bO e) λe=>.inr<|fS e) λe=>.inl<|bB<|bO<|bB e) λe=>(f_ b e).elim (λe=>.inl<|bB<|bB e) λe=>.inr<|fS e) λq ah=>(sP q ah).elim (λe=>.inl<|bB e) λe=>.inr<|rq e
  have yb:St (q+1) oc:=by have aZ:∀b∈O++bY m++aj.W,b∉bA:=λb n e=>(ba.7 b e).2<|bD n (λe=>bD e (λe=>(e3.5 b e).1) λe=>(e3.4 b e).1) λe=>(ah.2 b e).1;exact ba.1.2 _ _ _ (cw++bY m++bL.W) bL.G oT ((sL.mono (λb n=>bO<|bB n) aP).trans c6.6) (λb n=>bD n (λn=>bD n (λn=>eU (dN b n) (λG=>aZ b<|bO<|bO G) λG=>λe=>b4 (ba.7 b e).1 G) λn=>aZ b<|bO<|bB n) λn=>eU (f_ b n) (λG=>aZ b<|bB G) λG=>λe=>b4 (ba.7 b e).1 G) λq ah e=>I1 sP q e ah
  cases cN with
  |next=>refine eV br λdm qH oe=>?_;exact l dm<|⟨⟨nL,lr,mp,oU,oV,a1,fq,iy,jJ,Ed,Ee,qG,qH,oe,uc⟩,yb⟩|cont=>refine eV br λdX qH oe=>?_;exact l dX<|⟨⟨nL,lr,mp,oU,oV,a1,fq,iy,jJ,Ed,Ee,qG,qH,oe,uc⟩,yb⟩|brk=>exact eV br λeO qH oe=>l eO<|.inl ⟨f,I.mono (a1 m lr mp ax oU oc ar Q qH oe uc) λR w aa=>aa.trans<|vL fq iy jJ Ed Ee qG⟩|ret B=>exact bl br λaU fE aB=>l fE<|.inr ⟨aU,f,.ret B,nL,lr,mp,oU,oV,a1,n,vL fq iy jJ Ed Ee qG,⟨aU,f,aB⟩,uc⟩
 .rintro qD E gh sI g1;refine OE gh λbP bi cw cC bL da dJ dU dN f_ sP eK eB bR fy=>?_;have cX:bo g m bi cw cC bP E:=bR.yZ (cd:=aV) (λG U=>dJ G<|bO U) AZ (λG U=>a' gW (em G U).1) AY (λb v n j=>ba.1.6 _ qD b v sI n j) g1;have eY:bL.At g m bi cw E:=fy.it g1 (λb n=>⟨dJ b<|bO n,Ql f_ b n⟩)<|I1 sP;exact .inl ⟨f,I.mono (sC bP bL da m bi cw ax cC E ar Q eB cX eY) λR w aa=>aa.trans<|vL dJ dU dN f_ sP<|eK.trans<|g1.mono (λb n=>bO n) λx c=>bO c⟩
end b3
section
section
variable{prog:cL}{k:ck}{u:ch}{a w:ai}{i aH:aw}{t s aC:Nat}{bA aV:List aw}{ef:Nat->au->Prop}
theorem A5(s:Nat):p0 (λx=>W) s 0=c9 s:=by unfold p0;refine l z0 ?_;exact List.filter_eq_self.mpr λx x=>f
def iz(prog:cL)(k:ck)(u:ch)(i:aw)(t:Nat)(aH:aw)(bA aV:List aw)(s:Nat)(ef:Nat->au->Prop)(aC:Nat)(a:ai):Prop:=GenAt prog k u i t aH bA aV (λx=>W) s ef aC a
theorem a9.moved(ae:Moved aV (C1 t) a w)(G:i6 a w):a9 aV [t] a w:=by
 refine⟨ae.heap,G.1,λq h ah j=>?_,G.2,ae.gens.bare,ae.os⟩;rcases ae.gens with e|e
 .exact l e j
 .exact(e.1.2 q<|λc=>ah<|kl.mpr c).trans j
inductive m3(i aH:aw)(bA aV:List aw):Prop|mk(fQ:i≠aH)(fR:i∉bA)(gs:∀b∈aV,b∈bA)(i7:p1∈bA)(kq:p1≠aH)(mP:p1∉aV):m3 i aH bA aV
theorem iz.frame{cd:List aw}{dc:List Nat}(c:iz prog k u i t aH bA aV s ef aC a)(be:m3 i aH bA aV)(gz:a9 cd dc a w)(dr:∀b∈cd,b∉i::aH::bA)(iQ:t∉dc):iz prog k u i t aH bA aV s ef aC w:=by refine gc λx dA=>eV c λbK b8 dm=>bl dm λbU ln sQ=>tK bK λv nm yf aJ D=>bl b8 λdi lj j9=>dA ?_;have p:∀b∈i::aH::bA,∀v,a.heap.get? b=A v->w.heap.get? b=A v:=λb n v j=>gz.1 b v (λe=>dr b e n) j;exact⟨⟨v,nm,yf,p i bm v aJ,D⟩,⟨di,lj.at' λv j=>p _ (mt<|mt be.4) v j,j9⟩,bU,gz.3 t bU iQ ln,λek j_=>sQ ek λb n v j=>j_ b n v<|p b (mt n) v j⟩
theorem iz.item(c:iz prog k u i t aH bA aV s ef aC a)(be:m3 i aH bA aV)(b':u.handled=a7)(aB:u.depth<fA)(c4:aC<s){J:Option au->ai->Prop}(ac:∀B w,ef aC B->iz prog k u i t aH bA aV s ef (aC+1) w->a9 (aH::aV) [t] a w->J (A B) w):I prog k u (nY<|.ref i) J a:=by refine kP<|I.of<|(Hx (prog:=prog) (w:=k) b' i t aH bA aV (λx=>W) s ef be.1 be.2 be.3 aB be.4 be.5 be.6).item aC a _ _ (by refine l (A5 ..)<|l pg ?_;exact c4) c λB w aL st ae G=>?_;refine gc λx dA=>bl aL λq ah P=>?_;rw[A5,mG c4]at ah;cases ah;exact dA<|ac B w P st<|a9.moved ae G
theorem iz.done(c:iz prog k u i t aH bA aV s ef s a)(be:m3 i aH bA aV)(b':u.handled=a7)(aB:u.depth<fA){J:Option au->ai->Prop}(ac:∀w,a9 (aH::aV) [t] a w->J a7 w):I prog k u (nY<|.ref i) J a:=by exact kP<|I.of<|(Hx (prog:=prog) (w:=k) b' i t aH bA aV (λx=>W) s ef be.1 be.2 be.3 aB be.4 be.5 be.6).done a _ _ (by refine l (A5 ..)<|l pg ?_;exact c) λw ae G=>ac w<|a9.moved ae G
theorem iz.self(c:iz prog k u i t aH bA aV s ef aC a)(be:m3 i aH bA aV)(b':u.handled=a7)(aB:u.depth<fA){J:au->ai->Prop}(ac:J (.ref i) a):I prog k u (nj<|.ref i) J a:=I.of<|(Hx (prog:=prog) (w:=k) b' i t aH bA aV (λx=>W) s ef be.1 be.2 be.3 aB be.4 be.5 be.6).self aC a _ _ c ac
end
end
section
inductive TabAt(c:e0)(g L:aw)(cE:Array au):Prop|mk(fQ:c.IsCode g L cE)(fR:c.TableAt g L cE):TabAt c g L cE
theorem TabAt.keeps(h:TabAt c g L cE)(p:∀b v,c.get? b=A v->aa.get? b=A v):TabAt aa g L cE:=⟨h.1.keeps p,h.2.keeps p⟩
theorem TabAt.kept(h:TabAt c g L cE)(p:∀b,b=g\/b=L->∀v,c.get? b=A v->aa.get? b=A v):TabAt aa g L cE:=by obtain⟨⟨v,V,I2,I3,I4,vx,I5,I6,I7,nG,i,eD,eN,oW,ud,Ef,vQ,b,D⟩,⟨⟨dq,Zm,e9,gw⟩,E⟩⟩:=h;exact⟨⟨v,V,I2,I3,I4,vx,I5,I6,I7,nG,p _ (.inl f) _ i,eD,eN,oW,ud,Ef,vQ,p _ (.inr f) _ b,D⟩,⟨dq,Zm,p _ (.inl f) _ e9,gw⟩,p _ (.inr f) _ E⟩
theorem TabAt.ne(h:TabAt c g L cE):g≠L:=by exact OD h.1 λv V I2 I3 I4 vx I5 I6 I7 nG i eD eN oW ud Ef vQ b yg yh c_=>c_
theorem TabAt.triples(h:TabAt c g L cE):TriplesOk cE.toList:=by exact OD h.1 λv V I2 I3 I4 vx I5 I6 I7 nG i eD eN oW ud Ef vQ b yg yh c_=>yh
theorem Zn(aO:m.code=.ref g)(kW:TabAt a.heap g L cE)(ac:∀code aa y j' ec,Ac L a.heap aa->a.heap.objs.size<=aa.objs.size->TabAt aa g L j'->j'=cE++ec->J code {a with heap:=aa,toks:=y}):cj (cG prog k) u (genexprCode m ak qualname a4) J aN a:=by cases be:codeAmong ak cE.toList with|some aR=>exact wpAny_genexprCode_hit aO kW.1 be<|ac aR a.heap a.toks cE #[] (Hy _ _) (dD _) kW (by simp)|none=>exact wpAny_genexprCodeX aO kW.1 kW.2 be λaR aa y br ag aF bb cn eC gS=>ac _ aa y _ _ br (no<|mD ag aF) ⟨bb,eC⟩ f
theorem Qm{m:Env}{dz ht:bH}{h:Str}{hn:Pos}{a4:dp}{kQ:List<|Str×aw}{ak:Pos}{g L:aw}{cE:Array au}{pF:List aw}{s:Nat}{sD:Nat->au->Prop}{Eg:aw->Nat->e0->Prop}{bf:ch}{ef:Nat->au->Prop}{J:au->ai->Prop}(xY:a4.isCoroutine=a2)(Il:uX a4 m=pure kQ)(lh:∀M∈a4.names,M.2≠.cell)(aG:a4.names.lookup (".0":Str)=A NameKind.local)(X:a4.names.lookup h=A .local)(AE:a4.kind=.function)(fF:u.depth<fA)(aM:a.heap.NoLimit)(alz:bf.handled=a7)(aO:m.code=.ref g)(kW:TabAt a.heap g L cE)(Q:∀h,genFold ht m h=pure h)(Zo:∀(d5:ch)m4 w(nA:aw->ai->Prop),(∀b v,b≠L->a.heap.get? b=A v->w.heap.get? b=A v)->nA m.builtins w->cj (cG prog k) d5 (builtinsFor m.globals m.builtins) nA m4 w)(Eh:∀b∈pF,b<a.heap.objs.size)(I8:p1∈pF)(Qn:L∉pF)(gL:I prog k u (dF ht m) (λA6 an=>I prog k u (nj A6) (λey al=>∃aj,ey=.ref aj/\a.heap.objs.size<=aj/\aj<al.heap.objs.size/\a9 [] [] a al/\Eg aj 0 al.heap/\∀d5:ch,d5.handled=a7->Walks prog k d5 aj [aj] [aj] s sD (Eg aj)) an) a)(Zp:∀aH code(d5:ch)m4 q B(al:ai)ue,d5.handled=a7->d5.depth<=bf.depth+1->d5.units<=bf.units+4->q<s->sD q B->al.heap.Ns aH ue->ue h=A B->(∀b∈pF,∀v,a.heap.get? b=A v->al.heap.get? b=A v)->cj (cG prog k) d5 (dF dz<|genEnv a4 kQ aH code m.builtins m) (λM bT=>ef q M/\kk al bT) m4 al)(Zq:∀q B,sD q B->q<s)(ac:∀i aH t aj j' ec w,a.heap.objs.size<=i->a.heap.objs.size<=aH->a.heap.objs.size<=aj->i<w.heap.objs.size->aH<w.heap.objs.size->aj<w.heap.objs.size->a.gens.size<=t->t<w.gens.size->a9 [L] [] a w->TabAt w.heap g L j'->j'=cE++ec->m3 i aH (aj::pF) [aj]->(∀kX:ch,kX.handled=a7->kX.depth<=bf.depth->kX.units<=bf.units->iz prog k kX i t aH (aj::pF) [aj] s ef 0 w)->J (.ref i) w):I prog k u (dF (.GeneratorExp dz [⟨.Name h hn,ht,[],0⟩] a4 ak) m) J a:=by
 refine l (eval_GeneratorExp1 _ _ _ _ _ _ _ xY)<|Il.symm▸g8 gL λA6 an bn=>dQ<|l (Q A6)<|ea<|d2<|I.mono bn λey al bG=>Wd bG λaj b8 Ei I9 lk gG qB=>l b8 ?_;have iY:∀b v,a.heap.get? b=A v->al.heap.get? b=A v:=λb v j=>lk.1 b v (λe=>dI e) j;have pG:al.heap.NoLimit:=aM.keeps iY;refine dv<|wpAny_enterFrame pG fF<|ea<|I.bind<|kP<|I.of<|Zn aO (kW.keeps iY) λcode bb Qp j' ec vR vS Zr ka jb=>?_;have sG:∀b v,b≠L->a.heap.get? b=A v->bb.get? b=A v:=λb v n j=>vR b v n<|iY b v j;refine dv<|Zo _ _ _ _ sG ?_;have Zs:∀M∈([((".0":Str),e8 aj)]:List<|Str×au),a4.names.lookup M.1=A NameKind.local:=by
  intro M a3
  revert M;refine gr ?_ ?_
  .exact aG
  .intro M a3;exact dI a3
 refine dv<|Gm lh Zs (λaa mj dB=>?_) AE;have j:(λM:Str=>([((".0":Str),e8 aj)]:List<|Str×au).reverse.lookup M)=λM:Str=>if M=(".0":Str)then A (e8 aj)else a7:=by
  funext M;by_cases a3:M=".0"
  .refine l a3 ?_;rfl
  .have:(M==(".0":Str))=a2:=by simpa using a3
   simp[List.lookup,this,a3]
 replace mj:=j▸mj;simp only[newGenerator,newFields];refine kP<|I.of<|bg<|wpAny_newGen<|bg<|Gu<|bg<|Gu<|i4 ?_ (by size_fits);intro G;have og:a.heap.objs.size<=bb.objs.size:=a' lk.2 vS;have dW:aa.objs.size=bb.objs.size+1:=l dB.1<|l (f' ..) f;have ry:∀b v,bb.get? b=A v->aa.get? b=A v:=λb v j=>dB.extBut b v (hS<|dH j)<|eT _ j;let kY:Obj:={cls:=.type "generator",data:=.fields #[.int al.gens.size 0,.str "<genexpr>"<|Qp+1,.str (m.qual++"<genexpr>")<|Qp+1+1]};have Ej:∀b v,bb.get? b=A v->(aa.push kY).get? b=A v:=λb v j=>eT _<|ry b v j;have Qq:∀b v,b≠L->a.heap.get? b=A v->(aa.push kY).get? b=A v:=λb v n j=>Ej b v<|sG b v n j;have Ek:p1<a.heap.objs.size:=Eh _ I8;have ia:m3 aa.objs.size bb.objs.size (aj::pF) [aj]:=by
  refine⟨l dW<|M_ _,λe=>?_,λb n=>bc n▸bm,mt I8,hS<|cI Ek og,λe=>?_⟩
  .refine di e (λe=>?_) λe=>?_
   .have:aj<bb.objs.size:=cI I9 vS;rw[<-e,dW]at this;exact b4 this<|js _
   .have:=cI (Eh _ e) og;replace this:=dW▸this;exact b4 this<|js _
  .replace Ek:=(bc e)▸Ek;exact b4 Ek Ei
 refine ac aa.objs.size bb.objs.size al.gens.size aj j' ec _ (l dW<|xk og) og Ei (by show aa.objs.size<(aa.push kY).objs.size;refine l (f' ..) ?_;exact ks _) (by show bb.objs.size<(aa.push kY).objs.size;refine l (f' ..)<|l dW ?_;exact pe<|ks _) (by show aj<(aa.push kY).objs.size;refine l (f' ..)<|l dW ?_;exact pe<|pe<|cI I9 vS) lk.4 (by show al.gens.size<(al.gens.push _).size;refine l (Aa ..) ?_;exact ks _) ?_ (Zr.keeps Ej) ka ia ?_
 .refine⟨λb v n j=>Qq b v (λe=>n<|kl.mpr e) j,?_,λq M x j=>?_,?_,λn=>(lk.5 n).push f,lk.6⟩
  .show a.heap.objs.size<=(aa.push kY).objs.size;exact l (f' ..)<|l dW<|xk<|xk og
  .show(al.gens.push _)[q]?=_;have cg:=lk.3 q M (λe=>dI e) j;have c1:q<al.gens.size:=by
    refine eU (pd q al.gens.size) (λc=>?_) λc=>?_
    .exact c
    .replace cg:=(Hl c)▸cg;exact d1 cg
   refine l (Array.getElem?_push_lt c1)<|c2 (pi c1) ?_;exact cg
  .show a.gens.size<=(al.gens.push _).size;exact l (Aa ..)<|xk lk.4
 .intro kX Qr I_ Zt;refine GenAt.freshD (cenv:=genEnv a4 kQ bb.objs.size code m.builtins m) (m:=λM=>if M=".0"then A (.ref aj)else a7) Qr (λd5 ar=>(qB d5 ar).mono_fp λb n=>bc n▸bm) (λx=>W) ef X (by simp[genEnv,AE]) xY ?_ ?_ ⟨_,_,_,fj _ f,f,f,f⟩ (Array.getElem?_push_size ..) ?_ (mj.push _) ?_
  .show bb.objs.size∉aj::pF;intro e;refine di e (λe=>?_) λe=>?_
   .have:aj<bb.objs.size:=cI I9 vS;replace this:=e▸this;exact iK _ this
   .exact iK _<|cI (Eh _ e) og
  .have Zu:∀bT:ai,(∀b∈aj::pF,b∉[aj]->∀v,(aa.push kY).get? b=A v->bT.heap.get? b=A v)->∀b∈pF,∀v,a.heap.get? b=A v->bT.heap.get? b=A v:=λbT c b n v j=>c b (mt n) (λe=>b4 (Eh b n)<|bc e▸Ei) v<|Qq b v (λe=>Qn<|e▸n) j;exact⟨λd5 m4 q B bT ue fH x x aL yi uf a8=>cu ⟨f,bT.heap,bT.toks,f,λx x j=>j⟩,λd5 m4 q B bT ue fH bp d_ aL x yi uf a8=>Zp _ code d5 m4 q B bT ue fH (a' bp<|GX I_ 1) (a' d_<|GX Zt 4) (Zq q B aL) aL yi uf<|Zu bT a8⟩
  .refine(qB kX Qr).frame _ _ _ gG λb n v j=>?_;rw[bc n]at j⊢;exact Ej _ _<|vR _ _ (λe=>b4 kW.1.lt.2<|e▸Ei) j
  .exact bl pG λdi lj j9=>⟨di,lj.at' λv j=>Ej _ _<|vR _ _ (λe=>Qn<|e▸I8) j,j9⟩
end
theorem Zv:uS (.type "range_iterator") (.type "reversed")=pure a2:=by refine l (kj ..) ?_;cbv
section
noncomputable def El(s:Nat):Obj:={cls:=.type "range_iterator",data:=.fields #[hE<|(s:Int)-1,hE s,hE<|-1]}
theorem Qs(q:Int)(E:Tok):asInt? (.int q E)=pure (A q):=by simp only[asInt?]
theorem Zw{D:aw}{s:Nat}{E av B:Tok}{J:au->ai->Prop}(aB:rb a.heap D 0 s 1 E av B)(ay:(s:Int)<2^62)(c:J (.ref a.heap.objs.size) {a with heap:=a.heap.push<|El s}):cj (cG prog k) u (call (.builtin "range.__reversed__") [.ref D]) J aN a:=by
 have cz:a.TypeIs (.ref D) "range":=⟨_,aB,f⟩;refine kJ Hq cz F.entry_range_reversed ?_<|F.args_range_reversed_1 _;have U:sg 0 s 1=s:=D5 s;have Zx:(sh 0&&sh s&&sh 1&&sh (-1)&&sh (0-1)&&sh (s:Int))=W:=by
  unfold sh;have bW:(-9223372036854775808:Int)<=s:=by exact bZ (.cz (.g<|.n 9223372036854775808)<|.c .x) [] f
  have cR:(s:Int)<9223372036854775808:=by exact bZ (.cg (.c .x)<|.n 9223372036854775808) [.cg (.c .x)<|.n 4611686018427387904] f ay
  simp[bW,cR]
 refine me (i:=e8 D) f<|bg (m:=Builtin.Range.rangeFields<|.ref D)<|ir aB f (h:=.int 0 E) f ?_;simp only[Qs,pure_bind];refine ir aB f (h:=.int s av) f ?_;simp only[Qs,pure_bind];refine ir aB f (h:=.int 1 B) f<|cu ?_;refine U.symm▸Zx.symm▸?_;have f3:(0+((s:Int)-1)*1)=(s:Int)-1:=by exact bZ (.eK (.a (.n 0)<|.r (.s (.c .x)<|.n 1) 1)<|.s (.c .x)<|.n 1) [] f
 exact bg<|i4<|f3.symm▸cu (dk _ f c)
theorem Zy{D:aw}{s:Nat}{E av B:Tok}{Qu:au->ai->Prop}(aB:rb a.heap D 0 s 1 E av B)(ay:(s:Int)<2^62)(c:Qu (.ref a.heap.objs.size) {a with heap:=a.heap.push<|El s}):zr (cG prog k) u (.call (.builtin "reversed.__new__") ⟨[.type "reversed",.ref D],[]⟩) (wants Qu aN) a:=by
 have cz:a.TypeIs (.ref D) "range":=⟨_,aB,f⟩;refine zv ?_;show cj _ u.in1 (do uR "reversed.__new__" ⟨[.type "reversed",.ref D],[]⟩;again<|.builtin "reversed.__new__" ⟨[.type "reversed",.ref D],[]⟩) _ _ a;refine me (F.newCall_reversed_1 _)<|cu ⟨nX F.plain_reversed_new _,xd F.entry_reversed_new<|me (newClass_reversed _) ?_⟩;try dsimp only
 refine me (i:=()) (by first|rfl|cbv)<|me (i:=()) (by first|rfl|cbv) ?_;try dsimp only
 refine bg<|g6 cz Hq.lookup ?_;try dsimp only
 refine me (Hq.bind _) ?_;try dsimp only
 first|refine l (if_neg<|show¬((Ad "range.__reversed__"==oG)=W)from zp) ?_|(show cj _ _ (if(Ad "range.__reversed__"==oG)=W then _ else _) _ _ _;rw[if_neg<|show¬((Ad "range.__reversed__"==oG)=W)from zp])
 refine bg<|l_<|bg (m:=runValue<|.call (.builtin "range.__reversed__") ⟨[.ref D],[]⟩)<|show cj _ _ (call (.builtin "range.__reversed__") [.ref D]) _ _ _ from Zw aB ay ?_;first|exact cu c|exact lb<|cu c
theorem Zz{D:aw}{s:Nat}{E av B:Tok}{J:au->ai->Prop}(aB:rb a.heap D 0 s 1 E av B)(ay:(s:Int)<2^62)(c:J (.ref a.heap.objs.size) {a with heap:=a.heap.push<|El s}):cj (cG prog k) u (call (.type "reversed") [.ref D]) J aN a:=by exact callType_other (U:="range_iterator") (Q₁:=λnD an=>nD=.ref a.heap.objs.size/\an={a with heap:=a.heap.push<|El s}) (by decide+kernel) F.create_reversed (mf _ _ F.mro_reversed) F.made_reversed Zv (F.typeCall_reversed_1 _) (Zy aB ay ⟨f,f⟩)<|qk<|⟨⟨_,fj _ f,f⟩,c⟩
end
section
variable{g:d7}
noncomputable def I':gn->au|.ret B=>B|_=>.none
theorem ZA(fF:u.depth<fA)(be:FnAt a i bh el)(n:jr a bh ⟨aY,[]⟩ iw)(aJ:∀r∈iw,AB (c3 bh i a) r.1)(aB:bX a.heap o V (iw.map (·.2)))(cA:∀h∈o,h<a.heap.objs.size)(c:∀w,(∀b∈bY<|c3 bh i a,a.heap.objs.size<=b)->oL (c3 bh i a) (bY (c3 bh i a)++o) (xZ iw V []) (bM [] a) w->I prog k (u.deeper<|c3 bh i a) (dG el<|c3 bh i a) (λR ek=>J (I' R) ek) w):I prog k u (et (.ref i) aY []) J a:=by
 refine bl be.1 λv jF bp=>I.call<|D6 fF jF bp be.2 be.3 be.4 be.5<|I.of<|n _ _ _ _<|be.8.symm▸PM be.6 be.7 aJ aB cA λw dx bR=>⟨?_,Iz ?_⟩
 .exact be.9.keeps λb v j=>bR.3.1 b v (λc=>dI c) j
 .refine I.mono (c w dx bR) ?_;intro R ek aZ;exact⟨_,f,by cases R<;>exact aZ⟩
theorem Qw(aO:g.Ok)(ar:eJ (z+1) u)(be:FnAt a i bh el)(mr:bh.globals=3)(oh:bh.builtins=0)(Ja:∀i∈g.tabs,i∈o)(Jb:∀i∈o,i∈g.tabs\/g.s0.heap.objs.size<=i)(Em:∀h∈o,h<Y)(g3:Y<=a.heap.objs.size)(oi:fp g a)(aL:mq Y o eP a aY)(aM:eP.length=eh.length)(n:jr a bh ⟨sR,[]⟩<|eh.zip aY)(aJ:eh.all (kU bh.scope)=W)(iU:∀w,(∀b∈bY<|c3 bh i a,a.heap.objs.size<=b)->a9 [] [] a w->ct g (c3 bh i a) (bY (c3 bh i a)++o) [] o w.heap.objs.size->bo g (c3 bh i a) (bY (c3 bh i a)++o) [] w.heap.objs.size (jn eh eP []) w->eJ z (u.deeper<|c3 bh i a)->I g.prog g.w (u.deeper<|c3 bh i a) (dG el<|c3 bh i a) (λR ek=>J (I' R) ek) w):I g.prog g.w u (et (.ref i) sR []) J a:=by
 have cP:=aL.length;have gW:g.s0.heap.objs.size<=a.heap.objs.size:=oi.1.2;have hK:∀h∈o,h<a.heap.objs.size:=λh X=>cI (Em h X) g3;have A4:=Qi a bh.scope;have cR:(eh.zip aY).map (·.2)=aY:=by have:aY.length=eh.length:=cP.trans aM;rw[Nn];exact c' (.l .x .y) [.e .x .y] f this
 refine ZA (o:=o) (V:=A3 eP aY) (iw:=eh.zip aY) (mD (a' (hT _ _) ar.2) aS) be n (λe aZ=>?_) (cR.symm▸aL.Gl Em) hK λw dx bR=>?_
 .refine(vz<|hU.mp aJ _<|(No aZ).1).elim .inl λa8=>?_
  .exact cJ (GG.mp<|AJ bh.scope.names (a.heap.objs.size+1) [] e.1<|.inr a8) λb eX=>.inr ⟨b,a8,eX,λM IW x a3 c_=>A4 _ _ _ _ a3 eX c_⟩
 .have AV:∀b∈bY<|c3 bh i a,b<w.heap.objs.size:=λb n=>bR.1 b<|bO n;have cc:a9 [] [] a w:=bR.3;have eB:ct g (c3 bh i a) (bY (c3 bh i a)++o) [] o w.heap.objs.size:=by exact⟨be.6,mr,oh,λb n=>⟨bO n,a' gW<|dx b n,(λe=>nomatch e),λe=>b4 (hK b e)<|dx b n⟩,aP,λb n=>bB n,Ja,bR.1,λb n=>bD n (λe=>.inr<|a' gW<|dx b e) λe=>Jb b e,A4⟩
  have ye:bo g (c3 bh i a) (bY (c3 bh i a)++o) [] w.heap.objs.size (jn eh eP []) w:=by
   refine bl bR.2 λcW aE vu=>?_;have cV:∀M bt,fb (jn eh eP []) M bt->∃jN aR,bt=hx.slot jN/\(∃k,cW M=A k/\bV w.heap (bY (c3 bh i a)++o) (yd jN aR) k)/\fg Y o jN.1 jN.2 a aR:=λM bt a3=>by exact dZ (Qj (Y:=Y) (o:=o) (a:=a) (hj:=[]) (oJ [1,1,1] [1,-1,-1] (.e .x .y) [.e .z .x,.e .y .z] f aM cP) (id<|zV cP) (by intro _ _ c;exact nomatch c) aL a3) λjN aR j e c0=>⟨jN,aR,j,vu _ _ e,c0⟩
   refine⟨dD _,oi.to cc aP,cW,aE,λM bt a3=>?_,λM av a3=>?_,λM av a3=>?_⟩
   .refine dZ (cV M bt a3) λbK aR b8 dm vP=>?_;obtain⟨p,B⟩:=bK;obtain rfl:=b8;obtain⟨k,cr,aB⟩:=dm;refine⟨k,cr,?_⟩;cases p with
    |fr=>exact aB|b2=>exact aB|ls=>
     have hJ:k=aR:=by have aa:bV w.heap (bY (c3 bh i a)++o) (.raw aR) k:=aB;exact aa
     subst hJ;exact bl vP λb j D=>⟨b,j,D.to (λb v n j=>⟨cc.all b v j,by refine gq jW<|gq not_or ?_;exact⟨λe=>b4 (dH j)<|dx b e,n⟩⟩) λv j=>cc.all _ v j⟩
   .refine fM (cV M _ a3) λdX aR j x=>?_;obtain⟨p,B⟩:=dX;cases p<;>exact nomatch j
   .refine dZ (cV M _ a3) λeO aR j fE vP=>?_;obtain⟨p,B⟩:=eO;obtain⟨k,cr,aB⟩:=fE;cases p<;>cases j;have hJ:k=aR:=by have aa:bV w.heap (bY (c3 bh i a)++o) (.raw aR) k:=aB;exact aa
    subst hJ;refine bl vP λb j D=>?_;subst j;exact⟨b,cr,(λe=>nomatch e),λe=>b4 D.lt<|dx b e⟩
  have fH:eJ z (u.deeper<|c3 bh i a):=⟨ar.1,by have:=ar.2;show u.depth+1+z<=900;exact c' (.l (.a (.o .x) .y)<|.n 900) [.l (.a .x<|.o .y)<|.n 900] f this,by have:=ar.3;show u.units+3+4*z<=5000;exact c' (.l (.a (.a .x<|.n 3)<|.m 4 .y)<|.n 5000) [.l (.a .x<|.m 4<|.o .y)<|.n 5000] f this⟩;exact iU w dx cc eB ye fH
theorem Qz(aO:g.Ok)(ar:eJ (z+1) u)(be:FnAt a i bh el)(mr:bh.globals=3)(oh:bh.builtins=0)(Ja:∀i∈g.tabs,i∈o)(Jb:∀i∈o,i∈g.tabs\/g.s0.heap.objs.size<=i)(Em:∀h∈o,h<Y)(g3:Y<=a.heap.objs.size)(oi:fp g a)(aL:mq Y o eP a aY)(aM:eP.length=eh.length)(n:jr a bh ⟨sR,[]⟩<|eh.zip aY)(aJ:eh.all (kU bh.scope)=W)(iU:∀w,(∀b∈bY<|c3 bh i a,a.heap.objs.size<=b)->a9 [] [] a w->ct g (c3 bh i a) (bY (c3 bh i a)++o) [] o w.heap.objs.size->bo g (c3 bh i a) (bY (c3 bh i a)++o) [] w.heap.objs.size (jn eh eP []) w->eJ z (u.deeper<|c3 bh i a)->I g.prog g.w (u.deeper<|c3 bh i a) (dG el<|c3 bh i a) (λR ek=>∃B,R=.ret B/\J B ek) w):I g.prog g.w u (et (.ref i) sR []) J a:=Qw aO ar be mr oh Ja Jb Em g3 oi aL aM n aJ λw dd ee i' qz qA=>(iU w dd ee i' qz qA).mono λR a e=>bl e λB j c=>l j c
theorem A7(aO:g.Ok)(ar:eJ (z+1) u)(be:FnAt a i bh el)(mr:bh.globals=3)(oh:bh.builtins=0)(P:ct g m o O ax Y)(r:bo g m o O Y C a)(aL:mq Y o eP a aY)(aM:eP.length=eh.length)(n:jr a bh ⟨sR,[]⟩<|eh.zip aY)(aJ:eh.all (kU bh.scope)=W)(iU:∀w,(∀b∈bY<|c3 bh i a,a.heap.objs.size<=b)->a9 [] [] a w->ct g (c3 bh i a) (bY (c3 bh i a)++o) [] o w.heap.objs.size->bo g (c3 bh i a) (bY (c3 bh i a)++o) [] w.heap.objs.size (jn eh eP []) w->eJ z (u.deeper<|c3 bh i a)->I g.prog g.w (u.deeper<|c3 bh i a) (dG el<|c3 bh i a) (λR ek=>∃B,R=.ret B/\J B ek) w):I g.prog g.w u (et (.ref i) sR []) J a:=Qz aO ar be mr oh (λb n=>P.6 b<|P.7 b n) P.9 P.8 r.1 r.2 aL aM n aJ iU
inductive d7.GA(g:d7):Prop|mk(fQ:g.Ok)(fR:∀(u:ch)(aN:au->ai->Prop)(c:ai)(J:aw->ai->Prop),(∀b v,b<g.s0.heap.objs.size->b∉g.tabs->g.s0.heap.get? b=A v->c.heap.get? b=A v)->J 0 c->cj (cG g.prog g.w) u (builtinsFor 3 0) J aN c)(gs:p1<g.s0.heap.objs.size/\p1∉g.tabs):d7.GA g
noncomputable def d7.rm(g:d7):List Addr:=(c9 g.s0.heap.objs.size).filter λb=>!g.tabs.contains b
theorem ls{b:aw}:b∈g.rm↔b<g.s0.heap.objs.size/\b∉g.tabs:=by unfold d7.rm;simp
theorem Walks.lt{prog:cL}{k:ck}{aj:aw}{bA aV:List aw}{s:Nat}{L:Nat->au->Prop}{St:Nat->e0->Prop}(de:Walks prog k u aj bA aV s L St):Walks prog k u aj bA aV s (λq B=>q<s/\L q B) St:=⟨(de.sub),(de.frame),(λq a J aN ah st ac=>de.item q a J aN ah st λB aa y bJ=>ac B aa y ⟨ah,bJ⟩),(de.done),(de.self)⟩
theorem ZB{s:Nat}{e c0 vT:Pos}(aO:g.Ok)(P:ct g m o O ax Y)(c:co g.prog g.w u [] [] m (bo g m o O Y C) j<|d' s)(aK:g.gl "range"=A (.type "range"))(ge:g.gl "reversed"=A (.type "reversed"))(X:eE m.scope "range"=W)(hk:eE m.scope "reversed"=W)(ay:dT j=W)(U:s<2^62):co g.prog g.w u [] [] m (bo g m o O Y C) (.Call (.Name "reversed" e) [.Call (.Name "range" c0) [j] [] vT] [] ak) (λa g=>∃aj,g=.ref aj/\Y<=aj/\oB a.heap aj ((s:Int)-1) s (-1)):=by
 have po:co g.prog g.w u [] [] m (bo g m o O Y C) (.Call (.Name "range" c0) [j] [] vT) (λa g=>∃D E av B,g=.ref D/\rb a.heap D 0 s 1 E av B):=by refine mS P.ok (ix aO P aK X) f (jl ay P.ok c (kr _) kt) ?_ (by simp[ay]);rintro a aY r gh J ac;exact dZ gh λx x gV h1 i8=>l gV<|cJ h1 λE e2=>l e2<|l i8<|I.of<|CP<|ac _ _ (bM.new _ _ a _ _)<|DK _ _ _ _ f<|fj _ f
 have Jc:mi [] [] (λa g=>∃D E av B,g=.ref D/\rb a.heap D 0 s 1 E av B):=by rintro a w aR jC t;exact DE jC λD E av B j c=>(DK D E av B j<|t.1 _ _ (λe=>dI e) c)
 refine mS P.ok (ix aO P ge hk) f (jl f P.ok po Jc kt) ?_ f;rintro a aY r lm J ac;exact dZ lm λx x mm sM qv=>l mm<|DE sM λD E av B g2 aB=>l g2<|l qv<|I.of<|Zz aB (bZ (.cg (.c .x)<|.n 4611686018427387904) [.t .x<|.n 4611686018427387904] f U)<|ac _ _ (bM.new _ _ a _ _)<|p9 _ f r.1<|fj _ f
end
section
variable{g:d7}{z:Nat}{T:dp}{C:cm}{j ez fo:bH}{p:hx}{ak dO:Pos}{ab:List Int}
noncomputable def Jd:bH->List Str|.Name h bC=>[h]|.Tuple as bC dw=>(nJ as).getD []|_=>[]
noncomputable def oX(b5:bH)(C:cm):Bool:=(Jd b5).all λh=>C.all λr=>!(r.1==h)
theorem ZC(c:fb C M bt):∃r∈C,r.1=M:=by induction c with|here=>exact(dk _ bm f)|there _ _ a5=>refine bl a5 λr a1 j=>?_;exact(dk r (mt a1) j)
theorem QA:∀{aA:List Str}{V:List bd}{C:cm},(∀h∈aA,h≠M)->fb C M bt->fb (mZ aA V C) M bt|[],bC,dw,ic,c=>c|h::aA,[],bC,dw,c=>c|h::aA,B::V,C,ay,c=>QA (aA:=aA) (V:=V) (λG U=>ay G<|mt U)<|.there (beq_false_of_ne<|ay h bm) c
theorem A8(c:oX b5 C=W):t8 b5 B C:=by
 intro M bt a3;have cV:∀h∈Jd b5,h≠M:=by intro h X j;subst j;refine bl (ZC a3) λr a1 j=>?_;have:=hU.mp (hU.mp c h X) r a1;replace this:=j▸this;simp at this
 refine IM (L:=λC=>fb C M bt) (λh r j=>?_) (λas p r V j=>?_) a3
 .subst j;exact .there (beq_false_of_ne<|cV _<|bm) a3
 .subst j;exact QA cV a3
structure mQ(g:d7):Prop where
 ok:g.Ok
 len:g.gl "len"=A (.builtin "len")
 range:g.gl "range"=A (.type "range")
 enumerate:g.gl "enumerate"=A (.type "enumerate")
 zip:g.gl "zip"=A (.type "zip")
theorem ug(c:-(2^64)<i/\i<2^64):IntMulOk i b:=IntMulOk.of_left<|intBits_le_64 c.1 c.2
theorem En(c:b.natAbs<1073741824):z' i b=a2:=PyProof.noPylong_small c
theorem af.cast(c:af g z T C j p B)(e:B=hz):af g z T C j p hz:=e▸c
theorem c5.cast(c:c5 g z T C j i)(e:i=b):c5 g z T C j b:=e▸c
theorem gt.nl:gt g z T C [] []:=trivial
theorem gt.hQ(c:af g z T C j .b2 B)(Q:gt g z T C as V)(ay:dT j=W:=by rfl):gt g z T C (j::as) (B::V):=⟨ay,c,Q⟩
theorem ha.nl:ha g z T C [] []:=trivial
theorem ha.hQ(c:af g z T C j p B)(Q:ha g z T C as V)(ay:dT j=W:=by rfl):ha g z T C (j::as) ((p,B)::V):=⟨ay,c,Q⟩
theorem ei.cast(c:ei g z T C j e)(k:e=c0):ei g z T C j c0:=k▸c
namespace aE
theorem fr(c:oX b5 C=W:=by cbv):t8 b5 B C:=A8 c
theorem nm(aK:fU C h=A (.f B):=by rfl)(X:g9 T h=W:=by cbv):af g z T C (.Name h ak) .b2 B:=af.name aK X
theorem rn(aK:fU C h=A (.o B):=by rfl)(X:g9 T h=W:=by cbv):af g z T C (.Name h ak) .ls B:=af.Mk aK X
theorem GD(aK:fU C h=A (.b B):=by rfl)(X:g9 T h=W:=by cbv):af g z T C (.Name h ak) .ls B:=af.BU aK X
theorem ll(s:mQ g)(c:af g z T C j p<|bN ab)(U:ab.length<2^62)(X:eE T "len"=W:=by cbv)(ay:dT j=W:=by rfl):c5 g z T C (.Call (.Name "len" dO) [j] [] ak) ab.length:=af.ll s.ok c s.len X ay U
theorem t_(s:mQ g){h:Str}{ae:Nat}{e:Pos}(c:c5 g z T C j ae)(U:ae<2^62)(X:eE T "range"=W:=by cbv)(ay:dT j=W:=by rfl):gx g z T C ie (.Name h dO) (.Call (.Name "range" e) [j] [] ak) ((j7 0 1 ae).map .int):=gx.t_ s.ok c s.range X ay U
theorem FW(s:mQ g){h:Str}{e:Pos}{st:Int}{ae:Nat}(bn:c5 g z T C H i)(bG:c5 g z T C D b)(jD:c5 g z T C E st)(aG:st≠0)(Q:xw i b st=W)(a1:z' (b-i) st=a2)(dW:sg i b st=ae)(X:eE T "range"=W:=by cbv)(ay:dT H=W/\dT D=W/\dT E=W:=by exact⟨f,f,f⟩):gx g z T C ie (.Name h dO) (.Call (.Name "range" e) [H,D,E] [] ak) ((j7 i st ae).map .int):=gx.FW s.ok bn bG jD s.range X ay aG Q a1 dW
theorem Ya(s:mQ g){h:Str}{e:Pos}{ae:Nat}(bn:c5 g z T C H 0)(bG:c5 g z T C D ae)(jD:c5 g z T C E 8)(bw:ae<2^40)(X:eE T "range"=W:=by cbv)(ay:dT H=W/\dT D=W/\dT E=W:=by exact⟨f,f,f⟩):gx g z T C ie (.Name h dO) (.Call (.Name "range" e) [H,D,E] [] ak) ((j7 0 8<|(ae+7)/8).map .int):=by have dW:=Qk ae;refine FW s bn bG jD aS ?_ (En aS) dW X ay;unfold xw;refine dW.symm▸?_;rw[if_pos aS,rt _ aS aS,rt _ (by exact bZ (.cz (.g<|.n 4611686018427387904)<|.c .x) [] f) (by exact bZ (.cg (.c .x)<|.n 4611686018427387904) [.t .x<|.n 1099511627776] f bw),rt _ aS aS,rt _ (by exact bZ (.cz (.g<|.n 4611686018427387904)<|.c .x) [] f) (by exact gT [8,1,1] (.cg (.c .x)<|.n 4611686018427387904) [.t .y<|.n 1099511627776,.l (.m 8 .x)<|.a .y<|.n 7] f bw<|pn _ 8),rt _ (by exact bZ (.cz (.g<|.n 4611686018427387904)<|.a (.c .x)<|.s (.n 8)<|.n 1) [] f) (by exact bZ (.cg (.a (.c .x)<|.s (.n 8)<|.n 1)<|.n 4611686018427387904) [.t .x<|.n 1099511627776] f bw)];simp
theorem Co{ae:Nat}(bn:af g z T C ez p<|bN ab)(bG:c5 g z T C fo ae)(X:ae<ab.length)(U:ab.length<=cp)(ah:mU fo=W:=by rfl):c5 g z T C (.Subscript ez fo ak) (ab.getD ae 0):=af.yJ bn bG (kL ae) X U ah
theorem t1(c:oR e T h=W:=by cbv):mn e T (.Name h dO) B:=c
theorem t2(ay:nJ as=A ca:=by rfl)(aM:V.length=ca.length:=by rfl)(c:ca.all (oR e T)=W:=by cbv):mn e T (.Tuple as ae dO) (.tup V):=⟨ca,ay,aM,c⟩
end aE
theorem Je(i z:Int)(s:Nat):(j7 i z s).length=s:=by simp[j7]
theorem Jf(c:((j7 i z s).map bd.int)[q]?=A h):q<s/\h=.int (i+q*z):=by
 have ah:q<s:=by simpa[j7]using(k_.mp c).1
 refine⟨ah,?_⟩;rw[j7,fW,fW,mG ah]at c;exact(fu c).symm
theorem QD{ab:List Int}{q:Nat}{h:bd}(c:(ab.map bd.int)[q]?=A h):q<ab.length/\h=.int (ab.getD q 0):=by
 have ah:q<ab.length:=by simpa using(k_.mp c).1
 refine⟨ah,?_⟩;rw[fW,gQ ah]at c;exact l (hF)<|l (gQ ah)<|(fu c).symm
end
structure e_ where
 T:BT
 n:Nat
 toks:Nat
noncomputable def e_.abs(b:ai)(gA:Nat)(h:e_):Shared:=⟨jZ h.T h.n b.heap.life,b.gens,b.drawn,gA+h.toks,b.os⟩
noncomputable def m5:Bool->Option Unit|true=>A ()|false=>a7
noncomputable def Jg(a0:BT)(s i:Nat):Option Obj:=(m5<|ty i s).bind λx=>(a0.get i).bind h_
noncomputable def Jh(a0:BT)(s i:Nat):Option (Option Obj):=match ty i s with|true=>(a0.get i).map h_|false=>A a7
noncomputable def kz{bk:Type}(st:pb)(gA:Nat)(eL:Ctx->Pos->e_->Option (p2×e_))(C:Ctx):Sem bk->Pos->e_->Option (Except au bk×Pos×e_)
 |.pure i,r,a=>A (.ok i,r,a)|.raise j,r,a=>A (.error j,r,a)|.rule bC p,r,a=>kz st gA eL C (p ()) r a|.at bR p,bC,a=>kz st gA eL C (p ()) bR a|.point bC p,r,a=>kz st gA eL C (p ()) r a|.ask p,r,a=>kz st gA eL C (p st) r a|.fresh p,r,⟨a0,s,y⟩=>kz st gA eL C (p<|gA+y) r ⟨a0,s,y+1⟩|.handled xS p,r,a=>kz st gA eL C (p<|if xS then C.own else C.handled) r a|.stack p,r,a=>kz st gA eL C (p<|(C.code,r)::C.below) r a|.thread p,r,a=>kz st gA eL C (p 0) r a|.load i bC p,r,⟨a0,s,y⟩=>(Jg a0 s i).bind λv=>kz st gA eL C (p v) r ⟨a0,s,y⟩|.update i bC R p,r,⟨a0,s,y⟩=>(Jg a0 s i).bind λx=>kz st gA eL C (p ()) r ⟨a0.set i R,s,y⟩|.alloc v p,r,⟨a0,s,y⟩=>(m5 ((a0.ins s v).get s).isSome).bind λx=>kz st gA eL C (p s) r ⟨a0.ins s v,s+1,y⟩|.loadIfAlive i p,r,⟨a0,s,y⟩=>(Jh a0 s i).bind λv=>kz st gA eL C (p v) r ⟨a0,s,y⟩|.call g c bC dw p,r,a=>(eL (C.enter g c r) r a).bind λ|(D,w)=>kz st gA eL C (p D) r w
 |bC,dw,ic=>a7
noncomputable def ZD(kY:iI->Pos->e_->Option (p2×e_)):Except au Fin×Pos×e_->Option (p2×e_)|(.ok<|.done cN,bC,w)=>A (.ok cN,w)|(.ok<|.again g,bR,w)=>(m5 g.quiet).bind λx=>kY g bR w|(.error j,bC,w)=>A (.error j,w)
noncomputable def tV(kb:String->Option uP)(st:pb)(gA:Nat):Nat->Ctx->Pos->e_->Option (p2×e_)|0,bC,dw,ic=>a7|R+1,C,r,a=>(kz st gA (tV kb st gA R) C (tn kb C.code) r a).bind<|ZD λg r a=>tV kb st gA R (C.goto g) r a
section
theorem rB(c:m5 e=A av):e=W:=by
 cases e
 .exact d1 c
 .rfl
theorem d9{bk d0:Type}{h:Option bk}{R:bk->Option d0}{M:d0}(c:h.bind R=A M){ao:Prop}(p:∀i,h=A i->R i=A M->ao):ao:=by cases h with|none=>exact d1 c|some i=>exact p i f c
theorem QE{a0:BT}{s i:Nat}{v:Obj}{H:go}(c:Jg a0 s i=A v):(jZ a0 s H).get? i=A v/\∃h,a0.get i=A h:=d9 c λx ag c=>d9 c λh aF c=>⟨(sj (C_<|rB ag) aF).trans c,h,aF⟩
theorem ZE(c:Jh a0 s i=A v):(jZ a0 s H).get? i=v:=by unfold Jh at c;cases j:ty i s with
 |false=>
  replace c:=j▸c;have lt:¬i<s:=λe=>by rw[show ty i s=W from Nc e]at j;exact HV j
  exact(abs_get_none lt).symm▸fu c|true=>replace c:=j▸c;cases t:a0.get i with|none=>replace c:=t▸c;exact d1 c|some h=>replace c:=t▸c;exact(sj (C_ j) t).trans<|fu c
noncomputable def QF{bk:Type}(b:ai)(gA:Nat)(J:bk->Pos->ai->Prop)(aN:au->Pos->ai->Prop):Except au bk×Pos×e_->Prop|(.ok i,r,a)=>J i r<|a.abs b gA|(.error j,r,a)=>aN j r<|a.abs b gA
theorem Ji{bk:Type}{eL:Ctx->Pos->e_->Option (p2×e_)}(qI:∀C r a D,eL C r a=A D->Returns (cG prog k) C r (a.abs b gA) D.1 (D.2.abs b gA))(C:Ctx)(E:Sem bk)(J:bk->Pos->ai->Prop)(aN:au->Pos->ai->Prop):∀(r:Pos)(a:e_)(D:Except au bk×Pos×e_),kz ⟨prog,k.params⟩ gA eL C E r a=A D->QF b gA J aN D->jY (cG prog k) C E J aN r (a.abs b gA):=by induction E with|pure i=>exact λr a D c=>fu c▸id|raise j=>exact λr a D c=>fu c▸id|rule _ p a5=>exact a5 ()|«at»e p a5=>exact λx=>a5 () e|point _ p a5=>exact a5 ()|ask p a5=>exact a5 _|fresh p a5=>exact λr a=>a5 _ r _|handled xS p a5=>exact a5 _|stack p a5=>exact λr=>a5 _ r|thread p a5=>exact a5 _|load i rC p a5=>exact λr a D c aZ=>d9 c λv j c=>⟨v,(QE j).1,a5 v r a D c aZ⟩|update i rC R p a5=>exact λr a D c aZ=>d9 c λv j c=>(QE (H:=b.heap.life) j).elim λbW cR=>cR.elim λh cR=>⟨Option.isSome_of_mem bW,by show jY _ _ (p ()) _ _ _ ⟨(jZ a.T a.n b.heap.life).update i R,_,_,_,_⟩;exact absHeap_set cR▸a5 () r _ D c aZ⟩|alloc v p a5=>exact λr a D c aZ=>d9 c λav j c=>by show jY _ _ (p (jZ a.T a.n b.heap.life).objs.size) _ _ _ ⟨(jZ a.T a.n b.heap.life).push v,_,_,_,_⟩;exact l (tG ..)<|c2 (absHeap_ins<|rB j)<|a5 a.n r _ D c aZ|loadIfAlive i p a5=>exact λr a D c aZ=>d9 c λv j c=>by show jY _ _ (p<|(jZ a.T a.n b.heap.life).get? i) _ _ _ _;exact(ZE j).symm▸a5 v r a D c aZ|call g bp t H p a5=>exact λr a D c aZ=>d9 c λh j c=>⟨h.1,_,qI _ _ _ _ j,a5 h.1 r h.2 D c aZ⟩|_=>exact λr a D c=>d1 c
theorem Jj:∀(R:Nat)(C:Ctx)(r:Pos)(a:e_)(D:p2×e_),tV table ⟨prog,k.params⟩ gA R C r a=A D->Returns (cG prog k) C r (a.abs b gA) D.1 (D.2.abs b gA)
 |0,bC,dw,ic,su,c=>d1 c|R+1,C,r,a,D,c=>by
  have cV:wpCode (cG prog k) C (λf2 an=>f2=D.1/\an=D.2.abs b gA) r (a.abs b gA):=by
   refine gq (CK ..)<|d9 c λh j c=>Ji (λC r a D aO=>Jj R C r a D aO) C _ _ _ r a h j ?_
   match h,c with
   |(.error qo,cX,an),c=>exact fu c▸⟨f,f⟩|(.ok<|.done cN,cX,an),c=>exact fu c▸⟨f,f⟩|(.ok<|.again g,cX,an),c=>exact d9 c λx aZ c=>⟨rB aZ,⟨_,_,Jj R (C.goto g) cX an D c,f,f⟩⟩
  refine dZ cV λf2 an aB e2 g2=>c2 e2 ?_;obtain rfl:=g2;exact aB
end
noncomputable def Jk(bf:BT)(i:Nat):Option Obj:=(bf.get i).bind h_
noncomputable def kZ{bk:Type}(st:pb)(bf:BT)(eL:iI->Nat->Option (p2×Nat)):Sem bk->Nat->Option (Except au bk×Nat)
 |.pure i,p=>A (.ok i,p)|.raise j,p=>A (.error j,p)|.rule bC R,p=>kZ st bf eL (R ()) p|.at bC R,p=>kZ st bf eL (R ()) p|.point bC R,p=>kZ st bf eL (R ()) p|.ask R,p=>kZ st bf eL (R st) p|.fresh R,p=>kZ st bf eL (R p)<|p+1|.thread R,p=>kZ st bf eL (R 0) p|.load i bC R,p=>(Jk bf i).bind λv=>kZ st bf eL (R v) p|.call g a7 bC dw R,p=>(eL g p).bind λ|(D,fG)=>kZ st bf eL (R D) fG
 |bC,dw=>a7
noncomputable def ZF(kY:iI->Nat->Option (p2×Nat)):Except au Fin×Nat->Option (p2×Nat)|(.ok<|.done cN,fG)=>A (.ok cN,fG)|(.ok<|.again aR,fG)=>(m5 aR.quiet).bind λx=>kY aR fG|(.error j,fG)=>A (.error j,fG)
noncomputable def vU(kb:String->Option uP)(st:pb)(bf:BT):Nat->iI->Nat->Option (p2×Nat)|0,bC,dw=>a7|R+1,g,p=>(kZ st bf (vU kb st bf R) (tn kb g) p).bind<|ZF<|vU kb st bf R
def Sub(bf:BT)(c:e0):Prop:=∀i v dq,bf.get i=A v->h_ v=A dq->c.get? i=A dq
section
theorem QI(Q:Sub bf c)(j:Jk bf i=A v):c.get? i=A v:=d9 j λh ag aF=>Q i h v ag aF
noncomputable abbrev sS(a:ai)(p:Nat):Shared:={a with toks:=p}
noncomputable def ZG{bk:Type}(a:ai)(J:bk->Pos->ai->Prop)(aN:au->Pos->ai->Prop)(bR:Pos):Except au bk×Nat->Prop|(.ok i,p)=>J i bR<|sS a p|(.error j,p)=>aN j bR<|sS a p
theorem Eo(Q:Sub bf a.heap)(qI:∀g p D,eL g p=A D->∀C r,C.code=g->Returns (cG prog k) C r (sS a p) D.1 (sS a D.2))(E:Sem bk)(C:Ctx)(J:bk->Pos->ai->Prop)(aN:au->Pos->ai->Prop):∀(p:Nat)(D:Except au bk×Nat)(r:Pos),kZ ⟨prog,k.params⟩ bf eL E p=A D->(∀bR,ZG a J aN bR D)->jY (cG prog k) C E J aN r (sS a p):=by induction E with
 |pure i=>exact λp D r c aZ=>(fu c▸aZ r:)|raise j=>exact λp D r c aZ=>(fu c▸aZ r:)|rule _ R a5=>exact a5 ()|«at»e R a5=>exact λp D x=>a5 () p D e|point _ R a5=>exact a5 ()|ask R a5=>exact a5 _|thread R a5=>exact a5 _|fresh R a5=>exact λp=>a5 _<|p+1|load i rC R a5=>exact λp D r c aZ=>d9 c λv j c=>⟨v,QI Q j,a5 v p D r c aZ⟩|call g bp t H R a5=>
  cases bp
  case some=>exact λp D r c=>nomatch c
  exact λp D r c aZ=>d9 c λh j c=>⟨h.1,_,qI _ _ _ j (C.enter g a7 r) r f,a5 h.1 h.2 D r c aZ⟩|_=>exact λp D r c=>nomatch c
theorem Ep(Q:Sub bf a.heap):∀(R:Nat)(g:iI)(p:Nat)(D:p2×Nat),vU table ⟨prog,k.params⟩ bf R g p=A D->∀(C:Ctx)(r:Pos),C.code=g->Returns (cG prog k) C r (sS a p) D.1 (sS a D.2)
 |0,bC,dw,ic,c=>nomatch c|R+1,g,p,D,c=>λC r aO=>by
  have cV:wpCode (cG prog k) C (λf2 an=>f2=D.1/\an=sS a D.2) r (sS a p):=by
   refine gq (CK ..)<|l aO<|d9 c λh j c=>Eo Q (λg p D aO=>Ep Q R g p D aO) _ C _ _ p h r j λbR=>?_
   match h,c with
   |(.error qo,cS),c=>exact fu c▸⟨f,f⟩|(.ok<|.done cN,cS),c=>exact fu c▸⟨f,f⟩|(.ok<|.again aR,cS),c=>exact d9 c λx aZ c=>⟨rB aZ,⟨_,_,Ep Q R aR cS D c (C.goto aR) bR f,f,f⟩⟩
  refine dZ cV λf2 an aB e2 g2=>?_;obtain rfl:=e2;obtain rfl:=g2;exact aB
theorem ZH(Q:Sub bf a.heap)(c:∀p,kZ ⟨prog,k.params⟩ bf (vU table ⟨prog,k.params⟩ bf R) E p=A (.ok i,p+z))(aZ:J i {a with toks:=a.toks+z}):I prog k u E J a:=λC r x x x=>Eo Q (λg p D aO=>Ep Q R g p D aO) E C _ _ a.toks _ r (c _) λx=>aZ
theorem ZI(Q:Sub bf a.heap)(c:∀p,kZ ⟨prog,k.params⟩ bf (vU nk ⟨prog,k.params⟩ bf R) E p=A (.ok i,p+z))(aZ:J i {a with toks:=a.toks+z}):I prog k u E J a:=ZH (R:=R) (z:=z) Q (λp=>xe▸c p) aZ
end
noncomputable def cH(r:cL)(q:Nat):Stmt:=(r.main.body[q]?).getD<|.Pass default
noncomputable def gB:eS->Nat->eS|.ClassDef _ _ _ b _ _ _ _ _ _ _,aC=>(b[aC]?).getD<|.Pass default|_,_=>.Pass default
noncomputable def sT:eS->Arguments|.FunctionDef _ i _ _ _ _ _ _ _ _=>i|_=>⟨[],[],a7,[],[],a7,[]⟩
noncomputable def gC:eS->List eS|.FunctionDef _ _ b _ _ _ _ _ _ _=>b|_=>[]
noncomputable def fz:eS->dp|.FunctionDef _ _ _ _ _ _ a _ _ _=>a|_=>default
noncomputable def lU(H:List Obj):BT:=(H.foldl (λ(h:BT×Nat)v=>(h.1.ins h.2 v,h.2+1)) (.nil,0)).1
@[reducible]noncomputable def dy(h:String)(E:Tok):Value:=.str (hg h) E
@[reducible]noncomputable def bx(L:cy)(h:String)(E:Tok)(B:au):DictEntry:=⟨PyData.keyHash L<|hg h,dy h E,B⟩
@[reducible]noncomputable def fd(g:String)(z:Data):Obj:={cls:=.type g,data:=z}
@[reducible]noncomputable def uh(z:Data):Obj:={cls:=.none,data:=z}
@[reducible]noncomputable def lV(G:Nat):Nat->List Int->List au|_,[]=>[]|z,h::H=>.int h (G+z)::lV G (z+1) H
@[reducible]noncomputable def ih(G:Nat):Nat->List String->List au|_,[]=>[]|z,h::H=>dy h (G+z)::ih G (z+1) H
noncomputable def Jl(L:cy):Nat->List String->List zF|_,[]=>[]|z,h::H=>bx L h z (.builtin h)::Jl L (z+1) H
noncomputable def Jm(L:cy):Nat->List String->List zF|_,[]=>[]|z,h::H=>bx L h z (.type h)::Jm L (z+1) H
@[reducible]noncomputable def gj(g:String)(s:Nat)(H:List au):Obj:=fd g<|.seq H.toArray s
noncomputable def fe:Obj:=fd "tuple"<|.seq #[] 0
noncomputable def dd:Obj:=uh<|.fields #[]
@[reducible]noncomputable def iA(G:Nat)(Y J:String)(E u bf aN D:Nat)(b:Bool)(ef gw:Nat)(vV A9 ZJ ZK:au)(a0:Nat):Obj:=fd "code"<|.fields #[dy Y<|G+E,dy J<|G+(E+1),dy "/claim/cut.py"<|G+(E+2),.int u 0,.int bf 0,.int 0 0,.int 0 0,.int aN 0,.ref D,.bool b,.int ef 0,.ref gw,vV,A9,ZJ,ZK,.int ((G+a0:Nat):Int) 0,.int u 0,dy "/claim/cut.py"<|G+(a0+1)]
@[reducible]noncomputable def QJ(a:eS)(Y J:String)(t:Nat)(kQ:List<|Str×aw)(Jn doc Jo:au)(Jp:Option aw)(Jq Jr:au):FuncData:={name:=hg Y,qualname:=hg J,params:=sT a,body:=.stmts<|gC a,scope:=fz a,globals:=t,closure:=kQ,defaults:=Jn,kwdefaults:=.none,doc:=doc,pyModule:=Jo,annotations:=Jp,code:=Jq,closureTuple:=Jr,builtins:=0}
@[reducible]noncomputable def jP(a:eS)(Y J:String)(t:Nat)(kQ:List<|Str×aw)(Jn doc Jo:au)(Jp:Option aw)(Jq Jr:au):Obj:=fd "function"<|.func<|QJ a Y J t kQ Jn doc Jo Jp Jq Jr
@[reducible]noncomputable def jQ(a:eS)(Y J:String):Obj:=uh<|.func<|QJ a Y J 0 [] .none .none .none a7 .none .none
@[reducible]noncomputable def A_(i b g:Nat)(B:au):Obj:={cls:=.type "frame",dict:=a7,data:=.plain,slots:=#[A<|.ref i,A<|.ref b,A<|.ref g,a7,A B,a7,A<|.ref 0]}
section
noncomputable def Er(b9:cL)(L:cy):Obj:=uh<|.dict #[] 0
noncomputable def QK(b9:cL)(L:cy):Obj:={cls:=(.type "module"),dict:=(A 0),data:=.plain,slots:=#[]}
noncomputable def QL(b9:cL)(L:cy):Obj:=iA 0 "__new__" "EC.__new__" 293 37 4 3 76 W 181 77 .none (.ref 78) (.ref 79) (.ref 80) 300
noncomputable def Es(b9:cL)(L:cy):Obj:=jP (gB (cH b9 11) 4) "__new__" "EC.__new__" 3 [] .none (dy "Create new instance of EC(num_blocks, num_total, num_data)" 302) (dy "segno.consts" 194) a7 (.ref 81) .none
noncomputable def QM(b9:cL)(L:cy):Obj:=fd "builtin_function_or_method"<|.fields #[(.builtin "object.__init_subclass__"),(.ref 135)]
noncomputable def A'(b9:cL)(L:cy):List Obj:=[fd "dict"<|.dict ([bx L "__name__" 1<|dy "builtins" 160,bx L "__doc__" 2<|.builtin "builtins.__doc__:str#opaque",bx L "__package__" 3<|.builtin "builtins.__package__:str#opaque",bx L "__loader__" 4<|.builtin "builtins.__loader__:shared#opaque",bx L "__spec__" 5<|.builtin "builtins.__spec__#opaque"]++Jl L 6 ["__build_class__","__import__","abs","all","any","ascii","bin","breakpoint","callable","chr","compile","delattr","dir","divmod","eval","exec","format","getattr","globals","hasattr","hash","hex","id","input","isinstance","issubclass","iter","aiter","len","locals","max","min","next","anext","oct","ord","pow","print","repr","round","setattr","sorted","sum","vars"]++[bx L "None" 50 .none,bx L "Ellipsis" 51 .ellipsis,bx L "NotImplemented" 52 .notImplemented,bx L "False" 53<|.bool a2,bx L "True" 54<|.bool W]++Jm L 55 ["bool","memoryview","bytearray","bytes","classmethod","complex","dict","enumerate","filter","float","frozenset","property","int","list","map","object","range","reversed","set","slice","staticmethod","str","super","tuple","type","zip"]++[bx L "__debug__" 81<|.bool W]++Jm L 82 ["BaseException","BaseExceptionGroup","Exception","GeneratorExit","KeyboardInterrupt","SystemExit","ArithmeticError","AssertionError","AttributeError","BufferError","EOFError","ImportError","LookupError","MemoryError","NameError","OSError","ReferenceError","RuntimeError","StopAsyncIteration","StopIteration","SyntaxError","SystemError","TypeError","ValueError","Warning","FloatingPointError","OverflowError","ZeroDivisionError","BytesWarning","DeprecationWarning","EncodingWarning","FutureWarning","ImportWarning","PendingDeprecationWarning","ResourceWarning","RuntimeWarning","SyntaxWarning","UnicodeWarning","UserWarning","BlockingIOError","ChildProcessError","ConnectionError","FileExistsError","FileNotFoundError","InterruptedError","IsADirectoryError","NotADirectoryError","PermissionError","ProcessLookupError","TimeoutError","IndentationError","_IncompleteInputError","IndexError","KeyError","ModuleNotFoundError","NotImplementedError","PythonFinalizationError","RecursionError","UnboundLocalError","UnicodeError","BrokenPipeError","ConnectionAbortedError","ConnectionRefusedError","ConnectionResetError","TabError","UnicodeDecodeError","UnicodeEncodeError","UnicodeTranslateError","ExceptionGroup"]++[bx L "EnvironmentError" 151<|.type "OSError",bx L "IOError" 152<|.type "OSError"]++Jl L 153 ["open"]++[bx L "quit" 154<|.builtin "builtins.quit#opaque",bx L "exit" 155<|.builtin "builtins.exit#opaque",bx L "copyright" 156<|.builtin "builtins.copyright#opaque",bx L "credits" 157<|.builtin "builtins.credits#opaque",bx L "license" 158<|.builtin "builtins.license#opaque",bx L "help" 159<|.builtin "builtins.help#opaque"]).toArray 159,fd "dict"<|.dict #[(bx L "builtins" 162<|.ref 4),(bx L "__main__" 163<|.ref 5)] 2,Er b9 L,fd "dict"<|.dict #[(bx L "__name__" 165<|dy "segno.consts" 194),(bx L "__doc__" 166 .none),(bx L "__package__" 167 .none),(bx L "__loader__" 168<|.builtin "__main__.__loader__#opaque"),(bx L "__spec__" 169 .none),(bx L "__annotations__" 170<|.ref 6),(bx L "__builtins__" 171<|.ref 4),(bx L "__file__" 173<|dy "/claim/cut.py" 172),(bx L "__cached__" 174 .none),(bx L "_wall" 193<|.ref 21),(bx L "_tuplegetter" 252<|.ref 60),(bx L "VERSION_M4" 254<|.int (0) 253),(bx L "VERSION_M3" 257<|.int (-1) 256),(bx L "VERSION_M2" 260<|.int (-2) 259),(bx L "VERSION_M1" 263<|.int (-3) 262),(bx L "ERROR_LEVEL_L" 265<|.int (1) 264),(bx L "ERROR_LEVEL_M" 267<|.int (0) 266),(bx L "ERROR_LEVEL_Q" 269<|.int (3) 268),(bx L "ERROR_LEVEL_H" 271<|.int (2) 270),(bx L "EC" 399<|.ref 135)] 20,QK b9 L,{cls:=(.type "module"),dict:=(A 3),data:=.plain,slots:=#[]},fd "dict"<|.dict #[] 0,fe,dd,iA 0 "<module>" "<module>" 176 1 0 0 7 a2 175 8 .none .none .none .none 179,A_ 9 3 3<|dy "__main__" 164,fe,uh<|.fields #[(.int (1) 0),(.int (0) 0),(.ref 20),(.int (5) 0),(.int (0) 0),(.ref 27),(.int (31) 0),(.int (0) 0),(.ref 71)],iA 0 "<module>" "<module>" 182 1 0 0 11 a2 181 12 .none .none .none .none 185,A_ 13 3 3<|dy "__main__" 164,fe,dd,gj "tuple" 0<|ih 0 190 ["k"],fe,jQ (cH b9 0) "_wall" "_wall",iA 0 "_wall" "_wall" 187 1 1 3 15 W 181 16 .none (.ref 17) (.ref 18) (.ref 19) 191,jP (cH b9 0) "_wall" "_wall" 3 [] .none .none (dy "__main__" 164) a7 (.ref 20) .none,fe,fd "builtin_function_or_method"<|.fields #[(.builtin "type.__prepare__"),(.type "type")],fd "dict"<|.dict #[(bx L "__module__" 203<|dy "segno.consts" 194),(bx L "__qualname__" 205<|dy "_tuplegetter" 204),(bx L "__firstlineno__" 207<|.int (5) 206),(bx L "__init__" 216<|.ref 35),(bx L "__get__" 225<|.ref 43),(bx L "__set__" 234<|.ref 50),(bx L "__delete__" 242<|.ref 57),(bx L "__static_attributes__" 245<|.ref 58)] 8,fe,uh<|.fields #[(.int (7) 0),(.int (4) 0),(.ref 34),(.int (11) 0),(.int (4) 0),(.ref 42),(.int (18) 0),(.int (4) 0),(.ref 49),(.int (21) 0),(.int (4) 0),(.ref 56)],iA 0 "_tuplegetter" "_tuplegetter" 198 5 0 0 25 a2 181 26 .none .none .none .none 201,A_ 27 3 24<|dy "segno.consts" 194,fe,dd,gj "tuple" 0<|ih 0 211 ["self","index","doc"],fe,jQ (gB (cH b9 2) 0) "__init__" "_tuplegetter.__init__",iA 0 "__init__" "_tuplegetter.__init__" 208 7 3 3 29 W 181 30 .none (.ref 31) (.ref 32) (.ref 33) 214,jP (gB (cH b9 2) 0) "__init__" "_tuplegetter.__init__" 3 [] .none .none (dy "segno.consts" 194) a7 (.ref 34) .none,fd "tuple"<|.seq #[.none] 0,fe,dd,gj "tuple" 0<|ih 0 220 ["self","obj","objtype"],fe,jQ (gB (cH b9 2) 1) "__get__" "_tuplegetter.__get__",iA 0 "__get__" "_tuplegetter.__get__" 217 11 3 3 37 W 181 38 .none (.ref 39) (.ref 40) (.ref 41) 223,jP (gB (cH b9 2) 1) "__get__" "_tuplegetter.__get__" 3 [] (.ref 36) .none (dy "segno.consts" 194) a7 (.ref 42) .none,fe,dd,gj "tuple" 0<|ih 0 229 ["self","obj","value"],fe,jQ (gB (cH b9 2) 2) "__set__" "_tuplegetter.__set__",iA 0 "__set__" "_tuplegetter.__set__" 226 18 3 3 44 W 181 45 .none (.ref 46) (.ref 47) (.ref 48) 232,jP (gB (cH b9 2) 2) "__set__" "_tuplegetter.__set__" 3 [] .none .none (dy "segno.consts" 194) a7 (.ref 49) .none,fe,dd,gj "tuple" 0<|ih 0 238 ["self","obj"],fe,jQ (gB (cH b9 2) 3) "__delete__" "_tuplegetter.__delete__",iA 0 "__delete__" "_tuplegetter.__delete__" 235 21 2 3 51 W 181 52 .none (.ref 53) (.ref 54) (.ref 55) 240,jP (gB (cH b9 2) 3) "__delete__" "_tuplegetter.__delete__" 3 [] .none .none (dy "segno.consts" 194) a7 (.ref 56) .none,gj "tuple" 0<|ih 0 243 ["__doc__","index"],fd "dict"<|.dict #[(bx L "__module__" 203<|dy "segno.consts" 194),(bx L "__firstlineno__" 207<|.int (5) 206),(bx L "__init__" 216<|.ref 35),(bx L "__get__" 225<|.ref 43),(bx L "__set__" 234<|.ref 50),(bx L "__delete__" 242<|.ref 57),(bx L "__static_attributes__" 245<|.ref 58),(bx L "__dict__" 247<|.ref 61),(bx L "__weakref__" 249<|.ref 62),(bx L "__doc__" 250 .none)] 4,{cls:=(.type "type"),dict:=a7,data:=(.cls {name:=(hg "_tuplegetter"),bases:= [(.type "object")],mro:= [(.ref 60),(.type "object")],ns:=59,qualname:=(hg "_tuplegetter"),hasDict:=W,slotNames:= [],subclasses:= [],abstract:=a2,collection:=a7,hasDel:=a2}),slots:= #[a7,a7,(A<|dy "_tuplegetter" 196),(A<|dy "_tuplegetter" 204),(A<|.builtin "object.__new__"),(A<|.bool W)]},fd "getset_descriptor"<|.fields #[(dy "__dict__" 246),(.ref 60),(.builtin "function.__dict__"),(.builtin "function.__dict__#set")],fd "getset_descriptor"<|.fields #[(dy "__weakref__" 248),(.ref 60),(.builtin "ExceptionGroup.__weakref__"),.none],fd "super"<|.fields #[(.ref 60),(.ref 60),(.ref 60)],fd "builtin_function_or_method"<|.fields #[(.builtin "object.__init_subclass__"),(.ref 60)],fd "tuple"<|.seq #[(.type "tuple")] 0,fd "builtin_function_or_method"<|.fields #[(.builtin "type.__prepare__"),(.type "type")],fd "dict"<|.dict #[(bx L "__module__" 279<|dy "segno.consts" 194),(bx L "__qualname__" 281<|dy "EC" 280),(bx L "__firstlineno__" 283<|.int (31) 282),(bx L "__doc__" 285<|dy "EC(num_blocks, num_total, num_data)" 284),(bx L "__slots__" 287<|.ref 73),(bx L "_fields" 291<|.ref 74),(bx L "_field_defaults" 292<|.ref 75),(bx L "__new__" 303<|.ref 82),(bx L "_make" 325<|.ref 91),(bx L "_replace" 336<|.ref 100),(bx L "__replace__" 337<|.ref 100),(bx L "__repr__" 345<|.ref 107),(bx L "_asdict" 352<|.ref 114),(bx L "__getnewargs__" 360<|.ref 121),(bx L "__match_args__" 364<|.ref 122),(bx L "num_blocks" 374<|.ref 124),(bx L "num_total" 384<|.ref 127),(bx L "num_data" 394<|.ref 130),(bx L "__static_attributes__" 395<|.ref 132),(bx L "__classcell__" 396<|.ref 68)] 20,fd "cell"<|.cell<|A<|.ref 135,fe,uh<|.fields #[(.int (37) 0),(.int (4) 0),(.ref 81),(.int (42) 0),(.int (4) 0),(.ref 88),(.int (49) 0),(.int (4) 0),(.ref 99),(.int (60) 0),(.int (4) 0),(.ref 106),(.int (64) 0),(.int (4) 0),(.ref 113),(.int (67) 0),(.int (4) 0),(.ref 120)],iA 0 "EC" "EC" 274 31 0 0 69 a2 181 70 .none .none .none .none 277,A_ 71 3 67<|dy "segno.consts" 194,fe,gj "tuple" 0<|ih 0 288 ["num_blocks","num_total","num_data"],fd "dict"<|.dict #[] 0,fe,dd,gj "tuple" 0<|ih 0 296 ["_cls","num_blocks","num_total","num_data"],fe,jQ (gB (cH b9 11) 4) "__new__" "EC.__new__",QL b9 L,Es b9 L,fe,dd,gj "tuple" 0<|ih 0 307 ["cls","iterable","result"],fe,jQ (gB (cH b9 11) 5) "_make" "EC._make",iA 0 "_make" "EC._make" 304 41 2 3 83 W 181 84 .none (.ref 85) (.ref 86) (.ref 87) 310,jP (gB (cH b9 11) 5) "_make" "EC._make" 3 [] .none (dy "Make a new EC object from a sequence or iterable" 312) (dy "segno.consts" 194) (A 92) (.ref 88) .none,fd "dict"<|.dict #[(bx L "__module__" 314<|dy "segno.consts" 194),(bx L "__name__" 317<|dy "_make" 316),(bx L "__qualname__" 320<|dy "EC._make" 319),(bx L "__doc__" 322<|dy "Make a new EC object from a sequence or iterable" 312),(bx L "__annotations__" 324<|.ref 92)] 5,{cls:=(.type "classmethod"),dict:=(A 90),data:=(.fields #[(.ref 89),(.bool a2)]),slots:= #[]},fd "dict"<|.dict #[] 0,fd "tuple"<|.seq #[(.ref 68)] 0,gj "tuple" 0<|ih 0 329 ["__class__"],dd,gj "tuple" 0<|ih 0 330 ["self","kwds","result"],fe,jQ (gB (cH b9 11) 6) "_replace" "EC._replace",fd "code"<|.fields #[(dy "_replace" 326),(dy "EC._replace" 327),(dy "/claim/cut.py" 328),(.int (49) 0),(.int (1) 0),(.int (1) 0),(.int (0) 0),(.int (11) 0),(.ref 94),(.bool W),(.int (181) 0),(.ref 95),.none,(.ref 96),(.ref 97),(.ref 98),(.int (333) 0),(.int (49) 0),(dy "/claim/cut.py" 334)],jP (gB (cH b9 11) 6) "_replace" "EC._replace" 3 [((hg "__class__"),68)] .none (dy "Return a new EC object replacing specified fields with new values" 335) (dy "segno.consts" 194) a7 (.ref 99)<|.ref 93,fe,dd,gj "tuple" 0<|ih 0 341 ["self"],fe,jQ (gB (cH b9 11) 8) "__repr__" "EC.__repr__",iA 0 "__repr__" "EC.__repr__" 338 60 1 3 101 W 181 102 .none (.ref 103) (.ref 104) (.ref 105) 342,jP (gB (cH b9 11) 8) "__repr__" "EC.__repr__" 3 [] .none (dy "Return a nicely formatted representation string" 344) (dy "segno.consts" 194) a7 (.ref 106) .none,fe,dd,gj "tuple" 0<|ih 0 349 ["self"],fe,jQ (gB (cH b9 11) 9) "_asdict" "EC._asdict",iA 0 "_asdict" "EC._asdict" 346 64 1 3 108 W 181 109 .none (.ref 110) (.ref 111) (.ref 112) 350,jP (gB (cH b9 11) 9) "_asdict" "EC._asdict" 3 [] .none .none (dy "segno.consts" 194) a7 (.ref 113) .none,fe,dd,gj "tuple" 0<|ih 0 356 ["self"],fe,jQ (gB (cH b9 11) 10) "__getnewargs__" "EC.__getnewargs__",iA 0 "__getnewargs__" "EC.__getnewargs__" 353 67 1 3 115 W 181 116 .none (.ref 117) (.ref 118) (.ref 119) 357,jP (gB (cH b9 11) 10) "__getnewargs__" "EC.__getnewargs__" 3 [] .none (dy "Return self as a plain tuple.  Used by copy and pickle." 359) (dy "segno.consts" 194) a7 (.ref 120) .none,gj "tuple" 0<|ih 0 361 ["num_blocks","num_total","num_data"],fd "dict"<|.dict #[(bx L "index" 371<|.int (0) 365),(bx L "__doc__" 373<|dy "Alias for field number 0" 366)] 2,{cls:=(.ref 60),dict:=(A 123),data:= .plain,slots:= #[]},fd "frame"<|.dict #[(bx L "self" 367<|.ref 124),(bx L "index" 368<|.int (0) 365),(bx L "doc" 369<|dy "Alias for field number 0" 366)] 3,fd "dict"<|.dict #[(bx L "index" 381<|.int (1) 375),(bx L "__doc__" 383<|dy "Alias for field number 1" 376)] 2,{cls:=(.ref 60),dict:=(A 126),data:= .plain,slots:= #[]},fd "frame"<|.dict #[(bx L "self" 377<|.ref 127),(bx L "index" 378<|.int (1) 375),(bx L "doc" 379<|dy "Alias for field number 1" 376)] 3,fd "dict"<|.dict #[(bx L "index" 391<|.int (2) 385),(bx L "__doc__" 393<|dy "Alias for field number 2" 386)] 2,{cls:=(.ref 60),dict:=(A 129),data:= .plain,slots:= #[]},fd "frame"<|.dict #[(bx L "self" 387<|.ref 130),(bx L "index" 388<|.int (2) 385),(bx L "doc" 389<|dy "Alias for field number 2" 386)] 3,fe,fd "list"<|.seq #[] 0,fd "dict"<|.dict #[(bx L "__module__" 279<|dy "segno.consts" 194),(bx L "__firstlineno__" 283<|.int (31) 282),(bx L "__doc__" 285<|dy "EC(num_blocks, num_total, num_data)" 284),(bx L "__slots__" 287<|.ref 73),(bx L "_fields" 291<|.ref 74),(bx L "_field_defaults" 292<|.ref 75),(bx L "__new__" 303<|.ref 136),(bx L "_make" 325<|.ref 91),(bx L "_replace" 336<|.ref 100),(bx L "__replace__" 337<|.ref 100),(bx L "__repr__" 345<|.ref 107),(bx L "_asdict" 352<|.ref 114),(bx L "__getnewargs__" 360<|.ref 121),(bx L "__match_args__" 364<|.ref 122),(bx L "num_blocks" 374<|.ref 124),(bx L "num_total" 384<|.ref 127),(bx L "num_data" 394<|.ref 130),(bx L "__static_attributes__" 395<|.ref 132)] 2,{cls:=(.type "type"),dict:=a7,data:=(.cls {name:=(hg "EC"),bases:= [(.type "tuple")],mro:= [(.ref 135),(.type "tuple"),(.type "object")],ns:=134,qualname:=(hg "EC"),hasDict:=a2,slotNames:= [],subclasses:= [],abstract:=a2,collection:=a7,hasDel:=a2}),slots:= #[(A<|.ref 65),a7,(A<|dy "EC" 272),(A<|dy "EC" 280),(A .none),(A<|.bool a2)]},fd "staticmethod"<|.fields #[(.ref 82)],fd "super"<|.fields #[(.ref 135),(.ref 135),(.ref 135)],QM b9 L]
noncomputable def oj(b9:cL)(L:cy):BT:=lU<|A' b9 L
end
noncomputable abbrev az:cL:=V'
noncomputable def sU(aQ:List Int):Int:=aQ.foldl (λk b=>2*k+b) 0
noncomputable def wordsOf(aQ:List Int):List Int:=(c9<|(aQ.length+7)/8).map λaC=>sU<|(aQ.drop<|8*aC).take 8
theorem Js(R:d0->bk->d0)(b:d0)(H:List bk)(c:H[q]?=A h):(H.take<|q+1).foldl R b=R ((H.take q).foldl R b) h:=by refine l xm<|l c<|l z5 ?_;rfl
theorem Et{ab:List Int}{q:Nat}(c:q<ab.length):ab[q]?=A (ab.getD q 0):=by refine l (hF)<|l (gQ c) ?_;rfl
theorem ZL(s:mQ g)(aQ:List Int)(U:aQ.length<2^20):bE g z (fz<|cH az 23) [] [("bits",.f<|bN aQ)] (gC<|cH az 23) (λcN x=>cN=.ret (bN<|wordsOf aQ)):=by
 have Q:cp=2^24:=f;conv=>arg 6;whnf
 refine bE.B6 (af.list (aA:=[]) trivial<|hf _) (by cbv)<|bE.qf (λq C=>gM [("words",.o<|bN<|(wordsOf aQ).take q),("bits",.f<|bN aQ)] C) (λx x=>f) (aE.Ya s af.du (aE.ll s aE.nm<|bZ (.t .x<|.n 4611686018427387904) [.t .x<|.n 1048576] f U) af.du<|bZ (.t .x<|.n 1099511627776) [.t .x<|.n 1048576] f U) ?_ ?_ ?_
 .intro q h bP X fx;refine cx (Jf X) λah bK=>l bK<|⟨aE.t1,bE.le (bP:=[("start",.f<|.int<|0+q*8),("words",.o<|bN<|(wordsOf aQ).take q),("bits",.f<|bN aQ)]) ⟨f,fx⟩<|bE.assign af.du (by cbv) ?_⟩;have qJ:(0+(q:Int)*8)=((8*q:Nat):Int):=bZ (.eK (.a (.n 0)<|.r (.c .x) 8)<|.c<|.m 8 .x) [] f;have ZM:(0+(q:Int)*8+8)=((8*q+8:Nat):Int):=bZ (.eK (.a (.a (.n 0)<|.r (.c .x) 8)<|.n 8)<|.c<|.a (.m 8 .x)<|.n 8) [] f;refine bE.qf (bs:=((aQ.drop<|8*q).take 8).map .int) (λaC C=>gM [("word",.f<|.int<|sU<|((aQ.drop<|8*q).take 8).take aC),("words",.o<|bN<|(wordsOf aQ).take q),("bits",.f<|bN aQ)] C) (λx x=>f) (gx.list (lR.of (af.cast (af.WD (ab:=aQ) (s:=8*q) (ae:=8*q+8) aE.nm (c5.cast aE.nm qJ) (c5.cast (af.add aE.nm af.du) ZM)<|gT [1,1,-1] (.l .x .y) [.t .x<|.n 1048576,.e .y<|.n 16777216] f U Q)<|l (show 8*q+8-8*q=8 by exact pm [1,1,0] [1,0,1] (.e .x<|.n 8) [.l (.a (.m 8 .y)<|.n 8)<|.a .x<|.m 8 .y,.e (.a .x<|.m 8 .y)<|.a (.m 8 .y)<|.n 8] f (fk _ _)<|eu<|bZ (.l (.m 8 .x)<|.a (.m 8 .x)<|.n 8) [] f) f) aS)<|.inl<|mf _ _ f) ?_ ?_ ?_
  .intro aC h nL X lW;refine cx (QD X) λc4 b8=>l b8<|⟨aE.t1,bE.le (bP:=("bit",.f<|.int<|((aQ.drop<|8*q).take 8).getD aC 0)::[("word",.f<|.int<|sU<|((aQ.drop<|8*q).take 8).take aC),("words",.o<|bN<|(wordsOf aQ).take q),("bits",.f<|bN aQ)]) ⟨f,lW⟩<|bE.assign (af.add (af.mul af.du aE.nm<|ug aS) aE.nm) (by cbv)<|bE.nil<|⟨?_,f,f,trivial⟩⟩;show A (Slot.f<|bd.int _)=A (Slot.f<|bd.int _);exact l (sU.eq_1 ..)<|l (sU.eq_1 ..)<|l (Js _ _ _<|Et c4) f
  .exact(iZ f)
  .intro nL lW;rw[gp,xn]at lW;refine bE.le lW ?_;have fy:q<(wordsOf aQ).length:=by simpa[wordsOf]using ah
   refine bE.append f (by cbv) aE.nm (by simp;exact qe [8,1,-8,8,8,1] (.l .x .y) [.t .z<|.n 1048576,.e .y<|.n 16777216,.t .w .u,.l .x .w,.l (.m 8 .u)<|.a .z<|.n 7] f U Q ah (qi _ _)<|pn _ 8)<|bE.nil ⟨?_,f,trivial⟩;have j:(wordsOf aQ).take (q+1)=(wordsOf aQ).take q++[sU<|(aQ.drop<|8*q).take 8]:=by refine l (xm (i:=q))<|l (gQ fy) ?_;simp[wordsOf]
   show A (Slot.o<|bd.lst _)=A (Slot.o<|bN _);refine l j<|l (bN.eq_1 ..)<|l mb ?_;rfl
 .exact(iZ f)
 .intro bP fx;rw[gp,Je,show(wordsOf aQ).take ((aQ.length+7)/8)=wordsOf aQ from oE (by simp[wordsOf])]at fx;exact bE.le fx<|bE.Xz f (by cbv) f
section
variable{g:d7}{z:Nat}{T:dp}{C:cm}{m:Env}{o O ax:List aw}{Y:Nat}{u bf:ch}{a:ai}{B:Int}{s:Nat}{R aR bv:aw}{bh:uY}{cE:Array au}
noncomputable def jc:Stmt:=((gC<|cH az 17)[1]?).getD<|.Pass default
noncomputable def Ba:Scope:={kind:=.function,names:=[(".0",.local),("i",.local),("val",.free)],isGenerator:=W,isCoroutine:=a2,more:=[]}
theorem ZN:∃eQ e' hb hC lu pH Bb vW Jt bZ qd DP QN,gC jc=[.Return (A<|.GeneratorExp (.BinOp (.BinOp (.Name "val" eQ) .RShift (.Name "i" e') hb) .BitAnd (.Constant (.int 1) 0 hC) lu) [⟨.Name "i" pH,.Call (.Name "reversed" Bb) [.Call (.Name "range" vW) [.Name "length" Jt] [] bZ] [] qd,[],0⟩] Ba DP) QN]:=⟨_,_,_,_,_,_,_,_,_,_,_,_,_,f⟩
noncomputable def h8(B:Int)(s q:Nat):Int:=Di (B.fdiv<|2^(s-1-q)) 1
theorem QO{prog:cL}{k:ck}{aN:au->ai->Prop}{m:Env}{h:Str}{ae:Str->Option au}{B:au}{ak:Pos}{J:au->ai->Prop}(a8:m.scope.kind=.function)(aM:m.kindOf h=A .local)(ay:a.heap.Ns m.locals ae)(aL:ae h=A B)(c:J B a)(bp:(h==("__debug__":Str))=a2):cj (cG prog k) u (dF (.Name h ak) m) J aN a:=by exact iq (eval_Name (hd:=bp) ..)<|bg<|pY<|Gi a8 aM ay aL c
theorem QP{prog:cL}{k:ck}{aN:au->ai->Prop}{m:Env}{h:Str}{i:aw}{B:au}{ak:Pos}{J:au->ai->Prop}(a8:m.scope.kind=.function)(aM:m.kindOf h=A .free)(aX:m.cells.lookup h=A i)(aL:a.heap.IsCell i<|A B)(c:J B a)(bp:(h==("__debug__":Str))=a2)(ay:(h==("__classdict__":Str))=a2):cj (cG prog k) u (dF (.Name h ak) m) J aN a:=by exact l (eval_Name (hd:=bp) ..)<|bg<|pY<|MJ a8 aM aX aL c ay
theorem QQ(aO:g.GA)(ar:eJ (z+1) u)(be:FnAt a R bh<|gC jc)(li:bh.scope=fz jc)(mr:bh.globals=3)(oh:bh.builtins=0)(ru:bh.code=.ref aR)(bI:TabAt a.heap aR bv cE)(yj:bv∉g.rm)(P:ct g m o O ax Y)(r:bo g m o O Y C a){nC sV:Tok}{aY:List au}(n:jr a bh ⟨aY,[]⟩ [("val",.int B nC),("length",.int s sV)])(ay:s<2^62)(aK:g.gl "range"=A (.type "range"))(ge:g.gl "reversed"=A (.type "reversed"))(iT:bf.handled=a7){J:au->ai->Prop}(ac:∀i aH t aj er j' ec w,a.heap.objs.size<=i->a.heap.objs.size<=aH->a.heap.objs.size<=aj->i<w.heap.objs.size->aH<w.heap.objs.size->aj<w.heap.objs.size->a.gens.size<=t->t<w.gens.size->a9 [bv] [] a w->TabAt w.heap aR bv j'->j'=cE++ec->m3 i aH (aj::er) [aj]->(∀b∈er,(b∈g.rm\/a.heap.objs.size<=b)/\b<w.heap.objs.size)->(∀kX:ch,kX.handled=a7->kX.depth<=bf.depth->kX.units<=bf.units->iz g.prog g.w kX i t aH (aj::er) [aj] s (λq M=>∃E,M=.int (h8 B s q) E) 0 w)->J (.ref i) w):I g.prog g.w u (et (.ref R) aY []) J a:=by
 refine A7 (eh:=["val","length"]) (eP:=[(.b2,.int B),(.b2,.int s)]) (aY:=[.int B nC,.int s sV]) aO.1 ar be mr oh P r ?_ f n (by refine l li ?_;cbv) λw dx cc eB bR fH=>?_
 .refine⟨_,_,f,?_,_,_,f,?_,f⟩
  .show bV _ _ _ _;exact⟨_,f⟩
  .show bV _ _ _ _;exact⟨_,f⟩
 have pt:=be.8;have jd:(c3 bh R a).scope=fz jc:=li;have Bc:(c3 bh R a).code=.ref aR:=ru;have Eu:(c3 bh R a).globals=3:=mr;have yk:(c3 bh R a).builtins=0:=oh;have fF:(u.deeper<|c3 bh R a).depth<recursionLimit:=mD (a' (hT _ _) fH.2) aS;generalize ZO:u.deeper (c3 bh R a)=kc at*;generalize br:c3 bh R a=en at*;refine Ws ZN λeQ e' hb hC lu pH Bb vW Jt bZ qd DP QN iU=>l iU<|gc λx dA=>iL bR.3 λcW aE ag bK b8=>?_;obtain-:=bK;obtain-:=b8;refine bl (ag "val" (.f<|.int B)<|mW f) λaU hy aB=>?_;have hJ:∃E,aU=.int B E:=by have:bV w.heap (bY en++o) (.int B) aU:=aB;exact this
 refine cJ hJ λE dm=>?_;obtain rfl:=dm;refine bl (aE.3 "val"<|.inl (by show en.scope.names.lookup _=_;refine l jd ?_;cbv)) λg4 lh lv=>?_;refine dA ?_;rw[hy]at lv;have sW:g4∈bY en:=ss lh;have Ju:uX Ba en=dC (hl en Ba.names []):=IJ λe aZ x9=>by
  have lg:e∈([((".0":Str),NameKind.local),(("i":Str),NameKind.local),(("val":Str),NameKind.free)]:List<|Str×r6):=aZ;rcases e1.mp lg with rfl|lg
  .cases x9
  rcases e1.mp lg with rfl|lg
  .cases x9
  exact l (bc lg)<|⟨g4,lh⟩
 refine I.bind<|dQ<|I.bind ?_;have gW:g.s0.heap.objs.size<=a.heap.objs.size:=r.2.1.2;have ml:∀b v,b<g.s0.heap.objs.size->b∉g.tabs->g.s0.heap.get? b=A v->w.heap.get? b=A v:=λb v x n j=>bR.2.1.1 b v n j;refine Qm (g:=aR) (L:=bv) (cE:=cE) (kQ:=hl en Ba.names []) (pF:=g4::g.rm) (s:=s) (sD:=λq B=>q<s/\∃E,B=.int ((s:Int)-1+q*(-1)) E) (Eg:=λaj q c=>oB c aj ((s:Int)-1+(q:Nat)*(-1)) ((s:Int)-(q:Nat))<|-1) (bf:=bf) (ef:=λq M=>∃E,M=.int (h8 B s q) E) f Ju aS f f f fF (aO.1.3 _ bR.2) iT Bc (bI.keeps λb v j=>cc.1 b v (λe=>dI e) j) (λh=>f) ?_ ?_ ?_ ?_ ?_ ?_ (λq B c=>c.1) ?_
 .--qe akS place
  intro d5 m4 ek nA a8 aZ;refine iq (l Eu<|l yk f) ?_;rw[yk]at aZ;exact aO.2 d5 m4 ek nA (λb v n bI j=>a8 b v (λe=>yj<|e▸ls.mpr ⟨n,bI⟩)<|ml b v n bI j) aZ
 .intro b n
  revert b;refine gr ?_ ?_
  .exact eB.8 _ (eB.4 _ sW).1
  .intro b n;exact cI (ls.mp n).1 bR.2.1.2
 .exact mt<|ls.mpr aO.3
 .intro e;refine di e (λe=>?_) λe=>?_
  .have:=bI.1.lt.2;exact b4 (e▸this)<|dx g4 sW
  .exact yj e
 .--qe iterator
  have cP:co g.prog g.w kc [] [] en (bo g en (bY en++o) [] w.heap.objs.size<|jn ["val","length"] [(.b2,.int B),(.b2,.int s)] []) (.Name "length" Jt) (d' s):=fc (af.name (g:=g) (z:=z) (T:=fz jc) (B:=.int s) f (by cbv)) fH jd eB;refine ZB aO.1 eB cP aK ge (by refine l jd ?_;cbv) (by refine l jd ?_;cbv) f ay w _ bR λA6 an aI⟨aj,j,lf,gL⟩=>?_;refine l j<|I.of<|(Dp fH.1 aj ((s:Int)-1) (-1) s).self 0 an _ _ ?_ ⟨aj,f,lf,dH gL,aI,?_,λd5 fH=>Mine.Walks.lt<|Dp fH aj ((s:Int)-1) (-1) s⟩
  .simpa using gL
  .simpa using gL
 .--qe Yn
  intro aH code d5 m4 q M al ue Ev _ _ ah aL yi uf Jv;refine gc λx dA=>cx aL λx dX=>cJ dX λeM eO=>?_;obtain rfl:=eO;refine dA<|Gv<|Gv<|QP (B:=.int B E) f f (x8 lh Ba.names [] aP<|.inr<|mt<|mt bm) ?_ ?_ aS aS
  .exact bl lv λv j bp=>⟨v,Jv g4 bm v j,bp⟩
  refine QO f f yi uf (rshift_int (by lia) ?_) aS;have bW:((s:Int)-1+q*(-1)).toNat=s-1-q:=by rw[Int.mul_neg,Int.mul_one,<-GL,Int.sub_sub];exact(zN s<|1+q).trans (Nat.sub_sub ..).symm
  refine l bW<|r3<|and_int ⟨⟨al.toks+1+1,f⟩,al.heap,al.toks+1+1+1,f,λx x j=>j⟩
 .intro i aH t aj j' ec ek aX f9 lf ku pI Bd vX Jw gz Jx ka ia kS;have og:a.heap.objs.size<=w.heap.objs.size:=cc.2;refine I.pure<|I.pure ⟨_,f,ac i aH t aj (g4::g.rm) j' ec ek (a' og aX) (a' og f9) (a' og lf) ku pI Bd (a' cc.4 vX) Jw ((cc.mono aP λx c=>c).trans gz) Jx ka ia (λb n=>?_) kS⟩
  revert b;refine gr ?_ ?_
  .exact⟨.inr<|dx _ sW,cI (eB.8 _ (eB.4 _ sW).1) gz.2⟩
  .intro b n;exact⟨.inl n,cI (ls.mp n).1<|a' bR.2.1.2 gz.2⟩
end
section
theorem QR:Hg.lookup (Hh ['p','a','m'].reverse)=A Manifest.sig_map:=by cbv
theorem Be:uZ "map" "__next__" "map.__next__":=Oi (owner:="map") (n:="__next__") (by refine l (hq ..)<|l hr ?_;cbv) (by decide+kernel) (by decide+kernel) (by decide+kernel) (by first|exact .inl (by decide+kernel)|exact .inr (by decide+kernel)) (by refine l (kj ..) ?_;cbv)
theorem QS:kI table "map.__next__"=A Builtin.«map.__next__»:=oA (by cbv)
theorem QT(i:au):iJ "map.__next__" ⟨[i],[]⟩:=by unfold iJ;refine l (q_ (id:="map.__next__") (n:=['_','_','t','x','e','n','_','_']) (o:=['p','a','m']) (by cbv) QR) ?_;cbv
theorem ZP:kK (.type "map") "__len__"=pure a7:=by refine l (hq ..)<|l hr ?_;cbv
theorem ZQ:kK (.type "map") "__length_hint__"=pure a7:=by refine l (hq ..)<|l hr ?_;cbv
theorem QU:uZ "map" "__iter__" "map.__iter__":=Oi (owner:="map") (n:="__iter__") (by refine l (hq ..)<|l hr ?_;cbv) (by decide+kernel) (by decide+kernel) (by decide+kernel) (by first|exact .inl (by decide+kernel)|exact .inr (by decide+kernel)) (by refine l (kj ..) ?_;cbv)
theorem ZR:kI table "map.__iter__"=A NL:=Gh (id':="dict_keyiterator.__iter__") (by cbv) (by first|rfl|decide+kernel|(unfold NI;simp+decide[NJ])) (by decide+kernel) (by cbv)
theorem ZS(i:au):iJ "map.__iter__" ⟨[i],[]⟩:=by unfold iJ;refine l (q_ (id:="map.__iter__") (n:=['_','_','r','e','t','i','_','_']) (o:=['p','a','m']) (by cbv) QR) ?_;cbv
section
variable{prog:cL}{k:ck}{u:ch}{aN:au->ai->Prop}{a:ai}{ba a0 af b0:aw}
inductive oY(c:e0)(ba a0 af b0:aw)(bs:Array au)(q:Nat):Prop|mk(fQ:c.get? ba=A {cls:=.type "map",data:=.fields #[.ref a0,.type "str"]})(fR:∃s,c.get? a0=A {cls:=.type "tuple",data:=.seq #[.ref af] s})(gs:c.IsListIter af b0 q)(i7:c.IsList b0 bs):oY c ba a0 af b0 bs q
theorem oY.keep{c aa:e0}{bs:Array au}{q:Nat}(h:oY c ba a0 af b0 bs q)(p:∀b∈[ba,a0,af,b0],∀v,c.get? b=A v->aa.get? b=A v):oY aa ba a0 af b0 bs q:=by obtain⟨ae,⟨s,E⟩,aC,H⟩:=h;exact⟨p ba (bm) _ ae,⟨s,p a0 (mt bm) _ E⟩,(bl aC λv aJ D=>⟨v,p af (mt<|mt bm) _ aJ,D⟩),H.at λv j=>p b0 (by simp) v j⟩
theorem ZT{bs:Array au}{q:Nat}{i:Int}{E:Tok}{J:Option au->ai->Prop}(h:oY a.heap ba a0 af b0 bs q)(oZ:ba≠af)(cz:a0≠af)(gK:b0≠af)(X:bs[q]?=A (.int i E))(aX:i.natAbs.log2<1920)(ac:∀aa eM y,oY aa ba a0 af b0 bs (q+1)->hV af a.heap aa->a.toks<=y->J (A<|.str (toString i) eM) {a with heap:=aa,toks:=y}):cj (cG prog k) u (nY<|.ref ba) J aN a:=by
 obtain⟨bw,⟨QV,bI⟩,c4,aM⟩:=h;have sX:a.TypeIs (.ref ba) "map":=⟨_,bw,f⟩;refine bg<|uT<|ni (name:=hg "__next__") sX Be (kJ Be sX QS ?_<|QT _);refine me (i:=(e8 ba,[])) f ?_;try dsimp only
 refine ir bw f (h:=.ref a0) f<|bg (m:=seqItems?<|.ref a0)<|r7 bI f ?_;try dsimp only
 refine bg<|bg<|kM<|wpAny_nextOf_list_item c4 aM X λbn ZU fw=>cu<|cu ?_;have QW:=(fw.2 ba oZ).trans bw;exact ir QW f (h:=.type "str") f<|kM<|PySem.P.str_of_int aX<|bg<|uQ<|cu<|dk _ f<|cu<|ac bn _ _ ⟨QW,(gD QV<|(fw.2 a0 cz).trans bI),ZU,aM.at λv j=>(fw.2 b0 gK).trans j⟩ fw<|js _
theorem ZV{bs:Array au}{q:Nat}{J:Option au->ai->Prop}(b':u.handled=a7)(h:oY a.heap ba a0 af b0 bs q)(X:bs[q]?=a7)(ac:∀aa,Ac af a.heap aa->J a7 {a with heap:=aa}):cj (cG prog k) u (nY<|.ref ba) J aN a:=by
 obtain⟨bw,⟨QV,bI⟩,c4,aM⟩:=h;have sX:a.TypeIs (.ref ba) "map":=⟨_,bw,f⟩;refine bg<|uT<|ni (name:=hg "__next__") sX Be (kJ Be sX QS ?_<|QT _);refine me (i:=(e8 ba,[])) f ?_;try dsimp only
 refine ir bw f (h:=.ref a0) f<|bg (m:=seqItems?<|.ref a0)<|r7 bI f ?_;try dsimp only
 exact bg<|bg<|kM<|wpAny_nextOf_list_end b' c4 aM X λaa h sY hk=>bl hk λv aJ aO=>bg<|q' (T:="StopIteration") (b:=W) ⟨v,aJ,aO⟩ Gw<|cu<|ac _ sY
theorem ZW{bs:Array au}{q:Nat}{J:au->ai->Prop}(h:oY a.heap ba a0 af b0 bs q)(c:J (.ref ba) a):cj (cG prog k) u (nj<|.ref ba) J aN a:=by have sX:a.TypeIs (.ref ba) "map":=⟨_,h.1,f⟩;exact Gx sX QU<|kJ QU sX ZR (cu<|dk _ f<|eH "map" _ sX Be.lookup c)<|ZS _
theorem ZX(b':u.handled=a7)(oZ:ba≠af)(cz:a0≠af)(gK:b0≠af)(ab:List<|Int×Tok)(ay:∀r∈ab,r.1.natAbs.log2<1920):WalksS prog k u ba [ba,a0,af,b0] [af] (λi b=>b=i) ab.length (λq B=>∃r av,ab[q]?=A r/\B=.str (toString r.1) av) (λq a=>oY a.heap ba a0 af b0 (ab.map λr=>se r.1 r.2).toArray q)where
 sub:=λb n=>by refine l (bc n) ?_;exact mt<|mt bm
 grefl:=λx=>f
 gtrans:=λx x x i b=>b.trans i
 frame:=λq a aa y st x a8=>st.keep a8
 item:=λq a J aN ah st ac=>by have a1:ab[q]?=A ab[q]:=gQ ah;refine ZT (i:=ab[q].1) (E:=ab[q].2) st oZ cz gK (by simp[a1]) (ay _<|xo ah) λaa eM y oa Q bI=>ac _ _ (tL _ eM a1 f) oa ⟨λb v n j=>Q.extBut b v (λe=>n<|kl.mpr e) j,f,f,f,bI⟩
 done:=λa J aN st ac=>ZV b' st (by simp) λaa br=>ac _ ⟨λb v n j=>br b v (λe=>n<|kl.mpr e) j,f,f,f,dD _⟩
 self:=λq a J aN st ac=>ZW st ac
end
end
section
open PySem PySem.Builtin PySem.Builtin.Str PyProof.Rows
section
variable{prog:cL}{k:ck}{u:ch}{aN:au->ai->Prop}{a:ai}{aj:aw}{bA aV:List aw}{ao:Array uU->Array uU->Prop}{s:Nat}{L:Nat->au->Prop}{St:Nat->ai->Prop}
theorem ZY{J:List au->ai->Prop}(de:WalksS prog k u.in1 aj bA aV ao s L St)(cz:∀q a,St q a->a.TypeIs (.ref aj) "map")(gG:St 0 a)(ky:∀b∈bA,b<a.heap.objs.size)(lf:aj∈bA)(ac:∀w cb,Moved aV ao a w->xf L cb s->J cb.toList w)(ay:s<=cp):cj (cG prog k) u (collect<|.ref aj) J aN a:=by
 have qn:a.heap.objs.size∉bA:=λbw=>iK _<|ky _ bw;have Ew:a.heap.objs.size≠aj:=λj=>qn<|j▸lf;refine bg<|wpAny_runValue<|xd N4 ?_;refine bg<|i4 ?_;refine cu ⟨nX N5 _,xd N6 ?_⟩;have vp:=de.frame 0 a (a.heap.push {cls:=.type "list",data:=.seq ([]:List au).toArray}) a.toks gG (dD _) λb x v j=>eT _ j;show cj _ u.in1 (Hw (.ref a.heap.objs.size) (.ref aj)<|.ref a.heap.objs.size) _ _ _;refine bg<|w_ (cz 0 _ vp) ?_;have ag:Ds (.ref a.heap.objs.size) (.ref aj)=a2:=by simp[Ds,Ew]
 have aF:(hh "map"==hh "list")=a2:=aS;have bb:(hh "map"==hh "tuple")=a2:=aS;simp only[ag,aF,bb,q9,Gf,if_false];refine bg<|de.self 0 _ _ _ vp ?_;refine kM<|bg<|g6 (cz 0 _ vp) ZP ?_;refine bg<|g6 (cz 0 _ vp) ZQ ?_;refine cu<|bg<|l_ ?_;have ui:(a.heap.push {cls:=.type "list",data:=.seq ([]:List au).toArray}).get? a.heap.objs.size=A {cls:=.type "list",data:=.seq ([]:List au).toArray}:=fj _ f;refine bg<|bg<|xg ui f ?_;have vY:=n1 (mI (·.push oG)) ui f;refine xg vY f ?_;have sZ:∀b v,b≠a.heap.objs.size->(a.heap.push {cls:=.type "list",data:=.seq ([]:List au).toArray}).get? b=A v->(((a.heap.push {cls:=.type "list",data:=.seq ([]:List au).toArray}).update a.heap.objs.size (mI (·.push oG))).update a.heap.objs.size (mI (·.pop))).get? b=A v:=λb v n j=>(rf _ _<|ip n).trans<|(rf _ _<|ip n).trans j;refine cu ⟨nX Hr _,MT de ay _ qn _ s 0 _ _ _ f (hf _) (de.frame 0 ({a with heap:=a.heap.push {cls:=.type "list",data:=.seq ([]:List au).toArray}}:ai) _ a.toks vp (dD _) λb n v j=>sZ b v (λc=>qn<|c▸n) j) (n1 (mI (·.pop)) vY f) (Oj L) λw gy aR bw v0 ja=>?_⟩;refine nu v0<|cu<|ac w gy (Moved.drop_new (o:={cls:=.type "list",data:=.seq ([]:List au).toArray}) (tk:=a.toks) (Moved.trans de.gtrans ((Moved.refl de.grefl).then_heap (by first|exact dD _|exact js _|omega) λb v n j=>?_) bw)<|dD _) ja;exact sZ b v (λe=>by replace n:=e▸n;exact n bm) j
theorem ZZ{E:Tok}{J:au->ai->Prop}(de:WalksS prog k u.in1.in1 aj bA aV ao s L St)(cz:∀q a,St q a->a.TypeIs (.ref aj) "map")(gG:St 0 a)(ky:∀b∈bA,b<a.heap.objs.size)(lf:aj∈bA)(Z0:∀q B,L q B->∃M av,B=Value.str M av)(aZ:∀w(H:List<|Str×Tok),Moved aV ao a w->xf L (zG H).toArray s->JoinOk mH (H.map (·.1))=W/\∀eM p,J (.str (Txt.join mH (H.map (·.1))) eM) {w with toks:=p})(dW:s<=cp):cj (cG prog k) u (call (.builtin "str.join") [.str mH E,.ref aj]) J aN a:=by
 refine wpAny_call<|codeAny_call_builtin F.slot_str_join.plain F.entry_str_join<|F.slot_str_join.check _ _ _ _ _ _ _ _ (typeIs_str _ _ _) (F.args_str_join_2 _ _) ?_;refine iq (join_tree_other ..)<|bg<|w_ (cz 0 a gG) ?_;refine bg<|wpAny_tryCatch<|de.of_in1.self 0 a _ _ gG ?_;refine bg<|ZY de cz gG ky lf (λw cb bw ja=>?_) dW;refine cJ (exists_strValues cb.toList λB aL=>by obtain⟨aC,c4,rfl⟩:=Array.mem_iff_getElem.mp<|Array.mem_toList_iff.mp aL;exact Z0 aC _<|ja.2 aC _<|pi c4) λH aM=>?_;refine iq (c2 aM f) ?_;have Z1:xf L (zG H).toArray s:=by refine l aM ?_;simpa using ja
 refine cx (aZ w H bw Z1) λkW Z2=>?_;unfold JoinOk at kW;rw[Gd]at kW;have t:Gives (joinTail mH<|zG H) (joinMade mH H):=by have yl:=gives_joinTail mH H kW;cases H with|nil=>exact yl|cons r D=>cases D with
   |nil=>exact yl|cons e gw=>exact yl
 exact t prog k u (wants J aN) w<|post_join H ⟨joinFit_length kW,Z2⟩
end
end
structure fa where
 objs:List<|aw×Obj
 m:Nat
 toks:Nat
 sc:List Nat
 eI:List<|aw×aw
 gs:List iI
def jR(H:List<|aw×aw):Prop:=∀r∈H,r.1=r.2
noncomputable def Bf(bf:BT)(i:aw):fa->Option (Obj×fa)
 |⟨os,ae,y,0::D,kA,bU⟩=>(Jk bf i).bind λv=>A (v,⟨os,ae,y,D,kA,bU⟩)|⟨os,ae,y,(q+1)::D,kA,bU⟩=>os[q]?.bind λ|(b,v)=>A (v,⟨os,ae,y,D,(i,b)::kA,bU⟩)
 |⟨bC,dw,ic,[],su,QX⟩=>a7
noncomputable def QY(i:aw)(R:Obj->Obj):fa->Option fa
 |⟨os,ae,y,(q+1)::D,kA,bU⟩=>os[q]?.bind λ|(b,v)=>(h_<|R v).bind λdq=>A ⟨os.set q (b,dq),ae,y,D,(i,b)::kA,bU⟩
 |_=>a7
noncomputable def iB{bk:Type}(st:pb)(bf:BT)(s t:Nat)(eL:iI->fa->Option (gn×fa)):Sem bk->fa->Option (bk×fa)
 |.pure i,G=>A (i,G)|.rule bC p,G=>iB st bf s t eL (p ()) G|.at bC p,G=>iB st bf s t eL (p ()) G|.point bC p,G=>iB st bf s t eL (p ()) G|.ask p,G=>iB st bf s t eL (p st) G|.thread p,G=>iB st bf s t eL (p 0) G|.fresh p,⟨os,ae,y,T,kA,bU⟩=>iB st bf s t eL (p y) ⟨os,ae,y+1,T,kA,bU⟩|.load i bC p,G=>(Bf bf i G).bind λ|(v,ep)=>iB st bf s t eL (p v) ep
 |.loadIfAlive i p,G=>(Bf bf i G).bind λ|(v,ep)=>iB st bf s t eL (p<|A v) ep
 |.update i bC R p,G=>(QY i R G).bind λM=>iB st bf s t eL (p ()) M|.alloc v p,⟨os,ae,y,T,kA,bU⟩=>(h_ v).bind λdq=>iB st bf s t eL (p<|s+ae) ⟨os++[(s+ae,dq)],ae+1,y,T,kA,bU⟩|.newGen g p,⟨os,ae,y,T,kA,bU⟩=>iB st bf s t eL (p<|t+bU.length) ⟨os,ae,y,T,kA,bU++[g]⟩|.call g a7 bC dw p,G=>(eL g G).bind λ|(R,ep)=>iB st bf s t eL (p<|.ok R) ep
 |bC,dw=>a7
noncomputable def QZ:Data->Option uY|.func bh=>A bh|_=>a7
noncomputable def Q0:au->Option (Str×Tok)|.str e E=>A (e,E)|_=>a7
noncomputable def Q1:Data->Option (Str×Tok)|.fields V=>(V[1]?:Option au).bind Q0|_=>a7
noncomputable def Q2:FuncBody->Option (List eS)|.stmts b=>A b|_=>a7
noncomputable def Q3:au->Option aw|.ref i=>A i|_=>a7
noncomputable def fnOf(bf:BT):iI->fa->Option (uY×List eS×Args×aw×fa)
 |.call (.ref i) fO,G=>(Bf bf i G).bind λ|(v,Bg)=>(QZ v.data).bind λbh=>(m5<|!bh.scope.isGenerator).bind λx=>(m5<|!bh.scope.isCoroutine).bind λx=>(Q2 bh.body).bind λel=>(Q3 bh.code).bind λBh=>(Bf bf Bh Bg).bind λ|(IA,Jy)=>(Q1 IA.data).bind λe=>(m5<|e.1==bh.qualname).bind λx=>A (bh,el,fO,i,Jy)
 |bC,dw=>a7
noncomputable def Jz(kY:iI->fa->Option (gn×fa)):Fin×fa->Option (gn×fa)|(.done cN,ep)=>A (cN,ep)|(.again aR,ep)=>(m5 aR.quiet).bind λx=>kY aR ep
noncomputable def pJ(kb:String->Option uP)(st:pb)(bf:BT)(s t:Nat):Nat->iI->fa->Option (gn×fa)
 |0,bC,dw=>a7|R+1,g,G=>match rk g||ty 3 g.weight with
  |true=>a7|false=>match fnOf bf g G with
   |some (bh,el,fO,i,Bg)=>(iB st bf s t (pJ kb st bf s t R) (bindArgs bh fO) Bg).bind λ|(iw,Jy)=>(iB st bf s t (pJ kb st bf s t R) (zx bh.scope bh.globals bh.closure iw (bh.qualname++".<locals>.") (A i) bh.code a7 bh.builtins) Jy).bind λ|(m,Z3)=>pJ kb st bf s t R (.func el m) Z3
   |none=>(iB st bf s t (pJ kb st bf s t R) (tn kb g) G).bind<|Jz<|pJ kb st bf s t R
inductive e7(bf:BT)(s t:Nat)(b1:ai)(G:fa)(a:ai):Prop|mk(fQ:a.heap.objs.size=s+G.m)(fR:a.toks=G.toks)(gs:∀(q:Nat)(b:aw)(v:Obj),G.objs[q]?=A (b,v)->a.heap.get? b=A v)(i7:(G.objs.map (·.1)).Nodup)(kq:Sub bf a.heap)(mP:∀r∈G.objs,∀v dq,bf.get r.1=A v->h_ v=A dq->False)(sy:∀b v,(∀r∈G.objs,r.1≠b)->b1.heap.get? b=A v->a.heap.get? b=A v)(x0:a.gens=b1.gens++(G.gs.map GenState.fresh).toArray)(AK:b1.gens.size=t)(D7:a.os=b1.os)(Qh:a.drawn=b1.drawn):e7 bf s t b1 G a
section
theorem Q4(c:h_ v=A dq):dq=v/\v.isFreed=a2:=by obtain⟨g,z,qK,bt⟩:=v;cases qK<;>first|exact⟨(fu c).symm,Eq.refl _⟩|exact nomatch c
theorem e7.re{os:List<|aw×Obj}{ae y:Nat}{T Z4:List Nat}{kA Z5:List<|aw×aw}{bU:List iI}{a:ai}(q:e7 bf s t b1 ⟨os,ae,y,T,kA,bU⟩ a):e7 bf s t b1 ⟨os,ae,y,Z4,Z5,bU⟩ a:=⟨q.1,q.2,q.3,q.4,q.5,q.6,q.7,q.8,q.9,q.10,q.11⟩
theorem jR.EZ(c:jR<|r::H):jR H:=λe aZ=>c e<|mt aZ
theorem jR.hd(c:jR<|(i,b)::H):i=b:=c _ bm
theorem Ex(c:Bf bf i G=A M)(aJ:jR M.2.eI):jR G.eI/\∀a,e7 bf s t b1 G a->a.heap.get? i=A M.1/\e7 bf s t b1 M.2 a:=match G,c with|⟨os,ae,y,0::D,kA,bU⟩,c=>d9 c λv j c=>by cases c;exact⟨aJ,λa q=>⟨QI q.5 j,q.re⟩⟩|⟨os,ae,y,(aC+1)::D,kA,bU⟩,c=>d9 c λr j c=>by cases c;exact⟨aJ.EZ,λa q=>⟨(aJ.hd:i=r.1)▸q.3 aC r.1 r.2 j,q.re⟩⟩
set_option tactic.hygienic true in theorem Z6(c:QY i R G=A ep)(aJ:jR ep.eI):jR G.eI/\∀a,e7 bf s t b1 G a->(a.heap.get? i).isSome=W/\e7 bf s t b1 ep {a with heap:=a.heap.update i R}:=by match G,c with
 |⟨os,ae,y,(q+1)::D,kA,bU⟩,c=>
  refine d9 c λr j c=>d9 c λj6 f5 c=>?_;obtain⟨b,h⟩:=r;cases c;obtain rfl:i=b:=aJ.hd;obtain⟨rfl,be⟩:=Q4 f5;refine⟨aJ.EZ,λa e=>?_⟩;have Q5:a.heap.get? i=A h:=e.3 q i h j;have ah:q<os.length:=(k_.mp j).1;have Bi:(os.set q (i,R h)).map (·.1)=os.map (·.1):=by
   apply xp;intro aC;refine l (fW)<|l (fW)<|l (G_) ?_;split
   .rename_i ym;refine c2 ym<|l j ?_;rfl
   .rfl
  have c_:∀(aC:Nat)(b:aw)(v:Obj),aC≠q->os[aC]?=A (b,v)->b≠i:=by
   intro aC b v c4 n JA;subst JA;have Z7:aC<(os.map (·.1)).length:=by simpa using(k_.mp n).1
   have bW:(os.map (·.1))[aC]?=A b:=by refine l (fW)<|l n ?_;rfl
   have cR:(os.map (·.1))[q]?=A b:=by refine l (fW)<|l j ?_;rfl
   exact c4<|(List.getElem?_inj Z7 e.4).mp<|bW.trans cR.symm
  refine⟨by refine l Q5 ?_;rfl,⟨?_,e.2,?_,?_,?_,?_,?_,e.8,e.9,e.10,e.11⟩⟩
  .show(a.heap.update i R).objs.size=_;exact l (Dl ..) e.1
  .intro aC b v c4;replace c4:=(G_)▸c4;split at c4
   .rename_i ym;skip;cases c4;exact n1 R Q5 be
   .rename_i ym;exact(rf _ _ (c_ aC b v (λe=>ym e.symm) c4).symm).trans<|e.3 aC b v c4
  .show((os.set q (i,R h)).map (·.1)).Nodup;exact l Bi e.4
  .intro b v dq n j_;have JA:i≠b:=by rintro rfl;exact e.6 (i,h) (pf j) v dq n j_
   exact(rf _ _ JA).trans<|e.5 b v dq n j_
  .intro r a1 v dq n j_;have:r.1∈(os.set q (i,R h)).map (·.1):=xq a1;replace this:=Bi▸this;exact j2 this λbR qy cg=>e.6 bR qy v dq (cg▸n) j_
  .intro b v n a8;have s0:∀r∈os,r.1≠b:=by intro r a1;have:r.1∈os.map (·.1):=xq a1;replace this:=Bi▸this;exact j2 this λbR qy cg=>cg▸n bR qy
   exact(rf _ _<|s0 (i,h)<|pf j).trans<|e.7 b v s0 a8
set_option tactic.hygienic true in theorem Z8(f5:h_ v=A dq)(a:ai)(e:e7 bf s t b1 G a):a.heap.objs.size=s+G.m/\e7 bf s t b1 ⟨G.objs++[(s+G.m,dq)],G.m+1,G.toks,G.sc,G.eI,G.gs⟩ {a with heap:=a.heap.push v}:=by
 refine cx (Q4 f5) λe2 be=>?_;obtain rfl:=e2;have c1:∀r∈G.objs,r.1<s+G.m:=by intro r a1;refine cJ (Np a1) λq ah=>?_;exact c2 e.1<|dH<|e.3 q r.1 r.2 ah
 refine⟨e.1,⟨?_,e.2,?_,?_,?_,?_,?_,e.8,e.9,e.10,e.11⟩⟩
 .show(a.heap.push dq).objs.size=_;refine l (f' ..)<|l e.1 ?_;rfl
 .intro q b h ah;show(a.heap.push dq).get? b=A h;replace ah:=(List.getElem?_append)▸ah;split at ah
  .exact eT _<|e.3 q b h ah
  .rename_i aM;replace ah:=(List.getElem?_singleton)▸ah;split at ah
   .cases ah;exact c2 e.1<|fj _ be
   .exact d1 ah
 .show((G.objs++[(s+G.m,dq)]).map (·.1)).Nodup;refine l mb<|gq xr<|⟨e.4,by simp,?_⟩;intro i aX b n Bj;refine j2 aX λr a1 h0=>?_;obtain rfl:=h0;simp only[ju,xs,kl]at n;exact iK _<|Nat.lt_of_lt_of_eq (c1 r a1)<|n.symm.trans Bj.symm
 .intro i h j6 j Ey;exact eT _<|e.5 i h j6 j Ey
 .intro r a1 h j6 j Ey;refine bD a1 (λa1=>?_) λa1=>?_
  .exact e.6 r a1 h j6 j Ey
  .simp only[kl]at a1;subst a1;have:=dH<|e.5 _ h j6 j Ey;replace this:=e.1▸this;exact iK _ this
 .intro b h n a8;exact eT _<|e.7 b h (λr a1=>n r<|bO a1) a8
end
section
section
variable{prog:cL}{k:ck}{bf:BT}{s t:Nat}{b1:ai}
def Z9(prog:cL)(k:ck)(bf:BT)(s t:Nat)(b1:ai)(b0:List (iI×Pos)->Prop)(cM:Nat){bk:Type}(E:Sem bk)(G:fa)(M:bk×fa):Prop:=jR G.eI/\∀(u:ch)(C:Ctx)(r:Pos)(a:ai)(J:bk->Pos->ai->Prop),u.depth+cM<fA->C.In u->(∀r,b0<|(C.code,r)::C.below)->e7 bf s t b1 G a->(∀bR w,e7 bf s t b1 M.2 w->J M.1 bR w)->jY (cG prog k) C E J (λx x x=>False) r a
def qL(prog:cL)(k:ck)(bf:BT)(s t:Nat)(b1:ai)(b0:List (iI×Pos)->Prop)(cM:Nat)(eL:iI->fa->Option (gn×fa)):Prop:=∀g G M,eL g G=A M->jR M.2.eI->jR G.eI/\∀(u:ch)a,u.depth+cM<fA->e7 bf s t b1 G a->∀C r,C.code=g->C.Below u->b0 C.below->wpCode (cG prog k) C (λD w=>D=.ok M.1/\e7 bf s t b1 M.2 w) r a
variable{b0:List (iI×Pos)->Prop}{cM:Nat}{eL:iI->fa->Option (gn×fa)}
theorem Q6{bk:Type}(qI:qL prog k bf s t b1 b0 cM eL)(E:Sem bk):∀(G:fa)(M:bk×fa),iB ⟨prog,k.params⟩ bf s t eL E G=A M->jR M.2.eI->Z9 prog k bf s t b1 b0 cM E G M:=by induction E with
 |pure i=>exact λG M c aJ=>by cases c;exact⟨aJ,λu C r a J x x x q aZ=>aZ r a q⟩|rule _ p a5=>exact a5 ()|«at»e p a5=>exact λG M c aJ=>⟨(a5 () G M c aJ).1,λu C x=>(a5 () G M c aJ).2 u C e⟩|point _ p a5=>exact a5 ()|ask p a5=>exact a5 _|thread p a5=>exact a5 _|fresh p a5=>exact λG M c aJ=>⟨(a5 _ _ M c aJ).1,λu C r a J D i b q=>by show _->jY _ _ (p a.toks) _ _ _ _;exact q.2.symm▸(a5 _ _ M c aJ).2 u C r _ J D i b ⟨q.1,f,q.3,q.4,q.5,q.6,q.7,q.8,q.9,q.10,q.11⟩⟩|load i rC p a5=>exact λG M c aJ=>d9 c λh j c=>have ag:=a5 h.1 h.2 M c aJ
   have bb:=Ex (s:=s) (t:=t) (b1:=b1) j ag.1
   ⟨bb.1,λu C r a J D i b q aZ=>⟨h.1,(bb.2 a q).1,ag.2 u C r a J D i b (bb.2 a q).2 aZ⟩⟩|loadIfAlive i p a5=>exact λG M c aJ=>d9 c λh j c=>have ag:=a5 (A h.1) h.2 M c aJ
   have bb:=Ex (s:=s) (t:=t) (b1:=b1) j ag.1
   ⟨bb.1,λu C r a J D e9 b q aZ=>by show jY _ _ (p<|a.heap.get? i) _ _ _ _;exact((bb.2 a q).1).symm▸ag.2 u C r a J D e9 b (bb.2 a q).2 aZ⟩|update i rC R p a5=>exact λG M c aJ=>d9 c λh j c=>have ag:=a5 () h M c aJ
   have bb:=Z6 (bf:=bf) (s:=s) (t:=t) (b1:=b1) j ag.1
   ⟨bb.1,λu C r a J D i b q aZ=>⟨(bb.2 a q).1,ag.2 u C r _ J D i b (bb.2 a q).2 aZ⟩⟩|alloc v p a5=>exact λG M c aJ=>d9 c λdq j c=>have ag:=a5 _ _ M c aJ
   ⟨ag.1,λu C r a J D i b q aZ=>by have bb:=Z8 j a q;show jY _ _ (p a.heap.objs.size) _ _ _ _;exact bb.1.symm▸ag.2 u C r _ J D i b bb.2 aZ⟩|newGen Bh p a5=>exact λG M c aJ=>have ag:=a5 _ _ M c aJ
   ⟨ag.1,λu C r a J D i b q aZ=>by
    have j:a.gens.size=t+G.gs.length:=by refine l q.8<|l Dj<|l q.9 ?_;simp
    show jY _ _ (p a.gens.size) _ _ _ _;exact j.symm▸ag.2 u C r _ J D i b ⟨q.1,q.2,q.3,q.4,q.5,q.6,q.7,(congrArg (·.push<|.fresh Bh) q.8).trans (by simp),q.9,q.10,q.11⟩ aZ⟩|call g bp m5 H p a5=>
  cases bp
  case some=>exact λG M c=>d1 c
  exact λG M c aJ=>d9 c λh j c=>have ag:=a5 (.ok h.1) h.2 M c aJ
    have bb:=qI g G h j ag.1
    ⟨bb.1,λu C r a J D b7 gK q aZ=>zs (λgw w M=>M.1▸ag.2 u C r w J D b7 gK M.2 aZ)<|bb.2 u a D q (C.enter g a7 r) r f (b7.enter g a7 r (by intro h;exact d1 h))<|gK r⟩|_=>exact λG M c=>d1 c
theorem Bk{bk:Type}(qI:qL prog k bf s t b1 sq cM eL){E:Sem bk}{G:fa}{M:bk×fa}(c:iB ⟨prog,k.params⟩ bf s t eL E G=A M)(aJ:jR M.2.eI):jR G.eI/\∀(u:ch)a(J:bk->ai->Prop),u.depth+cM<fA->e7 bf s t b1 G a->(∀w,e7 bf s t b1 M.2 w->J M.1 w)->I prog k u E J a:=have p:=Q6 qI E G M c aJ
 ⟨p.1,λu a J D q aZ C r b7 b' aO=>p.2 u C r a _ D b7 (λr h X=>di X (λe=>e▸b')<|aO h) q λx w hL=>aZ w hL⟩
theorem qL.p_(qI:qL prog k bf s t b1 sq cM eL)(c:eL g G=A M)(aJ:jR M.2.eI):jR G.eI/\∀(u:ch)a(L:gn->ai->Prop),u.depth+cM<fA->e7 bf s t b1 G a->(∀w,e7 bf s t b1 M.2 w->L M.1 w)->d6 prog k u g L a:=have p:=qI g G M c aJ
 ⟨p.1,λu a L D q bJ C r aO b7 gK=>zs (λD w e=>e.1▸bJ w e.2)<|p.2 u a D q C r aO b7 gK⟩
theorem qL.of{g:iI}{M:gn×fa}{u:ch}{a:ai}(c:d6 prog k u g (λR w=>R=M.1/\e7 bf s t b1 M.2 w) a):∀C r,C.code=g->C.Below u->sq C.below->wpCode (cG prog k) C (λD w=>D=.ok M.1/\e7 bf s t b1 M.2 w) r a:=λC r aO b7 gK=>zs (λD w e=>by cases D with|ok R=>exact⟨congrArg _ e.1,e.2⟩|error j=>exact e.elim)<|c C r aO b7 gK
theorem Z_(c:QZ h=A R):h=.func R:=by
 cases h
 case func=>cases c;rfl
 all_goals exact d1 c
theorem Z'(c:Q2 h=A R):h=.stmts R:=by
 cases h
 case stmts=>cases c;rfl
 all_goals exact d1 c
theorem aaa(c:Q3 h=A R):h=.ref R:=by
 cases h
 case ref=>cases c;rfl
 all_goals exact d1 c
theorem aab(c:Q0 h=A R):h=.str R.1 R.2:=by
 cases h
 case str=>cases c;rfl
 all_goals exact d1 c
set_option tactic.hygienic true in theorem aac(c:Q1 h=A R):∃V,h=.fields V/\(V[1]?:Option au)=A (.str R.1 R.2):=by
 cases h
 case fields V=>exact d9 c λB j c=>(dk V f<|j.trans<|congrArg A<|aab c)
 all_goals exact d1 c
theorem Ez(c:m5 (!e)=A av):e=a2:=by
 cases e
 .rfl
 .exact d1 c
set_option tactic.hygienic true in theorem aad(c:fnOf bf g G=A M)(aJ:jR M.2.2.2.2.eI):g=.call (.ref M.2.2.2.1) M.2.2.1/\M.1.scope.isGenerator=a2/\M.1.scope.isCoroutine=a2/\M.1.body=.stmts M.2.1/\jR G.eI/\∀a,e7 bf s t b1 G a->(∃v,a.heap.get? M.2.2.2.1=A v/\v.data=.func M.1)/\a.heap.CodeRec M.1.code M.1.qualname/\e7 bf s t b1 M.2.2.2.2 a:=by
 cases g
 case call B fO=>
  cases B
  case ref i=>refine d9 c λh bW c=>d9 c λbh cR c=>d9 c λx f3 c=>d9 c λx jL c=>d9 c λalA sN c=>d9 c λBh v1 c=>d9 c λav rD c=>d9 c λe qJ c=>d9 c λx aae c=>?_;cases c;have aF:=Ex (s:=s) (t:=t) (b1:=b1) rD aJ;have cn:=Ex (s:=s) (t:=t) (b1:=b1) bW aF.1;exact⟨f,Ez f3,Ez jL,Z' sN,cn.1,λa q=>⟨⟨h.1,(cn.2 a q).1,Z_ cR⟩,((aac qJ).elim λV p=>⟨Bh,av.1,V,e.2,aaa v1,(aF.2 a (cn.2 a q).2).1,p.1,p.2.trans<|l (eq_of_beq<|rB aae) f⟩),(aF.2 a (cn.2 a q).2).2⟩⟩
  all_goals exact d1 c
 all_goals exact d1 c
theorem JB{g:iI}(c:ty 3 g.weight=a2):g.weight<=3:=u4 λe=>nomatch c.symm.trans<|Nc e
theorem Q7{kY:iI->fa->Option (gn×fa)}{h:Fin×fa}{M:gn×fa}(c:Jz kY h=A M){ao:Prop}(ag:h=(.done M.1,M.2)->ao)(aF:∀g G,h=(.again g,G)->g.quiet=W->kY g G=A M->ao):ao:=match h,c with|(.done cN,ep),c=>by cases c;exact ag f|(.again aR,ep),c=>d9 c λx j c=>aF aR ep f (rB j) c
theorem rE(c:z+3*(R+1)<H)(a8:p<=3):z+p+3*R<H:=nx (.t (.a (.a .x .y)<|.m 3 .z) .w) [.t (.a .x<|.m 3<|.o .z) .w,.l .y<|.n 3] f c a8
theorem Q8(gK:∀c:e0,Sub bf c->c.NoLimit):∀R,qL prog k bf s t b1 sq (3*R)<|pJ table ⟨prog,k.params⟩ bf s t R|0=>λg G M c x=>d1 c|R+1=>λg G M c aJ=>by have a5:=Q8 gK R;unfold pJ at c;cases cr:rk g||ty 3 g.weight with|true=>replace c:=cr▸c;exact d1 c|false=>replace c:=cr▸c;have b':=Gc.mp cr;have yn:=JB b'.2;cases be:fnOf bf g G with
   |some B=>replace c:=be▸c;refine d9 c λav qo c=>d9 c λh EA c=>?_;have jk:=a5.p_ c aJ;have e5:=Bk a5 EA jk.1;have cS:=Bk a5 qo e5.1;have p:=aad (s:=s) (t:=t) (b1:=b1) be cS.1;refine⟨p.2.2.2.2.1,λu a D q=>qL.of<|l p.1 ?_⟩;have fG:=p.2.2.2.2.2 a q;exact fG.1.elim λv jF=>D6 (rE (p:=0) D (hf 3)|>mD (hT _ _)) jF.1 jF.2 p.2.2.1 p.2.1 p.2.2.2.1 fG.2.1 (cS.2 u.in1 a _ (rE (p:=0) D<|hf 3) fG.2.2 λan Bl=>e5.2 u.in1 an _ (rE (p:=0) D<|hf 3) Bl λal yo=>⟨gK _ yo.5,jk.2 u al _ (rE (p:=0) D<|hf 3) yo λw hL=>⟨f,hL⟩⟩)|none=>
    replace c:=be▸c;refine d9 c λh qo c=>Q7 (kY:=pJ table ⟨prog,k.params⟩ bf s t R) c (λe=>?_) λaR ep e aZ eC=>?_
    .subst e;have cS:=Bk a5 qo aJ;exact⟨cS.1,λu a D q=>qL.of<|d6.lZ b'.1<|cS.2 (u.under g) a _ (rE D yn) q λw hL=>⟨f,hL⟩⟩
    .subst e;have e5:=a5.p_ eC aJ;have cS:=Bk a5 qo e5.1;exact⟨cS.1,λu a D q=>qL.of<|d6.lZ b'.1<|cS.2 (u.under g) a _ (rE D yn) q λw hL=>⟨aZ,e5.2 u w _ (rE (p:=0) D<|hf 3) hL λek aaf=>⟨f,aaf⟩⟩⟩
noncomputable def Bm{bk:Type}:Option (bk×fa)->List aw|some D=>D.2.eI.map (·.2)|none=>[]
theorem Q9:∀{H:List<|aw×aw},H.map (·.1)=H.map (·.2)->jR H
 |[],bC=>aP|(i,b)::H,c=>λr a1=>by
  simp only[ju,List.cons.injEq]at c
  revert r;refine gr ?_ ?_
  .exact c.1
  .intro r a1;exact Q9 c.2 r a1
theorem Q_{bk d0:Type}{ef:fa->d0}{v:Option<|bk×fa}{i:bk}{h:d0}(c:v.map (λD=>(D.1,ef D.2,D.2.eI.map (·.1)))=A (i,h,Bm v)){ao:Prop}(p:∀ep,v=A (i,ep)->jR ep.eI->ef ep=h->ao):ao:=by cases v with|none=>exact d1 c|some M=>have c:=Ol<|fu c;have aa:=Ol c.2;exact p M.2 (congrArg (λe=>A (e,M.2)) c.1) (Q9 aa.2) aa.1
theorem aag{bk d0:Type}{u:ch}{E:Sem bk}{a:ai}{G:fa}{i:bk}{h:d0}{R:Nat}{ef:fa->d0}{J:bk->ai->Prop}(gK:∀c:e0,Sub bf c->c.NoLimit)(aB:u.depth+3*R<fA)(U:e7 bf s t b1 G a)(c:(iB ⟨prog,k.params⟩ bf s t (pJ nk ⟨prog,k.params⟩ bf s t R) E G).map (λD=>(D.1,ef D.2,D.2.eI.map (·.1)))=A (i,h,Bm<|iB ⟨prog,k.params⟩ bf s t (pJ nk ⟨prog,k.params⟩ bf s t R) E G))(aZ:∀ep w,e7 bf s t b1 ep w->ef ep=h->J i w):I prog k u E J a:=by rw[<-xe]at c;exact Q_ c λep j aJ P=>(Bk (Q8 gK R) j aJ).2 u a J aB U λw hL=>aZ ep w hL P
end
end
section
section
variable{prog:cL}{k:ck}{bf:BT}{s t:Nat}{b1:ai}
variable{cM:Nat}
noncomputable abbrev Q':List (iI×Pos)->Prop:=λx=>True
theorem JC{bk:Type}(qI:qL prog k bf s t b1 Q' cM eL){E:Sem bk}{G:fa}{M:bk×fa}(c:iB ⟨prog,k.params⟩ bf s t eL E G=A M)(aJ:jR M.2.eI):jR G.eI/\∀(u:ch)a(J:bk->ai->Prop)(aN:au->ai->Prop),u.depth+cM<fA->e7 bf s t b1 G a->(∀w,e7 bf s t b1 M.2 w->J M.1 w)->cj (cG prog k) u E J aN a:=have p:=Q6 qI E G M c aJ
 ⟨p.1,λu a J aN D q aZ C r b7=>mc _ C E (λx x x c=>c) (λx x x c=>c.elim) r a<|p.2 u C r a _ D b7 (λx=>trivial) q λx w hL=>aZ w hL⟩
noncomputable def uj(kb:String->Option uP)(st:pb)(bf:BT)(s t:Nat):Nat->iI->fa->Option (gn×fa)|0,bC,dw=>a7|R+1,g,G=>(m5<|!ty 3 g.weight).bind λx=>(iB st bf s t (uj kb st bf s t R) (tn kb g) G).bind<|Jz<|uj kb st bf s t R
theorem Ra:∀R,qL prog k bf s t b1 Q' (3*R)<|uj table ⟨prog,k.params⟩ bf s t R
 |0=>λg G M c x=>nomatch c|R+1=>λg G M c aJ=>by
  have a5:=Ra R;refine d9 c λav cr c=>d9 c λh qo c=>Q7 (kY:=uj table ⟨prog,k.params⟩ bf s t R) c (λe=>?_) λaR ep e aZ eC=>?_
  .subst e;have cS:=JC a5 qo aJ;exact⟨cS.1,λu a D q C r aO b7 x=>zv (R:=λD w=>D=.ok M.1/\e7 bf s t b1 M.2 w) (cS.2 (u.under g) a _ _ (rE D<|JB<|Ez cr) q λw hL=>⟨f,hL⟩) C r aO b7⟩
  .subst e;have e5:=a5 _ _ _ eC aJ;have cS:=JC a5 qo e5.1;exact⟨cS.1,λu a D q C r aO b7 x=>zv (R:=λD w=>D=.ok M.1/\e7 bf s t b1 M.2 w) (cS.2 (u.under g) a _ _ (rE D<|JB<|Ez cr) q λw hL=>⟨aZ,λC r aO b7=>e5.2 u w (rE (p:=0) D<|hf 3) hL C r aO b7 trivial⟩) C r aO b7⟩
theorem aah{bk d0:Type}{u:ch}{E:Sem bk}{a:ai}{G:fa}{i:bk}{h:d0}{R:Nat}{ef:fa->d0}{J:bk->ai->Prop}(aB:u.depth+3*R<fA)(U:e7 bf s t b1 G a)(c:(iB ⟨prog,k.params⟩ bf s t (uj nk ⟨prog,k.params⟩ bf s t R) E G).map (λD=>(D.1,ef D.2,D.2.eI.map (·.1)))=A (i,h,Bm<|iB ⟨prog,k.params⟩ bf s t (uj nk ⟨prog,k.params⟩ bf s t R) E G))(aZ:∀ep w,e7 bf s t b1 ep w->ef ep=h->J i w):cj (cG prog k) u E J (λx x=>False) a:=by rw[<-xe]at c;exact Q_ c λep j aJ P=>(JC (Ra R) j aJ).2 u a J _ aB U λw hL=>aZ ep w hL P
end
end
noncomputable abbrev eG(k:ck):BT:=oj az k.params
def hM{bk:Type}(bf:ck->BT)(E:Sem bk)(i:bk)(z:Nat):Prop:=∀(b:Bool)(k:ck)(p:Nat),kZ ⟨az,(k.withFollow "special-get-raises" b).params⟩ (bf<|k.withFollow "special-get-raises" b) (vU nk ⟨az,(k.withFollow "special-get-raises" b).params⟩ (bf<|k.withFollow "special-get-raises" b) 30) E p=A (.ok i,p+z)
theorem EB(c:hM bf E i z)(Q:Sub (bf k) a.heap)(aZ:J i {a with toks:=a.toks+z}):I az k u E J a:=by refine ZI (bf:=bf k) (R:=30) (z:=z) Q (λp=>?_) aZ;have:=c (k.params.followText "special-get-raises") k p;rw[Ah]at this;exact this
theorem lX(c:hM bf E i 0)(Q:Sub (bf k) a.heap)(aZ:J i a):I az k u E J a:=EB c Q aZ
theorem aai:hM eG (mroOf<|.ref 135) [.ref 135,.type "tuple",.type "object"] 0:=λb k p=>by cases b<;>cbv
theorem aaj:hM eG (Bind.madeBy<|.ref 135) a7 0:=λb k p=>by cases b<;>cbv
theorem Rb:hM eG (kK (.ref 135) "__init__") (A<|.builtin "object.__init__") 0:=λb k p=>by cases b<;>cbv
theorem aak:hM eG (uS (.ref 135)<|.ref 135) W 0:=λb k p=>by cases b<;>cbv
theorem aal:hM eG (uS (.ref 135)<|.type "tuple") W 0:=λb k p=>by cases b<;>cbv
theorem aam:hM eG (Bind.madeHere "tuple.__new__"<|.ref 135) () 0:=λb k p=>by cases b<;>cbv
theorem aan:hM eG (isType<|.ref 135) W 0:=λb k p=>by cases b<;>cbv
theorem aao(i:au):hM eG (bindSpecial (.builtin "object.__init__") i) (.builtin "object.__init__",[i]) 0:=λb k p=>by cases b<;>cbv
theorem aap(h M G:au):hM eG (callAny (.ref 135) ⟨[h,M,G],[]⟩) (.again<|.call (.builtin "type.__call__") ⟨[.ref 135,h,M,G],[]⟩) 0:=λb k p=>by cases b<;>cbv
theorem aaq:hM eG (oC (.ref 135) "__new__") (.ref 82) 1:=λb k p=>by cases b<;>cbv
theorem aar(h M G:au):hM eG (callAny (.builtin "type.__call__") ⟨[.ref 135,h,M,G],[]⟩) (.again<|.builtin "type.__call__" ⟨[.ref 135,h,M,G],[]⟩) 0:=λb k p=>by cases b<;>cbv
def rF{bk d0:Type}(R:Nat)(bf:ck->BT)(s t:Nat)(E:Sem bk)(G:Nat->fa)(i:bk)(ef:fa->d0)(h:Nat->d0):Prop:=∀(b:Bool)(k:ck)(p:Nat),(iB ⟨az,(k.withFollow "special-get-raises" b).params⟩ (bf<|k.withFollow "special-get-raises" b) s t (pJ nk ⟨az,(k.withFollow "special-get-raises" b).params⟩ (bf<|k.withFollow "special-get-raises" b) s t R) E<|G p).map (λD=>(D.1,ef D.2,D.2.eI.map (·.1)))=A (i,h p,Bm<|iB ⟨az,(k.withFollow "special-get-raises" b).params⟩ (bf<|k.withFollow "special-get-raises" b) s t (pJ nk ⟨az,(k.withFollow "special-get-raises" b).params⟩ (bf<|k.withFollow "special-get-raises" b) s t R) E<|G p)
theorem Rc{bk d0:Type}{R:Nat}{bf:ck->BT}{s t:Nat}{E:Sem bk}{G:Nat->fa}{i:bk}{ef:fa->d0}{h:Nat->d0}{J:bk->ai->Prop}(c:rF R bf s t E G i ef h)(gK:∀c:e0,Sub (bf k) c->c.NoLimit)(aB:u.depth+3*R<fA)(U:e7 (bf k) s t b1 (G a.toks) a)(aZ:∀ep w,e7 (bf k) s t b1 ep w->ef ep=h a.toks->J i w):I az k u E J a:=by refine aag gK aB U ?_ aZ;have:=c (k.params.followText "special-get-raises") k a.toks;rw[Ah]at this;exact this
theorem aas(i s t:Nat)(h M G:au)(v:Option aw)(z:Data):rF 10 eG s t (call (.builtin "object.__init__") [.ref i,h,M,G]) (λp=>⟨[(i,{cls:=.ref 135,dict:=v,data:=z})],0,p,[1,0,1,0,0,0,0,0],[],[]⟩) .none (λG=>(G.m,G.gs,G.objs)) (λp=>(0,[],[(i,{cls:=.ref 135,dict:=v,data:=z})])):=λb k p=>by cases b<;>cbv
theorem e7.start{bf:BT}{K:List<|aw×Obj}{T:List Nat}(Q:Sub bf a.heap)(ms:∀r∈K,a.heap.get? r.1=A r.2)(ay:(K.map (·.1)).Nodup)(aJ:∀r∈K,∀v dq,bf.get r.1=A v->h_ v=A dq->False):e7 bf a.heap.objs.size a.gens.size a ⟨K,0,a.toks,T,[],[]⟩ a:=⟨(f),(f),(λq b v j=>ms (b,v)<|pf j),(ay),(Q),(aJ),(λx x x j=>j),(by rfl),(f),(f),(f)⟩
theorem e7.grow{bf:BT}{K:List aw}{G:fa}{w:ai}(q:e7 bf a.heap.objs.size a.gens.size a G w)(ms:∀r∈G.objs,r.1∈K\/a.heap.objs.size<=r.1):a9 K [] a w:=⟨(λb v n j=>q.7 b v (λr a1 e=>(ms r a1).elim (λc=>n<|e▸c) λc=>iK _<|cI (dH j)<|e▸c) j),(by refine l q.1 ?_;exact hT _ _),(λaC h x j=>by refine l q.8 ?_;exact(NS (Hj.mp j).1).trans j),(by refine l q.8<|l Dj ?_;exact hT _ _),(λc M a3=>by
  rw[q.8,NT]at a3;rcases a3 with a3|a3
  .exact c M a3
  .simp only[G',zX]at a3;obtain⟨g,_,rfl⟩:=a3;rfl),(q.10)⟩
theorem e7.same(q:e7 bf a.heap.objs.size a.gens.size a G w)(ms:∀r∈G.objs,a.heap.get? r.1=A r.2\/a.heap.objs.size<=r.1):bM [] a w:=⟨(λb v x j=>by
  by_cases n:∃r∈G.objs,r.1=b
  .obtain⟨r,a1,rfl⟩:=n;obtain⟨aC,c4⟩:=Np a1;rcases ms r a1 with c|c
   .replace j:=c▸j;cases j;exact q.3 aC _ _ c4
   .exact b4 (dH j) c
  .exact q.7 b v (λr a1 e=>n<|dk r a1 e) j),(by refine l q.1 ?_;exact hT _ _),(λaC h x j=>by refine l q.8 ?_;exact(NS (Hj.mp j).1).trans j),(by refine l q.8<|l Dj ?_;exact hT _ _),(λc M a3=>by
  rw[q.8,NT]at a3;rcases a3 with a3|a3
  .exact c M a3
  .simp only[G',zX]at a3;obtain⟨g,_,rfl⟩:=a3;rfl),(q.10)⟩
theorem EC{bk:Type}{prog:cL}{k:ck}{u:ch}{aN:au->ai->Prop}{E:Sem bk}{a:ai}{i:Nat->bk}{z:Nat}{J:bk->ai->Prop}(c:∀st p,kZ st .nil (λx x=>a7) E p=A (.ok<|i p,p+z))(aZ:J (i a.toks) {a with toks:=a.toks+z}):cj (cG prog k) u E J aN a:=λC r x=>Eo (bf:=.nil) (eL:=λx x=>a7) (a:=a) (λb v dq j=>nomatch j) (λg p D aO=>nomatch aO) E C _ _ a.toks _ r (c _ _) λx=>aZ
noncomputable def yp(aQ:List Bool):Str:=⟨(aQ.map λb=>bif b then 49 else 48).toArray⟩
noncomputable def valOf(aQ:List Bool):Int:=aQ.foldl (λi b=>2*i+(bif b then 1 else 0)) 0
noncomputable def yq:Nat->List (List Bool)|0=>[[]]|s+1=>(yq s).map (List.cons a2)++(yq s).map (List.cons W)
theorem ED:∀H:List Bool,H∈yq H.length|[]=>kl.mpr f|false::H=>tA _<|xq<|ED H|true::H=>xl _<|xq<|ED H
theorem aat(st:pb)(p:Nat)(E av:Tok):(yq 8).map (λaQ=>kZ st .nil (λx x=>a7) (NM ⟨[.type "int",.str (yp aQ) E,.int 2 av],[]⟩) p)=(yq 8).map λaQ=>A (.ok<|.done<|.ret<|.int (valOf aQ) p,p+1):=by cbv
theorem aau(st:pb)(p:Nat)(E av:Tok)(n:aQ.length=8):kZ st .nil (λx x=>a7) (NM ⟨[.type "int",.str (yp aQ) E,.int 2 av],[]⟩) p=A (.ok<|.done<|.ret<|.int (valOf aQ) p,p+1):=List.map_inj_left.mp (aat st p E av) _<|n▸ED aQ
theorem aav(i b:au):CL "int" ⟨[i,b],[]⟩=pure ():=by cbv
theorem aax(i b:au):uR "int.__new__" ⟨[.type "int",i,b],[]⟩=pure ():=by cbv
theorem aay{prog:cL}{k:ck}{u:ch}{aN:au->ai->Prop}{a:ai}{E av:Tok}{aQ:List Bool}(n:aQ.length=8){J:au->ai->Prop}(c:J (.int (valOf aQ) a.toks) {a with toks:=a.toks+1}):cj (cG prog k) u (call (.type "int") [.str (yp aQ) E,.int 2 av]) J aN a:=Gy F.called_int F.newNe_int (aav _ _) (aax _ _) (λnD=>Hs nD _ _) F.entry_int_new (S:=λx cM a=>cM (.ok<|.ret<|.int (valOf aQ) a.toks) {a with toks:=a.toks+1}) (λprog k u cM a aZ=>EC (λst p=>aau st p E av n) aZ) ⟨w6 _ _ _,c⟩
section
theorem Rd:mroOf (.type "map")=pure [.type "map",.type "object"]:=by refine l (mroOf_type ..) ?_;cbv
theorem aaz:kK (.type "map") "__new__"=pure (A<|.builtin "map.__new__"):=by refine l (hq ..)<|l hr ?_;cbv
theorem aaA:uS (.type "map") (.type "map")=pure W:=by refine l (kj ..) ?_;cbv
theorem aaB:uZ "map" "__init__" "object.__init__":=.of (owner:="object") (n:="__init__") (by refine l (hq ..)<|l hr ?_;cbv) (by decide+kernel) (by decide+kernel) (by decide+kernel) (by first|exact .inl (by decide+kernel)|exact .inr (by decide+kernel)) (by refine l (kj ..) ?_;cbv)
theorem aaC:TypeCalled "map" "map.__new__" "object.__init__":=⟨by decide+kernel,by decide+kernel,(mf _ _ Rd),madeBy_type Rd aaz (by decide+kernel),by decide+kernel,aaA,aaB⟩
theorem aaD(i b:au):CL "map" ⟨[i,b],[]⟩=pure ():=by cbv
theorem aaE(i b:au):uR "map.__new__" ⟨[.type "map",i,b],[]⟩=pure ():=by cbv
theorem aaF:kI table "map.__new__"=A NN:=oA (by cbv)
theorem aaG:(A "map.__new__"!=A "object.__new__")=W:=by decide+kernel
theorem aaH(i b:au):Dv "map" ⟨[.type "map",i,b],[]⟩=pure (.type "map",[i,b]):=by unfold Dv;rfl
section
variable{prog:cL}{k:ck}{u:ch}{aN:au->ai->Prop}{a:ai}{b0:aw}
theorem aaI{bs:Array au}(aM:a.heap.IsList b0 bs)(d5:ch)(m4:au->ai->Prop)(cM:Gz->ai->Prop)(iP:∀ba a0 af aa y,oY aa ba a0 af b0 bs 0->a.heap.objs.size<=ba->a.heap.objs.size<=a0->a.heap.objs.size<=af->ba≠af->a0≠af->(∀b v,a.heap.get? b=A v->aa.get? b=A v)->cM (.done<|.ret<|.ref ba) {a with heap:=aa,toks:=y}):cj (cG prog k) d5 (NN ⟨[.type "map",.type "str",.ref b0],[]⟩) cM m4 a:=by
  refine me (aaH _ _) ?_;try dsimp only
  refine me (i:=()) (by first|rfl|cbv) ?_;try dsimp only
  refine nv (by simp)<|bg (m:=HA [e8 b0])<|bg<|bg<|kM<|CM aM<|cu<|cu<|cu ?_;have U:(a.heap.push {cls:=.type "list_iterator",data:=.fields #[.ref b0,.int 0 0]}).objs.size=a.heap.objs.size+1:=f' ..;have fx:(a.heap.push {cls:=.type "list_iterator",data:=.fields #[.ref b0,.int 0 0]}).get? a.heap.objs.size=A {cls:=.type "list_iterator",data:=.fields #[.ref b0,.int 0 0]}:=fj _ f;have cS:∀b v,a.heap.get? b=A v->(a.heap.push {cls:=.type "list_iterator",data:=.fields #[.ref b0,.int 0 0]}).get? b=A v:=λb v j=>eT _ j;generalize(a.heap.push {cls:=.type "list_iterator",data:=.fields #[.ref b0,.int 0 0]})=bn at*;refine bg (m:=newTuple [e8 a.heap.objs.size])<|C2<|bg (m:=Dw (hh "map") [e8 bn.objs.size,hh "str"]) ?_;unfold Dw;refine i4<|cu ?_;have v2:(bn.push {cls:=.type "tuple",data:=.seq #[e8 a.heap.objs.size]}).objs.size=a.heap.objs.size+2:=l (f' ..)<|l U f;refine iP _ bn.objs.size a.heap.objs.size _ _ ⟨fj _ f,⟨0,eT _<|fj _ f⟩,⟨_,eT _<|eT _ fx,f,f⟩,aM.at λv j=>eT _<|eT _<|cS _ v j⟩ ?_ ?_ (dD _) ?_ ?_ λb v j=>eT _<|eT _<|cS b v j;all_goals(try simp only[f',U])
  all_goals(first|(show@LE.le Nat _ _ _;(first|exact js _|exact bZ (.l .x<|.o<|.o .x) [] f))|(show@Ne Nat _ _;lia))
theorem aaJ{bs:Array au}{J:au->ai->Prop}(aM:a.heap.IsList b0 bs)(c:∀ba a0 af aa y,oY aa ba a0 af b0 bs 0->a.heap.objs.size<=ba->a.heap.objs.size<=a0->a.heap.objs.size<=af->ba≠af->a0≠af->(∀b v,a.heap.get? b=A v->aa.get? b=A v)->J (.ref ba) {a with heap:=aa,toks:=y}):cj (cG prog k) u (call (.type "map") [.type "str",.ref b0]) J aN a:=by refine Gy aaC aaG (aaD _ _) (aaE _ _) (λnD=>Hs nD _ _) aaF (S:=λx cM w=>w=a/\∀ba a0 af aa y,oY aa ba a0 af b0 bs 0->a.heap.objs.size<=ba->a.heap.objs.size<=a0->a.heap.objs.size<=af->ba≠af->a0≠af->(∀b v,a.heap.get? b=A v->aa.get? b=A v)->cM (.ok<|.ret<|.ref ba) {a with heap:=aa,toks:=y}) ?_ ⟨f,λba a0 af aa y bw i b g z j R=>⟨⟨_,bw.1,f⟩,c ba a0 af aa y bw i b g z j R⟩⟩;rintro aaK aaL d5 cM w⟨rfl,iP⟩;exact aaI aM d5.in1 _ _ iP
end
end
theorem EE(a:ai):kk a a:=⟨a.heap,a.toks,f,λx x j=>j⟩
theorem v3(a:ai)(y:Nat):kk a {a with toks:=y}:=⟨a.heap,y,f,λx x j=>j⟩
theorem v4(p:∀b v,a.heap.get? b=A v->aa.get? b=A v):kk a {a with heap:=aa,toks:=y}:=⟨aa,y,f,p⟩
theorem ol(h:kk i b)(M:kk b g):kk i g:=by refine fM h λag t1 bK i_=>?_;obtain rfl:=bK;refine fM M λaF t2 b8 iY=>?_;obtain rfl:=b8;exact⟨aF,t2,f,λb v j=>iY b v<|i_ b v j⟩
theorem uk(h:kk i b):∀r v,i.heap.get? r=A v->b.heap.get? r=A v:=by exact fM h λag t1 dm i_=>l dm i_
section
def qM(L:ai->Prop):Prop:=∀a w,L a->kk a w->L w
def Bn(aE:ai->au->Prop):Prop:=∀a w g,aE a g->kk a w->aE w g
def gX(prog:cL)(k:ck)(u:ch)(aN:au->ai->Prop)(m:Env)(L:ai->Prop)(j:bH)(aE:ai->au->Prop):Prop:=∀a(J:au->ai->Prop),L a->(∀g w,kk a w->aE w g->J g w)->cj (cG prog k) u (dF j m) J aN a
def v5(prog:cL)(k:ck)(u:ch)(aN:au->ai->Prop)(m:Env)(L:ai->Prop)(as:List bH)(aE:ai->List au->Prop):Prop:=∀a(J:List au->ai->Prop)(ak:Pos),L a->(∀aY w,kk a w->aE w aY->J aY w)->cj (cG prog k) u (mB<|jV ak<|jh as m) J aN a
theorem EF:gX prog k u aN m L (.Constant (.int q) p ak) (d' q):=λa J x ac=>r3<|ac _ _ (v3 ..) ⟨_,f⟩
theorem Re(c:n_ L m h B)(bp:(h==("__debug__":Str))=a2:=by decide):gX prog k u aN m L (.Name h ak) (λx g=>g=B):=λa J Q ac=>by
 refine cx c λdX c=>cx dX λa8 X=>bl (c a Q) λhm aK eO=>?_;obtain aL|⟨aL,hI,n,oM⟩:=eO
 .exact Dr a8 X (Ob aK aL<|ac _ _ (EE a) f) bp
 .exact Dr a8 X (Oc aK aL n oM<|ac _ _ (EE a) f) bp
theorem EG:v5 prog k u aN m L [] (λx aY=>aY=[]):=λa J ak Q ac=>cu<|ac _ _ (EE a) f
theorem yr(ay:dT j=W)(bJ:qM L)(c:gX prog k u aN m L j aE)(aL:Bn aE)(Q:v5 prog k u aN m L as If):v5 prog k u aN m L (j::as) (λa aY=>∃g D,aY=g::D/\aE a g/\If a D):=λa J ak a1 ac=>by exact(jA ay).symm▸bg (c a _ a1 λg an aI cS=>lb<|kM<|Q an _ ak (bJ _ _ a1 aI) λaY al a6 e5=>cu<|ac _ al (ol aI a6)<|eH g aY f (aL _ _ _ cS a6) e5)
theorem aaM(ay:as.all dT=W)(c:v5 prog k u aN m L as aE)(Q:L a)(ac:∀aY w,kk a w->aE w aY->J ⟨aY,[]⟩ w):cj (cG prog k) u (evalArgs R W (jV ak<|jh as m) []) J aN a:=by have cV:cj (cG prog k) u (mB<|jV ak<|jh as m) (λV w=>J ⟨V,[]⟩ w) aN a:=c a _ ak Q ac;cases as with|nil=>exact bg<|r8 cV (λV w aa=>lb<|kH<|lb<|lb<|cu aa) λx x h=>h|cons j as=>rw[n0,jU]at ay;rw[jA ay.1]at cV⊢;exact bg<|r8 cV (λV w aa=>lb<|kH<|lb<|lb<|cu aa) λx x h=>h
theorem Rf(be:Aw R=W)(ay:as.all dT=W)(c:v5 prog k u aN m L as aE)(Q:L a)(aO:∀aY w,kk a w->aE w aY->cj (cG prog k) u (et R (iR++aY) []) J aN w):cj (cG prog k) u (pZ ak R iR (jV Ax<|jh as m) []) J aN a:=by
 refine kM<|aaM ay c Q λaY an aI cS=>bg<|pY<|l (vr ay ..)<|l (u7 ..)<|l (q9 ..) ?_;have a8:r4 R=dC .machine:=by cases R<;>first|rfl|exact jj be
 exact l a8<|lb<|bg<|r8 (aO aY an aI cS) (λD al aB=>kM<|o_<|cu aB) λx x h=>h
def v6(prog:cL)(k:ck)(u:ch)(aN:au->ai->Prop)(E:Sem au)(aE:ai->au->Prop)(a:ai):Prop:=∀J:au->ai->Prop,(∀g w,kk a w->aE w g->J g w)->cj (cG prog k) u E J aN a
theorem EH(bJ:qM L)(aK:n_ L m h R)(be:Aw R=W)(c:v5 prog k u aN m L as aE)(aO:∀a aY,L a->aE a aY->v6 prog k u aN (et R aY []) de a)(ay:as.all dT=W:=by rfl)(bp:(h==("__debug__":Str))=a2:=by decide):gX prog k u aN m L (.Call (.Name h Ig) as [] ak) de:=λa J Q ac=>by .exact bg<|Re aK bp a _ Q λg an aI cS=>l cS<|Rf (iR:=[]) be ay c (bJ _ _ Q aI) λaY al a6 e5=>aO al aY (bJ _ _ Q<|ol aI a6) e5 _ λD bT bQ jk=>ac D bT (ol (ol aI a6) bQ) jk
theorem EI(bJ:qM L)(bn:gX prog k u aN m L H jz)(aL:Bn jz)(bG:gX prog k u aN m L D nE)(qp:∀a i b,L a->jz a i->nE a b->v6 prog k u aN (tq nG i b) aE a):gX prog k u aN m L (.BinOp H nG D ak) aE:=λa J Q ac=>Gv<|bn a _ Q λi an aI cS=>bG an _ (bJ _ _ Q aI) λb al a6 e5=>qp al i b (bJ _ _ Q<|ol aI a6) (aL _ _ _ cS a6) e5 _ λg bT bQ jk=>ac g bT (ol (ol aI a6) bQ) jk
theorem JD(q:Int):Bn (d' q):=λx x x c x=>c
theorem Rg(bJ:qM L)(bn:gX prog k u aN m L H<|d' i)(bG:gX prog k u aN m L D<|d' b):gX prog k u aN m L (.BinOp H .Add D ak) (d'<|i+b):=EI bJ bn (JD i) bG (by rintro a _ _-fE gh J ac;refine cJ fE λE gV=>?_;refine l gV ?_;refine cJ gh λav h1=>?_;refine l h1 ?_;exact N'<|ac _ _ (v3 ..)<|gD _ f)
theorem aaN(bJ:qM L)(bn:gX prog k u aN m L H<|d' i)(bG:gX prog k u aN m L D<|d' b):gX prog k u aN m L (.BinOp H .Sub D ak) (d'<|i-b):=EI bJ bn (JD i) bG (by rintro a _ _-i8 jC J ac;refine cJ i8 λE lm=>?_;refine l lm ?_;refine cJ jC λav mm=>?_;refine l mm ?_;exact Oa<|ac _ _ (v3 ..) ⟨_,f⟩)
end
section
open PySem PySem.W PyProof.Rows Builtin
section
theorem Rh{i bt:aw}{b:Array UInt8}{H av:au}{lo ah:Option Int}{J:au->ai->Prop}(aJ:a.heap.get? i=A (cf b))(j3:a.heap.IsSliceOf bt H av .none)(aM:tt H lo)(d_:tt av ah)(U:b.size<=cp)(c:J (.ref a.heap.objs.size) {a with heap:=a.heap.push<|cf<|xA b lo ah}):cj (cG prog k) u (getItem (.ref i)<|.ref bt) J aN a:=by
 obtain⟨v,qN,aO,bp⟩:=j3;have cz:a.TypeIs (.ref bt) "slice":=⟨v,qN,aO⟩;refine kH<|bg<|zu (gF aJ) aS ?_;refine bg<|ni (name:=hg "__getitem__") (gF aJ) vj (kJ vj (gF aJ) O7 ?_<|O8 _ _);show cj _ _ (Bytes.subscript? (.ref bt)>>=λD=>_) _ _ a;refine bg<|bg<|g6 cz slice_no_index<|cu<|bg<|w_ cz<|bg<|ir (h:=.none) qN bp f ?_
 kby_none;refine wpAny_ite<|KBy.ite_no (show¬((oG==hE 0)=W)from zp)<|ir (h:=H) qN bp f ?_;have dW:(xA b lo ah).size<=sizeLine:=a' (KBc.size_picked_le b _ _) U;have kY:cj (cG prog k) u.in1 (sliceIndices (rawPart lo) (rawPart ah) (rawPart a7) b.size) (λD w=>D=sliceBounds lo ah a7 b.size/\w=a) (λx x=>False) a:=nW (sliceIndices_raw lo ah a7 b.size<|λj=>nomatch j) ⟨f,f⟩;cases aM<;>cases d_<;>(first|(kby_none;(refine ir (h:=.none) qN bp f ?_);kby_none)|(kby_none;(refine ir (h:=.int _ _) qN bp f ?_);kby_int)|(kby_int;(refine ir (h:=.none) qN bp f ?_);kby_none)|(kby_int;(refine ir (h:=.int _ _) qN bp f ?_);kby_int))<;>refine cu ?_;all_goals refine bg<|vk aJ<|bg<|r8 kY (λD w aB=>?_) λx x j=>j.elim;obtain⟨AP,x5⟩:=aB;subst AP x5;exact bg<|i4 (cu<|dk _ f<|cu c) dW
end
end
section
open PySem PySem.W PyProof.Rows Builtin
theorem ys:uZ "bytearray_iterator" "__next__" "bytearray_iterator.__next__":=.of (owner:="bytearray_iterator") (n:="__next__") (by refine l (hq ..)<|l hr ?_;cbv) (by decide+kernel) (by decide+kernel) (by decide+kernel) (by first|exact .inl (by decide+kernel)|exact .inr (by decide+kernel)) (by refine l (kj ..) ?_;cbv)
theorem Ri:uZ "bytearray_iterator" "__iter__" "bytearray_iterator.__iter__":=.of (owner:="bytearray_iterator") (n:="__iter__") (by refine l (hq ..)<|l hr ?_;cbv) (by decide+kernel) (by decide+kernel) (by decide+kernel) (by first|exact .inl (by decide+kernel)|exact .inr (by decide+kernel)) (by refine l (kj ..) ?_;cbv)
theorem Rj:kI table "bytearray_iterator.__next__"=A V7:=oA (by cbv)
theorem aaP:kI table "bytearray_iterator.__iter__"=A NL:=Gh (id':="dict_keyiterator.__iter__") (by cbv) f (by decide+kernel) (by cbv)
theorem Rk(i:au):iJ "bytearray_iterator.__next__" ⟨[i],[]⟩:=by unfold iJ;cbv
theorem aaS(i:au):iJ "bytearray_iterator.__iter__" ⟨[i],[]⟩:=by unfold iJ;cbv
section
inductive ul(c:e0)(ey i:aw)(b:Array UInt8)(q:Nat):Prop|mk(fQ:c.get? ey=A {cls:=.type "bytearray_iterator",data:=.fields #[.ref i,hE q]})(fR:c.get? i=A (cf b)):ul c ey i b q
theorem aaV(aJ:a.heap.get? i=A (cf b))(ac:ul (a.heap.push {cls:=.type "bytearray_iterator",data:=.fields #[.ref i,hE (0:Nat)]}) a.heap.objs.size i b 0->J (.ref a.heap.objs.size) {a with heap:=a.heap.push {cls:=.type "bytearray_iterator",data:=.fields #[.ref i,hE (0:Nat)]}}):cj (cG prog k) u (nj<|.ref i) J aN a:=by refine Gx (gF aJ) O_<|kJ O_ (gF aJ) WW ?_<|WX _;show cj _ _ (do ret<|<-newFields "bytearray_iterator" [.ref i,hE 0]) _ _ a;exact bg<|i4<|cu<|dk _ f<|eH "bytearray_iterator" _ ⟨_,fj _ f,f⟩ ys.lookup<|ac ⟨fj _ f,eT _ aJ⟩
theorem aaW(h:ul a.heap ey i b q)(c:J (.ref ey) a):cj (cG prog k) u (nj<|.ref ey) J aN a:=by have cz:a.TypeIs (.ref ey) "bytearray_iterator":=⟨_,h.1,f⟩;exact Gx cz Ri<|kJ Ri cz aaP (cu<|dk _ f<|eH "bytearray_iterator" _ cz ys.lookup c)<|aaS _
theorem aaX(h:ul a.heap ey i b q)(X:b[q]?=A g)(ac:∀aa,ul aa ey i b (q+1)->hV ey a.heap aa->J (A<|.int (g.toNat:Int) a.toks) {a with heap:=aa,toks:=a.toks+1}):cj (cG prog k) u (nY<|.ref ey) J aN a:=by
 have cz:a.TypeIs (.ref ey) "bytearray_iterator":=⟨_,h.1,f⟩;obtain⟨ah,aX⟩:=h;have c_:ey≠i:=λe=>by rw[e,aX]at ah;have ag:=congrArg (λv:Option Obj=>v.map (·.cls)) ah;simp[cf]at ag
 refine bg<|uT<|ni (name:=hg "__next__") cz ys (kJ ys cz Rj ?_<|Rk _);show cj _ _ (field (.ref ey) 0>>=_) _ _ a;refine ir ah f (h:=.ref i) f<|nu aX<|ir ah f (h:=.int q 0) f ?_;simp only[mC,X];refine bg<|xh ah (dD _) λaa fy Q=>bg<|r3<|cu<|dk _ f<|cu<|ac aa ⟨fy,(Q.2 i<|ip c_).trans aX⟩ Q
theorem aaY(b':u.handled=a7)(h:ul a.heap ey i b q)(X:b[q]?=a7)(ac:∀aa,Ac ey a.heap aa->J a7 {a with heap:=aa}):cj (cG prog k) u (nY<|.ref ey) J aN a:=by have cz:a.TypeIs (.ref ey) "bytearray_iterator":=⟨_,h.1,f⟩;obtain⟨ah,aX⟩:=h;refine bg<|uT<|ni (name:=hg "__next__") cz ys (kJ ys cz Rj ?_<|Rk _);show cj _ _ (field (.ref ey) 0>>=_) _ _ a;refine ir ah f (h:=.ref i) f<|nu aX<|ir ah f (h:=.int q 0) f ?_;simp only[mC,X];refine bg<|l_<|bg<|wpAny_setField ah f (by simp)<|bg<|uQ<|bg<|bg<|i4 (bg (m:=C3 _ _)<|nW (a:=oG) (by first|rfl|(simp only[C3];rfl))<|i4 (bg<|wpAny_handled<|iq (l (show u.in1.handled=a7 from b') f)<|lb<|wpAny_throw ?_) (by size_fits)) (by size_fits);refine bg<|q' (T:="StopIteration") (b:=W) ⟨_,fj _ f,f⟩ Gw ?_;exact cu<|ac _<|((sd ..).extBut.push _).push _
end
theorem aaZ(b':u.handled=a7)(aj i:aw)(b:Array UInt8):Walks prog k u aj [aj,i] [aj] b.size (λq B=>∃g av,b[q]?=A g/\B=.int (g.toNat:Int) av) (λq c=>ul c aj i b q):=⟨(λx n=>by refine l (bc n) ?_;exact bm),(λx x x st a8=>⟨a8 aj (bm) _ st.1,a8 i (mt bm) _ st.2⟩),(λq a J aN ah st ac=>by refine aaX st (g:=b[q]) (by simp[ah]) λaa aa0 dB=>?_;exact ac _ aa (a.toks+1) (tL _ _ (by simp[ah]) f) aa0 λb v n j=>dB.extBut b v (λc=>n (by simp[c])) j),(λa J aN st ac=>aaY b' st (by simp) λaa sY=>ac aa a.toks λb v n j=>sY b v (λc=>n (by simp[c])) j),(λx x x x st ac=>aaW st ac)⟩
end
section
open PySem PySem.W PyProof.Rows Builtin
section
theorem aa1(aB:a.heap.get? D=A (cf b))(c:J a2 a):cj (cG prog k) u (Builtin.List.listLengthHint<|.ref D) J aN a:=by
 refine bg<|g6 (gF aB) HW.lookup ?_;generalize Rl:("bytearray.__len__":String)=aa2
 wp_delta;refine((show splitId aa2=A ("bytearray","__len__")from by subst Rl;decide+kernel).symm)▸?_;subst Rl;refine bg<|q' (T:="bytearray") (b:=W) (gF aB) (by refine l (kj ..) ?_;cbv) ?_;exact GB (λBj=>absurd Bj aS)<|λx=>GB (λx=>bg<|w_ (gF aB)<|cu c)<|λBj=>absurd fv Bj
def JE(b:Array UInt8):Nat->au->Prop:=λq B=>∃g av,b[q]?=A g/\B=.int (g.toNat:Int) av
theorem aa3(b':u.handled=a7)(aB:a.heap.get? D=A (cf b))(cP:b.size<=2^24)(fZ:aw)(mO:au)(Rm:Nat)(hs:a.heap.get? fZ=A {cls:=.type "list",data:=.seq #[] Rm})(iP:∀aa y gy aR,(∀b v,b≠fZ->a.heap.get? b=A v->aa.get? b=A v)->aa.get? fZ=A {cls:=.type "list",dict:=a7,data:=.seq gy aR,slots:=#[]}->xf (JE b) gy b.size->cM (.ok<|.ret mO) {a with heap:=aa,toks:=y}):cj (cG prog k) u.in1 (Hw (.ref fZ) (.ref D) mO) (λhi w=>match hi with|.done R=>cM (.ok R) w|.again aR=>aR.quiet=W/\zr (cG prog k) u aR cM w) (λj w=>cM (.error j) w) a:=by
 have Bo:fZ≠D:=λj=>by rw[j,aB]at hs;have ag:=congrArg (λv:Option Obj=>v.map (·.cls)) hs;simp[cf]at ag
 have Ew:fZ≠a.heap.objs.size:=hS<|dH hs;have qn:fZ∉[a.heap.objs.size,D]:=λbw=>di bw Ew λbw=>Bo<|bc bw;have cV:∀(c:e0)(fC y:Nat),ul c a.heap.objs.size D b 0->(∀b v,b≠fZ->a.heap.get? b=A v->c.get? b=A v)->c.get? fZ=A {cls:=.type "list",data:=.seq #[] fC}->zr (cG prog k) u (.builtin "list.extend.loop" ⟨[.ref fZ,.ref a.heap.objs.size,mO],[]⟩) cM {a with heap:=c,toks:=y}:=by intro c fC y gL a8 ui;refine MT ((aaZ (prog:=prog) (k:=k) (u:=u.in1) b' a.heap.objs.size D b).toS) (by refine l sizeLine_eq ?_;omega) fZ qn mO b.size 0 _ #[] fC f (hf _) gL ui (Oj _) λw gy aR bw v0 ja=>?_;exact l (Oo bw)<|iP w.heap w.toks gy aR (λb v n j=>bw.heap b v (λnM=>di nM (λcg=>n cg) λnM=>absurd (dH j)<|bc nM▸iK _)<|a8 b v n j) v0 ja
 refine bg<|w_ (gF aB) ?_;have ag:Ds (.ref fZ) (.ref D)=a2:=by simp[Ds,Bo]
 have aF:(hh "bytearray"==hh "list")=a2:=aS;have bb:(hh "bytearray"==hh "tuple")=a2:=aS;simp only[ag,aF,bb,q9,Gf,if_false];refine bg<|aaV aB λJF=>kM<|aa1 (b:=b) (eT _ aB) ?_;have ui:=eT {cls:=.type "bytearray_iterator",data:=.fields #[.ref D,hE (0:Nat)]} hs;refine GB (λx=>?_)<|λx=>cu ⟨nX Hr _,cV _ Rm _ JF (λb v x j=>eT _ j) ui⟩;refine bg<|l_<|bg<|bg<|xg ui f ?_;have vY:=n1 (mI (·.push oG)) ui f;refine xg (hz:=by seq_fits) vY f ?_;have sZ:∀b v,b≠fZ->(a.heap.push {cls:=.type "bytearray_iterator",data:=.fields #[.ref D,hE (0:Nat)]}).get? b=A v->(((a.heap.push {cls:=.type "bytearray_iterator",data:=.fields #[.ref D,hE (0:Nat)]}).update fZ (mI (·.push oG))).update fZ (mI (·.pop))).get? b=A v:=λb v n j=>(rf _ _<|ip n).trans<|(rf _ _<|ip n).trans j;refine cu ⟨nX Hr _,cV _ _ _ ⟨sZ _ _ (ip Ew) JF.1,sZ _ _ (ip Bo) JF.2⟩ (λb v n j=>sZ b v n<|eT _ j) (n1 (mI (·.pop)) vY f)⟩
theorem aa4(b':u.handled=a7)(aB:a.heap.get? D=A (cf b))(cP:b.size<=2^24)(fZ:aw)(hs:a.heap.get? fZ=A {cls:=.type "list",data:=.seq #[]})(iP:∀aa y gy aR,(∀b v,b≠fZ->a.heap.get? b=A v->aa.get? b=A v)->aa.get? fZ=A {cls:=.type "list",dict:=a7,data:=.seq gy aR,slots:=#[]}->xf (JE b) gy b.size->cM (.ok<|.ret .none) {a with heap:=aa,toks:=y}):cj (cG prog k) u.in1 (V8 ⟨[.ref fZ,.ref D],[]⟩) (λhi w=>match hi with|.done R=>cM (.ok R) w|.again aR=>aR.quiet=W/\zr (cG prog k) u aR cM w) (λj w=>cM (.error j) w) a:=by
 have Bo:fZ≠D:=λj=>by rw[j,aB]at hs;have ag:=congrArg (λv:Option Obj=>v.map (·.cls)) hs;simp[cf]at ag
 show cj _ _ (do let qt<-Builtin.List.listItems<|.ref fZ;Builtin.List.listUpdate (.ref fZ)<|λx=>#[];letGo qt.toList.reverse;Hw (.ref fZ) (.ref D) .none) _ _ a;refine bg<|bg<|r7 hs f<|cu<|bg<|xg hs f ?_;have vY:=n1 (mI<|λx=>(#[]:Array au)) hs f;have sZ:∀b v,b≠fZ->a.heap.get? b=A v->(a.heap.update fZ<|mI<|λx=>(#[]:Array au)).get? b=A v:=λb v n j=>(rf _ _<|ip n).trans j;exact bg<|uQ<|aa3 b' (sZ D _ (ip Bo) aB) cP fZ .none _ vY λaa y gy aR a8 v0 ja=>iP aa y gy aR (λb v n j=>a8 b v n<|sZ b v n j) v0 ja
end
theorem Rn(b':u.handled=a7)(aB:a.heap.get? D=A (cf b))(cP:b.size<=2^24)(ac:∀aa y gy aR,(∀b v,a.heap.get? b=A v->aa.get? b=A v)->aa.get? a.heap.objs.size=A {cls:=.type "list",dict:=a7,data:=.seq gy aR,slots:=#[]}->xf (JE b) gy b.size->J (.ref a.heap.objs.size) {a with heap:=aa,toks:=y}):cj (cG prog k) u (call (.type "list") [.ref D]) J aN a:=by refine callType_codes (Q₁:=λnD an=>nD=.ref a.heap.objs.size/\an={a with heap:=a.heap.push {cls:=.type "list",data:=.seq #[]}}) F.called_list (F.typeCall_list_1 _) F.entry_list_init (code_list_new _ ⟨f,f⟩) λnD an bn=>?_;obtain⟨rfl,rfl⟩:=bn;have hs:(a.heap.push {cls:=.type "list",data:=.seq #[]}).get? a.heap.objs.size=A {cls:=.type "list",data:=.seq #[]}:=fj _ f;refine⟨⟨_,hs,f⟩,F.args_list_init_2 _ _,aa4 (u:=u.in1) b' (eT _ aB) cP _ hs λaa y gy aR a8 v0 ja=>?_⟩;exact⟨f,ac aa y gy aR (λb v j=>a8 b v (hS<|dH j)<|eT _ j) v0 ja⟩
end
section
theorem aa5(bJ:qM L)(bn:gX prog k u aN m L ez jz)(aL:Bn jz)(bG:gX prog k u aN m L fo nE)(bI:∀a g z,L a->jz a g->nE a z->v6 prog k u aN (Dq ez fo g z) aE a):gX prog k u aN m L (.Subscript ez fo ak) aE:=λa J Q ac=>by exact bg<|bn a _ Q λg an aI cS=>kM<|bG an _ (bJ _ _ Q aI) λz al a6 e5=>bg<|pY<|bI al g z (bJ _ _ Q<|ol aI a6) (aL _ _ _ cS a6) e5 J λD bT bQ jk=>ac D bT (ol (ol aI a6) bQ) jk
theorem Ro(c:gX prog k u aN m L j<|d' p)(Q:L a)(ac:∀g w,kk a w->tt g (A p)->J g w):cj (cG prog k) u (valueOrNone<|evalOpt (A j) m) J aN a:=c a _ Q λg w t⟨E,aO⟩=>ac g w t<|aO▸.int p E
theorem aa6{H av:bH}{lo ah:Int}{ak:Pos}(bJ:qM L)(bn:gX prog k u aN m L H<|d' lo)(bG:gX prog k u aN m L av<|d' ah):gX prog k u aN m L (.Slice (A H) (A av) a7 ak) (λa g=>∃bt B hz,g=.ref bt/\a.heap.IsSliceOf bt B hz .none/\tt B (A lo)/\tt hz (A ah)):=λa J Q ac=>by refine bg<|Ro bn Q λg an aI cS=>kM<|Ro bG (bJ _ _ Q aI) λz al a6 e5=>?_;refine kM ?_;refine iq (f) ?_;refine cu ?_;refine i4 ?_ (by show 3<=cp+2;decide);exact ac _ _ (ol (ol aI a6)<|v4 λb v j=>eT _ j)<|mK _ g z f (Od ..) cS e5
theorem aa7{ez H av:bH}{lo ah:Int}{i:aw}{b:Array UInt8}{ak vT:Pos}(bJ:qM L)(bn:gX prog k u aN m L ez<|λa g=>g=.ref i/\a.heap.get? i=A (cf b))(aM:gX prog k u aN m L H<|d' lo)(d_:gX prog k u aN m L av<|d' ah)(U:b.size<=cp):gX prog k u aN m L (.Subscript ez (.Slice (A H) (A av) a7 ak) vT) (λa g=>∃e9,g=.ref e9/\a.heap.get? e9=A (cf<|xA b (A lo)<|A ah)):=aa5 bJ bn (λa w g c t=>⟨c.1,uk t _ _ c.2⟩) (aa6 bJ aM d_) (by rintro a g z-bK b8 J ac;refine cx bK λdm aJ=>?_;obtain rfl:=dm;refine la b8 λbt B hz dX j3 eQ e'=>?_;obtain rfl:=dX;refine sf (gF aJ) vj.lookup (Rh aJ j3 eQ e' U ?_) (ops:=[.ref bt,.ref i]) f;exact ac _ _ (v4 λb v j=>eT _ j)<|dk _ f<|fj _ f)
end
section
section
variable{prog:cL}{k:ck}{u:ch}{aN:au->ai->Prop}{a:ai}{aA:List bd}
theorem JG:Bn (IsL [] aA):=λa w g c t=>by exact iM c λi V s j aK aB=>⟨i,V,s,j,uk t _ _ aK,bX.to (λb v n j=>⟨uk t _ _ j,n⟩) _ _ aB⟩
theorem JI{V:List au}{y:Nat}(c:bX a.heap [] aA V):IsL [] aA {a with heap:=a.heap.push {cls:=.type "list",data:=.seq V.toArray},toks:=y} (.ref a.heap.objs.size):=⟨_,V.toArray,0,f,fj _ f,bX.to (λb v n j=>⟨eT _ j,n⟩) _ _ (by simpa using c)⟩
theorem aa8{g z:au}(aO:IsL [] aA a g)(bp:IsL [] ca a z)(U:aA.length+ca.length<=cp):v6 prog k u aN (tq .Add g z) (IsL []<|aA++ca) a:=by
 refine iM aO λi V s bK mT qs=>?_;obtain rfl:=bK;refine iM bp λb fD ae b8 Ay vt=>?_;obtain rfl:=b8;intro J ac;have j:V++fD=(V.toList++fD.toList).toArray:=by simp
 have h2:=qs.length;have i9:=vt.length;exact concat_meets ⟨_,mT,f⟩ ⟨_,Ay,f⟩ noFill_list_add seq_list_add NY NZ (N0 _ _) (list_addW i b V fD s ae a7 a7 #[] #[] (by simp at h2 i9;exact l h2<|l i9 U)) ⟨mT,Ay,(j▸ac _ _ (v4 (y:=a.toks) λb v j=>eT _ j) (JI (y:=a.toks)<|bX.append vt qs))⟩
theorem aa9{g:au}{p:Int}{av:Tok}(aO:IsL [] aA a g)(c_:aA≠[])(mV:-(2^63:Int)<=p)(nB:p<2^63)(U:aA.length*p.toNat<=2^24):v6 prog k u aN (tq .Mult g<|.int p av) (IsL [] (dE p.toNat aA).flatten) a:=by
 refine iM aO λi V s dm mT qs=>?_;obtain rfl:=dm;intro J ac;have h2:V.size=aA.length:=by simpa using qs.length
 have ay:¬V.isEmpty=W:=λe=>by rw[Hk]at e;replace h2:=e▸h2;exact c_<|List.length_eq_zero_iff.mp h2.symm
 refine PP mT mV nB (h2▸U)<|(if_neg ay).symm▸?_;have j:List.foldl (λN S=>N++S) #[] (dE p.toNat V)=((dE p.toNat V.toList).flatten).toArray:=by apply Array.toList_inj.mp;refine l (foldl_rep ..) ?_;simp
 exact j.symm▸ac _ _ (v4 (y:=a.toks) λb v j=>eT _ j) (JI (y:=a.toks)<|bX.rep qs _)
noncomputable def JJ(b:Array UInt8):List bd:=b.toList.map λg=>.int (g.toNat:Int)
theorem Rp:∀(H:List UInt8)(V:List au),V.length=H.length->(∀(q:Nat)(B:au),V[q]?=A B->∃g av,H[q]?=A g/\B=.int (g.toNat:Int) av)->bX a.heap [] (H.map λg=>.int (g.toNat:Int)) V|[],[],bC,dw=>by show bX _ _ [] [];exact f|[],B::V,c,bC=>by cases c|g::H,[],c,bC=>by cases c|g::H,B::V,c,aL=>by refine fM (aL 0 B f) λaR av j dX=>?_;obtain rfl:=dX;cases j;exact(eH _ V f ((gD av f))<|Rp H V (by simpa using c) λq B ah=>aL (q+1) B ah)
theorem aa_{i:aw}{b:Array UInt8}(b':u.handled=a7)(aJ:a.heap.get? i=A (cf b))(U:b.size<=2^24):v6 prog k u aN (et (.type "list") [.ref i] []) (IsL []<|JJ b) a:=λJ ac=>by refine Rn b' aJ U λaa y cb aR a8 hs ja=>ac _ _ (v4 a8) ⟨_,cb,aR,f,hs,(Rp (a:={a with heap:=aa,toks:=y}) b.toList cb.toList (ja.1) λq B aL=>?_)⟩;have:=ja.2 q B (by simpa using aL);refine fM this λg av j eO=>?_;obtain rfl:=eO;exact⟨g,av,by simpa using j,f⟩
end
end
section
noncomputable def b2i(b:Bool):Int:=bif b then 1 else 0
section
variable{prog:cL}{k:ck}{u:ch}{aN:au->ai->Prop}{a:ai}
def EJ(dc:e0)(aQ:List Bool):ai->au->Prop:=λa g=>∃(ba a0 af b0:aw)(ab:List<|Int×Tok),g=.ref ba/\(∀b v,dc.get? b=A v->b≠af)/\oY a.heap ba a0 af b0 (ab.map λr:Int×Tok=>se r.1 r.2).toArray 0/\ba≠af/\a0≠af/\b0≠af/\ab.map (·.1)=aQ.map b2i
theorem Rq:∀(H:List Int)(V:List au),bX a.heap [] (H.map .int) V->∃ab:List<|Int×Tok,V=ab.map (λr=>se r.1 r.2)/\ab.map (·.1)=H|[],V,c=>by have aa:bX a.heap [] [] V:=c;exact⟨[],aa,f⟩|q::H,V,c=>by have aa:bX a.heap [] (.int q::H.map .int) V:=c;exact dZ aa λg aY e2 ag aF=>l e2<|cJ ag λE g2=>l g2<|bl (Rq H aY aF) λab h0 j=>l h0<|⟨(q,E)::ab,f,l ju<|l j f⟩
theorem aa'{g:au}{aQ:List Bool}(aO:IsL [] (aQ.map λb=>.int<|b2i b) a g){dc:e0}(g3:∀b v,dc.get? b=A v->a.heap.get? b=A v):v6 prog k u aN (et (.type "map") [.type "str",g] []) (EJ dc aQ) a:=λJ ac=>by
 refine iM aO λi V s bK mT qs=>l bK ?_;have j:(aQ.map λb=>bd.int<|b2i b)=(aQ.map b2i).map .int:=by refine l ph ?_;rfl
 rw[j]at qs;refine bl (Rq _ _ qs) λab aL ay=>aaJ ⟨_,mT,f,s,f⟩ λba a0 af aa y bw oZ cz fx aba abb a8=>ac _ _ (v4 a8) ⟨ba,a0,af,i,ab,f,(λb v j e=>b4 (dH<|g3 b v j)<|e▸fx),(c2 aL ?_),aba,abb,λe=>b4 (dH mT)<|e▸fx,ay⟩;simpa using bw
theorem abc(b:Bool):(b2i b).natAbs.log2<1920:=by cases b<;>decide
theorem abd:∀aQ∈yq 8,Txt.join mH (aQ.map λb=>(hg<|toString<|b2i b))=yp aQ/\JoinOk mH (aQ.map λb=>(hg<|toString<|b2i b))=W:=by decide+kernel
theorem abe(n:aQ.length=8)(b':u.handled=a7)(aO:EJ dc aQ a g)(ac:∀eM aa y,(∀b v,dc.get? b=A v->a.heap.get? b=A v->aa.get? b=A v)->J (.str (yp aQ) eM) {a with heap:=aa,toks:=y}):cj (cG prog k) u (et (.builtin "str.join") [.str mH E,g] []) J aN a:=by
 refine DH aO λba a0 af b0 ab eO abf bw ag aF bb lj=>l eO ?_;have aM:ab.length=8:=by have:=congrArg sa lj;rw[gp,gp]at this;exact this.trans n
 have c4:=abd aQ<|n▸ED aQ;have de:=ZX (prog:=prog) (k:=k) (u:=u.in1.in1) (ba:=ba) (a0:=a0) (af:=af) (b0:=b0) b' ag aF bb ab (λr a1=>by have:r.1∈ab.map (·.1):=xq a1;replace this:=lj▸this;refine j2 this λb x n=>c2 n ?_;exact abc b);refine ZZ de (λq a st=>⟨_,st.1,f⟩) bw (λb n=>?_) (bm) (λq B⟨r,av,_,j⟩=>⟨_,av,j⟩) (λw H Rr ja=>?_) (by refine l aM ?_;decide)
 .obtain⟨bc,⟨s,JK⟩,⟨v,abg,_⟩,⟨dq,abh,_⟩⟩:=bw;simp only[e1,mE,or_false]at n;rcases n with rfl|rfl|rfl|rfl
  .exact dH bc
  .exact dH JK
  .exact dH abg
  .exact dH abh
 .have cP:H.length=ab.length:=by simpa[zG]using ja.1
  have j:H.map (·.1)=aQ.map λb=>(hg<|toString<|b2i b):=by
   have bW:H.map (·.1)=(ab.map (·.1)).map λq=>hg (toString q):=by
    refine xp λaC=>?_;rcases pd aC H.length with c4|c4
    .refine fM (ja.2 aC (.str (H[aC].1)<|H[aC].2) (by simp[zG,c4])) λr av a1 aL=>(fW).symm▸(fW).symm▸(fW).symm▸a1.symm▸(gQ c4).symm▸?_;have e:=(Value.str.inj aL).1;simp only[r9];exact e.symm▸f
    .exact l (rc (by simpa using c4))<|l (rc (by simpa using cP▸c4)) f
   refine l bW<|l lj<|l ph ?_;rfl
  exact j.symm▸⟨c4.2,λeM p=>c4.1.symm▸(Oo Rr).symm▸ac eM w.heap p λb v n j=>Rr.heap b v (λe=>abf b v n<|bc e) j⟩
end
end
section
theorem abi(ay:as.all dT=W)(cP:as.length<20)(ml:tv v attr m (dF v m)=dF v m)(hw:(pw.endLine==ak.line)=W)(c:cj (cG prog k) u (dF v m) (λkR an=>cj (cG prog k) u (CQ W v m kR attr) (λbA al=>cj (cG prog k) u (pZ ak bA.1 bA.2 (jV ak<|jh as m) []) J aN al) aN an) aN a):cj (cG prog k) u (dF (.Call (.Attribute v attr pw) as [] ak) m) J aN a:=by
 refine iq (l (arm_eval_Call ..)<|l ml f)<|bg<|r8 c (λkR an bn=>?_) λx x h=>h;refine bg<|pY ?_;have Iw:CS (as.length+([]:List Keyword).length) (jV ak<|jh as m) (backToKw ak<|keywordEach [] m)=W:=by unfold CS;refine l (Iv ay)<|?_;show(W&&W&&decide (as.length+0+0<30))=W;simp;exact bZ (.t .x<|.n 30) [.t .x<|.n 20] f cP
 unfold methodCall;refine Iw.symm▸kM (r8 bn (λbA al bG=>?_) λx x h=>h);have Ix:CT W v m pw ak=dC ak:=by unfold CT;simp[hw]
 obtain⟨R,iR⟩:=bA;refine me Ix<|iq (f) ?_;exact bG
end
section
theorem abj(n:aQ.length=8)(b':u.handled=a7)(bJ:qM L)(bw:n_ L m "map"<|.type "map")(gG:n_ L m "str"<|.type "str")(br:gX prog k u aN m L j<|IsL []<|aQ.map λb=>.int<|b2i b)(ay:dT j=W)(hw:(lw.endLine==e'.line)=W)(ml:tv (.Constant (.str mH) p JL) "join" m (dF (.Constant (.str mH) p JL) m)=dF (.Constant (.str mH) p JL) m):gX prog k u aN m L (.Call (.Attribute (.Constant (.str mH) p JL) "join" lw) [.Call (.Name "map" JM) [.Name "str" JN,j] [] eQ] [] e') (λx g=>∃E,g=.str (yp aQ) E):=λa J Q ac=>by
 refine abi (as:=[.Call (.Name "map" JM) [.Name "str" JN,j] [] eQ]) f (by show 1<20;decide) ml hw<|MU ?_;unfold CQ;refine(if_pos f).symm▸?_
 with_reducible refine GM.join (x:=mH) ?_
 have JO:qM (λE=>L E/\∀b v,a.heap.get? b=A v->E.heap.get? b=A v):=λi b c t=>⟨bJ _ _ c.1 t,λr v j=>uk t _ _<|c.2 r v j⟩;have k0:n_ (λE=>L E/\∀b v,a.heap.get? b=A v->E.heap.get? b=A v) m "map" (.type "map"):=⟨bw.1,λE c=>bw.2 E c.1⟩;have DU:n_ (λE=>L E/\∀b v,a.heap.get? b=A v->E.heap.get? b=A v) m "str" (.type "str"):=⟨gG.1,λE c=>gG.2 E c.1⟩;have sY:gX prog k u aN m (λE=>L E/\∀b v,a.heap.get? b=A v->E.heap.get? b=A v) j (IsL []<|aQ.map λb=>.int<|b2i b):=λE J c ac=>br E J c.1 ac;have Bi:gX prog k u aN m (λE=>L E/\∀b v,a.heap.get? b=A v->E.heap.get? b=A v) (.Call (.Name "map" JM) [.Name "str" JN,j] [] eQ) (EJ a.heap aQ):=by refine EH JO k0 f (yr f JO (Re DU) (λx x x c x=>c)<|yr ay JO sY JG EG) ?_ (by refine l n0<|l n0<|l ay ?_;rfl);rintro E aY bK b8;refine cx bK λx a8=>dZ b8 λx x dm dX eO=>dZ eO λg x fE aO gh=>?_;obtain rfl:=dm;obtain rfl:=dX;obtain rfl:=fE;obtain rfl:=gh;exact aa' aO a8
 have JP:v5 prog k u aN m (λE=>L E/\∀b v,a.heap.get? b=A v->E.heap.get? b=A v) [.Call (.Name "map" JM) [.Name "str" JN,j] [] eQ] (λE aY=>∃g,aY=[g]/\EJ a.heap aQ E g):=λE J ak c ac=>by exact bg<|Bi E _ c λg an aI cS=>lb<|kM<|cu<|cu<|ac _ _ aI ⟨g,f,cS⟩
 refine Rf (iR:=[.str mH a.toks]) f f JP ⟨bJ _ _ Q<|v3 ..,λb v j=>j⟩ ?_;rintro aY al a6 gV;refine bl gV λg h1 aO=>?_;obtain rfl:=h1;refine abe n b' aO λeM aa y a8=>ac _ _ (fM (ol (v3 a<|a.toks+1) a6) λaF t2 i8 iY=>?_) ⟨_,f⟩;obtain rfl:=i8;exact⟨aa,y,f,λb v j=>a8 b v j<|iY b v j⟩
end
theorem abk(b:Array UInt8)(p:Nat):xA b (A (p:Int)) (A<|(p:Int)+8)=((b.toList.drop p).take 8).toArray:=by
 refine l (KBc.picked_eq ..) ?_;simp only[GH];have j:((p:Int)+8)=((p+8:Nat):Int):=by rfl
 refine l j<|l (CY ..)<|l (CY ..) ?_
 congr 1;have ay:b.toList.length=b.size:=by simp
 rcases jt p b.size with c|c
 .refine l (u6 c) ?_;rcases jt (p+8) b.size with aa|aa
  .exact l (u6 aa)<|l (show p+8-p=8 by exact Nat.add_sub_cancel_left ..) f
  .exact l (xj aa)<|l (oE (by refine l sb<|l ay ?_;exact dD _))<|l (oE (by refine l sb<|l ay ?_;exact(jt (p)<|b.size).elim (λfh=>gv (.l .x<|.n 8) [.l .y<|.a .z<|.n 8,.e (.a .x .z) .y] f aa<|eu fh) λfh=>bZ (.l .x<|.n 8) [.e .x<|.n 0] f<|lL fh)) f
 .refine l (xj c)<|l (u_<|ay▸dD _)<|l (u_ (by refine l ay ?_;omega)) ?_;simp
section
theorem abl{ey:aw}{h um step:Int}{J:au->ai->Prop}(gL:oB a.heap ey h um step)(JQ:0<um)(ac:∀aa,oB aa ey (h+step) (um-1) step->hV ey a.heap aa->J (.int h a.toks) {a with heap:=aa,toks:=a.toks+1}):cj (cG prog k) u (xz<|.ref ey) J aN a:=by have cz:a.TypeIs (.ref ey) "range_iterator":=⟨_,gL,f⟩;refine bg<|ni (name:=hg "__next__") cz Dn (call_meets Dn cz N7 (N8 _) (AutoRange.range_iterator___next___range_iterator_1 ey h um step<|gd (.qM .x<|.n 0) [.cg (.n 0) .x] f JQ) ⟨gL,?_⟩);exact cu<|ac _ (n1 _ (n1 _ gL f) f)<|(sd ..).trans<|sd ..
theorem abm{ey:aw}{h um step:Int}{J:au->ai->Prop}(b':u.handled=a7)(gL:oB a.heap ey h um step)(JQ:um<=0)(gN:∀aa j,Ac ey a.heap aa->(∃v,aa.get? j=A v/\v.cls=.type "StopIteration")->aN (.ref j) {a with heap:=aa}):cj (cG prog k) u (xz<|.ref ey) J aN a:=by
 have cz:a.TypeIs (.ref ey) "range_iterator":=⟨_,gL,f⟩;refine bg<|ni (name:=hg "__next__") cz Dn (kJ Dn cz N7 ?_<|N8 _);show cj _ _ (field (.ref ey) 0>>=_) _ _ a;refine ir gL f (h:=hE h) f<|ir gL f (h:=hE um) f<|ir gL f (h:=hE step) f<|OF JQ<|bg<|l_<|bg<|bg<|bg<|i4 (bg (m:=C3 _ _)<|nW (a:=oG) (by first|rfl|(simp only[C3];rfl))<|i4 (bg<|wpAny_handled ?_) (by size_fits)) (by size_fits);first|refine iq (l (show u.in1.handled=a7 from b') f) ?_|rw[b']
 exact lb<|wpAny_throw<|gN _ _ (((Hy ey a.heap).push _).push _)<|dk _ (fj _ f) f
theorem abn{i:aw}{t s:Nat}{bU:uU}{L:Nat->ai->ai->Prop}{aW:Protocol}{J:au->ai->Prop}(aM:a.heap.NoLimit)(fF:u.depth<fA)(aK:a.heap.IsGen i t)(ln:a.gens[t]?=A bU)(sQ:bU.Goes (cG prog k) u.in1 (λs b1 D an=>D=.ok .next/\L s b1 an) aW s (.send .none)<|a.setGen t .running)(rG:∀B an od,od.bare=W->aW (s-1) (a.setGen t .running) B an (λgw ek=>match s with|0=>False|ae+1=>od.Goes (cG prog k) u.in1 (λs b1 D an=>D=.ok .next/\L s b1 an) aW ae gw ek)->J B (an.setGen t od))(bJ:∀an,¬L s (a.setGen t .running) an):cj (cG prog k) u (xz<|.ref i) J aN a:=by refine bg<|ni (name:=hg "__next__") aK.typeIs slot_gen_next (kJ slot_gen_next aK.typeIs entry_gen_next ?_<|args_gen_next _);show cj _ u.in1 (Wb (.ref i)<|.send .none) _ _ a;refine kM<|wpAny_genNumber aK<|bg<|wpAny_genState ln ?_;cases bU with
 |running=>exact sQ.elim|finished=>exact sQ.elim|_=>
  refine bg<|wpAny_roomToWake aM fF<|wpAny_resumeQ ln sQ (λh an X=>?_)<|λB an od n aL=>?_
  .exact(bJ _ X.2).elim
  .exact cu<|dk B f<|cu<|rG B an od n aL
theorem iz.nextOf{i aH:aw}{t s aC:Nat}{bA aV:List aw}{ef:Nat->au->Prop}(c:iz prog k u i t aH bA aV s ef aC a)(be:m3 i aH bA aV)(aB:u.depth<fA)(c4:aC<s){J:au->ai->Prop}(ac:∀B w,ef aC B->iz prog k u i t aH bA aV s ef (aC+1) w->Moved (aH::aV) (C1 t) a w->J B w):cj (cG prog k) u (xz<|.ref i) J aN a:=by
 refine eV c λaK aM bK=>bl bK λbU ln sQ=>?_;have cP:(p0 (λx=>W) s 0).length=s:=l (A5 ..)<|l pg f;refine cJ (⟨s-aC-1,by exact HT [1,-1,1,0,0,0,1,1] [1,1,0,1,1,1,0,0] (.e .x<|.o .y) [.e .z .w,.l .z<|.a .x .u,.l (.v 5)<|.a .y<|.n 1,.l .w<|.a (.v 5) .u,.e (.a .x .u) .z,.e (.a .y<|.n 1)<|.v 5,.e (.a (.v 5) .u) .w] f cP (fk _ _) (fk _ _) (fk _ _) (eu<|iO [1,1,-1] (.l .x .y) [.t .x .z,.e .y .z] f c4 cP) (eu<|gv (.l (.n 1) .x) [.t .y .z,.l .z<|.a .x .y] f c4<|fk _ _)<|eu<|c' (.l .x .y) [.t .x .y] f c4⟩:∃ae,(p0 (λx=>W) s 0).length-aC=ae+1) λae bw=>?_;replace sQ:=bw▸sQ;refine wpAny_with_toks (dD a.toks)<|abn (L:=λs b1 an=>s=0/\GenSince aH aV b1 an) aM aB aK ln (sQ _ λx x x j=>j) (λB an od n aL=>eV aL λb8 dm abo=>bl b8 λq ah P=>fM dm λbn xP e2 ro=>?_)<|λan a1=>absurd a1.1<|GU ae;obtain rfl:=e2;have JR:(p0 (λx=>W) s 0).length-1-(ae+1-1)=aC:=(jt (ae+1-1)<|(p0 (λh=>W) s 0).length-1).elim (λfh=>(jt (aC)<|(p0 (λh=>W) s 0).length).elim (λho=>O3 [1,-1,1,0,1,0,0,1,0,1] [1,1,0,1,0,1,1,0,1,0] (.e .x .y) [.e .z<|.o .w,.l .u<|.a .x<|.v 5,.l (.v 6)<|.a .z .y,.l (.v 6)<|.a .u<|.n 1,.l (.o .w)<|.a (.v 5)<|.n 1,.e (.a .x<|.v 5) .u,.e (.a .z .y)<|.v 6,.e (.a .u<|.n 1)<|.v 6,.e (.a (.v 5)<|.n 1)<|.o .w] f bw (fk _ _) (fk _ _) (fk _ _) (fk _ _) (eu fh) (eu ho) (eu<|iO [1,-1,1] (.l (.n 1) .x) [.e .y<|.o .z,.l .y .x] f bw<|hR _ _)<|eu<|bZ (.l (.n 1)<|.o .x) [] f) λho=>HT [0,-1,0,0,1,0] [1,0,1,1,0,1] (.e .x .y) [.e .z<|.o .w,.l .u .y,.l .x<|.v 5,.e .z<|.n 0,.e (.a (.v 5)<|.n 1) .u] f bw ho (hR _ _) (lL ho)<|eu<|iO [1,-1,1] (.l (.n 1) .x) [.e .y<|.o .z,.l .y .x] f bw<|hR _ _) λfh=>(jt (aC)<|(p0 (λh=>W) s 0).length).elim (λho=>O3 [1,-1,1,1,0,1,1] [1,0,0,0,1,0,0] (.e .x .y) [.e .z<|.o .w,.l .u<|.v 5,.l (.v 6)<|.a .u<|.n 1,.e .x<|.n 0,.e (.a .z .y)<|.v 6,.e (.a (.v 5)<|.n 1)<|.o .w] f bw fh (fk _ _) (lL fh) (eu ho)<|eu<|bZ (.l (.n 1)<|.o .x) [] f) λho=>HT [0,-1,0,0,1,0] [1,0,1,1,0,1] (.e .x .y) [.e .z<|.o .w,.l .u .y,.l .x<|.v 5,.e .z<|.n 0,.e (.a (.v 5)<|.n 1) .u] f bw ho (hR _ _) (lL ho)<|eu<|iO [1,-1,1] (.l (.n 1) .x) [.e .y<|.o .z,.l .y .x] f bw<|hR _ _;replace ah:=JR▸ah;have ym:q=aC:=by rw[A5,mG c4]at ah;exact(fu ah).symm
 subst ym;have xO:i∉aV:=λc=>be.2<|be.3 i c;intro EK;refine ac B _ P ⟨tK aK λv nm yf aJ D=>⟨v,nm,yf,ro i v be.1 xO aJ,D⟩,(let⟨di,lj,j9⟩:=aM;⟨di,lj.at' λv j=>ro p1 v be.5 be.6 j,j9⟩),od,C4 (gs:=.running)<|C4 ln,λek j_=>?_⟩ ⟨λb v n j=>ro b v (λc=>n<|c▸bm ..) (λc=>n<|mt c) j,GenOnlyQ.of ((Op a t .running).trans<|Op _ t od) (C4 (gs:=.running)<|C4 ln) n,f,f,EK⟩;have j:(p0 (λx=>W) s 0).length-(q+1)=ae:=(jt ((q)+1)<|(p0 (λh=>W) s 0).length).elim (λfh=>tP [1,-1,1,0,0,1] [1,1,0,1,1,0] (.e .x .y) [.e .z<|.o .y,.l .w<|.a .x<|.o .u,.l .w<|.a .z .u,.e (.a .x<|.o .u) .w,.e (.a .z .u) .w] f bw (fk _ _) (fk _ _) (eu fh)<|eu<|c' (.l .x .y) [.l (.o .x) .y] f fh) λfh=>(jt (q)<|(p0 (λh=>W) s 0).length).elim (λho=>tP [1,-1,1,0,1] [1,0,0,1,0] (.e .x .y) [.e .z<|.o .y,.l .w<|.o .u,.e .x<|.n 0,.e (.a .z .u) .w] f bw fh (lL fh)<|eu ho) λho=>oJ [1,-1,0,1] [1,0,1,0] (.e .x .y) [.e .z<|.o .y,.e .x<|.n 0,.e .z<|.n 0] f bw (lL fh)<|lL ho;exact l j<|abo ek j_
end
section
section
variable{prog:cL}{k:ck}{u:ch}{aN:au->ai->Prop}{a w:ai}{G fI eR eg i aH:aw}{t s ae aC:Nat}{bA aV:List aw}{ef:Nat->au->Prop}
inductive rH(G fI eR eg i aH:aw)(bA aV:List aw):Prop|mk(fQ:fI≠G)(fR:eR≠G)(gs:eg≠G)(i7:fI≠eR)(kq:fI≠eg)(mP:eR≠eg)(sy:∀b∈[G,fI,eR,eg],b∉i::aH::bA)(x0:m3 i aH bA aV):rH G fI eR eg i aH bA aV
inductive qO(prog:cL)(k:ck)(u:ch)(G fI eR eg i:aw)(t:Nat)(aH:aw)(bA aV:List aw)(s ae aC:Nat)(ef:Nat->au->Prop)(v7:au)(q:Nat)(a:ai):Prop|mk(fQ:p3 a.heap G fI eR v7)(fR:l' a.heap fI (.ref eg)<|.ref i)(gs:∃r e,l' a.heap eR r e)(i7:oB a.heap eg (0+(q:Nat)*1) ((s:Int)-(q:Nat)) 1)(kq:iz prog k u i t aH bA aV ae ef (aC+q) a):qO prog k u G fI eR eg i t aH bA aV s ae aC ef v7 q a
theorem rH.sub(aq:rH G fI eR eg i aH bA aV):∀b∈aH::aV,b∈i::aH::bA:=λb n=>by
 revert b;refine gr ?_ ?_
 .exact mt bm
 .intro b n;exact zW _<|zW _<|aq.8.3 b n
theorem qO.frame{v7:au}{q:Nat}{cd:List aw}{dc:List Nat}(c:qO prog k u G fI eR eg i t aH bA aV s ae aC ef v7 q a)(aq:rH G fI eR eg i aH bA aV)(gz:a9 cd dc a w)(dr:∀b∈cd,b∉[G,fI,eR,eg]++i::aH::bA)(iQ:t∉dc):qO prog k u G fI eR eg i t aH bA aV s ae aC ef v7 q w:=by have p:∀b∈[G,fI,eR,eg],∀v,a.heap.get? b=A v->w.heap.get? b=A v:=λb n v j=>gz.1 b v (λe=>dr b e<|bO n) j;exact kn c.3 λr e JS=>⟨p G (bm) _ c.1,p fI (mt bm) _ c.2,(mf r e<|p eR (mt<|mt bm) _ JS),p eg (by simp) _ c.4,c.5.frame aq.8 gz (λb n e=>dr b n<|bB e) iQ⟩
theorem abp{q:Nat}{J:au->ai->Prop}(c:qO prog k u G fI eR eg i t aH bA aV s ae aC ef .none q a)(aq:rH G fI eR eg i aH bA aV)(aB:u.depth<fA)(ah:q<s)(c4:aC+q<ae)(ac:∀a0 E B w,ef (aC+q) B->l' w.heap a0 (.int q E) B->a0≠G->qO prog k u G fI eR eg i t aH bA aV s ae aC ef (hE a0) (q+1) w->Moved ([G,eR,eg]++aH::aV) (C1 t) a w->J (.ref a0) w):cj (cG prog k) u (NO ⟨[.ref G],[]⟩) (λhi w=>∃B,hi=.done (.ret B)/\J B w) aN a:=by
 obtain⟨U,t5,⟨r,e,x4⟩,ag,aK⟩:=c;have abq:∀b∈[G,fI,eR,eg],b∉aH::aV:=λb n e=>aq.7 b n<|aq.sub b e;show cj _ _ (field (.ref G) 2>>=_) _ _ _;refine ir U f (h:=.bool a2) f ?_;show cj _ _ (field (.ref G) 3>>=_) _ _ _;refine ir U f (h:=.ref fI) f<|bg<|r7 t5 f ?_;show cj _ _ (Om (.ref G)>>=_) _ _ _;refine bg ?_;unfold Om;refine ir U f (h:=.none) f<|cu ?_;simp only[if_true];refine bg<|l_<|ir U f (h:=.ref eR) f<|bg<|xh U (by simp) λbn v8 fw=>?_;replace v8:p3 bn G fI eR .ellipsis:=v8;refine bg ?_;simp only[List.zipIdx_cons,List.zipIdx_nil,tC,z3];refine bg<|bg<|GC ?_;show cj _ _ (xz (.ref eg)>>=_) _ _ _;refine bg<|abl (a:={a with heap:=bn}) (fw.extBut _ _ aq.3 ag) (c' (.cg (.n 0)<|.s (.c .x)<|.c .y) [.t .y .x] f ah) λbG abr hH=>cu ?_;have Rs:l' bG eR r e:=hH.extBut _ _ aq.6<|fw.extBut _ _ aq.2 x4;refine bg<|r7 Rs f<|bg<|MV Rs λjD JT m6=>?_;replace JT:l' jD eR _ e:=JT;refine bg<|uQ<|cu<|bg<|bg<|GC ?_;show cj _ _ (xz (.ref i)>>=_) _ _ _;have JU:∀g v,g≠G->g≠eR->g≠eg->a.heap.get? g=A v->jD.get? g=A v:=λg v lx o0 v9 j=>m6.extBut _ _ o0<|hH.extBut _ _ v9<|fw.extBut _ _ lx j;have abt:a9 [G,eR,eg] [] a {a with heap:=jD,toks:=a.toks+1}:=bM.heap (λb v n j=>JU b v (λe=>n (by simp[e])) (λe=>n (by simp[e])) (λe=>n (by simp[e])) j)<|l m6.1<|l hH.1<|l fw.1<|dD _;have abu:=aK.frame aq.8 abt (λb n e=>aq.7 b (by simp at n⊢;rcases n with j|j|j<;>simp[j]) e)<|λe=>dI e;refine bg<|abu.nextOf aq.8 aB c4 λB cZ aL abv bw=>cu ?_;have ry:∀b∈[G,fI,eR,eg],∀v,jD.get? b=A v->cZ.heap.get? b=A v:=λb n v j=>bw.heap b v (abq b n) j;have Rt:=ry eR (mt<|mt bm) _ JT;refine bg<|r7 Rt f<|bg<|MV Rt λpK EL yt=>?_;replace EL:l' pK eR _ B:=EL;refine bg<|uQ<|cu<|cu<|bg<|r7 EL f<|bg<|C2 ?_;have Ru:p3 pK G fI eR .ellipsis:=yt.extBut _ _ (ip aq.2)<|ry G (bm) _<|m6.extBut _ _ (ip aq.2)<|hH.extBut _ _ (ip aq.3) v8;have abw:l' (pK.push {cls:=.type "tuple",data:=.seq [se (0+(q:Nat)*1) a.toks,B].toArray}) pK.objs.size (.int (0+(q:Nat)*1) a.toks) B:=fj _ f;have JV:G<pK.objs.size:=dH Ru;show cj _ _ (On (.ref G) (.ref pK.objs.size)>>=_) _ _ _;refine bg ?_;unfold On;have abx:p3 (pK.push {cls:=.type "tuple",data:=.seq [se (0+(q:Nat)*1) a.toks,B].toArray}) G fI eR .ellipsis:=eT _ Ru;refine bg<|xh abx (by simp) λaby JW JX=>?_;replace JW:p3 aby G fI eR (hE pK.objs.size):=JW;refine xh JW (by simp) λv_ JY JZ=>?_;replace JY:p3 v_ G fI eR (hE pK.objs.size):=JY;have c8:∀g v,g≠G->pK.get? g=A v->v_.get? g=A v:=λg v lx j=>JZ.extBut _ _ lx<|JX.extBut _ _ lx<|eT _ j;have EM:∀g v,g≠G->g≠eR->cZ.heap.get? g=A v->v_.get? g=A v:=λg v lx o0 j=>c8 g v lx<|yt.extBut _ _ o0 j;have kS:iz prog k u i t aH bA aV ae ef (aC+(q+1)) {cZ with heap:=v_}:=by have abz:a9 [G,eR] [] cZ {cZ with heap:=v_}:=bM.heap (y:=cZ.toks) (λb v n j=>EM b v (λe=>n (by simp[e])) (λe=>n (by simp[e])) j) (by refine l JZ.1<|l JX.1<|l (f' ..)<|l yt.1 ?_;exact js _);exact abv.frame aq.8 abz (λb n e=>aq.7 b (by simp at n⊢;rcases n with j|j<;>simp[j]) e)<|λe=>dI e
 have J0:l' v_ pK.objs.size (.int (0+(q:Nat)*1) a.toks) B:=JZ.extBut _ _ (zP JV)<|JX.extBut _ _ (zP JV) abw;refine cu<|dk _ f<|ac pK.objs.size a.toks B _ aL ?_ (zP JV) ⟨JY,EM _ _ aq.1 aq.4<|ry fI (mt bm) _<|JU fI _ aq.1 aq.4 aq.5 t5,(mf _ _<|c8 _ _ aq.2 EL),?_,kS⟩ ?_
 .have j:(0+(q:Int)*1)=q:=bZ (.eK (.a (.n 0)<|.r (.c .x) 1)<|.c .x) [] f;replace J0:=j▸J0;exact J0
 .have bW:(0+((q+1:Nat):Int)*1)=0+(q:Int)*1+1:=by push_cast;rfl
  have cR:(s:Int)-((q+1:Nat):Int)=(s:Int)-(q:Int)-1:=by push_cast;exact c' (.eK (.s (.c .x)<|.o<|.c .y)<|.s (.s (.c .x)<|.c .y)<|.n 1) [] f
  show oB v_ eg _ _ 1;exact c2 bW<|cR▸EM _ _ aq.3 (ip aq.6) (ry eg (by simp) _<|m6.extBut _ _ (ip aq.6) abr)
 .refine⟨λb v n j=>?_,bw.gens,bw.drawn,bw.os,a' (js _) bw.toks⟩;rw[jW,not_or]at n;have dL:b≠G:=λe=>n.1 (by simp[e]);have eF:b≠eR:=λe=>n.1 (by simp[e]);have gU:b≠eg:=λe=>n.1 (by simp[e]);exact EM b v dL eF<|bw.heap b v n.2<|JU b v dL eF gU j
theorem abA{q:Nat}{J:Gz->ai->Prop}(b':u.handled=a7)(c:qO prog k u G fI eR eg i t aH bA aV s ae aC ef .none q a)(aq:rH G fI eR eg i aH bA aV)(ah:s<=q)(gN:∀aa j,(∀g v,g≠G->g≠eg->a.heap.get? g=A v->aa.get? g=A v)->(∃v,aa.get? j=A v/\v.cls=.type "StopIteration")->aN (.ref j) {a with heap:=aa}):cj (cG prog k) u (NO ⟨[.ref G],[]⟩) J aN a:=by
 obtain⟨U,t5,⟨r,e,x4⟩,ag,aK⟩:=c;show cj _ _ (field (.ref G) 2>>=_) _ _ _;refine ir U f (h:=.bool a2) f<|ir U f (h:=.ref fI) f<|bg<|r7 t5 f<|bg<|ir U f (h:=.none) f<|cu<|bg<|l_<|ir U f (h:=.ref eR) f<|bg<|xh U (by simp) λbn v8 fw=>?_;replace v8:p3 bn G fI eR .ellipsis:=v8;refine bg<|bg<|bg<|GC<|bg<|abm (a:={a with heap:=bn}) b' (fw.extBut _ _ aq.3 ag) (c' (.cz (.s (.c .x)<|.c .y)<|.n 0) [.l .x .y] f ah) λbG j hH br=>bl br λEN yu Rv=>?_;have v2:p3 bG G fI eR .ellipsis:=hH _ _ (ip aq.3) v8;have abB:j≠G:=λh=>by subst h;rw[v2]at yu;cases yu;simp at Rv
 refine xh v2 (by simp) λjD x m6=>gN jD j (λg v lx v9 h=>m6.extBut _ _ lx<|hH _ _ v9<|fw.extBut _ _ lx h)<|dk EN (m6.extBut _ _ abB yu) Rv
theorem abC{q:Nat}{J:Option au->ai->Prop}(c:qO prog k u.in1 G fI eR eg i t aH bA aV s ae aC ef .none q a)(aq:rH G fI eR eg i aH bA aV)(aB:u.depth<fA)(ah:q<s)(c4:aC+q<ae)(ac:∀a0 E B w,ef (aC+q) B->l' w.heap a0 (.int q E) B->a0≠G->qO prog k u.in1 G fI eR eg i t aH bA aV s ae aC ef (hE a0) (q+1) w->Moved ([G,eR,eg]++aH::aV) (C1 t) a w->J (A<|.ref a0) w):cj (cG prog k) u (nY<|.ref G) J aN a:=by have cz:a.TypeIs (.ref G) "zip":=⟨_,c.1,f⟩;exact bg<|uT<|ni (name:=hg "__next__") cz Do (kJ Do cz N9 (abp c aq aB ah c4 λa0 E B w dJ dU dN eK f_=>cu<|ac a0 E B w dJ dU dN eK f_)<|N_ _)
theorem abD{q:Nat}{J:Option au->ai->Prop}(b':u.handled=a7)(c:qO prog k u.in1 G fI eR eg i t aH bA aV s ae aC ef .none q a)(aq:rH G fI eR eg i aH bA aV)(ah:s<=q)(ac:∀aa,(∀g v,g≠G->g≠eg->a.heap.get? g=A v->aa.get? g=A v)->J a7 {a with heap:=aa}):cj (cG prog k) u (nY<|.ref G) J aN a:=by have cz:a.TypeIs (.ref G) "zip":=⟨_,c.1,f⟩;refine bg<|uT<|ni (name:=hg "__next__") cz Do (kJ Do cz N9 (abA (u:=u.in1) b' c aq ah λaa j a8 br=>?_)<|N_ _);exact bl br λv aJ aO=>bg<|q' (T:="StopIteration") (b:=W) ⟨v,aJ,aO⟩ Gw<|cu<|ac _ a8
end
end
section
section
variable{prog:cL}{k:ck}{u:ch}{a w:ai}
inductive s1(prog:cL)(k:ck)(u:ch)(b5:bH)(o:List aw)(bs:List bd)(al:ai)(aj:aw)(bA aV:List aw)(bU:List Nat)(St:Nat->ai->Prop)(k1:ai->Prop):Prop|mk(fQ:∀b∈aV,b∈bA)(fR:∀q a w o dc,St q a->a9 o dc a w->(∀b∈o,b∉bA)->(∀t∈dc,t∉bU)->St q w)(gs:∀a w o dc,k1 a->a9 o dc a w->(∀b∈o,b∉bA)->(∀t∈dc,t∉bU)->k1 w)(i7:∀q h(a:ai)(J:au->ai->Prop),bs[q]?=A h->St q a->(∀B w,(∀bi jH,(∀b∈bi,b<a.heap.objs.size/\(b∈o\/b∈aV\/al.heap.objs.size<=b))->a9 bi jH al a->rw b5 w.heap bi h B)->St (q+1) w->a9 aV bU a w->J B w)->I prog k u (nY<|.ref aj) (λD an=>∃B,D=A B/\I prog k u (zy b5 (.ref aj) B) (λx al=>J B al) an) a)(kq:∀(a:ai)(J:Option au->ai->Prop),St bs.length a->(∀w,a9 aV bU a w->k1 w->J a7 w)->I prog k u (nY<|.ref aj) J a)(mP:∀q(a:ai)(J:au->ai->Prop),St q a->J (.ref aj) a->I prog k u (nj<|.ref aj) J a):s1 prog k u b5 o bs al aj bA aV bU St k1
theorem lQ.CR{b5:bH}{o:List aw}{bs:List bd}{al:ai}{aj:aw}{bA aV:List aw}{bU:List Nat}{St:Nat->ai->Prop}(de:lQ prog k u b5 o bs al aj bA aV bU St):s1 prog k u b5 o bs al aj bA aV bU St (λx=>True):=⟨de.1,de.2,λx x x x x x x x=>trivial,de.3,λa J st ac=>de.4 a J st λw t=>ac w t trivial,de.5⟩
inductive J1(prog:cL)(k:ck)(u:ch)(b5:bH)(Y K:Nat)(j5:List aw)(kT:List Nat)(o cd:List aw)(bs:List bd)(al:ai)(aj:aw)(bA aV:List aw)(bU:List Nat)(St:Nat->ai->Prop)(k1:ai->Prop):Prop|mk(fQ:s1 prog k u b5 o bs al aj bA aV bU St k1)(fR:St 0 al)(gs:∀b∈aV,Y<=b\/b∈j5)(i7:∀t∈bU,K<=t\/t∈kT)(kq:∀t∈bU,t<al.gens.size)(mP:∀b∈bA,b<al.heap.objs.size/\b∉cd):J1 prog k u b5 Y K j5 kT o cd bs al aj bA aV bU St k1
theorem D_.CR{b5:bH}{Y K:Nat}{j5:List aw}{kT:List Nat}{o cd:List aw}{bs:List bd}{an al:ai}{aj:aw}{bA aV:List aw}{bU:List Nat}{St:Nat->ai->Prop}(ba:D_ prog k u b5 Y K j5 kT o cd bs an al aj bA aV bU St):J1 prog k u b5 Y K j5 kT o cd bs al aj bA aV bU St (λx=>True):=⟨ba.1.CR,ba.2,ba.4,ba.5,ba.6,ba.7⟩
theorem abE{b5:bH}{o:List aw}{bs:List bd}{al:ai}{aj:aw}{bA aV:List aw}{bU:List Nat}{St:Nat->ai->Prop}{k1:ai->Prop}{m:Env}{dz:bH}{d3:List k9}{a4:dp}{ak:Pos}{z:Nat}{cb:au}{t:k9}{cM:gn->ai->Prop}(aK:d3[z]?=A t)(bI:t.target=b5)(aG:t.is_async=0)(ag:t.ifs.length<=1)(aF:∀cc,d3[z+1]?=A cc->cc.is_async=0)(de:s1 prog k u b5 o bs al aj bA aV bU St k1)(af:Nat->ai->Prop)(mh:∀q h b1 a B,bs[q]?=A h->af q b1->St q b1->(∀bi jH,(∀b∈bi,b<b1.heap.objs.size/\(b∈o\/b∈aV\/al.heap.objs.size<=b))->a9 bi jH al b1->rw b5 a.heap bi h B)->St (q+1) a->a9 aV bU b1 a->I prog k u (do assign t.target m B;pv dz d3 a4 ak z cb m t.ifs) (λx w=>af (q+1) w/\St (q+1) w) a)(sC:∀b1 a,af bs.length b1->a9 aV bU b1 a->k1 a->cM .next a)(c4:af 0 a)(gG:St 0 a):d6 prog k u (.compLoop (.ListComp dz d3 a4 ak) z (.ref aj) cb m) cM a:=by
 subst bI;refine d6.loop f f (λp a=>∃q,q<=bs.length/\p=bs.length-q/\af q a/\St q a) ?_ bs.length<|p' 0 (hf _) f c4 gG;rintro p a⟨q,ah,rfl,c4,Q⟩;refine I.onRaise<|I.eq (PH aK aG ag aF ..)<|dQ<|I.bind ?_;rcases pd q bs.length with c1|ib
 .refine I.mono (de.4 q bs[q] a (λB w=>I prog k u (do assign t.target m B;pv dz d3 a4 ak z cb m t.ifs) (λx w=>af (q+1) w/\St (q+1) w) w) (gQ c1) Q λB an aL fw aI=>mh q _ a an B (gQ c1) c4 Q aL fw aI) ?_;rintro D an⟨B,rfl,E⟩;refine g8 E λx al E=>?_;have j:(do assign t.target m B;pv dz d3 a4 ak z cb m t.ifs;again (.compLoop (.ListComp dz d3 a4 ak) z (.ref aj) cb m):Sem Fin)=((do assign t.target m B;pv dz d3 a4 ak z cb m t.ifs)>>=λx=>again<|.compLoop (.ListComp dz d3 a4 ak) z (.ref aj) cb m):=by simp only[bind_assoc]
  exact l j<|g8 E λR al be=>I.pure<|.inl ⟨f,(dk (bs.length-(q+1)) (nx (.t .x .y) [.l .z<|.a .y .w,.e (.a .x<|.o .w) .z] f (fk _ _)<|eu<|c' (.l (.o .x) .y) [.t .x .y] f c1)<|p' (q+1) c1 f be.1 be.2)⟩
 .obtain rfl:q=bs.length:=u5 ah ib;exact de.5 a _ Q λan aI br=>I.pure<|sC a an c4 aI br
end
variable{g:d7}{z:Nat}{T:dp}{C:cm}{m:Env}{o O ax:List aw}{Y:Nat}{u:ch}{a w:ai}{h:Str}{B:bd}{d3:List k9}{dz:bH}{a4:dp}{ak:Pos}{aC:Nat}{hv:List bH}{aj:Inv}
def je(C:cm):Prop:=∀h bt,fb C h bt->∃B,bt=.f B
theorem Rw:∀{aA:List Str}{V:List bd}{C:cm},je C->je (mZ aA V C)
 |[],bC,C,c=>c|bC::dw,[],C,c=>c|M::aA,av::V,C,c=>Rw (aA:=aA) (V:=V) (C:=(M,.f av)::C) λh B e=>by
  rcases iW e with⟨_,j⟩|⟨_,e⟩
  .exact⟨av,j⟩
  .exact c h B e
theorem abF(c:je C):je (kx b5 B C):=by
 refine IM (L:=je) (λM r x h av e=>?_) (λas p r V x=>Rw c) c;rcases iW e with⟨_,j⟩|⟨_,e⟩
 .exact⟨_,j⟩
 .exact c _ _ e
theorem je.aaw(c:je C):∀h B,¬fb C h (.o B):=λh B e=>by refine cJ (c _ _ e) λav j=>?_;cases j
theorem bo.uL(r:bo g m o O Y C a)(b7:je C)(cA:∀G∈cd,G∈o)(aJ:∀G∈cd,G∉bY m)(t:a9 cd ao a w)(n:fp g w):bo g m o O Y C w:=by refine iL r.3 λcW aE ag aF bb=>⟨a' r.1 t.2,n,cW,aE.keeps λb n v j=>t.1 b v (λe=>aJ b e n) j,λh bt X=>bl (ag h bt X) λB aL D=>cJ (b7 h bt X) λav dm=>?_,aF,bb⟩;obtain rfl:=dm;exact⟨B,aL,D.own (cd:=cd) cA (λe=>e.elim) λb v n j=>t.1 b v n j⟩
def pL(g:d7)(z:Nat)(u:ch)(T:dp)(aj:Inv)(d3:List k9)(dz:bH)(a4:dp)(ak:Pos)(aC:Nat)(hv:List bH)(C:cm)(vF:List bd):Prop:=∀(m:Env)(o O ax:List aw)(Y:Nat)(aq:aw),eJ z u->m.scope=T->ct g m o O ax Y->aq∈O->je C->∀(ca:List bd)(a:ai),ca.length+vF.length<=cp->bo g m o O Y C a->aj.At g m o O a->AccAt a.heap o aq ca->∀J:Unit->ai->Prop,(∀w,a9 ([aq,m.locals]++aj.W) aj.G a w->bo g m o O Y C w->aj.At g m o O w->AccAt w.heap o aq (ca++vF)->J () w)->I g.prog g.w u (pv dz d3 a4 ak aC (.ref aq) m hv) J a
theorem Inv.At.off(c:aj.At g m o O a)(P:ct g m o O ax Y){cd:List aw}(t:a9 cd [] a w)(dr:∀b∈cd,b∈O\/b∈bY m):aj.At g m o O w:=c.it t (λb n=>(dr b n).elim (λe=>⟨(P.5 b e).1,λk=>(c.2 b k).2.1 e⟩) λe=>⟨(P.4 b e).1,λk=>(c.2 b k).2.2.1 e⟩) aP
theorem pL.of(c:mo g z T d3 dz a4 ak aC hv C vF):pL g z u T aj d3 dz a4 ak aC hv C vF:=λm o O ax Y aq ar Q P db b7 ca a U r ah cb J ac=>c u m o O ax Y aq ar Q P db b7.aaw ca a U r cb J λw t bR gy=>ac w (t.mono (λb n=>bO n) aP) bR (ah.off P t λb n=>di n (λe=>.inl<|e▸db) λe=>.inr<|bc e▸bm) gy
theorem Rx{aC:Nat}{t:k9}{bs:List bd}{dP:List<|List bd}{aq:aw}{ca:List bd}{bT:ai}{cl:aw}{bA aV:List aw}{bU:List Nat}{St:Nat->ai->Prop}{k1:ai->Prop}{cM:gn->ai->Prop}(aK:d3[aC]?=A t)(aG:t.is_async=0)(ag:t.ifs.length<=1)(aF:∀cc,d3[aC+1]?=A cc->cc.is_async=0)(ar:eJ z u)(Q:m.scope=T)(iX:AllP (λh v=>mn W T t.target h/\t8 t.target h C/\pL g z u T aj d3 dz a4 ak aC t.ifs (kx t.target h C) v) bs dP)(P:ct g m o O ax Y)(db:aq∈O)(b7:je C)(de:s1 g.prog g.w u t.target o bs bT cl bA aV bU St k1)(ln:∀q∈bU,g.s0.gens.size<=q/\q∉aj.G)(m7:∀b∈aV,b∈o/\b∉bY m/\g.s0.heap.objs.size<=b)(ky:∀b∈bA,b≠aq/\b≠m.locals/\b∉aj.W)(r:bo g m o O Y C a)(ah:aj.At g m o O a)(cb:AccAt a.heap o aq ca)(U:ca.length+dP.flatten.length<=cp)(bQ:a9 [] [] bT a)(st:St 0 a)(iP:∀w,a9 (aV++([aq,m.locals]++aj.W)) (bU++aj.G) a w->bo g m o O Y C w->aj.At g m o O w->AccAt w.heap o aq (ca++dP.flatten)->k1 w->cM .next w):d6 g.prog g.w u (.compLoop (.ListComp dz d3 a4 ak) aC (.ref cl) (.ref aq) m) cM a:=by
 have sH:aq∈o:=(P.5 aq db).1;have IP:aq∉bY m:=λe=>(P.4 aq e).2.2.1 db;have qC:aq∉aV:=λe=>(ky aq<|de.1 aq e).1 f;have t0:∀b∈aV++([aq,m.locals]++aj.W),b∈o:=λb n=>by
  refine bD n (λe=>?_) λe=>?_
  .exact(m7 b e).1
  refine bD e (λe=>?_) λe=>?_
  .rcases e1.mp e with rfl|e
   .exact sH
   .exact(bc e)▸(P.4 _ bm).1
  .exact(ah.2 b e).1
 refine abE aK f aG ag aF de (λq E=>a9 (aV++([aq,m.locals]++aj.W)) (bU++aj.G) a E/\bo g m o O Y C E/\aj.At g m o O E/\AccAt E.heap o aq (ca++(dP.take q).flatten)) ?_ ?_ ⟨bM.refl ..,r,ah,by simpa using cb⟩ st
 .rintro q h qD E B X dX sI aL oT g1;refine hG dX λdJ dU eK dN=>?_;have J3:q<dP.length:=iX.1▸(k_.mp X).1;refine eV (iX.2 q h dP[q] X<|gQ J3) λfq iy jJ=>?_;have bI:mn W m.scope t.target h:=Q▸fq;refine I.bind<|vE ar.1 P (dU.uL b7 (λG U=>(m7 G U).1) (λG U=>(m7 G U).2.1) g1<|dU.2.toG g1 (λG U=>(m7 G U).2.2) λq ah=>(ln q ah).1) (aL o _ (λb n=>⟨cI (P.8 b n) dU.1,.inl n⟩)<|(bQ.mono aP aP).trans<|dJ.mono t0 λx c=>c) bI λhB aI df=>?_;have cP:(ca++(dP.take q).flatten).length+dP[q].length<=sizeLine:=by
   refine a' ?_ U;have j:dP.flatten=(dP.take q).flatten++(dP[q]++(dP.drop<|q+1).flatten):=by
    conv=>lhs;rw[<-va q dP]
    exact l z4<|l (De J3)<|l oF f
   refine l j ?_;simp only[io];exact nx (.l (.a (.a .x .y) .z)<|.a .x<|.a .y<|.a .z .w) [] f
  refine jJ m o O ax Y aq ar Q P db (abF b7) _ hB cP df ((eK.it g1 (λb n=>⟨(m7 b n).1,(ky b<|de.1 b n).2.2⟩) λq ah=>(ln q ah).2).off P aI λb n=>.inr<|x6 _ n) ((dN.to (cd:=aV) (λb v n j=>g1.1 b v n j) (λG U=>(m7 G U).1) qC).to (cd:=[m.locals]) (λb v n j=>aI.1 b v n j) (λG U=>bc U▸(P.4 _ bm).1)<|λe=>IP<|bc e▸bm) _ λoc a6 h3 yo vH=>⟨⟨?_,h3.le λM bt c=>iy M bt c,yo,?_⟩,?_⟩
  .exact(dJ.trans<|g1.mono (λb n=>bO n) λx c=>bO c).trans<|(aI.mono (λb n=>bB<|bO<|mt n) aP).trans<|a6.mono (λb n=>bB n) λx c=>bB c
  .have j:(dP.take<|q+1).flatten=(dP.take q).flatten++dP[q]:=by refine l xm<|l (gQ J3)<|l z4 ?_;simp
   exact l j<|c2 (tD ..) vH
  .refine de.2 _ _ _ ([aq,m.locals]++aj.W) aj.G oT ((aI.mono (λb n=>bO<|mt n) aP).trans a6) (λb n e=>bD n (λn=>?_) λn=>?_)<|λq ah e=>(ln q e).2 ah
   .rcases e1.mp n with rfl|n
    .exact(ky _ e).1 f
    .exact(ky b e).2.1<|bc n
   .exact(ky b e).2.2 n
 .rintro qD E gh g1 br;refine hG gh λdJ dU eK dN=>?_;refine iP E (dJ.trans<|g1.mono (λb n=>bO n) λx c=>bO c) (dU.uL b7 (λG U=>(m7 G U).1) (λG U=>(m7 G U).2.1) g1<|dU.2.toG g1 (λG U=>(m7 G U).2.2) λq ah=>(ln q ah).1) (eK.it g1 (λb n=>⟨(m7 b n).1,(ky b<|de.1 b n).2.2⟩) λq ah=>(ln q ah).2) ?_ br;have j:dP.take bs.length=dP:=iX.1▸xn;rw[j]at dN;exact dN.to (cd:=aV) (λb v n j=>g1.1 b v n j) (λG U=>(m7 G U).1) qC
end
section
def J4(prog:cL)(k:ck)(u:ch)(b5:bH)(Y K:Nat)(j5:List aw)(kT:List Nat)(o cd:List aw)(bs:List bd)(k1:ai->Prop)(g:au)(an:ai):Prop:=∀J:au->ai->Prop,(∀aj al bA aV bU St,a9 [] [] an al->J1 prog k u b5 Y K j5 kT o cd bs al aj bA aV bU St k1->J (.ref aj) al)->I prog k u (nj g) J an
variable{g:d7}{z:Nat}{T:dp}{C:cm}{m:Env}{o O ax:List aw}{Y:Nat}{u:ch}{a w:ai}{h:Str}{B:bd}{aU:au}{d3 bU:List k9}{dz:bH}{a4:dp}{ak:Pos}{aC:Nat}{hv:List bH}{aj:Inv}{t:k9}{bs:List bd}{dP:List<|List bd}{b5 j:bH}
def v'(g:d7)(z:Nat)(u:ch)(T:dp)(aj:Inv)(C:cm)(b5 j:bH)(bs:List bd):Prop:=∀(m:Env)(o O ax:List aw)(Y K:Nat)(a:ai),eJ z u->m.scope=T->ct g m o O ax Y->bo g m o O Y C a->aj.At g m o O a->K<=a.gens.size->∀J:au->ai->Prop,(∀aU w,a9 aj.W aj.G a w->fp g w->(∀bi,(∀b∈o,b∈bi)->(∀b∈bi,b∈o\/a.heap.objs.size<=b)->aj.At g m bi O w)->J4 g.prog g.w u b5 Y K [] [] o o bs (λx=>True) aU w->J aU w)->I g.prog g.w u (dF j m) J a
theorem v'.of(c:m2 g z T C b5 j bs):v' g z u T aj C b5 j bs:=λm o O ax Y K a ar Q P r ah ms J ac=>c u m o O ax Y K ar Q P a J ⟨r,ms⟩ λaU w t aL=>ac aU w (t.mono aP aP) (r.2.to t aP) (λbi d_ g0=>(ah.wide d_ g0).it t aP aP) λJ ac=>aL J λcl al bA aV bU St ba=>ac cl al bA aV bU St ba.3 ba.CR
theorem m2.list(c:af g z T C j p<|.lst aA)(a8:p≠.ls)(bI:PY b5 aA):m2 g z T C b5 j aA:=λu m o O ax Y K ar Q P a J r ac=>let r:=r.1
 (c.gf a8) u m o O ax Y ar Q P a J r λaU w t aL=>ac aU w t<|PU (r.grow t).1 ar.1 (λb n=>cI (P.8 b n) (r.grow t).1) (by refine la aL λi V s j aX aK aB=>?_;exact⟨i,V,s,j,aX,aK,aB⟩) bI
theorem Inv.At.narrow{bi:List aw}(c:aj.At g m bi O w)(abG:aj.At g m o O a)(cA:∀b∈o,b∈bi)(G:a.heap.objs.size<=w.heap.objs.size):aj.At g m o O w:=⟨aj.mono _ _ _ c.1 λb n=>.inl<|cA b n,λb n=>j0 (abG.2 b n) λdJ dU dN eK f_=>⟨dJ,dU,dN,eK,cI f_ G⟩,c.3⟩
theorem bo.w9(r:bo g m o O Y C a)(b7:je C)(cA:∀G∈cd,G∈o)(aJ:∀G∈cd,G∉bY m)(t:a9 cd ao a w)(n:fp g w)(cr:∀b∈aV,a.heap.objs.size<=b):bo g m (aV++o) O w.heap.objs.size C w:=by refine iL r.3 λcW aE ag aF bb=>⟨dD _,n,cW,aE.keeps λb n v j=>t.1 b v (λe=>aJ b e n) j,λh bt X=>bl (ag h bt X) λB aL D=>cJ (b7 h bt X) λav bK=>?_,aF,bb⟩;obtain rfl:=bK;exact⟨B,aL,bV.to (λb v n j=>⟨t.1 b v (λe=>n<|cA b e) j,by refine gq jW<|gq not_or ?_;exact⟨λe=>b4 (dH j)<|cr b e,n⟩⟩) _ _ D⟩
theorem AccAt.wide(D:AccAt a.heap o aq ca)(t:a9 cd ao a w)(cA:∀G∈cd,G∈o)(db:aq∉cd)(cr:∀b∈aV,a.heap.objs.size<=b):AccAt w.heap (aV++o) aq ca:=bl D λV r D=>⟨V,r.at λv j=>t.1 _ v db j,bX.to (λb v n j=>⟨t.1 b v (λe=>n<|cA b e) j,by refine gq jW<|gq not_or ?_;exact⟨λe=>b4 (dH j)<|cr b e,n⟩⟩) _ _ D⟩
theorem pL.next(aK:d3[aC+1]?=A t)(aG:t.is_async=0)(ag:t.ifs.length<=1)(aF:∀cc,d3[aC+2]?=A cc->cc.is_async=0)(be:rz t.iter)(ah:vG g z T C hv W)(gL:v' g z u T aj C t.target t.iter bs)(iX:AllP (λh v=>mn W T t.target h/\t8 t.target h C/\pL g z u T aj d3 dz a4 ak (aC+1) t.ifs (kx t.target h C) v) bs dP):pL g z u T aj d3 dz a4 ak aC hv C dP.flatten:=by intro m o O ax Y aq ar Q P db b7 ca a U r Ry cb J ac;refine I.bind<|ah.p_ ar Q P r λan aI=>?_;refine tQ f<|l aK ?_;have cX:=(r.grow aI).now;have fs:=P.up (cC:=an.heap.objs.size) (r.grow aI).1;have s2:aj.At g m o O an:=Ry.it aI (λx e=>dI e) λx e=>dI e;refine I.bind<|gL m o O ax _ an.gens.size an ar Q fs cX s2 (dD _) _ λaU al a6 Rz Bl qE=>?_;have df:bo g m o O an.heap.objs.size C al:=cX.uL b7 (λG U=>(s2.2 G U).1) (λG U=>(s2.2 G U).2.2.1) a6 Rz;refine dQ<|I.eq (l (be ..) f) ?_;refine ea<|d2<|qE _ λcl bT bA aV bU St bQ ba=>?_;have Bp:g.s0.heap.objs.size<=an.heap.objs.size:=cX.2.1.2;have AT:an.heap.objs.size<=bT.heap.objs.size:=a' a6.2 bQ.2;have em:∀b∈aV,an.heap.objs.size<=b/\b<bT.heap.objs.size:=λb n=>⟨(ba.3 b n).elim id<|λe=>dI e,(ba.6 b<|ba.1.1 b n).1⟩;have m0:∀q∈bU,an.gens.size<=q:=λq ah=>(ba.4 q ah).elim id λe=>dI e;have pM:a9 aj.W aj.G an bT:=a6.trans<|bQ.mono (λx e=>dI e) λx e=>dI e;have h3:bo g m (aV++o) O bT.heap.objs.size C bT:=cX.w9 b7 (λG U=>(s2.2 G U).1) (λG U=>(s2.2 G U).2.2.1) pM (Rz.to bQ λx e=>dI e) λb n=>(em b n).1;have abH:aq∉aj.W:=λe=>(s2.2 aq e).2.1 db;have vH:AccAt bT.heap (aV++o) aq ca:=(cb.grow aI.all).wide pM (λG U=>(s2.2 G U).1) abH λb n=>(em b n).1;have yo:aj.At g m (aV++o) O bT:=(Bl (aV++o) (λb n=>bB n) λb n=>bD n (λe=>.inr (em b e).1) .inl).it bQ (λx e=>dI e) λx e=>dI e;have alB:aq<an.heap.objs.size:=fs.8 aq (P.5 aq db).1;have de:s1 g.prog g.w u t.target (aV++o) bs bT cl bA aV bU St (λx=>True):=⟨ba.1.1,ba.1.2,ba.1.3,λq h a J X st ac=>ba.1.4 q h a J X st λB w aL oa t=>ac B w (λbi jH g0 qx=>aL bi jH (λb n=>⟨(g0 b n).1,by exact eU ((g0 b n).2) (λe=>bD e (λe=>.inr<|.inl e) .inl) λe=>.inr e⟩) qx) oa t,ba.1.5,ba.1.6⟩;refine I.bind<|I.runOwn<|Io aK aG (λJ aZ=>ba.1.6 0 bT J ba.2 aZ)<|Rx aK aG ag aF ar Q iX (fs.n7 em Bp AT) db b7 de (λq ah=>⟨a' cX.2.1.4<|m0 q ah,λe=>b4 (s2.3 q e).2<|m0 q ah⟩) (λb n=>⟨bO n,λe=>b4 (fs.8 b (P.4 b e).1) (em b n).1,a' Bp (em b n).1⟩) (λb n=>⟨λe=>(ba.6 b n).2<|e▸(P.5 aq db).1,λe=>(ba.6 b n).2<|e▸(P.4 _ bm).1,λe=>(ba.6 b n).2 (s2.2 b e).1⟩) h3 yo vH U (bM.refl ..) ba.2 λw cc bR hL gy x=>I.pure ?_;have ji:a.heap.objs.size<=w.heap.objs.size:=a' aI.2<|a' AT cc.2;refine ac w ?_ (bR.MY (λb n=>bB n)<|a' r.1 ji) (hL.narrow Ry (λb n=>bB n) ji) ⟨gy.choose,gy.choose_spec.1,bX.to (λb v n j=>⟨j,λe=>n<|bB e⟩) _ _ gy.choose_spec.2⟩;refine((aI.mono (λx c=>dI c) λx c=>dI c).trans<|pM.mono (λb n=>bB n) λx c=>c).gR cc (λb n=>bD n (λe=>.inr<|fS<|a' aI.2 (em b e).1) .inl) λq ah=>bD ah (λe=>.inr<|rq<|a' aI.4<|m0 q e) .inl
inductive J5(g:d7)(z:Nat)(u:ch)(T:dp)(aj:Inv)(C:cm)(dz:bH)(t:k9)(bU:List k9)(a4:dp)(ak:Pos)(bs:List bd)(dP:List<|List bd):Prop|mk(fQ:ob a4 T=W)(fR:t.is_async=0)(gs:t.ifs.length<=1)(i7:∀cc,(t::bU)[1]?=A cc->cc.is_async=0)(kq:rz t.iter)(mP:AllP (λh v=>mn W (eI a4 T) t.target h/\t8 t.target h (hA (eI a4 T) C)/\pL g z u (eI a4 T) aj (t::bU) dz a4 ak 0 t.ifs (kx t.target h<|hA (eI a4 T) C) v) bs dP)(sy:dP.flatten.length<=cp):J5 g z u T aj C dz t bU a4 ak bs dP
theorem abI(c:je C):je (hA T C):=λh bt e=>by obtain⟨_,lS,aa,rfl⟩:=vC e;obtain⟨B,rfl⟩:=c _ _ aa;exact⟨B,f⟩
theorem RA(aO:g.Ok)(dc:J5 g z u m.scope aj C dz t bU a4 ak bs dP)(b7:je C)(gL:co g.prog g.w u [] [] m (λE=>bo g m o O a.heap.objs.size C E/\a.gens.size<=E.gens.size/\a9 [] [] a E) t.iter<|λE aU=>J4 g.prog g.w u t.target a.heap.objs.size a.gens.size j5 kT o aj.W bs k1 aU E)(x_:∀b∈j5,b∈o/\g.s0.heap.objs.size<=b/\b∉bY m)(IQ:∀q∈kT,g.s0.gens.size<=q/\q∉aj.G)(ar:eJ z u)(P:ct g m o O ax Y)(r:bo g m o O Y C a)(ah:aj.At g m o O a)(ac:∀aH aq w,(∃ae,w.heap.Ns aH ae)->a9 (j5++aj.W) (kT++aj.G) a w->a.heap.objs.size<=aH->a.heap.objs.size<=aq->aH≠aq->aH<w.heap.objs.size->AccAt w.heap (aH::aq::o) aq dP.flatten->(∀bi,(∀b∈o,b∈bi)->(∀b∈bi,b∈aH::aq::o)->aj.At g m bi O w)->k1 w->fp g w->AD g.prog g.w u ps J (.ref aq) aH w):I g.prog g.w u (xb (.ListComp dz (t::bU) a4 ak) a4 m (CN (t::bU) ak) (newList []) (zz<|t::bU) (CO (t::bU) m) ps) J a:=by
 refine PI (P8 P r dc.1) dc.2 (λh=>dc.5 m h) ?_;have iV:=r.now;have e3:=P.up (cC:=a.heap.objs.size) r.1;refine gL a _ ⟨iV,dD _,bM.refl ..⟩ λaU an aI qE=>qE _ λcl al bA aV od St a6 ba=>(dk cl f λaq aH cZ jK=>⟨λJ aZ=>ba.1.6 0 cZ J (ba.1.2 0 al cZ [] [] ba.2 jK.3 aP aP) aZ,(eV jK.4 λdb f9 tU=>?_)⟩);have g_:a.heap.objs.size<=al.heap.objs.size:=a' aI.2 a6.2;have Bp:g.s0.heap.objs.size<=a.heap.objs.size:=iV.2.1.2;have AU:al.heap.objs.size<=cZ.heap.objs.size:=jK.3.2;have em:∀b∈aV,(a.heap.objs.size<=b\/b∈j5)/\b<al.heap.objs.size:=λb n=>⟨ba.3 b n,(ba.6 b<|ba.1.1 b n).1⟩;have g0:∀b∈aH::aq::(aV++o),b∈o\/a.heap.objs.size<=b:=λb n=>di n (λj=>.inr<|j▸a' g_ f9) λn=>di n (λj=>.inr<|j▸a' g_ db) λn=>bD n (λe=>(em b e).1.elim .inr λG=>.inl (x_ b G).1) λe=>.inl e;have AV:∀b∈aH::aq::(aV++o),b<cZ.heap.objs.size:=λb n=>di n (λj=>j▸jK.5.2) λn=>di n (λj=>j▸jK.5.1) λn=>bD n (λe=>cI (em b e).2 AU) λe=>cI (e3.8 b e)<|a' g_ AU;have IR:∀b∈[aq],(a.heap.objs.size<=b\/(b∈o/\g.s0.heap.objs.size<=b/\b∉bY m))/\b∈aH::aq::(aV++o)/\aH≠b:=λb e=>(bc e).symm▸⟨.inl<|a' g_ db,mt bm,ip tU⟩;have IS:ct g (ra a4 (hl m a4.names []) aH m) (aH::aq::(aV++o)) [aq] g.tabs cZ.heap.objs.size:=P3 aO e3 dc.1 (a' g_ f9) bm (λb n=>mt<|mt<|bB n) AV Bp g0 IR;have lp:a9 [] [] a cZ:=(aI.trans a6).trans jK.3;have AW:bo g (ra a4 (hl m a4.names []) aH m) (aH::aq::(aV++o)) [aq] cZ.heap.objs.size (hA (eI a4 m.scope) C) cZ:=P4 e3 iV dc.1 lp (a' g_ f9) jK.2 (dD _) (λb n=>(g0 b n).imp id fS) λb e=>.inl<|bc e▸a' g_ db;have cb:AccAt cZ.heap (aH::aq::(aV++o)) aq []:=⟨#[],jK.1,by show bX _ _ [] [];exact f⟩;have de:s1 g.prog g.w u t.target (aH::aq::(aV++o)) bs al cl bA aV od St k1:=⟨ba.1.1,ba.1.2,ba.1.3,λq h a J X st ac=>ba.1.4 q h a J X st λB w aL oa t=>ac B w (λbi jH g0 qx=>aL bi jH (λb n=>⟨(g0 b n).1,by exact eU ((g0 b n).2) (λe=>di e (λj=>.inr<|.inr<|j▸f9) λe=>di e (λj=>.inr<|.inr<|j▸db) λe=>bD e (λe=>.inr<|.inl e) .inl) λe=>.inr e⟩) qx) oa t,ba.1.5,ba.1.6⟩;have pt:∀b∈bY<|ra a4 (hl m a4.names []) aH m,b=aH\/b∈bY m:=λb n=>by
  refine di n (λe=>?_) λe=>?_
  .exact .inl e
  .exact j2 e λr a1 eO=>c2 eO<|.inr<|ss<|t7 a4.names [] aP r a1
 have abJ:aj.At g (ra a4 (hl m a4.names []) aH m) (aH::aq::(aV++o)) [aq] cZ:=by have hL:aj.At g m (aH::aq::(aV++o)) O cZ:=(ah.wide (λb n=>mt<|mt<|bB n) g0).it lp aP aP;refine⟨hL.1,λb n=>j0 (hL.2 b n) λdJ dU dN eK f_=>?_,hL.3⟩;have c1:=(ah.2 b n).2.2.2.2;exact⟨dJ,λe=>b4 c1<|bc e▸a' g_ db,λe=>(pt b e).elim (λe=>b4 c1<|e▸a' g_ f9) dN,eK,f_⟩
 have U:([]:List bd).length+dP.flatten.length<=sizeLine:=by simpa using dc.7
 refine Rx (g:=g) (z:=z) (T:=eI a4 m.scope) (C:=hA (eI a4 m.scope) C) (ax:=g.tabs) (t:=t) (bs:=bs) (dP:=dP) (ca:=[]) (bT:=al) (bA:=bA) (aV:=aV) (St:=St) f dc.2 dc.3 dc.4 ar f dc.6 IS bm (abI b7) de (λq fy=>(ba.4 q fy).elim (λe=>⟨a' iV.2.1.4 e,λc0=>b4 (ah.3 q c0).2 e⟩)<|IQ q) (λb n=>⟨mt<|mt<|bO n,λe=>(pt b e).elim (λe=>b4 (em b n).2<|e▸f9) λe=>(em b n).1.elim (λG=>b4 (e3.8 b (e3.4 b e).1) G) λG=>(x_ b G).2.2 e,(em b n).1.elim (a' Bp) λG=>(x_ b G).2.1⟩) (λb n=>⟨λe=>b4 (ba.6 b n).1<|e▸db,λe=>b4 (ba.6 b n).1<|e▸f9,(ba.6 b n).2⟩) AW abJ cb U jK.3 (ba.1.2 0 al cZ [] [] ba.2 jK.3 aP aP) λw cc bR hL gy br=>?_;refine bl bR.3 λcW aE x=>bl aE.2 λae bw x=>ac aH aq w (gD ae bw) ?_ (a' g_ f9) (a' g_ db) (ip tU) (cI jK.5.2 cc.2) ?_ ?_ br bR.2
 .exact(lp.mono aP aP).gR cc (λb n=>bD n (λe=>(em b e).1.elim (λG=>.inr<|fS G) λG=>.inl<|bO G) λe=>bD e (λe=>di e (λj=>.inr<|fS<|j▸a' g_ db) λe=>.inr<|fS<|(bc e)▸a' g_ f9) λe=>.inl<|bB e) λq ah=>bD ah (λah=>(ba.4 q ah).elim (λe=>.inr<|rq e) λe=>.inl<|bO e) λe=>.inl<|bB e
 .refine bl gy λV a1 aB=>?_;have lM:∀b∈aH::aq::o,b∈aH::aq::(aV++o):=λb e=>by
   refine di e (λj=>?_) λe=>?_
   .exact l j bm
   refine di e (λj=>?_) λe=>?_
   .exact l j<|mt bm
   .exact mt<|mt<|bB e
  exact⟨V,a1,bX.to (λb v n j=>⟨j,λe=>n<|lM b e⟩) _ _ (by simpa using aB)⟩
 .intro bi d_ abK;refine⟨aj.mono _ _ _ hL.1 λb n=>.inl<|eU (e1.mp<|abK b n) (λe=>?_) λe=>?_,λb n=>j0 (ah.2 b n) λdJ dU dN eK f_=>⟨d_ _ dJ,dU,dN,eK,cI f_<|a' lp.2 cc.2⟩,hL.3⟩
  .exact l e bm
  refine di e (λe=>?_) λe=>?_
  .exact l e<|mt bm
  .exact mt<|mt<|bB e
end
theorem abL(i b:au):Dv "zip" ⟨[.type "zip",i,b],[]⟩=pure (.type "zip",[i,b]):=by unfold Dv;rfl
section
theorem abM{D i:aw}{t s:Nat}{E av B:Tok}(aB:rb a.heap D 0 s 1 E av B)(ay:s<2^62)(aK:a.heap.IsGen i t)(d5:ch)(m4:au->ai->Prop)(cM:Gz->ai->Prop)(iP:∀aa,p3 aa (a.heap.objs.size+3) (a.heap.objs.size+1) (a.heap.objs.size+2) .none->l' aa (a.heap.objs.size+1) (.ref a.heap.objs.size) (.ref i)->l' aa (a.heap.objs.size+2) .none .none->oB aa a.heap.objs.size 0 s 1->aa.objs.size=a.heap.objs.size+4->(∀b v,a.heap.get? b=A v->aa.get? b=A v)->cM (.done<|.ret<|.ref<|a.heap.objs.size+3) {a with heap:=aa}):cj (cG prog k) d5 (NP ⟨[.type "zip",.ref D,.ref i],[]⟩) cM m4 a:=by
 unfold NP;refine me (abL _ _) ?_;try dsimp only
 refine nv (by simp)<|bg (m:=HA [e8 D,e8 i]) ?_;unfold HA;simp only[tC,z3];have dW:sg 0 s 1=s:=D5 s;have mj:(s:Int)<2^62:=by exact_mod_cast ay
 refine bg<|bg<|kM<|Gq aB (small_one aS aS (bZ (.cz (.g<|.n 4611686018427387904)<|.c .x) [] f) mj)<|cu<|dW.symm▸?_;have Bq:(a.heap.push {cls:=.type "range_iterator",data:=.fields #[hE 0,hE s,hE 1]}).objs.size=a.heap.objs.size+1:=f' ..;have J6:oB (a.heap.push {cls:=.type "range_iterator",data:=.fields #[hE 0,hE s,hE 1]}) a.heap.objs.size 0 s 1:=fj _ f;have cS:∀b v,a.heap.get? b=A v->(a.heap.push {cls:=.type "range_iterator",data:=.fields #[hE 0,hE s,hE 1]}).get? b=A v:=λb v j=>eT _ j;generalize(a.heap.push {cls:=.type "range_iterator",data:=.fields #[hE 0,hE s,hE 1]})=bn at*;have vn:bn.IsGen i t:=by refine tK aK λv nm yf aJ D=>?_;exact⟨v,nm,yf,cS _ _ aJ,D⟩
 refine bg<|kM<|wpAny_pyIter_gen (s:={a with heap:=bn}) vn<|cu<|cu<|cu<|bg (m:=newTuple [e8 a.heap.objs.size,e8 i])<|C2<|bg (m:=newTuple [oG,oG])<|C2<|bg (m:=Dw (hh "zip") _) ?_;unfold Dw;refine i4 (cu ?_) (by show Array.size _<=cp+2;refine l zZ ?_;exact a' (show _<=10 by simp[Wa]) aS);have v2:(bn.push {cls:=.type "tuple",data:=.seq #[e8 a.heap.objs.size,e8 i]}).objs.size=a.heap.objs.size+2:=l (f' ..)<|l Bq f;have J7:((bn.push {cls:=.type "tuple",data:=.seq #[e8 a.heap.objs.size,e8 i]}).push {cls:=.type "tuple",data:=.seq #[.none,.none]}).objs.size=a.heap.objs.size+3:=l (f' ..)<|l v2 f;have lx:l' (bn.push {cls:=.type "tuple",data:=.seq #[e8 a.heap.objs.size,e8 i]}) (a.heap.objs.size+1) (.ref a.heap.objs.size) (.ref i):=by exact c2 Bq<|fj _ f
 have dR:∀b v,bn.get? b=A v->(bn.push {cls:=.type "tuple",data:=.seq #[e8 a.heap.objs.size,e8 i]}).get? b=A v:=λb v j=>eT _ j;show cM (.done<|.ret<|.ref ((bn.push {cls:=.type "tuple",data:=.seq #[e8 a.heap.objs.size,e8 i]}).push {cls:=.type "tuple",data:=.seq #[.none,.none]}).objs.size) {a with heap:=(((bn.push {cls:=.type "tuple",data:=.seq #[e8 a.heap.objs.size,e8 i]}).push {cls:=.type "tuple",data:=.seq #[.none,.none]}).push {cls:=.type "zip",data:=.fields #[.none,.bool a2,.bool a2,.ref bn.objs.size,.ref (bn.push {cls:=.type "tuple",data:=.seq #[e8 a.heap.objs.size,e8 i]}).objs.size]})};refine J7.symm▸Bq.symm▸v2.symm▸?_;generalize(bn.push {cls:=.type "tuple",data:=.seq #[e8 a.heap.objs.size,e8 i]})=bG at*;have o0:l' (bG.push {cls:=.type "tuple",data:=.seq #[.none,.none]}) (a.heap.objs.size+2) .none .none:=v2▸fj _ f;have J8:∀b v,bG.get? b=A v->(bG.push {cls:=.type "tuple",data:=.seq #[.none,.none]}).get? b=A v:=λb v j=>eT _ j;generalize(bG.push {cls:=.type "tuple",data:=.seq #[.none,.none]})=jD at*;have EO:∀(h:Obj)b v,jD.get? b=A v->(jD.push h).get? b=A v:=λh b v j=>eT _ j;exact iP _ (c2 J7<|fj _ f) (EO _ _ _<|J8 _ _ lx) (EO _ _ _ o0) (EO _ _ _<|J8 _ _<|dR _ _ J6) (l (f' ..)<|l J7 f) λb v j=>EO _ _ _<|J8 _ _<|dR _ _<|cS _ _ j
theorem abN{D i:aw}{t s:Nat}{E av B:Tok}{J:au->ai->Prop}(aB:rb a.heap D 0 s 1 E av B)(ay:s<2^62)(aK:a.heap.IsGen i t)(c:∀aa,p3 aa (a.heap.objs.size+3) (a.heap.objs.size+1) (a.heap.objs.size+2) .none->l' aa (a.heap.objs.size+1) (.ref a.heap.objs.size) (.ref i)->l' aa (a.heap.objs.size+2) .none .none->oB aa a.heap.objs.size 0 s 1->aa.objs.size=a.heap.objs.size+4->(∀b v,a.heap.get? b=A v->aa.get? b=A v)->J (.ref<|a.heap.objs.size+3) {a with heap:=aa}):cj (cG prog k) u (call (.type "zip") [.ref D,.ref i]) J aN a:=by refine Gy PySem.F.called_zip aS (PySem.F.typeCall_zip_2 _ _) (PySem.F.newCall_zip_2 _ _) (λnD=>Hs nD _ _) PySem.F.entry_zip_new (S:=λx cM w=>w=a/\∀aa,p3 aa (a.heap.objs.size+3) (a.heap.objs.size+1) (a.heap.objs.size+2) .none->l' aa (a.heap.objs.size+1) (.ref a.heap.objs.size) (.ref i)->l' aa (a.heap.objs.size+2) .none .none->oB aa a.heap.objs.size 0 s 1->aa.objs.size=a.heap.objs.size+4->(∀b v,a.heap.get? b=A v->aa.get? b=A v)->cM (.ok<|.ret<|.ref<|a.heap.objs.size+3) {a with heap:=aa}) ?_ ⟨f,λaa i b g z j R=>⟨⟨_,i,f⟩,c aa i b g z j R⟩⟩;rintro aaK aaL d5 cM w⟨rfl,iP⟩;exact abM aB ay aK d5.in1 _ _ iP
end
section
section
variable{prog:cL}{k:ck}{u:ch}{a w:ai}{i aH:aw}{t s ae aC:Nat}{bA aV:List aw}
def mu(R:Nat->Int)(q:Nat)(B:au):Prop:=∃E,B=.int (R q) E
theorem abO(aq:rH G fI eR eg i aH bA aV)(b':u.handled=a7)(aB:u.depth<fA)(bw:aC+s<=ae)(al:ai):s1 prog k u (.Tuple as p hn) o ((c9 s).map λ(q:Nat)=>.tup [.int q,.int<|R<|aC+q]) al G ([G,fI,eR,eg]++i::aH::bA) ([G,eR,eg]++aH::aV) [t] (λq a=>qO prog k u.in1 G fI eR eg i t aH bA aV s ae aC (mu R) .none q a) (λa=>iz prog k u.in1 i t aH bA aV ae (mu R) (aC+s) a):=⟨(λb n=>by
  refine bD n (λe=>?_) λe=>?_
  .refine bO ?_;simp only[e1,mE,or_false]at e⊢;rcases e with e|e|e<;>simp[e]
  .exact bB<|aq.sub b e),(λq a w cd dc st gz dr iQ=>st.frame aq gz dr λe=>iQ t e bm),(λa w cd dc st gz dr iQ=>st.frame aq.8 gz (λb n e=>dr b n<|bB e) λe=>iQ t e bm),(λq h a J X st ac=>by
  have ah:q<s:=by simpa using(k_.mp X).1
  rw[fW,mG ah]at X;obtain rfl:bd.tup [.int q,.int<|R<|aC+q]=h:=fu X;refine kP<|I.of<|abC st aq aB ah (nx (.t (.a .x .y) .z) [.l (.a .x .w) .z,.t .y .w] f bw ah) λa0 E B an aL cz abP oT abQ jb=>⟨_,f,(cJ aL λeM mm=>?_)⟩;obtain rfl:=mm;refine I.of<|wpAny_letOwnedTupleGo_zip oT.1 λaa rI dB=>?_;have lk:a9 [G] [] an {an with heap:=aa}:=bM.same (y:=an.toks) dB;have iY:∀b∈[fI,eR,eg],∀v,an.heap.get? b=A v->aa.get? b=A v:=λb n v j=>dB.extBut b v (by
   simp only[e1,mE,or_false]at n;rcases n with rfl|rfl|rfl
   .exact aq.1
   .exact aq.2
   .exact aq.3) j;refine kn oT.3 λr e JS=>ac _ _ (λbi jH g0 qx=>?_) ⟨rI,iY fI (bm) _ oT.2,⟨r,e,iY eR (mt bm) _ JS⟩,iY eg (mt<|mt bm) _ oT.4,oT.5.frame aq.8 lk (λb n e=>aq.7 G (bm)<|bc n▸e) λe=>dI e⟩<|(a9.moved abQ jb).trans<|lk.mono (λb n=>by refine l (bc n) ?_;exact bm) aP;refine⟨_,a0,_,f,f,⟨_,dB.extBut _ _ abP cz,f,0,f⟩,?_⟩;exact⟨_,_,f,⟨E,f⟩,_,_,f,⟨eM,f⟩,f⟩),(λa J st ac=>by
  rw[gp,pg]at st;refine kP<|I.of<|abD b' st aq (dD _) λaa a8 jb=>?_;have lk:a9 [G,eg] [] a {a with heap:=aa}:=bM.heap (y:=a.toks) (λb v n j=>a8 b v (λe=>n (by simp[e])) (λe=>n (by simp[e])) j) jb.1;refine ac _ (lk.mono (λb n=>?_) aP)<|st.5.frame aq.8 lk (λb n e=>aq.7 b ?_ e) λe=>dI e
  .simp only[e1,mE,or_false]at n;rcases n with rfl|rfl<;>simp
  .simp only[e1,mE,or_false]at n;rcases n with rfl|rfl<;>simp),(λq a J st ac=>I.of<|Gr st.1 ac)⟩
end
variable{g:d7}{z:Nat}{C:cm}{m:Env}{o O ax:List aw}{Y:Nat}{u:ch}{a w:ai}{ak dd ee dO:Pos}{j:bH}{h:Str}{as:List bH}{dR:Nat}{hn:Pos}{i aH:aw}{t s ae aC:Nat}{bA aV cd:List aw}{R:Nat->Int}
theorem abR{L:ai->Prop}(aO:g.Ok)(ar:eJ z u)(P:ct g m o O ax Y)(bJ:∀E,L E->bo g m o O Y C E/\iz g.prog g.w u.in1 i t aH bA aV ae (mu R) aC E/\t<E.gens.size/\∀b∈i::aH::bA,b<E.heap.objs.size)(abS:sr [] [] L)(br:co g.prog g.w u [] [] m L j<|d' s)(X:co g.prog g.w u [] [] m L (.Name h dO)<|λx aU=>aU=.ref i)(abT:g.gl "range"=A (.type "range"))(abU:g.gl "zip"=A (.type "zip"))(J9:eE m.scope "range"=W)(J_:eE m.scope "zip"=W)(ay:dT j=W)(U:s<2^62)(bw:aC+s<=ae)(ia:m3 i aH bA aV)(dr:∀b∈i::aH::bA,b∉cd)(abV:∀b∈cd,b<Y){K:Nat}{rC:Pos}:co g.prog g.w u [] [] m L (.Call (.Name "zip" dd) [.Call (.Name "range" ee) [j] [] ak,.Name h dO] [] hn) (λE aU=>J4 g.prog g.w u (.Tuple as dR rC) Y K (aH::aV) [t] o cd ((c9 s).map λ(q:Nat)=>.tup [.int q,.int<|R<|aC+q]) (λa=>iz g.prog g.w u.in1 i t aH bA aV ae (mu R) (aC+s) a) aU E):=by
 have kW:gH [] [] o L:=⟨abS,λa r h X=>cI (P.8 h X) (bJ a r).1.1,aP⟩;have RB:=ix (C:=C) aO P abT J9;have RC:=ix (C:=C) aO P abU J_;have po:co g.prog g.w u [] [] m L (.Call (.Name "range" ee) [j] [] ak) (λa g=>∃D E av B,g=.ref D/\rb a.heap D 0 s 1 E av B):=by refine mS kW ⟨RB.1,λa r=>RB.2 a (bJ a r).1⟩ f (jl ay kW br (kr _) kt) ?_ (by simp[ay]);rintro a aY r bK J ac;exact dZ bK λx x b8 dm dX=>l b8<|cJ dm λE e2=>l e2<|l dX<|I.of<|CP<|ac _ _ (bM.new _ _ a _ _)<|DK _ _ _ _ f<|fj _ f
 have Jc:mi [] [] (λa g=>∃D E av B,g=.ref D/\rb a.heap D 0 s 1 E av B):=by rintro a w aR eO t;exact DE eO λD E av B j c=>(DK D E av B j<|t.1 _ _ (λe=>dI e) c)
 refine mS kW ⟨RC.1,λa r=>RC.2 a (bJ a r).1⟩ f (jl f kW po Jc<|jl f kW X (λx x x c x=>c) kt) ?_ f;rintro a aY r fE J ac;refine dZ fE λx x gh gV h1=>dZ h1 λx x i8 jC lm=>l gh<|DE gV λD E av B g2 aB=>l g2<|l i8<|l jC<|l lm<|hG (bJ a r) λye aK mr c1=>I.of<|abN aB U aK.1 λaa RD t5 x4 gL dW a8=>?_;have gz:a9 [] [] a {a with heap:=aa}:=bM.heap (y:=a.toks) (λb v x j=>a8 b v j)<|dW▸hT _ _;have lt':∀b∈i::aH::bA,b<a.heap.objs.size:=c1;have aq:rH (a.heap.objs.size+3) (a.heap.objs.size+1) (a.heap.objs.size+2) a.heap.objs.size i aH bA aV:=by
  refine⟨?_,?_,?_,?_,?_,?_,λb n e=>?_,ia⟩;all_goals first|(show@Ne Nat _ _;lia)|skip
  have eX:a.heap.objs.size<=b:=by simp only[e1,mE,or_false]at n;rcases n with rfl|rfl|rfl|rfl<;>(show@LE.le Nat _ _ _;(first|exact hT ..|exact dD _|exact js _))
  exact b4 (lt' b e) eX
 refine ac _ _ gz λJ ac=>I.of<|Gr RD<|ac _ _ _ _ _ _ (bM.refl ..) ⟨abO aq ar.1 (mD (a' (hT _ _) ar.2) aS) bw _,⟨RD,t5,(mf _ _ x4),?_,aK.frame ia gz aP λe=>dI e⟩,λb n=>?_,λq ah=>.inr ah,λq ah=>(bc ah)▸mr,λb n=>?_⟩
 .show oB aa _ _ _ 1;exact gL
 .refine bD n (λe=>?_) λe=>?_
  .refine .inl<|a' ye.1 ?_;simp only[e1,mE,or_false]at e;rcases e with rfl|rfl|rfl<;>(show@LE.le Nat _ _ _;(first|exact hT ..|exact dD _))
  .exact .inr e
 .refine l dW<|bD n (λe=>?_) λe=>?_
  .have eX:a.heap.objs.size<=b/\b<a.heap.objs.size+4:=by simp only[e1,mE,or_false]at e;rcases e with rfl|rfl|rfl|rfl<;>(constructor<;>first|(show@LE.le Nat _ _ _;(first|exact hT ..|exact js _|exact ks _|lia))|(show@nq Nat _ _ _;omega))
   exact⟨eX.2,λe=>b4 (abV b e)<|a' ye.1 eX.1⟩
  .exact⟨cI (lt' b e)<|hT _ _,dr b e⟩
end
section
def fJ(ab:List Int):Prop:=∀k∈ab,0<=k/\k<256
noncomputable def cT(ab:List Int):Array UInt8:=(ab.map λq=>q.toNat.toUInt8).toArray
@[reducible]noncomputable def fl(ab:List Int):bd:=.l3<|cT ab
theorem k2(ab:List Int):(cT ab).size=ab.length:=gp ..
theorem EP(c:0<=q/\q<256):((q.toNat.toUInt8).toNat:Int)=q:=by have:q.toNat<256:=qd (.t .x<|.n 256) [.cg .x<|.n 256,.eK (.c .x) .x] f c.2<|oK c.1;simp[Nat.toUInt8,UInt8.toNat_ofNat',Nd this];first|exact M2 c.1|exact Int.max_eq_left c.1|exact c.1
theorem J'{ab:List Int}{aC:Nat}(c:aC<ab.length):(cT ab)[aC]?=A (ab.getD aC 0).toNat.toUInt8:=by simp[cT,c,hF]
theorem Ka{ab:List Int}(n:fJ ab){aC:Nat}(c:aC<ab.length):0<=ab.getD aC 0/\ab.getD aC 0<256:=(hF).symm▸(gQ c).symm▸n _ (xo c)
section
variable{g:d7}{z:Nat}{T:dp}{C:cm}{m:Env}{o O ax:List aw}{Y:Nat}{u:ch}{a:ai}{j H ez fo:bH}{p:hx}{B:bd}{q:Int}{ak bR dO:Pos}{ab:List Int}{b:Array UInt8}
theorem fg.CU(c:fg Y o p (.l3 b) a aU):∃i,aU=.ref i/\a.heap.get? i=A (cf b):=by cases p with|fr=>refine eW c λi j ay D=>?_;exact(dk i j D)|b2=>exact eW c λi j x D=>(dk i j D)|ls=>refine bl c λi j D=>?_;exact(dk i j D)
theorem Kb{aa:e0}(g3:Y<=a.heap.objs.size)(ae:lN a.heap aa<|cf b):fg Y o .fr (.l3 b) {a with heap:=aa} (.ref a.heap.objs.size):=⟨_,f,g3,ae.1⟩
theorem lN.grow(ae:lN a.heap aa v):a9 [] [] a {a with heap:=aa}:=bM.heap (y:=a.toks) (λb v x j=>ae.2 b v j)<|ae.3▸js _
namespace af
theorem OH(bn:af g z T C ez p<|fl ab)(bG:c5 g z T C fo q)(aG:0<=q)(X:q.toNat<ab.length)(n:fJ ab)(U:ab.length<=cp)(ah:mU fo=W:=by rfl):c5 g z T C (.Subscript ez fo ak) (ab.getD q.toNat 0):=n' λu m o O ax Y ar Q P=>rs P.ok (bn u m o O ax Y ar Q P) fg.h4 (fc bG ar Q P) λa fC gJ r aO bp=>by refine bl (fg.CU aO) λi bK aK=>l bK<|cJ bp λE b8=>l b8 ?_;intro J ac;exact I.of<|sf (gF aK) vj.lookup (Pd aK aG (xK (.cg .x<|.n 9223372036854775808) [.t .x .y,.l .y .z,.e .z<|.n 16777216,.cz .x<|.c .x] f X U f<|qj _) (J' X)<|(EP<|Ka n X).symm▸ac _ _ (bM.tok ..) ⟨_,f⟩)<|xV ah _ _
theorem CV(s:mQ g)(c:af g z T C j p<|fl ab)(U:ab.length<2^62)(X:eE T "len"=W:=by cbv)(ay:dT j=W:=by rfl):c5 g z T C (.Call (.Name "len" dO) [j] [] ak) ab.length:=n' λu m o O ax Y ar Q P=>by subst Q;refine mS P.ok (ix s.ok P s.len X) f (jl ay P.ok (c u m o O ax Y ar f P) fg.h4 kt) ?_ (by simp[ay]);rintro a aY a1 gh;refine dZ gh λfC D gV aO h1=>l gV<|l h1<|bl (fg.CU aO) λi i8 aK=>l i8 ?_;intro J ac;refine I.of<|Pa aK (by refine l (k2 ..) ?_;exact bZ (.cg (.c .x)<|.n 9223372036854775808) [.t .x<|.n 4611686018427387904] f U) ?_;exact l (k2 ..)<|ac _ _ (bM.tok ..) ⟨_,f⟩
theorem aaO{s:Nat}(bn:af g z T C ez p<|fl ab)(bG:c5 g z T C H s)(U:ab.length<=cp):af g z T C (.Subscript ez (.Slice (A H) a7 a7 ak) bR) .fr (fl<|ab.drop s):=λu m o O ax Y ar Q P=>rs P.ok (bn u m o O ax Y ar Q P) fg.h4 (D2 P.ok (lo:=A s) (ah:=a7) (fc bG ar Q P) trivial) λa fC gJ r aO bp=>by
  refine bl (fg.CU aO) λi dm aK=>l dm<|la bp λbt D0 D1 dX j3 nH Ij=>l dX ?_;intro J ac;refine I.of<|sf (gF aK) vj.lookup (Rh aK j3 nH Ij (by refine l (k2 ..) ?_;exact U) ?_) (ops:=[.ref bt,.ref i]) f;have j:xA (cT ab) (A (s:Int)) a7=cT (ab.drop s):=by
   refine l (KBc.picked_eq ..) ?_;simp only[GH];refine l (CY ..) ?_;have ay:(cT ab).toList.length=ab.length:=gp ..;refine(k2 ab).symm▸eU (jt s ab.length) (λc=>?_) λc=>?_
   .refine l (u6 c)<|l (oE<|sb.symm▸ay.symm▸dD _) ?_;simp[cT,u9]
   .refine l (xj c)<|l (u_<|ay.symm▸dD _)<|l (u_ c) ?_;simp[cT]
  exact j.symm▸ac _ _ (bM.new _ _ a _ a.toks) ⟨_,f,r.1,fj _ f⟩
theorem zI:∀{ab:List Int}{V:List au},fJ ab->bX a.heap o (ab.map .int) V->vm V/\(V.filterMap n5).toArray=cT ab
 |[],V,bC,c=>by have aa:bX a.heap o [] V:=c;exact l aa<|⟨aP,f⟩|q::ab,V,n,c=>by
  have aa:bX a.heap o (.int q::ab.map .int) V:=c;refine dZ aa λg aY e2 ag aF=>l e2<|cJ ag λE g2=>l g2<|cx (zI (λk cr=>n k<|mt cr) aF) λdd ee=>?_;have ah:=n q bm;refine⟨λB aL=>di aL (λj=>(eH q E j ah.1 ah.2))<|dd B,?_⟩;have abW:aY.filterMap n5=ab.map λq=>q.toNat.toUInt8:=by have:=congrArg Array.toList ee;exact this
  simp[cT,n5,abW]
theorem aaQ{e:Pos}(aO:g.Ok)(c:af g z T C j p<|bN ab)(aK:g.gl "bytearray"=A (.type "bytearray"))(n:fJ ab)(U:ab.length<=cp)(X:eE T "bytearray"=W:=by cbv)(ay:dT j=W:=by rfl):af g z T C (.Call (.Name "bytearray" e) [j] [] ak) .fr (fl ab):=λu m o O ax Y ar Q P=>by
 subst Q;refine mS P.ok (ix aO P aK X) f (jl ay P.ok (c u m o O ax Y ar f P) fg.h4 kt) ?_ (by simp[ay]);rintro a aY a1 jC J ac;refine dZ jC λfC D lm nI mm=>l lm<|l mm<|iM nI.jB λi V s sM ge aB=>l sM<|cx (zI n aB) λdd ee=>?_;have cP:V.toList.length=ab.length:=by have:=aB.length;simpa using this
 refine Po (V:=V.toList) ⟨_,ge,f,s,f⟩ dd (cP▸U) λaa ae=>?_;rw[ee]at ae;exact ac _ _ ae.grow<|Kb a1.1 ae
theorem aaR{e:Pos}(aO:g.Ok)(c:af g z T C j p<|fl ab)(aK:g.gl "bytearray"=A (.type "bytearray"))(U:ab.length<=cp)(X:eE T "bytearray"=W:=by cbv)(ay:dT j=W:=by rfl):af g z T C (.Call (.Name "bytearray" e) [j] [] ak) .fr (fl ab):=λu m o O ax Y ar Q P=>by subst Q;refine mS P.ok (ix aO P aK X) f (jl ay P.ok (c u m o O ax Y ar f P) fg.h4 kt) ?_ (by simp[ay]);rintro a aY a1 qv J ac;exact dZ qv λfC D qw nI sz=>l qw<|l sz<|bl (fg.CU nI) λi sA ge=>l sA<|XF ge (by refine l (k2 ..) ?_;exact U) λaa ae=>ac _ _ ae.grow<|Kb a1.1 ae
end af
end
end
section
theorem RE:kK (.type "bytearray") "__getattribute__"=pure (A<|.builtin "bytearray.__getattribute__"):=by refine l (hq ..)<|l hr ?_;cbv
theorem RF:kK (.type "bytearray") "__getattr__"=pure a7:=by refine l (hq ..)<|l hr ?_;cbv
section
variable{prog:cL}{k:ck}{u:ch}{a:ai}{i:aw}{b:Array UInt8}
theorem RG(aJ:a.heap.get? i=A (cf b))(c:J (.builtin "bytearray.extend",[.ref i]) a):cj (cG prog k) u (u0 (.ref i) "extend" nH) J aN a:=by have cz:=gF aJ;exact bg<|g6 cz RE<|bg<|g6 cz RF<|bg<|g6 cz DR.lookup<|me WY<|nu aJ<|bg<|l_<|cu c
theorem abX(aJ:a.heap.get? i=A (cf b))(c:J (.builtin "bytearray.pop",[.ref i]) a):cj (cG prog k) u (u0 (.ref i) "pop" nH) J aN a:=by have cz:=gF aJ;exact bg<|g6 cz RE<|bg<|g6 cz RF<|bg<|g6 cz O'.lookup<|me W0<|nu aJ<|bg<|l_<|cu c
end
variable{g:d7}{z:Nat}{T:dp}{C:cm}{m:Env}{o O ax a0:List aw}{Y:Nat}{u:ch}{a:ai}{h:Str}{j A1 ez:bH}{p:hx}{q av:Int}{ak dO pw Qb vN:Pos}{ab eA:List Int}{b_:List eS}{cv:lq->cm->Prop}
theorem yv{L:ai->Prop}{aE:ai->au->Prop}(ay:dT j=W)(c:co g.prog g.w u [] [] m L j aE):mR g.prog g.w u [] [] m L [j] (λa aY=>∃aU,aY=[aU]/\aE a aU):=λa J ak a1 ac=>by exact l (jA ay)<|(I.bind<|c a _ a1 λaU an aI cS=>ea<|d2<|I.pure<|I.pure<|ac _ _ aI<|dk aU f cS)
namespace bE
theorem aaT(aK:fU C h=A (.o<|fl ab))(X:g9 T h=W)(br:af g z T C j p<|bN eA)(n:fJ eA)(U:ab.length+eA.length<cp)(c:bE g z T a0 ((h,.o<|fl<|ab++eA)::C) b_ cv)(ay:dT j=W:=by rfl)(ml:∀m,tv (.Name h dO) "extend" m (dF (.Name h dO) m)=dF (.Name h dO) m:=by exact λx=>f)(hw:(pw.endLine==ak.line)=W:=by rfl):bE g z T a0 C (.Expr (.Call (.Attribute (.Name h dO) "extend" pw) [j] [] ak) Qb::b_) cv:=λu m o O ax Y a ar Q P r=>by
 refine DD (r.B_ P<|mW aK) λi cW aX aE hy aJ vM=>?_;replace aJ:a.heap.get? i=A (cf<|cT ab):=aJ;refine Iy P.1 f<|sw (as:=[j]) (by simp[ay]) (by show 1<20;decide) (ml m) hw<|Ec (g:=g) aE hy (Q▸X) a _ (bM.refl ..) λaU an aI aO=>l aO<|I.of<|RG (aI.all _ _ aJ)<|vs (L:=a9 [] [] a) (aW:=[]) (ao:=[]) f (by simp[ay]) (yv ay<|Qa r<|br u m o O ax Y ar Q P) aI ?_;rintro aY al a6 bK;refine bl bK λaU b8 aL=>l b8<|iM aL.jB λH V s dm aM aB=>l dm<|cx (af.zI n aB) λdd ee=>?_;have cP:V.toList.length=eA.length:=by have:=aB.length;simpa using this
 have jO:=aI.trans a6;refine kP<|Pr (V:=V.toList) ar.1 (jO.all _ _ aJ) ⟨_,aM,f,s,f⟩ dd (by refine l cP<|l (k2 ..) ?_;exact U) λaa y jF a8 jb=>?_;rw[ee]at jF;have j:cT ab++cT eA=cT (ab++eA):=by simp[cT]
 rw[j]at jF;have bQ:a9 [i] [] al {al with heap:=aa,toks:=y}:=bM.heap (λb v n j=>a8 b v (λe=>n<|kl.mpr e) j) jb.1;exact⟨f,I.mono (c u m o O ax Y _ ar Q P<|vM al _ (fl<|ab++eA) jO bQ jF) λR w aa=>aa.trans<|fP.ownAt aX jO bQ⟩
theorem aaU(aK:fU C h=A (.o<|fl ab))(X:g9 T h=W)(ah:c5 g z T C A1 q)(aL:c5 g z T C ez av)(n:fJ ab)(aG:0<=q)(c1:q.toNat<ab.length)(aB:0<=lH (ab.getD q.toNat 0) av/\lH (ab.getD q.toNat 0) av<256)(U:ab.length<=cp)(c:bE g z T a0 ((h,.o<|fl<|ab.set q.toNat<|lH (ab.getD q.toNat 0) av)::C) b_ cv)(gG:∀kR yc yw,augStore A1 kR yc yw=(do holding [yw,kR,yc]<|w8 kR yc yw;release [yw,kR,yc] [];dC .next):=by intros;rfl):bE g z T a0 C (.AugAssign (.Subscript (.Name h dO) A1 vN) .BitXor ez ak::b_) cv:=x' c λu m o O ax Y a ar Q P r=>by
 refine DD (r.B_ P<|mW aK) λi cW aX aE hy aJ vM=>?_;replace aJ:a.heap.get? i=A (cf<|cT ab):=aJ;have j3:cp=2^24:=f;refine dQ<|I.bind<|Ec (g:=g) aE hy (Q▸X) a _ (bM.refl ..) λkR an aI abY=>l abY<|d2<|(fc ah ar Q P) an _ (r.grow aI) λyc al a6 IX=>cJ IX λE dX=>l dX ?_;have jO:=aI.trans a6;refine d2<|dQ<|dv<|Pd (jO.all _ _ aJ) aG (xK (.cg .x<|.n 9223372036854775808) [.t .x .y,.l .y .z,.e .z<|.n 16777216,.cz .x<|.c .x] f c1 U j3<|qj _) (J' c1) ?_;have bQ:a9 [] [] al {al with toks:=al.toks+1}:=bM.tok _ _ _ _;refine(EP<|Ka n c1).symm▸d2 ((fc aL ar Q P) _ _ (r.grow<|jO.trans bQ) λalC cZ e6 abZ=>cJ abZ λeM eO=>l eO<|dQ<|I.of<|wpAny_operate'<|ixor_int ?_);have Kc:a9 [] [] a {cZ with toks:=cZ.toks+1}:=((jO.trans bQ).trans e6).trans<|bM.tok _ _ _ _;refine dQ<|l (gG ..)<|d2<|I.of<|W3 (Kc.all _ _ aJ) aG (xK (.cg .x<|.n 9223372036854775808) [.t .x .y,.l .y .z,.e .z<|.n 16777216,.cz .x<|.c .x] f c1 U j3<|qj _) (by refine l (k2 ..) ?_;exact xJ (.cg .x<|.c .x) [.t .y .x,.cz .x<|.c .y] f c1<|qj _) aB.1 aB.2 (by refine l (k2 ..) ?_;exact U) λaa jF dB=>?_;have j:(cT ab).setIfInBounds q.toNat (lH (ab.getD q.toNat 0) av).toNat.toUInt8=cT (ab.set q.toNat<|lH (ab.getD q.toNat 0) av):=by simp[cT,Df]
 rw[j]at jF;have wa:a9 [i] [] {cZ with toks:=cZ.toks+1} {cZ with heap:=aa,toks:=cZ.toks+1}:=bM.same (y:=cZ.toks+1) dB;exact I.bind<|Au<|I.pure ⟨f,(DJ o O Y (fP.ownAt aX Kc wa) P<|vM _ _ _ Kc wa jF)⟩
end bE
end
noncomputable def qP:List (Int×Nat×List Int):=[(2,1869,[25,1]),(5,1870,[113,164,166,119,10]),(6,1871,[166,0,134,5,176,15]),(7,1872,[87,229,146,149,238,102,21]),(8,1873,[175,238,208,249,215,252,196,28]),(10,1874,[251,67,46,61,118,70,64,94,32,45]),(13,1875,[74,152,176,100,86,100,106,104,130,218,206,140,78]),(14,1876,[199,249,155,48,190,124,218,137,216,87,207,59,22,91]),(15,1877,[8,183,61,91,202,37,51,58,58,237,140,124,5,99,105]),(16,1878,[120,104,107,109,102,161,76,3,91,191,147,169,182,194,225,120]),(17,1879,[43,139,206,78,43,239,123,206,214,147,24,99,150,39,243,163,136]),(18,1880,[215,234,158,94,184,97,118,170,79,187,152,148,252,179,5,98,96,153]),(20,1881,[17,60,79,50,61,163,26,187,202,180,221,225,83,239,156,164,212,212,188,190]),(22,1882,[210,171,247,242,93,230,14,109,221,53,200,74,8,172,98,80,219,134,160,105,165,231]),(24,1883,[229,121,135,48,211,117,251,126,159,180,169,152,192,226,228,218,111,0,117,232,87,96,227,21]),(26,1884,[173,125,158,2,103,182,118,17,145,201,111,28,165,53,161,21,245,142,13,102,48,227,153,145,218,70]),(28,1885,[168,223,200,104,224,234,108,180,110,190,195,147,205,27,232,201,21,43,245,87,42,195,212,119,242,37,9,123]),(30,1887,[41,173,145,152,216,31,179,182,50,48,110,86,239,96,222,125,42,173,226,193,224,130,156,37,251,216,238,40,192,180])]
noncomputable def k3:List Int:=[0,0,1,25,2,50,26,198,3,223,51,238,27,104,199,75,4,100,224,14,52,141,239,129,28,193,105,248,200,8,76,113,5,138,101,47,225,36,15,33,53,147,142,218,240,18,130,69,29,181,194,125,106,39,249,185,201,154,9,120,77,228,114,166,6,191,139,98,102,221,48,253,226,152,37,179,16,145,34,136,54,208,148,206,143,150,219,189,241,210,19,92,131,56,70,64,30,66,182,163,195,72,126,110,107,58,40,84,250,133,186,61,202,94,155,159,10,21,121,43,78,212,229,172,115,243,167,87,7,112,192,247,140,128,99,13,103,74,222,237,49,197,254,24,227,165,153,119,38,184,180,124,17,68,146,217,35,32,137,46,55,63,209,91,149,188,207,205,144,135,151,178,220,252,190,97,242,86,211,171,20,42,93,158,132,60,57,83,71,109,65,162,31,45,67,216,183,123,164,118,196,23,73,236,127,12,111,246,108,161,59,82,41,157,85,170,251,96,134,177,187,204,62,90,203,89,95,176,156,169,160,81,11,245,22,235,122,117,44,215,79,174,213,233,230,231,173,232,116,214,244,234,168,80,88,175]
noncomputable def s3:List Int:=[1,2,4,8,16,32,64,128,29,58,116,232,205,135,19,38,76,152,45,90,180,117,234,201,143,3,6,12,24,48,96,192,157,39,78,156,37,74,148,53,106,212,181,119,238,193,159,35,70,140,5,10,20,40,80,160,93,186,105,210,185,111,222,161,95,190,97,194,153,47,94,188,101,202,137,15,30,60,120,240,253,231,211,187,107,214,177,127,254,225,223,163,91,182,113,226,217,175,67,134,17,34,68,136,13,26,52,104,208,189,103,206,129,31,62,124,248,237,199,147,59,118,236,197,151,51,102,204,133,23,46,92,184,109,218,169,79,158,33,66,132,21,42,84,168,77,154,41,82,164,85,170,73,146,57,114,228,213,183,115,230,209,191,99,198,145,63,126,252,229,215,179,123,246,241,255,227,219,171,75,150,49,98,196,149,55,110,220,165,87,174,65,130,25,50,100,200,141,7,14,28,56,112,224,221,167,83,166,81,162,89,178,121,242,249,239,195,155,43,86,172,69,138,9,18,36,72,144,61,122,244,245,247,243,251,235,203,139,11,22,44,88,176,125,250,233,207,131,27,54,108,216,173,71,142]
noncomputable def m8:List Int:=s3++s3
noncomputable def wb(y:Nat):Nat->List (Int×Nat×List Int)->List zF|_,[]=>[]|z,(p,i,H)::D=>⟨hashInt p,.int p<|y+z,.ref i⟩::wb y (z+(H.length+2)) D
noncomputable def Br(y:Nat):Nat->List (Int×Nat×List Int)->List Obj|_,[]=>[]|z,(_,_,H)::D=>gj "tuple" 0 (lV y (z+1) H)::Br y (z+(H.length+2)) D
section
noncomputable def RH(b9:cL)(L:cy)(y:Nat):Obj:=dd
noncomputable def Kd(b9:cL)(L:cy)(y:Nat):Obj:=iA y "make_final_message" "make_final_message" 835 79 3 3 1891 W 181 1892 .none .none .none (.ref 1893) 838
noncomputable def EQ(b9:cL)(L:cy)(y:Nat):Obj:=jP (cH b9 17) "make_final_message" "make_final_message" 3 [] .none (dy "Constructs the final message (codewords incl. error correction).\n\nISO/IEC 18004:2015(E) -- 7.6 Constructing the final message codeword sequence (page 45)\n\n:param int version: (Micro) QR Code version constant.\n:param int error: Error level constant.\n:param buff: Byte buffer.\n:return: Byte buffer representing the final message.\n"<|y+840) (dy "segno.encoder"<|y+833) a7 (.ref 1894) .none
noncomputable def RI(b9:cL)(L:cy)(y:Nat):Obj:=iA y "make_blocks" "make_blocks" 842 111 2 3 1896 W 181 1897 .none .none .none (.ref 1898) 845
noncomputable def Bs(b9:cL)(L:cy)(y:Nat):Obj:=jP (cH b9 18) "make_blocks" "make_blocks" 3 [] .none (dy "Returns the data and error blocks.\n\n:param ec_infos: Iterable of ECC information\n:param buff: Byte buffer.\n"<|y+847) (dy "segno.encoder"<|y+833) a7 (.ref 1899) .none
noncomputable def RJ(b9:cL)(L:cy)(y:Nat):Obj:=fe
noncomputable def ER(b9:cL)(L:cy)(y:Nat):Obj:=fd "tuple"<|.seq #[(.ref 1909)] 0
noncomputable def RK(b9:cL)(L:cy)(y:Nat):Obj:=iA y "__init__" "Buffer.__init__" 866 146 2 3 1911 W 181 1912 .none (.ref 1913) (.ref 1914) (.ref 1915) 871
noncomputable def Ke(b9:cL)(L:cy)(y:Nat):Obj:=jP (gB (cH b9 19) 2) "__init__" "Buffer.__init__" 3 [] (.ref 1910) .none (dy "segno.encoder"<|y+833) a7 (.ref 1916) .none
noncomputable def RL(b9:cL)(L:cy)(y:Nat):Obj:=iA y "extend" "Buffer.extend" 874 149 2 3 1918 W 181 1919 .none (.ref 1920) (.ref 1921) (.ref 1922) 879
noncomputable def Bt(b9:cL)(L:cy)(y:Nat):Obj:=jP (gB (cH b9 19) 3) "extend" "Buffer.extend" 3 [] .none .none (dy "segno.encoder"<|y+833) a7 (.ref 1923) .none
noncomputable def RN(b9:cL)(L:cy)(y:Nat):Obj:=iA y "getbits" "Buffer.getbits" 891 155 1 3 1932 W 181 1933 .none (.ref 1934) (.ref 1935) (.ref 1936) 895
noncomputable def ES(b9:cL)(L:cy)(y:Nat):Obj:=jP (gB (cH b9 19) 5) "getbits" "Buffer.getbits" 3 [] .none .none (dy "segno.encoder"<|y+833) a7 (.ref 1937) .none
noncomputable def RO(b9:cL)(L:cy)(y:Nat):Obj:=dd
noncomputable def Kf(b9:cL)(L:cy)(y:Nat):Obj:=iA y "toints" "Buffer.toints" 898 158 1 3 1939 W 181 1940 .none (.ref 1941) (.ref 1942) (.ref 1943) 903
noncomputable def ET(b9:cL)(L:cy)(y:Nat):Obj:=jP (gB (cH b9 19) 6) "toints" "Buffer.toints" 3 [] .none (dy "Returns an iterable of integers interpreting the content of `seq`\nas sequence of binary numbers of length 8.\n"<|y+905) (dy "segno.encoder"<|y+833) a7 (.ref 1944) .none
noncomputable def RP(b9:cL)(L:cy)(y:Nat):Obj:=fd "tuple"<|.seq #[(.int (-3)<|y+931),.none,(.int (3)<|y+932)] 0
noncomputable def RQ(b9:cL)(L:cy)(y:Nat):Obj:=gj "tuple" 0<|lV y 934 [-2,1,5]
noncomputable def RR(b9:cL)(L:cy)(y:Nat):Obj:=gj "tuple" 0<|lV y 938 [-2,0,4]
noncomputable def RS(b9:cL)(L:cy)(y:Nat):Obj:=gj "tuple" 0<|lV y 942 [-1,1,11]
noncomputable def RT(b9:cL)(L:cy)(y:Nat):Obj:=gj "tuple" 0<|lV y 946 [-1,0,9]
noncomputable def RU(b9:cL)(L:cy)(y:Nat):Obj:=gj "tuple" 0<|lV y 949 [0,1,16]
noncomputable def RV(b9:cL)(L:cy)(y:Nat):Obj:=gj "tuple" 0<|lV y 952 [0,0,14]
noncomputable def RW(b9:cL)(L:cy)(y:Nat):Obj:=gj "tuple" 0<|lV y 955 [0,3,10]
noncomputable def RX(b9:cL)(L:cy)(y:Nat):Obj:=fd "tuple"<|.seq #[(.ref 1967),(.ref 1968),(.ref 1969),(.ref 1970),(.ref 1971),(.ref 1972),(.ref 1973),(.ref 1974)] 0
noncomputable def RY(b9:cL)(L:cy)(y:Nat):Obj:=iA y "_law_bits" "_law_bits" 959 171 2 3 1976 W 181 1977 .none .none .none (.ref 1978) 962
noncomputable def Kg(b9:cL)(L:cy)(y:Nat):Obj:=jP (cH b9 22) "_law_bits" "_law_bits" 3 [] .none .none (dy "law_nv0011_03"<|y+928) a7 (.ref 1979) .none
noncomputable def RZ(b9:cL)(L:cy)(y:Nat):Obj:=iA y "_law_words" "_law_words" 965 173 1 3 1981 W 181 1982 .none (.ref 1983) (.ref 1984) (.ref 1985) 973
noncomputable def Kh(b9:cL)(L:cy)(y:Nat):Obj:=jP (cH b9 23) "_law_words" "_law_words" 3 [] .none .none (dy "law_nv0011_03"<|y+928) a7 (.ref 1986) .none
noncomputable def R0(b9:cL)(L:cy)(y:Nat):Obj:=iA y "law" "law" 976 181 1 3 1988 W 181 1989 .none .none .none (.ref 1990) 979
noncomputable def EU(b9:cL)(L:cy)(y:Nat):Obj:=jP (cH b9 24) "law" "law" 3 [] .none .none (dy "law_nv0011_03"<|y+928) a7 (.ref 1991) .none
noncomputable def R1(L:cy)(y:Nat):List DictEntry:=[(bx L "__doc__" 166 .none),(bx L "__package__" 167 .none),(bx L "__loader__" 168<|.builtin "__main__.__loader__#opaque"),(bx L "__spec__" 169 .none),(bx L "__annotations__" 170<|.ref 6),(bx L "__builtins__" 171<|.ref 4),(bx L "__file__" 173<|dy "/claim/cut.py" 172),(bx L "__cached__" 174 .none),(bx L "_wall" 193<|.ref 21),(bx L "_tuplegetter" 252<|.ref 60),(bx L "VERSION_M4" 254<|.int (0) 253),(bx L "VERSION_M3" 257<|.int (-1) 256),(bx L "VERSION_M2" 260<|.int (-2) 259),(bx L "VERSION_M1" 263<|.int (-3) 262),(bx L "ERROR_LEVEL_L" 265<|.int (1) 264),(bx L "ERROR_LEVEL_M" 267<|.int (0) 266),(bx L "ERROR_LEVEL_Q" 269<|.int (3) 268),(bx L "ERROR_LEVEL_H" 271<|.int (2) 270),(bx L "EC" 399<|.ref 135),(bx L "ECC" (y+0)<|.ref 139),(bx L "GEN_POLY" (y+318)<|.ref 1868),(bx L "GALIOS_LOG" (y+575)<|.ref 1888),(bx L "GALIOS_EXP" (y+832)<|.ref 1890),(bx L "make_final_message" (y+841)<|.ref 1895),(bx L "make_blocks" (y+848)<|.ref 1900),(bx L "Buffer" (y+927)<|.ref 1963),(bx L "_law_layouts" (y+958)<|.ref 1975),(bx L "_law_bits" (y+964)<|.ref 1980),(bx L "_law_words" (y+975)<|.ref 1987),(bx L "law" (y+981)<|.ref 1992)]
noncomputable def wc(b9:cL)(L:cy)(y:Nat):List Obj:=((A' b9 L).set 3<|fd "dict"<|.dict ((bx L "__name__" 165<|dy "law_nv0011_03"<|y+928)::R1 L y).toArray 31).set 12<|uh<|.fields #[(.int (1) 0),(.int (0) 0),(.ref 20),(.int (5) 0),(.int (0) 0),(.ref 27),(.int (31) 0),(.int (0) 0),(.ref 71),(.int (79) 0),(.int (0) 0),(.ref 1894),(.int (111) 0),(.int (0) 0),(.ref 1899),(.int (141) 0),(.int (0) 0),(.ref 1906),(.int (171) 0),(.int (0) 0),(.ref 1979),(.int (173) 0),(.int (0) 0),(.ref 1986),(.int (181) 0),(.int (0) 0),(.ref 1991)]
noncomputable def wd(b9:cL)(L:cy)(y:Nat):List Obj:=fd "dict" (.dict (wb y 1 qP).toArray 18)::(Br y 1 (qP.take 17)++fd "dict" (.dict #[⟨30,(.int (30)<|y+286),(.ref 1887)⟩] 1)::(Br y 286 (qP.drop 17)++[gj "tuple" 0<|lV y 319 k3,gj "list" 0<|lV y 576 s3,gj "list" 0<|lV y 576 s3++lV y 576 s3,fe,RH b9 L y,jQ (cH b9 17) "make_final_message" "make_final_message",Kd b9 L y,EQ b9 L y,fe,dd,jQ (cH b9 18) "make_blocks" "make_blocks",RI b9 L y,Bs b9 L y,fe,fd "builtin_function_or_method"<|.fields #[(.builtin "type.__prepare__"),(.type "type")],fd "dict"<|.dict #[(bx L "__module__" (y+856)<|dy "segno.encoder"<|y+833),(bx L "__qualname__" (y+858)<|dy "Buffer"<|y+857),(bx L "__firstlineno__" (y+860)<|.int (141)<|y+859),(bx L "__doc__" (y+862)<|dy "Wraps a :cls:`bytearray` and provides some useful methods to add bits.\n    "<|y+861),(bx L "__slots__" (y+865)<|.ref 1908),(bx L "__init__" (y+873)<|.ref 1917),(bx L "extend" (y+881)<|.ref 1924),(bx L "append_bits" (y+890)<|.ref 1931),(bx L "getbits" (y+897)<|.ref 1938),(bx L "toints" (y+906)<|.ref 1945),(bx L "__len__" (y+913)<|.ref 1952),(bx L "__getitem__" (y+921)<|.ref 1959),(bx L "__static_attributes__" (y+923)<|.ref 1960)] 13,fe,uh<|.fields #[(.int (146) 0),(.int (4) 0),(.ref 1916),(.int (149) 0),(.int (4) 0),(.ref 1923),(.int (152) 0),(.int (4) 0),(.ref 1930),(.int (155) 0),(.int (4) 0),(.ref 1937),(.int (158) 0),(.int (4) 0),(.ref 1944),(.int (164) 0),(.int (4) 0),(.ref 1951),(.int (167) 0),(.int (4) 0),(.ref 1958)],iA y "Buffer" "Buffer" 851 141 0 0 1904 a2 181 1905 .none .none .none .none 854,A_ 1906 3 1903<|dy "segno.encoder"<|y+833,gj "list" 0<|ih y 864 ["_data"],RJ b9 L y,ER b9 L y,fe,dd,gj "tuple" 0<|ih y 869 ["self","iterable"],fe,jQ (gB (cH b9 19) 2) "__init__" "Buffer.__init__",RK b9 L y,Ke b9 L y,fe,dd,gj "tuple" 0<|ih y 877 ["self","iterable"],fe,jQ (gB (cH b9 19) 3) "extend" "Buffer.extend",RL b9 L y,Bt b9 L y,fe,dd,gj "tuple" 0<|ih y 885 ["self","val","length"],fe,jQ (gB (cH b9 19) 4) "append_bits" "Buffer.append_bits",iA y "append_bits" "Buffer.append_bits" 882 152 3 3 1925 W 181 1926 .none (.ref 1927) (.ref 1928) (.ref 1929) 888,jP (gB (cH b9 19) 4) "append_bits" "Buffer.append_bits" 3 [] .none .none (dy "segno.encoder"<|y+833) a7 (.ref 1930) .none,fe,dd,gj "tuple" 0<|ih y 894 ["self"],fe,jQ (gB (cH b9 19) 5) "getbits" "Buffer.getbits",RN b9 L y,ES b9 L y,fe,RO b9 L y,gj "tuple" 0<|ih y 901 ["self"],gj "tuple" 0<|ih y 902 ["self"],jQ (gB (cH b9 19) 6) "toints" "Buffer.toints",Kf b9 L y,ET b9 L y,fe,dd,gj "tuple" 0<|ih y 910 ["self"],fe,jQ (gB (cH b9 19) 7) "__len__" "Buffer.__len__",iA y "__len__" "Buffer.__len__" 907 164 1 3 1946 W 181 1947 .none (.ref 1948) (.ref 1949) (.ref 1950) 911,jP (gB (cH b9 19) 7) "__len__" "Buffer.__len__" 3 [] .none .none (dy "segno.encoder"<|y+833) a7 (.ref 1951) .none,fe,dd,gj "tuple" 0<|ih y 917 ["self","item"],fe,jQ (gB (cH b9 19) 8) "__getitem__" "Buffer.__getitem__",iA y "__getitem__" "Buffer.__getitem__" 914 167 2 3 1953 W 181 1954 .none (.ref 1955) (.ref 1956) (.ref 1957) 919,jP (gB (cH b9 19) 8) "__getitem__" "Buffer.__getitem__" 3 [] .none .none (dy "segno.encoder"<|y+833) a7 (.ref 1958) .none,gj "tuple" 0<|ih y 922 ["_data"],gj "list" 1<|ih y 864 ["_data"],fd "dict"<|.dict #[(bx L "__module__" (y+856)<|dy "segno.encoder"<|y+833),(bx L "__firstlineno__" (y+860)<|.int (141)<|y+859),(bx L "__doc__" (y+862)<|dy "Wraps a :cls:`bytearray` and provides some useful methods to add bits.\n    "<|y+861),(bx L "__slots__" (y+865)<|.ref 1908),(bx L "__init__" (y+873)<|.ref 1917),(bx L "extend" (y+881)<|.ref 1924),(bx L "append_bits" (y+890)<|.ref 1931),(bx L "getbits" (y+897)<|.ref 1938),(bx L "toints" (y+906)<|.ref 1945),(bx L "__len__" (y+913)<|.ref 1952),(bx L "__getitem__" (y+921)<|.ref 1959),(bx L "__static_attributes__" (y+923)<|.ref 1960),(bx L "_data" (y+925)<|.ref 1964)] 2,{cls:=(.type "type"),dict:=a7,data:=(.cls {name:=(hg "Buffer"),bases:=[(.type "object")],mro:=[(.ref 1963),(.type "object")],ns:=1962,qualname:=(hg "Buffer"),hasDict:=a2,slotNames:=[(hg "_data")],subclasses:=[],abstract:=a2,collection:=a7,hasDel:=a2}),slots:=#[a7,a7,(A<|dy "Buffer"<|y+849),(A<|dy "Buffer"<|y+857),(A<|.builtin "object.__new__"),(A<|.bool a2)]},fd "member_descriptor"<|.fields #[(dy "_data"<|y+924),(.ref 1963),(.builtin "proto.slot"),(.builtin "proto.slot#set"),(.int (0) 0)],fd "super"<|.fields #[(.ref 1963),(.ref 1963),(.ref 1963)],fd "builtin_function_or_method"<|.fields #[(.builtin "object.__init_subclass__"),(.ref 1963)],RP b9 L y,RQ b9 L y,RR b9 L y,RS b9 L y,RT b9 L y,RU b9 L y,RV b9 L y,RW b9 L y,RX b9 L y,fe,dd,jQ (cH b9 22) "_law_bits" "_law_bits",RY b9 L y,Kg b9 L y,fe,dd,gj "tuple" 0<|ih y 968 ["bits","words","start","word","bit"],fe,jQ (cH b9 23) "_law_words" "_law_words",RZ b9 L y,Kh b9 L y,fe,dd,jQ (cH b9 24) "law" "law",R0 b9 L y,EU b9 L y]))
noncomputable def yx(b9:cL)(L:cy)(mid:Nat->Obj):BT:=lU<|A' b9 L++(c9 1729).map mid
noncomputable def kB(b9:cL)(L:cy)(mid:Nat->Obj)(y:Nat):BT:=lU<|wc b9 L y++((c9 1729).map mid++wd b9 L y)
noncomputable def jo(b9:cL)(L:cy)(mid:Nat->Obj)(y p ae:Nat):BT:=lU<|(A' b9 L).set 3 (fd "dict"<|.dict (bx L "__name__" 165 (dy "segno.consts" 194)::(R1 L y).take p).toArray<|p+1)++((c9 1729).map mid++(wd b9 L y).take ae)
end
section
inductive dK where|none|int(q:Int)|str(h:Str)deriving DecidableEq
noncomputable def dK.is:dK->au->Bool|.none,.none=>W|.int p,.int q bC=>q==p|.str h,.str M bC=>M==h|bC,dw=>a2
noncomputable def dK.hash(k:ck):dK->Int|.none=>4238894112|.int p=>hashInt p|.str h=>hashStr k h
@[elab_as_elim]theorem dK.cs{ao:dK->au->Prop}{p:dK}{B:au}(c:p.is B=W)(ag:ao .none .none)(aF:∀q E,ao (.int q)<|.int q E)(bb:∀h E,ao (.str h)<|.str h E):ao p B:=by cases p<;>cases B<;>first|exact ag|exact jj c|exact eq_of_beq c▸aF _ _|exact eq_of_beq c▸bb _ _
section
variable{prog:cL}{k:ck}{u:ch}{aN:au->ai->Prop}{a:ai}
theorem ab0(b:Bool)(k:ck)(p:Nat):kZ ⟨prog,(k.withFollow "special-get-raises" b).params⟩ .nil (vU nk ⟨prog,(k.withFollow "special-get-raises" b).params⟩ .nil 10) (pyHash .none) p=A (.ok 4238894112,p+1):=by cases b<;>cbv
theorem ab1(c:J 4238894112 {a with toks:=a.toks+1}):cj (cG prog k) u (pyHash .none) J aN a:=λC r b7=>by have j:=ab0 (prog:=prog) (k.params.followText "special-get-raises") k a.toks;rw[Ah,<-xe]at j;exact Eo (a:=a) (bf:=.nil) (λi v dq br=>nomatch br) (λg p D aO=>Ep (bf:=.nil) (λi v dq br=>nomatch br) 10 g p D aO) _ C _ _ a.toks _ r j λx=>c
theorem yy(c_:(i==b)=a2)(be:∀h E,i≠.float h E)(aO:∀J:au->ai->Prop,J (.bool D) a->cj (cG prog k) u (ts .Eq i b) J aN a)(c:J D a):cj (cG prog k) u (eqBool i b) J aN a:=by refine kH<|nv (by refine l c_ ?_;decide) ?_;cases i<;>first|exact(bg<|aO _<|wpAny_truthy_bool c)|exact absurd f<|be _ _
theorem R2{bk:Type}[DecidableEq bk]{R:bk->dK}(be:∀i b,R i=R b->i=b)(q aC:bk):decide (q=aC)=decide (R q=R aC):=by
 by_cases e:q=aC
 .exact l e<|l (decide_eq_true f)<|l (decide_eq_true f) f
 .exact l (decide_eq_false e)<|l (decide_eq_false λj=>e<|be _ _ j) f
theorem ab2{R:Int->dK}(be:∀i b,R i=R b->i=b)(q aC:Int):(q==aC)=decide (R q=R aC):=R2 be q aC
noncomputable def ab3(prog:cL)(k:ck):KeyKind prog k dK where
 is:=dK.is
 hash:=dK.hash k
 inj:=λB i b aX=>by
  refine dK.cs aX ?_ ?_ ?_
  .cases b<;>intro n<;>first|rfl|exact jj n
  .intro q E;cases b<;>intro n<;>first|exact jj n|exact congrArg dK.int<|eq_of_beq n
  .intro q E;cases b<;>intro n<;>first|exact jj n|exact congrArg dK.str<|eq_of_beq n
 byValue:=λp B c=>dK.cs c f (λx x=>f) λx x=>f
 pyHash:=λ{u aN a p B J}aL=>by
  refine dK.cs aL ?_ ?_ ?_
  .exact ab1
  .exact λx x c=>wpAny_pyHash_int c
  .exact λx x c=>wpAny_pyHash_str c
 eqBool:=λ{u aN a i b av B J}d_ aL=>by
  refine dK.cs d_ ?_ ?_ ?_
  .refine dK.cs aL ?_ ?_ ?_
   .intro c;unfold eqBool;exact kH<|bg<|l_<|cu c
   .exact λx x c=>yy f (λx x e=>nomatch e) (λJ aZ=>EqNone.eq_none_int aZ) c
   .exact λx x c=>yy f (λx x e=>nomatch e) (λJ aZ=>EqNone.eq_none_str aZ) c
  .intro q E;refine dK.cs aL ?_ ?_ ?_
   .exact λc=>yy f (λx x e=>nomatch e) (λJ aZ=>EqNone.eq_int_none aZ) c
   .exact λaC x c=>wpAny_eqBool_int<|(ab2 (R:=dK.int) (λx x j=>by injection j) q aC).symm▸c
   .exact λx x c=>yy f (λx x e=>nomatch e) (λJ aZ=>EqMixed.eq_int_str aZ) c
  .intro h E;refine dK.cs aL ?_ ?_ ?_
   .exact λc=>yy f (λx x e=>nomatch e) (λJ aZ=>EqNone.eq_str_none aZ) c
   .exact λx x c=>yy f (λx x e=>nomatch e) (λJ aZ=>EqMixed.eq_str_int aZ) c
   .exact λM x c=>wpAny_eqBool_str<|(R2 (R:=dK.str) (λx x j=>by injection j) h M).symm▸c
 «strs»:=λp h E B c=>by
  cases p
  .exact jj c
  .exact jj c
  .refine c2 (eq_of_beq c) ?_;cases B<;>rfl
end
end
inductive dS(p:Nat)(a w:ai):Prop|mk(fQ:bM [] a w)(fR:w.heap.objs.size=a.heap.objs.size+p)(gs:w.gens=a.gens):dS p a w
theorem dS.refl(a:ai):dS 0 a a:=⟨bM.refl ..,f,f⟩
theorem dS.trans(h:dS p i b)(M:dS H b g):dS (p+H) i g:=⟨h.1.trans M.1,M.2▸h.2▸gv (.e (.a (.a .x .y) .z)<|.a .x<|.a .y .z) [] f,M.3.trans h.3⟩
theorem dS.tok(a:ai)(E:Nat):dS 0 a {a with toks:=E}:=⟨bM.tok ..,f,f⟩
theorem dS.push(a:ai)(v:Obj)(E:Nat):dS 1 a {a with heap:=a.heap.push v,toks:=E}:=⟨bM.new ..,by show(a.heap.push v).objs.size=_;exact l (f' ..) f,f⟩
theorem Sub.grow(c:Sub bf a.heap)(t:bM [] a w):Sub bf w.heap:=λi v dq j f5=>t.1 i dq (λe=>nomatch e)<|c i v dq j f5
set_option backward.match.sparseCases true in theorem ab4(aJ:a.heap.get? E=A {cls:=.type "tuple",data:=.seq bs s})(dW:bs.size<=cp)(ac:∀w,dS 1 a w->J bs.toList w):I az k u (collect<|.ref E) J a:=by
 refine I.of<|bg<|wpAny_runValue<|xd N4<|bg<|i4 (cu ⟨nX N5 _,xd N6 ?_⟩) (by show 0<=cp;decide);have hs:(a.heap.push {cls:=.type "list",data:=.seq ([]:List au).toArray}).get? a.heap.objs.size=A {cls:=.type "list",data:=.seq #[] 0}:=fj _ f;have c1:=dH aJ;have R3:cj (cG az k) u (load a.heap.objs.size>>=λv=>match v.data with|Data.seq aA _=>pure aA.toList|_=>unsupported "internal:collect") J (λx x=>False) {a with heap:=(a.heap.push {cls:=.type "list",data:=.seq ([]:List au).toArray}).update a.heap.objs.size (mI (·++bs))}:=by
  refine nu (n1 (mI (·++bs)) hs f)<|cu ?_;refine l (show((#[]:Array au)++bs).toList=bs.toList by simp)<|ac _ ⟨bM.heap (y:=a.toks) (λb dq x n=>(rf _ _<|zP<|dH n).trans<|eT _ n) ?_,?_,f⟩
  .exact l (Dl ..)<|l (f' ..)<|js _
  .exact l (Dl ..)<|l (f' ..) f
 refine r8 (wpAny_extend_seq (hsz:=dW) (A:=u) (R:=λD w=>D=.ok (.ret<|.ref a.heap.objs.size)/\w={a with heap:=(a.heap.push {cls:=.type "list",data:=.seq ([]:List au).toArray}).update a.heap.objs.size (mI (·++bs))}) (s:={a with heap:=a.heap.push {cls:=.type "list",data:=.seq ([]:List au).toArray}}) _ E _ 0 (.inr f) hs (eT _ aJ) f f ⟨f,f⟩) (λhi w c=>?_) λj w c=>?_
 .cases hi with
  |done R=>obtain⟨j,rfl⟩:=c;cases j;exact R3|again aR=>exact⟨c.1,codeAny_mono c.2 λD ek aB=>by obtain⟨rfl,rfl⟩:=aB;exact R3⟩
 .exact absurd c.1 (by simp)
theorem ab5(E:au):hM eG (callAny (.builtin "tuple.__new__") ⟨[.ref 135,E],[]⟩) (.again<|.builtin "tuple.__new__" ⟨[.ref 135,E],[]⟩) 0:=λb k p=>by cases b<;>cbv
theorem ab6:kI table "tuple.__new__"=A V9:=oA (by cbv)
theorem ab':plainId "tuple.__new__"=W:=fv
theorem aca:hM eG (classHasDel 135) a2 0:=λb k p=>by cases b<;>cbv
theorem acb(Q:Sub (eG k) a.heap)(bI:a.heap.get? E=A {cls:=.type "tuple",data:=.seq #[h,M,G] s})(c:∀w,dS 3 a w->w.heap.get? (a.heap.objs.size+2)=A {cls:=.ref 135,dict:=A<|a.heap.objs.size+1,data:=.seq #[h,M,G]}->J (.ref<|a.heap.objs.size+2) w):I az k u (et (.builtin "tuple.__new__") [.ref 135,.ref E]) J a:=by
 refine I.call<|d6.lZ f<|lX (ab5 _) Q ⟨nX ab' _,d6.builtin (DS fv) ab6<|I.bind<|lX aan Q<|fY aS<|I.bind<|lX aal Q<|fY aS<|I.bind<|lX aam Q<|I.bind<|lX Rb Q<|tQ aS<|ea<|ea<|fY aS<|I.bind<|ab4 bI (by show 3<=cp;decide) λan aI=>ea ?_⟩;refine dv<|zA ?_;generalize hH:({an with heap:=an.heap.push {cls:=.type "dict",data:=.dict #[]}}:ai)=al;have a6:dS 1 an al:=hH▸dS.push an _ an.toks;unfold newObj newObjAsIs
 dsimp only;refine((if_neg (by show¬3>cp;decide)).symm)▸I.bind (dv<|zA ?_);generalize m6:({al with heap:=al.heap.push {cls:=.ref 135,dict:=A an.heap.objs.size,data:=.seq [h,M,G].toArray}}:ai)=bT;have bQ:dS 1 al bT:=m6▸dS.push al _ al.toks;have EA:al.heap.objs.size=a.heap.objs.size+2:=l a6.2<|l aI.2 f;have aZ:=c bT ((aI.trans a6).trans bQ) (by refine c2 EA<|c2 aI.2<|c2 m6 ?_;exact fj _ f);exact I.bind<|lX aca (Q.grow<|(aI.1.trans a6.1).trans bQ.1)<|I.eq (l (if_neg aS)<|l EA f)<|I.pure<|I.pure ⟨_,f,aZ⟩
section
variable{k:ck}{a:ai}
noncomputable def fdOf(v:Obj):FuncData:=match v.data with|.func bh=>bh|_=>default
noncomputable abbrev Bu(k:ck):FuncData:=fdOf<|Es az k.params
theorem acc(k:ck):(Bu k).body=.stmts [.Expr (.Constant (.str "Create new instance of EC(num_blocks, num_total, num_data)") 0 ⟨38,8,38,72⟩) ⟨38,8,38,72⟩,.Return (A<|.Call (.Attribute (.Name "tuple" ⟨39,15,39,20⟩) "__new__" ⟨39,15,39,28⟩) [(.Name "_cls" ⟨39,29,39,33⟩),(.Tuple [(.Name "num_blocks" ⟨39,36,39,46⟩),(.Name "num_total" ⟨39,48,39,57⟩),(.Name "num_data" ⟨39,59,39,67⟩)] 0 ⟨39,35,39,68⟩)] [] ⟨39,15,39,69⟩) ⟨39,8,39,69⟩]:=by cbv
noncomputable abbrev R4:Scope:={kind:=.function,names:=[("_cls",.local),("num_blocks",.local),("num_total",.local),("num_data",.local),("tuple",.globalImplicit)],isGenerator:=a2,isCoroutine:=a2,more:=(fz<|gB (cH az 11) 4).more}
theorem Ki(k:ck):(Bu k).scope=R4:=by cbv
theorem acd(L:cy)(h M G:au):hM eG (bindArgs (fdOf<|Es az L) ⟨[.ref 135,h,M,G],[]⟩) [("_cls",.ref 135),("num_blocks",h),("num_total",M),("num_data",G)] 0:=λb k p=>by cases b<;>cbv
theorem Bv(Q:Sub bf c)(j:bf.get i=A v)(f5:h_ v=A v):c.get? i=A v:=Q i v v j f5
theorem ace(Q:Sub (eG k) a.heap):a.heap.get? 82=A (Es az k.params):=Bv Q (by cbv) f
theorem acf(Q:Sub (eG k) a.heap):a.heap.CodeRec (Bu k).code (Bu k).qualname:=⟨81,QL az k.params,_,294,f,Bv Q (by cbv) f,f,f⟩
theorem R5(Q:Sub (eG k) a.heap):a.heap.NoLimit:=⟨λx=>a7,⟨Er az k.params,#[],0,Bv Q (by cbv) f,f,λj br=>by simp at br,λx=>f⟩,f⟩
noncomputable abbrev yz(s:aw)(e:Str)(R:Option aw)(g:au):Env:=newEnv R4 s 3 [] e R g a7 0
theorem acg(s:aw)(e:Str)(R:Option aw)(g:au):hM eG (dF (.Name "tuple" ⟨39,15,39,20⟩)<|yz s e R g) (.type "tuple") 0:=λb k p=>by cases b<;>cbv
theorem ach(s:aw)(e:Str)(R:Option aw)(g:au):hM eG (CQ W (.Name "tuple" ⟨39,15,39,20⟩) (yz s e R g) (.type "tuple") "__new__") (.builtin "tuple.__new__",[]) 1:=λb k p=>by cases b<;>cbv
theorem EV(ay:a.heap.Ns s ae)(X:(yz s e R g).kindOf h=A .local)(aL:ae h=A B)(bp:(h==("__debug__":Str))=a2)(c:J B a):I az k u (dF (.Name h r)<|yz s e R g) J a:=by exact dQ<|l (if_neg (by refine l bp ?_;decide))<|I.of<|Gi f X ay aL c
theorem aci(Q:Sub (eG k) a.heap)(ay:a.heap.Ns s ae)(ag:ae "_cls"=A (.ref 135))(aF:ae "num_blocks"=A h)(bb:ae "num_total"=A M)(cn:ae "num_data"=A G)(c:∀w,dS 4 a w->w.heap.get? (a.heap.objs.size+3)=A {cls:=.ref 135,dict:=A<|a.heap.objs.size+2,data:=.seq #[h,M,G]}->J (.ref<|a.heap.objs.size+3) w):I az k u (dF (.Call (.Attribute (.Name "tuple" ⟨39,15,39,20⟩) "__new__" ⟨39,15,39,28⟩) [(.Name "_cls" ⟨39,29,39,33⟩),(.Tuple [(.Name "num_blocks" ⟨39,36,39,46⟩),(.Name "num_total" ⟨39,48,39,57⟩),(.Name "num_data" ⟨39,59,39,67⟩)] 0 ⟨39,35,39,68⟩)] [] ⟨39,15,39,69⟩)<|yz s e R g) J a:=by
 refine sw f aS f f<|lX (acg s e R g) Q<|EB (ach s e R g) Q ?_;generalize un:({a with toks:=a.toks+1}:ai)=b1;have oS:dS 0 a b1:=un▸dS.tok a _;have EW:b1.heap.Ns s ae:=un▸ay;have acj:b1.heap.objs.size=a.heap.objs.size:=un▸f;refine vs (L:=λE=>E=b1) (aW:=[]) (ao:=[]) (aE:=λE aY=>dS 1 b1 E/\aY=[.ref 135,.ref b1.heap.objs.size]/\E.heap.get? b1.heap.objs.size=A {cls:=.type "tuple",data:=.seq #[h,M,G]}) f f ?_ f ?_
 .rintro E nA ak rfl ac;refine I.eq (l (jA f)<|l (jA f)<|f) ?_;show I az k u (mB [(a2,_),(a2,_)]) _ _;refine I.eq (f)<|I.bind<|EV EW f ag aS ?_;refine fY aS<|ea<|d2 ?_;refine I.eq (f)<|I.bind<|I.eq (l (arm_eval_Tuple ..) f)<|dQ ?_;refine I.bind<|I.eq (l (jA f)<|l (jA f)<|l (jA f)<|f) ?_;show I az k u (mB [(a2,_),(a2,_),(a2,_)]) _ _;refine I.bind<|EV EW f aF aS<|fY aS<|ea<|d2<|I.eq (f)<|I.bind<|EV EW f bb aS ?_;refine fY aS<|ea<|d2<|I.eq (f)<|I.bind<|EV EW f cn aS ?_;refine fY aS<|ea<|d2<|I.pure<|I.pure<|I.pure<|I.pure<|I.of<|i4 (fY aS<|ea<|d2<|I.pure<|I.pure<|I.pure<|ac _ _ (dS.push _ _ _).1 ⟨dS.push _ _ _,f,fj _ f⟩) (by show 3<=cp;decide)
 .rintro aY E tW bK;refine eV bK λaI b8 bI=>?_;obtain rfl:=b8;have gG:Sub (eG k) E.heap:=Q.grow<|oS.1.trans aI.1;refine acb gG bI λw cc aJ=>?_;have j:E.heap.objs.size=a.heap.objs.size+1:=l aI.2<|l acj f;rw[j]at aJ⊢;have g':dS 4 a w:=by have:=(oS.trans aI).trans cc;simpa using this
  exact c w g' aJ
end
theorem ack(s:aw)(e:Str)(R:Option aw)(g:au):hM eG (exec (.Expr (.Constant (.str "Create new instance of EC(num_blocks, num_total, num_data)") 0 ⟨38,8,38,72⟩) ⟨38,8,38,72⟩)<|yz s e R g) .next 1:=λb k p=>by cases b<;>cbv
theorem acl(fF:u.depth<fA)(Q:Sub (eG k) a.heap)(c:∀w,dS 5 a w->w.heap.get? (a.heap.objs.size+4)=A {cls:=.ref 135,dict:=A<|a.heap.objs.size+3,data:=.seq #[h,M,G]}->cM (.ret<|.ref<|a.heap.objs.size+4) w):d6 az k u (.call (.ref 82) ⟨[.ref 135,h,M,G],[]⟩) cM a:=by
 refine D6 (bh:=Bu k) fF (ace Q) f (l (Ki ..) f) (l (Ki ..) f) (acc k) (acf Q)<|lX (acd _ h M G) Q<|I.eq (l (Ki ..) f) ?_;refine I.of<|Gm aS (by intro r a1;simp only[e1,mE,or_false]at a1;rcases a1 with rfl|rfl|rfl|rfl<;>rfl) (λaa lj Kj=>?_) f;generalize fw:({a with heap:=aa,toks:=a.toks+_}:ai)=an;have aI:dS 1 a an:=by
  subst fw;refine⟨bM.heap (λb v x j=>Kj.extBut b v (hS<|dH j)<|eT _ j) ?_,?_,f⟩
  .exact l Kj.1<|l (f' ..)<|js _
  .show aa.objs.size=_;exact l Kj.1<|l (f' ..) f
 have we:Sub (eG k) an.heap:=Q.grow aI.1;refine⟨R5 we,Iz<|I.eq (pa ..)<|I.bind<|EB (ack _ _ _ _) we ?_⟩;generalize hH:({an with toks:=an.toks+1}:ai)=al;have a6:dS 0 an al:=hH▸dS.tok an _;refine I.bind<|dQ ?_;have acm:al.heap.Ns a.heap.objs.size (λnm=>List.lookup nm ([("_cls",.ref 135),("num_blocks",h),("num_total",M),("num_data",G)]:List<|Str×au).reverse):=by subst hH;subst fw;exact lj
 refine I.bind<|aci (we.grow a6.1) acm f f f f λw cc aJ=>I.pure<|I.pure ?_;have j:al.heap.objs.size=a.heap.objs.size+1:=l a6.2<|l aI.2 f;rw[j]at aJ⊢;have g':dS 5 a w:=by have:=(aI.trans a6).trans cc;simpa using this
 exact c w g' aJ
theorem acn(Q:Sub (eG k) c):c.NoLimit:=R5 (a:={heap:=c}) Q
theorem aco(fF:u.depth+100<fA)(Q:Sub (eG k) a.heap)(c:∀w,dS 5 a w->w.heap.get? (a.heap.objs.size+4)=A {cls:=.ref 135,dict:=A<|a.heap.objs.size+3,data:=.seq #[h,M,G]}->J (.ref<|a.heap.objs.size+4) w):I az k u (et (.ref 135) [h,M,G]) J a:=by
 refine I.call<|d6.lZ f<|lX (aap h M G) Q ⟨f,d6.lZ f<|lX (aar h M G) Q ⟨Ho _ fv,d6.builtin (by show ql.contains "type.__call__"=a2;decide+kernel) Hp ?_⟩⟩;have acp:(u.under<|Ae "type.__call__" ⟨[e8 135,h,M,G],[]⟩).depth<recursionLimit:=by
  show u.depth+_<_;have yn:(Ae "type.__call__" ⟨[e8 135,h,M,G],[]⟩).weight=1:=by cbv
  exact gv (.t (.a .x .y) .z) [.t (.a .x<|.n 100) .z,.e .y<|.n 1] f fF yn
 refine I.bind<|lX aai Q<|fY aS<|I.bind<|lX aaj Q<|I.bind<|EB aaq Q ?_;generalize fw:({a with toks:=a.toks+1}:ai)=an;have aI:dS 0 a an:=fw▸dS.tok a _;have we:Sub (eG k) an.heap:=Q.grow aI.1;refine d2<|I.call<|acl acp we λal a6 aJ=>(dk _ f ?_);have j:an.heap.objs.size=a.heap.objs.size:=aI.2;rw[j]at aJ⊢;have g':dS 5 a al:=by have:=aI.trans a6;simpa using this
 have yA:Sub (eG k) al.heap:=Q.grow g'.1;have aZ:=c al g' aJ;have R6:∀{u:ch}{J:au->ai->Prop},J (.ref 135) al->I az k u (typeOf<|.ref<|a.heap.objs.size+4) J al:=λac=>dv<|wpAny_loadPart aJ<|I.pure ac;refine I.bind<|I.bind<|R6<|lX aak yA<|fY aS<|d2<|I.bind<|I.bind<|R6<|lX Rb yA<|I.holding<|I.bind<|lX (aao _) yA<|I.bind<|Rc (b1:=al) (aas (a.heap.objs.size+4) al.heap.objs.size al.gens.size h M G (A<|a.heap.objs.size+3)<|.seq #[h,M,G]) (λc n=>acn n) ?_ (e7.start yA (λr a1=>?_) (by simp) λr a1 v dq j f5=>?_) ?_
 .show u.depth+_+3*10<fA;have:fA=1000:=f;have yn:(Ae "type.__call__" ⟨[e8 135,h,M,G],[]⟩).weight=1:=by cbv
  exact gv (.t (.a (.a .x .y)<|.m 3<|.n 10) .z) [.t (.a .x<|.n 100) .z,.e .y<|.n 1] f fF yn
 .simp only[kl]at a1;exact l a1 aJ
 .simp only[kl]at a1;subst a1;have aM:a.heap.objs.size+4<a.heap.objs.size:=dH<|Q _ v dq j f5;exact sp [0,1] .f [.t (.a .x<|.n 4) .x] f aM
 .rintro ep w hL rI;simp only[p5]at rI;refine eV rI λbw ln a8=>?_;have yl:dS 0 al w:=⟨hL.same (by refine l a8 ?_;intro r a1;simp only[kl]at a1;refine l a1 ?_;exact .inl aJ),by exact l hL.1<|l bw f,by refine l hL.8<|l ln ?_;rfl⟩;refine I.pure<|fY aS ?_;have acq:dS 5 a w:=by have:=g'.trans yl;simpa using this
  exact I.pure ⟨_,f,c w acq<|yl.1.1 _ _ (λe=>nomatch e) aJ⟩
section
variable{k:ck}
noncomputable abbrev hN(k:ck):KeyKind az k dK:=ab3 az k
inductive fi where|ho(B:bd)|rE(as:List<|dK×fi)
mutual def fm(k:ck)(c:e0)(o:List aw):fi->au->Prop|.ho B,g=>bV c o B g|.rE as,g=>∃z cQ,g=.ref z/\z∉o/\c.DictOf (hN k) z cQ/\gk k c o as cQ def gk(k:ck)(c:e0)(o:List aw):List (dK×fi)->List (dK×au)->Prop|[],cQ=>cQ=[]|j::as,cQ=>∃g D,cQ=(j.1,g)::D/\fm k c o j.2 g/\gk k c o as D end
theorem acr{c aa:e0}{z:aw}{cQ:List<|dK×au}(h:c.DictOf (hN k) z cQ)(p:∀v,c.get? z=A v->aa.get? z=A v):aa.DictOf (hN k) z cQ:=tK h λv as AA aJ D=>⟨v,as,AA,p v aJ,D⟩
mutual theorem fm.to{c aa:e0}{o aW:List aw}(p:∀(b:aw)(v:Obj),b∉o->c.get? b=A v->aa.get? b=A v/\b∉aW):∀(B:fi)(g:au),fm k c o B g->fm k aa aW B g
 |.ho B,g,D=>bV.to p B g D|.rE as,g,D=>by
  obtain⟨z,cQ,j,X,bp,aB⟩:=D;have a3:z∉aW:=by obtain⟨v,_,_,aJ,_⟩:=id bp;exact(p z v X aJ).2
  exact⟨z,cQ,j,a3,acr bp λv j=>(p z v X j).1,gk.to p as cQ aB⟩theorem gk.to{c aa:e0}{o aW:List aw}(p:∀(b:aw)(v:Obj),b∉o->c.get? b=A v->aa.get? b=A v/\b∉aW):∀(as:List<|dK×fi)(cQ:List<|dK×au),gk k c o as cQ->gk k aa aW as cQ|[],cQ,D=>D|j::as,cQ,D=>by obtain⟨g,gw,bW,eD,eN⟩:=D;exact⟨g,gw,bW,fm.to p j.2 g eD,gk.to p as gw eN⟩end
variable{o:List aw}
theorem gk.grow(t:bM [] a w)(D:gk k a.heap o as cQ):gk k w.heap o as cQ:=gk.to (λb v n j=>⟨t.1 b v (λe=>nomatch e) j,n⟩) _ _ D
theorem fm.grow(t:bM [] a w)(D:fm k a.heap o B g):fm k w.heap o B g:=fm.to (λb v n j=>⟨t.1 b v (λe=>nomatch e) j,n⟩) _ _ D
theorem gk.same(Q:hV z c aa)(bp:z∈o)(D:gk k c o as cQ):gk k aa o as cQ:=gk.to (λb v n j=>⟨(Q.2 b λe=>n<|e▸bp).trans j,n⟩) _ _ D
theorem gk.sub(Q:∀M∈aW,M∈o)(D:gk k c o as cQ):gk k c aW as cQ:=gk.to (λb v n j=>⟨j,λe=>n<|Q b e⟩) _ _ D
theorem gk.keys:∀{as:List<|dK×fi}{cQ:List<|dK×au},gk k c o as cQ->cQ.map (·.1)=as.map (·.1)|[],cQ,D=>by refine l D ?_;rfl|j::as,cQ,D=>by exact dZ D λg gw bK x eN=>l bK<|l ju<|ju.symm▸(gk.keys eN).symm▸f
theorem gk.append(gw:gk k c o EX R7):∀{as:List<|dK×fi}{cQ:List<|dK×au},gk k c o as cQ->gk k c o (as++EX) (cQ++R7)|[],cQ,D=>by refine l D ?_;exact gw|j::as,cQ,D=>by exact dZ D λg e b8 eD eN=>l b8<|eH g (e++R7) f eD<|gk.append gw eN
def rJ(k:ck)(u:ch)(E:Sem au)(p:Nat)(aE:List aw->ai->au->Prop):Prop:=∀(a:ai)(J:au->ai->Prop),Sub (eG k) a.heap->(∀g w,dS p a w->(∀o:List aw,(∀h∈o,0<=h/\h<a.heap.objs.size)->aE o w g)->J g w)->I az k u E J a
inductive kC(k:ck)(u:ch):List (Sem au×Sem au)->Nat->List (dK×fi)->Prop|nil:kC k u [] 0 []|cons{r:Sem au×Sem au}{cE:List<|Sem au×Sem au}{s ae:Nat}{p:dK}{B:fi}{as:List<|dK×fi}:rJ k u r.1 0 (λx x g=>p.is g=W)->rJ k u r.2 s (λo a g=>fm k a.heap o B g)->kC k u cE ae as->kC k u (r::cE) (s+ae) ((p,B)::as)
theorem kC.length(c:kC k u cE s as):as.length=cE.length:=by induction c with|nil=>rfl|cons _ _ _ a5=>simp[a5]
theorem yB{a w:ai}{p:Nat}(t:dS p a w)(cA:∀h∈o,0<=h/\h<a.heap.objs.size):∀h∈o,0<=h/\h<w.heap.objs.size:=λh X=>⟨(cA h X).1,cI (cA h X).2 t.1.2⟩
theorem acs{cE:List<|Sem au×Sem au}{s:Nat}{as:List<|dK×fi}(c:kC k u cE s as):∀(a:ai)(J:List (au×au)->ai->Prop),Sub (eG k) a.heap->(∀V cQ w,dS s a w->Carries (hN k) V cQ->(∀o:List aw,(∀h∈o,0<=h/\h<a.heap.objs.size)->gk k w.heap o as cQ)->J V w)->I az k u (evalPairs cE) J a:=by induction c with|nil=>intro a J Q ac;exact I.pure<|ac [] [] a (dS.refl a) trivial λo x=>by exact f|@cons r cE s ae p B as a8 aL _ a5=>intro a J Q ac;obtain⟨alD,fN⟩:=r;exact I.bind<|a8 a _ Q λg an aI cS=>d2<|aL an _ (Q.grow aI.1) λz al a6 e5=>d2<|a5 al _ (Q.grow<|aI.1.trans a6.1) λV cQ bT bQ aO aB=>I.pure<|ac _ ((p,z)::cQ) bT (by have:=(aI.trans a6).trans bQ;rwa[zQ]at this) ⟨cS [] aP,f,aO⟩ λo cA=>(eH z cQ f ((e5 o<|yB aI cA).grow bQ.1)<|aB o<|yB (aI.trans a6) cA)
theorem R8(c:e0):(c.push {cls:=.type "dict",data:=.dict #[]}).DictOf (hN k) c.objs.size []:=⟨_,#[],0,fj _ f,⟨f,f,f⟩,f,λx br=>by simp at br,.nil,rd⟩
theorem R9(t:dS p a an)(Q:hV z an.heap aa)(bp:a.heap.objs.size<=z):dS p a {an with heap:=aa,toks:=y}:=⟨t.1.gR (bM.same (y:=y) Q) (λb n=>.inr<|bc n▸fS bp) aP,by show aa.objs.size=_;exact l Q.1<|l t.2 f,t.3⟩
theorem Kk(Q:Sub (eG k) c):139<=c.objs.size:=Nf<|dH<|Bv (i:=138) (v:=QM az k.params) Q (by cbv) f
theorem act{cE:List<|Sem au×Sem au}{s:Nat}{as:List<|dK×fi}{J:aw->ai->Prop}(c:kC k u cE s as)(ay:(as.map (·.1)).Nodup)(cP:cE.length<=15)(Q:Sub (eG k) a.heap)(ac:∀w cQ,dS (s+1) a w->w.heap.DictOf (hN k) a.heap.objs.size cQ->(∀o:List aw,(∀h∈o,0<=h/\h<a.heap.objs.size)->gk k w.heap (a.heap.objs.size::o) as cQ)->J a.heap.objs.size w):I az k u (zH cE) J a:=by
 refine dv<|zA ?_;generalize fw:({a with heap:=a.heap.push {cls:=.type "dict",data:=.dict #[]}}:ai)=an;have aI:dS 1 a an:=fw▸dS.push a _ a.toks;have Kl:an.heap.DictOf (hN k) a.heap.objs.size []:=fw▸R8 _;refine d2<|tQ cP<|I.bind<|acs c an _ (Q.grow aI.1) λV cQ al a6 aO aB=>I.holding ?_;have bW:=c.length;have cR:=(aB [] aP).keys;have f3:cQ.length=as.length:=by have:=congrArg sa cR;simpa using this
 have dW:cp=2^24:=f;refine dv<|wpAny_storeAll (knd:=hN k) V cQ [] al _ aO (Kl.keep λb v j=>a6.1.1 b v (λe=>dI e) j) (by simp;exact ny [1,1,1,1,-1] (.l .x .y) [.l .z<|.n 15,.e .w .z,.e .x .w,.e .y<|.n 16777216] f cP bW f3 dW) λaa iS dB=>I.pure<|I.pure ?_;rw[merged_nil_of_nodup cQ<|cR▸ay]at iS;have bQ:dS (s+1) a {al with heap:=aa,toks:=al.toks+V.length}:=by have:=R9 (aI.trans a6) dB (y:=al.toks+V.length)<|dD _;rwa[tz 1 s]at this
 refine ac _ cQ bQ iS λo cA=>?_;have:=aB (a.heap.objs.size::o) (λh X=>by
  revert h;refine gr ?_ ?_
  .exact⟨hf _,aI.2▸ks _⟩
  .intro h X;exact yB aI cA h X);exact this.same dB bm
end
noncomputable def s4:BT->Nat|.nil=>0|.node bC H D=>max 1<|max (2*s4 H)<|2*s4 D+1
theorem EY:∀(E:BT)(q:Nat)(v:Obj),E.get q=A v->q<s4 E
 |.nil,q,v,c=>d1 c|.node B H D,q,v,c=>by
  rw[mJ]at c;show q<max 1 (max (2*s4 H)<|2*s4 D+1);by_cases aG:q=0
  .exact l aG<|bZ (.t (.n 0) .x) [.l (.n 1) .x] f<|O5 _ _
  .rw[if_neg aG]at c;by_cases ag:q%2=1
   .rw[if_pos ag]at c;have:=EY H _ v c;exact qe [1,2,1,1,1] (.t .x .y) [.t .z .w,.l .u .y,.t .x<|.a (.m 2 .z)<|.n 2,.l (.m 2 .w) .u] f this (WN _ _) (qh _ 1)<|O5 _ _
   .rw[if_neg ag]at c;have:=EY D _ v c;exact cI (Nat.lt_succ_of_le (a' (oD ((tx q 2).symm.trans (congrArg (2*(q/2)+·)<|(zR q).resolve_right ag)))<|zS 2<|Nat.le_of_pred_lt this))<|a' (GT ..)<|GT ..
theorem R_(k:ck):s4 (eG k)=139:=by cbv
inductive nN(z:aw)(s:Nat)(a w:ai):Prop|mk(fQ:bM [z] a w)(fR:w.heap.objs.size=a.heap.objs.size+s)(gs:w.gens=a.gens):nN z s a w
theorem nN.refl(z:aw)(a:ai):nN z 0 a a:=⟨bM.refl ..,f,f⟩
theorem nN.trans(h:nN z p i b)(M:nN z H b g):nN z (p+H) i g:=⟨h.1.trans M.1,M.2▸h.2▸gv (.e (.a (.a .x .y) .z)<|.a .x<|.a .y .z) [] f,M.3.trans h.3⟩
theorem dS.d{z:aw}{p:Nat}{i b:ai}(h:dS p i b):nN z p i b:=⟨h.1.mono aP λx c=>c,h.2,h.3⟩
theorem acu(Q:hV z a.heap aa):nN z 0 a {a with heap:=aa,toks:=y}:=⟨bM.same Q,Q.1,f⟩
theorem Sub.C9(c:Sub (eG k) a.heap)(bp:139<=z)(t:nN z s a w):Sub (eG k) w.heap:=λi v dq j f5=>t.1.1 i dq (λe=>by
  have c1:i<139:=by have:=EY _ _ _ j;rwa[R_]at this
  exact b4 ((bc e)▸c1) bp)<|c i v dq j f5
theorem fm.C9(t:nN z s a w)(bp:z∈o)(D:fm k a.heap o B g):fm k w.heap o B g:=fm.to (λb v n j=>⟨t.1.1 b v (λe=>n<|bc e▸bp) j,n⟩) _ _ D
theorem acv{cb:List<|dK×au}{p:dK}{B:au}(c:p∉cb.map (·.1)):stored cb p B=cb++[(p,B)]:=by unfold stored;rw[if_neg];intro e;exact bl (Nq.mp e) λjM yC br=>c<|zX.mpr<|dk jM yC<|of_decide_eq_true br
theorem acw{z:aw}{cE:List<|Sem au×Sem au}{s:Nat}{as:List<|dK×fi}(c:kC k u cE s as):∀(cb:List<|dK×au)(a:ai)(J:PUnit->ai->Prop),Sub (eG k) a.heap->a.heap.DictOf (hN k) z cb->139<=z->(cb.map (·.1)++as.map (·.1)).Nodup->cb.length+as.length<=1000->(∀w cQ,nN z s a w->w.heap.DictOf (hN k) z (cb++cQ)->(∀o:List aw,(∀h∈o,0<=h/\h<a.heap.objs.size)->gk k w.heap (z::o) as cQ)->J si w)->I az k u (forIn cE si λ(h:Sem au×Sem au)(_:PUnit)=>(do
   let jM<-h.1 let R'<-holding [jM] h.2
   holding [jM,R']<|dictSet z jM R'
   dC (rg si):Sem<|ForInStep PUnit)) J a:=by induction c with|nil=>intro cb a J Q bp aM ay U ac;exact I.eq (z3 ..)<|I.pure<|ac a [] (nN.refl z a) (by simpa using bp) λo x=>by exact f|@cons r cE s ae p B as a8 aL _ a5=>
  intro cb a J Q bp aM ay U ac;have E0:z<a.heap.objs.size:=by refine tK (id bp) λv x x aJ x=>?_;exact dH aJ
  refine l (tC ..)<|I.bind<|I.bind<|a8 a _ Q λg an aI cS=>d2<|aL an _ (Q.grow aI.1) λgJ al a6 e5=>?_;have rI:cp=2^24:=f;refine d2<|I.of<|wpAny_dictSet_pairs (knd:=hN k) (hsz:=by simp only[jX]at U;exact iO [1,1,-1] (.l .x .y) [.l (.a .x<|.o .z)<|.n 1000,.e .y<|.n 16777216] f U rI) (cS [] λx c=>dI c) (bp.keep λb v j=>(aI.1.trans a6.1).1 b v (λe=>dI e) j) λaa iS dB=>I.pure ?_;have acx:p∉cb.map (·.1):=by intro e;rw[xr]at ay;exact ay.2.2 p e p (bm) f
  replace iS:=(acv acx)▸iS;generalize m6:({al with heap:=aa,toks:=al.toks+1}:ai)=bT;have bQ:nN z 0 al bT:=m6▸acu dB;have kd:nN z (0+s+0) a bT:=((aI.d).trans a6.d).trans bQ;refine a5 (cb++[(p,gJ)]) bT _ (Q.C9 aM kd) (m6▸iS) aM ?_ (by simp only[io,jX,z6]at U⊢;exact c' (.l (.a (.a .x<|.o<|.n 0) .y)<|.n 1000) [.l (.a .x<|.o .y)<|.n 1000] f U) λw cQ cc Km aB=>?_
  .simpa using ay
  .refine ac w ((p,gJ)::cQ) (by have:=kd.trans cc;simpa using this) (by simpa using Km) λo cA=>?_;have Bw:∀h∈z::o,0<=h/\h<an.heap.objs.size:=by
    intro h X
    revert h;refine gr ?_ ?_
    .exact⟨hf _,cI E0 aI.1.2⟩
    .intro h X;exact yB aI cA h X
   refine(eH gJ cQ f (((e5 (z::o) Bw).C9 bQ bm).C9 cc bm)<|aB o λh X=>⟨(cA h X).1,cI (cA h X).2 kd.1.2⟩)
theorem acy(c:kC k u cE s as)(ay:(as.map (·.1)).Nodup)(cP:¬cE.length<=15)(AO:cE.length<=100)(Q:Sub (eG k) a.heap)(ac:∀w cQ,dS (s+1) a w->w.heap.DictOf (hN k) a.heap.objs.size cQ->(∀o:List aw,(∀h∈o,0<=h/\h<a.heap.objs.size)->gk k w.heap (a.heap.objs.size::o) as cQ)->J a.heap.objs.size w):I az k u (zH cE) J a:=by refine dv<|zA ?_;generalize fw:({a with heap:=a.heap.push {cls:=.type "dict",data:=.dict #[]}}:ai)=an;have aI:dS 1 a an:=fw▸dS.push a _ a.toks;refine d2<|fY cP<|dv<|l_<|I.bind<|acw c [] an _ (Q.grow aI.1) (fw▸R8 _) (Kk Q) (by simpa using ay) (by simp;exact c' (.l .x<|.n 1000) [.l .y<|.n 100,.e .x .y] f AO c.length) λw cQ cc iS aB=>I.pure<|I.pure ?_;have g':dS (s+1) a w:=⟨aI.1.gR cc.1 (λb n=>.inr<|bc n▸fS (dD _)) λx c=>dI c,l cc.2<|l aI.2<|c' (.e (.a (.o .x) .y)<|.a .x<|.o .y) [] f,cc.3.trans aI.3⟩;exact ac w cQ g' (by simpa using iS) λo cA=>aB o<|yB aI cA
theorem Sa(c:kC k u cE s as)(ay:(as.map (·.1)).Nodup)(AO:cE.length<=100)(Q:Sub (eG k) a.heap)(ac:∀w cQ,dS (s+1) a w->w.heap.DictOf (hN k) a.heap.objs.size cQ->(∀o:List aw,(∀h∈o,0<=h/\h<a.heap.objs.size)->gk k w.heap (a.heap.objs.size::o) as cQ)->J a.heap.objs.size w):I az k u (zH cE) J a:=by
 by_cases aM:cE.length<=15
 .exact act c ay aM Q ac
 .exact acy c ay aM AO Q ac
theorem acz(Bx:p.is cV=W)(bw:a.heap.DictOf (hN k) z cQ)(a8:p∉cQ.map (·.1))(dW:cQ.length<=1000)(ac:∀aa,aa.DictOf (hN k) z (cQ++[(p,B)])->hV z a.heap aa->J () {a with heap:=aa}):I az k u (dictPut z ((hN k).hash p) cV B) J a:=by
 refine I.of<|ve bw λv as AA aJ aO bp Sb a1 ay=>?_;have rI:cp=2^24:=f;have hc:as.size<=sizeLine:=by
  have bW:=a1.length;have cR:as.toList.length=as.size:=by simp
  exact ny [1,1,-1,1,-1] (.l .x .y) [.l .z<|.n 1000,.e .y<|.n 16777216,.e .w .z,.e .w .x] f dW rI bW cR
 refine bg<|wpAny_dictFind_of (knd:=hN k) Bx aJ bp Sb ?_;have JR:(as.findIdx? λj=>(hN k).is p j.key)=cQ.findIdx? λjM=>decide (jM.1=p):=by refine c2 (a1.findIdx p) ?_;obtain⟨H⟩:=as;simp
 have acA:(cQ.findIdx? λjM=>decide<|jM.1=p)=a7:=by refine gq (List.findIdx?_eq_none_iff) ?_;intro jM yC;exact decide_eq_false λj=>a8<|zX.mpr ⟨jM,yC,j⟩
 refine JR.symm▸acA.symm▸wpAny_updateDictKeys (hz:=hc) aJ bp (ac _ ⟨_,_,AA+1,n1 _ aJ<|Obj.isFreed_of_dict<|NW bp _,aO.mapDictKeys _,NW bp _,Sb.push Bx _,?_,?_⟩<|sd ..)
 .have:=a1.append Bx ((hN k).hash p) B;obtain⟨H⟩:=as;simpa using this
 .refine l mb<|gq xr<|⟨ay,by simp,?_⟩;intro i aX b n;simp only[ju,xs,kl]at n;exact l n λj=>a8<|j▸aX
theorem acB:uS (.type "dict") (.type "dict")=dC W:=by refine l (kj ..) ?_;cbv
theorem acC:kK (.type "dict") "__iter__"=dC (A<|.builtin "dict.__iter__"):=by refine l (hq ..)<|l hr ?_;cbv
set_option backward.match.sparseCases true in theorem acD(yD:z≠i)(aX:(i==sysModules)=a2)(bp:a.heap.DictOf (hN k) z cQ)(bw:a.heap.DictOf (hN k) i ec)(c_:cQ≠[])(ay:(cQ.map (·.1)++ec.map (·.1)).Nodup)(dW:cQ.length+ec.length<=1000)(ac:∀aa,aa.DictOf (hN k) z (cQ++ec)->hV z a.heap aa->J () {a with heap:=aa}):I az k u (mergeMapping z (.ref i) a2) J a:=by
 refine gc λx dA=>ve (id bp) λacE Kn alE acF ru ke alF acG alG=>ve (id bw) λSc rK acH E1 acI E2 acJ Sd alH=>dA ?_;have cz:a.TypeIs (.ref i) "dict":=⟨Sc,E1,acI.1⟩;have cP:ec.length=rK.size:=by refine c2 Sd.length ?_;simp
 refine dv<|q' cz acB<|dv<|g6 cz acC<|((show((A<|Ad "dict.__iter__")==A (Ad "dict.__iter__"))=W from by decide).symm)▸ea ?_
 dsimp only;refine l (if_neg (by refine l aX ?_;decide))<|dv<|GE acF ke ?_;have acK:Kn.isEmpty=a2:=by cases br:Kn.isEmpty with|false=>rfl|true=>exfalso;have aG:Kn=#[]:=Hk.mp br;subst aG;have:=acG.length;exact c_<|Nr this.symm
 refine l (if_neg (by refine l acK ?_;decide))<|dv<|GE E1 E2 ?_;refine dv<|wpAny_dictEpoch E1 E2 ?_;have cV:∀(q:Nat)(w:ai)(aa:e0),w={a with heap:=aa}->q<=rK.size->aa.DictOf (hN k) z (cQ++ec.take q)->hV z a.heap aa->I az k u (forIn (List.range' q<|rK.size-q) si λq(alI:PUnit)=>do
    let Ap<-dictEntries i match Ap[q]? with
     |some j=>do
      holding [j.key,j.val]<|dictPut z j.hash j.key j.val let Ap<-dictEpoch i if(Ap !=acH)=W then do
        unsupported "dict.changed-during-merge"
        dC<|rg si else dC<|rg si|h=>do
      unsupported "dict.changed-during-merge"
      dC<|rg si) (λx w=>J () w) w:=by intro q;induction k0:rK.size-q generalizing q with
  |zero=>intro w aa j ah iS dB;have:ec.take q=ec:=oE<|nx (.l .x .y) [.e .x .z,.e .w<|.n 0,.l .z<|.a .w .y] f cP k0<|fk _ _;exact l j<|I.pure<|ac aa (this▸iS) dB|succ ae a5=>
   intro w aa j ah iS dB;refine l j ?_;have c1:q<rK.size:=(jt (q)<|rK.size).elim (λfh=>ny [1,-1,1] (.t .x .y) [.e .z<|.o .w,.e (.a .z .x) .y] f k0<|eu fh) λfh=>ny [0,-1,1] (.t .x .y) [.e .z<|.o .w,.e .z<|.n 0] f k0<|lL fh;have Se:aa.get? i=A Sc:=(dB.2 i yD.symm).trans E1;refine l List.range'_succ<|l (tC ..)<|I.bind<|dv<|GE (s:={a with heap:=aa}) Se E2<|l (pi c1)<|gc λx dA=>?_;refine cJ (⟨ec[q]'(iO [1,-1,1] (.t .x .y) [.e .y .z,.t .x .z] f cP c1),gQ _⟩:∃jM,ec[q]?=A jM) λjM yC=>?_;obtain⟨p,B⟩:=jM;refine cx (Sd.get? (e:=rK[q]) (by simp[c1]) yC) λBx acL=>bl (acJ rK[q]<|Array.getElem_mem c1) λfG Sg acM=>?_;obtain rfl:fG=p:=(hN k).inj _ _ _ Sg Bx;refine dA ?_
   dsimp only;refine acM.symm▸acL.symm▸?_;have EK:ec.take (q+1)=ec.take q++[(fG,B)]:=by refine l xm<|l yC ?_;rfl
   have acN:fG∉(cQ++ec.take q).map (·.1):=by
    have mj:(cQ.map (·.1)++(ec.take<|q+1).map (·.1)).Nodup:=by refine ay.sublist<|List.Sublist.append (List.Sublist.refl _)<|(List.take_sublist _ _).map _
    rw[EK,mb,<-tD,<-mb]at mj;rw[xr]at mj;intro e;exact mj.2.2 fG e fG (bm) f
   exact d2<|acz (a:={a with heap:=aa}) Sg iS acN (io▸zY▸gv (.l (.a .x .y)<|.n 1000) [.l (.a .x .z)<|.n 1000,.l .y .z] f dW (vg _ _)) λt3 Km Sh=>dv<|wpAny_dictEpoch (s:={a with heap:=t3}) ((Sh.2 i yD.symm).trans Se) E2<|l (if_neg (by simp))<|I.pure<|a5 (q+1) ((jt ((q)+1)<|rK.size).elim (λfh=>tP [1,-1,1,0,0,1] [1,1,0,1,1,0] (.e .x .y) [.e .z<|.o .y,.l .w<|.a .x<|.o .u,.l .w<|.a .z .u,.e (.a .x<|.o .u) .w,.e (.a .z .u) .w] f k0 (fk _ _) (fk _ _) (eu fh)<|eu<|c' (.l .x .y) [.l (.o .x) .y] f fh) λfh=>(jt (q)<|rK.size).elim (λho=>tP [1,-1,1,0,1] [1,0,0,1,0] (.e .x .y) [.e .z<|.o .y,.l .w<|.o .u,.e .x<|.n 0,.e (.a .z .u) .w] f k0 fh (lL fh)<|eu ho) λho=>oJ [1,-1,0,1] [1,0,1,0] (.e .x .y) [.e .z<|.o .y,.e .x<|.n 0,.e .z<|.n 0] f k0 (lL fh)<|lL ho) _ t3 f c1 (l EK<|c2 (tD ..) Km)<|dB.trans Sh
 have ig:=cV 0 a a.heap f (hf _) (by simpa using bp)<|Heap.SameBut.refl _ _;rw[Nat.sub_zero,<-List.range_eq_range']at ig;exact g8 ig λx w c=>I.pure c
noncomputable def Ko(run:List<|Sem au×Sem au)(iC:Option aw):Sem (Option aw):=if run.isEmpty=W then dC iC else match iC with|none=>do let z<-zH run;dC<|A z|some z=>do
   let sub<-holding [.ref z]<|zH run
   (holding [.ref z,.ref sub]<|mergeMapping z (.ref sub) a2).onRaise λh=>do let _<-holding [.ref z,h]<|runValue<|.builtin "proto.let_go" {}
   dC<|A z
def E3(k:ck)(b1:ai)(iC:Option aw)(cb:List<|dK×fi)(s:Nat)(a:ai):Prop:=dS s b1 a/\match iC with|none=>cb=[]/\s=0|some z=>z=b1.heap.objs.size/\∃cQ,a.heap.DictOf (hN k) z cQ/\cQ≠[]/\∀o:List aw,(∀h∈o,0<=h/\h<b1.heap.objs.size)->gk k a.heap (z::o) cb cQ
theorem Si{run:List<|Sem au×Sem au}{iC:Option aw}{ae s:Nat}{cb as:List<|dK×fi}{J:Option aw->ai->Prop}(un:Sub (eG k) b1.heap)(c:E3 k b1 iC cb s a)(a1:kC k u run ae as)(c_:run≠[])(ay:(cb.map (·.1)++as.map (·.1)).Nodup)(U:cb.length+as.length<=1000)(aM:run.length<=100)(ac:∀w,E3 k b1 (A b1.heap.objs.size) (cb++as) (s+(ae+1)) w->J (A b1.heap.objs.size) w):I az k u (Ko run iC) J a:=by
 refine fY (by simpa using c_) ?_;have hc:as≠[]:=by intro e;subst e;have:=a1.length;simp at this;exact c_<|Nr this.symm
 have acO:∀cQ:List<|dK×au,∀o:List aw,∀c:e0,gk k c o as cQ->cQ≠[]:=by intro cQ o c D e;subst e;cases as with
  |nil=>exact hc f|cons j as=>refine ?_;refine fM D λx x j x=>?_;cases j
 refine cx c λt c=>?_;have Q:Sub (eG k) a.heap:=un.grow t.1;cases iC with|none=>refine cx c λe2 g2=>?_;obtain rfl:=e2;obtain rfl:=g2;have dW:a.heap.objs.size=b1.heap.objs.size:=t.2;refine I.bind<|Sa a1 (by simpa using ay) aM Q λw cQ cc bp aB=>I.pure ?_;rw[dW]at bp aB⊢;exact ac w ⟨t.trans cc,f,cQ,bp,acO cQ _ _<|aB [] aP,λo cA=>aB o cA⟩|some z=>
  refine cx c λh0 hu=>?_;obtain rfl:=h0;refine eW hu λcQ bp a8 aB=>?_;have E0:b1.heap.objs.size<a.heap.objs.size:=by refine tK (id bp) λv x x aJ x=>?_;exact dH aJ
  have Sj:=Kk un;refine d2<|Sa a1 ((xr.mp ay).2.1) aM Q λan ec aI bw Sk=>?_;have Kl:an.heap.DictOf (hN k) b1.heap.objs.size cQ:=bp.keep λb v j=>aI.1.1 b v (λe=>dI e) j;have bW:=(aB [] aP).keys;have cR:=(Sk [] aP).keys;have h2:cQ.length=cb.length:=by have:=congrArg sa bW;simpa using this
  have i9:ec.length=as.length:=by have:=congrArg sa cR;simpa using this
  refine I.bind<|I.onRaise<|I.holding<|acD (hS E0) ?_ Kl bw a8 (bW▸cR▸ay) (nx (.l (.a .x .y)<|.n 1000) [.l (.a .z .w)<|.n 1000,.e .x .z,.e .y .w] f U h2 i9) λaa iS dB=>I.pure ?_
  .have:sysModules=1:=f;refine l this ?_;cases e:a.heap.objs.size==1 with
   |false=>rfl|true=>have:=eq_of_beq e;have:=Kk Q;lia
  .have acP:dS (s+(ae+1)) b1 {an with heap:=aa}:=R9 (t.trans aI) dB (y:=an.toks)<|dD _;refine ac _ ⟨acP,f,cQ++ec,iS,by simp[a8],λo cA=>?_⟩;have eD:gk k aa (b1.heap.objs.size::o) cb cQ:=((aB o cA).grow aI.1).same dB bm;have eN:=Sk (b1.heap.objs.size::o) (λh X=>by
    revert h;refine gr ?_ ?_
    .exact⟨hf _,E0⟩
    .intro h X;exact⟨(cA h X).1,cI (cA h X).2 t.1.2⟩);have oW:gk k aa (b1.heap.objs.size::o) as ec:=(eN.same dB (by simp)).sub λM a3=>mt a3;exact gk.append oW eD
theorem kC.snoc(c:kC k u cE s as)(a8:rJ k u r.1 0 λx x g=>p.is g=W)(aL:rJ k u r.2 ae λo a g=>fm k a.heap o B g):kC k u (cE++[r]) (s+ae) (as++[(p,B)]):=by induction c with|nil=>have:=kC.cons a8 aL<|kC.nil (k:=k) (u:=u);simpa using this|cons i b _ a5=>refine l (Nat.add_assoc ..) ?_;exact .cons i b a5
theorem acQ(R:(Option (Sem au)×Sem au)->(Option aw×List (Sem au×Sem au))->Sem (ForInStep<|Option aw×List (Sem au×Sem au)))(s5:∀(r:Sem au×Sem au)(iC:Option aw)(run:List<|Sem au×Sem au),run.length+1<17->R (A r.1,r.2) (iC,run)=dC (.yield (iC,run++[r])))(By:∀(r:Sem au×Sem au)(iC:Option aw)(run:List<|Sem au×Sem au),run.length+1=17->R (A r.1,r.2) (iC,run)=(do let ae<-Ko (run++[r]) iC;dC<|.yield (ae,[])))(un:Sub (eG k) b1.heap){cE:List<|Sem au×Sem au}{s:Nat}{as:List<|dK×fi}(c:kC k u cE s as):∀(iC:Option aw)(run:List<|Sem au×Sem au)(cb o1:List<|dK×fi)(p ae:Nat)(a:ai)(J:Option aw×List (Sem au×Sem au)->ai->Prop),E3 k b1 iC cb p a->kC k u run ae o1->run.length<17->(cb.map (·.1)++o1.map (·.1)++as.map (·.1)).Nodup->cb.length+o1.length+as.length<=1000->(∀yE wf gy yF fG pu w,E3 k b1 yE gy fG w->kC k u wf pu yF->wf.length=(run.length+cE.length)%17->gy++yF=cb++o1++as->fG+pu=p+ae+s+(run.length+cE.length)/17->J (yE,wf) w)->I az k u (forIn (cE.map λr=>(A r.1,r.2)) (iC,run) R) J a:=by induction c with
 |nil=>intro iC run cb o1 p ae a J db a1 aM ay U ac;exact I.eq (l xs<|l z3 f)<|I.pure<|ac iC run cb o1 p ae a db a1 (by simp[Nd aM]) (by simp) (by simp[Nat.div_eq_of_lt aM])|@cons r cE i b E4 B as a8 aL ka a5=>
  intro iC run cb o1 p ae a J db a1 aM ay U ac;refine I.eq (l ju<|l (tC ..) f) ?_;have Sl:=a1.snoc a8 aL;have mj:(cb.map (·.1)++(o1++[(E4,B)]).map (·.1)++as.map (·.1)).Nodup:=by simpa using ay
  rcases pd (run.length+1) 17 with c1|ib
  .refine l (s5 r iC run c1)<|ea<|a5 iC (run++[r]) cb (o1++[(E4,B)]) p (ae+i) a J db Sl (by simpa using c1) mj (by simp at U⊢;exact gv (.l (.a (.a .x<|.o .y) .z)<|.n 1000) [.l (.a (.a .x .y)<|.o .z)<|.n 1000] f U) λyE wf gy yF fG pu w wg qy jE sY uo=>ac yE wf gy yF fG pu w wg qy ?_ (by simpa using sY) ?_
   .refine l jE ?_;congr 1;simp;exact c' (.e (.a (.o .x) .y)<|.a .x<|.o .y) [] f
   .refine l uo ?_;simp only[io,jX,z6];exact l (show run.length+(0+1)+cE.length=run.length+(cE.length+1)by exact c' (.e (.a (.a .x<|.o<|.n 0) .y)<|.a .x<|.o .y) [] f)<|xL (.e (.a (.a (.a .x<|.a .y .z) .w) .u)<|.a (.a (.a .x .y)<|.a .z .w) .u) [] f
  .have E5:run.length+1=17:=u5 aM ib;refine l (By r iC run E5)<|I.bind<|I.bind<|Si un db Sl (by simp) ((xr.mp mj).1) (by simp at U⊢;exact gv (.l (.a .x<|.o .y)<|.n 1000) [.l (.a (.a .x .y)<|.o .z)<|.n 1000] f U) (by simp;exact bZ (.l .x<|.n 99) [.e (.o .x)<|.n 17] f E5) λan Kp=>I.pure<|a5 (A b1.heap.objs.size) [] (cb++(o1++[(E4,B)])) [] (p+(ae+i+1)) 0 an J Kp .nil (by simp) (by simpa using mj) (by simp at U⊢;exact gv (.l (.a (.a .x<|.o .y) .z)<|.n 1000) [.l (.a (.a .x .y)<|.o .z)<|.n 1000] f U) λyE wf gy yF fG pu w wg qy jE sY uo=>ac yE wf gy yF fG pu w wg qy ?_ (by simpa using sY) ?_
   .refine l jE ?_;simp only[z6,jX];exact l (show run.length+(cE.length+1)=0+cE.length+17 by exact pm [1,-1] [1,1] (.e (.a .x<|.o .y)<|.a (.a (.n 0) .y)<|.n 17) [.e (.o .x)<|.n 17] f E5)<|l (Nat.add_mod_right ..) f
   .refine l uo ?_;simp only[z6,jX];exact l (show run.length+(cE.length+1)=0+cE.length+17 by exact pm [1,-1] [1,1] (.e (.a .x<|.o .y)<|.a (.a (.n 0) .y)<|.n 17) [.e (.o .x)<|.n 17] f E5)<|l (Nb _ aS)<|xL (.e (.a (.a (.a (.a .x<|.o<|.a .y .z)<|.n 0) .w) .u)<|.a (.a (.a .x .y)<|.a .z .w)<|.o .u) [] f
theorem acR(Q:Sub (eG k) a.heap)(c:kC k u cE s as)(ay:(as.map (·.1)).Nodup)(U:as.length<=1000)(aB:cE.length%17≠0)(ac:∀w,dS (s+(cE.length/17+1)) a w->(∀o:List aw,(∀h∈o,0<=h/\h<a.heap.objs.size)->fm k w.heap o (.rE as) (.ref a.heap.objs.size))->J (.ref a.heap.objs.size) w):I az k u (dictDisplay<|cE.map λr=>(A r.1,r.2)) J a:=by
 refine I.bind<|acQ (b1:=a) _ (λr iC run aM=>?_) (λr iC run aM=>?_) Q c a7 [] [] [] 0 0 a _ ⟨dS.refl a,f,f⟩ .nil aS (by simpa using ay) (by simpa using U) λiC run cb o1 p ae w db a1 aM br a8=>?_
 .have c_:((run++[(r.1,r.2)]).length==17)=a2:=by simp;exact sp [-1,1] (.ne .x<|.n 16) [.t (.o .x)<|.n 17] f aM
  simp only[c_,Gf,if_false]
 .have c_:((run++[(r.1,r.2)]).length==17)=W:=by simp;exact Al [1,-1] [1,1] (.e .x<|.n 16) [.e (.o .x)<|.n 17] f aM
  simp only[c_,if_true];rfl
 .have Kq:run≠[]:=by intro e;subst e;simp at aM;exact aB<|id<|zV aM
  have acS:(cb.map (·.1)++o1.map (·.1)).Nodup:=by refine c2 mb<|l br ?_;simpa using ay
  have acT:cb.length+o1.length<=1000:=by have:=congrArg sa br;simp at this;exact gv (.l (.a .x .y)<|.n 1000) [.l .z<|.n 1000,.e (.a .x .y) .z] f U this
  refine I.bind ((Si Q db a1 Kq acS acT (by refine l aM ?_;exact bZ (.l .x<|.n 100) [.t .x<|.n 17] f<|WL _ 16) λan Kp=>?_):I az k u (Ko run iC) _ w);refine cx Kp λt bK=>cx bK λb8 dm=>eW dm λcQ bp dX uo=>?_;obtain-:=b8;obtain-:=dX;refine I.pure<|ac an ?_ λo cA=>?_
  .have j:p+(ae+1)=s+(cE.length/17+1):=by simp at a8;exact HS [1,-1] [1,1] (.e (.a .x<|.o .y)<|.a .z<|.o .w) [.e (.a .x .y)<|.a .z .w] f a8
   exact c2 j t
  .refine(HJ _ cQ f (λe=>iK _ (cA _ e).2) bp ?_);rw[br]at uo;exact(uo o cA).sub λM a3=>mt a3
noncomputable def pairsOf(m:Env)(ak:Pos):List bH->List bH->List (Sem au×Sem au)|p::ce,B::V=>(dF p m,do let h<-dF B m;zt ak;dC h)::pairsOf m ak ce V|bC,dw=>[]
theorem Sm:∀(ce V:List bH),(evalEachOpt (ce.map A) m).zip ((tr V m).map λB=>do let h<-B;zt ak;dC h)=(pairsOf m ak ce V).map λr=>(A r.1,r.2)|[],V=>by refine l xs<|?_;cases V<;>rfl|p::ce,[]=>by rfl|p::ce,B::V=>by refine l ju<|(((l ju<|l ju<|l List.zip_cons_cons<|l (Sm ce V) ?_)));rfl
noncomputable def envOf(r:cL):Env:={scope:=r.main.scope,locals:=ma,globals:=ma,cells:=[],code:=.ref 13,frame:=A 14}
noncomputable def E6:List (Str×Int):=[("VERSION_M1",-3),("VERSION_M2",-2),("VERSION_M3",-1),("VERSION_M4",0),("ERROR_LEVEL_L",1),("ERROR_LEVEL_M",0),("ERROR_LEVEL_Q",3),("ERROR_LEVEL_H",2)]
theorem acU(ak:Pos):hM eG (dF (.Name "VERSION_M1" ak)<|envOf az) (.int (-3) 262) 0:=λb k p=>by cases b<;>cbv
theorem acV(ak:Pos):hM eG (dF (.Name "VERSION_M2" ak)<|envOf az) (.int (-2) 259) 0:=λb k p=>by cases b<;>cbv
theorem acW(ak:Pos):hM eG (dF (.Name "VERSION_M3" ak)<|envOf az) (.int (-1) 256) 0:=λb k p=>by cases b<;>cbv
theorem acX(ak:Pos):hM eG (dF (.Name "VERSION_M4" ak)<|envOf az) (.int 0 253) 0:=λb k p=>by cases b<;>cbv
theorem acY(ak:Pos):hM eG (dF (.Name "ERROR_LEVEL_L" ak)<|envOf az) (.int 1 264) 0:=λb k p=>by cases b<;>cbv
theorem acZ(ak:Pos):hM eG (dF (.Name "ERROR_LEVEL_M" ak)<|envOf az) (.int 0 266) 0:=λb k p=>by cases b<;>cbv
theorem ac0(ak:Pos):hM eG (dF (.Name "ERROR_LEVEL_Q" ak)<|envOf az) (.int 3 268) 0:=λb k p=>by cases b<;>cbv
theorem ac1(ak:Pos):hM eG (dF (.Name "ERROR_LEVEL_H" ak)<|envOf az) (.int 2 270) 0:=λb k p=>by cases b<;>cbv
theorem ac2(ak:Pos):hM eG (dF (.Name "EC" ak)<|envOf az) (.ref 135) 0:=λb k p=>by cases b<;>cbv
theorem ac3:hM eG (r4<|.ref 135) .machine 0:=λb k p=>by cases b<;>cbv
theorem ac4(h:Str)(q:Int)(c:E6.lookup h=A q)(ak:Pos):∃E,hM eG (dF (.Name h ak)<|envOf az) (.int q E) 0:=by
 have bw:=Go c;simp only[E6,e1,p5,mE,or_false]at bw;rcases bw with⟨rfl,rfl⟩|⟨rfl,rfl⟩|⟨rfl,rfl⟩|⟨rfl,rfl⟩|⟨rfl,rfl⟩|⟨rfl,rfl⟩|⟨rfl,rfl⟩|⟨rfl,rfl⟩
 .exact⟨_,acU ak⟩
 .exact⟨_,acV ak⟩
 .exact⟨_,acW ak⟩
 .exact⟨_,acX ak⟩
 .exact⟨_,acY ak⟩
 .exact⟨_,acZ ak⟩
 .exact⟨_,ac0 ak⟩
 .exact⟨_,ac1 ak⟩
theorem Sn:fm k c o (.ho<|.int q) (.int q E):=md E f
theorem ac5:fm k c o (.ho<|.str q) (.str q E):=md E f
theorem ac6:fm k c o (.ho .none) .none:=rfl
theorem Kr(p:fm k c o (.ho<|.int q) g):∃E,g=.int q E:=p
theorem E7:rJ k u (dF (.Constant (.int q) p ak) m) 0 (λo a g=>fm k a.heap o (.ho<|.int q) g):=λa J Q ac=>I.of<|r3<|ac _ _ (dS.tok ..) λo x=>Sn
theorem ac7:rJ k u (dF (.Constant .none p ak) m) 0 (λo a g=>fm k a.heap o (.ho .none) g):=λa J Q ac=>I.pure<|ac _ _ (dS.refl a) λo x=>ac6
theorem ac8:rJ k u (dF (.Constant (.str h) p ak) m) 0 (λo a g=>fm k a.heap o (.ho<|.str h) g):=λa J Q ac=>I.of<|Gu<|ac _ _ (dS.tok ..) λo x=>ac5
theorem ac9(c:E6.lookup h=A q):rJ k u (dF (.Name h ak)<|envOf az) 0 (λo a g=>fm k a.heap o (.ho<|.int q) g):=λa J Q ac=>by obtain⟨E,bI⟩:=ac4 h q c ak;exact lX bI Q<|ac _ _ (dS.refl a) λo x=>Sn
theorem ac_(fF:u.depth+100<fA):rJ k u (dF (.Call (.Name "EC" ak6) [.Constant (.int i) jN ab7,.Constant (.int b) ab8 ab9,.Constant (.int g) ab_ AW] [] ak)<|envOf az) 5 (λo a B=>fm k a.heap o (.ho<|.ec i b g) B):=λa J Q ac=>by
 .refine I.bind<|lX (ac2 _) Q ?_;refine I.eq (l (CX ..) f) ?_;refine d2<|xU (L:=λE=>E=a) (aW:=[]) (ao:=[]) (aE:=λE aY=>dS 0 a E/\∃Ks kb Kt,aY=[.int i Ks,.int b kb,.int g Kt]) f ?_ f λaY an aI bn=>?_
  .rintro E nA ak rfl o2;refine I.eq (l (jA f)<|l (jA f)<|l (jA f)<|f) ?_;show I az k u (mB [(a2,_),(a2,_),(a2,_)]) _ _;refine I.eq (f) ?_;refine I.bind<|E7 (p:=jN) (ak:=ab7) _ _ Q λfC an aI cS=>?_;refine cJ (Kr (cS [] aP):∃E,fC=.int i E) λhB bK=>l bK ?_;refine fY aS ?_;refine ea<|d2 ?_;refine I.eq (f) ?_;refine I.bind<|E7 (p:=ab8) (ak:=ab9) _ _ (Q.grow aI.1) λgJ al a6 e5=>?_;refine cJ (Kr (e5 [] aP):∃E,gJ=.int b E) λoc b8=>l b8 ?_;refine fY aS ?_;refine ea<|d2 ?_;refine I.eq (f) ?_;refine I.bind<|E7 (p:=ab_) (ak:=AW) _ _ (Q.grow<|aI.1.trans a6.1) λac' bT bQ jk=>?_;refine cJ (Kr (jk [] aP):∃E,ac'=.int g E) λada dm=>l dm ?_;refine fY aS ?_;refine ea<|d2 ?_;refine I.pure<|I.pure<|I.pure<|I.pure ?_;have t:dS 0 E bT:=by have:=(aI.trans a6).trans bQ;simpa using this
   exact o2 _ _ t.1 ⟨t,(OG hB oc ada f)⟩
  .refine cx bn λaI dX=>sk dX λKs kb Kt eO=>l eO ?_;have fw:=Q.grow aI.1;refine dQ ?_;refine I.bind<|lX ac3 fw ?_;refine I.bind<|aco fF fw λal a6 aJ=>?_;refine dv<|kH<|o_<|I.pure ?_;have t:dS 5 a al:=by have:=aI.trans a6;simpa using this
   refine ac _ al t λo cA=>?_;refine(WE _ _ Ks kb Kt _ f (λe=>?_) aJ);exact b4 ((cA _ e).2)<|aI.2▸hT _ _
noncomputable def adb:PySem.Const->Option (Nat×bd)|.int q=>A (0,.int q)|.none=>A (0,.none)|.str h=>A (0,.str h)|_=>a7
noncomputable def du:bH->Option Int|.Constant (.int q) bC dw=>A q|_=>a7
noncomputable def So:bH->Option Str|.Name h bC=>A h|_=>a7
noncomputable def ints3:List bH->Option (Int×Int×Int)|[i,b,g]=>(du i).bind λi=>(du b).bind λb=>(du g).bind λg=>A (i,b,g)|_=>a7
noncomputable def E8:bH->Option (Nat×bd)|.Constant g bC dw=>adb g|.Name h bC=>(E6.lookup h).bind λq=>A (0,.int q)|.Call R eP [] bC=>(So R).bind λh=>(m5<|h==("EC":Str)).bind λx=>(ints3 eP).bind λE=>A (5,.ec E.1 E.2.1 E.2.2)|_=>a7
noncomputable def Ku:List bH->Option (Nat×List bd)|[]=>A (0,[])|j::as=>(E8 j).bind λi=>(Ku as).bind λb=>A (i.1+b.1,i.2::b.2)
noncomputable def Sp:bH->Option (List bH)|.Tuple as bC dw=>A as|_=>a7
noncomputable def dictOf:bH->Option (List (Option bH)×List bH)|.Dict ce V bC=>A (ce,V)|_=>a7
noncomputable def E9(j:bH):Option (Nat×bd):=(Sp j).elim (E8 j) λas=>(Ku as).bind λr=>(m5<|as.all dT&&Nat.ble r.2.length 1000).bind λx=>A (r.1+1,.tup r.2)
noncomputable def Sq:bd->Option dK|.none=>A .none|.int q=>A<|.int q|.str h=>A<|.str h|_=>a7
noncomputable def Kv:List bH->Option (List dK)|[]=>A []|j::as=>(E8 j).bind λi=>(m5<|C' i.1 0).bind λx=>(Sq i.2).bind λp=>(Kv as).bind λce=>A<|p::ce
noncomputable def Kw:List (Option bH)->Option (List bH)|[]=>A []|v::as=>v.bind λj=>(Kw as).bind λD=>A<|j::D
noncomputable def Kx:List dK->Bool|[]=>W|p::ce=>!ce.contains p&&Kx ce
noncomputable def E_:List dK->List (Nat×fi)->Option (Nat×List (dK×fi))|[],[]=>A (0,[])|p::ce,B::V=>(E_ ce V).bind λD=>A (B.1+D.1,(p,B.2)::D.2)|bC,dw=>a7
noncomputable def adc(ce:List dK)(V:List<|Nat×fi):Option (Nat×fi):=(m5<|Kx ce&&Nat.ble ce.length 1000&&!(C' (ce.length%17) 0)).bind λx=>(E_ ce V).bind λD=>A (D.1+(D.2.length/17+1),.rE D.2)
noncomputable def Ky{bk d0:Type}(R:bk->Option d0):List bk->Option (List d0)|[]=>A []|i::D=>(R i).bind λb=>(Ky R D).bind λaQ=>A<|b::aQ
noncomputable def Kz(R:bH->Option (Nat×fi))(z:List (Option bH)×List bH):Option (Nat×fi):=(Kw z.1).bind λce=>(Kv ce).bind λmk=>(Ky R z.2).bind λV=>adc mk V
noncomputable def Sr(j:bH):Option (Nat×fi):=(dictOf j).elim ((E9 j).map λr=>(r.1,.ho r.2))<|Kz λj=>(E9 j).map λr=>(r.1,.ho r.2)
noncomputable def KA(j:bH):Option (Nat×fi):=(dictOf j).bind<|Kz Sr
abbrev wh(k:ck)(u:ch)(j:bH)(s:Nat)(B:fi):Prop:=rJ k u (dF j<|envOf az) s λo a g=>fm k a.heap o B g
inductive Bz{bk d0:Type}(cM:bk->d0->Prop):List bk->List d0->Prop|nil:Bz cM [] []|cons{i:bk}{b:d0}{H:List bk}{D:List d0}:cM i b->Bz cM H D->Bz cM (i::H) (b::D)
set_option tactic.hygienic true in theorem KB(c:du j=A q):∃aC r,j=.Constant (.int q) aC r:=by
 cases j
 case Constant g aC r=>
  cases g
  case int=>cases c;exact(mf _ _ f)
  all_goals exact d1 c
 all_goals exact d1 c
theorem ade(c:So j=A h):∃r,j=.Name h r:=by
 cases j
 case Name=>cases c;exact⟨_,f⟩
 all_goals exact d1 c
set_option tactic.hygienic true in theorem KC(fF:u.depth+100<fA)(c:E8 j=A (s,B)):wh k u j s (.ho B):=by
 cases j
 case Constant g _ _=>
  cases g
  case int=>cases c;exact E7
  case none=>cases c;exact ac7
  case str=>cases c;exact ac8
  all_goals exact d1 c
 case Name=>exact d9 c λq aM c=>by cases c;exact ac9 aM
 case Call R eP ce _=>
  cases ce
  case nil=>
   refine d9 c λh ag c=>d9 c λx aF c=>d9 c λE bb c=>?_;cases c;refine cJ (ade ag) λr e2=>l e2 ?_;cases eq_of_beq<|rB aF
   match eP,bb with
   |[i,b,g],bb=>refine d9 bb λq aX c=>d9 c λaC n c=>d9 c λp aO c=>?_;cases c;exact kn (KB aX) λx x hu=>l hu<|kn (KB n) λx x iv=>l iv<|kn (KB aO) λx x kD=>l kD<|ac_ fF
  all_goals exact d1 c
 all_goals exact d1 c
theorem Ss(fF:u.depth+100<fA):∀{as:List bH}{s:Nat}{V:List bd},Ku as=A (s,V)->as.all dT=W->∀(a:ai)(ak:Pos)(J:List au->ai->Prop),Sub (eG k) a.heap->(∀aY w,dS s a w->(∀o:List aw,(∀h∈o,0<=h/\h<a.heap.objs.size)->bX w.heap o V aY)->J aY w)->I az k u (mB<|jV ak<|jh as<|envOf az) J a|[],s,V,c,bC,a,ak,J,Q,ac=>by cases c;exact I.pure<|ac [] a (dS.refl a) λo x=>by exact f|j::as,s,V,c,ay,a,ak,J,Q,ac=>by refine d9 c λi ag c=>d9 c λb aF c=>?_;cases c;rw[n0,jU]at ay;exact(jA ay.1).symm▸I.bind (KC fF ag a _ Q λg an aI cS=>ea<|d2<|Ss fF aF ay.2 an ak _ (Q.grow aI.1) λaY al a6 e5=>I.pure<|ac _ al (aI.trans a6) λo cA=>(eH g aY f (bV.to (λb v n j=>⟨a6.1.1 b v (λe=>dI e) j,n⟩) _ _<|cS o cA)<|e5 o<|yB aI cA))
theorem EN{bk d0:Type}{v:Option bk}{b:d0}{R:bk->d0}{M:d0}{ao:Prop}(c:v.elim b R=M)(i_:v=a7->b=M->ao)(iY:∀i,v=A i->R i=M->ao):ao:=by
 cases v
 .exact i_ f c
 .exact iY _ f c
theorem adf{j:bH}{as:List bH}{ao:Prop}(c:Sp j=A as)(p:∀aC r,j=.Tuple as aC r->ao):ao:=by cases j<;>first|exact d1 c|exact p _ _ (congrArg (Du · _ _)<|nz c)
theorem Sv{j:bH}{z:List (Option bH)×List bH}{ao:Prop}(c:dictOf j=A z)(p:∀r,j=.Dict z.1 z.2 r->ao):ao:=by cases j<;>first|exact d1 c|exact p _<|congrArg (λz:List (Option bH)×List bH=>PySem.Expr.Dict z.1 z.2 _)<|nz c
theorem adg(fF:u.depth+100<fA){j:bH}{s:Nat}{B:bd}(c:E9 j=A (s,B)):wh k u j s (.ho B):=by
 refine EN c (λx c=>KC fF c) λas bI c=>adf bI λaC ak bW=>d9 c λr ag c=>d9 c λx aO c=>?_
 .cases c;refine l bW<|cx (l9.mp<|rB aO) λlx o0=>?_;intro a J Q ac;refine dQ<|I.bind<|Ss fF ag lx a ak _ Q λaY an aI cS=>I.of<|i4 ?_ ?_
  .exact ac _ _ (aI.trans<|dS.push an _ an.toks) λo cA=>Pz (λh X=>cI (cA h X).2 aI.1.2) (by simpa using cS o cA)
  .have:r.2.length<=1000:=C_ o0;show aY.toArray.size<=cp;have U:cp=2^24:=f;exact l zZ<|iO [1,1,1,-1] (.l .x .y) [.e .x .z,.l .z<|.n 1000,.e .y<|.n 16777216] f ((cS [] aP).length) this U
set_option tactic.hygienic true in theorem adh(a8:Sq B=A p)(D:fm k c [] (.ho B) g):p.is g=W:=by
 cases B
 case none=>exact nz a8▸(show g=_ from D)▸f
 case int q=>exact cJ D λE e=>nz a8▸e▸beq_self_eq_true q
 case str q=>exact cJ D λE e=>nz a8▸e▸beq_self_eq_true q
 all_goals exact d1 a8
theorem Sw(fF:u.depth+100<fA):∀{ce V:List bH}{mk:List dK}{cQ:List<|Nat×fi}{s:Nat}{as:List<|dK×fi},Kv ce=A mk->Bz (λB r=>wh k u B r.1 r.2) V cQ->E_ mk cQ=A (s,as)->kC k u (pairsOf (envOf az) ak ce V) s as
 |[],V,mk,cQ,s,as,a8,aL,U=>by cases a8;cases cQ with|nil=>cases U;cases aL;exact .nil|cons r cQ=>exact d1 U
 |p::ce,V,mk,cQ,s,as,a8,aL,U=>by refine d9 a8 λi ag a8=>d9 a8 λx aG a8=>d9 a8 λE4 adi a8=>d9 a8 λalJ aF a8=>?_;cases a8;cases aL with|nil=>exact d1 U|@cons s6 r adj cE HZ BA=>refine d9 U λD rI U=>?_;cases U;exact .cons (λa J Q ac=>KC (s:=0) fF (ag.trans<|congrArg A<|Prod.ext (Nat.eq_of_beq_eq_true<|rB aG) f) a J Q λg w t D=>ac g w t λo cA=>adh adi<|D [] aP) (λa J Q ac=>I.bind<|HZ a _ Q λg w t D=>dQ<|I.pure<|ac g w t D)<|Sw fF aF BA rI
theorem Sx:∀{ce:List dK},Kx ce=W->ce.Nodup|[],bC=>rd|p::ce,c=>by exact cx (l9.mp c) λag aF=>List.nodup_cons.mpr ⟨λe=>jj<|(congrArg Bool.not<|List.contains_iff_mem.mpr e).symm.trans ag,Sx aF⟩
theorem Sy:∀{ce:List dK}{V:List<|Nat×fi}{s:Nat}{as:List<|dK×fi},E_ ce V=A (s,as)->as.map (·.1)=ce
 |[],V,s,as,c=>by cases V with|nil=>cases c;rfl|cons r V=>exact d1 c
 |p::ce,V,s,as,c=>by cases V with|nil=>exact d1 c|cons r V=>refine d9 c λD aa c=>?_;cases c;exact congrArg (p::·)<|Sy aa
theorem SA:∀{H:List<|Option bH}{D:List bH},Kw H=A D->H=D.map A|[],D,c=>nz c▸f|v::H,D,c=>d9 c λj ag c=>d9 c λgw aF c=>nz c▸ag▸congrArg (A j::·) (SA aF)
theorem SB{bk d0:Type}{R:bk->Option d0}{cM:bk->d0->Prop}(be:∀i b,R i=A b->cM i b):∀{H:List bk}{D:List d0},Ky R H=A D->Bz cM H D|[],D,c=>nz c▸.nil|i::H,D,c=>d9 c λb ag c=>d9 c λaQ aF c=>nz c▸.cons (be _ _ ag) (SB be aF)
theorem SC(fF:u.depth+100<fA){R:bH->Option (Nat×fi)}{z:List (Option bH)×List bH}{ak:Pos}{s:Nat}{B:fi}(be:∀j s B,R j=A (s,B)->wh k u j s B)(c:Kz R z=A (s,B))(a:ai)(J:au->ai->Prop)(Q:Sub (eG k) a.heap)(ac:∀w,dS s a w->(∀o:List aw,(∀h∈o,0<=h/\h<a.heap.objs.size)->fm k w.heap o B (.ref a.heap.objs.size))->J (.ref a.heap.objs.size) w):I az k u (dF (.Dict z.1 z.2 ak)<|envOf az) J a:=by refine d9 c λce aJ c=>d9 c λmk a8 c=>d9 c λcQ aL c=>d9 c λx aO c=>d9 c λD U c=>?_;cases c;refine cx (l9.mp<|rB aO) λaO v9=>cx (l9.mp aO) λlx o0=>?_;have j:=Sy U;have rL:D.2.length=mk.length:=(gp ..).symm.trans<|congrArg sa j;have a1:=Sw (ak:=ak) fF a8 (SB (cM:=λB r=>wh k u B r.1 r.2) (λi b n=>be i b.1 b.2 n) aL) U;have cR:=a1.length;exact l (SA aJ)<|l (arm_eval_Dict ..)<|l (Sm ..)<|dQ<|acR Q a1 (j▸Sx lx) (rL.symm▸C_ o0) (c2 cR<|l rL λe=>jj<|(congrArg (λp=>!C' p 0) e).symm.trans v9) λw t a8=>ac w (cR▸t) a8
theorem adk(fF:u.depth+100<fA){j:bH}{s:Nat}{B:fi}(c:Sr j=A (s,B)):wh k u j s B:=by
 have n:∀j s B,(E9 j).map (λr=>(r.1,fi.ho r.2))=A (s,B)->wh k u j s B:=λj s B c=>n4 c λr a1 e=>by cases e;exact adg fF a1
 exact EN c (λx c=>n _ _ _ c) λz bI c=>Sv bI λr bW=>l bW λa J Q ac=>SC fF n c a J Q λw=>ac _ w
noncomputable abbrev rM:Ctx:=⟨.builtin "claim.caller" {},a7,a7,[],a7⟩
noncomputable def BB(r:cL):Sem (au×aw):=do
 let code<-moduleCode r.main let frame<-newBodyFrame code ma ma
 pure (code,frame)
section
noncomputable def yG(L:cy):e_:=⟨lU (oH L).objs.toList,11,boot_toks⟩
noncomputable def BC(k:ck):e_:=match kz ⟨az,k.params⟩ 0 (λx x x=>a7) rM (BB az) default (yG k.params)with|some h=>h.2.2|none=>⟨.nil,0,0⟩
end
theorem adl(k:ck):kz ⟨az,k.params⟩ 0 (λx x x=>a7) rM (BB az) default (yG k.params)=A (.ok (.ref 13,14),default,BC k):=by cbv
noncomputable abbrev mv(r:cL):Ctx:=rM.enter (.body (rh r)<|envOf r) a7 default
noncomputable def SD(r:cL):Sem Flow:=do
 zJ (rh r)<|envOf r
 dG (r.main.body.take 12)<|envOf r
theorem adm(k:ck):kz ⟨az,k.params⟩ 0 (tV nk ⟨az,k.params⟩ 0 400) (mv az) (SD az) default (BC k)=A (.ok .next,⟨31,0,73,58⟩,⟨oj az k.params,139,400⟩):=by cbv
section
def ii{bk:Type}(L:cy)(y:Nat)(E:Sem bk)(D:bk)(a0:BT)(s p:Nat)(e:Pos)(uq:BT)(j8 fG:Nat)(c0:Pos):Prop:=kz ⟨az,L⟩ y (tV nk ⟨az,L⟩ y 400) (mv az) E e ⟨a0,s,p⟩=A (.ok D,c0,⟨uq,j8,fG⟩)
theorem E'{bk:Type}{k:ck}{y:Nat}{E:Sem bk}{D:bk}(a0 uq:cy->BT){s p j8 fG:Nat}{e c0:Pos}(c:∀b,ii (k.withFollow "special-get-raises" b).params y E D (a0 (k.withFollow "special-get-raises" b).params) s p e (uq (k.withFollow "special-get-raises" b).params) j8 fG c0):ii k.params y E D (a0 k.params) s p e (uq k.params) j8 fG c0:=by have:=c<|k.params.followText "special-get-raises";rwa[Ah]at this
variable(k:ck)(mid:Nat->Obj)(y:Nat)
noncomputable def Fa(r:cL):List Stmt:=(r.main.body.drop 13).take 2
noncomputable def Fb(r:cL):List Stmt:=(r.main.body.drop 15).take 1
noncomputable def Fc(r:cL):List Stmt:=r.main.body.drop 16
theorem adn(e:Pos):ii (k.withFollow "special-get-raises" a2).params y (o' (envOf az) "ECC"<|.ref 139) () (yx az (k.withFollow "special-get-raises" a2).params mid) 1868 0 e (jo az (k.withFollow "special-get-raises" a2).params mid y 20 0) 1868 1 e:=by unfold ii;cbv
theorem ado(e:Pos):ii (k.withFollow "special-get-raises" W).params y (o' (envOf az) "ECC"<|.ref 139) () (yx az (k.withFollow "special-get-raises" W).params mid) 1868 0 e (jo az (k.withFollow "special-get-raises" W).params mid y 20 0) 1868 1 e:=by unfold ii;cbv
theorem adp(e:Pos):ii (k.withFollow "special-get-raises" a2).params y (dG (Fa az)<|envOf az) .next (jo az (k.withFollow "special-get-raises" a2).params mid y 20 0) 1868 1 e (jo az (k.withFollow "special-get-raises" a2).params mid y 22 21) 1889 576 ⟨76,0,76,10⟩:=by unfold ii;cbv
theorem adq(e:Pos):ii (k.withFollow "special-get-raises" W).params y (dG (Fa az)<|envOf az) .next (jo az (k.withFollow "special-get-raises" W).params mid y 20 0) 1868 1 e (jo az (k.withFollow "special-get-raises" W).params mid y 22 21) 1889 576 ⟨76,0,76,10⟩:=by unfold ii;cbv
theorem adr:ii (k.withFollow "special-get-raises" a2).params y (dG (Fb az)<|envOf az) .next (jo az (k.withFollow "special-get-raises" a2).params mid y 22 21) 1889 576 ⟨76,0,76,10⟩ (jo az (k.withFollow "special-get-raises" a2).params mid y 23 23) 1891 833 ⟨77,0,77,10⟩:=by unfold ii;cbv
theorem ads:ii (k.withFollow "special-get-raises" W).params y (dG (Fb az)<|envOf az) .next (jo az (k.withFollow "special-get-raises" W).params mid y 22 21) 1889 576 ⟨76,0,76,10⟩ (jo az (k.withFollow "special-get-raises" W).params mid y 23 23) 1891 833 ⟨77,0,77,10⟩:=by unfold ii;cbv
theorem adt:ii (k.withFollow "special-get-raises" a2).params y (dG (Fc az)<|envOf az) .next (jo az (k.withFollow "special-get-raises" a2).params mid y 23 23) 1891 833 ⟨77,0,77,10⟩ (kB az (k.withFollow "special-get-raises" a2).params mid y) 1993 982 ⟨181,0,211,100⟩:=by unfold ii;cbv
theorem adu:ii (k.withFollow "special-get-raises" W).params y (dG (Fc az)<|envOf az) .next (jo az (k.withFollow "special-get-raises" W).params mid y 23 23) 1891 833 ⟨77,0,77,10⟩ (kB az (k.withFollow "special-get-raises" W).params mid y) 1993 982 ⟨181,0,211,100⟩:=by unfold ii;cbv
theorem adv(e:Pos):ii k.params y (o' (envOf az) "ECC"<|.ref 139) () (yx az k.params mid) 1868 0 e (jo az k.params mid y 20 0) 1868 1 e:=E' (yx az · mid) (jo az · mid y 20 0) λb=>b.rec (adn k mid y e)<|ado k mid y e
theorem adw(e:Pos):ii k.params y (dG (Fa az)<|envOf az) .next (jo az k.params mid y 20 0) 1868 1 e (jo az k.params mid y 22 21) 1889 576 ⟨76,0,76,10⟩:=E' (jo az · mid y 20 0) (jo az · mid y 22 21) λb=>b.rec (adp k mid y e)<|adq k mid y e
theorem adx:ii k.params y (dG (Fb az)<|envOf az) .next (jo az k.params mid y 22 21) 1889 576 ⟨76,0,76,10⟩ (jo az k.params mid y 23 23) 1891 833 ⟨77,0,77,10⟩:=E' (jo az · mid y 22 21) (jo az · mid y 23 23) λb=>b.rec (adr k mid y)<|ads k mid y
theorem runC:ii k.params y (dG (Fc az)<|envOf az) .next (jo az k.params mid y 23 23) 1891 833 ⟨77,0,77,10⟩ (kB az k.params mid y) 1993 982 ⟨181,0,211,100⟩:=E' (jo az · mid y 23 23) (kB az · mid y) λb=>b.rec (adt k mid y)<|adu k mid y
end
theorem KD(m:Env):∀(ly lY:List eS),dG (ly++lY) m=(dG ly m>>=λR=>match R with|.next=>dG lY m|R=>dC R)
 |[],lY=>by refine l (Ha ..)<|l (uW ..) ?_;rfl|st::ly,lY=>by
  refine l u8<|l (pa ..)<|l (pa ..)<|l (bind_assoc ..) ?_
  congr 1
  funext R;cases R with|next=>exact KD m ly lY|_=>rfl
theorem ady:(xy az).cur=(BB az>>=λaT=>(run (.body (rh az) {scope:=az.main.scope,locals:=ma,globals:=ma,cells:=[],code:=aT.1,frame:=A aT.2})>>=λx=>ret .none)):=by unfold xy BB;simp only[bind_assoc,pure_bind]
theorem boot_abs(L:cy):jZ (yG L).T (yG L).n (oH L).life=oH L:=by cbv
theorem adz:rh az=az.main.body.take 12++(cH az 12::az.main.body.drop 13):=by cbv
def yH(h:Step):Prop:=∀R a,h≠.halt (.done R) a
theorem qQ:yH (.go a E):=λx x c=>nomatch c
theorem Fd[Decidable g](X:yH h)(a3:yH M):yH (if g then h else M):=by
 by_cases c:g
 .exact l (if_pos c) X
 .exact l (if_neg c) a3
theorem qR(c:∀R,v≠.done R):yH (.halt v a):=λR x j=>c R (Step.halt.inj j).1
set_option tactic.hygienic true in theorem adA{d3}{drawn}{toks os code ak stack}(yI:Sem Fin)(c:∀R,yI≠.pure (.done R)):yH (step den r k ⟨Fe,d3,drawn,toks,os⟩ ⟨yI,code,ak,stack⟩):=by
 cases yI
 case pure hi=>
  cases hi
  case done R=>exact absurd f<|c R
  exact qQ
 case raise j=>cases stack with|nil=>exact Fd (qR λx c=>nomatch c)<|qR λx c=>nomatch c|cons fr b_=>cases fr<;>exact qQ
 case load i _ p=>
  dsimp only[step];generalize Fe.get? i=h;cases h
  .exact qR λx c=>nomatch c
  .exact qQ
 case genState t p=>
  dsimp only[step];generalize d3[t]?=h;cases h
  .exact qR λx c=>nomatch c
  .exact qQ
 case resume t D H p=>dsimp only[step];generalize d3[t]?=h;cases h with|none=>exact qR λx c=>nomatch c|some M=>
   cases M
   case fresh=>
    cases D
    case send B=>cases B<;>exact qQ
    exact qQ
   all_goals exact qQ
 case yield=>dsimp only[step];generalize splitAtGen stack=h;cases h with
  |none=>exact qR λx c=>nomatch c|some M=>exact qQ
 all_goals first|exact qQ|exact qR λx c=>nomatch c|exact Fd qQ (qR λx c=>nomatch c)|exact Fd (qR λx c=>nomatch c) qQ|exact Fd (qR λx c=>nomatch c) (qR λx c=>nomatch c)|skip
theorem adB(c:step den r k a E=.halt (.done R) w):through E=W:=by
 obtain⟨Fe,d3,drawn,toks,os⟩:=a;obtain⟨yI,code,ak,stack⟩:=E;by_cases e:∃R,yI=.pure (.done R)
 .obtain⟨R,rfl⟩:=e;cases stack with
  |nil=>rfl|cons fr b_=>cases fr<;>cases c
 .exact absurd c<|adA yI (λR j=>e ⟨R,j⟩) _ _
theorem SE:∀{s:Nat}{a w:ai}{E:Thread}{R:gn},runN den r k s a E=.halted (.done R) w->(∀p an hB,runN den r k p a E=.running an hB->hB.calm=W)->a.asleep->∃ae hB,schedN den r k ae (.single a E)=.running (.single w hB)/\through hB=W
 |0,_,_,_,_,c,_,_=>by cases c|s+1,a,w,E,R,c,aO,U=>by have j:=sstep_single den r k a E (aO 0 a E f) U;simp only[runN]at c;cases Q:step den r k a E with
  |go al oc=>
   rw[Q]at c j;refine eU (j) (λj=>?_) λj=>?_
   .exact fM (SE c (λp an hB e=>aO (p+1) an hB (by simp only[runN,Q];exact e))<|HB (step_life den r k a al E oc Q) U) λae hB bw bI=>(tL (ae+1) hB (by simp only[schedN,j,Step.lift];exact bw) bI)
   .cases j|halt alK al=>rw[Q]at c;injection c with ag aF;subst ag aF;obtain rfl:=step_halt_same den r k a al E _ Q;exact(tL 0 E f<|adB Q)
noncomputable def yN:eS->bH|.Assign bC B dw=>B|_=>.Constant .none 0 default
noncomputable def rN:fi:=match KA (yN<|cH az 12)with|some (_,B)=>B|none=>.ho .none
theorem adC:KA (yN<|cH az 12)=A (1729,rN):=by cbv
noncomputable def SF:eS->Pos|.Assign bC dw r=>r|_=>default
theorem adD:cH az 12=.Assign [.Name "ECC" ⟨74,0,74,3⟩] (yN<|cH az 12) (SF<|cH az 12):=by cbv
theorem adE(fF:u.depth+100<fA)(c:KA j=A (s,B))(a:ai)(J:au->ai->Prop)(Q:Sub (eG k) a.heap)(ac:∀w,dS s a w->(∀o:List aw,(∀h∈o,0<=h/\h<a.heap.objs.size)->fm k w.heap o B (.ref a.heap.objs.size))->J (.ref a.heap.objs.size) w):I az k u (dF j<|envOf az) J a:=by exact d9 c λz ag c=>Sv ag λr bW=>l bW<|SC fF (λj s B c=>adk fF c) c a J Q ac
theorem adF(c:s4 a0<=s):Sub a0 (jZ a0 s am):=λi v dq j f5=>(sj (cI (EY _ _ _ j) c) j).trans f5
section
variable{k:ck}{a:ai}
abbrev ij{bk:Type}(k:ck)(C:Ctx)(E:Sem bk)(J:bk->Pos->ai->Prop)(r:Pos)(a:ai):Prop:=jY (cG az k) C E J (λx x x=>False) r a
theorem Ff(c:ij k C E J r a)(p:∀i r a,J i r a->nA i r a):ij k C E nA r a:=mc _ C E p (λx x x h=>h) r a c
theorem pN(c:ij k C E (λi r a=>ij k C (R i) J r a) r a):ij k C (E>>=R) J r a:=by show jY _ _ _ _ _ _ _;exact l (z_ ..) c
theorem SG(c:ij k C (E>>=R) J r a):ij k C E (λi r a=>ij k C (R i) J r a) r a:=by have aa:jY _ _ _ _ _ _ _:=c;rw[z_]at aa;exact aa
theorem adG(c:ij k C E J r a):ij k C (E.onRaise p) J r a:=by show jY _ _ _ _ _ _ _;exact l (NH ..)<|mc _ C E (λx x x h=>h) (λx x x h=>h.elim) r a c
theorem SH(c:kz ⟨az,k.params⟩ gA (tV nk ⟨az,k.params⟩ gA R) C E r h=A (.ok i,bR,j6))(aZ:J i bR<|j6.abs b gA):ij k C E J r (h.abs b gA):=by rw[<-xe]at c;exact Ji (prog:=az) (k:=k) (b:=b) (λC r a D aO=>Jj R C r a D aO) C E J _ r h _ c aZ
noncomputable def BD:Around:={handled:=a7,depth:=400,frames:=a7,guards:=a7,units:=100000}
theorem adH(H:List eS)(j:Env):(Code.body H j).cUnits<=10000:=by show 3*1<=10000;decide
theorem adI:(mv az).In BD:=by
 refine⟨f,?_,λH c=>(d1 c),λt c=>(d1 c),?_⟩
 .show frameCount [(Ae "claim.caller" {},default)]+(Code.body (rh az)<|envOf az).weight<=400;decide+kernel
 .have:=adH (rh az)<|envOf az;have aF:unitsOf [(Ae "claim.caller" {},default)]<=10:=fv;exact p4 ..
theorem adJ(b:ai):ij k (mv az) (SD az) (λR r a=>R=.next/\a=e_.abs b 0 ⟨oj az k.params,139,400⟩) default (e_.abs b 0<|BC k):=SH (adm k) ⟨f,f⟩
theorem adK:sq (mv az).below:=by
 intro h X
 revert h;refine gr ?_ ?_
 .decide+kernel
 .intro h X;exact dI X
theorem adL:∀q,q<139->∃v,(oj az k.params).get q=A v/\h_ v=A v:=by
 have c:(c9 139).all (λq=>match(oj az k.params).get q with|some v=>(h_ v).isSome|none=>a2)=W:=by cbv
 intro q ah;have:=hU.mp c q<|mF.mpr ah;cases j:(oj az k.params).get q with|none=>rw[j]at this;cases this|some v=>rw[j]at this;refine(dk v f ?_);obtain⟨i,b,z,g⟩:=v;cases z<;>first|rfl|exact jj this
theorem KE(v:Obj):∀(E:BT)(s:Nat),(∀q,q<s->(E.get q).isSome=W)->((E.ins s v).get s).isSome=W
 |.nil,s,c=>by cases s with
  |zero=>rfl|succ s=>exact absurd (c 0<|r_ s) (by simp[BT.get])
 |.node B H D,s,c=>by
  refine l (Ai ..) ?_;by_cases ay:s=0
  .refine l ay ?_;rfl
  refine l (if_neg ay) ?_;by_cases a1:s%2=1
  .refine l (if_pos a1)<|l (mJ ..)<|l (if_neg ay)<|l (if_pos a1)<|KE v H _ λq ah=>?_;have:=c (2*q+1) (by exact iO [1,2,1] (.t (.o<|.m 2 .x) .y) [.t .x .z,.l (.m 2 .z) .y] f ah<|pn _ 2);rw[mJ,if_neg (by exact bZ (.ne (.o<|.m 2 .x)<|.n 0) [] f),if_pos<|Da 2 q 1,show(2*q+1)/2=q by exact pm [2,0,1] [2,1,0] (.e .x .y) [.l (.m 2 .x)<|.o<|.m 2 .y,.t (.o<|.m 2 .y)<|.a (.m 2 .x)<|.n 2] f (pn _ 2)<|qh _ 1]at this;exact this
  .refine l (if_neg a1)<|l (mJ ..)<|l (if_neg ay)<|l (if_neg a1)<|KE v D _ λq ah=>?_;have:=c (2*q+2) (by exact ny [1,2,1,2] (.t (.a (.m 2 .x)<|.n 2) .y) [.t .x .z,.l (.m 2 .w) .y,.e (.a .z<|.n 1) .w] f ah (pn _ 2)<|eu<|gv (.l (.n 1) .x) [.t .y .z,.l .z .x] f ah<|hR _ _);rw[mJ,if_neg (by exact bZ (.ne (.a (.m 2 .x)<|.n 2)<|.n 0) [] f),if_neg λe=>absurd ((Da 2 q 2).symm.trans e) aS,show(2*q+2)/2-1=q by exact oJ [2,2,0,1,0] [2,0,1,0,2] (.e .x .y) [.l .z<|.a .x<|.n 1,.l (.m 2 .z)<|.a (.m 2 .y)<|.n 2,.t (.a (.m 2 .y)<|.n 2)<|.a (.m 2 .z)<|.n 2,.e (.a .x<|.n 1) .z] f (fk _ _) (pn _ 2) (qh _ 1)<|eu<|gT [2,1] (.l (.n 1) .x) [.t (.a (.m 2 .y)<|.n 2)<|.a (.m 2 .x)<|.n 2] f<|qh _ 1]at this;exact this
theorem SI:∀(H mw:List Obj)(E:BT),(∀q,q<mw.length->E.get q=mw[q]?)->∀q,q<(mw++H).length->(H.foldl (λ(h:BT×Nat)v=>(h.1.ins h.2 v,h.2+1)) (E,mw.length)).1.get q=(mw++H)[q]?
 |[],mw,E,c,q,ah=>by simpa using c q (by simpa using ah)|v::H,mw,E,c,q,ah=>by
  have Q:((E.ins mw.length v).get mw.length).isSome=W:=KE v E _ λaC c4=>by refine l (c aC c4) ?_;simp[c4]
  have:=SI H (mw++[v]) (E.ins mw.length v) (λaC c4=>by
   refine l (BT.get_ins v E _ Q ..) ?_;by_cases j:aC=mw.length
   .subst j;simp
   .exact l (if_neg j)<|l (c aC (by simp at c4;omega))<|l (z7 (by simp at c4;omega)) f) q (by simpa using ah);simpa using this
theorem KF(H:List Obj)(q:Nat)(ah:q<H.length):(lU H).get q=H[q]?:=by have:=SI H [] .nil (λx c=>nomatch c) q (by simpa using ah);simpa[lU]using this
theorem adM(ay:c.objs.size=s)(aK:∀q,q<s->E.get q=c.objs[q]?):jZ E s c.life=c:=by
 obtain⟨objs,am⟩:=c;refine congrArg (Heap.mk · am)<|Array.ext_getElem? λq=>?_;have:=absHeap_at E s am q;refine this.trans ?_;by_cases ah:q<s
 .refine l (if_pos ah)<|l (aK q ah)<|l (pi (by exact iO [1,-1,1] (.t .x .y) [.e .y .z,.t .x .z] f ay ah)) ?_;rfl
 .exact l (if_neg ah)<|l (Hl (by lia)) f
theorem SJ{c:e0}{q:Nat}{v:Obj}(j:c.get? q=A v):c.objs[q]?=A v:=by
 unfold Heap.get? at j;split at j
 .exact d1 j
 .exact j
theorem SL:(A' az k.params).length=139:=by cbv
theorem adN{b0:List Obj}{b a:ai}(aM:b0.length=139)(j_:∀q,q<139->∃v,(lU b0).get q=A v/\h_ v=A v)(t:dS 1729 (e_.abs b 0 ⟨lU b0,139,400⟩) a):a=e_.abs a a.toks ⟨lU<|b0++(c9 1729).map λq=>(a.heap.objs[139+q]?).getD default,1868,0⟩:=by
 have U:a.heap.objs.size=1868:=by refine l t.2 ?_;show(jZ _ _ _).objs.size+1729=_;exact l (tG ..) f
 have b':jZ (lU<|b0++(c9 1729).map λq=>(a.heap.objs[139+q]?).getD default) 1868 a.heap.life=a.heap:=by
  refine adM U λq ah=>l (KF _ _ (by refine l io<|l aM<|l (gp ..)<|l pg ?_;exact ah))<|eU (pd q 139) (λc=>?_) λc=>?_
  .refine l (z7<|aM▸c)<|bl (j_ q c) λv ag aF=>?_;exact(KF _ _<|aM▸c)▸ag.symm▸(SJ<|t.1.1 q v (λe=>dI e)<|(sj c ag).trans aF).symm
  .refine l (Dg<|aM▸c)<|l aM<|l (fW)<|l (mG (by exact(jt 139<|q).elim (λfh=>c' (.t .x<|.n 1729) [.t .y<|.n 1868,.e (.a .x<|.n 139) .y] f ah<|eu fh) λfh=>c' (.t .x<|.n 1729) [.l .y<|.n 139,.l .x .y] f fh<|hR _ _)) ?_;show A ((a.heap.objs[139+(q-139)]?).getD default)=_;refine l (show 139+(q-139)=q by exact pm [1,1,0] [1,0,1] (.e (.a (.n 139) .x) .y) [.l .y<|.a .x<|.n 139,.e (.a .x<|.n 139) .y] f (fk _ _)<|eu c)<|l (pi (by exact gT [1,-1,1] (.t .x .y) [.e .y<|.n 1868,.t .x<|.n 1868] f U ah)) ?_;rfl
 obtain⟨Fe,d3,drawn,toks,os⟩:=a;show Dx _ _ _ _ _=Dx _ _ _ _ _;refine l b' ?_;rfl
theorem adO{b a:ai}(t:dS 1729 (e_.abs b 0 ⟨oj az k.params,139,400⟩) a):∃mid,a=e_.abs a a.toks ⟨yx az k.params mid,1868,0⟩:=⟨_,adN SL adL t⟩
end
section
variable{k:ck}
theorem adP{y:Nat}:(wc az k.params y).length=139:=by cbv
theorem SM{b0 yP:List Obj}{mid:Nat->Obj}(aM:b0.length=139)(q:Nat)(ag:139<=q)(aF:q<1868):(lU<|b0++((c9 1729).map mid++yP)).get q=A (mid<|q-139):=by refine l (KF _ _ (by simp[aM];exact c' (.t .x<|.a (.n 139)<|.a (.n 1729) .y) [.t .x<|.n 1868] f aF))<|l (Dg (by exact c' (.l .x .y) [.e .x<|.n 139,.l (.n 139) .y] f aM ag))<|l aM<|l (z7 (by simp;exact Nat.sub_lt_left_of_lt_add ag aF))<|l (fW)<|l (mG (by omega)) ?_;rfl
theorem adQ{b0:List Obj}{mid:Nat->Obj}(aM:b0.length=139)(q:Nat)(ag:139<=q)(aF:q<1868):(lU<|b0++(c9 1729).map mid).get q=A (mid<|q-139):=by have:=SM (b0:=b0) (yP:=[]) (mid:=mid) aM q ag aF;simpa using this
noncomputable def yQ:List Addr:=c9 139++(c9 125).map λq=>q+1868
theorem adR{b0 yP ba:List Obj}{mid:Nat->Obj}{B:fi}{g:au}{R Fg:go}(aM:b0.length=139)(bw:ba.length=139)(p:fm k (jZ (lU<|b0++(c9 1729).map mid) 1868 R) (c9 139) B g):fm k (jZ (lU<|ba++((c9 1729).map mid++yP)) 1993 Fg) yQ B g:=by
 refine fm.to (λq v ah j=>⟨?_,?_⟩) _ _ p
 rotate_left
 .have c1:q<1868:=by have:=dH j;rwa[tG]at this
  intro e;refine bD e (λe=>?_) λe=>?_
  .exact ah e
  .refine j2 e λaC x bK=>?_;obtain rfl:=bK;exact b4 c1<|p4 _ _
 have c1:q<1868:=by have:=dH j;rwa[tG]at this
 have ib:139<=q:=eU (pd q 139) (λe=>absurd (mF.mpr e) ah) λe=>e;exact(sj (life:=Fg) (n:=1993) (cI c1 aS)<|SM (yP:=yP) (mid:=mid) bw q ib c1).symm▸(sj (life:=R) c1<|adQ (mid:=mid) aM q ib c1)▸j.symm▸f
theorem adS{mid:Nat->Obj}{y:Nat}{R Fg:go}{B:fi}(p:fm k (jZ (yx az k.params mid) 1868 R) (c9 139) B<|.ref 139):fm k (jZ (kB az k.params mid y) 1993 Fg) yQ B (.ref 139):=adR SL adP p
noncomputable def k4(k:ck)(z:Drawn)(os:nn):Shared:=⟨oH k.params,#[],z,boot_toks,os⟩
theorem adT(z:Drawn)(os:nn):e_.abs (k4 k z os) 0 (yG k.params)=k4 k z os:=by show Dx _ _ _ _ _=Dx _ _ _ _ _;refine l (show(k4 k z os).heap.life=(oH k.params).life from f)<|l (boot_abs ..)<|l (zQ ..) ?_;rfl
theorem adU(c:s4 a0=s)(b:ai)(p:Nat):Sub a0 (e_.abs b 0 ⟨a0,s,p⟩).heap:=adF<|oD c
theorem adV:BD.depth+100<recursionLimit:=by decide+kernel
theorem adW:xW (yN<|cH az 12)=W:=by cbv
inductive l0(k:ck)(os:nn)(a:ai):Prop|mk(fQ:∃a0,(∃mid y,a0=kB az k.params mid y)/\a.heap=jZ a0 1993 a.heap.life)(fR:a.gens=#[])(gs:a.os=os)(i7:fm k a.heap yQ rN<|.ref 139):l0 k os a
theorem Fh:(e_.abs b gA ⟨a0,s,p⟩).heap=jZ a0 s b.heap.life:=rfl
noncomputable def KG(r:cL):Sem Flow:=do
 o' (envOf r) "ECC"<|.ref 139
 dG (r.main.body.drop 13)<|envOf r
theorem KH(c:ii k.params y E D a0 s p e uq j8 fG c0)(aZ:J D c0<|e_.abs b y ⟨uq,j8,fG⟩):ij k (mv az) E J e (e_.abs b y ⟨a0,s,p⟩):=SH c aZ
theorem SN(c:ii k.params y (dG ly m) .next a0 s p e uq j8 fG c0)(aZ:ij k (mv az) (dG lY m) J c0<|e_.abs b y ⟨uq,j8,fG⟩):ij k (mv az) (dG (ly++lY) m) J e (e_.abs b y ⟨a0,s,p⟩):=KD m ly lY▸pN (KH c aZ)
theorem adX(H:List eS):H.drop 13=(H.drop 13).take 2++((H.drop 15).take 1++H.drop 16):=(va 2 _).symm.trans<|congrArg _<|Hb.trans<|(va 1 _).symm.trans<|congrArg _ Hb
theorem adY(r:cL):KG r=(do o' (envOf r) "ECC"<|.ref 139;dG (Fa r++(Fb r++Fc r))<|envOf r):=by unfold KG;refine l (adX ..) ?_;rfl
theorem ad0{os:nn}{e dd ee i':Pos}{KI SO SP j1 BE:BT}{Fi Fj Fk:List eS}{m:Env}{bf:Sem Unit}(aK:a.gens=#[])(aJ:a.os=os)(j:a=e_.abs a a.toks ⟨KI,1868,0⟩)(ad1:ii k.params a.toks bf () KI 1868 0 e SO 1868 1 e)(ad4:ii k.params a.toks (dG Fi m) .next SO 1868 1 e SP 1889 576 dd)(ad6:ii k.params a.toks (dG Fj m) .next SP 1889 576 dd j1 1891 833 ee)(ad7:ii k.params a.toks (dG Fk m) .next j1 1891 833 ee BE 1993 982 i')(cz:∃mid y,BE=kB az k.params mid y)(a8:∀B:fi,fm k (jZ KI 1868 a.heap.life) (c9 139) B (.ref 139)->fm k (jZ BE 1993 a.heap.life) yQ B (.ref 139))(p:fm k a.heap (c9 139) rN<|.ref 139):ij k (mv az) (bf>>=λx=>dG (Fi++(Fj++Fk)) m) (λR x w=>R=.next/\l0 k os w) e a:=by generalize aL:rN=B at p;have gN:l0 k os (e_.abs a a.toks ⟨BE,1993,982⟩):=⟨⟨BE,cz,by refine l Fh ?_;rfl⟩,aK,aJ,Fh▸aL▸a8 B (((congrArg Shared.heap j).trans Fh)▸p)⟩;have c:=pN (R:=λx=>dG (Fi++(Fj++Fk)) m)<|KH (b:=a) (J:=λx r a=>ij k (mv az) (dG (Fi++(Fj++Fk)) m) (λR x w=>R=.next/\l0 k os w) r a) ad1<|SN ad4<|SN ad6<|KH ad7 ⟨f,gN⟩;rw[<-j]at c;exact c
theorem ad8{os:nn}{e:Pos}{b:ai}(aK:b.gens=#[])(aJ:b.os=os)(t:dS 1729 (e_.abs b 0 ⟨oj az k.params,139,400⟩) a)(p:fm k a.heap (c9 139) rN<|.ref 139):ij k (mv az) (KG az) (λR x w=>R=.next/\l0 k os w) e a:=by exact cJ (adO t) λmid j=>adY az▸ad0 (t.3.trans aK) (t.1.6.trans aJ) j (adv k mid a.toks e) (adw k mid a.toks e) (adx k mid a.toks) (runC k mid a.toks) (mf mid a.toks f) (λB=>adS) p
end
theorem ad9{os:nn}{e r:Pos}{a0:BT}{b:ai}{j:bH}{b_:List eS}{B:fi}{m:Env}{C:Ctx}(aO:xW j=W)(br:∀(a:ai)(J:au->ai->Prop),Sub a0 a.heap->(∀w,dS 1729 a w->(∀o:List aw,(∀h∈o,0<=h/\h<a.heap.objs.size)->fm k w.heap o B (.ref a.heap.objs.size))->J (.ref a.heap.objs.size) w)->I az k BD (dF j m) J a)(b7:C.In BD)(b':rk C.code=a2)(pt:sq C.below)(aM:s4 a0=139)(ad_:∀a,dS 1729 (e_.abs b 0 ⟨a0,139,400⟩) a->fm k a.heap (c9 139) B (.ref 139)->ij k C (do o' m "ECC"<|.ref 139;dG b_ m) (λR x w=>R=.next/\l0 k os w) ⟨74,0,74,3⟩ a):ij k C (dG (.Assign [.Name "ECC" ⟨74,0,74,3⟩] j r::b_) m) (λR x w=>R=.next/\l0 k os w) e (e_.abs b 0 ⟨a0,139,400⟩):=by
 refine l (pa ..)<|l (CZ (hs:=tT aO))<|pN<|pN<|pN ?_;have U:(e_.abs b 0 ⟨a0,139,400⟩).heap.objs.size=139:=l Fh<|tG ..;refine mc _ _ _ (λg r w c=>?_) (λx x x c=>c) _ _<|br _ (λg w=>g=.ref 139/\dS 1729 (e_.abs b 0 ⟨a0,139,400⟩) w/\fm k w.heap (c9 139) B (.ref 139)) (adU aM b 400) (λw t p=>?_) C _ b7 b' pt
 .refine eV c λbK t p=>?_;obtain rfl:=bK;exact pN<|pN<|Ff (SG<|ad_ w t p) λx bR ek c=>c
 .exact⟨f,t,p _ λh X=>⟨hf _,mF.mp X⟩⟩
theorem ad':rk (mv az).code=a2:=by cbv
theorem aea(a:ai)(J:au->ai->Prop)(Q:Sub (oj az k.params) a.heap)(ac:∀w,dS 1729 a w->(∀o:List aw,(∀h∈o,0<=h/\h<a.heap.objs.size)->fm k w.heap o rN (.ref a.heap.objs.size))->J (.ref a.heap.objs.size) w):I az k BD (dF (yN<|cH az 12)<|envOf az) J a:=adE adV adC a J Q ac
theorem aeb{os:nn}{e:Pos}{b:ai}{st:eS}{b_:List eS}(gG:st=.Assign [.Name "ECC" ⟨74,0,74,3⟩] (yN<|cH az 12) (SF<|cH az 12))(aB:b_=az.main.body.drop 13)(aK:b.gens=#[])(aJ:b.os=os):ij k (mv az) (dG (st::b_)<|envOf az) (λR x w=>R=.next/\l0 k os w) e (e_.abs b 0 ⟨oj az k.params,139,400⟩):=by exact l gG<|ad9 (a0:=oj az k.params) (B:=rN) (m:=envOf az) (C:=mv az) adW aea adI ad' adK (R_ k) λa t p=>l aB<|ad8 aK aJ t p
theorem aec{os:nn}{b:ai}{a0:BT}{ly lY H:List eS}{m:Env}{C:Ctx}{Fl Fm:e_}{mw:Sem<|au×aw}{R:au×aw->iI}(n:e_.abs b 0 Fl=b)(BF:kz ⟨az,k.params⟩ 0 (λx x x=>a7) rM mw default Fl=A (.ok (.ref 13,14),default,Fm))(be:R (.ref 13,14)=.body H m)(b7:C=rM.enter (.body H m) a7 default)(aed:ij k C (do zJ H m;dG ly m) (λR x a=>R=.next/\a=e_.abs b 0 ⟨a0,139,400⟩) default<|e_.abs b 0 Fm)(aM:H=ly++lY)(BG:∀e,ij k C (dG lY m) (λR x w=>R=.next/\l0 k os w) e<|e_.abs b 0 ⟨a0,139,400⟩):ij k rM (mw>>=λaT=>(run (R aT)>>=λx=>ret .none)) (λhi x w=>hi=.done (.ret .none)/\l0 k os w) default b:=by
 refine pN ?_;have Q:=λJ aN=>Ji (prog:=az) (k:=k) (b:=b) (gA:=0) (eL:=λx x x=>a7) (λC r a D aO=>nomatch aO) rM mw J aN default Fl _ BF;replace Q:=n▸Q;refine Q _ _ ?_
 dsimp only[QF];refine be.symm▸pN ?_;show jY _ _ (run _) _ _ _ _;refine l (Sem.wp_run ..)<|gq (CK ..)<|c2 b7 ?_;have aee:(cG az k).den C.code=(do zJ H m;let R<-(dG H m).onRaise<|leaving m;dC<|Dt R):=by refine l b7 ?_;rfl
 refine aee.symm▸?_;have cV:ij k C (do zJ H m;let R<-(dG H m).onRaise<|leaving m;dC<|Dt R) (λhi x w=>hi=.done .next/\l0 k os w) default (e_.abs b 0 Fm):=by refine pN<|Ff (SG aed) λx r w c=>pN<|adG<|l aM<|l (KD ..)<|pN<|Ff c λR bR ek aa=>?_;obtain⟨rfl,rfl⟩:=aa;exact Ff (BG bR) λR Qf alL t3=>⟨congrArg Dt t3.1,t3.2⟩
 refine mc _ _ _ (λhi r a c=>?_) (λx x x c=>c.elim) _ _ cV;obtain⟨rfl,c⟩:=c;exact⟨f,c⟩
theorem aef(z:Drawn)(os:nn)(e:Pos):ij k (mv az) (dG (cH az 12::az.main.body.drop 13)<|envOf az) (λR x w=>R=.next/\l0 k os w) e (e_.abs (k4 k z os) 0 ⟨oj az k.params,139,400⟩):=aeb (b:=k4 k z os) adD f f f
noncomputable def SQ(aT:au×aw):Code:=.body (rh az) {scope:=az.main.scope,locals:=ma,globals:=ma,cells:=[],code:=aT.1,frame:=A aT.2}
theorem aeg:SQ (.ref 13,14)=.body (rh az) (envOf az):=rfl
theorem aeh(z:Drawn)(os:nn):ij k (mv az) (do zJ (rh az)<|envOf az;dG (az.main.body.take 12)<|envOf az) (λR x a=>R=.next/\a=e_.abs (k4 k z os) 0 ⟨oj az k.params,139,400⟩) default (e_.abs (k4 k z os) 0<|BC k):=adJ (k:=k)<|k4 k z os
theorem aei(z:Drawn)(os:nn):ij k rM (xy az).cur (λhi x w=>hi=.done (.ret .none)/\l0 k os w) default (k4 k z os):=ady▸aec (os:=os) (b:=k4 k z os) (a0:=oj az k.params) (ly:=az.main.body.take 12) (lY:=cH az 12::az.main.body.drop 13) (H:=rh az) (m:=envOf az) (C:=mv az) (Fl:=yG k.params) (Fm:=BC k) (mw:=BB az) (R:=SQ) (adT z os) (adl k) aeg f (aeh z os) adz (aef z os)
theorem aej:opening az=plainProg az.main.scope.names:=by cbv
theorem SR(a:ai):fenceModules? az a=A a:=by cbv
theorem aek(k:ck):(fencedOpening nk az k 600).map (λa=>(a.heap,a.gens,a.drawn,a.toks))=A (oH k.params,Array.mk [],pj,boot_toks):=boot_open (N:=600) aej (by cbv) SR k
theorem ael(k:ck):∃os,(k4 k pj os).asleep/\AfterRun (opening az) k (k4 k pj os)/\∀a,AfterRun (opening az) k a->a=k4 k pj os:=by
 refine gc λx dA=>n4 (aek k) λb1 ag aF=>bl (MX.mp ag) λa cn eC=>?_;cases eC;refine dA ?_;rw[<-xe]at cn;have u:=AfterImport.of_importEnds cn;have j:b1=k4 k pj b1.os:=by refine gc λx dA=>?_;obtain⟨Fe,d3,drawn,toks,os⟩:=b1;simp only[p5]at aF;obtain⟨bW,cR,f3,jL⟩:=aF;subst bW cR f3 jL;refine dA ?_;rfl
 exact(p9 b1.os (j▸u.life) (j▸u) λw dB=>(AfterImport.unique dB u).trans j)
theorem aem(k:ck)(os:nn)(U:(k4 k pj os).asleep):∃an,l0 k os an/\(∃s E,schedN (tn table) az k s (.single (k4 k pj os)<|xy az)=.running (.single an E)/\through E=W)/\an.heap.life=(oH k.params).life:=by refine iM ((wp_iff_halts (M:=cG az k) (c:=.builtin "claim.caller" {}) (xy az).cur (λD w=>D=.ok (.ret .none)/\l0 k os w) default<|k4 k pj os).mp (mc _ _ _ (λhi r w aa=>by obtain⟨rfl,gN⟩:=aa;exact⟨⟨f,gN⟩,l gN.2 (by cbv)⟩) (λx x x aa=>aa.elim) default _<|aei (k:=k) pj os)) λs D w ay b8 gN=>?_;obtain rfl:=b8;refine gc λx dA=>eW (runNI_real (den:=(cG az k).den) (prog:=az) (w:=k) ay f) λek aB be aO=>?_;obtain rfl:ek=w:=Shared.eq_of_forget_eq be gN.2;exact fM (SE aB aO U) λae hB bw bI=>dA<|p9 ek gN (tL ae hB bw bI)<|runN_life _ _ _ aB
noncomputable abbrev nO(L:cy)(mid:Nat->Obj)(y:Nat)(am:go):Heap:=jZ (kB az L mid y) 1993 am
theorem aen(L:cy)(mid:Nat->Obj)(y:Nat):(c9 11).map (λb=>bif b==ma||b==p1 then a7 else(kB az L mid y).get b)=(c9 11).map (λb=>bif b==ma||b==p1 then a7 else(oH L).objs[b]?):=by cbv
theorem aeo(L:cy)(mid:Nat->Obj)(y:Nat)(am:go):(nO L mid y am).accountedOkI (importedModules az.main.body)=W:=by cbv
theorem aep(L:cy)(mid:Nat->Obj)(y:Nat)(am:go):staticsOk (importedModules az.main.body) (oH L) (nO L mid y am)=W:=by cbv
theorem BH(L:cy)(mid:Nat->Obj)(y:Nat)(am:go):(nO L mid y am).isNs mainGlobals=W:=by cbv
theorem KJ(L:cy)(mid:Nat->Obj)(y:Nat)(am:go):(nO L mid y am).isNs builtinsNs=W:=by cbv
theorem aeq(L:cy)(mid:Nat->Obj)(y:Nat)(am:go):(nO L mid y am).bltView=bltViewBooted:=by cbv
theorem aer(L:cy)(mid:Nat->Obj)(y:Nat)(am:go):namesBound az (nO L mid y am)=W:=by cbv
theorem aes(L:cy)(mid:Nat->Obj)(y:Nat)(am:go):laidKept (oH L) (nO L mid y am)=W:=by cbv
theorem aet(L:cy)(mid:Nat->Obj)(y:Nat)(am:go):(nO L mid y am).bmainOk=W:=by cbv
section
noncomputable def om:Obj:={cls:=.none,data:=.freed}
@[irreducible]noncomputable def es(L:cy)(y:Nat):BT:=((kB az L (λx=>om) y).set 1892 λv=>{v with data:=.freed}).set 1940 λv=>{v with data:=.freed}
@[irreducible]noncomputable def pO(L:cy)(mid:Nat->Obj)(y:Nat)(am:go):Heap:=jZ (kB az L mid y) 1993 am
@[reducible]noncomputable def aT(k:ck)(ap:ai)(mid:Nat->Obj)(y:Nat)(am:go):d7:={prog:=az,w:=k,s0:=ap,tabs:=[1892,1940],mg:=(pO k.params mid y am).nsMap 3,mb:=(pO k.params mid y am).nsMap 0}
end
inductive dg(k:ck)(ap:ai)(mid:Nat->Obj)(y:Nat)(am:go):Prop|mk(fQ:∀b v,(pO k.params mid y am).get? b=A v->ap.heap.get? b=A v)(fR:1993<=ap.heap.objs.size)(gs:fm k ap.heap yQ rN<|.ref 139):dg k ap mid y am
theorem BI(L:cy)(mid:Nat->Obj)(y:Nat)(am:go):pO L mid y am=nO L mid y am:=by unfold pO;rfl
inductive qS:BT->BT->Prop|nil:qS .nil .nil|node{B hz:Obj}{H D qT gw:BT}:(B=hz\/h_ hz=a7)->qS H qT->qS D gw->qS (.node B H D) (.node hz qT gw)
theorem aev(c:h=j6\/h_ j6=a7)(e:qS E eM):∀q:Nat,qS (E.ins q h) (eM.ins q j6):=by induction e with
 |nil=>exact λq=>.node c .nil .nil|node i b g KL KM=>
  intro q;refine l (Ai ..)<|l (Ai ..) ?_;split
  .exact .node c b g
  .split
   .exact .node i (KL _) g
   .exact .node i b<|KM _
set_option tactic.hygienic true in theorem aew(aX:h_ v=A dq)(e:qS E eM):∀q:Nat,eM.get q=A v->E.get q=A v:=by induction e with
 |nil=>intro q j;exact d1 j|node i b g KL KM=>
  intro q j;rw[mJ]at j⊢;split
  .rename_i e;replace j:=(if_pos e)▸j;cases j;rcases i with rfl|i
   .rfl
   .rw[aX]at i;exact DQ i
  .rename_i e;replace j:=(if_neg e)▸j;split
   .rename_i c0;replace j:=(if_pos c0)▸j;exact KL _ j
   .rename_i c0;replace j:=(if_neg c0)▸j;exact KM _ j
theorem SS:∀{H qT:List Obj}(E eM:BT)(s:Nat),sa H=qT.length->(∀(q:Nat)h j6,H[q]?=A h->qT[q]?=A j6->h=j6\/h_ j6=a7)->qS E eM->qS (H.foldl (λ(h:BT×Nat)v=>(h.1.ins h.2 v,h.2+1)) (E,s)).1 (qT.foldl (λ(h:BT×Nat)v=>(h.1.ins h.2 v,h.2+1)) (eM,s)).1|[],[],E,eM,s,bC,dw,c=>c|h::H,[],E,eM,s,e,bC,c=>by cases e|[],h::H,E,eM,s,e,bC,c=>by cases e|h::H,j6::qT,E,eM,s,e,X,c=>SS _ _ (s+1) (by simpa using e) (λq M KN j cg=>X (q+1) M KN j cg)<|aev (X 0 h j6 f f) c s
theorem aex(tY BJ:List Obj)(mid:Nat->Obj):qS (lU<|tY++((c9 1729).map mid++BJ)) (lU<|tY++((c9 1729).map (λx=>om)++BJ)):=by
 refine SS _ _ 0 (by simp) (λq h j6 j cg=>eU (pd q tY.length) (λc=>?_) λc=>?_) .nil
 .rw[z7 c]at j cg;replace cg:=j▸cg;cases cg;exact .inl f
 .rw[Dg c]at j cg;refine eU (pd (q-tY.length) 1729) (λaF=>?_) λaF=>?_
  .rw[z7 (by simpa using aF),fW,mG aF]at cg;cases cg;exact .inr f
  .rw[Dg<|aF]at j cg;simp only[gp]at j cg;replace cg:=j▸cg;cases cg;exact .inl f
theorem aey(L:cy)(mid:Nat->Obj)(y:Nat):qS (kB az L mid y) (kB az L (λx=>om) y):=by unfold kB;exact aex (wc az L y) (wd az L y) mid
set_option tactic.hygienic true in theorem qU(c:(es L y).get i=A v)(aX:h_ v=A dq):i≠1892/\i≠1940/\(kB az L mid y).get i=A v:=by
 unfold es at c;rw[BT.get_set]at c;have cV:∀h:Option Obj,(h.map λv:Obj=>{v with data:=.freed})=A v->False:=by intro h X;refine n4 X λM x bK=>?_;obtain rfl:=bK;exact d1 aX
 split at c
 .exact(cV _ c).elim
 .rename_i ag;rw[BT.get_set]at c;split at c
  .exact(cV _ c).elim
  .rename_i aF;exact⟨aF,ag,aew aX (aey L mid y) i c⟩
theorem KO(h:Obj):∀(E:BT)(q aC:Nat)(v:Obj),(E.ins q h).get aC=A v->aC<=q\/∃dq,E.get aC=A dq
 |.nil,q,aC,v,c=>by
  have aa:(BT.node h .nil .nil).get aC=A v:=c;rw[mJ]at aa;split at aa
  .exact .inl (by lia)
  .split at aa<;>exact d1 aa|.node B H D,q,aC,v,c=>by
  rw[Ai]at c;refine l (mJ ..) ?_;by_cases c4:aC=0
  .exact .inl<|c' (.l .x .y) [.e .x<|.n 0] f c4
  .refine l (if_neg c4) ?_;by_cases ah:q=0
   .rw[if_pos ah,mJ,if_neg c4]at c;exact .inr ⟨v,c⟩
   .rw[if_neg ah]at c;by_cases Fn:q%2=1
    .rw[if_pos Fn,mJ,if_neg c4]at c;by_cases yR:aC%2=1
     .rw[if_pos yR]at c⊢;exact eU (KO h H (q/2) (aC/2) v c) (λe=>.inl<|qe [1,-1,2,1,1] (.l .x .y) [.e .z<|.n 1,.l .w .u,.e (.a (.m 2 .u) .z) .y,.t .x<|.a (.m 2 .w)<|.n 2] f Fn e (WM _ 2)<|qh _ 1) λe=>.inr e
     .rw[if_neg yR]at c⊢;exact .inr ⟨v,c⟩
    .rw[if_neg Fn,mJ,if_neg c4]at c;by_cases yR:aC%2=1
     .rw[if_pos yR]at c⊢;exact .inr ⟨v,c⟩
     .rw[if_neg yR]at c⊢;have px:=(zR q).resolve_right Fn;have v7:=(zR aC).resolve_right yR;have J6:1<=q/2:=Nat.one_le_iff_ne_zero.mpr λG=>ah<|c2 (tx q 2)<|l px<|l G f;exact eU (KO h D (q/2-1) (aC/2-1) v c) (λe=>.inl<|c2 (tx aC 2)<|l v7<|a' (zS 2<|a' (GR.mp e)<|oD<|M8 J6)<|M9 q 2) λe=>.inr e
theorem SU:∀(H:List Obj)(E:BT)(s:Nat),(∀aC v,E.get aC=A v->aC<s)->∀aC v,(H.foldl (λ(h:BT×Nat)v=>(h.1.ins h.2 v,h.2+1)) (E,s)).1.get aC=A v->aC<s+H.length|[],E,s,c,aC,v,j=>c aC v j|h::H,E,s,c,aC,v,j=>by have:=SU H (E.ins s h) (s+1) (λaC v j=>(KO h E s aC v j).elim (λe=>by exact c' (.t .x<|.o .y) [.l .x .y] f e) λe=>cJ e λdq e=>pe<|c aC dq e) aC v j;exact l jX<|gv (.t .x<|.a .y<|.o .z) [.t .x<|.a (.o .y) .z] f this
theorem s7(c:(kB az L mid y).get i=A v):i<1993:=by
 have j:(wc az L y++((c9 1729).map mid++wd az L y)).length=1993:=by refine l io<|l io<|l (gp ..)<|l pg ?_;cbv
 have:=SU _ .nil 0 (λaC v j=>d1 j) i v c;rw[j]at this;exact this
theorem dg.sub(c:dg k ap mid y am)(b:fp (aT k ap mid y am) a):Sub (es k.params y) a.heap:=λi v dq j f5=>by exact eV (qU (mid:=mid) j f5) λag aF bb=>b.1.1 _ _ (by simp[ag,aF])<|c.1 _ _<|l (BI ..)<|c2 f5<|sj (s7 bb) bb
theorem Fo(c:dg k ap mid y am):Sub (kB az k.params mid y) ap.heap:=λi v dq j f5=>c.1 _ _ (by refine l (BI ..)<|c2 f5 ?_;exact sj (s7 j) j)
theorem SV{c:e0}{k:ck}(Q:Sub (es k.params y) c):c.NoLimit:=⟨λx=>a7,⟨Er az k.params,#[],0,Bv (v:=Er az k.params) Q (by cbv) f,f,λj br=>by simp at br,λx=>f⟩,f⟩
theorem aez:(pO L mid y am).Ns 3 ((pO L mid y am).nsMap 3):=by refine l (BI ..) ?_;exact HC<|BH ..
theorem aeA:(pO L mid y am).Ns 0 ((pO L mid y am).nsMap 0):=by refine l (BI ..) ?_;exact HC<|KJ ..
theorem kE:E∈(aT k ap mid y am).tabs↔E=1892\/E=1940:=by simp
theorem SW(c:dg k ap mid y am):ap.heap.Ns 3 ((pO k.params mid y am).nsMap 3):=Ot (aez (L:=k.params) (mid:=mid) (y:=y) (am:=am)) λv j=>c.1 _ _ j
theorem aeB(c:dg k ap mid y am):ap.heap.Ns 0 ((pO k.params mid y am).nsMap 0):=Ot (aeA (L:=k.params) (mid:=mid) (y:=y) (am:=am)) λv j=>c.1 _ _ j
theorem Fp(c:dg k ap mid y am)(a:ai)(b:fp (aT k ap mid y am) a):a.heap.NoLimit:=SV (y:=y) (k:=k)<|c.sub b
theorem k5(s:aw)(ay:s≠1892/\s≠1940):s∉(aT k ap mid y am).tabs:=λe=>(kE.mp e).elim ay.1 ay.2
theorem aeC(c:dg k ap mid y am):∀E∈(aT k ap mid y am).tabs,E<ap.heap.objs.size:=λE bI=>by rcases kE.mp bI with rfl|rfl<;>exact cI aS c.2
theorem ik(c:dg k ap mid y am):(aT k ap mid y am).Ok:=@d7.Ok.mk (aT k ap mid y am) (by dsimp only[aT];exact SW c) (by dsimp only[aT];exact aeB c) (Fp c) (k5 3 aS) (k5 0 aS)<|aeC c
noncomputable def m9(z:Option aw)(h M G:Int)(f0 f1 fT:Tok)(p:Nat):Obj:={cls:=.ref 135,dict:=z,data:=.seq #[.int h f0,.int M f1,.int G fT] p}
noncomputable def iD(y:Nat):ck->BT:=λk=>es k.params y
noncomputable def ur:List Nat:=[1,0,0,0,0,0,0,1,0,1,0,0,0,0,0,0,0,0,0,0,0,0,0,0,2,2,2,2,2,2,2,0,0,0,0,2,1,0,0,0,0,0,0,2,2,0,0,0,0,0,0,0,0,0,0,0,0,1,0,1]
theorem aeD(i s t p:Nat)(z:Option aw)(h M G:Int)(f0 f1 fT:Tok)(y:Nat):rF 30 (iD y) s t (oC (.ref i) "num_total" W) (λE=>⟨[(i,m9 z h M G f0 f1 fT p)],0,E,ur,[],[]⟩) (.int M f1) (λG=>(G.gs,G.objs.head?,G.objs.tail.map (·.1))) (λx=>([],A (i,m9 z h M G f0 f1 fT p),[s])):=λb k E=>by cases b<;>cbv
theorem SX(i s t p:Nat)(z:Option aw)(h M G:Int)(f0 f1 fT:Tok)(y:Nat):rF 30 (iD y) s t (oC (.ref i) "num_data" W) (λE=>⟨[(i,m9 z h M G f0 f1 fT p)],0,E,ur,[],[]⟩) (.int G fT) (λG=>(G.gs,G.objs.head?,G.objs.tail.map (·.1))) (λx=>([],A (i,m9 z h M G f0 f1 fT p),[s])):=λb k E=>by cases b<;>cbv
theorem aeE(i s t p:Nat)(z:Option aw)(h M G:Int)(f0 f1 fT:Tok)(y:Nat):rF 30 (iD y) s t (oC (.ref i) "num_blocks" W) (λE=>⟨[(i,m9 z h M G f0 f1 fT p)],0,E,ur,[],[]⟩) (.int h f0) (λG=>(G.gs,G.objs.head?,G.objs.tail.map (·.1))) (λx=>([],A (i,m9 z h M G f0 f1 fT p),[s])):=λb k E=>by cases b<;>cbv
noncomputable def qV(s:Nat)(v:Obj):Bool:=match v.cls with|.ref i=>!(C' i s)|_=>W
theorem KP{nP:Obj->Prop}{h:Obj}(X:nP h):∀(E:BT),(∀aC v,E.get aC=A v->nP v)->∀(q aC:Nat)(v:Obj),(E.ins q h).get aC=A v->nP v
 |.nil,bC,q,aC,v,c=>by
  have aa:(BT.node h .nil .nil).get aC=A v:=c;rw[mJ]at aa;split at aa
  .cases aa;exact X
  .split at aa<;>exact d1 aa|.node B H D,bI,q,aC,v,c=>by
  have aM:∀aC v,H.get aC=A v->nP v:=λaC v j=>bI (2*aC+1) v (by refine l (mJ ..)<|l (if_neg (by exact bZ (.ne (.o<|.m 2 .x)<|.n 0) [] f))<|l (if_pos<|Da 2 aC 1)<|l (show(2*aC+1)/2=aC by exact pm [2,0,1] [2,1,0] (.e .x .y) [.l (.m 2 .x)<|.o<|.m 2 .y,.t (.o<|.m 2 .y)<|.a (.m 2 .x)<|.n 2] f (pn _ 2)<|qh _ 1) ?_;exact j);have aB:∀aC v,D.get aC=A v->nP v:=λaC v j=>bI (2*aC+2) v (by refine l (mJ ..)<|l (if_neg (by exact bZ (.ne (.a (.m 2 .x)<|.n 2)<|.n 0) [] f))<|l (if_neg λe=>absurd ((Da 2 aC 2).symm.trans e) aS)<|l (show(2*aC+2)/2-1=aC by exact oJ [2,2,0,1,0] [2,0,1,0,2] (.e .x .y) [.l .z<|.a .x<|.n 1,.l (.m 2 .z)<|.a (.m 2 .y)<|.n 2,.t (.a (.m 2 .y)<|.n 2)<|.a (.m 2 .z)<|.n 2,.e (.a .x<|.n 1) .z] f (fk _ _) (pn _ 2) (qh _ 1)<|eu<|gT [2,1] (.l (.n 1) .x) [.t (.a (.m 2 .y)<|.n 2)<|.a (.m 2 .x)<|.n 2] f<|qh _ 1) ?_;exact j);have aL:nP B:=bI 0 B (by exact l (mJ ..)<|l (if_pos f) f);rw[Ai]at c;have cV:∀(hz:Obj)(qT gw:BT),nP hz->(∀aC v,qT.get aC=A v->nP v)->(∀aC v,gw.get aC=A v->nP v)->(BT.node hz qT gw).get aC=A v->nP v:=by
   intro hz qT gw i b g j;rw[mJ]at j;split at j
   .cases j;exact i
   .split at j
    .exact b _ _ j
    .exact g _ _ j
  split at c
  .exact cV h H D X aM aB c
  .split at c
   .exact cV B _ D aL (KP X H aM _) aB c
   .exact cV B H _ aL aM (KP X D aB _) c
theorem SY{nP:Obj->Prop}:∀(H:List Obj)(E:BT)(s:Nat),(∀aC v,E.get aC=A v->nP v)->(∀v∈H,nP v)->∀aC v,(H.foldl (λ(h:BT×Nat)v=>(h.1.ins h.2 v,h.2+1)) (E,s)).1.get aC=A v->nP v|[],E,s,c,bC,aC,v,j=>c aC v j|h::H,E,s,c,aM,aC,v,j=>SY H (E.ins s h) (s+1) (λaC v j=>KP (aM h bm) E c s aC v j) (λv aJ=>aM v<|mt aJ) aC v j
theorem aeF(L:cy)(y:Nat):(wc az L y).all (qV 135)=W:=by cbv
theorem aeG(L:cy)(y:Nat):(wd az L y).all (qV 135)=W:=by cbv
theorem aeH(L:cy)(y:Nat):(wc az L y).all (qV 1963)=W:=by cbv
theorem aeI(L:cy)(y:Nat):(wd az L y).all (qV 1963)=W:=by cbv
theorem aeK(s:Nat)(tY BJ:List Obj)(aX:tY.all (qV s)=W)(n:BJ.all (qV s)=W)(i:Nat)(v:Obj)(c:(lU<|tY++((c9 1729).map (λx=>om)++BJ)).get i=A v):qV s v=W:=by
 refine SY (nP:=λv=>qV s v=W) _ .nil 0 (λaC v j=>by exact d1 j) (λv aJ=>bD aJ (λe=>?_) λe=>?_) i v c
 .exact hU.mp aX v e
 .refine bD e (λe=>?_) λe=>?_
  .refine j2 e λx x bK=>c2 bK ?_;rfl
  .exact hU.mp n v e
theorem SZ(aX:(wc az L y).all (qV s)=W)(n:(wd az L y).all (qV s)=W):∀(i:Nat)(v dq:Obj),(es L y).get i=A v->h_ v=A dq->dq.cls≠.ref s:=by
 intro i v dq c j_ e;refine eV (qU (mid:=λx=>om) c j_) λag aF bb=>?_;have:=aeK s _ _ aX n i v bb;have j:dq=v:=by obtain⟨g,bF,qK,bt⟩:=v;cases qK<;>first|(cases j_;rfl)|cases j_
 subst j;unfold qV at this;rw[e]at this;simp at this
theorem aeM:∀(i:Nat)(v dq:Obj),(es L y).get i=A v->h_ v=A dq->dq.cls≠.ref 135:=SZ (aeF L y)<|aeG L y
theorem S0:∀(i:Nat)(v dq:Obj),(es L y).get i=A v->h_ v=A dq->dq.cls≠.ref 1963:=SZ (aeH L y)<|aeI L y
theorem Fq(aG:dg k ap mid y am)(c:af (aT k ap mid y am) z T C j .b2<|.ec h M G)(U:∀(i s t p:Nat)(bF:Option aw)(f0 f1 fT:Tok),∃E,rF 30 (iD y) s t (oC (.ref i) attr W) (λE=>⟨[(i,m9 bF h M G f0 f1 fT p)],0,E,ur,[],[]⟩) (.int D E) (λG=>(G.gs,G.objs.head?,G.objs.tail.map (·.1))) λx=>([],A (i,m9 bF h M G f0 f1 fT p),[s]))(n:∀m,tv j attr m (dF j m)=dF j m)(aM:∀kR on,letTemporaryGo j kR on=dC ()):c5 (aT k ap mid y am) z T C (.Attribute j attr ak) D:=n' λu m o O ax Y ar Q P a J r ac=>by
 refine I.eq (l (GF ..)<|l (n ..) f)<|I.bind<|c u m o O ax Y ar Q P a _ r λaU an aI f2=>?_;refine dQ ?_;have BK:bV an.heap o (.ec h M G) aU:=f2;refine Wl BK λi bF f0 f1 fT p b8 aX aK=>l b8<|cJ (U i an.heap.objs.size an.gens.size p bF f0 f1 fT) λE aeN=>?_;have lM:Sub (es k.params y) an.heap:=aG.sub (r.grow aI).2;have KQ:∀v dq,(es k.params y).get i=A v->h_ v=A dq->False:=λv dq j f5=>by have bW:=lM i v dq j f5;rw[aK]at bW;cases bW;exact aeM i v _ j f5 f
 refine d2<|Rc aeN (λc Q=>SV Q) ?_ (e7.start lM (λr a1=>(bc a1).symm▸aK) (by simp) λr a1=>bc a1▸KQ) λep w iE P=>?_
 .have:=ar.2;show u.depth+90<1000;exact c' (.t (.a .x<|.n 90)<|.n 1000) [.l (.a .x .y)<|.n 900] f this
 .simp only[p5]at P;refine eV P λkO h' o3=>?_;have a6:a9 [] [] an w:=iE.same λr a1=>by cases Fs:ep.objs with
   |nil=>rw[Fs]at h';cases h'|cons e H=>
    rw[Fs]at h' o3 a1;cases h'
    revert r;refine gr ?_ ?_
    .exact .inl aK
    .intro r a1;have:r.1∈H.map (·.1):=xq a1;rw[show H.map (·.1)=[an.heap.objs.size]from o3]at this;exact .inr<|oD (bc this).symm
  exact l (aM ..)<|ea<|I.pure<|ac _ w (aI.trans a6) ⟨E,f⟩
theorem S1:(aT k ap mid y am).gl "len"=A (.builtin "len"):=by cbv
theorem wi:(aT k ap mid y am).gl "range"=A (.type "range"):=by cbv
theorem aeO:(aT k ap mid y am).gl "enumerate"=A (.type "enumerate"):=by cbv
theorem S2:(aT k ap mid y am).gl "zip"=A (.type "zip"):=by cbv
theorem S3:(aT k ap mid y am).gl "reversed"=A (.type "reversed"):=by cbv
theorem Ft:(aT k ap mid y am).gl "bytearray"=A (.type "bytearray"):=by cbv
theorem S4:(aT k ap mid y am).gl "list"=A (.type "list"):=by cbv
theorem aeQ:(aT k ap mid y am).gl "map"=A (.type "map"):=by cbv
theorem gl_str:(aT k ap mid y am).gl "str"=A (.type "str"):=by cbv
theorem gl_int:(aT k ap mid y am).gl "int"=A (.type "int"):=by cbv
theorem S5:(aT k ap mid y am).gl "Buffer"=A (.ref 1963):=by cbv
theorem aeR:(aT k ap mid y am).gl "make_final_message"=A (.ref 1895):=by cbv
theorem S6:(aT k ap mid y am).gl "make_blocks"=A (.ref 1900):=by cbv
theorem aeS:(aT k ap mid y am).gl "ECC"=A (.ref 139):=by cbv
theorem aeT:(aT k ap mid y am).gl "GEN_POLY"=A (.ref 1868):=by cbv
theorem aeU:(aT k ap mid y am).gl "GALIOS_LOG"=A (.ref 1888):=by cbv
theorem aeV:(aT k ap mid y am).gl "GALIOS_EXP"=A (.ref 1890):=by cbv
theorem aeW:∃E,(aT k ap mid y am).gl "VERSION_M1"=A (.int (-3) E):=⟨262,by cbv⟩
theorem aeX:∃E,(aT k ap mid y am).gl "VERSION_M3"=A (.int (-1) E):=⟨256,by cbv⟩
theorem us(c:dg k ap mid y am):mQ (aT k ap mid y am):=⟨ik c,S1,wi,aeO,S2⟩
theorem BL:∀(H:List Int)(z:Nat),bX c o (H.map .int)<|lV G z H|[],bC=>by show bX _ _ [] [];exact f|h::H,z=>eH _ _ f (gD _ f)<|BL H<|z+1
theorem aeY(L:cy)(y:Nat):(es L y).get 1888=A (gj "tuple" 0<|lV y 319 k3):=by cbv
theorem aeZ(L:cy)(y:Nat):(es L y).get 1890=A (gj "list" 0<|lV y 576 s3++lV y 576 s3):=by cbv
theorem ae0(L:cy)(y:Nat):(es L y).get 1868=A (fd "dict"<|.dict (wb y 1 qP).toArray 18):=by cbv
theorem ae1(L:cy)(y:Nat):qP.map (λe=>(es L y).get e.2.1)=(Br y 1 qP).map A:=by cbv
theorem ae3(y:Nat):qP.map (λe=>findBy dK.is (wb y 1 qP).toArray<|.int e.1)=qP.map λe=>A (.ref e.2.1):=by cbv
theorem S7{bk d0:Type}{R t:bk->d0}:∀{H:List bk},H.map R=H.map t->∀e∈H,R e=t e|[],bC,dw,c=>dI c|bC::dw,c,e,aZ=>di aZ (λj=>l j (xx c).1)<|S7 (xx c).2 e
theorem S8{y:Nat}{R:Nat->Option Obj}:∀{b0:List<|Int×Nat×List Int}{z:Nat},b0.map (λe=>R e.2.1)=(Br y z b0).map A->∀e∈b0,∃wj,R e.2.1=A (gj "tuple" 0<|lV y wj e.2.2)|[],bC,dw,ic,c=>dI c|bC::dw,z,c,e,aZ=>di aZ (λj=>⟨z+1,l j (xx c).1⟩)<|S8 (xx c).2 e
section
section
variable{z:Nat}{T:dp}{C:cm}{j:bH}{p:dK}{as:List<|dK×fi}{ak dO:Pos}{q:Int}
noncomputable def BM(as:List<|dK×fi)(p:dK):Option fi:=(as.find? λj=>j.1=p).map (·.2)
theorem gk.find:∀{as:List<|dK×fi}{cQ:List<|dK×au},gk k c o as cQ->BM as p=A jM->∃aU,valueAt cQ p=A aU/\fm k c o jM aU
 |[],cQ,bC,j=>d1 j|(fG,B)::as,cQ,D,j=>by
  refine dZ D λaU gw b8 eD eN=>l b8 ?_;unfold BM at j;unfold valueAt;rw[List.find?_cons]at j⊢;by_cases e:fG=p
  .simp only[e,decide_true,r9,xt]at j⊢;subst j;exact(dk aU f eD)
  .simp only[e,decide_false]at j⊢;exact gk.find eN j
def qW(g:d7)(z:Nat)(T:dp)(C:cm)(j:bH)(jM:fi):Prop:=∀(u:ch)(m:Env)(o O ax:List aw)(Y:Nat),eJ z u->m.scope=T->ct g m o O ax Y->co az g.w u [] [] m (bo g m o O Y C) j λa aU=>fm g.w a.heap o jM aU
noncomputable def oo:dK->bd|.none=>.none|.int q=>.int q|.str h=>.str h
theorem ae4(D:bV c o (oo p) aU):dK.is p aU=W:=by cases p with|none=>unfold oo at D;refine l D ?_;rfl|int q=>unfold oo at D;obtain⟨E,rfl⟩:=D;exact beq_self_eq_true q|str h=>unfold oo at D;obtain⟨E,rfl⟩:=D;exact beq_self_eq_true h
theorem qW.item(a1:g.prog=az)(bn:qW g z T C ez<|.rE as)(bG:af g z T C fo .b2<|oo p)(be:BM as p=A jM)(ah:mU fo=W:=by rfl):qW g z T C (.Subscript ez fo ak) jM:=λu m o O ax Y ar Q P=>by have aF:=bG u m o O ax Y ar Q P;rw[a1]at aF;refine rs P.ok (bn u m o O ax Y ar Q P) (λa w aU D t=>fm.grow t D) aF λa fC gJ r aO bp=>DC aO λbF cQ dm X S9 aB=>l dm<|bl (gk.find aB be) λaU aL a8=>?_;intro J ac;exact I.of<|sf S9.typeIs slot_dict_getitem.lookup (wpAny_getItem_of (ae4 bp) S9.mapOf aL<|ac _ _ (bM.tok ..) a8)<|xV ah _ _
theorem qW.adZ(a1:g.prog=az)(c:qW g z T C j<|.ho B):af g z T C j .b2 B:=λu m o O ax Y ar Q P=>by exact l a1<|(c u m o O ax Y ar Q P).to λa aU D=>by exact D
end
variable{k:ck}{ap a:ai}{mid:Nat->Obj}{y:Nat}{am:go}{z:Nat}{T:dp}{C:cm}{j wk rL:bH}{G q:Int}{ak vT dO:Pos}{p:dK}{ab:List Int}
theorem BN(c:dg k ap mid y am):Sub (es k.params y) ap.heap:=c.sub ⟨bM.refl ..,λM a3 v V bW cR f3=>⟨#[],Hm▸f3▸bW⟩⟩
theorem ae5(c:dg k ap mid y am):bV ap.heap (aT k ap mid y am).tabs (.tup<|k3.map .int) (.ref 1888):=mK 1888 _ 0 f (k5 _ aS) (BN c _ _ _ (aeY ..) f)<|BL _ _
theorem ae6(c:dg k ap mid y am):bV ap.heap (aT k ap mid y am).tabs (bN m8) (.ref 1890):=mK 1890 _ 0 f (k5 _ aS) (BN c _ _ _ (aeZ ..) f)<|bX.append (BL s3 576)<|BL s3 576
theorem af.ad2(c:dg k ap mid y am)(X:eE T "GALIOS_LOG"=W:=by cbv):af (aT k ap mid y am) z T C (.Name "GALIOS_LOG" dO) .b2 (.tup<|k3.map .int):=af.glob (ik c) aeU (ae5 c) X
theorem af.ad3(c:dg k ap mid y am)(X:eE T "GALIOS_EXP"=W:=by cbv):af (aT k ap mid y am) z T C (.Name "GALIOS_EXP" dO) .b2 (bN m8):=af.glob (ik c) aeV (ae6 c) X
theorem qW.DG(c:dg k ap mid y am)(X:eE T "ECC"=W:=by cbv):qW (aT k ap mid y am) z T C (.Name "ECC" dO) rN:=λu m o O ax Y ar Q P=>by
 subst Q;intro a J r ac;refine qq (ix (ik c) P aeS X) aS a _ r λaU w t lv=>ac aU w t ?_;subst lv;have bI:∀s,s∈(aT k ap mid y am).tabs->s∈yQ:=λs e=>by rcases kE.mp e with rfl|rfl<;>decide
 exact fm.to (λIW v n j=>⟨((r.grow t).2).1.1 _ _ (λe=>n<|bI _ e) j,λe=>(P.9 _ e).elim (λe=>n<|bI _ e) λe=>b4 (dH j) e⟩) _ _ c.3
noncomputable def KR:fi->Option (List<|dK×fi)|.rE as=>A as|_=>a7
noncomputable def S_:fi->Option (List bd)|.ho (.tup aA)=>A aA|_=>a7
noncomputable def BO(bj:Int)(ff:dK):Option (List bd):=(KR rN).bind λas=>(BM as<|.int bj).bind λB=>(KR B).bind λEX=>(BM EX ff).bind S_
theorem S'(c:KR B=A as):B=.rE as:=by
 cases B
 .exact d1 c
 .exact congrArg fi.rE<|nz c
theorem ae7(c:S_ B=A aA):B=.ho (.tup aA):=by cases B with|rE=>exact d1 c|ho av=>cases av<;>first|exact d1 c|exact congrArg (λh=>fi.ho<|bd.tup h)<|nz c
theorem af.DG{aA:List bd}(c:dg k ap mid y am)(bn:c5 (aT k ap mid y am) z T C wk q)(bG:af (aT k ap mid y am) z T C rL .b2<|oo p)(be:BO q p=A aA)(ah:mU wk=W:=by rfl)(fy:mU rL=W:=by rfl)(X:eE T "ECC"=W:=by cbv):af (aT k ap mid y am) z T C (.Subscript (.Subscript (.Name "ECC" dO) wk ak) rL vT) .b2 (.tup aA):=by exact d9 be λas br be=>d9 be λB ag be=>d9 be λEX aL be=>d9 be λav aF d_=>qW.adZ f<|qW.item f (qW.item (p:=.int q) f (S' br▸qW.DG c X) bn (ag.trans<|congrArg A<|S' aL) ah) bG (aF.trans<|congrArg A<|ae7 d_) fy
noncomputable def Fu(s:Int):Option (List Int):=(qP.find? λe=>e.1==s).map (·.2.2)
theorem Ta(k:ck)(q:Int)(E:Tok):(hN k).is (dK.int q) (.int q E)=W:=beq_self_eq_true q
theorem Tb(y:Nat):∀(b0:List<|Int×Nat×List Int)(z:Nat),∀j∈wb y z b0,∃p,(hN k).is p j.key=W/\j.hash=(hN k).hash p|[],bC,dw,c=>dI c|(p,i,H)::D,z,j,c=>di (b:=⟨hashInt p,.int p<|y+z,.ref i⟩) (H:=wb y (z+(H.length+2)) D) c (λe=>l e ⟨_,Ta k p _,f⟩)<|Tb y D _ j
theorem af.ad5(c:dg k ap mid y am)(bn:c5 (aT k ap mid y am) z T C j q)(be:Fu q=A ab)(ah:mU j=W:=by rfl)(X:eE T "GEN_POLY"=W:=by cbv):af (aT k ap mid y am) z T C (.Subscript (.Name "GEN_POLY" dO) j ak) .b2 (.tup<|ab.map .int):=λu m o O ax Y ar Q P=>by
 refine rs P.ok (qq (ix (ik c) P aeT<|Q▸X) aS) (λx x x e x=>e) (fc bn ar Q P) λa fC gJ r aO bp=>l aO<|cJ bp λE fE=>l fE<|n4 be λe aZ gh=>c2 gh ?_;have ae8:e.1=q:=by have:=List.find?_some aZ;exact eq_of_beq this
 have nM:=List.mem_of_find?_eq_some aZ;refine cJ (S8 (ae1 k.params y) e nM) λwj o3=>?_;have lM:=c.sub r.2;have bw:a.heap.MapOf (hN k) 1868 (findBy dK.is (wb y 1 qP).toArray):=⟨_,_,18,lM _ _ _ (ae0 ..) f,⟨f,f,f⟩,f,λj br=>Tb y _ _ j<|G'.mp br,λx=>f⟩;have kO:=S7 (ae3 y) e nM;rw[ae8]at kO;intro J ac;refine I.of<|sf bw.typeIs slot_dict_getitem.lookup (wpAny_getItem_of (k:=dK.int q) (Ta k q E) bw kO<|ac _ _ (bM.tok ..)<|⟨e.2.1,_,0,f,λX=>eU (P.9 _ X) (λG=>?_) λG=>?_,(lM _ _ _ o3 f),BL _ _⟩)<|xV ah _ _
 .have yS:=qU (mid:=λx=>om) o3 f;exact k5 _ ⟨yS.1,yS.2.1⟩ G
 .exact b4 (cI (s7 (qU (mid:=λx=>om) o3 f).2.2) c.2) G
end
def k6{bk d0:Type}(R:Nat)(bf:ck->BT)(s t:Nat)(E:Sem bk)(G:Nat->fa)(i:Nat->bk)(ef:fa->d0)(h:Nat->d0):Prop:=∀(b:Bool)(k:ck)(p:Nat),(iB ⟨az,(k.withFollow "special-get-raises" b).params⟩ (bf<|k.withFollow "special-get-raises" b) s t (uj nk ⟨az,(k.withFollow "special-get-raises" b).params⟩ (bf<|k.withFollow "special-get-raises" b) s t R) E<|G p).map (λD=>(D.1,ef D.2,D.2.eI.map (·.1)))=A (i p,h p,Bm<|iB ⟨az,(k.withFollow "special-get-raises" b).params⟩ (bf<|k.withFollow "special-get-raises" b) s t (uj nk ⟨az,(k.withFollow "special-get-raises" b).params⟩ (bf<|k.withFollow "special-get-raises" b) s t R) E<|G p)
theorem ut(c:k6 R bf s t E G i ef h)(aB:u.depth+3*R<fA)(U:e7 (bf k) s t b1 (G a.toks) a)(aZ:∀ep w,e7 (bf k) s t b1 ep w->ef ep=h a.toks->J (i a.toks) w):cj (cG az k) u E J (λx x=>False) a:=by refine aah aB U ?_ aZ;have:=c (k.params.followText "special-get-raises") k a.toks;rw[Ah]at this;exact this
noncomputable def jS(z j:aw):Obj:={cls:=.ref 1963,dict:=A j,data:=.plain,slots:=#[A<|.ref z]}
noncomputable def lz:Obj:={cls:=.type "dict",data:=.dict #[]}
noncomputable def ae9:List Nat:=[1,0,0,0,1,0,0,0,0,0,0,0,0,0,0,0,1,0,0,0,0,0,1,0,1]
theorem ae_(i z j s t:Nat)(y:Nat):k6 30 (iD y) s t (oC (.ref i) "_data" W) (λE=>⟨[(i,jS z j)],0,E,ae9,[],[]⟩) (λx=>.ref z) (λG=>(G.gs,G.objs,G.m)) (λx=>([],[(i,jS z j)],0)):=λb k E=>by cases b<;>cbv
section
theorem KS(aB:u.depth+90<fA)(Q:Sub (es k.params y) a.heap)(aJ:a.heap.get? i=A (jS z j))(ac:∀w,kk a w->J (.ref z) w):cj (cG az k) u (oC (.ref i) "_data" W) J aN a:=by
 have KQ:∀v dq,(es k.params y).get i=A v->h_ v=A dq->False:=λv dq nQ f5=>by have bW:=Q i v dq nQ f5;replace bW:=aJ▸bW;cases bW;exact S0 i v _ nQ f5 f
 refine r8 (ut (J:=λB w=>B=.ref z/\kk a w) (ae_ i z j a.heap.objs.size a.gens.size y) aB (e7.start Q (λr a1=>(bc a1).symm▸aJ) (by simp) λr a1=>bc a1▸KQ) λep w iE P=>⟨f,?_⟩) (λB w⟨j,p⟩=>j▸ac w p) λx x h=>h.elim;simp only[p5]at P;refine eV P λkO h' o3=>?_;have t:bM [] a w:=iE.same λr a1=>by replace a1:=h'▸a1;exact l (bc a1)<|.inl aJ
 refine⟨w.heap,w.toks,?_,λb v j=>t.1 b v (λe=>nomatch e) j⟩;have ag:=iE.8;replace ag:=kO▸ag;obtain⟨a1,ae',afa,ft,os⟩:=w;simp only[Ou,true_and];exact⟨ag,iE.11,iE.10⟩
end
noncomputable def BP:Stmt:=gB (cH az 19) 6
noncomputable def s8:Scope:={kind:=.function,names:=[(".0",.local),("k",.local),("self",.free),("int",.globalImplicit),("map",.globalImplicit),("str",.globalImplicit),("list",.globalImplicit),("len",.globalImplicit)],isGenerator:=W,isCoroutine:=a2,more:=[]}
noncomputable def rO(aQ:List Bool)(p:Nat):List Bool:=(aQ.drop p).take 8++dE (p+8-aQ.length) a2
theorem chunk_len(c:p<aQ.length):(rO aQ p).length=8:=by unfold rO;simp;exact(jt 8<|aQ.length-p).elim (λfh=>(jt (aQ.length)<|(p)+8).elim (λho=>tP [1,0,-1,0,0] [1,1,0,1,1] (.e (.a .x .y)<|.n 8) [.l .x .z,.e .x<|.n 8,.e (.a .y .w)<|.a .u<|.n 8,.e (.a .z .u) .w] f (vg _ _) (Am fh) (eu ho)<|eu<|c' (.l .x .y) [.t .x .y] f c) λho=>pm [1,0,-1,0] [1,1,0,1] (.e (.a .x .y)<|.n 8) [.l .x<|.n 8,.e .x<|.n 8,.e .y<|.n 0] f (qi _ _) (Am fh)<|lL ho) λfh=>tP [1,0,1,1,-1,0,0] [1,1,0,0,0,1,1] (.e (.a .x .y)<|.n 8) [.l .x .z,.l (.a .w<|.n 8)<|.a .y .u,.l .u<|.a .z .w,.e .x .z,.e (.a .y .u)<|.a .w<|.n 8,.e (.a .z .w) .u] f (vg _ _) (fk _ _) (fk _ _) (O4 fh) (eu<|gv (.l .x<|.a .y<|.n 8) [.l .z<|.n 8,.l .x<|.a .z .y] f fh<|fk _ _)<|eu<|c' (.l .x .y) [.t .x .y] f c
noncomputable def f6(aQ:List Bool):List Int:=aQ.map b2i
theorem afb(aQ:List Bool):fJ (f6 aQ):=λk cr=>by refine j2 cr λb x bK=>c2 bK ?_;cases b<;>decide
section
inductive i0(k:ck)(y:Nat)(hm hI:Str->Option au)(aH g4 i z:aw)(aQ:List Bool)(ae:Str->Option au)(a:ai):Prop|mk(fQ:a.heap.Ns aH ae)(fR:a.heap.IsCell g4<|A<|.ref i)(gs:∃j,a.heap.get? i=A (jS z j))(i7:a.heap.get? z=A (cf<|cT<|f6 aQ))(kq:Sub (es k.params y) a.heap)(mP:a.heap.Ns 3 hm)(sy:a.heap.Ns 0 hI):i0 k y hm hI aH g4 i z aQ ae a
theorem i0.mY:qM (i0 k y hm hI aH g4 i z aQ ae):=λa w r t=>by have p:=uk t;exact⟨r.1.keeps p,(bl r.2 λv j D=>⟨v,p _ _ j,D⟩),r.3.imp λj e=>p _ _ e,p _ _ r.4,λi v dq j f5=>p _ _<|r.5 i v dq j f5,r.6.keeps p,r.7.keeps p⟩
inductive yT(kf:Env)(aH g4:aw):Prop|mk(fQ:kf.scope=s8)(fR:kf.locals=aH)(gs:kf.globals=3)(i7:kf.builtins=0)(kq:kf.cells.lookup ("self":Str)=A g4):yT kf aH g4
noncomputable def wl(hm hI:Str->Option au)(h:Str):Option Value:=match hm h with|some B=>A B|none=>hI h
theorem BQ(c:yT kf aH g4)(X:s8.names.lookup h=A .globalImplicit)(aK:wl hm hI h=A B):n_ (i0 k y hm hI aH g4 i z aQ ae) kf h B:=by refine⟨⟨by refine l c.1 ?_;rfl,by unfold xv;refine l c.1 ?_;exact X⟩,λa r=>(dk hm (c.3▸r.6) ?_)⟩;unfold wl at aK;cases j:hm h with|some av=>replace aK:=j▸aK;exact .inl aK|none=>replace aK:=j▸aK;exact .inr ⟨f,(dk hI (c.4▸r.7) aK)⟩
theorem afc(ay:dT j=W)(c:gX az k u aN kf L j<|d' q):gX az k u aN kf L (.List [j] ak) (IsL [] [.int q]):=λa J Q ac=>by refine iq (l (arm_eval_List ..) f) ?_;refine bg<|pY ?_;refine iq (l (jA ay)<|f) ?_;show cj _ u (mB [(a2,dF j kf)]>>=_) J aN a;refine iq (f) ?_;refine bg<|bg<|c a _ Q λg an aI cS=>?_;refine nv aS ?_;refine lb<|kM<|cu<|cu ?_;refine i4 (ac _ _ (ol aI<|v4 (y:=an.toks) λb v j=>eT _ j) ?_) (by show 1<=cp;decide);refine cJ cS λE b8=>?_;refine l b8 ?_;refine JI (y:=an.toks) (V:=[.int q E]) ?_;exact⟨_,_,f,by exact⟨E,f⟩,by exact f⟩
theorem KT(c:yT kf aH g4)(a8:ae "k"=A (.int p E)):gX az k u aN kf (i0 k y hm hI aH g4 i z aQ ae) (.Name "k" ak) (d' p):=λa J Q ac=>QO (by refine l c.1 ?_;rfl) (by unfold xv;refine l c.1 ?_;rfl) (c.2▸Q.1) a8 (ac _ _ (EE a) ⟨E,f⟩) aS
theorem Tc(aB:u.depth+90<fA)(c:yT kf aH g4):gX az k u aN kf (i0 k y hm hI aH g4 i z aQ ae) (.Attribute (.Name "self" eQ) "_data" e') (λa g=>g=.ref z/\a.heap.get? z=A (cf<|cT<|f6 aQ)):=λa J Q ac=>Attribute_name<|QP (B:=.ref i) (by refine l c.1 ?_;rfl) (by unfold xv;refine l c.1 ?_;rfl) c.5 Q.2 (Q.3.elim λj n=>KS aB Q.5 n λw t=>ac _ w t ⟨f,uk t _ _ Q.4⟩) aS aS
theorem afd(H:List Bool):JJ ((cT<|f6 H).toList).toArray=H.map λb=>.int (b2i b):=by unfold JJ cT f6;simp only[ph];refine vb λb x=>?_;cases b<;>rfl
theorem afe{aQ:List Bool}{p:Nat}:xA (cT<|f6 aQ) (A (p:Int)) (A<|(p:Int)+8)=cT (f6<|(aQ.drop p).take 8):=by refine l (abk ..) ?_;simp[cT,f6,u9,z1]
end
section
section
variable{k:ck}{u:ch}{aN:au->ai->Prop}{a:ai}{i z g4 aH:aw}{aQ:List Bool}{y p:Nat}{kf:Env}{ae hm hI:Str->Option au}{E:Tok}{dd ee i' qz qA yU s9 s_ s' wm wn wo wp yV BR yW wq wr yX ws yY wt wu y0 y1 Fv Td aff Te afg afh:Pos}
theorem afi(b':u.handled=a7)(aB:u.depth+90<fA)(c:yT kf aH g4)(a8:ae "k"=A (.int p E))(c1:p<aQ.length)(dW:aQ.length<=2^20)(ag:wl hm hI "int"=A (.type "int"))(aF:wl hm hI "map"=A (.type "map"))(bb:wl hm hI "str"=A (.type "str"))(cn:wl hm hI "list"=A (.type "list"))(eC:wl hm hI "len"=A (.builtin "len"))(hw:(i'.endLine==Te.line)=W):gX az k u aN kf (i0 k y hm hI aH g4 i z aQ ae) (.Call (.Name "int" dd) [.Call (.Attribute (.Constant (.str mH) 0 ee) "join" i') [.Call (.Name "map" qz) [.Name "str" qA,.BinOp (.Call (.Name "list" yU) [.Subscript (.Attribute (.Name "self" s9) "_data" s_) (.Slice (A<|.Name "k" s') (A<|.BinOp (.Name "k" wm) .Add (.Constant (.int 8) 0 wn) wo) a7 wp) yV] [] BR) .Add (.BinOp (.List [.Constant (.int 0) 0 yW] wq) .Mult (.BinOp (.BinOp (.Name "k" wr) .Add (.Constant (.int 8) 0 yX) ws) .Sub (.Call (.Name "len" yY) [.Attribute (.Name "self" wt) "_data" wu] [] y0) y1) Fv) Td] [] aff] [] Te,.Constant (.int 2) 0 afg] [] afh) (d'<|valOf<|rO aQ p):=by
 have Q:cp=2^24:=f;have bp:gX az k u aN kf (i0 k y hm hI aH g4 i z aQ ae) (.Subscript (.Attribute (.Name "self" s9) "_data" s_) (.Slice (A<|.Name "k" s') (A<|.BinOp (.Name "k" wm) .Add (.Constant (.int 8) 0 wn) wo) a7 wp) yV) (λa g=>∃e9,g=.ref e9/\a.heap.get? e9=A (cf<|cT<|f6<|(aQ.drop p).take 8)):=by have:=aa7 (ak:=wp) (vT:=yV) i0.mY (Tc (ae:=ae) (hm:=hm) (hI:=hI) (aQ:=aQ) (i:=i) (z:=z) (k:=k) (aN:=aN) (y:=y) (eQ:=s9) (e':=s_) aB c) (KT (ak:=s') c a8) (Rg (ak:=wo) i0.mY (KT (ak:=wm) c a8)<|EF (q:=8) (p:=0) (ak:=wn)) (by refine l (k2 ..) ?_;unfold f6;refine l (gp ..) ?_;exact gT [1,1,-1] (.l .x .y) [.l .x<|.n 1048576,.e .y<|.n 16777216] f dW Q);rw[afe]at this;exact this
 have aM:gX az k u aN kf (i0 k y hm hI aH g4 i z aQ ae) (.Call (.Name "list" yU) [.Subscript (.Attribute (.Name "self" s9) "_data" s_) (.Slice (A<|.Name "k" s') (A<|.BinOp (.Name "k" wm) .Add (.Constant (.int 8) 0 wn) wo) a7 wp) yV] [] BR) (IsL []<|((aQ.drop p).take 8).map λb=>.int<|b2i b):=by refine EH i0.mY (BQ c f cn) f (yr f i0.mY bp (λa w g⟨e9,j,t⟩dR=>⟨e9,j,uk dR _ _ t⟩) EG) ?_;rintro a aY _ bK;refine dZ bK λg x b8 dm dX=>l b8 ?_;obtain⟨e9,rfl,aK⟩:=dm;refine l dX ?_;have:=aa_ (prog:=az) (k:=k) (aN:=aN) b' aK (by refine l (k2 ..) ?_;unfold f6;simp;exact bZ (.l .x<|.n 16777216) [.l .x<|.n 8] f<|qi _ _);rw[<-Array.toArray_toList (xs:=cT<|f6<|(aQ.drop p).take 8),afd]at this;exact this
 have ay:gX az k u aN kf (i0 k y hm hI aH g4 i z aQ ae) (.Call (.Name "len" yY) [.Attribute (.Name "self" wt) "_data" wu] [] y0) (d' aQ.length):=by
  refine EH i0.mY (BQ c f eC) f (yr f i0.mY (Tc (ae:=ae) (hm:=hm) (hI:=hI) (aQ:=aQ) (i:=i) (z:=z) (k:=k) (aN:=aN) (y:=y) (eQ:=wt) (e':=wu) aB c) (λa w g⟨j,t⟩dR=>⟨j,uk dR _ _ t⟩) EG) ?_;rintro a aY _ eO J ac;refine dZ eO λg x fE gh gV=>l fE ?_;obtain⟨rfl,aK⟩:=gh;refine l gV ?_;have U:(cT<|f6 aQ).size=aQ.length:=by refine l (k2 ..) ?_;unfold f6;exact l (gp ..) f
  exact Pa aK (U▸bZ (.cg (.c .x)<|.n 9223372036854775808) [.l .x<|.n 1048576] f dW)<|U.symm▸ac _ _ (v3 ..) ⟨_,f⟩
 have U:gX az k u aN kf (i0 k y hm hI aH g4 i z aQ ae) (.BinOp (.List [.Constant (.int 0) 0 yW] wq) .Mult (.BinOp (.BinOp (.Name "k" wr) .Add (.Constant (.int 8) 0 yX) ws) .Sub (.Call (.Name "len" yY) [.Attribute (.Name "self" wt) "_data" wu] [] y0) y1) Fv) (IsL []<|(dE (p+8-aQ.length) a2).map λb=> .int<|b2i b):=by
  refine EI i0.mY (afc (ak:=wq) (q:=0) f EF) JG (aaN (ak:=y1) i0.mY (Rg (ak:=ws) i0.mY (KT (ak:=wr) c a8) EF) ay) ?_;rintro a fC gJ _ aO h1;refine cJ h1 λav i8=>l i8 ?_;have:=aa9 (prog:=az) (k:=k) (u:=u) (aN:=aN) (av:=av) (p:=(p:Int)+8-aQ.length) aO (by simp) (c' (.cz (.g<|.n 9223372036854775808)<|.s (.a (.c .x)<|.n 8)<|.c .y) [.l .y<|.n 1048576] f dW) (c' (.cg (.s (.a (.c .x)<|.n 8)<|.c .y)<|.n 9223372036854775808) [.t .x .y] f c1) (by simp;exact c' (.cz (.a (.c .x)<|.n 8)<|.a (.n 16777216)<|.c .y) [.t .x .y] f c1);have j:(dE ((p:Int)+8-aQ.length).toNat [bd.int 0]).flatten=(dE (p+8-aQ.length) a2).map λb=>bd.int (b2i b):=by refine((show((p:Int)+8-aQ.length).toNat=p+8-aQ.length from zN (p+8) aQ.length).symm)▸ ?_;generalize p+8-aQ.length=s;induction s with
   |zero=>rfl |succ s a5=>refine l np<|l oF<|l a5<|l np<|l ju ?_;rfl
  rw[j] at this;exact this
 have bI:=EI (ak:=Td) i0.mY aM JG U (aE:=IsL []<|(rO aQ p).map λb=> .int<|b2i b) (by intro a fC gJ _ ag aF;unfold rO;refine l mb ?_;exact aa8 ag aF (by simp;exact(jt 8<|aQ.length-p).elim (λfh=>(jt (aQ.length)<|(p)+8).elim (λho=>qe [1,1,-1,1,1] (.l (.a .x .y) .z) [.t .w .u,.e .z<|.n 16777216,.l .x<|.n 8,.e (.a .y .u)<|.a .w<|.n 8] f c1 Q (qi _ _)<|eu ho) λho=>iO [1,-1,1,1] (.l (.a .x .y) .z) [.e .z<|.n 16777216,.l .x<|.n 8,.e .y<|.n 0] f Q (qi _ _)<|lL ho) λfh=>qe [1,1,-1,1,1] (.l (.a .x .y) .z) [.t .w .u,.e .z<|.n 16777216,.l .x<|.n 8,.e (.a .y .u)<|.a .w<|.n 8] f c1 Q (qi _ _)<|eu<|gv (.l .x<|.a .y<|.n 8) [.l .z<|.n 8,.l .x<|.a .z .y] f fh<|fk _ _));have cP:=chunk_len c1;refine EH i0.mY (BQ c f ag) f (yr f i0.mY (abj cP b' i0.mY (BQ c f aF) (BQ c f bb) bI f hw f) (λx x x c x=>c)<|yr f i0.mY EF (JD _) EG) ?_;rintro a aY _ lm J ac;refine dZ lm λg x mm sM qv=>dZ qv λaR x qw sz sA=>l mm ?_;obtain⟨av,rfl⟩:=sM;refine l qw ?_;obtain⟨kw,rfl⟩:=sz;exact l sA<|aay cP<|ac _ _ (v3 ..) ⟨_,f⟩
end
end
section
variable{k:ck}{ap a:ai}{mid:Nat->Obj}{y:Nat}{am:go}
noncomputable def ta(L:cy)(y:Nat):FuncData:=fdOf<|ET az L y
theorem Tf(L:cy)(y:Nat):(es L y).get 1945=A (ET az L y):=by cbv
theorem afj(L:cy)(y:Nat):(es L y).get 1944=A (Kf az L y):=by cbv
theorem afk(a:ai)(L:cy)(y:Nat)(h:au):jr a (ta L y) ⟨[h],[]⟩ [("self",h)]:=tH (by cbv)
theorem wv(c:dg k ap mid y am)(b:fp (aT k ap mid y am) a)(aJ:(es k.params y).get i=A v)(bp:v.data=.func bh)(n:bh.body=.stmts el)(aZ:bh.code=.ref e)(KU:(es k.params y).get e=A rA)(aL:rA.data=.fields V)(ag:V[1]?=A (.str bh.qualname E))(xY:bh.scope.isCoroutine=a2)(ib:bh.scope.isGenerator=a2)(a8:bh.scope.kind=.function)(be:bh.scope.names.all (λh=>h.2 !=.free)=W)(aO:bh.closure=[]):FnAt a i bh el:=by have Q:=c.sub b;refine⟨⟨v,Q _ _ _ aJ (by obtain⟨g,bF,qK,bt⟩:=v;cases qK<;>first|rfl|cases bp),bp⟩,xY,ib,n,⟨e,rA,V,E,aZ,Q _ _ _ KU (by obtain⟨g,bF,qK,bt⟩:=rA;cases qK<;>first|rfl|cases aL),aL,ag⟩,a8,λh X=>?_,aO,Fp c a b⟩;have:=hU.mp be h X;simpa using this
theorem afl(c:dg k ap mid y am)(b:fp (aT k ap mid y am) a):FnAt a 1945 (ta k.params y) (gC BP):=wv (e:=1944) (E:=y+899) c b (Tf ..) f (by cbv) (by cbv) (afj ..) f (by cbv) (by cbv) (by cbv) (by cbv) (by cbv) (by cbv)
theorem af.Qo{z:Nat}{T:dp}{C:cm}{h:Str}{b:Array UInt8}{eQ e':Pos}(aG:dg k ap mid y am)(c:af (aT k ap mid y am) z T C (.Name h eQ) .b2<|.buf b):af (aT k ap mid y am) z T C (.Attribute (.Name h eQ) "_data" e') .b2 (.l3 b):=λu m o O ax Y ar Q P a J r ac=>by refine I.eq (GF ..)<|I.bind<|c u m o O ax Y ar Q P a _ r λaU an aI f2=>dQ<|ve f2 λi bF tb bK aX aK bp rP x=>l bK<|d2<|kP<|I.of<|KS (by have:=ar.2;show u.depth+90<1000;exact c' (.t (.a .x<|.n 90)<|.n 1000) [.l (.a .x .y)<|.n 900] f this) (aG.sub (r.grow aI).2) aK λw p jb=>fM p λaa ft b8 dR=>?_;obtain rfl:=b8;have a6:a9 [] [] an {an with heap:=aa,toks:=ft}:=bM.heap (λb v x j=>dR b v j) jb.1;exact ea<|I.pure<|ac _ _ (aI.trans a6)<|p9 bF f bp<|dR _ _ rP
theorem BS(c:dg k ap mid y am):(aT k ap mid y am).GA:=by
 have bw:∃y2 v,(pO k.params mid y am).nsMap 3 "__builtins__"=A (.ref y2)/\y2≠builtinsNs/\(es k.params y).get y2=A v/\v.cls=.type "module"/\v.dict=A builtinsNs/\v.data=.plain:=(HK 4 (QK az k.params) (by cbv) aS (by cbv) f f f);refine HE bw λy2 v ag aF bb cn eC gS=>⟨ik c,λu aN w J a8 aZ=>?_,?_,k5 _ aS⟩
 .have j_:h_ v=A v:=by obtain⟨g,bF,qK,bt⟩:=v;cases qK<;>first|rfl|exact nomatch gS
  have aJ:=BN c _ _ _ bb j_;have Tg:=qU (mid:=λx=>om) bb j_;refine wpAny_builtinsFor ((SW c).at' λdq j=>a8 3 dq (dH j) (k5 _ aS) j) ag aF (a8 _ _ (dH aJ) (k5 _ ⟨Tg.1,Tg.2.1⟩) aJ) cn eC gS aZ
 .exact cI aS c.2
theorem KV{prog:cL}{k:ck}{u:ch}{m:Env}{a:ai}{h:Str}{p:Nat}{eQ e':Pos}{b_:List eS}{K:gn->ai->Prop}(a8:m.scope.kind=.function)(c:∀ft,I prog k u (dG b_ m) K {a with toks:=ft}):I prog k u (dG (.Expr (.Constant (.str h) p eQ) e'::b_) m) K a:=by
 refine AC ?_;have ah:xc m=a2:=by unfold xc;refine l a8 ?_;rfl
 exact l (Gn (hi:=ah) (hs:=tT f))<|dQ<|dv<|MU<|I.pure ⟨f,c _⟩
noncomputable def f7(aQ:List Bool)(q:Nat):Int:=valOf<|rO aQ<|8*q
@[reducible]noncomputable def KW(aQ:List Bool):cm:=jn ["self"] [(.b2,.buf<|cT<|f6 aQ)] []
theorem afm{z:Nat}{aQ:List Bool}{vQ yg yh KX:Pos}(aG:dg k ap mid y am)(U:aQ.length<=2^20):c5 (aT k ap mid y am) z (fz BP) (KW aQ) (.Call (.Name "len" vQ) [.Attribute (.Name "self" yg) "_data" yh] [] KX) aQ.length:=by have:=af.CV (ak:=KX) (dO:=vQ) (us aG) (af.Qo (z:=z) (h:="self") (eQ:=yg) (e':=yh) aG<|af.name (h:="self") (ak:=yg) (T:=fz BP) (C:=KW aQ) (B:=.buf<|cT<|f6 aQ) f (by cbv)) (by unfold f6;refine l (gp ..) ?_;exact mD U aS);rwa[f6,gp]at this
theorem Th{s:Nat}(U:s<=2^20):sg 0 s 8=((s+7)/8:Nat)/\xw 0 s 8=W:=by have Ti:=Qk s;refine⟨Ti,?_⟩;unfold xw;refine l Ti ?_;rw[if_pos aS,rt _ (kL _)<|kL _,rt _ (by exact kL _) (by exact bZ (.cg (.c .x)<|.n 4611686018427387904) [.l .x<|.n 1048576] f U),rt _ (kL _) (by exact kL _),rt _ (kL _) (by exact gT [8,1,1] (.cg (.c .x)<|.n 4611686018427387904) [.l .y<|.n 1048576,.l (.m 8 .x)<|.a .y<|.n 7] f U<|pn _ 8),rt _ (by exact bZ (.cz (.g<|.n 4611686018427387904)<|.a (.c .x)<|.s (.n 8)<|.n 1) [] f) (by exact bZ (.cg (.a (.c .x)<|.s (.n 8)<|.n 1)<|.n 4611686018427387904) [.l .x<|.n 1048576] f U)];rw[Bool.or_true];rfl
theorem afn(aG:dg k ap mid y am)(U:aQ.length<=2^20)(ar:eJ z u)(P:ct (aT k ap mid y am) en o O ax Y)(Q:en.scope=fz BP):co az k u [] [] en (bo (aT k ap mid y am) en o O Y<|KW aQ) (.Call (.Name "range" ud) [.Constant (.int 0) 0 Ef,.Call (.Name "len" vQ) [.Attribute (.Name "self" yg) "_data" yh] [] KX,.Constant (.int 8) 0 ak_] [] ak') (AH o 0 8<|(aQ.length+7)/8):=by refine mS P.ok (ix (BS aG).1 P wi (by rw[Q];cbv)) f (jl f P.ok DY (kr _)<|jl f P.ok (fc (afm aG U) ar Q P) (kr _)<|jl f P.ok DY (kr _) kt) ?_;rintro a aY a1 i_ J ac;refine gc λx dA=>dZ i_ λx x bW ag iY=>dZ iY λx x cR aF sG=>dZ sG λx x f3 bb jL=>?_;obtain⟨E,rfl⟩:=ag;obtain⟨av,rfl⟩:=aF;obtain⟨B,rfl⟩:=bb;subst jL f3 cR bW;exact dA<|I.of<|call_range_3 aS (ac _ _ (bM.new _ _ a _ _) ⟨_,_,_,_,_,f,λe=>iK _<|P.ok.2 _ a1 _ e,Hv ..,(Th U).2,(Th U).1⟩)<|.inl<|En aS
theorem afo(aG:dg k ap mid y am)(ar:eJ (z+1) u)(P:ct (aT k ap mid y am) m o O ax Y)(r:bo (aT k ap mid y am) m o O Y C a)(aX:i∉o)(aK:a.heap.get? i=A (jS bF tb))(afp:tb∉o)(ib:a.heap.get? tb=A lz)(gg:1993<=tb)(bp:bF∉o)(rP:a.heap.get? bF=A (cf<|cT<|f6 aQ))(bI:TabAt a.heap 1944 1940 cE)(iT:bf.handled=a7)(I_:bf.depth<=900)(U:aQ.length<=2^20)(ac:∀cF aH t aj er j' ec w,a.heap.objs.size<=cF->a.heap.objs.size<=aH->a.heap.objs.size<=aj->cF<w.heap.objs.size->aH<w.heap.objs.size->aj<w.heap.objs.size->a.gens.size<=t->t<w.gens.size->a9 [1940] [] a w->TabAt w.heap 1944 1940 j'->j'=cE++ec->m3 cF aH (aj::er) [aj]->(∀b∈er,(a.heap.objs.size<=b\/b∉o)/\b<w.heap.objs.size)->iz az k bf cF t aH (aj::er) [aj] ((aQ.length+7)/8) (mu<|f7 aQ) 0 w->J (.ref cF) w):I az k u (et (.ref 1945) [.ref i] []) J a:=by
 have aO:=BS aG;have KY:bV a.heap o (.buf<|cT<|f6 aQ) (.ref i):=⟨i,bF,tb,f,aX,aK,bp,rP,afp,ib,gg⟩;refine A7 (g:=aT k ap mid y am) (eh:=["self"]) (eP:=[(.b2,.buf<|cT<|f6 aQ)]) (aY:=[.ref i]) aO.1 ar (afl aG r.2) (by cbv) (by cbv) P r ⟨_,_,f,KY,f⟩ f (afk a k.params y<|.ref i) (by cbv) λw dx cc eB bR fH=>?_;have jd:(c3 (ta k.params y) 1945 a).scope=fz BP:=by cbv
 have Bc:(c3 (ta k.params y) 1945 a).code=.ref 1944:=by cbv
 have Eu:(c3 (ta k.params y) 1945 a).globals=3:=by cbv
 have yk:(c3 (ta k.params y) 1945 a).builtins=0:=by cbv
 generalize ZO:u.deeper (c3 (ta k.params y) 1945 a)=kc at*;generalize br:c3 (ta k.params y) 1945 a=en at*;conv=>arg 4;arg 1;whnf
 have uo:en.scope.kind=.function:=by rw[jd];rfl
 refine KV uo λft=>?_;replace bR:bo (aT k ap mid y am) en (bY en++o) [] w.heap.objs.size (jn ["self"] [(.b2,.buf<|cT<|f6 aQ)] []) {w with toks:=ft}:=bR.grow<|bM.tok _ _ _ _;replace cc:a9 [] [] a {w with toks:=ft}:=cc.trans<|bM.tok _ _ _ _;have BV:w.heap.objs.size=({w with toks:=ft}:ai).heap.objs.size:=f;generalize({w with toks:=ft}:ai)=an at*;rw[BV]at eB bR;have og:a.heap.objs.size<=an.heap.objs.size:=cc.2;have y3:=bR.2;refine gc λx dA=>cx (y3.ns aO.1) λafq afr=>iL bR.3 λcW aE vV dm dX=>?_;obtain-:=dm;obtain-:=dX;refine bl (vV "self" (.f<|.buf<|cT<|f6 aQ)<|mW f) λaU hy aB=>bl (aE.3 "self"<|.inl (by show en.scope.names.lookup _=_;rw[jd];cbv)) λg4 lh lv=>?_;rw[hy]at lv;refine ve aB λe9 wj cg eO ku KZ iS K0 x=>?_;obtain rfl:=eO;refine dA ?_;have sW:g4∈bY en:=ss lh;have Ju:uX s8 en=dC (hl en s8.names []):=IJ λe aZ x9=>by
  have:e.1="self":=by simp only[s8,e1,mE,or_false]at aZ;rcases aZ with rfl|rfl|rfl|rfl|rfl|rfl|rfl|rfl<;>first|rfl|exact nomatch x9
  rw[this];exact⟨g4,lh⟩
 have alM:1944≠1940:=aS;refine I.bind<|dQ<|I.bind ?_;have gW:ap.heap.objs.size<=a.heap.objs.size:=r.2.1.2;have cP:(cT<|f6 aQ).size=aQ.length:=by rw[k2];unfold f6;rw[gp]
 refine Qm (g:=1944) (L:=1940) (cE:=cE) (kQ:=hl en s8.names []) (pF:=g4::e9::wj::(aT k ap mid y am).rm) (s:=(aQ.length+7)/8) (sD:=λq B=>q<(aQ.length+7)/8/\∃E,B=.int ((0:Int)+q*8) E) (Eg:=λaj q c=>oB c aj ((0:Int)+(q:Nat)*8) ((((aQ.length+7)/8:Nat):Int)-(q:Nat)) 8) (bf:=bf) (ef:=mu<|f7 aQ) f Ju aS f f f (mD (a' (hT _ _) fH.2) aS) (Fp aG _ y3) iT Bc (bI.keeps λb v j=>cc.1 b v (λe=>dI e) j) (λh=>f) ?_ ?_ ?_ ?_ ?_ ?_ (λq B c=>c.1) ?_
 .intro d5 m4 ek nA a8 aZ;refine iq (l Eu<|l yk f) ?_;replace aZ:=yk▸aZ;refine aO.2 d5 m4 ek nA (λb v n bI j=>a8 b v (λe=>bI<|e▸kE.mpr (.inr f))<|y3.1.1 b v bI j) aZ
 .exact gr (eB.8 _ (eB.4 _ sW).1)<|gr (dH KZ)<|gr (dH K0) λb n=>cI (ls.mp n).1 y3.1.2
 .exact mt<|mt<|mt<|ls.mpr aO.3
 .intro e;exact di e (λe=>b4 (e▸bI.1.lt.2)<|dx g4 sW) λe=>di e (λe=>ku<|e▸bB (P.6 _<|P.7 _<|kE.mpr<|.inr f)) λe=>di e (λe=>iS<|e▸bB (P.6 _<|P.7 _<|kE.mpr<|.inr f)) λe=>(ls.mp e).2<|kE.mpr<|.inr f
 .--qe iterator
  refine afn aG U fH eB jd an _ bR λA6 al a6 iP=>gc λx dA=>HG iP λD b E av B qw alN ah Fw j9=>?_;obtain rfl:=qw;exact dA<|I.of<|Gq ah Fw<|l j9<|⟨_,f,a6.2,by show _<(al.heap.push _).objs.size;rw[f'];exact ks _,a6.trans<|bM.push al _ al.toks,(fj _ f),λd5 Ev=>Mine.Walks.lt<|Dp Ev _ 0 8<|(aQ.length+7)/8⟩
 .--qe Yn
  intro aH code d5 m4 q M al ue Ev afs _ ah aL yi uf Jv;refine gc λx dA=>cx aL λx sz=>cJ sz λeM sA=>?_;obtain rfl:=sA;refine dA ?_;have fV:∀b,b∈g4::e9::wj::(aT k ap mid y am).rm->∀v,an.heap.get? b=A v->al.heap.get? b=A v:=Jv;have bJ:i0 k y (aT k ap mid y am).mg (aT k ap mid y am).mb aH g4 e9 wj aQ ue al:=by
   refine⟨yi,?_,⟨_,fV _ (mt bm) _ KZ⟩,fV _ (mt<|mt bm) _ K0,λb v dq j f5=>?_,afq.at' λv j=>fV 3 ?_ v j,afr.at' λv j=>fV 0 ?_ v j⟩
   .exact bl lv λv j D=>⟨v,fV _ (bm) _ j,D⟩
   .have yS:=qU (mid:=λx=>om) j f5;exact fV b (mt<|mt<|mt<|ls.mpr ⟨cI (s7 yS.2.2) aG.2,k5 _ ⟨yS.1,yS.2.1⟩⟩) _<|(aG.sub y3) b v dq j f5
   .exact mt<|mt<|mt<|ls.mpr ⟨cI aS aG.2,aO.1.4⟩
   .exact mt<|mt<|mt<|ls.mpr ⟨cI aS aG.2,aO.1.5⟩
  have gN:yT (genEnv s8 (hl en s8.names []) aH code en.builtins en) aH g4:=⟨f,f,Eu,yk,(x8 lh s8.names [] aP<|.inr aS)⟩;have qJ:((0:Int)+q*8)=((8*q:Nat):Int):=by push_cast;exact bZ (.eK (.a (.n 0)<|.r (.c .x) 8)<|.m 8<|.c .x) [] f
  replace uf:=qJ▸uf;exact afi (p:=8*q) Ev (by show d5.depth+90<1000;exact c' (.t (.a .x<|.n 90)<|.n 1000) [.l .y<|.n 900,.l .x<|.o .y] f I_ afs) gN uf (iO [1,8,1] (.t (.m 8 .x) .y) [.t .x .z,.l (.m 8 .z)<|.a .y<|.n 7] f aL.1<|pn _ 8) U gl_int aeQ gl_str S4 S1 f al _ bJ λg bT jk aft=>⟨aft,jk⟩
 .intro cF aH t aj j' ec ek mT f9 lf afu pI Bd vX Jw gz Jx ka ia kS;refine I.pure<|I.pure ⟨_,f,ac cF aH t aj (g4::e9::wj::(aT k ap mid y am).rm) j' ec ek (a' og mT) (a' og f9) (a' og lf) afu pI Bd (a' cc.4 vX) Jw ((cc.mono aP λx c=>c).trans gz) Jx ka ia (gr ⟨.inl<|dx _ sW,cI (eB.8 _ (eB.4 _ sW).1) gz.2⟩<|gr ⟨.inr λe=>ku<|bB e,cI (dH KZ) gz.2⟩<|gr ⟨.inr λe=>iS<|bB e,cI (dH K0) gz.2⟩ λb n=>⟨.inr λe=>(P.9 _ e).elim (ls.mp n).2 λG=>b4 (ls.mp n).1 G,cI (ls.mp n).1<|a' y3.1.2 gz.2⟩)<|kS bf iT (dD _)<|dD _⟩
end
section
variable{g:d7}{m:Env}{o O:List aw}{a:ai}{aj dY:Inv}
noncomputable def Inv.both(aj dY:Inv):Inv where
 W:=aj.W++dY.W
 G:=aj.G++dY.G
 St:=λo a=>aj.St o a/\dY.St o a
 frame:=λo a w cd dc c t dr iQ=>⟨aj.frame o a w cd dc c.1 t (λb n=>⟨(dr b n).1,λe=>(dr b n).2<|bO e⟩) λq ah e=>iQ q ah<|bO e,dY.frame o a w cd dc c.2 t (λb n=>⟨(dr b n).1,λe=>(dr b n).2<|bB e⟩) λq ah e=>iQ q ah<|bB e⟩
 mono:=λo bi a c cA=>⟨aj.mono o bi a c.1 cA,dY.mono o bi a c.2 cA⟩
theorem Inv.At.fst(c:(aj.both dY).At g m o O a):aj.At g m o O a:=⟨c.1.1,λb n=>c.2 b<|bO n,λq ah=>c.3 q<|bO ah⟩
theorem Inv.At.snd(c:(aj.both dY).At g m o O a):dY.At g m o O a:=⟨c.1.2,λb n=>c.2 b<|bB n,λq ah=>c.3 q<|bB ah⟩
theorem Inv.At.both(c:aj.At g m o O a)(aa:dY.At g m o O a):(aj.both dY).At g m o O a:=⟨⟨c.1,aa.1⟩,λb n=>bD n (c.2 b)<|aa.2 b,λq ah=>bD ah (c.3 q)<|aa.3 q⟩
noncomputable def Inv.none:Inv:=⟨[],[],λx x=>True,λx x x x x x x x x=>trivial,λx x x x x=>trivial⟩
theorem Inv.aeu:Inv.none.At g m o O a:=⟨trivial,aP,aP⟩
noncomputable def gO(e L:aw):Inv where
 W:=[L]
 G:=[]
 St:=λo a=>e∉o/\∃cE,TabAt a.heap e L cE
 frame:=λo a w cd dc c t dr x=>by
  obtain⟨aZ,cE,bI⟩:=c;refine⟨aZ,cE,bI.kept λb n v j=>t.1 b v (λc0=>?_) j⟩;rcases n with rfl|rfl
  .exact aZ (dr _ c0).1
  .exact(dr _ c0).2 bm
 mono:=λo bi a c cA=>by obtain⟨aZ,cE,bI⟩:=c;exact⟨λc0=>(cA _ c0).elim aZ λG=>b4 bI.1.lt.1 G,cE,bI⟩
noncomputable def ww(k:ck)(bf:ch)(cF:aw)(t:Nat)(aH:aw)(bA aV:List aw)(s aC:Nat)(ef:Nat->au->Prop):Inv where
 W:=aH::aV
 G:=[t]
 St:=λo a=>iz az k bf cF t aH bA aV s ef aC a/\m3 cF aH bA aV/\(∀b∈cF::aH::bA,(b∈aH::aV\/b∉o)/\b<a.heap.objs.size)/\∀b∈aH::aV,1993<=b
 frame:=λo a w cd dc c gz dr iQ=>by exact hG c λag aF bb cn=>⟨ag.frame aF gz (λb n e=>eU ((bb b e).1) (λG=>(dr b n).2 G) λG=>G (dr b n).1) λe=>iQ t e bm,aF,λb n=>⟨(bb b n).1,cI (bb b n).2 gz.2⟩,cn⟩
 mono:=λo bi a c cA=>by exact hG c λag aF bb cn=>⟨ag,aF,λb n=>⟨(eU ((bb b n).1) (λG=>.inl G) λG=>.inr λe=>(cA b e).elim G λep=>b4 (bb b n).2 ep),(bb b n).2⟩,cn⟩
noncomputable def m_(aq:aw)(aA:List bd):Inv where
 W:=[aq]
 G:=[]
 St:=λo a=>1993<=aq/\jm a.heap o aq (.lst aA)/\∀V s,a.heap.get? aq=A {cls:=.type "list",data:=.seq V s}->∀B∈V.toList,∀i,B=.ref i->aq<=i
 frame:=λo a w cd dc c t dr x=>by have Tj:∀v,a.heap.get? aq=A v->w.heap.get? aq=A v:=λv j=>t.1 _ v (λe=>(dr _ e).2 bm) j;refine⟨c.1,c.2.1.to (λb v n j=>⟨t.1 b v (λe=>n (dr b e).1) j,n⟩) Tj,λV s j=>c.2.2 V s<|fM c.2.1 λadj cK px x=>?_⟩;have bW:=Tj _ px;rw[j]at bW;exact px.symm▸bW▸f
 mono:=λo bi a c cA=>⟨c.1,c.2.1.to (λb v n j=>⟨j,λe=>(cA b e).elim n λG=>b4 (dH j) G⟩) λv j=>j,c.2.2⟩
noncomputable def K1(C:cm):Bool:=C.all λr=>match r.2 with|.f bC=>W|_=>a2
set_option tactic.hygienic true in theorem rR(c:K1 C=W):je C:=λh bt e=>by induction e with
 |here=>
  unfold K1 at c;rw[n0,jU]at c
  rename_i B;cases B with
  |f av=>exact⟨av,f⟩|o av=>exact jj c.1|b av=>exact jj c.1
 |there _ _ a5=>unfold K1 at c;rw[n0,jU]at c;exact a5 c.2
theorem fp.Qt(b:fp g a)(bJ:L∈g.tabs\/g.s0.heap.objs.size<=L)(t:a9 [L] [] a w)(c:TabAt a.heap e L cE)(aa:TabAt w.heap e L<|cE++ec):fp g w:=by
 refine⟨b.1.gR t (λM a3=>bJ.elim (λG=>.inl<|bc a3▸G) λG=>.inr<|fS<|bc a3▸G) aP,λM a3 v V bW cR f3=>cJ (b.2 M a3 v V bW cR f3) λae j=>?_⟩;by_cases Tk:M=L
 .subst Tk;have t1:=c.2.2;replace t1:=j▸t1;have t1:=fu t1;refine⟨ae++ec,(aa.2.2.symm▸?_)⟩;have ka:cE=V++ae:=by have:=congrArg Dk t1;simpa using this.symm
  have aJ:v.cls=.none/\v.dict=a7/\v.slots=#[]:=⟨congrArg sc t1,congrArg Obj.dict t1,congrArg Obj.slots t1⟩;obtain⟨IA,acE,alO,alP⟩:=v;obtain⟨rfl,rfl,rfl⟩:=aJ;exact ka.symm▸Array.append_assoc.symm▸f
 .exact⟨ae,t.1 _ _ (λe=>Tk<|bc e) j⟩
namespace b3
theorem doc(c:b3 g z u T aj C b_ cv):b3 g z u T aj C (.Expr (.Constant (.str E) aC eQ) e'::b_) cv:=λm o O ax Y a ar Q P r ah=>KV P.1 λft=>I.mono (c m o O ax Y _ ar Q P (r.grow<|bM.tok _ _ _ _)<|ah.it (bM.tok [] [] a ft) aP aP) λR w aa=>aa.trans<|f4.refl aj a|>.trans ⟨λx c=>c,λx c=>.inl c,λx c=>.inl c,λx c=>.inl c,λx c=>.inl c,bM.tok ..⟩
end b3
end
noncomputable def qX(aq:aw):Obj:={cls:=.type "builtin_function_or_method",data:=.fields #[.builtin "list.append",.ref aq]}
noncomputable def jp(V:Array au)(p:Nat):Obj:={cls:=.type "list",data:=.seq V p}
theorem afv(i s t p y:Nat)(V:Array au):k6 30 (iD y) s t (oC (.ref i) "append" W) (λE=>⟨[(i,jp V p)],0,E,[1,1,1,1,1,1],[],[]⟩) (λx=>.ref s) (λG=>(G.gs,G.objs,G.m)) (λx=>([],[(i,jp V p),(s,qX i)],1)):=λb k E=>by cases b<;>cbv
theorem afw(i s t p y:Nat)(V:Array au)(h:au):k6 30 (iD y) s t (checkBoundCall "list.append" ⟨[.ref i,h],[]⟩) (λE=>⟨[(i,jp V p)],0,E,[1,1,1],[],[]⟩) (λx=>()) (λG=>(G.gs,G.objs,G.m)) (λx=>([],[(i,jp V p)],0)):=λb k E=>by cases b<;>cbv
section
theorem K2(iE:e7 bf a.heap.objs.size a.gens.size a G w)(aK:G.gs=[])(ms:∀r∈G.objs,a.heap.get? r.1=A r.2\/a.heap.objs.size<=r.1):kk a w/\a.heap.objs.size<=w.heap.objs.size:=by have t:bM [] a w:=iE.same ms;refine⟨⟨w.heap,w.toks,?_,λb v j=>t.1 b v (λe=>nomatch e) j⟩,t.2⟩;have ag:=iE.8;replace ag:=aK▸ag;obtain⟨a1,ae',afa,ft,os⟩:=w;simp only[Ou,true_and];exact⟨by exact ag,iE.11,iE.10⟩
theorem Keeps.Qv(p:kk a w)(G:a.heap.objs.size<=w.heap.objs.size):a9 [] [] a w:=by refine fM p λaa ft bK dR=>?_;obtain rfl:=bK;exact bM.heap (λb v x j=>dR b v j) G
theorem afx(aB:u.depth+90<fA)(Q:Sub (es k.params y) a.heap)(aJ:a.heap.get? aq=A (jp V p))(db:1993<=aq)(ac:∀w,a9 [] [] a w->w.heap.get? a.heap.objs.size=A (qX aq)->J (.ref a.heap.objs.size) w):I az k u (oC (.ref aq) "append" W) J a:=by
 refine I.of<|ut (afv aq a.heap.objs.size a.gens.size p y V) aB (e7.start Q (λr a1=>bc a1▸aJ) (by simp) λr a1 v dq j f5=>by rw[bc a1]at j;exact b4 (s7 (qU (mid:=λx=>om) j f5).2.2) db) λep w iE P=>?_;simp only[p5]at P;refine eV P λkO h' o3=>?_;refine cx (K2 iE kO (λr a1=>by
  rw[h']at a1
  revert r;refine gr ?_ ?_
  .exact .inl aJ
  .intro r a1;refine l (bc a1) ?_;exact .inr<|dD _)) λdR G=>?_;exact ac w (Keeps.Qv dR G)<|iE.3 1 _ _ (by refine l h' ?_;rfl)
theorem afy(aB:u.depth+90<fA)(Q:Sub (es k.params y) a.heap)(bw:a.heap.get? ae=A (qX aq))(aJ:a.heap.get? aq=A (jp V p))(db:1993<=aq)(U:V.size<=cp)(ac:∀w,a9 [aq] [] a w->(∃fG,w.heap.get? aq=A (jp (V.push h) fG))->J .none w):I az k u (et (.ref ae) [h] []) J a:=by
 refine kP<|I.of<|wpAny_call<|zv<|nu bw ?_;refine bg<|r8 (ut (u:=u.in1) (J:=λx w=>kk a w) (afw aq a.heap.objs.size a.gens.size p y V h) aB (e7.start Q (λr a1=>bc a1▸aJ) (by simp) λr a1 v dq j f5=>by rw[bc a1]at j;exact b4 (s7 (qU (mid:=λx=>om) j f5).2.2) db) λep w iE P=>?_) (λx an rv=>?_) λx x e=>e.elim
 .simp only[p5]at P;refine eV P λkO h' o3=>?_;exact(K2 iE kO λr a1=>by rw[h']at a1;refine l (bc a1) ?_;exact .inl aJ).1
 .refine fM rv λbn hB b8 dR=>l b8<|cu ⟨nX slot_list_append.plain _,xd entry_list_append ?_⟩;have Tl:=dR _ _ aJ;show cj _ _ (updateSeq aq (·.push h)>>=λx=>ret .none) _ _ _;refine bg<|xg Tl f<|cu ?_;intro G;have t:a9 [aq] [] a {a with heap:=bn.update aq (mI (·.push h)),toks:=hB}:=bM.heap (λb v n j=>(rf _ _ λe=>n<|kl.mpr e.symm).trans<|dR b v j) G.1;refine ac _ t ⟨p+1,(l (n1 _ Tl (by refine(l (NX ..) ?_);rfl))<|(l (NX ..) ?_))⟩;rfl
end
def cU(g:d7)(z:Nat)(u:ch)(T:dp)(aj:Inv)(C:cm)(j:bH)(hp:bd->Inv->Prop):Prop:=∀(m:Env)(o O ax:List aw)(Y:Nat)(a:ai),eJ z u->m.scope=T->ct g m o O ax Y->bo g m o O Y C a->aj.At g m o O a->∀J:au->ai->Prop,(∀aU an B dn cD eb,hp B dn->f4 aj m o O cD O dn a an->ct g m cD O ax eb->bo g m cD O eb C an->dn.At g m cD O an->bV an.heap cD B aU->J aU an)->I g.prog g.w u (dF j m) J a
theorem f4.nF(t:a9 [] [] a an):f4 aj m o O o O aj a an:=⟨λx c=>c,λx c=>.inl c,λx c=>.inl c,λx c=>.inl c,λx c=>.inl c,t.mono aP aP⟩
theorem cU.Qx(c:af g z T C j p B)(a8:p≠.ls:=by decide):cU g z u T aj C j (λhz bL=>hz=B/\bL=aj):=λm o O ax Y a ar Q P r ah J ac=>(c.gf a8) u m o O ax Y ar Q P a J r λaU an t D=>ac aU an B aj o Y ⟨f,f⟩ (f4.nF t) P (r.grow t) (ah.it t aP aP) D
theorem f4.inside(t:a9 (bY m) [] a an):f4 aj m o O o O aj a an:=⟨λx c=>c,λx c=>.inl c,λx c=>.inl c,λx c=>.inl c,λx c=>.inl c,t.mono (λb n=>bO<|bB n) aP⟩
namespace b3
theorem rQ(br:cU g z u T aj C j hp)(X:kU T h=W)(c:∀B dn,hp B dn->b3 g z u T dn ((h,.f B)::C) b_ cv)(pD:∀m:Env,m.scope=T->w' j (A<|.Name h dO) ak.line m=dC a2:=by exact λx x=>tT f):b3 g z u T aj C (.Assign [.Name h dO] j ak::b_) cv:=next λm o O ax Y a ar Q P r ah=>by refine I.eq (CZ (hs:=pD m Q) ..)<|dQ<|I.bind<|br m o O ax Y a ar Q P r ah _ λaU an B dn cD eb aK c6 fs cX eY D=>dQ<|I.bind<|vB (b:=a2) fs cX D (Q▸X) λal a6 df=>I.pure ⟨f,(OL _ dn cD O eb (c6.trans<|f4.inside a6) fs df (eY.off fs a6 λb n=>.inr n)<|c B dn aK)⟩
theorem xB(br:cU g z u T aj C j hp)(ay:xW j=W)(c:∀B dn,hp B dn->B=.none/\b3 g z u T dn C b_ cv):b3 g z u T aj C (.Expr j ak::b_) cv:=next λm o O ax Y a ar Q P r ah=>by
 have po:xc m=a2:=by unfold xc;refine l P.1 ?_;rfl
 refine(Gn (hi:=po) (hs:=tT ay)).symm▸dQ (I.bind<|br m o O ax Y a ar Q P r ah _ λaU an B dn cD eb aK c6 fs cX eY D=>cx (c B dn aK) λe2 aB=>?_);obtain rfl:=e2;subst D;have px:CW j ak .none=dC .next:=by unfold CW;cases j<;>rfl
 exact px.symm▸I.pure ⟨f,(OL C dn cD O eb c6 fs cX eY aB)⟩
end b3
theorem af.raw(aK:fU C h=A (.f<|.raw i))(X:g9 T h=W):af g z T C (.Name h ak) .b2 (.raw i):=af.name aK X
theorem cU.Qy(aG:dg k ap mid y am)(aK:fU C h=A (.f<|.raw<|.ref aq))(X:g9 T h=W)(lf:∀m o O a,aj.At (aT k ap mid y am) m o O a->(m_ aq aA).At (aT k ap mid y am) m o O a):cU (aT k ap mid y am) z u T aj C (.Attribute (.Name h dO) "append" ak) (λB bL=>bL=aj/\∃ae,B=.gf [(ae,qX aq)] (.ref ae)):=λm o O ax Y a ar Q P r ah J ac=>by refine I.bind<|(af.raw (g:=aT k ap mid y am) (z:=z) aK X) u m o O ax Y ar Q P a _ r λaU an aI f2=>?_;have BK:bV an.heap o (.raw<|.ref aq) aU:=f2;subst BK;refine dQ ?_;have cX:=r.grow aI;have eY:=ah.it aI aP aP;exact eV (lf _ _ _ _ eY).1 λdb b8 x=>fM b8 λV p aJ aB=>d2<|afx (by have:=ar.2;show u.depth+90<1000;exact c' (.t (.a .x<|.n 90)<|.n 1000) [.l (.a .x .y)<|.n 900] f this) (aG.sub cX.2) aJ db λal a6 bw=>ea<|I.pure<|ac _ al (.gf [(an.heap.objs.size,qX aq)]<|.ref an.heap.objs.size) aj o Y ⟨f,_,f⟩ (f4.nF<|aI.trans a6) P (cX.grow a6) (eY.it a6 aP aP)<|⟨f,λe aZ=>(bc aZ).symm▸⟨λG=>iK _<|cI (P.8 _ G) cX.1,bw⟩⟩
section
variable{g:d7}{m:Env}{o O:List aw}{a w:ai}{aj wx wy:Inv}{aq:aw}{aA ca:List bd}
inductive Fx(g:d7)(aj:Inv)(aq:aw)(aA:List bd)(bL:Inv)(Tm:List bd):Prop|mk(fQ:∀m o O a,aj.At g m o O a->(m_ aq aA).At g m o O a)(fR:∀m o O a w,aj.At g m o O a->a9 [aq] [] a w->(m_ aq Tm).At g m o O w->bL.At g m o O w)(gs:bL.W=aj.W)(i7:bL.G=aj.G)(kq:aq∈aj.W):Fx g aj aq aA bL Tm
theorem Inv.At.chg(c:aj.At g m o O a)(t:a9 [aq] [] a w)(db:aq∈o)(qB:aq∉aj.W):aj.At g m o O w:=c.it t (λb n=>bc n▸⟨db,qB⟩) aP
theorem afz(ag:aq∉wx.W)(aF:aq∉wy.W):Fx g (wx.both<|(m_ aq aA).both wy) aq aA (wx.both<|(m_ aq ca).both wy) ca:=⟨(λm o O a c=>c.snd.fst),(λm o O a w c t aa=>(c.fst.chg t (c.snd.fst.2 aq bm).1 ag).both<|aa.both<|c.snd.snd.chg t (c.snd.fst.2 aq bm).1 aF),(f),(f),(bB<|bO bm)⟩
theorem afA(ag:aq∉wx.W)(aF:aq∉wy.W):Fx g (wx.both<|wy.both<|m_ aq aA) aq aA (wx.both<|wy.both<|m_ aq ca) ca:=⟨(λm o O a c=>c.snd.snd),(λm o O a w c t aa=>(c.fst.chg t (c.snd.snd.2 aq bm).1 ag).both<|(c.snd.fst.chg t (c.snd.snd.2 aq bm).1 aF).both aa),(f),(f),(bB<|bB bm)⟩
theorem afB(ay:as.all dT=W)(c:mR prog k u [] [] m L as aE)(Q:L a)(bJ:sr [] [] L)(bw:∀a,L a->a.heap.get? ae=A v)(aJ:v.cls=.type "builtin_function_or_method")(bp:v.data=.fields XG)(aO:∀aY w,a9 [] [] a w->aE w aY->I prog k u (et (.ref ae) aY []) J w):I prog k u (pZ ak (.ref ae) [] (jV Ax<|jh as m) []) J a:=by
 unfold pZ;refine d2<|xU ay c Q λaY an aI cS=>dQ<|l (vr ay ..)<|l (u7 ..)<|l (q9 ..) ?_;have a8:I prog k u (r4<|.ref ae) (λp w=>p=.machine/\w=an) an:=by unfold r4;exact dv<|zq (bw an<|bJ _ _ Q aI)<|l bp<|aJ.symm▸I.pure ⟨f,f⟩
 exact g8 a8<|qk<|g8 (aO aY _ aI cS) λD al aB=>dv<|kH<|o_<|I.pure aB
def uu(C:cm):Prop:=∀h B,¬fb C h (.b B)
noncomputable def K3(C:cm):Bool:=C.all λr=>match r.2 with|.b bC=>a2|_=>W
theorem wz(c:K3 C=W):uu C:=λh B e=>by generalize Q:Slot.b B=bt at e;induction e with|here=>subst Q;unfold K3 at c;rw[n0,jU]at c;exact jj c.1|there _ _ a5=>unfold K3 at c;rw[n0,jU]at c;exact a5 c.2 Q
theorem bo.DL(r:bo g m o O Y C a)(b7:uu C)(cA:∀G∈cd,G∈o)(aJ:∀G∈cd,G∉bY m)(iX:∀G∈cd,G∉O)(t:a9 cd ao a w)(n:fp g w):bo g m o O Y C w:=by refine iL r.3 λcW aE ag aF bb=>⟨a' r.1 t.2,n,cW,aE.keeps λb n v j=>t.1 b v (λe=>aJ b e n) j,λh bt X=>bl (ag h bt X) λB aL D=>⟨B,aL,D.own (cd:=cd) cA (λe i j c0=>?_) λb v n j=>t.1 b v n j⟩,aF,bb⟩;cases bt with|f av=>exact e|o av=>refine eW (aF h av X) λe9 ku cg x=>?_;replace cg:=j▸aL▸cg;cases cg;exact iX _ c0 ku|b av=>exact b7 h av X
theorem afC(Y:Nat)(o:List aw)(a:ai)(aU:au)(cA:∀i∈o,i<Y)(db:aq∈o)(c:fg Y o .fr B a aU):bV a.heap o B aU/\∀i,aU=.ref i->aq<=i:=⟨c.b2 cA aS,λi aX=>by refine eW c λb j n x=>?_;replace j:=aX▸j;cases j;exact no<|cI (cA aq db) n⟩
theorem Tn(D:bV c o (.gf [(b,cf h)]<|.ref b) aU):bV c o (.l3 h) aU:=by obtain⟨rfl,e⟩:=D;have:=e _ bm;exact(p9 b f this.1 this.2)
theorem afD(n:aq<=b)(Y:Nat)(o:List aw)(a:ai)(aU:au)(_:∀i∈o,i<Y)(_:aq∈o)(c:fg Y o .b2 (.gf [(b,cf h)]<|.ref b) a aU):bV a.heap o (.l3 h) aU/\∀i,aU=.ref i->aq<=i:=⟨Tn c,λi aX=>by have:=c.1;replace this:=aX▸this;cases this;exact n⟩
theorem aE.QB(aK:fU C h=A (.f<|.gf [(b,cf<|cT ab)]<|.ref b):=by rfl)(X:g9 T h=W:=by cbv):af g z T C (.Name h ak) .b2 (fl ab):=λu m o O ax Y ar Q P=>((af.name (g:=g) (z:=z) aK X) u m o O ax Y ar Q P).to λa aU c=>Tn c
theorem cU.QC(aG:dg k ap mid y am)(b7:uu C)(iP:Fx (aT k ap mid y am) aj aq aA bL<|aA++[B])(aK:fU C h=A (.f<|.gf [(ae,qX aq)]<|.ref ae))(X:g9 T h=W)(br:af (aT k ap mid y am) z T C j p hz)(aL:∀(Y:Nat)(o:List aw)a aU,(∀i∈o,i<Y)->aq∈o->fg Y o p hz a aU->bV a.heap o B aU/\∀i,aU=.ref i->aq<=i)(U:aA.length<=cp)(ay:dT j=W:=by rfl):cU (aT k ap mid y am) z u T aj C (.Call (.Name h dO) [j] [] ak) (λav dn=>av=.none/\dn=bL):=λm o O ax Y a ar Q P r ah J ac=>by
 subst Q
 .refine I.bind<|(af.name (g:=aT k ap mid y am) (z:=z) aK X) u m o O ax Y ar f P a _ r λaU an aI f2=>cx f2 λb8 bw=>l b8 ?_;have k0:=bw (ae,qX aq) bm;have cX:=r.grow aI;have eY:=ah.it aI aP aP;refine afB (L:=λE=>bo (aT k ap mid y am) m o O Y C E/\E.heap.get? ae=A (qX aq)/\aj.At (aT k ap mid y am) m o O E) (v:=qX aq) (by simp[ay]) (yv ay<|co.weak (br u m o O ax Y ar f P) λE e=>e.1) ⟨cX,k0.2,eY⟩ (λE eM e t=>⟨e.1.grow t,t.all _ _ e.2.1,e.2.2.it t aP aP⟩) (λE e=>e.2.1) f f ?_;rintro aY al a6 fE;refine bl fE λFy gh K4=>l gh<|cx (aL Y o _ _ P.8 (((iP.1 _ _ _ _ eY).2 aq bm).1) K4) λK4 oh=>?_;have df:=cX.grow a6;have fK:=eY.it a6 aP aP;have aM:=iP.1 _ _ _ _ fK;refine eV aM.1 λdb gV Sj=>fM gV λV p aJ aB=>?_;have cP:V.size=aA.length:=by simpa using aB.length
  have qC:=aM.2 aq bm;refine afy (by have:=ar.2;show u.depth+90<1000;exact c' (.t (.a .x<|.n 90)<|.n 1000) [.l (.a .x .y)<|.n 900] f this) (aG.sub df.2) (a6.all _ _ k0.2) aJ db (cP▸U) λbT bQ Fz=>cJ Fz λfG Fz=>?_;have FA:ap.heap.objs.size<=aq:=by
   refine eU (qC.2.2.2.1) (λe=>?_) λe=>?_
   .exfalso;rcases kE.mp e with e|e<;>(rw[e]at db;exact absurd db aS)
   .exact e
  have fV:∀b v,b∉o->al.heap.get? b=A v->bT.heap.get? b=A v/\b∉o:=λb v n j=>⟨bQ.1 b v (λe=>n<|bc e▸qC.1) j,n⟩;have afE:(m_ aq<|aA++[B]).At (aT k ap mid y am) m o O bT:=by
   refine⟨⟨db,⟨V.push Fy,fG,Fz,?_⟩,λfD s j=>?_⟩,λb n=>?_,aP⟩
   .refine l Ab<|bX.append ?_<|bX.to fV _ _ aB;exact⟨Fy,[],f,bV.to fV _ _ K4,by exact f⟩
   .have bW:A (jp (V.push Fy) fG)=A {cls:=.type "list",data:=.seq fD s}:=Fz.symm.trans j;have cR:fD=V.push Fy:=by have:=congrArg Dk<|fu bW;simp only[jp,Ov]at this;exact this.1.symm
    refine l cR<|Ab.symm▸?_;intro av d_ i aX;refine bD d_ (λe=>?_) λe=>?_
    .exact Sj _ _ aJ av e i aX
    .rw[bc e]at aX;exact oh i aX
   .exact j0 (aM.2 b n) λdJ dU dN eK f_=>⟨dJ,dU,dN,eK,cI f_ bQ.2⟩
  refine ac .none bT .none bL o Y ⟨f,f⟩ ⟨λx c=>c,λx c=>.inl c,λx c=>.inl c,λx c=>.inl<|iP.3▸c,λx c=>.inl<|iP.4▸c,(((aI.trans a6).mono aP aP).trans<|bQ.mono (λb n=>bB<|bc n▸iP.5) aP)⟩ P (df.DL b7 (λG U=>(bc U).symm▸qC.1) (λG U=>bc U▸qC.2.2.1) (λG U=>bc U▸qC.2.1) bQ<|df.2.to bQ λG U=>bc U▸FA) (iP.2 _ _ _ _ _ fK bQ afE)<|f
end
noncomputable def FB:List Nat:=[1,0,0,0,1,0,0,0,1,0,0,0,0,1,2]
theorem afF(i z j s t y:Nat)(nH:Sem Bool):k6 30 (iD y) s t (u0 (.ref i) "toints" nH) (λE=>⟨[(i,jS z j),(j,lz)],0,E,FB,[],[]⟩) (λx=>(.ref 1945,[.ref i])) (λG=>(G.gs,G.objs,G.m)) (λx=>([],[(i,jS z j),(j,lz)],0)):=λb k E=>by cases b<;>cbv
theorem To(i z j s t y:Nat)(nH:Sem Bool):k6 30 (iD y) s t (u0 (.ref i) "extend" nH) (λE=>⟨[(i,jS z j),(j,lz)],0,E,FB,[],[]⟩) (λx=>(.ref 1924,[.ref i])) (λG=>(G.gs,G.objs,G.m)) (λx=>([],[(i,jS z j),(j,lz)],0)):=λb k E=>by cases b<;>cbv
theorem afG(i z j s t y:Nat)(nH:Sem Bool):k6 30 (iD y) s t (u0 (.ref i) "getbits" nH) (λE=>⟨[(i,jS z j),(j,lz)],0,E,FB,[],[]⟩) (λx=>(.ref 1938,[.ref i])) (λG=>(G.gs,G.objs,G.m)) (λx=>([],[(i,jS z j),(j,lz)],0)):=λb k E=>by cases b<;>cbv
section
theorem FC(U:∀(i z j s t y:Nat)(nH:Sem Bool),k6 30 (iD y) s t (u0 (.ref i) nm nH) (λE=>⟨[(i,jS z j),(j,lz)],0,E,FB,[],[]⟩) (λx=>(R,[.ref i])) (λG=>(G.gs,G.objs,G.m)) λx=>([],[(i,jS z j),(j,lz)],0))(aB:u.depth+90<fA)(Q:Sub (es k.params y) a.heap)(aJ:a.heap.get? i=A (jS z j))(yu:a.heap.get? j=A lz)(gg:1993<=j)(ac:∀w,a9 [] [] a w->J (R,[.ref i]) w):I az k u (u0 (.ref i) nm nH) J a:=by
 have c_:i≠j:=λe=>by replace aJ:=yu▸e▸aJ;cases aJ
 have nM:∀r∈[(i,jS z j),(j,lz)],r=(i,jS z j)\/r=(j,lz):=λr a1=>(e1.mp a1).imp id λe=>bc e;refine I.of (ut (U i z j a.heap.objs.size a.gens.size y nH) aB (e7.start Q (λr a1=>by rcases nM r a1 with rfl|rfl<;>assumption) (by simp[c_]) λr a1 v dq nQ f5=>by
  rcases nM r a1 with rfl|rfl
  .have bW:=Q i v dq nQ f5;replace bW:=aJ▸bW;cases bW;exact S0 i v _ nQ f5 f
  .exact b4 (s7 (qU (mid:=λx=>om) nQ f5).2.2) gg) λep w iE P=>?_);simp only[p5]at P;refine eV P λkO h' o3=>?_;refine cx (K2 iE kO (λr a1=>by
  replace a1:=h'▸a1;rcases nM r a1 with rfl|rfl
  .exact .inl aJ
  .exact .inl yu)) λdR G=>?_;exact ac w<|Keeps.Qv dR G
end
theorem cU.aeJ(aG:dg k ap mid y am)(b7:je C)(aK:fU C h=A (.f<|.buf<|cT<|f6 aQ))(X:g9 T h=W)(U:aQ.length<=2^20)(hw:(lw.endLine==ak.line)=W:=by rfl):cU (aT k ap mid y am) (z+1) u T (gO 1944 1940) C (.Call (.Attribute (.Name h dO) "toints" lw) [] [] ak) (λB bL=>∃cF aH t cl er,B=.raw (.ref cF)/\bL=(gO 1944 1940).both (ww k u.in1 cF t aH (cl::er) [cl] ((aQ.length+7)/8) 0<|mu<|f7 aQ)/\1993<=aH/\1993<=cl):=λm o O ax Y a ar Q P r ah J ac=>by
 refine sw (as:=[]) f (by show 0<20;decide) f hw<|(af.name (g:=aT k ap mid y am) (z:=z+1) aK X) u m o O ax Y ar Q P a _ r λaU an aI f2=>Wf f2 λi bF tb bK aX mT bp rP br ib gg=>l bK ?_;have fF:u.depth+90<recursionLimit:=by have:=ar.2;show u.depth+90<1000;exact c' (.t (.a .x<|.n 90)<|.n 1000) [.l (.a .x<|.o .y)<|.n 900] f this
 have cX:=r.grow aI;refine FC afF fF (aG.sub cX.2) mT ib gg λal a6=>?_;have df:=cX.grow a6;have fK:(gO 1944 1940).At (aT k ap mid y am) m o O al:=ah.it (aI.trans a6) aP aP;refine vy (L:=λE=>bo (aT k ap mid y am) m o O Y C E/\E.heap.get? i=A (jS bF tb)/\E.heap.get? bF=A (cf<|cT<|f6 aQ)/\(gO 1944 1940).At (aT k ap mid y am) m o O E) (aW:=[]) (ao:=[]) (v:=ET az k.params y) (bh:=ta k.params y) f (by show 0<20;decide) kt ⟨df,a6.all _ _ mT,a6.all _ _ rP,fK⟩ (λE e=>aG.sub e.1.2 _ _ _ (Tf ..) f) f (λE eM e t=>⟨e.1.grow t,t.all _ _ e.2.1,t.all _ _ e.2.2.1,e.2.2.2.it t aP aP⟩) ?_;rintro aY bT bQ rfl;have h3:=df.grow bQ;have kg:(gO 1944 1940).At (aT k ap mid y am) m o O bT:=fK.it bQ aP aP;refine cx kg.1 λBW b8=>cJ b8 λcE bI=>afo (bf:=u.in1) aG ar P h3 aX (bQ.all _ _<|a6.all _ _ mT) br (bQ.all _ _<|a6.all _ _ ib) gg bp (bQ.all _ _<|a6.all _ _ rP) bI ar.1 (by have:=ar.2;show u.depth<=900;exact c' (.l .x<|.n 900) [.l (.a .x<|.o .y)<|.n 900] f this) U λcF aH t cl er j' ec cZ bW cR f3 jL sN v1 rD qJ e6 pC ka ia wA kS=>?_;subst ka;have nR:=kg.2 1940 bm;have dx:∀b∈[aH,cl],bT.heap.objs.size<=b/\b<cZ.heap.objs.size:=λb n=>by
  revert b;refine gr ?_ ?_
  .exact⟨cR,sN⟩
  .intro b n;rw[bc n];exact⟨f3,v1⟩
 have rS:bo (aT k ap mid y am) m ([aH,cl]++o) O cZ.heap.objs.size C cZ:=h3.w9 b7 (λG U=>by rw[bc U];exact nR.1) (λG U=>by rw[bc U];exact nR.2.2.1) e6 (h3.2.Qt (.inl<|kE.mpr<|.inr f) e6 bI pC) λb n=>(dx b n).1;have gW:ap.heap.objs.size<=bT.heap.objs.size:=h3.2.1.2;have i1:=P.up (cC:=bT.heap.objs.size) h3.1;have wB:∀b∈o,b<bT.heap.objs.size:=λb n=>i1.8 b n;have cr:∀b∈[aH,cl],b∈[aH,cl]++o/\b∉O/\b∉bY m/\(b∈(aT k ap mid y am).tabs\/ap.heap.objs.size<=b)/\b<cZ.heap.objs.size:=λb n=>⟨bO n,λe=>b4 (wB b (P.5 b e).1) (dx b n).1,λe=>b4 (wB b (P.4 b e).1) (dx b n).1,.inr<|a' gW (dx b n).1,(dx b n).2⟩;have eg:(gO 1944 1940).At (aT k ap mid y am) m ([aH,cl]++o) O cZ:=by
  refine⟨⟨λe=>?_,_,pC⟩,λb n=>?_,aP⟩
  .exact bD e (λe=>b4 bI.1.lt.1 (dx _ e).1) λe=>BW e
  .exact l (bc n)<|⟨bB nR.1,nR.2.1,nR.2.2.1,nR.2.2.2.1,cI nR.2.2.2.2 e6.2⟩
 have n9:(ww k u.in1 cF t aH (cl::er) [cl] ((aQ.length+7)/8) 0<|mu<|f7 aQ).At (aT k ap mid y am) m ([aH,cl]++o) O cZ:=by
  refine⟨⟨kS,ia,λb n=>?_,λb n=>a' (a' aG.2 gW) (dx b n).1⟩,cr,λq ah=>?_⟩
  .by_cases aZ:b∈[aH,cl]
   .exact⟨.inl aZ,(dx b aZ).2⟩
   .rcases e1.mp n with rfl|n
    .exact⟨.inr λe=>bD e aZ λe=>b4 (wB _ e) bW,jL⟩
    rcases e1.mp n with rfl|n
    .exact absurd bm aZ
    rcases e1.mp n with rfl|n
    .exact absurd (mt bm) aZ
    .exact cx (wA b n) λkO h'=>⟨.inr λe=>bD e aZ λe=>kO.elim (λG=>b4 (wB _ e) G) λG=>G e,h'⟩
  .exact l (bc ah)<|⟨a' h3.2.1.4 rD,qJ⟩
 have lT:a9 [] [] a bT:=(aI.trans a6).trans bQ;refine ac _ cZ (.raw<|.ref cF) _ _ _ ⟨cF,aH,t,cl,er,f,f,a' (a' aG.2 gW) cR,a' (a' aG.2 gW) f3⟩ ⟨λb n=>bB n,λb n=>bD n (λe=>.inr<|a' lT.2 (dx b e).1) .inl,λx c=>.inl c,λb n=>bD n .inl λe=>.inr<|a' lT.2 (dx b e).1,λq ah=>.inr ?_,?_⟩ (i1.n7 dx gW e6.2) rS (eg.both n9)<|f
 .have:q=t:=by
   refine bD ah (λe=>?_) λe=>?_
   .exact dI e
   .exact bc e
  rw[this];exact a' lT.4 rD
 .exact(lT.mono aP aP).trans<|e6.mono (λb n=>bB n) aP
section
variable{g:d7}{z:Nat}{T:dp}{C:cm}{m:Env}{o O ax:List aw}{Y:Nat}{u:ch}{a w:ai}{h M:Str}{B:bd}{ak:Pos}{b_:List eS}{aj:Inv}{cv:lq->cm->Inv->Prop}
theorem afH{eQ e':Pos}{J:List au->ai->Prop}{ak:Pos}(ac:∀aq aN w,a.heap.objs.size<=aq->aq<aN->aN<w.heap.objs.size->w.heap.get? aq=A (jp #[] 0)->w.heap.get? aN=A (jp #[] 0)->a9 [] [] a w->J [.ref aq,.ref aN] w):I g.prog g.w u (mB<|jV ak<|jh [.List [] eQ,.List [] e'] m) J a:=by
 have Tp:∀(r:Pos)(a:ai)(J:au->ai->Prop),J (.ref a.heap.objs.size) {a with heap:=a.heap.push<|jp #[] 0}->I g.prog g.w u (dF (.List [] r) m) J a:=by intro r a J c;exact dQ<|ea<|I.of<|i4 c (by show 0<=cp;exact hf _)
 refine I.bind<|Tp eQ a _<|ea<|d2<|I.bind<|Tp e' _ _<|ea<|d2<|I.pure<|I.pure<|I.pure<|ac _ _ _ (dD _) (by show a.heap.objs.size<(a.heap.push<|jp #[] 0).objs.size;refine l (f' ..) ?_;exact ks _) (by show(a.heap.push<|jp #[] 0).objs.size<((a.heap.push<|jp #[] 0).push<|jp #[] 0).objs.size;refine l (f' (a.heap.push<|jp #[] 0) ..) ?_;exact ks _) (eT _<|fj _ f) (fj _ f) ?_;exact(bM.push a _ a.toks).trans<|bM.push {a with heap:=a.heap.push<|jp #[] 0} _ a.toks
theorem Tq(db:1993<=aq)(cA:aq∈o)(ag:aq∉O)(aF:aq∉bY m)(bb:g.s0.heap.objs.size<=aq)(cn:a.heap.get? aq=A (jp #[] 0)):(m_ aq []).At g m o O a:=⟨⟨db,⟨#[],0,cn,by show bX _ _ [] [];exact f⟩,λV s j=>by
  have cR:V=#[]:=by have:=congrArg Dk<|fu<|cn.symm.trans j;simp only[jp,Ov]at this;exact this.1.symm
  exact cR.symm▸aP⟩,λb n=>bc n▸⟨cA,ag,aF,.inr bb,dH cn⟩,aP⟩
namespace b3
theorem aeL{eQ e' hb hC rC fN:Pos}{i_ iY:Nat}(gg:1993<=g.s0.heap.objs.size)(b7:je C)(X:kU T h=W)(a3:kU T M=W)(pD:∀m:Env,m.scope=T->zC [.Tuple [.Name h eQ,.Name M e'] i_ rC] (.Tuple [.List [] hb,.List [] hC] iY fN) ak.line m=dC a2)(Fw:∀m:Env,m.scope=T->zD [.Tuple [.Name h eQ,.Name M e'] i_ rC] (.Tuple [.List [] hb,.List [] hC] iY fN) m=dC (A [h,M]))(c:∀aq aN,aq≠aN->aq∉aj.W->aN∉aj.W->b3 g z u T (aj.both<|(m_ aq []).both<|m_ aN []) ((h,.f<|.raw<|.ref aq)::(M,.f<|.raw<|.ref aN)::C) b_ cv):b3 g z u T aj C (.Assign [.Tuple [.Name h eQ,.Name M e'] i_ rC] (.Tuple [.List [] hb,.List [] hC] iY fN) ak::b_) cv:=next λm o O ax Y a ar Q P r ah=>by
 refine I.eq (Hu ..)<|dQ<|I.eq (l (pD m Q) f)<|ea ?_;refine fY aS<|I.bind<|I.eq (arm_eval_Tuple ..)<|dQ<|I.bind<|afH λaq aN an db BX gN ag aF aI=>?_;refine I.of<|i4 (I.bind<|I.eq (Fw m Q ..) ?_) (by show 2<=cp;decide);refine ea<|I.pure<|dv<|l_ ?_;have cz:Heap.IsTuple (an.heap.push {cls:=.type "tuple",data:=.seq [e8 aq,e8 aN].toArray}) an.heap.objs.size #[.ref aq,.ref aN]:=⟨_,fj _ f,f,0,f⟩;have K5:a9 [] [] an {an with heap:=an.heap.push {cls:=.type "tuple",data:=.seq [e8 aq,e8 aN].toArray}}:=bM.push an _ an.toks;generalize hH:({an with heap:=an.heap.push {cls:=.type "tuple",data:=.seq [e8 aq,e8 aN].toArray}}:ai)=al at K5;refine I.bind<|kP<|I.of<|MP (items:=#[.ref aq,.ref aN]) ar.1 (hH▸cz) λaa br G=>?_;have bQ:a9 [] [] al {al with heap:=aa}:=bM.heap (y:=al.toks) (λb v x j=>br b v (hS<|dH j) j) G.1;generalize({al with heap:=aa}:ai)=bT at bQ;have lT:a9 [] [] a bT:=(aI.trans K5).trans bQ;have pM:a9 [] [] an bT:=K5.trans bQ;have gW:g.s0.heap.objs.size<=a.heap.objs.size:=r.2.1.2;have e3:=P.up (cC:=a.heap.objs.size) r.1;have dx:∀b∈[aq,aN],a.heap.objs.size<=b/\b<bT.heap.objs.size:=λb n=>by
  revert b;refine gr ?_ ?_
  .exact⟨db,cI (C8 BX gN) pM.2⟩
  .intro b n;rw[bc n];exact⟨no<|mD db BX,cI gN pM.2⟩
 have i1:ct g m ([aq,aN]++o) O ax bT.heap.objs.size:=e3.n7 dx gW lT.2;have wB:∀b∈o,b<a.heap.objs.size:=λb n=>e3.8 b n;have y4:∀b∈[aq,aN],b∉O/\b∉bY m/\b∉aj.W:=λb n=>⟨λe=>b4 (wB b (P.5 b e).1) (dx b n).1,λe=>b4 (wB b (P.4 b e).1) (dx b n).1,λe=>b4 (ah.2 b e).2.2.2.2 (dx b n).1⟩;have afI:(m_ aN []).At g m ([aq,aN]++o) O bT:=Tq (a' (a' gg gW) (dx aN (by exact mt bm)).1) (mt bm) (y4 aN (by exact mt bm)).1 (y4 aN<|mt bm).2.1 (a' gW (dx aN<|mt bm).1)<|pM.all _ _ aF;have afJ:=((ah.wide (λb n=>bB n) λb n=>bD n (λe=>.inr (dx b e).1) .inl).it lT aP aP).both<|(Tq (a' (a' gg gW) db) (by exact bm) (y4 aq<|bm).1 (y4 aq<|bm).2.1 (a' gW db)<|pM.all _ _ ag).both afI;show I _ _ u (zB [o' m M,o' m h] [.ref aN,.ref aq]>>=λx=>dC Flow.next) _ bT;refine I.bind<|d2<|vB (b:=a2) i1 (r.w9 b7 (cd:=[]) aP aP lT (r.2.to lT aP) λb n=>(dx b n).1) (B:=.raw<|.ref aN) f (Q▸a3) λcZ e6 rS=>d2 ?_;refine vB (b:=a2) i1 rS (B:=.raw<|.ref aq) f (Q▸X) λuv op BY=>?_;have px:zB [] []=dC ():=f;refine I.pure<|I.pure ⟨f,_,_,[aq,aN]++o,O,_,(⟨λb n=>bB n,λb n=>bD n (λe=>.inr (dx b e).1) .inl,λx c=>.inl c,λb n=>?_,λq ah=>.inl ?_,?_⟩),i1,BY,(afJ.off i1 e6 λb n=>.inr n).off i1 op λb n=>.inr n,c aq aN (hS BX) (y4 aq (by exact bm)).2.2 (y4 aN<|mt bm).2.2⟩
 .exact bD n (λe=>.inl e) λe=>.inr (dx b e).1
 .refine bD ah (λe=>?_) λe=>?_
  .exact e
  .exact dI e
 .exact((lT.mono aP aP).trans<|e6.mono (λb n=>bO<|bB n) aP).trans<|op.mono (λb n=>bO<|bB n) aP
end b3
end
theorem AllP.map{bk d0 BZ:Type}{L:d0->BZ->Prop}{H:List bk}{R:bk->d0}{t:bk->BZ}(c:∀i∈H,L (R i)<|t i):AllP L (H.map R) (H.map t):=by refine⟨by simp,λq h M X a3=>?_⟩;rw[fW]at X a3;cases j:H[q]? with|none=>replace X:=j▸X;exact d1 X|some i=>rw[j]at X a3;cases X;cases a3;exact c i<|pf j
theorem AllP.h5{BZ:Type}{L:bd->BZ->Prop}{i z:Int}{s:Nat}{t:Nat->BZ}(c:∀q,q<s->L (.int<|i+q*z) (t q)):AllP L ((j7 i z s).map .int) ((c9 s).map t):=by have:(Mine.j7 i z s).map bd.int=(c9 s).map λ(q:Nat)=>bd.int (i+q*z):=ph ..;exact l this<|AllP.map λq ah=>c q<|mF.mp ah
theorem Tr(bu:List Int)(R:Int->List Int):(bu.map λk=>(R k).map bd.int).flatten=(bu.flatMap R).map bd.int:=by induction bu with|nil=>rfl|cons k bu a5=>exact l ju<|l oF<|l a5<|l tE<|l mb f
theorem wC(H:List bk)(R:bk->bd):(H.map λi=>[R i]).flatten=H.map R:=by induction H with|nil=>rfl|cons k bu a5=>refine l ju<|l oF<|l a5 ?_;rfl
noncomputable def tc(s:Nat):List bd:=(c9 s).map λ(q:Nat)=>bd.int q
theorem afK(s:Nat):(j7 0 1 s).map bd.int=tc s:=by simp[j7,tc]
theorem aE.range(s:mQ g){h:Str}{ae:Nat}{e:Pos}{ie:Bool}(c:c5 g z T C j ae)(U:ae<2^62)(X:eE T "range"=W:=by cbv)(ay:dT j=W:=by rfl):gx g z T C ie (.Name h dO) (.Call (.Name "range" e) [j] [] ak) (tc ae):=by exact c2 (afK ..)<|aE.t_ s c U X ay
theorem vI.one{b5 ht dz:bH}{a4:dp}{bk:Type}{H:List bk}{l1 lA:bk->bd}(ey:gx g z T C a2 b5 ht<|H.map l1)(c:∀i∈H,mn W (eI a4 T) b5 (l1 i)/\af g z (eI a4 T) (kx b5 (l1 i)<|hA (eI a4 T) C) dz .b2 (lA i))(U:H.length<=cp)(kv:ob a4 T=W:=by cbv)(fr:oX b5 (hA (eI a4 T) C)=W:=by cbv)(be:rz ht:=by exact λx x=>f):vI g z T C dz ⟨b5,ht,[],0⟩ [] a4 ak (H.map l1) (H.map λi=>[lA i]):=⟨⟨kv,f,hf _,λcc e=>(d1 e),be,AllP.map λi aX=>⟨(c i aX).1,A8 fr,mo.one f f (c i aX).2⟩,by refine l (wC ..)<|l (gp ..) ?_;exact U⟩,ey⟩
theorem aE.comp{b5 ht dz:bH}{a4:dp}{bk:Type}{H:List bk}{l1 lA:bk->bd}(s:mQ g)(ey:gx g z T C a2 b5 ht<|H.map l1)(c:∀i∈H,mn W (eI a4 T) b5 (l1 i)/\af g z (eI a4 T) (kx b5 (l1 i)<|hA (eI a4 T) C) dz .b2 (lA i))(U:H.length<=cp)(kv:ob a4 T=W:=by cbv)(fr:oX b5 (hA (eI a4 T) C)=W:=by cbv)(be:rz ht:=by exact λx x=>f):af g z T C (.ListComp dz [⟨b5,ht,[],0⟩] a4 ak) .fr (.lst<|H.map lA):=by have:=af.comp (ak:=ak) s.ok<|vI.one (ak:=ak) ey c U kv fr be;rwa[wC]at this
theorem aE.QG{b5 ht dz:bH}{a4:dp}{bk:Type}{H:List bk}{l1:bk->bd}{lA:bk->Int}(s:mQ g)(ey:gx g z T C a2 b5 ht<|H.map l1)(c:∀i∈H,mn W (eI a4 T) b5 (l1 i)/\c5 g z (eI a4 T) (kx b5 (l1 i)<|hA (eI a4 T) C) dz (lA i))(U:H.length<=cp)(kv:ob a4 T=W:=by cbv)(fr:oX b5 (hA (eI a4 T) C)=W:=by cbv)(be:rz ht:=by exact λx x=>f):af g z T C (.ListComp dz [⟨b5,ht,[],0⟩] a4 ak) .fr (bN<|H.map lA):=by have:=aE.comp (ak:=ak) (lA:=λi=>bd.int<|lA i) s ey c U kv fr be;exact l (bN.eq_1 ..)<|l ph this
theorem aE.Gj{b5 ht dz:bH}{a4:dp}{bk:Type}{H:List bk}{l1:bk->bd}{lA:bk->Int}{pE vN:Pos}{M:Str}(s:mQ g)(ey:gx g z T C a2 b5 ht<|H.map l1)(c:∀i∈H,mn W (eI a4 T) b5 (l1 i)/\c5 g z (eI a4 T) (kx b5 (l1 i)<|hA (eI a4 T) C) dz (lA i))(U:H.length<=cp)(aB:bE g z T a0 ((M,.o<|bN<|H.map lA)::C) b_ cv)(kv:ob a4 T=W:=by cbv)(fr:oX b5 (hA (eI a4 T) C)=W:=by cbv)(be:rz ht:=by exact λx x=>f)(a3:(T.names.lookup M==A .local)=W:=by cbv)(aM:(pE.line==ak.line)=W:=by rfl)(A2:(a4.names.any λh=>h.1==M&&(h.2==.local||h.2==.cell))=a2:=by cbv):bE g z T a0 C (.Assign [.Name M pE] (.ListComp dz [⟨b5,ht,[],0⟩] a4 ak) vN::b_) cv:=by refine bE.Gj s.ok (vI.one (lA:=λi=>bd.int<|lA i) ey c U kv fr be) a3 aM A2<|l (wC ..)<|l (show(H.map λi=>bd.int<|lA i)=(H.map lA).map bd.int by refine l ph ?_;rfl) ?_;exact aB
theorem bE.lock(aK:fU C h=A (.o B))(c:bE g z T a0 ((h,.b B)::C) b_ cv):bE g z T a0 C b_ cv:=λu m o O ax Y a ar Q P r=>by
 refine gc λx dA=>iL r.3 λcW aE ag aF bb=>bl (ag _ _<|mW aK) λaU hy bK=>bl bK λe9 j aB=>eW (aF _ _<|mW aK) λi aX pB bp=>?_;subst j;obtain rfl:e9=i:=by replace pB:=hy▸pB;cases pB;rfl
 refine dA ?_;have lM:∀b∈O.filter λb=>!(b==e9),b∈O:=λb n=>(tB.mp n).1;have eB:ct g m o (O.filter λb=>!(b==e9)) ax Y:=⟨P.1,P.2,P.3,λb n=>⟨(P.4 b n).1,(P.4 b n).2.1,λe=>(P.4 b n).2.2.1<|lM b e,(P.4 b n).2.2.2⟩,λb n=>P.5 b<|lM b n,P.6,P.7,P.8,P.9,P.10⟩;have bR:bo g m o (O.filter λb=>!(b==e9)) Y ((h,.b B)::C) a:=by
  refine⟨r.1,r.2,cW,aE,λM bt a3=>?_,λM av a3=>?_,λM av a3=>?_⟩
  .rcases iW a3 with⟨rfl,rfl⟩|⟨_,a3⟩
   .exact⟨_,hy,e9,f,aB⟩
   .exact ag M bt a3
  .rcases iW a3 with⟨_,e⟩|⟨c_,a3⟩
   .exact nomatch e
   .refine eW (aF M av a3) λb n j iS=>⟨b,tB.mpr ⟨n,?_⟩,j,λG E U bI=>?_⟩
    .have:b≠e9:=λe=>bp M av c_ a3<|e▸j;simpa using this
    .rcases iW bI with⟨_,e⟩|⟨_,bI⟩
     .exact nomatch e
     .exact iS G E U bI
  .rcases iW a3 with⟨rfl,_⟩|⟨_,a3⟩
   .refine⟨e9,hy,λe=>?_,λe=>(P.4 _ e).2.2.1 aX⟩;have:=(tB.mp e).2;simp at this
   .exact eW (bb M av a3) λb j dd ee=>⟨b,j,λe=>dd<|lM b e,ee⟩
 refine I.mono (c u m o _ ax Y a ar Q eB bR) λR w e=>e.gi λcN bP bi cw cC dJ dU dN eK=>⟨cN,bP,bi,cw,cC,dJ,dU,⟨dN.1,dN.2,λb n=>(dN.3 b n).imp (lM b) id,dN.4.mono (λb n=>bD n (λn=>?_) λn=>?_) λx c=>c⟩,eK⟩
 .exact bD n (λn=>bO<|bO<|lM b n) λn=>bO<|bB n
 .exact bB n
def K6(g:d7)(h:Str)(eh:List Str)(FD:dp)(el:List eS):Prop:=∃i bh,g.gl h=A (.ref i)/\vO g i bh el/\bh.scope=FD/\∀a aY,aY.length=eh.length->jr a bh ⟨aY,[]⟩ (eh.zip aY)
theorem aE.call(aO:g.Ok)(be:K6 g h eh FD el)(aX:ha g (z+1) T C as eP)(iU:bE g z FD [] (jn eh eP []) el λcN x=>cN=.ret mO)(aM:eP.length=eh.length:=by rfl)(X:eE T h=W:=by cbv)(aJ:eh.all (kU FD)=W:=by cbv)(sO:as.length<20:=by decide):af g (z+1) T C (.Call (.Name h dO) as [] ak) .b2 mO:=by refine DC be λi bh aK Q b8 n=>?_;obtain rfl:=b8;exact af.call aO aK X Q aX aM n aJ iU sO
section
section
variable{g:d7}{z:Nat}{T:dp}{C:cm}{m:Env}{o O ax:List aw}{Y:Nat}{u:ch}{a w:ai}{h:Str}{B:bd}{aU:au}{j:bH}{ak dO:Pos}{p:hx}{aj bL:Inv}{hp:bd->Inv->Prop}{R:au}{mO:bd->bd}
theorem cU.QH(aO:g.Ok)(aK:g.gl h=A R)(X:eE T h=W)(be:Aw R=W)(ay:dT j=W)(br:cU g z u T aj C j hp)(qp:∀(m:Env)(o O ax:List aw)(Y:Nat)(a:ai)B dn aU,hp B dn->ct g m o O ax Y->bo g m o O Y C a->dn.At g m o O a->bV a.heap o B aU->∀J:au->ai->Prop,(∀on al hz,wD hz dn->a9 [] [] a al->bV al.heap o hz on->J on al)->I g.prog g.w u (et R [aU] []) J a):cU g z u T aj C (.Call (.Name h dO) [j] [] ak) wD:=λm o O ax Y a ar Q P r ah J ac=>by
 have hk:eE m.scope h=W:=Q▸X
 .refine I.bind<|qq (aW:=[]) (ao:=[]) (ix (C:=C) aO P aK hk) (tX hk) a _ r λaU an aI lv=>l lv<|vs (iR:=[]) (L:=λE=>E=an) (aW:=O++bY m++aj.W) (ao:=aj.G) (aE:=λE aY=>∃aU B dn cD eb,aY=[aU]/\hp B dn/\f4 aj m o O cD O dn an E/\ct g m cD O ax eb/\bo g m cD O eb C E/\dn.At g m cD O E/\bV E.heap cD B aU) be (by simp[ay]) ?_ f ?_
  .rintro E J ak rfl o2;exact l (jA ay)<|(I.bind<|br m o O ax Y E ar Q P (r.grow aI) (ah.it aI aP aP) _ λaU al B dn cD eb ag aF bb cn eC gS=>ea<|d2<|I.pure<|I.pure<|o2 _ _ aF.6<|OM aU B dn cD eb f ag aF bb cn eC gS)
  .rintro aY al _ dX;exact DH dX λaU B dn cD eb eO ag aF bb cn eC gS=>l eO<|qp m cD O ax eb al B dn aU ag bb cn eC gS _ λon bT hz ge bQ D=>ac on bT hz dn cD eb ge (((f4.nF aI).trans aF).trans<|f4.nF bQ) bb (cn.grow bQ) (eC.it bQ aP aP) D
theorem cU.aeP{hp:List Int->Inv->Prop}(aq:aw)(aO:g.Ok)(aK:g.gl "bytearray"=A (.type "bytearray"))(db:∀ab bL m o O a,hp ab bL->bL.At g m o O a->aq∈o)(br:cU g z u T aj C j λB bL=>∃ab,B=bN ab/\hp ab bL/\fJ ab/\ab.length<=cp)(X:eE T "bytearray"=W:=by cbv)(ay:dT j=W:=by rfl):cU g z u T aj C (.Call (.Name "bytearray" dO) [j] [] ak) (λhz bL=>∃ab b,hz=.gf [(b,cf<|cT ab)] (.ref b)/\aq<=b/\hp ab bL):=by
 refine cU.QH aO aK X f ay br ?_;rintro m o O ax Y a B dn aU fE P r ah D J ac;refine iL fE λab gh ag n U=>?_;obtain rfl:=gh;refine iM (bV.jB D) λi V s gV ge aB=>l gV<|cx (af.zI n aB) λdd ee=>?_;have cP:V.toList.length=ab.length:=by have:=aB.length;simpa using this
 refine Po (V:=V.toList) ⟨_,ge,f,s,f⟩ dd (cP▸U) λaa ae=>?_;replace ae:=ee▸ae;exact ac _ _ (.gf [(a.heap.objs.size,cf<|cT ab)]<|.ref a.heap.objs.size) ⟨ab,_,f,no<|cI (P.8 _<|db _ _ _ _ _ _ ag ah) r.1,ag⟩ ae.grow<|⟨f,λe aZ=>l (bc aZ)<|⟨λe=>iK _<|cI (P.8 _ e) r.1,ae.1⟩⟩
end
variable{k:ck}{ap:ai}{mid:Nat->Obj}{y:Nat}{am:go}{z:Nat}{T:dp}{C:cm}{u:ch}{a0 b0:Inv}{cF aH cl t ae aC s:Nat}{er:List aw}{R:Nat->Int}{h:Str}{j:bH}{a4:dp}{dd ee i' qz qA yU s9 s_ s' ak:Pos}{dR:Nat}
theorem cU.words(aG:dg k ap mid y am)(b7:je C)(aK:fU C h=A (.f<|.raw<|.ref cF))(X:g9 T h=W)(br:c5 (aT k ap mid y am) z T C j s)(bw:aC+s<=ae)(U:s<=2^20)(rT:∀b∈[aH,cl],b∉a0.W/\b∉b0.W)(Ts:t∉a0.G/\t∉b0.G)(J9:eE T "range"=W)(J_:eE T "zip"=W)(ay:dT j=W)(kW:ob a4 T=W)(cr:(a4.names.lookup ("word":Str)==A .local&&a4.names.lookup ("k":Str)==A .local)=W)(gG:([("k":Str),("word":Str)].all<|oR W<|eI a4 T)=W)(y5:g9 (eI a4 T) "word"=W)(mX:hA (eI a4 T) C=[]):cU (aT k ap mid y am) z u T ((a0.both<|ww k u.in1 cF t aH (cl::er) [cl] ae aC<|mu R).both b0) C (.ListComp (.Name "word" dd) [⟨.Tuple [.Name "k" ee,.Name "word" i'] dR qz,.Call (.Name "zip" qA) [.Call (.Name "range" yU) [j] [] s9,.Name h s_] [] ak,[],0⟩] a4 s') (λB bL=>B=bN ((c9 s).map λq=>R<|aC+q)/\bL=(a0.both<|ww k u.in1 cF t aH (cl::er) [cl] ae (aC+s)<|mu R).both b0):=λm o O ax Y a ar Q P r ah J ac=>by
 subst Q;have jG:=ah.fst.snd;have B0:=ah.fst.fst.both ah.snd;refine hG jG.1 λkS ia ky mV=>?_;have aO:=ik aG;have iV:=r.now;have e3:=P.up (cC:=a.heap.objs.size) r.1;have K7:∀b∈[aH,cl],b∈o/\ap.heap.objs.size<=b/\b∉bY m:=λb n=>by refine j0 (jG.2 b n) λdJ dU dN eK f_=>⟨dJ,eK.elim (λe=>?_) id,dN⟩;have:=mV b n;rcases kE.mp e with rfl|rfl<;>exact absurd this aS
 have K8:∀b∈(a0.both b0).W,b∈o:=λb n=>(B0.2 b n).1;refine RA (g:=aT k ap mid y am) (z:=z) (aj:=a0.both b0) (j5:=[aH,cl]) (kT:=[t]) (k1:=λE=>iz az k u.in1 cF t aH (cl::er) [cl] ae (mu R) (aC+s) E) (bs:=(c9 s).map λ(q:Nat)=>.tup [.int q,.int<|R<|aC+q]) (dP:=(c9 s).map λq=>[.int<|R<|aC+q]) aO ⟨kW,f,hf _,λcc e=>(d1 e),λx x=>f,?_,by refine l (wC ..)<|l (gp ..)<|l pg ?_;exact a' U aS⟩ b7 ?_ K7 (λq fy=>?_) ar P r B0 ?_
 .refine AllP.map λq fy=>⟨⟨["k","word"],f,f,gG⟩,?_,pL.of<|mo.one f f<|af.name (B:=.int<|R<|aC+q) ?_ y5⟩
  .exact l mX λM bt e=>nomatch e
  .refine l mX ?_;rfl
 .refine abR (g:=aT k ap mid y am) (z:=z) (Y:=a.heap.objs.size) (ax:=ax) (C:=C) (L:=λE=>bo (aT k ap mid y am) m o O a.heap.objs.size C E/\a.gens.size<=E.gens.size/\a9 [] [] a E) aO ar e3 (λE e=>⟨e.1,kS.frame ia e.2.2 (λx e=>dI e) λe=>(dI e),cI (jG.3 t bm).2 e.2.1,λb n=>cI (ky b n).2 e.2.2.2⟩) (λE eM e cc=>⟨e.1.grow cc,a' e.2.1 cc.4,e.2.2.trans cc⟩) (co.weak (fc br ar f e3) λE e=>e.1) (λE J e ac=>(af.raw (g:=aT k ap mid y am) (z:=z) aK X) u m o O ax a.heap.objs.size ar f e3 E J e.1 λaU eM cc D=>ac aU eM cc ?_) wi S2 J9 J_ ay (bZ (.t .x<|.n 4611686018427387904) [.l .x<|.n 1048576] f U) bw ia (λb n e=>?_) λb n=>e3.8 b<|K8 b n
  .have gw:bV eM.heap o (.raw<|.ref cF) aU:=D;exact gw
  .exact eU ((ky b n).1) (λG=>bD e (rT b G).1 (rT b G).2) λG=>G<|K8 b e
 .exact l (bc fy)<|⟨(jG.3 t bm).1,λe=>bD e Ts.1 Ts.2⟩
 .intro uw B1 w k0 g' pI wg t9 IT ja afL Tt eX;refine cJ k0 λpu k0=>⟨pu,k0,λaa dB=>?_⟩;have d8:a9 [uw] [] w {w with heap:=aa}:=bM.same (y:=w.toks) dB;have kd:a9 ([aH,cl]++(a0.both b0).W) ([t]++(a0.both b0).G) a {w with heap:=aa}:=g'.gR d8 (λb n=>.inr<|bc n▸fS pI) λx e=>dI e;have t0:∀b∈[aH,cl]++(a0.both b0).W,b∈o/\b∉bY m:=λb n=>bD n (λe=>⟨(K7 b e).1,(K7 b e).2.2⟩) λe=>⟨(B0.2 b e).1,(B0.2 b e).2.2.1⟩;have K9:fp (aT k ap mid y am) {w with heap:=aa}:=eX.to d8 λG U=>bc U▸a' r.2.1.2 pI;have K_:uw∉o:=λe=>b4 (e3.8 _ e) pI;have Tu:(a0.both b0).At (aT k ap mid y am) m o O {w with heap:=aa}:=by have dd:=afL (uw::o) (λb n=>mt n) λb n=>di n (λe=>e▸bm) λe=>mt<|mt e;have ee:=dd.it d8 (λb n=>(bc n).symm▸⟨bm,λG=>K_<|K8 _ G⟩) λx e=>dI e;exact ee.narrow B0 (λb n=>mt n) kd.2
  have afM:∀b∈cF::aH::cl::er,b≠uw:=λb n e=>b4 (ky b n).2<|e▸pI;have afN:(ww k u.in1 cF t aH (cl::er) [cl] ae (aC+s)<|mu R).At (aT k ap mid y am) m o O {w with heap:=aa}:=⟨⟨Tt.frame ia d8 (λb n e=>afM b e<|bc n) λe=>dI e,ia,λb n=>⟨(ky b n).1,cI (ky b n).2 kd.2⟩,mV⟩,λb n=>j0 (jG.2 b n) λdJ dU dN eK f_=>⟨dJ,dU,dN,eK,cI f_ kd.2⟩,λq fy=>⟨(jG.3 q fy).1,cI (jG.3 q fy).2 kd.4⟩⟩;refine ac (.ref B1) _ (bN<|(c9 s).map λq=>R<|aC+q) ((a0.both<|ww k u.in1 cF t aH (cl::er) [cl] ae (aC+s)<|mu R).both b0) o Y ⟨f,f⟩ ⟨λx c=>c,λx c=>.inl c,λx c=>.inl c,λx c=>.inl c,λx c=>.inl c,kd.mono (λb n=>bB ?_) λq fy=>?_⟩ P (r.uL b7 (λG U=>(t0 G U).1) (λG U=>(t0 G U).2) kd K9) ((Tu.fst.both afN).both Tu.snd) ?_
  .exact bD n (λe=>bO<|bB e) λe=>bD e (λe=>bO<|bO e) λe=>bB e
  .exact eU (jW.mp fy) (λe=>bO<|bB e) λe=>bD e (λe=>bO<|bO e) λe=>bB e
  .have sH:B1∉o:=λe=>b4 (e3.8 _ e) wg;have:=((ja.obj (ip<|ip t9) dB).sub (aW:=o) λM a3=>mt a3).rep sH;rw[wC]at this;show bV aa o (.lst<|((c9 s).map λq=>R<|aC+q).map bd.int) _;exact l ph this
end
theorem afO:∀(i b:Nat),(i|||b)=(i^^^b)+(i&&&b):=by intro i;induction i using GV with|ind i a5=>
  intro b;by_cases c:i=0
  .subst c;simp
  have q:=a5 (i/2) (gT [2,1,1] (.t .x .y) [.t (.n 0) .y,.l (.m 2 .x) .y] f (GY c)<|pn _ 2)<|b/2;have Ea:(i|||b)/2=i/2|||b/2:=Nat.or_div_two;have S:(i^^^b)/2=i/2^^^b/2:=Nat.xor_div_two;have dU:(i&&&b)/2=i/2&&&b/2:=Nat.and_div_two;have n4:(i|||b)%2=i%2|||b%2:=Nat.or_mod_two_pow (n:=1);have afP:(i^^^b)%2=i%2^^^b%2:=Nat.xor_mod_two_pow (n:=1);have afQ:(i&&&b)%2=i%2&&&b%2:=Nat.and_mod_two_pow (n:=1);have cV:(i%2|||b%2)=(i%2^^^b%2)+(i%2&&&b%2):=by have ag:=zR i;have aF:=zR b;rcases ag with j|j<;>rcases aF with cg|cg<;>refine l j (l cg ?_)<;>rfl
  refine c2 (tx (i|||b) 2)<|c2 (tx (i^^^b) 2)<|c2 (tx (i&&&b) 2) ?_;refine l Ea<|l S<|l dU<|l n4<|l afP<|l afQ<|l q<|l cV<|l (Db ..) ?_;exact Nat.add_add_add_comm ..
theorem K'(i:Nat):vc (i:Int)=-(i:Int)-1:=by unfold vc;rfl
theorem B2(i b:Nat):lH (i:Int) (b:Int)=((i^^^b:Nat):Int):=by
 have afR:Di (i:Int) (b:Int)=((i&&&b:Nat):Int):=by
  unfold Di;have ag:decide (0<=(i:Int))=W:=by rfl
  have aF:decide (0<=(b:Int))=W:=by assumption
  refine l ag<|l aF ?_;rfl
 have afS:NQ (i:Int) (b:Int)=((i|||b:Nat):Int):=by
  unfold NQ Di;refine l (K' ..)<|l (K' ..) ?_;have ag:decide (0<=-(i:Int)-1)=a2:=by simp;exact bZ (.cg (.g<|.c .x)<|.n 1) [] f
  have aF:decide (0<=-(b:Int)-1)=a2:=by simp;lia
  refine ag.symm▸aF.symm▸?_
  dsimp only;have bW:vc (-(i:Int)-1)=i:=by unfold vc;exact bZ (.eK (.s (.g<|.s (.g<|.c .x)<|.n 1)<|.n 1)<|.c .x) [] f
  have cR:vc (-(b:Int)-1)=b:=by unfold vc;exact bZ (.eK (.s (.g<|.s (.g<|.c .x)<|.n 1)<|.n 1)<|.c .x) [] f
  refine l bW<|l cR<|l (K' ..) ?_;simp only[mC];unfold vc;exact bZ (.eK (.s (.g<|.s (.g<|.c .x)<|.n 1)<|.n 1)<|.c .x) [] f
 unfold lH;exact l afR<|l afS<|l (afO i b)<|c' (.eK (.s (.c<|.a .x .y)<|.c .y)<|.c .x) [] f
theorem La(aX:0<=i/\i<2^s)(n:0<=b/\b<2^s):0<=lH i b/\lH i b<2^s:=by refine cJ (xi aX.1) λh bK=>?_;obtain rfl:=bK;refine cJ (xi n.1) λM b8=>?_;obtain rfl:=b8;refine l (B2 ..) ?_;have:=Ng (x:=h) (y:=M) (n:=s) (by exact_mod_cast aX.2) (by exact_mod_cast n.2);exact⟨by exact kL _,by exact_mod_cast this⟩
section
noncomputable def nS(t:List Int)(p:Nat)(il:Int):Nat->List Int->List Int|0,c7=>c7|s+1,c7=>(nS t p il s c7).set (p+s+1)<|lH ((nS t p il s c7).getD (p+s+1) 0)<|m8.getD (il+t.getD s 0).toNat 0
theorem afT{t:List Int}{p:Nat}{il:Int}{s:Nat}{c7:List Int}:nS t p il (s+1) c7=(nS t p il s c7).set (p+s+1) (lH ((nS t p il s c7).getD (p+s+1) 0)<|m8.getD (il+t.getD s 0).toNat 0):=rfl
noncomputable def td(t:List Int)(c7:List Int)(p:Nat):List Int:=if c7.getD p 0=0 then c7 else nS t p (k3.getD (c7.getD p 0).toNat 0) t.length c7
noncomputable def o4(t ab:List Int)(p:Nat):List Int:=(c9 p).foldl (td t)<|ab++dE t.length 0
noncomputable def nT(t ab:List Int):List Int:=(o4 t ab ab.length).drop ab.length
def B3(t:List Int):Prop:=∀h∈t,0<=h/\h<255
theorem Lb:(k3.all λh=>decide (0<=h)&&decide (h<255))=W/\k3.length=256:=fv
theorem Lc:(m8.all λh=>decide (0<=h)&&decide (h<256))=W/\m8.length=510:=by decide+kernel
theorem FE{H:List Int}{b:Int}(n:0<b)(c:(H.all λh=>decide (0<=h)&&decide (h<b))=W)(q:Nat):0<=H.getD q 0/\H.getD q 0<b:=by refine(hF).symm▸?_;cases j:H[q]? with|none=>exact⟨GP _,n⟩|some h=>have:=hU.mp c h<|pf j;simpa using this
theorem afU(q:Nat):0<=k3.getD q 0/\k3.getD q 0<255:=FE aS Lb.1 q
theorem Tv(q:Nat):0<=m8.getD q 0/\m8.getD q 0<256:=FE aS Lc.1 q
theorem afV{t:List Int}(c:B3 t)(q:Nat):0<=t.getD q 0/\t.getD q 0<255:=by refine FE aS (hU.mpr λh X=>?_) q;have:=c h X;simpa using this
theorem Ld{H:List Int}(c:fJ H)(q:Nat):0<=H.getD q 0/\H.getD q 0<256:=by refine FE aS (hU.mpr λh X=>?_) q;have:=c h X;simpa using this
theorem Tw(c:fJ H)(X:0<=h/\h<256)(q:Nat):fJ (H.set q h):=λk cr=>by
 refine eU (Ns cr) (λe=>?_) λe=>?_
 .exact c k e
 .exact l e X
theorem Le:∀(s:Nat){c7:List Int},fJ c7->fJ (nS t p il s c7)/\(nS t p il s c7).length=c7.length|0,c7,c=>⟨c,f⟩|s+1,c7,c=>by exact cx (Le (t:=t) (p:=p) (il:=il) s c) λag aF=>⟨Tw ag (La (s:=8) (Ld ag _)<|Tv _) _,by exact l Dh<|l aF f⟩
theorem afW(c:fJ c7):fJ (td t c7 p)/\(td t c7 p).length=c7.length:=by
 unfold td;split
 .exact⟨c,f⟩
 .exact Le _ c
theorem Lf(t ab:List Int)(p:Nat):o4 t ab (p+1)=td t (o4 t ab p) p:=by unfold o4;refine l z8<|l z5 ?_;rfl
theorem Lg(c:fJ ab):∀p,fJ (o4 t ab p)/\(o4 t ab p).length=ab.length+t.length
 |0=>by
  unfold o4;refine⟨λk cr=>bD cr (λe=>?_) λe=>?_,by simp⟩
  .exact c k e
  .refine l (Hc e) ?_;decide|p+1=>by exact cx (Lg c (t:=t) p) λag aF=>l (Lf ..)<|cx (afW (t:=t) (p:=p) ag) λbb cn=>⟨bb,cn.trans aF⟩
section
variable{g:d7}{z:Nat}{T:dp}{C:cm}{u:ch}{j:bH}{ak e:Pos}{s:Nat}{aj:Inv}
noncomputable def B4(s:Nat)(E av B:Tok):Obj:={cls:=.type "range",data:=.fields #[.int 0 E,.int s av,.int 1 B]}
theorem cU.range(cK:mQ g)(c:c5 g z T C j s)(X:eE T "range"=W:=by cbv)(ay:dT j=W:=by rfl):cU g z u T aj C (.Call (.Name "range" e) [j] [] ak) (λB bL=>bL=aj/\∃D E av k,B=.gf [(D,B4 s E av k)] (.ref D)):=λm o O ax Y a ar Q P r ah J ac=>by
 subst Q;have JP:co g.prog g.w u [] [] m (bo g m o O Y C) (.Call (.Name "range" e) [j] [] ak) (λa aU=>∃D E av k,aU=.ref D/\D∉o/\a.heap.get? D=A (B4 s E av k)):=by refine mS P.ok (ix cK.ok P cK.range X) f (jl ay P.ok (fc c ar f P) (kr _) kt) ?_ (by simp[ay]);rintro a aY r b8 J ac;refine dZ b8 λx x dm dX eO=>?_;obtain rfl:=dm;obtain⟨E,rfl⟩:=dX;obtain rfl:=eO;exact I.of<|CP<|ac _ _ (bM.new _ _ a _ _) ⟨_,_,_,_,f,λe=>iK _<|cI (P.8 _ e) r.1,fj _ f⟩
 refine JP a _ r λaU an t e=>Aj e λD E av k bW aB aJ=>?_;subst bW;exact ac _ an (.gf [(D,B4 s E av k)]<|.ref D) aj o Y ⟨f,D,E,av,k,f⟩ (f4.nF t) P (r.grow t) (ah.it t aP aP)<|⟨f,λr a1=>bc a1▸⟨aB,aJ⟩⟩
theorem gx.ae2(aK:fU C h=A (.f<|.gf [(D,B4 s E av B)]<|.ref D))(X:g9 T h=W)(U:s<2^62):gx g z T C ie (.Name M dO) (.Name h e) ((j7 0 1 s).map .int):=gx.yO λu m o O ax Y ar Q P=>((af.name (g:=g) (z:=z) aK X) u m o O ax Y ar Q P).to λa aU aL=>by obtain⟨rfl,c⟩:=aL;obtain⟨ag,aF⟩:=c _ bm;have dW:sg 0 s 1=s:=D5 s;exact⟨D,s,E,av,B,f,ag,aF,small_one aS aS (kL _) (by exact_mod_cast U),dW⟩
end
end
noncomputable def i2(h:Nat):Nat:=if h<128 then 2*h else(2*h)^^^285
noncomputable def dM:Nat->Nat->Nat|0,h=>h|p+1,h=>i2<|dM p h
theorem FF(p h:Nat):dM (p+1) h=i2 (dM p h):=rfl
theorem afX(c:h<256):i2 h<256:=by have:((c9 256).all λh=>decide<|i2 h<256)=W:=fv;simpa using hU.mp this h<|mF.mpr c
theorem afY:((c9 8).all λaC=>(c9 256).all λh=>i2 (h^^^2^aC)==i2 h^^^i2 (2^aC))=W:=fv
theorem afZ:((c9 256).all λM=>M==0||(c9 8).any λaC=>decide<|M^^^2^aC<M)=W:=by decide+kernel
theorem ux(X:h<256)(a3:M<256):h^^^M<256:=Ng (n:=8) X a3
theorem af0:∀(M h:Nat),h<256->M<256->i2 (h^^^M)=i2 h^^^i2 M:=by intro M;induction M using GV with|ind M a5=>
  intro h X a3;by_cases aG:M=0
  .refine l aG ?_;simp[i2]
  have bI:=hU.mp afZ M<|mF.mpr a3;rw[w5]at bI;rcases bI with bI|bI
  .exact absurd (eq_of_beq bI) aG
  refine bl (Nq.mp bI) λaC c4 c1=>?_;have c1:M^^^2^aC<M:=of_decide_eq_true c1;have jT:=λG(U:G<256)=>eq_of_beq<|hU.mp (hU.mp afY aC c4) G<|mF.mpr U;have jI:M^^^2^aC<256:=C8 c1 a3;have j:M=(M^^^2^aC)^^^2^aC:=l (nZ ..)<|l (GZ ..)<|l (zT ..) f
  calc i2 (h^^^M)=i2 ((h^^^(M^^^2^aC))^^^2^aC):=by exact l (nZ ..)<|c2 j f
   _=i2 (h^^^(M^^^2^aC))^^^i2 (2^aC):=jT _<|ux X jI
   _=(i2 h^^^i2 (M^^^2^aC))^^^i2 (2^aC):=l (a5 _ c1 h X jI) f
   _=i2 h^^^i2 ((M^^^2^aC)^^^2^aC):=l (jT _ jI)<|l (nZ ..) f
   _=i2 h^^^i2 M:=c2 j f
theorem m'(c:h<256):∀p,dM p h<256|0=>c|p+1=>afX<|m' c p
theorem oq:∀p,dM p 0=0|0=>f|p+1=>by refine l (FF ..)<|l (oq p) ?_;rfl
theorem uy(X:h<256)(a3:M<256):∀p,dM p (h^^^M)=dM p h^^^dM p M|0=>f|p+1=>by refine l (FF ..)<|l (uy X a3 p)<|l (af0 _ _ (m' X p)<|m' a3 p) ?_;rfl
theorem pP(aC:Nat)(h:Nat):∀p,dM p (dM aC h)=dM (aC+p) h|0=>f|p+1=>by refine l (FF ..)<|l (pP aC h p) ?_;rfl
theorem Lh(aC p h:Nat):dM aC (dM p h)=dM p (dM aC h):=l (pP ..)<|l (pP ..)<|l (tz ..) f
theorem af1:((c9 256).all λh=>h==0||!(i2 h==0))=W:=fv
theorem Tx(c:h<256)(aG:h≠0):∀p,dM p h≠0
 |0=>aG|p+1=>by
  have:=hU.mp af1 (dM p h)<|mF.mpr<|m' c p;rw[w5]at this;rcases this with e|e
  .exact absurd (eq_of_beq e)<|Tx c aG p
  .simpa[FF]using e
def ev(H:List Nat):Prop:=∀h∈H,h<256
noncomputable def h9:List Nat->List Nat->List Nat|h::aA,M::ca=>(M^^^h)::h9 aA ca|[],ca=>ca|bC::dw,[]=>[]
theorem te(h:Nat)(aA:List Nat)(M:Nat)(ca:List Nat):h9 (h::aA) (M::ca)=(M^^^h)::h9 aA ca:=rfl
theorem Li:∀(av H:List Nat),(h9 av H).length=H.length|[],H=>by cases H<;>rfl|bC::dw,[]=>f|h::aA,M::ca=>by simp[te,Li aA ca]
theorem Tz:∀{av H:List Nat},ev av->ev H->ev (h9 av H)
 |[],H,bC,c=>by cases H<;>exact c|bC::dw,[],ic,su=>aP|h::aA,M::ca,d_,aM=>λG U=>by
  revert G;refine gr ?_ ?_
  .exact ux (aM M bm)<|d_ h bm
  .intro G U;exact Tz (λe aZ=>d_ e<|mt aZ) (λe aZ=>aM e<|mt aZ) G U
noncomputable def d8(t:List Nat)(g:Nat):List Nat:=t.map λaC=>dM aC g
theorem uz(c:g<256):ev (d8 t g):=λh X=>by exact j2 X λaC x bK=>c2 bK<|m' c aC
noncomputable def mx(t:List Nat):List Nat->List Nat|[]=>[]|g::H=>h9 (d8 t g) H
theorem Lj(t:List Nat)(g:Nat)(H:List Nat):mx t (g::H)=h9 (d8 t g) H:=rfl
noncomputable def na(t:List Nat):Nat->List Nat->List Nat|0,H=>H|s+1,H=>na t s<|mx t H
theorem B5(t:List Nat)(H:List Nat)(s:Nat):na t (s+1) H=na t s (mx t H):=rfl
noncomputable def im(t ab:List Nat):List Nat:=na t ab.length<|ab++dE t.length 0
theorem y6(c:ev H):ev (mx t H):=by cases H with|nil=>exact aP|cons g H=>exact Tz (uz<|c g bm) λe aZ=>c e<|mt aZ
theorem B7(t H:List Nat):(mx t H).length=H.length-1:=by cases H with|nil=>rfl|cons g H=>simp[Lj,Li]
theorem TA:∀(s:Nat){H:List Nat},ev H->ev (na t s H)|0,bC,c=>c|s+1,bC,c=>TA s<|y6 c
theorem TB(t:List Nat):∀(s:Nat)(H:List Nat),(na t s H).length=H.length-s|0,H=>f|s+1,H=>by refine l (B5 ..)<|l (TB t s ..)<|l (B7 ..) ?_;exact(jt (s)<|H.length-1).elim (λfh=>(jt ((s)+1)<|H.length).elim (λho=>tP [1,1,0,1,0,1,0] [1,0,1,0,1,0,1] (.e .x .y) [.l .z<|.a .x .w,.l .u<|.a .y<|.o .w,.l .u<|.a .z<|.n 1,.e (.a .x .w) .z,.e (.a .y<|.o .w) .u,.e (.a .z<|.n 1) .u] f (fk _ _) (fk _ _) (fk _ _) (eu fh) (eu ho)<|eu<|c' (.l (.n 1) .x) [.l (.o .y) .x] f ho) λho=>(jt 1<|H.length).elim (λLk=>tP [1,0,0,1,0] [1,1,1,0,1] (.e .x .y) [.l .z<|.o .w,.e (.a .x .w) .u,.e .y<|.n 0,.e (.a .u<|.n 1) .z] f ho (eu fh) (lL ho)<|eu Lk) λLk=>oJ [1,0,1,0] [1,1,0,1] (.e .x .y) [.l .x .z,.e .y<|.n 0,.e .z<|.n 0] f (hR _ _) (lL ho)<|lL Lk) λfh=>pm [1,0,1] [1,1,0] (.e .x .y) [.e .x<|.n 0,.e .y<|.n 0] f (lL fh)<|lL<|gv (.l .x<|.o .y) [.l .z .y,.l .x<|.a .z<|.n 1] f fh<|fk _ _
theorem wE(t ab:List Nat):(im t ab).length=t.length:=by unfold im;refine l (TB ..) ?_;simp
theorem qY(s:Nat):ev (dE s 0):=λh X=>by refine l (Hc X) ?_;decide
theorem qZ(aX:ev i)(n:ev b):ev (i++b):=λh X=>bD X (aX h)<|n h
theorem wF(c:ev ab):ev (im t ab):=TA _<|qZ c<|qY _
noncomputable def B8(r:Nat)(H:List Nat):Nat:=H.foldl (λD k=>k^^^dM r D) 0
noncomputable def lB(r:Nat):List Nat->Nat|[]=>0|g::H=>dM (r*H.length) g^^^lB r H
theorem y7(r g:Nat)(H:List Nat):lB r (g::H)=dM (r*H.length) g^^^lB r H:=rfl
theorem TC:∀{H:List Nat},ev H->lB r H<256|[],bC=>by show 0<256;decide|g::H,c=>ux (m' (c g bm) _)<|TC λe aZ=>c e<|mt aZ
theorem TD:∀(H:List Nat)(D:Nat),ev H->D<256->H.foldl (λD k=>k^^^dM r D) D=dM (r*H.length) D^^^lB r H|[],D,bC,dw=>(zT D).symm|g::H,D,c,aB=>by have aO:=c g bm;have aM:ev H:=λe aZ=>c e<|mt aZ;refine l z2<|l (TD H _ aM<|ux aO<|m' aB r)<|l (uy aO (m' aB r) ..)<|l (pP ..)<|(l jX ?_);have j:r+r*H.length=r*(H.length+1):=l (G0 ..)<|l (tz ..) f;exact l j<|c2 (nZ ..)<|l (Dc (dM (r*H.length) g) ..) f
theorem TE(c:ev H):B8 r H=lB r H:=by unfold B8;exact l (TD H 0 c aS)<|l (oq ..)<|l (zU ..) f
noncomputable def l2(r:Nat):Nat->List Nat->Nat|b0+1,h::aA=>dM (r*b0) h^^^l2 r b0 aA|_,_=>0
theorem FG(r b0 h:Nat)(aA:List Nat):l2 r (b0+1) (h::aA)=dM (r*b0) h^^^l2 r b0 aA:=rfl
theorem Ll:∀(b0:Nat){av:List Nat},ev av->l2 r b0 av<256|0,av,bC=>by cases av<;>(show 0<256;decide)|b0+1,[],bC=>by show 0<256;decide|b0+1,h::aA,c=>ux (m' (c h bm) _)<|Ll b0 λe aZ=>c e<|mt aZ
theorem TF:∀(av H:List Nat),ev av->ev H->lB r (h9 av H)=l2 r H.length av^^^lB r H
 |[],H,_,_=>by cases H<;>exact(zU _).symm|_::_,[],_,_=>(zU 0).symm|h::aA,M::ca,d_,aM=>by
  have X:=d_ h bm;have a3:=aM M bm;have q:=TF (r:=r) aA ca (λe aZ=>d_ e<|mt aZ) λe aZ=>aM e<|mt aZ;refine l (te ..)<|l (y7 ..)<|l (Li ..)<|l q<|l (uy a3 X ..)<|l jX<|l (FG ..)<|l (y7 ..)<|l (nZ ..)<|l (nZ ..)<|l (Dc (dM (r*ca.length) M) ..)<|l (nZ ..)<|l (nZ ..) ?_
  congr 1
  congr 1;exact l (Dc ..) f
theorem TG(ae:Nat):∀(b0:Nat)(av:List Nat),ev av->av.length<=b0->l2 r (b0+ae) av=dM (r*ae) (l2 r b0 av)
 |b0,[],_,_=>by
  have:∀b0,l2 r b0 []=0:=λb0=>by cases b0<;>rfl
  exact l (this ..)<|l (this ..)<|l (oq ..) f|0,_::_,_,c=>by simp at c|b0+1,h::aA,d_,aM=>by have B9:ev aA:=λe aZ=>d_ e<|mt aZ;exact l (show b0+1+ae=(b0+ae)+1 by exact c' (.e (.a (.o .x) .y)<|.o<|.a .x .y) [] f)<|l (FG ..)<|l (FG ..)<|l (TG ae b0 aA B9 (by simpa using aM))<|l (uy (m' (d_ h bm) _) (Ll b0 B9) ..)<|l (pP ..)<|c2 (Db ..) f
theorem TH(t:List Nat)(aO:g<256):∀(b0:Nat)(t:List Nat),l2 r b0 (d8 t<|dM p g)=dM p (l2 r b0<|d8 t g)
 |0,t=>by
  have:∀av,l2 r 0 av=0:=λav=>by cases av<;>rfl
  rw[this,this,oq]|b0+1,[]=>by show 0=dM p 0;exact l (oq ..) f|b0+1,aC::t=>by show dM (r*b0) (dM aC<|dM p g)^^^l2 r b0 (d8 t<|dM p g)=dM p (dM (r*b0) (dM aC g)^^^l2 r b0 (d8 t g));exact l (TH t aO b0 t)<|l (uy (m' (m' aO aC) _) (Ll b0<|uz aO) ..)<|l (Lh aC p g)<|l (Lh (r*b0) p ..) f
noncomputable def B'(t:List Nat):Bool:=(c9 t.length).all λr=>B8 r (d8 t 1)==dM (r*t.length) 1
theorem TI:∀(av:List Nat),l2 r av.length av=lB r av|[]=>f|h::aA=>l jX<|l (FG ..)<|l (y7 ..)<|l (TI aA) f
def wG(g:Nat):Prop:=g=0\/∃p,g=dM p 1
theorem af2(c:B' t=W)(a1:r<t.length)(aO:wG g)(gK:t.length<=b0):l2 r b0 (d8 t g)=dM (r*b0) g:=by
 have ag:l2 r t.length (d8 t 1)=dM (r*t.length) 1:=by have:=eq_of_beq<|hU.mp c r<|mF.mpr a1;rw[TE<|uz aS,<-TI]at this;rwa[show(d8 t 1).length=t.length by simp[d8]]at this
 refine cJ (⟨b0-t.length,by exact oJ [1,0,1] [1,1,0] (.e .x<|.a .y .z) [.l .x<|.a .z .y,.e (.a .z .y) .x] f (fk _ _)<|eu gK⟩:∃ae,b0=t.length+ae) λae b8=>l b8 ?_;rcases aO with rfl|⟨p,rfl⟩
 .have:∀(b0:Nat)(t:List Nat),l2 r b0 (d8 t 0)=0:=by intro b0;induction b0 with|zero=>intro t;cases d8 t 0<;>rfl|succ b0 a5=>intro t;cases t with|nil=>rfl|cons aC t=>show dM (r*b0) (dM aC 0)^^^l2 r b0 (d8 t 0)=0;refine l (oq ..)<|l (oq ..)<|l (a5 ..) ?_;rfl
  exact l (this ..)<|l (oq ..) f
 .refine l (TG ae t.length _ (uz<|m' aS p) (by simp[d8]))<|l (TH t aS ..)<|l ag<|l (pP ..)<|l (pP ..)<|l (pP ..) ?_
  congr 1;exact l (Db ..)<|gv (.e (.a .x<|.a .y .z)<|.a .y<|.a .x .z) [] f
theorem af3(c:B' t=W)(rU:∀g,g<256->wG g)(a1:r<t.length)(aM:ev H)(cP:t.length<H.length):lB r (mx t H)=lB r H:=by cases H with|nil=>simp at cP|cons g H=>have aO:=aM g bm;have jE:ev H:=λe aZ=>aM e<|mt aZ;refine(l (TF _ _ (uz aO) jE)<|l (af2 c a1 (rU g aO) (by simpa using Nat.le_of_lt_succ cP)) ?_);rfl
theorem TJ(c:B' t=W)(rU:∀g,g<256->wG g)(a1:r<t.length):∀(s:Nat){H:List Nat},ev H->s+t.length<=H.length->lB r (na t s H)=lB r H|0,bC,dw,ic=>f|s+1,H,aM,cP=>by exact(l (TJ c rU a1 s (y6 aM) (by refine l (B7 ..) ?_;exact nx (.l (.a .x .y) .z) [.l (.a (.o .x) .y) .w,.l .w<|.a .z<|.n 1] f cP<|fk _ _))<|l (af3 c rU a1 aM<|gv (.t .x .y) [.l (.a (.o .z) .x) .y] f cP) f)
theorem Lm:∀(i b:List Nat),ev i->ev b->lB r (i++b)=dM (r*b.length) (lB r i)^^^lB r b|[],b,bC,dw=>l (Ha ..)<|(l (oq ..)<|l (zU ..) f)|g::i,b,aX,n=>by have aO:=aX g bm;have ku:ev i:=λe aZ=>aX e<|mt aZ;exact l u8<|l (y7 ..)<|l (Lm i b ku n)<|l (y7 ..)<|l (uy (m' aO _) (TC ku) ..)<|l (pP ..)<|l io<|c2 (Db ..)<|l (nZ ..) f
theorem TK:∀s,lB r (dE s 0)=0|0=>f|s+1=>by refine l np<|l (y7 ..)<|l (oq ..)<|l (TK s) ?_;rfl
theorem af4(c:B' t=W)(rU:∀g,g<256->wG g)(ay:ev ab)(a1:r<t.length):B8 r (ab++im t ab)=0:=by
 refine l (TE<|qZ ay<|wF ay)<|l (Lm _ _ ay<|wF ay)<|l (wE ..) ?_;have j:lB r (im t ab)=dM (r*t.length) (lB r ab):=by unfold im;exact l (TJ c rU a1 ab.length (qZ ay<|qY _) (by simp))<|l (Lm _ _ ay<|qY _)<|l (TK ..)<|l (zT ..)<|l tF f
 exact l j<|l (GZ ..) f
noncomputable def jf:List Nat->List Nat->List Nat|h::aA,M::ca=>(h^^^M)::jf aA ca|bC,dw=>[]
theorem y8(h:Nat)(aA:List Nat)(M:Nat)(ca:List Nat):jf (h::aA) (M::ca)=(h^^^M)::jf aA ca:=rfl
theorem TL:∀{i b:List Nat},i.length=b.length->(jf i b).length=i.length|[],[],bC=>f|bC::dw,[],c=>nomatch c|[],bC::dw,c=>nomatch c|h::aA,M::ca,c=>by simp[y8,TL (i:=aA) (b:=ca) (by simpa using c)]
theorem Ln:∀{i b g z:List Nat},i.length=b.length->jf (i++g) (b++z)=jf i b++jf g z|[],[],bC,dw,ic=>f|bC::dw,[],ic,su,c=>by exact nomatch c|[],bC::dw,ic,su,c=>by exact nomatch c|h::aA,M::ca,g,z,c=>by simp[y8,Ln (i:=aA) (b:=ca) (g:=g) (z:=z) (by simpa using c)]
theorem TM:∀s,jf (dE s 0) (dE s 0)=dE s 0|0=>f|s+1=>by simp[np,y8,TM s]
theorem Lo:∀(i:List Nat),jf i (dE i.length 0)=i|[]=>f|h::aA=>by simp[np,y8,Lo aA]
theorem af5(i b g z:Nat):(i^^^b)^^^(g^^^z)=(i^^^g)^^^(b^^^z):=by exact l (nZ ..)<|c2 (nZ b ..)<|l (Dc b g)<|l (nZ g ..)<|c2 (nZ ..) f
theorem af6:∀(av B i b:List Nat),av.length=B.length->i.length=b.length->h9 (jf av B) (jf i b)=jf (h9 av i) (h9 B b):=by intro av;induction av with
 |nil=>intro B i b c dw;cases B with
  |nil=>cases i<;>cases b<;>rfl|cons _ _=>exact nomatch c
 |cons h av a5=>intro B i b c aa;cases B with
  |nil=>exact nomatch c|cons M B=>cases i with
   |nil=>cases b with|nil=>rfl|cons _ _=>exact nomatch aa
   |cons r i=>cases b with
    |nil=>exact nomatch aa|cons e b=>simp only[y8,te];exact l (a5 B i b (Dz c)<|Dz aa)<|l (af5 ..) f
theorem af7(aO:g<256)(bp:z<256):d8 t (g^^^z)=jf (d8 t g) (d8 t z):=by induction t with|nil=>rfl|cons aC t a5=>show dM aC (g^^^z)::d8 t (g^^^z)=(dM aC g^^^dM aC z)::jf (d8 t g) (d8 t z);exact l (uy aO bp ..)<|l a5 f
theorem af8(aX:ev i)(n:ev b)(c:i.length=b.length):mx t (jf i b)=jf (mx t i) (mx t b):=by cases i with
 |nil=>cases b with|nil=>rfl|cons=>exact nomatch c
 |cons h i=>cases b with
  |nil=>exact nomatch c|cons M b=>show h9 (d8 t<|h^^^M) (jf i b)=jf (h9 (d8 t h) i) (h9 (d8 t M) b);exact l (af7 (aX h bm)<|n M bm)<|l (af6 _ _ _ _ (by simp[d8]) (by simpa using c)) f
theorem TN:∀(s:Nat){i b:List Nat},ev i->ev b->i.length=b.length->na t s (jf i b)=jf (na t s i) (na t s b)|0,bC,dw,ic,su,QX=>f|s+1,i,b,aX,n,c=>by refine l (B5 ..)<|l (af8 aX n c)<|l (TN s (y6 aX) (y6 n)<|l (B7 ..)<|l (B7 ..)<|l c f) ?_;rfl
theorem af9(aX:ev i)(n:ev b)(c:i.length=b.length):im t (jf i b)=jf (im t i) (im t b):=by unfold im;exact l (TL c)<|c2 c<|c2 (TN _ (qZ aX<|qY _) (qZ n<|qY _) (by simp[c]))<|l (Ln c)<|l (TM ..) f
theorem af_(t:List Nat):d8 t 0=dE t.length 0:=by induction t with|nil=>rfl|cons aC t a5=>show dM aC 0::d8 t 0=_;refine l (oq ..)<|l a5 ?_;rfl
theorem TO:∀(s:Nat)(H:List Nat),h9 (dE s 0) H=H|0,H=>by cases H<;>rfl|s+1,[]=>f|s+1,h::H=>by simp[np,te,TO s H]
theorem TP(s:Nat)(H:List Nat):∀aC,na t (aC+s) (dE aC 0++H)=na t s H|0=>by simp|aC+1=>by exact l (show aC+1+s=(aC+s)+1 by exact c' (.e (.a (.o .x) .y)<|.o<|.a .x .y) [] f)<|l (B5 ..)<|l np<|l u8<|l (Lj ..)<|l (af_ ..)<|l (TO ..)<|l (TP s H aC) f
theorem TQ:∀(av:List Nat)(ae:Nat),h9 av (dE (av.length+ae) 0)=av++dE ae 0|[],ae=>by simp;cases ae<;>rfl|h::av,ae=>by refine l jX<|l (show av.length+1+ae=(av.length+ae)+1 by exact c' (.e (.a (.o .x) .y)<|.o<|.a .x .y) [] f)<|l np<|l (te ..)<|l (TQ av ae) ?_;simp
theorem TR:∀(B H G:List Nat),B.length<=H.length->h9 B (H++G)=h9 B H++G|[],H,G,bC=>by cases H<;>cases G<;>rfl|bC::dw,[],ic,c=>by simp at c|h::B,M::H,G,c=>by refine l u8<|l (te ..)<|l (te ..)<|l (TR B H G (by simpa using c)) ?_;rfl
noncomputable def tf(t:List Nat):Nat->List Nat->List Nat|0,av=>av|ae+1,av=>tf t ae<|mx t<|av++[0]
theorem TS(t av:List Nat)(ae:Nat):tf t (ae+1) av=tf t ae (mx t<|av++[0]):=rfl
theorem TT(aK:0<t.length):∀(ae:Nat)(av:List Nat),av.length=t.length->na t ae (av++dE ae 0)=tf t ae av
 |0,av,bC=>u' ..|ae+1,av,d_=>by
  refine kn (by cases av with|nil=>rw[z6]at d_;lia|cons g kw=>exact(mf g kw f):∃g kw,av=g::kw) λg kw bK=>?_;obtain rfl:=bK;refine l (B5 ..)<|l (TS ..) ?_;have j:mx t (g::kw++dE (ae+1) 0)=mx t (g::kw++[0])++dE ae 0:=by show h9 (d8 t g) (kw++dE (ae+1) 0)=h9 (d8 t g) (kw++[0])++dE ae 0;refine c2 (TR _ _ _ (by replace d_:=jX▸d_;simp[d8,<-d_]))<|l (tD ..) ?_;rfl
  exact l j<|l (TT aK ae _ (by refine l (B7 ..) ?_;simp at d_⊢;omega)) f
theorem TU:∀{av H:List Nat},ev av->ev H->h9 (av.map<|dM p) (H.map<|dM p)=(h9 av H).map (dM p)|[],H,bC,dw=>by cases H<;>rfl|bC::dw,[],ic,su=>f|h::av,M::H,d_,aM=>by have:=TU (p:=p) (av:=av) (H:=H) (λe aZ=>d_ e<|mt aZ) λe aZ=>aM e<|mt aZ;simp only[ju,te,this,uy (aM M bm)<|d_ h bm]
theorem TV:d8 t (dM p g)=(d8 t g).map (dM p):=by unfold d8;exact l ph<|vb λaC x=>Lh aC p g
theorem af'(aM:ev H):mx t (H.map<|dM p)=(mx t H).map (dM p):=by cases H with|nil=>rfl|cons g H=>show h9 (d8 t<|dM p g) (H.map<|dM p)=(h9 (d8 t g) H).map (dM p);exact l TV<|((TU (uz<|aM g bm) λe aZ=>aM e<|mt aZ).symm)▸f
theorem TW:∀(ae:Nat){av:List Nat},ev av->tf t ae (av.map<|dM p)=(tf t ae av).map (dM p)
 |0,bC,dw=>f|ae+1,av,d_=>by
  have j:av.map (dM p)++[0]=(av++[0]).map (dM p):=by simp[oq]
  refine l (TS ..)<|l j<|l (af' (H:=av++[0])<|qZ d_<|qY 1)<|l (TW ae<|y6 (H:=av++[0])<|qZ d_<|qY 1) ?_;rfl
noncomputable def Ca(t:List Nat):Nat->List Nat->Bool|0,bC=>W|s+1,av=>av.all (λh=>!(h==0))&&Ca t s (mx t<|av++[0])
theorem TX:∀(s:Nat)(av:List Nat)(ae:Nat),Ca t s av=W->ae<s->∀h∈tf t ae av,h≠0|0,bC,dw,ic,c=>absurd c<|Nat.not_lt_zero _|s+1,av,0,c,bC=>λh X=>by replace c:=l9.mp c;have:=hU.mp c.1 h X;simpa using this|s+1,av,ae+1,c,bw=>by replace c:=l9.mp c;exact TX s _ ae c.2<|c' (.t .x .y) [.t (.o .x)<|.o .y] f bw
theorem TY:∀(ae:Nat){av:List Nat},ev av->ev (tf t ae av)|0,bC,c=>c|ae+1,bC,c=>TY ae<|y6<|qZ c<|qY 1
theorem aga(aK:0<t.length)(rU:∀g,g<256->wG g)(Lp:Ca t s (d8 t 1)=W)(bw:ae<s)(bp:z<256)(Lq:z≠0):∀h∈im t<|dE aC 0++z::dE ae 0,h≠0:=by
 have j:im t (dE aC 0++z::dE ae 0)=tf t ae (d8 t z):=by unfold im;refine l io<|l jX<|l tF<|l tF<|l (tD ..)<|l (TP (ae+1) _ aC)<|l u8<|l (B5 ..)<|l (Lj ..)<|l List.replicate_append_replicate ?_;have:=TQ (d8 t z) ae;rw[show(d8 t z).length=t.length by simp[d8]]at this;exact l (tz ae ..)<|l this<|l (TT aK ae _ (by simp[d8])) f
 refine l j ?_;rcases rU z bp with rfl|⟨p,rfl⟩
 .exact absurd f Lq
 refine l TV<|l (TW ae<|uz aS) ?_;intro h X;exact j2 X λM a3 b8=>c2 b8<|Tx (TY ae (uz aS) M a3) (TX s _ ae Lp bw M a3) p
theorem agb:∀{i b:List Nat},i.length=b.length->(∀h∈b,h≠0)->∀(q:Nat)h M,i[q]?=A h->(jf i b)[q]?=A M->h≠M:=by intro i;induction i with
 |nil=>intro b bC dw q h M c;exact d1 c|cons r i a5=>intro b c n q h M X a3;cases b with
  |nil=>exact nomatch c|cons e b=>cases q with
   |zero=>
    simp only[List.getElem?_cons_zero,xt,y8]at X a3;subst X a3;intro j;have:e=0:=by have ag:r^^^(r^^^e)=r^^^r:=c2 j f;rwa[<-nZ,GZ,zU]at ag
    exact n e bm this|succ q=>exact a5 (Dz c) (λG U=>n G<|mt U) q h M X a3
theorem agc(aK:0<t.length)(rU:∀g,g<256->wG g)(Lp:Ca t s (d8 t 1)=W)(aZ:e.length<s)(bp:z<256)(Lq:z≠0)(n:ev<|r++g::e)(q h M:Nat)(X:(im t<|r++g::e)[q]?=A h)(a3:(im t<|r++(g^^^z)::e)[q]?=A M):h≠M:=by
 have agd:ev (dE r.length 0++z::dE e.length 0):=qZ (qY _) λG U=>by
  revert G;refine gr ?_ ?_
  .exact bp
  .intro G U;exact qY _ G U
 have aM:(r++g::e).length=(dE r.length 0++z::dE e.length 0).length:=by simp
 have j:r++(g^^^z)::e=jf (r++g::e) (dE r.length 0++z::dE e.length 0):=by refine l (Ln (by simp))<|l (Lo ..) ?_;show _=r++(g^^^z)::jf e _;exact l (Lo ..) f
 rw[j,af9 n agd aM]at a3;exact agb (by exact l (wE ..)<|l (wE ..) f) (aga aK rU Lp aZ bp Lq) q h M X a3
noncomputable def FH(k:Int)(r:Nat):Int:=(k.fdiv<|2^(7-r)).fmod 2
noncomputable def gY(k:Int):List Int:=(c9 8).map<|FH k
noncomputable def fL(bu:List Int)(c:Nat):List Int:=(bu.flatMap gY).take<|8*bu.length-c
theorem Lr(bu:List Int):(bu.flatMap gY).length=8*bu.length:=by induction bu with|nil=>rfl|cons k bu a5=>rw[tE,io,a5,jX];simp[gY];exact bZ (.e (.a (.n 8)<|.m 8 .x)<|.m 8<|.o .x) [] f
theorem Ls(s:mQ g)(bu:List Int)(bt:Slot)(j3:bt=.b (bN bu)\/bt=.f (bN bu))(c:Nat)(U:bu.length<2^20)(b':c<=8*bu.length):bE g z (fz<|cH az 22) [] [("half",.f<|.int c),("words",bt)] (gC<|cH az 22) (λcN x=>cN=.ret (bN<|fL bu c)):=by
 have Q:cp=2^24:=f;conv=>arg 6;whnf
 have TZ:∀{ak:Pos},∃p,af g z (fz<|cH az 22) [("half",.f<|.int c),("words",bt)] (.Name "words" ak) p (bN bu):=by
  intro ak;rcases j3 with rfl|rfl
  .exact(gD _ aE.GD)
  .exact(gD _ aE.nm)
 have age:∀{ak:Pos},lR g z (fz<|cH az 22) [("half",.f<|.int c),("words",bt)] a2 (.Name "words" ak) (bu.map .int):=by
  intro ak;rcases j3 with rfl|rfl
  .exact lR.BU f (by cbv)
  .exact lR.of aE.nm
 obtain⟨p,a8⟩:=TZ;refine bE.ret (af.yL (ab:=bu.flatMap gY) (s:=8*bu.length-c) (af.cast (af.comp (bs:=bu.map .int) (dP:=bu.map λk=>(gY k).map bd.int) s.ok ?_) ?_) (c5.cast (af.sub (af.mul af.du (aE.ll s a8<|bZ (.t .x<|.n 4611686018427387904) [.t .x<|.n 1048576] f U)<|ug aS) aE.nm) ?_) ?_) f
 .refine⟨⟨by cbv,f,hf _,λcc e=>(by refine c2 (nz e) ?_;rfl),λx x=>f,?_,by refine l (Tr ..)<|l (gp ..)<|l (Lr ..) ?_;exact gT [1,8,-1] (.l (.m 8 .x) .y) [.t .x<|.n 1048576,.e .y<|.n 16777216] f U Q⟩,gx.list age<|.inl<|mf _ _ f⟩;refine AllP.map λk cr=>⟨aE.t1,aE.fr,?_⟩
  .refine((show(gY k).map bd.int=((c9 8).map λr=>[bd.int<|FH k r]).flatten by refine l (wC ..)<|(l ph ?_);rfl).symm)▸mo.next (t:=_) f f (hf _) (λcc e=>(d1 e)) (λx x=>f) f (aE.t_ s (ae:=8) af.du aS) ?_;refine AllP.h5 λr a1=>⟨aE.t1,aE.fr,?_⟩
   .refine mo.one f f<|af.mod (af.div aE.nm (c5.cast (b:=2^(7-r)) (af.pow af.du (af.sub af.du aE.nm) (by exact bZ (.cz (.n 0)<|.s (.n 7)<|.a (.n 0)<|.r (.c .x) 1) [.t .x<|.n 8] f a1) (by exact bZ (.cz (.s (.n 7)<|.a (.n 0)<|.r (.c .x) 1)<|.n 1000000) [] f) aS) (by congr 1;rw[tw,Int.mul_one];exact zN 7 r)) ?_ ?_) af.du aS
    .exact Int.ne_of_gt<|Int.pow_pos aS
    .refine En ?_;have ag:((2:Int)^(7-r)).natAbs=2^(7-r):=by refine l (Int.natAbs_pow ..) ?_;rfl
     exact mD (Nat.pow_le_pow_right aS<|hR 7 r) aS
 .exact l (Tr ..) f
 .exact oJ [1,0,1] [1,1,0] (.eK (.s (.m 8<|.c .x)<|.c .y)<|.c .z) [.l (.m 8 .x)<|.a .z .y,.e (.a .z .y)<|.m 8 .x] f (fk _ _)<|eu b'
 .exact l (Lr ..)<|gT [1,8,-1] (.l (.m 8 .x) .y) [.t .x<|.n 1048576,.e .y<|.n 16777216] f U Q
noncomputable def wH:List (Int×bd×Nat):=[(-3,.none,3),(-2,.int 1,5),(-2,.int 0,4),(-1,.int 1,11),(-1,.int 0,9),(0,.int 1,16),(0,.int 0,14),(0,.int 3,10)]
noncomputable def Lt:List bd:=wH.map λe=>.tup [.int e.1,e.2.1,.int e.2.2]
noncomputable def T0:bd:=.tup Lt
structure uA(g:d7):Prop extends mQ g where
 lay:∃B,g.gl "_law_layouts"=A B/\bV g.s0.heap g.tabs T0 B
 DY:K6 g "_law_bits" ["words","half"] (fz<|cH az 22)<|gC<|cH az 22
 Rj:K6 g "_law_words" ["bits"] (fz<|cH az 23)<|gC<|cH az 23
noncomputable def numsOf(gm:List Int):List Int:=gm.take 20++([0,0,0]:List Int).drop gm.length
noncomputable def lC(ew:List Int):List Int:=(ew.drop 3).map (λs=>s.fmod 256)++(if ew.length<4 then[0]else[])
theorem agf(s:Nat):s-1=(-1+(s:Int)).toNat:=by cases s with|zero=>rfl|succ p=>exact l (GQ ((-1:Int)) _)<|congrArg Int.toNat (M6 (p:Int) 1).symm
theorem T1(ew:List Int):(lC ew).length=(ew.length-3)+(if ew.length<4 then 1 else 0):=by unfold lC;refine l io<|l (gp ..)<|l sb ?_;split<;>rfl
noncomputable def fn(bj:Int):Nat:=if bj=-3\/bj=-1 then 4 else 0
noncomputable def nb(ot:List Int)(d4:Nat):List Int:=(c9 d4).map λp=>(ot.getD (p%ot.length) 0+101*((p/ot.length:Nat):Int)).fmod 256
theorem T2{bj:Int}(ag:-3<=bj)(aF:bj<=0):bj=-3\/bj=-2\/bj=-1\/bj=0:=by lia
theorem T3{q:Nat}{bj:Int}{ff:bd}{d4:Nat}(c:wH[q]?=A (bj,ff,d4)):3<=d4/\d4<=16/\-3<=bj/\bj<=0:=by have ah:q<8:=(k_.mp c).1;have:=(show∀q<8,q=0\/q=1\/q=2\/q=3\/q=4\/q=5\/q=6\/q=7 by decide) q ah;rcases this with rfl|rfl|rfl|rfl|rfl|rfl|rfl|rfl<;>cases c<;>decide
theorem T4(i b:Nat):(i:Int).fmod (b:Int)=((i%b:Nat):Int):=by refine l (M7 _<|kL _) ?_;rfl
theorem agg(i b:Nat):(i:Int).fdiv (b:Int)=((i/b:Nat):Int):=by refine l (Int.fdiv_eq_ediv_of_nonneg _<|kL _) ?_;rfl
theorem Lu:(([i,b]:List Int).any (·==B))=decide (B=i\/B=b):=by
 refine l G8<|l G8<|l u7<|l (q9 ..)<|gq Ge<|l (w5 ..)<|gq beq_iff_eq<|gq beq_iff_eq<|l decide_eq_true_eq ?_;constructor
 .rintro(c|c)
  .exact .inl c.symm
  .exact .inr c.symm
 .rintro(c|c)
  .exact .inl c.symm
  .exact .inr c.symm
def bound(bu:List Int):Prop:=∀k∈bu,0<=k/\k<256
noncomputable def o5(ew:List Int)(d4:Nat):Nat:=((ew.getD 1 0).fmod<|(d4:Int)-1).toNat
noncomputable def iF(bj:Int)(my:List Int):List Int:=if fn bj=4 then my.set (my.length-1) 0 else my
noncomputable def wI(ew bu:List Int)(jg:Nat):List Int:=bu.take jg++[lH (bu.getD jg 0)<|(ew.getD 2 0).fmod 255+1]++bu.drop (jg+1)
theorem agh(s:uA g)(ay:3<=ew.length/\ew.length<=23)(U:3<=d4/\d4<=16/\-3<=bj/\bj<=0)(my:List Int)(cr:my.length=d4)(c:bE g (z+1) (fz<|cH az 24) a0 [("bits",.f<|bN<|fL (iF bj my)<|fn bj),("others",.f<|bN<|wI ew (iF bj my)<|o5 ew d4),("words",.o<|bN<|iF bj my),("half",.f<|.int<|fn bj),("level",.f ff),("version",.f<|.int bj)] b_ cv):bE g (z+1) (fz<|cH az 24) a0 [("words",.o<|bN my),("half",.f<|.int<|fn bj),("size",.f<|.int d4),("level",.f ff),("version",.f<|.int bj),("numbers",.f<|bN ew)] (((gC<|cH az 24).take 9).drop 5++b_) cv:=by
 have Q:cp=2^24:=f;conv=>arg 6;whnf
 have bW:(ew.getD 1 0).fmod ((d4:Int)-1)=((o5 ew d4:Nat):Int):=by have:=u2 (ew.getD 1 0) (b:=(d4:Int)-1)<|bZ (.cg (.n 0)<|.s (.c .x)<|.n 1) [.l (.n 3) .x] f U.1;unfold o5;exact HQ [1,0,1] [1,1,0] (.eK .x<|.c .x) [.cz .x<|.c .x,.eK (.c .x) .x] f (qj _)<|oK this
 have cR:o5 ew d4<d4-1:=by have:=u3 (ew.getD 1 0) (b:=(d4:Int)-1)<|bZ (.cg (.n 0)<|.s (.c .x)<|.n 1) [.l (.n 3) .x] f U.1;exact WK [1,-1,1,1] (.t .x .y) [.eK .x<|.c .x,.cg .x<|.s (.c .z)<|.n 1,.l .z<|.a .y<|.n 1] f bW this<|fk _ _--changed
 refine bE.assign (B:=.int<|o5 ew d4) (c5.cast (af.mod (aE.Co (ae:=1) (ab:=ew) aE.nm af.du (bZ (.t (.n 1) .x) [.l (.n 3) .x] f ay.1) (by exact gT [1,1,-1] (.l .x .y) [.l .x<|.n 23,.e .y<|.n 16777216] f ay.2 Q)) (af.sub aE.nm af.du) (by exact gv (.fU (.s (.c .x)<|.n 1)<|.n 0) [.t .y .z,.e (.a .z<|.n 1) .x] f cR<|eu<|gv (.l (.n 1) .x) [.t .y .z,.l .z .x] f cR<|hR _ _)) bW) (by cbv) ?_;generalize o5 ew d4=jg at cR c;have em:(iF bj my).length=d4:=by unfold iF;split<;>simp[cr]--qe rest,ale qe words alf from
 have cV:bE g (z+1) (fz<|cH az 24) a0 [("words",.o<|bN<|iF bj my),("changed",.f<|.int jg),("half",.f<|.int<|fn bj),("size",.f<|.int d4),("level",.f ff),("version",.f<|.int bj),("numbers",.f<|bN ew)] (((gC<|cH az 24).take 9).drop 7++b_) cv:=by
  generalize iF bj my=bu at em c;conv=>arg 6;whnf
  refine bE.assign (B:=bN<|wI ew bu jg) (af.yM (cS:=.b2) (af.yM (cS:=.b2) (e5:=.b2) (af.yL (s:=jg) aE.rn aE.nm<|iO [1,1,-1,1] (.l .x .y) [.l .z<|.n 16,.e .y<|.n 16777216,.e .x .z] f U.2.1 Q em) (af.gf<|af.list (aA:=[.int _]) (gt.hQ (af.xor (aE.Co aE.rn aE.nm (by exact ny [1,1,-1,1] (.t .x .y) [.t .x .z,.e .y .w,.e (.a .z<|.n 1) .w] f cR em<|eu<|gv (.l (.n 1) .x) [.t .y .z,.l .z .x] f cR<|hR _ _) (by exact iO [1,1,-1,1] (.l .x .y) [.l .z<|.n 16,.e .y<|.n 16777216,.e .x .z] f U.2.1 Q em))<|af.add (af.mod (aE.Co (ae:=2) (ab:=ew) aE.nm af.du (bZ (.t (.n 2) .x) [.l (.n 3) .x] f ay.1) (by exact gT [1,-1,1] (.l .x .y) [.e .y<|.n 16777216,.l .x<|.n 23] f Q ay.2)) af.du aS) af.du) gt.nl) (by show 1<=cp;decide)) ?_) (af.yK (s:=jg+1) aE.rn (c5.cast (af.add aE.nm af.du) (by rfl)) (by exact iO [1,1,-1,1] (.l .x .y) [.l .z<|.n 16,.e .y<|.n 16777216,.e .x .z] f U.2.1 Q em)) ?_) (by cbv) ?_
  .simp;exact ny [1,1,-1,1,1] (.l (.o .x) .y) [.l .z<|.n 16,.e .y<|.n 16777216,.e .w .z,.l .x .w] f U.2.1 Q em<|vg _ _
  .simp;exact qe [1,2,-1,2,1,1] (.l (.a (.o .x) .y) .z) [.l .w<|.n 16,.e .z<|.n 16777216,.e .u .w,.l .x .u,.l .y .u] f U.2.1 Q em (vg _ _)<|hR _ _
  refine bE.assign (aE.call s.ok s.DY (ha.hQ aE.rn<|ha.hQ aE.nm ha.nl)<|Ls s.tomQ bu _ (.inl f) (fn bj) (c' (.t .x<|.n 1048576) [.l .y<|.n 16,.e .x .y] f U.2.1 em) (by unfold fn;split<;>(first|exact p4 ..|exact ny [1,8,-8,8] (.l (.n 4)<|.m 8 .x) [.t .y .z,.e .x .w,.e (.a .z<|.n 1) .w] f cR em<|eu<|gv (.l (.n 1) .x) [.t .y .z,.l .z .x] f cR<|hR _ _))) (by cbv) ?_;exact bE.le (iZ f) c
 refine bE.n8 (ei.eq aE.nm af.du λx=>f) ?_;cases aZ:((fn bj:Nat):Int)==4 with
 |true=>
  have jL:fn bj=4:=by have:=eq_of_beq aZ;exact Al [1,-1] [1,1] (.e .x<|.n 4) [.eK (.c .x)<|.n 4] f this
  have Lv:iF bj my=my.set (d4-1) 0:=l (iF.eq_1 ..)<|l (if_pos jL)<|l cr f;refine Qc (aA:=my.map .int) f (by cbv) af.du (af.neg af.du) (d4-1) (.inr ⟨aS,by simp;exact ny [1,-1,1,1] (.cz (.n 1)<|.c .x) [.e .x .y,.t .z .w,.e (.a .w<|.n 1) .y] f cr cR<|eu<|gv (.l (.n 1) .x) [.t .y .z,.l .z .x] f cR<|hR _ _,by simp;exact l cr<|agf ..⟩) (by simp;exact iO [1,1,1,-1] (.l .x .y) [.l .z<|.n 16,.e .x .z,.e .y<|.n 16777216] f U.2.1 cr Q)<|bE.nil<|bE.le ?_ cV;refine⟨?_,f,f,f,f,f,f,trivial⟩;show A (Slot.o<|bd.lst _)=A (Slot.o<|bN _);exact l Lv<|l (bN.eq_1 ..)<|l Df f |false=>
  have jL: ¬fn bj=4:=by intro e;rw[e] at aZ;exact HV aZ
  have Lv:iF bj my=my:=l (iF.eq_1 ..)<|l (if_neg jL) f;refine bE.nil<|bE.le ?_ cV;exact⟨by refine l Lv ?_;rfl,f,f,f,f,f,f,trivial⟩
theorem agi(s:uA g)(gm:List Int)(j3:gm.length<=63){cv:lq->cm->Prop}(c:∀bj ff d4,wH[(((numsOf gm).getD 0 0).fmod 8).toNat]?=A (bj,ff,d4)->bE g (z+1) (fz<|cH az 24) a0 [("bits",.f<|bN<|fL (iF bj<|nb (lC<|numsOf gm) d4)<|fn bj),("others",.f<|bN<|wI (numsOf gm) (iF bj<|nb (lC<|numsOf gm) d4)<|o5 (numsOf gm) d4),("words",.o<|bN<|iF bj<|nb (lC<|numsOf gm) d4),("half",.f<|.int<|fn bj),("level",.f ff),("version",.f<|.int bj)] b_ cv):bE g (z+1) (fz<|cH az 24) a0 [("script",.f<|bN gm)] ((gC<|cH az 24).take 9++b_) cv:=by
 have Q:cp=2^24:=f;conv=>arg 6;whnf--alg
 refine bE.assign (af.yM (ab:=gm.take 20) (eA:=([0,0,0]:List Int).drop gm.length) (af.yL (s:=20) aE.nm af.du<|gT [1,1,-1] (.l .x .y) [.l .x<|.n 63,.e .y<|.n 16777216] f j3 Q) (af.yK (ab:=[0,0,0]) (s:=gm.length) (af.list (gt.hQ af.du<|gt.hQ af.du<|gt.hQ af.du gt.nl) aS) (aE.ll s.tomQ aE.nm<|bZ (.t .x<|.n 4611686018427387904) [.l .x<|.n 63] f j3) aS) (by simp;exact iO [1,-1,1,1] (.l (.a .x .y) .z) [.e .z<|.n 16777216,.l .x<|.n 20,.l .y<|.n 3] f Q (qi _ _)<|hR _ _)) (by cbv) ?_;change bE _ _ _ _ ((_,Slot.f<|bN<|numsOf gm)::_) _ _;have Lw:gm.take 20++([0,0,0]:List Int).drop gm.length=numsOf gm:=f;generalize numsOf gm=ew at c Lw;have T5:3<=ew.length:=by refine c2 Lw ?_;simp;exact(jt 20<|gm.length).elim (λfh=>gT [1,-1] (.l (.n 3)<|.a .x .y) [.e .x<|.n 20] f<|Am fh) λfh=>iO [1,1,-1] (.l (.n 3)<|.a .x .y) [.l (.n 3)<|.a .y .z,.e .x .z] f (fk _ _)<|O4 fh
 have y9:ew.length<=23:=by refine c2 Lw ?_;simp;exact c' (.l (.a .x .y)<|.n 23) [.l .x<|.n 20,.l .y<|.n 3] f (qi _ _)<|hR _ _--version,level,size
 refine gc λx dA=>bl s.lay λalQ agj agk=>?_;have T6:0<=(ew.getD 0 0).fmod 8:=u2 _ aS;have agl:(ew.getD 0 0).fmod 8<8:=u3 _ aS;refine cJ ((gD _<|gQ (by exact(zO T6).mpr agl)):∃e,wH[((ew.getD 0 0).fmod 8).toNat]?=A e) λe aZ=>?_;obtain⟨bj,ff,d4⟩:=e;refine dA<|bE.unpack (V:=[.int bj,ff,.int d4]) (aA:=["version","level","size"]) (af.Ml (aA:=Lt) (af.glob s.ok agj agk (by cbv)) (af.mod (c5.cast (af.yJ (q:=0) aE.nm af.du aS (by show 0<_;exact no<|no T5)<|gT [1,-1,1] (.l .x .y) [.e .y<|.n 16777216,.l .x<|.n 23] f Q y9) f) af.du aS) T6 (by show Lt[((ew.getD 0 0).fmod 8).toNat]?=_;refine(l (fW)<|l aZ ?_);rfl) aS) f f (by cbv) ?_--octets
 have agm:(ew.drop 3).length=ew.length-3:=sb ..;have FI:0<(lC ew).length:=by
  refine l (T1 ..) ?_;by_cases e:ew.length<4
  .exact l (if_pos e)<|r_ _
  .exact l (if_neg e)<|Nat.sub_pos_of_lt<|u4 e
 have y_:(lC ew).length<=30:=by refine l (T1 ..)<|a' (G1 (a' (hR _ 3) y9)<|show _<=1 from ?_) aS;split<;>decide
 refine bE.assign (B:=bN<|lC ew) (af.cast (af.yM (ab:=(ew.drop 3).map λs=>s.fmod 256) (eA:=if ew.length<4 then[0]else[]) (cS:=.fr) ?_ (af.ite (p:=.b2) (e:=decide<|ew.length<4) ?_ ?_ ?_) ?_) f) (by cbv) ?_
 .exact aE.QG (H:=ew.drop 3) s.tomQ (gx.list (lR.of<|af.yK (ab:=ew) (s:=3) aE.nm af.du<|gT [1,-1,1] (.l .x .y) [.e .y<|.n 16777216,.l .x<|.n 23] f Q y9)<|.inl<|mf _ _ f) (λk cr=>⟨aE.t1,af.mod aE.nm af.du aS⟩)<|ny [1,-1,1,1,1] (.l .x .y) [.e .y<|.n 16777216,.l .z<|.n 23,.e .x .w,.l .w .z] f Q y9 agm<|hR _ _
 .exact ei.cast (ei.lt (aE.ll s.tomQ aE.nm<|bZ (.t .x<|.n 4611686018427387904) [.l .x<|.n 23] f y9) af.du λx=>f) (by congr 1;simp;exact⟨λbK=>bZ (.t .x<|.n 4) [.cg (.c .x)<|.n 4] f bK,λbK=>bZ (.cg (.c .x)<|.n 4) [.t .x<|.n 4] f bK⟩)
 .intro c;exact l (if_pos<|of_decide_eq_true c)<|(af.list (aA:=[.int 0]) (gt.hQ af.du gt.nl) aS).gf
 .intro c;exact l (if_neg<|of_decide_eq_false c)<|(af.list (aA:=[]) gt.nl aS).gf
 .exact a' (oD io.symm)<|a' y_ aS
 specialize c bj ff d4 aZ;generalize lC ew=ot at FI y_ c;refine hG (T3 aZ) λBq Lx xN FJ=>?_--half
 refine bE.assign (B:=.int<|fn bj) (af.ite (p:=.b2) (ei.cast (ei.FR (ab:=[-3,-1]) aE.nm (af.tuple (aA:=([-3,-1]:List Int).map .int) (gt.hQ (af.neg af.du)<|gt.hQ (af.neg af.du) gt.nl) aS) λx=>f) Lu) ?_ ?_) (by cbv) ?_
 .intro c;refine af.cast (af.du (q:=4))<|l (fn.eq_1 ..)<|l (if_pos<|of_decide_eq_true c) ?_;rfl
 .intro c;refine af.cast (af.du (q:=0))<|l (fn.eq_1 ..)<|l (if_neg<|of_decide_eq_false c) ?_;rfl--words
 refine aE.Gj (H:=c9 d4) (l1:=λ(q:Nat)=>bd.int q) (lA:=λp=>(ot.getD (p%ot.length) 0+101*((p/ot.length:Nat):Int)).fmod 256) s.tomQ (aE.range s.tomQ aE.nm<|bZ (.t .x<|.n 4611686018427387904) [.l .x<|.n 16] f Lx) (λp a8=>⟨aE.t1,?_⟩) (pg▸gT [1,-1,1] (.l .x .y) [.e .y<|.n 16777216,.l .x<|.n 16] f Q Lx) ?_
 .exact af.mod (af.add (aE.Co (ab:=ot) aE.nm (c5.cast (af.mod aE.nm (aE.ll s.tomQ aE.nm<|bZ (.t .x<|.n 4611686018427387904) [.l .x<|.n 30] f y_)<|bZ (.fU (.c .x)<|.n 0) [.t (.n 0) .x] f FI)<|T4 p ot.length) (GS _ FI)<|gT [1,-1,1] (.l .x .y) [.e .y<|.n 16777216,.l .x<|.n 30] f Q y_)<|af.mul af.du (c5.cast (af.div aE.nm (aE.ll s.tomQ aE.nm<|bZ (.t .x<|.n 4611686018427387904) [.l .x<|.n 30] f y_) (bZ (.fU (.c .x)<|.n 0) [.t (.n 0) .x] f FI)<|En<|show ot.length<1073741824 from mD y_ aS)<|agg p ot.length)<|ug aS) af.du aS
 exact bE.le (iZ f)<|agh s (ew:=ew) (bj:=bj) (ff:=ff) (d4:=d4) ⟨T5,y9⟩ ⟨Bq,Lx,xN,FJ⟩ (nb ot d4) (by unfold nb;exact l (gp ..)<|l pg f) c
noncomputable def freeOf(bj:Int):Int:=(17+2*bj)*(17+2*bj)-64-15-2*((17+2*bj)-8)
theorem T7(s:uA g)(c:af g (z+1) T C j p<|bN aQ)(a8:p≠.ls)(U:aQ.length<2^20)(ay:dT j=W:=by rfl)(X:eE T "_law_words"=W:=by cbv):af g (z+1) T C (.Call (.Name "_law_words" dO) [j] [] ak) .b2 (bN<|wordsOf aQ):=aE.call s.ok s.Rj (ha.hQ (c.gf a8) ha.nl ay) (ZL s.tomQ aQ U) f X (by cbv) (by show 1<20;decide)
theorem agn(s:uA g)(aL:-3<=bj/\bj<=0)(cr:bu.length<=16/\ou.length=bu.length)(b':c<=8*bu.length)(T8:(kh.length:Int)=freeOf bj)(pG:(g5.length:Int)=freeOf bj)(ago:kh.take (fL bu c).length=fL bu c)(agp:g5.take (fL bu c).length=fL ou c)(aB:bE g (z+1) (fz<|cH az 24) a0 [("behind",.f<|bN<|wordsOf<|kh.drop (fL bu c).length),("second",.f<|bN g5),("bits",.f<|bN<|fL bu c),("words",.o<|bN bu)] ((gC<|cH az 24).drop 15) cv):bE g (z+1) (fz<|cH az 24) a0 [("second",.f<|bN g5),("message",.f<|bN kh),("bits",.f<|bN<|fL bu c),("others",.f<|bN ou),("words",.o<|bN bu),("half",.f<|.int c),("level",.f ff),("version",.f<|.int bj)] ((gC<|cH az 24).drop 11) cv:=by
 have Q:cp=2^24:=f;conv=>arg 6;whnf
 have n:(fL bu c).length<=128:=by unfold fL;refine l zY<|l (Lr ..) ?_;exact gT [1,8,1] (.l .x<|.n 128) [.l .y<|.n 16,.l .x<|.m 8 .y] f cr.1<|vg _ _
 have Cb:freeOf bj<2^20:=by have:=T2 aL.1 aL.2;rcases this with rfl|rfl|rfl|rfl<;>decide
 have wJ:kh.length<2^20:=qd (.t .x<|.n 1048576) [.eK (.c .x) .x,.cg .x<|.n 1048576] f T8 Cb;have uB:g5.length<2^20:=qd (.t .x<|.n 1048576) [.eK (.c .x) .x,.cg .x<|.n 1048576] f pG Cb;generalize fL bu c=fq at*;generalize y':fL ou c=iy at*;refine bE.assign (af.add af.du<|af.mul af.du aE.nm<|ug aS) (by cbv)<|bE.assign (B:=.int<|freeOf bj) (af.sub (af.sub (af.sub (af.mul aE.nm aE.nm<|ug (by exact⟨O1 [1,2] (.cg (.g<|.n 18446744073709551616)<|.a (.n 17)<|.m 2 .x) [.cz (.g<|.n 3) .x] f aL.1,O1 [1,2] (.cg (.a (.n 17)<|.m 2 .x)<|.n 18446744073709551616) [.cz .x<|.n 0] f aL.2⟩)) af.du) af.du)<|af.mul af.du (af.sub aE.nm af.du)<|ug aS) (by cbv) ?_;refine bE.n8 (b:=a2) (ei.or ⟨a2,ei.cast (ei.ne (aE.ll s.tomQ aE.nm (by exact bZ (.t .x<|.n 4611686018427387904) [.t .x<|.n 1048576] f wJ)) aE.nm λx=>f) (by refine l T8 ?_;simp),(λe=>nomatch e),λx=>⟨a2,ei.cast (ei.ne (aE.ll s.tomQ aE.nm (by exact bZ (.t .x<|.n 4611686018427387904) [.t .x<|.n 1048576] f uB)) aE.nm λx=>f) (by refine l pG ?_;simp),(λe=>nomatch e),λx=>⟨a2,ei.cast (ei.Mq (af.yL aE.nm (aE.ll s.tomQ aE.nm (by exact bZ (.t .x<|.n 4611686018427387904) [.l .x<|.n 128] f n))<|gT [1,-1,1] (.l .x .y) [.e .y<|.n 16777216,.t .x<|.n 1048576] f Q wJ) aE.nm λx=>f) (by refine l ago ?_;simp),(λe=>nomatch e),λx=>⟨a2,ei.cast (ei.Mq (af.yL aE.nm (aE.ll s.tomQ aE.nm (by exact bZ (.t .x<|.n 4611686018427387904) [.l .x<|.n 128] f n))<|gT [1,-1,1] (.l .x .y) [.e .y<|.n 16777216,.t .x<|.n 1048576] f Q uB) (aE.call s.ok s.DY (ha.hQ aE.nm<|ha.hQ aE.nm ha.nl)<|Ls s.tomQ ou _ (.inr f) c (c' (.t .x<|.n 1048576) [.l .y<|.n 16,.e .x .y] f cr.1 cr.2)<|iO [1,-8,1] (.l .x<|.m 8 .y) [.e .y .z,.l .x<|.m 8 .z] f cr.2 b') λx=>f) (by refine l agp<|l y' ?_;simp),(λe=>nomatch e),λx=>f⟩⟩⟩⟩) ?_;refine bE.nil<|bE.assign (T7 s (af.yK aE.nm (aE.ll s.tomQ aE.nm (by exact bZ (.t .x<|.n 4611686018427387904) [.l .x<|.n 128] f n))<|gT [1,-1,1] (.l .x .y) [.e .y<|.n 16777216,.t .x<|.n 1048576] f Q wJ) aS (by refine l sb ?_;exact c' (.t .x<|.n 1048576) [.t .y<|.n 1048576,.l .x .y] f wJ<|hR _ _)) (by cbv) ?_;exact bE.le (iZ f) aB
section
variable{g:d7}{z:Nat}{a0:List aw}
noncomputable def pR(h:Int):Int:=if h<128 then 2*h else lH (2*h) 285
noncomputable def jT:Nat->Int|0=>1|p+1=>pR<|jT p
theorem agq{h:Int}(c:0<=h/\h<256):0<=pR h/\pR h<256:=by
 refine cJ (xi c.1) λs bK=>?_;obtain rfl:=bK;have ay:s<256:=bZ (.t .x<|.n 256) [.cg (.c .x)<|.n 256] f c.2;have cV:∀ae:Nat,ae<256->0<=pR (ae:Int)/\pR (ae:Int)<256:=by
  have:((c9 256).all λae=>decide (0<=pR (ae:Int))&&decide (pR (ae:Int)<256))=W:=by decide+kernel
  intro ae bw;have:=hU.mp this ae<|mF.mpr bw;simpa using this
 exact cV s ay
theorem Ly:∀p,0<=jT p/\jT p<256|0=>aS|p+1=>agq<|Ly p
noncomputable def l3:List Int:=(c9 255).map jT
noncomputable def l4(q:Nat):List Int:=(c9 q).foldl (λH p=>H.set (jT p).toNat p)<|dE 256 0
theorem T9(q:Nat):l4 (q+1)=(l4 q).set (jT q).toNat q:=by unfold l4;refine l z8<|l z5 ?_;rfl
theorem Cc:∀q,(l4 q).length=256|0=>tF|q+1=>by refine l (T9 ..)<|l Dh ?_;exact Cc q
theorem FK{R:Nat->Int}{p q:Nat}(c:q<p):((c9 p).map R).getD q 0=R q:=by refine l (hF)<|l (fW)<|l (mG c) ?_;rfl
theorem agr{ab:List Int}{q:Nat}{h:bd}(c:(gx.enumItems<|ab.map .int)[q]?=A h):q<ab.length/\h=.tup [.int q,.int<|ab.getD q 0]:=by
 have ah:q<ab.length:=by simpa[gx.enumItems]using(k_.mp c).1
 refine⟨ah,?_⟩;simp only[gx.enumItems,fW,Nk,gQ ah,r9,zQ,xt]at c;refine l (hF)<|l (gQ ah)<|c2 c ?_;rfl
theorem ags(s:uA g){hD g5 fq bu:List Int}{cv:lq->cm->Prop}(aB:bE g (z+1) (fz<|cH az 24) a0 [("logs",.o<|bN<|l4 255),("powers",.b<|bN l3),("behind",.f<|bN hD),("second",.f<|bN g5),("bits",.f<|bN fq),("words",.o<|bN bu)] ((gC<|cH az 24).drop 19) cv):bE g (z+1) (fz<|cH az 24) a0 [("behind",.f<|bN hD),("second",.f<|bN g5),("bits",.f<|bN fq),("words",.o<|bN bu)] ((gC<|cH az 24).drop 15) cv:=by
 have Q:cp=2^24:=f;conv=>arg 6;whnf
 refine bE.B6 (af.list (aA:=[.int 1]) (gt.hQ af.du gt.nl) aS) (by cbv)<|bE.XA (λae C=>∃p,1<=p/\p<=255/\ae=255-p/\gM [("powers",.o<|bN<|(c9 p).map jT),("behind",.f<|bN hD),("second",.f<|bN g5),("bits",.f<|bN fq),("words",.o<|bN bu)] C) ?_ 254 ⟨1,aS,aS,f,f,f,f,f,f,trivial⟩;rintro ae C⟨p,Lz,T_,rfl,jG⟩;refine⟨decide<|p<255,?_,λn=>bE.le jG ?_,λn=>bE.le jG ?_⟩
 .exact ei.cast (ei.lt (aE.ll s.tomQ (af.Mk jG.1 (by cbv)) (by simp;exact bZ (.t .x<|.n 4611686018427387904) [.l .x<|.n 255] f T_)) af.du λx=>f) (by congr 1;simp;exact⟨λbK=>bZ (.t .x<|.n 255) [.cg (.c .x)<|.n 255] f bK,λbK=>bZ (.cg (.c .x)<|.n 255) [.t .x<|.n 255] f bK⟩)
 .have a8:=of_decide_eq_true n;have py:∀{eQ e' hb hC:Pos},c5 g (z+1) (fz<|cH az 24) [("powers",.o<|bN<|(c9 p).map jT),("behind",.f<|bN hD),("second",.f<|bN g5),("bits",.f<|bN fq),("words",.o<|bN bu)] (.Subscript (.Name "powers" eQ) (.UnaryOp .USub (.Constant (.int 1) 0 e') hb) hC) (jT<|p-1):=by intro eQ e' hb hC;exact c5.cast (af.Wz (ab:=(c9 p).map jT) (q:=-1) aE.rn (af.neg af.du) aS (by simp;exact bZ (.cz (.n 1)<|.c .x) [.l (.n 1) .x] f Lz) (by simp;exact gT [1,-1,1] (.l .x .y) [.e .y<|.n 16777216,.t .x<|.n 255] f Q a8))<|((show(-1+(((c9 p).map jT).length:Int)).toNat=p-1 by rw[gp,pg,GQ];exact zN p 1).symm)▸FK (c' (.t .x .y) [.e (.a .x<|.n 1) .y] f<|eu Lz)
  have a1:jT p=pR (jT<|p-1):=by obtain⟨aC,rfl⟩:∃aC,p=aC+1:=⟨p-1,by exact pm [1,0,1] [1,1,0] (.e .x<|.o .y) [.l .x<|.a .y<|.n 1,.e (.a .y<|.n 1) .x] f (fk _ _)<|eu Lz⟩;rfl
  refine bE.append (aA:=((c9 p).map jT).map .int) (B:=.int<|jT p) f (by cbv) (af.ite (p:=.b2) (ei.lt py af.du λx=>f) (λe=>af.cast (af.mul af.du py<|ug aS) ?_) λe=>af.cast (af.xor (af.mul af.du py<|ug aS) af.du) ?_) (by simp;exact gT [1,-1,1] (.l .x .y) [.e .y<|.n 16777216,.t .x<|.n 255] f Q a8)<|bE.nil ⟨trivial,255-(p+1),by exact gv (.t .x .y) [.l (.n 255)<|.a .y .z,.e (.a .x<|.o .z)<|.n 255] f (fk _ _)<|eu<|bZ (.l (.o .x)<|.n 255) [.t .x<|.n 255] f a8,p+1,by exact r_ _,by assumption,f,?_⟩
  .exact l a1<|l (pR.eq_1 ..)<|l (if_pos<|of_decide_eq_true e) f
  .exact l a1<|l (pR.eq_1 ..)<|l (if_neg<|of_decide_eq_false e) f
  .refine⟨?_,f,f,f,f,trivial⟩;show A (Slot.o<|bd.lst _)=A (Slot.o<|bN _);refine l z8<|l mb<|l (bN.eq_1 ..)<|l mb ?_;rfl
 .have a8:=of_decide_eq_false n;obtain rfl:p=255:=Al [1,0,1] [1,1,0] (.e .x<|.n 255) [.l .x<|.n 255,.iO .x<|.n 255] f T_ a8;refine bE.B6 (af.Mo (G:=0) (af.list (aA:=[.int 0]) (gt.hQ af.du gt.nl) aS) (af.du (q:=256)) aS aS) (by cbv)<|bE.lock (h:="powers") f<|bE.qf (λq C=>gM [("logs",.o<|bN<|l4 q),("powers",.b<|bN l3),("behind",.f<|bN hD),("second",.f<|bN g5),("bits",.f<|bN fq),("words",.o<|bN bu)] C) (λx x=>f) (gx.enumerate (aA:=l3.map .int) s.ok (lR.BU f (by cbv)) s.enumerate (by cbv) f) ?_ ?_ ?_
  .intro q h bP X fx;obtain⟨ah,rfl⟩:=agr X;have fy:q<255:=by simpa[l3]using ah
   have aL:l3.getD q 0=jT q:=FK fy;have n:=Ly q;refine⟨aE.t2,bE.le (bP:=[("value",.f<|.int<|jT q),("place",.f<|.int q),("logs",.o<|bN<|l4 q),("powers",.b<|bN l3),("behind",.f<|bN hD),("second",.f<|bN g5),("bits",.f<|bN fq),("words",.o<|bN bu)]) ?_ ?_⟩
   .exact l aL<|⟨f,f,fx⟩
   .refine Qc (aA:=(l4 q).map .int) f (by cbv) aE.nm aE.nm (jT q).toNat (.inl ⟨n.1,by refine l (gp ..)<|l (Cc ..) ?_;exact n.2,f⟩) (by refine l (gp ..)<|l (Cc ..) ?_;exact p4 ..)<|bE.nil ?_;refine⟨?_,f,f,f,f,f,trivial⟩;show A (Slot.o<|bd.lst _)=A (Slot.o<|bN _);exact l (T9 ..)<|l (bN.eq_1 ..)<|l Df f
  .exact(iZ f)
  .intro bP fx;exact bE.le fx aB
end
noncomputable def sstep(r:Nat)(b_ f7:Int):Int:=if b_=0 then f7 else lH f7<|l3.getD (((l4 255).getD b_.toNat 0+r).fmod 255).toNat 0
noncomputable def ov(r:Nat)(H:List Int):Int:=H.foldl (sstep r) 0
theorem LA:l3.length=255:=by simp[l3]
theorem agt(q:Nat):0<=l3.getD q 0/\l3.getD q 0<256:=by
 by_cases c:q<255
 .exact(l (FK c)<|Ly q)
 .refine l (hF)<|l (rc (by refine l LA ?_;exact bZ (.l (.n 255) .x) [.iO .x<|.n 255] f c)) ?_;decide
theorem agu(cr:0<=k/\k<256):0<=sstep r D k/\sstep r D k<256:=by
 unfold sstep;split
 .exact cr
 .exact La (s:=8) cr<|agt _
theorem agx(c:bound H):∀aC,0<=ov r (H.take aC)/\ov r (H.take aC)<256:=by intro aC;unfold ov;induction aC with|zero=>simp|succ aC a5=>
  by_cases c4:aC<H.length
  .exact l (Js _ _ _<|Et c4)<|agu<|c _<|pf<|Et c4
  .rw[oE<|u4 c4]at a5;rw[oE<|xk<|u4 c4];exact a5
theorem zip_get{aA ca:List Int}{q:Nat}{h:bd}(c:(gx.zipItems (aA.map .int)<|ca.map .int)[q]?=A h):∃i b,aA[q]?=A i/\ca[q]?=A b/\h=.tup [.int i,.int b]:=by simp only[gx.zipItems,fW]at c;refine gc λx dA=>n4 c λe aZ bK=>?_;obtain rfl:=bK;rw[Nl]at aZ;refine cx aZ λag aF=>?_;rw[fW]at ag aF;exact n4 ag λi aX bW=>n4 aF λb n cR=>dA<|⟨i,b,aX,n,c2 bW<|c2 cR f⟩
theorem T'(H:List bk):(H.map λx=>([]:List d0)).flatten=[]:=by induction H with|nil=>rfl|cons _ _ a5=>refine l ju<|l oF<|l a5 ?_;rfl
theorem agy(s:uA g){hD g5 fq bu:List Int}(LB:bound bu/\bu.length<=16)(FL:bound hD/\hD.length<=64)(agz:fq.length<2^20)(uB:g5.length<2^20)(agA:∀r,r<hD.length->ov r (bu++hD)=0)(bp:∀(q:Nat)h M,hD[q]?=A h->(wordsOf<|g5.drop fq.length)[q]?=A M->h≠M):bE g (z+1) (fz<|cH az 24) a0 [("logs",.o<|bN<|l4 255),("powers",.b<|bN l3),("behind",.f<|bN hD),("second",.f<|bN g5),("bits",.f<|bN fq),("words",.o<|bN bu)] ((gC<|cH az 24).drop 19) (λcN x=>cN=.ret (.bool W)):=by
 have Q:cp=2^24:=f;have agB:bound (bu++hD):=λk cr=>bD cr (LB.1 k)<|FL.1 k;conv=>arg 6;whnf
 refine bE.qf (λq C=>gM [("logs",.o<|bN<|l4 255),("powers",.b<|bN l3),("behind",.f<|bN hD),("second",.f<|bN g5),("bits",.f<|bN fq),("words",.o<|bN bu)] C) (λx x=>f) (aE.range s.tomQ (aE.ll s.tomQ aE.nm<|bZ (.t .x<|.n 4611686018427387904) [.l .x<|.n 64] f FL.2)<|bZ (.t .x<|.n 4611686018427387904) [.l .x<|.n 64] f FL.2) ?_ ?_ ?_
 .intro q h bP X fx;have ah:q<hD.length:=by simpa[tc]using(k_.mp X).1
  have LC:h=.int q:=by rw[tc,fW,mG ah]at X;exact(fu X).symm
  refine l LC<|⟨aE.t1,bE.le (bP:=[("power",.f<|.int q),("logs",.o<|bN<|l4 255),("powers",.b<|bN l3),("behind",.f<|bN hD),("second",.f<|bN g5),("bits",.f<|bN fq),("words",.o<|bN bu)]) ⟨f,fx⟩<|bE.assign af.du (by cbv)<|bE.qf (bs:=(bu++hD).map .int) (λaC C=>gM [("rest",.f<|.int<|ov q<|(bu++hD).take aC),("power",.f<|.int q),("logs",.o<|bN<|l4 255),("powers",.b<|bN l3),("behind",.f<|bN hD),("second",.f<|bN g5),("bits",.f<|bN fq),("words",.o<|bN bu)] C) (λx x=>f) (gx.list (lR.of (af.yM aE.rn aE.nm<|iO [1,1,1,-1] (.l (.a .x .y) .z) [.l .x<|.n 16,.l .y<|.n 64,.e .z<|.n 16777216] f LB.2 FL.2 Q) aS)<|.inl<|mf _ _ f) ?_ ?_ ?_⟩
  .intro aC h nL X lW;refine cx (QD X) λc4 b8=>l b8 ?_;have n:=agx (r:=q) agB aC;refine⟨aE.t1,bE.le (bP:=[("word",.f<|.int<|(bu++hD).getD aC 0),("rest",.f<|.int<|ov q<|(bu++hD).take aC),("power",.f<|.int q),("logs",.o<|bN<|l4 255),("powers",.b<|bN l3),("behind",.f<|bN hD),("second",.f<|bN g5),("bits",.f<|bN fq),("words",.o<|bN bu)]) ⟨f,lW⟩ ?_⟩;have j:ov q ((bu++hD).take<|aC+1)=sstep q (ov q<|(bu++hD).take aC) ((bu++hD).getD aC 0):=by unfold ov;exact l (Js _ _ _<|Et c4) f
   have k0:=u3 ((l4 255).getD (ov q<|(bu++hD).take aC).toNat 0+q) (b:=255) aS;refine bE.assign (B:=.int<|ov q<|(bu++hD).take<|aC+1) (af.ite (p:=.b2) (ei.eq aE.nm af.du λx=>f) (λe=>af.cast aE.nm ?_) λe=>af.cast (af.xor aE.nm<|af.yJ (ab:=l3) aE.GD (af.mod (af.add (af.yJ (ab:=l4 255) aE.rn aE.nm n.1 (by refine l (Cc ..) ?_;exact qd (.t .x<|.n 256) [.cg .x<|.n 256,.eK (.c .x) .x] f n.2<|oK n.1) (by refine l (Cc ..) ?_;exact p4 ..)) aE.nm) af.du aS) (u2 ((l4 255).getD (ov q<|(bu++hD).take aC).toNat 0+q) (b:=255) aS) (by refine l LA ?_;exact(zO<|u2 _ aS).mpr<|u3 _ aS) (by refine l LA ?_;exact p4 ..)) ?_) (by cbv)<|bE.nil ?_
   .exact l j<|l (sstep.eq_1 ..)<|l (if_pos<|eq_of_beq e) f
   .exact l j<|l (sstep.eq_1 ..)<|l (if_neg (by intro c0;rw[c0]at e;exact HV e)) f
   .exact(iZ f)
  .exact(iZ f)
  .intro nL lW;rw[gp,xn,agA q ah]at lW;exact bE.le lW<|bE.n8 (b:=a2) (ei.cast (ei.ne aE.nm af.du λx=>f) f)<|bE.nil<|bE.nil<|iZ f
 .exact(iZ f)
 .intro bP fx;refine bE.le fx<|bE.ret (B:=.bool W) (af.cast (af.WU (ab:=[]) (eA:=[]) (cS:=.fr) (e5:=.fr) (af.cast (af.comp (bs:=gx.zipItems (hD.map .int)<|(wordsOf<|g5.drop fq.length).map .int) (dP:=(gx.zipItems (hD.map .int)<|(wordsOf<|g5.drop fq.length).map .int).map λx=>[]) s.ok ?_) ?_) (af.list (aA:=[]) gt.nl aS) λx=>f) f) f
  .refine⟨⟨by cbv,f,dD _,λcc e=>(d1 e),λx x=>f,⟨by simp,λq h v X aJ=>?_⟩,by refine l (T' ..) ?_;exact hf _⟩,gx.zip s.ok (lR.of aE.nm) (lR.of<|T7 s (af.yK aE.nm (aE.ll s.tomQ aE.nm<|bZ (.t .x<|.n 4611686018427387904) [.t .x<|.n 1048576] f agz)<|gT [1,1,-1] (.l .x .y) [.t .x<|.n 1048576,.e .y<|.n 16777216] f uB Q) aS (by refine l sb ?_;exact c' (.t .x<|.n 1048576) [.t .y<|.n 1048576,.l .x .y] f uB<|hR _ _)) s.zip (by cbv) ⟨f,f⟩⟩;refine dZ (zip_get X) λi b aX n dm=>l dm ?_;obtain rfl:v=[]:=by replace aJ:=(fW)▸aJ;refine n4 aJ λx x dX=>l dX ?_;rfl
   exact⟨aE.t2,aE.fr,mo.skip<|ei.cast (ei.eq aE.nm aE.nm λx=>f)<|beq_false_of_ne<|bp q i b aX n⟩
  .refine l (T' ..) ?_;rfl
noncomputable def c8(H:List Nat):List Int:=H.map λ(s:Nat)=>(s:Int)
theorem FM(H:List Nat)(q:Nat):(c8 H).getD q 0=((H.getD q 0:Nat):Int):=by unfold c8;refine l (hF)<|(hF).symm▸(fW).symm▸?_;cases H[q]?<;>rfl
theorem LD(c:ev H)(q:Nat):H.getD q 0<256:=by refine l (hF) ?_;cases j:H[q]? with|none=>decide|some h=>exact c h<|pf j
theorem agC(h:Nat):pR (h:Int)=((i2 h:Nat):Int):=by
 unfold pR i2;have aF:(2:Int)*(h:Int)=((2*h:Nat):Int):=by push_cast;rfl
 by_cases c:h<128
 .exact l (if_pos (by exact bZ (.cg (.c .x)<|.n 128) [.t .x<|.n 128] f c))<|l (if_pos c)<|l aF f
 .exact l (if_neg (by exact bZ (.oD (.c .x)<|.n 128) [.iO .x<|.n 128] f c))<|l (if_neg c)<|l aF<|l (show(285:Int)=((285:Nat):Int)by rfl)<|l (B2 ..) f
theorem Ua:∀p,jT p=((dM p 1:Nat):Int)|0=>f|p+1=>by rw[jT,Ua p,agC];rfl
theorem agD:((c9 256).all λh=>h==0||(decide (0<=k3.getD h 0)&&decide (k3.getD h 0<255)&&dM (k3.getD h 0).toNat 1==h))=W:=fv
theorem LF(c:h<256)(aG:h≠0):∃p:Nat,p<255/\k3.getD h 0=p/\dM p 1=h:=by
 have:=hU.mp agD h<|mF.mpr c;rw[w5]at this;rcases this with e|e
 .exact absurd (eq_of_beq e) aG
 .simp only[jU,decide_eq_true_eq]at e;obtain⟨⟨dd,ee⟩,i'⟩:=e;exact(p9 (k3.getD h 0).toNat ((zO dd).mpr ee) (HQ [1,0,1] [1,1,0] (.eK .x<|.c .x) [.cz .x<|.c .x,.eK (.c .x) .x] f (qj _)<|oK dd)<|eq_of_beq i')
theorem Ub(g:Nat)(c:g<256):wG g:=by
 by_cases aG:g=0
 .exact .inl aG
 .exact eW (LF c aG) λp x x j=>.inr ⟨p,j.symm⟩
theorem agE:l4 255=k3:=fv
theorem Uc:(m8.getD 0 0==1&&(c9 509).all λq=>m8.getD (q+1) 0==((i2 (m8.getD q 0).toNat:Nat):Int))=W:=by decide+kernel
theorem Ud:∀q,q<510->m8.getD q 0=((dM q 1:Nat):Int)|0,bC=>by have:=(l9.mp Uc).1;exact eq_of_beq this|q+1,c=>by have:=hU.mp (l9.mp Uc).2 q<|mF.mpr<|bZ (.t .x<|.n 509) [.t (.o .x)<|.n 510] f c;refine l (eq_of_beq this)<|l (Ud q<|no c)<|l (mC ..) ?_;rfl
theorem agF:dM 255 1=1:=fv
theorem Ue(D:Nat):∀e,dM (255*e+D) 1=dM D 1|0=>by simp|e+1=>by exact l (show 255*(e+1)+D=255+(255*e+D)by exact c' (.e (.a (.m 255<|.o .x) .y)<|.a (.n 255)<|.a (.m 255 .x) .y) [] f)<|c2 (pP ..)<|l agF<|l (Ue D e) f
theorem agG(s:Nat):dM (s%255) 1=dM s 1:=by
 conv=>rhs;rw[<-tx s 255]
 exact l (Ue ..) f
theorem agH{D k:Nat}(r:Nat)(aB:D<256):sstep r (D:Int) (k:Int)=((k^^^dM r D:Nat):Int):=by
 unfold sstep;by_cases aG:D=0
 .exact l aG<|l (if_pos (by rfl))<|l (oq ..)<|l (zT ..) f
 .rw[if_neg (by exact bZ (.fU (.c .x)<|.n 0) [.t (.n 0) .x] f<|GY aG),agE,mC];refine eW (LF aB aG) λp a8 j cg=>l j ?_;have ag:((p:Int)+(r:Int)).fmod 255=(((p+r)%255:Nat):Int):=by
   have:=T4 (p+r) 255
   push_cast at this⊢;exact this
  rw[ag,mC,l3,FK<|GS _ aS,Ua,agG,B2,<-cg,pP]
theorem agI{r:Nat}{H:List Nat}(c:ev H):ov r (c8 H)=((B8 r H:Nat):Int):=by
 have:∀(H:List Nat)(D:Nat),ev H->D<256->(c8 H).foldl (sstep r) (D:Int)=((H.foldl (λD k=>k^^^dM r D) D:Nat):Int):=by intro H;induction H with
  |nil=>intro D _ _;rfl|cons g H a5=>intro D aM aB;show(c8 H).foldl (sstep r) (sstep r (D:Int) (g:Int))=_;refine l (agH r aB)<|l (a5 _ (λe aZ=>aM e<|mt aZ)<|ux (aM g bm)<|m' aB r) ?_;rfl
 exact this H 0 c aS
noncomputable def o6(t:List Nat)(p g:Nat):Nat->List Nat->List Nat|0,c7=>c7|s+1,c7=>(o6 t p g s c7).set (p+s+1)<|(o6 t p g s c7).getD (p+s+1) 0^^^dM (t.getD s 0) g
theorem Uf(t:List Nat)(p g:Nat)(c7:List Nat)(s:Nat):o6 t p g (s+1) c7=(o6 t p g s c7).set (p+s+1) ((o6 t p g s c7).getD (p+s+1) 0^^^dM (t.getD s 0) g):=rfl
theorem LG(aO:g<256):∀(s:Nat){c7:List Nat},ev c7->ev (o6 t p g s c7)
 |0,bC,c=>c|s+1,c7,c=>λh X=>by
  refine eU (Ns X) (λe=>?_) λe=>?_
  .exact LG aO s c h e
  .exact l e<|ux (LD (LG aO s c) _)<|m' aO _
theorem agJ(H:List Nat)(q h:Nat):c8 (H.set q h)=(c8 H).set q (h:Int):=by unfold c8;exact l Df f
theorem Ug(aO:g<256)(za:g≠0)(aK:∀aC∈t,aC<255)(Uh:il=k3.getD g 0):∀(s:Nat){c7:List Nat},ev c7->nS (c8 t) p il s (c8 c7)=c8 (o6 t p g s c7)
 |0,bC,dw=>f|s+1,c7,c=>by
  refine eW (LF aO za) λH aM j cg=>l afT<|l (Ug aO za aK Uh s c)<|l (Uf ..)<|l (agJ ..)<|l (FM ..)<|l (FM ..)<|l Uh<|l j ?_;have m0:t.getD s 0<255:=by refine l (hF) ?_;cases e:t[s]? with
   |none=>decide|some h=>exact aK h<|pf e
  have ag:((H:Int)+((t.getD s 0:Nat):Int)).toNat=H+t.getD s 0:=oJ [1,1,0] [1,0,1] (.e .x<|.a .y .z) [.cz (.a (.c .y)<|.c .z)<|.c .x,.eK (.c .x)<|.a (.c .y)<|.c .z] f (qj _)<|oK<|c' (.cz (.n 0)<|.a (.c .x)<|.c .y) [] f;exact l ag<|l (Ud _ (by exact c' (.t (.a .x .y)<|.n 510) [.t .x<|.n 255,.t .y<|.n 255] f aM m0))<|l (B2 ..)<|c2 (pP ..)<|l cg f
set_option tactic.hygienic true in theorem Ui:∀(s:Nat)(c7:List Nat),o6 t p 0 s c7=c7
 |0,bC=>f|s+1,c7=>by
  refine l (Uf ..)<|l (Ui s c7)<|l (oq ..)<|l (zT ..) ?_;apply xp;intro q;refine l (G_) ?_;split
  .rename_i c;subst c;split
   .rename_i c;refine l (hF)<|l (gQ c) ?_;rfl
   .rename_i c;exact l (rc (by exact gv (.l .x<|.o<|.a .y .z) [.iO (.o<|.a .y .z) .x] f c)) f
  .rfl
theorem agK(aK:∀aC∈t,aC<255)(c:ev c7):td (c8 t) (c8 c7) p=c8 (o6 t p (c7.getD p 0) t.length c7):=by
 unfold td;refine l (FM ..) ?_;by_cases aG:c7.getD p 0=0
 .exact l (if_pos (by exact Al [1,0] [1,1] (.eK (.c .x)<|.n 0) [.e .x<|.n 0] f aG))<|l aG<|l (Ui ..) f
 .exact l (if_neg (by exact bZ (.fU (.c .x)<|.n 0) [.t (.n 0) .x] f<|GY aG))<|l (mC ..)<|l (show(c8 t).length=t.length by exact gp ..)<|l (Ug (LD c p) aG aK f t.length c) f
theorem Uj:∀(av H:List Nat)(ae:Nat),ae<av.length->h9 (av.take<|ae+1) H=(h9 (av.take ae) H).set ae ((h9 (av.take ae) H).getD ae 0^^^av.getD ae 0)|[],bC,dw,c=>by simp at c|h::av,[],ae,bC=>by cases ae<;>exact z0 ..|h::av,M::H,0,bC=>by rfl|h::av,M::H,ae+1,c=>by have:=Uj av H ae (by simpa using c);simp only[G6,te,this,G9,List.getD_cons_succ]
theorem Uk:∀s,s<=t.length->(o6 t p g s c7).drop (p+1)=h9 ((d8 t g).take s) (c7.drop<|p+1)
 |0,bC=>by show c7.drop (p+1)=_;cases c7.drop (p+1)<;>rfl|s+1,c=>by
  have q:=Uk (t:=t) (p:=p) (g:=g) (c7:=c7) s (by exact no c);refine(l List.drop_set<|l (if_neg (by exact c' (.iO (.o<|.a .x .y)<|.o .x) [] f))<|l q<|l (Uj _ _ _ (by simp[d8];assumption)) ?_);have bW:p+s+1-(p+1)=s:=oJ [1,1,0] [1,0,1] (.e .x .y) [.l (.o<|.a .z .y)<|.a .x<|.o .z,.e (.a .x<|.o .z)<|.o<|.a .z .y] f (fk _ _)<|eu<|c' (.l (.o .x)<|.o<|.a .x .y) [] f;have cR:(o6 t p g s c7).getD (p+s+1) 0=(h9 ((d8 t g).take s)<|c7.drop<|p+1).getD s 0:=q▸(hF).symm▸(hF).symm▸(List.getElem?_drop).symm▸((show p+1+s=p+s+1 by exact c' (.e (.a (.o .x) .y)<|.o<|.a .x .y) [] f).symm)▸f;have f3:dM (t.getD s 0) g=(d8 t g).getD s 0:=by refine l (hF)<|l (hF)<|(l (fW)<|l (gQ (by assumption)) ?_);rfl
  exact bW.symm▸cR.symm▸f3.symm▸f
theorem Ul(t:List Nat):∀(s:Nat)(H:List Nat),na t (s+1) H=mx t (na t s H)|0,bC=>f|s+1,H=>by refine(l (Ul t s ..) ?_);rfl
theorem Um(aK:∀aC∈t,aC<255)(c:ev ab):∀p,p<=ab.length->∃c7,o4 (c8 t) (c8 ab) p=c8 c7/\ev c7/\c7.length=ab.length+t.length/\c7.drop p=na t p (ab++dE t.length 0)
 |0,bC=>(p' (ab++dE t.length 0) (by unfold o4;simp[c8]) (qZ c<|qY _) (by simp) f)|p+1,a8=>by
  refine iL (Um aK c p<|no a8) λc7 bW cR f3 jL=>?_;have c1:p<c7.length:=ny [1,1,-1] (.t .x .y) [.l (.o .x) .z,.e .y<|.a .z .w] f a8 f3;have cP:∀s,(o6 t p (c7.getD p 0) s c7).length=c7.length:=λs=>by induction s with
   |zero=>rfl|succ s a5=>exact(l Dh<|l a5 f)
  refine(p' (o6 t p (c7.getD p 0) t.length c7) ?_ (LG (LD cR p) _ cR) (l (cP ..)<|l f3 f) ?_)
  .exact l (Lf ..)<|l bW<|l (agK aK cR) f
  .refine l (Uk _<|dD _)<|l (Ul ..)<|c2 jL<|l (De c1)<|?_;have:c7.getD p 0=c7[p]:=by refine l (hF)<|l (gQ c1) ?_;rfl
   exact l this<|l (oE (by simp[d8])) f
theorem agL(aK:∀aC∈t,aC<255)(c:ev ab):nT (c8 t) (c8 ab)=c8 (im t ab):=by refine iL (Um aK c ab.length<|dD _) λc7 bW cR f3 jL=>?_;have px:(c8 ab).length=ab.length:=gp ..;unfold nT;refine l px<|bW.symm▸?_;unfold im;refine c2 jL ?_;unfold c8;exact l u9 f
section
noncomputable def Un:eS->List eS|.For bC dw b ic su=>b|_=>[]
noncomputable def Uo:List Stmt:=Un<|((gC<|cH az 18)[7]?).getD<|.Pass default
noncomputable def Up:List Stmt:=Un<|(Uo[3]?).getD<|.Pass default
section
variable{g:d7}{z:Nat}{T:dp}{C:cm}{ez fo:bH}{ak:Pos}{ab:List Int}{q:Int}
theorem af.RM(bn:af g z T C ez .b2<|.tup<|ab.map .int)(bG:c5 g z T C fo q)(aG:0<=q)(X:q.toNat<ab.length)(U:ab.length<=cp)(ah:mU fo=W:=by rfl):c5 g z T C (.Subscript ez fo ak) (ab.getD q.toNat 0):=af.Ml bn bG aG (by refine l (fW)<|l (hF)<|l (gQ X) ?_;rfl) (by simpa using U) ah
end
noncomputable def uC:Scope:=fz<|cH az 18
noncomputable def zb(k:ck)(u:ch)(cF e4 aH cl:Nat)(er:List aw)(ae:Nat)(R:Nat->Int)(aq aN:Nat)(aC:Nat)(hO as:List bd):Inv:=((gO 1944 1940).both<|ww k u.in1 cF e4 aH (cl::er) [cl] ae aC<|mu R).both<|(m_ aq hO).both<|m_ aN as
noncomputable def zc(iG iH aq aN cF:Nat):cm:=[("gen_exp",.f<|bN m8),("gen_log",.f<|.tup<|k3.map .int),("append_error_block",.f<|.gf [(iG,qX aN)]<|.ref iG),("append_data_block",.f<|.gf [(iH,qX aq)]<|.ref iH),("data_blocks",.f<|.raw<|.ref aq),("error_blocks",.f<|.raw<|.ref aN),("codewords",.f<|.raw<|.ref cF)]
noncomputable def tg(t:List Int)(lD:aw)(t1 t2 l5:Tok)(l6 l7 jb:Int)(iG iH aq aN cF:Nat):cm:=("range_error_words",.f<|.gf [(lD,B4 t.length t1 t2 l5)]<|.ref lD)::("gen",.f<|.tup<|t.map .int)::("num_error_words",.f<|.int t.length)::("ec_info",.f<|.ec l6 l7 jb)::zc iG iH aq aN cF
noncomputable def zd(c7:List Int)(s:Nat)(ao:cm):cm:=("error_block",.o<|fl c7)::("len_data",.f<|.int s)::ao
theorem agM:nS t p il (s+1) c7=(nS t p il s c7).set (p+s+1) (lH ((nS t p il s c7).getD (p+s+1) 0)<|m8.getD (il+t.getD s 0).toNat 0):=rfl
theorem agN(s:Nat):(tc s).length=s:=by simp[tc]
variable{k:ck}{ap:ai}{mid:Nat->Obj}{y:Nat}{am:go}{z:Nat}{t:List Int}{ab:List Int}{lD:aw}{t1 t2 l5:Tok}{iG iH aq aN cF:Nat}{l6 l7 jb:Int}
theorem agO(aG:dg k ap mid y am)(n:fJ ab)(aK:B3 t)(U:ab.length<=1000/\t.length<=100){b_:List eS}{cv:lq->cm->Prop}(c:∀bP,gM (zd (o4 t ab ab.length) ab.length<|tg t lD t1 t2 l5 l6 l7 jb iG iH aq aN cF) bP->bE (aT k ap mid y am) z uC [] bP b_ cv){C:cm}(b7:gM (zd (ab++dE t.length 0) ab.length<|tg t lD t1 t2 l5 l6 l7 jb iG iH aq aN cF) C):bE (aT k ap mid y am) z uC [] C (((Up)[5]?).getD (.Pass default)::b_) cv:=by
 have Q:cp=2^24:=f;refine bE.le b7 ?_;conv=>arg 6;whnf
 refine bE.qf (λp C=>gM (zd (o4 t ab p) ab.length<|tg t lD t1 t2 l5 l6 l7 jb iG iH aq aN cF) C) (λx x=>f) (aE.range (ae:=ab.length) (us aG) (aE.nm (B:=.int ab.length))<|bZ (.t .x<|.n 4611686018427387904) [.l .x<|.n 1000] f U.1) ?_ ?_ ?_
 .intro p h bP X fx;have a8:p<ab.length:=by simpa[tc]using(k_.mp X).1
  have LC:h=.int p:=by rw[tc,fW,mG a8]at X;exact(fu X).symm
  refine l LC ?_;obtain⟨iT,gK⟩:=Lg (t:=t) n p;refine⟨aE.t1,bE.le (bP:=("k",.f<|.int p)::zd (o4 t ab p) ab.length (tg t lD t1 t2 l5 l6 l7 jb iG iH aq aN cF)) ⟨f,fx⟩<|l (Lf ..) ?_⟩;generalize o4 t ab p=c7 at iT gK;refine bE.assign (B:=.int<|c7.getD p 0) (c5.cast (af.OH (ab:=c7) (q:=p) aE.rn aE.nm (kL _) (qe [1,1,-1,1] (.t .x .y) [.t .z .w,.e .y<|.a .w .u,.eK (.c .x)<|.c .z] f a8 gK<|oK<|bZ (.cz (.n 0)<|.c .x) [] f) iT<|ny [1,1,1,-1,1] (.l .x .y) [.l .z<|.n 1000,.l .w<|.n 100,.e .y<|.n 16777216,.e .x<|.a .z .w] f U.1 U.2 Q gK)<|l (mC ..) f) (by cbv) ?_;have za:=Ld iT p;refine bE.n8 (ei.ne aE.nm af.du λx=>f) ?_;cases aZ:(c7.getD p 0 !=0)with
  |false=>
   have lg:c7.getD p 0=0:=by simpa using aZ
   refine bE.nil<|bE.nil ?_;unfold td;exact(if_pos lg).symm▸(iZ f)|true=>
   have lg:¬c7.getD p 0=0:=by simpa using aZ
   have aM:=afU (c7.getD p 0).toNat;refine bE.assign (B:=.int<|k3.getD (c7.getD p 0).toNat 0) (af.RM (ab:=k3) aE.nm aE.nm za.1 (Lb.2▸qd (.t .x<|.n 256) [.cg .x<|.n 256,.eK (.c .x) .x] f za.2 (oK za.1))<|Lb.2▸p4 ..) (by cbv) ?_;unfold td;refine(if_neg lg).symm▸?_;generalize k3.getD (c7.getD p 0).toNat 0=il at aM;refine bE.qf (λs C=>gM (("lcoef",.f<|.int il)::("k",.f<|.int p)::zd (nS t p il s c7) ab.length (tg t lD t1 t2 l5 l6 l7 jb iG iH aq aN cF)) C) (λx x=>f) (gx.ae2 (s:=t.length) (D:=lD) (E:=t1) (av:=t2) (B:=l5) f (by cbv)<|bZ (.t .x<|.n 4611686018427387904) [.l .x<|.n 100] f U.2) ?_ ?_ ?_
   .intro s h nL X lW;obtain⟨ay,rfl⟩:=Jf X;obtain⟨LH,LI⟩:=Le (t:=t) (p:=p) (il:=il) s iT;have agP:((0:Int)+s*1)=(s:Int):=bZ (.eK (.a (.n 0)<|.r (.c .x) 1)<|.c .x) [] f;refine agP.symm▸⟨aE.t1,bE.le (bP:=("n",.f<|.int s)::("lcoef",.f<|.int il)::("k",.f<|.int p)::zd (nS t p il s c7) ab.length (tg t lD t1 t2 l5 l6 l7 jb iG iH aq aN cF)) ⟨f,lW⟩<|agM.symm▸?_⟩;generalize nS t p il s c7=cR at LH LI;have vX:=afV aK s;have bW:((p:Int)+s+1)=((p+s+1:Nat):Int):=by push_cast;rfl
    refine bE.aaU (ab:=cR) (q:=((p+s+1:Nat):Int)) (av:=m8.getD (il+t.getD s 0).toNat 0) f (by cbv) (c5.cast (af.add (af.add aE.nm aE.nm) af.du) bW) (af.yJ (ab:=m8) aE.nm (af.add aE.nm<|c5.cast (af.RM (ab:=t) aE.nm aE.nm (kL _) (by refine l (mC ..) ?_;exact ay)<|gT [1,1,-1] (.l .x .y) [.l .x<|.n 100,.e .y<|.n 16777216] f U.2 Q)<|l (mC ..) f) (HP (.cz (.n 0)<|.a .x .y) [.cz (.n 0) .x,.cz (.n 0) .y] f aM.1 vX.1) (by refine l Lc.2 ?_;exact DP (.t .x<|.n 510) [.cg .x<|.n 255,.cg .y<|.n 255,.eK (.c .x)<|.a .x .y] f aM.2 vX.2<|oK<|HP (.cz (.n 0)<|.a .x .y) [.cz (.n 0) .x,.cz (.n 0) .y] f aM.1 vX.1) (by refine l Lc.2 ?_;exact p4 ..)) LH (kL _) (by refine l (mC ..) ?_;exact O2 [1,1,-1,1,-1] (.t (.o<|.a .x .y) .z) [.t .x .w,.e .u<|.a .w<|.v 5,.t .y<|.v 5,.e .z .u] f a8 gK ay LI) (by refine l (mC ..) ?_;exact(La (s:=8) (Ld LH<|p+s+1)<|Tv (il+t.getD s 0).toNat)) (qe [1,1,1,-1,1,1] (.l .x .y) [.l .z<|.n 1000,.l .w<|.n 100,.e .y<|.n 16777216,.e .u<|.a .z .w,.e .x .u] f U.1 U.2 Q gK LI)<|bE.nil ?_;exact(iZ f)
   .exact(iZ f)
   .intro nL lW;rw[gp,Je]at lW;refine bE.nil<|bE.nil ?_;obtain⟨_,_,D⟩:=lW;exact D
 .exact(iZ f)
 .intro bP fx;rw[agN]at fx;exact c bP fx
end
section
inductive wK(aq aN aH cl:aw):Prop|mk(fQ:aq≠aN)(fR:aq∉[1940,aH,cl])(gs:aN∉[1940,aH,cl])(i7:1993<=aH)(kq:1993<=cl):wK aq aN aH cl
theorem wK.ci(c:wK aq aN aH cl):∀b∈[aH,cl],b∉[1940]/\b∉[aq,aN]:=λb n=>by
 have ag:1993<=b:=by
  revert b;refine gr ?_ ?_
  .exact c.4
  .intro b n;exact l (bc n) c.5
 have eX:b∈[1940,aH,cl]:=mt n;refine⟨λe=>?_,λe=>?_⟩
 .rw[bc e]at ag;exact absurd ag aS
 .rcases e1.mp e with rfl|e
  .exact c.2 eX
  .rw[bc e]at eX;exact c.3 eX
variable{k:ck}{ap:ai}{mid:Nat->Obj}{y:Nat}{am:go}{z:Nat}{u:ch}{t:List Int}{lD:aw}{t1 t2 l5:Tok}{iG iH aq aN aH cl cF e4 ae aC s:Nat}{er:List aw}{R:Nat->Int}{l6 l7 jb:Int}{hO as:List bd}{C:cm}{cv:lq->cm->Inv->Prop}
noncomputable def he(R:Nat->Int)(aC s:Nat):List Int:=(c9 s).map λq=>R<|aC+q
theorem agQ:(he R aC s).length=s:=by simp[he]
theorem Uq(be:∀q,0<=R q/\R q<256):fJ (he R aC s):=λh X=>by refine j2 X λq x bK=>?_;obtain rfl:=bK;exact be _
theorem agR(aG:dg k ap mid y am)(a8:wK aq aN aH cl)(aK:B3 t)(be:∀q,0<=R q/\R q<256)(c4:aC+s<=ae)(U:s<=1000/\t.length<=100)(nU:hO.length<=1000)(hc:as.length<=1000)(c:∀bP,gM (tg t lD t1 t2 l5 l6 l7 s iG iH aq aN cF) bP->cv .next bP (zb k u cF e4 aH cl er ae R aq aN (aC+s) (hO++[fl<|he R aC s])<|as++[fl<|nT t<|he R aC s]))(b7:gM (tg t lD t1 t2 l5 l6 l7 s iG iH aq aN cF) C):b3 (aT k ap mid y am) z u uC (zb k u cF e4 aH cl er ae R aq aN aC hO as) C Up cv:=by have Q:cp=2^24:=f;have aO:=ik aG;have wL:(he R aC s).length=s:=agQ;have FN:fJ (he R aC s):=Uq be;refine b3.le b7 ?_;have LJ:∀(i lE g' p:Nat)(bF:Option aw)(f0 f1 fT:Tok),∃E,rF 30 (iD y) lE g' (oC (.ref i) "num_data" W) (λE=>⟨[(i,m9 bF l6 l7 s f0 f1 fT p)],0,E,ur,[],[]⟩) (.int (s:Int) E) (λG=>(G.gs,G.objs.head?,G.objs.tail.map (·.1))) (λx=>([],A (i,m9 bF l6 l7 s f0 f1 fT p),[lE])):=λi lE g' p bF f0 f1 fT=>⟨fT,SX i lE g' p bF l6 l7 s f0 f1 fT y⟩;refine b3.rQ (cU.aeP (hp:=λab bL=>ab=he R aC s/\bL=zb k u cF e4 aH cl er ae R aq aN (aC+s) hO as) aq aO Ft (by rintro ab bL m o O a⟨_,rfl⟩ah;exact(ah.snd.fst.2 aq bm).1) λm o O ax Y a ar Q P r ah J ac=>(cU.words (s:=s) (a0:=gO 1944 1940) (b0:=(m_ aq hO).both<|m_ aN as) (t:=e4) aG (rR f) f (by cbv) (Fq (h:=l6) (M:=l7) (G:=s) aG aE.nm LJ (λx=>f) λx x=>f) c4 (bZ (.l .x<|.n 1048576) [.l .x<|.n 1000] f U.1) a8.ci ⟨(λe=>nomatch e),λe=>nomatch e⟩ (by cbv) (by cbv) f (by cbv) (by cbv) (by cbv) (by cbv) (by cbv)) m o O ax Y a ar Q P r ah J λaU an B dn cD eb ge=>ac aU an B dn cD eb ⟨he R aC s,ge.1,⟨f,ge.2⟩,FN,l wL<|a' U.1 aS⟩) (by cbv) ?_;rintro B dn⟨_,b,rfl,Cd,rfl,rfl⟩;generalize he R aC s=ab at wL FN c;refine b3.xB (cU.QC (aA:=hO) (B:=fl ab) (bL:=zb k u cF e4 aH cl er ae R aq aN (aC+s) (hO++[fl ab]) as) (ae:=iH) aG (wz f) (afz a8.2 λe=>a8.1<|bc e) f (by cbv) aE.nm (afD Cd)<|gT [1,1,-1] (.l .x .y) [.l .x<|.n 1000,.e .y<|.n 16777216] f nU Q) f<|qk<|⟨f,?_⟩;refine b3.mM<|bE.assign (B:=.int ab.length) (af.CV (us aG) aE.QB<|c' (.t .x<|.n 4611686018427387904) [.l .y<|.n 1000,.e .x .y] f U.1 wL) (by cbv)<|bE.nil<|b3.mM<|bE.B6 (B:=fl ab) (af.aaR aO aE.QB Ft<|iO [1,1,-1,1] (.l .x .y) [.l .z<|.n 1000,.e .y<|.n 16777216,.e .x .z] f U.1 Q wL) (by cbv)<|bE.nil ?_;refine b3.mM<|bE.aaT (ab:=ab) (eA:=dE (t.length:Int).toNat 0) f (by cbv) (af.Mo (G:=0) (af.list (aA:=[.int 0]) (gt.hQ af.du gt.nl) (by show 1<=cp;decide)) aE.nm (kL _)<|bZ (.cz (.c .x)<|.n 16777216) [.l .x<|.n 100] f U.2) (λh X=>by refine l (Hc X) ?_;decide) (tF▸qe [1,1,1,-1,1,1] (.t (.a .x .y) .z) [.l .w<|.n 1000,.l .u<|.n 100,.e .z<|.n 16777216,.e .x .w,.eK (.c .y)<|.c .u] f U.1 U.2 Q wL (oK<|bZ (.cz (.n 0)<|.c .x) [] f))<|bE.nil ?_;refine b3.mM<|agO (t:=t) (lD:=lD) (t1:=t1) (t2:=t2) (l5:=l5) (l6:=l6) (l7:=l7) (jb:=s) (iG:=iG) (iH:=iH) (aq:=aq) (aN:=aN) (cF:=cF) aG FN aK (⟨c' (.l .x<|.n 1000) [.l .y<|.n 1000,.e .x .y] f U.1 wL,U.2⟩) (λbP agS=>bE.nil<|b3.le agS<|cx (Lg (t:=t) FN ab.length) λiT gK=>?_)<|iZ f;exact b3.xB (cU.QC (aA:=as) (B:=fl<|nT t ab) (bL:=zb k u cF e4 aH cl er ae R aq aN (aC+s) (hO++[fl ab])<|as++[fl<|nT t ab]) (ae:=iG) aG (wz f) (afA a8.3 λe=>a8.1 (bc e).symm) f (by cbv) (af.aaO (s:=ab.length) aE.rn aE.nm<|qe [1,1,1,-1,1,1] (.l .x .y) [.l .z<|.n 1000,.l .w<|.n 100,.e .y<|.n 16777216,.e .u .z,.e .x<|.a .u .w] f U.1 U.2 Q wL gK) afC<|gT [1,1,-1] (.l .x .y) [.l .x<|.n 1000,.e .y<|.n 16777216] f hc Q) f<|qk<|⟨f,b3.nil<|c _<|iZ f⟩
end
theorem Ur{bk:Type}{L:List bk->Prop}(aG:L [])(Q:∀H i,L H->L (H++[i]))(H:List bk):L H:=by
 have:∀D:List bk,L D.reverse:=λD=>by induction D with
  |nil=>exact aG|cons i D a5=>refine l List.reverse_cons ?_;exact Q _ _ a5
 exact List.reverse_reverse H▸this H.reverse
noncomputable def k7(R:Nat->Int)(H:List<|Nat×List Int):Nat×List bd×List bd:=H.foldl (λst r=>(st.1+r.1,st.2.1++[fl<|he R st.1 r.1],st.2.2++[fl<|nT r.2<|he R st.1 r.1])) (0,[],[])
theorem LK(R:Nat->Int)(H:List<|Nat×List Int)(r:Nat×List Int):k7 R (H++[r])=((k7 R H).1+r.1,(k7 R H).2.1++[fl<|he R (k7 R H).1 r.1],(k7 R H).2.2++[fl<|nT r.2<|he R (k7 R H).1 r.1]):=by unfold k7;refine z5.symm▸?_;rfl
theorem agT(R:Nat->Int)(H:List<|Nat×List Int):(k7 R H).2.1.length=H.length/\(k7 R H).2.2.length=H.length/\(k7 R H).1=(H.map (·.1)).sum:=by induction H using Ur with|aG=>exact⟨f,f,f⟩|Q H r a5=>
  refine eV a5 λag aF bb=>l (LK ..)<|⟨?_,?_,?_⟩
  .simp[ag]
  .simp[aF]
  .simp[bb]
noncomputable def wM(k:ck)(u:ch)(cF e4 aH cl:Nat)(er:List aw)(ae:Nat)(R:Nat->Int)(aq aN:Nat)(H:List<|Nat×List Int):Inv:=zb k u cF e4 aH cl er ae R aq aN (k7 R H).1 (k7 R H).2.1 (k7 R H).2.2
theorem agU{H:List<|Nat×List Int}{s q:Nat}{r:Nat×List Int}(c:((H++dE s r).map (·.1)).sum<=ae)(ah:q<s):((H++dE q r).map (·.1)).sum+r.1<=ae:=by simp only[mb,Nt,Nu,List.sum_replicate_nat]at c⊢;have:=G2 r.1<|Nf ah;rw[G3]at this;exact xL (.l (.a (.a .x .y) .z) .w) [.l (.a .x .u) .w,.l (.a .y .z) .u] f c this
theorem agV(aG:dg k ap mid y am)(a8:wK aq aN aH cl)(aK:B3 t)(a1:Fu t.length=A t)(be:∀q,0<=R q/\R q<256)(U:gu<=1000/\t.length<=100)(aM:H.length+ki<=500)(bw:((H++dE ki (gu,t)).map (·.1)).sum<=ae)(c:∀bP,gM (zc iG iH aq aN cF) bP->cv .next bP (wM k u cF e4 aH cl er ae R aq aN<|H++dE ki (gu,t)))(b7:gM (("ec_info",.f<|.ec ki ((gu+t.length:Nat):Int) gu)::zc iG iH aq aN cF) C):b3 (aT k ap mid y am) z u uC (wM k u cF e4 aH cl er ae R aq aN H) C Uo cv:=by
 refine b3.le b7 ?_;have agW:∀(i lE g' p:Nat)(bF:Option aw)(f0 f1 fT:Tok),∃E,rF 30 (iD y) lE g' (oC (.ref i) "num_total" W) (λE=>⟨[(i,m9 bF ki ((gu+t.length:Nat):Int) gu f0 f1 fT p)],0,E,ur,[],[]⟩) (.int ((gu+t.length:Nat):Int) E) (λG=>(G.gs,G.objs.head?,G.objs.tail.map (·.1))) (λx=>([],A (i,m9 bF ki ((gu+t.length:Nat):Int) gu f0 f1 fT p),[lE])):=λi lE g' p bF f0 f1 fT=>⟨f1,aeD i lE g' p bF ki ((gu+t.length:Nat):Int) gu f0 f1 fT y⟩;have LJ:∀(i lE g' p:Nat)(bF:Option aw)(f0 f1 fT:Tok),∃E,rF 30 (iD y) lE g' (oC (.ref i) "num_data" W) (λE=>⟨[(i,m9 bF ki ((gu+t.length:Nat):Int) gu f0 f1 fT p)],0,E,ur,[],[]⟩) (.int (gu:Int) E) (λG=>(G.gs,G.objs.head?,G.objs.tail.map (·.1))) (λx=>([],A (i,m9 bF ki ((gu+t.length:Nat):Int) gu f0 f1 fT p),[lE])):=λi lE g' p bF f0 f1 fT=>⟨fT,SX i lE g' p bF ki ((gu+t.length:Nat):Int) gu f0 f1 fT y⟩;have ow:∀(i lE g' p:Nat)(bF:Option aw)(f0 f1 fT:Tok),∃E,rF 30 (iD y) lE g' (oC (.ref i) "num_blocks" W) (λE=>⟨[(i,m9 bF ki ((gu+t.length:Nat):Int) gu f0 f1 fT p)],0,E,ur,[],[]⟩) (.int (ki:Int) E) (λG=>(G.gs,G.objs.head?,G.objs.tail.map (·.1))) (λx=>([],A (i,m9 bF ki ((gu+t.length:Nat):Int) gu f0 f1 fT p),[lE])):=λi lE g' p bF f0 f1 fT=>⟨f0,aeE i lE g' p bF ki ((gu+t.length:Nat):Int) gu f0 f1 fT y⟩;refine b3.mM<|bE.assign (B:=.int t.length) (c5.cast (af.sub (Fq (h:=ki) (M:=((gu+t.length:Nat):Int)) (G:=gu) aG aE.nm agW (λx=>f) λx x=>f)<|Fq (h:=ki) (M:=((gu+t.length:Nat):Int)) (G:=gu) aG aE.nm LJ (λx=>f) λx x=>f) (by push_cast;exact c' (.eK (.s (.a (.c .x)<|.c .y)<|.c .x)<|.c .y) [] f)) (by cbv)<|bE.nil<|b3.mM<|bE.assign (B:=.tup<|t.map .int) (af.ad5 aG aE.nm a1) (by cbv)<|bE.nil<|b3.rQ (cU.range (us aG) (s:=t.length) aE.nm) (by cbv) ?_;rintro B dn e2;refine cx e2 λg2 h0=>l g2<|sl h0 λlD t1 t2 l5 hu=>l hu<|b3.qf (λq C aj=>gM (tg t lD t1 t2 l5 ki ((gu+t.length:Nat):Int) gu iG iH aq aN cF) C/\aj=wM k u cF e4 aH cl er ae R aq aN (H++dE q (gu,t))) (λx x=>f) (m2.t_ (s:=ki) (ik aG) (Fq (h:=ki) (M:=((gu+t.length:Nat):Int)) (G:=gu) aG aE.nm ow (λx=>f) λx x=>f) wi (by cbv) f<|c' (.t .x<|.n 4611686018427387904) [.l (.a .y .x)<|.n 500] f aM) ?_ ⟨(iZ f),by exact l Nv<|l (u' ..) f⟩ ?_
 .rintro q h bP bL X iv;refine cx iv λfx kD=>l kD<|cx (Jf X) λah lF=>l lF<|eV (agT R<|H++dE q (gu,t)) λh2 i9 agX=>?_;have cP:(H++dE q (gu,t)).length<=1000:=io▸tF▸gv (.l (.a .x .y)<|.n 1000) [.l (.a .x .z)<|.n 500,.t .y .z] f aM ah;refine⟨aE.t1,agR (s:=gu) (t:=t) (lD:=lD) (t1:=t1) (t2:=t2) (l5:=l5) (l6:=ki) (l7:=((gu+t.length:Nat):Int)) aG a8 aK be (agX▸agU bw ah) U (c' (.l .x<|.n 1000) [.e .x .y,.l .y<|.n 1000] f h2 cP) (c' (.l .x<|.n 1000) [.e .x .y,.l .y<|.n 1000] f i9 cP) (λnL lW=>⟨lW,(l List.replicate_succ'<|c2 (tD ..) ?_)⟩) fx⟩;unfold wM;exact l (LK ..) f
 .rintro bP bL nV;exact cx nV λfx q0=>l q0<|l (gp ..)<|l (Je ..)<|b3.nil<|c _<|cx fx λx q1=>cx q1 λx wN=>cx wN λx LL=>cx LL λx D=>D
noncomputable abbrev Lay:=Nat×Nat×List Int
noncomputable def pS(j:Lay):bd:=.ec j.1 ((j.2.1+j.2.2.length:Nat):Int) j.2.1
noncomputable def hP(as:List Lay):List (Nat×List Int):=as.flatMap λj=>dE j.1 j.2
theorem agY{as:List Lay}{q:Nat}{j:Lay}(c:as[q]?=A j):hP (as.take<|q+1)=hP (as.take q)++dE j.1 j.2:=by refine l List.take_succ<|l c ?_;simp[hP]
theorem agZ(q:Nat):(hP<|as.take q).length<=(hP as).length/\((hP<|as.take q).map (·.1)).sum<=((hP as).map (·.1)).sum:=by
 have:hP as=hP (as.take q)++hP (as.drop q):=by unfold hP;exact c2 Hd<|l (va ..) f
 exact l this<|l io<|l mb<|l Nt<|⟨hT _ _,hT _ _⟩
inductive rV(as:List Lay)(ae:Nat):Prop|mk(fQ:∀j∈as,B3 j.2.2/\Fu j.2.2.length=A j.2.2/\j.2.1<=1000/\j.2.2.length<=100)(fR:(hP as).length<=500)(gs:((hP as).map (·.1)).sum<=ae):rV as ae
theorem Us:∀(H:List Bool)(i:Int),0<=i->0<=H.foldl (λi b=>2*i+(bif b then 1 else 0)) i/\H.foldl (λi b=>2*i+(bif b then 1 else 0)) i<(i+1)*2^H.length
 |[],i,c=>⟨c,by simp;exact gd (.cg .x<|.o .x) [] f⟩|b::H,i,c=>by
  have n:(0:Int)<=(bif b then 1 else 0)/\(bif b then(1:Int)else 0)<=1:=by cases b<;>decide
  refine cx (Us H (2*i+(bif b then 1 else 0))<|GO (M1 aS c) n.1) λag aF=>⟨ag,M5 aF ?_⟩;have j:(i+1)*2^(b::H).length=(2*(i+1))*2^H.length:=l jX<|l (Int.pow_succ ..)<|l (C6 _ 2)<|c2 (GI ..)<|l (C6 (i+1) 2) f;exact j.symm▸Int.mul_le_mul_of_nonneg_right (l (zM ..)<|l (Int.add_assoc ..)<|Int.add_le_add_left (M4 n.2 1) _) (Int.pow_nonneg aS)
theorem ag0(H:List Bool):0<=valOf H/\valOf H<2^H.length:=by have:=Us H 0 aS;simpa[valOf]using this
theorem ag1(s:Nat):valOf (dE s a2)=0:=by unfold valOf;induction s with|zero=>rfl|succ s a5=>refine l np<|l z2 ?_;exact a5
theorem Ut(aQ:List Bool)(q:Nat):0<=f7 aQ q/\f7 aQ q<256:=by
 unfold f7;by_cases c:8*q<aQ.length
 .have:=ag0<|rO aQ<|8*q;rw[chunk_len c]at this;exact this
 .unfold rO;refine l (u_ (by exact c' (.l .x<|.m 8 .y) [.iO (.m 8 .y) .x] f c))<|l List.take_nil<|l (Ha ..)<|l (ag1 ..) ?_;decide
theorem ag2(aG:dg k ap mid y am)(hc:rV as<|(aQ.length+7)/8)(U:aQ.length<=2^20):b3 (aT k ap mid y am) (z+1) u uC (gO 1944 1940) [("buff",.f<|.buf<|cT<|f6 aQ),("ec_infos",.f<|.tup<|as.map pS)] ((gC<|cH az 18).take 8) (λcN bP bL=>cN=.next/\∃cF e4 aH cl er iG iH aq aN,gM (zc iG iH aq aN cF) bP/\wK aq aN aH cl/\bL=wM k u cF e4 aH cl er ((aQ.length+7)/8) (f7 aQ) aq aN (hP as)):=by
 have cK:=us aG;have aO:=ik aG;conv=>arg 7;whnf
 refine b3.doc ?_;conv=>arg 7;whnf
 refine b3.rQ (cU.aeJ aG (rR f) (by rfl) (by cbv) U) (by cbv) ?_;rintro B dn bK;refine HF bK λcF aH e4 cl er b8 dm f9 H_=>l b8 ?_;obtain rfl:=dm;conv=>arg 7;whnf
 refine b3.aeL (h:="data_blocks") (M:="error_blocks") aG.2 (rR f) (by cbv) (by cbv) (λm br=>by rfl) ?_ ?_
 .intro m br;have j:m={m with scope:=uC}:=c2 br f;refine l j ?_
  cbv
 intro aq aN BX db gN;have a8:wK aq aN aH cl:=⟨BX,λe=>db ?_,λe=>gN ?_,f9,H_⟩
 .conv=>arg 7;whnf
  refine b3.rQ (cU.Qy (aq:=aq) (aA:=[]) aG (by rfl) (by cbv) λm o O a c=>c.snd.fst) (by cbv) ?_;rintro B dn dX;refine cx dX λeO fE=>cJ fE λiH gh=>l eO ?_;obtain rfl:=gh;conv=>arg 7;whnf
  refine b3.rQ (cU.Qy (aq:=aN) (aA:=[]) aG (by rfl) (by cbv) λm o O a c=>c.snd.snd) (by cbv) ?_;rintro B dn gV;refine cx gV λh1 i8=>cJ i8 λiG jC=>l h1 ?_;obtain rfl:=jC;conv=>arg 7;whnf
  refine b3.mM<|bE.assign (af.ad2 aG) (by cbv)<|bE.nil<|b3.mM<|bE.assign (af.ad3 aG) (by cbv)<|bE.nil<|b3.qf (λq C aj=>gM (zc iG iH aq aN cF) C/\aj=wM k u cF e4 aH cl er ((aQ.length+7)/8) (f7 aQ) aq aN (hP<|as.take q)) (λx x=>f) (m2.tup<|af.name (B:=.tup<|as.map pS) f (by cbv)) ?_ ⟨(iZ f),f⟩ ?_
  .rintro q h bP bL X lm;refine cx lm λfx mm=>l mm ?_;replace X:=(fW)▸X;refine n4 X λj br sM=>c2 sM<|hG (hc.1 j<|pf br) λdJ dU dN eK=>?_;have gG:=agY br;refine cx (agZ (as:=as)<|q+1) λfq iy=>?_;have cP:=hc.2;have ag3:=hc.3;obtain⟨ki,gu,t⟩:=j;rw[gG]at fq iy;rw[io,tF]at fq;exact⟨aE.t1,agV (ki:=ki) (gu:=gu) (t:=t) aG a8 dJ dU (Ut aQ) ⟨dN,eK⟩ (a' fq cP) (a' iy ag3) (λnL lW=>⟨lW,l gG f⟩) ⟨f,fx⟩⟩
  .rintro bP bL qv;exact cx qv λfx qw=>l qw<|l (gp ..)<|l xn<|b3.nil ⟨f,(WG cF e4 aH cl er iG iH aq aN fx a8 f)⟩
 .exact di e (λe=>bO<|kl.mpr e) λe=>bB e
 .exact di e (λe=>bO<|kl.mpr e) λe=>bB e
section
theorem Uu{ae:cL}{k:ck}{m:Env}{C:Ctx}{lY:List eS}{K:gn->ai->Prop}:∀(ly:List eS)(r:Pos)(a:ai),jY (cG ae k) C (dG ly m) (λR bR w=>R=.next/\jY (cG ae k) C (dG lY m) (λR x w=>K R w) (λx x x=>False) bR w) (λx x x=>False) r a->jY (cG ae k) C (dG (ly++lY) m) (λR x w=>K R w) (λx x x=>False) r a|[],r,a,c=>by rw[uW]at c;exact c.2|st::H,r,a,c=>by refine l u8<|l (pa ..) ?_;rw[pa]at c;rw[z_]at c⊢;refine mc _ C _ (λR bR w be=>?_) (λx x x h=>h) r a c;cases R with|next=>exact Uu H bR w be|brk=>exact nomatch be.1|cont=>exact nomatch be.1|ret B=>exact nomatch be.1
theorem Ce{prog:cL}{k:ck}{u:ch}{m:Env}{a:ai}{ly lY:List eS}{K:gn->ai->Prop}(c:I prog k u (dG ly m) (λR w=>R=.next/\I prog k u (dG lY m) K w) a):I prog k u (dG (ly++lY) m) K a:=λC r aG ag aF=>Uu ly r a<|mc _ C _ (λR bR w be=>⟨be.1,be.2 C bR aG ag aF⟩) (λx x x h=>h) r a<|c C r aG ag aF
variable{g:d7}{m ze:Env}{o O ax:List aw}{Y:Nat}{a w:ai}{aj:Inv}
theorem Inv.At.into(ah:aj.At g m o O a)(dx:∀b∈bY ze,a.heap.objs.size<=b)(t:a9 [] [] a w):aj.At g ze (bY ze++o) [] w:=by have c:=(ah.wide (bi:=bY ze++o) (λb n=>bB n) λb n=>bD n (λe=>.inr<|dx b e) .inl).it t aP aP;exact⟨c.1,λb n=>⟨(c.2 b n).1,(λe=>dI e),λe=>b4 (ah.2 b n).2.2.2.2<|dx b e,(c.2 b n).2.2.2⟩,c.3⟩
variable{k:ck}{ap:ai}{mid:Nat->Obj}{y:Nat}{am:go}{z:Nat}{u:ch}{aQ:List Bool}{as:List Lay}{C:cm}{aY:List au}{J:au->ai->Prop}
noncomputable def wO(L:cy)(y:Nat):FuncData:=fdOf<|Bs az L y
theorem LM(L:cy)(y:Nat):(es L y).get 1900=A (Bs az L y):=by cbv
theorem ag4(L:cy)(y:Nat):(es L y).get 1899=A (RI az L y):=by cbv
theorem ag5(a:ai)(L:cy)(y:Nat)(h M:au):jr a (wO L y) ⟨[h,M],[]⟩ [("ec_infos",h),("buff",M)]:=tH (by cbv)
theorem ag6(c:dg k ap mid y am)(b:fp (aT k ap mid y am) a):FnAt a 1900 (wO k.params y) (gC<|cH az 18):=wv (e:=1899) (E:=y+843) c b (LM ..) f (by cbv) (by cbv) (ag4 ..) f (by cbv) (by cbv) (by cbv) (by cbv) (by cbv) (by cbv)
noncomputable def FO(aQ:List Bool)(as:List Lay):bd:=.tup [.lst (k7 (f7 aQ)<|hP as).2.1,.lst (k7 (f7 aQ)<|hP as).2.2]
theorem Uv(aG:dg k ap mid y am)(ar:eJ (z+2) u)(P:ct (aT k ap mid y am) m o O ax Y)(r:bo (aT k ap mid y am) m o O Y C a)(cz:(gO 1944 1940).At (aT k ap mid y am) m o O a)(aL:mq Y o [(.b2,.tup<|as.map pS),(.b2,.buf<|cT<|f6 aQ)] a aY)(hc:rV as<|(aQ.length+7)/8)(U:aQ.length<=2^20)(ac:∀i V s aq rW wP aN uD wR w,a9 [1940] [] a w->(gO 1944 1940).At (aT k ap mid y am) m o O w->fp (aT k ap mid y am) w->i∉o->w.heap.get? i=A {cls:=.type "tuple",data:=.seq V s}->V.toList=[.ref aq,.ref aN]->aq∉o->w.heap.get? aq=A {cls:=.type "list",data:=.seq rW wP}->bX w.heap o (k7 (f7 aQ)<|hP as).2.1 rW.toList->(∀B∈rW.toList,∀h,B=.ref h->aq<=h)->a.heap.objs.size<=aq->aN∉o->w.heap.get? aN=A {cls:=.type "list",data:=.seq uD wR}->bX w.heap o (k7 (f7 aQ)<|hP as).2.2 uD.toList->J (.ref i) w):I az k u (et (.ref 1900) aY []) J a:=by
 refine gc λx dA=>dZ aL λlx x bK x b8=>dZ b8 λo0 x dm x LN=>?_;obtain rfl:=bK;obtain rfl:=dm;have LO:_=[]:=LN;subst LO;refine dA<|A7 (g:=aT k ap mid y am) (eh:=["ec_infos","buff"]) (ik aG) ar (ag6 aG r.2) (by cbv) (by cbv) P r aL f (ag5 a k.params y lx o0) (by cbv) λw dx cc eB bR fH=>?_;have jd:(c3 (wO k.params y) 1900 a).scope=uC:=by cbv
 generalize u.deeper (c3 (wO k.params y) 1900 a)=kc at*;generalize c3 (wO k.params y) 1900 a=en at*;refine Ce<|I.mono (ag2 (z:=z) aG hc U en (bY en++o) [] o _ w fH jd eB bR<|cz.into (ze:=en) dx cc) ?_;rintro R an dX;refine dX.gi λcN t' cD h6 eb dn eO ag7 c6 fE eY=>cx eO λe2 g2=>?_;obtain rfl:=e2;refine Wo g2 λcF e4 aH cl er iG iH aq aN n6 a8 h0=>?_;obtain rfl:=h0;refine eV fE λhu fs cX=>l hu<|⟨f,?_⟩;have Uw:=cX.le λh bt e=>n6.has e;have LP:∀b∈o,b∈cD:=λb n=>c6.1 b<|bB n;have hK:∀b∈o,b<a.heap.objs.size:=λb n=>cI (P.8 b n) r.1;have aI:a9 [1940] [] a an:=(cc.mono aP aP).gR c6.6 (λb n=>by
  refine bD n (λe=>?_) λe=>?_
  .refine bD e (λe=>?_) λe=>?_
   .exact dI e
   .exact .inr<|fS<|dx b e
  .exact .inl e) aP;have Ux:∀b∈[aq,aN],a.heap.objs.size<=b:=λb n=>by
  have cr:b∈(wM k kc cF e4 aH cl er ((aQ.length+7)/8) (f7 aQ) aq aN<|hP as).W:=bB n;rcases c6.4 b cr with G|G
  .have:b≠1940:=λj=>by subst j;exact di n (λj=>a8.2<|j▸bm) λn=>a8.3<|bc n▸bm
   exact absurd (bc G) this
  .exact a' cc.2 G
 have Uy:∀b∈[aq,aN],b∉o:=λb n e=>b4 (hK b e)<|Ux b n;conv=>arg 4;arg 1;whnf
 refine I.eq (l (pa ..)<|l (Gt ..) f)<|I.bind<|dQ<|I.bind<|(af.tuple (g:=aT k ap mid y am) (z:=z+1) (T:=uC) (C:=zc iG iH aq aN cF) (aA:=[.raw<|.ref aq,.raw<|.ref aN]) (gt.hQ (aE.nm (h:="data_blocks"))<|gt.hQ (aE.nm (h:="error_blocks")) gt.nl) (by show 2<=cp;decide)) kc en cD h6 o eb fH jd fs an _ Uw λaU al a6 LQ=>?_;have fK:=eY.it a6 aP aP;have jO:a9 [1940] [] a al:=aI.trans<|a6.mono aP aP;refine gc λx dA=>la LQ λi V s gh aX aJ aB=>?_;obtain rfl:=gh;refine dA ?_;refine dZ (by refine dZ aB λB H j e D=>?_;exact⟨B,H,j,e,D⟩:∃vV h2,V.toList=vV::h2/\vV=.ref aq/\bX al.heap cD [.raw<|.ref aN] h2) λvV h2 bW dd aB=>?_;refine dZ (by refine dZ aB λB H j e D=>?_;exact⟨B,H,j,e,D⟩:∃A9 i9,h2=A9::i9/\A9=.ref aN/\bX al.heap cD [] i9) λA9 i9 cR ee aB=>?_;refine gc λx dA=>?_;subst aB cR dd ee;have fV:∀b v,b∉cD->al.heap.get? b=A v->al.heap.get? b=A v/\b∉o:=λb v n j=>⟨j,λe=>n<|LP b e⟩;exact eV fK.snd.fst.1 λdb gV LR=>fM gV λrW wP zf Cf=>eV fK.snd.snd.1 λgN h1 alR=>fM h1 λuD wR Cg Ch=>cx fK.fst.fst.1 λBW i8=>cJ i8 λcE ka=>dA<|I.pure<|I.pure<|⟨_,f,ac i V s aq rW wP aN uD wR al jO ⟨⟨λe=>BW<|LP _ e,cE,ka⟩,λb n=>j0 (cz.2 b n) λdJ dU dN eK f_=>⟨dJ,dU,dN,eK,cI f_ jO.2⟩,aP⟩ (Uw.grow a6).2 (λe=>aX<|LP _ e) aJ bW (Uy aq<|bm) zf (bX.to fV _ _ Cf) (LR _ _ zf) (Ux aq<|bm) (Uy aN<|mt bm) Cg<|bX.to fV _ _ Ch⟩
theorem ag8(aG:dg k ap mid y am)(ar:eJ (z+2) u)(P:ct (aT k ap mid y am) m o O ax Y)(r:bo (aT k ap mid y am) m o O Y C a)(cz:(gO 1944 1940).At (aT k ap mid y am) m o O a)(aL:mq Y o [(.b2,.tup<|as.map pS),(.b2,.buf<|cT<|f6 aQ)] a aY)(hc:rV as<|(aQ.length+7)/8)(U:aQ.length<=2^20)(ac:∀aU w,a9 [1940] [] a w->(gO 1944 1940).At (aT k ap mid y am) m o O w->fp (aT k ap mid y am) w->bV w.heap o (FO aQ as) aU->J aU w):I az k u (et (.ref 1900) aY []) J a:=by
 refine Uv aG ar P r cz aL hc U λi V s aq rW wP aN uD wR w t ag_ n aX aJ bW db zf Cf x x gN Cg Ch=>ac _ w t ag_ n<|⟨i,V,s,f,aX,aJ,(l bW<|(⟨_,_,f,?_,?_⟩))⟩
 .exact⟨aq,rW,wP,f,db,zf,Cf⟩
 .exact⟨_,_,f,(⟨aN,uD,wR,f,gN,Cg,Ch⟩),by exact f⟩
end
noncomputable def lG:Scope:=fz<|cH az 17
noncomputable def ag':eS->Pos|.FunctionDef bC dw ic su QX alS alT alU alV r=>r|_=>default
noncomputable def FP:Pos:=ag' jc
noncomputable def zg:Str:="make_final_message.<locals>.to_binary"
noncomputable def aha:Inv where
 W:=[1892]
 G:=[]
 St:=λo a=>1894∉o/\∃cE,TabAt a.heap 1894 1892 cE/\codeAmong FP cE.toList=a7
 frame:=λo a w cd dc c t dr x=>by
  refine cx c λaZ bK=>bl bK λcE bI aO=>⟨aZ,(dk cE (bI.kept λb n v j=>t.1 b v (λc0=>?_) j) aO)⟩;rcases n with rfl|rfl
  .exact aZ (dr _ c0).1
  .exact(dr _ c0).2 bm
 mono:=λo bi a c cA=>by exact cx c λaZ b8=>bl b8 λcE bI aO=>⟨λc0=>(cA _ c0).elim aZ λG=>b4 bI.1.lt.1 G,(dk cE bI aO)⟩
noncomputable def kF(aR bv:aw):Inv where
 W:=[1892,bv]
 G:=[]
 St:=λo a=>1894∉o/\aR∉o/\1993<=aR/\1993<=bv/\(∃cE,TabAt a.heap 1894 1892 cE/\codeAmong FP cE.toList=A (.ref aR))/\(∃cE,TabAt a.heap aR bv cE)/\a.heap.CodeRec (.ref aR) zg
 frame:=λo a w cd dc c t dr x=>by
  refine gc λx dA=>oI c λaZ aO ag aF e2 g2 h0=>bl e2 λcE bI ru=>cJ g2 λCi Cj=>Aj h0 λe v V E j aK D=>?_;cases j;refine dA<|⟨aZ,aO,ag,aF,⟨cE,bI.kept λb n v j=>t.1 b v (λc0=>?_) j,ru⟩,⟨Ci,Cj.kept λb n v j=>t.1 b v (λc0=>?_) j⟩,aR,v,V,E,f,t.1 _ _ (λc0=>aO (dr _ c0).1) aK,D⟩
  .rcases n with rfl|rfl
   .exact aZ (dr _ c0).1
   .exact(dr _ c0).2 bm
  .rcases n with rfl|rfl
   .exact aO (dr _ c0).1
   .exact(dr _ c0).2<|mt bm
 mono:=λo bi a c cA=>by exact gc λx dA=>oI c λaZ aO ag aF hu iv bb=>bl hu λcE bI ru=>cJ iv λCi Cj=>dA<|⟨λc0=>(cA _ c0).elim aZ λG=>b4 bI.1.lt.1 G,λc0=>(cA _ c0).elim aO λG=>b4 Cj.1.lt.1 G,ag,aF,⟨cE,bI,ru⟩,⟨Ci,Cj⟩,bb⟩
noncomputable def kG:Option (aw×aw)->Inv|none=>aha|some e=>kF e.1 e.2
noncomputable def zh(aR da:aw)(nm:au):FuncData:={name:="to_binary",qualname:=zg,params:=sT jc,body:=.stmts<|gC jc,scope:=fz jc,globals:=3,closure:=[],closureTuple:=.none,code:=.ref aR,builtins:=0,defaults:=.ref da,kwdefaults:=.none,annotations:=a7,pyModule:=nm,doc:=.none}
noncomputable def o7(aR da:aw)(nm:au):Obj:={cls:=.type "function",data:=.func<|zh aR da nm}
noncomputable def th(E:Tok):Obj:={cls:=.type "tuple",data:=.seq #[.int 8 E]}
noncomputable def rX(R aR da:aw)(nm:au)(E:Tok):bd:=.gf [(R,o7 aR da nm),(da,th E)]<|.ref R
theorem ahb:∃vW,jc=.FunctionDef "to_binary" (sT jc) (gC jc) [] a7 [] (fz jc) a7 "to_binary" FP/\(sT jc).defaults=[.Constant (.int 8) 0 vW]/\(sT jc).kw_defaults=[]/\(sT jc).kwonlyargs=[]:=(p' _ f f f f)
theorem ahc(m:Env):annTrees (sT jc) a7 m=[]:=rfl
theorem ahd:∀h∈(fz jc).names,h.2≠.free:=by
 have:(fz jc).names.all (λh=>h.2 !=.free)=W:=by cbv
 intro h X;have:=hU.mp this h X;simpa using this
theorem ahe(gg:1993<=a.heap.objs.size)(cA:∀b∈o,b<a.heap.objs.size)(zi:m.code=.ref 1894)(c:(kG v).St o a)(ac:∀aR bv aW aa ft,(∀b∈aW,a.heap.objs.size<=b)->Ac 1892 a.heap aa->a.heap.objs.size<=aa.objs.size->(∀b∈aW,b<aa.objs.size)->(∃cE ec,TabAt a.heap 1894 1892 cE/\TabAt aa 1894 1892 (cE++ec))->(kG<|A (aR,bv)).St (aW++o) {a with heap:=aa,toks:=ft}->(v=A (aR,bv)/\aW=[]\/v=a7/\aW=[bv])->J (.ref aR) {a with heap:=aa,toks:=ft}):cj ba u (functionCode m FP cN name zg (sT jc) (fz jc)<|.stmts<|gC jc) J aN a:=by cases v with
 |none=>
  refine gc λx dA=>cx c λaZ kD=>bl kD λcE bI aO=>dA<|wpAny_functionCodeX zi bI.1 bI.2 aO λaR aa ft br ag aF bb cn eC⟨bv,yj,lJ,sm⟩=>ac aR bv [bv] aa ft (λb n=>(bc n).symm▸yj) br (no<|mD ag aF) (λb n=>bc n▸(⟨lJ,sm⟩:TabAt aa aR bv #[]).1.lt.2) ⟨cE,_,bI,bb,eC⟩ (⟨λe=>?_,λe=>?_,a' gg ag,a' gg yj,⟨_,⟨bb,eC⟩,?_⟩,⟨#[],lJ,sm⟩,cn⟩)<|.inr ⟨f,f⟩
  .exact di e (λe=>b4 (e▸bI.1.lt.1) yj) λe=>aZ e
  .exact di e (λe=>((⟨lJ,sm⟩:TabAt aa aR bv #[]).ne) e) λe=>b4 (cA _ e) ag
  .exact l Array.toList_append<|codeAmong_snoc _ bI.triples aO|some e=>refine gc λx dA=>?_;obtain⟨aR,bv⟩:=e;exact oI (id c) λaZ aO ag aF lF nV bb=>bl lF λcE bI ru=>cJ nV λCi Cj=>dA<|wpAny_functionCode_hit zi bI.1 ru<|ac aR bv [] a.heap a.toks aP (Hy _ _) (dD _) aP ⟨cE,#[],bI,Hm▸bI⟩ c<|.inl ⟨f,f⟩
section
variable{k:ck}{ap:ai}{mid:Nat->Obj}{y:Nat}{am:go}{z:Nat}{u:ch}{m:Env}{o O ax:List aw}{Y:Nat}{a:ai}{v:Option<|aw×aw}{C:cm}{a0:Inv}{b_:List eS}{K:gn->ai->Prop}
theorem ahf(m:Env):uX (fz jc) m=dC []:=by rfl
theorem ahg(aG:dg k ap mid y am)(li:m.scope=lG)(zi:m.code=.ref 1894)(aZ:qualnameIn m "to_binary" "to_binary"=zg)(ar:eJ z u)(b7:je C)(P:ct (aT k ap mid y am) m o O ax Y)(r:bo (aT k ap mid y am) m o O Y C a)(ah:(kG v).At (aT k ap mid y am) m o O a)(cz:a0.At (aT k ap mid y am) m o O a)(ahh:1892∉a0.W)(c:∀aR bv R da nm E w aW cC,(v=A (aR,bv)/\aW=[]\/v=a7/\aW=[bv])->(∀b∈aW,a.heap.objs.size<=b)->a9 (bY m++[1892]) [] a w->ct (aT k ap mid y am) m (aW++o) O ax cC->bo (aT k ap mid y am) m (aW++o) O cC (("to_binary",.f<|rX R aR da nm E)::C) w->(kG<|A (aR,bv)).At (aT k ap mid y am) m (aW++o) O w->a0.At (aT k ap mid y am) m (aW++o) O w->I az k u (dG b_ m) K w):I az k u (dG (jc::b_) m) K a:=by
 refine iL ahb λvW bW cR f3 jL=>?_;have Uz:=BS aG;have UA:1993<=a.heap.objs.size:=a' aG.2 r.2.1.2;refine l (pa ..)<|l bW<|l (exec_def ..)<|l aZ<|l (defaultsOf_eq ..)<|l cR<|l f3<|l (ahc ..) ?_;refine I.bind<|dQ ?_;refine dv<|kH ?_;refine bg<|wpAny_evalAll_consts _ _ _ (λj br=>by refine l (bc br) ?_;rfl) λV xP BA=>?_;refine kM<|cu ?_;refine kH<|lb ?_;refine iq (by exact l (makeFunction_eq ..)<|l jL f) ?_;refine cJ (by cases V with|nil=>exact nomatch BA|cons B D=>cases D with
   |nil=>refine cJ BA.1 λE e2=>?_;refine l e2 ?_;exact⟨E,f⟩|cons _ _=>exact nomatch BA.2:∃E,V=[.int 8 E]) λE bK=>?_;refine l bK ?_;refine bg<|wpAny_newTextTuple<|lb<|lb ?_;simp only[makeTail,List.isEmpty_nil,if_true,pure_bind,ahf];generalize fw:({a with heap:=a.heap.push {cls:=.type "tuple",data:=.seq [se 8 E].toArray},toks:=xP}:ai)=an;have aI:a9 [] [] a an:=fw▸(bM.push a _ _);have Bg:an.heap.objs.size=a.heap.objs.size+1:=c2 fw<|f' ..;have ahi:an.heap.get? a.heap.objs.size=A (th E):=c2 fw<|fj _ f;have eY:=ah.it aI aP aP;have cX:=r.now.grow aI;have Bw:∀b∈o,b<an.heap.objs.size:=λb n=>cI ((P.up (cC:=a.heap.objs.size) r.1).8 b n) aI.2;have gg:1993<=an.heap.objs.size:=a' UA aI.2;refine bg<|ahe gg Bw zi eY.1 λaR bv aW aa ft rG ahj dW ahk⟨cE,ec,bI,pC⟩gG aJ=>?_;have a6:a9 [1892] [] an {an with heap:=aa,toks:=ft}:=bM.heap (λb v n j=>ahj b v (λe=>n<|kl.mpr e) j) dW;generalize hH:({an with heap:=aa,toks:=ft}:ai)=al at a6 gG;have ml:∀b v,b<ap.heap.objs.size->b∉(aT k ap mid y am).tabs->ap.heap.get? b=A v->al.heap.get? b=A v:=λb v n bI j=>a6.1 b v (λe=>bI<|kE.mpr<|.inl<|bc e)<|cX.2.1.1 b v bI j;refine P.2.symm▸P.3.symm▸bg (Uz.2 _ _ _ _ ml ?_);have UB:fp (aT k ap mid y am) al:=cX.2.Qt (.inl<|kE.mpr<|.inl f) a6 bI<|c2 hH pC;have lj:=(UB.ns Uz.1).1;refine bg<|wpAny_nsGet lj ?_;refine lb<|i4 ?_ (by size_fits);generalize TZ:((aT k ap mid y am).mg "__name__").getD .none=nm;have gW:ap.heap.objs.size<=an.heap.objs.size:=cX.2.1.2;have UC:(1892:aw)∈o:=(ah.2 1892 (by cases v<;>exact bm)).1;have ahl:(1892:aw)∉bY m:=(ah.2 1892 (by cases v<;>exact bm)).2.2.1;have fs:=P.up (cC:=an.heap.objs.size)<|a' r.1 aI.2;have nc:∀b∈aW,an.heap.objs.size<=b/\b<al.heap.objs.size:=λb n=>⟨rG b n,c2 hH<|ahk b n⟩;have pT:ct (aT k ap mid y am) m (aW++o) O ax al.heap.objs.size:=fs.n7 nc gW a6.2;have df:bo (aT k ap mid y am) m (aW++o) O al.heap.objs.size C al:=cX.w9 b7 (cd:=[1892]) (λG U=>l (bc U) UC) (λG U=>l (bc U) ahl) a6 UB λb n=>(nc b n).1;have ahm:a.heap.objs.size≠1892:=λe=>absurd (e▸UA) aS;have hK:∀b∈o,b<a.heap.objs.size:=λb n=>cI (P.8 b n) r.1;have ahn:a.heap.objs.size∉aW++o:=λe=>bD e (λe=>absurd (nc _ e).1<|l Bg<|bZ (.nl (.o .x) .x) [] f) λe=>iK _<|hK _ e;have aho:a0.At (aT k ap mid y am) m (aW++o) O al:=((cz.it aI aP aP).wide (λb n=>bB n) λb n=>bD n (λe=>.inr (nc b e).1) .inl).it a6 (λb n=>l (bc n)<|⟨bB UC,ahh⟩) aP;have fK:(kG<|A (aR,bv)).At (aT k ap mid y am) m (aW++o) O al:=by
  refine⟨gG,λb n=>?_,aP⟩;have cV:b=1892\/(∃g,v=A (g,b))\/b∈aW:=by
   refine di n (λe=>?_) λe=>?_
   .exact .inl e
   .refine(bc e).symm▸?_;rcases aJ with⟨j,_⟩|⟨_,j⟩
    .exact .inr<|.inl ⟨aR,j⟩
    .exact l j<|.inr<|.inr bm
  have qt:b∈(kG v).W->b∈aW++o/\b∉O/\b∉bY m/\(b∈(aT k ap mid y am).tabs\/ap.heap.objs.size<=b)/\b<al.heap.objs.size:=λe=>by exact j0 (eY.2 b e) λdJ dU dN eK f_=>⟨bB dJ,dU,dN,eK,cI f_ a6.2⟩
  rcases cV with e|⟨g,e⟩|e
  .exact qt<|e▸by cases v<;>exact bm
  .exact qt<|l e<|mt bm
  .have oi:=(nc b e).1;exact⟨bO e,λc0=>b4 (Bw b (P.5 b c0).1) oi,λc0=>b4 (Bw b (P.4 b c0).1) oi,.inr<|a' gW oi,(nc b e).2⟩--qe function object
 refine dQ ?_;have bQ:a9 [] [] al {al with heap:=al.heap.push<|o7 aR a.heap.objs.size nm}:=bM.push al _ al.toks;have UD:({al with heap:=al.heap.push<|o7 aR a.heap.objs.size nm}:ai).heap.get? al.heap.objs.size=A (o7 aR a.heap.objs.size nm):=fj _ f;show I _ _ u _ _ {al with heap:=al.heap.push<|o7 aR a.heap.objs.size nm};generalize({al with heap:=al.heap.push<|o7 aR a.heap.objs.size nm}:ai)=bT at bQ UD;have KY:bV bT.heap (aW++o) (rX al.heap.objs.size aR a.heap.objs.size nm E) (.ref al.heap.objs.size):=by
  refine⟨f,λe aZ=>?_⟩
  revert e;refine gr ?_ ?_
  .exact⟨λG=>iK _<|pT.8 _ G,UD⟩
  .intro e aZ;exact(bc aZ).symm▸⟨ahn,bQ.all _ _<|a6.1 _ _ (λe=>ahm<|bc e) ahi⟩
 refine I.bind<|vB (b:=a2) pT (df.grow bQ) KY (by refine l li ?_;cbv) λcZ e6 rS=>I.pure ?_;refine c aR bv _ _ nm E cZ aW _ aJ (λb n=>a' aI.2 (nc b n).1) ?_ pT rS ((fK.it bQ aP aP).off pT e6 λb n=>.inr n)<|(aho.it bQ aP aP).off pT e6 λb n=>.inr n;exact(((aI.mono aP aP).trans<|a6.mono (λb n=>bB n) aP).trans<|bQ.mono aP aP).trans<|e6.mono (λb n=>bO n) aP
end
theorem cU.agv(aG:dg k ap mid y am)(b7:je C)(fx:1940∉dY.W)(aX:ha (aT k ap mid y am) (z+2) T C fO [(.b2,.tup<|as.map pS),(.b2,.buf<|cT<|f6 aQ)])(hc:rV as<|(aQ.length+7)/8)(U:aQ.length<=2^20)(sO:fO.length<20)(X:eE T "make_blocks"=W:=by cbv):cU (aT k ap mid y am) (z+2) u T ((gO 1944 1940).both dY) C (.Call (.Name "make_blocks" e) fO [] ak) (λB bL=>B=FO aQ as/\bL=(gO 1944 1940).both dY):=λm o O ax Y a ar Q P r ah J ac=>by
 have hk:eE m.scope "make_blocks"=W:=Q▸X
 .refine I.bind<|qq (aW:=[]) (ao:=[]) (ix (C:=C) (ik aG) P S6 hk) (tX hk) a _ r λaU an aI lv=>l lv ?_;have cX:=r.grow aI;have eY:=ah.it aI aP aP;refine vy (iR:=[]) (v:=Bs az k.params y) (bh:=wO k.params y) (L:=λE=>bo (aT k ap mid y am) m o O Y C E/\((gO 1944 1940).both dY).At (aT k ap mid y am) m o O E) aX.star sO (λE J r e ac=>aX.q3 ar Q P E J r e.1 ac) ⟨cX,eY⟩ (λE e=>aG.sub e.1.2 _ _ _ (LM ..) f) f (λE eM e t=>⟨e.1.grow t,e.2.it t aP aP⟩) ?_;intro aY al a6 aL;have df:=cX.grow a6;have fK:=eY.it a6 aP aP;refine ag8 aG ar P df fK.fst aL hc U λaU bT bQ cz Ck D=>?_;have nR:=fK.fst.2 1940 bm;exact ac aU bT (FO aQ as) _ o Y ⟨f,f⟩ ⟨λx c=>c,λx c=>.inl c,λx c=>.inl c,λx c=>.inl c,λx c=>.inl c,(((aI.trans a6).mono aP aP).trans<|bQ.mono (λb n=>bB<|bO n) aP)⟩ P (df.uL b7 (cd:=[1940]) (λG U=>(bc U).symm▸nR.1) (λG U=>bc U▸nR.2.2.1) bQ Ck) (cz.both<|fK.snd.it bQ (λb n=>bc n▸⟨nR.1,fx⟩) aP) D
namespace b3
theorem agw(br:cU g z u T aj C j λB bL=>B=.tup V/\bL=aj)(ay:nJ as=A aA)(aM:V.length=aA.length)(aJ:aA.all (kU T)=W)(c:b3 g z u T aj (mZ aA V C) b_ cv)(pD:∀m:Env,zC [.Tuple as s kV] j ak.line m=dC a2:=by exact λx=>f)(cr:∀m:Env,zD [.Tuple as s kV] j m=dC a7:=by exact λx=>f):b3 g z u T aj C (.Assign [.Tuple as s kV] j ak::b_) cv:=next λm o O ax Y a ar li P r ah=>by
 refine dQ<|l (pD ..)<|ea<|I.bind<|br m o O ax Y a ar li P r ah _ λaU an B dn cD eb rP c6 fs cX eY f2=>cx rP λbK b8=>?_;obtain rfl:=bK;obtain rfl:=b8;refine l (cr ..)<|ea<|l (show(r5 [Du as s kV] m)=[(a2,zE (.Tuple as s kV) m)]from f)<|I.bind ?_;have D:rw (.Tuple as s kV) an.heap cD (.tup V) aU:=by refine la f2 λi fD ae gV x aK aB=>?_;obtain rfl:=gV;exact⟨V,i,fD,f,f,⟨_,aK,f,ae,f⟩,aB⟩
 refine vE (b:=a2) ar.1 fs cX D (li▸⟨aA,ay,aM,aJ⟩) λal a6 df=>I.pure ⟨f,_,_,cD,O,eb,c6.trans<|f4.inside a6,fs,?_,eY.off fs a6 λb n=>.inr n,c⟩;have:kx (.Tuple as s kV) (.tup V) C=mZ aA V C:=by show mZ ((nJ as).getD []) V C=_;refine l ay ?_;rfl
 exact c2 this df
theorem n8(bI:ei g z T C E b)(c:b3 g z u T aj C (bif b then vv else vw) λcN bP bL=>match cN with|.next=>b3 g z u T bL bP b_ cv|cN=>cv cN bP bL):b3 g z u T aj C (.If E vv vw ak::b_) cv:=λm o O ax Y a ar Q P r ah=>by refine PF r (bI u m o O ax Y ar Q P) λan aI=>I.mono (c m o O ax Y an ar Q P (r.grow aI)<|ah.it aI aP aP) ?_;rintro R al e;refine e.gi λcN bP bi cw cC bL a1 n c6 br fy=>?_;have qF:=(f4.nF (aj:=aj) (m:=m) (o:=o) (O:=O) aI).trans c6;cases cN with|next=>obtain⟨rfl,eB,bR⟩:=br;exact .inl ⟨f,I.mono (a1 m bi cw ax cC al ar Q eB bR fy) λR w aa=>aa.trans qF⟩|brk=>obtain⟨rfl,br⟩:=br;exact .inr ⟨(λe=>nomatch e),.brk,bP,bi,cw,cC,bL,a1,n,qF,⟨f,br⟩,fy⟩|cont=>obtain⟨rfl,br⟩:=br;exact .inr ⟨(λe=>nomatch e),.cont,bP,bi,cw,cC,bL,a1,n,qF,⟨f,br⟩,fy⟩|ret B=>obtain⟨aU,rfl,br⟩:=br;exact .inr ⟨(λe=>nomatch e),.ret B,bP,bi,cw,cC,bL,a1,n,qF,⟨aU,f,br⟩,fy⟩
end b3
section
open PySem PySem.W PySem.Calls PyProof.Rows
noncomputable def mz(j:aw):Obj:={cls:=.ref 1963,dict:=A j,data:=.plain}
noncomputable def ahp:List Nat:=[1,0,0,0,1,0,1,0,1,0,0,0,0,0,0,0,0,1,0,0,0,0,0,1,0,1]
theorem ahq(s t y:Nat)(aA:List au):k6 30 (iD y) s t (callAny (.ref 1963) ⟨aA,[]⟩) (λE=>⟨[],0,E,[0,0],[],[]⟩) (λx=>.again<|.call (.builtin "type.__call__") ⟨.ref 1963::aA,[]⟩) (λG=>(G.gs,G.objs,G.m)) (λx=>([],[],0)):=λb k E=>by cases b<;>cbv
theorem ahr(s t y:Nat)(aA:List au):k6 30 (iD y) s t (uR "type.__call__" ⟨.ref 1963::aA,[]⟩) (λE=>⟨[],0,E,[0],[],[]⟩) (λx=>()) (λG=>(G.gs,G.objs,G.m)) (λx=>([],[],0)):=λb k E=>by cases b<;>cbv
theorem ahs(s t y:Nat):k6 30 (iD y) s t (mroOf<|.ref 1963) (λE=>⟨[],0,E,[0],[],[]⟩) (λx=>[.ref 1963,.type "object"]) (λG=>(G.gs,G.objs,G.m)) (λx=>([],[],0)):=λb k E=>by cases b<;>cbv
theorem aht(s t y:Nat):k6 30 (iD y) s t (Bind.madeBy<|.ref 1963) (λE=>⟨[],0,E,[0,0],[],[]⟩) (λx=>A "object.__new__") (λG=>(G.gs,G.objs,G.m)) (λx=>([],[],0)):=λb k E=>by cases b<;>cbv
theorem ahu(s t y:Nat)(h:au):k6 30 (iD y) s t (et (.builtin "object.__new__") [.ref 1963,h] []) (λE=>⟨[],0,E,dE 20 0,[],[]⟩) (λx=>.ref<|s+1) (λG=>(G.gs,G.objs,G.m)) (λx=>([],[(s,lz),(s+1,mz s)],2)):=λb k E=>by cases b<;>cbv
theorem ahv(s t y:Nat):k6 30 (iD y) s t (et (.builtin "object.__new__") [.ref 1963] []) (λE=>⟨[],0,E,dE 15 0,[],[]⟩) (λx=>.ref<|s+1) (λG=>(G.gs,G.objs,G.m)) (λx=>([],[(s,lz),(s+1,mz s)],2)):=λb k E=>by cases b<;>cbv
theorem ahw(i j s t y:Nat):k6 30 (iD y) s t (isInstance (.ref i)<|.ref 1963) (λE=>⟨[(i,mz j)],0,E,[1,0],[],[]⟩) (λx=>W) (λG=>(G.gs,G.objs,G.m)) (λx=>([],[(i,mz j)],0)):=λb k E=>by cases b<;>cbv
theorem ahx(i j s t y:Nat):k6 30 (iD y) s t (specialOf (.ref i) "__init__") (λE=>⟨[(i,mz j)],0,E,[1,0,0,0],[],[]⟩) (λx=>A<|.ref 1917) (λG=>(G.gs,G.objs,G.m)) (λx=>([],[(i,mz j)],0)):=λb k E=>by cases b<;>cbv
theorem ahy(i j s t y:Nat):k6 30 (iD y) s t (bindSpecial (.ref 1917)<|.ref i) (λE=>⟨[(i,mz j)],0,E,[0],[],[]⟩) (λx=>(.ref 1917,[.ref i])) (λG=>(G.gs,G.objs,G.m)) (λx=>([],[(i,mz j)],0)):=λb k E=>by cases b<;>cbv
theorem ahz(i z j s t y:Nat):k6 30 (iD y) s t (setAttr (.ref i) "_data"<|.ref z) (λE=>⟨[(i,mz j)],0,E,ahp,[],[]⟩) (λx=>()) (λG=>(G.gs,G.objs,G.m)) (λx=>([],[(i,jS z j)],0)):=λb k E=>by cases b<;>cbv
end
section
open PySem PySem.W PySem.Calls PyProof.Rows
theorem uE{bk:Type}{E:Sem bk}{B:bk}{os:List<|aw×Obj}{T:List Nat}{J:bk->ai->Prop}(U:k6 30 (iD y) a.heap.objs.size a.gens.size E (λE=>⟨os,0,E,T,[],[]⟩) (λx=>B) (λG=>(G.gs,G.objs,G.m)) λx=>([],os,0))(aB:u.depth+90<fA)(Q:Sub (es k.params y) a.heap)(aJ:∀r∈os,a.heap.get? r.1=A r.2)(ay:(os.map (·.1)).Nodup)(gg:∀r∈os,1993<=r.1)(ac:∀w,a9 [] [] a w->J B w):I az k u E J a:=by refine I.of<|ut U aB (e7.start Q aJ ay λr a1 v dq j f5=>b4 (s7 (qU (mid:=λx=>om) j f5).2.2)<|gg r a1) λep w iE P=>?_;simp only[p5]at P;exact eV P λkO h' o3=>ac w<|iE.same λr a1=>by rw[h']at a1;exact .inl<|aJ r a1
theorem wS(Q:Sub bf a.heap)(t:a9 [] [] a w):Sub bf w.heap:=λi v dq j f5=>t.all _ _<|Q i v dq j f5
@[elab_as_elim]theorem ahA{bk:Type _}{L:List bk->Prop}(H:List bk)(c:H.length<=1)(aG:L [])(ag:∀h,L [h]):L H:=by cases H with|nil=>exact aG|cons h D=>cases D with|nil=>exact ag h|cons M D=>exact absurd c<|M'<|p4 2 _
theorem ahB(BG:b_.length<=1)(aB:u.depth+90<fA)(Q:Sub (es k.params y) a.heap)(ac:∀w,w.heap.get? a.heap.objs.size=A lz->w.heap.get? (a.heap.objs.size+1)=A (mz a.heap.objs.size)->a9 [] [] a w->J (.ref<|a.heap.objs.size+1) w):I az k u (et (.builtin "object.__new__") (.ref 1963::b_) []) J a:=by
 have cV:∀(ep:fa)(w:ai),e7 (es k.params y) a.heap.objs.size a.gens.size a ep w->(ep.gs,ep.objs,ep.m)=(([]:List iI),[(a.heap.objs.size,lz),(a.heap.objs.size+1,mz a.heap.objs.size)],2)->J (.ref<|a.heap.objs.size+1) w:=λep w iE P=>by
  simp only[p5]at P;refine eV P λkO h' o3=>ac w (iE.3 0 _ _ (by refine l h' ?_;rfl)) (iE.3 1 _ _ (by refine l h' ?_;rfl))<|iE.grow (K:=[]) λr a1=>?_;rw[h']at a1
  revert r;refine gr ?_ ?_
  .exact .inr<|dD _
  .intro r a1;exact l (bc a1)<|.inr<|js _
 refine ahA b_ BG ?_ λh=>?_
 .exact I.of<|ut (ahv a.heap.objs.size a.gens.size y) aB (e7.start (K:=[]) Q aP rd aP) cV
 .exact I.of<|ut (ahu a.heap.objs.size a.gens.size y h) aB (e7.start (K:=[]) Q aP rd aP) cV
theorem UE{b_:List au}{J:au->ai->Prop}(BG:b_.length<=1)(aB:u.depth+91<fA)(Q:Sub (es k.params y) a.heap)(gg:1993<=a.heap.objs.size)(c:∀d5 i j an,d5.handled=u.handled->d5.depth<=u.depth+1->d5.units<=u.units+1->a.heap.objs.size<=j->j<i->an.heap.get? i=A (mz j)->an.heap.get? j=A lz->a9 [] [] a an->I az k d5 (et (.ref 1917) (.ref i::b_) []) (λD al=>D=.none/\J (.ref i) al) an):I az k u (et (.ref 1963) b_ []) J a:=by refine I.call<|d6.lZ f ?_;have UF:u.depth+90<recursionLimit:=mD (js _) aB;refine uE (ahq _ _ y b_) UF Q aP rd aP λan aI=>?_;have fw:=wS Q aI;refine⟨f,d6.lZ f<|I.bind<|uE (ahr _ _ y b_) UF fw aP rd aP λal a6=>?_⟩;have hH:=wS fw a6;refine I.pure ⟨Ho _ (by decide+kernel),d6.builtin (by show ql.contains "type.__call__"=a2;decide+kernel) Hp ?_⟩;have dJ:(u.under<|.builtin "type.__call__" ⟨.ref 1963::b_,[]⟩).handled=u.handled:=f;have dU:(u.under<|.builtin "type.__call__" ⟨.ref 1963::b_,[]⟩).depth<=u.depth+1:=G4 (dD 1) _;have dN:(u.under<|.builtin "type.__call__" ⟨.ref 1963::b_,[]⟩).units<=u.units+1:=G4 (dD 1) _;generalize u.under (.builtin "type.__call__" ⟨.ref 1963::b_,[]⟩)=d5 at dJ dU dN;replace aB:d5.depth+90<recursionLimit:=gv (.t (.a .x<|.n 90) .y) [.t (.a .z<|.n 91) .y,.l .x<|.o .z] f aB dU;refine I.bind<|uE (ahs _ _ y) aB hH aP rd aP λbT bQ=>?_;have m6:=wS hH bQ;refine I.bind<|uE (aht _ _ y) aB m6 aP rd aP λcZ e6=>?_;have UG:=wS m6 e6;refine ea ?_;have lp:=((aI.trans a6).trans bQ).trans e6;refine d2<|ahB BG aB UG λuv br aX op=>?_;have yt:=wS UG op;have n6:∀r∈[(cZ.heap.objs.size+1,mz cZ.heap.objs.size)],1993<=r.1:=λr a1=>bc a1▸xk (a' gg lp.2);have xQ:∀{w:ai},a9 [] [] uv w->∀r∈[(cZ.heap.objs.size+1,mz cZ.heap.objs.size)],w.heap.get? r.1=A r.2:=λt r a1=>bc a1▸t.all _ _ aX;refine I.bind<|uE (ahw (cZ.heap.objs.size+1) cZ.heap.objs.size _ _ y) aB yt (xQ<|bM.refl ..) (by simp) n6 λalW wa=>?_;have UH:=wS yt wa;refine d2<|I.bind<|uE (ahx (cZ.heap.objs.size+1) cZ.heap.objs.size _ _ y) aB UH (xQ wa) (by simp) n6 λalX LS=>I.holding<|I.bind<|uE (ahy (cZ.heap.objs.size+1) cZ.heap.objs.size _ _ y) aB (wS UH LS) (xQ<|wa.trans LS) (by simp) n6 λahC ahD=>?_;have LU:=(wa.trans LS).trans ahD;refine g8 (c d5 (cZ.heap.objs.size+1) cZ.heap.objs.size ahC dJ dU dN lp.2 (ks _) (LU.all _ _ aX) (LU.all _ _ br)<|(lp.trans op).trans LU) ?_;rintro D alY⟨rfl,aZ⟩;exact I.pure<|I.pure ⟨_,f,aZ⟩
end
theorem UI(aO:g.Ok)(ar:eJ (z+1) u)(be:FnAt a i bh el)(mr:bh.globals=3)(oh:bh.builtins=0)(P:ct g m o O ax Y)(r:bo g m o O Y C a)(aL:mq Y o eP a aY)(aM:eP.length=eh.length)(n:jr a bh ⟨sR,[]⟩<|eh.zip aY)(aJ:eh.all (kU bh.scope)=W)(iU:∀w,(∀b∈bY<|c3 bh i a,a.heap.objs.size<=b)->a9 [] [] a w->ct g (c3 bh i a) (bY (c3 bh i a)++o) [] o w.heap.objs.size->bo g (c3 bh i a) (bY (c3 bh i a)++o) [] w.heap.objs.size (jn eh eP []) w->eJ z (u.deeper<|c3 bh i a)->I g.prog g.w (u.deeper<|c3 bh i a) (dG el<|c3 bh i a) (λR ek=>J (I' R) ek) w):I g.prog g.w u (et (.ref i) sR []) J a:=Qw aO ar be mr oh (λb n=>P.6 b<|P.7 b n) P.9 P.8 r.1 r.2 aL aM n aJ iU
noncomputable def zj:Stmt:=gB (cH az 19) 2
noncomputable def wT(L:cy)(y:Nat):FuncData:=fdOf<|Ke az L y
theorem ahE(L:cy)(y:Nat):(es L y).get 1917=A (Ke az L y):=by cbv
theorem ahF(L:cy)(y:Nat):(es L y).get 1916=A (RK az L y):=by cbv
theorem UJ(L:cy)(y:Nat):(es L y).get 1910=A (ER az L y):=by cbv
theorem ahG(a:ai)(L:cy)(y:Nat)(Q:Sub (es L y) a.heap)(h M:au):jr a (wT L y) ⟨[h,M],[]⟩ [("self",h),("iterable",M)]:=Dy (T:=1910) (o:=ER az L y) (items:=#[.ref 1909]) (n:=0) (by cbv) (Q _ _ _ (UJ L y) f) (by cbv) f (by cbv)
theorem ahH(a:ai)(L:cy)(y:Nat)(Q:Sub (es L y) a.heap)(h:au):jr a (wT L y) ⟨[h],[]⟩ [("self",h),("iterable",.ref 1909)]:=Dy (T:=1910) (o:=ER az L y) (items:=#[.ref 1909]) (n:=0) (by cbv) (Q _ _ _ (UJ L y) f) (by cbv) f (by cbv)
theorem ahI(c:dg k ap mid y am)(b:fp (aT k ap mid y am) a):FnAt a 1917 (wT k.params y) (gC zj):=wv (e:=1916) (E:=y+867) c b (ahE ..) f (by cbv) (by cbv) (ahF ..) f (by cbv) (by cbv) (by cbv) (by cbv) (by cbv) (by cbv)
theorem ahJ:∃eQ e' hb hC lu pH,gC zj=[.Assign [.Attribute (.Name "self" eQ) "_data" e'] (.Call (.Name "bytearray" hb) [.Name "iterable" hC] [] lu) pH]:=(WB _ _ _ _ _ _ f)
theorem UK(aG:dg k ap mid y am)(ar:eJ (z+1) u)(P:ct (aT k ap mid y am) m o O ax Y)(r:bo (aT k ap mid y am) m o O Y C a)(aX:a.heap.get? i=A (mz j))(gg:1993<=i)(aL:fg Y o jN.1 jN.2 a aU)(ahK:jr a (wT k.params y) ⟨sR,[]⟩ [("self",.ref i),("iterable",aU)])(AG:fU (jn ["self","iterable"] [(.b2,.raw<|.ref i),jN] []) "self"=A (.f<|.raw<|.ref i))(fx:∀hb hC lu,af (aT k ap mid y am) z (fz zj) (jn ["self","iterable"] [(.b2,.raw<|.ref i),jN] []) (.Call (.Name "bytearray" hb) [.Name "iterable" hC] [] lu) .fr<|fl ab)(ac:∀bF w,a9 [i] [] a w->a.heap.objs.size<=bF->w.heap.get? bF=A (cf<|cT ab)->w.heap.get? i=A (jS bF j)->J .none w):I az k u (et (.ref 1917) sR []) J a:=by
 refine UI (g:=aT k ap mid y am) (eh:=["self","iterable"]) (eP:=[(.b2,.raw<|.ref i),jN]) (aY:=[.ref i,aU]) (ik aG) ar (ahI aG r.2) (by cbv) (by cbv) P r ⟨_,_,f,(f),_,_,f,aL,f⟩ f ahK (by cbv) λw dx cc eB bR fH=>?_;have jd:(c3 (wT k.params y) 1917 a).scope=fz zj:=by cbv
 generalize u.deeper (c3 (wT k.params y) 1917 a)=kc at*;generalize c3 (wT k.params y) 1917 a=en at*;refine DI ahJ λeQ e' hb hC lu pH iU=>iU.symm▸I.bind (dQ ?_);have pD:zC [.Attribute (.Name "self" eQ) "_data" e'] (.Call (.Name "bytearray" hb) [.Name "iterable" hC] [] lu) pH.line en=dC a2:=f;have Fw:zD [.Attribute (.Name "self" eQ) "_data" e'] (.Call (.Name "bytearray" hb) [.Name "iterable" hC] [] lu) en=dC a7:=f;refine ea<|fY aS ?_;refine I.bind<|(fx hb hC lu) kc en _ [] o _ fH jd eB w _ bR λUL an aI bp=>?_;refine eW bp λbF e2 ke gZ=>l e2 ?_;replace gZ:an.heap.get? bF=A (cf<|cT ab):=gZ;refine ea<|I.eq (by rw[show(r5 [Expr.Attribute (.Name "self" eQ) "_data" e'] en)=[(a2,zE (.Attribute (.Name "self" eQ) "_data" e') en)]from f]) ?_;refine I.bind ?_;show I _ _ kc (zE (.Attribute (.Name "self" eQ) "_data" e') en<|.ref bF) _ an;refine I.eq (by rw[arm_assign_Attribute])<|d2 ?_;have cX:=bR.grow aI;refine(af.name (g:=aT k ap mid y am) (z:=z) (T:=fz zj) (C:=jn ["self","iterable"] [(.b2,.raw<|.ref i),jN] []) (B:=.raw<|.ref i) (h:="self") (ak:=eQ) AG (by cbv)) kc en _ [] o _ fH jd eB an _ cX λkR al a6 aJ=>?_;have jF:kR=.ref i:=by have c:bV al.heap (bY en++o) (.raw<|.ref i) kR:=aJ;exact c
 refine l jF<|dQ ?_;have bQ:a9 [] [] a al:=(cc.trans aI).trans a6;refine d2<|I.of<|ut (ahz i bF j al.heap.objs.size al.gens.size y) (by show kc.depth+90<1000;exact c' (.t (.a .x<|.n 90)<|.n 1000) [.l (.a .x .y)<|.n 900] f fH.2) (e7.start (aG.sub (cX.grow a6).2) (λe aZ=>bc aZ▸(bQ.all _ _ aX)) (by simp) λe aZ v dq nQ f5=>?_) λep bT iE P=>?_
 .rw[bc aZ]at nQ;exact b4 (s7 (qU (mid:=λx=>om) nQ f5).2.2) gg
 .simp only[p5]at P;refine eV P λkO h' o3=>?_;have e6:a9 [i] [] al bT:=iE.grow λe aZ=>by rw[h']at aZ;rw[bc aZ];exact .inl bm
  have c_:bF≠i:=λe=>by rw[e]at ke;exact b4 (dH aX)<|a' cc.2 ke
  refine Au<|I.pure ?_;refine PE ?_;refine ac bF bT ((bQ.mono aP aP).trans e6) (a' cc.2 ke) (e6.1 _ _ (λe=>c_<|bc e)<|a6.all _ _ gZ)<|iE.3 0 _ _ (by rw[h'];rfl)
theorem ahL(aG:dg k ap mid y am)(ar:eJ (z+1) u)(P:ct (aT k ap mid y am) m o O ax Y)(r:bo (aT k ap mid y am) m o O Y C a)(aX:a.heap.get? i=A (mz j))(gg:1993<=i)(aL:fg Y o p (bN ab) a aU)(n:fJ ab)(U:ab.length<=cp)(ac:∀bF w,a9 [i] [] a w->a.heap.objs.size<=bF->w.heap.get? bF=A (cf<|cT ab)->w.heap.get? i=A (jS bF j)->J .none w):I az k u (et (.ref 1917) [.ref i,aU] []) J a:=UK (jN:=(p,bN ab)) aG ar P r aX gg aL (ahG a k.params y (aG.sub r.2) (.ref i) aU) (by cases p<;>rfl) (λhb hC lu=>by
  have c4:∃fG,af (aT k ap mid y am) z (fz zj) (jn ["self","iterable"] [(.b2,.raw<|.ref i),(p,bN ab)] []) (.Name "iterable" hC) fG (bN ab):=by cases p with
   |fr=>exact⟨.b2,aE.nm⟩|b2=>exact⟨.b2,aE.nm⟩|ls=>exact⟨.ls,aE.GD⟩
  refine cJ c4 λfG c4=>?_;exact af.aaQ (ak:=lu) (e:=hb) (ik aG) c4 Ft n U (by cbv) (by rfl)) ac
section
theorem ahO(s t y:Nat):k6 30 (iD y) s t (r4<|.ref 1963) (λE=>⟨[],0,E,[0,0],[],[]⟩) (λx=>.machine) (λG=>(G.gs,G.objs,G.m)) (λx=>([],[],0)):=λb k E=>by cases b<;>cbv
variable{k:ck}{ap a:ai}{mid:Nat->Obj}{y:Nat}{am:go}{z:Nat}{u:ch}{m:Env}{T:dp}{o O ax:List aw}{Y:Nat}{C:cm}{j:bH}{ab:List Int}{p:hx}
theorem UM(aB:u.depth+90<fA)(ay:as.all dT=W)(c:mR az k u [] [] m L as aE)(Q:L a)(bJ:sr [] [] L)(lM:∀a,L a->Sub (es k.params y) a.heap)(qr:∀a w aY,aE a aY->a9 [] [] a w->aE w aY)(aO:∀aY w,a9 [] [] a w->aE w aY->I az k u (et (.ref 1963) aY []) J w):I az k u (pZ ak (.ref 1963) [] (jV Ax<|jh as m) []) J a:=by unfold pZ;exact d2<|xU ay c Q λaY an aI cS=>dQ<|l (vr ay ..)<|l (u7 ..)<|l (q9 ..)<|I.bind<|uE (ahO _ _ y) aB (lM an<|bJ _ _ Q aI) aP rd aP λal a6=>g8 (aO aY al (aI.trans a6)<|qr _ _ _ cS a6) λD al aB=>dv<|kH<|o_<|I.pure aB
theorem af.JH{e ak:Pos}(aG:dg k ap mid y am)(c:af (aT k ap mid y am) (z+2) T C j p<|bN ab)(n:fJ ab)(U:ab.length<=cp)(X:eE T "Buffer"=W:=by cbv)(ay:dT j=W:=by rfl):af (aT k ap mid y am) (z+2) T C (.Call (.Name "Buffer" e) [j] [] ak) .b2 (.buf<|cT ab):=λu m o O ax Y ar Q P a J r ac=>by
 have hk:eE m.scope "Buffer"=W:=Q▸X;have bp:=ar.2
 .refine I.bind<|qq (aW:=[]) (ao:=[]) (ix (C:=C) (ik aG) P S5 hk) (tX hk) a _ r λaU an aI lv=>?_;subst lv;refine I.eq (l (CX ..) f) ?_;have cX:=r.grow aI;refine UM (y:=y) (L:=bo (aT k ap mid y am) m o O Y C) (by show u.depth+90<1000;exact c' (.t (.a .x<|.n 90)<|.n 1000) [.l (.a .x<|.a .y<|.n 2)<|.n 900] f bp) (by simp[ay]) (yv (g:=aT k ap mid y am) ay<|c u m o O ax Y ar Q P) cX (λE eM e t=>e.grow t) (λE e=>aG.sub e.2) (λE eM aY aL t=>by obtain⟨aU,rfl,aL⟩:=aL;exact(dk aU f<|fg.h4 _ _ _ aL t)) ?_;rintro aY al a6⟨aU,rfl,aL⟩;have df:=cX.grow a6;have gg:1993<=al.heap.objs.size:=a' aG.2 df.2.1.2;refine UE (dD 1) (by show u.depth+91<1000;exact c' (.t (.a .x<|.n 91)<|.n 1000) [.l (.a .x<|.a .y<|.n 2)<|.n 900] f bp) (aG.sub df.2) gg λd5 i cg bT fq iy jJ br wU LV vR bQ=>?_;have ti:1993<=i:=a' gg<|a' br<|no wU;refine ahL (u:=d5) (z:=z) aG ⟨fq.trans ar.1,by exact gv (.l (.a .x<|.o .y)<|.n 900) [.l (.a .z<|.a .y<|.n 2)<|.n 900,.l .x<|.o .z] f bp iy,by exact gv (.l (.a .x<|.m 4<|.o .y)<|.n 5000) [.l (.a .z<|.m 4<|.a .y<|.n 2)<|.n 5000,.l .x<|.o .z] f ar.3 jJ⟩ P (df.grow bQ) LV ti (fg.h4 _ _ _ aL bQ) n U λbF cZ e6 ke gZ h7=>⟨f,?_⟩;have hK:∀b∈o,b<al.heap.objs.size:=λb n=>cI (P.8 b n) df.1;exact ac _ cZ ((aI.trans a6).trans<|bQ.gR e6 (λb n=>.inr<|fS<|bc n▸a' br (no wU)) aP)<|HL i bF cg f (λe=>b4 (hK _ e)<|a' br<|no wU) h7 (λe=>b4 (hK _ e)<|a' bQ.2 ke) gZ (λe=>b4 (hK _ e) br) (e6.1 _ _ (λe=>absurd (bc e)<|hS wU) vR)<|a' gg br
end
section
open PySem PySem.W PySem.F PySem.Calls PyProof.Rows
section
theorem ahP(aJ:a.heap.get? i=A (cf b))(aM:a.heap.IsTuple H #[])(c_:H≠i)(c:∀aa,aa.get? i=A (cf #[])->hV i a.heap aa->J .none {a with heap:=aa}):I prog k u (et (.builtin "bytearray.__init__") [.ref i,.ref H]) J a:=Pm (V:=[]) Xy XB (.inr f) aJ aM c_ (λx e=>nomatch e) (hf _) c
theorem ahR(aM:a.heap.IsTuple H #[])(c:∀aa,lN a.heap aa (cf #[])->J (.ref a.heap.objs.size) {a with heap:=aa}):I prog k u (et (.type "bytearray") [.ref H]) J a:=by refine H0 H3 (H4 _)<|H6 _ ?_;have ae:lN a.heap (a.heap.push<|cf #[]) (cf #[]):=lN.push f;exact⟨gF (a:={a with heap:=a.heap.push<|cf #[]}) ae.1,(bl (id aM) λv qm x=>ahP (a:={a with heap:=a.heap.push<|cf #[]}) ae.1 (aM.push _) (hS<|dH qm) λaa aK Q=>⟨f,c aa<|ae.same aK Q⟩)⟩
end
end
noncomputable def gP(i bF j:aw)(ab:List Int):Inv where
 W:=[bF]
 G:=[]
 St:=λo a=>i∉o/\a.heap.get? i=A (jS bF j)/\j∉o/\a.heap.get? j=A lz/\1993<=i/\1993<=j/\1993<=bF/\a.heap.get? bF=A (cf<|cT ab)
 frame:=λo a w cd dc c t dr x=>by exact pk c λag aF bb cn eC gS lJ sm=>⟨ag,t.1 _ _ (λe=>ag (dr _ e).1) aF,bb,t.1 _ _ (λe=>bb (dr _ e).1) cn,eC,gS,lJ,t.1 _ _ (λe=>(dr _ e).2 bm) sm⟩
 mono:=λo bi a c cA=>by exact pk c λag aF bb cn eC gS lJ sm=>⟨λe=>(cA _ e).elim ag λG=>b4 (dH aF) G,aF,λe=>(cA _ e).elim bb λG=>b4 (dH cn) G,cn,eC,gS,lJ,sm⟩
theorem ahS(L:cy)(y:Nat):(es L y).get 1909=A (RJ az L y):=by cbv
theorem ahT(aG:dg k ap mid y am)(ar:eJ (z+1) u)(P:ct (aT k ap mid y am) m o O ax Y)(r:bo (aT k ap mid y am) m o O Y C a)(aX:a.heap.get? i=A (mz j))(gg:1993<=i)(ac:∀bF w,a9 [i] [] a w->a.heap.objs.size<=bF->w.heap.get? bF=A (cf<|cT [])->w.heap.get? i=A (jS bF j)->J .none w):I az k u (et (.ref 1917) [.ref i] []) J a:=UK (jN:=(.b2,.raw<|.ref 1909)) (aU:=.ref 1909) (ab:=[]) aG ar P r aX gg (by exact f) (ahH a k.params y (aG.sub r.2)<|.ref i) f (λhb hC lu=>by intro u m o O ax Y ar Q P;refine mS P.ok (ix (ik aG) P Ft (by rw[Q];cbv)) f (jl f P.ok ((aE.nm (g:=aT k ap mid y am) (z:=z) (B:=.raw<|.ref 1909)) u m o O ax Y ar Q P) fg.h4 kt) ?_ f;rintro a aY a1 bK J ac;refine dZ bK λfC D b8 nI dm=>l b8<|l dm ?_;have ahU:bV a.heap o (.raw<|.ref 1909) fC:=nI;refine l ahU<|ahR ⟨_,aG.sub a1.2 _ _ _ (ahS ..) f,f,0,f⟩ λaa ae=>?_;exact ac _ _ ae.grow<|Kb a1.1 ae) ac
theorem cU.JH(aG:dg k ap mid y am)(b7:je C)(X:eE T "Buffer"=W:=by cbv):cU (aT k ap mid y am) (z+2) u T aj C (.Call (.Name "Buffer" e) [] [] ak) (λB bL=>∃i bF j,B=.raw (.ref i)/\bF∉aj.W/\bL=aj.both (gP i bF j [])):=λm o O ax Y a ar Q P r ah J ac=>by
 have hk:eE m.scope "Buffer"=W:=Q▸X;have bp:=ar.2
 .refine I.bind<|qq (aW:=[]) (ao:=[]) (ix (C:=C) (ik aG) P S5 hk) (tX hk) a _ r λaU an aI lv=>l lv<|I.eq (by rw[CX]) ?_;have cX:=r.grow aI;refine UM (y:=y) (L:=bo (aT k ap mid y am) m o O Y C) (aE:=λx aY=>aY=[]) (by show u.depth+90<1000;exact c' (.t (.a .x<|.n 90)<|.n 1000) [.l (.a .x<|.a .y<|.n 2)<|.n 900] f bp) f kt cX (λE eM e t=>e.grow t) (λE e=>aG.sub e.2) (λx x x c x=>c) ?_;rintro aY al a6 rfl;have df:=cX.grow a6;have gg:1993<=al.heap.objs.size:=a' aG.2 df.2.1.2;refine UE (hf 1) (by show u.depth+91<1000;exact c' (.t (.a .x<|.n 91)<|.n 1000) [.l (.a .x<|.a .y<|.n 2)<|.n 900] f bp) (aG.sub df.2) gg λd5 i cg bT fq iy jJ br wU LV vR bQ=>?_;have FQ:al.heap.objs.size<=i:=a' br<|no wU;refine ahT (u:=d5) (z:=z) aG ⟨fq.trans ar.1,by exact gv (.l (.a .x<|.o .y)<|.n 900) [.l (.a .z<|.a .y<|.n 2)<|.n 900,.l .x<|.o .z] f bp iy,by exact gv (.l (.a .x<|.m 4<|.o .y)<|.n 5000) [.l (.a .z<|.m 4<|.a .y<|.n 2)<|.n 5000,.l .x<|.o .z] f ar.3 jJ⟩ P (df.grow bQ) LV (a' gg FQ) λbF cZ e6 ke gZ h7=>⟨f,?_⟩;have hK:∀b∈o,b<al.heap.objs.size:=λb n=>cI (P.8 b n) df.1;have lp:a9 [] [] a cZ:=(aI.trans a6).trans<|bQ.gR e6 (λb n=>.inr<|fS<|bc n▸FQ) aP;have UN:al.heap.objs.size<=bF:=a' bQ.2 ke;have gW:ap.heap.objs.size<=a.heap.objs.size:=r.2.1.2;have UO:cZ.heap.get? cg=A lz:=e6.1 _ _ (λe=>absurd (bc e)<|hS wU) vR;have dx:∀b∈[bF],a.heap.objs.size<=b/\b<cZ.heap.objs.size:=λb n=>bc n▸⟨a' ((aI.trans a6).2) UN,(dH gZ)⟩;have e3:=P.up (cC:=a.heap.objs.size) r.1;have yD:bF≠i:=λe=>by replace gZ:=h7▸e▸gZ;exact nomatch gZ
  have LW:bF≠cg:=λe=>by replace gZ:=UO▸e▸gZ;exact absurd (congrArg sc<|fu gZ) aS
  have ahV:bF∉aj.W:=λe=>b4 (ah.2 bF e).2.2.2.2 (dx bF<|bm).1;have Cm:(gP i bF cg []).At (aT k ap mid y am) m ([bF]++o) O cZ:=by
   refine⟨⟨λe=>?_,h7,λe=>?_,UO,a' gg FQ,a' gg br,a' gg UN,gZ⟩,λb n=>?_,aP⟩
   .exact bD e (λe=>yD (bc e).symm) λe=>b4 (hK _ e) FQ
   .exact bD e (λe=>LW (bc e).symm) λe=>b4 (hK _ e) br
   .have eX:=dx b n;exact⟨bO n,λe=>b4 (e3.8 b (P.5 b e).1) eX.1,λe=>b4 (e3.8 b (P.4 b e).1) eX.1,.inr<|a' gW eX.1,eX.2⟩
  exact ac _ cZ (.raw<|.ref i) _ _ _ (DJ i bF cg f ahV f) ⟨λb n=>bB n,λb n=>bD n (λe=>.inr (dx b e).1) .inl,λx c=>.inl c,λb n=>bD n .inl λe=>.inr (dx b e).1,λq ah=>.inl<|bD ah id λe=>dI e,lp.mono aP aP⟩ (e3.n7 dx gW lp.2) (r.w9 b7 (cd:=[]) aP aP lp (r.2.to lp aP) λb n=>(dx b n).1) (((ah.wide (λb n=>bB n) λb n=>bD n (λe=>.inr (dx b e).1) .inl).it lp aP aP).both Cm)<|f
noncomputable def Cn:Stmt:=gB (cH az 19) 3
noncomputable def wV(L:cy)(y:Nat):FuncData:=fdOf<|Bt az L y
theorem LX(L:cy)(y:Nat):(es L y).get 1924=A (Bt az L y):=by cbv
theorem ahX(L:cy)(y:Nat):(es L y).get 1923=A (RL az L y):=by cbv
theorem ahY(a:ai)(L:cy)(y:Nat)(h M:au):jr a (wV L y) ⟨[h,M],[]⟩ [("self",h),("iterable",M)]:=tH (by cbv)
theorem ahZ(c:dg k ap mid y am)(b:fp (aT k ap mid y am) a):FnAt a 1924 (wV k.params y) (gC Cn):=wv (e:=1923) (E:=y+875) c b (LX ..) f (by cbv) (by cbv) (ahX ..) f (by cbv) (by cbv) (by cbv) (by cbv) (by cbv) (by cbv)
theorem ah0:∃eQ e' hb hC lu pH,gC Cn=[.Expr (.Call (.Attribute (.Attribute (.Name "self" eQ) "_data" e') "extend" hb) [.Name "iterable" hC] [] lu) pH]/\(hb.endLine==lu.line)=W:=(WC _ _ _ _ _ _ f f)
theorem UP(aG:dg k ap mid y am)(ar:eJ (z+1) u)(P:ct (aT k ap mid y am) m o O ax Y)(r:bo (aT k ap mid y am) m o O Y C a)(h7:a.heap.get? i=A (jS bF j))(gZ:a.heap.get? bF=A (cf b))(ah1:∀d5 w,eJ z d5->a9 [] [] a w->I az k d5 (et (.builtin "bytearray.extend") [.ref bF,aU] []) (λD ek=>D=.none/\J .none ek) w):I az k u (et (.ref 1924) [.ref i,aU] []) J a:=by
 refine UI (g:=aT k ap mid y am) (eh:=["self","iterable"]) (eP:=[(.b2,.raw<|.ref i),(.b2,.raw aU)]) (aY:=[.ref i,aU]) (ik aG) ar (ahZ aG r.2) (by cbv) (by cbv) P r ⟨_,_,f,(f),_,_,f,(f),f⟩ f (ahY a k.params y (.ref i) aU) (by cbv) λw dx cc eB bR fH=>?_;have jd:(c3 (wV k.params y) 1924 a).scope=fz Cn:=by cbv
 generalize u.deeper (c3 (wV k.params y) 1924 a)=kc at*;generalize c3 (wV k.params y) 1924 a=en at*;refine Wk ah0 λeQ e' hb hC lu pH iU hw=>iU.symm▸?_;refine Iy eB.1 f<|sw (as:=[.Name "iterable" hC]) f (by show 1<20;decide) f hw<|I.eq (GF ..)<|I.bind<|(aE.nm (g:=aT k ap mid y am) (z:=z) (T:=fz Cn) (C:=jn ["self","iterable"] [(.b2,.raw<|.ref i),(.b2,.raw aU)] []) (B:=.raw<|.ref i) (h:="self")) kc en _ [] o _ fH jd eB w _ bR λkR an aI aJ=>?_;have jF:kR=.ref i:=by have c:bV an.heap (bY en++o) (.raw<|.ref i) kR:=aJ;exact c
 subst jF;refine dQ ?_;have cX:=bR.grow aI;refine d2<|kP<|I.of<|KS (by show kc.depth+90<1000;exact c' (.t (.a .x<|.n 90)<|.n 1000) [.l (.a .x .y)<|.n 900] f fH.2) (aG.sub cX.2) ((cc.trans aI).all _ _ h7) λal p jb=>fM p λaa ft e2 dR=>?_;obtain rfl:=e2;have a6:a9 [] [] an {an with heap:=aa,toks:=ft}:=bM.heap (λb v x j=>dR b v j) jb.1;refine ea<|I.pure ?_;generalize({an with heap:=aa,toks:=ft}:ai)=al at a6;have jO:=(cc.trans aI).trans a6;refine I.of<|RG (jO.all _ _ gZ)<|vs (R:=.builtin "bytearray.extend") (iR:=[.ref bF]) (aW:=[]) (ao:=[]) (L:=bo (aT k ap mid y am) en (bY en++o) [] w.heap.objs.size<|jn ["self","iterable"] [(.b2,.raw<|.ref i),(.b2,.raw aU)] []) f f (yv (g:=aT k ap mid y am) f<|(aE.nm (g:=aT k ap mid y am) (z:=z) (T:=fz Cn) (B:=.raw aU) (h:="iterable")) kc en _ [] o _ fH jd eB) (cX.grow a6) ?_;rintro aY bT bQ g2;refine bl g2 λaR h0 aL=>?_;obtain rfl:=h0;have oM:aR=aU:=by have c:bV bT.heap (bY en++o) (.raw aU) aR:=aL;exact c
 subst oM;refine I.mono (ah1 kc bT fH<|jO.trans bQ) ?_;rintro D cZ hu;refine cx hu λiv aZ=>?_;obtain rfl:=iv;exact⟨f,PE aZ⟩
section
section
variable{k:ck}{u:ch}{m:Env}{aW:List aw}{ao:List Nat}{L:ai->Prop}
theorem LY(ay:as.all dT=W)(cP:as.length<20)(c:mR prog k u aW ao m L as aE)(Q:L a)(be:∀a aY,aE a aY->a.heap.get? i=A v)(bp:v.data=.func bh)(aO:∀aY w,a9 aW ao a w->aE w aY->I prog k u (et (.ref i) (iR++aY) []) J w):I prog k u (pZ ak (.ref i) iR (jV Ax<|jh as m) []) J a:=by
 refine d2<|xU ay c Q λaY an aI cS=>dQ<|l (vr ay ..)<|l (u7 ..)<|l (q9 ..) ?_;have a8:I prog k u (r4<|.ref i) (λp w=>p=.frame/\w=an) an:=by exact dv<|zq (be an aY cS)<|bp.symm▸I.pure ⟨f,f⟩
 refine g8 a8<|qk ?_;have py:∀D al,J D al->I prog k u (do holding [D] point;dC D) J al:=λD al aB=>dv<|kH<|o_<|I.pure aB
 dsimp only;split
 .exact g8 (aO aY _ aI cS) λD al aB=>py D al aB
 .exact I.bind<|I.keep<|I.mono (aO aY _ aI cS) λD al aB=>py D al aB
end
variable{k:ck}{ap:ai}{mid:Nat->Obj}{y:Nat}{am:go}{z:Nat}{u:ch}{T:dp}{C:cm}{aj:Inv}{i bF cg:aw}{ab eA:List Int}{h:Str}{j:bH}{dO lw ak:Pos}
theorem cU.Sf(aG:dg k ap mid y am)(b7:uu C)(ox:bF∉aj.W)(aK:fU C h=A (.f<|.raw<|.ref i))(X:g9 T h=W)(br:cU (aT k ap mid y am) (z+1) u T (aj.both<|gP i bF cg ab) C j λB bL=>B=bN eA/\bL=aj.both (gP i bF cg ab))(n:fJ eA)(U:ab.length+eA.length<cp)(ay:dT j=W:=by rfl)(hw:(lw.endLine==ak.line)=W:=by rfl):cU (aT k ap mid y am) (z+1) u T (aj.both<|gP i bF cg ab) C (.Call (.Attribute (.Name h dO) "extend" lw) [j] [] ak) (λB bL=>B=.none/\bL=aj.both (gP i bF cg<|ab++eA)):=λm o O ax Y a ar Q P r ah J ac=>by
 refine sw (as:=[j]) (by simp[ay]) (by show 1<20;decide) f hw ?_;refine(af.raw (g:=aT k ap mid y am) (z:=z+1) aK X) u m o O ax Y ar Q P a _ r λaU an aI f2=>?_;have BK:bV an.heap o (.raw<|.ref i) aU:=f2;refine l BK ?_;have fF:u.depth+90<recursionLimit:=by have:=ar.2;show u.depth+90<1000;exact c' (.t (.a .x<|.n 90)<|.n 1000) [.l (.a .x<|.o .y)<|.n 900] f this
 have cX:=r.grow aI;have eY:=ah.it aI aP aP;refine pk eY.snd.1 λq2 h7 q4 nd ti rY rZ gZ=>?_;refine FC To fF (aG.sub cX.2) h7 nd rY λal a6=>?_;refine LY (iR:=[.ref i]) (L:=λE=>E=al) (aW:=O++bY m++(aj.both<|gP i bF cg ab).W) (ao:=(aj.both<|gP i bF cg ab).G) (v:=Bt az k.params y) (bh:=wV k.params y) (aE:=λE aY=>∃aU cD eb,aY=[aU]/\f4 (aj.both<|gP i bF cg ab) m o O cD O (aj.both<|gP i bF cg ab) al E/\ct (aT k ap mid y am) m cD O ax eb/\bo (aT k ap mid y am) m cD O eb C E/\(aj.both<|gP i bF cg ab).At (aT k ap mid y am) m cD O E/\bV E.heap cD (bN eA) aU) (by simp[ay]) (by show 1<20;decide) ?_ f ?_ (by cbv) ?_
 .rintro E J ak rfl o2;refine I.eq (l (jA ay)<|f) ?_;show I _ _ u (mB [(a2,dF j m)]) J E;refine I.eq (f) ?_;refine I.bind<|br m o O ax Y E ar Q P (cX.grow a6) (eY.it a6 aP aP) _ λaU bT B dn cD eb ag aF bb cn eC gS=>?_;refine cx ag λhu iv=>?_;obtain rfl:=hu;obtain rfl:=iv;refine fY aS ?_;exact ea<|d2<|I.pure<|I.pure<|o2 _ _ aF.6 ⟨aU,cD,eb,f,aF,bb,cn,eC,gS⟩
 .rintro E aY kD;refine ve kD λaU cD eb lF aF bb cn eC gS=>l lF ?_;exact aG.sub cn.2 _ _ _ (LX ..) f
 .rintro aY bT bQ nV;refine ve nV λaU cD eb q0 c6 i1 h3 kg D=>l q0 ?_;refine pk kg.snd.1 λq2 h7 q4 nd x x x gZ=>?_;refine iM (bV.jB D) λH V s q1 aM aB=>l q1 ?_;refine cx (af.zI n aB) λdd ee=>?_;have cP:V.toList.length=eA.length:=by have:=aB.length;simpa using this
  refine UP (z:=z) aG ar i1 h3 h7 gZ λd5 cZ fH e6=>?_;refine kP<|Pr (V:=V.toList) fH.1 (e6.all _ _ gZ) ⟨_,e6.all _ _ aM,f,s,f⟩ dd (by refine l cP<|l (k2 ..) ?_;exact U) λaa ft jF a8 jb=>?_;rw[ee]at jF;have bW:cT ab++cT eA=cT (ab++eA):=by simp[cT]
  rw[bW]at jF;have op:a9 [bF] [] cZ {cZ with heap:=aa,toks:=ft}:=bM.heap (λb v n j=>a8 b v (λe=>n<|kl.mpr e) j) jb.1;have UQ:({cZ with heap:=aa,toks:=ft}:ai).heap.get? bF=A (cf<|cT<|ab++eA):=jF;generalize({cZ with heap:=aa,toks:=ft}:ai)=uv at op UQ;have cr:=kg.snd.2 bF bm;have FA:ap.heap.objs.size<=bF:=by
   rcases cr.2.2.2.1 with e|e
   .exfalso;rcases kE.mp e with e|e<;>(rw[e]at rZ;exact absurd rZ aS)
   .exact e
  have yD:bF≠i:=λe=>by rw[e,h7]at gZ;cases gZ
  have LW:bF≠cg:=λe=>by rw[e,nd]at gZ;exact absurd (congrArg sc<|fu gZ)<|show¬(hh "dict"=hh "bytearray")by decide
  have rS:=h3.grow e6;have BY:bo (aT k ap mid y am) m cD O eb C uv:=rS.DL b7 (λG U=>(bc U).symm▸cr.1) (λG U=>bc U▸cr.2.2.1) (λG U=>l (bc U) cr.2.1) op<|rS.2.to op λG U=>bc U▸FA;have Cm:(gP i bF cg<|ab++eA).At (aT k ap mid y am) m cD O uv:=⟨⟨q2,op.1 _ _ (λe=>yD (bc e).symm)<|e6.all _ _ h7,q4,op.1 _ _ (λe=>LW (bc e).symm)<|e6.all _ _ nd,ti,rY,rZ,UQ⟩,λb eX=>(bc eX).symm▸⟨cr.1,cr.2.1,cr.2.2.1,cr.2.2.2.1,cI cr.2.2.2.2<|a' e6.2 op.2⟩,aP⟩;refine⟨f,ac .none uv .none _ cD eb ⟨f,f⟩ (((f4.nF<|aI.trans a6).trans c6).trans ⟨λx c=>c,λx c=>.inl c,λx c=>.inl c,λx c=>.inl c,λx c=>.inl c,?_⟩) i1 BY (((kg.fst.it e6 aP aP).chg op cr.1 ox).both Cm)<|f⟩;exact(e6.mono aP aP).trans<|op.mono (λb eX=>bB<|bB eX) aP
end
theorem ah4(c:a.heap.get? da=A (th E))(h:au):jr a (zh aR da nm) ⟨[h],[]⟩ [("val",h),("length",.int 8 E)]:=Dy (T:=da) (o:=th E) (items:=#[.int 8 E]) (n:=0) (by cbv) c (by cbv) f (by cbv)
theorem ah7(c:a.heap.get? da=A (th E))(h M:au):jr a (zh aR da nm) ⟨[h,M],[]⟩ [("val",h),("length",M)]:=Dy (T:=da) (o:=th E) (items:=#[.int 8 E]) (n:=0) (by cbv) c (by cbv) f (by cbv)
theorem UR(aG:dg k ap mid y am)(b:fp (aT k ap mid y am) a)(be:a.heap.get? R=A (o7 aR da nm))(aO:a.heap.CodeRec (.ref aR) zg):FnAt a R (zh aR da nm) (gC jc):=⟨(dk _ be f),by cbv,by cbv,f,aO,by cbv,ahd,f,Fp aG a b⟩
theorem ah8{prog:cL}{k:ck}{u:ch}{i aH:aw}{t s:Nat}{bA aV:List aw}{R:Nat->Int}{h:Str}{hn:Pos}{o:List aw}(be:m3 i aH bA aV)(b':u.handled=a7)(aB:u.depth<fA)(al:ai):s1 prog k u (.Name h hn) o ((c9 s).map λq=>.int<|R q) al i (i::aH::bA) (aH::aV) [t] (λq a=>iz prog k u i t aH bA aV s (λq B=>∃E,B=.int (R q) E) q a) (λx=>True):=⟨(λb n=>by
  revert b;refine gr ?_ ?_
  .exact mt bm
  .intro b n;exact mt<|mt<|be.3 b n),(λq a w cd dc st gz dr iQ=>st.frame be gz dr λe=>iQ t e bm),(λx x x x x x x x=>trivial),(λq M a J a3 st ac=>by
  have ah:q<s:=by simpa using(k_.mp a3).1
  refine st.item be b' aB ah λB w aL oa gz=>(dk B f<|I.pure<|ac B w (λbi jH g0 qx=>?_) oa gz);rw[fW,mG ah]at a3;cases a3;show bV _ _ _ _;exact aL),(λa J st ac=>by rw[gp,pg]at st;exact st.done be b' aB λw cc=>ac w cc trivial),(λq a J st ac=>st.self be b' aB ac)⟩
section
variable{k:ck}{ap:ai}{mid:Nat->Obj}{y:Nat}{am:go}{z:Nat}{u:ch}{T:dp}{C:cm}{a0:Inv}{R aR bv da:aw}{nm:au}{E:Tok}{h M:Str}{j:bH}{hn pE ak:Pos}{B:Int}
theorem v'.ag9(aG:dg k ap mid y am)(cz:bv∉a0.W)(aK:fU C h=A (.f<|rX R aR da nm E))(X:g9 T h=W)(br:c5 (aT k ap mid y am) (z+1) T C j B)(ay:dT j=W):v' (aT k ap mid y am) (z+1) u T (a0.both<|kF aR bv) C (.Name M pE) (.Call (.Name h hn) [j] [] ak) ((c9 8).map λq=>.int<|h8 B 8 q):=λm o O ax Y K a ar Q P r ah ms J ac=>by
 .refine I.bind<|(af.name (g:=aT k ap mid y am) (z:=z+1) aK X) u m o O ax Y ar Q P a _ r λaU an aI f2=>cx f2 λe2 Cp=>?_;obtain rfl:=e2;have s5:=(Cp (R,o7 aR da nm)<|bm).2;refine vy (iR:=[]) (v:=o7 aR da nm) (bh:=zh aR da nm) (L:=λav=>bo (aT k ap mid y am) m o O Y C av/\av.heap.get? R=A (o7 aR da nm)/\a9 [] [] a av) (by simp[ay]) (by show 1<20;decide) (yv (g:=aT k ap mid y am) ay<|co.weak (fc br ar Q P) λav e=>e.1) ⟨r.grow aI,s5,aI⟩ (λav e=>e.2.1) f (λav kw e t=>⟨e.1.grow t,t.all _ _ e.2.1,e.2.2.trans t⟩) ?_;rintro aY al a6 g2;refine bl g2 λaU h0 hu=>?_;obtain rfl:=h0;refine cJ hu λnC iv=>?_;obtain rfl:=iv;have jO:=aI.trans a6;have df:=r.grow jO;have fK:=ah.it jO aP aP;refine oI fK.snd.1 λLZ L0 Cq nf kD lF uF=>bl kD λL1 L2 L3=>cJ lF λcE bI=>?_;have wW:=fK.snd.2 bv<|mt bm;have Cr:ap.heap.objs.size<=bv:=by
   refine eU (wW.2.2.2.1) (λe=>?_) λe=>?_
   .exfalso;rcases kE.mp e with e|e<;>(replace nf:=e▸nf;exact absurd nf aS)
   .exact e
  refine QQ (g:=aT k ap mid y am) (bf:=u) (s:=8) (BS aG) ar (UR aG df.2 (a6.all _ _ s5) uF) f f f f bI (λe=>b4 (ls.mp e).1 Cr) P df (ah4 (a6.all _ _<|(Cp (da,th E)<|mt bm).2)<|.int B nC) aS wi S3 ar.1 λi aH t cl er j' ec bT bW cR f3 jL sN v1 rD qJ bQ pC ka ia wA ah9=>?_;have kS:=ah9 u ar.1 (dD _)<|dD _;have hK:∀b∈o,b<al.heap.objs.size:=λb n=>cI (P.8 b n) df.1;have alZ:a.heap.objs.size<=al.heap.objs.size:=jO.2;refine ac (.ref i) bT ((jO.mono aP aP).trans<|bQ.mono (λb n=>bB<|mt n) aP) (df.2.to bQ λG U=>bc U▸Cr) (λbi d_ g0=>?_) ?_
  .have wX:=(ah.wide d_ g0).it jO aP aP;refine oI wX.snd.1 λL4 L5 x x x x x=>?_;have L6:1892≠bv:=λe=>absurd (e▸nf) aS;have L7:1894≠bv:=λe=>absurd (e▸nf) aS;refine(wX.fst.it bQ (λb n=>bc n▸⟨d_ _ wW.1,cz⟩) aP).both ⟨⟨L4,L5,Cq,nf,⟨L1,L2.kept λb n v j=>bQ.1 b v (λc0=>?_) j,L3⟩,⟨j',pC⟩,?_⟩,λb n=>?_,aP⟩
   .rcases n with rfl|rfl
    .exact L7<|bc c0
    .exact L6<|bc c0
   .refine Aj uF λe v V AI eD eN oW=>?_;cases eD;exact⟨aR,v,V,AI,f,bQ.1 _ _ (λc0=>bI.ne<|bc c0) eN,oW⟩
   .exact j0 (wX.snd.2 b n) λdJ dU dN eK f_=>⟨dJ,dU,dN,eK,cI f_ bQ.2⟩
  .intro nA o2;have aB:u.depth<recursionLimit:=by show u.depth<1000;exact c' (.t .x<|.n 1000) [.l (.a .x<|.o .y)<|.n 900] f ar.2
   refine kS.self ia ar.1 aB<|o2 i bT (i::aH::cl::er) (aH::[cl]) [t] _ (bM.refl ..) ⟨ah8 ia ar.1 aB bT,kS,λb n=>.inl ?_,λq fy=>.inl ?_,λq fy=>?_,λb n=>?_⟩
   .have g3:Y<=al.heap.objs.size:=df.1
    revert b;refine gr ?_ ?_
    .exact a' g3 cR
    .intro b n;exact l (bc n)<|a' g3 f3
   .exact l (bc fy)<|a' ms<|a' jO.4 rD
   .exact l (bc fy) qJ
   .revert b;refine gr ?_ ?_
    .exact⟨jL,λe=>b4 (hK _ e) bW⟩
    intro b n;rcases e1.mp n with rfl|n
    .exact⟨sN,λe=>b4 (hK _ e) cR⟩
    rcases e1.mp n with rfl|n
    .exact⟨v1,λe=>b4 (hK _ e) f3⟩
    .exact cx (wA b n) λdd ee=>⟨ee,λe=>eU (dd) (λG=>(P.9 _ e).elim (ls.mp G).2 λep=>b4 (ls.mp G).1 ep) λG=>b4 (hK _ e) G⟩
end
noncomputable def L8(pU:Nat->Int)(s:Nat):Int:=pU<|argBest (λq aC=>decide<|pU q>pU aC)<|s-1
theorem ah_(b':u.handled=a7)(aM:a.heap.IsList H V)(ay:0<V.size)(aL:∀q B,V[q]?=A B->∃E,B=se (pU q) E)(ac:∀E w,a9 [] [] a w->J (.int (L8 pU V.size) E) w):I prog k u (et (.builtin "max") [.ref H] []) J a:=by
 refine bl (id aM) λv aJ x=>kP<|I.of<|call_max_walkS<|CM aM<|WF a.heap.objs.size [a.heap.objs.size,H] [a.heap.objs.size] _ V.size (λq B=>V[q]?=A B) _ _ f (Ht (prog:=prog) (w:=k) (A:=u.in1) b' a.heap.objs.size H (hS<|dH aJ) V).toS ⟨⟨_,fj _ f,f,f⟩,aM.push _⟩ (λb n=>?_) ay (CmpOf.ints_gt pU aL) λB w bJ bw G=>?_
 .refine l (f' ..) ?_
  revert b;refine gr ?_ ?_
  .exact ks _
  .intro b n;exact l (bc n)<|pe<|dH aJ
 .refine cJ (aL _ _ bJ) λE bK=>?_;obtain rfl:=bK;have aK:w.gens=a.gens:=bw.gens;refine ac E w ⟨λb v x j=>bw.heap b v (λe=>iK _<|bc e▸dH j)<|eT _ j,G.1,λq h x j=>aK.symm▸j,G.2,λc=>aK▸c,bw.os⟩
theorem US:∀{ab:List Int}{V:List au},bX c o (ab.map bd.int) V->∀(q:Nat)(B:au),V[q]?=A B->∃E,B=se (ab.getD q 0) E|[],V,D,q,B,j=>by subst D;trivial|s::ab,V,D,q,B,j=>by refine dZ D λg aY e2 eD eN=>?_;obtain rfl:=e2;cases q with|zero=>simp at j;exact c2 j eD|succ q=>exact US eN q B (by simpa using j)
noncomputable def uG(ab:List Int):Int:=L8 (λq=>ab.getD q 0) ab.length
theorem af.max(aO:g.Ok)(c:af g z T C j p<|bN ab)(c_:0<ab.length)(aK:g.gl "max"=A (.builtin "max"))(X:eE T "max"=W:=by cbv)(ay:dT j=W:=by rfl):c5 g z T C (.Call (.Name "max" dO) [j] [] ak) (uG ab):=n' λu m o O ax Y ar Q P=>by
 subst Q;refine mS P.ok (ix aO P aK X) f (jl ay P.ok (c u m o O ax Y ar f P) fg.h4 kt) ?_ (by simp[ay]);rintro a aY a1 b8 J ac;refine dZ b8 λfC D dm nI dX=>?_;obtain rfl:=dm;obtain rfl:=dX;refine iM nI.jB λH V s eO aM aB=>?_;obtain rfl:=eO;have cP:V.size=ab.length:=by have:=aB.length;simpa using this
 exact ah_ (pU:=λq=>ab.getD q 0) ar.1 ⟨_,aM,f,s,f⟩ (cP▸c_) (λq B j=>US aB q B (by simpa using j)) λE w t=>cP.symm▸ac _ w t ⟨E,f⟩
section
variable{g:d7}{z:Nat}{T:dp}{C:cm}{u:ch}{a0 ba bf:Inv}{j:bH}{B:bd}
theorem cU.comp(aO:g.Ok)(b7:je C)(dc:J5 g z u T aj C dz t bU a4 ak bs dP)(gL:m2 g z T C t.target t.iter bs):cU g z u T aj C (.ListComp dz (t::bU) a4 ak) (λB bL=>B=.lst dP.flatten/\bL=aj):=λm o O ax Y a ar Q P r ah J ac=>by
 subst Q;have iV:=r.now;have e3:=P.up (cC:=a.heap.objs.size) r.1;have UT:∀b∈aj.W,b∈o:=λb n=>(ah.2 b n).1;refine RA (g:=g) (z:=z) (aj:=aj) (j5:=[]) (kT:=[]) (k1:=λx=>True) (bs:=bs) (dP:=dP) aO dc b7 ?_ aP aP ar P r ah ?_
 .intro E J e ac;refine gL u m o O ax a.heap.objs.size a.gens.size ar f e3 E J ⟨e.1,e.2.1⟩ λaU eM cc aL=>ac aU eM cc λnA o2=>aL nA λcl al bA aV od St ba=>o2 cl al bA aV od St ba.3 ?_;have wY:=ba.CR;exact⟨wY.1,wY.2,wY.3,wY.4,wY.5,λb n=>⟨(wY.6 b n).1,λe=>(wY.6 b n).2<|UT b e⟩⟩
 .intro uw B1 w k0 g' pI wg t9 IT ja Bd Tt eX;refine cJ k0 λpu k0=>⟨pu,k0,λaa dB=>?_⟩;have d8:a9 [uw] [] w {w with heap:=aa}:=bM.same (y:=w.toks) dB;have kd:a9 aj.W aj.G a {w with heap:=aa}:=(g'.mono (λb n=>by simpa using n) λb n=>by simpa using n).gR d8 (λb n=>.inr<|bc n▸fS pI) aP;have K9:fp g {w with heap:=aa}:=eX.to d8 λG U=>bc U▸a' r.2.1.2 pI;have K_:uw∉o:=λe=>b4 (e3.8 _ e) pI;have ah':aj.At g m o O {w with heap:=aa}:=by exact((Bd (uw::o) (λb n=>mt n) λb n=>di n (λe=>e▸bm) λe=>mt<|mt e).it d8 (λb n=>(bc n).symm▸⟨bm,λG=>K_<|UT _ G⟩) aP).narrow ah (λb n=>mt n) kd.2
  refine ac (.ref B1) _ (.lst dP.flatten) aj o Y ⟨f,f⟩ ⟨λx c=>c,λx c=>.inl c,λx c=>.inl c,λx c=>.inl c,λx c=>.inl c,kd.mono (λb n=>bB n) λx c=>c⟩ P (r.uL b7 (λG U=>(ah.2 G U).1) (λG U=>(ah.2 G U).2.2.1) kd K9) ah' ?_;have sH:B1∉o:=λe=>b4 (e3.8 _ e) wg;exact((ja.obj (ip<|ip t9) dB).sub (aW:=o) λM a3=>mt a3).rep sH
theorem Inv.At.swap{m:Env}{o O:List aw}{a:ai}(c:((a0.both bf).both ba).At g m o O a):((a0.both ba).both bf).At g m o O a:=(c.fst.fst.both c.snd).both c.fst.snd
theorem aia{b:aw}(c:b∈((a0.both ba).both bf).W):b∈((a0.both bf).both ba).W:=bD c (λc=>bD c (λc=>bO<|bO c) λc=>bB c) λc=>bO<|bB c
theorem aib{b:Nat}(c:b∈((a0.both ba).both bf).G):b∈((a0.both bf).both ba).G:=bD c (λc=>bD c (λc=>bO<|bO c) λc=>bB c) λc=>bO<|bB c
end
section
noncomputable def i3(aQ:List<|List Int):List Int:=(c9 (uG<|aQ.map λb=>(b.length:Int)).toNat).flatMap λp=>aQ.flatMap λb=>if p<b.length then(c9 8).map λq=>h8 (b.getD p 0) 8 q else[]
theorem UU(H:List bk)(R:bk->List Int):(H.map λi=>(R i).map bd.int).flatten=(H.flatMap R).map bd.int:=by induction H with|nil=>rfl|cons k bu a5=>exact l ju<|l oF<|l a5<|l tE<|l mb f
theorem L9(c:oX (.Name h e) C=W)(ay:(M==h)=a2):oX (.Name h e) ((M,bt)::C)=W:=by unfold oX Jd at*;simp only[n0,List.all_nil,MH]at*;refine l ay ?_;simpa using c
theorem L_(ay:(M==h)=a2):fU ((M,bt)::C) h=fU C h:=by show(bif M==h then A bt else fU C h)=_;refine l ay ?_;rfl
theorem aic(ay:0<s):∃q,q<s/\L8 pU s=pU q:=by
 refine(dk _ ?_ f);have:∀(lt:Nat->Nat->Bool)ae,argBest lt ae<=ae:=by intro lt ae;induction ae with
  |zero=>exact dD _|succ ae a5=>unfold argBest;split<;>(first|exact ks _|exact c' (.l .x<|.o .y) [.l .x .y] f a5)
 have:=this (λq aC=>decide<|pU q>pU aC)<|s-1;exact gv (.t .x .y) [.l .x .z,.e (.a .z<|.n 1) .y] f this<|eu<|bZ (.l (.n 1) .x) [.t (.n 0) .x] f ay
theorem L'(c:0<ab.length):uG ab∈ab:=by refine bl (aic (pU:=λq=>ab.getD q 0) c) λq ah j=>?_;unfold uG;exact l j<|l (hF)<|l (gQ ah)<|xo ah
variable{k:ck}{ap:ai}{mid:Nat->Obj}{y:Nat}{am:go}{z:Nat}{u:ch}{T:dp}{C:cm}{a0:Inv}{R aR bv da:aw}{nm:au}{E:Tok}{h:Str}{aQ:List<|List Int}{a4 wZ:dp}{dd ee i' qz qA yU s9 s_ s' wm wn wo wp yV BR yW wq wr yX ws yY wt wu y0 y1 Fv:Pos}
theorem cU.bits(aG:dg k ap mid y am)(b7:je C)(cz:bv∉a0.W)(n:∀b∈aQ,fJ b/\b.length<=1000)(c_:0<aQ.length)(aM:aQ.length<=100)(UV:fU C h=A (.f<|.lst<|aQ.map fl))(sE:g9 T h=W)(IG:eE T "range"=W)(IH:eE T "max"=W)(aid:ob wZ T=W)(aie:eE (eI wZ T) "len"=W)(vt:g9 (eI wZ T) "block"=W)(aif:oR W (eI wZ T) "block"=W)(aig:oX (.Name "block" qA) (hA (eI wZ T) C)=W)(kv:ob a4 T=W)(gG:([("k":Str),"block","bit"].all<|oR W<|eI a4 T)=W)(Cb:(oX (.Name "k" dd) (hA (eI a4 T) C)&&oX (.Name "block" ee) (hA (eI a4 T) C)&&oX (.Name "bit" i') (hA (eI a4 T) C))=W)(UW:fU (hA (eI a4 T) C) h=A (.f<|.lst<|aQ.map fl))(H1:fU (hA (eI a4 T) C) "to_binary"=A (.f<|rX R aR da nm E))(y5:([h,"k","block","bit","to_binary"].all<|g9<|eI a4 T)=W)(aih:eE (eI a4 T) "len"=W)(aii:(("k":Str)==h)=a2):cU (aT k ap mid y am) (z+1) u T (a0.both<|kF aR bv) C (.ListComp (.Name "bit" qz) [⟨.Name "k" dd,.Call (.Name "range" yU) [.Call (.Name "max" s9) [.ListComp (.Call (.Name "len" s_) [.Name "block" s'] [] wm) [⟨.Name "block" qA,.Name h wn,[],0⟩] wZ wo] [] wp] [] yV,[],0⟩,⟨.Name "block" ee,.Name h BR,[.Compare (.Name "k" yW) [.Lt] [.Call (.Name "len" wq) [.Name "block" wr] [] yX] ws],0⟩,⟨.Name "bit" i',.Call (.Name "to_binary" yY) [.Subscript (.Name "block" wt) (.Name "k" wu) y0] [] y1,[],0⟩] a4 Fv) (λB bL=>B=bN (i3 aQ)/\bL=a0.both (kF aR bv)):=by
 have aO:=ik aG;have cK:=us aG;have Q:cp=2^24:=f;simp only[n0,List.all_nil,MH,jU]at gG y5 Cb;refine eV gG λwe yA aij=>j0 y5 λAP x5 UX aik ail=>cx Cb λbK aim=>cx bK λs5 By=>?_;have nM:uG (aQ.map λb=>(b.length:Int))∈aQ.map λb=>(b.length:Int):=L' (by simpa using c_);refine bl (by refine j2 nM λb eX j=>?_;exact(dk b.length j.symm (n b eX).2):∃ae:Nat,uG (aQ.map λb=>(b.length:Int))=ae/\ae<=1000) λae bw wJ=>?_;have UY:c5 (aT k ap mid y am) (z+1) T C (.Call (.Name "max" s9) [.ListComp (.Call (.Name "len" s_) [.Name "block" s'] [] wm) [⟨.Name "block" qA,.Name h wn,[],0⟩] wZ wo] [] wp) ae:=by refine bw▸?_;exact af.max aO (aE.QG (H:=aQ) (l1:=fl) (lA:=λb=>(b.length:Int)) cK (gx.list (lR.of<|af.name UV sE)<|.inl<|mf _ _ f) (λb eX=>⟨aif,af.CV cK (aE.nm (by rfl) vt) (by have:=(n b eX).2;exact bZ (.t .x<|.n 4611686018427387904) [.l .x<|.n 1000] f this) aie⟩) (gT [1,1,-1] (.l .x .y) [.l .x<|.n 100,.e .y<|.n 16777216] f aM Q) aid aig λx x=>f) (by simpa using c_) (by cbv) IH f
 have cV:(bN<|i3 aQ)=.lst ((c9 ae).map λp=>((aQ.map λb=>(if p<b.length then(c9 8).map λq=>h8 (b.getD p 0) 8 q else[]).map bd.int).flatten)).flatten:=by
  unfold i3;refine l bw<|l (mC ..) ?_;show bd.lst _=_;refine c2 (UU ..) ?_
  congr 2;exact vb λp x=>c2 (UU ..) f
 refine cV.symm▸?_;refine cU.comp aO b7 ⟨kv,f,hf _,λcc e=>(by cases e;rfl),λx x=>f,AllP.h5 (i:=0) (z:=1) λp a8=>?_,?_⟩<|m2.t_ (s:=ae) aO UY wi IG f<|bZ (.t .x<|.n 4611686018427387904) [.l .x<|.n 1000] f wJ
 .have ain:((0:Int)+p*1)=(p:Int):=bZ (.eK (.a (.n 0)<|.r (.c .x) 1)<|.c .x) [] f;refine ain.symm▸⟨we,A8 s5,(pL.next (t:=⟨.Name "block" ee,.Name h BR,[.Compare (.Name "k" yW) [.Lt] [.Call (.Name "len" wq) [.Name "block" wr] [] yX] ws],0⟩) f f (by show 1<=1;decide) (λcc e=>(by cases e;rfl)) (λx x=>f) f (v'.of<|m2.list (af.name (B:=.lst<|aQ.map fl) ((L_ aii).trans UW) AP) aS<|.inl<|mf _ _ f)<|AllP.map λb eX=>cx (n b eX) λiT gK=>⟨yA,A8<|L9 By aS,?_⟩)⟩;have bI:ei (aT k ap mid y am) (z+1) (eI a4 T) (kx (.Name "block" ee) (fl b)<|kx (.Name "k" dd) (.int p)<|hA (eI a4 T) C) (.Compare (.Name "k" yW) [.Lt] [.Call (.Name "len" wq) [.Name "block" wr] [] yX] ws) (decide<|(p:Int)<b.length):= ei.lt (af.name (by rfl) x5) (af.CV cK (af.name (by rfl) UX) (bZ (.t .x<|.n 4611686018427387904) [.l .x<|.n 1000] f gK) aih) λx=>f;by_cases FS:p<b.length
  .refine(if_pos FS).symm▸ ?_;have bW:decide ((p:Int)<b.length)=W:=by simpa using FS
   replace bI:=bW▸bI;have cR:((c9 8).map λq=>h8 (b.getD p 0) 8 q).map bd.int=((c9 8).map λq=> [bd.int<|h8 (b.getD p 0) 8 q]).flatten:=by refine l (wC ..)<|l ph ?_;rfl
   refine cR.symm▸pL.next (t:=⟨.Name "bit" i',.Call (.Name "to_binary" yY) [.Subscript (.Name "block" wt) (.Name "k" wu) y0] [] y1,[],0⟩) f f (hf _) (λcc e=>(d1 e)) (λx x=>f) bI (v'.ag9 (B:=b.getD p 0) aG cz ((L_ aS).trans<|(L_ aS).trans H1) ail (c5.cast (af.OH (ab:=b) (q:=p) (af.name (by rfl) UX) (af.name (by rfl) x5) (kL _) (by assumption) iT<|gT [1,-1,1] (.l .x .y) [.e .y<|.n 16777216,.l .x<|.n 1000] f Q gK)<|l (mC ..) f) f) (AllP.map λq ah=>⟨aij,A8<|L9 (L9 aim aS) aS,pL.of<|mo.one f f<|af.name (B:= .int<|h8 (b.getD p 0) 8 q) (by rfl) aik⟩)
  .refine(if_neg FS).symm▸ ?_;have bW:decide ((p:Int)<b.length)=a2:=by simpa using FS
   replace bI:=bW▸bI;exact pL.of<|mo.skip bI
 .have: ∀p:Nat,((aQ.map λb=>(if p<b.length then(c9 8).map λq=>h8 (b.getD p 0) 8 q else []).map bd.int).flatten).length<=8*aQ.length:=by intro p;clear c_ aM UV UW n cV nM bw UY;induction aQ with
   |nil=>exact dD _ |cons b aQ a5=>
    refine l ju<|l oF<|l io<|l (gp ..)<|l jX ?_;have:(if p<b.length then(c9 8).map λq=>h8 (b.getD p 0) 8 q else []).length<=8:=by split<;>simp
    exact gv (.l (.a .x .y)<|.m 8<|.o .z) [.l .y<|.m 8 .z,.l .x<|.n 8] f a5 this
  have aF: ∀s:Nat,((c9 s).map λp=>((aQ.map λb=>(if p<b.length then(c9 8).map λq=>h8 (b.getD p 0) 8 q else []).map bd.int).flatten)).flatten.length<=s*(8*aQ.length):=by intro s;induction s with
   |zero=>exact hf _ |succ s a5=> refine(show c9 (s+1)=c9 s++ [s] from z8).symm▸mb.symm▸z4.symm▸io.symm▸ ?_;have:=this s;refine l (G3 ..) ?_;simp only[ju,xs,oF,List.flatten_nil,u'];exact nx (.l (.a .x .y)<|.a .z<|.m 8 .w) [.l .x .z,.l .y<|.m 8 .w] f a5 this
  have cn:ae*(8*aQ.length)<=1000*(8*100):=Nat.mul_le_mul wJ<|sp [1,8] (.l (.m 8 .x)<|.m 8<|.n 100) [.l .x<|.n 100] f aM;exact iO [1,-1,1,1] (.l .x .y) [.e .y<|.n 16777216,.l .x .z,.l .z<|.m 1000<|.m 8<|.n 100] f Q (aF ae) cn
end
section
open PySem PySem.W PySem.F PySem.Calls PyProof.Rows
section
theorem air:kK (.type "generator") "__buffer__"=pure a7:=by refine l (hq ..)<|l hr ?_;cbv
theorem ais(cz:a.TypeIs h "generator")(c:J () a):cj (cG prog k) u (NE "bytearray.extend" h) J aN a:=by exact bg<|g6 cz gen_no_len<|nv aS<|nv aS<|bg<|g6 cz gen_no_hint<|cu c
theorem aiu(R:Nat->Int)(p:Nat):(cT<|(c9 p).map R).push (R p).toNat.toUInt8=cT ((c9<|p+1).map R):=by refine l z8 ?_;simp[cT]
theorem aiv(b':u.handled=a7)(aB:u.depth<fA)(be:m3 cF aH bA aV)(kS:iz prog k u.in1 cF t aH bA aV s (mu R) 0 a)(aJ:a.heap.get? i=A (cf b))(aiw:i∉cF::aH::bA)(c1:∀h∈cF::aH::bA,h<a.heap.objs.size)(n:∀q,0<=R q/\R q<256)(U:b.size+s<cp)(c:∀w,a9 (i::aH::aV) [t] a w->w.heap.get? i=A (cf<|b++cT ((c9 s).map R))->J .none w):I prog k u (et (.builtin "bytearray.extend") [.ref i,.ref cF]) J a:=by
 have cz:a.TypeIs (.ref cF) "generator":=by obtain⟨⟨v,nm,yf,aJ,D⟩,_⟩:=kS;exact⟨_,aJ,D.1⟩
 refine I.vZ DR (gF aJ) HX fv (HY _ _)<|dv<|nW (a:=(e8 i,e8 cF)) f<|dv<|g6 cz air<|fY aS<|I.bind<|I.tryCatch<|kS.self be b' aB<|d2<|I.of<|ais cz<|dv<|i4 (I.pure ⟨nX H8 _,?_⟩) (by show(#[]:Array UInt8).size<=cp;decide);have FT:a9 [] [] a {a with heap:=a.heap.push<|cf #[]}:=bM.push a _ a.toks;have hs:({a with heap:=a.heap.push<|cf #[]}:ai).heap.get? a.heap.objs.size=A (cf #[]):=fj _ f;show d6 prog k u _ _ {a with heap:=a.heap.push<|cf #[]};generalize({a with heap:=a.heap.push<|cf #[]}:ai)=an at FT hs;have qn:a.heap.objs.size∉cF::aH::bA:=λe=>iK _<|c1 _ e;have aix:a.heap.objs.size≠i:=λe=>iK _<|e▸dH aJ;have UZ:∀h∈aH::aV,h∈cF::aH::bA:=λh X=>by
  revert h;refine gr ?_ ?_
  .exact mt bm
  .intro h X;exact mt<|mt<|be.3 h X
 have Aq:a.heap.objs.size∉aH::aV:=λe=>qn<|UZ _ e;have xO:i∉aH::aV:=λe=>aiw<|UZ _ e;refine Pq (b:=b) (λae aQ E=>∃p,p<=s/\ae=s-p/\aQ=cT ((c9 p).map R)/\iz prog k u.in1 cF t aH bA aV s (mu R) p E/\E.heap.get? a.heap.objs.size=A (cf aQ)/\a9 (a.heap.objs.size::aH::aV) [t] an E) ?_ s #[] (HI 0 (hf _) f f (kS.frame be FT aP λe=>nomatch e) hs<|bM.refl ..);rintro ae aQ E⟨p,a8,rfl,rfl,aK,bI,gz⟩;have cP:(cT<|(c9 p).map R).size=p:=by refine l (k2 ..) ?_;simp
 rcases pd p s with mN|ib
 .refine aK.item be b' aB mN λB hB aL vn aI=>?_;obtain⟨nC,rfl⟩:=aL;obtain⟨FU,fq⟩:=n p;refine(HK (R p) nC f FU fq (cP.symm▸nx (.t .x .y) [.t (.a .z .w) .y,.t .x .w] f U mN) (aI.1 _ _ Aq bI) λaa Ma dB=>(dk (s-(p+1)) (nx (.t .x .y) [.l .z<|.a .y .w,.e (.a .x<|.o .w) .z] f (fk _ _)<|eu<|c' (.l (.o .x) .y) [.t .x .y] f mN)<|HI (p+1) mN f (aiu R p) ?_ Ma ?_))
  .exact vn.frame be (bM.same (y:=hB.toks) dB) (λh X=>bc X▸qn) λe=>nomatch e
  .exact(gz.trans<|aI.mono (λh X=>mt X) λx e=>e).trans<|(bM.same (y:=hB.toks) dB).mono (λh X=>bc X▸bm) aP
 .obtain rfl:p=s:=u5 a8 ib;refine aK.done be b' aB λhB aI=>?_;have kd:=gz.trans<|aI.mono (λh X=>mt X) λx e=>e;refine⟨(kd.1 _ _ (λe=>di e (λe=>aix e.symm) xO)<|FT.all _ _ aJ),aI.1 _ _ Aq bI,cP.symm▸no U,λaa Ma dB=>(dk _ f<|c _ (((FT.mono aP aP).gR kd (λh X=>?_) λq ah=>.inl ah).trans<|(bM.same (y:=hB.toks) dB).mono (λh X=>bc X▸bm) aP) Ma)⟩
  revert h;refine gr ?_ ?_
  .exact .inr<|fS<|dD _
  .intro h X;exact .inl<|mt X
end
end
section
open PySem PySem.W PySem.F PySem.Calls PyProof.Rows
theorem aiy:Hg.lookup (Hh ['s','e','t','y','b'].reverse)=A Manifest.sig_bytes:=by cbv
theorem U0:uZ "bytes" "__mul__" "bytes.__mul__":=.of (owner:="bytes") (n:="__mul__") (by refine l (hq ..)<|l hr ?_;cbv) (by decide+kernel) (by decide+kernel) fv (by first|exact .inl (by decide+kernel)|exact .inr (by decide+kernel)) (by refine l (kj ..) ?_;cbv)
theorem aiz:kI table "bytes.__mul__"=A Hi:=oA (by cbv)
theorem aiA(i b:au):iJ "bytes.__mul__" ⟨[i,b],[]⟩:=by unfold iJ;refine l (q_ (id:="bytes.__mul__") (n:=['_','_','l','u','m','_','_']) (o:=['s','e','t','y','b']) (by cbv) aiy) ?_;cbv
theorem aiB:uZ "bytes" "__rmul__" "bytes.__rmul__":=.of (owner:="bytes") (n:="__rmul__") (by refine l (hq ..)<|l hr ?_;cbv) fv fv fv (by first|exact .inl fv|exact .inr fv) (by refine l (kj ..) ?_;cbv)
theorem aiC:fillsNumberSlot (.type "bytes") "mul"=pure a2:=PySem.fillsNumberSlot_seq (id:="bytes.__mul__") (r:=A<|.builtin "bytes.__rmul__") U0.lookup (by decide+kernel) aiB.lookup fv
theorem aiD:seqRepeat? (.type "bytes")=pure (A<|.builtin "bytes.__mul__"):=by rfl
noncomputable def tj(s:Nat):Array UInt8:=(dE s 0).toArray
theorem aiE(st:pb)(p:Nat)(E av:Tok)(s:Int)(b:Array UInt8):kZ st .nil (λx x=>a7) (Builtin.«int.__rmul__» ⟨[.int s av,.bytes b E],[]⟩) p=A (.ok<|.done<|.ret .notImplemented,p+0):=by cbv
theorem aiF(st:pb)(p:Nat)(E av:Tok):kZ st .nil (λx x=>a7) (Hi ⟨[.bytes #[0] E,.int 0 av],[]⟩) p=A (.ok<|.done<|.ret<|.bytes (tj 0) p,p+1):=by cbv
theorem aiG(st:pb)(p:Nat)(E av:Tok):kZ st .nil (λx x=>a7) (Hi ⟨[.bytes #[0] E,.int 7 av],[]⟩) p=A (.ok<|.done<|.ret<|.bytes (tj 7) p,p+1):=by cbv
section
variable{u:ch}{a:ai}{E av:Tok}{s:Nat}
theorem aiH{J:au->ai->Prop}(ay:s=0\/s=7)(c:J (.bytes (tj s) a.toks) {a with toks:=a.toks+1}):cj (cG prog k) u (tq .Mult (.bytes #[0] E)<|.int s av) J aN a:=by
 refine wpAny_binaryOp_repeat (T:="bytes") (U:="int") aS (λw=>rp w _ E) (λw=>w6 w s av) aiC F.fills_int_mul Dm aiD N1.lookup<|kJ Dm (w6 a s av) N2 (EC (z:=0) (λst p=>aiE st p E av s _)<|p9 _ f f<|kJ U0 (rp _ _ E) aiz ?_<|aiA _ _)<|N3 _ _;rcases ay with rfl|rfl
 .exact EC (z:=1) (λst p=>aiF st p E av)<|dk _ f c
 .exact EC (z:=1) (λst p=>aiG st p E av)<|dk _ f c
end
variable{g:d7}{z:Nat}{T:dp}{C:cm}{D:bH}{ak bR:Pos}{aC s:Nat}
theorem af.pQ(ay:s=0\/s=7)(c:c5 g z T C D s):af g z T C (.BinOp (.Constant (.bytes [0]) aC bR) .Mult D ak) .b2 (.bytes<|Mine.tj s):=λu m o O ax Y ar Q P=>by
 refine rr (jz:=λa g=>∃E,g=.bytes #[0] E) P.ok (λa J x ac=>?_) (λx x x c x=>c) (fc c ar Q P) λa fC gJ x bn bG J ac=>?_
 .exact I.of<|wpAny_mkBytes<|ac _ _ (bM.tok ..) ⟨_,f⟩
 .obtain⟨E,rfl⟩:=bn;obtain⟨av,rfl⟩:=bG;refine I.of<|aiH ay<|ac _ _ (bM.tok ..) ?_;show bV _ _ _ _;exact⟨_,f⟩
end
section
variable{k:ck}{ap a w:ai}{mid:Nat->Obj}{y:Nat}{am:go}{z:Nat}{u:ch}{m:Env}{o O ax:List aw}{Y:Nat}{T:dp}{C:cm}{aj dY:Inv}{i bF cg:aw}{ab eA:List Int}{h:Str}{j:bH}{dO lw ak:Pos}{cd:List aw}{ao:List Nat}
theorem U1(aG:dg k ap mid y am)(b7:uu C)(fx:dY.At (aT k ap mid y am) m o O a)(iT:(gP i bF cg ab).At (aT k ap mid y am) m o O a)(lf:aj.At (aT k ap mid y am) m o O a)(bp:bF∈aj.W)(Cs:bF∉dY.W)(dr:∀G∈cd,G∈aj.W/\G∉dY.W/\1993<=G)(jG:∀q∈ao,q∈aj.G/\q∉dY.G)(aiI:∀b∈dY.W,b∈aj.W)(Mb:∀q∈dY.G,q∈aj.G)(r:bo (aT k ap mid y am) m o O Y C a)(t:a9 (bF::cd) ao a w)(gZ:w.heap.get? bF=A (cf<|cT eA)):bo (aT k ap mid y am) m o O Y C w/\(dY.both<|gP i bF cg eA).At (aT k ap mid y am) m o O w/\f4 aj m o O o O (dY.both<|gP i bF cg eA) a w:=by
 refine pk iT.1 λq2 h7 q4 nd ti rY rZ al0=>?_;have s0:∀G∈bF::cd,G∈aj.W/\G∉dY.W/\1993<=G:=λG U=>di U (λe=>e▸⟨bp,Cs,rZ⟩)<|dr G;have aiJ:∀G∈bF::cd,ap.heap.objs.size<=G:=λG U=>by
  refine eV (s0 G U) λji x vS=>?_;rcases(lf.2 G ji).2.2.2.1 with e|e
  .exfalso;rcases kE.mp e with e|e<;>(rw[e]at vS;exact absurd vS aS)
  .exact e
 have n:fp (aT k ap mid y am) w:=r.2.toG t aiJ λq ah=>(lf.3 q (jG q ah).1).1;have FV:∀G∈bF::cd,G∈o:=λG U=>(lf.2 G (s0 G U).1).1;have Cm:(gP i bF cg eA).At (aT k ap mid y am) m o O w:=⟨⟨q2,t.1 _ _ (λe=>q2<|FV _ e) h7,q4,t.1 _ _ (λe=>q4<|FV _ e) nd,ti,rY,rZ,gZ⟩,λb eX=>by refine j0 (iT.2 b eX) λdJ dU dN eK f_=>?_;exact⟨dJ,dU,dN,eK,cI f_ t.2⟩,aP⟩;refine⟨(r.DL b7 FV (λG U=>(lf.2 G (s0 G U).1).2.2.1) (λG U=>(lf.2 G (s0 G U).1).2.1) t n),(fx.it t (λG U=>⟨FV G U,(s0 G U).2.1⟩) λq ah=>(jG q ah).2).both Cm,⟨λx c=>c,λx c=>.inl c,λx c=>.inl c,λb n=>?_,λq ah=>?_,t.mono (λG U=>bB (s0 G U).1) λq ah=>(jG q ah).1⟩⟩
 .refine bD n (λe=>?_) λe=>?_
  .exact .inl<|aiI b e
  .exact l (bc e)<|.inl bp
 .refine bD ah (λe=>?_) λe=>?_
  .exact .inl<|Mb q e
  .exact dI e
theorem cU.Su{hp:bd->Inv->Prop}{wD:Inv->Prop}(aG:dg k ap mid y am)(iT:∀m o O a,aj.At (aT k ap mid y am) m o O a->(gP i bF cg ab).At (aT k ap mid y am) m o O a)(aiK:∀B dn,hp B dn->∀m o O a,dn.At (aT k ap mid y am) m o O a->(gP i bF cg ab).At (aT k ap mid y am) m o O a)(aK:fU C h=A (.f<|.raw<|.ref i))(X:g9 T h=W)(br:cU (aT k ap mid y am) (z+1) u T aj C j hp)(qp:∀(m:Env)(o O ax:List aw)(Y:Nat)(a:ai)B dn aU,hp B dn->ct (aT k ap mid y am) m o O ax Y->bo (aT k ap mid y am) m o O Y C a->dn.At (aT k ap mid y am) m o O a->bV a.heap o B aU->∀d5,eJ z d5->∀J:ai->Prop,(∀w oV,wD oV->f4 dn m o O o O oV a w->bo (aT k ap mid y am) m o O Y C w->oV.At (aT k ap mid y am) m o O w->J w)->I az k d5 (et (.builtin "bytearray.extend") [.ref bF,aU] []) (λD ek=>D=.none/\J ek) a)(ay:dT j=W:=by rfl)(hw:(lw.endLine==ak.line)=W:=by rfl):cU (aT k ap mid y am) (z+1) u T aj C (.Call (.Attribute (.Name h dO) "extend" lw) [j] [] ak) (λB bL=>B=.none/\wD bL):=λm o O ax Y a ar Q P r ah J ac=>by
 refine sw (as:=[j]) (by simp[ay]) (by show 1<20;decide) f hw ?_;refine(af.raw (g:=aT k ap mid y am) (z:=z+1) aK X) u m o O ax Y ar Q P a _ r λaU an aI f2=>?_;refine l f2 ?_;have fF:u.depth+90<recursionLimit:=by have:=ar.2;show u.depth+90<1000;exact c' (.t (.a .x<|.n 90)<|.n 1000) [.l (.a .x<|.o .y)<|.n 900] f this
 have cX:=r.grow aI;have eY:=ah.it aI aP aP;refine pk (iT _ _ _ _ eY).1 λq2 h7 q4 nd ti rY rZ gZ=>?_;refine FC To fF (aG.sub cX.2) h7 nd rY λal a6=>?_;refine LY (iR:=[.ref i]) (L:=λE=>E=al) (aW:=O++bY m++aj.W) (ao:=aj.G) (v:=Bt az k.params y) (bh:=wV k.params y) (aE:=λE aY=>∃aU B dn cD eb,aY=[aU]/\hp B dn/\f4 aj m o O cD O dn al E/\ct (aT k ap mid y am) m cD O ax eb/\bo (aT k ap mid y am) m cD O eb C E/\dn.At (aT k ap mid y am) m cD O E/\bV E.heap cD B aU) (by simp[ay]) (by show 1<20;decide) ?_ f ?_ (by cbv) ?_
 .rintro E J ak rfl o2;refine I.eq (l (jA ay)<|f) ?_;show I _ _ u (mB [(a2,dF j m)]) J E;refine I.eq (f) ?_;refine I.bind<|br m o O ax Y E ar Q P (cX.grow a6) (eY.it a6 aP aP) _ λaU bT B dn cD eb ag aF bb cn eC gS=>?_;refine fY aS ?_;exact ea<|d2<|I.pure<|I.pure<|o2 _ _ aF.6<|OM aU B dn cD eb f ag aF bb cn eC gS
 .rintro E aY LL;refine DH LL λaU B dn cD eb aiL ag aF bb cn eC gS=>l aiL ?_;exact aG.sub cn.2 _ _ _ (LX ..) f
 .rintro aY bT bQ aiM;refine DH aiM λaU B dn cD eb aiO ag c6 i1 h3 kg D=>l aiO ?_;refine pk (aiK _ _ ag _ _ _ _ kg).1 λq2 h7 q4 nd x x x gZ=>?_;refine UP (z:=z) aG ar i1 h3 h7 gZ λd5 cZ fH e6=>?_;refine qp m cD O ax eb cZ B dn aU ag i1 (h3.grow e6) (kg.it e6 aP aP) (bV.to (λb v n j=>⟨e6.all _ _ j,n⟩) _ _ D) d5 fH _ λuv oV ge qF BY aiP=>?_;exact ac .none uv .none oV cD eb ⟨f,ge⟩ (((f4.nF<|aI.trans a6).trans c6).trans<|(f4.nF e6).trans qF) i1 BY aiP<|f
theorem cU.ahM{s:Nat}{aC:Nat}{D:bH}{eQ e':Pos}(aG:dg k ap mid y am)(b7:uu C)(Cs:bF∉dY.W)(aK:fU C h=A (.f<|.raw<|.ref i))(X:g9 T h=W)(ay:s=0\/s=7)(br:c5 (aT k ap mid y am) (z+1) T C D s)(U:ab.length<=2^20)(hw:(lw.endLine==ak.line)=W:=by rfl):cU (aT k ap mid y am) (z+1) u T (dY.both<|gP i bF cg ab) C (.Call (.Attribute (.Name h dO) "extend" lw) [.BinOp (.Constant (.bytes [0]) aC eQ) .Mult D e'] [] ak) (λB bL=>B=.none/\bL=dY.both (gP i bF cg<|ab++dE s 0)):=by
 refine cU.Su (hp:=λB bL=>B=.bytes (tj s)/\bL=dY.both (gP i bF cg ab)) aG (λx x x x c=>c.snd) (by rintro B dn e2 _ _ _ _ c;refine cx e2 λx g2=>?_;obtain rfl:=g2;exact c.snd) aK X (cU.Qx<|Mine.af.pQ ay br) ?_ f hw;rintro m o O ax Y a B dn aU h0 P r ah aB d5 fH J ac;refine gc λx dA=>cx h0 λhu iv=>?_;obtain rfl:=hu;obtain rfl:=iv;refine cJ aB λE kD=>?_;obtain rfl:=kD;refine pk ah.snd.1 λq2 h7 q4 nd ti rY rZ gZ=>dA ?_;have dW:(tj s).size=s:=by simp[tj]
 refine Xv gZ (by refine l (k2 ..)<|l dW ?_;exact a' (G1 U<|show s<=7 from ay.elim (λe=>l e aS) λe=>l e aS) aS) λaa b' Q=>⟨f,?_⟩;have bW:cT ab++tj s=cT (ab++dE s 0):=by simp[cT,tj]
 rw[bW]at b';exact eV (U1 (aj:=dY.both<|gP i bF cg ab) (cd:=[]) (ao:=[]) aG b7 ah.fst ah.snd ah (bB bm) Cs aP aP (λb n=>bO n) (λb n=>bO n) r (bM.same (y:=a.toks) Q) b') λdd ee i'=>ac _ _ f i' dd ee
noncomputable def pV(k:ck)(cF:aw)(t:Nat)(aH:aw)(bA aV:List aw)(s:Nat)(R:Nat->Int):Inv where
 W:=aH::aV
 G:=[t]
 St:=λo a=>(∀kX:ch,kX.handled=a7->kX.depth<=1000->kX.units<=6000->iz az k kX cF t aH bA aV s (mu R) 0 a)/\m3 cF aH bA aV/\(∀b∈cF::aH::bA,(b∈aH::aV\/b∉o)/\b<a.heap.objs.size)/\∀b∈aH::aV,1993<=b
 frame:=λo a w cd dc c gz dr iQ=>by exact hG c λag aF bb cn=>⟨λkX fq iy jJ=>(ag kX fq iy jJ).frame aF gz (λb n e=>eU ((bb b e).1) (λG=>(dr b n).2 G) λG=>G (dr b n).1) λe=>iQ t e bm,aF,λb n=>⟨(bb b n).1,cI (bb b n).2 gz.2⟩,cn⟩
 mono:=λo bi a c cA=>by exact hG c λag aF bb cn=>⟨ag,aF,λb n=>⟨(eU ((bb b n).1) (λG=>.inl G) λG=>.inr λe=>(cA b e).elim G λep=>b4 (bb b n).2 ep),(bb b n).2⟩,cn⟩
theorem cU.ahN{cF aH:aw}{e4 s:Nat}{bA aV:List aw}{R:Nat->Int}{M:Str}{pE:Pos}(aG:dg k ap mid y am)(b7:uu C)(Cs:bF∉dY.W)(aiQ:bF∉aH::aV)(fx:∀G∈aH::aV,G∉dY.W)(Mb:e4∉dY.G)(aK:fU C h=A (.f<|.raw<|.ref i))(X:g9 T h=W)(aiR:fU C M=A (.f<|.raw<|.ref cF))(a3:g9 T M=W)(n:∀q,0<=R q/\R q<256)(U:ab.length+s<=2^20)(hw:(lw.endLine==ak.line)=W:=by rfl):cU (aT k ap mid y am) (z+1) u T ((dY.both<|pV k cF e4 aH bA aV s R).both<|gP i bF cg ab) C (.Call (.Attribute (.Name h dO) "extend" lw) [.Name M pE] [] ak) (λB bL=>B=.none/\bL=dY.both (gP i bF cg<|ab++(c9 s).map R)):=by
 refine cU.Su (hp:=λB bL=>B=.raw (.ref cF)/\bL=(dY.both<|pV k cF e4 aH bA aV s R).both (gP i bF cg ab)) aG (λx x x x c=>c.snd) (by rintro B dn lF _ _ _ _ c;refine cx lF λx nV=>?_;obtain rfl:=nV;exact c.snd) aK X (cU.Qx<|Mine.af.raw aiR a3) ?_ f hw;rintro m o O ax Y a B dn aU q0 P r ah aB d5 fH J ac;refine cx q0 λq1 wN=>?_;obtain rfl:=q1;obtain rfl:=wN;refine l aB<|pk ah.snd.1 λq2 h7 q4 nd ti rY rZ gZ=>hG ah.fst.snd.1 λag aF bb cn=>?_;have bp:=fH.2;have d_:=fH.3;have Q:cp=2^24:=f;refine aiv (b:=cT ab) fH.1 (by show d5.depth<1000;exact c' (.t .x<|.n 1000) [.l (.a .x .y)<|.n 900] f bp) aF (ag d5.in1 fH.1 (by show d5.depth<=1000;exact c' (.l .x<|.n 1000) [.l (.a .x .y)<|.n 900] f bp) (by show d5.units+1<=6000;exact c' (.l (.o .x)<|.n 6000) [.l (.a .x<|.m 4 .y)<|.n 5000] f d_)) gZ (λe=>(bb bF e).1.elim aiQ λG=>G (ah.snd.2 bF bm).1) (λb n=>(bb b n).2) n (by refine l (k2 ..) ?_;exact iO [1,1,-1] (.t (.a .x .y) .z) [.l (.a .x .y)<|.n 1048576,.e .z<|.n 16777216] f U Q) λw cc b'=>⟨f,?_⟩;have bW:cT ab++cT ((c9 s).map R)=cT (ab++(c9 s).map R):=by simp[cT]
 rw[bW]at b';obtain⟨dd,ee,i'⟩:=U1 (dY:=dY) (aj:=(dY.both<|pV k cF e4 aH bA aV s R).both<|gP i bF cg ab) (cd:=aH::aV) (ao:=[e4]) aG b7 ah.fst.fst ah.snd ah (bB bm) Cs (λG U=>⟨bO<|bB U,fx G U,cn G U⟩) (λq fy=>l (bc fy)<|⟨bO<|bB bm,Mb⟩) (λb n=>bO<|bO n) (λb n=>bO<|bO n) r cc b';exact ac _ _ f i' dd ee
end
section
variable{k:ck}{ap a:ai}{mid:Nat->Obj}{y:Nat}{am:go}{z:Nat}{u:ch}{m:Env}{o O ax:List aw}{Y:Nat}{T:dp}{C:cm}{dY:Inv}{h:Str}{dO lw ak e:Pos}{aQ:List Bool}{fO:List bH}{K:Nat}{s:Nat}{t:List Int}
noncomputable def tk(aq b dR:Nat)(ab:List Int):bd:=.gf [(aq,jp #[.ref b] dR),(b,cf<|cT ab)]<|.ref aq
theorem cU.ahQ(aG:dg k ap mid y am)(b7:je C)(fx:1940∉dY.W)(ms:∀m o O a,dY.At (aT k ap mid y am) m o O a->K<=a.heap.objs.size)(aX:ha (aT k ap mid y am) (z+2) T C fO [(.b2,.tup<|[((1,s,t):Lay)].map pS),(.b2,.buf<|cT<|f6 aQ)])(hc:rV [(1,s,t)]<|(aQ.length+7)/8)(U:aQ.length<=2^20)(sO:fO.length<20)(X:eE T "make_blocks"=W:=by cbv):cU (aT k ap mid y am) (z+2) u T ((gO 1944 1940).both dY) C (.Call (.Name "make_blocks" e) fO [] ak) (λB bL=>bL=(gO 1944 1940).both dY/\∃aq b dR,K<=b/\B=.tup [tk aq b dR<|he (f7 aQ) 0 s,.lst [fl<|nT t<|he (f7 aQ) 0 s]]):=λm o O ax Y a ar Q P r ah J ac=>by
 have hk:eE m.scope "make_blocks"=W:=Q▸X
 .refine I.bind<|qq (aW:=[]) (ao:=[]) (ix (C:=C) (ik aG) P S6 hk) (tX hk) a _ r λaU an aI lv=>l lv ?_;have cX:=r.grow aI;have eY:=ah.it aI aP aP;refine vy (iR:=[]) (v:=Bs az k.params y) (bh:=wO k.params y) (L:=λE=>bo (aT k ap mid y am) m o O Y C E/\((gO 1944 1940).both dY).At (aT k ap mid y am) m o O E) aX.star sO (λE J r e ac=>aX.q3 ar Q P E J r e.1 ac) ⟨cX,eY⟩ (λE e=>aG.sub e.1.2 _ _ _ (LM ..) f) f (λE eM e t=>⟨e.1.grow t,e.2.it t aP aP⟩) ?_;intro aY al a6 aL;have df:=cX.grow a6;have fK:=eY.it a6 aP aP;refine Uv aG ar P df fK.fst aL hc U λi V ae aq rW wP aN uD wR bT bQ cz Ck aiS aJ bW db zf Cf LR aiU gN Cg Ch=>?_;have nR:=fK.fst.2 1940 bm;have FA:(k7 (f7 aQ)<|hP [(1,s,t)]).2.1=[fl<|he (f7 aQ) 0 s]:=f;have al1:(k7 (f7 aQ)<|hP [(1,s,t)]).2.2=[fl<|nT t<|he (f7 aQ) 0 s]:=f;refine eW (by refine dZ Cf λfC ly cR eD eN=>eW eD λb iv dd ee=>?_;obtain rfl:=iv;exact⟨b,l cR<|l eN f,dd,ee⟩:∃b,rW.toList=[.ref b]/\b∉o/\bT.heap.get? b=A (cf<|cT<|he (f7 aQ) 0 s)) λb U2 q5 q6=>?_;have aiX:rW=#[.ref b]:=by have:=congrArg List.toArray U2;simpa using this
  refine ac (.ref i) bT _ _ o Y ⟨f,aq,b,wP,(a' (a' (a' (ms _ _ _ _ ah.snd) (aI.trans a6).2) aiU)<|LR (.ref b) (U2▸bm) b f),f⟩ ⟨λx c=>c,λx c=>.inl c,λx c=>.inl c,λx c=>.inl c,λx c=>.inl c,?_⟩ P (df.uL b7 (cd:=[1940]) (λG U=>(bc U).symm▸nR.1) (λG U=>bc U▸nR.2.2.1) bQ Ck) (cz.both<|fK.snd.it bQ (λb n=>bc n▸⟨nR.1,fx⟩) aP) ?_
  .exact((aI.trans a6).mono aP aP).trans<|bQ.mono (λb n=>bB<|bO n) aP
  .refine⟨i,V,ae,f,aiS,aJ,(l bW<|(⟨_,_,f,?_,?_⟩))⟩
   .unfold tk;refine⟨f,λe aZ=>?_⟩
    revert e;refine gr ?_ ?_
    .exact⟨db,by refine l zf<|l aiX ?_;rfl⟩
    .intro e aZ;exact l (bc aZ)<|⟨q5,q6⟩
   .exact⟨_,_,f,(⟨aN,uD,wR,f,gN,Cg,Ch⟩),by exact f⟩
noncomputable def Ct(K:Nat):Inv:=⟨[],[],λx a=>K<=a.heap.objs.size,λx x x x x c t x x=>a' c t.2,λx x x c x=>c⟩
noncomputable def w0(aq b dR:Nat)(ab:List Int):Inv where
 W:=[b]
 G:=[]
 St:=λo a=>aq∉o/\1993<=b/\a.heap.get? aq=A (jp #[.ref b] dR)/\a.heap.get? b=A (cf<|cT ab)
 frame:=λo a w cd dc c t dr x=>by exact hG c λag aF bb cn=>⟨ag,aF,t.1 _ _ (λe=>ag (dr _ e).1) bb,t.1 _ _ (λe=>(dr _ e).2 bm) cn⟩
 mono:=λo bi a c cA=>by exact hG c λag aF bb cn=>⟨λe=>(cA _ e).elim ag λG=>b4 (dH bb) G,aF,bb,cn⟩
theorem cU.pop{aq b dR:Nat}{ab:List Int}{B:Int}{i_ iY:Nat}{eQ e' hb hC:Pos}(aG:dg k ap mid y am)(b7:uu C)(Mc:b∉dY.W)(aK:fU C h=A (.f<|.raw<|.ref aq))(X:g9 T h=W)(ay:fJ<|ab++[B])(U:ab.length<=2^20)(hw:(lw.endLine==ak.line)=W:=by rfl):cU (aT k ap mid y am) z u T (dY.both<|w0 aq b dR<|ab++[B]) C (.Call (.Attribute (.Subscript (.Name h dO) (.Constant (.int 0) i_ eQ) e') "pop" lw) [.UnaryOp .USub (.Constant (.int 1) iY hb) hC] [] ak) (λD bL=>D=.int B/\bL=dY.both (w0 aq b dR ab)):=λm o O ax Y a ar Q P r ah J ac=>by
 refine sw f (by show 1<20;decide) f hw ?_;have bJ:gH [] [] o (λE=>bo (aT k ap mid y am) m o O Y C E/\(dY.both<|w0 aq b dR<|ab++[B]).At (aT k ap mid y am) m o O E):=⟨λx x e t=>⟨e.1.grow t,e.2.it t aP aP⟩,λE e h X=>cI (P.8 h X) e.1.1,aP⟩;have ag:co az k u [] [] m (λE=>bo (aT k ap mid y am) m o O Y C E/\(dY.both<|w0 aq b dR<|ab++[B]).At (aT k ap mid y am) m o O E) (.Name h dO) (λE g=>g=.ref aq):=λE J e ac=>(Mine.af.raw (g:=aT k ap mid y am) (z:=z) aK X) u m o O ax Y ar Q P E J e.1 λaU eM t D=>ac aU eM t (by have gw:bV eM.heap o (.raw<|.ref aq) aU:=D;exact gw);refine PA (aA:=[.raw<|.ref b]) (h:=.raw<|.ref b) (p:=0) bJ ag (λx x x c x=>c) (λE g e aO=>?_) DY aS f (by show 1<=cp;decide) f a _ ⟨r,ah⟩ λaU an aI f2=>?_
 .exact hG e.2.snd.1 λx x db x=>⟨aq,_,dR,aO,db,(⟨_,_,f,by exact f,by exact f⟩)⟩
 refine l f2 ?_;have cX:=r.grow aI;have eY:=ah.it aI aP aP;refine I.of<|abX eY.snd.1.2.2.2<|vs (R:=.builtin "bytearray.pop") (iR:=[.ref b]) (aW:=[]) (ao:=[]) (L:=λE=>bo (aT k ap mid y am) m o O Y C E) f f (yv (g:=aT k ap mid y am) f<|fc (Mine.af.neg (g:=aT k ap mid y am) (z:=z) (T:=T) (C:=C) Mine.af.du) ar Q P) cX ?_;rintro aY al a6 fE;refine bl fE λaR gh gV=>cJ gV λE h1=>l gh<|l h1 ?_;have df:=cX.grow a6;have fK:=eY.it a6 aP aP;refine hG fK.snd.1 λdd ee i' qz=>?_;have dW:(cT<|ab++[B]).size=ab.length+1:=by rw[k2];exact io ..
 have dB:cp=2^24:=f;refine W4 qz (dW▸r_ _) (l dW<|a' (GX U 1) aS) λaa b' Q=>?_;have bW:(cT<|ab++[B]).eraseIdxIfInBounds ((cT<|ab++[B]).size-1)=cT ab:=by
  have:(cT<|ab++[B])=(cT ab).push B.toNat.toUInt8:=by simp[cT]
  refine l this ?_;apply Array.ext';simp only[NR,Aa,Nat.add_sub_cancel,ks,dite_true,Array.toList_eraseIdx,Ab];rw[List.eraseIdx_append_of_length_le (by simp)];simp
 have cR:(((cT<|ab++[B])[(cT<|ab++[B]).size-1]'(by exact Nat.sub_lt (dW▸r_ _) aS)).toNat:Int)=B:=by
  have:∀(c:(cT<|ab++[B]).size-1<(cT<|ab++[B]).size),(cT<|ab++[B])[(cT<|ab++[B]).size-1]=B.toNat.toUInt8:=by
   have:(cT<|ab++[B])=(cT ab).push B.toNat.toUInt8:=by simp[cT]
   refine l this ?_;intro c;simp
  rw[this];exact EP<|ay B (by simp)
 replace b':=bW▸b';refine l cR ?_;have bQ:a9 [b] [] al {al with heap:=aa,toks:=al.toks+1}:=bM.same Q;have zk:({al with heap:=aa,toks:=al.toks+1}:ai).heap.get? b=A (cf<|cT ab):=b';generalize({al with heap:=aa,toks:=al.toks+1}:ai)=bT at bQ zk;refine j0 (fK.snd.2 b bm) λFX U3 U4 U5 aiY=>?_;have oi:ap.heap.objs.size<=b:=by
  refine eU (U5) (λe=>?_) λe=>?_
  .exfalso;rcases kE.mp e with e|e<;>(replace ee:=e▸ee;exact absurd ee aS)
  .exact e
 have h3:bo (aT k ap mid y am) m o O Y C bT:=df.DL b7 (λG U=>(bc U).symm▸FX) (λG U=>bc U▸U4) (λG U=>l (bc U) U3) bQ<|df.2.to bQ λG U=>bc U▸oi;have Cd:aq≠b:=λe=>dd<|e▸FX;have ai1:(w0 aq b dR ab).At (aT k ap mid y am) m o O bT:=⟨⟨dd,ee,bQ.1 _ _ (λe=>Cd<|bc e) i',zk⟩,λG U=>(bc U).symm▸⟨FX,U3,U4,U5,cI aiY bQ.2⟩,aP⟩;exact ac _ bT (.int B) _ o Y ⟨f,f⟩ ⟨λx c=>c,λx c=>.inl c,λx c=>.inl c,λx c=>.inl c,λx c=>.inl c,(((aI.trans a6).mono aP aP).trans<|bQ.mono (λG U=>bc U▸bB (bB bm)) aP)⟩ P h3 ((fK.fst.chg bQ FX Mc).both ai1)<|⟨_,f⟩
theorem cU.rshift(aM:cU (aT k ap mid y am) z u T aj C H λB dn=>B=.int i/\dn=bL)(aB:c5 (aT k ap mid y am) z T C D p)(a8:0<=p):cU (aT k ap mid y am) z u T aj C (.BinOp H .RShift D ak) (λB dn=>B=.int (i.fdiv<|2^p.toNat)/\dn=bL):=λm o O ax Y a ar Q P r ah J ac=>by refine I.bind<|aM m o O ax Y a ar Q P r ah _ λaU an B dn cD eb aK c6 fs cX eY f2=>?_;obtain⟨rfl,rfl⟩:=aK;obtain⟨E,rfl⟩:=f2;refine d2<|(fc aB ar Q fs) an _ cX λaU al a6 LQ=>?_;obtain⟨av,rfl⟩:=LQ;refine dQ<|DX<|I.of<|rshift_int a8 ?_;have bQ:a9 [] [] al {al with toks:=al.toks+1}:=bM.tok ..;have pM:=a6.trans bQ;exact ac _ _ (.int<|i.fdiv<|2^p.toNat) _ cD eb ⟨f,f⟩ (c6.trans<|f4.nF pM) fs (cX.grow pM) (eY.it pM aP aP)<|⟨_,f⟩
end
section
section
variable{g:d7}{z:Nat}{T:dp}{C:cm}{m:Env}{o bi O ax:List aw}{Y:Nat}{u:ch}{a:ai}{j:bH}{aj:Inv}
inductive Inv.jv(aj bL:Inv):Prop|mk(fQ:∀g m o O a,aj.At g m o O a->bL.At g m o O a)(fR:∀b∈bL.W,b∈aj.W)(gs:∀b∈bL.G,b∈aj.G):Inv.jv aj bL
theorem Inv.jv.refl(aj:Inv):Inv.jv aj aj:=⟨λx x x x x c=>c,λx c=>c,λx c=>c⟩
theorem cU.conv(ag:Inv.jv aj bL)(c:cU g z u T bL C j hp)(aF:∀B dY,hp B dY->∃w1,wD B w1/\Inv.jv dY w1):cU g z u T aj C j wD:=λm o O ax Y a ar Q P r ah J ac=>by exact c m o O ax Y a ar Q P r (ag.1 _ _ _ _ _ ah) J λaU an B dY cD eb aK c6 fs cX eY D=>bl (aF B dY aK) λw1 ge gK=>ac aU an B w1 cD eb ge ⟨c6.1,c6.2,c6.3,λb n=>(c6.4 b<|gK.2 b n).imp (ag.2 b) id,λb n=>(c6.5 b<|gK.3 b n).imp (ag.3 b) id,c6.6.mono (λb n=>bD n (λe=>bO e) λe=>bB<|ag.2 b e) ag.3⟩ fs cX (gK.1 _ _ _ _ _ eY) D
theorem cU.conv'(ag:Inv.jv aj bL)(aF:Inv.jv dY w1)(c:cU g z u T bL C j λav K=>av=B/\K=dY):cU g z u T aj C j (λav K=>av=B/\K=w1):=cU.conv ag c λ_ _⟨i,b⟩=>(dk w1 ⟨i,f⟩<|b▸aF)
theorem bo.Sz(r:bo g m o O Y C a)(g3:cC<=a.heap.objs.size)(c:∀h bt,fb bP h bt->∃B s6,bt=.f B/\fb C h (.f s6)/\∀aU,bV a.heap o s6 aU->bV a.heap bi B aU):bo g m bi O cC bP a:=by
 refine iL r.3 λcW aE ag aF bb=>⟨g3,r.2,cW,aE,λh bt X=>?_,λh B X=>?_,λh B X=>?_⟩
 .exact dZ (c h bt X) λB s6 bK dd ee=>l bK<|bl (ag _ _ dd) λaU bw D=>⟨aU,bw,ee aU D⟩
 .refine fM (c h _ X) λx x e x=>?_;cases e
 .refine fM (c h _ X) λx x e x=>?_;cases e
theorem ct.add(P:ct g m o O ax Y)(n:b<cC)(g3:Y<=cC)(aG:g.s0.heap.objs.size<=b):ct g m (b::o) O ax cC:=⟨(P.1),(P.2),(P.3),(λi aX=>⟨mt (P.4 i aX).1,(P.4 i aX).2⟩),(λi aX=>⟨mt (P.5 i aX).1,(P.5 i aX).2⟩),(λi aX=>mt<|P.6 i aX),(P.7),(λi aX=>di aX (λe=>e▸n) λe=>cI (P.8 i e) g3),(λi aX=>di aX (λe=>.inr<|e▸aG) λe=>P.9 i e),(P.10)⟩
theorem ct.sub(P:ct g m o O ax Y)(c:∀i∈bi,i∈o)(aJ:∀i∈bY m,i∈bi)(iX:∀i∈O,i∈bi)(aG:∀i∈ax,i∈bi):ct g m bi O ax Y:=⟨(P.1),(P.2),(P.3),(λi aX=>⟨aJ i aX,(P.4 i aX).2⟩),(λi aX=>⟨iX i aX,(P.5 i aX).2⟩),(aG),(P.7),(λi aX=>P.8 i<|c i aX),(λi aX=>P.9 i<|c i aX),(P.10)⟩
mutual/--no bytearray with alu bytes Vw in it -/def U6(M:Array UInt8):bd->Prop|.tup aA=>FY M aA|.lst aA=>FY M aA|.l3 G=>G≠M|.buf G=>G≠M|.gf os _=>∀r∈os,r.2≠cf M|_=>True def FY(M:Array UInt8):List bd->Prop|[]=>True|h::aA=>U6 M h/\FY M aA end
theorem U7(c:cf M=cf G):M=G:=by have:=congrArg Dk c;simpa[cf]using this
mutual theorem bV.tp{c:e0}{b:aw}{M:Array UInt8}(n:c.get? b=A (cf M)):∀(B:bd)(aU:au),U6 M B->bV c o B aU->bV c (b::o) B aU
 |.none,_,_,D=>D|.bool _,_,_,D=>D|.int _,_,_,D=>D|.str _,_,_,D=>D|.raw _,_,_,D=>D|.bytes _,_,_,D=>D|.gf os B,_,ay,D=>by
  refine And.intro D.1 λr a1=>⟨λe=>?_,(D.2 r a1).2⟩;rcases e1.mp e with e|e
  .have j:=(D.2 r a1).2;rw[e,n]at j;exact ay r a1 (fu j).symm
  .exact(D.2 r a1).1 e|.ec ..,_,_,D=>by
  obtain⟨i,z,f0,f1,fT,s,j,aX,aK⟩:=D;refine md i ⟨z,f0,f1,fT,s,j,λe=>?_,aK⟩;rcases e1.mp e with e|e
  .rw[e,n]at aK;exact absurd (congrArg sc<|fu aK)<|show¬(hh "bytearray"=e8 135)by decide
  .exact aX e|.buf G,_,ay,D=>by
  obtain⟨i,z,h,j,aX,aK,bp,ge,br,ib,gg⟩:=D;refine md i ⟨z,h,j,λe=>?_,aK,λe=>?_,ge,λe=>?_,ib,gg⟩
  .rcases e1.mp e with e|e
   .rw[e,n]at aK;exact absurd (congrArg sc<|fu aK)<|show¬(hh "bytearray"=e8 1963)by decide
   .exact aX e
  .rcases e1.mp e with e|e
   .rw[e,n]at ge;exact ay (U7<|fu ge).symm
   .exact bp e
  .rcases e1.mp e with e|e
   .rw[e,n]at ib;exact absurd (congrArg sc<|fu ib)<|show¬(hh "bytearray"=hh "dict")by decide
   .exact br e|.tup aA,_,ay,D=>by
  obtain⟨i,V,s,j,aX,aK,aB⟩:=D;refine md i ⟨V,s,j,λe=>?_,aK,bX.tp n aA V.toList ay aB⟩;rcases e1.mp e with e|e
  .rw[e,n]at aK;exact absurd (congrArg sc<|fu aK)<|show¬(hh "bytearray"=hh "tuple")by decide
  .exact aX e|.lst aA,_,ay,D=>by
  obtain⟨i,V,s,j,aX,aK,aB⟩:=D;refine md i ⟨V,s,j,λe=>?_,aK,bX.tp n aA V.toList ay aB⟩;rcases e1.mp e with e|e
  .rw[e,n]at aK;exact absurd (congrArg sc<|fu aK)<|show¬(hh "bytearray"=hh "list")by decide
  .exact aX e|.l3 G,_,ay,D=>by
  obtain⟨i,j,aX,aK⟩:=D;refine md i ⟨j,λe=>?_,aK⟩;rcases e1.mp e with e|e
  .rw[e,n]at aK;exact ay (U7<|fu aK).symm
  .exact aX e theorem bX.tp{c:e0}{b:aw}{M:Array UInt8}(n:c.get? b=A (cf M)):∀(aA:List bd)(V:List au),FY M aA->bX c o aA V->bX c (b::o) aA V
 |[],_,_,D=>D|h::aA,_,ay,D=>by obtain⟨g,aY,j,eD,eN⟩:=D;exact md g ⟨aY,j,bV.tp n h g ay.1 eD,bX.tp n aA aY ay.2 eN⟩end
end
variable{k:ck}{ap:ai}{mid:Nat->Obj}{y:Nat}{am:go}{z:Nat}{u:ch}{T:dp}{C:cm}{aj a0:Inv}{R aR bv da:aw}{nm:au}{E:Tok}{h:Str}{j H:bH}{hn ak:Pos}{B:Int}{s:Nat}
theorem cU.ahW(aG:dg k ap mid y am)(b7:je C)(cz:bv∉a0.W)(aK:fU C h=A (.f<|rX R aR da nm E))(X:g9 T h=W)(aM:cU (aT k ap mid y am) (z+1) u T aj C H λav dY=>av=.int B/\dY=a0.both (kF aR bv))(br:c5 (aT k ap mid y am) (z+1) T C j s)(U:s<2^62)(U8:dT H=W)(ay:dT j=W):cU (aT k ap mid y am) (z+1) u T aj C (.Call (.Name h hn) [H,j] [] ak) (λav dY=>∃cF aH e4 cl er,av=.raw (.ref cF)/\dY=(a0.both<|kF aR bv).both (pV k cF e4 aH (cl::er) [cl] s<|h8 B s)/\(∀b∈aH::[cl],b∉(a0.both<|kF aR bv).W)/\e4∉(a0.both<|kF aR bv).G):=λm o O ax Y a ar Q P r ah J ac=>by
 have bp:=ar.2
 .refine I.bind<|(af.name (g:=aT k ap mid y am) (z:=z+1) aK X) u m o O ax Y ar Q P a _ r λaU an aI f2=>cx f2 λe2 Cp=>l e2 ?_;have s5:=(Cp (R,o7 aR da nm)<|bm);have U9:=(Cp (da,th E)<|mt bm);have eY:=ah.it aI aP aP;have U_:∀{eM:ai}{cD:List aw}{dn:Inv}{b:aw}{v:Obj},f4 aj m o O cD O dn an eM->b∉o->an.heap.get? b=A v->eM.heap.get? b=A v:=λc6 n j=>c6.6.1 _ _ (λe=>bD e (λe=>bD e (λe=>n (P.5 _ e).1) λe=>n (P.4 _ e).1) λe=>n (eY.2 _ e).1) j;refine LY (iR:=[]) (L:=λav=>av=an) (aW:=O++bY m++aj.W) (ao:=aj.G) (v:=o7 aR da nm) (bh:=zh aR da nm) (aE:=λav aY=>∃nC sV cD eb,aY=[.int B nC,.int s sV]/\f4 aj m o O cD O (a0.both<|kF aR bv) an av/\ct (aT k ap mid y am) m cD O ax eb/\bo (aT k ap mid y am) m cD O eb C av/\(a0.both<|kF aR bv).At (aT k ap mid y am) m cD O av/\av.heap.get? R=A (o7 aR da nm)/\av.heap.get? da=A (th E)) (by simp[ay,U8]) (by show 2<20;decide) ?_ f ?_ f ?_
  .rintro av J ak rfl o2;refine I.eq (by exact l (jA U8)<|l (jA ay)<|l (arm_starEach_nil ..) f) ?_;show I _ _ u (mB [(a2,dF H m),(a2,dF j m)]) J av;refine I.eq (by rw[mB])<|I.bind<|aM m o O ax Y av ar Q P (r.grow aI) eY _ λaU al al2 dn cD eb ag aF bb cn eC gS=>cx ag λg2 h0=>?_;obtain rfl:=g2;obtain rfl:=h0;refine cJ gS λnC hu=>l hu<|fY aS<|ea<|d2<|I.eq (by rw[mB])<|I.bind<|(fc br ar Q bb) al _ cn λaU bT bQ ai2=>?_;refine cJ ai2 λsV iv=>l iv<|fY aS ?_;have c6:=aF.trans<|f4.nF (aj:=a0.both<|kF aR bv) (m:=m) (o:=cD) (O:=O) bQ;exact ea<|d2<|I.pure<|I.pure<|I.pure<|o2 _ _ c6.6 ⟨nC,sV,cD,eb,f,c6,bb,cn.grow bQ,eC.it bQ aP aP,U_ c6 s5.1 s5.2,U_ c6 U9.1 U9.2⟩
  .rintro av aY kD;exact DF kD λnC sV cD eb lF aF bb cn eC gS lJ=>l lF gS
  .rintro aY al a6 nV;refine DF nV λnC sV cD eb q0 c6 fs df fK By ai3=>l q0<|oI fK.snd.1 λLZ L0 Cq nf q1 wN uF=>bl q1 λL1 L2 L3=>cJ wN λcE bI=>?_;have wW:=fK.snd.2 bv<|mt bm;have Cr:ap.heap.objs.size<=bv:=by
    refine eU (wW.2.2.2.1) (λe=>?_) λe=>?_
    .exfalso;rcases kE.mp e with e|e<;>(replace nf:=e▸nf;exact absurd nf aS)
    .exact e
   refine QQ (g:=aT k ap mid y am) (bf:={u with depth:=1000,units:=6000}) (s:=s) (BS aG) ar (UR aG df.2 By uF) f f f f bI (λe=>b4 (ls.mp e).1 Cr) fs df (ah7 ai3 (.int B nC)<|.int s sV) U wi S3 ar.1 λi aH t cl er j' ec bT bW cR f3 jL sN v1 rD qJ bQ pC ka ia wA kS=>?_;have hK:∀b∈cD,b<al.heap.objs.size:=λb n=>cI (fs.8 b n) df.1;have gW:ap.heap.objs.size<=al.heap.objs.size:=df.2.1.2;have dx:∀b∈[aH,cl],al.heap.objs.size<=b/\b<bT.heap.objs.size:=λb n=>by
    revert b;refine gr ?_ ?_
    .exact⟨cR,sN⟩
    .intro b n;rw[bc n];exact⟨f3,v1⟩
   have i1:ct (aT k ap mid y am) m ([aH,cl]++cD) O ax bT.heap.objs.size:=(fs.up (cC:=al.heap.objs.size) df.1).n7 dx gW bQ.2;have ai4:∀b∈(a0.both<|kF aR bv).W,b<al.heap.objs.size:=λb n=>(fK.2 b n).2.2.2.2;have wX:=fK.wide (bi:=[aH,cl]++cD) (λb n=>bB n) λb n=>bD n (λe=>.inr (dx b e).1) .inl;refine oI wX.snd.1 λL4 L5 x x x x x=>?_;have L6:1892≠bv:=λe=>absurd (e▸nf) aS;have L7:1894≠bv:=λe=>absurd (e▸nf) aS;have ai5:(a0.both<|kF aR bv).At (aT k ap mid y am) m ([aH,cl]++cD) O bT:=by
    refine(wX.fst.it bQ (λb n=>bc n▸⟨bB wW.1,cz⟩) aP).both ⟨⟨L4,L5,Cq,nf,⟨L1,L2.kept λb n v j=>bQ.1 b v (λc0=>?_) j,L3⟩,⟨j',pC⟩,?_⟩,λb n=>?_,aP⟩
    .rcases n with rfl|rfl
     .exact L7<|bc c0
     .exact L6<|bc c0
    .refine Aj uF λe v V AI eD eN oW=>?_;cases eD;exact⟨aR,v,V,AI,f,bQ.1 _ _ (λc0=>bI.ne<|bc c0) eN,oW⟩
    .exact j0 (wX.snd.2 b n) λdJ dU dN eK f_=>⟨dJ,dU,dN,eK,cI f_ bQ.2⟩
   have ai6:(pV k i t aH (cl::er) [cl] s<|h8 B s).At (aT k ap mid y am) m ([aH,cl]++cD) O bT:=by
    refine⟨⟨λkX fq iy jJ=>kS kX fq iy jJ,ia,λb n=>?_,λb n=>a' (a' aG.2 gW) (dx b n).1⟩,λb n=>?_,λq ah=>?_⟩
    .by_cases aZ:b∈[aH,cl]
     .exact⟨.inl aZ,(dx b aZ).2⟩
     .rcases e1.mp n with rfl|n
      .exact⟨.inr λe=>bD e aZ λe=>b4 (hK _ e) bW,jL⟩
      rcases e1.mp n with rfl|n
      .exact absurd bm aZ
      rcases e1.mp n with rfl|n
      .exact absurd (mt bm) aZ
      .exact cx (wA b n) λkO h'=>⟨.inr λe=>bD e aZ λe=>eU (kO) (λG=>(fs.9 _ e).elim (ls.mp G).2 λep=>b4 (ls.mp G).1 ep) λG=>b4 (hK _ e) G,h'⟩
    .exact⟨bO n,λe=>b4 (hK b (fs.5 b e).1) (dx b n).1,λe=>b4 (hK b (fs.4 b e).1) (dx b n).1,.inr<|a' gW (dx b n).1,(dx b n).2⟩
    .exact l (bc ah)<|⟨a' df.2.1.4 rD,qJ⟩
   exact ac (.ref i) bT (.raw<|.ref i) _ _ _ ⟨i,aH,t,cl,er,f,f,λb n e=>b4 (ai4 b e) (dx b n).1,λe=>b4 (fK.3 t e).2 rD⟩ (((f4.nF aI).trans c6).trans ⟨λb n=>bB n,λb n=>bD n (λe=>.inr (dx b e).1) .inl,λx c=>.inl c,λb n=>bD n .inl λe=>.inr (dx b e).1,λq ah=>bD ah .inl λe=>.inr<|bc e▸rD,(bQ.mono (λb n=>bc n▸bB (bB<|mt bm)) aP)⟩) i1 (df.w9 b7 (λG U=>(bc U).symm▸wW.1) (λG U=>bc U▸wW.2.2.1) bQ (df.2.to bQ λG U=>bc U▸Cr) λb n=>(dx b n).1) (ai5.both ai6)<|f
end
section
theorem ei.ah2(c:af g z T C H .b2 .none)(bw:tZ .IsNot<|.Constant .none aC bR):ei g z T C (.Compare H [.IsNot] [.Constant .none aC bR] ak) a2:=λu m o O ax Y ar Q P=>vq (jz:=λa g=>g=.none) (nE:=λa g=>g=.none) P.ok (λa J r ac=>c u m o O ax Y ar Q P a J r λaU w t D=>ac aU w t<|D) (λx x x c x=>c) (Ie.to λx x c=>c) (λa fC gJ x ag aF=>by subst ag aF;exact gI.now (λJ aZ=>nW (rfl:ts .IsNot .none .none=dC (.bool a2)) aZ) f)<|bw m
theorem ei.ah3(c:af g z T C H .b2<|.raw<|.ref i)(bw:tZ .IsNot<|.Constant .none aC bR):ei g z T C (.Compare H [.IsNot] [.Constant .none aC bR] ak) W:=λu m o O ax Y ar Q P=>vq (jz:=λa g=>g=.ref i) (nE:=λa g=>g=.none) P.ok (λa J r ac=>c u m o O ax Y ar Q P a J r λaU w t D=>ac aU w t<|D) (λx x x c x=>c) (Ie.to λx x c=>c) (λa fC gJ x ag aF=>by subst ag aF;exact gI.now (λJ aZ=>nW (rfl:ts .IsNot (.ref i) .none=dC (.bool W)) aZ) f)<|bw m
end
theorem gt.ints:∀H:List<|Int×Nat×Pos,gt g z T C (H.map λr=>.Constant (.int r.1) r.2.1 r.2.2) ((H.map (·.1)).map bd.int)|[]=>trivial|_::H=>⟨f,af.du,gt.ints H⟩
theorem ei.J2(H:List<|Int×Nat×Pos)(aL:c5 g z T C j B)(aM:H.length<=cp)(br:as=H.map λr=>.Constant (.int r.1) r.2.1 r.2.2):ei g z T C (.Compare j [.In] [.Tuple as s hb] ak) ((H.map (·.1)).any (·==B)):=by exact l br<|ei.FR aL (af.tuple (gt.ints H) (by simpa using aM)) λx=>f
noncomputable def cO(q:Nat):Stmt:=((gC<|cH az 17)[q]?).getD<|.Pass default
theorem ai7:gC (cH az 17)=[cO 0,cO 1,cO 2,cO 3,cO 4,cO 5,cO 6,cO 7,cO 8,cO 9,cO 10,cO 11,cO 12,cO 13]:=by cbv
inductive oy(aQ:List<|List Int):Prop|mk(fQ:∀b∈aQ,fJ b/\b.length<=1000)(fR:0<aQ.length)(gs:aQ.length<=100):oy aQ
theorem U'(B:Int)(s q:Nat):0<=h8 B s q/\h8 B s q<2:=by unfold h8;exact l (bitAnd_m1 ..)<|⟨gd (.cz (.n 0) .x) [.cz (.n 0) .x] f<|WO _ 1,gd (.cg .x<|.n 2) [.cg .x<|.n 2] f<|WP _ 1⟩
theorem Va(aQ:List<|List Int):fJ (i3 aQ):=λh X=>by
 refine bl (He.mp X) λp x X=>bl (He.mp X) λb x X=>?_;split at X
 .refine j2 X λq x bK=>l bK ?_;have:=U' (b.getD p 0) 8 q;exact⟨HP (.cz (.n 0) .x) [.eK .y .x,.cz (.n 0) .y] f bK this.1,WJ [1,-1,1] (.cg .x<|.n 256) [.eK .y .x,.cg .y<|.n 2] f bK this.2⟩
 .exact dI X
theorem Md{bk d0:Type}{R:bk->List d0}{s:Nat}:∀{H:List bk},(∀i∈H,(R i).length<=s)->(H.flatMap R).length<=H.length*s|[],bC=>hf _|i::H,c=>by refine l tE<|l io<|l jX<|l (G3 ..) ?_;exact(tz ..).symm▸G1 (Md (H:=H) λb n=>c b<|mt n) (c i bm)
theorem oy.SK{aQ:List<|List Int}(c:oy aQ):(i3 aQ).length<=800000:=by
 have nM:uG (aQ.map λb=>(b.length:Int))∈aQ.map λb=>(b.length:Int):=L' (by simpa using c.2);refine j2 nM λb n j=>?_;have eX:=(c.1 b n).2;refine a' (Md (s:=100*8) λp x=>a' (Md (s:=8) λb x=>?_)<|G2 _ c.3) ?_
 .split<;>simp
 .exact l pg<|c2 j<|l (mC ..)<|G2 _ eX
noncomputable def uH(bj:Int):Nat:=if([2,3,4,5,6].any (·==bj))=W then 7 else 0
@[reducible]noncomputable def eZ(aR bv:aw):Inv:=(gO 1944 1940).both<|kF aR bv
noncomputable def Vb(bj:Int)(R aR da:aw)(nm:au)(E:Tok)(i:aw)(as:List<|List Int):cm:=[("version",.f<|.int bj),("to_binary",.f<|rX R aR da nm E),("res",.f<|.raw<|.ref i),("error_blocks",.f<|.lst<|as.map fl)]
theorem FZ{a0 bf ba:Inv}:Inv.jv ((a0.both ba).both bf) ((a0.both bf).both ba):=⟨λx x x x x c=>c.swap,λx c=>aia c,λx c=>aib c⟩
theorem Vc(aG:dg k ap mid y am){s:Nat}(ay:s=0\/s=7)(ox:bF∉(eZ aR bv).W)(U:ab.length<=2^20){C:cm}(b7:gM (("remainder",.f<|.int s)::Vb bj R aR da nm E i as) C):b3 (aT k ap mid y am) (z+1) u lG ((eZ aR bv).both<|gP i bF cg ab) C [cO 12] (λcN bP bL=>cN=.next/\fU bP "res"=A (.f<|.raw<|.ref i)/\bL=(eZ aR bv).both (gP i bF cg<|ab++dE s 0)):=by
 refine b3.le b7 ?_;conv=>arg 7;arg 1;whnf
 exact b3.xB (cU.ahM (s:=s) aG (wz f) ox f (by cbv) ay aE.nm U) f<|qk<|⟨f,b3.nil ⟨f,f,f⟩⟩
theorem Vd(aG:dg k ap mid y am)(aL:-3<=bj/\bj<=7)(bJ:1993<=bv)(bp:bF≠1940/\bF≠1892/\bF≠bv)(hc:oy as)(U:ab.length<=200000)(b7:gM (Vb bj R aR da nm E i as) C):b3 (aT k ap mid y am) (z+1) u lG ((eZ aR bv).both<|gP i bF cg ab) C [cO 9,cO 10,cO 11,cO 12] (λcN bP bL=>cN=.next/\fU bP "res"=A (.f<|.raw<|.ref i)/\bL=(eZ aR bv).both (gP i bF cg<|ab++i3 as++dE (uH bj) 0)):=by
 have cK:=us aG;have aO:=ik aG;have cr:=hc.SK;have ox:bF∉(eZ aR bv).W:=λe=>bD e (λe=>bp.1<|bc e) λe=>di e (λe=>bp.2.1 e) λe=>bp.2.2<|bc e;refine b3.le b7 ?_;conv=>arg 7;arg 1;whnf
 refine b3.xB (cU.Sf (aj:=eZ aR bv) (eA:=i3 as) aG (wz f) ox f (by cbv) (cU.conv' FZ FZ<|cU.bits (a0:=(gO 1944 1940).both<|gP i bF cg ab) (aQ:=as) (R:=R) (aR:=aR) (bv:=bv) (da:=da) (nm:=nm) (E:=E) aG (rR f) (λe=>?_) hc.1 hc.2 hc.3 f (by cbv) (by cbv) (by cbv) (by cbv) (by cbv) (by cbv) (by cbv) (by cbv) (by cbv) (by cbv) (by cbv) (by cbv) (by cbv) (by cbv) (by cbv) (by cbv)) (Va as)<|iO [1,1,-1,1] (.t (.a .x .y) .z) [.l .x<|.n 200000,.e .z<|.n 16777216,.l .y<|.n 800000] f U f cr) f ?_
 .refine di e (λe=>?_) λe=>?_
  .rw[e]at bJ;exact absurd bJ aS
  .exact bp.2.2 (bc e).symm
 refine qk<|⟨f,?_⟩;have cP:(ab++i3 as).length<=2^20:=l io<|c' (.l (.a .x .y)<|.n 1048576) [.l .x<|.n 200000,.l .y<|.n 800000] f U cr;generalize ab++i3 as=eA at cP;conv=>arg 7;arg 1;whnf
 refine b3.mM<|bE.assign (B:=.int 0) af.du (by cbv)<|bE.nil ?_
 dsimp only;conv=>arg 7;arg 1;whnf
 refine b3.n8 (b:=([2,3,4,5,6]:List Int).any (·==bj)) (ei.J2 [(2,_,_),(3,_,_),(4,_,_),(5,_,_),(6,_,_)] aE.nm (by show 5<=cp;decide) f) ?_;unfold uH;cases n:([2,3,4,5,6]:List Int).any (·==bj)with|true=>exact b3.mM<|bE.assign (B:=.int 7) af.du (by cbv)<|bE.nil<|b3.nil<|Vc (s:=7) aG (.inr f) ox cP<|iZ f|false=>exact b3.n8 (b:=a2) (ei.cast (ei.J2 [(14,_,_),(15,_,_),(16,_,_),(17,_,_),(18,_,_),(19,_,_),(20,_,_),(28,_,_),(29,_,_),(30,_,_),(31,_,_),(32,_,_),(33,_,_),(34,_,_)] aE.nm (by show 14<=cp;decide) f) (by simp;exact⟨gd (.fU (.n 14) .x) [.cz .x<|.n 7] f aL.2,⟨gd (.fU (.n 15) .x) [.cz .x<|.n 7] f aL.2,⟨gd (.fU (.n 16) .x) [.cz .x<|.n 7] f aL.2,⟨gd (.fU (.n 17) .x) [.cz .x<|.n 7] f aL.2,⟨gd (.fU (.n 18) .x) [.cz .x<|.n 7] f aL.2,⟨gd (.fU (.n 19) .x) [.cz .x<|.n 7] f aL.2,⟨gd (.fU (.n 20) .x) [.cz .x<|.n 7] f aL.2,⟨gd (.fU (.n 28) .x) [.cz .x<|.n 7] f aL.2,⟨gd (.fU (.n 29) .x) [.cz .x<|.n 7] f aL.2,⟨gd (.fU (.n 30) .x) [.cz .x<|.n 7] f aL.2,⟨gd (.fU (.n 31) .x) [.cz .x<|.n 7] f aL.2,⟨gd (.fU (.n 32) .x) [.cz .x<|.n 7] f aL.2,⟨gd (.fU (.n 33) .x) [.cz .x<|.n 7] f aL.2,gd (.fU (.n 34) .x) [.cz .x<|.n 7] f aL.2⟩⟩⟩⟩⟩⟩⟩⟩⟩⟩⟩⟩⟩))<|b3.n8 (b:=a2) (ei.cast (ei.J2 [(21,_,_),(22,_,_),(23,_,_),(24,_,_),(25,_,_),(26,_,_),(27,_,_)] aE.nm (by show 7<=cp;decide) f) (by simp;exact⟨gd (.fU (.n 21) .x) [.cz .x<|.n 7] f aL.2,⟨gd (.fU (.n 22) .x) [.cz .x<|.n 7] f aL.2,⟨gd (.fU (.n 23) .x) [.cz .x<|.n 7] f aL.2,⟨gd (.fU (.n 24) .x) [.cz .x<|.n 7] f aL.2,⟨gd (.fU (.n 25) .x) [.cz .x<|.n 7] f aL.2,⟨gd (.fU (.n 26) .x) [.cz .x<|.n 7] f aL.2,gd (.fU (.n 27) .x) [.cz .x<|.n 7] f aL.2⟩⟩⟩⟩⟩⟩))<|b3.nil<|b3.nil<|b3.nil<|Vc (s:=0) aG (.inl f) ox cP<|iZ f
section
variable{k:ck}{ap:ai}{mid:Nat->Obj}{y:Nat}{am:go}{z:Nat}{T:dp}{C:cm}{E:Tok}{ak:Pos}
theorem af.ah5(aG:dg k ap mid y am)(X:eE T "VERSION_M1"=W:=by cbv):af (aT k ap mid y am) z T C (.Name "VERSION_M1" ak) .b2 (.int<|-3):=by exact cJ (aeW (k:=k) (ap:=ap) (mid:=mid) (y:=y) (am:=am)) λE c=>af.glob (ik aG) c (⟨E,f⟩) X
theorem af.ah6(aG:dg k ap mid y am)(X:eE T "VERSION_M3"=W:=by cbv):af (aT k ap mid y am) z T C (.Name "VERSION_M3" ak) .b2 (.int<|-1):=by exact cJ (aeX (k:=k) (ap:=ap) (mid:=mid) (y:=y) (am:=am)) λE c=>af.glob (ik aG) c (⟨E,f⟩) X
theorem ei.half(aG:dg k ap mid y am)(aL:af (aT k ap mid y am) z lG C (.Name "version" hC) .b2<|.int bj):ei (aT k ap mid y am) z lG C (.Compare (.Name "version" hC) [.In] [.Tuple [.Name "VERSION_M1" eQ,.Name "VERSION_M3" e'] s hb] ak) (([-3,-1]:List Int).any (·==bj)):=ei.FR (ab:=[-3,-1]) aL (af.tuple (gt.hQ (af.ah5 aG)<|gt.hQ (af.ah6 aG) gt.nl) (by show 2<=cp;decide)) λx=>f
noncomputable def pW(bj:Int)(R aR da:aw)(nm:au)(E:Tok)(UL:bd)(as:List Int):cm:=[("version",.f<|.int bj),("to_binary",.f<|rX R aR da nm E),("data_blocks",.f UL),("error_blocks",.f<|.lst [fl as])]
end
@[reducible]noncomputable def o8(aR bv aq b dR:Nat)(ab:List Int):Inv:=((gO 1944 1940).both<|w0 aq b dR ab).both<|kF aR bv
theorem ai8(aG:dg k ap mid y am)(aL:([-3,-1]:List Int).any (·==bj)=W)(bJ:1993<=bv)(n:b≠1940/\b≠1892/\b≠bv)(ay:fJ<|ab++[B])(U:ab.length<=2^20):b3 (aT k ap mid y am) (z+1) u lG (o8 aR bv aq b dR<|ab++[B]) (pW bj R aR da nm E (.raw<|.ref aq) as) [cO 5] (λcN bP bL=>cN=.next/\∃cF aH e4 cl er,bL=(o8 aR bv aq b dR ab).both (pV k cF e4 aH (cl::er) [cl] 4<|h8 (B.fdiv 16) 4)/\(∀G∈aH::[cl],G∉(o8 aR bv aq b dR ab).W)/\e4∉(o8 aR bv aq b dR ab).G/\bP=(("cw_four":Str),Slot.f<|.raw<|.ref cF)::pW bj R aR da nm E (.raw<|.ref aq) as):=by
 conv=>arg 7;whnf
 refine b3.n8 (b:=W) (ei.cast (ei.half (C:=pW bj R aR da nm E (.raw<|.ref aq) as) aG aE.nm) aL) ?_;have Mc:b∉(eZ aR bv).W:=λe=>bD e (λe=>n.1<|bc e) λe=>di e (λe=>n.2.1 e) λe=>n.2.2<|bc e;refine b3.rQ (cU.ahW (a0:=(gO 1944 1940).both<|w0 aq b dR ab) (B:=B.fdiv 16) (s:=4) aG (rR f) (λe=>?_) f (by cbv) (cU.conv' FZ FZ<|cU.rshift (i:=B) (p:=4) (cU.pop (dY:=eZ aR bv) (aq:=aq) (b:=b) (dR:=dR) (ab:=ab) (B:=B) aG (wz f) Mc f (by cbv) ay U) af.du aS) af.du aS f f) (by cbv) ?_
 .refine bD e (λe=>?_) λe=>?_
  .rw[bc e]at bJ;exact absurd bJ aS
  .exact n.2.2 (bc e).symm
 rintro av af b8;exact HF b8 λcF aH e4 cl er dm dX ag aF=>l dm<|l dX<|b3.nil<|b3.nil ⟨f,(WA cF aH e4 cl er f ag aF f)⟩
def ng(c:e0)(o bi:List aw)(C bP:cm):Prop:=∀h bt,fb bP h bt->∃B s6,bt=.f B/\fb C h (.f s6)/\∀aU,bV c o s6 aU->bV c bi B aU
theorem ng.nil:ng c o bi [] []:=λx x e=>nomatch e
theorem ng.cons(p:∀aU,bV c o av aU->bV c bi B aU)(D:ng c o bi C bP):ng c o bi ((h,.f av)::C) ((h,.f B)::bP):=λM bt e=>by
 rcases iW e with⟨rfl,rfl⟩|⟨s,e⟩
 .exact⟨B,av,f,.here,p⟩
 .exact dZ (D M bt e) λB s6 j dd ee=>⟨B,s6,j,.there (beq_false_of_ne<|ip s) dd,ee⟩
theorem Ve(c:v.cls=.type a0)(cz:a0≠"bytearray"):v≠cf M:=λe=>by replace c:=e▸c;have:(hh "bytearray")=.type a0:=c;cases this;exact cz f
theorem ai9(r:bo g m o O Y (pW bj R aR da nm E (tk aq b dR ab) as) a):aq∉o/\a.heap.get? aq=A (jp #[.ref b] dR)/\b∉o/\a.heap.get? b=A (cf<|cT ab):=r.3.elim λx aE=>(aE.2.1 "data_blocks" (.f<|tk aq b dR ab)<|mW f).elim λaU e=>have D:bV a.heap o (tk aq b dR ab) aU:=e.2
  have eD:=D.2 (aq,jp #[.ref b] dR) bm
  have eN:=D.2 (b,cf<|cT ab)<|mt bm
  ⟨eD.1,eD.2,eN.1,eN.2⟩
theorem ai_(r:bo g m o O Y (pW bj R aR da nm E (tk aq b dR ab) as) a)(q6:a.heap.get? b=A (cf<|cT ab))(hc:as.length≠ab.length):bo g m (b::o) O a.heap.objs.size (pW bj R aR da nm E (.raw<|.ref aq) as) a:=r.Sz (dD _)<|ng.cons (λx D=>bV.tp q6 _ _ trivial D)<|ng.cons (λx D=>bV.tp q6 _ _ (h' (Ve (a0:="function") f aS)<|Ve (a0:="tuple") f aS) D)<|ng.cons (λx D=>D.1)<|ng.cons (λx D=>bV.tp q6 _ _ ⟨λe=>hc (by have:=congrArg Array.size e;rwa[k2,k2]at this),trivial⟩ D) ng.nil
theorem ai'(m7:∀G∈(eZ aR bv).W,G∈o)(P:ct (aT k ap mid y am) m o O ax Y)(q5:b∉o)(g2:ub (aT k ap mid y am) (o8 aR bv aq b dR<|ab++[B]) m (b::o) O ax (λcN bP bL=>cN=.next/\∃cF aH e4 cl er,bL=(o8 aR bv aq b dR ab).both (pV k cF e4 aH (cl::er) [cl] 4<|h8 (B.fdiv 16) 4)/\(∀G∈aH::[cl],G∉(o8 aR bv aq b dR ab).W)/\e4∉(o8 aR bv aq b dR ab).G/\bP=(("cw_four":Str),Slot.f<|.raw<|.ref cF)::pW bj R aR da nm E (.raw<|.ref aq) as) a cN w):cN=.next/\∃bi cw cC cF aH e4 cl er,(∀G∈o,G∈bi)/\(∀G∈bi,G∈o\/a.heap.objs.size<=G)/\(∀G∈cw,G∈O\/a.heap.objs.size<=G)/\(∀G∈aH::[cl],a.heap.objs.size<=G)/\a.gens.size<=e4/\a9 (b::(O++bY m++(eZ aR bv).W)) [] a w/\ct (aT k ap mid y am) m bi cw ax cC/\bo (aT k ap mid y am) m bi cw cC ((("cw_four":Str),Slot.f<|.raw<|.ref cF)::pW bj R aR da nm E (.lst [fl ab]) as) w/\((eZ aR bv).both<|pV k cF e4 aH (cl::er) [cl] 4<|h8 (B.fdiv 16) 4).At (aT k ap mid y am) m bi cw w:=by
 refine gc λx dA=>g2.gi λw2 bP m1 sJ ua Vf h0 zk c6 hu kg=>cx h0 λiv kD=>?_;obtain rfl:=iv;refine HF kD λcF aH e4 cl er lF rT zl nV=>?_;obtain rfl:=lF;obtain rfl:=nV;obtain⟨rfl,i1,h3⟩:=hu;have aja:∀G∈(o8 aR bv aq b dR<|ab++[B]).W,G=b\/G∈(eZ aR bv).W:=λG U=>bD U (λe=>bD e (λe=>.inr<|bO e) λe=>.inl<|bc e) λe=>.inr<|bB e;have Vg:b∈(o8 aR bv aq b dR ab).W:=bO<|bB bm;have ajb:∀G∈aH::[cl],a.heap.objs.size<=G:=λG U=>eU (c6.4 G<|bB U) (λe=>absurd (show G∈(o8 aR bv aq b dR ab).W from e)<|rT G U) λe=>e;refine hG kg.fst.fst.snd.1 λajc x ajd aje=>dA ?_;have Cu:∀G∈m1,G≠b->G∈m1.filter λG=>!(G==b):=λG U c_=>tB.mpr ⟨U,by simpa using c_⟩;have uI:∀G∈m1.filter λG=>!(G==b),G∈m1:=λG U=>(tB.mp U).1;have Vh:b∉m1.filter λG=>!(G==b):=λe=>by have:=(tB.mp e).2;simp at this
 have ajf:∀G∈o,G≠b:=λG U e=>q5<|e▸U;refine⟨f,m1.filter λG=>!(G==b),sJ,ua,cF,aH,e4,cl,er,λG U=>Cu G (c6.1 G<|mt U)<|ajf G U,λG U=>?_,c6.3,ajb,(eU (c6.5 e4<|bB bm) (λe=>absurd (show e4∈(o8 aR bv aq b dR ab).G from e) zl) λe=>e),?_,?_,?_,?_⟩
 .exact eU (c6.2 G<|uI G U) (λe=>di e (λe=>absurd (e▸U) Vh) λe=>.inl e) λe=>.inr e
 .exact c6.6.mono (λG U=>bD U (λe=>mt<|bO e) λe=>eU (aja G e) (λe=>e▸bm) λe=>mt<|bB e) λx e=>e
 .exact i1.sub uI (λG U=>Cu G (i1.4 G U).1 λe=>q5<|e▸(P.4 _ U).1) (λG U=>Cu G (i1.5 G U).1 λe=>(kg.2 b<|bO Vg).2.1<|e▸U) λG U=>Cu G (i1.6 G U) λe=>q5<|P.6 _<|e▸U
 .exact h3.Sz h3.1<|ng.cons (λx D=>bV.sub D uI)<|ng.cons (λx D=>bV.sub D uI)<|ng.cons (λx D=>bV.sub D uI)<|ng.cons (λaU D=>⟨aq,#[.ref b],dR,D,λe=>ajc<|uI _ e,ajd,_,_,f,⟨b,f,Vh,aje⟩,f⟩)<|ng.cons (λx D=>bV.sub D uI) ng.nil
 .have cn:((eZ aR bv).both<|pV k cF e4 aH (cl::er) [cl] 4<|h8 (B.fdiv 16) 4).At (aT k ap mid y am) m m1 sJ w:=(kg.fst.fst.fst.both kg.fst.snd).both kg.snd;refine⟨Inv.mono _ _ _ _ cn.1 λG U=>.inl<|uI G U,λG U=>cx (cn.2 G U) λdJ dU=>⟨Cu G dJ λe=>?_,dU⟩,cn.3⟩;subst e;exact bD U (λe=>q5<|m7 _ e) λe=>rT _ e Vg
theorem ajg(aG:dg k ap mid y am)(aL:([-3,-1]:List Int).any (·==bj)=W)(ar:eJ (z+1) u)(Q:m.scope=lG)(P:ct (aT k ap mid y am) m o O ax Y)(ay:fJ<|ab++[B])(U:ab.length<=2^20)(hc:as.length≠ab.length+1)(oi:ap.heap.objs.size<=b)(r:bo (aT k ap mid y am) m o O Y (pW bj R aR da nm E (tk aq b dR<|ab++[B]) as) a)(ah:(eZ aR bv).At (aT k ap mid y am) m o O a):I az k u (dG [cO 5] m) (λcN w=>cN=.next/\∃bi cw cC cF aH e4 cl er,(∀G∈o,G∈bi)/\(∀G∈bi,G∈o\/a.heap.objs.size<=G)/\(∀G∈cw,G∈O\/a.heap.objs.size<=G)/\(∀G∈aH::[cl],a.heap.objs.size<=G)/\a.gens.size<=e4/\a9 (b::(O++bY m++(eZ aR bv).W)) [] a w/\ct (aT k ap mid y am) m bi cw ax cC/\bo (aT k ap mid y am) m bi cw cC ((("cw_four":Str),Slot.f<|.raw<|.ref cF)::pW bj R aR da nm E (.lst [fl ab]) as) w/\((eZ aR bv).both<|pV k cF e4 aH (cl::er) [cl] 4<|h8 (B.fdiv 16) 4).At (aT k ap mid y am) m bi cw w) a:=by
 refine gc λx dA=>hG (ai9 r) λsH Me q5 q6=>?_;have rl:b<a.heap.objs.size:=dH q6;have Cd:aq≠b:=λe=>by rw[e,q6]at Me;exact absurd (congrArg sc<|fu Me)<|show¬(hh "bytearray"=hh "list")by decide
 have pX:1993<=b:=a' aG.2 oi;refine cx ah.fst.1 λBW e2=>cJ e2 λcE ka=>oI (id ah.snd.1) λLZ L0 Cq nf iX cz uF=>dA ?_;have m7:∀G∈(eZ aR bv).W,G∈o:=λG U=>(ah.2 G U).1;have ajh:b≠bv:=λe=>q5<|e▸m7 bv (bB<|mt bm);have aji:b∉O:=λe=>q5 (P.5 _ e).1;have Fs:b∉bY m:=λe=>q5 (P.4 _ e).1;have Vi:∀G∈(eZ aR bv).W,G∈b::o/\G∉O/\G∉bY m/\(G∈(aT k ap mid y am).tabs\/ap.heap.objs.size<=G)/\G<a.heap.objs.size:=λG U=>let⟨dJ,dU⟩:=ah.2 G U;⟨mt dJ,dU⟩;have ajj:(1944:Nat)≠b:=λe=>by replace pX:=e▸pX;exact absurd pX aS
 have ajk:(1894:Nat)≠b:=λe=>by rw[<-e]at pX;exact absurd pX aS
 have ajl:aR≠b:=λe=>by refine gc λx dA=>Aj uF λc0 v V AI bW cR f3=>?_;cases bW;refine dA ?_;rw[e,q6]at cR;have:=f3.1;replace this:=(fu cR)▸this;trivial
 have Bl:(o8 aR bv aq b dR<|ab++[B]).At (aT k ap mid y am) m (b::o) O a:=by
  refine(Inv.At.both (Inv.At.both ⟨⟨λe=>?_,cE,ka⟩,λG U=>Vi G<|bO U,aP⟩ ⟨⟨λe=>?_,pX,Me,q6⟩,λG U=>?_,aP⟩) ⟨⟨λe=>?_,λe=>?_,Cq,nf,iX,cz,uF⟩,λG U=>Vi G<|bB U,aP⟩)
  .exact di e ajj BW
  .exact di e Cd sH
  .exact l (bc U)<|⟨bm,aji,Fs,.inr oi,rl⟩
  .exact di e ajk LZ
  .exact di e ajl L0
 exact I.mono (ai8 (z:=z) aG aL nf ⟨λe=>by replace pX:=e▸pX;exact absurd pX aS,λe=>by replace pX:=e▸pX;exact absurd pX aS,ajh⟩ ay U m (b::o) O ax _ a ar Q (P.add rl r.1 oi) (ai_ r q6<|l io hc) Bl) λcN w e=>ai' m7 P q5 e
noncomputable def F0(bj:Int)(R aR da:aw)(nm:au)(E:Tok)(Cv:bd)(hO as:List<|List Int):cm:=[("version",.f<|.int bj),("to_binary",.f<|rX R aR da nm E),("cw_four",.f Cv),("data_blocks",.f<|.lst<|hO.map fl),("error_blocks",.f<|.lst<|as.map fl)]
theorem Vj(aG:dg k ap mid y am)(bJ:1993<=bv)(ajm:bv∉aj.W)(nU:oy hO)(c:∀i bF cg,bF∉((eZ aR bv).both aj).W->b3 (aT k ap mid y am) (z+2) u lG (((eZ aR bv).both aj).both<|gP i bF cg<|i3 hO) (("res",.f<|.raw<|.ref i)::F0 bj R aR da nm E Cv hO as) b_ cv)(b7:gM (F0 bj R aR da nm E Cv hO as) C):b3 (aT k ap mid y am) (z+2) u lG ((eZ aR bv).both aj) C (cO 6::cO 7::b_) cv:=by
 refine b3.le b7 ?_;conv=>arg 7;arg 1;whnf
 refine b3.rQ (cU.JH (z:=z) aG<|rR f) (by cbv) ?_;rintro B dn bK;refine iM bK λi bF cg b8 ke dm=>?_;obtain rfl:=b8;obtain rfl:=dm;have ajn:bF≠bv:=λe=>ke<|bO<|bB<|mt<|kl.mpr e;have cz:bv∉((((gO 1944 1940).both aj)).both<|gP i bF cg []).W:=λe=>by
  refine bD e (λe=>?_) λe=>?_
  .refine bD e (λe=>?_) λe=>?_
   .replace bJ:=(bc e)▸bJ;exact absurd bJ aS
   .exact ajm e
  .exact ajn (bc e).symm
 have h2:Inv.jv (((eZ aR bv).both aj).both<|gP i bF cg []) ((((gO 1944 1940).both aj).both<|gP i bF cg []).both<|kF aR bv):=⟨λx x x x x c=>((c.fst.fst.fst.both c.fst.snd).both c.snd).both c.fst.fst.snd,λG U=>by exact bD U (λe=>bD e (λe=>bD e (λe=>bO<|bO<|bO e) λe=>bO<|bB e) λe=>bB e) λe=>bO<|bO<|bB e,λG U=>bD U (λe=>bD e (λe=>bD e (λe=>bO<|bO<|bO e) λe=>bO<|bB e) λe=>bB e) λe=>bO<|bO<|bB e⟩;have i9:Inv.jv ((((gO 1944 1940).both aj).both<|gP i bF cg []).both<|kF aR bv) (((eZ aR bv).both aj).both<|gP i bF cg []):=⟨λx x x x x c=>((c.fst.fst.fst.both c.snd).both c.fst.fst.snd).both c.fst.snd,λG U=>by exact bD U (λe=>bD e (λe=>bD e (λe=>bO<|bO<|bO e) λe=>bB e) λe=>bO<|bO<|bB e) λe=>bO<|bB e,λG U=>bD U (λe=>bD e (λe=>bD e (λe=>bO<|bO<|bO e) λe=>bB e) λe=>bO<|bO<|bB e) λe=>bO<|bB e⟩;conv=>arg 7;arg 1;whnf
 exact b3.xB (cU.Sf (z:=z+1) (aj:=(eZ aR bv).both aj) (ab:=[]) (eA:=i3 hO) aG (wz f) ke f (by cbv) (cU.conv' h2 i9<|cU.bits (z:=z+1) (aQ:=hO) (R:=R) (aR:=aR) (bv:=bv) (da:=da) (nm:=nm) (E:=E) aG (rR f) cz nU.1 nU.2 nU.3 f (by cbv) (by cbv) (by cbv) (by cbv) (by cbv) (by cbv) (by cbv) (by cbv) (by cbv) (by cbv) (by cbv) (by cbv) (by cbv) (by cbv) (by cbv) (by cbv)) (Va hO) (by show 0+_<_;exact gT [1,-1,1] (.t (.a (.n 0) .x) .y) [.e .y<|.n 16777216,.l .x<|.n 800000] f f nU.SK)) f<|qk<|⟨f,c i bF cg ke⟩
section
section
variable{g:d7}{z:Nat}{T:dp}{C:cm}{u:ch}{aj bL:Inv}{st:List eS}{cv:lq->cm->Inv->Prop}
theorem b3.conv(ag:Inv.jv aj bL)(c:b3 g z u T bL C st cv):b3 g z u T aj C st cv:=λm o O ax Y a ar Q P r ah=>by refine I.mono (c m o O ax Y a ar Q P r<|ag.1 _ _ _ _ _ ah) ?_;rintro R w bK;exact bK.gi λcN bP bi cw cC dY dJ dU dN eK f_=>⟨cN,bP,bi,cw,cC,dY,dJ,dU,⟨dN.1,dN.2,dN.3,λb n=>(dN.4 b n).imp (ag.2 b) id,λb n=>(dN.5 b n).imp (ag.3 b) id,dN.6.mono (λb n=>bD n (λe=>bO e) λe=>bB<|ag.2 b e) ag.3⟩,eK,f_⟩
theorem Inv.aio:Inv.jv aj (aj.both Inv.none):=⟨λx x x x x c=>c.both Inv.aeu,λb n=>bD n id (λe=>nomatch e),λb n=>bD n id λe=>nomatch e⟩
theorem Inv.aip:Inv.jv (aj.both bL) aj:=⟨λx x x x x c=>c.fst,λb n=>bO n,λb n=>bO n⟩
theorem Inv.jv.aiq(c:Inv.jv aj bL):Inv.jv (aj.both dY) (bL.both dY):=⟨λx x x x x e=>(c.1 _ _ _ _ _ e.fst).both e.snd,λb n=>bD n (λe=>bO<|c.2 b e) λe=>bB e,λb n=>bD n (λe=>bO<|c.3 b e) λe=>bB e⟩
end
variable{a:ai}{z:Nat}{u:ch}{T:dp}{C:cm}{m:Env}{o O ax:List aw}{Y:Nat}{R:aw}
def uJ(aR bv:aw)(ba:List Int)(cN:lq)(bP:cm)(bL:Inv):Prop:=∃i bF cg,cN=.next/\fU bP "res"=A (.f<|.raw<|.ref i)/\bF∉(eZ aR bv).W/\bL=(eZ aR bv).both (gP i bF cg ba)
theorem Vk(c:bF∉(eZ aR bv).W):bF≠1940/\bF≠1892/\bF≠bv:=⟨λe=>c<|tA _<|kl.mpr e,λe=>c<|xl _<|e▸G5,λe=>c<|xl _<|zW _<|kl.mpr e⟩
theorem ajo(aG:dg k ap mid y am)(aL:-3<=bj/\bj<=7)(bJ:1993<=bv)(nU:oy hO)(hc:oy as)(U:(i3 hO).length<=200000)(b7:gM (F0 bj R aR da nm E .none hO as) C):b3 (aT k ap mid y am) (z+2) u lG (eZ aR bv) C [cO 6,cO 7,cO 8,cO 9,cO 10,cO 11,cO 12] (uJ aR bv<|i3 hO++i3 as++dE (uH bj) 0):=by
 refine b3.conv Inv.aio<|Vj (aj:=Inv.none) (Cv:=.none) aG bJ (λe=>nomatch e) nU (λi bF cg ke=>?_) b7;conv=>arg 7;arg 1;whnf
 refine b3.n8 (b:=a2) (ei.ah2 aE.nm λx=>f)<|b3.nil ?_;have ox:bF∉(eZ aR bv).W:=λe=>ke<|tA _ e;refine b3.conv (Inv.jv.aiq Inv.aip) ?_;intro m o O ax Y a ar Q P r ah;refine I.mono (Vd (z:=z+1) (i:=i) (R:=R) (aR:=aR) (da:=da) (nm:=nm) (E:=E) aG aL bJ (Vk ox) hc U (iZ f) m o O ax Y a ar Q P r ah) ?_;rintro cN w kD;exact kD.gi λw2 bP bi cw cC dY lF eD eN oW ud=>eV lF λdJ dU dN=>⟨w2,bP,bi,cw,cC,dY,⟨i,bF,cg,dJ,dU,ox,dN⟩,eD,eN,oW,ud⟩
theorem ajp(aG:dg k ap mid y am)(aL:-3<=bj/\bj<=7)(bJ:1993<=bv)(nU:oy hO)(hc:oy as)(U:(i3 hO).length<=100000)(rT:∀G∈aH::[cl],G∉(eZ aR bv).W)(zl:e4∉(eZ aR bv).G)(aK:∀q,0<=t q/\t q<256)(b7:gM (F0 bj R aR da nm E (.raw<|.ref cF) hO as) C):b3 (aT k ap mid y am) (z+2) u lG ((eZ aR bv).both<|pV k cF e4 aH (cl::er) [cl] 4 t) C [cO 6,cO 7,cO 8,cO 9,cO 10,cO 11,cO 12] (uJ aR bv<|i3 hO++(c9 4).map t++i3 as++dE (uH bj) 0):=by
 refine Vj (aj:=pV k cF e4 aH (cl::er) [cl] 4 t) (Cv:=.raw<|.ref cF) aG bJ (λe=>rT _ e<|bB<|mt bm) nU (λi bF cg ke=>?_) b7;have ox:bF∉(eZ aR bv).W:=λe=>ke<|bO e;conv=>arg 7;arg 1;whnf
 refine b3.n8 (b:=W) (ei.ah3 aE.nm λx=>f)<|b3.xB (cU.ahN (z:=z+1) (dY:=eZ aR bv) (R:=t) aG (wz f) ox (λe=>ke<|bB e) rT zl f (by cbv) f (by cbv) aK<|bZ (.l (.a .x<|.n 4)<|.n 1048576) [.l .x<|.n 100000] f U) f<|qk<|⟨f,b3.nil ?_⟩;intro m o O ax Y a ar Q P r ah;refine I.mono (Vd (z:=z+1) (i:=i) (R:=R) (aR:=aR) (da:=da) (nm:=nm) (E:=E) aG aL bJ (Vk ox) hc (by refine l io ?_;simp;exact bZ (.l .x<|.n 199996) [.l .x<|.n 100000] f U) (iZ f) m o O ax Y a ar Q P r ah) ?_;rintro cN w hu;exact hu.gi λw2 bP bi cw cC dY iv eD eN oW ud=>eV iv λdJ dU dN=>⟨w2,bP,bi,cw,cC,dY,⟨i,bF,cg,dJ,dU,ox,dN⟩,eD,eN,oW,ud⟩
end
section
theorem b3.ait(br:cU g z u T aj C j hp)(ay:nJ as=A aA)(aJ:aA.all (kU T)=W)(c:∀B af,hp B af->∃V,B=.tup V/\V.length=aA.length/\b3 g z u T af (mZ aA V C) b_ cv)(pD:∀m:Env,zC [.Tuple as s kV] j ak.line m=dC a2:=by exact λx=>f)(cr:∀m:Env,zD [.Tuple as s kV] j m=dC a7:=by exact λx=>f):b3 g z u T aj C (.Assign [.Tuple as s kV] j ak::b_) cv:=b3.next λm o O ax Y a ar li P r ah=>by
 refine I.eq (Hu ..) ?_;refine dQ ?_;refine I.eq (l (pD ..) f) ?_;refine ea ?_;refine fY aS ?_;refine I.bind<|br m o O ax Y a ar li P r ah _ λaU an B dn cD eb rP c6 fs cX eY f2=>?_;refine eW (c B dn rP) λV bK aM c=>?_;obtain rfl:=bK;refine I.eq (l (cr ..) f) ?_;refine ea ?_;refine I.eq (l (show(r5 [Du as s kV] m)=[(a2,zE (.Tuple as s kV) m)]from f) f) ?_;refine I.bind ?_;have D:rw (.Tuple as s kV) an.heap cD (.tup V) aU:=by refine la f2 λi fD ae b8 x aK aB=>?_;refine l b8 ?_;exact⟨V,i,fD,f,f,⟨_,aK,f,ae,f⟩,aB⟩
 refine vE (b:=a2) ar.1 fs cX D (li▸⟨aA,ay,aM,aJ⟩) λal a6 df=>I.pure ⟨f,_,_,cD,O,eb,c6.trans<|f4.inside a6,fs,?_,eY.off fs a6 λb n=>.inr n,c⟩;have:kx (.Tuple as s kV) (.tup V) C=mZ aA V C:=by show mZ ((nJ as).getD []) V C=_;refine l ay ?_;rfl
 refine c2 this ?_;exact df
end
noncomputable def l8(R:Nat->Int)(H:List<|Nat×List Int):Nat×List (List Int)×List (List Int):=H.foldl (λst r=>(st.1+r.1,st.2.1++[he R st.1 r.1],st.2.2++[nT r.2<|he R st.1 r.1])) (0,[],[])
theorem ajq(R:Nat->Int)(H:List<|Nat×List Int)(r:Nat×List Int):l8 R (H++[r])=((l8 R H).1+r.1,(l8 R H).2.1++[he R (l8 R H).1 r.1],(l8 R H).2.2++[nT r.2<|he R (l8 R H).1 r.1]):=by unfold l8;refine l z5 ?_;rfl
theorem ajr(R:Nat->Int)(H:List<|Nat×List Int):k7 R H=((l8 R H).1,(l8 R H).2.1.map fl,(l8 R H).2.2.map fl):=by induction H using Ur with|aG=>rfl|Q H r a5=>refine l (LK ..)<|l (ajq ..)<|l a5 ?_;simp
noncomputable def uK(bj:Int)(ff:dK)(aQ:List Bool)(R aR da:aw)(nm:au)(E:Tok):cm:=[("version",.f<|.int bj),("error",.f<|oo ff),("buff",.f<|.buf<|cT<|f6 aQ),("to_binary",.f<|rX R aR da nm E)]
theorem ajs(aG:dg k ap mid y am)(aL:-3<=bj/\bj<=7)(b':([-3,-1]:List Int).any (·==bj)=a2)(bJ:1993<=bv)(Cw:BO bj ff=A (q7.map pS))(Cx:rV q7<|(aQ.length+7)/8)(ow:aQ.length<=2^20)(nU:oy (l8 (f7 aQ)<|hP q7).2.1)(hc:oy (l8 (f7 aQ)<|hP q7).2.2)(U:(i3 (l8 (f7 aQ)<|hP q7).2.1).length<=200000)(b7:gM (uK bj ff aQ R aR da nm E) C):b3 (aT k ap mid y am) (z+2) u lG (eZ aR bv) C [cO 2,cO 3,cO 4,cO 5,cO 6,cO 7,cO 8,cO 9,cO 10,cO 11,cO 12] (uJ aR bv<|i3 (l8 (f7 aQ)<|hP q7).2.1++i3 (l8 (f7 aQ)<|hP q7).2.2++dE (uH bj) 0):=by
 refine b3.le b7 ?_;conv=>arg 7;arg 1;whnf
 refine b3.mM<|bE.assign (B:=.tup<|q7.map pS) (af.DG aG aE.nm aE.nm Cw) (by cbv)<|bE.nil ?_
 dsimp only;conv=>arg 7;arg 1;whnf
 refine b3.agw (V:=[.lst<|(l8 (f7 aQ)<|hP q7).2.1.map fl,.lst<|(l8 (f7 aQ)<|hP q7).2.2.map fl]) (aA:=["data_blocks","error_blocks"]) (cU.conv (Inv.jv.refl _) (cU.agv (dY:=kF aR bv) (aQ:=aQ) (as:=q7) aG (rR f) (λe=>?_) (ha.hQ aE.nm<|ha.hQ aE.nm ha.nl) Cx ow (by show 2<20;decide)) ?_) f f (by cbv) ?_
 .refine di e (λe=>?_) λe=>?_
  .exact absurd e aS
  .rw[<-bc e]at bJ;exact absurd bJ aS
 .refine qk<|dk _ ⟨?_,f⟩<|Inv.jv.refl _;unfold FO;exact l (ajr ..) f
 conv=>arg 7;arg 1;whnf
 refine b3.mM<|bE.assign (B:=.none) af.Mh (by cbv)<|bE.nil ?_
 dsimp only;conv=>arg 7;arg 1;whnf
 exact b3.n8 (b:=a2) (ei.cast (ei.half aG aE.nm) b')<|b3.nil<|ajo aG aL bJ nU hc U<|iZ f
theorem ajt(aG:dg k ap mid y am){K:Nat}(bJ:1993<=bv)(Cw:BO bj ff=A ([((1,s,t):Lay)].map pS))(Cx:rV [(1,s,t)]<|(aQ.length+7)/8)(ow:aQ.length<=2^20){C:cm}(b7:gM (uK bj ff aQ R aR da nm E) C):b3 (aT k ap mid y am) (z+2) u lG ((eZ aR bv).both<|Ct K) C [cO 2,cO 3,cO 4] (λcN bP bL=>cN=.next/\bL=eZ aR bv/\∃aq b dR,K<=b/\gM (pW bj R aR da nm E (tk aq b dR<|he (f7 aQ) 0 s)<|nT t<|he (f7 aQ) 0 s) bP):=by
 refine b3.le b7 ?_;conv=>arg 7;arg 1;whnf
 refine b3.mM<|bE.assign (B:=.tup<|[((1,s,t):Lay)].map pS) (af.DG aG aE.nm aE.nm Cw) (by cbv)<|bE.nil ?_
 dsimp only;conv=>arg 7;arg 1;whnf
 have h2:Inv.jv ((eZ aR bv).both<|Ct K) ((gO 1944 1940).both<|(kF aR bv).both<|Ct K):=by
  refine⟨λx x x x x c=>c.fst.fst.both<|c.fst.snd.both c.snd,λG U=>?_,λG U=>?_⟩
  .refine bD U (λe=>?_) λe=>?_
   .exact bO<|bO e
   .refine bD e (λe=>?_) λe=>?_
    .exact bO<|bB e
    .cases e
  .refine bD U (λe=>?_) λe=>?_
   .cases e
   .rcases jW.mp e with e|e<;>cases e
 have i9:Inv.jv ((gO 1944 1940).both<|(kF aR bv).both<|Ct K) (eZ aR bv):=by
  refine⟨λx x x x x c=>c.fst.both c.snd.fst,λG U=>?_,λG U=>?_⟩
  .exact bD U (λe=>bO e) λe=>bB<|bO e
  .rcases jW.mp U with e|e<;>cases e
 refine b3.ait (hp:=λB bL=>bL=eZ aR bv/\∃aq b dR,K<=b/\B=.tup [tk aq b dR<|he (f7 aQ) 0 s,.lst [fl<|nT t<|he (f7 aQ) 0 s]]) (aA:=["data_blocks","error_blocks"]) (cU.conv h2 (cU.ahQ (dY:=(kF aR bv).both<|Ct K) (K:=K) (aQ:=aQ) (s:=s) (t:=t) aG (rR f) (λe=>?_) (λx x x x c=>c.snd.1) (ha.hQ aE.nm<|ha.hQ aE.nm ha.nl) Cx ow (by show 2<20;decide)) ?_) f (by cbv) ?_
 .refine bD e (λe=>?_) λe=>?_
  .refine di e (λe=>?_) λe=>?_
   .exact absurd e aS
   .rw[<-bc e]at bJ;exact absurd bJ aS
  .cases e
 .rintro B af fE;exact cx fE λgh gV=>tK gV λaq b dR ms h1=>l gh<|l h1<|dk _ ⟨f,(Wu aq b dR ms f)⟩ i9
 rintro B af i8;refine cx i8 λjC lm=>tK lm λaq b dR ms mm=>?_;obtain rfl:=jC;refine l mm<|p9 _ f f ?_;conv=>arg 7;arg 1;whnf
 refine b3.mM<|bE.assign (B:=.none) af.Mh (by cbv)<|bE.nil<|b3.nil ⟨f,f,aq,b,dR,ms,f,f,f,f,trivial⟩
theorem aju(aG:dg k ap mid y am)(aL:-3<=bj/\bj<=7)(b':([-3,-1]:List Int).any (·==bj)=W)(bJ:1993<=bv)(Cw:BO bj ff=A ([((1,s,t):Lay)].map pS))(Cx:rV [(1,s,t)]<|(aQ.length+7)/8)(ow:aQ.length<=2^20)(zm:he (f7 aQ) 0 s=ab++[B])(F1:nT t (ab++[B])=w3)(c_:w3.length≠ab.length+1)(nU:oy [ab])(hc:oy [w3])(U:(i3 [ab]).length<=100000)(b7:gM (uK bj ff aQ R aR da nm E) C):b3 (aT k ap mid y am) (z+2) u lG (eZ aR bv) C [cO 2,cO 3,cO 4,cO 5,cO 6,cO 7,cO 8,cO 9,cO 10,cO 11,cO 12] (uJ aR bv<|i3 [ab]++(c9 4).map (h8 (B.fdiv 16) 4)++i3 [w3]++dE (uH bj) 0):=by
 intro m o O ax Y a ar Q P r ah;have vD:ab.length<=2^20:=by have:=(nU.1 ab (by simp)).2;exact bZ (.l .x<|.n 1048576) [.l .x<|.n 1000] f this
 refine Ce<|I.mono (ajt (z:=z) (K:=a.heap.objs.size) aG bJ Cw Cx ow b7 m o O ax Y a ar Q P r<|ah.both ⟨dD _,aP,aP⟩) ?_;rintro cN an e;refine e.gi λw2 t' cD h6 eb dn e ag7 uM c0 eY=>?_;obtain⟨rfl,rfl,aq,b,dR,Vl,n6⟩:=e;obtain⟨rfl,fs,cX⟩:=c0;refine⟨f,?_⟩;rw[zm,F1]at n6;refine Ce<|I.mono (ajg (z:=z+1) (ab:=ab) (B:=B) (as:=w3) aG b' ar Q fs (zm▸Uq (Ut aQ)) vD c_ (a' r.2.1.2 Vl) (cX.le λh bt e=>n6.has e) eY) ?_;rintro cN al⟨rfl,lr,mp,oU,cF,aH,e4,cl,er,c8,yw,xS,rT,zl,gz,pT,df,fK⟩;refine⟨f,?_⟩;have ji:a.heap.objs.size<=an.heap.objs.size:=uM.6.2;have Mf:an.heap.objs.size<=al.heap.objs.size:=gz.2;have Mg:a.gens.size<=an.gens.size:=uM.6.4;have Mi:∀G∈aH::[cl],a.heap.objs.size<=G:=λG U=>a' ji<|rT G U;have IF:∀G∈(eZ aR bv).W,G<a.heap.objs.size:=λG U=>(ah.2 G U).2.2.2.2;have ajv:∀q,q∉(eZ aR bv).G:=λq e=>by rcases jW.mp e with e|e<;>cases e
 have aK:∀q,0<=h8 (B.fdiv 16) 4 q/\h8 (B.fdiv 16) 4 q<256:=λq=>by have:=U' (B.fdiv 16) 4 q;exact⟨this.1,gd (.cg .x<|.n 256) [.cg .x<|.n 2] f this.2⟩
 refine I.mono (ajp (z:=z) (R:=R) (da:=da) (nm:=nm) (E:=E) (hO:=[ab]) (as:=[w3]) (t:=h8 (B.fdiv 16) 4) aG aL bJ nU hc U (λG U e=>b4 (IF G e)<|Mi G U) (ajv e4) aK (C:=(("cw_four":Str),Slot.f<|.raw<|.ref cF)::pW bj R aR da nm E (.lst [fl ab]) w3) (iZ f) m lr mp ax oU al ar Q pT df fK) ?_;rintro cN bT e;refine e.gi λw2 AX m1 sJ ua Vf e zk sK ajw kg=>?_;obtain⟨i,bF,cg,rfl,Mj,ke,rfl⟩:=e;refine⟨.next,AX,m1,sJ,ua,_,⟨i,bF,cg,f,Mj,ke,f⟩,zk,⟨λG U=>sK.1 G<|c8 G<|uM.1 G U,λG U=>?_,λG U=>?_,λG U=>?_,λq fy=>?_,?_⟩,ajw,kg⟩
 .exact eU (sK.2 G U) (λe=>eU (yw G e) (λe=>uM.2 G e) λe=>.inr<|a' ji e) λe=>.inr<|a' ji<|a' Mf e
 .exact eU (sK.3 G U) (λe=>eU (xS G e) (λe=>uM.3 G e) λe=>.inr<|a' ji e) λe=>.inr<|a' ji<|a' Mf e
 .exact eU (sK.4 G U) (λe=>bD e (λe=>.inl e) λe=>.inr<|Mi G e) λe=>.inr<|a' ji<|a' Mf e
 .exact eU (sK.5 q fy) (λe=>bD e (λe=>.inl e) λe=>.inr<|bc e▸a' Mg zl) λe=>.inr<|a' Mg<|a' gz.4 e
 .have AM:a9 (O++bY m++(eZ aR bv).W) (eZ aR bv).G a an:=uM.6.mono (λG U=>by
   refine bD U (λe=>?_) λe=>?_
   .exact bO e
   .refine bD e (λe=>?_) λe=>?_
    .exact bB e
    .cases e) λq fy=>by
   refine eU (jW.mp fy) (λe=>?_) λe=>?_
   .exact e
   .cases e
  have lk:a9 (O++bY m++(eZ aR bv).W) (eZ aR bv).G a al:=AM.gR gz (λG U=>by
   refine di U (λe=>?_) λe=>?_
   .exact .inr<|fS<|e▸Vl
   .exact bD e (λe=>bD e (λe=>(uM.3 G e).imp (λe=>bO<|bO e) fS) λe=>.inl<|bO<|bB e) λe=>.inl<|bB e) aP;refine lk.gR sK.6 (λG U=>?_) λq fy=>?_
  .refine bD U (λe=>?_) λe=>?_
   .exact bD e (λe=>eU (xS G e) (λe=>(uM.3 G e).imp (λe=>bO<|bO e) fS) λe=>.inr<|fS<|a' ji e) λe=>.inl<|bO<|bB e
   .exact bD e (λe=>.inl<|bB e) λe=>.inr<|fS<|Mi G e
  .exact eU (jW.mp fy) (λe=>.inl e) λe=>.inr<|rq<|bc e▸a' Mg zl
noncomputable def uN(L:cy)(y:Nat):FuncData:=fdOf<|EQ az L y
theorem Vm(L:cy)(y:Nat):(es L y).get 1895=A (EQ az L y):=by cbv
theorem ajx(L:cy)(y:Nat):(es L y).get 1894=A (Kd az L y):=by cbv
theorem ajy(a:ai)(L:cy)(y:Nat)(h M G:au):jr a (uN L y) ⟨[h,M,G],[]⟩ [("version",h),("error",M),("buff",G)]:=tH (by cbv)
theorem ajz:∃h p eQ e',cO 0=.Expr (.Constant (.str h) p eQ) e':=(Ww _ _ _ _ f)
theorem ajA:∃eQ e',cO 13=.Return (A<|.Name "res" eQ) e':=(mf _ _ f)
theorem ajB(c:dg k ap mid y am)(b:fp (aT k ap mid y am) a):FnAt a 1895 (uN k.params y) (gC<|cH az 17):=wv (e:=1894) (E:=y+836) c b (Vm ..) f (by cbv) (by cbv) (ajx ..) f (by cbv) (by cbv) (by cbv) (by cbv) (by cbv) (by cbv)
theorem ajC:gM (uK bj ff aQ R aR da nm E) (("to_binary",.f<|rX R aR da nm E)::jn ["version","error","buff"] [(.b2,.int bj),(.b2,oo ff),(.b2,.buf<|cT<|f6 aQ)] []):=(iZ f)
theorem ajD(aG:dg k ap mid y am)(ar:eJ (z+3) u)(P:ct (aT k ap mid y am) m o O ax Y)(r:bo (aT k ap mid y am) m o O Y C a)(ah:((gO 1944 1940).both<|kG v).At (aT k ap mid y am) m o O a)(aL:mq Y o [(.b2,.int bj),(.b2,oo ff),(.b2,.buf<|cT<|f6 aQ)] a aY)(Cy:∀(d5:ch)aR bv R da nm E C,1993<=bv->gM (uK bj ff aQ R aR da nm E) C->b3 (aT k ap mid y am) (z+2) d5 lG (eZ aR bv) C [cO 2,cO 3,cO 4,cO 5,cO 6,cO 7,cO 8,cO 9,cO 10,cO 11,cO 12] (uJ aR bv ba))(ac:∀aU w aR bv aW,(v=A (aR,bv)/\aW=[]\/v=a7/\aW=[bv])->(∀b∈aW,a.heap.objs.size<=b)->a9 (1940::(kG v).W) [] a w->fp (aT k ap mid y am) w->((gO 1944 1940).both<|kG<|A (aR,bv)).At (aT k ap mid y am) m (aW++o) O w->bV w.heap (aW++o) (.buf<|cT ba) aU->J aU w):I az k u (et (.ref 1895) aY []) J a:=by
 refine dZ aL λlx x e2 x g2=>?_;obtain rfl:=e2;refine dZ g2 λo0 x h0 x hu=>?_;obtain rfl:=h0;refine dZ hu λv9 x iv x LN=>?_;obtain rfl:=iv;have LO:_=[]:=LN;subst LO;refine A7 (g:=aT k ap mid y am) (z:=z+2) (eh:=["version","error","buff"]) (ik aG) ar (ajB aG r.2) (by cbv) (by cbv) P r aL f (ajy a k.params y lx o0 v9) (by cbv) λw dx cc eB bR fH=>?_;have jd:(c3 (uN k.params y) 1895 a).scope=lG:=by cbv
 have Bc:(c3 (uN k.params y) 1895 a).code=.ref 1894:=by cbv
 have lg:qualnameIn (c3 (uN k.params y) 1895 a) "to_binary" "to_binary"=zg:=by cbv
 generalize u.deeper (c3 (uN k.params y) 1895 a)=kc at*;generalize c3 (uN k.params y) 1895 a=en at*;refine ai7.symm▸sl ajz λal3 ig eQ e' px=>KV eB.1 λft=>?_;have tW:a9 [] [] w {w with toks:=ft}:=bM.tok ..;have cX:=bR.grow tW;have Mm:=(ah.into (ze:=en) dx cc).it tW aP aP;generalize({w with toks:=ft}:ai)=an at tW cX Mm;have F2:a.heap.objs.size<=an.heap.objs.size:=a' cc.2 tW.2;refine ahg (z:=z+2) aG jd Bc lg fH (rR f) eB cX Mm.snd Mm.fst (λe=>absurd (bc e) aS) λaR bv R da nm E al aW oU rG nc a6 pT df fK ajE=>Ce<|I.mono (Cy kc aR bv R da nm E _ fK.1.2.2.2.1 ajC en (aW++(bY en++o)) [] o oU al fH jd pT df<|ajE.both fK) ?_;rintro cN bT kD;refine kD.gi λw2 AX m1 sJ ua Vf lF zk c6 nV kg=>la lF λi bF cg q0 Mj ke q1=>?_;obtain rfl:=q0;obtain rfl:=q1;obtain⟨rfl,i1,h3⟩:=nV;refine⟨f,(kn ajA λhb hC ajF=>I.eq (l ajF<|l (pa ..)<|l (Gt ..) f)<|I.bind<|dQ<|I.bind<|(af.raw (g:=aT k ap mid y am) (z:=z+2) Mj (by cbv)) kc en m1 sJ o ua fH jd i1 bT _ h3 λaU cZ e6 Mn=>?_)⟩;have ajG:bV cZ.heap m1 (.raw<|.ref i) aU:=Mn;refine l ajG<|I.pure<|I.pure<|dk _ f ?_;have uc:=kg.it e6 aP aP;refine pk uc.snd.1 λq2 h7 q4 nd ti rY rZ gZ=>?_;have Mp:∀b∈aW++o,b∈m1:=λb n=>c6.1 b<|bD n (λe=>bO e) λe=>bB<|bB e;have hK:∀b∈o,b<a.heap.objs.size:=λb n=>cI (P.8 b n) r.1;have Vn:al.heap.objs.size<=bF:=eU (c6.4 bF<|bB bm) (λe=>absurd e ke) λe=>e;have Mr:∀b∈aW,b<al.heap.objs.size:=λb n=>cI (pT.8 b<|bO n) df.1;have ajH:bF∉aW++o:=λe=>bD e (λe=>b4 (Mr _ e) Vn) λe=>b4 (hK _ e)<|a' F2<|a' a6.2 Vn;have lb:∀b∈(eZ aR bv).W,b∈1940::(kG v).W\/a.heap.objs.size<=b:=λb n=>by
  refine bD n (λe=>?_) λe=>?_
  .exact .inl<|bc e▸bm
  .rcases rG with⟨rfl,_⟩|⟨rfl,rfl⟩
   .exact .inl<|mt e
   .exact di e (λe=>.inl<|mt<|e▸bm) λe=>.inr<|a' F2<|nc b<|bc e▸bm
 have lp:a9 (1940::(kG v).W) [] a cZ:=by
  have ajI:a9 (1940::(kG v).W) [] a an:=(cc.trans tW).mono aP aP;have lT:=(ajI.gR a6 (λb n=>bD n (λe=>.inr<|fS<|dx b e) λe=>.inl<|bc e▸(mt (by cases v<;>exact bm))) aP).gR c6.6 (λb n=>by
   refine bD n (λe=>?_) λe=>?_
   .refine bD e (λe=>?_) λe=>?_
    .cases e
    .exact .inr<|fS<|dx b e
   .exact(lb b e).imp id fS) λq fy=>by rcases jW.mp fy with e|e<;>cases e
  exact lT.trans<|e6.mono aP aP
 refine ac (.ref i) cZ aR bv aW rG (λb n=>a' F2<|nc b n) lp (h3.grow e6).2 ⟨(eZ aR bv).mono _ _ _ uc.fst.1 λb n=>.inl<|Mp b n,λb n=>?_,λq fy=>?_⟩ ?_
 .refine j0 (uc.fst.2 b n) λdJ dU dN eK f_=>?_;have qt:b∈((gO 1944 1940).both<|kG v).W->b∈aW++o/\b∉O/\b∉bY m/\(b∈(aT k ap mid y am).tabs\/ap.heap.objs.size<=b)/\b<cZ.heap.objs.size:=λe=>by exact j0 (ah.2 b e) λfq iy jJ qG yb=>⟨bB fq,iy,jJ,qG,f_⟩
  refine bD n (λe=>?_) λe=>?_
  .exact qt<|bO e
  .rcases rG with⟨rfl,_⟩|⟨rfl,rfl⟩
   .exact qt<|bB e
   .refine di e (λe=>?_) λe=>?_
    .exact qt<|bB<|e▸bm
    .have Vo:b∈[bv]:=bc e▸bm;have rl:=a' F2<|nc b Vo;exact⟨bO Vo,λe=>b4 (hK b (P.5 b e).1) rl,λe=>b4 (hK b (P.4 b e).1) rl,eK,f_⟩
 .rcases jW.mp fy with e|e<;>cases e
 .exact(HL i bF cg f (λe=>q2<|Mp _ e) h7 ajH gZ (λe=>q4<|Mp _ e) nd rY)
section
theorem bo.aiN(r:bo g m o O Y C a)(dr:∀G∈cd,G∈o/\G∉O/\G∉bY m/\∀v,a.heap.get? G=A v->v.cls=.none)(t:a9 cd ao a w)(n:fp g w)(cr:∀b∈aV,a.heap.objs.size<=b):bo g m (aV++o) O w.heap.objs.size C w:=by
 refine iL r.3 λcW aE ag aF bb=>?_;have fV:∀b v,b∉o->a.heap.get? b=A v->w.heap.get? b=A v/\b∉aV++o:=λb v n j=>⟨t.1 b v (λe=>n (dr b e).1) j,by refine gq jW<|gq not_or ?_;exact⟨λe=>b4 (dH j)<|cr b e,n⟩⟩;refine⟨dD _,n,cW,aE.keeps λb n v j=>t.1 b v (λe=>(dr b e).2.2.1 n) j,λh bt X=>bl (ag h bt X) λB aL D=>⟨B,aL,?_⟩,aF,bb⟩;have cV:∀av,AL a.heap o av B->AL w.heap (aV++o) av B:=λav⟨e9,cg,gw⟩=>by
  refine⟨e9,cg,jm.to fV (λv nQ=>t.1 _ _ (λc0=>?_) nQ) gw⟩;have ay:=(dr _ c0).2.2.2;cases av<;>try exact gw
  .refine fM gw λV s nQ x=>?_;have:=ay _ nQ;cases this
  .have:=ay _ gw;exact absurd this<|show¬(hh "bytearray"=oG)by decide
 cases bt with
 |f av=>exact bV.to fV _ _ D|o av=>exact cV av D|b av=>exact cV av D
end
noncomputable def F3:Stmt:=gB (cH az 19) 5
noncomputable def zn(L:cy)(y:Nat):FuncData:=fdOf<|ES az L y
theorem Vp(L:cy)(y:Nat):(es L y).get 1938=A (ES az L y):=by cbv
theorem ajJ(L:cy)(y:Nat):(es L y).get 1937=A (RN az L y):=by cbv
theorem ajK(a:ai)(L:cy)(y:Nat)(h:au):jr a (zn L y) ⟨[h],[]⟩ [("self",h)]:=tH (by cbv)
theorem ajL:∃eQ e' hb,gC F3=[.Return (A<|.Attribute (.Name "self" eQ) "_data" e') hb]:=(OG _ _ _ f)
theorem ajM(c:dg k ap mid y am)(b:fp (aT k ap mid y am) a):FnAt a 1938 (zn k.params y) (gC F3):=wv (e:=1937) (E:=y+892) c b (Vp ..) f (by cbv) (by cbv) (ajJ ..) f (by cbv) (by cbv) (by cbv) (by cbv) (by cbv) (by cbv)
theorem ajN(aG:dg k ap mid y am)(ar:eJ (z+1) u)(P:ct (aT k ap mid y am) m o O ax Y)(r:bo (aT k ap mid y am) m o O Y C a)(aB:bV a.heap o (.buf b) aU)(ac:∀on w,a9 [] [] a w->bV w.heap o (.l3 b) on->J on w):I az k u (et (.ref 1938) [aU] []) J a:=by
 refine A7 (g:=aT k ap mid y am) (z:=z) (eh:=["self"]) (eP:=[(.b2,.buf b)]) (aY:=[aU]) (ik aG) ar (ajM aG r.2) (by cbv) (by cbv) P r ⟨_,_,f,aB,f⟩ f (ajK a k.params y aU) (by cbv) λw dx cc eB bR fH=>?_;have jd:(c3 (zn k.params y) 1938 a).scope=fz F3:=by cbv
 generalize u.deeper (c3 (zn k.params y) 1938 a)=kc at*;generalize c3 (zn k.params y) 1938 a=en at*;exact sk ajL λeQ e' hb iU=>I.bind<|dQ<|I.bind<|(af.Qo (z:=z) aG<|aE.nm (g:=aT k ap mid y am) (z:=z) (T:=fz F3) (C:=jn ["self"] [(.b2,.buf b)] []) (B:=.buf b) (h:="self")) kc en (bY en++o) [] o _ fH jd eB w _ bR λon an aI f2=>I.pure<|I.pure ⟨on,f,ac on an (cc.trans aI)<|bV.sub (B:=.l3 b) f2 λM a3=>bB a3⟩
theorem cU.aiT(aG:dg k ap mid y am)(aX:ha (aT k ap mid y am) (z+3) T C fO [(.b2,.int bj),(.b2,oo ff),(.b2,.buf<|cT<|f6 aQ)])(sO:fO.length<20)(X:eE T "make_final_message"=W)(Cy:∀(d5:ch)aR bv R da nm E C,1993<=bv->gM (uK bj ff aQ R aR da nm E) C->b3 (aT k ap mid y am) (z+2) d5 lG (eZ aR bv) C [cO 2,cO 3,cO 4,cO 5,cO 6,cO 7,cO 8,cO 9,cO 10,cO 11,cO 12] (uJ aR bv ba)):cU (aT k ap mid y am) (z+3) u T ((gO 1944 1940).both<|kG v) C (.Call (.Name "make_final_message" e) fO [] ak) (λB bL=>B=.buf (cT ba)/\∃D,bL=(gO 1944 1940).both (kG<|A D)):=λm o O ax Y a ar Q P r ah J ac=>by
 have hk:eE m.scope "make_final_message"=W:=Q▸X
 .refine I.bind<|qq (aW:=[]) (ao:=[]) (ix (C:=C) (ik aG) P aeR hk) (tX hk) a _ r λaU an aI lv=>l lv ?_;have cX:=r.grow aI;have eY:=ah.it aI aP aP;refine vy (iR:=[]) (v:=EQ az k.params y) (bh:=uN k.params y) (L:=λE=>bo (aT k ap mid y am) m o O Y C E/\((gO 1944 1940).both<|kG v).At (aT k ap mid y am) m o O E) aX.star sO (λE J r e ac=>aX.q3 ar Q P E J r e.1 ac) ⟨cX,eY⟩ (λE e=>aG.sub e.1.2 _ _ _ (Vm ..) f) (by cbv) (λE eM e t=>⟨e.1.grow t,e.2.it t aP aP⟩) ?_;intro aY al a6 aL;have df:=cX.grow a6;have fK:=eY.it a6 aP aP;refine ajD (ff:=ff) (aQ:=aQ) (bj:=bj) (ba:=ba) aG ar P df fK aL Cy λaU bT aR bv aW rG nc bQ Ck kg D=>?_;have dr:∀G∈1940::(kG v).W,G∈o/\G∉O/\G∉bY m/\∀v,al.heap.get? G=A v->v.cls=.none:=λG U=>by
   refine hG (fK.2 G U) λdJ dU dN x=>⟨dJ,dU,dN,λkA j=>?_⟩;rcases e1.mp U with rfl|U
   .refine cx fK.fst.1 λx e2=>cJ e2 λcE ka=>?_;have:=ka.2.2;replace this:=j▸this;exact l (fu this) f
   .have gG:=fK.snd.1;cases v with
    |none=>refine cx gG λx g2=>bl g2 λcE ka x=>?_;have:=ka.2.2;replace this:=j▸(bc U)▸this;exact l (fu this) f|some D=>
     refine oI gG λx x x x h0 hu x=>bl h0 λcE ka x=>cJ hu λCi ajO=>?_;rcases e1.mp U with rfl|U
     .have:=ka.2.2;replace this:=j▸this;exact l (fu this) f
     .have:=ajO.2.2;replace this:=j▸(bc U)▸this;exact l (fu this) f
  have Mr:∀b∈aW,b<bT.heap.objs.size:=λb n=>by
   rcases rG with⟨_,rfl⟩|⟨_,rfl⟩
   .exact dI n
   .exact l (bc n)<|(kg.2 bv<|bB<|mt bm).2.2.2.2
  have pT:=P.up (cC:=al.heap.objs.size) df.1;have i1:ct (aT k ap mid y am) m (aW++o) O ax bT.heap.objs.size:=pT.n7 (λb n=>⟨nc b n,Mr b n⟩) df.2.1.2 bQ.2;have rS:bo (aT k ap mid y am) m (aW++o) O bT.heap.objs.size C bT:=df.aiN dr bQ Ck nc;refine ac aU bT (.buf<|cT ba) _ _ _ ⟨f,(aR,bv),f⟩ ⟨λb n=>bB n,λb n=>bD n (λe=>.inr<|a' (aI.trans a6).2<|nc b e) .inl,λx c=>.inl c,λb n=>?_,λq fy=>?_,?_⟩ i1 rS kg D
  .refine bD n (λe=>?_) λe=>?_
   .exact .inl<|bO e
   .rcases rG with⟨rfl,_⟩|⟨rfl,rfl⟩
    .exact .inl<|bB e
    .exact di e (λe=>.inl<|bB<|e▸bm) λe=>.inr<|a' (aI.trans a6).2<|nc b<|bc e▸bm
  .rcases jW.mp fy with e|e<;>exact dI e
  .exact((aI.trans a6).mono aP aP).trans<|bQ.mono (λG U=>bB U) aP
section
variable{k:ck}{ap a:ai}{mid:Nat->Obj}{y:Nat}{am:go}{z:Nat}{u:ch}{T:dp}{m:Env}{o O ax:List aw}{Y:Nat}{C:cm}{bj:Int}{ff:dK}{aQ:List Bool}{ba:List Int}{v:Option<|aw×aw}{aj:Inv}{j wk rL c7:bH}{e lw ak dO eQ e' hb hC lu pH Bb vW:Pos}{b:Array UInt8}{hp:Inv->Prop}{p:hx}
theorem cU.aiV(aG:dg k ap mid y am)(ml:∀m,tv j "getbits" m (dF j m)=dF j m)(hw:(lw.endLine==ak.line)=W)(br:cU (aT k ap mid y am) (z+1) u T aj C j λB bL=>B=.buf b/\hp bL):cU (aT k ap mid y am) (z+1) u T aj C (.Call (.Attribute j "getbits" lw) [] [] ak) (λB bL=>B=.l3 b/\hp bL):=λm o O ax Y a ar Q P r ah J ac=>by
 refine sw (as:=[]) f (by show 0<20;decide) (ml m) hw<|br m o O ax Y a ar Q P r ah _ λaU an B dn cD eb aK c6 fs cX eY D=>gc λx dA=>?_;obtain⟨rfl,aK⟩:=aK;obtain⟨i,bF,tb,rfl,aX,h7,bp,gZ,wA,nd,gg⟩:=D;refine dA ?_;have fF:u.depth+90<recursionLimit:=by have:=ar.2;show u.depth+90<1000;exact c' (.t (.a .x<|.n 90)<|.n 1000) [.l (.a .x<|.o .y)<|.n 900] f this
 refine FC afG fF (aG.sub cX.2) h7 nd gg λal a6=>?_;have df:=cX.grow a6;have fK:=eY.it a6 aP aP;have Vq:bV al.heap cD (.buf b) (.ref i):=(HL i bF tb f aX (a6.all _ _ h7) bp (a6.all _ _ gZ) wA (a6.all _ _ nd) gg);refine vy (iR:=[.ref i]) (L:=λE=>bo (aT k ap mid y am) m cD O eb C E/\bV E.heap cD (.buf b) (.ref i)/\dn.At (aT k ap mid y am) m cD O E) (aW:=[]) (ao:=[]) (v:=ES az k.params y) (bh:=zn k.params y) f (by show 0<20;decide) kt ⟨df,Vq,fK⟩ (λE e=>aG.sub e.1.2 _ _ _ (Vp ..) f) (by cbv) (λE eM e t=>⟨e.1.grow t,bV.to (λb v n j=>⟨t.all _ _ j,n⟩) _ _ e.2.1,e.2.2.it t aP aP⟩) ?_;rintro aY bT bQ rfl;have h3:=df.grow bQ;exact ajN (z:=z) aG ar fs h3 (bV.to (λb v n j=>⟨bQ.all _ _ j,n⟩) _ _ Vq) λon cZ e6 Mn=>ac on cZ (.l3 b) dn cD eb ⟨f,aK⟩ (c6.trans<|f4.nF<|(a6.trans bQ).trans e6) fs (h3.grow e6) ((fK.it bQ aP aP).it e6 aP aP) Mn
theorem Vr:∀(ab:List Int)(V:List au),V.length=ab.length->(∀(aC:Nat)B,V[aC]?=A B->∃E,B=.int (ab.getD aC 0) E)->bX c o (ab.map bd.int) V
 |[],[],bC,dw=>by show bX c o [] [];exact f|[],bC::dw,c,ic=>by cases c|bC::dw,[],c,ic=>by cases c|s::ab,B::V,aM,aL=>by
  refine(eH B V f ?_<|Vr ab V (by simpa using aM) λaC av d_=>?_)
  .exact cJ (aL 0 B f) λE j=>(gD E j)
  .exact aL (aC+1) av d_
theorem cU.aiW(aG:dg k ap mid y am)(X:eE T "list"=W)(oZ:fJ ba)(U:ba.length<=2^24)(br:cU (aT k ap mid y am) z u T aj C j λB bL=>B=fl ba/\hp bL)(ay:dT j=W:=by rfl):cU (aT k ap mid y am) z u T aj C (.Call (.Name "list" dO) [j] [] ak) (λB bL=>B=bN ba/\hp bL):=λm o O ax Y a ar=>by
 refine cU.QH (wD:=λB bL=>B=bN ba/\hp bL) (ik aG) S4 X f ay br ?_ m o O ax Y a ar;rintro m o O ax Y a B dn aU dm P r ah D J ac;refine cx dm λdX aK=>?_;obtain rfl:=dX;refine eW D λi eO aX h7=>?_;obtain rfl:=eO;have dW:=k2 ba;refine kP<|I.of<|Rn ar.1 h7 (dW▸U) λaa ft gy aR a8 aJ gL jb=>?_;have t:a9 [] [] a {a with heap:=aa,toks:=ft}:=bM.heap (λb v x j=>a8 b v j) jb.1;refine ac _ _ (bN ba) ⟨f,aK⟩ t<|⟨_,gy,aR,f,λe=>iK _<|cI (P.8 _ e) r.1,aJ,Vr ba _ (l NU<|l gL.1<|l dW f) λaC B aL=>?_⟩;have c4:aC<ba.length:=by have:=(k_.mp aL).1;rw[NU,gL.1,dW]at this;exact this
 refine fM (gL.2 aC B (by simpa using aL)) λal4 av bW fE=>?_;obtain rfl:=fE;replace bW:=(J' c4)▸bW;cases bW;exact⟨av,l (EP<|Ka oZ c4) f⟩
theorem cU.hook(aG:dg k ap mid y am)(ag:c5 (aT k ap mid y am) (z+3) T C wk bj)(aF:af (aT k ap mid y am) (z+3) T C rL .b2<|oo ff)(bb:af (aT k ap mid y am) (z+3) T C c7 p<|bN<|f6 aQ)(ay:dT wk=W/\dT rL=W/\dT c7=W)(hw:(pH.endLine==Bb.line)=W)(aK:eE T "list"=W/\eE T "make_final_message"=W/\eE T "Buffer"=W)(oZ:fJ ba)(ajP:ba.length<=2^24)(ow:aQ.length<=2^20)(Cy:∀(d5:ch)aR bv R da nm E C,1993<=bv->gM (uK bj ff aQ R aR da nm E) C->b3 (aT k ap mid y am) (z+2) d5 lG (eZ aR bv) C [cO 2,cO 3,cO 4,cO 5,cO 6,cO 7,cO 8,cO 9,cO 10,cO 11,cO 12] (uJ aR bv ba)):cU (aT k ap mid y am) (z+3) u T ((gO 1944 1940).both<|kG v) C (.Call (.Name "list" eQ) [.Call (.Attribute (.Call (.Name "make_final_message" e') [wk,rL,.Call (.Name "Buffer" hb) [c7] [] hC] [] lu) "getbits" pH) [] [] Bb] [] vW) (λB bL=>B=bN ba/\∃D,bL=(gO 1944 1940).both (kG<|A D)):=cU.aiW aG aK.1 oZ ajP (cU.aiV (z:=z+2) aG (λx=>f) hw<|cU.aiT (ff:=ff) (aQ:=aQ) aG ⟨ay.1,ag,ay.2.1,aF,f,af.JH (z:=z+1) aG bb (afb aQ) (by unfold f6;refine l (gp ..) ?_;exact a' ow aS) aK.2.2 ay.2.2,trivial⟩ (by show 3<20;decide) aK.2.1 Cy) f
end
section
theorem b3.aiZ(c:bE g z T [] C H λcN bP=>cN=.next/\b3 g z u T aj bP b_ cv):b3 g z u T aj C (H++b_) cv:=λm o O ax Y a ar Q P r ah=>by refine Ce<|I.mono (c u m o O ax Y a ar Q P r) ?_;rintro R an bK;refine bK.gi λcN bP bi cw cC b8 n c6 dm=>?_;obtain⟨rfl,a1⟩:=b8;obtain⟨rfl,eB,bR⟩:=dm;exact⟨f,I.mono (a1 m bi cw ax cC an ar Q eB bR<|ah.step P c6) λR w aa=>aa.trans c6.wQ⟩
theorem b3.ai0(c:bE g z T [] C H λcN bP=>cv cN bP aj):b3 g z u T aj C H cv:=λm o O ax Y a ar Q P r ah=>by refine I.mono (c u m o O ax Y a ar Q P r) ?_;rintro R an dX;exact dX.gi λcN bP bi cw cC a1 n c6 br=>⟨cN,bP,bi,cw,cC,aj,a1,n,c6.wQ,br,ah.step P c6⟩
end
def Ms(k:ck)(ap:ai)(mid:Nat->Obj)(y:Nat)(am:go)(z:Nat)(bj:Int)(cV:dK)(aQ:List Bool)(ba:List Int):Prop:=∀(d5:ch)aR bv R da nm E C,1993<=bv->gM (uK bj cV aQ R aR da nm E) C->b3 (aT k ap mid y am) (z+2) d5 lG (eZ aR bv) C [cO 2,cO 3,cO 4,cO 5,cO 6,cO 7,cO 8,cO 9,cO 10,cO 11,cO 12] (uJ aR bv ba)
inductive F4(k:ck)(ap:ai)(mid:Nat->Obj)(y:Nat)(am:go)(z:Nat)(bj:Int)(cV:dK)(bu ou:List Int)(c:Nat)(r0 r1:List Bool)(kh g5:List Int):Prop|mk(fQ:fL bu c=f6 r0)(fR:fL ou c=f6 r1)(gs:r0.length<=1000)(i7:r1.length<=1000)(kq:Ms k ap mid y am z bj cV r0 kh)(mP:Ms k ap mid y am z bj cV r1 g5)(sy:fJ kh)(x0:fJ g5)(AK:(kh.length:Int)=freeOf bj)(D7:(g5.length:Int)=freeOf bj)(Qh:kh.take (fL bu c).length=fL bu c)(al5:g5.take (fL bu c).length=fL ou c)(al6:bound bu/\bu.length<=16)(al7:ou.length=bu.length)(al8:c<=8*bu.length)(al9:bound (wordsOf<|kh.drop (fL bu c).length)/\(wordsOf<|kh.drop (fL bu c).length).length<=64)(al_:∀r,r<(wordsOf<|kh.drop (fL bu c).length).length->ov r (bu++wordsOf (kh.drop (fL bu c).length))=0)(al':∀(q:Nat)h M,(wordsOf<|kh.drop (fL bu c).length)[q]?=A h->(wordsOf<|g5.drop (fL bu c).length)[q]?=A M->h≠M):F4 k ap mid y am z bj cV bu ou c r0 r1 kh g5
theorem ajQ:gC (cH az 24)=(gC<|cH az 24).take 9++(gC<|cH az 24).drop 9:=(va 9 _).symm
theorem ajR(aG:dg k ap mid y am)(s:uA<|aT k ap mid y am)(gm:List Int)(j3:gm.length<=63)(ef:∀bj ff d4,wH[(((numsOf gm).getD 0 0).fmod 8).toNat]?=A (bj,ff,d4)->∃cV r0 r1 kh g5,ff=oo cV/\F4 k ap mid y am z bj cV (iF bj<|nb (lC<|numsOf gm) d4) (wI (numsOf gm) (iF bj<|nb (lC<|numsOf gm) d4)<|o5 (numsOf gm) d4) (fn bj) r0 r1 kh g5):b3 (aT k ap mid y am) (z+3) u (fz<|cH az 24) ((gO 1944 1940).both<|kG v) [("script",.f<|bN gm)] (gC<|cH az 24) (λcN x x=>cN=.ret (.bool W)):=by
 refine ajQ.symm▸b3.aiZ (agi (z:=z+2) (b_:=[]) s gm j3 λbj ff d4 aM=>bE.nil ⟨f,(Wj (ef bj ff d4 aM) λcV r0 r1 kh g5 h0 R=>?_)⟩);obtain rfl:=h0;refine hG (T3 aM) λx x xN FJ=>?_;generalize iF bj (nb (lC<|numsOf gm) d4)=bu at R;generalize wI (numsOf gm) bu (o5 (numsOf gm) d4)=ou at R;have oZ:∀ba:List Int,(ba.length:Int)=freeOf bj->ba.length<2^20:=λba oZ=>by
  have:freeOf bj<2^20:=by have:=T2 xN FJ;rcases this with rfl|rfl|rfl|rfl<;>decide
  exact qd (.t .x<|.n 1048576) [.eK (.c .x) .x,.cg .x<|.n 1048576] f oZ this
 have uB:=oZ g5 R.10;conv=>arg 7;whnf
 refine b3.rQ (cU.hook (aQ:=r0) (ba:=kh) aG aE.nm aE.nm (af.cast aE.nm (by exact l R.1 f)) ⟨f,f,f⟩ f ⟨by cbv,by cbv,by cbv⟩ R.7 (bZ (.l .x<|.n 16777216) [.t .x<|.n 1048576] f<|oZ kh R.9) (by have:=R.3;exact bZ (.l .x<|.n 1048576) [.l .x<|.n 1000] f this) R.5) (by cbv) ?_;rintro B wx hu;refine cx hu λiv kD=>?_;obtain rfl:=iv;refine cJ kD λeD lF=>?_;obtain rfl:=lF;conv=>arg 7;whnf
 refine b3.rQ (cU.hook (aQ:=r1) (ba:=g5) aG aE.nm aE.nm (af.cast (aE.call s.ok s.DY (ha.hQ aE.nm<|ha.hQ aE.nm ha.nl)<|Ls s.tomQ ou _ (.inr f) (fn bj) (l R.14<|mD R.13.2 aS)<|l R.14 R.15)<|l R.2 f) ⟨f,f,f⟩ f ⟨by cbv,by cbv,by cbv⟩ R.8 (bZ (.l .x<|.n 16777216) [.t .x<|.n 1048576] f uB) (by have:=R.4;exact bZ (.l .x<|.n 1048576) [.l .x<|.n 1000] f this) R.6) (by cbv) ?_;rintro B wy nV;refine cx nV λq0 q1=>?_;obtain rfl:=q0;refine cJ q1 λeN wN=>?_;obtain rfl:=wN;refine b3.ai0 ?_;have n:(fL bu<|fn bj).length<2^20:=by have:=R.3;refine l R.1 ?_;unfold f6;exact l (gp ..)<|bZ (.t .x<|.n 1048576) [.l .x<|.n 1000] f this
 exact agn (z:=z+2) (a0:=[]) s ⟨xN,FJ⟩ ⟨R.13.2,R.14⟩ R.15 R.9 R.10 R.11 R.12<|ags (z:=z+2) s<|agy (z:=z+2) s R.13 R.16 n uB R.17 R.18
theorem ajS(B:Int)(q:Nat):h8 B 8 q=FH B q:=by unfold h8 FH;exact l (bitAnd_m1 ..)<|l (M7 _ aS) f
theorem ajT(B:Int):(c9 8).map (h8 B 8)=gY B:=vb λq x=>ajS B q
theorem q8(k:Int):(gY k).length=8:=gp ..
theorem ajU(s:Nat):uG [(s:Int)]=s:=by have:=L' (ab:=[(s:Int)]) (by simp);rfl
theorem flat_getD{b:List Int}{R:Int->List Int}:(c9 b.length).flatMap (λp=>R<|b.getD p 0)=b.flatMap R:=by
 have j:(c9 b.length).map (λp=>b.getD p 0)=b:=by
  apply xp;intro q;refine l (fW) ?_;by_cases c:q<b.length
  .refine l (mG c)<|l (gQ c) ?_;simp[hF,gQ c]
  .refine l (rc (by simpa using c))<|l (rc (by simpa using c)) ?_;rfl
 conv=>rhs;rw[<-j,List.flatMap_map]
theorem ajV{bk d0:Type}{H:List bk}{R t:bk->List d0}(c:∀i∈H,R i=t i):H.flatMap R=H.flatMap t:=by exact l Nw<|l Nw<|l (vb c) f
theorem Cz(b:List Int):i3 [b]=b.flatMap gY:=by unfold i3;exact l ju<|l xs<|l (ajU ..)<|l (mC ..)<|c2 (flat_getD (b:=b) (R:=gY))<|ajV λp a8=>l tE<|l List.flatMap_nil<|l (u' ..)<|l (if_pos<|mF.mp a8)<|ajT _
theorem ajW:((c9 256).all λk=>(sU (gY (k:Int))==(k:Int))&&((gY (k:Int)).all λb=>b==0||b==1))=W:=fv
theorem F6(c:0<=k/\k<256):sU (gY k)=k/\∀b∈gY k,b=0\/b=1:=by refine cJ (xi c.1) λs bK=>?_;obtain rfl:=bK;have:=hU.mp ajW s<|mF.mpr<|bZ (.t .x<|.n 256) [.cg (.c .x)<|.n 256] f c.2;rw[jU]at this;refine⟨eq_of_beq this.1,λb n=>?_⟩;have:=hU.mp this.2 b n;simpa using this
theorem Mt(R:bk->List d0)(ae:Nat)(be:∀i,(R i).length=ae):∀(H:List bk)(q:Nat)(c:q<H.length),((H.flatMap R).drop<|ae*q).take ae=R H[q]|i::H,0,bC=>by refine l tE<|l (Nat.mul_zero ..)<|l z0<|l (List.take_append_of_le_length (by refine l (be ..) ?_;exact dD _))<|l (oE (by refine l (be ..) ?_;exact dD _)) ?_;rfl|i::H,q+1,c=>by refine l tE<|l (G0 ..)<|l (tz ..)<|c2 Hb ?_;have:(R i++H.flatMap R).drop ae=H.flatMap R:=c2 (be i) Nx;refine l this<|l (Mt R ae be H q (by simpa using c)) ?_;rfl
theorem tl(R:bk->List d0)(ae:Nat)(be:∀i,(R i).length=ae)(H:List bk):(H.flatMap R).length=ae*H.length:=by induction H with|nil=>rfl|cons i H a5=>refine l tE<|l io<|l (be ..)<|l a5<|l jX<|l (G0 ..) ?_;exact c' (.e (.a .x .y)<|.a .y .x) [] f
theorem ajX(c:fJ b):wordsOf (b.flatMap gY)=b:=by
 unfold wordsOf;refine l (tl gY 8 q8 ..)<|l (show(8*b.length+7)/8=b.length by exact pm [8,0,1] [8,1,0] (.e .x .y) [.l (.m 8 .x)<|.a (.m 8 .y)<|.n 7,.t (.a (.m 8 .y)<|.n 7)<|.a (.m 8 .x)<|.n 8] f (pn _ 8)<|qh _ 7) ?_;apply xp;intro q;refine l (fW) ?_;by_cases ah:q<b.length
 .refine l (mG ah)<|l (gQ ah) ?_;simp only[r9];exact l (Mt gY 8 q8 b q ah)<|l ((F6<|c _<|xo ah).1) f
 .refine l (rc (by simpa using ah))<|l (rc (by simpa using ah)) ?_;rfl
noncomputable def jq(bu:List Int)(c:Nat):List Bool:=(fL bu c).map (·==1)
theorem Mu(n:fJ bu):∀h∈bu.flatMap gY,h=0\/h=1:=λh X=>by exact bl (He.mp X) λk cr X=>(F6<|n k cr).2 h X
theorem Vs(n:fJ bu)(c:Nat):fL bu c=f6 (jq bu c):=by
 unfold f6 jq;refine l ph ?_;have:∀h∈fL bu c,(b2i∘(·==1)) h=h:=λh X=>by rcases Mu n h (G7 X)with rfl|rfl<;>rfl
 conv=>lhs;rw[<-List.map_id<|fL bu c]
 exact(vb this).symm
theorem ajY(c:∀h∈H,h=0\/h=1):valOf (H.map (·==1))=sU H:=by
 have:∀(H:List Int)(i:Int),(∀h∈H,h=0\/h=1)->(H.map (·==1)).foldl (λi b=>2*i+(bif b then 1 else 0)) i=H.foldl (λk b=>2*k+b) i:=by intro H;induction H with
  |nil=>intro i _;rfl|cons h H a5=>
   intro i X;rw[ju,z2,z2,a5 _ λM a3=>X M<|mt a3]
   congr 1;rcases X h bm with rfl|rfl<;>rfl
 exact this H 0 c
theorem Vt(n:fJ bu)(b':c<=8)(U:bu.flatMap gY=fL bu c++dE c 0):he (f7<|jq bu c) 0 bu.length=bu:=by
 unfold he;have cP:(jq bu c).length+c=8*bu.length:=by have:=congrArg sa U;rw[(tl gY 8 q8 bu),io,tF]at this;unfold jq;exact l (gp ..)<|id<|zV this
 have As:jq bu c++dE c a2=(bu.flatMap gY).map (·==1):=by refine l U<|l mb<|l Nu ?_;rfl
 apply xp;intro q;refine l (fW) ?_;by_cases ah:q<bu.length
 .refine l (mG ah)<|l (gQ ah) ?_;refine l (r9 ..)<|l (zQ ..) ?_
  congr 1;unfold f7;have aO:rO (jq bu c) (8*q)=((jq bu c++dE c a2).drop<|8*q).take 8:=by
   unfold rO;by_cases aM:8*q<=(jq bu c).length
   .refine l (List.drop_append_of_le_length aM)<|l Ny ?_
    congr 1;refine l sb<|l List.take_replicate ?_
    congr 1;have bW:8-((jq bu c).length-8*q)=8*q+8-(jq bu c).length:=(Nat.sub_sub_right 8 aM).trans (congrArg (·-_)<|tz ..);exact bW.symm.trans (u6<|bW▸Nat.sub_le_iff_le_add'.mpr (cP▸zS 8 ah)).symm
   .exact absurd (Nat.le_of_add_le_add_right<|a' (cP▸zS 8 ah)<|G4 b' _) aM
  exact l aO<|l As<|c2 u9<|c2 z1<|l (Mt gY 8 q8 bu q ah)<|l (ajY (F6<|n _<|xo ah).2)<|l ((F6<|n _<|xo ah).1) f
 .refine l (rc (by simpa using ah))<|l (rc (by simpa using ah)) ?_;rfl
theorem Vu(bu:List Int):bu.flatMap gY=fL bu 0++dE 0 0:=by unfold fL;refine l (Nat.sub_zero ..)<|l (oE (by refine l (tl gY 8 q8 ..) ?_;exact dD _)) ?_;simp
theorem Vv(ab:List Int):fL (ab++[0]) 4=ab.flatMap gY++[0,0,0,0]:=by
 unfold fL;refine l Hd<|l io<|l List.length_singleton<|l Ny<|l (tl gY 8 q8 ..)<|l (oE (by refine l (tl gY 8 q8 ..) ?_;exact hT ..))<|l (show 8*(ab.length+1)-4-8*ab.length=4 by exact oJ [1,1,1,0,0] [1,0,0,1,1] (.e .x<|.n 4) [.l .y<|.a .x<|.m 8 .z,.l (.m 8<|.o .z)<|.a .y<|.n 4,.e (.a .x<|.m 8 .z) .y,.e (.a .y<|.n 4)<|.m 8<|.o .z] f (fk _ _) (fk _ _) (eu<|c' (.l (.m 8 .x) .y) [.l (.m 8<|.o .x)<|.a .y<|.n 4] f<|fk _ _)<|eu<|bZ (.l (.n 4)<|.m 8<|.o .x) [] f) ?_
 congr 1
theorem ajZ(ab:List Int):(ab++[0]).flatMap gY=fL (ab++[0]) 4++dE 4 0:=by
 refine l (Vv ..)<|l Hd<|l (tD ..) ?_
 congr 1
noncomputable abbrev o9:OpenLaw:=Hz
set_option tactic.hygienic true in theorem aj0{c:e0}{q:Nat}{v:Obj}(j:c.get? q=A v):h_ v=A v:=by
 unfold Heap.get? at j;split at j
 .cases j
 .rename_i h;obtain⟨g,z,qK,bt⟩:=v;cases qK<;>first|rfl|exact absurd j<|h _ _ _
theorem aj1(L:cy)(mid:Nat->Obj)(y:Nat)(am:go)(aM:(oH L).life=am):∀b v,(oH L).get? b=A v->¬theTopsOwn (oH L) b->(nO L mid y am).get? b=A v:=by
 intro b v n ay;have c1:b<11:=by have:=dH n;exact this
 have j:=congrArg (λH=>H[b]?)<|aen L mid y;simp only[fW,mG c1,r9,xt]at j;have bb:(b==ma)=a2:=beq_false_of_ne λe=>ay<|.inl e;have cn:(b==p1)=a2:=beq_false_of_ne λe=>ay<|.inr<|.inl e;rw[bb,cn]at j;simp only[Bool.or_self,cond_false]at j;rw[SJ n]at j;have mN:b<1993:=C8 c1 (by decide);exact(sj mN j).trans<|aj0 n
theorem aj2{os:nn}{a:ai}(gN:l0 k os a)(Q:∃s E,schedN (tn table) az k s (.single (k4 k pj os)<|xy az)=.running (.single a E)/\through E=W)(aM:a.heap.life=(k4 k pj os).heap.life):TopRan az k (k4 k pj os) a:=by
 refine gc λx dA=>?_;refine bl gN.1 λa0 bK b'=>?_;refine kn bK λmid y cz=>?_;refine dA ?_;rw[cz]at b';refine⟨Q,aM,Oq gN.3,?_,?_,?_,?_,?_,?_,?_,?_,?_⟩
 .intro b v n ay;rw[b'];exact aj1 _ _ _ _ aM.symm b v n ay
 .rw[b'];exact Heap.accountedI_of_ok<|aeo ..
 .rw[b'];exact statics_of_ok<|aep ..
 .rw[b'];exact Pin.keysAreStrs_of<|BH ..
 .rw[b'];exact λh X=>(Pin.builtinOf_eq (KJ ..) h).trans<|Heap.of_bltView (KJ ..) (aeq ..) h X
 .rw[b'];refine HE (Heap.bmainOk_spec<|aet k.params mid y a.heap.life) λy2 kA i x g z R x=>?_;exact⟨y2,kA,(Ow (BH ..) _).trans i,g,z,R⟩
 .rw[gN.2];intro t aK;simp at aK
 .rw[b'];exact names_of_bound<|aer ..
 .rw[b'];exact laid_of_kept<|aes ..
theorem Vw(L:cy)(mid:Nat->Obj)(y:Nat)(am:go):(nO L mid y am).nsMap mainGlobals "law"=A (.ref 1992):=by cbv
theorem aj3(L:cy)(mid:Nat->Obj)(y:Nat)(am:go):(nO L mid y am).get? 1992=A (EU az L y):=by cbv
theorem aj4(L:cy)(mid:Nat->Obj)(y:Nat)(am:go):isTheDefsW az (nO L mid y am) "law":=by
 refine⟨1992,_,_,sT<|cH az 24,gC<|cH az 24,fz<|cH az 24,(Ow (BH ..) _).trans<|Vw ..,aj3 ..,f,?_,f,f,f,f,f,f,f,f,?_⟩
 .cbv
 .exact⟨.inl ⟨by cbv,f⟩,[],by cbv,.inl ⟨f,f⟩⟩
theorem Vx:Hz.wellSaid=W:=by cbv
theorem aj5{g:ClaimW}{Mv:List au->Sem Fin}{k:ck}{a:ai}{aj6:aw->Prop}{d3:Prop}{Mw:e0->Prop}(U:a.asleep)(aj7:a.gens=#[])(aj8:∀fO,g.pre fO=W->WData.layableAll fO=W->∀r2:List zF->List zF,(∀H,(r2 H).Perm H)->∃V an,Ag g.records (zK a.heap) k.params r2 fO a=A (V,an)/\jY (cG g.prog k) rM (Mv V) (λhi x w=>∃R,hi=.done R/\(g.Ends a fO V an (.ok R) w/\w.os=a.os/\Af w.gens/\Mw w.heap)) (λx x x=>False) default an):g.CallFrom (λV=>⟨Mv V,.builtin "claim.caller" {},default,[]⟩) k aj6 d3 Mw a:=by
 intro fO BF CA r2 F7;refine fM (aj8 fO BF CA r2 F7) λV an F8 zi=>?_;have j_:=layAllW_rest _ _ _ F8;refine Wi (wp_halts_full (M:=cG g.prog k) (c:=.builtin "claim.caller" {}) (t:=Mv V) (p:=default) (s:=an) (R:=λD w=>g.Ends a fO V an D w/\w.os=a.os/\Mw w.heap) (HB j_.2.2.2 U) (mc _ _ _ (by rintro hi r w⟨R,rfl,ag,aF,bb,cn⟩;exact⟨⟨ag,aF,cn⟩,leftWithCleanup_false_of_bare bb⟩) (λx x x c=>c.elim) _ _ zi)) λp D ek w aj9 Kq aj_ AQ qN Mx=>?_;refine j0 (Shared.forget_eq aj_) λVy x x nQ x=>?_;have AQ:=AQ.congr Vy;replace Mx:=Vy▸Mx;replace qN:=nQ▸qN;refine(tL V an F8<|OI p _ w aj9 ?_ (λx q h X=>by replace X:=aj7▸X;trivial) Mx (l ((runN_life _ _ _ Kq).trans j_.2.2.2) f)<|Oq qN);rcases AQ with⟨B,rfl,w4,CB,My,Mz,MA⟩|⟨j,kA,aj',rfl,w4,CB,My,Mz,MA⟩
 .exact .inl<|HI B f w4 CB My (λb v M x=>Mz b v M) MA
 .exact .inr<|OI j kA aj' f w4 CB My Mz λb v M x=>MA b v M
theorem Vz:∀(aA:List Int)(a:ai),∃V,xu V aA/\Ag [] kQ L r2 (aA.map .int) a=A (V,{a with toks:=a.toks+aA.length})
 |[],a=>(dk [] .nil f)|h::aA,a=>by
  obtain⟨V,aL,j⟩:=Vz aA {a with toks:=a.toks+1};refine(dk (.int h a.toks::V) (.cons _ _ aL)<|l ju<|l (layAllW.eq_2 ..)<|l (layW.eq_3 ..) ?_)
  dsimp only;refine l j ?_
  dsimp only;exact l jX<|l (Nat.add_assoc ..)<|l (tz 1 ..) f
theorem aka(c:WShape.hasItems [] aA .int=W):∃ab:List Int,aA=ab.map .int:=by induction aA with|nil=>exact⟨[],f⟩|cons h aA a5=>replace c:=l9.mp c;refine cJ (a5 c.2) λab bK=>?_;obtain rfl:=bK;cases h with|int q=>exact⟨q::ab,f⟩|_=>exact jj c.1
theorem akb(c:o9.row.toRowW.claim.pre fO=W):∃aA:List Int,fO=[.list<|aA.map .int]/\aA.length<=63:=by refine cx (l9.mp c) λag aF=>?_;cases fO with|nil=>rw[Ox]at ag;exact jj ag|cons h D=>refine cx (l9.mp ag) λbb cn=>?_;cases D with|cons M D=>rw[Ox]at cn;exact jj cn|nil=>cases h with
   |list aA=>
    refine cJ (aka<|(q9 _).symm.trans bb) λab fE=>?_;obtain rfl:=fE;refine(dk ab f ?_);change WTm.holds [] (.and (.not<|.lt (.lit<|.int 63)<|.len<|.arg 0)<|.lit<|.bool W) {args:=[.list<|ab.map .int]}=W at aF;by_cases aO:ab.length<=63
    .exact aO
    .exfalso;have:(63:Int)<(ab.length:Int):=bZ (.cg (.n 63)<|.c .x) [.nl .x<|.n 63] f aO;have j:less? (WData.int 63) (WData.int ab.length)=A W:=by rw[less?,Num.less?];simp;omega
     simp[WTm.holds,WTm.value,j]at aF|_=>exact jj bb
noncomputable abbrev k8(a:ai)(V:List au)(y:Nat):Shared:={a with heap:=a.heap.push {cls:=.type "list",data:=.seq V.toArray},toks:=y}
def VA:Prop:=∀(k:ck)(a:ai)(os:nn),l0 k os a->∀(aA:List Int)(V:List au)(y:Nat),aA.length<=63->xu V aA->I az k callerA (et (.ref 1992) [.ref 1993] []) (λB w=>B=.bool W/\w.os=a.os/\Af w.gens/\OldK (k8 a V y).heap w.heap) (k8 a V y)
theorem akc(fO hO:List WData):o9.row.toRowW.claim.post fO (.bool W) hO=W:=by cbv
theorem akd:az.bare:=⟨by cbv,by cbv,by cbv,by cbv,by cbv,by cbv⟩
theorem VB:o9.row.toRowW.promised:=⟨[.list []],by cbv,by cbv⟩
theorem ake:opensWell az=W:=by cbv
theorem akf(c:VA):Hz.Holds:=by
 refine⟨Vx,row_said Vx,VB,⟨akd,ake,f⟩,VB.witness,λk=>eW (ael k) λos U ar akg=>?_⟩;refine⟨(gD _ ar),λa Q=>?_⟩;obtain rfl:=akg a Q;refine(p9 _ (SR _) f<|eW (aem k os U) λa gN akh aM=>?_);refine(Wt a (aj2 gN akh aM) ?_ (λh X=>(dI X)) (λh X=>(dI X)) ?_)
 .intro s ay;obtain rfl:s=hg "law":=((by simpa using ay:o9.row.pinned=W/\s=o9.row.name).2);exact bl gN.1 λa0 gh b'=>kn gh λmid y cz=>l b'<|cz.symm▸aj4 ..
 .refine aj5 (g:=o9.row.toRowW.claim) (HB aM U) gN.2 λfO BF CA r2 F7=>bl (akb BF) λaA gV X=>?_;obtain rfl:=gV;refine bl (Vz (kQ:=zK a.heap) (L:=k.params) (r2:=r2) aA a) λV aL F8=>?_;have dW:a.heap.objs.size=1993:=by exact bl gN.1 λa0 x b'=>l b'<|tG ..
  have F9:Ag [] (zK a.heap) k.params r2 [.list<|aA.map .int] a=A ([.ref 1993],k8 a V<|a.toks+aA.length):=by
   rw[Ag,layW,F8]
   dsimp only;rw[Ag,dW]
  refine(tL _ _ F9 ?_);have lj:(k8 a V<|a.toks+aA.length).heap.Ns ma (a.heap.nsMap ma):=by
   have:a.heap.Ns ma (a.heap.nsMap ma):=by exact bl gN.1 λa0 h1 b'=>kn h1 λmid y cz=>l b'<|cz.symm▸HC (BH ..)
   exact this.at' λv j=>eT _ j
  have aki:a.heap.nsMap ma "law"=A (.ref 1992):=by exact bl gN.1 λa0 i8 b'=>kn i8 λmid y cz=>l b'<|cz.symm▸Vw ..
  have cV:I az k callerA (do match<-nsGet ma "law"with
   |some R=>do ret<|<-et R [.ref 1993]|none=>unsupported "claim.caller:no-such-global") (λhi w=>∃R,hi=.done R/\(o9.row.toRowW.claim.Ends a [.list<|aA.map .int] [.ref 1993] (k8 a V<|a.toks+aA.length) (.ok R) w/\w.os=a.os/\Af w.gens/\(o9.row.writes=W->namesKept o9.row.toRowW.claim.prog o9.row.keeps a.heap w.heap/\∀h∈o9.row.toRowW.claim.records,∀i,zK a.heap h.1=A i->recordClass w.heap i h.1 (h.2.map (·.1))=W))) (k8 a V<|a.toks+aA.length):=by
   refine dv<|wpAny_nsGet lj<|I.eq (l aki f) ?_;refine g8 (c k a os gN aA V _ X aL) λB w oM=>I.pure<|dk _ f<|hG oM λjC aJ n a8=>l jC ?_;refine eW (reads_layAllW F7 _ _ _ F9 CA _ λx x j=>j) λeP y5 po x7=>?_;have b0:Laid [] k a (k8 a V<|a.toks+aA.length) [.list<|aA.map .int] [.ref 1993] eP:=⟨(dk r2 F7 F9),y5,po,x7,layAllW_keeps _ _ _ F9,gN.2,f⟩;have t:GoodWG o9.row.toRowW.claim (zK a.heap) (ExcName.means a.heap) [.list<|aA.map .int] (k8 a V<|a.toks+aA.length) (.ok<|.ret<|.bool W) w:=⟨.inl<|Wv (.bool W) (.bool W) [] f (λx=>f) (.bool _) (akc _ _) λx=>⟨rd,aP⟩,a8,aJ,n⟩;have G:=t.laid (c:=o9.row.toRowW.claim) f f (ident_freeW f f f) b0;exact⟨G.1,G.2.1,G.2.2,λe=>jj e⟩
  exact cV rM default caller_in (by cbv) aP
section
variable{k:ck}{a:ai}{mid:Nat->Obj}{y:Nat}{am:go}{os:nn}
theorem akj(aN:l0 k os a):∃mid y,dg k a mid y a.heap.life/\a.heap=nO k.params mid y a.heap.life:=by
 have dW:a.heap.objs.size=1993:=by exact bl aN.1 λa0 x b'=>l b'<|tG ..
 refine bl aN.1 λa0 bK b'=>kn bK λmid y cz=>?_;have j:a.heap=nO k.params mid y a.heap.life:=by replace b':=cz▸b';exact b'
 refine(tL mid y ⟨λb v e=>?_,oD dW.symm,aN.4⟩ j);rw[BI]at e;exact l j e
theorem akk(aG:dg k ap mid y am):bV ap.heap (aT k ap mid y am).tabs T0 (.ref 1975):=by
 have sub:=BN aG;refine(mK 1975 _ _ f (k5 _ aS) (sub 1975 _ _ (show(es k.params y).get 1975=A (RX az k.params y)by cbv) f) ?_);show bX _ _ [.tup [.int<|-3,.none,.int (3:Nat)],.tup [.int<|-2,.int 1,.int (5:Nat)],.tup [.int<|-2,.int 0,.int (4:Nat)],.tup [.int<|-1,.int 1,.int (11:Nat)],.tup [.int<|-1,.int 0,.int (9:Nat)],.tup [.int 0,.int 1,.int (16:Nat)],.tup [.int 0,.int 0,.int (14:Nat)],.tup [.int 0,.int 3,.int (10:Nat)]] [.ref 1967,.ref 1968,.ref 1969,.ref 1970,.ref 1971,.ref 1972,.ref 1973,.ref 1974];refine(eH (.ref 1967) _ f ?_ ?_)
 .refine(mK 1967 _ _ f (k5 _ aS) (sub 1967 _ _ (show(es k.params y).get 1967=A (RP az k.params y)by cbv) f) ?_);exact(eH _ _ f (gD _ f)<|eH _ _ f f<|eH _ _ f (gD _ f) f)
 refine(eH (.ref 1968) _ f ?_ ?_)
 .refine(mK 1968 _ _ f (k5 _ aS) (sub 1968 _ _ (show(es k.params y).get 1968=A (RQ az k.params y)by cbv) f) ?_);exact(eH _ _ f (gD _ f)<|eH _ _ f (gD _ f)<|eH _ _ f (gD _ f) f)
 refine(eH (.ref 1969) _ f ?_ ?_)
 .refine(mK 1969 _ _ f (k5 _ aS) (sub 1969 _ _ (show(es k.params y).get 1969=A (RR az k.params y)by cbv) f) ?_);exact(eH _ _ f (gD _ f)<|eH _ _ f (gD _ f)<|eH _ _ f (gD _ f) f)
 refine(eH (.ref 1970) _ f ?_ ?_)
 .refine(mK 1970 _ _ f (k5 _ aS) (sub 1970 _ _ (show(es k.params y).get 1970=A (RS az k.params y)by cbv) f) ?_);exact(eH _ _ f (gD _ f)<|eH _ _ f (gD _ f)<|eH _ _ f (gD _ f) f)
 refine(eH (.ref 1971) _ f ?_ ?_)
 .refine(mK 1971 _ _ f (k5 _ aS) (sub 1971 _ _ (show(es k.params y).get 1971=A (RT az k.params y)by cbv) f) ?_);exact(eH _ _ f (gD _ f)<|eH _ _ f (gD _ f)<|eH _ _ f (gD _ f) f)
 refine(eH (.ref 1972) _ f ?_ ?_)
 .refine(mK 1972 _ _ f (k5 _ aS) (sub 1972 _ _ (show(es k.params y).get 1972=A (RU az k.params y)by cbv) f) ?_);exact(eH _ _ f (gD _ f)<|eH _ _ f (gD _ f)<|eH _ _ f (gD _ f) f)
 refine(eH (.ref 1973) _ f ?_ ?_)
 .refine(mK 1973 _ _ f (k5 _ aS) (sub 1973 _ _ (show(es k.params y).get 1973=A (RV az k.params y)by cbv) f) ?_);exact(eH _ _ f (gD _ f)<|eH _ _ f (gD _ f)<|eH _ _ f (gD _ f) f)
 refine(eH (.ref 1974) _ f ?_ ?_)
 .refine(mK 1974 _ _ f (k5 _ aS) (sub 1974 _ _ (show(es k.params y).get 1974=A (RW az k.params y)by cbv) f) ?_);exact(eH _ _ f (gD _ f)<|eH _ _ f (gD _ f)<|eH _ _ f (gD _ f) f)
 exact f
theorem akl:(aT k ap mid y am).gl "_law_layouts"=A (.ref 1975):=by cbv
theorem akm:(aT k ap mid y am).gl "_law_bits"=A (.ref 1980):=by cbv
theorem akn:(aT k ap mid y am).gl "_law_words"=A (.ref 1987):=by cbv
theorem VC(c:dg k ap mid y am)(aJ:(es k.params y).get i=A v)(j_:h_ v=A v)(bp:v.data=.func bh)(n:bh.body=.stmts el)(aZ:bh.code=.ref e)(KU:(es k.params y).get e=A rA)(ako:h_ rA=A rA)(aL:rA.data=.fields V)(ag:V[1]?=A (.str bh.qualname E))(aX:i≠1892/\i≠1940)(akp:e≠1892/\e≠1940)(Q:(bh.scope.isCoroutine||bh.scope.isGenerator)=a2)(a8:bh.scope.kind=.function)(be:(bh.scope.names.all λh=>h.2 !=.free)=W)(aO:bh.closure=[])(aK:bh.globals=3)(oh:bh.builtins=0):vO (aT k ap mid y am) i bh el:=by have sub:=BN c;rw[Gc]at Q;refine⟨(dk v (sub _ _ _ aJ j_) bp),k5 _ aX,Q.1,Q.2,n,(Wy e rA V E aZ (k5 _ akp) (sub _ _ _ KU ako) aL ag),a8,λh X=>?_,aO,aK,oh⟩;have:=hU.mp be h X;simpa using this
end
noncomputable def VD(L:cy)(y:Nat):FuncData:=fdOf<|Kg az L y
noncomputable def VE(L:cy)(y:Nat):FuncData:=fdOf<|Kh az L y
noncomputable def CC(L:cy)(y:Nat):FuncData:=fdOf<|EU az L y
theorem akq(a:ai)(L:cy)(y:Nat)(h M:au):jr a (VD L y) ⟨[h,M],[]⟩ [("words",h),("half",M)]:=tH (by cbv)
theorem akr(a:ai)(L:cy)(y:Nat)(h:au):jr a (VE L y) ⟨[h],[]⟩ [("bits",h)]:=tH (by cbv)
theorem aks(a:ai)(L:cy)(y:Nat)(h:au):jr a (CC L y) ⟨[h],[]⟩ [("script",h)]:=tH (by cbv)
@[elab_as_elim]theorem VF{bk:Type _}{L:List bk->Prop}(H:List bk)(c:H.length=1)(ag:∀h,L [h]):L H:=by cases H with|nil=>exact nomatch c|cons h D=>cases D with|nil=>exact ag h|cons M D=>exact nomatch c
@[elab_as_elim]theorem akt{bk:Type _}{L:List bk->Prop}(H:List bk)(c:H.length=2)(aF:∀h M,L [h,M]):L H:=by cases H with|nil=>exact nomatch c|cons h D=>exact VF D (Dz c) λM=>aF h M
theorem aku(aG:dg k ap mid y am):uA (aT k ap mid y am)where
 tomQ:=us aG
 lay:=⟨_,akl,akk aG⟩
 DY:=⟨1980,VD k.params y,akm,VC (e:=1979) (E:=y+960) aG (show(es k.params y).get 1980=A (Kg az k.params y)by cbv) f f (by cbv) (by cbv) (show(es k.params y).get 1979=A (RY az k.params y)by cbv) f f (by cbv) aS aS (by cbv) (by cbv) (by cbv) (by cbv) (by cbv) (by cbv),by cbv,λa aY aM=>by exact akt aY aM λh M=>akq a k.params y h M⟩
 Rj:=⟨1987,VE k.params y,akn,VC (e:=1986) (E:=y+966) aG (show(es k.params y).get 1987=A (Kh az k.params y)by cbv) f f (by cbv) (by cbv) (show(es k.params y).get 1986=A (RZ az k.params y)by cbv) f f (by cbv) aS aS (by cbv) (by cbv) (by cbv) (by cbv) (by cbv) (by cbv),by cbv,λa aY aM=>by exact VF aY aM λh=>akr a k.params y h⟩
theorem akv(c:dg k ap mid y am)(b:fp (aT k ap mid y am) a):FnAt a 1992 (CC k.params y) (gC<|cH az 24):=wv (e:=1991) (E:=y+977) c b (show(es k.params y).get 1992=A (EU az k.params y)by cbv) f (by cbv) (by cbv) (show(es k.params y).get 1991=A (R0 az k.params y)by cbv) f (by cbv) (by cbv) (by cbv) (by cbv) (by cbv) (by cbv)
theorem akw(L:cy)(mid:Nat->Obj)(y:Nat):(kB az L mid y).get 1940=A (RO az L y):=by cbv
theorem akx(L:cy)(mid:Nat->Obj)(y:Nat):(kB az L mid y).get 1892=A (RH az L y):=by cbv
theorem aky(L:cy)(mid:Nat->Obj)(y:Nat):(kB az L mid y).get 1944=A (Kf az L y):=by cbv
theorem akz(L:cy)(mid:Nat->Obj)(y:Nat):(kB az L mid y).get 1894=A (Kd az L y):=by cbv
theorem VG(c:dg k ap mid y am):TabAt ap.heap 1944 1940 #[]:=by have CD:=Fo c _ _ _ (aky k.params mid y) f;have CE:=Fo c _ _ _ (akw k.params mid y) f;exact⟨⟨_,_,_,_,_,_,_,_,_,_,CD,f,f,f,f,f,f,CE,f,trivial,aS⟩,⟨(HJ _ _ CD f f f),CE⟩⟩
theorem VH(c:dg k ap mid y am):TabAt ap.heap 1894 1892 #[]:=by have CD:=Fo c _ _ _ (akz k.params mid y) f;have CE:=Fo c _ _ _ (akx k.params mid y) f;exact⟨⟨_,_,_,_,_,_,_,_,_,_,CD,f,f,f,f,f,f,CE,f,trivial,aS⟩,⟨(HJ _ _ CD f f f),CE⟩⟩
def VI(z:Nat):Prop:=∀(k:ck)(ap:ai)(mid:Nat->Obj)(y:Nat)(am:go),dg k ap mid y am->∀gm:List Int,gm.length<=63->∀bj ff d4,wH[(((numsOf gm).getD 0 0).fmod 8).toNat]?=A (bj,ff,d4)->∃cV r0 r1 kh g5,ff=oo cV/\F4 k ap mid y am z bj cV (iF bj<|nb (lC<|numsOf gm) d4) (wI (numsOf gm) (iF bj<|nb (lC<|numsOf gm) d4)<|o5 (numsOf gm) d4) (fn bj) r0 r1 kh g5
theorem akA(ah:xu V ab):bX c o (ab.map bd.int) V:=by induction ah with|nil=>show bX c o [] [];exact f|cons s E _ a5=>exact(eH _ _ f ((gD E f)) a5)
theorem akB(ef:VI 0):VA:=by
 intro k a os aN aA V ft B9 aL;refine fM (akj aN) λmid y aG x=>?_;have dW:a.heap.objs.size=1993:=by exact bl aN.1 λa0 x b'=>l b'<|tG ..
 have d8:a9 [] [] a (k8 a V ft):=bM.push a _ ft;have FU:fp (aT k a mid y a.heap.life) (k8 a V ft):=⟨d8.mono aP aP,λM a3 v fD bW cR f3=>⟨#[],by exact Hm.symm▸f3▸d8.all _ _ bW⟩⟩;have akC:(k8 a V ft).heap.get? 1993=A {cls:=.type "list",data:=.seq V.toArray}:=by have:(k8 a V ft).heap.get? a.heap.objs.size=A {cls:=.type "list",data:=.seq V.toArray}:=fj _ f;rwa[dW]at this
 have BV:(k8 a V ft).heap.objs.size=1994:=by exact l (f' ..)<|l dW f
 have ar:eJ (0+3+1) callerA:=⟨f,aS,aS⟩;have akD:(1993:aw)∉([1892,1940]:List aw):=aS;have akE:∀E∈(aT k a mid y a.heap.life).tabs,E∈([1892,1940]:List aw):=λE bI=>by rcases kE.mp bI with rfl|rfl<;>decide
 refine Qz (g:=aT k a mid y a.heap.life) (z:=0+3) (o:=[1892,1940]) (Y:=1994) (eh:=["script"]) (eP:=[(.b2,bN aA)]) (aY:=[.ref 1993]) (ik aG) ar (akv aG FU) (by cbv) (by cbv) akE (λi aX=>.inl<|kE.mpr (by simpa using aX)) (λh X=>by
  revert h;refine gr ?_ ?_
  .decide
  .intro h X;refine l (bc X) ?_;decide) (oD BV.symm) FU ⟨_,_,f,?_,f⟩ f (aks _ k.params y<|.ref 1993) (by cbv) λw dx cc eB bR fH=>?_
 .show bV _ _ (.lst _) _;exact⟨1993,V.toArray,0,f,akD,akC,akA aL⟩
 have jd:(c3 (CC k.params y) 1992<|k8 a V ft).scope=fz (cH az 24):=by cbv
 generalize callerA.deeper (c3 (CC k.params y) 1992<|k8 a V ft)=kc at*;generalize c3 (CC k.params y) 1992 (k8 a V ft)=en at*;have ig:∀b v,a.heap.get? b=A v->w.heap.get? b=A v:=λb v j=>cc.all _ _<|d8.all _ _ j;have sx:∀b∈bY en,1994<=b:=λb n=>BV▸dx b n;have VJ:∀s:Nat,s<1994->s≠1892->s≠1940->s∉bY en++([1892,1940]:List aw):=λs ay ag aF e=>bD e (λe=>absurd (sx s e)<|Nat.not_le.mpr ay) λe=>di e (λe=>ag e) λe=>aF<|bc e;have VK:∀s:Nat,(s=1892\/s=1940)->s∈bY en++([1892,1940]:List aw)/\s∉([]:List aw)/\s∉bY en/\(s∈(aT k a mid y a.heap.life).tabs\/(aT k a mid y a.heap.life).s0.heap.objs.size<=s)/\s<w.heap.objs.size:=λs ay=>by
  have c1:s<1994:=by rcases ay with rfl|rfl<;>decide
  refine⟨bB (by rcases ay with rfl|rfl<;>decide),(λe=>dI e),λe=>absurd (sx s e)<|Nat.not_le.mpr c1,.inl<|kE.mpr ay,cI (BV▸c1) cc.2⟩
 have ah:((gO 1944 1940).both<|kG a7).At (aT k a mid y a.heap.life) en (bY en++[1892,1940]) [] w:=by refine Inv.At.both ⟨⟨VJ 1944 aS aS aS,_,((VG aG).keeps ig)⟩,λb n=>VK b<|.inr<|bc n,aP⟩ ⟨⟨VJ 1894 aS aS aS,_,((VH aG).keeps ig),f⟩,λb n=>VK b<|.inl<|bc n,aP⟩
 refine I.mono (ajR (z:=0) (u:=kc) (v:=a7) aG (aku aG) aA B9 (λbj ff d4 aM=>ef k a mid y a.heap.life aG aA B9 bj ff d4 aM) en (bY en++[1892,1940]) [] [1892,1940] _ w fH jd eB bR ah) ?_;rintro R ek bK;refine bK.gi λcN bP bi cw cC bL b8 n c6 dm x=>?_;obtain rfl:=b8;obtain⟨aU,rfl,aB⟩:=dm;refine l aB ?_;have kd:a9 [1892,1940] [] (k8 a V ft) ek:=(cc.mono aP aP).gR c6.6 (λb n=>by
  refine bD n (λe=>?_) λe=>?_
  .refine bD e (λe=>?_) λe=>?_
   .exact dI e
   .exact .inr<|fS<|dx b e
  .refine bD e (λe=>?_) λe=>?_
   .exact .inl (by refine l (bc e) ?_;decide)
   .exact .inl (by refine l (bc e) ?_;decide)) λq fy=>by rcases jW.mp fy with e|e<;>exact dI e
 refine⟨_,f,f,kd.6,kd.5 ?_,?_⟩
 .intro M a3;have:(k8 a V ft).gens=#[]:=aN.2;replace a3:=this▸a3;simp at a3
 have table:∀b v,(b=1892\/b=1940)->(k8 a V ft).heap.get? b=A v->isCodeTable (k8 a V ft).heap b/\v.cls=.none/\∃fD ec,v.data=.fields fD/\ek.heap.get? b=A {v with data:=.fields<|fD++ec}:=by
  intro b v eX j;have po:b∈(aT k a mid y a.heap.life).tabs:=kE.mpr eX;rcases eX with rfl|rfl
  .have E:=(VH aG);have bW:=E.2.2;have cR:=d8.all _ _ bW;replace cR:=j▸cR;cases fu cR;exact cJ (n.2 1892 po _ #[] bW f f) λec f3=>⟨(E.keeps d8.all).2.isCodeTable,f,#[],ec,f,f3⟩
  .have E:=(VG aG);have bW:=E.2.2;have cR:=d8.all _ _ bW;replace cR:=j▸cR;cases fu cR;exact cJ (n.2 1940 po _ #[] bW f f) λec f3=>⟨(E.keeps d8.all).2.isCodeTable,f,#[],ec,f,f3⟩
 refine⟨λb v j=>?_,λb v j=>?_⟩
 .by_cases eX:b=1892\/b=1940
  .exact .inr<|.inl<|table b v eX j
  .exact .inl<|kd.1 _ _ (λe=>eX (by simpa using e)) j
 .by_cases eX:b=1892\/b=1940
  .exact eV (table b v eX j) λx x dX=>fM dX λfD ec x f3=>⟨_,f3⟩
  .exact⟨v,kd.1 _ _ (λe=>eX (by simpa using e)) j⟩
inductive CF(bj:Int)(cV:dK)(s:Nat)(t:List Nat):Prop|mk(fQ:BO bj cV=A ([((1,s,c8 t):Lay)].map pS))(fR:Fu ((c8 t).length:Int)=A (c8 t))(gs:∀aC∈t,aC<255)(i7:B' t=W)(kq:Mine.Ca t s (d8 t 1)=W)(mP:0<t.length/\t.length<=30)(sy:2<=s/\s<=16)(x0:((8*s-fn bj+8*t.length:Nat):Int)=freeOf bj)(AK:-3<=bj/\bj<=0)(D7:t.length≠s\/fn bj=0):CF bj cV s t
theorem akF{q:Nat}{bj:Int}{ff:bd}{s:Nat}(c:wH[q]?=A (bj,ff,s)):∃cV t,ff=oo cV/\CF bj cV s t:=by
 have ah:q<8:=(k_.mp c).1;have:=(show∀q<8,q=0\/q=1\/q=2\/q=3\/q=4\/q=5\/q=6\/q=7 by decide) q ah;rcases this with rfl|rfl|rfl|rfl|rfl|rfl|rfl|rfl<;>cases c
 .exact⟨.none,[25,1],f,by cbv,by cbv,aS,fv,fv,aS,aS,aS,aS,aS⟩
 .exact⟨.int 1,[113,164,166,119,10],f,by cbv,by cbv,aS,fv,fv,aS,aS,aS,aS,aS⟩
 .exact⟨.int 0,[166,0,134,5,176,15],f,by cbv,by cbv,aS,fv,fv,aS,aS,aS,aS,aS⟩
 .exact⟨.int 1,[166,0,134,5,176,15],f,by cbv,by cbv,aS,fv,fv,aS,aS,aS,aS,aS⟩
 .exact⟨.int 0,[175,238,208,249,215,252,196,28],f,by cbv,by cbv,aS,fv,fv,aS,aS,aS,aS,aS⟩
 .exact⟨.int 1,[175,238,208,249,215,252,196,28],f,by cbv,by cbv,aS,fv,fv,aS,aS,aS,aS,aS⟩
 .exact⟨.int 0,[251,67,46,61,118,70,64,94,32,45],f,by cbv,by cbv,aS,fv,fv,aS,aS,aS,aS,aS⟩
 .exact⟨.int 3,[199,249,155,48,190,124,218,137,216,87,207,59,22,91],f,by cbv,by cbv,aS,fv,fv,aS,aS,aS,aS,aS⟩
theorem tm(c:ev H):fJ (c8 H):=λh X=>by refine j2 X λs ay bK=>c2 bK ?_;have:=c s ay;exact⟨bZ (.cz (.n 0)<|.c .x) [] f,bZ (.cg (.c .x)<|.n 256) [.t .x<|.n 256] f this⟩
theorem oz(H:List Nat):(c8 H).length=H.length:=gp ..
theorem F_(c:fJ H)(U:H.length<=1000):oy [H]:=⟨λb n=>bc n▸⟨c,U⟩,by simp,by simp⟩
theorem akG(c:-3<=bj/\bj<=0):uH bj=0:=by unfold uH;rw[if_neg];simp;exact⟨gd (.fU (.n 2) .x) [.cz .x<|.n 0] f c.2,⟨gd (.fU (.n 3) .x) [.cz .x<|.n 0] f c.2,⟨gd (.fU (.n 4) .x) [.cz .x<|.n 0] f c.2,⟨gd (.fU (.n 5) .x) [.cz .x<|.n 0] f c.2,gd (.fU (.n 6) .x) [.cz .x<|.n 0] f c.2⟩⟩⟩⟩
noncomputable def nh(t bu:List Nat)(c:Nat):List Int:=fL (c8 bu) c++(c8<|im t bu).flatMap gY
theorem VL(b:List Int):(i3 [b]).length=8*b.length:=l (Cz ..)<|l (tl gY 8 q8 ..) f
theorem VM(aH:CF bj cV s t)(bw:s<=ae):rV [(1,s,c8 t)] ae:=by refine⟨λj br=>(bc br).symm▸?_,by show 1<=500;decide,by show s+0<=ae;omega⟩;have:=aH.7;have:=aH.6;refine⟨λh X=>?_,aH.2,by show s<=1000;lia,by refine l (oz ..) ?_;exact bZ (.l .x<|.n 100) [.l .x<|.n 30] f this.2⟩;refine j2 (show h∈t.map (λ(s:Nat)=>(s:Int))from X) λaC c4 b8=>c2 b8 ?_;have:=aH.3 aC c4;exact⟨bZ (.cz (.n 0)<|.c .x) [] f,bZ (.cg (.c .x)<|.n 255) [.t .x<|.n 255] f this⟩
theorem CG(bu:List Int)(c:Nat):(jq bu c).length=8*bu.length-c:=by unfold jq fL;exact l (gp ..)<|l zY<|l (tl gY 8 q8 ..)<|pm [1,0,-1] [1,1,0] (.e .x .y) [.l .x .y,.e .x .y] f (qi _ _)<|Am<|c' (.l .x<|.m 8 .y) [.l .x<|.m 8 .y] f<|hR _ _
set_option tactic.hygienic true in theorem VN(aG:dg k ap mid y am)(aH:CF bj cV s t)(n:ev bu)(aM:bu.length=s)(b':fn bj=0\/fn bj=4/\∃ab,bu=ab++[0]):Ms k ap mid y am z bj cV (jq (c8 bu)<|fn bj) (nh t bu<|fn bj):=by
 intro d5 aR bv R da nm E C bJ b7;have F':=tm n;have j9:=aH.7;have mr:=aH.6;have F1:=agL aH.3 n;have VO:=tm<|wF (t:=t) n;have uO:(c8 bu).length=s:=l (oz ..)<|l aM f;have VP:(c8<|im t bu).length=t.length:=l (oz ..)<|l (wE ..) f;have Ga:=aH.9;have aB:=akG Ga;have ow:(jq (c8 bu)<|fn bj).length<=2^20:=by refine l (CG ..)<|l uO ?_;exact gT [1,8,1] (.l .x<|.n 1048576) [.l .y<|.n 16,.l .x<|.m 8 .y] f j9.2<|hR _ _
 rcases b' with c|⟨c,ab,lj⟩
 .have zm:he (f7<|jq (c8 bu) 0) 0 s=c8 bu:=by have:=Vt F' aS<|Vu<|c8 bu;rwa[uO]at this
  have MB:([-3,-1]:List Int).any (·==bj)=a2:=by
   refine l Lu ?_;unfold fn at c;split at c
   .exact nomatch c
   .rename_i e;exact decide_eq_false e
  rw[c]at ow b7⊢;have j:l8 (f7<|jq (c8 bu) 0) (hP [(1,s,c8 t)])=(0+s,[c8 bu],[c8<|im t bu]):=by show(0+s,[he (f7<|jq (c8 bu) 0) 0 s],[nT (c8 t)<|he (f7<|jq (c8 bu) 0) 0 s])=_;exact l zm<|l F1 f
  have:=ajs (z:=z) (u:=d5) (q7:=[(1,s,c8 t)]) (aQ:=jq (c8 bu) 0) aG ⟨Ga.1,by exact gd (.cz .x<|.n 7) [.cz .x<|.n 0] f Ga.2⟩ MB bJ aH.1 (VM aH (by refine l (CG ..)<|l uO ?_;exact iO [8,1,1] (.l .x .y) [.t (.a .z<|.n 7)<|.a (.m 8 .y)<|.n 8,.l (.m 8 .x)<|.a .z<|.n 0] f (qh _ 7)<|fk _ _)) ow (j.symm▸F_ F' (c' (.l .x<|.n 1000) [.l .y<|.n 16,.e .x .y] f j9.2 uO)) (j▸F_ VO (c' (.l .x<|.n 1000) [.l .y<|.n 30,.e .x .y] f mr.2 VP)) (by refine l j<|l (VL ..) ?_;exact gT [1,8,8] (.l (.m 8 .x)<|.n 200000) [.l .y<|.n 16,.e .x .y] f j9.2 uO) b7;rw[j,aB,Cz,Cz]at this;have cR:nh t bu 0=(c8 bu).flatMap gY++(c8<|im t bu).flatMap gY++dE 0 0:=by unfold nh;refine l (Vu<|c8 bu) ?_;simp
  exact l cR this
 .have zo:c8 bu=c8 ab++[0]:=by refine l lj ?_;simp[c8]
  have zm:he (f7<|jq (c8 bu) 4) 0 s=c8 ab++[0]:=by have:=Vt (c:=4) F' aS<|zo▸ajZ (c8 ab);replace this:=uO▸this;exact l this<|l zo f
  have MB:([-3,-1]:List Int).any (·==bj)=W:=by
   refine l Lu ?_;unfold fn at c;split at c
   .rename_i e;exact decide_eq_true e
   .exact nomatch c
  have vD:(c8 ab).length+1=s:=by have:=congrArg sa zo;replace this:=uO▸this;simpa using this.symm
  have akH:fJ (c8 ab):=λh X=>F' h<|zo▸tA _ X;rw[c]at ow b7⊢;have:=aju (z:=z) (u:=d5) (aQ:=jq (c8 bu) 4) (s:=s) (t:=c8 t) (ab:=c8 ab) (B:=0) (w3:=c8<|im t bu) aG ⟨Ga.1,by lia⟩ MB bJ aH.1 (VM aH (by refine l (CG ..)<|l uO ?_;exact iO [8,1,1] (.l .x .y) [.t (.a .z<|.n 7)<|.a (.m 8 .y)<|.n 8,.l (.m 8 .x)<|.a .z<|.n 4] f (qh _ 7)<|fk _ _)) ow zm (by exact c2 zo<|l F1 f) (by
   refine l VP<|l vD<|eU (aH.10) (λe=>?_) λe=>?_
   .exact e
   .replace c:=e▸c;exact nomatch c) (F_ akH<|c' (.l .x<|.n 1000) [.l .y<|.n 16,.e (.o .x) .y] f j9.2 vD) (F_ VO (by lia)) (by refine l (VL ..) ?_;exact gT [1,8,8] (.l (.m 8 .x)<|.n 100000) [.l .y<|.n 16,.e (.o .x) .y] f j9.2 vD) b7;rw[aB,Cz,Cz]at this;have cR:nh t bu 4=(c8 ab).flatMap gY++(c9 4).map (h8 ((0:Int).fdiv 16) 4)++(c8<|im t bu).flatMap gY++dE 0 0:=by
   unfold nh;refine l zo<|l (Vv ..)<|l Nv<|l (u' ..) ?_
   congr 1
  exact l cR this
theorem VQ(n:ev bu):fJ (nh t bu c):=λh X=>by have cV:h=0\/h=1:=bD X (λe=>Mu (tm n) h<|G7 e) λe=>Mu (tm<|wF n) h e;rcases cV with rfl|rfl<;>decide
theorem CH(bu:List Nat)(c:Nat):(fL (c8 bu) c).length=8*bu.length-c:=by unfold fL;exact l zY<|l (tl gY 8 q8 ..)<|l (oz ..)<|pm [1,0,-1] [1,1,0] (.e .x .y) [.l .x .y,.e .x .y] f (qi _ _)<|Am<|c' (.l .x<|.m 8 .y) [.l .x<|.m 8 .y] f<|hR _ _
theorem VR:(nh t bu c).length=8*bu.length-c+8*t.length:=by unfold nh;exact l io<|l (CH ..)<|l (tl gY 8 q8 ..)<|l (oz ..)<|l (wE ..) f
theorem VS(n:ev bu):wordsOf ((nh t bu c).drop<|8*bu.length-c)=c8 (im t bu):=by unfold nh;exact CH bu c▸Nx.symm▸(ajX<|tm<|wF n).symm▸f
theorem VT:(nh t bu c).take (8*bu.length-c)=fL (c8 bu) c:=by unfold nh;exact CH bu c▸List.take_left.symm▸f
theorem akI(aG:dg k ap mid y am)(aH:CF bj cV s t)(n:ev<|r++g::e)(aM:(r++g::e).length=s)(br:j<256)(MC:j≠0)(aZ:1<=e.length)(b':fn bj=0\/fn bj=4/\∃c0,e=c0++[0]):F4 k ap mid y am z bj cV (c8<|r++g::e) (c8<|r++(g^^^j)::e) (fn bj) (jq (c8<|r++g::e)<|fn bj) (jq (c8<|r++(g^^^j)::e)<|fn bj) (nh t (r++g::e)<|fn bj) (nh t (r++(g^^^j)::e)<|fn bj):=by
 have j9:=aH.7;have mr:=aH.6;have VU:=aH.8;have aO:g<256:=n g (by simp);have y':ev (r++(g^^^j)::e):=λh X=>by
  refine bD X (λG=>?_) λG=>?_
  .exact n h<|bO G
  .rcases e1.mp G with rfl|G
   .exact ux aO br
   .exact n h<|bB<|mt G
 have pG:(r++(g^^^j)::e).length=s:=by refine c2 aM ?_;simp
 have akJ:fn bj=0\/fn bj=4:=b'.imp id λG=>G.1;have n6:fn bj<=4:=akJ.elim (λe=>l e aS) λe=>l e aS;have akK:fn bj=0\/fn bj=4/\∃ab,r++g::e=ab++[0]:=b'.imp id λ⟨G,c0,lg⟩=>⟨G,r++g::c0,by refine l lg ?_;simp⟩;have akL:fn bj=0\/fn bj=4/\∃ab,r++(g^^^j)::e=ab++[0]:=b'.imp id λ⟨G,c0,lg⟩=>⟨G,r++(g^^^j)::c0,by refine l lg ?_;simp⟩;have bc:=VN (z:=z) aG aH n aM akK;have JK:=VN (z:=z) aG aH y' pG akL;have akM:e.length<s:=by refine c2 aM ?_;simp;exact p4 ..
 have akN:=agc (t:=t) mr.1 Ub (r:=r) (e:=e) (g:=g) (z:=j) aH.5 akM br MC n;generalize LB:r++g::e=bu at*;generalize how:r++(g^^^j)::e=ou at*;generalize fn bj=c at*;have MD:(fL (c8 bu) c).length=8*s-c:=l (CH ..)<|l aM f;have w4:wordsOf ((nh t bu c).drop (fL (c8 bu) c).length)=c8 (im t bu):=MD▸aM▸VS n;have CB:wordsOf ((nh t ou c).drop (fL (c8 bu) c).length)=c8 (im t ou):=MD▸pG▸VS y';refine⟨Vs (tm n) c,Vs (tm y') c,by refine l (CG ..)<|l (oz ..)<|l aM ?_;exact gT [1,8,1] (.l .x<|.n 1000) [.l .y<|.n 16,.l .x<|.m 8 .y] f j9.2<|hR _ _,by refine l (CG ..)<|l (oz ..)<|l pG ?_;exact gT [1,8,1] (.l .x<|.n 1000) [.l .y<|.n 16,.l .x<|.m 8 .y] f j9.2<|hR _ _,bc,JK,VQ n,VQ y',?_,?_,?_,?_,⟨tm n,by refine l (oz ..)<|l aM ?_;exact j9.2⟩,by exact l (oz ..)<|l (oz ..)<|l aM<|l pG f,by refine l (oz ..)<|l aM ?_;exact a' n6<|a' (show 4<=8*2 from aS)<|zS 8 j9.1,?_,?_,?_⟩
 .exact l VR<|l aM VU
 .exact l VR<|l pG VU
 .exact l (CH ..) VT
 .exact l MD<|c2 pG VT
 .exact l w4<|⟨tm<|wF n,by refine l (oz ..)<|l (wE ..) ?_;exact bZ (.l .x<|.n 64) [.l .x<|.n 30] f mr.2⟩
 .intro p a8;rw[w4]at a8⊢;rw[oz,wE]at a8;have bW:c8 bu++c8 (im t bu)=c8 (bu++im t bu):=by simp[c8]
  refine l bW<|(agI<|qZ n<|wF n).symm▸(af4 aH.4 Ub n a8).symm▸?_;rfl
 .intro q h M X a3;replace X:=w4▸X;replace a3:=CB▸a3;unfold c8 at X a3;rw[fW]at X a3;refine n4 X λj6 hk eO=>?_;obtain rfl:=eO;refine n4 a3 λKN jI fE=>?_;obtain rfl:=fE;exact λe=>akN q j6 KN hk jI<|Int.ofNat.inj e
theorem akO(c:fJ H):∃ae:List Nat,H=c8 ae/\ev ae:=by
 refine⟨H.map Int.toNat,?_,λh X=>?_⟩
 .unfold c8;refine l ph ?_;conv=>lhs;rw[<-List.map_id H]
  refine vb λh X=>?_;have:=c h X;show h=((h.toNat:Nat):Int);exact HQ [1,0,1] [1,1,0] (.eK .x<|.c .x) [.cz .x<|.c .x,.eK (.c .x) .x] f (qj _)<|oK this.1
 .refine j2 X λM a3 b8=>c2 b8 ?_;have:=c M a3;exact qd (.t .x<|.n 256) [.cg .x<|.n 256,.eK (.c .x) .x] f this.2<|oK this.1
theorem akP(ot:List Int)(d4:Nat):fJ (nb ot d4):=λh X=>by exact j2 X λp x bK=>c2 bK<|⟨u2 _ aS,u3 _ aS⟩
theorem akQ(c:fJ H):fJ (iF bj H):=by
 unfold iF;split
 .exact Tw c aS _
 .exact c
theorem akR(bj:Int)(H:List Int):(iF bj H).length=H.length:=by unfold iF;split<;>simp
theorem akS(c:q<H.length):H=H.take q++H[q]::H.drop (q+1):=by exact c2 (De c)<|l (va ..) f
set_option tactic.hygienic true in theorem akT(z:Nat):VI z:=by
 intro k ap mid y am aG gm j3 bj ff d4 CA;refine fM (akF CA) λcV t dm aH=>l dm ?_;have j9:=aH.7;generalize numsOf gm=ew;have VV:(nb (lC ew) d4).length=d4:=by unfold nb;simp
 have VW:=akQ (bj:=bj)<|akP (lC ew) d4;have em:(iF bj<|nb (lC ew) d4).length=d4:=l (akR ..)<|l VV f;have py:fn bj=4->(iF bj<|nb (lC ew) d4).getLast?=A 0:=λc=>by unfold iF;exact l (if_pos c)<|l (List.getLast?_eq_getElem?)<|l Dh<|l (List.getElem?_set_self (by exact c' (.t .x .y) [.e (.a .x<|.n 1) .y] f<|eu<|gT [1,1,-1] (.l (.n 1) .x) [.l (.n 2) .y,.e .x .y] f j9.1 VV)) f
 generalize iF bj (nb (lC ew) d4)=de at VW em py;refine bl (akO VW) λmA dX akU=>?_;obtain rfl:=dX;rw[oz]at em;have c6:o5 ew d4<d4-1:=by have ag:=u3 (ew.getD 1 0) (b:=(d4:Int)-1) (by exact bZ (.cg (.n 0)<|.s (.c .x)<|.n 1) [.l (.n 2) .x] f j9.1);have aF:=u2 (ew.getD 1 0) (b:=(d4:Int)-1) (by exact bZ (.cg (.n 0)<|.s (.c .x)<|.n 1) [.l (.n 2) .x] f j9.1);unfold o5;exact xK (.t .x .y) [.cg .x<|.s (.c .z)<|.n 1,.l .z<|.a .y<|.n 1,.eK (.c .x) .x] f ag (fk _ _)<|oK aF
 unfold wI;generalize o5 ew d4=jg at c6;have CI:jg<mA.length:=ny [1,-1,1,1] (.t .x .y) [.e .y .z,.t .x .w,.e (.a .w<|.n 1) .z] f em c6<|eu<|gv (.l (.n 1) .x) [.t .y .z,.l .z .x] f c6<|hR _ _;refine eW (by have ag:=u3 (ew.getD 2 0) (b:=255) aS;have aF:=u2 (ew.getD 2 0) (b:=255) aS;obtain⟨ae,bw⟩:=xi aF;rw[bw]at ag⊢;exact⟨ae+1,f,GU ae,Nat.succ_lt_succ<|GN.mp ag⟩:∃j:Nat,(ew.getD 2 0).fmod 255+1=j/\j≠0/\j<256) λj br MC akV=>?_;have bW:(c8 mA).take jg++[lH ((c8 mA).getD jg 0)<|(ew.getD 2 0).fmod 255+1]++(c8 mA).drop (jg+1)=c8 (mA.take jg++(mA[jg]^^^j)::mA.drop (jg+1)):=by refine l br<|l (FM ..)<|l (B2 ..) ?_;unfold c8;refine l mb<|ju.symm▸z1.symm▸u9.symm▸(hF).symm▸(gQ CI).symm▸?_;simp
 refine l bW ?_;have ME:=akS CI;have CJ:(mA.drop<|jg+1).length=mA.length-(jg+1):=sb;have akW:fn bj=0\/fn bj=4/\∃c0,mA.drop (jg+1)=c0++[0]:=by
  by_cases cn:fn bj=4
  .refine .inr ⟨cn,?_⟩;have aM:=py cn;have c_:mA.drop (jg+1)≠[]:=λG=>by replace CJ:=G▸CJ;simp at CJ;exact qe [0,-1,1,-1,1,1] .f [.e .x .y,.t .z .w,.e (.n 0) .u,.l .x<|.a .u<|.o .z,.e (.a .w<|.n 1) .y] f em c6 CJ (fk _ _)<|eu<|gv (.l (.n 1) .x) [.t .y .z,.l .z .x] f c6<|hR _ _
   refine⟨(mA.drop<|jg+1).dropLast,?_⟩;have ag:(mA.drop<|jg+1).getLast c_=0:=by
    have aF:mA.getLast?=A 0:=by
     unfold c8 at aM;rw[List.getLast?_map]at aM;refine n4 aM λG U akX=>l U ?_
     congr 1;exact Al [1,0] [1,1] (.e .x<|.n 0) [.eK (.c .x)<|.n 0] f akX
    refine l (List.getLast_drop ..) ?_;rw[List.getLast?_eq_some_getLast (by intro G;replace CI:=G▸CI;simp at CI)]at aF;exact fu aF
   have bb:=List.dropLast_concat_getLast c_;replace bb:=ag▸bb;exact bb.symm
  .refine .inl ?_;unfold fn at cn⊢;split
   .rename_i e;rw[if_pos e]at cn;exact absurd f cn
   .rfl
 have ef:=akI (z:=z) (r:=mA.take jg) (g:=mA[jg]) (e:=mA.drop<|jg+1) (j:=j) aG aH (ME▸akU) (ME▸em) akV MC (by exact O2 [1,-1,1,-1,1,1] (.l (.n 1) .x) [.e .y .z,.t .w .u,.e .x<|.v 5,.l .y<|.a (.v 5)<|.o .w,.e (.a .u<|.n 1) .z] f em c6 CJ (fk _ _)<|eu<|gv (.l (.n 1) .x) [.t .y .z,.l .z .x] f c6<|hR _ _) akW;rw[<-ME]at ef;exact⟨cV,_,_,_,_,f,ef⟩
end Mine
end
theorem PySem.Challenge.cw_nv0011_03_holds : PySem.Challenge.rw_nv0011_03.Holds :=
 Mine.akf (Mine.akB (Mine.akT 0))
