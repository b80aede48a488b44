import PyProof.Rows.All
import Wide.All
import OpenK.AllK
import Wide.FinOn
import PySem.Challenge.RW_dm0047_11
set_option maxRecDepth 100000
set_option maxHeartbeats 0
set_option Elab.async false
set_option linter.unusedVariables false
set_option genInjectivity false
set_option genSizeOf false
set_option tactic.hygienic false
set_option genCtorIdx false
open And renaming right->P6
open Array renaming length_toList->Jx,getElem?_toList->JZ,getElem?_eq_getElem->J7,toList_push->Mc,getElem?_eq_none_iff->Ml,size_setIfInBounds->Mz,size_push->MC,toArray_toList->M9,isEmpty_iff_size_eq_zero->PH,eq_empty_of_size_eq_zero->PJ,getElem?_push_size->QP,getElem?_eq_none->Q5,toList_append->RI,size_append->Sb,toList_inj->Sx,any_toList->Sy,toList->Ui,any->Vb
open Array.Perm renaming refl->Rz
open Bool renaming noConfusion->Jq,and_eq_true->KV,false_ne_true->K9,eq_iff_iff->LM,or_eq_false_iff->OG,and_true->O2,false_eq_true->O5,or_eq_true->Qa,or_false->Uh
open Char renaming toNat->U9
open Classical renaming byContradiction->Jg,em->Qu
open Eq renaming trans->KH,symm->Tr
open False renaming elim->OZ
open ForInStep renaming yield->NM
open Int renaming toNat_natCast->J8,natCast_nonneg->KU,toNat_of_nonneg->My,toNat->M8,le_trans->Oo,le_of_lt->Oq,natCast_add->Ow,sub_nonneg_of_le->OM,le_refl->P9,eq_ofNat_of_zero_le->Rb,lt_trans->Rx,add_zero->Ry,mul_one->RW,toNat_of_nonpos->R8,negSucc_lt_zero->Sa,min_eq_right->To,max_eq_right->Tp,neg_one_mul->TK,min_eq_left->TM,max_eq_left->TN,le_antisymm->TP,add_nonneg->Ue,ofNat_sub->UA,add_assoc->UB,zero_add->UN,le_of_eq->UO
open Int.ofNat renaming inj->R9
open List renaming length_append->Ji,getElem?_eq_getElem->Jo,mem_of_getElem?->Jr,length_map->Jt,append_assoc->Jv,map_append->JF,mem_cons_self->JJ,not_mem_nil->JK,append_nil->JO,replicate->JQ,mem_cons_of_mem->JR,lookup_cons->JS,getElem?_append_left->JU,length_take->JV,getElem?_append_right->JW,getElem?_map->JY,length_cons->J5,map_map->J6,map_cons->Ke,length_reverse->Ki,mem_append_right->KD,range->KI,drop_eq_getElem_cons->KO,length_range->KQ,getElem?_eq_none->KR,getElem?_set_self->K0,map_congr_left->K3,length_replicate->K6,length_drop->K8,mem_append_left->Lg,size_toArray->Ln,take_of_length_le->Lv,drop_eq_nil_of_le->Lw,length_singleton->LC,mem_map_of_mem->LQ,getElem_mem->LS,length->L6,zipWith->L7,reverse_cons->Me,getElem?_set_ne->Mp,zipWith_append->Ms,replicate_succ->Mu,of_mem_zip->ME,nil_append->MF,length_set->MG,foldl_cons->MH,drop_zero->MT,take_append_drop->M0,getElem?_toArray->M1,map_nil->Np,nodup_append->ND,ext_getElem?->NF,all_cons->NL,take_length->NR,map_zipWith->NS,filter_cons_of_pos->NT,filter_cons_of_neg->NU,mem_append->Oj,length_nil->Ol,forIn_cons->Om,length_filter_le->Ou,getElem?_reverse->Ov,range'->OC,nodup_nil->OD,mem_of_mem_take->OE,map_id->OF,takeWhile_cons->OT,getElem?_range->OU,filterMap_cons->OV,pairwise_cons->O3,mem_singleton->O4,take_add_one->Pm,foldl_append->Pn,flatMap_cons->Po,replicate_append_replicate->PG,map_snd_zip->PL,map_fst_zip->PM,isEmpty_nil->PN,filter_cons->PO,cons_append->PQ,all_eq_true->PR,range_succ->P8,getD_eq_getElem?_getD->QE,foldl->QG,getElem?_take_of_lt->Q0,zipWith_cons_cons->Q9,mem_map->Ra,singleton_append->Rr,filterMap_append->Rt,eq_nil_or_concat->Ru,concat_eq_append->Rv,pairwise_append->RD,length_eraseIdx->RE,getElem?_zipIdx->RG,getElem?_range'->RH,reverse_append->RT,flatten_append->RU,zip_cons_cons->R4,lookup_append->R5,getElem?_drop->R6,filter_append->R7,pairwise_map->Su,mapM_toArray->Sv,suffix_refl->SP,suffix_cons->SQ,map_reverse->SR,drop_length->SS,nodup_cons->Tj,lookup_nil->Tn,mapM_cons->TJ,sum_cons->Ua,mem_cons->Ub,mapM_nil->Uc,findIdx?->Ud,all_map->Uz,zip->VO
open List.Pairwise renaming filter->UM
open List.cons renaming inj->KP
open Nat renaming le_refl->Jl,le_trans->Jn,lt_of_lt_of_le->Jp,lt_irrefl->Jw,not_lt_zero->Jy,le_succ->JC,le_add_right->JG,lt_succ_self->JL,zero_le->JN,le_of_eq->JX,ne_of_lt->J1,zero_add->Kf,lt_succ_of_lt->Kh,lt_of_le_of_lt->Kn,max_eq_right->Ks,le_of_lt->Ku,le_succ_of_le->KG,succ_le_succ->KW,succ_add_eq_add_succ->Ld,add_assoc->Le,sub_self->Lz,lt_or_ge->LA,le_of_add_right_le->LB,lt_add_of_pos_right->LX,add_sub_cancel_left->LY,add_zero->L9,le_of_ble_eq_true->Md,add_le_add_left->Mx,add_sub_cancel->MM,eq_of_beq_eq_true->M3,succ_ne_self->M7,min_le_left->Nk,lt_or_eq_of_le->NA,one_pos->NJ,le_of_lt_succ->NK,min_le_right->NY,sub_lt->Oe,ne_of_gt->Of,lt_of_succ_lt_succ->Og,beq->Oh,add_comm->Oi,succ_pos->Pz,sub_zero->PC,lt_trichotomy->PD,lt_trans->PE,succ_ne_zero->P0,min_eq_left->Qq,le_add_left->Qr,le_total->Rq,sub_eq_zero_of_le->RA,add_sub_add_right->RC,one_mul->RR,add_le_add_right->RS,sub_add_cancel->So,pos_of_ne_zero->Sp,lt_of_lt_of_eq->Sq,eq_zero_or_pos->Sr,lt_of_succ_lt->SO,lt_add_right->Tg,le_max_right->Th,mul_add_mod->TC,mul_add_div->TF,max_eq_left->TG,le_max_left->TH,mod_lt->Vv
open Ne renaming symm->Mj
open OfNat renaming ofNat->Ux
open Option renaming some->Jh,map->KC,map_eq_some_iff->LZ,or_assoc->Sn,or_none->SK,none_or->SM
open Option.some renaming inj->JP
open Prod.mk renaming inj->LR
open PyProof renaming noPylong_of_log2->Qp
open PyProof.Rows renaming arrOf->Ka,wpS_bind->KA,envOf->K5,wpS_pure->Lb,callWith_type->Lp,SortSt->Ly,wpS_forRange->NB,Keyed->OW,pairsOf_size->Qg,pairsOf->Qh,StrsAre->Ql,pendingOf->QH,get?_update_seq->Q2,wpS_get->Q6,seqObj->Rj,pairsOf_toList->Rk,mem_zip_self->Sh,AllBare->Sz,wpS_mono->S0,tail_any->S7,failedOf->Ta,wpS_modify->TQ,minRun'->Us,wpS->UD,stripBy_eq->U3,slot_list_sort->U4,lt_int->U5,entry_list_sort->U6,args_list_sort->U7,wpS_lift->Vc,len_list->Vg,subscriptTail->VE,listUpdate_at->VH,firstOfTuple'->VI
open PyProof.Rows.SortSt renaming mk'->Uw
open PySem renaming wpAny_bind->Jf,wpAny_pure->Jk,Shared->Js,model->Jz,wpAny_mono->JB,wpAny_holding->JD,wpAny->JH,builtinLookup_eq_fast->JM,typeLookup_type->J4,typeLookup->J9,wpAny_call_entry->Kb,wpAny_callSpecial?_slot->Kc,wpAny_newObj_type->Kj,wpAny_seqItems->Kr,call->Ky,compareOp->KJ,isSubtype_type->KN,cStatics->KS,mainGlobals->KY,codeAny_call_builtin->KZ,wpAny_attempt->K4,wpAny_field->K7,Builtin->La,wpAny_call->Lh,specialOf->Li,wpAny_loadName_local->Lr,firstArgMember->Ls,wpAny_setState_of->Lu,wpAny_updateSeq->Lx,wpAny_standAt->LF,wpAny_setField->LJ,World->LK,rawInt->LO,wpAny_specialOf->LP,wpAny_rule->LU,pyNext->LV,builtinsNs->LW,wpAny_isInstance->L8,codeAny_builtin->Mh,FuncData->Mk,typeOf->Mv,binaryOp->Mw,wpAny_askSetting->MD,wpAny_setEntries_of->MJ,theTreesLotGoes->MP,holding->MQ,codeAny_of_tree->MR,wpAny_setField_rec->MU,pyIter->MV,isInstance->MW,wpAny_of_eq->MX,seqIndex?->MY,isSubtype->MZ,isSubtype_stop->M5,codeAny_mono->M6,wpAny_Name->Ng,wpAny_Call_NameR->Nh,opaqueClassAbove->Ni,entryFor_of_tree->Nj,swappedStores->Nl,strLen_append->Nm,plainId_quiet->Nn,sliceBounds->Nr,interactive->Nt,SetTable->Nu,Operator->Nv,codeAny->NC,typeIs_str->NN,entryFor->NO,assign->NP,wpAny_truthy_bool->NZ,wpAny_pyIter_list->N0,wpAny_loadPart_at->N1,wpAny_letGo->N2,wpAny_handled->Oa,stored->Ob,argsOk->Oc,checkBuiltinCall->Ox,cellsFrom->Oy,wpAny_pyNext_list_item->OH,wpAny_allTrue_And_cons->OI,call_meetsIn->OJ,IsPair->OL,letOwnedTupleGo->ON,importedModules->OO,wpAny_pyNext_list_end->OX,wpAny_throw->O6,wpAny_newFunctionEnv->O7,wpAny_fieldsOf->O8,relayAll->O9,execs->Pa,builtinKind->Pb,Draws->Pd,standAt->Pf,setNext->Pg,noteFrame->Pj,inplaceOp->Pl,builtinType_eq_fast->Pq,behindInMarks->PK,wpAny_Constant_str->PW,splitAtGen->PX,sliceRange->PY,wpAny_typeOf->Qb,wpAny_pyIter_slot->Qc,wpAny_assign_Name->Qd,valueAt->Qe,seg_wrap->Qf,foldedSetIterable->Qi,fits_of_scanBound->Qj,IsZip->Qs,GenState->Qt,BindsTo->Qw,Tok->Qx,partValue->QI,handedOut->QJ,unsupported->QQ,field->QR,wpAny_execs_nil->Q1,Sem->Q7,wpAny_newTuple->Rc,wpAny_load->Rd,table->Rf,sysModules->Rg,strKind_is->Rh,starEach->Ri,keeperOf->Rm,entryFor_alias->Rn,dictSetDefault->Ro,am_entry_dict_getattribute->Rp,JoinOk->Rw,wpAny_onRaise->RJ,wpAny_assignInOrder_none->RL,wpAny_assignInOrder_more->RM,filterMap_getElem?_range->RN,tc_lookup->RX,strValues->RY,pickOrder->RZ,codeAny_call_builtin_at->R3,passing->Sf,meets_dict_get_default->Si,isTrue->Sj,genEnv->Sk,callerA->Sl,wpAny_notOrdered_dict->SA,wpAny_isTrue_Compare1->SD,wpAny_allTrue_And_nil->SF,codeAny_call_function->SI,treeTable->SJ,wpAny_updateSeq_pair->S3,wpAny_letTemporaryGo->S4,wpAny_alloc->S5,wants->S6,slicePicked->S8,mroOf->S9,excClassObj->Tb,builtinType->Tc,bindSpecial->Td,am_dict_getattr_none->Te,Frame->Tq,wpAny_isTrue_BoolOp->Tw,wpAny_Assign_stores->Tx,call_enumerate_list->Tz,wpAny_pyIter_ascii->TR,wpAny_getItem_list->TU,truthy->TX,slot_listiter_next->TY,newExc->TZ,call_meets->T3,assignEach->T4,SignAt->T7,wpAny_storeSet_of->Uj,wpAny_sequenceKey->Uk,wpAny_pyIter_wide->Ul,wpAny_dictEntries->Um,wpAny_Call_method->Un,slot_list_setitem->Uo,setItem->Uq,plainId->Ur,intKind->Ut,getItem->Uu,getAttr->Uv,wpAny_pyIter_zip->UE,slicePick->UH,sliceMade->UI,seg_again->UJ,Slot->UK,Pos->UL,wpAny_tests_nil->UR,wpAny_ite_split->US,wpAny_ite_true->Vd,seg_at->Ve,methodCallForm->Vf,entry_typeCall->Vj,checkBoundCall->Vk,callWith->Vl,callType_codes->Vn,bindName->Vo,again->Vp,Thread->Vq,MulOk->Vw,Model->Vx,BoolOp->VA,wpAny_release->VB,typeLookup_eq->VC,swapsWithSole->VD,slot_gen_next->VF,methodCallPos->VG,fenceModules?->VJ,code_list_new->VK,assignInOrder->VL,Seg->VN
open PySem.Around renaming under_plainId->LH
open PySem.Bind renaming madeBy->MN,checkArgs->Nx,staticBase->Ot
open PySem.Builtin.Dict renaming showsAll->P4
open PySem.Builtin.Dict_items renaming ownsTuple->SY
open PySem.Builtin.Frozenset renaming oneOther->OB,slot0->Tu,newClass->Tv
open PySem.Builtin.Generator renaming genWake->Ts
open PySem.Builtin.List renaming listSameRef->Mg,listUpdate->Nq,listExtendWith->O1,listTouch->PT,listItems->PU,listSubscript?->Va
open PySem.Builtin.Range renaming rangeSize->UQ
open PySem.Builtin.SmallTypes renaming nextOf->Lm,ownedTupleIsFree->SW,ownedTupleHandOut->SX
open PySem.Builtin.Str renaming strSliceIndices->L2,subAt->Nf,occurrences->PS,tooLong->Vy,strSub->Vz
open PySem.Calls renaming callWith_builtin->MO,callWith_function->NQ,evalArgs_plain->OA,spliced_cons->O0,spliced_nil->Pe,Name_function_global->Qv
open PySem.Challenge renaming pw_dm0047_11->MK,rw_dm0047_11->T8
open PySem.Code renaming quiet_builtin->Nw
open PySem.Data renaming noConfusion->Km
open PySem.Draws renaming list->UP
open PySem.ExcName renaming means->SU
open PySem.F renaming plain_extend_loop->Kz,plainAttrs_str->KX,slot_tuple_iterator_next->LG,entry_extend_loop->Mn,plainAttrs_list->MA,plainAttrs_dict->MB,slot_str_isspace->Ny,args_tuple_iterator_next_1->OK,entry_tuple_iterator_next->OR,args_dict_getattribute_2->OY,slot_dict_getattribute->Pc,slot_dict_setdefault->Py,args_object_init_3->PZ,slot_dict_delitem->P7,type_str_isspace->Qm,slot_list_extend->Qn,args_list_init_2->Qo,typeCall_list_1->Qz,slot_str_rstrip->QA,slot_dict_items->QC,entry_list_init->QD,slot_dict_keys->QM,entry_dict_get->QN,type_str_join->QS,type_dict_get->QT,slot_zip_next->QU,slot_str_join->QV,slot_set_iter->QW,slot_list_pop->QX,slot_dict_get->QY,plain_set_new->QZ,slot_set_add->Q4,called_list->Q8
open PySem.Fin renaming again->VP
open PySem.Frame renaming guarded->NH,where_->Ug
open PySem.Heap renaming get?_push_of_some->Jm,get?_push_size->Ju,size_push->JA,lt_size->JE,get?_update_self->J0,SameBut->Kx,get?_update_other->KL,size_update->M4,ExtBut->Nb
open PySem.Heap.SameBut renaming update->J2,refl->QO
open PySem.Manifest renaming signature?->Mo,canonical->Nd
open PySem.Obj renaming mapSeq->Kq,data_mapFields->Nz,isFreed_of_fields->Oz,data_mapDictKeys->RQ,cls_mapFields->SN,data->T9,mapFields->Uy,putSet->Vu
open PySem.Pairs renaming nil->U8
open PySem.Sem renaming bind_eq_wrap'->Mf,wrap_wrap->Na,bind_eq_wrap->Tf,wp->Vr
open PySem.SeqAt renaming eq_list_lengthsAt->Vs,eq_listAt->Vt
open PySem.SetTable renaming grown->Mb,below->Nc
open PySem.SetTable.below renaming go->N3
open PySem.Shared renaming setGen->Qy
open PySem.Stmt renaming Expr->Q3,ClassDef->T6
open PySem.Str renaming ofString->Jj,empty->OQ,join->T5
open PySem.Txt renaming slice->Lo,isspace->NI,mul->Od,join->Pw,rstrip->QK
open PySem.Unicode renaming isSpace->Kw
open PySem.Value renaming noConfusion->JT,ref->J3,none->L3,isStrOf_shape->Mr,builtin->OP,str->Pu,type->Qk
open PySem.Value.ref renaming inj->Mq
open PySem.Value.type renaming inj->VM
open PySem.W renaming Looks->Ko,opening->Ph,methodObj->R2,Ground->Sw,namesBound->T2,staticsOk->UG,laidKept->Vh,gensDone->Vi
open PySem.W.Fast renaming tw13482112738370960269->Lj,tw11892475500146522536->Lk,tw10156331382660048174->Ll,tw4202317264376624991->Mm,tw14364793385576792824->NV,te11892475500146522536->NW,te10156331382660048174->NX,tw8920871248978507458->N5,tw6613529449190102663->N6,tw3805553451399329143->N7,tw1435165496053646825->N8,te8920871248978507458->N9,tw4187177175401517315->UT,tw14289696077712309145->UU,te6613529449190102663->UW,te4187177175401517315->UX,te3805553451399329143->UY,te14364793385576792824->UZ,te1435165496053646825->U0,te14289696077712309145->U1,te13482112738370960269->U2
open PySem.W.Frag renaming In->UC
open PySem.W.Looks renaming of_pure->LN,ld->Ma,andThen->OS
open PySem.W.OpenLaw renaming wellSaid->RP
open PySem.W.R renaming anyR->Px
open PySem.isSame renaming created->SH
open PySem.pickOrder renaming go->Se
open Std.Legacy.Range renaming size->TA,forIn_eq_forIn_range'->TB
open PySem PySem.W PyProof.Rows
namespace Mine.Internal
theorem c0{α:Type}{l:List α}{x:α}(i:Nat)(h:l[i]?=Jh x):x∈l:=Jr h
noncomputable abbrev d0:Str:=⟨⟨[115,101,108,102]⟩⟩
noncomputable abbrev eF:Str:=⟨⟨[112,97,114,116,115]⟩⟩
noncomputable abbrev eO:Str:=⟨⟨[98]⟩⟩
noncomputable abbrev fV:Str:=⟨⟨[97]⟩⟩
noncomputable abbrev gW:Str:=⟨⟨[115,99,114,105,112,116]⟩⟩
noncomputable abbrev jK:Str:=⟨⟨[114,111,119]⟩⟩
noncomputable abbrev jJ:Str:=⟨⟨[98,101,108,111,119]⟩⟩
noncomputable abbrev kN:Str:=⟨⟨[105,115,106,117,110,107]⟩⟩
noncomputable abbrev lT:Str:=⟨⟨[97,117,116,111,106,117,110,107]⟩⟩
noncomputable abbrev lS:Str:=⟨⟨[101,113,117,97,108]⟩⟩
noncomputable abbrev iB:Str:=⟨⟨[97,108,105,107,101]⟩⟩
noncomputable abbrev jj:Str:=⟨⟨[109,97,116,99,104,105,110,103,95,98,108,111,99,107,115]⟩⟩
noncomputable abbrev ji:Str:=⟨⟨[63,32]⟩⟩
noncomputable abbrev km:Str:=⟨⟨[98,50,106]⟩⟩
noncomputable abbrev lX:Str:=⟨⟨[111,112,99,111,100,101,115]⟩⟩
noncomputable abbrev lW:Str:=⟨⟨[45,32]⟩⟩
noncomputable abbrev lV:Str:=⟨⟨[43,32]⟩⟩
noncomputable abbrev lU:Str:=⟨⟨[108,105,110,101,115]⟩⟩
noncomputable abbrev nH:Str:=⟨⟨[114,101,112,108,97,99,101]⟩⟩
noncomputable abbrev nG:Str:=⟨⟨[100,101,108,101,116,101]⟩⟩
noncomputable abbrev qz:Str:=⟨⟨[102,117,108,108,98,99,111,117,110,116]⟩⟩
noncomputable abbrev qy:Str:=⟨⟨[105,110,115,101,114,116]⟩⟩
noncomputable abbrev qx:Str:=⟨⟨[100,101,108,116,97]⟩⟩
noncomputable abbrev qw:Str:=⟨⟨[109,97,116,99,104,101,114]⟩⟩
noncomputable abbrev qu:Str:=⟨⟨[99,111,100,101]⟩⟩
noncomputable abbrev uj:Str:=⟨⟨[108,105,110,101,106,117,110,107]⟩⟩
noncomputable abbrev ui:Str:=⟨⟨[99,104,97,114,106,117,110,107]⟩⟩
noncomputable abbrev uh:Str:=⟨⟨[105]⟩⟩
noncomputable abbrev ug:Str:=⟨⟨[115,105,122,101]⟩⟩
noncomputable abbrev uf:Str:=⟨⟨[111,110,101]⟩⟩
noncomputable abbrev ue:Str:=⟨⟨[116,119,111]⟩⟩
noncomputable abbrev ud:Str:=⟨⟨[115,105,100,101]⟩⟩
noncomputable abbrev xE:Str:=⟨⟨[98,106,117,110,107]⟩⟩
noncomputable abbrev xD:Str:=⟨⟨[97,108,105,110,101]⟩⟩
noncomputable abbrev xC:Str:=⟨⟨[98,108,105,110,101]⟩⟩
noncomputable abbrev xB:Str:=⟨⟨[97,116,97,103,115]⟩⟩
noncomputable abbrev xA:Str:=⟨⟨[98,116,97,103,115]⟩⟩
noncomputable abbrev xy:Str:=⟨⟨[119,104,105,99,104]⟩⟩
noncomputable abbrev xx:Str:=⟨⟨[111,119,110]⟩⟩
noncomputable abbrev xw:Str:=⟨⟨[116,104,101,105,114,115]⟩⟩
noncomputable abbrev BP:Str:=⟨⟨[98,112,111,112,117,108,97,114]⟩⟩
noncomputable abbrev BO:Str:=⟨⟨[106,50,108,101,110]⟩⟩
noncomputable abbrev BN:Str:=⟨⟨[110,111,116,104,105,110,103]⟩⟩
noncomputable abbrev BM:Str:=⟨⟨[95,99,108,115]⟩⟩
noncomputable abbrev BL:Str:=⟨⟨[105,116,101,114,97,98,108,101]⟩⟩
noncomputable abbrev BK:Str:=⟨⟨[105,110,100,105,99,101,115]⟩⟩
noncomputable abbrev BJ:Str:=⟨⟨[106,117,110,107]⟩⟩
noncomputable abbrev BI:Str:=⟨⟨[116,97,103,95,115]⟩⟩
noncomputable abbrev BH:Str:=⟨⟨[111,108,100,115]⟩⟩
noncomputable abbrev BG:Str:=⟨⟨[110,101,119,115]⟩⟩
noncomputable abbrev BF:Str:=⟨⟨[99,111,100,101,115]⟩⟩
section
inductive Tm where
 |v (i:Nat)
 |n (x:Nat)
 |p (a b:Tm)
 |m (a b:Tm)
 |t (x:Nat) (a:Tm)
 |u (a:Tm) (x:Nat)
 |mn (a b:Tm)
 |mx (a b:Tm)
inductive Ti where
 |cn (a:Tm)
 |v (i:Nat)
 |n (x:Nat)
 |p (a b:Ti)
 |m (a b:Ti)
 |g (a:Ti)
 |t (x:Nat) (a:Ti)
 |mn (a b:Ti)
 |mx (a b:Ti)
noncomputable abbrev uc{c:Type}(d:c):List c->Nat->c
 |[],z=>d
 |a::l,i=>match i with
  |0=>a
  |i+1=>uc d l i
noncomputable abbrev Tm.den(c:List Nat):Tm->Nat
 |.v i=>uc 0 c i
 |.n x=>x
 |.p a b=>a.den c+b.den c
 |.m a b=>a.den c-b.den c
 |.t x a=>x*a.den c
 |.u a x=>a.den c*x
 |.mn a b=>min (a.den c) (b.den c)
 |.mx a b=>max (a.den c) (b.den c)
noncomputable abbrev Ti.den(c:List Nat)(d:List Int):Ti->Int
 |.cn a=>(a.den c:Int)
 |.v i=>uc 0 d i
 |.n x=>Ux x
 |.p a b=>a.den c d+b.den c d
 |.m a b=>a.den c d-b.den c d
 |.g a=> - a.den c d
 |.t x a=>Ux x*a.den c d
 |.mn a b=>min (a.den c d) (b.den c d)
 |.mx a b=>max (a.den c d) (b.den c d)
set_option genCtorIdx true in
inductive Rl where
 |le | lt | eq | ne
noncomputable abbrev Rl.N:Rl->Nat->Nat->Prop
 |.le,a,b=>a<=b
 |.lt,a,b=>a<b
 |.eq,a,b=>a=b
 |.ne,a,b=>a≠b
noncomputable abbrev Rl.I:Rl->Int->Int->Prop
 |.le,a,b=>a<=b
 |.lt,a,b=>a<b
 |.eq,a,b=>a=b
 |.ne,a,b=>a≠b
inductive Pr where
 |ff
 |rn (r:Rl) (a b:Tm)
 |ri (r:Rl) (a b:Ti)
 |not (p:Pr)
 |and(p q:Pr)
 |or (p q:Pr)
 |iff (p q:Pr)
noncomputable abbrev Pr.den(c:List Nat)(d:List Int):Pr->Prop
 |.ff=>False
 |.rn r a b=>r.N (a.den c) (b.den c)
 |.ri r a b=>r.I (a.den c d) (b.den c d)
 |.not p=>¬p.den c d
 |.and p q=>p.den c d/\q.den c d
 |.or p q=>p.den c d∨q.den c d
 |.iff p q=>(p.den c d↔q.den c d)
noncomputable abbrev Sd(a:List Nat)(c:List Int)(g:Pr):List Pr->Prop
 |[]=>g.den a c
 |h::d=>h.den a c->Sd a c g d
noncomputable abbrev Lf:=List Int
noncomputable def kQ:Lf->Lf->Lf
 |[],m=>m
 |a::l,m=>match m with
  |[]=>a::l
  |b::m=>(a+b)::kQ l m
noncomputable def wm(k:Int):Lf->Lf
 |[]=>[]
 |a::l=>(k*a)::wm k l
noncomputable def dM(l m:Lf):Lf:=kQ l (wm (-1) m)
noncomputable def AW:Nat->Lf
 |0=>[1]
 |i+1=>0::AW i
noncomputable def jN(l:Lf):(Nat->Nat)->Int:=match l with
 |[]=>λz=>0
 |a::l=>λe=>a*(e 0:Int)+jN l λi=>e (i+1)
inductive Ct where
 |l (ms:List Nat)
 |b (x y:Ct)
noncomputable abbrev Kt:=List Lf->Ct->Bool
noncomputable def Ct.br(c:Ct)(f g:Ct->Bool):Bool:=match c with
 |.b x y=>f x&&g y
 |.l ms=>f (.l ms)&&g (.l ms)
noncomputable def Tm.ck:Tm->(Lf->Kt)->Kt
 |.v i,k,d,c=>k (AW (3*i+1)) d c
 |.n x,k,d,c=>k [(x:Int)] d c
 |.p a b,k,d,c=>a.ck (λla=>b.ck λlb=>k (kQ la lb)) d c
 |.m a b,k,d,c=>a.ck (λla=>b.ck λlb d c=>c.br (λx=>k (dM la lb) (d++[dM la lb]) x) λy=>k [] (d++[dM lb la]) y) d c
 |.t x a,k,d,c=>a.ck (λla=>k (wm x la)) d c
 |.u a x,k,d,c=>a.ck (λla=>k (wm x la)) d c
 |.mn a b,k,d,c=>a.ck (λla=>b.ck λlb d c=>c.br (λx=>k lb (d++[dM la lb]) x) λy=>k la (d++[dM lb la]) y) d c
 |.mx a b,k,d,c=>a.ck (λla=>b.ck λlb d c=>c.br (λx=>k la (d++[dM la lb]) x) λy=>k lb (d++[dM lb la]) y) d c
noncomputable def Ti.ck:Ti->(Lf->Kt)->Kt
 |.cn a,k,d,c=>a.ck k d c
 |.v i,k,d,c=>k (dM (AW (3*i+2)) (AW (3*i+3))) d c
 |.n x,k,d,c=>k [(x:Int)] d c
 |.p a b,k,d,c=>a.ck (λla=>b.ck λlb=>k (kQ la lb)) d c
 |.m a b,k,d,c=>a.ck (λla=>b.ck λlb=>k (dM la lb)) d c
 |.g a,k,d,c=>a.ck (λla=>k (wm (-1) la)) d c
 |.t x a,k,d,c=>a.ck (λla=>k (wm x la)) d c
 |.mn a b,k,d,c=>a.ck (λla=>b.ck λlb d c=>c.br (λx=>k lb (d++[dM la lb]) x) λy=>k la (d++[dM lb la]) y) d c
 |.mx a b,k,d,c=>a.ck (λla=>b.ck λlb d c=>c.br (λx=>k la (d++[dM la lb]) x) λy=>k lb (d++[dM lb la]) y) d c
noncomputable def Hj(z:Bool)(x y:Lf)(k:Kt):Kt:=match z with
 |true=>λa c=>k (a++[dM x y]++[dM y x]) c
 |false=>λa c=>c.br (λd=>k (a++[kQ [-1] (dM x y)]) d) λd=>k (a++[kQ [-1] (dM y x)]) d
noncomputable def Ha(z:Bool)(x y:Lf)(k:Kt):Kt:=match z with
 |true=>λa c=>k (a++[dM y x]) c
 |false=>λa c=>k (a++[kQ [-1] (dM x y)]) c
noncomputable def Rl.ck(r:Rl)(z:Bool)(x y:Lf)(k:Kt):Kt:=match r with
 |.le=>Ha z x y k
 |.lt=>Ha (!z) y x k
 |.eq=>Hj z x y k
 |.ne=>Hj (!z) x y k
noncomputable def Pr.ck:Pr->Bool->Kt->Kt
 |.ff,z,k,e,c=>z || k e c
 |.rn r a b,z,k,e,c=>a.ck (λla=>b.ck λlb=>r.ck z la lb k) e c
 |.ri r a b,z,k,e,c=>a.ck (λla=>b.ck λlb=>r.ck z la lb k) e c
 |.not p,z,k,e,c=>p.ck (!z) k e c
 |.and p q,z,k,e,c=>match z with
  |true=>p.ck true (q.ck true k) e c
  |false=>c.br (λd=>p.ck false k e d) λd=>q.ck false k e d
 |.or p q,z,k,e,c=>match z with
  |false=>p.ck false (q.ck false k) e c
  |true=>c.br (λd=>p.ck true k e d) λd=>q.ck true k e d
 |.iff p q,z,k,e,c=>c.br (λd=>p.ck true (q.ck z k) e d) λd=>p.ck false (q.ck (!z) k) e d
noncomputable def comb:List Nat->List Lf->Lf
 |[],z=>[]
 |m::ms,a=>match a with
  |[]=>[]
  |c::a=>kQ (wm m c) (comb ms a)
noncomputable def isNeg:Int->Bool
 |.negSucc z=>true
 |.ofNat z=>false
noncomputable def CX:Int->Bool
 |.negSucc z=>true
 |.ofNat n=>n.beq 0
noncomputable def EE(l:Lf):Bool:=match l with
 |[]=>false
 |a::l=>isNeg a&&l.all CX
noncomputable def Ak(a:List Lf)(c:Ct):Bool:=match c with
 |.b z y=>false
 |.l ms=>EE (comb ms a)
noncomputable def C0:List Pr->Kt->Kt
 |[],k=>k
 |h::a,k=>h.ck true (C0 a k)
noncomputable def GJ(g:Pr)(a:List Pr)(c:Ct):Bool:=C0 a (g.ck false Ak) [] c
section
variable {B:List Nat}{A:List Int}
theorem G6{a}{b x l m:Int}(h:l=m):(a+b)*x+l=a*x+b*x+m:=by rw[h,Int.add_mul]
theorem l7:∀(l m:Lf) (e:Nat->Nat),jN (kQ l m) e=jN l e+jN m e
 |[],m,e=>(UN _).symm
 |a::l,[],e=>(Ry _).symm
 |a::l,b::m,e=>by
  refine(G6 (l7 l m _)).trans ?_;show _=a*(e 0:Int)+_+(b*(e 0:Int)+_)
  rw[UB,UB,Int.add_left_comm (b*(e 0:Int))]
theorem o8(k:Int):∀(l:Lf) (e:Nat->Nat),jN (wm k l) e=k*jN l e
 |[],e=>(Int.mul_zero _).symm
 |a::l,e=>by
  show k*a*(e 0:Int)+jN (wm k l) _=k*(a*(e 0:Int)+_);rw[o8 k l,Int.mul_add,Int.mul_assoc]
theorem qI(l m:Lf)(e:Nat->Nat):jN (dM l m) e=jN l e-jN m e:=by
 unfold dM;rw[l7,o8,TK];rfl
theorem oZ:∀(i:Nat) (e:Nat->Nat),jN (AW i) e=(e i:Int)
 |0,e=>(Ry _).trans (Int.one_mul _)
 |i+1,e=>(congrArg (· + _) (Int.zero_mul _)).trans ((UN _).trans (oZ i _))
noncomputable def Ay(B:List Nat)(A:List Int)(k j:Nat):Nat:=match k with
 |0=>uc 0 B j
 |1=>(uc 0 A j).toNat
 |_=>(-uc 0 A j).toNat
noncomputable def env(B:List Nat)(A:List Int)(i:Nat):Nat:=match i with
 |0=>1
 |i+1=>Ay B A (i % 3) (i / 3)
noncomputable def LD(B:List Nat)(A:List Int)(l:Lf):Int:=jN l (env B A)
mutual
theorem pd(l m:Lf):LD B A (kQ l m)=LD B A l+LD B A m:=l7 ..
theorem o9(l m:Lf):LD B A (dM l m)=LD B A l-LD B A m:=qI ..
theorem BU(k:Int)(l:Lf):LD B A (wm k l)=k*LD B A l:=o8 ..
theorem CQ(x:Int):LD B A [x]=x:=(Ry _).trans (RW x)
theorem G8(i:Nat):LD B A (AW (3*i+1))=((uc 0 B i:Nat):Int):=by
 refine(oZ _ _).trans ?_;show((Ay B A ((3*i) % 3) ((3*i) / 3):Nat):Int)=_;rw[Nat.mul_mod_right,Nat.mul_div_cancel_left _ (by decide)];rfl
theorem G9(i:Nat):LD B A (dM (AW (3*i+2)) (AW (3*i+3)))=uc 0 A i:=by
 refine(qI _ _ _).trans ?_;rw[oZ,oZ];show((Ay B A ((3*i+1) % 3) ((3*i+1) / 3):Nat):Int)-((Ay B A ((3*i+2) % 3) ((3*i+2) / 3):Nat):Int)=_;rw[TC,TC,TF (by decide),TF (by decide)];exact Int.toNat_sub_toNat_neg (uc 0 A i)
end
noncomputable def Gc(B:List Nat)(A:List Int)(a:List Lf):Prop:=∀c∈a,0<=LD B A c
theorem Gc.add{cs l}(g:Gc B A cs)(h:0<=LD B A l):Gc B A (cs++[l]):=λc hc=>by
 rcases Oj.mp hc with q | q
 ·exact g c q
 ·rw[O4.mp q];exact h
mutual
theorem Gc.sub{cs l m x y}(g:Gc B A cs)(a:LD B A l=x)(c:LD B A m=y)(h:y<=x):Gc B A (cs++[dM l m]) :=
 g.add (by rw[o9,a,c];exact OM h)
theorem Gc.Cm{cs l m x y}(g:Gc B A cs)(a:LD B A l=x)(c:LD B A m=y)(h:¬x<=y):Gc B A (cs++[kQ [-1] (dM l m)]) :=
 g.add (by
  rw[pd,o9,a,c,CQ,Int.add_comm];exact OM (Int.add_one_le_of_lt (Int.sub_pos_of_lt (Int.not_le.mp h))))
end
theorem yT{X:Prop}{c:Ct}{f g}(h:c.br f g=true)(k:∀x y,f x=true->g y=true->X):X:=by
 cases c with
 |l ms=>exact k _ _ (Bool.and_eq_true_iff.mp h).1 (Bool.and_eq_true_iff.mp h).2
 |b x y=>exact k x y (Bool.and_eq_true_iff.mp h).1 (Bool.and_eq_true_iff.mp h).2
noncomputable def Tk(B:List Nat)(A:List Int)(d:Int)(f:(Lf->Kt)->Kt):Prop:=∀(X:Prop) (k:Lf->Kt) a c,f k a c=true->Gc B A a->(∀l a c,k l a c=true->Gc B A a->LD B A l=d->X)->X
theorem wO{a}{b:Nat}(h:b<=a):(a:Int)-(b:Int)=((a-b:Nat):Int):=(UA h).symm
mutual
theorem GG{x y d f g}{o:Lf->Lf->Lf}(j:Tk B A x f)(p:Tk B A y g)(q:∀l m,LD B A l=x->LD B A m=y->LD B A (o l m)=d):Tk B A d λk=>f λla=>g λlb=>k (o la lb) :=
 λX k a c h w K=>j X _ a c h w λla a c h w e=>p X _ a c h w λlb a c h w i=>K _ _ _ h w (q _ _ e i)
theorem GF{a b d f g}{o o':Lf->Lf->Lf}(z:Tk B A a f)(C:Tk B A b g)(u:∀l m,LD B A l=a->LD B A m=b->b<=a->LD B A (o l m)=d)(v:∀l m,LD B A l=a->LD B A m=b->a<=b->LD B A (o' l m)=d) :
  Tk B A d λk=>f λla=>g λlb e c=>c.br (λx=>k (o la lb) (e++[dM la lb]) x) λy=>k (o' la lb) (e++[dM lb la]) y :=
 λX k e c h w K=>z X _ e c h w λla e c h w i=>C X _ e c h w λlb e c h w j=>yT h λx y p q=>(Int.le_total b a).elim (λr=>K _ _ _ p (w.sub i j r) (u _ _ i j r)) λr=>K _ _ _ q (w.sub j i r) (v _ _ i j r)
end
mutual
theorem H0{a b f g}(i:Tk B A a f)(j:Tk B A b g):Tk B A (min a b) λk=>f λla=>g λlb d c=>c.br (λx=>k lb (d++[dM la lb]) x) λy=>k la (d++[dM lb la]) y :=
 GF (o:=λz m=>m) (o':=λl z=>l) i j (λl m e h r=>h.trans (To r).symm) λl m e h r=>e.trans (TM r).symm
theorem HZ{a b f g}(i:Tk B A a f)(j:Tk B A b g):Tk B A (max a b) λk=>f λla=>g λlb d c=>c.br (λx=>k la (d++[dM la lb]) x) λy=>k lb (d++[dM lb la]) y :=
 GF (o:=λl z=>l) (o':=λz m=>m) i j (λl m e h r=>e.trans (TN r).symm) λl m e h r=>h.trans (Tp r).symm
end
mutual
theorem yM(a b:Nat):((min a b:Nat):Int)=min (a:Int) b:=(Rq a b).elim (λr=>by rw[Qq r,TM (Int.ofNat_le.mpr r)]) λr=>by rw[Nat.min_eq_right r,To (Int.ofNat_le.mpr r)]
theorem yN(a b:Nat):((max a b:Nat):Int)=max (a:Int) b:=(Rq a b).elim (λr=>by rw[Ks r,Tp (Int.ofNat_le.mpr r)]) λr=>by rw[TG r,TN (Int.ofNat_le.mpr r)]
end
theorem Tk.eq{d d' f}(h:Tk B A d f)(e:d=d'):Tk B A d' f:=e▸h
theorem mY{a b}(h:a<=b):(0:Int)=((a-b:Nat):Int):=by rw[RA h];rfl
theorem F7{a f}(x:Int)(g:Tk B A a f):Tk B A (x*a) λk=>f λla=>k (wm x la) :=
 λX k d c h w K=>g X _ d c h w λl d c h w e=>K _ _ _ h w (by rw[BU,e])
theorem Tm.snd(a:Tm):Tk B A (a.den B) a.ck:=by
 induction a with
 |v i=>exact λX k j c h w K=>K _ _ _ h w (G8 i)
 |n x=>exact λX k j c h w K=>K _ _ _ h w (CQ _)
 |p a b d e=>exact GG d e λl m f g=>by rw[pd,f,g];rfl
 |m a b d e=>exact GF (o':=λz y=>[]) d e (λl m f g r=>by rw[o9,f,g];exact wO (Int.ofNat_le.mp r)) λl m f g r=>mY (Int.ofNat_le.mp r)
 |t x a d=>exact F7 x d
 |u a x d=>exact(F7 x d).eq (Int.mul_comm ..)
 |mn a b d e=>exact(H0 d e).eq (yM ..).symm
 |mx a b d e=>exact(HZ d e).eq (yN ..).symm
theorem Ti.snd(a:Ti):Tk B A (a.den B A) a.ck:=by
 induction a with
 |cn a=>exact a.snd
 |v i=>exact λX k o c h w K=>K _ _ _ h w (G9 i)
 |n x=>exact λX k o c h w K=>K _ _ _ h w (CQ _)
 |p a b d e=>exact GG d e λl m f j=>by rw[pd,f,j]
 |m a b d e=>exact GG d e λl m f j=>by rw[o9,f,j]
 |g a d=>exact(F7 (-1) d).eq (TK _)
 |t x a d=>exact F7 _ d
 |mn a b d e=>exact H0 d e
 |mx a b d e=>exact HZ d e
noncomputable def nB(z:Bool)(p:Prop):Prop:=match z with
 |true=>p
 |false=>¬p
theorem t7{z p}(h:nB z (¬p)):nB (!z) p:=by
 cases z with
 |true=>exact h
 |false=>exact Classical.not_not.mp h
noncomputable def Pk(B:List Nat)(A:List Int)(P:Prop)(f:Kt->Kt):Prop:=∀(X:Prop) (k:Kt) a c,f k a c=true->Gc B A a->P->(∀a c,k a c=true->Gc B A a->X)->X
theorem Pk.to{P Q f}(h:Pk B A P f)(i:Q->P):Pk B A Q f:=λX k a c e w p K=>h X k a c e w (i p) K
theorem tZ{x y l m}(f:LD B A l=x)(g:LD B A m=y)(z:Bool)(r:Rl):Pk B A (nB z (r.I x y)) (r.ck z l m):=by
 have e {B A x y l m} (f:LD B A l=x) (g:LD B A m=y) (z:Bool):Pk B A (nB z (x<=y)) (Ha z l m):=by
  cases z with
  |true=>exact λX k j c h w p K=>K _ _ h (w.sub g f p)
  |false=>exact λX k j c h w p K=>K _ _ h (w.Cm f g p)
 have a (z:Bool):Pk B A (nB z (x=y)) (Hj z l m):=by
  cases z with
  |true=>exact λX k j c h w p K=>K _ _ h ((w.sub f g (UO p.symm)).sub g f (UO p))
  |false=>exact λX k j c h w p K=>yT h λd v o q=>(Qu (x<=y)).elim (λr=>K _ _ q (w.Cm g f λu=>p (TP r u))) λr=>K _ _ o (w.Cm f g r)
 cases r with
 |le=>exact e f g z
 |lt =>
  have i (p:nB z (x<y)):nB (!z) (y<=x):=by
   cases z with
   |true=>exact Int.not_le.mpr p
   |false=>exact Int.not_lt.mp p
  exact(e g f (!z)).to i
 |eq=>exact a z
 |ne=>exact(a (!z)).to t7
mutual
theorem zI{r:Rl}{a b}:r.N a b↔r.I a b:=by
 cases r with
 |le=>exact Int.ofNat_le.symm
 |lt=>exact Int.ofNat_lt.symm
 |eq=>exact Int.ofNat_inj.symm
 |ne=>exact not_congr Int.ofNat_inj.symm
theorem zL{z p q}(h:p↔q)(k:nB z p):nB z q:=by
 cases z with
 |true=>exact h.mp k
 |false=>exact λr=>k (h.mpr r)
end
mutual
theorem Ig{P x y f g}{o:Lf->Lf->Kt->Kt}(i:Tk B A x f)(j:Tk B A y g)(q:∀l m,LD B A l=x->LD B A m=y->Pk B A P (o l m)):Pk B A P λk=>f λla=>g λlb=>o la lb k :=
 λX k a c h w p K=>i X _ a c h w λla a c h w d=>j X _ a c h w λlb a c h w e=>q _ _ d e X k _ _ h w p K
theorem F8{P Q f g}(d:Pk B A P f)(e:Pk B A Q g):Pk B A (P/\Q) λk=>f (g k) :=
 λX k a c h w p K=>d X _ a c h w p.1 λa c h w=>e X k a c h w p.2 K
theorem GO{P Q f g}(o:Pk B A P f)(q:Pk B A Q g):Pk B A (P∨Q) λk a c=>c.br (λd=>f k a d) λd=>g k a d :=
 λX k a c h w p K=>yT h λd e i j=>p.elim (λp=>o X k a d i w p K) λp=>q X k a e j w p K
theorem C7(z:Bool):Pk B A (nB z False) (Pr.ff.ck z):=by
 cases z with
 |true=>exact λX k a c h w p K=>p.elim
 |false=>exact λX k a c h w p K=>K _ _ h w
end
mutual
theorem AI{p q}(a:∀z,Pk B A (nB z (p.den B A)) (p.ck z))(c:∀z,Pk B A (nB z (q.den B A)) (q.ck z))(z:Bool):Pk B A (nB z (p.den B A/\q.den B A)) ((Pr.and p q).ck z):=by
 cases z with
 |true =>
  have h:=F8 (a true) (c true);exact h
 |false=>exact(GO (a false) (c false)).to Classical.not_and_iff_not_or_not.mp
theorem CD{p q}(a:∀z,Pk B A (nB z (p.den B A)) (p.ck z))(c:∀z,Pk B A (nB z (q.den B A)) (q.ck z))(z:Bool):Pk B A (nB z (p.den B A∨q.den B A)) ((Pr.or p q).ck z):=by
 cases z with
 |true =>
  have h:=GO (a true) (c true);exact h
 |false=>exact(F8 (a false) (c false)).to not_or.mp
end
theorem xl{p q z}(r:nB z (p↔q)):(p/\nB z q)∨(¬p/\nB (!z) q):=by
 cases z with
 |true=>exact(Qu p).imp (λe=>⟨e,r.mp e⟩) λe=>⟨e,λq=>e (r.mpr q)⟩
 |false=>exact(Qu p).imp (λe=>⟨e,λq=>r ⟨λy=>q,λy=>e⟩⟩) λe=>⟨e,Jg λq=>r ⟨λp=>(e p).elim,λs=>(q s).elim⟩⟩
theorem Pr.snd(p:Pr):∀z,Pk B A (nB z (p.den B A)) (p.ck z):=by
 induction p with
 |ff=>exact C7
 |rn r a b=>exact λz=>Ig a.snd b.snd λl m e f=>(tZ e f z r).to (zL zI)
 |ri r a b=>exact λz=>Ig a.snd b.snd λl m e f=>tZ e f z r
 |not p g=>exact λz=>(g (!z)).to t7
 |and p q c d=>exact AI c d
 |or p q c d=>exact CD c d
 |iff p q c d=>exact λz=>(GO (F8 (c true) (d z)) (F8 (c false) (d (!z)))).to xl
theorem ro:∀(ms:List Nat) (a:List Lf),Gc B A a->0<=LD B A (comb ms a)
 |[],z,y=>P9 _
 |m::ms,[],z=>P9 _
 |m::ms,c::a,g=>by
  show 0<=LD B A (kQ (wm m c) (comb ms a));rw[pd,BU];exact Ue (Int.mul_nonneg (KU _) (g c (JJ ..))) (ro ms a λd hd=>g d (JR _ hd))
theorem Ac{a}(h:CX a=true):a<=0:=by
 cases a with
 |ofNat n=>have:=M3 h;subst this;exact P9 _
 |negSucc n=>exact Oq (Sa n)
theorem BD:∀(l:Lf) (e:Nat->Nat),l.all CX=true->jN l e<=0
 |[],e,z=>P9 _
 |a::l,e,h=>by
  obtain⟨c,d⟩:=Bool.and_eq_true_iff.mp ((NL ..).symm.trans h);exact Int.add_nonpos (Int.mul_nonpos_of_nonpos_of_nonneg (Ac c) (KU (e 0))) (BD l _ d)
theorem Aj{cs c}(h:Ak cs c=true)(g:Gc B A cs):False:=by
 have e {l} (h:EE l=true):LD B A l<0:=by
  have d {a} (h:isNeg a=true):a<0:=by
   cases a with
   |ofNat n=>exact Jq h
   |negSucc n=>exact Sa n
  cases l with
  |nil=>exact Jq h
  |cons a l =>
   obtain⟨f,i⟩:=Bool.and_eq_true_iff.mp h;refine Int.add_neg_of_neg_of_nonpos ?_ (BD l _ i);rw[show((env B A 0:Nat):Int)=1 from rfl,RW];exact d f
 cases c with
 |b=>exact Jq h
 |l ms=>exact Int.not_le.mpr (e h) (ro ms cs g)
theorem ye:∀(d:List Pr) {g:Pr} {a:List Lf} {c:Ct},C0 d (g.ck false Ak) a c=true->Gc B A a->Sd B A g d
 |[],g,a,c,h,k=>Jg λq=>g.snd false False Ak a c h k q λa c h k=>Aj h k
 |p::d,g,a,c,h,k=>λe=>Jg λq=>p.snd true False _ a c h k e λa c h k=>q (ye d h k)
theorem Io(B:List Nat)(A:List Int)(g:Pr)(hs:List Pr)(c:Ct)(h:GJ g hs c=true):Sd B A g hs:=ye hs h λz q=>absurd q JK
theorem li{g hs}(c:Ct)(h:GJ g hs c=true):Sd B A g hs:=Io B A g hs c h
noncomputable def Ic:Nat->Nat->(List Nat->Nat->Ct)->Ct
 |0,x,k=>k [] x
 |f+1,x,k=>match Nat.ble 6 (x % 8) with
  |true=>k [] (x / 8)
  |false=>Ic f (x / 8) λl=>k ((x % 8)::l)
noncomputable def GN:Nat->Nat->(Ct->Nat->Ct)->Ct
 |0,x,k=>k (.l []) x
 |f+1,x,k=>match Oh (x % 8) 7 with
  |true=>GN f (x / 8) λa y=>GN f y λb=>k (.b a b)
  |false=>Ic 99 x λl=>k (.l l)
noncomputable abbrev Ent:=Pr×List Pr×Nat
noncomputable abbrev SE(B:List Nat)(A:List Int)(e:Ent):Prop:=Sd B A e.1 e.2.1
noncomputable def iR(e:Ent):Bool:=GJ e.1 e.2.1 (GN 99 e.2.2 λc z=>c)
noncomputable abbrev dE:Ent:=(.ff,[.ff],0)
theorem xu:∀ {l:List Ent} (h:l.all iR=true) (i:Nat),iR (uc dE l i)=true
 |[],z,y=>rfl
 |a::l,h,0=>(Bool.and_eq_true_iff.mp h).1
 |a::l,h,i+1=>xu (l:=l) (Bool.and_eq_true_iff.mp h).2 i
theorem ub:∀ {l:List (List Ent)} (h:l.all (λl=>l.all iR)=true) (i:Nat),(uc [] l i).all iR=true
 |[],z,y=>rfl
 |a::l,h,0=>(Bool.and_eq_true_iff.mp h).1
 |a::l,h,i+1=>ub (l:=l) (Bool.and_eq_true_iff.mp h).2 i
mutual
theorem fB{a}{l:List (List Ent)}(h:a.all iR=true)(k:l.all (λl=>l.all iR)=true):(a::l).all (λl=>l.all iR)=true:=Bool.and_eq_true_iff.mpr ⟨h,k⟩
theorem I0{l}(h:l.all iR=true)(i:Nat)(B:List Nat)(A:List Int):SE B A (uc dE l i):=Io B A _ _ _ (xu h i)
theorem qS(n:Nat):2*(n / 2)<=n:=Nat.mul_div_le n 2
theorem qR(n:Nat):n<2*(n / 2)+2:=Nat.lt_mul_div_succ n (by decide)
theorem toN(x:Int):(0<=x/\((x.toNat:Nat):Int)=x)∨(x<0/\x.toNat=0):=(Int.lt_or_le x 0).elim (λh=>.inr ⟨h,R8 (Oq h)⟩) λh=>.inl ⟨h,My h⟩
end
end
namespace Lq
noncomputable abbrev m:=Ti.n
noncomputable abbrev n:=Ti.cn
noncomputable abbrev y:=Ti.p
noncomputable abbrev E:=Ti.m
noncomputable abbrev F:=Ti.g
noncomputable abbrev f:=Tm.n
noncomputable abbrev c:=Tm.p
noncomputable abbrev j:=Tm.m
noncomputable abbrev B:=Tm.mn
noncomputable abbrev I:=Tm.mx
noncomputable abbrev s:=Tm.t
noncomputable abbrev R:=Tm.u
noncomputable abbrev M:=Ti.t
noncomputable abbrev G:=Ti.mn
noncomputable abbrev D:=Ti.mx
noncomputable abbrev C:=Pr.ff
noncomputable abbrev p:=Pr.not
noncomputable abbrev o:=Pr.and
noncomputable abbrev w:=Pr.or
noncomputable abbrev Q:=Pr.iff
noncomputable abbrev d:=Pr.rn .le
noncomputable abbrev g:=Pr.rn .lt
noncomputable abbrev i:=Pr.rn .eq
noncomputable abbrev J:=Pr.rn .ne
noncomputable abbrev x:=Pr.ri .le
noncomputable abbrev t:=Pr.ri .lt
noncomputable abbrev v:=Pr.ri .eq
noncomputable abbrev P:=Pr.ri .ne
noncomputable abbrev a:=Tm.v 0
noncomputable abbrev b:=Tm.v 1
noncomputable abbrev e:=Tm.v 2
noncomputable abbrev h:=Tm.v 3
noncomputable abbrev k:=Tm.v 4
noncomputable abbrev l:=Tm.v 5
noncomputable abbrev r:=Tm.v 6
noncomputable abbrev u:=Tm.v 7
noncomputable abbrev A:=Tm.v 8
noncomputable abbrev H:=Tm.v 9
noncomputable abbrev K:=Tm.v 10
noncomputable abbrev N:=Tm.v 11
noncomputable abbrev O:=Tm.v 12
noncomputable abbrev q:=Ti.v 0
noncomputable abbrev z:=Ti.v 1
noncomputable abbrev L:=Ti.v 2
noncomputable abbrev zT0:List Ent:=[(C,[(d (c a (f 1)) b),(d b a)],(nat_lit 393)),
 ((d (c a e) (c b e)),[(d a b)],(nat_lit 393)),
 ((g a b),[(g a (c b (f 1))),(p (i a b))],(nat_lit 12880975)),
 ((i a (f 0)),[(p (g (f 0) a))],(nat_lit 1608783)),
 ((i a (f 0)),[(g a (c (f 0) (f 1)))],(nat_lit 1608783)),
 ((g a (c b e)),[(g a b)],(nat_lit 393)),
 ((i (c a (c b e)) (c (c a b) e)),[],(nat_lit 49)),
 ((d a (c b e)),[(d a b)],(nat_lit 393)),
 ((g a (c a (f 1))),[],(nat_lit 49)),
 ((w (g h k) (o (i h k) (d l r))),[(g a b),(i e a),(i e b)],(nat_lit 25153)),
 ((d a b),[(i a (f 0))],(nat_lit 3144)),
 ((o (i e h) (i k l)),[(g a b),(i b (f 0))],(nat_lit 3137)),
 ((i (c (j b a) a) b),[(d a b)],(nat_lit 0x3123107e207)),
 ((w (g h k) (o (i h k) (d l r))),[(g a b),(i e b),(d e a)],(nat_lit 25097)),
 ((d b a),[(i a b)],(nat_lit 3137)),
 ((d e b),[(g a b),(d e a)],(nat_lit 3145)),
 ((w (g a k) (o (i a k) (d e l))),[(w (g a b) (o (i a b) (g e h))),(i k b),(i l h)],(nat_lit 0xc40201031001001c4000823fc4004f)),
 ((d b a),[(p (g a b))],(nat_lit 393)),
 ((g a e),[(g a b),(i e b)],(nat_lit 25097)),
 ((i (j e b) a),[(i (c a b) e)],(nat_lit 0x189231007c4118807f)),
 (C,[(g a b),(p (g (f 0) b))],(nat_lit 393)),
 ((o (d k (I r b)) (d l (I u h))),[(g a b),(g e h),(i k (c a (f 1))),(i l (c e (f 1)))],(nat_lit 0x188200231240047c4004038900807f)),
 ((o (d (c a k) (I b l)) (d (c e k) (I h r))),[(i a b),(i e h),(p (g (f 0) k))],(nat_lit 0x1892401882401f124023104023f)),
 ((i (c e b) (c (j (c e b) (f 1)) (f 1))),[(g a b)],(nat_lit 0x3107123e207))]
noncomputable abbrev zT1:List Ent:=[((o (d r (j (c a b) (f 1))) (o (g (j (c a b) (f 1)) e) (o (d u (j (c h b) (f 1))) (g (j (c h b) (f 1)) k)))),[(d (c a b) e),(d (c h b) k),(g l b),(d r a),(d u h)],(nat_lit 0x1880091880011f124103104103fc40041c40001ff120903100903f)),
 ((i a e),[(d a b),(d b e),(p (g a e))],(nat_lit 0x18903104f)),
 ((g a e),[(g a b),(i b e)],(nat_lit 25153)),
 ((i e b),[(i a b),(d a e),(d e b)],(nat_lit 0x6208389007)),
 ((w (g u a) (o (i u a) (d H k))),[(i (c a b) (c e h)),(i (c k b) (c l h)),(i b r),(i (c u r) (c A h)),(i (c H r) (c K h)),(w (g A e) (o (i A e) (d K l)))],(nat_lit 0xc41008008040c40040041008c40200208001ff120104000f)),
 ((d a b),[(g a (c b (f 1)))],(nat_lit 393)),
 ((d a (j b (f 1))),[(g a b)],(nat_lit 103080463)),
 ((o (d e h) (o (d a k) (o (i l (c (c r (f 1)) u)) (o (i A (c b u)) (d u H))))),[(g a b),(d e h),(d a k),(i l (c r (c u (f 1)))),(i A (c (j b (f 1)) (c u (f 1)))),(d (c u (f 1)) H)],(nat_lit 0x189000000c4024000620800007fc4000100620004003fc40000207c40000047c480000062010000310400001fe2000080310002001fe20000103e20000023f)),
 ((d (c a (c b (f 1))) e),[(g (c a b) e)],(nat_lit 393)),
 ((o (d a e) (o (d h k) (d l r))),[(d (c a b) e),(d h k),(d l r)],(nat_lit 0x6240c411f100f)),
 ((d a e),[(i a b),(d b e)],(nat_lit 25160)),
 ((o (d a b) (o (d e h) (o (d k l) (d r u)))),[(d a b),(d e h),(d k l),(d r u)],(nat_lit 0x1890062081f1008f8800f)),
 ((d a b),[(g a b)],(nat_lit 393)),
 ((o (d a b) (d e h)),[(d a b),(d e h)],(nat_lit 103047695)),
 ((o (d l e) (d r k)),[(d (c a b) e),(d (c h b) k),(d l a),(d r h)],(nat_lit 0x624118820f)),
 ((o (g l r) (o (d u A) (o (d H e) (o (d K N) (d O k))))),[(d (c a b) e),(d (c h b) k),(g l r),(d u A),(d H a),(d K N),(d O h)],(nat_lit 0x6240008c410001f100800fc400401f1000207)),
 ((o (g a b) (o (d e h) (o (d k l) (o (d r u) (d A H))))),[(g a b),(d e h),(d k l),(d r u),(d A H)],(nat_lit 0x189000c41007c40207c40047c4000f)),
 ((o (g k l) (o (d a u) (o (d A H) (o (d e K) (d N O))))),[(d a b),(d e h),(g k l),(d (c b r) u),(d A H),(d (c h r) K),(d N O)],(nat_lit 0x6240000c410011f1008007c400403f1000207)),
 ((d a (c a b)),[],(nat_lit 49)),
 (C,[(g a (f 0))],(nat_lit 49)),
 ((d (c a (c b h)) (c e h)),[(d (c a b) e)],(nat_lit 393)),
 ((d (c a (c b (f 1))) e),[(d (c a b) (j e (f 1))),(g a e)],(nat_lit 0x189231047)),
 ((i (j a b) (j (c a e) (c b e))),[],(nat_lit 0x620620e247f883891f103f)),
 ((i (j (j a b) e) (j a (c e b))),[],(nat_lit 0x6200c4038903fc4118803e201c481ffc40188231207f88231207c401ff))]
noncomputable abbrev zT2:List Ent:=[((i (c (c a b) e) (c a (c e b))),[],(nat_lit 49)),
 ((g a e),[(g (c a b) (c e b))],(nat_lit 393)),
 ((i (j (j (c a b) b) (c e b)) (j (j a b) e)),[],(nat_lit 0xc40031000c4803fc40031001c4803ff880462001f1008c4003fc40231000f8800e2001fff88006200189007f88006201189007ff1008c4103e201188207f880462401f1000fff)),
 ((i (j a (c b e)) (j (j a e) b)),[],(nat_lit 0x6200c4018903fc40188071207ff100e208f88071047f88071207c401ff)),
 ((g a (j b h)),[(g a (j (c b e) (c h e)))],(nat_lit 0x3118918823f)),
 ((g a (j (j b h) e)),[(g a (j b (c e h)))],(nat_lit 0x62312310462011ff)),
 ((i (j (j (c a b) (c e b)) b) (j (j a e) b)),[],(nat_lit 0x62001880062401fe20018800e2401ffc40231000f88007c40231000f8800e2081fff88006200189007f88006201189007ff1008c4103e200388207f880462401f1000fff)),
 ((i (j (j a (c b e)) e) (j (j (j a e) b) e)),[],(nat_lit 0x188000c4000624003fc400062000312001ffc400062000312001fe200031000389000fffc4004620003e20003e2002310001f1000188200ffe2002310001f10001f1001188000f88001c41007fffc400062000312001fe200031000189000ffe200031000189000ff1000188008c48007ffe2002310081f1000388040ff1001188040f88001c40207ff1001188200f88001c41007f88008c48007c40007fff)),
 (C,[(g (c a b) e),(d (j e a) b)],(nat_lit 12902927)),
 ((d (j a (c b (c e k))) h),[(d (j a (c b e)) (c h k))],(nat_lit 0x18803100fc4018823f)),
 ((g (f 0) (c a (f 1))),[],(nat_lit 49)),
 ((i (c (j b (f 1)) (c e (f 1))) (c b e)),[(g a b)],(nat_lit 0x3123107e207)),
 ((d (c (j a (f 1)) (c b (f 1))) e),[(d (c a b) e),(g h a)],(nat_lit 0x18827100f)),
 (C,[(w (g (c a (f 1)) a) (o (i (c a (f 1)) a) (w (g b e) (o (i b e) (d h k)))))],(nat_lit 201103)),
 (C,[(w (g (c a (f 1)) a) (o (i (c a (f 1)) a) (w (g b b) (o (i b b) (d e e)))))],(nat_lit 201103)),
 ((g a e),[(d (c a (c b (f 1))) e)],(nat_lit 393)),
 ((d (c (j e b) (c h b)) k),[(d (c a b) e),(d (c e h) k)],(nat_lit 0x188271047)),
 ((i (c (j e b) (c h b)) (c e h)),[(d (c a b) e)],(nat_lit 0x3123107e207)),
 ((i (j (c b e) a) (c (j b a) e)),[(d a b)],(nat_lit 0x6209c401f1046201ff100e240f8803f)),
 ((i (c (c e a) (j b a)) (c e b)),[(d a b)],(nat_lit 0x3123107e207)),
 ((d h e),[(d (c a b) e),(d h a)],(nat_lit 3145)),
 ((g (f 0) (f 1)),[],(nat_lit 49)),
 ((i a (f 0)),[(g a (f 1))],(nat_lit 1608783)),
 ((d (c a (f 1)) e),[(d (c a b) e),(g h b)],(nat_lit 3145))]
noncomputable abbrev zT3:List Ent:=[((g (f 0) a),[(w (g (f 1) a) (o (i (f 1) a) (w (g b e) (o (i b e) (d h k)))))],(nat_lit 0x6200231047c4f)),
 ((g (j b (f 1)) b),[(g a b)],(nat_lit 102818311)),
 ((d a (c b (j e (f 1)))),[(g a (c b e))],(nat_lit 103080463)),
 ((g (c a (j b (f 1))) e),[(d (c a b) e),(g h b)],(nat_lit 0x18827100f)),
 ((d a e),[(d a b),(d b e)],(nat_lit 3145)),
 ((g (c (j a e) k) h),[(d (c a b) (c e h)),(d e a),(g k b)],(nat_lit 0x620938820f)),
 ((i (c a (c (j b a) e)) (c b e)),[(d a b)],(nat_lit 0x3123107e207)),
 ((i (c (c a b) e) (c a (c b e))),[],(nat_lit 49)),
 ((d a b),[(d a b)],(nat_lit 393)),
 ((d (c (c k (j a e)) b) l),[(d (c a b) (c e h)),(d (c k h) l),(d e a)],(nat_lit 0x620938804f)),
 ((i b (c a (j b a))),[(d a b)],(nat_lit 0x3107123e207)),
 ((i h (c k (j b e))),[(w (g a a) (o (i a a) (w (g b (c e (j h k))) (o (i b (c e (j h k))) (d h h))))),(w (g a a) (o (i a a) (w (g b b) (o (i b b) (d h (c k (j b e))))))),(d k h)],(nat_lit 0x6208000000006200000000207c41000001000c40000000240ff104000000003100000000103e208000008006200000001207ff1000000f880001f100000000103100100000803e200000008006200000001007f880000000081890000000401f100000004003100000000803ff88000007c40000ff1040000000c4000000103e200000200f88001007c40000f88007c40000001031008000000f8820000803e20000803e200007c4003ff8f)),
 ((d (c (j a e) b) h),[(d (c a b) (c e h)),(d e a)],(nat_lit 0x18827100f)),
 ((g a h),[(d (c (c a (c b (f 1))) e) h)],(nat_lit 393)),
 ((i b (f 0)),[(d (c a b) a)],(nat_lit 1608783)),
 ((g (c a h) e),[(d (c a b) e),(g h b)],(nat_lit 3145)),
 ((i a b),[(i a (c (c (f 0) (f 0)) b))],(nat_lit 102818375)),
 ((p (i b a)),[(g a b)],(nat_lit 3137)),
 ((p (o (g a a) (g b b))),[],(nat_lit 49)),
 ((d a e),[(d (c a b) e)],(nat_lit 393)),
 ((d (c a (f 0)) b),[(g a b)],(nat_lit 393)),
 (C,[(g a b),(i a (c (c b e) h))],(nat_lit 393)),
 ((g a k),[(d (c a b) e),(g e h),(i h k)],(nat_lit 201225)),
 ((g k (j (c l e) h)),[(g a b),(i b (j (c a e) h)),(d k l)],(nat_lit 0x3100e20807104807f))]
noncomputable abbrev zT4:List Ent:=[((g (j (j a k) l) e),[(d (c a b) e),(g h b)],(nat_lit 200713)),
 ((i (j (j (c a e) h) (f 1)) (c a (j (j e h) (f 1)))),[(g a b),(i b (j (c a e) h))],(nat_lit 0x188071201c40201c40208071000000f880400062000403ffc40201c40008071200000f88000007fff)),
 ((i (j (j (c k e) h) (f 1)) (c k (j (j e h) (f 1)))),[(g a b),(i b (j (c a e) h))],(nat_lit 0x188071201c40201c40208071000000f880400062000403ffc40201c40008071200000f88000007fff)),
 ((d k h),[(d (c (c a b) e) h),(d (c k l) a)],(nat_lit 3145)),
 ((g k e),[(g a b),(i b (j e h)),(d k a)],(nat_lit 0x6201c4900f)),
 ((g k (c l e)),[(g a b),(i b (j (c a e) h)),(d k l)],(nat_lit 0x6201c4900f)),
 ((i (j (c a e) (f 1)) (c a (j (j e (f 0)) (f 1)))),[(g a b),(i b (j (c a e) (f 0)))],(nat_lit 0x188071040388048071000007c4020018800807ff88201c4004038900003e200000fff)),
 ((i (j (c h e) (f 1)) (c h (j (j e (f 0)) (f 1)))),[(g a b),(i b (j (c a e) (f 0)))],(nat_lit 0x188071040388048071000007c4020018800807ff88201c4004038900003e200000fff)),
 ((o (g a h) (g A r)),[(d (c a b) e),(g e h),(i h (j (c e k) l)),(i r (j (c u k) l)),(d A u)],(nat_lit 0x31008c480462410402310000013ff)),
 ((d (c a (j e h)) b),[(g a b),(i b (j (c a e) h))],(nat_lit 0xc4038900e20103f)),
 ((d (c l (j e h)) k),[(g a b),(i b (j (c a e) h)),(i k (j (c l e) h))],(nat_lit 0x6201c4807100100e2010001ff)),
 ((g (f 0) (j e h)),[(g a b),(i b (j (c a e) h))],(nat_lit 0xc4038900e20807f)),
 ((g h e),[(d (c a b) e),(g h (j a k))],(nat_lit 822284815)),
 ((i (j (c a (j e h)) (f 1)) (c a (j (j e h) (f 1)))),[(g a b),(i b (j (c a e) h))],(nat_lit 0x188071201c40201c40208071000000f880400062000403ffc40201c40008071200000f88000007fff)),
 (C,[(d (c a (j b e)) h),(g h k),(i k (j (c a b) e))],(nat_lit 0x188040c4024fc4020620123f)),
 ((d (c (c a (j e h)) (f 0)) b),[(g a b),(i b (j (c a e) h))],(nat_lit 0xc4038900e20103f)),
 ((d (c (c l (j e h)) (f 0)) k),[(g a b),(i b (j (c a e) h)),(i k (j (c l e) h))],(nat_lit 0x6201c4807100100e2010001ff)),
 (C,[(g (c (c a (j b e)) h) k),(i k (j (c a b) e))],(nat_lit 0x1880462013f1009c4023f)),
 ((d (j a e) b),[(g a b)],(nat_lit 3137)),
 ((i (c A (j e b)) (c (j k b) l)),[(d (c a b) e),(d (c h b) k),(g e l),(i l (j (c e r) u)),(i A (j (c k r) u))],(nat_lit 0xc40206240206208208008c482002003f1041040006201001001ff1001040046241001000f88008200031008008007fff)),
 ((i (j h (j e b)) (c (c b (j k l)) (f 0))),[(d (c a b) e),(g e h),(i h (j (c e k) l))],(nat_lit 0xc40231000231008046200040388048007ff1000231008046200040188008007fff)),
 ((g e h),[(i a (j (c b (c e (f 1))) h)),(p (g b a))],(nat_lit 0x6200389047)),
 ((i (j (j (c a (c b e)) e) b) a),[],(nat_lit 0x3107103e20e207f891881f103f)),
 ((g a (j e h)),[(d (c a b) e),(g h b)],(nat_lit 824643663))]
noncomputable abbrev zT5:List Ent:=[((i (j (j a b) e) (j (j a e) b)),[],(nat_lit 0xc40031000c4803fc40031001c4803ff880462001f1008c4803fc40231000f8800e2401fff88006200189007f88006201189007ff1008c4103e201188207f880462401f1000fff)),
 ((d a (j (j e h) (f 1))),[(d (c a b) e),(g h b)],(nat_lit 0x31271209c4027f)),
 ((g (j (j e h) (f 1)) e),[(d (c a b) e),(g h b)],(nat_lit 0x31271009c4003f)),
 ((i (c a h) (c b e)),[(i a b),(i e h)],(nat_lit 0x6240388247)),
 ((i (j a b) (f 0)),[(i a b)],(nat_lit 0x6200c4038823f)),
 ((o (g a k) (g e l)),[(g a b),(g e h),(i k b),(i l h)],(nat_lit 0x620804620020f)),
 ((p (o (g k a) (g l e))),[(i a b),(i e h),(p (o (g k b) (g l h)))],(nat_lit 0xc41200c48047)),
 ((g (c (c (c k a) b) e) l),[(g (c (c a b) e) h),(d (c k h) l)],(nat_lit 3145)),
 ((i (c (c (c a b) e) h) (c a (c (c b e) h))),[],(nat_lit 49)),
 ((g (c (c k a) b) l),[(g (c (c a b) e) h),(d (c k h) l)],(nat_lit 3145)),
 ((g (c (c k a) b) r),[(g (c (c a b) e) h),(d (c (c k h) l) r)],(nat_lit 3145)),
 ((i (c (c a b) e) (c a (c (c b e) (f 0)))),[],(nat_lit 49)),
 ((o (g r e) (g u k)),[(d (c a b) e),(d (c h b) k),(g l b),(i r (c a l)),(i u (c h l))],(nat_lit 0x18900123100820f)),
 ((d a b),[(i a b)],(nat_lit 3144)),
 ((d (c (c a h) (j b h)) e),[(d (c a b) e),(g h b)],(nat_lit 824381455)),
 ((g (f 0) (j b a)),[(g a b)],(nat_lit 12902927)),
 ((g (c e a) b),[(g a (j b e))],(nat_lit 12870215)),
 ((i (j (c e b) h) (j (c (c e a) (j b a)) h)),[(g a b)],(nat_lit 0x188388006201189007ff1071008c4803e2001ff)),
 (C,[(d (c a b) e),(i a (j (c h k) l)),(i b (c (c r l) u)),(g e (c h (c (c k r) u)))],(nat_lit 0x620804e20820f)),
 ((d (c a e) h),[(d (c (c a b) (j e b)) h)],(nat_lit 103080519)),
 ((d (c a (f 0)) b),[(i a b)],(nat_lit 3144)),
 (C,[(g (c a b) (j (c e (c (c h k) l)) r)),(i a (j (c e h) u)),(i b (c (c k u) l))],(nat_lit 0x188c4024620823f)),
 ((i (c (c e a) (j b a)) (c e b)),[(g a b)],(nat_lit 12902919)),
 ((p (o (g (c k a) (j (c l (c (c r b) h)) u)) (g A H))),[(i a (c (c b e) h)),(i k (j (c l r) e))],(nat_lit 0x1880001880083f100003100807f))]
noncomputable abbrev zT6:List Ent:=[((d e (c (c h b) k)),[(g a b),(i e (c h a))],(nat_lit 25153)),
 ((i (j (c (c e b) h) (c e a)) (c (c (f 0) (j b a)) h)),[(g a b)],(nat_lit 0x3138838803f)),
 ((g (j (j (j e (f 1)) a) b) h),[(d (c a b) e),(p (g (c (c a b) h) e)),(p (i (c a b) e))],(nat_lit 0xc40048c40048c40048c40008ffe20f)),
 ((i (j (c h e) (f 1)) (c (c (c h a) b) (j (j (j e (f 1)) a) b))),[(d (c a b) e),(p (i (c a b) e))],(nat_lit 0x3100123100003e200246200007f880091880001f100123100003ff880091880001f100123100003fc40048c40000f880081880011fff880011880401f100023100803fc40008c40200f880011880401ffc40008c41000f880011882001fe200046240007c40000fffc4f)),
 ((g (c (c a l) r) k),[(d (c (c (c a b) e) h) k),(i (c b e) l),(g r h)],(nat_lit 201225)),
 ((d (c h A) e),[(d (c a b) e),(i a (j (c h k) l)),(i b (c (c r l) u)),(p (g (c (c k r) u) A))],(nat_lit 0x18904027120820f)),
 ((g (c (c r l) A) e),[(g (c a b) e),(i (c h k) l),(i a (j (c r h) u)),(i b (c (c k u) A))],(nat_lit 0x620804138820804f)),
 ((d a (c (c b k) h)),[(i a (c b (c e h))),(i e k)],(nat_lit 201224)),
 ((i (j (c (c u e) l) (c r h)) (f 0)),[(i (c a b) e),(i h (c (c b k) l)),(i r (j (c u a) k))],(nat_lit 0x62000001890000062002083fe2000001882010462010083ff)),
 ((d (s 2 (c k (c a (f 1)))) (c b (f 1))),[(d (s 2 a) (j b (c e h))),(d (s 2 k) e),(d (c e h) b),(g l h)],(nat_lit 0x189248c48247)),
 ((i a (c e (j h b))),[(i (c a b) (c e h)),(d b h)],(nat_lit 0x18820e2411f1001c4023f)),
 ((i (c (c a (j b a)) e) (c b e)),[(d a b)],(nat_lit 0x3123107e207)),
 ((i (c (c e (j h b)) k) (c a k)),[(i (c a b) (c e h)),(d b h)],(nat_lit 0x1890462083f1008c4007f)),
 ((i (j (c a b) a) b),[],(nat_lit 0x189c47c47)),
 ((i (c (c l h) k) (c (j a (j e l)) (c b (j (c (c e h) k) (c a b))))),[(d (c a b) (c (c e h) k)),(d (j e l) a),(d (c r l) e)],(nat_lit 0x188000271241007c4000118820803fc4000138900803e200008c400401ffc4000138920003e200008c410001fe200001c480001f1000007ff100020e248008f88001031040047f88040071200047c4020018800023ff88001071240007c4000818820003fc4000038900003e200000fff)),
 (C,[(g a b),(i b a)],(nat_lit 3137)),
 ((i (c a (j b a)) b),[(d a b)],(nat_lit 0x3123107e207)),
 ((g (f 0) a),[(p (i a (f 0)))],(nat_lit 203855)),
 ((i b a),[(i (c (f 0) a) b)],(nat_lit 103047695)),
 ((g (j a b) e),[(g a (c b e)),(d b a)],(nat_lit 0x18827100f)),
 ((i (c e (j b (f 1))) (j (c e b) (f 1))),[(g a b)],(nat_lit 0x6200c483f1046201ff100e240f8803f)),
 ((g (j (j b (f 1)) a) b),[(g a b)],(nat_lit 0x6201c4038803f)),
 ((d (c (f 0) a) b),[(d a b)],(nat_lit 393)),
 ((g a e),[(g a b),(d b e)],(nat_lit 3145))]
noncomputable abbrev zT7:List Ent:=[((g e b),[(g a (j b e))],(nat_lit 12870215)),
 ((d (c e a) (c e b)),[(d a b)],(nat_lit 393)),
 ((g b e),[(g (c a b) (c a e))],(nat_lit 393)),
 ((g a b),[(g a (j b e))],(nat_lit 12870215)),
 ((d (c (f 0) a) b),[(d a (B b e))],(nat_lit 103047759)),
 ((g a e),[(g a b),(d b (B e h))],(nat_lit 0x18907124f)),
 ((g b e),[(g (c a b) e)],(nat_lit 393)),
 ((g b (B (j e h) e)),[(g (c a b) (j e h))],(nat_lit 0x188c48c4023f)),
 ((i a (f 0)),[(d a (B b e)),(d a (B h k)),(p (o (g (f 0) b) (g (f 0) h)))],(nat_lit 0x188000c49007c4000624023fc4000624903e2000312011ffc4000624803e2000312013fe2000312481f1000189009fff)),
 ((g a (c (c e b) h)),[(g a b)],(nat_lit 393)),
 ((g b a),[(o (i (j a b) e) (i h e)),(g k e)],(nat_lit 0xc40046240047)),
 ((g h e),[(o (i a b) (i (j e h) b)),(g k b)],(nat_lit 0xc41006241007)),
 ((g (j b (f 1)) a),[(o (i a b) (i e b)),(g h b)],(nat_lit 0x620800e20000f)),
 ((g (j b (f 1)) e),[(o (i a b) (i e b)),(g h b)],(nat_lit 0x6208206200207)),
 ((i (j (j a k) b) (c (f 0) (j e k))),[(o (i (j a b) e) (i h e))],(nat_lit 0x188000006200001189000007f882000062000001f1040008c4800003ff88000006200001189000007f882000062000003f1040008c4000007fff1000000c40200231200000ff1040000c4000003e201001189000007ff1000000c41000231200000ff1040000c4800103e200001188000207fff)),
 ((i (j (j e k) h) (c (f 0) (j b k))),[(o (i a b) (i (j e h) b))],(nat_lit 0x188000006200040189000007f882000062000001f1040200c4800003ff88000006200040189000007f882000062000081f1040200c4000103fff1000000c40208031200000ff1040000c4000003e201040189000007ff1000000c41008031200000ff1040000c4804003e200040188008007fff)),
 ((d (s 2 (c (f 0) a)) (c b (f 3))),[(d (s 2 a) (c b (f 1)))],(nat_lit 393)),
 ((d (s 2 (c (f 1) a)) (c b (f 3))),[(d (s 2 a) (c b (f 1)))],(nat_lit 393)),
 ((i (j b a) (f 0)),[(p (g a b))],(nat_lit 0x3103123107f)),
 ((i (B (j a b) a) (j a b)),[],(nat_lit 0x18803100e240ff1006208f88031247ff100e240f8803e200c491f1006208fff)),
 ((Q (g (c (j b a) (c (c a e) h)) (c (c b e) k)) (g h k)),[(d a b)],(nat_lit 0x189071207c4918903f)),
 ((i (j (c (c b e) h) (c (j b a) (c (c a e) k))) (j h k)),[(d a b)],(nat_lit 0x31000c41071200ff1040c4823e200388047ff1000c41031200ff1040c4803e2001ff)),
 ((i (B a (B (j b e) b)) a),[(d a (j b e))],(nat_lit 0x188000c4004620003fc400062002310401ffc400062012310003fe200031001188201fffc400062012310001fe200031001188200ffe200031001189000ff1000188008c48007fff)),
 ((i (j (B (j a b) a) e) (j (j a b) e)),[],(nat_lit 0x188000c4000624003fc400062000712001ffc4020620003e20003e2010310001f1000388200fffc400062000312001fe200031000389000ffe2010310011f1000188008ff1008188008f88000c41047fffc400062000312001fe200031008189000ffe2010310401f1000388200ff1008189000f88000ffe200031000189000ff1000188040c48007ff1008188208f88000c41047f88040c48047c4000620023ffff))]
noncomputable abbrev zT8:List Ent:=[((i (j b (j b a)) a),[(d a b)],(nat_lit 0x6241c401f100e208ff1206200f8803f)),
 ((i (B a b) a),[(d a b)],(nat_lit 0x3103107123f)),
 ((d a b),[(d a (B b e))],(nat_lit 103047759)),
 ((p (t (n (c a (f 8))) (m 8))),[],(nat_lit 49)),
 ((d (c (c (c a b) e) h) (c (c (c a e) h) b)),[],(nat_lit 49)),
 ((d (c (c a (c b e)) h) (c (c (c a b) h) e)),[],(nat_lit 49)),
 ((d (c a (c b e)) (c (c a b) e)),[],(nat_lit 49)),
 ((i (c a (c b e)) (c (c a e) b)),[],(nat_lit 49)),
 ((g a (f 62)),[(d (s 2 a) (c b (f 3))),(d b (f 100))],(nat_lit 3209)),
 ((g (c (f 0) (f 2)) (f 1000)),[],(nat_lit 49)),
 ((g (c (f 1) (f 2)) (f 1000)),[],(nat_lit 49)),
 ((d e b),[(d a b),(p (g a e))],(nat_lit 3145)),
 ((d (c (c e a) b) (c e (f 2))),[(d a (f 1)),(d b (f 1))],(nat_lit 3145)),
 ((d a (c h (s 2 (c e (f 1))))),[(d a (c b (s 2 e))),(d b (c h (f 2)))],(nat_lit 3145)),
 ((d (c (f 0) l) k),[(i a (c (c b e) h)),(d a k),(d l (B r b))],(nat_lit 0x189241c4820f)),
 ((d (c (j b l) (c (c l e) r)) k),[(i a (c (c b e) h)),(d a k),(d l b),(d r h)],(nat_lit 0x620920e20820f)),
 ((d (c (f 0) (f 2)) (f 3)),[],(nat_lit 49)),
 ((d (c (f 1) (f 2)) (f 3)),[],(nat_lit 49)),
 ((d (c (f 0) (s 2 a)) (f 6)),[(d a (f 3))],(nat_lit 394)),
 ((d (c (c a (c b (f 1))) (f 1)) (f 4)),[(d a (f 1)),(d b (f 1))],(nat_lit 3145)),
 ((d (c e a) (s 4 (c b (f 1)))),[(d a (s 4 b)),(d e (f 4))],(nat_lit 3145)),
 ((d a (c b (c h e))),[(d a (c (c b e) h))],(nat_lit 393)),
 ((d a (c b (c e h))),[(d a (c b e))],(nat_lit 393)),
 ((d (B a b) b),[],(nat_lit 1612871))]
noncomputable abbrev zT9:List Ent:=[((d (c (c (f 2) a) (f 1)) (c e (f 3))),[(d a b),(d b e)],(nat_lit 3145)),
 ((d (c (f 2) (c (c a h) e)) (f 1000)),[(d (c (c a b) e) (f 64)),(i h (c b (f 1)))],(nat_lit 25153)),
 ((d l (f 1000)),[(d (c (c a b) e) (f 64)),(i h (c b (f 1))),(d k (c (c (s 3 a) h) (s 2 e))),(d l (c k (f 3)))],(nat_lit 1610307)),
 ((d (c (f 2) (c (c a h) e)) (f 1000)),[(d (c (c a b) e) (f 65)),(i h (c b (f 1)))],(nat_lit 25153)),
 ((d l (f 1000)),[(d (c (c a b) e) (f 65)),(i h (c b (f 1))),(d k (c (c (s 3 a) h) (s 2 e))),(d l (c k (f 3)))],(nat_lit 1610307)),
 ((Q (v (n a) (n b)) (i a b)),[],(nat_lit 0x313883f107123f)),
 ((i a (f 0)),[(p (P (n a) (m 0)))],(nat_lit 102785607)),
 ((d h a),[(i a (c b e)),(d h b)],(nat_lit 25153)),
 ((g k b),[(d (c a (f 2)) b),(i (c e h) a),(d k e)],(nat_lit 201281)),
 ((t (n a) (n e)),[(d (c a b) e),(g h b)],(nat_lit 3145)),
 ((g a e),[(g a b),(g b e)],(nat_lit 3145)),
 ((d (c a (f 1)) e),[(g a b),(g b e)],(nat_lit 3145)),
 ((g a e),[(g (c a b) e)],(nat_lit 393)),
 ((g (c (c a (f 1)) (f 2)) b),[(g (c a (f 5)) b)],(nat_lit 393)),
 ((d (c a (f 2)) b),[(d (c a (f 4)) b)],(nat_lit 393)),
 ((d (c (f 0) (c (c (s 2 (j a (f 0))) b) (f 0))) (c (s 2 a) b)),[],(nat_lit 392)),
 ((g (c (c a (f 3)) (f 1)) b),[(g (c a (f 6)) b)],(nat_lit 393)),
 ((g a (f 64)),[(g a (f 62))],(nat_lit 393)),
 ((d (c b (f 2)) a),[(g (f 64) a),(g b (f 62))],(nat_lit 3145)),
 ((g b (f 64)),[(g a (f 62)),(d b (c a (f 1)))],(nat_lit 3145)),
 ((g e a),[(g (f 64) a),(g b (f 62)),(d e b)],(nat_lit 25161)),
 ((g a h),[(i (c a b) (c e b)),(g e h)],(nat_lit 25160)),
 ((g a e),[(i (c a (c b (f 1))) e)],(nat_lit 3144)),
 ((i (c (c a e) b) h),[(i (c a (c b e)) h)],(nat_lit 102818375))]
noncomputable abbrev zT10:List Ent:=[((d k h),[(i (c a b) e),(g e h),(d k a)],(nat_lit 201288)),
 ((g k h),[(i (c a b) e),(g e h),(d k a)],(nat_lit 201288)),
 ((g (f 0) b),[(g a b)],(nat_lit 393)),
 ((g (c l b) e),[(g (c a b) e),(i (c h k) a),(d l h)],(nat_lit 201281)),
 (C,[(i (c (c a (f 1)) b) b)],(nat_lit 392)),
 ((g (c e (f 1)) a),[(g (f 201) a),(g b (f 200)),(d e b)],(nat_lit 25161)),
 ((g e a),[(g (f 201) a),(g b (f 200)),(d e b)],(nat_lit 25161)),
 ((d a e),[(g a b),(g b e)],(nat_lit 3145)),
 ((d e h),[(g a b),(i a e),(g b h)],(nat_lit 201225)),
 (C,[(x (m 200) (n a)),(g b (f 200)),(i b a)],(nat_lit 3145)),
 ((g (c a (f 1)) b),[(g (c a (f 4)) b)],(nat_lit 393)),
 ((g (c a (f 1)) b),[(g (c a (f 7)) b)],(nat_lit 393)),
 ((g (c (c (c a (f 1)) (f 1)) (f 4)) b),[(g (c a (f 7)) b)],(nat_lit 393)),
 ((g (c k l) b),[(d (c (s 2 a) (f 2)) b),(i (c e h) a),(d k (s 2 e)),(d l (f 1))],(nat_lit 1610369)),
 ((d (c (c a e) h) (s 2 (c b h))),[(d a (s 2 b)),(d e h)],(nat_lit 3145)),
 ((d (c a e) (s 2 (c b h))),[(d a (s 2 b)),(d e h)],(nat_lit 3145)),
 ((g k b),[(d (c (s 2 a) (f 2)) b),(i (c e h) a),(d k (s 2 e))],(nat_lit 201345)),
 ((d (c (s 2 b) (f 4)) a),[(g (f 3000) a),(g b (f 200))],(nat_lit 3153)),
 ((g b a),[(g (f 3000) a),(g b (f 200))],(nat_lit 3145)),
 ((d (c (s 2 b) (f 2)) a),[(g (f 3000) a),(g b (f 1000))],(nat_lit 3153)),
 ((d (c (f 2) a) b),[(d (c a (f 4)) b)],(nat_lit 393)),
 ((d (c (c (f 0) (f 2)) a) b),[(d (c a (f 4)) b)],(nat_lit 393)),
 ((d (c (c (c (f 0) (f 2)) a) (f 1)) b),[(d (c a (f 4)) b)],(nat_lit 393)),
 ((g (c (c a (f 1)) (f 1)) b),[(g (c a (f 3)) b)],(nat_lit 393))]
noncomputable abbrev zT11:List Ent:=[((g (c a (f 1)) b),[(g (c a (f 2)) b)],(nat_lit 393)),
 ((g (c a (f 3)) b),[(g (c a (f 6)) b)],(nat_lit 393)),
 ((d (c (c b (c e (f 1))) (f 1)) a),[(d (f 4) a),(d b (f 1)),(d e (f 1))],(nat_lit 25161)),
 ((w (v q (m 0)) (v q (m 1))),[(x (m 0) q),(t q (m 2))],(nat_lit 0xc41c4818823f)),
 ((w (v q (m 0)) (w (v q (m 1)) (w (v q (m 2)) (w (v q (m 3)) (v q (m 4)))))),[(x (m 0) q),(t q (m 5))],(nat_lit 0x188389031200c48006240006200047fff)),
 ((d (c a l) r),[(d (c (c (c (c (c a b) e) h) k) l) r)],(nat_lit 393)),
 ((d (c b l) r),[(d (c (c (c (c (c a b) e) h) k) l) r)],(nat_lit 393)),
 ((d (c b k) l),[(d (c (c (c (c a b) e) h) k) l)],(nat_lit 393)),
 ((d (c b h) k),[(d (c (c (c a b) e) h) k)],(nat_lit 393)),
 ((d (c b e) h),[(d (c (c a b) e) h)],(nat_lit 393)),
 ((v (y (F (m 1)) (n (c a (f 1)))) (n a)),[],(nat_lit 49)),
 ((d (c b (f 1)) a),[(d (f 2000) a),(d (c b e) (f 1000))],(nat_lit 3145)),
 ((d (c h (f 1)) a),[(d (f 2000) a),(d (c b e) (f 1000)),(d h (c b (f 1)))],(nat_lit 25161)),
 ((d (c k (f 1)) a),[(d (f 2000) a),(d (c b e) (f 1000)),(d h (c b (f 1))),(d k (c h (f 1)))],(nat_lit 201289)),
 ((d (c l (f 1)) a),[(d (f 2000) a),(d (c b e) (f 1000)),(d h (c b (f 1))),(d k (c h (f 1))),(d l (c k (f 1)))],(nat_lit 1610313)),
 ((d (c r (f 1)) e),[(d (c a b) (f 1000)),(d (f 2000) e),(d h (c a (f 1))),(d k (c h (f 1))),(d l (c k (f 1))),(d r (c l (f 1)))],(nat_lit 12882505)),
 ((g (c b (f 1)) a),[(d (f 2000) a),(d (c b e) (f 100))],(nat_lit 3145)),
 ((d (c (c a e) b) h),[(d (c a (c b e)) h)],(nat_lit 393)),
 ((d (c (f 2) (s 5 b)) (f 1000)),[(d (c a (c b e)) (f 100))],(nat_lit 397)),
 ((d (c a b) h),[(d (c a (c b e)) h)],(nat_lit 393)),
 ((d (c A (s 5 b)) h),[(d (c a (s 5 (c b e))) h),(d k (c a e)),(d l (c k e)),(d r (c l e)),(d u (c r e)),(d A (c u e))],(nat_lit 12882505)),
 ((i b a),[(w (o (x (m 0) (y (m 0) (M 1 (n a)))) (v (n b) (y (m 0) (M 1 (n a))))) (o (t (y (m 0) (M 1 (n a))) (m 0)) (i b (f 0))))],(nat_lit 0x31c4118903f)),
 ((p (t (n a) (m 0))),[],(nat_lit 49)),
 ((v (D (m 0) (G (n b) (n a))) (n a)),[(d a b)],(nat_lit 0x6201c411f120e200ff1006240c401ff))]
noncomputable abbrev zT12:List Ent:=[((d (c (f 0) a) (f 100)),[(d a (f 63))],(nat_lit 393)),
 ((d (c (f 2) (s 5 a)) (f 1000)),[(d a (f 63))],(nat_lit 397)),
 ((g a e),[(t (n a) (n b)),(i b e)],(nat_lit 25153)),
 ((g (j b (c a (f 1))) e),[(g a b),(i e (j b a))],(nat_lit 0x189c4020e20103f)),
 ((i (c (c a k) h) e),[(i (c a b) e),(i b (c h k))],(nat_lit 0x6240388247)),
 ((d b e),[(i a b),(p (t (n e) (n a)))],(nat_lit 25153)),
 ((x (m 0) q),[(w (v q (m 0)) (v q (m 1)))],(nat_lit 3137)),
 ((x (m 0) (E (m 1) q)),[(w (v q (m 0)) (v q (m 1)))],(nat_lit 3144)),
 ((g (f 1) a),[(g (f 2) a)],(nat_lit 393)),
 ((g (j b (f 1)) e),[(g a b),(d b e)],(nat_lit 0x188271047)),
 ((v (E (n b) (m 1)) (n (j b (f 1)))),[(g a b)],(nat_lit 0x3107123e207)),
 ((v (n (j b (f 1))) (E (n b) (m 1))),[(g a b)],(nat_lit 0x3123107e207)),
 ((t (m 0) q),[(p (t q (m 1)))],(nat_lit 393)),
 ((x (M 1 q) z),[(x q z)],(nat_lit 393)),
 ((p (t q (n (f 1)))),[(x (m 1) q)],(nat_lit 393)),
 ((v (E (n b) (n a)) (n (j b a))),[(d a b)],(nat_lit 0x3107123e207)),
 ((t (E (n b) (n a)) (m 1)),[(p (d a b))],(nat_lit 393)),
 ((i (j b a) (f 0)),[(p (d a b))],(nat_lit 12848207)),
 ((x q (n a)),[(i a (f 16777216)),(x q (m 1000))],(nat_lit 25153)),
 ((t q (m 1)),[(p (x (m 0) q))],(nat_lit 393)),
 ((x q (y (m 3) z)),[(x q z)],(nat_lit 393)),
 ((x (m 0) (y (m 3) (E (m 1) q))),[(w (v q (m 0)) (v q (m 1)))],(nat_lit 3144)),
 ((x (F (m 1000)) (E (n b) (n a))),[(d a b)],(nat_lit 393)),
 ((x (E (n a) (n b)) (m 1000)),[(d a (f 200))],(nat_lit 393))]
noncomputable abbrev zT13:List Ent:=[((d (j a e) b),[(d a b)],(nat_lit 102785551)),
 ((d (B e a) b),[(d a b)],(nat_lit 103080463)),
 ((d (c a b) (f 400)),[(d a (f 200)),(d b (f 200))],(nat_lit 3145)),
 ((d b a),[(d (f 2000) a),(d b (f 200))],(nat_lit 3145)),
 ((d (c e (j b h)) a),[(d (f 2000) a),(d b (f 200)),(d e (f 400))],(nat_lit 0x620838824f)),
 ((g a b),[(t (n a) (n b))],(nat_lit 393)),
 ((d (c b e) a),[(d (f 2000) a),(d b (f 200)),(d e (f 200))],(nat_lit 25161)),
 ((p (g a b)),[(p (t (n a) (n b)))],(nat_lit 393)),
 ((d (c (c b l) (f 1)) a),[(d (f 1001) a),(d (c b e) (f 1000)),(i e (c h k)),(i l h)],(nat_lit 12877897)),
 ((d (c b (c a (f 1))) (f 1000)),[(d a (f 200)),(d b (f 600))],(nat_lit 3145)),
 ((d (c b (f 1)) a),[(d (f 1000) a),(d b (f 200))],(nat_lit 3145)),
 ((x (m 0) (y (m 3) q)),[(w (v q (m 0)) (v q (m 1)))],(nat_lit 3137)),
 ((d (c b (B e a)) (f 1100)),[(d a (f 200)),(d b (f 900))],(nat_lit 0x18927104f)),
 ((d b a),[(d (f 2000) a),(d b (f 1100))],(nat_lit 3145)),
 ((d (c b e) a),[(d (f 2000) a),(d b (f 1100)),(d e (f 200))],(nat_lit 25161)),
 ((d b h),[(i a b),(d a e),(d e h)],(nat_lit 201281)),
 ((d b k),[(i a (c b e)),(i h a),(d h k)],(nat_lit 1609793)),
 ((d (c (f 2) b) a),[(d (f 3000) a),(d b (f 2000))],(nat_lit 3145)),
 ((d (c (c (f 2) b) (f 1)) a),[(d (f 3000) a),(d b (f 2000))],(nat_lit 3145)),
 ((d (c (c (B e a) (j a e)) (j b a)) (f 600)),[(d a (f 200)),(d b (f 200))],(nat_lit 0x188041c40247c4000e20023fc4000e20023e2000b10013ff)),
 ((d (c b (c a (f 1))) (f 900)),[(d a (f 200)),(d b (f 600))],(nat_lit 3145)),
 ((d (c (c b (B e a)) (j a e)) (f 2000)),[(d a (f 200)),(d b (f 900))],(nat_lit 0x18824e2013f1009c402bf)),
 ((d (c h k) e),[(d (c a b) e),(i h a),(i k b)],(nat_lit 1609793)),
 ((g h e),[(g a b),(g b e),(d h a)],(nat_lit 25161))]
noncomputable abbrev zT14:List Ent:=[((d a k),[(d (c (c a b) e) h),(d h k)],(nat_lit 3145)),
 ((d (c a e) k),[(d (c (c a b) e) h),(d h k)],(nat_lit 3145)),
 ((J (c e b) a),[(g a b)],(nat_lit 3137)),
 ((d (c (c a e) b) k),[(d (c (c a b) e) h),(d h k)],(nat_lit 3145)),
 ((d (c (c (c a e) h) (f 1)) (f 1000)),[(d (c (c (c (c a b) e) h) k) (f 900))],(nat_lit 393)),
 ((d (c (c (c b e) k) (f 1)) (f 1000)),[(d (c (c (c (c a b) e) h) k) (f 900))],(nat_lit 393)),
 ((g e b),[(g a b),(i a (c e h))],(nat_lit 25097)),
 ((d (c a e) (c h b)),[(d a b),(d e h)],(nat_lit 3145)),
 ((x (F (m 1000)) (E (n b) (n a))),[(d a (f 500))],(nat_lit 393)),
 ((x (E (n a) (n b)) (m 1000)),[(d a (f 500))],(nat_lit 393)),
 ((d (c b (f 4)) a),[(d (f 1004) a),(d b (f 1000))],(nat_lit 3145)),
 ((d e a),[(d (f 1004) a),(d b (f 1000)),(d e b)],(nat_lit 25161)),
 ((d (c b (R e 0)) (f 16777216)),[(d a (f 1000)),(d b a)],(nat_lit 3145)),
 ((d (c h (f 4)) a),[(d (f 1004) a),(d b (f 1000)),(d e b),(d h e)],(nat_lit 201289)),
 ((g (c a (f 2)) b),[(g (c a (f 10)) b)],(nat_lit 393)),
 ((g (c a (f 6)) b),[(g (c a (f 10)) b)],(nat_lit 393)),
 ((i (j e (c a b)) (c (j e (c a (c b (f 1)))) (f 1))),[(g (c a b) e)],(nat_lit 0x627100e240f8803f)),
 ((g (j e (c b (f 1))) (j e b)),[(g (c a b) e)],(nat_lit 0x620e201f8838803f)),
 ((d a l),[(d (c (c (c (c a b) e) h) k) l)],(nat_lit 393)),
 ((d b l),[(d (c (c (c (c a b) e) h) k) l)],(nat_lit 393)),
 ((d b k),[(d (c (c (c a b) e) h) k)],(nat_lit 393)),
 ((d b h),[(d (c (c a b) e) h)],(nat_lit 393)),
 ((d b e),[(d (c a b) e)],(nat_lit 393)),
 ((d (c (c (c a b) e) h) (c (c (c (c (c a k) b) h) l) e)),[],(nat_lit 49))]
noncomputable abbrev zT15:List Ent:=[((d (c (c (c a b) e) h) (c (c (c (c (c k a) b) l) h) e)),[],(nat_lit 49)),
 ((d (c (f 2) e) a),[(d (f 1000) a),(d b (f 190)),(d e (c b (f 1)))],(nat_lit 25161)),
 ((g (c a (f 1)) b),[(g (c a (f 10)) b)],(nat_lit 393)),
 ((d a (f 200)),[(d a (f 190))],(nat_lit 393)),
 ((d (c a e) b),[(d (c a (f 10)) b),(d e (f 4))],(nat_lit 3145)),
 ((d (c (c (c (c a h) b) e) k) (f 129)),[(d (c (c a b) e) (f 64)),(d (c (c h b) k) (f 65))],(nat_lit 3145)),
 ((d e (f 65)),[(d (c a b) (f 64)),(i e (c (c a (f 1)) b))],(nat_lit 25153)),
 ((d e (f 66)),[(d (c a b) (f 65)),(i e (c (c a (f 1)) b))],(nat_lit 25153)),
 ((d h (f 66)),[(d (c (c a b) e) (f 64)),(i h (c b (f 1)))],(nat_lit 25153)),
 ((J a (f 0)),[(i a (c (c b (f 1)) e))],(nat_lit 25089)),
 ((d a (f 900)),[(d a (f 129))],(nat_lit 393)),
 ((g (c a (f 4)) b),[(g (c a (f 10)) b)],(nat_lit 393)),
 ((g a (f 200)),[(d a (f 65))],(nat_lit 393)),
 ((g a (f 200)),[(d a (f 66))],(nat_lit 393)),
 ((d a (f 100)),[(d a (f 66))],(nat_lit 393)),
 ((d a (f 500)),[(d a (f 65))],(nat_lit 393)),
 ((d a (f 500)),[(d a (f 66))],(nat_lit 393)),
 ((d a (f 1000)),[(d a (f 65))],(nat_lit 393)),
 ((d a (f 1000)),[(d a (f 66))],(nat_lit 393)),
 ((d (c a b) (f 1000000)),[(d a (f 100000)),(d b (f 4))],(nat_lit 3145)),
 ((d a (f 190)),[(d a (f 129))],(nat_lit 393)),
 ((d (c a (f 10)) (f 1000000)),[(d a (f 100000))],(nat_lit 393)),
 ((g e b),[(g a b),(d e a)],(nat_lit 3145)),
 ((d b h),[(i a (c b e)),(d a h)],(nat_lit 25153))]
noncomputable abbrev zT16:List Ent:=[((d a (f 100000)),[(d a (s 4 b)),(d b (f 64))],(nat_lit 3169)),
 ((d a (f 1000)),[(d a (f 64))],(nat_lit 393)),
 ((d a (f 64)),[(d a (c (f 1) b)),(d b (f 63))],(nat_lit 3145)),
 ((d a (f 65)),[(d a (c (f 2) b)),(d b (f 63))],(nat_lit 3145)),
 ((d (c (c (f 0) (f 1)) a) (f 64)),[(d a (f 63))],(nat_lit 393)),
 ((v (y (E (n b) (n a)) (m 1)) (n (j (c b (f 1)) a))),[(d a (c b (f 1)))],(nat_lit 0x3107123e207)),
 ((i e (j a b)),[(w (o (x (m 0) (E (n a) (n b))) (v (n e) (E (n a) (n b)))) (o (t (E (n a) (n b)) (m 0)) (i e (f 0))))],(nat_lit 0x1880062081f100fc40031240f880462081ff)),
 ((i h k),[(i (c a (c b (f 1))) e),(d e a)],(nat_lit 3144)),
 ((g a h),[(i (c a (c b (f 1))) e),(i e h)],(nat_lit 201224)),
 (C,[(v (n a) (E (n b) (m 1))),(d b a)],(nat_lit 3144)),
 ((i b (c (j b (f 1)) (f 1))),[(d a b),(p (i b a))],(nat_lit 0x6271046240f8803f)),
 ((v (E (n (c a (f 1))) (m 1)) (n a)),[],(nat_lit 49)),
 ((d a b),[(d a (c b (f 1))),(p (i (c b (f 1)) a))],(nat_lit 12902983)),
 ((w C (i e h)),[(g a b),(d b a)],(nat_lit 393)),
 ((d (c a e) (c (c h e) b)),[(d a b)],(nat_lit 393)),
 ((d a b),[(d (c (s 2 a) (f 2)) b)],(nat_lit 393)),
 ((g (f 0) (c (c a (f 1)) b)),[],(nat_lit 49)),
 ((d (c a h) e),[(d (c a b) e),(i b (c h k))],(nat_lit 25097)),
 ((d a (c (c b a) e)),[],(nat_lit 49)),
 ((g (c (c e u) (f 1)) b),[(d (c a (f 2)) b),(d (c e h) (c a (f 1))),(i h (c k l)),(g r l),(d u k)],(nat_lit 12881993)),
 ((g h l),[(g (c a b) e),(i h (c (c k a) b)),(i l (c k e))],(nat_lit 1606209)),
 ((d (c (c h (f 1)) u) l),[(g (c a b) e),(d (c h k) l),(i k (c r e)),(i u (c (c r a) b))],(nat_lit 12877897)),
 ((g a h),[(g (c (c a b) e) h)],(nat_lit 393)),
 ((g b h),[(g (c (c a b) e) h)],(nat_lit 393))]
noncomputable abbrev zT17:List Ent:=[((d (c a b) (c (c e a) b)),[],(nat_lit 49)),
 ((v (D (m 0) q) (n a)),[(w (o (x (m 0) (D (m 0) q)) (v (n a) (D (m 0) q))) (o (t (D (m 0) q) (m 0)) (i a (f 0))))],(nat_lit 0x189c47c41000c40200f892001880001fe20800e200207c41000c40000ffe20800620000fc41001c40000ff124003100007e208006200007fff)),
 ((g (c a b) e),[(d (c a (c b (f 1))) e)],(nat_lit 393)),
 ((i e (f 0)),[(g (f 0) a),(i (j b e) a),(d b a)],(nat_lit 0xc41c4000624103f)),
 ((d (c a (j b a)) e),[(d a b),(d b e)],(nat_lit 0x188271047)),
 ((i e a),[(w (o (x (m 0) (D (m 0) (G (n a) (n b)))) (v (n e) (D (m 0) (G (n a) (n b))))) (o (t (D (m 0) (G (n a) (n b))) (m 0)) (i e (f 0)))),(d a b)],(nat_lit 0xc40c40200031040000f880080062080001fe201000388201007c40040071040000ffe200001188200007c40000231040000ff1000008c4100803e200001188200007ffe201000188200007c40040031040000ff1208000c4100007e240200188200007ff1000208c4100003e200041188200007f890000462080003f1200008c4100003ffff)),
 ((d b e),[(w (o (x (m 0) (D q (G (n a) (n b)))) (v (n e) (D q (G (n a) (n b))))) (o (t (D q (G (n a) (n b))) (m 0)) (i e (f 0)))),(p (d a b))],(nat_lit 0x6206247c40c48ff100000e200200c40200031009000ff1001006201000188040047fff)),
 ((d b a),[(p (d a b))],(nat_lit 393)),
 ((i e b),[(w (o (x (m 0) (D (m 0) (G (n a) (n b)))) (v (n e) (D (m 0) (G (n a) (n b))))) (o (t (D (m 0) (G (n a) (n b))) (m 0)) (i e (f 0)))),(p (d a b))],(nat_lit 0x3103100000e200200c40200031040000f880080062080001ffc400401880000462080001f1000008c4100003ffff)),
 ((t (F (m 1)) (m 0)),[],(nat_lit 49)),
 ((i b (j a (f 1))),[(w (o (x (m 0) (D (m 0) (G (y (F (m 1)) (n a)) (n a)))) (v (n b) (D (m 0) (G (y (F (m 1)) (n a)) (n a))))) (o (t (D (m 0) (G (y (F (m 1)) (n a)) (n a))) (m 0)) (i b (f 0))))],(nat_lit 0x1891881f1f880000062480001f1008000c4100003fc40000031040000f880080062080011ffc401f1000000c4100023e200001188200007f880000062080001f1000008c4900003ff8803fc7f)),
 ((d (c (f 0) a) a),[],(nat_lit 49)),
 ((i a (f 0)),[(t (n a) (m 1))],(nat_lit 1608783)),
 ((p (v (n a) (m 1))),[(p (i a (f 1)))],(nat_lit 12902927)),
 ((i (j (c a b) (c e b)) (j a e)),[],(nat_lit 0x620620e247f883891f103f)),
 ((d (j a b) a),[],(nat_lit 392)),
 ((i a e),[(i (c a b) e),(d e a)],(nat_lit 0x189031047)),
 ((g (j b (f 1)) b),[(i (c a b) e),(g a e)],(nat_lit 0x6208388007)),
 ((i (c (c a (f 1)) (j b (f 1))) e),[(i (c a b) e),(g a e)],(nat_lit 0x18900e2081f1001c4023f)),
 ((d a b),[(g (j a (f 1)) b)],(nat_lit 103080519)),
 ((v (n (c a (f 1))) (y (n a) (m 1))),[],(nat_lit 49)),
 ((i a (f 0)),[(d a (f 0))],(nat_lit 1608783)),
 ((i b (f 0)),[(i a (c b e)),(p (g e a))],(nat_lit 0x18803120f)),
 ((g b a),[(i a (c b (f 1)))],(nat_lit 3137))]
noncomputable abbrev zT18:List Ent:=[((p (i a (f 0))),[(i a (c b (f 1)))],(nat_lit 25089)),
 ((o (o (x (m 0) (y (F (m 1)) (y (n a) (m 1)))) (t (y (F (m 1)) (y (n a) (m 1))) (y (n a) (m 1)))) (i b a)),[(w (o (x (m 0) (y (F (m 1)) (y (n a) (m 1)))) (v (n b) (y (F (m 1)) (y (n a) (m 1))))) (o (t (y (F (m 1)) (y (n a) (m 1))) (m 0)) (i b (f 0))))],(nat_lit 0xc71046240f8803f)),
 ((d b (c h e)),[(i a (c b e)),(d a h)],(nat_lit 25153)),
 ((d (c h k) e),[(d (c a b) (f 1000000)),(i e (f 16777216)),(i h a),(i k b)],(nat_lit 103026697)),
 ((g (c h (j a e)) (c h (j b e))),[(g a b),(p (g a e))],(nat_lit 0x6209c4027e209c4007f)),
 ((p (g (c a b) a)),[],(nat_lit 49)),
 ((i (c b (j (c e (j a b)) e)) a),[(p (g a b))],(nat_lit 0x6208c403f1046201ff1206201f8803f)),
 ((g (c h (j a b)) e),[(g a (c b (j e h))),(d b a)],(nat_lit 0x31231048c4023f)),
 ((g (c h (j a b)) e),[(g a (c b (j e h))),(p (g a b))],(nat_lit 0x31231048c4023f)),
 ((i b h),[(i (c a (j b e)) (c a (j h e))),(p (g b e)),(p (g h e))],(nat_lit 0x1882011890003f104103100027fc40009c48200f880081880401ff)),
 ((p (t z q)),[(x q z)],(nat_lit 393)),
 ((t q (n a)),[(w (o (x (m 0) q) (v (n b) q)) (o (t q (m 0)) (i b (f 0)))),(g b a)],(nat_lit 0x6240389047)),
 ((x (F z) q),[(x (m 0) (y q z))],(nat_lit 393)),
 ((t q (n a)),[(t (y q (n a)) (n a))],(nat_lit 393)),
 ((x (F (n a)) q),[(p (t q (m 0)))],(nat_lit 393)),
 ((o (p (t q L)) (p (x z q))),[(t q z),(x L q)],(nat_lit 102818375)),
 ((i a (c b (c e (c k h)))),[(i a (c b (c (c e h) k)))],(nat_lit 102818375)),
 ((g (j a b) e),[(g a (c b e)),(d b a)],(nat_lit 0x18827100f)),
 ((i (c b (j a b)) a),[(d b a)],(nat_lit 0x3123107e207)),
 (C,[(i a (c (c a (f 1)) b))],(nat_lit 49)),
 ((d a (c (c b e) e)),[(d a b)],(nat_lit 393)),
 ((d h e),[(d (c a b) e),(i h a)],(nat_lit 25153)),
 ((d (c h k) (c e k)),[(d (c a b) e),(i h a)],(nat_lit 25153)),
 ((i a k),[(i (c (c a b) e) h),(i (c (c k b) e) h)],(nat_lit 0x6240388247))]
noncomputable abbrev zT19:List Ent:=[((i a b),[(g (j a b) (f 1)),(d b a)],(nat_lit 0x18903100fc4038823f)),
 ((i a (c b (j a b))),[(d b a)],(nat_lit 0x3107123e207)),
 ((i (c (c a (c b e)) (f 0)) (c (c a e) b)),[],(nat_lit 49)),
 ((d b a),[(i a (c b e))],(nat_lit 3137)),
 ((p (g b a)),[(d a b)],(nat_lit 393)),
 ((i (j (j (c (f 0) a) b) e) (j (j a b) e)),[],(nat_lit 0x62001880062401fe20018800e2401ffc40231000f88007c40231000f8800e2081fff88006200189007f88006201189007ff1008c4103e200388207f880462401f1000fff)),
 ((i a b),[(g a (c b (f 1))),(p (g a b))],(nat_lit 103047695)),
 ((g (j a e) b),[(g a b)],(nat_lit 3137)),
 ((J (j a (f 1)) a),[(d (f 1) a)],(nat_lit 102818311)),
 ((t q z),[(P q z),(p (t z q))],(nat_lit 12852303)),
 ((g a (j b (f 1))),[(g a b),(p (i a (j b (f 1))))],(nat_lit 0x1881893f12062081f107f)),
 ((g (j a (f 1)) a),[(d (f 1) a)],(nat_lit 102818311)),
 ((t q L),[(t q z),(p (t L z))],(nat_lit 3145)),
 ((g (j a h) e),[(g a b),(d b e)],(nat_lit 25097)),
 ((J b (j b (f 1))),[(d (f 1) a),(d a b)],(nat_lit 0x6201388007)),
 ((i (I a b) b),[(d a b)],(nat_lit 0x3103123107f)),
 ((g (j (j e (f 1)) b) (j (j e (f 1)) a)),[(g a b),(g b e)],(nat_lit 0xc49c402710013880013fe201388009c40001fff)),
 ((g (j (j b (f 1)) e) b),[(g a b)],(nat_lit 0x6201c4038803f)),
 ((J (j b (f 1)) b),[(d (f 1) a),(d a b)],(nat_lit 0x188271007)),
 ((p (g a a)),[],(nat_lit 49)),
 ((t q L),[(t q z),(t z L)],(nat_lit 3145)),
 ((t q z),[(g a (f 1)),(g b a)],(nat_lit 393)),
 ((g (f 0) b),[(d (f 1) a),(d a b)],(nat_lit 3145)),
 ((g (j a (f 1)) e),[(g (f 1) a),(d a b),(d b e)],(nat_lit 0xc40388247))]
noncomputable abbrev zT20:List Ent:=[((J (f 0) (j a b)),[(g b a)],(nat_lit 12902927)),
 ((g (f 0) (j a b)),[(g b a)],(nat_lit 12902927)),
 ((g (j a (f 1)) a),[(g (f 1) a)],(nat_lit 12902919)),
 ((i b a),[(d a b),(p (g a b))],(nat_lit 102818375)),
 ((d a (c a a)),[],(nat_lit 49)),
 ((d (c (f 1) (f 1)) a),[(d (f 1) a),(p (i (f 1) a))],(nat_lit 12880975)),
 ((i b (f 0)),[(g a (c (f 1) (f 1))),(g b a)],(nat_lit 102785615)),
 ((i a (f 1)),[(g a (c (f 1) (f 1))),(g b a)],(nat_lit 103047695)),
 ((g a b),[(d a b),(p (i a b))],(nat_lit 12880975)),
 ((d a b),[(d (c a a) b)],(nat_lit 401)),
 ((g k b),[(d (s 2 k) (c h e)),(g (c h e) (c (s 2 k) (f 2))),(g a b),(d e a),(p (d e h))],(nat_lit 1643649)),
 ((J b h),[(d (s 2 h) (c e a)),(g (c e a) (c (s 2 h) (f 2))),(d a b),(p (d a e))],(nat_lit 1639041)),
 ((d a e),[(d (s 2 e) (c a b)),(g (c a b) (c (s 2 e) (f 2))),(p (d b a))],(nat_lit 25672)),
 ((d h b),[(d (s 2 h) (c e a)),(g (c e a) (c (s 2 h) (f 2))),(d a b),(p (d a e))],(nat_lit 205441)),
 ((d (j k b) (j e (c h (f 1)))),[(d (s 2 k) (c b a)),(g (c b a) (c (s 2 k) (f 2))),(d (j a b) (j e h))],(nat_lit 0x6200000c40200f9000107100803fc4000018900003e400041c900083ffc400001880401f200800e201007f88000031200007c882003ff)),
 ((g a b),[(d a b),(p (i b a))],(nat_lit 12902983)),
 ((d (c e (f 1)) b),[(d (s 2 e) (c a b)),(g (c a b) (c (s 2 e) (f 2))),(p (d b a))],(nat_lit 25665)),
 ((d (j a (c l k)) (j e (c h k))),[(d (s 2 l) (c b a)),(g (c b a) (c (s 2 l) (f 2))),(d (j a b) (j e h))],(nat_lit 0x188000031200007c8000919200123fc4000018900003e400048c800891ffc4000018900003e401008c902011fe200000c480001f2208046402048fff)),
 ((t z q),[(P q z),(p (t q z))],(nat_lit 12902927)),
 ((g h b),[(d (s 2 h) (c e a)),(g (c e a) (c (s 2 h) (f 2))),(d a b),(p (d a e))],(nat_lit 205441)),
 ((d a k),[(d (j a b) (j e (I h e))),(d b k)],(nat_lit 0x189001c490062480312411ff)),
 ((i (B (c a (f 1)) b) (c a (f 1))),[(g a b)],(nat_lit 0x3103107123f)),
 ((p (i b e)),[(g a b),(i a e)],(nat_lit 200713)),
 ((o (g h a) (d a b)),[(g a (c b (f 1))),(g e a),(i e h)],(nat_lit 0x6200388247))]
noncomputable abbrev zT21:List Ent:=[((d e (j b (f 1))),[(g a b),(i a e)],(nat_lit 0x624138804f)),
 ((g (j a (f 1)) b),[(g a (c b (f 1))),(g e a)],(nat_lit 0x18827100f)),
 ((p (i e a)),[(g a b),(g b e)],(nat_lit 25097)),
 ((o (g h a) (d a b)),[(g a (c b (f 1))),(g e a),(g h e)],(nat_lit 0x188071247)),
 ((g (j b (f 1)) (j e (f 1))),[(g a b),(g b e)],(nat_lit 0x6209c4027e209c4023f)),
 ((t q z),[(g a b),(g b (c e (f 1))),(p (i a h)),(p (o (g h a) (d a e))),(g h b),(p (g a (j b (f 1))))],(nat_lit 0x3104e24103104103fc4138903f)),
 ((g a b),[(g a (c b (f 1))),(d e b),(p (o (g e a) (d a b))),(p (i a e))],(nat_lit 0x620e24118903f)),
 ((i (B (I a b) b) b),[],(nat_lit 0x1881883891f103f)),
 ((t q z),[(g a (B (I b (f 1)) e)),(i b (f 0)),(g h a)],(nat_lit 0x31008188048f8800f)),
 ((g a b),[(g a (B (I b (f 1)) e)),(g h a)],(nat_lit 0x6240c491f1040c4123f)),
 ((p (d a (f 0))),[(d (f 2) a)],(nat_lit 393)),
 ((d (f 1) a),[(d (f 2) a)],(nat_lit 393)),
 ((i a b),[(d a b),(p (g a b))],(nat_lit 103047695)),
 (C,[(d (f 2) a),(i (I (f 0) a) (f 0))],(nat_lit 102767695)),
 ((d a e),[(g a b),(d b e)],(nat_lit 3145)),
 ((d a (c e h)),[(g a b),(d b e)],(nat_lit 3145)),
 ((t q z),[(g a (f 2)),(g b a),(g e b)],(nat_lit 3145))]
end Lq
mutual
theorem IM:Lq.zT0.all iR=true:=by kernel_rfl
theorem IL:Lq.zT1.all iR=true:=by kernel_rfl
theorem IK:Lq.zT2.all iR=true:=by kernel_rfl
theorem IJ:Lq.zT3.all iR=true:=by kernel_rfl
theorem II:Lq.zT4.all iR=true:=by kernel_rfl
theorem IH:Lq.zT5.all iR=true:=by kernel_rfl
theorem IG:Lq.zT6.all iR=true:=by kernel_rfl
theorem IF:Lq.zT7.all iR=true:=by kernel_rfl
theorem IE:Lq.zT8.all iR=true:=by kernel_rfl
theorem ID:Lq.zT9.all iR=true:=by kernel_rfl
theorem Gz:Lq.zT10.all iR=true:=by kernel_rfl
theorem Gy:Lq.zT11.all iR=true:=by kernel_rfl
end
mutual
theorem Gx:Lq.zT12.all iR=true:=by kernel_rfl
theorem Gw:Lq.zT13.all iR=true:=by kernel_rfl
theorem Gv:Lq.zT14.all iR=true:=by kernel_rfl
theorem Gu:Lq.zT15.all iR=true:=by kernel_rfl
theorem Gr:Lq.zT16.all iR=true:=by kernel_rfl
theorem Gq:Lq.zT17.all iR=true:=by kernel_rfl
theorem Gp:Lq.zT18.all iR=true:=by kernel_rfl
theorem Gn:Lq.zT19.all iR=true:=by kernel_rfl
theorem Gm:Lq.zT20.all iR=true:=by kernel_rfl
theorem Gk:Lq.zT21.all iR=true:=by kernel_rfl
end
noncomputable abbrev HX:List (List Ent):=[Lq.zT0,Lq.zT1,Lq.zT2,Lq.zT3,Lq.zT4,Lq.zT5,Lq.zT6,Lq.zT7,Lq.zT8,Lq.zT9,Lq.zT10,Lq.zT11,Lq.zT12,Lq.zT13,Lq.zT14,Lq.zT15,Lq.zT16,Lq.zT17,Lq.zT18,Lq.zT19,Lq.zT20,Lq.zT21]
theorem IC:HX.all (λl=>l.all iR)=true:=fB IM (fB IL (fB IK (fB IJ (fB II (fB IH (fB IG (fB IF (fB IE (fB ID (fB Gz (fB Gy (fB Gx (fB Gw (fB Gv (fB Gu (fB Gr (fB Gq (fB Gp (fB Gn (fB Gm (fB Gk (rfl))))))))))))))))))))))
noncomputable abbrev zE(k i:Nat):Ent:=uc dE (uc [] HX k) i
theorem mX(k i:Nat)(a:List Nat)(c:List Int):SE a c (zE k i):=I0 (ub IC k) i a c
mutual
theorem Cd(k i:Nat):SE [] [] (zE k i):=mX k i _ _
theorem eU{x}(k i:Nat):SE [] [x] (zE k i):=mX k i _ _
theorem lr{x y}(k i:Nat):SE [] [x,y] (zE k i):=mX k i _ _
theorem pQ{x y z}(k i:Nat):SE [] [x,y,z] (zE k i):=mX k i _ _
theorem dy{a}(k i:Nat):SE [a] [] (zE k i):=mX k i _ _
theorem tH{a x}(k i:Nat):SE [a] [x] (zE k i):=mX k i _ _
theorem bM{a b}(k i:Nat):SE [a,b] [] (zE k i):=mX k i _ _
theorem DM{a b x}(k i:Nat):SE [a,b] [x] (zE k i):=mX k i _ _
theorem DL{a b x y}(k i:Nat):SE [a,b] [x,y] (zE k i):=mX k i _ _
theorem bJ{a b c}(k i:Nat):SE [a,b,c] [] (zE k i):=mX k i _ _
theorem DK{a b c x}(k i:Nat):SE [a,b,c] [x] (zE k i):=mX k i _ _
theorem DJ{a b c x y}(k i:Nat):SE [a,b,c] [x,y] (zE k i):=mX k i _ _
end
mutual
theorem bZ{a b c d}(k i:Nat):SE [a,b,c,d] [] (zE k i):=mX k i _ _
theorem AU{a b c d x y}(k i:Nat):SE [a,b,c,d] [x,y] (zE k i):=mX k i _ _
theorem d7{a b c d e}(k i:Nat):SE [a,b,c,d,e] [] (zE k i):=mX k i _ _
theorem ip{a b c d e f}(k i:Nat):SE [a,b,c,d,e,f] [] (zE k i):=mX k i _ _
theorem pO{a b c d e f g}(k i:Nat):SE [a,b,c,d,e,f,g] [] (zE k i):=mX k i _ _
theorem zg{a b c d e f g h}(k i:Nat):SE [a,b,c,d,e,f,g,h] [] (zE k i):=mX k i _ _
theorem DB{a b c d e f g h j}(k i:Nat):SE [a,b,c,d,e,f,g,h,j] [] (zE k i):=mX k i _ _
theorem Cc{a b c d e f g h j l}(k i:Nat):SE [a,b,c,d,e,f,g,h,j,l] [] (zE k i):=mX k i _ _
theorem Gj{a b c d e f g h j l m}(k i:Nat):SE [a,b,c,d,e,f,g,h,j,l,m] [] (zE k i):=mX k i _ _
theorem DN{a b c d e f g h j l m n o}(k i:Nat):SE [a,b,c,d,e,f,g,h,j,l,m,n,o] [] (zE k i):=mX k i _ _
end
section
variable {a:Nat}{b:Nat}{c:Nat}{d:Nat}{e:Nat}{f:Nat}{g:Nat}{h:Nat}{i:Nat}{j:Nat}{k:Nat}{l:Nat}{m:Nat}{n:Nat}{o:Nat}{p:Nat}{q:Nat}{r:Nat}{s:Nat}{t:Nat}{u:Int}{v:Int}{w:Int}{x:Int}{y:Int}{z:Int}
theorem GX:Sd [a,b,c,d,e,f] [] ((Pr.rn .le) ((Tm.p) ((Tm.p) ((Tm.p) ((Tm.p) ((Tm.p) ((Tm.mn) (Tm.v 0) ((Tm.mn) (Tm.v 1) (Tm.v 2))) ((Tm.m) ((Tm.mn) (Tm.v 1) (Tm.v 2)) (Tm.v 0))) ((Tm.m) (Tm.v 2) ((Tm.mn) (Tm.v 1) (Tm.v 2)))) (Tm.v 3)) ((Tm.mn) (Tm.v 4) (Tm.v 5))) ((Tm.m) (Tm.v 5) (Tm.v 4))) ((Tm.p) ((Tm.p) ((Tm.t) 3 (Tm.v 2)) (Tm.v 3)) ((Tm.t) 2 (Tm.v 5)))) []:=li ((Ct.b) ((Ct.b) ((Ct.b) ((Ct.b) ((Ct.b) ((Ct.b) ((Ct.b) ((Ct.l) [0,0,0,0,0,0,0,0,1]) ((Ct.b) ((Ct.l) [0,0,0,0,0,0,0,0,1]) ((Ct.l) [0,0,0,0,0,0,1,0,1]))) ((Ct.b) ((Ct.l) [0,0,0,0,0,0,0,0,1]) ((Ct.b) ((Ct.l) [0,0,0,0,0,0,0,0,1]) ((Ct.l) [0,0,0,0,0,0,1,0,1])))) ((Ct.b) ((Ct.b) ((Ct.l) [0,0,0,0,0,0,0,0,1]) ((Ct.b) ((Ct.l) [0,0,0,0,0,0,0,0,1]) ((Ct.l) [0,0,0,0,0,0,1,0,1]))) ((Ct.b) ((Ct.l) [0,0,0,0,0,0,0,0,1]) ((Ct.b) ((Ct.l) [0,0,0,0,0,0,0,0,1]) ((Ct.l) [0,0,0,0,0,0,1,0,1]))))) ((Ct.b) ((Ct.b) ((Ct.b) ((Ct.l) [0,0,0,0,0,0,0,0,1]) ((Ct.b) ((Ct.l) [0,0,0,0,0,0,0,0,1]) ((Ct.l) [0,0,0,0,0,0,1,0,1]))) ((Ct.b) ((Ct.l) [0,0,0,0,0,0,0,0,1]) ((Ct.b) ((Ct.l) [0,0,0,0,0,0,0,0,1]) ((Ct.l) [0,0,0,0,0,0,1,0,1])))) ((Ct.b) ((Ct.b) ((Ct.l) [0,0,0,0,0,0,0,0,1]) ((Ct.b) ((Ct.l) [0,0,0,0,0,0,0,0,1]) ((Ct.l) [0,0,0,0,0,0,1,0,1]))) ((Ct.b) ((Ct.l) [0,0,0,0,0,0,0,0,1]) ((Ct.b) ((Ct.l) [0,0,0,0,0,0,0,0,1]) ((Ct.l) [0,0,0,0,0,0,1,0,1])))))) ((Ct.b) ((Ct.b) ((Ct.b) ((Ct.b) ((Ct.l) [0,0,1,0,0,0,0,0,1]) ((Ct.b) ((Ct.l) [0,0,1,0,0,0,0,0,1]) ((Ct.l) [0,0,1,0,0,0,1,0,1]))) ((Ct.b) ((Ct.l) [0,0,1,0,0,0,0,0,1]) ((Ct.b) ((Ct.l) [0,0,1,0,0,0,0,0,1]) ((Ct.l) [0,0,1,0,0,0,1,0,1])))) ((Ct.b) ((Ct.b) ((Ct.l) [0,0,0,0,0,0,0,0,1]) ((Ct.b) ((Ct.l) [0,0,0,0,0,0,0,0,1]) ((Ct.l) [0,0,0,0,0,0,1,0,1]))) ((Ct.b) ((Ct.l) [0,0,1,0,0,0,0,0,1]) ((Ct.b) ((Ct.l) [0,0,1,0,0,0,0,0,1]) ((Ct.l) [0,0,1,0,0,0,1,0,1]))))) ((Ct.b) ((Ct.b) ((Ct.b) ((Ct.l) [0,0,0,0,0,0,0,0,1]) ((Ct.b) ((Ct.l) [0,0,0,0,0,0,0,0,1]) ((Ct.l) [0,0,0,0,0,0,1,0,1]))) ((Ct.b) ((Ct.l) [0,0,0,0,0,0,0,0,1]) ((Ct.b) ((Ct.l) [0,0,0,0,0,0,0,0,1]) ((Ct.l) [0,0,0,0,0,0,1,0,1])))) ((Ct.b) ((Ct.b) ((Ct.l) [0,0,0,0,0,0,0,0,1]) ((Ct.b) ((Ct.l) [0,0,0,0,0,0,0,0,1]) ((Ct.l) [0,0,0,0,0,0,1,0,1]))) ((Ct.b) ((Ct.l) [0,0,0,0,0,0,0,0,1]) ((Ct.b) ((Ct.l) [0,0,0,0,0,0,0,0,1]) ((Ct.l) [0,0,0,0,0,0,1,0,1]))))))) ((Ct.b) ((Ct.b) ((Ct.b) ((Ct.b) ((Ct.b) ((Ct.l) [0,0,0,0,0,0,0,0,1]) ((Ct.b) ((Ct.l) [0,0,0,0,0,0,0,0,1]) ((Ct.l) [0,0,0,0,0,0,1,0,1]))) ((Ct.b) ((Ct.l) [0,0,0,0,0,0,0,0,1]) ((Ct.b) ((Ct.l) [0,0,0,0,0,0,0,0,1]) ((Ct.l) [0,0,0,0,0,0,1,0,1])))) ((Ct.b) ((Ct.b) ((Ct.l) [0,0,0,0,0,0,0,0,1]) ((Ct.b) ((Ct.l) [0,0,0,0,0,0,0,0,1]) ((Ct.l) [0,0,0,0,0,0,1,0,1]))) ((Ct.b) ((Ct.l) [0,0,0,0,0,0,0,0,1]) ((Ct.b) ((Ct.l) [0,0,0,0,0,0,0,0,1]) ((Ct.l) [0,0,0,0,0,0,1,0,1]))))) ((Ct.b) ((Ct.b) ((Ct.b) ((Ct.l) [0,1,0,0,0,0,0,0,1]) ((Ct.b) ((Ct.l) [0,1,0,0,0,0,0,0,1]) ((Ct.l) [0,1,0,0,0,0,1,0,1]))) ((Ct.b) ((Ct.l) [0,1,0,0,0,0,0,0,1]) ((Ct.b) ((Ct.l) [0,1,0,0,0,0,0,0,1]) ((Ct.l) [0,1,0,0,0,0,1,0,1])))) ((Ct.b) ((Ct.b) ((Ct.l) [0,1,0,0,0,0,0,0,1]) ((Ct.b) ((Ct.l) [0,1,0,0,0,0,0,0,1]) ((Ct.l) [0,1,0,0,0,0,1,0,1]))) ((Ct.b) ((Ct.l) [0,1,0,0,0,0,0,0,1]) ((Ct.b) ((Ct.l) [0,1,0,0,0,0,0,0,1]) ((Ct.l) [0,1,0,0,0,0,1,0,1])))))) ((Ct.b) ((Ct.b) ((Ct.b) ((Ct.b) ((Ct.l) [0,0,1,0,0,0,0,0,1]) ((Ct.b) ((Ct.l) [0,0,1,0,0,0,0,0,1]) ((Ct.l) [0,0,1,0,0,0,1,0,1]))) ((Ct.b) ((Ct.l) [0,0,1,0,0,0,0,0,1]) ((Ct.b) ((Ct.l) [0,0,1,0,0,0,0,0,1]) ((Ct.l) [0,0,1,0,0,0,1,0,1])))) ((Ct.b) ((Ct.b) ((Ct.l) [0,0,0,0,0,0,0,0,1]) ((Ct.b) ((Ct.l) [0,0,0,0,0,0,0,0,1]) ((Ct.l) [0,0,0,0,0,0,1,0,1]))) ((Ct.b) ((Ct.l) [0,0,1,0,0,0,0,0,1]) ((Ct.b) ((Ct.l) [0,0,1,0,0,0,0,0,1]) ((Ct.l) [0,0,1,0,0,0,1,0,1]))))) ((Ct.b) ((Ct.b) ((Ct.b) ((Ct.l) [0,1,0,0,0,0,0,0,1]) ((Ct.b) ((Ct.l) [0,1,0,0,0,0,0,0,1]) ((Ct.l) [0,1,0,0,0,0,1,0,1]))) ((Ct.b) ((Ct.l) [0,1,0,0,0,0,0,0,1]) ((Ct.b) ((Ct.l) [0,1,0,0,0,0,0,0,1]) ((Ct.l) [0,1,0,0,0,0,1,0,1])))) ((Ct.b) ((Ct.b) ((Ct.l) [0,1,0,0,0,0,0,0,1]) ((Ct.b) ((Ct.l) [0,1,0,0,0,0,0,0,1]) ((Ct.l) [0,1,0,0,0,0,1,0,1]))) ((Ct.b) ((Ct.l) [0,1,0,0,0,0,0,0,1]) ((Ct.b) ((Ct.l) [0,1,0,0,0,0,0,0,1]) ((Ct.l) [0,1,0,0,0,0,1,0,1])))))))) ((Ct.b) ((Ct.b) ((Ct.b) ((Ct.b) ((Ct.b) ((Ct.b) ((Ct.l) [1,0,0,0,0,0,0,0,1]) ((Ct.b) ((Ct.l) [1,0,0,0,0,0,0,0,1]) ((Ct.l) [1,0,0,0,0,0,1,0,1]))) ((Ct.b) ((Ct.l) [1,0,0,0,0,0,0,0,1]) ((Ct.b) ((Ct.l) [1,0,0,0,0,0,0,0,1]) ((Ct.l) [1,0,0,0,0,0,1,0,1])))) ((Ct.b) ((Ct.b) ((Ct.l) [0,0,0,0,0,0,0,0,1]) ((Ct.b) ((Ct.l) [0,0,0,0,0,0,0,0,1]) ((Ct.l) [0,0,0,0,0,0,1,0,1]))) ((Ct.b) ((Ct.l) [1,0,0,0,0,0,0,0,1]) ((Ct.b) ((Ct.l) [1,0,0,0,0,0,0,0,1]) ((Ct.l) [1,0,0,0,0,0,1,0,1]))))) ((Ct.b) ((Ct.b) ((Ct.b) ((Ct.l) [1,0,0,0,0,0,0,0,1]) ((Ct.b) ((Ct.l) [1,0,0,0,0,0,0,0,1]) ((Ct.l) [1,0,0,0,0,0,1,0,1]))) ((Ct.b) ((Ct.l) [1,0,0,0,0,0,0,0,1]) ((Ct.b) ((Ct.l) [1,0,0,0,0,0,0,0,1]) ((Ct.l) [1,0,0,0,0,0,1,0,1])))) ((Ct.b) ((Ct.b) ((Ct.l) [0,0,0,0,0,0,0,0,1]) ((Ct.b) ((Ct.l) [0,0,0,0,0,0,0,0,1]) ((Ct.l) [0,0,0,0,0,0,1,0,1]))) ((Ct.b) ((Ct.l) [1,0,0,0,0,0,0,0,1]) ((Ct.b) ((Ct.l) [1,0,0,0,0,0,0,0,1]) ((Ct.l) [1,0,0,0,0,0,1,0,1])))))) ((Ct.b) ((Ct.b) ((Ct.b) ((Ct.b) ((Ct.l) [2,0,0,0,0,0,0,0,1]) ((Ct.b) ((Ct.l) [2,0,0,0,0,0,0,0,1]) ((Ct.l) [2,0,0,0,0,0,1,0,1]))) ((Ct.b) ((Ct.l) [2,0,0,0,0,0,0,0,1]) ((Ct.b) ((Ct.l) [2,0,0,0,0,0,0,0,1]) ((Ct.l) [2,0,0,0,0,0,1,0,1])))) ((Ct.b) ((Ct.b) ((Ct.l) [1,0,0,0,0,0,0,0,1]) ((Ct.b) ((Ct.l) [1,0,0,0,0,0,0,0,1]) ((Ct.l) [1,0,0,0,0,0,1,0,1]))) ((Ct.b) ((Ct.l) [2,0,0,0,0,0,0,0,1]) ((Ct.b) ((Ct.l) [2,0,0,0,0,0,0,0,1]) ((Ct.l) [2,0,0,0,0,0,1,0,1]))))) ((Ct.b) ((Ct.b) ((Ct.b) ((Ct.l) [1,0,0,0,0,0,0,0,1]) ((Ct.b) ((Ct.l) [1,0,0,0,0,0,0,0,1]) ((Ct.l) [1,0,0,0,0,0,1,0,1]))) ((Ct.b) ((Ct.l) [1,0,0,0,0,0,0,0,1]) ((Ct.b) ((Ct.l) [1,0,0,0,0,0,0,0,1]) ((Ct.l) [1,0,0,0,0,0,1,0,1])))) ((Ct.b) ((Ct.b) ((Ct.l) [0,0,0,0,0,0,0,0,1]) ((Ct.b) ((Ct.l) [0,0,0,0,0,0,0,0,1]) ((Ct.l) [0,0,0,0,0,0,1,0,1]))) ((Ct.b) ((Ct.l) [1,0,0,0,0,0,0,0,1]) ((Ct.b) ((Ct.l) [1,0,0,0,0,0,0,0,1]) ((Ct.l) [1,0,0,0,0,0,1,0,1]))))))) ((Ct.b) ((Ct.b) ((Ct.b) ((Ct.b) ((Ct.b) ((Ct.l) [0,0,0,0,0,0,0,0,1]) ((Ct.b) ((Ct.l) [0,0,0,0,0,0,0,0,1]) ((Ct.l) [0,0,0,0,0,0,1,0,1]))) ((Ct.b) ((Ct.l) [0,0,0,0,0,0,0,0,1]) ((Ct.b) ((Ct.l) [0,0,0,0,0,0,0,0,1]) ((Ct.l) [0,0,0,0,0,0,1,0,1])))) ((Ct.b) ((Ct.b) ((Ct.l) [0,0,0,0,0,0,0,0,1]) ((Ct.b) ((Ct.l) [0,0,0,0,0,0,0,0,1]) ((Ct.l) [0,0,0,0,0,0,1,0,1]))) ((Ct.b) ((Ct.l) [0,0,0,0,0,0,0,0,1]) ((Ct.b) ((Ct.l) [0,0,0,0,0,0,0,0,1]) ((Ct.l) [0,0,0,0,0,0,1,0,1]))))) ((Ct.b) ((Ct.b) ((Ct.b) ((Ct.l) [1,1,0,0,0,0,0,0,1]) ((Ct.b) ((Ct.l) [1,1,0,0,0,0,0,0,1]) ((Ct.l) [1,1,0,0,0,0,1,0,1]))) ((Ct.b) ((Ct.l) [1,1,0,0,0,0,0,0,1]) ((Ct.b) ((Ct.l) [1,1,0,0,0,0,0,0,1]) ((Ct.l) [1,1,0,0,0,0,1,0,1])))) ((Ct.b) ((Ct.b) ((Ct.l) [0,1,0,0,0,0,0,0,1]) ((Ct.b) ((Ct.l) [0,1,0,0,0,0,0,0,1]) ((Ct.l) [0,1,0,0,0,0,1,0,1]))) ((Ct.b) ((Ct.l) [1,1,0,0,0,0,0,0,1]) ((Ct.b) ((Ct.l) [1,1,0,0,0,0,0,0,1]) ((Ct.l) [1,1,0,0,0,0,1,0,1])))))) ((Ct.b) ((Ct.b) ((Ct.b) ((Ct.b) ((Ct.l) [1,0,0,0,0,0,0,0,1]) ((Ct.b) ((Ct.l) [1,0,0,0,0,0,0,0,1]) ((Ct.l) [1,0,0,0,0,0,1,0,1]))) ((Ct.b) ((Ct.l) [1,0,0,0,0,0,0,0,1]) ((Ct.b) ((Ct.l) [1,0,0,0,0,0,0,0,1]) ((Ct.l) [1,0,0,0,0,0,1,0,1])))) ((Ct.b) ((Ct.b) ((Ct.l) [0,0,0,0,0,0,0,0,1]) ((Ct.b) ((Ct.l) [0,0,0,0,0,0,0,0,1]) ((Ct.l) [0,0,0,0,0,0,1,0,1]))) ((Ct.b) ((Ct.l) [1,0,0,0,0,0,0,0,1]) ((Ct.b) ((Ct.l) [1,0,0,0,0,0,0,0,1]) ((Ct.l) [1,0,0,0,0,0,1,0,1]))))) ((Ct.b) ((Ct.b) ((Ct.b) ((Ct.l) [1,1,0,0,0,0,0,0,1]) ((Ct.b) ((Ct.l) [1,1,0,0,0,0,0,0,1]) ((Ct.l) [1,1,0,0,0,0,1,0,1]))) ((Ct.b) ((Ct.l) [1,1,0,0,0,0,0,0,1]) ((Ct.b) ((Ct.l) [1,1,0,0,0,0,0,0,1]) ((Ct.l) [1,1,0,0,0,0,1,0,1])))) ((Ct.b) ((Ct.b) ((Ct.l) [0,1,0,0,0,0,0,0,1]) ((Ct.b) ((Ct.l) [0,1,0,0,0,0,0,0,1]) ((Ct.l) [0,1,0,0,0,0,1,0,1]))) ((Ct.b) ((Ct.l) [1,1,0,0,0,0,0,0,1]) ((Ct.b) ((Ct.l) [1,1,0,0,0,0,0,0,1]) ((Ct.l) [1,1,0,0,0,0,1,0,1]))))))))) rfl
theorem GW:Sd [a,b,c] [] ((Pr.rn .le) ((Tm.p) (Tm.v 0) ((Tm.u) (Tm.v 2) 0)) ((Tm.n) 16777216)) [((Pr.rn .le) (Tm.v 0) ((Tm.t) 500 (Tm.v 1))),((Pr.rn .le) (Tm.v 1) ((Tm.n) 6))]:=li ((Ct.l) [1,500,1]) rfl
theorem GV:Sd [a,b,c,d,e,f] [] ((Pr.rn .lt) ((Tm.p) (Tm.v 0) (Tm.v 1)) ((Tm.p) ((Tm.t) 2 ((Tm.m) (Tm.v 5) (Tm.v 4))) ((Tm.n) 1))) [((Pr.rn .le) (Tm.v 0) ((Tm.p) ((Tm.t) 2 ((Tm.m) (Tm.v 2) (Tm.v 4))) ((Tm.n) 1))),((Pr.rn .le) (Tm.v 1) ((Tm.p) ((Tm.t) 2 ((Tm.m) (Tm.v 5) ((Tm.p) (Tm.v 2) (Tm.v 3)))) ((Tm.n) 1))),((Pr.rn .le) (Tm.v 4) (Tm.v 2)),((Pr.rn .le) ((Tm.p) (Tm.v 2) (Tm.v 3)) (Tm.v 5)),((Pr.rn .lt) ((Tm.n) 0) (Tm.v 3))]:=li ((Ct.b) ((Ct.b) ((Ct.b) ((Ct.l) [0,1,0,1,0,0,2,0,1]) ((Ct.l) [1,0,1,0,0,0,1,1])) ((Ct.b) ((Ct.l) [0,1,0,1,0,2,2,0,1]) ((Ct.l) [1,0,0,0,0,1,1,1]))) ((Ct.b) ((Ct.b) ((Ct.l) [0,1,0,1,2,0,2,0,1]) ((Ct.l) [0,0,1,0,1,0,1,1])) ((Ct.b) ((Ct.l) [0,1,0,1,2,2,2,0,1]) ((Ct.l) [0,0,0,0,1,1,1,1])))) rfl
mutual
theorem Ey{a c}(d:(a<=c)):((M8 (max (0:Int) (min ((a:Nat):Int) ((c:Nat):Int))))=a):=bJ 17 5 (toN _) d
theorem Ex{a}:((M8 (max (0:Int) (min ((- (1:Int))+((a:Nat):Int)) ((a:Nat):Int))))=(a-(1:Nat))):=bM 17 10 (toN _)
end
noncomputable def anyF.{u}(c:Type u)(a:Array c)(f:c->Bool)(start:Nat)(d:Nat):Bool :=
 match Oh start 0,Oh d a.toList.length with
 |true,true=>Px a.toList f
 |Z,Y=>Vb a f start d
theorem uL.{u} : @Array.any.{u}=@anyF.{u}:=by
 funext α a f start stop
 show _=(match Oh start 0,Oh stop a.toList.length with | true,true=>Px a.toList f | _,_=>Vb a f start stop)
 cases c:Oh start 0 with
 |false=>rfl
 |true =>
  cases d:Oh stop a.toList.length with
  |false=>rfl
  |true =>
   have c:=M3 c;have d:=M3 d;subst c;subst d;show _=Px a.toList f;rw[<-PySem.W.R.anyR_eq,Sy];rfl
noncomputable def rhs{a b:La}(_:a=b):La:=b
theorem EC:type_of% ((by delta Mm;rw[uL.{0}]):Mm=_):=by
 delta Mm;rw[uL.{0}]
noncomputable def new:La:=rhs EC
noncomputable def tree(id:String):Option La :=
 @Bool.rec (λZ=>Option La) (NV id) (Jh new) (Oh (Lj id) (Lj "type.__new__"))
theorem tree_eq:SJ=tree:=by
 funext id
 unfold tree;cases h:Oh (Lj id) (Lj "type.__new__") with
 |false=>show _=NV id;rw[<-UZ]
 |true =>
  show _=Jh new;have h:=M3 h;rw[<-U2] at h;have h:=PySem.code_inj _ _ h;subst h;have a:La.«type.__new__»=new:=PySem.W.Fast.te4202317264376624991.trans EC;rw[<-a];have:SJ "type.__new__"=Jh La.«type.__new__»:=by kernel_rfl
  exact this
noncomputable def hH(c:String->Option La)(p:Program)(w:LK)(n₀:Nat)(a:Option Value):Nat->SharedT->Vq->Option SharedT
 |0,Z,Y=>none
 |n+1,s,t=>match through t with
  |true=>Jh s
  |false=>match N6 n₀ a t with
   |false=>none
   |true=>match Ll (Lk c) p w s t with
    |some (s',t')=>hH c p w n₀ a n s' t'
    |none=>none
theorem uV{tb p w n₀ n ann s t}:hH tb p w n₀ ann (n+1) s t=(match through t with
  |true=>Jh s
  |false=>match N6 n₀ ann t with
   |false=>none
   |true=>match Ll (Lk tb) p w s t with
    |some (s',t')=>hH tb p w n₀ ann n s' t'
    |none=>none):=rfl
theorem nk{tb p w n₀ ann}:∀ {n:Nat} {s s':SharedT} {t:Vq},
  hH tb p w n₀ ann n s t=Jh s'->topRun tb p w n₀ ann n s.abs t=Jh s'.abs
 |0,Z,Y,X,h=>by cases h
 |n+1,s,s',t,h=>by
  rw[uV] at h;unfold topRun;cases d:through t with
  |true=>rw[d] at h;cases h;rfl
  |false =>
   rw[d] at h;rw[<-UW,<-NX,<-NW] at h;cases c:stepOk n₀ ann t with
   |false=>rw[c] at h;cases h
   |true =>
    rw[c] at h;cases a:stepT (denote tb) p w s t with
    |none=>rw[a] at h;cases h
    |some r=>obtain⟨e,f⟩:=r;rw[a] at h;dsimp only;rw[stepT_spec a];exact nk h
noncomputable def ic(a:String->Option La)(p:Program)(w:LK):Nat->SharedT->Vq->Option SharedT
 |0,Z,Y=>none
 |n+1,s,t=>match N7 t with
  |some []=>Jh s
  |some (Z::Y)=>none
  |none=>match Ll (Lk a) p w s t with
   |some (s',t')=>ic a p w n s' t'
   |none=>none
theorem vG{tb p w n s t}:ic tb p w (n+1) s t=(match N7 t with
  |some []=>Jh s
  |some (Z::Y)=>none
  |none=>match Ll (Lk tb) p w s t with
   |some (s',t')=>ic tb p w n s' t'
   |none=>none):=rfl
theorem iH{tb p w}:∀ {n:Nat} {s s':SharedT} {t:Vq},
  ic tb p w n s t=Jh s'->importEnds tb p w n s.abs t=Jh s'.abs
 |0,Z,Y,X,h=>by cases h
 |n+1,s,s',t,h=>by
  rw[vG] at h;unfold importEnds;rw[<-UY,<-NX,<-NW] at h;cases d:t.atExitBegin with
  |some l=>rw[d] at h;cases l with
   |nil=>cases h;rfl
   |cons a l=>cases h
  |none =>
   rw[d] at h;cases c:stepT (denote tb) p w s t with
   |none=>rw[c] at h;cases h
   |some r=>obtain⟨e,f⟩:=r;rw[c] at h;dsimp only;rw[stepT_spec c];exact iH h
noncomputable def layB:List Obj->BT->Nat->Option (BT×Nat)
 |[],T,n=>Jh (T,n)
 |o::l,T,n=>match ((T.ins n o).get n).isSome with
  |true=>layB l (T.ins n o) (n+1)
  |false=>none
theorem nL(a:Life):∀ {l:List Obj} {T T':BT} {n n':Nat},layB l T n=Jh (T',n')->absHeap T' n' a=⟨((absHeap T n a).objs.toList++l).toArray,a⟩
 |[],T,T',n,n',h=>by
  cases h;rw[JO]
  rfl
 |o::l,T,T',n,n',h=>by
  change (match ((T.ins n o).get n).isSome with | true=>layB l (T.ins n o) (n+1) | false=>none)=_ at h
  cases c:((T.ins n o).get n).isSome with
  |false=>rw[c] at h;cases h
  |true =>
   rw[c] at h;rw[nL a h,absHeap_ins c];show Heap.mk _ _=Heap.mk _ _
   congr 2
   show((absHeap T n a).objs.push o).toList++l=_;rw[Mc,Jv]
   rfl
noncomputable def startT(os:OsState):SharedT:=⟨.nil,0,{},#[],{},1,os⟩
noncomputable def pq(c:String->Option La)(p:Program)(w:LK)(N:Nat)(s₀:Js):Option SharedT :=
 match s₀.heap.isNs KY&&s₀.gens.size == 0 with
 |false=>none
 |true=>match layB s₀.heap.objs.toList .nil 0 with
  |none=>none
  |some (T,n)=>match hH c p w s₀.heap.objs.size (N5 s₀.heap KY "__annotations__") N ⟨T,n,s₀.heap.life,s₀.gens,s₀.drawn,s₀.toks,s₀.os⟩ (topStub p) with
   |none=>none
   |some a=>match UG (OO p.main.body) s₀.heap a.abs.heap&&T2 p a.abs.heap&&Vi a.abs&&Vh s₀.heap a.abs.heap with
    |true=>Jh a
    |false=>none
noncomputable def oJ(a:String->Option La)(p:Program)(w:LK)(N:Nat):Option SharedT :=
 match ic a (Ph p) w N (startT (N8 (Ph p)).1.os) (N8 (Ph p)).2 with
 |none=>none
 |some s₁=>match UU p s₁.abs with
  |none=>none
  |some s₀=>pq a p w N s₀
theorem zW{p}{o q:Program}{loose:List Str}{Xt:Js->Bool}{a:Type}{Yf:Js->a}{Ya:LK->a}{N:Nat}(ep:p=o)(h:∀w,(oJ Mine.Internal.tree o w N).map (λs=>(UT q loose (OO o.main.body) Xt true s.abs,Yf s.abs))=Jh (openGood q loose,Ya w)):LeftO p q loose Xt Yf Ya N:=by
 have f {tb w s₂} (h:oJ tb p w N=Jh s₂):openEnds tb p w N=Jh s₂.abs:=by
  have d {s₀} (h:pq tb p w N s₀=Jh s₂):topFrom tb p w N s₀=Jh s₂.abs:=by
   unfold pq at h;unfold topFrom;cases u:(s₀.heap.isNs KY&&s₀.gens.size == 0) with
   |false=>rw[u] at h;cases h
   |true =>
    rw[u] at h;dsimp only at h ⊢;rw[<-N9] at h;cases i:layB s₀.heap.objs.toList .nil 0 with
    |none=>rw[i] at h;cases h
    |some x =>
     obtain⟨T,n⟩:=x;rw[i] at h;dsimp only at h;have e:(⟨T,n,s₀.heap.life,s₀.gens,s₀.drawn,s₀.toks,s₀.os⟩:SharedT).abs=s₀:=by
      unfold SharedT.abs;rw[nL s₀.heap.life i]
      rfl
     cases k:hH tb p w s₀.heap.objs.size (Heap.nsMap s₀.heap KY "__annotations__") N ⟨T,n,s₀.heap.life,s₀.gens,s₀.drawn,s₀.toks,s₀.os⟩ (topStub p) with
     |none=>rw[k] at h;cases h
     |some c =>
      rw[k] at h;dsimp only at h;have z:=nk k;rw[e] at z;rw[z];show(match UG (OO p.main.body) s₀.heap c.abs.heap&&T2 p c.abs.heap&&Vi c.abs&&Vh s₀.heap c.abs.heap with | true=>Jh c.abs | false=>none)=_;cases v:(UG (OO p.main.body) s₀.heap c.abs.heap&&T2 p c.abs.heap&&Vi c.abs&&Vh s₀.heap c.abs.heap) with
      |false=>rw[v] at h;cases h
      |true=>rw[v] at h;cases h;rfl
  unfold oJ at h;rw[<-U0,<-U1] at h;unfold openEnds fencedOpening;cases g:ic tb (Ph p) w N (startT (start (Ph p)).1.os) (start (Ph p)).2 with
  |none=>rw[g] at h;cases h
  |some s₁ =>
   rw[g] at h;dsimp only at h;have z:=iH g;have e:(startT (start (Ph p)).1.os).abs=(start (Ph p)).1:=rfl;rw[e] at z;rw[z];show(Option.bind (VJ p s₁.abs) _)=_;cases r:VJ p s₁.abs with
   |none=>rw[r] at h;cases h
   |some s₀=>rw[r] at h;exact d h
 subst ep;intro w;have h:=h w;rw[<-UX] at h;rw[Mine.Internal.tree_eq];cases j:oJ Mine.Internal.tree p w N with
 |none=>rw[j] at h;cases h
 |some s=>rw[j] at h;rw[f j];exact h
noncomputable abbrev pw:Program:=MK
theorem Ii(s:String):Jj s=⟨⟨s.toList.map U9⟩⟩:=by
 rw[Str.ofString_eq_byList];rfl
noncomputable def GI(s:String):Str:=Jj s
noncomputable def zD(l:List Char):Str:=Jj (String.ofList l)
mutual
theorem tR(l:List Char):zD l=⟨⟨l.map U9⟩⟩:=by
 unfold zD;rw[Ii,String.toList_ofList]
theorem Hl(s:String)(k:Nat)(p q:UL):Q3 (.Constant (.str (Jj s)) k p) q=Q3 (.Constant (.str (GI s)) k p) q:=rfl
theorem Hm(s:String)(k:Nat)(p q:UL)(a b c r d e f g m i j):T6 a b c (Q3 (.Constant (.str (Jj s)) k p) q::r) d e f g m i j=T6 a b c (Q3 (.Constant (.str (zD s.toList)) k p) q::r) d e f g m i j:=by
 unfold zD;rw[String.ofList_toList]
end
theorem H5:type_of% ((by delta MK;simp only[↓Hm,↓Hl,Ii,String.reduceToList,Ke,Np,Char.reduceToNat];rfl):MK=_):=by kernel_rfl
noncomputable def zJ{a b:Program}(_:a=b):Program:=b
noncomputable def GP:Program:=zJ H5
theorem H4:type_of% ((by unfold GP zJ;simp only[tR];rfl):GP=_):=by
 unfold GP zJ;simp only[tR]
noncomputable def pT:Program:=zJ H4
theorem xn:pw=pT:=H5.trans H4
noncomputable def a7(i:Nat):Stmt:=(pT.main.body[i]?).getD (.Pass ⟨0,0,0,0⟩)
noncomputable def zh:Stmt->Expr×Expr×List Stmt×Str×Arguments×Scope
 |.FunctionDef name a c Z Y X scope V U T=>(.Constant .none 0 ⟨0,0,0,0⟩,.Constant .none 0 ⟨0,0,0,0⟩,c,name,a,scope)
 |.ClassDef Z Y X b V U T S R Q P=>(.Constant .none 0 ⟨0,0,0,0⟩,.Constant .none 0 ⟨0,0,0,0⟩,b,⟨#[]⟩,⟨[],[],none,[],[],none,[]⟩,default)
 |.If Z b Y X=>(.Constant .none 0 ⟨0,0,0,0⟩,.Constant .none 0 ⟨0,0,0,0⟩,b,⟨#[]⟩,⟨[],[],none,[],[],none,[]⟩,default)
 |.Assign Z v Y=>(.Constant .none 0 ⟨0,0,0,0⟩,v,[],⟨#[]⟩,⟨[],[],none,[],[],none,[]⟩,default)
 |.While t b Z Y=>(t,.Constant .none 0 ⟨0,0,0,0⟩,b,⟨#[]⟩,⟨[],[],none,[],[],none,[]⟩,default)
 |.For t i b Z Y=>(t,i,b,⟨#[]⟩,⟨[],[],none,[],[],none,[]⟩,default)
 |_=>(.Constant .none 0 ⟨0,0,0,0⟩,.Constant .none 0 ⟨0,0,0,0⟩,[],⟨#[]⟩,⟨[],[],none,[],[],none,[]⟩,default)
noncomputable def a5(s:Stmt):List Stmt:=(zh s).2.2.1
noncomputable def bV(s:Stmt):Arguments:=(zh s).2.2.2.2.1
noncomputable def a6(s:Stmt):Scope:=(zh s).2.2.2.2.2
noncomputable def bR(i j:Nat):Stmt:=((a5 (a7 i))[j]?).getD (.Pass ⟨0,0,0,0⟩)
noncomputable def dD(st:Stmt)(q:Str)(d e c:Value)(a:Option Addr):Obj :=
 {cls:=.type "function",data:=.func {name:=(zh st).2.2.2.1,qualname:=q,params:=bV st,body:=.stmts (a5 st),scope:=a6 st,globals:=3,closure:=[],defaults:=d,kwdefaults:=.none,doc:=.none,pyModule:=e,annotations:=a,code:=c}}
noncomputable def qv:Program:=view pT [14]
noncomputable def loose:List Str:=[Jj "_wall",Jj "_tuplegetter",Jj "Match",Jj "_calculate_ratio",Jj "SequenceMatcher",Jj "_keep_original_ws",Jj "Differ",Jj "IS_CHARACTER_JUNK",Jj "restore",Jj "_law_lines",Jj "_law_alike",Jj "_law_row"]
noncomputable def Eb:Obj:={cls:=.type "code",data:=.fields #[.str (Jj "__new__") 274,.str (Jj "Match.__new__") 275,.str (Jj "/claim/cut.py") 276,.int (29) 0,.int (4) 0,.int (0) 0,.int (0) 0,.int (3) 0,.ref 76,.bool true,.int (181) 0,.ref 77,.none,.ref 78,.ref 79,.ref 80,.int (281) 0,.int (29) 0,.str (Jj "/claim/cut.py") 282]}
noncomputable def GU:Obj:=dD (bR 3 4) (Jj "Match.__new__") (.none) (.str (Jj "cpy313.difflib") 194) (.ref 81) (none)
noncomputable def Ea:Obj:={cls:=.type "code",data:=.fields #[.str (Jj "_make") 285,.str (Jj "Match._make") 286,.str (Jj "/claim/cut.py") 287,.int (33) 0,.int (2) 0,.int (0) 0,.int (0) 0,.int (3) 0,.ref 83,.bool true,.int (181) 0,.ref 84,.none,.ref 85,.ref 86,.ref 87,.int (291) 0,.int (33) 0,.str (Jj "/claim/cut.py") 292]}
noncomputable def GS:Obj:=dD (bR 3 5) (Jj "Match._make") (.none) (.str (Jj "cpy313.difflib") 194) (.ref 88) (Jh 92)
noncomputable def D9:Obj:={cls:=.type "classmethod",dict:=Jh 90,data:=.fields #[.ref 89,.bool false]}
noncomputable def BC:Obj:={cls:=.type "type",data:=.cls {name:=Jj "Match",bases:=[.type "tuple"],mro:=[.ref 135,.type "tuple",.type "object"],ns:=134,qualname:=Jj "Match",hasDict:=false,slotNames:=[],subclasses:=[],abstract:=false,hasDel:=false},slots:=#[Jh (.ref 65),none,Jh (.str (Jj "Match") 253),Jh (.str (Jj "Match") 261),Jh (.none),Jh (.bool false)]}
noncomputable def BB:Obj:={cls:=.type "staticmethod",data:=.fields #[.ref 82]}
noncomputable def BA:Obj:={cls:=.type "tuple",data:=.seq #[.none,.str (Jj "") 404,.str (Jj "") 405,.bool true] 0}
noncomputable def Bz:Obj:={cls:=.type "code",data:=.fields #[.str (Jj "__init__") 406,.str (Jj "SequenceMatcher.__init__") 407,.str (Jj "/claim/cut.py") 408,.int (145) 0,.int (5) 0,.int (0) 0,.int (0) 0,.int (3) 0,.ref 154,.bool true,.int (181) 0,.ref 155,.none,.ref 156,.ref 157,.ref 158,.int (414) 0,.int (145) 0,.str (Jj "/claim/cut.py") 415]}
noncomputable def Ew:Obj:=dD (bR 5 1) (Jj "SequenceMatcher.__init__") (.ref 153) (.str (Jj "cpy313.difflib") 194) (.ref 159) (none)
noncomputable def By:Obj:={cls:=.type "code",data:=.fields #[.str (Jj "set_seqs") 418,.str (Jj "SequenceMatcher.set_seqs") 419,.str (Jj "/claim/cut.py") 420,.int (173) 0,.int (3) 0,.int (0) 0,.int (0) 0,.int (3) 0,.ref 161,.bool true,.int (181) 0,.ref 162,.none,.ref 163,.ref 164,.ref 165,.int (424) 0,.int (173) 0,.str (Jj "/claim/cut.py") 425]}
noncomputable def Eu:Obj:=dD (bR 5 2) (Jj "SequenceMatcher.set_seqs") (.none) (.str (Jj "cpy313.difflib") 194) (.ref 166) (none)
noncomputable def Bx:Obj:={cls:=.type "code",data:=.fields #[.str (Jj "set_seq1") 428,.str (Jj "SequenceMatcher.set_seq1") 429,.str (Jj "/claim/cut.py") 430,.int (184) 0,.int (2) 0,.int (0) 0,.int (0) 0,.int (3) 0,.ref 168,.bool true,.int (181) 0,.ref 169,.none,.ref 170,.ref 171,.ref 172,.int (433) 0,.int (184) 0,.str (Jj "/claim/cut.py") 434]}
noncomputable def Et:Obj:=dD (bR 5 3) (Jj "SequenceMatcher.set_seq1") (.none) (.str (Jj "cpy313.difflib") 194) (.ref 173) (none)
noncomputable def Bw:Obj:={cls:=.type "code",data:=.fields #[.str (Jj "set_seq2") 437,.str (Jj "SequenceMatcher.set_seq2") 438,.str (Jj "/claim/cut.py") 439,.int (209) 0,.int (2) 0,.int (0) 0,.int (0) 0,.int (3) 0,.ref 175,.bool true,.int (181) 0,.ref 176,.none,.ref 177,.ref 178,.ref 179,.int (442) 0,.int (209) 0,.str (Jj "/claim/cut.py") 443]}
noncomputable def Er:Obj:=dD (bR 5 4) (Jj "SequenceMatcher.set_seq2") (.none) (.str (Jj "cpy313.difflib") 194) (.ref 180) (none)
noncomputable def Bv:Obj:={cls:=.type "code",data:=.fields #[.str (Jj "__chain_b") 446,.str (Jj "SequenceMatcher.__chain_b") 447,.str (Jj "/claim/cut.py") 448,.int (236) 0,.int (1) 0,.int (0) 0,.int (0) 0,.int (3) 0,.ref 182,.bool true,.int (181) 0,.ref 183,.none,.ref 184,.ref 185,.ref 186,.int (461) 0,.int (236) 0,.str (Jj "/claim/cut.py") 462]}
noncomputable def Ep:Obj:=dD (bR 5 5) (Jj "SequenceMatcher.__chain_b") (.none) (.str (Jj "cpy313.difflib") 194) (.ref 187) (none)
noncomputable def Bu:Obj:={cls:=.type "tuple",data:=.seq #[.int (0) 464,.none,.int (0) 465,.none] 0}
noncomputable def Bs:Obj:={cls:=.type "code",data:=.fields #[.str (Jj "find_longest_match") 466,.str (Jj "SequenceMatcher.find_longest_match") 467,.str (Jj "/claim/cut.py") 468,.int (260) 0,.int (5) 0,.int (0) 0,.int (0) 0,.int (3) 0,.ref 190,.bool true,.int (181) 0,.ref 191,.none,.ref 192,.ref 193,.ref 194,.int (488) 0,.int (260) 0,.str (Jj "/claim/cut.py") 489]}
noncomputable def Eo:Obj:=dD (bR 5 6) (Jj "SequenceMatcher.find_longest_match") (.ref 189) (.str (Jj "cpy313.difflib") 194) (.ref 195) (none)
noncomputable def Bq:Obj:={cls:=.type "code",data:=.fields #[.str (Jj "get_matching_blocks") 492,.str (Jj "SequenceMatcher.get_matching_blocks") 493,.str (Jj "/claim/cut.py") 494,.int (335) 0,.int (1) 0,.int (0) 0,.int (0) 0,.int (3) 0,.ref 197,.bool true,.int (181) 0,.ref 198,.none,.ref 199,.ref 200,.ref 201,.int (515) 0,.int (335) 0,.str (Jj "/claim/cut.py") 516]}
noncomputable def En:Obj:=dD (bR 5 7) (Jj "SequenceMatcher.get_matching_blocks") (.none) (.str (Jj "cpy313.difflib") 194) (.ref 202) (none)
noncomputable def Bp:Obj:={cls:=.type "code",data:=.fields #[.str (Jj "get_opcodes") 519,.str (Jj "SequenceMatcher.get_opcodes") 520,.str (Jj "/claim/cut.py") 521,.int (383) 0,.int (1) 0,.int (0) 0,.int (0) 0,.int (3) 0,.ref 204,.bool true,.int (181) 0,.ref 205,.none,.ref 206,.ref 207,.ref 208,.int (530) 0,.int (383) 0,.str (Jj "/claim/cut.py") 531]}
noncomputable def Em:Obj:=dD (bR 5 8) (Jj "SequenceMatcher.get_opcodes") (.none) (.str (Jj "cpy313.difflib") 194) (.ref 209) (none)
noncomputable def Bo:Obj:={cls:=.type "type",data:=.cls {name:=Jj "SequenceMatcher",bases:=[.type "object"],mro:=[.ref 242,.type "object"],ns:=241,qualname:=Jj "SequenceMatcher",hasDict:=true,slotNames:=[],subclasses:=[],abstract:=false,hasDel:=false},slots:=#[none,none,Jh (.str (Jj "SequenceMatcher") 389),Jh (.str (Jj "SequenceMatcher") 397),Jh (.builtin "object.__new__"),Jh (.bool true)]}
noncomputable def xt:Obj:={cls:=.none,data:=.fields #[]}
noncomputable def t9:Obj:={cls:=.type "code",data:=.fields #[.str (Jj "_keep_original_ws") 593,.str (Jj "_keep_original_ws") 594,.str (Jj "/claim/cut.py") 595,.int (488) 0,.int (2) 0,.int (0) 0,.int (0) 0,.int (3) 0,.ref 247,.bool true,.int (181) 0,.ref 248,.none,.ref 249,.ref 250,.ref 251,.int (598) 0,.int (488) 0,.str (Jj "/claim/cut.py") 599]}
noncomputable def El:Obj:=dD (a7 6) (Jj "_keep_original_ws") (.none) (.str (Jj "cpy313.difflib") 194) (.ref 252) (none)
noncomputable def Bn:Obj:={cls:=.type "tuple",data:=.seq #[.none,.none] 0}
noncomputable def Bl:Obj:={cls:=.type "code",data:=.fields #[.str (Jj "__init__") 617,.str (Jj "Differ.__init__") 618,.str (Jj "/claim/cut.py") 619,.int (577) 0,.int (3) 0,.int (0) 0,.int (0) 0,.int (3) 0,.ref 262,.bool true,.int (181) 0,.ref 263,.none,.ref 264,.ref 265,.ref 266,.int (623) 0,.int (577) 0,.str (Jj "/claim/cut.py") 624]}
noncomputable def Ej:Obj:=dD (bR 7 1) (Jj "Differ.__init__") (.ref 261) (.str (Jj "cpy313.difflib") 194) (.ref 267) (none)
noncomputable def Bk:Obj:={cls:=.type "code",data:=.fields #[.str (Jj "_qformat") 723,.str (Jj "Differ._qformat") 724,.str (Jj "/claim/cut.py") 725,.int (729) 0,.int (5) 0,.int (0) 0,.int (0) 0,.int (35) 0,.ref 304,.bool true,.int (181) 0,.ref 305,.none,.ref 306,.ref 307,.ref 308,.int (731) 0,.int (729) 0,.str (Jj "/claim/cut.py") 732]}
noncomputable def Ei:Obj:=dD (bR 7 7) (Jj "Differ._qformat") (.none) (.str (Jj "cpy313.difflib") 194) (.ref 309) (none)
noncomputable def Bj:Obj:={cls:=.type "type",data:=.cls {name:=Jj "Differ",bases:=[.type "object"],mro:=[.ref 313,.type "object"],ns:=312,qualname:=Jj "Differ",hasDict:=true,slotNames:=[],subclasses:=[],abstract:=false,hasDel:=false},slots:=#[none,none,Jh (.str (Jj "Differ") 602),Jh (.str (Jj "Differ") 610),Jh (.builtin "object.__new__"),Jh (.bool true)]}
noncomputable def Bh:Obj:={cls:=.type "tuple",data:=.seq #[.str (Jj " \t") 744] 0}
noncomputable def Bg:Obj:={cls:=.type "code",data:=.fields #[.str (Jj "IS_CHARACTER_JUNK") 745,.str (Jj "IS_CHARACTER_JUNK") 746,.str (Jj "/claim/cut.py") 747,.int (753) 0,.int (2) 0,.int (0) 0,.int (0) 0,.int (3) 0,.ref 319,.bool true,.int (181) 0,.ref 320,.none,.ref 321,.ref 322,.ref 323,.int (750) 0,.int (753) 0,.str (Jj "/claim/cut.py") 751]}
noncomputable def Eh:Obj:=dD (a7 8) (Jj "IS_CHARACTER_JUNK") (.ref 318) (.str (Jj "cpy313.difflib") 194) (.ref 324) (none)
noncomputable def Bf:Obj:={cls:=.type "code",data:=.fields #[.str (Jj "restore") 754,.str (Jj "restore") 755,.str (Jj "/claim/cut.py") 756,.int (769) 0,.int (2) 0,.int (0) 0,.int (0) 0,.int (35) 0,.ref 326,.bool true,.int (181) 0,.ref 327,.none,.ref 328,.ref 329,.ref 330,.int (762) 0,.int (769) 0,.str (Jj "/claim/cut.py") 763]}
noncomputable def Eg:Obj:=dD (a7 9) (Jj "restore") (.none) (.str (Jj "cpy313.difflib") 194) (.ref 331) (none)
noncomputable def Be:Obj:={cls:=.type "code",data:=.fields #[.str (Jj "_law_lines") 768,.str (Jj "_law_lines") 769,.str (Jj "/claim/cut.py") 770,.int (800) 0,.int (1) 0,.int (0) 0,.int (0) 0,.int (3) 0,.ref 333,.bool true,.int (181) 0,.ref 334,.none,.ref 335,.ref 336,.ref 337,.int (777) 0,.int (800) 0,.str (Jj "/claim/cut.py") 778]}
noncomputable def Ef:Obj:=dD (a7 11) (Jj "_law_lines") (.none) (.str (Jj "law_dm0047_11") 766) (.ref 338) (none)
noncomputable def Bd:Obj:={cls:=.type "code",data:=.fields #[.str (Jj "_law_alike") 780,.str (Jj "_law_alike") 781,.str (Jj "/claim/cut.py") 782,.int (818) 0,.int (2) 0,.int (0) 0,.int (0) 0,.int (3) 0,.ref 340,.bool true,.int (181) 0,.ref 341,.none,.ref 342,.ref 343,.ref 344,.int (786) 0,.int (818) 0,.str (Jj "/claim/cut.py") 787]}
noncomputable def Ee:Obj:=dD (a7 12) (Jj "_law_alike") (.none) (.str (Jj "law_dm0047_11") 766) (.ref 345) (none)
noncomputable def Bc:Obj:={cls:=.type "code",data:=.fields #[.str (Jj "_law_row") 789,.str (Jj "_law_row") 790,.str (Jj "/claim/cut.py") 791,.int (823) 0,.int (2) 0,.int (0) 0,.int (0) 0,.int (3) 0,.ref 347,.bool true,.int (181) 0,.ref 348,.none,.none,.none,.ref 349,.int (792) 0,.int (823) 0,.str (Jj "/claim/cut.py") 793]}
noncomputable def Ed:Obj:=dD (a7 13) (Jj "_law_row") (.none) (.str (Jj "law_dm0047_11") 766) (.ref 350) (none)
noncomputable def Bb:Obj:={cls:=.type "code",data:=.fields #[.str (Jj "law") 795,.str (Jj "law") 796,.str (Jj "/claim/cut.py") 797,.int (840) 0,.int (1) 0,.int (0) 0,.int (0) 0,.int (3) 0,.ref 352,.bool true,.int (181) 0,.ref 353,.none,.none,.none,.ref 354,.int (798) 0,.int (840) 0,.str (Jj "/claim/cut.py") 799]}
noncomputable def Ec:Obj:=dD (a7 14) (Jj "law") (.none) (.str (Jj "law_dm0047_11") 766) (.ref 355) (none)
noncomputable def ko:List (Addr×Obj):=[(81,Eb),(82,GU),(88,Ea),(89,GS),(91,D9),(135,BC),(136,BB),(153,BA),(159,Bz),(160,Ew),(166,By),(167,Eu),(173,Bx),(174,Et),(180,Bw),(181,Er),(187,Bv),(188,Ep),(189,Bu),(195,Bs),(196,Eo),(202,Bq),(203,En),(209,Bp),(210,Em),(242,Bo),(248,xt),(252,t9),(253,El),(261,Bn),(267,Bl),(268,Ej),(309,Bk),(310,Ei),(313,Bj),(318,Bh),(324,Bg),(325,Eh),(331,Bf),(332,Eg),(338,Be),(339,Ef),(345,Bd),(346,Ee),(350,Bc),(351,Ed),(355,Bb),(356,Ec)]
noncomputable def kn:List (Addr×Str×Option Value):=[(3,Jj "law",Jh (.ref 356)),(3,Jj "SequenceMatcher",Jh (.ref 242)),(3,Jj "Match",Jh (.ref 135)),(3,Jj "Differ",Jh (.ref 313)),(3,Jj "_keep_original_ws",Jh (.ref 253)),(3,Jj "IS_CHARACTER_JUNK",Jh (.ref 325)),(3,Jj "restore",Jh (.ref 332)),(3,Jj "_law_lines",Jh (.ref 339)),(3,Jj "_law_alike",Jh (.ref 346)),(3,Jj "_law_row",Jh (.ref 351)),(3,Jj "enumerate",none),(3,Jj "len",none),(3,Jj "range",none),(3,Jj "set",none),(3,Jj "list",none),(3,Jj "map",none),(3,Jj "zip",none),(3,Jj "int",none),(3,Jj "tuple",none),(3,Jj "KeyError",none),(3,Jj "ValueError",none),(241,Jj "__init__",Jh (.ref 160)),(241,Jj "set_seqs",Jh (.ref 167)),(241,Jj "set_seq1",Jh (.ref 174)),(241,Jj "set_seq2",Jh (.ref 181)),(241,Jj "_SequenceMatcher__chain_b",Jh (.ref 188)),(241,Jj "find_longest_match",Jh (.ref 196)),(241,Jj "get_matching_blocks",Jh (.ref 203)),(241,Jj "get_opcodes",Jh (.ref 210)),(241,Jj "__getattribute__",none),(241,Jj "__getattr__",none),(241,Jj "__setattr__",none),(241,Jj "isjunk",none),(241,Jj "a",none),(241,Jj "b",none),(241,Jj "b2j",none),(241,Jj "bjunk",none),(241,Jj "bpopular",none),(241,Jj "autojunk",none),(241,Jj "matching_blocks",none),(241,Jj "opcodes",none),(241,Jj "fullbcount",none),(312,Jj "__init__",Jh (.ref 268)),(312,Jj "_qformat",Jh (.ref 310)),(312,Jj "__getattribute__",none),(312,Jj "__getattr__",none),(312,Jj "__setattr__",none),(312,Jj "linejunk",none),(312,Jj "charjunk",none),(134,Jj "__new__",Jh (.ref 136)),(134,Jj "__init__",none),(134,Jj "_make",Jh (.ref 91)),(134,Jj "__len__",none),(134,Jj "__lt__",none),(134,Jj "__eq__",none),(134,Jj "__iter__",none),(134,Jj "__bool__",none),(134,Jj "__getattribute__",none),(134,Jj "__getattr__",none),(134,Jj "__del__",none),(134,Jj "__hash__",none),(134,Jj "__get__",none),(134,Jj "__index__",none),(134,Jj "__setattr__",none),(KS,Jj "identity.tokens-whose-sharing-is-not-told",none),(KS,Jj "thirdparty.any",none)]
noncomputable def qt(o:Obj):Obj:=match o with
 |⟨c,d,.func f,s⟩=>⟨c,d,.func {f with doc:=.none},s⟩
 |o=>o
noncomputable def Yf(s:Js):Bool×List (Option Obj)×List (Bool×Option Value):=(decide (798<=s.toks),ko.map λx=>(s.heap.get? x.1).map qt,kn.map λx=>(s.heap.isNs x.1,N5 s.heap x.1 x.2.1))
noncomputable def Ya(_:LK):Bool×List (Option Obj)×List (Bool×Option Value):=(true,ko.map λx=>Jh x.2,kn.map λx=>(true,x.2.2))
theorem left:LeftO pw qv loose (λZ=>true) Yf Ya 6000:=zW xn (λw=>by kernel_rfl)
end
section
open PySem PySem.W PySem.Calls PyProof.Rows
noncomputable abbrev Fw(K:Nat)(q:Program)(loose:List Str)(XP:(Str->Option Value)->Heap->Prop)(YP:LK->Heap->Prop)(r:RowW)(d:DefRec)(g:List (Str×Expr)):Prop :=
 ∀(w:LK) (s₀ s₁:Js) (h p:Str->Option Value),Sw q loose r.records XP w s₀ h p s₁.heap->YP w s₁.heap->K<=s₁.toks->∀(a:Addr) (o:Obj) (u i f j k:Value),s₁.heap.get? a=Jh o ->
  o.data=.func {docDef d.name d.params d.body d.scope u i f with defaults:=j,kwdefaults:=k}->s₁.heap.CodeRec i d.name->Dflts h s₁.heap d.params g j k->h d.name=Jh (.ref a)->s₁.gens=#[] ->
  ∀(c:List WData) (vals:List Value) (as:List Addr),r.claim.pre c=true->WData.layableAll c=true->ReadsAllW r.records (classAt s₀.heap) s₁.heap vals c as->WellAll w.params s₁.heap vals c->(∀a∈as,(a == Rg)=false) ->
   JH (Jz r.prog w) Sl (Ky (.ref a) vals) (λv s'=>GoodWG r.claim (classAt s₀.heap) (SU s₀.heap) c s₁ (.ok (.ret v)) s')
    (λe s'=>GoodWG r.claim (classAt s₀.heap) (SU s₀.heap) c s₁ (.error e) s') s₁
theorem vH{r:OpenRow}{q}{loose:List Str}{Xt:Js->Bool}{XP:(Str->Option Value)->Heap->Prop}{i:Type}{Yf:Js->i}{Ya:LK->i}{YP:LK->Heap->Prop}{d:DefRec}{M:List (Str×Expr)}{N K:Nat}(left:LeftO r.prog q loose Xt Yf Ya N)(hY:∀w s,Yf s=Ya w->YP w s.heap)(af:∀w h h',YP w h->(∀b o,h.get? b=Jh o->h'.get? b=Jh o)->YP w h')(hK:∀w s,Yf s=Ya w->K<=s.toks)(hX:∀s,Xt s=true->XP (s.heap.nsMap KY) s.heap)(ae:∀mg h h',XP mg h->(∀b o,h.get? b=Jh o->h'.get? b=Jh o)->XP mg h')(C:defOf q r.name=Jh (d,M))(hp:r.prog.theDef r.name=Jh (d.params,d.body,d.scope))(hk:kwWritten? d.params.kwonlyargs d.params.kw_defaults=Jh M)(ac:∀s,Xt s=true->RecFacts r.records s.heap)(aa:(!r.writes || r.records.isEmpty)=true)(k1:r.wellSaid=true)(ok:(chainsOk q&&opensWell r.prog&&(frees r.toRowW&&r.within.isEmpty))=true)(hb:r.prog.bare)(hw:r.toRowW.promised)(call:Fw K q loose XP YP r.toRowW d M):r.Holds:=by
 refine⟨k1,hw,?_⟩;refine Jg λzz=>?_;obtain⟨ok,k5⟩:=Bool.and_eq_true_iff.mp ok;obtain⟨R,o1⟩:=Bool.and_eq_true_iff.mp ok;obtain⟨k5,k6⟩:=Bool.and_eq_true_iff.mp k5;obtain⟨E,hu,ha,ag,hm⟩:=frees_parts k5;refine zz ?_;refine⟨⟨hb,o1,by show r.makers.map _=[];refine(hm).symm▸?_;rfl⟩,hw.witness,λw=>⟨(left.behind hX R w).1,λs' ak=>?_⟩⟩;refine Jg λzz=>?_;obtain⟨s₀,hf,ah,s,hT,hz,u,hg,j,y⟩:=(left.behind (XP:=λmg h=>XP mg h/\RecFacts r.records h) (λs hs=>⟨hX s hs,ac s hs⟩) R w).2 s' ak;refine zz ?_;have G0:Sw q loose [] XP w s (s.heap.nsMap KY) (s.heap.nsMap LW) s.heap:=⟨j.T,j.B,j.D,j.TE,j.TD,j.W,j.X.1,j.cls,j.has,j.apart,j.once,j.K⟩
 have RF:=j.X.2;refine⟨s₀,hf,ah,s,hT,λn hn=>?_,RF.1,RF.2.1,?_⟩
 ·obtain rfl:n=r.name:=by split at hn <;> simp_all
  exact pinned_of_view hg G0 C hp hk
 have u:s.gens=#[]:=PJ (beq_iff_eq.mp u);have G:Sw q loose r.records XP w s _ _ s.heap:=RF.ground G0;refine ClaimW.callFrom_of_specG (c:=r.toRowW.claim) (tree:=λvs=>do match <-nsGet mainNs r.name with
   |some f=>do ret (<-Ky f vs)
   |none=>QQ "claim.caller:no-such-global") hz u λA J F ord H=>?_
 refine Jg λzz=>?_;obtain⟨⟨vs,s₁⟩,k⟩:=Option.isSome_iff_exists.mp (layAllW_isSome (P:=w.params) (ord:=ord) G.has A r.args s (pre_splitW J).1);have p:=layAllW_keeps _ _ _ k;have Q:=layAllW_rest _ _ _ k;obtain⟨as,aj,ai,S⟩:=reads_layAllW H _ _ _ k F s₁.heap (λZ Y e=>e);have L:Laid r.records w s s₁ A vs as:=⟨⟨ord,H,k⟩,aj,ai,S,p,Q.1.trans u,Q.2.2.1⟩
 have x:=G.keeps ae p;obtain⟨a,o,pm,cd,ab,dV,kV,h1,h2,h3,h4,h5⟩:=x.fn C;refine zz ?_;have hi:=ident_freeW hu ha ag;have U:r.toRowW.claim.within=[]:=List.isEmpty_iff.mp k6;refine⟨vs,s₁,k,Jf (wpAny_nsGet x.T.g ?_)⟩;refine(show(s.heap.nsMap KY) r.name=Jh (.ref a) from h1).symm▸?_;refine Jf (JB (call w s s₁ _ _ x (af _ _ _ (hY w s y) p) (Jn (hK w s y) (layAllW_grows _ _ _ k).toks) a o pm cd ab dV kV h2 h3 h4 h5 (defOf_name C▸h1) L.gens A vs as J F L.reads L.well (L.low G.low)) (λv s' g=>Jk ⟨_,rfl,have z:=g.laid (c:=r.toRowW.claim) E U hi L;⟨z.1,z.2.1,z.2.2,λq=>⟨namesKept_of hT hg r.keeps p g.2.1.old,noTable aa q⟩⟩⟩) λe s' g=>have z:=g.laid (c:=r.toRowW.claim) E U hi L;⟨z.1,z.2.1,z.2.2,λq=>⟨namesKept_of hT hg r.keeps p g.2.1.old,noTable aa q⟩⟩)
end
noncomputable def YP(_:LK)(h:Heap):Prop:=(∀x∈ko,∃o,h.get? x.1=Jh o/\qt o=x.2)/\∀x∈kn,∃m,h.Ns x.1 m/\m x.2.1=x.2.2
mutual
theorem Fv(w:LK)(s:Js)(e:Yf s=Ya w):YP w s.heap:=by
 unfold Yf Ya at e;rw[<-N9] at e;obtain⟨_,e⟩:=LR e;obtain⟨c,d⟩:=LR e;have j:=List.map_inj_left.mp c;have k:=List.map_inj_left.mp d;refine⟨λx a=>?_,λx a=>?_⟩
 ·obtain⟨o,g,f⟩:=LZ.mp (j x a);exact⟨o,g,f⟩
 ·obtain⟨h,i⟩:=LR (k x a);exact⟨_,.of_isNs h,i⟩
theorem zv(w:LK)(s:Js)(e:Yf s=Ya w):798<=s.toks:=by
 unfold Yf Ya at e;exact of_decide_eq_true (LR e).1
theorem y7(w:LK)(h h':Heap)(y:YP w h)(c:∀b o,h.get? b=Jh o->h'.get? b=Jh o):YP w h' :=
 ⟨λx a=>let ⟨o,f,e⟩:=y.1 x a;⟨o,c _ _ f,e⟩,λx a=>let ⟨m,d,g⟩:=y.2 x a;⟨m,d.keeps c,g⟩⟩
end
noncomputable def qJ:DefRec:=match a7 14 with
 |.FunctionDef name a c Z Y X scope V U pos=>⟨name,a,c,scope,pos⟩
 |_=>⟨Jj "",⟨[],[],none,[],[],none,[]⟩,[],default,⟨0,0,0,0⟩⟩
mutual
theorem z7:defOf qv (Jj "law")=Jh (qJ,[]):=by kernel_rfl
theorem zY:pw.theDef (Jj "law")=Jh (qJ.params,qJ.body,qJ.scope):=by rw[xn];kernel_rfl
theorem CS:kwWritten? qJ.params.kwonlyargs qJ.params.kw_defaults=Jh []:=by kernel_rfl
end
noncomputable def Good(s₁:Js)(v:Value)(s':Js):Prop:=v=.bool true/\OldK s₁.heap s'.heap/\s'.os=s₁.os/\Sz s'.gens
noncomputable def Walk:Prop:=∀(w:LK) (s₀ s₁:Js) (c a:Str->Option Value),Sw qv loose [] (λZ Y=>True) w s₀ c a s₁.heap->YP w s₁.heap->798<=s₁.toks->s₁.gens=#[] ->
 ∀(l:Addr) (vs:List Value) (ns:List Int),s₁.heap.get? l=Jh {cls:=.type "list",data:=.seq vs.toArray}->IntsAre vs ns->ns.length<=63 ->
  JH (Jz pw w) Sl (Ky (.ref 356) [.ref l]) (Good s₁) (λZ Y=>False) s₁
mutual
theorem DY:RP T8=true:=by
 have h:∀p,p=pT->RP {prog:=p,name:=(Jj "law"),about:=[(Jj "Differ"),(Jj "_qformat")],foot:=4,most:=Jh 63,bound:=none,writes:=false}=true:=λp e=>by
  subst e;kernel_rfl
 exact h _ xn
theorem sy{w:LK}{h l}{vs:List Value}{xs}(f:h.IsList l vs.toArray)(e:Well w.params h (.ref l) (ofPy (.list xs))):h.get? l=Jh {cls:=.type "list",data:=.seq vs.toArray}:=by
 have e:Well w.params h (.ref l) (.list (ofPys xs)):=e;cases e with
 |list a Z =>
  obtain⟨o,c,_,n,d⟩:=f;rw[a] at c;cases c;cases d;exact a
end
set_option tactic.hygienic true in
theorem hd(walk:Walk):T8.Holds:=by
 w_on
 refine holds_law DY λDY=>?_;refine vH (K:=798) (q:=qv) (loose:=loose) (Xt:=λZ=>true) (XP:=λZ X=>True) (Yf:=Yf) (Ya:=Ya) (YP:=YP) (N:=6000) left Fv y7 zv (λZ X=>trivial) (λZ X V U S=>trivial) z7 zY CS (λs Z=>recFacts_of rfl) rfl (by assumption) (by decide +kernel) ⟨rfl,rfl,rfl,rfl,rfl,by decide +kernel⟩ ?hw ?hc
 case hw=>w_witness2
 case hc =>
  intro w s₀ s₁ Q P G Y H a o pm R u dV kV ho hd E hD i F p vals as d c j k f
  wrow_args d c j k f
  rename_i ns _ _ _ _ _ _ _ l vs _ C _ hw _ B _ r _
  have D:a=356:=by
   obtain⟨m,J,M⟩:=Y.2 (3,Jj "law",Jh (.ref 356)) (by decide);have e:=J.agree G.T.g qJ.name;have x:m qJ.name=Jh (.ref 356):=M;rw[x,i] at e;cases e
   rfl
  subst D;refine JB (walk w s₀ s₁ Q P G Y H F l vs ns (sy C hw) B (by omega)) (λv s' g=>?_) (λZ X g=>g.elim);obtain⟨rfl,y,z,A⟩:=g;exact⟨.inl ⟨_,.bool true,[],rfl,λZ=>rfl,.bool _,by wrow_post,λZ=>⟨.nil,λZ h=>nomatch h⟩⟩,y,z,A⟩
structure Wd where
 w:LK
 prog:Program
 h₁:Heap
 os₁:OsState
 mg:Str->Option Value
 mb:Str->Option Value
 t₁:Nat
 tb:Heap->Prop
 tbk:∀h h',tb h->(∀b o,b<h₁.objs.size->h.get? b=Jh o->h'.get? b=Jh o)->tb h'
structure kH(n:Nat)(c P:Addr)(h:Heap):Prop where
 lc:c<n
 lp:P<n
 at_:∃ps,h.TableAt c P ps/\h.IsCode c P ps
mutual
theorem rX{c P ps}{h h':Heap}(t:h.TableAt c P ps)(a:∀o,h.get? c=Jh o->h'.get? c=Jh o)(kp:∀o,h.get? P=Jh o->h'.get? P=Jh o):h'.TableAt c P ps :=
 ⟨t.1.imp λo x=>x.imp λvs y=>⟨a _ y.1,y.2⟩,kp _ t.2⟩
theorem qQ{c P ps}{h h':Heap}(t:h.IsCode c P ps)(a:∀o,h.get? c=Jh o->h'.get? c=Jh o)(kp:∀o,h.get? P=Jh o->h'.get? P=Jh o):h'.IsCode c P ps :=
 t.imp λZ x=>x.imp λZ x=>x.imp λZ x=>x.imp λZ x=>x.imp λZ x=>x.imp λZ x=>x.imp λZ x=>x.imp λZ x=>x.imp λZ x=>x.imp λZ x =>
  ⟨a _ x.1,x.2.1,x.2.2.1,x.2.2.2.1,x.2.2.2.2.1,x.2.2.2.2.2.1,x.2.2.2.2.2.2.1,kp _ x.2.2.2.2.2.2.2.1,x.2.2.2.2.2.2.2.2⟩
end
theorem kH.keep{n c P h h'}(t:kH n c P h)(k:∀b o,b<n->h.get? b=Jh o->h'.get? b=Jh o):kH n c P h' :=
 ⟨t.lc,t.lp,t.at_.imp λZ x=>⟨rX x.1 (λo=>k _ o t.lc) λo=>k _ o t.lp,qQ x.2 (λo=>k _ o t.lc) λo=>k _ o t.lp⟩⟩
noncomputable def Hr(w:LK)(s₁:Js)(c a:Str->Option Value):Wd:=⟨w,pw,s₁.heap,s₁.os,c,a,798,kH s₁.heap.objs.size 252 248,λZ Y t k=>t.keep k⟩
inductive Ge(W:Wd):Prop
 |mk (w:LK) (s₀ s₁:Js) (mg mb:Str->Option Value) (G:Sw qv loose [] (λ_ _=>True) w s₀ mg mb s₁.heap) (Y:YP w s₁.heap) (hk:798<=s₁.toks) (hg:s₁.gens=#[])
  (l:Addr) (vs:List Value) (ns:List Int) (hL:s₁.heap.get? l=Jh {cls:=.type "list",data:=.seq vs.toArray}) (hI:IntsAre vs ns) (hn:ns.length<=63)
  (no:¬JH (Jz pw w) Sl (Ky (.ref 356) [.ref l]) (Good s₁) (λ_ _=>False) s₁) (e:W=Hr w s₁ mg mb)
noncomputable def W:Wd:=@Classical.epsilon Wd ⟨⟨⟨λZ Y=>0,{strHash:=λZ=>0,shareClass:=λZ=>0,mergeTok:=λt=>t,idOf:=λZ=>0,idOfShared:=λZ Y=>0,followText:=λZ=>false,idOfImm:=λZ=>0}⟩,pw,{},{},λZ=>none,λZ=>none,0,λZ=>True,λZ Y X V=>trivial⟩⟩ Ge
mutual
theorem Co{W'}(h:Ge W'):Ge W:=@Classical.epsilon_spec Wd Ge ⟨W',h⟩
theorem wpAny_toks{α}{M:Vx}{A:Around}{t:Q7 α}{Q:α->Js->Prop}{E:Value->Js->Prop}{s:Js}(h:JH M A t (λa s'=>s.toks<=s'.toks->Q a s') (λe s'=>s.toks<=s'.toks->E e s') s):JH M A t Q E s:=wpAny_with_toks (Jl _) h
end
theorem gP{α}{M:Vx}{A:Around}{t:Q7 α}{Q:α->Js->Prop}{E:Value->Js->Prop}{s:Js}(h:JH M A t (λa s'=>s.toks<=s'.toks->Q a s') E s):JH M A t Q E s :=
 wpAny_toks (JB h (λZ Y q=>q) λZ Y e X=>e)
structure Inv(s:Js):Prop where
 old:OldK W.h₁ s.heap
 stat:∀o,W.h₁.get? KS=Jh o->s.heap.get? KS=Jh o
 os:s.os=W.os₁
 bare:Sz s.gens
 size:W.h₁.objs.size<=s.heap.objs.size
 tk:W.t₁<=s.toks
 tb:W.tb s.heap
noncomputable def cH(o:Obj):Prop:=o.cls≠.none∨(∃es ep,o.data=.dict es ep)∨∃v,o.data=.cell v
mutual
theorem bN{o T}(h:o.cls=.type T):cH o:=.inl (by refine(h).symm▸?_;intro q;cases q)
theorem eA{h:Heap}{a m}(e:h.Ns a m){o}(f:h.get? a=Jh o):cH o:=by
 obtain⟨o',es,ep,c,d,_⟩:=e;have c:=f▸c;cases c;exact .inr (.inl ⟨es,ep,d⟩)
end
structure bK:Prop where
 g:W.h₁.Ns KY W.mg
 b:W.h₁.Ns LW W.mb
 nolimit:W.h₁.NoLimit
 bmod:∃bm ob,W.mg "__builtins__"=Jh (.ref bm)/\bm≠LW/\W.h₁.get? bm=Jh ob/\ob.cls=.type "module"/\ob.dict=Jh LW/\ob.data=.plain
theorem jg{h₀ h a m}(K:OldK h₀ h)(f:h₀.Ns a m)(j:a≠KS):h.Ns a m:=f.at λo g=>by
 refine Jg λk=>?_;obtain⟨o',es,ep,c,i,_⟩:=f;refine k ?_;have c:=g▸c;cases c;rcases K.old a o g with x | ⟨_,_,vs,more,d,_⟩ | ⟨e,_⟩
 ·exact x
 ·have d:=i▸d;cases d
 ·exact absurd e j
mutual
theorem Inv.glob{s}(T:bK)(i:Inv s):s.heap.Ns KY W.mg:=jg i.old T.g (by decide)
theorem Inv.blt{s}(T:bK)(i:Inv s):s.heap.Ns LW W.mb:=jg i.old T.b (by decide)
end
theorem Inv.nolimit{s}(T:bK)(i:Inv s):s.heap.NoLimit:=by
 obtain⟨a,h,e⟩:=T.nolimit;exact⟨a,h.at i.stat,e⟩
theorem Inv.toks{s}(i:Inv s)(k:Nat)(a:s.toks<=k):Inv {s with toks:=k}:=⟨i.old,i.stat,i.os,i.bare,i.size,Jn i.tk a,i.tb⟩
noncomputable def norm:Value->Value
 |.int i Z=>.int i 0
 |.float b Z=>.float b 0
 |.str s Z=>.str s 0
 |.bytes b Z=>.bytes b 0
 |v=>v
inductive Kd where
 |tup
 |lst
 |cls (C:Addr)
noncomputable def Kd.cl:Kd->Value
 |.tup=>.type "tuple"
 |.lst=>.type "list"
 |.cls C=>.ref C
noncomputable def Kd.wo:Kd->Nat->Nat
 |.lst,Z=>0
 |Z,n=>n
noncomputable def Kd.obj(k:Kd)(items:Array Value)(n:Nat):Obj:=match k with
 |.cls C=>{cls:=.ref C,dict:=Jh n,data:=.seq items}
 |k=>{cls:=k.cl,data:=.seq items n}
theorem Kd.solid(k:Kd)(items:Array Value)(n:Nat):cH (k.obj items n):=.inl (by cases k <;> exact λq=>JT q)
inductive Bi where
 |len | sum | max | range | enumerate | int | list | set | zip | map | tuple
 |min (u:Unit)
noncomputable def Bi.ctorIdx(o:Bi):Nat:=Bi.casesOn (motive:=λZ=>Nat) o 0 1 2 3 4 5 6 7 8 9 10 (λZ=>11)
noncomputable def Bi.val:Bi->Value
 |.len=>.builtin "len"
 |.sum=>.builtin "sum"
 |.max=>.builtin "max"
 |.min Z=>.builtin "min"
 |.range=>.type "range"
 |.enumerate=>.type "enumerate"
 |.int=>.type "int"
 |.list=>.type "list"
 |.set=>.type "set"
 |.zip=>.type "zip"
 |.map=>.type "map"
 |.tuple=>.type "tuple"
inductive Bm where
 |dget | shas | keys | items
 |dhas (u:Unit)
noncomputable def Bm.ctorIdx(o:Bm):Nat:=Bm.casesOn (motive:=λZ=>Nat) o 0 1 2 3 (λZ=>4)
noncomputable def Bm.id:Bm->String
 |.dget=>"dict.get"
 |.dhas Z=>"dict.__contains__"
 |.shas=>"set.__contains__"
 |.keys=>"dict_keys"
 |.items=>"dict_items"
noncomputable def Bm.fn:Bm->Bool
 |.keys=>false
 |.items=>false
 |_=>true
inductive V where
 |v (w:Value)
 |i (x:Int)
 |f (x:UInt64)
 |s (x:Str) (t:Nat)
 |c (k:Kd) (vs:List V)
 |r (h:Nat)
 |o (o:Obj)
 |bm (b:Bm) (h:Nat)
 |g (b:Bi)
 |rg (a b:Int)
noncomputable abbrev V.n:V:=.v .none
noncomputable abbrev V.b(x:Bool):V:=.v (.bool x)
noncomputable abbrev V.t(vs:List V):V:=.c .tup vs
noncomputable abbrev V.l(vs:List V):V:=.c .lst vs
inductive O where
 |list (vs:List V)
 |dict (kvs:List (Str×V))
 |dicti (kvs:List (Int×V))
 |set (l:List Str)
 |inst (C:Addr) (d:Nat)
 |ns (m:List (Str×V))
 |frm (m:List (Str×V))
 |gen (g:Nat) (c:Addr->Code) (L:Nat)
 |cell (v:Option V)
 |dictx (o:Obj) (kvs:List (Str×V))
 |fix (o:Obj)
 |gone
noncomputable def O.ctorIdx(o:O):Nat:=O.casesOn (motive:=λZ=>Nat) o (λZ=>0) (λZ=>1) (λZ=>2) (λZ=>3) (λZ Y=>4) (λZ=>5) (λZ=>6) (λZ Y X=>7) (λZ=>8) (λZ Y=>9) (λZ=>10) 11
noncomputable abbrev St:=List O
noncomputable def lQ(a b:Int)(t u v:Qx):Obj:={cls:=.type "range",data:=.fields #[.int a t,.int b u,.int 1 v]}
noncomputable def fA(id:String)(a:Addr):Obj:={cls:=.type "builtin_function_or_method",data:=.fields #[.builtin id,.ref a]}
noncomputable def i5(T:String)(a:Addr):Obj:={cls:=.type T,data:=.fields #[.ref a]}
noncomputable def Bm.obj(b:Bm)(a:Addr):Obj:=match b.fn with
 |true=>fA b.id a
 |false=>i5 b.id a
theorem Bm.solid(b:Bm)(a:Addr):cH (b.obj a):=by cases b <;> exact bN rfl
structure Sg where
 a:Nat->Addr
 z:Addr->Prop
mutual
theorem nn{a:Type}{x}{P:Prop}(h:(none:Option a)=Jh x):P:=by cases h
theorem ft{P:Prop}(h:false=true):P:=Jq h
theorem tf{P:Prop}(h:true=false):P:=Jq h
theorem d4{a:Type}{P:a->Prop}{b x y}(h:b=true->P x)(l:P y):P (cond b x y):=by
 cases b with
 |true=>exact h rfl
 |false=>exact l
theorem cB{b}{X Y E:Prop}(h:cond b X Y)(k:b=true->X->E)(l:Y->E):E:=by
 cases b with
 |true=>exact k rfl h
 |false=>exact l h
end
inductive Jb(z:Addr->Prop)(h:Heap)(k:Kd)(P:List Value->Prop)(w:Value):Prop
 |mk (a:Addr) (items:Array Value) (m:Nat) (e:w=.ref a) (hz:z a) (ho:h.get? a=Jh (k.obj items m)) (hs:items.size<=sizeLine) (hv:P items.toList)
inductive Iy(z:Addr->Prop)(h:Heap)(o:Obj)(P:Prop)(w:Value):Prop
 |mk (a:Addr) (e:w=.ref a) (hz:z a) (ho:h.get? a=Jh o) (hp:P)
inductive HA(z:Addr->Prop)(h:Heap)(x y:Int)(w:Value):Prop
 |mk (a:Addr) (t u v:Qx) (e:w=.ref a) (hz:z a) (ho:h.get? a=Jh (lQ x y t u v))
inductive FZ(P:Value->Prop)(R:List Value->Prop)(ws:List Value):Prop
 |mk (w:Value) (ws':List Value) (e:ws=w::ws') (h:P w) (t:R ws')
inductive Hz(x:Str)(P:Qx->Prop)(w:Value):Prop
 |mk (u:Qx) (e:w=.str x u) (h:P u)
mutual
noncomputable def RV(σ:Sg)(n:Nat)(s:Js):V->Value->Prop
 |.v u,w=>w=u
 |.i x,w=>∃t,w=.int x t
 |.f x,w=>∃t,w=.float x t
 |.s x t,w=>Hz x (λu=>t≠0->u=t/\t<s.toks) w
 |.c k vs,w=>Jb σ.z s.heap k (cf σ (k.wo n) s vs) w
 |.r h,w=>h<n/\w=.ref (σ.a h)
 |.o o,w=>Iy σ.z s.heap o (cH o) w
 |.bm b h,w=>Iy σ.z s.heap (b.obj (σ.a h)) (h<n) w
 |.g b,w=>w=b.val
 |.rg x y,w=>HA σ.z s.heap x y w
noncomputable def cf(σ:Sg)(n:Nat)(s:Js):List V->List Value->Prop
 |[],ws=>ws=[]
 |v::vs,ws=>FZ (RV σ n s v) (cf σ n s vs) ws
end /-m-/
structure Ext(X:Addr->Prop)(σ:Sg)(n:Nat)(s:Js)(σ':Sg)(n':Nat)(s':Js):Prop where
 len:n<=n'
 ext:∀h,h<n->σ'.a h=σ.a h
 new:∀h,n<=h->h<n'->s.heap.objs.size<=σ'.a h
 z:∀b,σ.z b->σ'.z b
 znew:∀b,σ'.z b->σ.z b∨s.heap.objs.size<=b
 keep:∀b o,s.heap.get? b=Jh o->cH o->(∀h,h<n->σ.a h≠b)->¬X b->s'.heap.get? b=Jh o
 grow:s.heap.objs.size<=s'.heap.objs.size
 tgrow:s.toks<=s'.toks
noncomputable def de(_:Addr):Prop:=False
section
variable {X:Addr->Prop}{σ:Sg}{σ':Sg}{D:Sg}{n:Nat}{n':Nat}{H:Nat}{s:Js}{s':Js}{s'':Js}
theorem Ext.refl:Ext X σ n s σ n s:=⟨Jl _,λZ Y=>rfl,λZ h h'=>absurd h' (Nat.not_lt.mpr h),λZ h=>h,λZ=>.inl,λZ Y h V U T=>h,Jl _,Jl _⟩
mutual
theorem Ext.off(x:Ext X σ n s σ' n' s'){a:Addr}(c:a<s.heap.objs.size)(h:∀k,k<n->σ.a k≠a):∀k,k<n'->σ'.a k≠a:=λk d e =>
 (LA k n).elim (λq=>h k q ((x.ext k q).symm.trans e)) λq=>Jw _ (Jp c (e▸x.new k q d))
theorem Ext.zoff(x:Ext X σ n s σ' n' s'){a:Addr}(c:a<s.heap.objs.size)(h:¬σ.z a):¬σ'.z a:=λq=>(x.znew a q).elim h λz=>Jw _ (Jp c z)
end
theorem Ext.trans(x:Ext X σ n s σ' n' s')(y:Ext X σ' n' s' D H s''):Ext X σ n s D H s'' :=
 ⟨Jn x.len y.len,λh q=>(y.ext h (Jp q x.len)).trans (x.ext h q),
  λh q e=>(LA h n').elim (λz=>y.ext h z▸x.new h q z) (λz=>Jn x.grow (y.new h z e)),
  λb h=>y.z b (x.z b h),λb h=>(y.znew b h).elim (x.znew b) λq=>.inr (Jn x.grow q),
  λb o h d c a=>y.keep b o (x.keep b o h d c a) d (x.off (JE h) c) a,Jn x.grow y.grow,Jn x.tgrow y.tgrow⟩
theorem Ext.wk{Y}(x:Ext X σ n s σ' n' s')(h:∀b,X b->Y b):Ext Y σ n s σ' n' s' :=
 ⟨x.len,x.ext,x.new,x.z,x.znew,λb o c e d a=>x.keep b o c e d λq=>a (h b q),x.grow,x.tgrow⟩
noncomputable def Apart(X:Addr->Prop)(σ:Sg)(n:Nat):Prop:=∀b,σ.z b->¬X b/\∀h,h<n->σ.a h≠b
theorem cf.nJ{k k' vs}(h:∀v∈vs,∀w,RV σ k s v w->RV σ' k' s' v w):∀ws,cf σ k s vs ws->cf σ' k' s' vs ws:=by
 induction vs with
 |nil=>exact λZ q=>q
 |cons v vs f=>exact λws q=>q.casesOn λw c e a b=>⟨w,c,e,h v (JJ ..) w a,f (λu d=>h u (JR _ d)) c b⟩
structure Kp(X:Addr->Prop)(σ:Sg)(n:Nat)(s:Js)(σ':Sg)(s':Js):Prop where
 z:∀b,σ.z b->σ'.z b
 keep:∀b o,s.heap.get? b=Jh o->cH o->(∀h,h<n->σ.a h≠b)->¬X b->s'.heap.get? b=Jh o
 tgrow:s.toks<=s'.toks
theorem Ext.kp(x:Ext X σ n s σ' n' s'):Kp X σ n s σ' s':=⟨x.z,x.keep,x.tgrow⟩
noncomputable def fR(σ:Sg)(k:Nat)(σ':Sg)(c:Nat):Prop:=∀h,h<k->h<c/\σ'.a h=σ.a h
theorem fR.wo{k k'}(q:fR σ k σ' k')(d:Kd):fR σ (d.wo k) σ' (d.wo k'):=by
 cases d with
 |lst=>exact λh q=>absurd q (Jy _)
 |_=>exact q
theorem RV.cq(x:Kp X σ n s σ' s')(p:Apart X σ n)(v:V):∀k c,fR σ k σ' c->∀w:Value,RV σ k s v w->RV σ' c s' v w :=
 V.rec (motive_1:=λv=>∀k c,fR σ k σ' c->∀w,RV σ k s v w->RV σ' c s' v w) (motive_2:=λvs=>∀v∈vs,∀k c,fR σ k σ' c->∀w,RV σ k s v w->RV σ' c s' v w)
  (λZ Y U T S=>id) (λZ Y U T S=>id) (λZ Y U T S=>id) (λZ Y U T S R h=>h.casesOn λu e h=>⟨u,e,λq=>⟨(h q).1,Jp (h q).2 x.tgrow⟩⟩)
  (λd vs A k c q Z h=>h.casesOn λa items m e hz f y g=>⟨a,items,m,e,x.z a hz,x.keep a _ f (d.solid _ _) (p a hz).2 (p a hz).1,y,cf.nJ (λv g=>A v g _ _ (q.wo d)) _ g⟩)
  (λk Z Y q U h=>⟨(q k h.1).1,h.2.trans (congrArg J3 (q k h.1).2.symm)⟩)
  (λo Z Y U T h=>h.casesOn λa e hz f so=>⟨a,e,x.z a hz,x.keep a _ f so (p a hz).2 (p a hz).1,so⟩)
  (λb k Z Y q U h=>h.casesOn λa e hz f i=>⟨a,e,x.z a hz,by refine((q k i).2).symm▸?_;exact x.keep a _ f (b.solid _) (p a hz).2 (p a hz).1,(q k i).1⟩)
  (λZ Y U T S h=>h) (λZ Y U T S R h=>h.casesOn λa t u v e hz f=>⟨a,t,u,v,e,x.z a hz,x.keep a _ f (bN rfl) (p a hz).2 (p a hz).1⟩)
  (λZ q=>absurd q JK) (λu us j r v q=>(Ub.mp q).elim (λe=>by refine(e).symm▸?_;exact j) (r v)) v
theorem Ext.same(x:Ext X σ n s σ' n' s'):fR σ n σ' n':=λh q=>⟨Jp q x.len,x.ext h q⟩
theorem RV.mono(x:Ext X σ n s σ' n' s')(p:Apart X σ n)(v:V):∀w:Value,RV σ n s v w->RV σ' n' s' v w:=RV.cq x.kp p v n n' x.same
theorem RV.up(v:V)(w:Value)(h:RV σ 0 s v w):RV σ n s v w :=
 RV.cq (X:=de) (n:=0) ⟨λZ=>id,λZ Y h U T S=>h,Jl _⟩ (λZ Y=>⟨id,λZ q=>absurd q (Jy _)⟩) v 0 n (λZ q=>absurd q (Jy _)) w h
theorem cf.up{vs ws}(h:cf σ 0 s vs ws):cf σ n s vs ws:=cf.nJ (λv Z w=>RV.up v w) ws h
theorem cf.wo{vs ws}{k:Kd}(h:cf σ (k.wo n) s vs ws):cf σ n s vs ws:=by
 cases k with
 |lst=>exact h.up
 |_=>exact h
theorem cf.mono(x:Ext X σ n s σ' n' s')(p:Apart X σ n){vs ws}(h:cf σ n s vs ws):cf σ' n' s' vs ws:=cf.nJ (λv Z w=>RV.mono x p v w) ws h
theorem cf.cq(x:Kp X σ n s σ' s')(p:Apart X σ n){k k'}(q:fR σ k σ' k'){vs ws}(h:cf σ k s vs ws):cf σ' k' s' vs ws:=cf.nJ (λv Z w=>RV.cq x p v k k' q w) ws h
mutual
theorem cf.len{vs}:∀ {ws:List Value},cf σ n s vs ws->ws.length=vs.length:=by
 induction vs with
 |nil=>exact λh=>congrArg L6 h
 |cons v vs a=>exact λh=>h.casesOn λw c e Z t=>by refine(e).symm▸?_;refine(J5).symm▸?_;refine(J5).symm▸?_;exact(a t).symm▸rfl
theorem cf.app{vs us xs}(h':cf σ n s us xs):∀ {ws:List Value},cf σ n s vs ws->cf σ n s (vs++us) (ws++xs):=by
 induction vs with
 |nil=>exact λh=>by refine(show _=[] from h).symm▸?_;exact h'
 |cons v vs d=>exact λh=>h.casesOn λw c e a t=>⟨w,c++xs,by refine(e).symm▸?_;rfl,a,d t⟩
theorem cf.get{vs v}:∀ {ws:List Value} {k:Nat},cf σ n s vs ws->vs[k]?=Jh v->∃w,ws[k]?=Jh w/\RV σ n s v w:=by
 induction vs with
 |nil=>exact λZ q=>by simp at q
 |cons u vs d =>
  intro ws k h q;obtain⟨w,e,rfl,a,c⟩:=h;cases k with
  |zero=>exact⟨w,rfl,JP q▸a⟩
  |succ k=>exact d (k:=k) c q
end
noncomputable def cS(w:LK):Bool:=w.params.followText "set-order"
noncomputable def cg(es:Array (Int×Value))(ep:Nat)(t:Nu):Obj:={cls:=.type "set",dict:=none,data:=.set es ep t,slots:=#[]}
structure iu(es:Array (Int×Value))(t:Nu)(l:List Str):Prop where
 els:ElemsOf (strKind W.prog W.w) es.toList
 perm:(es.toList.map λe=>norm e.2).Perm (l.map λx=>.str x 0)
 nodup:l.Nodup
 fits:t.fits es.size=true
 led:cS W.w=true∨t.led=true
 plain:es.size=0∨t.plain=false
noncomputable def RK{K:Type}(σ:Sg)(n:Nat)(s:Js)(a:List (K×V))(ws:List (K×Value)):Prop:=ws.map (·.1)=a.map (·.1)/\cf σ n s (a.map (·.2)) (ws.map (·.2))
noncomputable def mT(σ:Sg)(n:Nat)(s:Js)(lc:List (Str×V))(m:Str->Option Value):Prop:=∀x v,lc.lookup x=Jh v->∃w,m x=Jh w/\RV σ n s v w
inductive HE(h:Heap)(a:Addr)(P:List Value->Prop):Prop
 |mk (items:Array Value) (k:Nat) (ho:h.get? a=Jh (Kd.lst.obj items k)) (hs:items.size<=sizeLine) (hv:P items.toList)
inductive AP{K:Type}[DecidableEq K](knd:KeyKind W.prog W.w K)(h:Heap)(a:Addr)(P:List (K×Value)->Prop):Prop
 |mk (o:Obj) (ws:List (K×Value)) (ho:h.get? a=Jh o) (hd:o.IsDictOf knd ws) (hr:P ws)
inductive HC(h:Heap)(a:Addr)(l:List Str):Prop
 |mk (es:Array (Int×Value)) (ep:Nat) (t:Nu) (ho:h.get? a=Jh (cg es ep t)) (hd:iu es t l)
inductive HF(h:Heap)(a C d:Addr)(P:Prop):Prop
 |mk (o:Obj) (ho:h.get? a=Jh o) (hc:o.cls=.ref C) (hd:o.dict=Jh d) (hp:P) (hn:∀c,o.data≠.cls c)
inductive HD(h:Heap)(a:Addr)(m:List (Str×V))(P:(Str->Option Value)->Prop):Prop
 |mk (f:Str->Option Value) (hn:h.Ns1 a f) (hk:P f) (hz:∀x,m.lookup x=none->f x=none)
inductive HI(h:Heap)(a:Addr)(P:(Str->Option Value)->Prop):Prop
 |mk (f:Str->Option Value) (hn:h.Ns a f) (hk:P f)
inductive HG(h:Heap)(a:Addr)(g:Nat)(P R:Prop):Prop
 |mk (hg:h.IsGen a g) (hp:P) (hr:R)
inductive HJ(h:Heap)(a:Addr)(v:Option V)(P:V->Value->Prop):Prop
 |mk (w:Option Value) (hc:h.IsCell a w) (hv:∀u,v=Jh u->∃y,w=Jh y/\P u y)
inductive HB{K:Type}[DecidableEq K](knd:KeyKind W.prog W.w K)(h:Heap)(a:Addr)(o:Obj)(P:List (K×Value)->Prop):Prop
 |mk (ho:h.get? a=Jh o) (ws:List (K×Value)) (hd:o.IsDictOf knd ws) (hr:P ws)
inductive FU(h:Heap)(a:Addr):Prop
 |mk (o:Obj) (ho:h.get? a=Jh o) (hs:cH o)
noncomputable def RO(σ:Sg)(n:Nat)(s:Js)(a:Addr):O->Prop
 |.list vs=>HE s.heap a (cf σ n s vs)
 |.dict e=>AP (strKind W.prog W.w) s.heap a (RK σ n s e)
 |.dicti e=>AP (Ut W.prog W.w) s.heap a (RK σ n s e)
 |.set l=>HC s.heap a l
 |.inst C d=>HF s.heap a C (σ.a d) (d<n)
 |.ns m=>HD s.heap a m (mT σ n s m)
 |.frm m=>HI s.heap a (mT σ n s m)
 |.gen g c L=>HG s.heap a g (s.gens[g]?=Jh (.fresh (c (σ.a L)))) (L<n)
 |.cell v=>HJ s.heap a v (RV σ n s)
 |.dictx o e=>HB (strKind W.prog W.w) s.heap a o (RK σ n s e)
 |.fix o=>s.heap.get? a=Jh o/\cH o
 |.gone=>FU s.heap a
variable {a:Addr}{st:St}{B:St}{E:St}
theorem mT.cq(x:Kp X σ n s σ' s')(p:Apart X σ n)(q:fR σ n σ' n'){lc m}(k:mT σ n s lc m):mT σ' n' s' lc m :=
 λy v h=>(k y v h).elim λw e=>⟨w,e.1,RV.cq x p v _ _ q w e.2⟩
theorem RK.cq{K:Type}(x:Kp X σ n s σ' s')(p:Apart X σ n)(q:fR σ n σ' n'){a:List (K×V)}{ws:List (K×Value)}(k:RK σ n s a ws):RK σ' n' s' a ws:=⟨k.1,k.2.cq x p q⟩
theorem RK.mono{K:Type}(x:Ext X σ n s σ' n' s')(p:Apart X σ n){a:List (K×V)}{ws:List (K×Value)}(k:RK σ n s a ws):RK σ' n' s' a ws:=k.cq x.kp p x.same
theorem dS{o}(h:o.ExactDict):cH o:=bN h.1
theorem RO.there{o}(h:RO σ n s a o):FU s.heap a:=by
 cases o with
 |list vs=>obtain⟨i,k,h,_⟩:=h;exact⟨_,h,Kd.solid ..⟩
 |dict p=>obtain⟨o,ws,h,⟨_,_,e,_⟩,_⟩:=h;exact⟨_,h,dS e⟩
 |dicti p=>obtain⟨o,ws,h,⟨_,_,e,_⟩,_⟩:=h;exact⟨_,h,dS e⟩
 |set l=>obtain⟨es,ep,t,h,_⟩:=h;exact⟨_,h,bN rfl⟩
 |inst C d=>obtain⟨o,h,hc,_⟩:=h;exact⟨_,h,.inl (by refine(hc).symm▸?_;exact λq=>JT q)⟩
 |ns m=>obtain⟨f,h,_⟩:=h;have h':=h.ns;obtain⟨o,es,ep,j,_⟩:=h';exact⟨o,j,eA h.ns j⟩
 |frm m=>obtain⟨f,h,_⟩:=h;have h':=h;obtain⟨o,es,ep,j,_⟩:=h';exact⟨o,j,eA h j⟩
 |gen g c L=>obtain⟨⟨o,nm,r,j,hc,_⟩,_⟩:=h;exact⟨o,j,bN hc⟩
 |cell v=>obtain⟨w,⟨o,j,hd⟩,_⟩:=h;exact⟨o,j,.inr (.inr ⟨w,hd⟩)⟩
 |dictx o p=>obtain⟨h,ws,⟨_,_,e,_⟩,_⟩:=h;exact⟨_,h,dS e⟩
 |fix o=>exact⟨o,h.1,h.2⟩
 |gone=>exact h
theorem RO.cq(x:Kp X σ n s σ' s')(p:Apart X σ n)(q:fR σ n σ' n'){o}(j:∀y,s.heap.get? a=Jh y->cH y->s'.heap.get? a=Jh y)(H:∀g c L,o=.gen g c L->s.gens[g]?=Jh (.fresh (c (σ.a L)))->s'.gens[g]?=Jh (.fresh (c (σ.a L))))(h:RO σ n s a o):RO σ' n' s' a o:=by
 cases o with
 |list vs=>obtain⟨i,k,h,hz,J⟩:=h;exact⟨i,k,j _ h (Kd.solid ..),hz,J.cq x p q⟩
 |dict D=>obtain⟨o,ws,h,e,r⟩:=h;have A:=e;obtain⟨_,_,A,_⟩:=A;exact⟨o,ws,j _ h (dS A),e,r.cq x p q⟩
 |dicti D=>obtain⟨o,ws,h,e,r⟩:=h;have A:=e;obtain⟨_,_,A,_⟩:=A;exact⟨o,ws,j _ h (dS A),e,r.cq x p q⟩
 |set l=>obtain⟨es,ep,t,h,d⟩:=h;exact⟨es,ep,t,j _ h (bN rfl),d⟩
 |inst C d=>obtain⟨o,h,hc,hd,F,M⟩:=h;exact⟨o,j _ h (.inl (by refine(hc).symm▸?_;exact λq=>JT q)),hc,by refine(hd).symm▸?_;exact((q d F).2).symm▸rfl,(q d F).1,M⟩
 |ns m=>obtain⟨f,h,k,u⟩:=h;exact⟨f,h.at λo B=>j o B (eA h.ns B),k.cq x p q,u⟩
 |frm m=>obtain⟨f,h,k⟩:=h;exact⟨f,h.at λo B=>j o B (eA h B),k.cq x p q⟩
 |gen g c L=>obtain⟨⟨o,nm,P,B,hc,r⟩,G,E⟩:=h;exact⟨⟨o,nm,P,j o B (bN hc),hc,r⟩,(q L E).2▸H g c L rfl G,(q L E).1⟩
 |cell v=>obtain⟨w,⟨o,B,hd⟩,e⟩:=h;exact⟨w,⟨o,j o B (.inr (.inr ⟨w,hd⟩)),hd⟩,λu z=>(e u z).elim λy z=>⟨y,z.1,RV.cq x p u _ _ q y z.2⟩⟩
 |dictx o D=>obtain⟨h,ws,e,r⟩:=h;have A:=e;obtain⟨_,_,A,_⟩:=A;exact⟨j _ h (dS A),ws,e,r.cq x p q⟩
 |fix o=>exact⟨j o h.1 h.2,h.2⟩
 |gone=>obtain⟨o,h,q⟩:=h;exact⟨o,j o h q,q⟩
theorem RO.mono(x:Ext X σ n s σ' n' s')(p:Apart X σ n){o}(e:∀y,s.heap.get? a=Jh y->cH y->s'.heap.get? a=Jh y)(d:∀g c L,o=.gen g c L->s.gens[g]?=Jh (.fresh (c (σ.a L)))->s'.gens[g]?=Jh (.fresh (c (σ.a L))))(h:RO σ n s a o):RO σ' n' s' a o:=h.cq x.kp p x.same e d
structure Rel(σ:Sg)(st:St)(s:Js):Prop where
 at_:∀h o,st[h]?=Jh o->RO σ st.length s (σ.a h) o
 above:∀h,h<st.length->W.h₁.objs.size<=σ.a h
 inj:∀h k,h<st.length->k<st.length->σ.a h=σ.a k->h=k
 zlt:∀b,σ.z b->b<s.heap.objs.size
 zoff:∀b,σ.z b->∀h,h<st.length->σ.a h≠b
theorem Rel.lt(r:Rel σ st s){h}(c:h<st.length):σ.a h<s.heap.objs.size:=by
 obtain⟨x,d,_⟩:=(r.at_ h _ (Jo c)).there;exact JE d
structure bO(X:Addr->Prop)(σ:Sg)(st:St)(s:Js)(σ':Sg)(st':St)(s':Js):Prop where
 x:Ext X σ st.length s σ' st'.length s'
 inv:Inv s'
 rel:Rel σ' st' s'
 gkeep:∀g y,s.gens[g]?=Jh y->(∀(h:Nat) c L,st[h]?≠Jh (O.gen g c L))->s'.gens[g]?=Jh y
 gdom:∀(h:Nat) g c L,st'[h]?=Jh (O.gen g c L)->(∃(h':Nat) (c':Addr->Code) (L':Nat),st[h']?=Jh (O.gen g c' L'))∨s.gens.size<=g
 ggrow:s.gens.size<=s'.gens.size
noncomputable abbrev Step:=bO de
theorem bO.refl(i:Inv s)(r:Rel σ st s):bO X σ st s σ st s :=
 ⟨.refl,i,r,λZ Y h V=>h,λh g c L q=>.inl ⟨h,c,L,q⟩,Jl _⟩
theorem bO.trans(p:bO X σ st s σ' B s')(q:bO X σ' B s' D E s''):bO X σ st s D E s'':=by
 refine⟨p.x.trans q.x,q.inv,q.rel,λg y h j=>q.gkeep g y (p.gkeep g y h j) λk c L e=>?_,λh g c L e=>?_,Jn p.ggrow q.ggrow⟩
 ·exact(p.gdom k g c L e).elim (λa=>by obtain⟨i,c',f,z⟩:=a;exact j i c' f z) λz=>absurd (Array.getElem?_eq_some_iff.mp h).1 (Nat.not_lt.mpr z)
 ·exact(q.gdom h g c L e).elim (λd=>by obtain⟨i,c',f,z⟩:=d;exact p.gdom i g c' f z) λz=>.inr (Jn p.ggrow z)
theorem bO.wk{Y}(p:bO X σ st s σ' B s')(h:∀b,X b->Y b):bO Y σ st s σ' B s':=⟨p.x.wk h,p.inv,p.rel,p.gkeep,p.gdom,p.ggrow⟩
theorem bO.hO(p:Step σ st s σ' B s'):bO X σ st s σ' B s':=p.wk λZ h=>h.elim
theorem Rel.apart(r:Rel σ st s):Apart de σ st.length:=λb h=>⟨id,r.zoff b h⟩
theorem Rel.mono(r:Rel σ st s)(x:Ext X σ st.length s σ st.length s')(p:∀b,σ.z b->¬X b)(f:∀h,h<st.length->∀y,s.heap.get? (σ.a h)=Jh y->cH y->s'.heap.get? (σ.a h)=Jh y)(d:s'.gens=s.gens):Rel σ st s' :=
 ⟨λh o e=>(r.at_ h o e).mono x (λb q=>⟨p b q,r.zoff b q⟩) (f h (List.getElem?_eq_some_iff.mp e).1) (λg c L Z q=>d▸q),r.above,r.inj,λb h=>Jp (r.zlt b h) x.grow,r.zoff⟩
theorem bT(i:Inv s)(r:Rel σ st s){k}(d:s.toks<=k):bO X σ st s σ st {s with toks:=k} :=
 have a {X n} (d:s.toks<=k):Ext X σ n s σ n {s with toks:=k}:=⟨Jl _,λZ Y=>rfl,λZ h h'=>absurd h' (Nat.not_lt.mpr h),λZ h=>h,λZ=>.inl,λZ Y h V U T=>h,Jl _,d⟩
 ⟨a d,i.toks k d,r.mono (X:=de) (a d) (λZ Y h=>h) (λZ Y V h U=>h) rfl,λZ Y h V=>h,λh g c L q=>.inl ⟨h,c,L,q⟩,Jl _⟩
theorem bO.toks(p:bO X σ st s σ' B s'){k}(a:s'.toks<=k):bO X σ st s σ' B {s' with toks:=k}:=p.trans (bT p.inv p.rel a)
theorem k8{h' k}(i:Inv s)(a:∀b o,s.heap.get? b=Jh o->h'.get? b=Jh o)(hz:s.heap.objs.size<=h'.objs.size)(c:s.toks<=k):Inv {s with heap:=h',toks:=k} :=
 ⟨i.old.step_keeps a,λo h=>a _ _ (i.stat o h),i.os,i.bare,Jn i.size hz,Jn i.tk c,W.tbk _ _ i.tb λb o Z e=>a b o e⟩
theorem c4{h' k}(i:Inv s)(r:Rel σ st s)(a:∀b o,s.heap.get? b=Jh o->h'.get? b=Jh o)(hz:s.heap.objs.size<=h'.objs.size)(d:s.toks<=k):bO X σ st s σ st {s with heap:=h',toks:=k}:=by
 have x:∀Y,Ext Y σ st.length s σ st.length {s with heap:=h',toks:=k}:=λY=>⟨Jl _,λZ V=>rfl,λZ h h'=>absurd h' (Nat.not_lt.mpr h),λZ h=>h,λZ=>.inl,λb o h Z V U=>a b o h,hz,d⟩
 exact⟨x X,k8 i a hz d,r.mono (x de) (λZ V h=>h) (λZ V y h U=>a _ y h) rfl,λZ V h U=>h,λh g c L q=>.inl ⟨h,c,L,q⟩,Jl _⟩
theorem dp{o}(i:Inv s)(r:Rel σ st s):bO X σ st s σ st {s with heap:=s.heap.push o} :=
 c4 (k:=s.toks) i r (λb o' e=>Jm _ e) (by rw[JA];exact JC _) (Jl _)
mutual
theorem Inv.jl(T:bK):KS<W.h₁.objs.size:=by
 obtain⟨a,h,_⟩:=T.nolimit;exact h.lt
theorem nE{h₀ h h'}(K:OldK h₀ h)(c:∀b o,b<h₀.objs.size->h.get? b=Jh o->h'.get? b=Jh o):OldK h₀ h':=by
 refine⟨λb o e=>?_,λb o e=>let ⟨o',a⟩:=K.there b o e;⟨o',c b o' (JE e) a⟩⟩;have lt:=JE e;rcases K.old b o e with x | ⟨g,hc,vs,more,f,x⟩ | ⟨rfl,hc,⟨o',es,n,a,q⟩,z⟩
 ·exact .inl (c _ _ lt x)
 ·exact .inr (.inl ⟨g,hc,vs,more,f,c _ _ lt x⟩)
 ·exact .inr (.inr ⟨rfl,hc,⟨o',es,n,c _ _ lt a,q⟩,λd=>by refine(OldK.staticOf_congr ((c _ _ lt a).trans a.symm) d).symm▸?_;exact z d⟩)
theorem lK{a h h'}(c:Kx a h h'):∀b o,b≠a->h.get? b=Jh o->h'.get? b=Jh o:=λb Z q e=>(c.2 b q).trans e
end
theorem jQ{h' k}(T:bK)(i:Inv s)(f:∀a,X a->W.h₁.objs.size<=a)(d:∀b o,¬X b->s.heap.get? b=Jh o->h'.get? b=Jh o)(hz:s.heap.objs.size<=h'.objs.size)(g:s.toks<=k):Inv {s with heap:=h',toks:=k} :=
 have ne:∀b,b<W.h₁.objs.size->¬X b:=λb c e=>Jw _ (Jp c (f b e))
 ⟨nE i.old λb o c=>d b o (ne b c),λo h=>d _ o (ne _ (Inv.jl T)) (i.stat o h),i.os,i.bare,Jn i.size hz,Jn i.tk g,W.tbk _ _ i.tb λb o c=>d b o (ne b c)⟩
theorem j4{h' k}(T:bK)(i:Inv s)(r:Rel σ st s)(B:∀a,X a->W.h₁.objs.size<=a)(off:∀a,X a->¬σ.z a/\∀h,h<st.length->σ.a h≠a)(p:∀b o,¬X b->s.heap.get? b=Jh o->h'.get? b=Jh o)(hz:s.heap.objs.size<=h'.objs.size)(w:s.toks<=k)(d:∀h,σ'.a h=σ.a h)(z:∀b,σ.z b->σ'.z b)(v:∀b,σ'.z b->σ.z b∨s.heap.objs.size<=b/\b<h'.objs.size):bO X σ st s σ' st {s with heap:=h',toks:=k}:=by
 have x:Ext X σ st.length s σ' st.length {s with heap:=h',toks:=k}:=⟨Jl _,λh Z=>d h,λZ h h'=>absurd h' (Nat.not_lt.mpr h),z,λb q=>(v b q).imp id And.left,λb o h Z Y A=>p b o A h,hz,w⟩
 refine⟨x,jQ T i B p hz w,⟨λh o e=>?_,λh q=>d h▸r.above h q,λh j q f e=>r.inj h j q f (by refine(d h)▸?_;refine(d j)▸?_;exact e),λb q=>(v b q).elim (λq=>Jp (r.zlt b q) hz) P6,λb q h f e=>?_⟩,λZ Y h V=>h,λh g c L q=>.inl ⟨h,c,L,q⟩,Jl _⟩
 ·refine(d h).symm▸?_;exact(r.at_ h o e).mono x (λb q=>⟨λu=>(off b u).1 q,r.zoff b q⟩) (λy C Z=>p _ _ (λu=>(off _ u).2 h (List.getElem?_eq_some_iff.mp e).1 rfl) C) λZ Y V U q=>q
 ·have e:=(d h)▸e;exact(v b q).elim (λq=>r.zoff b q h f e) λq=>Jw _ (Jp (r.lt f) (e▸q.1))
theorem fK{h' k}(T:bK)(i:Inv s)(r:Rel σ st s)(c:∀a,X a->W.h₁.objs.size<=a)(off:∀a,X a->¬σ.z a/\∀h,h<st.length->σ.a h≠a)(e:∀b o,¬X b->s.heap.get? b=Jh o->h'.get? b=Jh o)(hz:s.heap.objs.size<=h'.objs.size)(d:s.toks<=k):bO X σ st s σ st {s with heap:=h',toks:=k} :=
 j4 T i r c off e hz d (λZ=>rfl) (λZ=>id) λZ=>.inl
theorem cW{a:Addr}{h' k}(T:bK)(i:Inv s)(r:Rel σ st s)(d:W.h₁.objs.size<=a)(c:X a)(off:¬σ.z a/\∀h,h<st.length->σ.a h≠a)(g:∀b o,b≠a->s.heap.get? b=Jh o->h'.get? b=Jh o)(hz:s.heap.objs.size<=h'.objs.size)(f:s.toks<=k):bO X σ st s σ st {s with heap:=h',toks:=k} :=
 (fK (X:=(· =a)) T i r (λZ e=>e▸d) (λZ e=>e▸off) g hz f).wk λZ e=>e▸c
theorem eV{a:Addr}{h' k}(T:bK)(i:Inv s)(r:Rel σ st s)(e:W.h₁.objs.size<=a)(d:X a)(hz:¬σ.z a)(g:∀h,h<st.length->σ.a h≠a)(c:Kx a s.heap h')(f:s.toks<=k):bO X σ st s σ st {s with heap:=h',toks:=k} :=
 cW T i r e d ⟨hz,g⟩ (lK c) (JX c.1.symm) f
theorem jG{h h' k o}(T:bK)(i:Inv s)(r:Rel σ st s)(d:h<st.length)(f:∀b o,b≠σ.a h->s.heap.get? b=Jh o->h'.get? b=Jh o)(hz:s.heap.objs.size<=h'.objs.size)(p:s.toks<=k)(B:Ext de σ st.length s σ st.length {s with heap:=h',toks:=k}->RO σ st.length {s with heap:=h',toks:=k} (σ.a h) o)(v:∀g c L,o≠.gen g c L):bO X σ st s σ (st.set h o) {s with heap:=h',toks:=k}:=by
 have x:∀Y,Ext Y σ st.length s σ st.length {s with heap:=h',toks:=k}:=λY=>⟨Jl _,λZ V=>rfl,λZ h h'=>absurd h' (Nat.not_lt.mpr h),λZ h=>h,λZ=>.inl,λb o q Z A V=>f b o (λe=>A h d e.symm) q,hz,p⟩
 have e:(st.set h o).length=st.length:=MG;refine⟨e▸x X,jQ (X:=(· =σ.a h)) T i (λZ e=>e▸r.above h d) f hz p,⟨λj y q=>?_,e▸r.above,e▸r.inj,λb q=>Jp (r.zlt b q) (x X).grow,e▸r.zoff⟩,λZ V h U=>h,λj g c L q=>?_,Jl _⟩
 ·refine(e).symm▸?_;by_cases z:j=h
  ·subst z;have q:=(K0 d)▸q;cases q;exact B (x de)
  ·have q:=(Mp (Mj z))▸q;exact(r.at_ j y q).mono (x de) r.apart (λw hw Z=>f _ _ (λu=>z (r.inj j h (List.getElem?_eq_some_iff.mp q).1 d u)) hw) λZ V U S u=>u
 ·by_cases z:j=h
  ·subst z;have q:=(K0 d)▸q;cases q;exact absurd rfl (v g c L)
  ·rw[Mp (Mj z)] at q;exact .inl ⟨j,c,L,q⟩
theorem dX{h h' k o}(T:bK)(i:Inv s)(r:Rel σ st s)(f:h<st.length)(d:Kx (σ.a h) s.heap h')(j:s.toks<=k)(p:Ext de σ st.length s σ st.length {s with heap:=h',toks:=k}->RO σ st.length {s with heap:=h',toks:=k} (σ.a h) o)(e:∀g c L,o≠.gen g c L):bO X σ st s σ (st.set h o) {s with heap:=h',toks:=k} :=
 jG T i r f (lK d) (JX d.1.symm) j p e
noncomputable def Sg.new(σ:Sg)(n:Nat)(b:Addr):Sg:=⟨λh=>if h=n then b else σ.a h,σ.z⟩
noncomputable def Sg.keep(σ:Sg)(b:Addr):Sg:=⟨σ.a,λc=>σ.z c∨c=b⟩
mutual
theorem dY{b:Addr}{h' k o}(i:Inv s)(r:Rel σ st s)(B:s.heap.objs.size<=b)(C:∀c y,s.heap.get? c=Jh y->h'.get? c=Jh y)(hz:s.heap.objs.size<=h'.objs.size)(D:s.toks<=k)(F:Ext de σ st.length s (σ.new st.length b) (st.length+1) {s with heap:=h',toks:=k}->RO (σ.new st.length b) (st.length+1) {s with heap:=h',toks:=k} b o)(E:∀g c L,o=.gen g c L->s.gens.size<=g):bO X σ st s (σ.new st.length b) (st++[o]) {s with heap:=h',toks:=k}:=by
 have old:∀h,h<st.length->(σ.new st.length b).a h=σ.a h:=λh q=>if_neg (J1 q);have v:(σ.new st.length b).a st.length=b:=if_pos rfl;have d:(st++[o]).length=st.length+1:=Ji;have x:∀Y,Ext Y σ st.length s (σ.new st.length b) (st.length+1) {s with heap:=h',toks:=k}:=λY =>
  ⟨JC _,old,λh q A=>by refine(Nat.le_antisymm (NK A) q).symm▸?_;refine(v).symm▸?_;exact B,λZ h=>h,λZ=>.inl,λc y q Z V U=>C c y q,hz,D⟩
 have p:∀h,h<st.length+1->h<st.length∨h=st.length:=λh q=>NA (NK q);have ne:∀h,h<st.length->σ.a h≠b:=λh q e=>Jw _ (Jp (r.lt q) (e▸B));refine⟨d▸x X,k8 i C hz D,⟨λj y q=>?_,λh q=>?_,λh j q A e=>?_,λc q=>Jp (r.zlt c q) hz,λc q h A e=>?_⟩,λZ V h U=>h,λj g c L q=>?_,Jl _⟩
 ·refine(d).symm▸?_;rcases p j (d▸(List.getElem?_eq_some_iff.mp q).1) with z | z
  ·refine(old j z).symm▸?_;rw[JU z] at q;exact(r.at_ j y q).mono (x de) r.apart (λw hw Z=>C _ w hw) λZ V U T u=>u
  ·subst z;rw[JW (Jl _)] at q;have q:=(Lz ..)▸q;cases q;refine(v).symm▸?_;exact F (x de)
 ·rcases p h (d▸q) with z | z
  ·rw[old h z];exact r.above h z
  ·rw[z,v];exact Jn i.size B
 ·rcases p h (d▸q) with z | z <;> rcases p j (d▸A) with f | f
  ·rw[old h z,old j f] at e;exact r.inj h j z f e
  ·rw[old h z,f,v] at e;exact absurd e (ne h z)
  ·rw[old j f,z,v] at e;exact absurd e.symm (ne j f)
  ·refine(z).symm▸?_;exact(f).symm▸rfl
 ·rcases p h (d▸A) with z | z
  ·rw[old h z] at e;exact r.zoff c q h z e
  ·rw[z,v] at e;exact Jw _ (Jp (r.zlt c q) (e▸B))
 ·rcases p j (d▸(List.getElem?_eq_some_iff.mp q).1) with z | z
  ·rw[JU z] at q;exact .inl ⟨j,c,L,q⟩
  ·subst z;rw[JW (Jl _),Lz] at q;cases q;exact .inr (E g c L rfl)
theorem d8{b:Addr}{h' k}(i:Inv s)(r:Rel σ st s)(d:s.heap.objs.size<=b)(a:b<h'.objs.size)(f:∀c y,s.heap.get? c=Jh y->h'.get? c=Jh y)(o:s.toks<=k):bO X σ st s (σ.keep b) st {s with heap:=h',toks:=k}:=by
 have hz:=Ku (Kn d a);have x:∀Y,Ext Y σ st.length s (σ.keep b) st.length {s with heap:=h',toks:=k}:=λY =>
  ⟨Jl _,λZ V=>rfl,λZ h h'=>absurd h' (Nat.not_lt.mpr h),λZ=>.inl,λc q=>q.imp id fun(e:c=b)=>e▸d,λc y q Z V U=>f c y q,hz,o⟩
 exact⟨x X,k8 i f hz o,⟨λj y q=>(r.at_ j y q).mono (x de) r.apart (λw hw Z=>f _ w hw) λZ V U T u=>u,r.above,r.inj,λc q=>q.elim (λq=>Jp (r.zlt c q) hz) (fun(e:c=b)=>e▸a),
  λc q h p=>q.elim (λq=>r.zoff c q h p) fun(e:c=b) u=>Jw _ (Jp (r.lt p) (u▸e▸d))⟩,λZ V h U=>h,λh g c L q=>.inl ⟨h,c,L,q⟩,Jl _⟩
end
variable {σ₀:Sg}{G:St}{s₀:Js}
theorem gp{b:Addr}{o}(x:bO X σ₀ G s₀ σ st s)(A:s₀.heap.objs.size<=b)(C:b<s.heap.objs.size)(v:W.h₁.objs.size<=b)(off:¬σ.z b/\∀h,h<st.length->σ.a h≠b)(D:(∀ {vs:List V} {ws:List Value},cf σ st.length s vs ws->cf (σ.new st.length b) (st.length+1) s vs ws)->RO (σ.new st.length b) (st.length+1) s b o)(B:∀g c L,o≠.gen g c L):bO X σ₀ G s₀ (σ.new st.length b) (st++[o]) s:=by
 have old:∀h,h<st.length->(σ.new st.length b).a h=σ.a h:=λh q=>if_neg (J1 q);have k:(σ.new st.length b).a st.length=b:=if_pos rfl;have d:(st++[o]).length=st.length+1:=Ji;have kp:∀Y,Kp Y σ st.length s (σ.new st.length b) s:=λY=>⟨λZ h=>h,λZ U h T S R=>h,Jl _⟩
 have sm:fR σ st.length (σ.new st.length b) (st.length+1):=λh q=>⟨Kh q,old h q⟩
 have f:∀h,h<st.length+1->h<st.length∨h=st.length:=λh q=>NA (NK q);have r:=x.rel;refine⟨⟨d▸KG x.x.len,λh q=>(old h (Jp q x.x.len)).trans (x.x.ext h q),λh q p=>?_,x.x.z,x.x.znew,x.x.keep,x.x.grow,x.x.tgrow⟩,x.inv,⟨λj y q=>?_,λh q=>?_,λh j q p e=>?_,r.zlt,λc q h p e=>?_⟩,x.gkeep,λj g c L q=>?_,x.ggrow⟩
 ·rcases f h (d▸p) with z | z
  ·rw[old h z];exact x.x.new h q z
  ·rw[z,k];exact A
 ·refine(d).symm▸?_;rcases f j (d▸(List.getElem?_eq_some_iff.mp q).1) with z | z
  ·refine(old j z).symm▸?_;rw[JU z] at q;exact(r.at_ j y q).cq (kp de) r.apart sm (λw hw Z=>hw) λZ U T S u=>u
  ·subst z;have q:=(JW (Jl _) ..)▸q;rw[Lz] at q;cases q;refine(k).symm▸?_;exact D λh=>h.cq (kp de) r.apart sm
 ·rcases f h (d▸q) with z | z
  ·rw[old h z];exact r.above h z
  ·rw[z,k];exact v
 ·rcases f h (d▸q) with z | z <;> rcases f j (d▸p) with i | i
  ·rw[old h z,old j i] at e;exact r.inj h j z i e
  ·rw[old h z,i,k] at e;exact absurd e (off.2 h z)
  ·rw[old j i,z,k] at e;exact absurd e.symm (off.2 j i)
  ·refine(z).symm▸?_;exact(i).symm▸rfl
 ·rcases f h (d▸p) with z | z
  ·rw[old h z] at e;exact r.zoff c q h z e
  ·have e:=(z ..)▸e;rw[k] at e;exact off.1 (e▸q)
 ·rcases f j (d▸(List.getElem?_eq_some_iff.mp q).1) with z | z
  ·rw[JU z] at q;exact x.gdom j g c L q
  ·subst z;have q:=(JW (Jl _) ..)▸q;have q:=(Lz ..)▸q;cases q;exact absurd rfl (B g c L)
noncomputable def pK(m:Nat)(σ:Sg)(n:Nat)(s:Js)(b:Addr):Prop:=(∃k,m<=k/\k<n/\σ.a k=b)∨s.heap.objs.size<=b
structure gg(X:Addr->Prop)(m:Nat)(σ:Sg)(n:Nat)(s:Js)(σ':Sg)(n':Nat)(s':Js):Prop where
 ext:∀h,h<m->h<n->h<n'/\σ'.a h=σ.a h
 new:∀h,h<n'->h<m/\h<n∨pK m σ n s (σ'.a h)
 z:∀b,σ.z b->σ'.z b
 znew:∀b,σ'.z b->σ.z b∨pK m σ n s b
 keep:∀b o,s.heap.get? b=Jh o->cH o->(∀h,h<n->σ.a h≠b)->¬X b->s'.heap.get? b=Jh o
 grow:s.heap.objs.size<=s'.heap.objs.size
 tgrow:s.toks<=s'.toks
variable {m:Nat}
mutual
theorem Ext.gQ(x:Ext X σ n s σ' n' s'):gg X m σ n s σ' n' s' :=
 ⟨λh Z q=>⟨Jp q x.len,x.ext h q⟩,λh q=>(LA h n).elim (λz=>(LA h m).elim (λy=>.inl ⟨y,z⟩) λy=>.inr (.inl ⟨h,y,z,(x.ext h z).symm⟩)) λz=>.inr (.inr (x.new h z q)),
  x.z,λb q=>(x.znew b q).imp id .inr,x.keep,x.grow,x.tgrow⟩
theorem gg.hO(x:gg X m σ n s σ' n' s')(c:n<=m):Ext X σ n s σ' n' s':=by
 have nn:∀ {b},pK m σ n s b->s.heap.objs.size<=b:=λq=>q.elim (λa=>by obtain⟨k,d,e,_⟩:=a;exact absurd e (Nat.not_lt.mpr (Jn c d))) id;refine⟨?_,λh q=>(x.ext h (Jp q c) q).2,λh q f=>(x.new h f).elim (λz=>absurd z.2 (Nat.not_lt.mpr q)) nn,x.z,λb q=>(x.znew b q).imp id nn,x.keep,x.grow,x.tgrow⟩;exact(Sr n).elim (λq=>q▸JN _) λq=>by have:=(x.ext (n-1) (Jp (Oe q NJ) c) (Oe q NJ)).1;exact bM 17 19 this
theorem gg.ED(x:gg X m σ n s σ' n' s'){b}(q:pK m σ' n' s' b):pK m σ n s b :=
 q.elim (λa=>by obtain⟨k,c,d,e⟩:=a;exact(x.new k d).elim (λz=>absurd z.1 (Nat.not_lt.mpr c)) λz=>e▸z) λq=>.inr (Jn x.grow q)
theorem gg.off(x:gg X m σ n s σ' n' s'){a:Addr}(g:a<s.heap.objs.size)(h:∀k,k<n->σ.a k≠a):∀k,k<n'->σ'.a k≠a:=λk i e =>
 (x.new k i).elim (λq=>h k q.2 ((x.ext k q.1 q.2).2.symm.trans e)) λq=>(e▸q:pK m σ n s a).elim (λc=>by obtain⟨j,_,d,f⟩:=c;exact h j d f) λq=>Jw _ (Jp g q)
theorem gg.zoff(x:gg X m σ n s σ' n' s'){a:Addr}(f:a<s.heap.objs.size)(hz:¬σ.z a)(h:∀k,k<n->σ.a k≠a):¬σ'.z a:=λq =>
 (x.znew a q).elim hz λq=>q.elim (λc=>by obtain⟨j,_,d,e⟩:=c;exact h j d e) λq=>Jw _ (Jp f q)
theorem gg.same(x:gg X m σ n s σ' n' s'){k}(a:k<=m)(c:k<=n):fR σ k σ' k:=λh q=>⟨q,(x.ext h (Jp q a) (Jp q c)).2⟩
theorem gg.le(x:gg X m σ n s σ' n' s'){k}(a:k<=m)(c:k<=n):k<=n':=(Sr k).elim (λq=>q▸JN _) λq=>by
 have:=(x.ext (k-1) (Jp (Oe q NJ) a) (Jp (Oe q NJ) c)).1;exact bM 17 19 this
theorem gg.kp(x:gg X m σ n s σ' n' s'):Kp X σ n s σ' s':=⟨x.z,x.keep,x.tgrow⟩
end
theorem gg.trans(x:gg X m σ n s σ' n' s')(y:gg X m σ' n' s' D H s''):gg X m σ n s D H s'' :=
 ⟨λh q a=>⟨(y.ext h q (x.ext h q a).1).1,(y.ext h q (x.ext h q a).1).2.trans (x.ext h q a).2⟩,
  λh q=>(y.new h q).elim (λz=>(x.new h z.2).elim .inl λu=>.inr ((y.ext h z.1 z.2).2▸u)) λz=>.inr (x.ED z),
  λb h=>y.z b (x.z b h),λb h=>(y.znew b h).elim (x.znew b) λq=>.inr (x.ED q),
  λb o h e d c=>y.keep b o (x.keep b o h e d c) e (x.off (JE h) d) c,Jn x.grow y.grow,Jn x.tgrow y.tgrow⟩
structure c8(X:Addr->Prop)(m:Nat)(σ:Sg)(st:St)(s:Js)(σ':Sg)(st':St)(s':Js):Prop where
 x:gg X m σ st.length s σ' st'.length s'
 inv:Inv s'
 rel:Rel σ' st' s'
 gkeep:∀g y,s.gens[g]?=Jh y->(∀(h:Nat) c L,st[h]?≠Jh (O.gen g c L))->s'.gens[g]?=Jh y
 gdom:∀(h:Nat) g c L,st'[h]?=Jh (O.gen g c L)->(∃(h':Nat) (c':Addr->Code) (L':Nat),st[h']?=Jh (O.gen g c' L'))∨s.gens.size<=g
 ggrow:s.gens.size<=s'.gens.size
theorem bO.gQ(p:bO X σ st s σ' B s'):c8 X m σ st s σ' B s':=⟨p.x.gQ,p.inv,p.rel,p.gkeep,p.gdom,p.ggrow⟩
theorem c8.hO(p:c8 X m σ st s σ' B s')(h:st.length<=m):bO X σ st s σ' B s':=⟨p.x.hO h,p.inv,p.rel,p.gkeep,p.gdom,p.ggrow⟩
theorem c8.trans(p:c8 X m σ st s σ' B s')(q:c8 X m σ' B s' D E s''):c8 X m σ st s D E s'':=by
 refine⟨p.x.trans q.x,q.inv,q.rel,λg y h j=>q.gkeep g y (p.gkeep g y h j) λk c L e=>?_,λh g c L e=>?_,Jn p.ggrow q.ggrow⟩
 ·exact(p.gdom k g c L e).elim (λa=>by obtain⟨i,c',f,z⟩:=a;exact j i c' f z) λz=>absurd (Array.getElem?_eq_some_iff.mp h).1 (Nat.not_lt.mpr z)
 ·exact(q.gdom h g c L e).elim (λd=>by obtain⟨i,c',f,z⟩:=d;exact p.gdom i g c' f z) λz=>.inr (Jn p.ggrow z)
mutual
theorem c8.fresh{Y}(x:c8 X m σ st s σ' B s')(h:∀b,X b->Y b∨s.heap.objs.size<=b):c8 Y m σ st s σ' B s' :=
 ⟨⟨x.x.ext,x.x.new,x.x.z,x.x.znew,λb o a d c e=>x.x.keep b o a d c λq=>(h b q).elim e λu=>Jw _ (Jp (JE a) u),x.x.grow,x.x.tgrow⟩,x.inv,x.rel,x.gkeep,x.gdom,x.ggrow⟩
theorem c8.wk{Y}(p:c8 X m σ st s σ' B s')(h:∀b,X b->Y b):c8 Y m σ st s σ' B s':=⟨⟨p.x.ext,p.x.new,p.x.z,p.x.znew,λb o a d c e=>p.x.keep b o a d c λq=>e (h b q),p.x.grow,p.x.tgrow⟩,p.inv,p.rel,p.gkeep,p.gdom,p.ggrow⟩
theorem c8.Hk{k}(p:c8 X m σ st s σ' B s')(h:k<=m):c8 X k σ st s σ' B s':=by
 have nn:∀ {b},pK m σ st.length s b->pK k σ st.length s b:=λq=>q.imp (λa=>by obtain⟨j,c,d⟩:=a;exact⟨j,Jn h c,d⟩) id;exact⟨⟨λj q=>p.x.ext j (Jp q h),λj q=>(p.x.new j q).elim (λz=>(LA j k).elim (λy=>.inl ⟨y,z.2⟩) λy=>.inr (.inl ⟨j,y,z.2,(p.x.ext j z.1 z.2).2.symm⟩)) λz=>.inr (nn z),p.x.z,λb q=>(p.x.znew b q).imp id nn,p.x.keep,p.x.grow,p.x.tgrow⟩,p.inv,p.rel,p.gkeep,p.gdom,p.ggrow⟩
end
structure cU where
 env:Env
 ce:List (Str×Nat)
 m:Nat
noncomputable abbrev cU.L(F:cU):Addr:=F.env.locals
noncomputable abbrev cU.kd(F:cU)(x:Str):Option NameKind:=F.env.scope.names.lookup x
noncomputable abbrev Lc:=List (Str×V)
noncomputable def Lc.set:Lc->Str->V->Lc
 |[],x,v=>[(x,v)]
 |(y,u)::l,x,v=>if y == x then(y,v)::l else(y,u)::Lc.set l x v
theorem Lc.fh(l:Lc)(x:Str)(v:V)(y:Str):(Lc.set l x v).lookup y=if y == x then Jh v else l.lookup y:=by
 induction l with
 |nil=>delta Lc.set;refine(JS).trans ?_;cases h:y == x <;> rfl
 |cons p l a =>
  obtain⟨z,u⟩:=p;show List.lookup y (if z == x then(z,v)::l else(z,u)::Lc.set l x v)=_;by_cases h:z == x
  ·rw[if_pos h,JS,JS];refine(eq_of_beq h).symm▸?_;cases y == x <;> rfl
  ·rw[if_neg h,JS,JS,a];by_cases q:y == z
   ·refine(q).symm▸?_;refine(eq_of_beq q).symm▸?_;simp [h]
   ·have:(y == z)=false:=by simpa using q
    rw[this]
structure dA(F:cU)(σ:Sg)(n:Nat)(lc:Lc)(s:Js):Prop where
 above:W.h₁.objs.size<=F.L
 ns:∃m,s.heap.Ns F.L m/\∀x v,F.kd x=Jh .local->lc.lookup x=Jh v->∃w,m x=Jh w/\RV σ n s v w
 offz:¬σ.z F.L
 offh:∀h,h<n->σ.a h≠F.L
 kind:F.env.scope.kind=.function
 glob:F.env.globals=KY
 bi:F.env.builtins=LW
 cells:∀x h,F.ce.lookup x=Jh h->h<n/\F.env.cells.lookup x=Jh (σ.a h)
structure Pre(F:cU)(σ:Sg)(lc:Lc)(st:St)(s:Js):Prop where
 i:Inv s
 r:Rel σ st s
 f:dA F σ st.length lc s
noncomputable abbrev EA:Value->Js->Prop:=λZ Y=>False
noncomputable abbrev Wp{a:Type}(A:Around)(t:Q7 a)(P:a->Js->Prop)(s:Js):Prop:=JH (Jz W.prog W.w) A t P EA s
inductive PV(σ:Sg)(st:St)(s:Js)(Q:V->St->Prop)(w:Value)(s':Js):Prop
 |mk (σ':Sg) (st':St) (x:Step σ st s σ' st' s') (v:V) (hv:RV σ' st'.length s' v w) (q:Q v st')
inductive Iu(σ:Sg)(st:St)(s:Js)(Q:List V->St->Prop)(ws:List Value)(s':Js):Prop
 |mk (σ':Sg) (st':St) (x:Step σ st s σ' st' s') (vs:List V) (hv:cf σ' st'.length s' vs ws) (q:Q vs st')
inductive PB(σ:Sg)(st:St)(s:Js)(Q:Bool->St->Prop)(b:Bool)(s':Js):Prop
 |mk (σ':Sg) (st':St) (x:Step σ st s σ' st' s') (q:Q b st')
inductive Fl where
 |next
 |brk
 |cont
 |ret (v:V)
noncomputable def RF(σ:Sg)(n:Nat)(s:Js):Fl->Flow->Prop
 |.next,f=>f=.next
 |.brk,f=>f=.brk
 |.cont,f=>f=.cont
 |.ret v,f=>∃w,f=.ret w/\RV σ n s v w
inductive PF(F:cU)(σ:Sg)(st:St)(s:Js)(Q:Fl->Lc->St->Prop)(f:Flow)(s':Js):Prop
 |mk (σ':Sg) (lc':Lc) (st':St) (x:c8 (· =F.L) F.m σ st s σ' st' s') (fr:dA F σ' st'.length lc' s') (g:Fl) (hg:RF σ' st'.length s' g f) (q:Q g lc' st')
variable (A:Around)(F:cU)
noncomputable def cx(e:Expr)(lc:Lc)(st:St)(Q:V->St->Prop):Prop:=∀σ s,Pre F σ lc st s->Wp A (eval e F.env) (PV σ st s Q) s
noncomputable def eJ(es:List Expr)(lc:Lc)(st:St)(Q:List V->St->Prop):Prop:=∀σ s,Pre F σ lc st s->Wp A (spliced (es.map λe=>(false,eval e F.env))) (Iu σ st s Q) s
noncomputable def kT(e:Expr)(lc:Lc)(st:St)(Q:Bool->St->Prop):Prop:=∀σ s,Pre F σ lc st s->Wp A (Sj e F.env (eval e F.env)) (PB σ st s Q) s
noncomputable def tG(op:VA)(es:List Expr)(lc:Lc)(st:St)(Q:Bool->St->Prop):Prop:=∀σ s,Pre F σ lc st s->Wp A (allTrue op es F.env) (PB σ st s Q) s
noncomputable def dN(c:Stmt)(lc:Lc)(st:St)(Q:Fl->Lc->St->Prop):Prop:=∀σ s,Pre F σ lc st s->Wp A (exec c F.env) (PF F σ st s Q) s
noncomputable def bW(l:List Stmt)(lc:Lc)(st:St)(Q:Fl->Lc->St->Prop):Prop:=∀σ s,Pre F σ lc st s->Wp A (Pa l F.env) (PF F σ st s Q) s
noncomputable def cE(t:Value->Value->Q7 Value)(a b:V)(st:St)(Q:V->St->Prop):Prop:=∀σ s u w,RV σ st.length s a u->RV σ st.length s b w->Inv s->Rel σ st s->Wp A (t u w) (PV σ st s Q) s
noncomputable def wx(a:V)(st:St)(Q:Bool->St->Prop):Prop:=∀σ s w,RV σ st.length s a w->Inv s->Rel σ st s->Wp A (TX w) (PB σ st s Q) s
noncomputable def bI(f:V)(vs:List V)(st:St)(Q:V->St->Prop):Prop:=∀σ s w ws,RV σ st.length s f w->cf σ st.length s vs ws->Inv s->Rel σ st s->Wp A (Ky w ws) (PV σ st s Q) s
end
section
variable {A:Around}{F:cU}{σ:Sg}{σ':Sg}{lc:Lc}{st:St}{d:St}{s:Js}{s':Js}{n:Nat}
theorem dA.step{X}(f:dA F σ st.length lc s)(r:Rel σ st s)(x:bO X σ st s σ' d s')(p:¬X F.L)(u:∀b,σ.z b->¬X b):dA F σ' d.length lc s':=by
 refine Jg λB=>?_;obtain⟨m,c,A⟩:=f.ns;refine B ?_;refine⟨f.above,⟨m,c.at λo i=>x.x.keep _ o i (eA c i) f.offh p,λy v a g=>?_⟩,x.x.zoff c.lt f.offz,x.x.off c.lt f.offh,f.kind,f.glob,f.bi,λy h e=>?_⟩
 ·obtain⟨w,j,k⟩:=A y v a g;exact⟨w,j,RV.mono x.x (λb q=>⟨u b q,r.zoff b q⟩) v w k⟩
 ·obtain⟨a,g⟩:=f.cells y h e;exact⟨Jp a x.x.len,by refine(x.x.ext h a).symm▸?_;exact g⟩
theorem Pre.step(p:Pre F σ lc st s)(x:Step σ st s σ' d s'):Pre F σ' lc d s':=⟨x.inv,x.rel,p.f.step p.r x id λZ Y=>id⟩
theorem RV.step{v w}(h:RV σ st.length s v w)(r:Rel σ st s)(x:Step σ st s σ' d s'):RV σ' d.length s' v w:=RV.mono x.x r.apart v w h
theorem cf.step{vs ws}(h:cf σ st.length s vs ws)(r:Rel σ st s)(x:Step σ st s σ' d s'):cf σ' d.length s' vs ws:=cf.mono x.x r.apart h
variable {j:Type}{t:Q7 j}{Q:V->St->Prop}
theorem bH{t P}(h:Wp A t (PV σ st s Q) s)(k:∀w s' σ' d v,Step σ st s σ' d s'->RV σ' d.length s' v w->Q v d->P w s'):Wp A t P s :=
 JB h (λw s' p=>p.casesOn λσ' d x v a q=>k w s' σ' d v x a q) λZ Y e=>e
mutual
theorem dH{t Q P}(h:Wp A t (PB σ st s Q) s)(k:∀b s' σ' d,Step σ st s σ' d s'->Q b d->P b s'):Wp A t P s :=
 JB h (λw s' p=>p.casesOn λσ' d x q=>k w s' σ' d x q) λZ Y e=>e
theorem gU{t Q P}(h:Wp A t (Iu σ st s Q) s)(k:∀ws s' σ' d vs,Step σ st s σ' d s'->cf σ' d.length s' vs ws->Q vs d->P ws s'):Wp A t P s :=
 JB h (λw s' p=>p.casesOn λσ' d x v a q=>k w s' σ' d v x a q) λZ Y e=>e
end
theorem ec{t}(x:Step σ st s σ' d s')(h:Wp A t (PV σ' d s' Q) s'):Wp A t (PV σ st s Q) s':=bH h λw c a st₂ v y e q=>⟨a,st₂,x.trans y,v,e,q⟩
theorem sh{t Q}(x:Step σ st s σ' d s')(h:Wp A t (PB σ' d s' Q) s'):Wp A t (PB σ st s Q) s':=dH h λw c a st₂ y q=>⟨a,st₂,x.trans y,q⟩
theorem dc{t Q P E}(h:Wp A t (PF F σ st s Q) s)(k:∀f s' σ' a d g,c8 (· =F.L) F.m σ st s σ' d s'->dA F σ' d.length a s'->RF σ' d.length s' g f->Q g a d->P f s'):JH (Jz W.prog W.w) A t P E s :=
 JB h (λw s' p=>p.casesOn λσ' a d x fr g c q=>k w s' σ' a d g x fr c q) λZ Y e=>e.elim
theorem h8{t Q}(x:c8 (· =F.L) F.m σ st s σ' d s')(h:Wp A t (PF F σ' d s' Q) s'):Wp A t (PF F σ st s Q) s':=dc h λw c a lc₂ st₂ g y fr e q=>⟨a,lc₂,st₂,x.trans y,fr,g,e,q⟩
variable {QB:Bool->St->Prop}{z:Fl->Lc->St->Prop}
theorem Pre.refl{X σ s}(p:Pre F σ lc st s):bO X σ st s σ st s:=.refl p.i p.r
theorem Pre.tk{X σ s}(p:Pre F σ lc st s):bO X σ st s σ st {s with toks:=s.toks+1}:=bT p.i p.r (JC _)
mutual
theorem Dh{i k pos}(h:Q (.i i) st):cx A F (.Constant (.int i) k pos) lc st Q:=λZ Y p=>wpAny_Constant_int ⟨_,_,p.tk,.i i,⟨_,rfl⟩,h⟩
theorem yA{x k pos}(h:Q (.f x) st):cx A F (.Constant (.float x) k pos) lc st Q:=λZ Y p=>wpAny_Constant_float ⟨_,_,p.tk,.f x,⟨_,rfl⟩,h⟩
end
theorem sS{x k pos}(h:Q (.s x 0) st):cx A F (.Constant (.str x) k pos) lc st Q:=λZ Y p=>PW ⟨_,_,p.tk,.s x 0,⟨_,rfl,λq=>absurd rfl q⟩,h⟩
theorem Aq{k pos}(h:Q .n st):cx A F (.Constant .none k pos) lc st Q:=λZ Y p=>wpAny_Constant_none ⟨_,_,p.refl,.n,rfl,h⟩
theorem Aw{b k pos}(h:Q (.b b) st):cx A F (.Constant (.bool b) k pos) lc st Q:=λZ Y p=>wpAny_Constant_bool ⟨_,_,p.refl,.b b,rfl,h⟩
noncomputable def wK:V->Option Value
 |.v w=>Jh w
 |.g b=>Jh b.val
 |_=>none
theorem tN{v w}(h:wK v=Jh w)(σ:Sg)(n:Nat)(s:Js):RV σ n s v w:=by
 cases v with
 |v u=>cases h;exact rfl
 |g b=>cases h;exact rfl
 |_=>cases h
mutual
theorem mv{l r op pos}(h:cx A F l lc st λa d=>cx A F r lc d λb st₂=>cE A (Mw op) a b st₂ Q):cx A F (.BinOp l op r pos) lc st Q :=
 λσ s p=>wpAny_BinOp (bH (h σ s p) λu s₁ f d a e o i=>bH (i f s₁ (p.step e)) λw k g st₂ b c q j=>ec (e.trans c) (j g k u w (o.step e.rel c) q c.inv c.rel))
theorem sT{l r op pos}(v:PK op r=false)(h:cx A F l lc st λa d=>cx A F r lc d λb st₂=>cE A (KJ op) a b st₂ Q):cx A F (.Compare l [op] [r] pos) lc st Q :=
 λσ s p=>wpAny_Compare1 (bH (h σ s p) λu s₁ f d a e o i=>bH (i f s₁ (p.step e)) λw k g st₂ b c q j=>ec (e.trans c) (j g k u w (o.step e.rel c) q c.inv c.rel)) v
end
theorem oC{b}(h:QB b st):wx A (.b b) st QB:=λZ Y w e i r=>by cases e;exact NZ ⟨_,_,.refl i r,h⟩
mutual
theorem wJ{e}(g:Sj e F.env (eval e F.env)=(do let v <-eval e F.env;Pf e.pos;MQ [v] (TX v)))(h:cx A F e lc st λv a=>wx A v a QB):kT A F e lc st QB :=
 λσ s p=>isTrue_plain (bH (h σ s p) λw s₁ d a v c i f=>sh c (f d s₁ w i c.inv c.rel)) g
theorem Cj{e pos}(h:kT A F e lc st λb=>QB (!b)):kT A F (.UnaryOp .Not e pos) lc st QB :=
 λσ s p=>isTrue_not (dH (h σ s p) λb s₁ c a f d=>⟨c,a,f,d⟩)
theorem rW{l r op pos}(E:PK op r=false)(h:cx A F l lc st λa e=>cx A F r lc e λb st₂=>cE A (KJ op) a b st₂ λc f=>wx A c f QB):kT A F (.Compare l [op] [r] pos) lc st QB :=
 λσ s p=>SD (bH (h σ s p) λu s₁ j e a g C q=>bH (q j s₁ (p.step g)) λw y k st₂ b d D v=>bH (v k y u w (C.step g.rel d) D d.inv d.rel) λz B o f c i hc x=>sh ((g.trans d).trans i) (x o B z hc i.inv i.rel)) E
end
structure Br(b:Bool)(X Y:Prop):Prop where
 t:b=true->X
 f:b=false->Y
mutual
theorem all_nil{op}(h:QB (op == .And) st):tG A F op [] lc st QB:=λZ Y p=>by
 cases op with
 |And=>exact SF ⟨_,_,p.refl,h⟩
 |Or=>exact wpAny_allTrue_Or_nil ⟨_,_,p.refl,h⟩
theorem all_cons{op e es}(h:kT A F e lc st λb a=>Br (b == (op == .And)) (tG A F op es lc a QB) (QB b a)):tG A F op (e::es) lc st QB:=λσ s p=>by
 have k:=fun(b:Bool) s₁ c a (d:Step σ st s c a s₁) (g:tG A F op es lc a QB)=>sh d (g c s₁ (p.step d));cases op with
 |And=>exact OI (dH (h σ s p) λb s₁ c a d f=>by cases b with | true=>exact k true s₁ c a d (f.1 rfl) | false=>exact⟨c,a,d,f.2 rfl⟩)
 |Or=>exact wpAny_allTrue_Or_cons (dH (h σ s p) λb s₁ c a d f=>by cases b with | false=>exact k false s₁ c a d (f.1 rfl) | true=>exact⟨c,a,d,f.2 rfl⟩)
theorem zu{op es pos}(h:tG A F op es lc st QB):kT A F (.BoolOp op es pos) lc st QB:=λσ s p=>Tw (h σ s p)
end
theorem yy{test body orelse pos}(h:kT A F test lc st λb a=>Br b (cx A F body lc a Q) (cx A F orelse lc a Q)):cx A F (.IfExp test body orelse pos) lc st Q :=
 λσ s p=>wpAny_IfExp (dH (h σ s p) λb s₁ d a c e=>by
  cases b with
  |true=>exact ec c (e.1 rfl d s₁ (p.step c))
  |false=>exact ec c (e.2 rfl d s₁ (p.step c)))
inductive Ek where
 |star | slice (l u k:Option Expr) | comp | set | tst | call0 | tup | lst | oth
noncomputable def kE:Expr->Ek
 |.Starred ..=>.star
 |.Slice l u k Z=>.slice l u k
 |.ListComp ..=>.comp
 |.SetComp ..=>.comp
 |.DictComp ..=>.comp
 |.Set ..=>.set
 |.Name ..=>.tst
 |.Call Z a c Y=>match a with
  |[]=>match c with
   |[]=>.call0
   |_=>.tst
  |_=>.tst
 |.Attribute ..=>.tst
 |.Subscript ..=>.tst
 |.Constant ..=>.tst
 |.BinOp ..=>.tst
 |.Tuple ..=>.tup
 |.List ..=>.lst
 |_=>.oth
noncomputable def bX(e:Expr):Bool:=match kE e with
 |.star=>false
 |_=>true
noncomputable def f6(e:Expr):Bool:=match kE e with
 |.slice ..=>false
 |_=>true
noncomputable def ef(e:Expr):Bool:=match kE e with
 |.comp=>false
 |_=>true
noncomputable def iS(e:Expr):Bool:=match kE e with
 |.set=>false
 |_=>true
noncomputable def plainT(e:Expr):Bool:=match kE e with
 |.tst=>true
 |.call0=>true
 |_=>false
noncomputable def fc(e:Expr):Bool:=match kE e with
 |.call0=>false
 |_=>true
theorem cz(pos:UL)(env:Env):∀ {es:List Expr},es.all bX=true->backTo pos (Ri es env)=es.map λe=>(false,eval e env)
 |[],Z=>rfl
 |e::es,h=>by
  simp only[NL,KV] at h;have a:Ri (e::es) env=(false,eval e env)::Ri es env:=by
   cases e <;> first | rfl | exact ft h.1
  refine(a).symm▸?_;refine(Ke).symm▸?_;refine((cz pos env h.2))▸?_
  rfl
mutual
theorem args_nil{Q}(h:Q [] st):eJ A F [] lc st Q:=λσ s p=>Pe ⟨_,_,p.refl,[],rfl,h⟩
theorem args_cons{e es Q}(h:cx A F e lc st λv a=>eJ A F es lc a λvs st₂=>Q (v::vs) st₂):eJ A F (e::es) lc st Q :=
 λσ s p=>O0 (bH (h σ s p) λw s₁ f a v c q i=>gU (i f s₁ (p.step c)) λws o g st₂ vs d k j=>⟨g,st₂,c.trans d,v::vs,⟨w,ws,rfl,q.step c.rel d,k⟩,j⟩)
end
theorem yw{es k pos}(i:es.all bX=true)(h:eJ A F es lc st λvs d=>vs.length<=sizeLine/\Q (.t vs) d):cx A F (.Tuple es k pos) lc st Q:=by
 intro σ s p;refine wpAny_Tuple ?_;refine(cz pos F.env i).symm▸?_;refine gU (h σ s p) λws s₁ g d vs a f ⟨hz,q⟩=>⟨by rw[f.len];exact hz,?_⟩
 have y:=d8 (X:=de) (h':=s₁.heap.push (Kd.tup.obj ws.toArray 0)) (k:=s₁.toks) a.inv a.rel (Jl _) (by rw[JA];exact JL _) (λc y e=>Jm _ e) (Jl _);exact⟨_,_,a.trans y,.t vs,⟨_,ws.toArray,0,rfl,.inr rfl,Ju _ rfl,by rw[Ln,f.len];exact hz,f.step a.rel y⟩,q⟩
theorem Ar{es pos}(i:es.all bX=true)(h:eJ A F es lc st λvs a=>vs.length<=sizeLine/\Q (.r a.length) (a++[.list vs])):cx A F (.List es pos) lc st Q:=by
 intro σ s p;refine wpAny_List ?_;refine(cz pos F.env i).symm▸?_;refine gU (h σ s p) λws s₁ g a vs d f ⟨hz,q⟩=>⟨by rw[f.len];exact hz,?_⟩
 have y:=dY (X:=de) (h':=s₁.heap.push (Kd.lst.obj ws.toArray 0)) (k:=s₁.toks) (o:=.list vs) d.inv d.rel (Jl _) (λc y e=>Jm _ e) (by rw[JA];exact JC _) (Jl _)
  (λx=>⟨ws.toArray,0,Ju _ rfl,by rw[Ln,f.len];exact hz,f.mono x d.rel.apart⟩) (by intro _ _ _ q;cases q)
 exact⟨_,_,d.trans y,.r a.length,⟨by rw[Ji];exact JL _,congrArg J3 (if_pos rfl).symm⟩,q⟩
end
section
variable {A:Around}{F:cU}{lc:Lc}{d:Lc}{st:St}{a:St}{s:Js}{s':Js}{σ:Sg}{σ':Sg}{Q:Fl->Lc->St->Prop}
theorem dA.jV{n}(f:dA F σ n lc s)(r:Rel σ st s)(e:n=st.length):Apart (· =F.L) σ st.length:=λb h=>⟨λq=>f.offz (q▸h),r.zoff b h⟩
theorem RV.A1{v w}(h:RV σ st.length s v w)(r:Rel σ st s)(f:dA F σ st.length lc s)(x:bO (· =F.L) σ st s σ' a s'):RV σ' a.length s' v w:=RV.mono x.x (f.jV r rfl) v w h
theorem fJ{x v w P}(T:bK)(p:Pre F σ lc st s)(B:F.kd x=Jh .local)(G:RV σ st.length s v w)(h:∀s',bO (· =F.L) σ st s σ st s'->dA F σ st.length (lc.set x v) s'->P () s'):Wp A (storeName F.env x w) P s:=by
 obtain⟨m,C,e⟩:=p.f.ns;refine wpAny_storeName_local B C (λh' D E=>?_) (by refine(p.f.kind).symm▸?_;rfl);have y:=eV (X:=(· =F.L)) (k:=s.toks+1) T p.i p.r p.f.above rfl p.f.offz p.f.offh E (JC _);have c:=p.f.jV p.r rfl;refine h _ y ⟨p.f.above,⟨_,D,λz u g a=>?_⟩,p.f.offz,p.f.offh,p.f.kind,p.f.glob,p.f.bi,p.f.cells⟩;rw[Lc.fh] at a;by_cases q:z=x
 ·subst q;rw[beq_self_eq_true,if_pos rfl] at a;cases a;exact⟨w,if_pos rfl,RV.mono y.x c v w G⟩
 ·rw[if_neg (by simpa using q)] at a;obtain⟨d,j,o⟩:=e z u g a;exact⟨d,(if_neg q).trans j,RV.mono y.x c u d o⟩
theorem pE(h:Q .next lc st):bW A F [] lc st Q:=λσ s p=>Q1 ⟨_,_,_,p.refl.gQ,p.f,.next,rfl,h⟩
theorem bP{c l}(h:dN A F c lc st λf a d=>match f with | .next=>bW A F l a d Q | f=>Q f a d):bW A F (c::l) lc st Q :=
 λσ s p=>wpAny_execs_cons (dc (h σ s p) λf s₁ i a d g e fr j q=>by
  cases g with
  |next=>cases j;exact h8 e (q i s₁ ⟨e.inv,e.rel,fr⟩)
  |brk=>cases j;exact⟨i,a,d,e,fr,.brk,rfl,q⟩
  |cont=>cases j;exact⟨i,a,d,e,fr,.cont,rfl,q⟩
  |ret v=>obtain⟨w,rfl,hw⟩:=j;exact⟨i,a,d,e,fr,.ret v,⟨w,rfl,hw⟩,q⟩)
theorem De{x p' pos op value v0}(T:bK)(j:F.kd x=Jh .local)(k:lc.lookup x=Jh v0)(h:cx A F value lc st λv c=>cE A (Pl op) v0 v c λu st₂=>Q .next (lc.set x u) st₂):dN A F (.AugAssign (.Name x p') op value pos) lc st Q:=by
 intro σ s p;refine Jg λJ=>?_;obtain⟨m,G,e⟩:=p.f.ns;obtain⟨i,D,E⟩:=e x v0 j k;refine J ?_;exact wpAny_AugAssign_Name (Lr p.f.kind j G D (bH (h σ s p) λw s₁ g c v a k q=>bH (q g s₁ i w (E.step p.r a) k a.inv a.rel) λz B o st₂ u d H q =>
  fJ T (p.step (a.trans d)) j H λC y fr=>⟨_,_,_,((a.trans d).hO.trans y).gQ,fr,.next,rfl,q⟩))
theorem jS{e pos}(h:cx A F e lc st λv a=>Q (.ret v) lc a):dN A F (.Return (Jh e) pos) lc st Q :=
 λσ s p=>wpAny_Return_some (bH (h σ s p) λw s₁ d a v c g q=>⟨_,_,_,c.hO.gQ,(p.step c).f,.ret v,⟨w,rfl,g⟩,q⟩)
mutual
theorem mq{pos}(h:Q (.ret .n) lc st):dN A F (.Return none pos) lc st Q:=λσ s p=>wpAny_Return_none ⟨_,_,_,p.refl.gQ,p.f,.ret .n,⟨_,rfl,rfl⟩,h⟩
theorem Ap{pos}(h:Q .next lc st):dN A F (.Pass pos) lc st Q:=λσ s p=>wpAny_Pass ⟨_,_,_,p.refl.gQ,p.f,.next,rfl,h⟩
theorem yu{pos}(h:Q .brk lc st):dN A F (.Break pos) lc st Q:=λσ s p=>wpAny_Break ⟨_,_,_,p.refl.gQ,p.f,.brk,rfl,h⟩
theorem rf{pos}(h:Q .cont lc st):dN A F (.Continue pos) lc st Q:=λσ s p=>wpAny_Continue ⟨_,_,_,p.refl.gQ,p.f,.cont,rfl,h⟩
theorem Fi{test body orelse pos}(h:kT A F test lc st λb c=>Br b (bW A F body lc c Q) (bW A F orelse lc c Q)):dN A F (.If test body orelse pos) lc st Q :=
 have d {σ σ' a s s' t} (x:bO (· =F.L) σ st s σ' a s') (h:Wp A t (PF F σ' a s' Q) s'):Wp A t (PF F σ st s Q) s':=h8 x.gQ h
 λσ s p=>wpAny_If (dH (h σ s p) λb s₁ f c e g=>by
  obtain⟨i,j⟩:=g;cases b with
  |true=>exact d e.hO (i rfl f s₁ (p.step e))
  |false=>exact d e.hO (j rfl f s₁ (p.step e)))
end
theorem lj{e pos}(hi:Nt F.env=false)(g:swapsWith e none pos.line F.env=pure false)(h:cx A F e lc st λZ a=>Q .next lc a):dN A F (.Expr e pos) lc st Q :=
 λσ s p=>wpAny_Expr_any (bH (h σ s p) λw s₁ d a v c i q=>⟨_,_,_,c.hO.gQ,(p.step c).f,.next,rfl,q⟩) hi g
end
noncomputable def cc(x y:Str):Bool:= !(PS x y 0 x.length 1).isEmpty
noncomputable def sgn(x:Str):List V:=x.cps.toList.map λc=>.s ⟨#[c]⟩ 0
noncomputable def Hb:V->Bool
 |.v u=>u == .none
 |_=>false
section
variable (A:Around)
noncomputable def addW(a b:V)(st:St)(Q:V->St->Prop)(E:Prop):Prop:=match a with
 |.i x=>match b with | .i y=>Q (.i (x+y)) st | _=>E
 |.s x Z=>match b with | .s y _=>x.length+y.length<=sizeLine/\Q (.s (x++y) 0) st | _=>E
 |_=>E
noncomputable def G5(a b:V)(st:St)(Q:V->St->Prop)(E:Prop):Prop:=match b with
 |.i y=>match a with | .i x=>IntMulOk x y/\Q (.i (x*y)) st | .s x _=>Vw x y/\Q (.s (Od x y) 0) st | _=>E
 |_=>E
noncomputable def m8(a b:V)(f:Int->Int->Prop)(E:Prop):Prop:=match a with
 |.i x=>match b with | .i y=>f x y | _=>E
 |_=>E
noncomputable def Ft(op:Nv)(a b:V)(st:St)(Q:V->St->Prop):Prop:=match op with
 |.Add=>addW a b st Q (cE A (Mw .Add) a b st Q)
 |.Sub=>m8 a b (λx y=>Q (.i (x-y)) st) (cE A (Mw .Sub) a b st Q)
 |.Mult=>G5 a b st Q (cE A (Mw .Mult) a b st Q)
 |.Mod=>m8 a b (λx y=>y≠0/\Q (.i (x.fmod y)) st) (cE A (Mw .Mod) a b st Q)
 |.FloorDiv=>m8 a b (λx y=>y≠0/\Builtin.divisionGoesByPylong x y=false/\Q (.i (x.fdiv y)) st) (cE A (Mw .FloorDiv) a b st Q)
 |op=>cE A (Mw op) a b st Q
noncomputable def Gb(a b:V)(f:Int->Int->Prop)(g:Str->Str->Prop)(E:Prop):Prop:=match a with
 |.i x=>match b with | .i y=>f x y | _=>E
 |.s x Z=>match b with | .s y _=>g x y | _=>E
 |_=>E
noncomputable def Fm(op:CmpOp)(a b:V)(st:St)(Q:V->St->Prop):Prop:=match op with
 |.Lt=>m8 a b (λx y=>Q (.b (decide (x<y))) st) (cE A (KJ .Lt) a b st Q)
 |.Gt=>m8 a b (λx y=>Q (.b (decide (y<x))) st) (cE A (KJ .Gt) a b st Q)
 |.LtE=>m8 a b (λx y=>Q (.b (decide (x<=y))) st) (cE A (KJ .LtE) a b st Q)
 |.GtE=>m8 a b (λx y=>Q (.b (decide (x ≥ y))) st) (cE A (KJ .GtE) a b st Q)
 |.Eq=>Gb a b (λx y=>Q (.b (x == y)) st) (λx y=>Q (.b (x == y)) st) (cE A (KJ .Eq) a b st Q)
 |.NotEq=>Gb a b (λx y=>Q (.b (x != y)) st) (λx y=>Q (.b (x != y)) st) (cE A (KJ .NotEq) a b st Q)
 |.In=>Gb a b (λZ Y=>cE A (KJ .In) a b st Q) (λy x=>Q (.b (cc x y)) st) (cE A (KJ .In) a b st Q)
 |op=>cE A (KJ op) a b st Q
variable {A}{st:St}{Q:V->St->Prop}{a b:V}
theorem cA{t f}(h:m8 a b f (cE A t a b st Q))(k:∀x y,f x y->∀σ s k l,Inv s->Rel σ st s->Wp A (t (.int x k) (.int y l)) (PV σ st s Q) s):cE A t a b st Q:=by
 cases a with
 |i x=>cases b with
  |i y=>exact λσ s Z Y c d i r=>by obtain⟨m,e⟩:=c;obtain⟨l,g⟩:=d;subst e g;exact k x y h σ s m l i r
  |_=>exact h
 |_=>exact h
theorem mH{t x y a b}(h:∀σ s k l,Inv s->Rel σ st s->Wp A (t (.str x k) (.str y l)) (PV σ st s Q) s):cE A t (.s x a) (.s y b) st Q :=
 λσ s Z Y c d i r=>by obtain⟨k,e,_⟩:=c;obtain⟨l,f,_⟩:=d;subst e f;exact h σ s k l i r
theorem gM{σ s c}(i:Inv s)(r:Rel σ st s)(h:Q (.b c) st):PV σ st s Q (.bool c) s:=⟨_,_,.refl i r,.b c,rfl,h⟩
mutual
theorem vo{σ s c k}(i:Inv s)(r:Rel σ st s)(h:Q (.i c) st)(a:s.toks<=k){t}:PV σ st s Q (.int c t) {s with toks:=k}:=⟨_,_,bT i r a,.i c,⟨_,rfl⟩,h⟩
theorem sg{σ s c k}(i:Inv s)(r:Rel σ st s)(h:Q (.s c 0) st)(a:s.toks<=k){t}:PV σ st s Q (.str c t) {s with toks:=k}:=⟨_,_,bT i r a,.s c 0,⟨_,rfl,λq=>absurd rfl q⟩,h⟩
end
mutual
theorem tn{op}(h:Ft A op a b st Q):cE A (Mw op) a b st Q:=by
 cases op with
 |Add =>
  cases a with
  |i x=>exact cA (t:=Mw .Add) (f:=λx y=>Q (.i (x+y)) st) h λx y h σ s k l i r=>add_int (vo i r h (JC _))
  |s x t=>cases b with | s y u=>exact mH λσ s k l i r=>wpAny_toks (add_str (λt' tk g=>sg i r h.2 g) h.1) | _=>exact h
  |_=>exact h
 |Sub=>exact cA h λx y h σ s k l i r=>sub_int (vo i r h (JC _))
 |Mod=>exact cA h λx y h σ s k l i r=>mod_int h.1 (vo i r h.2 (JC _))
 |FloorDiv=>exact cA h λx y h σ s k l i r=>floordiv_int h.1 (vo i r h.2.2 (JC _)) (.inl h.2.1)
 |Mult =>
  cases b with
  |i y=>cases a with
   |i x=>exact cA (t:=Mw .Mult) (f:=λx y=>IntMulOk x y/\Q (.i (x*y)) st) h λx y h σ s k l i r=>mul_int (vo i r h.2 (JC _)) h.1
   |s x t=>exact λσ s Z Y c d i r=>by obtain⟨k,e,_⟩:=c;obtain⟨l,j⟩:=d;subst e j;exact wpAny_toks (SB.mul h.1 λt' k g=>sg i r h.2 g)
   |_=>exact h
  |_=>exact h
 |_=>exact h
theorem sY{op}(h:Fm A op a b st Q):cE A (KJ op) a b st Q:=by
 have d {a b E} (h:m8 a b (λZ Y=>E) E):E:=by
  cases a with
  |i x=>cases b with
   |i y=>exact h
   |_=>exact h
  |_=>exact h
 have c {A st Q a b t f g} (h:Gb a b f g (cE A t a b st Q)) (k:m8 a b f (cE A t a b st Q)->cE A t a b st Q) (l:∀x y,g x y->∀σ s k l,Inv s->Rel σ st s->Wp A (t (.str x k) (.str y l)) (PV σ st s Q) s):cE A t a b st Q:=by
  cases a with
  |i x=>exact k h
  |s x u=>cases b with | s y v=>exact mH (l x y h) | _=>exact h
  |_=>exact h
 cases op with
 |Lt=>exact cA h λx y h σ s k l i r=>lt_int (gM i r h)
 |Gt=>exact cA h λx y h σ s k l i r=>gt_int (gM i r h)
 |LtE=>exact cA h λx y h σ s k l i r=>P.le_int (gM i r h)
 |GtE=>exact cA h λx y h σ s k l i r=>P.ge_int (gM i r h)
 |Eq=>exact c h (λh=>cA h λx y h σ s k l i r=>eq_int (gM i r h)) λx y h σ s k l i r=>eq_str (gM i r h)
 |NotEq=>exact c h (λh=>cA h λx y h σ s k l i r=>ne_int (gM i r h)) λx y h σ s k l i r=>ne_str (gM i r h)
 |In=>exact c h d λx y h σ s k l i r=>P.in_str (gM i r h)
 |_=>exact h
end
end
theorem dP:sizeLine<2 ^ 62:=by decide
theorem Fh{n}(h:n<=sizeLine):(n:Int)<2 ^ 62 :=
 have a:n<2 ^ 62:=Kn h dP
 Int.lt_of_lt_of_le (Int.ofNat_lt.mpr (a)) (by decide)
theorem C6{n}(h:n<=sizeLine):(n:Int)<2 ^ 63:=Rx (Fh h) (by decide)
mutual
theorem Hg{k}{n:Nat}(h : -(n:Int)<=k)(hz:n<=sizeLine) : -(2 ^ 63)<=k:=Oo (Int.neg_le_neg (Oq (C6 hz))) h
theorem Fg{k:Int}{n}(h:k.toNat<n)(hz:n<=sizeLine):k<2 ^ 63:=Int.lt_of_le_of_lt (Int.self_le_toNat k) (C6 (Jn (Ku h) hz))
end
inductive d5(vs:List V)(k:Int)(R:V->Prop):Prop
 |mk (v:V) (j:Nat) (e:MY k vs.length=Jh j) (hk:vs[j]?=Jh v) (q:R v)
mutual
theorem da{e}(h:f6 e=true)(o i:Value):subscripted e false o i=operate [o,i] (Uu o i):=by
 cases e <;> first | rfl | exact ft h
theorem CZ{k n}(c:0<=k)(h:k.toNat<n):MY k n=Jh k.toNat:=by
 unfold MY;have a {d x0} (c:((M8 x0)<d)):(x0<((d:Nat):Int)):=DM 18 11 (toN _) c;simp [(show ¬k<0 from by exact lr 18 10 c),(show k<n from by exact a h),c]
end
section
variable {A:Around}{F:cU}{lc:Lc}{st:St}{Q:V->St->Prop}
theorem d5.at{vs k R v}(c:0<=k)(a:vs[k.toNat]?=Jh v)(q:R v):d5 vs k R:=⟨v,_,CZ c (List.getElem?_eq_some_iff.mp a).1,a,q⟩
structure Idx(k:Int)(n j:Nat):Prop where
 lo : -(n:Int)<=k
 hi:k<n
 at_:0<=k/\j=k.toNat∨k<0/\j=(k+n).toNat
set_option tactic.hygienic true in
theorem sF{k n j}(h:MY k n=Jh j):Idx k n j:=by
 unfold MY at h;dsimp only at h;by_cases a:k<0
 ·rw[if_pos a] at h
  split at h
  ·rename_i q
   simp only[KV,decide_eq_true_eq] at q;obtain rfl:=JP h;exact⟨by exact lr 18 12 q.1,by exact tH 18 13 q.2,.inr ⟨a,rfl⟩⟩
  ·cases h
 ·rw[if_neg a] at h
  split at h
  ·rename_i q
   simp only[KV,decide_eq_true_eq] at q;obtain rfl:=JP h;exact⟨by exact tH 18 14 a,q.2,.inl ⟨q.1,rfl⟩⟩
  ·cases h
theorem Idx.fit{k n j}(h:Idx k n j)(hz:n<=sizeLine) : -(2 ^ 63)<=k/\k<2 ^ 63:=by
 exact⟨Hg h.lo hz,Rx h.hi (C6 hz)⟩
noncomputable def Dw(A:Around)(o k:V)(st:St)(Q:V->St->Prop):Prop:=∀c a,f6 a=true->∀σ s u w,RV σ st.length s o u->RV σ st.length s k w->Inv s->Rel σ st s->Wp A (VE c a u w) (PV σ st s Q) s
theorem Df{value slice pos}(v:f6 slice=true)(h:cx A F value lc st λo c=>cx A F slice lc c λk st₂=>Dw A o k st₂ Q):cx A F (.Subscript value slice pos) lc st Q :=
 λσ s p=>Subscript_ (bH (h σ s p) λu s₁ e c o d r g=>bH (g e s₁ (p.step d)) λw j f st₂ k a q i=>ec (d.trans a) (i value slice v f j u w (r.step d.rel a) q a.inv a.rel))
noncomputable def wu(o:Option O)(f:List V->Prop)(E:Prop):Prop:=match o with
 |none=>E
 |some o=>match o with
  |.list vs=>f vs
  |_=>E
theorem gf{o f E}(h:wu o f E)(k:∀vs,o=Jh (.list vs)->f vs->E):E:=by
 cases o with
 |none=>exact h
 |some o=>cases o with
  |list vs=>exact k vs rfl h
  |_=>exact h
noncomputable def Fc(A:Around)(o k:V)(st:St)(Q:V->St->Prop):Prop:=match k with
 |.i k=>match o with
  |.s x Z=>x.length<=sizeLine/\d5 (sgn x) k λv=>Q v st
  |.c d vs=>match d with
   |.cls Z=>Dw A o (.i k) st Q
   |_=>d5 vs k λv=>Q v st
  |.r h=>wu st[h]? (λvs=>d5 vs k λv=>Q v st) (Dw A o (.i k) st Q)
  |_=>Dw A o (.i k) st Q
 |k=>Dw A o k st Q
theorem sL{o k}(h:Fc A o k st Q):Dw A o k st Q:=by
 have y {σ s p f a items m k u vs} (D:f6 f=true) (R:s.heap.get? a=Jh (Kd.lst.obj items m)) (hz:items.size<=sizeLine) (E:cf σ st.length s vs items.toList) (i:Inv s) (r:Rel σ st s) (g:d5 vs k λv=>Q v st) :
   Wp A (VE p f (.ref a) (.int k u)) (PV σ st s Q) s:=by
  refine Jg λS=>?_;obtain⟨v,j,e,J,q⟩:=g;obtain⟨w,T,h2⟩:=E.get J;refine S ?_;rw[JZ] at T;have hl:=E.len;rw[Jx] at hl;rw[<-hl] at e;have x:=sF e;have G:=x.fit hz;have M:s.heap.IsList a items:=⟨_,R,rfl,m,rfl⟩
  have fin:PV σ st s Q w s:=⟨_,_,.refl i r,v,h2,q⟩
  refine S7 M.typeIs slot_list_getitem.lookup (x.at_.elim (λz=>TU M z.1 G.2 (z.2▸T) fin) λz=>wpAny_getItem_list_neg M z.1 x.lo G.1 (z.2▸T) fin) (da D _ _)
 cases k with
 |i k =>
  cases o with
  |s x t =>
   obtain⟨hz,v,j,B,J,q⟩:=h;rintro p f D σ s _ _ ⟨u,e,_⟩ ⟨z,H⟩ i r;subst e H;unfold sgn at J;rw[JY,LZ] at J;refine Jg λS=>?_;obtain⟨c,hc,rfl⟩:=J;refine S ?_;rw[JZ] at hc;have B:=(show(sgn x).length=x.length from by unfold sgn;rw[Jt,Jx];rfl)▸B;have G:=(sF B).fit hz;exact S7 (NN s x u) PySem.F.slot_str_getitem.lookup (P.getItem_str (c:=c) (by simp only[OG,decide_eq_false_iff_not];exact pQ 18 15 G.2 G.1) (by refine(B).symm▸?_;exact hc) (sg i r q (JC _))) (da D _ _)
  |c d vs =>
   cases d with
   |lst=>exact λp f D σ s Z Y U X i r=>by obtain⟨a,items,m,e,_,R,hz,E⟩:=U;obtain⟨z,H⟩:=X;subst e H;exact y D R hz (cf.wo (k:=.lst) E) i r h
   |tup =>
    rintro p f D σ s _ _ ⟨a,items,m,e,_,R,hz,E⟩ ⟨z,H⟩ i r;subst e H;refine Jg λS=>?_;obtain⟨v,j,B,J,q⟩:=h;obtain⟨w,T,h2⟩:=E.get J;refine S ?_;rw[JZ] at T;have B:=((Jx▸(E.len))).symm▸B;have G:=(sF B).fit hz;have ht:IsTup s.heap a items:=⟨_,R,rfl,m,rfl⟩
    exact S7 ht.typeIs slot_tuple_getitem.lookup (getItem_tuple ht G.1 G.2 B T ⟨_,_,.refl i r,v,h2,q⟩) (da D _ _)
   |cls C=>exact h
  |r j =>
   exact gf h λvs e h p f D σ s Z Y aa ab i r=>by
    obtain⟨hj,e1⟩:=aa;obtain⟨z,H⟩:=ab;subst e1 H;refine Jg λS=>?_;obtain⟨items,m,R,hz,E⟩:=r.at_ j _ e;refine S ?_;exact y D R hz E i r h
  |_=>exact h
 |_=>exact h
end
section
variable {A:Around}{F:cU}{lc:Lc}{st:St}{Q:V->St->Prop}{QB:Bool->St->Prop}{z:Fl->Lc->St->Prop}
noncomputable def two(c a:St->Prop)(b:Bool)(st:St):Prop:=Br b (c st) (a st)
noncomputable def F6(A:Around)(a:V)(st:St)(d c:St->Prop):Prop:=match a with
 |.v w=>match w with
  |.bool b=>Br b (d st) (c st)
  |.none=>c st
  |_=>wx A a st (two d c)
 |.i x=>Br (x != 0) (d st) (c st)
 |.s x Z=>x.length<=sizeLine/\Br (x.length != 0) (d st) (c st)
 |.r h=>wu st[h]? (λvs=>Br (!vs.isEmpty) (d st) (c st)) (wx A a st (two d c))
 |_=>wx A a st (two d c)
theorem ni{a KT KF}(h:F6 A a st KT KF):wx A a st (two KT KF):=by
 cases a with
 |v w=>cases w with
  |bool b=>exact oC h
  |none =>
   have c {QB} (h:QB false st):wx A .n st QB:=λZ Y w e i r=>by cases e;exact truthy_none ⟨_,_,.refl i r,h⟩
   exact c ⟨λq=>Jq q,λZ=>h⟩
  |_=>exact h
 |i x=>exact λσ s Z d i r=>by obtain⟨t,e⟩:=d;subst e;exact P.truthy_int ⟨_,_,.refl i r,h⟩
 |s x u =>
  rintro σ s w ⟨t,e,_⟩ i r;subst e;have:=Kn h.1 dP;exact P.truthy_str (by omega) ⟨_,_,bT i r (JG _ 2),by
   refine(show((x.length:Int) != 0)=(x.length != 0) by rw[LM];simp).symm▸?_;exact h.2⟩
 |r j =>
  refine gf h λvs e h σ s w g i r=>?_;obtain⟨y,k⟩:=g;subst k;obtain⟨items,m,o,hz,p⟩:=r.at_ j _ e;have f:=p.len;have f:=Jx▸f;refine wpAny_truthy_list ⟨_,o,rfl,m,rfl⟩ (by have:=dP;omega) ⟨_,_,bT i r (JG _ 2),?_⟩;refine(show items.isEmpty=vs.isEmpty by rw[LM,PH,List.isEmpty_iff_length_eq_zero,f]).symm▸?_;exact h
 |_=>exact h
theorem vD{e env}(h:plainT e=true):Sj e env (eval e env)=(do let v <-eval e env;Pf e.pos;MQ [v] (TX v)):=by
 cases e <;> first | rfl | exact ft h
noncomputable def Ip(A:Around)(op:Nv)(a b:V)(st:St)(Q:V->St->Prop):Prop:=match op with
 |.Add=>addW a b st Q (cE A (Pl .Add) a b st Q)
 |op=>cE A (Pl op) a b st Q
theorem nP{op a b}(h:Ip A op a b st Q):cE A (Pl op) a b st Q:=by
 cases op with
 |Add =>
  cases a with
  |i x=>exact cA (t:=Pl .Add) (f:=λx y=>Q (.i (x+y)) st) h λx y h σ s k l i r=>iadd_int (vo i r h (JC _))
  |s x t=>cases b with
   |s y u=>exact mH λσ s k l i r=>gP (iadd_str (λt' tk c=>sg i r h.2 c) h.1)
   |_=>exact h
  |_=>exact h
 |_=>exact h
theorem jZ{e t l env}(h:ef e=true):swapsWith e t l env=pure false:=by
 cases e <;> first | rfl | exact ft h
structure Gl(gl:List (Str×V)):Prop where
 T:bK
 at_:∀x v,gl.lookup x=Jh v->∃w,wK v=Jh w/\(W.mg x=Jh w∨(W.mg x=none/\W.mb x=Jh w))
noncomputable def pC:O->Option V
 |.cell v=>v
 |_=>none
noncomputable def uG(F:cU)(x:Str)(st:St)(Q:V->St->Prop)(E:Prop):Prop:=match F.ce.lookup x with
 |some h=>match st[h]?.bind pC with
  |some v=>Q v st
  |none=>E
 |none=>E
noncomputable def xF(F:cU)(d:List (Str×V))(x:Str)(lc:Lc)(st:St)(Q:V->St->Prop)(E:Prop):Prop:=match x == ("__debug__":Str) with
 |true=>E
 |false=>match F.kd x with
  |some .local=>match lc.lookup x with
   |some v=>Q v st
   |none=>E
  |some .globalImplicit=>match d.lookup x with
   |some v=>Q v st
   |none=>E
  |some .cell=>uG F x st Q E
  |some .free=>match x == ("__classdict__":Str) with
   |true=>E
   |false=>uG F x st Q E
  |_=>E
variable (A F)(d:List (Str×V))(r:Sems)
variable {A F d r}
theorem cx.mono{e Q Q'}(h:cx A F e lc st Q)(k:∀v d,Q v d->Q' v d):cx A F e lc st Q':=λσ s p=>bH (h σ s p) λw s₁ c a v x f q=>⟨c,a,x,v,f,k v a q⟩
theorem kT.mono{e Q Q'}(h:kT A F e lc st Q)(k:∀v d,Q v d->Q' v d):kT A F e lc st Q':=λσ s p=>dH (h σ s p) λw s₁ c a x q=>⟨c,a,x,k w a q⟩
theorem eJ.mono{e Q Q'}(h:eJ A F e lc st Q)(k:∀v d,Q v d->Q' v d):eJ A F e lc st Q':=λσ s p=>gU (h σ s p) λw s₁ c a v x f q=>⟨c,a,x,v,f,k v a q⟩
theorem cE.mono{t a b Q Q'}(h:cE A t a b st Q)(k:∀v e,Q v e->Q' v e):cE A t a b st Q':=λσ s u w f hw i r=>bH (h σ s u w f hw i r) λw s₁ d c v x g q=>⟨d,c,x,v,g,k v c q⟩
theorem dN.mono{c Q Q'}(h:dN A F c lc st Q)(k:∀f l i,Q f l i->Q' f l i):dN A F c lc st Q':=λσ s p=>dc (h σ s p) λf s₁ e d a g x fr j q=>⟨e,d,a,x,fr,g,j,k g d a q⟩
theorem sr(G:Gl d){x pos}(h:xF F d x lc st Q (cx A F (.Name x pos) lc st Q)):cx A F (.Name x pos) lc st Q:=by
 have z {A F lc st Q x pos v w} (T:bK) (B:F.kd x=Jh .globalImplicit) (hd:(x == ("__debug__":Str))=false) (hw:wK v=Jh w) (D:W.mg x=Jh w) (h:Q v st):cx A F (.Name x pos) lc st Q :=
  λZ Y p=>Qv p.f.kind B (Calls.loadGlobal_global (by refine(p.f.glob).symm▸?_;exact p.i.glob T) D ⟨_,_,p.refl,v,tN hw _ _ _,h⟩) hd
 have u {A F lc st Q x pos v w} (T:bK) (B:F.kd x=Jh .globalImplicit) (hd:(x == ("__debug__":Str))=false) (hw:wK v=Jh w) (U:W.mg x=none) (D:W.mb x=Jh w) (h:Q v st):cx A F (.Name x pos) lc st Q :=
  λZ Y p=>Qv p.f.kind B (Calls.loadGlobal_builtin (by rw[p.f.glob];exact p.i.glob T) U (by rw[p.f.bi];exact p.i.blt T) D ⟨_,_,p.refl,v,tN hw _ _ _,h⟩) hd
 have c {E} (h:uG F x st Q E) (k:∀h v,F.ce.lookup x=Jh h->st[h]?=Jh (.cell (Jh v))->Q v st->E):E:=by
  have M {o v} (h:pC o=Jh v):o=.cell (Jh v):=by
   cases o <;> first | exact congrArg O.cell h | cases h
  unfold uG at h;cases e:F.ce.lookup x with
  |none=>rw[e] at h;exact h
  |some j =>
   have h:=e▸h;cases P:st[j]?.bind pC with
   |none=>simp only[P] at h;exact h
   |some v =>
    simp only[P] at h;obtain⟨o,H,J⟩:=Option.bind_eq_some_iff.mp P;exact k j v e (H.trans (congrArg Jh (M J))) h
 have g {σ s j v} (p:Pre F σ lc st s) (e:F.ce.lookup x=Jh j) (R:st[j]?=Jh (.cell (Jh v))):∃w,F.env.cells.lookup x=Jh (σ.a j)/\s.heap.IsCell (σ.a j) (Jh w)/\RV σ st.length s v w:=by
  refine Jg λzz=>?_;obtain⟨w,hw,q⟩:=p.r.at_ j _ R;obtain⟨y,P,q'⟩:=q v rfl;refine zz ?_;subst P;exact⟨y,(p.f.cells x j e).2,hw,q'⟩
 unfold xF at h;cases hd:x == ("__debug__":Str) with
 |true=>have h:=hd▸h;exact h
 |false =>
  rw[hd] at h;cases B:F.kd x with
  |none=>rw[B] at h;exact h
  |some k =>
   rw[B] at h;cases k with
   |«local» =>
    cases D:lc.lookup x with
    |none=>simp only[D] at h;exact h
    |some v =>
     have C (B:F.kd x=Jh .local) (hd:(x == ("__debug__":Str))=false) (D:lc.lookup x=Jh v) (h:Q v st):cx A F (.Name x pos) lc st Q:=by
      intro σ s p;refine Jg λzz=>?_;obtain⟨m,U,e⟩:=p.f.ns;obtain⟨w,H,J⟩:=e x v B D;refine zz ?_;exact Ng (Lr p.f.kind B U H ⟨_,_,p.refl,_,J,h⟩) hd
     simp only[D] at h;exact C B hd D h
   |globalImplicit =>
    cases D:d.lookup x with
    |none=>simp only[D] at h;exact h
    |some v =>
     simp only[D] at h;obtain⟨w,hw,q⟩:=G.at_ x v D;exact q.elim (λq=>z G.T B hd hw q h) λq=>u G.T B hd hw q.1 q.2 h
   |cell =>
    exact c h λj v e R q σ s p=>by
     obtain⟨w,H,J,S⟩:=g p e R;exact Ng (wpAny_loadName_cell p.f.kind B H J ⟨_,_,p.refl,v,S,q⟩) hd
   |free =>
    dsimp only at h;cases X:x == ("__classdict__":Str) with
    |true=>rw[X] at h;exact h
    |false =>
     rw[X] at h;exact c h λj v e R q σ s p=>by
      obtain⟨w,H,J,S⟩:=g p e R;exact Ng (wpAny_loadName_free p.f.kind B H J ⟨_,_,p.refl,v,S,q⟩ X) hd
   |_=>exact h
end
section
variable {A:Around}{F:cU}{lc:Lc}{σ:Sg}{σ':Sg}{st:St}{z:St}{s:Js}{s':Js}{Q:V->St->Prop}
theorem bO.fresh{X Y}(x:bO X σ st s σ' z s')(h:∀b,X b->Y b∨s.heap.objs.size<=b):bO Y σ st s σ' z s' :=
 ⟨⟨x.x.len,x.x.ext,x.x.new,x.x.z,x.x.znew,λb o a d c e=>x.x.keep b o a d c λq=>(h b q).elim e λu=>Jw _ (Jp (JE a) u),x.x.grow,x.x.tgrow⟩,x.inv,x.rel,x.gkeep,x.gdom,x.ggrow⟩
theorem any_false(es:List Expr)(env:Env):(es.map λe=>(false,eval e env)).any (·.1)=false:=by
 induction es with
 |nil=>rfl
 |cons e es a=>exact a
theorem dI{f es Q P}(h:eJ A F es lc st Q)(p:Pre F σ lc st s)(k:∀ws s' σ' z vs,Step σ st s σ' z s'->cf σ' z.length s' vs ws->Q vs z->P ⟨ws,[]⟩ s'):Wp A (evalArgs f true (es.map λe=>(false,eval e F.env)) []) P s:=by
 have a:=gU (h σ s p) k;cases es with
 |nil =>
  refine Jf (JB a (λvs s' h'=>Jf (Jk ?_)) λZ Y x=>x);refine JD ?_;exact Jf (Jk (Jf (Jk (Jk h'))))
 |cons e es=>exact OA a
inductive ClsAt(C N:Addr)(mN:Str->Option Value):Prop
 |mk (nm q:Str) (bs:List Value) (sn:List Str) (sub:List Value) (col:Option Bool) (dd:Option Addr) (k0 k1 k2 k3 k5:Option Value) (h:W.h₁.get? C=Jh (Tb nm q C N bs [.type "object"] true sn sub false col dd k0 k1 k2 k3 k5 "object.__new__")) (ns:W.h₁.Ns N mN) (ne:N≠KS)
inductive DA(C N:Addr)(mN:Str->Option Value)(h:Heap):Prop
 |mk (nm q:Str) (bs:List Value) (sn:List Str) (sub:List Value) (col:Option Bool) (dd:Option Addr) (k0 k1 k2 k3 k5:Option Value) (hC:h.get? C=Jh (Tb nm q C N bs [.type "object"] true sn sub false col dd k0 k1 k2 k3 k5 "object.__new__")) (ns:h.Ns N mN)
theorem ClsAt.now{C N mN}(c:ClsAt C N mN)(i:Inv s):DA C N mN s.heap:=by
 obtain⟨nm,q,bs,p,sub,a,d,f,g,j,k,o,h,e,ne⟩:=c;exact⟨nm,q,bs,p,sub,a,d,f,g,j,k,o,i.old.get_of_cls h (λq=>JT q),jg i.old e ne⟩
inductive Callee:V->Prop
 |g (b:Bi):Callee (.g b)
 |bm (b:Bm) (h:Nat) (hb:b.fn=true):Callee (.bm b h)
 |fn (a:Addr) (o:Obj) (fd:Mk) (ho:W.h₁.get? a=Jh o) (hc:o.cls≠.none) (hd:o.data=.func fd):Callee (.v (.ref a))
 |mach (C:Addr) (h:∀(A:Around) (s:Js) (P:Keeper->Js->Prop),Inv s->P .machine s->Wp A (Rm (.ref C)) P s):Callee (.v (.ref C))
 |o (o:Obj) (fd:Mk) (hd:o.data=.func fd):Callee (.o o)
theorem mE{C N mN}(c:ClsAt C N mN):Callee (.v (.ref C)) :=
 have a {A s P} (i:Inv s) (h:P .machine s):Wp A (Rm (.ref C)) P s:=by
  obtain⟨nm,q,bs,z,sub,f,k,r,u,w,x,y,e,_⟩:=c.now i;obtain⟨j,g,d,t,os⟩:=s;have o:=RX;have p:(⟨j,g,d,t,os⟩:Js).TypeIs (.ref C) "type":=⟨_,e,rfl⟩
  delta Rm Li
  repeat (any_goals (first | assumption | with_reducible refine N1 e ?_ | with_reducible refine wpAny_load' e ?_ | wp_step))
 .mach C λA s P i h=>a i h
theorem Au{f es p pos}(hp:es.all bX=true)(h:cx A F (.Name f p) lc st λM i=>Callee M/\eJ A F es lc i λvs st₂=>bI A M vs st₂ Q) :
  cx A F (.Call (.Name f p) es [] pos) lc st Q :=
 have u {σ st s f M} (hc:Callee f) (D:RV σ st.length s f M) (p:Pre F σ lc st s) (h:eJ A F es lc st λvs i=>bI A f vs i Q) :
   Wp A (Vl pos M [] (es.map λe=>(false,eval e F.env)) []) (PV σ st s Q) s:=by
  have c {E P f args} (U:args.any (·.1)=false) (h:JH (Jz W.prog W.w) A (evalArgs f true args []) (λas s₁=>as.kw=[]/\JH (Jz W.prog W.w) A (Rm f) (λk J=>k=.machine/\JH (Jz W.prog W.w) A (Ky f as.pos) P E J) E s₁) E s) :
    JH (Jz W.prog W.w) A (Vl pos f [] args []) P E s:=by
   refine Jf (JD (JB h (λas s₁ G=>?_) λZ Y x=>x));refine Jf (LF ?_);have R:(args.any (λx=>x.fst) || ([]:List (Option Str×Q7 Value)).any λx=>x.fst.isNone)=false:=by rw[U];rfl
   obtain⟨ps,kw⟩:=as;have S:kw=[]:=G.1;subst S;refine(R ..).symm▸?_;refine Jf (JB G.2 (λk J H=>?_) λZ Y x=>x);refine(H.1 ..).symm▸?_;show JH _ _ (Ky f ps [] >>= λr=>do MQ [r] point;pure r) _ _ _;exact Jf (JB H.2 (λr s' hr=>Jf (JD (wpAny_point (Jk hr)))) λZ Y x=>x)
  have d {s a id b P} (y:s.heap.get? a=Jh (fA id b)) (h:P .machine s):Wp A (Rm (.ref a)) P s:=by
   exact Jf (Rd y (Jk h))
  have k:=λws s' σ' z vs (x:Step σ st s σ' z s') B (q:bI A f vs z Q)=>ec x (q σ' s' M ws (D.step p.r x) B x.inv x.rel);cases hc with
  |g b =>
   have e:M=b.val:=D;subst e;cases b <;> first | exact MO (any_false _ _) (dI h p k) | exact Lp (any_false _ _) (dI h p k)
  |bm b j hb =>
   refine c (any_false _ _) (dI h p λws s' σ' z vs x B q=>⟨rfl,?_⟩);obtain⟨a,e,_,y,_⟩:=D.step p.r x;subst e;unfold Bm.obj at y;have y:=hb▸y;exact d y ⟨rfl,(k ws s' σ' z vs x B q)⟩
  |fn a o fd y hc hd=>cases D;exact NQ (o:=o) (fd:=fd) (dI h p λws s' σ' z vs x B q=>⟨⟨x.inv.old.get_of_cls y hc,hd⟩,k ws s' σ' z vs x B q⟩)
  |mach C S=>cases D;exact c (any_false _ _) (dI h p λws s' σ' z vs x B q=>⟨rfl,S _ _ _ x.inv ⟨rfl,k ws s' σ' z vs x B q⟩⟩)
  |o o fd hd =>
   obtain⟨a,e,hz,y,hs⟩:=D;have D:RV σ st.length s (.o o) (.ref a):=⟨a,rfl,hz,y,hs⟩
   subst e;refine NQ (o:=o) (fd:=fd) (dI h p λws s' σ' z vs x B q=>⟨⟨?_,hd⟩,k ws s' σ' z vs x B q⟩);obtain⟨a',e',_,T,_⟩:=D.step p.r x;cases e';exact T
 λσ s pr=>by
 refine Nh (bH (h σ s pr) λw s₁ X i v x hv e=>?_);refine(cz pos F.env hp).symm▸?_;exact ec x (u e.1 hv (pr.step x) e.2)
inductive FnAt(a:Addr)(q:Str)(params:Arguments)(body:List Stmt)(scope:Scope)(cd dflt:Value):Prop
 |mk (o:Obj) (fd:Mk) (ho:W.h₁.get? a=Jh o) (hc:o.cls≠.none) (hd:o.data=.func fd) (hq:fd.qualname=q) (hp:fd.params=params) (hb:fd.body=.stmts body) (hs:fd.scope=scope) (hg:fd.globals=KY) (hcl:fd.closure=[])
  (hdf:fd.defaults=dflt) (hkd:fd.kwdefaults=.none) (hcd:fd.code=cd) (hbi:fd.builtins=LW)
  (code:W.h₁.CodeRec cd q) (codeCls:∀c o,cd=.ref c->W.h₁.get? c=Jh o->o.cls≠.none) (kind:scope.kind=.function) (cells:∀x∈scope.names,x.2≠.cell)
theorem code_at{cd q}(i:Inv s)(h:W.h₁.CodeRec cd q)(hc:∀c o,cd=.ref c->W.h₁.get? c=Jh o->o.cls≠.none):s.heap.CodeRec cd q:=by
 refine Jg λa=>?_;obtain⟨c,o,vs,t,e,g,r⟩:=h;refine a ?_;exact⟨c,o,vs,t,e,i.old.get_of_cls g (hc c o e g),r⟩
inductive F0(x:Str)(P:Value->Prop)(R:List (Str×Value)->Prop)(bs:List (Str×Value)):Prop
 |mk (w:Value) (bs':List (Str×Value)) (e:bs=(x,w)::bs') (h:P w) (t:R bs')
noncomputable def RB(σ:Sg)(n:Nat)(s:Js):Lc->List (Str×Value)->Prop
 |[],bs=>bs=[]
 |p::l,bs=>F0 p.1 (RV σ n s p.2) (RB σ n s l) bs
theorem RB.look{n l y v}:∀ {bs:List (Str×Value)},RB σ n s l bs->l.lookup y=Jh v->∃w,bs.lookup y=Jh w/\RV σ n s v w:=by
 induction l with
 |nil=>exact λZ q=>by cases q
 |cons p l d =>
  rintro bs ⟨w,c,e,h,t⟩ q;subst e;rw[show p::l=(p.1,p.2)::l from rfl,JS] at q;rw[JS];cases a:y == p.1 with
  |true=>have q:=a▸q;cases q;exact⟨w,rfl,h⟩
  |false=>have q:=a▸q;exact d t q
noncomputable def sd:Fl->V
 |.ret v=>v
 |_=>.n
noncomputable def iN(A:Around)(a:Addr)(vs:List V)(st:St)(Q:V->St->Prop):Prop:=∀σ s ws,cf σ st.length s vs ws->Inv s->Rel σ st s ->
 NC (Jz W.prog W.w) A (.call (.ref a) ⟨ws,[]⟩) (λr s'=>match r with | .ok (.ret v)=>PV σ st s Q v s' | _=>False) s
theorem iN.call{a vs st Q}(h:iN A a vs st Q):bI A (.v (.ref a)) vs st Q:=λσ s w ws hw c i r=>by
 subst hw;exact Lh (M6 (h σ s ws c i r) λr s' q=>by
  cases r with
  |error e=>exact q.elim
  |ok f=>cases f with
   |ret v=>exact q
   |_=>exact q.elim)
theorem pA{a q params body scope cd dflt vs}(T:bK)(f:FnAt a q params body scope cd dflt)(G:scope.isCoroutine=false)(j:scope.isGenerator=false)(d:A.depth<recursionLimit)(E:∀(σ:Sg) (n:Nat) (s:Js) (ws:List Value) (fd:Mk),Inv s->cf σ n s vs ws->fd.params=params->fd.defaults=dflt->fd.kwdefaults=.none->∃bs,Qw s fd ⟨ws,[]⟩ bs/\RB σ n s lc bs.reverse/\∀x∈bs,scope.names.lookup x.1=Jh .local)(h:∀L,bW (A.deeper (K5 q scope L a cd)) ⟨K5 q scope L a cd,[],st.length⟩ body lc st λS Z z=>Q (sd S) z):iN A a vs st Q:=by
 intro σ s ws M i r;refine Jg λzz=>?_;obtain⟨o,fd,h1,h2,h3,P,e2,e3,D,e5,e6,e7,e8,R,C,U,c2,kd,cl⟩:=f;obtain⟨bs,F,hn,hl⟩:=E σ _ s ws fd i M e2 e7 e8;refine zz ?_;refine SI d (i.old.get_of_cls h1 h2) h3 (D▸G) (D▸j) e3 (by refine(R ..).symm▸?_;refine(P ..).symm▸?_;exact code_at i U c2) (F _ _ _ _ ?_);refine(D).symm▸?_;refine(e5).symm▸?_;refine(e6).symm▸?_;refine(R).symm▸?_;refine(C).symm▸?_;refine(P).symm▸?_;refine O7 cl hl (λh' J p=>?_) kd;have y:=c4 (X:=(· =s.heap.objs.size)) (k:=s.toks+bs.length) i r (λb o e=>(p.2 b (J1 (JE e))).trans (Jm _ e):∀b o,s.heap.get? b=Jh o->h'.get? b=Jh o) (by rw[p.1,JA];exact JC _) (JG _ _);refine⟨y.inv.nolimit T,?_⟩;have fr:dA ⟨K5 q scope s.heap.objs.size a cd,[],st.length⟩ σ st.length lc {s with heap:=h',toks:=s.toks+bs.length}:=by
  refine⟨i.size,⟨_,J,λx v Z hx=>?_⟩,λc=>Jw _ (r.zlt _ c),λk H=>J1 (r.lt H),kd,rfl,rfl,λx k H=>by cases H⟩;obtain⟨w,q1,q2⟩:=hn.look hx;exact⟨w,q1,RV.mono y.x (λb q=>⟨λe=>Jw _ (e▸r.zlt b q),r.zoff b q⟩) v w q2⟩
 refine codeAny_func (dc (h s.heap.objs.size σ _ ⟨y.inv,y.rel,fr⟩) λS s' σ' ab z g x aa u B=>?_);have c:=((y.gQ.trans x).fresh (Y:=de) λb E=>.inr (JX E.symm)).hO (Jl _);cases g with
 |ret v=>obtain⟨w,rfl,hw⟩:=u;exact⟨σ',z,c,v,hw,B⟩
 |next=>cases u;exact⟨σ',z,c,.n,rfl,B⟩
 |brk=>cases u;exact⟨σ',z,c,.n,rfl,B⟩
 |cont=>cases u;exact⟨σ',z,c,.n,rfl,B⟩
set_option genCtorIdx true in
inductive Ty where
 |str | list | dict | set
end
noncomputable def Ty.s:Ty->String
 |.str=>"str"
 |.list=>"list"
 |.dict=>"dict"
 |.set=>"set"
noncomputable def DC:O->Option Ty
 |.list Z=>Jh .list
 |.dict Z=>Jh .dict
 |.dicti Z=>Jh .dict
 |.set Z=>Jh .set
 |_=>none
noncomputable def GD(st:St):V->Option Ty
 |.s Z Y=>Jh .str
 |.c .lst Z=>Jh .list
 |.r h=>st[h]?.bind DC
 |_=>none
section
variable {A:Around}{F:cU}{lc:Lc}{σ:Sg}{σ':Sg}{st:St}{d:St}{s:Js}{s':Js}{Q:V->St->Prop}
noncomputable def FC(s:Js)(w:Value)(T:String):Prop:=s.TypeIs w T/\∀a,w=.ref a->∃ob,s.heap.get? a=Jh ob/\ob.dict=none
inductive HU(P:Value->Prop)(ws:List Value):Prop
 |mk (x:Value) (e:ws=[x]) (h:P x)
inductive HT(P R:Value->Prop)(ws:List Value):Prop
 |mk (x y:Value) (e:ws=[x,y]) (h:P x) (h':R y)
theorem eI{n a ws}(h:cf σ n s [a] ws):HU (RV σ n s a) ws:=by
 obtain⟨x,t,rfl,c,rfl⟩:=h;exact⟨x,rfl,c⟩
theorem iL{n a b ws}(h:cf σ n s [a,b] ws):HT (RV σ n s a) (RV σ n s b) ws:=by
 obtain⟨x,t,rfl,c,d⟩:=h;obtain⟨y,rfl,e⟩:=eI d;exact⟨x,y,rfl,c,e⟩
noncomputable def MethW(A:Around)(id:String)(a:V)(vs:List V)(st:St)(Q:V->St->Prop):Prop:=bI A (.v (.builtin id)) (a::vs) st Q
noncomputable def G7(A:Around)(v:V)(st:St)(Q:V->St->Prop):Prop:=match v with
 |.s x Z=>x.length<=sizeLine/\Q (.i x.length) st
 |.c k vs=>match k with
  |.lst=>Q (.i vs.length) st
  |_=>bI A (.g .len) [v] st Q
 |.r h=>wu st[h]? (λvs=>Q (.i vs.length) st) (bI A (.g .len) [v] st Q)
 |_=>bI A (.g .len) [v] st Q
theorem g5{h vs v}(T:bK)(e:st[h]?=Jh (.list vs))(hz:vs.length<sizeLine)(q:Q .n (st.set h (.list (vs++[v])))):MethW A "list.append" (.r h) [v] st Q:=by
 intro σ s w ws hw d i r;subst hw;obtain⟨x,y,rfl,⟨j,rfl⟩,z⟩:=iL d;obtain⟨items,m,p,B,g⟩:=r.at_ h _ e;have a:=g.len;have a:=Jx▸a;refine wpAny_list_append_plain ⟨m,p⟩ (λh' f u=>?_) (by rw[a];exact Ku hz);obtain⟨n',c⟩:=f;exact⟨_,_,dX (k:=s.toks) (o:=.list (vs++[v])) T i r j u (Jl _) (λx=>⟨_,n',c,by rw[MC];refine(a).symm▸?_;exact hz,by refine(Mc).symm▸?_;exact cf.app (us:=[v]) (xs:=[y]) ⟨y,[],rfl,RV.mono x r.apart _ _ z,rfl⟩ (g.mono x r.apart)⟩) (λZ Y U q=>nomatch q),.n,rfl,q⟩
theorem lI(h:Heap)(a:Addr)(f:Obj->Obj):(h.update a f).objs.size=h.objs.size:=by
 exact Array.size_modify
theorem jH{M Γ p t fs s s' e}(h:Runs M Γ p t fs s e s'):s.heap.objs.size<=s'.heap.objs.size:=by
 induction h <;> (try simp only[Qy,JA,lI] at *) <;> omega
theorem bS{α}{M:Vx}{A:Around}{s:Js}{t:Q7 α}{Q:α->Js->Prop}{E:Value->Js->Prop}(h:JH M A t (λa s'=>s.heap.objs.size<=s'.heap.objs.size->Q a s') E s):JH M A t Q E s :=
 have w (d:Ctx) (n:Nat) (t:Q7 α):∀(Q:α->UL->Js->Prop) (E:Value->UL->Js->Prop) (p:UL) (s:Js),n<=s.heap.objs.size->Vr M d t Q E p s ->
   Vr M d t (λa D s'=>n<=s'.heap.objs.size/\Q a D s') (λe D s'=>n<=s'.heap.objs.size/\E e D s') p s:=by
  induction t with
  |pure a=>exact λQ E p s i h=>⟨i,h⟩
  |raise e=>exact λQ E p s i h=>⟨i,h⟩
  |unsupported _ | finish _ | register _ _ | yield _ _ _ _ | fork _ _ | await _ _ _ _ _=>exact λQ E p s Z h=>h.elim
  |rule _ k j | point _ k j=>exact λQ E p s i h=>j () Q E p s i h
  |«at» D k j=>exact λQ E p s i h=>j () Q E D s i h
  |load a Z k j=>rintro Q E p s i ⟨o,G,h⟩;exact⟨o,G,j o Q E p s i h⟩
  |update a Z f k j=>exact λQ E p s i h=>⟨h.1,j () Q E p _ (by rw[lI];exact i) h.2⟩
  |alloc o k j=>exact λQ E p s i h=>j _ Q E p _ (by rw[JA];exact bJ 0 7 i) h
  |loadIfAlive a k j=>exact λQ E p s i h=>j _ Q E p s i h
  |fresh k j=>exact λQ E p s i h=>j _ Q E p _ i h
  |ask k j | handled _ k j | stack k j | thread k j=>exact λQ E p s i h=>j _ Q E p s i h
  |choose J m k j=>exact λQ E p s i h=>⟨h.1,j _ Q E p _ i h.2⟩
  |os q Z k j=>exact λQ E p s i h=>j _ Q E p _ i h
  |newGen c k j=>exact λQ E p s i h=>j _ Q E p _ i h
  |genState g k j=>rintro Q E p s i ⟨st,H,h⟩;exact⟨st,H,j _ Q E p s i h⟩
  |call c hd Z Y k j=>rintro Q E p s i ⟨r,s',B,h⟩;exact⟨r,s',B,j r Q E p s' (Jn i (jH B)) h⟩
  |resume g r Z k j =>
   have u {p s s' z} (h:Wakes M d p g r s z s'):s.heap.objs.size<=s'.heap.objs.size:=by
    delta Wakes at h
    revert h
    generalize s.gens[g]?=y;intro h;cases y with
    |none=>exact OZ h
    |some x =>
     cases x with
     |fresh c =>
      cases r with
      |send v =>
       cases v with
       |none=>obtain⟨C,s₁,B,_,_,rfl⟩:=h;have:=jH B;exact this
       |_=>exact JX (congrArg (λs:Js=>s.heap.objs.size) (P6 h).symm)
      |throw x=>rw[P6 h];exact Jl _
     |suspended=>obtain⟨C,s₁,B,_,_,rfl⟩:=h;have:=jH B;exact this
     |running=>exact JX (congrArg (λs:Js=>s.heap.objs.size) (P6 h).symm)
     |finished=>exact JX (congrArg (λs:Js=>s.heap.objs.size) (P6 h).symm)
   rintro Q E p s i ⟨z,s',hw,h⟩;exact⟨z,s',hw,j z Q E p s' (Jn i (u hw)) h⟩
 λd p F=>Q7.wp_mono M d t (λZ Y U x=>x.2 x.1) (λZ Y U x=>x.2) p s (w d _ t _ _ p s (Jl _) (h d p F))
inductive PA(F:cU)(σ:Sg)(st:St)(s:Js)(Q:Lc->St->Prop)(u:Unit)(s':Js):Prop
 |mk (σ':Sg) (lc':Lc) (st':St) (x:bO (· =F.L) σ st s σ' st' s') (fr:dA F σ' st'.length lc' s') (q:Q lc' st')
end
section
variable (A:Around)(F:cU)
noncomputable def cZ(t:Expr)(v:V)(lc:Lc)(st:St)(Q:Lc->St->Prop):Prop:=∀σ s w,RV σ st.length s v w->Pre F σ lc st s->Wp A (NP t F.env w) (PA F σ st s Q) s
noncomputable def ov:List (Expr×V)->Lc->St->(Lc->St->Prop)->Prop
 |[],lc,st,Q=>Q lc st
 |(t,v)::l,lc,st,Q=>cZ A F t v lc st λa c=>ov l a c Q
noncomputable def AJ(v:V)(n:Nat)(st:St)(items:List V):Prop:=∀σ s w,RV σ st.length s v w->Inv s->Rel σ st s->Wp A (unpackItems w n none) (λws s'=>cf σ st.length s' items ws/\Step σ st s σ st s') s
end
section
variable {A:Around}{F:cU}{lc:Lc}{g:Lc}{σ:Sg}{σ':Sg}{st:St}{d:St}{s:Js}{s':Js}{Q:Lc->St->Prop}
theorem eN{t P E}(h:Wp A t (PA F σ st s Q) s)(k:∀u s' σ' g d,bO (· =F.L) σ st s σ' d s'->dA F σ' d.length g s'->Q g d->P u s'):JH (Jz W.prog W.w) A t P E s :=
 JB h (λu s' p=>p.casesOn λσ' g d x fr q=>k u s' σ' g d x fr q) λZ Y e=>e.elim
theorem oV{t}(x:bO (· =F.L) σ st s σ' d s')(h:Wp A t (PA F σ' d s' Q) s'):Wp A t (PA F σ st s Q) s':=eN h λu c a lc₂ st₂ y fr q=>⟨a,lc₂,st₂,x.trans y,fr,q⟩
theorem cZ.mono{t v Q'}(h:cZ A F t v lc st Q)(k:∀l d,Q l d->Q' l d):cZ A F t v lc st Q':=λσ s w f p=>eN (h σ s w f p) λu s₁ e c a x fr q=>⟨e,c,a,x,fr,k c a q⟩
theorem y1{x p v}(T:bK)(a:F.kd x=Jh .local)(h:Q (lc.set x v) st):cZ A F (.Name x p) v lc st Q :=
 λσ s w c p=>Qd (fJ T p a c λs' y fr=>⟨_,_,_,y,fr,h⟩)
theorem gG(env:Env):∀ {es:List Expr},es.all bX=true->T4 es env=es.map λt=>(false,NP t env)
 |[],Z=>rfl
 |e::es,h=>by
  simp only[NL,KV] at h;have a:T4 (e::es) env=(false,NP e env)::T4 es env:=by
   cases e <;> first | rfl | exact ft h.1
  refine(a).symm▸?_;refine((gG env h.2)).symm▸?_;exact(Ke).symm▸rfl
theorem kx:∀(l:List (Expr×V)) (ws:List Value) (lc:Lc) (st:St) (σ:Sg) (s:Js),cf σ st.length s (l.map (·.2)) ws->ov A F l lc st Q->Pre F σ lc st s->Wp A (VL (l.map λx=>NP x.1 F.env) ws) (PA F σ st s Q) s
 |[],ws,lc,st,σ,s,k,h,p=>by
  subst k;exact RL ⟨_,_,_,p.refl,p.f,h⟩
 |(t,v)::l,ws,lc,st,σ,s,⟨w,g,e,i,j⟩,h,p=>by
  subst e;refine RM (eN (h σ s w i p) λu s₁ d a c x fr q=>?_);exact oV x (kx l g a c d s₁ (j.mono x.x (p.f.jV p.r rfl)) q ⟨x.inv,x.rel,fr⟩)
theorem tL{vs}(g:A.handled=none):AJ A (.t vs) vs.length st vs:=λσ s w c i r=>by
 obtain⟨a,items,m,e,hz,h,p,f⟩:=c;subst e;have e:items.size=vs.length:=by refine(f.len)▸?_;exact(Jx).symm▸rfl
 refine(e)▸?_;refine bS (wpAny_unpackItems_tuple g ⟨_,h,rfl,m,rfl⟩ λh' j hz=>?_);have x:=c4 (X:=de) (k:=s.toks) i r (λb o d=>j b o (J1 (JE d)) d) hz (Jl _);exact⟨f.step r x,x⟩
theorem eS{elts k pos v items}(g:elts.all bX=true)(j:AJ A v elts.length st items)(c:items.length=elts.length)(h:ov A F (elts.zip items) lc st Q):cZ A F (.Tuple elts k pos) v lc st Q:=by
 intro σ s w o p;rw[arm_assign_Tuple];refine Jf (LF ?_);refine(gG F.env g).symm▸?_;unfold unpack;have d:Ud ((λx:Bool×(Value->Q7 Unit)=>x.fst) ∘ λt=>(false,NP t F.env)) elts=none:=List.findIdx?_eq_none_iff.mpr λx Z=>rfl;rw[Jt,List.findIdx?_map,d];refine Jf (JD (JB (j σ s w o p.i p.r) (λws s₁ a=>?_) λZ Y e=>e));obtain⟨e,x⟩:=a;have f:(List.map (λt=>(false,NP t F.env)) elts).map (·.2)=(elts.zip items).map λx=>NP x.1 F.env:=by
  refine(J6).symm▸?_;have:elts=(elts.zip items).map (·.1):=by rw[PM (JX c.symm)]
  conv=>lhs;rw[this]
  refine(J6).trans ?_;rfl
 refine(f).symm▸?_;exact oV x.hO (kx _ ws lc st σ s₁ (show cf σ st.length s₁ ((elts.zip items).map (·.2)) ws from by refine(PL (JX c)).symm▸?_;exact e) h (p.step x))
structure pL(A:Around)(tgt:Expr)(it:Value)(c:V)(w:Value)(X:Addr->Prop)(dep:St->Prop)(items:List V)(I:Nat->Heap->Prop):Prop where
 above:∀b,X b->W.h₁.objs.size<=b
 solid:∀k h b,I k h->X b->∃o,h.get? b=Jh o/\cH o
 frame:∀k h h',I k h->(∀b,X b->∀o,h.get? b=Jh o->h'.get? b=Jh o)->I k h'
 next:∀k v σ st s,items[k]?=Jh v->I k s.heap->dep st->RV σ st.length s c w->(∀b,X b->¬σ.z b/\∀h,h<st.length->σ.a h≠b)->Inv s->Rel σ st s ->
  Wp A (LV it) (λr s'=>∃x,r=Jh x/\Wp A (ON tgt it x) (λ_ s''=>∃σ',bO X σ st s σ' st s''/\RV σ' st.length s'' v x/\I (k+1) s''.heap) s') s
 stop:∀σ st s,I items.length s.heap->dep st->RV σ st.length s c w->(∀b,X b->¬σ.z b/\∀h,h<st.length->σ.a h≠b)->Inv s->Rel σ st s->Wp A (LV it) (λr s'=>r=none/\bO X σ st s σ st s') s
noncomputable def rO(A:Around)(d:Expr)(c:V)(a:St->Prop)(items:List V):Prop:=∀σ st s w,RV σ st.length s c w->a st->Inv s->Rel σ st s ->
 Wp A (MV w) (λe s'=>∃X I,pL A d e c w X a items I/\I 0 s'.heap/\(∀b,X b->s.heap.objs.size<=b)/\Step σ st s σ st s') s
noncomputable def B7(A:Around)(a:Value)(I:Nat->Heap->Prop):Prop:=∀k s (P:Value->Js->Prop) (E:Value->Js->Prop),I k s.heap->P a s->JH (Jz W.prog W.w) A (MV a) P E s
noncomputable def mU(A:Around)(d:Expr)(c:V)(a:St->Prop)(items:List V):Prop:=∀σ st s w,RV σ st.length s c w->a st->Inv s->Rel σ st s ->
 Wp A (MV w) (λe s'=>∃X I,B7 A e I/\pL A d e c w X a items I/\I 0 s'.heap/\(∀b,X b->s.heap.objs.size<=b)/\Step σ st s σ st s') s
theorem mU.iter{A tgt c dep items}(h:mU A tgt c dep items):rO A tgt c dep items:=λσ st s w d f i r =>
 JB (h σ st s w d f i r) (λZ Y a=>by obtain⟨X,I,q⟩:=a;exact⟨X,I,q.2⟩) λZ Y e=>e
noncomputable def cT(c:St->Prop)(g:V->Lc->St->(Lc->St->Prop)->Prop)(a:Lc->St->(Fl->Lc->St->Prop)->Prop)(Q:Fl->Lc->St->Prop):List V->Lc->St->Prop
 |[],lc,st=>c st/\Q .next lc st
 |v::l,lc,st=>c st/\g v lc st λd e=>a d e λf lc₂ st₂=>match f with
  |.brk=>Q .next lc₂ st₂
  |.ret u=>Q (.ret u) lc₂ st₂
  |_=>cT c g a Q l lc₂ st₂
inductive HN(A:Around)(tgt:Expr)(c:V)(st:St)(R:(St->Prop)->List V->St->Prop):Prop
 |mk (dep:St->Prop) (items:List V) (hi:rO A tgt c dep items) (hd:dep st) (ht:R dep items st)
inductive PI(A:Around)(tgt:Expr)(σ:Sg)(st:St)(s:Js)(R:(St->Prop)->List V->St->Prop)(it:Value)(s':Js):Prop
 |mk (σ':Sg) (st':St) (x:Step σ st s σ' st' s') (c:V) (w:Value) (hc:RV σ' st'.length s' c w) (X:Addr->Prop) (I:Nat->Heap->Prop) (dep:St->Prop) (items:List V) (ok:pL A tgt it c w X dep items I) (hI:I 0 s'.heap)
   (hX:∀b,X b->s.heap.objs.size<=b) (off:∀b,X b->¬σ'.z b/\∀h,h<st'.length->σ'.a h≠b) (hd:dep st') (ht:R dep items st')
noncomputable def AO(A:Around)(F:cU)(a iter:Expr)(lc:Lc)(st:St)(R:(St->Prop)->List V->St->Prop):Prop:=∀σ s,Pre F σ lc st s->Wp A (eval iter F.env) (λv s₁=>Wp A (MV v) (PI A a σ st s R) s₁) s
end
section
variable {A:Around}{F:cU}{lc:Lc}{σ:Sg}{σ':Sg}{st:St}{j:St}{s:Js}{s':Js}{Q:Fl->Lc->St->Prop}
noncomputable def cU.at(F:cU)(k:Nat):cU:=⟨F.env,F.ce,k⟩
theorem dA.at{n}(f:dA F σ n lc s)(k:Nat):dA (F.at k) σ n lc s:=⟨f.above,f.ns,f.offz,f.offh,f.kind,f.glob,f.bi,f.cells⟩
theorem dA.un{n k}(f:dA (F.at k) σ n lc s):dA F σ n lc s:=⟨f.above,f.ns,f.offz,f.offh,f.kind,f.glob,f.bi,f.cells⟩
inductive FL(F:cU)(X:Addr->Prop)(I:Nat->Heap->Prop)(c:V)(w:Value)(k₀:Nat)(items:List V)(T:List V->Lc->St->Prop)(σ:Sg)(st:St)(s:Js)(n:Nat)(s':Js):Prop
 |mk (k:Nat) (σ':Sg) (lc':Lc) (st':St) (hk:k+n=items.length) (hT:T (items.drop k) lc' st') (hI:I k s'.heap) (hc:RV σ' k₀ s' c w) (hn:k₀<=st'.length) (off:∀b,X b->¬σ'.z b/\∀h,h<st'.length->σ'.a h≠b)
   (x:c8 (λb=>b=F.L∨X b) F.m σ st s σ' st' s') (fr:dA F σ' st'.length lc' s')
theorem eP{e env}(h:iS e=true)(v:Value):Qi e env v=pure v:=by
 cases e <;> first | rfl | exact ft h
theorem qZ{tgt body it c w X I dep items k₀ σ1 st1 s₁}(ok:pL A tgt it c w X dep items I)(hm:k₀<=F.m)(aq:k₀<=st1.length)(hc:RV σ1 k₀ s₁ c w)(hI:I 0 s₁.heap)(an:∀b,X b->s.heap.objs.size<=b)(ag:∀b,X b->¬σ1.z b/\∀h,h<st1.length->σ1.a h≠b)(p:dA F σ st.length lc s)(az:c8 (· =F.L) F.m σ st s σ1 st1 s₁)(av:dA F σ1 st1.length lc s₁)(ht:cT dep (cZ A F tgt) (bW A F body) Q items lc st1) :
  NC (Jz W.prog W.w) A (.forLoop tgt it body [] F.env) (λr s'=>match r with | .ok f=>PF F σ st s Q f s' | .error _=>False) s₁:=by
 have ao:∀b,X b->b≠F.L:=λb d e=>by
  obtain⟨m,hm,_⟩:=p.ns;exact Jw _ (Jp hm.lt (e▸an b d))
 have ae:∀ {k σ1 σ2 st1 st₂ s₁ s₂},c8 (· =F.L) F.m σ1 st1 s₁ σ2 st₂ s₂->(∀b,X b->¬σ1.z b/\∀h,h<st1.length->σ1.a h≠b)->I k s₁.heap->(∀b,X b->¬σ2.z b/\∀h,h<st₂.length->σ2.a h≠b)/\I k s₂.heap:=λ{k _ _ _ _ s₁ s₂} x off hI =>
  ⟨λb d=>by obtain⟨o,ho,_⟩:=ok.solid _ _ b hI d;exact⟨x.x.zoff (JE ho) (off b d).1 (off b d).2,x.x.off (JE ho) (off b d).2⟩,
   ok.frame _ _ _ hI λb d o ho=>by obtain⟨o',au,hs⟩:=ok.solid _ _ b hI d;have ho:=au▸ho;cases ho;exact x.x.keep b _ au hs (off b d).2 (ao b d)⟩
 have up:∀ {σ:Sg} {n:Nat} {s:Js},k₀<=n->RV σ k₀ s c w->RV σ n s c w:=λhn h=>RV.cq (X:=de) (n:=0) ⟨λZ=>id,λZ U h T S R=>h,Jl _⟩ (λZ U=>⟨id,λZ q=>absurd q (Jy _)⟩) c _ _ (λh q=>⟨Jp q hn,rfl⟩) w h;refine codeAny_forLoop_any (I:=FL F X I c w k₀ items (cT dep (cZ A F tgt) (bW A F body) Q) σ st s)
  (λn s' ⟨k,σ',aB,j,hk,hT,hI,hc,hn,off,x,fr⟩=>?_) items.length ⟨0,σ1,lc,st1,Kf _,ht,hI,hc,aq,ag,az.wk λZ=>.inl,av⟩
 cases e:items[k]? with
 |none =>
  have aA:k=items.length:=by have:=List.getElem?_eq_none_iff.mp e;exact bJ 17 16 hk this
  subst aA;have hT:=SS▸hT;refine JB (ok.stop σ' j s' hI hT.1 (up hn hc) off x.inv x.rel) (λr aD af=>?_) λZ U h=>h.elim;obtain⟨e,y⟩:=af;subst e;have z:=x.trans (y.wk λb d=>.inr d).gQ;exact Q1 ⟨σ',aB,j,z.fresh λb d=>d.imp id λq=>an b q,(fr.step x.rel y (λz=>ao _ z rfl) λb hz hx=>(off b hx).1 hz),.next,rfl,hT.2⟩
 |some v =>
  have ab:=(List.getElem?_eq_some_iff.mp e).1;rw[KO ab,(List.getElem?_eq_some_iff.mp e).2] at hT;refine JB (ok.next k v σ' j s' e hI hT.1 (up hn hc) off x.inv x.rel) (λr aD af=>?_) λZ U h=>h.elim;obtain⟨u,er,as⟩:=af;subst er;refine JB as (λZ ai af=>?_) λZ U h=>h.elim;obtain⟨E,y,hv,al⟩:=af;have M:=fr.step x.rel y (λz=>ao _ z rfl) λb hz hx=>(off b hx).1 hz;have ap:RV E k₀ ai c w:=RV.cq y.x.kp (λb hz=>⟨λhx=>(off b hx).1 hz,x.rel.zoff b hz⟩) c _ _ (λh q=>⟨q,y.x.ext h (Jp q hn)⟩) w hc;refine eN (hT.2 E ai u hv ⟨y.inv,y.rel,M⟩) λZ ax ar aC aE J ak aw=>?_;obtain⟨ah,am⟩:=ae J.gQ (λb d=>by obtain⟨o,ho,_⟩:=ok.solid _ _ b hI d;exact⟨y.x.zoff (JE ho) (off b d).1,y.x.off (JE ho) (off b d).2⟩:∀b,X b->¬E.z b/\∀h,h<j.length->E.a h≠b) al;refine dc (aw ar ax ⟨J.inv,J.rel,ak⟩) λf ay i C D g aj B hg H=>?_;obtain⟨G,P⟩:=ae aj ah am;have zz:=J.gQ.trans aj;have all:=x.trans ((y.wk (Y:=λb=>b=F.L∨X b) λb d=>.inr d).gQ.trans (zz.wk λb d=>.inl d));have fin:=all.fresh (Y:=(· =F.L)) λb d=>d.imp id λq=>an b q;have aa:RV i k₀ ay c w:=RV.cq zz.x.kp (M.jV y.rel rfl) c _ _ (zz.x.same hm hn) w ap;have ac:=zz.x.le hm hn;cases g with
  |next=>cases hg;exact⟨n-1,by exact bJ 17 17 hk ab,k+1,i,C,D,by exact bJ 17 18 hk ab,H,P,aa,ac,G,all,B⟩
  |cont=>cases hg;exact⟨n-1,by exact bJ 17 17 hk ab,k+1,i,C,D,by exact bJ 17 18 hk ab,H,P,aa,ac,G,all,B⟩
  |brk=>cases hg;exact⟨i,C,D,fin,B,.next,rfl,H⟩
  |ret v=>obtain⟨w',rfl,hw⟩:=hg;exact⟨i,C,D,fin,B,.ret v,⟨w',rfl,hw⟩,H⟩
theorem PF.un{k f}(h:PF (F.at k) σ st s Q f s')(d:F.m<=k):PF F σ st s Q f s':=by
 obtain⟨σ',a,j,x,fr,g,c,q⟩:=h;exact⟨σ',a,j,x.Hk d,fr.un,g,c,q⟩
noncomputable def cU.up(F:cU)(n:Nat):cU:=F.at (F.m+n)
theorem jT{tgt iter body pos}(x:iS iter=true)(h:AO A F tgt iter lc st λi items a=>cT i (cZ A (F.up a.length) tgt) (bW A (F.up a.length) body) Q items lc a):dN A F (.For tgt iter body [] pos) lc st Q:=by
 intro σ s p;refine wpAny_For (JB (h σ s p) (λv s₁ q=>JB q (λC k z=>?_) λZ Y e=>e.elim) λZ Y e=>e.elim) (eP x);obtain⟨j,a,g,c,w,hc,X,I,i,items,ok,o,u,d,hd,y⟩:=z;exact M6 (qZ (F:=F.up a.length) ok (Qr _ _) (Jl _) hc o u d (p.f.at _) g.hO.gQ ((p.step g).f.at _) y) λr s' h=>by
  cases r with
  |error e=>exact h.elim
  |ok B=>exact PF.un h (JG _ _)
noncomputable def V.free:V->Bool
 |.r Z=>false
 |.bm Z Y=>false
 |.c k Z=>(match k with
  |.lst=>true
  |_=>false)
 |_=>true
theorem RV.free{v w n}(h:v.free=true)(q:RV σ n s v w):RV σ 0 s v w:=by
 cases v with
 |r=>cases h
 |bm=>cases h
 |c k vs=>cases k <;> first | exact q | cases h
 |_=>exact q
theorem gF{tgt iter body pos}(C:iS iter=true)(h:cx A F iter lc st λc d=>c.free=true/\HN A tgt c d λo items st₂=>cT o (cZ A F tgt) (bW A F body) Q items lc st₂):dN A F (.For tgt iter body [] pos) lc st Q:=by
 intro σ s p;refine wpAny_For (bH (h σ s p) λw s₁ k d c a hc j=>?_) (eP C);obtain⟨i,o,items,hi,hd,D⟩:=j;refine JB (hi k d s₁ w hc hd a.inv a.rel) (λG y j=>?_) λZ Y e=>e.elim;obtain⟨X,I,ok,B,v,g⟩:=j;exact M6 (qZ (F:=F) (k₀:=0) ok (JN _) (JN _) ((hc.step a.rel g).free i) B (λb u=>Jn a.x.grow (v b u))
  (λb u=>⟨λz=>Jw _ (Jp (a.rel.zlt b z) (v b u)),λh q e=>Jw _ (Jp (a.rel.lt q) (e▸v b u))⟩) p.f (a.trans g).hO.gQ (p.step (a.trans g)).f D) λr s' h=>by
   cases r with
   |error e=>exact h.elim
   |ok E=>exact h
noncomputable def xp(n:String):Bool:=["enumerate","zip","dict_itemiterator","dict_reverseitemiterator","odict_iterator","itertools.zip_longest","itertools.pairwise"].contains n
theorem eZ{tgt I v o n P E}(j:s.heap.get? I=Jh o)(hc:o.cls=.type n)(i:xp n=false)(h:P () s) :
  JH (Jz W.prog W.w) A (ON tgt (.ref I) v) P E s:=by
 obtain⟨c,d,e,k⟩:=o;simp only at hc;subst hc;have f:["enumerate","zip","dict_itemiterator","dict_reverseitemiterator","odict_iterator","itertools.zip_longest","itertools.pairwise"].contains n=false:=i;have g:JH (Jz W.prog W.w) A (do
   let (.ref r,.ref a):=(J3 I,v) | return
   let o <-load r
   match o.cls,o.data with
   |.type n,.fields vs =>
    if ["enumerate","zip","dict_itemiterator","dict_reverseitemiterator","odict_iterator","itertools.zip_longest","itertools.pairwise"].contains n&&vs[0]? == Jh (LO a) then
     rule "for.unpacks-the-owned-tuple"
     updateField r 0 .none
   |Z,Y=>pure ()) P E s:=by
  cases v <;> try exact Jk h
  refine Jf (Rd j ?_);cases e <;> try exact Jk h
  dsimp only;refine(f).symm▸?_;rw[Bool.false_and];exact Jk h
 cases tgt <;> first | exact g | exact Jk h
inductive I9(h:Heap)(P:List Value->Prop)(w:Value):Prop
 |mk (l:Addr) (items:Array Value) (m:Nat) (e:w=.ref l) (ho:h.get? l=Jh (Kd.lst.obj items m)) (hv:P items.toList)
noncomputable def LstAt(c:V)(vs:List V)(a:St->Prop):Prop:=∀σ st s w,RV σ st.length s c w->a st->Rel σ st s->I9 s.heap (cf σ st.length s vs) w
theorem cj{h vs}:LstAt (.r h) vs λst=>st[h]?=Jh (.list vs):=λσ st s w hw hd r=>by
 obtain⟨items,m,a,_,c⟩:=r.at_ h _ hd;exact⟨_,items,m,hw.2,a,c⟩
theorem b7{vs}:LstAt (.l vs) vs λZ=>True:=λσ st s w h Z Y=>h.casesOn λa items m e Z c Y d=>⟨a,items,m,e,c,cf.wo (k:=.lst) d⟩
theorem jP{tgt c vs dep}(T:bK)(Q:A.handled=none)(la:LstAt c vs dep):mU A tgt c dep vs:=by
 intro σ st s w hw hd i r;obtain⟨l,items,m,e,f,z⟩:=la σ st s w hw hd r;subst e;have H:=i.size;refine N0 ⟨_,f,rfl,m,rfl⟩ ⟨(· =s.heap.objs.size),λk h=>h.IsListIter s.heap.objs.size l k,λk s P E h R=>wpAny_pyIter_listiter h R,⟨λb e=>e▸i.size,λk h b p e=>by obtain⟨o,f,hc,_⟩:=p;exact⟨o,e▸f,bN hc⟩,λk h h' y D=>by obtain⟨o,f,hc,hd⟩:=y;exact⟨o,D _ rfl o f,hc,hd⟩,λk v a d s₁ D B hd hw off i r=>?_,λa d s₁ B hd hw off i r=>?_⟩,⟨_,Ju _ rfl,rfl,rfl⟩,λb e=>JX e.symm,dp i r⟩
 ·obtain⟨l',items,m,e,f,z⟩:=la a d s₁ _ hw hd r;cases e;obtain⟨u,J,M⟩:=z.get D;refine OH B ⟨_,f,rfl,m,rfl⟩ (by refine(JZ)▸?_;exact J) λh' g G=>⟨u,rfl,?_⟩
  have j:=g;refine Jg λY=>?_;obtain⟨o',F,C,_⟩:=j;refine Y ?_;refine eZ F C (by decide) ?_;have x:=eV (X:=(· =s.heap.objs.size)) (k:=s₁.toks) T i r H rfl (off _ rfl).1 (off _ rfl).2 G (Jl _);exact⟨a,x,RV.mono x.x (λb hz=>⟨λe=>(off b e).1 hz,r.zoff b hz⟩) v u M,g⟩
 ·obtain⟨l',items,m,e,f,z⟩:=la a d s₁ _ hw hd r;cases e;have S:items[vs.length]?=none:=by rw[Ml,<-Jx,z.len];exact Jl _
  exact bS (OX Q B ⟨_,f,rfl,m,rfl⟩ S λh' U hz=>⟨rfl,cW T i r H rfl (off _ rfl) (λb o q e=>U b o q e) hz (Jl _)⟩)
theorem g0{tgt c vs dep}(T:bK)(a:A.handled=none)(la:LstAt c vs dep):rO A tgt c dep vs:=(jP T a la).iter
noncomputable def upTo(a b:Int):List V:=(KI (b-a).toNat).map fun(k:Nat)=>.i (a+k)
theorem iG{tgt c it w items P St cl}(T:bK)(wk:Walks W.prog W.w A it [it] [it] items.length P St)(y:W.h₁.objs.size<=it)(E:∀k v σ n s,items[k]?=Jh v->∀x,P k x->RV σ n s v x)(j:∀k h,St k h->∃o,h.get? it=Jh o/\o.cls=.type cl)(C:xp cl=false)(z:∀k h h',St k h->(∀o,h.get? it=Jh o->h'.get? it=Jh o)->St k h'):pL A tgt (.ref it) c w (· =it) (λZ=>True) items St:=by
 refine⟨λb e=>e▸y,λk h b f e=>?_,λk h h' f u=>z k h h' f λo=>u it rfl o,λk v σ st s u f Z Y off i r=>?_,λσ st s f Z Y off i r=>?_⟩
 ·obtain⟨o,D,hc⟩:=j k h f;exact⟨o,e▸D,bN hc⟩
 ·have B:=(List.getElem?_eq_some_iff.mp u).1;refine wpAny_toks (bS (wk.item k s _ _ B f λx h' tk F p d a g=>⟨x,rfl,?_⟩));refine Jg λG=>?_;obtain⟨o,D,hc⟩:=j _ _ p;refine G ?_;exact eZ D hc C ⟨σ,cW T i r y rfl (off _ rfl) (λb o q e=>d b o (by simpa using q) e) a g,E k v σ _ _ u x F,p⟩
 ·exact wpAny_toks (bS (wk.done s _ _ f λh' tk d a g=>⟨rfl,cW T i r y rfl (off _ rfl) (λb o q e=>d b o (by simpa using q) e) a g⟩))
mutual
theorem oX:UK "method_descriptor" "__get__" "method_descriptor.__get__" :=
 .of (owner:="method_descriptor") (n:="__get__") (by rw[J4,JM];kernel_rfl) (by decide +kernel) (by decide +kernel) (by decide +kernel)
  (by first | exact .inl (by decide +kernel) | exact .inr (by decide +kernel)) (by rw[KN];kernel_rfl)
theorem xJ:NO Rf "method_descriptor.__get__"=Jh Builtin.«method_descriptor.__get__»:=Nj (by kernel_rfl)
theorem zU(a b c:Value):Oc "method_descriptor.__get__" ⟨[a,b,c],[]⟩:=by
 unfold Oc;kernel_rfl
end
structure i4(T id:String)(nm:Str):Prop where
 nmok:[Jj "__module__",Jj "__name__",Jj "__qualname__",Jj "__doc__",Jj "__annotations__"].contains nm=false
 told:Manifest.toldItsClass.contains id=false
 own:".".intercalate (id.cutAt '.').dropLast=T
 sub:MZ (.type T) (.type T)=pure true
 look:J9 (.type T) nm=pure (Jh (.builtin id))
 ty:Mv (.builtin id)=pure (.type "method_descriptor")
 ga:UK T "__getattribute__" (T++".__getattribute__")
 en:NO Rf (T++".__getattribute__")=Jh Builtin.«object.__getattribute__»
 ar:∀a b,Oc (T++".__getattribute__") ⟨[a,b],[]⟩
 gt:J9 (.type T) "__getattr__"=pure none
mutual
theorem CK:J9 (.type "method_descriptor") "__set__"=pure none:=by rw[J4,JM];kernel_rfl
theorem CL:J9 (.type "method_descriptor") "__delete__"=pure none:=by rw[J4,JM];kernel_rfl
end
noncomputable def notCls:Data->Bool
 |.cls Z=>false
 |_=>true
theorem xq{d}{a:Addr}:notCls d=true->(match d with | .cls c=>pure (Jh c.ns) | _=>instanceDict a false:Q7 (Option Addr))=instanceDict a false:=by
 intro h;cases d <;> first | rfl | exact Jq (h:false=true)
variable {prog:Program}{w:LK}{E:Value->Js->Prop}{a:Addr}{T:String}{id:String}{nm:Str}
theorem xK{P}(b:i4 T id nm)(c:s.TypeIs (.ref a) T)(h:P (.done (.ret (.ref s.heap.objs.size))) {s with heap:=s.heap.push (fA id a)}) :
  JH (Jz prog w) A (Builtin.«method_descriptor.__get__» ⟨[.builtin id,.ref a,.type T],[]⟩) P E s:=by
 obtain⟨e,g,d,tk,os⟩:=s;unfold Builtin.«method_descriptor.__get__»
 repeat (any_goals (first | assumption | wp_step))
 refine(b.told).symm▸?_
 repeat (any_goals (first | assumption | wp_step))
 refine(b.own).symm▸?_;refine(b.sub).symm▸?_;refine Jk ?_;rw[if_neg (by decide)];refine Jk ?_
 repeat (any_goals (first | assumption | wp_step))
theorem ym{o u P}(b:i4 T id nm)(p:s.heap.get? a=Jh o)(hc:o.cls=.type T)(hd:o.dict=none)(e:notCls o.data=true)(h:P (.done (.ret (.ref s.heap.objs.size))) {s with heap:=s.heap.push (fA id a)}) :
  JH (Jz prog w) A (Builtin.«object.__getattribute__» ⟨[.ref a,.str nm u],[]⟩) P E s:=by
 obtain⟨k,g,d,tk,os⟩:=s;obtain⟨c,q,f,B⟩:=o;simp only at hc hd e;subst hc hd;have j:(⟨k,g,d,tk,os⟩:Js).TypeIs (.ref a) T:=⟨_,p,rfl⟩
 have r:=b.look;have v:=b.ty;have x:=oX.lookup;have i:∀s:Js,s.TypeIs (.builtin id) "method_descriptor":=λZ=>b.ty;have y:=CK;have z:=CL;unfold Builtin.«object.__getattribute__»
 repeat (any_goals (first | assumption | wp_step))
 refine Eq.mpr (congrArg (λt=>JH _ A t _ E _) (xq e)) ?_
 repeat (any_goals (first | assumption | wp_step))
 refine(b.nmok).symm▸?_;rw[if_neg (by decide)]
 repeat (any_goals (first | assumption | wp_step))
 refine KZ oX.plain xJ (oX.check _ _ _ _ _ _ _ _ (i _) (zU _ _ _) (xK b j ?_))
 repeat (any_goals (first | assumption | wp_step))
theorem m9{o P}(b:i4 T id nm)(j:s.heap.get? a=Jh o)(hc:o.cls=.type T)(hd:o.dict=none)(i:notCls o.data=true)(h:P (.ref s.heap.objs.size) {s with heap:=s.heap.push (fA id a),toks:=s.toks+1}) :
  JH (Jz prog w) A (Uv (.ref a) nm true) P E s:=by
 obtain⟨p,g,d,tk,os⟩:=s;obtain⟨c,q,k,x⟩:=o;simp only at hc hd i;subst hc hd;have f:∀e,(⟨p,g,d,e,os⟩:Js).TypeIs (.ref a) T:=λZ=>⟨_,j,rfl⟩
 have r:=b.ga.lookup;have u:=b.ga.bind (.ref a);have v:=b.gt;delta Uv getAttrBy
 repeat (any_goals (first | assumption | exact f _ | ((with_reducible show JH _ _ (call (OP (T++".__getattribute__")) _ _) _ _ _);refine Kb b.ga (f _) b.en (ym b j rfl rfl i ?_) (b.ar _ _)) | wp_step))
 refine⟨_,rfl,?_⟩;exact Jk h
theorem mG:i4 "dict" "dict.get" "get" where
 nmok:=by decide +kernel
 told:=by decide +kernel
 own:=by decide +kernel
 sub:=by rw[KN];kernel_rfl
 look:=QY.lookup
 ty:=QT
 ga:=Pc
 en:=Rp
 ar:=OY
 gt:=Te
mutual
theorem Dn:i4 "dict" "dict.__contains__" "__contains__" where
 nmok:=by decide +kernel
 told:=by decide +kernel
 own:=by decide +kernel
 sub:=mG.sub
 look:=PySem.F.slot_dict_contains.lookup
 ty:=by show Tc _=_;refine(Pq).symm▸?_;kernel_rfl
 ga:=Pc
 en:=Rp
 ar:=OY
 gt:=Te
theorem ti:i4 "set" "set.__contains__" "__contains__" where
 nmok:=by decide +kernel
 told:=by decide +kernel
 own:=by decide +kernel
 sub:=by rw[KN];kernel_rfl
 look:=PySem.F.slot_set_contains.lookup
 ty:=by show Tc _=_;rw[Pq];kernel_rfl
 ga:=PySem.F.slot_set_getattribute
 en:=Rn (id':="object.__getattribute__") (by kernel_rfl) (by decide +kernel) (by decide +kernel) (by kernel_rfl)
 ar:=PySem.F.args_set_getattribute_2
 gt:=by rw[J4,JM];kernel_rfl
end
structure iy where
 N:Addr
 ms:List (Str×Addr)
 as:List Str
inductive FH(mN:Str->Option Value)(x:Str)(fa:Addr):Prop
 |mk (o:Obj) (fd:Mk) (y:Option Value) (h1:mN x=Jh (.ref fa)) (h2:W.h₁.get? fa=Jh o) (h3:o.cls=.type "function") (h4:o.data=.func fd) (h5:J9 (.type "object") x=pure y)
inductive ou(C:Addr)(c:iy):Prop
 |mk (mN:Str->Option Value) (at_:ClsAt C c.N mN) (sa:mN "__setattr__"=none) (ga:mN "__getattribute__"=none) (gt:mN "__getattr__"=none) (ms:∀x fa,c.ms.lookup x=Jh fa->FH mN x fa)
   (as:∀x,c.as.contains x=true->mN x=none/\J9 (.type "object") x=pure none)
end
section
variable {A:Around}{F:cU}{lc:Lc}{σ:Sg}{σ':Sg}{st:St}{z:St}{s:Js}{s':Js}{Q:V->St->Prop}
inductive FP(σ:Sg)(n:Nat)(s:Js)(x C d:Nat)(m:Lc):Prop
 |mk (f:Str->Option Value) (o:Obj) (hi:s.heap.Inst (σ.a x) C f) (hk:mT σ n s m f) (hn:∀y,m.lookup y=none->f y=none) (ho:s.heap.get? (σ.a x)=Jh o) (hd:o.dict=Jh (σ.a d)) (dn:d<n) (ne:σ.a d≠σ.a x)
theorem mc{x C d m}(g:st[x]?=Jh (.inst C d))(c:st[d]?=Jh (.ns m))(r:Rel σ st s):FP σ st.length s x C d m:=by
 obtain⟨o,i,hc,hd,dn,p⟩:=r.at_ x _ g;obtain⟨f,h,j,k⟩:=r.at_ d _ c;have ne:σ.a d≠σ.a x:=λe=>by
  have:=r.inj d x dn (List.getElem?_eq_some_iff.mp g).1 e;subst this;have c:=g▸c;cases c
 exact⟨f,o,⟨o,i,hc,p,.inr ⟨σ.a d,hd,ne,h⟩⟩,j,k,i,hd,dn,ne⟩
noncomputable def hF(A:Around)(v:V)(name:Str)(st:St)(Q:V->St->Prop):Prop:=∀σ s w,RV σ st.length s v w->Inv s->Rel σ st s->Wp A (Uv w name true) (PV σ st s Q) s
theorem mL{o name env whole}(h:fc o=true):attributeBase o name env whole=whole:=by
 cases o with
 |Call f c d p=>cases c with
  |nil=>cases d with
   |nil=>exact Jq (h:false=true)
   |cons k e=>cases f <;> rfl
  |cons a as=>cases f <;> rfl
 |_=>rfl
theorem Ax{o name pos}(g:fc o=true)(h:cx A F o lc st λv a=>hF A v name a Q):cx A F (.Attribute o name pos) lc st Q:=by
 intro σ s p;rw[arm_eval_Attribute,mL g];refine Jf (bH (h σ s p) λu s₁ d a v c j q=>?_);refine Jf (LF ?_);refine Jf (JD (bH (q d s₁ u j c.inv c.rel) λw i e st₂ b f g q=>?_));exact Jf (S4 (Jk ⟨e,st₂,c.trans f,b,g,q⟩))
theorem mO{j T nm b}(d:b.fn=true)(B:i4 T b.id nm)(f:∀σ s,Rel σ st s->∃o,s.heap.get? (σ.a j)=Jh o/\o.cls=.type T/\o.dict=none/\notCls o.data=true)(h:Q (.bm b j) st):hF A (.r j) nm st Q:=by
 intro σ s w ⟨q,e⟩ i r;subst e;refine Jg λu=>?_;obtain⟨o,p,hc,hd,g⟩:=f σ s r;refine u ?_;exact m9 B p hc hd g ⟨_,_,(d8 (X:=de) (h':=s.heap.push (fA b.id (σ.a j))) (k:=s.toks+1) i r (Jl _) (by rw[JA];exact JL _) (λc y e=>Jm _ e) (JC _)),.bm b j,⟨_,rfl,.inr rfl,by unfold Bm.obj;refine(d).symm▸?_;exact Ju _ rfl,q⟩,h⟩
theorem mz{o:Obj}{K}[DecidableEq K]{knd:KeyKind W.prog W.w K}{ws}(h:o.IsDictOf knd ws):o.cls=.type "dict"/\o.dict=none/\notCls o.data=true:=by
 refine Jg λa=>?_;obtain⟨es,ep,e,hd,_⟩:=h;refine a ?_;exact⟨e.1,e.2.1,by refine(hd).symm▸?_;rfl⟩
mutual
theorem tj{j o}(e:st[j]?=Jh o)(c:DC o=Jh .dict):∀σ s,Rel σ st s->∃o,s.heap.get? (σ.a j)=Jh o/\o.cls=.type "dict"/\o.dict=none/\notCls o.data=true:=λσ s r=>by
 have q:=r.at_ j o e;cases o with
 |dict d=>obtain⟨o,ws,c,hd,_⟩:=q;exact⟨o,c,mz hd⟩
 |dicti d=>obtain⟨o,ws,c,hd,_⟩:=q;exact⟨o,c,mz hd⟩
 |_=>cases c
theorem v7{j l}(e:st[j]?=Jh (.set l)):∀σ s,Rel σ st s->∃o,s.heap.get? (σ.a j)=Jh o/\o.cls=.type "set"/\o.dict=none/\notCls o.data=true:=λσ s r=>by
 refine Jg λd=>?_;obtain⟨es,ep,t,c,_⟩:=r.at_ j _ e;refine d ?_;exact⟨_,c,rfl,rfl,rfl⟩
end
noncomputable def oq(A:Around)(a:V)(name:Str)(v:V)(st:St)(Q:St->Prop):Prop:=∀σ s u w,RV σ st.length s a u->RV σ st.length s v w->Inv s->Rel σ st s->Wp A (setAttr u name w) (λZ s'=>PB σ st s (λZ=>Q) true s') s
inductive FI(C:Addr)(name:Str)(st:St)(x:Nat)(R:Addr->Prop):Prop
 |mk (d:Nat) (m:Lc) (c:iy) (fa:Addr) (hc:ou C c) (h1:st[x]?=Jh (.inst C d)) (h2:st[d]?=Jh (.ns m)) (hf:c.ms.lookup name=Jh fa) (hm:m.lookup name=none) (q:R fa)
noncomputable def made(A:Around):Around:={A with depth:=A.depth+1,units:=A.units+1}
theorem lA{C vs}:A.under (.builtin "type.__call__" ⟨.ref C::vs,[]⟩)=made A:=by
 obtain⟨hd,d,f,g,u⟩:=A;cases f <;> cases g <;> rfl
theorem xN{E nm q C N bs sn sub col dd k0 k1 k2 k3 k5 mN rest fI oI P}(c:s.heap.get? C=Jh (Tb nm q C N bs [.type "object"] true sn sub false col dd k0 k1 k2 k3 k5 "object.__new__"))(p:s.heap.Ns N mN)(hi:mN "__init__"=Jh (.ref fI))(i:s.heap.get? fI=Jh oI)(k:oI.cls=.type "function")(u:JH (Jz W.prog W.w) (A.under (.builtin "type.__call__" ⟨.ref C::rest,[]⟩)) (Ky (.ref fI) (.ref (s.heap.objs.size+1)::rest)) (λr s'=>r=.none/\P (.ref (s.heap.objs.size+1)) s') E
   {s with heap:=(s.heap.push {cls:=.type "dict",data:=.dict #[]}).push {cls:=.ref C,dict:=Jh s.heap.objs.size,data:=.plain}}) :
  JH (Jz W.prog W.w) A (Ky (.ref C) rest) P E s:=by
 obtain⟨h,g,d,t,os⟩:=s;dsimp only at c p i u;have z:=RX;have B:=tc_bind (.ref C);have D:(⟨h,g,d,t,os⟩:Js).TypeIs (.ref C) "type":=⟨_,c,rfl⟩
 refine Lh (MR ?_);show JH _ _ (callAny (.ref C) _) _ _ _
 repeat (any_goals (first | assumption | with_reducible refine N1 c ?_ | wp_step))
 refine⟨rfl,?_⟩;refine R3 (Nw _ (by decide +kernel)) Vj (wpAny_check_type_call_sub c ?_)
 repeat (first | with_reducible refine N1 c ?_ | with_reducible refine wpAny_madeBy_exc c ?_ | wp_step)
 refine codeAny_call_builtin_code (Nw _ F.objNew.quiet) (wpAny_check_obj_new F.objNew c ?_);refine codeAny_obj_new F.objNew c p hi ?_;have a:=Jm {cls:=.ref C,dict:=Jh h.objs.size,data:=.plain} (Jm {cls:=.type "dict",data:=.dict #[]} c);have f:((h.push {cls:=.type "dict",data:=.dict #[]}).push {cls:=.ref C,dict:=Jh h.objs.size,data:=.plain}).Ns N mN :=
  let ⟨o,es,ep,e,r⟩:=p;⟨o,es,ep,Jm _ (Jm _ e),r⟩
 have j:((h.push {cls:=.type "dict",data:=.dict #[]}).push {cls:=.ref C,dict:=Jh h.objs.size,data:=.plain}).get? (h.objs.size+1)=Jh {cls:=.ref C,dict:=Jh h.objs.size,data:=.plain}:=by heap_get
 repeat (first | with_reducible refine N1 j ?_ | (with_reducible refine wpAny_isSubtype_exc a ?_;refine((show(J3 C::[Qk "object"]).contains (.ref C)=true from by simp)).symm▸?_) | wp_step)
 refine wpAny_typeLookup_exc a f (show S9 (.type "object")=pure [.type "object"] from by kernel_rfl) (show J9 (.type "object") "__init__"=pure (Jh (.builtin "object.__init__")) from by rw[J4,JM];kernel_rfl) ?_;refine(hi).symm▸?_;refine JD (Jf ?_);refine Jf (Qb (T:="function") ⟨_,(Jm {cls:=.ref C,dict:=Jh h.objs.size,data:=.plain} (Jm {cls:=.type "dict",data:=.dict #[]} i)),k⟩ ?_);rw[if_pos (by decide)];refine Jk (Jf (JB u (λr s' y=>?_) λZ Y x=>x));obtain⟨rfl,v⟩:=y
 wp_walk
 exact v
theorem rB{C N fI mN vs of}(c:ClsAt C N mN)(hi:mN "__init__"=Jh (.ref fI))(J:W.h₁.get? fI=Jh of)(j:of.cls=.type "function")(h:bI (made A) (.v (.ref fI)) (.r (st.length+1)::vs) ((st++[.ns []])++[.inst C st.length]) λv z=>v=.n/\Q (.r (st.length+1)) z):bI A (.v (.ref C)) vs st Q:=by
 intro σ s w ws hw B i r;subst hw;obtain⟨nm,q,bs,sn,sub,D,M,P,R,S,T,k5,F,u⟩:=c.now i;refine xN F u hi (i.old.get_of_cls J (by refine(j).symm▸?_;exact λq=>JT q)) j ?_;refine(lA).symm▸?_;have p:(s.heap.push {cls:=.type "dict",data:=.dict #[]}).get? s.heap.objs.size=Jh {cls:=.type "dict",data:=.dict #[]}:=Ju _ rfl;have hsz:(s.heap.push {cls:=.type "dict",data:=.dict #[]}).objs.size=s.heap.objs.size+1:=JA ..;have d:=dY (X:=de) (b:=s.heap.objs.size) (h':=s.heap.push {cls:=.type "dict",data:=.dict #[]}) (k:=s.toks) (o:=.ns []) i r (Jl _) (λc y e=>Jm _ e) (by rw[hsz];exact JC _) (Jl _)
  (λZ=>⟨_,Heap.Ns1.of_empty ⟨_,#[],_,p,rfl,λe H=>absurd H (by simp),λZ=>rfl⟩,λZ Y q=>(nomatch q),λZ Y=>rfl⟩) (λZ Y U q=>nomatch q)
 have g:(st++[O.ns []]).length=st.length+1:=Ji;have E:(σ.new st.length s.heap.objs.size).a st.length=s.heap.objs.size:=if_pos rfl;have f:=dY (X:=de) (b:=s.heap.objs.size+1) (h':=(s.heap.push {cls:=.type "dict",data:=.dict #[]}).push {cls:=.ref C,dict:=Jh s.heap.objs.size,data:=.plain}) (k:=s.toks) (o:=.inst C st.length) d.inv d.rel (by refine(hsz).symm▸?_;exact Jl _) (λc y e=>Jm _ e) (by simp only[JA];exact JC _) (Jl _)
  (λx=>⟨_,by exact(hsz)▸Ju _ rfl,rfl,by rw[g] at x ⊢;rw[x.ext st.length (JL _),E],by rw[g];exact Kh (JL _),by intro c q;cases q⟩) (λZ Y U q=>nomatch q)
 rw[g] at f;have x:=d.trans f;refine bH (h _ _ (.ref fI) (.ref (s.heap.objs.size+1)::ws) rfl ⟨_,ws,rfl,⟨by rw[Ji];refine(g).symm▸?_;exact JL _,congrArg J3 (if_pos rfl).symm⟩,B.step r x⟩ x.inv x.rel) λv s' σ' z a y G e=>?_;obtain⟨rfl,q⟩:=e;subst G;refine⟨rfl,σ',z,x.trans y,.r (st.length+1),⟨Jp (by rw[Ji,g];exact JL _) y.x.len,?_⟩,q⟩;rw[y.x.ext _ (by rw[Ji,g];exact JL _)];exact congrArg J3 (if_pos rfl).symm
end
section
variable {K:Type}[DecidableEq K]
noncomputable def b6:List (K×V)->K->Option V
 |[],Z=>none
 |p::l,k=>if p.1=k then Jh p.2 else b6 l k
noncomputable def gN:List (K×V)->K->V->List (K×V)
 |[],k,v=>[(k,v)]
 |p::l,k,v=>if p.1=k then(p.1,v)::l else p::gN l k v
mutual
theorem mB(p:K×V)(l:List (K×V))(k:K):b6 (p::l) k=if p.1=k then Jh p.2 else b6 l k:=rfl
theorem pF(p:K×V)(l:List (K×V))(k:K)(v:V):gN (p::l) k v=if p.1=k then(p.1,v)::l else p::gN l k v:=rfl
theorem eE{p:K×V}{l:List (K×V)}{k:K}(e:p.1=k):b6 (p::l) k=Jh p.2:=if_pos e
theorem c9{p:K×V}{l:List (K×V)}{k:K}(e:¬p.1=k):b6 (p::l) k=b6 l k:=if_neg e
end
noncomputable def pG(l:List (K×V))(k:K):List (K×V):=l.filter λp=>decide (p.1≠k)
theorem rk{l:List (K×V)}{k:K}{v:V}(h:b6 l k=none):gN l k v=l++[(k,v)]:=by
 induction l with
 |nil=>rfl
 |cons p l a =>
  rw[mB] at h;by_cases e:p.1=k
  ·have h:=(if_pos e)▸h;cases h
  ·rw[if_neg e] at h;refine KH (pF ..) ?_;rw[if_neg e,a h,PQ]
omit [DecidableEq K] in
theorem RK.oW{σ n s}{ws:List (K×Value)}(h:RK σ n s [] ws):ws=[]:=List.map_eq_nil_iff.mp h.1
omit [DecidableEq K] in
theorem RK.jz{σ:Sg}{n:Nat}{s:Js}{p:K×V}{l:List (K×V)}{ws:List (K×Value)}(h:RK σ n s (p::l) ws):∃w ws',ws=(p.1,w)::ws'/\RV σ n s p.2 w/\RK σ n s l ws':=by
 obtain⟨a,w,t,e,c,d⟩:=h;cases ws with
 |nil=>cases e
 |cons x ws =>
  rw[Ke,Ke] at a;replace e:=Ke▸e;cases e;exact⟨x.2,ws,by exact((KP a).1)▸rfl,c,(KP a).2,d⟩
omit [DecidableEq K] in
theorem RK.cons{σ:Sg}{n:Nat}{s:Js}{k:K}{v:V}{w:Value}{l:List (K×V)}{ws:List (K×Value)}(h:RV σ n s v w)(t:RK σ n s l ws):RK σ n s ((k,v)::l) ((k,w)::ws):=⟨congrArg (k:: ·) t.1,w,_,rfl,h,t.2⟩
mutual
theorem RK.get{σ n s k l}:∀ {ws:List (K×Value)},RK σ n s l ws->(∀v,b6 l k=Jh v->∃w,Qe ws k=Jh w/\RV σ n s v w)/\(b6 l k=none->Qe ws k=none):=by
 induction l with
 |nil=>intro ws h;refine(h.oW).symm▸?_;exact⟨λZ q=>(by cases q),λZ=>rfl⟩
 |cons p l d =>
  intro ws h;refine Jg λg=>?_;obtain⟨w,f,rfl,a,c⟩:=h.jz;refine g ?_;rw[mB];unfold Qe;by_cases e:p.1=k
  ·rw[if_pos e,List.find?_cons_of_pos (by simpa using e)];exact⟨λv q=>⟨w,rfl,JP q▸a⟩,λq=>by cases q⟩
  ·rw[if_neg e,List.find?_cons_of_neg (by simpa using e)];exact d c
theorem kL{k:K}{w v:Value}{ws:List (K×Value)}(h:k∉ws.map (·.1)):Ob ((k,w)::ws) k v=(k,v)::ws:=by
 unfold Ob;rw[if_pos (by simp),Ke,if_pos rfl]
 congr 1
 rw[K3 (g:=id) λx a=>?_,OF];exact if_neg fun(e:x.1=k)=>h (e▸LQ a)
theorem kM{k:K}{p:K×Value}{v:Value}{ws:List (K×Value)}(h:p.1≠k):Ob (p::ws) k v=p::Ob ws k v:=by
 unfold Ob;rw[List.any_cons,show decide (p.1=k)=false from decide_eq_false h,Bool.false_or]
 split
 ·rw[Ke,if_neg h]
 ·rfl
end
mutual
theorem RK.set{σ n s k v w}(d:RV σ n s v w){l}:∀ {ws:List (K×Value)},RK σ n s l ws->(ws.map (·.1)).Nodup->RK σ n s (gN l k v) (Ob ws k w):=by
 induction l with
 |nil=>intro ws h _;refine(h.oW).symm▸?_;exact RK.cons d ⟨rfl,rfl⟩
 |cons p l g =>
  intro ws h a;obtain⟨u,i,rfl,f,c⟩:=h.jz;rw[Ke,Tj] at a;rw[pF];by_cases e:p.1=k
  ·rw[if_pos e];subst e;rw[kL a.1];exact RK.cons d c
  ·rw[if_neg e,kM (p:=(p.1,u)) e];exact RK.cons f (g c a.2)
theorem RK.del{σ n s k l}:∀ {ws:List (K×Value)},RK σ n s l ws->RK σ n s (pG l k) (without ws k):=by
 induction l with
 |nil=>intro ws h;refine(h.oW).symm▸?_;exact⟨rfl,rfl⟩
 |cons p l c =>
  intro ws h;refine Jg λg=>?_;obtain⟨u,f,rfl,d,a⟩:=h.jz;refine g ?_;delta pG without;by_cases e:p.1=k
  ·rw[NU (by simpa using e),NU (by simpa using e)];exact c a
  ·rw[NT (by simpa using e),NT (by simpa using e)];exact RK.cons d (c a)
end
end
structure gh{K:Type}[DecidableEq K](knd:KeyKind W.prog W.w K)(mk:List (K×V)->O):Prop where
 to:∀σ n s a kvs,RO σ n s a (mk kvs)->AP knd s.heap a (RK σ n s kvs)
 of:∀σ n s a kvs,AP knd s.heap a (RK σ n s kvs)->RO σ n s a (mk kvs)
 gen:∀kvs g c L,mk kvs≠.gen g c L
 ty:∀kvs,DC (mk kvs)=Jh .dict
mutual
theorem dict_str:gh (strKind W.prog W.w) .dict:=⟨λZ Y U S R=>id,λZ Y U S R=>id,λZ Y U S q=>(O.noConfusion q),λZ=>rfl⟩
theorem dict_int:gh (Ut W.prog W.w) .dicti:=⟨λZ Y U S R=>id,λZ Y U S R=>id,λZ Y U S q=>(O.noConfusion q),λZ=>rfl⟩
end
noncomputable def nf{K:Type}[DecidableEq K](knd:KeyKind W.prog W.w K)(a:V)(k:K):Prop:=∀σ n s w,RV σ n s a w->knd.is k w=true
mutual
theorem et{x t}:nf (strKind W.prog W.w) (.s x t) x:=λZ Y U S a=>by obtain⟨_,e,_⟩:=a;exact e▸Rh _ _ _ _
theorem jq{x}:nf (Ut W.prog W.w) (.i x) x:=λZ Y U S a=>by obtain⟨_,e⟩:=a;exact e▸intKind_is _ _ _ _
end
noncomputable def jB(A:Around)(o k v:V)(st:St)(Q:St->Prop):Prop:=∀σ s a b c,RV σ st.length s o a->RV σ st.length s k b->RV σ st.length s v c->Inv s->Rel σ st s->Wp A (Uq a b c) (λZ s'=>PB σ st s (λZ=>Q) true s') s
noncomputable def Dy(A:Around)(o k:V)(st:St)(Q:St->Prop):Prop:=∀σ s a b,RV σ st.length s o a->RV σ st.length s k b->Inv s->Rel σ st s->Wp A (delItem a b) (λZ s'=>PB σ st s (λZ=>Q) true s') s
section
variable {A:Around}{F:cU}{lc:Lc}{σ σ':Sg}{st u:St}{s s':Js}{Q:V->St->Prop}{K:Type}[DecidableEq K]{knd:KeyKind W.prog W.w K}{mk:List (K×V)->O}{d:List (K×V)}{j:Nat}{k:K}{f v:V}
theorem jx{pos:UL}(D:gh knd mk)(h:Q (.r st.length) (st++[mk []])):cx A F (.Dict [] [] pos) lc st Q:=by
 intro σ s p;have x:=dY (X:=de) (b:=s.heap.objs.size) (h':=s.heap.push {cls:=.type "dict",data:=.dict #[]}) (k:=s.toks) (o:=mk []) p.i p.r (Jl _) (λc y e=>Jm _ e) (by rw[JA];exact JC _) (Jl _)
  (λZ=>D.of _ _ _ _ _ ⟨_,[],Ju _ rfl,⟨#[],0,⟨rfl,rfl,rfl⟩,rfl,λZ a=>by simp at a,U8,OD⟩,rfl,rfl⟩) (λg c L q=>absurd q (D.gen _ g c L))
 exact wpAny_Dict_empty ⟨_,_,x,.r st.length,⟨by rw[Ji];exact JL _,congrArg J3 (if_pos rfl).symm⟩,h⟩
theorem jh(T:bK)(r:Rel σ st s)(h:j<st.length):(σ.a j == Rg)=false:=by
 rw[beq_eq_false_iff_ne];intro e;exact absurd (e▸r.above j h) (Nat.not_le.mpr (PE (show Rg<KS by decide) (Inv.jl T)))
theorem mw(D:gh knd mk)(e:st[j]?=Jh (mk d))(y:nf knd f k)(x:b6 d k=Jh v)(h:Q v st):Dw A (.r j) f st Q:=by
 rintro g c C σ s a b ⟨H,q⟩ u i r;subst q;refine Jg λG=>?_;obtain⟨o,ws,z,hd,B⟩:=D.to _ _ _ _ _ (r.at_ j _ e);have p:s.heap.DictOf knd (σ.a j) ws:=Heap.dictOf_iff.mpr ⟨o,z,hd⟩;obtain⟨w,hw,E⟩:=(RK.get (k:=k) B).1 v x;refine G ?_;exact S7 p.typeIs PySem.F.slot_dict_getitem.lookup (wpAny_getItem_of (y _ _ _ _ u) p.mapOf hw ⟨σ,st,bT i r (JC _),v,E.step r (bT i r (JC _)),h⟩) (da C _ _)
inductive HS(P R S:Value->Prop)(ws:List Value):Prop
 |mk (x y z:Value) (e:ws=[x,y,z]) (h:P x) (h':R y) (h'':S z)
theorem y5{n a b c ws}(h:cf σ n s [a,b,c] ws):HS (RV σ n s a) (RV σ n s b) (RV σ n s c) ws:=by
 obtain⟨x,t,rfl,d,e⟩:=h;obtain⟨y,z,rfl,f,g⟩:=iL e;exact⟨x,y,z,rfl,d,f,g⟩
end
section
variable {A:Around}{F:cU}{lc:Lc}{σ σ':Sg}{st p:St}{s s':Js}{Q:V->St->Prop}{K:Type}[DecidableEq K]{knd:KeyKind W.prog W.w K}{mk:List (K×V)->O}{d:List (K×V)}{j:Nat}{k:K}{u v dv:V}
structure I8(kvs:List (K×V))(k:K)(dv:V)(st:St)(o:O)(j:Nat)(Q:V->St->Prop):Prop where
 old:∀v,b6 kvs k=Jh v->Q v st
 new:b6 kvs k=none->Q dv (st.set j o)
mutual
theorem gS{X o}(i:Inv s)(r:Rel σ st s)(f:RO σ st.length s (σ.a j) o)(d:∀g c L,o≠.gen g c L):bO X σ st s σ (st.set j o) s:=by
 have e:(st.set j o).length=st.length:=MG;refine⟨e▸.refl,i,⟨λh y q=>?_,e▸r.above,e▸r.inj,r.zlt,e▸r.zoff⟩,λZ Y h U=>h,λh g c L q=>?_,Jl _⟩
 ·refine(e).symm▸?_;by_cases z:h=j
  ·subst z;have q:=(K0 (by have:=(List.getElem?_eq_some_iff.mp q).1;rwa [e] at this))▸q;cases q;exact f
  ·rw[Mp (Mj z)] at q;exact r.at_ h y q
 ·by_cases z:h=j
  ·subst z;have q:=(K0 (by have:=(List.getElem?_eq_some_iff.mp q).1;rwa [e] at this))▸q;cases q;exact absurd rfl (d g c L)
  ·rw[Mp (Mj z)] at q;exact .inl ⟨h,c,L,q⟩
theorem q8{o d}(e:st[j]?=Jh (.dictx o d))(r:Rel σ st s):RO σ st.length s (σ.a j) (.dict d):=by
 obtain⟨c,ws,hd,f⟩:=r.at_ j _ e;exact⟨o,ws,c,hd,f⟩
end
mutual
theorem mP(a:Value):Oc "dict.keys" ⟨[a],[]⟩:=by kernel_rfl
theorem kS(a:Value):Oc "dict.items" ⟨[a],[]⟩:=by kernel_rfl
end
theorem t5{b}(d:b.fn=false)(i:Inv s)(r:Rel σ st s)(f:j<st.length)(h:Q (.bm b j) st):PV σ st s Q (.ref s.heap.objs.size) {s with heap:=s.heap.push (i5 b.id (σ.a j))} :=
 ⟨_,_,d8 (X:=de) (h':=s.heap.push (i5 b.id (σ.a j))) (k:=s.toks) i r (Jl _) (by rw[JA];exact JL _) (λc y e=>Jm _ e) (Jl _),.bm b j,⟨_,rfl,.inr rfl,by unfold Bm.obj;refine(d).symm▸?_;exact Ju _ rfl,f⟩,h⟩
mutual
theorem nY(T:bK)(D:gh knd mk)(e:st[j]?=Jh (mk d))(h:Q (.bm .keys j) st):MethW A "dict.keys" (.r j) [] st Q:=by
 intro σ s f ws y p i r;subst y;obtain⟨x,rfl,u,rfl⟩:=eI p;obtain⟨o,ws,z,hd,_⟩:=D.to _ _ _ _ _ (r.at_ j _ e);have q:s.heap.DictOf knd (σ.a j) ws:=Heap.dictOf_iff.mpr ⟨o,z,hd⟩;have k:=jh T r u;have g:MeetsIn W.prog W.w (Builtin.«dict.keys» ⟨[.ref (σ.a j)],[]⟩) (λZ R s=>s.TypeIs (.ref (σ.a j)) "dict"/\R (.ok (.ret (.ref s.heap.objs.size))) {s with heap:=s.heap.push (i5 "dict_keys" (σ.a j))}) :=
  .of_wp λA R s c=>by
   obtain⟨v,h⟩:=c;refine Jf ?_;refine Jf (SA v ?_);refine Jk ?_;show JH _ _ (P4 (σ.a j) >>= _) _ _ s;unfold P4;rw[if_neg (by refine(k).symm▸?_;exact K9)];refine Jf (Jk ?_);exact Jf (Kj (Jk ⟨_,rfl,h⟩))
 exact OJ QM q.typeIs PySem.F.entry_dict_keys (mP _) g ⟨q.typeIs,t5 (b:=.keys) rfl i r u h⟩
theorem Dj(T:bK)(D:gh knd mk)(e:st[j]?=Jh (mk d))(h:Q (.bm .items j) st):MethW A "dict.items" (.r j) [] st Q:=by
 intro σ s f ws p c i r;subst p;obtain⟨x,rfl,k,rfl⟩:=eI c;obtain⟨o,ws,q,hd,_⟩:=D.to _ _ _ _ _ (r.at_ j _ e);have g:s.heap.DictOf knd (σ.a j) ws:=Heap.dictOf_iff.mpr ⟨o,q,hd⟩;exact OJ QC g.typeIs PySem.F.entry_dict_items (kS _) (meets_dict_items knd _ (jh T r k)) ⟨⟨_,g⟩,t5 (b:=.items) rfl i r k h⟩
end
end
section
variable {A:Around}{F:cU}{lc:Lc}{σ:Sg}{σ':Sg}{st:St}{z:St}{s:Js}{s':Js}{Q:V->St->Prop}{g:Expr}
noncomputable def oF(a b:Int):Bool:=decide (-(2 ^ 62)<=a)&&decide (a<2 ^ 62)&&decide (-(2 ^ 62)<=b)&&decide (b<2 ^ 62)
set_option tactic.hygienic true in
theorem oO(a b:Int):UQ a b 1=((b-a).toNat:Int):=by
 refine KH (rangeSize_one ..) ?_
 split
 ·rename_i h
  exact(My (OM (Oq h))).symm
 ·rename_i h
  rw[R8 (Int.sub_nonpos_of_le (Int.not_lt.mp h))];rfl
theorem oH(x:Str):(sgn x).length=x.cps.size:=by unfold sgn;rw[Jt,Jx]
theorem w5{n x k v w}(a:(sgn x)[k]?=Jh v)(h:T7 x k w):RV σ n s v w:=by
 obtain⟨c,u,d,rfl⟩:=h;unfold sgn at a;have a:=JY▸a;have a:=JZ▸a;have a:=d▸a;obtain rfl:=JP a;exact⟨u,rfl,λq=>absurd rfl q⟩
inductive Fx(b:Bm)(f:Str×V->V)(c:V)(st:St)(R:(St->Prop)->List V->St->Prop):Prop
 |mk (j:Nat) (kvs:List (Str×V)) (hc:c=.bm b j) (hj:st[j]?=Jh (.dict kvs)) (q:∀o,R (λst=>st[j]?=Jh (.dictx o kvs)) (kvs.map f) (st.set j (.dictx o kvs)))
theorem qN{iter}(T:bK)(hA:A.handled=none){R}(h:cx A F iter lc st λc J=>Fx .keys (λp=>.s p.1 0) c J R):AO A F g iter lc st R:=by
 have H {s K} [DecidableEq K] {knd:KeyKind W.prog W.w K} {v d ws ep P} (hv:s.heap.get? v=Jh (i5 "dict_keys" d)) (hm:s.heap.DictAt knd d ws ep) (hQ:P (.ref s.heap.objs.size) {s with heap:=s.heap.push {cls:=.type "dict_keyiterator",data:=.fields #[.ref d,.int 0 0,.int ws.length 0,.int ep 0]}}):Wp A (MV (.ref v)) P s:=by
  have hT:s.TypeIs (.ref v) "dict_keys":=⟨_,hv,rfl⟩
  refine Jg λzz=>?_;obtain⟨o,es,S,hc,M,hk,hp,hn⟩:=id hm;refine zz ?_;have D (a:Value):Oc "dict_keys.__iter__" ⟨[a],[]⟩:=by kernel_rfl
  have C:NO Rf "dict_keys.__iter__"=Jh Builtin.«dict_keys.__iter__»:=Nj (by kernel_rfl);have f:UK "dict_keys" "__iter__" "dict_keys.__iter__" :=
   .of (owner:="dict_keys") (n:="__iter__") (by refine(J4 ..).symm▸?_;rw[JM];kernel_rfl) (by decide +kernel) (by decide +kernel) (by decide +kernel)
    (by first | exact .inl (by decide +kernel) | exact .inr (by decide +kernel)) (by refine(KN ..).symm▸?_;kernel_rfl)
  refine Qc hT f (Kb f hT C ?_ (D _));refine Jf (Jk ?_);refine Jf ?_;refine Jf (K7 hv rfl (x:=.ref d) rfl (Jk ?_));refine Jf ?_;refine Jf (Um S M ?_);refine Jf (wpAny_dictEpoch S M ?_);have hsz:es.size=ws.length:=by refine(hp.length)▸?_;simp
  have al:SY "dict_keyiterator"=false:=by decide
  simp only[al,O5,if_false];refine Kj (Jk ⟨_,rfl,"dict_keyiterator",_,⟨_,Ju _ rfl,rfl⟩,PySem.F.slot_dict_keyiterator_next.lookup,?_⟩)
  simpa [LO,hsz] using hQ
 have aa {σ} {s:Js} {n:Nat} {K:Type} {G:List (K×V)} {ws:List (K×Value)} (h:RK σ n s G ws):ws.length=G.length:=by have:=congrArg L6 h.1;simpa using this
 have ai {σ s n K G}:∀ {ws:List (K×Value)} {k:Nat} {p:K×V},RK σ n s G ws->G[k]?=Jh p->∃w,ws[k]?=Jh (p.1,w)/\RV σ n s p.2 w:=by
  induction G with
  |nil=>intro ws k p _ q;cases q
  |cons x l ih =>
   intro ws k p h q;obtain⟨w,aw,rfl,h1,h2⟩:=h.jz;cases k with
   |zero=>cases q;exact⟨w,rfl,h1⟩
   |succ k=>exact ih (k:=k) h2 q
 intro σ s p;refine bH (h σ s p) λw s₁ B J c z hc q=>?_;refine Jg λzz=>?_;obtain⟨j,G,rfl,hj,q⟩:=q;obtain⟨a,rfl,_,hv,af⟩:=hc;obtain⟨o,ws,S,⟨es,ep,aj,M,ak,hp,hn⟩,hr⟩:=z.rel.at_ j _ hj;refine zz ?_;have ac:∀h:Heap,h.get? (B.a j)=Jh o->h.DictAt (strKind W.prog W.w) (B.a j) ws ep:=λh S=>⟨o,es,S,aj,M,ak,hp,hn⟩
 have hl:=aa hr;have wk:=Walks.dictKeys (knd:=strKind W.prog W.w) (A:=A) hA s₁.heap.objs.size (B.a j) (J1 (z.rel.lt af)) ws ep;have y:=dp (X:=de) (o:={cls:=.type "dict_keyiterator",data:=.fields #[.ref (B.a j),.int 0 0,.int ws.length 0,.int ep 0]}) z.inv z.rel;have gl:(J.set j (.dictx o G)).length=J.length:=MG;refine H hv (ac _ S) ⟨B,_,(z.trans y).trans (gS (X:=de) (j:=j) (o:=.dictx o G) y.inv y.rel ⟨Jm _ S,ws,⟨es,ep,aj,M,ak,hp,hn⟩,hr.mono y.x z.rel.apart⟩ (λZ Y U q=>O.noConfusion q)),.r j,.ref (B.a j),⟨by refine(gl).symm▸?_;exact af,rfl⟩,(· =s₁.heap.objs.size),λk h=>h.IsKeyIter s₁.heap.objs.size (B.a j) k ws.length ep,λst=>st[j]?=Jh (.dictx o G),G.map λp=>.s p.1 0,
  ⟨λb e=>e▸z.inv.size,λk h b an e=>by obtain⟨o,S,hc,_⟩:=an;exact⟨o,e▸S,bN hc⟩,λk h h' ao hk=>by obtain⟨o,S,r⟩:=ao;exact⟨o,hk _ rfl o S,r⟩,λk v ab st₂ Q hk hI hd hw off i r=>?_,λab st₂ Q hI hd hw off i r=>?_⟩,
  ⟨_,Ju _ rfl,rfl,rfl⟩,λb e=>e▸(z.x.grow),λb e=>⟨λhz=>Jw _ (e▸z.rel.zlt b hz),λh hh e'=>Jw _ (Sq (z.rel.lt (gl▸hh)) (e.symm.trans e'.symm))⟩,by exact(K0 af).symm▸rfl,q o⟩
 ·rw[JY,LZ] at hk;refine Jg λzz=>?_;obtain⟨pp,hk,rfl⟩:=hk;obtain⟨E,_⟩:=r.at_ j _ hd;obtain⟨_,e2⟩:=hw;refine zz ?_;rw[<-Mq e2] at E;refine Jg λzz=>?_;obtain⟨w',as,_⟩:=ai hr hk;refine zz ?_;refine wpAny_toks (bS (wk.item k Q _ _ (show k<ws.length from by rw[hl];exact(List.getElem?_eq_some_iff.mp hk).1) ⟨hI,ac _ E⟩ λx h' tk hx am ag ae ah=>⟨x,rfl,?_⟩));obtain⟨oi,ar,aq,_⟩:=am.1;refine eZ ar aq (by decide) ⟨ab,cW T i r z.inv.size rfl (off _ rfl) (λb o q e=>ag b o (by simpa using q) e) ae ah,?_,am.1⟩;obtain⟨av,u,cq,au⟩:=hx;replace cq:=as▸cq;cases cq;obtain⟨t,rfl⟩:=Mr au;exact⟨t,rfl,λq=>absurd rfl q⟩
 ·obtain⟨E,_⟩:=r.at_ j _ hd;obtain⟨_,e2⟩:=hw;rw[<-Mq e2] at E;have ap:Q.heap.IsKeyIter s₁.heap.objs.size (B.a j) ws.length ws.length ep:=by rw[Jt,<-hl] at hI;exact hI
  exact wpAny_toks (bS (wk.done Q _ _ ⟨ap,ac _ E⟩ λh' tk ag ae ah=>⟨rfl,cW T i r z.inv.size rfl (off _ rfl) (λb o q e=>ag b o (by simpa using q) e) ae ah⟩))
noncomputable def f3(x:Str):String:=if x.cps.all (· < 128) then "str_ascii_iterator" else "str_iterator"
theorem iZ{prog w A}(c:A.handled=none)(a:Addr)(x:Str)(t:Qx):Pd prog w A a [a] x.cps.size (T7 x) (λi h=>h.IsStrIter a (f3 x) x t i):=by
 unfold f3
 split
 ·exact Pd.strAscii c a x t
 ·exact Pd.strWide c a x t
inductive FY(A:Around)(it:Addr)(σ:Sg)(n:Nat)(s:Js)(items:List V)(Ix:Nat->Heap->Prop):Prop
 |mk (fp:List Addr) (P:Nat->Value->Prop) (S:Nat->Heap->Prop) (d:Pd W.prog W.w A it fp items.length P S) (hfp:∀b∈fp,b=it∨σ.z b∨∃h,h<n/\σ.a h=b) (to:∀k,Ix k s.heap->S k s.heap) (of:∀k h,S k h->Ix k h) (at_:∀k x,P k x->∃v,items[k]?=Jh v/\RV σ n s v x)
structure AK(it:Addr)(c:V)(w:Value)(dep:St->Prop)(items:List V)(Ix:Nat->Heap->Prop):Prop where
 solid:∀k h,Ix k h->∃o,h.get? it=Jh o/\cH o
 frame:∀k h h',Ix k h->(∀o,h.get? it=Jh o->h'.get? it=Jh o)->Ix k h'
 draw:∀(A:Around) σ st s,A.handled=none->dep st->RV σ st.length s c w->(¬σ.z it/\∀h,h<st.length->σ.a h≠it)->Rel σ st s->FY A it σ st.length s items Ix
theorem vc{it x t u}:AK it (.s x t) (.str x u) (λZ=>True) (sgn x) (λk h=>h.IsStrIter it (f3 x) x u k):=by
 refine⟨λk h e=>by obtain⟨o,g,hc,_⟩:=e;exact⟨o,g,bN hc⟩,λk h h' f B=>by obtain⟨o,g,r⟩:=f;exact⟨o,B o g,r⟩,λA σ st s y Z Y U r=>?_⟩;have d:=iZ (prog:=W.prog) (w:=W.w) y it x u;rw[<-oH] at d;refine⟨_,_,_,d,λb z=>.inl (by simpa using z),λZ q=>q,λZ Y q=>q,λk v j=>?_⟩;have i:=j;refine Jg λC=>?_;obtain⟨c,D,p,_⟩:=i;refine C ?_;have a:k<(sgn x).length:=by rw[oH];exact(Array.getElem?_eq_some_iff.mp p).1
 exact⟨_,Jo a,w5 (Jo a) j⟩
theorem qg{it l c vs dep}(la:LstAt c vs dep)(G:∀(σ:Sg) (st:St) (s:Js) (w:Value),RV σ st.length s c w->∀b,w=.ref b->σ.z b∨∃h,h<st.length/\σ.a h=b):AK it c (.ref l) dep vs (λk h=>h.IsListIter it l k):=by
 refine⟨λk h j=>by obtain⟨o,i,hc,_⟩:=j;exact⟨o,i,bN hc⟩,λk h h' p F=>by obtain⟨o,i,hc,hd⟩:=p;exact⟨o,F o i,hc,hd⟩,λA σ st s E hd hw off r=>?_⟩;obtain⟨l',items,m,e,i,B⟩:=la σ st s _ hw hd r;cases e;have hz:=G σ st s _ hw l rfl;have y:vs.length=items.size:=by refine(Jx)▸?_;exact(B.len).symm▸rfl
 have d:=UP (prog:=W.prog) (w:=W.w) E it l (λe=>hz.elim (λq=>off.1 (e▸q)) λu=>by obtain⟨h,q,z⟩:=u;exact off.2 h q (z.trans e):l≠it) items;rw[<-y] at d;refine⟨_,_,_,d,λb v=>?_,λk q=>⟨q,(⟨_,i,rfl,m,rfl⟩:s.heap.IsList l items)⟩,λk h q=>q.1,λk x C=>?_⟩
 ·simp only[Ub,JK,or_false] at v;exact v.imp id fun(e:b=l)=>e▸hz
 ·have g:k<vs.length:=by rw[y];exact(Array.getElem?_eq_some_iff.mp C).1
  refine Jg λH=>?_;obtain⟨w,f,D⟩:=B.get (Jo g);refine H ?_;have f:=JZ▸f;have f:=C▸f;obtain rfl:=JP f;exact⟨_,Jo g,D⟩
noncomputable def fM(items:List V):List V:=items.zipIdx.map λp=>.t [.i (p.2:Int),p.1]
theorem nW(items:List V):(fM items).length=items.length:=by unfold fM;simp
inductive FG(c:V)(st:St)(R:(St->Prop)->List V->St->Prop):Prop
 |text (x:Str) (t:Nat) (hc:c=.s x t) (q:R (λ_=>True) (sgn x) st)
 |list (h:Nat) (vs:List V) (hc:c=.r h) (hh:st[h]?=Jh (.list vs)) (q:R (λst=>st[h]?=Jh (.list vs)) vs st)
 |frozen (vs:List V) (hc:c=.l vs) (q:R (λ_=>True) vs st)
theorem qO{f e1 p pos tp elts x1 R}(T:bK)(hA:A.handled=none)(hf:∀Q':V->St->Prop,Q' (.g .enumerate) st->cx A F (.Name f p) lc st Q')(hp:bX e1=true)(h:cx A F e1 lc st λc G=>FG c G λH items st₂=>R H (fM items) st₂):AO A F (.Tuple elts x1 tp) (.Call (.Name f p) [e1] [] pos) lc st R:=by
 have J {A e it c w H items Ix elts x1 pos} (hA:A.handled=none) (D:AK it c w H items Ix) (ae:e≠it) (he:W.h₁.objs.size<=e) (hi:W.h₁.objs.size<=it) :
   pL A (.Tuple elts x1 pos) (.ref e) c w (λb=>b=e∨b=it) H (fM items) (λk h=>∃old,IsEnum h e it k old/\Ix k h):=by
  have Y {k:Nat} {v} (h:(fM items)[k]?=Jh v):∃u,items[k]?=Jh u/\v=.t [.i (k:Int),u]:=by
   unfold fM at h;rw[JY,RG,Option.map_map,LZ] at h;refine Jg λzz=>?_;obtain⟨u,h1,h2⟩:=h;refine zz ?_;exact⟨u,h1,by refine(h2)▸?_;simp⟩
  have ab:∀b,b=e∨b=it->W.h₁.objs.size<=b:=λb M=>M.elim (λq=>q▸he) λq=>q▸hi;refine⟨ab,λk h b al M=>by obtain⟨old,h1,h2⟩:=al;exact M.elim (λq=>⟨_,q▸h1,.inl (by intro q;cases q)⟩) λq=>q▸D.solid k h h2,λk h h' am hk=>by obtain⟨old,h1,h2⟩:=am;exact⟨old,hk e (.inl rfl) _ h1,D.frame k h h' h2 (hk it (.inr rfl))⟩,λk v σ st s hk ⟨old,h1,h2⟩ hd hw off i r=>?_,λσ st s ⟨old,h1,h2⟩ hd hw off i r=>?_⟩
  ·obtain⟨fp,P,S,d,ai,to,of,at_⟩:=D.draw A.in1 σ st s hA hd hw (off it (.inr rfl)) r;obtain⟨u,hu,rfl⟩:=Y hk;have ao:e∉fp:=λq=>(ai e q).elim ae λq=>q.elim (off e (.inl rfl)).1 λan=>by obtain⟨h,q,z⟩:=an;exact(off e (.inl rfl)).2 h q z
   refine wpAny_toks (bS (wpAny_pyNext_enum_itemD d h1 (to k h2) (List.getElem?_eq_some_iff.mp hu).1 ae ao λx h' tk hP ho aq hT hsz B aj ar=>⟨_,rfl,?_⟩));obtain⟨u',cq,hx⟩:=at_ k x hP;replace cq:=hu▸cq;cases cq;refine wpAny_letOwnedTupleGo_enum (item:=x) ho λag ah U=>?_;have hz:s.heap.objs.size<ag.objs.size:=by rw[U.1,hsz];exact JL _
   have y:=j4 (X:=λb=>b=e∨b=it) (σ':=σ.keep s.heap.objs.size) (k:=tk+1) T i r ab off (λb o q M=>(U.2 b λz=>q (.inl z)).trans (B b o (λz=>q (.inl z)) (λz=>q (.inr z)) M)) (Ku hz) ar
    (λZ=>rfl) (λZ=>.inl) λb q=>q.imp id fun(q:b=_)=>⟨JX q.symm,q▸hz⟩
   refine⟨_,y,⟨_,#[.int k tk,x],0,rfl,.inr rfl,(U.2 _ (Of (JE h1):s.heap.objs.size≠e)).trans hT,by show 2<=sizeLine;decide,_,_,rfl,⟨_,rfl⟩,_,_,rfl,RV.mono y.x (λb q=>⟨λz=>(off b z).1 q,r.zoff b q⟩) _ _ hx,rfl⟩,x,?_,D.frame (k+1) h' ag (of _ _ aq) λo ho=>(U.2 it (Mj ae)).trans ho⟩;rw[show((k+1:Nat):Int)=(k:Int)+1 by exact dy 17 20];exact ah
  ·obtain⟨fp,P,S,d,ai,to,of,at_⟩:=D.draw A.in1 σ st s hA hd hw (off it (.inr rfl)) r;rw[nW] at h1 h2;exact bS (wpAny_pyNext_enum_endD d h1 (to _ h2) λh' hx aj=>⟨rfl,fK T i r ab off (λb o q M=>hx b o (λz=>q (.inr z)) M) aj (Jl _)⟩)
 intro σ s pr;refine Nh (bH (hf (λv G=>v=.g .enumerate/\G=st) ⟨rfl,rfl⟩ σ s pr) λw s₁ au G v ac hv e=>?_);obtain⟨rfl,rfl⟩:=e;have hw:w=Bi.enumerate.val:=hv;subst hw;refine(cz pos F.env (show[e1].all bX=true by simp [hp])).symm▸?_;refine Lp (any_false _ _) (dI (args_cons (Q:=λvs st₂=>∃c,vs=[c]/\FG c st₂ λH items st₂=>R H (fM items) st₂) (h.mono λc G q=>args_nil ⟨c,rfl,q⟩)) (pr.step ac) λws C af st₂ vs E as q=>?_);obtain⟨c,rfl,q⟩:=q;obtain⟨w,rfl,hw⟩:=eI as;have ak:=ac.trans E;have fin:∀(h':Heap) (Ix:Nat->Heap->Prop) H items,IsEnum h' (C.heap.objs.size+1) C.heap.objs.size 0 .none->Ix 0 h'->AK C.heap.objs.size c w H items Ix->h'.objs.size=C.heap.objs.size+2->(∀b o,C.heap.get? b=Jh o->h'.get? b=Jh o)->H st₂->R H (fM items) st₂ ->
   Wp A (MV (.ref (C.heap.objs.size+1))) (PI A (.Tuple elts x1 tp) σ G s R) {C with heap:=h'}:=by
  intro h' Ix H items he ap D hsz B hd hR;have y:=c4 (X:=de) (h':=h') (k:=C.toks) E.inv E.rel B (by refine(hsz).symm▸?_;exact JG _ 2) (Jl _);have nw:∀b,b=C.heap.objs.size+1∨b=C.heap.objs.size->C.heap.objs.size<=b:=λb M=>M.elim (λq=>q▸JC _) λq=>JX q.symm;exact wpAny_pyIter_enum he ⟨af,st₂,ak.trans y,c,w,hw.step E.rel y,_,_,H,_,J hA D (M7 _) (Jn E.inv.size (JC _)) E.inv.size,⟨.none,he,ap⟩,λb M=>Jn (ak.x.grow) (nw b M),
   λb M=>⟨λz=>Jw _ (Jp (E.rel.zlt b z) (nw b M)),λh q z=>Jw _ (Jp (E.rel.lt q) (z▸nw b M))⟩,hd,hR⟩
 cases q with
 |text x t hc q =>
  subst hc;refine Jg λzz=>?_;obtain⟨u,rfl,_⟩:=hw;refine zz ?_;exact call_enumerate_str λh' he aa hsz B=>fin h' _ _ _ he aa vc hsz B trivial q
 |list j vs hc hh q =>
  subst hc;have av:=hw;obtain⟨hj,rfl⟩:=hw;obtain⟨items,m,ho,_⟩:=E.rel.at_ j _ hh;exact Tz ⟨_,ho,rfl,m,rfl⟩ λh' he aa hsz B=>fin h' _ _ _ he aa (qg cj λσ st s w hw b e=>.inr ⟨j,hw.1,by have:=hw.2;rw[e] at this;exact(Mq this).symm⟩) hsz B hh q
 |frozen vs hc q =>
  subst hc;obtain⟨a,items,m,rfl,hz,ho,_⟩:=id hw;exact Tz ⟨_,ho,rfl,m,rfl⟩ λh' he aa hsz B=>fin h' _ _ _ he aa (qg b7 λσ st s w hw b e=>.inl (by obtain⟨a,_,_,e',hz,_⟩:=hw;rw[e] at e';exact(Mq e')▸hz)) hsz B trivial q
variable {j:Nat}{l:List Str}{k:Str}
theorem iu.size{es t l}(d:iu es t l):es.size=l.length:=by
 have:=d.perm.length_eq;rw[Jt,Jt,Jx] at this;exact this
theorem oE{x y}(h:(Pu x 0)=.str y 0):x=y:=by cases h;rfl
theorem iu.mem{es t l}(d:iu es t l)(k:Str):decide (k∈l)=true↔∃e∈es.toList,(strKind W.prog W.w).is k e.2=true:=by
 refine(decide_eq_true_iff).trans ?_
 constructor
 ·intro h;have:Pu k 0∈es.toList.map λe=>norm e.2:=d.perm.mem_iff.mpr (Ra.mpr ⟨k,h,rfl⟩);refine Jg λo=>?_;obtain⟨e,c,a⟩:=Ra.mp this;refine o ?_;exact⟨e,c,by obtain⟨u,i⟩:∃u,e.2=.str k u:=by {cases h:e.2 <;> rw[h] at a <;> first | exact⟨_,by cases a;rfl⟩ | cases a};refine(i).symm▸?_;exact Rh _ _ _ _⟩
 ·rintro⟨e,c,g⟩;obtain⟨u,a⟩:=Mr g;have:norm e.2∈l.map λx=>Pu x 0:=d.perm.mem_iff.mp (Ra.mpr ⟨e,c,rfl⟩);obtain⟨x,j,f⟩:=Ra.mp this;rw[a] at f;refine(oE (x:=k) (y:=x) f.symm).symm▸?_;exact j
theorem iu.A3{es ep t l}(d:iu es t l){h:Heap}{a}(c:h.get? a=Jh (cg es ep t))(hz:l.length<scanBound):h.SetOf (strKind W.prog W.w) a (λk=>decide (k∈l)) l.length :=
 ⟨_,es,ep,t,c,⟨rfl,rfl,rfl⟩,rfl,d.els,d.mem,by refine(d.size).symm▸?_;exact hz,d.fits,d.size⟩
mutual
theorem sC(t:Nu)(es:Array (Int×Value))(h:Int)(x:Value):(layNew t es h x).2.1.led=t.led:=by
 delta layNew;cases t.freeSlot h with
 |none=>rfl
 |some q =>
  cases q with
  |mk c d =>
   have a (t:Nu) (n:Nat):(t.orStandIn n).led=t.led/\(t.plain=false->(t.orStandIn n).plain=false):=by
    unfold Nu.orStandIn
    split
    ·exact⟨rfl,λh=>h⟩
    ·exact⟨rfl,λZ=>rfl⟩
   exact(a (t.put c).1 _).1
theorem oN(t:Nu)(es:Array (Int×Value))(n:Nat):(O9 t es n).2.1.led=t.led/\(t.plain=false->(O9 t es n).2.1.plain=false):=by
 have a {t' hs c} (h:t.relaid hs n=Jh (t',c)):t'.led=t.led/\t'.plain=t.plain:=by
  unfold Nu.relaid Nu.laid at h;cases hc:Nu.layClean (Nu.sizeAbove n-1) hs with
  |none=>have h:=hc▸h;cases h
  |some owner =>
   replace h:=hc▸h;cases h;exact⟨rfl,rfl⟩
 delta O9;cases h:t.relaid (es.map (·.1)) n with
 |none=>exact⟨rfl,λZ=>rfl⟩
 |some q =>
  cases q with
  |mk t' c =>
   obtain⟨d,e⟩:=a h;dsimp only
   split
   ·exact⟨d,λf=>e.trans f⟩
   ·exact⟨rfl,λZ=>rfl⟩
theorem iA{k x}(a:Value.isStrOf k x=true):x.scannable=true:=by
 obtain⟨t,rfl⟩:=Mr a
 rfl
end
structure wg(es:Array (Int×Value))(l:List Str):Prop where
 els:ElemsOf (strKind W.prog W.w) es.toList
 perm:(es.toList.map λe=>norm e.2).Perm (l.map λx=>.str x 0)
 nodup:l.Nodup
theorem wg.size{es}(d:wg es l):es.size=l.length:=by
 have:=d.perm.length_eq;rw[Jt,Jt,Jx] at this;exact this
theorem wg.new{es es1 t x}(d:iu es t l)(a:(strKind W.prog W.w).is k x=true)(c:k∉l)(p:es1.toList.Perm (es.toList++[((strKind W.prog W.w).hash k,x)])):wg es1 (l++[k]):=by
 refine⟨(d.els.push a (iA a)).perm p,(p.map _).trans ?_,ND.mpr ⟨d.nodup,Tj.mpr ⟨JK,.nil⟩,λy f z hz e=>c (O4.mp hz▸e▸f)⟩⟩;rw[JF,JF];refine List.Perm.append d.perm ?_;obtain⟨u,rfl⟩:=Mr a;exact .refl _
theorem qY{E}(b:Bool){s}{Q:Unit->Js->Prop}(h:Q () s):JH (Jz W.prog W.w) A (match b with | true=>rule "set.scan.the-table-gave-way" | false=>pure ()) Q E s:=by
 cases b with
 |false=>exact Jk h
 |true=>exact LU h
noncomputable def r8(a:Bool):Obj:=cg #[] 0 (.fresh 0 0 a)
set_option maxHeartbeats 4000000 in
end
theorem tu{M A E s n P}(c:n≠0)(h:∀i d,i<n->P i {s with drawn:=d}):JH M A (choose .order n) P E s:=by
 intro a p e;show Vr M a _ _ _ p s;unfold choose;exact⟨c,h _ _ (Vv _ (Sp c))⟩
theorem iY{a:Type}:∀(l:List a) (i:Nat) (x:a),l[i]?=Jh x->(x::l.eraseIdx i).Perm l
 |[],i,x,h=>by simp at h
 |y::l,0,x,h=>by
  have h:=List.getElem?_cons_zero▸h;obtain rfl:=JP h;exact .refl _
 |y::l,i+1,x,h=>by
  rw[List.getElem?_cons_succ] at h;refine(List.eraseIdx_cons_succ).symm▸?_;exact(List.Perm.swap y x _).trans ((iY l i x h).cons y)
theorem iM{α M A E}:∀(n:Nat) (xs:List α) (s:Js) (P:List α->Js->Prop),xs.length<=n->(∀ys d,ys.Perm xs->P ys {s with drawn:=d})->JH M A (drawOrder n xs) P E s
 |0,xs,s,P,a,h=>by
  have:xs=[]:=List.length_eq_zero_iff.mp (by exact dy 17 21 a);subst this;exact Jk (h [] s.drawn (.refl _))
 |n+1,[],s,P,a,h=>Jk (h [] s.drawn (.refl _))
 |n+1,x::xs,s,P,a,h=>by
  refine Jf (tu (by simp) λi d hi=>?_);refine(Jo hi).symm▸?_;refine Jf (iM n _ _ _ (by refine(RE).symm▸?_;split <;> simp at a hi ⊢ <;> assumption) λys c e=>Jk ?_);exact h _ c ((e.cons _).trans (iY (x::xs) i _ (Jo hi)))
theorem kl{α}(next:Nat->Nat):∀(fuel k:Nat) (left:List α) (out:Array α),left.length<=fuel->(Se next fuel k left out).toList.Perm (out.toList++left)
 |0,k,left,out,h=>by
  have:left=[]:=List.length_eq_zero_iff.mp (by exact dy 17 21 h);subst this;refine(JO ..).symm▸?_;exact .refl _
 |fuel+1,k,left,out,h=>by
  cases left with
  |nil=>rw[JO];exact .refl _
  |cons x xs =>
   have hi:next k % (x::xs).length<(x::xs).length:=Vv _ (by simp)
   change (match (x::xs)[next k % (x::xs).length]? with | Jh y=>Se next fuel (k+1) ((x::xs).eraseIdx (next k % (x::xs).length)) (out.push y) | none=>out).toList.Perm _
   rw[Jo hi];refine(kl next fuel (k+1) _ _ (by refine(RE).symm▸?_;split <;> simp at h hi ⊢ <;> assumption)).trans ?_;rw[Mc,Jv];exact List.Perm.append_left _ (iY (x::xs) _ _ (Jo hi))
mutual
theorem cO:UK "set_iterator" "__next__" "set_iterator.__next__" :=
 .of (owner:="set_iterator") (n:="__next__") (by refine(J4 ..).symm▸?_;rw[JM];kernel_rfl) (by decide +kernel) (by decide +kernel) (by decide +kernel)
  (by first | exact .inl (by decide +kernel) | exact .inr (by decide +kernel)) (by refine(KN ..).symm▸?_;kernel_rfl)
theorem fN:NO Rf "set_iterator.__next__"=Jh Builtin.«set_iterator.__next__»:=Nj (by kernel_rfl)
theorem gJ(a:Value):Oc "set_iterator.__next__" ⟨[a],[]⟩:=by kernel_rfl
end
noncomputable def eW(first:Value)(i:Nat)(a:Addr)(n ep:Nat):Obj:={cls:=.type "set_iterator",data:=.fields #[first,LO i,.ref a,LO n,LO ep]}
section
variable {A:Around}{E:Value->Js->Prop}{s:Js}{a:Addr}{es:Array (Int×Value)}{ep:Nat}{t:Nu}{l:List Str}
end
section
variable {A:Around}{E:Value->Js->Prop}{s:Js}{a:Addr}{es:Array (Int×Value)}{ep:Nat}{t:Nu}{l:List Str}
theorem mm{I first i n ep}{h:Heap}(k:Nat)(v:Value)(c:h.get? I=Jh (eW first i a n ep)):(h.update I (Uy (·.setIfInBounds k v))).get? I=Jh ((eW first i a n ep).mapFields (·.setIfInBounds k v)) :=
 J0 _ c (Oz (Nz (show(eW first i a n ep).data=.fields _ from rfl) _))
end
noncomputable def h7(ys:List Nat):Obj:={cls:=.type "tuple",data:=.seq (ys.map fun(i:Nat)=>LO i).toArray}
section
variable {A:Around}{E:Value->Js->Prop}{s:Js}{a:Addr}{es:Array (Int×Value)}{ep:Nat}{t:Nu}{l:List Str}
end
structure lq(A:Around)(I a:Addr)(o:Obj)(xs:List (Int×Value))(S:Nat->Heap->Prop):Prop where
 next:∀k e s (P:Option Value->Js->Prop),xs[k]?=Jh e->S k s.heap->s.heap.get? a=Jh o->(∀h',S (k+1) h'->Kx I s.heap h'->P (Jh e.2) {s with heap:=h'})->Wp A (LV (.ref I)) P s
 stop:∀s (P:Option Value->Js->Prop),S xs.length s.heap->s.heap.get? a=Jh o->(∀h',s.heap.objs.size<=h'.objs.size->Nb I s.heap h'->P none {s with heap:=h'})->Wp A (LV (.ref I)) P s
 cls:∀k h,S k h->∃ob,h.get? I=Jh ob/\ob.cls=.type "set_iterator"
noncomputable def B6(o:Obj)(l:List Str):Prop:=∃es ep t,o=cg es ep t/\iu es t l
inductive Hu(c:V)(st:St)(R:(St->Prop)->List V->St->Prop):Prop
 |mk (j:Nat) (l:List Str) (hc:c=.r j) (hj:st[j]?=Jh (.set l)) (hz:l.length<scanBound) (q:∀(o:Obj) (l':List Str),B6 o l->l'.Perm l->R (λst=>st[j]?=Jh (.fix o)) (l'.map λx=>.s x 0) (st.set j (.fix o)))
section
variable {A:Around}{F:cU}{lc:Lc}{σ:Sg}{σ':Sg}{st:St}{z:St}{s:Js}{s':Js}{C:Expr}{j:Nat}{l:List Str}
theorem uB{o}(e:st[j]?=Jh (.fix o))(h:B6 o l)(r:Rel σ st s):RO σ st.length s (σ.a j) (.set l):=by
 refine Jg λc=>?_;obtain⟨es,ep,t,rfl,d⟩:=h;refine c ?_;exact⟨es,ep,t,(r.at_ j _ e).1,d⟩
theorem x8{I a o xs S}{X:Addr->Prop}{l':List Str}(T:bK)(D:lq A I a o xs S)(p:∀b,X b->W.h₁.objs.size<=b)(G:X I)(so:∀k h b,S k h->X b->∃o,h.get? b=Jh o/\cH o)(fr:∀k h h',S k h->(∀b,X b->∀o,h.get? b=Jh o->h'.get? b=Jh o)->S k h')(e:(xs.map λe=>norm e.2)=l'.map λx=>.str x 0):pL A C (.ref I) (.r j) (.ref a) X (λst=>st[j]?=Jh (.fix o)) (l'.map λx=>.s x 0) S:=by
 refine⟨p,so,fr,λk v σ st s H g hd hw off i r=>?_,λσ st s g hd hw off i r=>?_⟩
 ·rw[JY,LZ] at H;obtain⟨x,B,rfl⟩:=H;have F:=congrArg (·[k]?) e;rw[JY,JY,B] at F;refine Jg λE=>?_;obtain⟨en,w,M⟩:=LZ.mp F;have c {v} (h:norm v=.str x 0):∃t,v=.str x t:=by
   cases v <;> first | exact⟨_,by cases h;rfl⟩ | cases h
  obtain⟨t,Q⟩:=c M;refine E ?_;have f:=(r.at_ j _ hd).1;rw[<-Mq hw.2] at f;refine D.next k en s _ w g f λh' d J=>⟨en.2,rfl,?_⟩
  refine Jg λE=>?_;obtain⟨ob,y,hc⟩:=D.cls _ _ d;refine E ?_;exact eZ y hc (by decide) ⟨σ,(fK (X:=X) (k:=s.toks) T i r p off (λb o q u=>(J.2 b λz=>q (z▸G)).trans u) (JX J.1.symm) (Jl _)),Q▸⟨t,rfl,λq=>absurd rfl q⟩,d⟩
 ·have f:=(r.at_ j _ hd).1;rw[<-Mq hw.2] at f;have P:xs.length=(l'.map λx=>V.s x 0).length:=by have:=congrArg L6 e;simpa using this
  rw[<-P] at g;exact D.stop s _ g f λh' hz B=>⟨rfl,fK T i r p off (λb o q u=>B b o (λz=>q (z▸G)) u) hz (Jl _)⟩
theorem yp(es:Array (Int×Value)):∀(ys:List Nat),(∀j∈ys,j<es.size)->∀(k:Nat),(ys.filterMap λj=>es[j]?)[k]?=ys[k]?.bind λp=>es[p]?
 |[],Z,k=>by simp
 |y::ys,c,k=>by
  have a:=c y (JJ ..);refine(OV).symm▸?_;refine(J7 a).symm▸?_;cases k with
  |zero=>simp [a]
  |succ k=>simpa using yp es ys (λj d=>c j (JR _ d)) k
structure y8(a:Addr)(es:Array (Int×Value))(ep:Nat)(t:Nu)(xs:List (Int×Value))(sl:Nat->Nat->Prop):Prop where
 next:∀k slot e,xs[k]?=Jh e->sl k slot->∃nx,sl (k+1) nx/\∀(B:Around) (s:Js) (P:Option (Value×Nat)->Js->Prop) E,s.heap.get? a=Jh (cg es ep t)->P (Jh (e.2,nx)) s->JH (Jz W.prog W.w) B (Pg a slot k ep) P E s
 stop:∀slot,sl xs.length slot->∀(B:Around) (s:Js) (P:Option (Value×Nat)->Js->Prop) E,s.heap.get? a=Jh (cg es ep t)->P none s->JH (Jz W.prog W.w) B (Pg a slot xs.length ep) P E s
theorem uz{iter}(T:bK)(hA:A.handled=none){R}(h:cx A F iter lc st λc ac=>Hu c ac R):AO A F C iter lc st R:=by
 have ak {E s a es ep t l P} (u:s.heap.get? a=Jh (cg es ep t)) (d:iu es t l) (hz:es.size<scanBound) (H:(!cS W.w&&(!t.plain&&es.size > 1))=true->∀(ys:List Nat) d,ys.Perm (KI es.size)->P (.ref (s.heap.objs.size+1)) {s with heap:=(s.heap.push {cls:=.type "tuple",data:=.seq (ys.map fun(i:Nat)=>LO i).toArray}).push (eW (.ref s.heap.objs.size) 0 a es.size ep),drawn:=d}) (h2:(!cS W.w&&(!t.plain&&es.size > 1))=false->P (.ref s.heap.objs.size) {s with heap:=s.heap.push (eW (LO 0) 0 a es.size ep)}):JH (Jz W.prog W.w) A (MV (.ref a)) P E s:=by
  have aj {A P} (u:s.heap.get? a=Jh (cg es ep t)) (hf:t.fits es.size=true) (h:P (!cS W.w&&(!t.plain&&es.size > 1)) s):JH (Jz W.prog W.w) A (setDrawn a) P E s:=by
   refine Jf (Lu u rfl hf ?_);refine Jf (Jf (MD (Jk ?_)));exact Jk h
  have hT:s.TypeIs (.ref a) "set":=⟨_,u,rfl⟩
  have af:NO Rf "set.__iter__"=Jh Builtin.«frozenset.__iter__» :=
   Rn (id':="frozenset.__iter__") (by kernel_rfl) rfl (by decide +kernel) (by kernel_rfl)
  refine Qc hT QW (Kb QW hT af ?_ (PySem.F.args_set_iter_1 _));delta Builtin.«frozenset.__iter__» Tu slotArgs;simp only[PN,Bool.not_true,O5,↓reduceIte,bind_assoc,Ol,bne_self_eq_false];refine Jf (Jk ?_);refine Jf (Jk ?_);refine Jf (Jf (MJ u rfl d.fits (Jk ?_)));refine Jf (aj u d.fits ?_);cases hb:(!cS W.w&&(!t.plain&&decide (es.size > 1))) with
  |true =>
   rw[if_pos rfl];refine Jf (iM es.size (KI es.size) _ _ (by rw[KQ];exact Jl _) λys d' hp=>Jf ?_);have hl:ys.length=es.size:=by rw[hp.length_eq,KQ]
   refine Rc ?_ (by rw[Jt,hl];exact Qj hz);refine Jf (Jf (Lu (es:=es) (ep:=ep) (t:=t) (o:=cg es ep t) (Jm _ u) rfl d.fits (Jk ?_)));refine Jf (Kj (Jk ⟨_,rfl,"set_iterator",_,⟨_,Ju _ rfl,rfl⟩,cO.lookup,?_⟩));have:=H hb ys d' hp;rw[JA];exact this
  |false =>
   rw[if_neg (by decide)];refine Jf (Jk ?_);unfold setEpoch;refine Jf (Jf (Lu u rfl d.fits (Jk ?_)));refine Jf (Kj (Jk ⟨_,rfl,"set_iterator",_,⟨_,Ju _ rfl,rfl⟩,cO.lookup,?_⟩));exact h2 hb
 have aq {I a es ep t xs sl} (hf:t.fits es.size=true) (so:y8 a es ep t xs sl) :
   lq A I a (cg es ep t) xs (λk h=>∃f:Nat,sl k f/\h.get? I=Jh (eW (LO f) k a es.size ep)):=by
  have am {E s} {f:Nat} {i P} (hI:s.heap.get? I=Jh (eW (LO f) i a es.size ep)) (u:s.heap.get? a=Jh (cg es ep t)) (hn:∀(P':Option (Value×Nat)->Js->Prop) E',P' none s->JH (Jz W.prog W.w) A.in1 (Pg a f i ep) P' E' s) (h:∀h',Nb I s.heap h'->P none {s with heap:=h'}):JH (Jz W.prog W.w) A (LV (.ref I)) P E s:=by
   have hT:s.TypeIs (.ref I) "set_iterator":=⟨_,hI,rfl⟩
   refine Jf (K4 (Kc (name:=Jj "__next__") hT cO
    (Kb cO hT fN ?_ (gJ _))))
   refine Jf (Jk ?_);refine Jf (O8 hI rfl ?_);refine Jf (MJ u rfl hf ?_);rw[if_neg (by simp)];show JH _ _ (Pg a ((f:Int)).toNat ((i:Int)).toNat ((ep:Int)).toNat >>= _) _ _ _;rw[J8,J8,J8];refine Jf (hn _ _ ?_);refine Jf (LJ hI rfl (by simp) ?_);show JH _ _ (TZ (.type "StopIteration") [] >>= _) _ _ _;refine Jf ?_;refine Jf (Kj ?_ (by size_fits));refine Jf (m:=Ls _ _) (MX (a:=L3) (by first | rfl | (simp only[Ls];rfl)) ?_);refine Kj ?_ (by size_fits);refine Jf (Oa ?_);refine(show A.in1.handled=none from hA).symm▸?_;refine Jf (Jk (O6 ?_));refine Jf (L8 (T:="StopIteration") (b:=true) ⟨_,Ju _ rfl,rfl⟩ M5 ?_);exact Jk (h _ (((J2 ..).extBut.push _).push _))
  refine⟨λk e s P hk ⟨f,H,h2⟩ u hP=>?_,λs P ⟨f,H,h2⟩ u hP=>?_,λk h aD=>by obtain⟨f,_,H⟩:=aD;exact⟨_,H,rfl⟩⟩
  ·obtain⟨nx,h3,h4⟩:=so.next k f e hk H;have al {E i x} (hI:s.heap.get? I=Jh (eW (LO f) i a es.size ep)) (hn:∀(P':Option (Value×Nat)->Js->Prop) E',P' (Jh (x,nx)) s->JH (Jz W.prog W.w) A.in1 (Pg a f i ep) P' E' s) (h:∀h',h'.get? I=Jh (eW (LO nx) (i+1) a es.size ep)->Kx I s.heap h'->P (Jh x) {s with heap:=h'}):JH (Jz W.prog W.w) A (LV (.ref I)) P E s:=by
    have hT:s.TypeIs (.ref I) "set_iterator":=⟨_,hI,rfl⟩
    refine Jf (K4 (Kc (name:=Jj "__next__") hT cO
     (Kb cO hT fN ?_ (gJ _))))
    refine Jf (Jk ?_);refine Jf (O8 hI rfl ?_);refine Jf (MJ u rfl hf ?_);rw[if_neg (by simp)];show JH _ _ (Pg a ((f:Int)).toNat ((i:Int)).toNat ((ep:Int)).toNat >>= _) _ _ _;rw[J8,J8,J8];refine Jf (hn _ _ ?_);refine Jf (LJ hI rfl (by simp) ?_);have H:=mm 0 (LO nx) hI;refine Jf (LJ H rfl (by simp [eW,Uy]) ?_);refine Jk ⟨_,rfl,Jk (h _ ?_ ((J2 ..).trans (J2 ..)))⟩;exact J0 _ H rfl
   exact al h2 (λP' E' q=>h4 _ s P' E' u q) λh' h5 hs=>hP h' ⟨nx,h3,h5⟩ hs
  ·exact bS (am h2 u (λP' E' q=>so.stop f H _ s P' E' u q) λh' hx hz=>hP h' hz hx)
 have av {l a es ep t} (d:iu es t l) (hb:(!cS W.w&&(!t.plain&&decide (es.size > 1)))=false):∃xs sl,xs.Perm es.toList/\sl 0 0/\y8 a es ep t xs sl:=by
  have J {A E s f i P} (hb:cS W.w=true) (u:s.heap.get? a=Jh (cg es ep t)) (hf:t.fits es.size=true) (h:P (((RZ (W.w.params.setOrder a ep) es)[i]?).map λe=>(e.2,f)) s) :
    JH (Jz W.prog W.w) A (Pg a f i ep) P E s:=by
   have ah:W.w.params.followText "set-order"=true:=hb;refine Jf (Lu u rfl hf ?_);refine Jf (Jf (MD (Jk ?_)));show JH _ _ (if W.w.params.followText "set-order"=true then _ else _) _ _ _;refine(ah).symm▸?_;refine(if_pos rfl).symm▸?_;rw[if_neg (by simp)];refine Jf (Jf (Lu u rfl hf ?_));refine Jf (Jf (MD (Jk ?_)));show JH _ _ (if W.w.params.followText "set-order"=true then _ else _) _ _ _;refine(ah).symm▸?_;refine(if_pos rfl).symm▸?_;exact Jf (MD (Jk (Jk h)))
  have G {A E s f i P} (hb:cS W.w=false) (u:s.heap.get? a=Jh (cg es ep t)) (hf:t.fits es.size=true) (hd:(!t.plain&&decide (es.size > 1))=false) (hl:t.led=true) (h:P (match es[Nc t.place f]?,t.place[Nc t.place f]? with | Jh (_,x),Jh j=>Jh (x,j+1) | _,_=>none) s):JH (Jz W.prog W.w) A (Pg a f i ep) P E s:=by
   have ah:W.w.params.followText "set-order"=false:=hb;refine Jf (Lu u rfl hf ?_);refine Jf (Jf (MD (Jk ?_)));show JH _ _ (if W.w.params.followText "set-order"=true then _ else _) _ _ _;refine(ah).symm▸?_;rw[if_neg (by decide)];show JH _ _ (if(!t.plain&&decide (es.size > 1))=true then _ else _) _ _ _;rw[hd,if_neg (by decide)];show JH _ _ ((if(!t.led && !es.isEmpty)=true then QQ "set:maker-not-led" else pure ()) >>= _) _ _ _;refine(hl).symm▸?_;exact Jf (Jk (Jk h))
  have ag (p:Nat):Nc #[p] 0=0/\Nc #[p] (p+1)=1:=by
   have h : ∀j,Nc #[p] j=if p<j then 1 else 0:=λj=>by
    show N3 #[p] j 1 0 1=_;show(if(0:Nat)<1 then(if #[p].getD 0 j<j then N3 #[p] j 0 1 1 else N3 #[p] j 0 0 0) else 0)=_;exact if_pos (by decide)
   exact⟨(h 0).trans (if_neg (Jy _)),(h (p+1)).trans (if_pos (JL p))⟩
  cases ao:cS W.w with
  |true =>
   have ap {α} (next:Nat->Nat) (xs:Array α):(RZ next xs).toList.Perm xs.toList:=by
    unfold RZ;have:=kl next xs.size 0 xs.toList #[] (by simp)
    simpa using this
   refine⟨(RZ (W.w.params.setOrder a ep) es).toList,λZ f=>f=0,ap _ es,rfl,λk f e hk hs=>⟨0,rfl,λB s P E u hP=>?_⟩,λf hs B s P E u hP=>?_⟩
   ·subst hs;rw[JZ] at hk;exact J ao u d.fits (by rw[hk];exact hP)
   ·subst hs;exact J ao u d.fits (by rw[Q5 (by rw[Jx];exact Jl _)];exact hP)
  |false =>
   have au:t.led=true:=d.led.elim (λq=>absurd (ao.symm.trans q) K9) id;rw[ao] at hb;have ah:(!t.plain&&decide (es.size > 1))=false:=hb;have aC:t.place.size=es.size:=by
    have:=d.fits;unfold Nu.fits at this;rw[KV,beq_iff_eq] at this;exact this.1
   cases ax:es.toList with
   |nil =>
    have az:es=#[]:=by rw[<-Sx,ax]
    refine⟨[],λZ f=>f=0,.refl _,rfl,λk f e hk=>(by cases hk),λf hs B s P E u hP=>?_⟩;subst hs;refine G ao u d.fits ah au ?_;refine((PJ (by refine(aC).symm▸?_;refine(az).symm▸?_;rfl):t.place=#[])).symm▸?_;refine(az).symm▸?_;exact hP
   |cons e l' =>
    have aB:l'=[]:=by
     have H:es.size=l'.length+1:=by refine(Jx)▸?_;refine(ax).symm▸?_;rfl
     rcases d.plain with q | q
     ·have H:=q▸H;cases H
     ·rw[q] at ah;have:¬es.size > 1:=by simpa using ah
      exact List.length_eq_zero_iff.mp (by exact bJ 17 22 H this)
    subst aB;have he:es=#[e]:=by rw[<-Sx,ax]
    obtain⟨p,hp⟩:∃p,t.place=#[p]:=Array.size_eq_one_iff.mp (by refine(aC).symm▸?_;refine(he).symm▸?_;rfl);refine⟨[e],λk f=>f=if k=0 then 0 else p+1,.refl _,rfl,λk f e' hk hs=>?_,λf hs B s P E u hP=>?_⟩
    ·cases k with
     |zero =>
      obtain rfl:=JP hk;subst hs;refine⟨p+1,rfl,λB s P E u hP=>G ao u d.fits ah au ?_⟩;refine(hp).symm▸?_;refine(he).symm▸?_;refine(if_pos rfl).symm▸?_;refine((ag p).1).symm▸?_;exact hP
     |succ k=>cases hk
    ·subst hs;refine G ao u d.fits ah au ?_;refine(hp).symm▸?_;refine(he).symm▸?_;rw[if_neg (by simp)];refine((ag p).2).symm▸?_;exact hP
 intro σ s p;refine bH (h σ s p) λw s₁ Q ac c ae hc q=>?_;obtain⟨j,l,rfl,hj,hz,q⟩:=q;obtain⟨aA,rfl⟩:=hc;obtain⟨es,ep,t,u,d⟩:=ae.rel.at_ j _ hj;have hsz:es.size<scanBound:=by rw[d.size];exact hz
 have gl:(ac.set j (.fix (cg es ep t))).length=ac.length:=MG;have fin:∀(h':Heap) (dr:Drawn) (I:Addr) (X:Addr->Prop) (S:Nat->Heap->Prop) (xs:List (Int×Value)),xs.Perm es.toList->lq A I (Q.a j) (cg es ep t) xs S->S 0 h'->X I->(∀b,X b->s₁.heap.objs.size<=b)->(∀k h b,S k h->X b->∃o,h.get? b=Jh o/\cH o) ->
   (∀k h h',S k h->(∀b,X b->∀o,h.get? b=Jh o->h'.get? b=Jh o)->S k h')->(∀b o,s₁.heap.get? b=Jh o->h'.get? b=Jh o)->s₁.heap.objs.size<=h'.objs.size->PI A C σ st s R (.ref I) {s₁ with heap:=h',drawn:=dr}:=by
  intro h' dr I X S xs ay D hS aG nw so fr hk aL;refine Jg λzz=>?_;have ar {xs:List (Int×Value)} {es} (hp:xs.Perm es) (hl:(es.map λe=>norm e.2).Perm (l.map λx=>.str x 0)):∃l':List Str,l'.Perm l/\(xs.map λe=>norm e.2)=l'.map λx=>.str x 0:=by
   have p:=(hp.map λe=>norm e.2).trans hl;refine⟨(xs.map λe=>norm e.2).map (λv=>match v with | .str x _=>x | _=>OQ),?_,?_⟩
   ·refine(p.map _).trans ?_;rw[J6];have:((λv:Value=>match v with | .str x _=>x | _=>OQ) ∘ λx:Str=>Pu x 0)=id:=by funext x;rfl
    refine(this).symm▸?_;rw[OF]
   ·refine KH ?_ (J6).symm
    conv=>lhs;rw[<-OF (xs.map λe=>norm e.2)]
    apply K3;intro v hv;obtain⟨x,_,rfl⟩:=Ra.mp (p.mem_iff.mp hv)
    rfl
  obtain⟨l',pl,el⟩:=ar ay d.perm;refine zz ?_;have g:=c4 (X:=de) (h':=h') (k:=s₁.toks) ae.inv ae.rel hk aL (Jl _);have y:Step Q ac s₁ Q ac {s₁ with heap:=h',drawn:=dr}:=⟨⟨g.x.len,g.x.ext,g.x.new,g.x.z,g.x.znew,g.x.keep,g.x.grow,g.x.tgrow⟩,⟨g.inv.old,g.inv.stat,g.inv.os,g.inv.bare,g.inv.size,g.inv.tk,g.inv.tb⟩,
   ⟨λh o e=>RO.mono (X:=de) (s:={s₁ with heap:=h'}) (h:=g.rel.at_ h o e) (s':={s₁ with heap:=h',drawn:=dr}) ⟨Jl _,λZ Y=>rfl,λZ h h'=>absurd h' (Nat.not_lt.mpr h),λZ h=>h,λZ=>.inl,λZ Y h U N M=>h,Jl _,Jl _⟩ g.rel.apart (λZ h Y=>h) (λZ Y U N h=>h),g.rel.above,g.rel.inj,g.rel.zlt,g.rel.zoff⟩,g.gkeep,g.gdom,g.ggrow⟩
  exact⟨Q,_,(ae.trans y).trans (gS (X:=de) (j:=j) (o:=.fix (cg es ep t)) y.inv y.rel ⟨hk _ _ u,bN rfl⟩ (λZ Y U q=>O.noConfusion q)),.r j,.ref (Q.a j),⟨by rw[gl];exact aA,rfl⟩,X,S,_,_,x8 T D (λb hb=>Jn ae.inv.size (nw b hb)) aG so fr el,hS,λb hb=>Jn (ae.x.grow) (nw b hb),
   λb hb=>⟨λhz=>Jw _ (Jp (ae.rel.zlt b hz) (nw b hb)),λh hh e'=>Jw _ (Jp (ae.rel.lt (gl▸hh)) (e'▸nw b hb))⟩,by exact(K0 aA).symm▸rfl,q _ l' ⟨es,ep,t,rfl,d⟩ pl⟩
 refine ak u d hsz (λhb ys dd hp=>?_) λhb=>?_
 ·have an {A I a Tt es ep t ys} (hA:A.handled=none) (aI:I≠Tt) (hf:t.fits es.size=true) (hp:ys.Perm (KI es.size)) :
    lq A I a (cg es ep t) (ys.filterMap λj=>es[j]?) (λk h=>h.get? I=Jh (eW (.ref Tt) k a es.size ep)/\h.get? Tt=Jh (h7 ys)):=by
   have aa {E s i ai} {hx:Int} {x P} (hI:s.heap.get? I=Jh (eW (.ref Tt) i a es.size ep)) (hT:s.heap.get? Tt=Jh (h7 ys)) (u:s.heap.get? a=Jh (cg es ep t)) (hp:ys[i]?=Jh ai) (hx:es[ai]?=Jh (hx,x)) (h:∀h',h'.get? I=Jh (eW (.ref Tt) (i+1) a es.size ep)->Kx I s.heap h'->P (Jh x) {s with heap:=h'}):JH (Jz W.prog W.w) A (LV (.ref I)) P E s:=by
    have as:s.TypeIs (.ref I) "set_iterator":=⟨_,hI,rfl⟩
    refine Jf (K4 (Kc (name:=Jj "__next__") as cO
     (Kb cO as fN ?_ (gJ _))))
    refine Jf (Jk ?_);refine Jf (O8 hI rfl ?_);refine Jf (MJ u rfl hf ?_);rw[if_neg (by simp)];refine Jf (Kr hT rfl ?_);have e1:(ys.map fun(i:Nat)=>LO i).toArray[((i:Int)).toNat]?=Jh (LO ai):=by
     rw[J8,M1,JY,hp];rfl
    dsimp only;rw[e1];show JH _ _ (setNextDrawn a ((ai:Int)).toNat ((ep:Int)).toNat >>= _) _ _ _;refine(J8 ..).symm▸?_;refine(J8 ..).symm▸?_;refine Jf (Jf (Lu u rfl hf ?_));show JH _ _ (if(ep != ep)=true then _ else _) _ _ _;rw[if_neg (by simp)];refine(hx).symm▸?_;refine Jk ?_;refine Jf (LJ hI rfl (by simp) ?_);exact Jk ⟨_,rfl,Jk (h _ (J0 _ hI rfl) (J2 ..))⟩
   have ab {E s i P} (hI:s.heap.get? I=Jh (eW (.ref Tt) i a es.size ep)) (hT:s.heap.get? Tt=Jh (h7 ys)) (u:s.heap.get? a=Jh (cg es ep t)) (hp:ys[i]?=none) (h:∀h',Nb I s.heap h'->P none {s with heap:=h'}):JH (Jz W.prog W.w) A (LV (.ref I)) P E s:=by
    have as:s.TypeIs (.ref I) "set_iterator":=⟨_,hI,rfl⟩
    refine Jf (K4 (Kc (name:=Jj "__next__") as cO
     (Kb cO as fN ?_ (gJ _))))
    refine Jf (Jk ?_);refine Jf (O8 hI rfl ?_);refine Jf (MJ u rfl hf ?_);rw[if_neg (by simp)];show JH _ _ (seqItems? (.ref Tt) >>= _) _ _ _;refine Jf (Kr hT rfl ?_);have e1:(ys.map fun(i:Nat)=>LO i).toArray[((i:Int)).toNat]?=none:=by
     rw[J8,M1,JY,hp];rfl
    dsimp only;rw[e1];refine Jf (LJ hI rfl (by simp) ?_);refine Jf (LJ (mm 0 (LO 0) hI) rfl (by simp) ?_);show JH _ _ (TZ (.type "StopIteration") [] >>= _) _ _ _;refine Jf ?_;simp only[TZ,newTuple];refine Jf (Kj ?_ (by size_fits));refine Jf (m:=Ls _ _) (MX (a:=L3) (by first | rfl | (simp only[Ls];rfl)) ?_);refine Kj ?_ (by size_fits);refine Jf (Oa ?_);refine(show A.in1.handled=none from hA).symm▸?_;refine Jf (Jk (O6 ?_));refine Jf (L8 (T:="StopIteration") (b:=true) ⟨_,Ju _ rfl,rfl⟩ M5 ?_);exact Jk (h _ ((((J2 ..).trans (J2 ..)).extBut.push _).push _))
   have aK:∀j∈ys,j<es.size:=λj hj=>List.mem_range.mp (hp.mem_iff.mp hj);have hl:(ys.filterMap λj=>es[j]?).length=ys.length:=by
    have:=(hp.filterMap λj=>es[j]?).length_eq;rw[RN] at this;refine(this).symm▸?_;refine(Jx).symm▸?_;refine(hp.length_eq).symm▸?_;exact(KQ).symm▸rfl
   refine⟨λk e s P hk H u hP=>?_,λs P H u hP=>?_,λk h H=>⟨_,H.1,rfl⟩⟩
   ·rw[yp es ys aK k,Option.bind_eq_some_iff] at hk;obtain⟨p,aH,aJ⟩:=hk;exact aa H.1 H.2 u aH aJ λh' h3 hs=>hP h' ⟨h3,(hs.2 Tt (Mj aI)).trans H.2⟩ hs
   ·rw[hl] at H;exact bS (ab H.1 H.2 u (KR (Jl _)) λh' hx hz=>hP h' hz hx)
  refine fin _ dd _ (λb=>b=s₁.heap.objs.size+1∨b=s₁.heap.objs.size) _ _ ?_ (an hA (M7 _) d.fits hp) ⟨?_,Jm _ (Ju _ rfl)⟩ (.inl rfl) (λb hb=>hb.elim (λq=>q▸JC _) λq=>JX q.symm)
   (λk h b H hb=>hb.elim (λq=>⟨_,q▸H.1,bN rfl⟩) λq=>⟨_,q▸H.2,bN rfl⟩) (λk h h' H hk=>⟨hk _ (.inl rfl) _ H.1,hk _ (.inr rfl) _ H.2⟩) (λb o' aw=>Jm _ (Jm _ aw)) (by rw[JA];refine(JA ..).symm▸?_;exact JG _ 2)
  ·have:=hp.filterMap λj=>es[j]?
   rwa [RN] at this
  ·have:=Ju (s₁.heap.push (h7 ys)) (o:=eW (.ref s₁.heap.objs.size) 0 (Q.a j) es.size ep) rfl;have this:=(JA ..)▸this;exact this
 ·obtain⟨xs,sl,ay,h0,so⟩:=av (a:=Q.a j) (ep:=ep) d hb;exact fin _ s₁.drawn _ (λb=>b=s₁.heap.objs.size) _ _ ay (aq d.fits so) ⟨0,h0,Ju _ rfl⟩ rfl (λb hb=>JX hb.symm) (λk h b aE hb=>by obtain⟨f,_,H⟩:=aE;exact⟨_,hb▸H,bN rfl⟩) (λk h h' aF hk=>by obtain⟨f,H,h2⟩:=aF;exact⟨f,H,hk _ rfl _ h2⟩)
   (λb o' aw=>Jm _ aw) (by refine(JA ..).symm▸?_;exact JC _)
inductive Iq(I:Nat->Lc->St->Prop)(n:Nat)(lc:Lc)(st:St):Prop
 |mk (m:Nat) (h:m<n) (q:I m lc st)
noncomputable def I7(I:Nat->Lc->St->Prop)(n:Nat)(Q:Fl->Lc->St->Prop)(f:Fl)(lc:Lc)(st:St):Prop:=match f with
 |.brk=>Q .next lc st
 |.ret u=>Q (.ret u) lc st
 |_=>Iq I n lc st
variable {Q:Fl->Lc->St->Prop}
inductive FK(F:cU)(I:Nat->Lc->St->Prop)(σ:Sg)(st:St)(s:Js)(n:Nat)(s':Js):Prop
 |mk (σ':Sg) (lc':Lc) (st':St) (h:I n lc' st') (x:c8 (· =F.L) F.m σ st s σ' st' s') (fr:dA F σ' st'.length lc' s')
theorem fx{test body pos}(I:Nat->Lc->St->Prop)(turn:∀n lc st,I n lc st->kT A F test lc st λb o=>Br b (bW A F body lc o (I7 I n Q)) (Q .next lc o))(n:Nat)(h:I n lc st):dN A F (.While test body [] pos) lc st Q:=by
 intro σ s p;refine wpAny_While ?_;refine codeAny_whileLoop (I:=FK F I σ st s) (λn s' H=>?_) n ⟨σ,lc,st,h,p.refl.gQ,p.f⟩;obtain⟨σ',C,z,M,x,fr⟩:=H;refine JB (dH (P:=λb s₂=>_) (turn n C z M σ' s' ⟨x.inv,x.rel,fr⟩) λb s₂ j st₂ r q=>?_) (λZ Y q=>q) λZ Y e=>e.elim;have y:Pre F j C st₂ s₂:=(Pre.mk x.inv x.rel fr).step r;cases b with
 |false=>exact Q1 ⟨j,C,st₂,x.trans r.hO.gQ,y.f,.next,rfl,q.f rfl⟩
 |true =>
  refine dc (q.t rfl j s₂ y) λS J i c d g D a E k=>?_;have w:=(x.trans r.hO.gQ).trans D;cases g with
  |next=>cases E;obtain⟨m,G,B⟩:=k;exact⟨m,G,i,c,d,B,w,a⟩
  |cont=>cases E;obtain⟨m,G,B⟩:=k;exact⟨m,G,i,c,d,B,w,a⟩
  |brk=>cases E;exact⟨i,c,d,w,a,.next,rfl,k⟩
  |ret v=>obtain⟨u,rfl,R⟩:=E;exact⟨i,c,d,w,a,.ret v,⟨u,rfl,R⟩,k⟩
noncomputable def ow(A:Around)(F:cU):List Expr->V->Lc->St->(Lc->St->Prop)->Prop
 |[],Z,lc,st,Q=>Q lc st
 |t::l,v,lc,st,Q=>cZ A F t v lc st λa z=>ow A F l v a z Q
theorem fY{Q}:∀(ts:List Expr) (v:V) (w:Value) (lc:Lc) (st:St) (σ:Sg) (s:Js),RV σ st.length s v w->ow A F ts v lc st Q->Pre F σ lc st s->Wp A (assignAll w (ts.map λt=>NP t F.env)) (PA F σ st s Q) s
 |[],v,w,lc,st,σ,s,e,h,p=>Jk ⟨σ,lc,st,p.refl,p.f,h⟩
 |[t],v,w,lc,st,σ,s,e,h,p=>h σ s w e p
 |t::t'::ts,v,w,lc,st,σ,s,e,h,p=>by
  show JH _ _ (do MQ [w] (NP t F.env w);assignAll w ((t'::ts).map λt=>NP t F.env)) _ _ _;refine Jf (JD (eN (h σ s w e p) λu s₁ d a c x fr q=>?_));exact oV x (fY (t'::ts) v w a c d s₁ (RV.A1 e p.r p.f x) q ⟨x.inv,x.rel,fr⟩)
theorem lE{e ts l env}(h:ef e=true):VD ts e l env=pure false:=by
 match ts with
 |[]=>rfl
 |[t]=>exact jZ h
 |Z::Y::U=>rfl
theorem fy{targets value pos}(i:ef value=true)(hw:Nl targets value F.env=pure none)(g:targets.all bX=true)(h:cx A F value lc st λv a=>ow A F targets v lc a (Q .next)):dN A F (.Assign targets value pos) lc st Q:=by
 intro σ s p;refine Tx (bH (h σ s p) λw s₁ d a v c j q=>?_) (lE i) hw;refine(gG F.env g).symm▸?_;refine(J6).symm▸?_;exact eN (fY targets v w lc a d s₁ j q (p.step c)) λu f e lc₂ st₂ x fr q=>⟨e,lc₂,st₂,(c.hO.trans x).gQ,fr,.next,rfl,q⟩
noncomputable def jk:List (Str×V)->Lc->Lc
 |[],lc=>lc
 |(x,v)::l,lc=>jk l (lc.set x v)
theorem nI{Q}(T:bK):∀(l:List (Str×V)) (ws:List Value) (lc:Lc) (σ:Sg) (s:Js),cf σ st.length s (l.map (·.2)) ws->(∀p∈l,F.kd p.1=Jh .local)->Q (jk l lc) st->Pre F σ lc st s->Wp A (VL (l.map λx=>Vo F.env x.1) ws) (PA F σ st s Q) s
 |[],ws,lc,σ,s,j,a,h,p=>by cases j;exact RL ⟨_,_,_,p.refl,p.f,h⟩
 |(y,v)::l,ws,lc,σ,s,⟨w,c,e,d,g⟩,a,h,p=>by
  subst e;refine RM (wpAny_bindName (fJ T p (a _ (JJ ..)) d λs₁ x fr=>?_));exact oV x (nI T l c _ σ s₁ (g.mono x.x (p.f.jV p.r rfl)) (λp i=>a p (JR _ i)) h ⟨x.inv,x.rel,fr⟩)
theorem cf.IS{n vs}:∀ {ws:List Value},cf σ n s vs ws->cf σ n s vs.reverse ws.reverse:=by
 induction vs with
 |nil=>intro ws h;cases h;rfl
 |cons v vs d =>
  rintro ws ⟨w,f,e,a,c⟩;subst e;rw[Me,Me];exact cf.app (us:=[v]) (xs:=[w]) ⟨w,[],rfl,a,rfl⟩ (d c)
theorem Ao{elts names k tpos pos value}(T:bK)(G:A.handled=none)(J:ef value=true)(hw:Nl [.Tuple elts k tpos] value F.env=pure (Jh names))(H:∀y∈names,F.kd y=Jh .local)(h:cx A F value lc st λv c=>∃items,v=.t items/\items.length=names.length/\Q .next (jk (names.zip items).reverse lc) c):dN A F (.Assign [.Tuple elts k tpos] value pos) lc st Q:=by
 intro σ s p;refine Assign_Tuple_swapped (bH (h σ s p) λw s₁ d c v a M q=>?_) (lE J) hw;refine Jg λR=>?_;obtain⟨items,rfl,z,q⟩:=q;refine R ?_;refine(z)▸?_;refine JB (tL G d s₁ w M a.inv a.rel) (λws o C=>?_) λZ Y e=>e;obtain⟨B,f⟩:=C;have E:names.reverse.map (λn=>Vo F.env n)=(names.zip items).reverse.map λx=>Vo F.env x.1:=by
  have:(names.zip items).map (·.1)=names:=PM (JX z.symm)
  conv=>lhs;rw[<-this,<-SR,J6]
  rfl
 refine(E).symm▸?_;refine eN (nI (Q:=Q .next) T _ ws.reverse lc d o ?_ (λy P=>H _ (ME (List.mem_reverse.mp P)).1) q (p.step (a.trans f))) λu D j g i r fr q=>⟨j,g,i,((a.trans f).hO.trans r).gQ,fr,.next,rfl,q⟩
 refine(SR).symm▸?_;refine(PL (JX z)).symm▸?_;exact B.IS
mutual
theorem y4{o attr pos v Q}(h:cx A F o lc st λx c=>oq A x attr v c (Q lc)):cZ A F (.Attribute o attr pos) v lc st Q:=by
 intro σ s w z p;rw[arm_assign_Attribute];refine Jf (JD (bH (h σ s p) λu s₁ g c x a j q=>?_));refine Jf (LF (Jf (JD (JB (q g s₁ u w j (z.step p.r a) a.inv a.rel) (λZ y k=>?_) λZ Y e=>e))));obtain⟨i,st₂,d,q⟩:=k;exact VB ⟨i,lc,st₂,(a.trans d).hO,(p.step (a.trans d)).f,q⟩
theorem AH{o ix pos v Q}(h:cx A F o lc st λH d=>cx A F ix lc d λG st₂=>jB A H G v st₂ (Q lc)):cZ A F (.Subscript o ix pos) v lc st Q:=by
 intro σ s w M p;rw[arm_assign_Subscript];refine Jf (JD (bH (h σ s p) λu s₁ j d H c D q=>?_));refine Jf (JD (bH (q j s₁ (p.step c)) λi z k st₂ G a C q=>?_));refine Jf (LF (Jf (JD (JB (q k z u i w (D.step c.rel a) C (M.step p.r (c.trans a)) a.inv a.rel) (λZ J E=>?_) λZ Y e=>e))));obtain⟨y,g,B,q⟩:=E;have x:=(c.trans a).trans B;exact VB ⟨y,lc,g,x.hO,(p.step x).f,q⟩
end
theorem Dd{oe ie p pos}(h:cx A F oe lc st λC c=>cx A F ie lc c λB st₂=>Dy A C B st₂ (Q .next lc)):dN A F (.Delete [.Subscript oe ie p] pos) lc st Q:=by
 intro σ s p;refine wpAny_Delete (wpAny_deleteEach_cons (wpAny_delete_Subscript (bH (h σ s p) λu s₁ j c C d y q=>bH (q j s₁ (p.step d)) λi r k st₂ B a w q=>?_)));refine JB (q k r u i (y.step d.rel a) w a.inv a.rel) (λZ D z=>?_) λZ Y e=>e;obtain⟨o,g,v,q⟩:=z;have x:=(d.trans a).trans v;exact wpAny_deleteEach_nil ⟨o,lc,g,x.hO.gQ,(p.step x).f,.next,rfl,q⟩
noncomputable def sk(t a:Expr):Bool:=match kE t with
 |.lst=>false
 |.tup=>match kE a with
  |.tup=>false
  |_=>true
 |_=>true
theorem gw{t value env}(h:sk t value=true):Nl [t] value env=pure none:=by
 cases t with
 |Tuple ts k p=>cases value with
  |Tuple=>exact Jq (h:false=true)
  |_=>rfl
 |List=>exact Jq (h:false=true)
 |_=>rfl
noncomputable def kX(ts:List Expr)(env:Env):List Str:=ts.filterMap fun
 |.Name id pos=>if env.kindOf id == Jh .local&&pos.line == (ts.head?.map (·.pos.line)).getD 0 then Jh id else none
 |_=>none
noncomputable def GH(ts vs:List Expr)(env:Env):Option (Option (List Str)):=cond (!(ts.length == 2 || ts.length == 3) || vs.length != ts.length || env.blockKind != .function) (Jh none)
 (cond (vs.all bX) (cond ((kX ts env).length != ts.length || (kX ts env).eraseDups.length != (kX ts env).length) (Jh none)
  (cond (vs.all (foldedForSure 8)) (Jh none) (cond (vs.all (constantsAlone 8)) none (Jh (Jh (kX ts env)))))) none)
theorem nr{ts vs k k' p p' env r}(h:GH ts vs env=Jh r):Nl [.Tuple ts k p] (.Tuple vs k' p') env=pure r:=by
 have a {α} {b:Bool} {x y:Option α} {r:α} {T E:Q7 α} (h:cond b x y=Jh r) (k:x=Jh r->T=pure r) (l:y=Jh r->E=pure r):(if b=true then T else E)=pure r:=by
  cases b with
  |true=>exact k h
  |false=>exact l h
 have c (h:vs.all bX=true):(vs.any fun | .Starred ..=>true | _=>false)=false:=by
  rw[List.any_eq_false];intro e f;have:=PR.mp h e f;cases e <;> first | exact K9 | exact ft this
 refine a h (λq=>congrArg pure (JP q)) λh=>?_;cases d:vs.all bX with
 |false=>rw[d] at h;exact nn h
 |true =>
  rw[d] at h;exact(if_neg (λq=>K9 ((c d).symm.trans q))).trans (a h (λq=>congrArg pure (JP q)) λh=>a h (λq=>congrArg pure (JP q)) λh=>a h nn λq=>congrArg pure (JP q))
inductive EV where
 |const (c:Const)
 |name (x:Str)
 |bin (a:Expr) (op:Nv) (b:Expr)
 |cmp (a:Expr) (op:CmpOp) (b:Expr)
 |bool (op:VA) (es:List Expr)
 |not (e:Expr)
 |ife (t a b:Expr)
 |tup (es:List Expr)
 |lst (es:List Expr)
 |sub (a k:Expr)
 |slc (a:Expr) (l u k:Option Expr)
 |attr (o:Expr) (x:Str)
 |call (f:Str) (p:UL) (es:List Expr)
 |meth (o:Expr) (x:Str) (es:List Expr)
 |dict0
 |oth
noncomputable def B2(a k:Expr):Ek->EV
 |.slice l u s=>.slc a l u s
 |_=>.sub a k
noncomputable def yB(f:Expr)(es:List Expr)(pos:UL):EV:=match f with
 |.Name x p=>.call x p es
 |.Attribute o x a=>cond (fc o&&decide (es.length<30)&&(a.endLine == pos.line)) (.meth o x es) .oth
 |_=>.oth
noncomputable def ev(e:Expr):EV:=match e with
 |.Constant c Z Y=>.const c
 |.Name x Z=>.name x
 |.BinOp a op b Z=>.bin a op b
 |.Compare a g bs Z=>match g with
  |[op]=>match bs with
   |[b]=>cond (PK op b) .oth (.cmp a op b)
   |_=>.oth
  |_=>.oth
 |.BoolOp op es Z=>.bool op es
 |.UnaryOp op x Z=>match op with
  |.Not=>.not x
  |_=>.oth
 |.IfExp t a b Z=>.ife t a b
 |.Tuple es Z Y=>cond (es.all bX) (.tup es) .oth
 |.List es Z=>cond (es.all bX) (.lst es) .oth
 |.Subscript a k Z=>B2 a k (kE k)
 |.Attribute o x Z=>cond (fc o) (.attr o x) .oth
 |.Call f es d pos=>match d with
  |[]=>cond (es.all bX) (yB f es pos) .oth
  |_=>.oth
 |.Dict h vs Z=>match h with
  |[]=>match vs with
   |[]=>.dict0
   |_=>.oth
  |_=>.oth
 |_=>.oth
inductive fZ:Expr->EV->Prop
 |const (c k p):fZ (.Constant c k p) (.const c)
 |name (x p):fZ (.Name x p) (.name x)
 |bin (a op b p):fZ (.BinOp a op b p) (.bin a op b)
 |cmp (a op b p) (h:PK op b=false):fZ (.Compare a [op] [b] p) (.cmp a op b)
 |bool (op es p):fZ (.BoolOp op es p) (.bool op es)
 |not (e p):fZ (.UnaryOp .Not e p) (.not e)
 |ife (t a b p):fZ (.IfExp t a b p) (.ife t a b)
 |tup (es k p) (h:es.all bX=true):fZ (.Tuple es k p) (.tup es)
 |lst (es p) (h:es.all bX=true):fZ (.List es p) (.lst es)
 |sub (a k p) (h:f6 k=true):fZ (.Subscript a k p) (.sub a k)
 |slc (a l u s q p):fZ (.Subscript a (.Slice l u s q) p) (.slc a l u s)
 |attr (o x p) (h:fc o=true):fZ (.Attribute o x p) (.attr o x)
 |call (f p es pos) (h:es.all bX=true):fZ (.Call (.Name f p) es [] pos) (.call f p es)
 |meth (o x ap es pos) (h:es.all bX=true) (hb:fc o=true) (hf:es.length<30) (hl:(ap.endLine == pos.line)=true):fZ (.Call (.Attribute o x ap) es [] pos) (.meth o x es)
 |dict0 (p):fZ (.Dict [] [] p) .dict0
 |oth (e):fZ e .oth
theorem B1(e:Expr):fZ e (ev e):=by
 have j {d:Type} {P:d->Prop} {b x y} (l:P x) (h:b=false->P y):P (cond b x y):=by
  cases b with
  |true=>exact l
  |false=>exact h rfl
 cases e with
 |Constant c k p=>exact .const c k p
 |Name x p=>exact .name x p
 |BinOp a op b p=>exact .bin a op b p
 |Compare a z bs p=>cases z with
  |nil=>exact .oth _
  |cons op l=>cases l with
   |cons=>exact .oth _
   |nil=>cases bs with
    |nil=>exact .oth _
    |cons b l=>cases l with
     |cons=>exact .oth _
     |nil=>exact j (.oth _) (.cmp a op b p)
 |BoolOp op es p=>exact .bool op es p
 |UnaryOp op x p=>cases op with
  |Not=>exact .not x p
  |_=>exact .oth _
 |IfExp t a b p=>exact .ife t a b p
 |Tuple es k p=>exact d4 (.tup es k p) (.oth _)
 |List es p=>exact d4 (.lst es p) (.oth _)
 |Subscript a k p =>
  show fZ _ (B2 a k (kE k));cases h:kE k with
  |slice l u s =>
   have i {e} (h:kE e=.slice l u s):∃q,e=.Slice l u s q:=by
    cases e with
    |Slice l u s q=>cases h;exact⟨q,rfl⟩
    |Call f v r p=>cases v with
     |nil=>cases r <;> exact Ek.noConfusion h
     |cons=>exact Ek.noConfusion h
    |_=>exact Ek.noConfusion h
   obtain⟨q,rfl⟩:=i h;exact .slc a l u s q p
  |_=>exact .sub a k p (by unfold f6;rw[h])
 |Attribute o x p=>exact d4 (.attr o x p) (.oth _)
 |Call f es r pos=>cases r with
  |cons=>exact .oth _
  |nil =>
   have g (h:es.all bX=true):fZ (.Call f es [] pos) (yB f es pos):=by
    cases f with
    |Name x p=>exact .call x p es pos h
    |Attribute o x A=>exact d4 (λw=>.meth o x A es pos h (Bool.and_eq_true_iff.mp (Bool.and_eq_true_iff.mp w).1).1 (of_decide_eq_true (Bool.and_eq_true_iff.mp (Bool.and_eq_true_iff.mp w).1).2) (Bool.and_eq_true_iff.mp w).2) (.oth _)
    |_=>exact .oth _
   exact d4 (g) (.oth _)
 |Dict B vs p=>cases B with
  |cons=>exact .oth _
  |nil=>cases vs with
   |cons=>exact .oth _
   |nil=>exact .dict0 p
 |_=>exact .oth _
inductive SV where
 |iff (t:Expr) (a b:List Stmt)
 |ret (e:Option Expr)
 |asg (t e:Expr)
 |asgT (ts vs:List Expr) (e:Expr)
 |asgs (ts:List Expr) (e:Expr)
 |aug (x:Str) (op:Nv) (e:Expr)
 |expr (e:Expr)
 |forr (t i:Expr) (b:List Stmt)
 |del (o k:Expr)
 |pass
 |brk
 |cont
 |oth
noncomputable def AZ(t e:Expr):SV:=match t with
 |.Tuple es Z Y=>match e with
  |.Tuple vs Z Y=>.asgT es vs e
  |_=>.oth
 |_=>.oth
noncomputable def A0(ts:List Expr)(e:Expr):SV:=match ts with
 |[]=>.oth
 |t::l=>match l with
  |[]=>cond (sk t e&&bX t) (.asg t e) (AZ t e)
  |u::l=>cond ((t::u::l).all bX) (.asgs (t::u::l) e) .oth
noncomputable def sv(c:Stmt):SV:=match c with
 |.If t a b Z=>.iff t a b
 |.Return e Z=>.ret e
 |.Assign ts e Z=>cond (ef e) (A0 ts e) .oth
 |.AugAssign t op e Z=>match t with
  |.Name x Z=>.aug x op e
  |_=>.oth
 |.Expr e Z=>cond (ef e) (.expr e) .oth
 |.For t i b d Z=>match d with
  |[]=>cond (iS i) (.forr t i b) .oth
  |_=>.oth
 |.Delete ts Z=>match ts with
  |[t]=>match t with
   |.Subscript o k Z=>.del o k
   |_=>.oth
  |_=>.oth
 |.Pass Z=>.pass
 |.Break Z=>.brk
 |.Continue Z=>.cont
 |_=>.oth
inductive g8:Stmt->SV->Prop
 |iff (t a b p):g8 (.If t a b p) (.iff t a b)
 |ret (e p):g8 (.Return e p) (.ret e)
 |asg (t e p) (h:ef e=true) (hs:sk t e=true) (hp:bX t=true):g8 (.Assign [t] e p) (.asg t e)
 |asgT (ts k q vs k' q' p):g8 (.Assign [.Tuple ts k q] (.Tuple vs k' q') p) (.asgT ts vs (.Tuple vs k' q'))
 |asgs (t u l e p) (h:ef e=true) (hp:(t::u::l).all bX=true):g8 (.Assign (t::u::l) e p) (.asgs (t::u::l) e)
 |aug (x q op e p):g8 (.AugAssign (.Name x q) op e p) (.aug x op e)
 |expr (e p) (h:ef e=true):g8 (.Expr e p) (.expr e)
 |forr (t i b p) (h:iS i=true):g8 (.For t i b [] p) (.forr t i b)
 |del (o k q p):g8 (.Delete [.Subscript o k q] p) (.del o k)
 |pass (p):g8 (.Pass p) .pass
 |brk (p):g8 (.Break p) .brk
 |cont (p):g8 (.Continue p) .cont
 |oth (c):g8 c .oth
theorem DQ(c:Stmt):g8 c (sv c):=by
 cases c with
 |If t a b p=>exact .iff t a b p
 |Return e p=>exact .ret e p
 |Assign ts e p =>
  have d (h:ef e=true):g8 (.Assign ts e p) (A0 ts e):=by
   have f (t e:Expr) (p:UL):g8 (.Assign [t] e p) (AZ t e):=by
    cases t with
    |Tuple es k q=>cases e with
     |Tuple vs r v=>exact .asgT es k q vs r v p
     |_=>exact .oth _
    |_=>exact .oth _
   cases ts with
   |nil=>exact .oth _
   |cons t l=>cases l with
    |nil=>exact d4 (λj=>.asg t e p h (Bool.and_eq_true_iff.mp j).1 (Bool.and_eq_true_iff.mp j).2) (f t e p)
    |cons u l=>exact d4 (.asgs t u l e p h) (.oth _)
  exact d4 (d) (.oth _)
 |AugAssign t op e p=>cases t with
  |Name x q=>exact .aug x q op e p
  |_=>exact .oth _
 |Expr e p=>exact d4 (.expr e p) (.oth _)
 |For t i b g p=>cases g with
  |cons=>exact .oth _
  |nil=>exact d4 (.forr t i b p) (.oth _)
 |Delete ts p=>cases ts with
  |nil=>exact .oth _
  |cons t l=>cases l with
   |cons=>exact .oth _
   |nil=>cases t with
    |Subscript o k q=>exact .del o k q p
    |_=>exact .oth _
 |Pass p=>exact .pass p
 |Break p=>exact .brk p
 |Continue p=>exact .cont p
 |_=>exact .oth _
end
section
variable {prog:Program}{w:LK}{A:Around}{E:Value->Js->Prop}{s:Js}
theorem iJ{id T sig a b o vs B Q}(g:Mo id=Jh sig)(u:Pb id=Jh .method)(j:Manifest.varargsMethods.contains id=false)(i:MZ (.type T) (.type "module")=pure false)(C0:Nx id {sig with full:=s!"{Bind.lastOf T}.{Bind.lastOf id}"} ⟨.ref a::vs,[]⟩=pure ())(p:Ur id=true)(r:NO Rf id=Jh B)(x:s.heap.get? b=Jh (fA id a))(q:s.heap.get? a=Jh o)(hc:o.cls=.type T)(hd:∀c,o.data≠.cls c)(h:JH (Jz prog w) A.in1 (B ⟨.ref a::vs,[]⟩) (λfin s'=>match fin with | .done f=>S6 Q E (.ok f) s' | .again c'=>c'.quiet=true/\NC (Jz prog w) A c' (S6 Q E) s') (λe s'=>S6 Q E (.error e) s') s):JH (Jz prog w) A (Ky (.ref b) vs) Q E s:=by
 have d {prog w A s id T sig a o vs P} (g:Mo id=Jh sig) (u:Pb id=Jh .method) (j:Manifest.varargsMethods.contains id=false) (i:MZ (.type T) (.type "module")=pure false) (C0:Nx id {sig with full:=s!"{Bind.lastOf T}.{Bind.lastOf id}"} ⟨.ref a::vs,[]⟩=pure ()) (q:s.heap.get? a=Jh o) (hc:o.cls=.type T) (hd:∀c,o.data≠.cls c) (h:P () s) :
   JH (Jz prog w) A (Vk id ⟨.ref a::vs,[]⟩) P E s:=by
  have v:s.TypeIs (.ref a) T:=⟨o,q,hc⟩
  unfold Vk;refine(g).symm▸?_;refine(u).symm▸?_;show JH _ _ (do let k <-MW (.ref a) (.type "module");_) _ _ _;refine Jf (L8 v i ?_);rw[if_neg (by rw[j];decide)];refine Jf ?_;show JH _ _ (loadHead a >>= λo=>pure (match o.data with | .cls _=>true | _=>false)) _ _ _;refine Jf (wpAny_loadPart q (Jk ?_));have e:(match o.data with | .cls _=>true | _=>false)=false:=by
   cases e:o.data with
   |cls c=>exact absurd e (hd c)
   |_=>rfl
  rw[if_neg (by rw[e];decide)];refine Jf (Qb v ?_);show JH _ _ (Nx id {sig with full:=s!"{Bind.lastOf T}.{Bind.lastOf id}"} _) _ _ _;refine(C0).symm▸?_;exact Jk h
 refine Lh (MR ?_);show JH _ _ (callAny (.ref b) ⟨vs,[]⟩) _ _ s;refine Jf (Rd x ?_);refine Jf (d g u j i C0 q hc hd ?_);refine Jk ⟨Nn p _,Mh r ?_⟩;rw[LH p];exact h
end
noncomputable def tT(id:String):Manifest.Signature:=(Mo id).getD ⟨.hand,"","",.none,[]⟩
section
variable {A:Around}{st:St}{Q:V->St->Prop}{K:Type}[DecidableEq K]{knd:KeyKind W.prog W.w K}{mk:List (K×V)->O}{a:List (K×V)}{j:Nat}{k:K}{c v dv:V}
end
section
variable {A:Around}{F:cU}{lc:Lc}{σ:Sg}{st:St}{s:Js}{Q:V->St->Prop}{j:Nat}{a:Nat}{vs:List V}{us:List V}{v:V}
theorem cf.split{n vs us}:∀ {ws:List Value},cf σ n s (vs++us) ws->∃xs ys,ws=xs++ys/\cf σ n s vs xs/\cf σ n s us ys:=by
 induction vs with
 |nil=>exact λh=>⟨[],_,rfl,rfl,h⟩
 |cons v vs g =>
  rintro ws ⟨w,i,e,a,c⟩;refine Jg λj=>?_;obtain⟨xs,ys,rfl,d,f⟩:=g c;refine j ?_;exact⟨w::xs,ys,e,⟨w,xs,rfl,a,d⟩,f⟩
theorem xk{o h' k}(i:Inv s)(r:Rel σ st s)(d:∀c y,s.heap.get? c=Jh y->h'.get? c=Jh y)(hz:s.heap.objs.size<=h'.objs.size)(h:s.toks<=k)(f:Ext de σ st.length s (σ.new st.length s.heap.objs.size) (st.length+1) {s with heap:=h',toks:=k}->RO (σ.new st.length s.heap.objs.size) (st.length+1) {s with heap:=h',toks:=k} s.heap.objs.size o)(a:∀g c L,o≠.gen g c L)(q:Q (.r st.length) (st++[o])):PV σ st s Q (.ref s.heap.objs.size) {s with heap:=h',toks:=k} :=
 ⟨_,_,dY (X:=de) i r (Jl _) d hz h f (λg c L e=>absurd e (a g c L)),.r st.length,⟨by rw[Ji];exact JL _,congrArg J3 (if_pos rfl).symm⟩,q⟩
theorem yO(T:bK)(e:st[j]?=Jh (.list (vs++[v])))(h:Q v (st.set j (.list vs))):MethW A "list.pop" (.r j) [] st Q:=by
 intro σ s f ws G y i r;subst G;refine Jg λJ=>?_;obtain⟨x,rfl,H,rfl⟩:=eI y;obtain⟨ws,n,g,hsz,z⟩:=r.at_ j _ e;obtain⟨us,ys,p,D,E⟩:=z.split;obtain⟨u,rfl,w⟩:=eI E;refine J ?_;have hw:ws.size=us.length+1:=by refine(Jx)▸?_;rw[p];simp
 refine Kb QX (⟨_,g,rfl⟩:s.TypeIs (.ref (σ.a j)) "list") PySem.F.entry_list_pop ?_ (PySem.F.args_list_pop_1 _);refine Jf (Jk ?_);refine Jf (Jk ?_);show JH _ _ (if(!Builtin.List.listFitsIndex (-1))=true then _ else _) _ _ _;rw[if_neg (by decide)];refine Jf ?_;refine Jf (Kr g rfl (Jk ?_));rw[if_neg (by rw[PH];exact bM 18 0 hw)];have hi:(MY (-1) ws.size).bind (λk=>ws[k]?.map (k,·))=Jh (us.length,u):=by
  have e:MY (-1) ws.size=Jh us.length:=by
   unfold MY;refine(hw).symm▸?_;simp;have d {c}:((((0:Int)<=((- (1:Int))+(((c:Nat):Int)+(1:Int))))/\(((- (1:Int))+(((c:Nat):Int)+(1:Int)))<(((c:Nat):Int)+(1:Int))))/\((M8 ((- (1:Int))+(((c:Nat):Int)+(1:Int))))=c)):=bM 18 1 (toN _);exact d
  refine(e).symm▸?_;simp [(show ws[us.length]?=Jh u from by refine(JZ)▸?_;refine(p).symm▸?_;simp)]
 show JH _ _ (match (MY (-1) ws.size).bind (λk=>ws[k]?.map (k,·)) with
  |some (k,x)=>do Nq (.ref (σ.a j)) (·.eraseIdxIfInBounds k);ret x
  |none=>_) _ _ _
 refine(hi).symm▸?_;refine Jf ?_;have B:(ws.eraseIdxIfInBounds us.length).toList=us:=by
  unfold Array.eraseIdxIfInBounds;refine(dif_pos (show us.length<ws.size from by exact bM 17 23 hw)).symm▸?_;refine(Array.toList_eraseIdx).symm▸?_;refine(p).symm▸?_;simp [List.eraseIdx_append_of_length_le]
 have C:(ws.eraseIdxIfInBounds us.length).size=us.length:=by refine(Jx)▸?_;exact(B).symm▸rfl
 refine Lx g rfl ?_ hsz (by refine(C).symm▸?_;exact bZ 18 2 hw hsz);have x:=dX (X:=de) (k:=s.toks) (o:=.list vs) T i r H (J2 ..) (Jl _) (λx=>⟨_,_,(J0 (Kq (·.eraseIdxIfInBounds us.length)) g rfl),by refine(C).symm▸?_;exact bZ 15 23 hw hsz,by rw[B];exact D.mono x r.apart⟩) (λZ Y U q=>nomatch q);exact Jk ⟨_,rfl,_,_,x,v,w.step r x,h⟩
theorem mu{e pos}(h:cx A F e lc st λv a=>∃n,v=.i n/\Q (.i (-n)) a):cx A F (.UnaryOp .USub e pos) lc st Q:=λσ s p =>
 wpAny_UnaryOp (bH (h σ s p) λw s₁ d a v c f q=>by
  refine Jg λg=>?_;obtain⟨n,rfl,q⟩:=q;obtain⟨t,rfl⟩:=f;refine g ?_;exact P.neg_int ⟨_,_,c.toks (JC _),.i _,⟨_,rfl⟩,q⟩)
theorem kD(T:bK)(e:st[j]?=Jh (.list vs))(C:st[a]?=Jh (.list us))(hz:vs.length+us.length<=1000000)(h:Q .n (st.set j (.list (vs++us)))):MethW A "list.extend" (.r j) [.r a] st Q:=by
 intro σ s f ws G z i r;subst G;obtain⟨x,y,rfl,⟨H,rfl⟩,_,rfl⟩:=iL z;obtain⟨ws,n,u,hsz,p⟩:=r.at_ j _ e;obtain⟨xs,M,v,J,g⟩:=r.at_ a _ C;have D:ws.size=vs.length:=by rw[<-Jx,p.len]
 have E:xs.size=us.length:=by rw[<-Jx,g.len]
 have w:sizeLine=16777216:=by decide
 obtain⟨m,B⟩:∃m,Kq (λx=>x++xs) (Kd.lst.obj ws n)=Kd.lst.obj (ws++xs) m:=⟨_,rfl⟩
 have c:ws.size+xs.size<=sizeLine:=by exact d7 18 3 hz w D E
 have d:(s.heap.update (σ.a j) (Kq λx=>x++xs)).get? (σ.a j)=Jh (Kd.lst.obj (ws++xs) m):=by
  rw[J0 _ u (by rw[B];rfl),B]
 refine T3 Qn ⟨_,u,rfl⟩ PySem.F.entry_list_extend (PySem.F.args_list_extend_2 _ _) (AutoSeq1.list_extend_list_list_0 (σ.a j) ws n (σ.a a) xs M (extend_door c) (Jn (JG _ _) c) (KG c)) ⟨u,v,?_⟩;exact⟨_,_,dX (k:=s.toks) (o:=.list (vs++us)) T i r H (J2 ..) (Jl _) (λx=>⟨_,_,d,by rw[Sb];exact c,by refine(RI).symm▸?_;exact cf.app (g.mono x r.apart) (p.mono x r.apart)⟩) (λZ Y U q=>nomatch q),.n,rfl,h⟩
end
noncomputable def gV{c:Type}(x:Option c)(f:c->Prop)(E:Prop):Prop:=match x with
 |some a=>f a
 |none=>E
theorem b0{α}{x:Option α}{f:α->Prop}{E E':Prop}(h:gV x f E)(k:∀a,x=Jh a->f a->E')(l:E->E'):E':=by
 cases x with
 |none=>exact l h
 |some a=>exact k a rfl h
noncomputable def oP{α:Type}(p:O->Option α)(st:St)(h:Nat):Option α:=st[h]?.bind p
theorem ua{α}{p:O->Option α}{st:St}{h:Nat}{a:α}(e:oP p st h=Jh a):∃o,st[h]?=Jh o/\p o=Jh a:=Option.bind_eq_some_iff.mp e
theorem jf{α p}{f:α->O}{st h a}(q:∀o a,p o=Jh a->o=f a)(e:oP p st h=Jh a):st[h]?=Jh (f a):=by
 obtain⟨o,c,d⟩:=ua e;refine(c).symm▸?_;exact(q o a d).symm▸rfl
noncomputable def pD:O->Option (List (Str×V))
 |.dict k=>Jh k
 |_=>none
noncomputable def GR:O->Option (List (Int×V))
 |.dicti k=>Jh k
 |_=>none
noncomputable def pS:O->Option (List Str)
 |.set k=>Jh k
 |_=>none
noncomputable def pI:O->Option (Addr×Nat)
 |.inst C d=>Jh (C,d)
 |_=>none
noncomputable def pN:O->Option (List (Str×V))
 |.ns m=>Jh m
 |_=>none
mutual
theorem Ba{o k}(h:pD o=Jh k):o=.dict k:=by
 cases o with
 |dict x=>exact congrArg O.dict (JP h)
 |_=>exact nn h
theorem xo{o k}(h:GR o=Jh k):o=.dicti k:=by
 cases o with
 |dicti x=>exact congrArg O.dicti (JP h)
 |_=>exact nn h
theorem A7{o k}(h:pS o=Jh k):o=.set k:=by
 cases o with
 |set x=>exact congrArg O.set (JP h)
 |_=>exact nn h
theorem A9{o k}(h:pI o=Jh k):o=.inst k.1 k.2:=by
 cases o with
 |inst C d=>exact(JP h)▸rfl
 |_=>exact nn h
theorem A8{o k}(h:pN o=Jh k):o=.ns k:=by
 cases o with
 |ns x=>exact congrArg O.ns (JP h)
 |_=>exact nn h
end
noncomputable def Cl(cl:List (Addr×iy)):Prop:=∀C c,cl.lookup C=Jh c->ou C c
inductive Ja(cl:List (Addr×iy))(st:St)(h:Nat)(c:iy)(C:Addr)(d:Nat)(m:Lc):Prop
 |mk (h1:st[h]?=Jh (.inst C d)) (h2:st[d]?=Jh (.ns m)) (h3:cl.lookup C=Jh c)
noncomputable def yc(cl:List (Addr×iy))(st:St)(h:Nat)(f:iy->Nat->Lc->Prop)(E:Prop):Prop :=
 gV (oP pI st h) (λp=>gV (cl.lookup p.1) (λc=>gV (oP pN st p.2) (λm=>f c p.2 m) E) E) E
theorem ku{cl st h f E}{E':Prop}(q:yc cl st h f E)(k:∀c C d m,Ja cl st h c C d m->f c d m->E')(l:E->E'):E' :=
 b0 q (λp e q=>b0 q (λc a q=>b0 q (λm g q=>k c p.1 p.2 m (.mk (jf (f:=λp=>.inst p.1 p.2) @A9 e) (jf @A8 g) a) q) l) l) l
namespace N
noncomputable def get:Str:=⟨⟨[103,101,116]⟩⟩
noncomputable def has:Str:=⟨⟨[95,95,99,111,110,116,97,105,110,115,95,95]⟩⟩
noncomputable def append:Str:=⟨⟨[97,112,112,101,110,100]⟩⟩
noncomputable def pop:Str:=⟨⟨[112,111,112]⟩⟩
noncomputable def extend:Str:=⟨⟨[101,120,116,101,110,100]⟩⟩
noncomputable def sort:Str:=⟨⟨[115,111,114,116]⟩⟩
noncomputable def setdefault:Str:=⟨⟨[115,101,116,100,101,102,97,117,108,116]⟩⟩
noncomputable def keys:Str:=⟨⟨[107,101,121,115]⟩⟩
noncomputable def items:Str:=⟨⟨[105,116,101,109,115]⟩⟩
noncomputable def add:Str:=⟨⟨[97,100,100]⟩⟩
noncomputable def join:Str:=⟨⟨[106,111,105,110]⟩⟩
noncomputable def rstrip:Str:=⟨⟨[114,115,116,114,105,112]⟩⟩
noncomputable def strip:Str:=⟨⟨[115,116,114,105,112]⟩⟩
noncomputable def isspace:Str:=⟨⟨[105,115,115,112,97,99,101]⟩⟩
noncomputable def count:Str:=⟨⟨[99,111,117,110,116]⟩⟩
end N
noncomputable def yf:V->Bool
 |.g Z=>false
 |.v w=>(match w with | .builtin _=>false | _=>true)
 |_=>true
section
variable {A:Around}{F:cU}{lc:Lc}{st:St}{Q:V->St->Prop}{cl:List (Addr×iy)}
noncomputable def Fs(h:Nat)(x:Str)(st:St)(Q:V->St->Prop)(E:Prop):Prop:=gV (oP DC st h) (λT=>match T with
 |.dict=>cond (x == N.get) (Q (.bm .dget h) st) E
 |.set=>cond (x == N.has) (Q (.bm .shas h) st) E
 |_=>E) E
noncomputable def yY(A:Around)(cl:List (Addr×iy))(v:V)(x:Str)(st:St)(Q:V->St->Prop):Prop:=match v with
 |.r h=>yc cl st h (λc Z m=>gV (m.lookup x) (λu=>cond (c.as.contains x&&yf u) (Q u st) (hF A v x st Q)) (hF A v x st Q)) (Fs h x st Q (hF A v x st Q))
 |v=>hF A v x st Q
theorem rH(C:Cl cl){v x}(h:yY A cl v x st Q):hF A v x st Q:=by
 have z {x} {C:Nat} {d c} {m:Lc} {name v} (hc:ou C c) (J:st[x]?=Jh (.inst C d)) (G:st[d]?=Jh (.ns m)) (hn:c.as.contains name=true) (hm:m.lookup name=Jh v) (S:∀id,v≠.v (.builtin id)) (P:∀b,v≠.g b) (h:Q v st):hF A (.r x) name st Q:=by
  intro σ s w ⟨hx,e⟩ i r;subst e;refine Jg λU=>?_;obtain⟨mN,at_,_,Z,_,_,as⟩:=hc;obtain⟨n2,hB⟩:=as name hn;obtain⟨f,o,hI,hk,_⟩:=mc J G r;obtain⟨u,hu,X⟩:=hk name v hm;obtain⟨nm,qn,bs,sn,sub,Y,dd,k0,k1,k2,k3,k5,hC,R⟩:=at_.now i;obtain⟨hp,g,dr,t,os⟩:=s;refine U ?_;have B {s n v w} (S:∀id,v≠.v (.builtin id)) (P:∀b,v≠.g b) (h:RV σ n s v w):QJ w=pure w:=by
   cases v with
   |v u =>
    have e:w=u:=h;subst e;cases w <;> first | rfl | exact absurd rfl (S _)
   |i x=>obtain⟨t,rfl⟩:=h;rfl
   |f x=>obtain⟨t,rfl⟩:=h;rfl
   |s x t=>obtain⟨u,rfl,_⟩:=h;rfl
   |c k vs=>obtain⟨a,i,m,rfl,_⟩:=h;rfl
   |r j=>obtain⟨_,rfl⟩:=h;rfl
   |o o=>obtain⟨a,rfl,_⟩:=h;rfl
   |bm b j=>obtain⟨a,rfl,_⟩:=h;rfl
   |g b=>exact absurd rfl (P b)
   |rg x y=>obtain⟨a,t,u,v,rfl,_⟩:=h;rfl
  exact load_attr hC R Z n2 hB hI hu (B S P X) ⟨σ,st,bT i r (JC _),v,X.step r (bT i r (JC _)),h⟩
 have E {v} (h:yf v=true) (id:String):v≠.v (.builtin id):=λq=>by subst q;exact Jq h
 have F {v} (h:yf v=true) (b:Bi):v≠.g b:=λq=>by subst q;exact Jq h
 cases v with
 |r h' =>
  have p {h} (q:Fs h x st Q (hF A (.r h) x st Q)):hF A (.r h) x st Q :=
   b0 q (λT e q=>by
    refine Jg λU=>?_;obtain⟨o,J,G⟩:=ua e;refine U ?_;cases T with
    |dict=>exact cB q (λe q=>eq_of_beq e▸mO rfl mG (tj J G) q) id
    |set =>
     have H:∃l,st[h]?=Jh (.set l):=by
      cases o with
      |set l=>exact⟨l,J⟩
      |list=>exact Ty.noConfusion (JP G)
      |dict=>exact Ty.noConfusion (JP G)
      |dicti=>exact Ty.noConfusion (JP G)
      |_=>exact nn G
     exact cB q (λe q=>(H).elim λl hl=>eq_of_beq e▸mO rfl ti (v7 hl) q) id
    |_=>exact q) id
  unfold yY at h;exact ku h (λc D d m i h=>b0 h (λu e h=>cB h (λM h=>i.casesOn λJ G h3=>z (C _ _ h3) J G (Bool.and_eq_true_iff.mp M).1 e (E (Bool.and_eq_true_iff.mp M).2) (F (Bool.and_eq_true_iff.mp M).2) h) id) id) p
 |_=>exact h
noncomputable def w6(A:Around)(cl:List (Addr×iy))(o:V)(x:Str)(v:V)(st:St)(Q:St->Prop):Prop:=match o with
 |.r h=>yc cl st h (λc d m=>cond (c.as.contains x&&decide (m.length<=99)) (Q (st.set d (.ns (m.set x v)))) (oq A o x v st Q)) (oq A o x v st Q)
 |o=>oq A o x v st Q
theorem qe(T:bK)(C:Cl cl){o x v Q}(h:w6 A cl o x v st Q):oq A o x v st Q:=by
 have j {x} {C:Nat} {d c} {m:Lc} {name} (hc:ou C c) (h1:st[x]?=Jh (.inst C d)) (h2:st[d]?=Jh (.ns m)) (hn:c.as.contains name=true) (hl:m.length<=99) (h:Q (st.set d (.ns (m.set name v)))):oq A (.r x) name v st Q:=by
  intro σ s u w ⟨hx,e⟩ hv i r;subst e;obtain⟨mN,at_,sa,_,_,_,as⟩:=hc;obtain⟨n2,hB⟩:=as name hn;obtain⟨f,o,hI,hk,M,ho,hd,dn,ne⟩:=mc h1 h2 r;obtain⟨nm,qn,bs,sn,sub,ah,dd,k0,k1,k2,k3,k5,hC,G⟩:=at_.now i;have ae:σ.a x≠C:=λe=>by
   obtain⟨o',cq,ab,_⟩:=hI;replace cq:=e▸cq;replace cq:=hC▸cq;cases cq;cases ab
  have hw:Within f (m.map (·.1)):=λy B=>by
   cases e:m.lookup y with
   |none=>exact absurd (M y e) B
   |some v =>
    have:=List.lookup_isSome_iff (l:=m) (k:=y);rw[e] at this;refine Jg λzz=>?_;obtain⟨p,hp,hq⟩:=this.mp rfl;refine zz ?_;exact Ra.mpr ⟨p,hp,(eq_of_beq hq).symm⟩
  refine wpAny_toks (bS (store_attr PySem.F.store_object hC G sa n2 hB ae hI (λh' af aa ac H hz ht=>?_) hw (by rw[Jt];exact Jn hl (by decide))));refine Jg λzz=>?_;obtain⟨E,z,e1,e2,e3,e4⟩:=H o ho;refine zz ?_;have e5:=e4 _ hd;have eo:E=o:=by
   obtain⟨c1,d1,ai,s1⟩:=E;obtain⟨c2,d2,aj,s2⟩:=o;simp only at e1 e2 e3 e5 hd;subst e1 e2 e3 e5 hd
   rfl
  subst eo;refine Jg λzz=>?_;obtain⟨o',cq,_,_,g⟩:=aa;refine zz ?_;replace cq:=z▸cq;cases cq;have P:h'.Ns1 (σ.a d) (λy=>if y=name then Jh w else f y):=by
   rcases g with ⟨g,_⟩ | ⟨d',g,_,G⟩
   ·have g:=hd▸g;cases g
   ·have g:=hd▸g;cases g;exact G
  have x:=jG (X:=de) (o:=.ns (m.set name v)) (k:=af) T i r dn (λb o hb e=>by
   by_cases J:b=σ.a x
   ·subst J;have e:=ho▸e;cases e;exact z
   ·exact ac b o J (λag dx R S=>by have R:=ho▸R;cases R;have S:=hd▸S;cases S;exact hb) e) hz ht (λx=>⟨_,P,λy v' q=>by
    rw[Lc.fh] at q;by_cases B:y=name
    ·subst B;rw[beq_self_eq_true,if_pos rfl] at q;cases q;exact⟨w,if_pos rfl,RV.mono x r.apart _ _ hv⟩
    ·rw[if_neg (by simpa using B)] at q;obtain⟨w',R,S⟩:=hk y v' q;exact⟨w',(if_neg B).trans R,RV.mono x r.apart _ _ S⟩,λy q=>by
    rw[Lc.fh] at q;by_cases B:y=name
    ·subst B;rw[beq_self_eq_true,if_pos rfl] at q;cases q
    ·rw[if_neg (by simpa using B)] at q;exact(if_neg B).trans (M y q)⟩) (λZ Y U q=>nomatch q)
  exact⟨_,_,x,h⟩
 cases o with
 |r h'=>unfold w6 at h;exact ku h (λc D d m i h=>cB h (λhb h=>i.casesOn λh1 h2 h3=>j (C _ _ h3) h1 h2 (Bool.and_eq_true_iff.mp hb).1 (of_decide_eq_true (Bool.and_eq_true_iff.mp hb).2) h) id) id
 |_=>exact h
noncomputable def A2(A:Around)(o k v:V)(st:St)(Q:St->Prop):Prop:=match o with
 |.r h=>(match k with
  |.s x Z=>gV (oP pD st h) (λa=>a.length<=sizeLine/\Q (st.set h (.dict (gN a x v)))) (jB A o k v st Q)
  |.i x=>gV (oP GR st h) (λa=>a.length<=sizeLine/\Q (st.set h (.dicti (gN a x v)))) (jB A o k v st Q)
  |k=>jB A o k v st Q)
 |o=>jB A o k v st Q
theorem qd(T:bK){o k v Q}(h:A2 A o k v st Q):jB A o k v st Q:=by
 have d {K:Type} [DecidableEq K] {knd:KeyKind W.prog W.w K} {mk:List (K×V)->O} {f:List (K×V)} {j:Nat} {k:K} {y:V} (D:gh knd mk) (e:st[j]?=Jh (mk f)) (F:nf knd y k) (hz:f.length<=sizeLine) (h:Q (st.set j (mk (gN f k v)))):jB A (.r j) y v st Q:=by
  rintro σ s a b c ⟨E,B⟩ C hc i r;subst B;refine Jg λq=>?_;obtain⟨o,ws,H,hd,u⟩:=D.to _ _ _ _ _ (r.at_ j _ e);have G:ws.length=f.length:=by have:=congrArg L6 u.1;simpa using this
  obtain⟨_,_,_,_,_,_,M⟩:=id hd;refine q ?_;refine wpAny_setItem_pairs (F _ _ _ _ C) (Heap.dictOf_iff.mpr ⟨o,H,hd⟩) (λh' z J=>?_) (by rw[G];exact hz);refine Jg λq=>?_;obtain⟨o',g,p⟩:=Heap.dictOf_iff.mp z;refine q ?_;exact⟨_,_,dX T i r E J (JC _) (λx=>D.of _ _ _ _ _ ⟨o',_,g,p,RK.set (RV.mono x r.apart _ _ hc) (u.mono x r.apart) M⟩) (D.gen _),h⟩
 cases o with
 |r j=>cases k with
  |s x t=>exact b0 h (λf e h=>d dict_str (jf @Ba e) et h.1 h.2) id
  |i x=>exact b0 h (λf e h=>d dict_int (jf @xo e) jq h.1 h.2) id
  |_=>exact h
 |_=>exact h
noncomputable def yC(j:Nat)(k u:V)(st:St)(Q:V->St->Prop)(E:Prop):Prop:=match k with
 |.s x Z=>gV (oP pD st j) (λa=>∀v,(b6 a x).getD u=v->Q v st) E
 |.i x=>gV (oP GR st j) (λa=>∀v,(b6 a x).getD u=v->Q v st) E
 |_=>E
theorem kB{j k u E}(h:yC j k u st Q E)(l:∀ {K:Type} [DecidableEq K] {knd:KeyKind W.prog W.w K} {mk:List (K×V)->O} {a:List (K×V)} {x:K},gh knd mk->st[j]?=Jh (mk a)->nf knd k x->Q ((b6 a x).getD u) st->E):E:=by
 cases k with
 |s x t=>exact b0 h (λa e h=>l dict_str (jf @Ba e) et (h _ rfl)) id
 |i x=>exact b0 h (λa e h=>l dict_int (jf @xo e) jq (h _ rfl)) id
 |_=>exact h
noncomputable def I2(A:Around)(b:Bi)(vs:List V)(st:St)(Q:V->St->Prop):Prop:=match b with
 |.len=>(match vs with
  |[v]=>G7 A v st Q
  |vs=>bI A (.g .len) vs st Q)
 |.range=>(match vs with
  |[a]=>(match a with
   |.i y=>Q (.rg 0 y) st
   |a=>bI A (.g .range) [a] st Q)
  |[a,b]=>(match a with
   |.i x=>(match b with
    |.i y=>Q (.rg x y) st
    |b=>bI A (.g .range) [.i x,b] st Q)
   |a=>bI A (.g .range) [a,b] st Q)
  |vs=>bI A (.g .range) vs st Q)
 |.set=>(match vs with
  |[]=>Q (.r st.length) (st++[.set []])
  |vs=>bI A (.g .set) vs st Q)
 |b=>bI A (.g b) vs st Q
noncomputable def I1(A:Around)(b:Bm)(j:Nat)(vs:List V)(st:St)(Q:V->St->Prop):Prop:=match b with
 |.dget=>(match vs with
  |[k,u]=>yC j k u st Q (bI A (.bm .dget j) [k,u] st Q)
  |vs=>bI A (.bm .dget j) vs st Q)
 |.shas=>(match vs with
  |[k]=>(match k with
   |.s x t=>gV (oP pS st j) (λl=>l.length<scanBound/\Q (.b (decide (x∈l))) st) (bI A (.bm .shas j) [.s x t] st Q)
   |k=>bI A (.bm .shas j) [k] st Q)
  |vs=>bI A (.bm .shas j) vs st Q)
 |b=>bI A (.bm b j) vs st Q
noncomputable def Fq(A:Around)(f:V)(vs:List V)(st:St)(Q:V->St->Prop):Prop:=match f with
 |.g b=>I2 A b vs st Q
 |.bm b j=>I1 A b j vs st Q
 |f=>bI A f vs st Q
theorem th(T:bK){f vs}(h:Fq A f vs st Q):bI A f vs st Q:=by
 cases f with
 |g b =>
  have J:bI A (.g b) vs st Q:=by
   cases b with
   |len=>cases vs with
    |nil=>exact h
    |cons v l=>cases l with
     |nil =>
      have G:bI A (.g .len) [v] st Q:=by
       have Vg {A σ s Q a items m vs} (ho:s.heap.get? a=Jh (Kd.lst.obj items m)) (hz:items.size<=sizeLine) (hv:cf σ st.length s vs items.toList) (i:Inv s) (r:Rel σ st s) (h:Q (.i vs.length) st):Wp A (Ky (.builtin "len") [.ref a]) (PV σ st s Q) s:=by
        have hl:=hv.len;replace hl:=Jx▸hl;refine Calls.call_len_list ⟨_,ho,rfl,m,rfl⟩ (by have:=dP;omega) ⟨_,_,bT i r (JG _ 2),.i vs.length,⟨_,by rw[hl]⟩,h⟩
       cases v with
       |s x t =>
        intro σ s w ws hw p i r;subst hw;obtain⟨y,rfl,u,rfl,_⟩:=eI p;exact P.len_str (by have:=h.1;have:=dP;omega) ⟨_,_,bT i r (JG _ 2),.i x.length,⟨_,rfl⟩,h.2⟩
       |c k vs=>cases k with
        |lst =>
         intro σ s w ws hw p i r;cases hw;obtain⟨y,rfl,a,items,m,rfl,_,ho,hz,hv⟩:=eI p;exact Vg ho hz (cf.wo (k:=.lst) hv) i r h
        |_=>exact h
       |r j =>
        refine gf h λvs e h σ s w ws hw p i r=>?_;cases hw;obtain⟨y,rfl,hj,rfl⟩:=eI p;obtain⟨items,m,ho,hz,hv⟩:=r.at_ j _ e;exact Vg ho hz hv i r h
       |_=>exact h
      exact G
     |cons=>exact h
   |range=>cases vs with
    |nil=>exact h
    |cons v l=>cases l with
     |nil=>cases v with
      |i y =>
       have B:bI A (.g .range) [.i y] st Q:=by
        intro σ s f ws hf p i r;subst hf;obtain⟨u,rfl,t,rfl⟩:=eI p;refine call_range_1 ?_;exact⟨_,_,(d8 (X:=de) (h':=s.heap.push (lQ 0 y s.toks t (s.toks+1))) (k:=s.toks+2) i r (Jl _) (by refine(JA ..).symm▸?_;exact JL _) (λc y e=>Jm _ e) (JG _ 2)),.rg _ _,⟨_,s.toks,t,s.toks+1,rfl,.inr rfl,Ju _ rfl⟩,h⟩
       exact B
      |_=>exact h
     |cons u l=>cases l with
      |nil=>cases v with
       |i x=>cases u with
        |i y =>
         have C:bI A (.g .range) [.i x,.i y] st Q:=by
          intro σ s f ws hf p i r;subst hf;obtain⟨u,v,rfl,⟨t,rfl⟩,t',rfl⟩:=iL p;refine call_range_2 ?_;exact⟨_,_,(d8 (X:=de) (h':=s.heap.push (lQ x y t t' s.toks)) (k:=s.toks+1) i r (Jl _) (by refine(JA ..).symm▸?_;exact JL _) (λc y e=>Jm _ e) (JC _)),.rg _ _,⟨_,t,t',s.toks,rfl,.inr rfl,Ju _ rfl⟩,h⟩
         exact C
        |_=>exact h
       |_=>exact h
      |cons=>exact h
   |set=>cases vs with
    |nil =>
     have ae:bI A (.g .set) [] st Q:=by
      have al {s E P} (h:P (.ref s.heap.objs.size) {s with heap:=s.heap.push (r8 (!cS W.w))}):JH (Jz W.prog W.w) A (Ky (.type "set") []) P E s:=by
       have af {A s E Q₁} (h:Q₁ (.ref s.heap.objs.size) {s with heap:=s.heap.push (r8 (!cS W.w))}) :
         NC (Jz W.prog W.w) A (.call (.builtin "set.__new__") ⟨[.type "set"],[]⟩) (S6 Q₁ E) s:=by
        refine MR ?_;show JH _ A.in1 (do Ox "set.__new__" ⟨[.type "set"],[]⟩;Vp (.builtin "set.__new__" ⟨[.type "set"],[]⟩)) _ _ s;refine Jf (MX PySem.F.newCall_set_0 (Jk ⟨Nn QZ _,Mh PySem.F.entry_set_new ?_⟩));refine(LH QZ _).symm▸?_;delta Builtin.«set.__new__» Tv;have ax:=sub_set_self;obtain⟨hp,g,d,tk,os⟩:=s;dsimp only
        wp_walk
        refine MD (Jk ?_);dsimp only;exact Jf (S5 (Jk (Jk h)))
       refine Jg λzz=>?_;obtain⟨c,tl,aA⟩:=PySem.F.called_set.mro;refine zz ?_;have az:=PySem.F.called_set.made;have ax:=PySem.F.called_set.sub;refine Lh (MR ?_);refine Jk ⟨Nw _ (by decide +kernel),Mh PySem.F.entry_type_call ?_⟩;refine(Around.under_plain (weight_type_call_type "set" [] []) rfl).symm▸?_;have h1:=PySem.F.called_set.notType;have h2:=PySem.F.called_set.canCreate;have aC:=PySem.F.typeCall_set_0
       repeat (any_goals (first | assumption | wp_step))
       refine M6 (af (E:=E) (Q₁:=λobj s₁=>obj=.ref s.heap.objs.size/\s₁={s with heap:=s.heap.push (r8 (!cS W.w))}) ⟨rfl,rfl⟩) λrr s₁ hr=>?_;cases rr with
       |error e=>exact hr
       |ok fl =>
        cases fl with
        |ret obj =>
         obtain⟨rfl,rfl⟩:=hr;have hT:Js.TypeIs {s with heap:=s.heap.push (r8 (!cS W.w))} (.ref s.heap.objs.size) "set":=⟨_,Ju _ rfl,rfl⟩
         have hS:(s.heap.push (r8 (!cS W.w))).get? s.heap.objs.size=Jh (r8 (!cS W.w)):=Ju _ rfl;have aD:=PySem.F.called_set.init.lookup;have aB:=PySem.F.called_set.init.bind (.ref s.heap.objs.size)
         repeat (any_goals (first | assumption | wp_step))
         refine M6 (KZ (R:=S6 (λx as=>x=.none/\P (.ref s.heap.objs.size) as) E) PySem.F.called_set.init.plain PySem.F.entry_set_init (check_set_init hT ?_)) λay as S=>?_
         ·wp_walk
          exact⟨rfl,h⟩
         ·cases ay with
          |error e=>exact S
          |ok au =>
           cases au with
           |ret x =>
            obtain⟨rfl,hq⟩:=S
            repeat (any_goals (first | assumption | wp_step))
           |_=>exact S.elim
        |_=>exact hr.elim
      intro σ s f ws hf p i r;subst hf;subst p;have ok:iu #[] (.fresh 0 0 (!cS W.w)) []:=by
       refine⟨λe he=>(by simp at he),.refl _,OD,rfl,?_,.inl rfl⟩;cases hb:cS W.w
       ·exact .inr rfl
       ·exact .inl rfl
      have x:=dY (X:=de) (b:=s.heap.objs.size) (h':=s.heap.push (r8 (!cS W.w))) (k:=s.toks) (o:=.set []) i r (Jl _) (λc y e=>Jm _ e) (by rw[JA];exact JC _) (Jl _)
       (λZ=>⟨_,0,_,Ju _ rfl,ok⟩) (λZ Y U q=>O.noConfusion q)
      exact al ⟨_,_,x,.r st.length,⟨by rw[Ji];exact JL _,congrArg J3 (if_pos rfl).symm⟩,h⟩
     exact ae
    |cons=>exact h
   |_=>exact h
  exact J
 |bm b j =>
  have M:bI A (.bm b j) vs st Q:=by
   cases b with
   |dget=>cases vs with
    |nil=>exact h
    |cons k l=>cases l with
     |nil=>exact h
     |cons u l=>cases l with
      |nil =>
       have aq {K:Type} [DecidableEq K] {knd:KeyKind W.prog W.w K} {mk:List (K×V)->O} {aw:List (K×V)} {k:K} {kv v dv:V} (D:gh knd mk) (e:st[j]?=Jh (mk aw)) (hk:nf knd kv k) (hg:(b6 aw k).getD dv=v) (h:Q v st):bI A (.bm .dget j) [kv,dv] st Q:=by
        have ag:Mo "dict.get"=Jh (tT "dict.get"):=by kernel_rfl
        have H:MZ (.type "dict") (.type "module")=pure false:=by rw[KN];kernel_rfl
        have aj (a:Addr) (k v:Value):Nx "dict.get" {tT "dict.get" with full:=s!"{Bind.lastOf "dict"}.{Bind.lastOf "dict.get"}"} ⟨[.ref a,k,v],[]⟩=pure ():=by kernel_rfl
        intro σ s f ws hf p i r;obtain⟨b,rfl,_,hb,hj⟩:=hf;obtain⟨y,z,rfl,hy,hc⟩:=iL p;obtain⟨o,ws,ho,hd,hr⟩:=D.to _ _ _ _ _ (r.at_ j _ e);have x:=bT (X:=de) i r (JC s.toks);have av:=mz hd;have am:Ur "dict.get"=true:=by decide +kernel
        have ao:Manifest.varargsMethods.contains "dict.get"=false:=by decide +kernel
        have aa:Pb "dict.get"=Jh .method:=by decide +kernel
        refine iJ ag aa ao H (aj _ _ _) am QN hb ho av.1 (λc q=>by rw[q] at av;exact Jq (av.2.2:false=true)) ?_;refine Si knd _ (hk _ _ _ _ hy) (jh T r hj) z A (S6 _ _) s ⟨_,(Heap.dictOf_iff.mpr ⟨o,ho,hd⟩:s.heap.DictOf knd (σ.a j) ws).mapOf,σ,st,x,v,?_,h⟩;have q:=RK.get (k:=k) hr;cases hq:b6 aw k with
        |none=>have hg:=hq▸hg;rw[q.2 hq];exact hg▸hc.step r x
        |some u =>
         rw[hq] at hg;obtain⟨w,hw,hv⟩:=q.1 u hq;refine(hw).symm▸?_;exact hg▸hv.step r x
       exact kB h λD e hk q=>aq D e hk rfl q
      |cons=>exact h
   |shas=>cases vs with
    |nil=>exact h
    |cons k l=>cases l with
     |nil=>cases k with
      |s x t =>
       have ai {l k} (e:st[j]?=Jh (.set l)) (hz:l.length<scanBound) (h:Q (.b (decide (k∈l))) st):bI A (.bm .shas j) [.s k t] st Q:=by
        have ah:Mo "set.__contains__"=Jh (tT "set.__contains__"):=by kernel_rfl
        have ac:MZ (.type "set") (.type "module")=pure false:=by rw[KN];kernel_rfl
        have ak (a:Addr) (k:Value):Nx "set.__contains__" {tT "set.__contains__" with full:=s!"{Bind.lastOf "set"}.{Bind.lastOf "set.__contains__"}"} ⟨[.ref a,k],[]⟩=pure ():=by kernel_rfl
        intro σ s f ws hf p i r;obtain⟨b,rfl,_,hb,hj⟩:=hf;obtain⟨y,rfl,u,rfl,_⟩:=eI p;obtain⟨es,ep,t,ho,d⟩:=r.at_ j _ e;have ar:=Rh W.prog W.w k u;have an:Ur "set.__contains__"=true:=by decide +kernel
        have ap:Manifest.varargsMethods.contains "set.__contains__"=false:=by decide +kernel
        have ab:Pb "set.__contains__"=Jh .method:=by decide +kernel
        refine iJ ah ab ap ac (ak _ _) an entry_set_contains hb ho rfl (λc q=>by cases q) ?_;delta Builtin.«frozenset.__contains__» OB;dsimp only[PN]
        repeat rw[bind_assoc]
        refine Jf (Jk ?_);refine Jf (Jk ?_);refine Jf (wpAny_tryCatch (JD (Jf ((strKind W.prog W.w).pyHash ar ?_))));refine Jf (wpAny_setFind_of (s:={s with toks:=s.toks+1}) ar rfl (d.A3 ho hz) λb hb=>Jk ?_);show JH _ _ (ret (Value.bool b.isSome)) _ _ _;refine(hb).symm▸?_;exact Jk ⟨_,_,bT i r (JC _),.b _,rfl,h⟩
       exact b0 h (λl e h=>ai (jf @A7 e) h.1 h.2) id
      |_=>exact h
     |cons=>exact h
   |_=>exact h
  exact M
 |_=>exact h
noncomputable def uH(f:V)(X:Prop):Prop:=match f with
 |.g Z=>X
 |.bm b Z=>cond b.fn X False
 |f=>Callee f/\X
theorem iI{f X}(h:uH f X):Callee f/\X:=by
 cases f with
 |g b=>exact⟨.g b,h⟩
 |bm b j=>exact cB h (λa h=>⟨.bm b j a,h⟩) OZ
 |_=>exact h
end
inductive Mi where
 |append | pop | extend | sort | get | setdefault | keys | items | add | join | rstrip | strip | isspace
 |count (u:Unit)
noncomputable def Mi.ctorIdx(o:Mi):Nat:=Mi.casesOn (motive:=λZ=>Nat) o 0 1 2 3 4 5 6 7 8 9 10 11 12 (λZ=>13)
noncomputable def Mi.ty:Mi->Ty
 |.append=>.list
 |.pop=>.list
 |.extend=>.list
 |.sort=>.list
 |.get=>.dict
 |.setdefault=>.dict
 |.keys=>.dict
 |.items=>.dict
 |.add=>.set
 |_=>.str
noncomputable def Mi.nm:Mi->Str
 |.append=>N.append
 |.pop=>N.pop
 |.extend=>N.extend
 |.sort=>N.sort
 |.get=>N.get
 |.setdefault=>N.setdefault
 |.keys=>N.keys
 |.items=>N.items
 |.add=>N.add
 |.join=>N.join
 |.rstrip=>N.rstrip
 |.strip=>N.strip
 |.isspace=>N.isspace
 |.count Z=>N.count
noncomputable def Mi.id:Mi->String
 |.append=>"list.append"
 |.pop=>"list.pop"
 |.extend=>"list.extend"
 |.sort=>"list.sort"
 |.get=>"dict.get"
 |.setdefault=>"dict.setdefault"
 |.keys=>"dict.keys"
 |.items=>"dict.items"
 |.add=>"set.add"
 |.join=>"str.join"
 |.rstrip=>"str.rstrip"
 |.strip=>"str.strip"
 |.isspace=>"str.isspace"
 |.count Z=>"str.count"
structure Hy(m:Mi):Prop where
 pa:PlainAttrs m.ty.s
 slot:UK m.ty.s m.nm m.id
 ty:Mv (.builtin m.id)=pure (.type "method_descriptor")
noncomputable def Ty.n:Ty->Nat
 |.str=>0
 |.list=>1
 |.dict=>2
 |.set=>3
noncomputable def Ty.of:Nat->Ty
 |0=>.str
 |1=>.list
 |2=>.dict
 |_=>.set
theorem Ty.D8(T:Ty):Ty.of T.n=T:=by cases T <;> rfl
theorem Ci{T}{U:Ty}(h:T.n=U.n):T=U:=T.D8.symm.trans ((congrArg Ty.of h).trans U.D8)
noncomputable def EJ:List Mi:=[.append,.pop,.extend,.sort,.get,.setdefault,.keys,.items,.add,.join,.rstrip,.strip,.isspace,.count ()]
noncomputable def zS(T:Ty)(x:Str):List Mi->Option Mi
 |[]=>none
 |m::l=>cond (m.nm == x&&m.ty.n == T.n) (Jh m) (zS T x l)
noncomputable def zR(T:Ty)(x:Str):Option Mi:=zS T x EJ
theorem uq{T x m}:∀ {l:List Mi},zS T x l=Jh m->m.nm=x/\m.ty=T
 |[],h=>nn h
 |n::l,h=>by
  refine d4 (P:=λo=>o=Jh m->m.nm=x/\m.ty=T) (b:=n.nm == x&&n.ty.n == T.n) (x:=Jh n) (y:=zS T x l) (λe h=>?_) uq h;refine(JP h)▸?_;exact⟨eq_of_beq (Bool.and_eq_true_iff.mp e).1,Ci (eq_of_beq (Bool.and_eq_true_iff.mp e).2)⟩
inductive Mt where
 |im (fa:Addr)
 |bi (m:Mi)
noncomputable def Im(cl:List (Addr×iy))(x:Str)(st:St)(h:Nat):Option (Addr×Nat)->Option Mt
 |some p=>(cl.lookup p.1).bind λc=>(oP pN st p.2).bind λm=>match m.lookup x with
  |none=>(c.ms.lookup x).map .im
  |some Z=>none
 |none=>(oP DC st h).bind λT=>(zR T x).map .bi
noncomputable def EI(cl:List (Addr×iy))(a:V)(x:Str)(st:St):Option Mt:=match a with
 |.s Z Y=>(zR .str x).map .bi
 |.c k Z=>(match k with
  |.lst=>(zR .list x).map .bi
  |_=>none)
 |.r h=>Im cl x st h (oP pI st h)
 |_=>none
inductive we(a:V)(x:Str)(st:St):Mt->Prop
 |im (h C:Nat) (fa:Addr) (e:a=.r h) (m:FI C x st h λf=>f=fa):we a x st (.im fa)
 |bi (m:Mi) (hn:m.nm=x) (ht:GD st a=Jh m.ty):we a x st (.bi m)
theorem sx{a x st T m}(h:(zR T x).map .bi=Jh m)(e:GD st a=Jh T):we a x st m:=by
 obtain⟨n,c,d⟩:=LZ.mp h;subst d;have q:=uq c;exact .bi n q.1 (q.2▸e)
theorem zP{cl}(C:Cl cl){a x st m}(h:EI cl a x st=Jh m):we a x st m:=by
 cases a with
 |s y t=>exact sx h rfl
 |c k vs=>cases k with
  |lst=>exact sx h rfl
   |_=>exact nn h
 |r j =>
  have d (C:Cl cl) (h:Im cl x st j (oP pI st j)=Jh m):we (.r j) x st m:=by
   cases e:oP pI st j with
   |none =>
    have h:=e▸h;obtain⟨T,i,o⟩:=Option.bind_eq_some_iff.mp h;exact sx o i
   |some p =>
    rw[e] at h;obtain⟨c,i,h⟩:=Option.bind_eq_some_iff.mp h;obtain⟨l,o,h⟩:=Option.bind_eq_some_iff.mp h;cases g:l.lookup x with
    |some Z=>rw[g] at h;exact nn h
    |none =>
     obtain⟨f,q,u⟩:=LZ.mp (g▸h);exact u▸.im j p.1 f rfl ⟨p.2,l,c,f,C _ _ i,jf (f:=λp=>.inst p.1 p.2) @A9 e,jf @A8 o,q,g,rfl⟩
  exact d C h
 |_=>exact nn h
section
variable {A:Around}{F:cU}{lc:Lc}{st:St}{Q:V->St->Prop}
noncomputable def Iw(A:Around)(a:V)(vs:List V)(st:St)(Q:V->St->Prop):Mt->Prop
 |.im c=>bI A (.v (.ref c)) (a::vs) st Q
 |.bi m=>MethW A m.id a vs st Q
inductive Hw(A:Around)(F:cU)(x:Str)(es:List Expr)(lc:Lc)(Q:V->St->Prop)(a:V)(st:St):Prop
 |mk (m:Mt) (is:we a x st m) (h:eJ A F es lc st λvs st₂=>Iw A a vs st₂ Q m)
theorem yx{o args name apos pos}(hb:fc o=true)(hp:args.all bX=true)(S:args.length<30)(M:(apos.endLine == pos.line)=true)(h:cx A F o lc st (Hw A F name args lc Q)):cx A F (.Call (.Attribute o name apos) args [] pos) lc st Q:=by
 have B {σ st s v T w} (h:GD st v=Jh T) (r:Rel σ st s) (hv:RV σ st.length s v w):FC s w T.s:=by
  have g {a o T} (h:s.heap.get? a=Jh o) (hc:o.cls=.type T) (hd:o.dict=none):FC s (.ref a) T:=⟨⟨o,h,hc⟩,λb e=>by cases e;exact⟨o,h,hd⟩⟩
  cases v with
  |s x t=>cases h;obtain⟨u,rfl,_⟩:=hv;exact⟨NN _ _ _,λb e=>nomatch e⟩
  |c k vs=>cases k with
   |lst=>cases h;obtain⟨a,items,m,rfl,_,E,_⟩:=hv;exact g E rfl rfl
   |_=>cases h
  |r j =>
   obtain⟨hj,rfl⟩:=hv;obtain⟨o,E,h⟩:=Option.bind_eq_some_iff.mp h;have q:=r.at_ j o E;cases o with
   |list vs=>cases h;obtain⟨items,m,E,_⟩:=q;exact g E rfl rfl
   |dict ae=>cases h;obtain⟨o,ws,E,⟨_,_,e,_⟩,_⟩:=q;exact g E e.1 e.2.1
   |dicti ae=>cases h;obtain⟨o,ws,E,⟨_,_,e,_⟩,_⟩:=q;exact g E e.1 e.2.1
   |set l=>cases h;obtain⟨es,ep,t,E,_⟩:=q;exact g E rfl rfl
   |_=>cases h
  |_=>cases h
 have P (m:Mi):Hy m:=by
  cases m with
  |append=>exact⟨MA,PySem.F.slot_list_append,PySem.F.type_list_append⟩
  |pop=>exact⟨MA,QX,PySem.F.type_list_pop⟩
  |extend=>exact⟨MA,Qn,PySem.F.type_list_extend⟩
  |sort=>exact⟨MA,PySem.F.slot_list_sort,PySem.F.type_list_sort⟩
  |get=>exact⟨MB,QY,QT⟩
  |setdefault=>exact⟨MB,Py,PySem.F.type_dict_setdefault⟩
  |keys=>exact⟨MB,QM,PySem.F.type_dict_keys⟩
  |items=>exact⟨MB,QC,PySem.F.type_dict_items⟩
  |add=>exact⟨PySem.F.plainAttrs_set,Q4,PySem.F.type_set_add⟩
  |join=>exact⟨KX,QV,QS⟩
  |rstrip=>exact⟨KX,QA,PySem.F.type_str_rstrip⟩
  |strip=>exact⟨KX,PySem.F.slot_str_strip,PySem.F.type_str_strip⟩
  |isspace=>exact⟨KX,Ny,Qm⟩
  |count=>exact⟨KX,PySem.F.slot_str_count,PySem.F.type_str_count⟩
 intro σ s p;rw[arm_eval_Call,mL hb];refine Jf (bH (h σ s p) λu s₁ R ag a i X D=>?_);refine Jf (LF ?_);have J:Vf (args.length+([]:List Keyword).length) (backTo pos (Ri args F.env)) (backToKw pos (keywordEach [] F.env))=true:=by
  unfold Vf;refine(cz pos F.env hp).symm▸?_;refine(show(args.map λe=>(false,eval e F.env)).all (λx=> !x.1)=true by rw[Uz,PR];exact λZ Y=>rfl).symm▸?_;exact decide_eq_true S
 have G:VG true o F.env apos pos=pure pos:=by unfold VG;simp [M]
 unfold methodCall;refine(J).symm▸?_;obtain⟨m,is,D⟩:=D;cases is with
 |im x C fa e mi =>
  subst e;refine Jg λzz=>?_;obtain⟨hx,rfl⟩:=X;obtain⟨d,m,c,fa,hc,h1,h2,hf,hm,rfl⟩:=mi;obtain⟨mN,at_,_,ga,gt,ms,_⟩:=hc;obtain⟨of,fd,y,n3,U,H,aa,hB⟩:=ms name fa hf;obtain⟨f,ob,hI,hk,ab,_⟩:=mc h1 h2 i.rel;obtain⟨nm,qn,bs,sn,sub,ah,dd,k0,k1,k2,k3,k5,hC,ac⟩:=at_.now i.inv;refine zz ?_;refine Jf (JD (method_of hC ac ga gt n3 (i.inv.old.get_of_cls U (by rw[H];exact λq=>JT q)) H hB hI (ab name hm) ?_));refine Jf (MX G ?_);refine(cz pos F.env hp).symm▸?_;exact NQ (o:=of) (fd:=fd) (dI D (p.step i) λvs s' σ' af l z hl q=>⟨⟨z.inv.old.get_of_cls U (by rw[H];exact λq=>JT q),aa⟩,ec (i.trans z) (q σ' s' _ (.ref (R.a x)::vs) rfl ⟨_,vs,rfl,⟨Jp hx z.x.len,congrArg J3 (z.x.ext x hx).symm⟩,hl⟩ z.inv z.rel)⟩)
 |bi m hn ht =>
  subst hn;have mo:=P m;obtain⟨t1,t2⟩:=B ht i.rel X;refine Jf (JD (getMethod_builtin t1 mo.pa mo.slot mo.ty t2 ?_));refine Jf (MX G ?_);rw[cz pos F.env hp];exact MO (any_false _ _) (dI D (p.step i) λws s' σ' af vs x hl q=>ec (i.trans x) (q σ' s' _ (u::ws) rfl ⟨u,ws,rfl,X.step i.rel x,hl⟩ x.inv x.rel))
noncomputable def mW(A:Around)(m:Mi)(a:V)(vs:List V)(st:St)(Q:V->St->Prop):Prop:=match a with
 |.r j=>(match m with
  |.append=>(match vs with
   |[v]=>wu st[j]? (λl=>l.length<sizeLine/\Q .n (st.set j (.list (l++[v])))) (MethW A "list.append" (.r j) [v] st Q)
   |vs=>MethW A "list.append" (.r j) vs st Q)
  |.get=>(match vs with
   |[k,u]=>yC j k u st Q (MethW A "dict.get" (.r j) [k,u] st Q)
   |vs=>MethW A "dict.get" (.r j) vs st Q)
  |.add=>(match vs with
   |[k]=>(match k with
    |.s x t=>gV (oP pS st j) (λl=>l.length+1<scanBound/\Q .n (st.set j (.set (if x∈l then l else l++[x])))) (MethW A "set.add" (.r j) [.s x t] st Q)
    |k=>MethW A "set.add" (.r j) [k] st Q)
   |vs=>MethW A "set.add" (.r j) vs st Q)
  |m=>MethW A m.id (.r j) vs st Q)
 |a=>MethW A m.id a vs st Q
theorem xO(T:bK){m a vs}(h:mW A m a vs st Q):MethW A m.id a vs st Q:=by
 cases a with
 |r j=>cases m with
  |append=>cases vs with
   |nil=>exact h
   |cons v l=>cases l with
    |nil=>exact gf h λl e h=>g5 T e h.1 h.2
    |cons=>exact h
  |get=>cases vs with
   |nil=>exact h
   |cons k l=>cases l with
    |nil=>exact h
    |cons u l=>cases l with
     |nil =>
      have J {K:Type} [DecidableEq K] {knd:KeyKind W.prog W.w K} {mk:List (K×V)->O} {ac:List (K×V)} {k:K} {kv v dv:V} (D:gh knd mk) (e:st[j]?=Jh (mk ac)) (hk:nf knd kv k) (hg:(b6 ac k).getD dv=v) (h:Q v st):MethW A "dict.get" (.r j) [kv,dv] st Q:=by
       intro σ s f ws hf ab i r;subst hf;obtain⟨x,y,z,rfl,⟨hj,rfl⟩,hb,hc⟩:=y5 ab;obtain⟨o,ws,C,hd,hr⟩:=D.to _ _ _ _ _ (r.at_ j _ e);have hD:s.heap.DictOf knd (σ.a j) ws:=Heap.dictOf_iff.mpr ⟨o,C,hd⟩;have x:=bT (X:=de) i r (JC s.toks);refine OJ QY hD.typeIs QN (PySem.F.args_dict_get_3 _ _ _) (Si knd _ (hk _ _ _ _ hb) (jh T r hj) z) ⟨_,hD.mapOf,σ,st,x,v,?_,h⟩;have q:=RK.get (k:=k) hr;cases hq:b6 ac k with
       |none=>have hg:=hq▸hg;refine(q.2 hq ..).symm▸?_;exact hg▸hc.step r x
       |some u =>
        rw[hq] at hg;obtain⟨w,hw,hv⟩:=q.1 u hq;refine(hw).symm▸?_;exact hg▸hv.step r x
      exact kB h λD e hk q=>J D e hk rfl q
     |cons=>exact h
  |add=>cases vs with
   |nil=>exact h
   |cons k l=>cases l with
    |nil=>cases k with
     |s x t=>exact b0 h (λl e h=>by
       refine Jg λzz=>?_;obtain⟨o,h1,h2⟩:=ua e;refine zz ?_;have:=A7 h2;subst this;have H {A st Q j l k t} (T:bK) (e:st[j]?=Jh (.set l)) (hz:l.length+1<scanBound) (h:Q .n (st.set j (.set (if k∈l then l else l++[k])))):MethW A "set.add" (.r j) [.s k t] st Q:=by
        have M {A s E P a es ep t x} (C:s.heap.get? a=Jh (cg es ep t)) (d:iu es t l) (hx:(strKind W.prog W.w).is k x=true) (hz:l.length+1<scanBound) (h : ∀b h' es' p t',Kx a s.heap h'->h'.get? a=Jh (cg es' p t')->iu es' t' (if k∈l then l else l++[k])->P b {s with heap:=h'}):JH (Jz W.prog W.w) A (setAddHashed a x ((strKind W.prog W.w).hash k)) P E s:=by
         have B {l R g t2 wd} (C:s.heap.get? a=Jh (cg es ep t)) (d:wg g l) (hb:g.size<scanBound) (hf:t2.fits g.size=true) (hl:cS W.w=true∨t2.led=true) (hp:t2.plain=false) (h:∀h' es' p t',Kx a s.heap h'->h'.get? a=Jh (cg es' p t')->iu es' t' l->R (Jh true) {s with heap:=h'}):JH (Jz W.prog W.w) A (do
             storeSet a g t2
             if(!wd&&t2.tooFull)=true then do
               (match (O9 t2 g (Mb g.size)).2.2 with | true=>rule "set.scan.the-table-gave-way" | false=>pure ())
               storeSet a (O9 t2 g (Mb g.size)).1 (O9 t2 g (Mb g.size)).2.1
               pure (Jh true)
              else pure (Jh true)) R E s:=by
          have G {es es' ep t t'} {h:Heap} (C:h.get? a=Jh (cg es ep t)):(h.update a (Vu es' t')).get? a=Jh (cg es' (ep+1) t'):=by
           have e:=J0 (Vu es' t') C (by refine(putSet_of es' t' (show(cg es ep t).data=.set es ep t from rfl)).symm▸?_;rfl);rw[putSet_of es' t' (show(cg es ep t).data=.set es ep t from rfl)] at e;exact e
          refine Jf (Uj C rfl ?_ (Qj hb));have aa:=G (es':=g) (t':=t2) C;refine US (λZ=>?_) λZ=>Jk (h _ g _ t2 (J2 ..) aa ⟨d.els,d.perm,d.nodup,hf,hl,.inr hp⟩);have p2:=relayAll_perm t2 g (Mb g.size);have f2:=relayAll_fits t2 g (Mb g.size);have l2:=oN t2 g (Mb g.size);generalize O9 t2 g (Mb g.size)=R at p2 f2 l2 ⊢;refine Jf (qY _ (Jf (Uj aa rfl (Jk ?_) (Qj (((Jx (xs:=R.1)).symm.trans (p2.length_eq.trans Jx):R.1.size=g.size)▸hb)))));exact h _ R.1 _ R.2.1 ((J2 ..).trans (J2 ..)) (G aa) ⟨d.els.perm p2,(p2.map _).trans d.perm,d.nodup,f2,hl.imp id λq=>l2.1.trans q,.inr (l2.2 hp)⟩
         have ae:=iA hx;refine JD (Jf (Lu C rfl d.fits ?_));dsimp only;refine(byScan_of ae (by rw[d.size];exact bJ 9 12 hz) d.els).symm▸?_;refine(if_pos rfl).symm▸?_;refine Jf (Jf (LU (Jf (wpAny_setScan_of hx C rfl d.fits d.els ?_))));cases hr:Ud (λe=>(strKind W.prog W.w).is k e.2) es.toList with
         |some j =>
          refine Jg λzz=>?_;obtain⟨hj,ag,_⟩:=List.findIdx?_eq_some_iff_getElem.mp hr;refine zz ?_;have hm:k∈l:=of_decide_eq_true ((d.mem k).mpr ⟨_,LS hj,ag⟩);exact Jk (Jk (h false s.heap es ep t (QO a s.heap) C ((if_pos hm).symm▸d)))
         |none =>
          have hm:k∉l:=λq=>by
           obtain⟨e,he,hp⟩:=(d.mem k).mp (decide_eq_true q);exact Jq ((List.findIdx?_eq_none_iff.mp hr e he).symm.trans hp)
          dsimp only;have p1:=layNew_perm t es ((strKind W.prog W.w).hash k) x;have f1:=layNew_fits t es ((strKind W.prog W.w).hash k) x;have l1:=sC t es ((strKind W.prog W.w).hash k) x;generalize layNew t es ((strKind W.prog W.w).hash k) x=L at p1 f1 l1 ⊢;obtain⟨g,t1,wd,ak⟩:=L;replace p1:=Mc▸p1;have D:=wg.new d hx hm p1;have hb:g.size<scanBound:=by rw[D.size,Ji];exact hz
          have hl:cS W.w=true∨t1.led=true:=d.led.imp id λq=>l1.trans q;refine Jf (qY _ ?_);have R:∀h' es' p t',Kx a s.heap h'->h'.get? a=Jh (cg es' p t')->iu es' t' (l++[k])->JH (Jz W.prog W.w) A (pure true) P E {s with heap:=h'}:=λh' es' p t' a b c=>Jk (((if_neg hm)▸h) true h' es' p t' a b c);refine US (λZ=>?_) λai=>?_
          ·refine(hashByValue_scannable 8 ae).symm▸?_;have ah:plainKind x=false:=by
            obtain⟨u,rfl⟩:=Mr hx
            rfl
           rw[ah];exact Jf (Jk (B (t2:={t1 with plain:=false}) C D hb (Nu.fits_plain_off f1) hl rfl R))
          ·exact Jf (Jk (B C D hb f1 hl (by simpa using ai) R))
        intro σ s f ws hf ab i r;subst hf;obtain⟨x,y,rfl,⟨hj,rfl⟩,u,rfl,_⟩:=iL ab;obtain⟨es,ep,t,C,d⟩:=r.at_ j _ e;have S:=Rh W.prog W.w k u;refine Kb Q4 (d.A3 C (SO hz)).typeIs PySem.F.entry_set_add ?_ (PySem.F.args_set_add_2 _ _);delta Builtin.«set.add» OB;simp only[PN,bind_assoc];refine Jf (Jk ?_);refine Jf (Jk ?_);refine Jf (JD (Jf ((strKind W.prog W.w).pyHash S ?_)));refine M (s:={s with toks:=s.toks+1}) C d S hz λb h' es' p t' aj af d'=>?_;exact Jk ⟨_,rfl,_,_,dX (o:=.set (if k∈l then l else l++[k])) T i r hj aj (JC _) (λZ=>⟨es',p,t',af,d'⟩) (λZ Y U q=>O.noConfusion q),.n,rfl,h⟩
       exact H T h1 h.1 h.2) id
     |_=>exact h
    |cons=>exact h
  |_=>exact h
 |_=>exact h
inductive TV where
 |name (x:Str)
 |attr (o:Expr) (x:Str)
 |sub (o k:Expr)
 |tup (es:List Expr)
 |oth
noncomputable def HY(es:List Expr):Bool->TV
 |true=>.tup es
 |false=>.oth
noncomputable def tv(t:Expr):TV:=match t with
 |.Name x Z=>.name x
 |.Attribute o x Z=>.attr o x
 |.Subscript o k Z=>.sub o k
 |.Tuple es Z Y=>HY es (es.all bX)
 |_=>.oth
inductive rJ:Expr->TV->Prop
 |name (x p):rJ (.Name x p) (.name x)
 |attr (o x p):rJ (.Attribute o x p) (.attr o x)
 |sub (o k p):rJ (.Subscript o k p) (.sub o k)
 |tup (es k p) (h:es.all bX=true):rJ (.Tuple es k p) (.tup es)
 |oth (e):rJ e .oth
theorem DP(e:Expr):rJ e (tv e):=by
 cases e with
 |Name x p=>exact .name x p
 |Attribute o x p=>exact .attr o x p
 |Subscript o k p=>exact .sub o k p
 |Tuple es k p =>
  show rJ _ (HY es (es.all bX));cases h:es.all bX with
  |true=>exact .tup es k p h
  |false=>exact .oth _
 |_=>exact .oth _
variable {σ:Sg}{s:Js}
theorem none_at{n v w}(h:RV σ n s v w):(w == .none)=Hb v:=by
 cases v with
 |v u=>refine(show w=u from h).symm▸?_;rfl
 |i x=>obtain⟨t,rfl⟩:=h;rfl
 |f x=>obtain⟨t,rfl⟩:=h;rfl
 |s x t=>obtain⟨t,rfl,_⟩:=h;rfl
 |c k vs=>obtain⟨a,_,_,rfl,_⟩:=h;rfl
 |r k=>refine(h.2).symm▸?_;rfl
 |o o=>obtain⟨a,rfl,_⟩:=h;rfl
 |bm b k=>obtain⟨a,rfl,_⟩:=h;rfl
 |g b=>refine(show w=b.val from h).symm▸?_;cases b <;> rfl
 |rg x y=>obtain⟨a,_,_,_,rfl,_⟩:=h;rfl
noncomputable def qr:V->Bool
 |.v w=>(match w with
  |.none=>true
  |_=>false)
 |_=>false
theorem qq{v}(h:qr v=true):v=.n:=by
 cases v with
 |v w=>cases w with
  |none=>rfl
  |_=>exact ft h
 |_=>exact ft h
noncomputable def sX(A:Around)(op:CmpOp)(a b:V)(st:St)(Q:V->St->Prop):Prop:=match op with
 |.Is=>(match qr b with
  |true=>Q (.b (Hb a)) st
  |false=>cE A (KJ .Is) a b st Q)
 |.IsNot=>(match qr b with
  |true=>Q (.b (!Hb a)) st
  |false=>cE A (KJ .IsNot) a b st Q)
 |op=>Fm A op a b st Q
theorem mD{op a b}(h:sX A op a b st Q):cE A (KJ op) a b st Q:=by
 cases op with
 |Is =>
  cases e:qr b with
  |false=>unfold sX at h;rw[e] at h;exact h
  |true =>
   unfold sX at h;rw[e] at h;have:=qq e;subst this;intro σ s u w c hw i r;cases hw;exact is_none (gM i r (by refine(none_at c).symm▸?_;exact h))
 |IsNot =>
  cases e:qr b with
  |false=>unfold sX at h;rw[e] at h;exact h
  |true =>
   unfold sX at h;rw[e] at h;have:=qq e;subst this;intro σ s u w c hw i r;cases hw;exact isNot_none (gM i r (by refine(none_at c).symm▸?_;exact h))
 |_=>exact sY h
noncomputable abbrev bQ(ys:List Str):List V:=ys.map λy=>.s y 0
mutual
theorem zC{n ys}:∀ {ws:List Value},cf σ n s (bQ ys) ws->Ql ws ys:=by
 induction ys with
 |nil=>intro ws h;cases h;exact .nil
 |cons y ys d=>rintro ws ⟨w,f,e,⟨t,a,_⟩,c⟩;subst e a;exact .cons _ _ (d c)
theorem p8{n j ys}{ws:Array Value}(h:cf σ n s (bQ ys) ws.toList)(c:j<ws.size)(d:j<ys.length):∃t,ws[j]=.str ys[j] t:=by
 refine Jg λf=>?_;obtain⟨w,a,t,e,_⟩:=h.get (k:=j) (v:=.s ys[j] 0) (by refine(JY).symm▸?_;refine(Jo d).symm▸?_;rfl);refine f ?_;rw[JZ,J7 c] at a;exact⟨t,(JP a).trans e⟩
end
theorem in_tuple{ys k t}(h:Q (.b (ys.any (· == k))) st):cE A (KJ .In) (.s k t) (.t (bQ ys)) st Q:=by
 rintro σ s u w ⟨x,d,_⟩ ⟨a,items,m,e,_,c,_,f⟩ i r;subst d e;have hi:Ql items.toList ys:=zC f;refine SeqAt.in_tupleAt (isStrOf k) ⟨_,c,rfl,m,rfl⟩ (λy g=>(eq_isStrOf k x hi y (by simpa using g)).at _ _) ?_;refine(Sy)▸?_;refine(any_isStrOf k hi).symm▸?_;exact gM i r h
noncomputable def jA:Prop:=∃a,W.h₁.Ns KS a/\a sharingNotToldKey=none
theorem jA.at(b:jA)(i:Inv s):NoneBooked s.heap:=by
 obtain⟨a,h,e⟩:=b;exact⟨a,h.at i.stat,e⟩
structure tC(st:St)(t:Nat):Prop where
 pos:t≠0
 old:W.t₁<=t
 ns:∀(d:Nat) m y x u,st[d]?=Jh (.ns m)->m.lookup y=Jh (.s x u)->u≠t
theorem CF(j:0<W.t₁)(i:Inv s)(r:Rel σ st s):tC st s.toks:=by
 have a:0<s.toks:=Jp j i.tk;refine⟨λe=>Jw _ (e▸a),i.tk,λd m y x u hd h e=>?_⟩;obtain⟨f,_,c,_⟩:=r.at_ d _ hd;obtain⟨w,_,t,_,g⟩:=c y _ h;have:=g λq=>Jw _ ((q.symm.trans e)▸a);exact Jw _ (Sq this.2 e.symm)
noncomputable def picks(x:Str)(l u k:Option Int):Str:=⟨((S8 x (l.map (·,0)) (u.map (·,0)) (k.map (·,0))).filterMap (x.cps[·]?)).toArray⟩
noncomputable def Cn(vs:List V)(l u k:Option Int):List V:=(PY (Nr l u k vs.length).1 (Nr l u k vs.length).2.1 (Nr l u k vs.length).2.2).filterMap (vs[·]?)
variable {prog:Program}{w:LK}{E:Value->Js->Prop}{env:Env}
inductive FE(prog:Program)(w:LK)(A:Around)(Q:Value->Js->Prop)(E:Value->Js->Prop)(o i:Value)(s:Js):Prop
 |mk (T id:String) (hl:J9 (.type T) "__getitem__"=pure (Jh (.builtin id))) (ty:s.TypeIs o T) (h:JH (Jz prog w) A (Uu o i) Q E s)
noncomputable def Hc(R:Int->Prop):V->Prop
 |.i i=>R i
 |_=>False
theorem uA{R v}(h:Hc R v):∃i,v=.i i/\R i:=by cases v <;> first | exact⟨_,rfl,h⟩ | exact h.elim
noncomputable def kI(A:Around)(F:cU)(e:Option Expr)(lc:Lc)(st:St)(Q:Option Int->St->Prop):Prop:=match e with
 |none=>Q none st
 |some e=>cx A F e lc st λv a=>Hc (λi=>Q (Jh i) a) v
inductive PP(σ:Sg)(st:St)(s:Js)(Q:Option Int->St->Prop)(w:Value)(s':Js):Prop
 |mk (σ':Sg) (st':St) (x:Step σ st s σ' st' s') (p:Option (Int×Qx)) (e:w=QI p) (q:Q (p.map (·.1)) st')
theorem kI.mono{e P P'}(h:kI A F e lc st P)(k:∀i a,P i a->P' i a):kI A F e lc st P':=by
 cases e with
 |none=>exact k _ _ h
 |some e=>exact cx.mono h λv a q=>by obtain⟨i,rfl,q⟩:=uA q;exact k _ _ q
noncomputable def B5(A:Around)(o:V)(l u k:Option Int)(st:St)(Q:V->St->Prop):Prop:=∀σ s w (pl d c:Option (Int×Qx)),pl.map (·.1)=l->d.map (·.1)=u->c.map (·.1)=k->RV σ st.length s o w->Inv s->Rel σ st s->∀a,s.heap.IsSlice a pl d c->FE W.prog W.w A (PV σ st s Q) EA w (.ref a) s
theorem Dg{value lower upper step p pos}(h:cx A F value lc st λo g=>kI A F lower lc g λl st₂=>kI A F upper lc st₂ λu H=>kI A F step lc H λk J=>B5 A o l u k J Q):cx A F (.Subscript value (.Slice lower upper step p) pos) lc st Q:=by
 have f {prog w A E s env value lower upper step p Q} (h:JH (Jz prog w) A (eval value env) (λo s₁=>JH (Jz prog w) A (eval (.Slice lower upper step p) env) (λi s₂=>FE prog w A Q E o i s₂) E s₁) E s) :
   JH (Jz prog w) A (eval (.Subscript value (.Slice lower upper step p) pos) env) Q E s:=by
  rw[eval_Subscript];refine Jf (JB h (λo s₁ D=>Jf (JD (JB D (λi s₂ c=>Jf (LF ?_)) λZ Y x=>x))) λZ Y x=>x);obtain⟨T,id,hl,ty,c⟩:=c;have fin:∀t,JH (Jz prog w) A (operate t (Uu o i)) (λr M=>JH (Jz prog w) A (letTemporaryGo value o r >>= λZ=>pure r) Q E M) E s₂:=λt =>
   wpAny_operating (JB c (λr M j=>Jf (S4 (Jk j))) λZ Y x=>x)
  refine Jf ?_;refine(getitemInPython_of_ne ty.not_modules).symm▸?_;refine Jf (LP ty hl ?_);cases step <;> exact Jk (Jf (fin _))
 intro σ s pr;have a {st e P σ s} (h:kI A F e lc st P) (p:Pre F σ lc st s):Wp A (evalPart e F.env) (PP σ st s P) s:=by
  cases e with
  |none=>exact wpAny_evalPart_none ⟨σ,st,p.refl,none,rfl,h⟩
  |some e =>
   refine wpAny_evalPart_some (bH (h σ s p) λw s₁ R g v d hv q=>?_);obtain⟨i,rfl,q⟩:=uA q;obtain⟨t,rfl⟩:=hv;exact⟨R,g,d,Jh (i,t),rfl,q⟩
 refine f (bH (h σ s pr) λw s₁ R g o d hv D=>wpAny_Slice (JB (a D (pr.step d)) (λvl s₂ c=>?_) λZ Y e=>e));obtain⟨aa,st₂,y,pl,rfl,c⟩:=c;refine JB (a c (pr.step (d.trans y))) (λvu M j=>?_) λZ Y e=>e;obtain⟨ab,H,z,pu,rfl,j⟩:=j;refine JB (a j (pr.step ((d.trans y).trans z))) (λvk U G=>?_) λZ Y e=>e;obtain⟨S,J,B,pk,rfl,G⟩:=G;have C:=dp (X:=de) (o:={cls:=.type "slice",data:=.fields #[QI pl,QI pu,QI pk]}) B.inv B.rel;obtain⟨T,id,hl,ty,q⟩:=G S _ w pl pu pk rfl rfl rfl (((hv.step d.rel y).step y.rel z).step z.rel (B.trans C)) C.inv C.rel U.heap.objs.size ⟨_,Ju _ rfl,rfl,rfl⟩;exact⟨T,id,hl,ty,ec ((d.trans y).trans (z.trans (B.trans C))) q⟩
noncomputable def DF(x:Str)(l u k:Option Int):Str:=match k with
 |none=>Lo x l u
 |some k=>picks x l u (Jh k)
noncomputable def stepOk:Option Int->Bool
 |none=>true
 |some k=>k != 0&&k != 1
theorem oG{x t l u k}(hz:x.length<=sizeLine)(c:stepOk k=true)(o:(DF x l u k).length<=sizeLine)(h:Q (.s (DF x l u k) 0) st):B5 A (.s x t) l u k st Q:=by
 rintro σ s w pl d f rfl rfl rfl ⟨t',rfl,_⟩ i r a j;refine⟨"str",_,PySem.F.slot_str_getitem.lookup,NN _ x t',wpAny_getItem_str_slice j ?_ ?_⟩
 ·cases f with
  |none=>rfl
  |some k=>replace c:(k.1 != 0&&k.1 != 1)=true:=c;simp at c;simpa using c.1
 ·have e:UI x t' pl d f=.val (.str x t')/\DF x (pl.map (·.1)) (d.map (·.1)) (f.map (·.1))=x∨UI x t' pl d f=.str (DF x (pl.map (·.1)) (d.map (·.1)) (f.map (·.1))):=by
   unfold UI;cases f with
   |none =>
    show _∨_;delta DF Lo;have e:S8 x pl d none=L2 (pl.map (·.1)) (d.map (·.1)) 1 x.length:=rfl;refine(e).symm▸?_;dsimp only[Option.map_none,Option.getD_none]
    split
    ·exact .inl ⟨rfl,rfl⟩
    ·exact .inr rfl
   |some k =>
    replace c:(k.1 != 0&&k.1 != 1)=true:=c;simp only[KV,bne_iff_ne] at c
    right
    refine(if_neg (by simp [c.2])).trans ?_;cases pl <;> cases d <;> rfl
  rcases e with ⟨e,g⟩ | e
  ·refine(e).symm▸?_;rw[g] at h;exact⟨_,_,.refl i r,.s x 0,⟨_,rfl,λq=>absurd rfl q⟩,h⟩
  ·rw[e];exact⟨o,sg i r h (JG _ _)⟩
theorem qh{σ n s vs}{items:Array Value}(h:cf σ n s vs items.toList):∀a:List Nat,cf σ n s (a.filterMap (vs[·]?)) (a.filterMap (items[·]?))
 |[]=>rfl
 |j::a=>by
  have f:=qh h a;have d:=h.len;rw[Jx] at d;rw[OV];refine(OV ..).symm▸?_;cases e:vs[j]? with
  |none =>
   have:items[j]?=none:=by rw[Ml,d];exact List.getElem?_eq_none_iff.mp e
   rw[this];exact f
  |some v =>
   refine Jg λi=>?_;obtain⟨w,c,g⟩:=h.get e;refine i ?_;rw[JZ] at c;refine(c).symm▸?_;exact⟨w,_,rfl,g,f⟩
noncomputable def DW(A:Around)(o:V)(l u k:Option Int)(st:St)(Q:V->St->Prop):Prop:=match k with
 |none=>(match o with
  |.s x Z=>x.length<=sizeLine/\Q (.s (Lo x l u) 0) st
  |.c d vs=>(match d with
   |.lst=>vs.length<=sizeLine/\Q (.r st.length) (st++[.list (Cn vs l u none)])
   |_=>B5 A o l u none st Q)
  |.r h=>wu st[h]? (λvs=>vs.length<=sizeLine/\Q (.r st.length) (st++[.list (Cn vs l u none)])) (B5 A o l u none st Q)
  |_=>B5 A o l u none st Q)
 |some k=>B5 A o l u (Jh k) st Q
theorem r7{o l u k}(h:DW A o l u k st Q):B5 A o l u k st Q:=by
 have g {A Q c vs dep l u k} (la:LstAt c vs dep) (hd:dep st) (hz:vs.length<=sizeLine) (F:(k != Jh 0)=true) (h:Q (.r st.length) (st++[.list (Cn vs l u k)])):B5 A c l u k st Q:=by
  have f (p:Option (Int×Qx)):IsPart (QI p) (p.map (·.1)):=by
   cases p with
   |none=>exact .none
   |some p=>exact .int p.1 p.2
  rintro σ s w pl z v rfl rfl rfl H i r a ⟨o,G,hc,D⟩;obtain⟨b,items,m,rfl,E,hi⟩:=la σ st s w H hd r;have B:=hi.len;have B:=Jx▸B;have C:s.heap.IsList b items:=⟨_,E,rfl,m,rfl⟩
  have e:(UH items (pl.map (·.1)) (z.map (·.1)) (v.map (·.1))).toList=(PY (Nr (pl.map (·.1)) (z.map (·.1)) (v.map (·.1)) vs.length).1 (Nr (pl.map (·.1)) (z.map (·.1)) (v.map (·.1)) vs.length).2.1 (Nr (pl.map (·.1)) (z.map (·.1)) (v.map (·.1)) vs.length).2.2).filterMap (items[·]?):=by
   unfold UH;exact(B).symm▸rfl
  refine⟨"list",_,list_getitem_lookup,C.typeIs,wpAny_getItem_list_slice (lo:=pl.map (·.1)) (hi:=z.map (·.1)) (st:=v.map (·.1)) C ⟨o,G,hc,D⟩ (f pl) (f z) (f v) (by simpa using F) ?_ (by refine(B).symm▸?_;exact hz)⟩;refine xk (o:=.list (Cn vs (pl.map (·.1)) (z.map (·.1)) (v.map (·.1)))) (k:=s.toks) i r (λc y q=>Jm _ q) (by refine(JA ..).symm▸?_;exact JC _) (Jl _) (λx=>⟨UH items (pl.map (·.1)) (z.map (·.1)) (v.map (·.1)),0,Ju _ rfl,Jn (slicePick_size_le items (pl.map (·.1)) (z.map (·.1)) (v.map (·.1))) (by refine(B).symm▸?_;exact hz),?_⟩) (by intro _ _ _ q;cases q) h;rw[e];exact(qh hi _).mono x r.apart
 cases k with
 |some k=>exact h
 |none=>cases o with
  |s x t=>exact oG h.1 rfl (Jn (Txt.slice_le x l u) h.1) h.2
  |c d vs=>cases d with
   |lst=>exact g b7 trivial h.1 rfl h.2
   |_=>exact h
  |r j=>exact gf h λvs e h=>g cj e h.1 rfl h.2
  |_=>exact h
end
section
variable {A:Around}{F:cU}{lc:Lc}{st:St}{Q:V->St->Prop}{QF:Fl->Lc->St->Prop}{QL:Lc->St->Prop}
noncomputable def uS(v:V)(n:Nat)(f:List V->Prop)(E:Prop):Prop:=match v with
 |.c k items=>(match k with
  |.tup=>(match items.length == n with
   |true=>f items
   |false=>E)
  |_=>E)
 |_=>E
theorem iO{v n f E}{E':Prop}(h:uS v n f E)(k:∀items,v=.t items->items.length=n->f items->E')(l:E->E'):E':=by
 cases v with
 |c d items=>cases d with
  |tup =>
   cases e:items.length == n with
   |true=>unfold uS at h;simp only[e] at h;exact k items rfl (eq_of_beq e) h
   |false=>unfold uS at h;simp only[e] at h;exact l h
  |_=>exact l h
 |_=>exact l h
noncomputable def jt:Option NameKind->Bool
 |some k=>(match k with
  |.local=>true
  |_=>false)
 |none=>false
theorem eC{k}(h:jt k=true):k=Jh .local:=by
 cases k with
 |none=>exact ft h
 |some k=>cases k <;> first | rfl | exact ft h
structure Sm where
 E:Expr->Lc->St->(V->St->Prop)->Prop
 Es:List Expr->Lc->St->(List V->St->Prop)->Prop
 T:Expr->Lc->St->(St->Prop)->(St->Prop)->Prop
 B:VA->List Expr->Lc->St->(St->Prop)->(St->Prop)->Prop
 S:Stmt->Lc->St->(Fl->Lc->St->Prop)->Prop
 Ss:List Stmt->Lc->St->(Fl->Lc->St->Prop)->Prop
 A:Expr->V->Lc->St->(Lc->St->Prop)->Prop
 Av:List (Expr×V)->Lc->St->(Lc->St->Prop)->Prop
 Am:List Expr->V->Lc->St->(Lc->St->Prop)->Prop
noncomputable def IQ(A:Around)(F:cU):Sm:=⟨cx A F,eJ A F,λe lc st X Y=>kT A F e lc st (two X Y),λop es lc st X Y=>tG A F op es lc st (two X Y),dN A F,bW A F,cZ A F,ov A F,ow A F⟩
variable (A F)(g:List (Str×V))(cl:List (Addr×iy))(r:Sm)
mutual
theorem BE{b}(h:(!b)=true):b=false:=by
 cases b with
 |true=>exact ft h
 |false=>rfl
theorem Ez{b}(h:(!b)=false):b=true:=by
 cases b with
 |true=>rfl
 |false=>exact tf h
end
noncomputable def C8(vs:List V)(X:Prop):Prop:=cond (decide (vs.length<=99)) X (vs.length<=sizeLine/\X)
noncomputable def t8(e:Option Expr)(lc:Lc)(st:St)(Q:Option Int->St->Prop):Prop:=match e with
 |none=>Q none st
 |some e=>r.E e lc st λv a=>Hc (λi=>Q (Jh i) a) v
noncomputable def Il(a:V)(vs:List V)(st:St)(Q:V->St->Prop):Mt->Prop
 |.im c=>bI A (.v (.ref c)) (a::vs) st Q
 |.bi m=>mW A m a vs st Q
noncomputable def Dl(c:Const)(st:St)(Q:V->St->Prop)(E:Prop):Prop:=match c with
 |.int i=>Q (.i i) st
 |.str x=>Q (.s x 0) st
 |.none=>Q .n st
 |.bool b=>Q (.b b) st
 |.float x=>Q (.f x) st
 |_=>E
noncomputable def DU(v:EV)(e:Expr)(lc:Lc)(st:St)(Q:V->St->Prop):Prop:=match v with
 |.const c=>Dl c st Q (cx A F e lc st Q)
 |.name x=>xF F g x lc st Q (cx A F e lc st Q)
 |.bin a op b=>r.E a lc st λx d=>r.E b lc d λy st₂=>Ft A op x y st₂ Q
 |.cmp a op b=>r.E a lc st λx d=>r.E b lc d λy st₂=>sX A op x y st₂ Q
 |.ife t a b=>r.T t lc st (λd=>r.E a lc d Q) λd=>r.E b lc d Q
 |.tup es=>r.Es es lc st λvs d=>C8 vs (Q (.t vs) d)
 |.lst es=>r.Es es lc st λvs d=>C8 vs (Q (.r d.length) (d++[.list vs]))
 |.sub a k=>r.E a lc st λx d=>r.E k lc d λy st₂=>Fc A x y st₂ Q
 |.slc a l u k=>r.E a lc st λx d=>t8 r l lc d λl st₂=>t8 r u lc st₂ λu h=>t8 r k lc h λk i=>DW A x l u k i Q
 |.attr o x=>r.E o lc st λv d=>yY A cl v x d Q
 |.call f p es=>r.E (.Name f p) lc st λj d=>uH j (r.Es es lc d λvs st₂=>Fq A j vs st₂ Q)
 |.meth o x es=>r.E o lc st λa d=>gV (EI cl a x d) (λm=>r.Es es lc d λvs st₂=>Il A a vs st₂ Q m) False
 |_=>cx A F e lc st Q
noncomputable def Ia(e:Expr)(lc:Lc)(st:St)(Q:V->St->Prop):Prop:=DU A F g cl r (ev e) e lc st Q
noncomputable def DS(v:EV)(e:Expr)(lc:Lc)(st:St)(X Y:St->Prop):Prop:=match v with
 |.not x=>r.T x lc st Y X
 |.bool op es=>r.B op es lc st X Y
 |.cmp a op b=>r.E a lc st λx d=>r.E b lc d λy st₂=>sX A op x y st₂ λc f=>F6 A c f X Y
 |_=>cond (plainT e) (r.E e lc st λv d=>F6 A v d X Y) (kT A F e lc st (two X Y))
noncomputable def H7(e:Expr)(lc:Lc)(st:St)(X Y:St->Prop):Prop:=DS A F r (ev e) e lc st X Y
noncomputable def GL(e:Option Expr)(lc:Lc)(st:St)(QF:Fl->Lc->St->Prop):Prop:=match e with
 |some e=>r.E e lc st λv a=>QF (.ret v) lc a
 |none=>QF (.ret .n) lc st
noncomputable def Ho(x:Str)(op:Nv)(e:Expr)(lc:Lc)(st:St)(QF:Fl->Lc->St->Prop)(E:Prop):Prop:=cond (jt (F.kd x)) (gV (lc.lookup x) (λu=>r.E e lc st λv a=>Ip A op u v a λv st₂=>QF .next (lc.set x v) st₂) E) E
noncomputable def H6(ts:List Expr)(e:Expr)(lc:Lc)(st:St)(QF:Fl->Lc->St->Prop)(E:Prop):Option (List Str)->Prop
 |none=>cond (ts.all bX) (r.E e lc st λv a=>uS v ts.length (λitems=>r.Av (ts.zip items) lc a (QF .next)) False) E
 |some names=>cond (names.all λy=>jt (F.kd y)) (r.E e lc st λv a=>uS v names.length (λitems=>QF .next (jk (names.zip items).reverse lc) a) False) E
noncomputable def DT(v:SV)(c:Stmt)(lc:Lc)(st:St)(QF:Fl->Lc->St->Prop):Prop:=match v with
 |.iff t a b=>r.T t lc st (λd=>r.Ss a lc d QF) λd=>r.Ss b lc d QF
 |.ret e=>GL r e lc st QF
 |.asg t e=>r.E e lc st λv d=>r.A t v lc d (QF .next)
 |.asgT ts vs e=>gV (GH ts vs F.env) (H6 F r ts e lc st QF (dN A F c lc st QF)) (dN A F c lc st QF)
 |.asgs ts e=>r.E e lc st λv d=>r.Am ts v lc d (QF .next)
 |.aug x op e=>Ho A F r x op e lc st QF (dN A F c lc st QF)
 |.expr e=>r.E e lc st λZ d=>QF .next lc d
 |.del o k=>r.E o lc st λa d=>r.E k lc d λb st₂=>Dy A a b st₂ (QF .next lc)
 |.pass=>QF .next lc st
 |.brk=>QF .brk lc st
 |.cont=>QF .cont lc st
 |_=>dN A F c lc st QF
noncomputable def H8(c:Stmt)(lc:Lc)(st:St)(QF:Fl->Lc->St->Prop):Prop:=DT A F r (sv c) c lc st QF
noncomputable def Ih:O->Option Unit
 |.cell Z=>Jh ()
 |_=>none
noncomputable def BY:Option NameKind->Bool
 |some k=>(match k with
  |.cell=>true
  |_=>false)
 |none=>false
mutual
theorem x9{k}(h:BY k=true):k=Jh .cell:=by
 cases k with
 |none=>exact ft h
 |some k=>cases k <;> first | rfl | exact ft h
theorem CC{o u}(h:Ih o=Jh u):∃v,o=.cell v:=by
 cases o with
 |cell v=>exact⟨v,rfl⟩
 |_=>exact nn h
end
noncomputable def Fp(x:Str)(v:V)(lc:Lc)(st:St)(QL:Lc->St->Prop)(E:Prop):Prop:=cond (BY (F.kd x)) (gV (F.ce.lookup x) (λh=>gV (oP Ih st h) (λZ=>QL lc (st.set h (.cell (Jh v)))) E) E) E
noncomputable def DV(u:TV)(t:Expr)(v:V)(lc:Lc)(st:St)(QL:Lc->St->Prop):Prop:=match u with
 |.name x=>cond (jt (F.kd x)) (QL (lc.set x v) st) (Fp F x v lc st QL (cZ A F t v lc st QL))
 |.attr o x=>r.E o lc st λa c=>w6 A cl a x v c (QL lc)
 |.sub o k=>r.E o lc st λa c=>r.E k lc c λb st₂=>A2 A a b v st₂ (QL lc)
 |.tup es=>uS v es.length (λitems=>r.Av (es.zip items) lc st QL) (cZ A F t v lc st QL)
 |.oth=>cZ A F t v lc st QL
noncomputable def Ib(t:Expr)(v:V)(lc:Lc)(st:St)(QL:Lc->St->Prop):Prop:=DV A F cl r (tv t) t v lc st QL
noncomputable def H9:Sm where
 E:=Ia A F g cl r
 Es es lc st Q:=match es with
  |[]=>Q [] st
  |e::es=>r.E e lc st λv a=>r.Es es lc a λvs st₂=>Q (v::vs) st₂
 T:=H7 A F r
 B op es lc st X Y:=match op with
  |.And=>match es with
   |[]=>X st
   |e::es=>r.T e lc st (λa=>r.B .And es lc a X Y) Y
  |.Or=>match es with
   |[]=>Y st
   |e::es=>r.T e lc st X λa=>r.B .Or es lc a X Y
 S:=H8 A F r
 Ss l lc st Q:=match l with
  |[]=>Q .next lc st
  |c::l=>r.S c lc st λf d a=>match f with
   |.next=>r.Ss l d a Q
   |f=>Q f d a
 A:=Ib A F cl r
 Av l lc st Q:=match l with
  |[]=>Q lc st
  |(t,v)::l=>r.A t v lc st λh i=>r.Av l h i Q
 Am l v lc st Q:=match l with
  |[]=>Q lc st
  |t::l=>r.A t v lc st λh i=>r.Am l v h i Q
noncomputable def sm:Nat->Sm
 |0=>IQ A F
 |n+1=>H9 A F g cl (sm n)
variable {A F g cl r}
structure uM(A:Around)(F:cU)(r:Sm):Prop where
 E:∀ {e lc st Q},r.E e lc st Q->cx A F e lc st Q
 Es:∀ {es lc st Q},r.Es es lc st Q->eJ A F es lc st Q
 T:∀ {e lc st X Y},r.T e lc st X Y->kT A F e lc st (two X Y)
 B:∀ {op es lc st X Y},r.B op es lc st X Y->tG A F op es lc st (two X Y)
 S:∀ {c lc st Q},r.S c lc st Q->dN A F c lc st Q
 Ss:∀ {l lc st Q},r.Ss l lc st Q->bW A F l lc st Q
 As:∀ {t v lc st Q},r.A t v lc st Q->cZ A F t v lc st Q
 Av:∀ {l lc st Q},r.Av l lc st Q->ov A F l lc st Q
 Am:∀ {l v lc st Q},r.Am l v lc st Q->ow A F l v lc st Q
theorem nV{vs X}(h:C8 vs X):vs.length<=sizeLine/\X:=cB h (λe h=>⟨Jn (of_decide_eq_true e) (by decide),h⟩) id
theorem iQ(R:uM A F r){e P}(h:t8 r e lc st P):kI A F e lc st P:=by
 cases e with
 |none=>exact h
 |some e=>exact R.E h
theorem xG(T:bK){a vs m}(h:Il A a vs st Q m):Iw A a vs st Q m:=by
 cases m with
 |im c=>exact h
 |bi m=>exact xO T h
theorem r4(G:Gl g)(C:Cl cl)(R:uM A F r){e v}(k:fZ e v):DU A F g cl r v e lc st Q->cx A F e lc st Q:=by
 cases k with
 |const c=>intro h;cases c with
  |int i=>exact Dh h
  |str x=>exact sS h
  |none=>exact Aq h
  |bool b=>exact Aw h
  |float x=>exact yA h
  |_=>exact h
 |name x=>exact λh=>sr G h
 |bin a op b=>exact λh=>mv ((R.E h).mono λx d h=>(R.E h).mono λy st₂ h=>tn h)
 |cmp a op b p J=>exact λh=>sT J ((R.E h).mono λx d h=>(R.E h).mono λy st₂ h=>mD h)
 |ife t a b=>exact λh=>yy ((R.T h).mono λc d h=>⟨λq=>R.E (h.t q),λq=>R.E (h.f q)⟩)
 |tup es k p j=>exact λh=>yw j ((R.Es h).mono λvs d h=>nV h)
 |lst es p j=>exact λh=>Ar j ((R.Es h).mono λvs d h=>nV h)
 |sub a k p j=>exact λh=>Df j ((R.E h).mono λx d h=>(R.E h).mono λy st₂ h=>sL h)
 |slc a l u s q p=>exact λh=>Dg ((R.E h).mono λx d h=>(iQ R h).mono λl st₂ h=>(iQ R h).mono λu z h=>(iQ R h).mono λk B h=>r7 h)
 |attr o x p w=>exact λh=>Ax w ((R.E h).mono λv d h=>rH C h)
 |call f p es pos j=>exact λh=>Au j ((R.E h).mono λP d h=>⟨(iI h).1,(R.Es (iI h).2).mono λvs st₂ h=>th G.T h⟩)
 |meth o x M es pos j w D H=>exact λh=>yx w j D H ((R.E h).mono λa d h=>b0 h (λm e h=>⟨m,zP C e,(R.Es h).mono λvs st₂ h=>by
   exact xG G.T h⟩) OZ)
 |_=>exact id
theorem u6(G:Gl g)(C:Cl cl)(R:uM A F r){e}(h:Ia A F g cl r e lc st Q):cx A F e lc st Q:=r4 G C R (B1 e) h
theorem rZ(R:uM A F r){e v X Y}(k:fZ e v):DS A F r v e lc st X Y->kT A F e lc st (two X Y):=by
 have pl:cond (plainT e) (r.E e lc st λv d=>F6 A v d X Y) (kT A F e lc st (two X Y))->kT A F e lc st (two X Y):=λq=>cB q (λj q=>wJ (vD j) ((R.E q).mono λv d h=>ni h)) id;cases k with
 |not e=>exact λh=>Cj ((R.T h).mono λb d h=>⟨λq=>h.f (BE q),λq=>h.t (Ez q)⟩)
 |bool op es=>exact λh=>zu (R.B h)
 |cmp a op b p i=>exact λh=>rW i ((R.E h).mono λx d h=>(R.E h).mono λy st₂ h=>(mD h).mono λc g h=>ni h)
 |_=>exact pl
theorem u0(R:uM A F r){e X Y}(h:H7 A F r e lc st X Y):kT A F e lc st (two X Y):=rZ R (B1 e) h
theorem uJ(c:A.handled=none){elts k pos items}(d:elts.all bX=true)(a:items.length=elts.length)(h:ov A F (elts.zip items) lc st QL):cZ A F (.Tuple elts k pos) (.t items) lc st QL :=
 eS d (a▸tL c) a h
theorem uX(T:bK)(f:A.handled=none)(R:uM A F r){ts vs k k' q q' p o}(g:GH ts vs F.env=Jh o)(h:H6 F r ts (.Tuple vs k' q') lc st QF (dN A F (.Assign [.Tuple ts k q] (.Tuple vs k' q') p) lc st QF) o):dN A F (.Assign [.Tuple ts k q] (.Tuple vs k' q') p) lc st QF:=by
 cases o with
 |none=>exact cB h (λe h=>fy rfl (nr g) rfl ((R.E h).mono λv a h=>iO h (λitems c d h=>c▸uJ f e d (R.Av h)) OZ)) id
 |some names=>exact cB h (λe h=>Ao T f rfl (nr g) (λy i=>eC (PR.mp e y i)) ((R.E h).mono λv a h=>iO h (λitems c d h=>⟨items,c,d,h⟩) OZ)) id
theorem uW{t u l e env}:Nl (t::u::l) e env=pure none:=by cases t <;> rfl
theorem r0(T:bK)(i:A.handled=none)(hi:Nt F.env=false)(R:uM A F r){c v}(k:g8 c v):DT A F r v c lc st QF->dN A F c lc st QF:=by
 cases k with
 |iff t a b p=>exact λh=>Fi ((R.T h).mono λc d h=>⟨λq=>R.Ss (h.t q),λq=>R.Ss (h.f q)⟩)
 |ret e p=>cases e with
  |none=>exact mq
  |some e=>exact λh=>jS (R.E h)
 |asg t e p hc w g=>exact λh=>fy hc (gw w) (by refine(NL).symm▸?_;refine(g).symm▸?_;rfl) ((R.E h).mono λv d h=>R.As h)
 |asgT ts k q vs y z p=>exact λh=>b0 h (λo e h=>uX T i R e h) id
 |asgs t u l e p hc g=>exact λh=>fy hc uW g ((R.E h).mono λv d h=>R.Am h)
 |aug x q op e p=>exact λh=>cB h (λj h=>b0 h (λu e h=>De T (eC j) e ((R.E h).mono λv d h=>nP h)) id) id
 |expr e p hc=>exact λh=>lj hi (jZ hc) (R.E h)
 |del o k q p=>exact λh=>Dd ((R.E h).mono λv d h=>R.E h)
 |pass p=>exact Ap
 |brk p=>exact yu
 |cont p=>exact rf
 |_=>exact id
theorem u4(T:bK)(a:A.handled=none)(hi:Nt F.env=false)(R:uM A F r){c}(h:H8 A F r c lc st QF):dN A F c lc st QF:=r0 T a hi R (DQ c) h
theorem y3{x j p v u}(T:bK)(z:F.kd x=Jh .cell)(hc:F.ce.lookup x=Jh j)(o:st[j]?=Jh (.cell u))(h:QL lc (st.set j (.cell (Jh v)))):cZ A F (.Name x p) v lc st QL:=λσ s w D a=>by
 refine Jg λE=>?_;obtain⟨c,hw,_⟩:=a.r.at_ j _ o;obtain⟨d,g⟩:=a.f.cells x j hc;refine E ?_;refine Qd (wpAny_storeName_cell a.f.kind z g hw λh' B C=>?_);have y:∀X,bO X σ st s σ (st.set j (.cell (Jh v))) {s with heap:=h'}:=λX=>dX (k:=s.toks) T a.i a.r d C (Jl _) (λx=>⟨Jh w,B,λu e=>by cases e;exact⟨w,rfl,RV.mono x a.r.apart v w D⟩⟩) (by intro _ _ _ q;cases q);exact⟨σ,lc,_,y _,a.f.step a.r (y de) id λZ Y=>id,h⟩
theorem s6(T:bK){x p v}(h:Fp F x v lc st QL (cZ A F (.Name x p) v lc st QL)):cZ A F (.Name x p) v lc st QL :=
 cB h (λg h=>b0 h (λj e h=>b0 h (λu a h=>by
  refine Jg λi=>?_;obtain⟨o,d,f⟩:=ua a;obtain⟨u,c⟩:=CC f;refine i ?_;exact y3 T (x9 g) e (d.trans (congrArg Jh c)) h) id) id) id
theorem r5(T:bK)(d:A.handled=none)(C:Cl cl)(R:uM A F r){t v u}(k:rJ t u):DV A F cl r u t v lc st QL->cZ A F t v lc st QL:=by
 cases k with
 |name x p=>exact λh=>cB h (λf h=>y1 T (eC f) h) (s6 T)
 |attr o x p=>exact λh=>y4 ((R.E h).mono λa c h=>qe T C h)
 |sub o k p=>exact λh=>AH ((R.E h).mono λa c h=>(R.E h).mono λb st₂ h=>qd T h)
 |tup es k p i=>exact λh=>iO h (λitems e g h=>e▸uJ d i g (R.Av h)) id
 |oth=>exact id
theorem u7(T:bK)(a:A.handled=none)(C:Cl cl)(R:uM A F r){t v}(h:Ib A F cl r t v lc st QL):cZ A F t v lc st QL:=r5 T a C R (DP t) h
theorem u5(G:Gl g)(C:Cl cl)(d:A.handled=none)(hi:Nt F.env=false)(R:uM A F r):uM A F (H9 A F g cl r) where
 E h:=u6 G C R h
 Es {es _ _ _} h:=by
  cases es with
  |nil=>exact args_nil h
  |cons e es=>exact args_cons ((R.E h).mono λv a h=>R.Es h)
 T h:=u0 R h
 B {op es _ _ _ _} h:=by
  cases op with
  |And=>cases es with
   |nil=>exact all_nil ⟨λZ=>h,λq=>Jq q⟩
   |cons e es=>exact all_cons ((R.T h).mono λb a h=>⟨λq=>R.B (h.t (by simpa using q)),λq=>⟨λz=>by rw[z] at q;exact Jq q,h.f⟩⟩)
  |Or=>cases es with
   |nil=>exact all_nil ⟨λq=>Jq q,λZ=>h⟩
   |cons e es=>exact all_cons ((R.T h).mono λb a h=>⟨λq=>R.B (h.f (eq_of_beq q)),λq=>⟨h.t,λz=>by rw[z] at q;exact Jq q⟩⟩)
 S h:=u4 G.T d hi R h
 Ss {l _ _ _} h:=by
  cases l with
  |nil=>exact pE h
  |cons c l=>exact bP ((R.S h).mono λf i a h=>by cases f with | next=>exact R.Ss h | _=>exact h)
 As h:=u7 G.T d C R h
 Av {l _ _ _} h:=by
  cases l with
  |nil=>exact h
  |cons x l=>exact(R.As h).mono λlc st h=>R.Av h
 Am {l _ _ _ _} h:=by
  cases l with
  |nil=>exact h
  |cons x l=>exact(R.As h).mono λlc st h=>R.Am h
theorem snd(G:Gl g)(C:Cl cl)(a:A.handled=none)(hi:Nt F.env=false):∀n,uM A F (sm A F g cl n)
 |0=>⟨id,id,id,id,id,id,id,id,id⟩
 |n+1=>u5 G C a hi (snd G C a hi n)
end
section
open PySem PySem.W PySem.Calls PyProof.Rows Builtin
noncomputable abbrev cN(nm q:Str)(C N:Addr)(a c d e f:Option Value):Obj :=
 {cls:=.type "type",data:=.cls {name:=nm,bases:=[.type "tuple"],mro:=[.ref C,.type "tuple",.type "object"],ns:=N,qualname:=q,hasDict:=false,slotNames:=[],subclasses:=[],abstract:=false,hasDel:=false},slots:=#[a,c,d,e,Jh .none,f]}
section
variable {M:Vx}{h:Heap}{nm:Str}{q:Str}{C:Addr}{N:Addr}{G:Option Value}{D:Option Value}{B:Option Value}{z:Option Value}{u:Option Value}{j:Str->Option Value}
mutual
theorem lD(a:h.get? C=Jh (cN nm q C N G D B z u)):Ko M h (S9 (.ref C)) [.ref C,.type "tuple",.type "object"] :=
 ((Ma (part:=none) a).andThen .now).andThen .now
theorem kW(a:h.get? C=Jh (cN nm q C N G D B z u)):Ko M h (Mv (.ref C)) (.type "type"):=(Ma a).andThen .now
end
theorem AY(a:h.Ns N j)(name:Str):Ko M h (nsGet N name) (j name):=λA Q E s k q=>wpAny_nsGet (a.keeps k) q
theorem fH(e:h.get? C=Jh (cN nm q C N G D B z u))(f:h.Ns N j){name:Str}{y:Option Value}(d:J9 (.type "tuple") name=pure y):Ko M h (J9 (.ref C) name) (match j name with | Jh v=>Jh v | none=>y):=by
 have a:S9 (.type "tuple")=pure [.type "tuple",.type "object"]:=by kernel_rfl
 have c:lookupAlong [.type "tuple",.type "object"] name=pure y:=by rw[VC,a] at d;exact d
 rw[VC];refine(lD e).andThen ?_;rw[lookupAlong_cons];refine(((Ma (part:=none) e).andThen .now).andThen (AY f name):Ko M h (classOwn (.ref C) name) (j name)).andThen ?_;cases g:j name with
 |some v=>exact .now
 |none=>dsimp only;rw[c];exact .now
theorem gR(a:h.get? C=Jh (cN nm q C N G D B z u))(b:Value):Ko M h (MZ (.ref C) b) ([J3 C,.type "tuple",.type "object"].contains b):=by
 exact(lD a).andThen .now
variable {prog:Program}{w:LK}{A:Around}{E:Value->Js->Prop}{s:Js}
theorem wG:MZ (.type "type") (.type "type")=pure true:=by refine(KN ..).symm▸?_;kernel_rfl
theorem jv{name expr p o T id mattr Q}(P:s.heap.get? C=Jh (cN nm q C N G D B z u))(S:s.heap.Ns N j)(k:∃ms,s.heap.Ns KS ms/\ms "thirdparty.any"=none)(hv:j name=Jh (.ref p))(U:s.heap.get? p=Jh o)(hT:o.cls=.type T)(hg:J9 (.type T) "__get__"=pure (Jh (.builtin id))){y}(hB:J9 (.type "tuple") name=pure y)(hm:J9 (.type "type") name=pure mattr)(H:∀a,mattr=Jh a->Li a "__get__"=pure none)(f:heldUnderItsOwnName name (.ref p)=false)(hb:bareKinds.contains (.type T)=false)(h:JH (Jz prog w) A.in1 (Ky (.builtin id) [.ref p,.none,.ref C]) (λv s'=>JH (Jz prog w) A (QJ v) Q E s') (λZ Y=>False) {s with toks:=s.toks+1}):JH (Jz prog w) A (Uv (.ref C) name expr) Q E s:=by
 have r {prog w A E s nm q C N G D B z u j name tk p o T id mattr Q} (P:s.heap.get? C=Jh (cN nm q C N G D B z u)) (S:s.heap.Ns N j) (k:∃ms,s.heap.Ns KS ms/\ms "thirdparty.any"=none) (hv:j name=Jh (.ref p)) (U:s.heap.get? p=Jh o) (hT:o.cls=.type T) (hg:J9 (.type T) "__get__"=pure (Jh (.builtin id))) {y} (hB:J9 (.type "tuple") name=pure y) (hm:J9 (.type "type") name=pure mattr) (H:∀a,mattr=Jh a->Li a "__get__"=pure none) (f:heldUnderItsOwnName name (.ref p)=false) (hb:bareKinds.contains (.type T)=false) (h:JH (Jz prog w) A (Ky (.builtin id) [.ref p,.none,.ref C]) (λv s'=>Q (.done (.ret v)) s') E s):JH (Jz prog w) A (Builtin.«type.__getattribute__» ⟨[.ref C,.str name tk],[]⟩) Q E s:=by
  have i {M h} (k:∃ms,h.Ns KS ms/\ms "thirdparty.any"=none):Ko M h (Ni (.ref C)) none:=by
   refine Jg λzz=>?_;obtain⟨ms,h1,h2⟩:=k;refine zz ?_;have h3:=AY (M:=M) h1 "thirdparty.any";rw[h2] at h3;exact OS (a:=false) (h3.andThen .now) (by show Ko M h (if(!false)=true then pure none else _) none;refine(if_pos (show(!false)=true from rfl)).symm▸?_;exact .now)
  obtain⟨R,g,d,t,os⟩:=s;dsimp only at P S k U;have X:=fH (M:=Jz prog w) P S hB;rw[hv] at X;dsimp only at X;have L4:Ko (Jz prog w) R (Mv (.ref p)) (.type T):=(Ma U).andThen (by refine(hT)▸?_;exact .now);have L5:Ko (Jz prog w) R (Li (.ref p) "__get__") (Jh (.builtin id)):=by
   refine L4.andThen ?_;rw[hg];exact .now
  refine Jf (Jk (Jf ((i k:Ko (Jz prog w) R (Ni (.ref C)) none).at (Jf ((kW P:Ko (Jz prog w) R (Mv (.ref C)) (.type "type")).at ?_)))));refine(hm).symm▸?_;refine Jf (Jk ?_);have F:∀mg:Option Value,mg=none->JH (Jz prog w) A (do
    if let Jh a <-J9 (.ref C) name then
     if heldUnderItsOwnName name a then
      anAnswerIsGiven
      return <-ret a
     let ta <-Mv a
     if [.type "function",.type "method_descriptor",.type "wrapper_descriptor",.type "getset_descriptor",.type "member_descriptor"].contains ta then
      return <-ret a
     match <-Li a "__get__" with
     |some g=>return <-ret (<-MQ [a] (call g [a,.none,.ref C]))
     |none=>return <-ret (<-QJ a)
    match mattr,mg with
    |some a,Jh g=>ret (<-MQ [a] (call g [a,.ref C,.type "type"]))
    |some a,none=>ret (<-QJ a)
    |none,Z =>
     rule "getattr.type.missing"
     raiseErrorStr "AttributeError" ((s!"type object '{← typeNameCut 100 (.ref C)}' has no attribute '":Str)++name++"'")) Q E ⟨R,g,d,t,os⟩:=by
   intro mg ab;refine Jf (X.at ?_);dsimp only;rw[f,if_neg (by decide)];refine Jf (L4.at ?_);have aa:([.type "function",.type "method_descriptor",.type "wrapper_descriptor",.type "getset_descriptor",.type "member_descriptor"]:List Value).contains (.type T)=false:=hb;rw[aa,if_neg (by decide)];refine Jf (L5.at ?_);exact Jf (JD (JB h (λv s' c=>Jk c) λZ Y c=>c))
  cases mattr with
  |none=>exact Jf (Jk (F none rfl))
  |some a =>
   dsimp only;rw[H a rfl];exact Jf (Jk (F none rfl))
 have ht:Ko (Jz prog w) s.heap (Mv (.ref C)) (.type "type"):=kW P;refine Jf (wpAny_mkText (JD (Jf (ht _ _ _ _ (λZ Y e=>e) ?_))));have J:J9 (.type "type") "__getattribute__"=pure (Jh (.builtin "type.__getattribute__")):=by rw[J4,JM];kernel_rfl
 rw[J];refine Jf (Jk ?_);dsimp only;rw[show(onTheHeap (Qk "type")&&OP "type.__getattribute__" == OP "object.__getattribute__")=false from rfl,if_neg (by decide)];unfold getAttrByItsOwn;have x:hookBefore (.type "type")=pure none:=by kernel_rfl
 rw[x];refine Jf (Jk (Jf (K4 (JD ?_))));unfold callGetattribute;rw[show(expr&&onTheHeap (OP "type.__getattribute__"))=false from Bool.and_false _,if_neg (by decide)];unfold boundAndCalled;rw[KF.slot_tga.bind];refine Jf (Jk ?_);refine Lh ?_;refine KZ KF.slot_tga.plain KF.entry_tga ?_;refine @check_slot (Jz prog w) _ _ {s with toks:=s.toks+1} "type.__getattribute__" "type" "__getattribute__" (.ref C) [.str name s.toks] [] _ (by decide +kernel) (by decide +kernel) (ht.andThen (LN wG)) (KF.args_tga (.ref C) (.str name s.toks)) ?_;refine r (s:={s with toks:=s.toks+1}) P S k hv U hT hg hB hm H f hb ?_;exact JB h (λv s' c=>c) λZ Y c=>c.elim
theorem oD(c:h.get? C=Jh (cN nm q C N G D B z u)):Ko M h (MN (.ref C)) none:=by
 intro A Q E s k f;have a:=k _ _ c;obtain⟨e,g,d,t,os⟩:=s;dsimp only at a k;have i:Ko M e (S9 (.ref C)) [.ref C,.type "tuple",.type "object"]:=lD a;unfold MN
 repeat lk
 exact f
theorem tO(f:h.get? C=Jh (cN nm q C N G D B z u)):Ko M h (Ot (.ref C)) (.type "tuple"):=by
 have a:Slots.bestBase [.type "tuple"]=pure (.type "tuple"):=by first | rfl | kernel_rfl
 intro A Q E s k i;have c:=k _ _ f;obtain⟨e,g,d,t,os⟩:=s;dsimp only at c k;have j:Ko M e (S9 (.ref C)) [.ref C,.type "tuple",.type "object"]:=lD c;have o:Ko M e (MN (.ref C)) none:=oD c;have p:Ko M e (MN (.type "tuple")) (Jh "tuple.__new__"):=LN PySem.F.called_tuple.made;have r:Ko M e (Slots.bestBase [.type "tuple"]) (.type "tuple"):=LN a;unfold Ot
 repeat lk
 exact i
theorem lC:J9 (.type "tuple") "__init__"=pure (Jh (.builtin "object.__init__")):=by rw[J4,JM];kernel_rfl
variable {x:Addr}
theorem wI{p f dd fr a b c P}(J:s.heap.get? C=Jh (cN nm q C N G D B z u))(R:s.heap.Ns N j)(U:∃ms,s.heap.Ns KS ms/\ms "thirdparty.any"=none)(hi:j "__init__"=none)(hv:j "__new__"=Jh (.ref p))(hp:s.heap.get? p=Jh {cls:=.type "staticmethod",dict:=dd,data:=.fields (.ref f::fr).toArray})(h:JH (Jz prog w) (A.under (.builtin "type.__call__" ⟨[.ref C,a,b,c],[]⟩)) (Ky (.ref f) [.ref C,a,b,c]) (λv s'=>∃x o,v=.ref x/\s'.heap.get? x=Jh o/\o.cls=.ref C/\s'.heap.get? C=Jh (cN nm q C N G D B z u)/\s'.heap.Ns N j/\P (.ref x) s') E {s with toks:=s.toks+1}) :
  JH (Jz prog w) A (Ky (.ref C) [a,b,c]) P E s:=by
 have H:Li (.builtin "type.__new__") "__get__"=pure none:=by
  unfold Li;refine((show Mv (.builtin "type.__new__")=pure (.type "builtin_function_or_method") from by show Tc _=_;refine(Pq).symm▸?_;kernel_rfl)).symm▸?_;show J9 (.type "builtin_function_or_method") "__get__"=_;refine(J4 ..).symm▸?_;refine(JM ..).symm▸?_;kernel_rfl
 have k:J9 (.type "staticmethod") "__get__"=pure (Jh (.builtin "staticmethod.__get__")):=by rw[J4,JM];kernel_rfl
 have r {A s x o P} (J:s.heap.get? C=Jh (cN nm q C N G D B z u)) (R:s.heap.Ns N j) (hi:j "__init__"=none) (hx:s.heap.get? x=Jh o) (ho:o.cls=.ref C) (h:P .none s) :
   JH (Jz prog w) A (Ky (.builtin "object.__init__") [.ref x,a,b,c]) P E s:=by
  obtain⟨hh,g,d,t,os⟩:=s;dsimp only at J R hx;have X:Ko (Jz prog w) hh (Mv (.ref x)) (.ref C):=(Ma hx).andThen (by refine(ho)▸?_;exact .now);have t3:Ko (Jz prog w) hh (J9 (.ref C) "__init__") (Jh (.builtin "object.__init__")):=by
   have:=fH (M:=Jz prog w) J R lC;have this:=hi▸this;exact this
  have t4:Ko (Jz prog w) hh (MN (.ref C)) none:=oD J;have F (a b c d:Value):Oc "object.__init__" ⟨[a,b,c,d],[]⟩:=by kernel_rfl
  refine Lh (KZ oi_plain entry_oi (@check_slot (Jz prog w) _ _ _ "object.__init__" "object" "__init__" (.ref x) [a,b,c] [] _ oi_kind oi_split (X.andThen (gR J (.type "object")):Ko (Jz prog w) hh (MW (.ref x) (.type "object")) true) (F (.ref x) a b c) ?_));unfold Builtin.«object.__init__»
  repeat lk
  exact h
 obtain⟨hh,g,d,t,os⟩:=s;dsimp only at J R U hp;have X:Ko (Jz prog w) hh (Mv (.ref C)) (.type "type"):=kW J;have t3:Ko (Jz prog w) hh (Li (.ref C) "__call__") (Jh (.builtin "type.__call__")):=by
  refine X.andThen ?_;refine(RX).symm▸?_;exact .now
 refine Lh (MR ?_);refine nd_load J ?_;show JH _ _ (callAny.viaDunder (.ref C) _) _ _ _;refine Jf (t3.at ?_);dsimp only;rw[tc_bind];refine Jf (Jk (Jf (Jk ?_)));refine Jk (a:=VP (.call (.builtin "type.__call__") ⟨[.ref C,a,b,c],[]⟩)) (And.intro rfl ?_);refine R3 (Nw _ (by decide +kernel)) Vj (check_slot tc_kind tc_split (X.andThen (LN wG):Ko (Jz prog w) hh (MW (.ref C) (.type "type")) true) (tc_args _ _ _) ?_);unfold Builtin.«type.__call__»;dsimp only;refine(show(J3 C == Qk "type")=false from rfl).symm▸?_;rw[if_neg (by decide)];refine Jf ((lD J:Ko (Jz prog w) hh (S9 (.ref C)) [.ref C,.type "tuple",.type "object"]).at ?_);dsimp only[List.isEmpty_cons];rw[if_neg (by decide)];refine Jf ((oD J:Ko (Jz prog w) hh (MN (.ref C)) none).at ?_);dsimp only;have Q:J9 (.type "type") "__new__"=pure (Jh (.builtin "type.__new__")):=by rw[J4,JM];kernel_rfl
 refine Jf (jv (s:=⟨hh,g,d,t,os⟩) (T:="staticmethod") (id:="staticmethod.__get__") (o:={cls:=.type "staticmethod",dict:=dd,data:=.fields (.ref f::fr).toArray}) J R U hv hp rfl k (y:=Jh (.builtin "tuple.__new__")) ?_ Q (λa e=>by cases e;exact H) ?_ ?_ ?_)
 ·rw[J4,JM];kernel_rfl
 ·rfl
 ·decide
 have hX:UC ([(p,{cls:=.type "staticmethod",dict:=dd,data:=.fields (.ref f::fr).toArray})]:Frag) hh:=by
  intro a' o' e;rw[JS] at e;by_cases ea:a'=p
  ·subst ea;rw[beq_self_eq_true] at e;cases e;exact hp
  ·have:(a' == p)=false:=beq_eq_false_iff_ne.mpr ea;have e:=this▸e;cases e
 have S:recIn ([(p,{cls:=.type "staticmethod",dict:=dd,data:=.fields (.ref f::fr).toArray})]:Frag) p "staticmethod"=Jh (.ref f::fr):=by
  unfold recIn;rw[JS,beq_self_eq_true];dsimp only;exact(if_pos (by decide))
 refine Lh (sm_get (s:=⟨hh,g,d,t+1,os⟩) hX S (handed_on rfl ?_));refine Jf (JD (JB h (λv s' aa=>?_) λZ Y i=>i));obtain⟨x,o,e1,e2,e3,e4,e5,e6⟩:=aa;subst e1;have u1:Ko (Jz prog w) s'.heap (Mv (.ref x)) (.ref C):=(Ma e2).andThen (by refine(e3)▸?_;exact .now);have u2:Ko (Jz prog w) s'.heap (MW (.ref x) (.ref C)) true:=u1.andThen (by
  have:=gR (M:=Jz prog w) e4 (.ref C);rw[show([J3 C,.type "tuple",.type "object"].contains (.ref C))=true from by simp] at this;exact this)
 have u3:Ko (Jz prog w) s'.heap (Li (.ref x) "__init__") (Jh (.builtin "object.__init__")):=by
  unfold Li;refine u1.andThen ?_;have:=fH (M:=Jz prog w) e4 e5 lC;have this:=hi▸this;exact this
 refine Jf (u2.here ?_);refine(show(!true)=false from rfl).symm▸?_;rw[if_neg (by decide)];refine Jf (JD ?_);refine Jf (u3.here ?_);refine JD ?_;rw[oi_bind];refine Jf (Jk ?_);refine Jf (r e4 e5 hi e2 e3 (Jk ?_));dsimp only;refine(show(L3 != L3)=false from rfl).symm▸?_;rw[if_neg (by decide)];exact Jk e6
theorem nq{M}(a:h.get? C=Jh (cN nm q C N G D B z u)):Ko M h (isType (.ref C)) true:=by
 exact(Ma a).andThen .now
inductive TupAt(C N p f:Addr)(mN:Str->Option Value):Prop
 |mk (nm q:Str) (k0 k1 k2 k3 k5:Option Value) (dd:Option Addr) (fr:List Value) (cls:W.h₁.get? C=Jh (cN nm q C N k0 k1 k2 k3 k5)) (ns:W.h₁.Ns N mN) (nsne:N≠KS) (stat:∃ms,W.h₁.Ns KS ms/\ms "thirdparty.any"=none)
   (init:mN "__init__"=none) (new:mN "__new__"=Jh (.ref p)) (sm:W.h₁.get? p=Jh {cls:=.type "staticmethod",dict:=dd,data:=.fields (.ref f::fr).toArray})
inductive Dp(C N p f:Addr)(mN:Str->Option Value)(h:Heap):Prop
 |mk (nm q:Str) (k0 k1 k2 k3 k5:Option Value) (dd:Option Addr) (fr:List Value) (cls:h.get? C=Jh (cN nm q C N k0 k1 k2 k3 k5)) (ns:h.Ns N mN) (stat:∃ms,h.Ns KS ms/\ms "thirdparty.any"=none)
   (init:mN "__init__"=none) (new:mN "__new__"=Jh (.ref p)) (sm:h.get? p=Jh {cls:=.type "staticmethod",dict:=dd,data:=.fields (.ref f::fr).toArray})
variable {F:cU}{lc:Lc}{st:St}{Q:V->St->Prop}{p:Addr}{f:Addr}
theorem TupAt.now(c:TupAt C N p f j)(i:Inv s):Dp C N p f j s.heap:=by
 refine Jg λk=>?_;obtain⟨nm,q,G,D,B,z,u,g,fr,d,ns,ne,⟨ms,h,e⟩,a,new,sm⟩:=c;refine k ?_;exact⟨nm,q,G,D,B,z,u,g,fr,i.old.get_of_cls d λq=>JT q,jg i.old ns ne,⟨ms,h.at i.stat,e⟩,a,new,i.old.get_of_cls sm λq=>JT q⟩
noncomputable abbrev V.m(C:Addr)(vs:List V):V:=.c (.cls C) vs
theorem n5(c:TupAt C N p f j){vs}(h:Q (.m C vs) st):bI A (.v (.builtin "tuple.__new__")) [.v (.ref C),.t vs] st Q:=by
 have J {prog w A E s nm q G D B z u b Q} (Z:s.heap.get? C=Jh (cN nm q C N G D B z u)) (h:Q () s):JH (Jz prog w) A (Ox "tuple.__new__" ⟨[.ref C,b],[]⟩) Q E s:=by
  obtain⟨Y,g,d,t,os⟩:=s;dsimp only at Z;delta Ox;dsimp only;have S:splitId "tuple.__new__"=Jh ("tuple","__new__"):=by decide +kernel
  have U:Pb "tuple.__new__"=Jh .builtinFn:=by decide +kernel
  rw[U,S];dsimp only;rw[if_pos (by decide)];refine Jf ((nq Z:Ko (Jz prog w) Y (isType (.ref C)) true).at ?_);refine Jf ((show Ko (Jz prog w) Y (MZ (.ref C) (.type "tuple")) true from by have:=gR (M:=Jz prog w) Z (.type "tuple");rw[(show([J3 C,.type "tuple",.type "object"].contains (.type "tuple"))=true from by simp)] at this;exact this).at ?_);rw[if_neg (by decide)];refine Jf ((tO Z:Ko (Jz prog w) Y (Ot (.ref C)) (.type "tuple")).at ?_);refine Jf ((LN PySem.F.called_tuple.made:Ko (Jz prog w) Y (MN (.type "tuple")) (Jh "tuple.__new__")).at ?_);exact Jk h
 have T {prog w A E s nm q C G D B z u j tt vs n P} (Z:s.heap.get? C=Jh (cN nm q C N G D B z u)) (hn:s.heap.Ns N j) (hi:j "__init__"=none) (ht:s.heap.get? tt=Jh {cls:=.type "tuple",data:=.seq vs n}) (hz:vs.size<=sizeLine) (h:∀h':Heap,(∀b o',s.heap.get? b=Jh o'->h'.get? b=Jh o')->s.heap.objs.size<=h'.objs.size->P (.done (.ret (.ref (h'.objs.size+1)))) {s with heap:=(h'.push {cls:=.type "dict",data:=.dict #[]}).push {cls:=.ref C,dict:=Jh h'.objs.size,data:=.seq vs}}) :
   JH (Jz prog w) A (Builtin.«tuple.__new__» ⟨[.ref C,.ref tt],[]⟩) P E s:=by
  obtain⟨Y,g,d,t,os⟩:=s;dsimp only at Z hn ht h;have h5:Ko (Jz prog w) Y (J9 (.ref C) "__init__") (Jh (.builtin "object.__init__")):=by
   have:=fH (M:=Jz prog w) Z hn lC;have this:=hi▸this;exact this
  have h6:Ko (Jz prog w) Y (Bind.madeHere "tuple.__new__" (.ref C)) ():=by
   refine(tO Z:Ko (Jz prog w) Y (Ot (.ref C)) (.type "tuple")).andThen ((LN PySem.F.called_tuple.made:Ko (Jz prog w) Y (MN (.type "tuple")) (Jh "tuple.__new__")).andThen ?_);show Ko _ _ (if((Jh "tuple.__new__").map Nd != Jh (Nd "tuple.__new__"))=true then _ else _) _;refine(show((Jh "tuple.__new__").map Nd != Jh (Nd "tuple.__new__"))=false from by simp).symm▸?_;rw[if_neg (by decide)];exact .now
  unfold Builtin.«tuple.__new__»;dsimp only;refine Jf ((nq Z:Ko (Jz prog w) Y (isType (.ref C)) true).at ?_);refine Jf ((show Ko (Jz prog w) Y (MZ (.ref C) (.type "tuple")) true from by have:=gR (M:=Jz prog w) Z (.type "tuple");rw[(show([J3 C,.type "tuple",.type "object"].contains (.type "tuple"))=true from by simp)] at this;exact this).at ?_);rw[if_neg (by decide)];refine Jf (h6.at ?_);refine Jf (h5.at ?_);rw[if_pos (by rfl)];refine Jf (Jk ?_);refine(show checkCount "tuple" 0 1 [J3 tt].length=pure () from by kernel_rfl).symm▸?_;refine Jf (Jk ?_);refine(show(J3 C == Qk "tuple")=false from rfl).symm▸?_;rw[if_neg (by decide)];refine Jf (bS (wpAny_collect_seq (hsz:=hz) tt (.inr rfl) (s:=⟨Y,g,d,t,os⟩) ht rfl rfl λh' hk ab=>?_));refine Jf (Jk (Jf (S5 ?_)));have ae:((h'.push {cls:=.type "dict",data:=.dict #[]}).push {cls:=.ref C,dict:=Jh h'.objs.size,data:=.seq vs}).get? C=Jh (cN nm q C N G D B z u):=Jm _ (Jm _ (hk _ _ Z));have e1:(vs.toList.toArray)=vs:=by simp
  refine(e1).symm▸?_;refine Jf ?_;unfold newObj;dsimp only;rw[if_neg (by exact bM 19 4 hz)]
  try refine Jf (Jk ?_)
  refine Jf (S5 ?_);refine Jf ?_;refine Jf (Jf (Rd ae ?_));have hsz:(h'.push {cls:=.type "dict",data:=.dict #[]}).objs.size=h'.objs.size+1:=JA ..;refine Jk (Jk (Jk (Jk ?_)));refine(hsz).symm▸?_;exact h h' hk ab
 have aa {s k items m σ} {h':Heap} (i:Inv s) (r:Rel σ st s) (hk:∀b o,s.heap.get? b=Jh o->h'.get? b=Jh o) (hz:s.heap.objs.size<=h'.objs.size) (hs:items.size<=sizeLine) (hl:k.wo=λn=>n) (hv:cf σ st.length s vs items.toList) (q:Q (.c k vs) st):PV σ st s Q (.ref h'.objs.size) {s with heap:=h'.push (k.obj items m)}:=by
  have x:=c4 (X:=de) (k:=s.toks) i r hk hz (Jl _);have y:=d8 (X:=de) (b:=h'.objs.size) (h':=h'.push (k.obj items m)) (k:=s.toks) x.inv x.rel (Jl _) (by rw[JA];exact JL _) (λc H hc=>Jm _ hc) (Jl _);exact⟨_,_,x.trans y,.c k vs,⟨_,items,m,rfl,.inr rfl,Ju _ (by cases k <;> rfl),hs,by refine(hl).symm▸?_;exact(hv.step r x).step x.rel y⟩,q⟩
 intro σ s w ws hw af i r;subst hw;obtain⟨x,y,rfl,hx,a,items,m,e,hz,ho,hs,hv⟩:=iL af;subst hx;subst e;obtain⟨nm,q,G,D,B,z,u,dd,fr,cls,ns,_,ac,_⟩:=c.now i;have R:Ur "tuple.__new__"=true:=by decide +kernel
 refine Lh (KZ R PySem.F.entry_tuple_new (J cls (T cls ns ac ho hs λh' hk ab=>?_)));have e1:(h'.push {cls:=.type "dict",data:=.dict #[]}).objs.size=h'.objs.size+1:=JA ..;have H:=aa (k:=.cls C) (m:=h'.objs.size) (h':=h'.push {cls:=.type "dict",data:=.dict #[]}) i r (λb o q=>Jm _ (hk b o q)) (Jn ab (e1▸JC _)) hs rfl hv h;rw[e1] at H;exact H
theorem uC{o args apos pos}(M:args.all bX=true){pl}(H:eval (.Call (.Attribute o "__new__" apos) args [] pos) F.env=(do
   let D <-eval o F.env
   Pf apos.atName
   let (f,first) <-MQ [D] (getMethod D "__new__" pl)
   Vl pos f first (backTo pos (Ri args F.env)) (backToKw pos (keywordEach [] F.env)))) (h:cx A F o lc st λv i=>v=.g .tuple/\eJ A F args lc i λvs st₂=>bI A (.v (.builtin "tuple.__new__")) vs st₂ Q):cx A F (.Call (.Attribute o "__new__" apos) args [] pos) lc st Q:=by
 have c {s prog w E P} (h:P (.builtin "tuple.__new__",[]) {s with toks:=s.toks+1}):JH (Jz prog w) A (getMethod (.type "tuple") "__new__" pl) P E s:=by
  have X:UC [] s.heap:=λa o e=>by cases e
  have B:Ko (Jz prog w) s.heap (Mv (.type "tuple")) (.type "type"):=LN (by kernel_rfl);have C:findIn [] (.type "type") "__getattribute__"=Jh (Jh (.builtin "type.__getattribute__")):=type_tga;refine Jf (Jf (B.here ((looks_findIn X C).here ?_)));dsimp only;refine(if_pos canon_tga).symm▸?_;refine Jf (JB (Q:=λv=>P (v,[])) (E:=E) ?_ (λZ Y z=>Jk z) λZ Y z=>z);have d:findCls [] (.type "tuple") (.type "type") "__new__"=Jh (.val (.builtin "tuple.__new__")):=by kernel_rfl
  refine cls_open X (LN (show Ni (.type "tuple")=pure none from by unfold Ni;dsimp only;refine(show Manifest.isStub "tuple"=false from by decide +kernel).symm▸?_;rfl):Ko (Jz prog w) s.heap (Ni (.type "tuple")) none) B C (looks_hook X (r:=none) (by rfl)) (by show subIn [] _ _=_;rfl) d
   (Jk (by show JH _ _ (QJ (.builtin "tuple.__new__")) _ _ _;rw[handedOut_of (by rfl)];exact Jk h))
 intro σ s G;refine methodCall_KW (pl:=pl) (bH (h σ s G) λw s₁ y i v j R u=>?_) H;obtain⟨e,p⟩:=u;subst e;subst R;refine c ?_;refine(cz pos F.env M).symm▸?_;have k:=j.trans (bT j.inv j.rel (JC _));exact MO (any_false _ _) (dI p (G.step k) λws s' σ' S vs x J q=>ec (k.trans x) (q σ' s' _ ws rfl J x.inv x.rel))
theorem pX:J9 (.type "tuple") "__iter__"=pure (Jh (.builtin "tuple.__iter__")):=PySem.F.slot_tuple_iter.lookup
variable {J:Addr}{o:Obj}{items:Array Value}{n:Nat}{i:Nat}
variable {H:AHeap}
theorem rT(c:TupAt C N p f j)(H:j "__iter__"=none){a b d}(hA:A.handled=none):AJ A (.m C [a,b,d]) 3 st [a,b,d]:=by
 have y {prog w E s x J o items n i v P} (H:s.heap.IsTupleIter J x i) (hx:s.heap.get? x=Jh o) (hd:o.data=.seq items n) (hv:items[i]?=Jh v) (hP:∀h',h'.IsTupleIter J x (i+1)->Kx J s.heap h'->P (Jh v) {s with heap:=h'}):JH (Jz prog w) A (LV (.ref J)) P E s:=by
  refine Jg λzz=>?_;obtain⟨oi,S,ah,Q⟩:=id H;refine zz ?_;refine Jf (K4 (Kc (name:=Jj "__next__") H.typeIs LG (Kb LG H.typeIs OR ?_ (OK _))));show JH _ _ (QR (.ref J) 0 >>= _) _ _ s;refine Jf (K7 S Q (x:=.ref x) rfl ?_);show JH _ _ (if false=true then _ else _) _ _ s;refine(if_neg K9).symm▸?_;refine Jf (K7 S Q (x:=.int i 0) rfl ?_);refine Jf (Kr hx hd ?_);dsimp only[J8];rw[hv];refine Jf (LJ S Q (by simp) (Jk ⟨v,rfl,Jk (hP _ ⟨_,J0 _ S (Oz (Nz Q _)),(SN ..).trans ah,?_⟩ (J2 ..))⟩));rw[Nz Q];simp [LO]
 have aa {prog w E s x J o items n i P} (H:s.heap.IsTupleIter J x i) (hx:s.heap.get? x=Jh o) (hd:o.data=.seq items n) (hv:items[i]?=none) (hP:∀h',Nb J s.heap h'->P none {s with heap:=h'}):JH (Jz prog w) A (LV (.ref J)) P E s:=by
  refine Jg λzz=>?_;obtain⟨oi,S,ah,Q⟩:=id H;refine zz ?_;refine Jf (K4 (Kc (name:=Jj "__next__") H.typeIs LG (Kb LG H.typeIs OR ?_ (OK _))));show JH _ _ (QR (.ref J) 0 >>= _) _ _ s;refine Jf (K7 S Q (x:=.ref x) rfl ?_);show JH _ _ (if false=true then _ else _) _ _ s;refine(if_neg K9).symm▸?_;refine Jf (K7 S Q (x:=.int i 0) rfl ?_);refine Jf (Kr hx hd ?_);dsimp only[J8];rw[hv];refine Jf (LU (Jf (LJ S Q (by simp) ?_)));refine Jf ?_;refine Jf (Kj ?_ (by size_fits));refine Jf (m:=Ls _ _) (MX (a:=L3) (by first | rfl | (simp only[Ls];rfl)) ?_);refine Kj ?_ (by size_fits);refine Jf (Oa ?_);refine(show A.in1.handled=none from hA).symm▸?_;refine Jf (Jk (O6 ?_));refine Jf (L8 (T:="StopIteration") (b:=true) ⟨_,Ju _ rfl,rfl⟩ M5 ?_);exact Jk (hP _ (((J2 ..).extBut.push _).push _))
 have U {prog w E s nm q x G D B z u o P} (hC:s.heap.get? C=Jh (cN nm q C N G D B z u)) (hn:s.heap.Ns N j) (hi:j "__iter__"=none) (hx:s.heap.get? x=Jh o) (ho:o.cls=.ref C) (hP:P (.ref s.heap.objs.size) {s with heap:=s.heap.push {cls:=.type "tuple_iterator",data:=.fields #[.ref x,.int 0 0]}}):JH (Jz prog w) A (MV (.ref x)) P E s:=by
  obtain⟨hh,g,d,t,os⟩:=s;dsimp only at hC hn hx hP;have t1:Ko (Jz prog w) hh (Mv (.ref x)) (.ref C):=(Ma hx).andThen (by refine(ho)▸?_;exact .now);have t2:Ko (Jz prog w) hh (Li (.ref x) "__iter__") (Jh (.builtin "tuple.__iter__")):=by
   refine t1.andThen ?_;have:=fH (M:=Jz prog w) hC hn pX;have this:=hi▸this;exact this
  have t3:Ko (Jz prog w) hh (MW (.ref x) (.type "tuple")) true:=t1.andThen (by
   have:=gR (M:=Jz prog w) hC (.type "tuple");rw[show([J3 C,.type "tuple",.type "object"].contains (.type "tuple"))=true from by simp] at this;exact this)
  have t4:Ko (Jz prog w) hh (Td (.builtin "tuple.__iter__") (.ref x)) (.builtin "tuple.__iter__",[.ref x]):=LN (PySem.F.slot_tuple_iter.bind _);refine Jf (t2.at ?_);refine Jf (JD ?_);refine Jf (Jf (t2.at ?_));dsimp only;rw[PySem.F.slot_tuple_iter.bind];have fin:JH (Jz prog w) A (call (.builtin "tuple.__iter__") ([J3 x]++[])) (λv s'=>JH (Jz prog w) A (do
    match <-Li v "__next__" with
    |none=>rule "iter.non-iterator";raiseError "TypeError" s!"iter() returned non-iterator of type '{← typeNameOf v}'"
    |some Z=>pure v) P E s') E ⟨hh,g,d,t,os⟩:=by
   refine Lh (KZ PySem.F.slot_tuple_iter.plain PySem.F.entry_tuple_iter ?_);have R (a:Value):Oc "tuple.__iter__" ⟨[a],[]⟩:=PySem.F.args_tuple_iter_1 a;refine @check_slot (Jz prog w) _ _ ⟨hh,g,d,t,os⟩ "tuple.__iter__" "tuple" "__iter__" (.ref x) [] [] _ (by decide +kernel) (by decide +kernel) t3 (R (.ref x)) ?_;show JH _ _ (do ret (<-newFields "tuple_iterator" [.ref x,LO 0])) _ _ _;refine Jf (Kj (Jk ?_));refine Jf (LP (T:="tuple_iterator") ⟨_,Ju _ rfl,rfl⟩ LG.lookup ?_);exact Jk hP
  refine Jf (nd_ask (Jk ?_))
  split
  ·refine Jf (Jk (Jk ?_));refine Jf (JB fin (λZ Y h=>Jk h) λZ Y h=>h)
  ·refine Jk ?_;refine Jf (JB fin (λZ Y h=>Jk h) λZ Y h=>h)
 rintro σ s w ⟨x,items,m,e,hz,hg,hs,hv⟩ ap r;subst e;refine Jg λzz=>?_;obtain⟨w0,_,e0,h0,w1,_,e1,h1,w2,_,e2,h2,e3⟩:=id hv;refine zz ?_;subst e3 e2 e1;have ei:items=#[w0,w1,w2]:=by refine(M9 (xs:=items))▸?_;exact(e0).symm▸rfl
 subst ei;obtain⟨nm,q,G,D,B,z,u,dd,fr,hC,hn,_⟩:=c.now ap;have ac:x≠s.heap.objs.size:=J1 (JE hg);have l1:Ko (Jz W.prog W.w) s.heap (Li (.ref x) "__iter__") (Jh (.builtin "tuple.__iter__")):=by
  refine((Ma hg).andThen .now).andThen ?_;have:=fH (M:=Jz W.prog W.w) hC hn pX;have this:=H▸this;exact this
 refine Jf ?_;refine Jf (l1.here (Jk ?_));refine Jf (JD (U hC hn H hg rfl ?_));have am:(s.heap.push {cls:=.type "tuple_iterator",data:=.fields #[.ref x,.int 0 0]}).get? x=Jh _:=Jm _ hg;have ai:(s.heap.push {cls:=.type "tuple_iterator",data:=.fields #[.ref x,.int 0 0]}).IsTupleIter s.heap.objs.size x 0:=⟨_,Ju _ rfl,rfl,rfl⟩
 refine Jf (JD ?_);refine Jf (y (i:=0) ai am rfl (v:=w0) rfl λh1 aj ae=>?_);have an:=ae.extBut x _ ac am;refine Jf (JD ?_);show JH _ _ (LV (.ref s.heap.objs.size) >>= _) _ _ _;refine Jf (y (i:=1) aj an rfl (v:=w1) rfl λh2 ak af=>?_);have ao:=af.extBut x _ ac an;refine Jf (JD ?_);show JH _ _ (LV (.ref s.heap.objs.size) >>= _) _ _ _;refine Jf (y (i:=2) ak ao rfl (v:=w2) rfl λh3 al ag=>?_);have as:=ag.extBut x _ ac ao;refine Jf (JD ?_);refine Jk (Jk (Jk (Jk ?_)));dsimp only[J5,Ol];rw[if_neg (by decide)];have g1:s.heap.objs.size<=h3.objs.size:=by
  rw[ag.1,af.1,ae.1,JA];exact JC _
 refine Jf (JD (bS (aa al as rfl rfl λh4 aq ar=>?_)));have x:=c4 (X:=de) (k:=s.toks) ap r (λb ob hb=>by
  have ab:b≠s.heap.objs.size:=J1 (JE hb);exact aq b ob ab (ag.extBut b ob ab (af.extBut b ob ab (ae.extBut b ob ab (Jm _ hb))))) (Jn g1 ar) (Jl _)
 exact Jk ⟨hv.step r x,x⟩
end
end
noncomputable def kk(f:Value->Int)(xs:Array OW)(i:Nat):Int:=match xs[i]? with
 |some p=>f p.1
 |none=>0
structure fC(f:Value->Int)(a₀:Array OW)(st:Ly):Prop where
 base:SBase a₀ st
 inj:(a₀.toList.map λp=>f p.1).Nodup
noncomputable def Up(f:Value->Int)(xs:Array OW)(n:Nat):Prop:=∀i j,i<j->j<n->kk f xs i<kk f xs j
noncomputable def Down(f:Value->Int)(xs:Array OW)(n:Nat):Prop:=∀i j,i<j->j<n->kk f xs j<kk f xs i
section
variable {f:Value->Int}{a₀:Array OW}{st:Ly}
theorem fC.size(h:fC f a₀ st):(Ka st).size=a₀.size:=h.base.size
mutual
theorem fC.ne(h:fC f a₀ st){i j}(hi:i<a₀.size)(u:j<a₀.size)(k:i≠j):kk f (Ka st) i≠kk f (Ka st) j:=by
 have c:i<(Ka st).size:=by rw[h.size];exact hi
 have d:j<(Ka st).size:=by rw[h.size];exact u
 unfold kk;refine(J7 c).symm▸?_;refine(J7 d).symm▸?_;have e:∀(a b:Nat) (o:a<(Ka st).size) (r:b<(Ka st).size),a<b->f (Ka st)[a].1≠f (Ka st)[b].1:=λa b o r g=>by
  have:=List.pairwise_iff_getElem.mp (((Array.perm_iff_toList_perm.mp h.base.perm).map λp:OW=>f p.1).nodup_iff.mpr h.inj) a b (by simpa using o) (by simpa using r) g
  simpa using this
 rcases Nat.lt_or_gt_of_ne k with q | q
 ·exact e i j c d q
 ·exact(e j i d c q).symm
theorem fC.set(h:fC f a₀ st){xs}(a:xs.Perm (Ka st)):fC f a₀ (setArr st xs):=⟨h.base.setArr a,h.inj⟩
end
theorem qK{xs ys i j}(h:xs[i]?=ys[j]?):kk f xs i=kk f ys j:=by unfold kk;exact(h).symm▸rfl
variable {prog:Program}{w:LK}{A:Around}{E:Value->Js->Prop}{s:Js}
noncomputable def rM(prog:Program)(w:LK)(A:Around)(s:Js)(f:Value->Int)(a₀:Array OW):Prop :=
 ∀(E:Value->Js->Prop) (p q:OW) (Q:Bool->Js->Prop),p∈a₀.toList->q∈a₀.toList->f p.1≠f q.1->Q (decide (f p.1<f q.1)) s->JH (Jz prog w) A (oneLt' true p.1 q.1) Q E s
mutual
theorem gi{a:Type}{c:Prop}[Decidable c]{t e:StateT Ly Q7 a}{Q:a->Ly->Prop}{st:Ly}(h:c)(k:UD (Jz prog w) A E s t Q st):UD (Jz prog w) A E s (if c then t else e) Q st:=by refine(if_pos h).symm▸?_;exact k
theorem fD{a:Type}{c:Prop}[Decidable c]{t e:StateT Ly Q7 a}{Q:a->Ly->Prop}{st:Ly}(h : ¬c)(k:UD (Jz prog w) A E s e Q st):UD (Jz prog w) A E s (if c then t else e) Q st:=by refine(if_neg h).symm▸?_;exact k
theorem jE{a:Type}{m c:StateT Ly Q7 a}{Q:a->Ly->Prop}{st:Ly}(e:m=c)(k:UD (Jz prog w) A E s c Q st):UD (Jz prog w) A E s m Q st:=e▸k
end
theorem l6{st i j Q}(r:rM prog w A s f a₀)(H:fC f a₀ st)(hi:i<a₀.size)(o:j<a₀.size)(e:i≠j)(p:kk f (Ka st) i<kk f (Ka st) j->Q (Jh true) st)(g:¬kk f (Ka st) i<kk f (Ka st) j->Q (Jh false) st):UD (Jz prog w) A E s (ltAt' i j) Q st:=by
 have h:Q (Jh (decide (kk f (Ka st) i<kk f (Ka st) j))) st:=by
  by_cases q:kk f (Ka st) i<kk f (Ka st) j
  ·rw[decide_eq_true q];exact p q
  ·rw[decide_eq_false q];exact g q
 clear p g
 have d:=H.ne hi o e;have a:i<(Ka st).size:=by rw[H.size];exact hi
 have c:j<(Ka st).size:=by rw[H.size];exact o
 have mem:∀(k:Nat) (u:k<(Ka st).size),(Ka st)[k]∈a₀.toList:=λk u=>(Array.perm_iff_toList_perm.mp H.base.perm).mem_iff.mp (by simp);have v:kk f (Ka st) i=f (Ka st)[i].1:=by unfold kk;exact(J7 a).symm▸rfl
 have kj:kk f (Ka st) j=f (Ka st)[j].1:=by unfold kk;exact(J7 c).symm▸rfl
 rw[v,kj] at h d;rw[ltAt'_eq];refine KA (Q6 ?_);show UD _ _ _ _ (do let x <-elem' (Ka st) i;let y <-elem' (Ka st) j;lt' x y) Q st;refine(elem'_eq ..).symm▸?_;refine(elem'_eq ..).symm▸?_;refine(J7 a).symm▸?_;refine(J7 c).symm▸?_;refine KA (Lb (KA (Lb ?_)));rw[lt'_eq];refine KA (Q6 ?_);refine(H.base.kind).symm▸?_;refine(keyLt'_oneType ..).symm▸?_;exact KA (Vc (K4 (r _ _ _ _ (mem i a) (mem j c) d ⟨rfl,Lb h⟩)))
inductive HR(f:Value->Int)(a₀:Array OW)(st:Ly)(x:Nat)(c:AscSt)(st':Ly):Prop
 |mk (hs:st'=st) (hc:c=(none,x)) (u:Up f (Ka st) x)
inductive HP(f:Value->Int)(a₀:Array OW)(st:Ly)(x:Nat)(c:DescSt)(st':Ly):Prop
 |mk (hs:st'=st) (hc:c=(none,x,0)) (d:Down f (Ka st) x)
theorem uK{st a n Q}(J:rM prog w A s f a₀)(H:fC f a₀ st)(o:n<=a₀.size)(p:1<=a)(F:a<=n)(u:Up f (Ka st) a)(h:∀m,a<=m->m<=n->Up f (Ka st) m->(m<n->kk f (Ka st) m<kk f (Ka st) (m-1))->Q (none,m) st):UD (Jz prog w) A E s (ascLoop a n) Q st:=by
 have d {a₀ st n} (H:fC f a₀ st) (o:n<a₀.size) (p:1<=n) (u:Up f (Ka st) n) (h:¬kk f (Ka st) n<kk f (Ka st) (n-1)):Up f (Ka st) (n+1):=by
  intro i j r M;by_cases e:j<n
  ·exact u i j r e
  ·have G:j=n:=by exact bM 19 6 M e
   subst G;by_cases D:i=j-1
   ·subst D;exact lr 19 9 (H.ne (i:=j-1) (j:=j) (by exact bJ 19 7 o) o (by exact dy 19 8 p)) h
   ·have:=u i (j-1) (by exact bM 19 10 r D) (by exact dy 19 11 p);exact pQ 19 12 this h
 refine NB (I:=HR f a₀ st) (λx c C B g y=>?_) (λc C y=>?_) ⟨rfl,rfl,u⟩
 ·obtain⟨z,hc,v⟩:=y;subst z hc;exact KA (l6 J H (by exact bJ 6 23 g o) (by exact bZ 19 13 g o) (by exact bM 19 14 p B) (λk=>Lb (h x B (by exact bM 1 12 g) v λZ=>k)) λk=>Lb ⟨rfl,rfl,d H (by exact bJ 6 23 g o) (by exact bJ 3 4 p B) v k⟩)
 ·obtain⟨z,hc,v⟩:=y;subst z hc;have e:max a n=n:=by exact bM 19 15 F
  rw[e] at v ⊢;exact h n F (Jl _) v λq=>absurd q (Jw _)
inductive AR(f:Value->Int)(st:Ly)(k x:Nat)(c:Option Bool×Nat×Nat)(st':Ly):Prop
 |mk (hs:st'=st) (l r:Nat) (hc:c=(none,l,r)) (hlr:l<=r) (hrk:r<=k) (hd:r-l<=k-x) (hlo:∀i,i<l->kk f (Ka st) i<kk f (Ka st) k) (hhi:∀i,r<=i->i<k->kk f (Ka st) k<kk f (Ka st) i)
inductive HQ(f:Value->Int)(st:Ly)(k:Nat)(c:Option Bool×Nat×Nat)(st':Ly):Prop
 |mk (hs:st'=st) (l r:Nat) (hc:c=(none,l,r)) (hlk:l<=k) (hlo:∀i,i<l->kk f (Ka st) i<kk f (Ka st) k) (hhi:∀i,l<=i->i<k->kk f (Ka st) k<kk f (Ka st) i)
inductive FQ(f:Value->Int)(a₀:Array OW)(n:Nat)(c:Option Bool×PUnit)(st:Ly):Prop
 |mk (hc:c=(none,())) (H:fC f a₀ st) (u:Up f (Ka st) n)
structure DH(f:Value->Int)(a₀:Array OW)(st:Ly):Prop where
 perm:(Ka st).Perm a₀
 fail:Ta st=none
 pend:QH st=#[(0,a₀.size,0)]
 up:Up f (Ka st) a₀.size
inductive It(f:Value->Int)(a₀:Array OW)(x:Nat)(c:Option PUnit×Nat)(st:Ly):Prop
 |a (hx:x=0) (hc:c=(none,0)) (H:fC f a₀ st)
 |b (hx:1<=x) (hc:c=(none,a₀.size)) (D:DH f a₀ st)
theorem w7{st Q}(hL:rM prog w A s f a₀)(H:fC f a₀ st)(U:2<=a₀.size)(am:a₀.size<64)(h:∀o,DH f a₀ o->Q () o):UD (Jz prog w) A E s sortRuns' Q st:=by
 have aa {st n Q} (hL:rM prog w A s f a₀) (H:fC f a₀ st) (X:n<=a₀.size) (p:1<=n) (h:∀k o,fC f a₀ o->1<=k->k<=n->Up f (Ka o) k->Q (Jh k) o):UD (Jz prog w) A E s (countRun' 0 n) Q st:=by
  have al {m} (p:1<=m) (hm:m<=n) (d:Down f (Ka st) m):UD (Jz prog w) A E s (tail3 m n) Q st:=by
   have M {xs n} (X:n<=xs.size) (k:Nat):kk f (mirror xs 0 n ((n-0) / 2)) k=if k<n then kk f xs (n-1-k) else kk f xs k:=by
    have e:=getElem?_mirror_all (i:=0) X k;by_cases h:k<n
    ·rw[if_pos ⟨JN _,h⟩] at e;rw[if_pos h];exact qK (by refine(e).trans ?_;congr 1;exact bJ 19 5)
    ·rw[if_neg (λq=>h q.2)] at e;refine KH ?_ (if_neg h).symm;exact qK e
   have hz:m<=(Ka st).size:=by rw[H.size];exact bJ 3 4 hm X
   refine KA (wpS_reverse ?_);have H':fC f a₀ (setArr st (mirror (Ka st) 0 m ((m-0) / 2))):=H.set (mirror_perm _ _ _ _);refine KA (uK hL H' X p hm (λi j g R=>?_) λk ay az uk Z=>Lb (h k _ H' (by exact bJ 3 4 p ay) az uk));rw[M hz,M hz,if_pos (by exact bJ 9 10 g R),if_pos R];exact d _ _ (by exact bJ 19 16 g R) (by exact bJ 19 17 R)
  have ai {prog w A E s f a₀ st a Q} (hL:rM prog w A s f a₀) (H:fC f a₀ st) (X:n<=a₀.size) (p:1<=a) (ha:a<=n) (d:Down f (Ka st) a) (h:∀m,a<=m->m<=n->Down f (Ka st) m->Q (none,m,0) st):UD (Jz prog w) A E s (descLoop a n) Q st:=by
   have ab {st x} (dx:Down f (Ka st) x) (v:kk f (Ka st) x<kk f (Ka st) (x-1)):Down f (Ka st) (x+1):=λi j g R=>by
    by_cases e:j<x
    ·exact dx i j g e
    ·have ej:j=x:=by exact bM 19 6 R e
     subst ej;by_cases ei:i=j-1
     ·subst ei;exact v
     ·have:=dx i (j-1) (by exact bM 19 10 g ei) (by exact bM 3 1 g);exact pQ 19 20 v this
   refine NB (I:=HP f a₀ st) (λx c o hx af z=>?_) (λc o z=>?_) ⟨rfl,rfl,d⟩
   ·obtain⟨hs,hc,dx⟩:=z;subst hs hc;exact KA (l6 hL H (by exact bJ 6 23 af X) (by exact bZ 19 13 af X) (by exact bM 19 14 p hx) (λv=>gi (c:=true=true) rfl (fD (c:=0 > 0) (Jw 0) (Lb ⟨rfl,rfl,ab dx v⟩))) λv =>
     KA (l6 hL H (by exact bZ 19 13 af X) (by exact bJ 6 23 af X) (by exact bM 19 18 p hx) (λZ=>Lb (h x hx (by exact bM 1 12 af) dx)) λq=>absurd (by exact lr 19 9 (H.ne (i:=x-1) (j:=x) (by exact bZ 19 13 af X) (by exact bJ 6 23 af X) (by exact bM 19 18 p hx)) v) q))
   ·obtain⟨hs,hc,dx⟩:=z;subst hs hc;have e:max a n=n:=by exact bM 19 15 ha
    rw[e] at dx ⊢;exact h n ha (Jl _) dx
  have aj (h:kk f (Ka st) 1<kk f (Ka st) (1-1)):Down f (Ka st) 2:=λi j g R=>by
   have e1:i=0:=by exact bM 20 6 R g
   have e2:j=1:=by exact bM 20 7 R g
   subst e1 e2;exact h
  refine jE (countRun0_eq ..) (KA (uK hL H X (Jl 1) p (λi j g R=>by exact DL 19 21 R g) λm av ak um aB=>?_));by_cases e:m=n
  ·exact gi (c:=(m == n)=true) (by simpa using e) (Lb (h m st H av ak um))
  ·refine fD (c:=(m == n)=true) (by simpa using e) ?_;by_cases ac:m > 1
   ·exact gi (c:=m > 1) ac (KA (l6 hL H (by exact bM 19 22 p X) (by exact bJ 19 23 ac ak X) (by exact bM 20 0 ac) (λZ=>Lb (h m st H av ak um)) λq=>absurd (um 0 (m-1) (by exact bM 20 1 ac) (by exact dy 20 2 ac)) q))
   ·have em:m=1:=by exact bM 20 3 av ac
    subst em;refine fD (c:=1 > 1) ac (KA (Vc (LU ⟨rfl,?_⟩)));refine KA (ai hL H X (by exact dy 20 4) (by exact dy 20 5 p e) (aj (aB (by exact bM 20 8 p e))) λk ay az dk=>?_);exact fD (by exact dy 19 19) (al (by exact bM 20 9 ay) az dk)
 have ao {st n m Q} (hL:rM prog w A s f a₀) (H:fC f a₀ st) (X:n<=a₀.size) (hm:m<=n) (u:Up f (Ka st) m) (h:∀o,fC f a₀ o->Up f (Ka o) n->Q true o):UD (Jz prog w) A E s (binarySort' 0 n m) Q st:=by
  have ah {st:Ly} {k x l r:Nat} {Q:ForInStep (Option Bool×Nat×Nat)->Ly->Prop} (hL:rM prog w A s f a₀) (H:fC f a₀ st) (ae:k<a₀.size) (u:Up f (Ka st) k) (B:¬l ≥ r) (C:r<=k) (hd:r-l<=k-x) (T:∀i,i<l->kk f (Ka st) i<kk f (Ka st) k) (S:∀i,r<=i->i<k->kk f (Ka st) k<kk f (Ka st) i) {F:Option Bool->StateT Ly Q7 (ForInStep (Option Bool×Nat×Nat))} (p:F (Jh true)=pure (.yield (none,l,(l+r) / 2))) (U:F (Jh false)=pure (.yield (none,(l+r) / 2+1,r))) (h:∀c,AR f st k (x+1) c st->Q (.yield c) st):UD (Jz prog w) A E s (ltAt' (0+k) (0+(l+r) / 2) >>= F) Q st:=by
   refine(Kf ..).symm▸?_;refine(Kf ..).symm▸?_;have ax {n0 n1 n2} (h0:(n0<=n1)) (p:(¬(n2 ≥ n0))):(n1≠((n2+n0) / (2:Nat))):=bZ 20 11 (qS _) (qR _) h0 p;have aw {n0 n1 n2 n3} (h0:(n0<n1)) (p:(n2<=n0)) (U:(¬(n3 ≥ n2))):(((n3+n2) / (2:Nat))<n1):=d7 20 10 (qS _) (qR _) h0 p U;refine KA (l6 hL H ae (by exact aw ae C B) (by exact ax C B) (λv=>jE p (Lb (h _ ?_))) λv=>jE U (Lb (h _ ?_)))
   ·have as:AR f st k (x+1) (none,l,(l+r) / 2) st :=
     have aC {n0 n1} (h0:(¬(n0 ≥ n1))):(n0<=((n0+n1) / (2:Nat))):=bJ 20 12 (qS _) (qR _) h0;have aD {n0 n1 n2} (h0:(n0<=n1)) (p:(¬(n2 ≥ n0))):(((n2+n0) / (2:Nat))<=n1):=bZ 20 13 (qS _) (qR _) h0 p;have aE {n0 n1 n2 n3} (h0:((n0-n1)<=(n2-n3))):((((n1+n0) / (2:Nat))-n1)<=(n2-(n3+(1:Nat)))):=d7 20 14 (qS _) (qR _) h0
     ⟨rfl,l,_,rfl,by exact aC B,by exact aD C B,by exact aE hd,T,λi p U=>by
      by_cases e:i=(l+r) / 2
      ·subst e;exact v
      ·have:=u ((l+r) / 2) i (by exact bM 20 15 p e) U;exact pQ 19 20 v this⟩
    exact as
   ·have ar (aI:kk f (Ka st) k≠kk f (Ka st) ((l+r) / 2)):AR f st k (x+1) (none,(l+r) / 2+1,r) st :=
     have aF {n0 n1} (h0:(¬(n0 ≥ n1))):((((n0+n1) / (2:Nat))+(1:Nat))<=n1):=bJ 20 16 (qS _) (qR _) h0;have aG {n0 n1 n2 n3 n4} (h0:((n0-n1)<=(n2-n3))):((n0-(((n1+n0) / (2:Nat))+n4))<=(n2-(n3+n4))):=ip 20 17 (qS _) (qR _) h0
     ⟨rfl,_,r,rfl,by exact aF B,C,by exact aG hd,λi p=>by
      by_cases e:i=(l+r) / 2
      ·subst e;exact lr 20 18 aI v
      ·have aH {n0 n1 n2} (h0:(n0<=n1)) (p:(¬(n2 ≥ n0))):(((n2+n0) / (2:Nat))<n1):=bZ 20 19 (qS _) (qR _) h0 p;have:=u i ((l+r) / 2) (by exact bM 0 2 p e) (by exact aH C B);exact pQ 19 12 this v,S⟩
    exact ar (H.ne (i:=k) (j:=(l+r) / 2) ae (by exact aw ae C B) (by exact ax C B))
  refine jE (binarySort'_eq ..) ?_;refine KA (S0 (NB (I:=λk=>FQ f a₀ (min k n)) (Q:=FQ f a₀ n) (λk c o hk aA z=>?_) (λc o z=>?_) ?_) λc o z=>?_)
  ·obtain⟨hc,H',u'⟩:=z;subst hc;replace u':=(Qq (Ku aA))▸u';have ae:k<a₀.size:=by exact bJ 6 23 aA X
   refine KA (S0 (NB (I:=AR f o k) (Q:=HQ f o k) (λx c y Z aK z=>?_) (λc y z=>?_) ⟨rfl,0,k,rfl,JN _,Jl _,Jl _,λi hi=>absurd hi (Jy _),λi p U=>absurd U (Nat.not_lt.mpr p)⟩) λc y z=>?_)
   ·obtain⟨hs,l,r,hc,B,C,hd,T,S⟩:=z;subst hs hc;by_cases au:l ≥ r
    ·exact gi (c:=l ≥ r) au (Lb ⟨rfl,l,r,rfl,Jn B C,T,λi p U=>S i (Jn au p) U⟩)
    ·exact fD (c:=l ≥ r) au (ah hL H' ae u' au C hd T S rfl rfl λc hc=>hc)
   ·obtain⟨hs,l,r,hc,B,C,hd,T,S⟩:=z;exact⟨hs,l,r,hc,Jn B C,T,λi p U=>S i (by exact d7 20 20 hd p) U⟩
   ·obtain⟨hs,l,r,hc,an,T,S⟩:=z;subst hs hc;refine KA (jE (moveDown'_eq ..) (TQ (Lb ⟨rfl,H'.set (bubble_perm _ _ _),?_⟩)));refine(show min (k+1) n=k+1 by exact bM 20 21 aA).symm▸?_;refine(Kf ..).symm▸?_;refine(Kf ..).symm▸?_;have aq {xs} (hz:k<xs.size) (an:l<=k) (u:Up f xs k) (T:∀i,i<l->kk f xs i<kk f xs k) (S:∀i,l<=i->i<k->kk f xs k<kk f xs i):Up f (bubble xs k (k-l)) (k+1):=by
     have J (hk:k<xs.size) (hl:l<=k) (i:Nat):kk f (bubble xs k (k-l)) i=if i=l then kk f xs k else if l<i/\i<=k then kk f xs (i-1) else kk f xs i:=by
      have e:=getElem?_bubble hk (k-l) (by exact bM 17 15) i;have e:=(show k-(k-l)=l from by exact bM 8 0 hl)▸e;by_cases p:i=l
      ·rw[if_pos p] at e ⊢;exact qK e
      ·rw[if_neg p] at e ⊢;by_cases U:l<i/\i<=k
       ·rw[if_pos U] at e ⊢;exact qK e
       ·rw[if_neg U] at e ⊢;exact qK e
     intro i j g R;rw[J hz an,J hz an];by_cases i1:i=l
     ·rw[if_pos i1,if_neg (by exact bJ 20 22 g i1),if_pos (by exact bZ 20 23 R g i1)];exact S _ (by exact bJ 21 0 g i1) (by exact bJ 21 1 R g)
     rw[if_neg i1];by_cases i2:l<i/\i<=k
     ·rw[if_pos i2,if_neg (by exact bJ 21 2 i2.1 g),if_pos (by exact bZ 21 3 R g i2.1)];exact u _ _ (by exact bJ 21 4 i2.1 g) (by exact bJ 21 1 R g)
     rw[if_neg i2];by_cases j1:j=l
     ·rw[if_pos j1];exact T i (by exact bJ 1 2 g j1)
     rw[if_neg j1];by_cases j2:l<j/\j<=k
     ·rw[if_pos j2];by_cases e3:i<j-1
      ·exact u _ _ e3 (by exact bJ 21 1 R g)
      ·exact AU 21 5 g R i1 i2 j2.1 e3
     ·rw[if_neg j2];exact u _ _ g (by exact bJ 21 6 R an j2 j1)
    exact aq (by refine(H'.size).symm▸?_;exact ae) an u' T S
  ·obtain⟨hc,H',u'⟩:=z;rw[show min (max (max m 1) n) n=n by exact bM 21 7] at u';exact⟨hc,H',u'⟩
  ·refine⟨rfl,H,λi j g R=>?_⟩;by_cases e:m=0
   ·exact AU 21 8 R e g
   ·exact u i j g (by exact bZ 21 9 R g)
  ·obtain⟨hc,H',u'⟩:=z;subst hc;exact Lb (h o H' u')
 have G {st} (H:fC f a₀ st):(QH st).back?=none:=by refine(H.base.pend).symm▸?_;rfl
 have P {n} (am:n<64):Us n n 0=n:=by
  cases n with
  |zero=>rfl
  |succ m=>rw[minRun'_succ,if_pos am]
 have ag {st:Ly} {x n:Nat} (e:n=a₀.size) (H:fC f a₀ st) (u:Up f (Ka st) a₀.size):It f a₀ (x+1) (none,0+n) (setPending st ((QH st).push (0,n,0))):=by
  subst e;have ap:DH f a₀ (setPending st ((QH st).push (0,a₀.size,0))):=⟨H.base.perm,H.base.failed,by refine(H.base.pend).symm▸?_;rfl,u⟩
  exact .b (Qr ..) (by exact(Kf ..).symm▸rfl) (ap)
 refine jE sortRuns'_eq (KA (Q6 ?_));refine(H.size).symm▸?_;have en:min (a₀.size-0) (Us a₀.size a₀.size 0)=a₀.size:=by refine(P am).symm▸?_;exact Nat.min_self _
 refine KA (S0 (NB (I:=It f a₀) (Q:=λc o=>c=(none,a₀.size)/\DH f a₀ o) (λx c o Z hx z=>?_) (λc o z=>?_) (.a rfl rfl H)) λc o z=>?_)
 ·cases z with
  |a hx hc H' =>
   subst hc;refine fD (c:=0 ≥ a₀.size) (by exact dy 21 10 U) ?_;refine KA (aa hL H' (Jl _) (by exact dy 21 11 U) λm aL H2 av ak u2=>?_);by_cases v:m<a₀.size
   ·refine gi (c:=m<Us a₀.size a₀.size 0) (by refine(P am ..).symm▸?_;exact v) ?_;refine KA (Vc (LU ⟨rfl,?_⟩));refine KA (ao hL H2 (JX en) (by refine(en).symm▸?_;exact ak) u2 λaM H3 u3=>?_);rw[en] at u3;refine fD (λq=>Jq q) ?_;refine KA (Q6 ?_);refine(G H3).symm▸?_;exact KA (TQ (Lb (ag en H3 u3)))
   ·refine fD (c:=m<Us a₀.size a₀.size 0) (by refine(P am).symm▸?_;exact v) ?_;have em:m=a₀.size:=by exact bM 21 12 ak v
    refine KA (Q6 ?_);refine(G H2).symm▸?_;exact KA (TQ (Lb (ag em H2 (em▸u2))))
  |b aJ hc D =>
   subst hc;exact gi (c:=a₀.size ≥ a₀.size) (Jl _) (Lb ⟨rfl,D⟩)
 ·cases z with
  |a hx=>exact(dy 21 13 U hx).elim
  |b Z hc D=>exact⟨hc,D⟩
 ·obtain⟨hc,D⟩:=z;subst hc;refine KA (S0 (NB (I:=λZ c y=>c=(none,())/\DH f a₀ y) (Q:=λc y=>c=(none,())/\DH f a₀ y) (λx c y Z Y z=>?_) (λZ Y hh=>hh) ⟨rfl,D⟩) λc y z=>?_)
  ·obtain⟨hc,D⟩:=z;subst hc;exact KA (Q6 (gi (c:=(QH y).size<=1) (by rw[D.pend];exact Jl 1) (Lb ⟨rfl,D⟩)))
  ·obtain⟨hc,D⟩:=z;subst hc;exact Lb (h _ D)
end
section
open PySem PySem.W PySem.Calls PyProof.Rows Builtin
noncomputable def mS(C:Addr)(o:Obj)(x:Int×Int×Int):Prop:=∃d a t2 c,o={cls:=.ref C,dict:=d,data:=.seq #[.int x.1 a,.int x.2.1 t2,.int x.2.2 c]}
section
variable {prog:Program}{w:LK}{A:Around}{E:Value->Js->Prop}{s:Js}{nm:Str}{q:Str}{C:Addr}{N:Addr}{x:Addr}{y:Addr}{G:Option Value}{D:Option Value}{B:Option Value}{z:Option Value}{c:Option Value}{F:Str->Option Value}
theorem CE{ox oy i j k i' j' k' P}(hu:A.units<cLine)(S:s.heap.get? C=Jh (cN nm q C N G D B z c))(hn:s.heap.Ns N F)(aa:F "__lt__"=none)(T:s.heap.get? x=Jh ox)(U:s.heap.get? y=Jh oy)(X:mS C ox (i,j,k))(my:mS C oy (i',j',k'))(R:i≠i')(h:P (decide (i<i')) s):JH (Jz prog w) A (oneLt' true (.ref x) (.ref y)) P E s:=by
 have p {prog w A E s nm q C N x y D B z c ox oy i j k i' j' k' P} (S:s.heap.get? C=Jh (cN nm q C N G D B z c)) (T:s.heap.get? x=Jh ox) (U:s.heap.get? y=Jh oy) (X:mS C ox (i,j,k)) (my:mS C oy (i',j',k')) (R:i≠i') (h:P (.bool (decide (i<i'))) s):JH (Jz prog w) A (call (.builtin "tuple.__lt__") [.ref x,.ref y]) P E s:=by
  have H {prog A E s a b t u Q} (h:Q (.bool (decide (a<b))) s):JH (Jz prog w) A (richCompare .Lt (.int a t) (.int b u)) Q E s:=U5 h;refine Jg λzz=>?_;obtain⟨d,t1,t2,t3,rfl⟩:=X;obtain⟨d',u1,u2,u3,rfl⟩:=my;obtain⟨hh,g,dr,t,os⟩:=s;refine zz ?_;dsimp only at S T U;have sub:([J3 C,.type "tuple",.type "object"].contains (.type "tuple"))=true:=by simp
  refine Lh (KZ PySem.F.slot_tuple_lt.plain PySem.F.entry_tuple_lt ?_);have o (a b:Value):Oc "tuple.__lt__" ⟨[a,b],[]⟩:=PySem.F.args_tuple_lt_2 a b;refine @check_slot (Jz prog w) _ _ ⟨hh,g,dr,t,os⟩ "tuple.__lt__" "tuple" "__lt__" (.ref x) [.ref y] [] _ (by decide +kernel) (by decide +kernel) (((Ma T).andThen .now).andThen (by have:=gR (M:=Jz prog w) S (.type "tuple");rw[sub] at this;exact this):Ko (Jz prog w) hh (MW (.ref x) (.type "tuple")) true) (o (.ref x) (.ref y)) ?_;show JH _ _ (MW (.ref y) (.type "tuple") >>= _) _ _ _;refine Jf ((((Ma U).andThen .now).andThen (by have:=gR (M:=Jz prog w) S (.type "tuple");rw[sub] at this;exact this):Ko (Jz prog w) hh (MW (.ref y) (.type "tuple")) true).at ?_);refine Jf (Jf (Kr T rfl (Jk ?_)));refine Jf (Jf (Kr U rfl (Jk ?_)));show JH _ _ (forIn [((.int i t1:Value),(.int i' u1:Value)),(.int j t2,.int j' u2),(.int k t3,.int k' u3)] _ _ >>= _) _ _ _;refine Jf ?_;rw[Om];refine Jf ?_;refine Jf (wpAny_eqBool_int ?_);have e:(i == i')=false:=beq_eq_false_iff_ne.mpr R;rw[e];refine Jf (LU (Jf (H ?_)));exact Jf (Jk (Jk (Jk (Jk h))))
 have l1:Ko (Jz prog w) s.heap (Li (.ref x) "__lt__") (Jh (.builtin "tuple.__lt__")):=by
  refine((Ma T).andThen (by refine((show ox.cls=.ref C from by obtain⟨d,t1,t2,t3,rfl⟩:=X;rfl))▸?_;exact .now)).andThen (a:=J3 C) ?_;have J:J9 (.type "tuple") "__lt__"=pure (Jh (.builtin "tuple.__lt__")):=PySem.F.slot_tuple_lt.lookup;have:=fH (M:=Jz prog w) S hn J;have this:=aa▸this;exact this
 rw[oneLt'_eq];refine Jf (wpAny_cRoomFor hu ?_);refine Jf (JB (Q:=λr s'=>r=Jh (.bool (decide (i<i')))/\s'=s) ?_ (λr s' hr=>?_) λZ Y f=>f)
 ·refine JD (Jf (Jf (l1.here ?_)));dsimp only;refine(show Td (.builtin "tuple.__lt__") (.ref x)=pure (.builtin "tuple.__lt__",[.ref x]) from PySem.F.slot_tuple_lt.bind _).symm▸?_;have fin:JH (Jz prog w) A (call (.builtin "tuple.__lt__") ([J3 x]++[.ref y]) >>= λv=>pure (Jh v)) (λr s'=>r=Jh (.bool (decide (i<i')))/\s'=s) E s :=
   Jf (p S T U X my R (Jk ⟨rfl,rfl⟩))
  refine Jf (nd_ask (Jk ?_))
  split
  ·exact Jf (Jk (Jk fin))
  ·exact Jk fin
 ·obtain⟨rfl,rfl⟩:=hr;exact NZ h
theorem Aa{M h}{vs:List Value}(d:∀v∈vs,Ko M h (Mv v) (.ref C))(q:2<=vs.length):Ko M h (keyKind' vs.toArray) oneType':=by
 have r:∀l:List Value,(∀v∈l,Ko M h (Mv v) (.ref C))->Ko M h (l.mapM VI) (l.map λZ=>none):=by
  intro l
  induction l with
  |nil=>intro _;rw[Uc];exact .now
  |cons a l j =>
   intro f;rw[TJ];have:Ko M h (VI a) none:=(f a (JJ ..)).andThen .now;exact this.andThen ((j λv d=>f v (JR _ d)).andThen .now)
 have u:∀l:List Value,(∀v∈l,Ko M h (Mv v) (.ref C))->Ko M h (l.mapM Mv) (l.map λZ=>.ref C):=by
  intro l
  induction l with
  |nil=>intro _;rw[Uc];exact .now
  |cons a l j =>
   intro f;rw[TJ];exact(f a (JJ ..)).andThen ((j λv d=>f v (JR _ d)).andThen .now)
 obtain⟨v1,c,rest,rfl⟩:∃v1 c rest,vs=v1::c::rest:=by
  match vs,q with
  |v1::c::rest,Z=>exact⟨v1,c,rest,rfl⟩
 rw[keyKind'_eq,Sv];refine OS (a:=((v1::c::rest).map λZ=>(none:Option Value)).toArray) ?_ ?_
 ·intro g p i s' k o;exact wpAny_map ((r _ d) g _ i s' k o)
 ·rw[if_neg (by simp),if_neg (by simp)];rw[oneTypeOnly'_eq,Sv];refine OS (a:=Jh (J3 C)) ?_ ?_
  ·refine OS (a:=((v1::c::rest).map λZ=>J3 C).toArray) ?_ ?_
   ·intro g p i s' k o;exact wpAny_map ((u _ d) g _ i s' k o)
   ·have e:(((v1::c::rest).map λZ=>J3 C).toArray.all λx=>x == J3 C)=true:=by
     simp only[List.all_toArray,Uz,PR];intro _ _;simp
    refine((show(((v1::c::rest).map λZ=>J3 C).toArray)[0]?=Jh (J3 C) from by simp)).symm▸?_;simp only[e,if_true];exact .now
  ·exact .now
theorem oR{c d:Type}{f}:∀ {g h:List d},g.Perm h->∀l:List c,h=l.map f->∃l':List c,l'.Perm l/\g=l'.map f:=by
 intro g h w
 induction w with
 |nil=>intro l e;exact⟨l,.refl _,e⟩
 |cons x Z z =>
  intro l e;cases l with
  |nil=>cases e
  |cons a l =>
   replace e:=Ke▸e;obtain⟨rfl,k⟩:=KP e;obtain⟨l',p,i⟩:=z l k;exact⟨a::l',p.cons a,by rw[Ke,i]⟩
 |swap x y Z =>
  intro l e;cases l with
  |nil=>cases e
  |cons a l =>
   cases l with
   |nil=>have e:=Ke▸e;cases (KP e).2
   |cons b l =>
    rw[Ke,Ke] at e;obtain⟨rfl,k⟩:=KP e;obtain⟨rfl,v⟩:=KP k;exact⟨b::a::l,.swap ..,by rw[Ke,Ke,v]⟩
 |trans Z Y o q =>
  intro l e;refine Jg λB=>?_;obtain⟨l',A,i⟩:=q l e;obtain⟨r,u,j⟩:=o l' i;refine B ?_;exact⟨r,u.trans A,j⟩
noncomputable def dq(h:Heap)(a:Addr)(vs:List Value):Heap:=((h.update a (Kq λZ=>#[])).push (Rj "tuple" vs.toArray 0)).push (Rj "list" #[] 0)
theorem eh{h a b vs o}(d:h.get? b=Jh o)(c:b≠a):(dq h a vs).get? b=Jh o :=
 Jm _ (Jm _ ((KL _ _ (Mj c)).trans d))
variable {f:Value->Int}
theorem wV{a vs n P}(R:s.heap.get? a=Jh (Rj "list" vs.toArray n))(C:(vs.map f).Nodup)(k:vs.length<64)(hk:2<=vs.length->Ko (Jz prog w) (dq s.heap a vs) (keyKind' vs.toArray) oneType')(hL:rM prog w A {s with heap:=dq s.heap a vs} f (Qh vs))(h:∀out:List Value,out.Perm vs->(out.map f).Pairwise (· < ·)->P (.done (.ret .none)) {s with heap:=(dq s.heap a vs).update a (Kq λZ=>out.toArray)}):JH (Jz prog w) A (Builtin.«list.sort» ⟨[.ref a],[]⟩) P E s:=by
 have hz:sizeLine=2 ^ 40∨64<=sizeLine:=.inr (by decide);have x:64<=sizeLine:=by decide
 have ha:a<s.heap.objs.size:=JE R;have T:((Qh vs).toList.map λp=>f p.1)=vs.map f:=by
  rw[Rk];have:(vs.zip vs).map (λp=>f p.1)=((vs.zip vs).map Prod.fst).map f:=by refine KH ?_ (J6).symm;rfl
  refine(this).symm▸?_;exact(PM (Jl _)).symm▸rfl
 rw[list_sort_plain];refine Jf (listItems_at R rfl ?_);refine Jf (VH R rfl ?_ (hsz:=by rw[Ln];exact bJ 21 14 k x));obtain⟨y,G⟩:∃y,(s.heap.update a (Kq λZ=>#[])).get? a=Jh (Rj "list" #[] y):=⟨_,Q2 R (λZ=>#[])⟩
 refine Jf (seqEpoch_at G rfl ?_);refine Jf (Rc ?_ (by simp;exact bJ 21 14 k x));refine Jf (wpAny_newList ?_);refine JD ?_;have H:(dq s.heap a vs).get? a=Jh (Rj "list" #[] y):=Jm _ (Jm _ G);show JH (Jz prog w) A _ P E {s with heap:=dq s.heap a vs};have q:∀c:Ly,(Ka c).Perm (Qh vs)->Ta c=none->Up f (Ka c) (Qh vs).size->JH (Jz prog w) A (do
   let g:=(<-seqEpoch a) != y
   Nq (.ref a) λZ=>(Ka c).map (·.2)
   if let Jh e:=Ta c then rule "list.sort.comparison-raised";throw e
   if g then rule "list.sort.modified";raiseError "ValueError" "list modified during sort"
   ret .none) P E {s with heap:=dq s.heap a vs}:=by
  intro c U hf hu;have v:=Array.perm_iff_toList_perm.mp U;rw[Rk] at v;have o:∀p∈(Ka c).toList,p.1=p.2:=λp X=>(Sh (v.mem_iff.mp X)).1;have J:((Ka c).map (·.2))=((Ka c).toList.map (·.2)).toArray:=by refine(Array.toList_map)▸?_;exact(M9).symm▸rfl
  refine Jf (seqEpoch_at H rfl ?_);refine Jf (VH H rfl ?_ (hsz2:=by rw[(show((Ka c).map (·.2)).size=vs.length from by rw[Array.size_map,U.size_eq,Qg])];exact bZ 21 15 k x));refine(hf).symm▸?_;simp only[bne_self_eq_false,O5,if_false];refine(J).symm▸?_;refine Jk (h ((Ka c).toList.map (·.2)) ?_ ?_)
  ·have h1:=v.map (λp:OW=>p.2);have d:(vs.zip vs).map (λp=>p.2)=vs:=PL (Jl _);rw[d] at h1;exact h1
  ·rw[J6,Su,List.pairwise_iff_getElem];intro i j hi M u;have S:i<(Ka c).size:=by simpa using hi
   have F:j<(Ka c).size:=by simpa using M
   have:=hu i j u (by refine(U.size_eq)▸?_;exact F);unfold kk at this;rw[J7 S,J7 F] at this;have y:=o (Ka c)[i] (by simp);have e2:=o (Ka c)[j] (by simp);dsimp only at this;rw[y,e2] at this
   simpa using this
 by_cases d:vs.toArray.size<2
 ·rw[if_pos d,if_pos d];refine Jf (Jk ?_);dsimp only;rw[StateT.run_pure];refine Jf (Jk ?_);refine q (Uw general' (vs.toArray.zip vs.toArray) #[] 7 none) (Rz _) rfl λi j u M=>?_;rw[Qg] at M;have d:=Ln▸d;exact DJ 21 16 d M u
 ·rw[if_neg d];refine(if_neg d).symm▸?_;have B:2<=vs.length:=by rw[Ln] at d;exact bM 0 17 d
  refine Jf ((hk B).here ?_);refine Jf (JB (w7 (a₀:=Qh vs) (st:=Uw oneType' (vs.toArray.zip vs.toArray) #[] 7 none) (Q:=λZ c=>(Ka c).Perm (Qh vs)/\Ta c=none/\Up f (Ka c) (Qh vs).size) hL ⟨⟨Rz _,rfl,rfl,rfl⟩,by rw[T];exact C⟩ (by rw[Qg];exact B) (by rw[Qg];exact k) λc D=>⟨D.perm,D.fail,D.up⟩) (λr s' hr=>?_) λZ Y z=>z);obtain⟨⟨⟩,c⟩:=r;obtain⟨rfl,p1,p2,p3⟩:=hr;exact q c p1 p2 p3
end
section
variable {A:Around}{st:St}{Q:V->St->Prop}{C:Addr}{N:Addr}{p:Addr}{f:Addr}{mN:Str->Option Value}
noncomputable def mV(C:Addr)(m:Int×Int×Int):V:=.m C [.i m.1,.i m.2.1,.i m.2.2]
theorem BR{σ n s m w}(h:RV σ n s (mV C m) w):∃a,w=.ref a/\σ.z a/\∃o,s.heap.get? a=Jh o/\mS C o m:=by
 refine Jg λA=>?_;obtain⟨x,items,k,e,hz,v,B,y⟩:=h;obtain⟨D,_,f,⟨c,q⟩,E,_,g,⟨t2,r⟩,F,_,i,⟨d,u⟩,j⟩:=y;refine A ?_;subst j i g q r u;have p:items=#[.int m.1 c,.int m.2.1 t2,.int m.2.2 d]:=by refine(M9 (xs:=items))▸?_;exact(f).symm▸rfl
 subst p;exact⟨x,e,hz,_,v,_,c,t2,d,rfl⟩
mutual
theorem CN{σ n s ms}:∀ {ws:List Value},cf σ n s (ms.map (mV C)) ws->∃as:List (Addr×Int×Int×Int),ws=as.map (λa=>.ref a.1)/\as.map (·.2)=ms/\∀a∈as,RV σ n s (mV C a.2) (.ref a.1):=by
 induction ms with
 |nil=>intro ws h;cases h;exact⟨[],rfl,rfl,λa q=>absurd q JK⟩
 |cons m ms k =>
  intro ws ⟨w,o,e,c,i⟩;obtain⟨as,d,f,j⟩:=k i;obtain⟨a,g,_⟩:=BR c;subst e d f g;exact⟨(a,m)::as,rfl,rfl,λb q=>(Ub.mp q).elim (λe=>by subst e;exact c) (j b)⟩
theorem CM{σ n s}{as:List (Addr×Int×Int×Int)}(h:∀a∈as,RV σ n s (mV C a.2) (.ref a.1)):cf σ n s ((as.map (·.2)).map (mV C)) (as.map λa=>.ref a.1):=by
 induction as with
 |nil=>exact rfl
 |cons a as c=>exact⟨_,_,rfl,h a (JJ ..),c λb q=>h b (JR _ q)⟩
end
theorem vW(T:bK)(c:TupAt C N p f mN)(ap:mN "__lt__"=none){l ns}(hu:A.in1.units<cLine)(hl:st[l]?=Jh (.list (ns.map (mV C))))(F:(ns.map (·.1)).Nodup)(H:ns.length<64)(h:∀R:List (Int×Int×Int),R.Perm ns->(R.map (·.1)).Pairwise (· < ·)->Q .n (st.set l (.list (R.map (mV C))))):MethW A "list.sort" (.r l) [] st Q:=by
 intro σ s u vs ar as i r;cases ar;obtain⟨x,rfl,hx⟩:=eI as;obtain⟨G,rfl⟩:=hx;obtain⟨ws,n,hn,hsz,au⟩:=r.at_ l _ hl;obtain⟨ms,j,D,X⟩:=CN au;subst D;rw[J6] at F;rw[Jt] at H;have hm:∀m∈ms,σ.z m.1/\∃o,s.heap.get? m.1=Jh o/\mS C o m.2:=λm q=>by
  obtain⟨a,e,hz,o,h1,S⟩:=BR (X m q);cases e;exact⟨hz,o,h1,S⟩
 have ai:∃f:Value->Int,∀m∈ms,f (.ref m.1)=m.2.1:=by
  refine⟨λv=>((ms.find? λm=>v == .ref m.1).map λm=>m.2.1).getD 0,λm g=>?_⟩;obtain⟨m',hf⟩:∃m',ms.find? (λk=>J3 m.1 == .ref k.1)=Jh m':=by
   cases e:ms.find? (λk=>J3 m.1 == .ref k.1) with
   |some m'=>exact⟨m',rfl⟩
   |none=>exact absurd (List.find?_eq_none.mp e m g) (by simp)
  have h1:=List.mem_of_find?_eq_some hf;have S:J3 m.1=.ref m'.1:=by have:=List.find?_some hf;simpa using this
  have h3:m.1=m'.1:=Mq S;obtain⟨_,o,o1,o2⟩:=hm m g;obtain⟨_,o',o3,o4⟩:=hm m' h1;rw[<-h3,o1] at o3;cases o3;obtain⟨d,t1,t2,t3,e1⟩:=o2;obtain⟨d',u1,u2,u3,D⟩:=o4;rw[e1] at D;have e3:m.2.1=m'.2.1:=by
   injection D with _ _ D
   injection D with D
   have:=congrArg (λa:Array Value=>a[0]?) D;simp at this;exact this.1
  show((ms.find? λk=>J3 m.1 == .ref k.1).map λk=>k.2.1).getD 0=m.2.1;rw[hf,e3];rfl
 obtain⟨fn,E⟩:=ai;have ak:(ws.toList.map fn)=ms.map λm=>m.2.1:=by
  rw[j,J6];exact K3 λm g=>E m g
 have ab:ws.toList.length=ms.length:=by rw[j,Jt]
 have aq:∀m∈ms,m.1≠σ.a l:=λm g e=>r.zoff m.1 (hm m g).1 l G e.symm;obtain⟨nm,q,k0,k1,k2,k3,k5,dd,fr,hC,ag,_⟩:=c.now i;have an:C≠σ.a l:=λe=>by
  rw[e,hn] at hC;exact JT (congrArg (λo:Option Obj=>(o.map Obj.cls)) hC |> JP) λe=>absurd e (by decide)
 have ao:N≠σ.a l:=λe=>by
  obtain⟨o,es,ep,e1,D,_⟩:=ag;rw[e,hn] at e1;cases e1;cases D
 have am:(dq s.heap (σ.a l) ws.toList).get? C=Jh (cN nm q C N k0 k1 k2 k3 k5):=eh hC an;have ah:(dq s.heap (σ.a l) ws.toList).Ns N mN:=ag.at λo ho=>eh ho ao;have M:∀m∈ms,∃o,(dq s.heap (σ.a l) ws.toList).get? m.1=Jh o/\mS C o m.2:=λm g=>by
  obtain⟨_,o,o1,o2⟩:=hm m g;exact⟨o,eh o1 (aq m g),o2⟩
 have P:s.heap.get? (σ.a l)=Jh (Rj "list" ws.toList.toArray n):=by rw[M9];exact hn
 refine Kb U4 ⟨_,P,rfl⟩ U6 (wV (f:=fn) P (by rw[ak];exact F) (by rw[ab];exact H) (λS=>Aa (C:=C) (λv hv=>?_) S) ?_ λout hp hs=>?_) (U7 _)
 ·rw[j,Ra] at hv;obtain⟨m,g,rfl⟩:=hv;obtain⟨o,o1,d,t1,t2,t3,rfl⟩:=M m g;exact(Ma o1).andThen .now
 ·intro E' p' q' Q' w aj B J;rw[Rk] at w aj;obtain⟨_,m1⟩:=Sh w;obtain⟨_,m2⟩:=Sh aj;rw[j,Ra] at m1 m2;obtain⟨ma,ac,ea⟩:=m1;obtain⟨mb,ae,eb⟩:=m2;rw[<-ea,<-eb] at B J ⊢;rw[E ma ac,E mb ae] at B J;obtain⟨oa,a1,a2⟩:=M ma ac;obtain⟨ob,b1,b2⟩:=M mb ae;exact CE hu am ah ap a1 b1 a2 b2 B J
 ·rw[j] at hp;obtain⟨y,w,rfl⟩:=oR hp ms rfl;have al:(y.map λm=>m.2.1).Pairwise (· < ·):=by
   rw[J6] at hs;have:(y.map (fn ∘ λm=>J3 m.1))=y.map λm=>m.2.1:=K3 λm g=>E m (w.mem_iff.mp g);rw[this] at hs;exact hs
  have af:(dq s.heap (σ.a l) ws.toList).get? (σ.a l)=Jh (Rj "list" #[] (if(#[]:Array Value).size == ws.toList.toArray.size then n else n+1)):=Jm _ (Jm _ (Q2 P (λZ=>#[])));have aa:=Q2 af (λZ=>(y.map λm=>J3 m.1).toArray);refine⟨_,rfl,_,_,jG (h':=(dq s.heap (σ.a l) ws.toList).update (σ.a l) (Kq λZ=>(y.map λm=>J3 m.1).toArray)) (k:=s.toks) (o:=.list ((y.map (·.2)).map (mV C))) T i r G (λb o B hb=>(KL _ _ (Mj B)).trans (eh hb B)) ?_ (Jl _) (λx=>⟨_,_,aa,?_,?_⟩) (λZ Y U q=>nomatch q),.n,rfl,h (y.map (·.2)) (w.map _) (by rw[J6];exact al)⟩
  ·rw[M4];unfold dq;rw[JA,JA,M4];exact Jn (JC _) (JC _)
  ·rw[Ln,Jt,w.length_eq];exact Jn (Ku H) (by decide)
  ·exact CM λa q=>RV.mono x r.apart _ _ (X a (w.mem_iff.mp q))
mutual
theorem uo:S9 (.type "map")=pure [.type "map",.type "object"]:=by rw[mroOf_type];kernel_rfl
theorem mZ:UK "map" "__init__" "object.__init__" :=
 .of (owner:="object") (n:="__init__") (by rw[J4,JM];kernel_rfl) (by decide +kernel) (by decide +kernel) (by decide +kernel)
  (by first | exact .inl (by decide +kernel) | exact .inr (by decide +kernel)) (by rw[KN];kernel_rfl)
theorem dB:UK "map" "__next__" "map.__next__" :=
 .of (owner:="map") (n:="__next__") (by rw[J4,JM];kernel_rfl) (by decide +kernel) (by decide +kernel) (by decide +kernel)
  (by first | exact .inl (by decide +kernel) | exact .inr (by decide +kernel)) (by rw[KN];kernel_rfl)
theorem g4:NO Rf "map.__next__"=Jh Builtin.«map.__next__»:=Nj (by kernel_rfl)
theorem iK(a:Value):Oc "map.__next__" ⟨[a],[]⟩:=by kernel_rfl
theorem su:J9 (.type "map") "__len__"=pure none:=by rw[J4,JM];kernel_rfl
theorem qF:J9 (.type "map") "__length_hint__"=pure none:=by rw[J4,JM];kernel_rfl
end
noncomputable def gZ(l:Addr):Obj:={cls:=.type "list_iterator",data:=.fields #[.ref l,.int 0 0]}
noncomputable def rV(a:Addr):Obj:={cls:=.type "tuple",data:=.seq #[.ref a]}
noncomputable def iT(T:Addr)(f:Value):Obj:={cls:=.type "map",data:=.fields #[.ref T,f]}
variable {prog:Program}{w:LK}{E:Value->Js->Prop}{s:Js}
noncomputable def Off(σ:Sg)(n:Nat)(b:Addr):Prop:=¬σ.z b/\∀h,h<n->σ.a h≠b
theorem bO.Ga{X σ σ' st st' s s'}(x:bO X σ st s σ' st' s'){b o}(a:s.heap.get? b=Jh o)(h:Off σ st.length b):Off σ' st'.length b:=⟨x.x.zoff (JE a) h.1,x.x.off (JE a) h.2⟩
structure AL(A:Around)(f c:V)(vs:List V)(g:V->V)(dep:St->Prop)(st:St):Prop where
 la:LstAt c vs dep
 hd:dep st
 hz:vs.length<=sizeLine
 hf:∀v∈vs,bI A f [v] st λy st'=>y=g v/\st'=st
structure DI(f c:V)(vs:List V)(g:V->V)(st:St)(σ₀:Sg)(s₀:Js)(LI S T M l:Addr)(fw:Value)(σ:Sg)(k:Nat)(s:Js):Prop where
 step:bO (λb=>b=LI∨b=S) σ₀ st s₀ σ st s
 oL:Off σ st.length LI
 oS:Off σ st.length S
 oT:Off σ st.length T
 oM:Off σ st.length M
 it:s.heap.IsListIter LI l k
 hT:s.heap.get? T=Jh (rV LI)
 hM:s.heap.get? M=Jh (iT T fw)
 hf:RV σ st.length s f fw
 hc:RV σ st.length s c (.ref l)
end
section
variable {A:Around}{f:V}{c:V}{vs:List V}{g:V->V}{B:St->Prop}{st:St}{σ₀:Sg}{σ:Sg}{s₀:Js}{s:Js}{LI:Addr}{S:Addr}{T:Addr}{M:Addr}{l:Addr}{z:Value}{k:Nat}
theorem DI.go{σ' s' k' X}(m:DI f c vs g st σ₀ s₀ LI S T M l z σ k s)(x:bO X σ st s σ' st s')(a:∀b,X b->b=LI∨b=S)(v:∃o,s.heap.get? S=Jh o)(r:T≠LI)(j:M≠LI)(u:T≠S)(p:M≠S)(w:s'.heap.IsListIter LI l k'):DI f c vs g st σ₀ s₀ LI S T M l z σ' k' s':=by
 refine Jg λy=>?_;obtain⟨B,h,_⟩:=m.it;obtain⟨A,d⟩:=v;refine y ?_;have i:Apart X σ st.length:=λb hz=>⟨λq=>(a b q).elim (λe=>m.oL.1 (e▸hz)) λe=>m.oS.1 (e▸hz),m.step.rel.zoff b hz⟩
 exact⟨m.step.trans (x.wk a),x.Ga h m.oL,x.Ga d m.oS,x.Ga m.hT m.oT,x.Ga m.hM m.oM,w,x.x.keep T _ m.hT (.inl λq=>JT q) m.oT.2 λq=>(a _ q).elim r u,
  x.x.keep M _ m.hM (.inl λq=>JT q) m.oM.2 λq=>(a _ q).elim j p,RV.mono x.x i _ _ m.hf,RV.mono x.x i _ _ m.hc⟩
noncomputable def tA(a:Array Value)(j:Nat):Obj:={cls:=.type "list",dict:=none,data:=.seq a j,slots:=#[]}
variable {R:Result->Js->Prop}
variable {F:cU}{lc:Lc}{Q:V->St->Prop}
structure FJ(LI l:Addr)(fw:Value)(h H:Heap):Prop where
 size:H.objs.size=LI+3
 g1:H.get? LI=Jh (gZ l)
 g2:H.get? (LI+1)=Jh (rV LI)
 g3:H.get? (LI+2)=Jh (iT (LI+1) fw)
 keep:∀b o,h.get? b=Jh o->H.get? b=Jh o
inductive Dv(A:Around)(f c:V)(st:St)(P:List V->Prop):Prop
 |mk (vs:List V) (g:V->V) (dep:St->Prop) (I:AL A f c vs g dep st) (q:P (vs.map g))
inductive Fy(P:V->V->Prop):List V->Prop
 |mk (a b:V) (h:P a b):Fy P [a,b]
theorem rh{ln mn fe le p0 p1 p2 p3}(ai:bK)(hA:A.handled=none)(hl:∀Q':V->St->Prop,Q' (.g .list) st->cx A F (.Name ln p0) lc st Q')(hm:∀Q':V->St->Prop,Q' (.g .map) st->cx A F (.Name mn p1) lc st Q')(be:bX fe=true)(bf:bX le=true)(h:cx A F fe lc st λf J=>cx A F le lc J λc st₂=>Dv A.in1.in1.in1 f c st₂ λvs=>Q (.r st₂.length) (st₂++[.list vs])) :
  cx A F (.Call (.Name ln p0) [.Call (.Name mn p1) [fe,le] [] p2] [] p3) lc st Q:=by
 intro σ s p;refine Nh (bH (hl (λv J=>v=.g .list/\J=st) ⟨rfl,rfl⟩ σ s p) λw s₁ aN J v aJ hv e=>?_);obtain⟨rfl,rfl⟩:=e;subst hv;have aI:=p.step aJ;refine(cz p3 F.env (es:=[.Call (.Name mn p1) [fe,le] [] p2]) rfl).symm▸?_;refine Lp (any_false _ _) (OA (O0 ?_));refine Nh (bH (hm (λv st₂=>v=.g .map/\st₂=J) ⟨rfl,rfl⟩ aN s₁ aI) λbw bq bm st₂ bv an aM e=>?_);obtain⟨rfl,rfl⟩:=e;subst aM;refine(cz p2 F.env (es:=[fe,le]) (by simp [be,bf])).symm▸?_;refine Lp (any_false _ _) (dI (Q:=λus ak=>Fy (λf c=>Dv A.in1.in1.in1 f c ak λvs=>Q (.r ak.length) (ak++[.list vs])) us) (args_cons (h.mono λf J q=>args_cons (q.mono λc st₂ q=>args_nil ⟨f,c,q⟩))) (aI.step an) λws bs bn ak us aF bj q=>?_);obtain⟨f,c,q⟩:=q;obtain⟨z,cw,rfl,hf,hc⟩:=iL bj;have ae {A st Q} (T:bK) (hA:A.handled=none) {σ s c z cw prest} (i:Inv s) (r:Rel σ st s) (hf:RV σ st.length s f z) (hc:RV σ st.length s c cw) (k:Dv A.in1.in1.in1 f c st λvs=>Q (.r st.length) (st++[.list vs])) (hP:∀m s₁,JH (Jz W.prog W.w) A (call (.type "list") [m]) (PV σ st s Q) (λZ U=>False) s₁->prest m s₁):JH (Jz W.prog W.w) A (call (.type "map") [z,cw]) prest (λZ U=>False) s:=by
  obtain⟨vs,g,B,I,q⟩:=k;obtain⟨l,ws,j,rfl,ho,aG⟩:=I.la σ st s cw hc I.hd r;have aj {prog w E s M T Q} (hM:s.heap.get? M=Jh (iT T z)) (h:∀h2 j,h2.get? s.heap.objs.size=Jh (tA #[] j)->(∀b o,s.heap.get? b=Jh o->h2.get? b=Jh o)->s.heap.objs.size<=h2.objs.size->NC (Jz prog w) A.in1 (.builtin "list.extend.loop" ⟨[.ref s.heap.objs.size,.ref M,.none],[]⟩) (S6 (λr s'=>r=.none/\Q (.ref s.heap.objs.size) s') E) {s with heap:=h2}):JH (Jz prog w) A (call (.type "list") [.ref M]) Q E s:=by
   have as {A s P} (hM:s.heap.get? M=Jh (iT T z)) (h:P (.ref M) s):JH (Jz prog w) A (MV (.ref M)) P E s:=by
    have hT:s.TypeIs (.ref M) "map":=⟨_,hM,rfl⟩
    have ac (a:Value):Oc "map.__iter__" ⟨[a],[]⟩:=by kernel_rfl
    have X:NO Rf "map.__iter__"=Jh Builtin.«dict_keyiterator.__iter__» :=
     Rn (id':="dict_keyiterator.__iter__") (by kernel_rfl) (by first | rfl | decide +kernel | (unfold String.splitOn;simp +decide [String.splitOnAux])) (by decide +kernel) (by kernel_rfl)
    have D:UK "map" "__iter__" "map.__iter__" :=
     .of (owner:="map") (n:="__iter__") (by rw[J4,JM];kernel_rfl) (by decide +kernel) (by decide +kernel) (by decide +kernel)
      (by first | exact .inl (by decide +kernel) | exact .inr (by decide +kernel)) (by rw[KN];kernel_rfl)
    exact Qc hT D (Kb D hT X (Jk ⟨_,rfl,"map",_,hT,dB.lookup,h⟩) (ac _))
   refine Vn (Q₁:=λobj s₁=>obj=.ref s.heap.objs.size/\s₁={s with heap:=s.heap.push {cls:=.type "list",data:=.seq #[]}}) Q8 (Qz _) QD
    (VK _ ⟨rfl,rfl⟩) λobj s₁ aR=>?_
   obtain⟨rfl,rfl⟩:=aR;have hS:(s.heap.push {cls:=.type "list",data:=.seq #[]}).get? s.heap.objs.size=Jh {cls:=.type "list",data:=.seq #[]}:=Ju _ rfl;refine⟨⟨_,hS,rfl⟩,Qo _ _,?_⟩;refine Jf (m:=PU (.ref s.heap.objs.size)) (Jf (Kr hS rfl (Jk ?_)));refine Jf (m:=updateSeq s.heap.objs.size (λZ=>#[])) (Lx hS rfl ?_);refine Jf (N2 ?_);have ao:=J0 (Kq (λZ=>(#[]:Array Value))) hS rfl;have ne:∀ {b o},s.heap.get? b=Jh o->b≠s.heap.objs.size:=λq=>J1 (JE q);have k1:∀b o,s.heap.get? b=Jh o->((s.heap.push {cls:=.type "list",data:=.seq #[]}).update s.heap.objs.size (Kq (λZ=>(#[]:Array Value)))).get? b=Jh o:=λb o q=>(KL _ _ (ne q).symm).trans (Jm _ q);have z1:s.heap.objs.size<=((s.heap.push {cls:=.type "list",data:=.seq #[]}).update s.heap.objs.size (Kq (λZ=>(#[]:Array Value)))).objs.size:=by rw[M4,JA];exact JC _
   generalize (s.heap.push {cls:=.type "list",data:=.seq #[]}).update s.heap.objs.size (Kq (λZ=>(#[]:Array Value)))=h1 at ao k1 z1 ⊢;have aL:(⟨h1,s.gens,s.drawn,s.toks,s.os⟩:Js).TypeIs (.ref M) "map":=⟨_,k1 _ _ hM,rfl⟩
   refine Jf (Qb aL ?_);refine wpAny_ite_false (by refine((show Mg (.ref s.heap.objs.size) (.ref M)=false from by simp [Mg,((ne hM).symm:¬s.heap.objs.size=M)])).symm▸?_;rfl) ?_;refine Jf (as (A:=A.in1.in1) (k1 _ _ hM) (Jf (JD ?_)));refine Jf (LP aL su ?_);refine Jf (m:=Li (J3 M) (Jj "__length_hint__")) (LP aL qF (Jk ?_));refine Vd (by rfl) ?_;refine Jf (LU ?_);refine Jf (m:=PT (.ref s.heap.objs.size)) (Jf (m:=updateSeq s.heap.objs.size (·.push .none)) (Lx ao rfl ?_));have aA:=J0 (Kq (·.push L3)) ao rfl;refine Lx (hz:=by seq_fits) aA rfl ?_;refine Jk ⟨Nn Kz _,h _ _ (J0 (Kq (·.pop)) aA rfl) (λb o q=>?_) ?_⟩
   ·exact(KL _ _ (ne q).symm).trans ((KL _ _ (ne q).symm).trans (k1 b o q))
   ·rw[M4,M4];exact z1
  have aD {prog w E ws Q} (bb:s.heap.IsList l ws) (h:∀H,FJ s.heap.objs.size l z s.heap H->Q (.ref (s.heap.objs.size+2)) {s with heap:=H}):JH (Jz prog w) A (call (.type "map") [z,.ref l]) Q E s:=by
   have af:NO Rf "map.__new__"=Jh Builtin.«map.__new__»:=Nj (by kernel_rfl);have ab (a b:Value):checkTypeCall "map" ⟨[a,b],[]⟩=pure ():=by kernel_rfl
   have ag (a b:Value):Ox "map.__new__" ⟨[.type "map",a,b],[]⟩=pure ():=by kernel_rfl
   have au (f:Value) (items:Array Value) :
     Meets (Builtin.«map.__new__» ⟨[.type "map",f,.ref l],[]⟩) (λZ R s=>s.heap.IsList l items/\R (.ok (.ret (.ref ((s.heap.push (gZ l)).push (rV s.heap.objs.size)).objs.size))) {s with heap:=((s.heap.push (gZ l)).push (rV s.heap.objs.size)).push (iT (s.heap.push (gZ l)).objs.size f)}) :=
    .of_wp λprog w A R s h=>by
     obtain⟨hp,g,d,tk,os⟩:=s;obtain⟨hl,h⟩:=h;dsimp only at hl;have aE:MZ (.type "map") (.type "map")=pure true:=by rw[KN];kernel_rfl
     have bp:=aE;have p1:∀(P:Value->Js->Prop),P (.ref hp.objs.size) ⟨hp.push (gZ l),g,d,tk,os⟩->JH (Jz prog w) A.in1 (MV (.ref l)) P (λe s'=>R (.error e) s') ⟨hp,g,d,tk,os⟩:=λP h=>N0 hl h
     wp_walk using p1
     exact⟨_,rfl,h⟩
   have aS (h:Heap):FJ h.objs.size l z h (((h.push (gZ l)).push (rV h.objs.size)).push (iT (h.objs.size+1) z)):=by
    have ah {h:Heap} {o n} (e:h.objs.size=n) (hf:o.isFreed=false):(h.push o).get? n=Jh o:=e▸Ju h hf;have e1:(h.push (gZ l)).objs.size=h.objs.size+1:=JA ..;have e2:((h.push (gZ l)).push (rV h.objs.size)).objs.size=h.objs.size+2:=(JA ..).trans (congrArg (· + 1) e1);exact⟨(JA ..).trans (congrArg (· + 1) e2),Jm _ (Jm _ (ah rfl rfl)),Jm _ (ah e1 rfl),ah e2 rfl,λb o q=>Jm _ (Jm _ (Jm _ q))⟩
   have e1:(s.heap.push (gZ l)).objs.size=s.heap.objs.size+1:=JA ..;have al:TypeCalled "map" "map.__new__" "object.__init__" :=
    have aa:J9 (.type "map") "__new__"=pure (Jh (.builtin "map.__new__")):=by rw[J4,JM];kernel_rfl
    ⟨by decide +kernel,by decide +kernel,⟨_,_,uo⟩,madeBy_type uo aa (by decide +kernel),by decide +kernel,by rw[KN];kernel_rfl,mZ⟩
   refine callType_new al (by decide) (ab _ _) (ag _ _) (λobj=>PZ obj _ _) af (au z ws) ⟨bb,?_⟩;refine(((JA ..).trans (congrArg (· + 1) e1):((s.heap.push (gZ l)).push (rV s.heap.objs.size)).objs.size=s.heap.objs.size+2)).symm▸?_;refine(e1).symm▸?_;have m:=aS s.heap;exact⟨⟨_,m.g3,rfl⟩,h _ m⟩
  refine aD (ws:=ws) ⟨_,ho,rfl,j,rfl⟩ λH m=>hP _ _ (aj m.g3 λh2 j hS k2 z2=>?_);have lt:∀ {b o},H.get? b=Jh o->b≠H.objs.size:=λe=>J1 (JE e);have kk:∀b o,s.heap.get? b=Jh o->h2.get? b=Jh o:=λb o e=>k2 b o (m.keep b o e);have zH:s.heap.objs.size<=H.objs.size:=m.size▸JG _ 3;have bl:bO (λb=>b=s.heap.objs.size∨b=H.objs.size) σ st s σ st {s with heap:=h2}:=c4 (k:=s.toks) i r kk (Jn zH z2) (Jl _);have am:Step σ st s σ st {s with heap:=h2}:=c4 (k:=s.toks) i r kk (Jn zH z2) (Jl _);have off:∀b,s.heap.objs.size<=b->Off σ st.length b:=λb hb=>⟨λC=>Jw _ (Jp (r.zlt b C) hb),λh q e=>Jw _ (Jp (r.lt q) (e▸hb))⟩
  have ay {A} {f c:V} {vs:List V} {g:V->V} {st:St} {σ₀:Sg} {s₀:Js} {LI S T M l:Addr} {z:Value} {R:Result->Js->Prop} (ai:bK) (hA:A.handled=none) (I:AL A.in1.in1 f c vs g B st) (TL:T≠LI) (ML:M≠LI) (SL:S≠LI) (TS:T≠S) (MS:M≠S) (ax:W.h₁.objs.size<=LI) (bg:W.h₁.objs.size<=S) (aT:Value) (hR:∀σ s' G j,bO (λb=>b=LI∨b=S) σ₀ st s₀ σ st s'->Off σ st.length S->s'.heap.get? S=Jh (tA G j)->G.size=vs.length->cf σ st.length s' (vs.map g) G.toList->R (.ok (.ret aT)) s') :
    ∀(n k:Nat),k+n=vs.length->∀σ s G j,DI f c vs g st σ₀ s₀ LI S T M l z σ k s->s.heap.get? S=Jh (tA G j)->cf σ st.length s ((vs.take k).map g) G.toList->NC (Jz W.prog W.w) A (.builtin "list.extend.loop" ⟨[.ref S,.ref M,aT],[]⟩) R s:=by
   have az {A f c vs g B st σ₀ σ s₀ s LI S T M l k} (hA:A.handled=none) (I:AL A.in1 f c vs g B st) (m:DI f c vs g st σ₀ s₀ LI S T M l z σ k s) (ax:W.h₁.objs.size<=LI) (TL:T≠LI) (ML:M≠LI) (ai:bK) {v} (hk:vs[k]?=Jh v) {P} (hP:∀x s' σ',bO (· =LI) σ st s σ' st s'->s'.heap.IsListIter LI l (k+1)->RV σ' st.length s' (g v) x->P (Jh x) s'):Wp A (LV (.ref M)) P s:=by
    refine Jg λzz=>?_;obtain⟨l',ws,j,e,ho,aG⟩:=I.la σ st s _ m.hc I.hd m.step.rel;refine zz ?_;cases e;obtain⟨x,hx,bk⟩:=aG.get hk;have aQ:ws[k]?=Jh x:=by refine(JZ)▸?_;exact hx
    have ba:l≠LI:=λe=>by
     obtain⟨oi,aq,hc,_⟩:=m.it;have aq:=(e).symm▸aq;have aq:=ho▸aq;cases aq;exact JT hc λe=>absurd e (by decide)
    have hM:=m.hM;refine Jf (K4 (Kc (name:=Jj "__next__") (T:="map") ⟨_,hM,rfl⟩ dB (Kb dB (T:="map") ⟨_,hM,rfl⟩ g4 ?_ (iK _))));show JH _ _ (QR (.ref M) 0 >>= _) _ _ s;refine Jf (K7 hM rfl (x:=.ref T) rfl ?_);refine Jf (Kr (m.hT) rfl ?_);refine Jf ?_;rw[List.forIn_toArray,Om];refine Jf (Jf (JD (gP ((UP (prog:=W.prog) (w:=W.w) (A:=A.in1) hA LI l ba ws).item k s _ _ (Array.getElem?_eq_some_iff.mp aQ).1 ⟨m.it,(⟨_,ho,rfl,j,rfl⟩:s.heap.IsList l ws)⟩ λy h' tk hy bh ar bi=>?_))));replace hy:=aQ▸hy;cases hy;refine Jk (Jk ?_);refine Jg λzz=>?_;obtain⟨bA,bo,_⟩:=id m.it;refine zz ?_;have sb:Kx LI s.heap h':=by first | exact ar | exact ar.sameBut | exact Heap.sameBut_of ar
    have am:bO (· =LI) σ st s σ st {s with heap:=h',toks:=tk}:=eV ai m.step.inv m.step.rel ax rfl m.oL.1 m.oL.2 sb bi;have ap:Apart (· =LI) σ st.length:=λb hz=>⟨λq=>m.oL.1 (q▸hz),m.step.rel.zoff b hz⟩
    refine Jf (K7 (s:={s with heap:=h',toks:=tk}) (sb.extBut M _ ML hM:h'.get? M=Jh (iT T z)) rfl (x:=z) rfl ?_);refine Jf (JD ?_);refine JB (I.hf v (Jr hk) σ {s with heap:=h',toks:=tk} z [x] (RV.mono am.x ap _ _ m.hf) ⟨x,[],rfl,RV.mono am.x ap _ _ bk,rfl⟩ am.inv am.rel) (λu s' av=>?_) λZ U e=>e.elim;obtain⟨σ',aU,an,y,hy,q⟩:=av;refine Jg λzz=>?_;obtain⟨rfl,rfl⟩:=q;refine zz ?_;refine Jf (N2 ?_);refine Jk ⟨_,rfl,Jk ?_⟩;refine Jg λzz=>?_;obtain⟨oi,aq,r1,r2⟩:=bh.1;refine zz ?_;exact hP u s' σ' (am.trans an.hO) ⟨oi,an.x.keep LI _ aq (bN r1) m.oL.2 (λe=>e),r1,r2⟩ hy
   have aC {A σ s} (hA:A.handled=none) (I:AL A.in1 f c vs g B st) (m:DI f c vs g st σ₀ s₀ LI S T M l z σ vs.length s) (ax:W.h₁.objs.size<=LI) (ai:bK) {P} (hP:∀s',bO (· =LI) σ st s σ st s'->P none s'):Wp A (LV (.ref M)) P s:=by
    have aB {prog w A E s LI k ws P} (hA:A.handled=none) (aZ:s.heap.IsListIter LI l k) (hl:s.heap.IsList l ws) (hk:ws[k]?=none) (hE:∀h' e,Nb LI s.heap h'->(∃o,h'.get? LI=Jh o/\o.cls=.type "list_iterator")->(∃o,h'.get? e=Jh o/\o.cls=.type "StopIteration")->E (.ref e) {s with heap:=h'}):JH (Jz prog w) A (Lm (.ref LI)) P E s:=by
     refine Jg λzz=>?_;obtain⟨o,ho,hc,hd⟩:=id aZ;obtain⟨ol,bd,bx,nl,aV⟩:=hl;refine zz ?_;have hT:s.TypeIs (.ref LI) "list_iterator":=⟨o,ho,hc⟩
     refine Jf (Kc (name:=Jj "__next__") hT TY (Kb TY hT entry_listiter_next ?_ (args_listiter_next _)));show JH _ _ (QR (.ref LI) 0 >>= _) _ _ s;refine Jf (K7 ho hd (x:=.ref l) rfl ?_);show JH _ _ (if false=true then _ else _) _ _ s;refine(if_neg K9).symm▸?_;refine Jf (K7 ho hd (x:=.int k 0) rfl ?_);refine Jf (Kr bd aV ?_);dsimp only[J8];rw[hk];refine Jf (LU (Jf (LJ ho hd (by simp) ?_)));refine Jf ?_;refine Jf (Kj ?_ (by size_fits));refine Jf (m:=Ls _ _) (MX (a:=L3) (by first | rfl | (simp only[Ls];rfl)) ?_);refine Kj ?_ (by size_fits);refine Jf (Oa ?_);refine(show A.in1.handled=none from hA).symm▸?_;refine Jf (Jk (O6 ?_));refine hE _ _ (((J2 ..).extBut.push _).push _) ⟨_,Jm _ (Jm _ (J0 _ ho (Oz (Nz hd _)))),(SN ..).trans hc⟩ ⟨_,Ju _ rfl,rfl⟩
    obtain⟨l',ws,j,e,ho,aG⟩:=I.la σ st s _ m.hc I.hd m.step.rel;cases e;have hz:ws[vs.length]?=none:=by
     refine(JZ)▸?_;rw[List.getElem?_eq_none_iff];refine(aG.len).symm▸?_;exact Jl _
    have hM:=m.hM;refine bS ?_;refine Jf (K4 (Kc (name:=Jj "__next__") (T:="map") ⟨_,hM,rfl⟩ dB (Kb dB (T:="map") ⟨_,hM,rfl⟩ g4 ?_ (iK _))));show JH _ _ (QR (.ref M) 0 >>= _) _ _ s;refine Jf (K7 hM rfl (x:=.ref T) rfl ?_);refine Jf (Kr (m.hT) rfl ?_);refine Jf ?_;refine Jf (Jf (JD (aB (A:=A.in1) hA m.it (⟨_,ho,rfl,j,rfl⟩:s.heap.IsList l ws) hz λh' e he bz av=>?_)));obtain⟨oe,aW,aX⟩:=av;refine Jf (L8 (s:={s with heap:=h'}) (T:="StopIteration") (b:=true) ⟨oe,aW,aX⟩ M5 ?_);rw[if_pos rfl];refine Jk λaY=>?_;exact hP _ (cW ai m.step.inv m.step.rel ax rfl m.oL (λb o bc hb=>he b o bc hb) aY (Jl _))
   intro n
   induction n with
   |zero =>
    intro k hk σ s G j m hS ha;have e:k=vs.length:=hk;subst e;have ha:=NR▸ha;refine Mh Mn ?_;rw[LH Kz _];refine Jf (JB (aC (A:=A.in1) (P:=λr s'=>r=none/\bO (· =LI) σ st s σ st s') hA I m ax ai λs' x=>⟨rfl,x⟩) (λr s' av=>?_) λZ U e=>e.elim);obtain⟨e,x⟩:=av;subst e;have ap:Apart (· =LI) σ st.length:=λb hz=>⟨λq=>m.oL.1 (q▸hz),m.step.rel.zoff b hz⟩
    refine Jk (hR σ s' G j (m.step.trans (x.wk λb hb=>.inl hb)) m.oS (x.x.keep S _ hS (bN rfl) m.oS.2 SL) ?_ (cf.mono x.x ap ha));refine(Jx)▸?_;rw[ha.len,Jt]
   |succ n ih =>
    intro k hk σ s G j m hS ha;have aw:k<vs.length:=by refine(hk)▸?_;exact LX (Pz n)
    have hv:=Jo aw;have hsz:G.size=k:=by refine(Jx)▸?_;refine KH (ha.len ..) ?_;refine KH (Jt ..) ?_;refine KH (JV ..) ?_;exact Qq (Ku aw)
    refine Mh Mn ?_;rw[LH Kz _];show JH _ A.in1 (LV (.ref M) >>= _) _ _ s;refine Jf (JB (az (A:=A.in1) (P:=λr s'=>∃x σ',r=Jh x/\bO (· =LI) σ st s σ' st s'/\s'.heap.IsListIter LI l (k+1)/\RV σ' st.length s' (g vs[k]) x) hA I m ax TL ML ai hv λx s' σ' a b d=>⟨x,σ',rfl,a,b,d⟩) (λr s' av=>?_) λZ U e=>e.elim);obtain⟨x,σ',e,y,it,hy⟩:=av;subst e;have aK:=y.x.keep S _ hS (bN rfl) m.oS.2 SL;have m':=m.go y (λb=>.inl) ⟨_,hS⟩ TL ML TS MS it;refine Jf ?_;have hz:=I.hz;refine Lx aK rfl (Jk ⟨Nn Kz _,?_⟩) (by refine(hsz).symm▸?_;exact Jn (Ku aw) hz) (by show(G.push x).size<=sizeLine+1;refine(MC ..).symm▸?_;refine(hsz).symm▸?_;exact KW (Jn (Ku aw) hz));have y2:bO (· =S) σ' st s' σ' st {s' with heap:=s'.heap.update S (Kq (·.push x))}:=eV ai y.inv y.rel bg rfl m'.oS.1 m'.oS.2 (J2 ..:Kx S s'.heap (s'.heap.update S (Kq (·.push x)))) (Jl _);refine ih (k+1) (by refine(hk)▸?_;rw[Le,Oi 1 n]) σ' _ (G.push x) _ (m'.go y2 (λb=>.inr) ⟨_,aK⟩ TL ML TS MS ?_) (J0 _ aK rfl) ?_
    ·obtain⟨o,ho,r⟩:=it;exact⟨o,(KL _ _ SL).trans ho,r⟩
    ·rw[Mc,Pm,hv,JF];exact cf.mono y2.x (λb hz=>⟨λq=>m'.oS.1 (q▸hz),y.rel.zoff b hz⟩:Apart (· =S) σ' st.length) (cf.app (us:=[g vs[k]]) ⟨x,[],rfl,hy,rfl⟩ (cf.mono y.x (λb hz=>⟨λq=>m.oL.1 (q▸hz),m.step.rel.zoff b hz⟩:Apart (· =LI) σ st.length) ha))
  refine ay (A:=A.in1) (σ₀:=σ) (s₀:=s) (LI:=s.heap.objs.size) (S:=H.objs.size) (T:=s.heap.objs.size+1) (M:=s.heap.objs.size+2) (l:=l) T hA I (M7 _) (Of (LX (by decide))) (lt m.g1).symm (lt m.g2) (lt m.g3) i.size (Jn i.size zH) .none (λσ' s' G c' x oS aH aP aO=>?_) vs.length 0 (Kf _) σ {s with heap:=h2} #[] j
   ⟨bl,off _ (Jl _),off _ zH,off _ (JG _ _),off _ (JG _ _),⟨gZ l,k2 _ _ m.g1,rfl,rfl⟩,k2 _ _ m.g2,k2 _ _ m.g3,hf.step r am,hc.step r am⟩ hS rfl
  refine⟨rfl,?_⟩;exact⟨_,_,(gp (b:=H.objs.size) (o:=.list (vs.map g)) (x.fresh (Y:=de) λb hb=>.inr (hb.elim (λe=>e▸Jl _) λe=>e▸zH)) zH (JE aH) (Jn i.size zH) oS (λk=>⟨G,c',aH,by refine(aP).symm▸?_;exact I.hz,k aO⟩) λZ U L q=>O.noConfusion q),.r st.length,⟨by rw[Ji];exact JL _,congrArg J3 (if_pos rfl).symm⟩,q⟩
 exact ae ai hA aF.inv aF.rel hf hc q λm bu h=>Pe (JB h (λw s' p=>p.casesOn λσ' aU y v hv q=>⟨σ',aU,(aJ.trans an).trans (aF.trans y),v,hv,q⟩) λZ U e=>e)
end
section
variable {A:Around}{st:St}{Q:V->St->Prop}{C:Addr}{N:Addr}{p:Addr}{f:Addr}{g:Str->Option Value}
theorem wb(c:TupAt C N p f g){pm fm dd rest}(M:g "_make"=Jh (.ref pm))(J:W.h₁.get? pm=Jh {cls:=.type "classmethod",dict:=dd,data:=.fields (.ref fm::rest).toArray})(h:Q (.o (R2 (.ref fm) (.ref C))) st):hF A (.v (.ref C)) "_make" st Q:=by
 have j:J9 (.type "type") "_make"=pure none:=by rw[J4,JM];kernel_rfl
 have d:J9 (.type "classmethod") "__get__"=pure (Jh (.builtin "classmethod.__get__")):=by rw[J4,JM];kernel_rfl
 intro σ s w hw i r;subst hw;obtain⟨nm,q,P,R,S,U,Y,E,fr,F,H,D,_⟩:=c.now i;have u:=i.old.get_of_cls J λq=>JT q;refine jv (T:="classmethod") (id:="classmethod.__get__") (o:={cls:=.type "classmethod",dict:=dd,data:=.fields (.ref fm::rest).toArray}) F H D M u rfl d (y:=none) (by rw[J4,JM];kernel_rfl) j (λa e=>by cases e) rfl (by decide) ?_;have G:UC ([(pm,{cls:=.type "classmethod",dict:=dd,data:=.fields (.ref fm::rest).toArray})]:Frag) s.heap:=by
  intro a' o' e;rw[JS] at e;cases B:a' == pm with
  |true=>replace e:=B▸e;cases e;rw[eq_of_beq B];exact u
  |false=>have e:=B▸e;cases e
 have x:recIn ([(pm,{cls:=.type "classmethod",dict:=dd,data:=.fields (.ref fm::rest).toArray})]:Frag) pm "classmethod"=Jh (.ref fm::rest):=by
  unfold recIn;rw[JS,beq_self_eq_true];dsimp only;exact(if_pos (by decide))
 refine Lh (cm_get (s:={s with toks:=s.toks+1}) G x (handed_on rfl ?_));exact⟨_,_,(d8 (X:=de) (b:=s.heap.objs.size) (h':=s.heap.push (R2 (.ref fm) (.ref C))) (k:=s.toks+1) i r (Jl _) (by rw[JA];exact JL _) (λc z hc=>Jm _ hc) (JC _)),.o (R2 (.ref fm) (.ref C)),⟨_,rfl,.inr rfl,Ju _ rfl,.inl λq=>JT q⟩,h⟩
theorem rC{fm c vs}(h:iN A fm (.v c::vs) st Q):bI A (.o (R2 (.ref fm) c)) vs st Q:=by
 rintro σ s w us ⟨b,e,hz,d,_⟩ f i r;subst e;refine Lh (MR ?_);refine nd_load d ?_;refine Jk (a:=VP (.call (.ref fm) ⟨c::us,[]⟩)) ⟨rfl,M6 (h σ s (c::us) ⟨_,_,rfl,rfl,f⟩ i r) λg s' z=>?_⟩;rcases g with e | (v | _ | _ | _) <;> first | exact z | exact z.elim
theorem CP(c:TupAt C N p f g)(D:g "__len__"=none){a b d}(h:Q (.i 3) st):bI A (.g .len) [.m C [a,b,d]] st Q:=by
 intro σ s w ws hw o k r;have hw:w=.builtin "len":=hw;subst hw;obtain⟨v,rfl,x,items,m,e,hz,y,R,H⟩:=eI o;subst e;obtain⟨nm,q,S,T,U,X,Y,B,fr,u,E,G,_⟩:=c.now k;have z:Ko (Jz W.prog W.w) s.heap (Mv (.ref x)) (.ref C):=(Ma y).andThen .now;have J:Ko (Jz W.prog W.w) s.heap (Li (.ref x) "__len__") (Jh (.builtin "tuple.__len__")):=by
  refine z.andThen ?_;have j:J9 (.type "tuple") "__len__"=pure (Jh (.builtin "tuple.__len__")):=PySem.F.slot_tuple_len.lookup;have:=fH (M:=Jz W.prog W.w) u E j;have this:=D▸this;exact this
 have P:Ko (Jz W.prog W.w) s.heap (MW (.ref x) (.type "tuple")) true:=z.andThen (by
  have:=gR (M:=Jz W.prog W.w) u (.type "tuple");rw[show([J3 C,.type "tuple",.type "object"].contains (.type "tuple"))=true from by simp] at this;exact this)
 refine Calls.call_function_entry kind_len plain_len entry_len (args_len1 _) ?_;refine Jf (m:=oneArg "len" _) (Jk ?_);refine Jf ?_;refine Jf (J.here ?_);refine JD ?_;refine(show Td (.builtin "tuple.__len__") (.ref x)=pure (.builtin "tuple.__len__",[.ref x]) from PySem.F.slot_tuple_len.bind _).symm▸?_;refine Jf (Jk (Jf ?_));refine Lh (KZ PySem.F.slot_tuple_len.plain PySem.F.entry_tuple_len ?_);refine @check_slot (Jz W.prog W.w) _ _ s "tuple.__len__" "tuple" "__len__" (.ref x) [] [] _ (by decide +kernel) (by decide +kernel) P (PySem.F.args_tuple_len_1 (.ref x)) ?_;show JH _ _ (Tuple.tupleItemsOf (.ref x) >>= _) _ _ _;refine Jf (Jf (Kr y rfl (Jk ?_)));refine((show items.size=3 from by have:=H.len;rw[Jx] at this;exact this)).symm▸?_;refine Jf (wpAny_mkInt (Jk (Jk ?_)));refine Jf (JD (Jk ?_));refine Jf (N2 ?_);rw[if_neg (by decide)];show JH _ _ (if((3:Nat):Int) ≥ 2 ^ 63 then _ else _) _ _ _;rw[if_neg (by decide)];exact Jf (wpAny_mkInt (Jk ⟨_,rfl,σ,st,bT k r (KG (JC _)),.i 3,⟨_,rfl⟩,h⟩))
end
end
section
variable {A:Around}{F:cU}{lc:Lc}{st:St}{Q:V->St->Prop}
mutual
theorem kC{x t}(hz:x.length<=sizeLine)(h:Q (.s (QK x) 0) st):MethW A "str.rstrip" (.s x t) [] st Q :=
 have a {σ n s ws} {P:List Value->Prop} (h:cf σ n s [.s x t] ws) (k:∀u,P [.str x u]):P ws:=by
  obtain⟨w,rfl,u,rfl,_⟩:=eI h;exact k u
 λσ s w ws hw c i r=>by
 subst hw;exact a (P:=λws=>Wp A (Ky _ ws) _ _) c λu=>wpAny_toks (T3 QA (NN _ _ _) PySem.F.entry_str_rstrip (PySem.F.args_str_rstrip_1 _) (gives_str_rstrip x u).meets (post_val_or_made (λZ=>fits_stripped _ _ _ hz) λt' k d=>sg i r h d))
theorem n7{x t c texts dep}(la:LstAt c (bQ texts) dep)(hd:dep st)(d:Rw x texts=true)(h:Q (.s (Pw x texts) 0) st):MethW A "str.join" (.s x t) [c] st Q:=λσ s w ws hw f i r=>by
 subst hw;obtain⟨v,u,rfl,⟨t,rfl,_⟩,D⟩:=iL f;obtain⟨l,items,m,rfl,C,hi⟩:=la σ st s u D hd r;have a {n ys}:∀ {ws:List Value},cf σ n s (bQ ys) ws->∃l:List (Str×Qx),ws=RY l/\l.map (·.1)=ys:=by
  induction ys with
  |nil=>intro ws h;cases h;exact⟨[],rfl,rfl⟩
  |cons y ys E =>
   rintro ws ⟨w,F,e,⟨t,g,_⟩,p⟩;obtain⟨l,q,z⟩:=E p;subst e g q z;exact⟨(y,t)::l,rfl,rfl⟩
 obtain⟨ps,j,o⟩:=a hi;exact wpAny_toks (SC.join (l:=ps) (texts:=texts) (by refine(j)▸?_;exact⟨_,C,rfl,m,rfl⟩) o d λt' k B=>sg i r h B)
theorem yQ{n}(h:Q (.i n) st):bI A (.g .int) [.i n] st Q:=λσ s w ws hw a i r=>by
 subst hw;obtain⟨v,rfl,t,rfl⟩:=eI a;exact call_int_int ⟨σ,st,.refl i r,.i n,⟨_,rfl⟩,h⟩
end
theorem Dc{body orelse i hs pos QF}(h:bW A F body lc st λf a c=>match f with | .next=>bW A F orelse a c QF | f=>QF f a c):dN A F (.Try body (i::hs) orelse [] pos) lc st QF :=
 λσ s p=>wpAny_Try_except (dc (h σ s p) λf s₁ e a c g d fr j q=>by
  cases g with
  |next=>cases j;exact h8 d (q e s₁ ⟨d.inv,d.rel,fr⟩)
  |brk=>cases j;exact⟨e,a,c,d,fr,.brk,rfl,q⟩
  |cont=>cases j;exact⟨e,a,c,d,fr,.cont,rfl,q⟩
  |ret v=>obtain⟨w,rfl,hw⟩:=j;exact⟨e,a,c,d,fr,.ret v,⟨w,rfl,hw⟩,q⟩)
theorem nX{prog w E it l items}(j:l≠it):∀(n i:Nat) (s:Js) (Q:List Value->Js->Prop),s.heap.IsListIter it l i->s.heap.IsList l items->i+n<=items.size ->
  (∀h',h'.IsListIter it l (i+n)->Kx it s.heap h'->Q ((items.toList.drop i).take n) {s with heap:=h'})->JH (Jz prog w) A (draw (.ref it) n) Q E s
 |0,i,s,Q,e,Z,Y,o=>Jk (o s.heap e (QO ..))
 |n+1,i,s,Q,e,p,g,o=>by
  have h:i<items.size:=by exact bJ 2 15 g
  refine Jf (OH e p (x:=items[i]) (J7 h) λq c a=>?_);refine Jf (JD (nX j n (i+1) _ _ c (p.extBut a.extBut j) (by exact bZ 11 17 g) λk d f=>Jk ?_));have:=o k (by rw[show i+(n+1)=i+1+n by exact bJ 8 7];exact d) (a.trans f);rw[KO (by rw[Jx];exact h),List.take_succ_cons,Array.getElem_toList] at this;exact this
theorem tM{c items dep}(z:A.handled=none)(la:LstAt c items dep)(hd:dep st):AJ A c items.length st items :=
 have a {prog w E} {s:Js} {t} {items:Array Value} {Q} (C:A.handled=none) (p:s.heap.IsList t items) (B:∀h',Nb s.heap.objs.size s.heap h'->Q items.toList {s with heap:=h'}):JH (Jz prog w) A (unpackItems (.ref t) items.size none) Q E s:=by
  have j:t≠s.heap.objs.size:=by obtain⟨o,F,_⟩:=p;exact J1 (JE F)
  refine Jf ?_;refine Jf (LP p.typeIs slot_list_iter.lookup (Jk ?_));rw[if_neg (λq=>Jq q)];refine Jf (JD (N0 p ?_));refine Jf (JD (nX j items.size 0 _ _ ⟨_,Ju _ rfl,rfl,rfl⟩ (p.push _) (JX (Kf _)) λu f d=>?_));refine(MT).symm▸?_;refine(Lv (JX Jx)).symm▸?_;rw[if_neg (by rw[Jx];exact Jw _)];refine Jf (JD (OX C f ((p.push _).extBut d.extBut j:u.IsList t items) (by refine(Kf ..).symm▸?_;exact Q5 (Jl _)) λv g=>?_));exact Jk (B v λb o h e=>g b o h (d.extBut b o h (Jm _ e)))
 λσ s w hw i r=>by
 obtain⟨l,vs,m,rfl,D,x⟩:=la σ st s w hw hd r;have e:vs.size=items.length:=by refine(Jx)▸?_;exact x.len
 refine(e)▸?_;exact bS (a z ⟨_,D,rfl,m,rfl⟩ λh' G hz=>by
  have y:=c4 (X:=de) (k:=s.toks) i r (λb o h=>G b o (J1 (JE h)) h) hz (Jl _);exact⟨x.step r y,y⟩)
theorem cf.A4{σ n s v x}(d:RV σ n s v x):∀ {vs:List V} {ws:List Value} (j:Nat),cf σ n s vs ws->cf σ n s (vs.set j v) (ws.set j x)
 |[],Z,Y,h=>by cases h;exact rfl
 |u::vs,Z,j,⟨w,a,e,f,c⟩=>by
  subst e;cases j with
  |zero=>exact⟨x,a,rfl,d,c⟩
  |succ j=>exact⟨w,a.set j x,rfl,f,cf.A4 d j c⟩
theorem set_list{h vs k v Q}(T:bK)(e:st[h]?=Jh (.list vs))(E:0<=k)(F:k.toNat<vs.length)(q:Q (st.set h (.list (vs.set k.toNat v)))):jB A (.r h) (.i k) v st Q:=λσ s a b c w y hc i r=>by
 obtain⟨J,G⟩:=w;obtain⟨u,H⟩:=y;subst G H;obtain⟨ws,n,z,hsz,p⟩:=r.at_ h _ e;have C:ws.size=vs.length:=by refine(Jx)▸?_;exact p.len
 have f:s.heap.IsList (σ.a h) ws:=⟨_,z,rfl,n,rfl⟩
 have d:k<2 ^ 63:=Fg F (C▸hsz);unfold Uq
 try with_reducible refine JD ?_
 first | refine Jf (Jk ?_) | skip
 refine Jf (Uk f.typeIs (by decide) ?_);refine Jf (Kc (name:=Jj "__setitem__") f.typeIs Uo
  (Kb Uo f.typeIs entry_list_setitem ?_ (args_list_setitem _ _ _)))
 show JH _ _ (Va (.int k u) >>= _) _ _ s;refine Jf (wpAny_listSubscript_int (fitsIndex_of E d) ?_)
 clear d
 obtain⟨j,rfl⟩:=Rb E;have B:j<ws.size:=by refine(C ..).symm▸?_;exact F
 refine Jf (Jf (wpAny_seqItemAt z (show(Kd.lst.obj ws n).data=.seq ws n from rfl) (Jk ?_)));refine(J7 B).symm▸?_;have D:Kq (·.setIfInBounds j c) (Kd.lst.obj ws n)=Kd.lst.obj (ws.setIfInBounds j c) n:=by
  show({cls:=.type "list",data:=.seq (ws.setIfInBounds j c) (if((ws.setIfInBounds j c).size == ws.size)=true then n else n+1)}:Obj)=_;rw[if_pos (beq_iff_eq.mpr Mz)];rfl
 have g:(s.heap.update (σ.a h) (Kq (·.setIfInBounds j c))).get? (σ.a h)=Jh (Kd.lst.obj (ws.setIfInBounds j c) n):=by
  refine(J0 _ z (by refine(D).symm▸?_;rfl)).trans ?_;exact(D).symm▸rfl
 have fin:PB σ st s (λZ=>Q) true {s with heap:=s.heap.update (σ.a h) (Kq (·.setIfInBounds j c))} :=
  ⟨σ,_,dX (k:=s.toks) (o:=.list (vs.set j v)) T i r J (J2 ..) (Jl _) (λx=>⟨_,n,g,by refine(Mz).symm▸?_;exact hsz,by rw[Array.toList_setIfInBounds];exact cf.A4 (RV.mono x r.apart v c hc) j (p.mono x r.apart)⟩) (λZ Y U q=>O.noConfusion q),q⟩
 refine Jf (wpAny_setSeqItemAt z (show(Kd.lst.obj ws n).data=.seq ws n from rfl) ?_)
 first
  |exact Jf (Jk (Jk ⟨.none,rfl,Jk fin⟩))
  |exact Jk ⟨.none,rfl,Jk fin⟩
noncomputable def Iz(A:Around)(o k:V)(st:St)(Q:V->St->Prop):Prop:=∀σ s u w,RV σ st.length s o u->RV σ st.length s k w->Inv s->Rel σ st s->Wp A (Uu u w) (PV σ st s Q) s
theorem Ag{h vs k v}(e:st[h]?=Jh (.list vs))(p:0<=k)(w:vs[k.toNat]?=Jh v)(q:Q v st):Iz A (.r h) (.i k) st Q:=λσ s a b c d i r=>by
 obtain⟨C,j⟩:=c;obtain⟨u,o⟩:=d;subst j o;refine Jg λB=>?_;obtain⟨ws,n,y,hsz,f⟩:=r.at_ h _ e;obtain⟨x,g,z⟩:=f.get w;refine B ?_;rw[JZ] at g;exact TU ⟨_,y,rfl,n,rfl⟩ p (Fg (Array.getElem?_eq_some_iff.mp g).1 hsz) g ⟨σ,st,.refl i r,v,z,q⟩
theorem sR{o ix value tpos pos op QF}(hi:∀B z new,augStore ix B z new=(do MQ [new,B,z] (Uq B z new);release [new,B,z] [];pure .next))(h:cx A F o lc st λB i=>cx A F ix lc i λz st₂=>Iz A B z st₂ λold j=>cx A F value lc j λv k=>cE A (Pl op) old v k λnew r=>jB A B z new r (QF .next lc)):dN A F (.AugAssign (.Subscript o ix tpos) op value pos) lc st QF :=
 λσ s p=>wpAny_AugAssign_SubscriptAny (bH (h σ s p) λD s₁ J i B u c T=>bH (T J s₁ (p.step u)) λE ac M st₂ z a C U =>
  have y:=u.trans a;have c:=c.step u.rel a
  bH (U M ac D E c C a.inv a.rel) λak ae P j old w ah X=>bH (X P ae (p.step (y.trans w))) λal af Q k v d ai aa=>bH (aa Q af ak al (ah.step w.rel d) ai d.inv d.rel) λam ag R r new x aj ab =>
   have g:=(w.trans d).trans x
   JB (ab R ag D E am (c.step a.rel g) (C.step a.rel g) aj x.inv x.rel) (λZ an q=>q.casesOn λS H G q=>⟨S,lc,H,((y.trans g).trans G).hO.gQ,(p.step ((y.trans g).trans G)).f,.next,rfl,q⟩) λZ Y e=>e.elim) hi
noncomputable def F9(R:Str->Prop):V->Prop
 |.s x Z=>R x
 |_=>False
theorem ph{R v}(h:F9 R v):∃x t,v=.s x t/\R x:=by cases v <;> first | exact⟨_,_,rfl,h⟩ | exact h.elim
theorem yz{value pos}(h:cx A F value lc st λv e=>F9 (λx=>x.length<=sizeLine/\Q (.s x 0) e) v):cx A F (.FormattedValue value (-1) none pos) lc st Q:=λσ s p=>by
 refine wpAny_FormattedValue_plain (bH (h σ s p) λw s₁ d c v a f q=>?_);refine Jg λg=>?_;obtain⟨x,t,rfl,hz,q⟩:=ph q;obtain⟨u,rfl,_⟩:=f;refine g ?_;exact wpAny_formatField_str ⟨d,c,a,.s x 0,⟨_,rfl,λq=>absurd rfl q⟩,q⟩ ⟨d,c,a.trans (bT a.inv a.rel (JG _ _)),.s x 0,⟨_,rfl,λq=>absurd rfl q⟩,q⟩ hz
noncomputable def tE(A:Around)(F:cU)(lc:Lc)(Q:Str->St->Prop):List Expr->Str->St->Prop
 |[],a,st=>Q a st
 |e::es,a,st=>cx A F e lc st λv c=>F9 (λy=>a.length+y.length<=sizeLine/\tE A F lc Q es (a++y) c) v
theorem nN{Q P}:∀(es:List Expr) (d:Str) (σ c:Sg) (st a:St) (s s₁:Js),tE A F lc Q es d a->Pre F σ lc st s->Step σ st s c a s₁->(∀out σ' g s',Step σ st s σ' g s'->Q out g->P out s')->Joins (Jz W.prog W.w) A EA (evalEach es F.env) d P s₁
 |[],d,σ,c,st,a,s,s₁,h,p,x,k=>k d c a s₁ x h
 |e::es,d,σ,c,st,a,s,s₁,h,p,x,k=>bH (h c s₁ (p.step x)) λw i f st₂ v j o q=>by
  refine Jg λr=>?_;obtain⟨y,t,rfl,hz,q⟩:=ph q;obtain⟨u,rfl,_⟩:=o;refine r ?_;exact⟨y,u,rfl,by refine(Nm ..).symm▸?_;exact hz,nN es _ σ f st st₂ s i q p (x.trans j) k⟩
theorem uD{a v2 rest pos}(h:tE A F lc (λout c=>out.length<=sizeLine/\Q (.s out 0) c) (a::v2::rest) OQ st):cx A F (.JoinedStr (a::v2::rest) pos) lc st Q:=λσ s p =>
 wpAny_JoinedStr (nN _ _ σ σ st st s s h p p.refl λout σ' c s' x q=>⟨q.1,σ',c,x.trans (bT x.inv x.rel (JC _)),.s out 0,⟨_,rfl,λq=>absurd rfl q⟩,q.2⟩)
end
section
variable {A:Around}{F:cU}{lc:Lc}{st:St}{Q:V->St->Prop}{K:Type}[DecidableEq K]{knd:KeyKind W.prog W.w K}{mk:List (K×V)->O}
noncomputable def tB(A:Around)(F:cU)(lc:Lc)(st:St){K:Type}[DecidableEq K](knd:KeyKind W.prog W.w K):List (Option Expr)->List Expr->List (K×V)->Prop
 |some k::d,v::vs,c::l=>cx A F k lc st (λu a=>nf knd u c.1/\st=a)/\cx A F v lc st (λu a=>c.2=u/\st=a)/\tB A F lc st knd d vs l
 |[],[],[]=>True
 |Z,Y,U=>False
inductive Ds(σ:Sg)(st:St)(s:Js){K:Type}[DecidableEq K](knd:KeyKind W.prog W.w K)(l:List (K×V))(out:List (Value×Value))(s':Js):Prop
 |mk (σ':Sg) (x:Step σ st s σ' st s') (kvs:List (K×Value)) (hc:Carries knd out kvs) (hr:RK σ' st.length s' l kvs)
theorem nD{pos}:∀(r:List (Option Expr)) (vs:List Expr) (l:List (K×V)) (σ:Sg) (s:Js),tB A F lc st knd r vs l->Pre F σ lc st s->Wp A (evalPairs (pairTrees r vs F.env pos)) (Ds σ st s knd l) s
 |[],[],[],σ,s,h,p=>Jk ⟨σ,p.refl,[],trivial,rfl,rfl⟩
 |some k::r,v::vs,u::l,σ,s,⟨X,h2,h3⟩,p=>by
  show JH _ _ (eval k F.env >>= λu=>MQ [u] (do let x <-eval v F.env;Pf pos;pure x) >>= λS=>(MQ [u,S] (evalPairs (pairTrees r vs F.env pos))) >>= λz=>pure ((u,S)::z)) _ _ s;refine Jf (bH (X σ s p) λT s₁ f H Q a C w=>?_);obtain⟨hk,j⟩:=w;subst j;refine Jf (JD (Jf (bH (h2 f s₁ (p.step a)) λE B g st₂ R c D y=>?_)));obtain⟨e,o⟩:=y;subst e o;refine Jf (m:=Pf pos) (LF (Jk (Jf (JD (JB (nD r vs l g B h3 (p.step (a.trans c))) (λout M q=>?_) λZ Y e=>e.elim)))));obtain⟨i,d,G,hc,hr⟩:=q;exact Jk ⟨i,(a.trans c).trans d,(u.1,E)::G,⟨hk _ _ _ _ C,rfl,hc⟩,RK.cons (D.step c.rel d) hr⟩
 |[],[],Z::Y,U,P,h,L=>h.elim
 |[],Z::Y,U,P,L,h,J=>h.elim
 |none::Z,Y,U,P,L,h,J=>h.elim
 |some Z::Y,[],U,P,L,h,J=>h.elim
 |some Z::Y,U::P,[],L,J,h,I=>h.elim
omit [DecidableEq K] in
theorem sj{m}{l:List (K×Value)}{a:K×Value}(h:((m++a::l).map (·.1)).Nodup):a.1∉m.map (·.1):=λq=>by
 rw[JF,ND] at h;exact h.2.2 _ q _ (JJ ..) rfl
theorem lZ:∀(l m:List (K×Value)),((m++l).map (·.1)).Nodup->merged m l=m++l
 |[],m,Z=>(JO m).symm
 |kv::l,m,h=>by
  have e:Ob m kv.1 kv.2=m++[kv]:=by
   unfold Ob;rw[if_neg];intro q;obtain⟨x,a,e⟩:=List.any_eq_true.mp q;exact sj h (Ra.mpr ⟨x,a,of_decide_eq_true e⟩)
  show merged (Ob m kv.1 kv.2) l=_;rw[e,lZ l (m++[kv]) (by rw[Jv];exact h),Jv];rfl
theorem uE{keys:List (Option Expr)}{c:List Expr}{pos:UL}{l:List (K×V)}(T:bK)(D:gh knd mk)(u:keys.all (·.isSome)=true)(hl:keys.length=c.length)(h0:keys≠[])(C:keys.length<=15)(J:(l.map (·.1)).Nodup)(hp:tB A F lc st knd keys c l)(h:Q (.r st.length) (st++[mk l])):cx A F (.Dict keys c pos) lc st Q:=by
 intro σ s p;have hn:=pairTrees_length keys c F.env pos u hl;have v:=dp (X:=de) (o:={cls:=.type "dict",data:=.dict #[]}) p.i p.r;refine wpAny_Dict_pairs (knd:=knd) (zip_pairTrees keys c F.env pos u hl) (λH=>h0 (List.length_eq_zero_iff.mp (by refine(hn)▸?_;refine(H).symm▸?_;rfl))) (by refine(hn).symm▸?_;exact C) (JB (nD keys c l σ _ hp (p.step v)) (λout s₁ q=>?_) λZ U e=>e.elim);obtain⟨σ',f,B,hc,M⟩:=q;have j:(s.heap.push {cls:=.type "dict",data:=.dict #[]}).get? s.heap.objs.size=Jh {cls:=.type "dict",data:=.dict #[]}:=Ju _ rfl;have lt:=JE j;have g:¬σ.z s.heap.objs.size/\∀h,h<st.length->σ.a h≠s.heap.objs.size:=⟨λz=>Jw _ (p.r.zlt _ z),λh q e=>Jw _ (e▸p.r.lt q)⟩
 have d:¬σ'.z s.heap.objs.size/\∀h,h<st.length->σ'.a h≠s.heap.objs.size:=⟨f.x.zoff lt g.1,f.x.off lt g.2⟩
 have y:s₁.heap.DictOf knd s.heap.objs.size []:=by
  obtain⟨o,G,q⟩:∃o,(s.heap.push {cls:=.type "dict",data:=.dict #[]}).get? s.heap.objs.size=Jh o/\o.IsDictOf knd []:=⟨_,j,#[],0,⟨rfl,rfl,rfl⟩,rfl,λZ H=>by simp at H,U8,OD⟩
  exact Heap.dictOf_iff.mpr ⟨o,f.x.keep _ o G (by have G:=j▸G;cases G;exact bN rfl) g.2 id,q⟩
 refine⟨B,hc,y,λh' R hs=>?_⟩;rw[lZ B [] (by rw[MF,M.1];exact J),MF] at R;obtain⟨o',E,P⟩:=Heap.dictOf_iff.mp R;have S:=p.i.size;have w:=eV (X:=(· =s.heap.objs.size)) (k:=s₁.toks+out.length) T f.inv f.rel S rfl d.1 d.2 hs (JG _ _);exact⟨_,_,(gp (o:=mk l) (((v.trans f).hO.trans w).fresh (Y:=de) λb e=>.inr (JX e.symm)) (Jl _) (JE E) S d (λk=>D.of _ _ _ _ _ ⟨o',B,E,P,M.1,k (M.2.mono w.x λb hz=>⟨λe=>d.1 (e▸hz),f.rel.zoff b hz⟩)⟩) (D.gen l)),.r st.length,⟨by rw[Ji];exact JL _,congrArg J3 (if_pos rfl).symm⟩,h⟩
end
structure Bt(X:Addr->Prop)(XG:Nat->Prop)(s s':Js):Prop where
 inv:Inv s'
 keep:∀b o,s.heap.get? b=Jh o->cH o->¬X b->s'.heap.get? b=Jh o
 grow:s.heap.objs.size<=s'.heap.objs.size
 gkeep:∀g y,s.gens[g]?=Jh y->¬XG g->s'.gens[g]?=Jh y
 ggrow:s.gens.size<=s'.gens.size
 tgrow:s.toks<=s'.toks
structure GC where
 A:Around
 F:cU
 N:Nat
 NG:Nat
 X:Addr->Prop
 XG:Nat->Prop
 ys:List Str
structure GC.Ok(G:GC):Prop where
 x:∀b,G.X b->b<G.N/\b≠G.F.L
 xg:∀g,G.XG g->g<G.NG
 own:G.F.L<G.N
structure mR(G:GC)(s₀ s:Js):Prop where
 keep:∀b o,b<G.N->s₀.heap.get? b=Jh o->cH o->b≠G.F.L->s.heap.get? b=Jh o
 gkeep:∀g y,g<G.NG->s₀.gens[g]?=Jh y->s.gens[g]?=Jh y
 grow:s₀.heap.objs.size<=s.heap.objs.size
 ggrow:s₀.gens.size<=s.gens.size
 tgrow:s₀.toks<=s.toks
structure FT(G:GC)(σ:Sg)(n:Nat)(s:Js)(p:Addr×Obj):Prop where
 at_:s.heap.get? p.1=Jh p.2
 so:cH p.2
 lo:G.N<=p.1
 ne:p.1≠G.F.L
 z:¬σ.z p.1
 off:∀h,h<n->σ.a h≠p.1
structure Pin where
 os:List (Addr×Obj)
 vs:List (V×Value)
structure kU(G:GC)(Hd:Pin)(σ:Sg)(lc:Lc)(st:St)(ys:List Str)(s₀ s:Js):Prop where
 p:Pre G.F σ lc st s
 since:mR G s₀ s
 own:∀h,h<st.length->G.N<=σ.a h
 off:∀b,σ.z b->¬G.X b
 gown:∀(h:Nat) g c L,st[h]?=Jh (.gen g c L)->G.NG<=g
 hd:∀p∈Hd.os,FT G σ st.length s p
 kv:∀p∈Hd.vs,RV σ 0 s p.1 p.2
 suf:ys <:+ G.ys
 size:G.N<=s.heap.objs.size
 gsize:G.NG<=s.gens.size
noncomputable def rK(b:Addr)(s:Js):Prop:=∃o,s.heap.get? b=Jh o/\cH o
inductive GY(G:GC)(n:Nat)(s₀:Js)(v:Value)(s:Js)(kap:Resume->Js->Prop):Prop
 |mk (k:Nat) (y:Str) (u:Qx) (hk:G.ys[k]?=Jh y) (hv:v=.str y u) (hn:k+n+1=G.ys.length) (i:Inv s) (sn:mR G s₀ s) (so:rK G.F.L s) (next:∀s',Bt G.X G.XG s s'->kap (.send .none) s')
noncomputable def SG(G:GC)(n:Nat)(s₀:Js)(c:Code)(t:Q7 Fin)(a:List Tq)(s:Js):Prop :=
 VN (Jz W.prog W.w) G.A (λn s₀ r s₁=>r=.ok (.ret .none)/\n=0/\Inv s₁/\mR G s₀ s₁/\rK G.F.L s₁) (GY G) n s₀ c t a s
section
variable {G:GC}{i:Pin}{σ σ':Sg}{lc r:Lc}{st a:St}{ys:List Str}{s₀ s s':Js}
theorem mR.refl:mR G s s:=⟨λZ Y U h P L=>h,λZ Y U h=>h,Jl _,Jl _,Jl _⟩
theorem kU.so(g:kU G i σ lc st ys s₀ s):rK G.F.L s:=by
 refine Jg λe=>?_;obtain⟨m,c,_⟩:=g.p.f.ns;have a:=c;obtain⟨o,es,ep,d,_⟩:=a;refine e ?_;exact⟨o,d,eA c d⟩
theorem kU.GB(ok:G.Ok)(g:kU G i σ lc st ys s₀ s)(b:Bt G.X G.XG s s'):kU G i σ lc st ys s' s':=by
 have kp:Kp G.X σ st.length s σ s':=⟨λZ h=>h,λc o h u Z J=>b.keep c o h u J,b.tgrow⟩
 have d:Apart G.X σ st.length:=λc hz=>⟨g.off c hz,g.p.r.zoff c hz⟩
 have sm:fR σ st.length σ st.length:=λh q=>⟨q,rfl⟩
 obtain⟨m,A,H⟩:=g.p.f.ns;exact⟨⟨b.inv,⟨λh o e=>(g.p.r.at_ h o e).cq kp d sm (λy M u=>b.keep _ y M u ((λh q e=>Jw _ (Jp (ok.x _ e).1 (g.own h q)):∀h,h<st.length->¬G.X (σ.a h)) h (List.getElem?_eq_some_iff.mp e).1)) (λj c L eo F=>b.gkeep j _ F λE=>Jw _ (Jp (ok.xg j E) (g.gown h j c L (eo▸e)))),g.p.r.above,g.p.r.inj,λc hz=>Jp (g.p.r.zlt c hz) b.grow,g.p.r.zoff⟩,
  ⟨g.p.f.above,⟨m,A.at λo B=>b.keep _ o B (eA A B) λq=>(ok.x _ q).2 rfl,λx v C D=>by obtain⟨w,P,Q⟩:=H x v C D;exact⟨w,P,RV.cq kp d v _ _ sm w Q⟩⟩,g.p.f.offz,g.p.f.offh,g.p.f.kind,g.p.f.glob,g.p.f.bi,g.p.f.cells⟩⟩,
  .refl,g.own,g.off,g.gown,λp k=>have q:=g.hd p k;⟨b.keep _ _ q.at_ q.so λe=>Jw _ (Jp (ok.x _ e).1 q.lo),q.so,q.lo,q.ne,q.z,q.off⟩,λp k=>RV.cq kp d p.1 0 0 (λZ q=>absurd q (Jy _)) p.2 (g.kv p k),g.suf,Jn g.size b.grow,Jn g.gsize b.ggrow⟩
theorem kU.step(ok:G.Ok)(g:kU G i σ lc st ys s₀ s)(x:c8 (· =G.F.L) G.F.m σ st s σ' a s')(f:dA G.F σ' a.length r s'):kU G i σ' r a ys s₀ s':=by
 have E:∀ {b},pK G.F.m σ st.length s b->G.N<=b:=λq=>q.elim (λd=>by obtain⟨k,_,h,e⟩:=d;exact e▸g.own k h) λq=>Jn g.size q;refine⟨⟨x.inv,x.rel,f⟩,⟨λb o B v so A=>x.x.keep b o (g.since.keep b o B v so A) so (λh q e=>Jw _ (Jp B (e▸g.own h q))) A,λj y C v=>x.gkeep j y (g.since.gkeep j y C v) λh c L e=>Jw _ (Jp C (g.gown h j c L e)),Jn g.since.grow x.x.grow,Jn g.since.ggrow x.ggrow,Jn g.since.tgrow x.x.tgrow⟩,
  λh q=>?_,λb hz D=>?_,λh j c L e=>?_,λp w=>have q:=g.hd p w;⟨x.x.keep _ _ q.at_ q.so q.off q.ne,q.so,q.lo,q.ne,x.x.zoff (JE q.at_) q.z q.off,x.x.off (JE q.at_) q.off⟩,λp w=>RV.cq x.x.kp (g.p.f.jV g.p.r rfl) p.1 0 0 (λZ q=>absurd q (Jy _)) p.2 (g.kv p w),g.suf,Jn g.size x.x.grow,Jn g.gsize x.ggrow⟩
 ·exact(x.x.new h q).elim (λz=>(x.x.ext h z.1 z.2).2▸g.own h z.2) E
 ·exact(x.x.znew b hz).elim (λz=>g.off b z D) λz=>Jw _ (Jp (ok.x b D).1 (E z))
 ·exact(x.gdom h j c L e).elim (λu=>by obtain⟨h',c',H,z⟩:=u;exact g.gown h' j c' H z) λz=>Jn g.gsize z
section
variable (G:GC)(g:Pin)(c:Code)(e:List Tq)
noncomputable def GK(K:Flow->Q7 Fin)(Q:Fl->Lc->St->List Str->Prop):Prop :=
 ∀f a σ lc st ys s₀ s,RF σ st.length s a f->Q a lc st ys->kU G g σ lc st ys s₀ s->SG G ys.length s₀ c (K f) e s
noncomputable def AQ(c':Stmt)(lc:Lc)(st:St)(ys:List Str)(Q:Fl->Lc->St->List Str->Prop):Prop :=
 ∀K d a f σ s₀ s,a false=false->GK G g c e K Q->kU G g σ lc st ys s₀ s->SG G ys.length s₀ c ((exec c' G.F.env).wrap K d a f) e s
noncomputable def jX(l:List Stmt)(lc:Lc)(st:St)(ys:List Str)(Q:Fl->Lc->St->List Str->Prop):Prop :=
 ∀K d a f σ s₀ s,a false=false->GK G g c e K Q->kU G g σ lc st ys s₀ s->SG G ys.length s₀ c ((Pa l G.F.env).wrap K d a f) e s
end
variable {c:Code}{d:List Tq}{Q:Fl->Lc->St->List Str->Prop}
theorem eQ{c'}(ok:G.Ok)(h:dN (G.A.over c d) G.F c' lc st λf r a=>Q f r a ys):AQ G i c d c' lc st ys Q :=
 λK u v w σ s₀ s o j g=>Qf (dc (h σ s g.p) λf s' σ' r a e x fr k q=>j f e σ' r a ys s₀ s' k q (g.step ok x fr))
theorem dF(h:Q .next lc st ys):jX G i c d [] lc st ys Q:=λK f j k σ s₀ s e a g=>seg_execs_nil (a .next .next σ lc st ys s₀ s rfl h g)
theorem cm{c' l}(h:AQ G i c d c' lc st ys λf r a j=>match f with | .next=>jX G i c d l r a j Q | f=>Q f r a j):jX G i c d (c'::l) lc st ys Q :=
 λK p u x σ s₀ s e k g=>seg_execs_cons (h _ p u x σ s₀ s e (λf y σ lc st ys s₀ s o q g=>by
  cases y with
  |next=>cases o;exact q K p u x σ s₀ s e k g
  |brk=>cases o;exact k _ .brk σ lc st ys s₀ s rfl q g
  |cont=>cases o;exact k _ .cont σ lc st ys s₀ s rfl q g
  |ret v=>obtain⟨w,rfl,hw⟩:=o;exact k _ (.ret v) σ lc st ys s₀ s ⟨w,rfl,hw⟩ q g) g)
theorem wN{y}{l ys:List Str}(h:(y::l) <:+ ys):∃k,ys[k]?=Jh y/\k+l.length+1=ys.length:=by
 obtain⟨p,rfl⟩:=h;exact⟨p.length,by rw[JW (Jl _),Lz];rfl,by rw[Ji,J5];rfl⟩
mutual
theorem gb{e ypos pos y l}(ok:G.Ok)(M:ys=y::l)(D:PX d=none)(C:d.any NH=false)(B:G.F.env.scope.isCoroutine=false)(hi:Nt G.F.env=false)(h:cx (G.A.over c d) G.F e lc st λv a=>F9 (λx=>x=y/\Q .next lc a l) v):AQ G i c d (.Expr (.Yield (Jh e) ypos) pos) lc st ys Q:=by
 subst M;intro K Hh gd lv σ s₀ s E S g;refine seg_Expr_Yield D E C (JB (h σ s g.p) (λw s' q=>q.casesOn λσ' a x v X p aa r=>?_) λZ Y e=>e.elim) B hi;obtain⟨x',t,P,R,U⟩:=ph p;subst P R;obtain⟨u,rfl,_⟩:=X;have o:=g.step ok x.hO.gQ (g.p.step x).f;refine Jg λzz=>?_;obtain⟨k,H,J⟩:=wN o.suf;refine zz ?_;refine⟨k,x',u,H,rfl,J,o.p.i,o.since,o.so,λj T=>?_⟩;have z:=o.GB ok T;exact r .none j (S .next .next σ' lc a l j j rfl U {z with suf:=(SQ _ _).trans o.suf})
theorem sP{test body orelse pos}(ok:G.Ok)(h:kT (G.A.over c d) G.F test lc st λb a=>Br b (jX G i c d body lc a ys Q) (jX G i c d orelse lc a ys Q)):AQ G i c d (.If test body orelse pos) lc st ys Q:=by
 intro K k o r σ s₀ s j v g;unfold SG;rw[exec_If];show VN _ _ _ _ _ _ _ (.at pos λZ=>(Sj test G.F.env (eval test G.F.env) >>= λb=>if b=true then Pa body G.F.env else Pa orelse G.F.env).wrap K k o r) d s;refine Ve ?_;rw[Mf,Na];refine Qf (JB (dH (P:=λb s'=>SG G ys.length s₀ c ((if b=true then Pa body G.F.env else Pa orelse G.F.env).wrap K k o r) d s') (h σ s g.p) λb s' σ' a x q=>?_) (λZ Y q=>q) λZ Y e=>e.elim);have u:=g.step ok x.hO.gQ (g.p.step x).f;cases b with
 |true=>exact q.t rfl K k o r σ' s₀ s' j v u
 |false=>exact q.f rfl K k o r σ' s₀ s' j v u
end
end
section
variable {prog:Program}{w:LK}{A:Around}{E:Value->Js->Prop}{s:Js}
theorem qA{a:Addr}{g n:Nat}{i:Qt}{fin:Flow}{P:Nat->Js->Js->Prop}{Y:Protocol}{Q:Option Value->Js->Prop}(f:fin=.next∨fin=.ret .none)(q:A.handled=none)(z:s.heap.NoLimit)(e:A.depth<recursionLimit)(k:s.heap.IsGen a g)(h:s.gens[g]?=Jh i)(d:i.Goes (Jz prog w) A.in1 (λn s₀ r s₁=>r=.ok fin/\P n s₀ s₁) Y n (.send .none) (s.setGen g .running))(y:∀v s₁ c,c.bare=true->Y (n-1) (s.setGen g .running) v s₁ (λF p=>match n with
    |0=>False
    |m+1=>c.Goes (Jz prog w) A.in1 (λn s₀ r s₁=>r=.ok fin/\P n s₀ s₁) Y m F p)->Q (Jh v) (s₁.setGen g c)) (u:∀s₁,P n (s.setGen g .running) s₁->∀h',(∀b o,s₁.heap.get? b=Jh o->h'.get? b=Jh o)->s₁.heap.objs.size<=h'.objs.size->Q none {s₁.setGen g .finished with heap:=h'}) :
  JH (Jz prog w) A (LV (.ref a)) Q E s:=by
 refine Jf (K4 (Kc (name:=Jj "__next__") k.typeIs VF
  (Kb VF k.typeIs entry_gen_next ?_ (args_gen_next _))))
 show JH _ A.in1 (Ts (.ref a) (.send .none)) _ _ s;refine Jf (JD (wpAny_genNumber k (Jf (wpAny_genState h ?_))));cases i with
 |running=>exact d.elim
 |finished=>exact d.elim
 |_ =>
  refine Jf (wpAny_roomToWake z e ?_);refine wpAny_resumeQ h d (λx s₁ D=>?_) (λv s₁ c j C=>?_)
  ·obtain⟨rfl,B⟩:=D;rcases f with rfl | rfl
   all_goals
    show JH _ A.in1 (TZ (.type "StopIteration") [] >>= _) _ _ _;refine Jf ?_;delta TZ newTuple;dsimp only;refine Jf (Kj ?_ (by size_fits));refine Jf (m:=Ls _ _) (MX (a:=L3) (by first | rfl | (simp only[Ls];rfl)) ?_);refine Kj ?_ (by size_fits);refine Jf (Jf (Oa ?_))
    first | refine(show A.in1.handled=none from q).symm▸?_ | rw[q]
    refine O6 ?_;refine Jf (L8 (T:="StopIteration") (b:=true) ⟨_,Ju _ rfl,rfl⟩ M5 ?_);exact Jk (u s₁ B _ (λb o j=>Jm _ (Jm _ j)) (by
     have:s₁.heap.objs.size<=((s₁.setGen g Qt.finished).heap.objs.size):=Jl _;simp only[JA];exact bJ 18 20 this))
  ·exact Jk ⟨v,rfl,Jk (y v s₁ c j C)⟩
inductive Drawn(Gs:List Str->Js->Prop)(X:Addr->Prop)(y:Str)(l:List Str)(s:Js)(r:Option Value)(s':Js):Prop
 |mk (u:Qx) (e:r=Jh (.str y u)) (h:Gs l s') (t:s.toks<=s'.toks) (k:∀b o,X b->s.heap.get? b=Jh o->cH o->s'.heap.get? b=Jh o)
inductive Dx(Fin:Js->Prop)(X:Addr->Prop)(s:Js)(r:Option Value)(s':Js):Prop
 |mk (e:r=none) (h:Fin s') (t:s.toks<=s'.toks) (k:∀b o,X b->s.heap.get? b=Jh o->cH o->s'.heap.get? b=Jh o)
structure uN(A:Around)(I:Addr)(X:Addr->Prop)(Gs:List Str->Js->Prop)(Fin:Js->Prop):Prop where
 typ:∀l s,Gs l s->s.TypeIs (.ref I) "generator"
 next:∀y l s,Gs (y::l) s->Wp A (LV (.ref I)) (Drawn Gs X y l s) s
 stop:∀s,Gs [] s->Wp A (LV (.ref I)) (Dx Fin X s) s
 self:∀l s (P:Value->Js->Prop) (E:Value->Js->Prop),Gs l s->P (.ref I) s->JH (Jz W.prog W.w) A (MV (.ref I)) P E s
 frame:∀l s a h' tk,Gs l s->X a->Kx a s.heap h'->s.toks<=tk->Gs l {s with heap:=h',toks:=tk}
noncomputable def AN(S:Addr)(l:List Str)(s:Js):Prop:=∃a c,s.heap.get? S=Jh (Kd.lst.obj a c)/\Ql a.toList l
variable {I:Addr}{S:Addr}{d:List Str->Js->Prop}{Fin:Js->Prop}{R:Result->Js->Prop}
mutual
theorem strs_snoc{y u}:∀ {vs:List Value} {l:List Str},Ql vs l->Ql (vs++[.str y u]) (l++[y])
 |Z,Y,h=>by
  induction h with
  |nil=>exact .cons _ u .nil
  |cons y t Z a=>exact .cons y t a
theorem p7:∀ {vs:List Value} {l:List Str},Ql vs l->vs.length=l.length
 |Z,Y,h=>by
  induction h with
  |nil=>rfl
  |cons y t Z a=>exact congrArg (· + 1) a
end
theorem ky(g:uN A.in1 I (· =S) d Fin)(j:Value):∀(l k:List Str) (s:Js),k.length+l.length<=sizeLine->d l s->AN S k s ->
  (∀s',Fin s'->AN S (k++l) s'->R (.ok (.ret j)) s')->NC (Jz W.prog W.w) A (.builtin "list.extend.loop" ⟨[.ref S,.ref I,j],[]⟩) R s
 |[],k,s,hz,i,⟨a,c,x,f⟩,v=>by
  refine Mh Mn ?_;refine(LH Kz _).symm▸?_;refine Jf (JB (g.stop s i) (λr s' q=>?_) λZ Y e=>e.elim);obtain⟨e,z,E,B⟩:=q;subst e;exact Jk (v s' z ⟨a,c,B S _ rfl x (Kd.solid ..),by rw[JO];exact f⟩)
 |y::l,k,s,hz,i,⟨a,c,x,f⟩,v=>by
  refine Mh Mn ?_;refine(LH Kz _ ..).symm▸?_;show JH _ A.in1 (LV (.ref I) >>= _) _ _ s;refine Jf (JB (g.next y l s i) (λr s' q=>?_) λZ Y e=>e.elim);obtain⟨u,e,p,E,B⟩:=q;subst e;have o:=B S _ rfl x (Kd.solid ..);have C:=p7 f;rw[Jx] at C;rw[J5] at hz;refine Jf ?_;refine Lx o rfl (Jk ⟨Nn Kz _,ky g j l (k++[y]) _ (by refine(Ji).symm▸?_;exact bZ 11 17 hz) (g.frame l s' S _ s'.toks p rfl (J2 ..) (Jl _)) ⟨a.push (.str y u),_,J0 (Kq (·.push (.str y u))) o rfl,by rw[Mc];exact strs_snoc f⟩ λD z h=>v D z (by rw[Jv] at h;exact h)⟩)
   (by exact bZ 18 21 hz C) (by show(a.push (.str y u)).size<=sizeLine+1;refine(MC ..).symm▸?_;exact d7 18 22 hz C)
theorem sM(g:uN A.in1 I (· =S) d Fin){l}(i:Value)(j:Nat)(c:d l s)(o:S≠I)(p:s.heap.get? S=Jh (Kd.lst.obj #[] j))(x:l.length<=sizeLine)(u:∀s',Fin s'->AN S l s'->R (.ok (.ret i)) s') :
  JH (Jz W.prog W.w) A.in1 (O1 (.ref S) (.ref I) i)
   (λfin s'=>match fin with | .done f=>R (.ok f) s' | .again c'=>c'.quiet=true/\NC (Jz W.prog W.w) A c' R s') (λe s'=>R (.error e) s') s:=by
 refine Jf (Qb (g.typ _ _ c) ?_);have r:Mg (.ref S) (.ref I)=false:=by simp [Mg,o]
 rw[if_neg (by rw[r];decide)];refine Jf (g.self _ _ _ _ c ?_);refine Jf (JD ?_);refine Jf (LP (g.typ _ _ c) PySem.F.gen_no_len ?_);refine Jf (LP (g.typ _ _ c) PySem.F.gen_no_hint ?_);refine Jk ?_;show JH _ A.in1 (rule "list.extend.makes-room" >>= λZ=>PT (.ref S) >>= λZ =>
  Vp (.builtin "list.extend.loop" ⟨[.ref S,.ref I,i],[]⟩)) _ _ _
 refine Jf (LU ?_);refine Jf ?_;refine Jf (Lx p rfl ?_);have a:=J0 (Kq (·.push L3)) p rfl;refine Lx (hz:=by seq_fits) a rfl ?_;have h:=J0 (Kq (·.pop)) a rfl;have y:Kx S s.heap ((s.heap.update S (Kq (·.push L3))).update S (Kq (·.pop))) :=
  ⟨by simp only[lI],λb q=>(KL _ _ (Mj q)).trans (KL _ _ (Mj q))⟩
 exact Jk ⟨Nn Kz _,ky g _ l [] _ (by refine(Ol).symm▸?_;rw[Kf];exact x) (g.frame l s S _ s.toks c rfl y (Jl _)) ⟨_,_,h,.nil⟩ λs' v k=>u s' v k⟩
theorem qG{l Q}(a:S=s.heap.objs.size)(g:uN A.in1.in1 I (· =S) d Fin)(h:d l {s with heap:=s.heap.push (Kd.lst.obj #[] 0)})(f:S≠I)(k:l.length<=sizeLine)(i:∀s',Fin s'->AN S l s'->Q (.ref S) s'):Wp A (Ky (.type "list") [.ref I]) Q s:=by
 subst a;refine Vn (Q₁:=λobj s₁=>obj=.ref s.heap.objs.size/\s₁={s with heap:=s.heap.push {cls:=.type "list",data:=.seq #[]}}) Q8 (Qz _) QD
  (VK _ ⟨rfl,rfl⟩) λobj s₁ c=>?_
 obtain⟨rfl,rfl⟩:=c;have a:(s.heap.push {cls:=.type "list",data:=.seq #[]}).get? s.heap.objs.size=Jh {cls:=.type "list",data:=.seq #[]}:=Ju _ rfl;refine⟨⟨_,a,rfl⟩,Qo _ _,?_⟩;show JH _ A.in1.in1 (do let old <-PU (.ref s.heap.objs.size);Nq (.ref s.heap.objs.size) (λZ=>#[]);letGo old.toList.reverse;O1 (.ref s.heap.objs.size) (.ref I) .none) _ _ _;refine Jf ?_;refine Jf (Kr a rfl (Jk ?_));refine Jf (Lx a rfl ?_);refine Jf (N2 ?_);refine sM (A:=A.in1) (s:={s with heap:=(s.heap.push {cls:=.type "list",data:=.seq #[]}).update s.heap.objs.size (Kq (λZ=>#[]))}) g .none _ (g.frame l {s with heap:=s.heap.push {cls:=.type "list",data:=.seq #[]}} s.heap.objs.size _ s.toks h rfl (J2 ..) (Jl _)) f (J0 (Kq (λZ=>(#[]:Array Value))) a rfl) k λs' j e=>⟨rfl,i s' j e⟩
noncomputable def pM(A:Around)(c:Code)(F:cU)(lc:Lc)(ys:List Str):Prop :=
 ∀G σ s,G.A=A->G.F=F->G.ys=ys->G.Ok->kU G ⟨[],[]⟩ σ lc [] ys s s->SG G ys.length s c ((Jz W.prog W.w).den c) [] s
variable {X:Addr->Prop}{p:Nat->Prop}{s₁:Js}{s₂:Js}{g:Nat}{x:Qt}{y:Qt}
mutual
theorem sE(i:Inv s)(d:x.bare=true):Inv (s.setGen g x):=by
 refine⟨i.old,i.stat,i.os,λy c=>?_,i.size,i.tk,i.tb⟩;unfold Qy at c;obtain⟨j,a,rfl⟩:=Array.mem_iff_getElem.mp c;rw[Mz] at a;refine(Array.getElem_setIfInBounds a).symm▸?_
 split
 ·exact d
 ·exact i.bare _ (Array.getElem_mem a)
theorem u9{j}(h:j≠g):(s.setGen g x).gens[j]?=s.gens[j]?:=Array.getElem?_setIfInBounds_ne (Mj h)
theorem qf:(s.setGen g x).gens.size=s.gens.size:=Mz
end
theorem nu(h:s.gens[g]?=Jh y):(s.setGen g x).gens[g]?=Jh x:=by
 have:=(Array.getElem?_eq_some_iff.mp h).1;unfold Qy;simp [this]
theorem gc(i:Inv s)(d:x.bare=true)(a:p g):Bt X p s (s.setGen g x) :=
 ⟨sE i d,λZ Y h U P=>h,Jl _,λj st h c=>by refine(u9 (show j≠g from λe=>c (e▸a))).symm▸?_;exact h,JX qf.symm,Jl _⟩
theorem Bt.trans(x:Bt X p s s₁)(y:Bt X p s₁ s₂):Bt X p s s₂ :=
 ⟨y.inv,λb o h so a=>y.keep b o (x.keep b o h so a) so a,Jn x.grow y.grow,λj st h a=>y.gkeep j st (x.gkeep j st h a) a,Jn x.ggrow y.ggrow,Jn x.tgrow y.tgrow⟩
structure zj(G:GC)(s₀ s:Js):Prop where
 keep:∀b o,b<G.N->s₀.heap.get? b=Jh o->cH o->b≠G.F.L->¬G.X b->s.heap.get? b=Jh o
 gkeep:∀g y,g<G.NG->s₀.gens[g]?=Jh y->¬G.XG g->s.gens[g]?=Jh y
 grow:s₀.heap.objs.size<=s.heap.objs.size
 ggrow:s₀.gens.size<=s.gens.size
 tgrow:s₀.toks<=s.toks
mutual
theorem zj.refl{G s}:zj G s s:=⟨λZ Y U h P L J=>h,λZ Y U h P=>h,Jl _,Jl _,Jl _⟩
theorem zj.since{G s₀ s s'}(t:zj G s₀ s)(x:mR G s s'):zj G s₀ s' :=
 ⟨λb o c h so a e=>x.keep b o c (t.keep b o c h so a e) so a,λj y d h f=>x.gkeep j y d (t.gkeep j y d h f),Jn t.grow x.grow,Jn t.ggrow x.ggrow,Jn t.tgrow x.tgrow⟩
end
theorem zj.bt{G s₀ s s'}(t:zj G s₀ s)(x:Bt G.X G.XG s s'):zj G s₀ s' :=
 ⟨λb o e h so d a=>x.keep b o (t.keep b o e h so d a) so a,λj y f h c=>x.gkeep j y (t.gkeep j y f h c) c,Jn t.grow x.grow,Jn t.ggrow x.ggrow,Jn t.tgrow x.tgrow⟩
structure IA(G:GC)(I:Addr)(o:Obj)(g:Nat)(s₀:Js)(l:List Str)(s:Js):Prop where
 obj:s.heap.get? I=Jh o
 inv:Inv s
 tot:zj G s₀ s
 suf:l <:+ G.ys
 size:G.N<=s.heap.objs.size
 gsize:G.NG<=s.gens.size
 go:∃gs,s.gens[g]?=Jh gs/\∀s',Bt G.X G.XG s s'->gs.Goes (Jz W.prog W.w) G.A (λn s₀ r s₁=>r=.ok (.ret .none)/\n=0/\Inv s₁/\mR G s₀ s₁/\rK G.F.L s₁) (GY G) l.length (.send .none) s'
theorem yh{A}{G:GC}{I:Addr}{g o s₀}(T:bK)(J:G.A=A.in1)(hA:A.handled=none)(v:A.depth<recursionLimit)(ok:G.Ok)(hI:I<G.N)(ac:I≠G.F.L)(ae:¬G.X I)(z:∀h:Heap,h.get? I=Jh o->h.IsGen I g)(i:G.XG g)(hX:∀b,G.X b->W.h₁.objs.size<=b) :
  uN A I G.X (IA G I o g s₀) (λs'=>Inv s'/\zj G s₀ s'/\rK G.F.L s'):=by
 have so:∀ {s:Js},s.heap.get? I=Jh o->cH o:=λh=>by obtain⟨o',_,_,h1,h2,_⟩:=z _ h;have h1:=h▸h1;cases h1;exact bN h2
 refine⟨λl s h=>(z _ h.obj).typeIs,λy l s h=>?_,λs h=>?_,λl s P E h hP=>wpAny_pyIter_gen (z _ h.obj) hP,λl s a h' tk h ha hs ht=>?_⟩
 ·obtain⟨gs,j,r⟩:=h.go;have run:=gc (X:=G.X) (x:=.running) h.inv rfl i;have d:=r _ run;rw[J] at d;refine wpAny_toks (qA (fin:=.ret .none) (.inr rfl) hA (h.inv.nolimit T) v (z _ h.obj) j d (λv' s₂ w M hy B=>?_) (λs₂ hp=>absurd hp.1 (P0 _)));refine Jg λzz=>?_;obtain⟨k,y',u,af,hv,S,f,C,_,D⟩:=hy;obtain⟨k',R,aa⟩:=wN h.suf;refine zz ?_;have ek:k=k':=by simp only[J5,MM] at S;exact d7 18 23 S aa
  subst ek;cases af.symm.trans R;have ab:s₂.gens[g]?=Jh .running:=C.gkeep g _ (ok.xg g i) (nu j);have c:=gc (X:=G.X) (x:=w) f M i;exact⟨u,congrArg Jh hv,⟨C.keep I o hI h.obj (so h.obj) ac,c.inv,((h.tot.bt run).since C).bt c,(SQ _ _).trans h.suf,Jn h.size C.grow,Jn h.gsize (Jn run.ggrow (Jn C.ggrow c.ggrow)),w,nu ab,λs' Q=>by rw[J];exact D s' (c.trans Q)⟩,B,λb o p z so=>C.keep b o (ok.x b p).1 z so (ok.x b p).2⟩
 ·obtain⟨gs,j,r⟩:=h.go;have run:=gc (X:=G.X) (x:=.running) h.inv rfl i;have d:=r _ run;rw[J] at d;refine wpAny_toks (qA (fin:=.ret .none) (.inr rfl) hA (h.inv.nolimit T) v (z _ h.obj) j d (λv' s₂ w M hy B=>?_) (λs₂ hp h' D hz B=>?_))
  ·obtain⟨_,_,_,_,_,_,f,_,_,D⟩:=hy;exact(D _ (gc (X:=G.X) (x:=w) f M i)).elim
  ·obtain⟨_,f,C,oL,ag,ah⟩:=hp;have c:=gc (X:=G.X) (x:=.finished) f rfl i;have H:=k8 (k:=s₂.toks) c.inv D hz (Jl _);exact⟨rfl,⟨H,((h.tot.bt run).since C).bt (c.trans ⟨H,λb o M Z Y=>D b o M,hz,λZ Y h U=>h,Jl _,Jl _⟩),oL,D _ _ ag,ah⟩,B,λb o p z so=>D b o (C.keep b o (ok.x b p).1 z so (ok.x b p).2)⟩
 ·have i':=jQ (X:=(· =a)) (k:=tk) T h.inv (λb e=>e▸hX a ha) (λb o q e=>(hs.2 b q).trans e) (JX hs.1.symm) ht;have bt:Bt G.X G.XG s {s with heap:=h',toks:=tk}:=⟨i',λb o M so hn=>(hs.2 b (λe=>hn (e▸ha))).trans M,JX hs.1.symm,λZ Y h U=>h,Jl _,ht⟩
  obtain⟨gs,j,r⟩:=h.go;exact⟨(hs.2 I λe=>ae (e▸ha)).trans h.obj,i',h.tot.bt bt,h.suf,Jn h.size bt.grow,h.gsize,gs,j,λs' Q=>r s' (bt.trans Q)⟩
variable {F:cU}{lc:Lc}{st:St}{Q:V->St->Prop}
theorem kA{body ys}(h:∀G:GC,G.A=A->G.F=F->G.ys=ys->G.Ok->jX G ⟨[],[]⟩ (.func body F.env) [] body lc [] ys λf Z Y c=>c=[]/\(f=.next∨f=.ret .n)):pM A (.func body F.env) F lc ys:=by
 intro G σ s u o k ok g;have v:=h G u o k ok;subst o;refine seg_func (v _ _ id id σ s s rfl (λf z σ' x y c a s' r q d=>?_) g);obtain⟨rfl,j⟩:=q;have fin:SG G 0 a (.func body G.F.env) (.pure (.done (.ret .none))) [] s':=seg_end (.ok (.ret .none)) ⟨rfl,rfl,d.p.i,d.since,d.so⟩;rcases j with rfl | rfl
 ·cases r;exact fin
 ·obtain⟨w,rfl,e⟩:=r;subst e;exact fin
structure Vm where
 js:List Nat
 ml:List (Nat×List V)
noncomputable def kR(h:Nat):List Nat->Option Nat
 |[]=>none
 |k::a=>match k == h with
  |true=>Jh 0
  |false=>(kR h a).map (· + 1)
theorem yg(h k:Nat)(a:List Nat):kR h (k::a)=match k == h with | true=>Jh 0 | false=>(kR h a).map (· + 1):=rfl
theorem pn{h a}:∀ {j:Nat},kR h a=Jh j->a[j]?=Jh h:=by
 induction a with
 |nil=>intro j e;cases e
 |cons k a d =>
  intro j e;rw[yg] at e;cases q:k == h with
  |true=>have e:=q▸e;cases e;refine(eq_of_beq q).symm▸?_;rfl
  |false =>
   replace e:=q▸e;obtain⟨i,c,rfl⟩:=LZ.mp e;exact d c
noncomputable def Vm.at(m:Vm)(h:Nat):Option Nat:=kR h m.js
theorem Vm.uI{m:Vm}{h j}(e:m.at h=Jh j):m.js[j]?=Jh h:=pn e
mutual
noncomputable def V.vw(m:Vm):V->Option V
 |.r h=>match m.ml.lookup h with
  |some vs=>Jh (.c .lst vs)
  |none=>(m.at h).map .r
 |.bm x h=>(m.at h).map (.bm x)
 |.c k vs=>match k with
  |.lst=>Jh (.c .lst vs)
  |.tup=>(V.rP m vs).map (.c .tup)
  |.cls C=>(V.rP m vs).map (.c (.cls C))
 |.v w=>Jh (.v w)
 |.i x=>Jh (.i x)
 |.f x=>Jh (.f x)
 |.s x t=>Jh (.s x t)
 |.o ob=>Jh (.o ob)
 |.g x=>Jh (.g x)
 |.rg x y=>Jh (.rg x y)
noncomputable def V.rP(m:Vm):List V->Option (List V)
 |[]=>Jh []
 |x::vs=>match V.vw m x with
  |none=>none
  |some y=>(V.rP m vs).map (y:: ·)
end /-m-/
structure tD(m:Vm)(σ:Sg)(n:Nat)(s:Js)(k:Nat)(vs:List V):Prop where
 lt:k<n
 off:k∉m.js
 list:∃items j,s.heap.get? (σ.a k)=Jh (Kd.lst.obj items j)/\items.size<=sizeLine/\cf σ 0 s vs items.toList
noncomputable def Sg.vw(σ:Sg)(m:Vm):Sg:=⟨λh=>σ.a (m.js.getD h 0),λb=>σ.z b∨∃k vs,m.ml.lookup k=Jh vs/\σ.a k=b⟩
variable {σ:Sg}{n:Nat}{m:Vm}
theorem fE{h k}(e:m.js[h]?=Jh k):(σ.vw m).a h=σ.a k/\h<m.js.length:=by
 refine⟨?_,(List.getElem?_eq_some_iff.mp e).1⟩;show σ.a (m.js.getD h 0)=_;refine(QE).symm▸?_;refine(e).symm▸?_;rfl
theorem tI{v w}(q:RV σ 0 s v w){k}:RV (σ.vw m) k s v w :=
 RV.cq (X:=de) (n:=0) (σ:=σ) (σ':=σ.vw m) (s:=s) ⟨λZ=>.inl,λZ Y h U P L=>h,Jl _⟩ (λZ Y=>⟨id,λZ q=>absurd q (Jy _)⟩) v 0 k (λZ q=>absurd q (Jy _)) w q
theorem wC{vs ws}(q:cf σ 0 s vs ws){k}:cf (σ.vw m) k s vs ws:=cf.nJ (λv Z w q=>tI q) ws q
theorem wA{k vs}(d:k.wo=λn=>n)(p:∀us,V.rP m vs=Jh us->∀ws,cf σ n s vs ws->cf (σ.vw m) m.js.length s us ws){v}(h:(V.rP m vs).map (V.c k)=Jh v){w}(q:RV σ n s (.c k vs) w):RV (σ.vw m) m.js.length s v w:=by
 obtain⟨us,g,rfl⟩:=LZ.mp h;obtain⟨a,items,j,e,hz,i,o,f⟩:=q;rw[d] at f;exact⟨a,items,j,e,.inl hz,i,o,by rw[d];exact p us g _ f⟩
mutual
theorem V.AV{m k vs}(e:m.ml.lookup k=Jh vs):V.vw m (.r k)=Jh (.c .lst vs):=by
 change (match m.ml.lookup k with | Jh vs=>Jh (V.c .lst vs) | none=>(m.at k).map .r)=_
 exact(e ..).symm▸rfl
theorem V.wB{m k}(e:m.ml.lookup k=none):V.vw m (.r k)=(m.at k).map .r:=by
 change (match m.ml.lookup k with | Jh vs=>Jh (V.c .lst vs) | none=>(m.at k).map .r)=_
 exact(e ..).symm▸rfl
end
theorem dW(M:∀k vs,m.ml.lookup k=Jh vs->tD m σ n s k vs)(u:V):∀v,V.vw m u=Jh v->∀w:Value,RV σ n s u w->RV (σ.vw m) m.js.length s v w :=
 V.rec (motive_1:=λu=>∀v,V.vw m u=Jh v->∀w:Value,RV σ n s u w->RV (σ.vw m) m.js.length s v w) (motive_2:=λus=>∀vs,V.rP m us=Jh vs->∀ws:List Value,cf σ n s us ws->cf (σ.vw m) m.js.length s vs ws)
  (λw v h=>by cases h;exact λZ=>id) (λx v h=>by cases h;exact λZ=>id) (λx v h=>by cases h;exact λZ=>id) (λx t v h=>by cases h;exact λZ=>id)
  (λk vs r v h w q=>by
   cases k with
   |lst=>cases h;exact tI q
   |tup=>exact wA rfl r h q
   |cls C=>exact wA rfl r h q)
  (λk v h w q=>by
   cases e:m.ml.lookup k with
   |some vs =>
    have h:=(V.AV e).symm.trans h;cases h;refine Jg λF=>?_;obtain⟨items,j,c,A,B⟩:=(M k vs e).list;refine F ?_;exact⟨σ.a k,items,j,q.2,.inr ⟨k,vs,e,rfl⟩,c,A,wC B⟩
   |none =>
    obtain⟨j,d,rfl⟩:=LZ.mp ((V.wB e).symm.trans h);have:=fE (σ:=σ) (Vm.uI d);exact⟨this.2,q.2.trans (congrArg J3 this.1.symm)⟩)
  (λo v h w q=>by cases h;exact q.casesOn λa e hz c so=>⟨a,e,.inl hz,c,so⟩)
  (λb k v h w q=>by
   obtain⟨j,d,rfl⟩:=LZ.mp h;have:=fE (σ:=σ) (Vm.uI d);obtain⟨a,e,hz,c,G⟩:=q;exact⟨a,e,.inl hz,by refine(this.1).symm▸?_;exact c,this.2⟩)
  (λb v h=>by cases h;exact λZ=>id) (λx y v h w q=>by cases h;exact q.casesOn λa t u v e hz c=>⟨a,t,u,v,e,.inl hz,c⟩)
  (λvs h=>by cases h;exact λZ=>id)
  (λv vs g i us h ws q=>by
   change (match V.vw m v with | none=>none | Jh y=>(V.rP m vs).map (y:: ·))=_ at h
   cases e:V.vw m v with
   |none=>have h:=e▸h;cases h
   |some u =>
    have h:=(e ..)▸h;obtain⟨p,d,rfl⟩:=LZ.mp h;obtain⟨w,f,z,D,E⟩:=q;exact⟨w,f,z,g u e w D,i p d f E⟩) u
theorem ng(M:∀k vs,m.ml.lookup k=Jh vs->tD m σ n s k vs){vs us}(h:V.rP m vs=Jh us){ws}(q:cf σ n s vs ws):cf (σ.vw m) m.js.length s us ws:=by
 induction vs generalizing us ws with
 |nil=>cases h;exact q
 |cons v vs f =>
  change (match V.vw m v with | none=>none | Jh y=>(V.rP m vs).map (y:: ·))=_ at h
  cases e:V.vw m v with
  |none=>have h:=e▸h;cases h
  |some u =>
   replace h:=e▸h;obtain⟨j,d,rfl⟩:=LZ.mp h;obtain⟨w,a,c,g,i⟩:=q;exact⟨w,a,c,dW M v u e w g,f d i⟩
noncomputable def tK{K:Type}(m:Vm):List (K×V)->Option (List (K×V))
 |[]=>Jh []
 |p::l=>match V.vw m p.2 with
  |none=>none
  |some u=>(tK m l).map ((p.1,u):: ·)
theorem a9{K}{m:Vm}{x:K}{v u:V}{l l':List (K×V)}(h:V.vw m v=Jh u)(t:tK m l=Jh l'):tK m ((x,v)::l)=Jh ((x,u)::l'):=by
 change (match V.vw m v with | none=>none | Jh u=>(tK m l).map ((x,u):: ·))=_
 rw[h,t];rfl
theorem tJ{K:Type}{p:K×V}{l l':List (K×V)}(h:tK m (p::l)=Jh l'):∃u l'',V.vw m p.2=Jh u/\tK m l=Jh l''/\l'=(p.1,u)::l'':=by
 change (match V.vw m p.2 with | none=>none | Jh u=>(tK m l).map ((p.1,u):: ·))=_ at h
 cases e:V.vw m p.2 with
 |none=>have h:=e▸h;cases h
 |some u =>
  replace h:=e▸h;obtain⟨a,c,rfl⟩:=LZ.mp h;exact⟨u,a,rfl,c,rfl⟩
theorem wD(M:∀k vs,m.ml.lookup k=Jh vs->tD m σ n s k vs){K l}:∀ {l':List (K×V)} {ws:List (K×Value)},tK m l=Jh l'->RK σ n s l ws->RK (σ.vw m) m.js.length s l' ws:=by
 induction l with
 |nil=>intro l' ws h;cases h;exact id
 |cons p l d =>
  intro l' ws h q;obtain⟨u,i,g,c,rfl⟩:=tJ h;obtain⟨j,w,r,e,o,f⟩:=q;cases ws with
  |nil=>cases e
  |cons y ws =>
   cases e;have a:=KP j;exact⟨congr (congrArg List.cons a.1) (d c ⟨a.2,f⟩).1,_,_,rfl,dW M _ _ g _ o,(d c ⟨a.2,f⟩).2⟩
theorem pV{l x}:∀ {l':List (Str×V)},tK m l=Jh l'->(l.lookup x=none/\l'.lookup x=none)∨∃v u,l.lookup x=Jh v/\l'.lookup x=Jh u/\V.vw m v=Jh u:=by
 induction l with
 |nil=>intro l' h;cases h;exact .inl ⟨rfl,rfl⟩
 |cons p l d =>
  intro l' h;refine Jg λg=>?_;obtain⟨u,f,a,c,rfl⟩:=tJ h;refine g ?_;rw[JS,JS];cases e:x == p.1 with
  |true=>exact .inr ⟨p.2,u,rfl,rfl,a⟩
  |false=>exact d c
noncomputable def O.vw(m:Vm):O->Option O
 |.list vs=>(V.rP m vs).map .list
 |.dict a=>(tK m a).map .dict
 |.dicti a=>(tK m a).map .dicti
 |.set l=>Jh (.set l)
 |.inst C d=>(m.at d).map (.inst C)
 |.ns l=>(tK m l).map .ns
 |.fix x=>Jh (.fix x)
 |.gone=>Jh .gone
 |.cell v=>match v with
  |none=>Jh (.cell none)
  |some v=>(V.vw m v).map λu=>.cell (Jh u)
 |_=>none
theorem vr(M:∀k vs,m.ml.lookup k=Jh vs->tD m σ n s k vs){o o' a}(h:O.vw m o=Jh o')(q:RO σ n s a o):RO (σ.vw m) m.js.length s a o'/\∀g c L,o'≠.gen g c L:=by
 cases o with
 |list vs=>obtain⟨us,p,rfl⟩:=LZ.mp h;obtain⟨items,k,i,r,A⟩:=q;exact⟨⟨items,k,i,r,ng M p A⟩,λZ Y U q=>O.noConfusion q⟩
 |dict B=>obtain⟨us,p,rfl⟩:=LZ.mp h;obtain⟨o,ws,i,r,A⟩:=q;exact⟨⟨o,ws,i,r,wD M p A⟩,λZ Y U q=>O.noConfusion q⟩
 |dicti B=>obtain⟨us,p,rfl⟩:=LZ.mp h;obtain⟨o,ws,i,r,A⟩:=q;exact⟨⟨o,ws,i,r,wD M p A⟩,λZ Y U q=>O.noConfusion q⟩
 |set l=>cases h;exact⟨q,λZ Y U q=>O.noConfusion q⟩
 |inst C d=>obtain⟨j,p,rfl⟩:=LZ.mp h;obtain⟨o,i,r,A,S,P⟩:=q;have:=fE (σ:=σ) (Vm.uI p);exact⟨⟨o,i,r,A.trans (congrArg Jh this.1.symm),this.2,P⟩,λZ Y U q=>O.noConfusion q⟩
 |ns l =>
  obtain⟨us,p,rfl⟩:=LZ.mp h;obtain⟨f,i,r,A⟩:=q;refine⟨⟨f,i,λx v e=>?_,λx e=>?_⟩,λZ Y U q=>O.noConfusion q⟩
  ·rcases pV (x:=x) p with ⟨_,z⟩ | ⟨D,u,F,E,G⟩
   ·have e:=z▸e;cases e
   ·have e:=E▸e;cases e;obtain⟨w,Q,R⟩:=r x D F;exact⟨w,Q,dW M D _ G w R⟩
  ·rcases pV (x:=x) p with ⟨z,_⟩ | ⟨D,u,F,E,G⟩
   ·exact A x z
   ·replace e:=E▸e;cases e
 |fix o=>cases h;exact⟨q,λZ Y U q=>O.noConfusion q⟩
 |gone=>cases h;exact⟨q,λZ Y U q=>O.noConfusion q⟩
 |cell v =>
  cases v with
  |none=>cases h;obtain⟨w,i,_⟩:=q;exact⟨⟨w,i,λZ e=>by cases e⟩,λZ Y U q=>O.noConfusion q⟩
  |some v=>obtain⟨u,p,rfl⟩:=LZ.mp h;obtain⟨w,i,r⟩:=q;obtain⟨y,H,J⟩:=r v rfl;exact⟨⟨w,i,λT e=>by cases e;exact⟨y,H,dW M v u p y J⟩⟩,λZ Y U q=>O.noConfusion q⟩
 |_=>cases h
theorem si(M:∀k vs,m.ml.lookup k=Jh vs->tD m σ n s k vs){o o' a}(h:O.vw m o=Jh o'∨o'=.gone)(q:RO σ n s a o):RO (σ.vw m) m.js.length s a o'/\∀g c L,o'≠.gen g c L :=
 h.elim (λh=>vr M h q) λe=>by subst e;exact⟨q.there,λZ Y U q=>O.noConfusion q⟩
noncomputable def zm(m:Vm)(st:St):List Nat->St->Prop
 |[],[]=>True
 |k::a,o::os=>(∃o',st[k]?=Jh o'/\(O.vw m o'=Jh o∨o=.gone))/\zm m st a os
 |Z,Y=>False
theorem zm.vw{m st k ks o o' os}(a:st[k]?=Jh o')(c:O.vw m o'=Jh o)(r:zm m st ks os):zm m st (k::ks) (o::os):=⟨⟨o',a,.inl c⟩,r⟩
theorem zm.out{m st k ks o o' os}(a:st[k]?=Jh o')(e:o=.gone)(r:zm m st ks os):zm m st (k::ks) (o::os):=⟨⟨o',a,.inr e⟩,r⟩
theorem zm.at_{st a}:∀ {os:St},zm m st a os->a.length=os.length/\∀(h:Nat) (o:O),os[h]?=Jh o->∃k o',a[h]?=Jh k/\st[k]?=Jh o'/\(O.vw m o'=Jh o∨o=.gone):=by
 induction a with
 |nil =>
  intro os h;cases os with
  |nil=>exact⟨rfl,λh o e=>by cases e⟩
  |cons=>exact h.elim
 |cons k a c =>
  intro os h;cases os with
  |nil=>exact h.elim
  |cons o os =>
   refine Jg λi=>?_;obtain⟨⟨o',d,f⟩,q⟩:=h;refine i ?_;refine⟨congrArg (· + 1) (c q).1,λh g e=>?_⟩;cases h with
   |zero=>cases e;exact⟨k,o',rfl,d,f⟩
   |succ h=>exact(c q).2 h g e
noncomputable def g9(vs:List V):Prop:=∀σ n s ws,cf σ n s vs ws->cf σ 0 s vs ws
noncomputable def Dt(m:Vm)(st:St)(k₀:Nat):List (Nat×List V)->Prop
 |[]=>True
 |p::l=>(k₀<=p.1/\p.1∉m.js/\st[p.1]?=Jh (.list p.2)/\g9 p.2)/\Dt m st k₀ l
theorem Dt.at_{st k₀ k vs l}(h:Dt m st k₀ l)(e:l.lookup k=Jh vs):k₀<=k/\k∉m.js/\st[k]?=Jh (.list vs)/\g9 vs:=by
 induction l with
 |nil=>cases e
 |cons p l a =>
  rw[JS] at e;cases q:k == p.1 with
  |true=>have e:=q▸e;cases e;refine(eq_of_beq q).symm▸?_;exact h.1
  |false=>have e:=q▸e;exact a h.2 e
theorem Dt.ok{st k₀}(h:Dt m st k₀ m.ml)(r:Rel σ st s)(k:Nat)(vs:List V)(e:m.ml.lookup k=Jh vs):tD m σ st.length s k vs:=by
 refine Jg λo=>?_;obtain⟨_,c,a,d⟩:=h.at_ e;obtain⟨items,j,f,g,i⟩:=r.at_ k _ a;refine o ?_;exact⟨(List.getElem?_eq_some_iff.mp a).1,c,items,j,f,g,d _ _ _ _ i⟩
structure nc(m:Vm)(k₀:Nat)(st st₂:St):Prop where
 nd:m.js.Nodup
 os:zm m st m.js st₂
 ml:Dt m st k₀ m.ml
 keep:∀h,h<k₀->h<st.length->m.js[h]?=Jh h
theorem nc.step{X k₀ st st₂}(v:nc m k₀ st st₂)(i:Inv s)(r:Rel σ st s):c8 X k₀ σ st s (σ.vw m) st₂ s:=by
 obtain⟨y,at_⟩:=v.os.at_;have M:=v.ml.ok r;have f:∀h,h<st₂.length->∃k,m.js[h]?=Jh k/\k<st.length:=λh q=>by
  refine Jg λD=>?_;obtain⟨k,o',d,a,_⟩:=at_ h _ (Jo q);refine D ?_;exact⟨k,d,(List.getElem?_eq_some_iff.mp a).1⟩
 have u:∀ {h h' k},h<st₂.length->m.js[h]?=Jh k->m.js[h']?=Jh k->h=h':=λq d a=>(List.getElem?_inj (by refine(y).symm▸?_;exact q) v.nd).mp (d.trans a.symm);refine⟨⟨λh q A=>?_,λh q=>?_,λZ=>.inl,λb q=>q.imp id λ⟨k,vs,e,p⟩=>.inl ⟨k,(v.ml.at_ e).1,(M k vs e).lt,p⟩,λZ Y h U P J=>h,Jl _,Jl _⟩,i,
  ⟨λh o e=>?_,λh q=>?_,λh k q A e=>?_,λb q=>q.elim (r.zlt b) λ⟨k,vs,e,p⟩=>p▸r.lt (M k vs e).lt,λb hz h q=>?_⟩,λZ Y h U=>h,λh g c L e=>?_,Jl _⟩
 ·have e:=v.keep h q A;exact⟨y▸(fE (σ:=σ) e).2,(fE e).1⟩
 ·obtain⟨k,d,a⟩:=f h q;by_cases x:k<k₀
  ·have:=u q d (v.keep k x a);subst this;exact .inl ⟨x,a⟩
  ·exact .inr (.inl ⟨k,Nat.not_lt.mp x,a,(fE d).1.symm⟩)
 ·obtain⟨k,o',d,a,w⟩:=at_ h o e;refine((fE d).1).symm▸?_;refine(y)▸?_;exact(si M w (r.at_ k o' a)).1
 ·obtain⟨k,d,a⟩:=f h q;refine((fE d).1).symm▸?_;exact r.above k a
 ·obtain⟨E,d,B⟩:=f h q;obtain⟨F,a,C⟩:=f k A;have e:=((fE d).1)▸e;have e:=((fE a).1)▸e;have:=r.inj _ _ B C e;subst this;exact u q d a
 ·obtain⟨k,d,a⟩:=f h q;refine((fE d).1).symm▸?_;refine hz.elim (λz=>r.zoff b z k a) λ⟨j,vs,e,p⟩ z=>?_;have:=r.inj _ _ a (M j vs e).lt (z.trans p.symm);subst this;exact(M _ vs e).off (Jr d)
 ·obtain⟨k,o',d,a,w⟩:=at_ h _ e;exact absurd rfl ((si M w (r.at_ k o' a)).2 g c L)
noncomputable def Fl.vw(m:Vm):Fl->Option Fl
 |.next=>Jh .next
 |.brk=>Jh .brk
 |.cont=>Jh .cont
 |.ret v=>(V.vw m v).map .ret
noncomputable def AM(m:Vm)(lc:Lc):Lc->Prop
 |[]=>True
 |p::l=>(∃v,lc.lookup p.1=Jh v/\V.vw m v=Jh p.2)/\AM m lc l
theorem AM.of{m lc l}(h:l.map (λp=>(lc.lookup p.1).bind (V.vw m))=(l.map (·.2)).map Jh):AM m lc l:=by
 induction l with
 |nil=>trivial
 |cons p l a=>exact⟨Option.bind_eq_some_iff.mp (KP h).1,a (KP h).2⟩
mutual
theorem AM.cons{m lc l x u v}(a:lc.lookup x=Jh v)(c:V.vw m v=Jh u)(t:AM m lc l):AM m lc ((x,u)::l):=⟨⟨v,a,c⟩,t⟩
theorem AB{m:Vm}(x:Str)(h:Nat)(e:([]:List (Str×Nat)).lookup x=Jh h):m.at h=Jh h:=nn e
end
theorem AM.at_{m lc l x v2}(h:AM m lc l)(e:l.lookup x=Jh v2):∃v,lc.lookup x=Jh v/\V.vw m v=Jh v2:=by
 induction l with
 |nil=>cases e
 |cons p l a =>
  rw[JS] at e;cases q:x == p.1 with
  |true=>have e:=q▸e;cases e;refine(eq_of_beq q).symm▸?_;exact h.1
  |false=>have e:=q▸e;exact a h.2 e
inductive DG(F:cU)(Q:Fl->Lc->St->Prop)(f:Fl)(lc:Lc)(st:St):Prop
 |mk (m:Vm) (f₂:Fl) (lc₂:Lc) (st₂:St) (h:nc m F.m st st₂) (hf:f.vw m=Jh f₂) (hc:∀x h,F.ce.lookup x=Jh h->m.at h=Jh h) (hl:AM m lc lc₂) (q:Q f₂ lc₂ st₂)
end
section
variable {A:Around}{F:cU}{lc:Lc}{σ:Sg}{st:St}{s:Js}{Q:Fl->Lc->St->Prop}
theorem Fe{m f f2 w n}(M:∀k vs,m.ml.lookup k=Jh vs->tD m σ n s k vs)(h:f.vw m=Jh f2)(q:RF σ n s f w):RF (σ.vw m) m.js.length s f2 w:=by
 cases f with
 |ret v=>obtain⟨u,a,rfl⟩:=LZ.mp h;obtain⟨w,rfl,hw⟩:=q;exact⟨w,rfl,dW M v u a w hw⟩
 |_=>cases h;exact q
theorem DG.pf{f w}(h:DG F Q f lc st)(i:Inv s)(r:Rel σ st s)(fr:dA F σ st.length lc s)(hw:RF σ st.length s f w):PF F σ st s Q w s:=by
 refine Jg λU=>?_;obtain⟨m,d,lc₂,st₂,h,H,hc,P,q⟩:=h;have M:=h.ml.ok r;have x:=h.step (X:=(· =F.L)) i r;have c:=h.os.at_.1;obtain⟨a,⟨g,p,R⟩,T,z,k,B,A,ce⟩:=fr;refine U ?_;have o:=p.lt;refine⟨σ.vw m,lc₂,st₂,x,⟨a,⟨g,p,λy v J S=>?_⟩,x.x.zoff o T z,x.x.off o z,k,B,A,λy j e=>?_⟩,d,c▸Fe M H hw,q⟩
 ·obtain⟨u,C,D⟩:=P.at_ S;obtain⟨w,E,G⟩:=R y u J C;exact⟨w,E,c▸dW M u v D w G⟩
 ·have:=fE (σ:=σ) (Vm.uI (hc y j e));exact⟨c▸this.2,by refine(this.1).symm▸?_;exact(ce y j e).2⟩
mutual
theorem q9{l}(h:bW A F l lc st (DG F Q)):bW A F l lc st Q:=λσ s p=>dc (h σ s p) λf s₁ o j k g x fr r q=>by
 obtain⟨d,lc₂,st₂,y,a,e,c,i⟩:=q.pf x.inv x.rel fr r;exact⟨d,lc₂,st₂,x.trans y,a,e,c,i⟩
theorem jw{c}(h:dN A F c lc st (DG F Q)):dN A F c lc st Q:=λσ s p=>dc (h σ s p) λf s₁ r k o g x fr u q=>by
 obtain⟨e,lc₂,st₂,y,a,i,d,j⟩:=q.pf x.inv x.rel fr u;exact⟨e,lc₂,st₂,x.trans y,a,i,d,j⟩
end
noncomputable def EB(A:Around)(F:cU)(l:List Stmt)(Q:Fl->Lc->St->Prop)(f:Fl)(lc:Lc)(st:St):Prop:=match f with
 |.next=>bW A F l lc st Q
 |_=>False
theorem lh{l}(h:DG F (EB A F l Q) .next lc st):bW A F l lc st Q:=λσ s p=>by
 obtain⟨d,lc₂,st₂,y,c,e,g,a⟩:=h.pf p.i p.r p.f (w:=.next) rfl;cases e with
 |next=>exact h8 y (a d s ⟨y.inv,y.rel,c⟩)
 |_=>exact a.elim
inductive Hs(k₀:Nat)(Q:V->St->Prop)(v:V)(st:St):Prop
 |mk (m:Vm) (v₂:V) (st₂:St) (h:nc m k₀ st st₂) (hv:V.vw m v=Jh v₂) (q:Q v₂ st₂)
theorem ig{f vs Q}(h:bI A f vs st (Hs st.length Q)):bI A f vs st Q:=λσ s w ws hw d i r=>bH (h σ s w ws hw d i r) λw s₁ g e v x j q=>by
 obtain⟨m,a,st₂,h,c,q⟩:=q;exact⟨_,st₂,(x.gQ.trans (h.step (X:=de) x.inv x.rel)).hO (Jl _),a,h.os.at_.1▸dW (h.ml.ok x.rel) v a c w j,q⟩
noncomputable def dO(a:Arguments)(dflt:Value)(names:List Str):Prop:=∀(fd:Mk) (ws:List Value),fd.params=a->fd.defaults=dflt->fd.kwdefaults=.none->ws.length=names.length->bindArgs fd ⟨ws,[]⟩=pure (names.zip ws)
mutual
theorem sA{c:Type}{l:List c}(h:l.length=1):∃a,l=[a]:=List.length_eq_one_iff.mp h
theorem xR{c:Type}{n}{l:List c}(h:l.length=n+1):∃a l',l=a::l'/\l'.length=n:=by
 cases l with
 |nil=>cases h
 |cons a l=>exact⟨a,l,rfl,Nat.succ.inj h⟩
end
theorem oY{c:Type}{l:List c}(h:l.length=2):∃a b,l=[a,b]:=by obtain⟨a,_,rfl,d⟩:=xR h;obtain⟨b,rfl⟩:=sA d;exact⟨a,b,rfl⟩
theorem zV{d:Type}{l:List d}(h:l.length=3):∃a b c,l=[a,b,c]:=by obtain⟨a,_,rfl,e⟩:=xR h;obtain⟨b,c,rfl⟩:=oY e;exact⟨a,b,c,rfl⟩
mutual
theorem ER{f:Type}{l:List f}(h:l.length=5):∃a b c d e,l=[a,b,c,d,e]:=by obtain⟨a,_,rfl,g⟩:=xR h;obtain⟨b,_,rfl,i⟩:=xR g;obtain⟨c,d,e,rfl⟩:=zV i;exact⟨a,b,c,d,e,rfl⟩
theorem RB.app{σ n s l m bs cs}(h:RB σ n s l bs)(h':RB σ n s m cs):RB σ n s (l++m) (bs++cs):=by
 induction l generalizing bs with
 |nil=>cases h;exact h'
 |cons p l f=>obtain⟨w,a,e,c,d⟩:=h;subst e;exact⟨w,a++cs,rfl,c,f d⟩
end
theorem RB.zip{σ n s}{names:List Str}:∀ {vs:List V} {ws:List Value},cf σ n s vs ws->RB σ n s (names.zip vs).reverse (names.zip ws).reverse:=by
 induction names with
 |nil=>intro vs ws _;exact rfl
 |cons x names d =>
  intro vs ws h;cases vs with
  |nil=>cases h;exact rfl
  |cons v vs =>
   obtain⟨w,f,e,a,c⟩:=h;subst e;rw[R4,R4,Me,Me];exact(d c).app ⟨w,[],rfl,a,rfl⟩
end
section
variable {A:Around}{st:St}{Q:V->St->Prop}
theorem cC{a q params body scope cd dflt names vs}(T:bK)(f:FnAt a q params body scope cd dflt)(g:scope.isCoroutine=false)(d:scope.isGenerator=false)(c:A.depth<recursionLimit)(u:dO params dflt names)(w:vs.length=names.length)(v:(names.all λx=>jt (scope.names.lookup x))=true)(h:∀L,bW (A.deeper (K5 q scope L a cd)) ⟨K5 q scope L a cd,[],st.length⟩ body (names.zip vs).reverse st λr Z j=>Q (sd r) j):iN A a vs st Q :=
 pA T f g d c (λσ n s ws fd i e k o p=>⟨names.zip ws,.of_eq (u fd ws k o p (e.len.trans w)),RB.zip e,λx y=>eC (PR.mp v _ (ME y).1)⟩) h
end
noncomputable def gO(lc:Lc):Lc->Prop
 |[]=>True
 |p::l=>lc.lookup p.1=Jh p.2/\gO lc l
mutual
theorem gO.of{lc l}(h:l.map (λp=>lc.lookup p.1)=(l.map (·.2)).map Jh):gO lc l:=by
 induction l with
 |nil=>trivial
 |cons p l a=>exact⟨(KP h).1,a (KP h).2⟩
theorem gO.is{lc l l'}(h:gO lc l)(e:l=l'):gO lc l':=e▸h
theorem gO.at_{lc l x v}(h:gO lc l)(e:l.lookup x=Jh v):lc.lookup x=Jh v:=by
 induction l with
 |nil=>cases e
 |cons p l a =>
  rw[JS] at e;cases q:x == p.1 with
  |true=>have e:=q▸e;cases e;refine(eq_of_beq q).symm▸?_;exact h.1
  |false=>have e:=q▸e;exact a h.2 e
end
inductive Gf(Q:Fl->Lc->St->Prop)(f:Fl)(lc:Lc)(st:St):Prop
 |mk (lc₂:Lc) (h:gO lc lc₂) (q:Q f lc₂ st)
section
variable {A:Around}{F:cU}{lc:Lc}{st:St}{Q:Fl->Lc->St->Prop}
theorem dA.sub{σ n s lc₂}(f:dA F σ n lc s)(h:gO lc lc₂):dA F σ n lc₂ s:=by
 refine Jg λr=>?_;obtain⟨a,⟨g,e,j⟩,q,p,k,d,c,ce⟩:=f;refine r ?_;exact⟨a,⟨g,e,λx v i o=>j x v i (h.at_ o)⟩,q,p,k,d,c,ce⟩
theorem eG{l}(h:bW A F l lc st (Gf Q)):bW A F l lc st Q:=λσ s p=>dc (h σ s p) λf s₁ c d a g x fr e q=>by
 obtain⟨lc₂,i,q⟩:=q;exact⟨c,lc₂,a,x,fr.sub i,g,e,q⟩
end
section
variable {K:Type}[DecidableEq K]
mutual
theorem mA(l:List (K×V))(k:K)(v:V)(k':K):b6 (gN l k v) k'=if k'=k then Jh v else b6 l k':=by
 induction l with
 |nil =>
  by_cases e:k=k'
  ·exact(eE e).trans (if_pos e.symm).symm
  ·exact(c9 e).trans (if_neg (Mj e)).symm
 |cons p l f =>
  by_cases e:p.1=k
  ·have c [DecidableEq K]:gN (p::l) k v=(p.1,v)::l:=if_pos e;refine(congrArg (b6 · k') (c)).trans ?_;by_cases d:p.1=k'
   ·exact(eE (p:=(p.1,v)) d).trans (if_pos (d.symm.trans e)).symm
   ·exact(c9 (p:=(p.1,v)) d).trans ((if_neg λq=>d (e.trans q.symm)).trans (c9 d)).symm
  ·have a [DecidableEq K]:gN (p::l) k v=p::gN l k v:=if_neg e;refine(congrArg (b6 · k') (a)).trans ?_;by_cases d:p.1=k'
   ·exact(eE d).trans ((if_neg λq=>e (d.trans q)).trans (eE d)).symm
   ·rw[c9 d,c9 d];exact f
theorem yG(l:List (K×V))(k:K)(v:V):(gN l k v).length<=l.length+1:=by
 induction l with
 |nil=>exact Jl _
 |cons p l a =>
  rw[pF]
  split
  ·exact JC _
  ·exact KW a
theorem yH{P:V->Prop}{l:List (K×V)}{k:K}{v:V}(h:∀p∈l,P p.2)(a:P v):∀p∈gN l k v,P p.2:=by
 induction l with
 |nil=>exact λp q=>by rw[O4.mp q];exact a
 |cons p l c =>
  rw[pF]
  split
  ·exact λr q=>(Ub.mp q).elim (λe=>by rw[e];exact a) λq=>h r (JR _ q)
  ·exact λr q=>(Ub.mp q).elim (λe=>by rw[e];exact h p (JJ ..)) λq=>c (λr q=>h r (JR _ q)) r q
end
end
theorem rS{K m}{l:List (K×V)}(h:∀p∈l,V.vw m p.2=Jh p.2):tK m l=Jh l:=by
 induction l with
 |nil=>rfl
 |cons p l a =>
  exact a9 (h p (JJ ..)) (a λr q=>h r (JR _ q))
noncomputable def c6(l:List Nat):List V:=l.map fun(n:Nat)=>.i (n:Int)
mutual
theorem f7{a:Type}{x v}{l:List (Str×a)}(h:l.lookup x=Jh v):(x,v)∈l:=by
 induction l with
 |nil=>cases h
 |cons p l c =>
  rw[JS] at h;cases e:x == p.1 with
  |true=>have h:=e▸h;cases h;refine(eq_of_beq e).symm▸?_;exact JJ ..
  |false=>have h:=e▸h;exact JR _ (c h)
theorem tq{a:Type}{l}{m:List a}(d:Nat):(l++m)[l.length+d]?=m[d]?:=by rw[JW (JG ..),LY]
theorem hZ{a:Array Qt}{y x}{j:Nat}(h:a[j]?=Jh x):(a.push y)[j]?=Jh x:=by
 have c:=(Array.getElem?_eq_some_iff.mp h).1;refine(Array.getElem?_push_lt c).symm▸?_;refine(h)▸?_;exact(J7 c).symm
end
theorem wR{X σ st s y ob k c L}(i:Inv s)(r:Rel σ st s)(v:y.bare=true)(w:L<st.length)(E:y=.fresh (c (σ.a L)))(G:s.toks<=k)(A:ob.isFreed=false)(B:(s.heap.push ob).IsGen s.heap.objs.size s.gens.size) :
  bO X σ st s (σ.new st.length s.heap.objs.size) (st++[.gen s.gens.size c L]) {s with heap:=s.heap.push ob,toks:=k,gens:=s.gens.push y}:=by
 have x:=dY (X:=X) (b:=s.heap.objs.size) (h':=s.heap.push ob) (k:=k) (o:=.gone) i r (Jl _) (λc y e=>Jm _ e) (by rw[JA];exact JC _) G (λZ=>⟨ob,Ju _ A,(show cH ob from by obtain⟨o,_,_,u,F,_⟩:=B;have u:=(Ju _ A)▸u;cases u;exact bN F)⟩) (by intro _ _ _ q;cases q);have f:(st++[O.gone]).length=st.length+1:=Ji;have g:(st++[O.gen s.gens.size c L]).length=st.length+1:=Ji;have D:Ext X σ st.length s (σ.new st.length s.heap.objs.size) (st.length+1) {s with heap:=s.heap.push ob,toks:=k,gens:=s.gens.push y}:=f▸⟨x.x.len,x.x.ext,x.x.new,x.x.z,x.x.znew,x.x.keep,x.x.grow,x.x.tgrow⟩;have kp:Kp de (σ.new st.length s.heap.objs.size) (st.length+1) {s with heap:=s.heap.push ob,toks:=k} (σ.new st.length s.heap.objs.size) {s with heap:=s.heap.push ob,toks:=k,gens:=s.gens.push y}:=⟨λZ h=>h,λZ Y h U P J=>h,Jl _⟩
 have p:=x.rel;refine⟨g▸D,⟨x.inv.old,x.inv.stat,x.inv.os,i.bare.push v,x.inv.size,x.inv.tk,x.inv.tb⟩,⟨λh o e=>?_,λh q=>p.above h (by rw[f];rw[g] at q;exact q),λh j q d=>p.inj h j (by rw[f];rw[g] at q;exact q) (by rw[f];rw[g] at d;exact d),p.zlt,λb q h d=>p.zoff b q h (by rw[f];rw[g] at d;exact d)⟩,λj z h Z=>hZ h,λh j c' C e=>?_,by refine(MC ..).symm▸?_;exact JC _⟩
 ·refine(g).symm▸?_;rcases LA h st.length with q | q
  ·rw[JU q] at e;have a:=p.at_ h o (by refine(JU q).trans ?_;exact e);rw[f] at a;exact a.cq kp (f▸p.apart) (λh q=>⟨q,rfl⟩) (λy v Z=>v) λZ Y U P=>hZ
  ·replace e:=(JW q)▸e;have d:h=st.length:=by
    have:=(List.getElem?_eq_some_iff.mp e).1;simp only[LC] at this;exact bM 19 0 this q
   subst d;have e:=(Lz ..)▸e;cases e;have M:(σ.new st.length s.heap.objs.size).a st.length=s.heap.objs.size:=if_pos rfl;have H:(σ.new st.length s.heap.objs.size).a L=σ.a L:=if_neg (J1 w:L≠st.length);exact⟨by rw[M];exact B,by rw[H,<-E];exact QP,Kh w⟩
 ·rcases LA h st.length with q | q
  ·rw[JU q] at e;exact .inl ⟨h,c',C,e⟩
  ·rw[JW q] at e;have d:h=st.length:=by
    have:=(List.getElem?_eq_some_iff.mp e).1;simp only[LC] at this;exact bM 19 0 this q
   subst d;rw[Lz] at e;cases e;exact .inr (Jl _)
section
variable {A:Around}{F:cU}{lc:Lc}{st:St}{Q:V->St->Prop}
theorem yn{a q params body scope cd dflt names vs}(T:bK)(f:FnAt a q params body scope cd dflt)(F:scope.isCoroutine=false)(u:scope.isGenerator=true)(p:A.depth<recursionLimit)(hb:dO params dflt names)(hn:vs.length=names.length)(hl:(names.all λx=>jt (scope.names.lookup x))=true)(G:gO (names.zip vs).reverse lc)(h:∀g,(∀(j:Nat) c L,st[j]?≠Jh (.gen g c L))->Q (.r (st.length+1)) ((st++[.frm lc])++[.gen g (λL=>.func body (K5 q scope L a cd)) st.length])):bI A (.v (.ref a)) vs st Q:=by
 intro σ s w ws hw B i r;subst hw;obtain⟨o,fd,h1,h2,h3,M,U,Y,D,Z,e6,e7,e8,P,C,R,S,kd,cl⟩:=f;have E:=hb fd ws U e7 e8 (B.len.trans hn);refine Lh (codeAny_call_generator p (i.old.get_of_cls h1 h2) h3 (D▸F) (D▸u) Y (by refine(P ..).symm▸?_;refine(M ..).symm▸?_;exact code_at i R S) (Qw.of_eq E _ _ _ _ ?_));refine(D).symm▸?_;refine(Z).symm▸?_;refine(e6).symm▸?_;refine(P).symm▸?_;refine(C).symm▸?_;refine(M).symm▸?_;refine O7 cl (λx hx=>eC (PR.mp hl _ (ME hx).1):∀x∈names.zip ws,scope.names.lookup x.1=Jh .local) (λh' H z=>?_) kd;have d:=dY (X:=de) (k:=s.toks+(names.zip ws).length) (o:=.frm lc) i r (Jl _) (λb o e=>(z.2 b (J1 (JE e))).trans (Jm _ e):∀b o,s.heap.get? b=Jh o->h'.get? b=Jh o) (by refine((show h'.objs.size=s.heap.objs.size+1 from by refine(z.1 ..).symm▸?_;exact(JA ..).symm▸rfl)).symm▸?_;exact JC _) (JG _ _)
  (λx=>⟨_,H,λy v e=>by
   obtain⟨w,q1,q2⟩:=(RB.zip (names:=names) B).look (G.at_ e);exact⟨w,q1,RV.mono x r.apart v w q2⟩⟩) (by intro _ _ _ q;cases q)
 refine⟨d.inv.nolimit T,?_⟩;have J:(st++[O.frm lc]).length=st.length+1:=Ji;have me:(σ.new st.length s.heap.objs.size).a st.length=s.heap.objs.size:=if_pos rfl;refine⟨_,_,d.trans (wR (X:=de) (y:=.fresh (.func body (K5 q scope s.heap.objs.size a cd))) (ob:={cls:=.type "generator",data:=.fields #[.int s.gens.size 0,.str fd.name (s.toks+(names.zip ws).length),.str q (s.toks+(names.zip ws).length+1)]}) (k:=s.toks+(names.zip ws).length+1+1) (c:=λL=>.func body (K5 q scope L a cd)) (L:=st.length) d.inv d.rel rfl (by refine(J).symm▸?_;exact JL _) (by exact(me).symm▸rfl) (JG _ 2) rfl ⟨_,_,_,Ju _ rfl,rfl,rfl,rfl⟩),.r (st.length+1),⟨by rw[Ji];refine(J).symm▸?_;exact JL _,?_⟩,(h s.gens.size λj c L e=>Jw _ (Array.getElem?_eq_some_iff.mp (by obtain⟨_,hp,_⟩:=r.at_ j _ e;exact hp)).1)⟩;rw[show st.length+1=(st++[O.frm lc]).length from J.symm];exact congrArg J3 (if_pos rfl).symm
theorem zB{σ n s vs ys}(h:Ql vs ys):cf σ n s (bQ ys) vs:=by
 induction h with
 |nil=>exact rfl
 |cons y t Z a=>exact⟨_,_,rfl,⟨t,rfl,λq=>absurd rfl q⟩,a⟩
structure uO(FF:Addr->cU):Prop where
 l:∀L,(FF L).L=L
 ce:∀L,(FF L).ce=[]
 kind:∀L,(FF L).env.scope.kind=.function
 glob:∀L,(FF L).env.globals=KY
 bi:∀L,(FF L).env.builtins=LW
theorem vM{FF L}{G:GC}{σ n s s₁ s' m}(c:uO FF)(r:G.F=FF L)(u:∀b,G.X b↔b=s.heap.objs.size)(C:G.N=s.heap.objs.size+1)(j:G.NG=s.gens.size)(a:s₁.heap=s.heap.push (Kd.lst.obj #[] 0))(f:s₁.gens=s.gens)(g:s₁.toks=s.toks)(B:W.h₁.objs.size<=L)(y:s.heap.Ns L m)(D:mT σ n s lc m)(d:(lc.all λp=>p.2.free)=true)(i:∀b,σ.z b->b<s.heap.objs.size)(J:¬σ.z L)(bt:Bt G.X G.XG s₁ s'):kU G ⟨[],[]⟩ ⟨λZ=>0,σ.z⟩ lc [] G.ys s' s':=by
 have Q:G.F.L=L:=by refine(r ..).symm▸?_;exact c.l L
 have keep:∀b o,s.heap.get? b=Jh o->cH o->s'.heap.get? b=Jh o:=λb o h so=>bt.keep b o (by refine(a).symm▸?_;exact Jm _ h) so λq=>J1 (JE h) ((u b).mp q);have k:s.heap.objs.size+1<=s'.heap.objs.size:=by have:=bt.grow;rw[a,JA] at this;exact this
 refine⟨⟨bt.inv,⟨λZ Y e=>(by cases e),λZ q=>absurd q (Jy _),λZ Y q=>absurd q (Jy _),λb q=>Jp (i b q) (Nat.le_of_succ_le k),λZ Y U q=>absurd q (Jy _)⟩,?_⟩,.refl,λZ q=>absurd q (Jy _),λb q e=>J1 (i b q) ((u b).mp e),λZ Y U P e=>(by cases e),λZ h=>(by cases h),λZ h=>(by cases h),SP _,by rw[C];exact k,by refine(j).symm▸?_;refine(f)▸?_;exact bt.ggrow⟩;refine(r).symm▸?_;refine⟨(c.l L).symm▸B,⟨m,(c.l L).symm▸y.at λo A=>keep _ o A (eA y A),λx v Z e=>?_⟩,(c.l L).symm▸J,λZ q=>absurd q (Jy _),c.kind L,c.glob L,c.bi L,λx h e=>by have e:=(c.ce ..)▸e;cases e⟩;refine Jg λM=>?_;obtain⟨w,E,H⟩:=D x v e;refine M ?_;exact⟨w,E,RV.cq (X:=de) (σ:=σ) (σ':=⟨λZ=>0,σ.z⟩) (n:=0) ⟨λZ h=>h,λb o h so Z Y=>keep b o h so,by refine(g)▸?_;exact bt.tgrow⟩ (λZ Y=>⟨id,λZ q=>absurd q (Jy _)⟩) v 0 0 (λZ q=>absurd q (Jy _)) w (RV.free (PR.mp d _ (f7 e)) H)⟩
theorem call_list_gen{FF body g ys}(T:bK)(hA:A.handled=none)(M:A.depth<recursionLimit)(fo:uO FF)(ai:∀(j:Nat) c L,st[j]?≠Jh (.gen g c L))(E:(lc.all λp=>p.2.free)=true)(hn:ys.length<=sizeLine)(hd:∀L,pM A.in1.in1.in1 (.func body (FF L).env) (FF L) lc ys)(h:Q (.r (st.length+2)) (st++[.gone,.gone,.list (bQ ys)])) :
  bI A (.g .list) [.r (st.length+1)] ((st++[.frm lc])++[.gen g (λL=>.func body (FF L).env) st.length]) Q:=by
 intro σ s w ws hw ak i r;subst hw;have u:((st++[O.frm lc])++[O.gen g (λL=>.func body (FF L).env) st.length]).length=st.length+2:=by rw[Ji,Ji];rfl
 have C:(st++[O.gone,.gone]).length=st.length+2:=Ji;obtain⟨x,rfl,hj,rfl⟩:=eI ak;have a1:=r.at_ st.length (.frm lc) (by refine(Jv ..).symm▸?_;exact tq 0);have a2:=r.at_ (st.length+1) (.gen g (λL=>.func body (FF L).env) st.length) (by refine(Jv ..).symm▸?_;exact tq 1);rw[u] at a1 a2;refine Jg λzz=>?_;obtain⟨m,hm,hk⟩:=a1;obtain⟨ae,H,_⟩:=a2;obtain⟨o,nm,qn,ho,J,aj⟩:=ae;refine zz ?_;have k:st.length<((st++[O.frm lc])++[O.gen g (λL=>.func body (FF L).env) st.length]).length:=by rw[u];exact LX (by decide)
 generalize f:σ.a st.length=L at hm H;generalize ac:σ.a (st.length+1)=b at ho;have aa:L<s.heap.objs.size:=hm.lt;have D:b<s.heap.objs.size:=JE ho;have ab:b≠L:=λe=>absurd (r.inj _ _ (show st.length+1<((st++[O.frm lc])++[O.gen g (λL=>.func body (FF L).env) st.length]).length from by rw[u];exact JL _) k (by rw[f,ac,e])) (M7 _);have U:=fo.l L
 let G:GC:=⟨A.in1.in1.in1,FF L,s.heap.objs.size+1,s.gens.size,(· =s.heap.objs.size),(· =g),ys⟩
 have ok:G.Ok:=⟨λc e=>⟨by refine(show c=s.heap.objs.size from e).symm▸?_;exact JL _,λq=>J1 aa ((q.trans U).symm.trans e)⟩,λj e=>by refine(show j=g from e).symm▸?_;exact(Array.getElem?_eq_some_iff.mp H).1,(by refine(U).symm▸?_;exact Kh aa)⟩
 have ah:IA G b o g {s with heap:=s.heap.push (Kd.lst.obj #[] 0)} ys {s with heap:=s.heap.push (Kd.lst.obj #[] 0)} :=
  ⟨Jm _ ho,(dp (X:=de) (o:=Kd.lst.obj #[] 0) i r).inv,.refl,SP _,by rw[JA];exact Jl _,Jl _,_,H,λs' bt=>⟨rfl,hd L G ⟨λZ=>0,σ.z⟩ s' rfl rfl rfl ok
   (vM (G:=G) fo rfl (λZ=>Iff.rfl) rfl rfl (s:=s) (s₁:={s with heap:=s.heap.push (Kd.lst.obj #[] 0)}) rfl rfl rfl (f▸r.above _ k) hm hk E r.zlt (λz=>r.zoff _ z _ k f) bt)⟩⟩
 refine qG (S:=s.heap.objs.size) rfl (yh (A:=A.in1.in1) (G:=G) T rfl hA M ok (Kh D) (λe=>ab (e.trans U)) (λe=>J1 D e) (λh e=>⟨o,nm,qn,e,J,aj⟩:∀h:Heap,h.get? b=Jh o->h.IsGen b g) rfl λc e=>by refine(show c=s.heap.objs.size from e).symm▸?_;exact i.size) ah (Of D) hn λs' fin hS=>?_;refine Jg λzz=>?_;obtain⟨i',R,oL,af,al⟩:=fin;refine zz ?_;rw[show G.F.L=L from U] at af;have kp:∀c y,s.heap.get? c=Jh y->cH y->c≠L->s'.heap.get? c=Jh y:=λc y e so q=>R.keep c y (Kh (JE e)) (Jm _ e) so (λP=>q (P.trans U)) λP=>J1 (JE e) P;have gr:s.heap.objs.size<=s'.heap.objs.size:=Jn (by rw[JA];exact JC _) R.grow;have y:Step σ ((st++[O.frm lc])++[O.gen g (λL=>.func body (FF L).env) st.length]) s σ (st++[.gone,.gone]) s':=by
  refine⟨?_,i',⟨λh z e=>?_,λh q=>r.above h (by refine(u).symm▸?_;refine(C)▸?_;exact q),λh j q P=>r.inj h j (by rw[u,<-C];exact q) (by rw[u,<-C];exact P),λc z=>Jp (r.zlt c z) gr,λc z h q=>r.zoff c z h (by rw[u,<-C];exact q)⟩,λj z e hj=>R.gkeep j z (Array.getElem?_eq_some_iff.mp e).1 e λq=>hj (st.length+1) (λL=>.func body (FF L).env) st.length ?_,λh j c' L' e=>.inl ⟨h,c',L',?_⟩,R.ggrow⟩
  ·refine(u).symm▸?_;refine(C).symm▸?_;exact⟨Jl _,λZ Y=>rfl,λh q P=>absurd P (Nat.not_lt.mpr q),λZ z=>z,λZ=>.inl,λc z e so off Z=>kp c z e so λq=>off st.length (LX (by decide)) (f.trans q.symm),gr,R.tgrow⟩
  ·refine(C).symm▸?_;rcases LA h st.length with q | q
   ·have e:=(JU q)▸e;have a:=r.at_ h z (by refine(Jv ..).symm▸?_;refine(JU q).symm▸?_;exact e);rw[u] at a;exact a.cq (⟨λZ z=>z,λc y e so Z q=>kp c y e so q,R.tgrow⟩:Kp (· =L) σ (st.length+2) s σ s') (λc z=>⟨fun(e:c=L)=>r.zoff c z _ k (f.trans e.symm),λh q=>r.zoff c z h (by refine(u).symm▸?_;exact q)⟩:Apart (· =L) σ (st.length+2)) (λh q=>⟨q,rfl⟩) (λy hy so=>kp _ y hy so (λe'=>J1 q (r.inj h _ (PE q k) k (e'.trans f.symm)):σ.a h≠L)) λj c L' eo hj=>R.gkeep j _ (Array.getElem?_eq_some_iff.mp hj).1 hj fun(q:j=g)=>ai h c L' (by refine(e).symm▸?_;refine(eo).symm▸?_;exact(q).symm▸rfl)
   ·replace e:=(JW q)▸e;have hl:=(List.getElem?_eq_some_iff.mp e).1;obtain⟨d,rfl⟩:∃d,h=st.length+d:=⟨h-st.length,by exact bM 19 1 q⟩
    rw[LY] at e hl
    match d,e with
    |0,e=>cases e;exact⟨oL,by rw[L9,f];exact af,al⟩
    |1,e=>cases e;exact⟨o,by rw[ac];exact kp b o ho (bN J) ab,bN J⟩
  ·refine(Jv ..).symm▸?_;refine(show j=g from q).symm▸?_;exact tq 1
  ·rcases LA h st.length with q | q
   ·rw[JU q] at e;refine(Jv ..).symm▸?_;refine KH (JU q ..) ?_;exact e
   ·rw[JW q] at e;obtain⟨d,rfl⟩:∃d,h=st.length+d:=⟨h-st.length,by exact bM 19 1 q⟩
    rw[LY] at e
    match d,e with
    |0,e=>cases e
    |1,e=>cases e
 obtain⟨ag,c,v,B⟩:=hS;have z:=gp (o:=.list (bQ ys)) y (Jl _) (JE v) i.size ⟨λz=>Jw _ (r.zlt _ z),λh q e=>Jw _ (e▸r.lt (by refine(u).symm▸?_;refine(C)▸?_;exact q))⟩ (λZ=>⟨ag,c,v,by refine(Jx)▸?_;refine(p7 B).symm▸?_;exact hn,zB B⟩) (by intro _ _ _ q;cases q);rw[Jv st [O.gone,O.gone]] at z;refine⟨_,_,z,.r (st.length+2),⟨by rw[Ji];exact JL _,?_⟩,h⟩;refine(C)▸?_;exact congrArg J3 (if_pos rfl).symm
variable {prog:Program}{w:LK}{R:GenEnd}{Y:Protocol}{n:Nat}{s₀:Js}{c:Code}{u:List Tq}{s:Js}{env:Env}{K:Flow->Q7 Fin}{C:Value->Q7 Fin}{B:Bool->Bool}{z:List Value->List Value}
theorem zF{target iter body orelse pos}(j:∀v,Qi iter env v=pure v)(h:JH (Jz prog w) (A.over c u) (eval iter env) (λx s₁=>JH (Jz prog w) (A.over c u) (MV x) (λd a=>∀p,VN (Jz prog w) A R Y n s₀ (.forLoop target d body orelse env) ((Jz prog w).den (.forLoop target d body orelse env))
   (.ret (λr=>((match r with | .ok f=>(.pure f:Q7 Flow) | .error e=>.raise e).onRaise fun(x:Value)=>do
    if(<-QR x 1) == L3 then QQ "frame.own-activation:exception-without-traceback"
    setFlight x env.frame).wrap K C B z) none (B false) (z []) c p []::u) a) (λZ U=>False) s₁) (λZ U=>False) s) :
  VN (Jz prog w) A R Y n s₀ c ((exec (.For target iter body orelse pos) env).wrap K C B z) u s:=by
 rw[exec_For];show VN _ A R Y n s₀ c (.at pos λZ=>(eval iter env >>= λv=>Qi iter env v >>= λx=>Pf iter.pos >>= λZ=>MQ [x] (MV x) >>= λd=>runOwn (.forLoop target d body orelse env) env).wrap K C B z) u s;refine Ve ?_;rw[Mf,Na];refine Qf (JB h (λx s₁ g=>?_) λZ U e=>e.elim);refine(j x).symm▸?_;show VN _ A R Y n s₀ c (.at iter.pos λZ=>(MQ [x] (MV x) >>= λd=>runOwn (.forLoop target d body orelse env) env).wrap K C B z) u s₁;refine Ve ?_;rw[Mf,Na];refine Qf (JD (JB g (λd a i=>?_) λZ U e=>e.elim));exact seg_call i
theorem ke{x px it body}(h:JH (Jz prog w) (A.over (.forLoop (.Name x px) it body [] env) u) (LV it) (λr s'=>match r with
   |none=>VN (Jz prog w) A R Y n s₀ (.block [] env) (leafOf (.ok .next)) u s'
   |some v=>JH (Jz prog w) (A.over (.forLoop (.Name x px) it body [] env) u) (storeName env x v) (λZ a=>VN (Jz prog w) A R Y n s₀ (.forLoop (.Name x px) it body [] env) ((Pa body env).wrap (λf=>match f with
      |.next | .cont=>.pure (.again (.forLoop (.Name x px) it body [] env))
      |.brk=>.pure (.done .next)
      |.ret v=>.pure (.done (.ret v))) (λe=>(do Pj e env;MP e:Q7 Unit).wrap (λZ=>.raise e) .raise id id) id id) u a) (λZ U=>False) s') (λZ U=>False) s) :
  VN (Jz prog w) A R Y n s₀ (.forLoop (.Name x px) it body [] env) ((Jz prog w).den (.forLoop (.Name x px) it body [] env)) u s:=by
 show VN _ A R Y n s₀ _ ((forTurn (.Name x px) it body [] env).onRaise (λx=>do Pj x env;MP x)) u s;rw[Q7.onRaise_eq_wrap];generalize d:(λe=>((do Pj e env;MP e:Q7 Unit)).bind λZ=>(.raise e:Q7 Fin))=HH;show VN _ A R Y n s₀ _ (.at px λZ=>(((LV it).onRaise (λZ=>Pf {px with line:=0})) >>= λr=>match r with
  |none=>Vp (.block [] env)
  |some v=>ON (.Name x px) it v >>= λZ=>NP (.Name x px) env v >>= λZ=>Pa body env >>= λf=>match f with
   |.next | .cont=>Vp (.forLoop (.Name x px) it body [] env)
   |.brk=>pure (.done .next)
   |.ret v=>pure (.done (.ret v))).wrap .pure HH id id) u s
 refine Ve ?_;rw[Mf,Na];refine Qf (RJ (JB h (λr s' g=>?_) λZ U e=>e.elim));cases r with
 |none=>exact UJ (c':=.block [] env) rfl g
 |some v =>
  show VN _ A R Y n s₀ _ ((NP (.Name x px) env v >>= λZ=>Pa body env >>= λf=>match f with
   |.next | .cont=>Vp (.forLoop (.Name x px) it body [] env)
   |.brk=>pure (.done .next)
   |.ret v=>pure (.done (.ret v))).wrap _ _ _ _) u s'
  rw[Mf,Na];refine Qf (Qd (JB g (λZ a c=>?_) λZ U e=>e.elim));rw[Mf,Na];rw[Q7.wrap_congr (Pa body env) _ _ (K':=λf=>match f with
      |.next | .cont=>.pure (.again (.forLoop (.Name x px) it body [] env))
      |.brk=>.pure (.done .next)
      |.ret v=>.pure (.done (.ret v))) (H':=(λe=>(do Pj e env;MP e:Q7 Unit).wrap (λZ=>.raise e) .raise id id))
    (λf=>by cases f <;> rfl)
    (λe=>by refine(d)▸?_;first | exact Tf _ _ | (show(do Pj e env;MP e:Q7 Unit).bind (λZ=>.raise e)=_;rw[Tf]))]
  exact c
noncomputable def FN(o:Obj)(l:Addr)(i:Nat):Prop:=o.cls=.type "list_iterator"/\o.data=.fields #[.ref l,.int i 0]
end
section
variable {G:GC}{i:Pin}{c:Code}{a:List Tq}{lc:Lc}{st:St}{ys:List Str}{Q:Fl->Lc->St->List Str->Prop}{σ:Sg}{s₀:Js}{s:Js}
noncomputable def Pin.more(i:Pin)(p:Addr×Obj)(v:V×Value):Pin:=⟨p::i.os,v::i.vs⟩
theorem kU.more{p v}(g:kU G i σ lc st ys s₀ s)(h:FT G σ st.length s p)(h':RV σ 0 s v.1 v.2):kU G (i.more p v) σ lc st ys s₀ s :=
 ⟨g.p,g.since,g.own,g.off,g.gown,λq a=>(Ub.mp a).elim (λe=>e▸h) (g.hd q),λq a=>(Ub.mp a).elim (λe=>e▸h') (g.kv q),g.suf,g.size,g.gsize⟩
theorem zG{X σ st s s' v w}(x:bO X σ st s σ st s')(a:∀b,σ.z b->¬X b)(r:Rel σ st s)(h:RV σ 0 s v w):RV σ 0 s' v w:=RV.cq x.x.kp (λb z=>⟨a b z,r.zoff b z⟩) v 0 0 (λZ q=>absurd q (Jy _)) w h
theorem kU.turn{I o v h' k}(T:bK)(B:∀p∈i.os,p.1≠I)(g:kU G (i.more (I,o) v) σ lc st ys s₀ s)(A:W.h₁.objs.size<=G.N)(d:∀b y,b≠I->s.heap.get? b=Jh y->h'.get? b=Jh y)(hz:s.heap.objs.size<=h'.objs.size)(j:s.toks<=k):kU G i σ lc st ys s₀ {s with heap:=h',toks:=k}/\bO (· =I) σ st s σ st {s with heap:=h',toks:=k}:=by
 have hd:=g.hd _ (JJ ..);have x:=cW (X:=(· =I)) (k:=k) T g.p.i g.p.r (Jn A hd.lo) rfl ⟨hd.z,hd.off⟩ d hz j;have h:∀b,σ.z b->¬b=I:=λb a e=>hd.z (e▸a);exact⟨⟨⟨x.inv,x.rel,(g.p.f.step g.p.r x (λe=>hd.ne e.symm) h)⟩,⟨λb y a u so w=>d b y (J1 (Jp a hd.lo)) (g.since.keep b y a u so w),g.since.gkeep,Jn g.since.grow hz,g.since.ggrow,Jn g.since.tgrow j⟩,g.own,g.off,g.gown,
  λp c=>have q:=g.hd p (JR _ c);⟨d _ _ (B p c) q.at_,q.so,q.lo,q.ne,q.z,q.off⟩,λp c=>zG x h g.p.r (g.kv p (JR _ c)),g.suf,Jn g.size hz,g.gsize⟩,x⟩
theorem cf.none_at{n vs}{a:Array Value}(h:cf σ n s vs a.toList){k}(c:vs.length<=k):a[k]?=none:=by
 rw[Ml,<-Jx,h.len];exact c
noncomputable abbrev Ff(G:GC)(x:Str)(c:UL)(I:Addr)(a:List Stmt):Code:=.forLoop (.Name x c) (.ref I) a [] G.F.env
noncomputable def Gi(G:GC)(i:Pin)(x:Str)(d:UL)(I l:Addr)(c:List Stmt)(items:List V)(st:St)(a:List Tq)(e:Nat->Lc->List Str->Prop)(k:Nat):Prop :=
 ∀σ lc ys s₀ s o,e k lc ys->FN o l k->kU G (i.more (I,o) (.l items,.ref l)) σ lc st ys s₀ s->SG G ys.length s₀ (Ff G x d I c) ((Jz W.prog W.w).den (Ff G x d I c)) a s
structure zd(G:GC)(d:Nat)(c:Code)(fs:List Tq):Prop where
 a:PX fs=none
 b:fs.any NH=false
 h:(G.A.over c fs).handled=none
 d:(G.A.over c fs).depth=d
theorem C5{x px I l body items Iv d}(T:bK)(r:W.h₁.objs.size<=G.N)(A:∀p∈i.os,p.1≠I)(K:zd G d (Ff G x px I body) a)(j:∀σ lc ys s₀ s k,Iv items.length lc ys->kU G i σ lc st ys s₀ s->SG G ys.length s₀ k (leafOf (.ok .next)) a s):Gi G i x px I l body items st a Iv items.length:=by
 intro σ lc ys s₀ s o z f g;refine ke ?_;obtain⟨l',w,n,e,_,v,_,c⟩:=g.kv _ (JJ ..);cases e;refine bS (OX K.h ⟨o,(g.hd _ (JJ ..)).at_,f.1,f.2⟩ ⟨_,v,rfl,n,rfl⟩ (c.none_at (Jl _)) λh' q hz=>?_);exact j σ lc ys s₀ _ _ z (g.turn T A r (λb y u e=>q b y u e) hz (Jl _)).1
theorem Ai{x:Str}{px:UL}{I l:Addr}{j:List Stmt}{items:List V}{Y:Nat->Lc->List Str->Prop}{d k:Nat}(T:bK)(ok:G.Ok)(hW:W.h₁.objs.size<=G.N)(nd:∀p∈i.os,p.1≠I)(hI:G.N<=I)(af:I≠G.F.L)(hx:G.F.kd x=Jh .local)(K:zd G d (Ff G x px I j) a)(ab:k<items.length)(turn:∀Z c' B lc ys,zd G d c' B->Y k lc ys->jX G Z c' B j (lc.set x items[k]) st ys λf c u h=>(f=.next∨f=.cont)/\u=st/\Y (k+1) c h)(next:Gi G i x px I l j items st a Y (k+1)):Gi G i x px I l j items st a Y k:=by
 intro σ lc ys s₀ s o iv R g;refine ke ?_;have hd:=g.hd _ (JJ ..);have Q:=g.kv _ (JJ ..);obtain⟨l',ag,n,e,_,hl,_,P⟩:=id Q;cases e;obtain⟨xv,h1,h2⟩:=P.get (Jo ab);have h1:=JZ▸h1;refine OH ⟨o,hd.at_,R.1,R.2⟩ ⟨_,hl,rfl,n,rfl⟩ h1 λh' aa S=>?_;refine Jg λzz=>?_;obtain⟨o',ac,E,H⟩:=aa;obtain⟨g',y⟩:=g.turn T nd hW (λb y hb e=>(S.2 b hb).trans e) (JX S.1.symm) (Jl s.toks);refine zz ?_;have ap:∀b,σ.z b->¬b=I:=λb hb e=>hd.z (e▸hb);have C:=g'.more (p:=(I,o')) (v:=(.l items,.ref l)) ⟨ac,bN E,hI,af,hd.z,hd.off⟩ (zG y ap g.p.r Q);refine fJ T C.p hx (RV.up _ _ (zG y ap g.p.r h2)) λU z fr=>?_;refine turn _ _ a lc ys K iv _ _ id id σ s₀ U rfl (λf f' A c u h w X M q D=>?_) (C.step ok z.gQ fr);obtain⟨J,e,ae⟩:=q;cases e;have nx:=next A c h w X o' ae ⟨E,H⟩ D;rcases J with J | J
 ·subst J;cases M;exact UJ rfl nx
 ·subst J;cases M;exact UJ rfl nx
theorem yq{x:Str}{A:UL}{I l:Addr}{c:List Stmt}{items:List V}{r:Nat->Lc->List Str->Prop}{d:Nat}(T:bK)(ok:G.Ok)(v:W.h₁.objs.size<=G.N)(w:∀p∈i.os,p.1≠I)(y:G.N<=I)(q:I≠G.F.L)(z:G.F.kd x=Jh .local)(K:zd G d (Ff G x A I c) a)(turn:∀k (B:k<items.length) Hd' c' fs' lc ys,zd G d c' fs'->r k lc ys->jX G Hd' c' fs' c (lc.set x items[k]) st ys λf h j o=>(f=.next∨f=.cont)/\j=st/\r (k+1) h o)(g:∀σ lc ys s₀ s u,r items.length lc ys->kU G i σ lc st ys s₀ s->SG G ys.length s₀ u (leafOf (.ok .next)) a s):∀m k,k+m=items.length->Gi G i x A I l c items st a r k
 |0,k,e=>(show items.length=k from e.symm)▸C5 T v w K g
 |m+1,k,e=>Ai T ok v w y q z K (by exact bJ 9 22 e) (turn k _) (yq T ok v w y q z K turn g m (k+1) (by exact bZ 9 23 e))
theorem An{x px pos iter body items}(R:Nat->Lc->List Str->Prop)(T:bK)(ok:G.Ok)(Y:PX a=none)(S:a.any NH=false)(hs:iS iter=true)(hA:(G.A.over c a).handled=none)(hx:G.F.kd x=Jh .local)(hv:cx (G.A.over c a) G.F iter lc st λv u=>v=.l items/\u=st/\R 0 lc ys)(turn:∀c' j C,PX j=none->j.any NH=false->(G.A.over c' j).handled=none->(G.A.over c' j).depth=(G.A.over c a).depth->∀k v lc ys,items[k]?=Jh v->R k lc ys ->
    jX G C c' j body (lc.set x v) st ys λf D E H=>(f=.next∨f=.cont)/\E=st/\R (k+1) D H) (fin:∀lc ys,R items.length lc ys->Q .next lc st ys):AQ G i c a (.For (.Name x px) iter body [] pos) lc st ys Q:=by
 intro K Hh gd lv σ s₀ s aa hK g;refine zF (eP hs) (JB (hv σ s g.p) (λva s₁ q=>?_) λZ U e=>e.elim);obtain⟨J,u,B,v,M,e1,e2,ab⟩:=q;subst e1 e2;have w:=g.step ok B.hO.gQ (g.p.step B).f;refine Jg λzz=>?_;obtain⟨l,ag,m,rfl,af,hl,hsz,ac⟩:=id M;refine zz ?_;refine N0 ⟨_,hl,rfl,m,rfl⟩ λp=>?_;have y:=dp (X:=de) (o:={cls:=.type "list_iterator",data:=.fields #[.ref l,.int 0 0]}) w.p.i w.p.r;have P:s₁.heap.objs.size≠G.F.L:=λe=>Jw _ (Jp ok.own (e▸w.size));refine yq T ok (Ku (Kn g.p.f.1 ok.own):W.h₁.objs.size<=G.N) (λp hp=>J1 (JE (w.hd p hp).at_)) w.size P hx (d:=(G.A.over c a).depth) ⟨?_,?_,?_,?_⟩ (λk hk C c' j lc ys z iv=>turn c' j C z.a z.b z.h z.d k _ lc ys (Jo hk) iv)
  ?_ items.length 0 (Kf _) J lc ys s₀ _ _ ab ⟨rfl,rfl⟩
  ((w.step ok y.hO.gQ (w.p.step y).f).more ⟨Ju _ rfl,bN rfl,w.size,P,λz=>Jw _ (w.p.r.zlt _ z),λh q e=>Jw _ (e▸w.p.r.lt q)⟩ (zG y (λZ U=>id) w.p.r (RV.free rfl M)))
 ·show(PX a).map _=none;refine(Y).symm▸?_;rfl
 ·show(gd false || a.any NH)=false;refine(aa).symm▸?_;refine(S).symm▸?_;rfl
 ·exact hA
 ·show G.A.depth+frameCount ((c,p)::a.map Ug)+0=G.A.depth+frameCount (a.map Ug)+c.weight;refine(frameCount_cons ..).symm▸?_;exact bJ 19 2
 ·exact λσ lc ys s₀ s ae iv g=>by exact seg_leaf (.ok .next) (hK .next .next σ lc u ys s₀ s rfl (fin lc ys iv) g)
end
section
open Builtin
structure mQ(z TI TO i1 i2:Addr):Prop where
 TIz:TI≠z
 TOz:TO≠z
 i1z:i1≠z
 i2z:i2≠z
 TITO:TI≠TO
 TIi1:TI≠i1
 TIi2:TI≠i2
 TOi1:TO≠i1
 TOi2:TO≠i2
 i12:i1≠i2
inductive wc(z TI TO i1 i2:Addr)(f0:Value)(S1 S2:Heap->Prop)(h:Heap):Prop
 |mk (a b:Value) (hz:Qs h z TI TO f0) (hTI:OL h TI (.ref i1) (.ref i2)) (hTO:OL h TO a b) (h1:S1 h) (h2:S2 h)
structure N4(c a b d e:Addr):Prop where
 a:c≠a
 b:c≠b
 d:c≠d
 e:c≠e
mutual
theorem N4.of{c a b d e}(h:c∉[a,b,d,e]):N4 c a b d e:=⟨λq=>h (q▸.head _),λq=>h (q▸.tail _ (.head _)),λq=>h (q▸.tail _ (.tail _ (.head _))),λq=>h (q▸.tail _ (.tail _ (.tail _ (.head _))))⟩
theorem N4.not{c a b d e}(h:N4 c a b d e):c∉[a,b,d,e]:=λq=>(Ub.mp q).elim h.a λq=>(Ub.mp q).elim h.b λq=>(Ub.mp q).elim h.d λq=>(Ub.mp q).elim h.e JK
end
section
variable {prog:Program}{w:LK}{A:Around}{E:Value->Js->Prop}{s:Js}{z:Addr}{p:Addr}{g:Addr}{j:Addr}{d:Addr}{D:Nat}{C:Nat}{G:Nat->Value->Prop}{F:Nat->Value->Prop}{B:Nat->Heap->Prop}{u:Nat->Heap->Prop}
theorem wt{i n k P S h h'}(D:Pd prog w A i [i] n P S)(st:S k h)(f:∀o,h.get? i=Jh o->h'.get? i=Jh o):S k h' :=
 D.frame _ _ _ st λb a o e=>by
  cases O4.mp a;exact f o e
theorem wc.keep{f0 k l h h'}(i:Pd prog w A j [j] D G B)(q:Pd prog w A d [d] C F u)(t:wc z p g j d f0 (B k) (u l) h)(f:∀b,b∈[z,p,g,j,d]->∀o,h.get? b=Jh o->h'.get? b=Jh o):wc z p g j d f0 (B k) (u l) h':=by
 obtain⟨a,b,hz,c,e,r,v⟩:=t;exact⟨a,b,f z (.head _) _ hz,f p (.tail _ (.head _)) _ c,f g (.tail _ (.tail _ (.head _))) _ e,wt i r (f j (.tail _ (.tail _ (.tail _ (.head _))))),wt q v (f d (.tail _ (.tail _ (.tail _ (.tail _ (.head _))))))⟩
inductive I6(z TI TO i1 i2:Addr)(k n1 n2:Nat)(P1 P2:Nat->Value->Prop)(S1 S2:Nat->Heap->Prop)(s s':Js):Prop
 |mk (x y:Value) (h':Heap) (tk:Nat) (k1:k<n1) (k2:k<n2) (hx:P1 k x) (hy:P2 k y) (hz:Qs h' z TI TO .ellipsis) (hTI:OL h' TI (.ref i1) (.ref i2)) (hTO:OL h' TO x y) (h1:S1 (k+1) h') (h2:S2 (k+1) h') (hsz:h'.objs.size=s.heap.objs.size) (hk:∀c o,N4 c z TO i1 i2->s.heap.get? c=Jh o->h'.get? c=Jh o) (e:s'={s with heap:=h',toks:=tk})
theorem rd{f0 h h' e}(hz:Qs h z p g f0)(d:Kx z h h')(c:∃o,h.get? e=Jh o/\o.cls=.type "StopIteration"):∃o,h'.get? e=Jh o/\o.cls=.type "StopIteration":=by
 refine Jg λf=>?_;obtain⟨o,a,hc⟩:=c;refine f ?_;refine⟨o,d.extBut _ _ (λx=>?_) a,hc⟩;subst x;cases hz.symm.trans a;exact absurd (VM hc) (by decide)
theorem rR{M:Vx}{a d:Type}{f:a->d->Q7 (ForInStep d)}{x y:a}{b:d}{Q:d->Js->Prop}(h:JH M A (f x b) (λr s'=>∃i,r=.yield i/\JH M A (f y i) (λr j=>∃c,r=.yield c/\Q c j) E s') E s):JH M A (forIn [x,y] b f) Q E s:=by
 rw[Om];refine Jf (JB h (λr s' g=>?_) λZ U e=>e);obtain⟨i,e,h⟩:=g;subst e;show JH _ _ (forIn [y] i f) _ _ _;rw[Om];refine Jf (JB h (λr s' g=>?_) λZ U e=>e);obtain⟨c,e,h⟩:=g;subst e;exact Jk h
theorem zq{k n:Nat}{x y:Value}{h:Heap}{tk:Nat}{Q:Unit->Js->Prop}(a:mQ z p g j d)(S:Pd prog w A j [j] D G B)(T:Pd prog w A d [d] C F u)(Z:h.objs.size=n)(hz:Qs h z p g .ellipsis)(M:OL h p (.ref j) (.ref d))(P:OL h g x y)(U:B k h)(X:u k h)(Y:∀h',wc z p g j d (LO n) (B k) (u k) h'->h'.IsTuple n #[x,y]->(∀c o,c≠z->h.get? c=Jh o->h'.get? c=Jh o)->Q () {s with heap:=h',toks:=tk}) :
  JH (Jz prog w) A (SX (.ref z) (.ref h.objs.size)) Q E {s with heap:=h.push {cls:=.type "tuple",data:=.seq #[x,y]},toks:=tk}:=by
 subst Z;have v:Qs (h.push {cls:=.type "tuple",data:=.seq #[x,y]}) z p g .ellipsis:=Jm _ hz;refine Jf (MU v (Md rfl) λJ f i=>?_);replace f:Qs J z p g (LO h.objs.size):=f;refine MU f (Md rfl) λr H q=>?_;have up:∀c o,c≠z->h.get? c=Jh o->r.get? c=Jh o:=λc o R e=>q.extBut _ _ R (i.extBut _ _ R (Jm _ e));have ne:h.objs.size≠z:=Of (JE hz);exact Y r ⟨x,y,H,up _ _ a.TIz M,up _ _ a.TOz P,wt S U λo=>up _ o a.i1z,wt T X λo=>up _ o a.i2z⟩ ⟨_,q.extBut _ _ ne (i.extBut _ _ ne (Ju _ rfl)),rfl,_,rfl⟩ up
theorem uQ{k}{Q:Value->Js->Prop}(f:mQ z p g j d)(D1:Pd prog w A j [j] D G B)(D2:Pd prog w A d [d] C F u)(t:wc z p g j d .none (B k) (u k) s.heap)(l1:k<=D)(l2:k<=C)(hQ:k<D->k<C->∀x y h' tk,G k x->F k y->wc z p g j d (LO s.heap.objs.size) (B (k+1)) (u (k+1)) h'->h'.IsTuple s.heap.objs.size #[x,y] ->
   (∀c o,c∉[z,g,j,d]->s.heap.get? c=Jh o->h'.get? c=Jh o)->Q (.ref s.heap.objs.size) {s with heap:=h',toks:=tk}) (hE:(k=D∨k=C)->∀h' e tk,(∀c o,c∉[z,g,j,d]->s.heap.get? c=Jh o->h'.get? c=Jh o)->(∃o,h'.get? e=Jh o/\o.cls=.type "StopIteration")->E (.ref e) {s with heap:=h',toks:=tk}) :
  JH (Jz prog w) A (Builtin.«zip.__next__» ⟨[.ref z],[]⟩) (λfin s'=>∃v,fin=.done (.ret v)/\Q v s') E s:=by
 refine Jg λzz=>?_;obtain⟨a,b,hz,an,au,h1,h2⟩:=t;refine zz ?_;refine Jf (m:=QR (.ref z) 2) (K7 hz rfl (x:=.bool false) rfl ?_);refine Jf (m:=QR (.ref z) 3) (K7 hz rfl (x:=.ref p) rfl ?_);refine Jf (Kr an rfl ?_);refine Jf (m:=SW (.ref z)) (Jf (m:=QR (.ref z) 0) (K7 hz rfl (x:=.none) rfl (Jk ?_)));refine Vd (by rfl) ?_;refine Jf (LU ?_);refine Jf (m:=QR (.ref z) 4) (K7 hz rfl (x:=.ref g) rfl ?_);refine Jf (MU hz (Md rfl) λap R H=>?_);replace R:Qs ap z p g .ellipsis:=R;refine Jf (JB (Q:=λr s'=>r=(none,())/\I6 z p g j d k D C G F B u s s') (rR (Jf (RJ ?_))) (λr s' q=>?_) λZ U e=>e)
 ·refine(NA l1).elim (λk1=>?_) λe1=>?_
  ·refine Jf (m:=Lm (.ref j)) (D1.item k _ _ _ k1 (wt D1 h1 λo=>H.extBut _ o f.i1z) λx ag aw hx ak h=>Jk ?_);have X:OL ag g a b:=h.extBut _ _ f.TOi1 (H.extBut _ _ f.TOz au);refine Jf (Kr X rfl ?_);refine Jf (S3 X λh3 P i=>?_);refine Jf (N2 (Jk ⟨_,rfl,?_⟩));replace P:OL h3 g x b:=P;have T:∀c o,N4 c z g j d->s.heap.get? c=Jh o->h3.get? c=Jh o:=λc o q e=>i.extBut _ _ q.b (h.extBut _ _ q.d (H.extBut _ _ q.a e));have ae:Qs h3 z p g .ellipsis:=i.extBut _ _ f.TOz.symm (h.extBut _ _ f.i1z.symm R);have ab:u k h3:=wt D2 h2 λo e=>i.extBut _ _ f.TOi2.symm (h.extBut _ _ f.i12.symm (H.extBut _ _ f.i2z e));have al:B (k+1) h3:=wt D1 ak λo=>i.extBut _ o f.TOi1.symm;refine Jf (RJ ?_);refine(NA l2).elim (λk2=>?_) λe2=>?_
   ·refine Jf (m:=Lm (.ref d)) (D2.item k _ _ _ k2 ab λy ah ax hy am J=>Jk ?_);have Y:OL ah g x b:=J.extBut _ _ f.TOi2 P;refine Jf (Kr Y rfl ?_);refine Jf (S3 Y λaa ai M=>?_);have S:∀ {c o},c≠g->c≠d->h3.get? c=Jh o->aa.get? c=Jh o:=λa b e=>M.extBut _ _ a (J.extBut _ _ b e);exact Jf (N2 (Jk ⟨_,rfl,rfl,x,y,aa,_,k1,k2,hx,hy,S f.TOz.symm f.i2z.symm ae,S f.TITO f.TIi2 (T _ _ ⟨f.TIz,f.TITO,f.TIi1,f.TIi2⟩ an),ai,wt D1 al λo=>S f.TOi1.symm f.i12,wt D2 am λo=>M.extBut _ o f.TOi2.symm,M.1.trans (J.1.trans (i.1.trans (h.1.trans H.1))),λc o q e=>S q.b q.e (T c o q e),rfl⟩))
   ·subst e2;refine Jf (m:=Lm (.ref d)) (D2.done _ _ _ ab λah e J he=>?_);have af:Qs ah z p g .ellipsis:=J _ _ f.i2z.symm ae;exact MU af (Md rfl) λaa Z M=>hE (.inr rfl) aa e _ (λc o q x=>M.extBut _ _ (N4.of q).a (J _ _ (N4.of q).e (T c o (N4.of q) x))) (rd af M he)
  ·subst e1;refine Jf (m:=Lm (.ref j)) (D1.done _ _ _ (wt D1 h1 λo=>H.extBut _ o f.i1z) λag e h he=>?_);have ac:Qs ag z p g .ellipsis:=h _ _ f.i1z.symm R;exact MU ac (Md rfl) λh3 Z i=>hE (.inl rfl) h3 e s.toks (λc o q x=>i.extBut _ _ (N4.of q).a (h _ _ (N4.of q).d (H.extBut _ _ (N4.of q).a x))) (rd ac i he)
 ·obtain⟨rfl,x,y,h',tk,k1,k2,hx,hy,av,ao,aj,ar,as,hsz,hk,rfl⟩:=q;refine Jf (Kr aj rfl ?_);refine Jf (Rc ?_);refine Jf (zq f D1 D2 hsz av ao aj ar as λaq t ht up=>Jk ⟨_,rfl,?_⟩);exact hsz▸hQ k1 k2 x y aq tk hx hy t ht λc o q e=>up c o (N4.of q).a (hk c o (N4.of q) e)
theorem kh{k Q}(f:mQ z p g j d)(i:Pd prog w A.in1 j [j] D G B)(q:Pd prog w A.in1 d [d] C F u)(t:wc z p g j d .none (B k) (u k) s.heap)(X:k<=D)(Y:k<=C)(v:k<D->k<C->∀x y h' tk,G k x->F k y->wc z p g j d (LO s.heap.objs.size) (B (k+1)) (u (k+1)) h'->h'.IsTuple s.heap.objs.size #[x,y] ->
   (∀c o,c∉[z,g,j,d]->s.heap.get? c=Jh o->h'.get? c=Jh o)->Q (Jh (.ref s.heap.objs.size)) {s with heap:=h',toks:=tk}) (r:(k=D∨k=C)->∀h' tk,(∀c o,c∉[z,g,j,d]->s.heap.get? c=Jh o->h'.get? c=Jh o)->Q none {s with heap:=h',toks:=tk}) :
  JH (Jz prog w) A (LV (.ref z)) Q E s:=by
 have h:s.TypeIs (.ref z) "zip":=by
  obtain⟨_,_,hz⟩:=t;exact⟨_,hz,rfl⟩
 refine Jf (K4 (Kc (name:=Jj "__next__") h QU
  (Kb QU h PySem.F.entry_zip_next (uQ f i q t X Y (λS U x y h' tk P R t M up=>Jk (v S U x y h' tk P R t M up)) λe h' a tk up H=>?_) (PySem.F.args_zip_next_1 _))))
 refine Jg λZ=>?_;obtain⟨o,J,hc⟩:=H;refine Z ?_;exact Jf (L8 (T:="StopIteration") (b:=true) ⟨o,J,hc⟩ M5 (Jk (r e h' tk up)))
theorem rI(f:mQ z p g j d)(J:Pd prog w A.in1 j [j] D G B)(M:Pd prog w A.in1 d [d] C F u) :
  WalksU prog w A z [z,p,g,j,d] [z,g,j,d] (min D C)
   (λi vals=>∃x y,G i x/\F i y/\vals=#[x,y])
   (λi h=>wc z p g j d .none (B i) (u i) h)
   (λi T h=>wc z p g j d (LO T) (B (i+1)) (u (i+1)) h/\N4 T z g j d) where
 sub:=λc hc=>by
  cases hc with
  |head=>exact .head _
  |tail Z hc=>exact .tail _ (.tail _ hc)
 frame:=λi h h' q hk=>q.keep J M hk
 item:=λi s Q E hi q v=>by
  refine kh f J M q (Ku (Jp hi (Nk ..))) (Ku (Jp hi (NY ..))) (λk1 k2 x y h' tk hx hy t ht up=>v _ _ _ _ ⟨x,y,hx,hy,rfl⟩ ht ⟨t,?_⟩ up) λe=>absurd hi ?_
  ·obtain⟨a,b,hz,P,H,R,S⟩:=q;have lt:∀ {c o},s.heap.get? c=Jh o->s.heap.objs.size≠c:=λe=>Of (JE e);obtain⟨_,e1⟩:=J.live _ _ R;obtain⟨_,e2⟩:=M.live _ _ S;exact⟨lt hz,lt H,lt e1,lt e2⟩
  ·exact e.elim (λe=>e▸Nat.not_lt.mpr (Nk ..)) λe=>e▸Nat.not_lt.mpr (NY ..)
 go:=λY k pos i T s Q E U v=>by
  obtain⟨⟨a,b,hz,P,H,R,S⟩,_⟩:=U;exact wpAny_letOwnedTupleGo_zip hz λh' X r=>v h' ⟨a,b,X,r.extBut _ _ f.TIz P,r.extBut _ _ f.TOz H,wt J R λo=>r.extBut _ o f.i1z,wt M S λo=>r.extBut _ o f.i2z⟩ λc o hc e=>r.extBut _ _ (N4.of hc).a e
 apart:=λi T h U=>U.2.not
 done:=λs Q E q v=>kh f J M q (Nk ..) (NY ..) (λk1 k2=>absurd (Nat.lt_min.mpr ⟨k1,k2⟩) (Jw _)) λZ=>v
 self:=λi s Q E q v=>by
  obtain⟨_,_,hz⟩:=q;exact UE hz v
end
end
section
variable {prog:Program}{w:LK}{A:Around}{E:Value->Js->Prop}{s:Js}
theorem ki{x t P}(h:P (.ref s.heap.objs.size) {s with heap:=s.heap.push {cls:=.type (f3 x),data:=.fields #[.str x t,.int 0 0]}}):JH (Jz prog w) A (MV (.str x t)) P E s:=by
 unfold f3 at h;cases a:x.cps.all (· < 128)
 ·rw[a] at h;exact Ul a h
 ·rw[a] at h;exact TR a h
noncomputable abbrev Cf(h:Heap)(x:Str)(t:Qx):Heap:=h.push {cls:=.type (f3 x),data:=.fields #[.str x t,.int 0 0]}
noncomputable abbrev DO(h:Heap)(x:Str)(t:Qx)(y:Str)(u:Qx):Heap:=(Cf h x t).push {cls:=.type (f3 y),data:=.fields #[.str y u,.int 0 0]}
noncomputable abbrev F5(h:Heap)(x:Str)(t:Qx)(y:Str)(u:Qx):Heap:=(DO h x t y u).push {cls:=.type "tuple",data:=.seq #[.ref h.objs.size,.ref (Cf h x t).objs.size]}
noncomputable abbrev F4(h:Heap)(x:Str)(t:Qx)(y:Str)(u:Qx):Heap:=(F5 h x t y u).push {cls:=.type "tuple",data:=.seq #[.none,.none]}
noncomputable abbrev Ce(h:Heap)(x:Str)(t:Qx)(y:Str)(u:Qx):Heap:=(F4 h x t y u).push {cls:=.type "zip",data:=.fields #[.none,.bool false,.bool false,.ref (DO h x t y u).objs.size,.ref (F5 h x t y u).objs.size]}
set_option maxHeartbeats 4000000 in
theorem kO(x:Str)(t:Qx)(y:Str)(u:Qx) :
  Meets (Builtin.«zip.__new__» ⟨[.type "zip",.str x t,.str y u],[]⟩) (λZ R s=>R (.ok (.ret (.ref (F4 s.heap x t y u).objs.size))) {s with heap:=Ce s.heap x t y u}) :=
 .of_wp λprog w A R s h=>by
  obtain⟨a,g,d,tk,os⟩:=s;have c:=sub_zip;generalize f3 x=f at *;generalize f3 y=i at *
  wp_walk using (λP h=>ki h:∀(P:Value->Js->Prop),P (.ref a.objs.size) ⟨Cf a x t,g,d,tk,os⟩->JH (Jz prog w) A.in1 (MV (.str x t)) P (λe s'=>R (.error e) s') ⟨a,g,d,tk,os⟩),(λP h=>ki h:∀(P:Value->Js->Prop),P (.ref (Cf a x t).objs.size) ⟨DO a x t y u,g,d,tk,os⟩->JH (Jz prog w) A.in1 (MV (.str y u)) P (λe s'=>R (.error e) s') ⟨Cf a x t,g,d,tk,os⟩)
  exact⟨_,rfl,h⟩
theorem mF{x t y u P}(h:∀h',Qs h' (s.heap.objs.size+4) (s.heap.objs.size+2) (s.heap.objs.size+3) .none->OL h' (s.heap.objs.size+2) (.ref s.heap.objs.size) (.ref (s.heap.objs.size+1)) ->
   OL h' (s.heap.objs.size+3) .none .none->h'.IsStrIter s.heap.objs.size (f3 x) x t 0->h'.IsStrIter (s.heap.objs.size+1) (f3 y) y u 0->h'.objs.size=s.heap.objs.size+5 ->
   (∀c o,s.heap.get? c=Jh o->h'.get? c=Jh o)->P (.ref (s.heap.objs.size+4)) {s with heap:=h'}) :
  JH (Jz prog w) A (Ky (.type "zip") [.str x t,.str y u]) P E s:=by
 refine callType_new PySem.F.called_zip (by decide) (PySem.F.typeCall_zip_2 _ _) (PySem.F.newCall_zip_2 _ _) (λobj=>PZ obj _ _) PySem.F.entry_zip_new (kO x t y u) ?_;have d:(Cf s.heap x t).objs.size=s.heap.objs.size+1:=JA ..;have f:(DO s.heap x t y u).objs.size=s.heap.objs.size+2:=by rw[JA,d]
 have g:(F5 s.heap x t y u).objs.size=s.heap.objs.size+3:=by rw[JA,f]
 have i:(F4 s.heap x t y u).objs.size=s.heap.objs.size+4:=by rw[JA,g]
 have a:(Ce s.heap x t y u).get? (F4 s.heap x t y u).objs.size=Jh _:=Ju _ rfl;have p:(Ce s.heap x t y u).get? (F5 s.heap x t y u).objs.size=Jh _:=Jm _ (Ju _ rfl);have k:(Ce s.heap x t y u).get? (DO s.heap x t y u).objs.size=Jh _:=Jm _ (Jm _ (Ju _ rfl));have j:(Ce s.heap x t y u).get? (Cf s.heap x t).objs.size=Jh _:=Jm _ (Jm _ (Jm _ (Ju _ rfl)));show _/\_;rw[f,g,i] at a;rw[d,f] at k;rw[g] at p;rw[d] at j;rw[i];exact⟨⟨_,a,rfl⟩,h _ a k p ⟨_,(Jm _ (Jm _ (Jm _ (Jm _ (Ju _ rfl)))):(Ce s.heap x t y u).get? s.heap.objs.size=Jh _),rfl,rfl⟩ ⟨_,j,rfl,rfl⟩ (show(Ce s.heap x t y u).objs.size=s.heap.objs.size+5 from by rw[JA,i]) λc o e =>
  Jm _ (Jm _ (Jm _ (Jm _ (Jm _ e))))⟩
noncomputable def cF(f:Nat->Nat->Str)(x y:Str):List Str:=(x.cps.toList.zip y.cps.toList).map λp=>f p.1 p.2
mutual
theorem pU{f x y}{i:Nat}{a b}(c:x.cps[i]?=Jh a)(d:y.cps[i]?=Jh b):(cF f x y)[i]?=Jh (f a b):=by
 unfold cF;rw[JY,List.getElem?_zip_eq_some.mpr ⟨(by refine(JZ).trans ?_;exact c:x.cps.toList[i]?=Jh (a,b).1),(by refine(JZ).trans ?_;exact d:y.cps.toList[i]?=Jh (a,b).2)⟩]
 rfl
theorem oA{f x y}:(cF f x y).length=min x.cps.size y.cps.size:=by simp [cF]
end
variable {F:cU}{lc:Lc}{st:St}{σ:Sg}{Q:V->St->Prop}
theorem step_table{c P ps0 ps more h' k}(i:Inv s)(r:Rel σ st s)(f:∀h,W.tb h↔kH W.h₁.objs.size c P h)(a:W.h₁.TableAt c P ps0)(u:P≠KS)(w:s.heap.TableAt c P ps)(e:h'.TableAt c P (ps++more))(p:h'.IsCode c P (ps++more))(j:Nb P s.heap h')(hz:s.heap.objs.size<=h'.objs.size)(v:s.toks<=k):Step σ st s σ st {s with heap:=h',toks:=k}:=by
 have ns:∀b o,s.heap.get? b=Jh o->cH o->b≠P:=by
  rintro b o d so rfl;have d:=w.2▸d;cases d;rcases so with q | ⟨_,_,q⟩ | ⟨_,q⟩
  ·exact q rfl
  ·cases q
  ·cases q
 have t:=(f _).mp i.tb;have x:Ext de σ st.length s σ st.length {s with heap:=h',toks:=k}:=⟨Jl _,λZ U=>rfl,λZ h h'=>absurd h' (Nat.not_lt.mpr h),λZ h=>h,λZ=>.inl,λb o d so Z U=>j b o (ns b o d so) d,hz,v⟩
 exact⟨x,⟨i.old.step_table a w e j u,λo A=>j _ _ (Mj u) (i.stat o A),i.os,i.bare,Jn i.size hz,Jn i.tk v,(f _).mpr ⟨t.lc,t.lp,_,e,p⟩⟩,r.mono x (λZ U h=>h) (λh B y z so=>j _ _ (ns _ y z so) z) rfl,λZ U h J=>h,λh g c L q=>.inl ⟨h,c,L,q⟩,Jl _⟩
theorem yl{c P pos qualname scope Pp}(i:Inv s)(r:Rel σ st s)(hc:F.env.code=.ref c)(g:∀h,W.tb h↔kH W.h₁.objs.size c P h)(a:∃e,W.h₁.TableAt c P e)(p:P≠KS)(h:∀code s',Step σ st s σ st s'->s'.gens=s.gens->Pp code s'):Wp A (genexprCode F.env pos qualname scope) Pp s:=by
 refine Jg λv=>?_;obtain⟨_,_,ps,f,d⟩:=(g _).mp i.tb;obtain⟨e,a⟩:=a;refine v ?_;cases o:codeAmong pos ps.toList with
 |some c'=>exact wpAny_genexprCode_hit hc d o (h _ _ (.refl i r) rfl)
 |none=>exact wpAny_toks (bS (wpAny_genexprCodeX hc d f o λc' h' tk u Z U j L k J hz q=>h _ _ (step_table i r g a p f k j u hz q) rfl))
theorem C3{Pp}(T:bK)(i:Inv s)(f:F.env.globals=KY)(h:Pp LW s):Wp A (builtinsFor F.env.globals F.env.builtins) Pp s:=by
 refine Jg λk=>?_;obtain⟨o,ob,c,d,e,a,g,j⟩:=T.bmod;refine k ?_;refine(f).symm▸?_;exact wpAny_builtinsFor (i.glob T) c d (i.old.get_of_cls e (by refine(a).symm▸?_;exact λq=>JT q)) a g j h
theorem nT{a:Array Qt}{b gs}(c:GenOnlyQ a.size (a.push gs) b):(∀(j:Nat) (st:Qt),a[j]?=Jh st->b[j]?=Jh st)/\a.size<=b.size:=by
 rcases c with rfl | ⟨⟨e,d⟩,_⟩
 ·exact⟨λj st h=>hZ h,by rw[MC];exact JC _⟩
 ·exact⟨λj st h=>by refine(d j (J1 (Array.getElem?_eq_some_iff.mp h).1)).trans ?_;exact hZ h,by rw[e,MC];exact JC _⟩
theorem wU{X σ₀ s₀ s'}(T:bK)(z:bO X σ₀ [] s₀ σ [] s)(a:Inv s₀)(k:∀b,X b->W.h₁.objs.size<=b)(c:∀b o,¬X b->s.heap.get? b=Jh o->s'.heap.get? b=Jh o)(hz:s.heap.objs.size<=s'.heap.objs.size)(g:s₀.toks<=s'.toks)(f:s'.os=s.os)(p:Sz s'.gens)(r:∀(j:Nat) y,s.gens[j]?=Jh y->s'.gens[j]?=Jh y)(d:s.gens.size<=s'.gens.size):bO X σ₀ [] s₀ σ [] s':=by
 have ne:∀b,b<W.h₁.objs.size->¬X b:=λb q e=>Jw _ (Jp q (k b e));have i:=z.inv;exact⟨⟨z.x.len,z.x.ext,z.x.new,z.x.z,z.x.znew,λb o h so off q=>c b o q (z.x.keep b o h so off q),Jn z.x.grow hz,g⟩,⟨nE i.old λb o q=>c b o (ne b q),λo u=>c _ _ (ne _ (Inv.jl T)) (i.stat o u),f.trans i.os,p,Jn i.size hz,Jn a.tk g,W.tbk _ _ i.tb λb o q=>c b o (ne b q)⟩,
  ⟨λZ U e=>(by cases e),λZ q=>absurd q (Jy _),λZ U q=>absurd q (Jy _),λb q=>Jp (z.rel.zlt b q) hz,λZ U P q=>absurd q (Jy _)⟩,λj y h q=>r j y (z.gkeep j y h q),λZ U P L e=>(by cases e),Jn z.ggrow d⟩
inductive FD(R:Str->Str->Prop):List V->Prop
 |mk (x y:Str) (t u:Nat) (q:R x y):FD R [.s x t,.s y u]
structure Jd(wr:List Addr)(s s':Js):Prop where
 heap:∀b o,b∉wr->s.heap.get? b=Jh o->s'.heap.get? b=Jh o
 size:s.heap.objs.size<=s'.heap.objs.size
 os:s'.os=s.os
 bare:Sz s.gens->Sz s'.gens
 gk:∀(j:Nat) y,s.gens[j]?=Jh y->s'.gens[j]?=Jh y
 gz:s.gens.size<=s'.gens.size
theorem qp(n:Nat):Sf (λZ=>true) n 0=KI n:=by
 unfold Sf;simp
theorem vC{n}{F:Nat->Value->Prop}{l}(h:ItemsOf (λj y=>∃i,(Sf (λZ=>true) n 0)[j]?=Jh i/\F i y) (RY l).toArray (Sf (λZ=>true) n 0).length):l.length=n/\∀j (a:j<l.length),F j (.str l[j].1 l[j].2):=by
 have h:=(qp ..)▸h;have h:=(KQ ..)▸h;have c:l.length=n:=by simpa [RY] using h.1
 refine⟨c,λj a=>?_⟩;obtain⟨i,d,e⟩:=h.2 j (.str l[j].1 l[j].2) (by simp [RY,Jo a]);obtain rfl:=JP ((OU (c▸a))▸d);exact e
theorem vB{prog w E env elt iter xa xb x t pa pb pt pos kt n scope I bi fp wr Pt St0 Mid G code h' R}(h:A.handled=none)(g:A.depth<recursionLimit)(H:xa≠xb)(T:scope.names.lookup xa=Jh .local)(X:scope.names.lookup xb=Jh .local)(f:scope.kind=.function)(J:scope.isCoroutine=false)(a : ∀F:Around,F.handled=none->WalksU prog w F I fp wr n Pt St0 Mid)(hsz : ∀i vals,Pt i vals->∃va vb,vals=#[va,vb])(S:St0 0 s.heap)(p : ∀b∈fp,b<s.heap.objs.size)(hl:s.heap.NoLimit)(k:KS<s.heap.objs.size)(M:KS∉wr)(hn:n<=sizeLine)(hq : ∀z,QuietGenT prog w (Sk scope [] s.heap.objs.size code bi env) xa xb [] elt (KI s.heap.objs.size) wr Pt (λZ=>true) G z)(Q:h'.Ns s.heap.objs.size (λy=>if y=".0" then Jh (.ref I) else none))(B:Kx s.heap.objs.size (s.heap.push {cls:=.type "frame",data:=.dict #[]}) h')(C : ∀i v,G i v->∃y u,v=.str y u)(hQ : ∀(l:List (Str×Qx)),l.length=n->(∀j (hj:j<l.length),G j (.str l[j].1 l[j].2))->Rw x (l.map (·.1))=true/\∀t' s',Jd wr s s'->R (.str (Pw x (l.map (·.1))) t') s') :
  JH (Jz prog w) A (call (.builtin "str.join") [.str x t,.ref h'.objs.size]) R E {s with
   gens:=s.gens.push (.fresh (.compStart (.GeneratorExp elt [⟨.Tuple [.Name xa pa,.Name xb pb] kt pt,iter,[],0⟩] scope pos) 0 (.ref I) .none (Sk scope [] s.heap.objs.size code bi env))),
   toks:=s.toks+1+1+1,
   heap:=h'.push {cls:=.type "generator",data:=.fields #[.int s.gens.size 0,.str "<genexpr>" (s.toks+1),.str (env.qual++"<genexpr>") (s.toks+1+1)]}}:=by
 have hz:h'.objs.size=s.heap.objs.size+1:=B.1.trans (JA ..);have kp:∀o,∀b o',s.heap.get? b=Jh o'->(h'.push o).get? b=Jh o':=λo b o' e=>Jm _ (B.extBut b o' (J1 (JE e)) (Jm _ e));have GA:=GenAt.freshT (A:=A.in4) (cenv:=Sk scope [] s.heap.objs.size code bi env) (m:=λy=>if y=".0" then Jh (.ref I) else none) (s:={s with
   gens:=s.gens.push (.fresh (.compStart (.GeneratorExp elt [⟨.Tuple [.Name xa pa,.Name xb pb] kt pt,iter,[],0⟩] scope pos) 0 (.ref I) .none (Sk scope [] s.heap.objs.size code bi env))),
   toks:=s.toks+1+1+1,
   heap:=h'.push {cls:=.type "generator",data:=.fields #[.int s.gens.size 0,.str "<genexpr>" (s.toks+1),.str (env.qual++"<genexpr>") (s.toks+1+1)]}}) h
  (λF h=>(a F h).mono_fp λb c=>List.mem_range.mpr (p b c)) hsz H (λZ=>true) G T X (by simp [Sk,f]) J
  (λq=>Jw _ (List.mem_range.mp q)) (hq _) ⟨_,_,_,Ju _ rfl,rfl,rfl,rfl⟩ (QP ..) ((a A h).frame _ _ _ S λb Z o=>kp _ b o) (Q.push _) (hl.keeps (kp _))
 refine bS (SC.joinGen (WalksS.genexpQ (prog:=prog) (w:=w) (A:=A.in4) h h'.objs.size s.gens.size s.heap.objs.size (KI s.heap.objs.size) wr (λZ=>true) n G (hz▸M7 _:h'.objs.size≠s.heap.objs.size) (λq=>Nat.not_succ_le_self _ (Ku (hz▸List.mem_range.mp q)):h'.objs.size∉KI s.heap.objs.size) (λb c=>List.mem_range.mpr (p b ((a A h).sub b c)):∀b∈wr,b∈KI s.heap.objs.size) g (List.mem_range.mpr k) (J1 k) M).in4_2 (λZ U st=>st.1.typeIs) GA (λb c=>?_) (JJ ..) (λj v D=>by obtain⟨i,_,e⟩:=D;exact C i v e) (λs' l r P=>?_) (Jn (JX (show(Sf (λZ=>true) n 0).length=n from by refine(qp ..).symm▸?_;exact(KQ).symm▸rfl)) hn))
 ·rw[JA];refine(hz).symm▸?_;exact(Ub.mp c).elim (λe=>e▸hz▸JL _) λc=>(Ub.mp c).elim (λe=>e▸Kh (JL _)) λc=>Kh (Kh (List.mem_range.mp c))
 ·obtain⟨Y,h2⟩:=vC P;refine⟨(hQ l Y h2).1,λt' k' d=>(hQ l Y h2).2 t' _ ⟨λb o q e=>r.heap b o (λq'=>(Ub.mp q').elim (λe'=>J1 (JE e) e') q) (kp _ b o e),?_,r.os,λc=>r.gens.bare (c.push rfl),(nT r.gens).1,(nT r.gens).2⟩⟩;refine Jn (Jn (JC _) (JX hz.symm)) (Jn ?_ d);rw[JA];exact JC _
mutual
theorem uR(g:Addr):mQ (g+4) (g+2) (g+3) g (g+1):=by
 have ad:∀a b:Nat,(a == b)=false->(g+a:Addr)≠g+b:=λa b h e=>ne_of_beq_false h (Nat.add_left_cancel e);exact⟨ad 2 4 rfl,ad 3 4 rfl,ad 0 4 rfl,ad 1 4 rfl,ad 2 3 rfl,ad 2 0 rfl,ad 2 1 rfl,ad 3 0 rfl,ad 3 1 rfl,ad 0 1 rfl⟩
theorem wy(g b:Addr)(h:b∈[g+4,g+3,g,g+1]):g<=b :=
 (Ub.mp h).elim (λe=>e▸JG ..) λh=>(Ub.mp h).elim (λe=>e▸JG ..) λh=>(Ub.mp h).elim (λe=>e▸Jl _) λh=>O4.mp h▸JG ..
theorem wc.lt{z TI TO i1 i2 f0 S1 S2 h}(g:∀h,S1 h->i1<h.objs.size)(i:∀h,S2 h->i2<h.objs.size)(t:wc z TI TO i1 i2 f0 S1 S2 h):∀b∈[z,TI,TO,i1,i2],b<h.objs.size:=by
 refine Jg λj=>?_;obtain⟨_,_,hz,a,c,d,f⟩:=t;refine j ?_;exact λb q=>(Ub.mp q).elim (λe=>e▸JE hz) λq=>(Ub.mp q).elim (λe=>e▸JE a) λq=>(Ub.mp q).elim (λe=>e▸JE c) λq=>(Ub.mp q).elim (λe=>e▸g _ d) λq=>O4.mp q▸i _ f
theorem lF{it T x t i}(h:Heap)(q:h.IsStrIter it T x t i):it<h.objs.size:=by
 obtain⟨o,a,_⟩:=q;exact JE a
end
inductive ZF(f:Nat->Nat->Str)(x y:Str)(i:Nat):Value->Prop
 |mk (a b:Nat) (u:Qx) (h1:x.cps[i]?=Jh a) (h2:y.cps[i]?=Jh b):ZF f x y i (.str (f a b) u)
theorem oz{f x y}{l:List (Str×Qx)}(i:l.length=min x.cps.size y.cps.size)(h:∀j (c:j<l.length),ZF f x y j (.str l[j].1 l[j].2)):l.map (·.1)=cF f x y:=by
 refine NF λj=>?_;rcases LA j l.length with c | c
 ·rw[JY,Jo c];have q:=h j c;generalize k:Pu l[j].1 l[j].2=v at q;cases q with
  |mk a b u d g =>
   injection k with e
   exact(congrArg Jh e).trans (pU d g).symm
 ·rw[KR (by refine(Jt ..).symm▸?_;exact c),KR (by refine(oA ..).symm▸?_;exact i▸c)]
noncomputable abbrev I5(x y:Str)(i:Nat)(vals:Array Value):Prop:=∃p q,T7 x i p/\T7 y i q/\vals=#[p,q]
theorem uP{prog w cenv xa xb elt fp wr x y f}(r:∀(h:Around) (A:Value->Js->Prop) (j k:Nat) (B C:Qx) (d:Js) (c:Str->Option Value),h.handled=none->d.heap.Ns cenv.locals c->c xa=Jh (.str ⟨#[j]⟩ B)->c xb=Jh (.str ⟨#[k]⟩ C) ->
   JH (Jz prog w) h (eval elt cenv) (λy v=>(∃u,y=.str (f j k) u)/\Keeps d v) A d) (cq:Heap):QuietGenT prog w cenv xa xb [] elt fp wr (I5 x y) (λZ=>true) (ZF f x y) cq:=by
 refine⟨λh A i T X a g o G F D E Z=>UR ⟨rfl,a.heap,a.toks,rfl,λZ U e=>e⟩,λh A i T X a g o G Z F D E U=>?_⟩;refine Jg λY=>?_;obtain⟨p,q,⟨j,B,J,M⟩,⟨k,C,P,Q⟩,e⟩:=G;refine Y ?_
 injection congrArg Ui e with e1 e
 injection e with e2
 cases e1.trans M;cases e2.trans Q;exact JB (r h A j k B C a g o F D E) (λyv H z=>by obtain⟨⟨S,e⟩,R⟩:=z;exact⟨e▸.mk j k S J P,R⟩) λZ U e=>e
theorem rj{sep xa xb k kt cp apos zp zc pa pb pt gpos pos e1 e2 elt scope c P}(f:Nat->Nat->Str)(T:bK)(hA:A.handled=none)(H:A.depth<recursionLimit)(hc:F.env.code=.ref c)(az:∀h,W.tb h↔kH W.h₁.objs.size c P h)(ah:∃ai,W.h₁.TableAt c P ai)(hP:P≠KS)(am:scope.isCoroutine=false)(ac:closureFor scope F.env=pure [])(ab:∀y∈scope.names,y.2≠.cell)(h0:scope.names.lookup (".0":Str)=Jh NameKind.local)(aC:scope.names.lookup xa=Jh .local)(aD:scope.names.lookup xb=Jh .local)(au:xa≠xb)(G:scope.kind=.function)(ae:(apos.endLine == pos.line)=true)(hp:[e1,e2].all bX=true)(an:∀(A':Around) (E':Value->Js->Prop) (ca cb:Nat) (ta tb:Qx) (d:Js) (J:Str->Option Value) (C:Addr) (code:Value) (bi:Addr),A'.handled=none->d.heap.Ns C J->J xa=Jh (.str ⟨#[ca]⟩ ta)->J xb=Jh (.str ⟨#[cb]⟩ tb) ->
   JH (Jz W.prog W.w) A' (eval elt (Sk scope [] C code bi F.env)) (λy ao=>(∃u,y=.str (f ca cb) u)/\Keeps d ao) E' d) (hz:cx A F (.Name "zip" zp) lc [] λv aj=>v=.g .zip/\[]=aj) (h:eJ A F [e1,e2] lc [] λvs aj=>[]=aj/\FD (λx y=>x.length<=sizeLine/\Rw sep (cF f x y)=true/\Q (.s (Pw sep (cF f x y)) 0) []) vs) :
  cx A F (.Call (.Attribute (.Constant (.str sep) k cp) "join" apos) [.GeneratorExp elt [⟨.Tuple [.Name xa pa,.Name xb pb] kt pt,.Call (.Name "zip" zp) [e1,e2] [] zc,[],0⟩] scope gpos] [] pos) lc [] Q:=by
 intro σ s pr;refine gP ?_;refine Un (T:="str") rfl (by rfl) ae KX QV QS (PW ⟨NN _ _ _,λa e=>(by cases e),?_⟩);have D:=bT (X:=de) pr.i pr.r (JC s.toks);refine MO (by rfl) (OA (O0 ?_));refine wpAny_GeneratorExp_make am ac ab h0 G H (Nh ?_) (λU=>rfl);refine bH (hz σ _ (pr.step D)) λfv s₁ aG aF v ap hv q=>?_;obtain⟨rfl,rfl⟩:=q;subst hv;refine(cz zc F.env hp).symm▸?_;have S:=D.trans ap;refine Lp (any_false _ _) (dI (f:=.type "zip") h (pr.step S) λws d ak st₂ vs B aB q=>?_);refine Jg λzz=>?_;obtain⟨rfl,q⟩:=q;obtain⟨x,y,t',u',aE,ay,hq⟩:=q;have aa:=S.trans B;obtain⟨_,_,rfl,⟨t,rfl,_⟩,⟨u,rfl,_⟩⟩:=iL aB;refine zz ?_;refine mF λh' hz ar as aw ax hsz hk=>?_;have E:=c4 (X:=de) (k:=d.toks) B.inv B.rel hk (by exact bJ 19 3 hsz) (Jl _);refine UE hz ⟨E.inv.nolimit T,?_⟩;refine yl E.inv E.rel hc az ah hP λcode R j av=>C3 T j.inv pr.f.glob ?_;have al:W.h₁.objs.size<=d.heap.objs.size:=B.inv.size;have kp:∀k o,h'.get? (d.heap.objs.size+k)=Jh o->cH o->R.heap.get? (d.heap.objs.size+k)=Jh o:=λk o ho so=>j.x.keep _ o ho so (λh q' e=>Jw _ (Jp (B.rel.lt q') (e▸JG _ _))) id;have Z:wc (d.heap.objs.size+4) (d.heap.objs.size+2) (d.heap.objs.size+3) d.heap.objs.size (d.heap.objs.size+1) .none (λh=>h.IsStrIter d.heap.objs.size (f3 x) x t 0) (λh=>h.IsStrIter (d.heap.objs.size+1) (f3 y) y u 0) R.heap :=
  ⟨_,_,kp 4 _ hz (bN rfl),kp 2 _ ar (bN rfl),kp 3 _ as (bN rfl),aw.imp λo q=>⟨kp 0 o q.1 (bN q.2.1),q.2⟩,ax.imp λo q=>⟨kp 1 o q.1 (bN q.2.1),q.2⟩⟩
 refine λaH af ag=>Pe (vB hA H au aC aD G am (λA' M=>rI (uR d.heap.objs.size) (iZ (A:=A'.in1) M _ x t) (iZ (A:=A'.in1) M _ y u)) (λi vals aq=>by obtain⟨p,q,_,_,e⟩:=aq;exact⟨p,q,e⟩) Z (Z.lt lF lF) (j.inv.nolimit T) (Jp (Inv.jl T) j.inv.size)
  (λhm=>Jw _ (Jp (Inv.jl T) (Jn al (wy _ _ hm)))) (Jn (Nk ..) aE) (uP λA' E' ca cb ta tb s m M hn=>an A' E' ca cb ta tb s m _ code LW M hn) af ag (λi v q=>by cases q;exact⟨_,_,rfl⟩) λl h1 h2=>?_)
 refine(oz h1 h2).symm▸?_;refine⟨ay,λt' s' gm aA=>?_⟩;exact⟨ak,[],((wU (X:=(d.heap.objs.size<= ·)) T (aa.trans (E.trans j)).hO pr.i (λb q=>Jn al q) (λb o q e=>gm.heap b o (λz=>q (wy _ _ z)) e) gm.size aA gm.os (gm.bare j.inv.bare) gm.gk gm.gz).fresh (Y:=de) λb q=>.inr (Jn aa.x.grow q)),.s _ 0,⟨t',rfl,λq=>absurd rfl q⟩,hq⟩
noncomputable def IB(A:Around)(F:cU)(a:List Expr)(lc:Lc)(st:St)(Q:Bool->St->Prop):Prop:=match a with
 |[]=>Q true st
 |c::l=>match l with
  |[]=>kT A F c lc st Q
  |_=>False
theorem Dk{ifs Q σ s}(h:IB A F ifs lc st Q)(p:Pre F σ lc st s) :
  Wp A (forIn ifs true λc r=>if r=true then do let ok <-Sj c F.env (eval c F.env);pure (NM ok) else pure (NM r)) (PB σ st s Q) s:=by
 cases ifs with
 |nil=>exact UR ⟨σ,st,p.refl,h⟩
 |cons c l=>cases l with
  |nil=>exact wpAny_tests_one (h σ s p)
  |cons=>exact h.elim
noncomputable def HV(d:Nat)(u:V)(st:St)(R:St->Prop):Prop:=wu st[d]? (λvs=>vs.length<sizeLine/\R (st.set d (.list (vs++[u])))) False
theorem AG{o f}(h:wu o f False):∃vs,o=Jh (.list vs)/\f vs:=by
 cases o with
 |none=>exact h.elim
 |some o=>cases o <;> first | exact⟨_,rfl,h⟩ | exact h.elim
noncomputable def kK(A:Around)(F:cU)(d:Nat)(c:St->Prop)(i:Expr)(f:List Expr)(e:Expr)(Q:St->Prop):List V->Lc->St->Prop
 |[],Z,st=>c st/\Q st
 |v::l,lc,st=>c st/\cZ A F i v lc st λa g=>IB A F f a g λb st₂=>Br b (cx A F e a st₂ λu h=>HV d u h (kK A F d c i f e Q l a)) (kK A F d c i f e Q l a st₂)
theorem pH{R elt target iter ifs scope pos it acc env}(I:Nat->Js->Prop)(turn:∀n s,I n s->Wp A (LV it) (λr s₁=>match r with
   |none=>R (.ok .next) s₁
   |some v=>Wp A (ON target it v) (λZ s₁=>Wp A (NP target env v) (λZ g =>
     Wp A (forIn ifs true λc r=>if r=true then do let ok <-Sj c env (eval c env);pure (NM ok) else pure (NM r)) (λok d =>
      if ok=true then Wp A (eval elt env) (λx i=>Wp A (Ky (.builtin "list.append") [acc,x]) (λZ j=>∃m,m<n/\I m j) i) d
      else ∃m,m<n/\I m d) g) s₁) s₁) s) (n:Nat) {s} (h:I n s):NC (Jz W.prog W.w) A (.compLoop (.ListComp elt [⟨target,iter,ifs,0⟩] scope pos) 0 it acc env) R s:=by
 refine codeAny_loop rfl I (λn s q=>?_) n h;show JH _ A ((compTurn (.ListComp elt [⟨target,iter,ifs,0⟩] scope pos) 0 it acc env).onRaise (λx=>do Pj x env;MP x)) _ _ s;refine wpAny_noted ?_;refine(compTurn_list ..).symm▸?_;refine Jf (LF (Jf (JB (turn n s q) (λr s₁ a=>?_) λZ U e=>e.elim)));cases r with
 |none=>exact Jk a
 |some v =>
  refine Jf (JB a (λZ s₁ a=>?_) λZ U e=>e.elim);refine Jf (JB a (λZ g k=>Jf (JB k (λok d f=>?_) λZ U e=>e.elim)) λZ U e=>e.elim);cases ok with
  |false=>exact Jk ⟨rfl,f⟩
  |true =>
   exact Jf (Jf (JB f (λx i o=>Jf (JB o (λZ j p=>Jk (Jk ⟨rfl,p⟩)) λZ U e=>e.elim)) λZ U e=>e.elim))
inductive CompI(F:cU)(X:Addr->Prop)(I:Nat->Heap->Prop)(c:V)(w:Value)(d:Nat)(D:Addr)(items:List V)(T:List V->Lc->St->Prop)(σ:Sg)(st:St)(s:Js)(n:Nat)(s':Js):Prop
 |mk (k:Nat) (σ':Sg) (lc':Lc) (st':St) (hk:k+n=items.length) (hT:T (items.drop k) lc' st') (hI:I k s'.heap) (hc:RV σ' st'.length s' c w) (hd:d<st'.length) (hD:σ'.a d=D) (off:∀b,X b->¬σ'.z b/\∀h,h<st'.length->σ'.a h≠b)
   (x:bO (λb=>b=F.L∨X b) σ st s σ' st' s') (fr:dA F σ' st'.length lc' s')
inductive F1(F:cU)(X:Addr->Prop)(d:Nat)(D:Addr)(Q:St->Prop)(σ:Sg)(st:St)(s s':Js):Prop
 |mk (σ':Sg) (lc':Lc) (st':St) (hd:d<st'.length) (hD:σ'.a d=D) (x:bO (λb=>b=F.L∨X b) σ st s σ' st' s') (fr:dA F σ' st'.length lc' s') (q:Q st')
theorem vS{tgt elt iter ifs scope pos it c w X I dep items σ s d Q}(T:bK)(ok:pL A tgt it c w X dep items I)(hc:RV σ st.length s c w)(hI:I 0 s.heap)(off:∀b,X b->¬σ.z b/\∀h,h<st.length->σ.a h≠b)(hL:¬X F.L)(hd:d<st.length)(p:Pre F σ lc st s)(ht:kK A F d dep tgt ifs elt Q items lc st) :
  NC (Jz W.prog W.w) A (.compLoop (.ListComp elt [⟨tgt,iter,ifs,0⟩] scope pos) 0 it (.ref (σ.a d)) F.env) (λr s'=>match r with | .ok _=>F1 F X d (σ.a d) Q σ st s s' | .error _=>False) s:=by
 have ap:∀ {k σ1 σ2 st1 st₂ s₁ s₂},bO (· =F.L) σ1 st1 s₁ σ2 st₂ s₂->(∀b,X b->¬σ1.z b/\∀h,h<st1.length->σ1.a h≠b)->I k s₁.heap->(∀b,X b->¬σ2.z b/\∀h,h<st₂.length->σ2.a h≠b)/\I k s₂.heap:=λ{k _ _ _ _ s₁ s₂} x off hI =>
  ⟨λb D=>by obtain⟨o,ho,_⟩:=ok.solid _ _ b hI D;exact⟨x.x.zoff (JE ho) (off b D).1,x.x.off (JE ho) (off b D).2⟩,
   ok.frame _ _ _ hI λb D o ho=>by obtain⟨o',au,hs⟩:=ok.solid _ _ b hI D;have ho:=au▸ho;cases ho;exact x.x.keep b _ au hs (off b D).2 (fun(e:b=F.L)=>hL (e▸D))⟩
 refine pH (CompI F X I c w d (σ.a d) items (kK A F d dep tgt ifs elt Q) σ st s) (λn s' M=>?_) items.length ⟨0,σ,lc,st,Kf _,ht,hI,hc,hd,rfl,off,.refl p.i p.r,p.f⟩;obtain⟨k,σ',ay,E,hk,hT,hI,hc,J,hD,off,x,fr⟩:=M;cases e:items[k]? with
 |none =>
  have ax:k=items.length:=by have:=List.getElem?_eq_none_iff.mp e;exact bJ 17 16 hk this
  subst ax;have hT:=SS▸hT;refine JB (ok.stop σ' E s' hI hT.1 hc off x.inv x.rel) (λr aA M=>?_) λZ U h=>h.elim;obtain⟨e,y⟩:=M;subst e;exact⟨σ',ay,E,J,hD,x.trans (y.wk λb D=>.inr D),fr.step x.rel y hL λb hz hx=>(off b hx).1 hz,hT.2⟩
 |some v =>
  have ao:=(List.getElem?_eq_some_iff.mp e).1;rw[KO ao,(List.getElem?_eq_some_iff.mp e).2] at hT;refine JB (ok.next k v σ' E s' e hI hT.1 hc off x.inv x.rel) (λr aA M=>?_) λZ U h=>h.elim;obtain⟨u,er,as⟩:=M;subst er;refine JB as (λZ ae M=>?_) λZ U h=>h.elim;obtain⟨C,y,hv,al⟩:=M;have aa:=fr.step x.rel y hL λb hz hx=>(off b hx).1 hz;have ag:∀b,X b->¬C.z b/\∀h,h<E.length->C.a h≠b:=λb D=>by obtain⟨o,ho,_⟩:=ok.solid _ _ b hI D;exact⟨y.x.zoff (JE ho) (off b D).1,y.x.off (JE ho) (off b D).2⟩
  have an:RV C E.length ae c w:=RV.mono y.x (λb hz=>⟨λhx=>(off b hx).1 hz,x.rel.zoff b hz⟩) c w hc;have fin:∀ {j:Sg} {lc5 g s5},kK A F d dep tgt ifs elt Q (items.drop (k+1)) lc5 g->bO (· =F.L) C E ae j g s5->dA F j g.length lc5 s5->∃m,m<n/\CompI F X I c w d (σ.a d) items (kK A F d dep tgt ifs elt Q) σ st s m s5:=λ{j lc5 g s5} q z B=>by
   refine Jg λzz=>?_;obtain⟨ah,am⟩:=ap z ag al;refine zz ?_;exact⟨n-1,by exact bJ 17 17 hk ao,k+1,j,lc5,g,by exact bJ 17 18 hk ao,q,am,RV.A1 an y.rel aa z,Jp J z.x.len,(z.x.ext d J).trans ((y.x.ext d J).trans hD),ah,x.trans ((y.wk (Y:=λb=>b=F.L∨X b) λb D=>.inr D).trans (z.wk λb D=>.inl D)),B⟩
  refine eN (hT.2 C ae u hv ⟨y.inv,y.rel,aa⟩) λZ aF aD az aB S ab av=>?_;refine dH (Dk av ⟨S.inv,S.rel,ab⟩) λb s5 j g G aj=>?_;have B:=ab.step S.rel G id λZ U=>id;have R:=S.trans G.hO;cases b with
  |false=>exact fin (aj.f rfl) R B
  |true =>
   refine bH (aj.t rfl j s5 ⟨G.inv,G.rel,B⟩) λr aw af aq u' H hu ac=>?_;refine Jg λzz=>?_;obtain⟨vs,ai,hz,ac⟩:=AG ac;refine zz ?_;refine bH (g5 (A:=A) (Q:=λZ E=>E=aq.set d (.list (vs++[u']))) T ai hz rfl af aw _ [.ref (σ.a d),r] rfl ⟨.ref (σ.a d),[r],rfl,⟨((List.getElem?_eq_some_iff.mp ai).1),congrArg J3 ((H.x.ext d (Jp J (Jn y.x.len R.x.len))).trans ((R.x.ext d J).trans ((y.x.ext d J).trans hD)):af.a d=σ.a d).symm⟩,r,[],rfl,hu,rfl⟩ H.inv H.rel) λZ aG aE aC U ak P ar=>?_;subst ar;exact fin ac (R.trans (H.trans ak).hO) (B.step G.rel (H.trans ak) id λZ U=>id)
inductive HM(A:Around)(tgt:Expr)(c:V)(st:St)(R:(St->Prop)->List V->St->Prop):Prop
 |mk (dep:St->Prop) (items:List V) (hi:mU A tgt c dep items) (hd:dep st) (ht:R dep items st)
noncomputable def yJ(a:Scope):Bool:=(a.kind == .function)&&a.names.all λy=>y.2 != .cell&&(y.2 != .local || a.names.lookup y.1 == Jh .local)
structure Dz(sc:Scope):Prop where
 kind:sc.kind=.function
 cell:∀y∈sc.names,y.2≠.cell
 names:∀y∈sc.names,y.2=.local->sc.names.lookup y.1=Jh .local
theorem vT{sc}(h:yJ sc=true):Dz sc:=by
 have h:=Bool.and_eq_true_iff.mp h;have k:=λy a=>Bool.and_eq_true_iff.mp (PR.mp h.2 y a);exact⟨eq_of_beq h.1,λy a e=>(by have:=(k y a).1;rw[e] at this;exact Jq this),λy a e=>by have:=(k y a).2;rw[e] at this;exact eq_of_beq this⟩
noncomputable abbrev mC(F:cU)(a:Scope)(cl:List (Str×Addr))(ce:List (Str×Nat))(C:Addr):cU:=⟨compEnvC a cl C F.env,ce,F.m⟩
theorem ll{Q tgt elt iter ifs sc pos cl ce}(T:bK)(P:closureFor sc F.env=pure cl)(ak:yJ sc=true)(hs:iS iter=true)(ai:∀y h,ce.lookup y=Jh h->F.ce.lookup y=Jh h/\cl.lookup y=F.env.cells.lookup y)(h:cx A F iter lc st λc i=>HM A tgt c i λaa items st₂=>∀C,kK A (mC F sc cl ce C) st₂.length aa tgt ifs elt (Q (.r st₂.length)) items [] (st₂++[.list []])):cx A F (.ListComp elt [⟨tgt,iter,ifs,0⟩] sc pos) lc st Q:=by
 refine Jg λzz=>?_;obtain⟨S,hc,hn⟩:=vT ak;refine zz ?_;intro σ s p;rw[eval_ListComp];refine wpAny_comprehension_free (use:=none) rfl (eP hs) P S hn (bH (h σ s p) λw s₁ j i c B ac q=>?_);obtain⟨aa,items,hi,hd,ht⟩:=q;refine JB (hi j i s₁ w ac hd B.inv B.rel) (λit g an=>?_) λZ U e=>e.elim;obtain⟨X,I,ag,ok,hI,hX,u⟩:=an;refine Kj (O7 hc (λy hy=>by cases hy) (λh₁ ae J=>?_) S);have hC:(g.heap.push {cls:=.type "list",dict:=none,data:=.seq ([]:List Value).toArray}).objs.size=g.heap.objs.size+1:=JA ..;rw[hC] at ae J ⊢;have old:∀b o,g.heap.get? b=Jh o->h₁.get? b=Jh o:=λb o e=>J.extBut b o (J1 (Kh (JE e))) (Jm _ (Jm _ e));have y:=dY (X:=de) (k:=g.toks) (o:=.list []) u.inv u.rel (Jl _) old (show g.heap.objs.size<=h₁.objs.size from by rw[J.1,JA,hC];exact JG _ 2) (Jl _) (λx=>⟨#[],0,(J.extBut _ _ (J1 (JL _)) (Jm _ (Ju _ rfl)):h₁.get? g.heap.objs.size=Jh (Kd.lst.obj #[] 0)),JN _,rfl⟩) (by intro _ _ _ q;cases q);have af:∀b,X b->¬(j.new i.length g.heap.objs.size).z b/\∀h,h<(i++[O.list []]).length->(j.new i.length g.heap.objs.size).a h≠b:=λb R=>by
  refine Jg λzz=>?_;obtain⟨o,ho,_⟩:=ok.solid _ _ b hI R;refine zz ?_;have ab:=hX b R;have D:¬j.z b/\∀h,h<i.length->j.a h≠b:=⟨λz=>Jw _ (Jp (B.rel.zlt b z) ab),λh q e=>Jw _ (Jp (B.rel.lt q) (e▸ab))⟩
  exact⟨y.x.zoff (JE ho) D.1,y.x.off (JE ho) D.2⟩
 have nC:∀ {b:Addr},b<g.heap.objs.size->b≠g.heap.objs.size+1:=λh=>J1 (Kh h);have fr:dA (mC F sc cl ce (g.heap.objs.size+1)) (j.new i.length g.heap.objs.size) (i++[O.list []]).length [] {g with heap:=h₁,toks:=g.toks}:=by
  refine⟨KG u.inv.size,⟨_,ae,λx v Z e=>nomatch e⟩,λz=>nC (u.rel.zlt _ z) rfl,λk S e=>?_,S,p.f.glob,p.f.bi,λx k e=>?_⟩
  ·have e:(if k=i.length then g.heap.objs.size else j.a k)=g.heap.objs.size+1:=e;by_cases q:k=i.length
   ·rw[if_pos q] at e;exact J1 (JL _) e
   ·rw[if_neg q] at e;rw[Ji] at S;exact nC (u.rel.lt (Nat.lt_of_le_of_ne (NK S) q)) e
  ·obtain⟨e1,e2⟩:=ai x k e;obtain⟨q1,q2⟩:=((p.step (B.trans (u.trans y))).f).cells x k e1;exact⟨q1,e2.trans q2⟩
 have E:I 0 h₁:=ok.frame _ _ _ hI λb Z o e=>old b o e;have M:=vS (F:=mC F sc cl ce (g.heap.objs.size+1)) (scope:=sc) (pos:=pos) (iter:=iter) (d:=i.length) (s:={g with heap:=h₁,toks:=g.toks}) T ok ((ac.step B.rel u).step u.rel y) E af (λR=>by obtain⟨o,ho,_⟩:=ok.solid _ _ _ hI R;exact nC (JE ho) rfl:¬X (g.heap.objs.size+1)) (by rw[Ji];exact JL _) ⟨y.inv,y.rel,fr⟩ (ht _);have eD:(j.new i.length g.heap.objs.size).a i.length=g.heap.objs.size:=if_pos rfl;rw[eD] at M;have G:NC (Jz W.prog W.w) A (.compLoop (.ListComp elt [⟨tgt,iter,ifs,0⟩] sc pos) 0 it (.ref g.heap.objs.size) (mC F sc cl ce (g.heap.objs.size+1)).env) (compPost (Jz W.prog W.w) A EA none (PV σ st s Q) (.ref g.heap.objs.size) (g.heap.objs.size+1)) {g with heap:=h₁,toks:=g.toks}:=by
  refine M6 M λr s' hr=>?_;cases r with
  |error e=>exact hr.elim
  |ok fl =>
   obtain⟨σ',ao,am,aj,ah,x',H,q'⟩:=hr;obtain⟨m,hm,_⟩:=H.ns;refine⟨m,hm,λh' al=>?_⟩;exact⟨σ',am,(((B.trans (u.trans y)).hO.trans (x'.trans (eV (X:=λb=>b=g.heap.objs.size+1∨X b) (k:=s'.toks) T x'.inv x'.rel H.above (.inl rfl) H.offz H.offh al (Jl _)))).fresh (Y:=de) λb R=>.inr (R.elim (λe=>e▸KG (Jn B.x.grow u.x.grow)) λe=>Jn B.x.grow (hX b e))),.r i.length,⟨aj,congrArg J3 ah.symm⟩,q'⟩
 exact codeAny_compStart_list G (ag 0 _ _ _ E G)
theorem kF{k x}(a:k x=Jh .local):∀(bs:List (Str×Value)) (m:Str->Option Value),bindL k bs m x=(bs.reverse.lookup x).or (m x)
 |[],m=>rfl
 |(n,v)::bs,m=>by
  unfold bindL;refine(kF a bs ..).symm▸?_;rw[Me,R5,Sn]
  congr 1
  by_cases e:x=n
  ·subst e;rw[if_pos a];simp
  ·have:(x == n)=false:=by simpa using e
   simp only[JS,this,Tn,SM]
   split
   ·exact if_neg e
   ·rfl
theorem mK{k x}(a:k x≠Jh .local):∀(bs:List (Str×Value)) (m:Str->Option Value),bindC k bs m x=(bs.reverse.lookup x).or (m x)
 |[],m=>rfl
 |(n,v)::bs,m=>by
  unfold bindC;refine(mK a bs ..).symm▸?_;rw[Me,R5,Sn]
  congr 1
  by_cases e:x=n
  ·subst e;rw[if_neg a];simp
  ·have:(x == n)=false:=by simpa using e
   simp only[JS,this,Tn,SM]
   split
   ·rfl
   ·exact if_neg e
inductive FW(a:Addr)(q:Str)(params:Arguments)(body:List Stmt)(scope:Scope)(cd dflt:Value):Prop
 |mk (o:Obj) (fd:Mk) (ho:W.h₁.get? a=Jh o) (hc:o.cls≠.none) (hd:o.data=.func fd) (hq:fd.qualname=q) (hp:fd.params=params) (hb:fd.body=.stmts body) (hs:fd.scope=scope) (hg:fd.globals=KY) (hcl:fd.closure=[])
  (hdf:fd.defaults=dflt) (hkd:fd.kwdefaults=.none) (hcd:fd.code=cd) (hbi:fd.builtins=LW)
  (code:W.h₁.CodeRec cd q) (codeCls:∀c o,cd=.ref c->W.h₁.get? c=Jh o->o.cls≠.none) (kind:scope.kind=.function)
variable {X:Addr->Prop}{σ₀:Sg}{D:St}{s₀:Js}
inductive gK(σ:Sg)(n:Nat)(s:Js):List Addr->List (Option V)->Prop
 |nil:gK σ n s [] []
 |cons (a:Addr) (v:Option V) (as:List Addr) (vs:List (Option V)) (w:Option Value) (hc:s.heap.IsCell a w) (hv:∀u,v=Jh u->∃y,w=Jh y/\RV σ n s u y) (t:gK σ n s as vs):gK σ n s (a::as) (v::vs)
inductive AS(X:Addr->Prop)(σ₀:Sg)(st0:St)(s₀:Js)(σ:Sg)(st:St)(s:Js)(as:List Addr)(vs:List (Option V)):Prop
 |mk (σ':Sg) (x:bO X σ₀ st0 s₀ σ' (st++vs.map O.cell) s) (old:∀h,h<st.length->σ'.a h=σ.a h) (new:∀i a,as[i]?=Jh a->σ'.a (st.length+i)=a) (z:∀b,σ'.z b->σ.z b) (hl:as.length=vs.length)
theorem kG:∀(as:List Addr) (vs:List (Option V)) (σ:Sg) (st:St),bO X σ₀ D s₀ σ st s->(∀a∈as,s₀.heap.objs.size<=a/\W.h₁.objs.size<=a/\¬σ.z a/\∀h,h<st.length->σ.a h≠a)->as.Nodup->gK σ st.length s as vs->AS X σ₀ D s₀ σ st s as vs
 |[],vs,σ,st,x,Z,U,h=>by
  cases h;exact⟨σ,(by rw[Np,JO];exact x),λZ U=>rfl,λZ U e=>(by cases e),λZ=>id,rfl⟩
 |a::as,vs,σ,st,x,off,nd,h=>by
  cases h with
  |cons Z v U vs w hc hv t =>
   have o:=off a (JJ ..);have G:=(Tj.mp nd)
   have y:=gp x o.1 (hc.lt:a<s.heap.objs.size) o.2.1 o.2.2 (o:=.cell v) (λk=>⟨w,hc,λu e=>by obtain⟨y,p,r⟩:=hv u e;exact⟨y,p,by obtain⟨_,_,H,M,_⟩:=k (vs:=[u]) (ws:=[y]) ⟨y,[],rfl,r,rfl⟩;cases H;exact M⟩⟩) (by intro _ _ _ q;cases q);have old:∀h,h<st.length->(σ.new st.length a).a h=σ.a h:=λh q=>if_neg (J1 q);have F:(σ.new st.length a).a st.length=a:=if_pos rfl;have f:(st++[O.cell v]).length=st.length+1:=Ji;have d:∀ {as vs},gK σ st.length s as vs->gK (σ.new st.length a) (st++[O.cell v]).length s as vs:=λt=>by
    induction t with
    |nil=>exact .nil
    |cons a' v' j C w' A B Z ih=>exact .cons a' v' j C w' A (λu e=>by
      obtain⟨y,p,r⟩:=B u e;exact⟨y,p,RV.cq (X:=de) (σ:=σ) (σ':=σ.new st.length a) (s:=s) (s':=s) ⟨λZ q=>q,λZ U q P L J=>q,Jl _⟩ x.rel.apart u _ _ (λh q=>⟨by rw[f];exact Kh q,old h q⟩) y r⟩) ih
   obtain⟨σ',x',c,g,z',Y⟩:=kG as vs _ _ y (λb E=>by
    refine Jg λzz=>?_;obtain⟨Q,R,S,T⟩:=off b (JR _ E);refine zz ?_;refine⟨Q,R,S,λh q e=>?_⟩;replace q:=f▸q;rcases Nat.lt_succ_iff_lt_or_eq.mp q with q | q
    ·exact T h q ((old h q).symm.trans e)
    ·subst q;exact G.1 ((F.symm.trans e)▸E)) G.2 (d t)
   refine⟨σ',by rw[Jv] at x';exact x',λh q=>(c h (by rw[f];exact Kh q)).trans (old h q),λi b e=>?_,λb q=>z' b q,congrArg (· + 1) Y⟩;cases i with
   |zero=>cases e;exact(c st.length (by refine(f).symm▸?_;exact JL _)).trans F
   |succ i=>have:=g i b e;rw[f] at this;refine(show st.length+(i+1)=st.length+1+i by exact bJ 8 7).symm▸?_;exact this
noncomputable def sZ(n:Nat)(ns:List Str):List (Str×Nat):=ns.zipIdx.map λp=>(p.1,n+p.2)
noncomputable def jy(q:Str)(scope:Scope)(L a:Addr)(c:Value):Env:=newEnv scope L KY (Oy (L+1) scope.names []) (q++Jj ".<locals>.") (Jh a) c none LW
theorem pR{n x}:∀ {ns:List Str} {m:Nat} {h:Nat},((ns.zipIdx m).map λp=>(p.1,n+p.2)).lookup x=Jh h->∃i,ns[i]?=Jh x/\h=n+(m+i)
 |[],Z,U,e=>by cases e
 |y::ns,m,h,e=>by
  have e:=(List.zipIdx_cons ..)▸e;have e:=(Ke ..)▸e;rw[JS] at e;cases q:x == y with
  |true=>simp only[q] at e;cases e;exact⟨0,by refine(eq_of_beq q).symm▸?_;rfl,rfl⟩
  |false =>
   simp only[q] at e;obtain⟨i,a,c⟩:=pR e;exact⟨i+1,a,by exact d7 18 16 c⟩
theorem rz{n f}{g:Str->Option Value}(h:∀x v,f x=Jh v->∃w,g x=Jh w/\RV σ n s v w):∀(ns:List Str) (m:Nat),(∀i x,ns[i]?=Jh x->s.heap.IsCell (m+i) (g x))->gK σ n s (OC m ns.length) (ns.map f)
 |[],Z,U=>.nil
 |x::ns,m,k=>.cons _ _ _ _ (g x) (k 0 x rfl) (h x) (rz h ns (m+1) λi y e=>by have:=k (i+1) y e;refine(show m+1+i=m+(i+1) by exact bJ 2 0).symm▸?_;exact this)
theorem yo{a q params body scope cd dflt vs}(T:bK)(f:FW a q params body scope cd dflt)(ns:List Str)(ac:scope.isCoroutine=false)(G:scope.isGenerator=false)(B:A.depth<recursionLimit)(u:∀(L:Addr) i x,ns[i]?=Jh x->(Oy (L+1) scope.names []).lookup x=Jh (L+1+i))(H:∀x∈ns,scope.names.lookup x=Jh .cell)(d:∀(σ:Sg) (n:Nat) (s:Js) (ws:List Value) (fd:Mk),Inv s->cf σ n s vs ws->fd.params=params->fd.defaults=dflt->fd.kwdefaults=.none->∃bs,Qw s fd ⟨ws,[]⟩ bs/\RB σ n s lc bs.reverse/\∀x∈bs,scope.names.lookup x.1=Jh .local∨x.1∈ns)(h:∀L,bW (A.deeper (jy q scope L a cd)) ⟨jy q scope L a cd,sZ st.length ns,st.length⟩ body lc (st++ns.map λx=>.cell (lc.lookup x)) λfl Z ah=>Q (sd fl) ah):iN A a vs st Q:=by
 intro σ s ws ag i r;refine Jg λzz=>?_;obtain⟨o,fd,h1,h2,h3,e1,e2,e3,e4,e5,e6,e7,e8,e9,aa,c1,c2,kd⟩:=f;obtain⟨bs,ab,hn,hl⟩:=d σ _ s ws fd i ag e2 e7 e8;refine zz ?_;refine SI B (i.old.get_of_cls h1 h2) h3 (e4▸ac) (e4▸G) e3 (by refine(e9 ..).symm▸?_;refine(e1 ..).symm▸?_;exact code_at i c1 c2) (ab _ _ _ _ ?_);refine(e4).symm▸?_;refine(e5).symm▸?_;refine(e6).symm▸?_;refine(e9).symm▸?_;refine(aa).symm▸?_;refine(e1).symm▸?_;refine wpAny_toks (bS (wpAny_newFunctionEnv_cells kd (λx hx=>(hl x hx).imp id λq=>?_) λenv he s' x hz ht=>?_))
 ·obtain⟨j,C,e⟩:=List.mem_iff_getElem.mp q;exact⟨H _ q,by rw[u _ j x.1 (List.getElem?_eq_some_iff.mpr ⟨C,e⟩)];rfl⟩
 subst he;obtain⟨hh,tk,es⟩:=x.toInCall.same;have af:=x.toInCall.keep;have ae:=x.toInCall.ns;have p:=x.cell
 clear x
 subst es;have y:=c4 (X:=(· =s.heap.objs.size)) (k:=tk) i r af hz ht;have rv:∀v w,RV σ st.length s v w->RV σ st.length {s with heap:=hh,toks:=tk} v w:=λv w=>RV.mono y.x (λb q=>⟨λe=>Jw _ (e▸r.zlt b q),r.zoff b q⟩) v w;have lk:∀x v,lc.lookup x=Jh v->∃w,bs.reverse.lookup x=Jh w/\RV σ st.length {s with heap:=hh,toks:=tk} v w:=λx v e=>by obtain⟨w,E,F⟩:=hn.look e;exact⟨w,E,rv v w F⟩
 have nl:∀x∈ns,¬scope.names.lookup x=Jh .local:=λx hx e=>by have e:=(H x hx)▸e;cases e
 obtain⟨σ',z,old,new,zz,ak⟩:=kG (OC (s.heap.objs.size+1) ns.length) (ns.map λx=>lc.lookup x) σ st y (λb d=>by
   have d:=(List.mem_range'_1.mp d).1;have d:s.heap.objs.size<b:=d;exact⟨Ku d,Jn i.size (Ku d),λq=>Jw _ (PE d (r.zlt b q)),λh q e=>Jw _ (PE d (e▸r.lt q))⟩) List.nodup_range' (rz lk ns _ λj x e=>by
   have hc:=p x _ (u _ j x e);rw[mK (show ¬scope.names.lookup x=Jh .local from nl x (Jr e)),SK] at hc;exact hc)
 have z:=J6▸z;refine⟨y.inv.nolimit T,?_⟩;have ln:(st++ns.map (O.cell ∘ λx=>lc.lookup x)).length=st.length+ns.length:=by rw[Ji,Jt]
 have fr:dA ⟨jy q scope s.heap.objs.size a cd,sZ st.length ns,st.length⟩ σ' (st++ns.map (O.cell ∘ λx=>lc.lookup x)).length lc {s with heap:=hh,toks:=tk}:=by
  refine⟨i.size,⟨_,ae,λx v R e=>?_⟩,λq=>Jw _ (r.zlt _ (zz _ q)),λk R e=>?_,kd,rfl,rfl,λx k e=>?_⟩
  ·obtain⟨w,E,F⟩:=lk x v e;refine⟨w,?_,RV.cq (X:=de) ⟨z.x.z,λZ U q P J D=>q,Jl _⟩ y.rel.apart v _ _ (λh q=>⟨by rw[ln];exact Tg _ q,old h q⟩) w F⟩;exact(kF R bs _).trans (by refine(SK).trans ?_;exact E)
  ·rcases LA k st.length with q | q
   ·have e:=(old k q)▸e;exact J1 (r.lt q) e
   ·rw[ln] at R;have C:k-st.length<ns.length:=by exact bJ 18 17 R q
    have:=new (k-st.length) (s.heap.objs.size+1+(k-st.length)) (by rw[RH C,RR]);rw[show st.length+(k-st.length)=k by exact bM 18 18 q,e] at this;exact(bM 18 19 (this:s.heap.objs.size=s.heap.objs.size+1+(k-st.length))).elim
  ·obtain⟨j,E,F⟩:=pR e;rw[Kf] at F;subst F;have C:=(List.getElem?_eq_some_iff.mp E).1;refine⟨by rw[ln];exact Nat.add_lt_add_left C _,?_⟩;refine(new j (s.heap.objs.size+1+j) (by rw[RH C,RR])).symm▸?_;exact u _ j x E
 refine codeAny_func (dc (h s.heap.objs.size σ' _ ⟨z.inv,z.rel,fr⟩) λfl ai c lc₂ st₂ g x aj M S=>?_);have z:=((z.gQ.trans x).fresh (Y:=de) λb d=>.inr (JX d.symm)).hO (Jl _);cases g with
 |ret v=>obtain⟨w,rfl,hw⟩:=M;exact⟨c,st₂,z,v,hw,S⟩
 |next=>cases M;exact⟨c,st₂,z,.n,rfl,S⟩
 |brk=>cases M;exact⟨c,st₂,z,.n,rfl,S⟩
 |cont=>cases M;exact⟨c,st₂,z,.n,rfl,S⟩
structure Gd:Prop where
 prog:W.prog=pw
 top:bK
 obj:∀x∈ko,∃o,W.h₁.get? x.1=Jh o/\qt o=x.2
 nam:∀x∈kn,∃m,W.h₁.Ns x.1 m/\m x.2.1=x.2.2
 t1:W.t₁=798
 tabs:∀h,W.tb h↔kH W.h₁.objs.size 252 248 h
 free:∀x,x∉startupNames->x∉looseW qv loose->x∉(recsOf qv).map (·.name)->x∉(litsOf qv).map (·.1)->x∉(clssOf qv (looseW qv loose)).map (·.name)->W.mg x=none
 boot:∀x:Str,x≠"__name__"->W.mb x=bootBuiltins x
mutual
theorem vx(o:Obj):(qt o).cls=o.cls:=by
 obtain⟨c,d,a,s⟩:=o;cases a <;> rfl
theorem Gd.fields(g:Gd){a o}(h:(a,o)∈ko)(hd:∀f,o.data≠.func f):W.h₁.get? a=Jh o:=by
 obtain⟨o',k,e⟩:=g.obj _ h;have:o'=o:=by
  obtain⟨c,d,i,s⟩:=o';cases i with
  |func f=>exact absurd (by have j:qt ⟨c,d,.func f,s⟩=o:=e;rw[<-j];rfl) (hd {f with doc:=.none})
  |_=>exact e
 rw[<-this];exact k
theorem Gd.name(g:Gd){x v}(h:(3,x,v)∈kn):W.mg x=v:=by
 obtain⟨m,a,c⟩:=g.nam _ h;have:=a.agree g.top.g x;rw[<-this];exact c
theorem Gd.builtin(g:Gd){x:Str}{v}(a:x≠"__name__")(h:bootBuiltins x=Jh v):W.mb x=Jh v:=by rw[g.boot x a];exact h
theorem Gd.m5(g:Gd){a m}(d:W.h₁.Ns a m){x v}(h:(a,x,v)∈kn):m x=v:=by
 obtain⟨f,c,e⟩:=g.nam _ h;rw[<-c.agree d x];exact e
end
noncomputable def BX:Stmt->Bool
 |.FunctionDef Z U P L J D B d c a=>true
 |_=>false
theorem Gd.Hf(g:Gd){a c st q df pm an oc}(h:(a,dD st q df pm (.ref c) an)∈ko)(v:BX st=true)(hc:(c,oc)∈ko)(r:oc.cls=.type "code")(u:∃vs t,oc.data=.fields vs/\vs[1]?=Jh (.str q t))(x:(a6 st).kind=.function):FW a q (bV st) (a5 st) (a6 st) (.ref c) df:=by
 obtain⟨o,y,e⟩:=g.obj _ h;obtain⟨vs,t,hd,z⟩:=u;have p:=g.fields hc (λf q=>Km (hd.symm.trans q));cases st <;> first | (exfalso;exact Jq (v:false=true)) | skip
 obtain⟨cl,A,i,B⟩:=o;cases i with
 |func f =>
  dsimp only at e;have j:cl=.type "function":=congrArg Obj.cls e;have d:=Data.func.inj (congrArg T9 e);exact⟨_,f,y,λq=>JT (j.symm.trans q),rfl,congrArg Mk.qualname d,congrArg Mk.params d,congrArg Mk.body d,congrArg Mk.scope d,congrArg Mk.globals d,congrArg Mk.closure d,congrArg Mk.defaults d,congrArg Mk.kwdefaults d,congrArg Mk.code d,congrArg Mk.builtins d,
   ⟨c,oc,vs,t,rfl,p,hd,z⟩,λc' o' w k=>(by cases w;rw[p] at k;cases k;rw[r];exact λq=>JT q),x⟩
 |_=>exact Km (congrArg T9 e)
theorem Gd.fn(g:Gd){a c st q df pm an oc}(h:(a,dD st q df pm (.ref c) an)∈ko)(j:BX st=true)(hc:(c,oc)∈ko)(e:oc.cls=.type "code")(f:∃vs t,oc.data=.fields vs/\vs[1]?=Jh (.str q t))(G:(a6 st).kind=.function)(i:((a6 st).names.all λx=>x.2 != .cell)=true):FnAt a q (bV st) (a5 st) (a6 st) (.ref c) df:=by
 obtain⟨o,fd,D,E,F,r,u,v,w,y,z,A,B,C,d,k,p,kd⟩:=g.Hf h j hc e f G;exact⟨o,fd,D,E,F,r,u,v,w,y,z,A,B,C,d,k,p,kd,λx H=>by have:=PR.mp i x H;exact of_decide_eq_false (by simpa using this)⟩
inductive FV(a:Addr):Prop
 |mk (o:Obj) (fd:Mk) (h1:W.h₁.get? a=Jh o) (h2:o.cls=.type "function") (h3:o.data=.func fd)
mutual
theorem Gd.pB(g:Gd){a o}(h:(a,o)∈ko)(hc:o.cls=.type "function")(hd:∃f,o.data=.func f):FV a:=by
 obtain⟨o',j,e⟩:=g.obj _ h;obtain⟨f,i⟩:=hd;obtain⟨cl,k,c,p⟩:=o';cases c with
 |func d=>exact⟨_,d,j,by rw[<-vx,e];exact hc,rfl⟩
 |_=>exact Km ((congrArg T9 e).trans i)
theorem FV.callee{a}(f:FV a):Callee (.v (.ref a)):=by
 obtain⟨o,fd,c,d,e⟩:=f;exact .fn a o fd c (λq=>JT (d.symm.trans q)) e
theorem Ae(g:Gd):FnAt 160 (Jj "SequenceMatcher.__init__") (bV (bR 5 1)) (a5 (bR 5 1)) (a6 (bR 5 1)) (.ref 159) (.ref 153) :=
 g.fn (oc:=Bz) (c0 9 rfl) (by kernel_rfl) (c0 8 rfl) rfl ⟨_,_,rfl,rfl⟩ (by kernel_rfl) (by kernel_rfl)
theorem tU(g:Gd):FnAt 167 (Jj "SequenceMatcher.set_seqs") (bV (bR 5 2)) (a5 (bR 5 2)) (a6 (bR 5 2)) (.ref 166) (.none) :=
 g.fn (oc:=By) (c0 11 rfl) (by kernel_rfl) (c0 10 rfl) rfl ⟨_,_,rfl,rfl⟩ (by kernel_rfl) (by kernel_rfl)
theorem tW(g:Gd):FnAt 174 (Jj "SequenceMatcher.set_seq1") (bV (bR 5 3)) (a5 (bR 5 3)) (a6 (bR 5 3)) (.ref 173) (.none) :=
 g.fn (oc:=Bx) (c0 13 rfl) (by kernel_rfl) (c0 12 rfl) rfl ⟨_,_,rfl,rfl⟩ (by kernel_rfl) (by kernel_rfl)
theorem tV(g:Gd):FnAt 181 (Jj "SequenceMatcher.set_seq2") (bV (bR 5 4)) (a5 (bR 5 4)) (a6 (bR 5 4)) (.ref 180) (.none) :=
 g.fn (oc:=Bw) (c0 15 rfl) (by kernel_rfl) (c0 14 rfl) rfl ⟨_,_,rfl,rfl⟩ (by kernel_rfl) (by kernel_rfl)
theorem rx(g:Gd):FnAt 188 (Jj "SequenceMatcher.__chain_b") (bV (bR 5 5)) (a5 (bR 5 5)) (a6 (bR 5 5)) (.ref 187) (.none) :=
 g.fn (oc:=Bv) (c0 17 rfl) (by kernel_rfl) (c0 16 rfl) rfl ⟨_,_,rfl,rfl⟩ (by kernel_rfl) (by kernel_rfl)
theorem C2(g:Gd):FnAt 203 (Jj "SequenceMatcher.get_matching_blocks") (bV (bR 5 7)) (a5 (bR 5 7)) (a6 (bR 5 7)) (.ref 202) (.none) :=
 g.fn (oc:=Bq) (c0 22 rfl) (by kernel_rfl) (c0 21 rfl) rfl ⟨_,_,rfl,rfl⟩ (by kernel_rfl) (by kernel_rfl)
theorem yi(g:Gd):FnAt 210 (Jj "SequenceMatcher.get_opcodes") (bV (bR 5 8)) (a5 (bR 5 8)) (a6 (bR 5 8)) (.ref 209) (.none) :=
 g.fn (oc:=Bp) (c0 24 rfl) (by kernel_rfl) (c0 23 rfl) rfl ⟨_,_,rfl,rfl⟩ (by kernel_rfl) (by kernel_rfl)
end
noncomputable def DD:iy:=⟨241,[((⟨⟨[115,101,116,95,115,101,113,115]⟩⟩:Str),167),((⟨⟨[115,101,116,95,115,101,113,49]⟩⟩:Str),174),((⟨⟨[115,101,116,95,115,101,113,50]⟩⟩:Str),181),((⟨⟨[95,83,101,113,117,101,110,99,101,77,97,116,99,104,101,114,95,95,99,104,97,105,110,95,98]⟩⟩:Str),188),((⟨⟨[102,105,110,100,95,108,111,110,103,101,115,116,95,109,97,116,99,104]⟩⟩:Str),196),((⟨⟨[103,101,116,95,109,97,116,99,104,105,110,103,95,98,108,111,99,107,115]⟩⟩:Str),203),((⟨⟨[103,101,116,95,111,112,99,111,100,101,115]⟩⟩:Str),210)],[kN,fV,eO,lT,jj,lX,qz,km,xE,BP]⟩
mutual
theorem ik{c:Type}{P:c->Prop}{l:List c}{x}(h:l.foldr (λa q=>P a/\q) True)(d:x∈l):P x:=by
 induction l with
 |nil=>cases d
 |cons a l f=>exact(Ub.mp d).elim (λe=>e▸h.1) λq=>f h.2 q
theorem gY{a:Type}{x v}{l:List (Str×a)}(h:l.lookup x=Jh v):(x,v)∈l:=by
 induction l with
 |nil=>cases h
 |cons p l c =>
  rw[JS] at h;cases e:x == p.1 with
  |true=>rw[e] at h;cases h;rw[eq_of_beq e];exact JJ ..
  |false=>rw[e] at h;exact JR _ (c h)
end
noncomputable def noAttr(x:Str):Bool:=match fastLookup "object" x with
 |some r=>r.isNone
 |none=>false
mutual
theorem ia{x}(h:noAttr x=true):J9 (.type "object") x=pure none:=by
 unfold noAttr at h;rw[J4,JM];cases e:fastLookup "object" x with
 |none=>rw[e] at h;cases h
 |some r =>
  rw[e] at h;cases r with
  |none=>rfl
  |some v=>cases h
theorem wX:(DD.as.all noAttr)=true:=by kernel_rfl
theorem wY:(DD.ms.all λp=>noAttr p.1)=true:=by kernel_rfl
end
theorem wW(g:Gd):ou 242 DD:=by
 obtain⟨m,a,_⟩:=g.nam (241,"__init__",Jh (.ref 160)) (Jr (i:=21) (by kernel_rfl));have K:=λ{x v} (h:(241,x,v)∈kn)=>g.m5 a h;refine⟨m,⟨_,_,_,_,_,_,_,_,_,_,_,_,g.fields (o:=Bo) (c0 25 rfl) (λf q=>Km q),a,by decide⟩,K (Jr (i:=31) (by kernel_rfl)),K (Jr (i:=29) (by kernel_rfl)),K (Jr (i:=30) (by kernel_rfl)),λx k h=>?_,λx h=>?_⟩
 ·have z:=ik (P:=λp:Str×Addr=>m p.1=Jh (.ref p.2)/\FV p.2) (l:=DD.ms) ⟨⟨K (Jr (i:=22) (by kernel_rfl)),g.pB (c0 11 rfl) rfl ⟨_,rfl⟩⟩,⟨K (Jr (i:=23) (by kernel_rfl)),g.pB (c0 13 rfl) rfl ⟨_,rfl⟩⟩,⟨K (Jr (i:=24) (by kernel_rfl)),g.pB (c0 15 rfl) rfl ⟨_,rfl⟩⟩,⟨K (Jr (i:=25) (by kernel_rfl)),g.pB (c0 17 rfl) rfl ⟨_,rfl⟩⟩,⟨K (Jr (i:=26) (by kernel_rfl)),g.pB (c0 20 rfl) rfl ⟨_,rfl⟩⟩,⟨K (Jr (i:=27) (by kernel_rfl)),g.pB (c0 22 rfl) rfl ⟨_,rfl⟩⟩,⟨K (Jr (i:=28) (by kernel_rfl)),g.pB (c0 24 rfl) rfl ⟨_,rfl⟩⟩,trivial⟩ (gY h);obtain⟨j,o,fd,c,d,e⟩:=z;exact⟨o,fd,none,j,c,d,e,ia (PR.mp wY _ (gY h))⟩
 ·have q:=List.contains_iff_mem.mp h;refine⟨ik (P:=λp:Str=>m p=none) (l:=DD.as) ⟨K (Jr (i:=32) (by kernel_rfl)),K (Jr (i:=33) (by kernel_rfl)),K (Jr (i:=34) (by kernel_rfl)),K (Jr (i:=38) (by kernel_rfl)),K (Jr (i:=39) (by kernel_rfl)),K (Jr (i:=40) (by kernel_rfl)),K (Jr (i:=41) (by kernel_rfl)),K (Jr (i:=35) (by kernel_rfl)),K (Jr (i:=36) (by kernel_rfl)),K (Jr (i:=37) (by kernel_rfl)),trivial⟩ q,?_⟩;exact ia (PR.mp wX x q)
noncomputable def DE:iy:=⟨312,[((⟨⟨[95,113,102,111,114,109,97,116]⟩⟩:Str),310)],[uj,ui]⟩
mutual
theorem yE:(DE.as.all noAttr)=true:=by kernel_rfl
theorem yF:(DE.ms.all λp=>noAttr p.1)=true:=by kernel_rfl
end
theorem yD(g:Gd):ou 313 DE:=by
 obtain⟨m,a,_⟩:=g.nam (312,"__init__",Jh (.ref 268)) (Jr (i:=42) (by kernel_rfl));have K:=λ{x v} (h:(312,x,v)∈kn)=>g.m5 a h;refine⟨m,⟨_,_,_,_,_,_,_,_,_,_,_,_,g.fields (o:=Bj) (c0 34 rfl) (λf q=>Km q),a,by decide⟩,K (Jr (i:=46) (by kernel_rfl)),K (Jr (i:=44) (by kernel_rfl)),K (Jr (i:=45) (by kernel_rfl)),λx k h=>?_,λx h=>?_⟩
 ·have z:=ik (P:=λp:Str×Addr=>m p.1=Jh (.ref p.2)/\FV p.2) (l:=DE.ms) ⟨⟨K (Jr (i:=43) (by kernel_rfl)),g.pB (c0 33 rfl) rfl ⟨_,rfl⟩⟩,trivial⟩ (gY h);obtain⟨j,o,fd,c,d,e⟩:=z;exact⟨o,fd,none,j,c,d,e,ia (PR.mp yF _ (gY h))⟩
 ·have q:=List.contains_iff_mem.mp h;refine⟨ik (P:=λp:Str=>m p=none) (l:=DE.as) ⟨K (Jr (i:=47) (by kernel_rfl)),K (Jr (i:=48) (by kernel_rfl)),trivial⟩ q,?_⟩;exact ia (PR.mp yE x q)
noncomputable def He:List (Str×V):=[((⟨⟨[77,97,116,99,104]⟩⟩:Str),.v (.ref 135)),((⟨⟨[83,101,113,117,101,110,99,101,77,97,116,99,104,101,114]⟩⟩:Str),.v (.ref 242)),((⟨⟨[68,105,102,102,101,114]⟩⟩:Str),.v (.ref 313)),((⟨⟨[95,107,101,101,112,95,111,114,105,103,105,110,97,108,95,119,115]⟩⟩:Str),.v (.ref 253)),((⟨⟨[73,83,95,67,72,65,82,65,67,84,69,82,95,74,85,78,75]⟩⟩:Str),.v (.ref 325)),((⟨⟨[114,101,115,116,111,114,101]⟩⟩:Str),.v (.ref 332)),((⟨⟨[95,108,97,119,95,108,105,110,101,115]⟩⟩:Str),.v (.ref 339)),((⟨⟨[95,108,97,119,95,97,108,105,107,101]⟩⟩:Str),.v (.ref 346)),((⟨⟨[95,108,97,119,95,114,111,119]⟩⟩:Str),.v (.ref 351)),
 ((⟨⟨[101,110,117,109,101,114,97,116,101]⟩⟩:Str),.g .enumerate),((⟨⟨[108,101,110]⟩⟩:Str),.g .len),((⟨⟨[114,97,110,103,101]⟩⟩:Str),.g .range),((⟨⟨[115,101,116]⟩⟩:Str),.g .set),((⟨⟨[108,105,115,116]⟩⟩:Str),.g .list),((⟨⟨[109,97,112]⟩⟩:Str),.g .map),((⟨⟨[122,105,112]⟩⟩:Str),.g .zip),((⟨⟨[105,110,116]⟩⟩:Str),.g .int),((⟨⟨[116,117,112,108,101]⟩⟩:Str),.g .tuple)]
noncomputable def Hn:List (Addr×iy):=[(242,DD),(313,DE)]
mutual
theorem Fb(g:Gd):Gl He:=⟨g.top,λx v h=>by
 refine ik (P:=λp:Str×V=>∃w,wK p.2=Jh w/\(W.mg p.1=Jh w∨(W.mg p.1=none/\W.mb p.1=Jh w))) (l:=He) ?_ (gY h);exact⟨⟨_,rfl,.inl (g.name (Jr (i:=2) (by kernel_rfl)))⟩,⟨_,rfl,.inl (g.name (Jr (i:=1) (by kernel_rfl)))⟩,⟨_,rfl,.inl (g.name (Jr (i:=3) (by kernel_rfl)))⟩,⟨_,rfl,.inl (g.name (Jr (i:=4) (by kernel_rfl)))⟩,⟨_,rfl,.inl (g.name (Jr (i:=5) (by kernel_rfl)))⟩,⟨_,rfl,.inl (g.name (Jr (i:=6) (by kernel_rfl)))⟩,⟨_,rfl,.inl (g.name (Jr (i:=7) (by kernel_rfl)))⟩,⟨_,rfl,.inl (g.name (Jr (i:=8) (by kernel_rfl)))⟩,⟨_,rfl,.inl (g.name (Jr (i:=9) (by kernel_rfl)))⟩,
  ⟨_,rfl,.inr ⟨g.name (Jr (i:=10) (by kernel_rfl)),g.builtin (by decide) (by kernel_rfl)⟩⟩,⟨_,rfl,.inr ⟨g.name (Jr (i:=11) (by kernel_rfl)),g.builtin (by decide) (by kernel_rfl)⟩⟩,⟨_,rfl,.inr ⟨g.name (Jr (i:=12) (by kernel_rfl)),g.builtin (by decide) (by kernel_rfl)⟩⟩,⟨_,rfl,.inr ⟨g.name (Jr (i:=13) (by kernel_rfl)),g.builtin (by decide) (by kernel_rfl)⟩⟩,⟨_,rfl,.inr ⟨g.name (Jr (i:=14) (by kernel_rfl)),g.builtin (by decide) (by kernel_rfl)⟩⟩,⟨_,rfl,.inr ⟨g.name (Jr (i:=15) (by kernel_rfl)),g.builtin (by decide) (by kernel_rfl)⟩⟩,⟨_,rfl,.inr ⟨g.name (Jr (i:=16) (by kernel_rfl)),g.builtin (by decide) (by kernel_rfl)⟩⟩,⟨_,rfl,.inr ⟨g.name (Jr (i:=17) (by kernel_rfl)),g.builtin (by decide) (by kernel_rfl)⟩⟩,⟨_,rfl,.inr ⟨g.name (Jr (i:=18) (by kernel_rfl)),g.builtin (by decide) (by kernel_rfl)⟩⟩,trivial⟩⟩
theorem Fn(g:Gd):Cl Hn:=λC c h=>by
 unfold Hn at h;rw[JS] at h;cases e:C == 242 with
 |true=>have h:=e▸h;cases h;rw[eq_of_beq e];exact wW g
 |false =>
  have h:=e▸h;dsimp only at h;rw[JS] at h;cases e:C == 313 with
  |true=>replace h:=e▸h;cases h;refine(eq_of_beq e).symm▸?_;exact yD g
  |false=>have h:=e▸h;cases h
end
theorem Gd.snd(g:Gd){A F}(a:A.handled=none)(hi:Nt F.env=false):uM A F (sm A F He Hn 60):=Mine.Internal.snd (Fb g) (Fn g) a hi 60
noncomputable def pP(d a b g c codes f i e h:V):Lc:=[(kN,d),(fV,a),(eO,b),(lT,g),(jj,c),(lX,codes),(qz,f),(km,i),(xE,e),(BP,h)]
theorem od:dO (bV (bR 5 3)) .none [d0,fV]:=by
 rintro⟨⟩ ws c d e h;dsimp only at c d e;subst c d e;obtain⟨a,b,rfl⟩:=oY h
 rfl
mutual
theorem s9(g:Gd)(c:A.handled=none)(a:A.depth<recursionLimit){x t j au}(h:Q .n [.ns [(kN,j),(fV,.s x t),(eO,.n),(lT,au),(jj,.n),(lX,.n)],.inst 242 0]):bI A (.v (.ref 174)) [.r 1,.s x t] [.ns [(kN,j),(fV,.n),(eO,.n),(lT,au)],.inst 242 0] Q:=by
 refine(cC (names:=[d0,fV]) g.top (tW g) (by kernel_rfl) (by kernel_rfl) a od rfl (by kernel_rfl) λL=>?_).call;refine(g.snd (by exact c) (by rfl)).Ss ?_;refine Br.mk (λq=>Jq q) λZ=>?_;exact h
theorem vY(g:Gd)(i:A.handled=none)(a:A.depth<recursionLimit){x y t u j b au bl co fb bj ju po}{st:St}{E1 E2:Prop}(d:∀A' st (c:V->St->Prop),(E1->c (.b true) st)->(E2->c (.b false) st)->cE A' (KJ .Is) (.s x t) (.s y u) st c)(f:E1->Q .n (.ns (pP j (.s y u) b au bl co fb bj ju po)::.inst 242 0::st))(h:E2->Q .n (.ns (pP j (.s x t) b au .n .n fb bj ju po)::.inst 242 0::st)):bI A (.v (.ref 174)) [.r 1,.s x t] (.ns (pP j (.s y u) b au bl co fb bj ju po)::.inst 242 0::st) Q:=by
 refine(cC (names:=[d0,fV]) g.top (tW g) (by kernel_rfl) (by kernel_rfl) a od rfl (by kernel_rfl) λL=>?_).call;refine(g.snd (by exact i) (by rfl)).Ss ?_;refine d _ _ _ (λe=>Br.mk (λZ=>?_) λq=>Jq q) λe=>Br.mk (λq=>Jq q) λZ=>?_
 ·exact f e
 ·exact h e
end
noncomputable def dj(bs:List Str)(k:Str)(n:Nat):List Nat:=(KI n).filter λi=>bs[i]? == Jh k
mutual
theorem lR(bs:List Str)(k:Str)(n:Nat):dj bs k (n+1)=dj bs k n++if bs[n]? == Jh k then [n] else []:=by
 unfold dj;rw[P8,R7]
 congr 1
 refine(PO).trans ?_
 rfl
theorem jL{bs k n i}:i∈dj bs k n↔i<n/\bs[i]?=Jh k:=by
 unfold dj;rw[List.mem_filter,List.mem_range,beq_iff_eq]
theorem nA(bs:List Str)(k:Str)(n:Nat):(dj bs k n).length<=n:=by
 have:=Ou (λi=>bs[i]? == Jh k) (KI n);rw[KQ] at this;exact this
end
noncomputable def chars(x:Str):List Str:=x.cps.toList.map λc=>⟨#[c]⟩
theorem dT(x:Str):(chars x).length=x.length:=by unfold chars;rw[Jt];rfl
variable (as:List Str)(bs:List Str)(ok:Str->Bool)(alo:Nat)(blo:Nat)
noncomputable def pairAt(i j:Nat):Bool:=match as[i]?,bs[j]? with
 |some x,Jh y=>x == y&&ok y
 |Z,U=>false
noncomputable def cu:Nat->Nat->Nat
 |0,Z=>0
 |Z+1,0=>0
 |i+1,j+1=>if alo<=i/\blo<=j/\pairAt as bs ok i j=true then cu i j+1 else 0
noncomputable def Run(i j k:Nat):Prop:=alo<=i/\blo<=j/\∀t,t<k->pairAt as bs ok (i+t) (j+t)=true
end
section
variable {as:List Str}{bs:List Str}{ok:Str->Bool}{alo:Nat}{blo:Nat}
theorem b8{i j}:pairAt as bs ok i j=true↔∃x,as[i]?=Jh x/\bs[j]?=Jh x/\ok x=true:=by
 constructor
 ·intro h;have h:(match as[i]?,bs[j]? with | Jh x,Jh y=>x == y&&ok y | _,_=>false)=true:=h;cases a:as[i]? with
  |none=>rw[a] at h;exact Jq h
  |some x =>
   cases c:bs[j]? with
   |none=>(have h:=(a ..)▸h;rw[c] at h);exact Jq h
   |some y =>
    rw[a,c] at h;obtain⟨d,e⟩:=Bool.and_eq_true_iff.mp h;exact⟨y,by rw[eq_of_beq d],rfl,e⟩
 ·rintro⟨x,a,c,d⟩;show(match as[i]?,bs[j]? with | Jh x,Jh y=>x == y&&ok y | _,_=>false)=true;refine(a ..).symm▸?_;refine(c ..).symm▸?_;exact Bool.and_eq_true_iff.mpr ⟨beq_self_eq_true x,d⟩
mutual
theorem iP(j:Nat):cu as bs ok alo blo 0 j=0:=by rfl
theorem gT(i:Nat):cu as bs ok alo blo i 0=0:=by cases i <;> rfl
theorem dJ(i j:Nat):cu as bs ok alo blo (i+1) (j+1)=if alo<=i/\blo<=j/\pairAt as bs ok i j=true then cu as bs ok alo blo i j+1 else 0:=rfl
end
theorem vd{i j}(h:j<=blo):cu as bs ok alo blo i j=0:=by
 cases i with
 |zero=>exact iP _
 |succ i =>
  cases j with
  |zero=>exact gT _
  |succ j=>rw[dJ,if_neg (λq=>by exact bM 0 0 h q.2.1)]
theorem hV:∀(i j:Nat),cu as bs ok alo blo i j<=i/\cu as bs ok alo blo i j<=j/\(0<cu as bs ok alo blo i j->Run as bs ok alo blo (i-cu as bs ok alo blo i j) (j-cu as bs ok alo blo i j) (cu as bs ok alo blo i j))
 |0,j=>by refine(iP ..).symm▸?_;exact⟨Jl _,JN _,λh=>absurd h (Jw _)⟩
 |i+1,0=>by refine(gT ..).symm▸?_;exact⟨JN _,Jl _,λh=>absurd h (Jw _)⟩
 |i+1,j+1=>by
  obtain⟨d,f,k⟩:=hV i j;refine(dJ ..).symm▸?_;by_cases h:alo<=i/\blo<=j/\pairAt as bs ok i j=true
  ·rw[if_pos h];refine⟨by exact bJ 0 1 d,by exact bJ 0 1 f,λZ=>?_⟩;rw[RC,RC];by_cases c:0<cu as bs ok alo blo i j
   ·obtain⟨o,p,q⟩:=k c;refine⟨o,p,λt a=>?_⟩;by_cases e:t=cu as bs ok alo blo i j
    ·rw[e,So d,So f];exact h.2.2
    ·exact q t (by exact bM 0 2 a e)
   ·have g:cu as bs ok alo blo i j=0:=by exact dy 0 3 c
    refine(g).symm▸?_;refine⟨h.1,h.2.1,λt a=>?_⟩;have:t=0:=by exact dy 0 4 a
    refine(this).symm▸?_;exact h.2.2
  ·rw[if_neg h];exact⟨JN _,JN _,λh=>absurd h (Jw _)⟩
theorem w9:∀(k i j:Nat),Run as bs ok alo blo i j k->k<=cu as bs ok alo blo (i+k) (j+k)
 |0,i,j,h=>JN _
 |k+1,i,j,h=>by
  have e:i+(k+1)=(i+k)+1:=by exact bJ 0 6
  have a:j+(k+1)=(j+k)+1:=by exact bJ 0 6
  rw[e,a,dJ,if_pos ⟨by have:=h.1;exact bJ 0 7 this,by have:=h.2.1;exact bJ 0 7 this,h.2.2 k (by exact dy 0 8)⟩];exact bJ 0 1 (w9 k i j ⟨h.1,h.2.1,λt c=>h.2.2 t (by exact bJ 0 5 c)⟩)
structure cV(as bs:List Str)(ok:Str->Bool)(alo blo:Nat)(S:Nat->Nat->Prop)(bi bj bk:Nat):Prop where
 zero:bk=0->bi=alo/\bj=blo
 at_:0<bk->∃e f,S e f/\cu as bs ok alo blo (e+1) (f+1)=bk/\bi+bk=e+1/\bj+bk=f+1/\∀e' f',S e' f'->cu as bs ok alo blo (e'+1) (f'+1)=bk->e<e'∨(e=e'/\f<=f')
 max:∀e f,S e f->cu as bs ok alo blo (e+1) (f+1)<=bk
mutual
theorem cV.start:cV as bs ok alo blo (λZ U=>False) alo blo 0:=⟨λZ=>⟨rfl,rfl⟩,λh=>absurd h (Jw _),λZ U h=>h.elim⟩
theorem cV.congr{S S' bi bj bk}(b:cV as bs ok alo blo S bi bj bk)(h:∀e f,S e f->S' e f)(h':∀e f,S' e f->S e f∨cu as bs ok alo blo (e+1) (f+1)=0):cV as bs ok alo blo S' bi bj bk:=by
 refine⟨b.zero,λd=>?_,λe f q=>?_⟩
 ·obtain⟨e,f,i,j,k,o,p⟩:=b.at_ d;refine⟨e,f,h _ _ i,j,k,o,λa c r g=>?_⟩;rcases h' a c r with q | q
  ·exact p a c q g
  ·exact pO 0 9 d q g
 ·rcases h' e f q with q | q
  ·exact b.max e f q
  ·exact bM 0 10 q
theorem cV.more{S S' bi bj bk i j}(b:cV as bs ok alo blo S bi bj bk)(d:∀e f,S' e f↔S e f∨(e=i/\f=j))(a:∀e f,S e f->e<i∨(e=i/\f<j)) :
  if bk<cu as bs ok alo blo (i+1) (j+1) then cV as bs ok alo blo S' (i+1-cu as bs ok alo blo (i+1) (j+1)) (j+1-cu as bs ok alo blo (i+1) (j+1)) (cu as bs ok alo blo (i+1) (j+1)) else cV as bs ok alo blo S' bi bj bk:=by
 refine Jg λB=>?_;obtain⟨z,A,_⟩:=hV (as:=as) (bs:=bs) (ok:=ok) (alo:=alo) (blo:=blo) (i+1) (j+1);refine B ?_;by_cases g:bk<cu as bs ok alo blo (i+1) (j+1)
 ·rw[if_pos g];refine⟨λh=>by exact ip 0 11 g h,λZ=>⟨i,j,(d i j).mpr (.inr ⟨rfl,rfl⟩),rfl,by exact bM 0 12 z,by exact bM 0 12 A,λk o p r=>?_⟩,λe f q=>?_⟩
  ·rcases(d k o).mp p with q | ⟨q,c⟩
   ·have:=b.max k o q;exact pO 0 13 g r this
   ·right;exact⟨q.symm,by exact bM 0 14 c⟩
  ·rcases(d e f).mp q with q | ⟨q,c⟩
   ·have:=b.max e f q;exact bJ 0 15 g this
   ·rw[q,c];exact Jl _
 ·rw[if_neg g];refine⟨b.zero,λh=>?_,λe f q=>?_⟩
  ·obtain⟨e,f,u,v,w,x,y⟩:=b.at_ h;refine⟨e,f,(d e f).mpr (.inl u),v,w,x,λk o p r=>?_⟩;rcases(d k o).mp p with q | ⟨q,c⟩
   ·exact y k o q r
   ·have:=a e f u;exact ip 0 16 this q c
  ·rcases(d e f).mp q with q | ⟨q,c⟩
   ·exact b.max e f q
   ·rw[q,c];exact bM 0 17 g
end
structure il(as bs:List Str)(ok:Str->Bool)(alo ahi blo bhi i j k:Nat):Prop where
 zero:k=0->i=alo/\j=blo
 run:Run as bs ok alo blo i j k
 hi:i+k<=max alo ahi/\j+k<=max blo bhi
 best:∀i' j' k',0<k'->Run as bs ok alo blo i' j' k'->i'+k'<=ahi->j'+k'<=bhi->k'<k∨(k'=k/\(i<i'∨(i=i'/\j<=j')))
end
section
variable (as:List Str)(bs:List Str)(p:Str->Bool)
noncomputable def dg(alo blo:Nat):Nat->Nat->Nat->Nat×Nat×Nat
 |0,j,k=>(0,j,k)
 |i+1,j,k=>if alo<i+1/\blo<j/\pairAt as bs p i (j-1)=true then dg alo blo i (j-1) (k+1) else(i+1,j,k)
noncomputable def d3(ahi bhi:Nat)(i j:Nat):Nat->Nat->Nat
 |0,k=>k
 |n+1,k=>if i+k<ahi/\j+k<bhi/\pairAt as bs p (i+k) (j+k)=true then d3 ahi bhi i j n (k+1) else k
end
section
variable {as:List Str}{bs:List Str}{p:Str->Bool}{alo:Nat}{ahi:Nat}{blo:Nat}{bhi:Nat}
theorem sI(j k:Nat):dg as bs p alo blo 0 j k=(0,j,k):=rfl
theorem sG(i j k:Nat):d3 as bs p ahi bhi i j 0 k=k:=rfl
theorem gB(i j k:Nat):dg as bs p alo blo (i+1) j k=if alo<i+1/\blo<j/\pairAt as bs p i (j-1)=true then dg as bs p alo blo i (j-1) (k+1) else(i+1,j,k):=rfl
theorem gy(i j n k:Nat):d3 as bs p ahi bhi i j (n+1) k=if i+k<ahi/\j+k<bhi/\pairAt as bs p (i+k) (j+k)=true then d3 as bs p ahi bhi i j n (k+1) else k:=rfl
noncomputable def extend(as bs:List Str)(J:Str->Bool)(alo ahi blo bhi:Nat)(x:Nat×Nat×Nat):Nat×Nat×Nat :=
 let y:=dg as bs (λs=> !J s) alo blo x.1 x.2.1 x.2.2
 let k:=d3 as bs (λs=> !J s) ahi bhi y.1 y.2.1 (ahi-(y.1+y.2.2)) y.2.2
 let z:=dg as bs J alo blo y.1 y.2.1 k
 (z.1,z.2.1,d3 as bs J ahi bhi z.1 z.2.1 (ahi-(z.1+z.2.2)) z.2.2)
noncomputable def kJ(as bs:List Str)(J:Str->Bool)(alo ahi blo bhi:Nat)(x:Nat×Nat×Nat):Prop:=∃i j k,il as bs (λs=> !J s) alo ahi blo bhi i j k/\x=extend as bs J alo ahi blo bhi (i,j,k)
end
noncomputable def cD(l:List Stmt)(i:Nat):Stmt:=(l[i]?).getD (.Pass ⟨0,0,0,0⟩)
noncomputable def ir(L:Addr)(n:Nat):cU:=⟨K5 (Jj "SequenceMatcher.find_longest_match") (a6 (bR 5 6)) L 196 (.ref 195),[],n⟩
noncomputable def fu(i:Nat):Stmt:=cD (a5 (bR 5 6)) i
noncomputable def gj(s:Stmt):Expr:=(zh s).1
noncomputable def ly(s:Stmt):List Stmt:=(zh s).2.2.1
noncomputable def gD(d e:Str)(a c:Nat)(alo ahi blo bhi:Nat)(i j k:Int):Lc:=[((⟨⟨[98,104,105]⟩⟩:Str),.i bhi),((⟨⟨[98,108,111]⟩⟩:Str),.i blo),((⟨⟨[97,104,105]⟩⟩:Str),.i ahi),((⟨⟨[97,108,111]⟩⟩:Str),.i alo),(d0,.r 1),(fV,.s d a),(eO,.s e c),(km,.r 2),((⟨⟨[105,115,98,106,117,110,107]⟩⟩:Str),.bm .shas 3),((⟨⟨[98,101,115,116,105]⟩⟩:Str),.i i),((⟨⟨[98,101,115,116,106]⟩⟩:Str),.i j),((⟨⟨[98,101,115,116,115,105,122,101]⟩⟩:Str),.i k)]
structure rQ(xa xb:Str)(J:Str->Bool)(l:List Str)(ahi bhi:Nat):Prop where
 za:xa.length<=sizeLine
 zb:xb.length<=sizeLine
 mem:∀k,k∈l↔k∈chars xb/\J k=true
 zl:l.length<scanBound
 ra:ahi<=(chars xa).length
 rb:bhi<=(chars xb).length
mutual
theorem rQ.zT{xa xb J l ahi bhi}(w:rQ xa xb J l ahi bhi){y}(a:y∈chars xb):decide (y∈l)=J y:=by
 cases e:J y with
 |true=>exact decide_eq_true ((w.mem y).mpr ⟨a,e⟩)
 |false=>exact decide_eq_false λq=>Jq (((w.mem y).mp q).2.symm.trans e)
theorem f5(x:Str):sgn x=bQ (chars x):=by refine KH ?_ (J6).symm;rfl
end
mutual
theorem cI{x y k}{n:Nat}{R}(e:k=(n:Int))(h:(chars x)[n]?=Jh y)(q:R (.s y 0)):d5 (sgn x) k R :=
 .at (by rw[e];exact KU n) (by rw[e,J8,f5,JY,h];rfl) q
theorem dQ{as bs p i j x y}(a:as[i]?=Jh x)(c:bs[j]?=Jh y):pairAt as bs p i j=(x == y&&p y):=by
 unfold pairAt;refine(a).symm▸?_;exact(c).symm▸rfl
end
section
variable {A:Around}{c a:Str}{u r:Nat}{J:Str->Bool}{alo ahi blo bhi:Nat}{l:List Str}{m:Lc}{d:List (Str×V)}{o f:O}
theorem test8(g:Gd){X Y L n i j k}(B:A.handled=none)(w:rQ c a J l ahi bhi)(hi:i<=(chars c).length)(C:j<=(chars a).length)(h:Br (decide (alo<i/\blo<j/\pairAt (chars c) (chars a) (λs=> !J s) (i-1) (j-1)=true)) (X [.ns m,.inst 242 0,.dict d,.set l,o,f]) (Y [.ns m,.inst 242 0,.dict d,.set l,o,f])) :
  kT A (ir L n) (gj (fu 8)) (gD c a u r alo ahi blo bhi i j k) [.ns m,.inst 242 0,.dict d,.set l,o,f] (two X Y):=by
 refine(g.snd B (by rfl)).T ?_;refine Br.mk (λv=>?_) λv=>h.f (decide_eq_false λq=>absurd (Int.ofNat_lt.mpr q.1) (of_decide_eq_false v));have v:=Int.ofNat_lt.mp (of_decide_eq_true v);refine Br.mk (λp=>?_) λp=>h.f (decide_eq_false λq=>absurd (Int.ofNat_lt.mpr q.2.1) (of_decide_eq_false p));have p:=Int.ofNat_lt.mp (of_decide_eq_true p);have li:i-1<(chars c).length:=by exact bJ 12 9 v hi
 have x:j-1<(chars a).length:=by exact bJ 12 9 p C
 refine⟨w.zb,cI (n:=j-1) (by exact bM 12 10 p) (Jo x) ⟨w.zl,?_⟩⟩;rw[w.zT (LS x)];refine Br.mk (λy=>h.f (decide_eq_false λq=>?_)) λy=>?_
 ·have:=q.2.2;rw[dQ (Jo li) (Jo x),y] at this;exact Jq (Bool.and_eq_true_iff.mp this).2
 refine⟨w.za,cI (n:=i-1) (by exact bM 12 10 v) (Jo li) ⟨w.zb,cI (n:=j-1) (by exact bM 12 10 p) (Jo x) ?_⟩⟩;have e:pairAt (chars c) (chars a) (λs=> !J s) (i-1) (j-1)=((chars c)[i-1] == (chars a)[j-1]):=by
  refine(dQ (Jo li) (Jo x)).trans ?_;refine(y).symm▸?_;exact O2 _
 rw[e] at h;exact Br.mk (λz=>h.t (decide_eq_true ⟨v,p,z⟩)) λz=>h.f (decide_eq_false λq=>Jq (q.2.2.symm.trans z))
theorem qU{as bs p alo blo}(i j k:Nat):dg as bs p alo blo i j k=if alo<i/\blo<j/\pairAt as bs p (i-1) (j-1)=true then dg as bs p alo blo (i-1) (j-1) (k+1) else(i,j,k):=by
 cases i with
 |zero=>rw[if_neg (λq=>absurd q.1 (Jy _)),sI]
 |succ i=>rw[gB,MM]
inductive B9(as bs:List Str)(p:Str->Bool)(alo blo:Nat)(z:Nat×Nat×Nat)(lcOf:Int->Int->Int->Lc)(st0:St)(n:Nat)(lc:Lc)(st:St):Prop
 |mk (i j k:Nat) (hn:n=i) (hz:dg as bs p alo blo i j k=z) (hi:i+k<=as.length) (hj:j+k<=bs.length) (hl:lc=lcOf i j k) (hs:st=st0)
end
theorem qT{as bs p ahi bhi}(i j k:Nat):d3 as bs p ahi bhi i j (ahi-(i+k)) k=if i+k<ahi/\j+k<bhi/\pairAt as bs p (i+k) (j+k)=true then d3 as bs p ahi bhi i j (ahi-(i+(k+1))) (k+1) else k:=by
 by_cases h:i+k<ahi
 ·have e:ahi-(i+k)=(ahi-(i+(k+1)))+1:=by exact bJ 14 16 h
  rw[e,gy]
 ·refine(RA (Nat.not_lt.mp h)).symm▸?_;rw[if_neg (λq=>h q.1),sG]
inductive B8(as bs:List Str)(p:Str->Bool)(ahi bhi i j z:Nat)(lcOf:Int->Lc)(st0:St)(n:Nat)(lc:Lc)(st:St):Prop
 |mk (k:Nat) (hn:n=as.length-k) (hz:d3 as bs p ahi bhi i j (ahi-(i+k)) k=z) (hi:i+k<=as.length) (hj:j+k<=bs.length) (hl:lc=lcOf k) (hs:st=st0)
section
variable {A:Around}{d c:Str}{r p:Nat}{J:Str->Bool}{alo ahi blo bhi:Nat}{l:List Str}{m:Lc}{a:List (Str×V)}{o f:O}
mutual
theorem test9(g:Gd){X Y L n i j k}(D:A.handled=none)(w:rQ d c J l ahi bhi)(h:Br (decide (i+k<ahi/\j+k<bhi/\pairAt (chars d) (chars c) (λs=> !J s) (i+k) (j+k)=true)) (X [.ns m,.inst 242 0,.dict a,.set l,o,f]) (Y [.ns m,.inst 242 0,.dict a,.set l,o,f])) :
  kT A (ir L n) (gj (fu 9)) (gD d c r p alo ahi blo bhi i j k) [.ns m,.inst 242 0,.dict a,.set l,o,f] (two X Y):=by
 refine(g.snd D (by rfl)).T ?_;have z:(i:Int)+k=((i+k:Nat):Int):=(Ow i k).symm;have y:(j:Int)+k=((j+k:Nat):Int):=(Ow j k).symm;refine Br.mk (λu=>?_) λu=>h.f (decide_eq_false λq=>absurd (z▸Int.ofNat_lt.mpr q.1) (of_decide_eq_false u));have u:=Int.ofNat_lt.mp (z▸of_decide_eq_true u);refine Br.mk (λv=>?_) λv=>h.f (decide_eq_false λq=>absurd (y▸Int.ofNat_lt.mpr q.2.1) (of_decide_eq_false v));have v:=Int.ofNat_lt.mp (y▸of_decide_eq_true v);have li:=Jp u w.ra;have x:=Jp v w.rb;refine⟨w.zb,cI (n:=j+k) y (Jo x) ⟨w.zl,?_⟩⟩;rw[w.zT (LS x)];refine Br.mk (λB=>h.f (decide_eq_false λq=>?_)) λB=>?_
 ·have:=q.2.2;rw[dQ (Jo li) (Jo x),B] at this;exact Jq (Bool.and_eq_true_iff.mp this).2
 refine⟨w.za,cI (n:=i+k) z (Jo li) ⟨w.zb,cI (n:=j+k) y (Jo x) ?_⟩⟩;have e:pairAt (chars d) (chars c) (λs=> !J s) (i+k) (j+k)=((chars d)[i+k] == (chars c)[j+k]):=by
  refine(dQ (Jo li) (Jo x)).trans ?_;refine(B).symm▸?_;exact O2 _
 rw[e] at h;exact Br.mk (λC=>h.t (decide_eq_true ⟨u,v,C⟩)) λC=>h.f (decide_eq_false λq=>Jq (q.2.2.symm.trans C))
theorem test10(g:Gd){X Y L n i j k}(B:A.handled=none)(w:rQ d c J l ahi bhi)(hi:i<=(chars d).length)(C:j<=(chars c).length)(h:Br (decide (alo<i/\blo<j/\pairAt (chars d) (chars c) J (i-1) (j-1)=true)) (X [.ns m,.inst 242 0,.dict a,.set l,o,f]) (Y [.ns m,.inst 242 0,.dict a,.set l,o,f])) :
  kT A (ir L n) (gj (fu 10)) (gD d c r p alo ahi blo bhi i j k) [.ns m,.inst 242 0,.dict a,.set l,o,f] (two X Y):=by
 refine(g.snd B (by rfl)).T ?_;refine Br.mk (λv=>?_) λv=>h.f (decide_eq_false λq=>absurd (Int.ofNat_lt.mpr q.1) (of_decide_eq_false v));have v:=Int.ofNat_lt.mp (of_decide_eq_true v);refine Br.mk (λu=>?_) λu=>h.f (decide_eq_false λq=>absurd (Int.ofNat_lt.mpr q.2.1) (of_decide_eq_false u));have u:=Int.ofNat_lt.mp (of_decide_eq_true u);have li:i-1<(chars d).length:=by exact bJ 12 9 v hi
 have x:j-1<(chars c).length:=by exact bJ 12 9 u C
 refine⟨w.zb,cI (n:=j-1) (by exact bM 12 10 u) (Jo x) ⟨w.zl,?_⟩⟩;rw[w.zT (LS x)];refine Br.mk (λy=>?_) λy=>h.f (decide_eq_false λq=>?_)
 rotate_left
 ·have:=q.2.2;rw[dQ (Jo li) (Jo x),y] at this;exact Jq (Bool.and_eq_true_iff.mp this).2
 refine⟨w.za,cI (n:=i-1) (by exact bM 12 10 v) (Jo li) ⟨w.zb,cI (n:=j-1) (by exact bM 12 10 u) (Jo x) ?_⟩⟩;have e:pairAt (chars d) (chars c) J (i-1) (j-1)=((chars d)[i-1] == (chars c)[j-1]):=by
  refine(dQ (Jo li) (Jo x)).trans ?_;refine(y).symm▸?_;exact O2 _
 rw[e] at h;exact Br.mk (λz=>h.t (decide_eq_true ⟨v,u,z⟩)) λz=>h.f (decide_eq_false λq=>Jq (q.2.2.symm.trans z))
theorem Ck(g:Gd){X Y L n i j k}(D:A.handled=none)(w:rQ d c J l ahi bhi)(h:Br (decide (i+k<ahi/\j+k<bhi/\pairAt (chars d) (chars c) J (i+k) (j+k)=true)) (X [.ns m,.inst 242 0,.dict a,.set l,o,f]) (Y [.ns m,.inst 242 0,.dict a,.set l,o,f])) :
  kT A (ir L n) (gj (fu 11)) (gD d c r p alo ahi blo bhi i j k) [.ns m,.inst 242 0,.dict a,.set l,o,f] (two X Y):=by
 refine(g.snd D (by rfl)).T ?_;have z:(i:Int)+k=((i+k:Nat):Int):=(Ow i k).symm;have y:(j:Int)+k=((j+k:Nat):Int):=(Ow j k).symm;refine Br.mk (λu=>?_) λu=>h.f (decide_eq_false λq=>absurd (z▸Int.ofNat_lt.mpr q.1) (of_decide_eq_false u));have u:=Int.ofNat_lt.mp (z▸of_decide_eq_true u);refine Br.mk (λv=>?_) λv=>h.f (decide_eq_false λq=>absurd (y▸Int.ofNat_lt.mpr q.2.1) (of_decide_eq_false v));have v:=Int.ofNat_lt.mp (y▸of_decide_eq_true v);have li:=Jp u w.ra;have x:=Jp v w.rb;refine⟨w.zb,cI (n:=j+k) y (Jo x) ⟨w.zl,?_⟩⟩;rw[w.zT (LS x)];refine Br.mk (λB=>?_) λB=>h.f (decide_eq_false λq=>?_)
 rotate_left
 ·have:=q.2.2;rw[dQ (Jo li) (Jo x),B] at this;exact Jq (Bool.and_eq_true_iff.mp this).2
 refine⟨w.za,cI (n:=i+k) z (Jo li) ⟨w.zb,cI (n:=j+k) y (Jo x) ?_⟩⟩;have e:pairAt (chars d) (chars c) J (i+k) (j+k)=((chars d)[i+k] == (chars c)[j+k]):=by
  refine(dQ (Jo li) (Jo x)).symm▸?_;refine(B).symm▸?_;exact O2 _
 rw[e] at h;exact Br.mk (λC=>h.t (decide_eq_true ⟨u,v,C⟩)) λC=>h.f (decide_eq_false λq=>Jq (q.2.2.symm.trans C))
end
end
section
variable {A:Around}{st:St}{Q:V->St->Prop}
inductive Hx:Prop
 |mk (mN:Str->Option Value) (c:TupAt 135 134 136 82 mN) (make:mN "_make"=Jh (.ref 91)) (lt:mN "__lt__"=none) (len:mN "__len__"=none) (iter:mN "__iter__"=none)
theorem gX(g:Gd):Hx:=by
 obtain⟨m,a,_⟩:=g.nam (134,Jj "__new__",Jh (.ref 136)) (c0 49 rfl);obtain⟨ms,c,d⟩:=g.nam (KS,Jj "thirdparty.any",none) (c0 65 rfl);exact⟨m,⟨_,_,_,_,_,_,_,_,_,g.fields (o:=BC) (c0 5 rfl) (λf q=>Km q),a,by decide,⟨ms,c,d⟩,g.m5 a (c0 50 rfl),g.m5 a (c0 49 rfl),g.fields (o:=BB) (c0 6 rfl) (λf q=>Km q)⟩,
  g.m5 a (c0 51 rfl),g.m5 a (c0 53 rfl),g.m5 a (c0 52 rfl),g.m5 a (c0 55 rfl)⟩
end
noncomputable def ee(s:Stmt):Expr:=(zh s).1
noncomputable def cy(s:Stmt):List Stmt:=(zh s).2.2.1
structure rL(as bs:List Str)(ok:Str->Bool)(alo blo bhi i:Nat)(kvs:List (Int×V))(P:Nat->Prop):Prop where
 yes:∀j,P j->blo<=j->j<bhi->b6 kvs (j:Int)=Jh (.i (cu as bs ok alo blo (i+1) (j+1):Nat))
 no:∀j:Int,(∀n:Nat,P n->(n:Int)=j->¬(blo<=n/\n<bhi))->b6 kvs j=none
 int:∀p∈kvs,∃z,p.2=V.i z
noncomputable abbrev FR(alo blo bhi i:Nat)(P:Nat->Prop)(e f:Nat):Prop:=blo<=f/\f<bhi/\alo<=e/\(e<i∨(e=i/\P f))
structure JI(as bs:List Str)(ok:Str->Bool)(alo blo bhi i:Nat)(P:Nat->Prop)(kn:List (Int×V))(bi bj bk:Nat):Prop where
 nj:rL as bs ok alo blo bhi i kn P
 bo:cV as bs ok alo blo (FR alo blo bhi i P) bi bj bk
section
variable {as bs:List Str}{ok:Str->Bool}{alo blo bhi i j c a bk:Nat}{P P':Nat->Prop}{kn:List (Int×V)}{done:List Nat}
theorem JI.same(h:JI as bs ok alo blo bhi i P kn c a bk)(g:∀n,P n->P' n)(j:∀n,P' n->blo<=n->n<bhi->P n):JI as bs ok alo blo bhi i P' kn c a bk :=
 ⟨⟨λn d o p=>h.nj.yes n (j n d o p) o p,λz hz=>h.nj.no z λn d=>hz n (g n d),h.nj.int⟩,
  h.bo.congr (λe f q=>⟨q.1,q.2.1,q.2.2.1,q.2.2.2.imp id λq=>⟨q.1,g f q.2⟩⟩) λe f q=>.inl ⟨q.1,q.2.1,q.2.2.1,q.2.2.2.imp id λk=>⟨k.1,j f k.2 q.1 q.2.1⟩⟩⟩
theorem rL.more(d:rL as bs ok alo blo bhi i kn (· ∈done))(e:blo<=j)(f:j<bhi){v:Int}(g:v=(cu as bs ok alo blo (i+1) (j+1):Nat)):rL as bs ok alo blo bhi i (gN kn (j:Int) (.i v)) (· ∈done++[j]):=by
 refine⟨λn c h k=>?_,λz a=>?_,yH (P:=λv=>∃z,v=V.i z) d.int ⟨_,rfl⟩⟩
 ·refine KH (mA ..) ?_;by_cases en:n=j
  ·subst en;rw[if_pos rfl,g]
  ·refine(if_neg (λq:(n:Int)=j=>en (R9 q))).symm▸?_;exact d.yes n ((Oj.mp c).resolve_right λq=>en (O4.mp q)) h k
 ·rw[mA];refine KH (if_neg (λq=>a j (KD _ (.head _)) q.symm ⟨e,f⟩) ..) ?_;exact d.no z λn c=>a n (Lg _ c)
theorem yd(c:blo<=j)(d:j<bhi)(a:alo<=i)(e f:Nat):FR alo blo bhi i (· ∈done++[j]) e f↔FR alo blo bhi i (· ∈done) e f∨(e=i/\f=j):=by
 refine⟨λq=>q.2.2.2.elim (λz=>.inl ⟨q.1,q.2.1,q.2.2.1,.inl z⟩) λz=>(Oj.mp z.2).elim (λy=>.inl ⟨q.1,q.2.1,q.2.2.1,.inr ⟨z.1,y⟩⟩) λy=>.inr ⟨z.1,O4.mp y⟩,λq=>q.elim (λq=>⟨q.1,q.2.1,q.2.2.1,q.2.2.2.imp id λz=>⟨z.1,Lg _ z.2⟩⟩) λq=>?_⟩;obtain⟨rfl,rfl⟩:=q;exact⟨c,d,a,.inr ⟨rfl,KD _ (.head _)⟩⟩
theorem JI.more(h:JI as bs ok alo blo bhi i (· ∈done) kn c a bk)(o:blo<=j)(p:j<bhi)(d:alo<=i)(g:∀n∈done,n<j){v:Int}{R}(u:R=cu as bs ok alo blo (i+1) (j+1))(w:v=R) :
  (bk<R->JI as bs ok alo blo bhi i (· ∈done++[j]) (gN kn (j:Int) (.i v)) (i+1-R) (j+1-R) R)/\(¬bk<R->JI as bs ok alo blo bhi i (· ∈done++[j]) (gN kn (j:Int) (.i v)) c a bk):=by
 subst u;have r:=h.nj.more o p w;have k:=h.bo.more (i:=i) (j:=j) (yd o p d) λe f q=>q.2.2.2.imp id λq=>⟨q.1,g f q.2⟩
 exact⟨λq=>⟨r,(if_pos q).mp k⟩,λq=>⟨r,(if_neg q).mp k⟩⟩
theorem w8{x}(c:alo<=i)(e:blo<=j)(a:as[i]?=Jh x)(f:bs[j]?=Jh x)(d:ok x=true):cu as bs ok alo blo (i+1) (j+1)=cu as bs ok alo blo i j+1:=by
 rw[dJ,if_pos ⟨c,e,b8.mpr ⟨x,a,f,d⟩⟩]
theorem pZ{i}{R:Nat}{r:Int}(l:R<=i+1)(e:r=R):(i:Int)-r+1=((i+1-R:Nat):Int):=by
 subst e;exact bM 16 5 l
end
section
variable {A:Around}{c a:Str}{e d:Nat}{ok:Str->Bool}{alo ahi blo bhi i:Nat}{l:List Str}{m:Lc}{h:List (Str×V)}{g f:O}
noncomputable abbrev CY(c a:Str)(e d alo ahi blo bhi i:Nat)(f g bk:Int):Lc:=gD c a e d alo ahi blo bhi f g bk++[(BO,.r 6),(BN,.l []),(uh,.i i),((⟨⟨[106,50,108,101,110,103,101,116]⟩⟩:Str),.bm .dget 6),((⟨⟨[110,101,119,106,50,108,101,110]⟩⟩:Str),.r 7)]
noncomputable abbrev BZ:Stmt:=cD (cy (fu 7)) 2
end
mutual
noncomputable def V.up(u:Nat->Nat):V->V
 |.r h=>.r (u h)
 |.bm x h=>.bm x (u h)
 |.c k vs=>match k with
  |.lst=>.c .lst vs
  |.tup=>.c .tup (V.Cg u vs)
  |.cls C=>.c (.cls C) (V.Cg u vs)
 |.v w=>.v w
 |.i x=>.i x
 |.f x=>.f x
 |.s x t=>.s x t
 |.o ob=>.o ob
 |.g x=>.g x
 |.rg x y=>.rg x y
noncomputable def V.Cg(u:Nat->Nat):List V->List V
 |[]=>[]
 |x::vs=>V.up u x::V.Cg u vs
end /-m-/
theorem zt(u:Nat->Nat)(vs:List V):V.Cg u vs=vs.map (V.up u):=by
 induction vs with
 |nil=>rfl
 |cons v vs a=>exact congrArg (V.up u v:: ·) a
noncomputable def wj{K:Type}(u:Nat->Nat)(l:List (K×V)):List (K×V):=l.map λp=>(p.1,p.2.up u)
noncomputable def O.up(u:Nat->Nat):O->O
 |.list vs=>.list (V.Cg u vs)
 |.dict a=>.dict (wj u a)
 |.dicti a=>.dicti (wj u a)
 |.set l=>.set l
 |.inst C d=>.inst C (u d)
 |.ns l=>.ns (wj u l)
 |.fix x=>.fix x
 |_=>.gone
section
variable {A:Around}{σ:Sg}{D:Sg}{s:Js}{u:Nat->Nat}{k:Nat}{E:Nat}
noncomputable def FA(u:Nat->Nat)(σ:Sg)(k:Nat)(D:Sg)(E:Nat):Prop:=∀h,h<k->u h<E/\D.a (u h)=σ.a h
theorem zr(hz:∀b,σ.z b->D.z b){v w n}(q:RV σ 0 s v w):RV D n s v w :=
 RV.cq (X:=de) (n:=0) (σ:=σ) (σ':=D) (s:=s) ⟨hz,λZ U h L a B=>h,Jl _⟩ (λZ U=>⟨id,λZ q=>absurd q (Jy _)⟩) v 0 n (λZ q=>absurd q (Jy _)) w q
theorem lz(hz:∀b,σ.z b->D.z b)(g:FA u σ k D E)(v:V):∀w:Value,RV σ k s v w->RV D E s (v.up u) w :=
 V.rec (motive_1:=λv=>∀w:Value,RV σ k s v w->RV D E s (v.up u) w) (motive_2:=λvs=>∀ws:List Value,cf σ k s vs ws->cf D E s (V.Cg u vs) ws)
  (λZ U=>id) (λZ U=>id) (λZ U=>id) (λZ U L=>id)
  (λd vs A w q=>by
   obtain⟨a,items,j,e,h,c,i,p⟩:=q;cases d with
   |lst=>exact⟨a,items,j,e,hz a h,c,i,cf.nJ (λv Z w q=>zr hz q) _ p⟩
   |tup=>exact⟨a,items,j,e,hz a h,c,i,A _ p⟩
   |cls C=>exact⟨a,items,j,e,hz a h,c,i,A _ p⟩)
  (λh w q=>⟨(g h q.1).1,q.2.trans (congrArg J3 (g h q.1).2.symm)⟩)
  (λo w q=>q.casesOn λa e z c so=>⟨a,e,hz a z,c,so⟩)
  (λb h w q=>q.casesOn λa e z c r=>⟨a,e,hz a z,(g h r).2.symm▸c,(g h r).1⟩)
  (λZ U=>id) (λx y w q=>q.casesOn λa t u v e z c=>⟨a,t,u,v,e,hz a z,c⟩)
  (λZ=>id)
  (λv vs B F ws q=>q.casesOn λw f e a b=>⟨w,f,e,B w a,F f b⟩) v
theorem nh(hz:∀b,σ.z b->D.z b)(d:FA u σ k D E){vs}:∀ {ws:List Value},cf σ k s vs ws->cf D E s (V.Cg u vs) ws:=by
 induction vs with
 |nil=>exact id
 |cons v vs f=>exact λq=>q.casesOn λw c e a b=>⟨w,c,e,lz hz d v w a,f b⟩
theorem wF(hz:∀b,σ.z b->D.z b)(a:FA u σ k D E){K:Type}{l:List (K×V)}{ws:List (K×Value)}(q:RK σ k s l ws):RK D E s (wj u l) ws:=by
 refine⟨q.1.trans (by refine KH ?_ (J6).symm;rfl),?_⟩;have:=nh hz a q.2;rw[zt,J6] at this;unfold wj;rw[J6];exact this
theorem pW{l:List (Str×V)}{x:Str}:(wj u l).lookup x=(l.lookup x).map (V.up u):=by
 induction l with
 |nil=>rfl
 |cons p l a =>
  show((p.1,p.2.up u)::wj u l).lookup x=_;rw[JS,JS];refine(a).symm▸?_;cases x == p.1 <;> rfl
theorem h9(hz:∀b,σ.z b->D.z b)(p:FA u σ k D E){o a}(q:RO σ k s a o):RO D E s a (o.up u)/\∀g c L,o.up u≠.gen g c L:=by
 cases o with
 |list vs=>exact⟨q.casesOn λitems j i H J=>⟨items,j,i,H,nh hz p J⟩,λZ U h q=>O.noConfusion q⟩
 |dict y=>exact⟨q.casesOn λo ws i hd r=>⟨o,ws,i,hd,wF hz p r⟩,λZ U h q=>O.noConfusion q⟩
 |dicti y=>exact⟨q.casesOn λo ws i hd r=>⟨o,ws,i,hd,wF hz p r⟩,λZ U h q=>O.noConfusion q⟩
 |set l=>exact⟨q,λZ U h q=>O.noConfusion q⟩
 |inst C d=>exact⟨q.casesOn λo i hc hd A G=>⟨o,i,hc,hd.trans (congrArg Jh (p d A).2.symm),(p d A).1,G⟩,λZ U h q=>O.noConfusion q⟩
 |ns l =>
  obtain⟨f,M,P,Q⟩:=q;refine⟨⟨f,M,λx v e=>?_,λx e=>Q x ?_⟩,λZ U h q=>O.noConfusion q⟩
  ·replace e:=pW▸e;obtain⟨B,F,rfl⟩:=LZ.mp e;obtain⟨w,R,S⟩:=P x B F;exact⟨w,R,lz hz p B w S⟩
  ·have e:=(pW ..)▸e;exact Option.map_eq_none_iff.mp e
 |fix o=>exact⟨q,λZ U h q=>O.noConfusion q⟩
 |frm=>exact⟨q.there,λZ U h q=>O.noConfusion q⟩
 |gen=>exact⟨q.there,λZ U h q=>O.noConfusion q⟩
 |cell=>exact⟨q.there,λZ U h q=>O.noConfusion q⟩
 |dictx=>exact⟨q.there,λZ U h q=>O.noConfusion q⟩
 |gone=>exact⟨q,λZ U h q=>O.noConfusion q⟩
noncomputable def ja(a:List Nat)(n N h:Nat):Nat:=match decide (h<n) with
 |true=>a.getD h 0
 |false=>N+(h-n)
noncomputable def om(u:Nat->Nat)(a:List Nat)(os:St):Nat->St->St
 |Z,[]=>[]
 |k,o::st=>(match kR k a with
  |some i=>(match os[i]? with
   |some o'=>O.up u o'
   |none=>.gone)
  |none=>o)::om u a os (k+1) st
mutual
theorem ij{u js os st}:∀ {k:Nat},(om u js os k st).length=st.length:=by
 induction st with
 |nil=>intro k;rfl
 |cons o st a=>intro k;exact congrArg (· + 1) a
theorem rG{u js os st}:∀ {k h:Nat} {o:O},(om u js os k st)[h]?=Jh o->∃o',st[h]?=Jh o'/\((kR (k+h) js=none/\o=o')∨∃i,kR (k+h) js=Jh i/\∀y,os[i]?=Jh y->o=y.up u):=by
 induction st with
 |nil=>intro k h o e;exact by cases e
 |cons o' st c =>
  intro k h o e;cases h with
  |zero =>
   refine⟨o',rfl,?_⟩;have e:=JP e;refine(L9 ..).symm▸?_;cases q:kR k js with
   |none=>rw[q] at e;exact .inl ⟨rfl,e.symm⟩
   |some i =>
    have e:=q▸e;exact .inr ⟨i,rfl,λy a=>by dsimp only at e;rw[a] at e;exact e.symm⟩
  |succ h =>
   refine(show k+(h+1)=k+1+h by rw[Le,Oi 1 h]).symm▸?_;exact c e
end
noncomputable def eH(a:List Nat)(st os:St):St:=om (ja a a.length st.length) a os 0 st++(os.drop a.length).map (O.up (ja a a.length st.length))
inductive F3(js:List Nat)(st:St)(Q:V->St->Prop)(v:V)(os:St):Prop
 |mk (v':V) (st':St) (hv:v.up (ja js js.length st.length)=v') (hs:eH js st os=st') (q:Q v' st')
theorem vI{h ks}(e:kR h ks=none):h∉ks:=by
 induction ks with
 |nil=>exact JK
 |cons k ks a =>
  rw[yg] at e;cases q:k == h with
  |true=>have e:=q▸e;cases e
  |false=>have e:=q▸e;exact λz=>(Ub.mp z).elim (λz=>by have q:=(z ..)▸q;rw[beq_self_eq_true] at q;cases q) (a (Option.map_eq_none_iff.mp e))
variable {Q:V->St->Prop}
theorem gH{f f2 vs vs2 st st₂}(m:Vm)(hm:m.ml=[])(v:nc m 0 st st₂)(hf:V.vw m f=Jh f2)(ah:V.rP m vs=Jh vs2)(h:bI A f2 vs2 st₂ (F3 m.js st Q)):bI A f vs st Q:=by
 intro σ s w ws hw ai i r;have x:=v.step (X:=de) i r;have hl:=v.os.at_.1;have M:=v.ml.ok r;have J:=dW M f f2 hf w hw;have E:=ng M ah ai;rw[hl] at J E;have Y:∀b,(σ.vw m).z b->σ.z b:=λb q=>q.elim id λaf=>by obtain⟨k,us,e,_⟩:=af;have e:=hm▸e;cases e
 have at_:=v.os.at_.2;have aa:∀k,k<st₂.length->∃j,m.js[k]?=Jh j/\j<st.length/\(σ.vw m).a k=σ.a j:=λk q=>by
  refine Jg λS=>?_;obtain⟨j,o',C,p,_⟩:=at_ k _ (Jo q);refine S ?_;exact⟨j,C,(List.getElem?_eq_some_iff.mp p).1,(fE C).1⟩
 refine bH (h (σ.vw m) s w ws J E x.inv x.rel) λw' s' D os u y hu aj=>?_;obtain⟨v',ak,ev,es,q⟩:=aj;subst ev es;have hN:(eH m.js st os).length=st.length+(os.length-st₂.length):=by
  unfold eH;rw[Ji,ij,Jt,K8,hl]
 have ac:=y.x.len;have U:∀g c L (h:Nat),st₂[h]?≠Jh (O.gen g c L):=λg c L k e=>by
  obtain⟨j,o',C,p,H⟩:=at_ k _ e;exact(si M H (r.at_ j o' p)).2 g c L rfl
 let F:Sg:=⟨λh=>match decide (h<st.length) with | true=>σ.a h | false=>D.a (st₂.length+(h-st.length)),D.z⟩
 have G:∀h,h<st.length->F.a h=σ.a h:=λh q=>by show(match decide _ with | true=>_ | false=>_)=_;exact(decide_eq_true q).symm▸rfl
 have P:∀h,¬h<st.length->F.a h=D.a (st₂.length+(h-st.length)):=λh q=>by show(match decide _ with | true=>_ | false=>_)=_;exact(decide_eq_false q).symm▸rfl
 have hU:FA (ja m.js m.js.length st.length) D os.length F (eH m.js st os).length:=λk q=>by
  refine(hN).symm▸?_;unfold ja;refine(hl).symm▸?_;by_cases B:k<st₂.length
  ·rw[decide_eq_true B];refine Jg λS=>?_;obtain⟨j,C,p,H⟩:=aa k B;refine S ?_;dsimp only;refine(QE).symm▸?_;refine(C).symm▸?_;exact⟨Jp p (JG _ _),(G j p).trans (H.symm.trans (y.x.ext k B).symm)⟩
  ·rw[decide_eq_false B];dsimp only;refine⟨by exact bZ 18 4 q B,?_⟩;refine(P _ (by exact bM 18 5)).trans ?_;exact(show st₂.length+(st.length+(k-st₂.length)-st.length)=k by exact bJ 18 6 B).symm▸rfl
 have S:∀b,D.z b->F.z b:=λZ=>id;have ab:∀h,h<st.length->kR h m.js=none->∀k,k<st₂.length->(σ.vw m).a k≠σ.a h:=λh q e k B e'=>by
  obtain⟨j,C,p,H⟩:=aa k B;have:=r.inj j h p q (H.symm.trans e');subst this;exact vI e (Jr C)
 have rY:∀b,(∀h,h<st.length->σ.a h≠b)->∀k,k<st₂.length->(σ.vw m).a k≠b:=λb q k B e'=>by
  obtain⟨j,C,p,H⟩:=aa k B;exact q j p (H.symm.trans e')
 have kp:Kp de σ st.length s F s':=⟨λb q=>y.x.z b (.inl q),λb o hb hs hn hx=>y.x.keep b o hb hs (rY b hn) hx,y.x.tgrow⟩
 have T:∀(h:Nat) (o:O),(eH m.js st os)[h]?=Jh o->(h<st.length/\(om (ja m.js m.js.length st.length) m.js os 0 st)[h]?=Jh o)∨(¬h<st.length/\∃o',os[st₂.length+(h-st.length)]?=Jh o'/\o=o'.up (ja m.js m.js.length st.length)):=λh o e=>by
  unfold eH at e;by_cases d:h<st.length
  ·rw[JU (by rw[ij];exact d)] at e;exact .inl ⟨d,e⟩
  ·rw[JW (by rw[ij];exact Nat.not_lt.mp d),ij,JY,R6] at e;obtain⟨o',C,rfl⟩:=LZ.mp e;exact .inr ⟨d,o',hl▸C,rfl⟩
 refine⟨F,eH m.js st os,⟨⟨by rw[hN];exact JG _ _,G,λh q R=>?_,kp.z,λb q=>(y.x.znew b q).imp (Y b) id,kp.keep,y.x.grow,y.x.tgrow⟩,y.inv,⟨λh o e=>?_,λh q=>?_,λh k q R e=>?_,y.rel.zlt,λb q h R=>?_⟩,
  λg z e hn=>y.gkeep g z e λh c L=>U g c L h,λh g c L e=>?_,y.ggrow⟩,_,lz S hU u w' hu,q⟩
 ·rw[hN] at R;refine(P h (Nat.not_lt.mpr q)).symm▸?_;exact y.x.new _ (by exact bM 1 18) (by exact bZ 18 7 R q)
 ·rcases T h o e with ⟨d,e⟩ | ⟨d,o',C,rfl⟩
  ·obtain⟨o',C,⟨p,rfl⟩ | ⟨j,p,H⟩⟩:=rG e
   ·rw[Kf] at p;rw[G h d];exact(r.at_ h o C).cq kp r.apart (λk q=>⟨by rw[hN];exact Jp q (JG _ _),G k q⟩) (λz hz hs=>y.x.keep _ z hz hs (ab h d p) id) λg c L eg hg=>y.gkeep g _ hg λk c' L'=>U g c' L' k
   ·rw[Kf] at p;have ej:=pn p;have hj:j<st₂.length:=hl▸(List.getElem?_eq_some_iff.mp ej).1;have ag:=Jp hj ac;have eo:=Jo ag;rw[H _ eo,G h d,<-(fE (σ:=σ) ej).1,<-y.x.ext j hj];exact(h9 S hU (y.rel.at_ j _ eo)).1
  ·rw[P h d];exact(h9 S hU (y.rel.at_ _ _ C)).1
 ·by_cases d:h<st.length
  ·rw[G h d];exact r.above h d
  ·rw[P h d];rw[hN] at q;exact y.rel.above _ (by exact bZ 18 8 q d)
 ·rw[hN] at q R;have ae:∀h k,h<st.length->¬k<st.length->k<st.length+(os.length-st₂.length)->σ.a h≠D.a (st₂.length+(k-st.length)):=λh k q1 q2 q3 e =>
   Jw _ (Jp (r.lt q1) (e▸y.x.new _ (JG _ _) (by exact bZ 18 8 q3 q2)))
  by_cases d:h<st.length
  ·by_cases B:k<st.length
   ·rw[G h d,G k B] at e;exact r.inj h k d B e
   ·rw[G h d,P k B] at e;exact absurd e (ae h k d B R)
  ·by_cases B:k<st.length
   ·rw[P h d,G k B] at e;exact absurd e.symm (ae k h B d q)
   ·rw[P h d,P k B] at e;have:=y.rel.inj _ _ (by exact bZ 18 8 q d) (by exact bZ 18 8 R B) e;exact bZ 18 9 this d B
 ·rw[hN] at R;by_cases d:h<st.length
  ·rw[G h d];rcases y.x.znew b q with z | z
   ·exact r.zoff b (Y b z) h d
   ·exact λe=>Jw _ (Jp (r.lt d) (e▸z))
  ·rw[P h d];exact y.rel.zoff b q _ (by exact bZ 18 8 R d)
 ·rcases T h _ e with ⟨d,e⟩ | ⟨d,o',C,p⟩
  ·obtain⟨o',C,⟨p,rfl⟩ | ⟨j,p,H⟩⟩:=rG e
   ·exact .inl ⟨h,c,L,C⟩
   ·have ej:=pn p;have hj:j<st₂.length:=hl▸(List.getElem?_eq_some_iff.mp ej).1;have eo:=Jo (Jp hj ac);exact absurd (H _ eo).symm ((h9 S hU (y.rel.at_ j _ eo)).2 g c L)
  ·exact absurd p.symm ((h9 S hU (y.rel.at_ _ _ C)).2 g c L)
noncomputable def DR(A:Around)(F:cU)(c:Stmt)(Q:Fl->Lc->St->Prop)(f:Fl)(lc:Lc)(st:St):Prop:=match f with
 |.next=>dN A F c lc st Q
 |_=>False
theorem sQ{A F lc st Q c}(h:DG F (DR A F c Q) .next lc st):dN A F c lc st Q:=λσ s p=>by
 obtain⟨e,lc₂,st₂,y,d,g,j,a⟩:=h.pf p.i p.r p.f (w:=.next) rfl;cases g with
 |next=>exact h8 y (a e s ⟨y.inv,y.rel,d⟩)
 |_=>exact a.elim
end
theorem oQ(bs:List Str)(k:Str)(n:Nat):(dj bs k n).Pairwise (· < ·):=by
 exact UM _ List.pairwise_lt_range
structure jD(bs:List Str)(J:Str->Bool)(kvs:List (Str×V)):Prop where
 yes:∀x,x∈bs->J x=false->b6 kvs x=Jh (.l (c6 (dj bs x bs.length)))
 no:∀x,¬(x∈bs/\J x=false)->b6 kvs x=none
 vals:∀p∈kvs,∃vs,p.2=.l vs
theorem jD.get{bs J kvs}(b:jD bs J kvs)(x:Str):∃idxs:List Nat,(b6 kvs x).getD (.l [])=.l (c6 idxs)/\idxs.length<=bs.length/\idxs.Pairwise (· < ·)/\(∀j∈idxs,bs[j]?=Jh x/\J x=false)/\∀j,bs[j]?=Jh x->J x=false->j∈idxs:=by
 by_cases h:x∈bs/\J x=false
 ·refine⟨_,?_,nA _ _ _,oQ _ _ _,λj a=>⟨(jL.mp a).2,h.2⟩,λj a Z=>jL.mpr ⟨(List.getElem?_eq_some_iff.mp a).1,a⟩⟩;rw[b.yes x h.1 h.2];rfl
 ·refine⟨[],?_,JN _,.nil,λj a=>absurd a JK,λj a c=>absurd ⟨Jr a,c⟩ h⟩;rw[b.no x h];rfl
theorem jD.vw{bs J kvs}(b:jD bs J kvs)(m:Vm):O.vw m (.dict kvs)=Jh (.dict kvs) :=
 congrArg (KC O.dict) (rS λp a=>by obtain⟨vs,e⟩:=b.vals p a;refine(e).symm▸?_;rfl)
noncomputable abbrev zQ(c:Value)(a:V)(f g:Str)(d e:Nat):Lc:=pP (.v c) (.s f d) (.s g e) (.b true) .n a .n (.r 2) (.r 3) (.r 4)
structure tF(co:V)(o5:O):Prop where
 v:∀m:Vm,m.ml.lookup 5=none->m.at 5=Jh 5->V.vw m co=Jh co
 o:∀m:Vm,O.vw m o5=Jh o5
 up:∀u:Nat->Nat,u 5=5->co.up u=co
 oup:∀u:Nat->Nat,o5.up u=o5
theorem lY{co m fj xa xb ta tb}(h:V.vw m co=Jh co)(d:V.vw m (.r 2)=Jh (.r 2))(e:V.vw m (.r 3)=Jh (.r 3))(f:V.vw m (.r 4)=Jh (.r 4)):O.vw m (.ns (zQ fj co xa xb ta tb))=Jh (.ns (zQ fj co xa xb ta tb)):=by
 have c {l:Lc} (h:l.foldr (λa q=>V.vw m a.2=Jh a.2/\q) True):O.vw m (.ns l)=Jh (.ns l):=congrArg (KC O.ns) (rS λp g=>ik (P:=λp:Str×V=>V.vw m p.2=Jh p.2) h g);exact c ⟨rfl,rfl,rfl,rfl,rfl,h,rfl,d,e,f,trivial⟩
section
variable {as bs:List Str}{ok:Str->Bool}{alo blo bhi i c a bk:Nat}{kn:List (Int×V)}{idxs:List Nat}
theorem rL.next(o:rL as bs ok alo blo bhi i kn (· ∈idxs))(c:∀j,j∉idxs->pairAt as bs ok i j=false)(j:Nat)(a:blo<=j)(f:j<bhi):(b6 kn ((j:Int)-1)).getD (.i 0)=.i (cu as bs ok alo blo (i+1) j:Nat):=by
 by_cases e:j=blo
 ·subst e;rw[vd (Jl _),o.no ((j:Int)-1) (λm Z d q=>by exact bM 16 9 d q.1)]
  rfl
 ·obtain⟨j,rfl⟩:∃k,j=k+1:=⟨j-1,by exact bM 16 10 a e⟩
  refine(show((j+1:Nat):Int)-1=(j:Int) by exact dy 16 11).symm▸?_;by_cases g:j∈idxs
  ·rw[o.yes j g (by exact bM 16 12 a e) (SO f)];rfl
  ·rw[o.no (j:Int) (λm h d q=>g (R9 d▸h)),dJ,if_neg (λq=>Jq ((c j g).symm.trans q.2.2))]
   rfl
end
section
variable {A:Around}{c a:Str}{e d:Nat}{J:Str->Bool}{alo ahi blo bhi:Nat}{l g:List Str}{m:Lc}{h:List (Str×V)}{i:Value}{j:V}{f:O}
noncomputable abbrev zM(c a:Str)(e d alo ahi blo bhi:Nat)(f g bk:Int):Lc:=gD c a e d alo ahi blo bhi f g bk++[(BO,.r 6),(BN,.l [])]
end
theorem cf.cat{σ n s vs us ws zs}(h:cf σ n s vs ws)(h':cf σ n s us zs):cf σ n s (vs++us) (ws++zs):=by
 induction vs generalizing ws with
 |nil=>cases h;exact h'
 |cons v vs f=>obtain⟨w,a,e,c,d⟩:=h;subst e;exact⟨w,a++zs,rfl,c,f d⟩
section
variable {A:Around}{st:St}{Q:V->St->Prop}
noncomputable def Cb(a:Arguments)(dflt:Value)(names:List Str)(n:Nat)(c:List Value):Prop:=∀(s:Js) (fd:Mk) (ws:List Value),Inv s->fd.params=a->fd.defaults=dflt->fd.kwdefaults=.none->ws.length=n->Qw s fd ⟨ws,[]⟩ (names.zip (ws++c))
variable {z D:Str}{M H:Nat}{J:Str->Bool}{alo ahi blo bhi:Nat}{l Z:List Str}{G:List (Str×V)}{fj:Value}{Y:V}{U:O}
mutual
theorem pg:∀h,h<6->([0,1,2,3,4,5]:List Nat)[h]?=Jh h:=by decide
theorem rY{a b}(c:a<=sizeLine)(d:b<=sizeLine):oF a b=true:=by
 have p:∀n:Nat,n<=sizeLine->decide (-(2 ^ 62)<=(n:Int))=true/\decide ((n:Int)<2 ^ 62)=true:=λn h=>⟨decide_eq_true (Oo (by decide) (KU n)),decide_eq_true (Fh h)⟩
 unfold oF;rw[(p a c).1,(p a c).2,(p b d).1,(p b d).2];rfl
end
theorem yS(g:Gd)(ak:tF Y U)(hA:A.handled=none)(ah:A.depth+2<recursionLimit)(w:rQ z D J l ahi bhi)(b2:jD (chars D) J G)(bg:(chars z).length<=sizeLine)(aU:(chars D).length<sizeLine)(h1:alo<=ahi)(h2:blo<=bhi)(h:∀ae,kJ (chars z) (chars D) J alo ahi blo bhi ae->Q (mV 135 ((ae.1:Int),(ae.2.1:Int),(ae.2.2:Int))) [.ns (zQ fj Y z D M H),.inst 242 0,.dict G,.set l,.set Z,U]) :
  bI A (.v (.ref 196)) [.r 1,.i alo,.i ahi,.i blo,.i bhi] [.ns (zQ fj Y z D M H),.inst 242 0,.dict G,.set l,.set Z,U] Q:=by
 have ar {A tgt a b} (T:bK) (hA:A.handled=none) (h:oF a b=true):rO A tgt (.rg a b) (λac=>True) (upTo a b) :=
  have am:mU A tgt (.rg a b) (λac=>True) (upTo a b):=by
   rintro σ st s w ⟨p,t,u,v,e,hz,ho⟩ _ i r;subst e;simp only[oF,KV,decide_eq_true_eq] at h;refine wpAny_pyIter_range ho (small_one h.1.1.1 h.1.1.2 h.1.2 h.2) ?_;have hl:(upTo a b).length=(b-a).toNat:=by unfold upTo;rw[Jt,KQ]
   have wk:=Walks.range (prog:=W.prog) (w:=W.w) hA s.heap.objs.size a 1 (b-a).toNat;have wk:=(hl).symm▸wk;refine⟨_,_,λk s P E h hP=>wk.self k s P E h hP,iG (cl:="range_iterator") T wk i.size (λk v σ n s hk x ⟨t,e⟩=>?_) (λk h st=>⟨_,st,rfl⟩) (by decide) λk h h' st hk=>hk _ st,?_,λb e=>JX e.symm,dp i r⟩
   ·unfold upTo at hk;rw[JY,LZ] at hk;obtain⟨j,hj,rfl⟩:=hk;rw[List.getElem?_eq_some_iff] at hj;obtain⟨h1,h2⟩:=hj;rw[List.getElem_range] at h2;subst h2;exact⟨t,by rw[e,RW]⟩
   ·rw[oO,hl];show IsRangeIter _ _ (a+((0:Nat):Int)*1) (((b-a).toNat:Int)-((0:Nat):Int)) 1;rw[show a+((0:Nat):Int)*1=a by simp,show(((b-a).toNat:Nat):Int)-((0:Nat):Int)=((b-a).toNat:Int) by simp];exact Ju _ rfl
  (am).iter
 have aJ:FnAt 196 (Jj "SequenceMatcher.find_longest_match") (bV (bR 5 6)) (a5 (bR 5 6)) (a6 (bR 5 6)) (.ref 195) (.ref 189) :=
  g.fn (oc:=Bs) (c0 20 rfl) (by kernel_rfl) (c0 19 rfl) rfl ⟨_,_,rfl,rfl⟩ (by kernel_rfl) (by kernel_rfl)
 have au {as bs ok alo ahi blo bhi bi bj bk} (b:cV as bs ok alo blo (λe f=>alo<=e/\e<ahi/\blo<=f/\f<bhi) bi bj bk):il as bs ok alo ahi blo bhi bi bj bk:=by
  refine⟨b.zero,?_,?_,λi' j' k' h0 hr h1 h2=>?_⟩
  ·by_cases hk:0<bk
   ·obtain⟨e,f,h1,h2,h3,h4,h5⟩:=b.at_ hk;obtain⟨l1,l2,l3⟩:=hV (as:=as) (bs:=bs) (ok:=ok) (alo:=alo) (blo:=blo) (e+1) (f+1);have:=l3 (by exact bJ 0 18 hk h2);rw[h2] at this;have e1:e+1-bk=bi:=by exact bJ 0 19 h3
    have e2:f+1-bk=bj:=by exact bJ 0 19 h4
    rw[e1,e2] at this;exact this
   ·have h0:bk=0:=by exact dy 0 3 hk
    obtain⟨q1,q2⟩:=b.zero h0;exact⟨by exact bM 0 14 q1,by exact bM 0 14 q2,λt ht=>by exact(bM 0 20 ht hk).elim⟩
  ·by_cases hk:0<bk
   ·obtain⟨e,f,h1,h2,h3,h4,h5⟩:=b.at_ hk;have:=Th alo ahi;have:=Th blo bhi;exact zg 0 21 h1.2.1 h1.2.2.2 h3 h4
   ·have h0:bk=0:=by exact dy 0 3 hk
    obtain⟨q1,q2⟩:=b.zero h0;have:=TH alo ahi;have:=TH blo bhi;exact pO 0 22 q1 q2 hk
  ·have hl:=w9 k' i' j' hr;have e1:i'+k'=(i'+k'-1)+1:=by exact bJ 0 23 h0
   have e2:j'+k'=(j'+k'-1)+1:=by exact bJ 0 23 h0
   rw[e1] at hl;have hl:=(e2 ..)▸hl;have hS:alo<=i'+k'-1/\i'+k'-1<ahi/\blo<=j'+k'-1/\j'+k'-1<bhi:=by have:=hr.1;have:=hr.2.1;exact zg 1 0 h1 h2 h0 (by assumption) this
   have hm:=b.max _ _ hS;by_cases bd:k'<bk
   ·exact .inl bd
   ·right
    have hk:k'=bk:=by exact bJ 1 1 hl hm bd
    refine⟨hk,?_⟩;refine Jg λzz=>?_;obtain⟨e,f,q1,q2,q3,q4,q5⟩:=b.at_ (by exact bJ 1 2 h0 hk);refine zz ?_;have:=q5 _ _ hS (by exact bJ 1 3 hk hl hm);exact Gj 1 4 e1 e2 hk q3 q4 this
 have aW {A z D M H J alo ahi blo bhi l} {m:Lc} {G o4 U} (g:Gd) {Q L pos n i j k ae} (hA:A.handled=none) (w:rQ z D J l ahi bhi) (hi:i+k<=(chars z).length) (hj:j+k<=(chars D).length) (hz:dg (chars z) (chars D) (λs=> !J s) alo blo i j k=ae) (hQ:ae.1+ae.2.2<=(chars z).length->ae.2.1+ae.2.2<=(chars D).length->Q .next (gD z D M H alo ahi blo bhi ae.1 ae.2.1 ae.2.2) [.ns m,.inst 242 0,.dict G,.set l,o4,U]) :
   dN A (ir L n) (.While (gj (fu 8)) (ly (fu 8)) [] pos) (gD z D M H alo ahi blo bhi i j k) [.ns m,.inst 242 0,.dict G,.set l,o4,U] Q:=by
  refine fx (B9 (chars z) (chars D) (λs=> !J s) alo blo ae (gD z D M H alo ahi blo bhi) [.ns m,.inst 242 0,.dict G,.set l,o4,U]) (λn lc st I=>?_) i ⟨i,j,k,rfl,hz,hi,hj,rfl,rfl⟩;obtain⟨i,j,k,rfl,ez,hi,hj,rfl,rfl⟩:=I;rw[qU] at ez;refine test8 g hA w (Jn (JG _ _) hi) (Jn (JG _ _) hj) (Br.mk (λhc=>?_) λhc=>?_)
  ·have hc:=of_decide_eq_true hc;rw[if_pos hc] at ez;refine(g.snd hA (by rfl)).Ss ⟨n-1,Oe (Kn (JN _) hc.1) NJ,n-1,j-1,k+1,rfl,ez,by exact bZ 2 12 hi hc.1,by exact bZ 2 12 hj hc.2.1,?_,rfl⟩;refine((show((n-1:Nat):Int)=(n:Int)-1 from by exact bM 12 11 hc.1)).symm▸?_;refine((show((j-1:Nat):Int)=(j:Int)-1 from by exact bM 12 11 hc.2.1)).symm▸?_
   rfl
  ·have hc:=of_decide_eq_false hc;rw[if_neg hc] at ez;subst ez;exact hQ hi hj
 have aX {A z D M H J alo ahi blo bhi l} {m:Lc} {G o4 U} (g:Gd) {Q L pos n i j k ae} (hA:A.handled=none) (w:rQ z D J l ahi bhi) (hi:i+k<=(chars z).length) (hj:j+k<=(chars D).length) (hz:d3 (chars z) (chars D) (λs=> !J s) ahi bhi i j (ahi-(i+k)) k=ae) (hQ:i+ae<=(chars z).length->j+ae<=(chars D).length->Q .next (gD z D M H alo ahi blo bhi i j ae) [.ns m,.inst 242 0,.dict G,.set l,o4,U]) :
   dN A (ir L n) (.While (gj (fu 9)) (ly (fu 9)) [] pos) (gD z D M H alo ahi blo bhi i j k) [.ns m,.inst 242 0,.dict G,.set l,o4,U] Q:=by
  refine fx (B8 (chars z) (chars D) (λs=> !J s) ahi bhi i j ae (gD z D M H alo ahi blo bhi i j) [.ns m,.inst 242 0,.dict G,.set l,o4,U]) (λn lc st I=>?_) ((chars z).length-k) ⟨k,rfl,hz,hi,hj,rfl,rfl⟩;obtain⟨k,rfl,ez,hi,hj,rfl,rfl⟩:=I;rw[qT] at ez;refine test9 g hA w (Br.mk (λhc=>?_) λhc=>?_)
  ·have hc:=of_decide_eq_true hc;have ez:=(if_pos hc)▸ez;have l1:=Jp hc.1 w.ra;have l2:=Jp hc.2.1 w.rb;exact(g.snd hA (by rfl)).Ss ⟨(chars z).length-(k+1),by exact bJ 14 17 l1,k+1,rfl,ez,l1,l2,rfl,rfl⟩
  ·have hc:=of_decide_eq_false hc;rw[if_neg hc] at ez;subst ez;exact hQ hi hj
 have aM {A z D M H J alo ahi blo bhi l} {m:Lc} {G o4 U} (g:Gd) {Q L pos n i j k ae} (hA:A.handled=none) (w:rQ z D J l ahi bhi) (hi:i+k<=(chars z).length) (hj:j+k<=(chars D).length) (hz:dg (chars z) (chars D) J alo blo i j k=ae) (hQ:ae.1+ae.2.2<=(chars z).length->ae.2.1+ae.2.2<=(chars D).length->Q .next (gD z D M H alo ahi blo bhi ae.1 ae.2.1 ae.2.2) [.ns m,.inst 242 0,.dict G,.set l,o4,U]) :
   dN A (ir L n) (.While (gj (fu 10)) (ly (fu 10)) [] pos) (gD z D M H alo ahi blo bhi i j k) [.ns m,.inst 242 0,.dict G,.set l,o4,U] Q:=by
  refine fx (B9 (chars z) (chars D) J alo blo ae (gD z D M H alo ahi blo bhi) [.ns m,.inst 242 0,.dict G,.set l,o4,U]) (λn lc st I=>?_) i ⟨i,j,k,rfl,hz,hi,hj,rfl,rfl⟩;obtain⟨i,j,k,rfl,ez,hi,hj,rfl,rfl⟩:=I;rw[qU] at ez;refine test10 g hA w (Jn (JG _ _) hi) (Jn (JG _ _) hj) (Br.mk (λhc=>?_) λhc=>?_)
  ·have hc:=of_decide_eq_true hc;have ez:=(if_pos hc ..)▸ez;refine(g.snd hA (by rfl)).Ss ⟨n-1,Oe (Kn (JN _) hc.1) NJ,n-1,j-1,k+1,rfl,ez,by exact bZ 2 12 hi hc.1,by exact bZ 2 12 hj hc.2.1,?_,rfl⟩;refine((show((n-1:Nat):Int)=(n:Int)-1 from by exact bM 12 11 hc.1)).symm▸?_;refine((show((j-1:Nat):Int)=(j:Int)-1 from by exact bM 12 11 hc.2.1)).symm▸?_
   rfl
  ·have hc:=of_decide_eq_false hc;rw[if_neg hc] at ez;subst ez;exact hQ hi hj
 have aN {A z D M H J alo ahi blo bhi l} {m:Lc} {G o4 U} (g:Gd) {Q L pos n i j k ae} (hA:A.handled=none) (w:rQ z D J l ahi bhi) (hi:i+k<=(chars z).length) (hj:j+k<=(chars D).length) (hz:d3 (chars z) (chars D) J ahi bhi i j (ahi-(i+k)) k=ae) (hQ:i+ae<=(chars z).length->j+ae<=(chars D).length->Q .next (gD z D M H alo ahi blo bhi i j ae) [.ns m,.inst 242 0,.dict G,.set l,o4,U]) :
   dN A (ir L n) (.While (gj (fu 11)) (ly (fu 11)) [] pos) (gD z D M H alo ahi blo bhi i j k) [.ns m,.inst 242 0,.dict G,.set l,o4,U] Q:=by
  refine fx (B8 (chars z) (chars D) J ahi bhi i j ae (gD z D M H alo ahi blo bhi i j) [.ns m,.inst 242 0,.dict G,.set l,o4,U]) (λn lc st I=>?_) ((chars z).length-k) ⟨k,rfl,hz,hi,hj,rfl,rfl⟩;obtain⟨k,rfl,ez,hi,hj,rfl,rfl⟩:=I;rw[qT] at ez;refine Ck g hA w (Br.mk (λhc=>?_) λhc=>?_)
  ·have hc:=of_decide_eq_true hc;have ez:=(if_pos hc)▸ez;have l1:=Jp hc.1 w.ra;have l2:=Jp hc.2.1 w.rb;exact(g.snd hA (by rfl)).Ss ⟨(chars z).length-(k+1),by exact bJ 14 17 l1,k+1,rfl,ez,l1,l2,rfl,rfl⟩
  ·have hc:=of_decide_eq_false hc;rw[if_neg hc] at ez;subst ez;exact hQ hi hj
 have az (a b:Nat):upTo (a:Int) (b:Int)=c6 (OC a (b-a)):=by
  delta upTo c6;have bm {n0 n1}:((M8 (((n0:Nat):Int)-((n1:Nat):Int)))=(n0-n1)):=bJ 16 6 (toN _);rw[List.range'_eq_map_range,J6,show((b:Int)-a).toNat=b-a by exact bm]
  rfl
 have ay {st a q params body scope cd dflt names vs ds dws n} (T:bK) (f:FnAt a q params body scope cd dflt) (ak:scope.isCoroutine=false) (ba:scope.isGenerator=false) (ah:A.depth<recursionLimit) (hb:Cb params dflt names n dws) (hn:vs.length=n) (hd:∀σ k s,cf σ k s ds dws) (hl:(names.all λx=>jt (scope.names.lookup x))=true) (h:∀L,bW (A.deeper (K5 q scope L a cd)) ⟨K5 q scope L a cd,[],st.length⟩ body (names.zip (vs++ds)).reverse st λfl ac aO=>Q (sd fl) aO):iN A a vs st Q :=
  pA T f ak ba ah (λσ k s ws fd i aK e1 e2 e3=>⟨names.zip (ws++dws),hb s fd ws i e1 e2 e3 (aK.len.trans hn),RB.zip (aK.cat (hd σ k s)),λx hx=>eC (PR.mp hl _ (ME hx).1)⟩) h
 have aD:Cb (bV (bR 5 6)) (.ref 189) [d0,(⟨⟨[97,108,111]⟩⟩:Str),(⟨⟨[97,104,105]⟩⟩:Str),(⟨⟨[98,108,111]⟩⟩:Str),(⟨⟨[98,104,105]⟩⟩:Str)] 5 []:=by
  rintro s ⟨⟩ ws i e1 e2 e3 h;dsimp only at e1 e2 e3;subst e1 e2 e3;refine Jg λzz=>?_;obtain⟨a,b,c,d,e,rfl⟩:=ER h;refine zz ?_;exact .of_defaults rfl (i.old.get_of_cls (g.fields (o:=Bu) (c0 18 rfl) (λf q=>Km q)) (λq=>JT q)) rfl (by rfl) (by rfl)
 refine(ay (ds:=[]) g.top (aJ) (by kernel_rfl) (by kernel_rfl) (by exact bJ 9 12 ah) (aD) rfl (λac ab aa=>rfl) (by kernel_rfl) λL=>?_).call;refine(g.snd (F:=ir L 6) (by exact hA) (by rfl)).Ss ?_;refine Br.mk (λq=>Jq q) λac=>?_;refine Br.mk (λq=>Jq q) λac=>?_;refine jx dict_int ?_;have aL:∀h,h<6->([0,1,2,3,4,5,6]:List Nat)[h]?=Jh h:=by decide
 refine sQ ⟨⟨[0,1,2,3,4,5,6],[(7,[])]⟩,.next,zM z D M H alo ahi blo bhi alo blo 0,[.ns (zQ fj Y z D M H),.inst 242 0,.dict G,.set l,.set Z,U,.dicti []],⟨by decide,.vw rfl (lY (ak.v _ rfl rfl) rfl rfl rfl) (.vw rfl rfl (.vw rfl (b2.vw _) (.vw rfl rfl (.vw rfl rfl (.vw rfl (ak.o _) (.vw rfl rfl trivial)))))),⟨⟨JC 6,by decide,rfl,λac ab aa B=>id⟩,trivial⟩,λh q ac=>aL h q⟩,rfl,AB,.of rfl,?_⟩;refine gF rfl ((g.snd (F:=ir L 6) (by exact hA) (by rfl)).E ?_);refine⟨rfl,_,_,ar g.top (by exact hA) (rY (Jn h1 (Jn w.ra bg)) (Jn w.ra bg)),trivial,?_⟩;rw[az];have an {A z D M H J alo ahi blo bhi l Z G fj Y U} (g:Gd) (ak:tF Y U) {Q} (hA:A.handled=none) (w:rQ z D J l ahi bhi) (b2:jD (chars D) J G) (bx:z.length<=sizeLine) (aU:(chars D).length<sizeLine) (hQ:∀bi bj bk kj,cV (chars z) (chars D) (λs=> !J s) alo blo (λe f=>alo<=e/\e<max alo ahi/\blo<=f/\f<bhi) bi bj bk->Q .next (zM z D M H alo ahi blo bhi bi bj bk) [.ns (zQ fj Y z D M H),.inst 242 0,.dict G,.set l,.set Z,U,.dicti kj]) :
   ∀(n i:Nat),alo<=i->i+n=max alo ahi->∀kj (bi bj bk:Nat),
    (∀j:Nat,blo<=j->j<bhi->(b6 kj ((j:Int)-1)).getD (.i 0)=.i (cu (chars z) (chars D) (λs=> !J s) alo blo i j:Nat)) ->
    cV (chars z) (chars D) (λs=> !J s) alo blo (λe f=>alo<=e/\e<i/\blo<=f/\f<bhi) bi bj bk ->
    cT (λac=>True) (cZ A (ir L 6) (ee (fu 7))) (bW A (ir L 6) (cy (fu 7))) Q (c6 (OC i n)) (zM z D M H alo ahi blo bhi bi bj bk) [.ns (zQ fj Y z D M H),.inst 242 0,.dict G,.set l,.set Z,U,.dicti kj]:=by
  have al {A z D M H ok alo ahi blo bhi i l} {m:Lc} {G o4 U} (g:Gd) {L n Q x kj idxs} (hA:A.handled=none) (hj:∀j:Nat,blo<=j->j<bhi->(b6 kj ((j:Int)-1)).getD (.i 0)=.i (cu (chars z) (chars D) ok alo blo i j:Nat)) (bn:(chars z)[i]?=Jh x) (aZ:alo<=i) (bv:∀j∈idxs,ok x=true) (bp:∀j∈idxs,(chars D)[j]?=Jh x) (aT:idxs.Pairwise (· < ·)) (hz:idxs.length<sizeLine) (hQ:∀kn bi bj bk,rL (chars z) (chars D) ok alo blo bhi i kn (· ∈idxs)->cV (chars z) (chars D) ok alo blo (λe f=>blo<=f/\f<bhi/\alo<=e/\(e<i∨(e=i/\f∈idxs))) bi bj bk->Q .next (CY z D M H alo ahi blo bhi i bi bj bk) [.ns m,.inst 242 0,.dict G,.set l,o4,U,.dicti kj,.dicti kn]) :
    ∀(ai done:List Nat),idxs=done++ai->∀kn (bi bj bk:Nat),kn.length<=done.length->rL (chars z) (chars D) ok alo blo bhi i kn (· ∈done)->cV (chars z) (chars D) ok alo blo (λe f=>blo<=f/\f<bhi/\alo<=e/\(e<i∨(e=i/\f∈done))) bi bj bk ->
     cT (λac=>True) (cZ A (ir L n) (ee BZ)) (bW A (ir L n) (cy BZ)) Q (c6 ai) (CY z D M H alo ahi blo bhi i bi bj bk) [.ns m,.inst 242 0,.dict G,.set l,o4,U,.dicti kj,.dicti kn]:=by
   intro ai
   induction ai with
   |nil =>
    intro done e kn bi bj bk hk nj bo;rw[JO] at e;subst e;exact⟨trivial,hQ kn bi bj bk nj bo⟩
   |cons j ai ih =>
    intro done e kn bi bj bk hk nj bo;have I:JI (chars z) (chars D) ok alo blo bhi i (· ∈done) kn bi bj bk:=⟨nj,bo⟩
    have ih:∀kn bi bj bk,kn.length<=(done++[j]).length->JI (chars z) (chars D) ok alo blo bhi i (· ∈done++[j]) kn bi bj bk->_:=λkn bi bj bk h I=>ih (done++[j]) (by refine(e).symm▸?_;rw[Jv];rfl) kn bi bj bk h I.nj I.bo;have hp:=e▸aT;rw[RD,O3] at hp;have bb:j∈idxs:=e▸KD _ (.head _);have S:=g.snd (F:=ir L n) hA (by rfl);refine⟨trivial,S.As (eG (S.Ss ?_))⟩;refine Br.mk (λh1=>?_) λh1=>?_
    ·have h1:j<blo:=Int.ofNat_lt.mp (of_decide_eq_true h1);exact⟨CY z D M H alo ahi blo bhi i bi bj bk,.of rfl,ih kn bi bj bk (Jn hk (by rw[Ji];exact JG _ _)) (I.same (λn=>Lg _) λn hn q ac=>(Oj.mp hn).elim id λae=>absurd (O4.mp ae▸h1) (Nat.not_lt.mpr q))⟩
    have h1:blo<=j:=Nat.not_lt.mp λq=>of_decide_eq_false h1 (Int.ofNat_lt.mpr q);refine Br.mk (λh2=>?_) λh2=>?_
    ·have h2:bhi<=j:=Int.ofNat_le.mp (of_decide_eq_true h2);have I:=I.same (P':=(· ∈idxs)) (λn q=>e▸Lg _ q) λn hn ac q=>(Oj.mp (e▸hn)).elim id λae=>absurd q (Nat.not_lt.mpr ((Ub.mp ae).elim (λae=>ae▸h2) λae=>Jn h2 (Ku (hp.2.1.1 n ae))));exact⟨CY z D M H alo ahi blo bhi i bi bj bk,.of rfl,hQ kn bi bj bk I.nj I.bo⟩
    have h2:j<bhi:=Nat.not_le.mp λq=>of_decide_eq_false h2 (Int.ofNat_le.mpr q);have hR:=w8 aZ h1 bn (bp j bb) (bv j bb);intro v ev;rw[hj j h1 h2] at ev;subst ev;generalize eR:cu (chars z) (chars D) ok alo blo i j=ag at hR ⊢;obtain⟨l1,l2,_⟩:=hV (as:=chars z) (bs:=chars D) (ok:=ok) (alo:=alo) (blo:=blo) (i+1) (j+1);have more:=I.more h1 h2 aZ (λn hn=>hp.2.2 n hn j (.head _)) (v:=(ag:Int)+1) rfl (by refine(hR).symm▸?_;rfl);rw[hR] at l1 l2 more;have bc:∀v,(gN kn (j:Int) v).length<=(done++[j]).length:=λv=>by
     rw[Ji];exact Jn (yG _ _ _) (KW hk)
    refine⟨Jn hk (Jn (JG _ (ai.length+1)) ((show done.length+(ai.length+1)=idxs.length from by rw[e,Ji];rfl)▸Ku hz)),Br.mk (λh3=>?_) λh3=>?_⟩
    ·exact⟨CY z D M H alo ahi blo bhi i (i+1-(ag+1):Nat) (j+1-(ag+1):Nat) (ag+1:Nat),(gO.of (l:=CY z D M H alo ahi blo bhi i ((i:Int)-((ag:Int)+1)+1) ((j:Int)-((ag:Int)+1)+1) ((ag:Int)+1)) rfl).is (by rw[pZ (r:=(ag:Int)+1) (R:=ag+1) l1 rfl,pZ (r:=(ag:Int)+1) (R:=ag+1) l2 rfl];rfl),ih _ _ _ _ (bc _) (more.1 (Int.ofNat_lt.mp (of_decide_eq_true h3)))⟩
    ·exact⟨CY z D M H alo ahi blo bhi i bi bj bk,.of rfl,ih _ _ _ _ (bc _) (more.2 λq=>of_decide_eq_false h3 (Int.ofNat_lt.mpr q))⟩
  have aG {G} (h:∀p∈G,∃ae,p.2=V.i ae) (m:Vm):O.vw m (.dicti G)=Jh (.dicti G) :=
   congrArg (KC O.dicti) (rS λp hp=>by obtain⟨ae,e⟩:=h p hp;refine(e).symm▸?_;rfl)
  have ao {as bs ok i bi bj bk} (bo:cV as bs ok alo blo (λe f=>alo<=e/\e<i/\blo<=f/\f<bhi) bi bj bk):cV as bs ok alo blo (FR alo blo bhi i (· ∈([]:List Nat))) bi bj bk :=
   bo.congr (λe f q=>⟨q.2.2.1,q.2.2.2,q.1,.inl q.2.1⟩) λe f q=>.inl (q.2.2.2.elim (λae=>⟨q.2.2.1,ae,q.1,q.2.1⟩) λae=>absurd ae.2 JK)
  have aF {as bs i} {idxs:List Nat} {x} (hx:as[i]?=Jh x) (e5:∀j,bs[j]?=Jh x->J x=false->j∈idxs) (j:Nat) (hj:j∉idxs):pairAt as bs (λs=> !J s) i j=false:=by
   cases hp:pairAt as bs (λs=> !J s) i j with
   |false=>rfl
   |true =>
    obtain⟨y,q1,q2,q3⟩:=b8.mp hp;cases hx.symm.trans q1;exact absurd (e5 j q2 (BE q3)) hj
  intro n
  induction n with
  |zero =>
   intro i hi hn kj bi bj bk hj bo;have e:i=max alo ahi:=hn;rw[e] at bo;exact⟨trivial,hQ bi bj bk kj bo⟩
  |succ n ih =>
   intro i hi hn kj bi bj bk hj bo;have aI:i<ahi:=by
    have bu:max alo ahi=ahi:=by
     rcases Rq alo ahi with q | q
     ·exact Ks q
     ·rw[TG q] at hn;exact d7 16 7 hn hi
    exact bZ 16 8 hn bu
   have bq:i<(chars z).length:=Jp (aI) w.ra;have hx:=Jo bq;generalize (chars z)[i]=x at hx;refine(List.range'_succ).symm▸?_;have S:=g.snd (F:=ir L 6) hA (by rfl);refine⟨trivial,S.As (q9 (S.Ss ?_))⟩;refine jx dict_int ?_;refine gF rfl (S.E ⟨bx,cI rfl hx ?_⟩);intro v ev;refine Jg λzz=>?_;obtain⟨idxs,e1,e2,e3,e4,e5⟩:=b2.get x;refine zz ?_;rw[e1] at ev;subst ev;have aB:=aF (bs:=chars D) hx e5;refine⟨rfl,_,_,g0 g.top hA b7,trivial,al g (kj:=kj) (ok:=λs=> !J s) (x:=x) (idxs:=idxs) hA hj hx hi (λj hj=>by refine((e4 j hj).2).symm▸?_;rfl) (λj hj=>(e4 j hj).1) e3 (Kn e2 aU) (λkn bi bj bk nj bo=>?_) idxs [] rfl [] bi bj bk (Jl _)
    ⟨λj hj=>absurd hj JK,λac ab=>rfl,λp hp=>absurd hp JK⟩ (ao bo)⟩
   have aw {as bs ok alo blo bhi i bj bk} {idxs:List Nat} (bo:cV as bs ok alo blo (FR alo blo bhi i (· ∈idxs)) bi bj bk) (aB:∀j,j∉idxs->pairAt as bs ok i j=false):cV as bs ok alo blo (λe f=>alo<=e/\e<i+1/\blo<=f/\f<bhi) bi bj bk:=by
    refine bo.congr (λe f q=>⟨q.2.2.1,q.2.2.2.elim Kh λae=>Nat.lt_succ_of_le (JX ae.1),q.1,q.2.1⟩) λe f q=>?_;refine(Nat.lt_succ_iff_lt_or_eq.mp q.2.1).elim (λhe=>.inl ⟨q.2.2.1,q.2.2.2,q.1,.inl he⟩) λhe=>?_;by_cases hf:f∈idxs
    ·exact .inl ⟨q.2.2.1,q.2.2.2,q.1,.inr ⟨he,hf⟩⟩
    ·right
     rw[he,dJ,if_neg (λae=>Jq ((aB f hf).symm.trans ae.2.2))]
   have aV:∀h,h<6->([0,1,2,3,4,5,7]:List Nat)[h]?=Jh h:=by decide
   refine⟨⟨[0,1,2,3,4,5,7],[]⟩,.next,zM z D M H alo ahi blo bhi bi bj bk,[.ns (zQ fj Y z D M H),.inst 242 0,.dict G,.set l,.set Z,U,.dicti kn],⟨by decide,.vw rfl (lY (ak.v _ rfl rfl) rfl rfl rfl) (.vw rfl rfl (.vw rfl (b2.vw _) (.vw rfl rfl (.vw rfl rfl (.vw rfl (ak.o _) (.vw rfl (aG nj.int _) trivial)))))),trivial,λh q ac=>aV h q⟩,rfl,AB,.of rfl,(ih (i+1) (KG hi) (by exact bZ 9 23 hn)) kn bi bj bk (nj.next aB) (aw bo aB)⟩
 have av {as bs ok i j} (h:i<=alo):cu as bs ok alo blo i j=0:=by
  cases i with
  |zero=>exact iP _
  |succ i =>
   cases j with
   |zero=>exact gT _
   |succ j=>rw[dJ,if_neg (λq=>by exact bM 0 0 h q.1)]
 refine an g ak (by exact hA) w b2 w.za aU (λbi bj bk kj bo=>?_) (ahi-alo) alo (Jl _) (by refine(Ks h1).symm▸?_;exact bM 6 16 h1) [] alo blo 0 (λj ac ab=>by refine(av (Jl _)).symm▸?_;rfl) (cV.start.congr (λe f q=>q.elim) λe f q=>by exact bZ 16 13 q.2.1 q.1);rw[Ks h1] at bo;have lg:=au bo;have aS:=lg.hi;rw[Ks h1,Ks h2] at aS;refine sQ ⟨⟨[0,1,2,3,4,5],[]⟩,.next,gD z D M H alo ahi blo bhi bi bj bk,[.ns (zQ fj Y z D M H),.inst 242 0,.dict G,.set l,.set Z,U],⟨by decide,.vw rfl (lY (ak.v _ rfl rfl) rfl rfl rfl) (.vw rfl rfl (.vw rfl (b2.vw _) (.vw rfl rfl (.vw rfl rfl (.vw rfl (ak.o _) trivial))))),trivial,λh q ac=>pg h q⟩,rfl,AB,.of rfl,?_⟩;generalize be:dg (chars z) (chars D) (λs=> !J s) alo blo bi bj bk=z8;refine aW g (by exact hA) w (by exact bJ 3 4 aS.1 (w.ra)) (by exact bJ 3 4 aS.2 (w.rb)) be λi6 j6=>?_;generalize bf:d3 (chars z) (chars D) (λs=> !J s) ahi bhi z8.1 z8.2.1 (ahi-(z8.1+z8.2.2)) z8.2.2=k9;refine aX g (by exact hA) w i6 j6 bf λi7 j7=>?_;generalize aQ:dg (chars z) (chars D) J alo blo z8.1 z8.2.1 k9=aA;refine aM g (by exact hA) w i7 j7 aQ λi8 j8=>?_;generalize aR:d3 (chars z) (chars D) J ahi bhi aA.1 aA.2.1 (ahi-(aA.1+aA.2.2)) aA.2.2=bz;refine aN g (by exact hA) w i8 j8 aR λi9 j9=>?_;have aj:Callee (.v (.ref 135)):=by
  obtain⟨mN,c,_⟩:=gX g;have aq {C N p f} (c:TupAt C N p f mN):Callee (.v (.ref C)):=.mach C λA s P i h=>by
   obtain⟨hh,g,d,t,os⟩:=s;obtain⟨nm,q,k0,k1,k2,k3,k5,dd,fr,hC,_⟩:=c.now i;dsimp only at hC;have t3:Ko (Jz W.prog W.w) hh (Li (.ref C) "__call__") (Jh (.builtin "type.__call__")):=by
    refine(kW hC:Ko (Jz W.prog W.w) hh (Mv (.ref C)) (.type "type")).andThen ?_;rw[RX];exact .now
   repeat lk
   exact h
  exact aq c
 have ap {A st i j k} (hA:A.handled=none) (ah:A.depth+1<recursionLimit) (h:Q (mV 135 (i,j,k)) st):bI A (.v (.ref 135)) [.i i,.i j,.i k] st Q:=by
  refine Jg λzz=>?_;obtain⟨mN,c,_⟩:=gX g;refine zz ?_;have ax:dO (bV (bR 3 4)) .none [BM,fV,eO,ug]:=by
   have bl {af:Type} {l:List af} (h:l.length=4):∃a b c d,l=[a,b,c,d]:=by obtain⟨a,_,rfl,h1⟩:=xR h;obtain⟨b,c,d,rfl⟩:=zV h1;exact⟨a,b,c,d,rfl⟩
   rintro⟨⟩ ws e1 e2 e3 h;dsimp only at e1 e2 e3;subst e1 e2 e3;refine Jg λzz=>?_;obtain⟨a,b,c,d,rfl⟩:=bl h;refine zz ?_
   rfl
  have aH:FnAt 82 (Jj "Match.__new__") (bV (bR 3 4)) (a5 (bR 3 4)) (a6 (bR 3 4)) (.ref 81) (.none) :=
   g.fn (oc:=Eb) (c0 1 rfl) (by kernel_rfl) (c0 0 rfl) rfl ⟨_,_,rfl,rfl⟩ (by kernel_rfl) (by kernel_rfl)
  have aE {C N p f} (c:TupAt C N p f mN) {a b d} (h:bI (made A) (.v (.ref f)) [.v (.ref C),a,b,d] st λv aO=>∃vs,v=.m C vs/\Q v aO):bI A (.v (.ref C)) [a,b,d] st Q:=by
   intro σ s w ws hw aK i r;subst hw;obtain⟨v1,v2,v3,rfl,h1,h2,h3⟩:=y5 aK;obtain⟨nm,q,k0,k1,k2,k3,k5,dd,fr,aY,ns,bC,bh,new,sm⟩:=c.now i;refine wI aY ns bC bh new sm ?_;rw[lA];have aC:=bT (X:=de) i r (JC s.toks);refine bH (h σ {s with toks:=s.toks+1} (.ref f) [.ref C,v1,v2,v3] rfl ⟨_,_,rfl,rfl,cf.step ⟨_,_,rfl,h1,_,_,rfl,h2,_,_,rfl,h3,rfl⟩ r aC⟩ aC.inv aC.rel) λv s' σ' aO u x' hu q'=>?_;obtain⟨us,e,q'⟩:=q';have bw:=hu;subst e;obtain⟨a,items,m,rfl,hz,ho,hs,hv⟩:=hu;obtain⟨bF,bG,j0,j1,j2,j3,j5,bD,bE,aP,bB,bA,_⟩:=c;have e0:=i.old.get_of_cls aP λq=>JT q;rw[aY] at e0;exact⟨a,_,rfl,ho,rfl,e0▸x'.inv.old.get_of_cls aP (λq=>JT q),jg x'.inv.old bB bA,_,_,aC.trans x',_,bw,q'⟩
  refine aE c (cC (names:=[BM,fV,eO,ug]) g.top (aH) (by kernel_rfl) (by kernel_rfl) ah ax rfl (by kernel_rfl) λL=>?_).call;refine bP (lj rfl (by rfl) (sS ?_));have S:=λn=>g.snd (A:=(made A).deeper (K5 (Jj "Match.__new__") (a6 (bR 3 4)) L 82 (.ref 81))) (F:=⟨K5 (Jj "Match.__new__") (a6 (bR 3 4)) L 82 (.ref 81),[],n⟩) (by exact hA) (by rfl);refine bP<|jS<|uC rfl (by rfl)<|(S _).E ⟨rfl,(S _).Es ?_⟩
  exact n5 c ⟨_,rfl,h⟩
 refine⟨aj,ap (by exact hA) (by exact ah) ?_⟩;refine h (aA.1,aA.2.1,bz) ⟨bi,bj,bk,lg,?_⟩;unfold extend;dsimp only;rw[be,bf,aQ,aR]
end
section
variable {as bs:List Str}{p:Str->Bool}{alo ahi blo bhi:Nat}
theorem gC:∀(i j k:Nat),alo<=i->blo<=j->alo<=(dg as bs p alo blo i j k).1/\blo<=(dg as bs p alo blo i j k).2.1/\(dg as bs p alo blo i j k).1+(dg as bs p alo blo i j k).2.2=i+k/\(dg as bs p alo blo i j k).2.1+(dg as bs p alo blo i j k).2.2=j+k/\k<=(dg as bs p alo blo i j k).2.2
 |0,j,k,a,c=>by exact⟨a,c,rfl,rfl,Jl _⟩
 |i+1,j,k,a,c=>by
  refine(gB ..).symm▸?_;by_cases h:alo<i+1/\blo<j/\pairAt as bs p i (j-1)=true
  ·rw[if_pos h];have:=gC i (j-1) (k+1) (by exact bM 1 5 h.1) (by exact bM 1 6 h.2.1);exact Cc 1 7 h.2.1 this.1 this.2.1 this.2.2.1 this.2.2.2.1 this.2.2.2.2
  ·rw[if_neg h];exact⟨a,c,rfl,rfl,Jl _⟩
theorem gA(i j:Nat):∀(n k:Nat),i+k<=ahi->j+k<=bhi->k<=d3 as bs p ahi bhi i j n k/\i+d3 as bs p ahi bhi i j n k<=ahi/\j+d3 as bs p ahi bhi i j n k<=bhi
 |0,k,a,c=>by exact⟨Jl _,a,c⟩
 |n+1,k,a,c=>by
  refine(gy ..).symm▸?_;by_cases h:i+k<ahi/\j+k<bhi/\pairAt as bs p (i+k) (j+k)=true
  ·rw[if_pos h];have:=gA i j n (k+1) (by exact bJ 1 8 h.1) (by exact bJ 1 8 h.2.1);exact pO 1 9 this.1 this.2.1 this.2.2
  ·rw[if_neg h];exact⟨Jl _,a,c⟩
end
theorem iW{as bs J alo ahi blo bhi z}(h:kJ as bs J alo ahi blo bhi z)(g:alo<=ahi)(o:blo<=bhi):alo<=z.1/\z.1+z.2.2<=ahi/\blo<=z.2.1/\z.2.1+z.2.2<=bhi:=by
 refine Jg λq=>?_;obtain⟨i,j,k,d,rfl⟩:=h;refine q ?_;have hi:=d.hi;rw[Ks g,Ks o] at hi;unfold extend;dsimp only;have a:=gC (as:=as) (bs:=bs) (p:=λs=> !J s) (alo:=alo) (blo:=blo) i j k (d.run.1) (d.run.2.1);generalize dg as bs (λs=> !J s) alo blo i j k=y at a ⊢;have c:=gA (as:=as) (bs:=bs) (p:=λs=> !J s) (ahi:=ahi) (bhi:=bhi) y.1 y.2.1 (ahi-(y.1+y.2.2)) y.2.2 (by exact bJ 1 10 a.2.2.1 hi.1) (by exact bJ 1 10 a.2.2.2.1 hi.2);generalize d3 as bs (λs=> !J s) ahi bhi y.1 y.2.1 (ahi-(y.1+y.2.2)) y.2.2=f at c ⊢;have b3:=gC (as:=as) (bs:=bs) (p:=J) (alo:=alo) (blo:=blo) y.1 y.2.1 f a.1 a.2.1;generalize dg as bs J alo blo y.1 y.2.1 f=x at b3 ⊢;have e:=gA (as:=as) (bs:=bs) (p:=J) (ahi:=ahi) (bhi:=bhi) x.1 x.2.1 (ahi-(x.1+x.2.2)) x.2.2 (by exact bJ 1 10 b3.2.2.1 c.2.1) (by exact bJ 1 10 b3.2.2.2.1 c.2.2);exact zg 1 11 b3.1 e.2.1 b3.2.1 e.2.2
inductive Tree(as bs:List Str)(J:Str->Bool):Nat->Nat->Nat->Nat->List (Nat×Nat×Nat)->Prop
 |leaf {alo ahi blo bhi i j:Nat} (h:kJ as bs J alo ahi blo bhi (i,j,0)):Tree as bs J alo ahi blo bhi []
 |node {alo ahi blo bhi i j k:Nat} {L R:List (Nat×Nat×Nat)} (h:kJ as bs J alo ahi blo bhi (i,j,k)) (hk:0<k) (hl:alo<i/\blo<j->Tree as bs J alo i blo j L) (hl':¬(alo<i/\blo<j)->L=[])
   (hr:i+k<ahi/\j+k<bhi->Tree as bs J (i+k) ahi (j+k) bhi R) (hr':¬(i+k<ahi/\j+k<bhi)->R=[]):Tree as bs J alo ahi blo bhi (L++(i,j,k)::R)
noncomputable def Behind(x y:Nat×Nat×Nat):Prop:=x.1+x.2.2<=y.1/\x.2.1+x.2.2<=y.2.1
structure Within(alo ahi blo bhi:Nat)(T:List (Nat×Nat×Nat)):Prop where
 ord:T.Pairwise Behind
 inn:∀x∈T,0<x.2.2/\alo<=x.1/\x.1+x.2.2<=ahi/\blo<=x.2.1/\x.2.1+x.2.2<=bhi
theorem Within.nil{alo ahi blo bhi}:Within alo ahi blo bhi []:=⟨.nil,λx h=>absurd h JK⟩
theorem pY{as bs J alo ahi blo bhi T}(h:Tree as bs J alo ahi blo bhi T):alo<=ahi->blo<=bhi->Within alo ahi blo bhi T:=by
 induction h with
 |leaf h=>intro _ _;exact .nil
 |@node alo ahi blo bhi i j k L R h z A f B g o p =>
  intro v w;have b:=iW h v w;dsimp only at b;have r:Within alo i blo j L:=by
   by_cases q:alo<i/\blo<j
   ·exact o q (by exact bM 1 12 q.1) (by exact bM 1 12 q.2)
   ·refine(f q).symm▸?_;exact .nil
  have e:Within (i+k) ahi (j+k) bhi R:=by
   by_cases q:i+k<ahi/\j+k<bhi
   ·exact p q (by exact bM 1 12 q.1) (by exact bM 1 12 q.2)
   ·refine(g q).symm▸?_;exact .nil
  refine⟨?_,λx a=>?_⟩
  ·rw[RD,O3];refine⟨r.ord,⟨λy c=>?_,e.ord⟩,λx a y c=>?_⟩
   ·have:=e.inn y c;unfold Behind;exact bZ 1 13 this.2.1 this.2.2.2.1
   ·have d:=r.inn x a;rcases Ub.mp c with rfl | c
    ·unfold Behind;exact bZ 1 13 d.2.2.1 d.2.2.2.2
    ·have u:=e.inn y c;unfold Behind;exact pO 1 14 u.2.1 u.2.2.2.1 d.2.2.1 d.2.2.2.2
  ·rcases Oj.mp a with a | a
   ·have:=r.inn x a;exact DN 1 15 b.2.1 b.2.2.2 this.1 this.2.1 this.2.2.1 this.2.2.2.1 this.2.2.2.2
   ·rcases Ub.mp a with rfl | a
    ·dsimp only;exact Cc 1 16 z b.1 b.2.1 b.2.2.1 b.2.2.2
    ·have:=e.inn x a;exact DN 1 17 b.1 b.2.2.1 this.1 this.2.1 this.2.2.1 this.2.2.2.1 this.2.2.2.2
inductive Fo(as bs:List Str)(J:Str->Bool):List (Nat×Nat×Nat×Nat)->List (Nat×Nat×Nat)->Prop
 |nil:Fo as bs J [] []
 |cons (q:Nat×Nat×Nat×Nat) (l:List (Nat×Nat×Nat×Nat)) (T R:List (Nat×Nat×Nat)) (t:Tree as bs J q.1 q.2.1 q.2.2.1 q.2.2.2 T) (f:Fo as bs J l R):Fo as bs J (q::l) (T++R)
inductive Je(as bs:List Str)(J:Str->Bool)(l m:List (Nat×Nat×Nat×Nat))(U:List (Nat×Nat×Nat)):Prop
 |mk (A B:List (Nat×Nat×Nat)) (e:A++B=U) (a:Fo as bs J l A) (b:Fo as bs J m B)
section
variable {as bs:List Str}{J:Str->Bool}{la lb i j k:Nat}{l m d:List (Nat×Nat×Nat×Nat)}{ms U A B T:List (Nat×Nat×Nat)}{q:Nat×Nat×Nat×Nat}
theorem Fo.split(f:Fo as bs J (l++m) U):Je as bs J l m U:=by
 induction l generalizing U with
 |nil=>exact⟨[],U,rfl,.nil,f⟩
 |cons q l c =>
  cases f with
  |cons Z L T R t f =>
   obtain⟨A,B,e,a,b⟩:=c f;exact⟨T++A,B,(Jv ..).trans (congrArg _ e),.cons _ _ _ _ t a,b⟩
theorem Fo.app(a:Fo as bs J l A)(b:Fo as bs J m B):Fo as bs J (l++m) (A++B):=by
 induction a with
 |nil=>exact b
 |cons q l T R t f c =>
  refine(Jv ..).symm▸?_;exact .cons _ _ _ _ t c
theorem Fo.one(t:Tree as bs J q.1 q.2.1 q.2.2.1 q.2.2.2 T):Fo as bs J [q] T:=by
 have f:=Fo.cons q [] T [] t .nil;rw[JO] at f;exact f
set_option tactic.hygienic true in
theorem Fo.ite{c}[Decidable c](f:Fo as bs J (if c then [q] else []) U):(c->Tree as bs J q.1 q.2.1 q.2.2.1 q.2.2.2 U)/\(¬c->U=[]):=by
 split at f
 ·rename_i h
  cases f with
  |cons Z L T R t f =>
   cases f;refine(JO ..).symm▸?_;exact⟨λZ=>t,λq=>absurd h q⟩
 ·rename_i h
  cases f;exact⟨λq=>absurd q h,λZ=>rfl⟩
structure Hv(la lb:Nat)(q:Nat×Nat×Nat×Nat):Prop where
 a:q.1<=q.2.1
 b:q.2.1<=la
 c:q.2.2.1<=q.2.2.2
 d:q.2.2.2<=lb
inductive Ir(as bs:List Str)(J:Str->Bool)(la lb:Nat)(ms:List (Nat×Nat×Nat)):Prop
 |mk (T:List (Nat×Nat×Nat)) (t:Tree as bs J 0 la 0 lb T) (p:T.Perm ms)
structure jW(as bs:List Str)(J:Str->Bool)(la lb:Nat)(queue:List (Nat×Nat×Nat×Nat))(ms:List (Nat×Nat×Nat)):Prop where
 bd:∀q∈queue,Hv la lb q
 tr:∀U,Fo as bs J queue U->Ir as bs J la lb (ms++U)
theorem jW.start(as bs:List Str)(J:Str->Bool)(la lb:Nat):jW as bs J la lb [(0,la,0,lb)] []:=by
 refine⟨λq a=>?_,λU f=>?_⟩
 ·cases O4.mp a;exact⟨JN _,Jl _,JN _,Jl _⟩
 ·cases f with
  |cons Z L T R t f =>
   cases f;refine(JO ..).symm▸?_;exact⟨T,t,.refl _⟩
theorem jW.done(h:jW as bs J la lb [] ms):Ir as bs J la lb ms:=by
 have t:=h.tr [] .nil;rw[JO] at t;exact t
theorem jW.Fj(h:jW as bs J la lb (d++[q]) ms)(a:kJ as bs J q.1 q.2.1 q.2.2.1 q.2.2.2 (i,j,0)):jW as bs J la lb d ms:=by
 refine⟨λr c=>h.bd r (Lg _ c),λU f=>?_⟩;have t:=h.tr _ (f.app (.one (.leaf a)));rw[JO] at t;exact t
noncomputable def fi(q:Nat×Nat×Nat×Nat)(i j:Nat):List (Nat×Nat×Nat×Nat):=if q.1<i/\q.2.2.1<j then [(q.1,i,q.2.2.1,j)] else []
noncomputable def dZ(q:Nat×Nat×Nat×Nat)(i j k:Nat):List (Nat×Nat×Nat×Nat):=if i+k<q.2.1/\j+k<q.2.2.2 then [(i+k,q.2.1,j+k,q.2.2.2)] else []
set_option tactic.hygienic true in
theorem jW.found(h:jW as bs J la lb (d++[q]) ms)(u:kJ as bs J q.1 q.2.1 q.2.2.1 q.2.2.2 (i,j,k))(y:0<k) :
  jW as bs J la lb (d++fi q i j++dZ q i j k) (ms++[(i,j,k)]):=by
 have o:=h.bd q (KD _ (O4.mpr rfl));have b:=iW u o.a o.c;dsimp only at b;refine⟨λr g=>?_,λU f=>?_⟩
 ·rcases Oj.mp g with g | g
  ·rcases Oj.mp g with g | g
   ·exact h.bd r (Lg _ g)
   ·unfold fi at g
    split at g
    ·cases O4.mp g;exact⟨b.1,Jn (Jn (JG i k) b.2.1) o.b,b.2.2.1,Jn (Jn (JG j k) b.2.2.2) o.d⟩
    ·exact absurd g JK
  ·unfold dZ at g
   split at g
   ·rename_i c
    cases O4.mp g;exact⟨Ku c.1,o.b,Ku c.2,o.d⟩
   ·exact absurd g JK
 ·obtain⟨X,R,e,f,fr⟩:=f.split;obtain⟨A,L,v,w,x⟩:=f.split;subst e;subst v;have l:=x.ite;have r:=fr.ite;obtain⟨T,t,p⟩:=h.tr _ (w.app (.one (.node u y l.1 l.2 r.1 r.2)));refine⟨T,t,p.trans ?_⟩;rw[Jv ms,Jv A,<-Jv A,<-Jv A];exact .append_left ms List.perm_middle
end
noncomputable def cP:List (Nat×Nat×Nat×Nat)->Nat
 |[]=>0
 |q::l=>2*(q.2.1-q.1)+1+cP l
mutual
theorem gv(l m:List (Nat×Nat×Nat×Nat)):cP (l++m)=cP l+cP m:=by
 induction l with
 |nil=>exact(Kf _).symm
 |cons x l a=>show _+cP (l++m)=_+cP l+cP m;refine(a ..).symm▸?_;exact bJ 0 6
theorem sf{q i j k}(c:q.1<=i)(d:i+k<=q.2.1)(e:0<k):cP (fi q i j)+cP (dZ q i j k)<cP [q]:=by
 have a:cP (fi q i j)<=2*(i-q.1)+1:=by
  unfold fi
  split
  ·exact Jl _
  ·exact JN _
 have b:cP (dZ q i j k)<=2*(q.2.1-(i+k))+1:=by
  unfold dZ
  split
  ·exact Jl _
  ·exact JN _
 exact GV a b c d e
end
noncomputable def b5(st:(Nat×Nat×Nat)×List (Nat×Nat×Nat))(x:Nat×Nat×Nat):(Nat×Nat×Nat)×List (Nat×Nat×Nat) :=
 if st.1.1+st.1.2.2=x.1/\st.1.2.1+st.1.2.2=x.2.1 then((st.1.1,st.1.2.1,st.1.2.2+x.2.2),st.2)
 else(x,if st.1.2.2=0 then st.2 else st.2++[st.1])
noncomputable def bU(T:List (Nat×Nat×Nat))(la lb:Nat):List (Nat×Nat×Nat) :=
 let st:=T.foldl b5 ((0,0,0),[])
 (if st.1.2.2=0 then st.2 else st.2++[st.1])++[(la,lb,0)]
noncomputable def mj(L:Addr)(n:Nat):cU:=⟨K5 (Jj "SequenceMatcher.get_matching_blocks") (a6 (bR 5 7)) L 203 (.ref 202),[],n⟩
noncomputable def nS(i:Nat):Stmt:=cD (a5 (bR 5 7)) i
noncomputable def qV(q:Nat×Nat×Nat×Nat):V:=.t [.i q.1,.i q.2.1,.i q.2.2.1,.i q.2.2.2]
noncomputable def m3(x:Nat×Nat×Nat):V:=mV 135 ((x.1:Int),(x.2.1:Int),(x.2.2:Int))
noncomputable def E9(x:Nat×Nat×Nat):Int×Int×Int:=((x.1:Int),(x.2.1:Int),(x.2.2:Int))
noncomputable def mh(la lb:Nat):Lc:=[(d0,.r 1),((⟨⟨[108,98]⟩⟩:Str),.i lb),((⟨⟨[108,97]⟩⟩:Str),.i la),((⟨⟨[113,117,101,117,101]⟩⟩:Str),.r 6),(jj,.r 7)]
theorem Cy(l:List (Nat×Nat×Nat×Nat)):l.length<=cP l:=by
 induction l with
 |nil=>exact Jl _
 |cons q l a=>show l.length+1<=2*(q.2.1-q.1)+1+cP l;exact bZ 16 14 a
section
variable {A:Around}{r o:Str}{D C:Nat}{J:Str->Bool}{l E:List Str}{kvs:List (Str×V)}{G:Value}{B:V}{z:O}
noncomputable abbrev lG(G:Value)(c B:V)(r o:Str)(D C:Nat)(kvs:List (Str×V))(l E:List Str)(z:O)(a:St):St:=.ns (pP (.v G) (.s r D) (.s o C) (.b true) c B .n (.r 2) (.r 3) (.r 4))::.inst 242 0::.dict kvs::.set l::.set E::z::a
theorem jD.up{bs J kvs}(b:jD bs J kvs)(u:Nat->Nat):wj u kvs=kvs :=
 (K3 λp a=>by obtain⟨vs,e⟩:=b.vals p a;refine(e).symm▸?_;exact Prod.ext rfl e.symm).trans (OF _)
mutual
theorem IP(a:tF B z)(c:jD (chars o) J kvs){rest}:nc ⟨[0,1,2,3,4,5],[]⟩ 0 (lG G .n B r o D C kvs l E z rest) (lG G .n B r o D C kvs l E z []) :=
 ⟨by decide,.vw rfl (lY (a.v _ rfl rfl) rfl rfl rfl) (.vw rfl rfl (.vw rfl (c.vw _) (.vw rfl rfl (.vw rfl rfl (.vw rfl (a.o _) trivial))))),trivial,λh q Z=>absurd q (Jy _)⟩
theorem Fu(a:tF B z)(c:jD (chars o) J kvs){o6 o7}:eH [0,1,2,3,4,5] (lG G .n B r o D C kvs l E z [o6,o7]) (lG G .n B r o D C kvs l E z [])=lG G .n B r o D C kvs l E z [o6,o7]:=by
 show[O.ns (pP (.v G) (.s r D) (.s o C) (.b true) .n (B.up (ja [0,1,2,3,4,5] 6 8)) .n (.r 2) (.r 3) (.r 4)),.inst 242 0,.dict (wj (ja [0,1,2,3,4,5] 6 8) kvs),.set l,.set E,z.up (ja [0,1,2,3,4,5] 6 8),o6,o7]=_;refine((a.up (ja [0,1,2,3,4,5] 6 8) rfl)).symm▸?_;refine((a.oup (ja [0,1,2,3,4,5] 6 8))).symm▸?_;exact((c.up (ja [0,1,2,3,4,5] 6 8))).symm▸rfl
end
noncomputable abbrev Af(G:Value)(B:V)(r o:Str)(D C:Nat)(kvs:List (Str×V))(l E:List Str)(z:O)(qs:List (Nat×Nat×Nat×Nat))(ms:List (Nat×Nat×Nat)):St:=lG G .n B r o D C kvs l E z [.list (qs.map qV),.list (ms.map m3)]
theorem C1{G B r o D C kvs l E z X X' Y Y'}(e:X=X')(a:Y=Y'):lG G .n B r o D C kvs l E z [.list X,.list Y]=lG G .n B r o D C kvs l E z [.list X',.list Y']:=e▸a▸rfl
section
variable {c a:Type}(f:c->a)(l:List c)(x y:c)
theorem EK:l.map f++[f x]=(l++[]++[x]).map f:=by rw[JO,JF];rfl
theorem xM:l.map f=(l++[]++[]).map f:=by rw[JO,JO]
end
inductive GQ(xa xb:Str)(J:Str->Bool)(la lb:Nat)(f:List (Nat×Nat×Nat×Nat)->List (Nat×Nat×Nat)->St)(n:Nat)(lc:Lc)(st:St):Prop
 |mk (qs:List (Nat×Nat×Nat×Nat)) (ms:List (Nat×Nat×Nat)) (hn:n=cP qs) (inv:jW (chars xa) (chars xb) J la lb qs ms) (size:ms.length+cP qs<=2*la+1) (hl:lc=mh la lb) (hs:st=f qs ms)
theorem vL(g:Gd)(ah:tF B z){Q L n pos}(hA:A.handled=none)(ai:A.depth+2<recursionLimit)(w:rQ r o J l (chars r).length (chars o).length)(b2:jD (chars o) J kvs)(af:2*(chars r).length+2<=sizeLine)(ao:(chars o).length<sizeLine)(hQ:∀T ms,Tree (chars r) (chars o) J 0 (chars r).length 0 (chars o).length T->T.Perm ms->Q .next (mh (chars r).length (chars o).length) (Af G B r o D C kvs l E z [] ms)){qs ms}(aa:jW (chars r) (chars o) J (chars r).length (chars o).length qs ms)(size:ms.length+cP qs<=2*(chars r).length+1) :
  dN A (mj L n) (.While (gj (nS 5)) (ly (nS 5)) [] pos) (mh (chars r).length (chars o).length) (Af G B r o D C kvs l E z qs ms) Q:=by
 have ae {H M:Type} (f:H->M) (l:List H) (x:H):l.map f++[f x]=(l++[x]++[]).map f:=by rw[JO,JF];rfl
 have aj {H M:Type} (f:H->M) (l:List H) (x y:H):l.map f++[f x]++[f y]=(l++[x]++[y]).map f:=by rw[JF,JF];rfl
 refine Jg λzz=>?_;obtain⟨mM,cM,_,_,_,an⟩:=gX g;refine zz ?_;refine fx (GQ r o J (chars r).length (chars o).length (Af G B r o D C kvs l E z)) (λk lc st I=>?_) _ ⟨qs,ms,rfl,aa,size,rfl,rfl⟩;obtain⟨qs,ms,rfl,aa,size,rfl,rfl⟩:=I;have S:=g.snd (F:=mj L n) hA (by rfl);refine S.T ?_;rcases Ru qs with rfl | ⟨P,q,e⟩
 ·refine Br.mk (λq=>Jq q) λZ=>?_;obtain⟨T,h1,h2⟩:=aa.done;exact hQ T ms h1 h2
 rw[Rv] at e;subst e;have Y:=aa.bd q (KD _ (O4.mpr rfl));have ac:cP (P++[q])=cP P+cP [q]:=gv ..;refine Br.mk (λZ=>?_) λu=>absurd u (by simp);refine eG (S.Ss ?_);refine yO g.top (vs:=P.map qV) (v:=qV q) (congrArg (λl=>Jh (O.list l)) (by refine(JF).trans ?_;rfl)) ?_;refine gH ⟨[0,1,2,3,4,5],[]⟩ rfl (IP ah b2) rfl rfl (yS g ah hA ai {w with ra:=Y.b,rb:=Y.d} b2 (by exact bM 16 15 af) ao Y.a Y.c λ⟨i,j,k⟩ hz=>⟨m3 (i,j,k),_,rfl,Fu ah b2,?_⟩);have ag:=iW hz Y.a Y.c;dsimp only at ag;refine eS rfl (rT cM an hA) rfl (S.Av ?_);refine Br.mk (λhk=>?_) λhk=>?_
 rotate_left
 ·have hk:k=0:=by
   have:=of_decide_eq_false (p:=(k:Int)≠0) (by simpa using hk);exact dy 9 6 this
  subst hk;exact⟨mh _ _,.of rfl,cP P,by rw[ac];exact LX (by exact bM 16 16),P,ms,rfl,aa.Fj hz,by exact d7 16 17 size ac,rfl,rfl⟩
 have al:0<k:=Sp λe=>by subst e;exact Jq hk
 have am:=aa.found hz al;have less:=sf (q:=q) (i:=i) (j:=j) (k:=k) ag.1 ag.2.1 al;have U:ms.length+P.length+1<sizeLine:=by
  have:1<=cP [q]:=by exact bJ 16 18
  exact zg 16 19 af size ac less (Cy P)
 have R:∀ {X:List V} c d,fi q i j=c->dZ q i j k=d->X=(P++c++d).map qV->Iq (GQ r o J (chars r).length (chars o).length (Af G B r o D C kvs l E z)) (cP (P++[q])) (mh (chars r).length (chars o).length) (lG G .n B r o D C kvs l E z [.list X,.list (ms.map m3++[m3 (i,j,k)])]):=by
  intro X c d e1 e2 e3;subst e1 e2;have e:cP (P++fi q i j++dZ q i j k)=cP P+cP (fi q i j)+cP (dZ q i j k):=by rw[gv,gv]
  have ak {H M:Type} (f:H->M) (l:List H) (x:H):l.map f++[f x]=(l++[x]).map f:=by refine KH ?_ (JF).symm;rfl
  refine⟨cP (P++fi q i j++dZ q i j k),by exact ip 16 20 less e ac,_,_,rfl,am,?_,rfl,C1 e3 (ak m3 ms (i,j,k))⟩;rw[Ji];exact zg 16 21 less size ac e
 have L1:q.1<i->q.2.2.1<j->fi q i j=[(q.1,i,q.2.2.1,j)]:=λa b=>if_pos ⟨a,b⟩;have L0:¬(q.1<i/\q.2.2.1<j)->fi q i j=[]:=λa=>if_neg a;have R1:i+k<q.2.1->j+k<q.2.2.2->dZ q i j k=[(i+k,q.2.1,j+k,q.2.2.2)]:=λa b=>if_pos ⟨a,b⟩;have R0:¬(i+k<q.2.1/\j+k<q.2.2.2)->dZ q i j k=[]:=λa=>if_neg a;have lt:∀ {a b:Nat},decide ((a:Int)<(b:Int))=true->a<b:=λh=>Int.ofNat_lt.mp (of_decide_eq_true h);have ab:∀ {a b:Nat},decide ((a:Int)<(b:Int))=false->¬a<b:=λh q=>of_decide_eq_false h (Int.ofNat_lt.mpr q);refine⟨by rw[Jt];exact bZ 16 22 U,Br.mk (λc1=>Br.mk (λc2=>?_) λc2=>?_) λc1=>?_⟩
 ·refine⟨by rw[Jt];exact bZ 16 23 U,Br.mk (λd1=>Br.mk (λd2=>⟨?_,mh _ _,.of rfl,R _ _ (L1 (lt c1) (lt c2)) (R1 (lt d1) (lt d2)) (aj qV P (q.1,i,q.2.2.1,j) (i+k,q.2.1,j+k,q.2.2.2))⟩) λd2=>⟨mh _ _,.of rfl,R _ _ (L1 (lt c1) (lt c2)) (R0 λu=>ab d2 u.2) (ae qV P (q.1,i,q.2.2.1,j))⟩) λd1=>⟨mh _ _,.of rfl,R _ _ (L1 (lt c1) (lt c2)) (R0 λu=>ab d1 u.1) (ae qV P (q.1,i,q.2.2.1,j))⟩⟩;rw[Ji,Jt];exact Kn (by exact bJ 17 0) U
 all_goals
  refine Br.mk (λd1=>Br.mk (λd2=>⟨by rw[Jt];exact bZ 16 23 U,mh _ _,.of rfl,R [] _ (L0 λu=>?_) (R1 (lt d1) (lt d2)) (EK qV P (i+k,q.2.1,j+k,q.2.2.2))⟩) λd2=>⟨mh _ _,.of rfl,R [] _ (L0 λu=>?_) (R0 λu=>ab d2 u.2) (xM qV P)⟩) λd1=>⟨mh _ _,.of rfl,R [] _ (L0 λu=>?_) (R0 λu=>ab d1 u.1) (xM qV P)⟩
  all_goals first | exact ab c2 u.2 | exact ab c1 u.1
end
noncomputable def b3(x:Nat×Nat×Nat):V:=.t [.i x.1,.i x.2.1,.i x.2.2]
theorem ed{c:Type}{f}(h:∀x (σ:Sg) n s w,RV σ n s (f x) w->RV σ 0 s (f x) w)(l:List c):g9 (l.map f):=by
 induction l with
 |nil=>exact λZ L D i=>id
 |cons x l g=>exact λσ n s ws q=>q.casesOn λw d e a b=>⟨w,d,e,h x σ n s w a,g σ n s d b⟩
theorem t6(l:List (Nat×Nat×Nat)):g9 (l.map m3):=ed (f:=m3) (λZ L D c a q=>q) l
noncomputable abbrev xI(la lb:Nat)(ts:List (Nat×Nat×Nat))(c:Nat×Nat×Nat):Lc:=[(d0,.r 1),((⟨⟨[108,98]⟩⟩:Str),.i lb),((⟨⟨[108,97]⟩⟩:Str),.i la),(jj,.l (ts.map m3)),((⟨⟨[105,49]⟩⟩:Str),.i c.1),((⟨⟨[106,49]⟩⟩:Str),.i c.2.1),((⟨⟨[107,49]⟩⟩:Str),.i c.2.2),((⟨⟨[110,111,110,95,97,100,106,97,99,101,110,116]⟩⟩:Str),.r 6)]
theorem l9{a b:Nat}:((a:Int) == (b:Int))=decide (a=b):=by
 rw[LM,beq_iff_eq,decide_eq_true_iff];exact bM 9 5
section
variable {A:Around}{i f:Str}{k j:Nat}{J:Str->Bool}{l v:List Str}{d:List (Str×V)}{w:Value}{x:V}{u:O}
theorem qE(g:Gd){Q L n la lb ts all}(hA:A.handled=none)(hz:ts.length+2<=sizeLine)(hQ:∀B y,(y,B)=ts.foldl b5 ((0,0,0),[])->B.length<=ts.length->Q .next (xI la lb all y) (lG w .n x i f k j d l v u [.list (B.map b3)])) :
  ∀(C done:List (Nat×Nat×Nat)),ts=done++C->∀B y,(y,B)=done.foldl b5 ((0,0,0),[])->B.length<=done.length ->
   cT (λZ=>True) (cZ A (mj L n) (ee (nS 9))) (bW A (mj L n) (cy (nS 9))) Q (C.map m3) (xI la lb all y) (lG w .n x i f k j d l v u [.list (B.map b3)]):=by
 refine Jg λzz=>?_;obtain⟨mM,cM,_,_,_,ab⟩:=gX g;refine zz ?_;intro C
 induction C with
 |nil =>
  intro done e B y hf P;rw[JO] at e;subst e;exact⟨trivial,hQ B y hf P⟩
 |cons z C U =>
  intro done e B y hf P;obtain⟨D,E,G⟩:=z;have U:∀B y o,o=O.list (B.map b3)->(y,B)=(done++[(D,E,G)]).foldl b5 ((0,0,0),[])->B.length<=(done++[(D,E,G)]).length->cT (λZ=>True) (cZ A (mj L n) (ee (nS 9))) (bW A (mj L n) (cy (nS 9))) Q (C.map m3) (xI la lb all y) (lG w .n x i f k j d l v u [o]):=λB y o eo=>eo▸U (done++[(D,E,G)]) (by refine(e).symm▸?_;rw[Jv];rfl) B y;have R:done.length+(C.length+1)=ts.length:=by rw[e,Ji];rfl
  have hd:(done++[(D,E,G)]).length=done.length+1:=Ji ..;obtain⟨Y,j1,H⟩:=y;have S:=g.snd (F:=mj L n) hA (by rfl);have step:∀r,r=b5 ((Y,j1,H),B) (D,E,G)->r=(done++[(D,E,G)]).foldl b5 ((0,0,0),[]):=λr er=>by refine(Pn).symm▸?_;refine(hf)▸?_;exact er
  have J : ¬(Y+H=D/\j1+H=E)->∀X,X=(if H=0 then B else B++[(Y,j1,H)])->((D,E,G),X)=(done++[(D,E,G)]).foldl b5 ((0,0,0),[]):=λh X e=>step _ (by unfold b5;refine(if_neg h).symm▸?_;exact congrArg _ (e));refine⟨trivial,eS rfl (rT cM ab hA) rfl (S.Av (eG (S.Ss ?_)))⟩;have nz:((H:Int) != 0)=false->H=0:=λh=>by
   have:=of_decide_eq_false (p:=(H:Int)≠0) (by simpa using h);exact dy 9 6 this
  have aa:∀ {a b c:Nat},((a:Int)+(b:Int) == (c:Int))=true->a+b=c:=λh=>of_decide_eq_true (l9.symm.trans h);have M:∀ {a b c:Nat},((a:Int)+(b:Int) == (c:Int))=false->¬a+b=c:=λh=>of_decide_eq_false (l9.symm.trans h);refine Br.mk (λc1=>Br.mk (λc2=>?_) λc2=>Br.mk (λT=>?_) λT=>?_) λc1=>Br.mk (λT=>?_) λT=>?_
  ·exact⟨xI la lb all (Y,j1,H+G),.of rfl,U B _ _ rfl (step _ (by unfold b5;rw[if_pos ⟨aa c1,aa c2⟩])) (by exact bZ 9 7 hd P)⟩
  ·exact⟨by rw[Jt];exact d7 9 8 hz R P,xI la lb all (D,E,G),.of rfl,U (B++[(Y,j1,H)]) _ _ (by rw[JF];rfl) (J (λq=>M c2 q.2) _ (if_neg λe=>by subst e;exact Jq T).symm) (by refine(Ji).symm▸?_;rw[hd];exact KW P)⟩
  ·exact⟨xI la lb all (D,E,G),.of rfl,U B _ _ rfl (J (λq=>M c2 q.2) _ (if_pos (nz T)).symm) (by exact bZ 9 7 hd P)⟩
  ·exact⟨by rw[Jt];exact d7 9 8 hz R P,xI la lb all (D,E,G),.of rfl,U (B++[(Y,j1,H)]) _ _ (by refine(JF).symm▸?_;rfl) (J (λq=>M c1 q.1) _ (if_neg λe=>by subst e;exact Jq T).symm) (by refine(Ji).symm▸?_;refine(hd).symm▸?_;exact KW P)⟩
  ·exact⟨xI la lb all (D,E,G),.of rfl,U B _ _ rfl (J (λq=>M c1 q.1) _ (if_pos (nz T)).symm) (by exact bZ 9 7 hd P)⟩
end
theorem nt:∀ {l m:List (Int×Int×Int)},l.Perm m->(l.map (·.1)).Pairwise (· < ·)->(m.map (·.1)).Pairwise (· < ·)->l=m
 |[],m,p,Z,L=>(List.nil_perm.mp p).symm
 |a::l,[],p,Z,L=>absurd (List.perm_nil.mp p) (by simp)
 |a::l,b::m,p,c,d=>by
  rw[Ke,O3] at c d;have f:a∈b::m:=p.mem_iff.mp (JJ ..);have g:b∈a::l:=p.mem_iff.mpr (JJ ..);have e:a=b:=by
   rcases Ub.mp f with e | f
   ·exact e
   ·rcases Ub.mp g with e | g
    ·exact e.symm
    ·exact absurd (Rx (d.1 a.1 (LQ f)) (c.1 b.1 (LQ g))) (Int.lt_irrefl _)
  subst e;exact(nt (List.perm_cons a |>.mp p) c.2 d.2).symm▸rfl
theorem iz{alo ahi blo bhi T}(w:Within alo ahi blo bhi T):((T.map E9).map (·.1)).Pairwise (· < ·):=by
 rw[J6,Su];refine w.ord.imp_of_mem λ{x y} c d a=>?_;have:=(w.inn x c).1;unfold Behind at a;exact bZ 9 9 a.1 this
section
variable {A:Around}{st:St}{Q:V->St->Prop}
theorem vU(g:Gd){x}(r:A.handled=none)(f:A.depth<recursionLimit)(h:Q (m3 x) st):iN A 89 [.v (.ref 135),b3 x] st Q:=by
 refine Jg λu=>?_;obtain⟨w,c,_,_,j,_⟩:=gX g;refine u ?_;have d:dO (bV (bR 3 5)) .none [(⟨⟨[99,108,115]⟩⟩:Str),BL]:=by
  rintro⟨⟩ ws k o p h;dsimp only at k o p;subst k o p;obtain⟨a,b,rfl⟩:=oY h
  rfl
 have e:FnAt 89 (Jj "Match._make") (bV (bR 3 5)) (a5 (bR 3 5)) (a6 (bR 3 5)) (.ref 88) (.none) :=
  g.fn (oc:=Ea) (c0 3 rfl) (by kernel_rfl) (c0 2 rfl) rfl ⟨_,_,rfl,rfl⟩ (by kernel_rfl) (by kernel_rfl)
 refine cC (names:=[(⟨⟨[99,108,115]⟩⟩:Str),BL]) g.top (e) (by kernel_rfl) (by kernel_rfl) f d rfl (by kernel_rfl) λL=>?_;have S:=λn=>g.snd (A:=A.deeper (K5 (Jj "Match._make") (a6 (bR 3 5)) L 89 (.ref 88))) (F:=⟨K5 (Jj "Match._make") (a6 (bR 3 5)) L 89 (.ref 88),[],n⟩) (by exact r) (by rfl);refine bP (lj rfl (by rfl) (sS ?_));refine bP<|fy rfl (gw rfl) rfl<|uC rfl (by rfl)<|(S _).E ⟨rfl,(S _).Es ?_⟩
 refine n5 c ((S _).As ((S _).Ss ?_));refine CP c j ?_;refine Br.mk (λq=>Jq q) λZ=>?_;exact h
noncomputable def B0(v:V):V:=match v with
 |.c Z items=>.c (.cls 135) items
 |v=>v
theorem vN(a b:List Stmt)(env:Env):Pa (a++b) env=(Pa a env >>= λf=>match f with | .next=>Pa b env | f=>pure f):=by
 induction a with
 |nil=>exact(pure_bind _ _).symm
 |cons c a d =>
  rw[PQ,execs_cons,execs_cons,bind_assoc];refine congrArg _ (funext λf=>?_);cases f with
  |next=>exact d
  |_=>exact(pure_bind _ _).symm
end
section
variable {A:Around}{F:cU}{Q:Fl->Lc->St->Prop}
noncomputable def D6(A:Around)(F:cU)(l:List Stmt)(Q:Fl->Lc->St->Prop)(f:Fl)(lc:Lc)(st:St):Prop:=match f with
 |.next=>bW A F l lc st Q
 |f=>Q f lc st
theorem cv(k:Nat){l lc st}(h:bW A F (l.take k) lc st (D6 A F (l.drop k) Q)):bW A F l lc st Q:=by
 intro σ s p;refine(M0 k l)▸?_;rw[vN];refine Jf (dc (h σ s p) λf s₁ c d e g a fr i q=>?_);cases g with
 |next=>cases i;exact h8 a (q c s₁ ⟨a.inv,a.rel,fr⟩)
 |brk=>cases i;exact Jk ⟨c,d,e,a,fr,.brk,rfl,q⟩
 |cont=>cases i;exact Jk ⟨c,d,e,a,fr,.cont,rfl,q⟩
 |ret v=>obtain⟨w,rfl,hw⟩:=i;exact Jk ⟨c,d,e,a,fr,.ret v,⟨w,rfl,hw⟩,q⟩
end
mutual
theorem Ik:([0,1,2,3,4,5]:List Nat).Nodup:=by decide
theorem IV:7∉([0,1,2,3,4,5]:List Nat):=by decide
theorem G2:([0,1,2,3,4,5,8]:List Nat).Nodup:=by decide
theorem GZ:7∉([0,1,2,3,4,5,8]:List Nat):=by decide
theorem CW:∀h,h<6->([0,1,2,3,4,5,8]:List Nat)[h]?=Jh h:=by decide
theorem BQ{m bl bl' co co' fj xa xb ta tb}(a:V.vw m bl=Jh bl')(h:V.vw m co=Jh co')(c:V.vw m (.r 2)=Jh (.r 2))(d:V.vw m (.r 3)=Jh (.r 3))(e:V.vw m (.r 4)=Jh (.r 4)) :
  O.vw m (.ns (pP (.v fj) (.s xa ta) (.s xb tb) (.b true) bl co .n (.r 2) (.r 3) (.r 4)))=Jh (.ns (pP (.v fj) (.s xa ta) (.s xb tb) (.b true) bl' co' .n (.r 2) (.r 3) (.r 4))) :=
 congrArg (KC O.ns) (a9 rfl<|a9 rfl<|a9 rfl<|a9 rfl<|a9 a<|a9 h<|a9 rfl<|a9 c<|a9 d<|a9 e rfl)
theorem yW:dO (bV (bR 5 7)) .none [d0]:=by
 rintro⟨⟩ ws c d e h;dsimp only at c d e;subst c d e;obtain⟨a,rfl⟩:=sA h
 rfl
end
section
variable {A:Around}{d a:Str}{y u:Nat}{J:Str->Bool}{l z:List Str}{j:List (Str×V)}{B:Value}{r:V}{k:O}{Q:V->St->Prop}
theorem yj(g:Gd){L ts na bl la lb c Q}(C:A.handled=none)(p:A.depth+4<recursionLimit)(hz:na.length<64)(P:na++[(la,lb,0)]=bl)(h:∀lc o,Q (.ret (.r 7)) lc (lG B (.r 7) r d a y u j l z k [o,.list (bl.map m3)])) :
  bW A (mj L 6) ((a5 (bR 5 7)).drop 11) (xI la lb ts c) (lG B .n r d a y u j l z k [.list (na.map b3)]) Q:=by
 refine Jg λH=>?_;obtain⟨X,M,D,U,T,R⟩:=gX g;refine H ?_;have S:=g.snd (F:=mj L 6) C (by rfl);have w:64<sizeLine:=by decide
 refine bP (S.S ⟨by rw[Jt];exact bJ 9 10 hz w,?_⟩);refine bP<|fy rfl (gw rfl) rfl<|rh g.top C (λJ q=>S.E q) (λJ q=>S.E q) rfl rfl<|S.E ?_
 refine wb M D (g.fields (o:=D9) (c0 4 rfl) (λf q=>Km q)) ?_;refine S.E ⟨na.map b3++[b3 (la,lb,0)],B0,_,⟨cj,rfl,?_,λv G=>?_⟩,?_⟩
 ·rw[Ji,Jt];exact bJ 9 11 hz w
 ·have G:v∈(na++[(la,lb,0)]).map b3:=by rw[JF];exact G
  refine Jg λH=>?_;obtain⟨x,_,rfl⟩:=Ra.mp G;refine H ?_;exact rC (vU g (by exact C) (by exact bJ 9 12 p) ⟨rfl,rfl⟩)
 ·have e:(na.map b3++[b3 (la,lb,0)]).map B0=bl.map m3:=by refine(P)▸?_;rw[JF,JF,J6];rfl
  refine(e).symm▸?_;exact S.As (S.Ss (h _ _))
theorem yR(g:Gd)(f:tF r k)(C:A.handled=none)(i:A.depth+5<recursionLimit)(hu:A.units+6<cLine)(w:rQ d a J l (chars d).length (chars a).length)(H:jD (chars a) J j)(D:2*(chars d).length+4<=sizeLine)(ab:(chars a).length<sizeLine)(G:∀T,Tree (chars d) (chars a) J 0 (chars d).length 0 (chars a).length T->T.length<62)(h:∀T,Tree (chars d) (chars a) J 0 (chars d).length 0 (chars a).length T->Q (.l ((bU T (chars d).length (chars a).length).map m3)) (lG B (.l ((bU T (chars d).length (chars a).length).map m3)) r d a y u j l z k [])) :
  bI A (.v (.ref 203)) [.r 1] (lG B .n r d a y u j l z k []) Q:=by
 refine Jg λzz=>?_;obtain⟨mM,cM,aj,X,ai,af⟩:=gX g;refine zz ?_;refine ig ((cC (names:=[d0]) g.top (C2 g) (by kernel_rfl) (by kernel_rfl) (by exact bJ 9 12 i) yW rfl (by kernel_rfl) λL=>?_).call);have S:=g.snd (A:=A.deeper (K5 (Jj "SequenceMatcher.get_matching_blocks") (a6 (bR 5 7)) L 203 (.ref 202))) (F:=mj L 6) (by exact C) (by rfl);refine cv 11 (S.Ss ?_);refine Br.mk (λq=>Jq q) λZ=>?_;refine⟨w.za,w.zb,?_⟩;refine(dT d)▸?_;refine(dT a)▸?_;refine vL g f (by exact C) (by exact bM 9 13 i) w H (by exact bM 9 14 D) ab (λT ms P Y=>?_) (qs:=[(0,(chars d).length,0,(chars a).length)]) (ms:=[]) (jW.start ..) (by exact bM 9 15);have wi:=pY P (JN _) (JN _);have c:=G T P;refine vW g.top cM X (ns:=ms.map E9) (by exact bM 9 16 hu) (congrArg (λl=>Jh (O.list l)) (by refine KH ?_ (J6).symm;rfl)) ?_ (by rw[Jt];refine(Y.length_eq)▸?_;exact dy 9 17 c) λac aa hs=>?_
 ·refine((Y.map E9).map (·.1)).nodup_iff.mp ?_;exact(iz wi).imp λh=>Int.ne_of_lt h
 have eT:ac=T.map E9:=nt (aa.trans (Y.map E9).symm) hs (iz wi);subst eT;generalize ag:(chars d).length=la at *;generalize ah:(chars a).length=lb at *;refine sQ ⟨⟨[0,1,2,3,4,5,8],[(7,T.map m3)]⟩,.next,xI la lb T (0,0,0),lG B .n r d a y u j l z k [.list []],⟨G2,.vw rfl (lY (f.v _ rfl rfl) rfl rfl rfl) (.vw rfl rfl (.vw rfl (H.vw _) (.vw rfl rfl (.vw rfl rfl (.vw rfl (f.o _) (.vw rfl rfl trivial)))))),⟨⟨JC 6,GZ,congrArg (λl=>Jh (O.list l)) (by refine(J6).trans ?_;rfl),t6 T⟩,trivial⟩,λh q Z=>CW h q⟩,rfl,AB,.of rfl,?_⟩;refine gF rfl (S.E ⟨rfl,_,_,g0 g.top (by exact C) b7,trivial,?_⟩);refine qE g (ts:=T) (by exact C) (by exact bM 9 18 (by decide:64<sizeLine) c) (λna M hf U=>?_) T [] rfl [] (0,0,0) rfl (Jl _);obtain⟨i1,j1,k1⟩:=M;have fin:∀x,x.length<=T.length+1->x++[(la,lb,0)]=bU T la lb->∀o,o=O.list (x.map b3)->bW (A.deeper (K5 (Jj "SequenceMatcher.get_matching_blocks") (a6 (bR 5 7)) L 203 (.ref 202))) (mj L 6) ((a5 (bR 5 7)).drop 11) (xI la lb T (i1,j1,k1)) (lG B .n r d a y u j l z k [o]) (λfl Z ae=>Hs 6 Q (sd fl) ae):=λx h1 h2 o eo=>eo ▸
  yj g (by exact C) (by assumption) (by exact bM 9 19 c h1) h2 λlc o=>⟨⟨[0,1,2,3,4,5],[(7,(bU T la lb).map m3)]⟩,.l ((bU T la lb).map m3),lG B (.l ((bU T la lb).map m3)) r d a y u j l z k [],⟨Ik,.vw rfl (BQ rfl (f.v _ rfl rfl) rfl rfl rfl) (.vw rfl rfl (.vw rfl (H.vw _) (.vw rfl rfl (.vw rfl rfl (.vw rfl (f.o _) trivial))))),⟨⟨JC 6,IV,rfl,t6 _⟩,trivial⟩,λh q Z=>pg h q⟩,rfl,h T P⟩
 refine Br.mk (λR=>⟨by rw[Jt];exact bJ 9 20 (by decide:64<sizeLine) c U,fin (na++[(i1,j1,k1)]) (by refine(Ji).symm▸?_;exact KW U) ?_ _ (by rw[JF];rfl)⟩) λR=>fin na (KG U) ?_ _ rfl
 ·unfold bU;rw[<-hf];dsimp only;rw[if_neg (λe=>by subst e;exact Jq R)]
 ·unfold bU;rw[<-hf];dsimp only;rw[if_pos];have:=of_decide_eq_false (p:=(k1:Int)≠0) (by simpa using R);exact dy 9 6 this
end
noncomputable def nZ(L:Addr)(n:Nat):cU:=⟨K5 (Jj "SequenceMatcher.__chain_b") (a6 (bR 5 5)) L 188 (.ref 187),[],n⟩
noncomputable def pJ(i:Nat):Stmt:=cD (a5 (bR 5 5)) i
noncomputable def pj(s:Stmt):List Stmt:=(zh s).2.2.1
structure zo(bs:List Str)(n:Nat)(kvs:List (Str×V))(LL:List (List Nat)):Prop where
 len:LL.length=n
 nd:(kvs.map (·.1)).Nodup
 val:∀k v,b6 kvs k=Jh v->∃i,v=.r (i+6)/\LL[i]?=Jh (dj bs k n)
 inj:∀k k' v,b6 kvs k=Jh v->b6 kvs k'=Jh v->k=k'
 key:∀x,b6 kvs x=none↔¬ ∃i,i<n/\bs[i]?=Jh x
 size:kvs.length<=n
theorem yI{K}[DecidableEq K]{l:List (K×V)}{k:K}{v:V}(h:b6 l k=Jh v):(k,v)∈l:=by
 induction l with
 |nil=>cases h
 |cons p l a =>
  rw[mB] at h;by_cases e:p.1=k
  ·have h:=(if_pos e)▸h;cases h;refine(e)▸?_;exact JJ ..
  ·rw[if_neg e] at h;exact JR _ (a h)
noncomputable abbrev nK(a:List (List Nat)):St:=a.map λl=>.list (c6 l)
mutual
theorem qm{bs n x k}(h:bs[n]?=Jh x)(e:k≠x):dj bs k (n+1)=dj bs k n:=by
 rw[lR,h,if_neg (λq=>e (JP (beq_iff_eq.mp q)).symm),JO]
theorem qo{bs n x}(h:bs[n]?=Jh x):dj bs x (n+1)=dj bs x n++[n]:=by
 rw[lR,h,beq_self_eq_true,if_pos rfl]
theorem tS{bs:List Str}{n x k}(h:bs[n]?=Jh x):(∃i,i<n+1/\bs[i]?=Jh k)↔(∃i,i<n/\bs[i]?=Jh k)∨k=x:=by
 constructor
 ·rintro⟨i,c,a⟩;rcases Nat.lt_succ_iff_lt_or_eq.mp c with q | q
  ·exact .inl ⟨i,q,a⟩
  ·subst q;have a:=h▸a;exact .inr (JP a).symm
 ·rintro(⟨i,c,a⟩ | rfl)
  ·exact⟨i,Kh c,a⟩
  ·exact⟨n,JL _,h⟩
end
mutual
theorem zo.old{bs n i kvs LL x}(c:zo bs n kvs LL)(d:bs[n]?=Jh x)(a:b6 kvs x=Jh (.r (i+6)))(hi:LL[i]?=Jh (dj bs x n)):zo bs (n+1) kvs ((LL++[[]]).set i (dj bs x n++[n])):=by
 have li:=(List.getElem?_eq_some_iff.mp hi).1;refine⟨by rw[MG,Ji,c.len];rfl,c.nd,λk v h=>?_,c.inj,λk=>?_,KG c.size⟩
 ·by_cases e:k=x
  ·subst e;replace h:=a▸h;cases h;exact⟨i,rfl,by rw[K0 (by rw[Ji];exact Tg _ li),qo d]⟩
  ·obtain⟨j,f,g⟩:=c.val k v h;have o:i≠j:=λq=>e (c.inj k x v h (by refine(a).symm▸?_;refine(f).symm▸?_;rw[q]));exact⟨j,f,by rw[Mp o,JU (List.getElem?_eq_some_iff.mp g).1,g,qm d e]⟩
 ·rw[c.key,tS d];exact⟨λq z=>z.elim q λe=>(by subst e;have a:=((c.key k).mpr q)▸a;cases a),λq z=>q (.inl z)⟩
theorem jU{K}[DecidableEq K]{l k v}(h:b6 l k=none)(k':K):b6 (l++[(k,v)]) k'=if k'=k then Jh v else b6 l k':=by
 rw[<-rk h,mA]
theorem rm{K}[DecidableEq K]{l:List (K×V)}{k:K}(h:b6 l k=none):k∉l.map (·.1):=by
 induction l with
 |nil=>exact JK
 |cons p l a =>
  rw[mB] at h;by_cases e:p.1=k
  ·have h:=(if_pos e)▸h;cases h
  ·have h:=(if_neg e)▸h;exact λq=>(Ub.mp q).elim (λq=>e q.symm) (a h)
theorem Az{K}[DecidableEq K]{l:List (K×V)}(h:(l.map (·.1)).Nodup){p:K×V}(a:p∈l):b6 l p.1=Jh p.2:=by
 induction l with
 |nil=>cases a
 |cons q l c =>
  refine KH (mB ..) ?_;rw[Ke,Tj] at h;rcases Ub.mp a with rfl | a
  ·exact(if_pos rfl)
  ·rw[if_neg (fun(e:q.1=p.1)=>h.1 (e▸LQ a)),c h.2 a]
end
theorem zo.new{bs n kvs LL x}(c:zo bs n kvs LL)(p:bs[n]?=Jh x)(f:b6 kvs x=none):zo bs (n+1) (kvs++[(x,.r (n+6))]) (LL++[[n]]):=by
 have y:dj bs x n=[]:=List.eq_nil_iff_forall_not_mem.mpr λi hi=>(c.key x).mp f ⟨i,jL.mp hi⟩;have lt:∀ {k i},b6 kvs k=Jh (.r (i+6))->i<n:=λ{k i} h=>by
  obtain⟨j,o,g⟩:=c.val k _ h;have:i+6=j+6:=by injection o
  have w:=(List.getElem?_eq_some_iff.mp g).1;rw[c.len] at w;exact bZ 9 21 this w
 refine⟨by rw[Ji,c.len];rfl,?_,λk v h=>?_,λk u v h h'=>?_,λk=>?_,by rw[Ji];exact KW c.size⟩
 ·rw[JF,ND];exact⟨c.nd,Tj.mpr ⟨JK,OD⟩,λa A b B e=>(rm f) ((show a=x by rw[O4.mp B] at e;exact e)▸A)⟩
 ·rw[jU f] at h;by_cases e:k=x
  ·have h:=(if_pos e)▸h;cases h;exact⟨n,rfl,by rw[JW (JX c.len),c.len,Lz,e,qo p,y];rfl⟩
  ·rw[if_neg e] at h;obtain⟨j,o,g⟩:=c.val k v h;exact⟨j,o,by rw[JU (List.getElem?_eq_some_iff.mp g).1,g,qm p e]⟩
 ·rw[jU f] at h h';by_cases e:k=x
  ·replace h:=(if_pos e)▸h;cases h;by_cases d:u=x
   ·refine(e).symm▸?_;exact(d).symm▸rfl
   ·rw[if_neg d] at h';exact absurd (lt h') (Jw _)
  ·rw[if_neg e] at h;by_cases d:u=x
   ·replace h':=(if_pos d)▸h';cases h';exact absurd (lt h) (Jw _)
   ·rw[if_neg d] at h';exact c.inj k u v h h'
 ·refine(jU f ..).symm▸?_;rw[tS p];by_cases e:k=x
  ·rw[if_pos e];exact⟨λq=>(nomatch q),λq=>absurd (.inr e) q⟩
  ·rw[if_neg e,c.key];exact⟨λq z=>z.elim q e,λq z=>q (.inl z)⟩
section
variable {A:Around}{m:Lc}{G:O}{E:O}{D:O}{xb:Str}{z:Nat}
noncomputable abbrev B3(xb:Str)(z:Nat):Lc:=[(d0,.r 1),(eO,.s xb z),(km,.r 5)]
noncomputable def B4(T:Lc->St->Prop)(Q:Fl->Lc->St->Prop)(f:Fl)(lc:Lc)(st:St):Prop:=match f with
 |.brk=>Q .next lc st
 |.ret u=>Q (.ret u) lc st
 |_=>T lc st
theorem ru(g:Gd){L n₀ Q}(hA:A.handled=none)(hz:(chars xb).length<sizeLine)(hQ:∀C H,zo (chars xb) (chars xb).length C H->Q .next (B3 xb z) (.ns m::.inst 242 0::G::E::D::.dict C::nK H)) :
  ∀(k n:Nat),n+k=(chars xb).length->∀C H,zo (chars xb) n C H ->
   cT (λZ=>True) (cZ A (nZ L n₀) (ee (pJ 2))) (bW A (nZ L n₀) (cy (pJ 2))) Q ((fM (sgn xb)).drop n) (B3 xb z) (.ns m::.inst 242 0::G::E::D::.dict C::nK H):=by
 have J {st:St} {Q:V->St->Prop} {K:Type} [DecidableEq K] {knd:KeyKind W.prog W.w K} {mk:List (K×V)->O} {C:List (K×V)} {j:Nat} {k:K} {kv dv:V} (T:bK) (p:gh knd mk) (e:st[j]?=Jh (mk C)) (hk:nf knd kv k) (hz:C.length<=sizeLine) (h:I8 C k dv st (mk (C++[(k,dv)])) j Q):MethW A "dict.setdefault" (.r j) [kv,dv] st Q:=by
  intro σ s f ws hf au i r;subst hf;refine Jg λzz=>?_;obtain⟨x,y,B,rfl,⟨hj,rfl⟩,hb,hc⟩:=y5 au;obtain⟨o,ws,ho,hd,hr⟩:=p.to _ _ _ _ _ (r.at_ j _ e);obtain⟨_,_,_,_,_,_,nd⟩:=id hd;refine zz ?_;have hD:s.heap.DictOf knd (σ.a j) ws:=Heap.dictOf_iff.mpr ⟨o,ho,hd⟩;have ar:=jh T r hj;have g:MeetsIn W.prog W.w (Builtin.«dict.setdefault» ⟨[.ref (σ.a j),y,B],[]⟩) (λA R s=>s.TypeIs (.ref (σ.a j)) "dict"/\JH (Jz W.prog W.w) A.in1 (Ro (σ.a j) y B) (λv s'=>R (.ok (.ret v)) s') (λe s'=>R (.error e) s') s) :=
   .of_wp λA R s am=>by
    obtain⟨hT,h⟩:=am;refine Jf ?_;refine Jf (SA hT ?_);refine Jk ?_;show JH _ _ (if(σ.a j == Rg)=true then _ else(Ro (σ.a j) y B >>= _)) _ _ s;rw[if_neg (by refine(ar).symm▸?_;exact K9)];exact Jf (JB h (λv s' q=>Jk ⟨v,rfl,q⟩) λZ zy q=>q)
  have q:=RK.get (k:=k) hr;have U {A s K} [DecidableEq K] {knd:KeyKind W.prog W.w K} {k d ws key dflt P} (ac:knd.is k key=true) (hm:s.heap.DictOf knd d ws) (hsz:ws.length<=sizeLine) (ag:∀v,Qe ws k=Jh v->P v {s with toks:=s.toks+1}) (al:Qe ws k=none->∀h',h'.DictOf knd d (Ob ws k dflt)->Kx d s.heap h'->P dflt {s with heap:=h',toks:=s.toks+1}) :
    Wp A (Ro d key dflt) P s:=by
   refine Jg λzz=>?_;obtain⟨o,es,ep,ho,hc,Y,hk,hp,hn⟩:=id hm;refine zz ?_;refine JD (Jf (knd.pyHash ac ?_));refine Jf (wpAny_dictFind_of (s:={s with toks:=s.toks+1}) ac ho Y hk ?_);cases hi:es.findIdx? λe=>knd.is k e.key with
   |some j =>
    refine Jg λzz=>?_;obtain⟨e,he,aw,ao⟩:=hp.at ((show(es.toList.findIdx? λe=>knd.is k e.key)=es.findIdx? λe=>knd.is k e.key from by obtain⟨l⟩:=es;simp).trans hi);refine zz ?_;refine Jf (Um (s:={s with toks:=s.toks+1}) ho Y ?_);refine(JZ)▸?_;refine(he).symm▸?_;exact Jf (LU (Jk (ag _ ao)))
   |none =>
    have M:Qe ws k=none:=by
     refine(hp.find k)▸?_;refine(List.find?_eq_none.mpr λe he=>by simpa using Array.findIdx?_eq_none_iff.mp hi e (Array.mem_toList_iff.mp he)).symm▸?_
     rfl
    have ah:k∉ws.map (·.1):=by
     intro ak;refine Jg λzz=>?_;obtain⟨kv,ai,rfl⟩:=Ra.mp ak;refine zz ?_;unfold Qe at M;rw[Option.map_eq_none_iff,List.find?_eq_none] at M;exact M kv ai (by simp)
    have es':Ob ws k dflt=ws++[(k,dflt)]:=by
     unfold Ob;rw[if_neg];rw[List.any_eq_true];rintro⟨kv,ai,ap⟩;exact ah (Ra.mpr ⟨kv,ai,of_decide_eq_true ap⟩)
    refine Jf (LU (Jf (wpAny_updateDictKeys (hz:=(show es.size<=sizeLine from by refine(Jx)▸?_;refine(hp.length).symm▸?_;exact hsz)) (s:={s with toks:=s.toks+1}) ho Y (Jk (al M _ ⟨_,_,ep+1,J0 _ ho (Obj.isFreed_of_dict (RQ Y _)),
     hc.mapDictKeys _,RQ Y _,hk.push ac _,?_,?_⟩ (J2 ..))))))
    ·rw[es'];have:=hp.append ac (knd.hash k) dflt;obtain⟨l⟩:=es
     simpa using this
    ·rw[es',JF,ND];exact⟨hn,by simp,λa ha b hb q=>ah ((show a=k from q.trans (O4.mp hb))▸ha)⟩
  refine OJ Py hD.typeIs PySem.F.entry_dict_setdefault (PySem.F.args_dict_setdefault_3 _ _ _) g ⟨hD.typeIs,JB (U (P:=PV σ st s Q) (hk _ _ _ _ hb) hD (by refine((show ws.length=C.length from by have:=congrArg L6 hr.1;simpa using this)).symm▸?_;exact hz) (λv hv=>?_) λhv h' an hs=>?_) (λZ zy e=>e) λZ zy e=>e.elim⟩
  ·cases hg:b6 C k with
   |none=>have hv:=(q.2 hg)▸hv;cases hv
   |some u =>
    obtain⟨w,hw,aj⟩:=q.1 u hg;rw[hw] at hv;cases hv;have x:=bT (X:=de) i r (JC s.toks);exact⟨σ,st,x,u,aj.step r x,h.old u hg⟩
  ·cases hg:b6 C k with
   |some u=>obtain⟨w,hw,_⟩:=q.1 u hg;have hv:=hw▸hv;cases hv
   |none =>
    obtain⟨o',as,aj⟩:=Heap.dictOf_iff.mp an;have x:=dX (X:=de) (k:=s.toks+1) (o:=mk (C++[(k,dv)])) T i r hj hs (JC _) (λx=>p.of _ _ _ _ _ ⟨o',_,as,aj,rk (v:=dv) hg▸RK.set (RV.mono x r.apart _ _ hc) (hr.mono x r.apart) nd⟩) (p.gen _);exact⟨σ,_,x,dv,hc.step r x,h.new hg⟩
 have aa (l:List Nat) (n:Nat):c6 (l++[n])=c6 l++[.i (n:Int)]:=JF ..;have ae (H:List (List Nat)) (i:Nat) (l:List Nat):(nK H).set i (.list (c6 l))=nK (H.set i l):=List.map_set.symm;have ab {bs n v} (h:bs[n]?=Jh v):(fM bs).drop n=.t [.i (n:Int),v]::(fM bs).drop (n+1):=by
  have h1:(fM bs)[n]?=Jh (.t [.i (n:Int),v]):=by
   unfold fM;rw[JY,RG,h];show Jh (V.t [.i ((0+n:Nat):Int),v])=_;exact(Kf ..).symm▸rfl
  have h2:=(List.getElem?_eq_some_iff.mp h1).1;rw[KO h2,(List.getElem?_eq_some_iff.mp h1).2]
 intro k
 induction k with
 |zero =>
  intro n e C H c;have e:n=(chars xb).length:=e;rw[Lw (by refine(nW ..).symm▸?_;refine(f5 ..).symm▸?_;refine(Jt ..).symm▸?_;refine(e).symm▸?_;exact Jl _)];subst e;exact⟨trivial,hQ C H c⟩
 |succ k ih =>
  intro n e C H c;have aq:n<(chars xb).length:=by exact bJ 9 22 e
  have hx:=Jo aq;generalize (chars xb)[n]=x at hx;rw[ab (v:=.s x 0) (by refine(f5 ..).symm▸?_;refine(JY ..).symm▸?_;refine(hx ..).symm▸?_;rfl)];have S:=g.snd (F:=nZ L n₀) hA (by rfl);have app:∀(i:Nat) (l:List Nat) (C:List (Str×V)) (H:List (List Nat)),H[i]?=Jh l->l.length<sizeLine->(∀af,af=H.set i (l++[n])->zo (chars xb) (n+1) C af) ->
    bW A (nZ L n₀) [cD (cy (pJ 2)) 1] (B3 xb z++[(uh,.i (n:Int)),((⟨⟨[101,108,116]⟩⟩:Str),.s x 0),(BK,.r (i+6))]) (.ns m::.inst 242 0::G::E::D::.dict C::nK H) (Gf (B4 (cT (λZ=>True) (cZ A (nZ L n₀) (ee (pJ 2))) (bW A (nZ L n₀) (cy (pJ 2))) Q ((fM (sgn xb)).drop (n+1))) Q)):=λi l C H hl av hc=>by
   have e5:(O.ns m::.inst 242 0::G::E::D::.dict C::nK H)[i+6]?=Jh (.list (c6 l)):=by show(nK H)[i]?=_;refine(JY ..).symm▸?_;refine(hl ..).symm▸?_;rfl
   refine bP (lj rfl (by rfl) (yx rfl rfl (by decide) rfl (S.E ⟨.bi .append,.bi .append rfl (by show(_:Option O).bind DC=_;refine(e5).symm▸?_;rfl),S.Es (g5 g.top e5 (by unfold c6;refine(Jt ..).symm▸?_;exact av) ?_)⟩)));refine(aa ..)▸?_;show bW _ _ [] _ (.ns m::.inst 242 0::G::E::D::.dict C::(nK H).set i (.list (c6 (l++[n])))) _;rw[ae];exact pE ⟨B3 xb z,⟨rfl,rfl,rfl,trivial⟩,(ih (n+1) (by exact bZ 9 23 e)) C _ (hc _ rfl)⟩
  refine⟨trivial,S.As (eG (bP (S.S (J g.top dict_str rfl et ?_ ⟨λv hv=>?_,λhv=>?_⟩))))⟩
  ·have:=c.size;exact d7 10 0 e hz this
  ·obtain⟨i,rfl,hi⟩:=c.val x v hv;have e:nK H++[.list []]=nK (H++[[]]):=by refine KH ?_ (JF).symm;rfl
   show bW A (nZ L n₀) _ _ (.ns m::.inst 242 0::G::E::D::.dict C::(nK H++[.list []])) _;refine(e ..).symm▸?_;have:=nA (chars xb) x n;exact app i _ C _ (by refine(JU ((List.getElem?_eq_some_iff.mp hi).1)).trans ?_;exact hi) (by exact d7 10 1 (by assumption) hz this) λaf e=>e▸c.old hx hv hi
  ·have e:nK H++[.list []]=nK (H++[[]]):=by refine KH ?_ (JF).symm;rfl
   show bW A (nZ L n₀) _ (B3 xb z++[(uh,.i (n:Int)),((⟨⟨[101,108,116]⟩⟩:Str),.s x 0),(BK,.r ((nK H).length+6))]) (.ns m::.inst 242 0::G::E::D::.dict (C++[(x,.r ((nK H).length+6))])::(nK H++[.list []])) _;refine((show(nK H).length=n from by rw[Jt,c.len])).symm▸?_;refine(e).symm▸?_;refine app n [] _ _ (by rw[JW (JX c.len),c.len,Lz];rfl) (by exact bM 10 2 hz) λaf e=>?_;rw[e,List.set_append_right _ _ (JX c.len),c.len,Lz];exact c.new hx hv
structure jC(fj:Value)(J:Str->Bool):Prop where
 tr:∀(A:Around) st (QB:Bool->St->Prop),QB true st->wx A (.v fj) st QB
 callee:Callee (.v fj)
 call:∀(A:Around) st x t (Q:V->St->Prop),A.handled=none->A.depth+1<recursionLimit->Q (.b (J x)) st->bI A (.v fj) [.s x t] st Q
variable {H:Value}{J:Str->Bool}
noncomputable abbrev ry(xb:Str)(z:Nat)(H:Value):Lc:=B3 xb z++[(BJ,.r 6),(kN,.v H)]
theorem sD(g:Gd){L n₀ Q o kvs}{w:St}(v:jC H J)(u:A.handled=none)(d:A.depth+1<recursionLimit)(hz:kvs.length+1<scanBound)(B:∀l,(∀k,k∈l↔k∈kvs.map (·.1)/\J k=true)->l.length<=kvs.length->Q .next (ry xb z H) (.ns m::.inst 242 0::G::E::D::.dictx o kvs::.set l::w)) :
  ∀(c done:List Str),kvs.map (·.1)=done++c->∀l,(∀k,k∈l↔k∈done/\J k=true)->l.length<=done.length ->
   cT (λst=>st[5]?=Jh (.dictx o kvs)) (cZ A (nZ L n₀) (ee (cD (pj (pJ 5)) 0))) (bW A (nZ L n₀) (cy (cD (pj (pJ 5)) 0))) Q (c.map λx=>.s x 0) (ry xb z H) (.ns m::.inst 242 0::G::E::D::.dictx o kvs::.set l::w):=by
 intro c
 induction c with
 |nil =>
  intro done e l f h;rw[JO] at e;exact⟨rfl,B l (by refine(e).symm▸?_;exact f) (Jn h (by refine(e)▸?_;rw[Jt];exact Jl _))⟩
 |cons x c p =>
  intro done e l f h;have p:=p (done++[x]) (by refine(e).symm▸?_;rw[Jv];rfl);have j:done.length+(c.length+1)=kvs.length:=by
   have:=congrArg L6 e;rw[Jt,Ji,J5] at this;exact this.symm
  have i:∀k,k∈done++[x]↔k∈done∨k=x:=λk=>by rw[Oj,O4]
  have ld:(done++[x]).length=done.length+1:=Ji;have S:=g.snd (F:=nZ L n₀) u (by rfl);refine⟨rfl,S.As (eG (S.Ss ⟨v.callee,v.call _ _ _ _ _ u d (Br.mk (λr=>?_) λr=>?_)⟩))⟩
  ·refine⟨by exact ip 10 3 hz j h,ry xb z H,.of rfl,p _ (λk=>?_) ?_⟩
   ·rw[i];by_cases q:x∈l
    ·rw[if_pos q,f];exact⟨λa=>⟨.inl a.1,a.2⟩,λa=>a.1.elim (λy=>⟨y,a.2⟩) λy=>y▸(f x).mp q⟩
    ·rw[if_neg q,Oj,O4,f];exact⟨λa=>a.elim (λy=>⟨.inl y.1,y.2⟩) λy=>⟨.inr y,y▸r⟩,λa=>a.1.imp (λy=>⟨y,a.2⟩) id⟩
   ·rw[ld];by_cases q:x∈l
    ·rw[if_pos q];exact KG h
    ·rw[if_neg q,Ji];exact KW h
  ·refine⟨ry xb z H,.of rfl,p l (λk=>?_) (by rw[ld];exact KG h)⟩;rw[f,i];exact⟨λa=>⟨.inl a.1,a.2⟩,λa=>a.1.elim (λy=>⟨y,a.2⟩) λy=>by rw[y,r] at a;exact Jq a.2⟩
theorem vP(g:Gd){L n₀ Q o6 l n}(hA:A.handled=none)(U:l.Nodup)(hz:n<=sizeLine){val:Str->V}{P:Str->Prop}(hP:∀k∈l,P k)(hQ:∀f,(∀k,P k->k∉l->b6 f k=Jh (val k))->(∀k,¬(P k/\k∉l)->b6 f k=none)->f.length<=n->(∀p∈f,∃vs,p.2=.l vs)->Q .next (ry xb z H) (.ns m::.inst 242 0::G::E::D::.dict f::o6::[])) :
  ∀(u done:List Str),l=done++u->∀f,(∀k,P k->k∉done->b6 f k=Jh (val k))->(∀k,¬(P k/\k∉done)->b6 f k=none)->f.length<=n->(∀p∈f,∃vs,p.2=.l vs) ->
   cT (λst=>st[6]?=Jh o6) (cZ A (nZ L n₀) (ee (cD (pj (pJ 5)) 1))) (bW A (nZ L n₀) (cy (cD (pj (pJ 5)) 1))) Q (u.map λx=>.s x 0) (ry xb z H) (.ns m::.inst 242 0::G::E::D::.dict f::o6::[]):=by
 have C {st:St} {K:Type} [DecidableEq K] {knd:KeyKind W.prog W.w K} {mk:List (K×V)->O} {f:List (K×V)} {j:Nat} {k:K} {kv v:V} (T:bK) (c:gh knd mk) (e:st[j]?=Jh (mk f)) (hk:nf knd kv k) (hz:f.length<=sizeLine) (hs:b6 f k=Jh v) {Q:St->Prop} (h:Q (st.set j (mk (pG f k)))):Dy A (.r j) kv st Q:=by
  rintro σ s a b ⟨hj,ha⟩ hb i r;subst ha;refine Jg λzz=>?_;obtain⟨o,ws,ho,hd,hr⟩:=c.to _ _ _ _ _ (r.at_ j _ e);have hl:ws.length=f.length:=by have:=congrArg L6 hr.1;simpa using this
  have Y:s.heap.DictOf knd (σ.a j) ws:=Heap.dictOf_iff.mpr ⟨o,ho,hd⟩;obtain⟨w,hw,_⟩:=(RK.get (k:=k) hr).1 v hs;refine zz ?_;refine JD (Jf (Uk Y.typeIs (by decide) ?_));refine Jf (Kc (name:=Jj "__delitem__") Y.typeIs P7
   (OJ P7 Y.typeIs PySem.F.entry_dict_delitem (PySem.F.args_dict_delitem_2 _ _) (meets_dict_delitem_pairs knd _ (hk _ _ _ _ hb)) ⟨ws,Y,by rw[hl];exact hz,by refine(hw).symm▸?_;rfl,λh' aa hs=>?_⟩))
  refine Jg λzz=>?_;obtain⟨o',ab,ac⟩:=Heap.dictOf_iff.mp aa;refine zz ?_;exact Jk ⟨_,_,dX T i r hj hs (JC _) (λx=>c.of _ _ _ _ _ ⟨o',_,ab,ac,RK.del (hr.mono x r.apart)⟩) (c.gen _),h⟩
 have B {K} [DecidableEq K] (l:List (K×V)) (x k:K):b6 (pG l x) k=if k=x then none else b6 l k:=by
  induction l with
  |nil=>exact(ite_self none).symm
  |cons p l Z =>
   by_cases e:p.1=x
   ·have J:pG (p::l) x=pG l x:=NU (by simpa using e);rw[J,Z];by_cases q:k=x
    ·rw[if_pos q,if_pos q]
    ·rw[if_neg q,if_neg q];exact(c9 λd=>q (d.symm.trans e)).symm
   ·have J:pG (p::l) x=p::pG l x:=NT (by simpa using e);rw[J];by_cases q:p.1=k
    ·exact(eE q).trans ((if_neg λd=>e (q.trans d)).trans (eE q)).symm
    ·rw[c9 q,c9 q];exact Z
 intro u
 induction u with
 |nil =>
  intro done e f J h2 X h4;rw[JO] at e;subst e;exact⟨rfl,hQ f J h2 X h4⟩
 |cons x u Z =>
  intro done e f J h2 X h4;have ae:x∉done:=λq=>by
   rw[e,ND] at U;exact U.2.2 x q x (JJ ..) rfl
  have R:∀k,k∈done++[x]↔k∈done∨k=x:=λk=>by rw[Oj,O4]
  have M : ∀k,b6 (pG f x) k=if k=x then none else b6 f k:=λk=>B f x k;have S:=g.snd (F:=nZ L n₀) hA (by rfl);refine⟨rfl,S.As (eG (S.Ss (C g.top dict_str rfl et (Jn X hz) (J x (hP x (by refine(e).symm▸?_;exact KD _ (JJ ..))) ae) ?_)))⟩;refine⟨ry xb z H,.of rfl,(Z (done++[x]) (by refine(e).symm▸?_;rw[Jv];rfl)) _ (λk p q=>?_) (λk q=>?_) (Jn (Ou ..) X) λp hp=>h4 p (List.mem_filter.mp hp).1⟩
  ·rw[R,not_or] at q;rw[M,if_neg q.2];exact J k p q.1
  ·rw[M];by_cases d:k=x
   ·exact(if_pos d)
   ·refine(if_neg d).trans ?_;refine h2 k λy=>q ⟨y.1,?_⟩;rw[R,not_or];exact⟨y.2,d⟩
inductive Dr(j:Nat)(Q:Fl->Lc->St->Prop)(f:Fl)(lc:Lc)(st:St):Prop
 |mk (x o:O) (e:st[j]?=Jh x) (k:∀σ st s,st[j]?=Jh x->Rel σ st s->RO σ st.length s (σ.a j) o) (hg:∀g c L,o≠.gen g c L) (q:Q f lc (st.set j o))
mutual
theorem gE{A F lc st Q c}(j:Nat)(h:dN A F c lc st (Dr j Q)):dN A F c lc st Q:=λσ s p =>
 dc (h σ s p) λf s₁ r i d g a fr u ⟨x,o,e,k,w,q⟩=>by
  have v:(d.set j o).length=d.length:=MG;exact⟨r,i,_,a.trans (gS a.inv a.rel (k _ _ _ e a.rel) w).gQ,v▸fr,g,v▸u,q⟩
theorem lB{dep asg body Q l l' lc st}(e:l=l')(h:cT dep asg body Q l' lc st):cT dep asg body Q l lc st:=e▸h
theorem keys_eq(K:List (Str×V)):(K.map λp:Str×V=>V.s p.1 0)=(K.map (·.1)).map λx=>.s x 0:=by refine(J6).symm▸?_;rfl
theorem mI:dO (bV (bR 5 5)) .none [d0]:=by
 rintro⟨⟩ ws c d e h;dsimp only at c d e;subst c d e;obtain⟨a,rfl⟩:=sA h
 rfl
theorem vq(l:List Nat):g9 (c6 l):=ed (f:=λn:Nat=>V.i (n:Int)) (λZ L D c a q=>q) l
end
noncomputable def CJ(i:Nat):List (List Nat)->List (Nat×List V)
 |[]=>[]
 |l::a=>(i,c6 l)::CJ (i+1) a
mutual
theorem xH{a}:∀ {i k:Nat} {l:List Nat},a[k]?=Jh l->(CJ i a).lookup (k+i)=Jh (c6 l):=by
 induction a with
 |nil=>intro i k l h;cases h
 |cons l a c =>
  intro i k l' h;show((i,c6 l)::CJ (i+1) a).lookup _=_;refine(JS).trans ?_;cases k with
  |zero=>(refine(Kf ..).symm▸?_;rw[beq_self_eq_true]);cases h;rfl
  |succ k =>
   refine((beq_false_of_ne λq=>by exact bM 10 4 q:(k+1+i == i)=false)).symm▸?_;refine(Le ..).symm▸?_;refine(Oi 1 i).symm▸?_;exact c h
theorem CH{m st n k₀}(c:∀j∈m.js,j<n)(d:k₀<=n){a}:∀ {i:Nat},n<=i->(∀k l,a[k]?=Jh l->st[i+k]?=Jh (.list (c6 l)))->Dt m st k₀ (CJ i a):=by
 induction a with
 |nil=>intro i _ _;trivial
 |cons l a f =>
  intro i hi h;exact⟨⟨Jn d hi,λq=>absurd (c _ q) (Nat.not_lt.mpr hi),h 0 l rfl,vq l⟩,f (KG hi) λk l' e=>by have:=h (k+1) l' e;refine(this)▸?_;congr 1;exact bJ 2 0⟩
theorem CI{h a}:∀ {i:Nat},h<i->(CJ i a).lookup h=none:=by
 induction a with
 |nil=>intro i _;rfl
 |cons l a c=>intro i hi;refine(JS).trans ?_;refine(beq_false_of_ne (J1 hi)).symm▸?_;exact c (Kh hi)
end
theorem l0{js LL h i k}(hi:h<i)(e:kR h js=Jh k):V.vw ⟨js,CJ i LL⟩ (.r h)=Jh (.r k):=by
 exact(V.wB (CI hi)).trans (congrArg (KC V.r) e)
noncomputable def vV(bs:List Str)(n:Nat)(a:List (Str×V)):List (Str×V):=a.map λp=>(p.1,.l (c6 (dj bs p.1 n)))
mutual
theorem yL(bs:List Str)(n:Nat)(a:List (Str×V)):(vV bs n a).map (·.1)=a.map (·.1):=by refine(J6).trans ?_;rfl
theorem AA(bs:List Str)(n:Nat)(a:List (Str×V))(x:Str):b6 (vV bs n a) x=(b6 a x).map λZ=>.l (c6 (dj bs x n)):=by
 induction a with
 |nil=>rfl
 |cons p a c =>
  show b6 ((p.1,_)::vV bs n a) x=_;by_cases e:p.1=x
  ·subst e;exact(eE (p:=(p.1,_)) rfl).trans (congrArg (KC λZ=>V.l (c6 (dj bs p.1 n))) (eE (p:=p) (l:=a) rfl)).symm
  ·refine(c9 e ..).symm▸?_;exact(c9 (p:=(p.1,V.l (c6 (dj bs p.1 n)))) e).trans c
theorem Dm{bs n m a}(h:∀p∈a,V.vw m p.2=Jh (.l (c6 (dj bs p.1 n)))):tK m a=Jh (vV bs n a):=by
 induction a with
 |nil=>rfl
 |cons p a d=>exact a9 (h p (JJ ..)) (d λq c=>h q (JR _ c))
theorem IY:∀j∈([0,1,2,3,4,5]:List Nat),j<6:=by decide
end
noncomputable abbrev qD(H:Value)(B xb:Str)(C z:Nat)(d j p:Nat):Lc:=pP (.v H) (.s B C) (.s xb z) (.b true) .n .n .n (.r d) (.r j) (.r p)
theorem yK{bs n kvs LL H B xb C z G E D}(c:zo bs n kvs LL) :
  nc ⟨[0,1,2,3,4,5],CJ 6 LL⟩ 5 (.ns (qD H B xb C z 5 3 4)::.inst 242 0::G::E::D::.dict kvs::nK LL) [.ns (qD H B xb C z 5 3 4),.inst 242 0,.gone,.gone,.gone,.dict (vV bs n kvs)]:=by
 refine⟨Ik,.vw rfl (congrArg (KC O.ns) (a9 rfl<|a9 rfl<|a9 rfl<|a9 rfl<|a9 rfl<|a9 rfl<|a9 rfl<|a9 (l0 (by decide) rfl)<|a9 (l0 (by decide) rfl)<|a9 (l0 (by decide) rfl) rfl)) (.vw rfl rfl (.out rfl rfl (.out rfl rfl (.out rfl rfl (.vw rfl ?_ trivial))))),CH (n:=6) IY (by decide) (Jl _) λk l e=>?_,λh q Z=>pg h (Kh q)⟩
 ·refine congrArg (KC O.dict) (Dm λp f=>?_);obtain⟨i,a,d⟩:=c.val p.1 p.2 (Az c.nd f);rw[a];rw[V.AV (xH d)]
 ·rw[Oi];show(nK LL)[k]?=_;rw[JY,e];rfl
variable {B:Str}{C:Nat}{j:Addr}
mutual
theorem tg(g:Gd){G E D Q}(M:A.handled=none)(R:A.depth+2<recursionLimit)(hJ:jC (.ref j) J)(hz:(chars xb).length<200)(h:∀u l,jD (chars xb) J u->(∀k,k∈l↔k∈chars xb/\J k=true)->l.length<=(chars xb).length->Q .n [.ns (qD (.ref j) B xb C z 5 6 7),.inst 242 0,.gone,.gone,.gone,.dict u,.set l,.set []]) :
  bI A (.v (.ref 188)) [.r 1] [.ns (qD (.ref j) B xb C z 2 3 4),.inst 242 0,G,E,D] Q:=by
 have h1:200<sizeLine:=by decide
 have h2:201<scanBound:=by decide
 refine(cC (names:=[d0]) g.top (rx g) (by kernel_rfl) (by kernel_rfl) (by exact bJ 9 12 R) mI rfl (by kernel_rfl) λL=>?_).call;have S:=g.snd (A:=A.deeper (K5 (Jj "SequenceMatcher.__chain_b") (a6 (bR 5 5)) L 188 (.ref 187))) (F:=nZ L 5) (by exact M) (by rfl);refine cv 2 (S.Ss (jx dict_str ?_));show bW _ (nZ L 5) ((a5 (bR 5 5)).drop 2) (B3 xb z) (.ns (qD (.ref j) B xb C z 5 3 4)::.inst 242 0::G::E::D::.dict []::nK []) _;refine bP (jT rfl (qO g.top (by exact M) (λQ' q=>S.E (by exact q)) rfl (S.E ?_)));refine .text xb z rfl ?_;refine ru g (n₀:=11) (by exact M) (by exact bJ 9 10 hz h1) (λu LL c=>?_) (chars xb).length 0 (Kf _) [] [] ⟨rfl,.nil,λk v q=>(nomatch q),λk k' v q=>(nomatch q),λx=>⟨λZ ⟨i,q,a⟩=>absurd q (Jy _),λZ=>rfl⟩,Jl _⟩;refine lh ⟨_,.next,B3 xb z,_,yK c,rfl,AB,(.cons rfl (l0 (by decide) rfl) (.cons rfl rfl (.cons rfl (l0 (by decide) rfl) trivial))),?_⟩;refine cv 2 (S.Ss ?_);show bW _ (nZ L 5) ((a5 (bR 5 5)).drop 5) (ry xb z (.ref j)) [.ns (qD (.ref j) B xb C z 5 6 4),.inst 242 0,.gone,.gone,.gone,.dict (vV (chars xb) (chars xb).length u),.set []] _;have Kg:=AA (chars xb) (chars xb).length u;have Kk:∀x,x∈(vV (chars xb) (chars xb).length u).map (·.1)↔x∈chars xb:=λx=>by
  rw[yL];refine⟨λq=>?_,λq=>?_⟩
  ·cases e:b6 u x with
   |none=>exact absurd q (rm e)
   |some v =>
    by_cases f:x∈chars xb
    ·exact f
    ·have e:=((c.key x).mpr λ⟨i,Z,h⟩=>f (Jr h))▸e;cases e
  ·obtain⟨i,hi,e⟩:=List.mem_iff_getElem.mp q;cases e':b6 u x with
   |none=>exact absurd ⟨i,hi,by rw[Jo hi,e]⟩ ((c.key x).mp e')
   |some v=>exact LQ (yI e')
 have Kv:∀p∈vV (chars xb) (chars xb).length u,∃vs,p.2=.l vs:=λp T=>by
  obtain⟨q,_,rfl⟩:=Ra.mp T;exact⟨_,rfl⟩
 have Kl:(vV (chars xb) (chars xb).length u).length<=(chars xb).length:=by unfold vV;refine(Jt ..).symm▸?_;exact c.size
 have K1:∀k,k∈chars xb->b6 (vV (chars xb) (chars xb).length u) k=Jh (.l (c6 (dj (chars xb) k (chars xb).length))):=λk w=>by
  refine KH (Kg ..) ?_;cases e':b6 u k with
  |some v=>rfl
  |none =>
   obtain⟨i,hi,e⟩:=List.mem_iff_getElem.mp w;exact absurd ⟨i,hi,by rw[Jo hi,e]⟩ ((c.key k).mp e')
 have K2:∀k,k∉chars xb->b6 (vV (chars xb) (chars xb).length u) k=none:=λk w=>by
  refine KH (Kg ..) ?_;refine((c.key k).mpr λ⟨i,Z,h⟩=>w (Jr h)).symm▸?_;rfl
 generalize vV (chars xb) (chars xb).length u=K at *;refine cv 1 (S.Ss (hJ.tr _ _ _ (Br.mk (λZ=>?_) λq=>Jq q)));refine gE 5 (jT rfl (qN g.top (by exact M) (S.E (nY g.top dict_str rfl (.mk 5 K rfl rfl λo=>?_)))));refine lB (keys_eq K) ?_;refine sD g (n₀:=12) hJ ?_ ?_ ?_ (λl hl hn=>?_) (K.map (·.1)) [] rfl [] (λk=>⟨λq=>(nomatch q),λq=>(nomatch q.1)⟩) (Jl _)
 ·exact M
 ·show A.depth+1+1<_;assumption
 ·exact bJ 10 5 h2 hz Kl
 refine .mk (.dictx o K) (.dict K) rfl (λσ st s e r=>q8 e r) (λZ a zz q=>O.noConfusion q) ?_;have y:∀k,k∈l↔k∈chars xb/\J k=true:=λk=>by rw[hl,Kk]
 have X:l.length<=(chars xb).length:=Jn hn Kl;refine gE 6 (jT rfl (uz g.top (by exact M) (S.E ?_)));refine .mk 6 l rfl rfl (by exact bJ 10 6 h2 hz X) λY H hs T=>?_;refine vP g (n₀:=12) (l:=H) (n:=(chars xb).length) (val:=λk=>.l (c6 (dj (chars xb) k (chars xb).length))) (P:=λk=>k∈chars xb) ?_ ?_ (by exact bJ 10 7 hz h1) (λk w=>((y k).mp (T.mem_iff.mp w)).1) (λkvs2 h1 h2 h3 h4=>?_) H [] rfl K (λk w Z=>K1 k w) (λk w=>K2 k λq=>w ⟨q,(nomatch ·)⟩) Kl Kv
 ·exact M
 ·obtain⟨_,_,_,_,d⟩:=hs;exact T.nodup_iff.mpr d.nodup
 refine .mk (.fix Y) (.set l) rfl (λσ st s e r=>uB e hs r) (λZ a zz q=>O.noConfusion q) ?_;have b2:jD (chars xb) J kvs2:=by
  refine⟨λx U aa=>h1 x U λq=>?_,λx U=>h2 x λq=>U ⟨q.1,?_⟩,h4⟩
  ·have:=((y x).mp (T.mem_iff.mp q)).2;rw[aa] at this;exact Jq this
  ·cases e:J x with
   |false=>rfl
   |true=>exact absurd (T.mem_iff.mpr ((y x).mpr ⟨q.1,e⟩)) q.2
 have U:=dT xb;refine S.Ss ⟨by exact bZ 10 8 hz U (by assumption),Br.mk (λZ=>Br.mk (λq=>?_) λZ=>?_) λq=>Jq q⟩
 ·have:=of_decide_eq_true q;exact(bM 10 9 this hz U).elim
 ·exact h kvs2 l b2 y X
theorem rD(g:Gd){Q}(d:A.handled=none)(a:A.depth+2<recursionLimit)(p:jC (.ref j) J)(hz:chars xb=[])(h:Q .n [.ns (qD (.ref j) B xb C z 2 3 4),.inst 242 0,.dict [],.set [],.set []]) :
  bI A (.v (.ref 188)) [.r 1] [.ns [(kN,.v (.ref j)),(fV,.s B C),(eO,.s xb z),(lT,.b true),(jj,.n),(lX,.n),(qz,.n)],.inst 242 0] Q:=by
 have i:sgn xb=[]:=by rw[f5,hz];rfl
 have f:=dT xb;have f:=hz▸f;refine(cC (names:=[d0]) g.top (rx g) (by kernel_rfl) (by kernel_rfl) (by exact bJ 9 12 a) mI rfl (by kernel_rfl) λL=>?_).call;have S:=g.snd (A:=A.deeper (K5 (Jj "SequenceMatcher.__chain_b") (a6 (bR 5 5)) L 188 (.ref 187))) (F:=nZ L 2) (by exact d) (by rfl);refine cv 2 (S.Ss (jx dict_str ?_));show bW _ (nZ L 2) ((a5 (bR 5 5)).drop 2) [(d0,.r 1),(eO,.s xb z),(km,.r 2)] [.ns [(kN,.v (.ref j)),(fV,.s B C),(eO,.s xb z),(lT,.b true),(jj,.n),(lX,.n),(qz,.n),(km,.r 2)],.inst 242 0,.dict []] _;refine bP (jT rfl (qO g.top (by exact d) (λx q=>S.E (by exact q)) rfl (S.E ?_)));refine .text xb z rfl ?_;refine lB (l':=[]) (by refine(i).symm▸?_;rfl) ⟨trivial,?_⟩;refine cv 3 (S.Ss (p.tr _ _ _ (Br.mk (λZ=>?_) λq=>Jq q)));refine gE 2 (jT rfl (qN g.top (by exact d) (S.E (nY g.top dict_str rfl (.mk 2 [] rfl rfl λo=>?_)))));refine⟨rfl,.mk (.dictx o []) (.dict []) rfl (λσ st s e r=>q8 e r) (λZ D w q=>nomatch q) ?_⟩;refine gE 3 (jT rfl (uz g.top (by exact d) (S.E ?_)));refine .mk 3 [] rfl rfl (by decide) λc k i u=>?_;refine lB (l':=[]) (by refine(u.eq_nil).symm▸?_;rfl) ⟨rfl,?_⟩;refine .mk (.fix c) (.set []) rfl (λσ st s e r=>uB e i r) (λZ D w q=>nomatch q) ?_;show bW _ (nZ L 2) ((a5 (bR 5 5)).drop 6) [(d0,.r 1),(eO,.s xb z),(km,.r 2),(BJ,.r 3),(kN,.v (.ref j))] [.ns [(kN,.v (.ref j)),(fV,.s B C),(eO,.s xb z),(lT,.b true),(jj,.n),(lX,.n),(qz,.n),(km,.r 2),(xE,.r 3)],.inst 242 0,.dict [],.set []] _;refine S.Ss ⟨by refine(f)▸?_;exact JN _,Br.mk (λZ=>Br.mk (λq=>?_) λZ=>?_) λq=>Jq q⟩
 ·have:=of_decide_eq_true q;rw[<-f] at this;exact absurd this (by decide)
 ·exact h
end
variable {st:St}{Q:V->St->Prop}
theorem pz{a q params body scope cd dflt names vs dn dv}(T:bK)(f:FnAt a q params body scope cd dflt)(g:scope.isCoroutine=false)(d:scope.isGenerator=false)(c:A.depth<recursionLimit)(u:∀(s:Js) (ws:List Value) (fd:Mk),Inv s->fd.params=params->fd.defaults=dflt->fd.kwdefaults=.none->ws.length=names.length->Qw s fd ⟨ws,[]⟩ (names.zip ws++dn))(hd:∀(σ:Sg) n s,Inv s->RB σ n s dv dn.reverse)(w:vs.length=names.length)(v:((names++dn.map (·.1)).all λx=>jt (scope.names.lookup x))=true)(h:∀L,bW (A.deeper (K5 q scope L a cd)) ⟨K5 q scope L a cd,[],st.length⟩ body (dv++(names.zip vs).reverse) st λr Z j=>Q (sd r) j):iN A a vs st Q :=
 pA T f g d c (λσ n s ws fd i e k o p=>⟨names.zip ws++dn,u s ws fd i k o p (e.len.trans w),by rw[RT];exact(hd σ n s i).app (RB.zip e),λx y=>eC (PR.mp v _ ((Oj.mp y).elim (λq=>Lg _ (ME q).1) λq=>KD _ (LQ q)))⟩) h
mutual
theorem n9:dO (bV (bR 5 4)) .none [d0,eO]:=by
 rintro⟨⟩ ws c d e h;dsimp only at c d e;subst c d e;obtain⟨a,b,rfl⟩:=oY h
 rfl
theorem n8:dO (bV (bR 5 2)) .none [d0,fV,eO]:=by
 rintro⟨⟩ ws d e f h;dsimp only at d e f;subst d e f;refine Jg λg=>?_;obtain⟨a,b,c,rfl⟩:=zV h;refine g ?_
 rfl
end
theorem s8(g:Gd)(c:A.handled=none)(a:A.depth+3<recursionLimit)(d:jC (.ref j) J)(hz:chars xb=[])(h:Q .n [.ns (qD (.ref j) B xb C z 2 3 4),.inst 242 0,.dict [],.set [],.set []]) :
  bI A (.v (.ref 181)) [.r 1,.s xb z] [.ns [(kN,.v (.ref j)),(fV,.s B C),(eO,.n),(lT,.b true),(jj,.n),(lX,.n)],.inst 242 0] Q:=by
 refine(cC (names:=[d0,eO]) g.top (tV g) (by kernel_rfl) (by kernel_rfl) (by exact bJ 9 12 a) n9 rfl (by kernel_rfl) λL=>?_).call;refine(g.snd (by exact c) (by rfl)).Ss ?_;refine Br.mk (λq=>Jq q) λZ=>?_;exact rD g (by exact c) (by assumption) d hz h
theorem n6(g:Gd){y u bl co G E D}{E1 E2:Prop}(h:A.handled=none)(a:A.depth+3<recursionLimit)(p:jC (.ref j) J)(hz:(chars xb).length<200)(f:∀A' st (d:V->St->Prop),(E1->d (.b true) st)->(E2->d (.b false) st)->cE A' (KJ .Is) (.s xb z) (.s y u) st d)(i:E1->Q .n [.ns (pP (.v (.ref j)) (.s B C) (.s y u) (.b true) bl co .n (.r 2) (.r 3) (.r 4)),.inst 242 0,G,E,D])(o:∀c l,jD (chars xb) J c->(∀k,k∈l↔k∈chars xb/\J k=true)->l.length<=(chars xb).length->Q .n [.ns (qD (.ref j) B xb C z 5 6 7),.inst 242 0,.gone,.gone,.gone,.dict c,.set l,.set []]) :
  bI A (.v (.ref 181)) [.r 1,.s xb z] [.ns (pP (.v (.ref j)) (.s B C) (.s y u) (.b true) bl co .n (.r 2) (.r 3) (.r 4)),.inst 242 0,G,E,D] Q:=by
 refine(cC (names:=[d0,eO]) g.top (tV g) (by kernel_rfl) (by kernel_rfl) (by exact bJ 9 12 a) n9 rfl (by kernel_rfl) λL=>?_).call;refine(g.snd (by exact h) (by rfl)).Ss ?_;refine f _ _ _ (λe=>Br.mk (λZ=>?_) λq=>Jq q) λe=>Br.mk (λq=>Jq q) λZ=>?_
 ·exact i e
 ·exact tg g (by exact h) (by assumption) p hz o
theorem s7(g:Gd)(c:A.handled=none)(a:A.depth+4<recursionLimit)(d:jC (.ref j) J)(hz:chars xb=[])(h:Q .n [.ns (qD (.ref j) B xb C z 2 3 4),.inst 242 0,.dict [],.set [],.set []]) :
  bI A (.v (.ref 167)) [.r 1,.s B C,.s xb z] [.ns [(kN,.v (.ref j)),(fV,.n),(eO,.n),(lT,.b true)],.inst 242 0] Q:=by
 refine(cC (names:=[d0,fV,eO]) g.top (tU g) (by kernel_rfl) (by kernel_rfl) (by exact bJ 9 12 a) n8 rfl (by kernel_rfl) λL=>?_).call;refine(g.snd (A:=A.deeper (K5 (Jj "SequenceMatcher.set_seqs") (a6 (bR 5 2)) L 167 (.ref 166))) (F:=⟨K5 (Jj "SequenceMatcher.set_seqs") (a6 (bR 5 2)) L 167 (.ref 166),[],2⟩) (by exact c) (by rfl)).Ss (s9 g (by exact c) (by exact bM 10 10 a) ?_);exact s8 g (by exact c) (by assumption) d hz h
theorem qB(g:Gd)(u:A.handled=none)(d:A.depth+7<recursionLimit)(H:jC (.ref j) J)(h:Q (.r 1) [.ns (qD (.ref j) ⟨⟨[]⟩⟩ ⟨⟨[]⟩⟩ 404 405 2 3 4),.inst 242 0,.dict [],.set [],.set []]):bI A (.v (.ref 242)) [.v (.ref j)] [] Q:=by
 refine Jg λR=>?_;obtain⟨m,c,_⟩:=wW g;obtain⟨of,fd,F,G,h3⟩:=g.pB (c0 9 rfl) rfl ⟨_,rfl⟩;refine R ?_;refine rB c (g.m5 (by obtain⟨_,_,_,_,_,_,_,_,_,_,_,_,_,P,_⟩:=c;exact P) (Jr (i:=21) (by kernel_rfl))) F G ?_;refine(pz (A:=made A) (names:=[d0,kN]) (dn:=[(fV,.str ⟨⟨[]⟩⟩ 404),(eO,.str ⟨⟨[]⟩⟩ 405),(lT,.bool true)]) (dv:=[(lT,.b true),(eO,.s ⟨⟨[]⟩⟩ 405),(fV,.s ⟨⟨[]⟩⟩ 404)]) g.top (Ae g) (by kernel_rfl) (by kernel_rfl) (by exact bM 10 11 d) (λs ws fd i e k p M=>?_) (λσ n s i=>?_) rfl (by kernel_rfl) λL=>?_).call
 ·obtain⟨fn,fq,Y,S,fs,U,T,D,X,C,E,x,z,B,y⟩:=fd;dsimp only at e k p;subst e k p;obtain⟨a,b,rfl⟩:=oY M;exact .of_defaults rfl (i.old.get_of_cls (g.fields (o:=BA) (c0 7 rfl) (λf q=>Km q)) (λq=>JT q)) rfl (by rfl) (by rfl)
 ·have w:798<=s.toks:=by have:=i.tk;rw[g.t1] at this;exact this
  exact⟨_,_,rfl,rfl,_,_,rfl,⟨405,rfl,λZ=>⟨rfl,Jp (by decide) w⟩⟩,_,_,rfl,⟨404,rfl,λZ=>⟨rfl,Jp (by decide) w⟩⟩,rfl⟩
 ·refine(g.snd (by exact u) (by rfl)).Ss ?_;refine s7 g (by exact u) (by exact bM 10 12 d) H rfl ?_;exact⟨rfl,h⟩
end
noncomputable abbrev dz:=Str×Nat×Nat×Nat×Nat
noncomputable def ct(i j a c:Nat):List dz :=
 if i<a/\j<c then [(nH,i,a,j,c)] else if i<a then [(nG,i,a,j,c)] else if j<c then [(qy,i,a,j,c)] else []
noncomputable def dG(st:(Nat×Nat)×List dz)(b:Nat×Nat×Nat):(Nat×Nat)×List dz :=
 ((b.1+b.2.2,b.2.1+b.2.2),st.2++ct st.1.1 st.1.2 b.1 b.2.1++(if b.2.2=0 then [] else [(lS,b.1,b.1+b.2.2,b.2.1,b.2.1+b.2.2)]))
noncomputable def dh(a:List (Nat×Nat×Nat)):List dz:=(a.foldl dG ((0,0),[])).2
noncomputable def c5(c:dz):V:=.t [.s c.1 0,.i (c.2.1:Int),.i (c.2.2.1:Int),.i (c.2.2.2.1:Int),.i (c.2.2.2.2:Int)]
noncomputable def qX(L:Addr)(n:Nat):cU:=⟨K5 (Jj "SequenceMatcher.get_opcodes") (a6 (bR 5 8)) L 210 (.ref 209),[],n⟩
noncomputable def qW(i:Nat):Stmt:=cD (a5 (bR 5 8)) i
noncomputable abbrev vK(i j:Nat):Lc:=[(d0,.r 1),(uh,.i i),((⟨⟨[106]⟩⟩:Str),.i j),((⟨⟨[97,110,115,119,101,114]⟩⟩:Str),.r 5)]
theorem Ah(i j a c:Nat):(ct i j a c).length<=1:=by
 unfold ct
 split
 ·exact Jl _
 split
 ·exact Jl _
 split
 ·exact Jl _
 ·exact JN _
section
variable {A:Around}{k f:Str}{u r:Nat}{l v:List Str}{d:List (Str×V)}{w:Value}
theorem vJ(g:Gd){Q L n bs bl}(hA:A.handled=none)(hz:2*bs.length+2<=sizeLine)(hQ:∀i j,Q .next (vK i j) (lG w bl (.r 5) k f u r d l v (.list ((dh bs).map c5)) [])) :
  ∀(x done:List (Nat×Nat×Nat)),bs=done++x->∀D (C:Nat×Nat),(C,D)=done.foldl dG ((0,0),[])->D.length<=2*done.length ->
   cT (λZ=>True) (cZ A (qX L n) (ee (qW 4))) (bW A (qX L n) (cy (qW 4))) Q (x.map m3) (vK C.1 C.2) (lG w bl (.r 5) k f u r d l v (.list (D.map c5)) []):=by
 refine Jg λzz=>?_;obtain⟨mM,cM,_,_,_,Y⟩:=gX g;refine zz ?_;intro x
 induction x with
 |nil =>
  intro done e D C P M;rw[JO] at e;subst e;have:D=dh bs:=by unfold dh;exact(P)▸rfl
  subst this;exact⟨trivial,hQ _ _⟩
 |cons z x R =>
  intro done e D C P M;obtain⟨y,B,sz⟩:=z;obtain⟨i,j⟩:=C;have R:=R (done++[(y,B,sz)]) (by refine(e).symm▸?_;rw[Jv];rfl);have G:done.length+(x.length+1)=bs.length:=by rw[e,Ji];rfl
  have hd:(done++[(y,B,sz)]).length=done.length+1:=Ji ..;have S:=g.snd (F:=qX L n) hA (by rfl);have X:=Ah i j y B;have T:∀tag o,o=O.list ((D++ct i j y B).map c5)->bW A (qX L n) ((cy (qW 4)).drop 3) (vK i j++[((⟨⟨[97,105]⟩⟩:Str),.i y),((⟨⟨[98,106]⟩⟩:Str),.i B),(ug,.i sz),((⟨⟨[116,97,103]⟩⟩:Str),tag)]) (lG w bl (.r 5) k f u r d l v o []) (Gf (B4 (cT (λZ=>True) (cZ A (qX L n) (ee (qW 4))) (bW A (qX L n) (cy (qW 4))) Q (x.map m3)) Q)):=λtag o eo=>by
   subst eo;refine S.Ss (Br.mk (λh=>?_) λh=>?_)
   ·have aa:¬sz=0:=λe=>by subst e;exact Jq h
    refine⟨by rw[Jt,Ji];exact ip 10 13 hz G M X,vK (y+sz) (B+sz),⟨rfl,rfl,rfl,rfl,trivial⟩,?_⟩;have:=R (D++ct i j y B++[(lS,y,y+sz,B,B+sz)]) (y+sz,B+sz) (by rw[Pn,<-P];unfold QG QG dG;rw[if_neg aa]) (by rw[Ji,Ji,hd];exact bZ 10 14 M X);rw[JF] at this;exact this
   ·have h0:sz=0:=by
     have:=of_decide_eq_false (p:=(sz:Int)≠0) (by simpa using h);exact dy 9 6 this
    refine⟨vK (y+sz) (B+sz),⟨rfl,rfl,rfl,rfl,trivial⟩,?_⟩;exact R (D++ct i j y B) (y+sz,B+sz) (by rw[Pn,<-P];unfold QG QG dG;rw[if_pos h0,JO]) (by rw[Ji,hd];exact bZ 10 15 M X)
  refine⟨trivial,eS rfl (rT cM Y hA) rfl (S.Av (eG (cv 3 (S.Ss ?_))))⟩;have lt:∀ {a b:Nat},decide ((a:Int)<(b:Int))=true->a<b:=λh=>Int.ofNat_lt.mp (of_decide_eq_true h);have J:∀ {a b:Nat},decide ((a:Int)<(b:Int))=false->¬a<b:=λh q=>of_decide_eq_false h (Int.ofNat_lt.mpr q);have U:∀c,ct i j y B=[c]->O.list (D.map c5++[c5 c])=O.list ((D++ct i j y B).map c5):=λc h=>by rw[h,JF];rfl
  have zc:(D.map c5).length<sizeLine:=by rw[Jt];exact d7 10 16 hz G M
  refine Br.mk (λE=>Br.mk (λH=>?_) λH=>?_) λE=>?_
  ·exact⟨by decide,Br.mk (λZ=>⟨zc,T _ _ (U (nH,i,y,j,B) (if_pos ⟨lt E,lt H⟩))⟩) λq=>Jq q⟩
  ·refine Br.mk (λZ=>⟨by decide,Br.mk (λZ=>⟨zc,T _ _ (U (nG,i,y,j,B) ?_)⟩) λq=>Jq q⟩) λq=>Jq (q.symm.trans E);unfold ct;rw[if_neg λq=>J H q.2,if_pos (lt E)]
  ·refine Br.mk (λq=>Jq (E.symm.trans q)) λZ=>Br.mk (λH=>⟨by decide,Br.mk (λZ=>⟨zc,T _ _ (U (qy,i,y,j,B) ?_)⟩) λq=>Jq q⟩) λH=>⟨by decide,Br.mk (λq=>Jq q) λZ=>T _ _ ?_⟩
   ·unfold ct;rw[if_neg λq=>J E q.1,if_neg (J E),if_pos (lt H)]
   ·unfold ct;rw[if_neg λq=>J E q.1,if_neg (J E),if_neg (J H),JO]
end
mutual
theorem rE:dO (bV (bR 5 8)) .none [d0]:=by
 rintro⟨⟩ ws c d e h;dsimp only at c d e;subst c d e;obtain⟨a,rfl⟩:=sA h
 rfl
theorem zK(l:List dz):g9 (l.map c5):=ed (f:=c5) (λZ L D c a q=>q) l
theorem IX:([0,1,2,3,4]:List Nat).Nodup:=by decide
theorem IW:5∉([0,1,2,3,4]:List Nat):=by decide
theorem E8:∀h,h<5->([0,1,2,3,4]:List Nat)[h]?=Jh h:=by decide
theorem IZ:tF (.r 5) (.list []):=⟨λm a c=>(V.wB a).trans (by rw[c];rfl),λZ=>rfl,λu h=>congrArg V.r h,λZ=>rfl⟩
end
noncomputable abbrev uY(e:Value)(c d:V)(i j:Str)(g h:Nat)(a:List (Str×V))(l f:List Str):St:=[.ns (pP (.v e) (.s i g) (.s j h) (.b true) c d .n (.r 2) (.r 3) (.r 4)),.inst 242 0,.dict a,.set l,.set f]
section
variable {A:Around}{c a:Str}{e d:Nat}{J:Str->Bool}{l f:List Str}{g:List (Str×V)}{h:Value}{Q:V->St->Prop}
end
noncomputable def b9:Str:=⟨⟨[32,9]⟩⟩
theorem nQ(c:Nat):cc b9 ⟨#[c]⟩=(c == 32 || c == 9):=by
 delta b9 cc PS;have d (a:Nat):((#[a]:Array Nat) == #[c])=(c == a):=by
  rw[LM,beq_iff_eq,beq_iff_eq];exact⟨λh=>(KP (congrArg Ui h)).1.symm,λh=>by exact(h).symm▸rfl⟩
 have e:Nf ⟨#[32,9]⟩ ⟨#[c]⟩ 0=(c == 32):=d 32;have f:Nf ⟨#[32,9]⟩ ⟨#[c]⟩ 1=(c == 9):=d 9;have o:(⟨#[32,9]⟩:Str).length=2:=rfl;have p:(⟨#[c]⟩:Str).length=1:=rfl;have j:OC 0 3=[0,1,2]:=rfl;simp only[o,p,TB,TA,PC,Nat.reduceAdd,Nat.div_one,j];have g:Nf ⟨#[32,9]⟩ ⟨#[c]⟩=λi=>Nat.rec (c == 32) (λk Z=>Nat.rec (c == 9) (λm Z=>Nf ⟨#[32,9]⟩ ⟨#[c]⟩ (m+2)) k) i:=funext λi=>by
  cases i with
  |zero=>exact e
  |succ k=>cases k with
   |zero=>exact f
   |succ m=>rfl
 rw[g];cases c == 32 <;> cases c == 9 <;> rfl
section
mutual
theorem ux(g:Gd):jC (.ref 325) (cc b9):=by
 have e:FnAt 325 (Jj "IS_CHARACTER_JUNK") (bV (a7 8)) (a5 (a7 8)) (a6 (a7 8)) (.ref 324) (.ref 318) :=
  g.fn (oc:=Bg) (c0 37 rfl) (by kernel_rfl) (c0 36 rfl) rfl ⟨_,_,rfl,rfl⟩ (by kernel_rfl) (by kernel_rfl)
 have z:=g.pB (c0 37 rfl) rfl ⟨_,rfl⟩;refine⟨λA st QB h=>?_,z.callee,λA st x t Q R k h=>?_⟩
 ·obtain⟨o,fd,M,P,h3⟩:=z;have j {a} (T:W.h₁.get? a=Jh o) (hc:o.cls=.type "function"):wx A (.v (.ref a)) st QB :=
   have c:J9 (.type "function") (Jj "__bool__")=pure none:=by rw[J4,JM];kernel_rfl
   have d:J9 (.type "function") (Jj "__len__")=pure none:=by rw[J4,JM];kernel_rfl
   λσ s w hw i r=>by
   subst hw;have B:s.TypeIs (.ref a) "function":=⟨o,i.old.get_of_cls T (by refine(hc).symm▸?_;exact λq=>JT q),hc⟩
   refine Jf (wpAny_callSpecial?_none B c ?_);refine Jf (LP B d ?_);exact Jk ⟨σ,st,.refl i r,h⟩
  exact j M P
 ·refine(pz (names:=[(⟨⟨[99,104]⟩⟩:Str)]) (dn:=[((⟨⟨[119,115]⟩⟩:Str),.str b9 744)]) (dv:=[((⟨⟨[119,115]⟩⟩:Str),.s b9 0)]) g.top (e) (by kernel_rfl) (by kernel_rfl) (by exact bJ 9 12 k) (λs ws fd i p u y S=>?_) (λσ n s i=>?_) rfl (by kernel_rfl) λL=>?_).call
  ·obtain⟨fn,fq,fp,U,fs,Y,X,H,Z,G,J,C,E,F,D⟩:=fd;dsimp only at p u y;subst p u y;obtain⟨a,rfl⟩:=sA S;exact .of_defaults rfl (i.old.get_of_cls (g.fields (o:=Bh) (c0 35 rfl) (λf q=>Km q)) (λq=>JT q)) rfl (by rfl) (by rfl)
  ·exact⟨_,_,rfl,⟨744,rfl,λq=>absurd rfl q⟩,rfl⟩
  ·exact(g.snd (by exact R) (by rfl)).Ss h
theorem yX{u os st}:∀k,om u [] os k st=st:=by
 induction st with
 |nil=>intro k;rfl
 |cons o st a=>intro k;exact congrArg (o:: ·) (a (k+1))
theorem v5{A Q Q' f vs st}(h:bI A f vs st Q)(k:∀v st,Q v st->Q' v st):bI A f vs st Q':=λσ s w ws hw a i r =>
 bH (h σ s w ws hw a i r) λw s₁ d c v x e q=>⟨_,_,x,_,e,k _ _ q⟩
end
theorem fz{A Q f vs st}(c:V.vw ⟨[],[]⟩ f=Jh f)(a:V.rP ⟨[],[]⟩ vs=Jh vs)(h:bI A f vs [] λv os=>Q (v.up (ja [] 0 st.length)) (st++os.map (O.up (ja [] 0 st.length)))):bI A f vs st Q :=
 gH (st₂:=[]) ⟨[],[]⟩ rfl ⟨.nil,trivial,trivial,λh q Z=>absurd q (Jy _)⟩ c a (v5 h λv os q=>⟨_,_,rfl,by unfold eH;rw[yX];rfl,q⟩)
noncomputable def c7(a b:Nat):Str:=if b=32/\NI ⟨#[a]⟩=true then⟨#[a]⟩ else⟨#[b]⟩
noncomputable def kept(x y:Str):Str:=Pw ⟨⟨[]⟩⟩ (cF c7 x y)
mutual
theorem sign_eq(a b:Nat):((⟨#[a]⟩:Str) == ⟨⟨[b]⟩⟩)=decide (a=b):=by
 rw[LM,beq_iff_eq,decide_eq_true_iff];exact⟨λe=>(KP (congrArg (λx:Str=>x.cps.toList) e)).1,λe=>e▸rfl⟩
theorem wa:dO (bV (a7 6)) .none [(⟨⟨[115]⟩⟩:Str),BI]:=by
 rintro⟨⟩ ws c d e h;dsimp only at c d e;subst c d e;obtain⟨a,b,rfl⟩:=oY h
 rfl
theorem Ab(g:Gd):FnAt 253 (Jj "_keep_original_ws") (bV (a7 6)) (a5 (a7 6)) (a6 (a7 6)) (.ref 252) (.none) :=
 g.fn (oc:=t9) (c0 28 rfl) (by kernel_rfl) (c0 27 rfl) rfl ⟨_,_,rfl,rfl⟩ (by kernel_rfl) (by kernel_rfl)
end
variable {A:Around}{Q:V->St->Prop}
theorem x7(g:Gd){x y t u}(G:A.handled=none)(d:A.depth+1<recursionLimit)(X:x.length<=sizeLine)(B:Rw ⟨⟨[]⟩⟩ (cF c7 x y)=true)(h:Q (.s (kept x y) 0) []):bI A (.v (.ref 253)) [.s x t,.s y u] [] Q:=by
 refine(cC (names:=[(⟨⟨[115]⟩⟩:Str),BI]) g.top (Ab g) (by kernel_rfl) (by kernel_rfl) (by exact bJ 9 12 d) wa rfl (by kernel_rfl) λL=>?_).call;have S:=g.snd (A:=A.deeper (K5 (Jj "_keep_original_ws") (a6 (a7 6)) L 253 (.ref 252))) (F:=⟨K5 (Jj "_keep_original_ws") (a6 (a7 6)) L 253 (.ref 252),[],0⟩) (by exact G) (by rfl);refine cv 1 (S.Ss ?_);refine bP (jS (rj c7 (c:=252) (P:=248) g.top (by exact G) (by exact d) rfl g.tabs ?_ (by decide) rfl rfl ?_ rfl rfl rfl (by decide) rfl rfl rfl ?_ (S.E ⟨rfl,rfl⟩) (S.Es ⟨rfl,.mk x y t u ⟨X,B,h⟩⟩)))
 ·exact⟨#[],⟨_,_,g.fields (o:=t9) (c0 27 rfl) (λf q=>Km q),rfl,rfl,rfl⟩,g.fields (o:=xt) (c0 26 rfl) (λf q=>Km q)⟩
 ·decide
 ·intro A' E' w R Y M j J C code bi U p H z;refine wpAny_IfExp (Tw (OI (SD (Ng (Lr rfl rfl p z (PW (eq_str (NZ ?_)))) rfl) rfl)));have kp:∀k,Keeps j {j with toks:=k}:=λk=>⟨j.heap,k,rfl,λZ D e=>e⟩
  rw[sign_eq];by_cases hc:R=32
  ·rw[decide_eq_true hc,if_pos rfl];refine OI (isTrue_plain (Un (T:="str") rfl rfl rfl KX Ny Qm (Ng (Lr rfl rfl p H ⟨NN _ _ _,λa e=>(nomatch e),callWith_method0 (T3 Ny (NN _ _ _) PySem.F.entry_str_isspace (PySem.F.args_str_isspace_1 _) (gives_str_isspace _ _).meets (NZ ?_))⟩) rfl)) rfl);cases r:NI ⟨#[w]⟩ with
   |false =>
    show(if NI ⟨#[w]⟩=true then _ else _);rw[r,if_neg (by decide),if_neg (by decide)];exact Ng (Lr rfl rfl p z ⟨⟨M,by unfold c7;rw[if_neg (λq=>by rw[r] at q;exact Jq q.2)]⟩,kp _⟩) rfl
   |true =>
    show(if NI ⟨#[w]⟩=true then _ else _);rw[r,if_pos rfl];refine SF ?_;rw[if_pos rfl];exact Ng (Lr rfl rfl p H ⟨⟨Y,by unfold c7;rw[if_pos ⟨hc,r⟩]⟩,kp _⟩) rfl
  ·rw[decide_eq_false hc,if_neg (by decide),if_neg (by decide)];exact Ng (Lr rfl rfl p z ⟨⟨M,by unfold c7;rw[if_neg (λq=>hc q.1)]⟩,kp _⟩) rfl
theorem uw(g:Gd){st x y t u}(d:A.handled=none)(a:A.depth+1<recursionLimit)(e:x.length<=sizeLine)(c:Rw ⟨⟨[]⟩⟩ (cF c7 x y)=true)(h:Q (.s (kept x y) 0) st):bI A (.v (.ref 253)) [.s x t,.s y u] st Q :=
 fz rfl rfl (x7 g d a e c (by rw[Np,JO];exact h))
noncomputable def marks(x t:Str):Str:=QK (kept x t)
noncomputable def below(m:Str):List Str:=if m.length=0 then [] else [ji++m++⟨⟨[10]⟩⟩]
noncomputable def kg(a b c d:Str):List Str:=(lW++a)::(below (marks a c)++(lV++b)::below (marks b d))
structure FX(x t:Str):Prop where
 l:x.length+4<=sizeLine
 ok:Rw ⟨⟨[]⟩⟩ (cF c7 x t)=true
 k:(kept x t).length<=sizeLine
 m:(marks x t).length+4<=sizeLine
mutual
theorem oh{m}(h:(m.length != 0)=false):below m=[]:=if_pos (bne_eq_false_iff_eq.mp h)
theorem og{m}(h:(m.length != 0)=true):below m=[ji++m++⟨⟨[10]⟩⟩]:=if_neg (bne_iff_ne.mp h)
theorem xQ{a:Str}(h:a.length+4<=sizeLine):2+a.length<=sizeLine:=by exact bM 10 20 h
end
noncomputable abbrev A5(a b f g:Str)(c d e kd:Nat):Lc:=[(xD,.s a c),(xC,.s b d),(xB,.s f e),(xA,.s g kd)]
noncomputable abbrev A6(L:Addr):cU:=⟨K5 (Jj "Differ._qformat") (a6 (bR 7 7)) L 310 (.ref 309),[],0⟩
mutual
theorem D7(g:Gd):FnAt 310 (Jj "Differ._qformat") (bV (bR 7 7)) (a5 (bR 7 7)) (a6 (bR 7 7)) (.ref 309) (.none) :=
 g.fn (oc:=Bk) (c0 33 rfl) (by kernel_rfl) (c0 32 rfl) rfl ⟨_,_,rfl,rfl⟩ (by kernel_rfl) (by kernel_rfl)
theorem xd{m:Str}(h:m.length+4<=sizeLine):(OQ++ji).length+m.length<=sizeLine:=by
 rw[Nm];exact bM 10 21 h
theorem r9{m}(h:m.length+4<=sizeLine):(OQ++ji++m).length+1<=sizeLine:=by
 rw[Nm,Nm];exact bM 10 22 h
end
mutual
theorem xc{m}(h:m.length+4<=sizeLine):(OQ++ji++m++⟨⟨[10]⟩⟩).length<=sizeLine:=(Nm _ _).symm▸r9 h
theorem C9{G Hd c fs c' lc st ys ys' Q}(e:ys=ys')(h:AQ G Hd c fs c' lc st ys' Q):AQ G Hd c fs c' lc st ys Q:=e▸h
end
mutual
theorem CA(g:Gd){G L c a b ta tb ka kb kc kd rest Q}(ok:G.Ok)(d:(G.A.over c []).handled=none)(f:G.F=A6 L)(hz:ta.length+4<=sizeLine)(h:Q .next (A5 a b ta tb ka kb kc kd) [] rest):AQ G ⟨[],[]⟩ c [] (cD (a5 (bR 7 7)) 4) (A5 a b ta tb ka kb kc kd) [] (below ta++rest) Q:=by
 obtain⟨i,j,N,k,X,o,ys⟩:=G;dsimp only at f d;subst f;have S:=g.snd (A:=i.over c []) (F:=A6 L) d (by rfl);refine sP ok (S.T ⟨LB hz,Br.mk (λe=>?_) λe=>?_⟩)
 ·refine(og e).symm▸?_;exact cm (gb ok (y:=ji++ta++⟨⟨[10]⟩⟩) rfl rfl rfl rfl rfl (uD (S.E ⟨by decide,yz (S.E ⟨LB hz,xd hz,S.E ⟨r9 hz,xc hz,rfl,dF h⟩⟩)⟩)))
 ·refine(oh e).symm▸?_;exact dF h
theorem Cz(g:Gd){G L c a b ta tb ka kb kc kd rest Q}(ok:G.Ok)(d:(G.A.over c []).handled=none)(f:G.F=A6 L)(hz:tb.length+4<=sizeLine)(h:Q .next (A5 a b ta tb ka kb kc kd) [] rest):AQ G ⟨[],[]⟩ c [] (cD (a5 (bR 7 7)) 6) (A5 a b ta tb ka kb kc kd) [] (below tb++rest) Q:=by
 obtain⟨i,j,N,k,X,o,ys⟩:=G;dsimp only at f d;subst f;have S:=g.snd (A:=i.over c []) (F:=A6 L) d (by rfl);refine sP ok (S.T ⟨LB hz,Br.mk (λe=>?_) λe=>?_⟩)
 ·refine(og e).symm▸?_;exact cm (gb ok (y:=ji++tb++⟨⟨[10]⟩⟩) rfl rfl rfl rfl rfl (uD (S.E ⟨by decide,yz (S.E ⟨LB hz,xd hz,S.E ⟨r9 hz,xc hz,rfl,dF h⟩⟩)⟩)))
 ·refine(oh e).symm▸?_;exact dF h
end
theorem vn(g:Gd){a b ta tb L ka kb kc kd}(f:A.handled=none)(c:A.depth+3<recursionLimit)(d:FX a ta)(e:FX b tb) :
  pM A (.func (a5 (bR 7 7)) (K5 (Jj "Differ._qformat") (a6 (bR 7 7)) L 310 (.ref 309))) (A6 L) (A5 a b ta tb ka kb kc kd) (kg a b ta tb):=by
 refine kA λG h j o ok=>?_;obtain⟨p,r,N,u,X,v,ys⟩:=G;dsimp only at h j o;subst h j o;have S:=g.snd (A:=p.over (.func (a5 (bR 7 7)) (K5 (Jj "Differ._qformat") (a6 (bR 7 7)) L 310 (.ref 309))) []) (F:=A6 L) (by exact f) (by rfl);have q:p.depth+1+1<recursionLimit:=by exact bM 10 23 c
 refine cm (eQ ok (S.S ?_));refine cm (eQ ok (S.S ⟨(g.pB (c0 28 rfl) rfl ⟨_,rfl⟩).callee,uw g (by exact f) q (LB d.l) d.ok (kC d.k ?_)⟩));refine cm (eQ ok (S.S ⟨(g.pB (c0 28 rfl) rfl ⟨_,rfl⟩).callee,uw g (by exact f) q (LB e.l) e.ok (kC e.k ?_)⟩));refine cm (gb ok (y:=lW++a) rfl rfl rfl rfl rfl (S.E ⟨xQ d.l,rfl,?_⟩));refine cm (CA g ok (by exact f) rfl d.m ?_);refine cm (gb ok (y:=lV++b) rfl rfl rfl rfl rfl (S.E ⟨xQ e.l,rfl,?_⟩));exact cm (C9 (JO _).symm (Cz g ok (by exact f) rfl e.m (dF ⟨rfl,.inl rfl⟩)))
mutual
theorem sU(g:Gd):FnAt 268 (Jj "Differ.__init__") (bV (bR 7 1)) (a5 (bR 7 1)) (a6 (bR 7 1)) (.ref 267) (.ref 261) :=
 g.fn (oc:=Bl) (c0 31 rfl) (by kernel_rfl) (c0 30 rfl) rfl ⟨_,_,rfl,rfl⟩ (by kernel_rfl) (by kernel_rfl)
theorem AE:dO (bV (bR 7 7)) .none [d0,xD,xC,xB,xA]:=by
 rintro⟨⟩ ws f g i h;dsimp only at f g i;subst f g i;refine Jg λj=>?_;obtain⟨a,b,c,d,e,rfl⟩:=ER h;refine j ?_
 rfl
end
noncomputable abbrev Ie(L:Addr):Code:=.func (a5 (bR 7 7)) (K5 (Jj "Differ._qformat") (a6 (bR 7 7)) L 310 (.ref 309))
theorem CB:uO A6:=⟨λZ=>rfl,λZ=>rfl,λZ=>by kernel_rfl,λZ=>rfl,λZ=>rfl⟩
variable {st:St}
theorem qC(g:Gd){v1 v2}(F:A.handled=none)(d:A.depth+2<recursionLimit)(h:Q (.r 1) [.ns [(uj,.v v1),(ui,.v v2)],.inst 313 0]):bI A (.v (.ref 313)) [.v v1,.v v2] [] Q:=by
 refine Jg λe=>?_;obtain⟨m,c,_⟩:=yD g;obtain⟨of,fd,D,E,X⟩:=g.pB (c0 31 rfl) rfl ⟨_,rfl⟩;refine e ?_;refine rB c (g.m5 (by obtain⟨_,_,_,_,_,_,_,_,_,_,_,_,_,H,_⟩:=c;exact H) (Jr (i:=42) (by kernel_rfl))) D E ?_;refine(pz (A:=made A) (names:=[d0,uj,ui]) (dn:=[]) (dv:=[]) g.top (sU g) (by kernel_rfl) (by kernel_rfl) (by exact bM 11 0 d) (λs ws fd i j k p G=>?_) (λσ n s i=>rfl) rfl (by kernel_rfl) λL=>?_).call
 ·obtain⟨fn,T,S,J,U,P,M,B,R,z,C,u,x,y,w⟩:=fd;dsimp only at j k p;subst j k p;refine Jg λe=>?_;obtain⟨a,b,c,rfl⟩:=zV G;refine e ?_;exact .of_defaults rfl (i.old.get_of_cls (g.fields (o:=Bn) (c0 29 rfl) (λf q=>Km q)) (λq=>JT q)) rfl (by rfl) (by rfl)
 ·refine(g.snd (by exact F) (by rfl)).Ss ?_;exact⟨rfl,h⟩
mutual
theorem sq(g:Gd){v1 v2}(c:A.handled=none)(a:A.depth+2<recursionLimit)(h:Q (.r (st.length+1)) (st++[.ns [(uj,.v v1),(ui,.v v2)],.inst 313 st.length])):bI A (.v (.ref 313)) [.v v1,.v v2] st Q :=
 fz rfl rfl (qC g c a h)
theorem AD(g:Gd){self a b ta tb ka kb kc kd}(d:A.depth<recursionLimit)(h:∀e,(∀(j:Nat) c L,st[j]?≠Jh (.gen e c L))->Q (.r (st.length+1)) ((st++[.frm (A5 a b ta tb ka kb kc kd)])++[.gen e Ie st.length])) :
  bI A (.v (.ref 310)) [self,.s a ka,.s b kb,.s ta kc,.s tb kd] st Q :=
 yn (lc:=A5 a b ta tb ka kb kc kd) (names:=[d0,xD,xC,xB,xA]) g.top (D7 g) (by kernel_rfl) (by kernel_rfl) d AE rfl (by kernel_rfl) ⟨rfl,rfl,rfl,rfl,trivial⟩ h
end
theorem oj(m:Str):(below m).length<=1:=by unfold below;split <;> simp
theorem tc(g:Gd){a b ta tb ka kb kc kd gn}(f:A.handled=none)(d:A.depth+6<recursionLimit)(i:FX a ta)(k:FX b tb)(e:∀(j:Nat) c L,st[j]?≠Jh (.gen gn c L))(h:Q (.r (st.length+2)) (st++[.gone,.gone,.list (bQ (kg a b ta tb))])) :
  bI A (.g .list) [.r (st.length+1)] ((st++[.frm (A5 a b ta tb ka kb kc kd)])++[.gen gn Ie st.length]) Q:=by
 refine call_list_gen (FF:=A6) g.top f (by exact bJ 9 12 d) CB e rfl ?_ (λL=>vn g f (by exact bM 11 1 d) i k) h;unfold kg;rw[J5,Ji,J5];have:4<=sizeLine:=by decide
 exact bJ 11 2 this (oj (marks a ta)) (oj (marks b tb))
noncomputable def vE(tag:Str)(x:Str):Bool:=[(⟨⟨[32,32]⟩⟩:Str),tag].any (· == Lo x none (Jh 2))
noncomputable def restOf(tag:Str)(ds:List Str):List Str:=(ds.filter (vE tag)).map λx=>Lo x (Jh 2) none
mutual
theorem vh{tag}{ds:List Str}{k x}(h:ds[k]?=Jh x):restOf tag (ds.drop k)=if vE tag x=true then Lo x (Jh 2) none::restOf tag (ds.drop (k+1)) else restOf tag (ds.drop (k+1)):=by
 obtain⟨a,rfl⟩:=List.getElem?_eq_some_iff.mp h;unfold restOf;rw[KO a,PO]
 split <;> rfl
theorem se(g:Gd):FnAt 332 (Jj "restore") (bV (a7 9)) (a5 (a7 9)) (a6 (a7 9)) (.ref 331) (.none) :=
 g.fn (oc:=Bf) (c0 39 rfl) (by kernel_rfl) (c0 38 rfl) rfl ⟨_,_,rfl,rfl⟩ (by kernel_rfl) (by kernel_rfl)
end
noncomputable abbrev lP(L:Addr):cU:=⟨K5 (Jj "restore") (a6 (a7 9)) L 332 (.ref 331),[],0⟩
noncomputable abbrev qk(L:Addr):Code:=.func (a5 (a7 9)) (K5 (Jj "restore") (a6 (a7 9)) L 332 (.ref 331))
mutual
theorem v9:dO (bV (a7 9)) .none [qx,xy]:=by
 rintro⟨⟩ ws c d e h;dsimp only at c d e;subst c d e;obtain⟨a,b,rfl⟩:=oY h
 rfl
theorem xj:uO lP:=⟨λZ=>rfl,λZ=>rfl,λZ=>by kernel_rfl,λZ=>rfl,λZ=>rfl⟩
end
noncomputable abbrev ny(ds:List Str)(n:Int):Lc:=[(qx,.l (bQ ds)),(xy,.i n)]
noncomputable def gL(n:Int):Str:=if n=1 then lW else lV
theorem qj(g:Gd){n ds L Q}(a:A.handled=none)(d:n=1∨n=2)(h:∀o,Q .next (ny ds n++[((⟨⟨[116,97,103]⟩⟩:Str),.s (gL n) 0)]) [o]):∀ {F:cU} {c:Stmt},F=lP L->c=cD (a5 (a7 9)) 1->dN A F c (ny ds n) [] Q:=by
 rintro F c rfl rfl;have S:=g.snd (F:=lP L) a (by rfl);refine Dc ?_;refine S.Ss ?_;refine uE (knd:=Ut W.prog W.w) (mk:=.dicti) (l:=[(1,.s lW 0),(2,.s lV 0)]) g.top dict_int ?_ ?_ ?_ ?_ ?_ ?_ ?_
 ·kernel_rfl
 ·kernel_rfl
 ·exact λq=>nomatch q
 ·decide
 ·decide
 ·exact⟨S.E ⟨jq,rfl⟩,S.E ⟨rfl,rfl⟩,S.E ⟨jq,rfl⟩,S.E ⟨rfl,rfl⟩,trivial⟩
 ·refine yQ (mw dict_int rfl jq (v:=.s (gL n) 0) ?_ ?_)
  ·rcases d with rfl | rfl <;> rfl
  ·exact pE (h _)
theorem kU.sub{G Hd σ lc lc₂ st ys s₀ s}(g:kU G Hd σ lc st ys s₀ s)(h:gO lc lc₂):kU G Hd σ lc₂ st ys s₀ s:={g with p:=⟨g.p.i,g.p.r,g.p.f.sub h⟩}
theorem yt{G Hd c fs l lc lc₂ st ys Q}(h:gO lc lc₂)(q:jX G Hd c fs l lc₂ st ys Q):jX G Hd c fs l lc st ys Q:=λK d e i σ s₀ s a f g=>q K d e i σ s₀ s a f (g.sub h)
theorem gO.set{lc l x v}(h:gO lc l)(a:(l.all λp=> !(p.1 == x))=true):gO (lc.set x v) ((x,v)::l):=by
 refine⟨by rw[Lc.fh,beq_self_eq_true];rfl,?_⟩
 induction l with
 |nil=>trivial
 |cons p l c =>
  rw[NL,KV] at a;refine⟨?_,c h.2 a.2⟩;rw[Lc.fh];cases e:p.1 == x with
  |true=>rw[e] at a;exact Jq a.1
  |false=>exact h.1
mutual
theorem Al{G Hd c fs l l' lc st ys Q}(e:l=l')(h:jX G Hd c fs l' lc st ys Q):jX G Hd c fs l lc st ys Q:=e▸h
theorem vm:a5 (a7 9)=[cD (a5 (a7 9)) 0,cD (a5 (a7 9)) 1,cD (a5 (a7 9)) 2,cD (a5 (a7 9)) 3]:=by kernel_rfl
end
theorem lO(g:Gd){n ds L}(H:A.handled=none)(M:n=1∨n=2)(hz:∀x∈ds,x.length<=sizeLine) :
  pM A (qk L) (lP L) (ny ds n) (restOf (gL n) ds):=by
 refine kA λG c d h ok=>?_;obtain⟨j,Q,N,R,X,U,ys⟩:=G;dsimp only at c d h;subst c d h;have a:(j.over (qk L) []).handled=none:=H;have S:=g.snd (A:=j.over (qk L) []) (F:=lP L) a (by rfl);refine Al vm ?_;generalize q:cD (a5 (a7 9)) 1=P;refine cm (eQ ok (S.S ?_));refine cm (eQ ok (qj (L:=L) g a M (λo=>?_) rfl q.symm));refine cm (eQ ok (S.S ?_));refine cm ?_;refine An (items:=bQ ds) (λk lc ys=>gO lc [((⟨⟨[112,114,101,102,105,120,101,115]⟩⟩:Str),.t (bQ [(⟨⟨[32,32]⟩⟩:Str),gL n]))]/\ys=restOf (gL n) (ds.drop k)) g.top ok rfl rfl rfl a rfl ?_ (λc' p B q C D Y k v lc ys hk r=>?_) λlc ys r=>?_
 ·refine S.E ?_;exact⟨rfl,rfl,⟨rfl,trivial⟩,rfl⟩
 ·replace hk:=JY▸hk;obtain⟨x,z,rfl⟩:=LZ.mp hk;obtain⟨J,f⟩:=r;have i:=hz x (Jr z);have es:=vh (tag:=gL n) z;refine yt (J.set (x:=(⟨⟨[108,105,110,101]⟩⟩:Str)) (v:=.s x 0) (by rfl)) ?_;have w:=g.snd (A:=j.over c' p) (F:=lP L) D (by rfl);refine cm ?_;refine sP ok ?_;refine w.T ?_;refine⟨i,in_tuple (Br.mk (λu=>?_) λu=>?_)⟩
  ·rw[if_pos (show vE (gL n) x=true from u)] at es;refine cm ?_;refine gb ok (y:=Lo x (Jh 2) none) (l:=restOf (gL n) (ds.drop (k+1))) (f.trans es) q C rfl rfl ?_;refine w.E ?_;exact⟨i,rfl,dF (dF ⟨.inl rfl,rfl,⟨rfl,trivial⟩,rfl⟩)⟩
  ·rw[if_neg (show ¬vE (gL n) x=true from λe=>Jq (u.symm.trans e))] at es;exact dF (dF ⟨.inl rfl,rfl,⟨rfl,trivial⟩,f.trans es⟩)
 ·obtain⟨_,f⟩:=r;rw[Jt,Lw (Jl _)] at f;exact dF ⟨f,.inl rfl⟩
noncomputable def tx(l:List Nat):Str:=⟨l.toArray⟩
mutual
theorem cL(l m:List Nat):tx l++tx m=tx (l++m):=by
 show(⟨l.toArray++m.toArray⟩:Str)=_
 congr 1
 exact List.append_toArray ..
theorem a8(l:List Nat):(tx l).length=l.length:=Ln ..
end
structure P5 where
 p0:List Nat
 p1:List Nat
 p2:List Nat
 p3:List Nat
 p4:List Nat
noncomputable def P5.start:P5:=⟨[],[],[61],[],[32]⟩
noncomputable def P5.vals(p:P5):List V:=[.s (tx p.p0) 0,.s (tx p.p1) 0,.s (tx p.p2) 0,.s (tx p.p3) 0,.s (tx p.p4) 0]
noncomputable def P5.sz(p:P5):Nat:=p.p0.length+p.p1.length+p.p2.length+p.p3.length+p.p4.length
noncomputable def cR(n:Int):Nat:=if(n.fdiv 8).fmod 2=0 then 32 else 9
noncomputable def lJ(n:Int):Nat:=[61,59,97,98,99].getD ((n.fdiv 8).fmod 5).toNat 0
noncomputable def xW(n:Int)(p:P5):P5:=if n.fmod 8=0∨n.fmod 8=2 then {p with p0:=p.p0++[cR n]} else p
noncomputable def xV(n:Int)(p:P5):P5:=if n.fmod 8=1∨n.fmod 8=2 then {p with p1:=p.p1++[cR n]} else p
noncomputable def xU(n:Int)(p:P5):P5:=if n.fmod 8=3 then {p with p2:=p.p2++[lJ n]} else p
noncomputable def xT(n:Int)(p:P5):P5:=if n.fmod 8=4 then {p with p2:=p.p2++[cR n]} else p
noncomputable def xS(n:Int)(p:P5):P5:=if n.fmod 8=5∨n.fmod 8=6 then(if n.fmod 8=5 then {p with p3:=p.p3++[cR n]} else {p with p4:=p.p4++[cR n]}) else p
noncomputable def P5.step(p:P5)(n:Int):P5:=xS n (xT n (xU n (xV n (xW n p))))
noncomputable def dt:List Int->List P5->P5->List P5
 |[],a,p=>a++[p]
 |n::l,a,p=>if n.fmod 8=7 then dt l (a++[p.step n]) P5.start else dt l a (p.step n)
theorem CO(n:Int)(l:List Int)(a:List P5)(p:P5):dt (n::l) a p=if n.fmod 8=7 then dt l (a++[p.step n]) P5.start else dt l a (p.step n):=rfl
noncomputable def linesOf(ns:List Int):List P5:=dt ns [] P5.start
theorem fk(n m:Int)(a:0<m):0<=n.fmod m/\n.fmod m<m:=by
 refine(Int.fmod_eq_emod_of_nonneg _ (Oq a)).symm▸?_;exact⟨Int.emod_nonneg _ (Int.ne_of_gt a),Int.emod_lt_of_pos _ a⟩
mutual
theorem wz(n:Int):(chars (⟨⟨[32,9]⟩⟩:Str))[((n.fdiv 8).fmod 2).toNat]?=Jh (tx [cR n]):=by
 obtain⟨a,c⟩:=fk (n.fdiv 8) 2 (by decide);unfold cR;have:(n.fdiv 8).fmod 2=0∨(n.fdiv 8).fmod 2=1:=by exact eU 11 3 a c
 rcases this with e | e <;> (refine(e).symm▸?_;rfl)
theorem tX(n:Int):(chars (⟨⟨[61,59,97,98,99]⟩⟩:Str))[((n.fdiv 8).fmod 5).toNat]?=Jh (tx [lJ n]):=by
 obtain⟨a,c⟩:=fk (n.fdiv 8) 5 (by decide);unfold lJ;have:(n.fdiv 8).fmod 5=0∨(n.fdiv 8).fmod 5=1∨(n.fdiv 8).fmod 5=2∨(n.fdiv 8).fmod 5=3∨(n.fdiv 8).fmod 5=4:=by exact eU 11 4 a c
 rcases this with e | e | e | e | e <;> (refine(e).symm▸?_;rfl)
end
noncomputable abbrev jn(L:Addr):cU:=⟨K5 (Jj "_law_lines") (a6 (a7 11)) L 339 (.ref 338),[],0⟩
noncomputable def qH(i:Nat):Stmt:=cD (cy (cD (a5 (a7 11)) 1)) i
noncomputable abbrev m7(vs:List V)(n:Int):Lc:=[(gW,.l vs),(lU,.r 0),((⟨⟨[120]⟩⟩:Str),.i n),((⟨⟨[112,97,114,116]⟩⟩:Str),.r 1),((⟨⟨[107,105,110,100]⟩⟩:Str),.i (n.fmod 8)),((⟨⟨[119,104,105,116,101]⟩⟩:Str),.s (tx [cR n]) 0)]
noncomputable abbrev iq(done:List P5)(p:P5):St:=[.list (done.map (λp=>.l p.vals)++[.r 1]),.list p.vals]
end
section
variable {A:Around}{Q:Fl->Lc->St->Prop}
theorem eB{F o ix value tpos pos a vs i}{k:Nat}{t u x y lc}(T:bK)(hi:∀e d new,augStore ix e d new=(do MQ [new,e,d] (Uq e d new);release [new,e,d] [];pure .next))(j:∀c:V->St->Prop,c (.r 1) [a,.list vs]->cx A F o lc [a,.list vs] c)(q:∀c:V->St->Prop,c (.i i) [a,.list vs]->cx A F ix lc [a,.list vs] c)(p:∀c:V->St->Prop,c (.s (tx y) u) [a,.list vs]->cx A F value lc [a,.list vs] c)(g:i=(k:Int))(f:vs[k]?=Jh (.s (tx x) t))(hz:x.length+y.length<=sizeLine)(h:Q .next lc [a,.list (vs.set k (.s (tx (x++y)) 0))]):dN A F (.AugAssign (.Subscript o ix tpos) .Add value pos) lc [a,.list vs] Q:=by
 subst g;refine sR hi (j _ (q _ (Ag rfl (KU k) (by rw[J8];exact f) (p _ (nP (op:=.Add) (a:=.s (tx x) t) (b:=.s (tx y) u) ⟨by rw[a8,a8];exact hz,set_list T rfl (KU k) (by rw[J8];exact((List.getElem?_eq_some_iff.mp f).1)) ?_⟩)))));rw[J8,cL];exact h
mutual
theorem wq{a}{b:Int}(h:(a == b)=true):a=b:=eq_of_beq h
theorem zi{a}{b:Int}(h:(a == b)=false):¬a=b:=λe=>by rw[e,beq_self_eq_true] at h;exact Jq h
end
mutual
theorem EP(g:Gd){L vs n done p}(f:A.handled=none)(hz:p.sz+1<=sizeLine)(h:∀e,e=xW n p->Q .next (m7 vs n) (iq done e)):dN A (jn L) (qH 2) (m7 vs n) (iq done p) Q:=by
 have S:=g.snd (F:=jn L) f (by rfl);unfold P5.sz at hz;refine S.S ?_;refine Br.mk (λc=>?_) λc=>Br.mk (λd=>?_) λd=>?_
 ·refine eB (u:=0) (k:=0) (y:=[cR n]) g.top (λZ D i=>rfl) (λa q=>?_) (λa q=>?_) (λa q=>?_) rfl rfl (by exact pO 11 5 hz) ?_
  ·refine S.E ?_;exact q
  ·refine S.E ?_;exact q
  ·refine S.E ?_;exact q
  ·exact h _ (if_pos (.inl (wq c))).symm
 ·refine eB (u:=0) (k:=0) (y:=[cR n]) g.top (λZ D i=>rfl) (λa q=>?_) (λa q=>?_) (λa q=>?_) rfl rfl (by show _+1<=_;exact pO 11 5 hz) ?_
  ·refine S.E ?_;exact q
  ·refine S.E ?_;exact q
  ·refine S.E ?_;exact q
  ·exact h _ (if_pos (.inr (wq d))).symm
 ·exact h _ (if_neg (λq=>q.elim (zi c) (zi d))).symm
theorem EO(g:Gd){L vs n done p}(f:A.handled=none)(hz:p.sz+1<=sizeLine)(h:∀e,e=xV n p->Q .next (m7 vs n) (iq done e)):dN A (jn L) (qH 3) (m7 vs n) (iq done p) Q:=by
 have S:=g.snd (F:=jn L) f (by rfl);unfold P5.sz at hz;refine S.S ?_;refine Br.mk (λc=>?_) λc=>Br.mk (λd=>?_) λd=>?_
 ·refine eB (u:=0) (k:=1) (y:=[cR n]) g.top (λZ D i=>rfl) (λa q=>?_) (λa q=>?_) (λa q=>?_) rfl rfl (by exact pO 11 6 hz) ?_
  ·refine S.E ?_;exact q
  ·refine S.E ?_;exact q
  ·refine S.E ?_;exact q
  ·exact h _ (if_pos (.inl (wq c))).symm
 ·refine eB (u:=0) (k:=1) (y:=[cR n]) g.top (λZ D i=>rfl) (λa q=>?_) (λa q=>?_) (λa q=>?_) rfl rfl (by show _+1<=_;exact pO 11 6 hz) ?_
  ·refine S.E ?_;exact q
  ·refine S.E ?_;exact q
  ·refine S.E ?_;exact q
  ·exact h _ (if_pos (.inr (wq d))).symm
 ·exact h _ (if_neg (λq=>q.elim (zi c) (zi d))).symm
theorem EN(g:Gd){L vs n done p}(e:A.handled=none)(hz:p.sz+1<=sizeLine)(h:∀d,d=xU n p->Q .next (m7 vs n) (iq done d)):dN A (jn L) (qH 4) (m7 vs n) (iq done p) Q:=by
 have S:=g.snd (F:=jn L) e (by rfl);unfold P5.sz at hz;refine S.S ?_;refine Br.mk (λc=>?_) λc=>?_
 ·refine eB (u:=0) (k:=2) (y:=[lJ n]) g.top (λZ D f=>rfl) (λa q=>?_) (λa q=>?_) (λa q=>?_) rfl rfl (by exact ip 11 7 hz) ?_
  ·refine S.E ?_;exact q
  ·refine S.E ?_;exact q
  ·refine S.E ?_;exact⟨by decide,Qp (by decide),by decide,by decide,cI (n:=((n.fdiv 8).fmod 5).toNat) (My (fk _ 5 (by decide)).1).symm (tX n) q⟩
  ·exact h _ (if_pos (wq c)).symm
 ·exact h _ (if_neg (zi c)).symm
theorem EM(g:Gd){L vs n done p}(e:A.handled=none)(hz:p.sz+1<=sizeLine)(h:∀d,d=xT n p->Q .next (m7 vs n) (iq done d)):dN A (jn L) (qH 5) (m7 vs n) (iq done p) Q:=by
 have S:=g.snd (F:=jn L) e (by rfl);unfold P5.sz at hz;refine S.S ?_;refine Br.mk (λc=>?_) λc=>?_
 ·refine eB (u:=0) (k:=2) (y:=[cR n]) g.top (λZ D f=>rfl) (λa q=>?_) (λa q=>?_) (λa q=>?_) rfl rfl (by exact ip 11 7 hz) ?_
  ·refine S.E ?_;exact q
  ·refine S.E ?_;exact q
  ·refine S.E ?_;exact q
  ·exact h _ (if_pos (wq c)).symm
 ·exact h _ (if_neg (zi c)).symm
theorem EL(g:Gd){L vs n done p}(f:A.handled=none)(hz:p.sz+1<=sizeLine)(h:∀e,e=xS n p->Q .next (m7 vs n) (iq done e)):dN A (jn L) (qH 6) (m7 vs n) (iq done p) Q:=by
 have S:=g.snd (F:=jn L) f (by rfl);unfold P5.sz at hz;refine S.S ?_;refine Br.mk (λc=>?_) λc=>Br.mk (λd=>?_) λd=>?_
 ·refine eB (u:=0) (i:=n.fmod 8-2) (k:=3) (y:=[cR n]) g.top (λZ D j=>rfl) (λa q=>?_) (λa q=>?_) (λa q=>?_) (by rw[wq c];rfl) rfl (by exact d7 11 8 hz) ?_
  ·refine S.E ?_;exact q
  ·refine S.E ?_;exact q
  ·refine S.E ?_;exact q
  ·exact h _ ((if_pos (.inl (wq c))).trans (if_pos (wq c))).symm
 ·refine eB (u:=0) (i:=n.fmod 8-2) (k:=4) (y:=[cR n]) g.top (λZ D j=>rfl) (λa q=>?_) (λa q=>?_) (λa q=>?_) (by rw[wq d];rfl) rfl (by exact bZ 11 9 hz) ?_
  ·refine S.E ?_;exact q
  ·refine S.E ?_;exact q
  ·refine S.E ?_;exact q
  ·exact h _ ((if_pos (.inr (wq d))).trans (if_neg (zi c))).symm
 ·exact h _ (if_neg (λq=>q.elim (zi c) (zi d))).symm
end
mutual
theorem CR{n p}:(xW n p).sz<=p.sz+1/\(xV n p).sz<=p.sz+1/\(xU n p).sz<=p.sz+1/\(xT n p).sz<=p.sz+1/\(xS n p).sz<=p.sz+1:=by
 delta xW xV xU xT xS P5.sz;refine⟨?_,?_,?_,?_,?_⟩ <;> (repeat' split) <;> (try simp only[Ji,LC]) <;> omega
theorem yk{vs v R}(h:R v):d5 (vs++[v]) (-1) R:=by
 refine .mk v vs.length ?_ (List.getElem?_concat_length ..) h;refine(Ji).symm▸?_;unfold MY;refine(((show(-1:Int)+((vs.length+[v].length:Nat):Int)=(vs.length:Nat) from by exact dy 11 10):(if(-1:Int)<0 then(-1:Int)+((vs.length+[v].length:Nat):Int) else -1)=(vs.length:Nat))).symm▸?_;refine(if_pos ?_).trans (congrArg Jh (J8 _));rw[KV];exact⟨decide_eq_true (KU _),decide_eq_true (Int.ofNat_lt.mpr (JL _))⟩
theorem jF{m}{done:List P5}{l l'}(h:V.rP m l=Jh l'):V.rP m (done.map (λp=>.l p.vals)++l)=Jh (done.map (λp=>.l p.vals)++l'):=by
 induction done with
 |nil=>exact h
 |cons p done a=>exact congrArg (KC _) a
theorem cX{m vs us}(h:V.rP m vs=Jh us):O.vw m (.list vs)=Jh (.list us):=congrArg (KC O.list) h
theorem G4:([0,2]:List Nat).Nodup:=by decide
theorem G1:1∉([0,2]:List Nat):=by decide
theorem EH:([0,1]:List Nat).Nodup:=by decide
theorem P5.pure(p:P5):g9 p.vals:=λZ L D a q=>q
end
theorem q6{vs:List V}:∀n:Nat,(KI n).filterMap (vs[·]?)=vs.take n
 |0=>rfl
 |n+1=>by
  rw[P8,Rt,q6 n,Pm]
  congr 1
set_option tactic.hygienic true in
theorem wZ(n:Nat):PY 0 (n:Int) 1=KI n:=by
 unfold PY;have e:(if(1:Int) > 0 then(if(0:Int)<n then((n:Int)-0+1-1) / 1 else 0) else(if(0:Int) > n then(0-(n:Int)-1-1) / (-1) else 0))=n:=by
  refine(if_pos (by decide)).trans ?_
  split
  ·rw[Int.ediv_one,Int.sub_zero,Int.add_sub_cancel]
  ·rename_i h
   exact TP (KU n) (Int.not_lt.mp h)
 dsimp only;rw[e,J8];refine(K3 λk Z=>?_).trans (OF _);have a {c}:((M8 ((0:Int)+((1:Int)*((c:Nat):Int))))=c):=bM 11 21 (toN _);exact a
end
section
variable {A:Around}{Q:V->St->Prop}
theorem td(g:Gd){st ns}(G:A.handled=none)(u:A.depth+1<recursionLimit)(Y:ns.length<=63)(h:Q (.l ((linesOf ns).map λp=>.l p.vals)) st):bI A (.v (.ref 339)) [.l (ns.map V.i)] st Q :=
 have d {A} {Q:V->St->Prop} {ns} (G:A.handled=none) (u:A.depth+1<recursionLimit) (Y:ns.length<=63) (h:Q (.l ((linesOf ns).map λp=>.l p.vals)) []):bI A (.v (.ref 339)) [.l (ns.map V.i)] [] Q:=by
  have C:FnAt 339 (Jj "_law_lines") (bV (a7 11)) (a5 (a7 11)) (a6 (a7 11)) (.ref 338) (.none) :=
   g.fn (oc:=Be) (c0 41 rfl) (by kernel_rfl) (c0 40 rfl) rfl ⟨_,_,rfl,rfl⟩ (by kernel_rfl) (by kernel_rfl)
  have H {A F e lc st Q} (h:cx A F e lc st (Hs st.length Q)):cx A F e lc st Q:=λσ s p=>bH (h σ s p) λw s₁ ah ag v x hv q=>by
   obtain⟨m,R,st₂,h,T,q⟩:=q;exact⟨_,st₂,(x.gQ.trans (h.step (X:=de) x.inv x.rel)).hO (Jl _),R,h.os.at_.1▸dW (h.ml.ok x.rel) v R T w hv,q⟩
  have k:dO (bV (a7 11)) .none [gW]:=by
   rintro⟨⟩ ws e1 e2 e3 h;dsimp only at e1 e2 e3;subst e1 e2 e3;obtain⟨a,rfl⟩:=sA h
   rfl
  have aa:([1,0]:List Nat).Nodup:=by decide
  have ab:2∉([0,1]:List Nat):=by decide
  have J:∀h,h<2->([0,1]:List Nat)[h]?=Jh h:=by decide
  have y (l:List Int):g9 (l.map V.i):=ed (f:=V.i) (λZ D zz zy zx q=>q) l;have o (l:List P5):g9 (l.map λp=>V.l p.vals):=ed (f:=λp:P5=>V.l p.vals) (λZ D zz zy zx q=>q) l;have M {vs} {n:Nat} (h:vs.length<=n):Cn vs none (Jh (n:Int)) none=vs:=by
   have e:Nr none (Jh (n:Int)) none vs.length=(0,(vs.length:Int),1):=by
    have e1:(if(1:Int) > 0 then max (0:Int) (min (if(n:Int)<0 then(n:Int)+vs.length else(n:Int)) vs.length) else max (-1) (min (if(n:Int)<0 then(n:Int)+vs.length else(n:Int)) ((vs.length:Int)-1)))=vs.length:=by
     rw[if_pos (by decide),if_neg (by exact dy 11 22)];exact bM 11 23 h
    exact congrArg (λx=>((0:Int),x,(1:Int))) e1
   unfold Cn;rw[e];show(PY 0 (vs.length:Int) 1).filterMap _=_;rw[wZ,q6,NR]
  refine ig ((cC (names:=[gW]) g.top (C) (by kernel_rfl) (by kernel_rfl) (by exact bJ 9 12 u) k rfl (by kernel_rfl) λL=>?_).call);have S:=g.snd (A:=A.deeper (K5 (Jj "_law_lines") (a6 (a7 11)) L 339 (.ref 338))) (F:=jn L) (by exact G) (by rfl);refine cv 1 (S.Ss ?_);refine lh ⟨⟨[1,0],[]⟩,.next,[(gW,.l (ns.map V.i)),(lU,.r 0)],iq [] P5.start,⟨aa,.vw rfl rfl (.vw rfl rfl trivial),trivial,λh q Z=>absurd q (Jy _)⟩,rfl,AB,.of rfl,?_⟩;refine bP (gF rfl ?_);refine H ?_;refine S.E ?_;have ac:Cn (ns.map V.i) none (Jh (63:Int)) none=ns.map V.i:=M (n:=63) (by rw[Jt];exact Y);have hz:63<=sizeLine:=by decide
  refine⟨by rw[Jt];exact Jn Y hz,⟨[0,1],[(2,ns.map V.i)]⟩,.l (ns.map V.i),iq [] P5.start,⟨EH,.vw rfl rfl (.vw rfl rfl trivial),⟨⟨Jl _,ab,congrArg (λl=>Jh (O.list l)) ac,y ns⟩,trivial⟩,λh q Z=>J h q⟩,rfl,rfl,_,_,g0 g.top (by exact G) b7,trivial,?_⟩;have j {A Q vs ps} (G:A.handled=none) (hQ:∀done p,done++[p]=ps->Q .next [(gW,.l vs),(lU,.r 0)] (iq done p)) :
    ∀(ms:List Int) (done:List P5) (p:P5),dt ms done p=ps->done.length+ms.length<=100->p.sz+5*ms.length<=1000 ->
     cT (λZ=>True) (cZ A (jn L) (ee (cD (a5 (a7 11)) 1))) (bW A (jn L) (cy (cD (a5 (a7 11)) 1))) Q (ms.map V.i) [(gW,.l vs),(lU,.r 0)] (iq done p):=by
   intro ms
   induction ms with
   |nil=>exact λdone p e Z D=>⟨trivial,hQ done p e⟩
   |cons n ms ih =>
    intro done p e h1 P;have h1:done.length+(ms.length+1)<=100:=h1;have P:p.sz+5*(ms.length+1)<=1000:=P;have B:2000<=sizeLine:=by decide
    have S:=g.snd (F:=jn L) G (by rfl);refine⟨trivial,S.As (q9 (cv 2 (S.Ss ?_)))⟩;refine⟨by decide,mu (S.E ⟨1,rfl,yk ?_⟩)⟩;refine⟨by decide,Qp (by decide),by decide,by decide,cI (n:=((n.fdiv 8).fmod 2).toNat) (My (fk _ 2 (by decide)).1).symm (wz n) ?_⟩;have z:=@CR n;refine bP (EP g G (by exact bJ 11 11 B P) λp2 e2=>?_);have U:=(@z p).1;have U:=(e2).symm▸U;refine bP (EO g G (by exact bZ 11 12 B P U) λp3 e3=>?_);have z3:=(@z p2).2.1;have z3:=(e3).symm▸z3;refine bP (EN g G (by exact d7 11 13 B P U z3) λp4 e4=>?_);have z4:=(@z p3).2.2.1;have z4:=(e4).symm▸z4;refine bP (EM g G (by exact ip 11 14 B P U z3 z4) λp5 e5=>?_);have z5:=(@z p4).2.2.2.1;have z5:=(e5).symm▸z5;refine bP (EL g G (by exact pO 11 15 P B U z3 z4 z5) λp6 e6=>?_);have z6:=(@z p5).2.2.2.2;rw[<-e6] at z6;have ep:p.step n=p6:=by refine(e6).symm▸?_;refine(e5).symm▸?_;refine(e4).symm▸?_;refine(e3).symm▸?_;refine(e2).symm▸?_;rfl
    rw[CO,ep] at e;refine S.Ss (Br.mk (λc=>?_) λc=>?_)
    ·rw[if_pos (wq c)] at e;refine⟨by rw[Ji,Jt];exact bJ 11 16 B (by assumption),?_⟩;refine⟨⟨[0,2],[(1,p6.vals)]⟩,.next,[(gW,.l vs),(lU,.r 0)],iq (done++[p6]) P5.start,⟨G4,.vw rfl (cX ?_) (.vw rfl rfl trivial),⟨⟨JN _,G1,rfl,p6.pure⟩,trivial⟩,λh q Z=>absurd q (Jy _)⟩,rfl,AB,.of rfl,ih _ _ e (by rw[Ji];exact bZ 11 17 h1) (by exact bJ 11 18 h1)⟩;rw[Jv,JF,Jv];exact jF rfl
    ·rw[if_neg (zi c)] at e;refine⟨⟨[0,1],[]⟩,.next,[(gW,.l vs),(lU,.r 0)],iq done p6,⟨EH,.vw rfl (cX (jF rfl)) (.vw rfl rfl trivial),trivial,λh q Z=>absurd q (Jy _)⟩,rfl,AB,.of rfl,ih _ _ e (by exact bZ 11 19 h1) (by exact DB 11 20 P U z3 z4 z5 z6)⟩
  refine j (by exact G) (λdone p e=>?_) ns [] P5.start rfl (by exact dy 12 0 Y) (by exact dy 12 1 Y);have af:1∉([0]:List Nat):=by decide
  have ae:([0]:List Nat).Nodup:=by decide
  refine lh ⟨⟨[0],[(1,p.vals)]⟩,.next,[(lU,.r 0)],[.list ((linesOf ns).map λp=>.l p.vals)],⟨ae,.vw rfl (cX ?_) trivial,⟨⟨JN _,af,rfl,p.pure⟩,trivial⟩,λh q Z=>absurd q (Jy _)⟩,rfl,AB,.of rfl,?_⟩
  ·rw[show linesOf ns=done++[p] from e.symm,JF];exact jF rfl
  refine S.Ss ?_;exact⟨⟨[],[(0,(linesOf ns).map λp=>.l p.vals)]⟩,_,[],⟨.nil,trivial,⟨⟨Jl 0,JK,rfl,o _⟩,trivial⟩,λh q Z=>absurd q (Jy _)⟩,rfl,h⟩
 fz rfl rfl (d G u Y (by rw[Np,JO];exact h))
noncomputable def bL:List Nat->List Nat->Nat
 |[],Z=>0
 |a::l,m=>match m with
  |[]=>0
  |b::m=>if a=b then bL l m+1 else 0
mutual
theorem tw{l m:List Nat}{n a b}(e:l[n]?=Jh a)(f:m[n]?=Jh b):bL (l.drop n) (m.drop n)=if a=b then bL (l.drop (n+1)) (m.drop (n+1))+1 else 0:=by
 obtain⟨c,rfl⟩:=List.getElem?_eq_some_iff.mp e;obtain⟨d,rfl⟩:=List.getElem?_eq_some_iff.mp f;rw[KO c,KO d];rfl
theorem oo{l m:List Nat}{n}(h:l.length<=n∨m.length<=n):bL (l.drop n) (m.drop n)=0:=by
 rcases h with h | h
 ·rw[Lw h];rfl
 ·rw[Lw h];cases l.drop n <;> rfl
theorem AX{l}{k:Nat}{c}(h:l[k]?=Jh c):(chars (tx l))[k]?=Jh (tx [c]):=by
 show((tx l).cps.toList.map λc=>(⟨#[c]⟩:Str))[k]?=_;refine(JY).trans ?_;show(l[k]?).map _=_;refine(h).symm▸?_;rfl
theorem oB(a b:Nat):(tx [a] == tx [b])=decide (a=b):=sign_eq a b
theorem tm:dO (bV (a7 12)) .none [uf,ue]:=by
 rintro⟨⟩ ws c d e h;dsimp only at c d e;subst c d e;obtain⟨a,b,rfl⟩:=oY h
 rfl
theorem y6(g:Gd):FnAt 346 (Jj "_law_alike") (bV (a7 12)) (a5 (a7 12)) (a6 (a7 12)) (.ref 345) (.none) :=
 g.fn (oc:=Bd) (c0 43 rfl) (by kernel_rfl) (c0 42 rfl) rfl ⟨_,_,rfl,rfl⟩ (by kernel_rfl) (by kernel_rfl)
end
noncomputable abbrev Hq(L:Addr)(n:Nat):cU:=⟨K5 (Jj "_law_alike") (a6 (a7 12)) L 346 (.ref 345),[],n⟩
noncomputable abbrev Hp(a b:List Nat)(t u k:Nat):Lc:=[(ue,.s (tx b) u),(uf,.s (tx a) t),(ug,.i k)]
inductive HW(a b:List Nat)(t u:Nat)(st0:St)(n:Nat)(lc:Lc)(st:St):Prop
 |mk (k:Nat) (hn:n=a.length-k) (e:k+bL (a.drop k) (b.drop k)=bL a b) (hl:lc=Hp a b t u k) (hs:st=st0)
theorem i3(g:Gd){st a b t u}(B:A.handled=none)(c:A.depth<recursionLimit)(x:a.length<=sizeLine)(y:b.length<=sizeLine)(h:Q (.i (bL a b)) st):bI A (.v (.ref 346)) [.s (tx a) t,.s (tx b) u] st Q:=by
 refine(cC (names:=[uf,ue]) g.top (y6 g) (by kernel_rfl) (by kernel_rfl) c tm rfl (by kernel_rfl) λL=>?_).call;have S:=g.snd (A:=A.deeper (K5 (Jj "_law_alike") (a6 (a7 12)) L 346 (.ref 345))) (F:=Hq L st.length) (by exact B) (by rfl);refine cv 1 (S.Ss ?_);refine bP ?_;refine fx (HW a b t u st) (λn lc st' I=>?_) a.length ⟨0,rfl,Kf _,rfl,rfl⟩;obtain⟨k,C,q,rfl,rfl⟩:=I;have fin:bL (a.drop k) (b.drop k)=0->Q (.i k) st':=λe=>by
  rw[e,L9] at q;refine(q).symm▸?_;exact h
 have d:=a8 a;have f:=a8 b;refine S.T ?_;refine⟨by rw[d];exact x,Br.mk (λj=>?_) λj=>S.Ss (fin (oo (.inl ?_)))⟩
 ·refine⟨by rw[f];exact y,Br.mk (λo=>?_) λo=>S.Ss (fin (oo (.inr ?_)))⟩
  ·have z:k<a.length:=by have:=of_decide_eq_true j;exact bJ 12 2 this d
   have D:k<b.length:=by have:=of_decide_eq_true o;exact bJ 12 2 this f
   have r:=Jo z;have w:=Jo D;refine⟨by rw[d];exact x,cI (n:=k) rfl (AX r) ⟨by rw[f];exact y,cI (n:=k) rfl (AX w) ?_⟩⟩;have es:=tw r w;refine Br.mk (λp=>?_) λp=>S.Ss (fin ?_)
   ·rw[if_pos (of_decide_eq_true ((oB _ _).symm.trans p))] at es;refine S.Ss ?_;exact⟨a.length-(k+1),by exact bJ 12 3 z C,k+1,rfl,by exact d7 12 4 q es,rfl,rfl⟩
   ·rw[if_neg (of_decide_eq_false ((oB _ _).symm.trans p))] at es;exact es
  ·have:=of_decide_eq_false o;exact bJ 12 5 f this
 ·have:=of_decide_eq_false j;exact bJ 12 5 d this
theorem fF(l:List Nat):(tx l).cps.toList=l:=rfl
theorem rU(l m:List Nat):(tx l == tx m)=decide (l=m):=by
 rw[LM,beq_iff_eq,decide_eq_true_iff];have a (h:tx l=tx m):l=m:=by
  have:=congrArg (λx:Str=>x.cps.toList) h
  rwa [fF,fF] at this
 exact⟨a,λe=>e▸rfl⟩
noncomputable def fO(n:Nat)(v:Option Int)(d:Nat):Nat:=match v with
 |none=>d
 |some i=>(max 0 (min (if i<0 then i+n else i) n)).toNat
theorem ql(l:List Nat)(a m:Nat)(h:a+m<=l.length):((KI m).map (a + ·)).filterMap (λk=>l[k]?)=(l.drop a).take m:=by
 induction m with
 |zero=>simp
 |succ m c =>
  rw[P8,JF,Rt,c (by exact bZ 11 19 h),Pm,R6];simp [Jo (show a+m<l.length from by exact bJ 17 2 h)]
set_option tactic.hygienic true in
theorem jd(l:List Nat)(lo hi:Option Int):Lo (tx l) lo hi=tx ((l.drop (fO l.length lo 0)).take (fO l.length hi l.length-fO l.length lo 0)):=by
 unfold Lo;have f (lo hi:Option Int) (n:Nat):L2 lo hi 1 n=(KI (fO n hi n-fO n lo 0)).map (fO n lo 0 + ·):=by
  rw[<-sliceRange_one];delta L2 fO;have j {x0}:((max (0:Int) x0)=(((M8 (max (0:Int) x0)):Nat):Int)):=tH 17 1 (toN _);cases lo <;> cases hi <;> dsimp only <;> simp only[show(1:Int) > 0 by decide,if_true] <;> congr 1 <;> (first | rfl | (split <;> exact j))
 rw[a8,f,Jt,KQ];have c (n:Nat) (v:Option Int) (d:Nat) (hd:d<=n):fO n v d<=n:=by
  cases v with
  |none=>exact hd
  |some i=>exact Int.toNat_le.mpr (Int.max_le.mpr ⟨KU n,Int.min_le_right ..⟩)
 have q:=c l.length lo 0 (JN _);have o:=c l.length hi l.length (Jl _);generalize fO l.length lo 0=a at q ⊢;generalize fO l.length hi l.length=b at o ⊢
 split
 ·rename_i h
  simp only[KV,beq_iff_eq] at h;have r:=h.2;by_cases p:l=[]
  ·subst p;simp
  ·have:0<l.length:=List.length_pos_iff.mpr p;have:a=0:=by exact bJ 17 3 this h.2 o
   subst this;rw[MT,Lv (by exact bM 0 14 h.2)]
 ·have e:(fun(x:Nat)=>(tx l).cps[x]?)=fun(k:Nat)=>l[k]?:=by
   funext k
   show l.toArray[k]?=_;exact(M1).symm▸rfl
  refine(e).symm▸?_;by_cases g:a<=b
  ·rw[ql l a (b-a) (by exact bJ 17 4 g o)];rfl
  ·rw[show b-a=0 by exact bM 12 17 g];simp [tx]
mutual
theorem gq(l:List Nat)(n:Nat):Lo (tx l) none (Jh (n:Int))=tx (l.take n):=by
 have a {d c x0} (e:(¬(d<=c))):(c<=(M8 (max x0 (min ((d:Nat):Int) ((c:Nat):Int))))):=DK 17 6 (toN _) e;rw[jd];unfold fO;simp only[MT,PC]
 congr 1
 rw[if_neg (by exact dy 11 22)];by_cases h:n<=l.length
 ·congr 1;exact Ey h
 ·rw[Lv (by exact a h),Lv (by exact bM 17 7 h)]
theorem lH(l:List Nat)(n:Nat):Lo (tx l) (Jh (n:Int)) none=tx (l.drop n):=by
 have a {d c} (e:(¬(d<=c))):((M8 (max (0:Int) (min ((d:Nat):Int) ((c:Nat):Int))))=c):=bJ 17 8 (toN _) e;rw[jd];unfold fO;simp only[]
 congr 1
 rw[if_neg (by exact dy 11 22)];by_cases h:n<=l.length
 ·rw[show(max 0 (min (n:Int) l.length)).toNat=n by exact Ey h,Lv (by rw[K8];exact Jl _)]
 ·rw[show(max 0 (min (n:Int) l.length)).toNat=l.length by exact a h,Lw (Jl _),Lw (by exact bM 17 7 h),List.take_nil]
theorem r6(l:List Nat):Lo (tx l) (Jh (-1)) none=tx (l.drop (l.length-1)):=by
 rw[jd];unfold fO;simp only[]
 congr 1
 rw[if_pos (by exact Cd 17 9),show(max 0 (min (-1+(l.length:Int)) l.length)).toNat=l.length-1 by exact Ex,Lv (by rw[K8];exact Jl _)]
theorem m4(l:List Nat):Lo (tx l) none (Jh (-1))=tx (l.take (l.length-1)):=by
 rw[jd];unfold fO;simp only[MT,PC]
 congr 1
 rw[if_pos (by exact Cd 17 9),show(max 0 (min (-1+(l.length:Int)) l.length)).toNat=l.length-1 by exact Ex]
theorem xm(l:List Nat):picks (tx l) none none (Jh (-1))=tx l.reverse:=by
 delta picks S8 tx
 congr 2
 have e:L2 (KC (λx=>x.1) (KC (λx:Int=>(x,(0:Qx))) none)) (KC (λx=>x.1) (KC (λx:Int=>(x,(0:Qx))) none)) ((KC (λx=>x.1) (KC (λx:Int=>(x,(0:Qx))) (Jh (-1)))).getD 1) (tx l).length=(KI l.length).map λk=>l.length-1-k:=by
  rw[a8];exact picked_rev l.length
 refine(congrArg (List.filterMap _) e).trans ?_;apply NF;intro k;have d:(KI l.length).map (λk=>l.length-1-k)=(KI l.length).reverse:=by
  apply NF;intro j;by_cases a:j<l.length
  ·rw[JY,OU a,Ov (by rw[KQ];exact a),KQ,OU (by exact bM 6 21 a)];rfl
  ·rw[KR (by simp;exact bM 0 17 a),KR (by simp;exact bM 0 17 a)]
 refine(d).symm▸?_;refine(List.filterMap_reverse).symm▸?_
 congr 2
 have:=ql l 0 l.length (by exact dy 17 11);simp only[Kf,List.map_id',MT,NR] at this;have c:(fun(x:Nat)=>(({cps:=l.toArray}:Str)).cps[x]?)=fun(k:Nat)=>l[k]?:=by
  funext k
  exact(M1)
 rw[c];exact this
theorem CG(c n:Nat):Od (tx [c]) (n:Int)=tx (JQ n c):=by
 unfold Od;have e:∀(m:Nat) (a:Array Nat),(JQ m #[c]).foldl (· ++ ·) a=a++(JQ m c).toArray:=by
  intro m
  induction m with
  |zero=>intro a;simp
  |succ m g =>
   intro a;rw[Mu,MH,g,Mu,Array.append_assoc]
   congr 1
   apply Array.ext';simp
 by_cases d:(n:Int)<1
 ·refine(if_pos d).trans ?_;have:n=0:=by exact dy 17 12 d
  subst this;rfl
 ·refine(if_neg d).symm▸?_;by_cases f:n=1
  ·subst f
   rfl
  ·refine(if_neg (by simp [a8];exact dy 17 13 f)).trans ?_;show(⟨(JQ n #[c]).foldl (· ++ ·) #[]⟩:Str)=_;rw[e];simp [tx]
end
theorem qM:∀l:List (List Nat),T5 (⟨⟨[]⟩⟩) (l.map tx)=tx l.flatten
 |[]=>rfl
 |[c]=>by simp [T5]
 |c::d::l=>by
  have a:=qM (d::l);show tx c++⟨⟨[]⟩⟩++T5 (⟨⟨[]⟩⟩) ((d::l).map tx)=_;rw[a];have:tx c++⟨⟨[]⟩⟩=tx c:=by
   show(⟨c.toArray++#[]⟩:Str)=_;simp [tx]
  rw[this,cL];rfl
theorem uy(l:List (List Nat)):Pw (⟨⟨[]⟩⟩) (l.map tx)=tx l.flatten:=by
 refine(eq_of_beq (join_plain_closes _ _)).symm▸?_;exact qM l
noncomputable def bY(ws:Nat->Bool)(l:List Nat):List Nat:=l.take (l.length-(l.reverse.takeWhile ws).length)
mutual
theorem jI(l:List Nat):QK (tx l)=tx (bY Kw l):=by
 unfold QK;rw[U3];show Vz (tx l) 0 (stripHi Kw true (tx l) 0)=_;delta stripHi bY;rw[if_pos rfl,MT,fF,a8,strSub_mk];simp [tx]
theorem p9(ws:Nat->Bool)(l:List Nat)(c:Nat):bY ws (l++[c])=if ws c then bY ws l else l++[c]:=by
 unfold bY;refine(RT).symm▸?_;refine(List.reverse_singleton).symm▸?_;refine(Rr).symm▸?_;refine(OT).symm▸?_
 split
 ·refine(J5).symm▸?_;refine(Ji).symm▸?_;refine(LC).symm▸?_;have:=(List.takeWhile_sublist ws (l:=l.reverse)).length_le;rw[Ki] at this;rw[show l.length+1-((l.reverse.takeWhile ws).length+1)=l.length-(l.reverse.takeWhile ws).length by exact bJ 17 14,List.take_append_of_le_length (by exact bM 17 15)]
 ·refine(Ol).symm▸?_;rw[PC,NR]
theorem jc{ws ws' l}(h:∀c∈l,ws c=ws' c):bY ws l=bY ws' l:=by
 unfold bY;have:l.reverse.takeWhile ws=l.reverse.takeWhile ws':=by
  have d:∀m:List Nat,(∀c∈m,ws c=ws' c)->m.takeWhile ws=m.takeWhile ws':=by
   intro m
   induction m with
   |nil=>intro _;rfl
   |cons a m f =>
    intro e;rw[OT,OT,e a (JJ ..),f λc hc=>e c (JR _ hc)]
  exact d _ λc hc=>h c (List.mem_reverse.mp hc)
 exact(this).symm▸rfl
theorem nO{A tgt vs}(T:bK)(M:A.handled=none):mU A tgt (.t vs) (λZ=>True) vs:=by
 rintro σ st s w ⟨l,items,m,e,_,c,_,y⟩ hd i r;subst e;have G:=i.size;refine wpAny_pyIter_tuple ⟨_,c,rfl,m,rfl⟩ ⟨(· =s.heap.objs.size),λk h=>h.IsTupleIter s.heap.objs.size l k,λk s P E h Q=>wpAny_pyIter_tupleiter h Q,⟨λb e=>e▸i.size,λk h b j e=>by obtain⟨o,c,hc,_⟩:=j;exact⟨o,e▸c,bN hc⟩,λk h h' p C=>by obtain⟨o,c,hc,hd⟩:=p;exact⟨o,C _ rfl o c,hc,hd⟩,λk v a d s₁ C z hd hw off i r=>?_,λa d s₁ z hd hw off i r=>?_⟩,⟨_,Ju _ rfl,rfl,rfl⟩,λb e=>JX e.symm,dp i r⟩
 ·obtain⟨l',items,m,e,_,c,_,y⟩:=hw;cases e;obtain⟨u,H,J⟩:=y.get C;refine wpAny_pyNext_tuple_item z ⟨_,c,rfl,m,rfl⟩ (by refine(JZ)▸?_;exact H) λh' f F=>⟨u,rfl,?_⟩
  have g:=f;refine Jg λU=>?_;obtain⟨o',D,B,_⟩:=g;refine U ?_;refine eZ D B (by decide) ?_;have x:=eV (X:=(· =s.heap.objs.size)) (k:=s₁.toks) T i r G rfl (off _ rfl).1 (off _ rfl).2 F (Jl _);exact⟨a,x,RV.mono x.x (λb hz=>⟨λe=>(off b e).1 hz,r.zoff b hz⟩) v u J,f⟩
 ·obtain⟨l',items,m,e,_,c,_,y⟩:=hw;cases e;have R:items[vs.length]?=none:=by rw[Ml];refine(Jx ..)▸?_;refine(y.len ..).symm▸?_;exact Jl _
  exact bS (wpAny_pyNext_tuple_end M z ⟨_,c,rfl,m,rfl⟩ R λh' S hz=>⟨rfl,cW T i r G rfl (off _ rfl) (λb o q e=>S b o q e) hz (Jl _)⟩)
theorem Cq(g:Gd):FW 351 (Jj "_law_row") (bV (a7 13)) (a5 (a7 13)) (a6 (a7 13)) (.ref 350) (.none) :=
 g.Hf (oc:=Bc) (c0 45 rfl) (by kernel_rfl) (c0 44 rfl) rfl ⟨_,_,rfl,rfl⟩ (by kernel_rfl)
theorem yU(s:Js)(fd:Mk)(ws:List Value)(c:fd.params=bV (a7 13))(d:fd.defaults=.none)(e:fd.kwdefaults=.none)(h:ws.length=2):Qw s fd ⟨ws,[]⟩ ([eF,ud].zip ws):=by
 obtain⟨fn,x,w,q,y,u,r,o,v,k,p,f,i,j,g⟩:=fd;dsimp only at c d e;subst c d e;obtain⟨a,b,rfl⟩:=oY h;exact .of_eq (by rfl)
theorem nU{A Q a q params body scope cd dflt}{names:List Str}{ns vs st}(T:bK)(f:FW a q params body scope cd dflt)(j:scope.isCoroutine=false)(d:scope.isGenerator=false)(c:A.depth<recursionLimit)(g:∀(L:Addr) i x,ns[i]?=Jh x->(Oy (L+1) scope.names []).lookup x=Jh (L+1+i))(k:∀x∈ns,scope.names.lookup x=Jh .cell)(w:∀(s:Js) (fd:Mk) (ws:List Value),fd.params=params->fd.defaults=dflt->fd.kwdefaults=.none->ws.length=names.length->Qw s fd ⟨ws,[]⟩ (names.zip ws))(z:vs.length=names.length)(y:(names.all λx=>jt (scope.names.lookup x) || ns.contains x)=true)(h:∀L,bW (A.deeper (jy q scope L a cd)) ⟨jy q scope L a cd,sZ st.length ns,st.length⟩ body (names.zip vs).reverse (st++ns.map λx=>.cell ((names.zip vs).reverse.lookup x)) λv Z o=>Q (sd v) o):iN A a vs st Q :=
 yo T f ns j d c g k (λσ n s ws fd i e p r u=>⟨names.zip ws,w s fd ws p r u (e.len.trans z),RB.zip e,λx B=>(Bool.or_eq_true_iff.mp (PR.mp y _ (ME B).1)).imp eC List.contains_iff_mem.mp⟩) h
theorem nv(L:Addr):Oy (L+1) (a6 (a7 13)).names []=[(iB,L+1+1),(eF,L+1)]:=by rfl
end
theorem Cs(L:Addr):∀(i:Nat) x,[eF,iB][i]?=Jh x->(Oy (L+1) (a6 (a7 13)).names []).lookup x=Jh (L+1+i):=λi x h=>by
 rw[nv]
 match i,h with
 |0,h=>cases h;rfl
 |1,h=>cases h;rfl
noncomputable abbrev d9(L:Addr):cU:=⟨jy (Jj "_law_row") (a6 (a7 13)) L 351 (.ref 350),[(eF,0),(iB,1)],0⟩
structure ey(vals:List V)(s:Int)(a a' c x x':List Nat):Prop where
 side:s=0∨s=1
 v0:vals[s.toNat]?=Jh (.s (tx a) 0)
 v1:vals[(1-s).toNat]?=Jh (.s (tx a') 0)
 v2:vals[2]?=Jh (.s (tx c) 0)
 v3:vals[(3+s).toNat]?=Jh (.s (tx x) 0)
 v4:vals[(3+(1-s)).toNat]?=Jh (.s (tx x') 0)
 la:a.length<=200
 la':a'.length<=200
 lc:c.length<=200
 lx:x.length<=200
 lx':x'.length<=200
noncomputable abbrev vg(s:Int):Lc:=[(ud,.i s),((⟨⟨[111,116,104,101,114]⟩⟩:Str),.i (1-s))]
noncomputable abbrev fT(vals:List V)(e:Nat):St:=[.cell (Jh (.l vals)),.cell (Jh (.i e))]
mutual
theorem D5(g:Gd){L vals s a a' c x x' Q}(f:A.handled=none)(d:A.depth<recursionLimit)(P:ey vals s a a' c x x')(h:Q .next (vg s) (fT vals (bL a.reverse a'.reverse))) :
  bW A (d9 L) ((a5 (a7 13)).take 2) [(ud,.i s),(eF,.l vals)] [.cell (Jh (.l vals)),.cell none] Q:=by
 have S:=g.snd (F:=d9 L) f (by rfl);have hz:200<=sizeLine:=by decide
 have j:0<=s:=by have:=P.side;exact eU 12 6 this
 have k:0<=1-s:=by have:=P.side;exact eU 12 7 this
 have e:∀ {l:List Nat},DF (tx l) none none (Jh (-1))=tx l.reverse:=λ{l}=>xm l;refine eG (S.Ss ?_);refine⟨(g.pB (c0 43 rfl) rfl ⟨_,rfl⟩).callee,?_⟩;refine d5.at j P.v0 ?_;refine mu (S.E ⟨1,rfl,?_⟩);refine oG (by rw[a8];exact Jn P.la hz) rfl (by refine(e ..).symm▸?_;rw[a8,Ki];exact Jn P.la hz) ?_;refine(e).symm▸?_;refine d5.at k P.v1 ?_;refine mu (S.E ⟨1,rfl,?_⟩);refine oG (by rw[a8];exact Jn P.la' hz) rfl (by refine(e ..).symm▸?_;rw[a8,Ki];exact Jn P.la' hz) ?_;refine(e ..).symm▸?_;refine i3 g f d (by rw[Ki];exact Jn P.la hz) (by rw[Ki];exact Jn P.la' hz) ?_;exact⟨vg s,⟨rfl,rfl,trivial⟩,h⟩
theorem kz{F lc st Q targets value pos}(i:VD targets value pos.line F.env=pure false)(hw:Nl targets value F.env=pure none)(g:targets.all bX=true)(h:cx A F value lc st λv a=>ow A F targets v lc a (Q .next)):dN A F (.Assign targets value pos) lc st Q:=by
 intro σ s p;refine Tx (bH (h σ s p) λw s₁ d a v c j q=>?_) i hw;refine(gG F.env g).symm▸?_;refine(J6).symm▸?_;exact eN (fY targets v w lc a d s₁ j q (p.step c)) λu f e lc₂ st₂ x fr q=>⟨e,lc₂,st₂,(c.hO.trans x).gQ,fr,.next,rfl,q⟩
end
noncomputable abbrev xf:List (Str×Nat):=[(eF,0),(iB,1)]
theorem Cr{L}:∀y h,xf.lookup y=Jh h->(d9 L).ce.lookup y=Jh h/\([(eF,L+1),(iB,L+1+1)]:List (Str×Addr)).lookup y=(d9 L).env.cells.lookup y:=λy h e=>by
 refine⟨e,?_⟩;have:(d9 L).env.cells=[(iB,L+1+1),(eF,L+1)]:=nv L;refine(this).symm▸?_;have e:=f7 e;rcases Ub.mp e with e | e
 ·rw[(LR e).1];rfl
 ·rw[(LR (O4.mp e)).1];rfl
noncomputable def g6(s:Stmt):Expr:=(zh s).2.1
noncomputable def Hi:Expr->Expr×Expr×Scope
 |.ListComp e g s p=>(e,.ListComp e g s p,s)
 |.Call Z a L D=>(.Constant .none 0 ⟨0,0,0,0⟩,a.headD (.Constant .none 0 ⟨0,0,0,0⟩),default)
 |_=>(.Constant .none 0 ⟨0,0,0,0⟩,.Constant .none 0 ⟨0,0,0,0⟩,default)
noncomputable def uF(e:Expr):Expr:=(Hi e).1
noncomputable def sW(e:Expr):Scope:=(Hi e).2.2
noncomputable abbrev Cx(L C:Addr):cU:=mC (d9 L) (sW (g6 (cD (a5 (a7 13)) 2))) [(eF,L+1),(iB,L+1+1)] xf C
theorem tY(g:Gd){L C vals acc k y e Q}(j:A.handled=none)(c:0<=k)(d:vals[k.toNat]?=Jh (.s (tx y) 0))(f:y.length<=200)(o:e<=y.length)(h:Q (.s (tx (y.take (y.length-e))) 0) (fT vals e++[.list acc])) :
  cx A (Cx L C) (uF (g6 (cD (a5 (a7 13)) 2))) [((⟨⟨[107]⟩⟩:Str),.i k)] (fT vals e++[.list acc]) Q:=by
 have hz:200<=sizeLine:=by decide
 refine(g.snd (F:=Cx L C) j (by rfl)).E ?_;refine d5.at c d (d5.at c d ?_);have a:=a8 y;have es:Lo (tx y) none (Jh ((((tx y).length:Nat):Int)-(e:Int)))=tx (y.take (y.length-e)):=by
  rw[a,<-UA o];exact gq y _
 refine⟨by rw[a];exact Jn f hz,by rw[a];exact Jn f hz,?_⟩;rw[es];exact h
theorem D4(g:Gd){L vals s a a' c x x' e Q}(d:A.handled=none)(f:A.depth<recursionLimit)(P:ey vals s a a' c x x')(i:e<=a.length/\e<=a'.length)(h:∀o,Q .next (vg s++[(xx,.s (tx (a.take (a.length-e))) 0),(xw,.s (tx (a'.take (a'.length-e))) 0)]) (fT vals e++[o])) :
  dN A (d9 L) (cD (a5 (a7 13)) 2) (vg s) (fT vals e) Q:=by
 have S:=g.snd (F:=d9 L) d (by rfl);refine kz (by kernel_rfl) (by rfl) rfl ?_;refine ll (cl:=[(eF,L+1),(iB,L+1+1)]) (ce:=xf) g.top (by rfl) (by kernel_rfl) rfl Cr ?_;refine S.E ?_;refine .mk _ _ (nO g.top d) trivial λC=>?_;have hz:2<sizeLine:=by decide
 have K:=g.snd (F:=Cx L C) d (by rfl);refine⟨trivial,K.As (Br.mk (λZ=>?_) λq=>Jq q)⟩;refine tY g d (show 0<=s from by have:=P.side;exact eU 12 6 this) P.v0 P.la i.1 ⟨by exact bM 10 2 hz,trivial,K.As (Br.mk (λZ=>?_) λq=>Jq q)⟩;refine tY g d (show 0<=1-s from by have:=P.side;exact eU 12 7 this) P.v1 P.la' i.2 ⟨by exact dy 12 8 hz,trivial,?_⟩;refine S.Am ?_;refine eS (items:=[.s (tx (a.take (a.length-e))) 0,.s (tx (a'.take (a'.length-e))) 0]) rfl ?_ rfl ?_
 ·exact tM (items:=[.s (tx (a.take (a.length-e))) 0,.s (tx (a'.take (a'.length-e))) 0]) d (cj (h:=2)) rfl
 refine S.Av ?_;exact h _
noncomputable def eM(s:Int):Nat:=if s=0 then 45 else 43
theorem cG:∀l m:List Nat,bL l m<=l.length/\bL l m<=m.length
 |[],Z=>⟨JN _,JN _⟩
 |Z::L,[]=>⟨JN _,JN _⟩
 |a::l,b::m=>by
  have:=cG l m;have e:bL (a::l) (b::m)=if a=b then bL l m+1 else 0:=rfl;refine(e).symm▸?_;by_cases h:a=b
  ·rw[if_pos h];exact⟨KW this.1,KW this.2⟩
  ·rw[if_neg h];exact⟨JN _,JN _⟩
theorem DX{s}(h:s=0∨s=1):(chars (⟨⟨[45,43]⟩⟩:Str))[s.toNat]?=Jh (tx [eM s]):=by
 rcases h with rfl | rfl <;> rfl
noncomputable abbrev eX(s:Int)(o o':List Nat)(fr bk:Nat):Lc:=vg s++[(xx,.s (tx o) 0),(xw,.s (tx o') 0),((⟨⟨[102,114,111,110,116]⟩⟩:Str),.i fr),((⟨⟨[98,97,99,107]⟩⟩:Str),.i bk),((⟨⟨[97,108,111,110,101]⟩⟩:Str),.s (tx [eM s]) 0)]
noncomputable def dR(o':List Nat)(fr n a:Nat):List Nat:=JQ (n-fr) (if fr<o'.length then 94 else a)
mutual
theorem m6{x}{n:Int}(a:x.length=1)(e:0<=n)(d:n<=sizeLine):Vw x n:=by
 have:=dP;refine⟨?_,λc Z=>?_,λc Z=>?_⟩
 ·simp only[OG,decide_eq_false_iff_not];omega
 ·rw[a];have:(1:Int)<=(2 ^ 63-1) / n:=Int.le_ediv_of_mul_le (show(0:Int)<n from by exact eU 12 12 c) (by exact lr 12 13 (Oo d (by decide):(n:Int)<=2 ^ 63-1));exact eU 12 14 this
 ·rw[a,RR];unfold Vy;simp;assumption
theorem kZ(c x y:Nat):Od (tx [c]) ((x:Int)-(y:Int))=tx (JQ (x-y) c):=by
 by_cases h:y<=x
 ·rw[show(x:Int)-(y:Int)=((x-y:Nat):Int) by exact bM 12 15 h,CG]
 ·unfold Od;refine(if_pos (by exact bM 12 16 h)).trans ?_;refine(show x-y=0 by exact bM 12 17 h).symm▸?_;rfl
end
theorem k4{x n}(d:x.length=1)(c : -1000<=n)(a:n<=1000):Vw x n:=by
 by_cases h:0<=n
 ·exact m6 d h (by exact tH 12 18 (show sizeLine=16777216 from by decide) a)
 ·refine⟨?_,λq=>absurd (by exact eU 12 19 h) q,λq=>absurd (by exact eU 12 19 h) q⟩;rw[OG];exact⟨decide_eq_false (Int.not_lt.mpr (Oo (show -(2 ^ 63:Int)<= -1000 by decide) c)),decide_eq_false (Int.not_lt.mpr (Oo a (show(1000:Int)<=2 ^ 63-1 by decide)))⟩
mutual
theorem D3(g:Gd){L vals s a a' c x x' o o' e ob Q}(f:A.handled=none)(d:A.depth<recursionLimit)(P:ey vals s a a' c x x')(lo:o.length<=200)(j:o'.length<=200)(h:Q .next (eX s o o' (bL o o') (bL x x')) (fT vals e++[ob])) :
  bW A (d9 L) (((a5 (a7 13)).drop 3).take 3) (vg s++[(xx,.s (tx o) 0),(xw,.s (tx o') 0)]) (fT vals e++[ob]) Q:=by
 have hz:200<=sizeLine:=by decide
 have k:0<=s:=by have:=P.side;exact eU 12 6 this
 have p:0<=3+s:=by exact lr 12 20 k
 have q:0<=3+(1-s):=by have:=P.side;exact eU 12 21 this
 have ck:Callee (.v (.ref 346)):=(g.pB (c0 43 rfl) rfl ⟨_,rfl⟩).callee;refine(g.snd (F:=d9 L) f (by rfl)).Ss ?_;refine⟨ck,?_⟩;refine i3 g f d (Jn lo hz) (Jn j hz) ?_;refine⟨ck,?_⟩;refine d5.at p P.v3 ?_;refine d5.at q P.v4 ?_;refine i3 g f d (Jn P.lx hz) (Jn P.lx' hz) ?_;refine⟨by decide,?_⟩;refine cI (n:=s.toNat) (My k).symm (DX P.side) ?_;exact h
theorem D0(g:Gd){L vals s a a' c x x' o o' e fr bk ob Q}(v:A.handled=none)(P:ey vals s a a' c x x')(lo:o.length<=200)(i:o'.length<=200)(y:fr<=o.length)(h:Q .next (eX s o o' fr bk++[(jK,.s (tx (o.take fr++dR o' fr o.length (eM s)++a.drop o.length)) 0)]) (fT vals e++[ob])) :
  bW A (d9 L) (((a5 (a7 13)).drop 6).take 3) (eX s o o' fr bk) (fT vals e++[ob]) Q:=by
 have S:=g.snd (F:=d9 L) v (by rfl);have hz:2000<=sizeLine:=by decide
 have u:0<=s:=by have:=P.side;exact eU 12 6 this
 have la:=P.la;have p:∀w,Vw (tx [w]) (((tx o).length:Int)-(fr:Int)):=λw=>k4 (a8 [w]) (by rw[a8];exact bM 12 22 y) (by rw[a8];exact bM 12 23 lo);have k : ∀w,w=(if fr<o'.length then 94 else eM s)->Od (tx [w]) (((tx o).length:Int)-(fr:Int))=tx (dR o' fr o.length (eM s)):=λw q=>by
  rw[a8 o,kZ,q];rfl
 have f:(dR o' fr o.length (eM s)).length<=200:=by unfold dR;rw[K6];exact bJ 13 0 lo
 have lt:(o.take fr).length<=200:=by rw[JV];exact bJ 13 1 lo
 have fin:∀r,r=o.take fr++dR o' fr o.length (eM s)->bW A (d9 L) (((a5 (a7 13)).drop 8).take 1) (eX s o o' fr bk++[(jK,.s (tx r) 0)]) (fT vals e++[ob]) (Gf Q):=λr j=>by
  have z:r.length<=400:=by rw[j,Ji];exact bM 13 2 lt f
  refine S.Ss ?_;refine d5.at u P.v0 ?_;refine⟨by rw[a8];exact bM 13 3 hz lo,by rw[a8];exact bM 13 3 hz la,?_⟩;rw[a8 o,lH];refine⟨by rw[a8,a8,K8];exact bZ 13 4 hz la z,?_⟩;rw[cL];refine(j).symm▸?_;refine⟨_,?_,h⟩;exact .of rfl
 refine eG (cv 2 (S.Ss ?_));refine⟨by rw[a8];exact bM 13 3 hz lo,?_⟩;rw[gq];refine⟨by rw[a8];exact bM 13 3 hz i,Br.mk (λd=>⟨by rw[a8];exact bM 13 3 hz lo,p 94,?_⟩) λd=>⟨by rw[a8];exact bM 13 3 hz lo,p (eM s),?_⟩⟩
 ·have:=of_decide_eq_true d;rw[a8] at this;refine(((k 94) (if_pos (by exact bM 13 5 this)).symm:Od ⟨⟨[94]⟩⟩ (((tx o).length:Int)-(fr:Int))=_)).symm▸?_;refine⟨by rw[a8,a8];exact bJ 13 6 hz lt f,?_⟩;rw[cL];exact fin _ rfl
 ·have:=of_decide_eq_false d;rw[a8] at this;refine((k (eM s)) (if_neg (by exact bM 13 7 this)).symm).symm▸?_;refine⟨by rw[a8,a8];exact bJ 13 6 hz lt f,?_⟩;rw[cL];exact fin _ rfl
end
noncomputable def cY(c:Nat):Bool:=c == 32 || c == 9
noncomputable def d6(l:List Nat):List Nat:=l.map λt=>if cY t then t else 32
mutual
theorem DZ(g:Gd){L vals s a a' c x x' o o' r e fr bk ob Q}(B:A.handled=none)(P:ey vals s a a' c x x')(hr:r.length<=600)(h:Q .next (eX s o o' fr bk++[(jK,.s (tx (r++d6 (c++[59]))) 0)]) (fT vals e++[ob])) :
  dN A (d9 L) (cD (a5 (a7 13)) 9) (eX s o o' fr bk++[(jK,.s (tx r) 0)]) (fT vals e++[ob]) Q:=by
 have p {A tgt x t} (T:bK) (B:A.handled=none):rO A tgt (.s x t) (λZ=>True) (sgn x) :=
  have f:mU A tgt (.s x t) (λZ=>True) (sgn x):=by
   rintro σ st s w ⟨u,e,_⟩ _ i r;subst e;have G:∀(cl:String),xp cl=false->Walks W.prog W.w A s.heap.objs.size [s.heap.objs.size] [s.heap.objs.size] x.cps.size (T7 x) (λi h=>h.IsStrIter s.heap.objs.size cl x u i) ->
     ∃X I,B7 A (.ref s.heap.objs.size) I/\pL A tgt (.ref s.heap.objs.size) (.s x t) (.str x u) X (λZ=>True) (sgn x) I/\I 0 (s.heap.push {cls:=.type cl,data:=.fields #[.str x u,.int 0 0]})/\(∀b,X b->s.heap.objs.size<=b)/\Step σ st s σ st {s with heap:=s.heap.push {cls:=.type cl,data:=.fields #[.str x u,.int 0 0]}}:=λcl hc wk=>by
    have wk:=(oH x).symm▸wk;exact⟨_,_,λk s P E h hP=>wk.self k s P E h hP,iG (cl:=cl) T wk i.size (λk v σ n s Y x hx=>w5 Y hx) (λk h H=>by obtain⟨o,ho,hc,_⟩:=H;exact⟨o,ho,hc⟩) hc λk h h' J Y=>by obtain⟨o,ho,r⟩:=J;exact⟨o,Y o ho,r⟩,⟨_,Ju _ rfl,rfl,rfl⟩,λb e=>JX e.symm,dp i r⟩
   cases ha:x.cps.all (· < 128)
   ·exact Ul ha (G _ (by decide) (Walks.strWide B _ x u))
   ·exact TR ha (G _ (by decide) (Walks.strAscii B _ x u))
  (f).iter
 have z (l:List Nat):sgn (tx l)=l.map λt=>.s (tx [t]) 0:=by
  rw[f5];show((tx l).cps.toList.map λc=>(⟨#[c]⟩:Str)).map _=_;refine(J6).trans ?_;rfl
 have j {A} (g:Gd) {L vals s o o' r all e fr bk ob} (B:A.handled=none) (hz:r.length+all.length<=1000) (h:Q .next (eX s o o' fr bk++[(jK,.s (tx (r++d6 all)) 0)]) (fT vals e++[ob])) :
   ∀(d done:List Nat),all=done++d->cT (λZ=>True) (cZ A (d9 L) (ee (cD (a5 (a7 13)) 9))) (bW A (d9 L) (cy (cD (a5 (a7 13)) 9))) Q (d.map λt=>.s (tx [t]) 0) (eX s o o' fr bk++[(jK,.s (tx (r++d6 done)) 0)]) (fT vals e++[ob]):=by
  have y (l:List Nat) (t:Nat):d6 (l++[t])=d6 l++[if cY t then t else 32]:=JF ..;intro d
  induction d with
  |nil =>
   intro done C;rw[JO] at C;subst C;exact⟨trivial,h⟩
  |cons t d M =>
   intro done C;have M:=M (done++[t]) (by rw[C,Jv];rfl);have hs:(d6 done).length=done.length:=Jt ..;have S:=g.snd (F:=d9 L) B (by rfl);have iw:cc ⟨⟨[32,9]⟩⟩ (tx [t])=cY t:=nQ t;have fin : ∀w,w=(if cY t then t else 32)->(tx (r++d6 done)).length+(tx [w]).length<=sizeLine/\tx (r++d6 done)++tx [w]=tx (r++d6 (done++[t])):=λw ew=>by
    rw[a8,a8,cL,y,Jv,ew,Ji];exact⟨by exact ip 13 8 (show 1001<=sizeLine from by decide) hz (show all.length=done.length+(d.length+1) from by rw[C,Ji];rfl) hs,rfl⟩
   refine⟨trivial,S.As (eG (S.Ss ?_))⟩;refine Br.mk (λR=>?_) λR=>?_
   ·obtain⟨U,D⟩:=fin t (if_pos (iw.symm.trans R)).symm;refine⟨U,?_⟩;rw[D];refine⟨_,?_,M⟩;exact .of rfl
   ·obtain⟨U,D⟩:=fin 32 (if_neg (λq=>Jq ((iw.symm.trans R).symm.trans q))).symm;refine⟨U,?_⟩;have D:tx (r++d6 done)++⟨⟨[32]⟩⟩=_:=D;rw[D];refine⟨_,?_,M⟩;exact .of rfl
 have hz:1000<=sizeLine:=by decide
 have lc:=P.lc;have T:=j g (L:=L) (vals:=vals) (s:=s) (o:=o) (o':=o') (r:=r) (all:=c++[59]) (e:=e) (fr:=fr) (bk:=bk) (ob:=ob) B (by refine(Ji).symm▸?_;exact bM 13 9 lc hr) h (c++[59]) [] rfl;rw[show d6 []=[] from rfl,JO,<-z] at T;refine gF rfl ?_;refine(g.snd (F:=d9 L) B (by rfl)).E ?_;refine d5.at (by decide) P.v2 ?_;refine⟨by rw[a8];exact bM 13 10 hz lc,?_⟩;rw[show tx c++(⟨⟨[59]⟩⟩:Str)=tx (c++[59]) from cL c [59]];exact⟨rfl,_,_,p g.top B,trivial,T⟩
theorem Cw(g:Gd){L vals s a a' c x x' o o' r e fr bk ob Q}(y:A.handled=none)(P:ey vals s a a' c x x')(B:r.length<=900)(z:bk<=x.length)(h:Q .next (eX s o o' fr bk++[(jK,.s (tx (r++x.take bk++dR x' bk x.length (eM s))) 0)]) (fT vals e++[ob])) :
  bW A (d9 L) (((a5 (a7 13)).drop 10).take 2) (eX s o o' fr bk++[(jK,.s (tx r) 0)]) (fT vals e++[ob]) Q:=by
 have hz:2000<=sizeLine:=by decide
 have i:0<=3+s:=by have:=P.side;exact eU 13 11 this
 have v:0<=3+(1-s):=by have:=P.side;exact eU 12 21 this
 have d:=P.lx;have j:=P.lx';have lt:(r++x.take bk).length<=1100:=by rw[Ji,JV];exact bJ 13 12 d B
 have p:∀w,Vw (tx [w]) (((tx x).length:Int)-(bk:Int)):=λw=>k4 (a8 [w]) (by rw[a8];exact bM 12 22 z) (by rw[a8];exact bM 12 23 d);have k : ∀w,w=(if bk<x'.length then 94 else eM s)->Od (tx [w]) (((tx x).length:Int)-(bk:Int))=tx (dR x' bk x.length (eM s)):=λw u=>by
  rw[a8 x,kZ,u];rfl
 have q:(dR x' bk x.length (eM s)).length<=200:=by refine(K6).symm▸?_;exact bJ 13 0 d
 refine eG ((g.snd (F:=d9 L) y (by rfl)).Ss ?_);refine d5.at i P.v3 ?_;refine⟨by rw[a8];exact bM 13 3 hz d,?_⟩;rw[gq];refine⟨by rw[a8,a8];refine(Ji)▸?_;exact bM 13 13 hz lt,?_⟩;rw[cL];refine d5.at v P.v4 ?_;refine⟨by rw[a8];exact bM 13 3 hz j,Br.mk (λf=>?_) λf=>?_⟩
 ·refine d5.at i P.v3 ?_;refine⟨by rw[a8];exact bM 13 3 hz d,p 94,?_⟩;have:=of_decide_eq_true f;rw[a8] at this;refine((k 94 (if_pos (by exact bM 13 5 this)).symm:Od ⟨⟨[94]⟩⟩ (((tx x).length:Int)-(bk:Int))=_)).symm▸?_;refine⟨by rw[a8,a8];exact bJ 13 14 hz lt q,?_⟩;rw[cL];refine⟨_,?_,h⟩;exact .of rfl
 ·refine d5.at i P.v3 ?_;refine⟨by rw[a8];exact bM 13 3 hz d,p (eM s),?_⟩;have:=of_decide_eq_false f;rw[a8] at this;refine(k (eM s) (if_neg (by exact bM 13 7 this)).symm).symm▸?_;refine⟨by rw[a8,a8];exact bJ 13 14 hz lt q,?_⟩;rw[cL];refine⟨_,?_,h⟩;exact .of rfl
end
noncomputable def rowsOf(l:List Nat):List Str:=if l=[] then [] else [tx ([63,32]++l++[10])]
inductive Ht(r:List Nat)(lcOf:List Nat->Lc)(st0:St)(n:Nat)(lc:Lc)(st:St):Prop
 |mk (r':List Nat) (hn:n=r'.length) (hz:n<=2000) (e:bY cY r'=bY cY r) (hl:lc=lcOf r') (hs:st=st0)
mutual
theorem Cv(g:Gd){L vals s o o' r e fr bk ob Q}(v:A.handled=none)(w:r.length<=2000)(h:Q .next (eX s o o' fr bk++[(jK,.s (tx (bY cY r)) 0)]) (fT vals e++[ob])) :
  dN A (d9 L) (cD (a5 (a7 13)) 12) (eX s o o' fr bk++[(jK,.s (tx r) 0)]) (fT vals e++[ob]) Q:=by
 have S:=g.snd (F:=d9 L) v (by rfl);have hz:2000<=sizeLine:=by decide
 refine fx (Ht r (λi=>eX s o o' fr bk++[(jK,.s (tx i) 0)]) (fT vals e++[ob])) (λn lc st I=>?_) r.length ⟨r,rfl,w,rfl,rfl,rfl⟩;obtain⟨i,d,a,es,rfl,rfl⟩:=I;have j:=a8 i;refine S.T ?_;refine mu (S.E ⟨1,rfl,by rw[j];exact bZ 13 15 d a hz,?_⟩);rw[r6];refine in_tuple (ys:=[⟨⟨[32]⟩⟩,⟨⟨[9]⟩⟩]) ?_;rcases Ru i with e0 | ⟨l,c,e0⟩
 ·subst e0;refine Br.mk (λq=>Jq q) λZ=>?_;rw[<-es] at h;exact h
 ·replace e0:=Rv▸e0;subst e0;have f:(l++[c]).length=l.length+1:=Ji;have k:(l++[c]).drop ((l++[c]).length-1)=[c]:=by refine(f ..).symm▸?_;refine(MM ..).symm▸?_;exact(List.drop_left).symm▸rfl
  have p:(l++[c]).take ((l++[c]).length-1)=l:=by refine(f ..).symm▸?_;refine(MM ..).symm▸?_;exact(List.take_left).symm▸rfl
  refine(k).symm▸?_;have u:([⟨⟨[32]⟩⟩,⟨⟨[9]⟩⟩]:List Str).any (· == tx [c])=cY c:=by
   show(tx [32] == tx [c] || (tx [9] == tx [c] || false))=_;refine(oB ..).symm▸?_;rw[oB,Uh];unfold cY;rw[LM,Qa,Qa,decide_eq_true_iff,decide_eq_true_iff,beq_iff_eq,beq_iff_eq];exact⟨λq=>q.imp Tr Tr,λq=>q.imp Tr Tr⟩
  refine(u).symm▸?_;rw[p9] at es;refine Br.mk (λq=>?_) λq=>?_
  ·rw[if_pos q] at es;refine S.Ss ?_;refine mu (S.E ⟨1,rfl,by rw[j];exact bZ 13 15 d a hz,?_⟩);rw[m4,p];exact⟨l.length,by rw[d,f];exact JL _,l,rfl,by exact d7 13 16 f d a,es,rfl,rfl⟩
  ·rw[if_neg (λz=>Jq (q.symm.trans z))] at es;rw[<-es] at h;exact h
theorem Cu(g:Gd){L vals s o o' q e fr bk ob Q}(j:A.handled=none)(d:q.length<=2000)(h:∀lc,Q (.ret (.r 3)) lc (fT vals e++[ob,.list (bQ (rowsOf q))])) :
  bW A (d9 L) ((a5 (a7 13)).drop 13) (eX s o o' fr bk++[(jK,.s (tx q) 0)]) (fT vals e++[ob]) Q:=by
 have hz:3000<=sizeLine:=by decide
 have ne:(tx q != ⟨⟨[]⟩⟩)= !decide (q=[]):=congrArg (! ·) (rU q []);have k:=a8 q;have h:=h (eX s o o' fr bk++[(jK,.s (tx q) 0)]);unfold rowsOf at h;refine(g.snd (F:=d9 L) j (by rfl)).Ss ?_;refine Br.mk (λa=>?_) λa=>?_
 ·have c:¬q=[]:=λe=>by rw[ne,decide_eq_true e] at a;exact Jq a
  rw[if_neg c] at h;have f:ji++tx q=tx ([63,32]++q):=cL [63,32] q;refine⟨by rw[k];exact bM 13 17 hz d,?_⟩;rw[f];have i:tx ([63,32]++q)++(⟨⟨[10]⟩⟩:Str)=tx ([63,32]++q++[10]):=cL ([63,32]++q) [10];refine⟨by rw[a8,Ji];exact bM 13 18 hz d,?_⟩;rw[i];exact h
 ·have c:q=[]:=by
   rw[ne] at a;exact of_decide_eq_true (by cases e:decide (q=[]) with
    |true=>rfl
    |false=>rw[e] at a;exact Jq a)
  rw[if_pos c] at h;exact h
end
noncomputable def fU(a a' c x x':List Nat)(alone:Nat):List Nat :=
 (a.take (a.length-bL a.reverse a'.reverse)).take (bL (a.take (a.length-bL a.reverse a'.reverse)) (a'.take (a'.length-bL a.reverse a'.reverse))) ++
 dR (a'.take (a'.length-bL a.reverse a'.reverse)) (bL (a.take (a.length-bL a.reverse a'.reverse)) (a'.take (a'.length-bL a.reverse a'.reverse))) (a.take (a.length-bL a.reverse a'.reverse)).length alone ++
 a.drop (a.take (a.length-bL a.reverse a'.reverse)).length++d6 c++x.take (bL x x')++dR x' (bL x x') x.length alone
mutual
theorem vp(l:List Str):g9 (bQ l):=ed (f:=λy=>V.s y 0) (λZ L D c a q=>q) l
theorem xe:∀x∈[eF,iB],(a6 (a7 13)).names.lookup x=Jh .cell:=by decide
end
theorem vZ(g:Gd){vals s a a' c x x' Q}(D:A.handled=none)(f:A.depth+1<recursionLimit)(P:ey vals s a a' c x x')(h:Q (.l (bQ (rowsOf (bY cY (fU a a' (c++[59]) x x' (eM s)))))) []):bI A (.v (.ref 351)) [.l vals,.i s] [] Q:=by
 refine ig ((nU (names:=[eF,ud]) (ns:=[eF,iB]) g.top (Cq g) (by kernel_rfl) (by kernel_rfl) (by exact bJ 9 12 f) Cs xe (λs fd ws=>yU s fd ws) rfl (by kernel_rfl) λL=>?_).call);have d:(A.deeper (jy (Jj "_law_row") (a6 (a7 13)) L 351 (.ref 350))).handled=none:=D;have j:(A.deeper (jy (Jj "_law_row") (a6 (a7 13)) L 351 (.ref 350))).depth<recursionLimit:=by exact f
 generalize A.deeper (jy (Jj "_law_row") (a6 (a7 13)) L 351 (.ref 350))=B at d j ⊢;have la:=P.la;have E:=P.lx;have le:=cG a.reverse a'.reverse;rw[Ki,Ki] at le;have p:=cG x x';unfold fU at h;refine cv 2 (D5 g d j P ?_);generalize bL a.reverse a'.reverse=e at le h ⊢;have lo:(a.take (a.length-e)).length<=200:=by rw[JV];exact bJ 13 1 la
 have k:(a'.take (a'.length-e)).length<=200:=by rw[JV];exact bJ 13 1 (P.la')
 show bW B (d9 L) (cD (a5 (a7 13)) 2::(a5 (a7 13)).drop 3) _ _ _;refine bP (D4 g d j P le λob=>?_);have y:=(cG (a.take (a.length-e)) (a'.take (a'.length-e))).1;refine cv 3 (D3 g d j P lo k ?_);generalize bL (a.take (a.length-e)) (a'.take (a'.length-e))=fr at y h ⊢;generalize bL x x'=bk at p h ⊢;generalize a.take (a.length-e)=o at lo y h ⊢;generalize a'.take (a'.length-e)=o' at k h ⊢;refine cv 3 (D0 g d P lo k y ?_);have z:(o.take fr++dR o' fr o.length (eM s)++a.drop o.length).length<=600:=by
  unfold dR;rw[Ji,Ji,JV,K8,K6];exact bJ 13 19 lo la
 show bW B (d9 L) (cD (a5 (a7 13)) 9::(a5 (a7 13)).drop 10) _ _ _;refine bP (DZ g d P z ?_);have u:(o.take fr++dR o' fr o.length (eM s)++a.drop o.length++d6 (c++[59])).length<=900:=by
  have:=P.lc;have C:(d6 (c++[59])).length=c.length+1:=(Jt ..).trans Ji;rw[Ji,C];exact bM 13 20 this z
 generalize o.take fr++dR o' fr o.length (eM s)++a.drop o.length++d6 (c++[59])=r at u h ⊢;refine cv 2 (Cw g d P u p.1 ?_);have w:(r++x.take bk++dR x' bk x.length (eM s)).length<=2000:=by
  unfold dR;rw[Ji,Ji,JV,K6];exact bJ 13 21 E u
 generalize r++x.take bk++dR x' bk x.length (eM s)=r at w h ⊢;show bW B (d9 L) (cD (a5 (a7 13)) 12::(a5 (a7 13)).drop 13) _ _ _;refine bP (Cv g d w ?_);refine Cu g d (show(bY cY r).length<=2000 from by unfold bY;rw[JV];exact bJ 13 1 w) λlc=>?_;exact⟨⟨[],[(3,bQ (rowsOf (bY cY r)))]⟩,.l (bQ (rowsOf (bY cY r))),[],⟨.nil,trivial,⟨⟨JN _,JK,rfl,vp _⟩,trivial⟩,λh q Z=>absurd q (Jy _)⟩,rfl,h⟩
theorem rA(g:Gd){st vals s a a' c x x' Q}(e:A.handled=none)(d:A.depth+1<recursionLimit)(P:ey vals s a a' c x x')(h:Q (.l (bQ (rowsOf (bY cY (fU a a' (c++[59]) x x' (eM s)))))) st):bI A (.v (.ref 351)) [.l vals,.i s] st Q :=
 fz rfl rfl (vZ g e d P (by rw[Np,JO];exact h))
variable {st:St}
theorem add_list{a b xs ys d1 d2}(la:LstAt a xs d1)(z:d1 st)(lb:LstAt b ys d2)(B:d2 st)(hz:xs.length+ys.length<=sizeLine)(h:Q (.r st.length) (st++[.list (xs++ys)])):cE A (Mw .Add) a b st Q:=by
 intro σ s u w C E i r;obtain⟨l,vs,n,e,j,p⟩:=la σ st s u C z r;obtain⟨l',ws,n',v,d,hw⟩:=lb σ st s w E B r;subst e v;have f:vs.size=xs.length:=by refine(Jx)▸?_;exact p.len
 have g:ws.size=ys.length:=by refine(Jx)▸?_;exact hw.len
 refine concat_meets ⟨_,j,rfl⟩ ⟨_,d,rfl⟩ PySem.noFill_list_add PySem.seq_list_add PySem.F.slot_list_add PySem.F.entry_list_add (PySem.F.args_list_add_2 _ _) (list_addW l l' vs ws n n' none none #[] #[] (by exact d7 13 22 hz f g)) ⟨j,d,?_⟩;exact xk (o:=.list (xs++ys)) (k:=s.toks) i r (λc y q=>Jm _ q) (by rw[JA];exact JC _) (Jl _) (λx=>⟨vs++ws,0,Ju _ rfl,by rw[Sb];exact d7 13 22 hz f g,by refine(RI).symm▸?_;exact(cf.cat p hw).mono x r.apart⟩) (λZ L D q=>nomatch q) h
noncomputable def fS(a b:Str)(c:List dz):Prop:=∃T,Tree (chars a) (chars b) (cc b9) 0 (chars a).length 0 (chars b).length T/\c=dh (bU T (chars a).length (chars b).length)
noncomputable def Fz(v:V):Prop:=v=.n∨∃vs,v=.l vs
theorem Fz.up{v}(h:Fz v)(u:Nat->Nat):v.up u=v:=by rcases h with rfl | ⟨vs,rfl⟩ <;> rfl
theorem Fz.vw{v}(h:Fz v)(m:Vm):V.vw m v=Jh v:=by rcases h with rfl | ⟨vs,rfl⟩ <;> rfl
structure MI(a b:Str)(bl co:V)(kvs:List (Str×V))(l:List Str)(ta tb:Nat):Prop where
 na:ta≠0
 nb:tb≠0
 b2:jD (chars b) (cc b9) kvs
 mem:∀k,k∈l↔k∈chars b/\cc b9 k=true
 len:l.length<=(chars b).length
 c:a.length≠0->(bl=.n/\co=.n)∨∃cs,co=.l (cs.map c5)/\fS a b cs
 zb:Fz bl
 zc:Fz co
theorem MI.wh{a b bl co kvs l ta tb}(m:MI a b bl co kvs l ta tb)(la:a.length<200)(lb:b.length<200):rQ a b (cc b9) l (chars a).length (chars b).length:=by
 have c:200<sizeLine:=by decide
 have d:=m.len;rw[dT] at d;exact⟨by exact bJ 10 7 la c,by exact bJ 10 7 lb c,m.mem,by exact bZ 13 23 lb (show 200<scanBound from by decide) d,Jl _,Jl _⟩
noncomputable abbrev mJ:Value:=.ref 325
mutual
theorem vX(g:Gd){a b a' b' C D d l l4 o p ta' tb'}(T:A.handled=none)(f:A.depth+4<recursionLimit)(m:MI a b C D d l o p)(n1:ta'≠0)(n2:tb'≠0)(u1:ta'≠o)(u2:tb'≠p)(la:a'.length<200)(lb:b'.length<200)(H:∀C D o p,MI a' b' C D d l o p->Q .n (uY mJ C D a' b' o p d l l4))(M:∀d l o p,MI a' b' .n .n d l o p->Q .n [.ns (qD mJ a' b' o p 5 6 7),.inst 242 0,.gone,.gone,.gone,.dict d,.set l,.set []]) :
  bI A (.v (.ref 167)) [.r 1,.s a' ta',.s b' tb'] (uY mJ C D a b o p d l l4) Q:=by
 have h {xa xb o p J j} (g:Gd) {ya yb P S o2 o3 o4 E1} {E2 E3 E4:Prop} (T:A.handled=none) (f:A.depth+4<recursionLimit) (hJ:jC (.ref j) J) (hz:(chars xb).length<200) (X:∀U st (z:V->St->Prop),(E1->z (.b true) st)->(E2->z (.b false) st)->cE U (KJ .Is) (.s xa o) (.s ya P) st z) (E:∀U st (z:V->St->Prop),(E3->z (.b true) st)->(E4->z (.b false) st)->cE U (KJ .Is) (.s xb p) (.s yb S) st z) (H:E1->E3->Q .n [.ns (pP (.v (.ref j)) (.s ya P) (.s yb S) (.b true) C D .n (.r 2) (.r 3) (.r 4)),.inst 242 0,o2,o3,o4]) (M:E3->Q .n [.ns (pP (.v (.ref j)) (.s xa o) (.s yb S) (.b true) .n .n .n (.r 2) (.r 3) (.r 4)),.inst 242 0,o2,o3,o4]) (Y:∀d l za R,(E1/\za=ya/\R=P)∨(za=xa/\R=o)->jD (chars xb) J d->(∀k,k∈l↔k∈chars xb/\J k=true)->l.length<=(chars xb).length->Q .n [.ns (qD (.ref j) za xb R p 5 6 7),.inst 242 0,.gone,.gone,.gone,.dict d,.set l,.set []]) :
   bI A (.v (.ref 167)) [.r 1,.s xa o,.s xb p] [.ns (pP (.v (.ref j)) (.s ya P) (.s yb S) (.b true) C D .n (.r 2) (.r 3) (.r 4)),.inst 242 0,o2,o3,o4] Q:=by
  refine(cC (names:=[d0,fV,eO]) g.top (tU g) (by kernel_rfl) (by kernel_rfl) (by exact bJ 9 12 f) n8 rfl (by kernel_rfl) λL=>?_).call;refine(g.snd (A:=A.deeper (K5 (Jj "SequenceMatcher.set_seqs") (a6 (bR 5 2)) L 167 (.ref 166))) (F:=⟨K5 (Jj "SequenceMatcher.set_seqs") (a6 (bR 5 2)) L 167 (.ref 166),[],5⟩) (by exact T) (by rfl)).Ss (vY g (by exact T) (by exact bM 10 10 f) X (λe=>?_) λe=>?_)
  ·exact n6 g (by exact T) (by show A.depth+1+3<_;assumption) hJ hz E (λe'=>H e e') λd l=>Y d l _ _ (.inl ⟨e,rfl,rfl⟩)
  ·exact n6 g (by exact T) (by show A.depth+1+3<_;assumption) hJ hz E (λe'=>M e') λd l=>Y d l _ _ (.inr ⟨rfl,rfl⟩)
 have w:jA:=by
  obtain⟨ms,aa,hv⟩:=g.nam (KS,Jj "identity.tokens-whose-sharing-is-not-told",none) (Jr (i:=64) (by kernel_rfl));exact⟨ms,aa,hv⟩
 have S:=w;have q {A st Q x y t u} (b:jA) (ht:t≠0) (hu:u≠0) (H:x=y->Q (.b true) st) (M:t≠u->Q (.b false) st) (Y:t=u->x=y):cE A (KJ .Is) (.s x t) (.s y u) st Q:=by
  rintro σ s va vb ⟨t',ha,qa⟩ ⟨u',hb,qb⟩ i r;subst ha hb;obtain⟨rfl,_⟩:=qa ht;obtain⟨rfl,_⟩:=qb hu;refine Jf (m:=isSame _ _) ?_;have h0:(t' == 0 || u' == 0)=false:=by refine(beq_eq_false_iff_ne.mpr ht).symm▸?_;refine(beq_eq_false_iff_ne.mpr hu).symm▸?_;rfl
  by_cases e:t'=u'
  ·have B:=Y e;subst e;show JH _ _ (SH (x == y) t' t') _ _ s;unfold SH;rw[if_neg (by refine(h0).symm▸?_;decide),if_pos (by simp)];exact Jk (Jk (gM i r (H B)))
  ·by_cases B:x=y
   ·exact wpAny_isSame_str h0 (b.at i) λc=>Jk (by
     cases c
     ·exact gM i r (M e)
     ·exact gM i r (H B))
   ·refine(isSame_str_other x y t' u' h0 (beq_eq_false_iff_ne.mpr e) (beq_eq_false_iff_ne.mpr B)).symm▸?_;exact Jk (Jk (gM i r (M e)))
 refine h (E1:=a'=a) (E2:=True) (E3:=b'=b) (E4:=True) g T f (ux g) (by rw[dT];exact lb) (λU st z q1 q2=>q S n1 m.na q1 (λZ=>q2 trivial) λe=>absurd e u1) (λU st z q1 q2=>q S n2 m.nb q1 (λZ=>q2 trivial) λe=>absurd e u2) (λe1 e2=>?_) (λe2=>?_) λG l' za P hz b2 hm hl=>?_
 ·subst e1 e2;exact H C D o p m
 ·subst e2;exact H .n .n ta' p {m with na:=n1,c:=λZ=>.inl ⟨rfl,rfl⟩,zb:=.inl rfl,zc:=.inl rfl}
 ·rcases hz with ⟨e,rfl,rfl⟩ | ⟨rfl,rfl⟩
  ·subst e;exact M G l' P tb' ⟨m.na,n2,b2,hm,hl,λZ=>.inl ⟨rfl,rfl⟩,.inl rfl,.inl rfl⟩
  ·exact M G l' P tb' ⟨n1,n2,b2,hm,hl,λZ=>.inl ⟨rfl,rfl⟩,.inl rfl,.inl rfl⟩
theorem te(g:Gd){a b x co kvs l l4 ta tb}(u:A.handled=none)(d:A.depth+6<recursionLimit)(H:A.units+9<cLine)(m:MI a b x co kvs l ta tb)(M:a.length≠0)(la:a.length<200)(lb:b.length<200)(k:∀T,Tree (chars a) (chars b) (cc b9) 0 (chars a).length 0 (chars b).length T->T.length<62)(y:∀T,Tree (chars a) (chars b) (cc b9) 0 (chars a).length 0 (chars b).length T->(bU T (chars a).length (chars b).length).length<1000)(h:∀p x,fS a b p->MI a b x (.l (p.map c5)) kvs l ta tb->Q (.l (p.map c5)) (uY mJ x (.l (p.map c5)) a b ta tb kvs l l4)):bI A (.v (.ref 210)) [.r 1] (uY mJ x co a b ta tb kvs l l4) Q:=by
 have f {A xa xb ta tb J l l4 kvs fj Q} (g:Gd) (u:A.handled=none) (d:A.depth+6<recursionLimit) (H:A.units+9<cLine) (w:rQ xa xb J l (chars xa).length (chars xb).length) (G:jD (chars xb) J kvs) (C:(chars xa).length<200) (D:(chars xb).length<200) (k:∀T,Tree (chars xa) (chars xb) J 0 (chars xa).length 0 (chars xb).length T->T.length<62) (y:∀T,Tree (chars xa) (chars xb) J 0 (chars xa).length 0 (chars xb).length T->(bU T (chars xa).length (chars xb).length).length<1000) (h:∀T,Tree (chars xa) (chars xb) J 0 (chars xa).length 0 (chars xb).length T->Q (.l ((dh (bU T (chars xa).length (chars xb).length)).map c5)) (uY fj (.l ((bU T (chars xa).length (chars xb).length).map m3)) (.l ((dh (bU T (chars xa).length (chars xb).length)).map c5)) xa xb ta tb kvs l l4)) :
   bI A (.v (.ref 210)) [.r 1] (uY fj .n .n xa xb ta tb kvs l l4) Q:=by
  have z:3000<sizeLine:=by decide
  refine ig ((cC (names:=[d0]) g.top (yi g) (by kernel_rfl) (by kernel_rfl) (by exact bJ 9 12 d) rE rfl (by kernel_rfl) λL=>?_).call);have S:=g.snd (A:=A.deeper (K5 (Jj "SequenceMatcher.get_opcodes") (a6 (bR 5 8)) L 210 (.ref 209))) (F:=qX L 5) (by exact u) (by rfl);refine cv 4 (S.Ss (Br.mk (λq=>Jq q) λZ=>?_));show bW _ (qX L 5) ((a5 (bR 5 8)).drop 4) (vK 0 0) (lG fj .n (.r 5) xa xb ta tb kvs l l4 (.list []) []) _;refine bP (gF rfl (S.E (yR g IZ (by exact u) (by assumption) (by assumption) w G (by exact bM 10 17 z C) (by exact bM 10 18 z D) k λT B=>⟨rfl,_,_,g0 g.top (by exact u) b7,trivial,?_⟩)));refine vJ g (bs:=bU T (chars xa).length (chars xb).length) (by exact u) (by exact bM 10 19 z (y T B)) (λi j=>?_) _ [] rfl [] (0,0) rfl (Jl _);refine S.Ss ?_;exact⟨⟨[0,1,2,3,4],[(5,(dh (bU T (chars xa).length (chars xb).length)).map c5)]⟩,.l ((dh (bU T (chars xa).length (chars xb).length)).map c5),uY fj (.l ((bU T (chars xa).length (chars xb).length).map m3)) (.l ((dh (bU T (chars xa).length (chars xb).length)).map c5)) xa xb ta tb kvs l l4,⟨IX,.vw rfl (BQ rfl rfl rfl rfl rfl) (.vw rfl rfl (.vw rfl (G.vw _) (.vw rfl rfl (.vw rfl rfl trivial)))),⟨⟨Jl 5,IW,rfl,zK _⟩,trivial⟩,λh q Z=>E8 h q⟩,rfl,h T B⟩
 rcases m.c M with ⟨rfl,rfl⟩ | ⟨p,rfl,o⟩
 ·refine f g u d H (m.wh la lb) m.b2 (by rw[dT];exact la) (by rw[dT];exact lb) k y λT B=>?_;have o:fS a b (dh (bU T (chars a).length (chars b).length)):=⟨T,B,rfl⟩
  exact h _ _ o {m with c:=λZ=>.inr ⟨_,rfl,o⟩,zb:=.inr ⟨_,rfl⟩,zc:=.inr ⟨_,rfl⟩}
 ·have e {xa xb fj p} (u:A.handled=none) (d:A.depth<recursionLimit) (h:Q (.l p) (uY fj x (.l p) xa xb ta tb kvs l l4)):bI A (.v (.ref 210)) [.r 1] (uY fj x (.l p) xa xb ta tb kvs l l4) Q:=by
   refine(cC (names:=[d0]) g.top (yi g) (by kernel_rfl) (by kernel_rfl) d rE rfl (by kernel_rfl) λL=>?_).call;refine(g.snd (by exact u) (by rfl)).Ss ?_;exact Br.mk (λZ=>h) λq=>Jq q
  exact e u (by exact bJ 9 12 d) (h p x o m)
end
theorem CT(g:Gd):FW 356 (Jj "law") (bV (a7 14)) (a5 (a7 14)) (a6 (a7 14)) (.ref 355) (.none) :=
 g.Hf (oc:=Bb) (c0 47 rfl) (by kernel_rfl) (c0 46 rfl) rfl ⟨_,_,rfl,rfl⟩ (by kernel_rfl)
noncomputable abbrev cJ(L:Addr):cU:=⟨jy (Jj "law") (a6 (a7 14)) L 356 (.ref 355),[(jJ,0),(eF,1)],0⟩
noncomputable def dC(i:Nat):Stmt:=cD (cy (cD (a5 (a7 14)) 3)) i
noncomputable abbrev gI:List (Str×V):=[(lS,.s (⟨⟨[32]⟩⟩:Str) 0),(nH,.s (⟨⟨[94]⟩⟩:Str) 0),(nG,.s (⟨⟨[45]⟩⟩:Str) 0),(qy,.s (⟨⟨[43]⟩⟩:Str) 0)]
noncomputable abbrev cQ(j:Option V)(d e:V)(a b:Str)(k o:Nat)(c:List (Str×V))(l g:List Str)(dl f i h:List Str):St :=
 [.cell (Jh (.r 7)),.cell j,.ns (pP (.v mJ) (.s a k) (.s b o) (.b true) d e .n (.r 4) (.r 5) (.r 6)),.inst 242 2,.dict c,.set l,.set g,.dict gI,.list (bQ dl),.list (bQ f),.list (bQ i),.list (bQ h)]
theorem jO(L:Addr):Oy (L+1) (a6 (a7 14)).names []=[(eF,L+1+1),(jJ,L+1)]:=by rfl
noncomputable abbrev x6:List (Str×Nat):=[(eF,1)]
noncomputable abbrev CV(L C:Addr):cU:=mC (cJ L) (sW (g6 (dC 0))) [(eF,L+1+1)] x6 C
noncomputable abbrev kP:Lc:=[(qw,.r 3),(qx,.r 8),((⟨⟨[100,117,101]⟩⟩:Str),.r 9),(BH,.r 10),(BG,.r 11)]
noncomputable def P5.dK(p:P5):List Nat:=p.p0++p.p2++[59]++p.p3
noncomputable def P5.dU(p:P5):List Nat:=p.p1++p.p2++[59]++p.p4
theorem E7(g:Gd){L}{p:P5}{bl co a b ta tb kvs l l4 dl du ol nw Q}(z:A.handled=none)(hc:0<p.p2.length)(hz:p.sz<=900)(h:∀t u o,t≠0->u≠0->t≠ta->u≠tb->Q .next (kP++[((⟨⟨[111,108,100]⟩⟩:Str),.s (tx p.dK) t),((⟨⟨[110,101,119]⟩⟩:Str),.s (tx p.dU) u)]) (cQ (Jh (.l p.vals)) bl co a b ta tb kvs l l4 dl du ol nw++[o])) :
  dN A (cJ L) (dC 0) kP (cQ (Jh (.l p.vals)) bl co a b ta tb kvs l l4 dl du ol nw) Q:=by
 have w:∀y h,x6.lookup y=Jh h->(cJ L).ce.lookup y=Jh h/\([(eF,L+1+1)]:List (Str×Addr)).lookup y=(cJ L).env.cells.lookup y:=λy h e=>by
  have:(cJ L).env.cells=[(eF,L+1+1),(jJ,L+1)]:=jO L;refine(this).symm▸?_;obtain⟨rfl,rfl⟩:=LR (O4.mp (f7 e));exact⟨rfl,rfl⟩
 have f {C vals acc k q c x Q} (z:A.handled=none) (T:0<=k) (v0:vals[k.toNat]?=Jh (.s (tx q) 0)) (v2:vals[2]?=Jh (.s (tx c) 0)) (v3:vals[(3+k).toNat]?=Jh (.s (tx x) 0)) (hc:0<c.length) (hz:q.length+c.length+x.length+1<=1000) (h:∀t,tC (cQ (Jh (.l vals)) bl co a b ta tb kvs l l4 dl du ol nw++[.list acc]) t->Q (.s (tx (q++c++[59]++x)) t) (cQ (Jh (.l vals)) bl co a b ta tb kvs l l4 dl du ol nw++[.list acc])) :
   cx A (CV L C) (uF (g6 (dC 0))) [((⟨⟨[107]⟩⟩:Str),.i k)] (cQ (Jh (.l vals)) bl co a b ta tb kvs l l4 dl du ol nw++[.list acc]) Q:=by
  have S:=g.snd (F:=CV L C) z (by rfl);have H:1000<=sizeLine:=by decide
  have U:0<W.t₁:=by rw[g.t1];decide
  refine mv ?_;refine mv ?_;refine S.E ?_;refine d5.at T v0 (d5.at (by decide) v2 ⟨by rw[a8,a8];exact d7 14 0 hz H,?_⟩);rw[cL];have G:=a8 (q++c);rw[Ji] at G;refine S.E ?_;have d {A st Q a b k l} (hp:0<W.t₁) (hz:a.length+b.length<=sizeLine) (M:a.length≠0) (R:b.length≠0) (h:∀t,tC st t->Q (.s (a++b) t) st):cE A (Mw .Add) (.s a k) (.s b l) st Q:=by
   rintro σ s va vb ⟨t,v,_⟩ ⟨u,B,_⟩ i r;subst v B;refine P.add_str ?_;rw[if_neg (by simpa using M),if_neg (by simpa using R)];refine⟨?_,σ,st,bT i r (JC _),.s (a++b) s.toks,⟨_,rfl,λZ=>⟨rfl,JL _⟩⟩,h _ (CF hp i r)⟩;rw[Nm];exact hz
  refine d U (by rw[G];exact d7 14 1 hz H) (by rw[G];exact bJ 14 2 hc) (by decide) λt n=>?_;refine(show tx (q++c)++(⟨⟨[59]⟩⟩:Str)=tx (q++c++[59]) from cL _ [59]).symm▸?_;have D:(tx (q++c++[59])).length=q.length+c.length+1:=(a8 _).trans (by refine(Ji).symm▸?_;refine(Ji).symm▸?_;rfl);refine S.E ?_;refine d5.at (Ue (by decide) T) v3 ?_;by_cases e:x.length=0
  ·have e':=List.length_eq_zero_iff.mp e;subst e';have j {A st Q a b k l} (M:a.length≠0) (R:b.length=0) (h:Q (.s a k) st):cE A (Mw .Add) (.s a k) (.s b l) st Q:=by
    rintro σ s va vb v ⟨u,B,_⟩ i r;have J:=v;obtain⟨t,e,_⟩:=v;subst e B;refine P.add_str ?_;rw[if_neg (by simpa using M),if_pos (by simpa using R)];exact⟨σ,st,.refl i r,_,J,h⟩
   refine j (by rw[D];exact P0 _) (a8 []) ?_;have:=h t n;rw[JO] at this;exact this
  ·refine d U (by refine(D).symm▸?_;rw[a8];exact d7 14 3 hz H) (by refine(D).symm▸?_;exact P0 _) (by rw[a8];exact e) λt n=>?_;rw[cL];exact h t n
 have S:=g.snd (F:=cJ L) z (by rfl);have H:2<sizeLine:=by decide
 unfold P5.sz at hz;refine kz (by kernel_rfl) (by rfl) rfl ?_;refine ll (cl:=[(eF,L+1+1)]) (ce:=x6) g.top (by rfl) (by kernel_rfl) rfl w ?_;refine S.E ?_;refine .mk _ _ (nO g.top z) trivial λC=>?_;have K:=g.snd (F:=CV L C) z (by rfl);refine⟨trivial,K.As (Br.mk (λZ=>?_) λq=>Jq q)⟩;refine f (q:=p.p0) (c:=p.p2) (x:=p.p3) z (by decide) rfl rfl rfl hc (by exact d7 14 4 hz) λt X=>?_;refine⟨by exact bM 10 2 H,trivial,K.As (Br.mk (λZ=>?_) λq=>Jq q)⟩;refine f (q:=p.p1) (c:=p.p2) (x:=p.p4) z (by decide) rfl rfl rfl hc (by exact d7 14 5 hz) λu Y=>?_;refine⟨by exact dy 12 8 H,trivial,?_⟩;refine S.Am ?_;refine eS (items:=[.s (tx p.dK) t,.s (tx p.dU) u]) rfl ?_ rfl ?_
 ·exact tM (items:=[.s (tx p.dK) t,.s (tx p.dU) u]) z (cj (h:=12)) rfl
 refine S.Av ?_;exact h t u _ X.pos Y.pos (Mj (X.ns 2 _ fV _ _ rfl rfl)) (Mj (Y.ns 2 _ eO _ _ rfl rfl))
end
theorem G3:([2,3,4,5,6]:List Nat).Nodup:=by decide
section
variable {d:Option V}{k j:V}{a b:Str}{r p:Nat}{c:List (Str×V)}{l g dl i e f:List Str}
mutual
theorem xX(v:Fz k)(w:Fz j)(u:jD (chars b) (cc b9) c)(o:St):nc ⟨[2,3,4,5,6],[]⟩ 0 (cQ d k j a b r p c l g dl i e f++o) (uY mJ k j a b r p c l g) :=
 ⟨G3,.vw rfl (congrArg (KC O.ns) (a9 rfl<|a9 rfl<|a9 rfl<|a9 rfl<|a9 (v.vw _)<|a9 (w.vw _)<|a9 rfl<|a9 rfl<|a9 rfl<|a9 rfl rfl)) (.vw rfl rfl (.vw rfl (u.vw _) (.vw rfl rfl (.vw rfl rfl trivial)))),trivial,λh q Z=>absurd q (Jy _)⟩
theorem x5{bl' co' a' b' ta' tb'}(q:Fz bl')(u:Fz co')(h:jD (chars b') (cc b9) c)(o:O):eH [2,3,4,5,6] (cQ d k j a b r p c l g dl i e f++[o]) (uY mJ bl' co' a' b' ta' tb' c l g)=cQ d bl' co' a' b' ta' tb' c l g dl i e f++[o]:=by
 show[O.cell (Jh (.r 7)),.cell d,.ns (pP (.v mJ) (.s a' ta') (.s b' tb') (.b true) (bl'.up (ja [2,3,4,5,6] 5 13)) (co'.up (ja [2,3,4,5,6] 5 13)) .n (.r 4) (.r 5) (.r 6)),.inst 242 2,.dict (wj (ja [2,3,4,5,6] 5 13) c),.set l,.set g,.dict gI,.list (bQ dl),.list (bQ i),.list (bQ e),.list (bQ f),o]=_;refine((q.up (ja [2,3,4,5,6] 5 13))).symm▸?_;refine((u.up (ja [2,3,4,5,6] 5 13))).symm▸?_;refine((h.up (ja [2,3,4,5,6] 5 13))).symm▸?_;rfl
theorem vz{kvs' l' a' b' ta' tb'}(h:jD (chars b') (cc b9) kvs')(o:O):eH [2,3,4,5,6] (cQ d k j a b r p c l g dl i e f++[o]) [.ns (qD mJ a' b' ta' tb' 5 6 7),.inst 242 0,.gone,.gone,.gone,.dict kvs',.set l',.set []] =
  [.cell (Jh (.r 7)),.cell d,.ns (qD mJ a' b' ta' tb' 13 14 15),.inst 242 2,.gone,.gone,.gone,.dict gI,.list (bQ dl),.list (bQ i),.list (bQ e),.list (bQ f),o,.dict kvs',.set l',.set []]:=by
 show[O.cell (Jh (.r 7)),.cell d,.ns (qD mJ a' b' ta' tb' 13 14 15),.inst 242 2,.gone,.gone,.gone,.dict gI,.list (bQ dl),.list (bQ i),.list (bQ e),.list (bQ f),o,.dict (wj (ja [2,3,4,5,6] 5 13) kvs'),.set l',.set []]=_;exact((h.up (ja [2,3,4,5,6] 5 13))).symm▸rfl
end
end
mutual
theorem c3{m}(ys:List Str):V.rP m (bQ ys)=Jh (bQ ys):=by
 induction ys with
 |nil=>rfl
 |cons y ys a=>exact congrArg (KC _) a
theorem gx{m:Vm}{x h}(a:m.at 0=Jh 0)(c:m.at 1=Jh 1)(e:([(jJ,0),(eF,1)]:List (Str×Nat)).lookup x=Jh h):m.at h=Jh h:=by
 rcases Ub.mp (f7 e) with q | q
 ·rw[(LR q).2];exact a
 ·rw[(LR (O4.mp q)).2];exact c
theorem EG:([0,1,2,3,4,5,6,7,8,9,10,11]:List Nat).Nodup:=by decide
theorem EF:([0,1,2,3,13,14,15,7,8,9,10,11]:List Nat).Nodup:=by decide
end
section
variable {g:Option V}{k j:V}{a b:Str}{e d:Nat}{c:List (Str×V)}{l f dl i h nw:List Str}
mutual
theorem zX(p:Fz k)(q:Fz j)(o:jD (chars b) (cc b9) c):nc ⟨[2,3,4,5,6],[]⟩ 0 (cQ g k j a b e d c l f dl i h nw) (uY mJ k j a b e d c l f):=xX p q o []
theorem vA{bl' co'}(p:Fz bl')(q:Fz co')(o:jD (chars b) (cc b9) c):eH [2,3,4,5,6] (cQ g k j a b e d c l f dl i h nw) (uY mJ bl' co' a b e d c l f)=cQ g bl' co' a b e d c l f dl i h nw:=by
 show[O.cell (Jh (.r 7)),.cell g,.ns (pP (.v mJ) (.s a e) (.s b d) (.b true) (bl'.up (ja [2,3,4,5,6] 5 12)) (co'.up (ja [2,3,4,5,6] 5 12)) .n (.r 4) (.r 5) (.r 6)),.inst 242 2,.dict (wj (ja [2,3,4,5,6] 5 12) c),.set l,.set f,.dict gI,.list (bQ dl),.list (bQ i),.list (bQ h),.list (bQ nw)]=_;refine((p.up (ja [2,3,4,5,6] 5 12))).symm▸?_;refine((q.up (ja [2,3,4,5,6] 5 12))).symm▸?_;exact((o.up (ja [2,3,4,5,6] 5 12))).symm▸rfl
end
end
noncomputable abbrev kq(p:P5)(t u:Nat):Lc:=kP++[((⟨⟨[111,108,100]⟩⟩:Str),.s (tx p.dK) t),((⟨⟨[110,101,119]⟩⟩:Str),.s (tx p.dU) u)]
section
variable {A:Around}
mutual
theorem E6(g:Gd){L p t u o v w a b k r c l z dl du ol nw Q}(D:A.handled=none)(f:A.depth+4<recursionLimit)(m:MI a b v w c l k r)(E:t≠0)(G:u≠0)(H:t≠k)(J:u≠r)(la:p.dK.length<200)(lb:p.dU.length<200)(h:∀v w c l z k r,MI (tx p.dK) (tx p.dU) v w c l k r->Q .next (kq p t u) (cQ (Jh (.l p.vals)) v w (tx p.dK) (tx p.dU) k r c l z dl du ol nw)) :
  dN A (cJ L) (dC 1) (kq p t u) (cQ (Jh (.l p.vals)) v w a b k r c l z dl du ol nw++[o]) Q:=by
 refine jw ((g.snd (F:=cJ L) D (by rfl)).S ?_);refine gH ⟨[2,3,4,5,6],[]⟩ rfl (xX m.zb m.zc m.b2 [o]) rfl rfl (vX g D f m E G H J (by rw[a8];exact la) (by rw[a8];exact lb) (λB C i j d=>⟨.n,_,rfl,x5 d.zb d.zc d.b2 o,?_⟩) λy l' i j d=>⟨.n,_,rfl,vz d.b2 o,?_⟩)
 ·refine⟨⟨[0,1,2,3,4,5,6,7,8,9,10,11],[]⟩,.next,kq p t u,cQ (Jh (.l p.vals)) B C (tx p.dK) (tx p.dU) i j c l z dl du ol nw,⟨EG,?_,trivial,λh q Z=>absurd q (Jy _)⟩,rfl,?_,.of rfl,h _ _ _ _ _ _ _ d⟩
  ·exact .vw rfl rfl (.vw rfl rfl (.vw rfl (congrArg (KC O.ns) (a9 rfl<|a9 rfl<|a9 rfl<|a9 rfl<|a9 (d.zb.vw _)<|a9 (d.zc.vw _)<|a9 rfl<|a9 rfl<|a9 rfl<|a9 rfl rfl)) (.vw rfl rfl (.vw rfl (d.b2.vw _) (.vw rfl rfl (.vw rfl rfl (.vw rfl rfl (.vw rfl (cX (c3 _)) (.vw rfl (cX (c3 _)) (.vw rfl (cX (c3 _)) (.vw rfl (cX (c3 _)) trivial)))))))))))
  ·exact λx h e=>gx (by rfl) (by rfl) e
 ·refine⟨⟨[0,1,2,3,13,14,15,7,8,9,10,11],[]⟩,.next,kq p t u,cQ (Jh (.l p.vals)) .n .n (tx p.dK) (tx p.dU) i j y l' [] dl du ol nw,⟨EF,?_,trivial,λh q Z=>absurd q (Jy _)⟩,rfl,?_,.of rfl,h _ _ _ _ _ _ _ d⟩
  ·exact .vw rfl rfl (.vw rfl rfl (.vw rfl rfl (.vw rfl rfl (.vw rfl (d.b2.vw _) (.vw rfl rfl (.vw rfl rfl (.vw rfl rfl (.vw rfl (cX (c3 _)) (.vw rfl (cX (c3 _)) (.vw rfl (cX (c3 _)) (.vw rfl (cX (c3 _)) trivial)))))))))))
  ·exact λx h e=>gx (by rfl) (by rfl) e
theorem E5(g:Gd){L p t u e co a b ta tb kvs l l4 dl du ol nw Q}(q:A.handled=none)(d:A.depth+6<recursionLimit)(r:A.units+9<cLine)(m:MI a b e co kvs l ta tb)(v:a.length≠0)(la:a.length<200)(lb:b.length<200)(f:∀T,Tree (chars a) (chars b) (cc b9) 0 (chars a).length 0 (chars b).length T->T.length<62)(k:∀T,Tree (chars a) (chars b) (cc b9) 0 (chars a).length 0 (chars b).length T->(bU T (chars a).length (chars b).length).length<1000)(h:∀e c,fS a b c->MI a b e (.l (c.map c5)) kvs l ta tb->Q .next (kq p t u++[(BF,.l (c.map c5))]) (cQ (Jh (.l p.vals)) e (.l (c.map c5)) a b ta tb kvs l l4 dl du ol nw)) :
  dN A (cJ L) (dC 2) (kq p t u) (cQ (Jh (.l p.vals)) e co a b ta tb kvs l l4 dl du ol nw) Q:=by
 refine(g.snd (F:=cJ L) q (by rfl)).S ?_;refine gH ⟨[2,3,4,5,6],[]⟩ rfl (zX m.zb m.zc m.b2) rfl rfl (te g q d r m v la lb f k λc j o i=>⟨.l (c.map c5),_,rfl,vA i.zb i.zc i.b2,?_⟩);exact h j c o i
end
end
section
variable {a:Nat}{b:Nat}{c:Nat}{d:Nat}{e:Nat}{f:Nat}{g:Nat}{h:Nat}
theorem Ij:Sd [a,b,c,d,e,f,g,h] [] ((Pr.rn .eq) ((Tm.p) (Tm.v 0) (Tm.v 4)) ((Tm.p) (Tm.v 1) ((Tm.p) ((Tm.p) (Tm.v 2) (Tm.v 5)) (Tm.v 6)))) [((Pr.rn .eq) (Tm.v 0) ((Tm.m) ((Tm.p) (Tm.v 1) (Tm.v 2)) (Tm.v 3))),((Pr.rn .eq) (Tm.v 4) ((Tm.p) ((Tm.p) (Tm.v 5) (Tm.v 3)) (Tm.v 6))),((Pr.rn .le) ((Tm.p) (Tm.v 7) (Tm.v 3)) ((Tm.p) (Tm.v 1) (Tm.v 2)))]:=li ((Ct.b) ((Ct.b) ((Ct.l) [0,0,1,0,1,0,1]) ((Ct.l) [0,1,0,1,0,0,1])) ((Ct.b) ((Ct.l) [0,0,1,0,1,1,1]) ((Ct.l) [1,0,0,1,0,0,1]))) rfl
theorem IT:Sd [a,b,c,d,e] [] ((Pr.rn .le) ((Tm.t) 2 (Tm.v 0)) (Tm.v 1)) [((Pr.rn .le) ((Tm.t) 2 (Tm.v 0)) ((Tm.p) ((Tm.m) (Tm.v 1) (Tm.v 2)) ((Tm.n) 1))),((Pr.rn .lt) ((Tm.n) 0) (Tm.v 2)),((Pr.rn .lt) (Tm.v 3) (Tm.v 4)),((Pr.rn .eq) (Tm.v 4) ((Tm.m) ((Tm.p) (Tm.v 3) (Tm.v 1)) (Tm.v 2)))]:=li ((Ct.b) ((Ct.b) ((Ct.l) [0,1,1,0,0,0,0,1]) ((Ct.l) [0,0,0,1,0,0,1])) ((Ct.b) ((Ct.l) [1,0,0,1,0,0,1]) ((Ct.l) [0,0,0,1,0,0,1]))) rfl
theorem IU:Sd [a,b,c,d] [] ((Pr.rn .le) ((Tm.t) 2 (Tm.v 0)) ((Tm.m) (Tm.v 1) (Tm.v 2))) [((Pr.rn .le) ((Tm.t) 2 (Tm.v 0)) ((Tm.p) ((Tm.m) (Tm.v 1) ((Tm.p) (Tm.v 2) (Tm.v 3))) ((Tm.n) 1))),((Pr.rn .lt) ((Tm.n) 0) (Tm.v 3)),((Pr.rn .lt) ((Tm.p) (Tm.v 2) (Tm.v 3)) (Tm.v 1))]:=li ((Ct.b) ((Ct.b) ((Ct.l) [0,1,1,0,0,1]) ((Ct.l) [0,0,1,1,1])) ((Ct.l) [1,0,0,1])) rfl
variable {as:List Str}{bs:List Str}{p:Str->Bool}{alo:Nat}{ahi:Nat}{blo:Nat}{bhi:Nat}
structure Gh(as bs:List Str)(p:Str->Bool)(alo blo i j x:Nat):Prop where
 la:alo+x<=i
 lb:blo+x<=j
 eq:∀t,t<x->pairAt as bs p (i-1-t) (j-1-t)=true
 stop:alo<i-x->blo<j-x->pairAt as bs p (i-x-1) (j-x-1)=false
structure Gg(as bs:List Str)(p:Str->Bool)(ahi bhi i j y:Nat):Prop where
 ha:i+y<=ahi
 hb:j+y<=bhi
 eq:∀t,t<y->pairAt as bs p (i+t) (j+t)=true
 stop:i+y<ahi->j+y<bhi->pairAt as bs p (i+y) (j+y)=false
inductive HL(as bs:List Str)(p:Str->Bool)(alo blo i j k:Nat)(r:Nat×Nat×Nat):Prop
 |mk (x:Nat) (e:r=(i-x,j-x,k+x)) (g:Gh as bs p alo blo i j x)
inductive HK(as bs:List Str)(p:Str->Bool)(ahi bhi i j k r:Nat):Prop
 |mk (y:Nat) (e:r=k+y) (g:Gg as bs p ahi bhi i j y)
theorem nF{b P Q}(h:¬(P/\Q/\b=true))(p:P)(q:Q):b=false:=by
 cases b with
 |false=>rfl
 |true=>exact absurd ⟨p,q,rfl⟩ h
theorem Gh.cons{i j x}(c:blo<j)(h:pairAt as bs p i (j-1)=true)(g:Gh as bs p alo blo i (j-1) x):Gh as bs p alo blo (i+1) j (x+1) :=
 ⟨by exact bZ 1 20 g.la,by exact bJ 1 21 g.lb c,λt d=>by
  cases t with
  |zero=>exact h
  |succ t=>rw[show j-1-(t+1)=j-1-1-t by exact bJ 2 3,show i+1-1-(t+1)=i-1-t by exact bJ 2 2];exact g.eq t (by exact bJ 2 1 d),λa b=>by
  refine(show i+1-(x+1)-1=i-x-1 by exact bJ 2 6).symm▸?_;refine(show j-(x+1)-1=j-1-x-1 by exact bJ 2 7).symm▸?_;exact g.stop (by exact bZ 2 4 a) (by exact bZ 2 5 b)⟩
theorem mf:∀(i j k:Nat),alo<=i->blo<=j->HL as bs p alo blo i j k (dg as bs p alo blo i j k)
 |0,j,k,a,c=>⟨0,rfl,a,c,λt d=>(dy 1 19 d).elim,λh=>absurd h (Jy _)⟩
 |i+1,j,k,a,c=>by
  rw[gB];by_cases h:alo<i+1/\blo<j/\pairAt as bs p i (j-1)=true
  ·rw[if_pos h];obtain⟨x,e,g⟩:=mf i (j-1) (k+1) (by exact bM 1 5 h.1) (by exact bM 1 6 h.2.1);exact⟨x+1,by rw[e,show i-x=i+1-(x+1) by exact bJ 1 22,show j-1-x=j-(x+1) by exact bJ 1 23,show k+1+x=k+(x+1) by exact bJ 2 0],g.cons h.2.1 h.2.2⟩
  ·rw[if_neg h];exact⟨0,rfl,a,c,λt d=>(dy 1 19 d).elim,nF h⟩
theorem Gg.cons{i j y}(h:pairAt as bs p i j=true)(g:Gg as bs p ahi bhi (i+1) (j+1) y):Gg as bs p ahi bhi i j (y+1) :=
 ⟨Ld i y▸g.ha,Ld j y▸g.hb,λt a=>by
  cases t with
  |zero=>exact h
  |succ t=>(refine(Ld i t)▸?_;refine(Ld j t)▸?_);exact g.eq t (Og a),by
  refine(Ld i y)▸?_;refine(Ld j y)▸?_;exact g.stop⟩
theorem md(i j:Nat):∀(n k:Nat),ahi-(i+k)<=n->i+k<=ahi->j+k<=bhi->HK as bs p ahi bhi (i+k) (j+k) k (d3 as bs p ahi bhi i j n k)
 |0,k,a,c,d=>⟨0,rfl,c,d,λt f=>(dy 1 19 f).elim,λh=>(bJ 2 8 h a).elim⟩
 |n+1,k,a,c,d=>by
  rw[gy];by_cases h:i+k<ahi/\j+k<bhi/\pairAt as bs p (i+k) (j+k)=true
  ·rw[if_pos h];obtain⟨y,e,g⟩:=md i j n (k+1) (by exact d7 2 9 a) h.1 h.2.1;exact⟨y+1,by refine(e).trans ?_;exact bJ 2 0,g.cons h.2.2⟩
  ·rw[if_neg h];exact⟨0,rfl,c,d,λt f=>(dy 1 19 f).elim,nF h⟩
theorem sJ{i j k}(h:alo<i->blo<j->pairAt as bs p (i-1) (j-1)=false):dg as bs p alo blo i j k=(i,j,k):=by
 cases i with
 |zero=>rfl
 |succ i=>rw[gB,if_neg λq=>Jq (q.2.2.symm.trans (h q.1 q.2.1))]
theorem sH{i j n k}(h:i+k<ahi->j+k<bhi->pairAt as bs p (i+k) (j+k)=false):d3 as bs p ahi bhi i j n k=k:=by
 cases n with
 |zero=>rfl
 |succ n=>rw[gy,if_neg λq=>Jq (q.2.2.symm.trans (h q.1 q.2.1))]
mutual
theorem iD{i j k}(d:il as bs p alo ahi blo bhi i j k)(f:alo<=ahi)(g:blo<=bhi)(a:alo<i)(c:blo<j):pairAt as bs p (i-1) (j-1)=false:=by
 cases e:pairAt as bs p (i-1) (j-1) with
 |false=>rfl
 |true =>
  exfalso;have hi:=d.hi;rw[Ks f,Ks g] at hi;have:=d.best (i-1) (j-1) (k+1) (by exact dy 2 10) ⟨by exact bM 1 6 a,by exact bM 1 6 c,λt h=>by
   cases t with
   |zero=>exact e
   |succ t =>
    have:=d.run.2.2 t (by exact bJ 2 1 h);refine(show i-1+(t+1)=i+t by exact bJ 2 11 a).symm▸?_;refine(show j-1+(t+1)=j+t by exact bJ 2 11 c).symm▸?_;exact this⟩ (by exact bZ 2 12 hi.1 a) (by exact bZ 2 12 hi.2 c)
  exact(d7 2 13 this).elim
theorem iC{i j k}(a:il as bs p alo ahi blo bhi i j k)(g:alo<=ahi)(h:blo<=bhi)(c:i+k<ahi)(d:j+k<bhi):pairAt as bs p (i+k) (j+k)=false:=by
 cases e:pairAt as bs p (i+k) (j+k) with
 |false=>rfl
 |true =>
  exfalso;have:=a.best i j (k+1) (by exact dy 2 10) ⟨a.run.1,a.run.2.1,λt f=>by
   by_cases q:t=k
   ·refine(q).symm▸?_;exact e
   ·exact a.run.2.2 t (by exact bM 0 2 f q)⟩ (by exact bJ 1 8 c) (by exact bJ 1 8 d)
  exact(bJ 2 14 this).elim
end
structure ze(as bs:List Str)(J:Str->Bool)(alo ahi blo bhi i0 j₀ k₀ x y:Nat):Prop where
 lg:il as bs (λs=> !J s) alo ahi blo bhi i0 j₀ k₀
 la:alo+x<=i0
 lb:blo+x<=j₀
 ha:i0+k₀+y<=ahi
 hb:j₀+k₀+y<=bhi
 left:∀t,t<x->pairAt as bs J (i0-1-t) (j₀-1-t)=true
 stopL:alo<i0-x->blo<j₀-x->pairAt as bs J (i0-x-1) (j₀-x-1)=false
 right:∀t,t<y->pairAt as bs J (i0+k₀+t) (j₀+k₀+t)=true
 stopR:i0+k₀+y<ahi->j₀+k₀+y<bhi->pairAt as bs J (i0+k₀+y) (j₀+k₀+y)=false
inductive HO(as bs:List Str)(J:Str->Bool)(alo ahi blo bhi i j k:Nat):Prop
 |mk (i0 j₀ k₀ x y:Nat) (F:ze as bs J alo ahi blo bhi i0 j₀ k₀ x y) (ei:i=i0-x) (ej:j=j₀-x) (ek:k=k₀+x+y)
theorem jR{as bs J alo ahi blo bhi i j k}(h:kJ as bs J alo ahi blo bhi (i,j,k))(q:alo<=ahi)(r:blo<=bhi):HO as bs J alo ahi blo bhi i j k:=by
 refine Jg λA=>?_;obtain⟨f,g,k₀,o,e⟩:=h;refine A ?_;have hi:=o.hi;rw[Ks q,Ks r] at hi;unfold extend at e;rw[sJ λa b=>iD o q r a b] at e;dsimp only at e;rw[sH λa b=>iC o q r a b] at e;obtain⟨x,u,c⟩:=mf (as:=as) (bs:=bs) (p:=J) (alo:=alo) (blo:=blo) f g k₀ o.run.1 o.run.2.1;rw[u] at e;dsimp only at e;obtain⟨y,v,d⟩:=md (as:=as) (bs:=bs) (p:=J) (ahi:=ahi) (bhi:=bhi) (f-x) (g-x) (ahi-(f-x+(k₀+x))) (k₀+x) (Jl _) (by exact d7 2 16 c.la hi.1) (by exact d7 2 16 c.lb hi.2);rw[v] at e;have w:f-x+(k₀+x)=f+k₀:=by exact bZ 2 17 c.la
 have z:g-x+(k₀+x)=g+k₀:=by exact bZ 2 17 c.lb
 rw[w,z] at d;exact⟨f,g,k₀,x,y,⟨o,c.la,c.lb,d.ha,d.hb,c.eq,c.stop,d.eq,d.stop⟩,congrArg (·.1) e,congrArg (·.2.1) e,congrArg (·.2.2) e⟩
structure Core(as bs:List Str)(J:Str->Bool)(u v m:Nat):Prop where
 pos:0<m
 same:∀t,t<m->∃x,as[u+t]?=Jh x/\bs[v+t]?=Jh x
 first:∀x,as[u]?=Jh x->J x=false
 last:∀x,as[u+m-1]?=Jh x->J x=false
noncomputable def dm(as:List Str)(J:Str->Bool)(lo hi:Nat):Prop:=∀t,lo<=t->t<hi->∃x,as[t]?=Jh x/\J x=true
structure Du(as bs:List Str)(alo blo u v e:Nat):Prop where
 la:alo+e<=u
 lb:blo+e<=v
 eq:∀t,t<e->as[u-1-t]?=bs[v-1-t]?
 stop:alo<u-e->blo<v-e->as[u-e-1]?≠bs[v-e-1]?
structure y9(as bs:List Str)(ahi bhi u v f:Nat):Prop where
 ha:u+f<=ahi
 hb:v+f<=bhi
 eq:∀t,t<f->as[u+t]?=bs[v+t]?
 stop:u+f<ahi->v+f<bhi->as[u+f]?≠bs[v+f]?
noncomputable def Chain:List (Nat×Nat×Nat)->Nat->Nat->Nat->Prop
 |[],Z,L,n=>n=0
 |(i,j,k)::T,a,b,n=>i=a/\j=b/\0<k/\k<=n/\Chain T (a+k) (b+k) (n-k)
theorem Chain.append:∀ {T T':List (Nat×Nat×Nat)} {a b n n':Nat},Chain T a b n->Chain T' (a+n) (b+n) n'->Chain (T++T') a b (n+n')
 |[],T',a,b,n,n',h,h'=>by
  have d:n=0:=h;subst d;refine(Kf ..).symm▸?_;exact h'
 |(i,j,k)::T,T',a,b,n,n',⟨e,f,g,c,o⟩,h'=>by
  refine⟨e,f,g,by exact bJ 0 7 c,?_⟩;refine(show n+n'-k=n-k+n' by exact bJ 2 18 c).symm▸?_;refine Chain.append o ?_;refine(show a+k+(n-k)=a+n by exact bJ 2 19 c).symm▸?_;refine(show b+k+(n-k)=b+n by exact bJ 2 19 c).symm▸?_;exact h'
variable {J:Str->Bool}
inductive Jc(u v m i j k:Nat):Prop
 |mk (s:Nat) (ei:i=u+s) (ej:j=v+s) (hk:s+k<=m) (h0:0<k)
theorem jm{u v m i j k}(p:il as bs (λs=> !J s) alo ahi blo bhi i j k)(E:alo<=u)(G:u+m<=ahi)(F:blo<=v)(H:v+m<=bhi)(c:Core as bs J u v m)(Y:dm as J alo u)(P:dm as J (u+m) ahi)(Z:dm bs J blo v)(Q:dm bs J (v+m) bhi):Jc u v m i j k:=by
 have M:=c.pos;have hi:=p.hi;rw[Ks (by exact bZ 2 20 G E),Ks (by exact bZ 2 20 H F)] at hi;have h:0<k:=by
  obtain⟨x,g,w⟩:=c.same 0 M;have:=p.best u v 1 (by exact Cd 2 21) ⟨E,F,λt e=>by
   have:t=0:=by exact dy 2 22 e
   subst this;exact b8.mpr ⟨x,g,w,by rw[c.first x g];rfl⟩⟩ (by exact bZ 2 23 G M) (by exact bZ 2 23 H M)
  exact d7 3 0 this
 have at_:∀t,t<k->∃x,as[i+t]?=Jh x/\bs[j+t]?=Jh x/\J x=false:=λt e=>by
  refine Jg λz=>?_;obtain⟨x,g,w,D⟩:=b8.mp (p.run.2.2 t e);refine z ?_;exact⟨x,g,w,by simpa using D⟩
 have f:∀ {l:List Str} {lo hi t:Nat} {x:Str},dm l J lo hi->lo<=t->t<hi->l[t]?=Jh x->J x=false->False:=λX a b q r=>by
  obtain⟨y,d,y2⟩:=X _ a b;have d:=(q ..)▸d;cases d;have y2:=r▸y2;cases y2
 refine Jg λz=>?_;obtain⟨x0,p0,q0,R⟩:=at_ 0 h;obtain⟨g,p1,q1,S⟩:=at_ (k-1) (by exact bM 3 1 h);refine z ?_;have A:u<=i:=by
  by_cases q:i<u
  ·exact(f Y p.run.1 q (by simpa using p0) R).elim
  ·exact bM 0 17 q
 have B:v<=j:=by
  by_cases q:j<v
  ·exact(f Z p.run.2.1 q (by simpa using q0) R).elim
  ·exact bM 0 17 q
 have o:i+k<=u+m:=by
  by_cases q:u+m<i+k
  ·exact(f P (t:=i+(k-1)) (by exact bJ 3 2 q) (by exact bZ 3 3 hi.1 h) p1 S).elim
  ·exact bM 0 17 q
 have C:j+k<=v+m:=by
  by_cases q:v+m<j+k
  ·exact(f Q (t:=j+(k-1)) (by exact bJ 3 2 q) (by exact bZ 3 3 hi.2 h) q1 S).elim
  ·exact bM 0 17 q
 have T:=p.best i (v+(i-u)) k h ⟨by exact bJ 3 4 E A,by exact bJ 0 7 F,λt e=>by
  refine Jg λz=>?_;obtain⟨x,g,w,D⟩:=at_ t e;obtain⟨y,d,y2⟩:=c.same (i-u+t) (by exact d7 3 5 o A e);refine z ?_;have d:=(show u+(i-u+t)=i+t by exact bJ 3 6 A)▸d;rw[g] at d;obtain rfl:=JP d;exact b8.mpr ⟨x,g,by rw[show v+(i-u)+t=v+(i-u+t) by exact bJ 3 7];exact y2,by rw[D];rfl⟩⟩ (by exact bM 3 8 hi.1) (by exact ip 3 9 o H A)
 have U:=p.best (u+(j-v)) j k h ⟨by exact bJ 0 7 E,by exact bJ 3 4 F B,λt e=>by
  refine Jg λz=>?_;obtain⟨x,g,w,D⟩:=at_ t e;refine z ?_;obtain⟨y,d,y2⟩:=c.same (j-v+t) (by exact d7 3 5 C B e);replace y2:=(show v+(j-v+t)=j+t by exact bJ 3 6 B)▸y2;replace y2:=w▸y2;obtain rfl:=JP y2;exact b8.mpr ⟨x,by rw[show u+(j-v)+t=u+(j-v+t) by exact bJ 3 7];exact d,w,by rw[D];rfl⟩⟩ (by exact ip 3 9 C G B) (by exact bM 3 8 hi.2)
 exact⟨i-u,by exact bM 3 10 A,by exact d7 3 11 U T B,by exact bZ 3 12 o A,h⟩
mutual
theorem oU{i j}(h:pairAt as bs J i j=true):as[i]?=bs[j]?:=by
 obtain⟨x,a,c,_⟩:=b8.mp h;refine(a).symm▸?_;exact(c).symm▸rfl
theorem je{i j}(h:as[i]?=bs[j]?)(c:∃x,as[i]?=Jh x/\J x=true):pairAt as bs J i j=true:=by
 refine Jg λe=>?_;obtain⟨x,a,d⟩:=c;refine e ?_;exact b8.mpr ⟨x,a,h▸a,d⟩
end
theorem nM{T}(h:Tree as bs J alo ahi blo bhi T):alo<=ahi->blo<=bhi->dm as J alo ahi->∀p,y9 as bs ahi bhi alo blo p->T=if p=0 then [] else [(alo,blo,p)]:=by
 have r:∀ {alo ahi blo bhi i j k p:Nat},kJ as bs J alo ahi blo bhi (i,j,k)->alo<=ahi->blo<=bhi->dm as J alo ahi->y9 as bs ahi bhi alo blo p->i=alo/\j=blo/\k=p:=by
  intro alo ahi blo bhi i j k p h f g d c;obtain⟨o,M,k₀,x,y,F,ei,ej,X⟩:=jR h f g;have u:k₀=0:=by
   cases k₀ with
   |zero=>rfl
   |succ k₀ =>
    exfalso;obtain⟨z,Q,z2,C⟩:=b8.mp (F.lg.run.2.2 0 (by exact dy 2 10));have:=F.ha;obtain⟨w,w1,w2⟩:=d o F.lg.run.1 (by exact bZ 3 13 this);rw[L9,w1] at Q;obtain rfl:=JP Q;have C:=w2▸C;cases C
  subst u;obtain⟨S,U⟩:=F.lg.zero rfl;subst S U;have hx:x=0:=by have:=F.la;exact bM 3 14 this
  subst hx;have D:=F.ha;have E:=F.hb;have G:=F.right;have H:=F.stopR;simp only[L9] at D E G H;have hy:y=p:=by
   rcases PD y p with q | q | q
   ·exfalso;have P:=c.ha;have mb:=c.hb;have:=H (by exact bZ 3 15 P q) (by exact bZ 3 15 mb q);have this:=(je (c.eq y q) (d _ (by exact bM 1 18) (by exact bZ 3 15 P q)))▸this;cases this
   ·exact q
   ·exact(c.stop (by exact bZ 3 15 D q) (by exact bZ 3 15 E q) (oU (G p q))).elim
  subst hy;exact⟨by assumption,by assumption,by exact bM 3 16 X⟩
 induction h with
 |leaf h =>
  intro f g d p c;refine Jg λzz=>?_;obtain⟨_,_,e⟩:=r h f g d c;refine zz ?_;exact(if_pos e.symm ..).symm▸rfl
 |@node alo ahi blo bhi i j k L R h u hl v hr A aa B =>
  intro f g d p c;obtain⟨rfl,rfl,rfl⟩:=r h f g d c;rw[if_neg (by exact bM 3 17 u)];refine(v (by exact bM 3 18) ..).symm▸?_;have Y:R=[]:=by
   by_cases q:i+k<ahi/\j+k<bhi
   ·have:=B q (by exact bM 1 12 q.1) (by exact bM 1 12 q.2) (λt a b=>d t (by exact bJ 3 19 a) b) 0 ⟨by exact bM 3 20 q.1,by exact bM 3 20 q.2,λt Z=>by exact(dy 1 19 Z).elim,λa b=>c.stop q.1 q.2⟩;refine(this ..).symm▸?_;exact(if_pos rfl ..).symm▸rfl
   ·exact A q
  refine(Y).symm▸?_
  rfl
inductive Ca(as bs:List Str)(J:Str->Bool)(alo blo u v n m:Nat)(T:List (Nat×Nat×Nat)):Prop
 |mk (L0 T1:List (Nat×Nat×Nat)) (eT:T=L0++T1) (ch:Chain T1 u v n) (t1:alo<u/\blo<v->Tree as bs J alo u blo v L0) (t2:¬(alo<u/\blo<v)->L0=[]) (tl:2*T1.length<=m)
noncomputable def zf(as bs:List Str)(J:Str->Bool)(alo ahi blo bhi:Nat)(T:List (Nat×Nat×Nat)):Prop:=∀u v m e f:Nat,alo<=u->u+m<=ahi->blo<=v->v+m<=bhi->Core as bs J u v m->dm as J alo u->dm as J (u+m) ahi->dm bs J blo v->dm bs J (v+m) bhi->Du as bs alo blo u v e->y9 as bs ahi bhi (u+m) (v+m) f ->
  Ca as bs J alo blo (u-e) (v-e) (e+m+f) (m+1) T
inductive FO(as bs:List Str)(J:Str->Bool)(alo blo i j u v m:Nat)(L:List (Nat×Nat×Nat)):Prop
 |mk (l1:u<=i) (l2:j+u=v+i) (t:Ca as bs J alo blo u v (i-u) m L)
structure Dq(R:List (Nat×Nat×Nat))(i j n m:Nat):Prop where
 le:i<=n
 ch:Chain R i j (n-i)
 tl:2*R.length<=m
mutual
theorem vR{u v m e i j s k₀ x y L}(F:ze as bs J alo ahi blo bhi (u+s) (v+s) k₀ x y)(d:i=u+s-x)(g:j=v+s-x)(U:alo<=u)(A:blo<=v)(h4:v+m<=bhi)(T:s+k₀<=m)(D:0<k₀)(c:Core as bs J u v m)(X:dm as J alo u)(jb:dm bs J blo v)(f:Du as bs alo blo u v e)(hl:alo<i/\blo<j->Tree as bs J alo i blo j L)(E:¬(alo<i/\blo<j)->L=[])(M:alo<i/\blo<j->zf as bs J alo i blo j L):FO as bs J alo blo i j (u-e) (v-e) s L:=by
 by_cases q:u<i
 ·have cq:=F.stopL (by exact d7 3 22 f.la q d) (by exact ip 3 23 q d A);refine Jg λzz=>?_;obtain⟨z,k,P⟩:=c.same (s-x-1) (by exact ip 4 0 T D);refine zz ?_;replace cq:=(show u+s-x-1=u+(s-x-1) by exact bZ 4 1 q d)▸cq;replace cq:=(show v+s-x-1=v+(s-x-1) by exact d7 4 2 q d)▸cq;have hz:J z=false:=by
   cases ez:J z with
   |false=>rfl
   |true=>have cq:=(je (k.trans P.symm) ⟨z,k,ez⟩)▸cq;cases cq
  have H:0<x:=by
   cases x with
   |succ x=>exact Pz _
   |zero =>
    exfalso;have h:=iD F.lg (by exact ip 4 3 F.ha F.la) (by exact bZ 2 20 h4 A) (by exact d7 4 4 q d U) (by exact ip 4 5 q d A);have h:=(show u+s-1=u+(s-0-1) by exact bJ 4 6 q d)▸h;have h:=(show v+s-1=v+(s-0-1) by exact bZ 4 7 q d)▸h;rw[b8.mpr ⟨z,k,P,by refine(hz).symm▸?_;rfl⟩] at h;cases h
  obtain⟨Y,Z,eL,ch,t1,t2,tl⟩:=M (by exact DB 4 8 f.la q d g A) u v (s-x) e 0 U (by exact bZ 4 9 q d) A (by exact ip 4 10 q d g) ⟨by exact bZ 4 11 q d,λt G=>c.same t (by exact d7 4 12 T G),c.first,λw hw=>by
   have hw:=(show u+(s-x)-1=u+(s-x-1) by exact bZ 4 13 q d)▸hw;have hw:=k▸hw;cases hw;exact hz⟩ X (λt a b=>by exact(d7 4 14 a b d).elim) jb (λt a b=>by exact(d7 4 14 a b g).elim) f ⟨by exact bZ 4 15 q d,by exact ip 4 16 q d g,λt G=>by exact(dy 1 19 G).elim,λa b=>by exact(d7 4 17 b g).elim⟩
  refine⟨by exact bJ 4 18 q,by exact DB 4 19 f.la f.lb q d g,Y,Z,eL,?_,t1,t2,by exact IT tl H q d⟩;refine(show i-(u-e)=e+(s-x)+0 by exact ip 4 20 f.la q d).symm▸?_;exact ch
 ·have hs:s=0:=by
   cases s with
   |zero=>rfl
   |succ s =>
    exfalso;obtain⟨z,k,P,Q⟩:=b8.mp (F.left s (by exact bZ 4 21 d q));have Q:=(c.first z ((show u+(s+1)-1-s=u by exact bJ 4 22)▸k))▸Q;cases Q
  subst hs;have R:=F.left;have S:=F.stopL;have o:=F.la;have p:=F.lb;simp only[L9] at R S o p d g;have hx:x=e:=by
   rcases PD x e with r | r | r
   ·exfalso;have:=S (by exact bZ 4 23 f.la r) (by exact bZ 4 23 f.lb r);have B:=f.eq x r;have B:=(show u-1-x=u-x-1 by exact bJ 5 0)▸B;have B:=(show v-1-x=v-x-1 by exact bJ 5 0)▸B;have this:=(je B (X _ (by exact bZ 5 1 f.la r) (by exact bZ 5 2 f.la r)))▸this;cases this
   ·exact r
   ·exfalso;have:=oU (R e r);rw[show u-1-e=u-e-1 by exact bJ 5 0,show v-1-e=v-e-1 by exact bJ 5 0] at this;exact f.stop (by exact bZ 4 23 o r) (by exact bZ 4 23 p r) this
  subst hx;refine⟨by exact bM 0 14 d,by exact bZ 5 3 g d,L,[],by exact(JO ..).symm▸rfl,by exact bM 5 4 d,λC=>?_,λC=>?_,JN _⟩
  ·refine(d)▸?_;refine(g)▸?_;exact hl (by exact ip 5 5 C.1 C.2 d g)
  ·exact E (by exact ip 5 6 d g C)
theorem sV{u v m f i j k s k₀ x y R}(F:ze as bs J alo ahi blo bhi (u+s) (v+s) k₀ x y)(B:i=u+s-x)(H:j=v+s-x)(g:k=k₀+x+y)(h1:alo<=u)(E:u+m<=ahi)(h3:blo<=v)(M:v+m<=bhi)(e3:s+k₀<=m)(aa:0<k₀)(c:Core as bs J u v m)(A:dm as J (u+m) ahi)(U:dm bs J (v+m) bhi)(o:y9 as bs ahi bhi (u+m) (v+m) f)(hr:i+k<ahi/\j+k<bhi->Tree as bs J (i+k) ahi (j+k) bhi R)(Q:¬(i+k<ahi/\j+k<bhi)->R=[])(T:i+k<ahi/\j+k<bhi->zf as bs J (i+k) ahi (j+k) bhi R):Dq R (i+k) (j+k) (u+m+f) (m-(s+k₀)):=by
 have d:i+k=u+(s+k₀+y):=Ij B g F.la;have e:j+k=v+(s+k₀+y):=Ij H g F.lb;by_cases q:s+k₀+y<m
 ·have cq:=F.stopR (by exact ip 5 7 q E) (by exact ip 5 7 q M);obtain⟨z,D,X⟩:=c.same (s+k₀+y) q;replace cq:=(show u+s+k₀+y=u+(s+k₀+y) by exact bZ 5 8)▸cq;replace cq:=(show v+s+k₀+y=v+(s+k₀+y) by exact bZ 5 8)▸cq;have hz:J z=false:=by
   cases ez:J z with
   |false=>rfl
   |true=>have cq:=(je (D.trans X.symm) ⟨z,D,ez⟩)▸cq;cases cq
  have S:0<y:=by
   cases y with
   |succ y=>exact Pz _
   |zero =>
    exfalso;have C:=iC F.lg (by exact bZ 2 20 E h1) (by exact bZ 2 20 M h3) (by exact ip 5 9 q E) (by exact pO 5 10 q o.hb);have C:=(show u+s+k₀=u+(s+k₀+0) by exact bJ 5 11)▸C;have C:=(show v+s+k₀=v+(s+k₀+0) by exact bJ 5 11)▸C;rw[b8.mpr ⟨z,D,X,by refine(hz).symm▸?_;rfl⟩] at C;cases C
  obtain⟨L0,T1,P,ch,t1,t2,tl⟩:=T (by exact zg 5 12 E M q d e) (u+(s+k₀+y)) (v+(s+k₀+y)) (m-(s+k₀+y)) 0 f (by exact bM 5 13 d) (by exact bZ 5 14 E q) (by exact bM 5 13 e) (by exact bZ 5 14 M q) ⟨by exact bM 5 15 q,λt G=>by
    refine(Le u ..).symm▸?_;refine(Le v ..).symm▸?_;exact c.same _ (by exact bJ 5 16 G),λw hw=>by have hw:=D▸hw;cases hw;exact hz,λw hw=>c.last w (by refine(hw)▸?_;congr 1;exact bZ 5 17 q)⟩
   (λt a b=>by exact(zg 5 18 a B g b).elim) (λt a b=>A t (by exact bZ 5 19 a) b) (λt a b=>by exact(zg 5 18 a H g b).elim) (λt a b=>U t (by exact bZ 5 19 a) b) ⟨by exact bM 5 20 d,by exact bM 5 20 e,λt G=>by exact(dy 1 19 G).elim,λa b=>by exact(zg 5 21 b H g).elim⟩
   (by refine(show u+(s+k₀+y)+(m-(s+k₀+y))=u+m by exact bJ 5 22 q).symm▸?_;refine(show v+(s+k₀+y)+(m-(s+k₀+y))=v+m by exact bJ 5 22 q).symm▸?_;exact o)
  rw[t2 (by exact Cc 5 23 g B)] at P;refine⟨by exact d7 6 0 q d,?_,by rw[P,MF];exact IU tl S q⟩;rw[P,MF,d,e,show u+m+f-(u+(s+k₀+y))=0+(m-(s+k₀+y))+f by exact bZ 6 1 q];exact ch
 ·have h:s+k₀=m:=by
   by_cases r:s+k₀=m
   ·exact r
   ·exfalso;obtain⟨z,D,X,Y⟩:=b8.mp (F.right (m-1-s-k₀) (by exact bZ 6 2 e3 q r));have:=c.last z (by refine KH ?_ (D);congr 1;exact bZ 6 3 e3 r);have Y:=this▸Y;cases Y
  have Z:=F.right;have F2:=F.stopR;rw[Le u s k₀,Le v s k₀,h] at Z F2;have hy:y=f:=by
   rcases PD y f with r | r | r
   ·exfalso;have:=F2 (by exact bZ 3 15 o.ha r) (by exact bZ 3 15 o.hb r);have this:=(je (o.eq y r) (A _ (by exact bM 1 18) (by exact bZ 3 15 o.ha r)))▸this;cases this
   ·exact r
   ·exact(o.stop (by exact pO 6 4 F.ha h r) (by exact pO 6 4 F.hb h r) (oU (Z f r))).elim
  subst hy;have hR:R=[]:=by
   by_cases p:i+k<ahi/\j+k<bhi
   ·have:=nM (hr p) (by exact bM 1 12 p.1) (by exact bM 1 12 p.2) (λt a b=>A t (by exact DB 6 5 a B g q) b) 0 ⟨by exact bM 3 20 p.1,by exact bM 3 20 p.2,λt G=>by exact(dy 1 19 G).elim,λa b=>by
     have ms:=o.stop (by exact DB 6 6 p.1 h B g) (by exact DB 6 6 p.2 h H g);refine(L9 ..).symm▸?_;rw[L9];refine(d ..).symm▸?_;refine(e ..).symm▸?_;refine(h ..).symm▸?_;refine(Le ..)▸?_;refine(Le ..)▸?_;exact ms⟩
    refine(this ..).symm▸?_;exact(if_pos rfl ..).symm▸rfl
   ·exact Q p
  refine(hR).symm▸?_;exact⟨by exact d7 6 7 d h,by exact zg 6 8 h g B,JN _⟩
end
theorem vQ{T}(h:Tree as bs J alo ahi blo bhi T):zf as bs J alo ahi blo bhi T:=by
 induction h with
 |leaf h =>
  intro u v m e f g w o p c C a D d Y mr;exfalso;obtain⟨z,A,k₀,x,y,F,H,M,P⟩:=jR h (by exact bZ 2 20 w g) (by exact bZ 2 20 p o);obtain⟨s,_,_,_,q⟩:=jm F.lg g w o p c C a D d;exact bZ 3 21 q P
 |@node alo ahi blo bhi i j k L R h hk hl Q hr S U X =>
  intro u v m e f g w o p c C a D d Y mr;obtain⟨z,A,k₀,x,y,F,H,M,P⟩:=jR h (by exact bZ 2 20 w g) (by exact bZ 2 20 p o);obtain⟨s,e1,e2,G,r⟩:=jm F.lg g w o p c C a D d;subst e1 e2;refine Jg λzz=>?_;obtain⟨B,Z,L0,T1,eL,ch,t1,t2,tl⟩:=vR F H M g o p G r c C D Y hl Q U;obtain⟨r1,E,rl⟩:=sV F H M P g w o p G r c a d mr hr S X;refine zz ?_;refine⟨L0,T1++(i,j,k)::R,by rw[eL,Jv],?_,t1,t2,by refine(Ji).symm▸?_;refine(J5).symm▸?_;exact ip 6 9 rl tl G r⟩;have:=ch.append (T':=(i,j,k)::R) (n':=k+(u+m+f-(i+k))) ⟨by exact bM 3 10 B,by exact bZ 6 10 Z B,hk,by exact bM 1 18,by
   rw[show u-e+(i-(u-e))+k=i+k by exact bJ 6 11 B,show v-e+(i-(u-e))+k=j+k by exact d7 6 12 Z B,show k+(u+m+f-(i+k))-k=u+m+f-(i+k) by exact bM 6 13];exact E⟩
  rw[show e+m+f=i-(u-e)+(k+(u+m+f-(i+k))) by exact pO 6 14 r1 B Y.la];exact this
noncomputable def one(c:Nat):Str:=⟨#[c]⟩
mutual
theorem one_inj{c d}(h:one c=one d):c=d:=by
 have:=congrArg (λx:Str=>x.cps.toList) h
 simpa [one] using this
theorem rt(l:List Nat):chars (tx l)=l.map one:=by
 unfold chars;refine(fF ..).symm▸?_;rfl
end
mutual
theorem cK(l:List Nat)(i:Nat):(chars (tx l))[i]?=(l[i]?).map one:=by rw[rt,JY]
theorem dw(l:List Nat):(chars (tx l)).length=l.length:=by rw[rt,Jt]
theorem kY{x}{y:Option Nat}(h:x.map one=y.map one):x=y:=by
 cases x with
 |none=>cases y with
  |none=>rfl
  |some y=>cases h
 |some x=>cases y with
  |none=>cases h
  |some y=>exact(one_inj (JP h)).symm▸rfl
theorem jr(c:Nat):cc b9 (one c)=cY c:=nQ c
theorem g7(a b:Nat)(l m:List Nat):bL (a::l) (b::m)=if a=b then bL l m+1 else 0:=rfl
end
theorem fP:∀l m:List Nat,(∀t,t<bL l m->l[t]?=m[t]?)/\(bL l m<l.length->bL l m<m.length->l[bL l m]?≠m[bL l m]?)
 |[],Z=>⟨λt h=>absurd h (Jy _),λh=>absurd h (Jy _)⟩
 |Z::L,[]=>⟨λt h=>absurd h (Jy _),λZ h=>absurd h (Jy _)⟩
 |a::l,b::m=>by
  obtain⟨d,f⟩:=fP l m;refine(g7 ..).symm▸?_;by_cases e:a=b
  ·rw[if_pos e];refine⟨λt c=>?_,λp q=>?_⟩
   ·cases t with
    |zero=>refine(e).symm▸?_;rfl
    |succ t=>exact d t (by exact bJ 2 1 c)
   ·exact f (Og p) (Og q)
  ·rw[if_neg e];exact⟨λt c=>absurd c (Jy _),λZ L q=>e (JP q)⟩
end
section
variable (a:List Nat)(c:List Nat)(x:List Nat)
mutual
theorem y0{t}(h:t<a.length):(a++c++x)[t]?=a[t]?:=by rw[Jv,JU h]
theorem AF{t}(h:t<c.length):(a++c++x)[a.length+t]?=c[t]?:=by
 rw[Jv,JW (by exact bM 1 18),LY,JU h]
theorem yZ(t:Nat):(a++c++x)[a.length+c.length+t]?=x[t]?:=by
 rw[JW (by rw[Ji];exact bM 1 18),Ji,LY]
theorem eu:(a++c++x).length=a.length+c.length+x.length:=by rw[Ji,Ji]
end
theorem iV:∀(T:List (Nat×Nat×Nat)) (i j k n:Nat) (l:List (Nat×Nat×Nat)),Chain T (i+k) (j+k) n->T.foldl b5 ((i,j,k),l)=((i,j,k+n),l)
 |[],i,j,k,n,l,h=>by
  have c:n=0:=h;subst c;rfl
 |(p,q,a)::T,i,j,k,n,l,⟨d,f,r,g,o⟩=>by
  refine(MH).symm▸?_;have e:b5 ((i,j,k),l) (p,q,a)=((i,j,k+a),l):=by
   unfold b5;exact(if_pos ⟨d.symm,f.symm⟩)
  rw[e,iV T i j (k+a) (n-a) l (by refine(Le ..)▸?_;refine(Le ..)▸?_;exact o),show k+a+(n-a)=k+n by exact bJ 2 19 g]
set_option tactic.hygienic true in
theorem v8{L0 a A B n p la lb}(d:Chain a A B n)(f:0<n)(c:L0=if p=0 then [] else [(0,0,p)])(x:0<p->¬(A=p/\B=p)) :
  bU (L0++a) la lb=(if p=0 then [] else [(0,0,p)])++[(A,B,n),(la,lb,0)]:=by
 match a,d with
 |[],d =>
  have:n=0:=d;exact(bM 6 15 f this).elim
 |(i,j,k)::a,⟨v,w,y,g,h⟩ =>
  subst v w;unfold bU;by_cases q:p=0
  ·rw[if_pos q] at c ⊢;rw[c,MF,MH];have e:b5 ((0,0,0),[]) (i,j,k)=((i,j,k),[]):=by
    unfold b5;dsimp only
    split
    ·rename_i r
     refine(r.1)▸?_;refine(r.2)▸?_;simp
    ·rfl
   refine(e).symm▸?_;refine(iV a i j k (n-k) [] h).symm▸?_;refine(show k+(n-k)=n by exact bM 6 16 g).symm▸?_;dsimp only;rw[if_neg (by exact bM 3 17 f)];rfl
  ·rw[if_neg q] at c ⊢;rw[c,Rr,MH,MH];have o:b5 ((0,0,0),[]) (0,0,p)=((0,0,p),[]):=by
    unfold b5;dsimp only;refine KH (if_pos ⟨rfl,rfl⟩ ..) ?_;exact(Kf ..).symm▸rfl
   have u:b5 ((0,0,p),[]) (i,j,k)=((i,j,k),[(0,0,p)]):=by
    unfold b5;dsimp only;rw[if_neg (λr=>x (by exact dy 6 17 q) ⟨by exact bM 6 18 r.1,by exact bM 6 18 r.2⟩),if_neg q];rfl
   rw[o,u,iV a i j k (n-k) [(0,0,p)] h,show k+(n-k)=n by exact bM 6 16 g];dsimp only;rw[if_neg (by exact bM 3 17 f)];rfl
theorem iU{a a' c x x' T}(F:∀t∈a,cY t=true)(H:∀t∈a',cY t=true)(P:∀t∈x,cY t=true)(Q:∀t∈x',cY t=true)(hc:0<c.length)(J:∀t,c[0]?=Jh t->cY t=false)(M:∀t,c[c.length-1]?=Jh t->cY t=false)(h:Tree (chars (tx (a++c++x))) (chars (tx (a'++c++x'))) (cc b9) 0 (a++c++x).length 0 (a'++c++x').length T){e p f}(X:e=bL a.reverse a'.reverse)(hp:p=bL (a.take (a.length-e)) (a'.take (a'.length-e)))(Y:f=bL x x') :
  bU T (a++c++x).length (a'++c++x').length=(if p=0 then [] else [(0,0,p)])++[(a.length-e,a'.length-e,e+c.length+f),((a++c++x).length,(a'++c++x').length,0)]/\2*T.length<=c.length+3:=by
 have le:=cG a.reverse a'.reverse;have R:=cG x x';have u:=cG (a.take (a.length-e)) (a'.take (a'.length-e));have le:=(X).symm▸le;have le:=Ki▸le;have le:=Ki▸le;rw[<-Y] at R;have u:=(hp).symm▸u;have u:=JV▸u;have u:=JV▸u;have y:=fP a.reverse a'.reverse;have G:=fP x x';have z:=fP (a.take (a.length-e)) (a'.take (a'.length-e));have y:=(X).symm▸y;have y:=Ki▸y;have y:=Ki▸y;have G:=(Y).symm▸G;have z:=(hp).symm▸z;have z:=JV▸z;have z:=JV▸z;have o:∀(a c x:List Nat),(∀t∈a,cY t=true)->dm (chars (tx (a++c++x))) (cc b9) 0 a.length:=λa c x F t Z j=>by
  refine⟨one a[t],?_,by refine KH (jr ..) ?_;exact F _ (LS j)⟩;rw[cK,y0 a c x j,Jo j];rfl
 have v:∀(a c x:List Nat),(∀t∈x,cY t=true)->dm (chars (tx (a++c++x))) (cc b9) (a.length+c.length) (a++c++x).length:=λa c x P t g i=>by
  rw[eu] at i;have E:t-(a.length+c.length)<x.length:=by exact bJ 6 19 i g
  refine⟨one x[t-(a.length+c.length)],?_,by refine KH (jr ..) ?_;exact P _ (LS E)⟩;have:=yZ a c x (t-(a.length+c.length));rw[show a.length+c.length+(t-(a.length+c.length))=t by exact bM 6 16 g] at this;rw[cK,this,Jo E];rfl
 have core:Core (chars (tx (a++c++x))) (chars (tx (a'++c++x'))) (cc b9) a.length a'.length c.length:=by
  refine⟨hc,λt j=>⟨one c[t],?_,?_⟩,λw hw=>?_,λw hw=>?_⟩
  ·rw[cK,AF a c x j,Jo j];rfl
  ·rw[cK,AF a' c x' j,Jo j];rfl
  ·have:=AF a c x hc;rw[L9] at this;rw[cK,this] at hw;obtain⟨d,hd,rfl⟩:=LZ.mp hw;rw[jr];exact J d hd
  ·have:=AF a c x (t:=c.length-1) (by exact bM 3 1 hc);rw[show a.length+(c.length-1)=a.length+c.length-1 by exact bJ 6 20 hc] at this;rw[cK,this] at hw;obtain⟨d,hd,rfl⟩:=LZ.mp hw;rw[jr];exact M d hd
 have wu:∀t,t<a.length->t<a'.length->((chars (tx (a++c++x)))[a.length-1-t]?=(a.reverse[t]?).map one/\(chars (tx (a'++c++x')))[a'.length-1-t]?=(a'.reverse[t]?).map one):=λt g i=>by
  rw[cK,cK,y0 a c x (by exact bM 6 21 g),y0 a' c x' (by exact bM 6 21 i),Ov g,Ov i];exact⟨rfl,rfl⟩
 have ml:Du (chars (tx (a++c++x))) (chars (tx (a'++c++x'))) 0 0 a.length a'.length e:=by
  refine⟨by exact bM 6 22 le.1,by exact bM 6 22 le.2,λt j=>?_,λg i q=>?_⟩
  ·obtain⟨B,C⟩:=wu t (by exact bJ 6 23 j le.1) (by exact bJ 6 23 j le.2);refine(B).symm▸?_;rw[C,y.1 t j]
  ·obtain⟨B,C⟩:=wu e (by exact bJ 7 0 g) (by exact bJ 7 0 i);rw[show a.length-e-1=a.length-1-e by exact bJ 5 0,show a'.length-e-1=a'.length-1-e by exact bJ 5 0,B,C] at q;exact y.2 (by exact bJ 7 0 g) (by exact bJ 7 0 i) (kY q)
 have mr:y9 (chars (tx (a++c++x))) (chars (tx (a'++c++x'))) (a++c++x).length (a'++c++x').length (a.length+c.length) (a'.length+c.length) f:=by
  refine⟨by refine(eu ..).symm▸?_;exact bJ 7 1 R.1,by refine(eu ..).symm▸?_;exact bJ 7 1 R.2,λt j=>?_,λg i q=>?_⟩
  ·refine(cK ..).symm▸?_;rw[cK,yZ,yZ,G.1 t j]
  ·rw[cK,cK,yZ,yZ] at q;rw[eu] at g i;exact G.2 (by exact bJ 7 2 g) (by exact bJ 7 2 i) (kY q)
 obtain⟨L0,T1,U,ch,t1,t2,tl⟩:=vQ h a.length a'.length c.length e f (JN _) (by refine(eu ..).symm▸?_;exact bM 1 18) (JN _) (by refine(eu ..).symm▸?_;exact bM 1 18) core (o a c x F) (v a c x P) (o a' c x' H) (v a' c x' Q) ml mr;have A:∀t,t<a.length-e->t<a'.length-e->((chars (tx (a++c++x)))[0+t]?=((a.take (a.length-e))[t]?).map one/\(chars (tx (a'++c++x')))[0+t]?=((a'.take (a'.length-e))[t]?).map one):=λt g i=>by
  rw[Kf,cK,cK,y0 a c x (by exact bJ 7 3 g),y0 a' c x' (by exact bJ 7 3 i),Q0 g,Q0 i];exact⟨rfl,rfl⟩
 have D:L0=if p=0 then [] else [(0,0,p)]:=by
  by_cases q:0<a.length-e/\0<a'.length-e
  ·refine nM (t1 q) (JN _) (JN _) (λt g i=>o a c x F t g (by exact bJ 7 3 i)) p ⟨by exact bJ 7 4 u.1,by exact bJ 7 4 u.2,λt j=>?_,λg i r=>?_⟩
   ·obtain⟨B,C⟩:=A t (by exact bZ 7 5 j u.1) (by exact bZ 7 5 j u.2);refine(B).symm▸?_;rw[C,z.1 t j]
   ·obtain⟨B,C⟩:=A p (by exact bJ 7 6 g) (by exact bJ 7 6 i);have r:=(B ..)▸r;rw[C] at r;exact z.2 (by exact bZ 7 7 g) (by exact bZ 7 7 i) (kY r)
  ·rw[t2 q,if_pos (by exact d7 7 8 u.1 u.2 q)]
 refine⟨?_,?_⟩
 ·rw[U];refine v8 ch (by exact bZ 7 9 hc) D λk aa=>?_;have S:=wu e (by exact d7 7 10 (by assumption) k) (by exact d7 7 11 (by assumption) k);have r2:=A (p-1) (by exact bZ 7 12 (by assumption) k) (by exact bZ 7 13 (by assumption) k);have r3:=z.1 (p-1) (by exact bM 3 1 k);rw[show a.length-1-e=0+(p-1) by exact d7 7 14 (by assumption),show a'.length-1-e=0+(p-1) by exact d7 7 15 (by assumption),r2.1,r2.2,r3] at S;exact(y.2 (by exact d7 7 10 (by assumption) k) (by exact d7 7 11 (by assumption) k)) (kY (S.1.symm.trans S.2))
 ·rw[U,Ji,D]
  split
  ·show 2*(0+_)<=_;exact bM 7 16 tl
  ·show 2*(1+_)<=_;exact bM 7 17 tl
noncomputable def eK(t:Str):Nat:=if t=lS then 32 else if t=nH then 94 else if t=nG then 45 else 43
noncomputable def oneOf(a:List dz):List Nat:=(a.map λc=>JQ (c.2.2.1-c.2.1) (eK c.1)).flatten
noncomputable def fG(a:List dz):List Nat:=(a.map λc=>JQ (c.2.2.2.2-c.2.2.2.1) (eK c.1)).flatten
mutual
theorem vv(l m:List dz):oneOf (l++m)=oneOf l++oneOf m:=by unfold oneOf;refine(JF).symm▸?_;exact(RU).symm▸rfl
theorem uU(l m:List dz):fG (l++m)=fG l++fG m:=by unfold fG;refine(JF).symm▸?_;exact(RU).symm▸rfl
theorem wL:eK (lS)=32:=by decide
theorem tP:eK (nH)=94:=by decide
theorem zA:eK (nG)=45:=by decide
theorem zw:eK (qy)=43:=by decide
end
mutual
theorem vt{i j ai bj}:oneOf (ct i j ai bj)=JQ (ai-i) (if j<bj then 94 else 45):=by
 delta ct oneOf;by_cases a:i<ai
 ·by_cases c:j<bj
  ·rw[if_pos ⟨a,c⟩,if_pos c];simp [tP]
  ·rw[if_neg (λq=>c q.2),if_pos a,if_neg c];simp [zA]
 ·rw[if_neg (λq=>a q.1),if_neg a,show ai-i=0 by exact bM 7 18 a]
  split
  ·simp [show ai-i=0 by exact bM 7 18 a]
  ·rfl
theorem uT{i j ai bj}:fG (ct i j ai bj)=JQ (bj-j) (if i<ai then 94 else 43):=by
 delta ct fG;by_cases a:j<bj
 ·by_cases c:i<ai
  ·rw[if_pos ⟨c,a⟩,if_pos c];simp [tP]
  ·rw[if_neg (λq=>c q.1),if_neg c,if_pos a,if_neg c];simp [zw]
 ·rw[if_neg (λq=>a q.2),if_neg a,show bj-j=0 by exact bM 7 18 a]
  split
  ·simp [show bj-j=0 by exact bM 7 18 a]
  ·rfl
end
set_option tactic.hygienic true in
theorem xr{i j k}:oneOf (if k=0 then [] else [(lS,i,i+k,j,j+k)])=JQ k 32:=by
 split
 ·rename_i h;refine(h).symm▸?_;rfl
 ·simp [oneOf,wL]
set_option tactic.hygienic true in
theorem wH{i j k}:fG (if k=0 then [] else [(lS,i,i+k,j,j+k)])=JQ k 32:=by
 split
 ·rename_i h;refine(h).symm▸?_;rfl
 ·simp [fG,wL]
theorem rp{A B n p la lb}(d:p<=A)(e:p<=B) :
  oneOf (dh ((if p=0 then [] else [(0,0,p)])++[(A,B,n),(la,lb,0)]))=JQ p 32++JQ (A-p) (if p<B then 94 else 45)++JQ n 32++JQ (la-(A+n)) (if B+n<lb then 94 else 45) /\
  fG (dh ((if p=0 then [] else [(0,0,p)])++[(A,B,n),(la,lb,0)]))=JQ p 32++JQ (B-p) (if p<A then 94 else 43)++JQ n 32++JQ (lb-(B+n)) (if A+n<la then 94 else 43):=by
 have a:dh ((if p=0 then [] else [(0,0,p)])++[(A,B,n),(la,lb,0)])=(if p=0 then [] else [(lS,0,0+p,0,0+p)])++ct p p A B++(if n=0 then [] else [(lS,A,A+n,B,B+n)])++ct (A+n) (B+n) la lb:=by
  unfold dh;by_cases q:p=0
  ·subst q;simp [dG]
  ·rw[if_neg q,if_neg q];have c:ct 0 0 0 0=[]:=rfl;simp [dG,c,q]
 refine(a).symm▸?_;simp only[vv,uU,vt,uT,xr,wH,and_self]
noncomputable def f9(a b:Nat):Nat:=if b=32/\Kw a=true then a else b
theorem qP(a:Nat):NI ⟨#[a]⟩=Kw a:=by
 unfold NI;simp [Str.length]
theorem kr(a b:Nat):c7 a b=tx [f9 a b]:=by
 delta c7 f9;rw[qP]
 split <;> rfl
theorem k7(x y:List Nat):kept (tx x) (tx y)=tx (L7 f9 x y):=by
 have h:cF c7 (tx x) (tx y)=((L7 f9 x y).map λc=>[c]).map tx:=by
  unfold cF;rw[fF,fF,VO,NS,J6,NS]
  congr 1
  funext a b
  exact kr a b
 unfold kept;rw[h,uy]
 congr 1
 generalize L7 f9 x y=l
 induction l with
 |nil=>rfl
 |cons a l d=>rw[Ke,List.flatten_cons,d];rfl
theorem fQ:∀l m:List Nat,bL l m=bL m l
 |[],[]=>rfl
 |[],Z::L=>rfl
 |Z::L,[]=>rfl
 |a::l,b::m=>by
  rw[g7,g7,fQ l m];by_cases e:a=b
  ·rw[if_pos e,if_pos e.symm]
  ·rw[if_neg e,if_neg (Mj e)]
theorem hG{l}(h : ∀t∈l,Kw t=cY t):L7 f9 l (JQ l.length 32)=l.map λt=>if cY t then t else 32:=by
 induction l with
 |nil=>rfl
 |cons a l d =>
  rw[J5,Mu,Q9,d λt c=>h t (JR _ c),Ke]
  congr 1
  unfold f9;refine(h a (JJ ..)).symm▸?_;by_cases e:cY a=true
  ·rw[if_pos ⟨rfl,e⟩,if_pos e]
  ·rw[if_neg (λq=>e q.2),if_neg e]
theorem lu{s}(c:s≠32):∀l:List Nat,L7 f9 l (JQ l.length s)=JQ l.length s
 |[]=>rfl
 |a::l=>by
  rw[J5,Mu,Q9,lu c l]
  congr 1
  unfold f9;exact(if_neg (λq=>c q.1))
mutual
theorem jM{l:List Nat}(h : ∀t∈l,cY t=true):(l.map λt=>if cY t then t else 32)=l:=by
 induction l with
 |nil=>rfl
 |cons a l d=>rw[Ke,d λt c=>h t (JR _ c),if_pos (h a (JJ ..))]
theorem ib{t}(h:cY t=true):Kw t=cY t:=by
 refine KH ?_ (h).symm;unfold cY at h;rw[Qa,beq_iff_eq,beq_iff_eq] at h;rcases h with rfl | rfl <;> decide
end
mutual
theorem qL{a a' c x x' e p f alone}(B:∀t∈a,cY t=true)(T:∀t∈x,cY t=true)(hc:∀t∈c,Kw t=cY t)(A:alone≠32)(C:e=bL a.reverse a'.reverse)(E:p=bL (a.take (a.length-e)) (a'.take (a'.length-e)))(D:f=bL x x') :
  L7 f9 (a++c++x) (JQ p 32++JQ (a.length-e-p) (if p<a'.length-e then 94 else alone)++JQ (e+c.length+f) 32++JQ ((a++c++x).length-(a.length-e+(e+c.length+f))) (if a'.length-e+(e+c.length+f)<(a'++c++x').length then 94 else alone))=fU a a' c x x' alone:=by
 have le:=cG a.reverse a'.reverse;have F:=cG x x';have y:=cG (a.take (a.length-e)) (a'.take (a'.length-e));delta fU dR d6;refine(C)▸?_;refine(E)▸?_;refine(D)▸?_;rw[<-C,Ki,Ki] at le;rw[<-D] at F;rw[<-E,JV,JV] at y;refine(JV).symm▸?_;refine(JV).symm▸?_;rw[eu,eu];have G:min (a.length-e) a.length=a.length-e:=by exact bM 7 19
 have H:min (a'.length-e) a'.length=a'.length-e:=by exact bM 7 19
 refine(G).symm▸?_;refine(H).symm▸?_;rw[G,H] at y;have Q:(a'.length-e+(e+c.length+f)<a'.length+c.length+x'.length)=(f<x'.length):=by
  apply propext;exact d7 7 20 le.2
 simp only[Q];rw[show a.length+c.length+x.length-(a.length-e+(e+c.length+f))=x.length-f by exact d7 7 21 le.1];generalize v:(if p<a'.length-e then 94 else alone)=s1;generalize w:(if f<x'.length then 94 else alone)=s2;have Y:s1≠32:=by refine(v)▸?_;split;decide;exact A
 have Z:s2≠32:=by refine(w)▸?_;split;decide;exact A
 generalize g:(a.take (a.length-e)).take p=q;generalize h:(a.take (a.length-e)).drop p=r;generalize i:a.drop (a.length-e)=a3;generalize j:x.take f=o;generalize k:x.drop f=x2;have u:a=q++r++a3:=by rw[<-g,<-h,<-i,M0,M0]
 have z:x=o++x2:=by rw[<-j,<-k,M0]
 have U:a3.length=e:=by rw[<-i,K8];exact bM 8 0 le.1
 have X:o.length=f:=by rw[<-j,JV];exact bM 8 1 F.1
 have J:∀t∈q,cY t=true:=λt d=>B t (by rw[u];simp [d]);have M:∀t∈a3,cY t=true:=λt d=>B t (by rw[u];simp [d]);have P:∀t∈o,cY t=true:=λt d=>T t (by rw[z];simp [d]);refine((show r.length=a.length-e-p from by refine(h)▸?_;refine(K8).symm▸?_;refine(JV).symm▸?_;exact bJ 7 23))▸?_;refine((show x2.length=x.length-f from by refine(k)▸?_;exact(K8).symm▸rfl))▸?_;have S:JQ (e+c.length+f) 32=JQ a3.length 32++JQ c.length 32++JQ o.length 32:=by
  rw[U,X,PG,PG]
 refine(S).symm▸?_;refine((show q.length=p from by refine(g)▸?_;refine(JV).symm▸?_;refine(JV).symm▸?_;exact bJ 7 22 y.1))▸?_;have R:a++c++x=q++(r++(a3++(c++(o++x2)))):=by
  rw[u,z];simp only[Jv]
 rw[R];simp only[Jv];rw[Ms (by simp),Ms (by simp),Ms (by simp),Ms (by simp),Ms (by simp)];rw[hG λt d=>ib (J t d),lu Y,hG λt d=>ib (M t d),hG hc,hG λt d=>ib (P t d),lu Z,jM J,jM M,jM P]
theorem lN{a a' c x x' alone}(g:∀t∈a,cY t=true)(j:∀t∈x,cY t=true)(i:Kw alone=cY alone):∀t∈fU a a' c x x' alone,Kw t=cY t:=by
 have hw:∀t,cY t=true->Kw t=cY t:=λt h=>ib h;have d : ∀(b:Prop) [Decidable b],Kw (if b then 94 else alone)=cY (if b then 94 else alone):=λb Z=>by split;decide;exact i
 intro t f;unfold fU dR d6 at f;simp only[Oj,List.mem_replicate,Ra] at f;rcases f with ((((h | h) | h) | h) | h) | h
 ·exact hw t (g t (OE (OE h)))
 ·rw[h.2];exact d _
 ·exact hw t (g t (List.mem_of_mem_drop h))
 ·obtain⟨s,_,rfl⟩:=h;by_cases e:cY s=true
  ·rw[if_pos e];exact hw s e
  ·rw[if_neg e];decide
 ·exact hw t (j t (OE h))
 ·rw[h.2];exact d _
theorem rF(l:List Nat):below (tx l)=rowsOf l:=by
 delta below rowsOf;rw[a8];by_cases h:l=[]
 ·rw[if_pos (by refine(h).symm▸?_;rfl),if_pos h]
 ·rw[if_neg (λq=>h (List.eq_nil_of_length_eq_zero q)),if_neg h];rw[show ji=tx [63,32] from rfl,show(⟨⟨[10]⟩⟩:Str)=tx [10] from rfl,cL,cL]
end
theorem xZ{a a' c x x' cs}(i:∀t∈a,cY t=true)(d:∀t∈a',cY t=true)(q:∀t∈x,cY t=true)(g:∀t∈x',cY t=true)(hc:∀t∈c,Kw t=cY t)(j:0<c.length)(k:∀t,c[0]?=Jh t->cY t=false)(o:∀t,c[c.length-1]?=Jh t->cY t=false)(h:fS (tx (a++c++x)) (tx (a'++c++x')) cs) :
  kg (tx (a++c++x)) (tx (a'++c++x')) (tx (oneOf cs)) (tx (fG cs))=tx ([45,32]++(a++c++x))::(rowsOf (bY cY (fU a a' c x x' 45))++tx ([43,32]++(a'++c++x'))::rowsOf (bY cY (fU a' a c x' x 43))):=by
 obtain⟨T,u,rfl⟩:=h;rw[dw,dw] at u ⊢;obtain⟨v,_⟩:=iU i d q g j k o u rfl rfl rfl;refine(v).symm▸?_;have le:=cG a.reverse a'.reverse;have r:=cG (a.take (a.length-bL a.reverse a'.reverse)) (a'.take (a'.length-bL a.reverse a'.reverse));rw[JV,JV] at r;obtain⟨w,y⟩:=rp (A:=a.length-bL a.reverse a'.reverse) (B:=a'.length-bL a.reverse a'.reverse) (n:=bL a.reverse a'.reverse+c.length+bL x x') (p:=bL (a.take (a.length-bL a.reverse a'.reverse)) (a'.take (a'.length-bL a.reverse a'.reverse))) (la:=(a++c++x).length) (lb:=(a'++c++x').length) (by exact bJ 8 2 r.1) (by exact bJ 8 2 r.2);rw[w,y];delta kg marks;rw[k7,k7,qL (alone:=45) i q hc (by decide) rfl rfl rfl,
  qL (a:=a') (a':=a) (x:=x') (x':=x) (alone:=43) (e:=bL a.reverse a'.reverse) (f:=bL x x') d g hc (by decide) (fQ _ _) (fQ _ _) (fQ _ _)]
 rw[jI,jI,rF,rF,jc (lN i q (by decide)),jc (lN d g (by decide))];rw[show lW=tx [45,32] from rfl,show lV=tx [43,32] from rfl,cL,cL]
structure P5.Ok(p:P5):Prop where
 w0:∀t∈p.p0,cY t=true
 w1:∀t∈p.p1,cY t=true
 w3:∀t∈p.p3,cY t=true
 w4:∀t∈p.p4,cY t=true
 head:p.p2[0]?=Jh 61
 c:∀t∈p.p2,t∈[61,59,97,98,99,32,9]
mutual
theorem fg{P:Nat->Prop}{l c}(h:∀t∈l,P t)(hc:P c):∀t∈l++[c],P t:=λt a=>by
 rcases Oj.mp a with q | q
 ·exact h t q
 ·refine(O4.mp q).symm▸?_;exact hc
theorem nR{l}{c d:Nat}(h:l[0]?=Jh d):(l++[c])[0]?=Jh d:=by
 cases l with
 |nil=>cases h
 |cons a l=>exact h
end
inductive zk(p:P5):P5->Prop
 |same:zk p p
 |a0 (w:Nat) (h:cY w=true):zk p {p with p0:=p.p0++[w]}
 |a1 (w:Nat) (h:cY w=true):zk p {p with p1:=p.p1++[w]}
 |both (w:Nat) (h:cY w=true):zk p {p with p0:=p.p0++[w],p1:=p.p1++[w]}
 |a2 (w:Nat) (h:w∈[61,59,97,98,99,32,9]):zk p {p with p2:=p.p2++[w]}
 |a3 (w:Nat) (h:cY w=true):zk p {p with p3:=p.p3++[w]}
 |a4 (w:Nat) (h:cY w=true):zk p {p with p4:=p.p4++[w]}
theorem stp(n:Int)(p:P5):zk p (p.step n):=by
 have a:cY (cR n)=true:=by unfold cR;split <;> rfl
 have c:cR n∈[61,59,97,98,99,32,9]:=by unfold cR;split <;> decide
 have g:=fk n 8 (by decide);have f:=a;have h:=c;have d:lJ n∈[61,59,97,98,99,32,9]:=by
  have:=tX n;unfold lJ;generalize ((n.fdiv 8).fmod 5).toNat=k at this ⊢
  match k with
  |0=>decide
  |1=>decide
  |2=>decide
  |3=>decide
  |4=>decide
  |k+5 =>
   rw[KR (Qr 5 k:5<=k+5)] at this;exact nomatch this
 have i:=d;delta P5.step xW xV xU xT xS;generalize cR n=w at f h ⊢;generalize lJ n=s at i ⊢;obtain⟨k,e⟩:=Rb g.1;rw[e] at g ⊢
 clear e
 match k,g with
 |0,Z=>exact .a0 w f
 |1,Z=>exact .a1 w f
 |2,Z=>exact .both w f
 |3,Z=>exact .a2 s i
 |4,Z=>exact .a2 w h
 |5,Z=>exact .a3 w f
 |6,Z=>exact .a4 w f
 |7,Z=>exact .same
 |k+8,g=>exact absurd g.2 (by exact dy 8 3)
theorem P5.Ok.stp{p q}(h:p.Ok)(s:zk p q):q.Ok:=by
 cases s with
 |same=>exact h
 |a0 w e=>exact {h with w0:=fg h.w0 e}
 |a1 w e=>exact {h with w1:=fg h.w1 e}
 |both w e=>exact {h with w0:=fg h.w0 e,w1:=fg h.w1 e}
 |a2 w e=>exact {h with head:=nR h.head,c:=fg h.c e}
 |a3 w e=>exact {h with w3:=fg h.w3 e}
 |a4 w e=>exact {h with w4:=fg h.w4 e}
noncomputable def P5.sO(p:P5):Nat:=p.p0.length+p.p2.length+p.p3.length
noncomputable def P5.sN(p:P5):Nat:=p.p1.length+p.p2.length+p.p4.length
theorem qc{p q}(s:zk p q):q.sO<=p.sO+1/\q.sN<=p.sN+1:=by
 have a (l:List Nat) (c:Nat):(l++[c]).length=l.length+1:=Ji;delta P5.sO P5.sN;cases s with
 |same=>exact⟨JC _,JC _⟩
 |a0 w e=>dsimp only;rw[a];exact⟨by exact bZ 8 4,by exact bM 1 18⟩
 |a1 w e=>dsimp only;rw[a];exact⟨by exact bM 1 18,by exact bZ 8 4⟩
 |both w e=>dsimp only;rw[a,a];exact⟨by exact bZ 8 4,by exact bZ 8 4⟩
 |a2 w e=>dsimp only;rw[a];exact⟨by exact bZ 8 5,by exact bZ 8 5⟩
 |a3 w e=>dsimp only;rw[a];exact⟨by exact bJ 8 6,by exact bM 1 18⟩
 |a4 w e=>dsimp only;rw[a];exact⟨by exact bM 1 18,by exact bJ 8 6⟩
theorem fX{C:Nat->P5->Prop}(g:∀m p n,C m p->C (m+1) (p.step n))(e:∀m p,C m p->C (m+1) p)(i:∀m,C m P5.start):∀(ns:List Int) (a:List P5) (p:P5) (m:Nat),(∀q∈a,C m q)->C m p->∀q∈dt ns a p,C (m+ns.length) q
 |[],a,p,m,d,f=>λq c=>by
  rcases Oj.mp c with h | h
  ·exact d q h
  ·rw[O4.mp h];exact f
 |n::ns,a,p,m,d,f=>λq c=>by
  rw[CO] at c;refine(J5).symm▸?_;refine(show m+(ns.length+1)=(m+1)+ns.length by exact bJ 8 7).symm▸?_
  split at c
  ·refine fX g e i ns _ _ (m+1) (λr j=>?_) (i _) q c;rcases Oj.mp j with h | h
   ·exact e m r (d r h)
   ·rw[O4.mp h];exact g m p n f
  ·exact fX g e i ns _ _ (m+1) (λr j=>e m r (d r j)) (g m p n f) q c
theorem xP(ns:List Int):∀p∈linesOf ns,p.Ok/\p.sO<=1+ns.length/\p.sN<=2+ns.length:=by
 have:=fX (C:=λm p=>p.Ok/\p.sO<=1+m/\p.sN<=2+m) (λm p n a=>⟨a.1.stp (stp n p),by have:=qc (stp n p);omega,by have:=qc (stp n p);omega⟩) (λm p a=>⟨a.1,by omega,by omega⟩)
  (λm=>⟨⟨λt h=>absurd h JK,λt h=>absurd h JK,λt h=>absurd h JK,by decide,by decide,by decide⟩,by exact bM 1 18,by exact bM 1 18⟩) ns [] P5.start 0 (λq h=>absurd h JK)
  ⟨⟨λt h=>absurd h JK,λt h=>absurd h JK,λt h=>absurd h JK,by decide,by decide,by decide⟩,by decide,by decide⟩
 intro p c;have:=this p c;have this:=(Kf ..)▸this;exact this
noncomputable def P5.core(p:P5):List Nat:=p.p2++[59]
noncomputable def P5.old(p:P5):List Nat:=p.p0++p.core++p.p3
noncomputable def P5.new(p:P5):List Nat:=p.p1++p.core++p.p4
theorem P5.Ok.core{p:P5}(h:p.Ok):(∀t∈p.core,Kw t=cY t)/\0<p.core.length/\(∀t,p.core[0]?=Jh t->cY t=false)/\(∀t,p.core[p.core.length-1]?=Jh t->cY t=false):=by
 unfold P5.core;refine⟨λt a=>?_,by rw[Ji];exact dy 2 10,λt a=>?_,λt a=>?_⟩
 ·have d:t∈[61,59,97,98,99,32,9]:=by
   rcases Oj.mp a with q | q
   ·exact h.c t q
   ·rw[O4.mp q];decide
  simp only[Ub,JK,or_false] at d;rcases d with rfl | rfl | rfl | rfl | rfl | rfl | rfl <;> decide
 ·have a:=(nR h.head)▸a;cases a;rfl
 ·have a:=(Ji ..)▸a;have a:=(LC ..)▸a;have a:=(MM ..)▸a;have a:=(JW (Jl _) ..)▸a;have a:=(Lz ..)▸a;cases a;rfl
noncomputable def P5.rows(p:P5):List Str:=tx ([45,32]++p.old)::(rowsOf (bY cY (fU p.p0 p.p1 p.core p.p3 p.p4 45))++tx ([43,32]++p.new)::rowsOf (bY cY (fU p.p1 p.p0 p.core p.p4 p.p3 43)))
theorem P5.Ok.rows{p:P5}(h:p.Ok){cs}(hc:fS (tx p.old) (tx p.new) cs):kg (tx p.old) (tx p.new) (tx (oneOf cs)) (tx (fG cs))=p.rows:=by
 refine Jg λf=>?_;obtain⟨a,c,d,e⟩:=h.core;refine f ?_;exact xZ h.w0 h.w1 h.w3 h.w4 a c d e hc
theorem P5.Ok.tree{p:P5}(h:p.Ok)(hz:p.core.length<=100){T}(a:Tree (chars (tx p.old)) (chars (tx p.new)) (cc b9) 0 (chars (tx p.old)).length 0 (chars (tx p.new)).length T) :
  T.length<62/\(bU T (chars (tx p.old)).length (chars (tx p.new)).length).length<1000:=by
 refine Jg λi=>?_;obtain⟨j,d,f,g⟩:=h.core;refine i ?_;rw[dw,dw] at a ⊢;obtain⟨e,c⟩:=iU h.w0 h.w1 h.w3 h.w4 d f g a rfl rfl rfl;refine⟨by exact bM 8 8 c hz,?_⟩;refine Kn (JX (congrArg L6 e)) ?_;rw[Ji]
 split
 ·show 0+2<_;exact Cd 8 9
 ·show 1+2<_;exact Cd 8 10
structure jY(K:Nat)(c:dz):Prop where
 tag:c.1=lS∨c.1=nH∨c.1=nG∨c.1=qy
 b1:c.2.1<=K
 b2:c.2.2.1<=K
 b3:c.2.2.2.1<=K
 b4:c.2.2.2.2<=K
theorem rq{K}:∀(a:List (Nat×Nat×Nat)) (st:(Nat×Nat)×List dz),(∀b∈a,b.1+b.2.2<=K/\b.2.1+b.2.2<=K)->st.1.1<=K->st.1.2<=K->(∀c∈st.2,jY K c)->(∀c∈(a.foldl dG st).2,jY K c)/\((a.foldl dG st).2).length<=st.2.length+2*a.length
 |[],st,Z,L,D,h=>⟨h,by simp⟩
 |b::a,st,j,f,g,h=>by
  obtain⟨e,d⟩:=j b (JJ ..);refine(MH).symm▸?_;have o:(ct st.1.1 st.1.2 b.1 b.2.1).length<=1:=by unfold ct;(repeat' split) <;> simp
  have le:(if b.2.2=0 then [] else [(lS,b.1,b.1+b.2.2,b.2.1,b.2.1+b.2.2)]:List dz).length<=1:=by split <;> simp
  obtain⟨p,q⟩:=rq a (dG st b) (λk i=>j k (JR _ i)) e d (λc hc=>by
   rcases Oj.mp hc with hc | hc
   ·rcases Oj.mp hc with hc | hc
    ·exact h c hc
    ·unfold ct at hc
     split at hc
     ·rw[O4.mp hc];exact⟨.inr (.inl rfl),f,by exact bJ 3 19 e,g,by exact bJ 3 19 d⟩
     ·split at hc
      ·rw[O4.mp hc];exact⟨.inr (.inr (.inl rfl)),f,by exact bJ 3 19 e,g,by exact bJ 3 19 d⟩
      ·split at hc
       ·rw[O4.mp hc];exact⟨.inr (.inr (.inr rfl)),f,by exact bJ 8 11 f (by assumption),g,by exact bJ 3 19 d⟩
       ·exact absurd hc JK
   ·split at hc
    ·exact absurd hc JK
    ·rw[O4.mp hc];exact⟨.inl rfl,by exact bJ 3 19 e,e,by exact bJ 3 19 d,d⟩)
  refine⟨p,?_⟩;have:(dG st b).2.length<=st.2.length+2:=by
   show(st.2++_++_).length<=_;rw[Ji];refine(Ji).symm▸?_;exact bJ 8 12 o le
  refine(J5).symm▸?_;exact bZ 8 13 q this
theorem P5.Ok.codes{p:P5}(h:p.Ok){K}(u:p.old.length<=K)(r:p.new.length<=K){cs}(hc:fS (tx p.old) (tx p.new) cs):(∀c∈cs,jY K c)/\cs.length<=6:=by
 refine Jg λy=>?_;obtain⟨A,k,o,q⟩:=h.core;obtain⟨T,i,rfl⟩:=hc;refine y ?_;rw[dw,dw] at i ⊢;obtain⟨e,z⟩:=iU h.w0 h.w1 h.w3 h.w4 k o q i rfl rfl rfl;have le:=cG p.p0.reverse p.p1.reverse;have j:=cG p.p3 p.p4;have g:=cG (p.p0.take (p.p0.length-bL p.p0.reverse p.p1.reverse)) (p.p1.take (p.p1.length-bL p.p0.reverse p.p1.reverse));rw[Ki,Ki] at le;rw[JV,JV] at g;have f:=eu p.p0 p.core p.p3;have d:(p.p0++p.core++p.p3).length<=K:=u;have a:∀b∈bU T (p.p0++p.core++p.p3).length (p.p1++p.core++p.p4).length,b.1+b.2.2<=K/\b.2.1+b.2.2<=K:=by
  rw[e];intro b a;rcases Oj.mp a with a | a
  ·split at a
   ·exact absurd a JK
   ·rw[O4.mp a];exact⟨by dsimp only;exact pO 8 14 f d g.1,by dsimp only;exact pO 8 14 f d g.1⟩
  ·rcases Ub.mp a with rfl | a
   ·exact⟨by exact pO 8 15 f d le.1 j.1,by exact pO 8 15 (eu p.p1 p.core p.p4) (r:(p.p1++p.core++p.p4).length<=K) le.2 j.2⟩
   ·rw[O4.mp a];exact⟨by assumption,by assumption⟩
 have v:(bU T (p.p0++p.core++p.p3).length (p.p1++p.core++p.p4).length).length<=3:=by
  rw[e,Ji]
  split
  ·show 0+2<=3;exact Cd 8 16
  ·show 1+2<=3;exact Cd 8 17
 obtain⟨w,x⟩:=rq (K:=K) _ ((0,0),[]) a (JN _) (JN _) (λc hc=>absurd hc JK);refine⟨w,Jn x ?_⟩;exact dy 8 18 v
mutual
theorem di(tag:Str)(l m:List Str):restOf tag (l++m)=restOf tag l++restOf tag m:=by
 unfold restOf;rw[R7,JF]
theorem eY(a b c d:Nat)(l:List Nat):restOf (tx [a,b]) [tx ([c,d]++l)]=if(decide ([32,32]=[c,d]) || decide ([a,b]=[c,d]))=true then [tx l] else []:=by
 unfold restOf;have g (a b c d:Nat) (l:List Nat):vE (tx [a,b]) (tx ([c,d]++l))=(decide ([32,32]=[c,d]) || decide ([a,b]=[c,d])):=by
  unfold vE;have e:Lo (tx ([c,d]++l)) none (Jh 2)=tx [c,d]:=by
   have:=gq ([c,d]++l) 2;refine this.trans ?_
   rfl
  rw[e];show(tx [32,32] == tx [c,d] || (tx [a,b] == tx [c,d] || false))=_;rw[rU,rU,Uh]
 rw[PO,g]
 split
 ·have f (c d:Nat) (l:List Nat):Lo (tx ([c,d]++l)) (Jh 2) none=tx l:=by
   have:=lH ([c,d]++l) 2;exact this.trans rfl
  rw[List.filter_nil,Ke,Np,f]
 ·rfl
end
mutual
theorem fL(a b:Nat)(h:([a,b]:List Nat)≠[63,32])(l:List Nat):restOf (tx [a,b]) (rowsOf l)=[]:=by
 unfold rowsOf
 split
 ·rfl
 ·rw[Jv];refine KH (eY ..) ?_;refine(decide_eq_false h).symm▸?_;rfl
theorem P5.oK(p:P5):p.rows=[tx ([45,32]++p.old)]++(rowsOf (bY cY (fU p.p0 p.p1 p.core p.p3 p.p4 45))++([tx ([43,32]++p.new)]++rowsOf (bY cY (fU p.p1 p.p0 p.core p.p4 p.p3 43)))):=by
 unfold P5.rows;dsimp only[PQ,MF]
end
mutual
theorem P5.xh(p:P5):restOf (tx [45,32]) p.rows=[tx p.old]:=by
 rw[P5.oK,di,di,di,fL _ _ (by decide),fL _ _ (by decide),eY,eY]
 rfl
theorem P5.xi(p:P5):restOf (tx [43,32]) p.rows=[tx p.new]:=by
 rw[P5.oK,di,di,di,fL _ _ (by decide),fL _ _ (by decide),eY,eY]
 rfl
end
mutual
theorem vi(ps:List P5):restOf (tx [45,32]) (ps.flatMap P5.rows)=ps.map λp=>tx p.old:=by
 induction ps with
 |nil=>rfl
 |cons p ps a=>rw[Po,di,a,p.xh];rfl
theorem vj(ps:List P5):restOf (tx [43,32]) (ps.flatMap P5.rows)=ps.map λp=>tx p.new:=by
 induction ps with
 |nil=>rfl
 |cons p ps a=>rw[Po,di,a,p.xi];rfl
theorem gu(l:List Nat):(rowsOf l).length<=1:=by unfold rowsOf;split <;> simp
end
theorem P5.lL(p:P5):p.rows.length<=4:=by
 unfold P5.rows;rw[J5,Ji];refine(J5).symm▸?_;have:=gu (bY cY (fU p.p0 p.p1 p.core p.p3 p.p4 45));have:=gu (bY cY (fU p.p1 p.p0 p.core p.p4 p.p3 43));exact bM 8 19 (by assumption) this
theorem q7(ps:List P5):(ps.flatMap P5.rows).length<=4*ps.length:=by
 induction ps with
 |nil=>exact JN _
 |cons p ps a=>rw[Po,Ji,J5];have:=p.lL;exact bJ 8 20 a this
theorem fW:∀(ns:List Int) (a:List P5) (p:P5),(dt ns a p).length<=a.length+1+ns.length
 |[],a,p=>by refine(Ji).symm▸?_;exact Jl _
 |n::ns,a,p=>by
  refine(CO ..).symm▸?_
  split
  ·have:=fW ns (a++[p.step n]) P5.start;rw[Ji,LC] at this;rw[J5];exact bZ 8 21 this
  ·have:=fW ns a (p.step n);rw[J5];exact bZ 8 22 this
mutual
theorem qi(a a' c x x':List Nat)(s:Nat):(fU a a' c x x' s).length<=3*a.length+c.length+2*x.length:=by
 delta fU dR d6;simp only[Ji,JV,K8,K6,Jt];exact GX
theorem kf{l n}(h:l.length<=n):∀y∈rowsOf (bY cY l),y.length<=n+3:=by
 intro y a;unfold rowsOf at a
 split at a
 ·exact absurd a JK
 ·rw[O4.mp a,a8,Ji,Ji];have:(bY cY l).length<=l.length:=by unfold bY;rw[JV];exact bM 8 23
  exact bJ 9 0 this h
end
theorem P5.vf{p:P5}(c:p.sO<=64)(d:p.sN<=65):∀y∈p.rows,y.length<=1000:=by
 intro y a;unfold P5.sO at c;unfold P5.sN at d;have lc:p.core.length=p.p2.length+1:=by refine(Ji).trans ?_;rfl
 rcases Ub.mp a with rfl | a
 ·rw[a8];unfold P5.old;rw[Ji,Ji,Ji];exact bZ 9 1 c lc
 ·rcases Oj.mp a with a | a
  ·have:=kf (Jl _) y a;exact ip 9 2 c lc (qi p.p0 p.p1 p.core p.p3 p.p4 45) this
  ·rcases Ub.mp a with rfl | a
   ·rw[a8];unfold P5.new;rw[Ji,Ji,Ji];exact bZ 9 3 d lc
   ·have:=kf (Jl _) y a;exact ip 9 4 d lc (qi p.p1 p.p0 p.core p.p4 p.p3 43) this
end
theorem below_at{K c}(h:jY K c):b6 gI c.1=Jh (.s (tx [eK c.1]) 0):=by
 rcases h.tag with e | e | e | e <;> refine(e).symm▸?_ <;> rfl
section
variable {p:Option V}{e d:V}{a b:Str}{g f:Nat}{c:List (Str×V)}{l k dl o i j:List Str}{vals:List V}
theorem jo(u:Fz e)(v:Fz d)(p:jD (chars b) (cc b9) c)(r:St):nc ⟨[0,1,2,3,4,5,6,7,8,9,10,11],[]⟩ 0 (cQ (Jh (.l vals)) e d a b g f c l k dl o i j++r) (cQ (Jh (.l vals)) e d a b g f c l k dl o i j) :=
 ⟨EG,.vw rfl rfl (.vw rfl rfl (.vw rfl (congrArg (KC O.ns) (a9 rfl<|a9 rfl<|a9 rfl<|a9 rfl<|a9 (u.vw _)<|a9 (v.vw _)<|a9 rfl<|a9 rfl<|a9 rfl<|a9 rfl rfl)) (.vw rfl rfl (.vw rfl (p.vw _) (.vw rfl rfl (.vw rfl rfl (.vw rfl rfl (.vw rfl (cX (c3 _)) (.vw rfl (cX (c3 _)) (.vw rfl (cX (c3 _)) (.vw rfl (cX (c3 _)) trivial))))))))))),trivial,λh q Z=>absurd q (Jy _)⟩
end
noncomputable abbrev BV(p:P5)(t u:Nat)(a:List dz):Lc:=kq p t u++[(BF,.l (a.map c5))]
noncomputable abbrev uv(p:P5)(t u:Nat)(a:List dz):Lc:=BV p t u a++[(uf,.s (tx (oneOf a)) 0)]
noncomputable abbrev iE(p:P5)(t u:Nat)(a:List dz):Lc:=uv p t u a++[(ue,.s (tx (fG a)) 0)]
noncomputable abbrev pe:List (Str×Nat):=[(jJ,0)]
noncomputable def z9(i:Nat):Expr:=(Hi (g6 (dC i))).2.1
noncomputable abbrev BW(i:Nat)(L C:Addr):cU:=mC (cJ L) (sW (z9 i)) [(jJ,L+1)] pe C
theorem ur{L}:∀y h,pe.lookup y=Jh h->(cJ L).ce.lookup y=Jh h/\([(jJ,L+1)]:List (Str×Addr)).lookup y=(cJ L).env.cells.lookup y:=λy h e=>by
 have:(cJ L).env.cells=[(eF,L+1+1),(jJ,L+1)]:=jO L;refine(this).symm▸?_;obtain⟨rfl,rfl⟩:=LR (O4.mp (f7 e));exact⟨rfl,rfl⟩
section
variable {A:Around}
theorem l5{F elt tgt bl co a b ta tb kvs l l4 dl du ol nw vals g cs Q}(hz:cs.length<sizeLine)(r:∀(c:dz) (lc:Lc) (st:St) (k:Lc->St->Prop),lc=[]∨(∃v,lc=[(qu,v)])->k [(qu,c5 c)] st->cZ A F tgt (c5 c) lc st k)(o:∀c∈cs,∀(i:List V) (j:V->St->Prop),j (.s (g c) 0) (cQ (Jh (.l vals)) bl co a b ta tb kvs l l4 dl du ol nw++[.list i])->cx A F elt [(qu,c5 c)] (cQ (Jh (.l vals)) bl co a b ta tb kvs l l4 dl du ol nw++[.list i]) j)(h:Q (cQ (Jh (.l vals)) bl co a b ta tb kvs l l4 dl du ol nw++[.list (bQ (cs.map g))])) :
  ∀(d done:List dz) (lc:Lc),cs=done++d->(lc=[]∨∃v,lc=[(qu,v)])->kK A F 12 (λZ=>True) tgt [] elt Q (d.map c5) lc (cQ (Jh (.l vals)) bl co a b ta tb kvs l l4 dl du ol nw++[.list (bQ (done.map g))]):=by
 intro d
 induction d with
 |nil =>
  intro done lc e _;rw[JO] at e;subst e;exact⟨trivial,h⟩
 |cons c d f =>
  intro done lc e p;have f:=f (done++[c]) [(qu,c5 c)] (by refine(e).symm▸?_;rw[Jv];rfl) (.inr ⟨_,rfl⟩);refine⟨trivial,r c lc _ _ p (Br.mk (λZ=>?_) λq=>Jq q)⟩;refine o c (by refine(e).symm▸?_;exact KD _ (JJ ..)) _ _ ⟨?_,?_⟩
  ·rw[Jt,Jt];have:=congrArg L6 e;rw[Ji,J5] at this;exact bZ 14 6 hz this
  ·rw[JF] at f;unfold bQ at f;rw[JF] at f;exact f
theorem wM{K}:∀ {l:List Nat},(∀y∈l,y<=K)->l.sum<=K*l.length
 |[],Z=>JN _
 |a::l,h=>by
  have c:=h a (JJ ..);have d:=wM λy e=>h y (JR _ e);rw[Ua,J5,Nat.mul_succ];exact bZ 14 7 c d
mutual
theorem l8{a:List dz}{f:dz->List Nat}(g:a.length<=6)(e:∀c∈a,(f c).length<=500):Rw ⟨⟨[]⟩⟩ (a.map λc=>tx (f c))=true:=by
 refine joinOk_of ?_;have d:=wM (K:=500) (l:=(a.map λc=>tx (f c)).map (·.length)) λy i=>by
  obtain⟨x,h,rfl⟩:=Ra.mp i;obtain⟨c,hc,rfl⟩:=Ra.mp h;rw[a8];exact e c hc
 rw[Jt,Jt] at d;exact GW d g
theorem iF{a:List dz}{f}:Pw ⟨⟨[]⟩⟩ (a.map λc=>tx (f c))=tx (a.map f).flatten:=by
 have:=uy (a.map f);rw[J6] at this;exact this
end
mutual
theorem E0(g:Gd){L p t u bl co a b ta tb kvs l l4 dl du ol nw cs Q}(d:A.handled=none)(r:Fz bl)(w:Fz co)(o:jD (chars b) (cc b9) kvs)(hc:∀c∈cs,jY 500 c)(i:cs.length<=6)(h:Q .next (uv p t u cs) (cQ (Jh (.l p.vals)) bl co a b ta tb kvs l l4 dl du ol nw)) :
  dN A (cJ L) (dC 3) (BV p t u cs) (cQ (Jh (.l p.vals)) bl co a b ta tb kvs l l4 dl du ol nw) Q:=by
 have S:=g.snd (F:=cJ L) d (by rfl);refine jw (S.S ?_);refine ll (cl:=[(jJ,L+1)]) (ce:=pe) g.top (by rfl) (by kernel_rfl) rfl ur ?_;refine S.E ?_;refine .mk _ _ (jP g.top d b7) trivial λC=>?_;have K:=g.snd (F:=BW 3 L C) d (by rfl);refine l5 (g:=λc=>tx (JQ (c.2.2.1-c.2.1) (eK c.1))) (Kn i (by decide)) (λc lc st z q k=>?_) (λc f j y k=>?_) ?_ cs [] [] rfl (.inl rfl)
 ·refine K.As ?_;rcases q with rfl | ⟨v,rfl⟩ <;> exact k
 ·have hi:=hc c f;refine K.E ?_;refine d5.at (by decide) rfl ?_;refine mw dict_str rfl et (below_at hi) ?_;refine d5.at (by decide) rfl (d5.at (by decide) rfl ?_);refine⟨k4 (a8 _) (by exact bM 14 8 (hi.b1)) (by exact bM 14 9 (hi.b2)),?_⟩;rw[kZ];exact k
 ·refine n7 (cj (h:=12)) rfl (l8 i λc f=>?_) ?_
  ·have:=(hc c f).b2;refine(K6).symm▸?_;exact bJ 13 0 this
  refine(iF).symm▸?_;refine⟨_,.next,uv p t u cs,_,jo r w o _,rfl,λx h e=>gx (by rfl) (by rfl) e,.of rfl,h⟩
theorem EZ(g:Gd){L p t u bl co a b ta tb kvs l l4 dl du ol nw cs Q}(d:A.handled=none)(r:Fz bl)(w:Fz co)(o:jD (chars b) (cc b9) kvs)(hc:∀c∈cs,jY 500 c)(i:cs.length<=6)(h:Q .next (iE p t u cs) (cQ (Jh (.l p.vals)) bl co a b ta tb kvs l l4 dl du ol nw)) :
  dN A (cJ L) (dC 4) (uv p t u cs) (cQ (Jh (.l p.vals)) bl co a b ta tb kvs l l4 dl du ol nw) Q:=by
 have S:=g.snd (F:=cJ L) d (by rfl);refine jw (S.S ?_);refine ll (cl:=[(jJ,L+1)]) (ce:=pe) g.top (by rfl) (by kernel_rfl) rfl ur ?_;refine S.E ?_;refine .mk _ _ (jP g.top d b7) trivial λC=>?_;have K:=g.snd (F:=BW 4 L C) d (by rfl);refine l5 (g:=λc=>tx (JQ (c.2.2.2.2-c.2.2.2.1) (eK c.1))) (Kn i (by decide)) (λc lc st z q k=>?_) (λc f j y k=>?_) ?_ cs [] [] rfl (.inl rfl)
 ·refine K.As ?_;rcases q with rfl | ⟨v,rfl⟩ <;> exact k
 ·have hi:=hc c f;refine K.E ?_;refine d5.at (by decide) rfl ?_;refine mw dict_str rfl et (below_at hi) ?_;refine d5.at (by decide) rfl (d5.at (by decide) rfl ?_);refine⟨k4 (a8 _) (by exact bM 14 8 (hi.b3)) (by exact bM 14 9 (hi.b4)),?_⟩;rw[kZ];exact k
 ·refine n7 (cj (h:=12)) rfl (l8 i λc f=>?_) ?_
  ·have:=(hc c f).b4;refine(K6).symm▸?_;exact bJ 13 0 this
  refine(iF).symm▸?_;refine⟨_,.next,iE p t u cs,_,jo r w o _,rfl,λx h e=>gx (by rfl) (by rfl) e,.of rfl,h⟩
end
end
section
variable {A:Around}{F:cU}{lc:Lc}{lc₂:Lc}{st:St}
noncomputable def rN(lc:Lc):Lc->Prop
 |[]=>True
 |p::l=>(lc.lookup p.1=Jh p.2∨∃x t,lc.lookup p.1=Jh (.s x t)/\p.2=.s x 0)/\rN lc l
theorem rN.at_{lc l x v}(h:rN lc l)(e:l.lookup x=Jh v):lc.lookup x=Jh v∨∃y t,lc.lookup x=Jh (.s y t)/\v=.s y 0:=by
 induction l with
 |nil=>cases e
 |cons p l a =>
  rw[JS] at e;cases q:x == p.1 with
  |true=>have e:=q▸e;cases e;refine(eq_of_beq q).symm▸?_;exact h.1
  |false=>have e:=q▸e;exact a h.2 e
theorem Pre.C4{σ s}(p:Pre F σ lc st s)(h:rN lc lc₂):Pre F σ lc₂ st s:=by
 refine Jg λE=>?_;obtain⟨i,r,a,⟨g,A,d⟩,D,C,k,z,f,ce⟩:=p;refine E ?_;refine⟨i,r,a,⟨g,A,λx v c B=>?_⟩,D,C,k,z,f,ce⟩;rcases h.at_ B with e | ⟨y,t,e,rfl⟩
 ·exact d x v c e
 ·obtain⟨w,j,u,o,_⟩:=d x _ c e;exact⟨w,j,u,o,λq=>absurd rfl q⟩
theorem iX{l Q}(h:rN lc lc₂)(q:bW A F l lc₂ st Q):bW A F l lc st Q:=λσ s p=>q σ s (p.C4 h)
theorem tQ:∀n:Nat,(JQ n 1).sum=n
 |0=>rfl
 |n+1=>by rw[Mu,Ua,tQ n,Oi]
mutual
theorem map_one(l:List (List Nat))(h:∀x∈l,x.length=1):(l.map tx).map (·.length)=JQ l.length 1:=by
 rw[List.eq_replicate_iff];refine⟨by rw[Jt,Jt],λb a=>?_⟩;obtain⟨x,d,rfl⟩:=Ra.mp a;obtain⟨r,c,rfl⟩:=Ra.mp d;rw[a8];exact h r c
theorem wQ(ws:Nat->Bool)(l:List Nat):(bY ws l).length<=l.length:=by
 unfold bY;rw[JV];exact NY _ _
end
mutual
theorem yr{a t}(e:a.length<=1000):FX (tx a) (tx t):=by
 have d:1004<=sizeLine:=by decide
 have f:(L7 f9 a t).length<=a.length:=by rw[List.length_zipWith];exact Nk _ _
 refine⟨by rw[a8];exact bM 14 10 d e,?_,by rw[k7,a8];exact bJ 14 11 d e f,?_⟩
 ·have h:cF c7 (tx a) (tx t)=((L7 f9 a t).map λc=>[c]).map tx:=by
   unfold cF;rw[fF,fF,VO,NS,J6,NS]
   congr 1
   funext a b
   exact kr a b
  refine(h).symm▸?_;refine joinOk_of ?_;rw[map_one _ λx g=>by obtain⟨c,_,rfl⟩:=Ra.mp g;rfl,tQ,Jt];exact bJ 14 12 e f
 ·unfold marks;rw[k7,jI,a8];have:=wQ Kw (L7 f9 a t);exact bZ 14 13 d e f this
theorem vO(g:Gd):Callee (.v (.ref 313)):=by
 obtain⟨m,c,_⟩:=yD g;exact mE c
end
theorem EY(g:Gd){L p t u bl co a b ta tb kvs l l4 dl du ol nw cs Q}(d:A.handled=none)(c:A.depth+10<recursionLimit)(r:Fz bl)(v:Fz co)(f:jD (chars b) (cc b9) kvs)(o:p.dK.length<=1000)(k:p.dU.length<=1000){rows}(q:kg (tx p.dK) (tx p.dU) (tx (oneOf cs)) (tx (fG cs))=rows)(j:dl.length+rows.length<=1000000)(h:Q .next (iE p t u cs) (cQ (Jh (.l p.vals)) bl co a b ta tb kvs l l4 (dl++rows) du ol nw)) :
  dN A (cJ L) (dC 5) (iE p t u cs) (cQ (Jh (.l p.vals)) bl co a b ta tb kvs l l4 dl du ol nw) Q:=by
 refine jw ((g.snd (F:=cJ L) d (by rfl)).S ?_);refine⟨vO g,?_⟩;refine sq g d (by show A.depth+2<_;exact bM 14 14 c) ?_;refine AD g (by exact bJ 9 12 c) λw i=>?_;refine tc g d (by exact bM 14 15 c) (yr o) (yr k) i ?_;refine(q).symm▸?_;refine kD g.top (vs:=bQ dl) (us:=bQ rows) rfl rfl ?_ ?_
 ·rw[Jt,Jt];exact j
 refine(JF)▸?_;exact⟨_,.next,iE p t u cs,_,jo r v f _,rfl,λx h e=>gx (by rfl) (by rfl) e,.of rfl,h⟩
mutual
theorem lM(g:Gd):Callee (.v (.ref 351)):=(g.pB (c0 45 rfl) rfl ⟨_,rfl⟩).callee
theorem P5.I4{p:P5}(h:p.sz<=200):ey p.vals 0 p.p0 p.p1 p.p2 p.p3 p.p4:=by
 unfold P5.sz at h;exact⟨.inl rfl,rfl,rfl,rfl,rfl,rfl,by exact ip 14 18 h,by exact ip 14 19 h,by exact d7 14 20 h,by exact bZ 14 21 h,by exact bJ 14 22 h⟩
theorem P5.I3{p:P5}(h:p.sz<=200):ey p.vals 1 p.p1 p.p0 p.p2 p.p4 p.p3:=by
 unfold P5.sz at h;exact⟨.inr rfl,rfl,rfl,rfl,rfl,rfl,by exact ip 14 19 h,by exact ip 14 18 h,by exact d7 14 20 h,by exact bJ 14 22 h,by exact bZ 14 21 h⟩
theorem P5.zN(p:P5):p.dK.length<=p.sz+1:=by
 delta P5.dK P5.sz;refine(Ji).symm▸?_;refine(Ji).symm▸?_;refine(Ji).symm▸?_;exact ip 14 23
theorem P5.zO(p:P5):p.dU.length<=p.sz+1:=by
 delta P5.dU P5.sz;refine(Ji).symm▸?_;refine(Ji).symm▸?_;refine(Ji).symm▸?_;exact ip 15 0
theorem P5.ve(p:P5):[V.s (lW++tx p.dK) 0]++bQ (rowsOf (bY cY (fU p.p0 p.p1 (p.p2++[59]) p.p3 p.p4 (eM 0))))++[V.s (lV++tx p.dU) 0]++bQ (rowsOf (bY cY (fU p.p1 p.p0 (p.p2++[59]) p.p4 p.p3 (eM 1))))=bQ p.rows:=by
 refine(show lW++tx p.dK=tx ([45,32]++p.dK) from cL _ _).symm▸?_;refine(show lV++tx p.dU=tx ([43,32]++p.dU) from cL _ _).symm▸?_;have eo:p.dK=p.old:=by unfold P5.dK P5.old P5.core;rw[Jv,Jv,Jv,Jv]
 have en:p.dU=p.new:=by unfold P5.dU P5.new P5.core;rw[Jv,Jv,Jv,Jv]
 rw[P5.oK,eo,en];delta bQ P5.core;rw[JF,JF,JF];rw[Jv,Jv];rfl
end
mutual
theorem EX(g:Gd){L p t u bl co a b ta tb kvs l l4 dl du ol nw cs Q}(f:A.handled=none)(c:A.depth+10<recursionLimit)(r:Fz bl)(v:Fz co)(j:jD (chars b) (cc b9) kvs)(d:p.sz<=190)(o:du.length+10<=1000000)(h:Q .next (iE p t u cs) (cQ (Jh (.l p.vals)) bl co a b ta tb kvs l l4 dl (du++p.rows) ol nw)) :
  dN A (cJ L) (dC 6) (iE p t u cs) (cQ (Jh (.l p.vals)) bl co a b ta tb kvs l l4 dl du ol nw) Q:=by
 have hz:1000<=sizeLine:=by decide
 refine jw ((g.snd (F:=cJ L) f (by rfl)).S ?_);have lo:=p.zN;have q:=p.zO;have i:=gu (bY cY (fU p.p0 p.p1 (p.p2++[59]) p.p3 p.p4 45));refine⟨?_,?_⟩
 ·rw[a8];exact bJ 15 1 hz d lo
 refine⟨lM g,?_⟩;refine rA g f (by exact bM 15 2 c) (P5.I4 (by exact dy 15 3 d)) ?_;refine add_list cj rfl b7 trivial ?_ ?_
 ·rw[Jt];exact Jn (Mx i 1) (by decide)
 refine⟨?_,?_⟩
 ·rw[a8];exact bJ 15 1 hz d q
 refine add_list cj rfl cj rfl ?_ ?_
 ·rw[Ji,Jt];exact Jn (RS (Mx i 1) 1) (by decide)
 refine⟨lM g,?_⟩;refine rA g f (by exact bM 15 2 c) (P5.I3 (by exact dy 15 3 d)) ?_;refine add_list cj rfl b7 trivial ?_ ?_
 ·rw[Ji,Ji,Jt,Jt];exact Jn (Nat.add_le_add (RS (Mx i 1) 1) (gu (bY cY (fU p.p1 p.p0 (p.p2++[59]) p.p4 p.p3 43)))) (by decide)
 have k:=p.lL;refine kD g.top (vs:=bQ du) (us:=bQ p.rows) rfl (congrArg (λl=>Jh (O.list l)) p.ve) ?_ ?_
 ·rw[Jt,Jt];exact bJ 15 4 o k
 rw[<-JF];exact⟨_,.next,iE p t u cs,_,jo r v j _,rfl,λx h e=>gx (by rfl) (by rfl) e,.of rfl,h⟩
theorem EW(g:Gd){L p bl co a b ta tb kvs l l4 dl du ol nw cs Q}(d:A.handled=none)(e:ol.length<sizeLine)(c:nw.length<sizeLine)(h:Q .next (iE p 0 0 cs) (cQ (Jh (.l p.vals)) bl co a b ta tb kvs l l4 dl du (ol++[tx p.dK]) (nw++[tx p.dU]))) :
  bW A (cJ L) [dC 7,dC 8] (iE p 0 0 cs) (cQ (Jh (.l p.vals)) bl co a b ta tb kvs l l4 dl du ol nw) Q:=by
 refine(g.snd (F:=cJ L) d (by rfl)).Ss ?_;refine⟨by rw[Jt];exact e,by rw[Jt];exact c,?_⟩;unfold cQ bQ at h;rw[JF,JF] at h;exact h
end
mutual
theorem P5.eo(p:P5):p.dK=p.old:=by unfold P5.dK P5.old P5.core;rw[Jv,Jv,Jv,Jv]
theorem P5.en(p:P5):p.dU=p.new:=by unfold P5.dU P5.new P5.core;rw[Jv,Jv,Jv,Jv]
end
structure ot(p:P5):Prop where
 ok:p.Ok
 o:p.sO<=64
 n:p.sN<=65
theorem ot.sz{p}(h:ot p):p.sz<=129/\p.dK.length<=65/\p.dU.length<=66/\0<p.p2.length/\p.core.length<=66/\p.dK.length≠0:=by
 have a:=h.o;have c:=h.n;unfold P5.sO at a;unfold P5.sN at c;have hc:0<p.p2.length:=by
  have:=h.ok.head;cases e:p.p2 with
  |nil=>have this:=e▸this;exact nomatch this
  |cons=>exact Pz _
 have lo:p.dK.length=p.p0.length+p.p2.length+1+p.p3.length:=by unfold P5.dK;rw[Ji,Ji,Ji];rfl
 have lc:p.core.length=p.p2.length+1:=Ji;exact⟨by exact d7 15 5 a c,by exact bJ 15 6 a lo,by exact bJ 15 7 c (show p.dU.length=p.p1.length+p.p2.length+1+p.p4.length from by unfold P5.dU;rw[Ji,Ji,Ji];rfl),hc,by exact bZ 15 8 a lc,by exact bJ 15 9 lo⟩
theorem xY(g:Gd){L p f i a b j k d l v dl ol nw Q}(e:A.handled=none)(c:A.depth+10<recursionLimit)(F:A.units+9<cLine)(ok:ot p)(m:MI a b f i d l j k)(hd:dl.length<=100000)(E:ol.length<=1000)(D:nw.length<=1000)(h:∀f i d l v j k,MI (tx p.dK) (tx p.dU) f i d l j k->Q .next kP (cQ (Jh (.l p.vals)) f i (tx p.dK) (tx p.dU) j k d l v (dl++p.rows) (dl++p.rows) (ol++[tx p.dK]) (nw++[tx p.dU]))) :
  bW A (cJ L) (cy (cD (a5 (a7 14)) 3)) kP (cQ (Jh (.l p.vals)) f i a b j k d l v dl dl ol nw) Q:=by
 refine Jg λS=>?_;obtain⟨B,w,x,J,C,M⟩:=ok.sz;refine S ?_;have hz:1000<sizeLine:=by decide
 refine eG ?_;show bW A (cJ L) (dC 0::dC 1::(cy (cD (a5 (a7 14)) 3)).drop 2) _ _ _;refine bP (E7 g e J (by exact dy 15 10 B) λt u o G H P R=>?_);refine bP (E6 g e (by exact bM 15 11 c) m G H P R (by exact dy 15 12 w) (by exact dy 15 13 x) λf i d l v j k m=>?_);refine iX (lc₂:=kq p 0 0) ⟨.inl rfl,.inl rfl,.inl rfl,.inl rfl,.inl rfl,.inr ⟨_,_,rfl,rfl⟩,.inr ⟨_,_,rfl,rfl⟩,trivial⟩ ?_;show bW A (cJ L) (dC 2::dC 3::dC 4::dC 5::dC 6::[dC 7,dC 8]) _ _ _;refine bP (E5 g e (by exact bM 14 15 c) F m (by rw[a8];exact M) (by rw[a8];exact dy 15 12 w) (by rw[a8];exact dy 15 13 x) (λT q=>?_) (λT q=>?_) λf cs hc m=>?_)
 ·rw[P5.eo,P5.en] at q;exact(ok.ok.tree (by exact dy 15 14 C) q).1
 ·rw[P5.eo,P5.en] at q ⊢;exact(ok.ok.tree (by exact dy 15 14 C) q).2
 have r:fS (tx p.old) (tx p.new) cs:=by rw[<-P5.eo,<-P5.en];exact hc
 obtain⟨y,z⟩:=ok.ok.codes (K:=500) (by rw[<-P5.eo];exact dy 15 15 w) (by rw[<-P5.en];exact dy 15 16 x) r;refine bP (E0 g e m.zb m.zc m.b2 y z ?_);refine bP (EZ g e m.zb m.zc m.b2 y z ?_);refine bP (EY g e c m.zb m.zc m.b2 (by exact dy 15 17 w) (by exact dy 15 18 x) (show kg (tx p.dK) (tx p.dU) (tx (oneOf cs)) (tx (fG cs))=p.rows from by rw[P5.eo,P5.en];exact ok.ok.rows r) (by exact bM 15 19 hd (p.lL)) ?_);refine bP (EX g e c m.zb m.zc m.b2 (by exact dy 15 20 B) (by exact dy 15 21 hd) ?_);refine EW g e (by exact bJ 15 22 hz E) (by exact bJ 15 22 hz D) ⟨kP,?_,h _ _ _ _ _ _ _ m⟩;exact .of rfl
mutual
theorem CU(L:Addr):∀(i:Nat) x,[jJ,eF][i]?=Jh x->(Oy (L+1) (a6 (a7 14)).names []).lookup x=Jh (L+1+i):=λi x h=>by
 rw[jO]
 match i,h with
 |0,h=>cases h;rfl
 |1,h=>cases h;rfl
theorem yV(s:Js)(fd:Mk)(ws:List Value)(c:fd.params=bV (a7 14))(d:fd.defaults=.none)(e:fd.kwdefaults=.none)(h:ws.length=1):Qw s fd ⟨ws,[]⟩ ([gW].zip ws):=by
 obtain⟨fn,x,w,q,y,u,r,o,v,k,p,f,i,j,g⟩:=fd;dsimp only at c d e;subst c d e;obtain⟨a,rfl⟩:=sA h;exact .of_eq (by rfl)
theorem x4:∀x∈[jJ,eF],(a6 (a7 14)).names.lookup x=Jh .cell:=by decide
end
noncomputable abbrev uu:St:=[.cell none,.cell none,.ns (qD mJ ⟨⟨[]⟩⟩ ⟨⟨[]⟩⟩ 404 405 4 5 6),.inst 242 2,.dict [],.set [],.set []]
theorem uZ(g:Gd):Callee (.v (.ref 242)):=by
 obtain⟨m,c,_⟩:=wW g;exact mE c
mutual
theorem EU(g:Gd){L sc Q}(c:A.handled=none)(a:A.depth+7<recursionLimit)(h:Q .next [(gW,sc),(qw,.r 3)] uu) :
  dN A (cJ L) (cD (a5 (a7 14)) 0) [(gW,sc)] [.cell none,.cell none] Q:=by
 refine(g.snd (F:=cJ L) c (by rfl)).S ?_;refine⟨uZ g,?_⟩;refine fz rfl rfl (qB g c a (ux g) ?_);exact h
theorem ET(g:Gd){L sc Q}(a:A.handled=none)(h:Q .next [(gW,sc),(qw,.r 3)] ((uu++[O.dict gI]).set 0 (.cell (Jh (.r 7))))) :
  dN A (cJ L) (cD (a5 (a7 14)) 1) [(gW,sc),(qw,.r 3)] uu Q:=by
 have S:=g.snd (F:=cJ L) a (by rfl);refine S.S ?_;refine uE (l:=gI) g.top dict_str rfl rfl (λq=>nomatch q) (by decide) (by decide) ⟨S.E ⟨et,rfl⟩,S.E ⟨rfl,rfl⟩,S.E ⟨et,rfl⟩,S.E ⟨rfl,rfl⟩,S.E ⟨et,rfl⟩,S.E ⟨rfl,rfl⟩,S.E ⟨et,rfl⟩,S.E ⟨rfl,rfl⟩,trivial⟩ ?_;exact h
theorem ES(g:Gd){L sc Q}(a:A.handled=none)(h:Q .next ((gW,sc)::kP) (cQ none .n .n ⟨⟨[]⟩⟩ ⟨⟨[]⟩⟩ 404 405 [] [] [] [] [] [] [])) :
  dN A (cJ L) (cD (a5 (a7 14)) 2) [(gW,sc),(qw,.r 3)] ((uu++[O.dict gI]).set 0 (.cell (Jh (.r 7)))) Q:=by
 refine(g.snd (F:=cJ L) a (by rfl)).S ?_;exact h
end
theorem vy(g:Gd){L ps Q}(u:A.handled=none)(o:A.depth+10<recursionLimit)(z:A.units+9<cLine)(x:∀p∈ps,ot p)(y:ps.length<=64)(w:∀lc q f h a b i j c l k,rN lc kP->Q .next lc (cQ q f h a b i j c l k (ps.flatMap P5.rows) (ps.flatMap P5.rows) (ps.map λp=>tx p.dK) (ps.map λp=>tx p.dU))) :
  ∀(d done:List P5) (lc:Lc) (q:Option V) (f h:V) (a b:Str) (i j:Nat) (c:List (Str×V)) (l k:List Str),ps=done++d->rN lc kP->MI a b f h c l i j->cT (λZ=>True) (cZ A (cJ L) (ee (cD (a5 (a7 14)) 3))) (bW A (cJ L) (cy (cD (a5 (a7 14)) 3))) Q (d.map λp=>.l p.vals) lc
   (cQ q f h a b i j c l k (done.flatMap P5.rows) (done.flatMap P5.rows) (done.map λp=>tx p.dK) (done.map λp=>tx p.dU)):=by
 intro d
 induction d with
 |nil =>
  intro done lc q f h a b i j c l k e r m;rw[JO] at e;subst e;exact⟨trivial,w lc q f h a b i j c l k r⟩
 |cons p d B =>
  intro done lc q f h a b i j c l k e r m;have hd:done.length<=64:=by
   have:=congrArg L6 e;rw[Ji] at this;exact bZ 15 23 this y
  have v:=q7 done;refine⟨trivial,(g.snd (F:=cJ L) u (by rfl)).As ?_⟩;refine iX r (xY g u o z (x p (by rw[e];exact KD _ (JJ ..))) m (by exact bM 16 0 v hd) (by rw[Jt];exact dy 16 1 hd) (by rw[Jt];exact dy 16 1 hd) λf h c l k i j m=>?_);have:=B (done++[p]) kP (Jh (.l p.vals)) f h _ _ i j c l k (by refine(e).symm▸?_;rw[Jv];rfl) ⟨.inl rfl,.inl rfl,.inl rfl,.inl rfl,.inl rfl,trivial⟩ m;rw[List.flatMap_append,List.flatMap_singleton,JF,JF] at this;exact this
noncomputable abbrev Di(ds os ns:List Str):Lc:=[(qx,.l (bQ ds)),((⟨⟨[100,117,101]⟩⟩:Str),.l (bQ ds)),(BH,.l (bQ os)),(BG,.l (bQ ns))]
theorem zZ(g:Gd){L ds os ns Q}(hA:A.handled=none)(k:A.depth+10<recursionLimit)(hu:A.units+9<cLine)(hz:∀x∈ds,x.length<=sizeLine)(hl:ds.length<=sizeLine)(h1:restOf (gL 1) ds=os)(h2:restOf (gL 2) ds=ns)(h:∀lc st,Q (.ret (.b true)) lc st) :
  bW A (cJ L) [cD (a5 (a7 14)) 4] (Di ds os ns) [.gone,.gone] Q:=by
 have H {A st Q a b d1 d2 xs ys} (hu:A.units<cLine) (la:LstAt a (bQ xs) d1) (h1:d1 st) (lb:LstAt b (bQ ys) d2) (h2:d2 st) (h:Q (.b (decide (xs=ys))) st):cE A (KJ .Eq) a b st Q:=by
  intro σ s u w ha hb i r;obtain⟨l,vs,m,e,ho,hv⟩:=la σ st s u ha h1 r;obtain⟨l',ws,m',e',ac,hw⟩:=lb σ st s w hb h2 r;subst e e';have e1:vs.size=xs.length:=by have:=hv.len;rw[Jx,Jt] at this;exact this
  have e2:ws.size=ys.length:=by have:=hw.len;rw[Jx,Jt] at this;exact this
  by_cases hn:xs.length=ys.length
  ·refine Vt ⟨_,ho,rfl,m,rfl⟩ ⟨_,ac,rfl,m',rfl⟩ (by rw[e1,e2,hn]) hu (e:=λj=>xs[j]? == ys[j]?) (λj h1 h2=>?_) (gM i r ?_)
   ·obtain⟨t,h3⟩:=p8 hv h1 (e1▸h1);obtain⟨u,h4⟩:=p8 hw h2 (e2▸h2);rw[h3,h4,Jo (e1▸h1),Jo (e2▸h2)];exact(eqGives_str _ _ t u).at _ _
   ·have:((KI vs.size).all λj=>xs[j]? == ys[j]?)=decide (xs=ys):=by
     rw[LM,PR,decide_eq_true_iff];refine⟨λq=>NF λj=>?_,λq j Z=>by refine(q).symm▸?_;exact beq_self_eq_true _⟩;by_cases hj:j<vs.size
     ·exact eq_of_beq (q j (List.mem_range.mpr hj))
     ·refine(KR (e1▸Nat.not_lt.mp hj)).symm▸?_;exact(KR (hn▸e1▸Nat.not_lt.mp hj)).symm▸rfl
    rw[this];exact h
  ·refine Vs ⟨_,ho,rfl,m,rfl⟩ ⟨_,ac,rfl,m',rfl⟩ (by refine(e1).symm▸?_;refine(e2).symm▸?_;simpa using hn) hu (gM i r ?_);rw[decide_eq_false λe=>hn (by exact(e).symm▸rfl)] at h;exact h
 have Y {A F lc st Q x y pos} (h:cx A F x lc st λv J=>wx A v J λb st₂=>Br b (cx A F y lc st₂ Q) (Q v st₂)):cx A F (.BoolOp .And [x,y] pos) lc st Q :=
  λσ s p=>wpAny_And2 (bH (h σ s p) λw s₁ U J v d hv T=>dH (T U s₁ w hv d.inv d.rel) λb P R st₂ B G=>by
   cases b with
   |true=>exact ec (d.trans B) (G.t rfl R P (p.step (d.trans B)))
   |false=>exact⟨R,st₂,d.trans B,v,hv.step d.rel B,G.f rfl⟩)
 have X {A F lc st Q x y z pos} (h:cx A F x lc st λv J=>wx A v J λb st₂=>Br b (cx A F (.BoolOp .And [y,z] pos) lc st₂ Q) (Q v st₂)):cx A F (.BoolOp .And [x,y,z] pos) lc st Q :=
  have ab {A M E s env x y z Q} (h:JH M A (eval x env) (λv s₁=>JH M A (TX v) (λt P=>if t then JH M A (eval (.BoolOp .And [y,z] pos) env) Q E P else Q v P) E s₁) E s):JH M A (eval (.BoolOp .And [x,y,z] pos) env) Q E s:=by
   show JH M A (do
    let v <-eval x env
    Pf pos
    let t <-MQ [v] (TX v)
    match VA.And,t with
    |.And,false | .Or,true=>pure v
    |Z,D=>boolOp pos .And [eval y env,eval z env]) Q E s
   refine Jf (JB h (λv s₁ T=>Jf (LF (Jf (JD (JB T (λt P G=>?_) λZ D x=>x))))) λZ D x=>x);cases t with
   |false=>exact Jk G
   |true=>exact G
  λσ s p=>ab (bH (h σ s p) λw s₁ U J v d hv T=>dH (T U s₁ w hv d.inv d.rel) λb P R st₂ B G=>by
   cases b with
   |true=>exact ec (d.trans B) (G.t rfl R P (p.step (d.trans B)))
   |false=>exact⟨R,st₂,d.trans B,v,hv.step d.rel B,G.f rfl⟩)
 have o {A} (g:Gd) {st Q n ds} (k:A.depth<recursionLimit) (h:∀gn,(∀(j:Nat) c L,st[j]?≠Jh (.gen gn c L))->Q (.r (st.length+1)) ((st++[.frm (ny ds n)])++[.gen gn qk st.length])) :
   bI A (.v (.ref 332)) [.l (bQ ds),.i n] st Q :=
  yn (lc:=ny ds n) (names:=[qx,xy]) g.top (se g) (by kernel_rfl) (by kernel_rfl) k v9 rfl (by kernel_rfl) ⟨rfl,rfl,trivial⟩ h
 have C {A} (g:Gd) {st:St} {Q n ds gn} (hA:A.handled=none) (k:A.depth+6<recursionLimit) (hn:n=1∨n=2) (hz:∀x∈ds,x.length<=sizeLine) (hl:ds.length<=sizeLine) (ae:∀(j:Nat) c L,st[j]?≠Jh (.gen gn c L)) (h:Q (.r (st.length+2)) (st++[.gone,.gone,.list (bQ (restOf (gL n) ds))])) :
   bI A (.g .list) [.r (st.length+1)] ((st++[.frm (ny ds n)])++[.gen gn qk st.length]) Q:=by
  refine call_list_gen (FF:=lP) g.top hA (by exact bJ 9 12 k) xj ae rfl ?_ (λL=>lO g hA hn hz) h;unfold restOf;rw[Jt];exact Jn (Ou _ _) hl
 have S:=g.snd (F:=cJ L) hA (by rfl);have aa:A.units<cLine:=by exact bJ 9 12 hu
 refine S.Ss ?_;refine X (S.E ?_);refine H aa b7 trivial b7 trivial (oC ?_);rw[decide_eq_true rfl];refine Br.mk (λZ=>?_) λq=>Jq q;refine Y (S.E ?_);refine⟨(g.pB (c0 39 rfl) rfl ⟨_,rfl⟩).callee,?_⟩;refine o g (by exact bJ 9 12 k) λgn hg=>?_;refine C g hA (by exact bM 14 15 k) (.inl rfl) hz hl hg ?_;refine H aa cj rfl b7 trivial (oC ?_);rw[h1,decide_eq_true rfl];refine Br.mk (λZ=>?_) λq=>Jq q;refine S.E ?_;refine⟨(g.pB (c0 39 rfl) rfl ⟨_,rfl⟩).callee,?_⟩;refine o g (by exact bJ 9 12 k) λgn hg=>?_;refine C g hA (by exact bM 14 15 k) (.inr rfl) hz hl hg ?_;refine H aa cj rfl b7 trivial ?_;rw[h2,decide_eq_true rfl];exact h _ _
theorem z0(g:Gd){L ds os ns Q lc pv bl co a b ta tb kvs l l4}(p:rN lc kP)(h:bW A (cJ L) [cD (a5 (a7 14)) 4] (Di ds os ns) [.gone,.gone] Q) :
  bW A (cJ L) [cD (a5 (a7 14)) 4] lc (cQ pv bl co a b ta tb kvs l l4 ds ds os ns) Q:=by
 have o:([0,1]:List Nat).Nodup:=by decide
 have j:8∉([0,1]:List Nat):=by decide
 have k:9∉([0,1]:List Nat):=by decide
 have d:10∉([0,1]:List Nat):=by decide
 have i:11∉([0,1]:List Nat):=by decide
 have c (l:List Str):g9 (bQ l):=ed (f:=λy=>V.s y 0) (λZ D v u r q=>q) l;refine iX p (lh ⟨⟨[0,1],[(8,bQ ds),(9,bQ ds),(10,bQ os),(11,bQ ns)]⟩,.next,Di ds os ns,[.gone,.gone],⟨o,.out rfl rfl (.out rfl rfl trivial),⟨⟨JN _,j,rfl,c _⟩,⟨JN _,k,rfl,c _⟩,⟨JN _,d,rfl,c _⟩,⟨JN _,i,rfl,c _⟩,trivial⟩,λh q Z=>absurd q (Jy _)⟩,rfl,λx h e=>gx (by rfl) (by rfl) e,.of rfl,h⟩)
mutual
theorem BS{ns}(a:ns.length<=63):∀p∈linesOf ns,ot p:=λp f=>by
 obtain⟨c,d,e⟩:=xP ns p f;exact⟨c,by exact bM 16 2 d a,by exact bM 16 3 e a⟩
theorem Cp{p}(h:ot p):∀y∈p.rows,y.length<=sizeLine:=λy a=>Jn (P5.vf h.o h.n y a) (by decide)
end
theorem x3(g:Gd){L}{ns:List Int}{Q}(d:A.handled=none)(c:A.depth+10<recursionLimit)(o:A.units+9<cLine)(e:ns.length<=63)(h:∀lc st,Q (.ret (.b true)) lc st) :
  bW A (cJ L) ((a5 (a7 14)).drop 3) ((gW,.l (ns.map V.i))::kP) (cQ none .n .n ⟨⟨[]⟩⟩ ⟨⟨[]⟩⟩ 404 405 [] [] [] [] [] [] []) Q:=by
 have j:(linesOf ns).length<=64:=by have:=fW ns [] P5.start;exact Jn this (by exact dy 16 4 e)
 show bW A (cJ L) (cD (a5 (a7 14)) 3::[cD (a5 (a7 14)) 4]) _ _ _;refine bP (gF rfl ((g.snd (F:=cJ L) d (by rfl)).E ?_));refine⟨(g.pB (c0 41 rfl) rfl ⟨_,rfl⟩).callee,?_⟩;refine td g d (by exact bM 15 2 c) e ?_;refine⟨rfl,_,_,g0 g.top d b7,trivial,?_⟩;refine vy g (ps:=linesOf ns) d c o (BS e) j (λlc B v w a b C D u l z q=>?_) (linesOf ns) [] _ none .n .n _ _ 404 405 [] [] [] rfl ⟨.inl rfl,.inl rfl,.inl rfl,.inl rfl,.inl rfl,trivial⟩ ?_
 ·refine z0 g q (zZ g d c o (λy f=>?_) ?_ ?_ ?_ h)
  ·obtain⟨p,r,f⟩:=List.mem_flatMap.mp f;exact Cp (BS e p r) y f
  ·exact Jn (q7 _) (Jn (Nat.mul_le_mul_left 4 j) (by decide))
  ·have:=vi (linesOf ns);exact this.trans (K3 λp Z=>by rw[P5.eo])
  ·have:=vj (linesOf ns);exact this.trans (K3 λp Z=>by rw[P5.en])
 ·exact⟨by decide,by decide,⟨λx h=>absurd h JK,λx Z=>rfl,λp h=>absurd h JK⟩,λk=>⟨λh=>absurd h JK,λh=>absurd h.1 JK⟩,JN _,λh=>absurd rfl h,.inl rfl,.inl rfl⟩
theorem yP(g:Gd){ns:List Int}{Q}(f:A.handled=none)(c:A.depth+11<recursionLimit)(k:A.units+20<cLine)(j:ns.length<=63)(h:∀st,Q (.b true) st):bI A (.v (.ref 356)) [.l (ns.map V.i)] [] Q:=by
 refine(nU (names:=[gW]) (ns:=[jJ,eF]) g.top (CT g) (by kernel_rfl) (by kernel_rfl) (Kn (JG ..) c) CU x4 (λs fd ws=>yV s fd ws) rfl (by kernel_rfl) λL=>?_).call;have a:(A.deeper (jy (Jj "law") (a6 (a7 14)) L 356 (.ref 355))).handled=none:=f;have d:(A.deeper (jy (Jj "law") (a6 (a7 14)) L 356 (.ref 355))).depth+10<recursionLimit:=by exact c
 have e:(A.deeper (jy (Jj "law") (a6 (a7 14)) L 356 (.ref 355))).units+9<cLine:=by exact Kn (Mx (by decide:12<=20) A.units) k
 generalize A.deeper (jy (Jj "law") (a6 (a7 14)) L 356 (.ref 355))=B at a d e ⊢;show bW B (cJ L) (cD (a5 (a7 14)) 0::cD (a5 (a7 14)) 1::cD (a5 (a7 14)) 2::(a5 (a7 14)).drop 3) _ _ _;refine bP ?_;refine EU g a (Kn (Mx (by decide:7<=10) _) d) ?_;refine bP ?_;refine ET g a ?_;refine bP ?_;refine ES g a ?_;exact x3 g a d e j λlc st=>h st
mutual
theorem Fd{w s₀ s₁ mg mb}(e:W=Hr w s₁ mg mb)(G:Sw qv loose [] (λZ L=>True) w s₀ mg mb s₁.heap)(Y:YP w s₁.heap):Gd :=
 ⟨congrArg Wd.prog e,⟨by rw[e];exact G.T.g,by rw[e];exact G.T.b,by rw[e];exact G.T.nolimit,by rw[e];exact G.T.bmain⟩,by rw[e];exact Y.1,by rw[e];exact Y.2,congrArg Wd.t₁ e,λh=>by rw[e];exact Iff.rfl,by rw[e];exact G.T.free,by rw[e];exact G.T.builtins⟩
theorem vF{w s₁ mg mb}(e:W=Hr w s₁ mg mb)(g:Gd)(p:798<=s₁.toks)(k:s₁.gens=#[]):Inv s₁:=by
 have c:=g.fields (o:=t9) (c0 27 rfl) (λf q=>Km q);have d:=g.fields (o:=xt) (c0 26 rfl) (λf q=>Km q);have a:W.h₁=s₁.heap:=congrArg Wd.h₁ e;have j:s₁.os=W.os₁:=(congrArg Wd.os₁ e).symm;have h:=g.tabs s₁.heap;have r:=g.t1;rw[a] at c d h;refine⟨a▸OldK.refl _,λo x=>a▸x,j,by rw[k];exact .empty,a▸Jl _,r▸p,h.mpr ⟨JE c,JE d,#[],⟨⟨_,_,c,rfl,rfl,rfl⟩,d⟩,?_⟩⟩;exact⟨_,_,_,_,_,_,_,_,_,_,c,rfl,rfl,rfl,rfl,rfl,rfl,d,rfl,trivial,by decide⟩
theorem Ad{σ s vs ns}(h:IntsAre vs ns):cf σ 0 s (ns.map V.i) vs:=by
 induction h with
 |nil=>rfl
 |cons n t Z a=>exact⟨_,_,rfl,⟨_,rfl⟩,a⟩
end
theorem walk:Walk:=by
 intro w s₀ s₁ E D G Y A y l vs ns d p j;refine Jg λB=>?_;obtain⟨w,s₀,s₁,E,D,G,Y,A,y,l,vs,ns,d,p,j,B,e⟩:=Co (.mk w s₀ s₁ E D G Y A y l vs ns d p j B rfl);have g:=Fd e G Y;have C:=Ad (σ:=⟨λZ=>0,(· =l)⟩) (s:=s₁) p;have a:=C.len;rw[Jt] at a;have c:bI Sl (.v (.ref 356)) [.l (ns.map V.i)] [] λv Z=>v=.b true:=yP g rfl (by decide) (by decide) j λZ=>rfl;have r:Rel ⟨λZ=>0,(· =l)⟩ [] s₁:=⟨λh o e=>(nomatch e),λh q=>absurd q (Jy _),λh k q=>absurd q (Jy _),λb e=>e▸JE d,λb e h q=>absurd q (Jy _)⟩
 have z:JH (Jz W.prog W.w) Sl (Ky (.ref 356) [.ref l]) (PV ⟨λZ=>0,(· =l)⟩ [] s₁ λv Z=>v=.b true) EA s₁:=c _ s₁ _ [.ref l] rfl ⟨_,_,rfl,⟨l,vs.toArray,0,rfl,rfl,d,by rw[Ln,a];exact Jn j (by decide),by rw[List.toList_toArray];exact C⟩,rfl⟩ (vF e g A y) r;have F:W.prog=pw:=g.prog;have H:W.w=w:=congrArg Wd.w e;rw[F,H] at z;refine B (JB z (λv s' q=>?_) λZ L x=>x);obtain⟨σ',M,x,u,J,f⟩:=q;subst f;exact⟨J,(show W.h₁=s₁.heap from congrArg Wd.h₁ e)▸x.inv.old,x.inv.os.trans (congrArg Wd.os₁ e),x.inv.bare⟩
end
end
end Mine.Internal
theorem PySem.Challenge.cw_dm0047_11_holds : PySem.Challenge.rw_dm0047_11.Holds :=
  Mine.Internal.hd Mine.Internal.walk
