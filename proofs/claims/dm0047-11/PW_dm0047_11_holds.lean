import PyProof.Rows.All
import Wide.All
import OpenK.AllK
import Wide.FinOn
import PySem.Challenge.RW_dm0047_11
set_option maxRecDepth 100000
set_option maxHeartbeats 0
set_option Elab.async false
set_option linter.unusedVariables false
set_option genInjectivity false
set_option genSizeOf false
set_option tactic.hygienic false
set_option genCtorIdx false
open And renaming right->Pn
open Array renaming length_toList->I3,getElem?_toList->Ju,getElem?_eq_getElem->JC,toList_push->Ly,getElem?_eq_none_iff->LJ,size_setIfInBounds->LY,size_push->L3,toArray_toList->MA,isEmpty_iff_size_eq_zero->O4,eq_empty_of_size_eq_zero->O5,getElem?_push_size->Qf,getElem?_eq_none->Qv,toList_append->Q5,size_append->Rw,toList_inj->RQ,any_toList->RR,toList->Tx,any->UB
open Array.Perm renaming refl->QY
open Bool renaming noConfusion->IW,and_eq_true->Ke,false_ne_true->Kw,eq_iff_iff->K9,or_eq_false_iff->N8,and_true->Oz,false_eq_true->OC,or_eq_true->Pw,or_false->Tw
open Char renaming toNat->Uz
open Classical renaming byContradiction->IJ,em->PU
open Eq renaming trans->J3,symm->SJ
open False renaming elim->Ow
open ForInStep renaming yield->Nf
open Int renaming toNat_natCast->JD,natCast_nonneg->Kc,toNat_of_nonneg->LX,toNat->Mz,le_trans->NS,le_of_lt->NT,natCast_add->NX,sub_nonneg_of_le->Oe,le_refl->Pu,eq_ofNat_of_zero_le->QA,lt_trans->QW,add_zero->QX,mul_one->Rh,toNat_of_nonpos->Rt,negSucc_lt_zero->Rv,min_eq_right->SF,max_eq_right->SH,neg_one_mul->S3,min_eq_left->S4,max_eq_left->S5,le_antisymm->S6,add_nonneg->Tu,ofNat_sub->TY,add_assoc->TZ,zero_add->Uc,le_of_eq->Ud
open Int.ofNat renaming inj->Ru
open List renaming length_append->IL,getElem?_eq_getElem->IV,mem_of_getElem?->IX,length_map->IZ,append_assoc->I1,map_append->Jb,mem_cons_self->Je,not_mem_nil->Jf,append_nil->Jj,replicate->Jl,mem_cons_of_mem->Jm,lookup_cons->Jn,getElem?_append_left->Jp,length_take->Jq,getElem?_append_right->Jr,getElem?_map->Jt,length_cons->JA,map_map->JB,map_cons->JJ,length_reverse->JM,mem_append_right->J0,range->J4,drop_eq_getElem_cons->J7,length_range->J9,getElem?_eq_none->Ka,getElem?_set_self->Km,map_congr_left->Kn,length_replicate->Kr,length_drop->Ku,mem_append_left->KC,size_toArray->KN,take_of_length_le->KU,drop_eq_nil_of_le->KV,length_singleton->K3,mem_map_of_mem->Le,getElem_mem->Lh,length->Lr,zipWith->Ls,reverse_cons->LA,getElem?_set_ne->LO,zipWith_append->LR,replicate_succ->LS,of_mem_zip->L7,nil_append->L8,length_set->L9,foldl_cons->Ma,drop_zero->Mk,take_append_drop->Mr,getElem?_toArray->Ms,map_nil->MQ,nodup_append->M7,ext_getElem?->M8,all_cons->Nd,take_length->Nk,map_zipWith->Nl,filter_cons_of_pos->Nm,filter_cons_of_neg->Nn,mem_append->NP,length_nil->NQ,forIn_cons->NR,length_filter_le->NV,getElem?_reverse->NW,range'->N3,nodup_nil->N5,mem_of_mem_take->N6,map_id->N7,takeWhile_cons->Om,getElem?_range->Oo,filterMap_cons->Oq,pairwise_cons->OA,mem_singleton->OB,take_add_one->OR,foldl_append->OS,flatMap_cons->OT,replicate_append_replicate->O3,map_snd_zip->O7,map_fst_zip->O8,isEmpty_nil->O9,filter_cons->Pa,cons_append->Pb,all_eq_true->Pc,range_succ->Pq,getD_eq_getElem?_getD->P6,foldl->P7,getElem?_take_of_lt->Qq,zipWith_cons_cons->Qy,mem_map->Qz,singleton_append->QR,filterMap_append->QS,eq_nil_or_concat->QT,concat_eq_append->QU,pairwise_append->Q1,length_eraseIdx->Q2,getElem?_zipIdx->Q3,getElem?_range'->Q4,reverse_append->Rf,flatten_append->Rg,zip_cons_cons->Ro,lookup_append->Rp,getElem?_drop->Rq,filter_append->Rr,pairwise_map->RM,mapM_toArray->RN,suffix_refl->R6,suffix_cons->R7,map_reverse->R8,drop_length->R9,nodup_cons->SA,lookup_nil->SD,mapM_cons->S0,sum_cons->Tp,mem_cons->Tq,mapM_nil->Tr,findIdx?->Ts,all_map->TX,zip->Vf
open List.Pairwise renaming filter->Ub
open List.cons renaming inj->J8
open Nat renaming le_refl->IQ,le_trans->IT,lt_of_lt_of_le->IU,lt_irrefl->I2,not_lt_zero->I4,le_succ->I8,le_add_right->Jc,lt_succ_self->Jg,zero_le->Ji,le_of_eq->Js,ne_of_lt->Jw,zero_add->JK,lt_succ_of_lt->JL,lt_of_le_of_lt->JP,max_eq_right->JT,le_of_lt->JU,le_succ_of_le->J2,succ_le_succ->Kf,succ_add_eq_add_succ->Kz,add_assoc->KA,sub_self->KY,lt_or_ge->KZ,le_of_add_right_le->K0,lt_add_of_pos_right->Ll,add_sub_cancel_left->Lm,add_zero->Lv,le_of_ble_eq_true->Lz,add_le_add_left->LW,add_sub_cancel->Md,eq_of_beq_eq_true->Mu,succ_ne_self->My,min_le_left->MM,lt_or_eq_of_le->M4,one_pos->Nb,le_of_lt_succ->Nc,min_le_right->Nt,sub_lt->NK,ne_of_gt->NL,lt_of_succ_lt_succ->NM,beq->NN,add_comm->NO,succ_pos->OZ,sub_zero->O0,lt_trichotomy->O1,lt_trans->O2,succ_ne_zero->Pl,min_eq_left->PQ,le_add_left->PR,le_total->QQ,sub_eq_zero_of_le->QZ,add_sub_add_right->Q0,one_mul->Rc,add_le_add_right->Rd,sub_add_cancel->RH,pos_of_ne_zero->RI,lt_of_lt_of_eq->RJ,eq_zero_or_pos->RL,lt_of_succ_lt->R5,lt_add_right->Sy,le_max_right->Sz,mul_add_mod->SU,mul_add_div->SW,max_eq_left->SX,le_max_left->SY,mod_lt->UW
open Ne renaming symm->LG
open OfNat renaming ofNat->TR
open Option renaming some->IK,map->JZ,map_eq_some_iff->Ln,or_assoc->RG,or_none->R2,none_or->R3
open Option.some renaming inj->Jk
open Prod.mk renaming inj->Lg
open PyProof renaming noPylong_of_log2->PO
open PyProof.Rows renaming arrOf->JF,wpS_bind->JY,envOf->Kq,wpS_pure->Ky,callWith_type->KP,SortSt->KX,wpS_forRange->M5,Keyed->Ot,pairsOf_size->PE,pairsOf->PG,StrsAre->PL,pendingOf->P8,get?_update_seq->Qs,wpS_get->Qw,seqObj->QJ,pairsOf_toList->QK,mem_zip_self->Rz,AllBare->RS,wpS_mono->Sh,tail_any->Sn,failedOf->Sq,wpS_modify->S7,minRun'->TK,wpS->T3,stripBy_eq->Ut,slot_list_sort->Uu,lt_int->Uv,entry_list_sort->Uw,args_list_sort->Ux,wpS_lift->UC,len_list->UH,subscriptTail->U5,listUpdate_at->U8,firstOfTuple'->U9
open PyProof.Rows.SortSt renaming mk'->TQ
open PySem renaming wpAny_bind->II,wpAny_pure->IP,Shared->IY,wpAny_mono->I5,model->I6,wpAny_holding->I9,wpAny->Jd,builtinLookup_eq_fast->Jh,typeLookup_type->Jz,typeLookup->JE,wpAny_call_entry->JG,wpAny_callSpecial?_slot->JH,wpAny_newObj_type->JN,wpAny_seqItems->JS,call->JX,compareOp->J1,isSubtype_type->J6,cStatics->Kb,mainGlobals->Ki,codeAny_call_builtin->Kj,wpAny_attempt->Ko,wpAny_field->Ks,Builtin->Kx,wpAny_call->KD,specialOf->KG,wpAny_loadName_local->KQ,firstArgMember->KR,wpAny_setState_of->KS,wpAny_updateSeq->KW,wpAny_standAt->K4,wpAny_setField->K7,World->K8,rawInt->Lb,wpAny_specialOf->Ld,wpAny_rule->Li,pyNext->Lj,builtinsNs->Lk,wpAny_isInstance->Lu,codeAny_builtin->LF,FuncData->LH,typeOf->LU,binaryOp->LV,wpAny_askSetting->L6,wpAny_setEntries_of->Mb,theTreesLotGoes->Mg,holding->Mh,codeAny_of_tree->Mj,wpAny_setField_rec->Ml,pyIter->Mm,isInstance->Mn,wpAny_of_eq->Mo,seqIndex?->Mp,isSubtype->Mq,isSubtype_stop->Mw,codeAny_mono->Mx,wpAny_Name->MG,wpAny_Call_NameR->MH,opaqueClassAbove->MJ,entryFor_of_tree->MK,swappedStores->MN,strLen_append->MO,plainId_quiet->MP,sliceBounds->MT,interactive->MU,SetTable->MV,Operator->MW,codeAny->M6,typeIs_str->Ng,entryFor->Nh,assign->Ni,wpAny_truthy_bool->Nu,wpAny_pyIter_list->Nv,wpAny_loadPart_at->Nw,wpAny_letGo->Nx,wpAny_handled->NF,stored->NH,argsOk->NI,checkBuiltinCall->NY,cellsFrom->NZ,wpAny_pyNext_list_item->N9,wpAny_allTrue_And_cons->Oa,call_meetsIn->Ob,IsPair->Od,letOwnedTupleGo->Of,importedModules->Og,wpAny_pyNext_list_end->Ou,wpAny_throw->OD,wpAny_newFunctionEnv->OE,wpAny_fieldsOf->OF,relayAll->OG,execs->OH,builtinKind->OI,Draws->OK,standAt->OM,setNext->ON,noteFrame->OP,inplaceOp->OQ,builtinType_eq_fast->OU,behindInMarks->O6,wpAny_Constant_str->Pg,splitAtGen->Ph,sliceRange->Pj,wpAny_typeOf->Px,wpAny_pyIter_slot->Py,wpAny_assign_Name->Pz,valueAt->PC,seg_wrap->PD,foldedSetIterable->PH,fits_of_scanBound->PJ,IsZip->PS,GenState->PT,BindsTo->PX,Tok->PY,partValue->P9,handedOut->Qa,unsupported->Qg,field->Qh,wpAny_execs_nil->Qr,Sem->Qx,wpAny_newTuple->QC,wpAny_load->QD,table->QE,sysModules->QG,strKind_is->QH,starEach->QI,keeperOf->QM,entryFor_alias->QN,dictSetDefault->QO,am_entry_dict_getattribute->QP,JoinOk->QV,wpAny_onRaise->Q6,wpAny_assignInOrder_none->Q7,wpAny_assignInOrder_more->Q8,filterMap_getElem?_range->Q9,tc_lookup->Ri,strValues->Rj,pickOrder->Rk,codeAny_call_builtin_at->Rn,passing->Ry,meets_dict_get_default->RA,isTrue->RC,genEnv->RD,callerA->RE,wpAny_notOrdered_dict->RT,wpAny_isTrue_Compare1->RU,wpAny_allTrue_And_nil->RW,codeAny_call_function->RY,treeTable->RZ,wpAny_updateSeq_pair->Si,wpAny_letTemporaryGo->Sj,wpAny_alloc->Sk,wants->Sl,slicePicked->So,mroOf->Sp,excClassObj->Sr,builtinType->Su,bindSpecial->Sv,am_dict_getattr_none->Sw,Frame->SI,wpAny_isTrue_BoolOp->SO,wpAny_Assign_stores->SP,call_enumerate_list->SQ,wpAny_pyIter_ascii->S8,wpAny_getItem_list->S9,truthy->Ta,slot_listiter_next->Tb,newExc->Tc,call_meets->Te,assignEach->Tf,SignAt->Tj,wpAny_storeSet_of->Tz,wpAny_sequenceKey->TA,wpAny_pyIter_wide->TB,wpAny_dictEntries->TC,wpAny_Call_method->TF,slot_list_setitem->TG,setItem->TH,plainId->TJ,intKind->TM,getItem->TN,getAttr->TP,wpAny_pyIter_zip->T4,slicePick->T6,sliceMade->T7,seg_again->T8,Slot->T9,Pos->Ua,wpAny_tests_nil->Uh,wpAny_ite_split->Ui,wpAny_ite_true->UD,seg_at->UE,methodCallForm->UG,entry_typeCall->UK,checkBoundCall->UL,callWith->UM,callType_codes->UN,bindName->UO,again->UP,Thread->UQ,MulOk->UX,Model->UY,BoolOp->U1,wpAny_release->U2,typeLookup_eq->U3,swapsWithSole->U4,slot_gen_next->U6,methodCallPos->U7,fenceModules?->Va,code_list_new->Vb,assignInOrder->Vc,Seg->Ve
open PySem.Around renaming under_plainId->K6
open PySem.Bind renaming madeBy->Me,checkArgs->M0,staticBase->NU
open PySem.Builtin.Dict renaming showsAll->Pm
open PySem.Builtin.Dict_items renaming ownsTuple->Sf
open PySem.Builtin.Frozenset renaming oneOther->N2,slot0->SM,newClass->SN
open PySem.Builtin.Generator renaming genWake->SK
open PySem.Builtin.List renaming listSameRef->LC,listUpdate->MR,listExtendWith->Oy,listTouch->Pe,listItems->Pf,listSubscript?->UA
open PySem.Builtin.Range renaming rangeSize->Ug
open PySem.Builtin.SmallTypes renaming nextOf->KL,ownedTupleIsFree->Sb,ownedTupleHandOut->Se
open PySem.Builtin.Str renaming strSliceIndices->Lo,subAt->MF,occurrences->Pd,tooLong->UZ,strSub->U0
open PySem.Calls renaming callWith_builtin->Mf,callWith_function->Nj,evalArgs_plain->N1,spliced_cons->Ox,spliced_nil->OL,Name_function_global->PW
open PySem.Challenge renaming pw_dm0047_11->Mc,rw_dm0047_11->Tn
open PySem.Code renaming quiet_builtin->MZ
open PySem.Data renaming noConfusion->JO
open PySem.Draws renaming list->Ue
open PySem.ExcName renaming means->Sa
open PySem.F renaming plainAttrs_str->Kh,slot_tuple_iterator_next->K5,plain_extend_loop->LM,plainAttrs_list->LZ,plainAttrs_dict->L2,plain_extend_loop->MX,entry_extend_loop->MY,slot_str_isspace->M1,args_tuple_iterator_next_1->Oc,entry_tuple_iterator_next->Oj,args_dict_getattribute_2->Ov,slot_dict_getattribute->OJ,slot_dict_setdefault->OY,slot_dict_delitem->Po,type_str_isspace->PM,slot_list_extend->PN,slot_str_rstrip->P0,slot_dict_items->P4,slot_dict_keys->Qc,entry_dict_get->Qd,type_str_join->Qi,type_dict_get->Qj,slot_zip_next->Qk,slot_str_join->Ql,slot_set_iter->Qm,slot_list_pop->Qn,slot_dict_get->Qo,plain_set_new->Qp,slot_set_add->Qu
open PySem.Fin renaming again->Vg
open PySem.Frame renaming guarded->M9,where_->Tv
open PySem.Heap renaming get?_push_of_some->IS,get?_push_size->I0,size_push->I7,lt_size->Ja,get?_update_self->Jv,SameBut->JW,get?_update_other->J5,size_update->Mv,ExtBut->MC
open PySem.Heap.SameBut renaming update->Jx,refl->Qe
open PySem.Manifest renaming signature?->LN,canonical->ME
open PySem.Obj renaming mapSeq->JR,data_mapFields->M3,isFreed_of_fields->N0,data_mapDictKeys->Rb,cls_mapFields->R4,data->To,mapFields->TU,putSet->UU
open PySem.Pairs renaming nil->Uy
open PySem.Sem renaming bind_eq_wrap'->LB,wrap_wrap->MB,bind_eq_wrap->Sx,wp->UR
open PySem.SeqAt renaming eq_list_lengthsAt->US,eq_listAt->UT
open PySem.SetTable renaming grown->Lx,below->MD
open PySem.SetTable.below renaming go->Ny
open PySem.Shared renaming setGen->PZ
open PySem.Stmt renaming Expr->Qt,ClassDef->Th
open PySem.Str renaming ofString->IM,empty->Oi,join->Tg
open PySem.Txt renaming slice->KO,isspace->Na,mul->NJ,join->OW,rstrip->Qb
open PySem.Unicode renaming isSpace->JV
open PySem.Value renaming noConfusion->Jo,ref->Jy,none->Lp,isStrOf_shape->LQ,builtin->Oh,str->OV,type->PK
open PySem.Value.ref renaming inj->LP
open PySem.Value.type renaming inj->Vd
open PySem.W renaming Looks->JQ,opening->OO,methodObj->Rm,Ground->RP,namesBound->Td,staticsOk->T5,laidKept->UI,gensDone->UJ
open PySem.W.Fast renaming tw13482112738370960269->KH,tw11892475500146522536->KI,tw10156331382660048174->KJ,tw4202317264376624991->LK,tw14364793385576792824->Np,te11892475500146522536->Nq,te10156331382660048174->Nr,tw8920871248978507458->Nz,tw6613529449190102663->NA,tw3805553451399329143->NB,tw1435165496053646825->NC,te8920871248978507458->ND,tw4187177175401517315->Uj,tw14289696077712309145->Uk,te6613529449190102663->Ul,te4187177175401517315->Um,te3805553451399329143->Un,te14364793385576792824->Uo,te1435165496053646825->Uq,te14289696077712309145->Ur,te13482112738370960269->Us
open PySem.W.Frag renaming In->T2
open PySem.W.Looks renaming of_pure->La,ld->Lw,andThen->Ol
open PySem.W.OpenLaw renaming wellSaid->Ra
open PySem.W.R renaming anyR->OX
open PySem.isSame renaming created->RX
open PySem.pickOrder renaming go->Rx
open Std.Legacy.Range renaming size->SR,forIn_eq_forIn_range'->SS
open PySem PySem.W PyProof.Rows
namespace Mine.Internal
theorem dO{α:Type}{l:List α}{x:α}(i:Nat)(h:l[i]?=IK x):x∈l:=IX h
noncomputable abbrev eV:Str:=⟨⟨[115,101,108,102]⟩⟩
noncomputable abbrev fG:Str:=⟨⟨[112,97,114,116,115]⟩⟩
noncomputable abbrev fP:Str:=⟨⟨[98]⟩⟩
noncomputable abbrev gJ:Str:=⟨⟨[97]⟩⟩
noncomputable abbrev iC:Str:=⟨⟨[115,99,114,105,112,116]⟩⟩
noncomputable abbrev kC:Str:=⟨⟨[114,111,119]⟩⟩
noncomputable abbrev kB:Str:=⟨⟨[98,101,108,111,119]⟩⟩
noncomputable abbrev lJ:Str:=⟨⟨[105,115,106,117,110,107]⟩⟩
noncomputable abbrev mI:Str:=⟨⟨[97,117,116,111,106,117,110,107]⟩⟩
noncomputable abbrev mH:Str:=⟨⟨[101,113,117,97,108]⟩⟩
noncomputable abbrev jh:Str:=⟨⟨[97,108,105,107,101]⟩⟩
noncomputable abbrev jS:Str:=⟨⟨[109,97,116,99,104,105,110,103,95,98,108,111,99,107,115]⟩⟩
noncomputable abbrev jR:Str:=⟨⟨[63,32]⟩⟩
noncomputable abbrev k7:Str:=⟨⟨[98,50,106]⟩⟩
noncomputable abbrev mP:Str:=⟨⟨[111,112,99,111,100,101,115]⟩⟩
noncomputable abbrev mO:Str:=⟨⟨[45,32]⟩⟩
noncomputable abbrev mL:Str:=⟨⟨[43,32]⟩⟩
noncomputable abbrev mK:Str:=⟨⟨[108,105,110,101,115]⟩⟩
noncomputable abbrev oq:Str:=⟨⟨[114,101,112,108,97,99,101]⟩⟩
noncomputable abbrev oo:Str:=⟨⟨[100,101,108,101,116,101]⟩⟩
noncomputable abbrev q7:Str:=⟨⟨[102,117,108,108,98,99,111,117,110,116]⟩⟩
noncomputable abbrev q6:Str:=⟨⟨[105,110,115,101,114,116]⟩⟩
noncomputable abbrev qZ:Str:=⟨⟨[100,101,108,116,97]⟩⟩
noncomputable abbrev qY:Str:=⟨⟨[109,97,116,99,104,101,114]⟩⟩
noncomputable abbrev qX:Str:=⟨⟨[99,111,100,101]⟩⟩
noncomputable abbrev uF:Str:=⟨⟨[108,105,110,101,106,117,110,107]⟩⟩
noncomputable abbrev uE:Str:=⟨⟨[99,104,97,114,106,117,110,107]⟩⟩
noncomputable abbrev uD:Str:=⟨⟨[105]⟩⟩
noncomputable abbrev uC:Str:=⟨⟨[115,105,122,101]⟩⟩
noncomputable abbrev uB:Str:=⟨⟨[111,110,101]⟩⟩
noncomputable abbrev uA:Str:=⟨⟨[116,119,111]⟩⟩
noncomputable abbrev uz:Str:=⟨⟨[115,105,100,101]⟩⟩
noncomputable abbrev xN:Str:=⟨⟨[98,106,117,110,107]⟩⟩
noncomputable abbrev xM:Str:=⟨⟨[97,108,105,110,101]⟩⟩
noncomputable abbrev xK:Str:=⟨⟨[98,108,105,110,101]⟩⟩
noncomputable abbrev xJ:Str:=⟨⟨[97,116,97,103,115]⟩⟩
noncomputable abbrev xI:Str:=⟨⟨[98,116,97,103,115]⟩⟩
noncomputable abbrev xH:Str:=⟨⟨[119,104,105,99,104]⟩⟩
noncomputable abbrev xG:Str:=⟨⟨[111,119,110]⟩⟩
noncomputable abbrev xF:Str:=⟨⟨[116,104,101,105,114,115]⟩⟩
noncomputable abbrev BA:Str:=⟨⟨[98,112,111,112,117,108,97,114]⟩⟩
noncomputable abbrev Bz:Str:=⟨⟨[106,50,108,101,110]⟩⟩
noncomputable abbrev By:Str:=⟨⟨[110,111,116,104,105,110,103]⟩⟩
noncomputable abbrev Bx:Str:=⟨⟨[95,99,108,115]⟩⟩
noncomputable abbrev Bw:Str:=⟨⟨[105,116,101,114,97,98,108,101]⟩⟩
noncomputable abbrev Bv:Str:=⟨⟨[105,110,100,105,99,101,115]⟩⟩
noncomputable abbrev Bu:Str:=⟨⟨[106,117,110,107]⟩⟩
noncomputable abbrev Bs:Str:=⟨⟨[116,97,103,95,115]⟩⟩
noncomputable abbrev Bq:Str:=⟨⟨[111,108,100,115]⟩⟩
noncomputable abbrev Bp:Str:=⟨⟨[110,101,119,115]⟩⟩
noncomputable abbrev Bo:Str:=⟨⟨[99,111,100,101,115]⟩⟩
section
inductive Tm where
 |v (i:Nat)
 |n (x:Nat)
 |p (a b:Tm)
 |m (a b:Tm)
 |t (x:Nat) (a:Tm)
 |u (a:Tm) (x:Nat)
 |mn (a b:Tm)
 |mx (a b:Tm)
inductive Ti where
 |cn (a:Tm)
 |v (i:Nat)
 |n (x:Nat)
 |p (a b:Ti)
 |m (a b:Ti)
 |g (a:Ti)
 |t (x:Nat) (a:Ti)
 |mn (a b:Ti)
 |mx (a b:Ti)
noncomputable abbrev uy{c:Type}(d:c):List c->Nat->c
 |[],z=>d
 |a::l,i=>match i with
  |0=>a
  |i+1=>uy d l i
noncomputable abbrev Tm.den(c:List Nat):Tm->Nat
 |.v i=>uy 0 c i
 |.n x=>x
 |.p a b=>a.den c+b.den c
 |.m a b=>a.den c-b.den c
 |.t x a=>x*a.den c
 |.u a x=>a.den c*x
 |.mn a b=>min (a.den c) (b.den c)
 |.mx a b=>max (a.den c) (b.den c)
noncomputable abbrev Ti.den(c:List Nat)(d:List Int):Ti->Int
 |.cn a=>(a.den c:Int)
 |.v i=>uy 0 d i
 |.n x=>TR x
 |.p a b=>a.den c d+b.den c d
 |.m a b=>a.den c d-b.den c d
 |.g a=> - a.den c d
 |.t x a=>TR x*a.den c d
 |.mn a b=>min (a.den c d) (b.den c d)
 |.mx a b=>max (a.den c d) (b.den c d)
set_option genCtorIdx true in
inductive Rl where
 |le | lt | eq | ne
noncomputable abbrev Rl.N:Rl->Nat->Nat->Prop
 |.le,a,b=>a<=b
 |.lt,a,b=>a<b
 |.eq,a,b=>a=b
 |.ne,a,b=>a≠b
noncomputable abbrev Rl.I:Rl->Int->Int->Prop
 |.le,a,b=>a<=b
 |.lt,a,b=>a<b
 |.eq,a,b=>a=b
 |.ne,a,b=>a≠b
inductive Pr where
 |ff
 |rn (r:Rl) (a b:Tm)
 |ri (r:Rl) (a b:Ti)
 |not (p:Pr)
 |and(p q:Pr)
 |or (p q:Pr)
 |iff (p q:Pr)
noncomputable abbrev Pr.den(c:List Nat)(d:List Int):Pr->Prop
 |.ff=>False
 |.rn r a b=>r.N (a.den c) (b.den c)
 |.ri r a b=>r.I (a.den c d) (b.den c d)
 |.not p=>¬p.den c d
 |.and p q=>p.den c d/\q.den c d
 |.or p q=>p.den c d∨q.den c d
 |.iff p q=>(p.den c d↔q.den c d)
noncomputable abbrev Sd(a:List Nat)(c:List Int)(g:Pr):List Pr->Prop
 |[]=>g.den a c
 |h::d=>h.den a c->Sd a c g d
noncomputable abbrev Lf:=List Int
noncomputable def lM:Lf->Lf->Lf
 |[],m=>m
 |a::l,m=>match m with
  |[]=>a::l
  |b::m=>(a+b)::lM l m
noncomputable def wC(k:Int):Lf->Lf
 |[]=>[]
 |a::l=>(k*a)::wC k l
noncomputable def eF(l m:Lf):Lf:=lM l (wC (-1) m)
noncomputable def AG:Nat->Lf
 |0=>[1]
 |i+1=>0::AG i
noncomputable def kG(l:Lf):(Nat->Nat)->Int:=match l with
 |[]=>λz=>0
 |a::l=>λe=>a*(e 0:Int)+kG l λi=>e (i+1)
inductive Ct where
 |l (ms:List Nat)
 |b (x y:Ct)
noncomputable abbrev Kt:=List Lf->Ct->Bool
noncomputable def Ct.br(c:Ct)(f g:Ct->Bool):Bool:=match c with
 |.b x y=>f x&&g y
 |.l ms=>f (.l ms)&&g (.l ms)
noncomputable def Tm.ck:Tm->(Lf->Kt)->Kt
 |.v i,k,d,c=>k (AG (3*i+1)) d c
 |.n x,k,d,c=>k [(x:Int)] d c
 |.p a b,k,d,c=>a.ck (λla=>b.ck λlb=>k (lM la lb)) d c
 |.m a b,k,d,c=>a.ck (λla=>b.ck λlb d c=>c.br (λx=>k (eF la lb) (d++[eF la lb]) x) λy=>k [] (d++[eF lb la]) y) d c
 |.t x a,k,d,c=>a.ck (λla=>k (wC x la)) d c
 |.u a x,k,d,c=>a.ck (λla=>k (wC x la)) d c
 |.mn a b,k,d,c=>a.ck (λla=>b.ck λlb d c=>c.br (λx=>k lb (d++[eF la lb]) x) λy=>k la (d++[eF lb la]) y) d c
 |.mx a b,k,d,c=>a.ck (λla=>b.ck λlb d c=>c.br (λx=>k la (d++[eF la lb]) x) λy=>k lb (d++[eF lb la]) y) d c
noncomputable def Ti.ck:Ti->(Lf->Kt)->Kt
 |.cn a,k,d,c=>a.ck k d c
 |.v i,k,d,c=>k (eF (AG (3*i+2)) (AG (3*i+3))) d c
 |.n x,k,d,c=>k [(x:Int)] d c
 |.p a b,k,d,c=>a.ck (λla=>b.ck λlb=>k (lM la lb)) d c
 |.m a b,k,d,c=>a.ck (λla=>b.ck λlb=>k (eF la lb)) d c
 |.g a,k,d,c=>a.ck (λla=>k (wC (-1) la)) d c
 |.t x a,k,d,c=>a.ck (λla=>k (wC x la)) d c
 |.mn a b,k,d,c=>a.ck (λla=>b.ck λlb d c=>c.br (λx=>k lb (d++[eF la lb]) x) λy=>k la (d++[eF lb la]) y) d c
 |.mx a b,k,d,c=>a.ck (λla=>b.ck λlb d c=>c.br (λx=>k la (d++[eF la lb]) x) λy=>k lb (d++[eF lb la]) y) d c
noncomputable def GJ(z:Bool)(x y:Lf)(k:Kt):Kt:=match z with
 |true=>λa c=>k (a++[eF x y]++[eF y x]) c
 |false=>λa c=>c.br (λd=>k (a++[lM [-1] (eF x y)]) d) λd=>k (a++[lM [-1] (eF y x)]) d
noncomputable def Gy(z:Bool)(x y:Lf)(k:Kt):Kt:=match z with
 |true=>λa c=>k (a++[eF y x]) c
 |false=>λa c=>k (a++[lM [-1] (eF x y)]) c
noncomputable def Rl.ck(r:Rl)(z:Bool)(x y:Lf)(k:Kt):Kt:=match r with
 |.le=>Gy z x y k
 |.lt=>Gy (!z) y x k
 |.eq=>GJ z x y k
 |.ne=>GJ (!z) x y k
noncomputable def Pr.ck:Pr->Bool->Kt->Kt
 |.ff,z,k,e,c=>z || k e c
 |.rn r a b,z,k,e,c=>a.ck (λla=>b.ck λlb=>r.ck z la lb k) e c
 |.ri r a b,z,k,e,c=>a.ck (λla=>b.ck λlb=>r.ck z la lb k) e c
 |.not p,z,k,e,c=>p.ck (!z) k e c
 |.and p q,z,k,e,c=>match z with
  |true=>p.ck true (q.ck true k) e c
  |false=>c.br (λd=>p.ck false k e d) λd=>q.ck false k e d
 |.or p q,z,k,e,c=>match z with
  |false=>p.ck false (q.ck false k) e c
  |true=>c.br (λd=>p.ck true k e d) λd=>q.ck true k e d
 |.iff p q,z,k,e,c=>c.br (λd=>p.ck true (q.ck z k) e d) λd=>p.ck false (q.ck (!z) k) e d
noncomputable def comb:List Nat->List Lf->Lf
 |[],z=>[]
 |m::ms,a=>match a with
  |[]=>[]
  |c::a=>lM (wC m c) (comb ms a)
noncomputable def isNeg:Int->Bool
 |.negSucc z=>true
 |.ofNat z=>false
noncomputable def CD:Int->Bool
 |.negSucc z=>true
 |.ofNat n=>n.beq 0
noncomputable def D9(l:Lf):Bool:=match l with
 |[]=>false
 |a::l=>isNeg a&&l.all CD
noncomputable def Ab(a:List Lf)(c:Ct):Bool:=match c with
 |.b z y=>false
 |.l ms=>D9 (comb ms a)
noncomputable def CG:List Pr->Kt->Kt
 |[],k=>k
 |h::a,k=>h.ck true (CG a k)
noncomputable def F9(g:Pr)(a:List Pr)(c:Ct):Bool:=CG a (g.ck false Ab) [] c
section
variable {B:List Nat}{A:List Int}
theorem Gu{a}{b x l m:Int}(h:l=m):(a+b)*x+l=a*x+b*x+m:=by rw[h,Int.add_mul]
theorem mX:∀(l m:Lf) (e:Nat->Nat),kG (lM l m) e=kG l e+kG m e
 |[],m,e=>(Uc _).symm
 |a::l,[],e=>(QX _).symm
 |a::l,b::m,e=>by
  refine(Gu (mX l m _)).trans ?_;show _=a*(e 0:Int)+_+(b*(e 0:Int)+_)
  rw[TZ,TZ,Int.add_left_comm (b*(e 0:Int))]
theorem pZ(k:Int):∀(l:Lf) (e:Nat->Nat),kG (wC k l) e=k*kG l e
 |[],e=>(Int.mul_zero _).symm
 |a::l,e=>by
  show k*a*(e 0:Int)+kG (wC k l) _=k*(a*(e 0:Int)+_);rw[pZ k l,Int.mul_add,Int.mul_assoc]
theorem rm(l m:Lf)(e:Nat->Nat):kG (eF l m) e=kG l e-kG m e:=by
 unfold eF;rw[mX,pZ,S3];rfl
theorem pY:∀(i:Nat) (e:Nat->Nat),kG (AG i) e=(e i:Int)
 |0,e=>(QX _).trans (Int.one_mul _)
 |i+1,e=>(congrArg (· + _) (Int.zero_mul _)).trans ((Uc _).trans (pY i _))
noncomputable def Ah(B:List Nat)(A:List Int)(k j:Nat):Nat:=match k with
 |0=>uy 0 B j
 |1=>(uy 0 A j).toNat
 |_=>(-uy 0 A j).toNat
noncomputable def env(B:List Nat)(A:List Int)(i:Nat):Nat:=match i with
 |0=>1
 |i+1=>Ah B A (i % 3) (i / 3)
noncomputable def LD(B:List Nat)(A:List Int)(l:Lf):Int:=kG l (env B A)
mutual
theorem p8(l m:Lf):LD B A (lM l m)=LD B A l+LD B A m:=mX ..
theorem p7(l m:Lf):LD B A (eF l m)=LD B A l-LD B A m:=rm ..
theorem BE(k:Int)(l:Lf):LD B A (wC k l)=k*LD B A l:=pZ ..
theorem Cx(x:Int):LD B A [x]=x:=(QX _).trans (Rh x)
theorem Gw(i:Nat):LD B A (AG (3*i+1))=((uy 0 B i:Nat):Int):=by
 refine(pY _ _).trans ?_;show((Ah B A ((3*i) % 3) ((3*i) / 3):Nat):Int)=_;rw[Nat.mul_mod_right,Nat.mul_div_cancel_left _ (by decide)];rfl
theorem Gx(i:Nat):LD B A (eF (AG (3*i+2)) (AG (3*i+3)))=uy 0 A i:=by
 refine(rm _ _ _).trans ?_;rw[pY,pY];show((Ah B A ((3*i+1) % 3) ((3*i+1) / 3):Nat):Int)-((Ah B A ((3*i+2) % 3) ((3*i+2) / 3):Nat):Int)=_;rw[SU,SU,SW (by decide),SW (by decide)];exact Int.toNat_sub_toNat_neg (uy 0 A i)
end
noncomputable def Gc(B:List Nat)(A:List Int)(a:List Lf):Prop:=∀c∈a,0<=LD B A c
theorem Gc.add{cs l}(g:Gc B A cs)(h:0<=LD B A l):Gc B A (cs++[l]):=λc hc=>by
 rcases NP.mp hc with q | q
 ·exact g c q
 ·rw[OB.mp q];exact h
mutual
theorem Gc.sub{cs l m x y}(g:Gc B A cs)(a:LD B A l=x)(c:LD B A m=y)(h:y<=x):Gc B A (cs++[eF l m]) :=
 g.add (by rw[p7,a,c];exact Oe h)
theorem Gc.B4{cs l m x y}(g:Gc B A cs)(a:LD B A l=x)(c:LD B A m=y)(h:¬x<=y):Gc B A (cs++[lM [-1] (eF l m)]) :=
 g.add (by
  rw[p8,p7,a,c,Cx,Int.add_comm];exact Oe (Int.add_one_le_of_lt (Int.sub_pos_of_lt (Int.not_le.mp h))))
end
theorem yQ{X:Prop}{c:Ct}{f g}(h:c.br f g=true)(k:∀x y,f x=true->g y=true->X):X:=by
 cases c with
 |l ms=>exact k _ _ (Bool.and_eq_true_iff.mp h).1 (Bool.and_eq_true_iff.mp h).2
 |b x y=>exact k x y (Bool.and_eq_true_iff.mp h).1 (Bool.and_eq_true_iff.mp h).2
noncomputable def Tk(B:List Nat)(A:List Int)(d:Int)(f:(Lf->Kt)->Kt):Prop:=∀(X:Prop) (k:Lf->Kt) a c,f k a c=true->Gc B A a->(∀l a c,k l a c=true->Gc B A a->LD B A l=d->X)->X
theorem w5{a}{b:Nat}(h:b<=a):(a:Int)-(b:Int)=((a-b:Nat):Int):=(TY h).symm
mutual
theorem F6{x y d f g}{o:Lf->Lf->Lf}(j:Tk B A x f)(p:Tk B A y g)(q:∀l m,LD B A l=x->LD B A m=y->LD B A (o l m)=d):Tk B A d λk=>f λla=>g λlb=>k (o la lb) :=
 λX k a c h w K=>j X _ a c h w λla a c h w e=>p X _ a c h w λlb a c h w i=>K _ _ _ h w (q _ _ e i)
theorem F5{a b d f g}{o o':Lf->Lf->Lf}(z:Tk B A a f)(C:Tk B A b g)(u:∀l m,LD B A l=a->LD B A m=b->b<=a->LD B A (o l m)=d)(v:∀l m,LD B A l=a->LD B A m=b->a<=b->LD B A (o' l m)=d) :
  Tk B A d λk=>f λla=>g λlb e c=>c.br (λx=>k (o la lb) (e++[eF la lb]) x) λy=>k (o' la lb) (e++[eF lb la]) y :=
 λX k e c h w K=>z X _ e c h w λla e c h w i=>C X _ e c h w λlb e c h w j=>yQ h λx y p q=>(Int.le_total b a).elim (λr=>K _ _ _ p (w.sub i j r) (u _ _ i j r)) λr=>K _ _ _ q (w.sub j i r) (v _ _ i j r)
end
mutual
theorem Hw{a b f g}(i:Tk B A a f)(j:Tk B A b g):Tk B A (min a b) λk=>f λla=>g λlb d c=>c.br (λx=>k lb (d++[eF la lb]) x) λy=>k la (d++[eF lb la]) y :=
 F5 (o:=λz m=>m) (o':=λl z=>l) i j (λl m e h r=>h.trans (SF r).symm) λl m e h r=>e.trans (S4 r).symm
theorem Hv{a b f g}(i:Tk B A a f)(j:Tk B A b g):Tk B A (max a b) λk=>f λla=>g λlb d c=>c.br (λx=>k la (d++[eF la lb]) x) λy=>k lb (d++[eF lb la]) y :=
 F5 (o:=λl z=>l) (o':=λz m=>m) i j (λl m e h r=>e.trans (S5 r).symm) λl m e h r=>h.trans (SH r).symm
end
mutual
theorem yJ(a b:Nat):((min a b:Nat):Int)=min (a:Int) b:=(QQ a b).elim (λr=>by rw[PQ r,S4 (Int.ofNat_le.mpr r)]) λr=>by rw[Nat.min_eq_right r,SF (Int.ofNat_le.mpr r)]
theorem yK(a b:Nat):((max a b:Nat):Int)=max (a:Int) b:=(QQ a b).elim (λr=>by rw[JT r,SH (Int.ofNat_le.mpr r)]) λr=>by rw[SX r,S5 (Int.ofNat_le.mpr r)]
end
theorem Tk.eq{d d' f}(h:Tk B A d f)(e:d=d'):Tk B A d' f:=e▸h
theorem nM{a b}(h:a<=b):(0:Int)=((a-b:Nat):Int):=by rw[QZ h];rfl
theorem FC{a f}(x:Int)(g:Tk B A a f):Tk B A (x*a) λk=>f λla=>k (wC x la) :=
 λX k d c h w K=>g X _ d c h w λl d c h w e=>K _ _ _ h w (by rw[BE,e])
theorem Tm.snd(a:Tm):Tk B A (a.den B) a.ck:=by
 induction a with
 |v i=>exact λX k j c h w K=>K _ _ _ h w (Gw i)
 |n x=>exact λX k j c h w K=>K _ _ _ h w (Cx _)
 |p a b d e=>exact F6 d e λl m f g=>by rw[p8,f,g];rfl
 |m a b d e=>exact F5 (o':=λz y=>[]) d e (λl m f g r=>by rw[p7,f,g];exact w5 (Int.ofNat_le.mp r)) λl m f g r=>nM (Int.ofNat_le.mp r)
 |t x a d=>exact FC x d
 |u a x d=>exact(FC x d).eq (Int.mul_comm ..)
 |mn a b d e=>exact(Hw d e).eq (yJ ..).symm
 |mx a b d e=>exact(Hv d e).eq (yK ..).symm
theorem Ti.snd(a:Ti):Tk B A (a.den B A) a.ck:=by
 induction a with
 |cn a=>exact a.snd
 |v i=>exact λX k o c h w K=>K _ _ _ h w (Gx i)
 |n x=>exact λX k o c h w K=>K _ _ _ h w (Cx _)
 |p a b d e=>exact F6 d e λl m f j=>by rw[p8,f,j]
 |m a b d e=>exact F6 d e λl m f j=>by rw[p7,f,j]
 |g a d=>exact(FC (-1) d).eq (S3 _)
 |t x a d=>exact FC _ d
 |mn a b d e=>exact Hw d e
 |mx a b d e=>exact Hv d e
noncomputable def og(z:Bool)(p:Prop):Prop:=match z with
 |true=>p
 |false=>¬p
theorem ur{z p}(h:og z (¬p)):og (!z) p:=by
 cases z with
 |true=>exact h
 |false=>exact Classical.not_not.mp h
noncomputable def Pk(B:List Nat)(A:List Int)(P:Prop)(f:Kt->Kt):Prop:=∀(X:Prop) (k:Kt) a c,f k a c=true->Gc B A a->P->(∀a c,k a c=true->Gc B A a->X)->X
theorem Pk.to{P Q f}(h:Pk B A P f)(i:Q->P):Pk B A Q f:=λX k a c e w p K=>h X k a c e w (i p) K
theorem uj{x y l m}(f:LD B A l=x)(g:LD B A m=y)(z:Bool)(r:Rl):Pk B A (og z (r.I x y)) (r.ck z l m):=by
 have e {B A x y l m} (f:LD B A l=x) (g:LD B A m=y) (z:Bool):Pk B A (og z (x<=y)) (Gy z l m):=by
  cases z with
  |true=>exact λX k j c h w p K=>K _ _ h (w.sub g f p)
  |false=>exact λX k j c h w p K=>K _ _ h (w.B4 f g p)
 have a (z:Bool):Pk B A (og z (x=y)) (GJ z l m):=by
  cases z with
  |true=>exact λX k j c h w p K=>K _ _ h ((w.sub f g (Ud p.symm)).sub g f (Ud p))
  |false=>exact λX k j c h w p K=>yQ h λd v o q=>(PU (x<=y)).elim (λr=>K _ _ q (w.B4 g f λu=>p (S6 r u))) λr=>K _ _ o (w.B4 f g r)
 cases r with
 |le=>exact e f g z
 |lt =>
  have i (p:og z (x<y)):og (!z) (y<=x):=by
   cases z with
   |true=>exact Int.not_le.mpr p
   |false=>exact Int.not_lt.mp p
  exact(e g f (!z)).to i
 |eq=>exact a z
 |ne=>exact(a (!z)).to ur
mutual
theorem zw{r:Rl}{a b}:r.N a b↔r.I a b:=by
 cases r with
 |le=>exact Int.ofNat_le.symm
 |lt=>exact Int.ofNat_lt.symm
 |eq=>exact Int.ofNat_inj.symm
 |ne=>exact not_congr Int.ofNat_inj.symm
theorem zC{z p q}(h:p↔q)(k:og z p):og z q:=by
 cases z with
 |true=>exact h.mp k
 |false=>exact λr=>k (h.mpr r)
end
mutual
theorem HI{P x y f g}{o:Lf->Lf->Kt->Kt}(i:Tk B A x f)(j:Tk B A y g)(q:∀l m,LD B A l=x->LD B A m=y->Pk B A P (o l m)):Pk B A P λk=>f λla=>g λlb=>o la lb k :=
 λX k a c h w p K=>i X _ a c h w λla a c h w d=>j X _ a c h w λlb a c h w e=>q _ _ d e X k _ _ h w p K
theorem FD{P Q f g}(d:Pk B A P f)(e:Pk B A Q g):Pk B A (P/\Q) λk=>f (g k) :=
 λX k a c h w p K=>d X _ a c h w p.1 λa c h w=>e X k a c h w p.2 K
theorem Ge{P Q f g}(o:Pk B A P f)(q:Pk B A Q g):Pk B A (P∨Q) λk a c=>c.br (λd=>f k a d) λd=>g k a d :=
 λX k a c h w p K=>yQ h λd e i j=>p.elim (λp=>o X k a d i w p K) λp=>q X k a e j w p K
theorem CN(z:Bool):Pk B A (og z False) (Pr.ff.ck z):=by
 cases z with
 |true=>exact λX k a c h w p K=>p.elim
 |false=>exact λX k a c h w p K=>K _ _ h w
end
mutual
theorem Aq{p q}(a:∀z,Pk B A (og z (p.den B A)) (p.ck z))(c:∀z,Pk B A (og z (q.den B A)) (q.ck z))(z:Bool):Pk B A (og z (p.den B A/\q.den B A)) ((Pr.and p q).ck z):=by
 cases z with
 |true =>
  have h:=FD (a true) (c true);exact h
 |false=>exact(Ge (a false) (c false)).to Classical.not_and_iff_not_or_not.mp
theorem Ck{p q}(a:∀z,Pk B A (og z (p.den B A)) (p.ck z))(c:∀z,Pk B A (og z (q.den B A)) (q.ck z))(z:Bool):Pk B A (og z (p.den B A∨q.den B A)) ((Pr.or p q).ck z):=by
 cases z with
 |true =>
  have h:=Ge (a true) (c true);exact h
 |false=>exact(FD (a false) (c false)).to not_or.mp
end
theorem xw{p q z}(r:og z (p↔q)):(p/\og z q)∨(¬p/\og (!z) q):=by
 cases z with
 |true=>exact(PU p).imp (λe=>⟨e,r.mp e⟩) λe=>⟨e,λq=>e (r.mpr q)⟩
 |false=>exact(PU p).imp (λe=>⟨e,λq=>r ⟨λy=>q,λy=>e⟩⟩) λe=>⟨e,IJ λq=>r ⟨λp=>(e p).elim,λs=>(q s).elim⟩⟩
theorem Pr.snd(p:Pr):∀z,Pk B A (og z (p.den B A)) (p.ck z):=by
 induction p with
 |ff=>exact CN
 |rn r a b=>exact λz=>HI a.snd b.snd λl m e f=>(uj e f z r).to (zC zw)
 |ri r a b=>exact λz=>HI a.snd b.snd λl m e f=>uj e f z r
 |not p g=>exact λz=>(g (!z)).to ur
 |and p q c d=>exact Aq c d
 |or p q c d=>exact Ck c d
 |iff p q c d=>exact λz=>(Ge (FD (c true) (d z)) (FD (c false) (d (!z)))).to xw
theorem rQ:∀(ms:List Nat) (a:List Lf),Gc B A a->0<=LD B A (comb ms a)
 |[],z,y=>Pu _
 |m::ms,[],z=>Pu _
 |m::ms,c::a,g=>by
  show 0<=LD B A (lM (wC m c) (comb ms a));rw[p8,BE];exact Tu (Int.mul_nonneg (Kc _) (g c (Je ..))) (rQ ms a λd hd=>g d (Jm _ hd))
theorem zW{a}(h:CD a=true):a<=0:=by
 cases a with
 |ofNat n=>have:=Mu h;subst this;exact Pu _
 |negSucc n=>exact NT (Rv n)
theorem Bl:∀(l:Lf) (e:Nat->Nat),l.all CD=true->kG l e<=0
 |[],e,z=>Pu _
 |a::l,e,h=>by
  obtain⟨c,d⟩:=Bool.and_eq_true_iff.mp ((Nd ..).symm.trans h);exact Int.add_nonpos (Int.mul_nonpos_of_nonpos_of_nonneg (zW c) (Kc (e 0))) (Bl l _ d)
theorem Aa{cs c}(h:Ab cs c=true)(g:Gc B A cs):False:=by
 have e {l} (h:D9 l=true):LD B A l<0:=by
  have d {a} (h:isNeg a=true):a<0:=by
   cases a with
   |ofNat n=>exact IW h
   |negSucc n=>exact Rv n
  cases l with
  |nil=>exact IW h
  |cons a l =>
   obtain⟨f,i⟩:=Bool.and_eq_true_iff.mp h;refine Int.add_neg_of_neg_of_nonpos ?_ (Bl l _ i);rw[show((env B A 0:Nat):Int)=1 from rfl,Rh];exact d f
 cases c with
 |b=>exact IW h
 |l ms=>exact Int.not_le.mpr (e h) (rQ ms cs g)
theorem yh:∀(d:List Pr) {g:Pr} {a:List Lf} {c:Ct},CG d (g.ck false Ab) a c=true->Gc B A a->Sd B A g d
 |[],g,a,c,h,k=>IJ λq=>g.snd false False Ab a c h k q λa c h k=>Aa h k
 |p::d,g,a,c,h,k=>λe=>IJ λq=>p.snd true False _ a c h k e λa c h k=>q (yh d h k)
theorem HP(B:List Nat)(A:List Int)(g:Pr)(hs:List Pr)(c:Ct)(h:F9 g hs c=true):Sd B A g hs:=yh hs h λz q=>absurd q Jf
theorem li{g hs}(c:Ct)(h:F9 g hs c=true):Sd B A g hs:=HP B A g hs c h
noncomputable def HF:Nat->Nat->(List Nat->Nat->Ct)->Ct
 |0,x,k=>k [] x
 |f+1,x,k=>match Nat.ble 6 (x % 8) with
  |true=>k [] (x / 8)
  |false=>HF f (x / 8) λl=>k ((x % 8)::l)
noncomputable def Gb:Nat->Nat->(Ct->Nat->Ct)->Ct
 |0,x,k=>k (.l []) x
 |f+1,x,k=>match NN (x % 8) 7 with
  |true=>Gb f (x / 8) λa y=>Gb f y λb=>k (.b a b)
  |false=>HF 99 x λl=>k (.l l)
noncomputable abbrev Ent:=Pr×List Pr×Nat
noncomputable abbrev SE(B:List Nat)(A:List Int)(e:Ent):Prop:=Sd B A e.1 e.2.1
noncomputable def jy(e:Ent):Bool:=F9 e.1 e.2.1 (Gb 99 e.2.2 λc z=>c)
noncomputable abbrev dE:Ent:=(.ff,[.ff],0)
theorem xE:∀ {l:List Ent} (h:l.all jy=true) (i:Nat),jy (uy dE l i)=true
 |[],z,y=>rfl
 |a::l,h,0=>(Bool.and_eq_true_iff.mp h).1
 |a::l,h,i+1=>xE (l:=l) (Bool.and_eq_true_iff.mp h).2 i
theorem ux:∀ {l:List (List Ent)} (h:l.all (λl=>l.all jy)=true) (i:Nat),(uy [] l i).all jy=true
 |[],z,y=>rfl
 |a::l,h,0=>(Bool.and_eq_true_iff.mp h).1
 |a::l,h,i+1=>ux (l:=l) (Bool.and_eq_true_iff.mp h).2 i
mutual
theorem gh{a}{l:List (List Ent)}(h:a.all jy=true)(k:l.all (λl=>l.all jy)=true):(a::l).all (λl=>l.all jy)=true:=Bool.and_eq_true_iff.mpr ⟨h,k⟩
theorem Iq{l}(h:l.all jy=true)(i:Nat)(B:List Nat)(A:List Int):SE B A (uy dE l i):=HP B A _ _ _ (xE h i)
theorem rB(n:Nat):2*(n / 2)<=n:=Nat.mul_div_le n 2
theorem rA(n:Nat):n<2*(n / 2)+2:=Nat.lt_mul_div_succ n (by decide)
theorem toN(x:Int):(0<=x/\((x.toNat:Nat):Int)=x)∨(x<0/\x.toNat=0):=(Int.lt_or_le x 0).elim (λh=>.inr ⟨h,Rt (NT h)⟩) λh=>.inl ⟨h,LX h⟩
end
end
namespace Lq
noncomputable abbrev m:=Ti.n
noncomputable abbrev n:=Ti.cn
noncomputable abbrev y:=Ti.p
noncomputable abbrev E:=Ti.m
noncomputable abbrev F:=Ti.g
noncomputable abbrev f:=Tm.n
noncomputable abbrev c:=Tm.p
noncomputable abbrev j:=Tm.m
noncomputable abbrev B:=Tm.mn
noncomputable abbrev I:=Tm.mx
noncomputable abbrev s:=Tm.t
noncomputable abbrev R:=Tm.u
noncomputable abbrev M:=Ti.t
noncomputable abbrev G:=Ti.mn
noncomputable abbrev D:=Ti.mx
noncomputable abbrev C:=Pr.ff
noncomputable abbrev p:=Pr.not
noncomputable abbrev o:=Pr.and
noncomputable abbrev w:=Pr.or
noncomputable abbrev Q:=Pr.iff
noncomputable abbrev d:=Pr.rn .le
noncomputable abbrev g:=Pr.rn .lt
noncomputable abbrev i:=Pr.rn .eq
noncomputable abbrev J:=Pr.rn .ne
noncomputable abbrev x:=Pr.ri .le
noncomputable abbrev t:=Pr.ri .lt
noncomputable abbrev v:=Pr.ri .eq
noncomputable abbrev P:=Pr.ri .ne
noncomputable abbrev a:=Tm.v 0
noncomputable abbrev b:=Tm.v 1
noncomputable abbrev e:=Tm.v 2
noncomputable abbrev h:=Tm.v 3
noncomputable abbrev k:=Tm.v 4
noncomputable abbrev l:=Tm.v 5
noncomputable abbrev r:=Tm.v 6
noncomputable abbrev u:=Tm.v 7
noncomputable abbrev A:=Tm.v 8
noncomputable abbrev H:=Tm.v 9
noncomputable abbrev K:=Tm.v 10
noncomputable abbrev N:=Tm.v 11
noncomputable abbrev O:=Tm.v 12
noncomputable abbrev q:=Ti.v 0
noncomputable abbrev z:=Ti.v 1
noncomputable abbrev L:=Ti.v 2
noncomputable abbrev zT0:List Ent:=[(C,[(d (c a (f 1)) b),(d b a)],(nat_lit 393)),
 ((d (c a e) (c b e)),[(d a b)],(nat_lit 393)),
 ((g a b),[(g a (c b (f 1))),(p (i a b))],(nat_lit 12880975)),
 ((i a (f 0)),[(p (g (f 0) a))],(nat_lit 1608783)),
 ((i a (f 0)),[(g a (c (f 0) (f 1)))],(nat_lit 1608783)),
 ((g a (c b e)),[(g a b)],(nat_lit 393)),
 ((i (c a (c b e)) (c (c a b) e)),[],(nat_lit 49)),
 ((d a (c b e)),[(d a b)],(nat_lit 393)),
 ((g a (c a (f 1))),[],(nat_lit 49)),
 ((w (g h k) (o (i h k) (d l r))),[(g a b),(i e a),(i e b)],(nat_lit 25153)),
 ((d a b),[(i a (f 0))],(nat_lit 3144)),
 ((o (i e h) (i k l)),[(g a b),(i b (f 0))],(nat_lit 3137)),
 ((i (c (j b a) a) b),[(d a b)],(nat_lit 0x3123107e207)),
 ((w (g h k) (o (i h k) (d l r))),[(g a b),(i e b),(d e a)],(nat_lit 25097)),
 ((d b a),[(i a b)],(nat_lit 3137)),
 ((d e b),[(g a b),(d e a)],(nat_lit 3145)),
 ((w (g a k) (o (i a k) (d e l))),[(w (g a b) (o (i a b) (g e h))),(i k b),(i l h)],(nat_lit 0xc40201031001001c4000823fc4004f)),
 ((d b a),[(p (g a b))],(nat_lit 393)),
 ((g a e),[(g a b),(i e b)],(nat_lit 25097)),
 ((i (j e b) a),[(i (c a b) e)],(nat_lit 0x189231007c4118807f)),
 (C,[(g a b),(p (g (f 0) b))],(nat_lit 393)),
 ((o (d k (I r b)) (d l (I u h))),[(g a b),(g e h),(i k (c a (f 1))),(i l (c e (f 1)))],(nat_lit 0x188200231240047c4004038900807f)),
 ((o (d (c a k) (I b l)) (d (c e k) (I h r))),[(i a b),(i e h),(p (g (f 0) k))],(nat_lit 0x1892401882401f124023104023f)),
 ((i (c e b) (c (j (c e b) (f 1)) (f 1))),[(g a b)],(nat_lit 0x3107123e207))]
noncomputable abbrev zT1:List Ent:=[((o (d r (j (c a b) (f 1))) (o (g (j (c a b) (f 1)) e) (o (d u (j (c h b) (f 1))) (g (j (c h b) (f 1)) k)))),[(d (c a b) e),(d (c h b) k),(g l b),(d r a),(d u h)],(nat_lit 0x1880091880011f124103104103fc40041c40001ff120903100903f)),
 ((i a e),[(d a b),(d b e),(p (g a e))],(nat_lit 0x18903104f)),
 ((g a e),[(g a b),(i b e)],(nat_lit 25153)),
 ((i e b),[(i a b),(d a e),(d e b)],(nat_lit 0x6208389007)),
 ((w (g u a) (o (i u a) (d H k))),[(i (c a b) (c e h)),(i (c k b) (c l h)),(i b r),(i (c u r) (c A h)),(i (c H r) (c K h)),(w (g A e) (o (i A e) (d K l)))],(nat_lit 0xc41008008040c40040041008c40200208001ff120104000f)),
 ((d a b),[(g a (c b (f 1)))],(nat_lit 393)),
 ((d a (j b (f 1))),[(g a b)],(nat_lit 103080463)),
 ((o (d e h) (o (d a k) (o (i l (c (c r (f 1)) u)) (o (i A (c b u)) (d u H))))),[(g a b),(d e h),(d a k),(i l (c r (c u (f 1)))),(i A (c (j b (f 1)) (c u (f 1)))),(d (c u (f 1)) H)],(nat_lit 0x189000000c4024000620800007fc4000100620004003fc40000207c40000047c480000062010000310400001fe2000080310002001fe20000103e20000023f)),
 ((d (c a (c b (f 1))) e),[(g (c a b) e)],(nat_lit 393)),
 ((o (d a e) (o (d h k) (d l r))),[(d (c a b) e),(d h k),(d l r)],(nat_lit 0x6240c411f100f)),
 ((d a e),[(i a b),(d b e)],(nat_lit 25160)),
 ((o (d a b) (o (d e h) (o (d k l) (d r u)))),[(d a b),(d e h),(d k l),(d r u)],(nat_lit 0x1890062081f1008f8800f)),
 ((d a b),[(g a b)],(nat_lit 393)),
 ((o (d a b) (d e h)),[(d a b),(d e h)],(nat_lit 103047695)),
 ((o (d l e) (d r k)),[(d (c a b) e),(d (c h b) k),(d l a),(d r h)],(nat_lit 0x624118820f)),
 ((o (g l r) (o (d u A) (o (d H e) (o (d K N) (d O k))))),[(d (c a b) e),(d (c h b) k),(g l r),(d u A),(d H a),(d K N),(d O h)],(nat_lit 0x6240008c410001f100800fc400401f1000207)),
 ((o (g a b) (o (d e h) (o (d k l) (o (d r u) (d A H))))),[(g a b),(d e h),(d k l),(d r u),(d A H)],(nat_lit 0x189000c41007c40207c40047c4000f)),
 ((o (g k l) (o (d a u) (o (d A H) (o (d e K) (d N O))))),[(d a b),(d e h),(g k l),(d (c b r) u),(d A H),(d (c h r) K),(d N O)],(nat_lit 0x6240000c410011f1008007c400403f1000207)),
 ((d a (c a b)),[],(nat_lit 49)),
 (C,[(g a (f 0))],(nat_lit 49)),
 ((d (c a (c b h)) (c e h)),[(d (c a b) e)],(nat_lit 393)),
 ((d (c a (c b (f 1))) e),[(d (c a b) (j e (f 1))),(g a e)],(nat_lit 0x189231047)),
 ((i (j a b) (j (c a e) (c b e))),[],(nat_lit 0x620620e247f883891f103f)),
 ((i (j (j a b) e) (j a (c e b))),[],(nat_lit 0x6200c4038903fc4118803e201c481ffc40188231207f88231207c401ff))]
noncomputable abbrev zT2:List Ent:=[((i (c (c a b) e) (c a (c e b))),[],(nat_lit 49)),
 ((g a e),[(g (c a b) (c e b))],(nat_lit 393)),
 ((i (j (j (c a b) b) (c e b)) (j (j a b) e)),[],(nat_lit 0xc40031000c4803fc40031001c4803ff880462001f1008c4003fc40231000f8800e2001fff88006200189007f88006201189007ff1008c4103e201188207f880462401f1000fff)),
 ((i (j a (c b e)) (j (j a e) b)),[],(nat_lit 0x6200c4018903fc40188071207ff100e208f88071047f88071207c401ff)),
 ((g a (j b h)),[(g a (j (c b e) (c h e)))],(nat_lit 0x3118918823f)),
 ((g a (j (j b h) e)),[(g a (j b (c e h)))],(nat_lit 0x62312310462011ff)),
 ((i (j (j (c a b) (c e b)) b) (j (j a e) b)),[],(nat_lit 0x62001880062401fe20018800e2401ffc40231000f88007c40231000f8800e2081fff88006200189007f88006201189007ff1008c4103e200388207f880462401f1000fff)),
 ((i (j (j a (c b e)) e) (j (j (j a e) b) e)),[],(nat_lit 0x188000c4000624003fc400062000312001ffc400062000312001fe200031000389000fffc4004620003e20003e2002310001f1000188200ffe2002310001f10001f1001188000f88001c41007fffc400062000312001fe200031000189000ffe200031000189000ff1000188008c48007ffe2002310081f1000388040ff1001188040f88001c40207ff1001188200f88001c41007f88008c48007c40007fff)),
 (C,[(g (c a b) e),(d (j e a) b)],(nat_lit 12902927)),
 ((d (j a (c b (c e k))) h),[(d (j a (c b e)) (c h k))],(nat_lit 0x18803100fc4018823f)),
 ((g (f 0) (c a (f 1))),[],(nat_lit 49)),
 ((i (c (j b (f 1)) (c e (f 1))) (c b e)),[(g a b)],(nat_lit 0x3123107e207)),
 ((d (c (j a (f 1)) (c b (f 1))) e),[(d (c a b) e),(g h a)],(nat_lit 0x18827100f)),
 (C,[(w (g (c a (f 1)) a) (o (i (c a (f 1)) a) (w (g b e) (o (i b e) (d h k)))))],(nat_lit 201103)),
 (C,[(w (g (c a (f 1)) a) (o (i (c a (f 1)) a) (w (g b b) (o (i b b) (d e e)))))],(nat_lit 201103)),
 ((g a e),[(d (c a (c b (f 1))) e)],(nat_lit 393)),
 ((d (c (j e b) (c h b)) k),[(d (c a b) e),(d (c e h) k)],(nat_lit 0x188271047)),
 ((i (c (j e b) (c h b)) (c e h)),[(d (c a b) e)],(nat_lit 0x3123107e207)),
 ((i (j (c b e) a) (c (j b a) e)),[(d a b)],(nat_lit 0x6209c401f1046201ff100e240f8803f)),
 ((i (c (c e a) (j b a)) (c e b)),[(d a b)],(nat_lit 0x3123107e207)),
 ((d h e),[(d (c a b) e),(d h a)],(nat_lit 3145)),
 ((g (f 0) (f 1)),[],(nat_lit 49)),
 ((i a (f 0)),[(g a (f 1))],(nat_lit 1608783)),
 ((d (c a (f 1)) e),[(d (c a b) e),(g h b)],(nat_lit 3145))]
noncomputable abbrev zT3:List Ent:=[((g (f 0) a),[(w (g (f 1) a) (o (i (f 1) a) (w (g b e) (o (i b e) (d h k)))))],(nat_lit 0x6200231047c4f)),
 ((g (j b (f 1)) b),[(g a b)],(nat_lit 102818311)),
 ((d a (c b (j e (f 1)))),[(g a (c b e))],(nat_lit 103080463)),
 ((g (c a (j b (f 1))) e),[(d (c a b) e),(g h b)],(nat_lit 0x18827100f)),
 ((d a e),[(d a b),(d b e)],(nat_lit 3145)),
 ((g (c (j a e) k) h),[(d (c a b) (c e h)),(d e a),(g k b)],(nat_lit 0x620938820f)),
 ((i (c a (c (j b a) e)) (c b e)),[(d a b)],(nat_lit 0x3123107e207)),
 ((i (c (c a b) e) (c a (c b e))),[],(nat_lit 49)),
 ((d a b),[(d a b)],(nat_lit 393)),
 ((d (c (c k (j a e)) b) l),[(d (c a b) (c e h)),(d (c k h) l),(d e a)],(nat_lit 0x620938804f)),
 ((i b (c a (j b a))),[(d a b)],(nat_lit 0x3107123e207)),
 ((i h (c k (j b e))),[(w (g a a) (o (i a a) (w (g b (c e (j h k))) (o (i b (c e (j h k))) (d h h))))),(w (g a a) (o (i a a) (w (g b b) (o (i b b) (d h (c k (j b e))))))),(d k h)],(nat_lit 0x6208000000006200000000207c41000001000c40000000240ff104000000003100000000103e208000008006200000001207ff1000000f880001f100000000103100100000803e200000008006200000001007f880000000081890000000401f100000004003100000000803ff88000007c40000ff1040000000c4000000103e200000200f88001007c40000f88007c40000001031008000000f8820000803e20000803e200007c4003ff8f)),
 ((d (c (j a e) b) h),[(d (c a b) (c e h)),(d e a)],(nat_lit 0x18827100f)),
 ((g a h),[(d (c (c a (c b (f 1))) e) h)],(nat_lit 393)),
 ((i b (f 0)),[(d (c a b) a)],(nat_lit 1608783)),
 ((g (c a h) e),[(d (c a b) e),(g h b)],(nat_lit 3145)),
 ((i a b),[(i a (c (c (f 0) (f 0)) b))],(nat_lit 102818375)),
 ((p (i b a)),[(g a b)],(nat_lit 3137)),
 ((p (o (g a a) (g b b))),[],(nat_lit 49)),
 ((d a e),[(d (c a b) e)],(nat_lit 393)),
 ((d (c a (f 0)) b),[(g a b)],(nat_lit 393)),
 (C,[(g a b),(i a (c (c b e) h))],(nat_lit 393)),
 ((g a k),[(d (c a b) e),(g e h),(i h k)],(nat_lit 201225)),
 ((g k (j (c l e) h)),[(g a b),(i b (j (c a e) h)),(d k l)],(nat_lit 0x3100e20807104807f))]
noncomputable abbrev zT4:List Ent:=[((g (j (j a k) l) e),[(d (c a b) e),(g h b)],(nat_lit 200713)),
 ((i (j (j (c a e) h) (f 1)) (c a (j (j e h) (f 1)))),[(g a b),(i b (j (c a e) h))],(nat_lit 0x188071201c40201c40208071000000f880400062000403ffc40201c40008071200000f88000007fff)),
 ((i (j (j (c k e) h) (f 1)) (c k (j (j e h) (f 1)))),[(g a b),(i b (j (c a e) h))],(nat_lit 0x188071201c40201c40208071000000f880400062000403ffc40201c40008071200000f88000007fff)),
 ((d k h),[(d (c (c a b) e) h),(d (c k l) a)],(nat_lit 3145)),
 ((g k e),[(g a b),(i b (j e h)),(d k a)],(nat_lit 0x6201c4900f)),
 ((g k (c l e)),[(g a b),(i b (j (c a e) h)),(d k l)],(nat_lit 0x6201c4900f)),
 ((i (j (c a e) (f 1)) (c a (j (j e (f 0)) (f 1)))),[(g a b),(i b (j (c a e) (f 0)))],(nat_lit 0x188071040388048071000007c4020018800807ff88201c4004038900003e200000fff)),
 ((i (j (c h e) (f 1)) (c h (j (j e (f 0)) (f 1)))),[(g a b),(i b (j (c a e) (f 0)))],(nat_lit 0x188071040388048071000007c4020018800807ff88201c4004038900003e200000fff)),
 ((o (g a h) (g A r)),[(d (c a b) e),(g e h),(i h (j (c e k) l)),(i r (j (c u k) l)),(d A u)],(nat_lit 0x31008c480462410402310000013ff)),
 ((d (c a (j e h)) b),[(g a b),(i b (j (c a e) h))],(nat_lit 0xc4038900e20103f)),
 ((d (c l (j e h)) k),[(g a b),(i b (j (c a e) h)),(i k (j (c l e) h))],(nat_lit 0x6201c4807100100e2010001ff)),
 ((g (f 0) (j e h)),[(g a b),(i b (j (c a e) h))],(nat_lit 0xc4038900e20807f)),
 ((g h e),[(d (c a b) e),(g h (j a k))],(nat_lit 822284815)),
 ((i (j (c a (j e h)) (f 1)) (c a (j (j e h) (f 1)))),[(g a b),(i b (j (c a e) h))],(nat_lit 0x188071201c40201c40208071000000f880400062000403ffc40201c40008071200000f88000007fff)),
 (C,[(d (c a (j b e)) h),(g h k),(i k (j (c a b) e))],(nat_lit 0x188040c4024fc4020620123f)),
 ((d (c (c a (j e h)) (f 0)) b),[(g a b),(i b (j (c a e) h))],(nat_lit 0xc4038900e20103f)),
 ((d (c (c l (j e h)) (f 0)) k),[(g a b),(i b (j (c a e) h)),(i k (j (c l e) h))],(nat_lit 0x6201c4807100100e2010001ff)),
 (C,[(g (c (c a (j b e)) h) k),(i k (j (c a b) e))],(nat_lit 0x1880462013f1009c4023f)),
 ((d (j a e) b),[(g a b)],(nat_lit 3137)),
 ((i (c A (j e b)) (c (j k b) l)),[(d (c a b) e),(d (c h b) k),(g e l),(i l (j (c e r) u)),(i A (j (c k r) u))],(nat_lit 0xc40206240206208208008c482002003f1041040006201001001ff1001040046241001000f88008200031008008007fff)),
 ((i (j h (j e b)) (c (c b (j k l)) (f 0))),[(d (c a b) e),(g e h),(i h (j (c e k) l))],(nat_lit 0xc40231000231008046200040388048007ff1000231008046200040188008007fff)),
 ((g e h),[(i a (j (c b (c e (f 1))) h)),(p (g b a))],(nat_lit 0x6200389047)),
 ((i (j (j (c a (c b e)) e) b) a),[],(nat_lit 0x3107103e20e207f891881f103f)),
 ((g a (j e h)),[(d (c a b) e),(g h b)],(nat_lit 824643663))]
noncomputable abbrev zT5:List Ent:=[((i (j (j a b) e) (j (j a e) b)),[],(nat_lit 0xc40031000c4803fc40031001c4803ff880462001f1008c4803fc40231000f8800e2401fff88006200189007f88006201189007ff1008c4103e201188207f880462401f1000fff)),
 ((d a (j (j e h) (f 1))),[(d (c a b) e),(g h b)],(nat_lit 0x31271209c4027f)),
 ((g (j (j e h) (f 1)) e),[(d (c a b) e),(g h b)],(nat_lit 0x31271009c4003f)),
 ((i (c a h) (c b e)),[(i a b),(i e h)],(nat_lit 0x6240388247)),
 ((i (j a b) (f 0)),[(i a b)],(nat_lit 0x6200c4038823f)),
 ((o (g a k) (g e l)),[(g a b),(g e h),(i k b),(i l h)],(nat_lit 0x620804620020f)),
 ((p (o (g k a) (g l e))),[(i a b),(i e h),(p (o (g k b) (g l h)))],(nat_lit 0xc41200c48047)),
 ((g (c (c (c k a) b) e) l),[(g (c (c a b) e) h),(d (c k h) l)],(nat_lit 3145)),
 ((i (c (c (c a b) e) h) (c a (c (c b e) h))),[],(nat_lit 49)),
 ((g (c (c k a) b) l),[(g (c (c a b) e) h),(d (c k h) l)],(nat_lit 3145)),
 ((g (c (c k a) b) r),[(g (c (c a b) e) h),(d (c (c k h) l) r)],(nat_lit 3145)),
 ((i (c (c a b) e) (c a (c (c b e) (f 0)))),[],(nat_lit 49)),
 ((o (g r e) (g u k)),[(d (c a b) e),(d (c h b) k),(g l b),(i r (c a l)),(i u (c h l))],(nat_lit 0x18900123100820f)),
 ((d a b),[(i a b)],(nat_lit 3144)),
 ((d (c (c a h) (j b h)) e),[(d (c a b) e),(g h b)],(nat_lit 824381455)),
 ((g (f 0) (j b a)),[(g a b)],(nat_lit 12902927)),
 ((g (c e a) b),[(g a (j b e))],(nat_lit 12870215)),
 ((i (j (c e b) h) (j (c (c e a) (j b a)) h)),[(g a b)],(nat_lit 0x188388006201189007ff1071008c4803e2001ff)),
 (C,[(d (c a b) e),(i a (j (c h k) l)),(i b (c (c r l) u)),(g e (c h (c (c k r) u)))],(nat_lit 0x620804e20820f)),
 ((d (c a e) h),[(d (c (c a b) (j e b)) h)],(nat_lit 103080519)),
 ((d (c a (f 0)) b),[(i a b)],(nat_lit 3144)),
 (C,[(g (c a b) (j (c e (c (c h k) l)) r)),(i a (j (c e h) u)),(i b (c (c k u) l))],(nat_lit 0x188c4024620823f)),
 ((i (c (c e a) (j b a)) (c e b)),[(g a b)],(nat_lit 12902919)),
 ((p (o (g (c k a) (j (c l (c (c r b) h)) u)) (g A H))),[(i a (c (c b e) h)),(i k (j (c l r) e))],(nat_lit 0x1880001880083f100003100807f))]
noncomputable abbrev zT6:List Ent:=[((d e (c (c h b) k)),[(g a b),(i e (c h a))],(nat_lit 25153)),
 ((i (j (c (c e b) h) (c e a)) (c (c (f 0) (j b a)) h)),[(g a b)],(nat_lit 0x3138838803f)),
 ((g (j (j (j e (f 1)) a) b) h),[(d (c a b) e),(p (g (c (c a b) h) e)),(p (i (c a b) e))],(nat_lit 0xc40048c40048c40048c40008ffe20f)),
 ((i (j (c h e) (f 1)) (c (c (c h a) b) (j (j (j e (f 1)) a) b))),[(d (c a b) e),(p (i (c a b) e))],(nat_lit 0x3100123100003e200246200007f880091880001f100123100003ff880091880001f100123100003fc40048c40000f880081880011fff880011880401f100023100803fc40008c40200f880011880401ffc40008c41000f880011882001fe200046240007c40000fffc4f)),
 ((g (c (c a l) r) k),[(d (c (c (c a b) e) h) k),(i (c b e) l),(g r h)],(nat_lit 201225)),
 ((d (c h A) e),[(d (c a b) e),(i a (j (c h k) l)),(i b (c (c r l) u)),(p (g (c (c k r) u) A))],(nat_lit 0x18904027120820f)),
 ((g (c (c r l) A) e),[(g (c a b) e),(i (c h k) l),(i a (j (c r h) u)),(i b (c (c k u) A))],(nat_lit 0x620804138820804f)),
 ((d a (c (c b k) h)),[(i a (c b (c e h))),(i e k)],(nat_lit 201224)),
 ((i (j (c (c u e) l) (c r h)) (f 0)),[(i (c a b) e),(i h (c (c b k) l)),(i r (j (c u a) k))],(nat_lit 0x62000001890000062002083fe2000001882010462010083ff)),
 ((d (s 2 (c k (c a (f 1)))) (c b (f 1))),[(d (s 2 a) (j b (c e h))),(d (s 2 k) e),(d (c e h) b),(g l h)],(nat_lit 0x189248c48247)),
 ((i a (c e (j h b))),[(i (c a b) (c e h)),(d b h)],(nat_lit 0x18820e2411f1001c4023f)),
 ((i (c (c a (j b a)) e) (c b e)),[(d a b)],(nat_lit 0x3123107e207)),
 ((i (c (c e (j h b)) k) (c a k)),[(i (c a b) (c e h)),(d b h)],(nat_lit 0x1890462083f1008c4007f)),
 ((i (j (c a b) a) b),[],(nat_lit 0x189c47c47)),
 ((i (c (c l h) k) (c (j a (j e l)) (c b (j (c (c e h) k) (c a b))))),[(d (c a b) (c (c e h) k)),(d (j e l) a),(d (c r l) e)],(nat_lit 0x188000271241007c4000118820803fc4000138900803e200008c400401ffc4000138920003e200008c410001fe200001c480001f1000007ff100020e248008f88001031040047f88040071200047c4020018800023ff88001071240007c4000818820003fc4000038900003e200000fff)),
 (C,[(g a b),(i b a)],(nat_lit 3137)),
 ((i (c a (j b a)) b),[(d a b)],(nat_lit 0x3123107e207)),
 ((g (f 0) a),[(p (i a (f 0)))],(nat_lit 203855)),
 ((i b a),[(i (c (f 0) a) b)],(nat_lit 103047695)),
 ((g (j a b) e),[(g a (c b e)),(d b a)],(nat_lit 0x18827100f)),
 ((i (c e (j b (f 1))) (j (c e b) (f 1))),[(g a b)],(nat_lit 0x6200c483f1046201ff100e240f8803f)),
 ((g (j (j b (f 1)) a) b),[(g a b)],(nat_lit 0x6201c4038803f)),
 ((d (c (f 0) a) b),[(d a b)],(nat_lit 393)),
 ((g a e),[(g a b),(d b e)],(nat_lit 3145))]
noncomputable abbrev zT7:List Ent:=[((g e b),[(g a (j b e))],(nat_lit 12870215)),
 ((d (c e a) (c e b)),[(d a b)],(nat_lit 393)),
 ((g b e),[(g (c a b) (c a e))],(nat_lit 393)),
 ((g a b),[(g a (j b e))],(nat_lit 12870215)),
 ((d (c (f 0) a) b),[(d a (B b e))],(nat_lit 103047759)),
 ((g a e),[(g a b),(d b (B e h))],(nat_lit 0x18907124f)),
 ((g b e),[(g (c a b) e)],(nat_lit 393)),
 ((g b (B (j e h) e)),[(g (c a b) (j e h))],(nat_lit 0x188c48c4023f)),
 ((i a (f 0)),[(d a (B b e)),(d a (B h k)),(p (o (g (f 0) b) (g (f 0) h)))],(nat_lit 0x188000c49007c4000624023fc4000624903e2000312011ffc4000624803e2000312013fe2000312481f1000189009fff)),
 ((g a (c (c e b) h)),[(g a b)],(nat_lit 393)),
 ((g b a),[(o (i (j a b) e) (i h e)),(g k e)],(nat_lit 0xc40046240047)),
 ((g h e),[(o (i a b) (i (j e h) b)),(g k b)],(nat_lit 0xc41006241007)),
 ((g (j b (f 1)) a),[(o (i a b) (i e b)),(g h b)],(nat_lit 0x620800e20000f)),
 ((g (j b (f 1)) e),[(o (i a b) (i e b)),(g h b)],(nat_lit 0x6208206200207)),
 ((i (j (j a k) b) (c (f 0) (j e k))),[(o (i (j a b) e) (i h e))],(nat_lit 0x188000006200001189000007f882000062000001f1040008c4800003ff88000006200001189000007f882000062000003f1040008c4000007fff1000000c40200231200000ff1040000c4000003e201001189000007ff1000000c41000231200000ff1040000c4800103e200001188000207fff)),
 ((i (j (j e k) h) (c (f 0) (j b k))),[(o (i a b) (i (j e h) b))],(nat_lit 0x188000006200040189000007f882000062000001f1040200c4800003ff88000006200040189000007f882000062000081f1040200c4000103fff1000000c40208031200000ff1040000c4000003e201040189000007ff1000000c41008031200000ff1040000c4804003e200040188008007fff)),
 ((d (s 2 (c (f 0) a)) (c b (f 3))),[(d (s 2 a) (c b (f 1)))],(nat_lit 393)),
 ((d (s 2 (c (f 1) a)) (c b (f 3))),[(d (s 2 a) (c b (f 1)))],(nat_lit 393)),
 ((i (j b a) (f 0)),[(p (g a b))],(nat_lit 0x3103123107f)),
 ((i (B (j a b) a) (j a b)),[],(nat_lit 0x18803100e240ff1006208f88031247ff100e240f8803e200c491f1006208fff)),
 ((Q (g (c (j b a) (c (c a e) h)) (c (c b e) k)) (g h k)),[(d a b)],(nat_lit 0x189071207c4918903f)),
 ((i (j (c (c b e) h) (c (j b a) (c (c a e) k))) (j h k)),[(d a b)],(nat_lit 0x31000c41071200ff1040c4823e200388047ff1000c41031200ff1040c4803e2001ff)),
 ((i (B a (B (j b e) b)) a),[(d a (j b e))],(nat_lit 0x188000c4004620003fc400062002310401ffc400062012310003fe200031001188201fffc400062012310001fe200031001188200ffe200031001189000ff1000188008c48007fff)),
 ((i (j (B (j a b) a) e) (j (j a b) e)),[],(nat_lit 0x188000c4000624003fc400062000712001ffc4020620003e20003e2010310001f1000388200fffc400062000312001fe200031000389000ffe2010310011f1000188008ff1008188008f88000c41047fffc400062000312001fe200031008189000ffe2010310401f1000388200ff1008189000f88000ffe200031000189000ff1000188040c48007ff1008188208f88000c41047f88040c48047c4000620023ffff))]
noncomputable abbrev zT8:List Ent:=[((i (j b (j b a)) a),[(d a b)],(nat_lit 0x6241c401f100e208ff1206200f8803f)),
 ((i (B a b) a),[(d a b)],(nat_lit 0x3103107123f)),
 ((d a b),[(d a (B b e))],(nat_lit 103047759)),
 ((p (t (n (c a (f 8))) (m 8))),[],(nat_lit 49)),
 ((d (c (c (c a b) e) h) (c (c (c a e) h) b)),[],(nat_lit 49)),
 ((d (c (c a (c b e)) h) (c (c (c a b) h) e)),[],(nat_lit 49)),
 ((d (c a (c b e)) (c (c a b) e)),[],(nat_lit 49)),
 ((i (c a (c b e)) (c (c a e) b)),[],(nat_lit 49)),
 ((g a (f 62)),[(d (s 2 a) (c b (f 3))),(d b (f 100))],(nat_lit 3209)),
 ((g (c (f 0) (f 2)) (f 1000)),[],(nat_lit 49)),
 ((g (c (f 1) (f 2)) (f 1000)),[],(nat_lit 49)),
 ((d e b),[(d a b),(p (g a e))],(nat_lit 3145)),
 ((d (c (c e a) b) (c e (f 2))),[(d a (f 1)),(d b (f 1))],(nat_lit 3145)),
 ((d a (c h (s 2 (c e (f 1))))),[(d a (c b (s 2 e))),(d b (c h (f 2)))],(nat_lit 3145)),
 ((d (c (f 0) l) k),[(i a (c (c b e) h)),(d a k),(d l (B r b))],(nat_lit 0x189241c4820f)),
 ((d (c (j b l) (c (c l e) r)) k),[(i a (c (c b e) h)),(d a k),(d l b),(d r h)],(nat_lit 0x620920e20820f)),
 ((d (c (f 0) (f 2)) (f 3)),[],(nat_lit 49)),
 ((d (c (f 1) (f 2)) (f 3)),[],(nat_lit 49)),
 ((d (c (f 0) (s 2 a)) (f 6)),[(d a (f 3))],(nat_lit 394)),
 ((d (c (c a (c b (f 1))) (f 1)) (f 4)),[(d a (f 1)),(d b (f 1))],(nat_lit 3145)),
 ((d (c e a) (s 4 (c b (f 1)))),[(d a (s 4 b)),(d e (f 4))],(nat_lit 3145)),
 ((d a (c b (c h e))),[(d a (c (c b e) h))],(nat_lit 393)),
 ((d a (c b (c e h))),[(d a (c b e))],(nat_lit 393)),
 ((d (B a b) b),[],(nat_lit 1612871))]
noncomputable abbrev zT9:List Ent:=[((d (c (c (f 2) a) (f 1)) (c e (f 3))),[(d a b),(d b e)],(nat_lit 3145)),
 ((d (c (f 2) (c (c a h) e)) (f 1000)),[(d (c (c a b) e) (f 64)),(i h (c b (f 1)))],(nat_lit 25153)),
 ((d l (f 1000)),[(d (c (c a b) e) (f 64)),(i h (c b (f 1))),(d k (c (c (s 3 a) h) (s 2 e))),(d l (c k (f 3)))],(nat_lit 1610307)),
 ((d (c (f 2) (c (c a h) e)) (f 1000)),[(d (c (c a b) e) (f 65)),(i h (c b (f 1)))],(nat_lit 25153)),
 ((d l (f 1000)),[(d (c (c a b) e) (f 65)),(i h (c b (f 1))),(d k (c (c (s 3 a) h) (s 2 e))),(d l (c k (f 3)))],(nat_lit 1610307)),
 ((Q (v (n a) (n b)) (i a b)),[],(nat_lit 0x313883f107123f)),
 ((i a (f 0)),[(p (P (n a) (m 0)))],(nat_lit 102785607)),
 ((d h a),[(i a (c b e)),(d h b)],(nat_lit 25153)),
 ((g k b),[(d (c a (f 2)) b),(i (c e h) a),(d k e)],(nat_lit 201281)),
 ((t (n a) (n e)),[(d (c a b) e),(g h b)],(nat_lit 3145)),
 ((g a e),[(g a b),(g b e)],(nat_lit 3145)),
 ((d (c a (f 1)) e),[(g a b),(g b e)],(nat_lit 3145)),
 ((g a e),[(g (c a b) e)],(nat_lit 393)),
 ((g (c (c a (f 1)) (f 2)) b),[(g (c a (f 5)) b)],(nat_lit 393)),
 ((d (c a (f 2)) b),[(d (c a (f 4)) b)],(nat_lit 393)),
 ((d (c (f 0) (c (c (s 2 (j a (f 0))) b) (f 0))) (c (s 2 a) b)),[],(nat_lit 392)),
 ((g (c (c a (f 3)) (f 1)) b),[(g (c a (f 6)) b)],(nat_lit 393)),
 ((g a (f 64)),[(g a (f 62))],(nat_lit 393)),
 ((d (c b (f 2)) a),[(g (f 64) a),(g b (f 62))],(nat_lit 3145)),
 ((g b (f 64)),[(g a (f 62)),(d b (c a (f 1)))],(nat_lit 3145)),
 ((g e a),[(g (f 64) a),(g b (f 62)),(d e b)],(nat_lit 25161)),
 ((g a h),[(i (c a b) (c e b)),(g e h)],(nat_lit 25160)),
 ((g a e),[(i (c a (c b (f 1))) e)],(nat_lit 3144)),
 ((i (c (c a e) b) h),[(i (c a (c b e)) h)],(nat_lit 102818375))]
noncomputable abbrev zT10:List Ent:=[((d k h),[(i (c a b) e),(g e h),(d k a)],(nat_lit 201288)),
 ((g k h),[(i (c a b) e),(g e h),(d k a)],(nat_lit 201288)),
 ((g (f 0) b),[(g a b)],(nat_lit 393)),
 ((g (c l b) e),[(g (c a b) e),(i (c h k) a),(d l h)],(nat_lit 201281)),
 (C,[(i (c (c a (f 1)) b) b)],(nat_lit 392)),
 ((g (c e (f 1)) a),[(g (f 201) a),(g b (f 200)),(d e b)],(nat_lit 25161)),
 ((g e a),[(g (f 201) a),(g b (f 200)),(d e b)],(nat_lit 25161)),
 ((d a e),[(g a b),(g b e)],(nat_lit 3145)),
 ((d e h),[(g a b),(i a e),(g b h)],(nat_lit 201225)),
 (C,[(x (m 200) (n a)),(g b (f 200)),(i b a)],(nat_lit 3145)),
 ((g (c a (f 1)) b),[(g (c a (f 4)) b)],(nat_lit 393)),
 ((g (c a (f 1)) b),[(g (c a (f 7)) b)],(nat_lit 393)),
 ((g (c (c (c a (f 1)) (f 1)) (f 4)) b),[(g (c a (f 7)) b)],(nat_lit 393)),
 ((g (c k l) b),[(d (c (s 2 a) (f 2)) b),(i (c e h) a),(d k (s 2 e)),(d l (f 1))],(nat_lit 1610369)),
 ((d (c (c a e) h) (s 2 (c b h))),[(d a (s 2 b)),(d e h)],(nat_lit 3145)),
 ((d (c a e) (s 2 (c b h))),[(d a (s 2 b)),(d e h)],(nat_lit 3145)),
 ((g k b),[(d (c (s 2 a) (f 2)) b),(i (c e h) a),(d k (s 2 e))],(nat_lit 201345)),
 ((d (c (s 2 b) (f 4)) a),[(g (f 3000) a),(g b (f 200))],(nat_lit 3153)),
 ((g b a),[(g (f 3000) a),(g b (f 200))],(nat_lit 3145)),
 ((d (c (s 2 b) (f 2)) a),[(g (f 3000) a),(g b (f 1000))],(nat_lit 3153)),
 ((d (c (f 2) a) b),[(d (c a (f 4)) b)],(nat_lit 393)),
 ((d (c (c (f 0) (f 2)) a) b),[(d (c a (f 4)) b)],(nat_lit 393)),
 ((d (c (c (c (f 0) (f 2)) a) (f 1)) b),[(d (c a (f 4)) b)],(nat_lit 393)),
 ((g (c (c a (f 1)) (f 1)) b),[(g (c a (f 3)) b)],(nat_lit 393))]
noncomputable abbrev zT11:List Ent:=[((g (c a (f 1)) b),[(g (c a (f 2)) b)],(nat_lit 393)),
 ((g (c a (f 3)) b),[(g (c a (f 6)) b)],(nat_lit 393)),
 ((d (c (c b (c e (f 1))) (f 1)) a),[(d (f 4) a),(d b (f 1)),(d e (f 1))],(nat_lit 25161)),
 ((w (v q (m 0)) (v q (m 1))),[(x (m 0) q),(t q (m 2))],(nat_lit 0xc41c4818823f)),
 ((w (v q (m 0)) (w (v q (m 1)) (w (v q (m 2)) (w (v q (m 3)) (v q (m 4)))))),[(x (m 0) q),(t q (m 5))],(nat_lit 0x188389031200c48006240006200047fff)),
 ((d (c a l) r),[(d (c (c (c (c (c a b) e) h) k) l) r)],(nat_lit 393)),
 ((d (c b l) r),[(d (c (c (c (c (c a b) e) h) k) l) r)],(nat_lit 393)),
 ((d (c b k) l),[(d (c (c (c (c a b) e) h) k) l)],(nat_lit 393)),
 ((d (c b h) k),[(d (c (c (c a b) e) h) k)],(nat_lit 393)),
 ((d (c b e) h),[(d (c (c a b) e) h)],(nat_lit 393)),
 ((v (y (F (m 1)) (n (c a (f 1)))) (n a)),[],(nat_lit 49)),
 ((d (c b (f 1)) a),[(d (f 2000) a),(d (c b e) (f 1000))],(nat_lit 3145)),
 ((d (c h (f 1)) a),[(d (f 2000) a),(d (c b e) (f 1000)),(d h (c b (f 1)))],(nat_lit 25161)),
 ((d (c k (f 1)) a),[(d (f 2000) a),(d (c b e) (f 1000)),(d h (c b (f 1))),(d k (c h (f 1)))],(nat_lit 201289)),
 ((d (c l (f 1)) a),[(d (f 2000) a),(d (c b e) (f 1000)),(d h (c b (f 1))),(d k (c h (f 1))),(d l (c k (f 1)))],(nat_lit 1610313)),
 ((d (c r (f 1)) e),[(d (c a b) (f 1000)),(d (f 2000) e),(d h (c a (f 1))),(d k (c h (f 1))),(d l (c k (f 1))),(d r (c l (f 1)))],(nat_lit 12882505)),
 ((g (c b (f 1)) a),[(d (f 2000) a),(d (c b e) (f 100))],(nat_lit 3145)),
 ((d (c (c a e) b) h),[(d (c a (c b e)) h)],(nat_lit 393)),
 ((d (c (f 2) (s 5 b)) (f 1000)),[(d (c a (c b e)) (f 100))],(nat_lit 397)),
 ((d (c a b) h),[(d (c a (c b e)) h)],(nat_lit 393)),
 ((d (c A (s 5 b)) h),[(d (c a (s 5 (c b e))) h),(d k (c a e)),(d l (c k e)),(d r (c l e)),(d u (c r e)),(d A (c u e))],(nat_lit 12882505)),
 ((i b a),[(w (o (x (m 0) (y (m 0) (M 1 (n a)))) (v (n b) (y (m 0) (M 1 (n a))))) (o (t (y (m 0) (M 1 (n a))) (m 0)) (i b (f 0))))],(nat_lit 0x31c4118903f)),
 ((p (t (n a) (m 0))),[],(nat_lit 49)),
 ((v (D (m 0) (G (n b) (n a))) (n a)),[(d a b)],(nat_lit 0x6201c411f120e200ff1006240c401ff))]
noncomputable abbrev zT12:List Ent:=[((d (c (f 0) a) (f 100)),[(d a (f 63))],(nat_lit 393)),
 ((d (c (f 2) (s 5 a)) (f 1000)),[(d a (f 63))],(nat_lit 397)),
 ((g a e),[(t (n a) (n b)),(i b e)],(nat_lit 25153)),
 ((g (j b (c a (f 1))) e),[(g a b),(i e (j b a))],(nat_lit 0x189c4020e20103f)),
 ((i (c (c a k) h) e),[(i (c a b) e),(i b (c h k))],(nat_lit 0x6240388247)),
 ((d b e),[(i a b),(p (t (n e) (n a)))],(nat_lit 25153)),
 ((x (m 0) q),[(w (v q (m 0)) (v q (m 1)))],(nat_lit 3137)),
 ((x (m 0) (E (m 1) q)),[(w (v q (m 0)) (v q (m 1)))],(nat_lit 3144)),
 ((g (f 1) a),[(g (f 2) a)],(nat_lit 393)),
 ((g (j b (f 1)) e),[(g a b),(d b e)],(nat_lit 0x188271047)),
 ((v (E (n b) (m 1)) (n (j b (f 1)))),[(g a b)],(nat_lit 0x3107123e207)),
 ((v (n (j b (f 1))) (E (n b) (m 1))),[(g a b)],(nat_lit 0x3123107e207)),
 ((t (m 0) q),[(p (t q (m 1)))],(nat_lit 393)),
 ((x (M 1 q) z),[(x q z)],(nat_lit 393)),
 ((p (t q (n (f 1)))),[(x (m 1) q)],(nat_lit 393)),
 ((v (E (n b) (n a)) (n (j b a))),[(d a b)],(nat_lit 0x3107123e207)),
 ((t (E (n b) (n a)) (m 1)),[(p (d a b))],(nat_lit 393)),
 ((i (j b a) (f 0)),[(p (d a b))],(nat_lit 12848207)),
 ((x q (n a)),[(i a (f 16777216)),(x q (m 1000))],(nat_lit 25153)),
 ((t q (m 1)),[(p (x (m 0) q))],(nat_lit 393)),
 ((x q (y (m 3) z)),[(x q z)],(nat_lit 393)),
 ((x (m 0) (y (m 3) (E (m 1) q))),[(w (v q (m 0)) (v q (m 1)))],(nat_lit 3144)),
 ((x (F (m 1000)) (E (n b) (n a))),[(d a b)],(nat_lit 393)),
 ((x (E (n a) (n b)) (m 1000)),[(d a (f 200))],(nat_lit 393))]
noncomputable abbrev zT13:List Ent:=[((d (j a e) b),[(d a b)],(nat_lit 102785551)),
 ((d (B e a) b),[(d a b)],(nat_lit 103080463)),
 ((d (c a b) (f 400)),[(d a (f 200)),(d b (f 200))],(nat_lit 3145)),
 ((d b a),[(d (f 2000) a),(d b (f 200))],(nat_lit 3145)),
 ((d (c e (j b h)) a),[(d (f 2000) a),(d b (f 200)),(d e (f 400))],(nat_lit 0x620838824f)),
 ((g a b),[(t (n a) (n b))],(nat_lit 393)),
 ((d (c b e) a),[(d (f 2000) a),(d b (f 200)),(d e (f 200))],(nat_lit 25161)),
 ((p (g a b)),[(p (t (n a) (n b)))],(nat_lit 393)),
 ((d (c (c b l) (f 1)) a),[(d (f 1001) a),(d (c b e) (f 1000)),(i e (c h k)),(i l h)],(nat_lit 12877897)),
 ((d (c b (c a (f 1))) (f 1000)),[(d a (f 200)),(d b (f 600))],(nat_lit 3145)),
 ((d (c b (f 1)) a),[(d (f 1000) a),(d b (f 200))],(nat_lit 3145)),
 ((x (m 0) (y (m 3) q)),[(w (v q (m 0)) (v q (m 1)))],(nat_lit 3137)),
 ((d (c b (B e a)) (f 1100)),[(d a (f 200)),(d b (f 900))],(nat_lit 0x18927104f)),
 ((d b a),[(d (f 2000) a),(d b (f 1100))],(nat_lit 3145)),
 ((d (c b e) a),[(d (f 2000) a),(d b (f 1100)),(d e (f 200))],(nat_lit 25161)),
 ((d b h),[(i a b),(d a e),(d e h)],(nat_lit 201281)),
 ((d b k),[(i a (c b e)),(i h a),(d h k)],(nat_lit 1609793)),
 ((d (c (f 2) b) a),[(d (f 3000) a),(d b (f 2000))],(nat_lit 3145)),
 ((d (c (c (f 2) b) (f 1)) a),[(d (f 3000) a),(d b (f 2000))],(nat_lit 3145)),
 ((d (c (c (B e a) (j a e)) (j b a)) (f 600)),[(d a (f 200)),(d b (f 200))],(nat_lit 0x188041c40247c4000e20023fc4000e20023e2000b10013ff)),
 ((d (c b (c a (f 1))) (f 900)),[(d a (f 200)),(d b (f 600))],(nat_lit 3145)),
 ((d (c (c b (B e a)) (j a e)) (f 2000)),[(d a (f 200)),(d b (f 900))],(nat_lit 0x18824e2013f1009c402bf)),
 ((d (c h k) e),[(d (c a b) e),(i h a),(i k b)],(nat_lit 1609793)),
 ((g h e),[(g a b),(g b e),(d h a)],(nat_lit 25161))]
noncomputable abbrev zT14:List Ent:=[((d a k),[(d (c (c a b) e) h),(d h k)],(nat_lit 3145)),
 ((d (c a e) k),[(d (c (c a b) e) h),(d h k)],(nat_lit 3145)),
 ((J (c e b) a),[(g a b)],(nat_lit 3137)),
 ((d (c (c a e) b) k),[(d (c (c a b) e) h),(d h k)],(nat_lit 3145)),
 ((d (c (c (c a e) h) (f 1)) (f 1000)),[(d (c (c (c (c a b) e) h) k) (f 900))],(nat_lit 393)),
 ((d (c (c (c b e) k) (f 1)) (f 1000)),[(d (c (c (c (c a b) e) h) k) (f 900))],(nat_lit 393)),
 ((g e b),[(g a b),(i a (c e h))],(nat_lit 25097)),
 ((d (c a e) (c h b)),[(d a b),(d e h)],(nat_lit 3145)),
 ((x (F (m 1000)) (E (n b) (n a))),[(d a (f 500))],(nat_lit 393)),
 ((x (E (n a) (n b)) (m 1000)),[(d a (f 500))],(nat_lit 393)),
 ((d (c b (f 4)) a),[(d (f 1004) a),(d b (f 1000))],(nat_lit 3145)),
 ((d e a),[(d (f 1004) a),(d b (f 1000)),(d e b)],(nat_lit 25161)),
 ((d (c b (R e 0)) (f 16777216)),[(d a (f 1000)),(d b a)],(nat_lit 3145)),
 ((d (c h (f 4)) a),[(d (f 1004) a),(d b (f 1000)),(d e b),(d h e)],(nat_lit 201289)),
 ((g (c a (f 2)) b),[(g (c a (f 10)) b)],(nat_lit 393)),
 ((g (c a (f 6)) b),[(g (c a (f 10)) b)],(nat_lit 393)),
 ((i (j e (c a b)) (c (j e (c a (c b (f 1)))) (f 1))),[(g (c a b) e)],(nat_lit 0x627100e240f8803f)),
 ((g (j e (c b (f 1))) (j e b)),[(g (c a b) e)],(nat_lit 0x620e201f8838803f)),
 ((d a l),[(d (c (c (c (c a b) e) h) k) l)],(nat_lit 393)),
 ((d b l),[(d (c (c (c (c a b) e) h) k) l)],(nat_lit 393)),
 ((d b k),[(d (c (c (c a b) e) h) k)],(nat_lit 393)),
 ((d b h),[(d (c (c a b) e) h)],(nat_lit 393)),
 ((d b e),[(d (c a b) e)],(nat_lit 393)),
 ((d (c (c (c a b) e) h) (c (c (c (c (c a k) b) h) l) e)),[],(nat_lit 49))]
noncomputable abbrev zT15:List Ent:=[((d (c (c (c a b) e) h) (c (c (c (c (c k a) b) l) h) e)),[],(nat_lit 49)),
 ((d (c (f 2) e) a),[(d (f 1000) a),(d b (f 190)),(d e (c b (f 1)))],(nat_lit 25161)),
 ((g (c a (f 1)) b),[(g (c a (f 10)) b)],(nat_lit 393)),
 ((d a (f 200)),[(d a (f 190))],(nat_lit 393)),
 ((d (c a e) b),[(d (c a (f 10)) b),(d e (f 4))],(nat_lit 3145)),
 ((d (c (c (c (c a h) b) e) k) (f 129)),[(d (c (c a b) e) (f 64)),(d (c (c h b) k) (f 65))],(nat_lit 3145)),
 ((d e (f 65)),[(d (c a b) (f 64)),(i e (c (c a (f 1)) b))],(nat_lit 25153)),
 ((d e (f 66)),[(d (c a b) (f 65)),(i e (c (c a (f 1)) b))],(nat_lit 25153)),
 ((d h (f 66)),[(d (c (c a b) e) (f 64)),(i h (c b (f 1)))],(nat_lit 25153)),
 ((J a (f 0)),[(i a (c (c b (f 1)) e))],(nat_lit 25089)),
 ((d a (f 900)),[(d a (f 129))],(nat_lit 393)),
 ((g (c a (f 4)) b),[(g (c a (f 10)) b)],(nat_lit 393)),
 ((g a (f 200)),[(d a (f 65))],(nat_lit 393)),
 ((g a (f 200)),[(d a (f 66))],(nat_lit 393)),
 ((d a (f 100)),[(d a (f 66))],(nat_lit 393)),
 ((d a (f 500)),[(d a (f 65))],(nat_lit 393)),
 ((d a (f 500)),[(d a (f 66))],(nat_lit 393)),
 ((d a (f 1000)),[(d a (f 65))],(nat_lit 393)),
 ((d a (f 1000)),[(d a (f 66))],(nat_lit 393)),
 ((d (c a b) (f 1000000)),[(d a (f 100000)),(d b (f 4))],(nat_lit 3145)),
 ((d a (f 190)),[(d a (f 129))],(nat_lit 393)),
 ((d (c a (f 10)) (f 1000000)),[(d a (f 100000))],(nat_lit 393)),
 ((g e b),[(g a b),(d e a)],(nat_lit 3145)),
 ((d b h),[(i a (c b e)),(d a h)],(nat_lit 25153))]
noncomputable abbrev zT16:List Ent:=[((d a (f 100000)),[(d a (s 4 b)),(d b (f 64))],(nat_lit 3169)),
 ((d a (f 1000)),[(d a (f 64))],(nat_lit 393)),
 ((d a (f 64)),[(d a (c (f 1) b)),(d b (f 63))],(nat_lit 3145)),
 ((d a (f 65)),[(d a (c (f 2) b)),(d b (f 63))],(nat_lit 3145)),
 ((d (c (c (f 0) (f 1)) a) (f 64)),[(d a (f 63))],(nat_lit 393)),
 ((v (y (E (n b) (n a)) (m 1)) (n (j (c b (f 1)) a))),[(d a (c b (f 1)))],(nat_lit 0x3107123e207)),
 ((i e (j a b)),[(w (o (x (m 0) (E (n a) (n b))) (v (n e) (E (n a) (n b)))) (o (t (E (n a) (n b)) (m 0)) (i e (f 0))))],(nat_lit 0x1880062081f100fc40031240f880462081ff)),
 ((i h k),[(i (c a (c b (f 1))) e),(d e a)],(nat_lit 3144)),
 ((g a h),[(i (c a (c b (f 1))) e),(i e h)],(nat_lit 201224)),
 (C,[(v (n a) (E (n b) (m 1))),(d b a)],(nat_lit 3144)),
 ((i b (c (j b (f 1)) (f 1))),[(d a b),(p (i b a))],(nat_lit 0x6271046240f8803f)),
 ((v (E (n (c a (f 1))) (m 1)) (n a)),[],(nat_lit 49)),
 ((d a b),[(d a (c b (f 1))),(p (i (c b (f 1)) a))],(nat_lit 12902983)),
 ((w C (i e h)),[(g a b),(d b a)],(nat_lit 393)),
 ((d (c a e) (c (c h e) b)),[(d a b)],(nat_lit 393)),
 ((d a b),[(d (c (s 2 a) (f 2)) b)],(nat_lit 393)),
 ((g (f 0) (c (c a (f 1)) b)),[],(nat_lit 49)),
 ((d (c a h) e),[(d (c a b) e),(i b (c h k))],(nat_lit 25097)),
 ((d a (c (c b a) e)),[],(nat_lit 49)),
 ((g (c (c e u) (f 1)) b),[(d (c a (f 2)) b),(d (c e h) (c a (f 1))),(i h (c k l)),(g r l),(d u k)],(nat_lit 12881993)),
 ((g h l),[(g (c a b) e),(i h (c (c k a) b)),(i l (c k e))],(nat_lit 1606209)),
 ((d (c (c h (f 1)) u) l),[(g (c a b) e),(d (c h k) l),(i k (c r e)),(i u (c (c r a) b))],(nat_lit 12877897)),
 ((g a h),[(g (c (c a b) e) h)],(nat_lit 393)),
 ((g b h),[(g (c (c a b) e) h)],(nat_lit 393))]
noncomputable abbrev zT17:List Ent:=[((d (c a b) (c (c e a) b)),[],(nat_lit 49)),
 ((v (D (m 0) q) (n a)),[(w (o (x (m 0) (D (m 0) q)) (v (n a) (D (m 0) q))) (o (t (D (m 0) q) (m 0)) (i a (f 0))))],(nat_lit 0x189c47c41000c40200f892001880001fe20800e200207c41000c40000ffe20800620000fc41001c40000ff124003100007e208006200007fff)),
 ((g (c a b) e),[(d (c a (c b (f 1))) e)],(nat_lit 393)),
 ((i e (f 0)),[(g (f 0) a),(i (j b e) a),(d b a)],(nat_lit 0xc41c4000624103f)),
 ((d (c a (j b a)) e),[(d a b),(d b e)],(nat_lit 0x188271047)),
 ((i e a),[(w (o (x (m 0) (D (m 0) (G (n a) (n b)))) (v (n e) (D (m 0) (G (n a) (n b))))) (o (t (D (m 0) (G (n a) (n b))) (m 0)) (i e (f 0)))),(d a b)],(nat_lit 0xc40c40200031040000f880080062080001fe201000388201007c40040071040000ffe200001188200007c40000231040000ff1000008c4100803e200001188200007ffe201000188200007c40040031040000ff1208000c4100007e240200188200007ff1000208c4100003e200041188200007f890000462080003f1200008c4100003ffff)),
 ((d b e),[(w (o (x (m 0) (D q (G (n a) (n b)))) (v (n e) (D q (G (n a) (n b))))) (o (t (D q (G (n a) (n b))) (m 0)) (i e (f 0)))),(p (d a b))],(nat_lit 0x6206247c40c48ff100000e200200c40200031009000ff1001006201000188040047fff)),
 ((d b a),[(p (d a b))],(nat_lit 393)),
 ((i e b),[(w (o (x (m 0) (D (m 0) (G (n a) (n b)))) (v (n e) (D (m 0) (G (n a) (n b))))) (o (t (D (m 0) (G (n a) (n b))) (m 0)) (i e (f 0)))),(p (d a b))],(nat_lit 0x3103100000e200200c40200031040000f880080062080001ffc400401880000462080001f1000008c4100003ffff)),
 ((t (F (m 1)) (m 0)),[],(nat_lit 49)),
 ((i b (j a (f 1))),[(w (o (x (m 0) (D (m 0) (G (y (F (m 1)) (n a)) (n a)))) (v (n b) (D (m 0) (G (y (F (m 1)) (n a)) (n a))))) (o (t (D (m 0) (G (y (F (m 1)) (n a)) (n a))) (m 0)) (i b (f 0))))],(nat_lit 0x1891881f1f880000062480001f1008000c4100003fc40000031040000f880080062080011ffc401f1000000c4100023e200001188200007f880000062080001f1000008c4900003ff8803fc7f)),
 ((d (c (f 0) a) a),[],(nat_lit 49)),
 ((i a (f 0)),[(t (n a) (m 1))],(nat_lit 1608783)),
 ((p (v (n a) (m 1))),[(p (i a (f 1)))],(nat_lit 12902927)),
 ((i (j (c a b) (c e b)) (j a e)),[],(nat_lit 0x620620e247f883891f103f)),
 ((d (j a b) a),[],(nat_lit 392)),
 ((i a e),[(i (c a b) e),(d e a)],(nat_lit 0x189031047)),
 ((g (j b (f 1)) b),[(i (c a b) e),(g a e)],(nat_lit 0x6208388007)),
 ((i (c (c a (f 1)) (j b (f 1))) e),[(i (c a b) e),(g a e)],(nat_lit 0x18900e2081f1001c4023f)),
 ((d a b),[(g (j a (f 1)) b)],(nat_lit 103080519)),
 ((v (n (c a (f 1))) (y (n a) (m 1))),[],(nat_lit 49)),
 ((i a (f 0)),[(d a (f 0))],(nat_lit 1608783)),
 ((i b (f 0)),[(i a (c b e)),(p (g e a))],(nat_lit 0x18803120f)),
 ((g b a),[(i a (c b (f 1)))],(nat_lit 3137))]
noncomputable abbrev zT18:List Ent:=[((p (i a (f 0))),[(i a (c b (f 1)))],(nat_lit 25089)),
 ((o (o (x (m 0) (y (F (m 1)) (y (n a) (m 1)))) (t (y (F (m 1)) (y (n a) (m 1))) (y (n a) (m 1)))) (i b a)),[(w (o (x (m 0) (y (F (m 1)) (y (n a) (m 1)))) (v (n b) (y (F (m 1)) (y (n a) (m 1))))) (o (t (y (F (m 1)) (y (n a) (m 1))) (m 0)) (i b (f 0))))],(nat_lit 0xc71046240f8803f)),
 ((d b (c h e)),[(i a (c b e)),(d a h)],(nat_lit 25153)),
 ((d (c h k) e),[(d (c a b) (f 1000000)),(i e (f 16777216)),(i h a),(i k b)],(nat_lit 103026697)),
 ((g (c h (j a e)) (c h (j b e))),[(g a b),(p (g a e))],(nat_lit 0x6209c4027e209c4007f)),
 ((p (g (c a b) a)),[],(nat_lit 49)),
 ((i (c b (j (c e (j a b)) e)) a),[(p (g a b))],(nat_lit 0x6208c403f1046201ff1206201f8803f)),
 ((g (c h (j a b)) e),[(g a (c b (j e h))),(d b a)],(nat_lit 0x31231048c4023f)),
 ((g (c h (j a b)) e),[(g a (c b (j e h))),(p (g a b))],(nat_lit 0x31231048c4023f)),
 ((i b h),[(i (c a (j b e)) (c a (j h e))),(p (g b e)),(p (g h e))],(nat_lit 0x1882011890003f104103100027fc40009c48200f880081880401ff)),
 ((p (t z q)),[(x q z)],(nat_lit 393)),
 ((t q (n a)),[(w (o (x (m 0) q) (v (n b) q)) (o (t q (m 0)) (i b (f 0)))),(g b a)],(nat_lit 0x6240389047)),
 ((x (F z) q),[(x (m 0) (y q z))],(nat_lit 393)),
 ((t q (n a)),[(t (y q (n a)) (n a))],(nat_lit 393)),
 ((x (F (n a)) q),[(p (t q (m 0)))],(nat_lit 393)),
 ((o (p (t q L)) (p (x z q))),[(t q z),(x L q)],(nat_lit 102818375)),
 ((i a (c b (c e (c k h)))),[(i a (c b (c (c e h) k)))],(nat_lit 102818375)),
 ((g (j a b) e),[(g a (c b e)),(d b a)],(nat_lit 0x18827100f)),
 ((i (c b (j a b)) a),[(d b a)],(nat_lit 0x3123107e207)),
 (C,[(i a (c (c a (f 1)) b))],(nat_lit 49)),
 ((d a (c (c b e) e)),[(d a b)],(nat_lit 393)),
 ((d h e),[(d (c a b) e),(i h a)],(nat_lit 25153)),
 ((d (c h k) (c e k)),[(d (c a b) e),(i h a)],(nat_lit 25153)),
 ((i a k),[(i (c (c a b) e) h),(i (c (c k b) e) h)],(nat_lit 0x6240388247))]
noncomputable abbrev zT19:List Ent:=[((i a b),[(g (j a b) (f 1)),(d b a)],(nat_lit 0x18903100fc4038823f)),
 ((i a (c b (j a b))),[(d b a)],(nat_lit 0x3107123e207)),
 ((i (c (c a (c b e)) (f 0)) (c (c a e) b)),[],(nat_lit 49)),
 ((d b a),[(i a (c b e))],(nat_lit 3137)),
 ((p (g b a)),[(d a b)],(nat_lit 393)),
 ((i (j (j (c (f 0) a) b) e) (j (j a b) e)),[],(nat_lit 0x62001880062401fe20018800e2401ffc40231000f88007c40231000f8800e2081fff88006200189007f88006201189007ff1008c4103e200388207f880462401f1000fff)),
 ((i a b),[(g a (c b (f 1))),(p (g a b))],(nat_lit 103047695)),
 ((g (j a e) b),[(g a b)],(nat_lit 3137)),
 ((J (j a (f 1)) a),[(d (f 1) a)],(nat_lit 102818311)),
 ((t q z),[(P q z),(p (t z q))],(nat_lit 12852303)),
 ((g a (j b (f 1))),[(g a b),(p (i a (j b (f 1))))],(nat_lit 0x1881893f12062081f107f)),
 ((g (j a (f 1)) a),[(d (f 1) a)],(nat_lit 102818311)),
 ((t q L),[(t q z),(p (t L z))],(nat_lit 3145)),
 ((g (j a h) e),[(g a b),(d b e)],(nat_lit 25097)),
 ((J b (j b (f 1))),[(d (f 1) a),(d a b)],(nat_lit 0x6201388007)),
 ((i (I a b) b),[(d a b)],(nat_lit 0x3103123107f)),
 ((g (j (j e (f 1)) b) (j (j e (f 1)) a)),[(g a b),(g b e)],(nat_lit 0xc49c402710013880013fe201388009c40001fff)),
 ((g (j (j b (f 1)) e) b),[(g a b)],(nat_lit 0x6201c4038803f)),
 ((J (j b (f 1)) b),[(d (f 1) a),(d a b)],(nat_lit 0x188271007)),
 ((p (g a a)),[],(nat_lit 49)),
 ((t q L),[(t q z),(t z L)],(nat_lit 3145)),
 ((t q z),[(g a (f 1)),(g b a)],(nat_lit 393)),
 ((g (f 0) b),[(d (f 1) a),(d a b)],(nat_lit 3145)),
 ((g (j a (f 1)) e),[(g (f 1) a),(d a b),(d b e)],(nat_lit 0xc40388247))]
noncomputable abbrev zT20:List Ent:=[((J (f 0) (j a b)),[(g b a)],(nat_lit 12902927)),
 ((g (f 0) (j a b)),[(g b a)],(nat_lit 12902927)),
 ((g (j a (f 1)) a),[(g (f 1) a)],(nat_lit 12902919)),
 ((i b a),[(d a b),(p (g a b))],(nat_lit 102818375)),
 ((d a (c a a)),[],(nat_lit 49)),
 ((d (c (f 1) (f 1)) a),[(d (f 1) a),(p (i (f 1) a))],(nat_lit 12880975)),
 ((i b (f 0)),[(g a (c (f 1) (f 1))),(g b a)],(nat_lit 102785615)),
 ((i a (f 1)),[(g a (c (f 1) (f 1))),(g b a)],(nat_lit 103047695)),
 ((g a b),[(d a b),(p (i a b))],(nat_lit 12880975)),
 ((d a b),[(d (c a a) b)],(nat_lit 401)),
 ((g k b),[(d (s 2 k) (c h e)),(g (c h e) (c (s 2 k) (f 2))),(g a b),(d e a),(p (d e h))],(nat_lit 1643649)),
 ((J b h),[(d (s 2 h) (c e a)),(g (c e a) (c (s 2 h) (f 2))),(d a b),(p (d a e))],(nat_lit 1639041)),
 ((d a e),[(d (s 2 e) (c a b)),(g (c a b) (c (s 2 e) (f 2))),(p (d b a))],(nat_lit 25672)),
 ((d h b),[(d (s 2 h) (c e a)),(g (c e a) (c (s 2 h) (f 2))),(d a b),(p (d a e))],(nat_lit 205441)),
 ((d (j k b) (j e (c h (f 1)))),[(d (s 2 k) (c b a)),(g (c b a) (c (s 2 k) (f 2))),(d (j a b) (j e h))],(nat_lit 0x6200000c40200f9000107100803fc4000018900003e400041c900083ffc400001880401f200800e201007f88000031200007c882003ff)),
 ((g a b),[(d a b),(p (i b a))],(nat_lit 12902983)),
 ((d (c e (f 1)) b),[(d (s 2 e) (c a b)),(g (c a b) (c (s 2 e) (f 2))),(p (d b a))],(nat_lit 25665)),
 ((d (j a (c l k)) (j e (c h k))),[(d (s 2 l) (c b a)),(g (c b a) (c (s 2 l) (f 2))),(d (j a b) (j e h))],(nat_lit 0x188000031200007c8000919200123fc4000018900003e400048c800891ffc4000018900003e401008c902011fe200000c480001f2208046402048fff)),
 ((t z q),[(P q z),(p (t q z))],(nat_lit 12902927)),
 ((g h b),[(d (s 2 h) (c e a)),(g (c e a) (c (s 2 h) (f 2))),(d a b),(p (d a e))],(nat_lit 205441)),
 ((d a k),[(d (j a b) (j e (I h e))),(d b k)],(nat_lit 0x189001c490062480312411ff)),
 ((i (B (c a (f 1)) b) (c a (f 1))),[(g a b)],(nat_lit 0x3103107123f)),
 ((p (i b e)),[(g a b),(i a e)],(nat_lit 200713)),
 ((o (g h a) (d a b)),[(g a (c b (f 1))),(g e a),(i e h)],(nat_lit 0x6200388247))]
noncomputable abbrev zT21:List Ent:=[((d e (j b (f 1))),[(g a b),(i a e)],(nat_lit 0x624138804f)),
 ((g (j a (f 1)) b),[(g a (c b (f 1))),(g e a)],(nat_lit 0x18827100f)),
 ((p (i e a)),[(g a b),(g b e)],(nat_lit 25097)),
 ((o (g h a) (d a b)),[(g a (c b (f 1))),(g e a),(g h e)],(nat_lit 0x188071247)),
 ((g (j b (f 1)) (j e (f 1))),[(g a b),(g b e)],(nat_lit 0x6209c4027e209c4023f)),
 ((t q z),[(g a b),(g b (c e (f 1))),(p (i a h)),(p (o (g h a) (d a e))),(g h b),(p (g a (j b (f 1))))],(nat_lit 0x3104e24103104103fc4138903f)),
 ((g a b),[(g a (c b (f 1))),(d e b),(p (o (g e a) (d a b))),(p (i a e))],(nat_lit 0x620e24118903f)),
 ((i (B (I a b) b) b),[],(nat_lit 0x1881883891f103f)),
 ((t q z),[(g a (B (I b (f 1)) e)),(i b (f 0)),(g h a)],(nat_lit 0x31008188048f8800f)),
 ((g a b),[(g a (B (I b (f 1)) e)),(g h a)],(nat_lit 0x6240c491f1040c4123f)),
 ((p (d a (f 0))),[(d (f 2) a)],(nat_lit 393)),
 ((d (f 1) a),[(d (f 2) a)],(nat_lit 393)),
 ((i a b),[(d a b),(p (g a b))],(nat_lit 103047695)),
 (C,[(d (f 2) a),(i (I (f 0) a) (f 0))],(nat_lit 102767695)),
 ((d a e),[(g a b),(d b e)],(nat_lit 3145)),
 ((d a (c e h)),[(g a b),(d b e)],(nat_lit 3145)),
 ((t q z),[(g a (f 2)),(g b a),(g e b)],(nat_lit 3145))]
end Lq
mutual
theorem Ie:Lq.zT0.all jy=true:=by kernel_rfl
theorem Ic:Lq.zT1.all jy=true:=by kernel_rfl
theorem Ib:Lq.zT2.all jy=true:=by kernel_rfl
theorem Ia:Lq.zT3.all jy=true:=by kernel_rfl
theorem H9:Lq.zT4.all jy=true:=by kernel_rfl
theorem H8:Lq.zT5.all jy=true:=by kernel_rfl
theorem H7:Lq.zT6.all jy=true:=by kernel_rfl
theorem H6:Lq.zT7.all jy=true:=by kernel_rfl
theorem H5:Lq.zT8.all jy=true:=by kernel_rfl
theorem H4:Lq.zT9.all jy=true:=by kernel_rfl
theorem F1:Lq.zT10.all jy=true:=by kernel_rfl
theorem F0:Lq.zT11.all jy=true:=by kernel_rfl
end
mutual
theorem FZ:Lq.zT12.all jy=true:=by kernel_rfl
theorem FY:Lq.zT13.all jy=true:=by kernel_rfl
theorem FX:Lq.zT14.all jy=true:=by kernel_rfl
theorem FW:Lq.zT15.all jy=true:=by kernel_rfl
theorem FV:Lq.zT16.all jy=true:=by kernel_rfl
theorem FU:Lq.zT17.all jy=true:=by kernel_rfl
theorem FT:Lq.zT18.all jy=true:=by kernel_rfl
theorem FR:Lq.zT19.all jy=true:=by kernel_rfl
theorem FQ:Lq.zT20.all jy=true:=by kernel_rfl
theorem FP:Lq.zT21.all jy=true:=by kernel_rfl
end
noncomputable abbrev Ht:List (List Ent):=[Lq.zT0,Lq.zT1,Lq.zT2,Lq.zT3,Lq.zT4,Lq.zT5,Lq.zT6,Lq.zT7,Lq.zT8,Lq.zT9,Lq.zT10,Lq.zT11,Lq.zT12,Lq.zT13,Lq.zT14,Lq.zT15,Lq.zT16,Lq.zT17,Lq.zT18,Lq.zT19,Lq.zT20,Lq.zT21]
theorem H0:Ht.all (λl=>l.all jy)=true:=gh Ie (gh Ic (gh Ib (gh Ia (gh H9 (gh H8 (gh H7 (gh H6 (gh H5 (gh H4 (gh F1 (gh F0 (gh FZ (gh FY (gh FX (gh FW (gh FV (gh FU (gh FT (gh FR (gh FQ (gh FP (rfl))))))))))))))))))))))
noncomputable abbrev zE(k i:Nat):Ent:=uy dE (uy [] Ht k) i
theorem nL(k i:Nat)(a:List Nat)(c:List Int):SE a c (zE k i):=Iq (ux H0 k) i a c
mutual
theorem BY(k i:Nat):SE [] [] (zE k i):=nL k i _ _
theorem fT{x}(k i:Nat):SE [] [x] (zE k i):=nL k i _ _
theorem l6{x y}(k i:Nat):SE [] [x,y] (zE k i):=nL k i _ _
theorem qx{x y z}(k i:Nat):SE [] [x,y,z] (zE k i):=nL k i _ _
theorem ec{a}(k i:Nat):SE [a] [] (zE k i):=nL k i _ _
theorem tV{a x}(k i:Nat):SE [a] [x] (zE k i):=nL k i _ _
theorem b8{a b}(k i:Nat):SE [a,b] [] (zE k i):=nL k i _ _
theorem Dn{a b x}(k i:Nat):SE [a,b] [x] (zE k i):=nL k i _ _
theorem Dm{a b x y}(k i:Nat):SE [a,b] [x,y] (zE k i):=nL k i _ _
theorem b6{a b c}(k i:Nat):SE [a,b,c] [] (zE k i):=nL k i _ _
theorem Dl{a b c x}(k i:Nat):SE [a,b,c] [x] (zE k i):=nL k i _ _
theorem Dk{a b c x y}(k i:Nat):SE [a,b,c] [x,y] (zE k i):=nL k i _ _
end
mutual
theorem cO{a b c d}(k i:Nat):SE [a,b,c,d] [] (zE k i):=nL k i _ _
theorem AE{a b c d x y}(k i:Nat):SE [a,b,c,d] [x,y] (zE k i):=nL k i _ _
theorem fc{a b c d e}(k i:Nat):SE [a,b,c,d,e] [] (zE k i):=nL k i _ _
theorem ja{a b c d e f}(k i:Nat):SE [a,b,c,d,e,f] [] (zE k i):=nL k i _ _
theorem qu{a b c d e f g}(k i:Nat):SE [a,b,c,d,e,f,g] [] (zE k i):=nL k i _ _
theorem y8{a b c d e f g h}(k i:Nat):SE [a,b,c,d,e,f,g,h] [] (zE k i):=nL k i _ _
theorem Dc{a b c d e f g h j}(k i:Nat):SE [a,b,c,d,e,f,g,h,j] [] (zE k i):=nL k i _ _
theorem BX{a b c d e f g h j l}(k i:Nat):SE [a,b,c,d,e,f,g,h,j,l] [] (zE k i):=nL k i _ _
theorem FO{a b c d e f g h j l m}(k i:Nat):SE [a,b,c,d,e,f,g,h,j,l,m] [] (zE k i):=nL k i _ _
theorem Dp{a b c d e f g h j l m n o}(k i:Nat):SE [a,b,c,d,e,f,g,h,j,l,m,n,o] [] (zE k i):=nL k i _ _
end
section
variable {a:Nat}{b:Nat}{c:Nat}{d:Nat}{e:Nat}{f:Nat}{g:Nat}{h:Nat}{i:Nat}{j:Nat}{k:Nat}{l:Nat}{m:Nat}{n:Nat}{o:Nat}{p:Nat}{q:Nat}{r:Nat}{s:Nat}{t:Nat}{u:Int}{v:Int}{w:Int}{x:Int}{y:Int}{z:Int}
theorem Gm:Sd [a,b,c,d,e,f] [] ((Pr.rn .le) ((Tm.p) ((Tm.p) ((Tm.p) ((Tm.p) ((Tm.p) ((Tm.mn) (Tm.v 0) ((Tm.mn) (Tm.v 1) (Tm.v 2))) ((Tm.m) ((Tm.mn) (Tm.v 1) (Tm.v 2)) (Tm.v 0))) ((Tm.m) (Tm.v 2) ((Tm.mn) (Tm.v 1) (Tm.v 2)))) (Tm.v 3)) ((Tm.mn) (Tm.v 4) (Tm.v 5))) ((Tm.m) (Tm.v 5) (Tm.v 4))) ((Tm.p) ((Tm.p) ((Tm.t) 3 (Tm.v 2)) (Tm.v 3)) ((Tm.t) 2 (Tm.v 5)))) []:=li ((Ct.b) ((Ct.b) ((Ct.b) ((Ct.b) ((Ct.b) ((Ct.b) ((Ct.b) ((Ct.l) [0,0,0,0,0,0,0,0,1]) ((Ct.b) ((Ct.l) [0,0,0,0,0,0,0,0,1]) ((Ct.l) [0,0,0,0,0,0,1,0,1]))) ((Ct.b) ((Ct.l) [0,0,0,0,0,0,0,0,1]) ((Ct.b) ((Ct.l) [0,0,0,0,0,0,0,0,1]) ((Ct.l) [0,0,0,0,0,0,1,0,1])))) ((Ct.b) ((Ct.b) ((Ct.l) [0,0,0,0,0,0,0,0,1]) ((Ct.b) ((Ct.l) [0,0,0,0,0,0,0,0,1]) ((Ct.l) [0,0,0,0,0,0,1,0,1]))) ((Ct.b) ((Ct.l) [0,0,0,0,0,0,0,0,1]) ((Ct.b) ((Ct.l) [0,0,0,0,0,0,0,0,1]) ((Ct.l) [0,0,0,0,0,0,1,0,1]))))) ((Ct.b) ((Ct.b) ((Ct.b) ((Ct.l) [0,0,0,0,0,0,0,0,1]) ((Ct.b) ((Ct.l) [0,0,0,0,0,0,0,0,1]) ((Ct.l) [0,0,0,0,0,0,1,0,1]))) ((Ct.b) ((Ct.l) [0,0,0,0,0,0,0,0,1]) ((Ct.b) ((Ct.l) [0,0,0,0,0,0,0,0,1]) ((Ct.l) [0,0,0,0,0,0,1,0,1])))) ((Ct.b) ((Ct.b) ((Ct.l) [0,0,0,0,0,0,0,0,1]) ((Ct.b) ((Ct.l) [0,0,0,0,0,0,0,0,1]) ((Ct.l) [0,0,0,0,0,0,1,0,1]))) ((Ct.b) ((Ct.l) [0,0,0,0,0,0,0,0,1]) ((Ct.b) ((Ct.l) [0,0,0,0,0,0,0,0,1]) ((Ct.l) [0,0,0,0,0,0,1,0,1])))))) ((Ct.b) ((Ct.b) ((Ct.b) ((Ct.b) ((Ct.l) [0,0,1,0,0,0,0,0,1]) ((Ct.b) ((Ct.l) [0,0,1,0,0,0,0,0,1]) ((Ct.l) [0,0,1,0,0,0,1,0,1]))) ((Ct.b) ((Ct.l) [0,0,1,0,0,0,0,0,1]) ((Ct.b) ((Ct.l) [0,0,1,0,0,0,0,0,1]) ((Ct.l) [0,0,1,0,0,0,1,0,1])))) ((Ct.b) ((Ct.b) ((Ct.l) [0,0,0,0,0,0,0,0,1]) ((Ct.b) ((Ct.l) [0,0,0,0,0,0,0,0,1]) ((Ct.l) [0,0,0,0,0,0,1,0,1]))) ((Ct.b) ((Ct.l) [0,0,1,0,0,0,0,0,1]) ((Ct.b) ((Ct.l) [0,0,1,0,0,0,0,0,1]) ((Ct.l) [0,0,1,0,0,0,1,0,1]))))) ((Ct.b) ((Ct.b) ((Ct.b) ((Ct.l) [0,0,0,0,0,0,0,0,1]) ((Ct.b) ((Ct.l) [0,0,0,0,0,0,0,0,1]) ((Ct.l) [0,0,0,0,0,0,1,0,1]))) ((Ct.b) ((Ct.l) [0,0,0,0,0,0,0,0,1]) ((Ct.b) ((Ct.l) [0,0,0,0,0,0,0,0,1]) ((Ct.l) [0,0,0,0,0,0,1,0,1])))) ((Ct.b) ((Ct.b) ((Ct.l) [0,0,0,0,0,0,0,0,1]) ((Ct.b) ((Ct.l) [0,0,0,0,0,0,0,0,1]) ((Ct.l) [0,0,0,0,0,0,1,0,1]))) ((Ct.b) ((Ct.l) [0,0,0,0,0,0,0,0,1]) ((Ct.b) ((Ct.l) [0,0,0,0,0,0,0,0,1]) ((Ct.l) [0,0,0,0,0,0,1,0,1]))))))) ((Ct.b) ((Ct.b) ((Ct.b) ((Ct.b) ((Ct.b) ((Ct.l) [0,0,0,0,0,0,0,0,1]) ((Ct.b) ((Ct.l) [0,0,0,0,0,0,0,0,1]) ((Ct.l) [0,0,0,0,0,0,1,0,1]))) ((Ct.b) ((Ct.l) [0,0,0,0,0,0,0,0,1]) ((Ct.b) ((Ct.l) [0,0,0,0,0,0,0,0,1]) ((Ct.l) [0,0,0,0,0,0,1,0,1])))) ((Ct.b) ((Ct.b) ((Ct.l) [0,0,0,0,0,0,0,0,1]) ((Ct.b) ((Ct.l) [0,0,0,0,0,0,0,0,1]) ((Ct.l) [0,0,0,0,0,0,1,0,1]))) ((Ct.b) ((Ct.l) [0,0,0,0,0,0,0,0,1]) ((Ct.b) ((Ct.l) [0,0,0,0,0,0,0,0,1]) ((Ct.l) [0,0,0,0,0,0,1,0,1]))))) ((Ct.b) ((Ct.b) ((Ct.b) ((Ct.l) [0,1,0,0,0,0,0,0,1]) ((Ct.b) ((Ct.l) [0,1,0,0,0,0,0,0,1]) ((Ct.l) [0,1,0,0,0,0,1,0,1]))) ((Ct.b) ((Ct.l) [0,1,0,0,0,0,0,0,1]) ((Ct.b) ((Ct.l) [0,1,0,0,0,0,0,0,1]) ((Ct.l) [0,1,0,0,0,0,1,0,1])))) ((Ct.b) ((Ct.b) ((Ct.l) [0,1,0,0,0,0,0,0,1]) ((Ct.b) ((Ct.l) [0,1,0,0,0,0,0,0,1]) ((Ct.l) [0,1,0,0,0,0,1,0,1]))) ((Ct.b) ((Ct.l) [0,1,0,0,0,0,0,0,1]) ((Ct.b) ((Ct.l) [0,1,0,0,0,0,0,0,1]) ((Ct.l) [0,1,0,0,0,0,1,0,1])))))) ((Ct.b) ((Ct.b) ((Ct.b) ((Ct.b) ((Ct.l) [0,0,1,0,0,0,0,0,1]) ((Ct.b) ((Ct.l) [0,0,1,0,0,0,0,0,1]) ((Ct.l) [0,0,1,0,0,0,1,0,1]))) ((Ct.b) ((Ct.l) [0,0,1,0,0,0,0,0,1]) ((Ct.b) ((Ct.l) [0,0,1,0,0,0,0,0,1]) ((Ct.l) [0,0,1,0,0,0,1,0,1])))) ((Ct.b) ((Ct.b) ((Ct.l) [0,0,0,0,0,0,0,0,1]) ((Ct.b) ((Ct.l) [0,0,0,0,0,0,0,0,1]) ((Ct.l) [0,0,0,0,0,0,1,0,1]))) ((Ct.b) ((Ct.l) [0,0,1,0,0,0,0,0,1]) ((Ct.b) ((Ct.l) [0,0,1,0,0,0,0,0,1]) ((Ct.l) [0,0,1,0,0,0,1,0,1]))))) ((Ct.b) ((Ct.b) ((Ct.b) ((Ct.l) [0,1,0,0,0,0,0,0,1]) ((Ct.b) ((Ct.l) [0,1,0,0,0,0,0,0,1]) ((Ct.l) [0,1,0,0,0,0,1,0,1]))) ((Ct.b) ((Ct.l) [0,1,0,0,0,0,0,0,1]) ((Ct.b) ((Ct.l) [0,1,0,0,0,0,0,0,1]) ((Ct.l) [0,1,0,0,0,0,1,0,1])))) ((Ct.b) ((Ct.b) ((Ct.l) [0,1,0,0,0,0,0,0,1]) ((Ct.b) ((Ct.l) [0,1,0,0,0,0,0,0,1]) ((Ct.l) [0,1,0,0,0,0,1,0,1]))) ((Ct.b) ((Ct.l) [0,1,0,0,0,0,0,0,1]) ((Ct.b) ((Ct.l) [0,1,0,0,0,0,0,0,1]) ((Ct.l) [0,1,0,0,0,0,1,0,1])))))))) ((Ct.b) ((Ct.b) ((Ct.b) ((Ct.b) ((Ct.b) ((Ct.b) ((Ct.l) [1,0,0,0,0,0,0,0,1]) ((Ct.b) ((Ct.l) [1,0,0,0,0,0,0,0,1]) ((Ct.l) [1,0,0,0,0,0,1,0,1]))) ((Ct.b) ((Ct.l) [1,0,0,0,0,0,0,0,1]) ((Ct.b) ((Ct.l) [1,0,0,0,0,0,0,0,1]) ((Ct.l) [1,0,0,0,0,0,1,0,1])))) ((Ct.b) ((Ct.b) ((Ct.l) [0,0,0,0,0,0,0,0,1]) ((Ct.b) ((Ct.l) [0,0,0,0,0,0,0,0,1]) ((Ct.l) [0,0,0,0,0,0,1,0,1]))) ((Ct.b) ((Ct.l) [1,0,0,0,0,0,0,0,1]) ((Ct.b) ((Ct.l) [1,0,0,0,0,0,0,0,1]) ((Ct.l) [1,0,0,0,0,0,1,0,1]))))) ((Ct.b) ((Ct.b) ((Ct.b) ((Ct.l) [1,0,0,0,0,0,0,0,1]) ((Ct.b) ((Ct.l) [1,0,0,0,0,0,0,0,1]) ((Ct.l) [1,0,0,0,0,0,1,0,1]))) ((Ct.b) ((Ct.l) [1,0,0,0,0,0,0,0,1]) ((Ct.b) ((Ct.l) [1,0,0,0,0,0,0,0,1]) ((Ct.l) [1,0,0,0,0,0,1,0,1])))) ((Ct.b) ((Ct.b) ((Ct.l) [0,0,0,0,0,0,0,0,1]) ((Ct.b) ((Ct.l) [0,0,0,0,0,0,0,0,1]) ((Ct.l) [0,0,0,0,0,0,1,0,1]))) ((Ct.b) ((Ct.l) [1,0,0,0,0,0,0,0,1]) ((Ct.b) ((Ct.l) [1,0,0,0,0,0,0,0,1]) ((Ct.l) [1,0,0,0,0,0,1,0,1])))))) ((Ct.b) ((Ct.b) ((Ct.b) ((Ct.b) ((Ct.l) [2,0,0,0,0,0,0,0,1]) ((Ct.b) ((Ct.l) [2,0,0,0,0,0,0,0,1]) ((Ct.l) [2,0,0,0,0,0,1,0,1]))) ((Ct.b) ((Ct.l) [2,0,0,0,0,0,0,0,1]) ((Ct.b) ((Ct.l) [2,0,0,0,0,0,0,0,1]) ((Ct.l) [2,0,0,0,0,0,1,0,1])))) ((Ct.b) ((Ct.b) ((Ct.l) [1,0,0,0,0,0,0,0,1]) ((Ct.b) ((Ct.l) [1,0,0,0,0,0,0,0,1]) ((Ct.l) [1,0,0,0,0,0,1,0,1]))) ((Ct.b) ((Ct.l) [2,0,0,0,0,0,0,0,1]) ((Ct.b) ((Ct.l) [2,0,0,0,0,0,0,0,1]) ((Ct.l) [2,0,0,0,0,0,1,0,1]))))) ((Ct.b) ((Ct.b) ((Ct.b) ((Ct.l) [1,0,0,0,0,0,0,0,1]) ((Ct.b) ((Ct.l) [1,0,0,0,0,0,0,0,1]) ((Ct.l) [1,0,0,0,0,0,1,0,1]))) ((Ct.b) ((Ct.l) [1,0,0,0,0,0,0,0,1]) ((Ct.b) ((Ct.l) [1,0,0,0,0,0,0,0,1]) ((Ct.l) [1,0,0,0,0,0,1,0,1])))) ((Ct.b) ((Ct.b) ((Ct.l) [0,0,0,0,0,0,0,0,1]) ((Ct.b) ((Ct.l) [0,0,0,0,0,0,0,0,1]) ((Ct.l) [0,0,0,0,0,0,1,0,1]))) ((Ct.b) ((Ct.l) [1,0,0,0,0,0,0,0,1]) ((Ct.b) ((Ct.l) [1,0,0,0,0,0,0,0,1]) ((Ct.l) [1,0,0,0,0,0,1,0,1]))))))) ((Ct.b) ((Ct.b) ((Ct.b) ((Ct.b) ((Ct.b) ((Ct.l) [0,0,0,0,0,0,0,0,1]) ((Ct.b) ((Ct.l) [0,0,0,0,0,0,0,0,1]) ((Ct.l) [0,0,0,0,0,0,1,0,1]))) ((Ct.b) ((Ct.l) [0,0,0,0,0,0,0,0,1]) ((Ct.b) ((Ct.l) [0,0,0,0,0,0,0,0,1]) ((Ct.l) [0,0,0,0,0,0,1,0,1])))) ((Ct.b) ((Ct.b) ((Ct.l) [0,0,0,0,0,0,0,0,1]) ((Ct.b) ((Ct.l) [0,0,0,0,0,0,0,0,1]) ((Ct.l) [0,0,0,0,0,0,1,0,1]))) ((Ct.b) ((Ct.l) [0,0,0,0,0,0,0,0,1]) ((Ct.b) ((Ct.l) [0,0,0,0,0,0,0,0,1]) ((Ct.l) [0,0,0,0,0,0,1,0,1]))))) ((Ct.b) ((Ct.b) ((Ct.b) ((Ct.l) [1,1,0,0,0,0,0,0,1]) ((Ct.b) ((Ct.l) [1,1,0,0,0,0,0,0,1]) ((Ct.l) [1,1,0,0,0,0,1,0,1]))) ((Ct.b) ((Ct.l) [1,1,0,0,0,0,0,0,1]) ((Ct.b) ((Ct.l) [1,1,0,0,0,0,0,0,1]) ((Ct.l) [1,1,0,0,0,0,1,0,1])))) ((Ct.b) ((Ct.b) ((Ct.l) [0,1,0,0,0,0,0,0,1]) ((Ct.b) ((Ct.l) [0,1,0,0,0,0,0,0,1]) ((Ct.l) [0,1,0,0,0,0,1,0,1]))) ((Ct.b) ((Ct.l) [1,1,0,0,0,0,0,0,1]) ((Ct.b) ((Ct.l) [1,1,0,0,0,0,0,0,1]) ((Ct.l) [1,1,0,0,0,0,1,0,1])))))) ((Ct.b) ((Ct.b) ((Ct.b) ((Ct.b) ((Ct.l) [1,0,0,0,0,0,0,0,1]) ((Ct.b) ((Ct.l) [1,0,0,0,0,0,0,0,1]) ((Ct.l) [1,0,0,0,0,0,1,0,1]))) ((Ct.b) ((Ct.l) [1,0,0,0,0,0,0,0,1]) ((Ct.b) ((Ct.l) [1,0,0,0,0,0,0,0,1]) ((Ct.l) [1,0,0,0,0,0,1,0,1])))) ((Ct.b) ((Ct.b) ((Ct.l) [0,0,0,0,0,0,0,0,1]) ((Ct.b) ((Ct.l) [0,0,0,0,0,0,0,0,1]) ((Ct.l) [0,0,0,0,0,0,1,0,1]))) ((Ct.b) ((Ct.l) [1,0,0,0,0,0,0,0,1]) ((Ct.b) ((Ct.l) [1,0,0,0,0,0,0,0,1]) ((Ct.l) [1,0,0,0,0,0,1,0,1]))))) ((Ct.b) ((Ct.b) ((Ct.b) ((Ct.l) [1,1,0,0,0,0,0,0,1]) ((Ct.b) ((Ct.l) [1,1,0,0,0,0,0,0,1]) ((Ct.l) [1,1,0,0,0,0,1,0,1]))) ((Ct.b) ((Ct.l) [1,1,0,0,0,0,0,0,1]) ((Ct.b) ((Ct.l) [1,1,0,0,0,0,0,0,1]) ((Ct.l) [1,1,0,0,0,0,1,0,1])))) ((Ct.b) ((Ct.b) ((Ct.l) [0,1,0,0,0,0,0,0,1]) ((Ct.b) ((Ct.l) [0,1,0,0,0,0,0,0,1]) ((Ct.l) [0,1,0,0,0,0,1,0,1]))) ((Ct.b) ((Ct.l) [1,1,0,0,0,0,0,0,1]) ((Ct.b) ((Ct.l) [1,1,0,0,0,0,0,0,1]) ((Ct.l) [1,1,0,0,0,0,1,0,1]))))))))) rfl
theorem Gk:Sd [a,b,c] [] ((Pr.rn .le) ((Tm.p) (Tm.v 0) ((Tm.u) (Tm.v 2) 0)) ((Tm.n) 16777216)) [((Pr.rn .le) (Tm.v 0) ((Tm.t) 500 (Tm.v 1))),((Pr.rn .le) (Tm.v 1) ((Tm.n) 6))]:=li ((Ct.l) [1,500,1]) rfl
theorem Gj:Sd [a,b,c,d,e,f] [] ((Pr.rn .lt) ((Tm.p) (Tm.v 0) (Tm.v 1)) ((Tm.p) ((Tm.t) 2 ((Tm.m) (Tm.v 5) (Tm.v 4))) ((Tm.n) 1))) [((Pr.rn .le) (Tm.v 0) ((Tm.p) ((Tm.t) 2 ((Tm.m) (Tm.v 2) (Tm.v 4))) ((Tm.n) 1))),((Pr.rn .le) (Tm.v 1) ((Tm.p) ((Tm.t) 2 ((Tm.m) (Tm.v 5) ((Tm.p) (Tm.v 2) (Tm.v 3)))) ((Tm.n) 1))),((Pr.rn .le) (Tm.v 4) (Tm.v 2)),((Pr.rn .le) ((Tm.p) (Tm.v 2) (Tm.v 3)) (Tm.v 5)),((Pr.rn .lt) ((Tm.n) 0) (Tm.v 3))]:=li ((Ct.b) ((Ct.b) ((Ct.b) ((Ct.l) [0,1,0,1,0,0,2,0,1]) ((Ct.l) [1,0,1,0,0,0,1,1])) ((Ct.b) ((Ct.l) [0,1,0,1,0,2,2,0,1]) ((Ct.l) [1,0,0,0,0,1,1,1]))) ((Ct.b) ((Ct.b) ((Ct.l) [0,1,0,1,2,0,2,0,1]) ((Ct.l) [0,0,1,0,1,0,1,1])) ((Ct.b) ((Ct.l) [0,1,0,1,2,2,2,0,1]) ((Ct.l) [0,0,0,0,1,1,1,1])))) rfl
mutual
theorem D4{a c}(d:(a<=c)):((Mz (max (0:Int) (min ((a:Nat):Int) ((c:Nat):Int))))=a):=b6 17 5 (toN _) d
theorem D3{a}:((Mz (max (0:Int) (min ((- (1:Int))+((a:Nat):Int)) ((a:Nat):Int))))=(a-(1:Nat))):=b8 17 10 (toN _)
end
noncomputable def anyF.{u}(c:Type u)(a:Array c)(f:c->Bool)(start:Nat)(d:Nat):Bool :=
 match NN start 0,NN d a.toList.length with
 |true,true=>OX a.toList f
 |Z,Y=>UB a f start d
theorem u0.{u} : @Array.any.{u}=@anyF.{u}:=by
 funext α a f start stop
 show _=(match NN start 0,NN stop a.toList.length with | true,true=>OX a.toList f | _,_=>UB a f start stop)
 cases c:NN start 0 with
 |false=>rfl
 |true =>
  cases d:NN stop a.toList.length with
  |false=>rfl
  |true =>
   have c:=Mu c;have d:=Mu d;subst c;subst d;show _=OX a.toList f;rw[<-PySem.W.R.anyR_eq,RR];rfl
noncomputable def rhs{a b:Kx}(_:a=b):Kx:=b
theorem D7:type_of% ((by delta LK;rw[u0.{0}]):LK=_):=by
 delta LK;rw[u0.{0}]
noncomputable def new:Kx:=rhs D7
noncomputable def tree(id:String):Option Kx :=
 @Bool.rec (λZ=>Option Kx) (Np id) (IK new) (NN (KH id) (KH "type.__new__"))
theorem tree_eq:RZ=tree:=by
 funext id
 unfold tree;cases h:NN (KH id) (KH "type.__new__") with
 |false=>show _=Np id;rw[<-Uo]
 |true =>
  show _=IK new;have h:=Mu h;rw[<-Us] at h;have h:=PySem.code_inj _ _ h;subst h;have a:Kx.«type.__new__»=new:=PySem.W.Fast.te4202317264376624991.trans D7;rw[<-a];have:RZ "type.__new__"=IK Kx.«type.__new__»:=by kernel_rfl
  exact this
noncomputable def iP(c:String->Option Kx)(p:Program)(w:K8)(n₀:Nat)(a:Option Value):Nat->SharedT->UQ->Option SharedT
 |0,Z,Y=>none
 |n+1,s,t=>match through t with
  |true=>IK s
  |false=>match NA n₀ a t with
   |false=>none
   |true=>match KJ (KI c) p w s t with
    |some (s',t')=>iP c p w n₀ a n s' t'
    |none=>none
theorem vf{tb p w n₀ n ann s t}:iP tb p w n₀ ann (n+1) s t=(match through t with
  |true=>IK s
  |false=>match NA n₀ ann t with
   |false=>none
   |true=>match KJ (KI tb) p w s t with
    |some (s',t')=>iP tb p w n₀ ann n s' t'
    |none=>none):=rfl
theorem nZ{tb p w n₀ ann}:∀ {n:Nat} {s s':SharedT} {t:UQ},
  iP tb p w n₀ ann n s t=IK s'->topRun tb p w n₀ ann n s.abs t=IK s'.abs
 |0,Z,Y,X,h=>by cases h
 |n+1,s,s',t,h=>by
  rw[vf] at h;unfold topRun;cases d:through t with
  |true=>rw[d] at h;cases h;rfl
  |false =>
   rw[d] at h;rw[<-Ul,<-Nr,<-Nq] at h;cases c:stepOk n₀ ann t with
   |false=>rw[c] at h;cases h
   |true =>
    rw[c] at h;cases a:stepT (denote tb) p w s t with
    |none=>rw[a] at h;cases h
    |some r=>obtain⟨e,f⟩:=r;rw[a] at h;dsimp only;rw[stepT_spec a];exact nZ h
noncomputable def iY(a:String->Option Kx)(p:Program)(w:K8):Nat->SharedT->UQ->Option SharedT
 |0,Z,Y=>none
 |n+1,s,t=>match NB t with
  |some []=>IK s
  |some (Z::Y)=>none
  |none=>match KJ (KI a) p w s t with
   |some (s',t')=>iY a p w n s' t'
   |none=>none
theorem vR{tb p w n s t}:iY tb p w (n+1) s t=(match NB t with
  |some []=>IK s
  |some (Z::Y)=>none
  |none=>match KJ (KI tb) p w s t with
   |some (s',t')=>iY tb p w n s' t'
   |none=>none):=rfl
theorem jn{tb p w}:∀ {n:Nat} {s s':SharedT} {t:UQ},
  iY tb p w n s t=IK s'->importEnds tb p w n s.abs t=IK s'.abs
 |0,Z,Y,X,h=>by cases h
 |n+1,s,s',t,h=>by
  rw[vR] at h;unfold importEnds;rw[<-Un,<-Nr,<-Nq] at h;cases d:t.atExitBegin with
  |some l=>rw[d] at h;cases l with
   |nil=>cases h;rfl
   |cons a l=>cases h
  |none =>
   rw[d] at h;cases c:stepT (denote tb) p w s t with
   |none=>rw[c] at h;cases h
   |some r=>obtain⟨e,f⟩:=r;rw[c] at h;dsimp only;rw[stepT_spec c];exact jn h
noncomputable def layB:List Obj->BT->Nat->Option (BT×Nat)
 |[],T,n=>IK (T,n)
 |o::l,T,n=>match ((T.ins n o).get n).isSome with
  |true=>layB l (T.ins n o) (n+1)
  |false=>none
theorem oz(a:Life):∀ {l:List Obj} {T T':BT} {n n':Nat},layB l T n=IK (T',n')->absHeap T' n' a=⟨((absHeap T n a).objs.toList++l).toArray,a⟩
 |[],T,T',n,n',h=>by
  cases h;rw[Jj]
  rfl
 |o::l,T,T',n,n',h=>by
  change (match ((T.ins n o).get n).isSome with | true=>layB l (T.ins n o) (n+1) | false=>none)=_ at h
  cases c:((T.ins n o).get n).isSome with
  |false=>rw[c] at h;cases h
  |true =>
   rw[c] at h;rw[oz a h,absHeap_ins c];show Heap.mk _ _=Heap.mk _ _
   congr 2
   show((absHeap T n a).objs.push o).toList++l=_;rw[Ly,I1]
   rfl
noncomputable def startT(os:OsState):SharedT:=⟨.nil,0,{},#[],{},1,os⟩
noncomputable def qg(c:String->Option Kx)(p:Program)(w:K8)(N:Nat)(s₀:IY):Option SharedT :=
 match s₀.heap.isNs Ki&&s₀.gens.size == 0 with
 |false=>none
 |true=>match layB s₀.heap.objs.toList .nil 0 with
  |none=>none
  |some (T,n)=>match iP c p w s₀.heap.objs.size (Nz s₀.heap Ki "__annotations__") N ⟨T,n,s₀.heap.life,s₀.gens,s₀.drawn,s₀.toks,s₀.os⟩ (topStub p) with
   |none=>none
   |some a=>match T5 (Og p.main.body) s₀.heap a.abs.heap&&Td p a.abs.heap&&UJ a.abs&&UI s₀.heap a.abs.heap with
    |true=>IK a
    |false=>none
noncomputable def pL(a:String->Option Kx)(p:Program)(w:K8)(N:Nat):Option SharedT :=
 match iY a (OO p) w N (startT (NC (OO p)).1.os) (NC (OO p)).2 with
 |none=>none
 |some s₁=>match Uk p s₁.abs with
  |none=>none
  |some s₀=>qg a p w N s₀
theorem zN{p}{o q:Program}{loose:List Str}{Xt:IY->Bool}{a:Type}{Yf:IY->a}{Ya:K8->a}{N:Nat}(ep:p=o)(h:∀w,(pL Mine.Internal.tree o w N).map (λs=>(Uj q loose (Og o.main.body) Xt true s.abs,Yf s.abs))=IK (openGood q loose,Ya w)):LeftO p q loose Xt Yf Ya N:=by
 have f {tb w s₂} (h:pL tb p w N=IK s₂):openEnds tb p w N=IK s₂.abs:=by
  have d {s₀} (h:qg tb p w N s₀=IK s₂):topFrom tb p w N s₀=IK s₂.abs:=by
   unfold qg at h;unfold topFrom;cases u:(s₀.heap.isNs Ki&&s₀.gens.size == 0) with
   |false=>rw[u] at h;cases h
   |true =>
    rw[u] at h;dsimp only at h ⊢;rw[<-ND] at h;cases i:layB s₀.heap.objs.toList .nil 0 with
    |none=>rw[i] at h;cases h
    |some x =>
     obtain⟨T,n⟩:=x;rw[i] at h;dsimp only at h;have e:(⟨T,n,s₀.heap.life,s₀.gens,s₀.drawn,s₀.toks,s₀.os⟩:SharedT).abs=s₀:=by
      unfold SharedT.abs;rw[oz s₀.heap.life i]
      rfl
     cases k:iP tb p w s₀.heap.objs.size (Heap.nsMap s₀.heap Ki "__annotations__") N ⟨T,n,s₀.heap.life,s₀.gens,s₀.drawn,s₀.toks,s₀.os⟩ (topStub p) with
     |none=>rw[k] at h;cases h
     |some c =>
      rw[k] at h;dsimp only at h;have z:=nZ k;rw[e] at z;rw[z];show(match T5 (Og p.main.body) s₀.heap c.abs.heap&&Td p c.abs.heap&&UJ c.abs&&UI s₀.heap c.abs.heap with | true=>IK c.abs | false=>none)=_;cases v:(T5 (Og p.main.body) s₀.heap c.abs.heap&&Td p c.abs.heap&&UJ c.abs&&UI s₀.heap c.abs.heap) with
      |false=>rw[v] at h;cases h
      |true=>rw[v] at h;cases h;rfl
  unfold pL at h;rw[<-Uq,<-Ur] at h;unfold openEnds fencedOpening;cases g:iY tb (OO p) w N (startT (start (OO p)).1.os) (start (OO p)).2 with
  |none=>rw[g] at h;cases h
  |some s₁ =>
   rw[g] at h;dsimp only at h;have z:=jn g;have e:(startT (start (OO p)).1.os).abs=(start (OO p)).1:=rfl;rw[e] at z;rw[z];show(Option.bind (Va p s₁.abs) _)=_;cases r:Va p s₁.abs with
   |none=>rw[r] at h;cases h
   |some s₀=>rw[r] at h;exact d h
 subst ep;intro w;have h:=h w;rw[<-Um] at h;rw[Mine.Internal.tree_eq];cases j:pL Mine.Internal.tree p w N with
 |none=>rw[j] at h;cases h
 |some s=>rw[j] at h;rw[f j];exact h
noncomputable abbrev pw:Program:=Mc
theorem HK(s:String):IM s=⟨⟨s.toList.map Uz⟩⟩:=by
 rw[Str.ofString_eq_byList];rfl
noncomputable def F8(s:String):Str:=IM s
noncomputable def zt(l:List Char):Str:=IM (String.ofList l)
mutual
theorem ub(l:List Char):zt l=⟨⟨l.map Uz⟩⟩:=by
 unfold zt;rw[HK,String.toList_ofList]
theorem GN(s:String)(k:Nat)(p q:Ua):Qt (.Constant (.str (IM s)) k p) q=Qt (.Constant (.str (F8 s)) k p) q:=rfl
theorem GO(s:String)(k:Nat)(p q:Ua)(a b c r d e f g m i j):Th a b c (Qt (.Constant (.str (IM s)) k p) q::r) d e f g m i j=Th a b c (Qt (.Constant (.str (zt s.toList)) k p) q::r) d e f g m i j:=by
 unfold zt;rw[String.ofList_toList]
end
theorem Hy:type_of% ((by delta Mc;simp only[↓GO,↓GN,HK,String.reduceToList,JJ,MQ,Char.reduceToNat];rfl):Mc=_):=by kernel_rfl
noncomputable def zA{a b:Program}(_:a=b):Program:=b
noncomputable def Gf:Program:=zA Hy
theorem Hx:type_of% ((by unfold Gf zA;simp only[ub];rfl):Gf=_):=by
 unfold Gf zA;simp only[ub]
noncomputable def pT:Program:=zA Hx
theorem xy:pw=pT:=Hy.trans Hx
noncomputable def a7(i:Nat):Stmt:=(pT.main.body[i]?).getD (.Pass ⟨0,0,0,0⟩)
noncomputable def y9:Stmt->Expr×Expr×List Stmt×Str×Arguments×Scope
 |.FunctionDef name a c Z Y X scope V U T=>(.Constant .none 0 ⟨0,0,0,0⟩,.Constant .none 0 ⟨0,0,0,0⟩,c,name,a,scope)
 |.ClassDef Z Y X b V U T S R Q P=>(.Constant .none 0 ⟨0,0,0,0⟩,.Constant .none 0 ⟨0,0,0,0⟩,b,⟨#[]⟩,⟨[],[],none,[],[],none,[]⟩,default)
 |.If Z b Y X=>(.Constant .none 0 ⟨0,0,0,0⟩,.Constant .none 0 ⟨0,0,0,0⟩,b,⟨#[]⟩,⟨[],[],none,[],[],none,[]⟩,default)
 |.Assign Z v Y=>(.Constant .none 0 ⟨0,0,0,0⟩,v,[],⟨#[]⟩,⟨[],[],none,[],[],none,[]⟩,default)
 |.While t b Z Y=>(t,.Constant .none 0 ⟨0,0,0,0⟩,b,⟨#[]⟩,⟨[],[],none,[],[],none,[]⟩,default)
 |.For t i b Z Y=>(t,i,b,⟨#[]⟩,⟨[],[],none,[],[],none,[]⟩,default)
 |_=>(.Constant .none 0 ⟨0,0,0,0⟩,.Constant .none 0 ⟨0,0,0,0⟩,[],⟨#[]⟩,⟨[],[],none,[],[],none,[]⟩,default)
noncomputable def a5(s:Stmt):List Stmt:=(y9 s).2.2.1
noncomputable def cJ(s:Stmt):Arguments:=(y9 s).2.2.2.2.1
noncomputable def a6(s:Stmt):Scope:=(y9 s).2.2.2.2.2
noncomputable def cF(i j:Nat):Stmt:=((a5 (a7 i))[j]?).getD (.Pass ⟨0,0,0,0⟩)
noncomputable def et(st:Stmt)(q:Str)(d e c:Value)(a:Option Addr):Obj :=
 {cls:=.type "function",data:=.func {name:=(y9 st).2.2.2.1,qualname:=q,params:=cJ st,body:=.stmts (a5 st),scope:=a6 st,globals:=3,closure:=[],defaults:=d,kwdefaults:=.none,doc:=.none,pyModule:=e,annotations:=a,code:=c}}
noncomputable def qv:Program:=view pT [14]
noncomputable def loose:List Str:=[IM "_wall",IM "_tuplegetter",IM "Match",IM "_calculate_ratio",IM "SequenceMatcher",IM "_keep_original_ws",IM "Differ",IM "IS_CHARACTER_JUNK",IM "restore",IM "_law_lines",IM "_law_alike",IM "_law_row"]
noncomputable def DJ:Obj:={cls:=.type "code",data:=.fields #[.str (IM "__new__") 274,.str (IM "Match.__new__") 275,.str (IM "/claim/cut.py") 276,.int (29) 0,.int (4) 0,.int (0) 0,.int (0) 0,.int (3) 0,.ref 76,.bool true,.int (181) 0,.ref 77,.none,.ref 78,.ref 79,.ref 80,.int (281) 0,.int (29) 0,.str (IM "/claim/cut.py") 282]}
noncomputable def Gi:Obj:=et (cF 3 4) (IM "Match.__new__") (.none) (.str (IM "cpy313.difflib") 194) (.ref 81) (none)
noncomputable def DI:Obj:={cls:=.type "code",data:=.fields #[.str (IM "_make") 285,.str (IM "Match._make") 286,.str (IM "/claim/cut.py") 287,.int (33) 0,.int (2) 0,.int (0) 0,.int (0) 0,.int (3) 0,.ref 83,.bool true,.int (181) 0,.ref 84,.none,.ref 85,.ref 86,.ref 87,.int (291) 0,.int (33) 0,.str (IM "/claim/cut.py") 292]}
noncomputable def Gh:Obj:=et (cF 3 5) (IM "Match._make") (.none) (.str (IM "cpy313.difflib") 194) (.ref 88) (IK 92)
noncomputable def DH:Obj:={cls:=.type "classmethod",dict:=IK 90,data:=.fields #[.ref 89,.bool false]}
noncomputable def Bk:Obj:={cls:=.type "type",data:=.cls {name:=IM "Match",bases:=[.type "tuple"],mro:=[.ref 135,.type "tuple",.type "object"],ns:=134,qualname:=IM "Match",hasDict:=false,slotNames:=[],subclasses:=[],abstract:=false,hasDel:=false},slots:=#[IK (.ref 65),none,IK (.str (IM "Match") 253),IK (.str (IM "Match") 261),IK (.none),IK (.bool false)]}
noncomputable def Bj:Obj:={cls:=.type "staticmethod",data:=.fields #[.ref 82]}
noncomputable def Bh:Obj:={cls:=.type "tuple",data:=.seq #[.none,.str (IM "") 404,.str (IM "") 405,.bool true] 0}
noncomputable def Bg:Obj:={cls:=.type "code",data:=.fields #[.str (IM "__init__") 406,.str (IM "SequenceMatcher.__init__") 407,.str (IM "/claim/cut.py") 408,.int (145) 0,.int (5) 0,.int (0) 0,.int (0) 0,.int (3) 0,.ref 154,.bool true,.int (181) 0,.ref 155,.none,.ref 156,.ref 157,.ref 158,.int (414) 0,.int (145) 0,.str (IM "/claim/cut.py") 415]}
noncomputable def D0:Obj:=et (cF 5 1) (IM "SequenceMatcher.__init__") (.ref 153) (.str (IM "cpy313.difflib") 194) (.ref 159) (none)
noncomputable def Bf:Obj:={cls:=.type "code",data:=.fields #[.str (IM "set_seqs") 418,.str (IM "SequenceMatcher.set_seqs") 419,.str (IM "/claim/cut.py") 420,.int (173) 0,.int (3) 0,.int (0) 0,.int (0) 0,.int (3) 0,.ref 161,.bool true,.int (181) 0,.ref 162,.none,.ref 163,.ref 164,.ref 165,.int (424) 0,.int (173) 0,.str (IM "/claim/cut.py") 425]}
noncomputable def DZ:Obj:=et (cF 5 2) (IM "SequenceMatcher.set_seqs") (.none) (.str (IM "cpy313.difflib") 194) (.ref 166) (none)
noncomputable def Be:Obj:={cls:=.type "code",data:=.fields #[.str (IM "set_seq1") 428,.str (IM "SequenceMatcher.set_seq1") 429,.str (IM "/claim/cut.py") 430,.int (184) 0,.int (2) 0,.int (0) 0,.int (0) 0,.int (3) 0,.ref 168,.bool true,.int (181) 0,.ref 169,.none,.ref 170,.ref 171,.ref 172,.int (433) 0,.int (184) 0,.str (IM "/claim/cut.py") 434]}
noncomputable def DY:Obj:=et (cF 5 3) (IM "SequenceMatcher.set_seq1") (.none) (.str (IM "cpy313.difflib") 194) (.ref 173) (none)
noncomputable def Bd:Obj:={cls:=.type "code",data:=.fields #[.str (IM "set_seq2") 437,.str (IM "SequenceMatcher.set_seq2") 438,.str (IM "/claim/cut.py") 439,.int (209) 0,.int (2) 0,.int (0) 0,.int (0) 0,.int (3) 0,.ref 175,.bool true,.int (181) 0,.ref 176,.none,.ref 177,.ref 178,.ref 179,.int (442) 0,.int (209) 0,.str (IM "/claim/cut.py") 443]}
noncomputable def DX:Obj:=et (cF 5 4) (IM "SequenceMatcher.set_seq2") (.none) (.str (IM "cpy313.difflib") 194) (.ref 180) (none)
noncomputable def Bc:Obj:={cls:=.type "code",data:=.fields #[.str (IM "__chain_b") 446,.str (IM "SequenceMatcher.__chain_b") 447,.str (IM "/claim/cut.py") 448,.int (236) 0,.int (1) 0,.int (0) 0,.int (0) 0,.int (3) 0,.ref 182,.bool true,.int (181) 0,.ref 183,.none,.ref 184,.ref 185,.ref 186,.int (461) 0,.int (236) 0,.str (IM "/claim/cut.py") 462]}
noncomputable def DW:Obj:=et (cF 5 5) (IM "SequenceMatcher.__chain_b") (.none) (.str (IM "cpy313.difflib") 194) (.ref 187) (none)
noncomputable def Bb:Obj:={cls:=.type "tuple",data:=.seq #[.int (0) 464,.none,.int (0) 465,.none] 0}
noncomputable def Ba:Obj:={cls:=.type "code",data:=.fields #[.str (IM "find_longest_match") 466,.str (IM "SequenceMatcher.find_longest_match") 467,.str (IM "/claim/cut.py") 468,.int (260) 0,.int (5) 0,.int (0) 0,.int (0) 0,.int (3) 0,.ref 190,.bool true,.int (181) 0,.ref 191,.none,.ref 192,.ref 193,.ref 194,.int (488) 0,.int (260) 0,.str (IM "/claim/cut.py") 489]}
noncomputable def DV:Obj:=et (cF 5 6) (IM "SequenceMatcher.find_longest_match") (.ref 189) (.str (IM "cpy313.difflib") 194) (.ref 195) (none)
noncomputable def A9:Obj:={cls:=.type "code",data:=.fields #[.str (IM "get_matching_blocks") 492,.str (IM "SequenceMatcher.get_matching_blocks") 493,.str (IM "/claim/cut.py") 494,.int (335) 0,.int (1) 0,.int (0) 0,.int (0) 0,.int (3) 0,.ref 197,.bool true,.int (181) 0,.ref 198,.none,.ref 199,.ref 200,.ref 201,.int (515) 0,.int (335) 0,.str (IM "/claim/cut.py") 516]}
noncomputable def DU:Obj:=et (cF 5 7) (IM "SequenceMatcher.get_matching_blocks") (.none) (.str (IM "cpy313.difflib") 194) (.ref 202) (none)
noncomputable def A8:Obj:={cls:=.type "code",data:=.fields #[.str (IM "get_opcodes") 519,.str (IM "SequenceMatcher.get_opcodes") 520,.str (IM "/claim/cut.py") 521,.int (383) 0,.int (1) 0,.int (0) 0,.int (0) 0,.int (3) 0,.ref 204,.bool true,.int (181) 0,.ref 205,.none,.ref 206,.ref 207,.ref 208,.int (530) 0,.int (383) 0,.str (IM "/claim/cut.py") 531]}
noncomputable def DT:Obj:=et (cF 5 8) (IM "SequenceMatcher.get_opcodes") (.none) (.str (IM "cpy313.difflib") 194) (.ref 209) (none)
noncomputable def A7:Obj:={cls:=.type "type",data:=.cls {name:=IM "SequenceMatcher",bases:=[.type "object"],mro:=[.ref 242,.type "object"],ns:=241,qualname:=IM "SequenceMatcher",hasDict:=true,slotNames:=[],subclasses:=[],abstract:=false,hasDel:=false},slots:=#[none,none,IK (.str (IM "SequenceMatcher") 389),IK (.str (IM "SequenceMatcher") 397),IK (.builtin "object.__new__"),IK (.bool true)]}
noncomputable def xD:Obj:={cls:=.none,data:=.fields #[]}
noncomputable def uv:Obj:={cls:=.type "code",data:=.fields #[.str (IM "_keep_original_ws") 593,.str (IM "_keep_original_ws") 594,.str (IM "/claim/cut.py") 595,.int (488) 0,.int (2) 0,.int (0) 0,.int (0) 0,.int (3) 0,.ref 247,.bool true,.int (181) 0,.ref 248,.none,.ref 249,.ref 250,.ref 251,.int (598) 0,.int (488) 0,.str (IM "/claim/cut.py") 599]}
noncomputable def DS:Obj:=et (a7 6) (IM "_keep_original_ws") (.none) (.str (IM "cpy313.difflib") 194) (.ref 252) (none)
noncomputable def A6:Obj:={cls:=.type "tuple",data:=.seq #[.none,.none] 0}
noncomputable def A5:Obj:={cls:=.type "code",data:=.fields #[.str (IM "__init__") 617,.str (IM "Differ.__init__") 618,.str (IM "/claim/cut.py") 619,.int (577) 0,.int (3) 0,.int (0) 0,.int (0) 0,.int (3) 0,.ref 262,.bool true,.int (181) 0,.ref 263,.none,.ref 264,.ref 265,.ref 266,.int (623) 0,.int (577) 0,.str (IM "/claim/cut.py") 624]}
noncomputable def DR:Obj:=et (cF 7 1) (IM "Differ.__init__") (.ref 261) (.str (IM "cpy313.difflib") 194) (.ref 267) (none)
noncomputable def A4:Obj:={cls:=.type "code",data:=.fields #[.str (IM "_qformat") 723,.str (IM "Differ._qformat") 724,.str (IM "/claim/cut.py") 725,.int (729) 0,.int (5) 0,.int (0) 0,.int (0) 0,.int (35) 0,.ref 304,.bool true,.int (181) 0,.ref 305,.none,.ref 306,.ref 307,.ref 308,.int (731) 0,.int (729) 0,.str (IM "/claim/cut.py") 732]}
noncomputable def DQ:Obj:=et (cF 7 7) (IM "Differ._qformat") (.none) (.str (IM "cpy313.difflib") 194) (.ref 309) (none)
noncomputable def A3:Obj:={cls:=.type "type",data:=.cls {name:=IM "Differ",bases:=[.type "object"],mro:=[.ref 313,.type "object"],ns:=312,qualname:=IM "Differ",hasDict:=true,slotNames:=[],subclasses:=[],abstract:=false,hasDel:=false},slots:=#[none,none,IK (.str (IM "Differ") 602),IK (.str (IM "Differ") 610),IK (.builtin "object.__new__"),IK (.bool true)]}
noncomputable def A2:Obj:={cls:=.type "tuple",data:=.seq #[.str (IM " \t") 744] 0}
noncomputable def A1:Obj:={cls:=.type "code",data:=.fields #[.str (IM "IS_CHARACTER_JUNK") 745,.str (IM "IS_CHARACTER_JUNK") 746,.str (IM "/claim/cut.py") 747,.int (753) 0,.int (2) 0,.int (0) 0,.int (0) 0,.int (3) 0,.ref 319,.bool true,.int (181) 0,.ref 320,.none,.ref 321,.ref 322,.ref 323,.int (750) 0,.int (753) 0,.str (IM "/claim/cut.py") 751]}
noncomputable def DP:Obj:=et (a7 8) (IM "IS_CHARACTER_JUNK") (.ref 318) (.str (IM "cpy313.difflib") 194) (.ref 324) (none)
noncomputable def A0:Obj:={cls:=.type "code",data:=.fields #[.str (IM "restore") 754,.str (IM "restore") 755,.str (IM "/claim/cut.py") 756,.int (769) 0,.int (2) 0,.int (0) 0,.int (0) 0,.int (35) 0,.ref 326,.bool true,.int (181) 0,.ref 327,.none,.ref 328,.ref 329,.ref 330,.int (762) 0,.int (769) 0,.str (IM "/claim/cut.py") 763]}
noncomputable def DO:Obj:=et (a7 9) (IM "restore") (.none) (.str (IM "cpy313.difflib") 194) (.ref 331) (none)
noncomputable def AZ:Obj:={cls:=.type "code",data:=.fields #[.str (IM "_law_lines") 768,.str (IM "_law_lines") 769,.str (IM "/claim/cut.py") 770,.int (800) 0,.int (1) 0,.int (0) 0,.int (0) 0,.int (3) 0,.ref 333,.bool true,.int (181) 0,.ref 334,.none,.ref 335,.ref 336,.ref 337,.int (777) 0,.int (800) 0,.str (IM "/claim/cut.py") 778]}
noncomputable def DN:Obj:=et (a7 11) (IM "_law_lines") (.none) (.str (IM "law_dm0047_11") 766) (.ref 338) (none)
noncomputable def AY:Obj:={cls:=.type "code",data:=.fields #[.str (IM "_law_alike") 780,.str (IM "_law_alike") 781,.str (IM "/claim/cut.py") 782,.int (818) 0,.int (2) 0,.int (0) 0,.int (0) 0,.int (3) 0,.ref 340,.bool true,.int (181) 0,.ref 341,.none,.ref 342,.ref 343,.ref 344,.int (786) 0,.int (818) 0,.str (IM "/claim/cut.py") 787]}
noncomputable def DM:Obj:=et (a7 12) (IM "_law_alike") (.none) (.str (IM "law_dm0047_11") 766) (.ref 345) (none)
noncomputable def AX:Obj:={cls:=.type "code",data:=.fields #[.str (IM "_law_row") 789,.str (IM "_law_row") 790,.str (IM "/claim/cut.py") 791,.int (823) 0,.int (2) 0,.int (0) 0,.int (0) 0,.int (3) 0,.ref 347,.bool true,.int (181) 0,.ref 348,.none,.none,.none,.ref 349,.int (792) 0,.int (823) 0,.str (IM "/claim/cut.py") 793]}
noncomputable def DL:Obj:=et (a7 13) (IM "_law_row") (.none) (.str (IM "law_dm0047_11") 766) (.ref 350) (none)
noncomputable def AW:Obj:={cls:=.type "code",data:=.fields #[.str (IM "law") 795,.str (IM "law") 796,.str (IM "/claim/cut.py") 797,.int (840) 0,.int (1) 0,.int (0) 0,.int (0) 0,.int (3) 0,.ref 352,.bool true,.int (181) 0,.ref 353,.none,.none,.none,.ref 354,.int (798) 0,.int (840) 0,.str (IM "/claim/cut.py") 799]}
noncomputable def DK:Obj:=et (a7 14) (IM "law") (.none) (.str (IM "law_dm0047_11") 766) (.ref 355) (none)
noncomputable def ko:List (Addr×Obj):=[(81,DJ),(82,Gi),(88,DI),(89,Gh),(91,DH),(135,Bk),(136,Bj),(153,Bh),(159,Bg),(160,D0),(166,Bf),(167,DZ),(173,Be),(174,DY),(180,Bd),(181,DX),(187,Bc),(188,DW),(189,Bb),(195,Ba),(196,DV),(202,A9),(203,DU),(209,A8),(210,DT),(242,A7),(248,xD),(252,uv),(253,DS),(261,A6),(267,A5),(268,DR),(309,A4),(310,DQ),(313,A3),(318,A2),(324,A1),(325,DP),(331,A0),(332,DO),(338,AZ),(339,DN),(345,AY),(346,DM),(350,AX),(351,DL),(355,AW),(356,DK)]
noncomputable def kn:List (Addr×Str×Option Value):=[(3,IM "law",IK (.ref 356)),(3,IM "SequenceMatcher",IK (.ref 242)),(3,IM "Match",IK (.ref 135)),(3,IM "Differ",IK (.ref 313)),(3,IM "_keep_original_ws",IK (.ref 253)),(3,IM "IS_CHARACTER_JUNK",IK (.ref 325)),(3,IM "restore",IK (.ref 332)),(3,IM "_law_lines",IK (.ref 339)),(3,IM "_law_alike",IK (.ref 346)),(3,IM "_law_row",IK (.ref 351)),(3,IM "enumerate",none),(3,IM "len",none),(3,IM "range",none),(3,IM "set",none),(3,IM "list",none),(3,IM "map",none),(3,IM "zip",none),(3,IM "int",none),(3,IM "tuple",none),(3,IM "KeyError",none),(3,IM "ValueError",none),(241,IM "__init__",IK (.ref 160)),(241,IM "set_seqs",IK (.ref 167)),(241,IM "set_seq1",IK (.ref 174)),(241,IM "set_seq2",IK (.ref 181)),(241,IM "_SequenceMatcher__chain_b",IK (.ref 188)),(241,IM "find_longest_match",IK (.ref 196)),(241,IM "get_matching_blocks",IK (.ref 203)),(241,IM "get_opcodes",IK (.ref 210)),(241,IM "__getattribute__",none),(241,IM "__getattr__",none),(241,IM "__setattr__",none),(241,IM "isjunk",none),(241,IM "a",none),(241,IM "b",none),(241,IM "b2j",none),(241,IM "bjunk",none),(241,IM "bpopular",none),(241,IM "autojunk",none),(241,IM "matching_blocks",none),(241,IM "opcodes",none),(241,IM "fullbcount",none),(312,IM "__init__",IK (.ref 268)),(312,IM "_qformat",IK (.ref 310)),(312,IM "__getattribute__",none),(312,IM "__getattr__",none),(312,IM "__setattr__",none),(312,IM "linejunk",none),(312,IM "charjunk",none),(134,IM "__new__",IK (.ref 136)),(134,IM "__init__",none),(134,IM "_make",IK (.ref 91)),(134,IM "__len__",none),(134,IM "__lt__",none),(134,IM "__eq__",none),(134,IM "__iter__",none),(134,IM "__bool__",none),(134,IM "__getattribute__",none),(134,IM "__getattr__",none),(134,IM "__del__",none),(134,IM "__hash__",none),(134,IM "__get__",none),(134,IM "__index__",none),(134,IM "__setattr__",none),(Kb,IM "identity.tokens-whose-sharing-is-not-told",none),(Kb,IM "thirdparty.any",none)]
noncomputable def qW(o:Obj):Obj:=match o with
 |⟨c,d,.func f,s⟩=>⟨c,d,.func {f with doc:=.none},s⟩
 |o=>o
noncomputable def Yf(s:IY):Bool×List (Option Obj)×List (Bool×Option Value):=(decide (798<=s.toks),ko.map λx=>(s.heap.get? x.1).map qW,kn.map λx=>(s.heap.isNs x.1,Nz s.heap x.1 x.2.1))
noncomputable def Ya(_:K8):Bool×List (Option Obj)×List (Bool×Option Value):=(true,ko.map λx=>IK x.2,kn.map λx=>(true,x.2.2))
theorem left:LeftO pw qv loose (λZ=>true) Yf Ya 6000:=zN xy (λw=>by kernel_rfl)
end
section
open PySem PySem.W PySem.Calls PyProof.Rows
noncomputable abbrev EU(K:Nat)(q:Program)(loose:List Str)(XP:(Str->Option Value)->Heap->Prop)(YP:K8->Heap->Prop)(r:RowW)(d:DefRec)(g:List (Str×Expr)):Prop :=
 ∀(w:K8) (s₀ s₁:IY) (h p:Str->Option Value),RP q loose r.records XP w s₀ h p s₁.heap->YP w s₁.heap->K<=s₁.toks->∀(a:Addr) (o:Obj) (u i f j k:Value),s₁.heap.get? a=IK o ->
  o.data=.func {docDef d.name d.params d.body d.scope u i f with defaults:=j,kwdefaults:=k}->s₁.heap.CodeRec i d.name->Dflts h s₁.heap d.params g j k->h d.name=IK (.ref a)->s₁.gens=#[] ->
  ∀(c:List WData) (vals:List Value) (as:List Addr),r.claim.pre c=true->WData.layableAll c=true->ReadsAllW r.records (classAt s₀.heap) s₁.heap vals c as->WellAll w.params s₁.heap vals c->(∀a∈as,(a == QG)=false) ->
   Jd (I6 r.prog w) RE (JX (.ref a) vals) (λv s'=>GoodWG r.claim (classAt s₀.heap) (Sa s₀.heap) c s₁ (.ok (.ret v)) s')
    (λe s'=>GoodWG r.claim (classAt s₀.heap) (Sa s₀.heap) c s₁ (.error e) s') s₁
theorem vS{r:OpenRow}{q}{loose:List Str}{Xt:IY->Bool}{XP:(Str->Option Value)->Heap->Prop}{i:Type}{Yf:IY->i}{Ya:K8->i}{YP:K8->Heap->Prop}{d:DefRec}{M:List (Str×Expr)}{N K:Nat}(left:LeftO r.prog q loose Xt Yf Ya N)(hY:∀w s,Yf s=Ya w->YP w s.heap)(af:∀w h h',YP w h->(∀b o,h.get? b=IK o->h'.get? b=IK o)->YP w h')(hK:∀w s,Yf s=Ya w->K<=s.toks)(hX:∀s,Xt s=true->XP (s.heap.nsMap Ki) s.heap)(ae:∀mg h h',XP mg h->(∀b o,h.get? b=IK o->h'.get? b=IK o)->XP mg h')(C:defOf q r.name=IK (d,M))(hp:r.prog.theDef r.name=IK (d.params,d.body,d.scope))(hk:kwWritten? d.params.kwonlyargs d.params.kw_defaults=IK M)(ac:∀s,Xt s=true->RecFacts r.records s.heap)(aa:(!r.writes || r.records.isEmpty)=true)(k1:r.wellSaid=true)(ok:(chainsOk q&&opensWell r.prog&&(frees r.toRowW&&r.within.isEmpty))=true)(hb:r.prog.bare)(hw:r.toRowW.promised)(call:EU K q loose XP YP r.toRowW d M):r.Holds:=by
 refine⟨k1,hw,?_⟩;refine IJ λzz=>?_;obtain⟨ok,k5⟩:=Bool.and_eq_true_iff.mp ok;obtain⟨R,o1⟩:=Bool.and_eq_true_iff.mp ok;obtain⟨k5,k6⟩:=Bool.and_eq_true_iff.mp k5;obtain⟨E,hu,ha,ag,hm⟩:=frees_parts k5;refine zz ?_;refine⟨⟨hb,o1,by show r.makers.map _=[];refine(hm).symm▸?_;rfl⟩,hw.witness,λw=>⟨(left.behind hX R w).1,λs' ak=>?_⟩⟩;refine IJ λzz=>?_;obtain⟨s₀,hf,ah,s,hT,hz,u,hg,j,y⟩:=(left.behind (XP:=λmg h=>XP mg h/\RecFacts r.records h) (λs hs=>⟨hX s hs,ac s hs⟩) R w).2 s' ak;refine zz ?_;have G0:RP q loose [] XP w s (s.heap.nsMap Ki) (s.heap.nsMap Lk) s.heap:=⟨j.T,j.B,j.D,j.TE,j.TD,j.W,j.X.1,j.cls,j.has,j.apart,j.once,j.K⟩
 have RF:=j.X.2;refine⟨s₀,hf,ah,s,hT,λn hn=>?_,RF.1,RF.2.1,?_⟩
 ·obtain rfl:n=r.name:=by split at hn <;> simp_all
  exact pinned_of_view hg G0 C hp hk
 have u:s.gens=#[]:=O5 (beq_iff_eq.mp u);have G:RP q loose r.records XP w s _ _ s.heap:=RF.ground G0;refine ClaimW.callFrom_of_specG (c:=r.toRowW.claim) (tree:=λvs=>do match <-nsGet mainNs r.name with
   |some f=>do ret (<-JX f vs)
   |none=>Qg "claim.caller:no-such-global") hz u λA J F ord H=>?_
 refine IJ λzz=>?_;obtain⟨⟨vs,s₁⟩,k⟩:=Option.isSome_iff_exists.mp (layAllW_isSome (P:=w.params) (ord:=ord) G.has A r.args s (pre_splitW J).1);have p:=layAllW_keeps _ _ _ k;have Q:=layAllW_rest _ _ _ k;obtain⟨as,aj,ai,S⟩:=reads_layAllW H _ _ _ k F s₁.heap (λZ Y e=>e);have L:Laid r.records w s s₁ A vs as:=⟨⟨ord,H,k⟩,aj,ai,S,p,Q.1.trans u,Q.2.2.1⟩
 have x:=G.keeps ae p;obtain⟨a,o,pm,cd,ab,dV,kV,h1,h2,h3,h4,h5⟩:=x.fn C;refine zz ?_;have hi:=ident_freeW hu ha ag;have U:r.toRowW.claim.within=[]:=List.isEmpty_iff.mp k6;refine⟨vs,s₁,k,II (wpAny_nsGet x.T.g ?_)⟩;refine(show(s.heap.nsMap Ki) r.name=IK (.ref a) from h1).symm▸?_;refine II (I5 (call w s s₁ _ _ x (af _ _ _ (hY w s y) p) (IT (hK w s y) (layAllW_grows _ _ _ k).toks) a o pm cd ab dV kV h2 h3 h4 h5 (defOf_name C▸h1) L.gens A vs as J F L.reads L.well (L.low G.low)) (λv s' g=>IP ⟨_,rfl,have z:=g.laid (c:=r.toRowW.claim) E U hi L;⟨z.1,z.2.1,z.2.2,λq=>⟨namesKept_of hT hg r.keeps p g.2.1.old,noTable aa q⟩⟩⟩) λe s' g=>have z:=g.laid (c:=r.toRowW.claim) E U hi L;⟨z.1,z.2.1,z.2.2,λq=>⟨namesKept_of hT hg r.keeps p g.2.1.old,noTable aa q⟩⟩)
end
noncomputable def YP(_:K8)(h:Heap):Prop:=(∀x∈ko,∃o,h.get? x.1=IK o/\qW o=x.2)/\∀x∈kn,∃m,h.Ns x.1 m/\m x.2.1=x.2.2
mutual
theorem ET(w:K8)(s:IY)(e:Yf s=Ya w):YP w s.heap:=by
 unfold Yf Ya at e;rw[<-ND] at e;obtain⟨_,e⟩:=Lg e;obtain⟨c,d⟩:=Lg e;have j:=List.map_inj_left.mp c;have k:=List.map_inj_left.mp d;refine⟨λx a=>?_,λx a=>?_⟩
 ·obtain⟨o,g,f⟩:=Ln.mp (j x a);exact⟨o,g,f⟩
 ·obtain⟨h,i⟩:=Lg (k x a);exact⟨_,.of_isNs h,i⟩
theorem zm(w:K8)(s:IY)(e:Yf s=Ya w):798<=s.toks:=by
 unfold Yf Ya at e;exact of_decide_eq_true (Lg e).1
theorem y0(w:K8)(h h':Heap)(y:YP w h)(c:∀b o,h.get? b=IK o->h'.get? b=IK o):YP w h' :=
 ⟨λx a=>let ⟨o,f,e⟩:=y.1 x a;⟨o,c _ _ f,e⟩,λx a=>let ⟨m,d,g⟩:=y.2 x a;⟨m,d.keeps c,g⟩⟩
end
noncomputable def ro:DefRec:=match a7 14 with
 |.FunctionDef name a c Z Y X scope V U pos=>⟨name,a,c,scope,pos⟩
 |_=>⟨IM "",⟨[],[],none,[],[],none,[]⟩,[],default,⟨0,0,0,0⟩⟩
mutual
theorem zS:defOf qv (IM "law")=IK (ro,[]):=by kernel_rfl
theorem zP:pw.theDef (IM "law")=IK (ro.params,ro.body,ro.scope):=by rw[xy];kernel_rfl
theorem Cz:kwWritten? ro.params.kwonlyargs ro.params.kw_defaults=IK []:=by kernel_rfl
end
noncomputable def Good(s₁:IY)(v:Value)(s':IY):Prop:=v=.bool true/\OldK s₁.heap s'.heap/\s'.os=s₁.os/\RS s'.gens
noncomputable def Walk:Prop:=∀(w:K8) (s₀ s₁:IY) (c a:Str->Option Value),RP qv loose [] (λZ Y=>True) w s₀ c a s₁.heap->YP w s₁.heap->798<=s₁.toks->s₁.gens=#[] ->
 ∀(l:Addr) (vs:List Value) (ns:List Int),s₁.heap.get? l=IK {cls:=.type "list",data:=.seq vs.toArray}->IntsAre vs ns->ns.length<=63 ->
  Jd (I6 pw w) RE (JX (.ref 356) [.ref l]) (Good s₁) (λZ Y=>False) s₁
mutual
theorem Dy:Ra Tn=true:=by
 have h:∀p,p=pT->Ra {prog:=p,name:=(IM "law"),about:=[(IM "Differ"),(IM "_qformat")],foot:=4,most:=IK 63,bound:=none,writes:=false}=true:=λp e=>by
  subst e;kernel_rfl
 exact h _ xy
theorem sU{w:K8}{h l}{vs:List Value}{xs}(f:h.IsList l vs.toArray)(e:Well w.params h (.ref l) (ofPy (.list xs))):h.get? l=IK {cls:=.type "list",data:=.seq vs.toArray}:=by
 have e:Well w.params h (.ref l) (.list (ofPys xs)):=e;cases e with
 |list a Z =>
  obtain⟨o,c,_,n,d⟩:=f;rw[a] at c;cases c;cases d;exact a
end
set_option tactic.hygienic true in
theorem hd(walk:Walk):Tn.Holds:=by
 w_on
 refine holds_law Dy λDy=>?_;refine vS (K:=798) (q:=qv) (loose:=loose) (Xt:=λZ=>true) (XP:=λZ X=>True) (Yf:=Yf) (Ya:=Ya) (YP:=YP) (N:=6000) left ET y0 zm (λZ X=>trivial) (λZ X V U S=>trivial) zS zP Cz (λs Z=>recFacts_of rfl) rfl (by assumption) (by decide +kernel) ⟨rfl,rfl,rfl,rfl,rfl,by decide +kernel⟩ ?hw ?hc
 case hw=>w_witness2
 case hc =>
  intro w s₀ s₁ Q P G Y H a o pm R u dV kV ho hd E hD i F p vals as d c j k f
  wrow_args d c j k f
  rename_i ns _ _ _ _ _ _ _ l vs _ C _ hw _ B _ r _
  have D:a=356:=by
   obtain⟨m,J,M⟩:=Y.2 (3,IM "law",IK (.ref 356)) (by decide);have e:=J.agree G.T.g ro.name;have x:m ro.name=IK (.ref 356):=M;rw[x,i] at e;cases e
   rfl
  subst D;refine I5 (walk w s₀ s₁ Q P G Y H F l vs ns (sU C hw) B (by omega)) (λv s' g=>?_) (λZ X g=>g.elim);obtain⟨rfl,y,z,A⟩:=g;exact⟨.inl ⟨_,.bool true,[],rfl,λZ=>rfl,.bool _,by wrow_post,λZ=>⟨.nil,λZ h=>nomatch h⟩⟩,y,z,A⟩
structure Wd where
 w:K8
 prog:Program
 h₁:Heap
 os₁:OsState
 mg:Str->Option Value
 mb:Str->Option Value
 t₁:Nat
 tb:Heap->Prop
 tbk:∀h h',tb h->(∀b o,b<h₁.objs.size->h.get? b=IK o->h'.get? b=IK o)->tb h'
structure lD(n:Nat)(c P:Addr)(h:Heap):Prop where
 lc:c<n
 lp:P<n
 at_:∃ps,h.TableAt c P ps/\h.IsCode c P ps
mutual
theorem sy{c P ps}{h h':Heap}(t:h.TableAt c P ps)(a:∀o,h.get? c=IK o->h'.get? c=IK o)(kp:∀o,h.get? P=IK o->h'.get? P=IK o):h'.TableAt c P ps :=
 ⟨t.1.imp λo x=>x.imp λvs y=>⟨a _ y.1,y.2⟩,kp _ t.2⟩
theorem rz{c P ps}{h h':Heap}(t:h.IsCode c P ps)(a:∀o,h.get? c=IK o->h'.get? c=IK o)(kp:∀o,h.get? P=IK o->h'.get? P=IK o):h'.IsCode c P ps :=
 t.imp λZ x=>x.imp λZ x=>x.imp λZ x=>x.imp λZ x=>x.imp λZ x=>x.imp λZ x=>x.imp λZ x=>x.imp λZ x=>x.imp λZ x=>x.imp λZ x =>
  ⟨a _ x.1,x.2.1,x.2.2.1,x.2.2.2.1,x.2.2.2.2.1,x.2.2.2.2.2.1,x.2.2.2.2.2.2.1,kp _ x.2.2.2.2.2.2.2.1,x.2.2.2.2.2.2.2.2⟩
end
theorem lD.keep{n c P h h'}(t:lD n c P h)(k:∀b o,b<n->h.get? b=IK o->h'.get? b=IK o):lD n c P h' :=
 ⟨t.lc,t.lp,t.at_.imp λZ x=>⟨sy x.1 (λo=>k _ o t.lc) λo=>k _ o t.lp,rz x.2 (λo=>k _ o t.lc) λo=>k _ o t.lp⟩⟩
noncomputable def GV(w:K8)(s₁:IY)(c a:Str->Option Value):Wd:=⟨w,pw,s₁.heap,s₁.os,c,a,798,lD s₁.heap.objs.size 252 248,λZ Y t k=>t.keep k⟩
inductive FI(W:Wd):Prop
 |mk (w:K8) (s₀ s₁:IY) (mg mb:Str->Option Value) (G:RP qv loose [] (λ_ _=>True) w s₀ mg mb s₁.heap) (Y:YP w s₁.heap) (hk:798<=s₁.toks) (hg:s₁.gens=#[])
  (l:Addr) (vs:List Value) (ns:List Int) (hL:s₁.heap.get? l=IK {cls:=.type "list",data:=.seq vs.toArray}) (hI:IntsAre vs ns) (hn:ns.length<=63)
  (no:¬Jd (I6 pw w) RE (JX (.ref 356) [.ref l]) (Good s₁) (λ_ _=>False) s₁) (e:W=GV w s₁ mg mb)
noncomputable def W:Wd:=@Classical.epsilon Wd ⟨⟨⟨λZ Y=>0,{strHash:=λZ=>0,shareClass:=λZ=>0,mergeTok:=λt=>t,idOf:=λZ=>0,idOfShared:=λZ Y=>0,followText:=λZ=>false,idOfImm:=λZ=>0}⟩,pw,{},{},λZ=>none,λZ=>none,0,λZ=>True,λZ Y X V=>trivial⟩⟩ FI
mutual
theorem B6{W'}(h:FI W'):FI W:=@Classical.epsilon_spec Wd FI ⟨W',h⟩
theorem wpAny_toks{α}{M:UY}{A:Around}{t:Qx α}{Q:α->IY->Prop}{E:Value->IY->Prop}{s:IY}(h:Jd M A t (λa s'=>s.toks<=s'.toks->Q a s') (λe s'=>s.toks<=s'.toks->E e s') s):Jd M A t Q E s:=wpAny_with_toks (IQ _) h
end
theorem iq{α}{M:UY}{A:Around}{t:Qx α}{Q:α->IY->Prop}{E:Value->IY->Prop}{s:IY}(h:Jd M A t (λa s'=>s.toks<=s'.toks->Q a s') E s):Jd M A t Q E s :=
 wpAny_toks (I5 h (λZ Y q=>q) λZ Y e X=>e)
structure Inv(s:IY):Prop where
 old:OldK W.h₁ s.heap
 stat:∀o,W.h₁.get? Kb=IK o->s.heap.get? Kb=IK o
 os:s.os=W.os₁
 bare:RS s.gens
 size:W.h₁.objs.size<=s.heap.objs.size
 tk:W.t₁<=s.toks
 tb:W.tb s.heap
noncomputable def dp(o:Obj):Prop:=o.cls≠.none∨(∃es ep,o.data=.dict es ep)∨∃v,o.data=.cell v
mutual
theorem b9{o T}(h:o.cls=.type T):dp o:=.inl (by refine(h).symm▸?_;intro q;cases q)
theorem fC{h:Heap}{a m}(e:h.Ns a m){o}(f:h.get? a=IK o):dp o:=by
 obtain⟨o',es,ep,c,d,_⟩:=e;have c:=f▸c;cases c;exact .inr (.inl ⟨es,ep,d⟩)
end
structure cB:Prop where
 g:W.h₁.Ns Ki W.mg
 b:W.h₁.Ns Lk W.mb
 nolimit:W.h₁.NoLimit
 bmod:∃bm ob,W.mg "__builtins__"=IK (.ref bm)/\bm≠Lk/\W.h₁.get? bm=IK ob/\ob.cls=.type "module"/\ob.dict=IK Lk/\ob.data=.plain
theorem jP{h₀ h a m}(K:OldK h₀ h)(f:h₀.Ns a m)(j:a≠Kb):h.Ns a m:=f.at λo g=>by
 refine IJ λk=>?_;obtain⟨o',es,ep,c,i,_⟩:=f;refine k ?_;have c:=g▸c;cases c;rcases K.old a o g with x | ⟨_,_,vs,more,d,_⟩ | ⟨e,_⟩
 ·exact x
 ·have d:=i▸d;cases d
 ·exact absurd e j
mutual
theorem Inv.glob{s}(T:cB)(i:Inv s):s.heap.Ns Ki W.mg:=jP i.old T.g (by decide)
theorem Inv.blt{s}(T:cB)(i:Inv s):s.heap.Ns Lk W.mb:=jP i.old T.b (by decide)
end
theorem Inv.nolimit{s}(T:cB)(i:Inv s):s.heap.NoLimit:=by
 obtain⟨a,h,e⟩:=T.nolimit;exact⟨a,h.at i.stat,e⟩
theorem Inv.toks{s}(i:Inv s)(k:Nat)(a:s.toks<=k):Inv {s with toks:=k}:=⟨i.old,i.stat,i.os,i.bare,i.size,IT i.tk a,i.tb⟩
noncomputable def norm:Value->Value
 |.int i Z=>.int i 0
 |.float b Z=>.float b 0
 |.str s Z=>.str s 0
 |.bytes b Z=>.bytes b 0
 |v=>v
inductive Kd where
 |tup
 |lst
 |cls (C:Addr)
noncomputable def Kd.cl:Kd->Value
 |.tup=>.type "tuple"
 |.lst=>.type "list"
 |.cls C=>.ref C
noncomputable def Kd.wD:Kd->Nat->Nat
 |.lst,Z=>0
 |Z,n=>n
noncomputable def Kd.obj(k:Kd)(items:Array Value)(n:Nat):Obj:=match k with
 |.cls C=>{cls:=.ref C,dict:=IK n,data:=.seq items}
 |k=>{cls:=k.cl,data:=.seq items n}
theorem Kd.solid(k:Kd)(items:Array Value)(n:Nat):dp (k.obj items n):=.inl (by cases k <;> exact λq=>Jo q)
inductive Bi where
 |len | sum | max | range | enumerate | int | list | set | zip | map | tuple
 |min (u:Unit)
noncomputable def Bi.ctorIdx(o:Bi):Nat:=Bi.casesOn (motive:=λZ=>Nat) o 0 1 2 3 4 5 6 7 8 9 10 (λZ=>11)
noncomputable def Bi.val:Bi->Value
 |.len=>.builtin "len"
 |.sum=>.builtin "sum"
 |.max=>.builtin "max"
 |.min Z=>.builtin "min"
 |.range=>.type "range"
 |.enumerate=>.type "enumerate"
 |.int=>.type "int"
 |.list=>.type "list"
 |.set=>.type "set"
 |.zip=>.type "zip"
 |.map=>.type "map"
 |.tuple=>.type "tuple"
inductive Bm where
 |dget | shas | keys | items
 |dhas (u:Unit)
noncomputable def Bm.ctorIdx(o:Bm):Nat:=Bm.casesOn (motive:=λZ=>Nat) o 0 1 2 3 (λZ=>4)
noncomputable def Bm.id:Bm->String
 |.dget=>"dict.get"
 |.dhas Z=>"dict.__contains__"
 |.shas=>"set.__contains__"
 |.keys=>"dict_keys"
 |.items=>"dict_items"
noncomputable def Bm.fn:Bm->Bool
 |.keys=>false
 |.items=>false
 |_=>true
inductive V where
 |v (w:Value)
 |i (x:Int)
 |f (x:UInt64)
 |s (x:Str) (t:Nat)
 |c (k:Kd) (vs:List V)
 |r (h:Nat)
 |o (o:Obj)
 |bm (b:Bm) (h:Nat)
 |g (b:Bi)
 |rg (a b:Int)
noncomputable abbrev V.n:V:=.v .none
noncomputable abbrev V.b(x:Bool):V:=.v (.bool x)
noncomputable abbrev V.t(vs:List V):V:=.c .tup vs
noncomputable abbrev V.l(vs:List V):V:=.c .lst vs
inductive O where
 |list (vs:List V)
 |dict (kvs:List (Str×V))
 |dicti (kvs:List (Int×V))
 |set (l:List Str)
 |inst (C:Addr) (d:Nat)
 |ns (m:List (Str×V))
 |frm (m:List (Str×V))
 |gen (g:Nat) (c:Addr->Code) (L:Nat)
 |cell (v:Option V)
 |dictx (o:Obj) (kvs:List (Str×V))
 |fix (o:Obj)
 |gone
noncomputable def O.ctorIdx(o:O):Nat:=O.casesOn (motive:=λZ=>Nat) o (λZ=>0) (λZ=>1) (λZ=>2) (λZ=>3) (λZ Y=>4) (λZ=>5) (λZ=>6) (λZ Y X=>7) (λZ=>8) (λZ Y=>9) (λZ=>10) 11
noncomputable abbrev St:=List O
noncomputable def mF(a b:Int)(t u v:PY):Obj:={cls:=.type "range",data:=.fields #[.int a t,.int b u,.int 1 v]}
noncomputable def gg(id:String)(a:Addr):Obj:={cls:=.type "builtin_function_or_method",data:=.fields #[.builtin id,.ref a]}
noncomputable def jJ(T:String)(a:Addr):Obj:={cls:=.type T,data:=.fields #[.ref a]}
noncomputable def Bm.obj(b:Bm)(a:Addr):Obj:=match b.fn with
 |true=>gg b.id a
 |false=>jJ b.id a
theorem Bm.solid(b:Bm)(a:Addr):dp (b.obj a):=by cases b <;> exact b9 rfl
structure Sg where
 a:Nat->Addr
 z:Addr->Prop
mutual
theorem nn{a:Type}{x}{P:Prop}(h:(none:Option a)=IK x):P:=by cases h
theorem ft{P:Prop}(h:false=true):P:=IW h
theorem eX{a:Type}{P:a->Prop}{b x y}(h:b=true->P x)(l:P y):P (cond b x y):=by
 cases b with
 |true=>exact h rfl
 |false=>exact l
theorem de{b}{X Y E:Prop}(h:cond b X Y)(k:b=true->X->E)(l:Y->E):E:=by
 cases b with
 |true=>exact k rfl h
 |false=>exact l h
end
inductive IE(z:Addr->Prop)(h:Heap)(k:Kd)(P:List Value->Prop)(w:Value):Prop
 |mk (a:Addr) (items:Array Value) (m:Nat) (e:w=.ref a) (hz:z a) (ho:h.get? a=IK (k.obj items m)) (hs:items.size<=sizeLine) (hv:P items.toList)
inductive HW(z:Addr->Prop)(h:Heap)(o:Obj)(P:Prop)(w:Value):Prop
 |mk (a:Addr) (e:w=.ref a) (hz:z a) (ho:h.get? a=IK o) (hp:P)
inductive G6(z:Addr->Prop)(h:Heap)(x y:Int)(w:Value):Prop
 |mk (a:Addr) (t u v:PY) (e:w=.ref a) (hz:z a) (ho:h.get? a=IK (mF x y t u v))
inductive Ft(P:Value->Prop)(R:List Value->Prop)(ws:List Value):Prop
 |mk (w:Value) (ws':List Value) (e:ws=w::ws') (h:P w) (t:R ws')
inductive G5(x:Str)(P:PY->Prop)(w:Value):Prop
 |mk (u:PY) (e:w=.str x u) (h:P u)
mutual
noncomputable def RV(σ:Sg)(n:Nat)(s:IY):V->Value->Prop
 |.v u,w=>w=u
 |.i x,w=>∃t,w=.int x t
 |.f x,w=>∃t,w=.float x t
 |.s x t,w=>G5 x (λu=>t≠0->u=t/\t<s.toks) w
 |.c k vs,w=>IE σ.z s.heap k (cW σ (k.wD n) s vs) w
 |.r h,w=>h<n/\w=.ref (σ.a h)
 |.o o,w=>HW σ.z s.heap o (dp o) w
 |.bm b h,w=>HW σ.z s.heap (b.obj (σ.a h)) (h<n) w
 |.g b,w=>w=b.val
 |.rg x y,w=>G6 σ.z s.heap x y w
noncomputable def cW(σ:Sg)(n:Nat)(s:IY):List V->List Value->Prop
 |[],ws=>ws=[]
 |v::vs,ws=>Ft (RV σ n s v) (cW σ n s vs) ws
end /-m-/
structure Ext(X:Addr->Prop)(σ:Sg)(n:Nat)(s:IY)(σ':Sg)(n':Nat)(s':IY):Prop where
 len:n<=n'
 ext:∀h,h<n->σ'.a h=σ.a h
 new:∀h,n<=h->h<n'->s.heap.objs.size<=σ'.a h
 z:∀b,σ.z b->σ'.z b
 znew:∀b,σ'.z b->σ.z b∨s.heap.objs.size<=b
 keep:∀b o,s.heap.get? b=IK o->dp o->(∀h,h<n->σ.a h≠b)->¬X b->s'.heap.get? b=IK o
 grow:s.heap.objs.size<=s'.heap.objs.size
 tgrow:s.toks<=s'.toks
noncomputable def dY(_:Addr):Prop:=False
section
variable {X:Addr->Prop}{σ:Sg}{σ':Sg}{D:Sg}{n:Nat}{n':Nat}{H:Nat}{s:IY}{s':IY}{s'':IY}
theorem Ext.refl:Ext X σ n s σ n s:=⟨IQ _,λZ Y=>rfl,λZ h h'=>absurd h' (Nat.not_lt.mpr h),λZ h=>h,λZ=>.inl,λZ Y h V U T=>h,IQ _,IQ _⟩
mutual
theorem Ext.off(x:Ext X σ n s σ' n' s'){a:Addr}(c:a<s.heap.objs.size)(h:∀k,k<n->σ.a k≠a):∀k,k<n'->σ'.a k≠a:=λk d e =>
 (KZ k n).elim (λq=>h k q ((x.ext k q).symm.trans e)) λq=>I2 _ (IU c (e▸x.new k q d))
theorem Ext.zoff(x:Ext X σ n s σ' n' s'){a:Addr}(c:a<s.heap.objs.size)(h:¬σ.z a):¬σ'.z a:=λq=>(x.znew a q).elim h λz=>I2 _ (IU c z)
end
theorem Ext.trans(x:Ext X σ n s σ' n' s')(y:Ext X σ' n' s' D H s''):Ext X σ n s D H s'' :=
 ⟨IT x.len y.len,λh q=>(y.ext h (IU q x.len)).trans (x.ext h q),
  λh q e=>(KZ h n').elim (λz=>y.ext h z▸x.new h q z) (λz=>IT x.grow (y.new h z e)),
  λb h=>y.z b (x.z b h),λb h=>(y.znew b h).elim (x.znew b) λq=>.inr (IT x.grow q),
  λb o h d c a=>y.keep b o (x.keep b o h d c a) d (x.off (Ja h) c) a,IT x.grow y.grow,IT x.tgrow y.tgrow⟩
theorem Ext.wk{Y}(x:Ext X σ n s σ' n' s')(h:∀b,X b->Y b):Ext Y σ n s σ' n' s' :=
 ⟨x.len,x.ext,x.new,x.z,x.znew,λb o c e d a=>x.keep b o c e d λq=>a (h b q),x.grow,x.tgrow⟩
noncomputable def Apart(X:Addr->Prop)(σ:Sg)(n:Nat):Prop:=∀b,σ.z b->¬X b/\∀h,h<n->σ.a h≠b
theorem cW.ou{k k' vs}(h:∀v∈vs,∀w,RV σ k s v w->RV σ' k' s' v w):∀ws,cW σ k s vs ws->cW σ' k' s' vs ws:=by
 induction vs with
 |nil=>exact λZ q=>q
 |cons v vs f=>exact λws q=>q.casesOn λw c e a b=>⟨w,c,e,h v (Je ..) w a,f (λu d=>h u (Jm _ d)) c b⟩
structure Kp(X:Addr->Prop)(σ:Sg)(n:Nat)(s:IY)(σ':Sg)(s':IY):Prop where
 z:∀b,σ.z b->σ'.z b
 keep:∀b o,s.heap.get? b=IK o->dp o->(∀h,h<n->σ.a h≠b)->¬X b->s'.heap.get? b=IK o
 tgrow:s.toks<=s'.toks
theorem Ext.kp(x:Ext X σ n s σ' n' s'):Kp X σ n s σ' s':=⟨x.z,x.keep,x.tgrow⟩
noncomputable def gF(σ:Sg)(k:Nat)(σ':Sg)(c:Nat):Prop:=∀h,h<k->h<c/\σ'.a h=σ.a h
theorem gF.wD{k k'}(q:gF σ k σ' k')(d:Kd):gF σ (d.wD k) σ' (d.wD k'):=by
 cases d with
 |lst=>exact λh q=>absurd q (I4 _)
 |_=>exact q
theorem RV.c0(x:Kp X σ n s σ' s')(p:Apart X σ n)(v:V):∀k c,gF σ k σ' c->∀w:Value,RV σ k s v w->RV σ' c s' v w :=
 V.rec (motive_1:=λv=>∀k c,gF σ k σ' c->∀w,RV σ k s v w->RV σ' c s' v w) (motive_2:=λvs=>∀v∈vs,∀k c,gF σ k σ' c->∀w,RV σ k s v w->RV σ' c s' v w)
  (λZ Y U T S=>id) (λZ Y U T S=>id) (λZ Y U T S=>id) (λZ Y U T S R h=>h.casesOn λu e h=>⟨u,e,λq=>⟨(h q).1,IU (h q).2 x.tgrow⟩⟩)
  (λd vs A k c q Z h=>h.casesOn λa items m e hz f y g=>⟨a,items,m,e,x.z a hz,x.keep a _ f (d.solid _ _) (p a hz).2 (p a hz).1,y,cW.ou (λv g=>A v g _ _ (q.wD d)) _ g⟩)
  (λk Z Y q U h=>⟨(q k h.1).1,h.2.trans (congrArg Jy (q k h.1).2.symm)⟩)
  (λo Z Y U T h=>h.casesOn λa e hz f so=>⟨a,e,x.z a hz,x.keep a _ f so (p a hz).2 (p a hz).1,so⟩)
  (λb k Z Y q U h=>h.casesOn λa e hz f i=>⟨a,e,x.z a hz,by refine((q k i).2).symm▸?_;exact x.keep a _ f (b.solid _) (p a hz).2 (p a hz).1,(q k i).1⟩)
  (λZ Y U T S h=>h) (λZ Y U T S R h=>h.casesOn λa t u v e hz f=>⟨a,t,u,v,e,x.z a hz,x.keep a _ f (b9 rfl) (p a hz).2 (p a hz).1⟩)
  (λZ q=>absurd q Jf) (λu us j r v q=>(Tq.mp q).elim (λe=>by refine(e).symm▸?_;exact j) (r v)) v
theorem Ext.same(x:Ext X σ n s σ' n' s'):gF σ n σ' n':=λh q=>⟨IU q x.len,x.ext h q⟩
theorem RV.mono(x:Ext X σ n s σ' n' s')(p:Apart X σ n)(v:V):∀w:Value,RV σ n s v w->RV σ' n' s' v w:=RV.c0 x.kp p v n n' x.same
theorem RV.up(v:V)(w:Value)(h:RV σ 0 s v w):RV σ n s v w :=
 RV.c0 (X:=dY) (n:=0) ⟨λZ=>id,λZ Y h U T S=>h,IQ _⟩ (λZ Y=>⟨id,λZ q=>absurd q (I4 _)⟩) v 0 n (λZ q=>absurd q (I4 _)) w h
theorem cW.up{vs ws}(h:cW σ 0 s vs ws):cW σ n s vs ws:=cW.ou (λv Z w=>RV.up v w) ws h
theorem cW.wD{vs ws}{k:Kd}(h:cW σ (k.wD n) s vs ws):cW σ n s vs ws:=by
 cases k with
 |lst=>exact h.up
 |_=>exact h
theorem cW.mono(x:Ext X σ n s σ' n' s')(p:Apart X σ n){vs ws}(h:cW σ n s vs ws):cW σ' n' s' vs ws:=cW.ou (λv Z w=>RV.mono x p v w) ws h
theorem cW.c0(x:Kp X σ n s σ' s')(p:Apart X σ n){k k'}(q:gF σ k σ' k'){vs ws}(h:cW σ k s vs ws):cW σ' k' s' vs ws:=cW.ou (λv Z w=>RV.c0 x p v k k' q w) ws h
mutual
theorem cW.len{vs}:∀ {ws:List Value},cW σ n s vs ws->ws.length=vs.length:=by
 induction vs with
 |nil=>exact λh=>congrArg Lr h
 |cons v vs a=>exact λh=>h.casesOn λw c e Z t=>by refine(e).symm▸?_;refine(JA).symm▸?_;refine(JA).symm▸?_;exact(a t).symm▸rfl
theorem cW.app{vs us xs}(h':cW σ n s us xs):∀ {ws:List Value},cW σ n s vs ws->cW σ n s (vs++us) (ws++xs):=by
 induction vs with
 |nil=>exact λh=>by refine(show _=[] from h).symm▸?_;exact h'
 |cons v vs d=>exact λh=>h.casesOn λw c e a t=>⟨w,c++xs,by refine(e).symm▸?_;rfl,a,d t⟩
theorem cW.get{vs v}:∀ {ws:List Value} {k:Nat},cW σ n s vs ws->vs[k]?=IK v->∃w,ws[k]?=IK w/\RV σ n s v w:=by
 induction vs with
 |nil=>exact λZ q=>by simp at q
 |cons u vs d =>
  intro ws k h q;obtain⟨w,e,rfl,a,c⟩:=h;cases k with
  |zero=>exact⟨w,rfl,Jk q▸a⟩
  |succ k=>exact d (k:=k) c q
end
noncomputable def dF(w:K8):Bool:=w.params.followText "set-order"
noncomputable def cX(es:Array (Int×Value))(ep:Nat)(t:MV):Obj:={cls:=.type "set",dict:=none,data:=.set es ep t,slots:=#[]}
structure je(es:Array (Int×Value))(t:MV)(l:List Str):Prop where
 els:ElemsOf (strKind W.prog W.w) es.toList
 perm:(es.toList.map λe=>norm e.2).Perm (l.map λx=>.str x 0)
 nodup:l.Nodup
 fits:t.fits es.size=true
 led:dF W.w=true∨t.led=true
 plain:es.size=0∨t.plain=false
noncomputable def RK{K:Type}(σ:Sg)(n:Nat)(s:IY)(a:List (K×V))(ws:List (K×Value)):Prop:=ws.map (·.1)=a.map (·.1)/\cW σ n s (a.map (·.2)) (ws.map (·.2))
noncomputable def nJ(σ:Sg)(n:Nat)(s:IY)(lc:List (Str×V))(m:Str->Option Value):Prop:=∀x v,lc.lookup x=IK v->∃w,m x=IK w/\RV σ n s v w
inductive Ha(h:Heap)(a:Addr)(P:List Value->Prop):Prop
 |mk (items:Array Value) (k:Nat) (ho:h.get? a=IK (Kd.lst.obj items k)) (hs:items.size<=sizeLine) (hv:P items.toList)
inductive Az{K:Type}[DecidableEq K](knd:KeyKind W.prog W.w K)(h:Heap)(a:Addr)(P:List (K×Value)->Prop):Prop
 |mk (o:Obj) (ws:List (K×Value)) (ho:h.get? a=IK o) (hd:o.IsDictOf knd ws) (hr:P ws)
inductive G8(h:Heap)(a:Addr)(l:List Str):Prop
 |mk (es:Array (Int×Value)) (ep:Nat) (t:MV) (ho:h.get? a=IK (cX es ep t)) (hd:je es t l)
inductive Hb(h:Heap)(a C d:Addr)(P:Prop):Prop
 |mk (o:Obj) (ho:h.get? a=IK o) (hc:o.cls=.ref C) (hd:o.dict=IK d) (hp:P) (hn:∀c,o.data≠.cls c)
inductive G9(h:Heap)(a:Addr)(m:List (Str×V))(P:(Str->Option Value)->Prop):Prop
 |mk (f:Str->Option Value) (hn:h.Ns1 a f) (hk:P f) (hz:∀x,m.lookup x=none->f x=none)
inductive He(h:Heap)(a:Addr)(P:(Str->Option Value)->Prop):Prop
 |mk (f:Str->Option Value) (hn:h.Ns a f) (hk:P f)
inductive Hc(h:Heap)(a:Addr)(g:Nat)(P R:Prop):Prop
 |mk (hg:h.IsGen a g) (hp:P) (hr:R)
inductive Hf(h:Heap)(a:Addr)(v:Option V)(P:V->Value->Prop):Prop
 |mk (w:Option Value) (hc:h.IsCell a w) (hv:∀u,v=IK u->∃y,w=IK y/\P u y)
inductive G7{K:Type}[DecidableEq K](knd:KeyKind W.prog W.w K)(h:Heap)(a:Addr)(o:Obj)(P:List (K×Value)->Prop):Prop
 |mk (ho:h.get? a=IK o) (ws:List (K×Value)) (hd:o.IsDictOf knd ws) (hr:P ws)
inductive Fj(h:Heap)(a:Addr):Prop
 |mk (o:Obj) (ho:h.get? a=IK o) (hs:dp o)
noncomputable def RO(σ:Sg)(n:Nat)(s:IY)(a:Addr):O->Prop
 |.list vs=>Ha s.heap a (cW σ n s vs)
 |.dict e=>Az (strKind W.prog W.w) s.heap a (RK σ n s e)
 |.dicti e=>Az (TM W.prog W.w) s.heap a (RK σ n s e)
 |.set l=>G8 s.heap a l
 |.inst C d=>Hb s.heap a C (σ.a d) (d<n)
 |.ns m=>G9 s.heap a m (nJ σ n s m)
 |.frm m=>He s.heap a (nJ σ n s m)
 |.gen g c L=>Hc s.heap a g (s.gens[g]?=IK (.fresh (c (σ.a L)))) (L<n)
 |.cell v=>Hf s.heap a v (RV σ n s)
 |.dictx o e=>G7 (strKind W.prog W.w) s.heap a o (RK σ n s e)
 |.fix o=>s.heap.get? a=IK o/\dp o
 |.gone=>Fj s.heap a
variable {a:Addr}{st:St}{B:St}{E:St}
theorem nJ.c0(x:Kp X σ n s σ' s')(p:Apart X σ n)(q:gF σ n σ' n'){lc m}(k:nJ σ n s lc m):nJ σ' n' s' lc m :=
 λy v h=>(k y v h).elim λw e=>⟨w,e.1,RV.c0 x p v _ _ q w e.2⟩
theorem RK.c0{K:Type}(x:Kp X σ n s σ' s')(p:Apart X σ n)(q:gF σ n σ' n'){a:List (K×V)}{ws:List (K×Value)}(k:RK σ n s a ws):RK σ' n' s' a ws:=⟨k.1,k.2.c0 x p q⟩
theorem RK.mono{K:Type}(x:Ext X σ n s σ' n' s')(p:Apart X σ n){a:List (K×V)}{ws:List (K×Value)}(k:RK σ n s a ws):RK σ' n' s' a ws:=k.c0 x.kp p x.same
theorem eM{o}(h:o.ExactDict):dp o:=b9 h.1
theorem RO.there{o}(h:RO σ n s a o):Fj s.heap a:=by
 cases o with
 |list vs=>obtain⟨i,k,h,_⟩:=h;exact⟨_,h,Kd.solid ..⟩
 |dict p=>obtain⟨o,ws,h,⟨_,_,e,_⟩,_⟩:=h;exact⟨_,h,eM e⟩
 |dicti p=>obtain⟨o,ws,h,⟨_,_,e,_⟩,_⟩:=h;exact⟨_,h,eM e⟩
 |set l=>obtain⟨es,ep,t,h,_⟩:=h;exact⟨_,h,b9 rfl⟩
 |inst C d=>obtain⟨o,h,hc,_⟩:=h;exact⟨_,h,.inl (by refine(hc).symm▸?_;exact λq=>Jo q)⟩
 |ns m=>obtain⟨f,h,_⟩:=h;have h':=h.ns;obtain⟨o,es,ep,j,_⟩:=h';exact⟨o,j,fC h.ns j⟩
 |frm m=>obtain⟨f,h,_⟩:=h;have h':=h;obtain⟨o,es,ep,j,_⟩:=h';exact⟨o,j,fC h j⟩
 |gen g c L=>obtain⟨⟨o,nm,r,j,hc,_⟩,_⟩:=h;exact⟨o,j,b9 hc⟩
 |cell v=>obtain⟨w,⟨o,j,hd⟩,_⟩:=h;exact⟨o,j,.inr (.inr ⟨w,hd⟩)⟩
 |dictx o p=>obtain⟨h,ws,⟨_,_,e,_⟩,_⟩:=h;exact⟨_,h,eM e⟩
 |fix o=>exact⟨o,h.1,h.2⟩
 |gone=>exact h
theorem RO.c0(x:Kp X σ n s σ' s')(p:Apart X σ n)(q:gF σ n σ' n'){o}(j:∀y,s.heap.get? a=IK y->dp y->s'.heap.get? a=IK y)(H:∀g c L,o=.gen g c L->s.gens[g]?=IK (.fresh (c (σ.a L)))->s'.gens[g]?=IK (.fresh (c (σ.a L))))(h:RO σ n s a o):RO σ' n' s' a o:=by
 cases o with
 |list vs=>obtain⟨i,k,h,hz,J⟩:=h;exact⟨i,k,j _ h (Kd.solid ..),hz,J.c0 x p q⟩
 |dict D=>obtain⟨o,ws,h,e,r⟩:=h;have A:=e;obtain⟨_,_,A,_⟩:=A;exact⟨o,ws,j _ h (eM A),e,r.c0 x p q⟩
 |dicti D=>obtain⟨o,ws,h,e,r⟩:=h;have A:=e;obtain⟨_,_,A,_⟩:=A;exact⟨o,ws,j _ h (eM A),e,r.c0 x p q⟩
 |set l=>obtain⟨es,ep,t,h,d⟩:=h;exact⟨es,ep,t,j _ h (b9 rfl),d⟩
 |inst C d=>obtain⟨o,h,hc,hd,F,M⟩:=h;exact⟨o,j _ h (.inl (by refine(hc).symm▸?_;exact λq=>Jo q)),hc,by refine(hd).symm▸?_;exact((q d F).2).symm▸rfl,(q d F).1,M⟩
 |ns m=>obtain⟨f,h,k,u⟩:=h;exact⟨f,h.at λo B=>j o B (fC h.ns B),k.c0 x p q,u⟩
 |frm m=>obtain⟨f,h,k⟩:=h;exact⟨f,h.at λo B=>j o B (fC h B),k.c0 x p q⟩
 |gen g c L=>obtain⟨⟨o,nm,P,B,hc,r⟩,G,E⟩:=h;exact⟨⟨o,nm,P,j o B (b9 hc),hc,r⟩,(q L E).2▸H g c L rfl G,(q L E).1⟩
 |cell v=>obtain⟨w,⟨o,B,hd⟩,e⟩:=h;exact⟨w,⟨o,j o B (.inr (.inr ⟨w,hd⟩)),hd⟩,λu z=>(e u z).elim λy z=>⟨y,z.1,RV.c0 x p u _ _ q y z.2⟩⟩
 |dictx o D=>obtain⟨h,ws,e,r⟩:=h;have A:=e;obtain⟨_,_,A,_⟩:=A;exact⟨j _ h (eM A),ws,e,r.c0 x p q⟩
 |fix o=>exact⟨j o h.1 h.2,h.2⟩
 |gone=>obtain⟨o,h,q⟩:=h;exact⟨o,j o h q,q⟩
theorem RO.mono(x:Ext X σ n s σ' n' s')(p:Apart X σ n){o}(e:∀y,s.heap.get? a=IK y->dp y->s'.heap.get? a=IK y)(d:∀g c L,o=.gen g c L->s.gens[g]?=IK (.fresh (c (σ.a L)))->s'.gens[g]?=IK (.fresh (c (σ.a L))))(h:RO σ n s a o):RO σ' n' s' a o:=h.c0 x.kp p x.same e d
structure Rel(σ:Sg)(st:St)(s:IY):Prop where
 at_:∀h o,st[h]?=IK o->RO σ st.length s (σ.a h) o
 above:∀h,h<st.length->W.h₁.objs.size<=σ.a h
 inj:∀h k,h<st.length->k<st.length->σ.a h=σ.a k->h=k
 zlt:∀b,σ.z b->b<s.heap.objs.size
 zoff:∀b,σ.z b->∀h,h<st.length->σ.a h≠b
theorem Rel.lt(r:Rel σ st s){h}(c:h<st.length):σ.a h<s.heap.objs.size:=by
 obtain⟨x,d,_⟩:=(r.at_ h _ (IV c)).there;exact Ja d
structure cC(X:Addr->Prop)(σ:Sg)(st:St)(s:IY)(σ':Sg)(st':St)(s':IY):Prop where
 x:Ext X σ st.length s σ' st'.length s'
 inv:Inv s'
 rel:Rel σ' st' s'
 gkeep:∀g y,s.gens[g]?=IK y->(∀(h:Nat) c L,st[h]?≠IK (O.gen g c L))->s'.gens[g]?=IK y
 gdom:∀(h:Nat) g c L,st'[h]?=IK (O.gen g c L)->(∃(h':Nat) (c':Addr->Code) (L':Nat),st[h']?=IK (O.gen g c' L'))∨s.gens.size<=g
 ggrow:s.gens.size<=s'.gens.size
noncomputable abbrev Step:=cC dY
theorem cC.refl(i:Inv s)(r:Rel σ st s):cC X σ st s σ st s :=
 ⟨.refl,i,r,λZ Y h V=>h,λh g c L q=>.inl ⟨h,c,L,q⟩,IQ _⟩
theorem cC.trans(p:cC X σ st s σ' B s')(q:cC X σ' B s' D E s''):cC X σ st s D E s'':=by
 refine⟨p.x.trans q.x,q.inv,q.rel,λg y h j=>q.gkeep g y (p.gkeep g y h j) λk c L e=>?_,λh g c L e=>?_,IT p.ggrow q.ggrow⟩
 ·exact(p.gdom k g c L e).elim (λa=>by obtain⟨i,c',f,z⟩:=a;exact j i c' f z) λz=>absurd (Array.getElem?_eq_some_iff.mp h).1 (Nat.not_lt.mpr z)
 ·exact(q.gdom h g c L e).elim (λd=>by obtain⟨i,c',f,z⟩:=d;exact p.gdom i g c' f z) λz=>.inr (IT p.ggrow z)
theorem cC.wk{Y}(p:cC X σ st s σ' B s')(h:∀b,X b->Y b):cC Y σ st s σ' B s':=⟨p.x.wk h,p.inv,p.rel,p.gkeep,p.gdom,p.ggrow⟩
theorem cC.iQ(p:Step σ st s σ' B s'):cC X σ st s σ' B s':=p.wk λZ h=>h.elim
theorem Rel.apart(r:Rel σ st s):Apart dY σ st.length:=λb h=>⟨id,r.zoff b h⟩
theorem Rel.mono(r:Rel σ st s)(x:Ext X σ st.length s σ st.length s')(p:∀b,σ.z b->¬X b)(f:∀h,h<st.length->∀y,s.heap.get? (σ.a h)=IK y->dp y->s'.heap.get? (σ.a h)=IK y)(d:s'.gens=s.gens):Rel σ st s' :=
 ⟨λh o e=>(r.at_ h o e).mono x (λb q=>⟨p b q,r.zoff b q⟩) (f h (List.getElem?_eq_some_iff.mp e).1) (λg c L Z q=>d▸q),r.above,r.inj,λb h=>IU (r.zlt b h) x.grow,r.zoff⟩
theorem cH(i:Inv s)(r:Rel σ st s){k}(d:s.toks<=k):cC X σ st s σ st {s with toks:=k} :=
 have a {X n} (d:s.toks<=k):Ext X σ n s σ n {s with toks:=k}:=⟨IQ _,λZ Y=>rfl,λZ h h'=>absurd h' (Nat.not_lt.mpr h),λZ h=>h,λZ=>.inl,λZ Y h V U T=>h,IQ _,d⟩
 ⟨a d,i.toks k d,r.mono (X:=dY) (a d) (λZ Y h=>h) (λZ Y V h U=>h) rfl,λZ Y h V=>h,λh g c L q=>.inl ⟨h,c,L,q⟩,IQ _⟩
theorem cC.toks(p:cC X σ st s σ' B s'){k}(a:s'.toks<=k):cC X σ st s σ' B {s' with toks:=k}:=p.trans (cH p.inv p.rel a)
theorem lX{h' k}(i:Inv s)(a:∀b o,s.heap.get? b=IK o->h'.get? b=IK o)(hz:s.heap.objs.size<=h'.objs.size)(c:s.toks<=k):Inv {s with heap:=h',toks:=k} :=
 ⟨i.old.step_keeps a,λo h=>a _ _ (i.stat o h),i.os,i.bare,IT i.size hz,IT i.tk c,W.tbk _ _ i.tb λb o Z e=>a b o e⟩
theorem dQ{h' k}(i:Inv s)(r:Rel σ st s)(a:∀b o,s.heap.get? b=IK o->h'.get? b=IK o)(hz:s.heap.objs.size<=h'.objs.size)(d:s.toks<=k):cC X σ st s σ st {s with heap:=h',toks:=k}:=by
 have x:∀Y,Ext Y σ st.length s σ st.length {s with heap:=h',toks:=k}:=λY=>⟨IQ _,λZ V=>rfl,λZ h h'=>absurd h' (Nat.not_lt.mpr h),λZ h=>h,λZ=>.inl,λb o h Z V U=>a b o h,hz,d⟩
 exact⟨x X,lX i a hz d,r.mono (x dY) (λZ V h=>h) (λZ V y h U=>a _ y h) rfl,λZ V h U=>h,λh g c L q=>.inl ⟨h,c,L,q⟩,IQ _⟩
theorem d6{o}(i:Inv s)(r:Rel σ st s):cC X σ st s σ st {s with heap:=s.heap.push o} :=
 dQ (k:=s.toks) i r (λb o' e=>IS _ e) (by rw[I7];exact I8 _) (IQ _)
mutual
theorem Inv.jU(T:cB):Kb<W.h₁.objs.size:=by
 obtain⟨a,h,_⟩:=T.nolimit;exact h.lt
theorem oj{h₀ h h'}(K:OldK h₀ h)(c:∀b o,b<h₀.objs.size->h.get? b=IK o->h'.get? b=IK o):OldK h₀ h':=by
 refine⟨λb o e=>?_,λb o e=>let ⟨o',a⟩:=K.there b o e;⟨o',c b o' (Ja e) a⟩⟩;have lt:=Ja e;rcases K.old b o e with x | ⟨g,hc,vs,more,f,x⟩ | ⟨rfl,hc,⟨o',es,n,a,q⟩,z⟩
 ·exact .inl (c _ _ lt x)
 ·exact .inr (.inl ⟨g,hc,vs,more,f,c _ _ lt x⟩)
 ·exact .inr (.inr ⟨rfl,hc,⟨o',es,n,c _ _ lt a,q⟩,λd=>by refine(OldK.staticOf_congr ((c _ _ lt a).trans a.symm) d).symm▸?_;exact z d⟩)
theorem mz{a h h'}(c:JW a h h'):∀b o,b≠a->h.get? b=IK o->h'.get? b=IK o:=λb Z q e=>(c.2 b q).trans e
end
theorem kJ{h' k}(T:cB)(i:Inv s)(f:∀a,X a->W.h₁.objs.size<=a)(d:∀b o,¬X b->s.heap.get? b=IK o->h'.get? b=IK o)(hz:s.heap.objs.size<=h'.objs.size)(g:s.toks<=k):Inv {s with heap:=h',toks:=k} :=
 have ne:∀b,b<W.h₁.objs.size->¬X b:=λb c e=>I2 _ (IU c (f b e))
 ⟨oj i.old λb o c=>d b o (ne b c),λo h=>d _ o (ne _ (Inv.jU T)) (i.stat o h),i.os,i.bare,IT i.size hz,IT i.tk g,W.tbk _ _ i.tb λb o c=>d b o (ne b c)⟩
theorem kT{h' k}(T:cB)(i:Inv s)(r:Rel σ st s)(B:∀a,X a->W.h₁.objs.size<=a)(off:∀a,X a->¬σ.z a/\∀h,h<st.length->σ.a h≠a)(p:∀b o,¬X b->s.heap.get? b=IK o->h'.get? b=IK o)(hz:s.heap.objs.size<=h'.objs.size)(w:s.toks<=k)(d:∀h,σ'.a h=σ.a h)(z:∀b,σ.z b->σ'.z b)(v:∀b,σ'.z b->σ.z b∨s.heap.objs.size<=b/\b<h'.objs.size):cC X σ st s σ' st {s with heap:=h',toks:=k}:=by
 have x:Ext X σ st.length s σ' st.length {s with heap:=h',toks:=k}:=⟨IQ _,λh Z=>d h,λZ h h'=>absurd h' (Nat.not_lt.mpr h),z,λb q=>(v b q).imp id And.left,λb o h Z Y A=>p b o A h,hz,w⟩
 refine⟨x,kJ T i B p hz w,⟨λh o e=>?_,λh q=>d h▸r.above h q,λh j q f e=>r.inj h j q f (by refine(d h)▸?_;refine(d j)▸?_;exact e),λb q=>(v b q).elim (λq=>IU (r.zlt b q) hz) Pn,λb q h f e=>?_⟩,λZ Y h V=>h,λh g c L q=>.inl ⟨h,c,L,q⟩,IQ _⟩
 ·refine(d h).symm▸?_;exact(r.at_ h o e).mono x (λb q=>⟨λu=>(off b u).1 q,r.zoff b q⟩) (λy C Z=>p _ _ (λu=>(off _ u).2 h (List.getElem?_eq_some_iff.mp e).1 rfl) C) λZ Y V U q=>q
 ·have e:=(d h)▸e;exact(v b q).elim (λq=>r.zoff b q h f e) λq=>I2 _ (IU (r.lt f) (e▸q.1))
theorem gx{h' k}(T:cB)(i:Inv s)(r:Rel σ st s)(c:∀a,X a->W.h₁.objs.size<=a)(off:∀a,X a->¬σ.z a/\∀h,h<st.length->σ.a h≠a)(e:∀b o,¬X b->s.heap.get? b=IK o->h'.get? b=IK o)(hz:s.heap.objs.size<=h'.objs.size)(d:s.toks<=k):cC X σ st s σ st {s with heap:=h',toks:=k} :=
 kT T i r c off e hz d (λZ=>rfl) (λZ=>id) λZ=>.inl
theorem dJ{a:Addr}{h' k}(T:cB)(i:Inv s)(r:Rel σ st s)(d:W.h₁.objs.size<=a)(c:X a)(off:¬σ.z a/\∀h,h<st.length->σ.a h≠a)(g:∀b o,b≠a->s.heap.get? b=IK o->h'.get? b=IK o)(hz:s.heap.objs.size<=h'.objs.size)(f:s.toks<=k):cC X σ st s σ st {s with heap:=h',toks:=k} :=
 (gx (X:=(· =a)) T i r (λZ e=>e▸d) (λZ e=>e▸off) g hz f).wk λZ e=>e▸c
theorem fU{a:Addr}{h' k}(T:cB)(i:Inv s)(r:Rel σ st s)(e:W.h₁.objs.size<=a)(d:X a)(hz:¬σ.z a)(g:∀h,h<st.length->σ.a h≠a)(c:JW a s.heap h')(f:s.toks<=k):cC X σ st s σ st {s with heap:=h',toks:=k} :=
 dJ T i r e d ⟨hz,g⟩ (mz c) (Js c.1.symm) f
theorem ky{h h' k o}(T:cB)(i:Inv s)(r:Rel σ st s)(d:h<st.length)(f:∀b o,b≠σ.a h->s.heap.get? b=IK o->h'.get? b=IK o)(hz:s.heap.objs.size<=h'.objs.size)(p:s.toks<=k)(B:Ext dY σ st.length s σ st.length {s with heap:=h',toks:=k}->RO σ st.length {s with heap:=h',toks:=k} (σ.a h) o)(v:∀g c L,o≠.gen g c L):cC X σ st s σ (st.set h o) {s with heap:=h',toks:=k}:=by
 have x:∀Y,Ext Y σ st.length s σ st.length {s with heap:=h',toks:=k}:=λY=>⟨IQ _,λZ V=>rfl,λZ h h'=>absurd h' (Nat.not_lt.mpr h),λZ h=>h,λZ=>.inl,λb o q Z A V=>f b o (λe=>A h d e.symm) q,hz,p⟩
 have e:(st.set h o).length=st.length:=L9;refine⟨e▸x X,kJ (X:=(· =σ.a h)) T i (λZ e=>e▸r.above h d) f hz p,⟨λj y q=>?_,e▸r.above,e▸r.inj,λb q=>IU (r.zlt b q) (x X).grow,e▸r.zoff⟩,λZ V h U=>h,λj g c L q=>?_,IQ _⟩
 ·refine(e).symm▸?_;by_cases z:j=h
  ·subst z;have q:=(Km d)▸q;cases q;exact B (x dY)
  ·have q:=(LO (LG z))▸q;exact(r.at_ j y q).mono (x dY) r.apart (λw hw Z=>f _ _ (λu=>z (r.inj j h (List.getElem?_eq_some_iff.mp q).1 d u)) hw) λZ V U S u=>u
 ·by_cases z:j=h
  ·subst z;have q:=(Km d)▸q;cases q;exact absurd rfl (v g c L)
  ·rw[LO (LG z)] at q;exact .inl ⟨j,c,L,q⟩
theorem eQ{h h' k o}(T:cB)(i:Inv s)(r:Rel σ st s)(f:h<st.length)(d:JW (σ.a h) s.heap h')(j:s.toks<=k)(p:Ext dY σ st.length s σ st.length {s with heap:=h',toks:=k}->RO σ st.length {s with heap:=h',toks:=k} (σ.a h) o)(e:∀g c L,o≠.gen g c L):cC X σ st s σ (st.set h o) {s with heap:=h',toks:=k} :=
 ky T i r f (mz d) (Js d.1.symm) j p e
noncomputable def Sg.new(σ:Sg)(n:Nat)(b:Addr):Sg:=⟨λh=>if h=n then b else σ.a h,σ.z⟩
noncomputable def Sg.keep(σ:Sg)(b:Addr):Sg:=⟨σ.a,λc=>σ.z c∨c=b⟩
mutual
theorem eS{b:Addr}{h' k o}(i:Inv s)(r:Rel σ st s)(B:s.heap.objs.size<=b)(C:∀c y,s.heap.get? c=IK y->h'.get? c=IK y)(hz:s.heap.objs.size<=h'.objs.size)(D:s.toks<=k)(F:Ext dY σ st.length s (σ.new st.length b) (st.length+1) {s with heap:=h',toks:=k}->RO (σ.new st.length b) (st.length+1) {s with heap:=h',toks:=k} b o)(E:∀g c L,o=.gen g c L->s.gens.size<=g):cC X σ st s (σ.new st.length b) (st++[o]) {s with heap:=h',toks:=k}:=by
 have old:∀h,h<st.length->(σ.new st.length b).a h=σ.a h:=λh q=>if_neg (Jw q);have v:(σ.new st.length b).a st.length=b:=if_pos rfl;have d:(st++[o]).length=st.length+1:=IL;have x:∀Y,Ext Y σ st.length s (σ.new st.length b) (st.length+1) {s with heap:=h',toks:=k}:=λY =>
  ⟨I8 _,old,λh q A=>by refine(Nat.le_antisymm (Nc A) q).symm▸?_;refine(v).symm▸?_;exact B,λZ h=>h,λZ=>.inl,λc y q Z V U=>C c y q,hz,D⟩
 have p:∀h,h<st.length+1->h<st.length∨h=st.length:=λh q=>M4 (Nc q);have ne:∀h,h<st.length->σ.a h≠b:=λh q e=>I2 _ (IU (r.lt q) (e▸B));refine⟨d▸x X,lX i C hz D,⟨λj y q=>?_,λh q=>?_,λh j q A e=>?_,λc q=>IU (r.zlt c q) hz,λc q h A e=>?_⟩,λZ V h U=>h,λj g c L q=>?_,IQ _⟩
 ·refine(d).symm▸?_;rcases p j (d▸(List.getElem?_eq_some_iff.mp q).1) with z | z
  ·refine(old j z).symm▸?_;rw[Jp z] at q;exact(r.at_ j y q).mono (x dY) r.apart (λw hw Z=>C _ w hw) λZ V U T u=>u
  ·subst z;rw[Jr (IQ _)] at q;have q:=(KY ..)▸q;cases q;refine(v).symm▸?_;exact F (x dY)
 ·rcases p h (d▸q) with z | z
  ·rw[old h z];exact r.above h z
  ·rw[z,v];exact IT i.size B
 ·rcases p h (d▸q) with z | z <;> rcases p j (d▸A) with f | f
  ·rw[old h z,old j f] at e;exact r.inj h j z f e
  ·rw[old h z,f,v] at e;exact absurd e (ne h z)
  ·rw[old j f,z,v] at e;exact absurd e.symm (ne j f)
  ·refine(z).symm▸?_;exact(f).symm▸rfl
 ·rcases p h (d▸A) with z | z
  ·rw[old h z] at e;exact r.zoff c q h z e
  ·rw[z,v] at e;exact I2 _ (IU (r.zlt c q) (e▸B))
 ·rcases p j (d▸(List.getElem?_eq_some_iff.mp q).1) with z | z
  ·rw[Jp z] at q;exact .inl ⟨j,c,L,q⟩
  ·subst z;rw[Jr (IQ _),KY] at q;cases q;exact .inr (E g c L rfl)
theorem fg{b:Addr}{h' k}(i:Inv s)(r:Rel σ st s)(d:s.heap.objs.size<=b)(a:b<h'.objs.size)(f:∀c y,s.heap.get? c=IK y->h'.get? c=IK y)(o:s.toks<=k):cC X σ st s (σ.keep b) st {s with heap:=h',toks:=k}:=by
 have hz:=JU (JP d a);have x:∀Y,Ext Y σ st.length s (σ.keep b) st.length {s with heap:=h',toks:=k}:=λY =>
  ⟨IQ _,λZ V=>rfl,λZ h h'=>absurd h' (Nat.not_lt.mpr h),λZ=>.inl,λc q=>q.imp id fun(e:c=b)=>e▸d,λc y q Z V U=>f c y q,hz,o⟩
 exact⟨x X,lX i f hz o,⟨λj y q=>(r.at_ j y q).mono (x dY) r.apart (λw hw Z=>f _ w hw) λZ V U T u=>u,r.above,r.inj,λc q=>q.elim (λq=>IU (r.zlt c q) hz) (fun(e:c=b)=>e▸a),
  λc q h p=>q.elim (λq=>r.zoff c q h p) fun(e:c=b) u=>I2 _ (IU (r.lt p) (u▸e▸d))⟩,λZ V h U=>h,λh g c L q=>.inl ⟨h,c,L,q⟩,IQ _⟩
end
variable {σ₀:Sg}{G:St}{s₀:IY}
theorem g0{b:Addr}{o}(x:cC X σ₀ G s₀ σ st s)(A:s₀.heap.objs.size<=b)(C:b<s.heap.objs.size)(v:W.h₁.objs.size<=b)(off:¬σ.z b/\∀h,h<st.length->σ.a h≠b)(D:(∀ {vs:List V} {ws:List Value},cW σ st.length s vs ws->cW (σ.new st.length b) (st.length+1) s vs ws)->RO (σ.new st.length b) (st.length+1) s b o)(B:∀g c L,o≠.gen g c L):cC X σ₀ G s₀ (σ.new st.length b) (st++[o]) s:=by
 have old:∀h,h<st.length->(σ.new st.length b).a h=σ.a h:=λh q=>if_neg (Jw q);have k:(σ.new st.length b).a st.length=b:=if_pos rfl;have d:(st++[o]).length=st.length+1:=IL;have kp:∀Y,Kp Y σ st.length s (σ.new st.length b) s:=λY=>⟨λZ h=>h,λZ U h T S R=>h,IQ _⟩
 have sm:gF σ st.length (σ.new st.length b) (st.length+1):=λh q=>⟨JL q,old h q⟩
 have f:∀h,h<st.length+1->h<st.length∨h=st.length:=λh q=>M4 (Nc q);have r:=x.rel;refine⟨⟨d▸J2 x.x.len,λh q=>(old h (IU q x.x.len)).trans (x.x.ext h q),λh q p=>?_,x.x.z,x.x.znew,x.x.keep,x.x.grow,x.x.tgrow⟩,x.inv,⟨λj y q=>?_,λh q=>?_,λh j q p e=>?_,r.zlt,λc q h p e=>?_⟩,x.gkeep,λj g c L q=>?_,x.ggrow⟩
 ·rcases f h (d▸p) with z | z
  ·rw[old h z];exact x.x.new h q z
  ·rw[z,k];exact A
 ·refine(d).symm▸?_;rcases f j (d▸(List.getElem?_eq_some_iff.mp q).1) with z | z
  ·refine(old j z).symm▸?_;rw[Jp z] at q;exact(r.at_ j y q).c0 (kp dY) r.apart sm (λw hw Z=>hw) λZ U T S u=>u
  ·subst z;have q:=(Jr (IQ _) ..)▸q;rw[KY] at q;cases q;refine(k).symm▸?_;exact D λh=>h.c0 (kp dY) r.apart sm
 ·rcases f h (d▸q) with z | z
  ·rw[old h z];exact r.above h z
  ·rw[z,k];exact v
 ·rcases f h (d▸q) with z | z <;> rcases f j (d▸p) with i | i
  ·rw[old h z,old j i] at e;exact r.inj h j z i e
  ·rw[old h z,i,k] at e;exact absurd e (off.2 h z)
  ·rw[old j i,z,k] at e;exact absurd e.symm (off.2 j i)
  ·refine(z).symm▸?_;exact(i).symm▸rfl
 ·rcases f h (d▸p) with z | z
  ·rw[old h z] at e;exact r.zoff c q h z e
  ·have e:=(z ..)▸e;rw[k] at e;exact off.1 (e▸q)
 ·rcases f j (d▸(List.getElem?_eq_some_iff.mp q).1) with z | z
  ·rw[Jp z] at q;exact x.gdom j g c L q
  ·subst z;have q:=(Jr (IQ _) ..)▸q;have q:=(KY ..)▸q;cases q;exact absurd rfl (B g c L)
noncomputable def qq(m:Nat)(σ:Sg)(n:Nat)(s:IY)(b:Addr):Prop:=(∃k,m<=k/\k<n/\σ.a k=b)∨s.heap.objs.size<=b
structure gW(X:Addr->Prop)(m:Nat)(σ:Sg)(n:Nat)(s:IY)(σ':Sg)(n':Nat)(s':IY):Prop where
 ext:∀h,h<m->h<n->h<n'/\σ'.a h=σ.a h
 new:∀h,h<n'->h<m/\h<n∨qq m σ n s (σ'.a h)
 z:∀b,σ.z b->σ'.z b
 znew:∀b,σ'.z b->σ.z b∨qq m σ n s b
 keep:∀b o,s.heap.get? b=IK o->dp o->(∀h,h<n->σ.a h≠b)->¬X b->s'.heap.get? b=IK o
 grow:s.heap.objs.size<=s'.heap.objs.size
 tgrow:s.toks<=s'.toks
variable {m:Nat}
mutual
theorem Ext.ir(x:Ext X σ n s σ' n' s'):gW X m σ n s σ' n' s' :=
 ⟨λh Z q=>⟨IU q x.len,x.ext h q⟩,λh q=>(KZ h n).elim (λz=>(KZ h m).elim (λy=>.inl ⟨y,z⟩) λy=>.inr (.inl ⟨h,y,z,(x.ext h z).symm⟩)) λz=>.inr (.inr (x.new h z q)),
  x.z,λb q=>(x.znew b q).imp id .inr,x.keep,x.grow,x.tgrow⟩
theorem gW.iQ(x:gW X m σ n s σ' n' s')(c:n<=m):Ext X σ n s σ' n' s':=by
 have nn:∀ {b},qq m σ n s b->s.heap.objs.size<=b:=λq=>q.elim (λa=>by obtain⟨k,d,e,_⟩:=a;exact absurd e (Nat.not_lt.mpr (IT c d))) id;refine⟨?_,λh q=>(x.ext h (IU q c) q).2,λh q f=>(x.new h f).elim (λz=>absurd z.2 (Nat.not_lt.mpr q)) nn,x.z,λb q=>(x.znew b q).imp id nn,x.keep,x.grow,x.tgrow⟩;exact(RL n).elim (λq=>q▸Ji _) λq=>by have:=(x.ext (n-1) (IU (NK q Nb) c) (NK q Nb)).1;exact b8 17 19 this
theorem gW.D8(x:gW X m σ n s σ' n' s'){b}(q:qq m σ' n' s' b):qq m σ n s b :=
 q.elim (λa=>by obtain⟨k,c,d,e⟩:=a;exact(x.new k d).elim (λz=>absurd z.1 (Nat.not_lt.mpr c)) λz=>e▸z) λq=>.inr (IT x.grow q)
theorem gW.off(x:gW X m σ n s σ' n' s'){a:Addr}(g:a<s.heap.objs.size)(h:∀k,k<n->σ.a k≠a):∀k,k<n'->σ'.a k≠a:=λk i e =>
 (x.new k i).elim (λq=>h k q.2 ((x.ext k q.1 q.2).2.symm.trans e)) λq=>(e▸q:qq m σ n s a).elim (λc=>by obtain⟨j,_,d,f⟩:=c;exact h j d f) λq=>I2 _ (IU g q)
theorem gW.zoff(x:gW X m σ n s σ' n' s'){a:Addr}(f:a<s.heap.objs.size)(hz:¬σ.z a)(h:∀k,k<n->σ.a k≠a):¬σ'.z a:=λq =>
 (x.znew a q).elim hz λq=>q.elim (λc=>by obtain⟨j,_,d,e⟩:=c;exact h j d e) λq=>I2 _ (IU f q)
theorem gW.same(x:gW X m σ n s σ' n' s'){k}(a:k<=m)(c:k<=n):gF σ k σ' k:=λh q=>⟨q,(x.ext h (IU q a) (IU q c)).2⟩
theorem gW.le(x:gW X m σ n s σ' n' s'){k}(a:k<=m)(c:k<=n):k<=n':=(RL k).elim (λq=>q▸Ji _) λq=>by
 have:=(x.ext (k-1) (IU (NK q Nb) a) (IU (NK q Nb) c)).1;exact b8 17 19 this
theorem gW.kp(x:gW X m σ n s σ' n' s'):Kp X σ n s σ' s':=⟨x.z,x.keep,x.tgrow⟩
end
theorem gW.trans(x:gW X m σ n s σ' n' s')(y:gW X m σ' n' s' D H s''):gW X m σ n s D H s'' :=
 ⟨λh q a=>⟨(y.ext h q (x.ext h q a).1).1,(y.ext h q (x.ext h q a).1).2.trans (x.ext h q a).2⟩,
  λh q=>(y.new h q).elim (λz=>(x.new h z.2).elim .inl λu=>.inr ((y.ext h z.1 z.2).2▸u)) λz=>.inr (x.D8 z),
  λb h=>y.z b (x.z b h),λb h=>(y.znew b h).elim (x.znew b) λq=>.inr (x.D8 q),
  λb o h e d c=>y.keep b o (x.keep b o h e d c) e (x.off (Ja h) d) c,IT x.grow y.grow,IT x.tgrow y.tgrow⟩
structure dT(X:Addr->Prop)(m:Nat)(σ:Sg)(st:St)(s:IY)(σ':Sg)(st':St)(s':IY):Prop where
 x:gW X m σ st.length s σ' st'.length s'
 inv:Inv s'
 rel:Rel σ' st' s'
 gkeep:∀g y,s.gens[g]?=IK y->(∀(h:Nat) c L,st[h]?≠IK (O.gen g c L))->s'.gens[g]?=IK y
 gdom:∀(h:Nat) g c L,st'[h]?=IK (O.gen g c L)->(∃(h':Nat) (c':Addr->Code) (L':Nat),st[h']?=IK (O.gen g c' L'))∨s.gens.size<=g
 ggrow:s.gens.size<=s'.gens.size
theorem cC.ir(p:cC X σ st s σ' B s'):dT X m σ st s σ' B s':=⟨p.x.ir,p.inv,p.rel,p.gkeep,p.gdom,p.ggrow⟩
theorem dT.iQ(p:dT X m σ st s σ' B s')(h:st.length<=m):cC X σ st s σ' B s':=⟨p.x.iQ h,p.inv,p.rel,p.gkeep,p.gdom,p.ggrow⟩
theorem dT.trans(p:dT X m σ st s σ' B s')(q:dT X m σ' B s' D E s''):dT X m σ st s D E s'':=by
 refine⟨p.x.trans q.x,q.inv,q.rel,λg y h j=>q.gkeep g y (p.gkeep g y h j) λk c L e=>?_,λh g c L e=>?_,IT p.ggrow q.ggrow⟩
 ·exact(p.gdom k g c L e).elim (λa=>by obtain⟨i,c',f,z⟩:=a;exact j i c' f z) λz=>absurd (Array.getElem?_eq_some_iff.mp h).1 (Nat.not_lt.mpr z)
 ·exact(q.gdom h g c L e).elim (λd=>by obtain⟨i,c',f,z⟩:=d;exact p.gdom i g c' f z) λz=>.inr (IT p.ggrow z)
mutual
theorem dT.fresh{Y}(x:dT X m σ st s σ' B s')(h:∀b,X b->Y b∨s.heap.objs.size<=b):dT Y m σ st s σ' B s' :=
 ⟨⟨x.x.ext,x.x.new,x.x.z,x.x.znew,λb o a d c e=>x.x.keep b o a d c λq=>(h b q).elim e λu=>I2 _ (IU (Ja a) u),x.x.grow,x.x.tgrow⟩,x.inv,x.rel,x.gkeep,x.gdom,x.ggrow⟩
theorem dT.wk{Y}(p:dT X m σ st s σ' B s')(h:∀b,X b->Y b):dT Y m σ st s σ' B s':=⟨⟨p.x.ext,p.x.new,p.x.z,p.x.znew,λb o a d c e=>p.x.keep b o a d c λq=>e (h b q),p.x.grow,p.x.tgrow⟩,p.inv,p.rel,p.gkeep,p.gdom,p.ggrow⟩
theorem dT.GL{k}(p:dT X m σ st s σ' B s')(h:k<=m):dT X k σ st s σ' B s':=by
 have nn:∀ {b},qq m σ st.length s b->qq k σ st.length s b:=λq=>q.imp (λa=>by obtain⟨j,c,d⟩:=a;exact⟨j,IT h c,d⟩) id;exact⟨⟨λj q=>p.x.ext j (IU q h),λj q=>(p.x.new j q).elim (λz=>(KZ j k).elim (λy=>.inl ⟨y,z.2⟩) λy=>.inr (.inl ⟨j,y,z.2,(p.x.ext j z.1 z.2).2.symm⟩)) λz=>.inr (nn z),p.x.z,λb q=>(p.x.znew b q).imp id nn,p.x.keep,p.x.grow,p.x.tgrow⟩,p.inv,p.rel,p.gkeep,p.gdom,p.ggrow⟩
end
structure dH where
 env:Env
 ce:List (Str×Nat)
 m:Nat
noncomputable abbrev dH.L(F:dH):Addr:=F.env.locals
noncomputable abbrev dH.kd(F:dH)(x:Str):Option NameKind:=F.env.scope.names.lookup x
noncomputable abbrev Lc:=List (Str×V)
noncomputable def Lc.set:Lc->Str->V->Lc
 |[],x,v=>[(x,v)]
 |(y,u)::l,x,v=>if y == x then(y,v)::l else(y,u)::Lc.set l x v
theorem Lc.f5(l:Lc)(x:Str)(v:V)(y:Str):(Lc.set l x v).lookup y=if y == x then IK v else l.lookup y:=by
 induction l with
 |nil=>delta Lc.set;refine(Jn).trans ?_;cases h:y == x <;> rfl
 |cons p l a =>
  obtain⟨z,u⟩:=p;show List.lookup y (if z == x then(z,v)::l else(z,u)::Lc.set l x v)=_;by_cases h:z == x
  ·rw[if_pos h,Jn,Jn];refine(eq_of_beq h).symm▸?_;cases y == x <;> rfl
  ·rw[if_neg h,Jn,Jn,a];by_cases q:y == z
   ·refine(q).symm▸?_;refine(eq_of_beq q).symm▸?_;simp [h]
   ·have:(y == z)=false:=by simpa using q
    rw[this]
structure ee(F:dH)(σ:Sg)(n:Nat)(lc:Lc)(s:IY):Prop where
 above:W.h₁.objs.size<=F.L
 ns:∃m,s.heap.Ns F.L m/\∀x v,F.kd x=IK .local->lc.lookup x=IK v->∃w,m x=IK w/\RV σ n s v w
 offz:¬σ.z F.L
 offh:∀h,h<n->σ.a h≠F.L
 kind:F.env.scope.kind=.function
 glob:F.env.globals=Ki
 bi:F.env.builtins=Lk
 cells:∀x h,F.ce.lookup x=IK h->h<n/\F.env.cells.lookup x=IK (σ.a h)
structure Pre(F:dH)(σ:Sg)(lc:Lc)(st:St)(s:IY):Prop where
 i:Inv s
 r:Rel σ st s
 f:ee F σ st.length lc s
noncomputable abbrev D5:Value->IY->Prop:=λZ Y=>False
noncomputable abbrev Wp{a:Type}(A:Around)(t:Qx a)(P:a->IY->Prop)(s:IY):Prop:=Jd (I6 W.prog W.w) A t P D5 s
inductive PV(σ:Sg)(st:St)(s:IY)(Q:V->St->Prop)(w:Value)(s':IY):Prop
 |mk (σ':Sg) (st':St) (x:Step σ st s σ' st' s') (v:V) (hv:RV σ' st'.length s' v w) (q:Q v st')
inductive HU(σ:Sg)(st:St)(s:IY)(Q:List V->St->Prop)(ws:List Value)(s':IY):Prop
 |mk (σ':Sg) (st':St) (x:Step σ st s σ' st' s') (vs:List V) (hv:cW σ' st'.length s' vs ws) (q:Q vs st')
inductive PB(σ:Sg)(st:St)(s:IY)(Q:Bool->St->Prop)(b:Bool)(s':IY):Prop
 |mk (σ':Sg) (st':St) (x:Step σ st s σ' st' s') (q:Q b st')
inductive Fl where
 |next
 |brk
 |cont
 |ret (v:V)
noncomputable def RF(σ:Sg)(n:Nat)(s:IY):Fl->Flow->Prop
 |.next,f=>f=.next
 |.brk,f=>f=.brk
 |.cont,f=>f=.cont
 |.ret v,f=>∃w,f=.ret w/\RV σ n s v w
inductive PF(F:dH)(σ:Sg)(st:St)(s:IY)(Q:Fl->Lc->St->Prop)(f:Flow)(s':IY):Prop
 |mk (σ':Sg) (lc':Lc) (st':St) (x:dT (· =F.L) F.m σ st s σ' st' s') (fr:ee F σ' st'.length lc' s') (g:Fl) (hg:RF σ' st'.length s' g f) (q:Q g lc' st')
variable (A:Around)(F:dH)
noncomputable def c8(e:Expr)(lc:Lc)(st:St)(Q:V->St->Prop):Prop:=∀σ s,Pre F σ lc st s->Wp A (eval e F.env) (PV σ st s Q) s
noncomputable def fL(es:List Expr)(lc:Lc)(st:St)(Q:List V->St->Prop):Prop:=∀σ s,Pre F σ lc st s->Wp A (spliced (es.map λe=>(false,eval e F.env))) (HU σ st s Q) s
noncomputable def lP(e:Expr)(lc:Lc)(st:St)(Q:Bool->St->Prop):Prop:=∀σ s,Pre F σ lc st s->Wp A (RC e F.env (eval e F.env)) (PB σ st s Q) s
noncomputable def tU(op:U1)(es:List Expr)(lc:Lc)(st:St)(Q:Bool->St->Prop):Prop:=∀σ s,Pre F σ lc st s->Wp A (allTrue op es F.env) (PB σ st s Q) s
noncomputable def eG(c:Stmt)(lc:Lc)(st:St)(Q:Fl->Lc->St->Prop):Prop:=∀σ s,Pre F σ lc st s->Wp A (exec c F.env) (PF F σ st s Q) s
noncomputable def cK(l:List Stmt)(lc:Lc)(st:St)(Q:Fl->Lc->St->Prop):Prop:=∀σ s,Pre F σ lc st s->Wp A (OH l F.env) (PF F σ st s Q) s
noncomputable def di(t:Value->Value->Qx Value)(a b:V)(st:St)(Q:V->St->Prop):Prop:=∀σ s u w,RV σ st.length s a u->RV σ st.length s b w->Inv s->Rel σ st s->Wp A (t u w) (PV σ st s Q) s
noncomputable def wI(a:V)(st:St)(Q:Bool->St->Prop):Prop:=∀σ s w,RV σ st.length s a w->Inv s->Rel σ st s->Wp A (Ta w) (PB σ st s Q) s
noncomputable def b5(f:V)(vs:List V)(st:St)(Q:V->St->Prop):Prop:=∀σ s w ws,RV σ st.length s f w->cW σ st.length s vs ws->Inv s->Rel σ st s->Wp A (JX w ws) (PV σ st s Q) s
end
section
variable {A:Around}{F:dH}{σ:Sg}{σ':Sg}{lc:Lc}{st:St}{c:St}{s:IY}{s':IY}{n:Nat}
theorem ee.step{X}(f:ee F σ st.length lc s)(r:Rel σ st s)(x:cC X σ st s σ' c s')(p:¬X F.L)(u:∀b,σ.z b->¬X b):ee F σ' c.length lc s':=by
 refine IJ λB=>?_;obtain⟨m,d,A⟩:=f.ns;refine B ?_;refine⟨f.above,⟨m,d.at λo i=>x.x.keep _ o i (fC d i) f.offh p,λy v a g=>?_⟩,x.x.zoff d.lt f.offz,x.x.off d.lt f.offh,f.kind,f.glob,f.bi,λy h e=>?_⟩
 ·obtain⟨w,j,k⟩:=A y v a g;exact⟨w,j,RV.mono x.x (λb q=>⟨u b q,r.zoff b q⟩) v w k⟩
 ·obtain⟨a,g⟩:=f.cells y h e;exact⟨IU a x.x.len,by refine(x.x.ext h a).symm▸?_;exact g⟩
theorem Pre.step(p:Pre F σ lc st s)(x:Step σ st s σ' c s'):Pre F σ' lc c s':=⟨x.inv,x.rel,p.f.step p.r x id λZ Y=>id⟩
theorem RV.step{v w}(h:RV σ st.length s v w)(r:Rel σ st s)(x:Step σ st s σ' c s'):RV σ' c.length s' v w:=RV.mono x.x r.apart v w h
theorem cW.step{vs ws}(h:cW σ st.length s vs ws)(r:Rel σ st s)(x:Step σ st s σ' c s'):cW σ' c.length s' vs ws:=cW.mono x.x r.apart h
variable {d:Type}{t:Qx d}{Q:V->St->Prop}
theorem b0{t P}(h:Wp A t (PV σ st s Q) s)(k:∀w s' σ' c v,Step σ st s σ' c s'->RV σ' c.length s' v w->Q v c->P w s'):Wp A t P s :=
 I5 h (λw s' p=>p.casesOn λσ' c x v a q=>k w s' σ' c v x a q) λZ Y e=>e
mutual
theorem eA{t Q P}(h:Wp A t (PB σ st s Q) s)(k:∀b s' σ' c,Step σ st s σ' c s'->Q b c->P b s'):Wp A t P s :=
 I5 h (λw s' p=>p.casesOn λσ' c x q=>k w s' σ' c x q) λZ Y e=>e
theorem iA{t Q P}(h:Wp A t (HU σ st s Q) s)(k:∀ws s' σ' c vs,Step σ st s σ' c s'->cW σ' c.length s' vs ws->Q vs c->P ws s'):Wp A t P s :=
 I5 h (λw s' p=>p.casesOn λσ' c x v a q=>k w s' σ' c v x a q) λZ Y e=>e
end
theorem fi{t}(x:Step σ st s σ' c s')(h:Wp A t (PV σ' c s' Q) s'):Wp A t (PV σ st s Q) s':=b0 h λw d a st₂ v y e q=>⟨a,st₂,x.trans y,v,e,q⟩
theorem sJ{t Q}(x:Step σ st s σ' c s')(h:Wp A t (PB σ' c s' Q) s'):Wp A t (PB σ st s Q) s':=eA h λw d a st₂ y q=>⟨a,st₂,x.trans y,q⟩
theorem dX{t Q P E}(h:Wp A t (PF F σ st s Q) s)(k:∀f s' σ' a c g,dT (· =F.L) F.m σ st s σ' c s'->ee F σ' c.length a s'->RF σ' c.length s' g f->Q g a c->P f s'):Jd (I6 W.prog W.w) A t P E s :=
 I5 h (λw s' p=>p.casesOn λσ' a c x fr g d q=>k w s' σ' a c g x fr d q) λZ Y e=>e.elim
theorem iU{t Q}(x:dT (· =F.L) F.m σ st s σ' c s')(h:Wp A t (PF F σ' c s' Q) s'):Wp A t (PF F σ st s Q) s':=dX h λw d a lc₂ st₂ g y fr e q=>⟨a,lc₂,st₂,x.trans y,fr,g,e,q⟩
variable {QB:Bool->St->Prop}{j:Fl->Lc->St->Prop}
theorem Pre.refl{X σ s}(p:Pre F σ lc st s):cC X σ st s σ st s:=.refl p.i p.r
theorem Pre.tk{X σ s}(p:Pre F σ lc st s):cC X σ st s σ st {s with toks:=s.toks+1}:=cH p.i p.r (I8 _)
theorem ti{x k pos}(h:Q (.s x 0) st):c8 A F (.Constant (.str x) k pos) lc st Q:=λZ Y p=>Pg ⟨_,_,p.tk,.s x 0,⟨_,rfl,λq=>absurd rfl q⟩,h⟩
noncomputable def wW:V->Option Value
 |.v w=>IK w
 |.g b=>IK b.val
 |_=>none
theorem t6{v w}(h:wW v=IK w)(σ:Sg)(n:Nat)(s:IY):RV σ n s v w:=by
 cases v with
 |v u=>cases h;exact rfl
 |g b=>cases h;exact rfl
 |_=>cases h
theorem nf{l r op pos}(h:c8 A F l lc st λa d=>c8 A F r lc d λb st₂=>di A (LV op) a b st₂ Q):c8 A F (.BinOp l op r pos) lc st Q :=
 λσ s p=>wpAny_BinOp (b0 (h σ s p) λu s₁ f d a e o i=>b0 (i f s₁ (p.step e)) λw k g st₂ b c q j=>fi (e.trans c) (j g k u w (o.step e.rel c) q c.inv c.rel))
theorem pE{b}(h:QB b st):wI A (.b b) st QB:=λZ Y w e i r=>by cases e;exact Nu ⟨_,_,.refl i r,h⟩
structure Br(b:Bool)(X Y:Prop):Prop where
 t:b=true->X
 f:b=false->Y
mutual
theorem all_nil{op}(h:QB (op == .And) st):tU A F op [] lc st QB:=λZ Y p=>by
 cases op with
 |And=>exact RW ⟨_,_,p.refl,h⟩
 |Or=>exact wpAny_allTrue_Or_nil ⟨_,_,p.refl,h⟩
theorem all_cons{op e es}(h:lP A F e lc st λb a=>Br (b == (op == .And)) (tU A F op es lc a QB) (QB b a)):tU A F op (e::es) lc st QB:=λσ s p=>by
 have k:=fun(b:Bool) s₁ c a (d:Step σ st s c a s₁) (g:tU A F op es lc a QB)=>sJ d (g c s₁ (p.step d));cases op with
 |And=>exact Oa (eA (h σ s p) λb s₁ c a d f=>by cases b with | true=>exact k true s₁ c a d (f.1 rfl) | false=>exact⟨c,a,d,f.2 rfl⟩)
 |Or=>exact wpAny_allTrue_Or_cons (eA (h σ s p) λb s₁ c a d f=>by cases b with | false=>exact k false s₁ c a d (f.1 rfl) | true=>exact⟨c,a,d,f.2 rfl⟩)
end
inductive Ek where
 |star | slice (l u k:Option Expr) | comp | set | tst | call0 | tup | lst | oth
noncomputable def kE:Expr->Ek
 |.Starred ..=>.star
 |.Slice l u k Z=>.slice l u k
 |.ListComp ..=>.comp
 |.SetComp ..=>.comp
 |.DictComp ..=>.comp
 |.Set ..=>.set
 |.Name ..=>.tst
 |.Call Z a c Y=>match a with
  |[]=>match c with
   |[]=>.call0
   |_=>.tst
  |_=>.tst
 |.Attribute ..=>.tst
 |.Subscript ..=>.tst
 |.Constant ..=>.tst
 |.BinOp ..=>.tst
 |.Tuple ..=>.tup
 |.List ..=>.lst
 |_=>.oth
noncomputable def cN(e:Expr):Bool:=match kE e with
 |.star=>false
 |_=>true
noncomputable def gQ(e:Expr):Bool:=match kE e with
 |.slice ..=>false
 |_=>true
noncomputable def fx(e:Expr):Bool:=match kE e with
 |.comp=>false
 |_=>true
noncomputable def jz(e:Expr):Bool:=match kE e with
 |.set=>false
 |_=>true
noncomputable def plainT(e:Expr):Bool:=match kE e with
 |.tst=>true
 |.call0=>true
 |_=>false
noncomputable def fZ(e:Expr):Bool:=match kE e with
 |.call0=>false
 |_=>true
theorem da(pos:Ua)(env:Env):∀ {es:List Expr},es.all cN=true->backTo pos (QI es env)=es.map λe=>(false,eval e env)
 |[],Z=>rfl
 |e::es,h=>by
  simp only[Nd,Ke] at h;have a:QI (e::es) env=(false,eval e env)::QI es env:=by
   cases e <;> first | rfl | exact ft h.1
  refine(a).symm▸?_;refine(JJ).symm▸?_;refine((da pos env h.2))▸?_
  rfl
mutual
theorem args_nil{Q}(h:Q [] st):fL A F [] lc st Q:=λσ s p=>OL ⟨_,_,p.refl,[],rfl,h⟩
theorem args_cons{e es Q}(h:c8 A F e lc st λv a=>fL A F es lc a λvs st₂=>Q (v::vs) st₂):fL A F (e::es) lc st Q :=
 λσ s p=>Ox (b0 (h σ s p) λw s₁ f a v c q i=>iA (i f s₁ (p.step c)) λws o g st₂ vs d k j=>⟨g,st₂,c.trans d,v::vs,⟨w,ws,rfl,q.step c.rel d,k⟩,j⟩)
end
end
section
variable {A:Around}{F:dH}{lc:Lc}{d:Lc}{st:St}{a:St}{s:IY}{s':IY}{σ:Sg}{σ':Sg}{Q:Fl->Lc->St->Prop}
theorem ee.kO{n}(f:ee F σ n lc s)(r:Rel σ st s)(e:n=st.length):Apart (· =F.L) σ st.length:=λb h=>⟨λq=>f.offz (q▸h),r.zoff b h⟩
theorem RV.AL{v w}(h:RV σ st.length s v w)(r:Rel σ st s)(f:ee F σ st.length lc s)(x:cC (· =F.L) σ st s σ' a s'):RV σ' a.length s' v w:=RV.mono x.x (f.kO r rfl) v w h
theorem gw{x v w P}(T:cB)(p:Pre F σ lc st s)(B:F.kd x=IK .local)(G:RV σ st.length s v w)(h:∀s',cC (· =F.L) σ st s σ st s'->ee F σ st.length (lc.set x v) s'->P () s'):Wp A (storeName F.env x w) P s:=by
 obtain⟨m,C,e⟩:=p.f.ns;refine wpAny_storeName_local B C (λh' D E=>?_) (by refine(p.f.kind).symm▸?_;rfl);have y:=fU (X:=(· =F.L)) (k:=s.toks+1) T p.i p.r p.f.above rfl p.f.offz p.f.offh E (I8 _);have c:=p.f.kO p.r rfl;refine h _ y ⟨p.f.above,⟨_,D,λz u g a=>?_⟩,p.f.offz,p.f.offh,p.f.kind,p.f.glob,p.f.bi,p.f.cells⟩;rw[Lc.f5] at a;by_cases q:z=x
 ·subst q;rw[beq_self_eq_true,if_pos rfl] at a;cases a;exact⟨w,if_pos rfl,RV.mono y.x c v w G⟩
 ·rw[if_neg (by simpa using q)] at a;obtain⟨d,j,o⟩:=e z u g a;exact⟨d,(if_neg q).trans j,RV.mono y.x c u d o⟩
theorem qk(h:Q .next lc st):cK A F [] lc st Q:=λσ s p=>Qr ⟨_,_,_,p.refl.ir,p.f,.next,rfl,h⟩
theorem cD{c l}(h:eG A F c lc st λf a d=>match f with | .next=>cK A F l a d Q | f=>Q f a d):cK A F (c::l) lc st Q :=
 λσ s p=>wpAny_execs_cons (dX (h σ s p) λf s₁ i a d g e fr j q=>by
  cases g with
  |next=>cases j;exact iU e (q i s₁ ⟨e.inv,e.rel,fr⟩)
  |brk=>cases j;exact⟨i,a,d,e,fr,.brk,rfl,q⟩
  |cont=>cases j;exact⟨i,a,d,e,fr,.cont,rfl,q⟩
  |ret v=>obtain⟨w,rfl,hw⟩:=j;exact⟨i,a,d,e,fr,.ret v,⟨w,rfl,hw⟩,q⟩)
mutual
theorem kL{e pos}(h:c8 A F e lc st λv a=>Q (.ret v) lc a):eG A F (.Return (IK e) pos) lc st Q :=
 λσ s p=>wpAny_Return_some (b0 (h σ s p) λw s₁ d a v c g q=>⟨_,_,_,c.iQ.ir,(p.step c).f,.ret v,⟨w,rfl,g⟩,q⟩)
theorem lZ{e pos}(hi:MU F.env=false)(g:swapsWith e none pos.line F.env=pure false)(h:c8 A F e lc st λZ a=>Q .next lc a):eG A F (.Expr e pos) lc st Q :=
 λσ s p=>wpAny_Expr_any (b0 (h σ s p) λw s₁ d a v c i q=>⟨_,_,_,c.iQ.ir,(p.step c).f,.next,rfl,q⟩) hi g
end
end
noncomputable def cV(x y:Str):Bool:= !(Pd x y 0 x.length 1).isEmpty
noncomputable def sgn(x:Str):List V:=x.cps.toList.map λc=>.s ⟨#[c]⟩ 0
noncomputable def GB:V->Bool
 |.v u=>u == .none
 |_=>false
section
variable (A:Around)
noncomputable def addW(a b:V)(st:St)(Q:V->St->Prop)(E:Prop):Prop:=match a with
 |.i x=>match b with | .i y=>Q (.i (x+y)) st | _=>E
 |.s x Z=>match b with | .s y _=>x.length+y.length<=sizeLine/\Q (.s (x++y) 0) st | _=>E
 |_=>E
noncomputable def Gr(a b:V)(st:St)(Q:V->St->Prop)(E:Prop):Prop:=match b with
 |.i y=>match a with | .i x=>IntMulOk x y/\Q (.i (x*y)) st | .s x _=>UX x y/\Q (.s (NJ x y) 0) st | _=>E
 |_=>E
noncomputable def nS(a b:V)(f:Int->Int->Prop)(E:Prop):Prop:=match a with
 |.i x=>match b with | .i y=>f x y | _=>E
 |_=>E
noncomputable def ER(op:MW)(a b:V)(st:St)(Q:V->St->Prop):Prop:=match op with
 |.Add=>addW a b st Q (di A (LV .Add) a b st Q)
 |.Sub=>nS a b (λx y=>Q (.i (x-y)) st) (di A (LV .Sub) a b st Q)
 |.Mult=>Gr a b st Q (di A (LV .Mult) a b st Q)
 |.Mod=>nS a b (λx y=>y≠0/\Q (.i (x.fmod y)) st) (di A (LV .Mod) a b st Q)
 |.FloorDiv=>nS a b (λx y=>y≠0/\Builtin.divisionGoesByPylong x y=false/\Q (.i (x.fdiv y)) st) (di A (LV .FloorDiv) a b st Q)
 |op=>di A (LV op) a b st Q
noncomputable def FH(a b:V)(f:Int->Int->Prop)(g:Str->Str->Prop)(E:Prop):Prop:=match a with
 |.i x=>match b with | .i y=>f x y | _=>E
 |.s x Z=>match b with | .s y _=>g x y | _=>E
 |_=>E
noncomputable def EL(op:CmpOp)(a b:V)(st:St)(Q:V->St->Prop):Prop:=match op with
 |.Lt=>nS a b (λx y=>Q (.b (decide (x<y))) st) (di A (J1 .Lt) a b st Q)
 |.Gt=>nS a b (λx y=>Q (.b (decide (y<x))) st) (di A (J1 .Gt) a b st Q)
 |.LtE=>nS a b (λx y=>Q (.b (decide (x<=y))) st) (di A (J1 .LtE) a b st Q)
 |.GtE=>nS a b (λx y=>Q (.b (decide (x ≥ y))) st) (di A (J1 .GtE) a b st Q)
 |.Eq=>FH a b (λx y=>Q (.b (x == y)) st) (λx y=>Q (.b (x == y)) st) (di A (J1 .Eq) a b st Q)
 |.NotEq=>FH a b (λx y=>Q (.b (x != y)) st) (λx y=>Q (.b (x != y)) st) (di A (J1 .NotEq) a b st Q)
 |.In=>FH a b (λZ Y=>di A (J1 .In) a b st Q) (λy x=>Q (.b (cV x y)) st) (di A (J1 .In) a b st Q)
 |op=>di A (J1 op) a b st Q
variable {A}{st:St}{Q:V->St->Prop}{a b:V}
theorem dc{t f}(h:nS a b f (di A t a b st Q))(k:∀x y,f x y->∀σ s k l,Inv s->Rel σ st s->Wp A (t (.int x k) (.int y l)) (PV σ st s Q) s):di A t a b st Q:=by
 cases a with
 |i x=>cases b with
  |i y=>exact λσ s Z Y c d i r=>by obtain⟨m,e⟩:=c;obtain⟨l,g⟩:=d;subst e g;exact k x y h σ s m l i r
  |_=>exact h
 |_=>exact h
theorem ny{t x y a b}(h:∀σ s k l,Inv s->Rel σ st s->Wp A (t (.str x k) (.str y l)) (PV σ st s Q) s):di A t (.s x a) (.s y b) st Q :=
 λσ s Z Y c d i r=>by obtain⟨k,e,_⟩:=c;obtain⟨l,f,_⟩:=d;subst e f;exact h σ s k l i r
theorem g7{σ s c}(i:Inv s)(r:Rel σ st s)(h:Q (.b c) st):PV σ st s Q (.bool c) s:=⟨_,_,.refl i r,.b c,rfl,h⟩
mutual
theorem vC{σ s c k}(i:Inv s)(r:Rel σ st s)(h:Q (.i c) st)(a:s.toks<=k){t}:PV σ st s Q (.int c t) {s with toks:=k}:=⟨_,_,cH i r a,.i c,⟨_,rfl⟩,h⟩
theorem sI{σ s c k}(i:Inv s)(r:Rel σ st s)(h:Q (.s c 0) st)(a:s.toks<=k){t}:PV σ st s Q (.str c t) {s with toks:=k}:=⟨_,_,cH i r a,.s c 0,⟨_,rfl,λq=>absurd rfl q⟩,h⟩
end
mutual
theorem tK{op}(h:ER A op a b st Q):di A (LV op) a b st Q:=by
 cases op with
 |Add =>
  cases a with
  |i x=>exact dc (t:=LV .Add) (f:=λx y=>Q (.i (x+y)) st) h λx y h σ s k l i r=>add_int (vC i r h (I8 _))
  |s x t=>cases b with | s y u=>exact ny λσ s k l i r=>wpAny_toks (add_str (λt' tk g=>sI i r h.2 g) h.1) | _=>exact h
  |_=>exact h
 |Sub=>exact dc h λx y h σ s k l i r=>sub_int (vC i r h (I8 _))
 |Mod=>exact dc h λx y h σ s k l i r=>mod_int h.1 (vC i r h.2 (I8 _))
 |FloorDiv=>exact dc h λx y h σ s k l i r=>floordiv_int h.1 (vC i r h.2.2 (I8 _)) (.inl h.2.1)
 |Mult =>
  cases b with
  |i y=>cases a with
   |i x=>exact dc (t:=LV .Mult) (f:=λx y=>IntMulOk x y/\Q (.i (x*y)) st) h λx y h σ s k l i r=>mul_int (vC i r h.2 (I8 _)) h.1
   |s x t=>exact λσ s Z Y c d i r=>by obtain⟨k,e,_⟩:=c;obtain⟨l,j⟩:=d;subst e j;exact wpAny_toks (SB.mul h.1 λt' k g=>sI i r h.2 g)
   |_=>exact h
  |_=>exact h
 |_=>exact h
theorem tu{op}(h:EL A op a b st Q):di A (J1 op) a b st Q:=by
 have d {a b E} (h:nS a b (λZ Y=>E) E):E:=by
  cases a with
  |i x=>cases b with
   |i y=>exact h
   |_=>exact h
  |_=>exact h
 have c {A st Q a b t f g} (h:FH a b f g (di A t a b st Q)) (k:nS a b f (di A t a b st Q)->di A t a b st Q) (l:∀x y,g x y->∀σ s k l,Inv s->Rel σ st s->Wp A (t (.str x k) (.str y l)) (PV σ st s Q) s):di A t a b st Q:=by
  cases a with
  |i x=>exact k h
  |s x u=>cases b with | s y v=>exact ny (l x y h) | _=>exact h
  |_=>exact h
 cases op with
 |Lt=>exact dc h λx y h σ s k l i r=>lt_int (g7 i r h)
 |Gt=>exact dc h λx y h σ s k l i r=>gt_int (g7 i r h)
 |LtE=>exact dc h λx y h σ s k l i r=>P.le_int (g7 i r h)
 |GtE=>exact dc h λx y h σ s k l i r=>P.ge_int (g7 i r h)
 |Eq=>exact c h (λh=>dc h λx y h σ s k l i r=>eq_int (g7 i r h)) λx y h σ s k l i r=>eq_str (g7 i r h)
 |NotEq=>exact c h (λh=>dc h λx y h σ s k l i r=>ne_int (g7 i r h)) λx y h σ s k l i r=>ne_str (g7 i r h)
 |In=>exact c h d λx y h σ s k l i r=>P.in_str (g7 i r h)
 |_=>exact h
end
end
theorem eI:sizeLine<2 ^ 62:=by decide
theorem EJ{n}(h:n<=sizeLine):(n:Int)<2 ^ 62 :=
 have a:n<2 ^ 62:=JP h eI
 Int.lt_of_lt_of_le (Int.ofNat_lt.mpr (a)) (by decide)
theorem CM{n}(h:n<=sizeLine):(n:Int)<2 ^ 63:=QW (EJ h) (by decide)
mutual
theorem GH{k}{n:Nat}(h : -(n:Int)<=k)(hz:n<=sizeLine) : -(2 ^ 63)<=k:=NS (Int.neg_le_neg (NT (CM hz))) h
theorem EI{k:Int}{n}(h:k.toNat<n)(hz:n<=sizeLine):k<2 ^ 63:=Int.lt_of_le_of_lt (Int.self_le_toNat k) (CM (IT (JU h) hz))
end
inductive eY(vs:List V)(k:Int)(R:V->Prop):Prop
 |mk (v:V) (j:Nat) (e:Mp k vs.length=IK j) (hk:vs[j]?=IK v) (q:R v)
mutual
theorem dW{e}(h:gQ e=true)(o i:Value):subscripted e false o i=operate [o,i] (TN o i):=by
 cases e <;> first | rfl | exact ft h
theorem CF{k n}(c:0<=k)(h:k.toNat<n):Mp k n=IK k.toNat:=by
 unfold Mp;have a {d x0} (c:((Mz x0)<d)):(x0<((d:Nat):Int)):=Dn 18 11 (toN _) c;simp [(show ¬k<0 from by exact l6 18 10 c),(show k<n from by exact a h),c]
end
section
variable {A:Around}{F:dH}{lc:Lc}{st:St}{Q:V->St->Prop}
theorem eY.at{vs k R v}(c:0<=k)(a:vs[k.toNat]?=IK v)(q:R v):eY vs k R:=⟨v,_,CF c (List.getElem?_eq_some_iff.mp a).1,a,q⟩
structure Idx(k:Int)(n j:Nat):Prop where
 lo : -(n:Int)<=k
 hi:k<n
 at_:0<=k/\j=k.toNat∨k<0/\j=(k+n).toNat
set_option tactic.hygienic true in
theorem sZ{k n j}(h:Mp k n=IK j):Idx k n j:=by
 unfold Mp at h;dsimp only at h;by_cases a:k<0
 ·rw[if_pos a] at h
  split at h
  ·rename_i q
   simp only[Ke,decide_eq_true_eq] at q;obtain rfl:=Jk h;exact⟨by exact l6 18 12 q.1,by exact tV 18 13 q.2,.inr ⟨a,rfl⟩⟩
  ·cases h
 ·rw[if_neg a] at h
  split at h
  ·rename_i q
   simp only[Ke,decide_eq_true_eq] at q;obtain rfl:=Jk h;exact⟨by exact tV 18 14 a,q.2,.inl ⟨q.1,rfl⟩⟩
  ·cases h
theorem Idx.fit{k n j}(h:Idx k n j)(hz:n<=sizeLine) : -(2 ^ 63)<=k/\k<2 ^ 63:=by
 exact⟨GH h.lo hz,QW h.hi (CM hz)⟩
noncomputable def C5(A:Around)(o k:V)(st:St)(Q:V->St->Prop):Prop:=∀c a,gQ a=true->∀σ s u w,RV σ st.length s o u->RV σ st.length s k w->Inv s->Rel σ st s->Wp A (U5 c a u w) (PV σ st s Q) s
theorem CR{value slice pos}(v:gQ slice=true)(h:c8 A F value lc st λo c=>c8 A F slice lc c λk st₂=>C5 A o k st₂ Q):c8 A F (.Subscript value slice pos) lc st Q :=
 λσ s p=>Subscript_ (b0 (h σ s p) λu s₁ e c o d r g=>b0 (g e s₁ (p.step d)) λw j f st₂ k a q i=>fi (d.trans a) (i value slice v f j u w (r.step d.rel a) q a.inv a.rel))
noncomputable def wH(o:Option O)(f:List V->Prop)(E:Prop):Prop:=match o with
 |none=>E
 |some o=>match o with
  |.list vs=>f vs
  |_=>E
theorem gV{o f E}(h:wH o f E)(k:∀vs,o=IK (.list vs)->f vs->E):E:=by
 cases o with
 |none=>exact h
 |some o=>cases o with
  |list vs=>exact k vs rfl h
  |_=>exact h
noncomputable def EE(A:Around)(o k:V)(st:St)(Q:V->St->Prop):Prop:=match k with
 |.i k=>match o with
  |.s x Z=>x.length<=sizeLine/\eY (sgn x) k λv=>Q v st
  |.c d vs=>match d with
   |.cls Z=>C5 A o (.i k) st Q
   |_=>eY vs k λv=>Q v st
  |.r h=>wH st[h]? (λvs=>eY vs k λv=>Q v st) (C5 A o (.i k) st Q)
  |_=>C5 A o (.i k) st Q
 |k=>C5 A o k st Q
theorem tc{o k}(h:EE A o k st Q):C5 A o k st Q:=by
 have y {σ s p f a items m k u vs} (D:gQ f=true) (R:s.heap.get? a=IK (Kd.lst.obj items m)) (hz:items.size<=sizeLine) (E:cW σ st.length s vs items.toList) (i:Inv s) (r:Rel σ st s) (g:eY vs k λv=>Q v st) :
   Wp A (U5 p f (.ref a) (.int k u)) (PV σ st s Q) s:=by
  refine IJ λS=>?_;obtain⟨v,j,e,J,q⟩:=g;obtain⟨w,T,h2⟩:=E.get J;refine S ?_;rw[Ju] at T;have hl:=E.len;rw[I3] at hl;rw[<-hl] at e;have x:=sZ e;have G:=x.fit hz;have M:s.heap.IsList a items:=⟨_,R,rfl,m,rfl⟩
  have fin:PV σ st s Q w s:=⟨_,_,.refl i r,v,h2,q⟩
  refine Sn M.typeIs slot_list_getitem.lookup (x.at_.elim (λz=>S9 M z.1 G.2 (z.2▸T) fin) λz=>wpAny_getItem_list_neg M z.1 x.lo G.1 (z.2▸T) fin) (dW D _ _)
 cases k with
 |i k =>
  cases o with
  |s x t =>
   obtain⟨hz,v,j,B,J,q⟩:=h;intro p f D σ s _ _ ⟨u,e,_⟩ ⟨z,H⟩ i r;subst e H;unfold sgn at J;rw[Jt,Ln] at J;refine IJ λS=>?_;obtain⟨c,hc,rfl⟩:=J;refine S ?_;rw[Ju] at hc;have B:=(show(sgn x).length=x.length from by unfold sgn;rw[IZ,I3];rfl)▸B;have G:=(sZ B).fit hz;exact Sn (Ng s x u) PySem.F.slot_str_getitem.lookup (P.getItem_str (c:=c) (by simp only[N8,decide_eq_false_iff_not];exact qx 18 15 G.2 G.1) (by refine(B).symm▸?_;exact hc) (sI i r q (I8 _))) (dW D _ _)
  |c d vs =>
   cases d with
   |lst=>exact λp f D σ s Z Y U X i r=>by obtain⟨a,items,m,e,_,R,hz,E⟩:=U;obtain⟨z,H⟩:=X;subst e H;exact y D R hz (cW.wD (k:=.lst) E) i r h
   |tup =>
    intro p f D σ s _ _ ⟨a,items,m,e,_,R,hz,E⟩ ⟨z,H⟩ i r;subst e H;refine IJ λS=>?_;obtain⟨v,j,B,J,q⟩:=h;obtain⟨w,T,h2⟩:=E.get J;refine S ?_;rw[Ju] at T;have B:=((I3▸(E.len))).symm▸B;have G:=(sZ B).fit hz;have ht:IsTup s.heap a items:=⟨_,R,rfl,m,rfl⟩
    exact Sn ht.typeIs slot_tuple_getitem.lookup (getItem_tuple ht G.1 G.2 B T ⟨_,_,.refl i r,v,h2,q⟩) (dW D _ _)
   |cls C=>exact h
  |r j =>
   exact gV h λvs e h p f D σ s Z Y aa ab i r=>by
    obtain⟨hj,e1⟩:=aa;obtain⟨z,H⟩:=ab;subst e1 H;refine IJ λS=>?_;obtain⟨items,m,R,hz,E⟩:=r.at_ j _ e;refine S ?_;exact y D R hz E i r h
  |_=>exact h
 |_=>exact h
end
section
variable {A:Around}{F:dH}{lc:Lc}{st:St}{Q:V->St->Prop}{QB:Bool->St->Prop}{z:Fl->Lc->St->Prop}
noncomputable def two(c a:St->Prop)(b:Bool)(st:St):Prop:=Br b (c st) (a st)
noncomputable def FA(A:Around)(a:V)(st:St)(d c:St->Prop):Prop:=match a with
 |.v w=>match w with
  |.bool b=>Br b (d st) (c st)
  |.none=>c st
  |_=>wI A a st (two d c)
 |.i x=>Br (x != 0) (d st) (c st)
 |.s x Z=>x.length<=sizeLine/\Br (x.length != 0) (d st) (c st)
 |.r h=>wH st[h]? (λvs=>Br (!vs.isEmpty) (d st) (c st)) (wI A a st (two d c))
 |_=>wI A a st (two d c)
theorem nY{a KT KF}(h:FA A a st KT KF):wI A a st (two KT KF):=by
 cases a with
 |v w=>cases w with
  |bool b=>exact pE h
  |none =>
   have c {QB} (h:QB false st):wI A .n st QB:=λZ Y w e i r=>by cases e;exact truthy_none ⟨_,_,.refl i r,h⟩
   exact c ⟨λq=>IW q,λZ=>h⟩
  |_=>exact h
 |i x=>exact λσ s Z d i r=>by obtain⟨t,e⟩:=d;subst e;exact P.truthy_int ⟨_,_,.refl i r,h⟩
 |s x u =>
  intro σ s w ⟨t,e,_⟩ i r;subst e;have:=JP h.1 eI;exact P.truthy_str (by omega) ⟨_,_,cH i r (Jc _ 2),by
   refine(show((x.length:Int) != 0)=(x.length != 0) by rw[K9];simp).symm▸?_;exact h.2⟩
 |r j =>
  refine gV h λvs e h σ s w g i r=>?_;obtain⟨y,k⟩:=g;subst k;obtain⟨items,m,o,hz,p⟩:=r.at_ j _ e;have f:=p.len;have f:=I3▸f;refine wpAny_truthy_list ⟨_,o,rfl,m,rfl⟩ (by have:=eI;omega) ⟨_,_,cH i r (Jc _ 2),?_⟩;refine(show items.isEmpty=vs.isEmpty by rw[K9,O4,List.isEmpty_iff_length_eq_zero,f]).symm▸?_;exact h
 |_=>exact h
theorem vO{e env}(h:plainT e=true):RC e env (eval e env)=(do let v <-eval e env;OM e.pos;Mh [v] (Ta v)):=by
 cases e <;> first | rfl | exact ft h
noncomputable def HQ(A:Around)(op:MW)(a b:V)(st:St)(Q:V->St->Prop):Prop:=match op with
 |.Add=>addW a b st Q (di A (OQ .Add) a b st Q)
 |op=>di A (OQ op) a b st Q
theorem oD{op a b}(h:HQ A op a b st Q):di A (OQ op) a b st Q:=by
 cases op with
 |Add =>
  cases a with
  |i x=>exact dc (t:=OQ .Add) (f:=λx y=>Q (.i (x+y)) st) h λx y h σ s k l i r=>iadd_int (vC i r h (I8 _))
  |s x t=>cases b with
   |s y u=>exact ny λσ s k l i r=>iq (iadd_str (λt' tk c=>sI i r h.2 c) h.1)
   |_=>exact h
  |_=>exact h
 |_=>exact h
theorem kS{e t l env}(h:fx e=true):swapsWith e t l env=pure false:=by
 cases e <;> first | rfl | exact ft h
structure Gl(gl:List (Str×V)):Prop where
 T:cB
 at_:∀x v,gl.lookup x=IK v->∃w,wW v=IK w/\(W.mg x=IK w∨(W.mg x=none/\W.mb x=IK w))
noncomputable def pC:O->Option V
 |.cell v=>v
 |_=>none
noncomputable def uV(F:dH)(x:Str)(st:St)(Q:V->St->Prop)(E:Prop):Prop:=match F.ce.lookup x with
 |some h=>match st[h]?.bind pC with
  |some v=>Q v st
  |none=>E
 |none=>E
noncomputable def xO(F:dH)(d:List (Str×V))(x:Str)(lc:Lc)(st:St)(Q:V->St->Prop)(E:Prop):Prop:=match x == ("__debug__":Str) with
 |true=>E
 |false=>match F.kd x with
  |some .local=>match lc.lookup x with
   |some v=>Q v st
   |none=>E
  |some .globalImplicit=>match d.lookup x with
   |some v=>Q v st
   |none=>E
  |some .cell=>uV F x st Q E
  |some .free=>match x == ("__classdict__":Str) with
   |true=>E
   |false=>uV F x st Q E
  |_=>E
variable (A F)(d:List (Str×V))(r:Sems)
variable {A F d r}
theorem c8.mono{e Q Q'}(h:c8 A F e lc st Q)(k:∀v d,Q v d->Q' v d):c8 A F e lc st Q':=λσ s p=>b0 (h σ s p) λw s₁ c a v x f q=>⟨c,a,x,v,f,k v a q⟩
theorem lP.mono{e Q Q'}(h:lP A F e lc st Q)(k:∀v d,Q v d->Q' v d):lP A F e lc st Q':=λσ s p=>eA (h σ s p) λw s₁ c a x q=>⟨c,a,x,k w a q⟩
theorem fL.mono{e Q Q'}(h:fL A F e lc st Q)(k:∀v d,Q v d->Q' v d):fL A F e lc st Q':=λσ s p=>iA (h σ s p) λw s₁ c a v x f q=>⟨c,a,x,v,f,k v a q⟩
theorem di.mono{t a b Q Q'}(h:di A t a b st Q)(k:∀v e,Q v e->Q' v e):di A t a b st Q':=λσ s u w f hw i r=>b0 (h σ s u w f hw i r) λw s₁ d c v x g q=>⟨d,c,x,v,g,k v c q⟩
theorem eG.mono{c Q Q'}(h:eG A F c lc st Q)(k:∀f l i,Q f l i->Q' f l i):eG A F c lc st Q':=λσ s p=>dX (h σ s p) λf s₁ e d a g x fr j q=>⟨e,d,a,x,fr,g,j,k g d a q⟩
theorem sR(G:Gl d){x pos}(h:xO F d x lc st Q (c8 A F (.Name x pos) lc st Q)):c8 A F (.Name x pos) lc st Q:=by
 have z {A F lc st Q x pos v w} (T:cB) (B:F.kd x=IK .globalImplicit) (hd:(x == ("__debug__":Str))=false) (hw:wW v=IK w) (D:W.mg x=IK w) (h:Q v st):c8 A F (.Name x pos) lc st Q :=
  λZ Y p=>PW p.f.kind B (Calls.loadGlobal_global (by refine(p.f.glob).symm▸?_;exact p.i.glob T) D ⟨_,_,p.refl,v,t6 hw _ _ _,h⟩) hd
 have u {A F lc st Q x pos v w} (T:cB) (B:F.kd x=IK .globalImplicit) (hd:(x == ("__debug__":Str))=false) (hw:wW v=IK w) (U:W.mg x=none) (D:W.mb x=IK w) (h:Q v st):c8 A F (.Name x pos) lc st Q :=
  λZ Y p=>PW p.f.kind B (Calls.loadGlobal_builtin (by rw[p.f.glob];exact p.i.glob T) U (by rw[p.f.bi];exact p.i.blt T) D ⟨_,_,p.refl,v,t6 hw _ _ _,h⟩) hd
 have c {E} (h:uV F x st Q E) (k:∀h v,F.ce.lookup x=IK h->st[h]?=IK (.cell (IK v))->Q v st->E):E:=by
  have M {o v} (h:pC o=IK v):o=.cell (IK v):=by
   cases o <;> first | exact congrArg O.cell h | cases h
  unfold uV at h;cases e:F.ce.lookup x with
  |none=>rw[e] at h;exact h
  |some j =>
   have h:=e▸h;cases P:st[j]?.bind pC with
   |none=>simp only[P] at h;exact h
   |some v =>
    simp only[P] at h;obtain⟨o,H,J⟩:=Option.bind_eq_some_iff.mp P;exact k j v e (H.trans (congrArg IK (M J))) h
 have g {σ s j v} (p:Pre F σ lc st s) (e:F.ce.lookup x=IK j) (R:st[j]?=IK (.cell (IK v))):∃w,F.env.cells.lookup x=IK (σ.a j)/\s.heap.IsCell (σ.a j) (IK w)/\RV σ st.length s v w:=by
  refine IJ λzz=>?_;obtain⟨w,hw,q⟩:=p.r.at_ j _ R;obtain⟨y,P,q'⟩:=q v rfl;refine zz ?_;subst P;exact⟨y,(p.f.cells x j e).2,hw,q'⟩
 unfold xO at h;cases hd:x == ("__debug__":Str) with
 |true=>have h:=hd▸h;exact h
 |false =>
  rw[hd] at h;cases B:F.kd x with
  |none=>rw[B] at h;exact h
  |some k =>
   rw[B] at h;cases k with
   |«local» =>
    cases D:lc.lookup x with
    |none=>simp only[D] at h;exact h
    |some v =>
     have C (B:F.kd x=IK .local) (hd:(x == ("__debug__":Str))=false) (D:lc.lookup x=IK v) (h:Q v st):c8 A F (.Name x pos) lc st Q:=by
      intro σ s p;refine IJ λzz=>?_;obtain⟨m,U,e⟩:=p.f.ns;obtain⟨w,H,J⟩:=e x v B D;refine zz ?_;exact MG (KQ p.f.kind B U H ⟨_,_,p.refl,_,J,h⟩) hd
     simp only[D] at h;exact C B hd D h
   |globalImplicit =>
    cases D:d.lookup x with
    |none=>simp only[D] at h;exact h
    |some v =>
     simp only[D] at h;obtain⟨w,hw,q⟩:=G.at_ x v D;exact q.elim (λq=>z G.T B hd hw q h) λq=>u G.T B hd hw q.1 q.2 h
   |cell =>
    exact c h λj v e R q σ s p=>by
     obtain⟨w,H,J,S⟩:=g p e R;exact MG (wpAny_loadName_cell p.f.kind B H J ⟨_,_,p.refl,v,S,q⟩) hd
   |free =>
    dsimp only at h;cases X:x == ("__classdict__":Str) with
    |true=>rw[X] at h;exact h
    |false =>
     rw[X] at h;exact c h λj v e R q σ s p=>by
      obtain⟨w,H,J,S⟩:=g p e R;exact MG (wpAny_loadName_free p.f.kind B H J ⟨_,_,p.refl,v,S,q⟩ X) hd
   |_=>exact h
end
section
variable {A:Around}{F:dH}{lc:Lc}{σ:Sg}{σ':Sg}{st:St}{z:St}{s:IY}{s':IY}{Q:V->St->Prop}
theorem cC.fresh{X Y}(x:cC X σ st s σ' z s')(h:∀b,X b->Y b∨s.heap.objs.size<=b):cC Y σ st s σ' z s' :=
 ⟨⟨x.x.len,x.x.ext,x.x.new,x.x.z,x.x.znew,λb o a d c e=>x.x.keep b o a d c λq=>(h b q).elim e λu=>I2 _ (IU (Ja a) u),x.x.grow,x.x.tgrow⟩,x.inv,x.rel,x.gkeep,x.gdom,x.ggrow⟩
theorem any_false(es:List Expr)(env:Env):(es.map λe=>(false,eval e env)).any (·.1)=false:=by
 induction es with
 |nil=>rfl
 |cons e es a=>exact a
theorem eB{f es Q P}(h:fL A F es lc st Q)(p:Pre F σ lc st s)(k:∀ws s' σ' z vs,Step σ st s σ' z s'->cW σ' z.length s' vs ws->Q vs z->P ⟨ws,[]⟩ s'):Wp A (evalArgs f true (es.map λe=>(false,eval e F.env)) []) P s:=by
 have a:=iA (h σ s p) k;cases es with
 |nil =>
  refine II (I5 a (λvs s' h'=>II (IP ?_)) λZ Y x=>x);refine I9 ?_;exact II (IP (II (IP (IP h'))))
 |cons e es=>exact N1 a
inductive ClsAt(C N:Addr)(mN:Str->Option Value):Prop
 |mk (nm q:Str) (bs:List Value) (sn:List Str) (sub:List Value) (col:Option Bool) (dd:Option Addr) (k0 k1 k2 k3 k5:Option Value) (h:W.h₁.get? C=IK (Sr nm q C N bs [.type "object"] true sn sub false col dd k0 k1 k2 k3 k5 "object.__new__")) (ns:W.h₁.Ns N mN) (ne:N≠Kb)
inductive C9(C N:Addr)(mN:Str->Option Value)(h:Heap):Prop
 |mk (nm q:Str) (bs:List Value) (sn:List Str) (sub:List Value) (col:Option Bool) (dd:Option Addr) (k0 k1 k2 k3 k5:Option Value) (hC:h.get? C=IK (Sr nm q C N bs [.type "object"] true sn sub false col dd k0 k1 k2 k3 k5 "object.__new__")) (ns:h.Ns N mN)
theorem ClsAt.now{C N mN}(c:ClsAt C N mN)(i:Inv s):C9 C N mN s.heap:=by
 obtain⟨nm,q,bs,p,sub,a,d,f,g,j,k,o,h,e,ne⟩:=c;exact⟨nm,q,bs,p,sub,a,d,f,g,j,k,o,i.old.get_of_cls h (λq=>Jo q),jP i.old e ne⟩
inductive Callee:V->Prop
 |g (b:Bi):Callee (.g b)
 |bm (b:Bm) (h:Nat) (hb:b.fn=true):Callee (.bm b h)
 |fn (a:Addr) (o:Obj) (fd:LH) (ho:W.h₁.get? a=IK o) (hc:o.cls≠.none) (hd:o.data=.func fd):Callee (.v (.ref a))
 |mach (C:Addr) (h:∀(A:Around) (s:IY) (P:Keeper->IY->Prop),Inv s->P .machine s->Wp A (QM (.ref C)) P s):Callee (.v (.ref C))
 |o (o:Obj) (fd:LH) (hd:o.data=.func fd):Callee (.o o)
theorem nt{C N mN}(c:ClsAt C N mN):Callee (.v (.ref C)) :=
 have a {A s P} (i:Inv s) (h:P .machine s):Wp A (QM (.ref C)) P s:=by
  obtain⟨nm,q,bs,z,sub,f,k,r,u,w,x,y,e,_⟩:=c.now i;obtain⟨j,g,d,t,os⟩:=s;have o:=Ri;have p:(⟨j,g,d,t,os⟩:IY).TypeIs (.ref C) "type":=⟨_,e,rfl⟩
  delta QM KG
  repeat (any_goals (first | assumption | with_reducible refine Nw e ?_ | with_reducible refine wpAny_load' e ?_ | wp_step))
 .mach C λA s P i h=>a i h
theorem Af{f es p pos}(hp:es.all cN=true)(h:c8 A F (.Name f p) lc st λM i=>Callee M/\fL A F es lc i λvs st₂=>b5 A M vs st₂ Q) :
  c8 A F (.Call (.Name f p) es [] pos) lc st Q :=
 have u {σ st s f M} (hc:Callee f) (D:RV σ st.length s f M) (p:Pre F σ lc st s) (h:fL A F es lc st λvs i=>b5 A f vs i Q) :
   Wp A (UM pos M [] (es.map λe=>(false,eval e F.env)) []) (PV σ st s Q) s:=by
  have c {E P f args} (U:args.any (·.1)=false) (h:Jd (I6 W.prog W.w) A (evalArgs f true args []) (λas s₁=>as.kw=[]/\Jd (I6 W.prog W.w) A (QM f) (λk J=>k=.machine/\Jd (I6 W.prog W.w) A (JX f as.pos) P E J) E s₁) E s) :
    Jd (I6 W.prog W.w) A (UM pos f [] args []) P E s:=by
   refine II (I9 (I5 h (λas s₁ G=>?_) λZ Y x=>x));refine II (K4 ?_);have R:(args.any (λx=>x.fst) || ([]:List (Option Str×Qx Value)).any λx=>x.fst.isNone)=false:=by rw[U];rfl
   obtain⟨ps,kw⟩:=as;have S:kw=[]:=G.1;subst S;refine(R ..).symm▸?_;refine II (I5 G.2 (λk J H=>?_) λZ Y x=>x);refine(H.1 ..).symm▸?_;show Jd _ _ (JX f ps [] >>= λr=>do Mh [r] point;pure r) _ _ _;exact II (I5 H.2 (λr s' hr=>II (I9 (wpAny_point (IP hr)))) λZ Y x=>x)
  have d {s a id b P} (y:s.heap.get? a=IK (gg id b)) (h:P .machine s):Wp A (QM (.ref a)) P s:=by
   exact II (QD y (IP h))
  have k:=λws s' σ' z vs (x:Step σ st s σ' z s') B (q:b5 A f vs z Q)=>fi x (q σ' s' M ws (D.step p.r x) B x.inv x.rel);cases hc with
  |g b =>
   have e:M=b.val:=D;subst e;cases b <;> first | exact Mf (any_false _ _) (eB h p k) | exact KP (any_false _ _) (eB h p k)
  |bm b j hb =>
   refine c (any_false _ _) (eB h p λws s' σ' z vs x B q=>⟨rfl,?_⟩);obtain⟨a,e,_,y,_⟩:=D.step p.r x;subst e;unfold Bm.obj at y;have y:=hb▸y;exact d y ⟨rfl,(k ws s' σ' z vs x B q)⟩
  |fn a o fd y hc hd=>cases D;exact Nj (o:=o) (fd:=fd) (eB h p λws s' σ' z vs x B q=>⟨⟨x.inv.old.get_of_cls y hc,hd⟩,k ws s' σ' z vs x B q⟩)
  |mach C S=>cases D;exact c (any_false _ _) (eB h p λws s' σ' z vs x B q=>⟨rfl,S _ _ _ x.inv ⟨rfl,k ws s' σ' z vs x B q⟩⟩)
  |o o fd hd =>
   obtain⟨a,e,hz,y,hs⟩:=D;have D:RV σ st.length s (.o o) (.ref a):=⟨a,rfl,hz,y,hs⟩
   subst e;refine Nj (o:=o) (fd:=fd) (eB h p λws s' σ' z vs x B q=>⟨⟨?_,hd⟩,k ws s' σ' z vs x B q⟩);obtain⟨a',e',_,T,_⟩:=D.step p.r x;cases e';exact T
 λσ s pr=>by
 refine MH (b0 (h σ s pr) λw s₁ X i v x hv e=>?_);refine(da pos F.env hp).symm▸?_;exact fi x (u e.1 hv (pr.step x) e.2)
inductive FnAt(a:Addr)(q:Str)(params:Arguments)(body:List Stmt)(scope:Scope)(cd dflt:Value):Prop
 |mk (o:Obj) (fd:LH) (ho:W.h₁.get? a=IK o) (hc:o.cls≠.none) (hd:o.data=.func fd) (hq:fd.qualname=q) (hp:fd.params=params) (hb:fd.body=.stmts body) (hs:fd.scope=scope) (hg:fd.globals=Ki) (hcl:fd.closure=[])
  (hdf:fd.defaults=dflt) (hkd:fd.kwdefaults=.none) (hcd:fd.code=cd) (hbi:fd.builtins=Lk)
  (code:W.h₁.CodeRec cd q) (codeCls:∀c o,cd=.ref c->W.h₁.get? c=IK o->o.cls≠.none) (kind:scope.kind=.function) (cells:∀x∈scope.names,x.2≠.cell)
theorem code_at{cd q}(i:Inv s)(h:W.h₁.CodeRec cd q)(hc:∀c o,cd=.ref c->W.h₁.get? c=IK o->o.cls≠.none):s.heap.CodeRec cd q:=by
 refine IJ λa=>?_;obtain⟨c,o,vs,t,e,g,r⟩:=h;refine a ?_;exact⟨c,o,vs,t,e,i.old.get_of_cls g (hc c o e g),r⟩
inductive Fu(x:Str)(P:Value->Prop)(R:List (Str×Value)->Prop)(bs:List (Str×Value)):Prop
 |mk (w:Value) (bs':List (Str×Value)) (e:bs=(x,w)::bs') (h:P w) (t:R bs')
noncomputable def RB(σ:Sg)(n:Nat)(s:IY):Lc->List (Str×Value)->Prop
 |[],bs=>bs=[]
 |p::l,bs=>Fu p.1 (RV σ n s p.2) (RB σ n s l) bs
theorem RB.look{n l y v}:∀ {bs:List (Str×Value)},RB σ n s l bs->l.lookup y=IK v->∃w,bs.lookup y=IK w/\RV σ n s v w:=by
 induction l with
 |nil=>exact λZ q=>by cases q
 |cons p l d =>
  intro bs ⟨w,c,e,h,t⟩ q;subst e;rw[show p::l=(p.1,p.2)::l from rfl,Jn] at q;rw[Jn];cases a:y == p.1 with
  |true=>have q:=a▸q;cases q;exact⟨w,rfl,h⟩
  |false=>have q:=a▸q;exact d t q
noncomputable def sF:Fl->V
 |.ret v=>v
 |_=>.n
noncomputable def jv(A:Around)(a:Addr)(vs:List V)(st:St)(Q:V->St->Prop):Prop:=∀σ s ws,cW σ st.length s vs ws->Inv s->Rel σ st s ->
 M6 (I6 W.prog W.w) A (.call (.ref a) ⟨ws,[]⟩) (λr s'=>match r with | .ok (.ret v)=>PV σ st s Q v s' | _=>False) s
theorem jv.call{a vs st Q}(h:jv A a vs st Q):b5 A (.v (.ref a)) vs st Q:=λσ s w ws hw c i r=>by
 subst hw;exact KD (Mx (h σ s ws c i r) λr s' q=>by
  cases r with
  |error e=>exact q.elim
  |ok f=>cases f with
   |ret v=>exact q
   |_=>exact q.elim)
theorem qi{a q params body scope cd dflt vs}(T:cB)(f:FnAt a q params body scope cd dflt)(G:scope.isCoroutine=false)(j:scope.isGenerator=false)(d:A.depth<recursionLimit)(E:∀(σ:Sg) (n:Nat) (s:IY) (ws:List Value) (fd:LH),Inv s->cW σ n s vs ws->fd.params=params->fd.defaults=dflt->fd.kwdefaults=.none->∃bs,PX s fd ⟨ws,[]⟩ bs/\RB σ n s lc bs.reverse/\∀x∈bs,scope.names.lookup x.1=IK .local)(h:∀L,cK (A.deeper (Kq q scope L a cd)) ⟨Kq q scope L a cd,[],st.length⟩ body lc st λS Z z=>Q (sF S) z):jv A a vs st Q:=by
 intro σ s ws M i r;refine IJ λzz=>?_;obtain⟨o,fd,h1,h2,h3,P,e2,e3,D,e5,e6,e7,e8,R,C,U,c2,kd,cl⟩:=f;obtain⟨bs,F,hn,hl⟩:=E σ _ s ws fd i M e2 e7 e8;refine zz ?_;refine RY d (i.old.get_of_cls h1 h2) h3 (D▸G) (D▸j) e3 (by refine(R ..).symm▸?_;refine(P ..).symm▸?_;exact code_at i U c2) (F _ _ _ _ ?_);refine(D).symm▸?_;refine(e5).symm▸?_;refine(e6).symm▸?_;refine(R).symm▸?_;refine(C).symm▸?_;refine(P).symm▸?_;refine OE cl hl (λh' J p=>?_) kd;have y:=dQ (X:=(· =s.heap.objs.size)) (k:=s.toks+bs.length) i r (λb o e=>(p.2 b (Jw (Ja e))).trans (IS _ e):∀b o,s.heap.get? b=IK o->h'.get? b=IK o) (by rw[p.1,I7];exact I8 _) (Jc _ _);refine⟨y.inv.nolimit T,?_⟩;have fr:ee ⟨Kq q scope s.heap.objs.size a cd,[],st.length⟩ σ st.length lc {s with heap:=h',toks:=s.toks+bs.length}:=by
  refine⟨i.size,⟨_,J,λx v Z hx=>?_⟩,λc=>I2 _ (r.zlt _ c),λk H=>Jw (r.lt H),kd,rfl,rfl,λx k H=>by cases H⟩;obtain⟨w,q1,q2⟩:=hn.look hx;exact⟨w,q1,RV.mono y.x (λb q=>⟨λe=>I2 _ (e▸r.zlt b q),r.zoff b q⟩) v w q2⟩
 refine codeAny_func (dX (h s.heap.objs.size σ _ ⟨y.inv,y.rel,fr⟩) λS s' σ' ab z g x aa u B=>?_);have c:=((y.ir.trans x).fresh (Y:=dY) λb E=>.inr (Js E.symm)).iQ (IQ _);cases g with
 |ret v=>obtain⟨w,rfl,hw⟩:=u;exact⟨σ',z,c,v,hw,B⟩
 |next=>cases u;exact⟨σ',z,c,.n,rfl,B⟩
 |brk=>cases u;exact⟨σ',z,c,.n,rfl,B⟩
 |cont=>cases u;exact⟨σ',z,c,.n,rfl,B⟩
set_option genCtorIdx true in
inductive Ty where
 |str | list | dict | set
end
noncomputable def Ty.s:Ty->String
 |.str=>"str"
 |.list=>"list"
 |.dict=>"dict"
 |.set=>"set"
noncomputable def Dd:O->Option Ty
 |.list Z=>IK .list
 |.dict Z=>IK .dict
 |.dicti Z=>IK .dict
 |.set Z=>IK .set
 |_=>none
noncomputable def F4(st:St):V->Option Ty
 |.s Z Y=>IK .str
 |.c .lst Z=>IK .list
 |.r h=>st[h]?.bind Dd
 |_=>none
section
variable {A:Around}{F:dH}{lc:Lc}{σ:Sg}{σ':Sg}{st:St}{d:St}{s:IY}{s':IY}{Q:V->St->Prop}
noncomputable def EZ(s:IY)(w:Value)(T:String):Prop:=s.TypeIs w T/\∀a,w=.ref a->∃ob,s.heap.get? a=IK ob/\ob.dict=none
inductive Hq(P:Value->Prop)(ws:List Value):Prop
 |mk (x:Value) (e:ws=[x]) (h:P x)
inductive Hp(P R:Value->Prop)(ws:List Value):Prop
 |mk (x y:Value) (e:ws=[x,y]) (h:P x) (h':R y)
theorem fK{n a ws}(h:cW σ n s [a] ws):Hq (RV σ n s a) ws:=by
 obtain⟨x,t,rfl,c,rfl⟩:=h;exact⟨x,rfl,c⟩
theorem jr{n a b ws}(h:cW σ n s [a,b] ws):Hp (RV σ n s a) (RV σ n s b) ws:=by
 obtain⟨x,t,rfl,c,d⟩:=h;obtain⟨y,rfl,e⟩:=fK d;exact⟨x,y,rfl,c,e⟩
noncomputable def MethW(A:Around)(id:String)(a:V)(vs:List V)(st:St)(Q:V->St->Prop):Prop:=b5 A (.v (.builtin id)) (a::vs) st Q
noncomputable def Gv(A:Around)(v:V)(st:St)(Q:V->St->Prop):Prop:=match v with
 |.s x Z=>x.length<=sizeLine/\Q (.i x.length) st
 |.c k vs=>match k with
  |.lst=>Q (.i vs.length) st
  |_=>b5 A (.g .len) [v] st Q
 |.r h=>wH st[h]? (λvs=>Q (.i vs.length) st) (b5 A (.g .len) [v] st Q)
 |_=>b5 A (.g .len) [v] st Q
theorem iI{h vs v}(T:cB)(e:st[h]?=IK (.list vs))(hz:vs.length<sizeLine)(q:Q .n (st.set h (.list (vs++[v])))):MethW A "list.append" (.r h) [v] st Q:=by
 intro σ s w ws hw d i r;subst hw;obtain⟨x,y,rfl,⟨j,rfl⟩,z⟩:=jr d;obtain⟨items,m,p,B,g⟩:=r.at_ h _ e;have a:=g.len;have a:=I3▸a;refine wpAny_list_append_plain ⟨m,p⟩ (λh' f u=>?_) (by rw[a];exact JU hz);obtain⟨n',c⟩:=f;exact⟨_,_,eQ (k:=s.toks) (o:=.list (vs++[v])) T i r j u (IQ _) (λx=>⟨_,n',c,by rw[L3];refine(a).symm▸?_;exact hz,by refine(Ly).symm▸?_;exact cW.app (us:=[v]) (xs:=[y]) ⟨y,[],rfl,RV.mono x r.apart _ _ z,rfl⟩ (g.mono x r.apart)⟩) (λZ Y U q=>nomatch q),.n,rfl,q⟩
theorem mv(h:Heap)(a:Addr)(f:Obj->Obj):(h.update a f).objs.size=h.objs.size:=by
 exact Array.size_modify
theorem kz{M Γ p t fs s s' e}(h:Runs M Γ p t fs s e s'):s.heap.objs.size<=s'.heap.objs.size:=by
 induction h <;> (try simp only[PZ,I7,mv] at *) <;> omega
theorem cG{α}{M:UY}{A:Around}{s:IY}{t:Qx α}{Q:α->IY->Prop}{E:Value->IY->Prop}(h:Jd M A t (λa s'=>s.heap.objs.size<=s'.heap.objs.size->Q a s') E s):Jd M A t Q E s :=
 have w (d:Ctx) (n:Nat) (t:Qx α):∀(Q:α->Ua->IY->Prop) (E:Value->Ua->IY->Prop) (p:Ua) (s:IY),n<=s.heap.objs.size->UR M d t Q E p s ->
   UR M d t (λa D s'=>n<=s'.heap.objs.size/\Q a D s') (λe D s'=>n<=s'.heap.objs.size/\E e D s') p s:=by
  induction t with
  |pure a=>exact λQ E p s i h=>⟨i,h⟩
  |raise e=>exact λQ E p s i h=>⟨i,h⟩
  |unsupported _ | finish _ | register _ _ | yield _ _ _ _ | fork _ _ | await _ _ _ _ _=>exact λQ E p s Z h=>h.elim
  |rule _ k j | point _ k j=>exact λQ E p s i h=>j () Q E p s i h
  |«at» D k j=>exact λQ E p s i h=>j () Q E D s i h
  |load a Z k j=>rintro Q E p s i ⟨o,G,h⟩;exact⟨o,G,j o Q E p s i h⟩
  |update a Z f k j=>exact λQ E p s i h=>⟨h.1,j () Q E p _ (by rw[mv];exact i) h.2⟩
  |alloc o k j=>exact λQ E p s i h=>j _ Q E p _ (by rw[I7];exact b6 0 7 i) h
  |loadIfAlive a k j=>exact λQ E p s i h=>j _ Q E p s i h
  |fresh k j=>exact λQ E p s i h=>j _ Q E p _ i h
  |ask k j | handled _ k j | stack k j | thread k j=>exact λQ E p s i h=>j _ Q E p s i h
  |choose J m k j=>exact λQ E p s i h=>⟨h.1,j _ Q E p _ i h.2⟩
  |os q Z k j=>exact λQ E p s i h=>j _ Q E p _ i h
  |newGen c k j=>exact λQ E p s i h=>j _ Q E p _ i h
  |genState g k j=>rintro Q E p s i ⟨st,H,h⟩;exact⟨st,H,j _ Q E p s i h⟩
  |call c hd Z Y k j=>rintro Q E p s i ⟨r,s',B,h⟩;exact⟨r,s',B,j r Q E p s' (IT i (kz B)) h⟩
  |resume g r Z k j =>
   have u {p s s' z} (h:Wakes M d p g r s z s'):s.heap.objs.size<=s'.heap.objs.size:=by
    delta Wakes at h
    revert h
    generalize s.gens[g]?=y;intro h;cases y with
    |none=>exact Ow h
    |some x =>
     cases x with
     |fresh c =>
      cases r with
      |send v =>
       cases v with
       |none=>obtain⟨C,s₁,B,_,_,rfl⟩:=h;have:=kz B;exact this
       |_=>exact Js (congrArg (λs:IY=>s.heap.objs.size) (Pn h).symm)
      |throw x=>rw[Pn h];exact IQ _
     |suspended=>obtain⟨C,s₁,B,_,_,rfl⟩:=h;have:=kz B;exact this
     |running=>exact Js (congrArg (λs:IY=>s.heap.objs.size) (Pn h).symm)
     |finished=>exact Js (congrArg (λs:IY=>s.heap.objs.size) (Pn h).symm)
   rintro Q E p s i ⟨z,s',hw,h⟩;exact⟨z,s',hw,j z Q E p s' (IT i (u hw)) h⟩
 λd p F=>Qx.wp_mono M d t (λZ Y U x=>x.2 x.1) (λZ Y U x=>x.2) p s (w d _ t _ _ p s (IQ _) (h d p F))
inductive PA(F:dH)(σ:Sg)(st:St)(s:IY)(Q:Lc->St->Prop)(u:Unit)(s':IY):Prop
 |mk (σ':Sg) (lc':Lc) (st':St) (x:cC (· =F.L) σ st s σ' st' s') (fr:ee F σ' st'.length lc' s') (q:Q lc' st')
end
section
variable (A:Around)(F:dH)
noncomputable def dN(t:Expr)(v:V)(lc:Lc)(st:St)(Q:Lc->St->Prop):Prop:=∀σ s w,RV σ st.length s v w->Pre F σ lc st s->Wp A (Ni t F.env w) (PA F σ st s Q) s
noncomputable def pn:List (Expr×V)->Lc->St->(Lc->St->Prop)->Prop
 |[],lc,st,Q=>Q lc st
 |(t,v)::l,lc,st,Q=>dN A F t v lc st λa c=>pn l a c Q
noncomputable def Ar(v:V)(n:Nat)(st:St)(items:List V):Prop:=∀σ s w,RV σ st.length s v w->Inv s->Rel σ st s->Wp A (unpackItems w n none) (λws s'=>cW σ st.length s' items ws/\Step σ st s σ st s') s
end
section
variable {A:Around}{F:dH}{lc:Lc}{g:Lc}{σ:Sg}{σ':Sg}{st:St}{d:St}{s:IY}{s':IY}{Q:Lc->St->Prop}
theorem fO{t P E}(h:Wp A t (PA F σ st s Q) s)(k:∀u s' σ' g d,cC (· =F.L) σ st s σ' d s'->ee F σ' d.length g s'->Q g d->P u s'):Jd (I6 W.prog W.w) A t P E s :=
 I5 h (λu s' p=>p.casesOn λσ' g d x fr q=>k u s' σ' g d x fr q) λZ Y e=>e.elim
theorem pV{t}(x:cC (· =F.L) σ st s σ' d s')(h:Wp A t (PA F σ' d s' Q) s'):Wp A t (PA F σ st s Q) s':=fO h λu c a lc₂ st₂ y fr q=>⟨a,lc₂,st₂,x.trans y,fr,q⟩
theorem dN.mono{t v Q'}(h:dN A F t v lc st Q)(k:∀l d,Q l d->Q' l d):dN A F t v lc st Q':=λσ s w f p=>fO (h σ s w f p) λu s₁ e c a x fr q=>⟨e,c,a,x,fr,k c a q⟩
theorem yX{x p v}(T:cB)(a:F.kd x=IK .local)(h:Q (lc.set x v) st):dN A F (.Name x p) v lc st Q :=
 λσ s w c p=>Pz (gw T p a c λs' y fr=>⟨_,_,_,y,fr,h⟩)
theorem ia(env:Env):∀ {es:List Expr},es.all cN=true->Tf es env=es.map λt=>(false,Ni t env)
 |[],Z=>rfl
 |e::es,h=>by
  simp only[Nd,Ke] at h;have a:Tf (e::es) env=(false,Ni e env)::Tf es env:=by
   cases e <;> first | rfl | exact ft h.1
  refine(a).symm▸?_;refine((ia env h.2)).symm▸?_;exact(JJ).symm▸rfl
theorem ll:∀(l:List (Expr×V)) (ws:List Value) (lc:Lc) (st:St) (σ:Sg) (s:IY),cW σ st.length s (l.map (·.2)) ws->pn A F l lc st Q->Pre F σ lc st s->Wp A (Vc (l.map λx=>Ni x.1 F.env) ws) (PA F σ st s Q) s
 |[],ws,lc,st,σ,s,k,h,p=>by
  subst k;exact Q7 ⟨_,_,_,p.refl,p.f,h⟩
 |(t,v)::l,ws,lc,st,σ,s,⟨w,g,e,i,j⟩,h,p=>by
  subst e;refine Q8 (fO (h σ s w i p) λu s₁ d a c x fr q=>?_);exact pV x (ll l g a c d s₁ (j.mono x.x (p.f.kO p.r rfl)) q ⟨x.inv,x.rel,fr⟩)
theorem tZ{vs}(g:A.handled=none):Ar A (.t vs) vs.length st vs:=λσ s w c i r=>by
 obtain⟨a,items,m,e,hz,h,p,f⟩:=c;subst e;have e:items.size=vs.length:=by refine(f.len)▸?_;exact(I3).symm▸rfl
 refine(e)▸?_;refine cG (wpAny_unpackItems_tuple g ⟨_,h,rfl,m,rfl⟩ λh' j hz=>?_);have x:=dQ (X:=dY) (k:=s.toks) i r (λb o d=>j b o (Jw (Ja d)) d) hz (IQ _);exact⟨f.step r x,x⟩
theorem fS{elts k pos v items}(g:elts.all cN=true)(j:Ar A v elts.length st items)(c:items.length=elts.length)(h:pn A F (elts.zip items) lc st Q):dN A F (.Tuple elts k pos) v lc st Q:=by
 intro σ s w o p;rw[arm_assign_Tuple];refine II (K4 ?_);refine(ia F.env g).symm▸?_;unfold unpack;have d:Ts ((λx:Bool×(Value->Qx Unit)=>x.fst) ∘ λt=>(false,Ni t F.env)) elts=none:=List.findIdx?_eq_none_iff.mpr λx Z=>rfl;rw[IZ,List.findIdx?_map,d];refine II (I9 (I5 (j σ s w o p.i p.r) (λws s₁ a=>?_) λZ Y e=>e));obtain⟨e,x⟩:=a;have f:(List.map (λt=>(false,Ni t F.env)) elts).map (·.2)=(elts.zip items).map λx=>Ni x.1 F.env:=by
  refine(JB).symm▸?_;have:elts=(elts.zip items).map (·.1):=by rw[O8 (Js c.symm)]
  conv=>lhs;rw[this]
  refine(JB).trans ?_;rfl
 refine(f).symm▸?_;exact pV x.iQ (ll _ ws lc st σ s₁ (show cW σ st.length s₁ ((elts.zip items).map (·.2)) ws from by refine(O7 (Js c)).symm▸?_;exact e) h (p.step x))
structure qr(A:Around)(tgt:Expr)(it:Value)(c:V)(w:Value)(X:Addr->Prop)(dep:St->Prop)(items:List V)(I:Nat->Heap->Prop):Prop where
 above:∀b,X b->W.h₁.objs.size<=b
 solid:∀k h b,I k h->X b->∃o,h.get? b=IK o/\dp o
 frame:∀k h h',I k h->(∀b,X b->∀o,h.get? b=IK o->h'.get? b=IK o)->I k h'
 next:∀k v σ st s,items[k]?=IK v->I k s.heap->dep st->RV σ st.length s c w->(∀b,X b->¬σ.z b/\∀h,h<st.length->σ.a h≠b)->Inv s->Rel σ st s ->
  Wp A (Lj it) (λr s'=>∃x,r=IK x/\Wp A (Of tgt it x) (λ_ s''=>∃σ',cC X σ st s σ' st s''/\RV σ' st.length s'' v x/\I (k+1) s''.heap) s') s
 stop:∀σ st s,I items.length s.heap->dep st->RV σ st.length s c w->(∀b,X b->¬σ.z b/\∀h,h<st.length->σ.a h≠b)->Inv s->Rel σ st s->Wp A (Lj it) (λr s'=>r=none/\cC X σ st s σ st s') s
noncomputable def sh(A:Around)(d:Expr)(c:V)(a:St->Prop)(items:List V):Prop:=∀σ st s w,RV σ st.length s c w->a st->Inv s->Rel σ st s ->
 Wp A (Mm w) (λe s'=>∃X I,qr A d e c w X a items I/\I 0 s'.heap/\(∀b,X b->s.heap.objs.size<=b)/\Step σ st s σ st s') s
noncomputable def BR(A:Around)(a:Value)(I:Nat->Heap->Prop):Prop:=∀k s (P:Value->IY->Prop) (E:Value->IY->Prop),I k s.heap->P a s->Jd (I6 W.prog W.w) A (Mm a) P E s
noncomputable def nK(A:Around)(d:Expr)(c:V)(a:St->Prop)(items:List V):Prop:=∀σ st s w,RV σ st.length s c w->a st->Inv s->Rel σ st s ->
 Wp A (Mm w) (λe s'=>∃X I,BR A e I/\qr A d e c w X a items I/\I 0 s'.heap/\(∀b,X b->s.heap.objs.size<=b)/\Step σ st s σ st s') s
theorem nK.iter{A tgt c dep items}(h:nK A tgt c dep items):sh A tgt c dep items:=λσ st s w d f i r =>
 I5 (h σ st s w d f i r) (λZ Y a=>by obtain⟨X,I,q⟩:=a;exact⟨X,I,q.2⟩) λZ Y e=>e
noncomputable def dG(c:St->Prop)(g:V->Lc->St->(Lc->St->Prop)->Prop)(a:Lc->St->(Fl->Lc->St->Prop)->Prop)(Q:Fl->Lc->St->Prop):List V->Lc->St->Prop
 |[],lc,st=>c st/\Q .next lc st
 |v::l,lc,st=>c st/\g v lc st λd e=>a d e λf lc₂ st₂=>match f with
  |.brk=>Q .next lc₂ st₂
  |.ret u=>Q (.ret u) lc₂ st₂
  |_=>dG c g a Q l lc₂ st₂
inductive Fm(A:Around)(tgt:Expr)(c:V)(st:St)(R:(St->Prop)->List V->St->Prop):Prop
 |mk (dep:St->Prop) (items:List V) (hi:sh A tgt c dep items) (hd:dep st) (ht:R dep items st)
inductive PI(A:Around)(tgt:Expr)(σ:Sg)(st:St)(s:IY)(R:(St->Prop)->List V->St->Prop)(it:Value)(s':IY):Prop
 |mk (σ':Sg) (st':St) (x:Step σ st s σ' st' s') (c:V) (w:Value) (hc:RV σ' st'.length s' c w) (X:Addr->Prop) (I:Nat->Heap->Prop) (dep:St->Prop) (items:List V) (ok:qr A tgt it c w X dep items I) (hI:I 0 s'.heap)
   (hX:∀b,X b->s.heap.objs.size<=b) (off:∀b,X b->¬σ'.z b/\∀h,h<st'.length->σ'.a h≠b) (hd:dep st') (ht:R dep items st')
noncomputable def y4(A:Around)(F:dH)(a iter:Expr)(lc:Lc)(st:St)(R:(St->Prop)->List V->St->Prop):Prop:=∀σ s,Pre F σ lc st s->Wp A (eval iter F.env) (λv s₁=>Wp A (Mm v) (PI A a σ st s R) s₁) s
end
section
variable {A:Around}{F:dH}{lc:Lc}{σ:Sg}{σ':Sg}{st:St}{j:St}{s:IY}{s':IY}{Q:Fl->Lc->St->Prop}
noncomputable def dH.at(F:dH)(k:Nat):dH:=⟨F.env,F.ce,k⟩
theorem ee.at{n}(f:ee F σ n lc s)(k:Nat):ee (F.at k) σ n lc s:=⟨f.above,f.ns,f.offz,f.offh,f.kind,f.glob,f.bi,f.cells⟩
theorem ee.un{n k}(f:ee (F.at k) σ n lc s):ee F σ n lc s:=⟨f.above,f.ns,f.offz,f.offh,f.kind,f.glob,f.bi,f.cells⟩
inductive Fc(F:dH)(X:Addr->Prop)(I:Nat->Heap->Prop)(c:V)(w:Value)(k₀:Nat)(items:List V)(T:List V->Lc->St->Prop)(σ:Sg)(st:St)(s:IY)(n:Nat)(s':IY):Prop
 |mk (k:Nat) (σ':Sg) (lc':Lc) (st':St) (hk:k+n=items.length) (hT:T (items.drop k) lc' st') (hI:I k s'.heap) (hc:RV σ' k₀ s' c w) (hn:k₀<=st'.length) (off:∀b,X b->¬σ'.z b/\∀h,h<st'.length->σ'.a h≠b)
   (x:dT (λb=>b=F.L∨X b) F.m σ st s σ' st' s') (fr:ee F σ' st'.length lc' s')
theorem Gz{tgt iter R}(h:c8 A F iter lc st λc d=>Fm A tgt c d R):y4 A F tgt iter lc st R:=by
 intro σ s p;refine b0 (h σ s p) λw s₁ f d c a hc q=>?_;obtain⟨j,items,hi,hd,v⟩:=q;refine I5 (hi f d s₁ w hc hd a.inv a.rel) (λy r o=>?_) λZ Y e=>e.elim;obtain⟨X,I,ok,u,k,g⟩:=o;exact⟨f,d,a.trans g,c,w,hc.step a.rel g,X,I,j,items,ok,u,λb i=>IT a.x.grow (k b i),
  λb i=>⟨λz=>I2 _ (IU (a.rel.zlt b z) (k b i)),λh q e=>I2 _ (IU (a.rel.lt q) (e▸k b i))⟩,hd,v⟩
theorem fQ{e env}(h:jz e=true)(v:Value):PH e env v=pure v:=by
 cases e <;> first | rfl | exact ft h
theorem rH{tgt body it c w X I dep items k₀ σ1 st1 s₁}(ok:qr A tgt it c w X dep items I)(hm:k₀<=F.m)(aq:k₀<=st1.length)(hc:RV σ1 k₀ s₁ c w)(hI:I 0 s₁.heap)(an:∀b,X b->s.heap.objs.size<=b)(ag:∀b,X b->¬σ1.z b/\∀h,h<st1.length->σ1.a h≠b)(p:ee F σ st.length lc s)(az:dT (· =F.L) F.m σ st s σ1 st1 s₁)(av:ee F σ1 st1.length lc s₁)(ht:dG dep (dN A F tgt) (cK A F body) Q items lc st1) :
  M6 (I6 W.prog W.w) A (.forLoop tgt it body [] F.env) (λr s'=>match r with | .ok f=>PF F σ st s Q f s' | .error _=>False) s₁:=by
 have ao:∀b,X b->b≠F.L:=λb d e=>by
  obtain⟨m,hm,_⟩:=p.ns;exact I2 _ (IU hm.lt (e▸an b d))
 have ae:∀ {k σ1 σ2 st1 st₂ s₁ s₂},dT (· =F.L) F.m σ1 st1 s₁ σ2 st₂ s₂->(∀b,X b->¬σ1.z b/\∀h,h<st1.length->σ1.a h≠b)->I k s₁.heap->(∀b,X b->¬σ2.z b/\∀h,h<st₂.length->σ2.a h≠b)/\I k s₂.heap:=λ{k _ _ _ _ s₁ s₂} x off hI =>
  ⟨λb d=>by obtain⟨o,ho,_⟩:=ok.solid _ _ b hI d;exact⟨x.x.zoff (Ja ho) (off b d).1 (off b d).2,x.x.off (Ja ho) (off b d).2⟩,
   ok.frame _ _ _ hI λb d o ho=>by obtain⟨o',au,hs⟩:=ok.solid _ _ b hI d;have ho:=au▸ho;cases ho;exact x.x.keep b _ au hs (off b d).2 (ao b d)⟩
 have up:∀ {σ:Sg} {n:Nat} {s:IY},k₀<=n->RV σ k₀ s c w->RV σ n s c w:=λhn h=>RV.c0 (X:=dY) (n:=0) ⟨λZ=>id,λZ U h T S R=>h,IQ _⟩ (λZ U=>⟨id,λZ q=>absurd q (I4 _)⟩) c _ _ (λh q=>⟨IU q hn,rfl⟩) w h;refine codeAny_forLoop_any (I:=Fc F X I c w k₀ items (dG dep (dN A F tgt) (cK A F body) Q) σ st s)
  (λn s' ⟨k,σ',aB,j,hk,hT,hI,hc,hn,off,x,fr⟩=>?_) items.length ⟨0,σ1,lc,st1,JK _,ht,hI,hc,aq,ag,az.wk λZ=>.inl,av⟩
 cases e:items[k]? with
 |none =>
  have aA:k=items.length:=by have:=List.getElem?_eq_none_iff.mp e;exact b6 17 16 hk this
  subst aA;have hT:=R9▸hT;refine I5 (ok.stop σ' j s' hI hT.1 (up hn hc) off x.inv x.rel) (λr aD af=>?_) λZ U h=>h.elim;obtain⟨e,y⟩:=af;subst e;have z:=x.trans (y.wk λb d=>.inr d).ir;exact Qr ⟨σ',aB,j,z.fresh λb d=>d.imp id λq=>an b q,(fr.step x.rel y (λz=>ao _ z rfl) λb hz hx=>(off b hx).1 hz),.next,rfl,hT.2⟩
 |some v =>
  have ab:=(List.getElem?_eq_some_iff.mp e).1;rw[J7 ab,(List.getElem?_eq_some_iff.mp e).2] at hT;refine I5 (ok.next k v σ' j s' e hI hT.1 (up hn hc) off x.inv x.rel) (λr aD af=>?_) λZ U h=>h.elim;obtain⟨u,er,as⟩:=af;subst er;refine I5 as (λZ ai af=>?_) λZ U h=>h.elim;obtain⟨E,y,hv,al⟩:=af;have M:=fr.step x.rel y (λz=>ao _ z rfl) λb hz hx=>(off b hx).1 hz;have ap:RV E k₀ ai c w:=RV.c0 y.x.kp (λb hz=>⟨λhx=>(off b hx).1 hz,x.rel.zoff b hz⟩) c _ _ (λh q=>⟨q,y.x.ext h (IU q hn)⟩) w hc;refine fO (hT.2 E ai u hv ⟨y.inv,y.rel,M⟩) λZ ax ar aC aE J ak aw=>?_;obtain⟨ah,am⟩:=ae J.ir (λb d=>by obtain⟨o,ho,_⟩:=ok.solid _ _ b hI d;exact⟨y.x.zoff (Ja ho) (off b d).1,y.x.off (Ja ho) (off b d).2⟩:∀b,X b->¬E.z b/\∀h,h<j.length->E.a h≠b) al;refine dX (aw ar ax ⟨J.inv,J.rel,ak⟩) λf ay i C D g aj B hg H=>?_;obtain⟨G,P⟩:=ae aj ah am;have zz:=J.ir.trans aj;have all:=x.trans ((y.wk (Y:=λb=>b=F.L∨X b) λb d=>.inr d).ir.trans (zz.wk λb d=>.inl d));have fin:=all.fresh (Y:=(· =F.L)) λb d=>d.imp id λq=>an b q;have aa:RV i k₀ ay c w:=RV.c0 zz.x.kp (M.kO y.rel rfl) c _ _ (zz.x.same hm hn) w ap;have ac:=zz.x.le hm hn;cases g with
  |next=>cases hg;exact⟨n-1,by exact b6 17 17 hk ab,k+1,i,C,D,by exact b6 17 18 hk ab,H,P,aa,ac,G,all,B⟩
  |cont=>cases hg;exact⟨n-1,by exact b6 17 17 hk ab,k+1,i,C,D,by exact b6 17 18 hk ab,H,P,aa,ac,G,all,B⟩
  |brk=>cases hg;exact⟨i,C,D,fin,B,.next,rfl,H⟩
  |ret v=>obtain⟨w',rfl,hw⟩:=hg;exact⟨i,C,D,fin,B,.ret v,⟨w',rfl,hw⟩,H⟩
theorem PF.un{k f}(h:PF (F.at k) σ st s Q f s')(d:F.m<=k):PF F σ st s Q f s':=by
 obtain⟨σ',a,j,x,fr,g,c,q⟩:=h;exact⟨σ',a,j,x.GL d,fr.un,g,c,q⟩
noncomputable def dH.up(F:dH)(n:Nat):dH:=F.at (F.m+n)
theorem kM{tgt iter body pos}(x:jz iter=true)(h:y4 A F tgt iter lc st λi items a=>dG i (dN A (F.up a.length) tgt) (cK A (F.up a.length) body) Q items lc a):eG A F (.For tgt iter body [] pos) lc st Q:=by
 intro σ s p;refine wpAny_For (I5 (h σ s p) (λv s₁ q=>I5 q (λC k z=>?_) λZ Y e=>e.elim) λZ Y e=>e.elim) (fQ x);obtain⟨j,a,g,c,w,hc,X,I,i,items,ok,o,u,d,hd,y⟩:=z;exact Mx (rH (F:=F.up a.length) ok (PR _ _) (IQ _) hc o u d (p.f.at _) g.iQ.ir ((p.step g).f.at _) y) λr s' h=>by
  cases r with
  |error e=>exact h.elim
  |ok B=>exact PF.un h (Jc _ _)
noncomputable def V.free:V->Bool
 |.r Z=>false
 |.bm Z Y=>false
 |.c k Z=>(match k with
  |.lst=>true
  |_=>false)
 |_=>true
theorem RV.free{v w n}(h:v.free=true)(q:RV σ n s v w):RV σ 0 s v w:=by
 cases v with
 |r=>cases h
 |bm=>cases h
 |c k vs=>cases k <;> first | exact q | cases h
 |_=>exact q
theorem h9{tgt iter body pos}(C:jz iter=true)(h:c8 A F iter lc st λc d=>c.free=true/\Fm A tgt c d λo items st₂=>dG o (dN A F tgt) (cK A F body) Q items lc st₂):eG A F (.For tgt iter body [] pos) lc st Q:=by
 intro σ s p;refine wpAny_For (b0 (h σ s p) λw s₁ k d c a hc j=>?_) (fQ C);obtain⟨i,o,items,hi,hd,D⟩:=j;refine I5 (hi k d s₁ w hc hd a.inv a.rel) (λG y j=>?_) λZ Y e=>e.elim;obtain⟨X,I,ok,B,v,g⟩:=j;exact Mx (rH (F:=F) (k₀:=0) ok (Ji _) (Ji _) ((hc.step a.rel g).free i) B (λb u=>IT a.x.grow (v b u))
  (λb u=>⟨λz=>I2 _ (IU (a.rel.zlt b z) (v b u)),λh q e=>I2 _ (IU (a.rel.lt q) (e▸v b u))⟩) p.f (a.trans g).iQ.ir (p.step (a.trans g)).f D) λr s' h=>by
   cases r with
   |error e=>exact h.elim
   |ok E=>exact h
noncomputable def xB(n:String):Bool:=["enumerate","zip","dict_itemiterator","dict_reverseitemiterator","odict_iterator","itertools.zip_longest","itertools.pairwise"].contains n
theorem fY{tgt I v o n P E}(j:s.heap.get? I=IK o)(hc:o.cls=.type n)(i:xB n=false)(h:P () s) :
  Jd (I6 W.prog W.w) A (Of tgt (.ref I) v) P E s:=by
 obtain⟨c,d,e,k⟩:=o;simp only at hc;subst hc;have f:["enumerate","zip","dict_itemiterator","dict_reverseitemiterator","odict_iterator","itertools.zip_longest","itertools.pairwise"].contains n=false:=i;have g:Jd (I6 W.prog W.w) A (do
   let (.ref r,.ref a):=(Jy I,v) | return
   let o <-load r
   match o.cls,o.data with
   |.type n,.fields vs =>
    if ["enumerate","zip","dict_itemiterator","dict_reverseitemiterator","odict_iterator","itertools.zip_longest","itertools.pairwise"].contains n&&vs[0]? == IK (Lb a) then
     rule "for.unpacks-the-owned-tuple"
     updateField r 0 .none
   |Z,Y=>pure ()) P E s:=by
  cases v <;> try exact IP h
  refine II (QD j ?_);cases e <;> try exact IP h
  dsimp only;refine(f).symm▸?_;rw[Bool.false_and];exact IP h
 cases tgt <;> first | exact g | exact IP h
inductive IC(h:Heap)(P:List Value->Prop)(w:Value):Prop
 |mk (l:Addr) (items:Array Value) (m:Nat) (e:w=.ref l) (ho:h.get? l=IK (Kd.lst.obj items m)) (hv:P items.toList)
noncomputable def LstAt(c:V)(vs:List V)(a:St->Prop):Prop:=∀σ st s w,RV σ st.length s c w->a st->Rel σ st s->IC s.heap (cW σ st.length s vs) w
theorem cY{h vs}:LstAt (.r h) vs λst=>st[h]?=IK (.list vs):=λσ st s w hw hd r=>by
 obtain⟨items,m,a,_,c⟩:=r.at_ h _ hd;exact⟨_,items,m,hw.2,a,c⟩
theorem cS{vs}:LstAt (.l vs) vs λZ=>True:=λσ st s w h Z Y=>h.casesOn λa items m e Z c Y d=>⟨a,items,m,e,c,cW.wD (k:=.lst) d⟩
theorem kI{tgt c vs dep}(T:cB)(Q:A.handled=none)(la:LstAt c vs dep):nK A tgt c dep vs:=by
 intro σ st s w hw hd i r;obtain⟨l,items,m,e,f,z⟩:=la σ st s w hw hd r;subst e;have H:=i.size;refine Nv ⟨_,f,rfl,m,rfl⟩ ⟨(· =s.heap.objs.size),λk h=>h.IsListIter s.heap.objs.size l k,λk s P E h R=>wpAny_pyIter_listiter h R,⟨λb e=>e▸i.size,λk h b p e=>by obtain⟨o,f,hc,_⟩:=p;exact⟨o,e▸f,b9 hc⟩,λk h h' y D=>by obtain⟨o,f,hc,hd⟩:=y;exact⟨o,D _ rfl o f,hc,hd⟩,λk v a d s₁ D B hd hw off i r=>?_,λa d s₁ B hd hw off i r=>?_⟩,⟨_,I0 _ rfl,rfl,rfl⟩,λb e=>Js e.symm,d6 i r⟩
 ·obtain⟨l',items,m,e,f,z⟩:=la a d s₁ _ hw hd r;cases e;obtain⟨u,J,M⟩:=z.get D;refine N9 B ⟨_,f,rfl,m,rfl⟩ (by refine(Ju)▸?_;exact J) λh' g G=>⟨u,rfl,?_⟩
  have j:=g;refine IJ λY=>?_;obtain⟨o',F,C,_⟩:=j;refine Y ?_;refine fY F C (by decide) ?_;have x:=fU (X:=(· =s.heap.objs.size)) (k:=s₁.toks) T i r H rfl (off _ rfl).1 (off _ rfl).2 G (IQ _);exact⟨a,x,RV.mono x.x (λb hz=>⟨λe=>(off b e).1 hz,r.zoff b hz⟩) v u M,g⟩
 ·obtain⟨l',items,m,e,f,z⟩:=la a d s₁ _ hw hd r;cases e;have S:items[vs.length]?=none:=by rw[LJ,<-I3,z.len];exact IQ _
  exact cG (Ou Q B ⟨_,f,rfl,m,rfl⟩ S λh' U hz=>⟨rfl,dJ T i r H rfl (off _ rfl) (λb o q e=>U b o q e) hz (IQ _)⟩)
theorem iG{tgt c vs dep}(T:cB)(a:A.handled=none)(la:LstAt c vs dep):sh A tgt c dep vs:=(kI T a la).iter
noncomputable def upTo(a b:Int):List V:=(J4 (b-a).toNat).map fun(k:Nat)=>.i (a+k)
theorem jm{tgt c it w items P St cl}(T:cB)(wk:Walks W.prog W.w A it [it] [it] items.length P St)(y:W.h₁.objs.size<=it)(E:∀k v σ n s,items[k]?=IK v->∀x,P k x->RV σ n s v x)(j:∀k h,St k h->∃o,h.get? it=IK o/\o.cls=.type cl)(C:xB cl=false)(z:∀k h h',St k h->(∀o,h.get? it=IK o->h'.get? it=IK o)->St k h'):qr A tgt (.ref it) c w (· =it) (λZ=>True) items St:=by
 refine⟨λb e=>e▸y,λk h b f e=>?_,λk h h' f u=>z k h h' f λo=>u it rfl o,λk v σ st s u f Z Y off i r=>?_,λσ st s f Z Y off i r=>?_⟩
 ·obtain⟨o,D,hc⟩:=j k h f;exact⟨o,e▸D,b9 hc⟩
 ·have B:=(List.getElem?_eq_some_iff.mp u).1;refine wpAny_toks (cG (wk.item k s _ _ B f λx h' tk F p d a g=>⟨x,rfl,?_⟩));refine IJ λG=>?_;obtain⟨o,D,hc⟩:=j _ _ p;refine G ?_;exact fY D hc C ⟨σ,dJ T i r y rfl (off _ rfl) (λb o q e=>d b o (by simpa using q) e) a g,E k v σ _ _ u x F,p⟩
 ·exact wpAny_toks (cG (wk.done s _ _ f λh' tk d a g=>⟨rfl,dJ T i r y rfl (off _ rfl) (λb o q e=>d b o (by simpa using q) e) a g⟩))
structure jI(T id:String)(nm:Str):Prop where
 nmok:[IM "__module__",IM "__name__",IM "__qualname__",IM "__doc__",IM "__annotations__"].contains nm=false
 told:Manifest.toldItsClass.contains id=false
 own:".".intercalate (id.cutAt '.').dropLast=T
 sub:Mq (.type T) (.type T)=pure true
 look:JE (.type T) nm=pure (IK (.builtin id))
 ty:LU (.builtin id)=pure (.type "method_descriptor")
 ga:T9 T "__getattribute__" (T++".__getattribute__")
 en:Nh QE (T++".__getattribute__")=IK Builtin.«object.__getattribute__»
 ar:∀a b,NI (T++".__getattribute__") ⟨[a,b],[]⟩
 gt:JE (.type T) "__getattr__"=pure none
noncomputable def notCls:Data->Bool
 |.cls Z=>false
 |_=>true
variable {prog:Program}{w:K8}{E:Value->IY->Prop}{a:Addr}{T:String}{id:String}{nm:Str}
theorem nT{o P}(b:jI T id nm)(z:s.heap.get? a=IK o)(hc:o.cls=.type T)(hd:o.dict=none)(x:notCls o.data=true)(h:P (.ref s.heap.objs.size) {s with heap:=s.heap.push (gg id a),toks:=s.toks+1}) :
  Jd (I6 prog w) A (TP (.ref a) nm true) P E s:=by
 have f {prog w A E s a T id nm o u P} (b:jI T id nm) (z:s.heap.get? a=IK o) (hc:o.cls=.type T) (hd:o.dict=none) (x:notCls o.data=true) (h:P (.done (.ret (.ref s.heap.objs.size))) {s with heap:=s.heap.push (gg id a)}) :
   Jd (I6 prog w) A (Builtin.«object.__getattribute__» ⟨[.ref a,.str nm u],[]⟩) P E s:=by
  have j:Nh QE "method_descriptor.__get__"=IK Builtin.«method_descriptor.__get__»:=MK (by kernel_rfl);have p (a b c:Value):NI "method_descriptor.__get__" ⟨[a,b,c],[]⟩:=by
   unfold NI;kernel_rfl
  have k {d}:notCls d=true->(match d with | .cls c=>pure (IK c.ns) | _=>instanceDict a false:Qx (Option Addr))=instanceDict a false:=by
   intro h;cases d <;> first | rfl | exact IW (h:false=true)
  have i {prog w A E s a T nm P} (b:jI T id nm) (v:s.TypeIs (.ref a) T) (h:P (.done (.ret (.ref s.heap.objs.size))) {s with heap:=s.heap.push (gg id a)}) :
    Jd (I6 prog w) A (Builtin.«method_descriptor.__get__» ⟨[.builtin id,.ref a,.type T],[]⟩) P E s:=by
   obtain⟨y,g,d,tk,os⟩:=s;unfold Builtin.«method_descriptor.__get__»
   repeat (any_goals (first | assumption | wp_step))
   refine(b.told).symm▸?_
   repeat (any_goals (first | assumption | wp_step))
   refine(b.own).symm▸?_;refine(b.sub).symm▸?_;refine IP ?_;rw[if_neg (by decide)];refine IP ?_
   repeat (any_goals (first | assumption | wp_step))
  obtain⟨y,g,d,tk,os⟩:=s;obtain⟨c,D,B,M⟩:=o;simp only at hc hd x;subst hc hd;have v:(⟨y,g,d,tk,os⟩:IY).TypeIs (.ref a) T:=⟨_,z,rfl⟩
  have Q:=b.look;have R:=b.ty;have e:T9 "method_descriptor" "__get__" "method_descriptor.__get__" :=
   .of (owner:="method_descriptor") (n:="__get__") (by rw[Jz,Jh];kernel_rfl) (by decide +kernel) (by decide +kernel) (by decide +kernel)
    (by first | exact .inl (by decide +kernel) | exact .inr (by decide +kernel)) (by rw[J6];kernel_rfl)
  have F:=e.lookup;have J:∀s:IY,s.TypeIs (.builtin id) "method_descriptor":=λZ=>b.ty;have r:JE (.type "method_descriptor") "__set__"=pure none:=by rw[Jz,Jh];kernel_rfl
  have G:=r;have q:JE (.type "method_descriptor") "__delete__"=pure none:=by rw[Jz,Jh];kernel_rfl
  have H:=q;unfold Builtin.«object.__getattribute__»
  repeat (any_goals (first | assumption | wp_step))
  refine Eq.mpr (congrArg (λt=>Jd _ A t _ E _) (k x)) ?_
  repeat (any_goals (first | assumption | wp_step))
  refine(b.nmok).symm▸?_;rw[if_neg (by decide)]
  repeat (any_goals (first | assumption | wp_step))
  refine Kj e.plain j (e.check _ _ _ _ _ _ _ _ (J _) (p _ _ _) (i b v ?_))
  repeat (any_goals (first | assumption | wp_step))
 obtain⟨y,g,d,tk,os⟩:=s;obtain⟨c,D,B,M⟩:=o;simp only at hc hd x;subst hc hd;have v:∀C,(⟨y,g,d,C,os⟩:IY).TypeIs (.ref a) T:=λZ=>⟨_,z,rfl⟩
 have F:=b.ga.lookup;have G:=b.ga.bind (.ref a);have H:=b.gt;delta TP getAttrBy
 repeat (any_goals (first | assumption | exact v _ | ((with_reducible show Jd _ _ (call (Oh (T++".__getattribute__")) _ _) _ _ _);refine JG b.ga (v _) b.en (f b z rfl rfl x ?_) (b.ar _ _)) | wp_step))
 refine⟨_,rfl,?_⟩;exact IP h
theorem nv:jI "dict" "dict.get" "get" where
 nmok:=by decide +kernel
 told:=by decide +kernel
 own:=by decide +kernel
 sub:=by rw[J6];kernel_rfl
 look:=Qo.lookup
 ty:=Qj
 ga:=OJ
 en:=QP
 ar:=Ov
 gt:=Sw
mutual
theorem CX:jI "dict" "dict.__contains__" "__contains__" where
 nmok:=by decide +kernel
 told:=by decide +kernel
 own:=by decide +kernel
 sub:=nv.sub
 look:=PySem.F.slot_dict_contains.lookup
 ty:=by show Su _=_;refine(OU).symm▸?_;kernel_rfl
 ga:=OJ
 en:=QP
 ar:=Ov
 gt:=Sw
theorem tH:jI "set" "set.__contains__" "__contains__" where
 nmok:=by decide +kernel
 told:=by decide +kernel
 own:=by decide +kernel
 sub:=by rw[J6];kernel_rfl
 look:=PySem.F.slot_set_contains.lookup
 ty:=by show Su _=_;rw[OU];kernel_rfl
 ga:=PySem.F.slot_set_getattribute
 en:=QN (id':="object.__getattribute__") (by kernel_rfl) (by decide +kernel) (by decide +kernel) (by kernel_rfl)
 ar:=PySem.F.args_set_getattribute_2
 gt:=by rw[Jz,Jh];kernel_rfl
end
structure jf where
 N:Addr
 ms:List (Str×Addr)
 as:List Str
inductive E7(mN:Str->Option Value)(x:Str)(fa:Addr):Prop
 |mk (o:Obj) (fd:LH) (y:Option Value) (h1:mN x=IK (.ref fa)) (h2:W.h₁.get? fa=IK o) (h3:o.cls=.type "function") (h4:o.data=.func fd) (h5:JE (.type "object") x=pure y)
inductive pj(C:Addr)(c:jf):Prop
 |mk (mN:Str->Option Value) (at_:ClsAt C c.N mN) (sa:mN "__setattr__"=none) (ga:mN "__getattribute__"=none) (gt:mN "__getattr__"=none) (ms:∀x fa,c.ms.lookup x=IK fa->E7 mN x fa)
   (as:∀x,c.as.contains x=true->mN x=none/\JE (.type "object") x=pure none)
end
section
variable {A:Around}{F:dH}{lc:Lc}{σ:Sg}{σ':Sg}{st:St}{z:St}{s:IY}{s':IY}{Q:V->St->Prop}
inductive Ff(σ:Sg)(n:Nat)(s:IY)(x C d:Nat)(m:Lc):Prop
 |mk (f:Str->Option Value) (o:Obj) (hi:s.heap.Inst (σ.a x) C f) (hk:nJ σ n s m f) (hn:∀y,m.lookup y=none->f y=none) (ho:s.heap.get? (σ.a x)=IK o) (hd:o.dict=IK (σ.a d)) (dn:d<n) (ne:σ.a d≠σ.a x)
theorem m4{x C d m}(g:st[x]?=IK (.inst C d))(c:st[d]?=IK (.ns m))(r:Rel σ st s):Ff σ st.length s x C d m:=by
 obtain⟨o,i,hc,hd,dn,p⟩:=r.at_ x _ g;obtain⟨f,h,j,k⟩:=r.at_ d _ c;have ne:σ.a d≠σ.a x:=λe=>by
  have:=r.inj d x dn (List.getElem?_eq_some_iff.mp g).1 e;subst this;have c:=g▸c;cases c
 exact⟨f,o,⟨o,i,hc,p,.inr ⟨σ.a d,hd,ne,h⟩⟩,j,k,i,hd,dn,ne⟩
noncomputable def iN(A:Around)(v:V)(name:Str)(st:St)(Q:V->St->Prop):Prop:=∀σ s w,RV σ st.length s v w->Inv s->Rel σ st s->Wp A (TP w name true) (PV σ st s Q) s
theorem nD{o name env whole}(h:fZ o=true):attributeBase o name env whole=whole:=by
 cases o with
 |Call f c d p=>cases c with
  |nil=>cases d with
   |nil=>exact IW (h:false=true)
   |cons k e=>cases f <;> rfl
  |cons a as=>cases f <;> rfl
 |_=>rfl
theorem Ag{o name pos}(g:fZ o=true)(h:c8 A F o lc st λv a=>iN A v name a Q):c8 A F (.Attribute o name pos) lc st Q:=by
 intro σ s p;rw[arm_eval_Attribute,nD g];refine II (b0 (h σ s p) λu s₁ d a v c j q=>?_);refine II (K4 ?_);refine II (I9 (b0 (q d s₁ u j c.inv c.rel) λw i e st₂ b f g q=>?_));exact II (Sj (IP ⟨e,st₂,c.trans f,b,g,q⟩))
theorem nE{j T nm b}(d:b.fn=true)(B:jI T b.id nm)(f:∀σ s,Rel σ st s->∃o,s.heap.get? (σ.a j)=IK o/\o.cls=.type T/\o.dict=none/\notCls o.data=true)(h:Q (.bm b j) st):iN A (.r j) nm st Q:=by
 intro σ s w ⟨q,e⟩ i r;subst e;refine IJ λu=>?_;obtain⟨o,p,hc,hd,g⟩:=f σ s r;refine u ?_;exact nT B p hc hd g ⟨_,_,(fg (X:=dY) (h':=s.heap.push (gg b.id (σ.a j))) (k:=s.toks+1) i r (IQ _) (by rw[I7];exact Jg _) (λc y e=>IS _ e) (I8 _)),.bm b j,⟨_,rfl,.inr rfl,by unfold Bm.obj;refine(d).symm▸?_;exact I0 _ rfl,q⟩,h⟩
theorem nh{o:Obj}{K}[DecidableEq K]{knd:KeyKind W.prog W.w K}{ws}(h:o.IsDictOf knd ws):o.cls=.type "dict"/\o.dict=none/\notCls o.data=true:=by
 refine IJ λa=>?_;obtain⟨es,ep,e,hd,_⟩:=h;refine a ?_;exact⟨e.1,e.2.1,by refine(hd).symm▸?_;rfl⟩
mutual
theorem tI{j o}(e:st[j]?=IK o)(c:Dd o=IK .dict):∀σ s,Rel σ st s->∃o,s.heap.get? (σ.a j)=IK o/\o.cls=.type "dict"/\o.dict=none/\notCls o.data=true:=λσ s r=>by
 have q:=r.at_ j o e;cases o with
 |dict d=>obtain⟨o,ws,c,hd,_⟩:=q;exact⟨o,c,nh hd⟩
 |dicti d=>obtain⟨o,ws,c,hd,_⟩:=q;exact⟨o,c,nh hd⟩
 |_=>cases c
theorem wo{j l}(e:st[j]?=IK (.set l)):∀σ s,Rel σ st s->∃o,s.heap.get? (σ.a j)=IK o/\o.cls=.type "set"/\o.dict=none/\notCls o.data=true:=λσ s r=>by
 refine IJ λd=>?_;obtain⟨es,ep,t,c,_⟩:=r.at_ j _ e;refine d ?_;exact⟨_,c,rfl,rfl,rfl⟩
end
noncomputable def pg(A:Around)(a:V)(name:Str)(v:V)(st:St)(Q:St->Prop):Prop:=∀σ s u w,RV σ st.length s a u->RV σ st.length s v w->Inv s->Rel σ st s->Wp A (setAttr u name w) (λZ s'=>PB σ st s (λZ=>Q) true s') s
inductive E8(C:Addr)(name:Str)(st:St)(x:Nat)(R:Addr->Prop):Prop
 |mk (d:Nat) (m:Lc) (c:jf) (fa:Addr) (hc:pj C c) (h1:st[x]?=IK (.inst C d)) (h2:st[d]?=IK (.ns m)) (hf:c.ms.lookup name=IK fa) (hm:m.lookup name=none) (q:R fa)
noncomputable def made(A:Around):Around:={A with depth:=A.depth+1,units:=A.units+1}
theorem mc{C vs}:A.under (.builtin "type.__call__" ⟨.ref C::vs,[]⟩)=made A:=by
 obtain⟨hd,d,f,g,u⟩:=A;cases f <;> cases g <;> rfl
theorem xS{E nm q C N bs sn sub col dd k0 k1 k2 k3 k5 mN rest fI oI P}(c:s.heap.get? C=IK (Sr nm q C N bs [.type "object"] true sn sub false col dd k0 k1 k2 k3 k5 "object.__new__"))(p:s.heap.Ns N mN)(hi:mN "__init__"=IK (.ref fI))(i:s.heap.get? fI=IK oI)(k:oI.cls=.type "function")(u:Jd (I6 W.prog W.w) (A.under (.builtin "type.__call__" ⟨.ref C::rest,[]⟩)) (JX (.ref fI) (.ref (s.heap.objs.size+1)::rest)) (λr s'=>r=.none/\P (.ref (s.heap.objs.size+1)) s') E
   {s with heap:=(s.heap.push {cls:=.type "dict",data:=.dict #[]}).push {cls:=.ref C,dict:=IK s.heap.objs.size,data:=.plain}}) :
  Jd (I6 W.prog W.w) A (JX (.ref C) rest) P E s:=by
 obtain⟨h,g,d,t,os⟩:=s;dsimp only at c p i u;have z:=Ri;have B:=tc_bind (.ref C);have D:(⟨h,g,d,t,os⟩:IY).TypeIs (.ref C) "type":=⟨_,c,rfl⟩
 refine KD (Mj ?_);show Jd _ _ (callAny (.ref C) _) _ _ _
 repeat (any_goals (first | assumption | with_reducible refine Nw c ?_ | wp_step))
 refine⟨rfl,?_⟩;refine Rn (MZ _ (by decide +kernel)) UK (wpAny_check_type_call_sub c ?_)
 repeat (first | with_reducible refine Nw c ?_ | with_reducible refine wpAny_madeBy_exc c ?_ | wp_step)
 refine codeAny_call_builtin_code (MZ _ F.objNew.quiet) (wpAny_check_obj_new F.objNew c ?_);refine codeAny_obj_new F.objNew c p hi ?_;have a:=IS {cls:=.ref C,dict:=IK h.objs.size,data:=.plain} (IS {cls:=.type "dict",data:=.dict #[]} c);have f:((h.push {cls:=.type "dict",data:=.dict #[]}).push {cls:=.ref C,dict:=IK h.objs.size,data:=.plain}).Ns N mN :=
  let ⟨o,es,ep,e,r⟩:=p;⟨o,es,ep,IS _ (IS _ e),r⟩
 have j:((h.push {cls:=.type "dict",data:=.dict #[]}).push {cls:=.ref C,dict:=IK h.objs.size,data:=.plain}).get? (h.objs.size+1)=IK {cls:=.ref C,dict:=IK h.objs.size,data:=.plain}:=by heap_get
 repeat (first | with_reducible refine Nw j ?_ | (with_reducible refine wpAny_isSubtype_exc a ?_;refine((show(Jy C::[PK "object"]).contains (.ref C)=true from by simp)).symm▸?_) | wp_step)
 refine wpAny_typeLookup_exc a f (show Sp (.type "object")=pure [.type "object"] from by kernel_rfl) (show JE (.type "object") "__init__"=pure (IK (.builtin "object.__init__")) from by rw[Jz,Jh];kernel_rfl) ?_;refine(hi).symm▸?_;refine I9 (II ?_);refine II (Px (T:="function") ⟨_,(IS {cls:=.ref C,dict:=IK h.objs.size,data:=.plain} (IS {cls:=.type "dict",data:=.dict #[]} i)),k⟩ ?_);rw[if_pos (by decide)];refine IP (II (I5 u (λr s' y=>?_) λZ Y x=>x));obtain⟨rfl,v⟩:=y
 wp_walk
 exact v
theorem rZ{C N fI mN vs of}(c:ClsAt C N mN)(hi:mN "__init__"=IK (.ref fI))(J:W.h₁.get? fI=IK of)(j:of.cls=.type "function")(h:b5 (made A) (.v (.ref fI)) (.r (st.length+1)::vs) ((st++[.ns []])++[.inst C st.length]) λv z=>v=.n/\Q (.r (st.length+1)) z):b5 A (.v (.ref C)) vs st Q:=by
 intro σ s w ws hw B i r;subst hw;obtain⟨nm,q,bs,sn,sub,D,M,P,R,S,T,k5,F,u⟩:=c.now i;refine xS F u hi (i.old.get_of_cls J (by refine(j).symm▸?_;exact λq=>Jo q)) j ?_;refine(mc).symm▸?_;have p:(s.heap.push {cls:=.type "dict",data:=.dict #[]}).get? s.heap.objs.size=IK {cls:=.type "dict",data:=.dict #[]}:=I0 _ rfl;have hsz:(s.heap.push {cls:=.type "dict",data:=.dict #[]}).objs.size=s.heap.objs.size+1:=I7 ..;have d:=eS (X:=dY) (b:=s.heap.objs.size) (h':=s.heap.push {cls:=.type "dict",data:=.dict #[]}) (k:=s.toks) (o:=.ns []) i r (IQ _) (λc y e=>IS _ e) (by rw[hsz];exact I8 _) (IQ _)
  (λZ=>⟨_,Heap.Ns1.of_empty ⟨_,#[],_,p,rfl,λe H=>absurd H (by simp),λZ=>rfl⟩,λZ Y q=>(nomatch q),λZ Y=>rfl⟩) (λZ Y U q=>nomatch q)
 have g:(st++[O.ns []]).length=st.length+1:=IL;have E:(σ.new st.length s.heap.objs.size).a st.length=s.heap.objs.size:=if_pos rfl;have f:=eS (X:=dY) (b:=s.heap.objs.size+1) (h':=(s.heap.push {cls:=.type "dict",data:=.dict #[]}).push {cls:=.ref C,dict:=IK s.heap.objs.size,data:=.plain}) (k:=s.toks) (o:=.inst C st.length) d.inv d.rel (by refine(hsz).symm▸?_;exact IQ _) (λc y e=>IS _ e) (by simp only[I7];exact I8 _) (IQ _)
  (λx=>⟨_,by exact(hsz)▸I0 _ rfl,rfl,by rw[g] at x ⊢;rw[x.ext st.length (Jg _),E],by rw[g];exact JL (Jg _),by intro c q;cases q⟩) (λZ Y U q=>nomatch q)
 rw[g] at f;have x:=d.trans f;refine b0 (h _ _ (.ref fI) (.ref (s.heap.objs.size+1)::ws) rfl ⟨_,ws,rfl,⟨by rw[IL];refine(g).symm▸?_;exact Jg _,congrArg Jy (if_pos rfl).symm⟩,B.step r x⟩ x.inv x.rel) λv s' σ' z a y G e=>?_;obtain⟨rfl,q⟩:=e;subst G;refine⟨rfl,σ',z,x.trans y,.r (st.length+1),⟨IU (by rw[IL,g];exact Jg _) y.x.len,?_⟩,q⟩;rw[y.x.ext _ (by rw[IL,g];exact Jg _)];exact congrArg Jy (if_pos rfl).symm
end
section
variable {K:Type}[DecidableEq K]
noncomputable def cR:List (K×V)->K->Option V
 |[],Z=>none
 |p::l,k=>if p.1=k then IK p.2 else cR l k
noncomputable def il:List (K×V)->K->V->List (K×V)
 |[],k,v=>[(k,v)]
 |p::l,k,v=>if p.1=k then(p.1,v)::l else p::il l k v
mutual
theorem nk(p:K×V)(l:List (K×V))(k:K):cR (p::l) k=if p.1=k then IK p.2 else cR l k:=rfl
theorem ql(p:K×V)(l:List (K×V))(k:K)(v:V):il (p::l) k v=if p.1=k then(p.1,v)::l else p::il l k v:=rfl
theorem fF{p:K×V}{l:List (K×V)}{k:K}(e:p.1=k):cR (p::l) k=IK p.2:=if_pos e
theorem dU{p:K×V}{l:List (K×V)}{k:K}(e:¬p.1=k):cR (p::l) k=cR l k:=if_neg e
end
noncomputable def qm(l:List (K×V))(k:K):List (K×V):=l.filter λp=>decide (p.1≠k)
theorem rO{l:List (K×V)}{k:K}{v:V}(h:cR l k=none):il l k v=l++[(k,v)]:=by
 induction l with
 |nil=>rfl
 |cons p l a =>
  rw[nk] at h;by_cases e:p.1=k
  ·have h:=(if_pos e)▸h;cases h
  ·rw[if_neg e] at h;refine J3 (ql ..) ?_;rw[if_neg e,a h,Pb]
omit [DecidableEq K] in
theorem RK.pW{σ n s}{ws:List (K×Value)}(h:RK σ n s [] ws):ws=[]:=List.map_eq_nil_iff.mp h.1
omit [DecidableEq K] in
theorem RK.ki{σ:Sg}{n:Nat}{s:IY}{p:K×V}{l:List (K×V)}{ws:List (K×Value)}(h:RK σ n s (p::l) ws):∃w ws',ws=(p.1,w)::ws'/\RV σ n s p.2 w/\RK σ n s l ws':=by
 obtain⟨a,w,t,e,c,d⟩:=h;cases ws with
 |nil=>cases e
 |cons x ws =>
  rw[JJ,JJ] at a;replace e:=JJ▸e;cases e;exact⟨x.2,ws,by exact((J8 a).1)▸rfl,c,(J8 a).2,d⟩
omit [DecidableEq K] in
theorem RK.cons{σ:Sg}{n:Nat}{s:IY}{k:K}{v:V}{w:Value}{l:List (K×V)}{ws:List (K×Value)}(h:RV σ n s v w)(t:RK σ n s l ws):RK σ n s ((k,v)::l) ((k,w)::ws):=⟨congrArg (k:: ·) t.1,w,_,rfl,h,t.2⟩
mutual
theorem RK.get{σ n s k l}:∀ {ws:List (K×Value)},RK σ n s l ws->(∀v,cR l k=IK v->∃w,PC ws k=IK w/\RV σ n s v w)/\(cR l k=none->PC ws k=none):=by
 induction l with
 |nil=>intro ws h;refine(h.pW).symm▸?_;exact⟨λZ q=>(by cases q),λZ=>rfl⟩
 |cons p l d =>
  intro ws h;refine IJ λg=>?_;obtain⟨w,f,rfl,a,c⟩:=h.ki;refine g ?_;rw[nk];unfold PC;by_cases e:p.1=k
  ·rw[if_pos e,List.find?_cons_of_pos (by simpa using e)];exact⟨λv q=>⟨w,rfl,Jk q▸a⟩,λq=>by cases q⟩
  ·rw[if_neg e,List.find?_cons_of_neg (by simpa using e)];exact d c
theorem lH{k:K}{w v:Value}{ws:List (K×Value)}(h:k∉ws.map (·.1)):NH ((k,w)::ws) k v=(k,v)::ws:=by
 unfold NH;rw[if_pos (by simp),JJ,if_pos rfl]
 congr 1
 rw[Kn (g:=id) λx a=>?_,N7];exact if_neg fun(e:x.1=k)=>h (e▸Le a)
theorem lI{k:K}{p:K×Value}{v:Value}{ws:List (K×Value)}(h:p.1≠k):NH (p::ws) k v=p::NH ws k v:=by
 unfold NH;rw[List.any_cons,show decide (p.1=k)=false from decide_eq_false h,Bool.false_or]
 split
 ·rw[JJ,if_neg h]
 ·rfl
end
mutual
theorem RK.set{σ n s k v w}(d:RV σ n s v w){l}:∀ {ws:List (K×Value)},RK σ n s l ws->(ws.map (·.1)).Nodup->RK σ n s (il l k v) (NH ws k w):=by
 induction l with
 |nil=>intro ws h _;refine(h.pW).symm▸?_;exact RK.cons d ⟨rfl,rfl⟩
 |cons p l g =>
  intro ws h a;obtain⟨u,i,rfl,f,c⟩:=h.ki;rw[JJ,SA] at a;rw[ql];by_cases e:p.1=k
  ·rw[if_pos e];subst e;rw[lH a.1];exact RK.cons d c
  ·rw[if_neg e,lI (p:=(p.1,u)) e];exact RK.cons f (g c a.2)
theorem RK.del{σ n s k l}:∀ {ws:List (K×Value)},RK σ n s l ws->RK σ n s (qm l k) (without ws k):=by
 induction l with
 |nil=>intro ws h;refine(h.pW).symm▸?_;exact⟨rfl,rfl⟩
 |cons p l c =>
  intro ws h;refine IJ λg=>?_;obtain⟨u,f,rfl,d,a⟩:=h.ki;refine g ?_;delta qm without;by_cases e:p.1=k
  ·rw[Nn (by simpa using e),Nn (by simpa using e)];exact c a
  ·rw[Nm (by simpa using e),Nm (by simpa using e)];exact RK.cons d (c a)
end
end
structure gX{K:Type}[DecidableEq K](knd:KeyKind W.prog W.w K)(mk:List (K×V)->O):Prop where
 to:∀σ n s a kvs,RO σ n s a (mk kvs)->Az knd s.heap a (RK σ n s kvs)
 of:∀σ n s a kvs,Az knd s.heap a (RK σ n s kvs)->RO σ n s a (mk kvs)
 gen:∀kvs g c L,mk kvs≠.gen g c L
 ty:∀kvs,Dd (mk kvs)=IK .dict
mutual
theorem dict_str:gX (strKind W.prog W.w) .dict:=⟨λZ Y U S R=>id,λZ Y U S R=>id,λZ Y U S q=>(O.noConfusion q),λZ=>rfl⟩
theorem dict_int:gX (TM W.prog W.w) .dicti:=⟨λZ Y U S R=>id,λZ Y U S R=>id,λZ Y U S q=>(O.noConfusion q),λZ=>rfl⟩
end
noncomputable def nV{K:Type}[DecidableEq K](knd:KeyKind W.prog W.w K)(a:V)(k:K):Prop:=∀σ n s w,RV σ n s a w->knd.is k w=true
mutual
theorem fz{x t}:nV (strKind W.prog W.w) (.s x t) x:=λZ Y U S a=>by obtain⟨_,e,_⟩:=a;exact e▸QH _ _ _ _
theorem jY{x}:nV (TM W.prog W.w) (.i x) x:=λZ Y U S a=>by obtain⟨_,e⟩:=a;exact e▸intKind_is _ _ _ _
end
noncomputable def km(A:Around)(o k v:V)(st:St)(Q:St->Prop):Prop:=∀σ s a b c,RV σ st.length s o a->RV σ st.length s k b->RV σ st.length s v c->Inv s->Rel σ st s->Wp A (TH a b c) (λZ s'=>PB σ st s (λZ=>Q) true s') s
noncomputable def C7(A:Around)(o k:V)(st:St)(Q:St->Prop):Prop:=∀σ s a b,RV σ st.length s o a->RV σ st.length s k b->Inv s->Rel σ st s->Wp A (delItem a b) (λZ s'=>PB σ st s (λZ=>Q) true s') s
section
variable {A:Around}{F:dH}{lc:Lc}{σ σ':Sg}{st u:St}{s s':IY}{Q:V->St->Prop}{K:Type}[DecidableEq K]{knd:KeyKind W.prog W.w K}{mk:List (K×V)->O}{d:List (K×V)}{j:Nat}{k:K}{f v:V}
theorem kg{pos:Ua}(D:gX knd mk)(h:Q (.r st.length) (st++[mk []])):c8 A F (.Dict [] [] pos) lc st Q:=by
 intro σ s p;have x:=eS (X:=dY) (b:=s.heap.objs.size) (h':=s.heap.push {cls:=.type "dict",data:=.dict #[]}) (k:=s.toks) (o:=mk []) p.i p.r (IQ _) (λc y e=>IS _ e) (by rw[I7];exact I8 _) (IQ _)
  (λZ=>D.of _ _ _ _ _ ⟨_,[],I0 _ rfl,⟨#[],0,⟨rfl,rfl,rfl⟩,rfl,λZ a=>by simp at a,Uy,N5⟩,rfl,rfl⟩) (λg c L q=>absurd q (D.gen _ g c L))
 exact wpAny_Dict_empty ⟨_,_,x,.r st.length,⟨by rw[IL];exact Jg _,congrArg Jy (if_pos rfl).symm⟩,h⟩
theorem jQ(T:cB)(r:Rel σ st s)(h:j<st.length):(σ.a j == QG)=false:=by
 rw[beq_eq_false_iff_ne];intro e;exact absurd (e▸r.above j h) (Nat.not_le.mpr (O2 (show QG<Kb by decide) (Inv.jU T)))
theorem ng(D:gX knd mk)(e:st[j]?=IK (mk d))(y:nV knd f k)(x:cR d k=IK v)(h:Q v st):C5 A (.r j) f st Q:=by
 intro g c C σ s a b ⟨H,q⟩ u i r;subst q;refine IJ λG=>?_;obtain⟨o,ws,z,hd,B⟩:=D.to _ _ _ _ _ (r.at_ j _ e);have p:s.heap.DictOf knd (σ.a j) ws:=Heap.dictOf_iff.mpr ⟨o,z,hd⟩;obtain⟨w,hw,E⟩:=(RK.get (k:=k) B).1 v x;refine G ?_;exact Sn p.typeIs PySem.F.slot_dict_getitem.lookup (wpAny_getItem_of (y _ _ _ _ u) p.mapOf hw ⟨σ,st,cH i r (I8 _),v,E.step r (cH i r (I8 _)),h⟩) (dW C _ _)
inductive Ho(P R S:Value->Prop)(ws:List Value):Prop
 |mk (x y z:Value) (e:ws=[x,y,z]) (h:P x) (h':R y) (h'':S z)
theorem yY{n a b c ws}(h:cW σ n s [a,b,c] ws):Ho (RV σ n s a) (RV σ n s b) (RV σ n s c) ws:=by
 obtain⟨x,t,rfl,d,e⟩:=h;obtain⟨y,z,rfl,f,g⟩:=jr e;exact⟨x,y,z,rfl,d,f,g⟩
end
section
variable {A:Around}{F:dH}{lc:Lc}{σ σ':Sg}{st p:St}{s s':IY}{Q:V->St->Prop}{K:Type}[DecidableEq K]{knd:KeyKind W.prog W.w K}{mk:List (K×V)->O}{d:List (K×V)}{j:Nat}{k:K}{u v dv:V}
structure IB(kvs:List (K×V))(k:K)(dv:V)(st:St)(o:O)(j:Nat)(Q:V->St->Prop):Prop where
 old:∀v,cR kvs k=IK v->Q v st
 new:cR kvs k=none->Q dv (st.set j o)
mutual
theorem iy{X o}(i:Inv s)(r:Rel σ st s)(f:RO σ st.length s (σ.a j) o)(d:∀g c L,o≠.gen g c L):cC X σ st s σ (st.set j o) s:=by
 have e:(st.set j o).length=st.length:=L9;refine⟨e▸.refl,i,⟨λh y q=>?_,e▸r.above,e▸r.inj,r.zlt,e▸r.zoff⟩,λZ Y h U=>h,λh g c L q=>?_,IQ _⟩
 ·refine(e).symm▸?_;by_cases z:h=j
  ·subst z;have q:=(Km (by have:=(List.getElem?_eq_some_iff.mp q).1;rwa [e] at this))▸q;cases q;exact f
  ·rw[LO (LG z)] at q;exact r.at_ h y q
 ·by_cases z:h=j
  ·subst z;have q:=(Km (by have:=(List.getElem?_eq_some_iff.mp q).1;rwa [e] at this))▸q;cases q;exact absurd rfl (d g c L)
  ·rw[LO (LG z)] at q;exact .inl ⟨h,c,L,q⟩
theorem rK{o d}(e:st[j]?=IK (.dictx o d))(r:Rel σ st s):RO σ st.length s (σ.a j) (.dict d):=by
 obtain⟨c,ws,hd,f⟩:=r.at_ j _ e;exact⟨o,ws,c,hd,f⟩
end
mutual
theorem nF(a:Value):NI "dict.keys" ⟨[a],[]⟩:=by kernel_rfl
theorem lO(a:Value):NI "dict.items" ⟨[a],[]⟩:=by kernel_rfl
end
theorem uo{b}(d:b.fn=false)(i:Inv s)(r:Rel σ st s)(f:j<st.length)(h:Q (.bm b j) st):PV σ st s Q (.ref s.heap.objs.size) {s with heap:=s.heap.push (jJ b.id (σ.a j))} :=
 ⟨_,_,fg (X:=dY) (h':=s.heap.push (jJ b.id (σ.a j))) (k:=s.toks) i r (IQ _) (by rw[I7];exact Jg _) (λc y e=>IS _ e) (IQ _),.bm b j,⟨_,rfl,.inr rfl,by unfold Bm.obj;refine(d).symm▸?_;exact I0 _ rfl,f⟩,h⟩
mutual
theorem oO(T:cB)(D:gX knd mk)(e:st[j]?=IK (mk d))(h:Q (.bm .keys j) st):MethW A "dict.keys" (.r j) [] st Q:=by
 intro σ s f ws y p i r;subst y;obtain⟨x,rfl,u,rfl⟩:=fK p;obtain⟨o,ws,z,hd,_⟩:=D.to _ _ _ _ _ (r.at_ j _ e);have q:s.heap.DictOf knd (σ.a j) ws:=Heap.dictOf_iff.mpr ⟨o,z,hd⟩;have k:=jQ T r u;have g:MeetsIn W.prog W.w (Builtin.«dict.keys» ⟨[.ref (σ.a j)],[]⟩) (λZ R s=>s.TypeIs (.ref (σ.a j)) "dict"/\R (.ok (.ret (.ref s.heap.objs.size))) {s with heap:=s.heap.push (jJ "dict_keys" (σ.a j))}) :=
  .of_wp λA R s c=>by
   obtain⟨v,h⟩:=c;refine II ?_;refine II (RT v ?_);refine IP ?_;show Jd _ _ (Pm (σ.a j) >>= _) _ _ s;unfold Pm;rw[if_neg (by refine(k).symm▸?_;exact Kw)];refine II (IP ?_);exact II (JN (IP ⟨_,rfl,h⟩))
 exact Ob Qc q.typeIs PySem.F.entry_dict_keys (nF _) g ⟨q.typeIs,uo (b:=.keys) rfl i r u h⟩
theorem CT(T:cB)(D:gX knd mk)(e:st[j]?=IK (mk d))(h:Q (.bm .items j) st):MethW A "dict.items" (.r j) [] st Q:=by
 intro σ s f ws p c i r;subst p;obtain⟨x,rfl,k,rfl⟩:=fK c;obtain⟨o,ws,q,hd,_⟩:=D.to _ _ _ _ _ (r.at_ j _ e);have g:s.heap.DictOf knd (σ.a j) ws:=Heap.dictOf_iff.mpr ⟨o,q,hd⟩;exact Ob P4 g.typeIs PySem.F.entry_dict_items (lO _) (meets_dict_items knd _ (jQ T r k)) ⟨⟨_,g⟩,uo (b:=.items) rfl i r k h⟩
end
end
section
variable {A:Around}{F:dH}{lc:Lc}{σ:Sg}{σ':Sg}{st:St}{z:St}{s:IY}{s':IY}{Q:V->St->Prop}{g:Expr}
noncomputable def pH(a b:Int):Bool:=decide (-(2 ^ 62)<=a)&&decide (a<2 ^ 62)&&decide (-(2 ^ 62)<=b)&&decide (b<2 ^ 62)
set_option tactic.hygienic true in
theorem pP(a b:Int):Ug a b 1=((b-a).toNat:Int):=by
 refine J3 (rangeSize_one ..) ?_
 split
 ·rename_i h
  exact(LX (Oe (NT h))).symm
 ·rename_i h
  rw[Rt (Int.sub_nonpos_of_le (Int.not_lt.mp h))];rfl
theorem pK(x:Str):(sgn x).length=x.cps.size:=by unfold sgn;rw[IZ,I3]
theorem xh{n x k v w}(a:(sgn x)[k]?=IK v)(h:Tj x k w):RV σ n s v w:=by
 obtain⟨c,u,d,rfl⟩:=h;unfold sgn at a;have a:=Jt▸a;have a:=Ju▸a;have a:=d▸a;obtain rfl:=Jk a;exact⟨u,rfl,λq=>absurd rfl q⟩
inductive EW(b:Bm)(f:Str×V->V)(c:V)(st:St)(R:(St->Prop)->List V->St->Prop):Prop
 |mk (j:Nat) (kvs:List (Str×V)) (hc:c=.bm b j) (hj:st[j]?=IK (.dict kvs)) (q:∀o,R (λst=>st[j]?=IK (.dictx o kvs)) (kvs.map f) (st.set j (.dictx o kvs)))
theorem ru{iter}(T:cB)(hA:A.handled=none){R}(h:c8 A F iter lc st λc J=>EW .keys (λp=>.s p.1 0) c J R):y4 A F g iter lc st R:=by
 have H {s K} [DecidableEq K] {knd:KeyKind W.prog W.w K} {v d ws ep P} (hv:s.heap.get? v=IK (jJ "dict_keys" d)) (hm:s.heap.DictAt knd d ws ep) (hQ:P (.ref s.heap.objs.size) {s with heap:=s.heap.push {cls:=.type "dict_keyiterator",data:=.fields #[.ref d,.int 0 0,.int ws.length 0,.int ep 0]}}):Wp A (Mm (.ref v)) P s:=by
  have hT:s.TypeIs (.ref v) "dict_keys":=⟨_,hv,rfl⟩
  refine IJ λzz=>?_;obtain⟨o,es,S,hc,M,hk,hp,hn⟩:=id hm;refine zz ?_;have D (a:Value):NI "dict_keys.__iter__" ⟨[a],[]⟩:=by kernel_rfl
  have C:Nh QE "dict_keys.__iter__"=IK Builtin.«dict_keys.__iter__»:=MK (by kernel_rfl);have f:T9 "dict_keys" "__iter__" "dict_keys.__iter__" :=
   .of (owner:="dict_keys") (n:="__iter__") (by refine(Jz ..).symm▸?_;rw[Jh];kernel_rfl) (by decide +kernel) (by decide +kernel) (by decide +kernel)
    (by first | exact .inl (by decide +kernel) | exact .inr (by decide +kernel)) (by refine(J6 ..).symm▸?_;kernel_rfl)
  refine Py hT f (JG f hT C ?_ (D _));refine II (IP ?_);refine II ?_;refine II (Ks hv rfl (x:=.ref d) rfl (IP ?_));refine II ?_;refine II (TC S M ?_);refine II (wpAny_dictEpoch S M ?_);have hsz:es.size=ws.length:=by refine(hp.length)▸?_;simp
  have al:Sf "dict_keyiterator"=false:=by decide
  simp only[al,OC,if_false];refine JN (IP ⟨_,rfl,"dict_keyiterator",_,⟨_,I0 _ rfl,rfl⟩,PySem.F.slot_dict_keyiterator_next.lookup,?_⟩)
  simpa [Lb,hsz] using hQ
 have aa {σ} {s:IY} {n:Nat} {K:Type} {G:List (K×V)} {ws:List (K×Value)} (h:RK σ n s G ws):ws.length=G.length:=by have:=congrArg Lr h.1;simpa using this
 have ai {σ s n K G}:∀ {ws:List (K×Value)} {k:Nat} {p:K×V},RK σ n s G ws->G[k]?=IK p->∃w,ws[k]?=IK (p.1,w)/\RV σ n s p.2 w:=by
  induction G with
  |nil=>intro ws k p _ q;cases q
  |cons x l ih =>
   intro ws k p h q;obtain⟨w,aw,rfl,h1,h2⟩:=h.ki;cases k with
   |zero=>cases q;exact⟨w,rfl,h1⟩
   |succ k=>exact ih (k:=k) h2 q
 intro σ s p;refine b0 (h σ s p) λw s₁ B J c z hc q=>?_;refine IJ λzz=>?_;obtain⟨j,G,rfl,hj,q⟩:=q;obtain⟨a,rfl,_,hv,af⟩:=hc;obtain⟨o,ws,S,⟨es,ep,aj,M,ak,hp,hn⟩,hr⟩:=z.rel.at_ j _ hj;refine zz ?_;have ac:∀h:Heap,h.get? (B.a j)=IK o->h.DictAt (strKind W.prog W.w) (B.a j) ws ep:=λh S=>⟨o,es,S,aj,M,ak,hp,hn⟩
 have hl:=aa hr;have wk:=Walks.dictKeys (knd:=strKind W.prog W.w) (A:=A) hA s₁.heap.objs.size (B.a j) (Jw (z.rel.lt af)) ws ep;have y:=d6 (X:=dY) (o:={cls:=.type "dict_keyiterator",data:=.fields #[.ref (B.a j),.int 0 0,.int ws.length 0,.int ep 0]}) z.inv z.rel;have gl:(J.set j (.dictx o G)).length=J.length:=L9;refine H hv (ac _ S) ⟨B,_,(z.trans y).trans (iy (X:=dY) (j:=j) (o:=.dictx o G) y.inv y.rel ⟨IS _ S,ws,⟨es,ep,aj,M,ak,hp,hn⟩,hr.mono y.x z.rel.apart⟩ (λZ Y U q=>O.noConfusion q)),.r j,.ref (B.a j),⟨by refine(gl).symm▸?_;exact af,rfl⟩,(· =s₁.heap.objs.size),λk h=>h.IsKeyIter s₁.heap.objs.size (B.a j) k ws.length ep,λst=>st[j]?=IK (.dictx o G),G.map λp=>.s p.1 0,
  ⟨λb e=>e▸z.inv.size,λk h b an e=>by obtain⟨o,S,hc,_⟩:=an;exact⟨o,e▸S,b9 hc⟩,λk h h' ao hk=>by obtain⟨o,S,r⟩:=ao;exact⟨o,hk _ rfl o S,r⟩,λk v ab st₂ Q hk hI hd hw off i r=>?_,λab st₂ Q hI hd hw off i r=>?_⟩,
  ⟨_,I0 _ rfl,rfl,rfl⟩,λb e=>e▸(z.x.grow),λb e=>⟨λhz=>I2 _ (e▸z.rel.zlt b hz),λh hh e'=>I2 _ (RJ (z.rel.lt (gl▸hh)) (e.symm.trans e'.symm))⟩,by exact(Km af).symm▸rfl,q o⟩
 ·rw[Jt,Ln] at hk;refine IJ λzz=>?_;obtain⟨pp,hk,rfl⟩:=hk;obtain⟨E,_⟩:=r.at_ j _ hd;obtain⟨_,e2⟩:=hw;refine zz ?_;rw[<-LP e2] at E;refine IJ λzz=>?_;obtain⟨w',as,_⟩:=ai hr hk;refine zz ?_;refine wpAny_toks (cG (wk.item k Q _ _ (show k<ws.length from by rw[hl];exact(List.getElem?_eq_some_iff.mp hk).1) ⟨hI,ac _ E⟩ λx h' tk hx am ag ae ah=>⟨x,rfl,?_⟩));obtain⟨oi,ar,aq,_⟩:=am.1;refine fY ar aq (by decide) ⟨ab,dJ T i r z.inv.size rfl (off _ rfl) (λb o q e=>ag b o (by simpa using q) e) ae ah,?_,am.1⟩;obtain⟨av,u,c0,au⟩:=hx;replace c0:=as▸c0;cases c0;obtain⟨t,rfl⟩:=LQ au;exact⟨t,rfl,λq=>absurd rfl q⟩
 ·obtain⟨E,_⟩:=r.at_ j _ hd;obtain⟨_,e2⟩:=hw;rw[<-LP e2] at E;have ap:Q.heap.IsKeyIter s₁.heap.objs.size (B.a j) ws.length ws.length ep:=by rw[IZ,<-hl] at hI;exact hI
  exact wpAny_toks (cG (wk.done Q _ _ ⟨ap,ac _ E⟩ λh' tk ag ae ah=>⟨rfl,dJ T i r z.inv.size rfl (off _ rfl) (λb o q e=>ag b o (by simpa using q) e) ae ah⟩))
noncomputable def gO(x:Str):String:=if x.cps.all (· < 128) then "str_ascii_iterator" else "str_iterator"
theorem jG{prog w A}(c:A.handled=none)(a:Addr)(x:Str)(t:PY):OK prog w A a [a] x.cps.size (Tj x) (λi h=>h.IsStrIter a (gO x) x t i):=by
 unfold gO
 split
 ·exact OK.strAscii c a x t
 ·exact OK.strWide c a x t
inductive Fs(A:Around)(it:Addr)(σ:Sg)(n:Nat)(s:IY)(items:List V)(Ix:Nat->Heap->Prop):Prop
 |mk (fp:List Addr) (P:Nat->Value->Prop) (S:Nat->Heap->Prop) (d:OK W.prog W.w A it fp items.length P S) (hfp:∀b∈fp,b=it∨σ.z b∨∃h,h<n/\σ.a h=b) (to:∀k,Ix k s.heap->S k s.heap) (of:∀k h,S k h->Ix k h) (at_:∀k x,P k x->∃v,items[k]?=IK v/\RV σ n s v x)
structure Au(it:Addr)(c:V)(w:Value)(dep:St->Prop)(items:List V)(Ix:Nat->Heap->Prop):Prop where
 solid:∀k h,Ix k h->∃o,h.get? it=IK o/\dp o
 frame:∀k h h',Ix k h->(∀o,h.get? it=IK o->h'.get? it=IK o)->Ix k h'
 draw:∀(A:Around) σ st s,A.handled=none->dep st->RV σ st.length s c w->(¬σ.z it/\∀h,h<st.length->σ.a h≠it)->Rel σ st s->Fs A it σ st.length s items Ix
theorem vp{it x t u}:Au it (.s x t) (.str x u) (λZ=>True) (sgn x) (λk h=>h.IsStrIter it (gO x) x u k):=by
 refine⟨λk h e=>by obtain⟨o,g,hc,_⟩:=e;exact⟨o,g,b9 hc⟩,λk h h' f B=>by obtain⟨o,g,r⟩:=f;exact⟨o,B o g,r⟩,λA σ st s y Z Y U r=>?_⟩;have d:=jG (prog:=W.prog) (w:=W.w) y it x u;rw[<-pK] at d;refine⟨_,_,_,d,λb z=>.inl (by simpa using z),λZ q=>q,λZ Y q=>q,λk v j=>?_⟩;have i:=j;refine IJ λC=>?_;obtain⟨c,D,p,_⟩:=i;refine C ?_;have a:k<(sgn x).length:=by rw[pK];exact(Array.getElem?_eq_some_iff.mp p).1
 exact⟨_,IV a,xh (IV a) j⟩
theorem qK{it l c vs dep}(la:LstAt c vs dep)(G:∀(σ:Sg) (st:St) (s:IY) (w:Value),RV σ st.length s c w->∀b,w=.ref b->σ.z b∨∃h,h<st.length/\σ.a h=b):Au it c (.ref l) dep vs (λk h=>h.IsListIter it l k):=by
 refine⟨λk h j=>by obtain⟨o,i,hc,_⟩:=j;exact⟨o,i,b9 hc⟩,λk h h' p F=>by obtain⟨o,i,hc,hd⟩:=p;exact⟨o,F o i,hc,hd⟩,λA σ st s E hd hw off r=>?_⟩;obtain⟨l',items,m,e,i,B⟩:=la σ st s _ hw hd r;cases e;have hz:=G σ st s _ hw l rfl;have y:vs.length=items.size:=by refine(I3)▸?_;exact(B.len).symm▸rfl
 have d:=Ue (prog:=W.prog) (w:=W.w) E it l (λe=>hz.elim (λq=>off.1 (e▸q)) λu=>by obtain⟨h,q,z⟩:=u;exact off.2 h q (z.trans e):l≠it) items;rw[<-y] at d;refine⟨_,_,_,d,λb v=>?_,λk q=>⟨q,(⟨_,i,rfl,m,rfl⟩:s.heap.IsList l items)⟩,λk h q=>q.1,λk x C=>?_⟩
 ·simp only[Tq,Jf,or_false] at v;exact v.imp id fun(e:b=l)=>e▸hz
 ·have g:k<vs.length:=by rw[y];exact(Array.getElem?_eq_some_iff.mp C).1
  refine IJ λH=>?_;obtain⟨w,f,D⟩:=B.get (IV g);refine H ?_;have f:=Ju▸f;have f:=C▸f;obtain rfl:=Jk f;exact⟨_,IV g,D⟩
noncomputable def gA(items:List V):List V:=items.zipIdx.map λp=>.t [.i (p.2:Int),p.1]
theorem oK(items:List V):(gA items).length=items.length:=by unfold gA;simp
inductive E6(c:V)(st:St)(R:(St->Prop)->List V->St->Prop):Prop
 |text (x:Str) (t:Nat) (hc:c=.s x t) (q:R (λ_=>True) (sgn x) st)
 |list (h:Nat) (vs:List V) (hc:c=.r h) (hh:st[h]?=IK (.list vs)) (q:R (λst=>st[h]?=IK (.list vs)) vs st)
 |frozen (vs:List V) (hc:c=.l vs) (q:R (λ_=>True) vs st)
theorem rx{f e1 p pos tp elts x1 R}(T:cB)(hA:A.handled=none)(hf:∀Q':V->St->Prop,Q' (.g .enumerate) st->c8 A F (.Name f p) lc st Q')(hp:cN e1=true)(h:c8 A F e1 lc st λc G=>E6 c G λH items st₂=>R H (gA items) st₂):y4 A F (.Tuple elts x1 tp) (.Call (.Name f p) [e1] [] pos) lc st R:=by
 have J {A e it c w H items Ix elts x1 pos} (hA:A.handled=none) (D:Au it c w H items Ix) (ae:e≠it) (he:W.h₁.objs.size<=e) (hi:W.h₁.objs.size<=it) :
   qr A (.Tuple elts x1 pos) (.ref e) c w (λb=>b=e∨b=it) H (gA items) (λk h=>∃old,IsEnum h e it k old/\Ix k h):=by
  have Y {k:Nat} {v} (h:(gA items)[k]?=IK v):∃u,items[k]?=IK u/\v=.t [.i (k:Int),u]:=by
   unfold gA at h;rw[Jt,Q3,Option.map_map,Ln] at h;refine IJ λzz=>?_;obtain⟨u,h1,h2⟩:=h;refine zz ?_;exact⟨u,h1,by refine(h2)▸?_;simp⟩
  have ab:∀b,b=e∨b=it->W.h₁.objs.size<=b:=λb M=>M.elim (λq=>q▸he) λq=>q▸hi;refine⟨ab,λk h b al M=>by obtain⟨old,h1,h2⟩:=al;exact M.elim (λq=>⟨_,q▸h1,.inl (by intro q;cases q)⟩) λq=>q▸D.solid k h h2,λk h h' am hk=>by obtain⟨old,h1,h2⟩:=am;exact⟨old,hk e (.inl rfl) _ h1,D.frame k h h' h2 (hk it (.inr rfl))⟩,λk v σ st s hk ⟨old,h1,h2⟩ hd hw off i r=>?_,λσ st s ⟨old,h1,h2⟩ hd hw off i r=>?_⟩
  ·obtain⟨fp,P,S,d,ai,to,of,at_⟩:=D.draw A.in1 σ st s hA hd hw (off it (.inr rfl)) r;obtain⟨u,hu,rfl⟩:=Y hk;have ao:e∉fp:=λq=>(ai e q).elim ae λq=>q.elim (off e (.inl rfl)).1 λan=>by obtain⟨h,q,z⟩:=an;exact(off e (.inl rfl)).2 h q z
   refine wpAny_toks (cG (wpAny_pyNext_enum_itemD d h1 (to k h2) (List.getElem?_eq_some_iff.mp hu).1 ae ao λx h' tk hP ho aq hT hsz B aj ar=>⟨_,rfl,?_⟩));obtain⟨u',c0,hx⟩:=at_ k x hP;replace c0:=hu▸c0;cases c0;refine wpAny_letOwnedTupleGo_enum (item:=x) ho λag ah U=>?_;have hz:s.heap.objs.size<ag.objs.size:=by rw[U.1,hsz];exact Jg _
   have y:=kT (X:=λb=>b=e∨b=it) (σ':=σ.keep s.heap.objs.size) (k:=tk+1) T i r ab off (λb o q M=>(U.2 b λz=>q (.inl z)).trans (B b o (λz=>q (.inl z)) (λz=>q (.inr z)) M)) (JU hz) ar
    (λZ=>rfl) (λZ=>.inl) λb q=>q.imp id fun(q:b=_)=>⟨Js q.symm,q▸hz⟩
   refine⟨_,y,⟨_,#[.int k tk,x],0,rfl,.inr rfl,(U.2 _ (NL (Ja h1):s.heap.objs.size≠e)).trans hT,by show 2<=sizeLine;decide,_,_,rfl,⟨_,rfl⟩,_,_,rfl,RV.mono y.x (λb q=>⟨λz=>(off b z).1 q,r.zoff b q⟩) _ _ hx,rfl⟩,x,?_,D.frame (k+1) h' ag (of _ _ aq) λo ho=>(U.2 it (LG ae)).trans ho⟩;rw[show((k+1:Nat):Int)=(k:Int)+1 by exact ec 17 20];exact ah
  ·obtain⟨fp,P,S,d,ai,to,of,at_⟩:=D.draw A.in1 σ st s hA hd hw (off it (.inr rfl)) r;rw[oK] at h1 h2;exact cG (wpAny_pyNext_enum_endD d h1 (to _ h2) λh' hx aj=>⟨rfl,gx T i r ab off (λb o q M=>hx b o (λz=>q (.inr z)) M) aj (IQ _)⟩)
 intro σ s pr;refine MH (b0 (hf (λv G=>v=.g .enumerate/\G=st) ⟨rfl,rfl⟩ σ s pr) λw s₁ au G v ac hv e=>?_);obtain⟨rfl,rfl⟩:=e;have hw:w=Bi.enumerate.val:=hv;subst hw;refine(da pos F.env (show[e1].all cN=true by simp [hp])).symm▸?_;refine KP (any_false _ _) (eB (args_cons (Q:=λvs st₂=>∃c,vs=[c]/\E6 c st₂ λH items st₂=>R H (gA items) st₂) (h.mono λc G q=>args_nil ⟨c,rfl,q⟩)) (pr.step ac) λws C af st₂ vs E as q=>?_);obtain⟨c,rfl,q⟩:=q;obtain⟨w,rfl,hw⟩:=fK as;have ak:=ac.trans E;have fin:∀(h':Heap) (Ix:Nat->Heap->Prop) H items,IsEnum h' (C.heap.objs.size+1) C.heap.objs.size 0 .none->Ix 0 h'->Au C.heap.objs.size c w H items Ix->h'.objs.size=C.heap.objs.size+2->(∀b o,C.heap.get? b=IK o->h'.get? b=IK o)->H st₂->R H (gA items) st₂ ->
   Wp A (Mm (.ref (C.heap.objs.size+1))) (PI A (.Tuple elts x1 tp) σ G s R) {C with heap:=h'}:=by
  intro h' Ix H items he ap D hsz B hd hR;have y:=dQ (X:=dY) (h':=h') (k:=C.toks) E.inv E.rel B (by refine(hsz).symm▸?_;exact Jc _ 2) (IQ _);have nw:∀b,b=C.heap.objs.size+1∨b=C.heap.objs.size->C.heap.objs.size<=b:=λb M=>M.elim (λq=>q▸I8 _) λq=>Js q.symm;exact wpAny_pyIter_enum he ⟨af,st₂,ak.trans y,c,w,hw.step E.rel y,_,_,H,_,J hA D (My _) (IT E.inv.size (I8 _)) E.inv.size,⟨.none,he,ap⟩,λb M=>IT (ak.x.grow) (nw b M),
   λb M=>⟨λz=>I2 _ (IU (E.rel.zlt b z) (nw b M)),λh q z=>I2 _ (IU (E.rel.lt q) (z▸nw b M))⟩,hd,hR⟩
 cases q with
 |text x t hc q =>
  subst hc;refine IJ λzz=>?_;obtain⟨u,rfl,_⟩:=hw;refine zz ?_;exact call_enumerate_str λh' he aa hsz B=>fin h' _ _ _ he aa vp hsz B trivial q
 |list j vs hc hh q =>
  subst hc;have av:=hw;obtain⟨hj,rfl⟩:=hw;obtain⟨items,m,ho,_⟩:=E.rel.at_ j _ hh;exact SQ ⟨_,ho,rfl,m,rfl⟩ λh' he aa hsz B=>fin h' _ _ _ he aa (qK cY λσ st s w hw b e=>.inr ⟨j,hw.1,by have:=hw.2;rw[e] at this;exact(LP this).symm⟩) hsz B hh q
 |frozen vs hc q =>
  subst hc;obtain⟨a,items,m,rfl,hz,ho,_⟩:=id hw;exact SQ ⟨_,ho,rfl,m,rfl⟩ λh' he aa hsz B=>fin h' _ _ _ he aa (qK cS λσ st s w hw b e=>.inl (by obtain⟨a,_,_,e',hz,_⟩:=hw;rw[e] at e';exact(LP e')▸hz)) hsz B trivial q
variable {j:Nat}{l:List Str}{k:Str}
theorem je.size{es t l}(d:je es t l):es.size=l.length:=by
 have:=d.perm.length_eq;rw[IZ,IZ,I3] at this;exact this
theorem pG{x y}(h:(OV x 0)=.str y 0):x=y:=by cases h;rfl
theorem je.mem{es t l}(d:je es t l)(k:Str):decide (k∈l)=true↔∃e∈es.toList,(strKind W.prog W.w).is k e.2=true:=by
 refine(decide_eq_true_iff).trans ?_
 constructor
 ·intro h;have:OV k 0∈es.toList.map λe=>norm e.2:=d.perm.mem_iff.mpr (Qz.mpr ⟨k,h,rfl⟩);refine IJ λo=>?_;obtain⟨e,c,a⟩:=Qz.mp this;refine o ?_;exact⟨e,c,by obtain⟨u,i⟩:∃u,e.2=.str k u:=by {cases h:e.2 <;> rw[h] at a <;> first | exact⟨_,by cases a;rfl⟩ | cases a};refine(i).symm▸?_;exact QH _ _ _ _⟩
 ·rintro⟨e,c,g⟩;obtain⟨u,a⟩:=LQ g;have:norm e.2∈l.map λx=>OV x 0:=d.perm.mem_iff.mp (Qz.mpr ⟨e,c,rfl⟩);obtain⟨x,j,f⟩:=Qz.mp this;rw[a] at f;refine(pG (x:=k) (y:=x) f.symm).symm▸?_;exact j
theorem je.AN{es ep t l}(d:je es t l){h:Heap}{a}(c:h.get? a=IK (cX es ep t))(hz:l.length<scanBound):h.SetOf (strKind W.prog W.w) a (λk=>decide (k∈l)) l.length :=
 ⟨_,es,ep,t,c,⟨rfl,rfl,rfl⟩,rfl,d.els,d.mem,by refine(d.size).symm▸?_;exact hz,d.fits,d.size⟩
mutual
theorem sW(t:MV)(es:Array (Int×Value))(h:Int)(x:Value):(layNew t es h x).2.1.led=t.led:=by
 delta layNew;cases t.freeSlot h with
 |none=>rfl
 |some q =>
  cases q with
  |mk c d =>
   have a (t:MV) (n:Nat):(t.orStandIn n).led=t.led/\(t.plain=false->(t.orStandIn n).plain=false):=by
    unfold MV.orStandIn
    split
    ·exact⟨rfl,λh=>h⟩
    ·exact⟨rfl,λZ=>rfl⟩
   exact(a (t.put c).1 _).1
theorem pO(t:MV)(es:Array (Int×Value))(n:Nat):(OG t es n).2.1.led=t.led/\(t.plain=false->(OG t es n).2.1.plain=false):=by
 have a {t' hs c} (h:t.relaid hs n=IK (t',c)):t'.led=t.led/\t'.plain=t.plain:=by
  unfold MV.relaid MV.laid at h;cases hc:MV.layClean (MV.sizeAbove n-1) hs with
  |none=>have h:=hc▸h;cases h
  |some owner =>
   replace h:=hc▸h;cases h;exact⟨rfl,rfl⟩
 delta OG;cases h:t.relaid (es.map (·.1)) n with
 |none=>exact⟨rfl,λZ=>rfl⟩
 |some q =>
  cases q with
  |mk t' c =>
   obtain⟨d,e⟩:=a h;dsimp only
   split
   ·exact⟨d,λf=>e.trans f⟩
   ·exact⟨rfl,λZ=>rfl⟩
theorem jg{k x}(a:Value.isStrOf k x=true):x.scannable=true:=by
 obtain⟨t,rfl⟩:=LQ a
 rfl
end
structure wA(es:Array (Int×Value))(l:List Str):Prop where
 els:ElemsOf (strKind W.prog W.w) es.toList
 perm:(es.toList.map λe=>norm e.2).Perm (l.map λx=>.str x 0)
 nodup:l.Nodup
theorem wA.size{es}(d:wA es l):es.size=l.length:=by
 have:=d.perm.length_eq;rw[IZ,IZ,I3] at this;exact this
theorem wA.new{es es1 t x}(d:je es t l)(a:(strKind W.prog W.w).is k x=true)(c:k∉l)(p:es1.toList.Perm (es.toList++[((strKind W.prog W.w).hash k,x)])):wA es1 (l++[k]):=by
 refine⟨(d.els.push a (jg a)).perm p,(p.map _).trans ?_,M7.mpr ⟨d.nodup,SA.mpr ⟨Jf,.nil⟩,λy f z hz e=>c (OB.mp hz▸e▸f)⟩⟩;rw[Jb,Jb];refine List.Perm.append d.perm ?_;obtain⟨u,rfl⟩:=LQ a;exact .refl _
theorem rG{E}(b:Bool){s}{Q:Unit->IY->Prop}(h:Q () s):Jd (I6 W.prog W.w) A (match b with | true=>rule "set.scan.the-table-gave-way" | false=>pure ()) Q E s:=by
 cases b with
 |false=>exact IP h
 |true=>exact Li h
noncomputable def sD(a:Bool):Obj:=cX #[] 0 (.fresh 0 0 a)
set_option maxHeartbeats 4000000 in
end
theorem tM{M A E s n P}(c:n≠0)(h:∀i d,i<n->P i {s with drawn:=d}):Jd M A (choose .order n) P E s:=by
 intro a p e;show UR M a _ _ _ p s;unfold choose;exact⟨c,h _ _ (UW _ (RI c))⟩
theorem jF{a:Type}:∀(l:List a) (i:Nat) (x:a),l[i]?=IK x->(x::l.eraseIdx i).Perm l
 |[],i,x,h=>by simp at h
 |y::l,0,x,h=>by
  have h:=List.getElem?_cons_zero▸h;obtain rfl:=Jk h;exact .refl _
 |y::l,i+1,x,h=>by
  rw[List.getElem?_cons_succ] at h;refine(List.eraseIdx_cons_succ).symm▸?_;exact(List.Perm.swap y x _).trans ((jF l i x h).cons y)
theorem jt{α M A E}:∀(n:Nat) (xs:List α) (s:IY) (P:List α->IY->Prop),xs.length<=n->(∀ys d,ys.Perm xs->P ys {s with drawn:=d})->Jd M A (drawOrder n xs) P E s
 |0,xs,s,P,a,h=>by
  have:xs=[]:=List.length_eq_zero_iff.mp (by exact ec 17 21 a);subst this;exact IP (h [] s.drawn (.refl _))
 |n+1,[],s,P,a,h=>IP (h [] s.drawn (.refl _))
 |n+1,x::xs,s,P,a,h=>by
  refine II (tM (by simp) λi d hi=>?_);refine(IV hi).symm▸?_;refine II (jt n _ _ _ (by refine(Q2).symm▸?_;split <;> simp at a hi ⊢ <;> assumption) λys c e=>IP ?_);exact h _ c ((e.cons _).trans (jF (x::xs) i _ (IV hi)))
theorem k4{α}(next:Nat->Nat):∀(fuel k:Nat) (left:List α) (out:Array α),left.length<=fuel->(Rx next fuel k left out).toList.Perm (out.toList++left)
 |0,k,left,out,h=>by
  have:left=[]:=List.length_eq_zero_iff.mp (by exact ec 17 21 h);subst this;refine(Jj ..).symm▸?_;exact .refl _
 |fuel+1,k,left,out,h=>by
  cases left with
  |nil=>rw[Jj];exact .refl _
  |cons x xs =>
   have hi:next k % (x::xs).length<(x::xs).length:=UW _ (by simp)
   change (match (x::xs)[next k % (x::xs).length]? with | IK y=>Rx next fuel (k+1) ((x::xs).eraseIdx (next k % (x::xs).length)) (out.push y) | none=>out).toList.Perm _
   rw[IV hi];refine(k4 next fuel (k+1) _ _ (by refine(Q2).symm▸?_;split <;> simp at h hi ⊢ <;> assumption)).trans ?_;rw[Ly,I1];exact List.Perm.append_left _ (jF (x::xs) _ _ (IV hi))
mutual
theorem dA:T9 "set_iterator" "__next__" "set_iterator.__next__" :=
 .of (owner:="set_iterator") (n:="__next__") (by refine(Jz ..).symm▸?_;rw[Jh];kernel_rfl) (by decide +kernel) (by decide +kernel) (by decide +kernel)
  (by first | exact .inl (by decide +kernel) | exact .inr (by decide +kernel)) (by refine(J6 ..).symm▸?_;kernel_rfl)
theorem gB:Nh QE "set_iterator.__next__"=IK Builtin.«set_iterator.__next__»:=MK (by kernel_rfl)
theorem ig(a:Value):NI "set_iterator.__next__" ⟨[a],[]⟩:=by kernel_rfl
end
noncomputable def fV(first:Value)(i:Nat)(a:Addr)(n ep:Nat):Obj:={cls:=.type "set_iterator",data:=.fields #[first,Lb i,.ref a,Lb n,Lb ep]}
section
variable {A:Around}{E:Value->IY->Prop}{s:IY}{a:Addr}{es:Array (Int×Value)}{ep:Nat}{t:MV}{l:List Str}
end
section
variable {A:Around}{E:Value->IY->Prop}{s:IY}{a:Addr}{es:Array (Int×Value)}{ep:Nat}{t:MV}{l:List Str}
theorem m9{I first i n ep}{h:Heap}(k:Nat)(v:Value)(c:h.get? I=IK (fV first i a n ep)):(h.update I (TU (·.setIfInBounds k v))).get? I=IK ((fV first i a n ep).mapFields (·.setIfInBounds k v)) :=
 Jv _ c (N0 (M3 (show(fV first i a n ep).data=.fields _ from rfl) _))
end
noncomputable def iT(ys:List Nat):Obj:={cls:=.type "tuple",data:=.seq (ys.map fun(i:Nat)=>Lb i).toArray}
section
variable {A:Around}{E:Value->IY->Prop}{s:IY}{a:Addr}{es:Array (Int×Value)}{ep:Nat}{t:MV}{l:List Str}
end
structure l5(A:Around)(I a:Addr)(o:Obj)(xs:List (Int×Value))(S:Nat->Heap->Prop):Prop where
 next:∀k e s (P:Option Value->IY->Prop),xs[k]?=IK e->S k s.heap->s.heap.get? a=IK o->(∀h',S (k+1) h'->JW I s.heap h'->P (IK e.2) {s with heap:=h'})->Wp A (Lj (.ref I)) P s
 stop:∀s (P:Option Value->IY->Prop),S xs.length s.heap->s.heap.get? a=IK o->(∀h',s.heap.objs.size<=h'.objs.size->MC I s.heap h'->P none {s with heap:=h'})->Wp A (Lj (.ref I)) P s
 cls:∀k h,S k h->∃ob,h.get? I=IK ob/\ob.cls=.type "set_iterator"
noncomputable def BQ(o:Obj)(l:List Str):Prop:=∃es ep t,o=cX es ep t/\je es t l
inductive GZ(c:V)(st:St)(R:(St->Prop)->List V->St->Prop):Prop
 |mk (j:Nat) (l:List Str) (hc:c=.r j) (hj:st[j]?=IK (.set l)) (hz:l.length<scanBound) (q:∀(o:Obj) (l':List Str),BQ o l->l'.Perm l->R (λst=>st[j]?=IK (.fix o)) (l'.map λx=>.s x 0) (st.set j (.fix o)))
section
variable {A:Around}{F:dH}{lc:Lc}{σ:Sg}{σ':Sg}{st:St}{z:St}{s:IY}{s':IY}{C:Expr}{j:Nat}{l:List Str}
theorem uQ{o}(e:st[j]?=IK (.fix o))(h:BQ o l)(r:Rel σ st s):RO σ st.length s (σ.a j) (.set l):=by
 refine IJ λc=>?_;obtain⟨es,ep,t,rfl,d⟩:=h;refine c ?_;exact⟨es,ep,t,(r.at_ j _ e).1,d⟩
theorem ye{I a o xs S}{X:Addr->Prop}{l':List Str}(T:cB)(D:l5 A I a o xs S)(p:∀b,X b->W.h₁.objs.size<=b)(G:X I)(so:∀k h b,S k h->X b->∃o,h.get? b=IK o/\dp o)(fr:∀k h h',S k h->(∀b,X b->∀o,h.get? b=IK o->h'.get? b=IK o)->S k h')(e:(xs.map λe=>norm e.2)=l'.map λx=>.str x 0):qr A C (.ref I) (.r j) (.ref a) X (λst=>st[j]?=IK (.fix o)) (l'.map λx=>.s x 0) S:=by
 refine⟨p,so,fr,λk v σ st s H g hd hw off i r=>?_,λσ st s g hd hw off i r=>?_⟩
 ·rw[Jt,Ln] at H;obtain⟨x,B,rfl⟩:=H;have F:=congrArg (·[k]?) e;rw[Jt,Jt,B] at F;refine IJ λE=>?_;obtain⟨en,w,M⟩:=Ln.mp F;have c {v} (h:norm v=.str x 0):∃t,v=.str x t:=by
   cases v <;> first | exact⟨_,by cases h;rfl⟩ | cases h
  obtain⟨t,Q⟩:=c M;refine E ?_;have f:=(r.at_ j _ hd).1;rw[<-LP hw.2] at f;refine D.next k en s _ w g f λh' d J=>⟨en.2,rfl,?_⟩
  refine IJ λE=>?_;obtain⟨ob,y,hc⟩:=D.cls _ _ d;refine E ?_;exact fY y hc (by decide) ⟨σ,(gx (X:=X) (k:=s.toks) T i r p off (λb o q u=>(J.2 b λz=>q (z▸G)).trans u) (Js J.1.symm) (IQ _)),Q▸⟨t,rfl,λq=>absurd rfl q⟩,d⟩
 ·have f:=(r.at_ j _ hd).1;rw[<-LP hw.2] at f;have P:xs.length=(l'.map λx=>V.s x 0).length:=by have:=congrArg Lr e;simpa using this
  rw[<-P] at g;exact D.stop s _ g f λh' hz B=>⟨rfl,gx T i r p off (λb o q u=>B b o (λz=>q (z▸G)) u) hz (IQ _)⟩
theorem yq(es:Array (Int×Value)):∀(ys:List Nat),(∀j∈ys,j<es.size)->∀(k:Nat),(ys.filterMap λj=>es[j]?)[k]?=ys[k]?.bind λp=>es[p]?
 |[],Z,k=>by simp
 |y::ys,c,k=>by
  have a:=c y (Je ..);refine(Oq).symm▸?_;refine(JC a).symm▸?_;cases k with
  |zero=>simp [a]
  |succ k=>simpa using yq es ys (λj d=>c j (Jm _ d)) k
structure y1(a:Addr)(es:Array (Int×Value))(ep:Nat)(t:MV)(xs:List (Int×Value))(sl:Nat->Nat->Prop):Prop where
 next:∀k slot e,xs[k]?=IK e->sl k slot->∃nx,sl (k+1) nx/\∀(B:Around) (s:IY) (P:Option (Value×Nat)->IY->Prop) E,s.heap.get? a=IK (cX es ep t)->P (IK (e.2,nx)) s->Jd (I6 W.prog W.w) B (ON a slot k ep) P E s
 stop:∀slot,sl xs.length slot->∀(B:Around) (s:IY) (P:Option (Value×Nat)->IY->Prop) E,s.heap.get? a=IK (cX es ep t)->P none s->Jd (I6 W.prog W.w) B (ON a slot xs.length ep) P E s
theorem uO{iter}(T:cB)(hA:A.handled=none){R}(h:c8 A F iter lc st λc ac=>GZ c ac R):y4 A F C iter lc st R:=by
 have ak {E s a es ep t l P} (u:s.heap.get? a=IK (cX es ep t)) (d:je es t l) (hz:es.size<scanBound) (H:(!dF W.w&&(!t.plain&&es.size > 1))=true->∀(ys:List Nat) d,ys.Perm (J4 es.size)->P (.ref (s.heap.objs.size+1)) {s with heap:=(s.heap.push {cls:=.type "tuple",data:=.seq (ys.map fun(i:Nat)=>Lb i).toArray}).push (fV (.ref s.heap.objs.size) 0 a es.size ep),drawn:=d}) (h2:(!dF W.w&&(!t.plain&&es.size > 1))=false->P (.ref s.heap.objs.size) {s with heap:=s.heap.push (fV (Lb 0) 0 a es.size ep)}):Jd (I6 W.prog W.w) A (Mm (.ref a)) P E s:=by
  have aj {A P} (u:s.heap.get? a=IK (cX es ep t)) (hf:t.fits es.size=true) (h:P (!dF W.w&&(!t.plain&&es.size > 1)) s):Jd (I6 W.prog W.w) A (setDrawn a) P E s:=by
   refine II (KS u rfl hf ?_);refine II (II (L6 (IP ?_)));exact IP h
  have hT:s.TypeIs (.ref a) "set":=⟨_,u,rfl⟩
  have af:Nh QE "set.__iter__"=IK Builtin.«frozenset.__iter__» :=
   QN (id':="frozenset.__iter__") (by kernel_rfl) rfl (by decide +kernel) (by kernel_rfl)
  refine Py hT Qm (JG Qm hT af ?_ (PySem.F.args_set_iter_1 _));delta Builtin.«frozenset.__iter__» SM slotArgs;simp only[O9,Bool.not_true,OC,↓reduceIte,bind_assoc,NQ,bne_self_eq_false];refine II (IP ?_);refine II (IP ?_);refine II (II (Mb u rfl d.fits (IP ?_)));refine II (aj u d.fits ?_);cases hb:(!dF W.w&&(!t.plain&&decide (es.size > 1))) with
  |true =>
   rw[if_pos rfl];refine II (jt es.size (J4 es.size) _ _ (by rw[J9];exact IQ _) λys d' hp=>II ?_);have hl:ys.length=es.size:=by rw[hp.length_eq,J9]
   refine QC ?_ (by rw[IZ,hl];exact PJ hz);refine II (II (KS (es:=es) (ep:=ep) (t:=t) (o:=cX es ep t) (IS _ u) rfl d.fits (IP ?_)));refine II (JN (IP ⟨_,rfl,"set_iterator",_,⟨_,I0 _ rfl,rfl⟩,dA.lookup,?_⟩));have:=H hb ys d' hp;rw[I7];exact this
  |false =>
   rw[if_neg (by decide)];refine II (IP ?_);unfold setEpoch;refine II (II (KS u rfl d.fits (IP ?_)));refine II (JN (IP ⟨_,rfl,"set_iterator",_,⟨_,I0 _ rfl,rfl⟩,dA.lookup,?_⟩));exact h2 hb
 have aq {I a es ep t xs sl} (hf:t.fits es.size=true) (so:y1 a es ep t xs sl) :
   l5 A I a (cX es ep t) xs (λk h=>∃f:Nat,sl k f/\h.get? I=IK (fV (Lb f) k a es.size ep)):=by
  have am {E s} {f:Nat} {i P} (hI:s.heap.get? I=IK (fV (Lb f) i a es.size ep)) (u:s.heap.get? a=IK (cX es ep t)) (hn:∀(P':Option (Value×Nat)->IY->Prop) E',P' none s->Jd (I6 W.prog W.w) A.in1 (ON a f i ep) P' E' s) (h:∀h',MC I s.heap h'->P none {s with heap:=h'}):Jd (I6 W.prog W.w) A (Lj (.ref I)) P E s:=by
   have hT:s.TypeIs (.ref I) "set_iterator":=⟨_,hI,rfl⟩
   refine II (Ko (JH (name:=IM "__next__") hT dA
    (JG dA hT gB ?_ (ig _))))
   refine II (IP ?_);refine II (OF hI rfl ?_);refine II (Mb u rfl hf ?_);rw[if_neg (by simp)];show Jd _ _ (ON a ((f:Int)).toNat ((i:Int)).toNat ((ep:Int)).toNat >>= _) _ _ _;rw[JD,JD,JD];refine II (hn _ _ ?_);refine II (K7 hI rfl (by simp) ?_);show Jd _ _ (Tc (.type "StopIteration") [] >>= _) _ _ _;refine II ?_;refine II (JN ?_ (by size_fits));refine II (m:=KR _ _) (Mo (a:=Lp) (by first | rfl | (simp only[KR];rfl)) ?_);refine JN ?_ (by size_fits);refine II (NF ?_);refine(show A.in1.handled=none from hA).symm▸?_;refine II (IP (OD ?_));refine II (Lu (T:="StopIteration") (b:=true) ⟨_,I0 _ rfl,rfl⟩ Mw ?_);exact IP (h _ (((Jx ..).extBut.push _).push _))
  refine⟨λk e s P hk ⟨f,H,h2⟩ u hP=>?_,λs P ⟨f,H,h2⟩ u hP=>?_,λk h aD=>by obtain⟨f,_,H⟩:=aD;exact⟨_,H,rfl⟩⟩
  ·obtain⟨nx,h3,h4⟩:=so.next k f e hk H;have al {E i x} (hI:s.heap.get? I=IK (fV (Lb f) i a es.size ep)) (hn:∀(P':Option (Value×Nat)->IY->Prop) E',P' (IK (x,nx)) s->Jd (I6 W.prog W.w) A.in1 (ON a f i ep) P' E' s) (h:∀h',h'.get? I=IK (fV (Lb nx) (i+1) a es.size ep)->JW I s.heap h'->P (IK x) {s with heap:=h'}):Jd (I6 W.prog W.w) A (Lj (.ref I)) P E s:=by
    have hT:s.TypeIs (.ref I) "set_iterator":=⟨_,hI,rfl⟩
    refine II (Ko (JH (name:=IM "__next__") hT dA
     (JG dA hT gB ?_ (ig _))))
    refine II (IP ?_);refine II (OF hI rfl ?_);refine II (Mb u rfl hf ?_);rw[if_neg (by simp)];show Jd _ _ (ON a ((f:Int)).toNat ((i:Int)).toNat ((ep:Int)).toNat >>= _) _ _ _;rw[JD,JD,JD];refine II (hn _ _ ?_);refine II (K7 hI rfl (by simp) ?_);have H:=m9 0 (Lb nx) hI;refine II (K7 H rfl (by simp [fV,TU]) ?_);refine IP ⟨_,rfl,IP (h _ ?_ ((Jx ..).trans (Jx ..)))⟩;exact Jv _ H rfl
   exact al h2 (λP' E' q=>h4 _ s P' E' u q) λh' h5 hs=>hP h' ⟨nx,h3,h5⟩ hs
  ·exact cG (am h2 u (λP' E' q=>so.stop f H _ s P' E' u q) λh' hx hz=>hP h' hz hx)
 have av {l a es ep t} (d:je es t l) (hb:(!dF W.w&&(!t.plain&&decide (es.size > 1)))=false):∃xs sl,xs.Perm es.toList/\sl 0 0/\y1 a es ep t xs sl:=by
  have J {A E s f i P} (hb:dF W.w=true) (u:s.heap.get? a=IK (cX es ep t)) (hf:t.fits es.size=true) (h:P (((Rk (W.w.params.setOrder a ep) es)[i]?).map λe=>(e.2,f)) s) :
    Jd (I6 W.prog W.w) A (ON a f i ep) P E s:=by
   have ah:W.w.params.followText "set-order"=true:=hb;refine II (KS u rfl hf ?_);refine II (II (L6 (IP ?_)));show Jd _ _ (if W.w.params.followText "set-order"=true then _ else _) _ _ _;refine(ah).symm▸?_;refine(if_pos rfl).symm▸?_;rw[if_neg (by simp)];refine II (II (KS u rfl hf ?_));refine II (II (L6 (IP ?_)));show Jd _ _ (if W.w.params.followText "set-order"=true then _ else _) _ _ _;refine(ah).symm▸?_;refine(if_pos rfl).symm▸?_;exact II (L6 (IP (IP h)))
  have G {A E s f i P} (hb:dF W.w=false) (u:s.heap.get? a=IK (cX es ep t)) (hf:t.fits es.size=true) (hd:(!t.plain&&decide (es.size > 1))=false) (hl:t.led=true) (h:P (match es[MD t.place f]?,t.place[MD t.place f]? with | IK (_,x),IK j=>IK (x,j+1) | _,_=>none) s):Jd (I6 W.prog W.w) A (ON a f i ep) P E s:=by
   have ah:W.w.params.followText "set-order"=false:=hb;refine II (KS u rfl hf ?_);refine II (II (L6 (IP ?_)));show Jd _ _ (if W.w.params.followText "set-order"=true then _ else _) _ _ _;refine(ah).symm▸?_;rw[if_neg (by decide)];show Jd _ _ (if(!t.plain&&decide (es.size > 1))=true then _ else _) _ _ _;rw[hd,if_neg (by decide)];show Jd _ _ ((if(!t.led && !es.isEmpty)=true then Qg "set:maker-not-led" else pure ()) >>= _) _ _ _;refine(hl).symm▸?_;exact II (IP (IP h))
  have ag (p:Nat):MD #[p] 0=0/\MD #[p] (p+1)=1:=by
   have h : ∀j,MD #[p] j=if p<j then 1 else 0:=λj=>by
    show Ny #[p] j 1 0 1=_;show(if(0:Nat)<1 then(if #[p].getD 0 j<j then Ny #[p] j 0 1 1 else Ny #[p] j 0 0 0) else 0)=_;exact if_pos (by decide)
   exact⟨(h 0).trans (if_neg (I4 _)),(h (p+1)).trans (if_pos (Jg p))⟩
  cases ao:dF W.w with
  |true =>
   have ap {α} (next:Nat->Nat) (xs:Array α):(Rk next xs).toList.Perm xs.toList:=by
    unfold Rk;have:=k4 next xs.size 0 xs.toList #[] (by simp)
    simpa using this
   refine⟨(Rk (W.w.params.setOrder a ep) es).toList,λZ f=>f=0,ap _ es,rfl,λk f e hk hs=>⟨0,rfl,λB s P E u hP=>?_⟩,λf hs B s P E u hP=>?_⟩
   ·subst hs;rw[Ju] at hk;exact J ao u d.fits (by rw[hk];exact hP)
   ·subst hs;exact J ao u d.fits (by rw[Qv (by rw[I3];exact IQ _)];exact hP)
  |false =>
   have au:t.led=true:=d.led.elim (λq=>absurd (ao.symm.trans q) Kw) id;rw[ao] at hb;have ah:(!t.plain&&decide (es.size > 1))=false:=hb;have aC:t.place.size=es.size:=by
    have:=d.fits;unfold MV.fits at this;rw[Ke,beq_iff_eq] at this;exact this.1
   cases ax:es.toList with
   |nil =>
    have az:es=#[]:=by rw[<-RQ,ax]
    refine⟨[],λZ f=>f=0,.refl _,rfl,λk f e hk=>(by cases hk),λf hs B s P E u hP=>?_⟩;subst hs;refine G ao u d.fits ah au ?_;refine((O5 (by refine(aC).symm▸?_;refine(az).symm▸?_;rfl):t.place=#[])).symm▸?_;refine(az).symm▸?_;exact hP
   |cons e l' =>
    have aB:l'=[]:=by
     have H:es.size=l'.length+1:=by refine(I3)▸?_;refine(ax).symm▸?_;rfl
     rcases d.plain with q | q
     ·have H:=q▸H;cases H
     ·rw[q] at ah;have:¬es.size > 1:=by simpa using ah
      exact List.length_eq_zero_iff.mp (by exact b6 17 22 H this)
    subst aB;have he:es=#[e]:=by rw[<-RQ,ax]
    obtain⟨p,hp⟩:∃p,t.place=#[p]:=Array.size_eq_one_iff.mp (by refine(aC).symm▸?_;refine(he).symm▸?_;rfl);refine⟨[e],λk f=>f=if k=0 then 0 else p+1,.refl _,rfl,λk f e' hk hs=>?_,λf hs B s P E u hP=>?_⟩
    ·cases k with
     |zero =>
      obtain rfl:=Jk hk;subst hs;refine⟨p+1,rfl,λB s P E u hP=>G ao u d.fits ah au ?_⟩;refine(hp).symm▸?_;refine(he).symm▸?_;refine(if_pos rfl).symm▸?_;refine((ag p).1).symm▸?_;exact hP
     |succ k=>cases hk
    ·subst hs;refine G ao u d.fits ah au ?_;refine(hp).symm▸?_;refine(he).symm▸?_;rw[if_neg (by simp)];refine((ag p).2).symm▸?_;exact hP
 intro σ s p;refine b0 (h σ s p) λw s₁ Q ac c ae hc q=>?_;obtain⟨j,l,rfl,hj,hz,q⟩:=q;obtain⟨aA,rfl⟩:=hc;obtain⟨es,ep,t,u,d⟩:=ae.rel.at_ j _ hj;have hsz:es.size<scanBound:=by rw[d.size];exact hz
 have gl:(ac.set j (.fix (cX es ep t))).length=ac.length:=L9;have fin:∀(h':Heap) (dr:Drawn) (I:Addr) (X:Addr->Prop) (S:Nat->Heap->Prop) (xs:List (Int×Value)),xs.Perm es.toList->l5 A I (Q.a j) (cX es ep t) xs S->S 0 h'->X I->(∀b,X b->s₁.heap.objs.size<=b)->(∀k h b,S k h->X b->∃o,h.get? b=IK o/\dp o) ->
   (∀k h h',S k h->(∀b,X b->∀o,h.get? b=IK o->h'.get? b=IK o)->S k h')->(∀b o,s₁.heap.get? b=IK o->h'.get? b=IK o)->s₁.heap.objs.size<=h'.objs.size->PI A C σ st s R (.ref I) {s₁ with heap:=h',drawn:=dr}:=by
  intro h' dr I X S xs ay D hS aG nw so fr hk aL;refine IJ λzz=>?_;have ar {xs:List (Int×Value)} {es} (hp:xs.Perm es) (hl:(es.map λe=>norm e.2).Perm (l.map λx=>.str x 0)):∃l':List Str,l'.Perm l/\(xs.map λe=>norm e.2)=l'.map λx=>.str x 0:=by
   have p:=(hp.map λe=>norm e.2).trans hl;refine⟨(xs.map λe=>norm e.2).map (λv=>match v with | .str x _=>x | _=>Oi),?_,?_⟩
   ·refine(p.map _).trans ?_;rw[JB];have:((λv:Value=>match v with | .str x _=>x | _=>Oi) ∘ λx:Str=>OV x 0)=id:=by funext x;rfl
    refine(this).symm▸?_;rw[N7]
   ·refine J3 ?_ (JB).symm
    conv=>lhs;rw[<-N7 (xs.map λe=>norm e.2)]
    apply Kn;intro v hv;obtain⟨x,_,rfl⟩:=Qz.mp (p.mem_iff.mp hv)
    rfl
  obtain⟨l',pl,el⟩:=ar ay d.perm;refine zz ?_;have g:=dQ (X:=dY) (h':=h') (k:=s₁.toks) ae.inv ae.rel hk aL (IQ _);have y:Step Q ac s₁ Q ac {s₁ with heap:=h',drawn:=dr}:=⟨⟨g.x.len,g.x.ext,g.x.new,g.x.z,g.x.znew,g.x.keep,g.x.grow,g.x.tgrow⟩,⟨g.inv.old,g.inv.stat,g.inv.os,g.inv.bare,g.inv.size,g.inv.tk,g.inv.tb⟩,
   ⟨λh o e=>RO.mono (X:=dY) (s:={s₁ with heap:=h'}) (h:=g.rel.at_ h o e) (s':={s₁ with heap:=h',drawn:=dr}) ⟨IQ _,λZ Y=>rfl,λZ h h'=>absurd h' (Nat.not_lt.mpr h),λZ h=>h,λZ=>.inl,λZ Y h U N M=>h,IQ _,IQ _⟩ g.rel.apart (λZ h Y=>h) (λZ Y U N h=>h),g.rel.above,g.rel.inj,g.rel.zlt,g.rel.zoff⟩,g.gkeep,g.gdom,g.ggrow⟩
  exact⟨Q,_,(ae.trans y).trans (iy (X:=dY) (j:=j) (o:=.fix (cX es ep t)) y.inv y.rel ⟨hk _ _ u,b9 rfl⟩ (λZ Y U q=>O.noConfusion q)),.r j,.ref (Q.a j),⟨by rw[gl];exact aA,rfl⟩,X,S,_,_,ye T D (λb hb=>IT ae.inv.size (nw b hb)) aG so fr el,hS,λb hb=>IT (ae.x.grow) (nw b hb),
   λb hb=>⟨λhz=>I2 _ (IU (ae.rel.zlt b hz) (nw b hb)),λh hh e'=>I2 _ (IU (ae.rel.lt (gl▸hh)) (e'▸nw b hb))⟩,by exact(Km aA).symm▸rfl,q _ l' ⟨es,ep,t,rfl,d⟩ pl⟩
 refine ak u d hsz (λhb ys dd hp=>?_) λhb=>?_
 ·have an {A I a Tt es ep t ys} (hA:A.handled=none) (aI:I≠Tt) (hf:t.fits es.size=true) (hp:ys.Perm (J4 es.size)) :
    l5 A I a (cX es ep t) (ys.filterMap λj=>es[j]?) (λk h=>h.get? I=IK (fV (.ref Tt) k a es.size ep)/\h.get? Tt=IK (iT ys)):=by
   have aa {E s i ai} {hx:Int} {x P} (hI:s.heap.get? I=IK (fV (.ref Tt) i a es.size ep)) (hT:s.heap.get? Tt=IK (iT ys)) (u:s.heap.get? a=IK (cX es ep t)) (hp:ys[i]?=IK ai) (hx:es[ai]?=IK (hx,x)) (h:∀h',h'.get? I=IK (fV (.ref Tt) (i+1) a es.size ep)->JW I s.heap h'->P (IK x) {s with heap:=h'}):Jd (I6 W.prog W.w) A (Lj (.ref I)) P E s:=by
    have as:s.TypeIs (.ref I) "set_iterator":=⟨_,hI,rfl⟩
    refine II (Ko (JH (name:=IM "__next__") as dA
     (JG dA as gB ?_ (ig _))))
    refine II (IP ?_);refine II (OF hI rfl ?_);refine II (Mb u rfl hf ?_);rw[if_neg (by simp)];refine II (JS hT rfl ?_);have e1:(ys.map fun(i:Nat)=>Lb i).toArray[((i:Int)).toNat]?=IK (Lb ai):=by
     rw[JD,Ms,Jt,hp];rfl
    dsimp only;rw[e1];show Jd _ _ (setNextDrawn a ((ai:Int)).toNat ((ep:Int)).toNat >>= _) _ _ _;refine(JD ..).symm▸?_;refine(JD ..).symm▸?_;refine II (II (KS u rfl hf ?_));show Jd _ _ (if(ep != ep)=true then _ else _) _ _ _;rw[if_neg (by simp)];refine(hx).symm▸?_;refine IP ?_;refine II (K7 hI rfl (by simp) ?_);exact IP ⟨_,rfl,IP (h _ (Jv _ hI rfl) (Jx ..))⟩
   have ab {E s i P} (hI:s.heap.get? I=IK (fV (.ref Tt) i a es.size ep)) (hT:s.heap.get? Tt=IK (iT ys)) (u:s.heap.get? a=IK (cX es ep t)) (hp:ys[i]?=none) (h:∀h',MC I s.heap h'->P none {s with heap:=h'}):Jd (I6 W.prog W.w) A (Lj (.ref I)) P E s:=by
    have as:s.TypeIs (.ref I) "set_iterator":=⟨_,hI,rfl⟩
    refine II (Ko (JH (name:=IM "__next__") as dA
     (JG dA as gB ?_ (ig _))))
    refine II (IP ?_);refine II (OF hI rfl ?_);refine II (Mb u rfl hf ?_);rw[if_neg (by simp)];show Jd _ _ (seqItems? (.ref Tt) >>= _) _ _ _;refine II (JS hT rfl ?_);have e1:(ys.map fun(i:Nat)=>Lb i).toArray[((i:Int)).toNat]?=none:=by
     rw[JD,Ms,Jt,hp];rfl
    dsimp only;rw[e1];refine II (K7 hI rfl (by simp) ?_);refine II (K7 (m9 0 (Lb 0) hI) rfl (by simp) ?_);show Jd _ _ (Tc (.type "StopIteration") [] >>= _) _ _ _;refine II ?_;simp only[Tc,newTuple];refine II (JN ?_ (by size_fits));refine II (m:=KR _ _) (Mo (a:=Lp) (by first | rfl | (simp only[KR];rfl)) ?_);refine JN ?_ (by size_fits);refine II (NF ?_);refine(show A.in1.handled=none from hA).symm▸?_;refine II (IP (OD ?_));refine II (Lu (T:="StopIteration") (b:=true) ⟨_,I0 _ rfl,rfl⟩ Mw ?_);exact IP (h _ ((((Jx ..).trans (Jx ..)).extBut.push _).push _))
   have aK:∀j∈ys,j<es.size:=λj hj=>List.mem_range.mp (hp.mem_iff.mp hj);have hl:(ys.filterMap λj=>es[j]?).length=ys.length:=by
    have:=(hp.filterMap λj=>es[j]?).length_eq;rw[Q9] at this;refine(this).symm▸?_;refine(I3).symm▸?_;refine(hp.length_eq).symm▸?_;exact(J9).symm▸rfl
   refine⟨λk e s P hk H u hP=>?_,λs P H u hP=>?_,λk h H=>⟨_,H.1,rfl⟩⟩
   ·rw[yq es ys aK k,Option.bind_eq_some_iff] at hk;obtain⟨p,aH,aJ⟩:=hk;exact aa H.1 H.2 u aH aJ λh' h3 hs=>hP h' ⟨h3,(hs.2 Tt (LG aI)).trans H.2⟩ hs
   ·rw[hl] at H;exact cG (ab H.1 H.2 u (Ka (IQ _)) λh' hx hz=>hP h' hz hx)
  refine fin _ dd _ (λb=>b=s₁.heap.objs.size+1∨b=s₁.heap.objs.size) _ _ ?_ (an hA (My _) d.fits hp) ⟨?_,IS _ (I0 _ rfl)⟩ (.inl rfl) (λb hb=>hb.elim (λq=>q▸I8 _) λq=>Js q.symm)
   (λk h b H hb=>hb.elim (λq=>⟨_,q▸H.1,b9 rfl⟩) λq=>⟨_,q▸H.2,b9 rfl⟩) (λk h h' H hk=>⟨hk _ (.inl rfl) _ H.1,hk _ (.inr rfl) _ H.2⟩) (λb o' aw=>IS _ (IS _ aw)) (by rw[I7];refine(I7 ..).symm▸?_;exact Jc _ 2)
  ·have:=hp.filterMap λj=>es[j]?
   rwa [Q9] at this
  ·have:=I0 (s₁.heap.push (iT ys)) (o:=fV (.ref s₁.heap.objs.size) 0 (Q.a j) es.size ep) rfl;have this:=(I7 ..)▸this;exact this
 ·obtain⟨xs,sl,ay,h0,so⟩:=av (a:=Q.a j) (ep:=ep) d hb;exact fin _ s₁.drawn _ (λb=>b=s₁.heap.objs.size) _ _ ay (aq d.fits so) ⟨0,h0,I0 _ rfl⟩ rfl (λb hb=>Js hb.symm) (λk h b aE hb=>by obtain⟨f,_,H⟩:=aE;exact⟨_,hb▸H,b9 rfl⟩) (λk h h' aF hk=>by obtain⟨f,H,h2⟩:=aF;exact⟨f,H,hk _ rfl _ h2⟩)
   (λb o' aw=>IS _ aw) (by refine(I7 ..).symm▸?_;exact I8 _)
inductive HR(I:Nat->Lc->St->Prop)(n:Nat)(lc:Lc)(st:St):Prop
 |mk (m:Nat) (h:m<n) (q:I m lc st)
noncomputable def IA(I:Nat->Lc->St->Prop)(n:Nat)(Q:Fl->Lc->St->Prop)(f:Fl)(lc:Lc)(st:St):Prop:=match f with
 |.brk=>Q .next lc st
 |.ret u=>Q (.ret u) lc st
 |_=>HR I n lc st
variable {Q:Fl->Lc->St->Prop}
inductive Fb(F:dH)(I:Nat->Lc->St->Prop)(σ:Sg)(st:St)(s:IY)(n:Nat)(s':IY):Prop
 |mk (σ':Sg) (lc':Lc) (st':St) (h:I n lc' st') (x:dT (· =F.L) F.m σ st s σ' st' s') (fr:ee F σ' st'.length lc' s')
theorem gb{test body pos}(I:Nat->Lc->St->Prop)(turn:∀n lc st,I n lc st->lP A F test lc st λb o=>Br b (cK A F body lc o (IA I n Q)) (Q .next lc o))(n:Nat)(h:I n lc st):eG A F (.While test body [] pos) lc st Q:=by
 intro σ s p;refine wpAny_While ?_;refine codeAny_whileLoop (I:=Fb F I σ st s) (λn s' H=>?_) n ⟨σ,lc,st,h,p.refl.ir,p.f⟩;obtain⟨σ',C,z,M,x,fr⟩:=H;refine I5 (eA (P:=λb s₂=>_) (turn n C z M σ' s' ⟨x.inv,x.rel,fr⟩) λb s₂ j st₂ r q=>?_) (λZ Y q=>q) λZ Y e=>e.elim;have y:Pre F j C st₂ s₂:=(Pre.mk x.inv x.rel fr).step r;cases b with
 |false=>exact Qr ⟨j,C,st₂,x.trans r.iQ.ir,y.f,.next,rfl,q.f rfl⟩
 |true =>
  refine dX (q.t rfl j s₂ y) λS J i c d g D a E k=>?_;have w:=(x.trans r.iQ.ir).trans D;cases g with
  |next=>cases E;obtain⟨m,G,B⟩:=k;exact⟨m,G,i,c,d,B,w,a⟩
  |cont=>cases E;obtain⟨m,G,B⟩:=k;exact⟨m,G,i,c,d,B,w,a⟩
  |brk=>cases E;exact⟨i,c,d,w,a,.next,rfl,k⟩
  |ret v=>obtain⟨u,rfl,R⟩:=E;exact⟨i,c,d,w,a,.ret v,⟨u,rfl,R⟩,k⟩
noncomputable def pq(A:Around)(F:dH):List Expr->V->Lc->St->(Lc->St->Prop)->Prop
 |[],Z,lc,st,Q=>Q lc st
 |t::l,v,lc,st,Q=>dN A F t v lc st λa z=>pq A F l v a z Q
theorem gM{Q}:∀(ts:List Expr) (v:V) (w:Value) (lc:Lc) (st:St) (σ:Sg) (s:IY),RV σ st.length s v w->pq A F ts v lc st Q->Pre F σ lc st s->Wp A (assignAll w (ts.map λt=>Ni t F.env)) (PA F σ st s Q) s
 |[],v,w,lc,st,σ,s,e,h,p=>IP ⟨σ,lc,st,p.refl,p.f,h⟩
 |[t],v,w,lc,st,σ,s,e,h,p=>h σ s w e p
 |t::t'::ts,v,w,lc,st,σ,s,e,h,p=>by
  show Jd _ _ (do Mh [w] (Ni t F.env w);assignAll w ((t'::ts).map λt=>Ni t F.env)) _ _ _;refine II (I9 (fO (h σ s w e p) λu s₁ d a c x fr q=>?_));exact pV x (gM (t'::ts) v w a c d s₁ (RV.AL e p.r p.f x) q ⟨x.inv,x.rel,fr⟩)
theorem mj{e ts l env}(h:fx e=true):U4 ts e l env=pure false:=by
 match ts with
 |[]=>rfl
 |[t]=>exact kS h
 |Z::Y::U=>rfl
theorem gc{targets value pos}(i:fx value=true)(hw:MN targets value F.env=pure none)(g:targets.all cN=true)(h:c8 A F value lc st λv a=>pq A F targets v lc a (Q .next)):eG A F (.Assign targets value pos) lc st Q:=by
 intro σ s p;refine SP (b0 (h σ s p) λw s₁ d a v c j q=>?_) (mj i) hw;refine(ia F.env g).symm▸?_;refine(JB).symm▸?_;exact fO (gM targets v w lc a d s₁ j q (p.step c)) λu f e lc₂ st₂ x fr q=>⟨e,lc₂,st₂,(c.iQ.trans x).ir,fr,.next,rfl,q⟩
noncomputable def jT:List (Str×V)->Lc->Lc
 |[],lc=>lc
 |(x,v)::l,lc=>jT l (lc.set x v)
theorem ot{Q}(T:cB):∀(l:List (Str×V)) (ws:List Value) (lc:Lc) (σ:Sg) (s:IY),cW σ st.length s (l.map (·.2)) ws->(∀p∈l,F.kd p.1=IK .local)->Q (jT l lc) st->Pre F σ lc st s->Wp A (Vc (l.map λx=>UO F.env x.1) ws) (PA F σ st s Q) s
 |[],ws,lc,σ,s,j,a,h,p=>by cases j;exact Q7 ⟨_,_,_,p.refl,p.f,h⟩
 |(y,v)::l,ws,lc,σ,s,⟨w,c,e,d,g⟩,a,h,p=>by
  subst e;refine Q8 (wpAny_bindName (gw T p (a _ (Je ..)) d λs₁ x fr=>?_));exact pV x (ot T l c _ σ s₁ (g.mono x.x (p.f.kO p.r rfl)) (λp i=>a p (Jm _ i)) h ⟨x.inv,x.rel,fr⟩)
theorem cW.Ii{n vs}:∀ {ws:List Value},cW σ n s vs ws->cW σ n s vs.reverse ws.reverse:=by
 induction vs with
 |nil=>intro ws h;cases h;rfl
 |cons v vs d =>
  intro ws ⟨w,f,e,a,c⟩;subst e;rw[LA,LA];exact cW.app (us:=[v]) (xs:=[w]) ⟨w,[],rfl,a,rfl⟩ (d c)
theorem Ae{elts names k tpos pos value}(T:cB)(G:A.handled=none)(J:fx value=true)(hw:MN [.Tuple elts k tpos] value F.env=pure (IK names))(H:∀y∈names,F.kd y=IK .local)(h:c8 A F value lc st λv c=>∃items,v=.t items/\items.length=names.length/\Q .next (jT (names.zip items).reverse lc) c):eG A F (.Assign [.Tuple elts k tpos] value pos) lc st Q:=by
 intro σ s p;refine Assign_Tuple_swapped (b0 (h σ s p) λw s₁ d c v a M q=>?_) (mj J) hw;refine IJ λR=>?_;obtain⟨items,rfl,z,q⟩:=q;refine R ?_;refine(z)▸?_;refine I5 (tZ G d s₁ w M a.inv a.rel) (λws o C=>?_) λZ Y e=>e;obtain⟨B,f⟩:=C;have E:names.reverse.map (λn=>UO F.env n)=(names.zip items).reverse.map λx=>UO F.env x.1:=by
  have:(names.zip items).map (·.1)=names:=O8 (Js z.symm)
  conv=>lhs;rw[<-this,<-R8,JB]
  rfl
 refine(E).symm▸?_;refine fO (ot (Q:=Q .next) T _ ws.reverse lc d o ?_ (λy P=>H _ (L7 (List.mem_reverse.mp P)).1) q (p.step (a.trans f))) λu D j g i r fr q=>⟨j,g,i,((a.trans f).iQ.trans r).ir,fr,.next,rfl,q⟩
 refine(R8).symm▸?_;refine(O7 (Js z)).symm▸?_;exact B.Ii
noncomputable def sP(t a:Expr):Bool:=match kE t with
 |.lst=>false
 |.tup=>match kE a with
  |.tup=>false
  |_=>true
 |_=>true
theorem g8{t value env}(h:sP t value=true):MN [t] value env=pure none:=by
 cases t with
 |Tuple ts k p=>cases value with
  |Tuple=>exact IW (h:false=true)
  |_=>rfl
 |List=>exact IW (h:false=true)
 |_=>rfl
noncomputable def lS(ts:List Expr)(env:Env):List Str:=ts.filterMap fun
 |.Name id pos=>if env.kindOf id == IK .local&&pos.line == (ts.head?.map (·.pos.line)).getD 0 then IK id else none
 |_=>none
noncomputable def F7(ts vs:List Expr)(env:Env):Option (Option (List Str)):=cond (!(ts.length == 2 || ts.length == 3) || vs.length != ts.length || env.blockKind != .function) (IK none)
 (cond (vs.all cN) (cond ((lS ts env).length != ts.length || (lS ts env).eraseDups.length != (lS ts env).length) (IK none)
  (cond (vs.all (foldedForSure 8)) (IK none) (cond (vs.all (constantsAlone 8)) none (IK (IK (lS ts env)))))) none)
inductive EV where
 |const (c:Const)
 |name (x:Str)
 |bin (a:Expr) (op:MW) (b:Expr)
 |cmp (a:Expr) (op:CmpOp) (b:Expr)
 |bool (op:U1) (es:List Expr)
 |not (e:Expr)
 |ife (t a b:Expr)
 |tup (es:List Expr)
 |lst (es:List Expr)
 |sub (a k:Expr)
 |slc (a:Expr) (l u k:Option Expr)
 |attr (o:Expr) (x:Str)
 |call (f:Str) (p:Ua) (es:List Expr)
 |meth (o:Expr) (x:Str) (es:List Expr)
 |dict0
 |oth
noncomputable def BM(a k:Expr):Ek->EV
 |.slice l u s=>.slc a l u s
 |_=>.sub a k
noncomputable def yy(f:Expr)(es:List Expr)(pos:Ua):EV:=match f with
 |.Name x p=>.call x p es
 |.Attribute o x a=>cond (fZ o&&decide (es.length<30)&&(a.endLine == pos.line)) (.meth o x es) .oth
 |_=>.oth
noncomputable def ev(e:Expr):EV:=match e with
 |.Constant c Z Y=>.const c
 |.Name x Z=>.name x
 |.BinOp a op b Z=>.bin a op b
 |.Compare a g bs Z=>match g with
  |[op]=>match bs with
   |[b]=>cond (O6 op b) .oth (.cmp a op b)
   |_=>.oth
  |_=>.oth
 |.BoolOp op es Z=>.bool op es
 |.UnaryOp op x Z=>match op with
  |.Not=>.not x
  |_=>.oth
 |.IfExp t a b Z=>.ife t a b
 |.Tuple es Z Y=>cond (es.all cN) (.tup es) .oth
 |.List es Z=>cond (es.all cN) (.lst es) .oth
 |.Subscript a k Z=>BM a k (kE k)
 |.Attribute o x Z=>cond (fZ o) (.attr o x) .oth
 |.Call f es d pos=>match d with
  |[]=>cond (es.all cN) (yy f es pos) .oth
  |_=>.oth
 |.Dict h vs Z=>match h with
  |[]=>match vs with
   |[]=>.dict0
   |_=>.oth
  |_=>.oth
 |_=>.oth
inductive gN:Expr->EV->Prop
 |const (c k p):gN (.Constant c k p) (.const c)
 |name (x p):gN (.Name x p) (.name x)
 |bin (a op b p):gN (.BinOp a op b p) (.bin a op b)
 |cmp (a op b p) (h:O6 op b=false):gN (.Compare a [op] [b] p) (.cmp a op b)
 |bool (op es p):gN (.BoolOp op es p) (.bool op es)
 |not (e p):gN (.UnaryOp .Not e p) (.not e)
 |ife (t a b p):gN (.IfExp t a b p) (.ife t a b)
 |tup (es k p) (h:es.all cN=true):gN (.Tuple es k p) (.tup es)
 |lst (es p) (h:es.all cN=true):gN (.List es p) (.lst es)
 |sub (a k p) (h:gQ k=true):gN (.Subscript a k p) (.sub a k)
 |slc (a l u s q p):gN (.Subscript a (.Slice l u s q) p) (.slc a l u s)
 |attr (o x p) (h:fZ o=true):gN (.Attribute o x p) (.attr o x)
 |call (f p es pos) (h:es.all cN=true):gN (.Call (.Name f p) es [] pos) (.call f p es)
 |meth (o x ap es pos) (h:es.all cN=true) (hb:fZ o=true) (hf:es.length<30) (hl:(ap.endLine == pos.line)=true):gN (.Call (.Attribute o x ap) es [] pos) (.meth o x es)
 |dict0 (p):gN (.Dict [] [] p) .dict0
 |oth (e):gN e .oth
theorem BL(e:Expr):gN e (ev e):=by
 have j {d:Type} {P:d->Prop} {b x y} (l:P x) (h:b=false->P y):P (cond b x y):=by
  cases b with
  |true=>exact l
  |false=>exact h rfl
 cases e with
 |Constant c k p=>exact .const c k p
 |Name x p=>exact .name x p
 |BinOp a op b p=>exact .bin a op b p
 |Compare a z bs p=>cases z with
  |nil=>exact .oth _
  |cons op l=>cases l with
   |cons=>exact .oth _
   |nil=>cases bs with
    |nil=>exact .oth _
    |cons b l=>cases l with
     |cons=>exact .oth _
     |nil=>exact j (.oth _) (.cmp a op b p)
 |BoolOp op es p=>exact .bool op es p
 |UnaryOp op x p=>cases op with
  |Not=>exact .not x p
  |_=>exact .oth _
 |IfExp t a b p=>exact .ife t a b p
 |Tuple es k p=>exact eX (.tup es k p) (.oth _)
 |List es p=>exact eX (.lst es p) (.oth _)
 |Subscript a k p =>
  show gN _ (BM a k (kE k));cases h:kE k with
  |slice l u s =>
   have i {e} (h:kE e=.slice l u s):∃q,e=.Slice l u s q:=by
    cases e with
    |Slice l u s q=>cases h;exact⟨q,rfl⟩
    |Call f v r p=>cases v with
     |nil=>cases r <;> exact Ek.noConfusion h
     |cons=>exact Ek.noConfusion h
    |_=>exact Ek.noConfusion h
   obtain⟨q,rfl⟩:=i h;exact .slc a l u s q p
  |_=>exact .sub a k p (by unfold gQ;rw[h])
 |Attribute o x p=>exact eX (.attr o x p) (.oth _)
 |Call f es r pos=>cases r with
  |cons=>exact .oth _
  |nil =>
   have g (h:es.all cN=true):gN (.Call f es [] pos) (yy f es pos):=by
    cases f with
    |Name x p=>exact .call x p es pos h
    |Attribute o x A=>exact eX (λw=>.meth o x A es pos h (Bool.and_eq_true_iff.mp (Bool.and_eq_true_iff.mp w).1).1 (of_decide_eq_true (Bool.and_eq_true_iff.mp (Bool.and_eq_true_iff.mp w).1).2) (Bool.and_eq_true_iff.mp w).2) (.oth _)
    |_=>exact .oth _
   exact eX (g) (.oth _)
 |Dict B vs p=>cases B with
  |cons=>exact .oth _
  |nil=>cases vs with
   |cons=>exact .oth _
   |nil=>exact .dict0 p
 |_=>exact .oth _
inductive SV where
 |iff (t:Expr) (a b:List Stmt)
 |ret (e:Option Expr)
 |asg (t e:Expr)
 |asgT (ts vs:List Expr) (e:Expr)
 |asgs (ts:List Expr) (e:Expr)
 |aug (x:Str) (op:MW) (e:Expr)
 |expr (e:Expr)
 |forr (t i:Expr) (b:List Stmt)
 |del (o k:Expr)
 |pass
 |brk
 |cont
 |oth
noncomputable def AJ(t e:Expr):SV:=match t with
 |.Tuple es Z Y=>match e with
  |.Tuple vs Z Y=>.asgT es vs e
  |_=>.oth
 |_=>.oth
noncomputable def AK(ts:List Expr)(e:Expr):SV:=match ts with
 |[]=>.oth
 |t::l=>match l with
  |[]=>cond (sP t e&&cN t) (.asg t e) (AJ t e)
  |u::l=>cond ((t::u::l).all cN) (.asgs (t::u::l) e) .oth
noncomputable def sv(c:Stmt):SV:=match c with
 |.If t a b Z=>.iff t a b
 |.Return e Z=>.ret e
 |.Assign ts e Z=>cond (fx e) (AK ts e) .oth
 |.AugAssign t op e Z=>match t with
  |.Name x Z=>.aug x op e
  |_=>.oth
 |.Expr e Z=>cond (fx e) (.expr e) .oth
 |.For t i b d Z=>match d with
  |[]=>cond (jz i) (.forr t i b) .oth
  |_=>.oth
 |.Delete ts Z=>match ts with
  |[t]=>match t with
   |.Subscript o k Z=>.del o k
   |_=>.oth
  |_=>.oth
 |.Pass Z=>.pass
 |.Break Z=>.brk
 |.Continue Z=>.cont
 |_=>.oth
inductive iL:Stmt->SV->Prop
 |iff (t a b p):iL (.If t a b p) (.iff t a b)
 |ret (e p):iL (.Return e p) (.ret e)
 |asg (t e p) (h:fx e=true) (hs:sP t e=true) (hp:cN t=true):iL (.Assign [t] e p) (.asg t e)
 |asgT (ts k q vs k' q' p):iL (.Assign [.Tuple ts k q] (.Tuple vs k' q') p) (.asgT ts vs (.Tuple vs k' q'))
 |asgs (t u l e p) (h:fx e=true) (hp:(t::u::l).all cN=true):iL (.Assign (t::u::l) e p) (.asgs (t::u::l) e)
 |aug (x q op e p):iL (.AugAssign (.Name x q) op e p) (.aug x op e)
 |expr (e p) (h:fx e=true):iL (.Expr e p) (.expr e)
 |forr (t i b p) (h:jz i=true):iL (.For t i b [] p) (.forr t i b)
 |del (o k q p):iL (.Delete [.Subscript o k q] p) (.del o k)
 |pass (p):iL (.Pass p) .pass
 |brk (p):iL (.Break p) .brk
 |cont (p):iL (.Continue p) .cont
 |oth (c):iL c .oth
end
section
variable {prog:Program}{w:K8}{A:Around}{E:Value->IY->Prop}{s:IY}
theorem jo{id T sig a b o vs B Q}(g:LN id=IK sig)(u:OI id=IK .method)(j:Manifest.varargsMethods.contains id=false)(i:Mq (.type T) (.type "module")=pure false)(CG:M0 id {sig with full:=s!"{Bind.lastOf T}.{Bind.lastOf id}"} ⟨.ref a::vs,[]⟩=pure ())(p:TJ id=true)(r:Nh QE id=IK B)(x:s.heap.get? b=IK (gg id a))(q:s.heap.get? a=IK o)(hc:o.cls=.type T)(hd:∀c,o.data≠.cls c)(h:Jd (I6 prog w) A.in1 (B ⟨.ref a::vs,[]⟩) (λfin s'=>match fin with | .done f=>Sl Q E (.ok f) s' | .again c'=>c'.quiet=true/\M6 (I6 prog w) A c' (Sl Q E) s') (λe s'=>Sl Q E (.error e) s') s):Jd (I6 prog w) A (JX (.ref b) vs) Q E s:=by
 have d {prog w A s id T sig a o vs P} (g:LN id=IK sig) (u:OI id=IK .method) (j:Manifest.varargsMethods.contains id=false) (i:Mq (.type T) (.type "module")=pure false) (CG:M0 id {sig with full:=s!"{Bind.lastOf T}.{Bind.lastOf id}"} ⟨.ref a::vs,[]⟩=pure ()) (q:s.heap.get? a=IK o) (hc:o.cls=.type T) (hd:∀c,o.data≠.cls c) (h:P () s) :
   Jd (I6 prog w) A (UL id ⟨.ref a::vs,[]⟩) P E s:=by
  have v:s.TypeIs (.ref a) T:=⟨o,q,hc⟩
  unfold UL;refine(g).symm▸?_;refine(u).symm▸?_;show Jd _ _ (do let k <-Mn (.ref a) (.type "module");_) _ _ _;refine II (Lu v i ?_);rw[if_neg (by rw[j];decide)];refine II ?_;show Jd _ _ (loadHead a >>= λo=>pure (match o.data with | .cls _=>true | _=>false)) _ _ _;refine II (wpAny_loadPart q (IP ?_));have e:(match o.data with | .cls _=>true | _=>false)=false:=by
   cases e:o.data with
   |cls c=>exact absurd e (hd c)
   |_=>rfl
  rw[if_neg (by rw[e];decide)];refine II (Px v ?_);show Jd _ _ (M0 id {sig with full:=s!"{Bind.lastOf T}.{Bind.lastOf id}"} _) _ _ _;refine(CG).symm▸?_;exact IP h
 refine KD (Mj ?_);show Jd _ _ (callAny (.ref b) ⟨vs,[]⟩) _ _ s;refine II (QD x ?_);refine II (d g u j i CG q hc hd ?_);refine IP ⟨MP p _,LF r ?_⟩;rw[K6 p];exact h
end
noncomputable def ud(id:String):Manifest.Signature:=(LN id).getD ⟨.hand,"","",.none,[]⟩
section
variable {A:Around}{st:St}{Q:V->St->Prop}{K:Type}[DecidableEq K]{knd:KeyKind W.prog W.w K}{mk:List (K×V)->O}{a:List (K×V)}{j:Nat}{k:K}{c v dv:V}
end
section
variable {A:Around}{F:dH}{lc:Lc}{σ:Sg}{st:St}{s:IY}{Q:V->St->Prop}{j:Nat}{a:Nat}{vs:List V}{us:List V}{v:V}
theorem cW.split{n vs us}:∀ {ws:List Value},cW σ n s (vs++us) ws->∃xs ys,ws=xs++ys/\cW σ n s vs xs/\cW σ n s us ys:=by
 induction vs with
 |nil=>exact λh=>⟨[],_,rfl,rfl,h⟩
 |cons v vs g =>
  intro ws ⟨w,i,e,a,c⟩;refine IJ λj=>?_;obtain⟨xs,ys,rfl,d,f⟩:=g c;refine j ?_;exact⟨w::xs,ys,e,⟨w,xs,rfl,a,d⟩,f⟩
theorem xu{o h' k}(i:Inv s)(r:Rel σ st s)(d:∀c y,s.heap.get? c=IK y->h'.get? c=IK y)(hz:s.heap.objs.size<=h'.objs.size)(h:s.toks<=k)(f:Ext dY σ st.length s (σ.new st.length s.heap.objs.size) (st.length+1) {s with heap:=h',toks:=k}->RO (σ.new st.length s.heap.objs.size) (st.length+1) {s with heap:=h',toks:=k} s.heap.objs.size o)(a:∀g c L,o≠.gen g c L)(q:Q (.r st.length) (st++[o])):PV σ st s Q (.ref s.heap.objs.size) {s with heap:=h',toks:=k} :=
 ⟨_,_,eS (X:=dY) i r (IQ _) d hz h f (λg c L e=>absurd e (a g c L)),.r st.length,⟨by rw[IL];exact Jg _,congrArg Jy (if_pos rfl).symm⟩,q⟩
theorem yL(T:cB)(e:st[j]?=IK (.list (vs++[v])))(h:Q v (st.set j (.list vs))):MethW A "list.pop" (.r j) [] st Q:=by
 intro σ s f ws G y i r;subst G;refine IJ λJ=>?_;obtain⟨x,rfl,H,rfl⟩:=fK y;obtain⟨ws,n,g,hsz,z⟩:=r.at_ j _ e;obtain⟨us,ys,p,D,E⟩:=z.split;obtain⟨u,rfl,w⟩:=fK E;refine J ?_;have hw:ws.size=us.length+1:=by refine(I3)▸?_;rw[p];simp
 refine JG Qn (⟨_,g,rfl⟩:s.TypeIs (.ref (σ.a j)) "list") PySem.F.entry_list_pop ?_ (PySem.F.args_list_pop_1 _);refine II (IP ?_);refine II (IP ?_);show Jd _ _ (if(!Builtin.List.listFitsIndex (-1))=true then _ else _) _ _ _;rw[if_neg (by decide)];refine II ?_;refine II (JS g rfl (IP ?_));rw[if_neg (by rw[O4];exact b8 18 0 hw)];have hi:(Mp (-1) ws.size).bind (λk=>ws[k]?.map (k,·))=IK (us.length,u):=by
  have e:Mp (-1) ws.size=IK us.length:=by
   unfold Mp;refine(hw).symm▸?_;simp;have d {c}:((((0:Int)<=((- (1:Int))+(((c:Nat):Int)+(1:Int))))/\(((- (1:Int))+(((c:Nat):Int)+(1:Int)))<(((c:Nat):Int)+(1:Int))))/\((Mz ((- (1:Int))+(((c:Nat):Int)+(1:Int))))=c)):=b8 18 1 (toN _);exact d
  refine(e).symm▸?_;simp [(show ws[us.length]?=IK u from by refine(Ju)▸?_;refine(p).symm▸?_;simp)]
 show Jd _ _ (match (Mp (-1) ws.size).bind (λk=>ws[k]?.map (k,·)) with
  |some (k,x)=>do MR (.ref (σ.a j)) (·.eraseIdxIfInBounds k);ret x
  |none=>_) _ _ _
 refine(hi).symm▸?_;refine II ?_;have B:(ws.eraseIdxIfInBounds us.length).toList=us:=by
  unfold Array.eraseIdxIfInBounds;refine(dif_pos (show us.length<ws.size from by exact b8 17 23 hw)).symm▸?_;refine(Array.toList_eraseIdx).symm▸?_;refine(p).symm▸?_;simp [List.eraseIdx_append_of_length_le]
 have C:(ws.eraseIdxIfInBounds us.length).size=us.length:=by refine(I3)▸?_;exact(B).symm▸rfl
 refine KW g rfl ?_ hsz (by refine(C).symm▸?_;exact cO 18 2 hw hsz);have x:=eQ (X:=dY) (k:=s.toks) (o:=.list vs) T i r H (Jx ..) (IQ _) (λx=>⟨_,_,(Jv (JR (·.eraseIdxIfInBounds us.length)) g rfl),by refine(C).symm▸?_;exact cO 15 23 hw hsz,by rw[B];exact D.mono x r.apart⟩) (λZ Y U q=>nomatch q);exact IP ⟨_,rfl,_,_,x,v,w.step r x,h⟩
theorem nc{e pos}(h:c8 A F e lc st λv a=>∃n,v=.i n/\Q (.i (-n)) a):c8 A F (.UnaryOp .USub e pos) lc st Q:=λσ s p =>
 wpAny_UnaryOp (b0 (h σ s p) λw s₁ d a v c f q=>by
  refine IJ λg=>?_;obtain⟨n,rfl,q⟩:=q;obtain⟨t,rfl⟩:=f;refine g ?_;exact P.neg_int ⟨_,_,c.toks (I8 _),.i _,⟨_,rfl⟩,q⟩)
theorem lA(T:cB)(e:st[j]?=IK (.list vs))(C:st[a]?=IK (.list us))(hz:vs.length+us.length<=1000000)(h:Q .n (st.set j (.list (vs++us)))):MethW A "list.extend" (.r j) [.r a] st Q:=by
 intro σ s f ws G z i r;subst G;obtain⟨x,y,rfl,⟨H,rfl⟩,_,rfl⟩:=jr z;obtain⟨ws,n,u,hsz,p⟩:=r.at_ j _ e;obtain⟨xs,M,v,J,g⟩:=r.at_ a _ C;have D:ws.size=vs.length:=by rw[<-I3,p.len]
 have E:xs.size=us.length:=by rw[<-I3,g.len]
 have w:sizeLine=16777216:=by decide
 obtain⟨m,B⟩:∃m,JR (λx=>x++xs) (Kd.lst.obj ws n)=Kd.lst.obj (ws++xs) m:=⟨_,rfl⟩
 have c:ws.size+xs.size<=sizeLine:=by exact fc 18 3 hz w D E
 have d:(s.heap.update (σ.a j) (JR λx=>x++xs)).get? (σ.a j)=IK (Kd.lst.obj (ws++xs) m):=by
  rw[Jv _ u (by rw[B];rfl),B]
 refine Te PN ⟨_,u,rfl⟩ PySem.F.entry_list_extend (PySem.F.args_list_extend_2 _ _) (AutoSeq1.list_extend_list_list_0 (σ.a j) ws n (σ.a a) xs M (extend_door c) (IT (Jc _ _) c) (J2 c)) ⟨u,v,?_⟩;exact⟨_,_,eQ (k:=s.toks) (o:=.list (vs++us)) T i r H (Jx ..) (IQ _) (λx=>⟨_,_,d,by rw[Rw];exact c,by refine(Q5).symm▸?_;exact cW.app (g.mono x r.apart) (p.mono x r.apart)⟩) (λZ Y U q=>nomatch q),.n,rfl,h⟩
end
noncomputable def iB{c:Type}(x:Option c)(f:c->Prop)(E:Prop):Prop:=match x with
 |some a=>f a
 |none=>E
theorem cP{α}{x:Option α}{f:α->Prop}{E E':Prop}(h:iB x f E)(k:∀a,x=IK a->f a->E')(l:E->E'):E':=by
 cases x with
 |none=>exact l h
 |some a=>exact k a rfl h
noncomputable def oP{α:Type}(p:O->Option α)(st:St)(h:Nat):Option α:=st[h]?.bind p
theorem uw{α}{p:O->Option α}{st:St}{h:Nat}{a:α}(e:oP p st h=IK a):∃o,st[h]?=IK o/\p o=IK a:=Option.bind_eq_some_iff.mp e
theorem jO{α p}{f:α->O}{st h a}(q:∀o a,p o=IK a->o=f a)(e:oP p st h=IK a):st[h]?=IK (f a):=by
 obtain⟨o,c,d⟩:=uw e;refine(c).symm▸?_;exact(q o a d).symm▸rfl
noncomputable def pD:O->Option (List (Str×V))
 |.dict k=>IK k
 |_=>none
noncomputable def Gg:O->Option (List (Int×V))
 |.dicti k=>IK k
 |_=>none
noncomputable def pS:O->Option (List Str)
 |.set k=>IK k
 |_=>none
noncomputable def pI:O->Option (Addr×Nat)
 |.inst C d=>IK (C,d)
 |_=>none
noncomputable def pN:O->Option (List (Str×V))
 |.ns m=>IK m
 |_=>none
mutual
theorem AV{o k}(h:pD o=IK k):o=.dict k:=by
 cases o with
 |dict x=>exact congrArg O.dict (Jk h)
 |_=>exact nn h
theorem xA{o k}(h:Gg o=IK k):o=.dicti k:=by
 cases o with
 |dicti x=>exact congrArg O.dicti (Jk h)
 |_=>exact nn h
theorem AR{o k}(h:pS o=IK k):o=.set k:=by
 cases o with
 |set x=>exact congrArg O.set (Jk h)
 |_=>exact nn h
theorem AU{o k}(h:pI o=IK k):o=.inst k.1 k.2:=by
 cases o with
 |inst C d=>exact(Jk h)▸rfl
 |_=>exact nn h
theorem AS{o k}(h:pN o=IK k):o=.ns k:=by
 cases o with
 |ns x=>exact congrArg O.ns (Jk h)
 |_=>exact nn h
end
noncomputable def Cl(cl:List (Addr×jf)):Prop:=∀C c,cl.lookup C=IK c->pj C c
inductive ID(cl:List (Addr×jf))(st:St)(h:Nat)(c:jf)(C:Addr)(d:Nat)(m:Lc):Prop
 |mk (h1:st[h]?=IK (.inst C d)) (h2:st[d]?=IK (.ns m)) (h3:cl.lookup C=IK c)
noncomputable def yf(cl:List (Addr×jf))(st:St)(h:Nat)(f:jf->Nat->Lc->Prop)(E:Prop):Prop :=
 iB (oP pI st h) (λp=>iB (cl.lookup p.1) (λc=>iB (oP pN st p.2) (λm=>f c p.2 m) E) E) E
theorem lj{cl st h f E}{E':Prop}(q:yf cl st h f E)(k:∀c C d m,ID cl st h c C d m->f c d m->E')(l:E->E'):E' :=
 cP q (λp e q=>cP q (λc a q=>cP q (λm g q=>k c p.1 p.2 m (.mk (jO (f:=λp=>.inst p.1 p.2) @AU e) (jO @AS g) a) q) l) l) l
namespace N
noncomputable def get:Str:=⟨⟨[103,101,116]⟩⟩
noncomputable def has:Str:=⟨⟨[95,95,99,111,110,116,97,105,110,115,95,95]⟩⟩
noncomputable def append:Str:=⟨⟨[97,112,112,101,110,100]⟩⟩
noncomputable def pop:Str:=⟨⟨[112,111,112]⟩⟩
noncomputable def extend:Str:=⟨⟨[101,120,116,101,110,100]⟩⟩
noncomputable def sort:Str:=⟨⟨[115,111,114,116]⟩⟩
noncomputable def setdefault:Str:=⟨⟨[115,101,116,100,101,102,97,117,108,116]⟩⟩
noncomputable def keys:Str:=⟨⟨[107,101,121,115]⟩⟩
noncomputable def items:Str:=⟨⟨[105,116,101,109,115]⟩⟩
noncomputable def add:Str:=⟨⟨[97,100,100]⟩⟩
noncomputable def join:Str:=⟨⟨[106,111,105,110]⟩⟩
noncomputable def rstrip:Str:=⟨⟨[114,115,116,114,105,112]⟩⟩
noncomputable def strip:Str:=⟨⟨[115,116,114,105,112]⟩⟩
noncomputable def isspace:Str:=⟨⟨[105,115,115,112,97,99,101]⟩⟩
noncomputable def count:Str:=⟨⟨[99,111,117,110,116]⟩⟩
end N
noncomputable def yi:V->Bool
 |.g Z=>false
 |.v w=>(match w with | .builtin _=>false | _=>true)
 |_=>true
section
variable {A:Around}{F:dH}{lc:Lc}{st:St}{Q:V->St->Prop}{cl:List (Addr×jf)}
noncomputable def EP(h:Nat)(x:Str)(st:St)(Q:V->St->Prop)(E:Prop):Prop:=iB (oP Dd st h) (λT=>match T with
 |.dict=>cond (x == N.get) (Q (.bm .dget h) st) E
 |.set=>cond (x == N.has) (Q (.bm .shas h) st) E
 |_=>E) E
noncomputable def yU(A:Around)(cl:List (Addr×jf))(v:V)(x:Str)(st:St)(Q:V->St->Prop):Prop:=match v with
 |.r h=>yf cl st h (λc Z m=>iB (m.lookup x) (λu=>cond (c.as.contains x&&yi u) (Q u st) (iN A v x st Q)) (iN A v x st Q)) (EP h x st Q (iN A v x st Q))
 |v=>iN A v x st Q
noncomputable def xi(A:Around)(cl:List (Addr×jf))(o:V)(x:Str)(v:V)(st:St)(Q:St->Prop):Prop:=match o with
 |.r h=>yf cl st h (λc d m=>cond (c.as.contains x&&decide (m.length<=99)) (Q (st.set d (.ns (m.set x v)))) (pg A o x v st Q)) (pg A o x v st Q)
 |o=>pg A o x v st Q
noncomputable def AM(A:Around)(o k v:V)(st:St)(Q:St->Prop):Prop:=match o with
 |.r h=>(match k with
  |.s x Z=>iB (oP pD st h) (λa=>a.length<=sizeLine/\Q (st.set h (.dict (il a x v)))) (km A o k v st Q)
  |.i x=>iB (oP Gg st h) (λa=>a.length<=sizeLine/\Q (st.set h (.dicti (il a x v)))) (km A o k v st Q)
  |k=>km A o k v st Q)
 |o=>km A o k v st Q
noncomputable def yz(j:Nat)(k u:V)(st:St)(Q:V->St->Prop)(E:Prop):Prop:=match k with
 |.s x Z=>iB (oP pD st j) (λa=>∀v,(cR a x).getD u=v->Q v st) E
 |.i x=>iB (oP Gg st j) (λa=>∀v,(cR a x).getD u=v->Q v st) E
 |_=>E
theorem ly{j k u E}(h:yz j k u st Q E)(l:∀ {K:Type} [DecidableEq K] {knd:KeyKind W.prog W.w K} {mk:List (K×V)->O} {a:List (K×V)} {x:K},gX knd mk->st[j]?=IK (mk a)->nV knd k x->Q ((cR a x).getD u) st->E):E:=by
 cases k with
 |s x t=>exact cP h (λa e h=>l dict_str (jO @AV e) fz (h _ rfl)) id
 |i x=>exact cP h (λa e h=>l dict_int (jO @xA e) jY (h _ rfl)) id
 |_=>exact h
noncomputable def It(A:Around)(b:Bi)(vs:List V)(st:St)(Q:V->St->Prop):Prop:=match b with
 |.len=>(match vs with
  |[v]=>Gv A v st Q
  |vs=>b5 A (.g .len) vs st Q)
 |.range=>(match vs with
  |[a]=>(match a with
   |.i y=>Q (.rg 0 y) st
   |a=>b5 A (.g .range) [a] st Q)
  |[a,b]=>(match a with
   |.i x=>(match b with
    |.i y=>Q (.rg x y) st
    |b=>b5 A (.g .range) [.i x,b] st Q)
   |a=>b5 A (.g .range) [a,b] st Q)
  |vs=>b5 A (.g .range) vs st Q)
 |.set=>(match vs with
  |[]=>Q (.r st.length) (st++[.set []])
  |vs=>b5 A (.g .set) vs st Q)
 |b=>b5 A (.g b) vs st Q
noncomputable def Ir(A:Around)(b:Bm)(j:Nat)(vs:List V)(st:St)(Q:V->St->Prop):Prop:=match b with
 |.dget=>(match vs with
  |[k,u]=>yz j k u st Q (b5 A (.bm .dget j) [k,u] st Q)
  |vs=>b5 A (.bm .dget j) vs st Q)
 |.shas=>(match vs with
  |[k]=>(match k with
   |.s x t=>iB (oP pS st j) (λl=>l.length<scanBound/\Q (.b (decide (x∈l))) st) (b5 A (.bm .shas j) [.s x t] st Q)
   |k=>b5 A (.bm .shas j) [k] st Q)
  |vs=>b5 A (.bm .shas j) vs st Q)
 |b=>b5 A (.bm b j) vs st Q
noncomputable def EO(A:Around)(f:V)(vs:List V)(st:St)(Q:V->St->Prop):Prop:=match f with
 |.g b=>It A b vs st Q
 |.bm b j=>Ir A b j vs st Q
 |f=>b5 A f vs st Q
noncomputable def uW(f:V)(X:Prop):Prop:=match f with
 |.g Z=>X
 |.bm b Z=>cond b.fn X False
 |f=>Callee f/\X
end
inductive Mi where
 |append | pop | extend | sort | get | setdefault | keys | items | add | join | rstrip | strip | isspace
 |count (u:Unit)
noncomputable def Mi.ctorIdx(o:Mi):Nat:=Mi.casesOn (motive:=λZ=>Nat) o 0 1 2 3 4 5 6 7 8 9 10 11 12 (λZ=>13)
noncomputable def Mi.ty:Mi->Ty
 |.append=>.list
 |.pop=>.list
 |.extend=>.list
 |.sort=>.list
 |.get=>.dict
 |.setdefault=>.dict
 |.keys=>.dict
 |.items=>.dict
 |.add=>.set
 |_=>.str
noncomputable def Mi.nm:Mi->Str
 |.append=>N.append
 |.pop=>N.pop
 |.extend=>N.extend
 |.sort=>N.sort
 |.get=>N.get
 |.setdefault=>N.setdefault
 |.keys=>N.keys
 |.items=>N.items
 |.add=>N.add
 |.join=>N.join
 |.rstrip=>N.rstrip
 |.strip=>N.strip
 |.isspace=>N.isspace
 |.count Z=>N.count
noncomputable def Mi.id:Mi->String
 |.append=>"list.append"
 |.pop=>"list.pop"
 |.extend=>"list.extend"
 |.sort=>"list.sort"
 |.get=>"dict.get"
 |.setdefault=>"dict.setdefault"
 |.keys=>"dict.keys"
 |.items=>"dict.items"
 |.add=>"set.add"
 |.join=>"str.join"
 |.rstrip=>"str.rstrip"
 |.strip=>"str.strip"
 |.isspace=>"str.isspace"
 |.count Z=>"str.count"
structure G4(m:Mi):Prop where
 pa:PlainAttrs m.ty.s
 slot:T9 m.ty.s m.nm m.id
 ty:LU (.builtin m.id)=pure (.type "method_descriptor")
noncomputable def Ty.n:Ty->Nat
 |.str=>0
 |.list=>1
 |.dict=>2
 |.set=>3
noncomputable def Ty.of:Nat->Ty
 |0=>.str
 |1=>.list
 |2=>.dict
 |_=>.set
theorem Ty.DG(T:Ty):Ty.of T.n=T:=by cases T <;> rfl
theorem B2{T}{U:Ty}(h:T.n=U.n):T=U:=T.DG.symm.trans ((congrArg Ty.of h).trans U.DG)
noncomputable def Ee:List Mi:=[.append,.pop,.extend,.sort,.get,.setdefault,.keys,.items,.add,.join,.rstrip,.strip,.isspace,.count ()]
noncomputable def zK(T:Ty)(x:Str):List Mi->Option Mi
 |[]=>none
 |m::l=>cond (m.nm == x&&m.ty.n == T.n) (IK m) (zK T x l)
noncomputable def zJ(T:Ty)(x:Str):Option Mi:=zK T x Ee
theorem uH{T x m}:∀ {l:List Mi},zK T x l=IK m->m.nm=x/\m.ty=T
 |[],h=>nn h
 |n::l,h=>by
  refine eX (P:=λo=>o=IK m->m.nm=x/\m.ty=T) (b:=n.nm == x&&n.ty.n == T.n) (x:=IK n) (y:=zK T x l) (λe h=>?_) uH h;refine(Jk h)▸?_;exact⟨eq_of_beq (Bool.and_eq_true_iff.mp e).1,B2 (eq_of_beq (Bool.and_eq_true_iff.mp e).2)⟩
inductive Mt where
 |im (fa:Addr)
 |bi (m:Mi)
noncomputable def HO(cl:List (Addr×jf))(x:Str)(st:St)(h:Nat):Option (Addr×Nat)->Option Mt
 |some p=>(cl.lookup p.1).bind λc=>(oP pN st p.2).bind λm=>match m.lookup x with
  |none=>(c.ms.lookup x).map .im
  |some Z=>none
 |none=>(oP Dd st h).bind λT=>(zJ T x).map .bi
noncomputable def Ed(cl:List (Addr×jf))(a:V)(x:Str)(st:St):Option Mt:=match a with
 |.s Z Y=>(zJ .str x).map .bi
 |.c k Z=>(match k with
  |.lst=>(zJ .list x).map .bi
  |_=>none)
 |.r h=>HO cl x st h (oP pI st h)
 |_=>none
inductive wz(a:V)(x:Str)(st:St):Mt->Prop
 |im (h C:Nat) (fa:Addr) (e:a=.r h) (m:E8 C x st h λf=>f=fa):wz a x st (.im fa)
 |bi (m:Mi) (hn:m.nm=x) (ht:F4 st a=IK m.ty):wz a x st (.bi m)
theorem sT{a x st T m}(h:(zJ T x).map .bi=IK m)(e:F4 st a=IK T):wz a x st m:=by
 obtain⟨n,c,d⟩:=Ln.mp h;subst d;have q:=uH c;exact .bi n q.1 (q.2▸e)
section
variable {A:Around}{F:dH}{lc:Lc}{st:St}{Q:V->St->Prop}
noncomputable def HV(A:Around)(a:V)(vs:List V)(st:St)(Q:V->St->Prop):Mt->Prop
 |.im c=>b5 A (.v (.ref c)) (a::vs) st Q
 |.bi m=>MethW A m.id a vs st Q
inductive G2(A:Around)(F:dH)(x:Str)(es:List Expr)(lc:Lc)(Q:V->St->Prop)(a:V)(st:St):Prop
 |mk (m:Mt) (is:wz a x st m) (h:fL A F es lc st λvs st₂=>HV A a vs st₂ Q m)
theorem yw{o args name apos pos}(hb:fZ o=true)(hp:args.all cN=true)(S:args.length<30)(M:(apos.endLine == pos.line)=true)(h:c8 A F o lc st (G2 A F name args lc Q)):c8 A F (.Call (.Attribute o name apos) args [] pos) lc st Q:=by
 have B {σ st s v T w} (h:F4 st v=IK T) (r:Rel σ st s) (hv:RV σ st.length s v w):EZ s w T.s:=by
  have g {a o T} (h:s.heap.get? a=IK o) (hc:o.cls=.type T) (hd:o.dict=none):EZ s (.ref a) T:=⟨⟨o,h,hc⟩,λb e=>by cases e;exact⟨o,h,hd⟩⟩
  cases v with
  |s x t=>cases h;obtain⟨u,rfl,_⟩:=hv;exact⟨Ng _ _ _,λb e=>nomatch e⟩
  |c k vs=>cases k with
   |lst=>cases h;obtain⟨a,items,m,rfl,_,E,_⟩:=hv;exact g E rfl rfl
   |_=>cases h
  |r j =>
   obtain⟨hj,rfl⟩:=hv;obtain⟨o,E,h⟩:=Option.bind_eq_some_iff.mp h;have q:=r.at_ j o E;cases o with
   |list vs=>cases h;obtain⟨items,m,E,_⟩:=q;exact g E rfl rfl
   |dict ae=>cases h;obtain⟨o,ws,E,⟨_,_,e,_⟩,_⟩:=q;exact g E e.1 e.2.1
   |dicti ae=>cases h;obtain⟨o,ws,E,⟨_,_,e,_⟩,_⟩:=q;exact g E e.1 e.2.1
   |set l=>cases h;obtain⟨es,ep,t,E,_⟩:=q;exact g E rfl rfl
   |_=>cases h
  |_=>cases h
 have P (m:Mi):G4 m:=by
  cases m with
  |append=>exact⟨LZ,PySem.F.slot_list_append,PySem.F.type_list_append⟩
  |pop=>exact⟨LZ,Qn,PySem.F.type_list_pop⟩
  |extend=>exact⟨LZ,PN,PySem.F.type_list_extend⟩
  |sort=>exact⟨LZ,PySem.F.slot_list_sort,PySem.F.type_list_sort⟩
  |get=>exact⟨L2,Qo,Qj⟩
  |setdefault=>exact⟨L2,OY,PySem.F.type_dict_setdefault⟩
  |keys=>exact⟨L2,Qc,PySem.F.type_dict_keys⟩
  |items=>exact⟨L2,P4,PySem.F.type_dict_items⟩
  |add=>exact⟨PySem.F.plainAttrs_set,Qu,PySem.F.type_set_add⟩
  |join=>exact⟨Kh,Ql,Qi⟩
  |rstrip=>exact⟨Kh,P0,PySem.F.type_str_rstrip⟩
  |strip=>exact⟨Kh,PySem.F.slot_str_strip,PySem.F.type_str_strip⟩
  |isspace=>exact⟨Kh,M1,PM⟩
  |count=>exact⟨Kh,PySem.F.slot_str_count,PySem.F.type_str_count⟩
 intro σ s p;rw[arm_eval_Call,nD hb];refine II (b0 (h σ s p) λu s₁ R ag a i X D=>?_);refine II (K4 ?_);have J:UG (args.length+([]:List Keyword).length) (backTo pos (QI args F.env)) (backToKw pos (keywordEach [] F.env))=true:=by
  unfold UG;refine(da pos F.env hp).symm▸?_;refine(show(args.map λe=>(false,eval e F.env)).all (λx=> !x.1)=true by rw[TX,Pc];exact λZ Y=>rfl).symm▸?_;exact decide_eq_true S
 have G:U7 true o F.env apos pos=pure pos:=by unfold U7;simp [M]
 unfold methodCall;refine(J).symm▸?_;obtain⟨m,is,D⟩:=D;cases is with
 |im x C fa e mi =>
  subst e;refine IJ λzz=>?_;obtain⟨hx,rfl⟩:=X;obtain⟨d,m,c,fa,hc,h1,h2,hf,hm,rfl⟩:=mi;obtain⟨mN,at_,_,ga,gt,ms,_⟩:=hc;obtain⟨of,fd,y,n3,U,H,aa,hB⟩:=ms name fa hf;obtain⟨f,ob,hI,hk,ab,_⟩:=m4 h1 h2 i.rel;obtain⟨nm,qn,bs,sn,sub,ah,dd,k0,k1,k2,k3,k5,hC,ac⟩:=at_.now i.inv;refine zz ?_;refine II (I9 (method_of hC ac ga gt n3 (i.inv.old.get_of_cls U (by rw[H];exact λq=>Jo q)) H hB hI (ab name hm) ?_));refine II (Mo G ?_);refine(da pos F.env hp).symm▸?_;exact Nj (o:=of) (fd:=fd) (eB D (p.step i) λvs s' σ' af l z hl q=>⟨⟨z.inv.old.get_of_cls U (by rw[H];exact λq=>Jo q),aa⟩,fi (i.trans z) (q σ' s' _ (.ref (R.a x)::vs) rfl ⟨_,vs,rfl,⟨IU hx z.x.len,congrArg Jy (z.x.ext x hx).symm⟩,hl⟩ z.inv z.rel)⟩)
 |bi m hn ht =>
  subst hn;have mo:=P m;obtain⟨t1,t2⟩:=B ht i.rel X;refine II (I9 (getMethod_builtin t1 mo.pa mo.slot mo.ty t2 ?_));refine II (Mo G ?_);rw[da pos F.env hp];exact Mf (any_false _ _) (eB D (p.step i) λws s' σ' af vs x hl q=>fi (i.trans x) (q σ' s' _ (u::ws) rfl ⟨u,ws,rfl,X.step i.rel x,hl⟩ x.inv x.rel))
noncomputable def mW(A:Around)(m:Mi)(a:V)(vs:List V)(st:St)(Q:V->St->Prop):Prop:=match a with
 |.r j=>(match m with
  |.append=>(match vs with
   |[v]=>wH st[j]? (λl=>l.length<sizeLine/\Q .n (st.set j (.list (l++[v])))) (MethW A "list.append" (.r j) [v] st Q)
   |vs=>MethW A "list.append" (.r j) vs st Q)
  |.get=>(match vs with
   |[k,u]=>yz j k u st Q (MethW A "dict.get" (.r j) [k,u] st Q)
   |vs=>MethW A "dict.get" (.r j) vs st Q)
  |.add=>(match vs with
   |[k]=>(match k with
    |.s x t=>iB (oP pS st j) (λl=>l.length+1<scanBound/\Q .n (st.set j (.set (if x∈l then l else l++[x])))) (MethW A "set.add" (.r j) [.s x t] st Q)
    |k=>MethW A "set.add" (.r j) [k] st Q)
   |vs=>MethW A "set.add" (.r j) vs st Q)
  |m=>MethW A m.id (.r j) vs st Q)
 |a=>MethW A m.id a vs st Q
inductive TV where
 |name (x:Str)
 |attr (o:Expr) (x:Str)
 |sub (o k:Expr)
 |tup (es:List Expr)
 |oth
noncomputable def Hu(es:List Expr):Bool->TV
 |true=>.tup es
 |false=>.oth
noncomputable def tv(t:Expr):TV:=match t with
 |.Name x Z=>.name x
 |.Attribute o x Z=>.attr o x
 |.Subscript o k Z=>.sub o k
 |.Tuple es Z Y=>Hu es (es.all cN)
 |_=>.oth
inductive r9:Expr->TV->Prop
 |name (x p):r9 (.Name x p) (.name x)
 |attr (o x p):r9 (.Attribute o x p) (.attr o x)
 |sub (o k p):r9 (.Subscript o k p) (.sub o k)
 |tup (es k p) (h:es.all cN=true):r9 (.Tuple es k p) (.tup es)
 |oth (e):r9 e .oth
variable {σ:Sg}{s:IY}
theorem none_at{n v w}(h:RV σ n s v w):(w == .none)=GB v:=by
 cases v with
 |v u=>refine(show w=u from h).symm▸?_;rfl
 |i x=>obtain⟨t,rfl⟩:=h;rfl
 |f x=>obtain⟨t,rfl⟩:=h;rfl
 |s x t=>obtain⟨t,rfl,_⟩:=h;rfl
 |c k vs=>obtain⟨a,_,_,rfl,_⟩:=h;rfl
 |r k=>refine(h.2).symm▸?_;rfl
 |o o=>obtain⟨a,rfl,_⟩:=h;rfl
 |bm b k=>obtain⟨a,rfl,_⟩:=h;rfl
 |g b=>refine(show w=b.val from h).symm▸?_;cases b <;> rfl
 |rg x y=>obtain⟨a,_,_,_,rfl,_⟩:=h;rfl
noncomputable def qU:V->Bool
 |.v w=>(match w with
  |.none=>true
  |_=>false)
 |_=>false
theorem qT{v}(h:qU v=true):v=.n:=by
 cases v with
 |v w=>cases w with
  |none=>rfl
  |_=>exact ft h
 |_=>exact ft h
noncomputable def tq(A:Around)(op:CmpOp)(a b:V)(st:St)(Q:V->St->Prop):Prop:=match op with
 |.Is=>(match qU b with
  |true=>Q (.b (GB a)) st
  |false=>di A (J1 .Is) a b st Q)
 |.IsNot=>(match qU b with
  |true=>Q (.b (!GB a)) st
  |false=>di A (J1 .IsNot) a b st Q)
 |op=>EL A op a b st Q
theorem nr{op a b}(h:tq A op a b st Q):di A (J1 op) a b st Q:=by
 cases op with
 |Is =>
  cases e:qU b with
  |false=>unfold tq at h;rw[e] at h;exact h
  |true =>
   unfold tq at h;rw[e] at h;have:=qT e;subst this;intro σ s u w c hw i r;cases hw;exact is_none (g7 i r (by refine(none_at c).symm▸?_;exact h))
 |IsNot =>
  cases e:qU b with
  |false=>unfold tq at h;rw[e] at h;exact h
  |true =>
   unfold tq at h;rw[e] at h;have:=qT e;subst this;intro σ s u w c hw i r;cases hw;exact isNot_none (g7 i r (by refine(none_at c).symm▸?_;exact h))
 |_=>exact tu h
noncomputable abbrev cE(ys:List Str):List V:=ys.map λy=>.s y 0
mutual
theorem ua{n ys}:∀ {ws:List Value},cW σ n s (cE ys) ws->PL ws ys:=by
 induction ys with
 |nil=>intro ws h;cases h;exact .nil
 |cons y ys d=>intro ws ⟨w,f,e,⟨t,a,_⟩,c⟩;subst e a;exact .cons _ _ (d c)
theorem qG{n j ys}{ws:Array Value}(h:cW σ n s (cE ys) ws.toList)(c:j<ws.size)(d:j<ys.length):∃t,ws[j]=.str ys[j] t:=by
 refine IJ λf=>?_;obtain⟨w,a,t,e,_⟩:=h.get (k:=j) (v:=.s ys[j] 0) (by refine(Jt).symm▸?_;refine(IV d).symm▸?_;rfl);refine f ?_;rw[Ju,JC c] at a;exact⟨t,(Jk a).trans e⟩
end
mutual
theorem in_list{c dep ys k t}(la:LstAt c (cE ys) dep)(hd:dep st)(h:Q (.b (ys.any (· == k))) st):di A (J1 .In) (.s k t) c st Q:=by
 intro σ s u w ⟨x,d,_⟩ hw i r;subst d;obtain⟨l,items,m,e,a,f⟩:=la σ st s w hw hd r;subst e;exact in_list_strs (vs:=items.toList) ⟨_,a,rfl,m,rfl⟩ (ua f) (g7 i r h)
theorem in_tuple{ys k t}(h:Q (.b (ys.any (· == k))) st):di A (J1 .In) (.s k t) (.t (cE ys)) st Q:=by
 intro σ s u w ⟨x,d,_⟩ ⟨a,items,m,e,_,c,_,f⟩ i r;subst d e;have hi:PL items.toList ys:=ua f;refine SeqAt.in_tupleAt (isStrOf k) ⟨_,c,rfl,m,rfl⟩ (λy g=>(eq_isStrOf k x hi y (by simpa using g)).at _ _) ?_;refine(RR)▸?_;refine(any_isStrOf k hi).symm▸?_;exact g7 i r h
end
noncomputable def kl:Prop:=∃a,W.h₁.Ns Kb a/\a sharingNotToldKey=none
theorem kl.at(b:kl)(i:Inv s):NoneBooked s.heap:=by
 obtain⟨a,h,e⟩:=b;exact⟨a,h.at i.stat,e⟩
structure tQ(st:St)(t:Nat):Prop where
 pos:t≠0
 old:W.t₁<=t
 ns:∀(d:Nat) m y x u,st[d]?=IK (.ns m)->m.lookup y=IK (.s x u)->u≠t
theorem Cn(j:0<W.t₁)(i:Inv s)(r:Rel σ st s):tQ st s.toks:=by
 have a:0<s.toks:=IU j i.tk;refine⟨λe=>I2 _ (e▸a),i.tk,λd m y x u hd h e=>?_⟩;obtain⟨f,_,c,_⟩:=r.at_ d _ hd;obtain⟨w,_,t,_,g⟩:=c y _ h;have:=g λq=>I2 _ ((q.symm.trans e)▸a);exact I2 _ (RJ this.2 e.symm)
noncomputable def picks(x:Str)(l u k:Option Int):Str:=⟨((So x (l.map (·,0)) (u.map (·,0)) (k.map (·,0))).filterMap (x.cps[·]?)).toArray⟩
noncomputable def B5(vs:List V)(l u k:Option Int):List V:=(Pj (MT l u k vs.length).1 (MT l u k vs.length).2.1 (MT l u k vs.length).2.2).filterMap (vs[·]?)
variable {prog:Program}{w:K8}{E:Value->IY->Prop}{env:Env}
inductive E5(prog:Program)(w:K8)(A:Around)(Q:Value->IY->Prop)(E:Value->IY->Prop)(o i:Value)(s:IY):Prop
 |mk (T id:String) (hl:JE (.type T) "__getitem__"=pure (IK (.builtin id))) (ty:s.TypeIs o T) (h:Jd (I6 prog w) A (TN o i) Q E s)
noncomputable def GD(R:Int->Prop):V->Prop
 |.i i=>R i
 |_=>False
theorem uP{R v}(h:GD R v):∃i,v=.i i/\R i:=by cases v <;> first | exact⟨_,rfl,h⟩ | exact h.elim
noncomputable def lE(A:Around)(F:dH)(e:Option Expr)(lc:Lc)(st:St)(Q:Option Int->St->Prop):Prop:=match e with
 |none=>Q none st
 |some e=>c8 A F e lc st λv a=>GD (λi=>Q (IK i) a) v
inductive PP(σ:Sg)(st:St)(s:IY)(Q:Option Int->St->Prop)(w:Value)(s':IY):Prop
 |mk (σ':Sg) (st':St) (x:Step σ st s σ' st' s') (p:Option (Int×PY)) (e:w=P9 p) (q:Q (p.map (·.1)) st')
theorem lE.mono{e P P'}(h:lE A F e lc st P)(k:∀i a,P i a->P' i a):lE A F e lc st P':=by
 cases e with
 |none=>exact k _ _ h
 |some e=>exact c8.mono h λv a q=>by obtain⟨i,rfl,q⟩:=uP q;exact k _ _ q
noncomputable def BP(A:Around)(o:V)(l u k:Option Int)(st:St)(Q:V->St->Prop):Prop:=∀σ s w (pl d c:Option (Int×PY)),pl.map (·.1)=l->d.map (·.1)=u->c.map (·.1)=k->RV σ st.length s o w->Inv s->Rel σ st s->∀a,s.heap.IsSlice a pl d c->E5 W.prog W.w A (PV σ st s Q) D5 w (.ref a) s
noncomputable def Dg(x:Str)(l u k:Option Int):Str:=match k with
 |none=>KO x l u
 |some k=>picks x l u (IK k)
noncomputable def stepOk:Option Int->Bool
 |none=>true
 |some k=>k != 0&&k != 1
theorem pJ{x t l u k}(hz:x.length<=sizeLine)(c:stepOk k=true)(o:(Dg x l u k).length<=sizeLine)(h:Q (.s (Dg x l u k) 0) st):BP A (.s x t) l u k st Q:=by
 rintro σ s w pl d f rfl rfl rfl ⟨t',rfl,_⟩ i r a j;refine⟨"str",_,PySem.F.slot_str_getitem.lookup,Ng _ x t',wpAny_getItem_str_slice j ?_ ?_⟩
 ·cases f with
  |none=>rfl
  |some k=>replace c:(k.1 != 0&&k.1 != 1)=true:=c;simp at c;simpa using c.1
 ·have e:T7 x t' pl d f=.val (.str x t')/\Dg x (pl.map (·.1)) (d.map (·.1)) (f.map (·.1))=x∨T7 x t' pl d f=.str (Dg x (pl.map (·.1)) (d.map (·.1)) (f.map (·.1))):=by
   unfold T7;cases f with
   |none =>
    show _∨_;delta Dg KO;have e:So x pl d none=Lo (pl.map (·.1)) (d.map (·.1)) 1 x.length:=rfl;refine(e).symm▸?_;dsimp only[Option.map_none,Option.getD_none]
    split
    ·exact .inl ⟨rfl,rfl⟩
    ·exact .inr rfl
   |some k =>
    replace c:(k.1 != 0&&k.1 != 1)=true:=c;simp only[Ke,bne_iff_ne] at c
    right
    refine(if_neg (by simp [c.2])).trans ?_;cases pl <;> cases d <;> rfl
  rcases e with ⟨e,g⟩ | e
  ·refine(e).symm▸?_;rw[g] at h;exact⟨_,_,.refl i r,.s x 0,⟨_,rfl,λq=>absurd rfl q⟩,h⟩
  ·rw[e];exact⟨o,sI i r h (Jc _ _)⟩
theorem qL{σ n s vs}{items:Array Value}(h:cW σ n s vs items.toList):∀a:List Nat,cW σ n s (a.filterMap (vs[·]?)) (a.filterMap (items[·]?))
 |[]=>rfl
 |j::a=>by
  have f:=qL h a;have d:=h.len;rw[I3] at d;rw[Oq];refine(Oq ..).symm▸?_;cases e:vs[j]? with
  |none =>
   have:items[j]?=none:=by rw[LJ,d];exact List.getElem?_eq_none_iff.mp e
   rw[this];exact f
  |some v =>
   refine IJ λi=>?_;obtain⟨w,c,g⟩:=h.get e;refine i ?_;rw[Ju] at c;refine(c).symm▸?_;exact⟨w,_,rfl,g,f⟩
noncomputable def Dw(A:Around)(o:V)(l u k:Option Int)(st:St)(Q:V->St->Prop):Prop:=match k with
 |none=>(match o with
  |.s x Z=>x.length<=sizeLine/\Q (.s (KO x l u) 0) st
  |.c d vs=>(match d with
   |.lst=>vs.length<=sizeLine/\Q (.r st.length) (st++[.list (B5 vs l u none)])
   |_=>BP A o l u none st Q)
  |.r h=>wH st[h]? (λvs=>vs.length<=sizeLine/\Q (.r st.length) (st++[.list (B5 vs l u none)])) (BP A o l u none st Q)
  |_=>BP A o l u none st Q)
 |some k=>BP A o l u (IK k) st Q
end
section
variable {A:Around}{F:dH}{lc:Lc}{st:St}{Q:V->St->Prop}{QF:Fl->Lc->St->Prop}{QL:Lc->St->Prop}
noncomputable def vc(v:V)(n:Nat)(f:List V->Prop)(E:Prop):Prop:=match v with
 |.c k items=>(match k with
  |.tup=>(match items.length == n with
   |true=>f items
   |false=>E)
  |_=>E)
 |_=>E
theorem jw{v n f E}{E':Prop}(h:vc v n f E)(k:∀items,v=.t items->items.length=n->f items->E')(l:E->E'):E':=by
 cases v with
 |c d items=>cases d with
  |tup =>
   cases e:items.length == n with
   |true=>unfold vc at h;simp only[e] at h;exact k items rfl (eq_of_beq e) h
   |false=>unfold vc at h;simp only[e] at h;exact l h
  |_=>exact l h
 |_=>exact l h
noncomputable def j4:Option NameKind->Bool
 |some k=>(match k with
  |.local=>true
  |_=>false)
 |none=>false
theorem fE{k}(h:j4 k=true):k=IK .local:=by
 cases k with
 |none=>exact ft h
 |some k=>cases k <;> first | rfl | exact ft h
structure Sm where
 E:Expr->Lc->St->(V->St->Prop)->Prop
 Es:List Expr->Lc->St->(List V->St->Prop)->Prop
 T:Expr->Lc->St->(St->Prop)->(St->Prop)->Prop
 B:U1->List Expr->Lc->St->(St->Prop)->(St->Prop)->Prop
 S:Stmt->Lc->St->(Fl->Lc->St->Prop)->Prop
 Ss:List Stmt->Lc->St->(Fl->Lc->St->Prop)->Prop
 A:Expr->V->Lc->St->(Lc->St->Prop)->Prop
 Av:List (Expr×V)->Lc->St->(Lc->St->Prop)->Prop
 Am:List Expr->V->Lc->St->(Lc->St->Prop)->Prop
noncomputable def Ih(A:Around)(F:dH):Sm:=⟨c8 A F,fL A F,λe lc st X Y=>lP A F e lc st (two X Y),λop es lc st X Y=>tU A F op es lc st (two X Y),eG A F,cK A F,dN A F,pn A F,pq A F⟩
variable (A F)(z:List (Str×V))(cl:List (Addr×jf))(r:Sm)
theorem Bn{b}(h:(!b)=true):b=false:=by
 cases b with
 |true=>exact ft h
 |false=>rfl
noncomputable def CO(vs:List V)(X:Prop):Prop:=cond (decide (vs.length<=99)) X (vs.length<=sizeLine/\X)
noncomputable def uu(e:Option Expr)(lc:Lc)(st:St)(Q:Option Int->St->Prop):Prop:=match e with
 |none=>Q none st
 |some e=>r.E e lc st λv a=>GD (λi=>Q (IK i) a) v
noncomputable def HN(a:V)(vs:List V)(st:St)(Q:V->St->Prop):Mt->Prop
 |.im c=>b5 A (.v (.ref c)) (a::vs) st Q
 |.bi m=>mW A m a vs st Q
noncomputable def CV(c:Const)(st:St)(Q:V->St->Prop)(E:Prop):Prop:=match c with
 |.int i=>Q (.i i) st
 |.str x=>Q (.s x 0) st
 |.none=>Q .n st
 |.bool b=>Q (.b b) st
 |.float x=>Q (.f x) st
 |_=>E
noncomputable def Du(v:EV)(e:Expr)(lc:Lc)(st:St)(Q:V->St->Prop):Prop:=match v with
 |.const c=>CV c st Q (c8 A F e lc st Q)
 |.name x=>xO F z x lc st Q (c8 A F e lc st Q)
 |.bin a op b=>r.E a lc st λx d=>r.E b lc d λy st₂=>ER A op x y st₂ Q
 |.cmp a op b=>r.E a lc st λx d=>r.E b lc d λy st₂=>tq A op x y st₂ Q
 |.ife t a b=>r.T t lc st (λd=>r.E a lc d Q) λd=>r.E b lc d Q
 |.tup es=>r.Es es lc st λvs d=>CO vs (Q (.t vs) d)
 |.lst es=>r.Es es lc st λvs d=>CO vs (Q (.r d.length) (d++[.list vs]))
 |.sub a k=>r.E a lc st λx d=>r.E k lc d λy st₂=>EE A x y st₂ Q
 |.slc a l u k=>r.E a lc st λx d=>uu r l lc d λl st₂=>uu r u lc st₂ λu g=>uu r k lc g λk h=>Dw A x l u k h Q
 |.attr o x=>r.E o lc st λv d=>yU A cl v x d Q
 |.call f p es=>r.E (.Name f p) lc st λi d=>uW i (r.Es es lc d λvs st₂=>EO A i vs st₂ Q)
 |.meth o x es=>r.E o lc st λa d=>iB (Ed cl a x d) (λm=>r.Es es lc d λvs st₂=>HN A a vs st₂ Q m) False
 |_=>c8 A F e lc st Q
noncomputable def HD(e:Expr)(lc:Lc)(st:St)(Q:V->St->Prop):Prop:=Du A F z cl r (ev e) e lc st Q
noncomputable def Ds(v:EV)(e:Expr)(lc:Lc)(st:St)(X Y:St->Prop):Prop:=match v with
 |.not x=>r.T x lc st Y X
 |.bool op es=>r.B op es lc st X Y
 |.cmp a op b=>r.E a lc st λx d=>r.E b lc d λy st₂=>tq A op x y st₂ λc f=>FA A c f X Y
 |_=>cond (plainT e) (r.E e lc st λv d=>FA A v d X Y) (lP A F e lc st (two X Y))
noncomputable def HA(e:Expr)(lc:Lc)(st:St)(X Y:St->Prop):Prop:=Ds A F r (ev e) e lc st X Y
noncomputable def Ga(e:Option Expr)(lc:Lc)(st:St)(QF:Fl->Lc->St->Prop):Prop:=match e with
 |some e=>r.E e lc st λv a=>QF (.ret v) lc a
 |none=>QF (.ret .n) lc st
noncomputable def GR(x:Str)(op:MW)(e:Expr)(lc:Lc)(st:St)(QF:Fl->Lc->St->Prop)(E:Prop):Prop:=cond (j4 (F.kd x)) (iB (lc.lookup x) (λu=>r.E e lc st λv a=>HQ A op u v a λv st₂=>QF .next (lc.set x v) st₂) E) E
noncomputable def Hz(ts:List Expr)(e:Expr)(lc:Lc)(st:St)(QF:Fl->Lc->St->Prop)(E:Prop):Option (List Str)->Prop
 |none=>cond (ts.all cN) (r.E e lc st λv a=>vc v ts.length (λitems=>r.Av (ts.zip items) lc a (QF .next)) False) E
 |some names=>cond (names.all λy=>j4 (F.kd y)) (r.E e lc st λv a=>vc v names.length (λitems=>QF .next (jT (names.zip items).reverse lc) a) False) E
noncomputable def Dt(v:SV)(c:Stmt)(lc:Lc)(st:St)(QF:Fl->Lc->St->Prop):Prop:=match v with
 |.iff t a b=>r.T t lc st (λd=>r.Ss a lc d QF) λd=>r.Ss b lc d QF
 |.ret e=>Ga r e lc st QF
 |.asg t e=>r.E e lc st λv d=>r.A t v lc d (QF .next)
 |.asgT ts vs e=>iB (F7 ts vs F.env) (Hz F r ts e lc st QF (eG A F c lc st QF)) (eG A F c lc st QF)
 |.asgs ts e=>r.E e lc st λv d=>r.Am ts v lc d (QF .next)
 |.aug x op e=>GR A F r x op e lc st QF (eG A F c lc st QF)
 |.expr e=>r.E e lc st λZ d=>QF .next lc d
 |.del o k=>r.E o lc st λa d=>r.E k lc d λb st₂=>C7 A a b st₂ (QF .next lc)
 |.pass=>QF .next lc st
 |.brk=>QF .brk lc st
 |.cont=>QF .cont lc st
 |_=>eG A F c lc st QF
noncomputable def HB(c:Stmt)(lc:Lc)(st:St)(QF:Fl->Lc->St->Prop):Prop:=Dt A F r (sv c) c lc st QF
noncomputable def HJ:O->Option Unit
 |.cell Z=>IK ()
 |_=>none
noncomputable def BI:Option NameKind->Bool
 |some k=>(match k with
  |.cell=>true
  |_=>false)
 |none=>false
noncomputable def EN(x:Str)(v:V)(lc:Lc)(st:St)(QL:Lc->St->Prop)(E:Prop):Prop:=cond (BI (F.kd x)) (iB (F.ce.lookup x) (λh=>iB (oP HJ st h) (λZ=>QL lc (st.set h (.cell (IK v)))) E) E) E
noncomputable def Dv(u:TV)(t:Expr)(v:V)(lc:Lc)(st:St)(QL:Lc->St->Prop):Prop:=match u with
 |.name x=>cond (j4 (F.kd x)) (QL (lc.set x v) st) (EN F x v lc st QL (dN A F t v lc st QL))
 |.attr o x=>r.E o lc st λa c=>xi A cl a x v c (QL lc)
 |.sub o k=>r.E o lc st λa c=>r.E k lc c λb st₂=>AM A a b v st₂ (QL lc)
 |.tup es=>vc v es.length (λitems=>r.Av (es.zip items) lc st QL) (dN A F t v lc st QL)
 |.oth=>dN A F t v lc st QL
noncomputable def HE(t:Expr)(v:V)(lc:Lc)(st:St)(QL:Lc->St->Prop):Prop:=Dv A F cl r (tv t) t v lc st QL
noncomputable def HC:Sm where
 E:=HD A F z cl r
 Es es lc st Q:=match es with
  |[]=>Q [] st
  |e::es=>r.E e lc st λv a=>r.Es es lc a λvs st₂=>Q (v::vs) st₂
 T:=HA A F r
 B op es lc st X Y:=match op with
  |.And=>match es with
   |[]=>X st
   |e::es=>r.T e lc st (λa=>r.B .And es lc a X Y) Y
  |.Or=>match es with
   |[]=>Y st
   |e::es=>r.T e lc st X λa=>r.B .Or es lc a X Y
 S:=HB A F r
 Ss l lc st Q:=match l with
  |[]=>Q .next lc st
  |c::l=>r.S c lc st λf d a=>match f with
   |.next=>r.Ss l d a Q
   |f=>Q f d a
 A:=HE A F cl r
 Av l lc st Q:=match l with
  |[]=>Q lc st
  |(t,v)::l=>r.A t v lc st λg h=>r.Av l g h Q
 Am l v lc st Q:=match l with
  |[]=>Q lc st
  |t::l=>r.A t v lc st λg h=>r.Am l v g h Q
noncomputable def sm:Nat->Sm
 |0=>Ih A F
 |n+1=>HC A F z cl (sm n)
variable {A F z cl r}
structure wy(A:Around)(F:dH)(r:Sm):Prop where
 E:∀ {e lc st Q},r.E e lc st Q->c8 A F e lc st Q
 Es:∀ {es lc st Q},r.Es es lc st Q->fL A F es lc st Q
 T:∀ {e lc st X Y},r.T e lc st X Y->lP A F e lc st (two X Y)
 B:∀ {op es lc st X Y},r.B op es lc st X Y->tU A F op es lc st (two X Y)
 S:∀ {c lc st Q},r.S c lc st Q->eG A F c lc st Q
 Ss:∀ {l lc st Q},r.Ss l lc st Q->cK A F l lc st Q
 As:∀ {t v lc st Q},r.A t v lc st Q->dN A F t v lc st Q
 Av:∀ {l lc st Q},r.Av l lc st Q->pn A F l lc st Q
 Am:∀ {l v lc st Q},r.Am l v lc st Q->pq A F l v lc st Q
theorem vi(R:wy A F r){e X Y}(h:HA A F r e lc st X Y):lP A F e lc st (two X Y) :=
 have o {A F lc st r} (R:wy A F r) {e v X} (k:gN e v):Ds A F r v e lc st X Y->lP A F e lc st (two X Y):=by
  have H {A F lc st QB e} (he:RC e F.env (eval e F.env)=(do let v <-eval e F.env;OM e.pos;Mh [v] (Ta v))) (h:c8 A F e lc st λv d=>wI A v d QB):lP A F e lc st QB :=
   λσ s p=>isTrue_plain (b0 (h σ s p) λw s₁ i d v g hv j=>sJ g (j i s₁ w hv g.inv g.rel)) he
  have C {QB l r op pos} (hm:O6 op r=false) (h:c8 A F l lc st λa d=>c8 A F r lc d λb st₂=>di A (J1 op) a b st₂ λc D=>wI A c D QB):lP A F (.Compare l [op] [r] pos) lc st QB :=
   λσ s p=>RU (b0 (h σ s p) λu s₁ i d a g ha j=>b0 (j i s₁ (p.step g)) λw ac U st₂ b G hb aa=>b0 (aa U ac u w (ha.step g.rel G) hb G.inv G.rel) λz ae Z D c M hc ab=>sJ ((g.trans G).trans M) (ab Z ae z hc M.inv M.rel)) hm
  have S {b} (h:(!b)=false):b=true:=by
   cases b with
   |true=>rfl
   |false =>
    have tf {P:Prop}:P:=IW h;exact tf
  have pl:cond (plainT e) (r.E e lc st λv d=>FA A v d X Y) (lP A F e lc st (two X Y))->lP A F e lc st (two X Y):=λq=>de q (λhp q=>H (vO hp) ((R.E q).mono λv d h=>nY h)) id;cases k with
  |not e =>
   have Q {QB pos} (h:lP A F e lc st λb=>QB (!b)):lP A F (.UnaryOp .Not e pos) lc st QB :=
    λσ s p=>isTrue_not (eA (h σ s p) λb s₁ i d g j=>⟨i,d,g,j⟩)
   exact λh=>Q ((R.T h).mono λb d h=>⟨λq=>h.f (Bn q),λq=>h.t (S q)⟩)
  |bool op es =>
   have J {QB pos} (h:tU A F op es lc st QB):lP A F (.BoolOp op es pos) lc st QB:=λσ s p=>SO (h σ s p);exact λh=>J (R.B h)
  |cmp a op b p hm=>exact λh=>C hm ((R.E h).mono λx d h=>(R.E h).mono λy st₂ h=>(nr h).mono λc D h=>nY h)
  |_=>exact pl
 o R (BL e) h
theorem uY(c:A.handled=none){elts k pos items}(d:elts.all cN=true)(a:items.length=elts.length)(h:pn A F (elts.zip items) lc st QL):dN A F (.Tuple elts k pos) (.t items) lc st QL :=
 fS d (a▸tZ c) a h
theorem vj(T:cB)(hA:A.handled=none)(hi:MU F.env=false)(R:wy A F r){c}(h:HB A F r c lc st QF):eG A F c lc st QF :=
 have ak (c:Stmt):iL c (sv c):=by
  cases c with
  |If t a b p=>exact .iff t a b p
  |Return e p=>exact .ret e p
  |Assign ts e p =>
   have aa (h:fx e=true):iL (.Assign ts e p) (AK ts e):=by
    have ab (t e:Expr) (p:Ua):iL (.Assign [t] e p) (AJ t e):=by
     cases t with
     |Tuple es k q=>cases e with
      |Tuple vs k' q'=>exact .asgT es k q vs k' q' p
      |_=>exact .oth _
     |_=>exact .oth _
    cases ts with
    |nil=>exact .oth _
    |cons t l=>cases l with
     |nil=>exact eX (λhp=>.asg t e p h (Bool.and_eq_true_iff.mp hp).1 (Bool.and_eq_true_iff.mp hp).2) (ab t e p)
     |cons u l=>exact eX (.asgs t u l e p h) (.oth _)
   exact eX (aa) (.oth _)
  |AugAssign t op e p=>cases t with
   |Name x q=>exact .aug x q op e p
   |_=>exact .oth _
  |Expr e p=>exact eX (.expr e p) (.oth _)
  |For t i b aq p=>cases aq with
   |cons=>exact .oth _
   |nil=>exact eX (.forr t i b p) (.oth _)
  |Delete ts p=>cases ts with
   |nil=>exact .oth _
   |cons t l=>cases l with
    |cons=>exact .oth _
    |nil=>cases t with
     |Subscript o k q=>exact .del o k q p
     |_=>exact .oth _
  |Pass p=>exact .pass p
  |Break p=>exact .brk p
  |Continue p=>exact .cont p
  |_=>exact .oth _
 have J {A F lc st QF r} (T:cB) (hA:A.handled=none) (hi:MU F.env=false) (R:wy A F r) {c v} (k:iL c v):Dt A F r v c lc st QF->eG A F c lc st QF:=by
  have ag {Q oe ie p pos} (h:c8 A F oe lc st λov d=>c8 A F ie lc d λiv st₂=>C7 A ov iv st₂ (Q .next lc)):eG A F (.Delete [.Subscript oe ie p] pos) lc st Q:=by
   intro σ s p;refine wpAny_Delete (wpAny_deleteEach_cons (wpAny_delete_Subscript (b0 (h σ s p) λu s₁ B d ov g as q=>b0 (q B s₁ (p.step g)) λi ah ae st₂ iv G ar q=>?_)));refine I5 (q ae ah u i (as.step g.rel G) ar G.inv G.rel) (λZ am au=>?_) λZ Y e=>e;obtain⟨al,aj,ao,q⟩:=au;have x:=(g.trans G).trans ao;exact wpAny_deleteEach_nil ⟨al,lc,aj,x.iQ.ir,(p.step x).f,.next,rfl,q⟩
  cases k with
  |iff t a b p =>
   have ai {Q test body orelse pos} (h:lP A F test lc st λb d=>Br b (cK A F body lc d Q) (cK A F orelse lc d Q)):eG A F (.If test body orelse pos) lc st Q :=
    have S {σ σ' st' s s' t} (x:cC (· =F.L) σ st s σ' st' s') (h:Wp A t (PF F σ' st' s' Q) s'):Wp A t (PF F σ st s Q) s':=iU x.ir h
    λσ s p=>wpAny_If (eA (h σ s p) λb s₁ B d g ap=>by
     obtain⟨h1,h2⟩:=ap;cases b with
     |true=>exact S g.iQ (h1 rfl B s₁ (p.step g))
     |false=>exact S g.iQ (h2 rfl B s₁ (p.step g)))
   exact λh=>ai ((R.T h).mono λc d h=>⟨λq=>R.Ss (h.t q),λq=>R.Ss (h.f q)⟩)
  |ret e p=>cases e with
   |none =>
    have C {Q pos} (h:Q (.ret .n) lc st):eG A F (.Return none pos) lc st Q:=λσ s p=>wpAny_Return_none ⟨_,_,_,p.refl.ir,p.f,.ret .n,⟨_,rfl,rfl⟩,h⟩;exact C
   |some e=>exact λh=>kL (R.E h)
  |asg t e p hc hs hp=>exact λh=>gc hc (g8 hs) (by refine(Nd).symm▸?_;refine(hp).symm▸?_;rfl) ((R.E h).mono λv d h=>R.As h)
  |asgT ts k q vs k' q' p =>
   have M {A F lc st QF r} (T:cB) (hA:A.handled=none) (R:wy A F r) {ts vs k k' q q' o} (hs:F7 ts vs F.env=IK o) (h:Hz F r ts (.Tuple vs k' q') lc st QF (eG A F (.Assign [.Tuple ts k q] (.Tuple vs k' q') p) lc st QF) o):eG A F (.Assign [.Tuple ts k q] (.Tuple vs k' q') p) lc st QF:=by
    have D {ts vs k k' p p' env r} (h:F7 ts vs env=IK r):MN [.Tuple ts k p] (.Tuple vs k' p') env=pure r:=by
     have j {α} {b:Bool} {x y:Option α} {r:α} {T E:Qx α} (h:cond b x y=IK r) (k:x=IK r->T=pure r) (l:y=IK r->E=pure r):(if b=true then T else E)=pure r:=by
      cases b with
      |true=>exact k h
      |false=>exact l h
     have X (h:vs.all cN=true):(vs.any fun | .Starred ..=>true | _=>false)=false:=by
      rw[List.any_eq_false];intro e he;have:=Pc.mp h e he;cases e <;> first | exact Kw | exact ft this
     refine j h (λq=>congrArg pure (Jk q)) λh=>?_;cases h2:vs.all cN with
     |false=>rw[h2] at h;exact nn h
     |true =>
      rw[h2] at h;exact(if_neg (λq=>Kw ((X h2).symm.trans q))).trans (j h (λq=>congrArg pure (Jk q)) λh=>j h (λq=>congrArg pure (Jk q)) λh=>j h nn λq=>congrArg pure (Jk q))
    cases o with
    |none=>exact de h (λe h=>gc rfl (D hs) rfl ((R.E h).mono λv d h=>jw h (λitems e' hn h=>e'▸uY hA e hn (R.Av h)) Ow)) id
    |some names=>exact de h (λe h=>Ae T hA rfl (D hs) (λy hy=>fE (Pc.mp e y hy)) ((R.E h).mono λv d h=>jw h (λitems e' hn h=>⟨items,e',hn,h⟩) Ow)) id
   exact λh=>cP h (λo e h=>M T hA R e h) id
  |asgs t u l e p hc hp =>
   have P {t u l env}:MN (t::u::l) e env=pure none:=by cases t <;> rfl
   exact λh=>gc hc P hp ((R.E h).mono λv d h=>R.Am h)
  |aug x q op e p =>
   have af {Q p' pos value v0} (hk:F.kd x=IK .local) (hv:lc.lookup x=IK v0) (h:c8 A F value lc st λv d=>di A (OQ op) v0 v d λu st₂=>Q .next (lc.set x u) st₂):eG A F (.AugAssign (.Name x p') op value pos) lc st Q:=by
    intro σ s p;refine IJ λzz=>?_;obtain⟨m,hm,e⟩:=p.f.ns;obtain⟨an,h1,h2⟩:=e x v0 hk hv;refine zz ?_;exact wpAny_AugAssign_Name (KQ p.f.kind hk hm h1 (b0 (h σ s p) λw s₁ B d v g hv q=>b0 (q B s₁ an w (h2.step p.r g) hv g.inv g.rel) λz ah ae st₂ u G hu q =>
     gw T (p.step (g.trans G)) hk hu λam y fr=>⟨_,_,_,((g.trans G).iQ.trans y).ir,fr,.next,rfl,q⟩))
   exact λh=>de h (λhk h=>cP h (λu e h=>af (fE hk) e ((R.E h).mono λv d h=>oD h)) id) id
  |expr e p hc=>exact λh=>lZ hi (kS hc) (R.E h)
  |del o k q p=>exact λh=>ag ((R.E h).mono λv d h=>R.E h)
  |pass p =>
   have ac {Q pos} (h:Q .next lc st):eG A F (.Pass pos) lc st Q:=λσ s p=>wpAny_Pass ⟨_,_,_,p.refl.ir,p.f,.next,rfl,h⟩;exact ac
  |brk p =>
   have U {Q pos} (h:Q .brk lc st):eG A F (.Break pos) lc st Q:=λσ s p=>wpAny_Break ⟨_,_,_,p.refl.ir,p.f,.brk,rfl,h⟩;exact U
  |cont p =>
   have H {Q pos} (h:Q .cont lc st):eG A F (.Continue pos) lc st Q:=λσ s p=>wpAny_Continue ⟨_,_,_,p.refl.ir,p.f,.cont,rfl,h⟩;exact H
  |_=>exact id
 J T hA hi R (ak c) h
theorem vn(T:cB)(hA:A.handled=none)(C:Cl cl)(R:wy A F r){t v}(h:HE A F cl r t v lc st QL):dN A F t v lc st QL :=
 have ar (e:Expr):r9 e (tv e):=by
  cases e with
  |Name x p=>exact .name x p
  |Attribute o x p=>exact .attr o x p
  |Subscript o k p=>exact .sub o k p
  |Tuple es k p =>
   show r9 _ (Hu es (es.all cN));cases h:es.all cN with
   |true=>exact .tup es k p h
   |false=>exact .oth _
  |_=>exact .oth _
 have S {A F lc st QL cl r} (T:cB) (hA:A.handled=none) (C:Cl cl) (R:wy A F r) {t u} (k:r9 t u):Dv A F cl r u t v lc st QL->dN A F t v lc st QL:=by
  have ac {o attr pos Q} (h:c8 A F o lc st λov z=>pg A ov attr v z (Q lc)):dN A F (.Attribute o attr pos) v lc st Q:=by
   intro σ s w hv p;rw[arm_assign_Attribute];refine II (I9 (b0 (h σ s p) λu s₁ aa z ov g ao q=>?_));refine II (K4 (II (I9 (I5 (q aa s₁ u w ao (hv.step p.r g) g.inv g.rel) (λZ am au=>?_) λZ Y e=>e))));obtain⟨ab,st₂,B,q⟩:=au;exact U2 ⟨ab,lc,st₂,(g.trans B).iQ,(p.step (g.trans B)).f,q⟩
  have ai {o ix pos Q} (h:c8 A F o lc st λov z=>c8 A F ix lc z λiv st₂=>km A ov iv v st₂ (Q lc)):dN A F (.Subscript o ix pos) v lc st Q:=by
   intro σ s w hv p;rw[arm_assign_Subscript];refine II (I9 (b0 (h σ s p) λu s₁ aa z ov g ao q=>?_));refine II (I9 (b0 (q aa s₁ (p.step g)) λi am ab st₂ iv B aC q=>?_));refine II (K4 (II (I9 (I5 (q ab am u i w (ao.step g.rel B) aC (hv.step p.r (g.trans B)) B.inv B.rel) (λZ aI au=>?_) λZ Y e=>e))));obtain⟨av,aq,az,q⟩:=au;have x:=(g.trans B).trans az;exact U2 ⟨av,lc,aq,x.iQ,(p.step x).f,q⟩
  have J {A st cl} (T:cB) (C:Cl cl) {o x v Q} (h:xi A cl o x v st Q):pg A o x v st Q:=by
   have ah {x} {C:Nat} {d c} {m:Lc} {name} (hc:pj C c) (h1:st[x]?=IK (.inst C d)) (h2:st[d]?=IK (.ns m)) (hn:c.as.contains name=true) (hl:m.length<=99) (h:Q (st.set d (.ns (m.set name v)))):pg A (.r x) name v st Q:=by
    intro σ s u w ⟨hx,e⟩ hv i r;subst e;obtain⟨mN,at_,sa,_,_,_,as⟩:=hc;obtain⟨n2,hB⟩:=as name hn;obtain⟨f,o,hI,hk,ax,ho,hd,dn,ne⟩:=m4 h1 h2 r;obtain⟨nm,qn,bs,sn,sub,aK,dd,k0,k1,k2,k3,k5,hC,an⟩:=at_.now i;have aF:σ.a x≠C:=λe=>by
     obtain⟨o',c0,aB,_⟩:=hI;replace c0:=e▸c0;replace c0:=hC▸c0;cases c0;cases aB
    have hw:Within f (m.map (·.1)):=λy hy=>by
     cases e:m.lookup y with
     |none=>exact absurd (ax y e) hy
     |some v =>
      have:=List.lookup_isSome_iff (l:=m) (k:=y);rw[e] at this;refine IJ λzz=>?_;obtain⟨p,hp,hq⟩:=this.mp rfl;refine zz ?_;exact Qz.mpr ⟨p,hp,(eq_of_beq hq).symm⟩
    refine wpAny_toks (cG (store_attr PySem.F.store_object hC an sa n2 hB aF hI (λh' aG aA aD ap hz ht=>?_) hw (by rw[IZ];exact IT hl (by decide))));refine IJ λzz=>?_;obtain⟨al,aj,e1,e2,e3,e4⟩:=ap o ho;refine zz ?_;have e5:=e4 _ hd;have eo:al=o:=by
     obtain⟨c1,d1,aL,s1⟩:=al;obtain⟨c2,d2,aM,s2⟩:=o;simp only at e1 e2 e3 e5 hd;subst e1 e2 e3 e5 hd
     rfl
    subst eo;refine IJ λzz=>?_;obtain⟨o',c0,_,_,H⟩:=aA;refine zz ?_;replace c0:=aj▸c0;cases c0;have ay:h'.Ns1 (σ.a d) (λy=>if y=name then IK w else f y):=by
     rcases H with ⟨H,_⟩ | ⟨d',H,_,an⟩
     ·have H:=hd▸H;cases H
     ·have H:=hd▸H;cases H;exact an
    have x:=ky (X:=dY) (o:=.ns (m.set name v)) (k:=aG) T i r dn (λb o hb e=>by
     by_cases aw:b=σ.a x
     ·subst aw;have e:=ho▸e;cases e;exact aj
     ·exact aD b o aw (λaH dx q1 q2=>by have q1:=ho▸q1;cases q1;have q2:=hd▸q2;cases q2;exact hb) e) hz ht (λx=>⟨_,ay,λy v' q=>by
      rw[Lc.f5] at q;by_cases hy:y=name
      ·subst hy;rw[beq_self_eq_true,if_pos rfl] at q;cases q;exact⟨w,if_pos rfl,RV.mono x r.apart _ _ hv⟩
      ·rw[if_neg (by simpa using hy)] at q;obtain⟨w',q1,q2⟩:=hk y v' q;exact⟨w',(if_neg hy).trans q1,RV.mono x r.apart _ _ q2⟩,λy q=>by
      rw[Lc.f5] at q;by_cases hy:y=name
      ·subst hy;rw[beq_self_eq_true,if_pos rfl] at q;cases q
      ·rw[if_neg (by simpa using hy)] at q;exact(if_neg hy).trans (ax y q)⟩) (λZ Y U q=>nomatch q)
    exact⟨_,_,x,h⟩
   cases o with
   |r h'=>unfold xi at h;exact lj h (λc D d m i h=>de h (λhb h=>i.casesOn λh1 h2 h3=>ah (C _ _ h3) h1 h2 (Bool.and_eq_true_iff.mp hb).1 (of_decide_eq_true (Bool.and_eq_true_iff.mp hb).2) h) id) id
   |_=>exact h
  have M {A st} (T:cB) {o k v Q} (h:AM A o k v st Q):km A o k v st Q:=by
   have G {K:Type} [DecidableEq K] {knd:KeyKind W.prog W.w K} {mk:List (K×V)->O} {ag:List (K×V)} {j:Nat} {k:K} {kv:V} (D:gX knd mk) (e:st[j]?=IK (mk ag)) (hk:nV knd kv k) (hz:ag.length<=sizeLine) (h:Q (st.set j (mk (il ag k v)))):km A (.r j) kv v st Q:=by
    intro σ s a b c ⟨hj,ha⟩ hb hc i r;subst ha;refine IJ λzz=>?_;obtain⟨o,ws,ho,hd,hr⟩:=D.to _ _ _ _ _ (r.at_ j _ e);have hl:ws.length=ag.length:=by have:=congrArg Lr hr.1;simpa using this
    obtain⟨_,_,_,_,_,_,nd⟩:=id hd;refine zz ?_;refine wpAny_setItem_pairs (hk _ _ _ _ hb) (Heap.dictOf_iff.mpr ⟨o,ho,hd⟩) (λh' hD hs=>?_) (by rw[hl];exact hz);refine IJ λzz=>?_;obtain⟨o',c0,aE⟩:=Heap.dictOf_iff.mp hD;refine zz ?_;exact⟨_,_,eQ T i r hj hs (I8 _) (λx=>D.of _ _ _ _ _ ⟨o',_,c0,aE,RK.set (RV.mono x r.apart _ _ hc) (hr.mono x r.apart) nd⟩) (D.gen _),h⟩
   cases o with
   |r j=>cases k with
    |s x t=>exact cP h (λag e h=>G dict_str (jO @AV e) fz h.1 h.2) id
    |i x=>exact cP h (λag e h=>G dict_int (jO @xA e) jY h.1 h.2) id
    |_=>exact h
   |_=>exact h
  cases k with
  |name x p =>
   have P (h:EN F x v lc st QL (dN A F (.Name x p) v lc st QL)):dN A F (.Name x p) v lc st QL :=
    have ak {o u} (h:HJ o=IK u):∃v,o=.cell v:=by
     cases o with
     |cell v=>exact⟨v,rfl⟩
     |_=>exact nn h
    de h (λhk h=>cP h (λj e h=>cP h (λu e' h=>by
     refine IJ λzz=>?_;obtain⟨o,h1,h2⟩:=uw e';obtain⟨u,e2⟩:=ak h2;refine zz ?_;have ae (hk:F.kd x=IK .cell) (hc:F.ce.lookup x=IK j) (hj:st[j]?=IK (.cell u)):dN A F (.Name x p) v lc st QL:=λσ s w hv pr=>by
      refine IJ λzz=>?_;obtain⟨aJ,hw,_⟩:=pr.r.at_ j _ hj;obtain⟨h1,h2⟩:=pr.f.cells x j hc;refine zz ?_;refine Pz (wpAny_storeName_cell pr.f.kind hk h2 hw λh' hn hs=>?_);have y:∀X,cC X σ st s σ (st.set j (.cell (IK v))) {s with heap:=h'}:=λX=>eQ (k:=s.toks) T pr.i pr.r h1 hs (IQ _) (λx=>⟨IK w,hn,λu e=>by cases e;exact⟨w,rfl,RV.mono x pr.r.apart v w hv⟩⟩) (by intro _ _ _ q;cases q);exact⟨σ,lc,_,y _,pr.f.step pr.r (y dY) id λZ Y=>id,h⟩
     have af {k} (h:BI k=true):k=IK .cell:=by
      cases k with
      |none=>exact ft h
      |some k=>cases k <;> first | rfl | exact ft h
     exact ae (af hk) e (h1.trans (congrArg IK e2))) id) id) id
   exact λh=>de h (λhk h=>yX T (fE hk) h) (P)
  |attr o x p=>exact λh=>ac ((R.E h).mono λa z h=>J T C h)
  |sub o k p=>exact λh=>ai ((R.E h).mono λa z h=>(R.E h).mono λb st₂ h=>M T h)
  |tup es k p hp=>exact λh=>jw h (λitems e hn h=>e▸uY hA hp hn (R.Av h)) id
  |oth=>exact id
 S T hA C R (ar t) h
theorem vm(G:Gl z)(C:Cl cl)(hA:A.handled=none)(hi:MU F.env=false)(R:wy A F r):wy A F (HC A F z cl r) where
 E h :=
 have aN {lc st Q e} (h:HD A F z cl r e lc st Q):c8 A F e lc st Q :=
  have aD {A F lc Q z cl r} (G:Gl z) (C:Cl cl) (R:wy A F r) {e v} (k:gN e v):Du A F z cl r v e lc st Q->c8 A F e lc st Q:=by
   have am {A st Q cl} (C:Cl cl) {v x} (h:yU A cl v x st Q):iN A v x st Q:=by
    have aE {x} {C:Nat} {d c} {m:Lc} {name v} (hc:pj C c) (h1:st[x]?=IK (.inst C d)) (h2:st[d]?=IK (.ns m)) (hn:c.as.contains name=true) (hm:m.lookup name=IK v) (hv:∀id,v≠.v (.builtin id)) (hg:∀b,v≠.g b) (h:Q v st):iN A (.r x) name st Q:=by
     intro σ s w ⟨hx,e⟩ i r;subst e;refine IJ λzz=>?_;obtain⟨mN,at_,_,ga,_,_,as⟩:=hc;obtain⟨n2,hB⟩:=as name hn;obtain⟨f,o,hI,hk,_⟩:=m4 h1 h2 r;obtain⟨u,hu,hr⟩:=hk name v hm;obtain⟨nm,qn,bs,sn,sub,cf,dd,k0,k1,k2,k3,k5,hC,bV⟩:=at_.now i;obtain⟨hp,g,dr,t,os⟩:=s;refine zz ?_;have aH {s n v w} (hv:∀id,v≠.v (.builtin id)) (hg:∀b,v≠.g b) (h:RV σ n s v w):Qa w=pure w:=by
      cases v with
      |v u =>
       have e:w=u:=h;subst e;cases w <;> first | rfl | exact absurd rfl (hv _)
      |i x=>obtain⟨t,rfl⟩:=h;rfl
      |f x=>obtain⟨t,rfl⟩:=h;rfl
      |s x t=>obtain⟨u,rfl,_⟩:=h;rfl
      |c k vs=>obtain⟨a,i,m,rfl,_⟩:=h;rfl
      |r j=>obtain⟨_,rfl⟩:=h;rfl
      |o o=>obtain⟨a,rfl,_⟩:=h;rfl
      |bm b j=>obtain⟨a,rfl,_⟩:=h;rfl
      |g b=>exact absurd rfl (hg b)
      |rg x y=>obtain⟨a,t,u,v,rfl,_⟩:=h;rfl
     exact load_attr hC bV ga n2 hB hI hu (aH hv hg hr) ⟨σ,st,cH i r (I8 _),v,hr.step r (cH i r (I8 _)),h⟩
    have bp {v} (h:yi v=true) (id:String):v≠.v (.builtin id):=λq=>by subst q;exact IW h
    have bq {v} (h:yi v=true) (b:Bi):v≠.g b:=λq=>by subst q;exact IW h
    cases v with
    |r h' =>
     have ar {h} (q:EP h x st Q (iN A (.r h) x st Q)):iN A (.r h) x st Q :=
      cP q (λT e q=>by
       refine IJ λzz=>?_;obtain⟨o,h1,h2⟩:=uw e;refine zz ?_;cases T with
       |dict=>exact de q (λe q=>eq_of_beq e▸nE rfl nv (tI h1 h2) q) id
       |set =>
        have bI:∃l,st[h]?=IK (.set l):=by
         cases o with
         |set l=>exact⟨l,h1⟩
         |list=>exact Ty.noConfusion (Jk h2)
         |dict=>exact Ty.noConfusion (Jk h2)
         |dicti=>exact Ty.noConfusion (Jk h2)
         |_=>exact nn h2
        exact de q (λe q=>(bI).elim λl hl=>eq_of_beq e▸nE rfl tH (wo hl) q) id
       |_=>exact q) id
     unfold yU at h;exact lj h (λc D d m i h=>cP h (λu e h=>de h (λhb h=>i.casesOn λh1 h2 h3=>aE (C _ _ h3) h1 h2 (Bool.and_eq_true_iff.mp hb).1 e (bp (Bool.and_eq_true_iff.mp hb).2) (bq (Bool.and_eq_true_iff.mp hb).2) h) id) id) ar
    |_=>exact h
   have au {A st Q} (T:cB) {f vs} (h:EO A f vs st Q):b5 A f vs st Q:=by
    cases f with
    |g b =>
     have aF:b5 A (.g b) vs st Q:=by
      cases b with
      |len=>cases vs with
       |nil=>exact h
       |cons v l=>cases l with
        |nil =>
         have aA:b5 A (.g .len) [v] st Q:=by
          have UH {A σ s Q a items m vs} (ho:s.heap.get? a=IK (Kd.lst.obj items m)) (hz:items.size<=sizeLine) (hv:cW σ st.length s vs items.toList) (i:Inv s) (r:Rel σ st s) (h:Q (.i vs.length) st):Wp A (JX (.builtin "len") [.ref a]) (PV σ st s Q) s:=by
           have hl:=hv.len;replace hl:=I3▸hl;refine Calls.call_len_list ⟨_,ho,rfl,m,rfl⟩ (by have:=eI;omega) ⟨_,_,cH i r (Jc _ 2),.i vs.length,⟨_,by rw[hl]⟩,h⟩
          cases v with
          |s x t =>
           intro σ s w ws hw aa i r;subst hw;obtain⟨y,rfl,u,rfl,_⟩:=fK aa;exact P.len_str (by have:=h.1;have:=eI;omega) ⟨_,_,cH i r (Jc _ 2),.i x.length,⟨_,rfl⟩,h.2⟩
          |c k vs=>cases k with
           |lst =>
            intro σ s w ws hw aa i r;cases hw;obtain⟨y,rfl,a,items,m,rfl,_,ho,hz,hv⟩:=fK aa;exact UH ho hz (cW.wD (k:=.lst) hv) i r h
           |_=>exact h
          |r j =>
           refine gV h λvs e h σ s w ws hw aa i r=>?_;cases hw;obtain⟨y,rfl,hj,rfl⟩:=fK aa;obtain⟨items,m,ho,hz,hv⟩:=r.at_ j _ e;exact UH ho hz hv i r h
          |_=>exact h
         exact aA
        |cons=>exact h
      |range=>cases vs with
       |nil=>exact h
       |cons v l=>cases l with
        |nil=>cases v with
         |i y =>
          have an:b5 A (.g .range) [.i y] st Q:=by
           intro σ s f ws hf aa i r;subst hf;obtain⟨u,rfl,t,rfl⟩:=fK aa;refine call_range_1 ?_;exact⟨_,_,(fg (X:=dY) (h':=s.heap.push (mF 0 y s.toks t (s.toks+1))) (k:=s.toks+2) i r (IQ _) (by refine(I7 ..).symm▸?_;exact Jg _) (λc y e=>IS _ e) (Jc _ 2)),.rg _ _,⟨_,s.toks,t,s.toks+1,rfl,.inr rfl,I0 _ rfl⟩,h⟩
          exact an
         |_=>exact h
        |cons u l=>cases l with
         |nil=>cases v with
          |i x=>cases u with
           |i y =>
            have av:b5 A (.g .range) [.i x,.i y] st Q:=by
             intro σ s f ws hf aa i r;subst hf;obtain⟨u,v,rfl,⟨t,rfl⟩,t',rfl⟩:=jr aa;refine call_range_2 ?_;exact⟨_,_,(fg (X:=dY) (h':=s.heap.push (mF x y t t' s.toks)) (k:=s.toks+1) i r (IQ _) (by refine(I7 ..).symm▸?_;exact Jg _) (λc y e=>IS _ e) (I8 _)),.rg _ _,⟨_,t,t',s.toks,rfl,.inr rfl,I0 _ rfl⟩,h⟩
            exact av
           |_=>exact h
          |_=>exact h
         |cons=>exact h
      |set=>cases vs with
       |nil =>
        have aW:b5 A (.g .set) [] st Q:=by
         have bw {s E P} (h:P (.ref s.heap.objs.size) {s with heap:=s.heap.push (sD (!dF W.w))}):Jd (I6 W.prog W.w) A (JX (.type "set") []) P E s:=by
          have bc {A s E Q₁} (h:Q₁ (.ref s.heap.objs.size) {s with heap:=s.heap.push (sD (!dF W.w))}) :
            M6 (I6 W.prog W.w) A (.call (.builtin "set.__new__") ⟨[.type "set"],[]⟩) (Sl Q₁ E) s:=by
           refine Mj ?_;show Jd _ A.in1 (do NY "set.__new__" ⟨[.type "set"],[]⟩;UP (.builtin "set.__new__" ⟨[.type "set"],[]⟩)) _ _ s;refine II (Mo PySem.F.newCall_set_0 (IP ⟨MP Qp _,LF PySem.F.entry_set_new ?_⟩));refine(K6 Qp _).symm▸?_;delta Builtin.«set.__new__» SN;have bO:=sub_set_self;obtain⟨hp,g,d,tk,os⟩:=s;dsimp only
           wp_walk
           refine L6 (IP ?_);dsimp only;exact II (Sk (IP (IP h)))
          refine IJ λzz=>?_;obtain⟨c,tl,cd⟩:=PySem.F.called_set.mro;refine zz ?_;have bU:=PySem.F.called_set.made;have bO:=PySem.F.called_set.sub;refine KD (Mj ?_);refine IP ⟨MZ _ (by decide +kernel),LF PySem.F.entry_type_call ?_⟩;refine(Around.under_plain (weight_type_call_type "set" [] []) rfl).symm▸?_;have h1:=PySem.F.called_set.notType;have h2:=PySem.F.called_set.canCreate;have ch:=PySem.F.typeCall_set_0
          repeat (any_goals (first | assumption | wp_step))
          refine Mx (bc (E:=E) (Q₁:=λobj s₁=>obj=.ref s.heap.objs.size/\s₁={s with heap:=s.heap.push (sD (!dF W.w))}) ⟨rfl,rfl⟩) λrr s₁ hr=>?_;cases rr with
          |error e=>exact hr
          |ok fl =>
           cases fl with
           |ret obj =>
            obtain⟨rfl,rfl⟩:=hr;have hT:IY.TypeIs {s with heap:=s.heap.push (sD (!dF W.w))} (.ref s.heap.objs.size) "set":=⟨_,I0 _ rfl,rfl⟩
            have hS:(s.heap.push (sD (!dF W.w))).get? s.heap.objs.size=IK (sD (!dF W.w)):=I0 _ rfl;have ci:=PySem.F.called_set.init.lookup;have cg:=PySem.F.called_set.init.bind (.ref s.heap.objs.size)
            repeat (any_goals (first | assumption | wp_step))
            refine Mx (Kj (R:=Sl (λx s₂=>x=.none/\P (.ref s.heap.objs.size) s₂) E) PySem.F.called_set.init.plain PySem.F.entry_set_init (check_set_init hT ?_)) λbQ s₂ aI=>?_
            ·wp_walk
             exact⟨rfl,h⟩
            ·cases bQ with
             |error e=>exact aI
             |ok bJ =>
              cases bJ with
              |ret x =>
               obtain⟨rfl,hq⟩:=aI
               repeat (any_goals (first | assumption | wp_step))
              |_=>exact aI.elim
           |_=>exact hr.elim
         intro σ s f ws hf aa i r;subst hf;subst aa;have ok:je #[] (.fresh 0 0 (!dF W.w)) []:=by
          refine⟨λe he=>(by simp at he),.refl _,N5,rfl,?_,.inl rfl⟩;cases hb:dF W.w
          ·exact .inr rfl
          ·exact .inl rfl
         have x:=eS (X:=dY) (b:=s.heap.objs.size) (h':=s.heap.push (sD (!dF W.w))) (k:=s.toks) (o:=.set []) i r (IQ _) (λc y e=>IS _ e) (by rw[I7];exact I8 _) (IQ _)
          (λZ=>⟨_,0,_,I0 _ rfl,ok⟩) (λZ Y U q=>O.noConfusion q)
         exact bw ⟨_,_,x,.r st.length,⟨by rw[IL];exact Jg _,congrArg Jy (if_pos rfl).symm⟩,h⟩
        exact aW
       |cons=>exact h
      |_=>exact h
     exact aF
    |bm b j =>
     have aG:b5 A (.bm b j) vs st Q:=by
      cases b with
      |dget=>cases vs with
       |nil=>exact h
       |cons k l=>cases l with
        |nil=>exact h
        |cons u l=>cases l with
         |nil =>
          have bE {K:Type} [DecidableEq K] {knd:KeyKind W.prog W.w K} {mk:List (K×V)->O} {aL:List (K×V)} {k:K} {kv v dv:V} (D:gX knd mk) (e:st[j]?=IK (mk aL)) (hk:nV knd kv k) (hg:(cR aL k).getD dv=v) (h:Q v st):b5 A (.bm .dget j) [kv,dv] st Q:=by
           have be:LN "dict.get"=IK (ud "dict.get"):=by kernel_rfl
           have aB:Mq (.type "dict") (.type "module")=pure false:=by rw[J6];kernel_rfl
           have bj (a:Addr) (k v:Value):M0 "dict.get" {ud "dict.get" with full:=s!"{Bind.lastOf "dict"}.{Bind.lastOf "dict.get"}"} ⟨[.ref a,k,v],[]⟩=pure ():=by kernel_rfl
           intro σ s f ws hf aa i r;obtain⟨b,rfl,_,hb,hj⟩:=hf;obtain⟨y,H,rfl,hy,hc⟩:=jr aa;obtain⟨o,ws,ho,hd,hr⟩:=D.to _ _ _ _ _ (r.at_ j _ e);have x:=cH (X:=dY) i r (I8 s.toks);have bK:=nh hd;have bx:TJ "dict.get"=true:=by decide +kernel
           have bB:Manifest.varargsMethods.contains "dict.get"=false:=by decide +kernel
           have aJ:OI "dict.get"=IK .method:=by decide +kernel
           refine jo be aJ bB aB (bj _ _ _) bx Qd hb ho bK.1 (λc q=>by rw[q] at bK;exact IW (bK.2.2:false=true)) ?_;refine RA knd _ (hk _ _ _ _ hy) (jQ T r hj) H A (Sl _ _) s ⟨_,(Heap.dictOf_iff.mpr ⟨o,ho,hd⟩:s.heap.DictOf knd (σ.a j) ws).mapOf,σ,st,x,v,?_,h⟩;have q:=RK.get (k:=k) hr;cases hq:cR aL k with
           |none=>have hg:=hq▸hg;rw[q.2 hq];exact hg▸hc.step r x
           |some u =>
            rw[hq] at hg;obtain⟨w,hw,hv⟩:=q.1 u hq;refine(hw).symm▸?_;exact hg▸hv.step r x
          exact ly h λD e hk q=>bE D e hk rfl q
         |cons=>exact h
      |shas=>cases vs with
       |nil=>exact h
       |cons k l=>cases l with
        |nil=>cases k with
         |s x t =>
          have bh {l k} (e:st[j]?=IK (.set l)) (hz:l.length<scanBound) (h:Q (.b (decide (k∈l))) st):b5 A (.bm .shas j) [.s k t] st Q:=by
           have bf:LN "set.__contains__"=IK (ud "set.__contains__"):=by kernel_rfl
           have aM:Mq (.type "set") (.type "module")=pure false:=by rw[J6];kernel_rfl
           have bk (a:Addr) (k:Value):M0 "set.__contains__" {ud "set.__contains__" with full:=s!"{Bind.lastOf "set"}.{Bind.lastOf "set.__contains__"}"} ⟨[.ref a,k],[]⟩=pure ():=by kernel_rfl
           intro σ s f ws hf aa i r;obtain⟨b,rfl,_,hb,hj⟩:=hf;obtain⟨y,rfl,u,rfl,_⟩:=fK aa;obtain⟨es,ep,t,ho,d⟩:=r.at_ j _ e;have ax:=QH W.prog W.w k u;have bz:TJ "set.__contains__"=true:=by decide +kernel
           have bC:Manifest.varargsMethods.contains "set.__contains__"=false:=by decide +kernel
           have aK:OI "set.__contains__"=IK .method:=by decide +kernel
           refine jo bf aK bC aM (bk _ _) bz entry_set_contains hb ho rfl (λc q=>by cases q) ?_;delta Builtin.«frozenset.__contains__» N2;dsimp only[O9]
           repeat rw[bind_assoc]
           refine II (IP ?_);refine II (IP ?_);refine II (wpAny_tryCatch (I9 (II ((strKind W.prog W.w).pyHash ax ?_))));refine II (wpAny_setFind_of (s:={s with toks:=s.toks+1}) ax rfl (d.AN ho hz) λb hb=>IP ?_);show Jd _ _ (ret (Value.bool b.isSome)) _ _ _;refine(hb).symm▸?_;exact IP ⟨_,_,cH i r (I8 _),.b _,rfl,h⟩
          exact cP h (λl e h=>bh (jO @AR e) h.1 h.2) id
         |_=>exact h
        |cons=>exact h
      |_=>exact h
     exact aG
    |_=>exact h
   have ae {f X} (h:uW f X):Callee f/\X:=by
    cases f with
    |g b=>exact⟨.g b,h⟩
    |bm b j=>exact de h (λhb h=>⟨.bm b j hb,h⟩) Ow
    |_=>exact h
   have aj {vs X} (h:CO vs X):vs.length<=sizeLine/\X:=de h (λe h=>⟨IT (of_decide_eq_true e) (by decide),h⟩) id;cases k with
   |const c=>intro h;cases c with
    |int i =>
     have bF {k pos} (h:Q (.i i) st):c8 A F (.Constant (.int i) k pos) lc st Q:=λZ Y p=>wpAny_Constant_int ⟨_,_,p.tk,.i i,⟨_,rfl⟩,h⟩;exact bF h
    |str x=>exact ti h
    |none =>
     have bo {k pos} (h:Q .n st):c8 A F (.Constant .none k pos) lc st Q:=λZ Y p=>wpAny_Constant_none ⟨_,_,p.refl,.n,rfl,h⟩;exact bo h
    |bool b =>
     have bl {k pos} (h:Q (.b b) st):c8 A F (.Constant (.bool b) k pos) lc st Q:=λZ Y p=>wpAny_Constant_bool ⟨_,_,p.refl,.b b,rfl,h⟩;exact bl h
    |float x =>
     have aY {k pos} (h:Q (.f x) st):c8 A F (.Constant (.float x) k pos) lc st Q:=λZ Y p=>wpAny_Constant_float ⟨_,_,p.tk,.f x,⟨_,rfl⟩,h⟩;exact aY h
    |_=>exact h
   |name x=>exact λh=>sR G h
   |bin a op b=>exact λh=>nf ((R.E h).mono λx J h=>(R.E h).mono λy st₂ h=>tK h)
   |cmp a op b p hm =>
    have aw {l r pos} (hm:O6 op r=false) (h:c8 A F l lc st λa J=>c8 A F r lc J λb st₂=>di A (J1 op) a b st₂ Q):c8 A F (.Compare l [op] [r] pos) lc st Q :=
     λσ s p=>wpAny_Compare1 (b0 (h σ s p) λu s₁ ac J a M ha ay=>b0 (ay ac s₁ (p.step M)) λw s₂ bD st₂ b ag hb ah=>fi (M.trans ag) (ah bD s₂ u w (ha.step M.rel ag) hb ag.inv ag.rel)) hm
    exact λh=>aw hm ((R.E h).mono λx J h=>(R.E h).mono λy st₂ h=>nr h)
   |ife t a b =>
    have aZ {test body orelse pos} (h:lP A F test lc st λb J=>Br b (c8 A F body lc J Q) (c8 A F orelse lc J Q)):c8 A F (.IfExp test body orelse pos) lc st Q :=
     λσ s p=>wpAny_IfExp (eA (h σ s p) λb s₁ ac J M bS=>by
      cases b with
      |true=>exact fi M (bS.1 rfl ac s₁ (p.step M))
      |false=>exact fi M (bS.2 rfl ac s₁ (p.step M)))
    exact λh=>aZ ((R.T h).mono λc J h=>⟨λq=>R.E (h.t q),λq=>R.E (h.f q)⟩)
   |tup es k p hp =>
    have ba {pos} (h:fL A F es lc st λvs J=>vs.length<=sizeLine/\Q (.t vs) J):c8 A F (.Tuple es k pos) lc st Q:=by
     intro σ s p;refine wpAny_Tuple ?_;refine(da pos F.env hp).symm▸?_;refine iA (h σ s p) λws s₁ ac J vs M aa ⟨hz,q⟩=>⟨by rw[aa.len];exact hz,?_⟩
     have y:=fg (X:=dY) (h':=s₁.heap.push (Kd.tup.obj ws.toArray 0)) (k:=s₁.toks) M.inv M.rel (IQ _) (by rw[I7];exact Jg _) (λc y e=>IS _ e) (IQ _);exact⟨_,_,M.trans y,.t vs,⟨_,ws.toArray,0,rfl,.inr rfl,I0 _ rfl,by rw[KN,aa.len];exact hz,aa.step M.rel y⟩,q⟩
    exact λh=>ba ((R.Es h).mono λvs J h=>aj h)
   |lst es p hp =>
    have bn {pos} (h:fL A F es lc st λvs J=>vs.length<=sizeLine/\Q (.r J.length) (J++[.list vs])):c8 A F (.List es pos) lc st Q:=by
     intro σ s p;refine wpAny_List ?_;refine(da pos F.env hp).symm▸?_;refine iA (h σ s p) λws s₁ ac J vs M aa ⟨hz,q⟩=>⟨by rw[aa.len];exact hz,?_⟩
     have y:=eS (X:=dY) (h':=s₁.heap.push (Kd.lst.obj ws.toArray 0)) (k:=s₁.toks) (o:=.list vs) M.inv M.rel (IQ _) (λc y e=>IS _ e) (by rw[I7];exact I8 _) (IQ _)
      (λx=>⟨ws.toArray,0,I0 _ rfl,by rw[KN,aa.len];exact hz,aa.mono x M.rel.apart⟩) (by intro _ _ _ q;cases q)
     exact⟨_,_,M.trans y,.r J.length,⟨by rw[IL];exact Jg _,congrArg Jy (if_pos rfl).symm⟩,q⟩
    exact λh=>bn ((R.Es h).mono λvs J h=>aj h)
   |sub a k p hp=>exact λh=>CR hp ((R.E h).mono λx J h=>(R.E h).mono λy st₂ h=>tc h)
   |slc a l u s q p =>
    have af {st} (R:wy A F r) {e P} (h:uu r e lc st P):lE A F e lc st P:=by
     cases e with
     |none=>exact h
     |some e=>exact R.E h
    have aC {st o l u k} (h:Dw A o l u k st Q):BP A o l u k st Q:=by
     have aR {A Q c vs dep l u k} (la:LstAt c vs dep) (hd:dep st) (hz:vs.length<=sizeLine) (hk:(k != IK 0)=true) (h:Q (.r st.length) (st++[.list (B5 vs l u k)])):BP A c l u k st Q:=by
      have ak (p:Option (Int×PY)):IsPart (P9 p) (p.map (·.1)):=by
       cases p with
       |none=>exact .none
       |some p=>exact .int p.1 p.2
      rintro σ s w pl pu pk rfl rfl rfl hv i r a ⟨o,ho,hc,bT⟩;obtain⟨b,items,m,rfl,hb,hi⟩:=la σ st s w hv hd r;have hl:=hi.len;have hl:=I3▸hl;have bP:s.heap.IsList b items:=⟨_,hb,rfl,m,rfl⟩
      have e:(T6 items (pl.map (·.1)) (pu.map (·.1)) (pk.map (·.1))).toList=(Pj (MT (pl.map (·.1)) (pu.map (·.1)) (pk.map (·.1)) vs.length).1 (MT (pl.map (·.1)) (pu.map (·.1)) (pk.map (·.1)) vs.length).2.1 (MT (pl.map (·.1)) (pu.map (·.1)) (pk.map (·.1)) vs.length).2.2).filterMap (items[·]?):=by
       unfold T6;exact(hl).symm▸rfl
      refine⟨"list",_,list_getitem_lookup,bP.typeIs,wpAny_getItem_list_slice (lo:=pl.map (·.1)) (hi:=pu.map (·.1)) (st:=pk.map (·.1)) bP ⟨o,ho,hc,bT⟩ (ak pl) (ak pu) (ak pk) (by simpa using hk) ?_ (by refine(hl).symm▸?_;exact hz)⟩;refine xu (o:=.list (B5 vs (pl.map (·.1)) (pu.map (·.1)) (pk.map (·.1)))) (k:=s.toks) i r (λc y q=>IS _ q) (by refine(I7 ..).symm▸?_;exact I8 _) (IQ _) (λx=>⟨T6 items (pl.map (·.1)) (pu.map (·.1)) (pk.map (·.1)),0,I0 _ rfl,IT (slicePick_size_le items (pl.map (·.1)) (pu.map (·.1)) (pk.map (·.1))) (by refine(hl).symm▸?_;exact hz),?_⟩) (by intro _ _ _ q;cases q) h;rw[e];exact(qL hi _).mono x r.apart
     cases k with
     |some k=>exact h
     |none=>cases o with
      |s x t=>exact pJ h.1 rfl (IT (Txt.slice_le x l u) h.1) h.2
      |c d vs=>cases d with
       |lst=>exact aR cS trivial h.1 rfl h.2
       |_=>exact h
      |r j=>exact gV h λvs e h=>aR cY e h.1 rfl h.2
      |_=>exact h
    have bG {value lower upper step p pos} (h:c8 A F value lc st λo J=>lE A F lower lc J λl st₂=>lE A F upper lc st₂ λu aO=>lE A F step lc aO λk aP=>BP A o l u k aP Q):c8 A F (.Subscript value (.Slice lower upper step p) pos) lc st Q:=by
     have al {prog w A E s env value lower upper step p Q} (h:Jd (I6 prog w) A (eval value env) (λo s₁=>Jd (I6 prog w) A (eval (.Slice lower upper step p) env) (λi s₂=>E5 prog w A Q E o i s₂) E s₁) E s) :
       Jd (I6 prog w) A (eval (.Subscript value (.Slice lower upper step p) pos) env) Q E s:=by
      rw[eval_Subscript];refine II (I5 h (λo s₁ ay=>II (I9 (I5 ay (λi s₂ ah=>II (K4 ?_)) λZ Y x=>x))) λZ Y x=>x);obtain⟨T,id,hl,ty,ah⟩:=ah;have fin:∀t,Jd (I6 prog w) A (operate t (TN o i)) (λr bA=>Jd (I6 prog w) A (letTemporaryGo value o r >>= λZ=>pure r) Q E bA) E s₂:=λt =>
       wpAny_operating (I5 ah (λr bA az=>II (Sj (IP az))) λZ Y x=>x)
      refine II ?_;refine(getitemInPython_of_ne ty.not_modules).symm▸?_;refine II (Ld ty hl ?_);cases step <;> exact IP (II (fin _))
     intro σ s pr;have ai {st e P σ s} (h:lE A F e lc st P) (p:Pre F σ lc st s):Wp A (evalPart e F.env) (PP σ st s P) s:=by
      cases e with
      |none=>exact wpAny_evalPart_none ⟨σ,st,p.refl,none,rfl,h⟩
      |some e =>
       refine wpAny_evalPart_some (b0 (h σ s p) λw s₁ ac J v M hv q=>?_);obtain⟨i,rfl,q⟩:=uP q;obtain⟨t,rfl⟩:=hv;exact⟨ac,J,M,IK (i,t),rfl,q⟩
     refine al (b0 (h σ s pr) λw s₁ ac J o M hv ay=>wpAny_Slice (I5 (ai ay (pr.step M)) (λvl s₂ ah=>?_) λZ Y e=>e));obtain⟨bD,st₂,ag,pl,rfl,ah⟩:=ah;refine I5 (ai ah (pr.step (M.trans ag))) (λvu bA az=>?_) λZ Y e=>e;obtain⟨cb,aO,aS,pu,rfl,az⟩:=az;refine I5 (ai az (pr.step ((M.trans ag).trans aS))) (λvk bR bu=>?_) λZ Y e=>e;obtain⟨bM,aP,aT,pk,rfl,bu⟩:=bu;have aU:=d6 (X:=dY) (o:={cls:=.type "slice",data:=.fields #[P9 pl,P9 pu,P9 pk]}) aT.inv aT.rel;obtain⟨T,id,hl,ty,q⟩:=bu bM _ w pl pu pk rfl rfl rfl (((hv.step M.rel ag).step ag.rel aS).step aS.rel (aT.trans aU)) aU.inv aU.rel bR.heap.objs.size ⟨_,I0 _ rfl,rfl,rfl⟩;exact⟨T,id,hl,ty,fi ((M.trans ag).trans (aS.trans (aT.trans aU))) q⟩
    exact λh=>bG ((R.E h).mono λx J h=>(af R h).mono λl st₂ h=>(af R h).mono λu aO h=>(af R h).mono λk aP h=>aC h)
   |attr o x p hb=>exact λh=>Ag hb ((R.E h).mono λv J h=>am C h)
   |call f p es pos hp=>exact λh=>Af hp ((R.E h).mono λfv J h=>⟨(ae h).1,(R.Es (ae h).2).mono λvs st₂ h=>au G.T h⟩)
   |meth o x ap es pos hp hb hf hl =>
    have bv (C:Cl cl) {a st m} (h:Ed cl a x st=IK m):wz a x st m:=by
     cases a with
     |s y t=>exact sT h rfl
     |c k vs=>cases k with
      |lst=>exact sT h rfl
       |_=>exact nn h
     |r j =>
      have bH (C:Cl cl) (h:HO cl x st j (oP pI st j)=IK m):wz (.r j) x st m:=by
       cases e:oP pI st j with
       |none =>
        have h:=e▸h;obtain⟨T,h1,h2⟩:=Option.bind_eq_some_iff.mp h;exact sT h2 h1
       |some p =>
        rw[e] at h;obtain⟨c,h1,h⟩:=Option.bind_eq_some_iff.mp h;obtain⟨l,h2,h⟩:=Option.bind_eq_some_iff.mp h;cases e3:l.lookup x with
        |some Z=>rw[e3] at h;exact nn h
        |none =>
         obtain⟨f,h7,h8⟩:=Ln.mp (e3▸h);exact h8▸.im j p.1 f rfl ⟨p.2,l,c,f,C _ _ h1,jO (f:=λp=>.inst p.1 p.2) @AU e,jO @AS h2,h7,e3,rfl⟩
      exact bH C h
     |_=>exact nn h
    exact λh=>yw hb hp hf hl ((R.E h).mono λa J h=>cP h (λm e h=>⟨m,bv C e,(R.Es h).mono λvs st₂ h=>by
     have bd {A st Q} (T:cB) {vs m} (h:HN A a vs st Q m):HV A a vs st Q m:=by
      cases m with
      |im fa=>exact h
      |bi m =>
       have bb:MethW A m.id a vs st Q:=by
        cases a with
        |r j=>cases m with
         |append=>cases vs with
          |nil=>exact h
          |cons v l=>cases l with
           |nil=>exact gV h λl e h=>iI T e h.1 h.2
           |cons=>exact h
         |get=>cases vs with
          |nil=>exact h
          |cons k l=>cases l with
           |nil=>exact h
           |cons u l=>cases l with
            |nil =>
             have aX {K:Type} [DecidableEq K] {knd:KeyKind W.prog W.w K} {mk:List (K×V)->O} {aL:List (K×V)} {k:K} {kv v dv:V} (D:gX knd mk) (e:st[j]?=IK (mk aL)) (hk:nV knd kv k) (hg:(cR aL k).getD dv=v) (h:Q v st):MethW A "dict.get" (.r j) [kv,dv] st Q:=by
              intro σ s f ws hf aa i r;subst hf;obtain⟨x,y,H,rfl,⟨hj,rfl⟩,hb,hc⟩:=yY aa;obtain⟨o,ws,ho,hd,hr⟩:=D.to _ _ _ _ _ (r.at_ j _ e);have hD:s.heap.DictOf knd (σ.a j) ws:=Heap.dictOf_iff.mpr ⟨o,ho,hd⟩;have x:=cH (X:=dY) i r (I8 s.toks);refine Ob Qo hD.typeIs Qd (PySem.F.args_dict_get_3 _ _ _) (RA knd _ (hk _ _ _ _ hb) (jQ T r hj) H) ⟨_,hD.mapOf,σ,st,x,v,?_,h⟩;have q:=RK.get (k:=k) hr;cases hq:cR aL k with
              |none=>have hg:=hq▸hg;refine(q.2 hq ..).symm▸?_;exact hg▸hc.step r x
              |some u =>
               rw[hq] at hg;obtain⟨w,hw,hv⟩:=q.1 u hq;refine(hw).symm▸?_;exact hg▸hv.step r x
             exact ly h λD e hk q=>aX D e hk rfl q
            |cons=>exact h
         |add=>cases vs with
          |nil=>exact h
          |cons k l=>cases l with
           |nil=>cases k with
            |s x t=>exact cP h (λl e h=>by
              refine IJ λzz=>?_;obtain⟨o,h1,h2⟩:=uw e;refine zz ?_;have:=AR h2;subst this;have aV {A st Q j l k t} (T:cB) (e:st[j]?=IK (.set l)) (hz:l.length+1<scanBound) (h:Q .n (st.set j (.set (if k∈l then l else l++[k])))):MethW A "set.add" (.r j) [.s k t] st Q:=by
               have bg {A s E P a es ep t x} (ho:s.heap.get? a=IK (cX es ep t)) (d:je es t l) (hx:(strKind W.prog W.w).is k x=true) (hz:l.length+1<scanBound) (h : ∀b h' es' ao t',JW a s.heap h'->h'.get? a=IK (cX es' ao t')->je es' t' (if k∈l then l else l++[k])->P b {s with heap:=h'}):Jd (I6 W.prog W.w) A (setAddHashed a x ((strKind W.prog W.w).hash k)) P E s:=by
                have aq {l R ab t2 wd} (ho:s.heap.get? a=IK (cX es ep t)) (d:wA ab l) (hb:ab.size<scanBound) (hf:t2.fits ab.size=true) (hl:dF W.w=true∨t2.led=true) (hp:t2.plain=false) (h:∀h' es' ao t',JW a s.heap h'->h'.get? a=IK (cX es' ao t')->je es' t' l->R (IK true) {s with heap:=h'}):Jd (I6 W.prog W.w) A (do
                    storeSet a ab t2
                    if(!wd&&t2.tooFull)=true then do
                      (match (OG t2 ab (Lx ab.size)).2.2 with | true=>rule "set.scan.the-table-gave-way" | false=>pure ())
                      storeSet a (OG t2 ab (Lx ab.size)).1 (OG t2 ab (Lx ab.size)).2.1
                      pure (IK true)
                     else pure (IK true)) R E s:=by
                 have aQ {es es' ep t t'} {h:Heap} (ho:h.get? a=IK (cX es ep t)):(h.update a (UU es' t')).get? a=IK (cX es' (ep+1) t'):=by
                  have e:=Jv (UU es' t') ho (by refine(putSet_of es' t' (show(cX es ep t).data=.set es ep t from rfl)).symm▸?_;rfl);rw[putSet_of es' t' (show(cX es ep t).data=.set es ep t from rfl)] at e;exact e
                 refine II (Tz ho rfl ?_ (PJ hb));have bL:=aQ (es':=ab) (t':=t2) ho;refine Ui (λZ=>?_) λZ=>IP (h _ ab _ t2 (Jx ..) bL ⟨d.els,d.perm,d.nodup,hf,hl,.inr hp⟩);have p2:=relayAll_perm t2 ab (Lx ab.size);have f2:=relayAll_fits t2 ab (Lx ab.size);have l2:=pO t2 ab (Lx ab.size);generalize OG t2 ab (Lx ab.size)=R at p2 f2 l2 ⊢;refine II (rG _ (II (Tz bL rfl (IP ?_) (PJ (((I3 (xs:=R.1)).symm.trans (p2.length_eq.trans I3):R.1.size=ab.size)▸hb)))));exact h _ R.1 _ R.2.1 ((Jx ..).trans (Jx ..)) (aQ bL) ⟨d.els.perm p2,(p2.map _).trans d.perm,d.nodup,f2,hl.imp id λq=>l2.1.trans q,.inr (l2.2 hp)⟩
                have bN:=jg hx;refine I9 (II (KS ho rfl d.fits ?_));dsimp only;refine(byScan_of bN (by rw[d.size];exact b6 9 12 hz) d.els).symm▸?_;refine(if_pos rfl).symm▸?_;refine II (II (Li (II (wpAny_setScan_of hx ho rfl d.fits d.els ?_))));cases hr:Ts (λe=>(strKind W.prog W.w).is k e.2) es.toList with
                |some j =>
                 refine IJ λzz=>?_;obtain⟨hj,bX,_⟩:=List.findIdx?_eq_some_iff_getElem.mp hr;refine zz ?_;have hm:k∈l:=of_decide_eq_true ((d.mem k).mpr ⟨_,Lh hj,bX⟩);exact IP (IP (h false s.heap es ep t (Qe a s.heap) ho ((if_pos hm).symm▸d)))
                |none =>
                 have hm:k∉l:=λq=>by
                  obtain⟨e,he,hp⟩:=(d.mem k).mp (decide_eq_true q);exact IW ((List.findIdx?_eq_none_iff.mp hr e he).symm.trans hp)
                 dsimp only;have p1:=layNew_perm t es ((strKind W.prog W.w).hash k) x;have f1:=layNew_fits t es ((strKind W.prog W.w).hash k) x;have l1:=sW t es ((strKind W.prog W.w).hash k) x;generalize layNew t es ((strKind W.prog W.w).hash k) x=L at p1 f1 l1 ⊢;obtain⟨ab,t1,wd,cc⟩:=L;replace p1:=Ly▸p1;have D:=wA.new d hx hm p1;have hb:ab.size<scanBound:=by rw[D.size,IL];exact hz
                 have hl:dF W.w=true∨t1.led=true:=d.led.imp id λq=>l1.trans q;refine II (rG _ ?_);have R:∀h' es' ao t',JW a s.heap h'->h'.get? a=IK (cX es' ao t')->je es' t' (l++[k])->Jd (I6 W.prog W.w) A (pure true) P E {s with heap:=h'}:=λh' es' ao t' a b c=>IP (((if_neg hm)▸h) true h' es' ao t' a b c);refine Ui (λZ=>?_) λbZ=>?_
                 ·refine(hashByValue_scannable 8 bN).symm▸?_;have bY:plainKind x=false:=by
                   obtain⟨u,rfl⟩:=LQ hx
                   rfl
                  rw[bY];exact II (IP (aq (t2:={t1 with plain:=false}) ho D hb (MV.fits_plain_off f1) hl rfl R))
                 ·exact II (IP (aq ho D hb f1 hl (by simpa using bZ) R))
               intro σ s f ws hf aa i r;subst hf;obtain⟨x,y,rfl,⟨hj,rfl⟩,u,rfl,_⟩:=jr aa;obtain⟨es,ep,t,ho,d⟩:=r.at_ j _ e;have ax:=QH W.prog W.w k u;refine JG Qu (d.AN ho (R5 hz)).typeIs PySem.F.entry_set_add ?_ (PySem.F.args_set_add_2 _ _);delta Builtin.«set.add» N2;simp only[O9,bind_assoc];refine II (IP ?_);refine II (IP ?_);refine II (I9 (II ((strKind W.prog W.w).pyHash ax ?_)));refine bg (s:={s with toks:=s.toks+1}) ho d ax hz λb h' es' ao t' ca bW d'=>?_;exact IP ⟨_,rfl,_,_,eQ (o:=.set (if k∈l then l else l++[k])) T i r hj ca (I8 _) (λZ=>⟨es',ao,t',bW,d'⟩) (λZ Y U q=>O.noConfusion q),.n,rfl,h⟩
              exact aV T h1 h.1 h.2) id
            |_=>exact h
           |cons=>exact h
         |_=>exact h
        |_=>exact h
       exact bb
     exact bd G.T h⟩) Ow)
   |_=>exact id
  aD G C R (BL e) h
 aN h
 Es {es _ _ _} h:=by
  cases es with
  |nil=>exact args_nil h
  |cons e es=>exact args_cons ((R.E h).mono λv J h=>R.Es h)
 T h:=vi R h
 B {op es _ _ _ _} h:=by
  cases op with
  |And=>cases es with
   |nil=>exact all_nil ⟨λZ=>h,λq=>IW q⟩
   |cons e es=>exact all_cons ((R.T h).mono λb J h=>⟨λq=>R.B (h.t (by simpa using q)),λq=>⟨λH=>by rw[H] at q;exact IW q,h.f⟩⟩)
  |Or=>cases es with
   |nil=>exact all_nil ⟨λq=>IW q,λZ=>h⟩
   |cons e es=>exact all_cons ((R.T h).mono λb J h=>⟨λq=>R.B (h.f (eq_of_beq q)),λq=>⟨h.t,λH=>by rw[H] at q;exact IW q⟩⟩)
 S h:=vj G.T hA hi R h
 Ss {l _ _ _} h:=by
  cases l with
  |nil=>exact qk h
  |cons c l=>exact cD ((R.S h).mono λf ce J h=>by cases f with | next=>exact R.Ss h | _=>exact h)
 As h:=vn G.T hA C R h
 Av {l _ _ _} h:=by
  cases l with
  |nil=>exact h
  |cons x l=>exact(R.As h).mono λlc st h=>R.Av h
 Am {l _ _ _ _} h:=by
  cases l with
  |nil=>exact h
  |cons x l=>exact(R.As h).mono λlc st h=>R.Am h
theorem snd(G:Gl z)(C:Cl cl)(a:A.handled=none)(hi:MU F.env=false):∀n,wy A F (sm A F z cl n)
 |0=>⟨id,id,id,id,id,id,id,id,id⟩
 |n+1=>vm G C a hi (snd G C a hi n)
end
section
open PySem PySem.W PySem.Calls PyProof.Rows Builtin
noncomputable abbrev dz(nm q:Str)(C N:Addr)(a c d e f:Option Value):Obj :=
 {cls:=.type "type",data:=.cls {name:=nm,bases:=[.type "tuple"],mro:=[.ref C,.type "tuple",.type "object"],ns:=N,qualname:=q,hasDict:=false,slotNames:=[],subclasses:=[],abstract:=false,hasDel:=false},slots:=#[a,c,d,e,IK .none,f]}
section
variable {M:UY}{h:Heap}{nm:Str}{q:Str}{C:Addr}{N:Addr}{G:Option Value}{D:Option Value}{B:Option Value}{z:Option Value}{u:Option Value}{j:Str->Option Value}
mutual
theorem mh(a:h.get? C=IK (dz nm q C N G D B z u)):JQ M h (Sp (.ref C)) [.ref C,.type "tuple",.type "object"] :=
 ((Lw (part:=none) a).andThen .now).andThen .now
theorem lR(a:h.get? C=IK (dz nm q C N G D B z u)):JQ M h (LU (.ref C)) (.type "type"):=(Lw a).andThen .now
end
theorem AI(a:h.Ns N j)(name:Str):JQ M h (nsGet N name) (j name):=λA Q E s k q=>wpAny_nsGet (a.keeps k) q
theorem gv(e:h.get? C=IK (dz nm q C N G D B z u))(f:h.Ns N j){name:Str}{y:Option Value}(d:JE (.type "tuple") name=pure y):JQ M h (JE (.ref C) name) (match j name with | IK v=>IK v | none=>y):=by
 have a:Sp (.type "tuple")=pure [.type "tuple",.type "object"]:=by kernel_rfl
 have c:lookupAlong [.type "tuple",.type "object"] name=pure y:=by rw[U3,a] at d;exact d
 rw[U3];refine(mh e).andThen ?_;rw[lookupAlong_cons];refine(((Lw (part:=none) e).andThen .now).andThen (AI f name):JQ M h (classOwn (.ref C) name) (j name)).andThen ?_;cases g:j name with
 |some v=>exact .now
 |none=>dsimp only;rw[c];exact .now
theorem iu(a:h.get? C=IK (dz nm q C N G D B z u))(b:Value):JQ M h (Mq (.ref C) b) ([Jy C,.type "tuple",.type "object"].contains b):=by
 exact(mh a).andThen .now
variable {prog:Program}{w:K8}{A:Around}{E:Value->IY->Prop}{s:IY}
theorem wR:Mq (.type "type") (.type "type")=pure true:=by refine(J6 ..).symm▸?_;kernel_rfl
theorem ke{name expr p o T id mattr Q}(P:s.heap.get? C=IK (dz nm q C N G D B z u))(S:s.heap.Ns N j)(k:∃ms,s.heap.Ns Kb ms/\ms "thirdparty.any"=none)(hv:j name=IK (.ref p))(U:s.heap.get? p=IK o)(hT:o.cls=.type T)(hg:JE (.type T) "__get__"=pure (IK (.builtin id))){y}(hB:JE (.type "tuple") name=pure y)(hm:JE (.type "type") name=pure mattr)(H:∀a,mattr=IK a->KG a "__get__"=pure none)(f:heldUnderItsOwnName name (.ref p)=false)(hb:bareKinds.contains (.type T)=false)(h:Jd (I6 prog w) A.in1 (JX (.builtin id) [.ref p,.none,.ref C]) (λv s'=>Jd (I6 prog w) A (Qa v) Q E s') (λZ Y=>False) {s with toks:=s.toks+1}):Jd (I6 prog w) A (TP (.ref C) name expr) Q E s:=by
 have r {prog w A E s nm q C N G D B z u j name tk p o T id mattr Q} (P:s.heap.get? C=IK (dz nm q C N G D B z u)) (S:s.heap.Ns N j) (k:∃ms,s.heap.Ns Kb ms/\ms "thirdparty.any"=none) (hv:j name=IK (.ref p)) (U:s.heap.get? p=IK o) (hT:o.cls=.type T) (hg:JE (.type T) "__get__"=pure (IK (.builtin id))) {y} (hB:JE (.type "tuple") name=pure y) (hm:JE (.type "type") name=pure mattr) (H:∀a,mattr=IK a->KG a "__get__"=pure none) (f:heldUnderItsOwnName name (.ref p)=false) (hb:bareKinds.contains (.type T)=false) (h:Jd (I6 prog w) A (JX (.builtin id) [.ref p,.none,.ref C]) (λv s'=>Q (.done (.ret v)) s') E s):Jd (I6 prog w) A (Builtin.«type.__getattribute__» ⟨[.ref C,.str name tk],[]⟩) Q E s:=by
  have i {M h} (k:∃ms,h.Ns Kb ms/\ms "thirdparty.any"=none):JQ M h (MJ (.ref C)) none:=by
   refine IJ λzz=>?_;obtain⟨ms,h1,h2⟩:=k;refine zz ?_;have h3:=AI (M:=M) h1 "thirdparty.any";rw[h2] at h3;exact Ol (a:=false) (h3.andThen .now) (by show JQ M h (if(!false)=true then pure none else _) none;refine(if_pos (show(!false)=true from rfl)).symm▸?_;exact .now)
  obtain⟨R,g,d,t,os⟩:=s;dsimp only at P S k U;have X:=gv (M:=I6 prog w) P S hB;rw[hv] at X;dsimp only at X;have L4:JQ (I6 prog w) R (LU (.ref p)) (.type T):=(Lw U).andThen (by refine(hT)▸?_;exact .now);have L5:JQ (I6 prog w) R (KG (.ref p) "__get__") (IK (.builtin id)):=by
   refine L4.andThen ?_;rw[hg];exact .now
  refine II (IP (II ((i k:JQ (I6 prog w) R (MJ (.ref C)) none).at (II ((lR P:JQ (I6 prog w) R (LU (.ref C)) (.type "type")).at ?_)))));refine(hm).symm▸?_;refine II (IP ?_);have F:∀mg:Option Value,mg=none->Jd (I6 prog w) A (do
    if let IK a <-JE (.ref C) name then
     if heldUnderItsOwnName name a then
      anAnswerIsGiven
      return <-ret a
     let ta <-LU a
     if [.type "function",.type "method_descriptor",.type "wrapper_descriptor",.type "getset_descriptor",.type "member_descriptor"].contains ta then
      return <-ret a
     match <-KG a "__get__" with
     |some g=>return <-ret (<-Mh [a] (call g [a,.none,.ref C]))
     |none=>return <-ret (<-Qa a)
    match mattr,mg with
    |some a,IK g=>ret (<-Mh [a] (call g [a,.ref C,.type "type"]))
    |some a,none=>ret (<-Qa a)
    |none,Z =>
     rule "getattr.type.missing"
     raiseErrorStr "AttributeError" ((s!"type object '{← typeNameCut 100 (.ref C)}' has no attribute '":Str)++name++"'")) Q E ⟨R,g,d,t,os⟩:=by
   intro mg ab;refine II (X.at ?_);dsimp only;rw[f,if_neg (by decide)];refine II (L4.at ?_);have aa:([.type "function",.type "method_descriptor",.type "wrapper_descriptor",.type "getset_descriptor",.type "member_descriptor"]:List Value).contains (.type T)=false:=hb;rw[aa,if_neg (by decide)];refine II (L5.at ?_);exact II (I9 (I5 h (λv s' c=>IP c) λZ Y c=>c))
  cases mattr with
  |none=>exact II (IP (F none rfl))
  |some a =>
   dsimp only;rw[H a rfl];exact II (IP (F none rfl))
 have ht:JQ (I6 prog w) s.heap (LU (.ref C)) (.type "type"):=lR P;refine II (wpAny_mkText (I9 (II (ht _ _ _ _ (λZ Y e=>e) ?_))));have J:JE (.type "type") "__getattribute__"=pure (IK (.builtin "type.__getattribute__")):=by rw[Jz,Jh];kernel_rfl
 rw[J];refine II (IP ?_);dsimp only;rw[show(onTheHeap (PK "type")&&Oh "type.__getattribute__" == Oh "object.__getattribute__")=false from rfl,if_neg (by decide)];unfold getAttrByItsOwn;have x:hookBefore (.type "type")=pure none:=by kernel_rfl
 rw[x];refine II (IP (II (Ko (I9 ?_))));unfold callGetattribute;rw[show(expr&&onTheHeap (Oh "type.__getattribute__"))=false from Bool.and_false _,if_neg (by decide)];unfold boundAndCalled;rw[KF.slot_tga.bind];refine II (IP ?_);refine KD ?_;refine Kj KF.slot_tga.plain KF.entry_tga ?_;refine @check_slot (I6 prog w) _ _ {s with toks:=s.toks+1} "type.__getattribute__" "type" "__getattribute__" (.ref C) [.str name s.toks] [] _ (by decide +kernel) (by decide +kernel) (ht.andThen (La wR)) (KF.args_tga (.ref C) (.str name s.toks)) ?_;refine r (s:={s with toks:=s.toks+1}) P S k hv U hT hg hB hm H f hb ?_;exact I5 h (λv s' c=>c) λZ Y c=>c.elim
theorem pF(c:h.get? C=IK (dz nm q C N G D B z u)):JQ M h (Me (.ref C)) none:=by
 intro A Q E s k f;have a:=k _ _ c;obtain⟨e,g,d,t,os⟩:=s;dsimp only at a k;have i:JQ M e (Sp (.ref C)) [.ref C,.type "tuple",.type "object"]:=mh a;unfold Me
 repeat lk
 exact f
theorem t7(f:h.get? C=IK (dz nm q C N G D B z u)):JQ M h (NU (.ref C)) (.type "tuple"):=by
 have a:Slots.bestBase [.type "tuple"]=pure (.type "tuple"):=by first | rfl | kernel_rfl
 intro A Q E s k i;have c:=k _ _ f;obtain⟨e,g,d,t,os⟩:=s;dsimp only at c k;have j:JQ M e (Sp (.ref C)) [.ref C,.type "tuple",.type "object"]:=mh c;have o:JQ M e (Me (.ref C)) none:=pF c;have p:JQ M e (Me (.type "tuple")) (IK "tuple.__new__"):=La F.called_tuple.made;have r:JQ M e (Slots.bestBase [.type "tuple"]) (.type "tuple"):=La a;unfold NU
 repeat lk
 exact i
theorem mf:JE (.type "tuple") "__init__"=pure (IK (.builtin "object.__init__")):=by rw[Jz,Jh];kernel_rfl
variable {x:Addr}
theorem wV{p f dd fr a b c P}(J:s.heap.get? C=IK (dz nm q C N G D B z u))(R:s.heap.Ns N j)(U:∃ms,s.heap.Ns Kb ms/\ms "thirdparty.any"=none)(hi:j "__init__"=none)(hv:j "__new__"=IK (.ref p))(hp:s.heap.get? p=IK {cls:=.type "staticmethod",dict:=dd,data:=.fields (.ref f::fr).toArray})(h:Jd (I6 prog w) (A.under (.builtin "type.__call__" ⟨[.ref C,a,b,c],[]⟩)) (JX (.ref f) [.ref C,a,b,c]) (λv s'=>∃x o,v=.ref x/\s'.heap.get? x=IK o/\o.cls=.ref C/\s'.heap.get? C=IK (dz nm q C N G D B z u)/\s'.heap.Ns N j/\P (.ref x) s') E {s with toks:=s.toks+1}) :
  Jd (I6 prog w) A (JX (.ref C) [a,b,c]) P E s:=by
 have H:KG (.builtin "type.__new__") "__get__"=pure none:=by
  unfold KG;refine((show LU (.builtin "type.__new__")=pure (.type "builtin_function_or_method") from by show Su _=_;refine(OU).symm▸?_;kernel_rfl)).symm▸?_;show JE (.type "builtin_function_or_method") "__get__"=_;refine(Jz ..).symm▸?_;refine(Jh ..).symm▸?_;kernel_rfl
 have k:JE (.type "staticmethod") "__get__"=pure (IK (.builtin "staticmethod.__get__")):=by rw[Jz,Jh];kernel_rfl
 have r {A s x o P} (J:s.heap.get? C=IK (dz nm q C N G D B z u)) (R:s.heap.Ns N j) (hi:j "__init__"=none) (hx:s.heap.get? x=IK o) (ho:o.cls=.ref C) (h:P .none s) :
   Jd (I6 prog w) A (JX (.builtin "object.__init__") [.ref x,a,b,c]) P E s:=by
  obtain⟨hh,g,d,t,os⟩:=s;dsimp only at J R hx;have X:JQ (I6 prog w) hh (LU (.ref x)) (.ref C):=(Lw hx).andThen (by refine(ho)▸?_;exact .now);have t3:JQ (I6 prog w) hh (JE (.ref C) "__init__") (IK (.builtin "object.__init__")):=by
   have:=gv (M:=I6 prog w) J R mf;have this:=hi▸this;exact this
  have t4:JQ (I6 prog w) hh (Me (.ref C)) none:=pF J;have F (a b c d:Value):NI "object.__init__" ⟨[a,b,c,d],[]⟩:=by kernel_rfl
  refine KD (Kj oi_plain entry_oi (@check_slot (I6 prog w) _ _ _ "object.__init__" "object" "__init__" (.ref x) [a,b,c] [] _ oi_kind oi_split (X.andThen (iu J (.type "object")):JQ (I6 prog w) hh (Mn (.ref x) (.type "object")) true) (F (.ref x) a b c) ?_));unfold Builtin.«object.__init__»
  repeat lk
  exact h
 obtain⟨hh,g,d,t,os⟩:=s;dsimp only at J R U hp;have X:JQ (I6 prog w) hh (LU (.ref C)) (.type "type"):=lR J;have t3:JQ (I6 prog w) hh (KG (.ref C) "__call__") (IK (.builtin "type.__call__")):=by
  refine X.andThen ?_;refine(Ri).symm▸?_;exact .now
 refine KD (Mj ?_);refine nd_load J ?_;show Jd _ _ (callAny.viaDunder (.ref C) _) _ _ _;refine II (t3.at ?_);dsimp only;rw[tc_bind];refine II (IP (II (IP ?_)));refine IP (a:=Vg (.call (.builtin "type.__call__") ⟨[.ref C,a,b,c],[]⟩)) (And.intro rfl ?_);refine Rn (MZ _ (by decide +kernel)) UK (check_slot tc_kind tc_split (X.andThen (La wR):JQ (I6 prog w) hh (Mn (.ref C) (.type "type")) true) (tc_args _ _ _) ?_);unfold Builtin.«type.__call__»;dsimp only;refine(show(Jy C == PK "type")=false from rfl).symm▸?_;rw[if_neg (by decide)];refine II ((mh J:JQ (I6 prog w) hh (Sp (.ref C)) [.ref C,.type "tuple",.type "object"]).at ?_);dsimp only[List.isEmpty_cons];rw[if_neg (by decide)];refine II ((pF J:JQ (I6 prog w) hh (Me (.ref C)) none).at ?_);dsimp only;have Q:JE (.type "type") "__new__"=pure (IK (.builtin "type.__new__")):=by rw[Jz,Jh];kernel_rfl
 refine II (ke (s:=⟨hh,g,d,t,os⟩) (T:="staticmethod") (id:="staticmethod.__get__") (o:={cls:=.type "staticmethod",dict:=dd,data:=.fields (.ref f::fr).toArray}) J R U hv hp rfl k (y:=IK (.builtin "tuple.__new__")) ?_ Q (λa e=>by cases e;exact H) ?_ ?_ ?_)
 ·rw[Jz,Jh];kernel_rfl
 ·rfl
 ·decide
 have hX:T2 ([(p,{cls:=.type "staticmethod",dict:=dd,data:=.fields (.ref f::fr).toArray})]:Frag) hh:=by
  intro a' o' e;rw[Jn] at e;by_cases ea:a'=p
  ·subst ea;rw[beq_self_eq_true] at e;cases e;exact hp
  ·have:(a' == p)=false:=beq_eq_false_iff_ne.mpr ea;have e:=this▸e;cases e
 have S:recIn ([(p,{cls:=.type "staticmethod",dict:=dd,data:=.fields (.ref f::fr).toArray})]:Frag) p "staticmethod"=IK (.ref f::fr):=by
  unfold recIn;rw[Jn,beq_self_eq_true];dsimp only;exact(if_pos (by decide))
 refine KD (sm_get (s:=⟨hh,g,d,t+1,os⟩) hX S (handed_on rfl ?_));refine II (I9 (I5 h (λv s' aa=>?_) λZ Y i=>i));obtain⟨x,o,e1,e2,e3,e4,e5,e6⟩:=aa;subst e1;have u1:JQ (I6 prog w) s'.heap (LU (.ref x)) (.ref C):=(Lw e2).andThen (by refine(e3)▸?_;exact .now);have u2:JQ (I6 prog w) s'.heap (Mn (.ref x) (.ref C)) true:=u1.andThen (by
  have:=iu (M:=I6 prog w) e4 (.ref C);rw[show([Jy C,.type "tuple",.type "object"].contains (.ref C))=true from by simp] at this;exact this)
 have u3:JQ (I6 prog w) s'.heap (KG (.ref x) "__init__") (IK (.builtin "object.__init__")):=by
  unfold KG;refine u1.andThen ?_;have:=gv (M:=I6 prog w) e4 e5 mf;have this:=hi▸this;exact this
 refine II (u2.here ?_);refine(show(!true)=false from rfl).symm▸?_;rw[if_neg (by decide)];refine II (I9 ?_);refine II (u3.here ?_);refine I9 ?_;rw[oi_bind];refine II (IP ?_);refine II (r e4 e5 hi e2 e3 (IP ?_));dsimp only;refine(show(Lp != Lp)=false from rfl).symm▸?_;rw[if_neg (by decide)];exact IP e6
theorem n5{M}(a:h.get? C=IK (dz nm q C N G D B z u)):JQ M h (isType (.ref C)) true:=by
 exact(Lw a).andThen .now
inductive TupAt(C N p f:Addr)(mN:Str->Option Value):Prop
 |mk (nm q:Str) (k0 k1 k2 k3 k5:Option Value) (dd:Option Addr) (fr:List Value) (cls:W.h₁.get? C=IK (dz nm q C N k0 k1 k2 k3 k5)) (ns:W.h₁.Ns N mN) (nsne:N≠Kb) (stat:∃ms,W.h₁.Ns Kb ms/\ms "thirdparty.any"=none)
   (init:mN "__init__"=none) (new:mN "__new__"=IK (.ref p)) (sm:W.h₁.get? p=IK {cls:=.type "staticmethod",dict:=dd,data:=.fields (.ref f::fr).toArray})
inductive CY(C N p f:Addr)(mN:Str->Option Value)(h:Heap):Prop
 |mk (nm q:Str) (k0 k1 k2 k3 k5:Option Value) (dd:Option Addr) (fr:List Value) (cls:h.get? C=IK (dz nm q C N k0 k1 k2 k3 k5)) (ns:h.Ns N mN) (stat:∃ms,h.Ns Kb ms/\ms "thirdparty.any"=none)
   (init:mN "__init__"=none) (new:mN "__new__"=IK (.ref p)) (sm:h.get? p=IK {cls:=.type "staticmethod",dict:=dd,data:=.fields (.ref f::fr).toArray})
variable {F:dH}{lc:Lc}{st:St}{Q:V->St->Prop}{p:Addr}{f:Addr}
theorem TupAt.now(c:TupAt C N p f j)(i:Inv s):CY C N p f j s.heap:=by
 refine IJ λk=>?_;obtain⟨nm,q,G,D,B,z,u,g,fr,d,ns,ne,⟨ms,h,e⟩,a,new,sm⟩:=c;refine k ?_;exact⟨nm,q,G,D,B,z,u,g,fr,i.old.get_of_cls d λq=>Jo q,jP i.old ns ne,⟨ms,h.at i.stat,e⟩,a,new,i.old.get_of_cls sm λq=>Jo q⟩
noncomputable abbrev V.m(C:Addr)(vs:List V):V:=.c (.cls C) vs
theorem oR(c:TupAt C N p f j){vs}(h:Q (.m C vs) st):b5 A (.v (.builtin "tuple.__new__")) [.v (.ref C),.t vs] st Q:=by
 have J {prog w A E s nm q G D B z u b Q} (Z:s.heap.get? C=IK (dz nm q C N G D B z u)) (h:Q () s):Jd (I6 prog w) A (NY "tuple.__new__" ⟨[.ref C,b],[]⟩) Q E s:=by
  obtain⟨Y,g,d,t,os⟩:=s;dsimp only at Z;delta NY;dsimp only;have S:splitId "tuple.__new__"=IK ("tuple","__new__"):=by decide +kernel
  have U:OI "tuple.__new__"=IK .builtinFn:=by decide +kernel
  rw[U,S];dsimp only;rw[if_pos (by decide)];refine II ((n5 Z:JQ (I6 prog w) Y (isType (.ref C)) true).at ?_);refine II ((show JQ (I6 prog w) Y (Mq (.ref C) (.type "tuple")) true from by have:=iu (M:=I6 prog w) Z (.type "tuple");rw[(show([Jy C,.type "tuple",.type "object"].contains (.type "tuple"))=true from by simp)] at this;exact this).at ?_);rw[if_neg (by decide)];refine II ((t7 Z:JQ (I6 prog w) Y (NU (.ref C)) (.type "tuple")).at ?_);refine II ((La F.called_tuple.made:JQ (I6 prog w) Y (Me (.type "tuple")) (IK "tuple.__new__")).at ?_);exact IP h
 have T {prog w A E s nm q C G D B z u j tt vs n P} (Z:s.heap.get? C=IK (dz nm q C N G D B z u)) (hn:s.heap.Ns N j) (hi:j "__init__"=none) (ht:s.heap.get? tt=IK {cls:=.type "tuple",data:=.seq vs n}) (hz:vs.size<=sizeLine) (h:∀h':Heap,(∀b o',s.heap.get? b=IK o'->h'.get? b=IK o')->s.heap.objs.size<=h'.objs.size->P (.done (.ret (.ref (h'.objs.size+1)))) {s with heap:=(h'.push {cls:=.type "dict",data:=.dict #[]}).push {cls:=.ref C,dict:=IK h'.objs.size,data:=.seq vs}}) :
   Jd (I6 prog w) A (Builtin.«tuple.__new__» ⟨[.ref C,.ref tt],[]⟩) P E s:=by
  obtain⟨Y,g,d,t,os⟩:=s;dsimp only at Z hn ht h;have h5:JQ (I6 prog w) Y (JE (.ref C) "__init__") (IK (.builtin "object.__init__")):=by
   have:=gv (M:=I6 prog w) Z hn mf;have this:=hi▸this;exact this
  have h6:JQ (I6 prog w) Y (Bind.madeHere "tuple.__new__" (.ref C)) ():=by
   refine(t7 Z:JQ (I6 prog w) Y (NU (.ref C)) (.type "tuple")).andThen ((La F.called_tuple.made:JQ (I6 prog w) Y (Me (.type "tuple")) (IK "tuple.__new__")).andThen ?_);show JQ _ _ (if((IK "tuple.__new__").map ME != IK (ME "tuple.__new__"))=true then _ else _) _;refine(show((IK "tuple.__new__").map ME != IK (ME "tuple.__new__"))=false from by simp).symm▸?_;rw[if_neg (by decide)];exact .now
  unfold Builtin.«tuple.__new__»;dsimp only;refine II ((n5 Z:JQ (I6 prog w) Y (isType (.ref C)) true).at ?_);refine II ((show JQ (I6 prog w) Y (Mq (.ref C) (.type "tuple")) true from by have:=iu (M:=I6 prog w) Z (.type "tuple");rw[(show([Jy C,.type "tuple",.type "object"].contains (.type "tuple"))=true from by simp)] at this;exact this).at ?_);rw[if_neg (by decide)];refine II (h6.at ?_);refine II (h5.at ?_);rw[if_pos (by rfl)];refine II (IP ?_);refine(show checkCount "tuple" 0 1 [Jy tt].length=pure () from by kernel_rfl).symm▸?_;refine II (IP ?_);refine(show(Jy C == PK "tuple")=false from rfl).symm▸?_;rw[if_neg (by decide)];refine II (cG (wpAny_collect_seq (hsz:=hz) tt (.inr rfl) (s:=⟨Y,g,d,t,os⟩) ht rfl rfl λh' hk ab=>?_));refine II (IP (II (Sk ?_)));have ae:((h'.push {cls:=.type "dict",data:=.dict #[]}).push {cls:=.ref C,dict:=IK h'.objs.size,data:=.seq vs}).get? C=IK (dz nm q C N G D B z u):=IS _ (IS _ (hk _ _ Z));have e1:(vs.toList.toArray)=vs:=by simp
  refine(e1).symm▸?_;refine II ?_;unfold newObj;dsimp only;rw[if_neg (by exact b8 19 4 hz)]
  try refine II (IP ?_)
  refine II (Sk ?_);refine II ?_;refine II (II (QD ae ?_));have hsz:(h'.push {cls:=.type "dict",data:=.dict #[]}).objs.size=h'.objs.size+1:=I7 ..;refine IP (IP (IP (IP ?_)));refine(hsz).symm▸?_;exact h h' hk ab
 have aa {s k items m σ} {h':Heap} (i:Inv s) (r:Rel σ st s) (hk:∀b o,s.heap.get? b=IK o->h'.get? b=IK o) (hz:s.heap.objs.size<=h'.objs.size) (hs:items.size<=sizeLine) (hl:k.wD=λn=>n) (hv:cW σ st.length s vs items.toList) (q:Q (.c k vs) st):PV σ st s Q (.ref h'.objs.size) {s with heap:=h'.push (k.obj items m)}:=by
  have x:=dQ (X:=dY) (k:=s.toks) i r hk hz (IQ _);have y:=fg (X:=dY) (b:=h'.objs.size) (h':=h'.push (k.obj items m)) (k:=s.toks) x.inv x.rel (IQ _) (by rw[I7];exact Jg _) (λc H hc=>IS _ hc) (IQ _);exact⟨_,_,x.trans y,.c k vs,⟨_,items,m,rfl,.inr rfl,I0 _ (by cases k <;> rfl),hs,by refine(hl).symm▸?_;exact(hv.step r x).step x.rel y⟩,q⟩
 intro σ s w ws hw af i r;subst hw;obtain⟨x,y,rfl,hx,a,items,m,e,hz,ho,hs,hv⟩:=jr af;subst hx;subst e;obtain⟨nm,q,G,D,B,z,u,dd,fr,cls,ns,_,ac,_⟩:=c.now i;have R:TJ "tuple.__new__"=true:=by decide +kernel
 refine KD (Kj R F.entry_tuple_new (J cls (T cls ns ac ho hs λh' hk ab=>?_)));have e1:(h'.push {cls:=.type "dict",data:=.dict #[]}).objs.size=h'.objs.size+1:=I7 ..;have H:=aa (k:=.cls C) (m:=h'.objs.size) (h':=h'.push {cls:=.type "dict",data:=.dict #[]}) i r (λb o q=>IS _ (hk b o q)) (IT ab (e1▸I8 _)) hs rfl hv h;rw[e1] at H;exact H
theorem uR{o args apos pos}(M:args.all cN=true){pl}(H:eval (.Call (.Attribute o "__new__" apos) args [] pos) F.env=(do
   let D <-eval o F.env
   OM apos.atName
   let (f,first) <-Mh [D] (getMethod D "__new__" pl)
   UM pos f first (backTo pos (QI args F.env)) (backToKw pos (keywordEach [] F.env)))) (h:c8 A F o lc st λv i=>v=.g .tuple/\fL A F args lc i λvs st₂=>b5 A (.v (.builtin "tuple.__new__")) vs st₂ Q):c8 A F (.Call (.Attribute o "__new__" apos) args [] pos) lc st Q:=by
 have c {s prog w E P} (h:P (.builtin "tuple.__new__",[]) {s with toks:=s.toks+1}):Jd (I6 prog w) A (getMethod (.type "tuple") "__new__" pl) P E s:=by
  have X:T2 [] s.heap:=λa o e=>by cases e
  have B:JQ (I6 prog w) s.heap (LU (.type "tuple")) (.type "type"):=La (by kernel_rfl);have C:findIn [] (.type "type") "__getattribute__"=IK (IK (.builtin "type.__getattribute__")):=type_tga;refine II (II (B.here ((looks_findIn X C).here ?_)));dsimp only;refine(if_pos canon_tga).symm▸?_;refine II (I5 (Q:=λv=>P (v,[])) (E:=E) ?_ (λZ Y z=>IP z) λZ Y z=>z);have d:findCls [] (.type "tuple") (.type "type") "__new__"=IK (.val (.builtin "tuple.__new__")):=by kernel_rfl
  refine cls_open X (La (show MJ (.type "tuple")=pure none from by unfold MJ;dsimp only;refine(show Manifest.isStub "tuple"=false from by decide +kernel).symm▸?_;rfl):JQ (I6 prog w) s.heap (MJ (.type "tuple")) none) B C (looks_hook X (r:=none) (by rfl)) (by show subIn [] _ _=_;rfl) d
   (IP (by show Jd _ _ (Qa (.builtin "tuple.__new__")) _ _ _;rw[handedOut_of (by rfl)];exact IP h))
 intro σ s G;refine methodCall_KW (pl:=pl) (b0 (h σ s G) λw s₁ y i v j R u=>?_) H;obtain⟨e,p⟩:=u;subst e;subst R;refine c ?_;refine(da pos F.env M).symm▸?_;have k:=j.trans (cH j.inv j.rel (I8 _));exact Mf (any_false _ _) (eB p (G.step k) λws s' σ' S vs x J q=>fi (k.trans x) (q σ' s' _ ws rfl J x.inv x.rel))
theorem qC:JE (.type "tuple") "__iter__"=pure (IK (.builtin "tuple.__iter__")):=PySem.F.slot_tuple_iter.lookup
variable {J:Addr}{o:Obj}{items:Array Value}{n:Nat}{i:Nat}
variable {H:AHeap}
theorem sr(c:TupAt C N p f j)(H:j "__iter__"=none){a b d}(hA:A.handled=none):Ar A (.m C [a,b,d]) 3 st [a,b,d]:=by
 have y {prog w E s x J o items n i v P} (H:s.heap.IsTupleIter J x i) (hx:s.heap.get? x=IK o) (hd:o.data=.seq items n) (hv:items[i]?=IK v) (hP:∀h',h'.IsTupleIter J x (i+1)->JW J s.heap h'->P (IK v) {s with heap:=h'}):Jd (I6 prog w) A (Lj (.ref J)) P E s:=by
  refine IJ λzz=>?_;obtain⟨oi,S,ah,Q⟩:=id H;refine zz ?_;refine II (Ko (JH (name:=IM "__next__") H.typeIs K5 (JG K5 H.typeIs Oj ?_ (Oc _))));show Jd _ _ (Qh (.ref J) 0 >>= _) _ _ s;refine II (Ks S Q (x:=.ref x) rfl ?_);show Jd _ _ (if false=true then _ else _) _ _ s;refine(if_neg Kw).symm▸?_;refine II (Ks S Q (x:=.int i 0) rfl ?_);refine II (JS hx hd ?_);dsimp only[JD];rw[hv];refine II (K7 S Q (by simp) (IP ⟨v,rfl,IP (hP _ ⟨_,Jv _ S (N0 (M3 Q _)),(R4 ..).trans ah,?_⟩ (Jx ..))⟩));rw[M3 Q];simp [Lb]
 have aa {prog w E s x J o items n i P} (H:s.heap.IsTupleIter J x i) (hx:s.heap.get? x=IK o) (hd:o.data=.seq items n) (hv:items[i]?=none) (hP:∀h',MC J s.heap h'->P none {s with heap:=h'}):Jd (I6 prog w) A (Lj (.ref J)) P E s:=by
  refine IJ λzz=>?_;obtain⟨oi,S,ah,Q⟩:=id H;refine zz ?_;refine II (Ko (JH (name:=IM "__next__") H.typeIs K5 (JG K5 H.typeIs Oj ?_ (Oc _))));show Jd _ _ (Qh (.ref J) 0 >>= _) _ _ s;refine II (Ks S Q (x:=.ref x) rfl ?_);show Jd _ _ (if false=true then _ else _) _ _ s;refine(if_neg Kw).symm▸?_;refine II (Ks S Q (x:=.int i 0) rfl ?_);refine II (JS hx hd ?_);dsimp only[JD];rw[hv];refine II (Li (II (K7 S Q (by simp) ?_)));refine II ?_;refine II (JN ?_ (by size_fits));refine II (m:=KR _ _) (Mo (a:=Lp) (by first | rfl | (simp only[KR];rfl)) ?_);refine JN ?_ (by size_fits);refine II (NF ?_);refine(show A.in1.handled=none from hA).symm▸?_;refine II (IP (OD ?_));refine II (Lu (T:="StopIteration") (b:=true) ⟨_,I0 _ rfl,rfl⟩ Mw ?_);exact IP (hP _ (((Jx ..).extBut.push _).push _))
 have U {prog w E s nm q x G D B z u o P} (hC:s.heap.get? C=IK (dz nm q C N G D B z u)) (hn:s.heap.Ns N j) (hi:j "__iter__"=none) (hx:s.heap.get? x=IK o) (ho:o.cls=.ref C) (hP:P (.ref s.heap.objs.size) {s with heap:=s.heap.push {cls:=.type "tuple_iterator",data:=.fields #[.ref x,.int 0 0]}}):Jd (I6 prog w) A (Mm (.ref x)) P E s:=by
  obtain⟨hh,g,d,t,os⟩:=s;dsimp only at hC hn hx hP;have t1:JQ (I6 prog w) hh (LU (.ref x)) (.ref C):=(Lw hx).andThen (by refine(ho)▸?_;exact .now);have t2:JQ (I6 prog w) hh (KG (.ref x) "__iter__") (IK (.builtin "tuple.__iter__")):=by
   refine t1.andThen ?_;have:=gv (M:=I6 prog w) hC hn qC;have this:=hi▸this;exact this
  have t3:JQ (I6 prog w) hh (Mn (.ref x) (.type "tuple")) true:=t1.andThen (by
   have:=iu (M:=I6 prog w) hC (.type "tuple");rw[show([Jy C,.type "tuple",.type "object"].contains (.type "tuple"))=true from by simp] at this;exact this)
  have t4:JQ (I6 prog w) hh (Sv (.builtin "tuple.__iter__") (.ref x)) (.builtin "tuple.__iter__",[.ref x]):=La (PySem.F.slot_tuple_iter.bind _);refine II (t2.at ?_);refine II (I9 ?_);refine II (II (t2.at ?_));dsimp only;rw[PySem.F.slot_tuple_iter.bind];have fin:Jd (I6 prog w) A (call (.builtin "tuple.__iter__") ([Jy x]++[])) (λv s'=>Jd (I6 prog w) A (do
    match <-KG v "__next__" with
    |none=>rule "iter.non-iterator";raiseError "TypeError" s!"iter() returned non-iterator of type '{← typeNameOf v}'"
    |some Z=>pure v) P E s') E ⟨hh,g,d,t,os⟩:=by
   refine KD (Kj PySem.F.slot_tuple_iter.plain PySem.F.entry_tuple_iter ?_);have R (a:Value):NI "tuple.__iter__" ⟨[a],[]⟩:=PySem.F.args_tuple_iter_1 a;refine @check_slot (I6 prog w) _ _ ⟨hh,g,d,t,os⟩ "tuple.__iter__" "tuple" "__iter__" (.ref x) [] [] _ (by decide +kernel) (by decide +kernel) t3 (R (.ref x)) ?_;show Jd _ _ (do ret (<-newFields "tuple_iterator" [.ref x,Lb 0])) _ _ _;refine II (JN (IP ?_));refine II (Ld (T:="tuple_iterator") ⟨_,I0 _ rfl,rfl⟩ K5.lookup ?_);exact IP hP
  refine II (nd_ask (IP ?_))
  split
  ·refine II (IP (IP ?_));refine II (I5 fin (λZ Y h=>IP h) λZ Y h=>h)
  ·refine IP ?_;refine II (I5 fin (λZ Y h=>IP h) λZ Y h=>h)
 intro σ s w ⟨x,items,m,e,hz,hg,hs,hv⟩ ap r;subst e;refine IJ λzz=>?_;obtain⟨w0,_,e0,h0,w1,_,e1,h1,w2,_,e2,h2,e3⟩:=id hv;refine zz ?_;subst e3 e2 e1;have ei:items=#[w0,w1,w2]:=by refine(MA (xs:=items))▸?_;exact(e0).symm▸rfl
 subst ei;obtain⟨nm,q,G,D,B,z,u,dd,fr,hC,hn,_⟩:=c.now ap;have ac:x≠s.heap.objs.size:=Jw (Ja hg);have l1:JQ (I6 W.prog W.w) s.heap (KG (.ref x) "__iter__") (IK (.builtin "tuple.__iter__")):=by
  refine((Lw hg).andThen .now).andThen ?_;have:=gv (M:=I6 W.prog W.w) hC hn qC;have this:=H▸this;exact this
 refine II ?_;refine II (l1.here (IP ?_));refine II (I9 (U hC hn H hg rfl ?_));have am:(s.heap.push {cls:=.type "tuple_iterator",data:=.fields #[.ref x,.int 0 0]}).get? x=IK _:=IS _ hg;have ai:(s.heap.push {cls:=.type "tuple_iterator",data:=.fields #[.ref x,.int 0 0]}).IsTupleIter s.heap.objs.size x 0:=⟨_,I0 _ rfl,rfl,rfl⟩
 refine II (I9 ?_);refine II (y (i:=0) ai am rfl (v:=w0) rfl λh1 aj ae=>?_);have an:=ae.extBut x _ ac am;refine II (I9 ?_);show Jd _ _ (Lj (.ref s.heap.objs.size) >>= _) _ _ _;refine II (y (i:=1) aj an rfl (v:=w1) rfl λh2 ak af=>?_);have ao:=af.extBut x _ ac an;refine II (I9 ?_);show Jd _ _ (Lj (.ref s.heap.objs.size) >>= _) _ _ _;refine II (y (i:=2) ak ao rfl (v:=w2) rfl λh3 al ag=>?_);have as:=ag.extBut x _ ac ao;refine II (I9 ?_);refine IP (IP (IP (IP ?_)));dsimp only[JA,NQ];rw[if_neg (by decide)];have g1:s.heap.objs.size<=h3.objs.size:=by
  rw[ag.1,af.1,ae.1,I7];exact I8 _
 refine II (I9 (cG (aa al as rfl rfl λh4 aq ar=>?_)));have x:=dQ (X:=dY) (k:=s.toks) ap r (λb ob hb=>by
  have ab:b≠s.heap.objs.size:=Jw (Ja hb);exact aq b ob ab (ag.extBut b ob ab (af.extBut b ob ab (ae.extBut b ob ab (IS _ hb))))) (IT g1 ar) (IQ _)
 exact IP ⟨hv.step r x,x⟩
end
end
noncomputable def kk(f:Value->Int)(xs:Array Ot)(i:Nat):Int:=match xs[i]? with
 |some p=>f p.1
 |none=>0
structure gi(f:Value->Int)(a₀:Array Ot)(st:KX):Prop where
 base:SBase a₀ st
 inj:(a₀.toList.map λp=>f p.1).Nodup
noncomputable def Up(f:Value->Int)(xs:Array Ot)(n:Nat):Prop:=∀i j,i<j->j<n->kk f xs i<kk f xs j
noncomputable def Down(f:Value->Int)(xs:Array Ot)(n:Nat):Prop:=∀i j,i<j->j<n->kk f xs j<kk f xs i
section
variable {f:Value->Int}{a₀:Array Ot}{st:KX}
theorem gi.size(h:gi f a₀ st):(JF st).size=a₀.size:=h.base.size
mutual
theorem gi.ne(h:gi f a₀ st){i j}(hi:i<a₀.size)(u:j<a₀.size)(k:i≠j):kk f (JF st) i≠kk f (JF st) j:=by
 have c:i<(JF st).size:=by rw[h.size];exact hi
 have d:j<(JF st).size:=by rw[h.size];exact u
 unfold kk;refine(JC c).symm▸?_;refine(JC d).symm▸?_;have e:∀(a b:Nat) (o:a<(JF st).size) (r:b<(JF st).size),a<b->f (JF st)[a].1≠f (JF st)[b].1:=λa b o r g=>by
  have:=List.pairwise_iff_getElem.mp (((Array.perm_iff_toList_perm.mp h.base.perm).map λp:Ot=>f p.1).nodup_iff.mpr h.inj) a b (by simpa using o) (by simpa using r) g
  simpa using this
 rcases Nat.lt_or_gt_of_ne k with q | q
 ·exact e i j c d q
 ·exact(e j i d c q).symm
theorem gi.set(h:gi f a₀ st){xs}(a:xs.Perm (JF st)):gi f a₀ (setArr st xs):=⟨h.base.setArr a,h.inj⟩
end
theorem rp{xs ys i j}(h:xs[i]?=ys[j]?):kk f xs i=kk f ys j:=by unfold kk;exact(h).symm▸rfl
variable {prog:Program}{w:K8}{A:Around}{E:Value->IY->Prop}{s:IY}
noncomputable def sf(prog:Program)(w:K8)(A:Around)(s:IY)(f:Value->Int)(a₀:Array Ot):Prop :=
 ∀(E:Value->IY->Prop) (p q:Ot) (Q:Bool->IY->Prop),p∈a₀.toList->q∈a₀.toList->f p.1≠f q.1->Q (decide (f p.1<f q.1)) s->Jd (I6 prog w) A (oneLt' true p.1 q.1) Q E s
mutual
theorem gY{a:Type}{c:Prop}[Decidable c]{t e:StateT KX Qx a}{Q:a->KX->Prop}{st:KX}(h:c)(k:T3 (I6 prog w) A E s t Q st):T3 (I6 prog w) A E s (if c then t else e) Q st:=by refine(if_pos h).symm▸?_;exact k
theorem gj{a:Type}{c:Prop}[Decidable c]{t e:StateT KX Qx a}{Q:a->KX->Prop}{st:KX}(h : ¬c)(k:T3 (I6 prog w) A E s e Q st):T3 (I6 prog w) A E s (if c then t else e) Q st:=by refine(if_neg h).symm▸?_;exact k
theorem ku{a:Type}{m c:StateT KX Qx a}{Q:a->KX->Prop}{st:KX}(e:m=c)(k:T3 (I6 prog w) A E s c Q st):T3 (I6 prog w) A E s m Q st:=e▸k
end
theorem mU{st i j Q}(r:sf prog w A s f a₀)(H:gi f a₀ st)(hi:i<a₀.size)(o:j<a₀.size)(e:i≠j)(p:kk f (JF st) i<kk f (JF st) j->Q (IK true) st)(g:¬kk f (JF st) i<kk f (JF st) j->Q (IK false) st):T3 (I6 prog w) A E s (ltAt' i j) Q st:=by
 have h:Q (IK (decide (kk f (JF st) i<kk f (JF st) j))) st:=by
  by_cases q:kk f (JF st) i<kk f (JF st) j
  ·rw[decide_eq_true q];exact p q
  ·rw[decide_eq_false q];exact g q
 clear p g
 have d:=H.ne hi o e;have a:i<(JF st).size:=by rw[H.size];exact hi
 have c:j<(JF st).size:=by rw[H.size];exact o
 have mem:∀(k:Nat) (u:k<(JF st).size),(JF st)[k]∈a₀.toList:=λk u=>(Array.perm_iff_toList_perm.mp H.base.perm).mem_iff.mp (by simp);have v:kk f (JF st) i=f (JF st)[i].1:=by unfold kk;exact(JC a).symm▸rfl
 have kj:kk f (JF st) j=f (JF st)[j].1:=by unfold kk;exact(JC c).symm▸rfl
 rw[v,kj] at h d;rw[ltAt'_eq];refine JY (Qw ?_);show T3 _ _ _ _ (do let x <-elem' (JF st) i;let y <-elem' (JF st) j;lt' x y) Q st;refine(elem'_eq ..).symm▸?_;refine(elem'_eq ..).symm▸?_;refine(JC a).symm▸?_;refine(JC c).symm▸?_;refine JY (Ky (JY (Ky ?_)));rw[lt'_eq];refine JY (Qw ?_);refine(H.base.kind).symm▸?_;refine(keyLt'_oneType ..).symm▸?_;exact JY (UC (Ko (r _ _ _ _ (mem i a) (mem j c) d ⟨rfl,Ky h⟩)))
inductive Hn(f:Value->Int)(a₀:Array Ot)(st:KX)(x:Nat)(c:AscSt)(st':KX):Prop
 |mk (hs:st'=st) (hc:c=(none,x)) (u:Up f (JF st) x)
inductive Hl(f:Value->Int)(a₀:Array Ot)(st:KX)(x:Nat)(c:DescSt)(st':KX):Prop
 |mk (hs:st'=st) (hc:c=(none,x,0)) (d:Down f (JF st) x)
theorem uZ{st a n Q}(J:sf prog w A s f a₀)(H:gi f a₀ st)(o:n<=a₀.size)(p:1<=a)(F:a<=n)(u:Up f (JF st) a)(h:∀m,a<=m->m<=n->Up f (JF st) m->(m<n->kk f (JF st) m<kk f (JF st) (m-1))->Q (none,m) st):T3 (I6 prog w) A E s (ascLoop a n) Q st:=by
 have d {a₀ st n} (H:gi f a₀ st) (o:n<a₀.size) (p:1<=n) (u:Up f (JF st) n) (h:¬kk f (JF st) n<kk f (JF st) (n-1)):Up f (JF st) (n+1):=by
  intro i j r M;by_cases e:j<n
  ·exact u i j r e
  ·have G:j=n:=by exact b8 19 6 M e
   subst G;by_cases D:i=j-1
   ·subst D;exact l6 19 9 (H.ne (i:=j-1) (j:=j) (by exact b6 19 7 o) o (by exact ec 19 8 p)) h
   ·have:=u i (j-1) (by exact b8 19 10 r D) (by exact ec 19 11 p);exact qx 19 12 this h
 refine M5 (I:=Hn f a₀ st) (λx c C B g y=>?_) (λc C y=>?_) ⟨rfl,rfl,u⟩
 ·obtain⟨z,hc,v⟩:=y;subst z hc;exact JY (mU J H (by exact b6 6 23 g o) (by exact cO 19 13 g o) (by exact b8 19 14 p B) (λk=>Ky (h x B (by exact b8 1 12 g) v λZ=>k)) λk=>Ky ⟨rfl,rfl,d H (by exact b6 6 23 g o) (by exact b6 3 4 p B) v k⟩)
 ·obtain⟨z,hc,v⟩:=y;subst z hc;have e:max a n=n:=by exact b8 19 15 F
  rw[e] at v ⊢;exact h n F (IQ _) v λq=>absurd q (I2 _)
inductive AB(f:Value->Int)(st:KX)(k x:Nat)(c:Option Bool×Nat×Nat)(st':KX):Prop
 |mk (hs:st'=st) (l r:Nat) (hc:c=(none,l,r)) (hlr:l<=r) (hrk:r<=k) (hd:r-l<=k-x) (hlo:∀i,i<l->kk f (JF st) i<kk f (JF st) k) (hhi:∀i,r<=i->i<k->kk f (JF st) k<kk f (JF st) i)
inductive Hm(f:Value->Int)(st:KX)(k:Nat)(c:Option Bool×Nat×Nat)(st':KX):Prop
 |mk (hs:st'=st) (l r:Nat) (hc:c=(none,l,r)) (hlk:l<=k) (hlo:∀i,i<l->kk f (JF st) i<kk f (JF st) k) (hhi:∀i,l<=i->i<k->kk f (JF st) k<kk f (JF st) i)
inductive Fg(f:Value->Int)(a₀:Array Ot)(n:Nat)(c:Option Bool×PUnit)(st:KX):Prop
 |mk (hc:c=(none,())) (H:gi f a₀ st) (u:Up f (JF st) n)
structure Di(f:Value->Int)(a₀:Array Ot)(st:KX):Prop where
 perm:(JF st).Perm a₀
 fail:Sq st=none
 pend:P8 st=#[(0,a₀.size,0)]
 up:Up f (JF st) a₀.size
inductive HT(f:Value->Int)(a₀:Array Ot)(x:Nat)(c:Option PUnit×Nat)(st:KX):Prop
 |a (hx:x=0) (hc:c=(none,0)) (H:gi f a₀ st)
 |b (hx:1<=x) (hc:c=(none,a₀.size)) (D:Di f a₀ st)
theorem xj{st Q}(hL:sf prog w A s f a₀)(H:gi f a₀ st)(U:2<=a₀.size)(am:a₀.size<64)(h:∀o,Di f a₀ o->Q () o):T3 (I6 prog w) A E s sortRuns' Q st:=by
 have aa {st n Q} (hL:sf prog w A s f a₀) (H:gi f a₀ st) (X:n<=a₀.size) (p:1<=n) (h:∀k o,gi f a₀ o->1<=k->k<=n->Up f (JF o) k->Q (IK k) o):T3 (I6 prog w) A E s (countRun' 0 n) Q st:=by
  have al {m} (p:1<=m) (hm:m<=n) (d:Down f (JF st) m):T3 (I6 prog w) A E s (tail3 m n) Q st:=by
   have M {xs n} (X:n<=xs.size) (k:Nat):kk f (mirror xs 0 n ((n-0) / 2)) k=if k<n then kk f xs (n-1-k) else kk f xs k:=by
    have e:=getElem?_mirror_all (i:=0) X k;by_cases h:k<n
    ·rw[if_pos ⟨Ji _,h⟩] at e;rw[if_pos h];exact rp (by refine(e).trans ?_;congr 1;exact b6 19 5)
    ·rw[if_neg (λq=>h q.2)] at e;refine J3 ?_ (if_neg h).symm;exact rp e
   have hz:m<=(JF st).size:=by rw[H.size];exact b6 3 4 hm X
   refine JY (wpS_reverse ?_);have H':gi f a₀ (setArr st (mirror (JF st) 0 m ((m-0) / 2))):=H.set (mirror_perm _ _ _ _);refine JY (uZ hL H' X p hm (λi j g R=>?_) λk ay az uk Z=>Ky (h k _ H' (by exact b6 3 4 p ay) az uk));rw[M hz,M hz,if_pos (by exact b6 9 10 g R),if_pos R];exact d _ _ (by exact b6 19 16 g R) (by exact b6 19 17 R)
  have ai {prog w A E s f a₀ st a Q} (hL:sf prog w A s f a₀) (H:gi f a₀ st) (X:n<=a₀.size) (p:1<=a) (ha:a<=n) (d:Down f (JF st) a) (h:∀m,a<=m->m<=n->Down f (JF st) m->Q (none,m,0) st):T3 (I6 prog w) A E s (descLoop a n) Q st:=by
   have ab {st x} (dx:Down f (JF st) x) (v:kk f (JF st) x<kk f (JF st) (x-1)):Down f (JF st) (x+1):=λi j g R=>by
    by_cases e:j<x
    ·exact dx i j g e
    ·have ej:j=x:=by exact b8 19 6 R e
     subst ej;by_cases ei:i=j-1
     ·subst ei;exact v
     ·have:=dx i (j-1) (by exact b8 19 10 g ei) (by exact b8 3 1 g);exact qx 19 20 v this
   refine M5 (I:=Hl f a₀ st) (λx c o hx af z=>?_) (λc o z=>?_) ⟨rfl,rfl,d⟩
   ·obtain⟨hs,hc,dx⟩:=z;subst hs hc;exact JY (mU hL H (by exact b6 6 23 af X) (by exact cO 19 13 af X) (by exact b8 19 14 p hx) (λv=>gY (c:=true=true) rfl (gj (c:=0 > 0) (I2 0) (Ky ⟨rfl,rfl,ab dx v⟩))) λv =>
     JY (mU hL H (by exact cO 19 13 af X) (by exact b6 6 23 af X) (by exact b8 19 18 p hx) (λZ=>Ky (h x hx (by exact b8 1 12 af) dx)) λq=>absurd (by exact l6 19 9 (H.ne (i:=x-1) (j:=x) (by exact cO 19 13 af X) (by exact b6 6 23 af X) (by exact b8 19 18 p hx)) v) q))
   ·obtain⟨hs,hc,dx⟩:=z;subst hs hc;have e:max a n=n:=by exact b8 19 15 ha
    rw[e] at dx ⊢;exact h n ha (IQ _) dx
  have aj (h:kk f (JF st) 1<kk f (JF st) (1-1)):Down f (JF st) 2:=λi j g R=>by
   have e1:i=0:=by exact b8 20 6 R g
   have e2:j=1:=by exact b8 20 7 R g
   subst e1 e2;exact h
  refine ku (countRun0_eq ..) (JY (uZ hL H X (IQ 1) p (λi j g R=>by exact Dm 19 21 R g) λm av ak um aB=>?_));by_cases e:m=n
  ·exact gY (c:=(m == n)=true) (by simpa using e) (Ky (h m st H av ak um))
  ·refine gj (c:=(m == n)=true) (by simpa using e) ?_;by_cases ac:m > 1
   ·exact gY (c:=m > 1) ac (JY (mU hL H (by exact b8 19 22 p X) (by exact b6 19 23 ac ak X) (by exact b8 20 0 ac) (λZ=>Ky (h m st H av ak um)) λq=>absurd (um 0 (m-1) (by exact b8 20 1 ac) (by exact ec 20 2 ac)) q))
   ·have em:m=1:=by exact b8 20 3 av ac
    subst em;refine gj (c:=1 > 1) ac (JY (UC (Li ⟨rfl,?_⟩)));refine JY (ai hL H X (by exact ec 20 4) (by exact ec 20 5 p e) (aj (aB (by exact b8 20 8 p e))) λk ay az dk=>?_);exact gj (by exact ec 19 19) (al (by exact b8 20 9 ay) az dk)
 have ao {st n m Q} (hL:sf prog w A s f a₀) (H:gi f a₀ st) (X:n<=a₀.size) (hm:m<=n) (u:Up f (JF st) m) (h:∀o,gi f a₀ o->Up f (JF o) n->Q true o):T3 (I6 prog w) A E s (binarySort' 0 n m) Q st:=by
  have ah {st:KX} {k x l r:Nat} {Q:ForInStep (Option Bool×Nat×Nat)->KX->Prop} (hL:sf prog w A s f a₀) (H:gi f a₀ st) (ae:k<a₀.size) (u:Up f (JF st) k) (B:¬l ≥ r) (C:r<=k) (hd:r-l<=k-x) (T:∀i,i<l->kk f (JF st) i<kk f (JF st) k) (S:∀i,r<=i->i<k->kk f (JF st) k<kk f (JF st) i) {F:Option Bool->StateT KX Qx (ForInStep (Option Bool×Nat×Nat))} (p:F (IK true)=pure (.yield (none,l,(l+r) / 2))) (U:F (IK false)=pure (.yield (none,(l+r) / 2+1,r))) (h:∀c,AB f st k (x+1) c st->Q (.yield c) st):T3 (I6 prog w) A E s (ltAt' (0+k) (0+(l+r) / 2) >>= F) Q st:=by
   refine(JK ..).symm▸?_;refine(JK ..).symm▸?_;have ax {n0 n1 n2} (h0:(n0<=n1)) (p:(¬(n2 ≥ n0))):(n1≠((n2+n0) / (2:Nat))):=cO 20 11 (rB _) (rA _) h0 p;have aw {n0 n1 n2 n3} (h0:(n0<n1)) (p:(n2<=n0)) (U:(¬(n3 ≥ n2))):(((n3+n2) / (2:Nat))<n1):=fc 20 10 (rB _) (rA _) h0 p U;refine JY (mU hL H ae (by exact aw ae C B) (by exact ax C B) (λv=>ku p (Ky (h _ ?_))) λv=>ku U (Ky (h _ ?_)))
   ·have as:AB f st k (x+1) (none,l,(l+r) / 2) st :=
     have aC {n0 n1} (h0:(¬(n0 ≥ n1))):(n0<=((n0+n1) / (2:Nat))):=b6 20 12 (rB _) (rA _) h0;have aD {n0 n1 n2} (h0:(n0<=n1)) (p:(¬(n2 ≥ n0))):(((n2+n0) / (2:Nat))<=n1):=cO 20 13 (rB _) (rA _) h0 p;have aE {n0 n1 n2 n3} (h0:((n0-n1)<=(n2-n3))):((((n1+n0) / (2:Nat))-n1)<=(n2-(n3+(1:Nat)))):=fc 20 14 (rB _) (rA _) h0
     ⟨rfl,l,_,rfl,by exact aC B,by exact aD C B,by exact aE hd,T,λi p U=>by
      by_cases e:i=(l+r) / 2
      ·subst e;exact v
      ·have:=u ((l+r) / 2) i (by exact b8 20 15 p e) U;exact qx 19 20 v this⟩
    exact as
   ·have ar (aI:kk f (JF st) k≠kk f (JF st) ((l+r) / 2)):AB f st k (x+1) (none,(l+r) / 2+1,r) st :=
     have aF {n0 n1} (h0:(¬(n0 ≥ n1))):((((n0+n1) / (2:Nat))+(1:Nat))<=n1):=b6 20 16 (rB _) (rA _) h0;have aG {n0 n1 n2 n3 n4} (h0:((n0-n1)<=(n2-n3))):((n0-(((n1+n0) / (2:Nat))+n4))<=(n2-(n3+n4))):=ja 20 17 (rB _) (rA _) h0
     ⟨rfl,_,r,rfl,by exact aF B,C,by exact aG hd,λi p=>by
      by_cases e:i=(l+r) / 2
      ·subst e;exact l6 20 18 aI v
      ·have aH {n0 n1 n2} (h0:(n0<=n1)) (p:(¬(n2 ≥ n0))):(((n2+n0) / (2:Nat))<n1):=cO 20 19 (rB _) (rA _) h0 p;have:=u i ((l+r) / 2) (by exact b8 0 2 p e) (by exact aH C B);exact qx 19 12 this v,S⟩
    exact ar (H.ne (i:=k) (j:=(l+r) / 2) ae (by exact aw ae C B) (by exact ax C B))
  refine ku (binarySort'_eq ..) ?_;refine JY (Sh (M5 (I:=λk=>Fg f a₀ (min k n)) (Q:=Fg f a₀ n) (λk c o hk aA z=>?_) (λc o z=>?_) ?_) λc o z=>?_)
  ·obtain⟨hc,H',u'⟩:=z;subst hc;replace u':=(PQ (JU aA))▸u';have ae:k<a₀.size:=by exact b6 6 23 aA X
   refine JY (Sh (M5 (I:=AB f o k) (Q:=Hm f o k) (λx c y Z aK z=>?_) (λc y z=>?_) ⟨rfl,0,k,rfl,Ji _,IQ _,IQ _,λi hi=>absurd hi (I4 _),λi p U=>absurd U (Nat.not_lt.mpr p)⟩) λc y z=>?_)
   ·obtain⟨hs,l,r,hc,B,C,hd,T,S⟩:=z;subst hs hc;by_cases au:l ≥ r
    ·exact gY (c:=l ≥ r) au (Ky ⟨rfl,l,r,rfl,IT B C,T,λi p U=>S i (IT au p) U⟩)
    ·exact gj (c:=l ≥ r) au (ah hL H' ae u' au C hd T S rfl rfl λc hc=>hc)
   ·obtain⟨hs,l,r,hc,B,C,hd,T,S⟩:=z;exact⟨hs,l,r,hc,IT B C,T,λi p U=>S i (by exact fc 20 20 hd p) U⟩
   ·obtain⟨hs,l,r,hc,an,T,S⟩:=z;subst hs hc;refine JY (ku (moveDown'_eq ..) (S7 (Ky ⟨rfl,H'.set (bubble_perm _ _ _),?_⟩)));refine(show min (k+1) n=k+1 by exact b8 20 21 aA).symm▸?_;refine(JK ..).symm▸?_;refine(JK ..).symm▸?_;have aq {xs} (hz:k<xs.size) (an:l<=k) (u:Up f xs k) (T:∀i,i<l->kk f xs i<kk f xs k) (S:∀i,l<=i->i<k->kk f xs k<kk f xs i):Up f (bubble xs k (k-l)) (k+1):=by
     have J (hk:k<xs.size) (hl:l<=k) (i:Nat):kk f (bubble xs k (k-l)) i=if i=l then kk f xs k else if l<i/\i<=k then kk f xs (i-1) else kk f xs i:=by
      have e:=getElem?_bubble hk (k-l) (by exact b8 17 15) i;have e:=(show k-(k-l)=l from by exact b8 8 0 hl)▸e;by_cases p:i=l
      ·rw[if_pos p] at e ⊢;exact rp e
      ·rw[if_neg p] at e ⊢;by_cases U:l<i/\i<=k
       ·rw[if_pos U] at e ⊢;exact rp e
       ·rw[if_neg U] at e ⊢;exact rp e
     intro i j g R;rw[J hz an,J hz an];by_cases i1:i=l
     ·rw[if_pos i1,if_neg (by exact b6 20 22 g i1),if_pos (by exact cO 20 23 R g i1)];exact S _ (by exact b6 21 0 g i1) (by exact b6 21 1 R g)
     rw[if_neg i1];by_cases i2:l<i/\i<=k
     ·rw[if_pos i2,if_neg (by exact b6 21 2 i2.1 g),if_pos (by exact cO 21 3 R g i2.1)];exact u _ _ (by exact b6 21 4 i2.1 g) (by exact b6 21 1 R g)
     rw[if_neg i2];by_cases j1:j=l
     ·rw[if_pos j1];exact T i (by exact b6 1 2 g j1)
     rw[if_neg j1];by_cases j2:l<j/\j<=k
     ·rw[if_pos j2];by_cases e3:i<j-1
      ·exact u _ _ e3 (by exact b6 21 1 R g)
      ·exact AE 21 5 g R i1 i2 j2.1 e3
     ·rw[if_neg j2];exact u _ _ g (by exact b6 21 6 R an j2 j1)
    exact aq (by refine(H'.size).symm▸?_;exact ae) an u' T S
  ·obtain⟨hc,H',u'⟩:=z;rw[show min (max (max m 1) n) n=n by exact b8 21 7] at u';exact⟨hc,H',u'⟩
  ·refine⟨rfl,H,λi j g R=>?_⟩;by_cases e:m=0
   ·exact AE 21 8 R e g
   ·exact u i j g (by exact cO 21 9 R g)
  ·obtain⟨hc,H',u'⟩:=z;subst hc;exact Ky (h o H' u')
 have G {st} (H:gi f a₀ st):(P8 st).back?=none:=by refine(H.base.pend).symm▸?_;rfl
 have P {n} (am:n<64):TK n n 0=n:=by
  cases n with
  |zero=>rfl
  |succ m=>rw[minRun'_succ,if_pos am]
 have ag {st:KX} {x n:Nat} (e:n=a₀.size) (H:gi f a₀ st) (u:Up f (JF st) a₀.size):HT f a₀ (x+1) (none,0+n) (setPending st ((P8 st).push (0,n,0))):=by
  subst e;have ap:Di f a₀ (setPending st ((P8 st).push (0,a₀.size,0))):=⟨H.base.perm,H.base.failed,by refine(H.base.pend).symm▸?_;rfl,u⟩
  exact .b (PR ..) (by exact(JK ..).symm▸rfl) (ap)
 refine ku sortRuns'_eq (JY (Qw ?_));refine(H.size).symm▸?_;have en:min (a₀.size-0) (TK a₀.size a₀.size 0)=a₀.size:=by refine(P am).symm▸?_;exact Nat.min_self _
 refine JY (Sh (M5 (I:=HT f a₀) (Q:=λc o=>c=(none,a₀.size)/\Di f a₀ o) (λx c o Z hx z=>?_) (λc o z=>?_) (.a rfl rfl H)) λc o z=>?_)
 ·cases z with
  |a hx hc H' =>
   subst hc;refine gj (c:=0 ≥ a₀.size) (by exact ec 21 10 U) ?_;refine JY (aa hL H' (IQ _) (by exact ec 21 11 U) λm aL H2 av ak u2=>?_);by_cases v:m<a₀.size
   ·refine gY (c:=m<TK a₀.size a₀.size 0) (by refine(P am ..).symm▸?_;exact v) ?_;refine JY (UC (Li ⟨rfl,?_⟩));refine JY (ao hL H2 (Js en) (by refine(en).symm▸?_;exact ak) u2 λaM H3 u3=>?_);rw[en] at u3;refine gj (λq=>IW q) ?_;refine JY (Qw ?_);refine(G H3).symm▸?_;exact JY (S7 (Ky (ag en H3 u3)))
   ·refine gj (c:=m<TK a₀.size a₀.size 0) (by refine(P am).symm▸?_;exact v) ?_;have em:m=a₀.size:=by exact b8 21 12 ak v
    refine JY (Qw ?_);refine(G H2).symm▸?_;exact JY (S7 (Ky (ag em H2 (em▸u2))))
  |b aJ hc D =>
   subst hc;exact gY (c:=a₀.size ≥ a₀.size) (IQ _) (Ky ⟨rfl,D⟩)
 ·cases z with
  |a hx=>exact(ec 21 13 U hx).elim
  |b Z hc D=>exact⟨hc,D⟩
 ·obtain⟨hc,D⟩:=z;subst hc;refine JY (Sh (M5 (I:=λZ c y=>c=(none,())/\Di f a₀ y) (Q:=λc y=>c=(none,())/\Di f a₀ y) (λx c y Z Y z=>?_) (λZ Y hh=>hh) ⟨rfl,D⟩) λc y z=>?_)
  ·obtain⟨hc,D⟩:=z;subst hc;exact JY (Qw (gY (c:=(P8 y).size<=1) (by rw[D.pend];exact IQ 1) (Ky ⟨rfl,D⟩)))
  ·obtain⟨hc,D⟩:=z;subst hc;exact Ky (h _ D)
end
section
open PySem PySem.W PySem.Calls PyProof.Rows Builtin
noncomputable def nI(C:Addr)(o:Obj)(x:Int×Int×Int):Prop:=∃d a t2 c,o={cls:=.ref C,dict:=d,data:=.seq #[.int x.1 a,.int x.2.1 t2,.int x.2.2 c]}
section
variable {prog:Program}{w:K8}{A:Around}{E:Value->IY->Prop}{s:IY}{nm:Str}{q:Str}{C:Addr}{N:Addr}{x:Addr}{y:Addr}{G:Option Value}{D:Option Value}{B:Option Value}{z:Option Value}{c:Option Value}{F:Str->Option Value}
theorem Cm{ox oy i j k i' j' k' P}(hu:A.units<cLine)(S:s.heap.get? C=IK (dz nm q C N G D B z c))(hn:s.heap.Ns N F)(aa:F "__lt__"=none)(T:s.heap.get? x=IK ox)(U:s.heap.get? y=IK oy)(X:nI C ox (i,j,k))(my:nI C oy (i',j',k'))(R:i≠i')(h:P (decide (i<i')) s):Jd (I6 prog w) A (oneLt' true (.ref x) (.ref y)) P E s:=by
 have p {prog w A E s nm q C N x y D B z c ox oy i j k i' j' k' P} (S:s.heap.get? C=IK (dz nm q C N G D B z c)) (T:s.heap.get? x=IK ox) (U:s.heap.get? y=IK oy) (X:nI C ox (i,j,k)) (my:nI C oy (i',j',k')) (R:i≠i') (h:P (.bool (decide (i<i'))) s):Jd (I6 prog w) A (call (.builtin "tuple.__lt__") [.ref x,.ref y]) P E s:=by
  have H {prog A E s a b t u Q} (h:Q (.bool (decide (a<b))) s):Jd (I6 prog w) A (richCompare .Lt (.int a t) (.int b u)) Q E s:=Uv h;refine IJ λzz=>?_;obtain⟨d,t1,t2,t3,rfl⟩:=X;obtain⟨d',u1,u2,u3,rfl⟩:=my;obtain⟨hh,g,dr,t,os⟩:=s;refine zz ?_;dsimp only at S T U;have sub:([Jy C,.type "tuple",.type "object"].contains (.type "tuple"))=true:=by simp
  refine KD (Kj PySem.F.slot_tuple_lt.plain PySem.F.entry_tuple_lt ?_);have o (a b:Value):NI "tuple.__lt__" ⟨[a,b],[]⟩:=PySem.F.args_tuple_lt_2 a b;refine @check_slot (I6 prog w) _ _ ⟨hh,g,dr,t,os⟩ "tuple.__lt__" "tuple" "__lt__" (.ref x) [.ref y] [] _ (by decide +kernel) (by decide +kernel) (((Lw T).andThen .now).andThen (by have:=iu (M:=I6 prog w) S (.type "tuple");rw[sub] at this;exact this):JQ (I6 prog w) hh (Mn (.ref x) (.type "tuple")) true) (o (.ref x) (.ref y)) ?_;show Jd _ _ (Mn (.ref y) (.type "tuple") >>= _) _ _ _;refine II ((((Lw U).andThen .now).andThen (by have:=iu (M:=I6 prog w) S (.type "tuple");rw[sub] at this;exact this):JQ (I6 prog w) hh (Mn (.ref y) (.type "tuple")) true).at ?_);refine II (II (JS T rfl (IP ?_)));refine II (II (JS U rfl (IP ?_)));show Jd _ _ (forIn [((.int i t1:Value),(.int i' u1:Value)),(.int j t2,.int j' u2),(.int k t3,.int k' u3)] _ _ >>= _) _ _ _;refine II ?_;rw[NR];refine II ?_;refine II (wpAny_eqBool_int ?_);have e:(i == i')=false:=beq_eq_false_iff_ne.mpr R;rw[e];refine II (Li (II (H ?_)));exact II (IP (IP (IP (IP h))))
 have l1:JQ (I6 prog w) s.heap (KG (.ref x) "__lt__") (IK (.builtin "tuple.__lt__")):=by
  refine((Lw T).andThen (by refine((show ox.cls=.ref C from by obtain⟨d,t1,t2,t3,rfl⟩:=X;rfl))▸?_;exact .now)).andThen (a:=Jy C) ?_;have J:JE (.type "tuple") "__lt__"=pure (IK (.builtin "tuple.__lt__")):=PySem.F.slot_tuple_lt.lookup;have:=gv (M:=I6 prog w) S hn J;have this:=aa▸this;exact this
 rw[oneLt'_eq];refine II (wpAny_cRoomFor hu ?_);refine II (I5 (Q:=λr s'=>r=IK (.bool (decide (i<i')))/\s'=s) ?_ (λr s' hr=>?_) λZ Y f=>f)
 ·refine I9 (II (II (l1.here ?_)));dsimp only;refine(show Sv (.builtin "tuple.__lt__") (.ref x)=pure (.builtin "tuple.__lt__",[.ref x]) from PySem.F.slot_tuple_lt.bind _).symm▸?_;have fin:Jd (I6 prog w) A (call (.builtin "tuple.__lt__") ([Jy x]++[.ref y]) >>= λv=>pure (IK v)) (λr s'=>r=IK (.bool (decide (i<i')))/\s'=s) E s :=
   II (p S T U X my R (IP ⟨rfl,rfl⟩))
  refine II (nd_ask (IP ?_))
  split
  ·exact II (IP (IP fin))
  ·exact IP fin
 ·obtain⟨rfl,rfl⟩:=hr;exact Nu h
theorem zU{M h}{vs:List Value}(d:∀v∈vs,JQ M h (LU v) (.ref C))(q:2<=vs.length):JQ M h (keyKind' vs.toArray) oneType':=by
 have r:∀l:List Value,(∀v∈l,JQ M h (LU v) (.ref C))->JQ M h (l.mapM U9) (l.map λZ=>none):=by
  intro l
  induction l with
  |nil=>intro _;rw[Tr];exact .now
  |cons a l j =>
   intro f;rw[S0];have:JQ M h (U9 a) none:=(f a (Je ..)).andThen .now;exact this.andThen ((j λv d=>f v (Jm _ d)).andThen .now)
 have u:∀l:List Value,(∀v∈l,JQ M h (LU v) (.ref C))->JQ M h (l.mapM LU) (l.map λZ=>.ref C):=by
  intro l
  induction l with
  |nil=>intro _;rw[Tr];exact .now
  |cons a l j =>
   intro f;rw[S0];exact(f a (Je ..)).andThen ((j λv d=>f v (Jm _ d)).andThen .now)
 obtain⟨v1,c,rest,rfl⟩:∃v1 c rest,vs=v1::c::rest:=by
  match vs,q with
  |v1::c::rest,Z=>exact⟨v1,c,rest,rfl⟩
 rw[keyKind'_eq,RN];refine Ol (a:=((v1::c::rest).map λZ=>(none:Option Value)).toArray) ?_ ?_
 ·intro g p i s' k o;exact wpAny_map ((r _ d) g _ i s' k o)
 ·rw[if_neg (by simp),if_neg (by simp)];rw[oneTypeOnly'_eq,RN];refine Ol (a:=IK (Jy C)) ?_ ?_
  ·refine Ol (a:=((v1::c::rest).map λZ=>Jy C).toArray) ?_ ?_
   ·intro g p i s' k o;exact wpAny_map ((u _ d) g _ i s' k o)
   ·have e:(((v1::c::rest).map λZ=>Jy C).toArray.all λx=>x == Jy C)=true:=by
     simp only[List.all_toArray,TX,Pc];intro _ _;simp
    refine((show(((v1::c::rest).map λZ=>Jy C).toArray)[0]?=IK (Jy C) from by simp)).symm▸?_;simp only[e,if_true];exact .now
  ·exact .now
theorem pR{c d:Type}{f}:∀ {g h:List d},g.Perm h->∀l:List c,h=l.map f->∃l':List c,l'.Perm l/\g=l'.map f:=by
 intro g h w
 induction w with
 |nil=>intro l e;exact⟨l,.refl _,e⟩
 |cons x Z z =>
  intro l e;cases l with
  |nil=>cases e
  |cons a l =>
   replace e:=JJ▸e;obtain⟨rfl,k⟩:=J8 e;obtain⟨l',p,i⟩:=z l k;exact⟨a::l',p.cons a,by rw[JJ,i]⟩
 |swap x y Z =>
  intro l e;cases l with
  |nil=>cases e
  |cons a l =>
   cases l with
   |nil=>have e:=JJ▸e;cases (J8 e).2
   |cons b l =>
    rw[JJ,JJ] at e;obtain⟨rfl,k⟩:=J8 e;obtain⟨rfl,v⟩:=J8 k;exact⟨b::a::l,.swap ..,by rw[JJ,JJ,v]⟩
 |trans Z Y o q =>
  intro l e;refine IJ λB=>?_;obtain⟨l',A,i⟩:=q l e;obtain⟨r,u,j⟩:=o l' i;refine B ?_;exact⟨r,u.trans A,j⟩
noncomputable def d7(h:Heap)(a:Addr)(vs:List Value):Heap:=((h.update a (JR λZ=>#[])).push (QJ "tuple" vs.toArray 0)).push (QJ "list" #[] 0)
theorem fy{h a b vs o}(d:h.get? b=IK o)(c:b≠a):(d7 h a vs).get? b=IK o :=
 IS _ (IS _ ((J5 _ _ (LG c)).trans d))
variable {f:Value->Int}
theorem w9{a vs n P}(R:s.heap.get? a=IK (QJ "list" vs.toArray n))(C:(vs.map f).Nodup)(k:vs.length<64)(hk:2<=vs.length->JQ (I6 prog w) (d7 s.heap a vs) (keyKind' vs.toArray) oneType')(hL:sf prog w A {s with heap:=d7 s.heap a vs} f (PG vs))(h:∀out:List Value,out.Perm vs->(out.map f).Pairwise (· < ·)->P (.done (.ret .none)) {s with heap:=(d7 s.heap a vs).update a (JR λZ=>out.toArray)}):Jd (I6 prog w) A (Builtin.«list.sort» ⟨[.ref a],[]⟩) P E s:=by
 have hz:sizeLine=2 ^ 40∨64<=sizeLine:=.inr (by decide);have x:64<=sizeLine:=by decide
 have ha:a<s.heap.objs.size:=Ja R;have T:((PG vs).toList.map λp=>f p.1)=vs.map f:=by
  rw[QK];have:(vs.zip vs).map (λp=>f p.1)=((vs.zip vs).map Prod.fst).map f:=by refine J3 ?_ (JB).symm;rfl
  refine(this).symm▸?_;exact(O8 (IQ _)).symm▸rfl
 rw[list_sort_plain];refine II (listItems_at R rfl ?_);refine II (U8 R rfl ?_ (hsz:=by rw[KN];exact b6 21 14 k x));obtain⟨y,G⟩:∃y,(s.heap.update a (JR λZ=>#[])).get? a=IK (QJ "list" #[] y):=⟨_,Qs R (λZ=>#[])⟩
 refine II (seqEpoch_at G rfl ?_);refine II (QC ?_ (by simp;exact b6 21 14 k x));refine II (wpAny_newList ?_);refine I9 ?_;have H:(d7 s.heap a vs).get? a=IK (QJ "list" #[] y):=IS _ (IS _ G);show Jd (I6 prog w) A _ P E {s with heap:=d7 s.heap a vs};have q:∀c:KX,(JF c).Perm (PG vs)->Sq c=none->Up f (JF c) (PG vs).size->Jd (I6 prog w) A (do
   let g:=(<-seqEpoch a) != y
   MR (.ref a) λZ=>(JF c).map (·.2)
   if let IK e:=Sq c then rule "list.sort.comparison-raised";throw e
   if g then rule "list.sort.modified";raiseError "ValueError" "list modified during sort"
   ret .none) P E {s with heap:=d7 s.heap a vs}:=by
  intro c U hf hu;have v:=Array.perm_iff_toList_perm.mp U;rw[QK] at v;have o:∀p∈(JF c).toList,p.1=p.2:=λp X=>(Rz (v.mem_iff.mp X)).1;have J:((JF c).map (·.2))=((JF c).toList.map (·.2)).toArray:=by refine(Array.toList_map)▸?_;exact(MA).symm▸rfl
  refine II (seqEpoch_at H rfl ?_);refine II (U8 H rfl ?_ (hsz2:=by rw[(show((JF c).map (·.2)).size=vs.length from by rw[Array.size_map,U.size_eq,PE])];exact cO 21 15 k x));refine(hf).symm▸?_;simp only[bne_self_eq_false,OC,if_false];refine(J).symm▸?_;refine IP (h ((JF c).toList.map (·.2)) ?_ ?_)
  ·have h1:=v.map (λp:Ot=>p.2);have d:(vs.zip vs).map (λp=>p.2)=vs:=O7 (IQ _);rw[d] at h1;exact h1
  ·rw[JB,RM,List.pairwise_iff_getElem];intro i j hi M u;have S:i<(JF c).size:=by simpa using hi
   have F:j<(JF c).size:=by simpa using M
   have:=hu i j u (by refine(U.size_eq)▸?_;exact F);unfold kk at this;rw[JC S,JC F] at this;have y:=o (JF c)[i] (by simp);have e2:=o (JF c)[j] (by simp);dsimp only at this;rw[y,e2] at this
   simpa using this
 by_cases d:vs.toArray.size<2
 ·rw[if_pos d,if_pos d];refine II (IP ?_);dsimp only;rw[StateT.run_pure];refine II (IP ?_);refine q (TQ general' (vs.toArray.zip vs.toArray) #[] 7 none) (QY _) rfl λi j u M=>?_;rw[PE] at M;have d:=KN▸d;exact Dk 21 16 d M u
 ·rw[if_neg d];refine(if_neg d).symm▸?_;have B:2<=vs.length:=by rw[KN] at d;exact b8 0 17 d
  refine II ((hk B).here ?_);refine II (I5 (xj (a₀:=PG vs) (st:=TQ oneType' (vs.toArray.zip vs.toArray) #[] 7 none) (Q:=λZ c=>(JF c).Perm (PG vs)/\Sq c=none/\Up f (JF c) (PG vs).size) hL ⟨⟨QY _,rfl,rfl,rfl⟩,by rw[T];exact C⟩ (by rw[PE];exact B) (by rw[PE];exact k) λc D=>⟨D.perm,D.fail,D.up⟩) (λr s' hr=>?_) λZ Y z=>z);obtain⟨⟨⟩,c⟩:=r;obtain⟨rfl,p1,p2,p3⟩:=hr;exact q c p1 p2 p3
end
section
variable {A:Around}{st:St}{Q:V->St->Prop}{C:Addr}{N:Addr}{p:Addr}{f:Addr}{mN:Str->Option Value}
noncomputable def mV(C:Addr)(m:Int×Int×Int):V:=.m C [.i m.1,.i m.2.1,.i m.2.2]
theorem BC{σ n s m w}(h:RV σ n s (mV C m) w):∃a,w=.ref a/\σ.z a/\∃o,s.heap.get? a=IK o/\nI C o m:=by
 refine IJ λA=>?_;obtain⟨x,items,k,e,hz,v,B,y⟩:=h;obtain⟨D,_,f,⟨c,q⟩,E,_,g,⟨t2,r⟩,F,_,i,⟨d,u⟩,j⟩:=y;refine A ?_;subst j i g q r u;have p:items=#[.int m.1 c,.int m.2.1 t2,.int m.2.2 d]:=by refine(MA (xs:=items))▸?_;exact(f).symm▸rfl
 subst p;exact⟨x,e,hz,_,v,_,c,t2,d,rfl⟩
mutual
theorem Cu{σ n s ms}:∀ {ws:List Value},cW σ n s (ms.map (mV C)) ws->∃as:List (Addr×Int×Int×Int),ws=as.map (λa=>.ref a.1)/\as.map (·.2)=ms/\∀a∈as,RV σ n s (mV C a.2) (.ref a.1):=by
 induction ms with
 |nil=>intro ws h;cases h;exact⟨[],rfl,rfl,λa q=>absurd q Jf⟩
 |cons m ms k =>
  intro ws ⟨w,o,e,c,i⟩;obtain⟨as,d,f,j⟩:=k i;obtain⟨a,g,_⟩:=BC c;subst e d f g;exact⟨(a,m)::as,rfl,rfl,λb q=>(Tq.mp q).elim (λe=>by subst e;exact c) (j b)⟩
theorem Cs{σ n s}{as:List (Addr×Int×Int×Int)}(h:∀a∈as,RV σ n s (mV C a.2) (.ref a.1)):cW σ n s ((as.map (·.2)).map (mV C)) (as.map λa=>.ref a.1):=by
 induction as with
 |nil=>exact rfl
 |cons a as c=>exact⟨_,_,rfl,h a (Je ..),c λb q=>h b (Jm _ q)⟩
end
theorem wc(T:cB)(c:TupAt C N p f mN)(ap:mN "__lt__"=none){l ns}(hu:A.in1.units<cLine)(hl:st[l]?=IK (.list (ns.map (mV C))))(F:(ns.map (·.1)).Nodup)(H:ns.length<64)(h:∀R:List (Int×Int×Int),R.Perm ns->(R.map (·.1)).Pairwise (· < ·)->Q .n (st.set l (.list (R.map (mV C))))):MethW A "list.sort" (.r l) [] st Q:=by
 intro σ s u vs ar as i r;cases ar;obtain⟨x,rfl,hx⟩:=fK as;obtain⟨G,rfl⟩:=hx;obtain⟨ws,n,hn,hsz,au⟩:=r.at_ l _ hl;obtain⟨ms,j,D,X⟩:=Cu au;subst D;rw[JB] at F;rw[IZ] at H;have hm:∀m∈ms,σ.z m.1/\∃o,s.heap.get? m.1=IK o/\nI C o m.2:=λm q=>by
  obtain⟨a,e,hz,o,h1,S⟩:=BC (X m q);cases e;exact⟨hz,o,h1,S⟩
 have ai:∃f:Value->Int,∀m∈ms,f (.ref m.1)=m.2.1:=by
  refine⟨λv=>((ms.find? λm=>v == .ref m.1).map λm=>m.2.1).getD 0,λm g=>?_⟩;obtain⟨m',hf⟩:∃m',ms.find? (λk=>Jy m.1 == .ref k.1)=IK m':=by
   cases e:ms.find? (λk=>Jy m.1 == .ref k.1) with
   |some m'=>exact⟨m',rfl⟩
   |none=>exact absurd (List.find?_eq_none.mp e m g) (by simp)
  have h1:=List.mem_of_find?_eq_some hf;have S:Jy m.1=.ref m'.1:=by have:=List.find?_some hf;simpa using this
  have h3:m.1=m'.1:=LP S;obtain⟨_,o,o1,o2⟩:=hm m g;obtain⟨_,o',o3,o4⟩:=hm m' h1;rw[<-h3,o1] at o3;cases o3;obtain⟨d,t1,t2,t3,e1⟩:=o2;obtain⟨d',u1,u2,u3,D⟩:=o4;rw[e1] at D;have e3:m.2.1=m'.2.1:=by
   injection D with _ _ D
   injection D with D
   have:=congrArg (λa:Array Value=>a[0]?) D;simp at this;exact this.1
  show((ms.find? λk=>Jy m.1 == .ref k.1).map λk=>k.2.1).getD 0=m.2.1;rw[hf,e3];rfl
 obtain⟨fn,E⟩:=ai;have ak:(ws.toList.map fn)=ms.map λm=>m.2.1:=by
  rw[j,JB];exact Kn λm g=>E m g
 have ab:ws.toList.length=ms.length:=by rw[j,IZ]
 have aq:∀m∈ms,m.1≠σ.a l:=λm g e=>r.zoff m.1 (hm m g).1 l G e.symm;obtain⟨nm,q,k0,k1,k2,k3,k5,dd,fr,hC,ag,_⟩:=c.now i;have an:C≠σ.a l:=λe=>by
  rw[e,hn] at hC;exact Jo (congrArg (λo:Option Obj=>(o.map Obj.cls)) hC |> Jk) λe=>absurd e (by decide)
 have ao:N≠σ.a l:=λe=>by
  obtain⟨o,es,ep,e1,D,_⟩:=ag;rw[e,hn] at e1;cases e1;cases D
 have am:(d7 s.heap (σ.a l) ws.toList).get? C=IK (dz nm q C N k0 k1 k2 k3 k5):=fy hC an;have ah:(d7 s.heap (σ.a l) ws.toList).Ns N mN:=ag.at λo ho=>fy ho ao;have M:∀m∈ms,∃o,(d7 s.heap (σ.a l) ws.toList).get? m.1=IK o/\nI C o m.2:=λm g=>by
  obtain⟨_,o,o1,o2⟩:=hm m g;exact⟨o,fy o1 (aq m g),o2⟩
 have P:s.heap.get? (σ.a l)=IK (QJ "list" ws.toList.toArray n):=by rw[MA];exact hn
 refine JG Uu ⟨_,P,rfl⟩ Uw (w9 (f:=fn) P (by rw[ak];exact F) (by rw[ab];exact H) (λS=>zU (C:=C) (λv hv=>?_) S) ?_ λout hp hs=>?_) (Ux _)
 ·rw[j,Qz] at hv;obtain⟨m,g,rfl⟩:=hv;obtain⟨o,o1,d,t1,t2,t3,rfl⟩:=M m g;exact(Lw o1).andThen .now
 ·intro E' p' q' Q' w aj B J;rw[QK] at w aj;obtain⟨_,m1⟩:=Rz w;obtain⟨_,m2⟩:=Rz aj;rw[j,Qz] at m1 m2;obtain⟨ma,ac,ea⟩:=m1;obtain⟨mb,ae,eb⟩:=m2;rw[<-ea,<-eb] at B J ⊢;rw[E ma ac,E mb ae] at B J;obtain⟨oa,a1,a2⟩:=M ma ac;obtain⟨ob,b1,b2⟩:=M mb ae;exact Cm hu am ah ap a1 b1 a2 b2 B J
 ·rw[j] at hp;obtain⟨y,w,rfl⟩:=pR hp ms rfl;have al:(y.map λm=>m.2.1).Pairwise (· < ·):=by
   rw[JB] at hs;have:(y.map (fn ∘ λm=>Jy m.1))=y.map λm=>m.2.1:=Kn λm g=>E m (w.mem_iff.mp g);rw[this] at hs;exact hs
  have af:(d7 s.heap (σ.a l) ws.toList).get? (σ.a l)=IK (QJ "list" #[] (if(#[]:Array Value).size == ws.toList.toArray.size then n else n+1)):=IS _ (IS _ (Qs P (λZ=>#[])));have aa:=Qs af (λZ=>(y.map λm=>Jy m.1).toArray);refine⟨_,rfl,_,_,ky (h':=(d7 s.heap (σ.a l) ws.toList).update (σ.a l) (JR λZ=>(y.map λm=>Jy m.1).toArray)) (k:=s.toks) (o:=.list ((y.map (·.2)).map (mV C))) T i r G (λb o B hb=>(J5 _ _ (LG B)).trans (fy hb B)) ?_ (IQ _) (λx=>⟨_,_,aa,?_,?_⟩) (λZ Y U q=>nomatch q),.n,rfl,h (y.map (·.2)) (w.map _) (by rw[JB];exact al)⟩
  ·rw[Mv];unfold d7;rw[I7,I7,Mv];exact IT (I8 _) (I8 _)
  ·rw[KN,IZ,w.length_eq];exact IT (JU H) (by decide)
  ·exact Cs λa q=>RV.mono x r.apart _ _ (X a (w.mem_iff.mp q))
mutual
theorem uG:Sp (.type "map")=pure [.type "map",.type "object"]:=by rw[mroOf_type];kernel_rfl
theorem nN:T9 "map" "__init__" "object.__init__" :=
 .of (owner:="object") (n:="__init__") (by rw[Jz,Jh];kernel_rfl) (by decide +kernel) (by decide +kernel) (by decide +kernel)
  (by first | exact .inl (by decide +kernel) | exact .inr (by decide +kernel)) (by rw[J6];kernel_rfl)
theorem ef:T9 "map" "__next__" "map.__next__" :=
 .of (owner:="map") (n:="__next__") (by rw[Jz,Jh];kernel_rfl) (by decide +kernel) (by decide +kernel) (by decide +kernel)
  (by first | exact .inl (by decide +kernel) | exact .inr (by decide +kernel)) (by rw[J6];kernel_rfl)
theorem iH:Nh QE "map.__next__"=IK Builtin.«map.__next__»:=MK (by kernel_rfl)
theorem jq(a:Value):NI "map.__next__" ⟨[a],[]⟩:=by kernel_rfl
theorem sS:JE (.type "map") "__len__"=pure none:=by rw[Jz,Jh];kernel_rfl
theorem rh:JE (.type "map") "__length_hint__"=pure none:=by rw[Jz,Jh];kernel_rfl
end
noncomputable def iF(l:Addr):Obj:={cls:=.type "list_iterator",data:=.fields #[.ref l,.int 0 0]}
noncomputable def sx(a:Addr):Obj:={cls:=.type "tuple",data:=.seq #[.ref a]}
noncomputable def jA(T:Addr)(f:Value):Obj:={cls:=.type "map",data:=.fields #[.ref T,f]}
variable {prog:Program}{w:K8}{E:Value->IY->Prop}{s:IY}
noncomputable def Off(σ:Sg)(n:Nat)(b:Addr):Prop:=¬σ.z b/\∀h,h<n->σ.a h≠b
theorem cC.FG{X σ σ' st st' s s'}(x:cC X σ st s σ' st' s'){b o}(a:s.heap.get? b=IK o)(h:Off σ st.length b):Off σ' st'.length b:=⟨x.x.zoff (Ja a) h.1,x.x.off (Ja a) h.2⟩
structure Aw(A:Around)(f c:V)(vs:List V)(g:V->V)(dep:St->Prop)(st:St):Prop where
 la:LstAt c vs dep
 hd:dep st
 hz:vs.length<=sizeLine
 hf:∀v∈vs,b5 A f [v] st λy st'=>y=g v/\st'=st
structure Dj(f c:V)(vs:List V)(g:V->V)(st:St)(σ₀:Sg)(s₀:IY)(LI S T M l:Addr)(fw:Value)(σ:Sg)(k:Nat)(s:IY):Prop where
 step:cC (λb=>b=LI∨b=S) σ₀ st s₀ σ st s
 oL:Off σ st.length LI
 oS:Off σ st.length S
 oT:Off σ st.length T
 oM:Off σ st.length M
 it:s.heap.IsListIter LI l k
 hT:s.heap.get? T=IK (sx LI)
 hM:s.heap.get? M=IK (jA T fw)
 hf:RV σ st.length s f fw
 hc:RV σ st.length s c (.ref l)
end
section
variable {A:Around}{f:V}{c:V}{vs:List V}{g:V->V}{d:St->Prop}{st:St}{σ₀:Sg}{σ:Sg}{s₀:IY}{s:IY}{LI:Addr}{S:Addr}{T:Addr}{M:Addr}{l:Addr}{a:Value}{k:Nat}
theorem Dj.go{σ' s' k' X}(m:Dj f c vs g st σ₀ s₀ LI S T M l a σ k s)(x:cC X σ st s σ' st s')(d:∀b,X b->b=LI∨b=S)(w:∃o,s.heap.get? S=IK o)(u:T≠LI)(p:M≠LI)(v:T≠S)(r:M≠S)(y:s'.heap.IsListIter LI l k'):Dj f c vs g st σ₀ s₀ LI S T M l a σ' k' s':=by
 refine IJ λz=>?_;obtain⟨B,i,_⟩:=m.it;obtain⟨A,h⟩:=w;refine z ?_;have j:Apart X σ st.length:=λb hz=>⟨λq=>(d b q).elim (λe=>m.oL.1 (e▸hz)) λe=>m.oS.1 (e▸hz),m.step.rel.zoff b hz⟩
 exact⟨m.step.trans (x.wk d),x.FG i m.oL,x.FG h m.oS,x.FG m.hT m.oT,x.FG m.hM m.oM,y,x.x.keep T _ m.hT (.inl λq=>Jo q) m.oT.2 λq=>(d _ q).elim u v,
  x.x.keep M _ m.hM (.inl λq=>Jo q) m.oM.2 λq=>(d _ q).elim p r,RV.mono x.x j _ _ m.hf,RV.mono x.x j _ _ m.hc⟩
noncomputable def tO(a:Array Value)(j:Nat):Obj:={cls:=.type "list",dict:=none,data:=.seq a j,slots:=#[]}
variable {R:Result->IY->Prop}
variable {F:dH}{lc:Lc}{Q:V->St->Prop}
structure E9(LI l:Addr)(fw:Value)(h H:Heap):Prop where
 size:H.objs.size=LI+3
 g1:H.get? LI=IK (iF l)
 g2:H.get? (LI+1)=IK (sx LI)
 g3:H.get? (LI+2)=IK (jA (LI+1) fw)
 keep:∀b o,h.get? b=IK o->H.get? b=IK o
inductive C4(A:Around)(f c:V)(st:St)(P:List V->Prop):Prop
 |mk (vs:List V) (g:V->V) (dep:St->Prop) (I:Aw A f c vs g dep st) (q:P (vs.map g))
inductive EX(P:V->V->Prop):List V->Prop
 |mk (a b:V) (h:P a b):EX P [a,b]
end
section
variable {A:Around}{st:St}{Q:V->St->Prop}{C:Addr}{N:Addr}{p:Addr}{f:Addr}{g:Str->Option Value}
theorem r0{fm c vs}(h:jv A fm (.v c::vs) st Q):b5 A (.o (Rm (.ref fm) c)) vs st Q:=by
 intro σ s w us ⟨b,e,hz,d,_⟩ f i r;subst e;refine KD (Mj ?_);refine nd_load d ?_;refine IP (a:=Vg (.call (.ref fm) ⟨c::us,[]⟩)) ⟨rfl,Mx (h σ s (c::us) ⟨_,_,rfl,rfl,f⟩ i r) λg s' z=>?_⟩;rcases g with e | (v | _ | _ | _) <;> first | exact z | exact z.elim
theorem Cw(c:TupAt C N p f g)(D:g "__len__"=none){a b d}(h:Q (.i 3) st):b5 A (.g .len) [.m C [a,b,d]] st Q:=by
 intro σ s w ws hw o k r;have hw:w=.builtin "len":=hw;subst hw;obtain⟨v,rfl,x,items,m,e,hz,y,R,H⟩:=fK o;subst e;obtain⟨nm,q,S,T,U,X,Y,B,fr,u,E,G,_⟩:=c.now k;have z:JQ (I6 W.prog W.w) s.heap (LU (.ref x)) (.ref C):=(Lw y).andThen .now;have J:JQ (I6 W.prog W.w) s.heap (KG (.ref x) "__len__") (IK (.builtin "tuple.__len__")):=by
  refine z.andThen ?_;have j:JE (.type "tuple") "__len__"=pure (IK (.builtin "tuple.__len__")):=PySem.F.slot_tuple_len.lookup;have:=gv (M:=I6 W.prog W.w) u E j;have this:=D▸this;exact this
 have P:JQ (I6 W.prog W.w) s.heap (Mn (.ref x) (.type "tuple")) true:=z.andThen (by
  have:=iu (M:=I6 W.prog W.w) u (.type "tuple");rw[show([Jy C,.type "tuple",.type "object"].contains (.type "tuple"))=true from by simp] at this;exact this)
 refine Calls.call_function_entry kind_len plain_len entry_len (args_len1 _) ?_;refine II (m:=oneArg "len" _) (IP ?_);refine II ?_;refine II (J.here ?_);refine I9 ?_;refine(show Sv (.builtin "tuple.__len__") (.ref x)=pure (.builtin "tuple.__len__",[.ref x]) from PySem.F.slot_tuple_len.bind _).symm▸?_;refine II (IP (II ?_));refine KD (Kj PySem.F.slot_tuple_len.plain PySem.F.entry_tuple_len ?_);refine @check_slot (I6 W.prog W.w) _ _ s "tuple.__len__" "tuple" "__len__" (.ref x) [] [] _ (by decide +kernel) (by decide +kernel) P (PySem.F.args_tuple_len_1 (.ref x)) ?_;show Jd _ _ (Tuple.tupleItemsOf (.ref x) >>= _) _ _ _;refine II (II (JS y rfl (IP ?_)));refine((show items.size=3 from by have:=H.len;rw[I3] at this;exact this)).symm▸?_;refine II (wpAny_mkInt (IP (IP ?_)));refine II (I9 (IP ?_));refine II (Nx ?_);rw[if_neg (by decide)];show Jd _ _ (if((3:Nat):Int) ≥ 2 ^ 63 then _ else _) _ _ _;rw[if_neg (by decide)];exact II (wpAny_mkInt (IP ⟨_,rfl,σ,st,cH k r (J2 (I8 _)),.i 3,⟨_,rfl⟩,h⟩))
end
end
section
variable {A:Around}{F:dH}{lc:Lc}{st:St}{Q:V->St->Prop}
mutual
theorem lz{x t}(hz:x.length<=sizeLine)(h:Q (.s (Qb x) 0) st):MethW A "str.rstrip" (.s x t) [] st Q :=
 have a {σ n s ws} {P:List Value->Prop} (h:cW σ n s [.s x t] ws) (k:∀u,P [.str x u]):P ws:=by
  obtain⟨w,rfl,u,rfl,_⟩:=fK h;exact k u
 λσ s w ws hw c i r=>by
 subst hw;exact a (P:=λws=>Wp A (JX _ ws) _ _) c λu=>wpAny_toks (Te P0 (Ng _ _ _) PySem.F.entry_str_rstrip (PySem.F.args_str_rstrip_1 _) (gives_str_rstrip x u).meets (post_val_or_made (λZ=>fits_stripped _ _ _ hz) λt' k d=>sI i r h d))
theorem oV{x t c texts dep}(la:LstAt c (cE texts) dep)(hd:dep st)(d:QV x texts=true)(h:Q (.s (OW x texts) 0) st):MethW A "str.join" (.s x t) [c] st Q:=λσ s w ws hw f i r=>by
 subst hw;obtain⟨v,u,rfl,⟨t,rfl,_⟩,D⟩:=jr f;obtain⟨l,items,m,rfl,C,hi⟩:=la σ st s u D hd r;have a {n ys}:∀ {ws:List Value},cW σ n s (cE ys) ws->∃l:List (Str×PY),ws=Rj l/\l.map (·.1)=ys:=by
  induction ys with
  |nil=>intro ws h;cases h;exact⟨[],rfl,rfl⟩
  |cons y ys E =>
   intro ws ⟨w,F,e,⟨t,g,_⟩,p⟩;obtain⟨l,q,z⟩:=E p;subst e g q z;exact⟨(y,t)::l,rfl,rfl⟩
 obtain⟨ps,j,o⟩:=a hi;exact wpAny_toks (SC.join (l:=ps) (texts:=texts) (by refine(j)▸?_;exact⟨_,C,rfl,m,rfl⟩) o d λt' k B=>sI i r h B)
theorem yN{n}(h:Q (.i n) st):b5 A (.g .int) [.i n] st Q:=λσ s w ws hw a i r=>by
 subst hw;obtain⟨v,rfl,t,rfl⟩:=fK a;exact call_int_int ⟨σ,st,.refl i r,.i n,⟨_,rfl⟩,h⟩
end
theorem CQ{body orelse i hs pos QF}(h:cK A F body lc st λf a c=>match f with | .next=>cK A F orelse a c QF | f=>QF f a c):eG A F (.Try body (i::hs) orelse [] pos) lc st QF :=
 λσ s p=>wpAny_Try_except (dX (h σ s p) λf s₁ e a c g d fr j q=>by
  cases g with
  |next=>cases j;exact iU d (q e s₁ ⟨d.inv,d.rel,fr⟩)
  |brk=>cases j;exact⟨e,a,c,d,fr,.brk,rfl,q⟩
  |cont=>cases j;exact⟨e,a,c,d,fr,.cont,rfl,q⟩
  |ret v=>obtain⟨w,rfl,hw⟩:=j;exact⟨e,a,c,d,fr,.ret v,⟨w,rfl,hw⟩,q⟩)
theorem oN{prog w E it l items}(j:l≠it):∀(n i:Nat) (s:IY) (Q:List Value->IY->Prop),s.heap.IsListIter it l i->s.heap.IsList l items->i+n<=items.size ->
  (∀h',h'.IsListIter it l (i+n)->JW it s.heap h'->Q ((items.toList.drop i).take n) {s with heap:=h'})->Jd (I6 prog w) A (draw (.ref it) n) Q E s
 |0,i,s,Q,e,Z,Y,o=>IP (o s.heap e (Qe ..))
 |n+1,i,s,Q,e,p,g,o=>by
  have h:i<items.size:=by exact b6 2 15 g
  refine II (N9 e p (x:=items[i]) (JC h) λq c a=>?_);refine II (I9 (oN j n (i+1) _ _ c (p.extBut a.extBut j) (by exact cO 11 17 g) λk d f=>IP ?_));have:=o k (by rw[show i+(n+1)=i+1+n by exact b6 8 7];exact d) (a.trans f);rw[J7 (by rw[I3];exact h),List.take_succ_cons,Array.getElem_toList] at this;exact this
theorem t5{c items dep}(z:A.handled=none)(la:LstAt c items dep)(hd:dep st):Ar A c items.length st items :=
 have a {prog w E} {s:IY} {t} {items:Array Value} {Q} (C:A.handled=none) (p:s.heap.IsList t items) (B:∀h',MC s.heap.objs.size s.heap h'->Q items.toList {s with heap:=h'}):Jd (I6 prog w) A (unpackItems (.ref t) items.size none) Q E s:=by
  have j:t≠s.heap.objs.size:=by obtain⟨o,F,_⟩:=p;exact Jw (Ja F)
  refine II ?_;refine II (Ld p.typeIs slot_list_iter.lookup (IP ?_));rw[if_neg (λq=>IW q)];refine II (I9 (Nv p ?_));refine II (I9 (oN j items.size 0 _ _ ⟨_,I0 _ rfl,rfl,rfl⟩ (p.push _) (Js (JK _)) λu f d=>?_));refine(Mk).symm▸?_;refine(KU (Js I3)).symm▸?_;rw[if_neg (by rw[I3];exact I2 _)];refine II (I9 (Ou C f ((p.push _).extBut d.extBut j:u.IsList t items) (by refine(JK ..).symm▸?_;exact Qv (IQ _)) λv g=>?_));exact IP (B v λb o h e=>g b o h (d.extBut b o h (IS _ e)))
 λσ s w hw i r=>by
 obtain⟨l,vs,m,rfl,D,x⟩:=la σ st s w hw hd r;have e:vs.size=items.length:=by refine(I3)▸?_;exact x.len
 refine(e)▸?_;exact cG (a z ⟨_,D,rfl,m,rfl⟩ λh' G hz=>by
  have y:=dQ (X:=dY) (k:=s.toks) i r (λb o h=>G b o (Jw (Ja h)) h) hz (IQ _);exact⟨x.step r y,y⟩)
theorem cW.AO{σ n s v x}(d:RV σ n s v x):∀ {vs:List V} {ws:List Value} (j:Nat),cW σ n s vs ws->cW σ n s (vs.set j v) (ws.set j x)
 |[],Z,Y,h=>by cases h;exact rfl
 |u::vs,Z,j,⟨w,a,e,f,c⟩=>by
  subst e;cases j with
  |zero=>exact⟨x,a,rfl,d,c⟩
  |succ j=>exact⟨w,a.set j x,rfl,f,cW.AO d j c⟩
theorem set_list{h vs k v Q}(T:cB)(e:st[h]?=IK (.list vs))(E:0<=k)(F:k.toNat<vs.length)(q:Q (st.set h (.list (vs.set k.toNat v)))):km A (.r h) (.i k) v st Q:=λσ s a b c w y hc i r=>by
 obtain⟨J,G⟩:=w;obtain⟨u,H⟩:=y;subst G H;obtain⟨ws,n,z,hsz,p⟩:=r.at_ h _ e;have C:ws.size=vs.length:=by refine(I3)▸?_;exact p.len
 have f:s.heap.IsList (σ.a h) ws:=⟨_,z,rfl,n,rfl⟩
 have d:k<2 ^ 63:=EI F (C▸hsz);unfold TH
 try with_reducible refine I9 ?_
 first | refine II (IP ?_) | skip
 refine II (TA f.typeIs (by decide) ?_);refine II (JH (name:=IM "__setitem__") f.typeIs TG
  (JG TG f.typeIs entry_list_setitem ?_ (args_list_setitem _ _ _)))
 show Jd _ _ (UA (.int k u) >>= _) _ _ s;refine II (wpAny_listSubscript_int (fitsIndex_of E d) ?_)
 clear d
 obtain⟨j,rfl⟩:=QA E;have B:j<ws.size:=by refine(C ..).symm▸?_;exact F
 refine II (II (wpAny_seqItemAt z (show(Kd.lst.obj ws n).data=.seq ws n from rfl) (IP ?_)));refine(JC B).symm▸?_;have D:JR (·.setIfInBounds j c) (Kd.lst.obj ws n)=Kd.lst.obj (ws.setIfInBounds j c) n:=by
  show({cls:=.type "list",data:=.seq (ws.setIfInBounds j c) (if((ws.setIfInBounds j c).size == ws.size)=true then n else n+1)}:Obj)=_;rw[if_pos (beq_iff_eq.mpr LY)];rfl
 have g:(s.heap.update (σ.a h) (JR (·.setIfInBounds j c))).get? (σ.a h)=IK (Kd.lst.obj (ws.setIfInBounds j c) n):=by
  refine(Jv _ z (by refine(D).symm▸?_;rfl)).trans ?_;exact(D).symm▸rfl
 have fin:PB σ st s (λZ=>Q) true {s with heap:=s.heap.update (σ.a h) (JR (·.setIfInBounds j c))} :=
  ⟨σ,_,eQ (k:=s.toks) (o:=.list (vs.set j v)) T i r J (Jx ..) (IQ _) (λx=>⟨_,n,g,by refine(LY).symm▸?_;exact hsz,by rw[Array.toList_setIfInBounds];exact cW.AO (RV.mono x r.apart v c hc) j (p.mono x r.apart)⟩) (λZ Y U q=>O.noConfusion q),q⟩
 refine II (wpAny_setSeqItemAt z (show(Kd.lst.obj ws n).data=.seq ws n from rfl) ?_)
 first
  |exact II (IP (IP ⟨.none,rfl,IP fin⟩))
  |exact IP ⟨.none,rfl,IP fin⟩
noncomputable def HX(A:Around)(o k:V)(st:St)(Q:V->St->Prop):Prop:=∀σ s u w,RV σ st.length s o u->RV σ st.length s k w->Inv s->Rel σ st s->Wp A (TN u w) (PV σ st s Q) s
theorem z0{h vs k v}(e:st[h]?=IK (.list vs))(p:0<=k)(w:vs[k.toNat]?=IK v)(q:Q v st):HX A (.r h) (.i k) st Q:=λσ s a b c d i r=>by
 obtain⟨C,j⟩:=c;obtain⟨u,o⟩:=d;subst j o;refine IJ λB=>?_;obtain⟨ws,n,y,hsz,f⟩:=r.at_ h _ e;obtain⟨x,g,z⟩:=f.get w;refine B ?_;rw[Ju] at g;exact S9 ⟨_,y,rfl,n,rfl⟩ p (EI (Array.getElem?_eq_some_iff.mp g).1 hsz) g ⟨σ,st,.refl i r,v,z,q⟩
theorem th{o ix value tpos pos op QF}(hi:∀B z new,augStore ix B z new=(do Mh [new,B,z] (TH B z new);release [new,B,z] [];pure .next))(h:c8 A F o lc st λB i=>c8 A F ix lc i λz st₂=>HX A B z st₂ λold j=>c8 A F value lc j λv k=>di A (OQ op) old v k λnew r=>km A B z new r (QF .next lc)):eG A F (.AugAssign (.Subscript o ix tpos) op value pos) lc st QF :=
 λσ s p=>wpAny_AugAssign_SubscriptAny (b0 (h σ s p) λD s₁ J i B u c T=>b0 (T J s₁ (p.step u)) λE ac M st₂ z a C U =>
  have y:=u.trans a;have c:=c.step u.rel a
  b0 (U M ac D E c C a.inv a.rel) λak ae P j old w ah X=>b0 (X P ae (p.step (y.trans w))) λal af Q k v d ai aa=>b0 (aa Q af ak al (ah.step w.rel d) ai d.inv d.rel) λam ag R r new x aj ab =>
   have g:=(w.trans d).trans x
   I5 (ab R ag D E am (c.step a.rel g) (C.step a.rel g) aj x.inv x.rel) (λZ an q=>q.casesOn λS H G q=>⟨S,lc,H,((y.trans g).trans G).iQ.ir,(p.step ((y.trans g).trans G)).f,.next,rfl,q⟩) λZ Y e=>e.elim) hi
noncomputable def FE(R:Str->Prop):V->Prop
 |.s x Z=>R x
 |_=>False
theorem qd{R v}(h:FE R v):∃x t,v=.s x t/\R x:=by cases v <;> first | exact⟨_,_,rfl,h⟩ | exact h.elim
theorem yx{value pos}(h:c8 A F value lc st λv e=>FE (λx=>x.length<=sizeLine/\Q (.s x 0) e) v):c8 A F (.FormattedValue value (-1) none pos) lc st Q:=λσ s p=>by
 refine wpAny_FormattedValue_plain (b0 (h σ s p) λw s₁ d c v a f q=>?_);refine IJ λg=>?_;obtain⟨x,t,rfl,hz,q⟩:=qd q;obtain⟨u,rfl,_⟩:=f;refine g ?_;exact wpAny_formatField_str ⟨d,c,a,.s x 0,⟨_,rfl,λq=>absurd rfl q⟩,q⟩ ⟨d,c,a.trans (cH a.inv a.rel (Jc _ _)),.s x 0,⟨_,rfl,λq=>absurd rfl q⟩,q⟩ hz
noncomputable def tS(A:Around)(F:dH)(lc:Lc)(Q:Str->St->Prop):List Expr->Str->St->Prop
 |[],a,st=>Q a st
 |e::es,a,st=>c8 A F e lc st λv c=>FE (λy=>a.length+y.length<=sizeLine/\tS A F lc Q es (a++y) c) v
theorem oB{Q P}:∀(es:List Expr) (d:Str) (σ c:Sg) (st a:St) (s s₁:IY),tS A F lc Q es d a->Pre F σ lc st s->Step σ st s c a s₁->(∀out σ' g s',Step σ st s σ' g s'->Q out g->P out s')->Joins (I6 W.prog W.w) A D5 (evalEach es F.env) d P s₁
 |[],d,σ,c,st,a,s,s₁,h,p,x,k=>k d c a s₁ x h
 |e::es,d,σ,c,st,a,s,s₁,h,p,x,k=>b0 (h c s₁ (p.step x)) λw i f st₂ v j o q=>by
  refine IJ λr=>?_;obtain⟨y,t,rfl,hz,q⟩:=qd q;obtain⟨u,rfl,_⟩:=o;refine r ?_;exact⟨y,u,rfl,by refine(MO ..).symm▸?_;exact hz,oB es _ σ f st st₂ s i q p (x.trans j) k⟩
theorem uS{a v2 rest pos}(h:tS A F lc (λout c=>out.length<=sizeLine/\Q (.s out 0) c) (a::v2::rest) Oi st):c8 A F (.JoinedStr (a::v2::rest) pos) lc st Q:=λσ s p =>
 wpAny_JoinedStr (oB _ _ σ σ st st s s h p p.refl λout σ' c s' x q=>⟨q.1,σ',c,x.trans (cH x.inv x.rel (I8 _)),.s out 0,⟨_,rfl,λq=>absurd rfl q⟩,q.2⟩)
end
section
variable {A:Around}{F:dH}{lc:Lc}{st:St}{Q:V->St->Prop}{K:Type}[DecidableEq K]{knd:KeyKind W.prog W.w K}{mk:List (K×V)->O}
noncomputable def tP(A:Around)(F:dH)(lc:Lc)(st:St){K:Type}[DecidableEq K](knd:KeyKind W.prog W.w K):List (Option Expr)->List Expr->List (K×V)->Prop
 |some k::d,v::vs,c::l=>c8 A F k lc st (λu a=>nV knd u c.1/\st=a)/\c8 A F v lc st (λu a=>c.2=u/\st=a)/\tP A F lc st knd d vs l
 |[],[],[]=>True
 |Z,Y,U=>False
inductive C1(σ:Sg)(st:St)(s:IY){K:Type}[DecidableEq K](knd:KeyKind W.prog W.w K)(l:List (K×V))(out:List (Value×Value))(s':IY):Prop
 |mk (σ':Sg) (x:Step σ st s σ' st s') (kvs:List (K×Value)) (hc:Carries knd out kvs) (hr:RK σ' st.length s' l kvs)
theorem oh{pos}:∀(r:List (Option Expr)) (vs:List Expr) (l:List (K×V)) (σ:Sg) (s:IY),tP A F lc st knd r vs l->Pre F σ lc st s->Wp A (evalPairs (pairTrees r vs F.env pos)) (C1 σ st s knd l) s
 |[],[],[],σ,s,h,p=>IP ⟨σ,p.refl,[],trivial,rfl,rfl⟩
 |some k::r,v::vs,u::l,σ,s,⟨X,h2,h3⟩,p=>by
  show Jd _ _ (eval k F.env >>= λu=>Mh [u] (do let x <-eval v F.env;OM pos;pure x) >>= λS=>(Mh [u,S] (evalPairs (pairTrees r vs F.env pos))) >>= λz=>pure ((u,S)::z)) _ _ s;refine II (b0 (X σ s p) λT s₁ f H Q a C w=>?_);obtain⟨hk,j⟩:=w;subst j;refine II (I9 (II (b0 (h2 f s₁ (p.step a)) λE B g st₂ R c D y=>?_)));obtain⟨e,o⟩:=y;subst e o;refine II (m:=OM pos) (K4 (IP (II (I9 (I5 (oh r vs l g B h3 (p.step (a.trans c))) (λout M q=>?_) λZ Y e=>e.elim)))));obtain⟨i,d,G,hc,hr⟩:=q;exact IP ⟨i,(a.trans c).trans d,(u.1,E)::G,⟨hk _ _ _ _ C,rfl,hc⟩,RK.cons (D.step c.rel d) hr⟩
 |[],[],Z::Y,U,P,h,L=>h.elim
 |[],Z::Y,U,P,L,h,J=>h.elim
 |none::Z,Y,U,P,L,h,J=>h.elim
 |some Z::Y,[],U,P,L,h,J=>h.elim
 |some Z::Y,U::P,[],L,J,h,I=>h.elim
omit [DecidableEq K] in
theorem sM{m}{l:List (K×Value)}{a:K×Value}(h:((m++a::l).map (·.1)).Nodup):a.1∉m.map (·.1):=λq=>by
 rw[Jb,M7] at h;exact h.2.2 _ q _ (Je ..) rfl
theorem mR:∀(l m:List (K×Value)),((m++l).map (·.1)).Nodup->merged m l=m++l
 |[],m,Z=>(Jj m).symm
 |kv::l,m,h=>by
  have e:NH m kv.1 kv.2=m++[kv]:=by
   unfold NH;rw[if_neg];intro q;obtain⟨x,a,e⟩:=List.any_eq_true.mp q;exact sM h (Qz.mpr ⟨x,a,of_decide_eq_true e⟩)
  show merged (NH m kv.1 kv.2) l=_;rw[e,mR l (m++[kv]) (by rw[I1];exact h),I1];rfl
theorem uT{keys:List (Option Expr)}{c:List Expr}{pos:Ua}{l:List (K×V)}(T:cB)(D:gX knd mk)(u:keys.all (·.isSome)=true)(hl:keys.length=c.length)(h0:keys≠[])(C:keys.length<=15)(J:(l.map (·.1)).Nodup)(hp:tP A F lc st knd keys c l)(h:Q (.r st.length) (st++[mk l])):c8 A F (.Dict keys c pos) lc st Q:=by
 intro σ s p;have hn:=pairTrees_length keys c F.env pos u hl;have v:=d6 (X:=dY) (o:={cls:=.type "dict",data:=.dict #[]}) p.i p.r;refine wpAny_Dict_pairs (knd:=knd) (zip_pairTrees keys c F.env pos u hl) (λH=>h0 (List.length_eq_zero_iff.mp (by refine(hn)▸?_;refine(H).symm▸?_;rfl))) (by refine(hn).symm▸?_;exact C) (I5 (oh keys c l σ _ hp (p.step v)) (λout s₁ q=>?_) λZ U e=>e.elim);obtain⟨σ',f,B,hc,M⟩:=q;have j:(s.heap.push {cls:=.type "dict",data:=.dict #[]}).get? s.heap.objs.size=IK {cls:=.type "dict",data:=.dict #[]}:=I0 _ rfl;have lt:=Ja j;have g:¬σ.z s.heap.objs.size/\∀h,h<st.length->σ.a h≠s.heap.objs.size:=⟨λz=>I2 _ (p.r.zlt _ z),λh q e=>I2 _ (e▸p.r.lt q)⟩
 have d:¬σ'.z s.heap.objs.size/\∀h,h<st.length->σ'.a h≠s.heap.objs.size:=⟨f.x.zoff lt g.1,f.x.off lt g.2⟩
 have y:s₁.heap.DictOf knd s.heap.objs.size []:=by
  obtain⟨o,G,q⟩:∃o,(s.heap.push {cls:=.type "dict",data:=.dict #[]}).get? s.heap.objs.size=IK o/\o.IsDictOf knd []:=⟨_,j,#[],0,⟨rfl,rfl,rfl⟩,rfl,λZ H=>by simp at H,Uy,N5⟩
  exact Heap.dictOf_iff.mpr ⟨o,f.x.keep _ o G (by have G:=j▸G;cases G;exact b9 rfl) g.2 id,q⟩
 refine⟨B,hc,y,λh' R hs=>?_⟩;rw[mR B [] (by rw[L8,M.1];exact J),L8] at R;obtain⟨o',E,P⟩:=Heap.dictOf_iff.mp R;have S:=p.i.size;have w:=fU (X:=(· =s.heap.objs.size)) (k:=s₁.toks+out.length) T f.inv f.rel S rfl d.1 d.2 hs (Jc _ _);exact⟨_,_,(g0 (o:=mk l) (((v.trans f).iQ.trans w).fresh (Y:=dY) λb e=>.inr (Js e.symm)) (IQ _) (Ja E) S d (λk=>D.of _ _ _ _ _ ⟨o',B,E,P,M.1,k (M.2.mono w.x λb hz=>⟨λe=>d.1 (e▸hz),f.rel.zoff b hz⟩)⟩) (D.gen l)),.r st.length,⟨by rw[IL];exact Jg _,congrArg Jy (if_pos rfl).symm⟩,h⟩
end
structure Bt(X:Addr->Prop)(XG:Nat->Prop)(s s':IY):Prop where
 inv:Inv s'
 keep:∀b o,s.heap.get? b=IK o->dp o->¬X b->s'.heap.get? b=IK o
 grow:s.heap.objs.size<=s'.heap.objs.size
 gkeep:∀g y,s.gens[g]?=IK y->¬XG g->s'.gens[g]?=IK y
 ggrow:s.gens.size<=s'.gens.size
 tgrow:s.toks<=s'.toks
structure GC where
 A:Around
 F:dH
 N:Nat
 NG:Nat
 X:Addr->Prop
 XG:Nat->Prop
 ys:List Str
structure GC.Ok(G:GC):Prop where
 x:∀b,G.X b->b<G.N/\b≠G.F.L
 xg:∀g,G.XG g->g<G.NG
 own:G.F.L<G.N
structure nH(G:GC)(s₀ s:IY):Prop where
 keep:∀b o,b<G.N->s₀.heap.get? b=IK o->dp o->b≠G.F.L->s.heap.get? b=IK o
 gkeep:∀g y,g<G.NG->s₀.gens[g]?=IK y->s.gens[g]?=IK y
 grow:s₀.heap.objs.size<=s.heap.objs.size
 ggrow:s₀.gens.size<=s.gens.size
 tgrow:s₀.toks<=s.toks
structure Fi(G:GC)(σ:Sg)(n:Nat)(s:IY)(p:Addr×Obj):Prop where
 at_:s.heap.get? p.1=IK p.2
 so:dp p.2
 lo:G.N<=p.1
 ne:p.1≠G.F.L
 z:¬σ.z p.1
 off:∀h,h<n->σ.a h≠p.1
structure Pin where
 os:List (Addr×Obj)
 vs:List (V×Value)
structure lQ(G:GC)(Hd:Pin)(σ:Sg)(lc:Lc)(st:St)(ys:List Str)(s₀ s:IY):Prop where
 p:Pre G.F σ lc st s
 since:nH G s₀ s
 own:∀h,h<st.length->G.N<=σ.a h
 off:∀b,σ.z b->¬G.X b
 gown:∀(h:Nat) g c L,st[h]?=IK (.gen g c L)->G.NG<=g
 hd:∀p∈Hd.os,Fi G σ st.length s p
 kv:∀p∈Hd.vs,RV σ 0 s p.1 p.2
 suf:ys <:+ G.ys
 size:G.N<=s.heap.objs.size
 gsize:G.NG<=s.gens.size
noncomputable def sd(b:Addr)(s:IY):Prop:=∃o,s.heap.get? b=IK o/\dp o
inductive GY(G:GC)(n:Nat)(s₀:IY)(v:Value)(s:IY)(kap:Resume->IY->Prop):Prop
 |mk (k:Nat) (y:Str) (u:PY) (hk:G.ys[k]?=IK y) (hv:v=.str y u) (hn:k+n+1=G.ys.length) (i:Inv s) (sn:nH G s₀ s) (so:sd G.F.L s) (next:∀s',Bt G.X G.XG s s'->kap (.send .none) s')
noncomputable def SG(G:GC)(n:Nat)(s₀:IY)(c:Code)(t:Qx Fin)(a:List SI)(s:IY):Prop :=
 Ve (I6 W.prog W.w) G.A (λn s₀ r s₁=>r=.ok (.ret .none)/\n=0/\Inv s₁/\nH G s₀ s₁/\sd G.F.L s₁) (GY G) n s₀ c t a s
section
variable {G:GC}{i:Pin}{σ σ':Sg}{lc r:Lc}{st a:St}{ys:List Str}{s₀ s s':IY}
theorem nH.refl:nH G s s:=⟨λZ Y U h P L=>h,λZ Y U h=>h,IQ _,IQ _,IQ _⟩
theorem lQ.so(g:lQ G i σ lc st ys s₀ s):sd G.F.L s:=by
 refine IJ λe=>?_;obtain⟨m,c,_⟩:=g.p.f.ns;have a:=c;obtain⟨o,es,ep,d,_⟩:=a;refine e ?_;exact⟨o,d,fC c d⟩
theorem lQ.F3(ok:G.Ok)(g:lQ G i σ lc st ys s₀ s)(b:Bt G.X G.XG s s'):lQ G i σ lc st ys s' s':=by
 have kp:Kp G.X σ st.length s σ s':=⟨λZ h=>h,λc o h u Z J=>b.keep c o h u J,b.tgrow⟩
 have d:Apart G.X σ st.length:=λc hz=>⟨g.off c hz,g.p.r.zoff c hz⟩
 have sm:gF σ st.length σ st.length:=λh q=>⟨q,rfl⟩
 obtain⟨m,A,H⟩:=g.p.f.ns;exact⟨⟨b.inv,⟨λh o e=>(g.p.r.at_ h o e).c0 kp d sm (λy M u=>b.keep _ y M u ((λh q e=>I2 _ (IU (ok.x _ e).1 (g.own h q)):∀h,h<st.length->¬G.X (σ.a h)) h (List.getElem?_eq_some_iff.mp e).1)) (λj c L eo F=>b.gkeep j _ F λE=>I2 _ (IU (ok.xg j E) (g.gown h j c L (eo▸e)))),g.p.r.above,g.p.r.inj,λc hz=>IU (g.p.r.zlt c hz) b.grow,g.p.r.zoff⟩,
  ⟨g.p.f.above,⟨m,A.at λo B=>b.keep _ o B (fC A B) λq=>(ok.x _ q).2 rfl,λx v C D=>by obtain⟨w,P,Q⟩:=H x v C D;exact⟨w,P,RV.c0 kp d v _ _ sm w Q⟩⟩,g.p.f.offz,g.p.f.offh,g.p.f.kind,g.p.f.glob,g.p.f.bi,g.p.f.cells⟩⟩,
  .refl,g.own,g.off,g.gown,λp k=>have q:=g.hd p k;⟨b.keep _ _ q.at_ q.so λe=>I2 _ (IU (ok.x _ e).1 q.lo),q.so,q.lo,q.ne,q.z,q.off⟩,λp k=>RV.c0 kp d p.1 0 0 (λZ q=>absurd q (I4 _)) p.2 (g.kv p k),g.suf,IT g.size b.grow,IT g.gsize b.ggrow⟩
theorem lQ.step(ok:G.Ok)(g:lQ G i σ lc st ys s₀ s)(x:dT (· =G.F.L) G.F.m σ st s σ' a s')(f:ee G.F σ' a.length r s'):lQ G i σ' r a ys s₀ s':=by
 have E:∀ {b},qq G.F.m σ st.length s b->G.N<=b:=λq=>q.elim (λd=>by obtain⟨k,_,h,e⟩:=d;exact e▸g.own k h) λq=>IT g.size q;refine⟨⟨x.inv,x.rel,f⟩,⟨λb o B v so A=>x.x.keep b o (g.since.keep b o B v so A) so (λh q e=>I2 _ (IU B (e▸g.own h q))) A,λj y C v=>x.gkeep j y (g.since.gkeep j y C v) λh c L e=>I2 _ (IU C (g.gown h j c L e)),IT g.since.grow x.x.grow,IT g.since.ggrow x.ggrow,IT g.since.tgrow x.x.tgrow⟩,
  λh q=>?_,λb hz D=>?_,λh j c L e=>?_,λp w=>have q:=g.hd p w;⟨x.x.keep _ _ q.at_ q.so q.off q.ne,q.so,q.lo,q.ne,x.x.zoff (Ja q.at_) q.z q.off,x.x.off (Ja q.at_) q.off⟩,λp w=>RV.c0 x.x.kp (g.p.f.kO g.p.r rfl) p.1 0 0 (λZ q=>absurd q (I4 _)) p.2 (g.kv p w),g.suf,IT g.size x.x.grow,IT g.gsize x.ggrow⟩
 ·exact(x.x.new h q).elim (λz=>(x.x.ext h z.1 z.2).2▸g.own h z.2) E
 ·exact(x.x.znew b hz).elim (λz=>g.off b z D) λz=>I2 _ (IU (ok.x b D).1 (E z))
 ·exact(x.gdom h j c L e).elim (λu=>by obtain⟨h',c',H,z⟩:=u;exact g.gown h' j c' H z) λz=>IT g.gsize z
section
variable (G:GC)(g:Pin)(c:Code)(e:List SI)
noncomputable def GK(K:Flow->Qx Fin)(Q:Fl->Lc->St->List Str->Prop):Prop :=
 ∀f a σ lc st ys s₀ s,RF σ st.length s a f->Q a lc st ys->lQ G g σ lc st ys s₀ s->SG G ys.length s₀ c (K f) e s
noncomputable def AA(c':Stmt)(lc:Lc)(st:St)(ys:List Str)(Q:Fl->Lc->St->List Str->Prop):Prop :=
 ∀K d a f σ s₀ s,a false=false->GK G g c e K Q->lQ G g σ lc st ys s₀ s->SG G ys.length s₀ c ((exec c' G.F.env).wrap K d a f) e s
noncomputable def kQ(l:List Stmt)(lc:Lc)(st:St)(ys:List Str)(Q:Fl->Lc->St->List Str->Prop):Prop :=
 ∀K d a f σ s₀ s,a false=false->GK G g c e K Q->lQ G g σ lc st ys s₀ s->SG G ys.length s₀ c ((OH l G.F.env).wrap K d a f) e s
end
variable {c:Code}{d:List SI}{Q:Fl->Lc->St->List Str->Prop}
theorem fR{c'}(ok:G.Ok)(h:eG (G.A.over c d) G.F c' lc st λf r a=>Q f r a ys):AA G i c d c' lc st ys Q :=
 λK u v w σ s₀ s o j g=>PD (dX (h σ s g.p) λf s' σ' r a e x fr k q=>j f e σ' r a ys s₀ s' k q (g.step ok x fr))
theorem eu(h:Q .next lc st ys):kQ G i c d [] lc st ys Q:=λK f j k σ s₀ s e a g=>seg_execs_nil (a .next .next σ lc st ys s₀ s rfl h g)
theorem cZ{c' l}(h:AA G i c d c' lc st ys λf r a j=>match f with | .next=>kQ G i c d l r a j Q | f=>Q f r a j):kQ G i c d (c'::l) lc st ys Q :=
 λK p u x σ s₀ s e k g=>seg_execs_cons (h _ p u x σ s₀ s e (λf y σ lc st ys s₀ s o q g=>by
  cases y with
  |next=>cases o;exact q K p u x σ s₀ s e k g
  |brk=>cases o;exact k _ .brk σ lc st ys s₀ s rfl q g
  |cont=>cases o;exact k _ .cont σ lc st ys s₀ s rfl q g
  |ret v=>obtain⟨w,rfl,hw⟩:=o;exact k _ (.ret v) σ lc st ys s₀ s ⟨w,rfl,hw⟩ q g) g)
theorem wZ{y}{l ys:List Str}(h:(y::l) <:+ ys):∃k,ys[k]?=IK y/\k+l.length+1=ys.length:=by
 obtain⟨p,rfl⟩:=h;exact⟨p.length,by rw[Jr (IQ _),KY];rfl,by rw[IL,JA];rfl⟩
mutual
theorem gT{e ypos pos y l}(ok:G.Ok)(M:ys=y::l)(D:Ph d=none)(C:d.any M9=false)(B:G.F.env.scope.isCoroutine=false)(hi:MU G.F.env=false)(h:c8 (G.A.over c d) G.F e lc st λv a=>FE (λx=>x=y/\Q .next lc a l) v):AA G i c d (.Expr (.Yield (IK e) ypos) pos) lc st ys Q:=by
 subst M;intro K Hh gd lv σ s₀ s E S g;refine seg_Expr_Yield D E C (I5 (h σ s g.p) (λw s' q=>q.casesOn λσ' a x v X p aa r=>?_) λZ Y e=>e.elim) B hi;obtain⟨x',t,P,R,U⟩:=qd p;subst P R;obtain⟨u,rfl,_⟩:=X;have o:=g.step ok x.iQ.ir (g.p.step x).f;refine IJ λzz=>?_;obtain⟨k,H,J⟩:=wZ o.suf;refine zz ?_;refine⟨k,x',u,H,rfl,J,o.p.i,o.since,o.so,λj T=>?_⟩;have z:=o.F3 ok T;exact r .none j (S .next .next σ' lc a l j j rfl U {z with suf:=(R7 _ _).trans o.suf})
theorem te{test body orelse pos}(ok:G.Ok)(h:lP (G.A.over c d) G.F test lc st λb a=>Br b (kQ G i c d body lc a ys Q) (kQ G i c d orelse lc a ys Q)):AA G i c d (.If test body orelse pos) lc st ys Q:=by
 intro K k o r σ s₀ s j v g;unfold SG;rw[exec_If];show Ve _ _ _ _ _ _ _ (.at pos λZ=>(RC test G.F.env (eval test G.F.env) >>= λb=>if b=true then OH body G.F.env else OH orelse G.F.env).wrap K k o r) d s;refine UE ?_;rw[LB,MB];refine PD (I5 (eA (P:=λb s'=>SG G ys.length s₀ c ((if b=true then OH body G.F.env else OH orelse G.F.env).wrap K k o r) d s') (h σ s g.p) λb s' σ' a x q=>?_) (λZ Y q=>q) λZ Y e=>e.elim);have u:=g.step ok x.iQ.ir (g.p.step x).f;cases b with
 |true=>exact q.t rfl K k o r σ' s₀ s' j v u
 |false=>exact q.f rfl K k o r σ' s₀ s' j v u
end
end
section
variable {prog:Program}{w:K8}{A:Around}{E:Value->IY->Prop}{s:IY}
theorem q8{a:Addr}{g n:Nat}{i:PT}{fin:Flow}{P:Nat->IY->IY->Prop}{Y:Protocol}{Q:Option Value->IY->Prop}(f:fin=.next∨fin=.ret .none)(q:A.handled=none)(z:s.heap.NoLimit)(e:A.depth<recursionLimit)(k:s.heap.IsGen a g)(h:s.gens[g]?=IK i)(d:i.Goes (I6 prog w) A.in1 (λn s₀ r s₁=>r=.ok fin/\P n s₀ s₁) Y n (.send .none) (s.setGen g .running))(y:∀v s₁ c,c.bare=true->Y (n-1) (s.setGen g .running) v s₁ (λF p=>match n with
    |0=>False
    |m+1=>c.Goes (I6 prog w) A.in1 (λn s₀ r s₁=>r=.ok fin/\P n s₀ s₁) Y m F p)->Q (IK v) (s₁.setGen g c)) (u:∀s₁,P n (s.setGen g .running) s₁->∀h',(∀b o,s₁.heap.get? b=IK o->h'.get? b=IK o)->s₁.heap.objs.size<=h'.objs.size->Q none {s₁.setGen g .finished with heap:=h'}) :
  Jd (I6 prog w) A (Lj (.ref a)) Q E s:=by
 refine II (Ko (JH (name:=IM "__next__") k.typeIs U6
  (JG U6 k.typeIs entry_gen_next ?_ (args_gen_next _))))
 show Jd _ A.in1 (SK (.ref a) (.send .none)) _ _ s;refine II (I9 (wpAny_genNumber k (II (wpAny_genState h ?_))));cases i with
 |running=>exact d.elim
 |finished=>exact d.elim
 |_ =>
  refine II (wpAny_roomToWake z e ?_);refine wpAny_resumeQ h d (λx s₁ D=>?_) (λv s₁ c j C=>?_)
  ·obtain⟨rfl,B⟩:=D;rcases f with rfl | rfl
   all_goals
    show Jd _ A.in1 (Tc (.type "StopIteration") [] >>= _) _ _ _;refine II ?_;delta Tc newTuple;dsimp only;refine II (JN ?_ (by size_fits));refine II (m:=KR _ _) (Mo (a:=Lp) (by first | rfl | (simp only[KR];rfl)) ?_);refine JN ?_ (by size_fits);refine II (II (NF ?_))
    first | refine(show A.in1.handled=none from q).symm▸?_ | rw[q]
    refine OD ?_;refine II (Lu (T:="StopIteration") (b:=true) ⟨_,I0 _ rfl,rfl⟩ Mw ?_);exact IP (u s₁ B _ (λb o j=>IS _ (IS _ j)) (by
     have:s₁.heap.objs.size<=((s₁.setGen g PT.finished).heap.objs.size):=IQ _;simp only[I7];exact b6 18 20 this))
  ·exact IP ⟨v,rfl,IP (y v s₁ c j C)⟩
inductive Drawn(Gs:List Str->IY->Prop)(X:Addr->Prop)(y:Str)(l:List Str)(s:IY)(r:Option Value)(s':IY):Prop
 |mk (u:PY) (e:r=IK (.str y u)) (h:Gs l s') (t:s.toks<=s'.toks) (k:∀b o,X b->s.heap.get? b=IK o->dp o->s'.heap.get? b=IK o)
inductive C6(Fin:IY->Prop)(X:Addr->Prop)(s:IY)(r:Option Value)(s':IY):Prop
 |mk (e:r=none) (h:Fin s') (t:s.toks<=s'.toks) (k:∀b o,X b->s.heap.get? b=IK o->dp o->s'.heap.get? b=IK o)
structure u4(A:Around)(I:Addr)(X:Addr->Prop)(Gs:List Str->IY->Prop)(Fin:IY->Prop):Prop where
 typ:∀l s,Gs l s->s.TypeIs (.ref I) "generator"
 next:∀y l s,Gs (y::l) s->Wp A (Lj (.ref I)) (Drawn Gs X y l s) s
 stop:∀s,Gs [] s->Wp A (Lj (.ref I)) (C6 Fin X s) s
 self:∀l s (P:Value->IY->Prop) (E:Value->IY->Prop),Gs l s->P (.ref I) s->Jd (I6 W.prog W.w) A (Mm (.ref I)) P E s
 frame:∀l s a h' tk,Gs l s->X a->JW a s.heap h'->s.toks<=tk->Gs l {s with heap:=h',toks:=tk}
noncomputable def Ay(S:Addr)(l:List Str)(s:IY):Prop:=∃a c,s.heap.get? S=IK (Kd.lst.obj a c)/\PL a.toList l
variable {I:Addr}{S:Addr}{d:List Str->IY->Prop}{Fin:IY->Prop}{R:Result->IY->Prop}
mutual
theorem strs_snoc{y u}:∀ {vs:List Value} {l:List Str},PL vs l->PL (vs++[.str y u]) (l++[y])
 |Z,Y,h=>by
  induction h with
  |nil=>exact .cons _ u .nil
  |cons y t Z a=>exact .cons y t a
theorem qF:∀ {vs:List Value} {l:List Str},PL vs l->vs.length=l.length
 |Z,Y,h=>by
  induction h with
  |nil=>rfl
  |cons y t Z a=>exact congrArg (· + 1) a
end
theorem lq(g:u4 A.in1 I (· =S) d Fin)(j:Value):∀(l k:List Str) (s:IY),k.length+l.length<=sizeLine->d l s->Ay S k s ->
  (∀s',Fin s'->Ay S (k++l) s'->R (.ok (.ret j)) s')->M6 (I6 W.prog W.w) A (.builtin "list.extend.loop" ⟨[.ref S,.ref I,j],[]⟩) R s
 |[],k,s,hz,i,⟨a,c,x,f⟩,v=>by
  refine LF MY ?_;refine(K6 MX _).symm▸?_;refine II (I5 (g.stop s i) (λr s' q=>?_) λZ Y e=>e.elim);obtain⟨e,z,E,B⟩:=q;subst e;exact IP (v s' z ⟨a,c,B S _ rfl x (Kd.solid ..),by rw[Jj];exact f⟩)
 |y::l,k,s,hz,i,⟨a,c,x,f⟩,v=>by
  refine LF MY ?_;refine(K6 MX _ ..).symm▸?_;show Jd _ A.in1 (Lj (.ref I) >>= _) _ _ s;refine II (I5 (g.next y l s i) (λr s' q=>?_) λZ Y e=>e.elim);obtain⟨u,e,p,E,B⟩:=q;subst e;have o:=B S _ rfl x (Kd.solid ..);have C:=qF f;rw[I3] at C;rw[JA] at hz;refine II ?_;refine KW o rfl (IP ⟨MP MX _,lq g j l (k++[y]) _ (by refine(IL).symm▸?_;exact cO 11 17 hz) (g.frame l s' S _ s'.toks p rfl (Jx ..) (IQ _)) ⟨a.push (.str y u),_,Jv (JR (·.push (.str y u))) o rfl,by rw[Ly];exact strs_snoc f⟩ λD z h=>v D z (by rw[I1] at h;exact h)⟩)
   (by exact cO 18 21 hz C) (by show(a.push (.str y u)).size<=sizeLine+1;refine(L3 ..).symm▸?_;exact fc 18 22 hz C)
theorem td(g:u4 A.in1 I (· =S) d Fin){l}(i:Value)(j:Nat)(c:d l s)(o:S≠I)(p:s.heap.get? S=IK (Kd.lst.obj #[] j))(x:l.length<=sizeLine)(u:∀s',Fin s'->Ay S l s'->R (.ok (.ret i)) s') :
  Jd (I6 W.prog W.w) A.in1 (Oy (.ref S) (.ref I) i)
   (λfin s'=>match fin with | .done f=>R (.ok f) s' | .again c'=>c'.quiet=true/\M6 (I6 W.prog W.w) A c' R s') (λe s'=>R (.error e) s') s:=by
 refine II (Px (g.typ _ _ c) ?_);have r:LC (.ref S) (.ref I)=false:=by simp [LC,o]
 rw[if_neg (by rw[r];decide)];refine II (g.self _ _ _ _ c ?_);refine II (I9 ?_);refine II (Ld (g.typ _ _ c) F.gen_no_len ?_);refine II (Ld (g.typ _ _ c) F.gen_no_hint ?_);refine IP ?_;show Jd _ A.in1 (rule "list.extend.makes-room" >>= λZ=>Pe (.ref S) >>= λZ =>
  UP (.builtin "list.extend.loop" ⟨[.ref S,.ref I,i],[]⟩)) _ _ _
 refine II (Li ?_);refine II ?_;refine II (KW p rfl ?_);have a:=Jv (JR (·.push Lp)) p rfl;refine KW (hz:=by seq_fits) a rfl ?_;have h:=Jv (JR (·.pop)) a rfl;have y:JW S s.heap ((s.heap.update S (JR (·.push Lp))).update S (JR (·.pop))) :=
  ⟨by simp only[mv],λb q=>(J5 _ _ (LG q)).trans (J5 _ _ (LG q))⟩
 exact IP ⟨MP MX _,lq g _ l [] _ (by refine(NQ).symm▸?_;rw[JK];exact x) (g.frame l s S _ s.toks c rfl y (IQ _)) ⟨_,_,h,.nil⟩ λs' v k=>u s' v k⟩
theorem rj{l Q}(a:S=s.heap.objs.size)(g:u4 A.in1.in1 I (· =S) d Fin)(h:d l {s with heap:=s.heap.push (Kd.lst.obj #[] 0)})(f:S≠I)(k:l.length<=sizeLine)(i:∀s',Fin s'->Ay S l s'->Q (.ref S) s'):Wp A (JX (.type "list") [.ref I]) Q s:=by
 subst a;refine UN (Q₁:=λobj s₁=>obj=.ref s.heap.objs.size/\s₁={s with heap:=s.heap.push {cls:=.type "list",data:=.seq #[]}}) F.called_list (F.typeCall_list_1 _) F.entry_list_init
  (Vb _ ⟨rfl,rfl⟩) λobj s₁ c=>?_
 obtain⟨rfl,rfl⟩:=c;have a:(s.heap.push {cls:=.type "list",data:=.seq #[]}).get? s.heap.objs.size=IK {cls:=.type "list",data:=.seq #[]}:=I0 _ rfl;refine⟨⟨_,a,rfl⟩,F.args_list_init_2 _ _,?_⟩;show Jd _ A.in1.in1 (do let old <-Pf (.ref s.heap.objs.size);MR (.ref s.heap.objs.size) (λZ=>#[]);letGo old.toList.reverse;Oy (.ref s.heap.objs.size) (.ref I) .none) _ _ _;refine II ?_;refine II (JS a rfl (IP ?_));refine II (KW a rfl ?_);refine II (Nx ?_);refine td (A:=A.in1) (s:={s with heap:=(s.heap.push {cls:=.type "list",data:=.seq #[]}).update s.heap.objs.size (JR (λZ=>#[]))}) g .none _ (g.frame l {s with heap:=s.heap.push {cls:=.type "list",data:=.seq #[]}} s.heap.objs.size _ s.toks h rfl (Jx ..) (IQ _)) f (Jv (JR (λZ=>(#[]:Array Value))) a rfl) k λs' j e=>⟨rfl,i s' j e⟩
noncomputable def qt(A:Around)(c:Code)(F:dH)(lc:Lc)(ys:List Str):Prop :=
 ∀G σ s,G.A=A->G.F=F->G.ys=ys->G.Ok->lQ G ⟨[],[]⟩ σ lc [] ys s s->SG G ys.length s c ((I6 W.prog W.w).den c) [] s
variable {X:Addr->Prop}{p:Nat->Prop}{s₁:IY}{s₂:IY}{g:Nat}{x:PT}{y:PT}
mutual
theorem sY(i:Inv s)(d:x.bare=true):Inv (s.setGen g x):=by
 refine⟨i.old,i.stat,i.os,λy c=>?_,i.size,i.tk,i.tb⟩;unfold PZ at c;obtain⟨j,a,rfl⟩:=Array.mem_iff_getElem.mp c;rw[LY] at a;refine(Array.getElem_setIfInBounds a).symm▸?_
 split
 ·exact d
 ·exact i.bare _ (Array.getElem_mem a)
theorem vo{j}(h:j≠g):(s.setGen g x).gens[j]?=s.gens[j]?:=Array.getElem?_setIfInBounds_ne (LG h)
theorem qJ:(s.setGen g x).gens.size=s.gens.size:=LY
end
theorem n7(h:s.gens[g]?=IK y):(s.setGen g x).gens[g]?=IK x:=by
 have:=(Array.getElem?_eq_some_iff.mp h).1;unfold PZ;simp [this]
theorem gU(i:Inv s)(d:x.bare=true)(a:p g):Bt X p s (s.setGen g x) :=
 ⟨sY i d,λZ Y h U P=>h,IQ _,λj st h c=>by refine(vo (show j≠g from λe=>c (e▸a))).symm▸?_;exact h,Js qJ.symm,IQ _⟩
theorem Bt.trans(x:Bt X p s s₁)(y:Bt X p s₁ s₂):Bt X p s s₂ :=
 ⟨y.inv,λb o h so a=>y.keep b o (x.keep b o h so a) so a,IT x.grow y.grow,λj st h a=>y.gkeep j st (x.gkeep j st h a) a,IT x.ggrow y.ggrow,IT x.tgrow y.tgrow⟩
structure ze(G:GC)(s₀ s:IY):Prop where
 keep:∀b o,b<G.N->s₀.heap.get? b=IK o->dp o->b≠G.F.L->¬G.X b->s.heap.get? b=IK o
 gkeep:∀g y,g<G.NG->s₀.gens[g]?=IK y->¬G.XG g->s.gens[g]?=IK y
 grow:s₀.heap.objs.size<=s.heap.objs.size
 ggrow:s₀.gens.size<=s.gens.size
 tgrow:s₀.toks<=s.toks
mutual
theorem ze.refl{G s}:ze G s s:=⟨λZ Y U h P L J=>h,λZ Y U h P=>h,IQ _,IQ _,IQ _⟩
theorem ze.since{G s₀ s s'}(t:ze G s₀ s)(x:nH G s s'):ze G s₀ s' :=
 ⟨λb o c h so a e=>x.keep b o c (t.keep b o c h so a e) so a,λj y d h f=>x.gkeep j y d (t.gkeep j y d h f),IT t.grow x.grow,IT t.ggrow x.ggrow,IT t.tgrow x.tgrow⟩
end
theorem ze.bt{G s₀ s s'}(t:ze G s₀ s)(x:Bt G.X G.XG s s'):ze G s₀ s' :=
 ⟨λb o e h so d a=>x.keep b o (t.keep b o e h so d a) so a,λj y f h c=>x.gkeep j y (t.gkeep j y f h c) c,IT t.grow x.grow,IT t.ggrow x.ggrow,IT t.tgrow x.tgrow⟩
structure HY(G:GC)(I:Addr)(o:Obj)(g:Nat)(s₀:IY)(l:List Str)(s:IY):Prop where
 obj:s.heap.get? I=IK o
 inv:Inv s
 tot:ze G s₀ s
 suf:l <:+ G.ys
 size:G.N<=s.heap.objs.size
 gsize:G.NG<=s.gens.size
 go:∃gs,s.gens[g]?=IK gs/\∀s',Bt G.X G.XG s s'->gs.Goes (I6 W.prog W.w) G.A (λn s₀ r s₁=>r=.ok (.ret .none)/\n=0/\Inv s₁/\nH G s₀ s₁/\sd G.F.L s₁) (GY G) l.length (.send .none) s'
theorem yk{A}{G:GC}{I:Addr}{g o s₀}(T:cB)(J:G.A=A.in1)(hA:A.handled=none)(v:A.depth<recursionLimit)(ok:G.Ok)(hI:I<G.N)(ac:I≠G.F.L)(ae:¬G.X I)(z:∀h:Heap,h.get? I=IK o->h.IsGen I g)(i:G.XG g)(hX:∀b,G.X b->W.h₁.objs.size<=b) :
  u4 A I G.X (HY G I o g s₀) (λs'=>Inv s'/\ze G s₀ s'/\sd G.F.L s'):=by
 have so:∀ {s:IY},s.heap.get? I=IK o->dp o:=λh=>by obtain⟨o',_,_,h1,h2,_⟩:=z _ h;have h1:=h▸h1;cases h1;exact b9 h2
 refine⟨λl s h=>(z _ h.obj).typeIs,λy l s h=>?_,λs h=>?_,λl s P E h hP=>wpAny_pyIter_gen (z _ h.obj) hP,λl s a h' tk h ha hs ht=>?_⟩
 ·obtain⟨gs,j,r⟩:=h.go;have run:=gU (X:=G.X) (x:=.running) h.inv rfl i;have d:=r _ run;rw[J] at d;refine wpAny_toks (q8 (fin:=.ret .none) (.inr rfl) hA (h.inv.nolimit T) v (z _ h.obj) j d (λv' s₂ w M hy B=>?_) (λs₂ hp=>absurd hp.1 (Pl _)));refine IJ λzz=>?_;obtain⟨k,y',u,af,hv,S,f,C,_,D⟩:=hy;obtain⟨k',R,aa⟩:=wZ h.suf;refine zz ?_;have ek:k=k':=by simp only[JA,Md] at S;exact fc 18 23 S aa
  subst ek;cases af.symm.trans R;have ab:s₂.gens[g]?=IK .running:=C.gkeep g _ (ok.xg g i) (n7 j);have c:=gU (X:=G.X) (x:=w) f M i;exact⟨u,congrArg IK hv,⟨C.keep I o hI h.obj (so h.obj) ac,c.inv,((h.tot.bt run).since C).bt c,(R7 _ _).trans h.suf,IT h.size C.grow,IT h.gsize (IT run.ggrow (IT C.ggrow c.ggrow)),w,n7 ab,λs' Q=>by rw[J];exact D s' (c.trans Q)⟩,B,λb o p z so=>C.keep b o (ok.x b p).1 z so (ok.x b p).2⟩
 ·obtain⟨gs,j,r⟩:=h.go;have run:=gU (X:=G.X) (x:=.running) h.inv rfl i;have d:=r _ run;rw[J] at d;refine wpAny_toks (q8 (fin:=.ret .none) (.inr rfl) hA (h.inv.nolimit T) v (z _ h.obj) j d (λv' s₂ w M hy B=>?_) (λs₂ hp h' D hz B=>?_))
  ·obtain⟨_,_,_,_,_,_,f,_,_,D⟩:=hy;exact(D _ (gU (X:=G.X) (x:=w) f M i)).elim
  ·obtain⟨_,f,C,oL,ag,ah⟩:=hp;have c:=gU (X:=G.X) (x:=.finished) f rfl i;have H:=lX (k:=s₂.toks) c.inv D hz (IQ _);exact⟨rfl,⟨H,((h.tot.bt run).since C).bt (c.trans ⟨H,λb o M Z Y=>D b o M,hz,λZ Y h U=>h,IQ _,IQ _⟩),oL,D _ _ ag,ah⟩,B,λb o p z so=>D b o (C.keep b o (ok.x b p).1 z so (ok.x b p).2)⟩
 ·have i':=kJ (X:=(· =a)) (k:=tk) T h.inv (λb e=>e▸hX a ha) (λb o q e=>(hs.2 b q).trans e) (Js hs.1.symm) ht;have bt:Bt G.X G.XG s {s with heap:=h',toks:=tk}:=⟨i',λb o M so hn=>(hs.2 b (λe=>hn (e▸ha))).trans M,Js hs.1.symm,λZ Y h U=>h,IQ _,ht⟩
  obtain⟨gs,j,r⟩:=h.go;exact⟨(hs.2 I λe=>ae (e▸ha)).trans h.obj,i',h.tot.bt bt,h.suf,IT h.size bt.grow,h.gsize,gs,j,λs' Q=>r s' (bt.trans Q)⟩
variable {F:dH}{lc:Lc}{st:St}{Q:V->St->Prop}
theorem lu{body ys}(h:∀G:GC,G.A=A->G.F=F->G.ys=ys->G.Ok->kQ G ⟨[],[]⟩ (.func body F.env) [] body lc [] ys λf Z Y c=>c=[]/\(f=.next∨f=.ret .n)):qt A (.func body F.env) F lc ys:=by
 intro G σ s u o k ok g;have v:=h G u o k ok;subst o;refine seg_func (v _ _ id id σ s s rfl (λf z σ' x y c a s' r q d=>?_) g);obtain⟨rfl,j⟩:=q;have fin:SG G 0 a (.func body G.F.env) (.pure (.done (.ret .none))) [] s':=seg_end (.ok (.ret .none)) ⟨rfl,rfl,d.p.i,d.since,d.so⟩;rcases j with rfl | rfl
 ·cases r;exact fin
 ·obtain⟨w,rfl,e⟩:=r;subst e;exact fin
structure Vm where
 js:List Nat
 ml:List (Nat×List V)
noncomputable def lN(h:Nat):List Nat->Option Nat
 |[]=>none
 |k::a=>match k == h with
  |true=>IK 0
  |false=>(lN h a).map (· + 1)
theorem yj(h k:Nat)(a:List Nat):lN h (k::a)=match k == h with | true=>IK 0 | false=>(lN h a).map (· + 1):=rfl
theorem qf{h a}:∀ {j:Nat},lN h a=IK j->a[j]?=IK h:=by
 induction a with
 |nil=>intro j e;cases e
 |cons k a d =>
  intro j e;rw[yj] at e;cases q:k == h with
  |true=>have e:=q▸e;cases e;refine(eq_of_beq q).symm▸?_;rfl
  |false =>
   replace e:=q▸e;obtain⟨i,c,rfl⟩:=Ln.mp e;exact d c
noncomputable def Vm.at(m:Vm)(h:Nat):Option Nat:=lN h m.js
theorem Vm.uX{m:Vm}{h j}(e:m.at h=IK j):m.js[j]?=IK h:=qf e
mutual
noncomputable def V.vw(m:Vm):V->Option V
 |.r h=>match m.ml.lookup h with
  |some vs=>IK (.c .lst vs)
  |none=>(m.at h).map .r
 |.bm x h=>(m.at h).map (.bm x)
 |.c k vs=>match k with
  |.lst=>IK (.c .lst vs)
  |.tup=>(V.si m vs).map (.c .tup)
  |.cls C=>(V.si m vs).map (.c (.cls C))
 |.v w=>IK (.v w)
 |.i x=>IK (.i x)
 |.f x=>IK (.f x)
 |.s x t=>IK (.s x t)
 |.o ob=>IK (.o ob)
 |.g x=>IK (.g x)
 |.rg x y=>IK (.rg x y)
noncomputable def V.si(m:Vm):List V->Option (List V)
 |[]=>IK []
 |x::vs=>match V.vw m x with
  |none=>none
  |some y=>(V.si m vs).map (y:: ·)
end /-m-/
structure tR(m:Vm)(σ:Sg)(n:Nat)(s:IY)(k:Nat)(vs:List V):Prop where
 lt:k<n
 off:k∉m.js
 list:∃items j,s.heap.get? (σ.a k)=IK (Kd.lst.obj items j)/\items.size<=sizeLine/\cW σ 0 s vs items.toList
noncomputable def Sg.vw(σ:Sg)(m:Vm):Sg:=⟨λh=>σ.a (m.js.getD h 0),λb=>σ.z b∨∃k vs,m.ml.lookup k=IK vs/\σ.a k=b⟩
variable {σ:Sg}{n:Nat}{m:Vm}
theorem gp{h k}(e:m.js[h]?=IK k):(σ.vw m).a h=σ.a k/\h<m.js.length:=by
 refine⟨?_,(List.getElem?_eq_some_iff.mp e).1⟩;show σ.a (m.js.getD h 0)=_;refine(P6).symm▸?_;refine(e).symm▸?_;rfl
theorem tW{v w}(q:RV σ 0 s v w){k}:RV (σ.vw m) k s v w :=
 RV.c0 (X:=dY) (n:=0) (σ:=σ) (σ':=σ.vw m) (s:=s) ⟨λZ=>.inl,λZ Y h U P L=>h,IQ _⟩ (λZ Y=>⟨id,λZ q=>absurd q (I4 _)⟩) v 0 k (λZ q=>absurd q (I4 _)) w q
theorem wN{vs ws}(q:cW σ 0 s vs ws){k}:cW (σ.vw m) k s vs ws:=cW.ou (λv Z w q=>tW q) ws q
theorem wL{k vs}(d:k.wD=λn=>n)(p:∀us,V.si m vs=IK us->∀ws,cW σ n s vs ws->cW (σ.vw m) m.js.length s us ws){v}(h:(V.si m vs).map (V.c k)=IK v){w}(q:RV σ n s (.c k vs) w):RV (σ.vw m) m.js.length s v w:=by
 obtain⟨us,g,rfl⟩:=Ln.mp h;obtain⟨a,items,j,e,hz,i,o,f⟩:=q;rw[d] at f;exact⟨a,items,j,e,.inl hz,i,o,by rw[d];exact p us g _ f⟩
mutual
theorem V.AF{m k vs}(e:m.ml.lookup k=IK vs):V.vw m (.r k)=IK (.c .lst vs):=by
 change (match m.ml.lookup k with | IK vs=>IK (V.c .lst vs) | none=>(m.at k).map .r)=_
 exact(e ..).symm▸rfl
theorem V.wM{m k}(e:m.ml.lookup k=none):V.vw m (.r k)=(m.at k).map .r:=by
 change (match m.ml.lookup k with | IK vs=>IK (V.c .lst vs) | none=>(m.at k).map .r)=_
 exact(e ..).symm▸rfl
end
theorem eP(M:∀k vs,m.ml.lookup k=IK vs->tR m σ n s k vs)(u:V):∀v,V.vw m u=IK v->∀w:Value,RV σ n s u w->RV (σ.vw m) m.js.length s v w :=
 V.rec (motive_1:=λu=>∀v,V.vw m u=IK v->∀w:Value,RV σ n s u w->RV (σ.vw m) m.js.length s v w) (motive_2:=λus=>∀vs,V.si m us=IK vs->∀ws:List Value,cW σ n s us ws->cW (σ.vw m) m.js.length s vs ws)
  (λw v h=>by cases h;exact λZ=>id) (λx v h=>by cases h;exact λZ=>id) (λx v h=>by cases h;exact λZ=>id) (λx t v h=>by cases h;exact λZ=>id)
  (λk vs r v h w q=>by
   cases k with
   |lst=>cases h;exact tW q
   |tup=>exact wL rfl r h q
   |cls C=>exact wL rfl r h q)
  (λk v h w q=>by
   cases e:m.ml.lookup k with
   |some vs =>
    have h:=(V.AF e).symm.trans h;cases h;refine IJ λF=>?_;obtain⟨items,j,c,A,B⟩:=(M k vs e).list;refine F ?_;exact⟨σ.a k,items,j,q.2,.inr ⟨k,vs,e,rfl⟩,c,A,wN B⟩
   |none =>
    obtain⟨j,d,rfl⟩:=Ln.mp ((V.wM e).symm.trans h);have:=gp (σ:=σ) (Vm.uX d);exact⟨this.2,q.2.trans (congrArg Jy this.1.symm)⟩)
  (λo v h w q=>by cases h;exact q.casesOn λa e hz c so=>⟨a,e,.inl hz,c,so⟩)
  (λb k v h w q=>by
   obtain⟨j,d,rfl⟩:=Ln.mp h;have:=gp (σ:=σ) (Vm.uX d);obtain⟨a,e,hz,c,G⟩:=q;exact⟨a,e,.inl hz,by refine(this.1).symm▸?_;exact c,this.2⟩)
  (λb v h=>by cases h;exact λZ=>id) (λx y v h w q=>by cases h;exact q.casesOn λa t u v e hz c=>⟨a,t,u,v,e,.inl hz,c⟩)
  (λvs h=>by cases h;exact λZ=>id)
  (λv vs g i us h ws q=>by
   change (match V.vw m v with | none=>none | IK y=>(V.si m vs).map (y:: ·))=_ at h
   cases e:V.vw m v with
   |none=>have h:=e▸h;cases h
   |some u =>
    have h:=(e ..)▸h;obtain⟨p,d,rfl⟩:=Ln.mp h;obtain⟨w,f,z,D,E⟩:=q;exact⟨w,f,z,g u e w D,i p d f E⟩) u
theorem nW(M:∀k vs,m.ml.lookup k=IK vs->tR m σ n s k vs){vs us}(h:V.si m vs=IK us){ws}(q:cW σ n s vs ws):cW (σ.vw m) m.js.length s us ws:=by
 induction vs generalizing us ws with
 |nil=>cases h;exact q
 |cons v vs f =>
  change (match V.vw m v with | none=>none | IK y=>(V.si m vs).map (y:: ·))=_ at h
  cases e:V.vw m v with
  |none=>have h:=e▸h;cases h
  |some u =>
   replace h:=e▸h;obtain⟨j,d,rfl⟩:=Ln.mp h;obtain⟨w,a,c,g,i⟩:=q;exact⟨w,a,c,eP M v u e w g,f d i⟩
noncomputable def tY{K:Type}(m:Vm):List (K×V)->Option (List (K×V))
 |[]=>IK []
 |p::l=>match V.vw m p.2 with
  |none=>none
  |some u=>(tY m l).map ((p.1,u):: ·)
theorem a9{K}{m:Vm}{x:K}{v u:V}{l l':List (K×V)}(h:V.vw m v=IK u)(t:tY m l=IK l'):tY m ((x,v)::l)=IK ((x,u)::l'):=by
 change (match V.vw m v with | none=>none | IK u=>(tY m l).map ((x,u):: ·))=_
 rw[h,t];rfl
theorem tX{K:Type}{p:K×V}{l l':List (K×V)}(h:tY m (p::l)=IK l'):∃u l'',V.vw m p.2=IK u/\tY m l=IK l''/\l'=(p.1,u)::l'':=by
 change (match V.vw m p.2 with | none=>none | IK u=>(tY m l).map ((p.1,u):: ·))=_ at h
 cases e:V.vw m p.2 with
 |none=>have h:=e▸h;cases h
 |some u =>
  replace h:=e▸h;obtain⟨a,c,rfl⟩:=Ln.mp h;exact⟨u,a,rfl,c,rfl⟩
theorem wO(M:∀k vs,m.ml.lookup k=IK vs->tR m σ n s k vs){K l}:∀ {l':List (K×V)} {ws:List (K×Value)},tY m l=IK l'->RK σ n s l ws->RK (σ.vw m) m.js.length s l' ws:=by
 induction l with
 |nil=>intro l' ws h;cases h;exact id
 |cons p l d =>
  intro l' ws h q;obtain⟨u,i,g,c,rfl⟩:=tX h;obtain⟨j,w,r,e,o,f⟩:=q;cases ws with
  |nil=>cases e
  |cons y ws =>
   cases e;have a:=J8 j;exact⟨congr (congrArg List.cons a.1) (d c ⟨a.2,f⟩).1,_,_,rfl,eP M _ _ g _ o,(d c ⟨a.2,f⟩).2⟩
theorem qA{l x}:∀ {l':List (Str×V)},tY m l=IK l'->(l.lookup x=none/\l'.lookup x=none)∨∃v u,l.lookup x=IK v/\l'.lookup x=IK u/\V.vw m v=IK u:=by
 induction l with
 |nil=>intro l' h;cases h;exact .inl ⟨rfl,rfl⟩
 |cons p l d =>
  intro l' h;refine IJ λg=>?_;obtain⟨u,f,a,c,rfl⟩:=tX h;refine g ?_;rw[Jn,Jn];cases e:x == p.1 with
  |true=>exact .inr ⟨p.2,u,rfl,rfl,a⟩
  |false=>exact d c
noncomputable def O.vw(m:Vm):O->Option O
 |.list vs=>(V.si m vs).map .list
 |.dict a=>(tY m a).map .dict
 |.dicti a=>(tY m a).map .dicti
 |.set l=>IK (.set l)
 |.inst C d=>(m.at d).map (.inst C)
 |.ns l=>(tY m l).map .ns
 |.fix x=>IK (.fix x)
 |.gone=>IK .gone
 |.cell v=>match v with
  |none=>IK (.cell none)
  |some v=>(V.vw m v).map λu=>.cell (IK u)
 |_=>none
theorem vF(M:∀k vs,m.ml.lookup k=IK vs->tR m σ n s k vs){o o' a}(h:O.vw m o=IK o')(q:RO σ n s a o):RO (σ.vw m) m.js.length s a o'/\∀g c L,o'≠.gen g c L:=by
 cases o with
 |list vs=>obtain⟨us,p,rfl⟩:=Ln.mp h;obtain⟨items,k,i,r,A⟩:=q;exact⟨⟨items,k,i,r,nW M p A⟩,λZ Y U q=>O.noConfusion q⟩
 |dict B=>obtain⟨us,p,rfl⟩:=Ln.mp h;obtain⟨o,ws,i,r,A⟩:=q;exact⟨⟨o,ws,i,r,wO M p A⟩,λZ Y U q=>O.noConfusion q⟩
 |dicti B=>obtain⟨us,p,rfl⟩:=Ln.mp h;obtain⟨o,ws,i,r,A⟩:=q;exact⟨⟨o,ws,i,r,wO M p A⟩,λZ Y U q=>O.noConfusion q⟩
 |set l=>cases h;exact⟨q,λZ Y U q=>O.noConfusion q⟩
 |inst C d=>obtain⟨j,p,rfl⟩:=Ln.mp h;obtain⟨o,i,r,A,S,P⟩:=q;have:=gp (σ:=σ) (Vm.uX p);exact⟨⟨o,i,r,A.trans (congrArg IK this.1.symm),this.2,P⟩,λZ Y U q=>O.noConfusion q⟩
 |ns l =>
  obtain⟨us,p,rfl⟩:=Ln.mp h;obtain⟨f,i,r,A⟩:=q;refine⟨⟨f,i,λx v e=>?_,λx e=>?_⟩,λZ Y U q=>O.noConfusion q⟩
  ·rcases qA (x:=x) p with ⟨_,z⟩ | ⟨D,u,F,E,G⟩
   ·have e:=z▸e;cases e
   ·have e:=E▸e;cases e;obtain⟨w,Q,R⟩:=r x D F;exact⟨w,Q,eP M D _ G w R⟩
  ·rcases qA (x:=x) p with ⟨z,_⟩ | ⟨D,u,F,E,G⟩
   ·exact A x z
   ·replace e:=E▸e;cases e
 |fix o=>cases h;exact⟨q,λZ Y U q=>O.noConfusion q⟩
 |gone=>cases h;exact⟨q,λZ Y U q=>O.noConfusion q⟩
 |cell v =>
  cases v with
  |none=>cases h;obtain⟨w,i,_⟩:=q;exact⟨⟨w,i,λZ e=>by cases e⟩,λZ Y U q=>O.noConfusion q⟩
  |some v=>obtain⟨u,p,rfl⟩:=Ln.mp h;obtain⟨w,i,r⟩:=q;obtain⟨y,H,J⟩:=r v rfl;exact⟨⟨w,i,λT e=>by cases e;exact⟨y,H,eP M v u p y J⟩⟩,λZ Y U q=>O.noConfusion q⟩
 |_=>cases h
theorem sL(M:∀k vs,m.ml.lookup k=IK vs->tR m σ n s k vs){o o' a}(h:O.vw m o=IK o'∨o'=.gone)(q:RO σ n s a o):RO (σ.vw m) m.js.length s a o'/\∀g c L,o'≠.gen g c L :=
 h.elim (λh=>vF M h q) λe=>by subst e;exact⟨q.there,λZ Y U q=>O.noConfusion q⟩
noncomputable def zg(m:Vm)(st:St):List Nat->St->Prop
 |[],[]=>True
 |k::a,o::os=>(∃o',st[k]?=IK o'/\(O.vw m o'=IK o∨o=.gone))/\zg m st a os
 |Z,Y=>False
theorem zg.vw{m st k ks o o' os}(a:st[k]?=IK o')(c:O.vw m o'=IK o)(r:zg m st ks os):zg m st (k::ks) (o::os):=⟨⟨o',a,.inl c⟩,r⟩
theorem zg.out{m st k ks o o' os}(a:st[k]?=IK o')(e:o=.gone)(r:zg m st ks os):zg m st (k::ks) (o::os):=⟨⟨o',a,.inr e⟩,r⟩
theorem zg.at_{st a}:∀ {os:St},zg m st a os->a.length=os.length/\∀(h:Nat) (o:O),os[h]?=IK o->∃k o',a[h]?=IK k/\st[k]?=IK o'/\(O.vw m o'=IK o∨o=.gone):=by
 induction a with
 |nil =>
  intro os h;cases os with
  |nil=>exact⟨rfl,λh o e=>by cases e⟩
  |cons=>exact h.elim
 |cons k a c =>
  intro os h;cases os with
  |nil=>exact h.elim
  |cons o os =>
   refine IJ λi=>?_;obtain⟨⟨o',d,f⟩,q⟩:=h;refine i ?_;refine⟨congrArg (· + 1) (c q).1,λh g e=>?_⟩;cases h with
   |zero=>cases e;exact⟨k,o',rfl,d,f⟩
   |succ h=>exact(c q).2 h g e
noncomputable def iM(vs:List V):Prop:=∀σ n s ws,cW σ n s vs ws->cW σ 0 s vs ws
noncomputable def C2(m:Vm)(st:St)(k₀:Nat):List (Nat×List V)->Prop
 |[]=>True
 |p::l=>(k₀<=p.1/\p.1∉m.js/\st[p.1]?=IK (.list p.2)/\iM p.2)/\C2 m st k₀ l
theorem C2.at_{st k₀ k vs l}(h:C2 m st k₀ l)(e:l.lookup k=IK vs):k₀<=k/\k∉m.js/\st[k]?=IK (.list vs)/\iM vs:=by
 induction l with
 |nil=>cases e
 |cons p l a =>
  rw[Jn] at e;cases q:k == p.1 with
  |true=>have e:=q▸e;cases e;refine(eq_of_beq q).symm▸?_;exact h.1
  |false=>have e:=q▸e;exact a h.2 e
theorem C2.ok{st k₀}(h:C2 m st k₀ m.ml)(r:Rel σ st s)(k:Nat)(vs:List V)(e:m.ml.lookup k=IK vs):tR m σ st.length s k vs:=by
 refine IJ λo=>?_;obtain⟨_,c,a,d⟩:=h.at_ e;obtain⟨items,j,f,g,i⟩:=r.at_ k _ a;refine o ?_;exact⟨(List.getElem?_eq_some_iff.mp a).1,c,items,j,f,g,d _ _ _ _ i⟩
structure nU(m:Vm)(k₀:Nat)(st st₂:St):Prop where
 nd:m.js.Nodup
 os:zg m st m.js st₂
 ml:C2 m st k₀ m.ml
 keep:∀h,h<k₀->h<st.length->m.js[h]?=IK h
theorem nU.step{X k₀ st st₂}(v:nU m k₀ st st₂)(i:Inv s)(r:Rel σ st s):dT X k₀ σ st s (σ.vw m) st₂ s:=by
 obtain⟨y,at_⟩:=v.os.at_;have M:=v.ml.ok r;have f:∀h,h<st₂.length->∃k,m.js[h]?=IK k/\k<st.length:=λh q=>by
  refine IJ λD=>?_;obtain⟨k,o',d,a,_⟩:=at_ h _ (IV q);refine D ?_;exact⟨k,d,(List.getElem?_eq_some_iff.mp a).1⟩
 have u:∀ {h h' k},h<st₂.length->m.js[h]?=IK k->m.js[h']?=IK k->h=h':=λq d a=>(List.getElem?_inj (by refine(y).symm▸?_;exact q) v.nd).mp (d.trans a.symm);refine⟨⟨λh q A=>?_,λh q=>?_,λZ=>.inl,λb q=>q.imp id λ⟨k,vs,e,p⟩=>.inl ⟨k,(v.ml.at_ e).1,(M k vs e).lt,p⟩,λZ Y h U P J=>h,IQ _,IQ _⟩,i,
  ⟨λh o e=>?_,λh q=>?_,λh k q A e=>?_,λb q=>q.elim (r.zlt b) λ⟨k,vs,e,p⟩=>p▸r.lt (M k vs e).lt,λb hz h q=>?_⟩,λZ Y h U=>h,λh g c L e=>?_,IQ _⟩
 ·have e:=v.keep h q A;exact⟨y▸(gp (σ:=σ) e).2,(gp e).1⟩
 ·obtain⟨k,d,a⟩:=f h q;by_cases x:k<k₀
  ·have:=u q d (v.keep k x a);subst this;exact .inl ⟨x,a⟩
  ·exact .inr (.inl ⟨k,Nat.not_lt.mp x,a,(gp d).1.symm⟩)
 ·obtain⟨k,o',d,a,w⟩:=at_ h o e;refine((gp d).1).symm▸?_;refine(y)▸?_;exact(sL M w (r.at_ k o' a)).1
 ·obtain⟨k,d,a⟩:=f h q;refine((gp d).1).symm▸?_;exact r.above k a
 ·obtain⟨E,d,B⟩:=f h q;obtain⟨F,a,C⟩:=f k A;have e:=((gp d).1)▸e;have e:=((gp a).1)▸e;have:=r.inj _ _ B C e;subst this;exact u q d a
 ·obtain⟨k,d,a⟩:=f h q;refine((gp d).1).symm▸?_;refine hz.elim (λz=>r.zoff b z k a) λ⟨j,vs,e,p⟩ z=>?_;have:=r.inj _ _ a (M j vs e).lt (z.trans p.symm);subst this;exact(M _ vs e).off (IX d)
 ·obtain⟨k,o',d,a,w⟩:=at_ h _ e;exact absurd rfl ((sL M w (r.at_ k o' a)).2 g c L)
noncomputable def Fl.vw(m:Vm):Fl->Option Fl
 |.next=>IK .next
 |.brk=>IK .brk
 |.cont=>IK .cont
 |.ret v=>(V.vw m v).map .ret
noncomputable def Ax(m:Vm)(lc:Lc):Lc->Prop
 |[]=>True
 |p::l=>(∃v,lc.lookup p.1=IK v/\V.vw m v=IK p.2)/\Ax m lc l
theorem Ax.of{m lc l}(h:l.map (λp=>(lc.lookup p.1).bind (V.vw m))=(l.map (·.2)).map IK):Ax m lc l:=by
 induction l with
 |nil=>trivial
 |cons p l a=>exact⟨Option.bind_eq_some_iff.mp (J8 h).1,a (J8 h).2⟩
mutual
theorem Ax.cons{m lc l x u v}(a:lc.lookup x=IK v)(c:V.vw m v=IK u)(t:Ax m lc l):Ax m lc ((x,u)::l):=⟨⟨v,a,c⟩,t⟩
theorem Ak{m:Vm}(x:Str)(h:Nat)(e:([]:List (Str×Nat)).lookup x=IK h):m.at h=IK h:=nn e
end
theorem Ax.at_{m lc l x v2}(h:Ax m lc l)(e:l.lookup x=IK v2):∃v,lc.lookup x=IK v/\V.vw m v=IK v2:=by
 induction l with
 |nil=>cases e
 |cons p l a =>
  rw[Jn] at e;cases q:x == p.1 with
  |true=>have e:=q▸e;cases e;refine(eq_of_beq q).symm▸?_;exact h.1
  |false=>have e:=q▸e;exact a h.2 e
inductive Dh(F:dH)(Q:Fl->Lc->St->Prop)(f:Fl)(lc:Lc)(st:St):Prop
 |mk (m:Vm) (f₂:Fl) (lc₂:Lc) (st₂:St) (h:nU m F.m st st₂) (hf:f.vw m=IK f₂) (hc:∀x h,F.ce.lookup x=IK h->m.at h=IK h) (hl:Ax m lc lc₂) (q:Q f₂ lc₂ st₂)
end
section
variable {A:Around}{F:dH}{lc:Lc}{σ:Sg}{st:St}{s:IY}{Q:Fl->Lc->St->Prop}
theorem EG{m f f2 w n}(M:∀k vs,m.ml.lookup k=IK vs->tR m σ n s k vs)(h:f.vw m=IK f2)(q:RF σ n s f w):RF (σ.vw m) m.js.length s f2 w:=by
 cases f with
 |ret v=>obtain⟨u,a,rfl⟩:=Ln.mp h;obtain⟨w,rfl,hw⟩:=q;exact⟨w,rfl,eP M v u a w hw⟩
 |_=>cases h;exact q
theorem Dh.pf{f w}(h:Dh F Q f lc st)(i:Inv s)(r:Rel σ st s)(fr:ee F σ st.length lc s)(hw:RF σ st.length s f w):PF F σ st s Q w s:=by
 refine IJ λU=>?_;obtain⟨m,d,lc₂,st₂,h,H,hc,P,q⟩:=h;have M:=h.ml.ok r;have x:=h.step (X:=(· =F.L)) i r;have c:=h.os.at_.1;obtain⟨a,⟨g,p,R⟩,T,z,k,B,A,ce⟩:=fr;refine U ?_;have o:=p.lt;refine⟨σ.vw m,lc₂,st₂,x,⟨a,⟨g,p,λy v J S=>?_⟩,x.x.zoff o T z,x.x.off o z,k,B,A,λy j e=>?_⟩,d,c▸EG M H hw,q⟩
 ·obtain⟨u,C,D⟩:=P.at_ S;obtain⟨w,E,G⟩:=R y u J C;exact⟨w,E,c▸eP M u v D w G⟩
 ·have:=gp (σ:=σ) (Vm.uX (hc y j e));exact⟨c▸this.2,by refine(this.1).symm▸?_;exact(ce y j e).2⟩
mutual
theorem rL{l}(h:cK A F l lc st (Dh F Q)):cK A F l lc st Q:=λσ s p=>dX (h σ s p) λf s₁ o j k g x fr r q=>by
 obtain⟨d,lc₂,st₂,y,a,e,c,i⟩:=q.pf x.inv x.rel fr r;exact⟨d,lc₂,st₂,x.trans y,a,e,c,i⟩
theorem kf{c}(h:eG A F c lc st (Dh F Q)):eG A F c lc st Q:=λσ s p=>dX (h σ s p) λf s₁ r k o g x fr u q=>by
 obtain⟨e,lc₂,st₂,y,a,i,d,j⟩:=q.pf x.inv x.rel fr u;exact⟨e,lc₂,st₂,x.trans y,a,i,d,j⟩
end
noncomputable def D6(A:Around)(F:dH)(l:List Stmt)(Q:Fl->Lc->St->Prop)(f:Fl)(lc:Lc)(st:St):Prop:=match f with
 |.next=>cK A F l lc st Q
 |_=>False
theorem lY{l}(h:Dh F (D6 A F l Q) .next lc st):cK A F l lc st Q:=λσ s p=>by
 obtain⟨d,lc₂,st₂,y,c,e,g,a⟩:=h.pf p.i p.r p.f (w:=.next) rfl;cases e with
 |next=>exact iU y (a d s ⟨y.inv,y.rel,c⟩)
 |_=>exact a.elim
inductive GW(k₀:Nat)(Q:V->St->Prop)(v:V)(st:St):Prop
 |mk (m:Vm) (v₂:V) (st₂:St) (h:nU m k₀ st st₂) (hv:V.vw m v=IK v₂) (q:Q v₂ st₂)
theorem iZ{f vs Q}(h:b5 A f vs st (GW st.length Q)):b5 A f vs st Q:=λσ s w ws hw d i r=>b0 (h σ s w ws hw d i r) λw s₁ g e v x j q=>by
 obtain⟨m,a,st₂,h,c,q⟩:=q;exact⟨_,st₂,(x.ir.trans (h.step (X:=dY) x.inv x.rel)).iQ (IQ _),a,h.os.at_.1▸eP (h.ml.ok x.rel) v a c w j,q⟩
noncomputable def eH(a:Arguments)(dflt:Value)(names:List Str):Prop:=∀(fd:LH) (ws:List Value),fd.params=a->fd.defaults=dflt->fd.kwdefaults=.none->ws.length=names.length->bindArgs fd ⟨ws,[]⟩=pure (names.zip ws)
mutual
theorem sV{c:Type}{l:List c}(h:l.length=1):∃a,l=[a]:=List.length_eq_one_iff.mp h
theorem xV{c:Type}{n}{l:List c}(h:l.length=n+1):∃a l',l=a::l'/\l'.length=n:=by
 cases l with
 |nil=>cases h
 |cons a l=>exact⟨a,l,rfl,Nat.succ.inj h⟩
end
theorem pX{c:Type}{l:List c}(h:l.length=2):∃a b,l=[a,b]:=by obtain⟨a,_,rfl,d⟩:=xV h;obtain⟨b,rfl⟩:=sV d;exact⟨a,b,rfl⟩
theorem zM{d:Type}{l:List d}(h:l.length=3):∃a b c,l=[a,b,c]:=by obtain⟨a,_,rfl,e⟩:=xV h;obtain⟨b,c,rfl⟩:=pX e;exact⟨a,b,c,rfl⟩
mutual
theorem Em{f:Type}{l:List f}(h:l.length=5):∃a b c d e,l=[a,b,c,d,e]:=by obtain⟨a,_,rfl,g⟩:=xV h;obtain⟨b,_,rfl,i⟩:=xV g;obtain⟨c,d,e,rfl⟩:=zM i;exact⟨a,b,c,d,e,rfl⟩
theorem RB.app{σ n s l m bs cs}(h:RB σ n s l bs)(h':RB σ n s m cs):RB σ n s (l++m) (bs++cs):=by
 induction l generalizing bs with
 |nil=>cases h;exact h'
 |cons p l f=>obtain⟨w,a,e,c,d⟩:=h;subst e;exact⟨w,a++cs,rfl,c,f d⟩
end
theorem RB.zip{σ n s}{names:List Str}:∀ {vs:List V} {ws:List Value},cW σ n s vs ws->RB σ n s (names.zip vs).reverse (names.zip ws).reverse:=by
 induction names with
 |nil=>intro vs ws _;exact rfl
 |cons x names d =>
  intro vs ws h;cases vs with
  |nil=>cases h;exact rfl
  |cons v vs =>
   obtain⟨w,f,e,a,c⟩:=h;subst e;rw[Ro,Ro,LA,LA];exact(d c).app ⟨w,[],rfl,a,rfl⟩
end
section
variable {A:Around}{st:St}{Q:V->St->Prop}
theorem dg{a q params body scope cd dflt names vs}(T:cB)(f:FnAt a q params body scope cd dflt)(g:scope.isCoroutine=false)(d:scope.isGenerator=false)(c:A.depth<recursionLimit)(u:eH params dflt names)(w:vs.length=names.length)(v:(names.all λx=>j4 (scope.names.lookup x))=true)(h:∀L,cK (A.deeper (Kq q scope L a cd)) ⟨Kq q scope L a cd,[],st.length⟩ body (names.zip vs).reverse st λr Z j=>Q (sF r) j):jv A a vs st Q :=
 qi T f g d c (λσ n s ws fd i e k o p=>⟨names.zip ws,.of_eq (u fd ws k o p (e.len.trans w)),RB.zip e,λx y=>fE (Pc.mp v _ (L7 y).1)⟩) h
end
noncomputable def ip(lc:Lc):Lc->Prop
 |[]=>True
 |p::l=>lc.lookup p.1=IK p.2/\ip lc l
mutual
theorem ip.of{lc l}(h:l.map (λp=>lc.lookup p.1)=(l.map (·.2)).map IK):ip lc l:=by
 induction l with
 |nil=>trivial
 |cons p l a=>exact⟨(J8 h).1,a (J8 h).2⟩
theorem ip.is{lc l l'}(h:ip lc l)(e:l=l'):ip lc l':=e▸h
theorem ip.at_{lc l x v}(h:ip lc l)(e:l.lookup x=IK v):lc.lookup x=IK v:=by
 induction l with
 |nil=>cases e
 |cons p l a =>
  rw[Jn] at e;cases q:x == p.1 with
  |true=>have e:=q▸e;cases e;refine(eq_of_beq q).symm▸?_;exact h.1
  |false=>have e:=q▸e;exact a h.2 e
end
inductive FJ(Q:Fl->Lc->St->Prop)(f:Fl)(lc:Lc)(st:St):Prop
 |mk (lc₂:Lc) (h:ip lc lc₂) (q:Q f lc₂ st)
section
variable {A:Around}{F:dH}{lc:Lc}{st:St}{Q:Fl->Lc->St->Prop}
theorem ee.sub{σ n s lc₂}(f:ee F σ n lc s)(h:ip lc lc₂):ee F σ n lc₂ s:=by
 refine IJ λr=>?_;obtain⟨a,⟨g,e,j⟩,q,p,k,d,c,ce⟩:=f;refine r ?_;exact⟨a,⟨g,e,λx v i o=>j x v i (h.at_ o)⟩,q,p,k,d,c,ce⟩
theorem fH{l}(h:cK A F l lc st (FJ Q)):cK A F l lc st Q:=λσ s p=>dX (h σ s p) λf s₁ c d a g x fr e q=>by
 obtain⟨lc₂,i,q⟩:=q;exact⟨c,lc₂,a,x,fr.sub i,g,e,q⟩
end
section
variable {K:Type}[DecidableEq K]
mutual
theorem ni(l:List (K×V))(k:K)(v:V)(k':K):cR (il l k v) k'=if k'=k then IK v else cR l k':=by
 induction l with
 |nil =>
  by_cases e:k=k'
  ·exact(fF e).trans (if_pos e.symm).symm
  ·exact(dU e).trans (if_neg (LG e)).symm
 |cons p l f =>
  by_cases e:p.1=k
  ·have c [DecidableEq K]:il (p::l) k v=(p.1,v)::l:=if_pos e;refine(congrArg (cR · k') (c)).trans ?_;by_cases d:p.1=k'
   ·exact(fF (p:=(p.1,v)) d).trans (if_pos (d.symm.trans e)).symm
   ·exact(dU (p:=(p.1,v)) d).trans ((if_neg λq=>d (e.trans q.symm)).trans (dU d)).symm
  ·have a [DecidableEq K]:il (p::l) k v=p::il l k v:=if_neg e;refine(congrArg (cR · k') (a)).trans ?_;by_cases d:p.1=k'
   ·exact(fF d).trans ((if_neg λq=>e (d.trans q)).trans (fF d)).symm
   ·rw[dU d,dU d];exact f
theorem yD(l:List (K×V))(k:K)(v:V):(il l k v).length<=l.length+1:=by
 induction l with
 |nil=>exact IQ _
 |cons p l a =>
  rw[ql]
  split
  ·exact I8 _
  ·exact Kf a
theorem yE{P:V->Prop}{l:List (K×V)}{k:K}{v:V}(h:∀p∈l,P p.2)(a:P v):∀p∈il l k v,P p.2:=by
 induction l with
 |nil=>exact λp q=>by rw[OB.mp q];exact a
 |cons p l c =>
  rw[ql]
  split
  ·exact λr q=>(Tq.mp q).elim (λe=>by rw[e];exact a) λq=>h r (Jm _ q)
  ·exact λr q=>(Tq.mp q).elim (λe=>by rw[e];exact h p (Je ..)) λq=>c (λr q=>h r (Jm _ q)) r q
end
end
theorem sq{K m}{l:List (K×V)}(h:∀p∈l,V.vw m p.2=IK p.2):tY m l=IK l:=by
 induction l with
 |nil=>rfl
 |cons p l a =>
  exact a9 (h p (Je ..)) (a λr q=>h r (Jm _ q))
noncomputable def dR(l:List Nat):List V:=l.map fun(n:Nat)=>.i (n:Int)
mutual
theorem gR{a:Type}{x v}{l:List (Str×a)}(h:l.lookup x=IK v):(x,v)∈l:=by
 induction l with
 |nil=>cases h
 |cons p l c =>
  rw[Jn] at h;cases e:x == p.1 with
  |true=>have h:=e▸h;cases h;refine(eq_of_beq e).symm▸?_;exact Je ..
  |false=>have h:=e▸h;exact Jm _ (c h)
theorem tL{a:Type}{l}{m:List a}(d:Nat):(l++m)[l.length+d]?=m[d]?:=by rw[Jr (Jc ..),Lm]
theorem iS{a:Array PT}{y x}{j:Nat}(h:a[j]?=IK x):(a.push y)[j]?=IK x:=by
 have c:=(Array.getElem?_eq_some_iff.mp h).1;refine(Array.getElem?_push_lt c).symm▸?_;refine(h)▸?_;exact(JC c).symm
end
theorem w7{X σ st s y ob k c L}(i:Inv s)(r:Rel σ st s)(v:y.bare=true)(w:L<st.length)(E:y=.fresh (c (σ.a L)))(G:s.toks<=k)(A:ob.isFreed=false)(B:(s.heap.push ob).IsGen s.heap.objs.size s.gens.size) :
  cC X σ st s (σ.new st.length s.heap.objs.size) (st++[.gen s.gens.size c L]) {s with heap:=s.heap.push ob,toks:=k,gens:=s.gens.push y}:=by
 have x:=eS (X:=X) (b:=s.heap.objs.size) (h':=s.heap.push ob) (k:=k) (o:=.gone) i r (IQ _) (λc y e=>IS _ e) (by rw[I7];exact I8 _) G (λZ=>⟨ob,I0 _ A,(show dp ob from by obtain⟨o,_,_,u,F,_⟩:=B;have u:=(I0 _ A)▸u;cases u;exact b9 F)⟩) (by intro _ _ _ q;cases q);have f:(st++[O.gone]).length=st.length+1:=IL;have g:(st++[O.gen s.gens.size c L]).length=st.length+1:=IL;have D:Ext X σ st.length s (σ.new st.length s.heap.objs.size) (st.length+1) {s with heap:=s.heap.push ob,toks:=k,gens:=s.gens.push y}:=f▸⟨x.x.len,x.x.ext,x.x.new,x.x.z,x.x.znew,x.x.keep,x.x.grow,x.x.tgrow⟩;have kp:Kp dY (σ.new st.length s.heap.objs.size) (st.length+1) {s with heap:=s.heap.push ob,toks:=k} (σ.new st.length s.heap.objs.size) {s with heap:=s.heap.push ob,toks:=k,gens:=s.gens.push y}:=⟨λZ h=>h,λZ Y h U P J=>h,IQ _⟩
 have p:=x.rel;refine⟨g▸D,⟨x.inv.old,x.inv.stat,x.inv.os,i.bare.push v,x.inv.size,x.inv.tk,x.inv.tb⟩,⟨λh o e=>?_,λh q=>p.above h (by rw[f];rw[g] at q;exact q),λh j q d=>p.inj h j (by rw[f];rw[g] at q;exact q) (by rw[f];rw[g] at d;exact d),p.zlt,λb q h d=>p.zoff b q h (by rw[f];rw[g] at d;exact d)⟩,λj z h Z=>iS h,λh j c' C e=>?_,by refine(L3 ..).symm▸?_;exact I8 _⟩
 ·refine(g).symm▸?_;rcases KZ h st.length with q | q
  ·rw[Jp q] at e;have a:=p.at_ h o (by refine(Jp q).trans ?_;exact e);rw[f] at a;exact a.c0 kp (f▸p.apart) (λh q=>⟨q,rfl⟩) (λy v Z=>v) λZ Y U P=>iS
  ·replace e:=(Jr q)▸e;have d:h=st.length:=by
    have:=(List.getElem?_eq_some_iff.mp e).1;simp only[K3] at this;exact b8 19 0 this q
   subst d;have e:=(KY ..)▸e;cases e;have M:(σ.new st.length s.heap.objs.size).a st.length=s.heap.objs.size:=if_pos rfl;have H:(σ.new st.length s.heap.objs.size).a L=σ.a L:=if_neg (Jw w:L≠st.length);exact⟨by rw[M];exact B,by rw[H,<-E];exact Qf,JL w⟩
 ·rcases KZ h st.length with q | q
  ·rw[Jp q] at e;exact .inl ⟨h,c',C,e⟩
  ·rw[Jr q] at e;have d:h=st.length:=by
    have:=(List.getElem?_eq_some_iff.mp e).1;simp only[K3] at this;exact b8 19 0 this q
   subst d;rw[KY] at e;cases e;exact .inr (IQ _)
section
variable {A:Around}{F:dH}{lc:Lc}{st:St}{Q:V->St->Prop}
theorem yo{a q params body scope cd dflt names vs}(T:cB)(f:FnAt a q params body scope cd dflt)(F:scope.isCoroutine=false)(u:scope.isGenerator=true)(p:A.depth<recursionLimit)(hb:eH params dflt names)(hn:vs.length=names.length)(hl:(names.all λx=>j4 (scope.names.lookup x))=true)(G:ip (names.zip vs).reverse lc)(h:∀g,(∀(j:Nat) c L,st[j]?≠IK (.gen g c L))->Q (.r (st.length+1)) ((st++[.frm lc])++[.gen g (λL=>.func body (Kq q scope L a cd)) st.length])):b5 A (.v (.ref a)) vs st Q:=by
 intro σ s w ws hw B i r;subst hw;obtain⟨o,fd,h1,h2,h3,M,U,Y,D,Z,e6,e7,e8,P,C,R,S,kd,cl⟩:=f;have E:=hb fd ws U e7 e8 (B.len.trans hn);refine KD (codeAny_call_generator p (i.old.get_of_cls h1 h2) h3 (D▸F) (D▸u) Y (by refine(P ..).symm▸?_;refine(M ..).symm▸?_;exact code_at i R S) (PX.of_eq E _ _ _ _ ?_));refine(D).symm▸?_;refine(Z).symm▸?_;refine(e6).symm▸?_;refine(P).symm▸?_;refine(C).symm▸?_;refine(M).symm▸?_;refine OE cl (λx hx=>fE (Pc.mp hl _ (L7 hx).1):∀x∈names.zip ws,scope.names.lookup x.1=IK .local) (λh' H z=>?_) kd;have d:=eS (X:=dY) (k:=s.toks+(names.zip ws).length) (o:=.frm lc) i r (IQ _) (λb o e=>(z.2 b (Jw (Ja e))).trans (IS _ e):∀b o,s.heap.get? b=IK o->h'.get? b=IK o) (by refine((show h'.objs.size=s.heap.objs.size+1 from by refine(z.1 ..).symm▸?_;exact(I7 ..).symm▸rfl)).symm▸?_;exact I8 _) (Jc _ _)
  (λx=>⟨_,H,λy v e=>by
   obtain⟨w,q1,q2⟩:=(RB.zip (names:=names) B).look (G.at_ e);exact⟨w,q1,RV.mono x r.apart v w q2⟩⟩) (by intro _ _ _ q;cases q)
 refine⟨d.inv.nolimit T,?_⟩;have J:(st++[O.frm lc]).length=st.length+1:=IL;have me:(σ.new st.length s.heap.objs.size).a st.length=s.heap.objs.size:=if_pos rfl;refine⟨_,_,d.trans (w7 (X:=dY) (y:=.fresh (.func body (Kq q scope s.heap.objs.size a cd))) (ob:={cls:=.type "generator",data:=.fields #[.int s.gens.size 0,.str fd.name (s.toks+(names.zip ws).length),.str q (s.toks+(names.zip ws).length+1)]}) (k:=s.toks+(names.zip ws).length+1+1) (c:=λL=>.func body (Kq q scope L a cd)) (L:=st.length) d.inv d.rel rfl (by refine(J).symm▸?_;exact Jg _) (by exact(me).symm▸rfl) (Jc _ 2) rfl ⟨_,_,_,I0 _ rfl,rfl,rfl,rfl⟩),.r (st.length+1),⟨by rw[IL];refine(J).symm▸?_;exact Jg _,?_⟩,(h s.gens.size λj c L e=>I2 _ (Array.getElem?_eq_some_iff.mp (by obtain⟨_,hp,_⟩:=r.at_ j _ e;exact hp)).1)⟩;rw[show st.length+1=(st++[O.frm lc]).length from J.symm];exact congrArg Jy (if_pos rfl).symm
theorem zr{σ n s vs ys}(h:PL vs ys):cW σ n s (cE ys) vs:=by
 induction h with
 |nil=>exact rfl
 |cons y t Z a=>exact⟨_,_,rfl,⟨t,rfl,λq=>absurd rfl q⟩,a⟩
structure u5(FF:Addr->dH):Prop where
 l:∀L,(FF L).L=L
 ce:∀L,(FF L).ce=[]
 kind:∀L,(FF L).env.scope.kind=.function
 glob:∀L,(FF L).env.globals=Ki
 bi:∀L,(FF L).env.builtins=Lk
theorem vX{FF L}{G:GC}{σ n s s₁ s' m}(c:u5 FF)(r:G.F=FF L)(u:∀b,G.X b↔b=s.heap.objs.size)(C:G.N=s.heap.objs.size+1)(j:G.NG=s.gens.size)(a:s₁.heap=s.heap.push (Kd.lst.obj #[] 0))(f:s₁.gens=s.gens)(g:s₁.toks=s.toks)(B:W.h₁.objs.size<=L)(y:s.heap.Ns L m)(D:nJ σ n s lc m)(d:(lc.all λp=>p.2.free)=true)(i:∀b,σ.z b->b<s.heap.objs.size)(J:¬σ.z L)(bt:Bt G.X G.XG s₁ s'):lQ G ⟨[],[]⟩ ⟨λZ=>0,σ.z⟩ lc [] G.ys s' s':=by
 have Q:G.F.L=L:=by refine(r ..).symm▸?_;exact c.l L
 have keep:∀b o,s.heap.get? b=IK o->dp o->s'.heap.get? b=IK o:=λb o h so=>bt.keep b o (by refine(a).symm▸?_;exact IS _ h) so λq=>Jw (Ja h) ((u b).mp q);have k:s.heap.objs.size+1<=s'.heap.objs.size:=by have:=bt.grow;rw[a,I7] at this;exact this
 refine⟨⟨bt.inv,⟨λZ Y e=>(by cases e),λZ q=>absurd q (I4 _),λZ Y q=>absurd q (I4 _),λb q=>IU (i b q) (Nat.le_of_succ_le k),λZ Y U q=>absurd q (I4 _)⟩,?_⟩,.refl,λZ q=>absurd q (I4 _),λb q e=>Jw (i b q) ((u b).mp e),λZ Y U P e=>(by cases e),λZ h=>(by cases h),λZ h=>(by cases h),R6 _,by rw[C];exact k,by refine(j).symm▸?_;refine(f)▸?_;exact bt.ggrow⟩;refine(r).symm▸?_;refine⟨(c.l L).symm▸B,⟨m,(c.l L).symm▸y.at λo A=>keep _ o A (fC y A),λx v Z e=>?_⟩,(c.l L).symm▸J,λZ q=>absurd q (I4 _),c.kind L,c.glob L,c.bi L,λx h e=>by have e:=(c.ce ..)▸e;cases e⟩;refine IJ λM=>?_;obtain⟨w,E,H⟩:=D x v e;refine M ?_;exact⟨w,E,RV.c0 (X:=dY) (σ:=σ) (σ':=⟨λZ=>0,σ.z⟩) (n:=0) ⟨λZ h=>h,λb o h so Z Y=>keep b o h so,by refine(g)▸?_;exact bt.tgrow⟩ (λZ Y=>⟨id,λZ q=>absurd q (I4 _)⟩) v 0 0 (λZ q=>absurd q (I4 _)) w (RV.free (Pc.mp d _ (gR e)) H)⟩
theorem call_list_gen{FF body g ys}(T:cB)(hA:A.handled=none)(M:A.depth<recursionLimit)(fo:u5 FF)(ai:∀(j:Nat) c L,st[j]?≠IK (.gen g c L))(E:(lc.all λp=>p.2.free)=true)(hn:ys.length<=sizeLine)(hd:∀L,qt A.in1.in1.in1 (.func body (FF L).env) (FF L) lc ys)(h:Q (.r (st.length+2)) (st++[.gone,.gone,.list (cE ys)])) :
  b5 A (.g .list) [.r (st.length+1)] ((st++[.frm lc])++[.gen g (λL=>.func body (FF L).env) st.length]) Q:=by
 intro σ s w ws hw ak i r;subst hw;have u:((st++[O.frm lc])++[O.gen g (λL=>.func body (FF L).env) st.length]).length=st.length+2:=by rw[IL,IL];rfl
 have C:(st++[O.gone,.gone]).length=st.length+2:=IL;obtain⟨x,rfl,hj,rfl⟩:=fK ak;have a1:=r.at_ st.length (.frm lc) (by refine(I1 ..).symm▸?_;exact tL 0);have a2:=r.at_ (st.length+1) (.gen g (λL=>.func body (FF L).env) st.length) (by refine(I1 ..).symm▸?_;exact tL 1);rw[u] at a1 a2;refine IJ λzz=>?_;obtain⟨m,hm,hk⟩:=a1;obtain⟨ae,H,_⟩:=a2;obtain⟨o,nm,qn,ho,J,aj⟩:=ae;refine zz ?_;have k:st.length<((st++[O.frm lc])++[O.gen g (λL=>.func body (FF L).env) st.length]).length:=by rw[u];exact Ll (by decide)
 generalize f:σ.a st.length=L at hm H;generalize ac:σ.a (st.length+1)=b at ho;have aa:L<s.heap.objs.size:=hm.lt;have D:b<s.heap.objs.size:=Ja ho;have ab:b≠L:=λe=>absurd (r.inj _ _ (show st.length+1<((st++[O.frm lc])++[O.gen g (λL=>.func body (FF L).env) st.length]).length from by rw[u];exact Jg _) k (by rw[f,ac,e])) (My _);have U:=fo.l L
 let G:GC:=⟨A.in1.in1.in1,FF L,s.heap.objs.size+1,s.gens.size,(· =s.heap.objs.size),(· =g),ys⟩
 have ok:G.Ok:=⟨λc e=>⟨by refine(show c=s.heap.objs.size from e).symm▸?_;exact Jg _,λq=>Jw aa ((q.trans U).symm.trans e)⟩,λj e=>by refine(show j=g from e).symm▸?_;exact(Array.getElem?_eq_some_iff.mp H).1,(by refine(U).symm▸?_;exact JL aa)⟩
 have ah:HY G b o g {s with heap:=s.heap.push (Kd.lst.obj #[] 0)} ys {s with heap:=s.heap.push (Kd.lst.obj #[] 0)} :=
  ⟨IS _ ho,(d6 (X:=dY) (o:=Kd.lst.obj #[] 0) i r).inv,.refl,R6 _,by rw[I7];exact IQ _,IQ _,_,H,λs' bt=>⟨rfl,hd L G ⟨λZ=>0,σ.z⟩ s' rfl rfl rfl ok
   (vX (G:=G) fo rfl (λZ=>Iff.rfl) rfl rfl (s:=s) (s₁:={s with heap:=s.heap.push (Kd.lst.obj #[] 0)}) rfl rfl rfl (f▸r.above _ k) hm hk E r.zlt (λz=>r.zoff _ z _ k f) bt)⟩⟩
 refine rj (S:=s.heap.objs.size) rfl (yk (A:=A.in1.in1) (G:=G) T rfl hA M ok (JL D) (λe=>ab (e.trans U)) (λe=>Jw D e) (λh e=>⟨o,nm,qn,e,J,aj⟩:∀h:Heap,h.get? b=IK o->h.IsGen b g) rfl λc e=>by refine(show c=s.heap.objs.size from e).symm▸?_;exact i.size) ah (NL D) hn λs' fin hS=>?_;refine IJ λzz=>?_;obtain⟨i',R,oL,af,al⟩:=fin;refine zz ?_;rw[show G.F.L=L from U] at af;have kp:∀c y,s.heap.get? c=IK y->dp y->c≠L->s'.heap.get? c=IK y:=λc y e so q=>R.keep c y (JL (Ja e)) (IS _ e) so (λP=>q (P.trans U)) λP=>Jw (Ja e) P;have gr:s.heap.objs.size<=s'.heap.objs.size:=IT (by rw[I7];exact I8 _) R.grow;have y:Step σ ((st++[O.frm lc])++[O.gen g (λL=>.func body (FF L).env) st.length]) s σ (st++[.gone,.gone]) s':=by
  refine⟨?_,i',⟨λh z e=>?_,λh q=>r.above h (by refine(u).symm▸?_;refine(C)▸?_;exact q),λh j q P=>r.inj h j (by rw[u,<-C];exact q) (by rw[u,<-C];exact P),λc z=>IU (r.zlt c z) gr,λc z h q=>r.zoff c z h (by rw[u,<-C];exact q)⟩,λj z e hj=>R.gkeep j z (Array.getElem?_eq_some_iff.mp e).1 e λq=>hj (st.length+1) (λL=>.func body (FF L).env) st.length ?_,λh j c' L' e=>.inl ⟨h,c',L',?_⟩,R.ggrow⟩
  ·refine(u).symm▸?_;refine(C).symm▸?_;exact⟨IQ _,λZ Y=>rfl,λh q P=>absurd P (Nat.not_lt.mpr q),λZ z=>z,λZ=>.inl,λc z e so off Z=>kp c z e so λq=>off st.length (Ll (by decide)) (f.trans q.symm),gr,R.tgrow⟩
  ·refine(C).symm▸?_;rcases KZ h st.length with q | q
   ·have e:=(Jp q)▸e;have a:=r.at_ h z (by refine(I1 ..).symm▸?_;refine(Jp q).symm▸?_;exact e);rw[u] at a;exact a.c0 (⟨λZ z=>z,λc y e so Z q=>kp c y e so q,R.tgrow⟩:Kp (· =L) σ (st.length+2) s σ s') (λc z=>⟨fun(e:c=L)=>r.zoff c z _ k (f.trans e.symm),λh q=>r.zoff c z h (by refine(u).symm▸?_;exact q)⟩:Apart (· =L) σ (st.length+2)) (λh q=>⟨q,rfl⟩) (λy hy so=>kp _ y hy so (λe'=>Jw q (r.inj h _ (O2 q k) k (e'.trans f.symm)):σ.a h≠L)) λj c L' eo hj=>R.gkeep j _ (Array.getElem?_eq_some_iff.mp hj).1 hj fun(q:j=g)=>ai h c L' (by refine(e).symm▸?_;refine(eo).symm▸?_;exact(q).symm▸rfl)
   ·replace e:=(Jr q)▸e;have hl:=(List.getElem?_eq_some_iff.mp e).1;obtain⟨d,rfl⟩:∃d,h=st.length+d:=⟨h-st.length,by exact b8 19 1 q⟩
    rw[Lm] at e hl
    match d,e with
    |0,e=>cases e;exact⟨oL,by rw[Lv,f];exact af,al⟩
    |1,e=>cases e;exact⟨o,by rw[ac];exact kp b o ho (b9 J) ab,b9 J⟩
  ·refine(I1 ..).symm▸?_;refine(show j=g from q).symm▸?_;exact tL 1
  ·rcases KZ h st.length with q | q
   ·rw[Jp q] at e;refine(I1 ..).symm▸?_;refine J3 (Jp q ..) ?_;exact e
   ·rw[Jr q] at e;obtain⟨d,rfl⟩:∃d,h=st.length+d:=⟨h-st.length,by exact b8 19 1 q⟩
    rw[Lm] at e
    match d,e with
    |0,e=>cases e
    |1,e=>cases e
 obtain⟨ag,c,v,B⟩:=hS;have z:=g0 (o:=.list (cE ys)) y (IQ _) (Ja v) i.size ⟨λz=>I2 _ (r.zlt _ z),λh q e=>I2 _ (e▸r.lt (by refine(u).symm▸?_;refine(C)▸?_;exact q))⟩ (λZ=>⟨ag,c,v,by refine(I3)▸?_;refine(qF B).symm▸?_;exact hn,zr B⟩) (by intro _ _ _ q;cases q);rw[I1 st [O.gone,O.gone]] at z;refine⟨_,_,z,.r (st.length+2),⟨by rw[IL];exact Jg _,?_⟩,h⟩;refine(C)▸?_;exact congrArg Jy (if_pos rfl).symm
variable {prog:Program}{w:K8}{R:GenEnd}{Y:Protocol}{n:Nat}{s₀:IY}{c:Code}{u:List SI}{s:IY}{env:Env}{K:Flow->Qx Fin}{C:Value->Qx Fin}{B:Bool->Bool}{z:List Value->List Value}
theorem zu{target iter body orelse pos}(j:∀v,PH iter env v=pure v)(h:Jd (I6 prog w) (A.over c u) (eval iter env) (λx s₁=>Jd (I6 prog w) (A.over c u) (Mm x) (λd a=>∀p,Ve (I6 prog w) A R Y n s₀ (.forLoop target d body orelse env) ((I6 prog w).den (.forLoop target d body orelse env))
   (.ret (λr=>((match r with | .ok f=>(.pure f:Qx Flow) | .error e=>.raise e).onRaise fun(x:Value)=>do
    if(<-Qh x 1) == Lp then Qg "frame.own-activation:exception-without-traceback"
    setFlight x env.frame).wrap K C B z) none (B false) (z []) c p []::u) a) (λZ U=>False) s₁) (λZ U=>False) s) :
  Ve (I6 prog w) A R Y n s₀ c ((exec (.For target iter body orelse pos) env).wrap K C B z) u s:=by
 rw[exec_For];show Ve _ A R Y n s₀ c (.at pos λZ=>(eval iter env >>= λv=>PH iter env v >>= λx=>OM iter.pos >>= λZ=>Mh [x] (Mm x) >>= λd=>runOwn (.forLoop target d body orelse env) env).wrap K C B z) u s;refine UE ?_;rw[LB,MB];refine PD (I5 h (λx s₁ g=>?_) λZ U e=>e.elim);refine(j x).symm▸?_;show Ve _ A R Y n s₀ c (.at iter.pos λZ=>(Mh [x] (Mm x) >>= λd=>runOwn (.forLoop target d body orelse env) env).wrap K C B z) u s₁;refine UE ?_;rw[LB,MB];refine PD (I9 (I5 g (λd a i=>?_) λZ U e=>e.elim));exact seg_call i
theorem kU{x px it body}(h:Jd (I6 prog w) (A.over (.forLoop (.Name x px) it body [] env) u) (Lj it) (λr s'=>match r with
   |none=>Ve (I6 prog w) A R Y n s₀ (.block [] env) (leafOf (.ok .next)) u s'
   |some v=>Jd (I6 prog w) (A.over (.forLoop (.Name x px) it body [] env) u) (storeName env x v) (λZ a=>Ve (I6 prog w) A R Y n s₀ (.forLoop (.Name x px) it body [] env) ((OH body env).wrap (λf=>match f with
      |.next | .cont=>.pure (.again (.forLoop (.Name x px) it body [] env))
      |.brk=>.pure (.done .next)
      |.ret v=>.pure (.done (.ret v))) (λe=>(do OP e env;Mg e:Qx Unit).wrap (λZ=>.raise e) .raise id id) id id) u a) (λZ U=>False) s') (λZ U=>False) s) :
  Ve (I6 prog w) A R Y n s₀ (.forLoop (.Name x px) it body [] env) ((I6 prog w).den (.forLoop (.Name x px) it body [] env)) u s:=by
 show Ve _ A R Y n s₀ _ ((forTurn (.Name x px) it body [] env).onRaise (λx=>do OP x env;Mg x)) u s;rw[Qx.onRaise_eq_wrap];generalize d:(λe=>((do OP e env;Mg e:Qx Unit)).bind λZ=>(.raise e:Qx Fin))=HH;show Ve _ A R Y n s₀ _ (.at px λZ=>(((Lj it).onRaise (λZ=>OM {px with line:=0})) >>= λr=>match r with
  |none=>UP (.block [] env)
  |some v=>Of (.Name x px) it v >>= λZ=>Ni (.Name x px) env v >>= λZ=>OH body env >>= λf=>match f with
   |.next | .cont=>UP (.forLoop (.Name x px) it body [] env)
   |.brk=>pure (.done .next)
   |.ret v=>pure (.done (.ret v))).wrap .pure HH id id) u s
 refine UE ?_;rw[LB,MB];refine PD (Q6 (I5 h (λr s' g=>?_) λZ U e=>e.elim));cases r with
 |none=>exact T8 (c':=.block [] env) rfl g
 |some v =>
  show Ve _ A R Y n s₀ _ ((Ni (.Name x px) env v >>= λZ=>OH body env >>= λf=>match f with
   |.next | .cont=>UP (.forLoop (.Name x px) it body [] env)
   |.brk=>pure (.done .next)
   |.ret v=>pure (.done (.ret v))).wrap _ _ _ _) u s'
  rw[LB,MB];refine PD (Pz (I5 g (λZ a c=>?_) λZ U e=>e.elim));rw[LB,MB];rw[Qx.wrap_congr (OH body env) _ _ (K':=λf=>match f with
      |.next | .cont=>.pure (.again (.forLoop (.Name x px) it body [] env))
      |.brk=>.pure (.done .next)
      |.ret v=>.pure (.done (.ret v))) (H':=(λe=>(do OP e env;Mg e:Qx Unit).wrap (λZ=>.raise e) .raise id id))
    (λf=>by cases f <;> rfl)
    (λe=>by refine(d)▸?_;first | exact Sx _ _ | (show(do OP e env;Mg e:Qx Unit).bind (λZ=>.raise e)=_;rw[Sx]))]
  exact c
noncomputable def Fd(o:Obj)(l:Addr)(i:Nat):Prop:=o.cls=.type "list_iterator"/\o.data=.fields #[.ref l,.int i 0]
end
section
variable {G:GC}{i:Pin}{c:Code}{a:List SI}{lc:Lc}{st:St}{ys:List Str}{Q:Fl->Lc->St->List Str->Prop}{σ:Sg}{s₀:IY}{s:IY}
noncomputable def Pin.more(i:Pin)(p:Addr×Obj)(v:V×Value):Pin:=⟨p::i.os,v::i.vs⟩
theorem lQ.more{p v}(g:lQ G i σ lc st ys s₀ s)(h:Fi G σ st.length s p)(h':RV σ 0 s v.1 v.2):lQ G (i.more p v) σ lc st ys s₀ s :=
 ⟨g.p,g.since,g.own,g.off,g.gown,λq a=>(Tq.mp a).elim (λe=>e▸h) (g.hd q),λq a=>(Tq.mp a).elim (λe=>e▸h') (g.kv q),g.suf,g.size,g.gsize⟩
theorem zv{X σ st s s' v w}(x:cC X σ st s σ st s')(a:∀b,σ.z b->¬X b)(r:Rel σ st s)(h:RV σ 0 s v w):RV σ 0 s' v w:=RV.c0 x.x.kp (λb z=>⟨a b z,r.zoff b z⟩) v 0 0 (λZ q=>absurd q (I4 _)) w h
theorem lQ.turn{I o v h' k}(T:cB)(B:∀p∈i.os,p.1≠I)(g:lQ G (i.more (I,o) v) σ lc st ys s₀ s)(A:W.h₁.objs.size<=G.N)(d:∀b y,b≠I->s.heap.get? b=IK y->h'.get? b=IK y)(hz:s.heap.objs.size<=h'.objs.size)(j:s.toks<=k):lQ G i σ lc st ys s₀ {s with heap:=h',toks:=k}/\cC (· =I) σ st s σ st {s with heap:=h',toks:=k}:=by
 have hd:=g.hd _ (Je ..);have x:=dJ (X:=(· =I)) (k:=k) T g.p.i g.p.r (IT A hd.lo) rfl ⟨hd.z,hd.off⟩ d hz j;have h:∀b,σ.z b->¬b=I:=λb a e=>hd.z (e▸a);exact⟨⟨⟨x.inv,x.rel,(g.p.f.step g.p.r x (λe=>hd.ne e.symm) h)⟩,⟨λb y a u so w=>d b y (Jw (IU a hd.lo)) (g.since.keep b y a u so w),g.since.gkeep,IT g.since.grow hz,g.since.ggrow,IT g.since.tgrow j⟩,g.own,g.off,g.gown,
  λp c=>have q:=g.hd p (Jm _ c);⟨d _ _ (B p c) q.at_,q.so,q.lo,q.ne,q.z,q.off⟩,λp c=>zv x h g.p.r (g.kv p (Jm _ c)),g.suf,IT g.size hz,g.gsize⟩,x⟩
theorem cW.none_at{n vs}{a:Array Value}(h:cW σ n s vs a.toList){k}(c:vs.length<=k):a[k]?=none:=by
 rw[LJ,<-I3,h.len];exact c
noncomputable abbrev EH(G:GC)(x:Str)(c:Ua)(I:Addr)(a:List Stmt):Code:=.forLoop (.Name x c) (.ref I) a [] G.F.env
noncomputable def FN(G:GC)(i:Pin)(x:Str)(d:Ua)(I l:Addr)(c:List Stmt)(items:List V)(st:St)(a:List SI)(e:Nat->Lc->List Str->Prop)(k:Nat):Prop :=
 ∀σ lc ys s₀ s o,e k lc ys->Fd o l k->lQ G (i.more (I,o) (.l items,.ref l)) σ lc st ys s₀ s->SG G ys.length s₀ (EH G x d I c) ((I6 W.prog W.w).den (EH G x d I c)) a s
structure y5(G:GC)(d:Nat)(c:Code)(fs:List SI):Prop where
 a:Ph fs=none
 b:fs.any M9=false
 h:(G.A.over c fs).handled=none
 d:(G.A.over c fs).depth=d
theorem CL{x px I l body items Iv d}(T:cB)(r:W.h₁.objs.size<=G.N)(A:∀p∈i.os,p.1≠I)(K:y5 G d (EH G x px I body) a)(j:∀σ lc ys s₀ s k,Iv items.length lc ys->lQ G i σ lc st ys s₀ s->SG G ys.length s₀ k (leafOf (.ok .next)) a s):FN G i x px I l body items st a Iv items.length:=by
 intro σ lc ys s₀ s o z f g;refine kU ?_;obtain⟨l',w,n,e,_,v,_,c⟩:=g.kv _ (Je ..);cases e;refine cG (Ou K.h ⟨o,(g.hd _ (Je ..)).at_,f.1,f.2⟩ ⟨_,v,rfl,n,rfl⟩ (c.none_at (IQ _)) λh' q hz=>?_);exact j σ lc ys s₀ _ _ z (g.turn T A r (λb y u e=>q b y u e) hz (IQ _)).1
theorem z9{x:Str}{px:Ua}{I l:Addr}{j:List Stmt}{items:List V}{Y:Nat->Lc->List Str->Prop}{d k:Nat}(T:cB)(ok:G.Ok)(hW:W.h₁.objs.size<=G.N)(nd:∀p∈i.os,p.1≠I)(hI:G.N<=I)(af:I≠G.F.L)(hx:G.F.kd x=IK .local)(K:y5 G d (EH G x px I j) a)(ab:k<items.length)(turn:∀Z c' B lc ys,y5 G d c' B->Y k lc ys->kQ G Z c' B j (lc.set x items[k]) st ys λf c u h=>(f=.next∨f=.cont)/\u=st/\Y (k+1) c h)(next:FN G i x px I l j items st a Y (k+1)):FN G i x px I l j items st a Y k:=by
 intro σ lc ys s₀ s o iv R g;refine kU ?_;have hd:=g.hd _ (Je ..);have Q:=g.kv _ (Je ..);obtain⟨l',ag,n,e,_,hl,_,P⟩:=id Q;cases e;obtain⟨xv,h1,h2⟩:=P.get (IV ab);have h1:=Ju▸h1;refine N9 ⟨o,hd.at_,R.1,R.2⟩ ⟨_,hl,rfl,n,rfl⟩ h1 λh' aa S=>?_;refine IJ λzz=>?_;obtain⟨o',ac,E,H⟩:=aa;obtain⟨g',y⟩:=g.turn T nd hW (λb y hb e=>(S.2 b hb).trans e) (Js S.1.symm) (IQ s.toks);refine zz ?_;have ap:∀b,σ.z b->¬b=I:=λb hb e=>hd.z (e▸hb);have C:=g'.more (p:=(I,o')) (v:=(.l items,.ref l)) ⟨ac,b9 E,hI,af,hd.z,hd.off⟩ (zv y ap g.p.r Q);refine gw T C.p hx (RV.up _ _ (zv y ap g.p.r h2)) λU z fr=>?_;refine turn _ _ a lc ys K iv _ _ id id σ s₀ U rfl (λf f' A c u h w X M q D=>?_) (C.step ok z.ir fr);obtain⟨J,e,ae⟩:=q;cases e;have nx:=next A c h w X o' ae ⟨E,H⟩ D;rcases J with J | J
 ·subst J;cases M;exact T8 rfl nx
 ·subst J;cases M;exact T8 rfl nx
theorem yr{x:Str}{A:Ua}{I l:Addr}{c:List Stmt}{items:List V}{r:Nat->Lc->List Str->Prop}{d:Nat}(T:cB)(ok:G.Ok)(v:W.h₁.objs.size<=G.N)(w:∀p∈i.os,p.1≠I)(y:G.N<=I)(q:I≠G.F.L)(z:G.F.kd x=IK .local)(K:y5 G d (EH G x A I c) a)(turn:∀k (B:k<items.length) Hd' c' fs' lc ys,y5 G d c' fs'->r k lc ys->kQ G Hd' c' fs' c (lc.set x items[k]) st ys λf h j o=>(f=.next∨f=.cont)/\j=st/\r (k+1) h o)(g:∀σ lc ys s₀ s u,r items.length lc ys->lQ G i σ lc st ys s₀ s->SG G ys.length s₀ u (leafOf (.ok .next)) a s):∀m k,k+m=items.length->FN G i x A I l c items st a r k
 |0,k,e=>(show items.length=k from e.symm)▸CL T v w K g
 |m+1,k,e=>z9 T ok v w y q z K (by exact b6 9 22 e) (turn k _) (yr T ok v w y q z K turn g m (k+1) (by exact cO 9 23 e))
theorem Ad{x px pos iter body items}(R:Nat->Lc->List Str->Prop)(T:cB)(ok:G.Ok)(Y:Ph a=none)(S:a.any M9=false)(hs:jz iter=true)(hA:(G.A.over c a).handled=none)(hx:G.F.kd x=IK .local)(hv:c8 (G.A.over c a) G.F iter lc st λv u=>v=.l items/\u=st/\R 0 lc ys)(turn:∀c' j C,Ph j=none->j.any M9=false->(G.A.over c' j).handled=none->(G.A.over c' j).depth=(G.A.over c a).depth->∀k v lc ys,items[k]?=IK v->R k lc ys ->
    kQ G C c' j body (lc.set x v) st ys λf D E H=>(f=.next∨f=.cont)/\E=st/\R (k+1) D H) (fin:∀lc ys,R items.length lc ys->Q .next lc st ys):AA G i c a (.For (.Name x px) iter body [] pos) lc st ys Q:=by
 intro K Hh gd lv σ s₀ s aa hK g;refine zu (fQ hs) (I5 (hv σ s g.p) (λva s₁ q=>?_) λZ U e=>e.elim);obtain⟨J,u,B,v,M,e1,e2,ab⟩:=q;subst e1 e2;have w:=g.step ok B.iQ.ir (g.p.step B).f;refine IJ λzz=>?_;obtain⟨l,ag,m,rfl,af,hl,hsz,ac⟩:=id M;refine zz ?_;refine Nv ⟨_,hl,rfl,m,rfl⟩ λp=>?_;have y:=d6 (X:=dY) (o:={cls:=.type "list_iterator",data:=.fields #[.ref l,.int 0 0]}) w.p.i w.p.r;have P:s₁.heap.objs.size≠G.F.L:=λe=>I2 _ (IU ok.own (e▸w.size));refine yr T ok (JU (JP g.p.f.1 ok.own):W.h₁.objs.size<=G.N) (λp hp=>Jw (Ja (w.hd p hp).at_)) w.size P hx (d:=(G.A.over c a).depth) ⟨?_,?_,?_,?_⟩ (λk hk C c' j lc ys z iv=>turn c' j C z.a z.b z.h z.d k _ lc ys (IV hk) iv)
  ?_ items.length 0 (JK _) J lc ys s₀ _ _ ab ⟨rfl,rfl⟩
  ((w.step ok y.iQ.ir (w.p.step y).f).more ⟨I0 _ rfl,b9 rfl,w.size,P,λz=>I2 _ (w.p.r.zlt _ z),λh q e=>I2 _ (e▸w.p.r.lt q)⟩ (zv y (λZ U=>id) w.p.r (RV.free rfl M)))
 ·show(Ph a).map _=none;refine(Y).symm▸?_;rfl
 ·show(gd false || a.any M9)=false;refine(aa).symm▸?_;refine(S).symm▸?_;rfl
 ·exact hA
 ·show G.A.depth+frameCount ((c,p)::a.map Tv)+0=G.A.depth+frameCount (a.map Tv)+c.weight;refine(frameCount_cons ..).symm▸?_;exact b6 19 2
 ·exact λσ lc ys s₀ s ae iv g=>by exact seg_leaf (.ok .next) (hK .next .next σ lc u ys s₀ s rfl (fin lc ys iv) g)
end
section
open Builtin
structure nG(z TI TO i1 i2:Addr):Prop where
 TIz:TI≠z
 TOz:TO≠z
 i1z:i1≠z
 i2z:i2≠z
 TITO:TI≠TO
 TIi1:TI≠i1
 TIi2:TI≠i2
 TOi1:TO≠i1
 TOi2:TO≠i2
 i12:i1≠i2
inductive wx(z TI TO i1 i2:Addr)(f0:Value)(S1 S2:Heap->Prop)(h:Heap):Prop
 |mk (a b:Value) (hz:PS h z TI TO f0) (hTI:Od h TI (.ref i1) (.ref i2)) (hTO:Od h TO a b) (h1:S1 h) (h2:S2 h)
structure N4(c a b d e:Addr):Prop where
 a:c≠a
 b:c≠b
 d:c≠d
 e:c≠e
mutual
theorem N4.of{c a b d e}(h:c∉[a,b,d,e]):N4 c a b d e:=⟨λq=>h (q▸.head _),λq=>h (q▸.tail _ (.head _)),λq=>h (q▸.tail _ (.tail _ (.head _))),λq=>h (q▸.tail _ (.tail _ (.tail _ (.head _))))⟩
theorem N4.not{c a b d e}(h:N4 c a b d e):c∉[a,b,d,e]:=λq=>(Tq.mp q).elim h.a λq=>(Tq.mp q).elim h.b λq=>(Tq.mp q).elim h.d λq=>(Tq.mp q).elim h.e Jf
end
section
variable {prog:Program}{w:K8}{A:Around}{E:Value->IY->Prop}{s:IY}{z:Addr}{p:Addr}{g:Addr}{j:Addr}{d:Addr}{D:Nat}{C:Nat}{G:Nat->Value->Prop}{F:Nat->Value->Prop}{B:Nat->Heap->Prop}{u:Nat->Heap->Prop}
theorem wG{i n k P S h h'}(D:OK prog w A i [i] n P S)(st:S k h)(f:∀o,h.get? i=IK o->h'.get? i=IK o):S k h' :=
 D.frame _ _ _ st λb a o e=>by
  cases OB.mp a;exact f o e
theorem wx.keep{f0 k l h h'}(i:OK prog w A j [j] D G B)(q:OK prog w A d [d] C F u)(t:wx z p g j d f0 (B k) (u l) h)(f:∀b,b∈[z,p,g,j,d]->∀o,h.get? b=IK o->h'.get? b=IK o):wx z p g j d f0 (B k) (u l) h':=by
 obtain⟨a,b,hz,c,e,r,v⟩:=t;exact⟨a,b,f z (.head _) _ hz,f p (.tail _ (.head _)) _ c,f g (.tail _ (.tail _ (.head _))) _ e,wG i r (f j (.tail _ (.tail _ (.tail _ (.head _))))),wG q v (f d (.tail _ (.tail _ (.tail _ (.tail _ (.head _))))))⟩
inductive Iz(z TI TO i1 i2:Addr)(k n1 n2:Nat)(P1 P2:Nat->Value->Prop)(S1 S2:Nat->Heap->Prop)(s s':IY):Prop
 |mk (x y:Value) (h':Heap) (tk:Nat) (k1:k<n1) (k2:k<n2) (hx:P1 k x) (hy:P2 k y) (hz:PS h' z TI TO .ellipsis) (hTI:Od h' TI (.ref i1) (.ref i2)) (hTO:Od h' TO x y) (h1:S1 (k+1) h') (h2:S2 (k+1) h') (hsz:h'.objs.size=s.heap.objs.size) (hk:∀c o,N4 c z TO i1 i2->s.heap.get? c=IK o->h'.get? c=IK o) (e:s'={s with heap:=h',toks:=tk})
theorem rM{f0 h h' e}(hz:PS h z p g f0)(d:JW z h h')(c:∃o,h.get? e=IK o/\o.cls=.type "StopIteration"):∃o,h'.get? e=IK o/\o.cls=.type "StopIteration":=by
 refine IJ λf=>?_;obtain⟨o,a,hc⟩:=c;refine f ?_;refine⟨o,d.extBut _ _ (λx=>?_) a,hc⟩;subst x;cases hz.symm.trans a;exact absurd (Vd hc) (by decide)
theorem sk{M:UY}{a d:Type}{f:a->d->Qx (ForInStep d)}{x y:a}{b:d}{Q:d->IY->Prop}(h:Jd M A (f x b) (λr s'=>∃i,r=.yield i/\Jd M A (f y i) (λr j=>∃c,r=.yield c/\Q c j) E s') E s):Jd M A (forIn [x,y] b f) Q E s:=by
 rw[NR];refine II (I5 h (λr s' g=>?_) λZ U e=>e);obtain⟨i,e,h⟩:=g;subst e;show Jd _ _ (forIn [y] i f) _ _ _;rw[NR];refine II (I5 h (λr s' g=>?_) λZ U e=>e);obtain⟨c,e,h⟩:=g;subst e;exact IP h
theorem zi{k n:Nat}{x y:Value}{h:Heap}{tk:Nat}{Q:Unit->IY->Prop}(a:nG z p g j d)(S:OK prog w A j [j] D G B)(T:OK prog w A d [d] C F u)(Z:h.objs.size=n)(hz:PS h z p g .ellipsis)(M:Od h p (.ref j) (.ref d))(P:Od h g x y)(U:B k h)(X:u k h)(Y:∀h',wx z p g j d (Lb n) (B k) (u k) h'->h'.IsTuple n #[x,y]->(∀c o,c≠z->h.get? c=IK o->h'.get? c=IK o)->Q () {s with heap:=h',toks:=tk}) :
  Jd (I6 prog w) A (Se (.ref z) (.ref h.objs.size)) Q E {s with heap:=h.push {cls:=.type "tuple",data:=.seq #[x,y]},toks:=tk}:=by
 subst Z;have v:PS (h.push {cls:=.type "tuple",data:=.seq #[x,y]}) z p g .ellipsis:=IS _ hz;refine II (Ml v (Lz rfl) λJ f i=>?_);replace f:PS J z p g (Lb h.objs.size):=f;refine Ml f (Lz rfl) λr H q=>?_;have up:∀c o,c≠z->h.get? c=IK o->r.get? c=IK o:=λc o R e=>q.extBut _ _ R (i.extBut _ _ R (IS _ e));have ne:h.objs.size≠z:=NL (Ja hz);exact Y r ⟨x,y,H,up _ _ a.TIz M,up _ _ a.TOz P,wG S U λo=>up _ o a.i1z,wG T X λo=>up _ o a.i2z⟩ ⟨_,q.extBut _ _ ne (i.extBut _ _ ne (I0 _ rfl)),rfl,_,rfl⟩ up
theorem u7{k}{Q:Value->IY->Prop}(f:nG z p g j d)(D1:OK prog w A j [j] D G B)(D2:OK prog w A d [d] C F u)(t:wx z p g j d .none (B k) (u k) s.heap)(l1:k<=D)(l2:k<=C)(hQ:k<D->k<C->∀x y h' tk,G k x->F k y->wx z p g j d (Lb s.heap.objs.size) (B (k+1)) (u (k+1)) h'->h'.IsTuple s.heap.objs.size #[x,y] ->
   (∀c o,c∉[z,g,j,d]->s.heap.get? c=IK o->h'.get? c=IK o)->Q (.ref s.heap.objs.size) {s with heap:=h',toks:=tk}) (hE:(k=D∨k=C)->∀h' e tk,(∀c o,c∉[z,g,j,d]->s.heap.get? c=IK o->h'.get? c=IK o)->(∃o,h'.get? e=IK o/\o.cls=.type "StopIteration")->E (.ref e) {s with heap:=h',toks:=tk}) :
  Jd (I6 prog w) A (Builtin.«zip.__next__» ⟨[.ref z],[]⟩) (λfin s'=>∃v,fin=.done (.ret v)/\Q v s') E s:=by
 refine IJ λzz=>?_;obtain⟨a,b,hz,an,au,h1,h2⟩:=t;refine zz ?_;refine II (m:=Qh (.ref z) 2) (Ks hz rfl (x:=.bool false) rfl ?_);refine II (m:=Qh (.ref z) 3) (Ks hz rfl (x:=.ref p) rfl ?_);refine II (JS an rfl ?_);refine II (m:=Sb (.ref z)) (II (m:=Qh (.ref z) 0) (Ks hz rfl (x:=.none) rfl (IP ?_)));refine UD (by rfl) ?_;refine II (Li ?_);refine II (m:=Qh (.ref z) 4) (Ks hz rfl (x:=.ref g) rfl ?_);refine II (Ml hz (Lz rfl) λap R H=>?_);replace R:PS ap z p g .ellipsis:=R;refine II (I5 (Q:=λr s'=>r=(none,())/\Iz z p g j d k D C G F B u s s') (sk (II (Q6 ?_))) (λr s' q=>?_) λZ U e=>e)
 ·refine(M4 l1).elim (λk1=>?_) λe1=>?_
  ·refine II (m:=KL (.ref j)) (D1.item k _ _ _ k1 (wG D1 h1 λo=>H.extBut _ o f.i1z) λx ag aw hx ak h=>IP ?_);have X:Od ag g a b:=h.extBut _ _ f.TOi1 (H.extBut _ _ f.TOz au);refine II (JS X rfl ?_);refine II (Si X λh3 P i=>?_);refine II (Nx (IP ⟨_,rfl,?_⟩));replace P:Od h3 g x b:=P;have T:∀c o,N4 c z g j d->s.heap.get? c=IK o->h3.get? c=IK o:=λc o q e=>i.extBut _ _ q.b (h.extBut _ _ q.d (H.extBut _ _ q.a e));have ae:PS h3 z p g .ellipsis:=i.extBut _ _ f.TOz.symm (h.extBut _ _ f.i1z.symm R);have ab:u k h3:=wG D2 h2 λo e=>i.extBut _ _ f.TOi2.symm (h.extBut _ _ f.i12.symm (H.extBut _ _ f.i2z e));have al:B (k+1) h3:=wG D1 ak λo=>i.extBut _ o f.TOi1.symm;refine II (Q6 ?_);refine(M4 l2).elim (λk2=>?_) λe2=>?_
   ·refine II (m:=KL (.ref d)) (D2.item k _ _ _ k2 ab λy ah ax hy am J=>IP ?_);have Y:Od ah g x b:=J.extBut _ _ f.TOi2 P;refine II (JS Y rfl ?_);refine II (Si Y λaa ai M=>?_);have S:∀ {c o},c≠g->c≠d->h3.get? c=IK o->aa.get? c=IK o:=λa b e=>M.extBut _ _ a (J.extBut _ _ b e);exact II (Nx (IP ⟨_,rfl,rfl,x,y,aa,_,k1,k2,hx,hy,S f.TOz.symm f.i2z.symm ae,S f.TITO f.TIi2 (T _ _ ⟨f.TIz,f.TITO,f.TIi1,f.TIi2⟩ an),ai,wG D1 al λo=>S f.TOi1.symm f.i12,wG D2 am λo=>M.extBut _ o f.TOi2.symm,M.1.trans (J.1.trans (i.1.trans (h.1.trans H.1))),λc o q e=>S q.b q.e (T c o q e),rfl⟩))
   ·subst e2;refine II (m:=KL (.ref d)) (D2.done _ _ _ ab λah e J he=>?_);have af:PS ah z p g .ellipsis:=J _ _ f.i2z.symm ae;exact Ml af (Lz rfl) λaa Z M=>hE (.inr rfl) aa e _ (λc o q x=>M.extBut _ _ (N4.of q).a (J _ _ (N4.of q).e (T c o (N4.of q) x))) (rM af M he)
  ·subst e1;refine II (m:=KL (.ref j)) (D1.done _ _ _ (wG D1 h1 λo=>H.extBut _ o f.i1z) λag e h he=>?_);have ac:PS ag z p g .ellipsis:=h _ _ f.i1z.symm R;exact Ml ac (Lz rfl) λh3 Z i=>hE (.inl rfl) h3 e s.toks (λc o q x=>i.extBut _ _ (N4.of q).a (h _ _ (N4.of q).d (H.extBut _ _ (N4.of q).a x))) (rM ac i he)
 ·obtain⟨rfl,x,y,h',tk,k1,k2,hx,hy,av,ao,aj,ar,as,hsz,hk,rfl⟩:=q;refine II (JS aj rfl ?_);refine II (QC ?_);refine II (zi f D1 D2 hsz av ao aj ar as λaq t ht up=>IP ⟨_,rfl,?_⟩);exact hsz▸hQ k1 k2 x y aq tk hx hy t ht λc o q e=>up c o (N4.of q).a (hk c o (N4.of q) e)
theorem kY{k Q}(f:nG z p g j d)(i:OK prog w A.in1 j [j] D G B)(q:OK prog w A.in1 d [d] C F u)(t:wx z p g j d .none (B k) (u k) s.heap)(X:k<=D)(Y:k<=C)(v:k<D->k<C->∀x y h' tk,G k x->F k y->wx z p g j d (Lb s.heap.objs.size) (B (k+1)) (u (k+1)) h'->h'.IsTuple s.heap.objs.size #[x,y] ->
   (∀c o,c∉[z,g,j,d]->s.heap.get? c=IK o->h'.get? c=IK o)->Q (IK (.ref s.heap.objs.size)) {s with heap:=h',toks:=tk}) (r:(k=D∨k=C)->∀h' tk,(∀c o,c∉[z,g,j,d]->s.heap.get? c=IK o->h'.get? c=IK o)->Q none {s with heap:=h',toks:=tk}) :
  Jd (I6 prog w) A (Lj (.ref z)) Q E s:=by
 have h:s.TypeIs (.ref z) "zip":=by
  obtain⟨_,_,hz⟩:=t;exact⟨_,hz,rfl⟩
 refine II (Ko (JH (name:=IM "__next__") h Qk
  (JG Qk h PySem.F.entry_zip_next (u7 f i q t X Y (λS U x y h' tk P R t M up=>IP (v S U x y h' tk P R t M up)) λe h' a tk up H=>?_) (PySem.F.args_zip_next_1 _))))
 refine IJ λZ=>?_;obtain⟨o,J,hc⟩:=H;refine Z ?_;exact II (Lu (T:="StopIteration") (b:=true) ⟨o,J,hc⟩ Mw (IP (r e h' tk up)))
theorem r8(f:nG z p g j d)(J:OK prog w A.in1 j [j] D G B)(M:OK prog w A.in1 d [d] C F u) :
  WalksU prog w A z [z,p,g,j,d] [z,g,j,d] (min D C)
   (λi vals=>∃x y,G i x/\F i y/\vals=#[x,y])
   (λi h=>wx z p g j d .none (B i) (u i) h)
   (λi T h=>wx z p g j d (Lb T) (B (i+1)) (u (i+1)) h/\N4 T z g j d) where
 sub:=λc hc=>by
  cases hc with
  |head=>exact .head _
  |tail Z hc=>exact .tail _ (.tail _ hc)
 frame:=λi h h' q hk=>q.keep J M hk
 item:=λi s Q E hi q v=>by
  refine kY f J M q (JU (IU hi (MM ..))) (JU (IU hi (Nt ..))) (λk1 k2 x y h' tk hx hy t ht up=>v _ _ _ _ ⟨x,y,hx,hy,rfl⟩ ht ⟨t,?_⟩ up) λe=>absurd hi ?_
  ·obtain⟨a,b,hz,P,H,R,S⟩:=q;have lt:∀ {c o},s.heap.get? c=IK o->s.heap.objs.size≠c:=λe=>NL (Ja e);obtain⟨_,e1⟩:=J.live _ _ R;obtain⟨_,e2⟩:=M.live _ _ S;exact⟨lt hz,lt H,lt e1,lt e2⟩
  ·exact e.elim (λe=>e▸Nat.not_lt.mpr (MM ..)) λe=>e▸Nat.not_lt.mpr (Nt ..)
 go:=λY k pos i T s Q E U v=>by
  obtain⟨⟨a,b,hz,P,H,R,S⟩,_⟩:=U;exact wpAny_letOwnedTupleGo_zip hz λh' X r=>v h' ⟨a,b,X,r.extBut _ _ f.TIz P,r.extBut _ _ f.TOz H,wG J R λo=>r.extBut _ o f.i1z,wG M S λo=>r.extBut _ o f.i2z⟩ λc o hc e=>r.extBut _ _ (N4.of hc).a e
 apart:=λi T h U=>U.2.not
 done:=λs Q E q v=>kY f J M q (MM ..) (Nt ..) (λk1 k2=>absurd (Nat.lt_min.mpr ⟨k1,k2⟩) (I2 _)) λZ=>v
 self:=λi s Q E q v=>by
  obtain⟨_,_,hz⟩:=q;exact T4 hz v
end
end
section
variable {prog:Program}{w:K8}{A:Around}{E:Value->IY->Prop}{s:IY}
theorem kZ{x t P}(h:P (.ref s.heap.objs.size) {s with heap:=s.heap.push {cls:=.type (gO x),data:=.fields #[.str x t,.int 0 0]}}):Jd (I6 prog w) A (Mm (.str x t)) P E s:=by
 unfold gO at h;cases a:x.cps.all (· < 128)
 ·rw[a] at h;exact TB a h
 ·rw[a] at h;exact S8 a h
noncomputable abbrev B0(h:Heap)(x:Str)(t:PY):Heap:=h.push {cls:=.type (gO x),data:=.fields #[.str x t,.int 0 0]}
noncomputable abbrev Dq(h:Heap)(x:Str)(t:PY)(y:Str)(u:PY):Heap:=(B0 h x t).push {cls:=.type (gO y),data:=.fields #[.str y u,.int 0 0]}
noncomputable abbrev Fy(h:Heap)(x:Str)(t:PY)(y:Str)(u:PY):Heap:=(Dq h x t y u).push {cls:=.type "tuple",data:=.seq #[.ref h.objs.size,.ref (B0 h x t).objs.size]}
noncomputable abbrev Fx(h:Heap)(x:Str)(t:PY)(y:Str)(u:PY):Heap:=(Fy h x t y u).push {cls:=.type "tuple",data:=.seq #[.none,.none]}
noncomputable abbrev BZ(h:Heap)(x:Str)(t:PY)(y:Str)(u:PY):Heap:=(Fx h x t y u).push {cls:=.type "zip",data:=.fields #[.none,.bool false,.bool false,.ref (Dq h x t y u).objs.size,.ref (Fy h x t y u).objs.size]}
set_option maxHeartbeats 4000000 in
theorem lK(x:Str)(t:PY)(y:Str)(u:PY) :
  Meets (Builtin.«zip.__new__» ⟨[.type "zip",.str x t,.str y u],[]⟩) (λZ R s=>R (.ok (.ret (.ref (Fx s.heap x t y u).objs.size))) {s with heap:=BZ s.heap x t y u}) :=
 .of_wp λprog w A R s h=>by
  obtain⟨a,g,d,tk,os⟩:=s;have c:=sub_zip;generalize gO x=f at *;generalize gO y=i at *
  wp_walk using (λP h=>kZ h:∀(P:Value->IY->Prop),P (.ref a.objs.size) ⟨B0 a x t,g,d,tk,os⟩->Jd (I6 prog w) A.in1 (Mm (.str x t)) P (λe s'=>R (.error e) s') ⟨a,g,d,tk,os⟩),(λP h=>kZ h:∀(P:Value->IY->Prop),P (.ref (B0 a x t).objs.size) ⟨Dq a x t y u,g,d,tk,os⟩->Jd (I6 prog w) A.in1 (Mm (.str y u)) P (λe s'=>R (.error e) s') ⟨B0 a x t,g,d,tk,os⟩)
  exact⟨_,rfl,h⟩
theorem nu{x t y u P}(h:∀h',PS h' (s.heap.objs.size+4) (s.heap.objs.size+2) (s.heap.objs.size+3) .none->Od h' (s.heap.objs.size+2) (.ref s.heap.objs.size) (.ref (s.heap.objs.size+1)) ->
   Od h' (s.heap.objs.size+3) .none .none->h'.IsStrIter s.heap.objs.size (gO x) x t 0->h'.IsStrIter (s.heap.objs.size+1) (gO y) y u 0->h'.objs.size=s.heap.objs.size+5 ->
   (∀c o,s.heap.get? c=IK o->h'.get? c=IK o)->P (.ref (s.heap.objs.size+4)) {s with heap:=h'}) :
  Jd (I6 prog w) A (JX (.type "zip") [.str x t,.str y u]) P E s:=by
 refine callType_new F.called_zip (by decide) (F.typeCall_zip_2 _ _) (F.newCall_zip_2 _ _) (λobj=>F.args_object_init_3 obj _ _) F.entry_zip_new (lK x t y u) ?_;have d:(B0 s.heap x t).objs.size=s.heap.objs.size+1:=I7 ..;have f:(Dq s.heap x t y u).objs.size=s.heap.objs.size+2:=by rw[I7,d]
 have g:(Fy s.heap x t y u).objs.size=s.heap.objs.size+3:=by rw[I7,f]
 have i:(Fx s.heap x t y u).objs.size=s.heap.objs.size+4:=by rw[I7,g]
 have a:(BZ s.heap x t y u).get? (Fx s.heap x t y u).objs.size=IK _:=I0 _ rfl;have p:(BZ s.heap x t y u).get? (Fy s.heap x t y u).objs.size=IK _:=IS _ (I0 _ rfl);have k:(BZ s.heap x t y u).get? (Dq s.heap x t y u).objs.size=IK _:=IS _ (IS _ (I0 _ rfl));have j:(BZ s.heap x t y u).get? (B0 s.heap x t).objs.size=IK _:=IS _ (IS _ (IS _ (I0 _ rfl)));show _/\_;rw[f,g,i] at a;rw[d,f] at k;rw[g] at p;rw[d] at j;rw[i];exact⟨⟨_,a,rfl⟩,h _ a k p ⟨_,(IS _ (IS _ (IS _ (IS _ (I0 _ rfl)))):(BZ s.heap x t y u).get? s.heap.objs.size=IK _),rfl,rfl⟩ ⟨_,j,rfl,rfl⟩ (show(BZ s.heap x t y u).objs.size=s.heap.objs.size+5 from by rw[I7,i]) λc o e =>
  IS _ (IS _ (IS _ (IS _ (IS _ e))))⟩
noncomputable def dj(f:Nat->Nat->Str)(x y:Str):List Str:=(x.cps.toList.zip y.cps.toList).map λp=>f p.1 p.2
mutual
theorem qz{f x y}{i:Nat}{a b}(c:x.cps[i]?=IK a)(d:y.cps[i]?=IK b):(dj f x y)[i]?=IK (f a b):=by
 unfold dj;rw[Jt,List.getElem?_zip_eq_some.mpr ⟨(by refine(Ju).trans ?_;exact c:x.cps.toList[i]?=IK (a,b).1),(by refine(Ju).trans ?_;exact d:y.cps.toList[i]?=IK (a,b).2)⟩]
 rfl
theorem pA{f x y}:(dj f x y).length=min x.cps.size y.cps.size:=by simp [dj]
end
variable {F:dH}{lc:Lc}{st:St}{σ:Sg}{Q:V->St->Prop}
theorem step_table{c P ps0 ps more h' k}(i:Inv s)(r:Rel σ st s)(f:∀h,W.tb h↔lD W.h₁.objs.size c P h)(a:W.h₁.TableAt c P ps0)(u:P≠Kb)(w:s.heap.TableAt c P ps)(e:h'.TableAt c P (ps++more))(p:h'.IsCode c P (ps++more))(j:MC P s.heap h')(hz:s.heap.objs.size<=h'.objs.size)(v:s.toks<=k):Step σ st s σ st {s with heap:=h',toks:=k}:=by
 have ns:∀b o,s.heap.get? b=IK o->dp o->b≠P:=by
  rintro b o d so rfl;have d:=w.2▸d;cases d;rcases so with q | ⟨_,_,q⟩ | ⟨_,q⟩
  ·exact q rfl
  ·cases q
  ·cases q
 have t:=(f _).mp i.tb;have x:Ext dY σ st.length s σ st.length {s with heap:=h',toks:=k}:=⟨IQ _,λZ U=>rfl,λZ h h'=>absurd h' (Nat.not_lt.mpr h),λZ h=>h,λZ=>.inl,λb o d so Z U=>j b o (ns b o d so) d,hz,v⟩
 exact⟨x,⟨i.old.step_table a w e j u,λo A=>j _ _ (LG u) (i.stat o A),i.os,i.bare,IT i.size hz,IT i.tk v,(f _).mpr ⟨t.lc,t.lp,_,e,p⟩⟩,r.mono x (λZ U h=>h) (λh B y z so=>j _ _ (ns _ y z so) z) rfl,λZ U h J=>h,λh g c L q=>.inl ⟨h,c,L,q⟩,IQ _⟩
theorem yn{c P pos qualname scope Pp}(i:Inv s)(r:Rel σ st s)(hc:F.env.code=.ref c)(g:∀h,W.tb h↔lD W.h₁.objs.size c P h)(a:∃e,W.h₁.TableAt c P e)(p:P≠Kb)(h:∀code s',Step σ st s σ st s'->s'.gens=s.gens->Pp code s'):Wp A (genexprCode F.env pos qualname scope) Pp s:=by
 refine IJ λv=>?_;obtain⟨_,_,ps,f,d⟩:=(g _).mp i.tb;obtain⟨e,a⟩:=a;refine v ?_;cases o:codeAmong pos ps.toList with
 |some c'=>exact wpAny_genexprCode_hit hc d o (h _ _ (.refl i r) rfl)
 |none=>exact wpAny_toks (cG (wpAny_genexprCodeX hc d f o λc' h' tk u Z U j L k J hz q=>h _ _ (step_table i r g a p f k j u hz q) rfl))
theorem CJ{Pp}(T:cB)(i:Inv s)(f:F.env.globals=Ki)(h:Pp Lk s):Wp A (builtinsFor F.env.globals F.env.builtins) Pp s:=by
 refine IJ λk=>?_;obtain⟨o,ob,c,d,e,a,g,j⟩:=T.bmod;refine k ?_;refine(f).symm▸?_;exact wpAny_builtinsFor (i.glob T) c d (i.old.get_of_cls e (by refine(a).symm▸?_;exact λq=>Jo q)) a g j h
theorem oH{a:Array PT}{b gs}(c:GenOnlyQ a.size (a.push gs) b):(∀(j:Nat) (st:PT),a[j]?=IK st->b[j]?=IK st)/\a.size<=b.size:=by
 rcases c with rfl | ⟨⟨e,d⟩,_⟩
 ·exact⟨λj st h=>iS h,by rw[L3];exact I8 _⟩
 ·exact⟨λj st h=>by refine(d j (Jw (Array.getElem?_eq_some_iff.mp h).1)).trans ?_;exact iS h,by rw[e,L3];exact I8 _⟩
theorem w8{X σ₀ s₀ s'}(T:cB)(z:cC X σ₀ [] s₀ σ [] s)(a:Inv s₀)(k:∀b,X b->W.h₁.objs.size<=b)(c:∀b o,¬X b->s.heap.get? b=IK o->s'.heap.get? b=IK o)(hz:s.heap.objs.size<=s'.heap.objs.size)(g:s₀.toks<=s'.toks)(f:s'.os=s.os)(p:RS s'.gens)(r:∀(j:Nat) y,s.gens[j]?=IK y->s'.gens[j]?=IK y)(d:s.gens.size<=s'.gens.size):cC X σ₀ [] s₀ σ [] s':=by
 have ne:∀b,b<W.h₁.objs.size->¬X b:=λb q e=>I2 _ (IU q (k b e));have i:=z.inv;exact⟨⟨z.x.len,z.x.ext,z.x.new,z.x.z,z.x.znew,λb o h so off q=>c b o q (z.x.keep b o h so off q),IT z.x.grow hz,g⟩,⟨oj i.old λb o q=>c b o (ne b q),λo u=>c _ _ (ne _ (Inv.jU T)) (i.stat o u),f.trans i.os,p,IT i.size hz,IT a.tk g,W.tbk _ _ i.tb λb o q=>c b o (ne b q)⟩,
  ⟨λZ U e=>(by cases e),λZ q=>absurd q (I4 _),λZ U q=>absurd q (I4 _),λb q=>IU (z.rel.zlt b q) hz,λZ U P q=>absurd q (I4 _)⟩,λj y h q=>r j y (z.gkeep j y h q),λZ U P L e=>(by cases e),IT z.ggrow d⟩
inductive E0(R:Str->Str->Prop):List V->Prop
 |mk (x y:Str) (t u:Nat) (q:R x y):E0 R [.s x t,.s y u]
structure IG(wr:List Addr)(s s':IY):Prop where
 heap:∀b o,b∉wr->s.heap.get? b=IK o->s'.heap.get? b=IK o
 size:s.heap.objs.size<=s'.heap.objs.size
 os:s'.os=s.os
 bare:RS s.gens->RS s'.gens
 gk:∀(j:Nat) y,s.gens[j]?=IK y->s'.gens[j]?=IK y
 gz:s.gens.size<=s'.gens.size
theorem qS(n:Nat):Ry (λZ=>true) n 0=J4 n:=by
 unfold Ry;simp
theorem vN{n}{F:Nat->Value->Prop}{l}(h:ItemsOf (λj y=>∃i,(Ry (λZ=>true) n 0)[j]?=IK i/\F i y) (Rj l).toArray (Ry (λZ=>true) n 0).length):l.length=n/\∀j (a:j<l.length),F j (.str l[j].1 l[j].2):=by
 have h:=(qS ..)▸h;have h:=(J9 ..)▸h;have c:l.length=n:=by simpa [Rj] using h.1
 refine⟨c,λj a=>?_⟩;obtain⟨i,d,e⟩:=h.2 j (.str l[j].1 l[j].2) (by simp [Rj,IV a]);obtain rfl:=Jk ((Oo (c▸a))▸d);exact e
theorem vM{prog w E env elt iter xa xb x t pa pb pt pos kt n scope I bi fp wr Pt St0 Mid G code h' R}(h:A.handled=none)(g:A.depth<recursionLimit)(H:xa≠xb)(T:scope.names.lookup xa=IK .local)(X:scope.names.lookup xb=IK .local)(f:scope.kind=.function)(J:scope.isCoroutine=false)(a : ∀F:Around,F.handled=none->WalksU prog w F I fp wr n Pt St0 Mid)(hsz : ∀i vals,Pt i vals->∃va vb,vals=#[va,vb])(S:St0 0 s.heap)(p : ∀b∈fp,b<s.heap.objs.size)(hl:s.heap.NoLimit)(k:Kb<s.heap.objs.size)(M:Kb∉wr)(hn:n<=sizeLine)(hq : ∀z,QuietGenT prog w (RD scope [] s.heap.objs.size code bi env) xa xb [] elt (J4 s.heap.objs.size) wr Pt (λZ=>true) G z)(Q:h'.Ns s.heap.objs.size (λy=>if y=".0" then IK (.ref I) else none))(B:JW s.heap.objs.size (s.heap.push {cls:=.type "frame",data:=.dict #[]}) h')(C : ∀i v,G i v->∃y u,v=.str y u)(hQ : ∀(l:List (Str×PY)),l.length=n->(∀j (hj:j<l.length),G j (.str l[j].1 l[j].2))->QV x (l.map (·.1))=true/\∀t' s',IG wr s s'->R (.str (OW x (l.map (·.1))) t') s') :
  Jd (I6 prog w) A (call (.builtin "str.join") [.str x t,.ref h'.objs.size]) R E {s with
   gens:=s.gens.push (.fresh (.compStart (.GeneratorExp elt [⟨.Tuple [.Name xa pa,.Name xb pb] kt pt,iter,[],0⟩] scope pos) 0 (.ref I) .none (RD scope [] s.heap.objs.size code bi env))),
   toks:=s.toks+1+1+1,
   heap:=h'.push {cls:=.type "generator",data:=.fields #[.int s.gens.size 0,.str "<genexpr>" (s.toks+1),.str (env.qual++"<genexpr>") (s.toks+1+1)]}}:=by
 have hz:h'.objs.size=s.heap.objs.size+1:=B.1.trans (I7 ..);have kp:∀o,∀b o',s.heap.get? b=IK o'->(h'.push o).get? b=IK o':=λo b o' e=>IS _ (B.extBut b o' (Jw (Ja e)) (IS _ e));have GA:=GenAt.freshT (A:=A.in4) (cenv:=RD scope [] s.heap.objs.size code bi env) (m:=λy=>if y=".0" then IK (.ref I) else none) (s:={s with
   gens:=s.gens.push (.fresh (.compStart (.GeneratorExp elt [⟨.Tuple [.Name xa pa,.Name xb pb] kt pt,iter,[],0⟩] scope pos) 0 (.ref I) .none (RD scope [] s.heap.objs.size code bi env))),
   toks:=s.toks+1+1+1,
   heap:=h'.push {cls:=.type "generator",data:=.fields #[.int s.gens.size 0,.str "<genexpr>" (s.toks+1),.str (env.qual++"<genexpr>") (s.toks+1+1)]}}) h
  (λF h=>(a F h).mono_fp λb c=>List.mem_range.mpr (p b c)) hsz H (λZ=>true) G T X (by simp [RD,f]) J
  (λq=>I2 _ (List.mem_range.mp q)) (hq _) ⟨_,_,_,I0 _ rfl,rfl,rfl,rfl⟩ (Qf ..) ((a A h).frame _ _ _ S λb Z o=>kp _ b o) (Q.push _) (hl.keeps (kp _))
 refine cG (SC.joinGen (WalksS.genexpQ (prog:=prog) (w:=w) (A:=A.in4) h h'.objs.size s.gens.size s.heap.objs.size (J4 s.heap.objs.size) wr (λZ=>true) n G (hz▸My _:h'.objs.size≠s.heap.objs.size) (λq=>Nat.not_succ_le_self _ (JU (hz▸List.mem_range.mp q)):h'.objs.size∉J4 s.heap.objs.size) (λb c=>List.mem_range.mpr (p b ((a A h).sub b c)):∀b∈wr,b∈J4 s.heap.objs.size) g (List.mem_range.mpr k) (Jw k) M).in4_2 (λZ U st=>st.1.typeIs) GA (λb c=>?_) (Je ..) (λj v D=>by obtain⟨i,_,e⟩:=D;exact C i v e) (λs' l r P=>?_) (IT (Js (show(Ry (λZ=>true) n 0).length=n from by refine(qS ..).symm▸?_;exact(J9).symm▸rfl)) hn))
 ·rw[I7];refine(hz).symm▸?_;exact(Tq.mp c).elim (λe=>e▸hz▸Jg _) λc=>(Tq.mp c).elim (λe=>e▸JL (Jg _)) λc=>JL (JL (List.mem_range.mp c))
 ·obtain⟨Y,h2⟩:=vN P;refine⟨(hQ l Y h2).1,λt' k' d=>(hQ l Y h2).2 t' _ ⟨λb o q e=>r.heap b o (λq'=>(Tq.mp q').elim (λe'=>Jw (Ja e) e') q) (kp _ b o e),?_,r.os,λc=>r.gens.bare (c.push rfl),(oH r.gens).1,(oH r.gens).2⟩⟩;refine IT (IT (I8 _) (Js hz.symm)) (IT ?_ d);rw[I7];exact I8 _
mutual
theorem u9(g:Addr):nG (g+4) (g+2) (g+3) g (g+1):=by
 have ad:∀a b:Nat,(a == b)=false->(g+a:Addr)≠g+b:=λa b h e=>ne_of_beq_false h (Nat.add_left_cancel e);exact⟨ad 2 4 rfl,ad 3 4 rfl,ad 0 4 rfl,ad 1 4 rfl,ad 2 3 rfl,ad 2 0 rfl,ad 2 1 rfl,ad 3 0 rfl,ad 3 1 rfl,ad 0 1 rfl⟩
theorem wJ(g b:Addr)(h:b∈[g+4,g+3,g,g+1]):g<=b :=
 (Tq.mp h).elim (λe=>e▸Jc ..) λh=>(Tq.mp h).elim (λe=>e▸Jc ..) λh=>(Tq.mp h).elim (λe=>e▸IQ _) λh=>OB.mp h▸Jc ..
theorem wx.lt{z TI TO i1 i2 f0 S1 S2 h}(g:∀h,S1 h->i1<h.objs.size)(i:∀h,S2 h->i2<h.objs.size)(t:wx z TI TO i1 i2 f0 S1 S2 h):∀b∈[z,TI,TO,i1,i2],b<h.objs.size:=by
 refine IJ λj=>?_;obtain⟨_,_,hz,a,c,d,f⟩:=t;refine j ?_;exact λb q=>(Tq.mp q).elim (λe=>e▸Ja hz) λq=>(Tq.mp q).elim (λe=>e▸Ja a) λq=>(Tq.mp q).elim (λe=>e▸Ja c) λq=>(Tq.mp q).elim (λe=>e▸g _ d) λq=>OB.mp q▸i _ f
theorem mm{it T x t i}(h:Heap)(q:h.IsStrIter it T x t i):it<h.objs.size:=by
 obtain⟨o,a,_⟩:=q;exact Ja a
end
inductive ZF(f:Nat->Nat->Str)(x y:Str)(i:Nat):Value->Prop
 |mk (a b:Nat) (u:PY) (h1:x.cps[i]?=IK a) (h2:y.cps[i]?=IK b):ZF f x y i (.str (f a b) u)
theorem pz{f x y}{l:List (Str×PY)}(i:l.length=min x.cps.size y.cps.size)(h:∀j (c:j<l.length),ZF f x y j (.str l[j].1 l[j].2)):l.map (·.1)=dj f x y:=by
 refine M8 λj=>?_;rcases KZ j l.length with c | c
 ·rw[Jt,IV c];have q:=h j c;generalize k:OV l[j].1 l[j].2=v at q;cases q with
  |mk a b u d g =>
   injection k with e
   exact(congrArg IK e).trans (qz d g).symm
 ·rw[Ka (by refine(IZ ..).symm▸?_;exact c),Ka (by refine(pA ..).symm▸?_;exact i▸c)]
noncomputable abbrev Iy(x y:Str)(i:Nat)(vals:Array Value):Prop:=∃p q,Tj x i p/\Tj y i q/\vals=#[p,q]
theorem u6{prog w cenv xa xb elt fp wr x y f}(r:∀(h:Around) (A:Value->IY->Prop) (j k:Nat) (B C:PY) (d:IY) (c:Str->Option Value),h.handled=none->d.heap.Ns cenv.locals c->c xa=IK (.str ⟨#[j]⟩ B)->c xb=IK (.str ⟨#[k]⟩ C) ->
   Jd (I6 prog w) h (eval elt cenv) (λy v=>(∃u,y=.str (f j k) u)/\Keeps d v) A d) (c0:Heap):QuietGenT prog w cenv xa xb [] elt fp wr (Iy x y) (λZ=>true) (ZF f x y) c0:=by
 refine⟨λh A i T X a g o G F D E Z=>Uh ⟨rfl,a.heap,a.toks,rfl,λZ U e=>e⟩,λh A i T X a g o G Z F D E U=>?_⟩;refine IJ λY=>?_;obtain⟨p,q,⟨j,B,J,M⟩,⟨k,C,P,Q⟩,e⟩:=G;refine Y ?_
 injection congrArg Tx e with e1 e
 injection e with e2
 cases e1.trans M;cases e2.trans Q;exact I5 (r h A j k B C a g o F D E) (λyv H z=>by obtain⟨⟨S,e⟩,R⟩:=z;exact⟨e▸.mk j k S J P,R⟩) λZ U e=>e
theorem rN{sep xa xb k kt cp apos zp zc pa pb pt gpos pos e1 e2 elt scope c P}(f:Nat->Nat->Str)(T:cB)(hA:A.handled=none)(H:A.depth<recursionLimit)(hc:F.env.code=.ref c)(az:∀h,W.tb h↔lD W.h₁.objs.size c P h)(ah:∃ai,W.h₁.TableAt c P ai)(hP:P≠Kb)(am:scope.isCoroutine=false)(ac:closureFor scope F.env=pure [])(ab:∀y∈scope.names,y.2≠.cell)(h0:scope.names.lookup (".0":Str)=IK NameKind.local)(aC:scope.names.lookup xa=IK .local)(aD:scope.names.lookup xb=IK .local)(au:xa≠xb)(G:scope.kind=.function)(ae:(apos.endLine == pos.line)=true)(hp:[e1,e2].all cN=true)(an:∀(A':Around) (E':Value->IY->Prop) (ca cb:Nat) (ta tb:PY) (d:IY) (J:Str->Option Value) (C:Addr) (code:Value) (bi:Addr),A'.handled=none->d.heap.Ns C J->J xa=IK (.str ⟨#[ca]⟩ ta)->J xb=IK (.str ⟨#[cb]⟩ tb) ->
   Jd (I6 W.prog W.w) A' (eval elt (RD scope [] C code bi F.env)) (λy ao=>(∃u,y=.str (f ca cb) u)/\Keeps d ao) E' d) (hz:c8 A F (.Name "zip" zp) lc [] λv aj=>v=.g .zip/\[]=aj) (h:fL A F [e1,e2] lc [] λvs aj=>[]=aj/\E0 (λx y=>x.length<=sizeLine/\QV sep (dj f x y)=true/\Q (.s (OW sep (dj f x y)) 0) []) vs) :
  c8 A F (.Call (.Attribute (.Constant (.str sep) k cp) "join" apos) [.GeneratorExp elt [⟨.Tuple [.Name xa pa,.Name xb pb] kt pt,.Call (.Name "zip" zp) [e1,e2] [] zc,[],0⟩] scope gpos] [] pos) lc [] Q:=by
 intro σ s pr;refine iq ?_;refine TF (T:="str") rfl (by rfl) ae Kh Ql Qi (Pg ⟨Ng _ _ _,λa e=>(by cases e),?_⟩);have D:=cH (X:=dY) pr.i pr.r (I8 s.toks);refine Mf (by rfl) (N1 (Ox ?_));refine wpAny_GeneratorExp_make am ac ab h0 G H (MH ?_) (λU=>rfl);refine b0 (hz σ _ (pr.step D)) λfv s₁ aG aF v ap hv q=>?_;obtain⟨rfl,rfl⟩:=q;subst hv;refine(da zc F.env hp).symm▸?_;have S:=D.trans ap;refine KP (any_false _ _) (eB (f:=.type "zip") h (pr.step S) λws d ak st₂ vs B aB q=>?_);refine IJ λzz=>?_;obtain⟨rfl,q⟩:=q;obtain⟨x,y,t',u',aE,ay,hq⟩:=q;have aa:=S.trans B;obtain⟨_,_,rfl,⟨t,rfl,_⟩,⟨u,rfl,_⟩⟩:=jr aB;refine zz ?_;refine nu λh' hz ar as aw ax hsz hk=>?_;have E:=dQ (X:=dY) (k:=d.toks) B.inv B.rel hk (by exact b6 19 3 hsz) (IQ _);refine T4 hz ⟨E.inv.nolimit T,?_⟩;refine yn E.inv E.rel hc az ah hP λcode R j av=>CJ T j.inv pr.f.glob ?_;have al:W.h₁.objs.size<=d.heap.objs.size:=B.inv.size;have kp:∀k o,h'.get? (d.heap.objs.size+k)=IK o->dp o->R.heap.get? (d.heap.objs.size+k)=IK o:=λk o ho so=>j.x.keep _ o ho so (λh q' e=>I2 _ (IU (B.rel.lt q') (e▸Jc _ _))) id;have Z:wx (d.heap.objs.size+4) (d.heap.objs.size+2) (d.heap.objs.size+3) d.heap.objs.size (d.heap.objs.size+1) .none (λh=>h.IsStrIter d.heap.objs.size (gO x) x t 0) (λh=>h.IsStrIter (d.heap.objs.size+1) (gO y) y u 0) R.heap :=
  ⟨_,_,kp 4 _ hz (b9 rfl),kp 2 _ ar (b9 rfl),kp 3 _ as (b9 rfl),aw.imp λo q=>⟨kp 0 o q.1 (b9 q.2.1),q.2⟩,ax.imp λo q=>⟨kp 1 o q.1 (b9 q.2.1),q.2⟩⟩
 refine λaH af ag=>OL (vM hA H au aC aD G am (λA' M=>r8 (u9 d.heap.objs.size) (jG (A:=A'.in1) M _ x t) (jG (A:=A'.in1) M _ y u)) (λi vals aq=>by obtain⟨p,q,_,_,e⟩:=aq;exact⟨p,q,e⟩) Z (Z.lt mm mm) (j.inv.nolimit T) (IU (Inv.jU T) j.inv.size)
  (λhm=>I2 _ (IU (Inv.jU T) (IT al (wJ _ _ hm)))) (IT (MM ..) aE) (u6 λA' E' ca cb ta tb s m M hn=>an A' E' ca cb ta tb s m _ code Lk M hn) af ag (λi v q=>by cases q;exact⟨_,_,rfl⟩) λl h1 h2=>?_)
 refine(pz h1 h2).symm▸?_;refine⟨ay,λt' s' gm aA=>?_⟩;exact⟨ak,[],((w8 (X:=(d.heap.objs.size<= ·)) T (aa.trans (E.trans j)).iQ pr.i (λb q=>IT al q) (λb o q e=>gm.heap b o (λz=>q (wJ _ _ z)) e) gm.size aA gm.os (gm.bare j.inv.bare) gm.gk gm.gz).fresh (Y:=dY) λb q=>.inr (IT aa.x.grow q)),.s _ 0,⟨t',rfl,λq=>absurd rfl q⟩,hq⟩
noncomputable def HZ(A:Around)(F:dH)(a:List Expr)(lc:Lc)(st:St)(Q:Bool->St->Prop):Prop:=match a with
 |[]=>Q true st
 |c::l=>match l with
  |[]=>lP A F c lc st Q
  |_=>False
theorem CU{ifs Q σ s}(h:HZ A F ifs lc st Q)(p:Pre F σ lc st s) :
  Wp A (forIn ifs true λc r=>if r=true then do let ok <-RC c F.env (eval c F.env);pure (Nf ok) else pure (Nf r)) (PB σ st s Q) s:=by
 cases ifs with
 |nil=>exact Uh ⟨σ,st,p.refl,h⟩
 |cons c l=>cases l with
  |nil=>exact wpAny_tests_one (h σ s p)
  |cons=>exact h.elim
noncomputable def Hr(d:Nat)(u:V)(st:St)(R:St->Prop):Prop:=wH st[d]? (λvs=>vs.length<sizeLine/\R (st.set d (.list (vs++[u])))) False
theorem Ap{o f}(h:wH o f False):∃vs,o=IK (.list vs)/\f vs:=by
 cases o with
 |none=>exact h.elim
 |some o=>cases o <;> first | exact⟨_,rfl,h⟩ | exact h.elim
noncomputable def lG(A:Around)(F:dH)(d:Nat)(c:St->Prop)(i:Expr)(f:List Expr)(e:Expr)(Q:St->Prop):List V->Lc->St->Prop
 |[],Z,st=>c st/\Q st
 |v::l,lc,st=>c st/\dN A F i v lc st λa g=>HZ A F f a g λb st₂=>Br b (c8 A F e a st₂ λu h=>Hr d u h (lG A F d c i f e Q l a)) (lG A F d c i f e Q l a st₂)
theorem qo{R elt target iter ifs scope pos it acc env}(I:Nat->IY->Prop)(turn:∀n s,I n s->Wp A (Lj it) (λr s₁=>match r with
   |none=>R (.ok .next) s₁
   |some v=>Wp A (Of target it v) (λZ s₁=>Wp A (Ni target env v) (λZ g =>
     Wp A (forIn ifs true λc r=>if r=true then do let ok <-RC c env (eval c env);pure (Nf ok) else pure (Nf r)) (λok d =>
      if ok=true then Wp A (eval elt env) (λx i=>Wp A (JX (.builtin "list.append") [acc,x]) (λZ j=>∃m,m<n/\I m j) i) d
      else ∃m,m<n/\I m d) g) s₁) s₁) s) (n:Nat) {s} (h:I n s):M6 (I6 W.prog W.w) A (.compLoop (.ListComp elt [⟨target,iter,ifs,0⟩] scope pos) 0 it acc env) R s:=by
 refine codeAny_loop rfl I (λn s q=>?_) n h;show Jd _ A ((compTurn (.ListComp elt [⟨target,iter,ifs,0⟩] scope pos) 0 it acc env).onRaise (λx=>do OP x env;Mg x)) _ _ s;refine wpAny_noted ?_;refine(compTurn_list ..).symm▸?_;refine II (K4 (II (I5 (turn n s q) (λr s₁ a=>?_) λZ U e=>e.elim)));cases r with
 |none=>exact IP a
 |some v =>
  refine II (I5 a (λZ s₁ a=>?_) λZ U e=>e.elim);refine II (I5 a (λZ g k=>II (I5 k (λok d f=>?_) λZ U e=>e.elim)) λZ U e=>e.elim);cases ok with
  |false=>exact IP ⟨rfl,f⟩
  |true =>
   exact II (II (I5 f (λx i o=>II (I5 o (λZ j p=>IP (IP ⟨rfl,p⟩)) λZ U e=>e.elim)) λZ U e=>e.elim))
inductive CompI(F:dH)(X:Addr->Prop)(I:Nat->Heap->Prop)(c:V)(w:Value)(d:Nat)(D:Addr)(items:List V)(T:List V->Lc->St->Prop)(σ:Sg)(st:St)(s:IY)(n:Nat)(s':IY):Prop
 |mk (k:Nat) (σ':Sg) (lc':Lc) (st':St) (hk:k+n=items.length) (hT:T (items.drop k) lc' st') (hI:I k s'.heap) (hc:RV σ' st'.length s' c w) (hd:d<st'.length) (hD:σ'.a d=D) (off:∀b,X b->¬σ'.z b/\∀h,h<st'.length->σ'.a h≠b)
   (x:cC (λb=>b=F.L∨X b) σ st s σ' st' s') (fr:ee F σ' st'.length lc' s')
inductive Fv(F:dH)(X:Addr->Prop)(d:Nat)(D:Addr)(Q:St->Prop)(σ:Sg)(st:St)(s s':IY):Prop
 |mk (σ':Sg) (lc':Lc) (st':St) (hd:d<st'.length) (hD:σ'.a d=D) (x:cC (λb=>b=F.L∨X b) σ st s σ' st' s') (fr:ee F σ' st'.length lc' s') (q:Q st')
theorem v9{tgt elt iter ifs scope pos it c w X I dep items σ s d Q}(T:cB)(ok:qr A tgt it c w X dep items I)(hc:RV σ st.length s c w)(hI:I 0 s.heap)(off:∀b,X b->¬σ.z b/\∀h,h<st.length->σ.a h≠b)(hL:¬X F.L)(hd:d<st.length)(p:Pre F σ lc st s)(ht:lG A F d dep tgt ifs elt Q items lc st) :
  M6 (I6 W.prog W.w) A (.compLoop (.ListComp elt [⟨tgt,iter,ifs,0⟩] scope pos) 0 it (.ref (σ.a d)) F.env) (λr s'=>match r with | .ok _=>Fv F X d (σ.a d) Q σ st s s' | .error _=>False) s:=by
 have ap:∀ {k σ1 σ2 st1 st₂ s₁ s₂},cC (· =F.L) σ1 st1 s₁ σ2 st₂ s₂->(∀b,X b->¬σ1.z b/\∀h,h<st1.length->σ1.a h≠b)->I k s₁.heap->(∀b,X b->¬σ2.z b/\∀h,h<st₂.length->σ2.a h≠b)/\I k s₂.heap:=λ{k _ _ _ _ s₁ s₂} x off hI =>
  ⟨λb D=>by obtain⟨o,ho,_⟩:=ok.solid _ _ b hI D;exact⟨x.x.zoff (Ja ho) (off b D).1,x.x.off (Ja ho) (off b D).2⟩,
   ok.frame _ _ _ hI λb D o ho=>by obtain⟨o',au,hs⟩:=ok.solid _ _ b hI D;have ho:=au▸ho;cases ho;exact x.x.keep b _ au hs (off b D).2 (fun(e:b=F.L)=>hL (e▸D))⟩
 refine qo (CompI F X I c w d (σ.a d) items (lG A F d dep tgt ifs elt Q) σ st s) (λn s' M=>?_) items.length ⟨0,σ,lc,st,JK _,ht,hI,hc,hd,rfl,off,.refl p.i p.r,p.f⟩;obtain⟨k,σ',ay,E,hk,hT,hI,hc,J,hD,off,x,fr⟩:=M;cases e:items[k]? with
 |none =>
  have ax:k=items.length:=by have:=List.getElem?_eq_none_iff.mp e;exact b6 17 16 hk this
  subst ax;have hT:=R9▸hT;refine I5 (ok.stop σ' E s' hI hT.1 hc off x.inv x.rel) (λr aA M=>?_) λZ U h=>h.elim;obtain⟨e,y⟩:=M;subst e;exact⟨σ',ay,E,J,hD,x.trans (y.wk λb D=>.inr D),fr.step x.rel y hL λb hz hx=>(off b hx).1 hz,hT.2⟩
 |some v =>
  have ao:=(List.getElem?_eq_some_iff.mp e).1;rw[J7 ao,(List.getElem?_eq_some_iff.mp e).2] at hT;refine I5 (ok.next k v σ' E s' e hI hT.1 hc off x.inv x.rel) (λr aA M=>?_) λZ U h=>h.elim;obtain⟨u,er,as⟩:=M;subst er;refine I5 as (λZ ae M=>?_) λZ U h=>h.elim;obtain⟨C,y,hv,al⟩:=M;have aa:=fr.step x.rel y hL λb hz hx=>(off b hx).1 hz;have ag:∀b,X b->¬C.z b/\∀h,h<E.length->C.a h≠b:=λb D=>by obtain⟨o,ho,_⟩:=ok.solid _ _ b hI D;exact⟨y.x.zoff (Ja ho) (off b D).1,y.x.off (Ja ho) (off b D).2⟩
  have an:RV C E.length ae c w:=RV.mono y.x (λb hz=>⟨λhx=>(off b hx).1 hz,x.rel.zoff b hz⟩) c w hc;have fin:∀ {j:Sg} {lc5 g s5},lG A F d dep tgt ifs elt Q (items.drop (k+1)) lc5 g->cC (· =F.L) C E ae j g s5->ee F j g.length lc5 s5->∃m,m<n/\CompI F X I c w d (σ.a d) items (lG A F d dep tgt ifs elt Q) σ st s m s5:=λ{j lc5 g s5} q z B=>by
   refine IJ λzz=>?_;obtain⟨ah,am⟩:=ap z ag al;refine zz ?_;exact⟨n-1,by exact b6 17 17 hk ao,k+1,j,lc5,g,by exact b6 17 18 hk ao,q,am,RV.AL an y.rel aa z,IU J z.x.len,(z.x.ext d J).trans ((y.x.ext d J).trans hD),ah,x.trans ((y.wk (Y:=λb=>b=F.L∨X b) λb D=>.inr D).trans (z.wk λb D=>.inl D)),B⟩
  refine fO (hT.2 C ae u hv ⟨y.inv,y.rel,aa⟩) λZ aF aD az aB S ab av=>?_;refine eA (CU av ⟨S.inv,S.rel,ab⟩) λb s5 j g G aj=>?_;have B:=ab.step S.rel G id λZ U=>id;have R:=S.trans G.iQ;cases b with
  |false=>exact fin (aj.f rfl) R B
  |true =>
   refine b0 (aj.t rfl j s5 ⟨G.inv,G.rel,B⟩) λr aw af aq u' H hu ac=>?_;refine IJ λzz=>?_;obtain⟨vs,ai,hz,ac⟩:=Ap ac;refine zz ?_;refine b0 (iI (A:=A) (Q:=λZ E=>E=aq.set d (.list (vs++[u']))) T ai hz rfl af aw _ [.ref (σ.a d),r] rfl ⟨.ref (σ.a d),[r],rfl,⟨((List.getElem?_eq_some_iff.mp ai).1),congrArg Jy ((H.x.ext d (IU J (IT y.x.len R.x.len))).trans ((R.x.ext d J).trans ((y.x.ext d J).trans hD)):af.a d=σ.a d).symm⟩,r,[],rfl,hu,rfl⟩ H.inv H.rel) λZ aG aE aC U ak P ar=>?_;subst ar;exact fin ac (R.trans (H.trans ak).iQ) (B.step G.rel (H.trans ak) id λZ U=>id)
inductive Hj(A:Around)(tgt:Expr)(c:V)(st:St)(R:(St->Prop)->List V->St->Prop):Prop
 |mk (dep:St->Prop) (items:List V) (hi:nK A tgt c dep items) (hd:dep st) (ht:R dep items st)
noncomputable def yG(a:Scope):Bool:=(a.kind == .function)&&a.names.all λy=>y.2 != .cell&&(y.2 != .local || a.names.lookup y.1 == IK .local)
structure C8(sc:Scope):Prop where
 kind:sc.kind=.function
 cell:∀y∈sc.names,y.2≠.cell
 names:∀y∈sc.names,y.2=.local->sc.names.lookup y.1=IK .local
theorem wa{sc}(h:yG sc=true):C8 sc:=by
 have h:=Bool.and_eq_true_iff.mp h;have k:=λy a=>Bool.and_eq_true_iff.mp (Pc.mp h.2 y a);exact⟨eq_of_beq h.1,λy a e=>(by have:=(k y a).1;rw[e] at this;exact IW this),λy a e=>by have:=(k y a).2;rw[e] at this;exact eq_of_beq this⟩
noncomputable abbrev nq(F:dH)(a:Scope)(cl:List (Str×Addr))(ce:List (Str×Nat))(C:Addr):dH:=⟨compEnvC a cl C F.env,ce,F.m⟩
theorem l0{Q tgt elt iter ifs sc pos cl ce}(T:cB)(P:closureFor sc F.env=pure cl)(ak:yG sc=true)(hs:jz iter=true)(ai:∀y h,ce.lookup y=IK h->F.ce.lookup y=IK h/\cl.lookup y=F.env.cells.lookup y)(h:c8 A F iter lc st λc i=>Hj A tgt c i λaa items st₂=>∀C,lG A (nq F sc cl ce C) st₂.length aa tgt ifs elt (Q (.r st₂.length)) items [] (st₂++[.list []])):c8 A F (.ListComp elt [⟨tgt,iter,ifs,0⟩] sc pos) lc st Q:=by
 refine IJ λzz=>?_;obtain⟨S,hc,hn⟩:=wa ak;refine zz ?_;intro σ s p;rw[eval_ListComp];refine wpAny_comprehension_free (use:=none) rfl (fQ hs) P S hn (b0 (h σ s p) λw s₁ j i c B ac q=>?_);obtain⟨aa,items,hi,hd,ht⟩:=q;refine I5 (hi j i s₁ w ac hd B.inv B.rel) (λit g an=>?_) λZ U e=>e.elim;obtain⟨X,I,ag,ok,hI,hX,u⟩:=an;refine JN (OE hc (λy hy=>by cases hy) (λh₁ ae J=>?_) S);have hC:(g.heap.push {cls:=.type "list",dict:=none,data:=.seq ([]:List Value).toArray}).objs.size=g.heap.objs.size+1:=I7 ..;rw[hC] at ae J ⊢;have old:∀b o,g.heap.get? b=IK o->h₁.get? b=IK o:=λb o e=>J.extBut b o (Jw (JL (Ja e))) (IS _ (IS _ e));have y:=eS (X:=dY) (k:=g.toks) (o:=.list []) u.inv u.rel (IQ _) old (show g.heap.objs.size<=h₁.objs.size from by rw[J.1,I7,hC];exact Jc _ 2) (IQ _) (λx=>⟨#[],0,(J.extBut _ _ (Jw (Jg _)) (IS _ (I0 _ rfl)):h₁.get? g.heap.objs.size=IK (Kd.lst.obj #[] 0)),Ji _,rfl⟩) (by intro _ _ _ q;cases q);have af:∀b,X b->¬(j.new i.length g.heap.objs.size).z b/\∀h,h<(i++[O.list []]).length->(j.new i.length g.heap.objs.size).a h≠b:=λb R=>by
  refine IJ λzz=>?_;obtain⟨o,ho,_⟩:=ok.solid _ _ b hI R;refine zz ?_;have ab:=hX b R;have D:¬j.z b/\∀h,h<i.length->j.a h≠b:=⟨λz=>I2 _ (IU (B.rel.zlt b z) ab),λh q e=>I2 _ (IU (B.rel.lt q) (e▸ab))⟩
  exact⟨y.x.zoff (Ja ho) D.1,y.x.off (Ja ho) D.2⟩
 have nC:∀ {b:Addr},b<g.heap.objs.size->b≠g.heap.objs.size+1:=λh=>Jw (JL h);have fr:ee (nq F sc cl ce (g.heap.objs.size+1)) (j.new i.length g.heap.objs.size) (i++[O.list []]).length [] {g with heap:=h₁,toks:=g.toks}:=by
  refine⟨J2 u.inv.size,⟨_,ae,λx v Z e=>nomatch e⟩,λz=>nC (u.rel.zlt _ z) rfl,λk S e=>?_,S,p.f.glob,p.f.bi,λx k e=>?_⟩
  ·have e:(if k=i.length then g.heap.objs.size else j.a k)=g.heap.objs.size+1:=e;by_cases q:k=i.length
   ·rw[if_pos q] at e;exact Jw (Jg _) e
   ·rw[if_neg q] at e;rw[IL] at S;exact nC (u.rel.lt (Nat.lt_of_le_of_ne (Nc S) q)) e
  ·obtain⟨e1,e2⟩:=ai x k e;obtain⟨q1,q2⟩:=((p.step (B.trans (u.trans y))).f).cells x k e1;exact⟨q1,e2.trans q2⟩
 have E:I 0 h₁:=ok.frame _ _ _ hI λb Z o e=>old b o e;have M:=v9 (F:=nq F sc cl ce (g.heap.objs.size+1)) (scope:=sc) (pos:=pos) (iter:=iter) (d:=i.length) (s:={g with heap:=h₁,toks:=g.toks}) T ok ((ac.step B.rel u).step u.rel y) E af (λR=>by obtain⟨o,ho,_⟩:=ok.solid _ _ _ hI R;exact nC (Ja ho) rfl:¬X (g.heap.objs.size+1)) (by rw[IL];exact Jg _) ⟨y.inv,y.rel,fr⟩ (ht _);have eD:(j.new i.length g.heap.objs.size).a i.length=g.heap.objs.size:=if_pos rfl;rw[eD] at M;have G:M6 (I6 W.prog W.w) A (.compLoop (.ListComp elt [⟨tgt,iter,ifs,0⟩] sc pos) 0 it (.ref g.heap.objs.size) (nq F sc cl ce (g.heap.objs.size+1)).env) (compPost (I6 W.prog W.w) A D5 none (PV σ st s Q) (.ref g.heap.objs.size) (g.heap.objs.size+1)) {g with heap:=h₁,toks:=g.toks}:=by
  refine Mx M λr s' hr=>?_;cases r with
  |error e=>exact hr.elim
  |ok fl =>
   obtain⟨σ',ao,am,aj,ah,x',H,q'⟩:=hr;obtain⟨m,hm,_⟩:=H.ns;refine⟨m,hm,λh' al=>?_⟩;exact⟨σ',am,(((B.trans (u.trans y)).iQ.trans (x'.trans (fU (X:=λb=>b=g.heap.objs.size+1∨X b) (k:=s'.toks) T x'.inv x'.rel H.above (.inl rfl) H.offz H.offh al (IQ _)))).fresh (Y:=dY) λb R=>.inr (R.elim (λe=>e▸J2 (IT B.x.grow u.x.grow)) λe=>IT B.x.grow (hX b e))),.r i.length,⟨aj,congrArg Jy ah.symm⟩,q'⟩
 exact codeAny_compStart_list G (ag 0 _ _ _ E G)
theorem lB{k x}(a:k x=IK .local):∀(bs:List (Str×Value)) (m:Str->Option Value),bindL k bs m x=(bs.reverse.lookup x).or (m x)
 |[],m=>rfl
 |(n,v)::bs,m=>by
  unfold bindL;refine(lB a bs ..).symm▸?_;rw[LA,Rp,RG]
  congr 1
  by_cases e:x=n
  ·subst e;rw[if_pos a];simp
  ·have:(x == n)=false:=by simpa using e
   simp only[Jn,this,SD,R3]
   split
   ·exact if_neg e
   ·rfl
theorem nB{k x}(a:k x≠IK .local):∀(bs:List (Str×Value)) (m:Str->Option Value),bindC k bs m x=(bs.reverse.lookup x).or (m x)
 |[],m=>rfl
 |(n,v)::bs,m=>by
  unfold bindC;refine(nB a bs ..).symm▸?_;rw[LA,Rp,RG]
  congr 1
  by_cases e:x=n
  ·subst e;rw[if_neg a];simp
  ·have:(x == n)=false:=by simpa using e
   simp only[Jn,this,SD,R3]
   split
   ·rfl
   ·exact if_neg e
inductive Fp(a:Addr)(q:Str)(params:Arguments)(body:List Stmt)(scope:Scope)(cd dflt:Value):Prop
 |mk (o:Obj) (fd:LH) (ho:W.h₁.get? a=IK o) (hc:o.cls≠.none) (hd:o.data=.func fd) (hq:fd.qualname=q) (hp:fd.params=params) (hb:fd.body=.stmts body) (hs:fd.scope=scope) (hg:fd.globals=Ki) (hcl:fd.closure=[])
  (hdf:fd.defaults=dflt) (hkd:fd.kwdefaults=.none) (hcd:fd.code=cd) (hbi:fd.builtins=Lk)
  (code:W.h₁.CodeRec cd q) (codeCls:∀c o,cd=.ref c->W.h₁.get? c=IK o->o.cls≠.none) (kind:scope.kind=.function)
variable {X:Addr->Prop}{σ₀:Sg}{D:St}{s₀:IY}
inductive ij(σ:Sg)(n:Nat)(s:IY):List Addr->List (Option V)->Prop
 |nil:ij σ n s [] []
 |cons (a:Addr) (v:Option V) (as:List Addr) (vs:List (Option V)) (w:Option Value) (hc:s.heap.IsCell a w) (hv:∀u,v=IK u->∃y,w=IK y/\RV σ n s u y) (t:ij σ n s as vs):ij σ n s (a::as) (v::vs)
inductive AD(X:Addr->Prop)(σ₀:Sg)(st0:St)(s₀:IY)(σ:Sg)(st:St)(s:IY)(as:List Addr)(vs:List (Option V)):Prop
 |mk (σ':Sg) (x:cC X σ₀ st0 s₀ σ' (st++vs.map O.cell) s) (old:∀h,h<st.length->σ'.a h=σ.a h) (new:∀i a,as[i]?=IK a->σ'.a (st.length+i)=a) (z:∀b,σ'.z b->σ.z b) (hl:as.length=vs.length)
theorem lC:∀(as:List Addr) (vs:List (Option V)) (σ:Sg) (st:St),cC X σ₀ D s₀ σ st s->(∀a∈as,s₀.heap.objs.size<=a/\W.h₁.objs.size<=a/\¬σ.z a/\∀h,h<st.length->σ.a h≠a)->as.Nodup->ij σ st.length s as vs->AD X σ₀ D s₀ σ st s as vs
 |[],vs,σ,st,x,Z,U,h=>by
  cases h;exact⟨σ,(by rw[MQ,Jj];exact x),λZ U=>rfl,λZ U e=>(by cases e),λZ=>id,rfl⟩
 |a::as,vs,σ,st,x,off,nd,h=>by
  cases h with
  |cons Z v U vs w hc hv t =>
   have o:=off a (Je ..);have G:=(SA.mp nd)
   have y:=g0 x o.1 (hc.lt:a<s.heap.objs.size) o.2.1 o.2.2 (o:=.cell v) (λk=>⟨w,hc,λu e=>by obtain⟨y,p,r⟩:=hv u e;exact⟨y,p,by obtain⟨_,_,H,M,_⟩:=k (vs:=[u]) (ws:=[y]) ⟨y,[],rfl,r,rfl⟩;cases H;exact M⟩⟩) (by intro _ _ _ q;cases q);have old:∀h,h<st.length->(σ.new st.length a).a h=σ.a h:=λh q=>if_neg (Jw q);have F:(σ.new st.length a).a st.length=a:=if_pos rfl;have f:(st++[O.cell v]).length=st.length+1:=IL;have d:∀ {as vs},ij σ st.length s as vs->ij (σ.new st.length a) (st++[O.cell v]).length s as vs:=λt=>by
    induction t with
    |nil=>exact .nil
    |cons a' v' j C w' A B Z ih=>exact .cons a' v' j C w' A (λu e=>by
      obtain⟨y,p,r⟩:=B u e;exact⟨y,p,RV.c0 (X:=dY) (σ:=σ) (σ':=σ.new st.length a) (s:=s) (s':=s) ⟨λZ q=>q,λZ U q P L J=>q,IQ _⟩ x.rel.apart u _ _ (λh q=>⟨by rw[f];exact JL q,old h q⟩) y r⟩) ih
   obtain⟨σ',x',c,g,z',Y⟩:=lC as vs _ _ y (λb E=>by
    refine IJ λzz=>?_;obtain⟨Q,R,S,T⟩:=off b (Jm _ E);refine zz ?_;refine⟨Q,R,S,λh q e=>?_⟩;replace q:=f▸q;rcases Nat.lt_succ_iff_lt_or_eq.mp q with q | q
    ·exact T h q ((old h q).symm.trans e)
    ·subst q;exact G.1 ((F.symm.trans e)▸E)) G.2 (d t)
   refine⟨σ',by rw[I1] at x';exact x',λh q=>(c h (by rw[f];exact JL q)).trans (old h q),λi b e=>?_,λb q=>z' b q,congrArg (· + 1) Y⟩;cases i with
   |zero=>cases e;exact(c st.length (by refine(f).symm▸?_;exact Jg _)).trans F
   |succ i=>have:=g i b e;rw[f] at this;refine(show st.length+(i+1)=st.length+1+i by exact b6 8 7).symm▸?_;exact this
noncomputable def tw(n:Nat)(ns:List Str):List (Str×Nat):=ns.zipIdx.map λp=>(p.1,n+p.2)
noncomputable def kh(q:Str)(scope:Scope)(L a:Addr)(c:Value):Env:=newEnv scope L Ki (NZ (L+1) scope.names []) (q++IM ".<locals>.") (IK a) c none Lk
theorem qy{n x}:∀ {ns:List Str} {m:Nat} {h:Nat},((ns.zipIdx m).map λp=>(p.1,n+p.2)).lookup x=IK h->∃i,ns[i]?=IK x/\h=n+(m+i)
 |[],Z,U,e=>by cases e
 |y::ns,m,h,e=>by
  have e:=(List.zipIdx_cons ..)▸e;have e:=(JJ ..)▸e;rw[Jn] at e;cases q:x == y with
  |true=>simp only[q] at e;cases e;exact⟨0,by refine(eq_of_beq q).symm▸?_;rfl,rfl⟩
  |false =>
   simp only[q] at e;obtain⟨i,a,c⟩:=qy e;exact⟨i+1,a,by exact fc 18 16 c⟩
theorem rX{n f}{g:Str->Option Value}(h:∀x v,f x=IK v->∃w,g x=IK w/\RV σ n s v w):∀(ns:List Str) (m:Nat),(∀i x,ns[i]?=IK x->s.heap.IsCell (m+i) (g x))->ij σ n s (N3 m ns.length) (ns.map f)
 |[],Z,U=>.nil
 |x::ns,m,k=>.cons _ _ _ _ (g x) (k 0 x rfl) (h x) (rX h ns (m+1) λi y e=>by have:=k (i+1) y e;refine(show m+1+i=m+(i+1) by exact b6 2 0).symm▸?_;exact this)
theorem yp{a q params body scope cd dflt vs}(T:cB)(f:Fp a q params body scope cd dflt)(ns:List Str)(ac:scope.isCoroutine=false)(G:scope.isGenerator=false)(B:A.depth<recursionLimit)(u:∀(L:Addr) i x,ns[i]?=IK x->(NZ (L+1) scope.names []).lookup x=IK (L+1+i))(H:∀x∈ns,scope.names.lookup x=IK .cell)(d:∀(σ:Sg) (n:Nat) (s:IY) (ws:List Value) (fd:LH),Inv s->cW σ n s vs ws->fd.params=params->fd.defaults=dflt->fd.kwdefaults=.none->∃bs,PX s fd ⟨ws,[]⟩ bs/\RB σ n s lc bs.reverse/\∀x∈bs,scope.names.lookup x.1=IK .local∨x.1∈ns)(h:∀L,cK (A.deeper (kh q scope L a cd)) ⟨kh q scope L a cd,tw st.length ns,st.length⟩ body lc (st++ns.map λx=>.cell (lc.lookup x)) λfl Z ah=>Q (sF fl) ah):jv A a vs st Q:=by
 intro σ s ws ag i r;refine IJ λzz=>?_;obtain⟨o,fd,h1,h2,h3,e1,e2,e3,e4,e5,e6,e7,e8,e9,aa,c1,c2,kd⟩:=f;obtain⟨bs,ab,hn,hl⟩:=d σ _ s ws fd i ag e2 e7 e8;refine zz ?_;refine RY B (i.old.get_of_cls h1 h2) h3 (e4▸ac) (e4▸G) e3 (by refine(e9 ..).symm▸?_;refine(e1 ..).symm▸?_;exact code_at i c1 c2) (ab _ _ _ _ ?_);refine(e4).symm▸?_;refine(e5).symm▸?_;refine(e6).symm▸?_;refine(e9).symm▸?_;refine(aa).symm▸?_;refine(e1).symm▸?_;refine wpAny_toks (cG (wpAny_newFunctionEnv_cells kd (λx hx=>(hl x hx).imp id λq=>?_) λenv he s' x hz ht=>?_))
 ·obtain⟨j,C,e⟩:=List.mem_iff_getElem.mp q;exact⟨H _ q,by rw[u _ j x.1 (List.getElem?_eq_some_iff.mpr ⟨C,e⟩)];rfl⟩
 subst he;obtain⟨hh,tk,es⟩:=x.toInCall.same;have af:=x.toInCall.keep;have ae:=x.toInCall.ns;have p:=x.cell
 clear x
 subst es;have y:=dQ (X:=(· =s.heap.objs.size)) (k:=tk) i r af hz ht;have rv:∀v w,RV σ st.length s v w->RV σ st.length {s with heap:=hh,toks:=tk} v w:=λv w=>RV.mono y.x (λb q=>⟨λe=>I2 _ (e▸r.zlt b q),r.zoff b q⟩) v w;have lk:∀x v,lc.lookup x=IK v->∃w,bs.reverse.lookup x=IK w/\RV σ st.length {s with heap:=hh,toks:=tk} v w:=λx v e=>by obtain⟨w,E,F⟩:=hn.look e;exact⟨w,E,rv v w F⟩
 have nl:∀x∈ns,¬scope.names.lookup x=IK .local:=λx hx e=>by have e:=(H x hx)▸e;cases e
 obtain⟨σ',z,old,new,zz,ak⟩:=lC (N3 (s.heap.objs.size+1) ns.length) (ns.map λx=>lc.lookup x) σ st y (λb d=>by
   have d:=(List.mem_range'_1.mp d).1;have d:s.heap.objs.size<b:=d;exact⟨JU d,IT i.size (JU d),λq=>I2 _ (O2 d (r.zlt b q)),λh q e=>I2 _ (O2 d (e▸r.lt q))⟩) List.nodup_range' (rX lk ns _ λj x e=>by
   have hc:=p x _ (u _ j x e);rw[nB (show ¬scope.names.lookup x=IK .local from nl x (IX e)),R2] at hc;exact hc)
 have z:=JB▸z;refine⟨y.inv.nolimit T,?_⟩;have ln:(st++ns.map (O.cell ∘ λx=>lc.lookup x)).length=st.length+ns.length:=by rw[IL,IZ]
 have fr:ee ⟨kh q scope s.heap.objs.size a cd,tw st.length ns,st.length⟩ σ' (st++ns.map (O.cell ∘ λx=>lc.lookup x)).length lc {s with heap:=hh,toks:=tk}:=by
  refine⟨i.size,⟨_,ae,λx v R e=>?_⟩,λq=>I2 _ (r.zlt _ (zz _ q)),λk R e=>?_,kd,rfl,rfl,λx k e=>?_⟩
  ·obtain⟨w,E,F⟩:=lk x v e;refine⟨w,?_,RV.c0 (X:=dY) ⟨z.x.z,λZ U q P J D=>q,IQ _⟩ y.rel.apart v _ _ (λh q=>⟨by rw[ln];exact Sy _ q,old h q⟩) w F⟩;exact(lB R bs _).trans (by refine(R2).trans ?_;exact E)
  ·rcases KZ k st.length with q | q
   ·have e:=(old k q)▸e;exact Jw (r.lt q) e
   ·rw[ln] at R;have C:k-st.length<ns.length:=by exact b6 18 17 R q
    have:=new (k-st.length) (s.heap.objs.size+1+(k-st.length)) (by rw[Q4 C,Rc]);rw[show st.length+(k-st.length)=k by exact b8 18 18 q,e] at this;exact(b8 18 19 (this:s.heap.objs.size=s.heap.objs.size+1+(k-st.length))).elim
  ·obtain⟨j,E,F⟩:=qy e;rw[JK] at F;subst F;have C:=(List.getElem?_eq_some_iff.mp E).1;refine⟨by rw[ln];exact Nat.add_lt_add_left C _,?_⟩;refine(new j (s.heap.objs.size+1+j) (by rw[Q4 C,Rc])).symm▸?_;exact u _ j x E
 refine codeAny_func (dX (h s.heap.objs.size σ' _ ⟨z.inv,z.rel,fr⟩) λfl ai c lc₂ st₂ g x aj M S=>?_);have z:=((z.ir.trans x).fresh (Y:=dY) λb d=>.inr (Js d.symm)).iQ (IQ _);cases g with
 |ret v=>obtain⟨w,rfl,hw⟩:=M;exact⟨c,st₂,z,v,hw,S⟩
 |next=>cases M;exact⟨c,st₂,z,.n,rfl,S⟩
 |brk=>cases M;exact⟨c,st₂,z,.n,rfl,S⟩
 |cont=>cases M;exact⟨c,st₂,z,.n,rfl,S⟩
structure Gd:Prop where
 prog:W.prog=pw
 top:cB
 obj:∀x∈ko,∃o,W.h₁.get? x.1=IK o/\qW o=x.2
 nam:∀x∈kn,∃m,W.h₁.Ns x.1 m/\m x.2.1=x.2.2
 t1:W.t₁=798
 tabs:∀h,W.tb h↔lD W.h₁.objs.size 252 248 h
 free:∀x,x∉startupNames->x∉looseW qv loose->x∉(recsOf qv).map (·.name)->x∉(litsOf qv).map (·.1)->x∉(clssOf qv (looseW qv loose)).map (·.name)->W.mg x=none
 boot:∀x:Str,x≠"__name__"->W.mb x=bootBuiltins x
mutual
theorem vI(o:Obj):(qW o).cls=o.cls:=by
 obtain⟨c,d,a,s⟩:=o;cases a <;> rfl
theorem Gd.fields(g:Gd){a o}(h:(a,o)∈ko)(hd:∀f,o.data≠.func f):W.h₁.get? a=IK o:=by
 obtain⟨o',k,e⟩:=g.obj _ h;have:o'=o:=by
  obtain⟨c,d,i,s⟩:=o';cases i with
  |func f=>exact absurd (by have j:qW ⟨c,d,.func f,s⟩=o:=e;rw[<-j];rfl) (hd {f with doc:=.none})
  |_=>exact e
 rw[<-this];exact k
theorem Gd.name(g:Gd){x v}(h:(3,x,v)∈kn):W.mg x=v:=by
 obtain⟨m,a,c⟩:=g.nam _ h;have:=a.agree g.top.g x;rw[<-this];exact c
theorem Gd.builtin(g:Gd){x:Str}{v}(a:x≠"__name__")(h:bootBuiltins x=IK v):W.mb x=IK v:=by rw[g.boot x a];exact h
theorem Gd.nP(g:Gd){a m}(d:W.h₁.Ns a m){x v}(h:(a,x,v)∈kn):m x=v:=by
 obtain⟨f,c,e⟩:=g.nam _ h;rw[<-c.agree d x];exact e
end
noncomputable def BH:Stmt->Bool
 |.FunctionDef Z U P L J D B d c a=>true
 |_=>false
theorem Gd.GG(g:Gd){a c st q df pm an oc}(h:(a,et st q df pm (.ref c) an)∈ko)(v:BH st=true)(hc:(c,oc)∈ko)(r:oc.cls=.type "code")(u:∃vs t,oc.data=.fields vs/\vs[1]?=IK (.str q t))(x:(a6 st).kind=.function):Fp a q (cJ st) (a5 st) (a6 st) (.ref c) df:=by
 obtain⟨o,y,e⟩:=g.obj _ h;obtain⟨vs,t,hd,z⟩:=u;have p:=g.fields hc (λf q=>JO (hd.symm.trans q));cases st <;> first | (exfalso;exact IW (v:false=true)) | skip
 obtain⟨cl,A,i,B⟩:=o;cases i with
 |func f =>
  dsimp only at e;have j:cl=.type "function":=congrArg Obj.cls e;have d:=Data.func.inj (congrArg To e);exact⟨_,f,y,λq=>Jo (j.symm.trans q),rfl,congrArg LH.qualname d,congrArg LH.params d,congrArg LH.body d,congrArg LH.scope d,congrArg LH.globals d,congrArg LH.closure d,congrArg LH.defaults d,congrArg LH.kwdefaults d,congrArg LH.code d,congrArg LH.builtins d,
   ⟨c,oc,vs,t,rfl,p,hd,z⟩,λc' o' w k=>(by cases w;rw[p] at k;cases k;rw[r];exact λq=>Jo q),x⟩
 |_=>exact JO (congrArg To e)
theorem Gd.fn(g:Gd){a c st q df pm an oc}(h:(a,et st q df pm (.ref c) an)∈ko)(j:BH st=true)(hc:(c,oc)∈ko)(e:oc.cls=.type "code")(f:∃vs t,oc.data=.fields vs/\vs[1]?=IK (.str q t))(G:(a6 st).kind=.function)(i:((a6 st).names.all λx=>x.2 != .cell)=true):FnAt a q (cJ st) (a5 st) (a6 st) (.ref c) df:=by
 obtain⟨o,fd,D,E,F,r,u,v,w,y,z,A,B,C,d,k,p,kd⟩:=g.GG h j hc e f G;exact⟨o,fd,D,E,F,r,u,v,w,y,z,A,B,C,d,k,p,kd,λx H=>by have:=Pc.mp i x H;exact of_decide_eq_false (by simpa using this)⟩
inductive Fn(a:Addr):Prop
 |mk (o:Obj) (fd:LH) (h1:W.h₁.get? a=IK o) (h2:o.cls=.type "function") (h3:o.data=.func fd)
mutual
theorem Gd.qj(g:Gd){a o}(h:(a,o)∈ko)(hc:o.cls=.type "function")(hd:∃f,o.data=.func f):Fn a:=by
 obtain⟨o',j,e⟩:=g.obj _ h;obtain⟨f,i⟩:=hd;obtain⟨cl,k,c,p⟩:=o';cases c with
 |func d=>exact⟨_,d,j,by rw[<-vI,e];exact hc,rfl⟩
 |_=>exact JO ((congrArg To e).trans i)
theorem Fn.callee{a}(f:Fn a):Callee (.v (.ref a)):=by
 obtain⟨o,fd,c,d,e⟩:=f;exact .fn a o fd c (λq=>Jo (d.symm.trans q)) e
theorem zY(g:Gd):FnAt 160 (IM "SequenceMatcher.__init__") (cJ (cF 5 1)) (a5 (cF 5 1)) (a6 (cF 5 1)) (.ref 159) (.ref 153) :=
 g.fn (oc:=Bg) (dO 9 rfl) (by kernel_rfl) (dO 8 rfl) rfl ⟨_,_,rfl,rfl⟩ (by kernel_rfl) (by kernel_rfl)
theorem ue(g:Gd):FnAt 167 (IM "SequenceMatcher.set_seqs") (cJ (cF 5 2)) (a5 (cF 5 2)) (a6 (cF 5 2)) (.ref 166) (.none) :=
 g.fn (oc:=Bf) (dO 11 rfl) (by kernel_rfl) (dO 10 rfl) rfl ⟨_,_,rfl,rfl⟩ (by kernel_rfl) (by kernel_rfl)
theorem ug(g:Gd):FnAt 174 (IM "SequenceMatcher.set_seq1") (cJ (cF 5 3)) (a5 (cF 5 3)) (a6 (cF 5 3)) (.ref 173) (.none) :=
 g.fn (oc:=Be) (dO 13 rfl) (by kernel_rfl) (dO 12 rfl) rfl ⟨_,_,rfl,rfl⟩ (by kernel_rfl) (by kernel_rfl)
theorem uf(g:Gd):FnAt 181 (IM "SequenceMatcher.set_seq2") (cJ (cF 5 4)) (a5 (cF 5 4)) (a6 (cF 5 4)) (.ref 180) (.none) :=
 g.fn (oc:=Bd) (dO 15 rfl) (by kernel_rfl) (dO 14 rfl) rfl ⟨_,_,rfl,rfl⟩ (by kernel_rfl) (by kernel_rfl)
theorem rV(g:Gd):FnAt 188 (IM "SequenceMatcher.__chain_b") (cJ (cF 5 5)) (a5 (cF 5 5)) (a6 (cF 5 5)) (.ref 187) (.none) :=
 g.fn (oc:=Bc) (dO 17 rfl) (by kernel_rfl) (dO 16 rfl) rfl ⟨_,_,rfl,rfl⟩ (by kernel_rfl) (by kernel_rfl)
theorem CI(g:Gd):FnAt 203 (IM "SequenceMatcher.get_matching_blocks") (cJ (cF 5 7)) (a5 (cF 5 7)) (a6 (cF 5 7)) (.ref 202) (.none) :=
 g.fn (oc:=A9) (dO 22 rfl) (by kernel_rfl) (dO 21 rfl) rfl ⟨_,_,rfl,rfl⟩ (by kernel_rfl) (by kernel_rfl)
theorem yl(g:Gd):FnAt 210 (IM "SequenceMatcher.get_opcodes") (cJ (cF 5 8)) (a5 (cF 5 8)) (a6 (cF 5 8)) (.ref 209) (.none) :=
 g.fn (oc:=A8) (dO 24 rfl) (by kernel_rfl) (dO 23 rfl) rfl ⟨_,_,rfl,rfl⟩ (by kernel_rfl) (by kernel_rfl)
end
noncomputable def De:jf:=⟨241,[((⟨⟨[115,101,116,95,115,101,113,115]⟩⟩:Str),167),((⟨⟨[115,101,116,95,115,101,113,49]⟩⟩:Str),174),((⟨⟨[115,101,116,95,115,101,113,50]⟩⟩:Str),181),((⟨⟨[95,83,101,113,117,101,110,99,101,77,97,116,99,104,101,114,95,95,99,104,97,105,110,95,98]⟩⟩:Str),188),((⟨⟨[102,105,110,100,95,108,111,110,103,101,115,116,95,109,97,116,99,104]⟩⟩:Str),196),((⟨⟨[103,101,116,95,109,97,116,99,104,105,110,103,95,98,108,111,99,107,115]⟩⟩:Str),203),((⟨⟨[103,101,116,95,111,112,99,111,100,101,115]⟩⟩:Str),210)],[lJ,gJ,fP,mI,jS,mP,q7,k7,xN,BA]⟩
mutual
theorem i4{c:Type}{P:c->Prop}{l:List c}{x}(h:l.foldr (λa q=>P a/\q) True)(d:x∈l):P x:=by
 induction l with
 |nil=>cases d
 |cons a l f=>exact(Tq.mp d).elim (λe=>e▸h.1) λq=>f h.2 q
theorem iE{a:Type}{x v}{l:List (Str×a)}(h:l.lookup x=IK v):(x,v)∈l:=by
 induction l with
 |nil=>cases h
 |cons p l c =>
  rw[Jn] at h;cases e:x == p.1 with
  |true=>rw[e] at h;cases h;rw[eq_of_beq e];exact Je ..
  |false=>rw[e] at h;exact Jm _ (c h)
end
noncomputable def noAttr(x:Str):Bool:=match fastLookup "object" x with
 |some r=>r.isNone
 |none=>false
mutual
theorem iW{x}(h:noAttr x=true):JE (.type "object") x=pure none:=by
 unfold noAttr at h;rw[Jz,Jh];cases e:fastLookup "object" x with
 |none=>rw[e] at h;cases h
 |some r =>
  rw[e] at h;cases r with
  |none=>rfl
  |some v=>cases h
theorem xd:(De.as.all noAttr)=true:=by kernel_rfl
theorem xe:(De.ms.all λp=>noAttr p.1)=true:=by kernel_rfl
end
theorem xc(g:Gd):pj 242 De:=by
 obtain⟨m,a,_⟩:=g.nam (241,"__init__",IK (.ref 160)) (IX (i:=21) (by kernel_rfl));have K:=λ{x v} (h:(241,x,v)∈kn)=>g.nP a h;refine⟨m,⟨_,_,_,_,_,_,_,_,_,_,_,_,g.fields (o:=A7) (dO 25 rfl) (λf q=>JO q),a,by decide⟩,K (IX (i:=31) (by kernel_rfl)),K (IX (i:=29) (by kernel_rfl)),K (IX (i:=30) (by kernel_rfl)),λx k h=>?_,λx h=>?_⟩
 ·have z:=i4 (P:=λp:Str×Addr=>m p.1=IK (.ref p.2)/\Fn p.2) (l:=De.ms) ⟨⟨K (IX (i:=22) (by kernel_rfl)),g.qj (dO 11 rfl) rfl ⟨_,rfl⟩⟩,⟨K (IX (i:=23) (by kernel_rfl)),g.qj (dO 13 rfl) rfl ⟨_,rfl⟩⟩,⟨K (IX (i:=24) (by kernel_rfl)),g.qj (dO 15 rfl) rfl ⟨_,rfl⟩⟩,⟨K (IX (i:=25) (by kernel_rfl)),g.qj (dO 17 rfl) rfl ⟨_,rfl⟩⟩,⟨K (IX (i:=26) (by kernel_rfl)),g.qj (dO 20 rfl) rfl ⟨_,rfl⟩⟩,⟨K (IX (i:=27) (by kernel_rfl)),g.qj (dO 22 rfl) rfl ⟨_,rfl⟩⟩,⟨K (IX (i:=28) (by kernel_rfl)),g.qj (dO 24 rfl) rfl ⟨_,rfl⟩⟩,trivial⟩ (iE h);obtain⟨j,o,fd,c,d,e⟩:=z;exact⟨o,fd,none,j,c,d,e,iW (Pc.mp xe _ (iE h))⟩
 ·have q:=List.contains_iff_mem.mp h;refine⟨i4 (P:=λp:Str=>m p=none) (l:=De.as) ⟨K (IX (i:=32) (by kernel_rfl)),K (IX (i:=33) (by kernel_rfl)),K (IX (i:=34) (by kernel_rfl)),K (IX (i:=38) (by kernel_rfl)),K (IX (i:=39) (by kernel_rfl)),K (IX (i:=40) (by kernel_rfl)),K (IX (i:=41) (by kernel_rfl)),K (IX (i:=35) (by kernel_rfl)),K (IX (i:=36) (by kernel_rfl)),K (IX (i:=37) (by kernel_rfl)),trivial⟩ q,?_⟩;exact iW (Pc.mp xd x q)
noncomputable def Df:jf:=⟨312,[((⟨⟨[95,113,102,111,114,109,97,116]⟩⟩:Str),310)],[uF,uE]⟩
mutual
theorem yB:(Df.as.all noAttr)=true:=by kernel_rfl
theorem yC:(Df.ms.all λp=>noAttr p.1)=true:=by kernel_rfl
end
theorem yA(g:Gd):pj 313 Df:=by
 obtain⟨m,a,_⟩:=g.nam (312,"__init__",IK (.ref 268)) (IX (i:=42) (by kernel_rfl));have K:=λ{x v} (h:(312,x,v)∈kn)=>g.nP a h;refine⟨m,⟨_,_,_,_,_,_,_,_,_,_,_,_,g.fields (o:=A3) (dO 34 rfl) (λf q=>JO q),a,by decide⟩,K (IX (i:=46) (by kernel_rfl)),K (IX (i:=44) (by kernel_rfl)),K (IX (i:=45) (by kernel_rfl)),λx k h=>?_,λx h=>?_⟩
 ·have z:=i4 (P:=λp:Str×Addr=>m p.1=IK (.ref p.2)/\Fn p.2) (l:=Df.ms) ⟨⟨K (IX (i:=43) (by kernel_rfl)),g.qj (dO 33 rfl) rfl ⟨_,rfl⟩⟩,trivial⟩ (iE h);obtain⟨j,o,fd,c,d,e⟩:=z;exact⟨o,fd,none,j,c,d,e,iW (Pc.mp yC _ (iE h))⟩
 ·have q:=List.contains_iff_mem.mp h;refine⟨i4 (P:=λp:Str=>m p=none) (l:=Df.as) ⟨K (IX (i:=47) (by kernel_rfl)),K (IX (i:=48) (by kernel_rfl)),trivial⟩ q,?_⟩;exact iW (Pc.mp yB x q)
noncomputable def GF:List (Str×V):=[((⟨⟨[77,97,116,99,104]⟩⟩:Str),.v (.ref 135)),((⟨⟨[83,101,113,117,101,110,99,101,77,97,116,99,104,101,114]⟩⟩:Str),.v (.ref 242)),((⟨⟨[68,105,102,102,101,114]⟩⟩:Str),.v (.ref 313)),((⟨⟨[95,107,101,101,112,95,111,114,105,103,105,110,97,108,95,119,115]⟩⟩:Str),.v (.ref 253)),((⟨⟨[73,83,95,67,72,65,82,65,67,84,69,82,95,74,85,78,75]⟩⟩:Str),.v (.ref 325)),((⟨⟨[114,101,115,116,111,114,101]⟩⟩:Str),.v (.ref 332)),((⟨⟨[95,108,97,119,95,108,105,110,101,115]⟩⟩:Str),.v (.ref 339)),((⟨⟨[95,108,97,119,95,97,108,105,107,101]⟩⟩:Str),.v (.ref 346)),((⟨⟨[95,108,97,119,95,114,111,119]⟩⟩:Str),.v (.ref 351)),
 ((⟨⟨[101,110,117,109,101,114,97,116,101]⟩⟩:Str),.g .enumerate),((⟨⟨[108,101,110]⟩⟩:Str),.g .len),((⟨⟨[114,97,110,103,101]⟩⟩:Str),.g .range),((⟨⟨[115,101,116]⟩⟩:Str),.g .set),((⟨⟨[108,105,115,116]⟩⟩:Str),.g .list),((⟨⟨[109,97,112]⟩⟩:Str),.g .map),((⟨⟨[122,105,112]⟩⟩:Str),.g .zip),((⟨⟨[105,110,116]⟩⟩:Str),.g .int),((⟨⟨[116,117,112,108,101]⟩⟩:Str),.g .tuple)]
noncomputable def GP:List (Addr×jf):=[(242,De),(313,Df)]
mutual
theorem ED(g:Gd):Gl GF:=⟨g.top,λx v h=>by
 refine i4 (P:=λp:Str×V=>∃w,wW p.2=IK w/\(W.mg p.1=IK w∨(W.mg p.1=none/\W.mb p.1=IK w))) (l:=GF) ?_ (iE h);exact⟨⟨_,rfl,.inl (g.name (IX (i:=2) (by kernel_rfl)))⟩,⟨_,rfl,.inl (g.name (IX (i:=1) (by kernel_rfl)))⟩,⟨_,rfl,.inl (g.name (IX (i:=3) (by kernel_rfl)))⟩,⟨_,rfl,.inl (g.name (IX (i:=4) (by kernel_rfl)))⟩,⟨_,rfl,.inl (g.name (IX (i:=5) (by kernel_rfl)))⟩,⟨_,rfl,.inl (g.name (IX (i:=6) (by kernel_rfl)))⟩,⟨_,rfl,.inl (g.name (IX (i:=7) (by kernel_rfl)))⟩,⟨_,rfl,.inl (g.name (IX (i:=8) (by kernel_rfl)))⟩,⟨_,rfl,.inl (g.name (IX (i:=9) (by kernel_rfl)))⟩,
  ⟨_,rfl,.inr ⟨g.name (IX (i:=10) (by kernel_rfl)),g.builtin (by decide) (by kernel_rfl)⟩⟩,⟨_,rfl,.inr ⟨g.name (IX (i:=11) (by kernel_rfl)),g.builtin (by decide) (by kernel_rfl)⟩⟩,⟨_,rfl,.inr ⟨g.name (IX (i:=12) (by kernel_rfl)),g.builtin (by decide) (by kernel_rfl)⟩⟩,⟨_,rfl,.inr ⟨g.name (IX (i:=13) (by kernel_rfl)),g.builtin (by decide) (by kernel_rfl)⟩⟩,⟨_,rfl,.inr ⟨g.name (IX (i:=14) (by kernel_rfl)),g.builtin (by decide) (by kernel_rfl)⟩⟩,⟨_,rfl,.inr ⟨g.name (IX (i:=15) (by kernel_rfl)),g.builtin (by decide) (by kernel_rfl)⟩⟩,⟨_,rfl,.inr ⟨g.name (IX (i:=16) (by kernel_rfl)),g.builtin (by decide) (by kernel_rfl)⟩⟩,⟨_,rfl,.inr ⟨g.name (IX (i:=17) (by kernel_rfl)),g.builtin (by decide) (by kernel_rfl)⟩⟩,⟨_,rfl,.inr ⟨g.name (IX (i:=18) (by kernel_rfl)),g.builtin (by decide) (by kernel_rfl)⟩⟩,trivial⟩⟩
theorem EM(g:Gd):Cl GP:=λC c h=>by
 unfold GP at h;rw[Jn] at h;cases e:C == 242 with
 |true=>have h:=e▸h;cases h;rw[eq_of_beq e];exact xc g
 |false =>
  have h:=e▸h;dsimp only at h;rw[Jn] at h;cases e:C == 313 with
  |true=>replace h:=e▸h;cases h;refine(eq_of_beq e).symm▸?_;exact yA g
  |false=>have h:=e▸h;cases h
end
theorem Gd.snd(g:Gd){A F}(a:A.handled=none)(hi:MU F.env=false):wy A F (sm A F GF GP 60):=Mine.Internal.snd (ED g) (EM g) a hi 60
noncomputable def qw(d a b g c codes f i e h:V):Lc:=[(lJ,d),(gJ,a),(fP,b),(mI,g),(jS,c),(mP,codes),(q7,f),(k7,i),(xN,e),(BA,h)]
theorem oY:eH (cJ (cF 5 3)) .none [eV,gJ]:=by
 rintro⟨⟩ ws c d e h;dsimp only at c d e;subst c d e;obtain⟨a,b,rfl⟩:=pX h
 rfl
mutual
theorem tC(g:Gd)(c:A.handled=none)(a:A.depth<recursionLimit){x t j au}(h:Q .n [.ns [(lJ,j),(gJ,.s x t),(fP,.n),(mI,au),(jS,.n),(mP,.n)],.inst 242 0]):b5 A (.v (.ref 174)) [.r 1,.s x t] [.ns [(lJ,j),(gJ,.n),(fP,.n),(mI,au)],.inst 242 0] Q:=by
 refine(dg (names:=[eV,gJ]) g.top (ug g) (by kernel_rfl) (by kernel_rfl) a oY rfl (by kernel_rfl) λL=>?_).call;refine(g.snd (by exact c) (by rfl)).Ss ?_;refine Br.mk (λq=>IW q) λZ=>?_;exact h
theorem wg(g:Gd)(i:A.handled=none)(a:A.depth<recursionLimit){x y t u j b au bl co fb bj ju po}{st:St}{E1 E2:Prop}(d:∀A' st (c:V->St->Prop),(E1->c (.b true) st)->(E2->c (.b false) st)->di A' (J1 .Is) (.s x t) (.s y u) st c)(f:E1->Q .n (.ns (qw j (.s y u) b au bl co fb bj ju po)::.inst 242 0::st))(h:E2->Q .n (.ns (qw j (.s x t) b au .n .n fb bj ju po)::.inst 242 0::st)):b5 A (.v (.ref 174)) [.r 1,.s x t] (.ns (qw j (.s y u) b au bl co fb bj ju po)::.inst 242 0::st) Q:=by
 refine(dg (names:=[eV,gJ]) g.top (ug g) (by kernel_rfl) (by kernel_rfl) a oY rfl (by kernel_rfl) λL=>?_).call;refine(g.snd (by exact i) (by rfl)).Ss ?_;refine d _ _ _ (λe=>Br.mk (λZ=>?_) λq=>IW q) λe=>Br.mk (λq=>IW q) λZ=>?_
 ·exact f e
 ·exact h e
end
noncomputable def d4(bs:List Str)(k:Str)(n:Nat):List Nat:=(J4 n).filter λi=>bs[i]? == IK k
mutual
theorem mG(bs:List Str)(k:Str)(n:Nat):d4 bs k (n+1)=d4 bs k n++if bs[n]? == IK k then [n] else []:=by
 unfold d4;rw[Pq,Rr]
 congr 1
 refine(Pa).trans ?_
 rfl
theorem kD{bs k n i}:i∈d4 bs k n↔i<n/\bs[i]?=IK k:=by
 unfold d4;rw[List.mem_filter,List.mem_range,beq_iff_eq]
theorem od(bs:List Str)(k:Str)(n:Nat):(d4 bs k n).length<=n:=by
 have:=NV (λi=>bs[i]? == IK k) (J4 n);rw[J9] at this;exact this
end
noncomputable def chars(x:Str):List Str:=x.cps.toList.map λc=>⟨#[c]⟩
theorem eN(x:Str):(chars x).length=x.length:=by unfold chars;rw[IZ];rfl
variable (as:List Str)(bs:List Str)(ok:Str->Bool)(alo:Nat)(blo:Nat)
noncomputable def pairAt(i j:Nat):Bool:=match as[i]?,bs[j]? with
 |some x,IK y=>x == y&&ok y
 |Z,U=>false
noncomputable def c6:Nat->Nat->Nat
 |0,Z=>0
 |Z+1,0=>0
 |i+1,j+1=>if alo<=i/\blo<=j/\pairAt as bs ok i j=true then c6 i j+1 else 0
noncomputable def Run(i j k:Nat):Prop:=alo<=i/\blo<=j/\∀t,t<k->pairAt as bs ok (i+t) (j+t)=true
end
section
variable {as:List Str}{bs:List Str}{ok:Str->Bool}{alo:Nat}{blo:Nat}
theorem cT{i j}:pairAt as bs ok i j=true↔∃x,as[i]?=IK x/\bs[j]?=IK x/\ok x=true:=by
 constructor
 ·intro h;have h:(match as[i]?,bs[j]? with | IK x,IK y=>x == y&&ok y | _,_=>false)=true:=h;cases a:as[i]? with
  |none=>rw[a] at h;exact IW h
  |some x =>
   cases c:bs[j]? with
   |none=>(have h:=(a ..)▸h;rw[c] at h);exact IW h
   |some y =>
    rw[a,c] at h;obtain⟨d,e⟩:=Bool.and_eq_true_iff.mp h;exact⟨y,by rw[eq_of_beq d],rfl,e⟩
 ·rintro⟨x,a,c,d⟩;show(match as[i]?,bs[j]? with | IK x,IK y=>x == y&&ok y | _,_=>false)=true;refine(a ..).symm▸?_;refine(c ..).symm▸?_;exact Bool.and_eq_true_iff.mpr ⟨beq_self_eq_true x,d⟩
mutual
theorem jx(j:Nat):c6 as bs ok alo blo 0 j=0:=by rfl
theorem iz(i:Nat):c6 as bs ok alo blo i 0=0:=by cases i <;> rfl
theorem eC(i j:Nat):c6 as bs ok alo blo (i+1) (j+1)=if alo<=i/\blo<=j/\pairAt as bs ok i j=true then c6 as bs ok alo blo i j+1 else 0:=rfl
end
theorem vq{i j}(h:j<=blo):c6 as bs ok alo blo i j=0:=by
 cases i with
 |zero=>exact jx _
 |succ i =>
  cases j with
  |zero=>exact iz _
  |succ j=>rw[eC,if_neg (λq=>by exact b8 0 0 h q.2.1)]
theorem iR:∀(i j:Nat),c6 as bs ok alo blo i j<=i/\c6 as bs ok alo blo i j<=j/\(0<c6 as bs ok alo blo i j->Run as bs ok alo blo (i-c6 as bs ok alo blo i j) (j-c6 as bs ok alo blo i j) (c6 as bs ok alo blo i j))
 |0,j=>by refine(jx ..).symm▸?_;exact⟨IQ _,Ji _,λh=>absurd h (I2 _)⟩
 |i+1,0=>by refine(iz ..).symm▸?_;exact⟨Ji _,IQ _,λh=>absurd h (I2 _)⟩
 |i+1,j+1=>by
  obtain⟨d,f,k⟩:=iR i j;refine(eC ..).symm▸?_;by_cases h:alo<=i/\blo<=j/\pairAt as bs ok i j=true
  ·rw[if_pos h];refine⟨by exact b6 0 1 d,by exact b6 0 1 f,λZ=>?_⟩;rw[Q0,Q0];by_cases c:0<c6 as bs ok alo blo i j
   ·obtain⟨o,p,q⟩:=k c;refine⟨o,p,λt a=>?_⟩;by_cases e:t=c6 as bs ok alo blo i j
    ·rw[e,RH d,RH f];exact h.2.2
    ·exact q t (by exact b8 0 2 a e)
   ·have g:c6 as bs ok alo blo i j=0:=by exact ec 0 3 c
    refine(g).symm▸?_;refine⟨h.1,h.2.1,λt a=>?_⟩;have:t=0:=by exact ec 0 4 a
    refine(this).symm▸?_;exact h.2.2
  ·rw[if_neg h];exact⟨Ji _,Ji _,λh=>absurd h (I2 _)⟩
theorem xl:∀(k i j:Nat),Run as bs ok alo blo i j k->k<=c6 as bs ok alo blo (i+k) (j+k)
 |0,i,j,h=>Ji _
 |k+1,i,j,h=>by
  have e:i+(k+1)=(i+k)+1:=by exact b6 0 6
  have a:j+(k+1)=(j+k)+1:=by exact b6 0 6
  rw[e,a,eC,if_pos ⟨by have:=h.1;exact b6 0 7 this,by have:=h.2.1;exact b6 0 7 this,h.2.2 k (by exact ec 0 8)⟩];exact b6 0 1 (xl k i j ⟨h.1,h.2.1,λt c=>h.2.2 t (by exact b6 0 5 c)⟩)
structure dI(as bs:List Str)(ok:Str->Bool)(alo blo:Nat)(S:Nat->Nat->Prop)(bi bj bk:Nat):Prop where
 zero:bk=0->bi=alo/\bj=blo
 at_:0<bk->∃e f,S e f/\c6 as bs ok alo blo (e+1) (f+1)=bk/\bi+bk=e+1/\bj+bk=f+1/\∀e' f',S e' f'->c6 as bs ok alo blo (e'+1) (f'+1)=bk->e<e'∨(e=e'/\f<=f')
 max:∀e f,S e f->c6 as bs ok alo blo (e+1) (f+1)<=bk
mutual
theorem dI.start:dI as bs ok alo blo (λZ U=>False) alo blo 0:=⟨λZ=>⟨rfl,rfl⟩,λh=>absurd h (I2 _),λZ U h=>h.elim⟩
theorem dI.congr{S S' bi bj bk}(b:dI as bs ok alo blo S bi bj bk)(h:∀e f,S e f->S' e f)(h':∀e f,S' e f->S e f∨c6 as bs ok alo blo (e+1) (f+1)=0):dI as bs ok alo blo S' bi bj bk:=by
 refine⟨b.zero,λd=>?_,λe f q=>?_⟩
 ·obtain⟨e,f,i,j,k,o,p⟩:=b.at_ d;refine⟨e,f,h _ _ i,j,k,o,λa c r g=>?_⟩;rcases h' a c r with q | q
  ·exact p a c q g
  ·exact qu 0 9 d q g
 ·rcases h' e f q with q | q
  ·exact b.max e f q
  ·exact b8 0 10 q
theorem dI.more{S S' bi bj bk i j}(b:dI as bs ok alo blo S bi bj bk)(d:∀e f,S' e f↔S e f∨(e=i/\f=j))(a:∀e f,S e f->e<i∨(e=i/\f<j)) :
  if bk<c6 as bs ok alo blo (i+1) (j+1) then dI as bs ok alo blo S' (i+1-c6 as bs ok alo blo (i+1) (j+1)) (j+1-c6 as bs ok alo blo (i+1) (j+1)) (c6 as bs ok alo blo (i+1) (j+1)) else dI as bs ok alo blo S' bi bj bk:=by
 refine IJ λB=>?_;obtain⟨z,A,_⟩:=iR (as:=as) (bs:=bs) (ok:=ok) (alo:=alo) (blo:=blo) (i+1) (j+1);refine B ?_;by_cases g:bk<c6 as bs ok alo blo (i+1) (j+1)
 ·rw[if_pos g];refine⟨λh=>by exact ja 0 11 g h,λZ=>⟨i,j,(d i j).mpr (.inr ⟨rfl,rfl⟩),rfl,by exact b8 0 12 z,by exact b8 0 12 A,λk o p r=>?_⟩,λe f q=>?_⟩
  ·rcases(d k o).mp p with q | ⟨q,c⟩
   ·have:=b.max k o q;exact qu 0 13 g r this
   ·right;exact⟨q.symm,by exact b8 0 14 c⟩
  ·rcases(d e f).mp q with q | ⟨q,c⟩
   ·have:=b.max e f q;exact b6 0 15 g this
   ·rw[q,c];exact IQ _
 ·rw[if_neg g];refine⟨b.zero,λh=>?_,λe f q=>?_⟩
  ·obtain⟨e,f,u,v,w,x,y⟩:=b.at_ h;refine⟨e,f,(d e f).mpr (.inl u),v,w,x,λk o p r=>?_⟩;rcases(d k o).mp p with q | ⟨q,c⟩
   ·exact y k o q r
   ·have:=a e f u;exact ja 0 16 this q c
  ·rcases(d e f).mp q with q | ⟨q,c⟩
   ·exact b.max e f q
   ·rw[q,c];exact b8 0 17 g
end
structure i5(as bs:List Str)(ok:Str->Bool)(alo ahi blo bhi i j k:Nat):Prop where
 zero:k=0->i=alo/\j=blo
 run:Run as bs ok alo blo i j k
 hi:i+k<=max alo ahi/\j+k<=max blo bhi
 best:∀i' j' k',0<k'->Run as bs ok alo blo i' j' k'->i'+k'<=ahi->j'+k'<=bhi->k'<k∨(k'=k/\(i<i'∨(i=i'/\j<=j')))
end
section
variable (as:List Str)(bs:List Str)(p:Str->Bool)
noncomputable def dZ(alo blo:Nat):Nat->Nat->Nat->Nat×Nat×Nat
 |0,j,k=>(0,j,k)
 |i+1,j,k=>if alo<i+1/\blo<j/\pairAt as bs p i (j-1)=true then dZ alo blo i (j-1) (k+1) else(i+1,j,k)
noncomputable def eW(ahi bhi:Nat)(i j:Nat):Nat->Nat->Nat
 |0,k=>k
 |n+1,k=>if i+k<ahi/\j+k<bhi/\pairAt as bs p (i+k) (j+k)=true then eW ahi bhi i j n (k+1) else k
end
section
variable {as:List Str}{bs:List Str}{p:Str->Bool}{alo:Nat}{ahi:Nat}{blo:Nat}{bhi:Nat}
theorem s8(j k:Nat):dZ as bs p alo blo 0 j k=(0,j,k):=rfl
theorem s6(i j k:Nat):eW as bs p ahi bhi i j 0 k=k:=rfl
theorem hH(i j k:Nat):dZ as bs p alo blo (i+1) j k=if alo<i+1/\blo<j/\pairAt as bs p i (j-1)=true then dZ as bs p alo blo i (j-1) (k+1) else(i+1,j,k):=rfl
theorem hF(i j n k:Nat):eW as bs p ahi bhi i j (n+1) k=if i+k<ahi/\j+k<bhi/\pairAt as bs p (i+k) (j+k)=true then eW as bs p ahi bhi i j n (k+1) else k:=rfl
noncomputable def extend(as bs:List Str)(J:Str->Bool)(alo ahi blo bhi:Nat)(x:Nat×Nat×Nat):Nat×Nat×Nat :=
 let y:=dZ as bs (λs=> !J s) alo blo x.1 x.2.1 x.2.2
 let k:=eW as bs (λs=> !J s) ahi bhi y.1 y.2.1 (ahi-(y.1+y.2.2)) y.2.2
 let z:=dZ as bs J alo blo y.1 y.2.1 k
 (z.1,z.2.1,eW as bs J ahi bhi z.1 z.2.1 (ahi-(z.1+z.2.2)) z.2.2)
noncomputable def lF(as bs:List Str)(J:Str->Bool)(alo ahi blo bhi:Nat)(x:Nat×Nat×Nat):Prop:=∃i j k,i5 as bs (λs=> !J s) alo ahi blo bhi i j k/\x=extend as bs J alo ahi blo bhi (i,j,k)
end
noncomputable def dh(l:List Stmt)(i:Nat):Stmt:=(l[i]?).getD (.Pass ⟨0,0,0,0⟩)
noncomputable def jd(L:Addr)(n:Nat):dH:=⟨Kq (IM "SequenceMatcher.find_longest_match") (a6 (cF 5 6)) L 196 (.ref 195),[],n⟩
noncomputable def f9(i:Nat):Stmt:=dh (a5 (cF 5 6)) i
noncomputable def gZ(s:Stmt):Expr:=(y9 s).1
noncomputable def l8(s:Stmt):List Stmt:=(y9 s).2.2.1
noncomputable def hV(d e:Str)(a c:Nat)(alo ahi blo bhi:Nat)(i j k:Int):Lc:=[((⟨⟨[98,104,105]⟩⟩:Str),.i bhi),((⟨⟨[98,108,111]⟩⟩:Str),.i blo),((⟨⟨[97,104,105]⟩⟩:Str),.i ahi),((⟨⟨[97,108,111]⟩⟩:Str),.i alo),(eV,.r 1),(gJ,.s d a),(fP,.s e c),(k7,.r 2),((⟨⟨[105,115,98,106,117,110,107]⟩⟩:Str),.bm .shas 3),((⟨⟨[98,101,115,116,105]⟩⟩:Str),.i i),((⟨⟨[98,101,115,116,106]⟩⟩:Str),.i j),((⟨⟨[98,101,115,116,115,105,122,101]⟩⟩:Str),.i k)]
structure sj(xa xb:Str)(J:Str->Bool)(l:List Str)(ahi bhi:Nat):Prop where
 za:xa.length<=sizeLine
 zb:xb.length<=sizeLine
 mem:∀k,k∈l↔k∈chars xb/\J k=true
 zl:l.length<scanBound
 ra:ahi<=(chars xa).length
 rb:bhi<=(chars xb).length
mutual
theorem sj.zL{xa xb J l ahi bhi}(w:sj xa xb J l ahi bhi){y}(a:y∈chars xb):decide (y∈l)=J y:=by
 cases e:J y with
 |true=>exact decide_eq_true ((w.mem y).mpr ⟨a,e⟩)
 |false=>exact decide_eq_false λq=>IW (((w.mem y).mp q).2.symm.trans e)
theorem gP(x:Str):sgn x=cE (chars x):=by refine J3 ?_ (JB).symm;rfl
end
mutual
theorem dq{x y k}{n:Nat}{R}(e:k=(n:Int))(h:(chars x)[n]?=IK y)(q:R (.s y 0)):eY (sgn x) k R :=
 .at (by rw[e];exact Kc n) (by rw[e,JD,gP,Jt,h];rfl) q
theorem eJ{as bs p i j x y}(a:as[i]?=IK x)(c:bs[j]?=IK y):pairAt as bs p i j=(x == y&&p y):=by
 unfold pairAt;refine(a).symm▸?_;exact(c).symm▸rfl
end
section
variable {A:Around}{c a:Str}{u r:Nat}{J:Str->Bool}{alo ahi blo bhi:Nat}{l:List Str}{m:Lc}{d:List (Str×V)}{o f:O}
theorem test8(g:Gd){X Y L n i j k}(B:A.handled=none)(w:sj c a J l ahi bhi)(hi:i<=(chars c).length)(C:j<=(chars a).length)(h:Br (decide (alo<i/\blo<j/\pairAt (chars c) (chars a) (λs=> !J s) (i-1) (j-1)=true)) (X [.ns m,.inst 242 0,.dict d,.set l,o,f]) (Y [.ns m,.inst 242 0,.dict d,.set l,o,f])) :
  lP A (jd L n) (gZ (f9 8)) (hV c a u r alo ahi blo bhi i j k) [.ns m,.inst 242 0,.dict d,.set l,o,f] (two X Y):=by
 refine(g.snd B (by rfl)).T ?_;refine Br.mk (λv=>?_) λv=>h.f (decide_eq_false λq=>absurd (Int.ofNat_lt.mpr q.1) (of_decide_eq_false v));have v:=Int.ofNat_lt.mp (of_decide_eq_true v);refine Br.mk (λp=>?_) λp=>h.f (decide_eq_false λq=>absurd (Int.ofNat_lt.mpr q.2.1) (of_decide_eq_false p));have p:=Int.ofNat_lt.mp (of_decide_eq_true p);have li:i-1<(chars c).length:=by exact b6 12 9 v hi
 have x:j-1<(chars a).length:=by exact b6 12 9 p C
 refine⟨w.zb,dq (n:=j-1) (by exact b8 12 10 p) (IV x) ⟨w.zl,?_⟩⟩;rw[w.zL (Lh x)];refine Br.mk (λy=>h.f (decide_eq_false λq=>?_)) λy=>?_
 ·have:=q.2.2;rw[eJ (IV li) (IV x),y] at this;exact IW (Bool.and_eq_true_iff.mp this).2
 refine⟨w.za,dq (n:=i-1) (by exact b8 12 10 v) (IV li) ⟨w.zb,dq (n:=j-1) (by exact b8 12 10 p) (IV x) ?_⟩⟩;have e:pairAt (chars c) (chars a) (λs=> !J s) (i-1) (j-1)=((chars c)[i-1] == (chars a)[j-1]):=by
  refine(eJ (IV li) (IV x)).trans ?_;refine(y).symm▸?_;exact Oz _
 rw[e] at h;exact Br.mk (λz=>h.t (decide_eq_true ⟨v,p,z⟩)) λz=>h.f (decide_eq_false λq=>IW (q.2.2.symm.trans z))
theorem rD{as bs p alo blo}(i j k:Nat):dZ as bs p alo blo i j k=if alo<i/\blo<j/\pairAt as bs p (i-1) (j-1)=true then dZ as bs p alo blo (i-1) (j-1) (k+1) else(i,j,k):=by
 cases i with
 |zero=>rw[if_neg (λq=>absurd q.1 (I4 _)),s8]
 |succ i=>rw[hH,Md]
inductive BU(as bs:List Str)(p:Str->Bool)(alo blo:Nat)(z:Nat×Nat×Nat)(lcOf:Int->Int->Int->Lc)(st0:St)(n:Nat)(lc:Lc)(st:St):Prop
 |mk (i j k:Nat) (hn:n=i) (hz:dZ as bs p alo blo i j k=z) (hi:i+k<=as.length) (hj:j+k<=bs.length) (hl:lc=lcOf i j k) (hs:st=st0)
end
theorem rC{as bs p ahi bhi}(i j k:Nat):eW as bs p ahi bhi i j (ahi-(i+k)) k=if i+k<ahi/\j+k<bhi/\pairAt as bs p (i+k) (j+k)=true then eW as bs p ahi bhi i j (ahi-(i+(k+1))) (k+1) else k:=by
 by_cases h:i+k<ahi
 ·have e:ahi-(i+k)=(ahi-(i+(k+1)))+1:=by exact b6 14 16 h
  rw[e,hF]
 ·refine(QZ (Nat.not_lt.mp h)).symm▸?_;rw[if_neg (λq=>h q.1),s6]
inductive BS(as bs:List Str)(p:Str->Bool)(ahi bhi i j z:Nat)(lcOf:Int->Lc)(st0:St)(n:Nat)(lc:Lc)(st:St):Prop
 |mk (k:Nat) (hn:n=as.length-k) (hz:eW as bs p ahi bhi i j (ahi-(i+k)) k=z) (hi:i+k<=as.length) (hj:j+k<=bs.length) (hl:lc=lcOf k) (hs:st=st0)
section
variable {A:Around}{d c:Str}{r p:Nat}{J:Str->Bool}{alo ahi blo bhi:Nat}{l:List Str}{m:Lc}{a:List (Str×V)}{o f:O}
mutual
theorem test9(g:Gd){X Y L n i j k}(D:A.handled=none)(w:sj d c J l ahi bhi)(h:Br (decide (i+k<ahi/\j+k<bhi/\pairAt (chars d) (chars c) (λs=> !J s) (i+k) (j+k)=true)) (X [.ns m,.inst 242 0,.dict a,.set l,o,f]) (Y [.ns m,.inst 242 0,.dict a,.set l,o,f])) :
  lP A (jd L n) (gZ (f9 9)) (hV d c r p alo ahi blo bhi i j k) [.ns m,.inst 242 0,.dict a,.set l,o,f] (two X Y):=by
 refine(g.snd D (by rfl)).T ?_;have z:(i:Int)+k=((i+k:Nat):Int):=(NX i k).symm;have y:(j:Int)+k=((j+k:Nat):Int):=(NX j k).symm;refine Br.mk (λu=>?_) λu=>h.f (decide_eq_false λq=>absurd (z▸Int.ofNat_lt.mpr q.1) (of_decide_eq_false u));have u:=Int.ofNat_lt.mp (z▸of_decide_eq_true u);refine Br.mk (λv=>?_) λv=>h.f (decide_eq_false λq=>absurd (y▸Int.ofNat_lt.mpr q.2.1) (of_decide_eq_false v));have v:=Int.ofNat_lt.mp (y▸of_decide_eq_true v);have li:=IU u w.ra;have x:=IU v w.rb;refine⟨w.zb,dq (n:=j+k) y (IV x) ⟨w.zl,?_⟩⟩;rw[w.zL (Lh x)];refine Br.mk (λB=>h.f (decide_eq_false λq=>?_)) λB=>?_
 ·have:=q.2.2;rw[eJ (IV li) (IV x),B] at this;exact IW (Bool.and_eq_true_iff.mp this).2
 refine⟨w.za,dq (n:=i+k) z (IV li) ⟨w.zb,dq (n:=j+k) y (IV x) ?_⟩⟩;have e:pairAt (chars d) (chars c) (λs=> !J s) (i+k) (j+k)=((chars d)[i+k] == (chars c)[j+k]):=by
  refine(eJ (IV li) (IV x)).trans ?_;refine(B).symm▸?_;exact Oz _
 rw[e] at h;exact Br.mk (λC=>h.t (decide_eq_true ⟨u,v,C⟩)) λC=>h.f (decide_eq_false λq=>IW (q.2.2.symm.trans C))
theorem test10(g:Gd){X Y L n i j k}(B:A.handled=none)(w:sj d c J l ahi bhi)(hi:i<=(chars d).length)(C:j<=(chars c).length)(h:Br (decide (alo<i/\blo<j/\pairAt (chars d) (chars c) J (i-1) (j-1)=true)) (X [.ns m,.inst 242 0,.dict a,.set l,o,f]) (Y [.ns m,.inst 242 0,.dict a,.set l,o,f])) :
  lP A (jd L n) (gZ (f9 10)) (hV d c r p alo ahi blo bhi i j k) [.ns m,.inst 242 0,.dict a,.set l,o,f] (two X Y):=by
 refine(g.snd B (by rfl)).T ?_;refine Br.mk (λv=>?_) λv=>h.f (decide_eq_false λq=>absurd (Int.ofNat_lt.mpr q.1) (of_decide_eq_false v));have v:=Int.ofNat_lt.mp (of_decide_eq_true v);refine Br.mk (λu=>?_) λu=>h.f (decide_eq_false λq=>absurd (Int.ofNat_lt.mpr q.2.1) (of_decide_eq_false u));have u:=Int.ofNat_lt.mp (of_decide_eq_true u);have li:i-1<(chars d).length:=by exact b6 12 9 v hi
 have x:j-1<(chars c).length:=by exact b6 12 9 u C
 refine⟨w.zb,dq (n:=j-1) (by exact b8 12 10 u) (IV x) ⟨w.zl,?_⟩⟩;rw[w.zL (Lh x)];refine Br.mk (λy=>?_) λy=>h.f (decide_eq_false λq=>?_)
 rotate_left
 ·have:=q.2.2;rw[eJ (IV li) (IV x),y] at this;exact IW (Bool.and_eq_true_iff.mp this).2
 refine⟨w.za,dq (n:=i-1) (by exact b8 12 10 v) (IV li) ⟨w.zb,dq (n:=j-1) (by exact b8 12 10 u) (IV x) ?_⟩⟩;have e:pairAt (chars d) (chars c) J (i-1) (j-1)=((chars d)[i-1] == (chars c)[j-1]):=by
  refine(eJ (IV li) (IV x)).trans ?_;refine(y).symm▸?_;exact Oz _
 rw[e] at h;exact Br.mk (λz=>h.t (decide_eq_true ⟨v,u,z⟩)) λz=>h.f (decide_eq_false λq=>IW (q.2.2.symm.trans z))
theorem B3(g:Gd){X Y L n i j k}(D:A.handled=none)(w:sj d c J l ahi bhi)(h:Br (decide (i+k<ahi/\j+k<bhi/\pairAt (chars d) (chars c) J (i+k) (j+k)=true)) (X [.ns m,.inst 242 0,.dict a,.set l,o,f]) (Y [.ns m,.inst 242 0,.dict a,.set l,o,f])) :
  lP A (jd L n) (gZ (f9 11)) (hV d c r p alo ahi blo bhi i j k) [.ns m,.inst 242 0,.dict a,.set l,o,f] (two X Y):=by
 refine(g.snd D (by rfl)).T ?_;have z:(i:Int)+k=((i+k:Nat):Int):=(NX i k).symm;have y:(j:Int)+k=((j+k:Nat):Int):=(NX j k).symm;refine Br.mk (λu=>?_) λu=>h.f (decide_eq_false λq=>absurd (z▸Int.ofNat_lt.mpr q.1) (of_decide_eq_false u));have u:=Int.ofNat_lt.mp (z▸of_decide_eq_true u);refine Br.mk (λv=>?_) λv=>h.f (decide_eq_false λq=>absurd (y▸Int.ofNat_lt.mpr q.2.1) (of_decide_eq_false v));have v:=Int.ofNat_lt.mp (y▸of_decide_eq_true v);have li:=IU u w.ra;have x:=IU v w.rb;refine⟨w.zb,dq (n:=j+k) y (IV x) ⟨w.zl,?_⟩⟩;rw[w.zL (Lh x)];refine Br.mk (λB=>?_) λB=>h.f (decide_eq_false λq=>?_)
 rotate_left
 ·have:=q.2.2;rw[eJ (IV li) (IV x),B] at this;exact IW (Bool.and_eq_true_iff.mp this).2
 refine⟨w.za,dq (n:=i+k) z (IV li) ⟨w.zb,dq (n:=j+k) y (IV x) ?_⟩⟩;have e:pairAt (chars d) (chars c) J (i+k) (j+k)=((chars d)[i+k] == (chars c)[j+k]):=by
  refine(eJ (IV li) (IV x)).symm▸?_;refine(B).symm▸?_;exact Oz _
 rw[e] at h;exact Br.mk (λC=>h.t (decide_eq_true ⟨u,v,C⟩)) λC=>h.f (decide_eq_false λq=>IW (q.2.2.symm.trans C))
end
end
section
variable {A:Around}{st:St}{Q:V->St->Prop}
inductive G3:Prop
 |mk (mN:Str->Option Value) (c:TupAt 135 134 136 82 mN) (make:mN "_make"=IK (.ref 91)) (lt:mN "__lt__"=none) (len:mN "__len__"=none) (iter:mN "__iter__"=none)
theorem iD(g:Gd):G3:=by
 obtain⟨m,a,_⟩:=g.nam (134,IM "__new__",IK (.ref 136)) (dO 49 rfl);obtain⟨ms,c,d⟩:=g.nam (Kb,IM "thirdparty.any",none) (dO 65 rfl);exact⟨m,⟨_,_,_,_,_,_,_,_,_,g.fields (o:=Bk) (dO 5 rfl) (λf q=>JO q),a,by decide,⟨ms,c,d⟩,g.nP a (dO 50 rfl),g.nP a (dO 49 rfl),g.fields (o:=Bj) (dO 6 rfl) (λf q=>JO q)⟩,
  g.nP a (dO 51 rfl),g.nP a (dO 53 rfl),g.nP a (dO 52 rfl),g.nP a (dO 55 rfl)⟩
end
noncomputable def fu(s:Stmt):Expr:=(y9 s).1
noncomputable def c9(s:Stmt):List Stmt:=(y9 s).2.2.1
structure se(as bs:List Str)(ok:Str->Bool)(alo blo bhi i:Nat)(kvs:List (Int×V))(P:Nat->Prop):Prop where
 yes:∀j,P j->blo<=j->j<bhi->cR kvs (j:Int)=IK (.i (c6 as bs ok alo blo (i+1) (j+1):Nat))
 no:∀j:Int,(∀n:Nat,P n->(n:Int)=j->¬(blo<=n/\n<bhi))->cR kvs j=none
 int:∀p∈kvs,∃z,p.2=V.i z
noncomputable abbrev Fh(alo blo bhi i:Nat)(P:Nat->Prop)(e f:Nat):Prop:=blo<=f/\f<bhi/\alo<=e/\(e<i∨(e=i/\P f))
structure JI(as bs:List Str)(ok:Str->Bool)(alo blo bhi i:Nat)(P:Nat->Prop)(kn:List (Int×V))(bi bj bk:Nat):Prop where
 nj:se as bs ok alo blo bhi i kn P
 bo:dI as bs ok alo blo (Fh alo blo bhi i P) bi bj bk
section
variable {as bs:List Str}{ok:Str->Bool}{alo blo bhi i j c a bk:Nat}{P P':Nat->Prop}{kn:List (Int×V)}{done:List Nat}
theorem JI.same(h:JI as bs ok alo blo bhi i P kn c a bk)(g:∀n,P n->P' n)(j:∀n,P' n->blo<=n->n<bhi->P n):JI as bs ok alo blo bhi i P' kn c a bk :=
 ⟨⟨λn d o p=>h.nj.yes n (j n d o p) o p,λz hz=>h.nj.no z λn d=>hz n (g n d),h.nj.int⟩,
  h.bo.congr (λe f q=>⟨q.1,q.2.1,q.2.2.1,q.2.2.2.imp id λq=>⟨q.1,g f q.2⟩⟩) λe f q=>.inl ⟨q.1,q.2.1,q.2.2.1,q.2.2.2.imp id λk=>⟨k.1,j f k.2 q.1 q.2.1⟩⟩⟩
theorem se.more(d:se as bs ok alo blo bhi i kn (· ∈done))(e:blo<=j)(f:j<bhi){v:Int}(g:v=(c6 as bs ok alo blo (i+1) (j+1):Nat)):se as bs ok alo blo bhi i (il kn (j:Int) (.i v)) (· ∈done++[j]):=by
 refine⟨λn c h k=>?_,λz a=>?_,yE (P:=λv=>∃z,v=V.i z) d.int ⟨_,rfl⟩⟩
 ·refine J3 (ni ..) ?_;by_cases en:n=j
  ·subst en;rw[if_pos rfl,g]
  ·refine(if_neg (λq:(n:Int)=j=>en (Ru q))).symm▸?_;exact d.yes n ((NP.mp c).resolve_right λq=>en (OB.mp q)) h k
 ·rw[ni];refine J3 (if_neg (λq=>a j (J0 _ (.head _)) q.symm ⟨e,f⟩) ..) ?_;exact d.no z λn c=>a n (KC _ c)
theorem yg(c:blo<=j)(d:j<bhi)(a:alo<=i)(e f:Nat):Fh alo blo bhi i (· ∈done++[j]) e f↔Fh alo blo bhi i (· ∈done) e f∨(e=i/\f=j):=by
 refine⟨λq=>q.2.2.2.elim (λz=>.inl ⟨q.1,q.2.1,q.2.2.1,.inl z⟩) λz=>(NP.mp z.2).elim (λy=>.inl ⟨q.1,q.2.1,q.2.2.1,.inr ⟨z.1,y⟩⟩) λy=>.inr ⟨z.1,OB.mp y⟩,λq=>q.elim (λq=>⟨q.1,q.2.1,q.2.2.1,q.2.2.2.imp id λz=>⟨z.1,KC _ z.2⟩⟩) λq=>?_⟩;obtain⟨rfl,rfl⟩:=q;exact⟨c,d,a,.inr ⟨rfl,J0 _ (.head _)⟩⟩
theorem JI.more(h:JI as bs ok alo blo bhi i (· ∈done) kn c a bk)(o:blo<=j)(p:j<bhi)(d:alo<=i)(g:∀n∈done,n<j){v:Int}{R}(u:R=c6 as bs ok alo blo (i+1) (j+1))(w:v=R) :
  (bk<R->JI as bs ok alo blo bhi i (· ∈done++[j]) (il kn (j:Int) (.i v)) (i+1-R) (j+1-R) R)/\(¬bk<R->JI as bs ok alo blo bhi i (· ∈done++[j]) (il kn (j:Int) (.i v)) c a bk):=by
 subst u;have r:=h.nj.more o p w;have k:=h.bo.more (i:=i) (j:=j) (yg o p d) λe f q=>q.2.2.2.imp id λq=>⟨q.1,g f q.2⟩
 exact⟨λq=>⟨r,(if_pos q).mp k⟩,λq=>⟨r,(if_neg q).mp k⟩⟩
theorem xk{x}(c:alo<=i)(e:blo<=j)(a:as[i]?=IK x)(f:bs[j]?=IK x)(d:ok x=true):c6 as bs ok alo blo (i+1) (j+1)=c6 as bs ok alo blo i j+1:=by
 rw[eC,if_pos ⟨c,e,cT.mpr ⟨x,a,f,d⟩⟩]
theorem qE{i}{R:Nat}{r:Int}(l:R<=i+1)(e:r=R):(i:Int)-r+1=((i+1-R:Nat):Int):=by
 subst e;exact b8 16 5 l
end
section
variable {A:Around}{c a:Str}{e d:Nat}{ok:Str->Bool}{alo ahi blo bhi i:Nat}{l:List Str}{m:Lc}{h:List (Str×V)}{g f:O}
noncomputable abbrev CE(c a:Str)(e d alo ahi blo bhi i:Nat)(f g bk:Int):Lc:=hV c a e d alo ahi blo bhi f g bk++[(Bz,.r 6),(By,.l []),(uD,.i i),((⟨⟨[106,50,108,101,110,103,101,116]⟩⟩:Str),.bm .dget 6),((⟨⟨[110,101,119,106,50,108,101,110]⟩⟩:Str),.r 7)]
noncomputable abbrev BJ:Stmt:=dh (c9 (f9 7)) 2
end
mutual
noncomputable def V.up(u:Nat->Nat):V->V
 |.r h=>.r (u h)
 |.bm x h=>.bm x (u h)
 |.c k vs=>match k with
  |.lst=>.c .lst vs
  |.tup=>.c .tup (V.B1 u vs)
  |.cls C=>.c (.cls C) (V.B1 u vs)
 |.v w=>.v w
 |.i x=>.i x
 |.f x=>.f x
 |.s x t=>.s x t
 |.o ob=>.o ob
 |.g x=>.g x
 |.rg x y=>.rg x y
noncomputable def V.B1(u:Nat->Nat):List V->List V
 |[]=>[]
 |x::vs=>V.up u x::V.B1 u vs
end /-m-/
theorem zk(u:Nat->Nat)(vs:List V):V.B1 u vs=vs.map (V.up u):=by
 induction vs with
 |nil=>rfl
 |cons v vs a=>exact congrArg (V.up u v:: ·) a
noncomputable def wB{K:Type}(u:Nat->Nat)(l:List (K×V)):List (K×V):=l.map λp=>(p.1,p.2.up u)
noncomputable def O.up(u:Nat->Nat):O->O
 |.list vs=>.list (V.B1 u vs)
 |.dict a=>.dict (wB u a)
 |.dicti a=>.dicti (wB u a)
 |.set l=>.set l
 |.inst C d=>.inst C (u d)
 |.ns l=>.ns (wB u l)
 |.fix x=>.fix x
 |_=>.gone
section
variable {A:Around}{σ:Sg}{D:Sg}{s:IY}{u:Nat->Nat}{k:Nat}{E:Nat}
noncomputable def EY(u:Nat->Nat)(σ:Sg)(k:Nat)(D:Sg)(E:Nat):Prop:=∀h,h<k->u h<E/\D.a (u h)=σ.a h
theorem zj(hz:∀b,σ.z b->D.z b){v w n}(q:RV σ 0 s v w):RV D n s v w :=
 RV.c0 (X:=dY) (n:=0) (σ:=σ) (σ':=D) (s:=s) ⟨hz,λZ U h L a B=>h,IQ _⟩ (λZ U=>⟨id,λZ q=>absurd q (I4 _)⟩) v 0 n (λZ q=>absurd q (I4 _)) w q
theorem l9(hz:∀b,σ.z b->D.z b)(g:EY u σ k D E)(v:V):∀w:Value,RV σ k s v w->RV D E s (v.up u) w :=
 V.rec (motive_1:=λv=>∀w:Value,RV σ k s v w->RV D E s (v.up u) w) (motive_2:=λvs=>∀ws:List Value,cW σ k s vs ws->cW D E s (V.B1 u vs) ws)
  (λZ U=>id) (λZ U=>id) (λZ U=>id) (λZ U L=>id)
  (λd vs A w q=>by
   obtain⟨a,items,j,e,h,c,i,p⟩:=q;cases d with
   |lst=>exact⟨a,items,j,e,hz a h,c,i,cW.ou (λv Z w q=>zj hz q) _ p⟩
   |tup=>exact⟨a,items,j,e,hz a h,c,i,A _ p⟩
   |cls C=>exact⟨a,items,j,e,hz a h,c,i,A _ p⟩)
  (λh w q=>⟨(g h q.1).1,q.2.trans (congrArg Jy (g h q.1).2.symm)⟩)
  (λo w q=>q.casesOn λa e z c so=>⟨a,e,hz a z,c,so⟩)
  (λb h w q=>q.casesOn λa e z c r=>⟨a,e,hz a z,(g h r).2.symm▸c,(g h r).1⟩)
  (λZ U=>id) (λx y w q=>q.casesOn λa t u v e z c=>⟨a,t,u,v,e,hz a z,c⟩)
  (λZ=>id)
  (λv vs B F ws q=>q.casesOn λw f e a b=>⟨w,f,e,B w a,F f b⟩) v
theorem nX(hz:∀b,σ.z b->D.z b)(d:EY u σ k D E){vs}:∀ {ws:List Value},cW σ k s vs ws->cW D E s (V.B1 u vs) ws:=by
 induction vs with
 |nil=>exact id
 |cons v vs f=>exact λq=>q.casesOn λw c e a b=>⟨w,c,e,l9 hz d v w a,f b⟩
theorem wQ(hz:∀b,σ.z b->D.z b)(a:EY u σ k D E){K:Type}{l:List (K×V)}{ws:List (K×Value)}(q:RK σ k s l ws):RK D E s (wB u l) ws:=by
 refine⟨q.1.trans (by refine J3 ?_ (JB).symm;rfl),?_⟩;have:=nX hz a q.2;rw[zk,JB] at this;unfold wB;rw[JB];exact this
theorem qB{l:List (Str×V)}{x:Str}:(wB u l).lookup x=(l.lookup x).map (V.up u):=by
 induction l with
 |nil=>rfl
 |cons p l a =>
  show((p.1,p.2.up u)::wB u l).lookup x=_;rw[Jn,Jn];refine(a).symm▸?_;cases x == p.1 <;> rfl
theorem iV(hz:∀b,σ.z b->D.z b)(p:EY u σ k D E){o a}(q:RO σ k s a o):RO D E s a (o.up u)/\∀g c L,o.up u≠.gen g c L:=by
 cases o with
 |list vs=>exact⟨q.casesOn λitems j i H J=>⟨items,j,i,H,nX hz p J⟩,λZ U h q=>O.noConfusion q⟩
 |dict y=>exact⟨q.casesOn λo ws i hd r=>⟨o,ws,i,hd,wQ hz p r⟩,λZ U h q=>O.noConfusion q⟩
 |dicti y=>exact⟨q.casesOn λo ws i hd r=>⟨o,ws,i,hd,wQ hz p r⟩,λZ U h q=>O.noConfusion q⟩
 |set l=>exact⟨q,λZ U h q=>O.noConfusion q⟩
 |inst C d=>exact⟨q.casesOn λo i hc hd A G=>⟨o,i,hc,hd.trans (congrArg IK (p d A).2.symm),(p d A).1,G⟩,λZ U h q=>O.noConfusion q⟩
 |ns l =>
  obtain⟨f,M,P,Q⟩:=q;refine⟨⟨f,M,λx v e=>?_,λx e=>Q x ?_⟩,λZ U h q=>O.noConfusion q⟩
  ·replace e:=qB▸e;obtain⟨B,F,rfl⟩:=Ln.mp e;obtain⟨w,R,S⟩:=P x B F;exact⟨w,R,l9 hz p B w S⟩
  ·have e:=(qB ..)▸e;exact Option.map_eq_none_iff.mp e
 |fix o=>exact⟨q,λZ U h q=>O.noConfusion q⟩
 |frm=>exact⟨q.there,λZ U h q=>O.noConfusion q⟩
 |gen=>exact⟨q.there,λZ U h q=>O.noConfusion q⟩
 |cell=>exact⟨q.there,λZ U h q=>O.noConfusion q⟩
 |dictx=>exact⟨q.there,λZ U h q=>O.noConfusion q⟩
 |gone=>exact⟨q,λZ U h q=>O.noConfusion q⟩
noncomputable def jK(a:List Nat)(n N h:Nat):Nat:=match decide (h<n) with
 |true=>a.getD h 0
 |false=>N+(h-n)
noncomputable def pd(u:Nat->Nat)(a:List Nat)(os:St):Nat->St->St
 |Z,[]=>[]
 |k,o::st=>(match lN k a with
  |some i=>(match os[i]? with
   |some o'=>O.up u o'
   |none=>.gone)
  |none=>o)::pd u a os (k+1) st
mutual
theorem i3{u js os st}:∀ {k:Nat},(pd u js os k st).length=st.length:=by
 induction st with
 |nil=>intro k;rfl
 |cons o st a=>intro k;exact congrArg (· + 1) a
theorem r7{u js os st}:∀ {k h:Nat} {o:O},(pd u js os k st)[h]?=IK o->∃o',st[h]?=IK o'/\((lN (k+h) js=none/\o=o')∨∃i,lN (k+h) js=IK i/\∀y,os[i]?=IK y->o=y.up u):=by
 induction st with
 |nil=>intro k h o e;exact by cases e
 |cons o' st c =>
  intro k h o e;cases h with
  |zero =>
   refine⟨o',rfl,?_⟩;have e:=Jk e;refine(Lv ..).symm▸?_;cases q:lN k js with
   |none=>rw[q] at e;exact .inl ⟨rfl,e.symm⟩
   |some i =>
    have e:=q▸e;exact .inr ⟨i,rfl,λy a=>by dsimp only at e;rw[a] at e;exact e.symm⟩
  |succ h =>
   refine(show k+(h+1)=k+1+h by rw[KA,NO 1 h]).symm▸?_;exact c e
end
noncomputable def fJ(a:List Nat)(st os:St):St:=pd (jK a a.length st.length) a os 0 st++(os.drop a.length).map (O.up (jK a a.length st.length))
inductive Fw(js:List Nat)(st:St)(Q:V->St->Prop)(v:V)(os:St):Prop
 |mk (v':V) (st':St) (hv:v.up (jK js js.length st.length)=v') (hs:fJ js st os=st') (q:Q v' st')
theorem vT{h ks}(e:lN h ks=none):h∉ks:=by
 induction ks with
 |nil=>exact Jf
 |cons k ks a =>
  rw[yj] at e;cases q:k == h with
  |true=>have e:=q▸e;cases e
  |false=>have e:=q▸e;exact λz=>(Tq.mp z).elim (λz=>by have q:=(z ..)▸q;rw[beq_self_eq_true] at q;cases q) (a (Option.map_eq_none_iff.mp e))
variable {Q:V->St->Prop}
theorem ib{f f2 vs vs2 st st₂}(m:Vm)(hm:m.ml=[])(v:nU m 0 st st₂)(hf:V.vw m f=IK f2)(ah:V.si m vs=IK vs2)(h:b5 A f2 vs2 st₂ (Fw m.js st Q)):b5 A f vs st Q:=by
 intro σ s w ws hw ai i r;have x:=v.step (X:=dY) i r;have hl:=v.os.at_.1;have M:=v.ml.ok r;have J:=eP M f f2 hf w hw;have E:=nW M ah ai;rw[hl] at J E;have Y:∀b,(σ.vw m).z b->σ.z b:=λb q=>q.elim id λaf=>by obtain⟨k,us,e,_⟩:=af;have e:=hm▸e;cases e
 have at_:=v.os.at_.2;have aa:∀k,k<st₂.length->∃j,m.js[k]?=IK j/\j<st.length/\(σ.vw m).a k=σ.a j:=λk q=>by
  refine IJ λS=>?_;obtain⟨j,o',C,p,_⟩:=at_ k _ (IV q);refine S ?_;exact⟨j,C,(List.getElem?_eq_some_iff.mp p).1,(gp C).1⟩
 refine b0 (h (σ.vw m) s w ws J E x.inv x.rel) λw' s' D os u y hu aj=>?_;obtain⟨v',ak,ev,es,q⟩:=aj;subst ev es;have hN:(fJ m.js st os).length=st.length+(os.length-st₂.length):=by
  unfold fJ;rw[IL,i3,IZ,Ku,hl]
 have ac:=y.x.len;have U:∀g c L (h:Nat),st₂[h]?≠IK (O.gen g c L):=λg c L k e=>by
  obtain⟨j,o',C,p,H⟩:=at_ k _ e;exact(sL M H (r.at_ j o' p)).2 g c L rfl
 let F:Sg:=⟨λh=>match decide (h<st.length) with | true=>σ.a h | false=>D.a (st₂.length+(h-st.length)),D.z⟩
 have G:∀h,h<st.length->F.a h=σ.a h:=λh q=>by show(match decide _ with | true=>_ | false=>_)=_;exact(decide_eq_true q).symm▸rfl
 have P:∀h,¬h<st.length->F.a h=D.a (st₂.length+(h-st.length)):=λh q=>by show(match decide _ with | true=>_ | false=>_)=_;exact(decide_eq_false q).symm▸rfl
 have hU:EY (jK m.js m.js.length st.length) D os.length F (fJ m.js st os).length:=λk q=>by
  refine(hN).symm▸?_;unfold jK;refine(hl).symm▸?_;by_cases B:k<st₂.length
  ·rw[decide_eq_true B];refine IJ λS=>?_;obtain⟨j,C,p,H⟩:=aa k B;refine S ?_;dsimp only;refine(P6).symm▸?_;refine(C).symm▸?_;exact⟨IU p (Jc _ _),(G j p).trans (H.symm.trans (y.x.ext k B).symm)⟩
  ·rw[decide_eq_false B];dsimp only;refine⟨by exact cO 18 4 q B,?_⟩;refine(P _ (by exact b8 18 5)).trans ?_;exact(show st₂.length+(st.length+(k-st₂.length)-st.length)=k by exact b6 18 6 B).symm▸rfl
 have S:∀b,D.z b->F.z b:=λZ=>id;have ab:∀h,h<st.length->lN h m.js=none->∀k,k<st₂.length->(σ.vw m).a k≠σ.a h:=λh q e k B e'=>by
  obtain⟨j,C,p,H⟩:=aa k B;have:=r.inj j h p q (H.symm.trans e');subst this;exact vT e (IX C)
 have sA:∀b,(∀h,h<st.length->σ.a h≠b)->∀k,k<st₂.length->(σ.vw m).a k≠b:=λb q k B e'=>by
  obtain⟨j,C,p,H⟩:=aa k B;exact q j p (H.symm.trans e')
 have kp:Kp dY σ st.length s F s':=⟨λb q=>y.x.z b (.inl q),λb o hb hs hn hx=>y.x.keep b o hb hs (sA b hn) hx,y.x.tgrow⟩
 have T:∀(h:Nat) (o:O),(fJ m.js st os)[h]?=IK o->(h<st.length/\(pd (jK m.js m.js.length st.length) m.js os 0 st)[h]?=IK o)∨(¬h<st.length/\∃o',os[st₂.length+(h-st.length)]?=IK o'/\o=o'.up (jK m.js m.js.length st.length)):=λh o e=>by
  unfold fJ at e;by_cases d:h<st.length
  ·rw[Jp (by rw[i3];exact d)] at e;exact .inl ⟨d,e⟩
  ·rw[Jr (by rw[i3];exact Nat.not_lt.mp d),i3,Jt,Rq] at e;obtain⟨o',C,rfl⟩:=Ln.mp e;exact .inr ⟨d,o',hl▸C,rfl⟩
 refine⟨F,fJ m.js st os,⟨⟨by rw[hN];exact Jc _ _,G,λh q R=>?_,kp.z,λb q=>(y.x.znew b q).imp (Y b) id,kp.keep,y.x.grow,y.x.tgrow⟩,y.inv,⟨λh o e=>?_,λh q=>?_,λh k q R e=>?_,y.rel.zlt,λb q h R=>?_⟩,
  λg z e hn=>y.gkeep g z e λh c L=>U g c L h,λh g c L e=>?_,y.ggrow⟩,_,l9 S hU u w' hu,q⟩
 ·rw[hN] at R;refine(P h (Nat.not_lt.mpr q)).symm▸?_;exact y.x.new _ (by exact b8 1 18) (by exact cO 18 7 R q)
 ·rcases T h o e with ⟨d,e⟩ | ⟨d,o',C,rfl⟩
  ·obtain⟨o',C,⟨p,rfl⟩ | ⟨j,p,H⟩⟩:=r7 e
   ·rw[JK] at p;rw[G h d];exact(r.at_ h o C).c0 kp r.apart (λk q=>⟨by rw[hN];exact IU q (Jc _ _),G k q⟩) (λz hz hs=>y.x.keep _ z hz hs (ab h d p) id) λg c L eg hg=>y.gkeep g _ hg λk c' L'=>U g c' L' k
   ·rw[JK] at p;have ej:=qf p;have hj:j<st₂.length:=hl▸(List.getElem?_eq_some_iff.mp ej).1;have ag:=IU hj ac;have eo:=IV ag;rw[H _ eo,G h d,<-(gp (σ:=σ) ej).1,<-y.x.ext j hj];exact(iV S hU (y.rel.at_ j _ eo)).1
  ·rw[P h d];exact(iV S hU (y.rel.at_ _ _ C)).1
 ·by_cases d:h<st.length
  ·rw[G h d];exact r.above h d
  ·rw[P h d];rw[hN] at q;exact y.rel.above _ (by exact cO 18 8 q d)
 ·rw[hN] at q R;have ae:∀h k,h<st.length->¬k<st.length->k<st.length+(os.length-st₂.length)->σ.a h≠D.a (st₂.length+(k-st.length)):=λh k q1 q2 q3 e =>
   I2 _ (IU (r.lt q1) (e▸y.x.new _ (Jc _ _) (by exact cO 18 8 q3 q2)))
  by_cases d:h<st.length
  ·by_cases B:k<st.length
   ·rw[G h d,G k B] at e;exact r.inj h k d B e
   ·rw[G h d,P k B] at e;exact absurd e (ae h k d B R)
  ·by_cases B:k<st.length
   ·rw[P h d,G k B] at e;exact absurd e.symm (ae k h B d q)
   ·rw[P h d,P k B] at e;have:=y.rel.inj _ _ (by exact cO 18 8 q d) (by exact cO 18 8 R B) e;exact cO 18 9 this d B
 ·rw[hN] at R;by_cases d:h<st.length
  ·rw[G h d];rcases y.x.znew b q with z | z
   ·exact r.zoff b (Y b z) h d
   ·exact λe=>I2 _ (IU (r.lt d) (e▸z))
  ·rw[P h d];exact y.rel.zoff b q _ (by exact cO 18 8 R d)
 ·rcases T h _ e with ⟨d,e⟩ | ⟨d,o',C,p⟩
  ·obtain⟨o',C,⟨p,rfl⟩ | ⟨j,p,H⟩⟩:=r7 e
   ·exact .inl ⟨h,c,L,C⟩
   ·have ej:=qf p;have hj:j<st₂.length:=hl▸(List.getElem?_eq_some_iff.mp ej).1;have eo:=IV (IU hj ac);exact absurd (H _ eo).symm ((iV S hU (y.rel.at_ j _ eo)).2 g c L)
  ·exact absurd p.symm ((iV S hU (y.rel.at_ _ _ C)).2 g c L)
noncomputable def Dr(A:Around)(F:dH)(c:Stmt)(Q:Fl->Lc->St->Prop)(f:Fl)(lc:Lc)(st:St):Prop:=match f with
 |.next=>eG A F c lc st Q
 |_=>False
theorem tg{A F lc st Q c}(h:Dh F (Dr A F c Q) .next lc st):eG A F c lc st Q:=λσ s p=>by
 obtain⟨e,lc₂,st₂,y,d,g,j,a⟩:=h.pf p.i p.r p.f (w:=.next) rfl;cases g with
 |next=>exact iU y (a e s ⟨y.inv,y.rel,d⟩)
 |_=>exact a.elim
end
theorem pQ(bs:List Str)(k:Str)(n:Nat):(d4 bs k n).Pairwise (· < ·):=by
 exact Ub _ List.pairwise_lt_range
structure kr(bs:List Str)(J:Str->Bool)(kvs:List (Str×V)):Prop where
 yes:∀x,x∈bs->J x=false->cR kvs x=IK (.l (dR (d4 bs x bs.length)))
 no:∀x,¬(x∈bs/\J x=false)->cR kvs x=none
 vals:∀p∈kvs,∃vs,p.2=.l vs
theorem kr.get{bs J kvs}(b:kr bs J kvs)(x:Str):∃idxs:List Nat,(cR kvs x).getD (.l [])=.l (dR idxs)/\idxs.length<=bs.length/\idxs.Pairwise (· < ·)/\(∀j∈idxs,bs[j]?=IK x/\J x=false)/\∀j,bs[j]?=IK x->J x=false->j∈idxs:=by
 by_cases h:x∈bs/\J x=false
 ·refine⟨_,?_,od _ _ _,pQ _ _ _,λj a=>⟨(kD.mp a).2,h.2⟩,λj a Z=>kD.mpr ⟨(List.getElem?_eq_some_iff.mp a).1,a⟩⟩;rw[b.yes x h.1 h.2];rfl
 ·refine⟨[],?_,Ji _,.nil,λj a=>absurd a Jf,λj a c=>absurd ⟨IX a,c⟩ h⟩;rw[b.no x h];rfl
theorem kr.vw{bs J kvs}(b:kr bs J kvs)(m:Vm):O.vw m (.dict kvs)=IK (.dict kvs) :=
 congrArg (JZ O.dict) (sq λp a=>by obtain⟨vs,e⟩:=b.vals p a;refine(e).symm▸?_;rfl)
noncomputable abbrev zI(c:Value)(a:V)(f g:Str)(d e:Nat):Lc:=qw (.v c) (.s f d) (.s g e) (.b true) .n a .n (.r 2) (.r 3) (.r 4)
structure tT(co:V)(o5:O):Prop where
 v:∀m:Vm,m.ml.lookup 5=none->m.at 5=IK 5->V.vw m co=IK co
 o:∀m:Vm,O.vw m o5=IK o5
 up:∀u:Nat->Nat,u 5=5->co.up u=co
 oup:∀u:Nat->Nat,o5.up u=o5
theorem mQ{co m fj xa xb ta tb}(h:V.vw m co=IK co)(d:V.vw m (.r 2)=IK (.r 2))(e:V.vw m (.r 3)=IK (.r 3))(f:V.vw m (.r 4)=IK (.r 4)):O.vw m (.ns (zI fj co xa xb ta tb))=IK (.ns (zI fj co xa xb ta tb)):=by
 have c {l:Lc} (h:l.foldr (λa q=>V.vw m a.2=IK a.2/\q) True):O.vw m (.ns l)=IK (.ns l):=congrArg (JZ O.ns) (sq λp g=>i4 (P:=λp:Str×V=>V.vw m p.2=IK p.2) h g);exact c ⟨rfl,rfl,rfl,rfl,rfl,h,rfl,d,e,f,trivial⟩
section
variable {as bs:List Str}{ok:Str->Bool}{alo blo bhi i c a bk:Nat}{kn:List (Int×V)}{idxs:List Nat}
theorem se.next(o:se as bs ok alo blo bhi i kn (· ∈idxs))(c:∀j,j∉idxs->pairAt as bs ok i j=false)(j:Nat)(a:blo<=j)(f:j<bhi):(cR kn ((j:Int)-1)).getD (.i 0)=.i (c6 as bs ok alo blo (i+1) j:Nat):=by
 by_cases e:j=blo
 ·subst e;rw[vq (IQ _),o.no ((j:Int)-1) (λm Z d q=>by exact b8 16 9 d q.1)]
  rfl
 ·obtain⟨j,rfl⟩:∃k,j=k+1:=⟨j-1,by exact b8 16 10 a e⟩
  refine(show((j+1:Nat):Int)-1=(j:Int) by exact ec 16 11).symm▸?_;by_cases g:j∈idxs
  ·rw[o.yes j g (by exact b8 16 12 a e) (R5 f)];rfl
  ·rw[o.no (j:Int) (λm h d q=>g (Ru d▸h)),eC,if_neg (λq=>IW ((c j g).symm.trans q.2.2))]
   rfl
end
section
variable {A:Around}{c a:Str}{e d:Nat}{J:Str->Bool}{alo ahi blo bhi:Nat}{l g:List Str}{m:Lc}{h:List (Str×V)}{i:Value}{j:V}{f:O}
noncomputable abbrev zD(c a:Str)(e d alo ahi blo bhi:Nat)(f g bk:Int):Lc:=hV c a e d alo ahi blo bhi f g bk++[(Bz,.r 6),(By,.l [])]
end
theorem cW.cat{σ n s vs us ws zs}(h:cW σ n s vs ws)(h':cW σ n s us zs):cW σ n s (vs++us) (ws++zs):=by
 induction vs generalizing ws with
 |nil=>cases h;exact h'
 |cons v vs f=>obtain⟨w,a,e,c,d⟩:=h;subst e;exact⟨w,a++zs,rfl,c,f d⟩
section
variable {A:Around}{st:St}{Q:V->St->Prop}
noncomputable def BW(a:Arguments)(dflt:Value)(names:List Str)(n:Nat)(c:List Value):Prop:=∀(s:IY) (fd:LH) (ws:List Value),Inv s->fd.params=a->fd.defaults=dflt->fd.kwdefaults=.none->ws.length=n->PX s fd ⟨ws,[]⟩ (names.zip (ws++c))
variable {z D:Str}{M H:Nat}{J:Str->Bool}{alo ahi blo bhi:Nat}{l Z:List Str}{G:List (Str×V)}{fj:Value}{Y:V}{U:O}
mutual
theorem qc:∀h,h<6->([0,1,2,3,4,5]:List Nat)[h]?=IK h:=by decide
theorem sA{a b}(c:a<=sizeLine)(d:b<=sizeLine):pH a b=true:=by
 have p:∀n:Nat,n<=sizeLine->decide (-(2 ^ 62)<=(n:Int))=true/\decide ((n:Int)<2 ^ 62)=true:=λn h=>⟨decide_eq_true (NS (by decide) (Kc n)),decide_eq_true (EJ h)⟩
 unfold pH;rw[(p a c).1,(p a c).2,(p b d).1,(p b d).2];rfl
end
theorem yP(g:Gd)(ak:tT Y U)(hA:A.handled=none)(ah:A.depth+2<recursionLimit)(w:sj z D J l ahi bhi)(b2:kr (chars D) J G)(bg:(chars z).length<=sizeLine)(aU:(chars D).length<sizeLine)(h1:alo<=ahi)(h2:blo<=bhi)(h:∀ae,lF (chars z) (chars D) J alo ahi blo bhi ae->Q (mV 135 ((ae.1:Int),(ae.2.1:Int),(ae.2.2:Int))) [.ns (zI fj Y z D M H),.inst 242 0,.dict G,.set l,.set Z,U]) :
  b5 A (.v (.ref 196)) [.r 1,.i alo,.i ahi,.i blo,.i bhi] [.ns (zI fj Y z D M H),.inst 242 0,.dict G,.set l,.set Z,U] Q:=by
 have ar {A tgt a b} (T:cB) (hA:A.handled=none) (h:pH a b=true):sh A tgt (.rg a b) (λac=>True) (upTo a b) :=
  have am:nK A tgt (.rg a b) (λac=>True) (upTo a b):=by
   intro σ st s w ⟨p,t,u,v,e,hz,ho⟩ _ i r;subst e;simp only[pH,Ke,decide_eq_true_eq] at h;refine wpAny_pyIter_range ho (small_one h.1.1.1 h.1.1.2 h.1.2 h.2) ?_;have hl:(upTo a b).length=(b-a).toNat:=by unfold upTo;rw[IZ,J9]
   have wk:=Walks.range (prog:=W.prog) (w:=W.w) hA s.heap.objs.size a 1 (b-a).toNat;have wk:=(hl).symm▸wk;refine⟨_,_,λk s P E h hP=>wk.self k s P E h hP,jm (cl:="range_iterator") T wk i.size (λk v σ n s hk x ⟨t,e⟩=>?_) (λk h st=>⟨_,st,rfl⟩) (by decide) λk h h' st hk=>hk _ st,?_,λb e=>Js e.symm,d6 i r⟩
   ·unfold upTo at hk;rw[Jt,Ln] at hk;obtain⟨j,hj,rfl⟩:=hk;rw[List.getElem?_eq_some_iff] at hj;obtain⟨h1,h2⟩:=hj;rw[List.getElem_range] at h2;subst h2;exact⟨t,by rw[e,Rh]⟩
   ·rw[pP,hl];show IsRangeIter _ _ (a+((0:Nat):Int)*1) (((b-a).toNat:Int)-((0:Nat):Int)) 1;rw[show a+((0:Nat):Int)*1=a by simp,show(((b-a).toNat:Nat):Int)-((0:Nat):Int)=((b-a).toNat:Int) by simp];exact I0 _ rfl
  (am).iter
 have aJ:FnAt 196 (IM "SequenceMatcher.find_longest_match") (cJ (cF 5 6)) (a5 (cF 5 6)) (a6 (cF 5 6)) (.ref 195) (.ref 189) :=
  g.fn (oc:=Ba) (dO 20 rfl) (by kernel_rfl) (dO 19 rfl) rfl ⟨_,_,rfl,rfl⟩ (by kernel_rfl) (by kernel_rfl)
 have au {as bs ok alo ahi blo bhi bi bj bk} (b:dI as bs ok alo blo (λe f=>alo<=e/\e<ahi/\blo<=f/\f<bhi) bi bj bk):i5 as bs ok alo ahi blo bhi bi bj bk:=by
  refine⟨b.zero,?_,?_,λi' j' k' h0 hr h1 h2=>?_⟩
  ·by_cases hk:0<bk
   ·obtain⟨e,f,h1,h2,h3,h4,h5⟩:=b.at_ hk;obtain⟨l1,l2,l3⟩:=iR (as:=as) (bs:=bs) (ok:=ok) (alo:=alo) (blo:=blo) (e+1) (f+1);have:=l3 (by exact b6 0 18 hk h2);rw[h2] at this;have e1:e+1-bk=bi:=by exact b6 0 19 h3
    have e2:f+1-bk=bj:=by exact b6 0 19 h4
    rw[e1,e2] at this;exact this
   ·have h0:bk=0:=by exact ec 0 3 hk
    obtain⟨q1,q2⟩:=b.zero h0;exact⟨by exact b8 0 14 q1,by exact b8 0 14 q2,λt ht=>by exact(b8 0 20 ht hk).elim⟩
  ·by_cases hk:0<bk
   ·obtain⟨e,f,h1,h2,h3,h4,h5⟩:=b.at_ hk;have:=Sz alo ahi;have:=Sz blo bhi;exact y8 0 21 h1.2.1 h1.2.2.2 h3 h4
   ·have h0:bk=0:=by exact ec 0 3 hk
    obtain⟨q1,q2⟩:=b.zero h0;have:=SY alo ahi;have:=SY blo bhi;exact qu 0 22 q1 q2 hk
  ·have hl:=xl k' i' j' hr;have e1:i'+k'=(i'+k'-1)+1:=by exact b6 0 23 h0
   have e2:j'+k'=(j'+k'-1)+1:=by exact b6 0 23 h0
   rw[e1] at hl;have hl:=(e2 ..)▸hl;have hS:alo<=i'+k'-1/\i'+k'-1<ahi/\blo<=j'+k'-1/\j'+k'-1<bhi:=by have:=hr.1;have:=hr.2.1;exact y8 1 0 h1 h2 h0 (by assumption) this
   have hm:=b.max _ _ hS;by_cases bd:k'<bk
   ·exact .inl bd
   ·right
    have hk:k'=bk:=by exact b6 1 1 hl hm bd
    refine⟨hk,?_⟩;refine IJ λzz=>?_;obtain⟨e,f,q1,q2,q3,q4,q5⟩:=b.at_ (by exact b6 1 2 h0 hk);refine zz ?_;have:=q5 _ _ hS (by exact b6 1 3 hk hl hm);exact FO 1 4 e1 e2 hk q3 q4 this
 have aW {A z D M H J alo ahi blo bhi l} {m:Lc} {G o4 U} (g:Gd) {Q L pos n i j k ae} (hA:A.handled=none) (w:sj z D J l ahi bhi) (hi:i+k<=(chars z).length) (hj:j+k<=(chars D).length) (hz:dZ (chars z) (chars D) (λs=> !J s) alo blo i j k=ae) (hQ:ae.1+ae.2.2<=(chars z).length->ae.2.1+ae.2.2<=(chars D).length->Q .next (hV z D M H alo ahi blo bhi ae.1 ae.2.1 ae.2.2) [.ns m,.inst 242 0,.dict G,.set l,o4,U]) :
   eG A (jd L n) (.While (gZ (f9 8)) (l8 (f9 8)) [] pos) (hV z D M H alo ahi blo bhi i j k) [.ns m,.inst 242 0,.dict G,.set l,o4,U] Q:=by
  refine gb (BU (chars z) (chars D) (λs=> !J s) alo blo ae (hV z D M H alo ahi blo bhi) [.ns m,.inst 242 0,.dict G,.set l,o4,U]) (λn lc st I=>?_) i ⟨i,j,k,rfl,hz,hi,hj,rfl,rfl⟩;obtain⟨i,j,k,rfl,ez,hi,hj,rfl,rfl⟩:=I;rw[rD] at ez;refine test8 g hA w (IT (Jc _ _) hi) (IT (Jc _ _) hj) (Br.mk (λhc=>?_) λhc=>?_)
  ·have hc:=of_decide_eq_true hc;rw[if_pos hc] at ez;refine(g.snd hA (by rfl)).Ss ⟨n-1,NK (JP (Ji _) hc.1) Nb,n-1,j-1,k+1,rfl,ez,by exact cO 2 12 hi hc.1,by exact cO 2 12 hj hc.2.1,?_,rfl⟩;refine((show((n-1:Nat):Int)=(n:Int)-1 from by exact b8 12 11 hc.1)).symm▸?_;refine((show((j-1:Nat):Int)=(j:Int)-1 from by exact b8 12 11 hc.2.1)).symm▸?_
   rfl
  ·have hc:=of_decide_eq_false hc;rw[if_neg hc] at ez;subst ez;exact hQ hi hj
 have aX {A z D M H J alo ahi blo bhi l} {m:Lc} {G o4 U} (g:Gd) {Q L pos n i j k ae} (hA:A.handled=none) (w:sj z D J l ahi bhi) (hi:i+k<=(chars z).length) (hj:j+k<=(chars D).length) (hz:eW (chars z) (chars D) (λs=> !J s) ahi bhi i j (ahi-(i+k)) k=ae) (hQ:i+ae<=(chars z).length->j+ae<=(chars D).length->Q .next (hV z D M H alo ahi blo bhi i j ae) [.ns m,.inst 242 0,.dict G,.set l,o4,U]) :
   eG A (jd L n) (.While (gZ (f9 9)) (l8 (f9 9)) [] pos) (hV z D M H alo ahi blo bhi i j k) [.ns m,.inst 242 0,.dict G,.set l,o4,U] Q:=by
  refine gb (BS (chars z) (chars D) (λs=> !J s) ahi bhi i j ae (hV z D M H alo ahi blo bhi i j) [.ns m,.inst 242 0,.dict G,.set l,o4,U]) (λn lc st I=>?_) ((chars z).length-k) ⟨k,rfl,hz,hi,hj,rfl,rfl⟩;obtain⟨k,rfl,ez,hi,hj,rfl,rfl⟩:=I;rw[rC] at ez;refine test9 g hA w (Br.mk (λhc=>?_) λhc=>?_)
  ·have hc:=of_decide_eq_true hc;have ez:=(if_pos hc)▸ez;have l1:=IU hc.1 w.ra;have l2:=IU hc.2.1 w.rb;exact(g.snd hA (by rfl)).Ss ⟨(chars z).length-(k+1),by exact b6 14 17 l1,k+1,rfl,ez,l1,l2,rfl,rfl⟩
  ·have hc:=of_decide_eq_false hc;rw[if_neg hc] at ez;subst ez;exact hQ hi hj
 have aM {A z D M H J alo ahi blo bhi l} {m:Lc} {G o4 U} (g:Gd) {Q L pos n i j k ae} (hA:A.handled=none) (w:sj z D J l ahi bhi) (hi:i+k<=(chars z).length) (hj:j+k<=(chars D).length) (hz:dZ (chars z) (chars D) J alo blo i j k=ae) (hQ:ae.1+ae.2.2<=(chars z).length->ae.2.1+ae.2.2<=(chars D).length->Q .next (hV z D M H alo ahi blo bhi ae.1 ae.2.1 ae.2.2) [.ns m,.inst 242 0,.dict G,.set l,o4,U]) :
   eG A (jd L n) (.While (gZ (f9 10)) (l8 (f9 10)) [] pos) (hV z D M H alo ahi blo bhi i j k) [.ns m,.inst 242 0,.dict G,.set l,o4,U] Q:=by
  refine gb (BU (chars z) (chars D) J alo blo ae (hV z D M H alo ahi blo bhi) [.ns m,.inst 242 0,.dict G,.set l,o4,U]) (λn lc st I=>?_) i ⟨i,j,k,rfl,hz,hi,hj,rfl,rfl⟩;obtain⟨i,j,k,rfl,ez,hi,hj,rfl,rfl⟩:=I;rw[rD] at ez;refine test10 g hA w (IT (Jc _ _) hi) (IT (Jc _ _) hj) (Br.mk (λhc=>?_) λhc=>?_)
  ·have hc:=of_decide_eq_true hc;have ez:=(if_pos hc ..)▸ez;refine(g.snd hA (by rfl)).Ss ⟨n-1,NK (JP (Ji _) hc.1) Nb,n-1,j-1,k+1,rfl,ez,by exact cO 2 12 hi hc.1,by exact cO 2 12 hj hc.2.1,?_,rfl⟩;refine((show((n-1:Nat):Int)=(n:Int)-1 from by exact b8 12 11 hc.1)).symm▸?_;refine((show((j-1:Nat):Int)=(j:Int)-1 from by exact b8 12 11 hc.2.1)).symm▸?_
   rfl
  ·have hc:=of_decide_eq_false hc;rw[if_neg hc] at ez;subst ez;exact hQ hi hj
 have aN {A z D M H J alo ahi blo bhi l} {m:Lc} {G o4 U} (g:Gd) {Q L pos n i j k ae} (hA:A.handled=none) (w:sj z D J l ahi bhi) (hi:i+k<=(chars z).length) (hj:j+k<=(chars D).length) (hz:eW (chars z) (chars D) J ahi bhi i j (ahi-(i+k)) k=ae) (hQ:i+ae<=(chars z).length->j+ae<=(chars D).length->Q .next (hV z D M H alo ahi blo bhi i j ae) [.ns m,.inst 242 0,.dict G,.set l,o4,U]) :
   eG A (jd L n) (.While (gZ (f9 11)) (l8 (f9 11)) [] pos) (hV z D M H alo ahi blo bhi i j k) [.ns m,.inst 242 0,.dict G,.set l,o4,U] Q:=by
  refine gb (BS (chars z) (chars D) J ahi bhi i j ae (hV z D M H alo ahi blo bhi i j) [.ns m,.inst 242 0,.dict G,.set l,o4,U]) (λn lc st I=>?_) ((chars z).length-k) ⟨k,rfl,hz,hi,hj,rfl,rfl⟩;obtain⟨k,rfl,ez,hi,hj,rfl,rfl⟩:=I;rw[rC] at ez;refine B3 g hA w (Br.mk (λhc=>?_) λhc=>?_)
  ·have hc:=of_decide_eq_true hc;have ez:=(if_pos hc)▸ez;have l1:=IU hc.1 w.ra;have l2:=IU hc.2.1 w.rb;exact(g.snd hA (by rfl)).Ss ⟨(chars z).length-(k+1),by exact b6 14 17 l1,k+1,rfl,ez,l1,l2,rfl,rfl⟩
  ·have hc:=of_decide_eq_false hc;rw[if_neg hc] at ez;subst ez;exact hQ hi hj
 have az (a b:Nat):upTo (a:Int) (b:Int)=dR (N3 a (b-a)):=by
  delta upTo dR;have bm {n0 n1}:((Mz (((n0:Nat):Int)-((n1:Nat):Int)))=(n0-n1)):=b6 16 6 (toN _);rw[List.range'_eq_map_range,JB,show((b:Int)-a).toNat=b-a by exact bm]
  rfl
 have ay {st a q params body scope cd dflt names vs ds dws n} (T:cB) (f:FnAt a q params body scope cd dflt) (ak:scope.isCoroutine=false) (ba:scope.isGenerator=false) (ah:A.depth<recursionLimit) (hb:BW params dflt names n dws) (hn:vs.length=n) (hd:∀σ k s,cW σ k s ds dws) (hl:(names.all λx=>j4 (scope.names.lookup x))=true) (h:∀L,cK (A.deeper (Kq q scope L a cd)) ⟨Kq q scope L a cd,[],st.length⟩ body (names.zip (vs++ds)).reverse st λfl ac aO=>Q (sF fl) aO):jv A a vs st Q :=
  qi T f ak ba ah (λσ k s ws fd i aK e1 e2 e3=>⟨names.zip (ws++dws),hb s fd ws i e1 e2 e3 (aK.len.trans hn),RB.zip (aK.cat (hd σ k s)),λx hx=>fE (Pc.mp hl _ (L7 hx).1)⟩) h
 have aD:BW (cJ (cF 5 6)) (.ref 189) [eV,(⟨⟨[97,108,111]⟩⟩:Str),(⟨⟨[97,104,105]⟩⟩:Str),(⟨⟨[98,108,111]⟩⟩:Str),(⟨⟨[98,104,105]⟩⟩:Str)] 5 []:=by
  rintro s ⟨⟩ ws i e1 e2 e3 h;dsimp only at e1 e2 e3;subst e1 e2 e3;refine IJ λzz=>?_;obtain⟨a,b,c,d,e,rfl⟩:=Em h;refine zz ?_;exact .of_defaults rfl (i.old.get_of_cls (g.fields (o:=Bb) (dO 18 rfl) (λf q=>JO q)) (λq=>Jo q)) rfl (by rfl) (by rfl)
 refine(ay (ds:=[]) g.top (aJ) (by kernel_rfl) (by kernel_rfl) (by exact b6 9 12 ah) (aD) rfl (λac ab aa=>rfl) (by kernel_rfl) λL=>?_).call;refine(g.snd (F:=jd L 6) (by exact hA) (by rfl)).Ss ?_;refine Br.mk (λq=>IW q) λac=>?_;refine Br.mk (λq=>IW q) λac=>?_;refine kg dict_int ?_;have aL:∀h,h<6->([0,1,2,3,4,5,6]:List Nat)[h]?=IK h:=by decide
 refine tg ⟨⟨[0,1,2,3,4,5,6],[(7,[])]⟩,.next,zD z D M H alo ahi blo bhi alo blo 0,[.ns (zI fj Y z D M H),.inst 242 0,.dict G,.set l,.set Z,U,.dicti []],⟨by decide,.vw rfl (mQ (ak.v _ rfl rfl) rfl rfl rfl) (.vw rfl rfl (.vw rfl (b2.vw _) (.vw rfl rfl (.vw rfl rfl (.vw rfl (ak.o _) (.vw rfl rfl trivial)))))),⟨⟨I8 6,by decide,rfl,λac ab aa B=>id⟩,trivial⟩,λh q ac=>aL h q⟩,rfl,Ak,.of rfl,?_⟩;refine h9 rfl ((g.snd (F:=jd L 6) (by exact hA) (by rfl)).E ?_);refine⟨rfl,_,_,ar g.top (by exact hA) (sA (IT h1 (IT w.ra bg)) (IT w.ra bg)),trivial,?_⟩;rw[az];have an {A z D M H J alo ahi blo bhi l Z G fj Y U} (g:Gd) (ak:tT Y U) {Q} (hA:A.handled=none) (w:sj z D J l ahi bhi) (b2:kr (chars D) J G) (bx:z.length<=sizeLine) (aU:(chars D).length<sizeLine) (hQ:∀bi bj bk kj,dI (chars z) (chars D) (λs=> !J s) alo blo (λe f=>alo<=e/\e<max alo ahi/\blo<=f/\f<bhi) bi bj bk->Q .next (zD z D M H alo ahi blo bhi bi bj bk) [.ns (zI fj Y z D M H),.inst 242 0,.dict G,.set l,.set Z,U,.dicti kj]) :
   ∀(n i:Nat),alo<=i->i+n=max alo ahi->∀kj (bi bj bk:Nat),
    (∀j:Nat,blo<=j->j<bhi->(cR kj ((j:Int)-1)).getD (.i 0)=.i (c6 (chars z) (chars D) (λs=> !J s) alo blo i j:Nat)) ->
    dI (chars z) (chars D) (λs=> !J s) alo blo (λe f=>alo<=e/\e<i/\blo<=f/\f<bhi) bi bj bk ->
    dG (λac=>True) (dN A (jd L 6) (fu (f9 7))) (cK A (jd L 6) (c9 (f9 7))) Q (dR (N3 i n)) (zD z D M H alo ahi blo bhi bi bj bk) [.ns (zI fj Y z D M H),.inst 242 0,.dict G,.set l,.set Z,U,.dicti kj]:=by
  have al {A z D M H ok alo ahi blo bhi i l} {m:Lc} {G o4 U} (g:Gd) {L n Q x kj idxs} (hA:A.handled=none) (hj:∀j:Nat,blo<=j->j<bhi->(cR kj ((j:Int)-1)).getD (.i 0)=.i (c6 (chars z) (chars D) ok alo blo i j:Nat)) (bn:(chars z)[i]?=IK x) (aZ:alo<=i) (bv:∀j∈idxs,ok x=true) (bp:∀j∈idxs,(chars D)[j]?=IK x) (aT:idxs.Pairwise (· < ·)) (hz:idxs.length<sizeLine) (hQ:∀kn bi bj bk,se (chars z) (chars D) ok alo blo bhi i kn (· ∈idxs)->dI (chars z) (chars D) ok alo blo (λe f=>blo<=f/\f<bhi/\alo<=e/\(e<i∨(e=i/\f∈idxs))) bi bj bk->Q .next (CE z D M H alo ahi blo bhi i bi bj bk) [.ns m,.inst 242 0,.dict G,.set l,o4,U,.dicti kj,.dicti kn]) :
    ∀(ai done:List Nat),idxs=done++ai->∀kn (bi bj bk:Nat),kn.length<=done.length->se (chars z) (chars D) ok alo blo bhi i kn (· ∈done)->dI (chars z) (chars D) ok alo blo (λe f=>blo<=f/\f<bhi/\alo<=e/\(e<i∨(e=i/\f∈done))) bi bj bk ->
     dG (λac=>True) (dN A (jd L n) (fu BJ)) (cK A (jd L n) (c9 BJ)) Q (dR ai) (CE z D M H alo ahi blo bhi i bi bj bk) [.ns m,.inst 242 0,.dict G,.set l,o4,U,.dicti kj,.dicti kn]:=by
   intro ai
   induction ai with
   |nil =>
    intro done e kn bi bj bk hk nj bo;rw[Jj] at e;subst e;exact⟨trivial,hQ kn bi bj bk nj bo⟩
   |cons j ai ih =>
    intro done e kn bi bj bk hk nj bo;have I:JI (chars z) (chars D) ok alo blo bhi i (· ∈done) kn bi bj bk:=⟨nj,bo⟩
    have ih:∀kn bi bj bk,kn.length<=(done++[j]).length->JI (chars z) (chars D) ok alo blo bhi i (· ∈done++[j]) kn bi bj bk->_:=λkn bi bj bk h I=>ih (done++[j]) (by refine(e).symm▸?_;rw[I1];rfl) kn bi bj bk h I.nj I.bo;have hp:=e▸aT;rw[Q1,OA] at hp;have bb:j∈idxs:=e▸J0 _ (.head _);have S:=g.snd (F:=jd L n) hA (by rfl);refine⟨trivial,S.As (fH (S.Ss ?_))⟩;refine Br.mk (λh1=>?_) λh1=>?_
    ·have h1:j<blo:=Int.ofNat_lt.mp (of_decide_eq_true h1);exact⟨CE z D M H alo ahi blo bhi i bi bj bk,.of rfl,ih kn bi bj bk (IT hk (by rw[IL];exact Jc _ _)) (I.same (λn=>KC _) λn hn q ac=>(NP.mp hn).elim id λae=>absurd (OB.mp ae▸h1) (Nat.not_lt.mpr q))⟩
    have h1:blo<=j:=Nat.not_lt.mp λq=>of_decide_eq_false h1 (Int.ofNat_lt.mpr q);refine Br.mk (λh2=>?_) λh2=>?_
    ·have h2:bhi<=j:=Int.ofNat_le.mp (of_decide_eq_true h2);have I:=I.same (P':=(· ∈idxs)) (λn q=>e▸KC _ q) λn hn ac q=>(NP.mp (e▸hn)).elim id λae=>absurd q (Nat.not_lt.mpr ((Tq.mp ae).elim (λae=>ae▸h2) λae=>IT h2 (JU (hp.2.1.1 n ae))));exact⟨CE z D M H alo ahi blo bhi i bi bj bk,.of rfl,hQ kn bi bj bk I.nj I.bo⟩
    have h2:j<bhi:=Nat.not_le.mp λq=>of_decide_eq_false h2 (Int.ofNat_le.mpr q);have hR:=xk aZ h1 bn (bp j bb) (bv j bb);intro v ev;rw[hj j h1 h2] at ev;subst ev;generalize eR:c6 (chars z) (chars D) ok alo blo i j=ag at hR ⊢;obtain⟨l1,l2,_⟩:=iR (as:=chars z) (bs:=chars D) (ok:=ok) (alo:=alo) (blo:=blo) (i+1) (j+1);have more:=I.more h1 h2 aZ (λn hn=>hp.2.2 n hn j (.head _)) (v:=(ag:Int)+1) rfl (by refine(hR).symm▸?_;rfl);rw[hR] at l1 l2 more;have bc:∀v,(il kn (j:Int) v).length<=(done++[j]).length:=λv=>by
     rw[IL];exact IT (yD _ _ _) (Kf hk)
    refine⟨IT hk (IT (Jc _ (ai.length+1)) ((show done.length+(ai.length+1)=idxs.length from by rw[e,IL];rfl)▸JU hz)),Br.mk (λh3=>?_) λh3=>?_⟩
    ·exact⟨CE z D M H alo ahi blo bhi i (i+1-(ag+1):Nat) (j+1-(ag+1):Nat) (ag+1:Nat),(ip.of (l:=CE z D M H alo ahi blo bhi i ((i:Int)-((ag:Int)+1)+1) ((j:Int)-((ag:Int)+1)+1) ((ag:Int)+1)) rfl).is (by rw[qE (r:=(ag:Int)+1) (R:=ag+1) l1 rfl,qE (r:=(ag:Int)+1) (R:=ag+1) l2 rfl];rfl),ih _ _ _ _ (bc _) (more.1 (Int.ofNat_lt.mp (of_decide_eq_true h3)))⟩
    ·exact⟨CE z D M H alo ahi blo bhi i bi bj bk,.of rfl,ih _ _ _ _ (bc _) (more.2 λq=>of_decide_eq_false h3 (Int.ofNat_lt.mpr q))⟩
  have aG {G} (h:∀p∈G,∃ae,p.2=V.i ae) (m:Vm):O.vw m (.dicti G)=IK (.dicti G) :=
   congrArg (JZ O.dicti) (sq λp hp=>by obtain⟨ae,e⟩:=h p hp;refine(e).symm▸?_;rfl)
  have ao {as bs ok i bi bj bk} (bo:dI as bs ok alo blo (λe f=>alo<=e/\e<i/\blo<=f/\f<bhi) bi bj bk):dI as bs ok alo blo (Fh alo blo bhi i (· ∈([]:List Nat))) bi bj bk :=
   bo.congr (λe f q=>⟨q.2.2.1,q.2.2.2,q.1,.inl q.2.1⟩) λe f q=>.inl (q.2.2.2.elim (λae=>⟨q.2.2.1,ae,q.1,q.2.1⟩) λae=>absurd ae.2 Jf)
  have aF {as bs i} {idxs:List Nat} {x} (hx:as[i]?=IK x) (e5:∀j,bs[j]?=IK x->J x=false->j∈idxs) (j:Nat) (hj:j∉idxs):pairAt as bs (λs=> !J s) i j=false:=by
   cases hp:pairAt as bs (λs=> !J s) i j with
   |false=>rfl
   |true =>
    obtain⟨y,q1,q2,q3⟩:=cT.mp hp;cases hx.symm.trans q1;exact absurd (e5 j q2 (Bn q3)) hj
  intro n
  induction n with
  |zero =>
   intro i hi hn kj bi bj bk hj bo;have e:i=max alo ahi:=hn;rw[e] at bo;exact⟨trivial,hQ bi bj bk kj bo⟩
  |succ n ih =>
   intro i hi hn kj bi bj bk hj bo;have aI:i<ahi:=by
    have bu:max alo ahi=ahi:=by
     rcases QQ alo ahi with q | q
     ·exact JT q
     ·rw[SX q] at hn;exact fc 16 7 hn hi
    exact cO 16 8 hn bu
   have bq:i<(chars z).length:=IU (aI) w.ra;have hx:=IV bq;generalize (chars z)[i]=x at hx;refine(List.range'_succ).symm▸?_;have S:=g.snd (F:=jd L 6) hA (by rfl);refine⟨trivial,S.As (rL (S.Ss ?_))⟩;refine kg dict_int ?_;refine h9 rfl (S.E ⟨bx,dq rfl hx ?_⟩);intro v ev;refine IJ λzz=>?_;obtain⟨idxs,e1,e2,e3,e4,e5⟩:=b2.get x;refine zz ?_;rw[e1] at ev;subst ev;have aB:=aF (bs:=chars D) hx e5;refine⟨rfl,_,_,iG g.top hA cS,trivial,al g (kj:=kj) (ok:=λs=> !J s) (x:=x) (idxs:=idxs) hA hj hx hi (λj hj=>by refine((e4 j hj).2).symm▸?_;rfl) (λj hj=>(e4 j hj).1) e3 (JP e2 aU) (λkn bi bj bk nj bo=>?_) idxs [] rfl [] bi bj bk (IQ _)
    ⟨λj hj=>absurd hj Jf,λac ab=>rfl,λp hp=>absurd hp Jf⟩ (ao bo)⟩
   have aw {as bs ok alo blo bhi i bj bk} {idxs:List Nat} (bo:dI as bs ok alo blo (Fh alo blo bhi i (· ∈idxs)) bi bj bk) (aB:∀j,j∉idxs->pairAt as bs ok i j=false):dI as bs ok alo blo (λe f=>alo<=e/\e<i+1/\blo<=f/\f<bhi) bi bj bk:=by
    refine bo.congr (λe f q=>⟨q.2.2.1,q.2.2.2.elim JL λae=>Nat.lt_succ_of_le (Js ae.1),q.1,q.2.1⟩) λe f q=>?_;refine(Nat.lt_succ_iff_lt_or_eq.mp q.2.1).elim (λhe=>.inl ⟨q.2.2.1,q.2.2.2,q.1,.inl he⟩) λhe=>?_;by_cases hf:f∈idxs
    ·exact .inl ⟨q.2.2.1,q.2.2.2,q.1,.inr ⟨he,hf⟩⟩
    ·right
     rw[he,eC,if_neg (λae=>IW ((aB f hf).symm.trans ae.2.2))]
   have aV:∀h,h<6->([0,1,2,3,4,5,7]:List Nat)[h]?=IK h:=by decide
   refine⟨⟨[0,1,2,3,4,5,7],[]⟩,.next,zD z D M H alo ahi blo bhi bi bj bk,[.ns (zI fj Y z D M H),.inst 242 0,.dict G,.set l,.set Z,U,.dicti kn],⟨by decide,.vw rfl (mQ (ak.v _ rfl rfl) rfl rfl rfl) (.vw rfl rfl (.vw rfl (b2.vw _) (.vw rfl rfl (.vw rfl rfl (.vw rfl (ak.o _) (.vw rfl (aG nj.int _) trivial)))))),trivial,λh q ac=>aV h q⟩,rfl,Ak,.of rfl,(ih (i+1) (J2 hi) (by exact cO 9 23 hn)) kn bi bj bk (nj.next aB) (aw bo aB)⟩
 have av {as bs ok i j} (h:i<=alo):c6 as bs ok alo blo i j=0:=by
  cases i with
  |zero=>exact jx _
  |succ i =>
   cases j with
   |zero=>exact iz _
   |succ j=>rw[eC,if_neg (λq=>by exact b8 0 0 h q.1)]
 refine an g ak (by exact hA) w b2 w.za aU (λbi bj bk kj bo=>?_) (ahi-alo) alo (IQ _) (by refine(JT h1).symm▸?_;exact b8 6 16 h1) [] alo blo 0 (λj ac ab=>by refine(av (IQ _)).symm▸?_;rfl) (dI.start.congr (λe f q=>q.elim) λe f q=>by exact cO 16 13 q.2.1 q.1);rw[JT h1] at bo;have lg:=au bo;have aS:=lg.hi;rw[JT h1,JT h2] at aS;refine tg ⟨⟨[0,1,2,3,4,5],[]⟩,.next,hV z D M H alo ahi blo bhi bi bj bk,[.ns (zI fj Y z D M H),.inst 242 0,.dict G,.set l,.set Z,U],⟨by decide,.vw rfl (mQ (ak.v _ rfl rfl) rfl rfl rfl) (.vw rfl rfl (.vw rfl (b2.vw _) (.vw rfl rfl (.vw rfl rfl (.vw rfl (ak.o _) trivial))))),trivial,λh q ac=>qc h q⟩,rfl,Ak,.of rfl,?_⟩;generalize be:dZ (chars z) (chars D) (λs=> !J s) alo blo bi bj bk=z8;refine aW g (by exact hA) w (by exact b6 3 4 aS.1 (w.ra)) (by exact b6 3 4 aS.2 (w.rb)) be λi6 j6=>?_;generalize bf:eW (chars z) (chars D) (λs=> !J s) ahi bhi z8.1 z8.2.1 (ahi-(z8.1+z8.2.2)) z8.2.2=k9;refine aX g (by exact hA) w i6 j6 bf λi7 j7=>?_;generalize aQ:dZ (chars z) (chars D) J alo blo z8.1 z8.2.1 k9=aA;refine aM g (by exact hA) w i7 j7 aQ λi8 j8=>?_;generalize aR:eW (chars z) (chars D) J ahi bhi aA.1 aA.2.1 (ahi-(aA.1+aA.2.2)) aA.2.2=bz;refine aN g (by exact hA) w i8 j8 aR λi9 j9=>?_;have aj:Callee (.v (.ref 135)):=by
  obtain⟨mN,c,_⟩:=iD g;have aq {C N p f} (c:TupAt C N p f mN):Callee (.v (.ref C)):=.mach C λA s P i h=>by
   obtain⟨hh,g,d,t,os⟩:=s;obtain⟨nm,q,k0,k1,k2,k3,k5,dd,fr,hC,_⟩:=c.now i;dsimp only at hC;have t3:JQ (I6 W.prog W.w) hh (KG (.ref C) "__call__") (IK (.builtin "type.__call__")):=by
    refine(lR hC:JQ (I6 W.prog W.w) hh (LU (.ref C)) (.type "type")).andThen ?_;rw[Ri];exact .now
   repeat lk
   exact h
  exact aq c
 have ap {A st i j k} (hA:A.handled=none) (ah:A.depth+1<recursionLimit) (h:Q (mV 135 (i,j,k)) st):b5 A (.v (.ref 135)) [.i i,.i j,.i k] st Q:=by
  refine IJ λzz=>?_;obtain⟨mN,c,_⟩:=iD g;refine zz ?_;have ax:eH (cJ (cF 3 4)) .none [Bx,gJ,fP,uC]:=by
   have bl {af:Type} {l:List af} (h:l.length=4):∃a b c d,l=[a,b,c,d]:=by obtain⟨a,_,rfl,h1⟩:=xV h;obtain⟨b,c,d,rfl⟩:=zM h1;exact⟨a,b,c,d,rfl⟩
   rintro⟨⟩ ws e1 e2 e3 h;dsimp only at e1 e2 e3;subst e1 e2 e3;refine IJ λzz=>?_;obtain⟨a,b,c,d,rfl⟩:=bl h;refine zz ?_
   rfl
  have aH:FnAt 82 (IM "Match.__new__") (cJ (cF 3 4)) (a5 (cF 3 4)) (a6 (cF 3 4)) (.ref 81) (.none) :=
   g.fn (oc:=DJ) (dO 1 rfl) (by kernel_rfl) (dO 0 rfl) rfl ⟨_,_,rfl,rfl⟩ (by kernel_rfl) (by kernel_rfl)
  have aE {C N p f} (c:TupAt C N p f mN) {a b d} (h:b5 (made A) (.v (.ref f)) [.v (.ref C),a,b,d] st λv aO=>∃vs,v=.m C vs/\Q v aO):b5 A (.v (.ref C)) [a,b,d] st Q:=by
   intro σ s w ws hw aK i r;subst hw;obtain⟨v1,v2,v3,rfl,h1,h2,h3⟩:=yY aK;obtain⟨nm,q,k0,k1,k2,k3,k5,dd,fr,aY,ns,bC,bh,new,sm⟩:=c.now i;refine wV aY ns bC bh new sm ?_;rw[mc];have aC:=cH (X:=dY) i r (I8 s.toks);refine b0 (h σ {s with toks:=s.toks+1} (.ref f) [.ref C,v1,v2,v3] rfl ⟨_,_,rfl,rfl,cW.step ⟨_,_,rfl,h1,_,_,rfl,h2,_,_,rfl,h3,rfl⟩ r aC⟩ aC.inv aC.rel) λv s' σ' aO u x' hu q'=>?_;obtain⟨us,e,q'⟩:=q';have bw:=hu;subst e;obtain⟨a,items,m,rfl,hz,ho,hs,hv⟩:=hu;obtain⟨bF,bG,j0,j1,j2,j3,j5,bD,bE,aP,bB,bA,_⟩:=c;have e0:=i.old.get_of_cls aP λq=>Jo q;rw[aY] at e0;exact⟨a,_,rfl,ho,rfl,e0▸x'.inv.old.get_of_cls aP (λq=>Jo q),jP x'.inv.old bB bA,_,_,aC.trans x',_,bw,q'⟩
  refine aE c (dg (names:=[Bx,gJ,fP,uC]) g.top (aH) (by kernel_rfl) (by kernel_rfl) ah ax rfl (by kernel_rfl) λL=>?_).call;refine cD (lZ rfl (by rfl) (ti ?_));have S:=λn=>g.snd (A:=(made A).deeper (Kq (IM "Match.__new__") (a6 (cF 3 4)) L 82 (.ref 81))) (F:=⟨Kq (IM "Match.__new__") (a6 (cF 3 4)) L 82 (.ref 81),[],n⟩) (by exact hA) (by rfl);refine cD<|kL<|uR rfl (by rfl)<|(S _).E ⟨rfl,(S _).Es ?_⟩
  exact oR c ⟨_,rfl,h⟩
 refine⟨aj,ap (by exact hA) (by exact ah) ?_⟩;refine h (aA.1,aA.2.1,bz) ⟨bi,bj,bk,lg,?_⟩;unfold extend;dsimp only;rw[be,bf,aQ,aR]
end
section
variable {as bs:List Str}{p:Str->Bool}{alo ahi blo bhi:Nat}
theorem hO:∀(i j k:Nat),alo<=i->blo<=j->alo<=(dZ as bs p alo blo i j k).1/\blo<=(dZ as bs p alo blo i j k).2.1/\(dZ as bs p alo blo i j k).1+(dZ as bs p alo blo i j k).2.2=i+k/\(dZ as bs p alo blo i j k).2.1+(dZ as bs p alo blo i j k).2.2=j+k/\k<=(dZ as bs p alo blo i j k).2.2
 |0,j,k,a,c=>by exact⟨a,c,rfl,rfl,IQ _⟩
 |i+1,j,k,a,c=>by
  refine(hH ..).symm▸?_;by_cases h:alo<i+1/\blo<j/\pairAt as bs p i (j-1)=true
  ·rw[if_pos h];have:=hO i (j-1) (k+1) (by exact b8 1 5 h.1) (by exact b8 1 6 h.2.1);exact BX 1 7 h.2.1 this.1 this.2.1 this.2.2.1 this.2.2.2.1 this.2.2.2.2
  ·rw[if_neg h];exact⟨a,c,rfl,rfl,IQ _⟩
theorem hG(i j:Nat):∀(n k:Nat),i+k<=ahi->j+k<=bhi->k<=eW as bs p ahi bhi i j n k/\i+eW as bs p ahi bhi i j n k<=ahi/\j+eW as bs p ahi bhi i j n k<=bhi
 |0,k,a,c=>by exact⟨IQ _,a,c⟩
 |n+1,k,a,c=>by
  refine(hF ..).symm▸?_;by_cases h:i+k<ahi/\j+k<bhi/\pairAt as bs p (i+k) (j+k)=true
  ·rw[if_pos h];have:=hG i j n (k+1) (by exact b6 1 8 h.1) (by exact b6 1 8 h.2.1);exact qu 1 9 this.1 this.2.1 this.2.2
  ·rw[if_neg h];exact⟨IQ _,a,c⟩
end
theorem jD{as bs J alo ahi blo bhi z}(h:lF as bs J alo ahi blo bhi z)(g:alo<=ahi)(o:blo<=bhi):alo<=z.1/\z.1+z.2.2<=ahi/\blo<=z.2.1/\z.2.1+z.2.2<=bhi:=by
 refine IJ λq=>?_;obtain⟨i,j,k,d,rfl⟩:=h;refine q ?_;have hi:=d.hi;rw[JT g,JT o] at hi;unfold extend;dsimp only;have a:=hO (as:=as) (bs:=bs) (p:=λs=> !J s) (alo:=alo) (blo:=blo) i j k (d.run.1) (d.run.2.1);generalize dZ as bs (λs=> !J s) alo blo i j k=y at a ⊢;have c:=hG (as:=as) (bs:=bs) (p:=λs=> !J s) (ahi:=ahi) (bhi:=bhi) y.1 y.2.1 (ahi-(y.1+y.2.2)) y.2.2 (by exact b6 1 10 a.2.2.1 hi.1) (by exact b6 1 10 a.2.2.2.1 hi.2);generalize eW as bs (λs=> !J s) ahi bhi y.1 y.2.1 (ahi-(y.1+y.2.2)) y.2.2=f at c ⊢;have b3:=hO (as:=as) (bs:=bs) (p:=J) (alo:=alo) (blo:=blo) y.1 y.2.1 f a.1 a.2.1;generalize dZ as bs J alo blo y.1 y.2.1 f=x at b3 ⊢;have e:=hG (as:=as) (bs:=bs) (p:=J) (ahi:=ahi) (bhi:=bhi) x.1 x.2.1 (ahi-(x.1+x.2.2)) x.2.2 (by exact b6 1 10 b3.2.2.1 c.2.1) (by exact b6 1 10 b3.2.2.2.1 c.2.2);exact y8 1 11 b3.1 e.2.1 b3.2.1 e.2.2
inductive Tree(as bs:List Str)(J:Str->Bool):Nat->Nat->Nat->Nat->List (Nat×Nat×Nat)->Prop
 |leaf {alo ahi blo bhi i j:Nat} (h:lF as bs J alo ahi blo bhi (i,j,0)):Tree as bs J alo ahi blo bhi []
 |node {alo ahi blo bhi i j k:Nat} {L R:List (Nat×Nat×Nat)} (h:lF as bs J alo ahi blo bhi (i,j,k)) (hk:0<k) (hl:alo<i/\blo<j->Tree as bs J alo i blo j L) (hl':¬(alo<i/\blo<j)->L=[])
   (hr:i+k<ahi/\j+k<bhi->Tree as bs J (i+k) ahi (j+k) bhi R) (hr':¬(i+k<ahi/\j+k<bhi)->R=[]):Tree as bs J alo ahi blo bhi (L++(i,j,k)::R)
noncomputable def Behind(x y:Nat×Nat×Nat):Prop:=x.1+x.2.2<=y.1/\x.2.1+x.2.2<=y.2.1
structure Within(alo ahi blo bhi:Nat)(T:List (Nat×Nat×Nat)):Prop where
 ord:T.Pairwise Behind
 inn:∀x∈T,0<x.2.2/\alo<=x.1/\x.1+x.2.2<=ahi/\blo<=x.2.1/\x.2.1+x.2.2<=bhi
theorem Within.nil{alo ahi blo bhi}:Within alo ahi blo bhi []:=⟨.nil,λx h=>absurd h Jf⟩
theorem qD{as bs J alo ahi blo bhi T}(h:Tree as bs J alo ahi blo bhi T):alo<=ahi->blo<=bhi->Within alo ahi blo bhi T:=by
 induction h with
 |leaf h=>intro _ _;exact .nil
 |@node alo ahi blo bhi i j k L R h z A f B g o p =>
  intro v w;have b:=jD h v w;dsimp only at b;have r:Within alo i blo j L:=by
   by_cases q:alo<i/\blo<j
   ·exact o q (by exact b8 1 12 q.1) (by exact b8 1 12 q.2)
   ·refine(f q).symm▸?_;exact .nil
  have e:Within (i+k) ahi (j+k) bhi R:=by
   by_cases q:i+k<ahi/\j+k<bhi
   ·exact p q (by exact b8 1 12 q.1) (by exact b8 1 12 q.2)
   ·refine(g q).symm▸?_;exact .nil
  refine⟨?_,λx a=>?_⟩
  ·rw[Q1,OA];refine⟨r.ord,⟨λy c=>?_,e.ord⟩,λx a y c=>?_⟩
   ·have:=e.inn y c;unfold Behind;exact cO 1 13 this.2.1 this.2.2.2.1
   ·have d:=r.inn x a;rcases Tq.mp c with rfl | c
    ·unfold Behind;exact cO 1 13 d.2.2.1 d.2.2.2.2
    ·have u:=e.inn y c;unfold Behind;exact qu 1 14 u.2.1 u.2.2.2.1 d.2.2.1 d.2.2.2.2
  ·rcases NP.mp a with a | a
   ·have:=r.inn x a;exact Dp 1 15 b.2.1 b.2.2.2 this.1 this.2.1 this.2.2.1 this.2.2.2.1 this.2.2.2.2
   ·rcases Tq.mp a with rfl | a
    ·dsimp only;exact BX 1 16 z b.1 b.2.1 b.2.2.1 b.2.2.2
    ·have:=e.inn x a;exact Dp 1 17 b.1 b.2.2.1 this.1 this.2.1 this.2.2.1 this.2.2.2.1 this.2.2.2.2
inductive Fo(as bs:List Str)(J:Str->Bool):List (Nat×Nat×Nat×Nat)->List (Nat×Nat×Nat)->Prop
 |nil:Fo as bs J [] []
 |cons (q:Nat×Nat×Nat×Nat) (l:List (Nat×Nat×Nat×Nat)) (T R:List (Nat×Nat×Nat)) (t:Tree as bs J q.1 q.2.1 q.2.2.1 q.2.2.2 T) (f:Fo as bs J l R):Fo as bs J (q::l) (T++R)
inductive IH(as bs:List Str)(J:Str->Bool)(l m:List (Nat×Nat×Nat×Nat))(U:List (Nat×Nat×Nat)):Prop
 |mk (A B:List (Nat×Nat×Nat)) (e:A++B=U) (a:Fo as bs J l A) (b:Fo as bs J m B)
section
variable {as bs:List Str}{J:Str->Bool}{la lb i j k:Nat}{l m d:List (Nat×Nat×Nat×Nat)}{ms U A B T:List (Nat×Nat×Nat)}{q:Nat×Nat×Nat×Nat}
theorem Fo.split(f:Fo as bs J (l++m) U):IH as bs J l m U:=by
 induction l generalizing U with
 |nil=>exact⟨[],U,rfl,.nil,f⟩
 |cons q l c =>
  cases f with
  |cons Z L T R t f =>
   obtain⟨A,B,e,a,b⟩:=c f;exact⟨T++A,B,(I1 ..).trans (congrArg _ e),.cons _ _ _ _ t a,b⟩
theorem Fo.app(a:Fo as bs J l A)(b:Fo as bs J m B):Fo as bs J (l++m) (A++B):=by
 induction a with
 |nil=>exact b
 |cons q l T R t f c =>
  refine(I1 ..).symm▸?_;exact .cons _ _ _ _ t c
theorem Fo.one(t:Tree as bs J q.1 q.2.1 q.2.2.1 q.2.2.2 T):Fo as bs J [q] T:=by
 have f:=Fo.cons q [] T [] t .nil;rw[Jj] at f;exact f
set_option tactic.hygienic true in
theorem Fo.ite{c}[Decidable c](f:Fo as bs J (if c then [q] else []) U):(c->Tree as bs J q.1 q.2.1 q.2.2.1 q.2.2.2 U)/\(¬c->U=[]):=by
 split at f
 ·rename_i h
  cases f with
  |cons Z L T R t f =>
   cases f;refine(Jj ..).symm▸?_;exact⟨λZ=>t,λq=>absurd h q⟩
 ·rename_i h
  cases f;exact⟨λq=>absurd q h,λZ=>rfl⟩
structure G1(la lb:Nat)(q:Nat×Nat×Nat×Nat):Prop where
 a:q.1<=q.2.1
 b:q.2.1<=la
 c:q.2.2.1<=q.2.2.2
 d:q.2.2.2<=lb
inductive HS(as bs:List Str)(J:Str->Bool)(la lb:Nat)(ms:List (Nat×Nat×Nat)):Prop
 |mk (T:List (Nat×Nat×Nat)) (t:Tree as bs J 0 la 0 lb T) (p:T.Perm ms)
structure kP(as bs:List Str)(J:Str->Bool)(la lb:Nat)(queue:List (Nat×Nat×Nat×Nat))(ms:List (Nat×Nat×Nat)):Prop where
 bd:∀q∈queue,G1 la lb q
 tr:∀U,Fo as bs J queue U->HS as bs J la lb (ms++U)
theorem kP.start(as bs:List Str)(J:Str->Bool)(la lb:Nat):kP as bs J la lb [(0,la,0,lb)] []:=by
 refine⟨λq a=>?_,λU f=>?_⟩
 ·cases OB.mp a;exact⟨Ji _,IQ _,Ji _,IQ _⟩
 ·cases f with
  |cons Z L T R t f =>
   cases f;refine(Jj ..).symm▸?_;exact⟨T,t,.refl _⟩
theorem kP.done(h:kP as bs J la lb [] ms):HS as bs J la lb ms:=by
 have t:=h.tr [] .nil;rw[Jj] at t;exact t
theorem kP.EK(h:kP as bs J la lb (d++[q]) ms)(a:lF as bs J q.1 q.2.1 q.2.2.1 q.2.2.2 (i,j,0)):kP as bs J la lb d ms:=by
 refine⟨λr c=>h.bd r (KC _ c),λU f=>?_⟩;have t:=h.tr _ (f.app (.one (.leaf a)));rw[Jj] at t;exact t
noncomputable def f6(q:Nat×Nat×Nat×Nat)(i j:Nat):List (Nat×Nat×Nat×Nat):=if q.1<i/\q.2.2.1<j then [(q.1,i,q.2.2.1,j)] else []
noncomputable def eU(q:Nat×Nat×Nat×Nat)(i j k:Nat):List (Nat×Nat×Nat×Nat):=if i+k<q.2.1/\j+k<q.2.2.2 then [(i+k,q.2.1,j+k,q.2.2.2)] else []
set_option tactic.hygienic true in
theorem kP.found(h:kP as bs J la lb (d++[q]) ms)(u:lF as bs J q.1 q.2.1 q.2.2.1 q.2.2.2 (i,j,k))(y:0<k) :
  kP as bs J la lb (d++f6 q i j++eU q i j k) (ms++[(i,j,k)]):=by
 have o:=h.bd q (J0 _ (OB.mpr rfl));have b:=jD u o.a o.c;dsimp only at b;refine⟨λr g=>?_,λU f=>?_⟩
 ·rcases NP.mp g with g | g
  ·rcases NP.mp g with g | g
   ·exact h.bd r (KC _ g)
   ·unfold f6 at g
    split at g
    ·cases OB.mp g;exact⟨b.1,IT (IT (Jc i k) b.2.1) o.b,b.2.2.1,IT (IT (Jc j k) b.2.2.2) o.d⟩
    ·exact absurd g Jf
  ·unfold eU at g
   split at g
   ·rename_i c
    cases OB.mp g;exact⟨JU c.1,o.b,JU c.2,o.d⟩
   ·exact absurd g Jf
 ·obtain⟨X,R,e,f,fr⟩:=f.split;obtain⟨A,L,v,w,x⟩:=f.split;subst e;subst v;have l:=x.ite;have r:=fr.ite;obtain⟨T,t,p⟩:=h.tr _ (w.app (.one (.node u y l.1 l.2 r.1 r.2)));refine⟨T,t,p.trans ?_⟩;rw[I1 ms,I1 A,<-I1 A,<-I1 A];exact .append_left ms List.perm_middle
end
noncomputable def dB:List (Nat×Nat×Nat×Nat)->Nat
 |[]=>0
 |q::l=>2*(q.2.1-q.1)+1+dB l
mutual
theorem g6(l m:List (Nat×Nat×Nat×Nat)):dB (l++m)=dB l+dB m:=by
 induction l with
 |nil=>exact(JK _).symm
 |cons x l a=>show _+dB (l++m)=_+dB l+dB m;refine(a ..).symm▸?_;exact b6 0 6
theorem sH{q i j k}(c:q.1<=i)(d:i+k<=q.2.1)(e:0<k):dB (f6 q i j)+dB (eU q i j k)<dB [q]:=by
 have a:dB (f6 q i j)<=2*(i-q.1)+1:=by
  unfold f6
  split
  ·exact IQ _
  ·exact Ji _
 have b:dB (eU q i j k)<=2*(q.2.1-(i+k))+1:=by
  unfold eU
  split
  ·exact IQ _
  ·exact Ji _
 exact Gj a b c d e
end
noncomputable def cQ(st:(Nat×Nat×Nat)×List (Nat×Nat×Nat))(x:Nat×Nat×Nat):(Nat×Nat×Nat)×List (Nat×Nat×Nat) :=
 if st.1.1+st.1.2.2=x.1/\st.1.2.1+st.1.2.2=x.2.1 then((st.1.1,st.1.2.1,st.1.2.2+x.2.2),st.2)
 else(x,if st.1.2.2=0 then st.2 else st.2++[st.1])
noncomputable def cI(T:List (Nat×Nat×Nat))(la lb:Nat):List (Nat×Nat×Nat) :=
 let st:=T.foldl cQ ((0,0,0),[])
 (if st.1.2.2=0 then st.2 else st.2++[st.1])++[(la,lb,0)]
noncomputable def m8(L:Addr)(n:Nat):dH:=⟨Kq (IM "SequenceMatcher.get_matching_blocks") (a6 (cF 5 7)) L 203 (.ref 202),[],n⟩
noncomputable def oG(i:Nat):Stmt:=dh (a5 (cF 5 7)) i
noncomputable def qV(q:Nat×Nat×Nat×Nat):V:=.t [.i q.1,.i q.2.1,.i q.2.2.1,.i q.2.2.2]
noncomputable def m3(x:Nat×Nat×Nat):V:=mV 135 ((x.1:Int),(x.2.1:Int),(x.2.2:Int))
noncomputable def EC(x:Nat×Nat×Nat):Int×Int×Int:=((x.1:Int),(x.2.1:Int),(x.2.2:Int))
noncomputable def m7(la lb:Nat):Lc:=[(eV,.r 1),((⟨⟨[108,98]⟩⟩:Str),.i lb),((⟨⟨[108,97]⟩⟩:Str),.i la),((⟨⟨[113,117,101,117,101]⟩⟩:Str),.r 6),(jS,.r 7)]
theorem Cf(l:List (Nat×Nat×Nat×Nat)):l.length<=dB l:=by
 induction l with
 |nil=>exact IQ _
 |cons q l a=>show l.length+1<=2*(q.2.1-q.1)+1+dB l;exact cO 16 14 a
section
variable {A:Around}{r o:Str}{D C:Nat}{J:Str->Bool}{l E:List Str}{kvs:List (Str×V)}{G:Value}{B:V}{z:O}
noncomputable abbrev mq(G:Value)(c B:V)(r o:Str)(D C:Nat)(kvs:List (Str×V))(l E:List Str)(z:O)(a:St):St:=.ns (qw (.v G) (.s r D) (.s o C) (.b true) c B .n (.r 2) (.r 3) (.r 4))::.inst 242 0::.dict kvs::.set l::.set E::z::a
theorem kr.up{bs J kvs}(b:kr bs J kvs)(u:Nat->Nat):wB u kvs=kvs :=
 (Kn λp a=>by obtain⟨vs,e⟩:=b.vals p a;refine(e).symm▸?_;exact Prod.ext rfl e.symm).trans (N7 _)
mutual
theorem Ig(a:tT B z)(c:kr (chars o) J kvs){rest}:nU ⟨[0,1,2,3,4,5],[]⟩ 0 (mq G .n B r o D C kvs l E z rest) (mq G .n B r o D C kvs l E z []) :=
 ⟨by decide,.vw rfl (mQ (a.v _ rfl rfl) rfl rfl rfl) (.vw rfl rfl (.vw rfl (c.vw _) (.vw rfl rfl (.vw rfl rfl (.vw rfl (a.o _) trivial))))),trivial,λh q Z=>absurd q (I4 _)⟩
theorem ES(a:tT B z)(c:kr (chars o) J kvs){o6 o7}:fJ [0,1,2,3,4,5] (mq G .n B r o D C kvs l E z [o6,o7]) (mq G .n B r o D C kvs l E z [])=mq G .n B r o D C kvs l E z [o6,o7]:=by
 show[O.ns (qw (.v G) (.s r D) (.s o C) (.b true) .n (B.up (jK [0,1,2,3,4,5] 6 8)) .n (.r 2) (.r 3) (.r 4)),.inst 242 0,.dict (wB (jK [0,1,2,3,4,5] 6 8) kvs),.set l,.set E,z.up (jK [0,1,2,3,4,5] 6 8),o6,o7]=_;refine((a.up (jK [0,1,2,3,4,5] 6 8) rfl)).symm▸?_;refine((a.oup (jK [0,1,2,3,4,5] 6 8))).symm▸?_;exact((c.up (jK [0,1,2,3,4,5] 6 8))).symm▸rfl
end
noncomputable abbrev zZ(G:Value)(B:V)(r o:Str)(D C:Nat)(kvs:List (Str×V))(l E:List Str)(z:O)(qs:List (Nat×Nat×Nat×Nat))(ms:List (Nat×Nat×Nat)):St:=mq G .n B r o D C kvs l E z [.list (qs.map qV),.list (ms.map m3)]
theorem CH{G B r o D C kvs l E z X X' Y Y'}(e:X=X')(a:Y=Y'):mq G .n B r o D C kvs l E z [.list X,.list Y]=mq G .n B r o D C kvs l E z [.list X',.list Y']:=e▸a▸rfl
section
variable {c a:Type}(f:c->a)(l:List c)(x y:c)
theorem Ef:l.map f++[f x]=(l++[]++[x]).map f:=by rw[Jj,Jb];rfl
theorem xR:l.map f=(l++[]++[]).map f:=by rw[Jj,Jj]
end
inductive GQ(xa xb:Str)(J:Str->Bool)(la lb:Nat)(f:List (Nat×Nat×Nat×Nat)->List (Nat×Nat×Nat)->St)(n:Nat)(lc:Lc)(st:St):Prop
 |mk (qs:List (Nat×Nat×Nat×Nat)) (ms:List (Nat×Nat×Nat)) (hn:n=dB qs) (inv:kP (chars xa) (chars xb) J la lb qs ms) (size:ms.length+dB qs<=2*la+1) (hl:lc=m7 la lb) (hs:st=f qs ms)
theorem vW(g:Gd)(ah:tT B z){Q L n pos}(hA:A.handled=none)(ai:A.depth+2<recursionLimit)(w:sj r o J l (chars r).length (chars o).length)(b2:kr (chars o) J kvs)(af:2*(chars r).length+2<=sizeLine)(ao:(chars o).length<sizeLine)(hQ:∀T ms,Tree (chars r) (chars o) J 0 (chars r).length 0 (chars o).length T->T.Perm ms->Q .next (m7 (chars r).length (chars o).length) (zZ G B r o D C kvs l E z [] ms)){qs ms}(aa:kP (chars r) (chars o) J (chars r).length (chars o).length qs ms)(size:ms.length+dB qs<=2*(chars r).length+1) :
  eG A (m8 L n) (.While (gZ (oG 5)) (l8 (oG 5)) [] pos) (m7 (chars r).length (chars o).length) (zZ G B r o D C kvs l E z qs ms) Q:=by
 have ae {H M:Type} (f:H->M) (l:List H) (x:H):l.map f++[f x]=(l++[x]++[]).map f:=by rw[Jj,Jb];rfl
 have aj {H M:Type} (f:H->M) (l:List H) (x y:H):l.map f++[f x]++[f y]=(l++[x]++[y]).map f:=by rw[Jb,Jb];rfl
 refine IJ λzz=>?_;obtain⟨mM,cM,_,_,_,an⟩:=iD g;refine zz ?_;refine gb (GQ r o J (chars r).length (chars o).length (zZ G B r o D C kvs l E z)) (λk lc st I=>?_) _ ⟨qs,ms,rfl,aa,size,rfl,rfl⟩;obtain⟨qs,ms,rfl,aa,size,rfl,rfl⟩:=I;have S:=g.snd (F:=m8 L n) hA (by rfl);refine S.T ?_;rcases QT qs with rfl | ⟨P,q,e⟩
 ·refine Br.mk (λq=>IW q) λZ=>?_;obtain⟨T,h1,h2⟩:=aa.done;exact hQ T ms h1 h2
 rw[QU] at e;subst e;have Y:=aa.bd q (J0 _ (OB.mpr rfl));have ac:dB (P++[q])=dB P+dB [q]:=g6 ..;refine Br.mk (λZ=>?_) λu=>absurd u (by simp);refine fH (S.Ss ?_);refine yL g.top (vs:=P.map qV) (v:=qV q) (congrArg (λl=>IK (O.list l)) (by refine(Jb).trans ?_;rfl)) ?_;refine ib ⟨[0,1,2,3,4,5],[]⟩ rfl (Ig ah b2) rfl rfl (yP g ah hA ai {w with ra:=Y.b,rb:=Y.d} b2 (by exact b8 16 15 af) ao Y.a Y.c λ⟨i,j,k⟩ hz=>⟨m3 (i,j,k),_,rfl,ES ah b2,?_⟩);have ag:=jD hz Y.a Y.c;dsimp only at ag;refine fS rfl (sr cM an hA) rfl (S.Av ?_);refine Br.mk (λhk=>?_) λhk=>?_
 rotate_left
 ·have hk:k=0:=by
   have:=of_decide_eq_false (p:=(k:Int)≠0) (by simpa using hk);exact ec 9 6 this
  subst hk;exact⟨m7 _ _,.of rfl,dB P,by rw[ac];exact Ll (by exact b8 16 16),P,ms,rfl,aa.EK hz,by exact fc 16 17 size ac,rfl,rfl⟩
 have al:0<k:=RI λe=>by subst e;exact IW hk
 have am:=aa.found hz al;have less:=sH (q:=q) (i:=i) (j:=j) (k:=k) ag.1 ag.2.1 al;have U:ms.length+P.length+1<sizeLine:=by
  have:1<=dB [q]:=by exact b6 16 18
  exact y8 16 19 af size ac less (Cf P)
 have R:∀ {X:List V} c d,f6 q i j=c->eU q i j k=d->X=(P++c++d).map qV->HR (GQ r o J (chars r).length (chars o).length (zZ G B r o D C kvs l E z)) (dB (P++[q])) (m7 (chars r).length (chars o).length) (mq G .n B r o D C kvs l E z [.list X,.list (ms.map m3++[m3 (i,j,k)])]):=by
  intro X c d e1 e2 e3;subst e1 e2;have e:dB (P++f6 q i j++eU q i j k)=dB P+dB (f6 q i j)+dB (eU q i j k):=by rw[g6,g6]
  have ak {H M:Type} (f:H->M) (l:List H) (x:H):l.map f++[f x]=(l++[x]).map f:=by refine J3 ?_ (Jb).symm;rfl
  refine⟨dB (P++f6 q i j++eU q i j k),by exact ja 16 20 less e ac,_,_,rfl,am,?_,rfl,CH e3 (ak m3 ms (i,j,k))⟩;rw[IL];exact y8 16 21 less size ac e
 have L1:q.1<i->q.2.2.1<j->f6 q i j=[(q.1,i,q.2.2.1,j)]:=λa b=>if_pos ⟨a,b⟩;have L0:¬(q.1<i/\q.2.2.1<j)->f6 q i j=[]:=λa=>if_neg a;have R1:i+k<q.2.1->j+k<q.2.2.2->eU q i j k=[(i+k,q.2.1,j+k,q.2.2.2)]:=λa b=>if_pos ⟨a,b⟩;have R0:¬(i+k<q.2.1/\j+k<q.2.2.2)->eU q i j k=[]:=λa=>if_neg a;have lt:∀ {a b:Nat},decide ((a:Int)<(b:Int))=true->a<b:=λh=>Int.ofNat_lt.mp (of_decide_eq_true h);have ab:∀ {a b:Nat},decide ((a:Int)<(b:Int))=false->¬a<b:=λh q=>of_decide_eq_false h (Int.ofNat_lt.mpr q);refine⟨by rw[IZ];exact cO 16 22 U,Br.mk (λc1=>Br.mk (λc2=>?_) λc2=>?_) λc1=>?_⟩
 ·refine⟨by rw[IZ];exact cO 16 23 U,Br.mk (λd1=>Br.mk (λd2=>⟨?_,m7 _ _,.of rfl,R _ _ (L1 (lt c1) (lt c2)) (R1 (lt d1) (lt d2)) (aj qV P (q.1,i,q.2.2.1,j) (i+k,q.2.1,j+k,q.2.2.2))⟩) λd2=>⟨m7 _ _,.of rfl,R _ _ (L1 (lt c1) (lt c2)) (R0 λu=>ab d2 u.2) (ae qV P (q.1,i,q.2.2.1,j))⟩) λd1=>⟨m7 _ _,.of rfl,R _ _ (L1 (lt c1) (lt c2)) (R0 λu=>ab d1 u.1) (ae qV P (q.1,i,q.2.2.1,j))⟩⟩;rw[IL,IZ];exact JP (by exact b6 17 0) U
 all_goals
  refine Br.mk (λd1=>Br.mk (λd2=>⟨by rw[IZ];exact cO 16 23 U,m7 _ _,.of rfl,R [] _ (L0 λu=>?_) (R1 (lt d1) (lt d2)) (Ef qV P (i+k,q.2.1,j+k,q.2.2.2))⟩) λd2=>⟨m7 _ _,.of rfl,R [] _ (L0 λu=>?_) (R0 λu=>ab d2 u.2) (xR qV P)⟩) λd1=>⟨m7 _ _,.of rfl,R [] _ (L0 λu=>?_) (R0 λu=>ab d1 u.1) (xR qV P)⟩
  all_goals first | exact ab c2 u.2 | exact ab c1 u.1
end
noncomputable def b3(x:Nat×Nat×Nat):V:=.t [.i x.1,.i x.2.1,.i x.2.2]
theorem fk{c:Type}{f}(h:∀x (σ:Sg) n s w,RV σ n s (f x) w->RV σ 0 s (f x) w)(l:List c):iM (l.map f):=by
 induction l with
 |nil=>exact λZ L D i=>id
 |cons x l g=>exact λσ n s ws q=>q.casesOn λw d e a b=>⟨w,d,e,h x σ n s w a,g σ n s d b⟩
theorem uq(l:List (Nat×Nat×Nat)):iM (l.map m3):=fk (f:=m3) (λZ L D c a q=>q) l
noncomputable abbrev xQ(la lb:Nat)(ts:List (Nat×Nat×Nat))(c:Nat×Nat×Nat):Lc:=[(eV,.r 1),((⟨⟨[108,98]⟩⟩:Str),.i lb),((⟨⟨[108,97]⟩⟩:Str),.i la),(jS,.l (ts.map m3)),((⟨⟨[105,49]⟩⟩:Str),.i c.1),((⟨⟨[106,49]⟩⟩:Str),.i c.2.1),((⟨⟨[107,49]⟩⟩:Str),.i c.2.2),((⟨⟨[110,111,110,95,97,100,106,97,99,101,110,116]⟩⟩:Str),.r 6)]
theorem mZ{a b:Nat}:((a:Int) == (b:Int))=decide (a=b):=by
 rw[K9,beq_iff_eq,decide_eq_true_iff];exact b8 9 5
section
variable {A:Around}{c a:Str}{e d:Nat}{J:Str->Bool}{l g:List Str}{h:List (Str×V)}{i:Value}{j:V}{f:O}
end
theorem n6:∀ {l m:List (Int×Int×Int)},l.Perm m->(l.map (·.1)).Pairwise (· < ·)->(m.map (·.1)).Pairwise (· < ·)->l=m
 |[],m,p,Z,L=>(List.nil_perm.mp p).symm
 |a::l,[],p,Z,L=>absurd (List.perm_nil.mp p) (by simp)
 |a::l,b::m,p,c,d=>by
  rw[JJ,OA] at c d;have f:a∈b::m:=p.mem_iff.mp (Je ..);have g:b∈a::l:=p.mem_iff.mpr (Je ..);have e:a=b:=by
   rcases Tq.mp f with e | f
   ·exact e
   ·rcases Tq.mp g with e | g
    ·exact e.symm
    ·exact absurd (QW (d.1 a.1 (Le f)) (c.1 b.1 (Le g))) (Int.lt_irrefl _)
  subst e;exact(n6 (List.perm_cons a |>.mp p) c.2 d.2).symm▸rfl
section
variable {A:Around}{st:St}{Q:V->St->Prop}
noncomputable def BK(v:V):V:=match v with
 |.c Z items=>.c (.cls 135) items
 |v=>v
theorem vY(a b:List Stmt)(env:Env):OH (a++b) env=(OH a env >>= λf=>match f with | .next=>OH b env | f=>pure f):=by
 induction a with
 |nil=>exact(pure_bind _ _).symm
 |cons c a d =>
  rw[Pb,execs_cons,execs_cons,bind_assoc];refine congrArg _ (funext λf=>?_);cases f with
  |next=>exact d
  |_=>exact(pure_bind _ _).symm
end
section
variable {A:Around}{F:dH}{Q:Fl->Lc->St->Prop}
noncomputable def DE(A:Around)(F:dH)(l:List Stmt)(Q:Fl->Lc->St->Prop)(f:Fl)(lc:Lc)(st:St):Prop:=match f with
 |.next=>cK A F l lc st Q
 |f=>Q f lc st
theorem c7(k:Nat){l lc st}(h:cK A F (l.take k) lc st (DE A F (l.drop k) Q)):cK A F l lc st Q:=by
 intro σ s p;refine(Mr k l)▸?_;rw[vY];refine II (dX (h σ s p) λf s₁ c d e g a fr i q=>?_);cases g with
 |next=>cases i;exact iU a (q c s₁ ⟨a.inv,a.rel,fr⟩)
 |brk=>cases i;exact IP ⟨c,d,e,a,fr,.brk,rfl,q⟩
 |cont=>cases i;exact IP ⟨c,d,e,a,fr,.cont,rfl,q⟩
 |ret v=>obtain⟨w,rfl,hw⟩:=i;exact IP ⟨c,d,e,a,fr,.ret v,⟨w,rfl,hw⟩,q⟩
end
mutual
theorem HM:([0,1,2,3,4,5]:List Nat).Nodup:=by decide
theorem BB{m bl bl' co co' fj xa xb ta tb}(a:V.vw m bl=IK bl')(h:V.vw m co=IK co')(c:V.vw m (.r 2)=IK (.r 2))(d:V.vw m (.r 3)=IK (.r 3))(e:V.vw m (.r 4)=IK (.r 4)) :
  O.vw m (.ns (qw (.v fj) (.s xa ta) (.s xb tb) (.b true) bl co .n (.r 2) (.r 3) (.r 4)))=IK (.ns (qw (.v fj) (.s xa ta) (.s xb tb) (.b true) bl' co' .n (.r 2) (.r 3) (.r 4))) :=
 congrArg (JZ O.ns) (a9 rfl<|a9 rfl<|a9 rfl<|a9 rfl<|a9 a<|a9 h<|a9 rfl<|a9 c<|a9 d<|a9 e rfl)
end
section
variable {A:Around}{B z:Str}{Z U:Nat}{J:Str->Bool}{l l4:List Str}{D:List (Str×V)}{fj:Value}{H:V}{G:O}{Q:V->St->Prop}
theorem yO(g:Gd)(aY:tT H G)(hA:A.handled=none)(ak:A.depth+5<recursionLimit)(hu:A.units+6<cLine)(w:sj B z J l (chars B).length (chars z).length)(b2:kr (chars z) J D)(bD:2*(chars B).length+4<=sizeLine)(cf:(chars z).length<sizeLine)(aw:∀T,Tree (chars B) (chars z) J 0 (chars B).length 0 (chars z).length T->T.length<62)(h:∀T,Tree (chars B) (chars z) J 0 (chars B).length 0 (chars z).length T->Q (.l ((cI T (chars B).length (chars z).length).map m3)) (mq fj (.l ((cI T (chars B).length (chars z).length).map m3)) H B z Z U D l l4 G [])) :
  b5 A (.v (.ref 203)) [.r 1] (mq fj .n H B z Z U D l l4 G []) Q:=by
 have aB {A Q L n la lb ts all} (hA:A.handled=none) (hz:ts.length+2<=sizeLine) (hQ:∀na ai,(ai,na)=ts.foldl cQ ((0,0,0),[])->na.length<=ts.length->Q .next (xQ la lb all ai) (mq fj .n H B z Z U D l l4 G [.list (na.map b3)])) :
   ∀(af done:List (Nat×Nat×Nat)),ts=done++af->∀na ai,(ai,na)=done.foldl cQ ((0,0,0),[])->na.length<=done.length ->
    dG (λac=>True) (dN A (m8 L n) (fu (oG 9))) (cK A (m8 L n) (c9 (oG 9))) Q (af.map m3) (xQ la lb all ai) (mq fj .n H B z Z U D l l4 G [.list (na.map b3)]):=by
  refine IJ λzz=>?_;obtain⟨mM,cM,_,_,_,aZ⟩:=iD g;refine zz ?_;intro af
  induction af with
  |nil =>
   intro done e na ai hf hl;rw[Jj] at e;subst e;exact⟨trivial,hQ na ai hf hl⟩
  |cons ae af ih =>
   intro done e na ai hf hl;obtain⟨i2,j2,k2⟩:=ae;have ih:∀na ai o,o=O.list (na.map b3)->(ai,na)=(done++[(i2,j2,k2)]).foldl cQ ((0,0,0),[])->na.length<=(done++[(i2,j2,k2)]).length->dG (λac=>True) (dN A (m8 L n) (fu (oG 9))) (cK A (m8 L n) (c9 (oG 9))) Q (af.map m3) (xQ la lb all ai) (mq fj .n H B z Z U D l l4 G [o]):=λna ai o eo=>eo▸ih (done++[(i2,j2,k2)]) (by refine(e).symm▸?_;rw[I1];rfl) na ai;have aw:done.length+(af.length+1)=ts.length:=by rw[e,IL];rfl
   have hd:(done++[(i2,j2,k2)]).length=done.length+1:=IL ..;obtain⟨i1,j1,k1⟩:=ai;have S:=g.snd (F:=m8 L n) hA (by rfl);have step:∀r,r=cQ ((i1,j1,k1),na) (i2,j2,k2)->r=(done++[(i2,j2,k2)]).foldl cQ ((0,0,0),[]):=λr er=>by refine(OS).symm▸?_;refine(hf)▸?_;exact er
   have bi : ¬(i1+k1=i2/\j1+k1=j2)->∀aE,aE=(if k1=0 then na else na++[(i1,j1,k1)])->((i2,j2,k2),aE)=(done++[(i2,j2,k2)]).foldl cQ ((0,0,0),[]):=λh aE e=>step _ (by unfold cQ;refine(if_neg h).symm▸?_;exact congrArg _ (e));refine⟨trivial,fS rfl (sr cM aZ hA) rfl (S.Av (fH (S.Ss ?_)))⟩;have nz:((k1:Int) != 0)=false->k1=0:=λh=>by
    have:=of_decide_eq_false (p:=(k1:Int)≠0) (by simpa using h);exact ec 9 6 this
   have bz:∀ {a b c:Nat},((a:Int)+(b:Int) == (c:Int))=true->a+b=c:=λh=>of_decide_eq_true (mZ.symm.trans h);have bj:∀ {a b c:Nat},((a:Int)+(b:Int) == (c:Int))=false->¬a+b=c:=λh=>of_decide_eq_false (mZ.symm.trans h);refine Br.mk (λc1=>Br.mk (λc2=>?_) λc2=>Br.mk (λc3=>?_) λc3=>?_) λc1=>Br.mk (λc3=>?_) λc3=>?_
   ·exact⟨xQ la lb all (i1,j1,k1+k2),.of rfl,ih na _ _ rfl (step _ (by unfold cQ;rw[if_pos ⟨bz c1,bz c2⟩])) (by exact cO 9 7 hd hl)⟩
   ·exact⟨by rw[IZ];exact fc 9 8 hz aw hl,xQ la lb all (i2,j2,k2),.of rfl,ih (na++[(i1,j1,k1)]) _ _ (by rw[Jb];rfl) (bi (λq=>bj c2 q.2) _ (if_neg λe=>by subst e;exact IW c3).symm) (by refine(IL).symm▸?_;rw[hd];exact Kf hl)⟩
   ·exact⟨xQ la lb all (i2,j2,k2),.of rfl,ih na _ _ rfl (bi (λq=>bj c2 q.2) _ (if_pos (nz c3)).symm) (by exact cO 9 7 hd hl)⟩
   ·exact⟨by rw[IZ];exact fc 9 8 hz aw hl,xQ la lb all (i2,j2,k2),.of rfl,ih (na++[(i1,j1,k1)]) _ _ (by refine(Jb).symm▸?_;rfl) (bi (λq=>bj c1 q.1) _ (if_neg λe=>by subst e;exact IW c3).symm) (by refine(IL).symm▸?_;refine(hd).symm▸?_;exact Kf hl)⟩
   ·exact⟨xQ la lb all (i2,j2,k2),.of rfl,ih na _ _ rfl (bi (λq=>bj c1 q.1) _ (if_pos (nz c3)).symm) (by exact cO 9 7 hd hl)⟩
 have ah {alo ahi blo bhi T} (w:Within alo ahi blo bhi T):((T.map EC).map (·.1)).Pairwise (· < ·):=by
  rw[JB,RM];refine w.ord.imp_of_mem λ{x y} hx hy bJ=>?_;have:=(w.inn x hx).1;unfold Behind at bJ;exact cO 9 9 bJ.1 this
 have aU {A L ts na bl la lb c Q} (hA:A.handled=none) (ak:A.depth+4<recursionLimit) (hz:na.length<64) (hb:na++[(la,lb,0)]=bl) (h:∀lc o,Q (.ret (.r 7)) lc (mq fj (.r 7) H B z Z U D l l4 G [o,.list (bl.map m3)])) :
   cK A (m8 L 6) ((a5 (cF 5 7)).drop 11) (xQ la lb ts c) (mq fj .n H B z Z U D l l4 G [.list (na.map b3)]) Q:=by
  have az {A F lc st Q ln mn fe le p0 p1 p2 p3} (ax:cB) (hA:A.handled=none) (hl:∀Q':V->St->Prop,Q' (.g .list) st->c8 A F (.Name ln p0) lc st Q') (hm:∀Q':V->St->Prop,Q' (.g .map) st->c8 A F (.Name mn p1) lc st Q') (bZ:cN fe=true) (ca:cN le=true) (h:c8 A F fe lc st λf al=>c8 A F le lc al λc st₂=>C4 A.in1.in1.in1 f c st₂ λvs=>Q (.r st₂.length) (st₂++[.list vs])) :
    c8 A F (.Call (.Name ln p0) [.Call (.Name mn p1) [fe,le] [] p2] [] p3) lc st Q:=by
   intro σ s p;refine MH (b0 (hl (λv al=>v=.g .list/\al=st) ⟨rfl,rfl⟩ σ s p) λw s₁ bx al v bq hv e=>?_);obtain⟨rfl,rfl⟩:=e;subst hv;have bp:=p.step bq;refine(da p3 F.env (es:=[.Call (.Name mn p1) [fe,le] [] p2]) rfl).symm▸?_;refine KP (any_false _ _) (N1 (Ox ?_));refine MH (b0 (hm (λv st₂=>v=.g .map/\st₂=al) ⟨rfl,rfl⟩ bx s₁ bp) λcu cq cj st₂ ct aG bw e=>?_);obtain⟨rfl,rfl⟩:=e;subst bw;refine(da p2 F.env (es:=[fe,le]) (by simp [bZ,ca])).symm▸?_;refine KP (any_false _ _) (eB (Q:=λus aC=>EX (λf c=>C4 A.in1.in1.in1 f c aC λvs=>Q (.r aC.length) (aC++[.list vs])) us) (args_cons (h.mono λf al q=>args_cons (q.mono λc st₂ q=>args_nil ⟨f,c,q⟩))) (bp.step aG) λws cr cm aC us bg cd q=>?_);obtain⟨f,c,q⟩:=q;obtain⟨fw,cw,rfl,hf,hc⟩:=jr cd;have ar {A st Q} (T:cB) (hA:A.handled=none) {σ s c fw cw prest} (i:Inv s) (r:Rel σ st s) (hf:RV σ st.length s f fw) (hc:RV σ st.length s c cw) (k:C4 A.in1.in1.in1 f c st λvs=>Q (.r st.length) (st++[.list vs])) (hP:∀m s₁,Jd (I6 W.prog W.w) A (call (.type "list") [m]) (PV σ st s Q) (λac aa=>False) s₁->prest m s₁):Jd (I6 W.prog W.w) A (call (.type "map") [fw,cw]) prest (λac aa=>False) s:=by
    obtain⟨vs,g,bh,I,q⟩:=k;obtain⟨l,ws,j,rfl,ho,bk⟩:=I.la σ st s cw hc I.hd r;have aA {prog w E s M T Q} (hM:s.heap.get? M=IK (jA T fw)) (h:∀h2 j,h2.get? s.heap.objs.size=IK (tO #[] j)->(∀b o,s.heap.get? b=IK o->h2.get? b=IK o)->s.heap.objs.size<=h2.objs.size->M6 (I6 prog w) A.in1 (.builtin "list.extend.loop" ⟨[.ref s.heap.objs.size,.ref M,.none],[]⟩) (Sl (λr s'=>r=.none/\Q (.ref s.heap.objs.size) s') E) {s with heap:=h2}):Jd (I6 prog w) A (call (.type "list") [.ref M]) Q E s:=by
     have aO {A s P} (hM:s.heap.get? M=IK (jA T fw)) (h:P (.ref M) s):Jd (I6 prog w) A (Mm (.ref M)) P E s:=by
      have hT:s.TypeIs (.ref M) "map":=⟨_,hM,rfl⟩
      have aq (a:Value):NI "map.__iter__" ⟨[a],[]⟩:=by kernel_rfl
      have am:Nh QE "map.__iter__"=IK Builtin.«dict_keyiterator.__iter__» :=
       QN (id':="dict_keyiterator.__iter__") (by kernel_rfl) (by first | rfl | decide +kernel | (unfold String.splitOn;simp +decide [String.splitOnAux])) (by decide +kernel) (by kernel_rfl)
      have ag:T9 "map" "__iter__" "map.__iter__" :=
       .of (owner:="map") (n:="__iter__") (by rw[Jz,Jh];kernel_rfl) (by decide +kernel) (by decide +kernel) (by decide +kernel)
        (by first | exact .inl (by decide +kernel) | exact .inr (by decide +kernel)) (by rw[J6];kernel_rfl)
      exact Py hT ag (JG ag hT am (IP ⟨_,rfl,"map",_,hT,ef.lookup,h⟩) (aq _))
     refine UN (Q₁:=λobj s₁=>obj=.ref s.heap.objs.size/\s₁={s with heap:=s.heap.push {cls:=.type "list",data:=.seq #[]}}) PySem.F.called_list (PySem.F.typeCall_list_1 _) PySem.F.entry_list_init
      (Vb _ ⟨rfl,rfl⟩) λobj s₁ bK=>?_
     obtain⟨rfl,rfl⟩:=bK;have hS:(s.heap.push {cls:=.type "list",data:=.seq #[]}).get? s.heap.objs.size=IK {cls:=.type "list",data:=.seq #[]}:=I0 _ rfl;refine⟨⟨_,hS,rfl⟩,PySem.F.args_list_init_2 _ _,?_⟩;refine II (m:=Pf (.ref s.heap.objs.size)) (II (JS hS rfl (IP ?_)));refine II (m:=updateSeq s.heap.objs.size (λac=>#[])) (KW hS rfl ?_);refine II (Nx ?_);have aK:=Jv (JR (λac=>(#[]:Array Value))) hS rfl;have ne:∀ {b o},s.heap.get? b=IK o->b≠s.heap.objs.size:=λq=>Jw (Ja q);have k1:∀b o,s.heap.get? b=IK o->((s.heap.push {cls:=.type "list",data:=.seq #[]}).update s.heap.objs.size (JR (λac=>(#[]:Array Value)))).get? b=IK o:=λb o q=>(J5 _ _ (ne q).symm).trans (IS _ q);have z1:s.heap.objs.size<=((s.heap.push {cls:=.type "list",data:=.seq #[]}).update s.heap.objs.size (JR (λac=>(#[]:Array Value)))).objs.size:=by rw[Mv,I7];exact I8 _
     generalize (s.heap.push {cls:=.type "list",data:=.seq #[]}).update s.heap.objs.size (JR (λac=>(#[]:Array Value)))=h1 at aK k1 z1 ⊢;have bu:(⟨h1,s.gens,s.drawn,s.toks,s.os⟩:IY).TypeIs (.ref M) "map":=⟨_,k1 _ _ hM,rfl⟩
     refine II (Px bu ?_);refine wpAny_ite_false (by refine((show LC (.ref s.heap.objs.size) (.ref M)=false from by simp [LC,((ne hM).symm:¬s.heap.objs.size=M)])).symm▸?_;rfl) ?_;refine II (aO (A:=A.in1.in1) (k1 _ _ hM) (II (I9 ?_)));refine II (Ld bu sS ?_);refine II (m:=KG (Jy M) (IM "__length_hint__")) (Ld bu rh (IP ?_));refine UD (by rfl) ?_;refine II (Li ?_);refine II (m:=Pe (.ref s.heap.objs.size)) (II (m:=updateSeq s.heap.objs.size (·.push .none)) (KW aK rfl ?_));have aX:=Jv (JR (·.push Lp)) aK rfl;refine KW (hz:=by seq_fits) aX rfl ?_;refine IP ⟨MP LM _,h _ _ (Jv (JR (·.pop)) aX rfl) (λb o q=>?_) ?_⟩
     ·exact(J5 _ _ (ne q).symm).trans ((J5 _ _ (ne q).symm).trans (k1 b o q))
     ·rw[Mv,Mv];exact z1
    have bd {prog w E ws Q} (bU:s.heap.IsList l ws) (h:∀ab,E9 s.heap.objs.size l fw s.heap ab->Q (.ref (s.heap.objs.size+2)) {s with heap:=ab}):Jd (I6 prog w) A (call (.type "map") [fw,.ref l]) Q E s:=by
     have as:Nh QE "map.__new__"=IK Builtin.«map.__new__»:=MK (by kernel_rfl);have ao (a b:Value):checkTypeCall "map" ⟨[a,b],[]⟩=pure ():=by kernel_rfl
     have au (a b:Value):NY "map.__new__" ⟨[.type "map",a,b],[]⟩=pure ():=by kernel_rfl
     have aP (f:Value) (items:Array Value) :
       Meets (Builtin.«map.__new__» ⟨[.type "map",f,.ref l],[]⟩) (λac R s=>s.heap.IsList l items/\R (.ok (.ret (.ref ((s.heap.push (iF l)).push (sx s.heap.objs.size)).objs.size))) {s with heap:=((s.heap.push (iF l)).push (sx s.heap.objs.size)).push (jA (s.heap.push (iF l)).objs.size f)}) :=
      .of_wp λprog w A R s h=>by
       obtain⟨hp,g,d,tk,os⟩:=s;obtain⟨hl,h⟩:=h;dsimp only at hl;have be:Mq (.type "map") (.type "map")=pure true:=by rw[J6];kernel_rfl
       have cp:=be;have p1:∀(P:Value->IY->Prop),P (.ref hp.objs.size) ⟨hp.push (iF l),g,d,tk,os⟩->Jd (I6 prog w) A.in1 (Mm (.ref l)) P (λe s'=>R (.error e) s') ⟨hp,g,d,tk,os⟩:=λP h=>Nv hl h
       wp_walk using p1
       exact⟨_,rfl,h⟩
     have bL (h:Heap):E9 h.objs.size l fw h (((h.push (iF l)).push (sx h.objs.size)).push (jA (h.objs.size+1) fw)):=by
      have av {h:Heap} {o n} (e:h.objs.size=n) (hf:o.isFreed=false):(h.push o).get? n=IK o:=e▸I0 h hf;have e1:(h.push (iF l)).objs.size=h.objs.size+1:=I7 ..;have e2:((h.push (iF l)).push (sx h.objs.size)).objs.size=h.objs.size+2:=(I7 ..).trans (congrArg (· + 1) e1);exact⟨(I7 ..).trans (congrArg (· + 1) e2),IS _ (IS _ (av rfl rfl)),IS _ (av e1 rfl),av e2 rfl,λb o q=>IS _ (IS _ (IS _ q))⟩
     have e1:(s.heap.push (iF l)).objs.size=s.heap.objs.size+1:=I7 ..;have aD:TypeCalled "map" "map.__new__" "object.__init__" :=
      have an:JE (.type "map") "__new__"=pure (IK (.builtin "map.__new__")):=by rw[Jz,Jh];kernel_rfl
      ⟨by decide +kernel,by decide +kernel,⟨_,_,uG⟩,madeBy_type uG an (by decide +kernel),by decide +kernel,by rw[J6];kernel_rfl,nN⟩
     refine callType_new aD (by decide) (ao _ _) (au _ _) (λobj=>PySem.F.args_object_init_3 obj _ _) as (aP fw ws) ⟨bU,?_⟩;refine(((I7 ..).trans (congrArg (· + 1) e1):((s.heap.push (iF l)).push (sx s.heap.objs.size)).objs.size=s.heap.objs.size+2)).symm▸?_;refine(e1).symm▸?_;have m:=bL s.heap;exact⟨⟨_,m.g3,rfl⟩,h _ m⟩
    refine bd (ws:=ws) ⟨_,ho,rfl,j,rfl⟩ λab m=>hP _ _ (aA m.g3 λh2 j hS k2 z2=>?_);have lt:∀ {b o},ab.get? b=IK o->b≠ab.objs.size:=λe=>Jw (Ja e);have kk:∀b o,s.heap.get? b=IK o->h2.get? b=IK o:=λb o e=>k2 b o (m.keep b o e);have zH:s.heap.objs.size<=ab.objs.size:=m.size▸Jc _ 3;have ci:cC (λb=>b=s.heap.objs.size∨b=ab.objs.size) σ st s σ st {s with heap:=h2}:=dQ (k:=s.toks) i r kk (IT zH z2) (IQ _);have aF:Step σ st s σ st {s with heap:=h2}:=dQ (k:=s.toks) i r kk (IT zH z2) (IQ _);have off:∀b,s.heap.objs.size<=b->Off σ st.length b:=λb hb=>⟨λae=>I2 _ (IU (r.zlt b ae) hb),λh q e=>I2 _ (IU (r.lt q) (e▸hb))⟩
    have aV {A} {f c:V} {vs:List V} {g:V->V} {st:St} {σ₀:Sg} {s₀:IY} {LI S T M l:Addr} {fw:Value} {R:Result->IY->Prop} (ax:cB) (hA:A.handled=none) (I:Aw A.in1.in1 f c vs g bh st) (TL:T≠LI) (ML:M≠LI) (SL:S≠LI) (TS:T≠S) (MS:M≠S) (aL:W.h₁.objs.size<=LI) (cb:W.h₁.objs.size<=S) (bO:Value) (hR:∀σ s' aj j,cC (λb=>b=LI∨b=S) σ₀ st s₀ σ st s'->Off σ st.length S->s'.heap.get? S=IK (tO aj j)->aj.size=vs.length->cW σ st.length s' (vs.map g) aj.toList->R (.ok (.ret bO)) s') :
      ∀(n k:Nat),k+n=vs.length->∀σ s aj j,Dj f c vs g st σ₀ s₀ LI S T M l fw σ k s->s.heap.get? S=IK (tO aj j)->cW σ st.length s ((vs.take k).map g) aj.toList->M6 (I6 W.prog W.w) A (.builtin "list.extend.loop" ⟨[.ref S,.ref M,bO],[]⟩) R s:=by
     have aW {A f c vs g bh st σ₀ σ s₀ s LI S T M l k} (hA:A.handled=none) (I:Aw A.in1 f c vs g bh st) (m:Dj f c vs g st σ₀ s₀ LI S T M l fw σ k s) (aL:W.h₁.objs.size<=LI) (TL:T≠LI) (ML:M≠LI) (ax:cB) {v} (hk:vs[k]?=IK v) {P} (hP:∀x s' σ',cC (· =LI) σ st s σ' st s'->s'.heap.IsListIter LI l (k+1)->RV σ' st.length s' (g v) x->P (IK x) s'):Wp A (Lj (.ref M)) P s:=by
      refine IJ λzz=>?_;obtain⟨l',ws,j,e,ho,bk⟩:=I.la σ st s _ m.hc I.hd m.step.rel;refine zz ?_;cases e;obtain⟨x,hx,ce⟩:=bk.get hk;have bI:ws[k]?=IK x:=by refine(Ju)▸?_;exact hx
      have bT:l≠LI:=λe=>by
       obtain⟨oi,aM,hc,_⟩:=m.it;have aM:=(e).symm▸aM;have aM:=ho▸aM;cases aM;exact Jo hc λe=>absurd e (by decide)
      have hM:=m.hM;refine II (Ko (JH (name:=IM "__next__") (T:="map") ⟨_,hM,rfl⟩ ef (JG ef (T:="map") ⟨_,hM,rfl⟩ iH ?_ (jq _))));show Jd _ _ (Qh (.ref M) 0 >>= _) _ _ s;refine II (Ks hM rfl (x:=.ref T) rfl ?_);refine II (JS (m.hT) rfl ?_);refine II ?_;rw[List.forIn_toArray,NR];refine II (II (I9 (iq ((Ue (prog:=W.prog) (w:=W.w) (A:=A.in1) hA LI l bT ws).item k s _ _ (Array.getElem?_eq_some_iff.mp bI).1 ⟨m.it,(⟨_,ho,rfl,j,rfl⟩:s.heap.IsList l ws)⟩ λy h' tk hy bv aN cc=>?_))));replace hy:=bI▸hy;cases hy;refine IP (IP ?_);refine IJ λzz=>?_;obtain⟨cA,cn,_⟩:=id m.it;refine zz ?_;have sb:JW LI s.heap h':=by first | exact aN | exact aN.sameBut | exact Heap.sameBut_of aN
      have aF:cC (· =LI) σ st s σ st {s with heap:=h',toks:=tk}:=fU ax m.step.inv m.step.rel aL rfl m.oL.1 m.oL.2 sb cc;have ap:Apart (· =LI) σ st.length:=λb hz=>⟨λq=>m.oL.1 (q▸hz),m.step.rel.zoff b hz⟩
      refine II (Ks (s:={s with heap:=h',toks:=tk}) (sb.extBut M _ ML hM:h'.get? M=IK (jA T fw)) rfl (x:=fw) rfl ?_);refine II (I9 ?_);refine I5 (I.hf v (IX hk) σ {s with heap:=h',toks:=tk} fw [x] (RV.mono aF.x ap _ _ m.hf) ⟨x,[],rfl,RV.mono aF.x ap _ _ ce,rfl⟩ aF.inv aF.rel) (λu s' aQ=>?_) λac aa e=>e.elim;obtain⟨σ',bn,aG,y,hy,q⟩:=aQ;refine IJ λzz=>?_;obtain⟨rfl,rfl⟩:=q;refine zz ?_;refine II (Nx ?_);refine IP ⟨_,rfl,IP ?_⟩;refine IJ λzz=>?_;obtain⟨oi,aM,r1,r2⟩:=bv.1;refine zz ?_;exact hP u s' σ' (aF.trans aG.iQ) ⟨oi,aG.x.keep LI _ aM (b9 r1) m.oL.2 (λe=>e),r1,r2⟩ hy
     have bc {A σ s} (hA:A.handled=none) (I:Aw A.in1 f c vs g bh st) (m:Dj f c vs g st σ₀ s₀ LI S T M l fw σ vs.length s) (aL:W.h₁.objs.size<=LI) (ax:cB) {P} (hP:∀s',cC (· =LI) σ st s σ st s'->P none s'):Wp A (Lj (.ref M)) P s:=by
      have ba {prog w A E s LI k ws P} (hA:A.handled=none) (aZ:s.heap.IsListIter LI l k) (hl:s.heap.IsList l ws) (hk:ws[k]?=none) (hE:∀h' e,MC LI s.heap h'->(∃o,h'.get? LI=IK o/\o.cls=.type "list_iterator")->(∃o,h'.get? e=IK o/\o.cls=.type "StopIteration")->E (.ref e) {s with heap:=h'}):Jd (I6 prog w) A (KL (.ref LI)) P E s:=by
       refine IJ λzz=>?_;obtain⟨o,ho,hc,hd⟩:=id aZ;obtain⟨ol,bX,cx,nl,bP⟩:=hl;refine zz ?_;have hT:s.TypeIs (.ref LI) "list_iterator":=⟨o,ho,hc⟩
       refine II (JH (name:=IM "__next__") hT Tb (JG Tb hT entry_listiter_next ?_ (args_listiter_next _)));show Jd _ _ (Qh (.ref LI) 0 >>= _) _ _ s;refine II (Ks ho hd (x:=.ref l) rfl ?_);show Jd _ _ (if false=true then _ else _) _ _ s;refine(if_neg Kw).symm▸?_;refine II (Ks ho hd (x:=.int k 0) rfl ?_);refine II (JS bX bP ?_);dsimp only[JD];rw[hk];refine II (Li (II (K7 ho hd (by simp) ?_)));refine II ?_;refine II (JN ?_ (by size_fits));refine II (m:=KR _ _) (Mo (a:=Lp) (by first | rfl | (simp only[KR];rfl)) ?_);refine JN ?_ (by size_fits);refine II (NF ?_);refine(show A.in1.handled=none from hA).symm▸?_;refine II (IP (OD ?_));refine hE _ _ (((Jx ..).extBut.push _).push _) ⟨_,IS _ (IS _ (Jv _ ho (N0 (M3 hd _)))),(R4 ..).trans hc⟩ ⟨_,I0 _ rfl,rfl⟩
      obtain⟨l',ws,j,e,ho,bk⟩:=I.la σ st s _ m.hc I.hd m.step.rel;cases e;have hz:ws[vs.length]?=none:=by
       refine(Ju)▸?_;rw[List.getElem?_eq_none_iff];refine(bk.len).symm▸?_;exact IQ _
      have hM:=m.hM;refine cG ?_;refine II (Ko (JH (name:=IM "__next__") (T:="map") ⟨_,hM,rfl⟩ ef (JG ef (T:="map") ⟨_,hM,rfl⟩ iH ?_ (jq _))));show Jd _ _ (Qh (.ref M) 0 >>= _) _ _ s;refine II (Ks hM rfl (x:=.ref T) rfl ?_);refine II (JS (m.hT) rfl ?_);refine II ?_;refine II (II (I9 (ba (A:=A.in1) hA m.it (⟨_,ho,rfl,j,rfl⟩:s.heap.IsList l ws) hz λh' e he cz aQ=>?_)));obtain⟨oe,bQ,bR⟩:=aQ;refine II (Lu (s:={s with heap:=h'}) (T:="StopIteration") (b:=true) ⟨oe,bQ,bR⟩ Mw ?_);rw[if_pos rfl];refine IP λbS=>?_;exact hP _ (dJ ax m.step.inv m.step.rel aL rfl m.oL (λb o bW hb=>he b o bW hb) bS (IQ _))
     intro n
     induction n with
     |zero =>
      intro k hk σ s aj j m hS ha;have e:k=vs.length:=hk;subst e;have ha:=Nk▸ha;refine LF MY ?_;rw[K6 LM _];refine II (I5 (bc (A:=A.in1) (P:=λr s'=>r=none/\cC (· =LI) σ st s σ st s') hA I m aL ax λs' x=>⟨rfl,x⟩) (λr s' aQ=>?_) λac aa e=>e.elim);obtain⟨e,x⟩:=aQ;subst e;have ap:Apart (· =LI) σ st.length:=λb hz=>⟨λq=>m.oL.1 (q▸hz),m.step.rel.zoff b hz⟩
      refine IP (hR σ s' aj j (m.step.trans (x.wk λb hb=>.inl hb)) m.oS (x.x.keep S _ hS (b9 rfl) m.oS.2 SL) ?_ (cW.mono x.x ap ha));refine(I3)▸?_;rw[ha.len,IZ]
     |succ n ih =>
      intro k hk σ s aj j m hS ha;have aR:k<vs.length:=by refine(hk)▸?_;exact Ll (OZ n)
      have hv:=IV aR;have hsz:aj.size=k:=by refine(I3)▸?_;refine J3 (ha.len ..) ?_;refine J3 (IZ ..) ?_;refine J3 (Jq ..) ?_;exact PQ (JU aR)
      refine LF MY ?_;rw[K6 LM _];show Jd _ A.in1 (Lj (.ref M) >>= _) _ _ s;refine II (I5 (aW (A:=A.in1) (P:=λr s'=>∃x σ',r=IK x/\cC (· =LI) σ st s σ' st s'/\s'.heap.IsListIter LI l (k+1)/\RV σ' st.length s' (g vs[k]) x) hA I m aL TL ML ax hv λx s' σ' a b d=>⟨x,σ',rfl,a,b,d⟩) (λr s' aQ=>?_) λac aa e=>e.elim);obtain⟨x,σ',e,y,it,hy⟩:=aQ;subst e;have bs:=y.x.keep S _ hS (b9 rfl) m.oS.2 SL;have m':=m.go y (λb=>.inl) ⟨_,hS⟩ TL ML TS MS it;refine II ?_;have hz:=I.hz;refine KW bs rfl (IP ⟨MP LM _,?_⟩) (by refine(hsz).symm▸?_;exact IT (JU aR) hz) (by show(aj.push x).size<=sizeLine+1;refine(L3 ..).symm▸?_;refine(hsz).symm▸?_;exact Kf (IT (JU aR) hz));have y2:cC (· =S) σ' st s' σ' st {s' with heap:=s'.heap.update S (JR (·.push x))}:=fU ax y.inv y.rel cb rfl m'.oS.1 m'.oS.2 (Jx ..:JW S s'.heap (s'.heap.update S (JR (·.push x)))) (IQ _);refine ih (k+1) (by refine(hk)▸?_;rw[KA,NO 1 n]) σ' _ (aj.push x) _ (m'.go y2 (λb=>.inr) ⟨_,bs⟩ TL ML TS MS ?_) (Jv _ bs rfl) ?_
      ·obtain⟨o,ho,r⟩:=it;exact⟨o,(J5 _ _ SL).trans ho,r⟩
      ·rw[Ly,OR,hv,Jb];exact cW.mono y2.x (λb hz=>⟨λq=>m'.oS.1 (q▸hz),y.rel.zoff b hz⟩:Apart (· =S) σ' st.length) (cW.app (us:=[g vs[k]]) ⟨x,[],rfl,hy,rfl⟩ (cW.mono y.x (λb hz=>⟨λq=>m.oL.1 (q▸hz),m.step.rel.zoff b hz⟩:Apart (· =LI) σ st.length) ha))
    refine aV (A:=A.in1) (σ₀:=σ) (s₀:=s) (LI:=s.heap.objs.size) (S:=ab.objs.size) (T:=s.heap.objs.size+1) (M:=s.heap.objs.size+2) (l:=l) T hA I (My _) (NL (Ll (by decide))) (lt m.g1).symm (lt m.g2) (lt m.g3) i.size (IT i.size zH) .none (λσ' s' aj c' x oS bo bC bB=>?_) vs.length 0 (JK _) σ {s with heap:=h2} #[] j
     ⟨ci,off _ (IQ _),off _ zH,off _ (Jc _ _),off _ (Jc _ _),⟨iF l,k2 _ _ m.g1,rfl,rfl⟩,k2 _ _ m.g2,k2 _ _ m.g3,hf.step r aF,hc.step r aF⟩ hS rfl
    refine⟨rfl,?_⟩;exact⟨_,_,(g0 (b:=ab.objs.size) (o:=.list (vs.map g)) (x.fresh (Y:=dY) λb hb=>.inr (hb.elim (λe=>e▸IQ _) λe=>e▸zH)) zH (Ja bo) (IT i.size zH) oS (λk=>⟨aj,c',bo,by refine(bC).symm▸?_;exact I.hz,k bB⟩) λac aa zy q=>O.noConfusion q),.r st.length,⟨by rw[IL];exact Jg _,congrArg Jy (if_pos rfl).symm⟩,q⟩
   exact ar ax hA bg.inv bg.rel hf hc q λm cs h=>OL (I5 h (λw s' p=>p.casesOn λσ' bn y v hv q=>⟨σ',bn,(bq.trans aG).trans (bg.trans y),v,hv,q⟩) λac aa e=>e)
  have aH {st Q C N p f mN} (c:TupAt C N p f mN) {pm fm dd af} (hv:mN "_make"=IK (.ref pm)) (hp:W.h₁.get? pm=IK {cls:=.type "classmethod",dict:=dd,data:=.fields (.ref fm::af).toArray}) (h:Q (.o (Rm (.ref fm) (.ref C))) st):iN A (.v (.ref C)) "_make" st Q:=by
   have bf:JE (.type "type") "_make"=pure none:=by rw[Jz,Jh];kernel_rfl
   have ay:JE (.type "classmethod") "__get__"=pure (IK (.builtin "classmethod.__get__")):=by rw[Jz,Jh];kernel_rfl
   intro σ s w hw i r;subst hw;obtain⟨nm,q,k0,k1,k2,k3,k5,cv,fr,hC,hn,bv,_⟩:=c.now i;have bG:=i.old.get_of_cls hp λq=>Jo q;refine ke (T:="classmethod") (id:="classmethod.__get__") (o:={cls:=.type "classmethod",dict:=dd,data:=.fields (.ref fm::af).toArray}) hC hn bv hv bG rfl ay (y:=none) (by rw[Jz,Jh];kernel_rfl) bf (λa e=>by cases e) rfl (by decide) ?_;have hX:T2 ([(pm,{cls:=.type "classmethod",dict:=dd,data:=.fields (.ref fm::af).toArray})]:Frag) s.heap:=by
    intro a' o' e;rw[Jn] at e;cases ea:a' == pm with
    |true=>replace e:=ea▸e;cases e;rw[eq_of_beq ea];exact bG
    |false=>have e:=ea▸e;cases e
   have bH:recIn ([(pm,{cls:=.type "classmethod",dict:=dd,data:=.fields (.ref fm::af).toArray})]:Frag) pm "classmethod"=IK (.ref fm::af):=by
    unfold recIn;rw[Jn,beq_self_eq_true];dsimp only;exact(if_pos (by decide))
   refine KD (cm_get (s:={s with toks:=s.toks+1}) hX bH (handed_on rfl ?_));exact⟨_,_,(fg (X:=dY) (b:=s.heap.objs.size) (h':=s.heap.push (Rm (.ref fm) (.ref C))) (k:=s.toks+1) i r (IQ _) (by rw[I7];exact Jg _) (λc ae hc=>IS _ hc) (I8 _)),.o (Rm (.ref fm) (.ref C)),⟨_,rfl,.inr rfl,I0 _ rfl,.inl λq=>Jo q⟩,h⟩
  have aJ {A st Q x} (hA:A.handled=none) (ak:A.depth<recursionLimit) (h:Q (m3 x) st):jv A 89 [.v (.ref 135),b3 x] st Q:=by
   refine IJ λzz=>?_;obtain⟨mN,c,_,_,aw,_⟩:=iD g;refine zz ?_;have aI:eH (cJ (cF 3 5)) .none [(⟨⟨[99,108,115]⟩⟩:Str),Bw]:=by
    rintro⟨⟩ ws e1 e2 e3 h;dsimp only at e1 e2 e3;subst e1 e2 e3;obtain⟨a,b,rfl⟩:=pX h
    rfl
   have bb:FnAt 89 (IM "Match._make") (cJ (cF 3 5)) (a5 (cF 3 5)) (a6 (cF 3 5)) (.ref 88) (.none) :=
    g.fn (oc:=DI) (dO 3 rfl) (by kernel_rfl) (dO 2 rfl) rfl ⟨_,_,rfl,rfl⟩ (by kernel_rfl) (by kernel_rfl)
   refine dg (names:=[(⟨⟨[99,108,115]⟩⟩:Str),Bw]) g.top (bb) (by kernel_rfl) (by kernel_rfl) ak aI rfl (by kernel_rfl) λL=>?_;have S:=λn=>g.snd (A:=A.deeper (Kq (IM "Match._make") (a6 (cF 3 5)) L 89 (.ref 88))) (F:=⟨Kq (IM "Match._make") (a6 (cF 3 5)) L 89 (.ref 88),[],n⟩) (by exact hA) (by rfl);refine cD (lZ rfl (by rfl) (ti ?_));refine cD<|gc rfl (g8 rfl) rfl<|uR rfl (by rfl)<|(S _).E ⟨rfl,(S _).Es ?_⟩
   refine oR c ((S _).As ((S _).Ss ?_));refine Cw c aw ?_;refine Br.mk (λq=>IW q) λac=>?_;exact h
  refine IJ λzz=>?_;obtain⟨mM,cM,bF,bE,bV,aZ⟩:=iD g;refine zz ?_;have S:=g.snd (F:=m8 L 6) hA (by rfl);have bA:64<sizeLine:=by decide
  refine cD (S.S ⟨by rw[IZ];exact b6 9 10 hz bA,?_⟩);refine cD<|gc rfl (g8 rfl) rfl<|az g.top hA (λQ' q=>S.E q) (λQ' q=>S.E q) rfl rfl<|S.E ?_
  refine aH cM bF (g.fields (o:=DH) (dO 4 rfl) (λf q=>JO q)) ?_;refine S.E ⟨na.map b3++[b3 (la,lb,0)],BK,_,⟨cY,rfl,?_,λv hv=>?_⟩,?_⟩
  ·rw[IL,IZ];exact b6 9 11 hz bA
  ·have hv:v∈(na++[(la,lb,0)]).map b3:=by rw[Jb];exact hv
   refine IJ λzz=>?_;obtain⟨x,_,rfl⟩:=Qz.mp hv;refine zz ?_;exact r0 (aJ (by exact hA) (by exact b6 9 12 ak) ⟨rfl,rfl⟩)
  ·have e:(na.map b3++[b3 (la,lb,0)]).map BK=bl.map m3:=by refine(hb)▸?_;rw[Jb,Jb,JB];rfl
   refine(e).symm▸?_;exact S.As (S.Ss (h _ _))
 refine IJ λzz=>?_;obtain⟨mM,cM,bF,bE,bV,aZ⟩:=iD g;refine zz ?_;have aT:eH (cJ (cF 5 7)) .none [eV]:=by
  rintro⟨⟩ ws e1 e2 e3 h;dsimp only at e1 e2 e3;subst e1 e2 e3;obtain⟨a,rfl⟩:=sV h
  rfl
 refine iZ ((dg (names:=[eV]) g.top (CI g) (by kernel_rfl) (by kernel_rfl) (by exact b6 9 12 ak) aT rfl (by kernel_rfl) λL=>?_).call);have S:=g.snd (A:=A.deeper (Kq (IM "SequenceMatcher.get_matching_blocks") (a6 (cF 5 7)) L 203 (.ref 202))) (F:=m8 L 6) (by exact hA) (by rfl);refine c7 11 (S.Ss ?_);refine Br.mk (λq=>IW q) λac=>?_;refine⟨w.za,w.zb,?_⟩;refine(eN B)▸?_;refine(eN z)▸?_;refine vW g aY (by exact hA) (by exact b8 9 13 ak) w b2 (by exact b8 9 14 bD) cf (λT ms hT hp=>?_) (qs:=[(0,(chars B).length,0,(chars z).length)]) (ms:=[]) (kP.start ..) (by exact b8 9 15);have wi:=qD hT (Ji _) (Ji _);have aS:=aw T hT;refine wc g.top cM bE (ns:=ms.map EC) (by exact b8 9 16 hu) (congrArg (λl=>IK (O.list l)) (by refine J3 ?_ (JB).symm;rfl)) ?_ (by rw[IZ];refine(hp.length_eq)▸?_;exact ec 9 17 aS) λch bY hs=>?_
 ·refine((hp.map EC).map (·.1)).nodup_iff.mp ?_;exact(ah wi).imp λh=>Int.ne_of_lt h
 have eT:ch=T.map EC:=n6 (bY.trans (hp.map EC).symm) hs (ah wi);subst eT;generalize aL:(chars B).length=la at *;generalize cy:(chars z).length=lb at *;have bm:∀h,h<6->([0,1,2,3,4,5,8]:List Nat)[h]?=IK h:=by decide
 have bN:7∉([0,1,2,3,4,5,8]:List Nat):=by decide
 have bM:([0,1,2,3,4,5,8]:List Nat).Nodup:=by decide
 refine tg ⟨⟨[0,1,2,3,4,5,8],[(7,T.map m3)]⟩,.next,xQ la lb T (0,0,0),mq fj .n H B z Z U D l l4 G [.list []],⟨bM,.vw rfl (mQ (aY.v _ rfl rfl) rfl rfl rfl) (.vw rfl rfl (.vw rfl (b2.vw _) (.vw rfl rfl (.vw rfl rfl (.vw rfl (aY.o _) (.vw rfl rfl trivial)))))),⟨⟨I8 6,bN,congrArg (λl=>IK (O.list l)) (by refine(JB).trans ?_;rfl),uq T⟩,trivial⟩,λh q ac=>bm h q⟩,rfl,Ak,.of rfl,?_⟩;refine h9 rfl (S.E ⟨rfl,_,_,iG g.top (by exact hA) cS,trivial,?_⟩);refine aB (ts:=T) (by exact hA) (by exact b8 9 18 (by decide:64<sizeLine) aS) (λna ai hf hl=>?_) T [] rfl [] (0,0,0) rfl (IQ _);obtain⟨i1,j1,k1⟩:=ai;have cg:7∉([0,1,2,3,4,5]:List Nat):=by decide
 have fin:∀aE,aE.length<=T.length+1->aE++[(la,lb,0)]=cI T la lb->∀o,o=O.list (aE.map b3)->cK (A.deeper (Kq (IM "SequenceMatcher.get_matching_blocks") (a6 (cF 5 7)) L 203 (.ref 202))) (m8 L 6) ((a5 (cF 5 7)).drop 11) (xQ la lb T (i1,j1,k1)) (mq fj .n H B z Z U D l l4 G [o]) (λfl ac bn=>GW 6 Q (sF fl) bn):=λaE h1 h2 o eo=>eo ▸
  aU (by exact hA) (by assumption) (by exact b8 9 19 aS h1) h2 λlc o=>⟨⟨[0,1,2,3,4,5],[(7,(cI T la lb).map m3)]⟩,.l ((cI T la lb).map m3),mq fj (.l ((cI T la lb).map m3)) H B z Z U D l l4 G [],⟨HM,.vw rfl (BB rfl (aY.v _ rfl rfl) rfl rfl rfl) (.vw rfl rfl (.vw rfl (b2.vw _) (.vw rfl rfl (.vw rfl rfl (.vw rfl (aY.o _) trivial))))),⟨⟨I8 6,cg,rfl,uq _⟩,trivial⟩,λh q ac=>qc h q⟩,rfl,h T hT⟩
 refine Br.mk (λhk=>⟨by rw[IZ];exact b6 9 20 (by decide:64<sizeLine) aS hl,fin (na++[(i1,j1,k1)]) (by refine(IL).symm▸?_;exact Kf hl) ?_ _ (by rw[Jb];rfl)⟩) λhk=>fin na (J2 hl) ?_ _ rfl
 ·unfold cI;rw[<-hf];dsimp only;rw[if_neg (λe=>by subst e;exact IW hk)]
 ·unfold cI;rw[<-hf];dsimp only;rw[if_pos];have:=of_decide_eq_false (p:=(k1:Int)≠0) (by simpa using hk);exact ec 9 6 this
end
noncomputable def oQ(L:Addr)(n:Nat):dH:=⟨Kq (IM "SequenceMatcher.__chain_b") (a6 (cF 5 5)) L 188 (.ref 187),[],n⟩
noncomputable def qp(i:Nat):Stmt:=dh (a5 (cF 5 5)) i
noncomputable def qe(s:Stmt):List Stmt:=(y9 s).2.2.1
structure zh(bs:List Str)(n:Nat)(kvs:List (Str×V))(LL:List (List Nat)):Prop where
 len:LL.length=n
 nd:(kvs.map (·.1)).Nodup
 val:∀k v,cR kvs k=IK v->∃i,v=.r (i+6)/\LL[i]?=IK (d4 bs k n)
 inj:∀k k' v,cR kvs k=IK v->cR kvs k'=IK v->k=k'
 key:∀x,cR kvs x=none↔¬ ∃i,i<n/\bs[i]?=IK x
 size:kvs.length<=n
theorem yF{K}[DecidableEq K]{l:List (K×V)}{k:K}{v:V}(h:cR l k=IK v):(k,v)∈l:=by
 induction l with
 |nil=>cases h
 |cons p l a =>
  rw[nk] at h;by_cases e:p.1=k
  ·have h:=(if_pos e)▸h;cases h;refine(e)▸?_;exact Je ..
  ·rw[if_neg e] at h;exact Jm _ (a h)
noncomputable abbrev ow(a:List (List Nat)):St:=a.map λl=>.list (dR l)
mutual
theorem qQ{bs n x k}(h:bs[n]?=IK x)(e:k≠x):d4 bs k (n+1)=d4 bs k n:=by
 rw[mG,h,if_neg (λq=>e (Jk (beq_iff_eq.mp q)).symm),Jj]
theorem qR{bs n x}(h:bs[n]?=IK x):d4 bs x (n+1)=d4 bs x n++[n]:=by
 rw[mG,h,beq_self_eq_true,if_pos rfl]
theorem uc{bs:List Str}{n x k}(h:bs[n]?=IK x):(∃i,i<n+1/\bs[i]?=IK k)↔(∃i,i<n/\bs[i]?=IK k)∨k=x:=by
 constructor
 ·rintro⟨i,c,a⟩;rcases Nat.lt_succ_iff_lt_or_eq.mp c with q | q
  ·exact .inl ⟨i,q,a⟩
  ·subst q;have a:=h▸a;exact .inr (Jk a).symm
 ·rintro(⟨i,c,a⟩ | rfl)
  ·exact⟨i,JL c,a⟩
  ·exact⟨n,Jg _,h⟩
end
mutual
theorem zh.old{bs n i kvs LL x}(c:zh bs n kvs LL)(d:bs[n]?=IK x)(a:cR kvs x=IK (.r (i+6)))(hi:LL[i]?=IK (d4 bs x n)):zh bs (n+1) kvs ((LL++[[]]).set i (d4 bs x n++[n])):=by
 have li:=(List.getElem?_eq_some_iff.mp hi).1;refine⟨by rw[L9,IL,c.len];rfl,c.nd,λk v h=>?_,c.inj,λk=>?_,J2 c.size⟩
 ·by_cases e:k=x
  ·subst e;replace h:=a▸h;cases h;exact⟨i,rfl,by rw[Km (by rw[IL];exact Sy _ li),qR d]⟩
  ·obtain⟨j,f,g⟩:=c.val k v h;have o:i≠j:=λq=>e (c.inj k x v h (by refine(a).symm▸?_;refine(f).symm▸?_;rw[q]));exact⟨j,f,by rw[LO o,Jp (List.getElem?_eq_some_iff.mp g).1,g,qQ d e]⟩
 ·rw[c.key,uc d];exact⟨λq z=>z.elim q λe=>(by subst e;have a:=((c.key k).mpr q)▸a;cases a),λq z=>q (.inl z)⟩
theorem kN{K}[DecidableEq K]{l k v}(h:cR l k=none)(k':K):cR (l++[(k,v)]) k'=if k'=k then IK v else cR l k':=by
 rw[<-rO h,ni]
theorem rP{K}[DecidableEq K]{l:List (K×V)}{k:K}(h:cR l k=none):k∉l.map (·.1):=by
 induction l with
 |nil=>exact Jf
 |cons p l a =>
  rw[nk] at h;by_cases e:p.1=k
  ·have h:=(if_pos e)▸h;cases h
  ·have h:=(if_neg e)▸h;exact λq=>(Tq.mp q).elim (λq=>e q.symm) (a h)
theorem Ai{K}[DecidableEq K]{l:List (K×V)}(h:(l.map (·.1)).Nodup){p:K×V}(a:p∈l):cR l p.1=IK p.2:=by
 induction l with
 |nil=>cases a
 |cons q l c =>
  refine J3 (nk ..) ?_;rw[JJ,SA] at h;rcases Tq.mp a with rfl | a
  ·exact(if_pos rfl)
  ·rw[if_neg (fun(e:q.1=p.1)=>h.1 (e▸Le a)),c h.2 a]
end
theorem zh.new{bs n kvs LL x}(c:zh bs n kvs LL)(p:bs[n]?=IK x)(f:cR kvs x=none):zh bs (n+1) (kvs++[(x,.r (n+6))]) (LL++[[n]]):=by
 have y:d4 bs x n=[]:=List.eq_nil_iff_forall_not_mem.mpr λi hi=>(c.key x).mp f ⟨i,kD.mp hi⟩;have lt:∀ {k i},cR kvs k=IK (.r (i+6))->i<n:=λ{k i} h=>by
  obtain⟨j,o,g⟩:=c.val k _ h;have:i+6=j+6:=by injection o
  have w:=(List.getElem?_eq_some_iff.mp g).1;rw[c.len] at w;exact cO 9 21 this w
 refine⟨by rw[IL,c.len];rfl,?_,λk v h=>?_,λk u v h h'=>?_,λk=>?_,by rw[IL];exact Kf c.size⟩
 ·rw[Jb,M7];exact⟨c.nd,SA.mpr ⟨Jf,N5⟩,λa A b B e=>(rP f) ((show a=x by rw[OB.mp B] at e;exact e)▸A)⟩
 ·rw[kN f] at h;by_cases e:k=x
  ·have h:=(if_pos e)▸h;cases h;exact⟨n,rfl,by rw[Jr (Js c.len),c.len,KY,e,qR p,y];rfl⟩
  ·rw[if_neg e] at h;obtain⟨j,o,g⟩:=c.val k v h;exact⟨j,o,by rw[Jp (List.getElem?_eq_some_iff.mp g).1,g,qQ p e]⟩
 ·rw[kN f] at h h';by_cases e:k=x
  ·replace h:=(if_pos e)▸h;cases h;by_cases d:u=x
   ·refine(e).symm▸?_;exact(d).symm▸rfl
   ·rw[if_neg d] at h';exact absurd (lt h') (I2 _)
  ·rw[if_neg e] at h;by_cases d:u=x
   ·replace h':=(if_pos d)▸h';cases h';exact absurd (lt h) (I2 _)
   ·rw[if_neg d] at h';exact c.inj k u v h h'
 ·refine(kN f ..).symm▸?_;rw[uc p];by_cases e:k=x
  ·rw[if_pos e];exact⟨λq=>(nomatch q),λq=>absurd (.inr e) q⟩
  ·rw[if_neg e,c.key];exact⟨λq z=>z.elim q e,λq z=>q (.inl z)⟩
section
variable {A:Around}{m:Lc}{G:O}{E:O}{D:O}{xb:Str}{z:Nat}
noncomputable abbrev BN(xb:Str)(z:Nat):Lc:=[(eV,.r 1),(fP,.s xb z),(k7,.r 5)]
noncomputable def BO(T:Lc->St->Prop)(Q:Fl->Lc->St->Prop)(f:Fl)(lc:Lc)(st:St):Prop:=match f with
 |.brk=>Q .next lc st
 |.ret u=>Q (.ret u) lc st
 |_=>T lc st
theorem rU(g:Gd){L n₀ Q}(hA:A.handled=none)(hz:(chars xb).length<sizeLine)(hQ:∀C H,zh (chars xb) (chars xb).length C H->Q .next (BN xb z) (.ns m::.inst 242 0::G::E::D::.dict C::ow H)) :
  ∀(k n:Nat),n+k=(chars xb).length->∀C H,zh (chars xb) n C H ->
   dG (λZ=>True) (dN A (oQ L n₀) (fu (qp 2))) (cK A (oQ L n₀) (c9 (qp 2))) Q ((gA (sgn xb)).drop n) (BN xb z) (.ns m::.inst 242 0::G::E::D::.dict C::ow H):=by
 have J {st:St} {Q:V->St->Prop} {K:Type} [DecidableEq K] {knd:KeyKind W.prog W.w K} {mk:List (K×V)->O} {C:List (K×V)} {j:Nat} {k:K} {kv dv:V} (T:cB) (p:gX knd mk) (e:st[j]?=IK (mk C)) (hk:nV knd kv k) (hz:C.length<=sizeLine) (h:IB C k dv st (mk (C++[(k,dv)])) j Q):MethW A "dict.setdefault" (.r j) [kv,dv] st Q:=by
  intro σ s f ws hf au i r;subst hf;refine IJ λzz=>?_;obtain⟨x,y,B,rfl,⟨hj,rfl⟩,hb,hc⟩:=yY au;obtain⟨o,ws,ho,hd,hr⟩:=p.to _ _ _ _ _ (r.at_ j _ e);obtain⟨_,_,_,_,_,_,nd⟩:=id hd;refine zz ?_;have hD:s.heap.DictOf knd (σ.a j) ws:=Heap.dictOf_iff.mpr ⟨o,ho,hd⟩;have ar:=jQ T r hj;have g:MeetsIn W.prog W.w (Builtin.«dict.setdefault» ⟨[.ref (σ.a j),y,B],[]⟩) (λA R s=>s.TypeIs (.ref (σ.a j)) "dict"/\Jd (I6 W.prog W.w) A.in1 (QO (σ.a j) y B) (λv s'=>R (.ok (.ret v)) s') (λe s'=>R (.error e) s') s) :=
   .of_wp λA R s am=>by
    obtain⟨hT,h⟩:=am;refine II ?_;refine II (RT hT ?_);refine IP ?_;show Jd _ _ (if(σ.a j == QG)=true then _ else(QO (σ.a j) y B >>= _)) _ _ s;rw[if_neg (by refine(ar).symm▸?_;exact Kw)];exact II (I5 h (λv s' q=>IP ⟨v,rfl,q⟩) λZ zy q=>q)
  have q:=RK.get (k:=k) hr;have U {A s K} [DecidableEq K] {knd:KeyKind W.prog W.w K} {k d ws key dflt P} (ac:knd.is k key=true) (hm:s.heap.DictOf knd d ws) (hsz:ws.length<=sizeLine) (ag:∀v,PC ws k=IK v->P v {s with toks:=s.toks+1}) (al:PC ws k=none->∀h',h'.DictOf knd d (NH ws k dflt)->JW d s.heap h'->P dflt {s with heap:=h',toks:=s.toks+1}) :
    Wp A (QO d key dflt) P s:=by
   refine IJ λzz=>?_;obtain⟨o,es,ep,ho,hc,Y,hk,hp,hn⟩:=id hm;refine zz ?_;refine I9 (II (knd.pyHash ac ?_));refine II (wpAny_dictFind_of (s:={s with toks:=s.toks+1}) ac ho Y hk ?_);cases hi:es.findIdx? λe=>knd.is k e.key with
   |some j =>
    refine IJ λzz=>?_;obtain⟨e,he,aw,ao⟩:=hp.at ((show(es.toList.findIdx? λe=>knd.is k e.key)=es.findIdx? λe=>knd.is k e.key from by obtain⟨l⟩:=es;simp).trans hi);refine zz ?_;refine II (TC (s:={s with toks:=s.toks+1}) ho Y ?_);refine(Ju)▸?_;refine(he).symm▸?_;exact II (Li (IP (ag _ ao)))
   |none =>
    have M:PC ws k=none:=by
     refine(hp.find k)▸?_;refine(List.find?_eq_none.mpr λe he=>by simpa using Array.findIdx?_eq_none_iff.mp hi e (Array.mem_toList_iff.mp he)).symm▸?_
     rfl
    have ah:k∉ws.map (·.1):=by
     intro ak;refine IJ λzz=>?_;obtain⟨kv,ai,rfl⟩:=Qz.mp ak;refine zz ?_;unfold PC at M;rw[Option.map_eq_none_iff,List.find?_eq_none] at M;exact M kv ai (by simp)
    have es':NH ws k dflt=ws++[(k,dflt)]:=by
     unfold NH;rw[if_neg];rw[List.any_eq_true];rintro⟨kv,ai,ap⟩;exact ah (Qz.mpr ⟨kv,ai,of_decide_eq_true ap⟩)
    refine II (Li (II (wpAny_updateDictKeys (hz:=(show es.size<=sizeLine from by refine(I3)▸?_;refine(hp.length).symm▸?_;exact hsz)) (s:={s with toks:=s.toks+1}) ho Y (IP (al M _ ⟨_,_,ep+1,Jv _ ho (Obj.isFreed_of_dict (Rb Y _)),
     hc.mapDictKeys _,Rb Y _,hk.push ac _,?_,?_⟩ (Jx ..))))))
    ·rw[es'];have:=hp.append ac (knd.hash k) dflt;obtain⟨l⟩:=es
     simpa using this
    ·rw[es',Jb,M7];exact⟨hn,by simp,λa ha b hb q=>ah ((show a=k from q.trans (OB.mp hb))▸ha)⟩
  refine Ob OY hD.typeIs PySem.F.entry_dict_setdefault (PySem.F.args_dict_setdefault_3 _ _ _) g ⟨hD.typeIs,I5 (U (P:=PV σ st s Q) (hk _ _ _ _ hb) hD (by refine((show ws.length=C.length from by have:=congrArg Lr hr.1;simpa using this)).symm▸?_;exact hz) (λv hv=>?_) λhv h' an hs=>?_) (λZ zy e=>e) λZ zy e=>e.elim⟩
  ·cases hg:cR C k with
   |none=>have hv:=(q.2 hg)▸hv;cases hv
   |some u =>
    obtain⟨w,hw,aj⟩:=q.1 u hg;rw[hw] at hv;cases hv;have x:=cH (X:=dY) i r (I8 s.toks);exact⟨σ,st,x,u,aj.step r x,h.old u hg⟩
  ·cases hg:cR C k with
   |some u=>obtain⟨w,hw,_⟩:=q.1 u hg;have hv:=hw▸hv;cases hv
   |none =>
    obtain⟨o',as,aj⟩:=Heap.dictOf_iff.mp an;have x:=eQ (X:=dY) (k:=s.toks+1) (o:=mk (C++[(k,dv)])) T i r hj hs (I8 _) (λx=>p.of _ _ _ _ _ ⟨o',_,as,aj,rO (v:=dv) hg▸RK.set (RV.mono x r.apart _ _ hc) (hr.mono x r.apart) nd⟩) (p.gen _);exact⟨σ,_,x,dv,hc.step r x,h.new hg⟩
 have aa (l:List Nat) (n:Nat):dR (l++[n])=dR l++[.i (n:Int)]:=Jb ..;have ae (H:List (List Nat)) (i:Nat) (l:List Nat):(ow H).set i (.list (dR l))=ow (H.set i l):=List.map_set.symm;have ab {bs n v} (h:bs[n]?=IK v):(gA bs).drop n=.t [.i (n:Int),v]::(gA bs).drop (n+1):=by
  have h1:(gA bs)[n]?=IK (.t [.i (n:Int),v]):=by
   unfold gA;rw[Jt,Q3,h];show IK (V.t [.i ((0+n:Nat):Int),v])=_;exact(JK ..).symm▸rfl
  have h2:=(List.getElem?_eq_some_iff.mp h1).1;rw[J7 h2,(List.getElem?_eq_some_iff.mp h1).2]
 intro k
 induction k with
 |zero =>
  intro n e C H c;have e:n=(chars xb).length:=e;rw[KV (by refine(oK ..).symm▸?_;refine(gP ..).symm▸?_;refine(IZ ..).symm▸?_;refine(e).symm▸?_;exact IQ _)];subst e;exact⟨trivial,hQ C H c⟩
 |succ k ih =>
  intro n e C H c;have aq:n<(chars xb).length:=by exact b6 9 22 e
  have hx:=IV aq;generalize (chars xb)[n]=x at hx;rw[ab (v:=.s x 0) (by refine(gP ..).symm▸?_;refine(Jt ..).symm▸?_;refine(hx ..).symm▸?_;rfl)];have S:=g.snd (F:=oQ L n₀) hA (by rfl);have app:∀(i:Nat) (l:List Nat) (C:List (Str×V)) (H:List (List Nat)),H[i]?=IK l->l.length<sizeLine->(∀af,af=H.set i (l++[n])->zh (chars xb) (n+1) C af) ->
    cK A (oQ L n₀) [dh (c9 (qp 2)) 1] (BN xb z++[(uD,.i (n:Int)),((⟨⟨[101,108,116]⟩⟩:Str),.s x 0),(Bv,.r (i+6))]) (.ns m::.inst 242 0::G::E::D::.dict C::ow H) (FJ (BO (dG (λZ=>True) (dN A (oQ L n₀) (fu (qp 2))) (cK A (oQ L n₀) (c9 (qp 2))) Q ((gA (sgn xb)).drop (n+1))) Q)):=λi l C H hl av hc=>by
   have e5:(O.ns m::.inst 242 0::G::E::D::.dict C::ow H)[i+6]?=IK (.list (dR l)):=by show(ow H)[i]?=_;refine(Jt ..).symm▸?_;refine(hl ..).symm▸?_;rfl
   refine cD (lZ rfl (by rfl) (yw rfl rfl (by decide) rfl (S.E ⟨.bi .append,.bi .append rfl (by show(_:Option O).bind Dd=_;refine(e5).symm▸?_;rfl),S.Es (iI g.top e5 (by unfold dR;refine(IZ ..).symm▸?_;exact av) ?_)⟩)));refine(aa ..)▸?_;show cK _ _ [] _ (.ns m::.inst 242 0::G::E::D::.dict C::(ow H).set i (.list (dR (l++[n])))) _;rw[ae];exact qk ⟨BN xb z,⟨rfl,rfl,rfl,trivial⟩,(ih (n+1) (by exact cO 9 23 e)) C _ (hc _ rfl)⟩
  refine⟨trivial,S.As (fH (cD (S.S (J g.top dict_str rfl fz ?_ ⟨λv hv=>?_,λhv=>?_⟩))))⟩
  ·have:=c.size;exact fc 10 0 e hz this
  ·obtain⟨i,rfl,hi⟩:=c.val x v hv;have e:ow H++[.list []]=ow (H++[[]]):=by refine J3 ?_ (Jb).symm;rfl
   show cK A (oQ L n₀) _ _ (.ns m::.inst 242 0::G::E::D::.dict C::(ow H++[.list []])) _;refine(e ..).symm▸?_;have:=od (chars xb) x n;exact app i _ C _ (by refine(Jp ((List.getElem?_eq_some_iff.mp hi).1)).trans ?_;exact hi) (by exact fc 10 1 (by assumption) hz this) λaf e=>e▸c.old hx hv hi
  ·have e:ow H++[.list []]=ow (H++[[]]):=by refine J3 ?_ (Jb).symm;rfl
   show cK A (oQ L n₀) _ (BN xb z++[(uD,.i (n:Int)),((⟨⟨[101,108,116]⟩⟩:Str),.s x 0),(Bv,.r ((ow H).length+6))]) (.ns m::.inst 242 0::G::E::D::.dict (C++[(x,.r ((ow H).length+6))])::(ow H++[.list []])) _;refine((show(ow H).length=n from by rw[IZ,c.len])).symm▸?_;refine(e).symm▸?_;refine app n [] _ _ (by rw[Jr (Js c.len),c.len,KY];rfl) (by exact b8 10 2 hz) λaf e=>?_;rw[e,List.set_append_right _ _ (Js c.len),c.len,KY];exact c.new hx hv
structure kq(fj:Value)(J:Str->Bool):Prop where
 tr:∀(A:Around) st (QB:Bool->St->Prop),QB true st->wI A (.v fj) st QB
 callee:Callee (.v fj)
 call:∀(A:Around) st x t (Q:V->St->Prop),A.handled=none->A.depth+1<recursionLimit->Q (.b (J x)) st->b5 A (.v fj) [.s x t] st Q
variable {H:Value}{J:Str->Bool}
noncomputable abbrev rW(xb:Str)(z:Nat)(H:Value):Lc:=BN xb z++[(Bu,.r 6),(lJ,.v H)]
theorem sX(g:Gd){L n₀ Q o kvs}{w:St}(v:kq H J)(u:A.handled=none)(d:A.depth+1<recursionLimit)(hz:kvs.length+1<scanBound)(B:∀l,(∀k,k∈l↔k∈kvs.map (·.1)/\J k=true)->l.length<=kvs.length->Q .next (rW xb z H) (.ns m::.inst 242 0::G::E::D::.dictx o kvs::.set l::w)) :
  ∀(c done:List Str),kvs.map (·.1)=done++c->∀l,(∀k,k∈l↔k∈done/\J k=true)->l.length<=done.length ->
   dG (λst=>st[5]?=IK (.dictx o kvs)) (dN A (oQ L n₀) (fu (dh (qe (qp 5)) 0))) (cK A (oQ L n₀) (c9 (dh (qe (qp 5)) 0))) Q (c.map λx=>.s x 0) (rW xb z H) (.ns m::.inst 242 0::G::E::D::.dictx o kvs::.set l::w):=by
 intro c
 induction c with
 |nil =>
  intro done e l f h;rw[Jj] at e;exact⟨rfl,B l (by refine(e).symm▸?_;exact f) (IT h (by refine(e)▸?_;rw[IZ];exact IQ _))⟩
 |cons x c p =>
  intro done e l f h;have p:=p (done++[x]) (by refine(e).symm▸?_;rw[I1];rfl);have j:done.length+(c.length+1)=kvs.length:=by
   have:=congrArg Lr e;rw[IZ,IL,JA] at this;exact this.symm
  have i:∀k,k∈done++[x]↔k∈done∨k=x:=λk=>by rw[NP,OB]
  have ld:(done++[x]).length=done.length+1:=IL;have S:=g.snd (F:=oQ L n₀) u (by rfl);refine⟨rfl,S.As (fH (S.Ss ⟨v.callee,v.call _ _ _ _ _ u d (Br.mk (λr=>?_) λr=>?_)⟩))⟩
  ·refine⟨by exact ja 10 3 hz j h,rW xb z H,.of rfl,p _ (λk=>?_) ?_⟩
   ·rw[i];by_cases q:x∈l
    ·rw[if_pos q,f];exact⟨λa=>⟨.inl a.1,a.2⟩,λa=>a.1.elim (λy=>⟨y,a.2⟩) λy=>y▸(f x).mp q⟩
    ·rw[if_neg q,NP,OB,f];exact⟨λa=>a.elim (λy=>⟨.inl y.1,y.2⟩) λy=>⟨.inr y,y▸r⟩,λa=>a.1.imp (λy=>⟨y,a.2⟩) id⟩
   ·rw[ld];by_cases q:x∈l
    ·rw[if_pos q];exact J2 h
    ·rw[if_neg q,IL];exact Kf h
  ·refine⟨rW xb z H,.of rfl,p l (λk=>?_) (by rw[ld];exact J2 h)⟩;rw[f,i];exact⟨λa=>⟨.inl a.1,a.2⟩,λa=>a.1.elim (λy=>⟨y,a.2⟩) λy=>by rw[y,r] at a;exact IW a.2⟩
theorem v5(g:Gd){L n₀ Q o6 l n}(hA:A.handled=none)(U:l.Nodup)(hz:n<=sizeLine){val:Str->V}{P:Str->Prop}(hP:∀k∈l,P k)(hQ:∀f,(∀k,P k->k∉l->cR f k=IK (val k))->(∀k,¬(P k/\k∉l)->cR f k=none)->f.length<=n->(∀p∈f,∃vs,p.2=.l vs)->Q .next (rW xb z H) (.ns m::.inst 242 0::G::E::D::.dict f::o6::[])) :
  ∀(u done:List Str),l=done++u->∀f,(∀k,P k->k∉done->cR f k=IK (val k))->(∀k,¬(P k/\k∉done)->cR f k=none)->f.length<=n->(∀p∈f,∃vs,p.2=.l vs) ->
   dG (λst=>st[6]?=IK o6) (dN A (oQ L n₀) (fu (dh (qe (qp 5)) 1))) (cK A (oQ L n₀) (c9 (dh (qe (qp 5)) 1))) Q (u.map λx=>.s x 0) (rW xb z H) (.ns m::.inst 242 0::G::E::D::.dict f::o6::[]):=by
 have C {st:St} {K:Type} [DecidableEq K] {knd:KeyKind W.prog W.w K} {mk:List (K×V)->O} {f:List (K×V)} {j:Nat} {k:K} {kv v:V} (T:cB) (c:gX knd mk) (e:st[j]?=IK (mk f)) (hk:nV knd kv k) (hz:f.length<=sizeLine) (hs:cR f k=IK v) {Q:St->Prop} (h:Q (st.set j (mk (qm f k)))):C7 A (.r j) kv st Q:=by
  intro σ s a b ⟨hj,ha⟩ hb i r;subst ha;refine IJ λzz=>?_;obtain⟨o,ws,ho,hd,hr⟩:=c.to _ _ _ _ _ (r.at_ j _ e);have hl:ws.length=f.length:=by have:=congrArg Lr hr.1;simpa using this
  have Y:s.heap.DictOf knd (σ.a j) ws:=Heap.dictOf_iff.mpr ⟨o,ho,hd⟩;obtain⟨w,hw,_⟩:=(RK.get (k:=k) hr).1 v hs;refine zz ?_;refine I9 (II (TA Y.typeIs (by decide) ?_));refine II (JH (name:=IM "__delitem__") Y.typeIs Po
   (Ob Po Y.typeIs PySem.F.entry_dict_delitem (PySem.F.args_dict_delitem_2 _ _) (meets_dict_delitem_pairs knd _ (hk _ _ _ _ hb)) ⟨ws,Y,by rw[hl];exact hz,by refine(hw).symm▸?_;rfl,λh' aa hs=>?_⟩))
  refine IJ λzz=>?_;obtain⟨o',ab,ac⟩:=Heap.dictOf_iff.mp aa;refine zz ?_;exact IP ⟨_,_,eQ T i r hj hs (I8 _) (λx=>c.of _ _ _ _ _ ⟨o',_,ab,ac,RK.del (hr.mono x r.apart)⟩) (c.gen _),h⟩
 have B {K} [DecidableEq K] (l:List (K×V)) (x k:K):cR (qm l x) k=if k=x then none else cR l k:=by
  induction l with
  |nil=>exact(ite_self none).symm
  |cons p l Z =>
   by_cases e:p.1=x
   ·have J:qm (p::l) x=qm l x:=Nn (by simpa using e);rw[J,Z];by_cases q:k=x
    ·rw[if_pos q,if_pos q]
    ·rw[if_neg q,if_neg q];exact(dU λd=>q (d.symm.trans e)).symm
   ·have J:qm (p::l) x=p::qm l x:=Nm (by simpa using e);rw[J];by_cases q:p.1=k
    ·exact(fF q).trans ((if_neg λd=>e (q.trans d)).trans (fF q)).symm
    ·rw[dU q,dU q];exact Z
 intro u
 induction u with
 |nil =>
  intro done e f J h2 X h4;rw[Jj] at e;subst e;exact⟨rfl,hQ f J h2 X h4⟩
 |cons x u Z =>
  intro done e f J h2 X h4;have ae:x∉done:=λq=>by
   rw[e,M7] at U;exact U.2.2 x q x (Je ..) rfl
  have R:∀k,k∈done++[x]↔k∈done∨k=x:=λk=>by rw[NP,OB]
  have M : ∀k,cR (qm f x) k=if k=x then none else cR f k:=λk=>B f x k;have S:=g.snd (F:=oQ L n₀) hA (by rfl);refine⟨rfl,S.As (fH (S.Ss (C g.top dict_str rfl fz (IT X hz) (J x (hP x (by refine(e).symm▸?_;exact J0 _ (Je ..))) ae) ?_)))⟩;refine⟨rW xb z H,.of rfl,(Z (done++[x]) (by refine(e).symm▸?_;rw[I1];rfl)) _ (λk p q=>?_) (λk q=>?_) (IT (NV ..) X) λp hp=>h4 p (List.mem_filter.mp hp).1⟩
  ·rw[R,not_or] at q;rw[M,if_neg q.2];exact J k p q.1
  ·rw[M];by_cases d:k=x
   ·exact(if_pos d)
   ·refine(if_neg d).trans ?_;refine h2 k λy=>q ⟨y.1,?_⟩;rw[R,not_or];exact⟨y.2,d⟩
inductive C0(j:Nat)(Q:Fl->Lc->St->Prop)(f:Fl)(lc:Lc)(st:St):Prop
 |mk (x o:O) (e:st[j]?=IK x) (k:∀σ st s,st[j]?=IK x->Rel σ st s->RO σ st.length s (σ.a j) o) (hg:∀g c L,o≠.gen g c L) (q:Q f lc (st.set j o))
mutual
theorem hZ{A F lc st Q c}(j:Nat)(h:eG A F c lc st (C0 j Q)):eG A F c lc st Q:=λσ s p =>
 dX (h σ s p) λf s₁ r i d g a fr u ⟨x,o,e,k,w,q⟩=>by
  have v:(d.set j o).length=d.length:=L9;exact⟨r,i,_,a.trans (iy a.inv a.rel (k _ _ _ e a.rel) w).ir,v▸fr,g,v▸u,q⟩
theorem md{dep asg body Q l l' lc st}(e:l=l')(h:dG dep asg body Q l' lc st):dG dep asg body Q l lc st:=e▸h
theorem keys_eq(K:List (Str×V)):(K.map λp:Str×V=>V.s p.1 0)=(K.map (·.1)).map λx=>.s x 0:=by refine(JB).symm▸?_;rfl
theorem nA:eH (cJ (cF 5 5)) .none [eV]:=by
 rintro⟨⟩ ws c d e h;dsimp only at c d e;subst c d e;obtain⟨a,rfl⟩:=sV h
 rfl
theorem vE(l:List Nat):iM (dR l):=fk (f:=λn:Nat=>V.i (n:Int)) (λZ L D c a q=>q) l
end
noncomputable def Cr(i:Nat):List (List Nat)->List (Nat×List V)
 |[]=>[]
 |l::a=>(i,dR l)::Cr (i+1) a
mutual
theorem xP{a}:∀ {i k:Nat} {l:List Nat},a[k]?=IK l->(Cr i a).lookup (k+i)=IK (dR l):=by
 induction a with
 |nil=>intro i k l h;cases h
 |cons l a c =>
  intro i k l' h;show((i,dR l)::Cr (i+1) a).lookup _=_;refine(Jn).trans ?_;cases k with
  |zero=>(refine(JK ..).symm▸?_;rw[beq_self_eq_true]);cases h;rfl
  |succ k =>
   refine((beq_false_of_ne λq=>by exact b8 10 4 q:(k+1+i == i)=false)).symm▸?_;refine(KA ..).symm▸?_;refine(NO 1 i).symm▸?_;exact c h
theorem Cp{m st n k₀}(c:∀j∈m.js,j<n)(d:k₀<=n){a}:∀ {i:Nat},n<=i->(∀k l,a[k]?=IK l->st[i+k]?=IK (.list (dR l)))->C2 m st k₀ (Cr i a):=by
 induction a with
 |nil=>intro i _ _;trivial
 |cons l a f =>
  intro i hi h;exact⟨⟨IT d hi,λq=>absurd (c _ q) (Nat.not_lt.mpr hi),h 0 l rfl,vE l⟩,f (J2 hi) λk l' e=>by have:=h (k+1) l' e;refine(this)▸?_;congr 1;exact b6 2 0⟩
theorem Cq{h a}:∀ {i:Nat},h<i->(Cr i a).lookup h=none:=by
 induction a with
 |nil=>intro i _;rfl
 |cons l a c=>intro i hi;refine(Jn).trans ?_;refine(beq_false_of_ne (Jw hi)).symm▸?_;exact c (JL hi)
end
theorem mS{js LL h i k}(hi:h<i)(e:lN h js=IK k):V.vw ⟨js,Cr i LL⟩ (.r h)=IK (.r k):=by
 exact(V.wM (Cq hi)).trans (congrArg (JZ V.r) e)
noncomputable def wb(bs:List Str)(n:Nat)(a:List (Str×V)):List (Str×V):=a.map λp=>(p.1,.l (dR (d4 bs p.1 n)))
mutual
theorem yI(bs:List Str)(n:Nat)(a:List (Str×V)):(wb bs n a).map (·.1)=a.map (·.1):=by refine(JB).trans ?_;rfl
theorem Aj(bs:List Str)(n:Nat)(a:List (Str×V))(x:Str):cR (wb bs n a) x=(cR a x).map λZ=>.l (dR (d4 bs x n)):=by
 induction a with
 |nil=>rfl
 |cons p a c =>
  show cR ((p.1,_)::wb bs n a) x=_;by_cases e:p.1=x
  ·subst e;exact(fF (p:=(p.1,_)) rfl).trans (congrArg (JZ λZ=>V.l (dR (d4 bs p.1 n))) (fF (p:=p) (l:=a) rfl)).symm
  ·refine(dU e ..).symm▸?_;exact(dU (p:=(p.1,V.l (dR (d4 bs p.1 n)))) e).trans c
theorem CW{bs n m a}(h:∀p∈a,V.vw m p.2=IK (.l (dR (d4 bs p.1 n)))):tY m a=IK (wb bs n a):=by
 induction a with
 |nil=>rfl
 |cons p a d=>exact a9 (h p (Je ..)) (d λq c=>h q (Jm _ c))
theorem Io:∀j∈([0,1,2,3,4,5]:List Nat),j<6:=by decide
end
noncomputable abbrev rf(H:Value)(B xb:Str)(C z:Nat)(d j p:Nat):Lc:=qw (.v H) (.s B C) (.s xb z) (.b true) .n .n .n (.r d) (.r j) (.r p)
theorem yH{bs n kvs LL H B xb C z G E D}(c:zh bs n kvs LL) :
  nU ⟨[0,1,2,3,4,5],Cr 6 LL⟩ 5 (.ns (rf H B xb C z 5 3 4)::.inst 242 0::G::E::D::.dict kvs::ow LL) [.ns (rf H B xb C z 5 3 4),.inst 242 0,.gone,.gone,.gone,.dict (wb bs n kvs)]:=by
 refine⟨HM,.vw rfl (congrArg (JZ O.ns) (a9 rfl<|a9 rfl<|a9 rfl<|a9 rfl<|a9 rfl<|a9 rfl<|a9 rfl<|a9 (mS (by decide) rfl)<|a9 (mS (by decide) rfl)<|a9 (mS (by decide) rfl) rfl)) (.vw rfl rfl (.out rfl rfl (.out rfl rfl (.out rfl rfl (.vw rfl ?_ trivial))))),Cp (n:=6) Io (by decide) (IQ _) λk l e=>?_,λh q Z=>qc h (JL q)⟩
 ·refine congrArg (JZ O.dict) (CW λp f=>?_);obtain⟨i,a,d⟩:=c.val p.1 p.2 (Ai c.nd f);rw[a];rw[V.AF (xP d)]
 ·rw[NO];show(ow LL)[k]?=_;rw[Jt,e];rfl
variable {B:Str}{C:Nat}{j:Addr}
mutual
theorem tG(g:Gd){G E D Q}(M:A.handled=none)(R:A.depth+2<recursionLimit)(hJ:kq (.ref j) J)(hz:(chars xb).length<200)(h:∀u l,kr (chars xb) J u->(∀k,k∈l↔k∈chars xb/\J k=true)->l.length<=(chars xb).length->Q .n [.ns (rf (.ref j) B xb C z 5 6 7),.inst 242 0,.gone,.gone,.gone,.dict u,.set l,.set []]) :
  b5 A (.v (.ref 188)) [.r 1] [.ns (rf (.ref j) B xb C z 2 3 4),.inst 242 0,G,E,D] Q:=by
 have h1:200<sizeLine:=by decide
 have h2:201<scanBound:=by decide
 refine(dg (names:=[eV]) g.top (rV g) (by kernel_rfl) (by kernel_rfl) (by exact b6 9 12 R) nA rfl (by kernel_rfl) λL=>?_).call;have S:=g.snd (A:=A.deeper (Kq (IM "SequenceMatcher.__chain_b") (a6 (cF 5 5)) L 188 (.ref 187))) (F:=oQ L 5) (by exact M) (by rfl);refine c7 2 (S.Ss (kg dict_str ?_));show cK _ (oQ L 5) ((a5 (cF 5 5)).drop 2) (BN xb z) (.ns (rf (.ref j) B xb C z 5 3 4)::.inst 242 0::G::E::D::.dict []::ow []) _;refine cD (kM rfl (rx g.top (by exact M) (λQ' q=>S.E (by exact q)) rfl (S.E ?_)));refine .text xb z rfl ?_;refine rU g (n₀:=11) (by exact M) (by exact b6 9 10 hz h1) (λu LL c=>?_) (chars xb).length 0 (JK _) [] [] ⟨rfl,.nil,λk v q=>(nomatch q),λk k' v q=>(nomatch q),λx=>⟨λZ ⟨i,q,a⟩=>absurd q (I4 _),λZ=>rfl⟩,IQ _⟩;refine lY ⟨_,.next,BN xb z,_,yH c,rfl,Ak,(.cons rfl (mS (by decide) rfl) (.cons rfl rfl (.cons rfl (mS (by decide) rfl) trivial))),?_⟩;refine c7 2 (S.Ss ?_);show cK _ (oQ L 5) ((a5 (cF 5 5)).drop 5) (rW xb z (.ref j)) [.ns (rf (.ref j) B xb C z 5 6 4),.inst 242 0,.gone,.gone,.gone,.dict (wb (chars xb) (chars xb).length u),.set []] _;have Kg:=Aj (chars xb) (chars xb).length u;have Kk:∀x,x∈(wb (chars xb) (chars xb).length u).map (·.1)↔x∈chars xb:=λx=>by
  rw[yI];refine⟨λq=>?_,λq=>?_⟩
  ·cases e:cR u x with
   |none=>exact absurd q (rP e)
   |some v =>
    by_cases f:x∈chars xb
    ·exact f
    ·have e:=((c.key x).mpr λ⟨i,Z,h⟩=>f (IX h))▸e;cases e
  ·obtain⟨i,hi,e⟩:=List.mem_iff_getElem.mp q;cases e':cR u x with
   |none=>exact absurd ⟨i,hi,by rw[IV hi,e]⟩ ((c.key x).mp e')
   |some v=>exact Le (yF e')
 have Kv:∀p∈wb (chars xb) (chars xb).length u,∃vs,p.2=.l vs:=λp T=>by
  obtain⟨q,_,rfl⟩:=Qz.mp T;exact⟨_,rfl⟩
 have Kl:(wb (chars xb) (chars xb).length u).length<=(chars xb).length:=by unfold wb;refine(IZ ..).symm▸?_;exact c.size
 have K1:∀k,k∈chars xb->cR (wb (chars xb) (chars xb).length u) k=IK (.l (dR (d4 (chars xb) k (chars xb).length))):=λk w=>by
  refine J3 (Kg ..) ?_;cases e':cR u k with
  |some v=>rfl
  |none =>
   obtain⟨i,hi,e⟩:=List.mem_iff_getElem.mp w;exact absurd ⟨i,hi,by rw[IV hi,e]⟩ ((c.key k).mp e')
 have K2:∀k,k∉chars xb->cR (wb (chars xb) (chars xb).length u) k=none:=λk w=>by
  refine J3 (Kg ..) ?_;refine((c.key k).mpr λ⟨i,Z,h⟩=>w (IX h)).symm▸?_;rfl
 generalize wb (chars xb) (chars xb).length u=K at *;refine c7 1 (S.Ss (hJ.tr _ _ _ (Br.mk (λZ=>?_) λq=>IW q)));refine hZ 5 (kM rfl (ru g.top (by exact M) (S.E (oO g.top dict_str rfl (.mk 5 K rfl rfl λo=>?_)))));refine md (keys_eq K) ?_;refine sX g (n₀:=12) hJ ?_ ?_ ?_ (λl hl hn=>?_) (K.map (·.1)) [] rfl [] (λk=>⟨λq=>(nomatch q),λq=>(nomatch q.1)⟩) (IQ _)
 ·exact M
 ·show A.depth+1+1<_;assumption
 ·exact b6 10 5 h2 hz Kl
 refine .mk (.dictx o K) (.dict K) rfl (λσ st s e r=>rK e r) (λZ a zz q=>O.noConfusion q) ?_;have y:∀k,k∈l↔k∈chars xb/\J k=true:=λk=>by rw[hl,Kk]
 have X:l.length<=(chars xb).length:=IT hn Kl;refine hZ 6 (kM rfl (uO g.top (by exact M) (S.E ?_)));refine .mk 6 l rfl rfl (by exact b6 10 6 h2 hz X) λY H hs T=>?_;refine v5 g (n₀:=12) (l:=H) (n:=(chars xb).length) (val:=λk=>.l (dR (d4 (chars xb) k (chars xb).length))) (P:=λk=>k∈chars xb) ?_ ?_ (by exact b6 10 7 hz h1) (λk w=>((y k).mp (T.mem_iff.mp w)).1) (λkvs2 h1 h2 h3 h4=>?_) H [] rfl K (λk w Z=>K1 k w) (λk w=>K2 k λq=>w ⟨q,(nomatch ·)⟩) Kl Kv
 ·exact M
 ·obtain⟨_,_,_,_,d⟩:=hs;exact T.nodup_iff.mpr d.nodup
 refine .mk (.fix Y) (.set l) rfl (λσ st s e r=>uQ e hs r) (λZ a zz q=>O.noConfusion q) ?_;have b2:kr (chars xb) J kvs2:=by
  refine⟨λx U aa=>h1 x U λq=>?_,λx U=>h2 x λq=>U ⟨q.1,?_⟩,h4⟩
  ·have:=((y x).mp (T.mem_iff.mp q)).2;rw[aa] at this;exact IW this
  ·cases e:J x with
   |false=>rfl
   |true=>exact absurd (T.mem_iff.mpr ((y x).mpr ⟨q.1,e⟩)) q.2
 have U:=eN xb;refine S.Ss ⟨by exact cO 10 8 hz U (by assumption),Br.mk (λZ=>Br.mk (λq=>?_) λZ=>?_) λq=>IW q⟩
 ·have:=of_decide_eq_true q;exact(b8 10 9 this hz U).elim
 ·exact h kvs2 l b2 y X
theorem r4(g:Gd){Q}(d:A.handled=none)(a:A.depth+2<recursionLimit)(p:kq (.ref j) J)(hz:chars xb=[])(h:Q .n [.ns (rf (.ref j) B xb C z 2 3 4),.inst 242 0,.dict [],.set [],.set []]) :
  b5 A (.v (.ref 188)) [.r 1] [.ns [(lJ,.v (.ref j)),(gJ,.s B C),(fP,.s xb z),(mI,.b true),(jS,.n),(mP,.n),(q7,.n)],.inst 242 0] Q:=by
 have i:sgn xb=[]:=by rw[gP,hz];rfl
 have f:=eN xb;have f:=hz▸f;refine(dg (names:=[eV]) g.top (rV g) (by kernel_rfl) (by kernel_rfl) (by exact b6 9 12 a) nA rfl (by kernel_rfl) λL=>?_).call;have S:=g.snd (A:=A.deeper (Kq (IM "SequenceMatcher.__chain_b") (a6 (cF 5 5)) L 188 (.ref 187))) (F:=oQ L 2) (by exact d) (by rfl);refine c7 2 (S.Ss (kg dict_str ?_));show cK _ (oQ L 2) ((a5 (cF 5 5)).drop 2) [(eV,.r 1),(fP,.s xb z),(k7,.r 2)] [.ns [(lJ,.v (.ref j)),(gJ,.s B C),(fP,.s xb z),(mI,.b true),(jS,.n),(mP,.n),(q7,.n),(k7,.r 2)],.inst 242 0,.dict []] _;refine cD (kM rfl (rx g.top (by exact d) (λx q=>S.E (by exact q)) rfl (S.E ?_)));refine .text xb z rfl ?_;refine md (l':=[]) (by refine(i).symm▸?_;rfl) ⟨trivial,?_⟩;refine c7 3 (S.Ss (p.tr _ _ _ (Br.mk (λZ=>?_) λq=>IW q)));refine hZ 2 (kM rfl (ru g.top (by exact d) (S.E (oO g.top dict_str rfl (.mk 2 [] rfl rfl λo=>?_)))));refine⟨rfl,.mk (.dictx o []) (.dict []) rfl (λσ st s e r=>rK e r) (λZ D w q=>nomatch q) ?_⟩;refine hZ 3 (kM rfl (uO g.top (by exact d) (S.E ?_)));refine .mk 3 [] rfl rfl (by decide) λc k i u=>?_;refine md (l':=[]) (by refine(u.eq_nil).symm▸?_;rfl) ⟨rfl,?_⟩;refine .mk (.fix c) (.set []) rfl (λσ st s e r=>uQ e i r) (λZ D w q=>nomatch q) ?_;show cK _ (oQ L 2) ((a5 (cF 5 5)).drop 6) [(eV,.r 1),(fP,.s xb z),(k7,.r 2),(Bu,.r 3),(lJ,.v (.ref j))] [.ns [(lJ,.v (.ref j)),(gJ,.s B C),(fP,.s xb z),(mI,.b true),(jS,.n),(mP,.n),(q7,.n),(k7,.r 2),(xN,.r 3)],.inst 242 0,.dict [],.set []] _;refine S.Ss ⟨by refine(f)▸?_;exact Ji _,Br.mk (λZ=>Br.mk (λq=>?_) λZ=>?_) λq=>IW q⟩
 ·have:=of_decide_eq_true q;rw[<-f] at this;exact absurd this (by decide)
 ·exact h
end
variable {st:St}{Q:V->St->Prop}
theorem qh{a q params body scope cd dflt names vs dn dv}(T:cB)(f:FnAt a q params body scope cd dflt)(g:scope.isCoroutine=false)(d:scope.isGenerator=false)(c:A.depth<recursionLimit)(u:∀(s:IY) (ws:List Value) (fd:LH),Inv s->fd.params=params->fd.defaults=dflt->fd.kwdefaults=.none->ws.length=names.length->PX s fd ⟨ws,[]⟩ (names.zip ws++dn))(hd:∀(σ:Sg) n s,Inv s->RB σ n s dv dn.reverse)(w:vs.length=names.length)(v:((names++dn.map (·.1)).all λx=>j4 (scope.names.lookup x))=true)(h:∀L,cK (A.deeper (Kq q scope L a cd)) ⟨Kq q scope L a cd,[],st.length⟩ body (dv++(names.zip vs).reverse) st λr Z j=>Q (sF r) j):jv A a vs st Q :=
 qi T f g d c (λσ n s ws fd i e k o p=>⟨names.zip ws++dn,u s ws fd i k o p (e.len.trans w),by rw[Rf];exact(hd σ n s i).app (RB.zip e),λx y=>fE (Pc.mp v _ ((NP.mp y).elim (λq=>KC _ (L7 q).1) λq=>J0 _ (Le q)))⟩) h
mutual
theorem oX:eH (cJ (cF 5 4)) .none [eV,fP]:=by
 rintro⟨⟩ ws c d e h;dsimp only at c d e;subst c d e;obtain⟨a,b,rfl⟩:=pX h
 rfl
theorem oW:eH (cJ (cF 5 2)) .none [eV,gJ,fP]:=by
 rintro⟨⟩ ws d e f h;dsimp only at d e f;subst d e f;refine IJ λg=>?_;obtain⟨a,b,c,rfl⟩:=zM h;refine g ?_
 rfl
end
theorem tB(g:Gd)(c:A.handled=none)(a:A.depth+3<recursionLimit)(d:kq (.ref j) J)(hz:chars xb=[])(h:Q .n [.ns (rf (.ref j) B xb C z 2 3 4),.inst 242 0,.dict [],.set [],.set []]) :
  b5 A (.v (.ref 181)) [.r 1,.s xb z] [.ns [(lJ,.v (.ref j)),(gJ,.s B C),(fP,.n),(mI,.b true),(jS,.n),(mP,.n)],.inst 242 0] Q:=by
 refine(dg (names:=[eV,fP]) g.top (uf g) (by kernel_rfl) (by kernel_rfl) (by exact b6 9 12 a) oX rfl (by kernel_rfl) λL=>?_).call;refine(g.snd (by exact c) (by rfl)).Ss ?_;refine Br.mk (λq=>IW q) λZ=>?_;exact r4 g (by exact c) (by assumption) d hz h
theorem oU(g:Gd){y u bl co G E D}{E1 E2:Prop}(h:A.handled=none)(a:A.depth+3<recursionLimit)(p:kq (.ref j) J)(hz:(chars xb).length<200)(f:∀A' st (d:V->St->Prop),(E1->d (.b true) st)->(E2->d (.b false) st)->di A' (J1 .Is) (.s xb z) (.s y u) st d)(i:E1->Q .n [.ns (qw (.v (.ref j)) (.s B C) (.s y u) (.b true) bl co .n (.r 2) (.r 3) (.r 4)),.inst 242 0,G,E,D])(o:∀c l,kr (chars xb) J c->(∀k,k∈l↔k∈chars xb/\J k=true)->l.length<=(chars xb).length->Q .n [.ns (rf (.ref j) B xb C z 5 6 7),.inst 242 0,.gone,.gone,.gone,.dict c,.set l,.set []]) :
  b5 A (.v (.ref 181)) [.r 1,.s xb z] [.ns (qw (.v (.ref j)) (.s B C) (.s y u) (.b true) bl co .n (.r 2) (.r 3) (.r 4)),.inst 242 0,G,E,D] Q:=by
 refine(dg (names:=[eV,fP]) g.top (uf g) (by kernel_rfl) (by kernel_rfl) (by exact b6 9 12 a) oX rfl (by kernel_rfl) λL=>?_).call;refine(g.snd (by exact h) (by rfl)).Ss ?_;refine f _ _ _ (λe=>Br.mk (λZ=>?_) λq=>IW q) λe=>Br.mk (λq=>IW q) λZ=>?_
 ·exact i e
 ·exact tG g (by exact h) (by assumption) p hz o
theorem tA(g:Gd)(c:A.handled=none)(a:A.depth+4<recursionLimit)(d:kq (.ref j) J)(hz:chars xb=[])(h:Q .n [.ns (rf (.ref j) B xb C z 2 3 4),.inst 242 0,.dict [],.set [],.set []]) :
  b5 A (.v (.ref 167)) [.r 1,.s B C,.s xb z] [.ns [(lJ,.v (.ref j)),(gJ,.n),(fP,.n),(mI,.b true)],.inst 242 0] Q:=by
 refine(dg (names:=[eV,gJ,fP]) g.top (ue g) (by kernel_rfl) (by kernel_rfl) (by exact b6 9 12 a) oW rfl (by kernel_rfl) λL=>?_).call;refine(g.snd (A:=A.deeper (Kq (IM "SequenceMatcher.set_seqs") (a6 (cF 5 2)) L 167 (.ref 166))) (F:=⟨Kq (IM "SequenceMatcher.set_seqs") (a6 (cF 5 2)) L 167 (.ref 166),[],2⟩) (by exact c) (by rfl)).Ss (tC g (by exact c) (by exact b8 10 10 a) ?_);exact tB g (by exact c) (by assumption) d hz h
theorem q9(g:Gd)(u:A.handled=none)(d:A.depth+7<recursionLimit)(H:kq (.ref j) J)(h:Q (.r 1) [.ns (rf (.ref j) ⟨⟨[]⟩⟩ ⟨⟨[]⟩⟩ 404 405 2 3 4),.inst 242 0,.dict [],.set [],.set []]):b5 A (.v (.ref 242)) [.v (.ref j)] [] Q:=by
 refine IJ λR=>?_;obtain⟨m,c,_⟩:=xc g;obtain⟨of,fd,F,G,h3⟩:=g.qj (dO 9 rfl) rfl ⟨_,rfl⟩;refine R ?_;refine rZ c (g.nP (by obtain⟨_,_,_,_,_,_,_,_,_,_,_,_,_,P,_⟩:=c;exact P) (IX (i:=21) (by kernel_rfl))) F G ?_;refine(qh (A:=made A) (names:=[eV,lJ]) (dn:=[(gJ,.str ⟨⟨[]⟩⟩ 404),(fP,.str ⟨⟨[]⟩⟩ 405),(mI,.bool true)]) (dv:=[(mI,.b true),(fP,.s ⟨⟨[]⟩⟩ 405),(gJ,.s ⟨⟨[]⟩⟩ 404)]) g.top (zY g) (by kernel_rfl) (by kernel_rfl) (by exact b8 10 11 d) (λs ws fd i e k p M=>?_) (λσ n s i=>?_) rfl (by kernel_rfl) λL=>?_).call
 ·obtain⟨fn,fq,Y,S,fs,U,T,D,X,C,E,x,z,B,y⟩:=fd;dsimp only at e k p;subst e k p;obtain⟨a,b,rfl⟩:=pX M;exact .of_defaults rfl (i.old.get_of_cls (g.fields (o:=Bh) (dO 7 rfl) (λf q=>JO q)) (λq=>Jo q)) rfl (by rfl) (by rfl)
 ·have w:798<=s.toks:=by have:=i.tk;rw[g.t1] at this;exact this
  exact⟨_,_,rfl,rfl,_,_,rfl,⟨405,rfl,λZ=>⟨rfl,IU (by decide) w⟩⟩,_,_,rfl,⟨404,rfl,λZ=>⟨rfl,IU (by decide) w⟩⟩,rfl⟩
 ·refine(g.snd (by exact u) (by rfl)).Ss ?_;refine tA g (by exact u) (by exact b8 10 12 d) H rfl ?_;exact⟨rfl,h⟩
end
noncomputable abbrev ed:=Str×Nat×Nat×Nat×Nat
noncomputable def c4(i j a c:Nat):List ed :=
 if i<a/\j<c then [(oq,i,a,j,c)] else if i<a then [(oo,i,a,j,c)] else if j<c then [(q6,i,a,j,c)] else []
noncomputable def ey(st:(Nat×Nat)×List ed)(b:Nat×Nat×Nat):(Nat×Nat)×List ed :=
 ((b.1+b.2.2,b.2.1+b.2.2),st.2++c4 st.1.1 st.1.2 b.1 b.2.1++(if b.2.2=0 then [] else [(mH,b.1,b.1+b.2.2,b.2.1,b.2.1+b.2.2)]))
noncomputable def d0(a:List (Nat×Nat×Nat)):List ed:=(a.foldl ey ((0,0),[])).2
noncomputable def c5(c:ed):V:=.t [.s c.1 0,.i (c.2.1:Int),.i (c.2.2.1:Int),.i (c.2.2.2.1:Int),.i (c.2.2.2.2:Int)]
noncomputable def rF(L:Addr)(n:Nat):dH:=⟨Kq (IM "SequenceMatcher.get_opcodes") (a6 (cF 5 8)) L 210 (.ref 209),[],n⟩
noncomputable def rE(i:Nat):Stmt:=dh (a5 (cF 5 8)) i
noncomputable abbrev vV(i j:Nat):Lc:=[(eV,.r 1),(uD,.i i),((⟨⟨[106]⟩⟩:Str),.i j),((⟨⟨[97,110,115,119,101,114]⟩⟩:Str),.r 5)]
theorem z7(i j a c:Nat):(c4 i j a c).length<=1:=by
 unfold c4
 split
 ·exact IQ _
 split
 ·exact IQ _
 split
 ·exact IQ _
 ·exact Ji _
section
variable {A:Around}{k f:Str}{u r:Nat}{l v:List Str}{d:List (Str×V)}{w:Value}
theorem vU(g:Gd){Q L n bs bl}(hA:A.handled=none)(hz:2*bs.length+2<=sizeLine)(hQ:∀i j,Q .next (vV i j) (mq w bl (.r 5) k f u r d l v (.list ((d0 bs).map c5)) [])) :
  ∀(x done:List (Nat×Nat×Nat)),bs=done++x->∀D (C:Nat×Nat),(C,D)=done.foldl ey ((0,0),[])->D.length<=2*done.length ->
   dG (λZ=>True) (dN A (rF L n) (fu (rE 4))) (cK A (rF L n) (c9 (rE 4))) Q (x.map m3) (vV C.1 C.2) (mq w bl (.r 5) k f u r d l v (.list (D.map c5)) []):=by
 refine IJ λzz=>?_;obtain⟨mM,cM,_,_,_,Y⟩:=iD g;refine zz ?_;intro x
 induction x with
 |nil =>
  intro done e D C P M;rw[Jj] at e;subst e;have:D=d0 bs:=by unfold d0;exact(P)▸rfl
  subst this;exact⟨trivial,hQ _ _⟩
 |cons z x R =>
  intro done e D C P M;obtain⟨y,B,sz⟩:=z;obtain⟨i,j⟩:=C;have R:=R (done++[(y,B,sz)]) (by refine(e).symm▸?_;rw[I1];rfl);have G:done.length+(x.length+1)=bs.length:=by rw[e,IL];rfl
  have hd:(done++[(y,B,sz)]).length=done.length+1:=IL ..;have S:=g.snd (F:=rF L n) hA (by rfl);have X:=z7 i j y B;have T:∀tag o,o=O.list ((D++c4 i j y B).map c5)->cK A (rF L n) ((c9 (rE 4)).drop 3) (vV i j++[((⟨⟨[97,105]⟩⟩:Str),.i y),((⟨⟨[98,106]⟩⟩:Str),.i B),(uC,.i sz),((⟨⟨[116,97,103]⟩⟩:Str),tag)]) (mq w bl (.r 5) k f u r d l v o []) (FJ (BO (dG (λZ=>True) (dN A (rF L n) (fu (rE 4))) (cK A (rF L n) (c9 (rE 4))) Q (x.map m3)) Q)):=λtag o eo=>by
   subst eo;refine S.Ss (Br.mk (λh=>?_) λh=>?_)
   ·have aa:¬sz=0:=λe=>by subst e;exact IW h
    refine⟨by rw[IZ,IL];exact ja 10 13 hz G M X,vV (y+sz) (B+sz),⟨rfl,rfl,rfl,rfl,trivial⟩,?_⟩;have:=R (D++c4 i j y B++[(mH,y,y+sz,B,B+sz)]) (y+sz,B+sz) (by rw[OS,<-P];unfold P7 P7 ey;rw[if_neg aa]) (by rw[IL,IL,hd];exact cO 10 14 M X);rw[Jb] at this;exact this
   ·have h0:sz=0:=by
     have:=of_decide_eq_false (p:=(sz:Int)≠0) (by simpa using h);exact ec 9 6 this
    refine⟨vV (y+sz) (B+sz),⟨rfl,rfl,rfl,rfl,trivial⟩,?_⟩;exact R (D++c4 i j y B) (y+sz,B+sz) (by rw[OS,<-P];unfold P7 P7 ey;rw[if_pos h0,Jj]) (by rw[IL,hd];exact cO 10 15 M X)
  refine⟨trivial,fS rfl (sr cM Y hA) rfl (S.Av (fH (c7 3 (S.Ss ?_))))⟩;have lt:∀ {a b:Nat},decide ((a:Int)<(b:Int))=true->a<b:=λh=>Int.ofNat_lt.mp (of_decide_eq_true h);have J:∀ {a b:Nat},decide ((a:Int)<(b:Int))=false->¬a<b:=λh q=>of_decide_eq_false h (Int.ofNat_lt.mpr q);have U:∀c,c4 i j y B=[c]->O.list (D.map c5++[c5 c])=O.list ((D++c4 i j y B).map c5):=λc h=>by rw[h,Jb];rfl
  have zc:(D.map c5).length<sizeLine:=by rw[IZ];exact fc 10 16 hz G M
  refine Br.mk (λE=>Br.mk (λH=>?_) λH=>?_) λE=>?_
  ·exact⟨by decide,Br.mk (λZ=>⟨zc,T _ _ (U (oq,i,y,j,B) (if_pos ⟨lt E,lt H⟩))⟩) λq=>IW q⟩
  ·refine Br.mk (λZ=>⟨by decide,Br.mk (λZ=>⟨zc,T _ _ (U (oo,i,y,j,B) ?_)⟩) λq=>IW q⟩) λq=>IW (q.symm.trans E);unfold c4;rw[if_neg λq=>J H q.2,if_pos (lt E)]
  ·refine Br.mk (λq=>IW (E.symm.trans q)) λZ=>Br.mk (λH=>⟨by decide,Br.mk (λZ=>⟨zc,T _ _ (U (q6,i,y,j,B) ?_)⟩) λq=>IW q⟩) λH=>⟨by decide,Br.mk (λq=>IW q) λZ=>T _ _ ?_⟩
   ·unfold c4;rw[if_neg λq=>J E q.1,if_neg (J E),if_pos (lt H)]
   ·unfold c4;rw[if_neg λq=>J E q.1,if_neg (J E),if_neg (J H),Jj]
end
mutual
theorem r5:eH (cJ (cF 5 8)) .none [eV]:=by
 rintro⟨⟩ ws c d e h;dsimp only at c d e;subst c d e;obtain⟨a,rfl⟩:=sV h
 rfl
theorem zB(l:List ed):iM (l.map c5):=fk (f:=c5) (λZ L D c a q=>q) l
theorem Im:([0,1,2,3,4]:List Nat).Nodup:=by decide
theorem Il:5∉([0,1,2,3,4]:List Nat):=by decide
theorem EB:∀h,h<5->([0,1,2,3,4]:List Nat)[h]?=IK h:=by decide
theorem Ip:tT (.r 5) (.list []):=⟨λm a c=>(V.wM a).trans (by rw[c];rfl),λZ=>rfl,λu h=>congrArg V.r h,λZ=>rfl⟩
end
noncomputable abbrev vg(e:Value)(c d:V)(i j:Str)(g h:Nat)(a:List (Str×V))(l f:List Str):St:=[.ns (qw (.v e) (.s i g) (.s j h) (.b true) c d .n (.r 2) (.r 3) (.r 4)),.inst 242 0,.dict a,.set l,.set f]
section
variable {A:Around}{c a:Str}{e d:Nat}{J:Str->Bool}{l f:List Str}{g:List (Str×V)}{h:Value}{Q:V->St->Prop}
end
noncomputable def cU:Str:=⟨⟨[32,9]⟩⟩
theorem oE(c:Nat):cV cU ⟨#[c]⟩=(c == 32 || c == 9):=by
 delta cU cV Pd;have d (a:Nat):((#[a]:Array Nat) == #[c])=(c == a):=by
  rw[K9,beq_iff_eq,beq_iff_eq];exact⟨λh=>(J8 (congrArg Tx h)).1.symm,λh=>by exact(h).symm▸rfl⟩
 have e:MF ⟨#[32,9]⟩ ⟨#[c]⟩ 0=(c == 32):=d 32;have f:MF ⟨#[32,9]⟩ ⟨#[c]⟩ 1=(c == 9):=d 9;have o:(⟨#[32,9]⟩:Str).length=2:=rfl;have p:(⟨#[c]⟩:Str).length=1:=rfl;have j:N3 0 3=[0,1,2]:=rfl;simp only[o,p,SS,SR,O0,Nat.reduceAdd,Nat.div_one,j];have g:MF ⟨#[32,9]⟩ ⟨#[c]⟩=λi=>Nat.rec (c == 32) (λk Z=>Nat.rec (c == 9) (λm Z=>MF ⟨#[32,9]⟩ ⟨#[c]⟩ (m+2)) k) i:=funext λi=>by
  cases i with
  |zero=>exact e
  |succ k=>cases k with
   |zero=>exact f
   |succ m=>rfl
 rw[g];cases c == 32 <;> cases c == 9 <;> rfl
section
mutual
theorem uM(g:Gd):kq (.ref 325) (cV cU):=by
 have e:FnAt 325 (IM "IS_CHARACTER_JUNK") (cJ (a7 8)) (a5 (a7 8)) (a6 (a7 8)) (.ref 324) (.ref 318) :=
  g.fn (oc:=A1) (dO 37 rfl) (by kernel_rfl) (dO 36 rfl) rfl ⟨_,_,rfl,rfl⟩ (by kernel_rfl) (by kernel_rfl)
 have z:=g.qj (dO 37 rfl) rfl ⟨_,rfl⟩;refine⟨λA st QB h=>?_,z.callee,λA st x t Q R k h=>?_⟩
 ·obtain⟨o,fd,M,P,h3⟩:=z;have j {a} (T:W.h₁.get? a=IK o) (hc:o.cls=.type "function"):wI A (.v (.ref a)) st QB :=
   have c:JE (.type "function") (IM "__bool__")=pure none:=by rw[Jz,Jh];kernel_rfl
   have d:JE (.type "function") (IM "__len__")=pure none:=by rw[Jz,Jh];kernel_rfl
   λσ s w hw i r=>by
   subst hw;have B:s.TypeIs (.ref a) "function":=⟨o,i.old.get_of_cls T (by refine(hc).symm▸?_;exact λq=>Jo q),hc⟩
   refine II (wpAny_callSpecial?_none B c ?_);refine II (Ld B d ?_);exact IP ⟨σ,st,.refl i r,h⟩
  exact j M P
 ·refine(qh (names:=[(⟨⟨[99,104]⟩⟩:Str)]) (dn:=[((⟨⟨[119,115]⟩⟩:Str),.str cU 744)]) (dv:=[((⟨⟨[119,115]⟩⟩:Str),.s cU 0)]) g.top (e) (by kernel_rfl) (by kernel_rfl) (by exact b6 9 12 k) (λs ws fd i p u y S=>?_) (λσ n s i=>?_) rfl (by kernel_rfl) λL=>?_).call
  ·obtain⟨fn,fq,fp,U,fs,Y,X,H,Z,G,J,C,E,F,D⟩:=fd;dsimp only at p u y;subst p u y;obtain⟨a,rfl⟩:=sV S;exact .of_defaults rfl (i.old.get_of_cls (g.fields (o:=A2) (dO 35 rfl) (λf q=>JO q)) (λq=>Jo q)) rfl (by rfl) (by rfl)
  ·exact⟨_,_,rfl,⟨744,rfl,λq=>absurd rfl q⟩,rfl⟩
  ·exact(g.snd (by exact R) (by rfl)).Ss h
theorem yT{u os st}:∀k,pd u [] os k st=st:=by
 induction st with
 |nil=>intro k;rfl
 |cons o st a=>intro k;exact congrArg (o:: ·) (a (k+1))
theorem wm{A Q Q' f vs st}(h:b5 A f vs st Q)(k:∀v st,Q v st->Q' v st):b5 A f vs st Q':=λσ s w ws hw a i r =>
 b0 (h σ s w ws hw a i r) λw s₁ d c v x e q=>⟨_,_,x,_,e,k _ _ q⟩
end
theorem gf{A Q f vs st}(c:V.vw ⟨[],[]⟩ f=IK f)(a:V.si ⟨[],[]⟩ vs=IK vs)(h:b5 A f vs [] λv os=>Q (v.up (jK [] 0 st.length)) (st++os.map (O.up (jK [] 0 st.length)))):b5 A f vs st Q :=
 ib (st₂:=[]) ⟨[],[]⟩ rfl ⟨.nil,trivial,trivial,λh q Z=>absurd q (I4 _)⟩ c a (wm h λv os q=>⟨_,_,rfl,by unfold fJ;rw[yT];rfl,q⟩)
noncomputable def dS(a b:Nat):Str:=if b=32/\Na ⟨#[a]⟩=true then⟨#[a]⟩ else⟨#[b]⟩
noncomputable def kept(x y:Str):Str:=OW ⟨⟨[]⟩⟩ (dj dS x y)
mutual
theorem sign_eq(a b:Nat):((⟨#[a]⟩:Str) == ⟨⟨[b]⟩⟩)=decide (a=b):=by
 rw[K9,beq_iff_eq,decide_eq_true_iff];exact⟨λe=>(J8 (congrArg (λx:Str=>x.cps.toList) e)).1,λe=>e▸rfl⟩
theorem wu:eH (cJ (a7 6)) .none [(⟨⟨[115]⟩⟩:Str),Bs]:=by
 rintro⟨⟩ ws c d e h;dsimp only at c d e;subst c d e;obtain⟨a,b,rfl⟩:=pX h
 rfl
theorem zV(g:Gd):FnAt 253 (IM "_keep_original_ws") (cJ (a7 6)) (a5 (a7 6)) (a6 (a7 6)) (.ref 252) (.none) :=
 g.fn (oc:=uv) (dO 28 rfl) (by kernel_rfl) (dO 27 rfl) rfl ⟨_,_,rfl,rfl⟩ (by kernel_rfl) (by kernel_rfl)
end
variable {A:Around}{Q:V->St->Prop}
theorem yd(g:Gd){x y t u}(G:A.handled=none)(d:A.depth+1<recursionLimit)(X:x.length<=sizeLine)(B:QV ⟨⟨[]⟩⟩ (dj dS x y)=true)(h:Q (.s (kept x y) 0) []):b5 A (.v (.ref 253)) [.s x t,.s y u] [] Q:=by
 refine(dg (names:=[(⟨⟨[115]⟩⟩:Str),Bs]) g.top (zV g) (by kernel_rfl) (by kernel_rfl) (by exact b6 9 12 d) wu rfl (by kernel_rfl) λL=>?_).call;have S:=g.snd (A:=A.deeper (Kq (IM "_keep_original_ws") (a6 (a7 6)) L 253 (.ref 252))) (F:=⟨Kq (IM "_keep_original_ws") (a6 (a7 6)) L 253 (.ref 252),[],0⟩) (by exact G) (by rfl);refine c7 1 (S.Ss ?_);refine cD (kL (rN dS (c:=252) (P:=248) g.top (by exact G) (by exact d) rfl g.tabs ?_ (by decide) rfl rfl ?_ rfl rfl rfl (by decide) rfl rfl rfl ?_ (S.E ⟨rfl,rfl⟩) (S.Es ⟨rfl,.mk x y t u ⟨X,B,h⟩⟩)))
 ·exact⟨#[],⟨_,_,g.fields (o:=uv) (dO 27 rfl) (λf q=>JO q),rfl,rfl,rfl⟩,g.fields (o:=xD) (dO 26 rfl) (λf q=>JO q)⟩
 ·decide
 ·intro A' E' w R Y M j J C code bi U p H z;refine wpAny_IfExp (SO (Oa (RU (MG (KQ rfl rfl p z (Pg (eq_str (Nu ?_)))) rfl) rfl)));have kp:∀k,Keeps j {j with toks:=k}:=λk=>⟨j.heap,k,rfl,λZ D e=>e⟩
  rw[sign_eq];by_cases hc:R=32
  ·rw[decide_eq_true hc,if_pos rfl];refine Oa (isTrue_plain (TF (T:="str") rfl rfl rfl Kh M1 PM (MG (KQ rfl rfl p H ⟨Ng _ _ _,λa e=>(nomatch e),callWith_method0 (Te M1 (Ng _ _ _) PySem.F.entry_str_isspace (PySem.F.args_str_isspace_1 _) (gives_str_isspace _ _).meets (Nu ?_))⟩) rfl)) rfl);cases r:Na ⟨#[w]⟩ with
   |false =>
    show(if Na ⟨#[w]⟩=true then _ else _);rw[r,if_neg (by decide),if_neg (by decide)];exact MG (KQ rfl rfl p z ⟨⟨M,by unfold dS;rw[if_neg (λq=>by rw[r] at q;exact IW q.2)]⟩,kp _⟩) rfl
   |true =>
    show(if Na ⟨#[w]⟩=true then _ else _);rw[r,if_pos rfl];refine RW ?_;rw[if_pos rfl];exact MG (KQ rfl rfl p H ⟨⟨Y,by unfold dS;rw[if_pos ⟨hc,r⟩]⟩,kp _⟩) rfl
  ·rw[decide_eq_false hc,if_neg (by decide),if_neg (by decide)];exact MG (KQ rfl rfl p z ⟨⟨M,by unfold dS;rw[if_neg (λq=>hc q.1)]⟩,kp _⟩) rfl
theorem uL(g:Gd){st x y t u}(d:A.handled=none)(a:A.depth+1<recursionLimit)(e:x.length<=sizeLine)(c:QV ⟨⟨[]⟩⟩ (dj dS x y)=true)(h:Q (.s (kept x y) 0) st):b5 A (.v (.ref 253)) [.s x t,.s y u] st Q :=
 gf rfl rfl (yd g d a e c (by rw[MQ,Jj];exact h))
noncomputable def marks(x t:Str):Str:=Qb (kept x t)
noncomputable def below(m:Str):List Str:=if m.length=0 then [] else [jR++m++⟨⟨[10]⟩⟩]
noncomputable def kX(a b c d:Str):List Str:=(mO++a)::(below (marks a c)++(mL++b)::below (marks b d))
structure Fq(x t:Str):Prop where
 l:x.length+4<=sizeLine
 ok:QV ⟨⟨[]⟩⟩ (dj dS x t)=true
 k:(kept x t).length<=sizeLine
 m:(marks x t).length+4<=sizeLine
mutual
theorem o8{m}(h:(m.length != 0)=false):below m=[]:=if_pos (bne_eq_false_iff_eq.mp h)
theorem oZ{m}(h:(m.length != 0)=true):below m=[jR++m++⟨⟨[10]⟩⟩]:=if_neg (bne_iff_ne.mp h)
theorem xU{a:Str}(h:a.length+4<=sizeLine):2+a.length<=sizeLine:=by exact b8 10 20 h
end
noncomputable abbrev AP(a b f g:Str)(c d e kd:Nat):Lc:=[(xM,.s a c),(xK,.s b d),(xJ,.s f e),(xI,.s g kd)]
noncomputable abbrev AQ(L:Addr):dH:=⟨Kq (IM "Differ._qformat") (a6 (cF 7 7)) L 310 (.ref 309),[],0⟩
mutual
theorem DF(g:Gd):FnAt 310 (IM "Differ._qformat") (cJ (cF 7 7)) (a5 (cF 7 7)) (a6 (cF 7 7)) (.ref 309) (.none) :=
 g.fn (oc:=A4) (dO 33 rfl) (by kernel_rfl) (dO 32 rfl) rfl ⟨_,_,rfl,rfl⟩ (by kernel_rfl) (by kernel_rfl)
theorem xn{m:Str}(h:m.length+4<=sizeLine):(Oi++jR).length+m.length<=sizeLine:=by
 rw[MO];exact b8 10 21 h
theorem sE{m}(h:m.length+4<=sizeLine):(Oi++jR++m).length+1<=sizeLine:=by
 rw[MO,MO];exact b8 10 22 h
end
mutual
theorem xm{m}(h:m.length+4<=sizeLine):(Oi++jR++m++⟨⟨[10]⟩⟩).length<=sizeLine:=(MO _ _).symm▸sE h
theorem CP{G Hd c fs c' lc st ys ys' Q}(e:ys=ys')(h:AA G Hd c fs c' lc st ys' Q):AA G Hd c fs c' lc st ys Q:=e▸h
end
mutual
theorem Ci(g:Gd){G L c a b ta tb ka kb kc kd rest Q}(ok:G.Ok)(d:(G.A.over c []).handled=none)(f:G.F=AQ L)(hz:ta.length+4<=sizeLine)(h:Q .next (AP a b ta tb ka kb kc kd) [] rest):AA G ⟨[],[]⟩ c [] (dh (a5 (cF 7 7)) 4) (AP a b ta tb ka kb kc kd) [] (below ta++rest) Q:=by
 obtain⟨i,j,N,k,X,o,ys⟩:=G;dsimp only at f d;subst f;have S:=g.snd (A:=i.over c []) (F:=AQ L) d (by rfl);refine te ok (S.T ⟨K0 hz,Br.mk (λe=>?_) λe=>?_⟩)
 ·refine(oZ e).symm▸?_;exact cZ (gT ok (y:=jR++ta++⟨⟨[10]⟩⟩) rfl rfl rfl rfl rfl (uS (S.E ⟨by decide,yx (S.E ⟨K0 hz,xn hz,S.E ⟨sE hz,xm hz,rfl,eu h⟩⟩)⟩)))
 ·refine(o8 e).symm▸?_;exact eu h
theorem Cg(g:Gd){G L c a b ta tb ka kb kc kd rest Q}(ok:G.Ok)(d:(G.A.over c []).handled=none)(f:G.F=AQ L)(hz:tb.length+4<=sizeLine)(h:Q .next (AP a b ta tb ka kb kc kd) [] rest):AA G ⟨[],[]⟩ c [] (dh (a5 (cF 7 7)) 6) (AP a b ta tb ka kb kc kd) [] (below tb++rest) Q:=by
 obtain⟨i,j,N,k,X,o,ys⟩:=G;dsimp only at f d;subst f;have S:=g.snd (A:=i.over c []) (F:=AQ L) d (by rfl);refine te ok (S.T ⟨K0 hz,Br.mk (λe=>?_) λe=>?_⟩)
 ·refine(oZ e).symm▸?_;exact cZ (gT ok (y:=jR++tb++⟨⟨[10]⟩⟩) rfl rfl rfl rfl rfl (uS (S.E ⟨by decide,yx (S.E ⟨K0 hz,xn hz,S.E ⟨sE hz,xm hz,rfl,eu h⟩⟩)⟩)))
 ·refine(o8 e).symm▸?_;exact eu h
end
theorem vB(g:Gd){a b ta tb L ka kb kc kd}(f:A.handled=none)(c:A.depth+3<recursionLimit)(d:Fq a ta)(e:Fq b tb) :
  qt A (.func (a5 (cF 7 7)) (Kq (IM "Differ._qformat") (a6 (cF 7 7)) L 310 (.ref 309))) (AQ L) (AP a b ta tb ka kb kc kd) (kX a b ta tb):=by
 refine lu λG h j o ok=>?_;obtain⟨p,r,N,u,X,v,ys⟩:=G;dsimp only at h j o;subst h j o;have S:=g.snd (A:=p.over (.func (a5 (cF 7 7)) (Kq (IM "Differ._qformat") (a6 (cF 7 7)) L 310 (.ref 309))) []) (F:=AQ L) (by exact f) (by rfl);have q:p.depth+1+1<recursionLimit:=by exact b8 10 23 c
 refine cZ (fR ok (S.S ?_));refine cZ (fR ok (S.S ⟨(g.qj (dO 28 rfl) rfl ⟨_,rfl⟩).callee,uL g (by exact f) q (K0 d.l) d.ok (lz d.k ?_)⟩));refine cZ (fR ok (S.S ⟨(g.qj (dO 28 rfl) rfl ⟨_,rfl⟩).callee,uL g (by exact f) q (K0 e.l) e.ok (lz e.k ?_)⟩));refine cZ (gT ok (y:=mO++a) rfl rfl rfl rfl rfl (S.E ⟨xU d.l,rfl,?_⟩));refine cZ (Ci g ok (by exact f) rfl d.m ?_);refine cZ (gT ok (y:=mL++b) rfl rfl rfl rfl rfl (S.E ⟨xU e.l,rfl,?_⟩));exact cZ (CP (Jj _).symm (Cg g ok (by exact f) rfl e.m (eu ⟨rfl,.inl rfl⟩)))
mutual
theorem tj(g:Gd):FnAt 268 (IM "Differ.__init__") (cJ (cF 7 1)) (a5 (cF 7 1)) (a6 (cF 7 1)) (.ref 267) (.ref 261) :=
 g.fn (oc:=A5) (dO 31 rfl) (by kernel_rfl) (dO 30 rfl) rfl ⟨_,_,rfl,rfl⟩ (by kernel_rfl) (by kernel_rfl)
theorem An:eH (cJ (cF 7 7)) .none [eV,xM,xK,xJ,xI]:=by
 rintro⟨⟩ ws f g i h;dsimp only at f g i;subst f g i;refine IJ λj=>?_;obtain⟨a,b,c,d,e,rfl⟩:=Em h;refine j ?_
 rfl
end
noncomputable abbrev HG(L:Addr):Code:=.func (a5 (cF 7 7)) (Kq (IM "Differ._qformat") (a6 (cF 7 7)) L 310 (.ref 309))
theorem Cj:u5 AQ:=⟨λZ=>rfl,λZ=>rfl,λZ=>by kernel_rfl,λZ=>rfl,λZ=>rfl⟩
variable {st:St}
theorem rd(g:Gd){v1 v2}(F:A.handled=none)(d:A.depth+2<recursionLimit)(h:Q (.r 1) [.ns [(uF,.v v1),(uE,.v v2)],.inst 313 0]):b5 A (.v (.ref 313)) [.v v1,.v v2] [] Q:=by
 refine IJ λe=>?_;obtain⟨m,c,_⟩:=yA g;obtain⟨of,fd,D,E,X⟩:=g.qj (dO 31 rfl) rfl ⟨_,rfl⟩;refine e ?_;refine rZ c (g.nP (by obtain⟨_,_,_,_,_,_,_,_,_,_,_,_,_,H,_⟩:=c;exact H) (IX (i:=42) (by kernel_rfl))) D E ?_;refine(qh (A:=made A) (names:=[eV,uF,uE]) (dn:=[]) (dv:=[]) g.top (tj g) (by kernel_rfl) (by kernel_rfl) (by exact b8 11 0 d) (λs ws fd i j k p G=>?_) (λσ n s i=>rfl) rfl (by kernel_rfl) λL=>?_).call
 ·obtain⟨fn,T,S,J,U,P,M,B,R,z,C,u,x,y,w⟩:=fd;dsimp only at j k p;subst j k p;refine IJ λe=>?_;obtain⟨a,b,c,rfl⟩:=zM G;refine e ?_;exact .of_defaults rfl (i.old.get_of_cls (g.fields (o:=A6) (dO 29 rfl) (λf q=>JO q)) (λq=>Jo q)) rfl (by rfl) (by rfl)
 ·refine(g.snd (by exact F) (by rfl)).Ss ?_;exact⟨rfl,h⟩
mutual
theorem sQ(g:Gd){v1 v2}(c:A.handled=none)(a:A.depth+2<recursionLimit)(h:Q (.r (st.length+1)) (st++[.ns [(uF,.v v1),(uE,.v v2)],.inst 313 st.length])):b5 A (.v (.ref 313)) [.v v1,.v v2] st Q :=
 gf rfl rfl (rd g c a h)
theorem Al(g:Gd){self a b ta tb ka kb kc kd}(d:A.depth<recursionLimit)(h:∀e,(∀(j:Nat) c L,st[j]?≠IK (.gen e c L))->Q (.r (st.length+1)) ((st++[.frm (AP a b ta tb ka kb kc kd)])++[.gen e HG st.length])) :
  b5 A (.v (.ref 310)) [self,.s a ka,.s b kb,.s ta kc,.s tb kd] st Q :=
 yo (lc:=AP a b ta tb ka kb kc kd) (names:=[eV,xM,xK,xJ,xI]) g.top (DF g) (by kernel_rfl) (by kernel_rfl) d An rfl (by kernel_rfl) ⟨rfl,rfl,rfl,rfl,trivial⟩ h
end
theorem o9(m:Str):(below m).length<=1:=by unfold below;split <;> simp
theorem tD(g:Gd){a b ta tb ka kb kc kd gn}(f:A.handled=none)(d:A.depth+6<recursionLimit)(i:Fq a ta)(k:Fq b tb)(e:∀(j:Nat) c L,st[j]?≠IK (.gen gn c L))(h:Q (.r (st.length+2)) (st++[.gone,.gone,.list (cE (kX a b ta tb))])) :
  b5 A (.g .list) [.r (st.length+1)] ((st++[.frm (AP a b ta tb ka kb kc kd)])++[.gen gn HG st.length]) Q:=by
 refine call_list_gen (FF:=AQ) g.top f (by exact b6 9 12 d) Cj e rfl ?_ (λL=>vB g f (by exact b8 11 1 d) i k) h;unfold kX;rw[JA,IL,JA];have:4<=sizeLine:=by decide
 exact b6 11 2 this (o9 (marks a ta)) (o9 (marks b tb))
noncomputable def vP(tag:Str)(x:Str):Bool:=[(⟨⟨[32,32]⟩⟩:Str),tag].any (· == KO x none (IK 2))
noncomputable def restOf(tag:Str)(ds:List Str):List Str:=(ds.filter (vP tag)).map λx=>KO x (IK 2) none
mutual
theorem vx{tag}{ds:List Str}{k x}(h:ds[k]?=IK x):restOf tag (ds.drop k)=if vP tag x=true then KO x (IK 2) none::restOf tag (ds.drop (k+1)) else restOf tag (ds.drop (k+1)):=by
 obtain⟨a,rfl⟩:=List.getElem?_eq_some_iff.mp h;unfold restOf;rw[J7 a,Pa]
 split <;> rfl
theorem sG(g:Gd):FnAt 332 (IM "restore") (cJ (a7 9)) (a5 (a7 9)) (a6 (a7 9)) (.ref 331) (.none) :=
 g.fn (oc:=A0) (dO 39 rfl) (by kernel_rfl) (dO 38 rfl) rfl ⟨_,_,rfl,rfl⟩ (by kernel_rfl) (by kernel_rfl)
end
noncomputable abbrev mE(L:Addr):dH:=⟨Kq (IM "restore") (a6 (a7 9)) L 332 (.ref 331),[],0⟩
noncomputable abbrev qO(L:Addr):Code:=.func (a5 (a7 9)) (Kq (IM "restore") (a6 (a7 9)) L 332 (.ref 331))
mutual
theorem wt:eH (cJ (a7 9)) .none [qZ,xH]:=by
 rintro⟨⟩ ws c d e h;dsimp only at c d e;subst c d e;obtain⟨a,b,rfl⟩:=pX h
 rfl
theorem xt:u5 mE:=⟨λZ=>rfl,λZ=>rfl,λZ=>by kernel_rfl,λZ=>rfl,λZ=>rfl⟩
end
noncomputable abbrev n9(ds:List Str)(n:Int):Lc:=[(qZ,.l (cE ds)),(xH,.i n)]
noncomputable def ik(n:Int):Str:=if n=1 then mO else mL
theorem qN(g:Gd){n ds L Q}(a:A.handled=none)(d:n=1∨n=2)(h:∀o,Q .next (n9 ds n++[((⟨⟨[116,97,103]⟩⟩:Str),.s (ik n) 0)]) [o]):∀ {F:dH} {c:Stmt},F=mE L->c=dh (a5 (a7 9)) 1->eG A F c (n9 ds n) [] Q:=by
 rintro F c rfl rfl;have S:=g.snd (F:=mE L) a (by rfl);refine CQ ?_;refine S.Ss ?_;refine uT (knd:=TM W.prog W.w) (mk:=.dicti) (l:=[(1,.s mO 0),(2,.s mL 0)]) g.top dict_int ?_ ?_ ?_ ?_ ?_ ?_ ?_
 ·kernel_rfl
 ·kernel_rfl
 ·exact λq=>nomatch q
 ·decide
 ·decide
 ·exact⟨S.E ⟨jY,rfl⟩,S.E ⟨rfl,rfl⟩,S.E ⟨jY,rfl⟩,S.E ⟨rfl,rfl⟩,trivial⟩
 ·refine yN (ng dict_int rfl jY (v:=.s (ik n) 0) ?_ ?_)
  ·rcases d with rfl | rfl <;> rfl
  ·exact qk (h _)
theorem lQ.sub{G Hd σ lc lc₂ st ys s₀ s}(g:lQ G Hd σ lc st ys s₀ s)(h:ip lc lc₂):lQ G Hd σ lc₂ st ys s₀ s:={g with p:=⟨g.p.i,g.p.r,g.p.f.sub h⟩}
theorem yu{G Hd c fs l lc lc₂ st ys Q}(h:ip lc lc₂)(q:kQ G Hd c fs l lc₂ st ys Q):kQ G Hd c fs l lc st ys Q:=λK d e i σ s₀ s a f g=>q K d e i σ s₀ s a f (g.sub h)
theorem ip.set{lc l x v}(h:ip lc l)(a:(l.all λp=> !(p.1 == x))=true):ip (lc.set x v) ((x,v)::l):=by
 refine⟨by rw[Lc.f5,beq_self_eq_true];rfl,?_⟩
 induction l with
 |nil=>trivial
 |cons p l c =>
  rw[Nd,Ke] at a;refine⟨?_,c h.2 a.2⟩;rw[Lc.f5];cases e:p.1 == x with
  |true=>rw[e] at a;exact IW a.1
  |false=>exact h.1
mutual
theorem Ac{G Hd c fs l l' lc st ys Q}(e:l=l')(h:kQ G Hd c fs l' lc st ys Q):kQ G Hd c fs l lc st ys Q:=e▸h
theorem vA:a5 (a7 9)=[dh (a5 (a7 9)) 0,dh (a5 (a7 9)) 1,dh (a5 (a7 9)) 2,dh (a5 (a7 9)) 3]:=by kernel_rfl
end
theorem mD(g:Gd){n ds L}(H:A.handled=none)(M:n=1∨n=2)(hz:∀x∈ds,x.length<=sizeLine) :
  qt A (qO L) (mE L) (n9 ds n) (restOf (ik n) ds):=by
 refine lu λG c d h ok=>?_;obtain⟨j,Q,N,R,X,U,ys⟩:=G;dsimp only at c d h;subst c d h;have a:(j.over (qO L) []).handled=none:=H;have S:=g.snd (A:=j.over (qO L) []) (F:=mE L) a (by rfl);refine Ac vA ?_;generalize q:dh (a5 (a7 9)) 1=P;refine cZ (fR ok (S.S ?_));refine cZ (fR ok (qN (L:=L) g a M (λo=>?_) rfl q.symm));refine cZ (fR ok (S.S ?_));refine cZ ?_;refine Ad (items:=cE ds) (λk lc ys=>ip lc [((⟨⟨[112,114,101,102,105,120,101,115]⟩⟩:Str),.t (cE [(⟨⟨[32,32]⟩⟩:Str),ik n]))]/\ys=restOf (ik n) (ds.drop k)) g.top ok rfl rfl rfl a rfl ?_ (λc' p B q C D Y k v lc ys hk r=>?_) λlc ys r=>?_
 ·refine S.E ?_;exact⟨rfl,rfl,⟨rfl,trivial⟩,rfl⟩
 ·replace hk:=Jt▸hk;obtain⟨x,z,rfl⟩:=Ln.mp hk;obtain⟨J,f⟩:=r;have i:=hz x (IX z);have es:=vx (tag:=ik n) z;refine yu (J.set (x:=(⟨⟨[108,105,110,101]⟩⟩:Str)) (v:=.s x 0) (by rfl)) ?_;have w:=g.snd (A:=j.over c' p) (F:=mE L) D (by rfl);refine cZ ?_;refine te ok ?_;refine w.T ?_;refine⟨i,in_tuple (Br.mk (λu=>?_) λu=>?_)⟩
  ·rw[if_pos (show vP (ik n) x=true from u)] at es;refine cZ ?_;refine gT ok (y:=KO x (IK 2) none) (l:=restOf (ik n) (ds.drop (k+1))) (f.trans es) q C rfl rfl ?_;refine w.E ?_;exact⟨i,rfl,eu (eu ⟨.inl rfl,rfl,⟨rfl,trivial⟩,rfl⟩)⟩
  ·rw[if_neg (show ¬vP (ik n) x=true from λe=>IW (u.symm.trans e))] at es;exact eu (eu ⟨.inl rfl,rfl,⟨rfl,trivial⟩,f.trans es⟩)
 ·obtain⟨_,f⟩:=r;rw[IZ,KV (IQ _)] at f;exact eu ⟨f,.inl rfl⟩
noncomputable def tx(l:List Nat):Str:=⟨l.toArray⟩
mutual
theorem dy(l m:List Nat):tx l++tx m=tx (l++m):=by
 show(⟨l.toArray++m.toArray⟩:Str)=_
 congr 1
 exact List.append_toArray ..
theorem a8(l:List Nat):(tx l).length=l.length:=KN ..
end
structure P5 where
 p0:List Nat
 p1:List Nat
 p2:List Nat
 p3:List Nat
 p4:List Nat
noncomputable def P5.start:P5:=⟨[],[],[61],[],[32]⟩
noncomputable def P5.vals(p:P5):List V:=[.s (tx p.p0) 0,.s (tx p.p1) 0,.s (tx p.p2) 0,.s (tx p.p3) 0,.s (tx p.p4) 0]
noncomputable def P5.sz(p:P5):Nat:=p.p0.length+p.p1.length+p.p2.length+p.p3.length+p.p4.length
noncomputable def dD(n:Int):Nat:=if(n.fdiv 8).fmod 2=0 then 32 else 9
noncomputable def mw(n:Int):Nat:=[61,59,97,98,99].getD ((n.fdiv 8).fmod 5).toNat 0
noncomputable def x3(n:Int)(p:P5):P5:=if n.fmod 8=0∨n.fmod 8=2 then {p with p0:=p.p0++[dD n]} else p
noncomputable def xZ(n:Int)(p:P5):P5:=if n.fmod 8=1∨n.fmod 8=2 then {p with p1:=p.p1++[dD n]} else p
noncomputable def xY(n:Int)(p:P5):P5:=if n.fmod 8=3 then {p with p2:=p.p2++[mw n]} else p
noncomputable def xX(n:Int)(p:P5):P5:=if n.fmod 8=4 then {p with p2:=p.p2++[dD n]} else p
noncomputable def xW(n:Int)(p:P5):P5:=if n.fmod 8=5∨n.fmod 8=6 then(if n.fmod 8=5 then {p with p3:=p.p3++[dD n]} else {p with p4:=p.p4++[dD n]}) else p
noncomputable def P5.step(p:P5)(n:Int):P5:=xW n (xX n (xY n (xZ n (x3 n p))))
noncomputable def d8:List Int->List P5->P5->List P5
 |[],a,p=>a++[p]
 |n::l,a,p=>if n.fmod 8=7 then d8 l (a++[p.step n]) P5.start else d8 l a (p.step n)
theorem Cv(n:Int)(l:List Int)(a:List P5)(p:P5):d8 (n::l) a p=if n.fmod 8=7 then d8 l (a++[p.step n]) P5.start else d8 l a (p.step n):=rfl
noncomputable def linesOf(ns:List Int):List P5:=d8 ns [] P5.start
theorem f7(n m:Int)(a:0<m):0<=n.fmod m/\n.fmod m<m:=by
 refine(Int.fmod_eq_emod_of_nonneg _ (NT a)).symm▸?_;exact⟨Int.emod_nonneg _ (Int.ne_of_gt a),Int.emod_lt_of_pos _ a⟩
mutual
theorem wK(n:Int):(chars (⟨⟨[32,9]⟩⟩:Str))[((n.fdiv 8).fmod 2).toNat]?=IK (tx [dD n]):=by
 obtain⟨a,c⟩:=f7 (n.fdiv 8) 2 (by decide);unfold dD;have:(n.fdiv 8).fmod 2=0∨(n.fdiv 8).fmod 2=1:=by exact fT 11 3 a c
 rcases this with e | e <;> (refine(e).symm▸?_;rfl)
theorem uh(n:Int):(chars (⟨⟨[61,59,97,98,99]⟩⟩:Str))[((n.fdiv 8).fmod 5).toNat]?=IK (tx [mw n]):=by
 obtain⟨a,c⟩:=f7 (n.fdiv 8) 5 (by decide);unfold mw;have:(n.fdiv 8).fmod 5=0∨(n.fdiv 8).fmod 5=1∨(n.fdiv 8).fmod 5=2∨(n.fdiv 8).fmod 5=3∨(n.fdiv 8).fmod 5=4:=by exact fT 11 4 a c
 rcases this with e | e | e | e | e <;> (refine(e).symm▸?_;rfl)
end
noncomputable abbrev jW(L:Addr):dH:=⟨Kq (IM "_law_lines") (a6 (a7 11)) L 339 (.ref 338),[],0⟩
noncomputable def rk(i:Nat):Stmt:=dh (c9 (dh (a5 (a7 11)) 1)) i
noncomputable abbrev nR(vs:List V)(n:Int):Lc:=[(iC,.l vs),(mK,.r 0),((⟨⟨[120]⟩⟩:Str),.i n),((⟨⟨[112,97,114,116]⟩⟩:Str),.r 1),((⟨⟨[107,105,110,100]⟩⟩:Str),.i (n.fmod 8)),((⟨⟨[119,104,105,116,101]⟩⟩:Str),.s (tx [dD n]) 0)]
noncomputable abbrev jc(done:List P5)(p:P5):St:=[.list (done.map (λp=>.l p.vals)++[.r 1]),.list p.vals]
end
section
variable {A:Around}{Q:Fl->Lc->St->Prop}
theorem fD{F o ix value tpos pos a vs i}{k:Nat}{t u x y lc}(T:cB)(hi:∀e d new,augStore ix e d new=(do Mh [new,e,d] (TH e d new);release [new,e,d] [];pure .next))(j:∀c:V->St->Prop,c (.r 1) [a,.list vs]->c8 A F o lc [a,.list vs] c)(q:∀c:V->St->Prop,c (.i i) [a,.list vs]->c8 A F ix lc [a,.list vs] c)(p:∀c:V->St->Prop,c (.s (tx y) u) [a,.list vs]->c8 A F value lc [a,.list vs] c)(g:i=(k:Int))(f:vs[k]?=IK (.s (tx x) t))(hz:x.length+y.length<=sizeLine)(h:Q .next lc [a,.list (vs.set k (.s (tx (x++y)) 0))]):eG A F (.AugAssign (.Subscript o ix tpos) .Add value pos) lc [a,.list vs] Q:=by
 subst g;refine th hi (j _ (q _ (z0 rfl (Kc k) (by rw[JD];exact f) (p _ (oD (op:=.Add) (a:=.s (tx x) t) (b:=.s (tx y) u) ⟨by rw[a8,a8];exact hz,set_list T rfl (Kc k) (by rw[JD];exact((List.getElem?_eq_some_iff.mp f).1)) ?_⟩)))));rw[JD,dy];exact h
mutual
theorem wF{a}{b:Int}(h:(a == b)=true):a=b:=eq_of_beq h
theorem zd{a}{b:Int}(h:(a == b)=false):¬a=b:=λe=>by rw[e,beq_self_eq_true] at h;exact IW h
end
mutual
theorem El(g:Gd){L vs n done p}(f:A.handled=none)(hz:p.sz+1<=sizeLine)(h:∀e,e=x3 n p->Q .next (nR vs n) (jc done e)):eG A (jW L) (rk 2) (nR vs n) (jc done p) Q:=by
 have S:=g.snd (F:=jW L) f (by rfl);unfold P5.sz at hz;refine S.S ?_;refine Br.mk (λc=>?_) λc=>Br.mk (λd=>?_) λd=>?_
 ·refine fD (u:=0) (k:=0) (y:=[dD n]) g.top (λZ D i=>rfl) (λa q=>?_) (λa q=>?_) (λa q=>?_) rfl rfl (by exact qu 11 5 hz) ?_
  ·refine S.E ?_;exact q
  ·refine S.E ?_;exact q
  ·refine S.E ?_;exact q
  ·exact h _ (if_pos (.inl (wF c))).symm
 ·refine fD (u:=0) (k:=0) (y:=[dD n]) g.top (λZ D i=>rfl) (λa q=>?_) (λa q=>?_) (λa q=>?_) rfl rfl (by show _+1<=_;exact qu 11 5 hz) ?_
  ·refine S.E ?_;exact q
  ·refine S.E ?_;exact q
  ·refine S.E ?_;exact q
  ·exact h _ (if_pos (.inr (wF d))).symm
 ·exact h _ (if_neg (λq=>q.elim (zd c) (zd d))).symm
theorem Ej(g:Gd){L vs n done p}(f:A.handled=none)(hz:p.sz+1<=sizeLine)(h:∀e,e=xZ n p->Q .next (nR vs n) (jc done e)):eG A (jW L) (rk 3) (nR vs n) (jc done p) Q:=by
 have S:=g.snd (F:=jW L) f (by rfl);unfold P5.sz at hz;refine S.S ?_;refine Br.mk (λc=>?_) λc=>Br.mk (λd=>?_) λd=>?_
 ·refine fD (u:=0) (k:=1) (y:=[dD n]) g.top (λZ D i=>rfl) (λa q=>?_) (λa q=>?_) (λa q=>?_) rfl rfl (by exact qu 11 6 hz) ?_
  ·refine S.E ?_;exact q
  ·refine S.E ?_;exact q
  ·refine S.E ?_;exact q
  ·exact h _ (if_pos (.inl (wF c))).symm
 ·refine fD (u:=0) (k:=1) (y:=[dD n]) g.top (λZ D i=>rfl) (λa q=>?_) (λa q=>?_) (λa q=>?_) rfl rfl (by show _+1<=_;exact qu 11 6 hz) ?_
  ·refine S.E ?_;exact q
  ·refine S.E ?_;exact q
  ·refine S.E ?_;exact q
  ·exact h _ (if_pos (.inr (wF d))).symm
 ·exact h _ (if_neg (λq=>q.elim (zd c) (zd d))).symm
theorem Ei(g:Gd){L vs n done p}(e:A.handled=none)(hz:p.sz+1<=sizeLine)(h:∀d,d=xY n p->Q .next (nR vs n) (jc done d)):eG A (jW L) (rk 4) (nR vs n) (jc done p) Q:=by
 have S:=g.snd (F:=jW L) e (by rfl);unfold P5.sz at hz;refine S.S ?_;refine Br.mk (λc=>?_) λc=>?_
 ·refine fD (u:=0) (k:=2) (y:=[mw n]) g.top (λZ D f=>rfl) (λa q=>?_) (λa q=>?_) (λa q=>?_) rfl rfl (by exact ja 11 7 hz) ?_
  ·refine S.E ?_;exact q
  ·refine S.E ?_;exact q
  ·refine S.E ?_;exact⟨by decide,PO (by decide),by decide,by decide,dq (n:=((n.fdiv 8).fmod 5).toNat) (LX (f7 _ 5 (by decide)).1).symm (uh n) q⟩
  ·exact h _ (if_pos (wF c)).symm
 ·exact h _ (if_neg (zd c)).symm
theorem Eh(g:Gd){L vs n done p}(e:A.handled=none)(hz:p.sz+1<=sizeLine)(h:∀d,d=xX n p->Q .next (nR vs n) (jc done d)):eG A (jW L) (rk 5) (nR vs n) (jc done p) Q:=by
 have S:=g.snd (F:=jW L) e (by rfl);unfold P5.sz at hz;refine S.S ?_;refine Br.mk (λc=>?_) λc=>?_
 ·refine fD (u:=0) (k:=2) (y:=[dD n]) g.top (λZ D f=>rfl) (λa q=>?_) (λa q=>?_) (λa q=>?_) rfl rfl (by exact ja 11 7 hz) ?_
  ·refine S.E ?_;exact q
  ·refine S.E ?_;exact q
  ·refine S.E ?_;exact q
  ·exact h _ (if_pos (wF c)).symm
 ·exact h _ (if_neg (zd c)).symm
theorem Eg(g:Gd){L vs n done p}(f:A.handled=none)(hz:p.sz+1<=sizeLine)(h:∀e,e=xW n p->Q .next (nR vs n) (jc done e)):eG A (jW L) (rk 6) (nR vs n) (jc done p) Q:=by
 have S:=g.snd (F:=jW L) f (by rfl);unfold P5.sz at hz;refine S.S ?_;refine Br.mk (λc=>?_) λc=>Br.mk (λd=>?_) λd=>?_
 ·refine fD (u:=0) (i:=n.fmod 8-2) (k:=3) (y:=[dD n]) g.top (λZ D j=>rfl) (λa q=>?_) (λa q=>?_) (λa q=>?_) (by rw[wF c];rfl) rfl (by exact fc 11 8 hz) ?_
  ·refine S.E ?_;exact q
  ·refine S.E ?_;exact q
  ·refine S.E ?_;exact q
  ·exact h _ ((if_pos (.inl (wF c))).trans (if_pos (wF c))).symm
 ·refine fD (u:=0) (i:=n.fmod 8-2) (k:=4) (y:=[dD n]) g.top (λZ D j=>rfl) (λa q=>?_) (λa q=>?_) (λa q=>?_) (by rw[wF d];rfl) rfl (by exact cO 11 9 hz) ?_
  ·refine S.E ?_;exact q
  ·refine S.E ?_;exact q
  ·refine S.E ?_;exact q
  ·exact h _ ((if_pos (.inr (wF d))).trans (if_neg (zd c))).symm
 ·exact h _ (if_neg (λq=>q.elim (zd c) (zd d))).symm
end
mutual
theorem Cy{n p}:(x3 n p).sz<=p.sz+1/\(xZ n p).sz<=p.sz+1/\(xY n p).sz<=p.sz+1/\(xX n p).sz<=p.sz+1/\(xW n p).sz<=p.sz+1:=by
 delta x3 xZ xY xX xW P5.sz;refine⟨?_,?_,?_,?_,?_⟩ <;> (repeat' split) <;> (try simp only[IL,K3]) <;> omega
theorem ym{vs v R}(h:R v):eY (vs++[v]) (-1) R:=by
 refine .mk v vs.length ?_ (List.getElem?_concat_length ..) h;refine(IL).symm▸?_;unfold Mp;refine(((show(-1:Int)+((vs.length+[v].length:Nat):Int)=(vs.length:Nat) from by exact ec 11 10):(if(-1:Int)<0 then(-1:Int)+((vs.length+[v].length:Nat):Int) else -1)=(vs.length:Nat))).symm▸?_;refine(if_pos ?_).trans (congrArg IK (JD _));rw[Ke];exact⟨decide_eq_true (Kc _),decide_eq_true (Int.ofNat_lt.mpr (Jg _))⟩
theorem kx{m}{done:List P5}{l l'}(h:V.si m l=IK l'):V.si m (done.map (λp=>.l p.vals)++l)=IK (done.map (λp=>.l p.vals)++l'):=by
 induction done with
 |nil=>exact h
 |cons p done a=>exact congrArg (JZ _) a
theorem dK{m vs us}(h:V.si m vs=IK us):O.vw m (.list vs)=IK (.list us):=congrArg (JZ O.list) h
theorem Gq:([0,2]:List Nat).Nodup:=by decide
theorem Gn:1∉([0,2]:List Nat):=by decide
theorem Ec:([0,1]:List Nat).Nodup:=by decide
theorem P5.pure(p:P5):iM p.vals:=λZ L D a q=>q
end
theorem rI{vs:List V}:∀n:Nat,(J4 n).filterMap (vs[·]?)=vs.take n
 |0=>rfl
 |n+1=>by
  rw[Pq,QS,rI n,OR]
  congr 1
set_option tactic.hygienic true in
theorem xf(n:Nat):Pj 0 (n:Int) 1=J4 n:=by
 unfold Pj;have e:(if(1:Int) > 0 then(if(0:Int)<n then((n:Int)-0+1-1) / 1 else 0) else(if(0:Int) > n then(0-(n:Int)-1-1) / (-1) else 0))=n:=by
  refine(if_pos (by decide)).trans ?_
  split
  ·rw[Int.ediv_one,Int.sub_zero,Int.add_sub_cancel]
  ·rename_i h
   exact S6 (Kc n) (Int.not_lt.mp h)
 dsimp only;rw[e,JD];refine(Kn λk Z=>?_).trans (N7 _);have a {c}:((Mz ((0:Int)+((1:Int)*((c:Nat):Int))))=c):=b8 11 21 (toN _);exact a
end
section
variable {A:Around}{Q:V->St->Prop}
theorem tE(g:Gd){st ns}(G:A.handled=none)(u:A.depth+1<recursionLimit)(Y:ns.length<=63)(h:Q (.l ((linesOf ns).map λp=>.l p.vals)) st):b5 A (.v (.ref 339)) [.l (ns.map V.i)] st Q :=
 have d {A} {Q:V->St->Prop} {ns} (G:A.handled=none) (u:A.depth+1<recursionLimit) (Y:ns.length<=63) (h:Q (.l ((linesOf ns).map λp=>.l p.vals)) []):b5 A (.v (.ref 339)) [.l (ns.map V.i)] [] Q:=by
  have C:FnAt 339 (IM "_law_lines") (cJ (a7 11)) (a5 (a7 11)) (a6 (a7 11)) (.ref 338) (.none) :=
   g.fn (oc:=AZ) (dO 41 rfl) (by kernel_rfl) (dO 40 rfl) rfl ⟨_,_,rfl,rfl⟩ (by kernel_rfl) (by kernel_rfl)
  have H {A F e lc st Q} (h:c8 A F e lc st (GW st.length Q)):c8 A F e lc st Q:=λσ s p=>b0 (h σ s p) λw s₁ ah ag v x hv q=>by
   obtain⟨m,R,st₂,h,T,q⟩:=q;exact⟨_,st₂,(x.ir.trans (h.step (X:=dY) x.inv x.rel)).iQ (IQ _),R,h.os.at_.1▸eP (h.ml.ok x.rel) v R T w hv,q⟩
  have k:eH (cJ (a7 11)) .none [iC]:=by
   rintro⟨⟩ ws e1 e2 e3 h;dsimp only at e1 e2 e3;subst e1 e2 e3;obtain⟨a,rfl⟩:=sV h
   rfl
  have aa:([1,0]:List Nat).Nodup:=by decide
  have ab:2∉([0,1]:List Nat):=by decide
  have J:∀h,h<2->([0,1]:List Nat)[h]?=IK h:=by decide
  have y (l:List Int):iM (l.map V.i):=fk (f:=V.i) (λZ D zz zy zx q=>q) l;have o (l:List P5):iM (l.map λp=>V.l p.vals):=fk (f:=λp:P5=>V.l p.vals) (λZ D zz zy zx q=>q) l;have M {vs} {n:Nat} (h:vs.length<=n):B5 vs none (IK (n:Int)) none=vs:=by
   have e:MT none (IK (n:Int)) none vs.length=(0,(vs.length:Int),1):=by
    have e1:(if(1:Int) > 0 then max (0:Int) (min (if(n:Int)<0 then(n:Int)+vs.length else(n:Int)) vs.length) else max (-1) (min (if(n:Int)<0 then(n:Int)+vs.length else(n:Int)) ((vs.length:Int)-1)))=vs.length:=by
     rw[if_pos (by decide),if_neg (by exact ec 11 22)];exact b8 11 23 h
    exact congrArg (λx=>((0:Int),x,(1:Int))) e1
   unfold B5;rw[e];show(Pj 0 (vs.length:Int) 1).filterMap _=_;rw[xf,rI,Nk]
  refine iZ ((dg (names:=[iC]) g.top (C) (by kernel_rfl) (by kernel_rfl) (by exact b6 9 12 u) k rfl (by kernel_rfl) λL=>?_).call);have S:=g.snd (A:=A.deeper (Kq (IM "_law_lines") (a6 (a7 11)) L 339 (.ref 338))) (F:=jW L) (by exact G) (by rfl);refine c7 1 (S.Ss ?_);refine lY ⟨⟨[1,0],[]⟩,.next,[(iC,.l (ns.map V.i)),(mK,.r 0)],jc [] P5.start,⟨aa,.vw rfl rfl (.vw rfl rfl trivial),trivial,λh q Z=>absurd q (I4 _)⟩,rfl,Ak,.of rfl,?_⟩;refine cD (h9 rfl ?_);refine H ?_;refine S.E ?_;have ac:B5 (ns.map V.i) none (IK (63:Int)) none=ns.map V.i:=M (n:=63) (by rw[IZ];exact Y);have hz:63<=sizeLine:=by decide
  refine⟨by rw[IZ];exact IT Y hz,⟨[0,1],[(2,ns.map V.i)]⟩,.l (ns.map V.i),jc [] P5.start,⟨Ec,.vw rfl rfl (.vw rfl rfl trivial),⟨⟨IQ _,ab,congrArg (λl=>IK (O.list l)) ac,y ns⟩,trivial⟩,λh q Z=>J h q⟩,rfl,rfl,_,_,iG g.top (by exact G) cS,trivial,?_⟩;have j {A Q vs ps} (G:A.handled=none) (hQ:∀done p,done++[p]=ps->Q .next [(iC,.l vs),(mK,.r 0)] (jc done p)) :
    ∀(ms:List Int) (done:List P5) (p:P5),d8 ms done p=ps->done.length+ms.length<=100->p.sz+5*ms.length<=1000 ->
     dG (λZ=>True) (dN A (jW L) (fu (dh (a5 (a7 11)) 1))) (cK A (jW L) (c9 (dh (a5 (a7 11)) 1))) Q (ms.map V.i) [(iC,.l vs),(mK,.r 0)] (jc done p):=by
   intro ms
   induction ms with
   |nil=>exact λdone p e Z D=>⟨trivial,hQ done p e⟩
   |cons n ms ih =>
    intro done p e h1 P;have h1:done.length+(ms.length+1)<=100:=h1;have P:p.sz+5*(ms.length+1)<=1000:=P;have B:2000<=sizeLine:=by decide
    have S:=g.snd (F:=jW L) G (by rfl);refine⟨trivial,S.As (rL (c7 2 (S.Ss ?_)))⟩;refine⟨by decide,nc (S.E ⟨1,rfl,ym ?_⟩)⟩;refine⟨by decide,PO (by decide),by decide,by decide,dq (n:=((n.fdiv 8).fmod 2).toNat) (LX (f7 _ 2 (by decide)).1).symm (wK n) ?_⟩;have z:=@Cy n;refine cD (El g G (by exact b6 11 11 B P) λp2 e2=>?_);have U:=(@z p).1;have U:=(e2).symm▸U;refine cD (Ej g G (by exact cO 11 12 B P U) λp3 e3=>?_);have z3:=(@z p2).2.1;have z3:=(e3).symm▸z3;refine cD (Ei g G (by exact fc 11 13 B P U z3) λp4 e4=>?_);have z4:=(@z p3).2.2.1;have z4:=(e4).symm▸z4;refine cD (Eh g G (by exact ja 11 14 B P U z3 z4) λp5 e5=>?_);have z5:=(@z p4).2.2.2.1;have z5:=(e5).symm▸z5;refine cD (Eg g G (by exact qu 11 15 P B U z3 z4 z5) λp6 e6=>?_);have z6:=(@z p5).2.2.2.2;rw[<-e6] at z6;have ep:p.step n=p6:=by refine(e6).symm▸?_;refine(e5).symm▸?_;refine(e4).symm▸?_;refine(e3).symm▸?_;refine(e2).symm▸?_;rfl
    rw[Cv,ep] at e;refine S.Ss (Br.mk (λc=>?_) λc=>?_)
    ·rw[if_pos (wF c)] at e;refine⟨by rw[IL,IZ];exact b6 11 16 B (by assumption),?_⟩;refine⟨⟨[0,2],[(1,p6.vals)]⟩,.next,[(iC,.l vs),(mK,.r 0)],jc (done++[p6]) P5.start,⟨Gq,.vw rfl (dK ?_) (.vw rfl rfl trivial),⟨⟨Ji _,Gn,rfl,p6.pure⟩,trivial⟩,λh q Z=>absurd q (I4 _)⟩,rfl,Ak,.of rfl,ih _ _ e (by rw[IL];exact cO 11 17 h1) (by exact b6 11 18 h1)⟩;rw[I1,Jb,I1];exact kx rfl
    ·rw[if_neg (zd c)] at e;refine⟨⟨[0,1],[]⟩,.next,[(iC,.l vs),(mK,.r 0)],jc done p6,⟨Ec,.vw rfl (dK (kx rfl)) (.vw rfl rfl trivial),trivial,λh q Z=>absurd q (I4 _)⟩,rfl,Ak,.of rfl,ih _ _ e (by exact cO 11 19 h1) (by exact Dc 11 20 P U z3 z4 z5 z6)⟩
  refine j (by exact G) (λdone p e=>?_) ns [] P5.start rfl (by exact ec 12 0 Y) (by exact ec 12 1 Y);have af:1∉([0]:List Nat):=by decide
  have ae:([0]:List Nat).Nodup:=by decide
  refine lY ⟨⟨[0],[(1,p.vals)]⟩,.next,[(mK,.r 0)],[.list ((linesOf ns).map λp=>.l p.vals)],⟨ae,.vw rfl (dK ?_) trivial,⟨⟨Ji _,af,rfl,p.pure⟩,trivial⟩,λh q Z=>absurd q (I4 _)⟩,rfl,Ak,.of rfl,?_⟩
  ·rw[show linesOf ns=done++[p] from e.symm,Jb];exact kx rfl
  refine S.Ss ?_;exact⟨⟨[],[(0,(linesOf ns).map λp=>.l p.vals)]⟩,_,[],⟨.nil,trivial,⟨⟨IQ 0,Jf,rfl,o _⟩,trivial⟩,λh q Z=>absurd q (I4 _)⟩,rfl,h⟩
 gf rfl rfl (d G u Y (by rw[MQ,Jj];exact h))
noncomputable def b7:List Nat->List Nat->Nat
 |[],Z=>0
 |a::l,m=>match m with
  |[]=>0
  |b::m=>if a=b then b7 l m+1 else 0
mutual
theorem tN{l m:List Nat}{n a b}(e:l[n]?=IK a)(f:m[n]?=IK b):b7 (l.drop n) (m.drop n)=if a=b then b7 (l.drop (n+1)) (m.drop (n+1))+1 else 0:=by
 obtain⟨c,rfl⟩:=List.getElem?_eq_some_iff.mp e;obtain⟨d,rfl⟩:=List.getElem?_eq_some_iff.mp f;rw[J7 c,J7 d];rfl
theorem pe{l m:List Nat}{n}(h:l.length<=n∨m.length<=n):b7 (l.drop n) (m.drop n)=0:=by
 rcases h with h | h
 ·rw[KV h];rfl
 ·rw[KV h];cases l.drop n <;> rfl
theorem AH{l}{k:Nat}{c}(h:l[k]?=IK c):(chars (tx l))[k]?=IK (tx [c]):=by
 show((tx l).cps.toList.map λc=>(⟨#[c]⟩:Str))[k]?=_;refine(Jt).trans ?_;show(l[k]?).map _=_;refine(h).symm▸?_;rfl
theorem pB(a b:Nat):(tx [a] == tx [b])=decide (a=b):=sign_eq a b
theorem tJ:eH (cJ (a7 12)) .none [uB,uA]:=by
 rintro⟨⟩ ws c d e h;dsimp only at c d e;subst c d e;obtain⟨a,b,rfl⟩:=pX h
 rfl
theorem yZ(g:Gd):FnAt 346 (IM "_law_alike") (cJ (a7 12)) (a5 (a7 12)) (a6 (a7 12)) (.ref 345) (.none) :=
 g.fn (oc:=AY) (dO 43 rfl) (by kernel_rfl) (dO 42 rfl) rfl ⟨_,_,rfl,rfl⟩ (by kernel_rfl) (by kernel_rfl)
end
noncomputable abbrev GU(L:Addr)(n:Nat):dH:=⟨Kq (IM "_law_alike") (a6 (a7 12)) L 346 (.ref 345),[],n⟩
noncomputable abbrev GS(a b:List Nat)(t u k:Nat):Lc:=[(uA,.s (tx b) u),(uB,.s (tx a) t),(uC,.i k)]
inductive Hs(a b:List Nat)(t u:Nat)(st0:St)(n:Nat)(lc:Lc)(st:St):Prop
 |mk (k:Nat) (hn:n=a.length-k) (e:k+b7 (a.drop k) (b.drop k)=b7 a b) (hl:lc=GS a b t u k) (hs:st=st0)
theorem jH(g:Gd){st a b t u}(B:A.handled=none)(c:A.depth<recursionLimit)(x:a.length<=sizeLine)(y:b.length<=sizeLine)(h:Q (.i (b7 a b)) st):b5 A (.v (.ref 346)) [.s (tx a) t,.s (tx b) u] st Q:=by
 refine(dg (names:=[uB,uA]) g.top (yZ g) (by kernel_rfl) (by kernel_rfl) c tJ rfl (by kernel_rfl) λL=>?_).call;have S:=g.snd (A:=A.deeper (Kq (IM "_law_alike") (a6 (a7 12)) L 346 (.ref 345))) (F:=GU L st.length) (by exact B) (by rfl);refine c7 1 (S.Ss ?_);refine cD ?_;refine gb (Hs a b t u st) (λn lc st' I=>?_) a.length ⟨0,rfl,JK _,rfl,rfl⟩;obtain⟨k,C,q,rfl,rfl⟩:=I;have fin:b7 (a.drop k) (b.drop k)=0->Q (.i k) st':=λe=>by
  rw[e,Lv] at q;refine(q).symm▸?_;exact h
 have d:=a8 a;have f:=a8 b;refine S.T ?_;refine⟨by rw[d];exact x,Br.mk (λj=>?_) λj=>S.Ss (fin (pe (.inl ?_)))⟩
 ·refine⟨by rw[f];exact y,Br.mk (λo=>?_) λo=>S.Ss (fin (pe (.inr ?_)))⟩
  ·have z:k<a.length:=by have:=of_decide_eq_true j;exact b6 12 2 this d
   have D:k<b.length:=by have:=of_decide_eq_true o;exact b6 12 2 this f
   have r:=IV z;have w:=IV D;refine⟨by rw[d];exact x,dq (n:=k) rfl (AH r) ⟨by rw[f];exact y,dq (n:=k) rfl (AH w) ?_⟩⟩;have es:=tN r w;refine Br.mk (λp=>?_) λp=>S.Ss (fin ?_)
   ·rw[if_pos (of_decide_eq_true ((pB _ _).symm.trans p))] at es;refine S.Ss ?_;exact⟨a.length-(k+1),by exact b6 12 3 z C,k+1,rfl,by exact fc 12 4 q es,rfl,rfl⟩
   ·rw[if_neg (of_decide_eq_false ((pB _ _).symm.trans p))] at es;exact es
  ·have:=of_decide_eq_false o;exact b6 12 5 f this
 ·have:=of_decide_eq_false j;exact b6 12 5 d this
theorem gq(l:List Nat):(tx l).cps.toList=l:=rfl
theorem su(l m:List Nat):(tx l == tx m)=decide (l=m):=by
 rw[K9,beq_iff_eq,decide_eq_true_iff];have a (h:tx l=tx m):l=m:=by
  have:=congrArg (λx:Str=>x.cps.toList) h
  rwa [gq,gq] at this
 exact⟨a,λe=>e▸rfl⟩
noncomputable def gC(n:Nat)(v:Option Int)(d:Nat):Nat:=match v with
 |none=>d
 |some i=>(max 0 (min (if i<0 then i+n else i) n)).toNat
theorem qP(l:List Nat)(a m:Nat)(h:a+m<=l.length):((J4 m).map (a + ·)).filterMap (λk=>l[k]?)=(l.drop a).take m:=by
 induction m with
 |zero=>simp
 |succ m c =>
  rw[Pq,Jb,QS,c (by exact cO 11 19 h),OR,Rq];simp [IV (show a+m<l.length from by exact b6 17 2 h)]
set_option tactic.hygienic true in
theorem jM(l:List Nat)(lo hi:Option Int):KO (tx l) lo hi=tx ((l.drop (gC l.length lo 0)).take (gC l.length hi l.length-gC l.length lo 0)):=by
 unfold KO;have f (lo hi:Option Int) (n:Nat):Lo lo hi 1 n=(J4 (gC n hi n-gC n lo 0)).map (gC n lo 0 + ·):=by
  rw[<-sliceRange_one];delta Lo gC;have j {x0}:((max (0:Int) x0)=(((Mz (max (0:Int) x0)):Nat):Int)):=tV 17 1 (toN _);cases lo <;> cases hi <;> dsimp only <;> simp only[show(1:Int) > 0 by decide,if_true] <;> congr 1 <;> (first | rfl | (split <;> exact j))
 rw[a8,f,IZ,J9];have c (n:Nat) (v:Option Int) (d:Nat) (hd:d<=n):gC n v d<=n:=by
  cases v with
  |none=>exact hd
  |some i=>exact Int.toNat_le.mpr (Int.max_le.mpr ⟨Kc n,Int.min_le_right ..⟩)
 have q:=c l.length lo 0 (Ji _);have o:=c l.length hi l.length (IQ _);generalize gC l.length lo 0=a at q ⊢;generalize gC l.length hi l.length=b at o ⊢
 split
 ·rename_i h
  simp only[Ke,beq_iff_eq] at h;have r:=h.2;by_cases p:l=[]
  ·subst p;simp
  ·have:0<l.length:=List.length_pos_iff.mpr p;have:a=0:=by exact b6 17 3 this h.2 o
   subst this;rw[Mk,KU (by exact b8 0 14 h.2)]
 ·have e:(fun(x:Nat)=>(tx l).cps[x]?)=fun(k:Nat)=>l[k]?:=by
   funext k
   show l.toArray[k]?=_;exact(Ms).symm▸rfl
  refine(e).symm▸?_;by_cases g:a<=b
  ·rw[qP l a (b-a) (by exact b6 17 4 g o)];rfl
  ·rw[show b-a=0 by exact b8 12 17 g];simp [tx]
mutual
theorem g4(l:List Nat)(n:Nat):KO (tx l) none (IK (n:Int))=tx (l.take n):=by
 have a {d c x0} (e:(¬(d<=c))):(c<=(Mz (max x0 (min ((d:Nat):Int) ((c:Nat):Int))))):=Dl 17 6 (toN _) e;rw[jM];unfold gC;simp only[Mk,O0]
 congr 1
 rw[if_neg (by exact ec 11 22)];by_cases h:n<=l.length
 ·congr 1;exact D4 h
 ·rw[KU (by exact a h),KU (by exact b8 17 7 h)]
theorem mu(l:List Nat)(n:Nat):KO (tx l) (IK (n:Int)) none=tx (l.drop n):=by
 have a {d c} (e:(¬(d<=c))):((Mz (max (0:Int) (min ((d:Nat):Int) ((c:Nat):Int))))=c):=b6 17 8 (toN _) e;rw[jM];unfold gC;simp only[]
 congr 1
 rw[if_neg (by exact ec 11 22)];by_cases h:n<=l.length
 ·rw[show(max 0 (min (n:Int) l.length)).toNat=n by exact D4 h,KU (by rw[Ku];exact IQ _)]
 ·rw[show(max 0 (min (n:Int) l.length)).toNat=l.length by exact a h,KV (IQ _),KV (by exact b8 17 7 h),List.take_nil]
theorem sC(l:List Nat):KO (tx l) (IK (-1)) none=tx (l.drop (l.length-1)):=by
 rw[jM];unfold gC;simp only[]
 congr 1
 rw[if_pos (by exact BY 17 9),show(max 0 (min (-1+(l.length:Int)) l.length)).toNat=l.length-1 by exact D3,KU (by rw[Ku];exact IQ _)]
theorem nO(l:List Nat):KO (tx l) none (IK (-1))=tx (l.take (l.length-1)):=by
 rw[jM];unfold gC;simp only[Mk,O0]
 congr 1
 rw[if_pos (by exact BY 17 9),show(max 0 (min (-1+(l.length:Int)) l.length)).toNat=l.length-1 by exact D3]
theorem xx(l:List Nat):picks (tx l) none none (IK (-1))=tx l.reverse:=by
 delta picks So tx
 congr 2
 have e:Lo (JZ (λx=>x.1) (JZ (λx:Int=>(x,(0:PY))) none)) (JZ (λx=>x.1) (JZ (λx:Int=>(x,(0:PY))) none)) ((JZ (λx=>x.1) (JZ (λx:Int=>(x,(0:PY))) (IK (-1)))).getD 1) (tx l).length=(J4 l.length).map λk=>l.length-1-k:=by
  rw[a8];exact picked_rev l.length
 refine(congrArg (List.filterMap _) e).trans ?_;apply M8;intro k;have d:(J4 l.length).map (λk=>l.length-1-k)=(J4 l.length).reverse:=by
  apply M8;intro j;by_cases a:j<l.length
  ·rw[Jt,Oo a,NW (by rw[J9];exact a),J9,Oo (by exact b8 6 21 a)];rfl
  ·rw[Ka (by simp;exact b8 0 17 a),Ka (by simp;exact b8 0 17 a)]
 refine(d).symm▸?_;refine(List.filterMap_reverse).symm▸?_
 congr 2
 have:=qP l 0 l.length (by exact ec 17 11);simp only[JK,List.map_id',Mk,Nk] at this;have c:(fun(x:Nat)=>(({cps:=l.toArray}:Str)).cps[x]?)=fun(k:Nat)=>l[k]?:=by
  funext k
  exact(Ms)
 rw[c];exact this
theorem Co(c n:Nat):NJ (tx [c]) (n:Int)=tx (Jl n c):=by
 unfold NJ;have e:∀(m:Nat) (a:Array Nat),(Jl m #[c]).foldl (· ++ ·) a=a++(Jl m c).toArray:=by
  intro m
  induction m with
  |zero=>intro a;simp
  |succ m g =>
   intro a;rw[LS,Ma,g,LS,Array.append_assoc]
   congr 1
   apply Array.ext';simp
 by_cases d:(n:Int)<1
 ·refine(if_pos d).trans ?_;have:n=0:=by exact ec 17 12 d
  subst this;rfl
 ·refine(if_neg d).symm▸?_;by_cases f:n=1
  ·subst f
   rfl
  ·refine(if_neg (by simp [a8];exact ec 17 13 f)).trans ?_;show(⟨(Jl n #[c]).foldl (· ++ ·) #[]⟩:Str)=_;rw[e];simp [tx]
end
theorem rt:∀l:List (List Nat),Tg (⟨⟨[]⟩⟩) (l.map tx)=tx l.flatten
 |[]=>rfl
 |[c]=>by simp [Tg]
 |c::d::l=>by
  have a:=rt (d::l);show tx c++⟨⟨[]⟩⟩++Tg (⟨⟨[]⟩⟩) ((d::l).map tx)=_;rw[a];have:tx c++⟨⟨[]⟩⟩=tx c:=by
   show(⟨c.toArray++#[]⟩:Str)=_;simp [tx]
  rw[this,dy];rfl
theorem uN(l:List (List Nat)):OW (⟨⟨[]⟩⟩) (l.map tx)=tx l.flatten:=by
 refine(eq_of_beq (join_plain_closes _ _)).symm▸?_;exact rt l
noncomputable def cL(ws:Nat->Bool)(l:List Nat):List Nat:=l.take (l.length-(l.reverse.takeWhile ws).length)
mutual
theorem kA(l:List Nat):Qb (tx l)=tx (cL JV l):=by
 unfold Qb;rw[Ut];show U0 (tx l) 0 (stripHi JV true (tx l) 0)=_;delta stripHi cL;rw[if_pos rfl,Mk,gq,a8,strSub_mk];simp [tx]
theorem qH(ws:Nat->Bool)(l:List Nat)(c:Nat):cL ws (l++[c])=if ws c then cL ws l else l++[c]:=by
 unfold cL;refine(Rf).symm▸?_;refine(List.reverse_singleton).symm▸?_;refine(QR).symm▸?_;refine(Om).symm▸?_
 split
 ·refine(JA).symm▸?_;refine(IL).symm▸?_;refine(K3).symm▸?_;have:=(List.takeWhile_sublist ws (l:=l.reverse)).length_le;rw[JM] at this;rw[show l.length+1-((l.reverse.takeWhile ws).length+1)=l.length-(l.reverse.takeWhile ws).length by exact b6 17 14,List.take_append_of_le_length (by exact b8 17 15)]
 ·refine(NQ).symm▸?_;rw[O0,Nk]
theorem jL{ws ws' l}(h:∀c∈l,ws c=ws' c):cL ws l=cL ws' l:=by
 unfold cL;have:l.reverse.takeWhile ws=l.reverse.takeWhile ws':=by
  have d:∀m:List Nat,(∀c∈m,ws c=ws' c)->m.takeWhile ws=m.takeWhile ws':=by
   intro m
   induction m with
   |nil=>intro _;rfl
   |cons a m f =>
    intro e;rw[Om,Om,e a (Je ..),f λc hc=>e c (Jm _ hc)]
  exact d _ λc hc=>h c (List.mem_reverse.mp hc)
 exact(this).symm▸rfl
theorem oC{A tgt vs}(T:cB)(M:A.handled=none):nK A tgt (.t vs) (λZ=>True) vs:=by
 intro σ st s w ⟨l,items,m,e,_,c,_,y⟩ hd i r;subst e;have G:=i.size;refine wpAny_pyIter_tuple ⟨_,c,rfl,m,rfl⟩ ⟨(· =s.heap.objs.size),λk h=>h.IsTupleIter s.heap.objs.size l k,λk s P E h Q=>wpAny_pyIter_tupleiter h Q,⟨λb e=>e▸i.size,λk h b j e=>by obtain⟨o,c,hc,_⟩:=j;exact⟨o,e▸c,b9 hc⟩,λk h h' p C=>by obtain⟨o,c,hc,hd⟩:=p;exact⟨o,C _ rfl o c,hc,hd⟩,λk v a d s₁ C z hd hw off i r=>?_,λa d s₁ z hd hw off i r=>?_⟩,⟨_,I0 _ rfl,rfl,rfl⟩,λb e=>Js e.symm,d6 i r⟩
 ·obtain⟨l',items,m,e,_,c,_,y⟩:=hw;cases e;obtain⟨u,H,J⟩:=y.get C;refine wpAny_pyNext_tuple_item z ⟨_,c,rfl,m,rfl⟩ (by refine(Ju)▸?_;exact H) λh' f F=>⟨u,rfl,?_⟩
  have g:=f;refine IJ λU=>?_;obtain⟨o',D,B,_⟩:=g;refine U ?_;refine fY D B (by decide) ?_;have x:=fU (X:=(· =s.heap.objs.size)) (k:=s₁.toks) T i r G rfl (off _ rfl).1 (off _ rfl).2 F (IQ _);exact⟨a,x,RV.mono x.x (λb hz=>⟨λe=>(off b e).1 hz,r.zoff b hz⟩) v u J,f⟩
 ·obtain⟨l',items,m,e,_,c,_,y⟩:=hw;cases e;have R:items[vs.length]?=none:=by rw[LJ];refine(I3 ..)▸?_;refine(y.len ..).symm▸?_;exact IQ _
  exact cG (wpAny_pyNext_tuple_end M z ⟨_,c,rfl,m,rfl⟩ R λh' S hz=>⟨rfl,dJ T i r G rfl (off _ rfl) (λb o q e=>S b o q e) hz (IQ _)⟩)
theorem B8(g:Gd):Fp 351 (IM "_law_row") (cJ (a7 13)) (a5 (a7 13)) (a6 (a7 13)) (.ref 350) (.none) :=
 g.GG (oc:=AX) (dO 45 rfl) (by kernel_rfl) (dO 44 rfl) rfl ⟨_,_,rfl,rfl⟩ (by kernel_rfl)
theorem yR(s:IY)(fd:LH)(ws:List Value)(c:fd.params=cJ (a7 13))(d:fd.defaults=.none)(e:fd.kwdefaults=.none)(h:ws.length=2):PX s fd ⟨ws,[]⟩ ([fG,uz].zip ws):=by
 obtain⟨fn,x,w,q,y,u,r,o,v,k,p,f,i,j,g⟩:=fd;dsimp only at c d e;subst c d e;obtain⟨a,b,rfl⟩:=pX h;exact .of_eq (by rfl)
theorem oJ{A Q a q params body scope cd dflt}{names:List Str}{ns vs st}(T:cB)(f:Fp a q params body scope cd dflt)(j:scope.isCoroutine=false)(d:scope.isGenerator=false)(c:A.depth<recursionLimit)(g:∀(L:Addr) i x,ns[i]?=IK x->(NZ (L+1) scope.names []).lookup x=IK (L+1+i))(k:∀x∈ns,scope.names.lookup x=IK .cell)(w:∀(s:IY) (fd:LH) (ws:List Value),fd.params=params->fd.defaults=dflt->fd.kwdefaults=.none->ws.length=names.length->PX s fd ⟨ws,[]⟩ (names.zip ws))(z:vs.length=names.length)(y:(names.all λx=>j4 (scope.names.lookup x) || ns.contains x)=true)(h:∀L,cK (A.deeper (kh q scope L a cd)) ⟨kh q scope L a cd,tw st.length ns,st.length⟩ body (names.zip vs).reverse (st++ns.map λx=>.cell ((names.zip vs).reverse.lookup x)) λv Z o=>Q (sF v) o):jv A a vs st Q :=
 yp T f ns j d c g k (λσ n s ws fd i e p r u=>⟨names.zip ws,w s fd ws p r u (e.len.trans z),RB.zip e,λx B=>(Bool.or_eq_true_iff.mp (Pc.mp y _ (L7 B).1)).imp fE List.contains_iff_mem.mp⟩) h
theorem n8(L:Addr):NZ (L+1) (a6 (a7 13)).names []=[(jh,L+1+1),(fG,L+1)]:=by rfl
end
theorem Ca(L:Addr):∀(i:Nat) x,[fG,jh][i]?=IK x->(NZ (L+1) (a6 (a7 13)).names []).lookup x=IK (L+1+i):=λi x h=>by
 rw[n8]
 match i,h with
 |0,h=>cases h;rfl
 |1,h=>cases h;rfl
noncomputable abbrev fh(L:Addr):dH:=⟨kh (IM "_law_row") (a6 (a7 13)) L 351 (.ref 350),[(fG,0),(jh,1)],0⟩
structure fB(vals:List V)(s:Int)(a a' c x x':List Nat):Prop where
 side:s=0∨s=1
 v0:vals[s.toNat]?=IK (.s (tx a) 0)
 v1:vals[(1-s).toNat]?=IK (.s (tx a') 0)
 v2:vals[2]?=IK (.s (tx c) 0)
 v3:vals[(3+s).toNat]?=IK (.s (tx x) 0)
 v4:vals[(3+(1-s)).toNat]?=IK (.s (tx x') 0)
 la:a.length<=200
 la':a'.length<=200
 lc:c.length<=200
 lx:x.length<=200
 lx':x'.length<=200
noncomputable abbrev vv(s:Int):Lc:=[(uz,.i s),((⟨⟨[111,116,104,101,114]⟩⟩:Str),.i (1-s))]
noncomputable abbrev gH(vals:List V)(e:Nat):St:=[.cell (IK (.l vals)),.cell (IK (.i e))]
mutual
theorem DD(g:Gd){L vals s a a' c x x' Q}(f:A.handled=none)(d:A.depth<recursionLimit)(P:fB vals s a a' c x x')(h:Q .next (vv s) (gH vals (b7 a.reverse a'.reverse))) :
  cK A (fh L) ((a5 (a7 13)).take 2) [(uz,.i s),(fG,.l vals)] [.cell (IK (.l vals)),.cell none] Q:=by
 have S:=g.snd (F:=fh L) f (by rfl);have hz:200<=sizeLine:=by decide
 have j:0<=s:=by have:=P.side;exact fT 12 6 this
 have k:0<=1-s:=by have:=P.side;exact fT 12 7 this
 have e:∀ {l:List Nat},Dg (tx l) none none (IK (-1))=tx l.reverse:=λ{l}=>xx l;refine fH (S.Ss ?_);refine⟨(g.qj (dO 43 rfl) rfl ⟨_,rfl⟩).callee,?_⟩;refine eY.at j P.v0 ?_;refine nc (S.E ⟨1,rfl,?_⟩);refine pJ (by rw[a8];exact IT P.la hz) rfl (by refine(e ..).symm▸?_;rw[a8,JM];exact IT P.la hz) ?_;refine(e).symm▸?_;refine eY.at k P.v1 ?_;refine nc (S.E ⟨1,rfl,?_⟩);refine pJ (by rw[a8];exact IT P.la' hz) rfl (by refine(e ..).symm▸?_;rw[a8,JM];exact IT P.la' hz) ?_;refine(e ..).symm▸?_;refine jH g f d (by rw[JM];exact IT P.la hz) (by rw[JM];exact IT P.la' hz) ?_;exact⟨vv s,⟨rfl,rfl,trivial⟩,h⟩
theorem lr{F lc st Q targets value pos}(i:U4 targets value pos.line F.env=pure false)(hw:MN targets value F.env=pure none)(g:targets.all cN=true)(h:c8 A F value lc st λv a=>pq A F targets v lc a (Q .next)):eG A F (.Assign targets value pos) lc st Q:=by
 intro σ s p;refine SP (b0 (h σ s p) λw s₁ d a v c j q=>?_) i hw;refine(ia F.env g).symm▸?_;refine(JB).symm▸?_;exact fO (gM targets v w lc a d s₁ j q (p.step c)) λu f e lc₂ st₂ x fr q=>⟨e,lc₂,st₂,(c.iQ.trans x).ir,fr,.next,rfl,q⟩
end
noncomputable abbrev xp:List (Str×Nat):=[(fG,0),(jh,1)]
theorem B9{L}:∀y h,xp.lookup y=IK h->(fh L).ce.lookup y=IK h/\([(fG,L+1),(jh,L+1+1)]:List (Str×Addr)).lookup y=(fh L).env.cells.lookup y:=λy h e=>by
 refine⟨e,?_⟩;have:(fh L).env.cells=[(jh,L+1+1),(fG,L+1)]:=n8 L;refine(this).symm▸?_;have e:=gR e;rcases Tq.mp e with e | e
 ·rw[(Lg e).1];rfl
 ·rw[(Lg (OB.mp e)).1];rfl
noncomputable def iJ(s:Stmt):Expr:=(y9 s).2.1
noncomputable def GI:Expr->Expr×Expr×Scope
 |.ListComp e g s p=>(e,.ListComp e g s p,s)
 |.Call Z a L D=>(.Constant .none 0 ⟨0,0,0,0⟩,a.headD (.Constant .none 0 ⟨0,0,0,0⟩),default)
 |_=>(.Constant .none 0 ⟨0,0,0,0⟩,.Constant .none 0 ⟨0,0,0,0⟩,default)
noncomputable def uU(e:Expr):Expr:=(GI e).1
noncomputable def tn(e:Expr):Scope:=(GI e).2.2
noncomputable abbrev Ce(L C:Addr):dH:=nq (fh L) (tn (iJ (dh (a5 (a7 13)) 2))) [(fG,L+1),(jh,L+1+1)] xp C
theorem ui(g:Gd){L C vals acc k y e Q}(j:A.handled=none)(c:0<=k)(d:vals[k.toNat]?=IK (.s (tx y) 0))(f:y.length<=200)(o:e<=y.length)(h:Q (.s (tx (y.take (y.length-e))) 0) (gH vals e++[.list acc])) :
  c8 A (Ce L C) (uU (iJ (dh (a5 (a7 13)) 2))) [((⟨⟨[107]⟩⟩:Str),.i k)] (gH vals e++[.list acc]) Q:=by
 have hz:200<=sizeLine:=by decide
 refine(g.snd (F:=Ce L C) j (by rfl)).E ?_;refine eY.at c d (eY.at c d ?_);have a:=a8 y;have es:KO (tx y) none (IK ((((tx y).length:Nat):Int)-(e:Int)))=tx (y.take (y.length-e)):=by
  rw[a,<-TY o];exact g4 y _
 refine⟨by rw[a];exact IT f hz,by rw[a];exact IT f hz,?_⟩;rw[es];exact h
theorem DC(g:Gd){L vals s a a' c x x' e Q}(d:A.handled=none)(f:A.depth<recursionLimit)(P:fB vals s a a' c x x')(i:e<=a.length/\e<=a'.length)(h:∀o,Q .next (vv s++[(xG,.s (tx (a.take (a.length-e))) 0),(xF,.s (tx (a'.take (a'.length-e))) 0)]) (gH vals e++[o])) :
  eG A (fh L) (dh (a5 (a7 13)) 2) (vv s) (gH vals e) Q:=by
 have S:=g.snd (F:=fh L) d (by rfl);refine lr (by kernel_rfl) (by rfl) rfl ?_;refine l0 (cl:=[(fG,L+1),(jh,L+1+1)]) (ce:=xp) g.top (by rfl) (by kernel_rfl) rfl B9 ?_;refine S.E ?_;refine .mk _ _ (oC g.top d) trivial λC=>?_;have hz:2<sizeLine:=by decide
 have K:=g.snd (F:=Ce L C) d (by rfl);refine⟨trivial,K.As (Br.mk (λZ=>?_) λq=>IW q)⟩;refine ui g d (show 0<=s from by have:=P.side;exact fT 12 6 this) P.v0 P.la i.1 ⟨by exact b8 10 2 hz,trivial,K.As (Br.mk (λZ=>?_) λq=>IW q)⟩;refine ui g d (show 0<=1-s from by have:=P.side;exact fT 12 7 this) P.v1 P.la' i.2 ⟨by exact ec 12 8 hz,trivial,?_⟩;refine S.Am ?_;refine fS (items:=[.s (tx (a.take (a.length-e))) 0,.s (tx (a'.take (a'.length-e))) 0]) rfl ?_ rfl ?_
 ·exact t5 (items:=[.s (tx (a.take (a.length-e))) 0,.s (tx (a'.take (a'.length-e))) 0]) d (cY (h:=2)) rfl
 refine S.Av ?_;exact h _
noncomputable def fN(s:Int):Nat:=if s=0 then 45 else 43
theorem dm:∀l m:List Nat,b7 l m<=l.length/\b7 l m<=m.length
 |[],Z=>⟨Ji _,Ji _⟩
 |Z::L,[]=>⟨Ji _,Ji _⟩
 |a::l,b::m=>by
  have:=dm l m;have e:b7 (a::l) (b::m)=if a=b then b7 l m+1 else 0:=rfl;refine(e).symm▸?_;by_cases h:a=b
  ·rw[if_pos h];exact⟨Kf this.1,Kf this.2⟩
  ·rw[if_neg h];exact⟨Ji _,Ji _⟩
theorem Dx{s}(h:s=0∨s=1):(chars (⟨⟨[45,43]⟩⟩:Str))[s.toNat]?=IK (tx [fN s]):=by
 rcases h with rfl | rfl <;> rfl
noncomputable abbrev fW(s:Int)(o o':List Nat)(fr bk:Nat):Lc:=vv s++[(xG,.s (tx o) 0),(xF,.s (tx o') 0),((⟨⟨[102,114,111,110,116]⟩⟩:Str),.i fr),((⟨⟨[98,97,99,107]⟩⟩:Str),.i bk),((⟨⟨[97,108,111,110,101]⟩⟩:Str),.s (tx [fN s]) 0)]
noncomputable def eK(o':List Nat)(fr n a:Nat):List Nat:=Jl (n-fr) (if fr<o'.length then 94 else a)
mutual
theorem nQ{x}{n:Int}(a:x.length=1)(e:0<=n)(d:n<=sizeLine):UX x n:=by
 have:=eI;refine⟨?_,λc Z=>?_,λc Z=>?_⟩
 ·simp only[N8,decide_eq_false_iff_not];omega
 ·rw[a];have:(1:Int)<=(2 ^ 63-1) / n:=Int.le_ediv_of_mul_le (show(0:Int)<n from by exact fT 12 12 c) (by exact l6 12 13 (NS d (by decide):(n:Int)<=2 ^ 63-1));exact fT 12 14 this
 ·rw[a,Rc];unfold UZ;simp;assumption
theorem lU(c x y:Nat):NJ (tx [c]) ((x:Int)-(y:Int))=tx (Jl (x-y) c):=by
 by_cases h:y<=x
 ·rw[show(x:Int)-(y:Int)=((x-y:Nat):Int) by exact b8 12 15 h,Co]
 ·unfold NJ;refine(if_pos (by exact b8 12 16 h)).trans ?_;refine(show x-y=0 by exact b8 12 17 h).symm▸?_;rfl
end
theorem lV{x n}(d:x.length=1)(c : -1000<=n)(a:n<=1000):UX x n:=by
 by_cases h:0<=n
 ·exact nQ d h (by exact tV 12 18 (show sizeLine=16777216 from by decide) a)
 ·refine⟨?_,λq=>absurd (by exact fT 12 19 h) q,λq=>absurd (by exact fT 12 19 h) q⟩;rw[N8];exact⟨decide_eq_false (Int.not_lt.mpr (NS (show -(2 ^ 63:Int)<= -1000 by decide) c)),decide_eq_false (Int.not_lt.mpr (NS a (show(1000:Int)<=2 ^ 63-1 by decide)))⟩
mutual
theorem DB(g:Gd){L vals s a a' c x x' o o' e ob Q}(f:A.handled=none)(d:A.depth<recursionLimit)(P:fB vals s a a' c x x')(lo:o.length<=200)(j:o'.length<=200)(h:Q .next (fW s o o' (b7 o o') (b7 x x')) (gH vals e++[ob])) :
  cK A (fh L) (((a5 (a7 13)).drop 3).take 3) (vv s++[(xG,.s (tx o) 0),(xF,.s (tx o') 0)]) (gH vals e++[ob]) Q:=by
 have hz:200<=sizeLine:=by decide
 have k:0<=s:=by have:=P.side;exact fT 12 6 this
 have p:0<=3+s:=by exact l6 12 20 k
 have q:0<=3+(1-s):=by have:=P.side;exact fT 12 21 this
 have ck:Callee (.v (.ref 346)):=(g.qj (dO 43 rfl) rfl ⟨_,rfl⟩).callee;refine(g.snd (F:=fh L) f (by rfl)).Ss ?_;refine⟨ck,?_⟩;refine jH g f d (IT lo hz) (IT j hz) ?_;refine⟨ck,?_⟩;refine eY.at p P.v3 ?_;refine eY.at q P.v4 ?_;refine jH g f d (IT P.lx hz) (IT P.lx' hz) ?_;refine⟨by decide,?_⟩;refine dq (n:=s.toNat) (LX k).symm (Dx P.side) ?_;exact h
theorem DA(g:Gd){L vals s a a' c x x' o o' e fr bk ob Q}(v:A.handled=none)(P:fB vals s a a' c x x')(lo:o.length<=200)(i:o'.length<=200)(y:fr<=o.length)(h:Q .next (fW s o o' fr bk++[(kC,.s (tx (o.take fr++eK o' fr o.length (fN s)++a.drop o.length)) 0)]) (gH vals e++[ob])) :
  cK A (fh L) (((a5 (a7 13)).drop 6).take 3) (fW s o o' fr bk) (gH vals e++[ob]) Q:=by
 have S:=g.snd (F:=fh L) v (by rfl);have hz:2000<=sizeLine:=by decide
 have u:0<=s:=by have:=P.side;exact fT 12 6 this
 have la:=P.la;have p:∀w,UX (tx [w]) (((tx o).length:Int)-(fr:Int)):=λw=>lV (a8 [w]) (by rw[a8];exact b8 12 22 y) (by rw[a8];exact b8 12 23 lo);have k : ∀w,w=(if fr<o'.length then 94 else fN s)->NJ (tx [w]) (((tx o).length:Int)-(fr:Int))=tx (eK o' fr o.length (fN s)):=λw q=>by
  rw[a8 o,lU,q];rfl
 have f:(eK o' fr o.length (fN s)).length<=200:=by unfold eK;rw[Kr];exact b6 13 0 lo
 have lt:(o.take fr).length<=200:=by rw[Jq];exact b6 13 1 lo
 have fin:∀r,r=o.take fr++eK o' fr o.length (fN s)->cK A (fh L) (((a5 (a7 13)).drop 8).take 1) (fW s o o' fr bk++[(kC,.s (tx r) 0)]) (gH vals e++[ob]) (FJ Q):=λr j=>by
  have z:r.length<=400:=by rw[j,IL];exact b8 13 2 lt f
  refine S.Ss ?_;refine eY.at u P.v0 ?_;refine⟨by rw[a8];exact b8 13 3 hz lo,by rw[a8];exact b8 13 3 hz la,?_⟩;rw[a8 o,mu];refine⟨by rw[a8,a8,Ku];exact cO 13 4 hz la z,?_⟩;rw[dy];refine(j).symm▸?_;refine⟨_,?_,h⟩;exact .of rfl
 refine fH (c7 2 (S.Ss ?_));refine⟨by rw[a8];exact b8 13 3 hz lo,?_⟩;rw[g4];refine⟨by rw[a8];exact b8 13 3 hz i,Br.mk (λd=>⟨by rw[a8];exact b8 13 3 hz lo,p 94,?_⟩) λd=>⟨by rw[a8];exact b8 13 3 hz lo,p (fN s),?_⟩⟩
 ·have:=of_decide_eq_true d;rw[a8] at this;refine(((k 94) (if_pos (by exact b8 13 5 this)).symm:NJ ⟨⟨[94]⟩⟩ (((tx o).length:Int)-(fr:Int))=_)).symm▸?_;refine⟨by rw[a8,a8];exact b6 13 6 hz lt f,?_⟩;rw[dy];exact fin _ rfl
 ·have:=of_decide_eq_false d;rw[a8] at this;refine((k (fN s)) (if_neg (by exact b8 13 7 this)).symm).symm▸?_;refine⟨by rw[a8,a8];exact b6 13 6 hz lt f,?_⟩;rw[dy];exact fin _ rfl
end
noncomputable def dM(c:Nat):Bool:=c == 32 || c == 9
noncomputable def eZ(l:List Nat):List Nat:=l.map λt=>if dM t then t else 32
mutual
theorem Dz(g:Gd){L vals s a a' c x x' o o' r e fr bk ob Q}(B:A.handled=none)(P:fB vals s a a' c x x')(hr:r.length<=600)(h:Q .next (fW s o o' fr bk++[(kC,.s (tx (r++eZ (c++[59]))) 0)]) (gH vals e++[ob])) :
  eG A (fh L) (dh (a5 (a7 13)) 9) (fW s o o' fr bk++[(kC,.s (tx r) 0)]) (gH vals e++[ob]) Q:=by
 have p {A tgt x t} (T:cB) (B:A.handled=none):sh A tgt (.s x t) (λZ=>True) (sgn x) :=
  have f:nK A tgt (.s x t) (λZ=>True) (sgn x):=by
   intro σ st s w ⟨u,e,_⟩ _ i r;subst e;have G:∀(cl:String),xB cl=false->Walks W.prog W.w A s.heap.objs.size [s.heap.objs.size] [s.heap.objs.size] x.cps.size (Tj x) (λi h=>h.IsStrIter s.heap.objs.size cl x u i) ->
     ∃X I,BR A (.ref s.heap.objs.size) I/\qr A tgt (.ref s.heap.objs.size) (.s x t) (.str x u) X (λZ=>True) (sgn x) I/\I 0 (s.heap.push {cls:=.type cl,data:=.fields #[.str x u,.int 0 0]})/\(∀b,X b->s.heap.objs.size<=b)/\Step σ st s σ st {s with heap:=s.heap.push {cls:=.type cl,data:=.fields #[.str x u,.int 0 0]}}:=λcl hc wk=>by
    have wk:=(pK x).symm▸wk;exact⟨_,_,λk s P E h hP=>wk.self k s P E h hP,jm (cl:=cl) T wk i.size (λk v σ n s Y x hx=>xh Y hx) (λk h H=>by obtain⟨o,ho,hc,_⟩:=H;exact⟨o,ho,hc⟩) hc λk h h' J Y=>by obtain⟨o,ho,r⟩:=J;exact⟨o,Y o ho,r⟩,⟨_,I0 _ rfl,rfl,rfl⟩,λb e=>Js e.symm,d6 i r⟩
   cases ha:x.cps.all (· < 128)
   ·exact TB ha (G _ (by decide) (Walks.strWide B _ x u))
   ·exact S8 ha (G _ (by decide) (Walks.strAscii B _ x u))
  (f).iter
 have z (l:List Nat):sgn (tx l)=l.map λt=>.s (tx [t]) 0:=by
  rw[gP];show((tx l).cps.toList.map λc=>(⟨#[c]⟩:Str)).map _=_;refine(JB).trans ?_;rfl
 have j {A} (g:Gd) {L vals s o o' r all e fr bk ob} (B:A.handled=none) (hz:r.length+all.length<=1000) (h:Q .next (fW s o o' fr bk++[(kC,.s (tx (r++eZ all)) 0)]) (gH vals e++[ob])) :
   ∀(d done:List Nat),all=done++d->dG (λZ=>True) (dN A (fh L) (fu (dh (a5 (a7 13)) 9))) (cK A (fh L) (c9 (dh (a5 (a7 13)) 9))) Q (d.map λt=>.s (tx [t]) 0) (fW s o o' fr bk++[(kC,.s (tx (r++eZ done)) 0)]) (gH vals e++[ob]):=by
  have y (l:List Nat) (t:Nat):eZ (l++[t])=eZ l++[if dM t then t else 32]:=Jb ..;intro d
  induction d with
  |nil =>
   intro done C;rw[Jj] at C;subst C;exact⟨trivial,h⟩
  |cons t d M =>
   intro done C;have M:=M (done++[t]) (by rw[C,I1];rfl);have hs:(eZ done).length=done.length:=IZ ..;have S:=g.snd (F:=fh L) B (by rfl);have iw:cV ⟨⟨[32,9]⟩⟩ (tx [t])=dM t:=oE t;have fin : ∀w,w=(if dM t then t else 32)->(tx (r++eZ done)).length+(tx [w]).length<=sizeLine/\tx (r++eZ done)++tx [w]=tx (r++eZ (done++[t])):=λw ew=>by
    rw[a8,a8,dy,y,I1,ew,IL];exact⟨by exact ja 13 8 (show 1001<=sizeLine from by decide) hz (show all.length=done.length+(d.length+1) from by rw[C,IL];rfl) hs,rfl⟩
   refine⟨trivial,S.As (fH (S.Ss ?_))⟩;refine Br.mk (λR=>?_) λR=>?_
   ·obtain⟨U,D⟩:=fin t (if_pos (iw.symm.trans R)).symm;refine⟨U,?_⟩;rw[D];refine⟨_,?_,M⟩;exact .of rfl
   ·obtain⟨U,D⟩:=fin 32 (if_neg (λq=>IW ((iw.symm.trans R).symm.trans q))).symm;refine⟨U,?_⟩;have D:tx (r++eZ done)++⟨⟨[32]⟩⟩=_:=D;rw[D];refine⟨_,?_,M⟩;exact .of rfl
 have hz:1000<=sizeLine:=by decide
 have lc:=P.lc;have T:=j g (L:=L) (vals:=vals) (s:=s) (o:=o) (o':=o') (r:=r) (all:=c++[59]) (e:=e) (fr:=fr) (bk:=bk) (ob:=ob) B (by refine(IL).symm▸?_;exact b8 13 9 lc hr) h (c++[59]) [] rfl;rw[show eZ []=[] from rfl,Jj,<-z] at T;refine h9 rfl ?_;refine(g.snd (F:=fh L) B (by rfl)).E ?_;refine eY.at (by decide) P.v2 ?_;refine⟨by rw[a8];exact b8 13 10 hz lc,?_⟩;rw[show tx c++(⟨⟨[59]⟩⟩:Str)=tx (c++[59]) from dy c [59]];exact⟨rfl,_,_,p g.top B,trivial,T⟩
theorem Cd(g:Gd){L vals s a a' c x x' o o' r e fr bk ob Q}(y:A.handled=none)(P:fB vals s a a' c x x')(B:r.length<=900)(z:bk<=x.length)(h:Q .next (fW s o o' fr bk++[(kC,.s (tx (r++x.take bk++eK x' bk x.length (fN s))) 0)]) (gH vals e++[ob])) :
  cK A (fh L) (((a5 (a7 13)).drop 10).take 2) (fW s o o' fr bk++[(kC,.s (tx r) 0)]) (gH vals e++[ob]) Q:=by
 have hz:2000<=sizeLine:=by decide
 have i:0<=3+s:=by have:=P.side;exact fT 13 11 this
 have v:0<=3+(1-s):=by have:=P.side;exact fT 12 21 this
 have d:=P.lx;have j:=P.lx';have lt:(r++x.take bk).length<=1100:=by rw[IL,Jq];exact b6 13 12 d B
 have p:∀w,UX (tx [w]) (((tx x).length:Int)-(bk:Int)):=λw=>lV (a8 [w]) (by rw[a8];exact b8 12 22 z) (by rw[a8];exact b8 12 23 d);have k : ∀w,w=(if bk<x'.length then 94 else fN s)->NJ (tx [w]) (((tx x).length:Int)-(bk:Int))=tx (eK x' bk x.length (fN s)):=λw u=>by
  rw[a8 x,lU,u];rfl
 have q:(eK x' bk x.length (fN s)).length<=200:=by refine(Kr).symm▸?_;exact b6 13 0 d
 refine fH ((g.snd (F:=fh L) y (by rfl)).Ss ?_);refine eY.at i P.v3 ?_;refine⟨by rw[a8];exact b8 13 3 hz d,?_⟩;rw[g4];refine⟨by rw[a8,a8];refine(IL)▸?_;exact b8 13 13 hz lt,?_⟩;rw[dy];refine eY.at v P.v4 ?_;refine⟨by rw[a8];exact b8 13 3 hz j,Br.mk (λf=>?_) λf=>?_⟩
 ·refine eY.at i P.v3 ?_;refine⟨by rw[a8];exact b8 13 3 hz d,p 94,?_⟩;have:=of_decide_eq_true f;rw[a8] at this;refine((k 94 (if_pos (by exact b8 13 5 this)).symm:NJ ⟨⟨[94]⟩⟩ (((tx x).length:Int)-(bk:Int))=_)).symm▸?_;refine⟨by rw[a8,a8];exact b6 13 14 hz lt q,?_⟩;rw[dy];refine⟨_,?_,h⟩;exact .of rfl
 ·refine eY.at i P.v3 ?_;refine⟨by rw[a8];exact b8 13 3 hz d,p (fN s),?_⟩;have:=of_decide_eq_false f;rw[a8] at this;refine(k (fN s) (if_neg (by exact b8 13 7 this)).symm).symm▸?_;refine⟨by rw[a8,a8];exact b6 13 14 hz lt q,?_⟩;rw[dy];refine⟨_,?_,h⟩;exact .of rfl
end
noncomputable def rowsOf(l:List Nat):List Str:=if l=[] then [] else [tx ([63,32]++l++[10])]
inductive GX(r:List Nat)(lcOf:List Nat->Lc)(st0:St)(n:Nat)(lc:Lc)(st:St):Prop
 |mk (r':List Nat) (hn:n=r'.length) (hz:n<=2000) (e:cL dM r'=cL dM r) (hl:lc=lcOf r') (hs:st=st0)
mutual
theorem Cc(g:Gd){L vals s o o' r e fr bk ob Q}(v:A.handled=none)(w:r.length<=2000)(h:Q .next (fW s o o' fr bk++[(kC,.s (tx (cL dM r)) 0)]) (gH vals e++[ob])) :
  eG A (fh L) (dh (a5 (a7 13)) 12) (fW s o o' fr bk++[(kC,.s (tx r) 0)]) (gH vals e++[ob]) Q:=by
 have S:=g.snd (F:=fh L) v (by rfl);have hz:2000<=sizeLine:=by decide
 refine gb (GX r (λi=>fW s o o' fr bk++[(kC,.s (tx i) 0)]) (gH vals e++[ob])) (λn lc st I=>?_) r.length ⟨r,rfl,w,rfl,rfl,rfl⟩;obtain⟨i,d,a,es,rfl,rfl⟩:=I;have j:=a8 i;refine S.T ?_;refine nc (S.E ⟨1,rfl,by rw[j];exact cO 13 15 d a hz,?_⟩);rw[sC];refine in_tuple (ys:=[⟨⟨[32]⟩⟩,⟨⟨[9]⟩⟩]) ?_;rcases QT i with e0 | ⟨l,c,e0⟩
 ·subst e0;refine Br.mk (λq=>IW q) λZ=>?_;rw[<-es] at h;exact h
 ·replace e0:=QU▸e0;subst e0;have f:(l++[c]).length=l.length+1:=IL;have k:(l++[c]).drop ((l++[c]).length-1)=[c]:=by refine(f ..).symm▸?_;refine(Md ..).symm▸?_;exact(List.drop_left).symm▸rfl
  have p:(l++[c]).take ((l++[c]).length-1)=l:=by refine(f ..).symm▸?_;refine(Md ..).symm▸?_;exact(List.take_left).symm▸rfl
  refine(k).symm▸?_;have u:([⟨⟨[32]⟩⟩,⟨⟨[9]⟩⟩]:List Str).any (· == tx [c])=dM c:=by
   show(tx [32] == tx [c] || (tx [9] == tx [c] || false))=_;refine(pB ..).symm▸?_;rw[pB,Tw];unfold dM;rw[K9,Pw,Pw,decide_eq_true_iff,decide_eq_true_iff,beq_iff_eq,beq_iff_eq];exact⟨λq=>q.imp SJ SJ,λq=>q.imp SJ SJ⟩
  refine(u).symm▸?_;rw[qH] at es;refine Br.mk (λq=>?_) λq=>?_
  ·rw[if_pos q] at es;refine S.Ss ?_;refine nc (S.E ⟨1,rfl,by rw[j];exact cO 13 15 d a hz,?_⟩);rw[nO,p];exact⟨l.length,by rw[d,f];exact Jg _,l,rfl,by exact fc 13 16 f d a,es,rfl,rfl⟩
  ·rw[if_neg (λz=>IW (q.symm.trans z))] at es;rw[<-es] at h;exact h
theorem Cb(g:Gd){L vals s o o' q e fr bk ob Q}(j:A.handled=none)(d:q.length<=2000)(h:∀lc,Q (.ret (.r 3)) lc (gH vals e++[ob,.list (cE (rowsOf q))])) :
  cK A (fh L) ((a5 (a7 13)).drop 13) (fW s o o' fr bk++[(kC,.s (tx q) 0)]) (gH vals e++[ob]) Q:=by
 have hz:3000<=sizeLine:=by decide
 have ne:(tx q != ⟨⟨[]⟩⟩)= !decide (q=[]):=congrArg (! ·) (su q []);have k:=a8 q;have h:=h (fW s o o' fr bk++[(kC,.s (tx q) 0)]);unfold rowsOf at h;refine(g.snd (F:=fh L) j (by rfl)).Ss ?_;refine Br.mk (λa=>?_) λa=>?_
 ·have c:¬q=[]:=λe=>by rw[ne,decide_eq_true e] at a;exact IW a
  rw[if_neg c] at h;have f:jR++tx q=tx ([63,32]++q):=dy [63,32] q;refine⟨by rw[k];exact b8 13 17 hz d,?_⟩;rw[f];have i:tx ([63,32]++q)++(⟨⟨[10]⟩⟩:Str)=tx ([63,32]++q++[10]):=dy ([63,32]++q) [10];refine⟨by rw[a8,IL];exact b8 13 18 hz d,?_⟩;rw[i];exact h
 ·have c:q=[]:=by
   rw[ne] at a;exact of_decide_eq_true (by cases e:decide (q=[]) with
    |true=>rfl
    |false=>rw[e] at a;exact IW a)
  rw[if_pos c] at h;exact h
end
noncomputable def gI(a a' c x x':List Nat)(alone:Nat):List Nat :=
 (a.take (a.length-b7 a.reverse a'.reverse)).take (b7 (a.take (a.length-b7 a.reverse a'.reverse)) (a'.take (a'.length-b7 a.reverse a'.reverse))) ++
 eK (a'.take (a'.length-b7 a.reverse a'.reverse)) (b7 (a.take (a.length-b7 a.reverse a'.reverse)) (a'.take (a'.length-b7 a.reverse a'.reverse))) (a.take (a.length-b7 a.reverse a'.reverse)).length alone ++
 a.drop (a.take (a.length-b7 a.reverse a'.reverse)).length++eZ c++x.take (b7 x x')++eK x' (b7 x x') x.length alone
mutual
theorem vD(l:List Str):iM (cE l):=fk (f:=λy=>V.s y 0) (λZ L D c a q=>q) l
theorem xo:∀x∈[fG,jh],(a6 (a7 13)).names.lookup x=IK .cell:=by decide
end
theorem wj(g:Gd){vals s a a' c x x' Q}(D:A.handled=none)(f:A.depth+1<recursionLimit)(P:fB vals s a a' c x x')(h:Q (.l (cE (rowsOf (cL dM (gI a a' (c++[59]) x x' (fN s)))))) []):b5 A (.v (.ref 351)) [.l vals,.i s] [] Q:=by
 refine iZ ((oJ (names:=[fG,uz]) (ns:=[fG,jh]) g.top (B8 g) (by kernel_rfl) (by kernel_rfl) (by exact b6 9 12 f) Ca xo (λs fd ws=>yR s fd ws) rfl (by kernel_rfl) λL=>?_).call);have d:(A.deeper (kh (IM "_law_row") (a6 (a7 13)) L 351 (.ref 350))).handled=none:=D;have j:(A.deeper (kh (IM "_law_row") (a6 (a7 13)) L 351 (.ref 350))).depth<recursionLimit:=by exact f
 generalize A.deeper (kh (IM "_law_row") (a6 (a7 13)) L 351 (.ref 350))=B at d j ⊢;have la:=P.la;have E:=P.lx;have le:=dm a.reverse a'.reverse;rw[JM,JM] at le;have p:=dm x x';unfold gI at h;refine c7 2 (DD g d j P ?_);generalize b7 a.reverse a'.reverse=e at le h ⊢;have lo:(a.take (a.length-e)).length<=200:=by rw[Jq];exact b6 13 1 la
 have k:(a'.take (a'.length-e)).length<=200:=by rw[Jq];exact b6 13 1 (P.la')
 show cK B (fh L) (dh (a5 (a7 13)) 2::(a5 (a7 13)).drop 3) _ _ _;refine cD (DC g d j P le λob=>?_);have y:=(dm (a.take (a.length-e)) (a'.take (a'.length-e))).1;refine c7 3 (DB g d j P lo k ?_);generalize b7 (a.take (a.length-e)) (a'.take (a'.length-e))=fr at y h ⊢;generalize b7 x x'=bk at p h ⊢;generalize a.take (a.length-e)=o at lo y h ⊢;generalize a'.take (a'.length-e)=o' at k h ⊢;refine c7 3 (DA g d P lo k y ?_);have z:(o.take fr++eK o' fr o.length (fN s)++a.drop o.length).length<=600:=by
  unfold eK;rw[IL,IL,Jq,Ku,Kr];exact b6 13 19 lo la
 show cK B (fh L) (dh (a5 (a7 13)) 9::(a5 (a7 13)).drop 10) _ _ _;refine cD (Dz g d P z ?_);have u:(o.take fr++eK o' fr o.length (fN s)++a.drop o.length++eZ (c++[59])).length<=900:=by
  have:=P.lc;have C:(eZ (c++[59])).length=c.length+1:=(IZ ..).trans IL;rw[IL,C];exact b8 13 20 this z
 generalize o.take fr++eK o' fr o.length (fN s)++a.drop o.length++eZ (c++[59])=r at u h ⊢;refine c7 2 (Cd g d P u p.1 ?_);have w:(r++x.take bk++eK x' bk x.length (fN s)).length<=2000:=by
  unfold eK;rw[IL,IL,Jq,Kr];exact b6 13 21 E u
 generalize r++x.take bk++eK x' bk x.length (fN s)=r at w h ⊢;show cK B (fh L) (dh (a5 (a7 13)) 12::(a5 (a7 13)).drop 13) _ _ _;refine cD (Cc g d w ?_);refine Cb g d (show(cL dM r).length<=2000 from by unfold cL;rw[Jq];exact b6 13 1 w) λlc=>?_;exact⟨⟨[],[(3,cE (rowsOf (cL dM r)))]⟩,.l (cE (rowsOf (cL dM r))),[],⟨.nil,trivial,⟨⟨Ji _,Jf,rfl,vD _⟩,trivial⟩,λh q Z=>absurd q (I4 _)⟩,rfl,h⟩
theorem rY(g:Gd){st vals s a a' c x x' Q}(e:A.handled=none)(d:A.depth+1<recursionLimit)(P:fB vals s a a' c x x')(h:Q (.l (cE (rowsOf (cL dM (gI a a' (c++[59]) x x' (fN s)))))) st):b5 A (.v (.ref 351)) [.l vals,.i s] st Q :=
 gf rfl rfl (wj g e d P (by rw[MQ,Jj];exact h))
variable {st:St}
theorem add_list{a b xs ys d1 d2}(la:LstAt a xs d1)(z:d1 st)(lb:LstAt b ys d2)(B:d2 st)(hz:xs.length+ys.length<=sizeLine)(h:Q (.r st.length) (st++[.list (xs++ys)])):di A (LV .Add) a b st Q:=by
 intro σ s u w C E i r;obtain⟨l,vs,n,e,j,p⟩:=la σ st s u C z r;obtain⟨l',ws,n',v,d,hw⟩:=lb σ st s w E B r;subst e v;have f:vs.size=xs.length:=by refine(I3)▸?_;exact p.len
 have g:ws.size=ys.length:=by refine(I3)▸?_;exact hw.len
 refine concat_meets ⟨_,j,rfl⟩ ⟨_,d,rfl⟩ PySem.noFill_list_add PySem.seq_list_add PySem.F.slot_list_add PySem.F.entry_list_add (PySem.F.args_list_add_2 _ _) (list_addW l l' vs ws n n' none none #[] #[] (by exact fc 13 22 hz f g)) ⟨j,d,?_⟩;exact xu (o:=.list (xs++ys)) (k:=s.toks) i r (λc y q=>IS _ q) (by rw[I7];exact I8 _) (IQ _) (λx=>⟨vs++ws,0,I0 _ rfl,by rw[Rw];exact fc 13 22 hz f g,by refine(Q5).symm▸?_;exact(cW.cat p hw).mono x r.apart⟩) (λZ L D q=>nomatch q) h
noncomputable def gG(a b:Str)(c:List ed):Prop:=∃T,Tree (chars a) (chars b) (cV cU) 0 (chars a).length 0 (chars b).length T/\c=d0 (cI T (chars a).length (chars b).length)
noncomputable def Fz(v:V):Prop:=v=.n∨∃vs,v=.l vs
theorem Fz.up{v}(h:Fz v)(u:Nat->Nat):v.up u=v:=by rcases h with rfl | ⟨vs,rfl⟩ <;> rfl
theorem Fz.vw{v}(h:Fz v)(m:Vm):V.vw m v=IK v:=by rcases h with rfl | ⟨vs,rfl⟩ <;> rfl
structure MI(a b:Str)(bl co:V)(kvs:List (Str×V))(l:List Str)(ta tb:Nat):Prop where
 na:ta≠0
 nb:tb≠0
 b2:kr (chars b) (cV cU) kvs
 mem:∀k,k∈l↔k∈chars b/\cV cU k=true
 len:l.length<=(chars b).length
 c:a.length≠0->(bl=.n/\co=.n)∨∃cs,co=.l (cs.map c5)/\gG a b cs
 zb:Fz bl
 zc:Fz co
theorem MI.wh{a b bl co kvs l ta tb}(m:MI a b bl co kvs l ta tb)(la:a.length<200)(lb:b.length<200):sj a b (cV cU) l (chars a).length (chars b).length:=by
 have c:200<sizeLine:=by decide
 have d:=m.len;rw[eN] at d;exact⟨by exact b6 10 7 la c,by exact b6 10 7 lb c,m.mem,by exact cO 13 23 lb (show 200<scanBound from by decide) d,IQ _,IQ _⟩
noncomputable abbrev mJ:Value:=.ref 325
mutual
theorem we(g:Gd){a b a' b' C D d l l4 o p ta' tb'}(T:A.handled=none)(f:A.depth+4<recursionLimit)(m:MI a b C D d l o p)(n1:ta'≠0)(n2:tb'≠0)(u1:ta'≠o)(u2:tb'≠p)(la:a'.length<200)(lb:b'.length<200)(H:∀C D o p,MI a' b' C D d l o p->Q .n (vg mJ C D a' b' o p d l l4))(M:∀d l o p,MI a' b' .n .n d l o p->Q .n [.ns (rf mJ a' b' o p 5 6 7),.inst 242 0,.gone,.gone,.gone,.dict d,.set l,.set []]) :
  b5 A (.v (.ref 167)) [.r 1,.s a' ta',.s b' tb'] (vg mJ C D a b o p d l l4) Q:=by
 have h {xa xb o p J j} (g:Gd) {ya yb P S o2 o3 o4 E1} {E2 E3 E4:Prop} (T:A.handled=none) (f:A.depth+4<recursionLimit) (hJ:kq (.ref j) J) (hz:(chars xb).length<200) (X:∀U st (z:V->St->Prop),(E1->z (.b true) st)->(E2->z (.b false) st)->di U (J1 .Is) (.s xa o) (.s ya P) st z) (E:∀U st (z:V->St->Prop),(E3->z (.b true) st)->(E4->z (.b false) st)->di U (J1 .Is) (.s xb p) (.s yb S) st z) (H:E1->E3->Q .n [.ns (qw (.v (.ref j)) (.s ya P) (.s yb S) (.b true) C D .n (.r 2) (.r 3) (.r 4)),.inst 242 0,o2,o3,o4]) (M:E3->Q .n [.ns (qw (.v (.ref j)) (.s xa o) (.s yb S) (.b true) .n .n .n (.r 2) (.r 3) (.r 4)),.inst 242 0,o2,o3,o4]) (Y:∀d l za R,(E1/\za=ya/\R=P)∨(za=xa/\R=o)->kr (chars xb) J d->(∀k,k∈l↔k∈chars xb/\J k=true)->l.length<=(chars xb).length->Q .n [.ns (rf (.ref j) za xb R p 5 6 7),.inst 242 0,.gone,.gone,.gone,.dict d,.set l,.set []]) :
   b5 A (.v (.ref 167)) [.r 1,.s xa o,.s xb p] [.ns (qw (.v (.ref j)) (.s ya P) (.s yb S) (.b true) C D .n (.r 2) (.r 3) (.r 4)),.inst 242 0,o2,o3,o4] Q:=by
  refine(dg (names:=[eV,gJ,fP]) g.top (ue g) (by kernel_rfl) (by kernel_rfl) (by exact b6 9 12 f) oW rfl (by kernel_rfl) λL=>?_).call;refine(g.snd (A:=A.deeper (Kq (IM "SequenceMatcher.set_seqs") (a6 (cF 5 2)) L 167 (.ref 166))) (F:=⟨Kq (IM "SequenceMatcher.set_seqs") (a6 (cF 5 2)) L 167 (.ref 166),[],5⟩) (by exact T) (by rfl)).Ss (wg g (by exact T) (by exact b8 10 10 f) X (λe=>?_) λe=>?_)
  ·exact oU g (by exact T) (by show A.depth+1+3<_;assumption) hJ hz E (λe'=>H e e') λd l=>Y d l _ _ (.inl ⟨e,rfl,rfl⟩)
  ·exact oU g (by exact T) (by show A.depth+1+3<_;assumption) hJ hz E (λe'=>M e') λd l=>Y d l _ _ (.inr ⟨rfl,rfl⟩)
 have w:kl:=by
  obtain⟨ms,aa,hv⟩:=g.nam (Kb,IM "identity.tokens-whose-sharing-is-not-told",none) (IX (i:=64) (by kernel_rfl));exact⟨ms,aa,hv⟩
 have S:=w;have q {A st Q x y t u} (b:kl) (ht:t≠0) (hu:u≠0) (H:x=y->Q (.b true) st) (M:t≠u->Q (.b false) st) (Y:t=u->x=y):di A (J1 .Is) (.s x t) (.s y u) st Q:=by
  intro σ s va vb ⟨t',ha,qa⟩ ⟨u',hb,qb⟩ i r;subst ha hb;obtain⟨rfl,_⟩:=qa ht;obtain⟨rfl,_⟩:=qb hu;refine II (m:=isSame _ _) ?_;have h0:(t' == 0 || u' == 0)=false:=by refine(beq_eq_false_iff_ne.mpr ht).symm▸?_;refine(beq_eq_false_iff_ne.mpr hu).symm▸?_;rfl
  by_cases e:t'=u'
  ·have B:=Y e;subst e;show Jd _ _ (RX (x == y) t' t') _ _ s;unfold RX;rw[if_neg (by refine(h0).symm▸?_;decide),if_pos (by simp)];exact IP (IP (g7 i r (H B)))
  ·by_cases B:x=y
   ·exact wpAny_isSame_str h0 (b.at i) λc=>IP (by
     cases c
     ·exact g7 i r (M e)
     ·exact g7 i r (H B))
   ·refine(isSame_str_other x y t' u' h0 (beq_eq_false_iff_ne.mpr e) (beq_eq_false_iff_ne.mpr B)).symm▸?_;exact IP (IP (g7 i r (M e)))
 refine h (E1:=a'=a) (E2:=True) (E3:=b'=b) (E4:=True) g T f (uM g) (by rw[eN];exact lb) (λU st z q1 q2=>q S n1 m.na q1 (λZ=>q2 trivial) λe=>absurd e u1) (λU st z q1 q2=>q S n2 m.nb q1 (λZ=>q2 trivial) λe=>absurd e u2) (λe1 e2=>?_) (λe2=>?_) λG l' za P hz b2 hm hl=>?_
 ·subst e1 e2;exact H C D o p m
 ·subst e2;exact H .n .n ta' p {m with na:=n1,c:=λZ=>.inl ⟨rfl,rfl⟩,zb:=.inl rfl,zc:=.inl rfl}
 ·rcases hz with ⟨e,rfl,rfl⟩ | ⟨rfl,rfl⟩
  ·subst e;exact M G l' P tb' ⟨m.na,n2,b2,hm,hl,λZ=>.inl ⟨rfl,rfl⟩,.inl rfl,.inl rfl⟩
  ·exact M G l' P tb' ⟨n1,n2,b2,hm,hl,λZ=>.inl ⟨rfl,rfl⟩,.inl rfl,.inl rfl⟩
theorem tF(g:Gd){a b x co kvs l l4 ta tb}(u:A.handled=none)(d:A.depth+6<recursionLimit)(H:A.units+9<cLine)(m:MI a b x co kvs l ta tb)(M:a.length≠0)(la:a.length<200)(lb:b.length<200)(k:∀T,Tree (chars a) (chars b) (cV cU) 0 (chars a).length 0 (chars b).length T->T.length<62)(y:∀T,Tree (chars a) (chars b) (cV cU) 0 (chars a).length 0 (chars b).length T->(cI T (chars a).length (chars b).length).length<1000)(h:∀p x,gG a b p->MI a b x (.l (p.map c5)) kvs l ta tb->Q (.l (p.map c5)) (vg mJ x (.l (p.map c5)) a b ta tb kvs l l4)):b5 A (.v (.ref 210)) [.r 1] (vg mJ x co a b ta tb kvs l l4) Q:=by
 have f {A xa xb ta tb J l l4 kvs fj Q} (g:Gd) (u:A.handled=none) (d:A.depth+6<recursionLimit) (H:A.units+9<cLine) (w:sj xa xb J l (chars xa).length (chars xb).length) (G:kr (chars xb) J kvs) (C:(chars xa).length<200) (D:(chars xb).length<200) (k:∀T,Tree (chars xa) (chars xb) J 0 (chars xa).length 0 (chars xb).length T->T.length<62) (y:∀T,Tree (chars xa) (chars xb) J 0 (chars xa).length 0 (chars xb).length T->(cI T (chars xa).length (chars xb).length).length<1000) (h:∀T,Tree (chars xa) (chars xb) J 0 (chars xa).length 0 (chars xb).length T->Q (.l ((d0 (cI T (chars xa).length (chars xb).length)).map c5)) (vg fj (.l ((cI T (chars xa).length (chars xb).length).map m3)) (.l ((d0 (cI T (chars xa).length (chars xb).length)).map c5)) xa xb ta tb kvs l l4)) :
   b5 A (.v (.ref 210)) [.r 1] (vg fj .n .n xa xb ta tb kvs l l4) Q:=by
  have z:3000<sizeLine:=by decide
  refine iZ ((dg (names:=[eV]) g.top (yl g) (by kernel_rfl) (by kernel_rfl) (by exact b6 9 12 d) r5 rfl (by kernel_rfl) λL=>?_).call);have S:=g.snd (A:=A.deeper (Kq (IM "SequenceMatcher.get_opcodes") (a6 (cF 5 8)) L 210 (.ref 209))) (F:=rF L 5) (by exact u) (by rfl);refine c7 4 (S.Ss (Br.mk (λq=>IW q) λZ=>?_));show cK _ (rF L 5) ((a5 (cF 5 8)).drop 4) (vV 0 0) (mq fj .n (.r 5) xa xb ta tb kvs l l4 (.list []) []) _;refine cD (h9 rfl (S.E (yO g Ip (by exact u) (by assumption) (by assumption) w G (by exact b8 10 17 z C) (by exact b8 10 18 z D) k λT B=>⟨rfl,_,_,iG g.top (by exact u) cS,trivial,?_⟩)));refine vU g (bs:=cI T (chars xa).length (chars xb).length) (by exact u) (by exact b8 10 19 z (y T B)) (λi j=>?_) _ [] rfl [] (0,0) rfl (IQ _);refine S.Ss ?_;exact⟨⟨[0,1,2,3,4],[(5,(d0 (cI T (chars xa).length (chars xb).length)).map c5)]⟩,.l ((d0 (cI T (chars xa).length (chars xb).length)).map c5),vg fj (.l ((cI T (chars xa).length (chars xb).length).map m3)) (.l ((d0 (cI T (chars xa).length (chars xb).length)).map c5)) xa xb ta tb kvs l l4,⟨Im,.vw rfl (BB rfl rfl rfl rfl rfl) (.vw rfl rfl (.vw rfl (G.vw _) (.vw rfl rfl (.vw rfl rfl trivial)))),⟨⟨IQ 5,Il,rfl,zB _⟩,trivial⟩,λh q Z=>EB h q⟩,rfl,h T B⟩
 rcases m.c M with ⟨rfl,rfl⟩ | ⟨p,rfl,o⟩
 ·refine f g u d H (m.wh la lb) m.b2 (by rw[eN];exact la) (by rw[eN];exact lb) k y λT B=>?_;have o:gG a b (d0 (cI T (chars a).length (chars b).length)):=⟨T,B,rfl⟩
  exact h _ _ o {m with c:=λZ=>.inr ⟨_,rfl,o⟩,zb:=.inr ⟨_,rfl⟩,zc:=.inr ⟨_,rfl⟩}
 ·have e {xa xb fj p} (u:A.handled=none) (d:A.depth<recursionLimit) (h:Q (.l p) (vg fj x (.l p) xa xb ta tb kvs l l4)):b5 A (.v (.ref 210)) [.r 1] (vg fj x (.l p) xa xb ta tb kvs l l4) Q:=by
   refine(dg (names:=[eV]) g.top (yl g) (by kernel_rfl) (by kernel_rfl) d r5 rfl (by kernel_rfl) λL=>?_).call;refine(g.snd (by exact u) (by rfl)).Ss ?_;exact Br.mk (λZ=>h) λq=>IW q
  exact e u (by exact b6 9 12 d) (h p x o m)
end
theorem CA(g:Gd):Fp 356 (IM "law") (cJ (a7 14)) (a5 (a7 14)) (a6 (a7 14)) (.ref 355) (.none) :=
 g.GG (oc:=AW) (dO 47 rfl) (by kernel_rfl) (dO 46 rfl) rfl ⟨_,_,rfl,rfl⟩ (by kernel_rfl)
noncomputable abbrev dt(L:Addr):dH:=⟨kh (IM "law") (a6 (a7 14)) L 356 (.ref 355),[(kB,0),(fG,1)],0⟩
noncomputable def eh(i:Nat):Stmt:=dh (c9 (dh (a5 (a7 14)) 3)) i
noncomputable abbrev ic:List (Str×V):=[(mH,.s (⟨⟨[32]⟩⟩:Str) 0),(oq,.s (⟨⟨[94]⟩⟩:Str) 0),(oo,.s (⟨⟨[45]⟩⟩:Str) 0),(q6,.s (⟨⟨[43]⟩⟩:Str) 0)]
noncomputable abbrev dC(j:Option V)(d e:V)(a b:Str)(k o:Nat)(c:List (Str×V))(l g:List Str)(dl f i h:List Str):St :=
 [.cell (IK (.r 7)),.cell j,.ns (qw (.v mJ) (.s a k) (.s b o) (.b true) d e .n (.r 4) (.r 5) (.r 6)),.inst 242 2,.dict c,.set l,.set g,.dict ic,.list (cE dl),.list (cE f),.list (cE i),.list (cE h)]
theorem kH(L:Addr):NZ (L+1) (a6 (a7 14)).names []=[(fG,L+1+1),(kB,L+1)]:=by rfl
noncomputable abbrev yc:List (Str×Nat):=[(fG,1)]
noncomputable abbrev CC(L C:Addr):dH:=nq (dt L) (tn (iJ (eh 0))) [(fG,L+1+1)] yc C
noncomputable abbrev lL:Lc:=[(qY,.r 3),(qZ,.r 8),((⟨⟨[100,117,101]⟩⟩:Str),.r 9),(Bq,.r 10),(Bp,.r 11)]
noncomputable def P5.eE(p:P5):List Nat:=p.p0++p.p2++[59]++p.p3
noncomputable def P5.eO(p:P5):List Nat:=p.p1++p.p2++[59]++p.p4
theorem EA(g:Gd){L}{p:P5}{bl co a b ta tb kvs l l4 dl du ol nw Q}(z:A.handled=none)(hc:0<p.p2.length)(hz:p.sz<=900)(h:∀t u o,t≠0->u≠0->t≠ta->u≠tb->Q .next (lL++[((⟨⟨[111,108,100]⟩⟩:Str),.s (tx p.eE) t),((⟨⟨[110,101,119]⟩⟩:Str),.s (tx p.eO) u)]) (dC (IK (.l p.vals)) bl co a b ta tb kvs l l4 dl du ol nw++[o])) :
  eG A (dt L) (eh 0) lL (dC (IK (.l p.vals)) bl co a b ta tb kvs l l4 dl du ol nw) Q:=by
 have w:∀y h,yc.lookup y=IK h->(dt L).ce.lookup y=IK h/\([(fG,L+1+1)]:List (Str×Addr)).lookup y=(dt L).env.cells.lookup y:=λy h e=>by
  have:(dt L).env.cells=[(fG,L+1+1),(kB,L+1)]:=kH L;refine(this).symm▸?_;obtain⟨rfl,rfl⟩:=Lg (OB.mp (gR e));exact⟨rfl,rfl⟩
 have f {C vals acc k q c x Q} (z:A.handled=none) (T:0<=k) (v0:vals[k.toNat]?=IK (.s (tx q) 0)) (v2:vals[2]?=IK (.s (tx c) 0)) (v3:vals[(3+k).toNat]?=IK (.s (tx x) 0)) (hc:0<c.length) (hz:q.length+c.length+x.length+1<=1000) (h:∀t,tQ (dC (IK (.l vals)) bl co a b ta tb kvs l l4 dl du ol nw++[.list acc]) t->Q (.s (tx (q++c++[59]++x)) t) (dC (IK (.l vals)) bl co a b ta tb kvs l l4 dl du ol nw++[.list acc])) :
   c8 A (CC L C) (uU (iJ (eh 0))) [((⟨⟨[107]⟩⟩:Str),.i k)] (dC (IK (.l vals)) bl co a b ta tb kvs l l4 dl du ol nw++[.list acc]) Q:=by
  have S:=g.snd (F:=CC L C) z (by rfl);have H:1000<=sizeLine:=by decide
  have U:0<W.t₁:=by rw[g.t1];decide
  refine nf ?_;refine nf ?_;refine S.E ?_;refine eY.at T v0 (eY.at (by decide) v2 ⟨by rw[a8,a8];exact fc 14 0 hz H,?_⟩);rw[dy];have G:=a8 (q++c);rw[IL] at G;refine S.E ?_;have d {A st Q a b k l} (hp:0<W.t₁) (hz:a.length+b.length<=sizeLine) (M:a.length≠0) (R:b.length≠0) (h:∀t,tQ st t->Q (.s (a++b) t) st):di A (LV .Add) (.s a k) (.s b l) st Q:=by
   intro σ s va vb ⟨t,v,_⟩ ⟨u,B,_⟩ i r;subst v B;refine P.add_str ?_;rw[if_neg (by simpa using M),if_neg (by simpa using R)];refine⟨?_,σ,st,cH i r (I8 _),.s (a++b) s.toks,⟨_,rfl,λZ=>⟨rfl,Jg _⟩⟩,h _ (Cn hp i r)⟩;rw[MO];exact hz
  refine d U (by rw[G];exact fc 14 1 hz H) (by rw[G];exact b6 14 2 hc) (by decide) λt n=>?_;refine(show tx (q++c)++(⟨⟨[59]⟩⟩:Str)=tx (q++c++[59]) from dy _ [59]).symm▸?_;have D:(tx (q++c++[59])).length=q.length+c.length+1:=(a8 _).trans (by refine(IL).symm▸?_;refine(IL).symm▸?_;rfl);refine S.E ?_;refine eY.at (Tu (by decide) T) v3 ?_;by_cases e:x.length=0
  ·have e':=List.length_eq_zero_iff.mp e;subst e';have j {A st Q a b k l} (M:a.length≠0) (R:b.length=0) (h:Q (.s a k) st):di A (LV .Add) (.s a k) (.s b l) st Q:=by
    intro σ s va vb v ⟨u,B,_⟩ i r;have J:=v;obtain⟨t,e,_⟩:=v;subst e B;refine P.add_str ?_;rw[if_neg (by simpa using M),if_pos (by simpa using R)];exact⟨σ,st,.refl i r,_,J,h⟩
   refine j (by rw[D];exact Pl _) (a8 []) ?_;have:=h t n;rw[Jj] at this;exact this
  ·refine d U (by refine(D).symm▸?_;rw[a8];exact fc 14 3 hz H) (by refine(D).symm▸?_;exact Pl _) (by rw[a8];exact e) λt n=>?_;rw[dy];exact h t n
 have S:=g.snd (F:=dt L) z (by rfl);have H:2<sizeLine:=by decide
 unfold P5.sz at hz;refine lr (by kernel_rfl) (by rfl) rfl ?_;refine l0 (cl:=[(fG,L+1+1)]) (ce:=yc) g.top (by rfl) (by kernel_rfl) rfl w ?_;refine S.E ?_;refine .mk _ _ (oC g.top z) trivial λC=>?_;have K:=g.snd (F:=CC L C) z (by rfl);refine⟨trivial,K.As (Br.mk (λZ=>?_) λq=>IW q)⟩;refine f (q:=p.p0) (c:=p.p2) (x:=p.p3) z (by decide) rfl rfl rfl hc (by exact fc 14 4 hz) λt X=>?_;refine⟨by exact b8 10 2 H,trivial,K.As (Br.mk (λZ=>?_) λq=>IW q)⟩;refine f (q:=p.p1) (c:=p.p2) (x:=p.p4) z (by decide) rfl rfl rfl hc (by exact fc 14 5 hz) λu Y=>?_;refine⟨by exact ec 12 8 H,trivial,?_⟩;refine S.Am ?_;refine fS (items:=[.s (tx p.eE) t,.s (tx p.eO) u]) rfl ?_ rfl ?_
 ·exact t5 (items:=[.s (tx p.eE) t,.s (tx p.eO) u]) z (cY (h:=12)) rfl
 refine S.Av ?_;exact h t u _ X.pos Y.pos (LG (X.ns 2 _ gJ _ _ rfl rfl)) (LG (Y.ns 2 _ fP _ _ rfl rfl))
end
theorem Gp:([2,3,4,5,6]:List Nat).Nodup:=by decide
section
variable {d:Option V}{k j:V}{a b:Str}{r p:Nat}{c:List (Str×V)}{l g dl i e f:List Str}
mutual
theorem x4(v:Fz k)(w:Fz j)(u:kr (chars b) (cV cU) c)(o:St):nU ⟨[2,3,4,5,6],[]⟩ 0 (dC d k j a b r p c l g dl i e f++o) (vg mJ k j a b r p c l g) :=
 ⟨Gp,.vw rfl (congrArg (JZ O.ns) (a9 rfl<|a9 rfl<|a9 rfl<|a9 rfl<|a9 (v.vw _)<|a9 (w.vw _)<|a9 rfl<|a9 rfl<|a9 rfl<|a9 rfl rfl)) (.vw rfl rfl (.vw rfl (u.vw _) (.vw rfl rfl (.vw rfl rfl trivial)))),trivial,λh q Z=>absurd q (I4 _)⟩
theorem x9{bl' co' a' b' ta' tb'}(q:Fz bl')(u:Fz co')(h:kr (chars b') (cV cU) c)(o:O):fJ [2,3,4,5,6] (dC d k j a b r p c l g dl i e f++[o]) (vg mJ bl' co' a' b' ta' tb' c l g)=dC d bl' co' a' b' ta' tb' c l g dl i e f++[o]:=by
 show[O.cell (IK (.r 7)),.cell d,.ns (qw (.v mJ) (.s a' ta') (.s b' tb') (.b true) (bl'.up (jK [2,3,4,5,6] 5 13)) (co'.up (jK [2,3,4,5,6] 5 13)) .n (.r 4) (.r 5) (.r 6)),.inst 242 2,.dict (wB (jK [2,3,4,5,6] 5 13) c),.set l,.set g,.dict ic,.list (cE dl),.list (cE i),.list (cE e),.list (cE f),o]=_;refine((q.up (jK [2,3,4,5,6] 5 13))).symm▸?_;refine((u.up (jK [2,3,4,5,6] 5 13))).symm▸?_;refine((h.up (jK [2,3,4,5,6] 5 13))).symm▸?_;rfl
theorem vK{kvs' l' a' b' ta' tb'}(h:kr (chars b') (cV cU) kvs')(o:O):fJ [2,3,4,5,6] (dC d k j a b r p c l g dl i e f++[o]) [.ns (rf mJ a' b' ta' tb' 5 6 7),.inst 242 0,.gone,.gone,.gone,.dict kvs',.set l',.set []] =
  [.cell (IK (.r 7)),.cell d,.ns (rf mJ a' b' ta' tb' 13 14 15),.inst 242 2,.gone,.gone,.gone,.dict ic,.list (cE dl),.list (cE i),.list (cE e),.list (cE f),o,.dict kvs',.set l',.set []]:=by
 show[O.cell (IK (.r 7)),.cell d,.ns (rf mJ a' b' ta' tb' 13 14 15),.inst 242 2,.gone,.gone,.gone,.dict ic,.list (cE dl),.list (cE i),.list (cE e),.list (cE f),o,.dict (wB (jK [2,3,4,5,6] 5 13) kvs'),.set l',.set []]=_;exact((h.up (jK [2,3,4,5,6] 5 13))).symm▸rfl
end
end
mutual
theorem dP{m}(ys:List Str):V.si m (cE ys)=IK (cE ys):=by
 induction ys with
 |nil=>rfl
 |cons y ys a=>exact congrArg (JZ _) a
theorem g9{m:Vm}{x h}(a:m.at 0=IK 0)(c:m.at 1=IK 1)(e:([(kB,0),(fG,1)]:List (Str×Nat)).lookup x=IK h):m.at h=IK h:=by
 rcases Tq.mp (gR e) with q | q
 ·rw[(Lg q).2];exact a
 ·rw[(Lg (OB.mp q)).2];exact c
theorem Eb:([0,1,2,3,4,5,6,7,8,9,10,11]:List Nat).Nodup:=by decide
theorem Ea:([0,1,2,3,13,14,15,7,8,9,10,11]:List Nat).Nodup:=by decide
end
section
variable {g:Option V}{k j:V}{a b:Str}{e d:Nat}{c:List (Str×V)}{l f dl i h nw:List Str}
mutual
theorem zO(p:Fz k)(q:Fz j)(o:kr (chars b) (cV cU) c):nU ⟨[2,3,4,5,6],[]⟩ 0 (dC g k j a b e d c l f dl i h nw) (vg mJ k j a b e d c l f):=x4 p q o []
theorem vL{bl' co'}(p:Fz bl')(q:Fz co')(o:kr (chars b) (cV cU) c):fJ [2,3,4,5,6] (dC g k j a b e d c l f dl i h nw) (vg mJ bl' co' a b e d c l f)=dC g bl' co' a b e d c l f dl i h nw:=by
 show[O.cell (IK (.r 7)),.cell g,.ns (qw (.v mJ) (.s a e) (.s b d) (.b true) (bl'.up (jK [2,3,4,5,6] 5 12)) (co'.up (jK [2,3,4,5,6] 5 12)) .n (.r 4) (.r 5) (.r 6)),.inst 242 2,.dict (wB (jK [2,3,4,5,6] 5 12) c),.set l,.set f,.dict ic,.list (cE dl),.list (cE i),.list (cE h),.list (cE nw)]=_;refine((p.up (jK [2,3,4,5,6] 5 12))).symm▸?_;refine((q.up (jK [2,3,4,5,6] 5 12))).symm▸?_;exact((o.up (jK [2,3,4,5,6] 5 12))).symm▸rfl
end
end
noncomputable abbrev k8(p:P5)(t u:Nat):Lc:=lL++[((⟨⟨[111,108,100]⟩⟩:Str),.s (tx p.eE) t),((⟨⟨[110,101,119]⟩⟩:Str),.s (tx p.eO) u)]
section
variable {A:Around}
mutual
theorem Ez(g:Gd){L p t u o v w a b k r c l z dl du ol nw Q}(D:A.handled=none)(f:A.depth+4<recursionLimit)(m:MI a b v w c l k r)(E:t≠0)(G:u≠0)(H:t≠k)(J:u≠r)(la:p.eE.length<200)(lb:p.eO.length<200)(h:∀v w c l z k r,MI (tx p.eE) (tx p.eO) v w c l k r->Q .next (k8 p t u) (dC (IK (.l p.vals)) v w (tx p.eE) (tx p.eO) k r c l z dl du ol nw)) :
  eG A (dt L) (eh 1) (k8 p t u) (dC (IK (.l p.vals)) v w a b k r c l z dl du ol nw++[o]) Q:=by
 refine kf ((g.snd (F:=dt L) D (by rfl)).S ?_);refine ib ⟨[2,3,4,5,6],[]⟩ rfl (x4 m.zb m.zc m.b2 [o]) rfl rfl (we g D f m E G H J (by rw[a8];exact la) (by rw[a8];exact lb) (λB C i j d=>⟨.n,_,rfl,x9 d.zb d.zc d.b2 o,?_⟩) λy l' i j d=>⟨.n,_,rfl,vK d.b2 o,?_⟩)
 ·refine⟨⟨[0,1,2,3,4,5,6,7,8,9,10,11],[]⟩,.next,k8 p t u,dC (IK (.l p.vals)) B C (tx p.eE) (tx p.eO) i j c l z dl du ol nw,⟨Eb,?_,trivial,λh q Z=>absurd q (I4 _)⟩,rfl,?_,.of rfl,h _ _ _ _ _ _ _ d⟩
  ·exact .vw rfl rfl (.vw rfl rfl (.vw rfl (congrArg (JZ O.ns) (a9 rfl<|a9 rfl<|a9 rfl<|a9 rfl<|a9 (d.zb.vw _)<|a9 (d.zc.vw _)<|a9 rfl<|a9 rfl<|a9 rfl<|a9 rfl rfl)) (.vw rfl rfl (.vw rfl (d.b2.vw _) (.vw rfl rfl (.vw rfl rfl (.vw rfl rfl (.vw rfl (dK (dP _)) (.vw rfl (dK (dP _)) (.vw rfl (dK (dP _)) (.vw rfl (dK (dP _)) trivial)))))))))))
  ·exact λx h e=>g9 (by rfl) (by rfl) e
 ·refine⟨⟨[0,1,2,3,13,14,15,7,8,9,10,11],[]⟩,.next,k8 p t u,dC (IK (.l p.vals)) .n .n (tx p.eE) (tx p.eO) i j y l' [] dl du ol nw,⟨Ea,?_,trivial,λh q Z=>absurd q (I4 _)⟩,rfl,?_,.of rfl,h _ _ _ _ _ _ _ d⟩
  ·exact .vw rfl rfl (.vw rfl rfl (.vw rfl rfl (.vw rfl rfl (.vw rfl (d.b2.vw _) (.vw rfl rfl (.vw rfl rfl (.vw rfl rfl (.vw rfl (dK (dP _)) (.vw rfl (dK (dP _)) (.vw rfl (dK (dP _)) (.vw rfl (dK (dP _)) trivial)))))))))))
  ·exact λx h e=>g9 (by rfl) (by rfl) e
theorem Ey(g:Gd){L p t u e co a b ta tb kvs l l4 dl du ol nw Q}(q:A.handled=none)(d:A.depth+6<recursionLimit)(r:A.units+9<cLine)(m:MI a b e co kvs l ta tb)(v:a.length≠0)(la:a.length<200)(lb:b.length<200)(f:∀T,Tree (chars a) (chars b) (cV cU) 0 (chars a).length 0 (chars b).length T->T.length<62)(k:∀T,Tree (chars a) (chars b) (cV cU) 0 (chars a).length 0 (chars b).length T->(cI T (chars a).length (chars b).length).length<1000)(h:∀e c,gG a b c->MI a b e (.l (c.map c5)) kvs l ta tb->Q .next (k8 p t u++[(Bo,.l (c.map c5))]) (dC (IK (.l p.vals)) e (.l (c.map c5)) a b ta tb kvs l l4 dl du ol nw)) :
  eG A (dt L) (eh 2) (k8 p t u) (dC (IK (.l p.vals)) e co a b ta tb kvs l l4 dl du ol nw) Q:=by
 refine(g.snd (F:=dt L) q (by rfl)).S ?_;refine ib ⟨[2,3,4,5,6],[]⟩ rfl (zO m.zb m.zc m.b2) rfl rfl (tF g q d r m v la lb f k λc j o i=>⟨.l (c.map c5),_,rfl,vL i.zb i.zc i.b2,?_⟩);exact h j c o i
end
end
section
variable {a:Nat}{b:Nat}{c:Nat}{d:Nat}{e:Nat}{f:Nat}{g:Nat}{h:Nat}
theorem HL:Sd [a,b,c,d,e,f,g,h] [] ((Pr.rn .eq) ((Tm.p) (Tm.v 0) (Tm.v 4)) ((Tm.p) (Tm.v 1) ((Tm.p) ((Tm.p) (Tm.v 2) (Tm.v 5)) (Tm.v 6)))) [((Pr.rn .eq) (Tm.v 0) ((Tm.m) ((Tm.p) (Tm.v 1) (Tm.v 2)) (Tm.v 3))),((Pr.rn .eq) (Tm.v 4) ((Tm.p) ((Tm.p) (Tm.v 5) (Tm.v 3)) (Tm.v 6))),((Pr.rn .le) ((Tm.p) (Tm.v 7) (Tm.v 3)) ((Tm.p) (Tm.v 1) (Tm.v 2)))]:=li ((Ct.b) ((Ct.b) ((Ct.l) [0,0,1,0,1,0,1]) ((Ct.l) [0,1,0,1,0,0,1])) ((Ct.b) ((Ct.l) [0,0,1,0,1,1,1]) ((Ct.l) [1,0,0,1,0,0,1]))) rfl
theorem Ij:Sd [a,b,c,d,e] [] ((Pr.rn .le) ((Tm.t) 2 (Tm.v 0)) (Tm.v 1)) [((Pr.rn .le) ((Tm.t) 2 (Tm.v 0)) ((Tm.p) ((Tm.m) (Tm.v 1) (Tm.v 2)) ((Tm.n) 1))),((Pr.rn .lt) ((Tm.n) 0) (Tm.v 2)),((Pr.rn .lt) (Tm.v 3) (Tm.v 4)),((Pr.rn .eq) (Tm.v 4) ((Tm.m) ((Tm.p) (Tm.v 3) (Tm.v 1)) (Tm.v 2)))]:=li ((Ct.b) ((Ct.b) ((Ct.l) [0,1,1,0,0,0,0,1]) ((Ct.l) [0,0,0,1,0,0,1])) ((Ct.b) ((Ct.l) [1,0,0,1,0,0,1]) ((Ct.l) [0,0,0,1,0,0,1]))) rfl
theorem Ik:Sd [a,b,c,d] [] ((Pr.rn .le) ((Tm.t) 2 (Tm.v 0)) ((Tm.m) (Tm.v 1) (Tm.v 2))) [((Pr.rn .le) ((Tm.t) 2 (Tm.v 0)) ((Tm.p) ((Tm.m) (Tm.v 1) ((Tm.p) (Tm.v 2) (Tm.v 3))) ((Tm.n) 1))),((Pr.rn .lt) ((Tm.n) 0) (Tm.v 3)),((Pr.rn .lt) ((Tm.p) (Tm.v 2) (Tm.v 3)) (Tm.v 1))]:=li ((Ct.b) ((Ct.b) ((Ct.l) [0,1,1,0,0,1]) ((Ct.l) [0,0,1,1,1])) ((Ct.l) [1,0,0,1])) rfl
variable {as:List Str}{bs:List Str}{p:Str->Bool}{alo:Nat}{ahi:Nat}{blo:Nat}{bhi:Nat}
structure FL(as bs:List Str)(p:Str->Bool)(alo blo i j x:Nat):Prop where
 la:alo+x<=i
 lb:blo+x<=j
 eq:∀t,t<x->pairAt as bs p (i-1-t) (j-1-t)=true
 stop:alo<i-x->blo<j-x->pairAt as bs p (i-x-1) (j-x-1)=false
structure FK(as bs:List Str)(p:Str->Bool)(ahi bhi i j y:Nat):Prop where
 ha:i+y<=ahi
 hb:j+y<=bhi
 eq:∀t,t<y->pairAt as bs p (i+t) (j+t)=true
 stop:i+y<ahi->j+y<bhi->pairAt as bs p (i+y) (j+y)=false
inductive Hi(as bs:List Str)(p:Str->Bool)(alo blo i j k:Nat)(r:Nat×Nat×Nat):Prop
 |mk (x:Nat) (e:r=(i-x,j-x,k+x)) (g:FL as bs p alo blo i j x)
inductive Hg(as bs:List Str)(p:Str->Bool)(ahi bhi i j k r:Nat):Prop
 |mk (y:Nat) (e:r=k+y) (g:FK as bs p ahi bhi i j y)
theorem om{b P Q}(h:¬(P/\Q/\b=true))(p:P)(q:Q):b=false:=by
 cases b with
 |false=>rfl
 |true=>exact absurd ⟨p,q,rfl⟩ h
theorem FL.cons{i j x}(c:blo<j)(h:pairAt as bs p i (j-1)=true)(g:FL as bs p alo blo i (j-1) x):FL as bs p alo blo (i+1) j (x+1) :=
 ⟨by exact cO 1 20 g.la,by exact b6 1 21 g.lb c,λt d=>by
  cases t with
  |zero=>exact h
  |succ t=>rw[show j-1-(t+1)=j-1-1-t by exact b6 2 3,show i+1-1-(t+1)=i-1-t by exact b6 2 2];exact g.eq t (by exact b6 2 1 d),λa b=>by
  refine(show i+1-(x+1)-1=i-x-1 by exact b6 2 6).symm▸?_;refine(show j-(x+1)-1=j-1-x-1 by exact b6 2 7).symm▸?_;exact g.stop (by exact cO 2 4 a) (by exact cO 2 5 b)⟩
theorem m6:∀(i j k:Nat),alo<=i->blo<=j->Hi as bs p alo blo i j k (dZ as bs p alo blo i j k)
 |0,j,k,a,c=>⟨0,rfl,a,c,λt d=>(ec 1 19 d).elim,λh=>absurd h (I4 _)⟩
 |i+1,j,k,a,c=>by
  rw[hH];by_cases h:alo<i+1/\blo<j/\pairAt as bs p i (j-1)=true
  ·rw[if_pos h];obtain⟨x,e,g⟩:=m6 i (j-1) (k+1) (by exact b8 1 5 h.1) (by exact b8 1 6 h.2.1);exact⟨x+1,by rw[e,show i-x=i+1-(x+1) by exact b6 1 22,show j-1-x=j-(x+1) by exact b6 1 23,show k+1+x=k+(x+1) by exact b6 2 0],g.cons h.2.1 h.2.2⟩
  ·rw[if_neg h];exact⟨0,rfl,a,c,λt d=>(ec 1 19 d).elim,om h⟩
theorem FK.cons{i j y}(h:pairAt as bs p i j=true)(g:FK as bs p ahi bhi (i+1) (j+1) y):FK as bs p ahi bhi i j (y+1) :=
 ⟨Kz i y▸g.ha,Kz j y▸g.hb,λt a=>by
  cases t with
  |zero=>exact h
  |succ t=>(refine(Kz i t)▸?_;refine(Kz j t)▸?_);exact g.eq t (NM a),by
  refine(Kz i y)▸?_;refine(Kz j y)▸?_;exact g.stop⟩
theorem m5(i j:Nat):∀(n k:Nat),ahi-(i+k)<=n->i+k<=ahi->j+k<=bhi->Hg as bs p ahi bhi (i+k) (j+k) k (eW as bs p ahi bhi i j n k)
 |0,k,a,c,d=>⟨0,rfl,c,d,λt f=>(ec 1 19 f).elim,λh=>(b6 2 8 h a).elim⟩
 |n+1,k,a,c,d=>by
  rw[hF];by_cases h:i+k<ahi/\j+k<bhi/\pairAt as bs p (i+k) (j+k)=true
  ·rw[if_pos h];obtain⟨y,e,g⟩:=m5 i j n (k+1) (by exact fc 2 9 a) h.1 h.2.1;exact⟨y+1,by refine(e).trans ?_;exact b6 2 0,g.cons h.2.2⟩
  ·rw[if_neg h];exact⟨0,rfl,c,d,λt f=>(ec 1 19 f).elim,om h⟩
theorem s9{i j k}(h:alo<i->blo<j->pairAt as bs p (i-1) (j-1)=false):dZ as bs p alo blo i j k=(i,j,k):=by
 cases i with
 |zero=>rfl
 |succ i=>rw[hH,if_neg λq=>IW (q.2.2.symm.trans (h q.1 q.2.1))]
theorem s7{i j n k}(h:i+k<ahi->j+k<bhi->pairAt as bs p (i+k) (j+k)=false):eW as bs p ahi bhi i j n k=k:=by
 cases n with
 |zero=>rfl
 |succ n=>rw[hF,if_neg λq=>IW (q.2.2.symm.trans (h q.1 q.2.1))]
mutual
theorem jj{i j k}(d:i5 as bs p alo ahi blo bhi i j k)(f:alo<=ahi)(g:blo<=bhi)(a:alo<i)(c:blo<j):pairAt as bs p (i-1) (j-1)=false:=by
 cases e:pairAt as bs p (i-1) (j-1) with
 |false=>rfl
 |true =>
  exfalso;have hi:=d.hi;rw[JT f,JT g] at hi;have:=d.best (i-1) (j-1) (k+1) (by exact ec 2 10) ⟨by exact b8 1 6 a,by exact b8 1 6 c,λt h=>by
   cases t with
   |zero=>exact e
   |succ t =>
    have:=d.run.2.2 t (by exact b6 2 1 h);refine(show i-1+(t+1)=i+t by exact b6 2 11 a).symm▸?_;refine(show j-1+(t+1)=j+t by exact b6 2 11 c).symm▸?_;exact this⟩ (by exact cO 2 12 hi.1 a) (by exact cO 2 12 hi.2 c)
  exact(fc 2 13 this).elim
theorem ji{i j k}(a:i5 as bs p alo ahi blo bhi i j k)(g:alo<=ahi)(h:blo<=bhi)(c:i+k<ahi)(d:j+k<bhi):pairAt as bs p (i+k) (j+k)=false:=by
 cases e:pairAt as bs p (i+k) (j+k) with
 |false=>rfl
 |true =>
  exfalso;have:=a.best i j (k+1) (by exact ec 2 10) ⟨a.run.1,a.run.2.1,λt f=>by
   by_cases q:t=k
   ·refine(q).symm▸?_;exact e
   ·exact a.run.2.2 t (by exact b8 0 2 f q)⟩ (by exact b6 1 8 c) (by exact b6 1 8 d)
  exact(b6 2 14 this).elim
end
structure y6(as bs:List Str)(J:Str->Bool)(alo ahi blo bhi i0 j₀ k₀ x y:Nat):Prop where
 lg:i5 as bs (λs=> !J s) alo ahi blo bhi i0 j₀ k₀
 la:alo+x<=i0
 lb:blo+x<=j₀
 ha:i0+k₀+y<=ahi
 hb:j₀+k₀+y<=bhi
 left:∀t,t<x->pairAt as bs J (i0-1-t) (j₀-1-t)=true
 stopL:alo<i0-x->blo<j₀-x->pairAt as bs J (i0-x-1) (j₀-x-1)=false
 right:∀t,t<y->pairAt as bs J (i0+k₀+t) (j₀+k₀+t)=true
 stopR:i0+k₀+y<ahi->j₀+k₀+y<bhi->pairAt as bs J (i0+k₀+y) (j₀+k₀+y)=false
inductive Hk(as bs:List Str)(J:Str->Bool)(alo ahi blo bhi i j k:Nat):Prop
 |mk (i0 j₀ k₀ x y:Nat) (F:y6 as bs J alo ahi blo bhi i0 j₀ k₀ x y) (ei:i=i0-x) (ej:j=j₀-x) (ek:k=k₀+x+y)
theorem kK{as bs J alo ahi blo bhi i j k}(h:lF as bs J alo ahi blo bhi (i,j,k))(q:alo<=ahi)(r:blo<=bhi):Hk as bs J alo ahi blo bhi i j k:=by
 refine IJ λA=>?_;obtain⟨f,g,k₀,o,e⟩:=h;refine A ?_;have hi:=o.hi;rw[JT q,JT r] at hi;unfold extend at e;rw[s9 λa b=>jj o q r a b] at e;dsimp only at e;rw[s7 λa b=>ji o q r a b] at e;obtain⟨x,u,c⟩:=m6 (as:=as) (bs:=bs) (p:=J) (alo:=alo) (blo:=blo) f g k₀ o.run.1 o.run.2.1;rw[u] at e;dsimp only at e;obtain⟨y,v,d⟩:=m5 (as:=as) (bs:=bs) (p:=J) (ahi:=ahi) (bhi:=bhi) (f-x) (g-x) (ahi-(f-x+(k₀+x))) (k₀+x) (IQ _) (by exact fc 2 16 c.la hi.1) (by exact fc 2 16 c.lb hi.2);rw[v] at e;have w:f-x+(k₀+x)=f+k₀:=by exact cO 2 17 c.la
 have z:g-x+(k₀+x)=g+k₀:=by exact cO 2 17 c.lb
 rw[w,z] at d;exact⟨f,g,k₀,x,y,⟨o,c.la,c.lb,d.ha,d.hb,c.eq,c.stop,d.eq,d.stop⟩,congrArg (·.1) e,congrArg (·.2.1) e,congrArg (·.2.2) e⟩
structure Core(as bs:List Str)(J:Str->Bool)(u v m:Nat):Prop where
 pos:0<m
 same:∀t,t<m->∃x,as[u+t]?=IK x/\bs[v+t]?=IK x
 first:∀x,as[u]?=IK x->J x=false
 last:∀x,as[u+m-1]?=IK x->J x=false
noncomputable def d5(as:List Str)(J:Str->Bool)(lo hi:Nat):Prop:=∀t,lo<=t->t<hi->∃x,as[t]?=IK x/\J x=true
structure C3(as bs:List Str)(alo blo u v e:Nat):Prop where
 la:alo+e<=u
 lb:blo+e<=v
 eq:∀t,t<e->as[u-1-t]?=bs[v-1-t]?
 stop:alo<u-e->blo<v-e->as[u-e-1]?≠bs[v-e-1]?
structure y3(as bs:List Str)(ahi bhi u v f:Nat):Prop where
 ha:u+f<=ahi
 hb:v+f<=bhi
 eq:∀t,t<f->as[u+t]?=bs[v+t]?
 stop:u+f<ahi->v+f<bhi->as[u+f]?≠bs[v+f]?
noncomputable def Chain:List (Nat×Nat×Nat)->Nat->Nat->Nat->Prop
 |[],Z,L,n=>n=0
 |(i,j,k)::T,a,b,n=>i=a/\j=b/\0<k/\k<=n/\Chain T (a+k) (b+k) (n-k)
theorem Chain.append:∀ {T T':List (Nat×Nat×Nat)} {a b n n':Nat},Chain T a b n->Chain T' (a+n) (b+n) n'->Chain (T++T') a b (n+n')
 |[],T',a,b,n,n',h,h'=>by
  have d:n=0:=h;subst d;refine(JK ..).symm▸?_;exact h'
 |(i,j,k)::T,T',a,b,n,n',⟨e,f,g,c,o⟩,h'=>by
  refine⟨e,f,g,by exact b6 0 7 c,?_⟩;refine(show n+n'-k=n-k+n' by exact b6 2 18 c).symm▸?_;refine Chain.append o ?_;refine(show a+k+(n-k)=a+n by exact b6 2 19 c).symm▸?_;refine(show b+k+(n-k)=b+n by exact b6 2 19 c).symm▸?_;exact h'
variable {J:Str->Bool}
inductive IF(u v m i j k:Nat):Prop
 |mk (s:Nat) (ei:i=u+s) (ej:j=v+s) (hk:s+k<=m) (h0:0<k)
theorem jV{u v m i j k}(p:i5 as bs (λs=> !J s) alo ahi blo bhi i j k)(E:alo<=u)(G:u+m<=ahi)(F:blo<=v)(H:v+m<=bhi)(c:Core as bs J u v m)(Y:d5 as J alo u)(P:d5 as J (u+m) ahi)(Z:d5 bs J blo v)(Q:d5 bs J (v+m) bhi):IF u v m i j k:=by
 have M:=c.pos;have hi:=p.hi;rw[JT (by exact cO 2 20 G E),JT (by exact cO 2 20 H F)] at hi;have h:0<k:=by
  obtain⟨x,g,w⟩:=c.same 0 M;have:=p.best u v 1 (by exact BY 2 21) ⟨E,F,λt e=>by
   have:t=0:=by exact ec 2 22 e
   subst this;exact cT.mpr ⟨x,g,w,by rw[c.first x g];rfl⟩⟩ (by exact cO 2 23 G M) (by exact cO 2 23 H M)
  exact fc 3 0 this
 have at_:∀t,t<k->∃x,as[i+t]?=IK x/\bs[j+t]?=IK x/\J x=false:=λt e=>by
  refine IJ λz=>?_;obtain⟨x,g,w,D⟩:=cT.mp (p.run.2.2 t e);refine z ?_;exact⟨x,g,w,by simpa using D⟩
 have f:∀ {l:List Str} {lo hi t:Nat} {x:Str},d5 l J lo hi->lo<=t->t<hi->l[t]?=IK x->J x=false->False:=λX a b q r=>by
  obtain⟨y,d,y2⟩:=X _ a b;have d:=(q ..)▸d;cases d;have y2:=r▸y2;cases y2
 refine IJ λz=>?_;obtain⟨x0,p0,q0,R⟩:=at_ 0 h;obtain⟨g,p1,q1,S⟩:=at_ (k-1) (by exact b8 3 1 h);refine z ?_;have A:u<=i:=by
  by_cases q:i<u
  ·exact(f Y p.run.1 q (by simpa using p0) R).elim
  ·exact b8 0 17 q
 have B:v<=j:=by
  by_cases q:j<v
  ·exact(f Z p.run.2.1 q (by simpa using q0) R).elim
  ·exact b8 0 17 q
 have o:i+k<=u+m:=by
  by_cases q:u+m<i+k
  ·exact(f P (t:=i+(k-1)) (by exact b6 3 2 q) (by exact cO 3 3 hi.1 h) p1 S).elim
  ·exact b8 0 17 q
 have C:j+k<=v+m:=by
  by_cases q:v+m<j+k
  ·exact(f Q (t:=j+(k-1)) (by exact b6 3 2 q) (by exact cO 3 3 hi.2 h) q1 S).elim
  ·exact b8 0 17 q
 have T:=p.best i (v+(i-u)) k h ⟨by exact b6 3 4 E A,by exact b6 0 7 F,λt e=>by
  refine IJ λz=>?_;obtain⟨x,g,w,D⟩:=at_ t e;obtain⟨y,d,y2⟩:=c.same (i-u+t) (by exact fc 3 5 o A e);refine z ?_;have d:=(show u+(i-u+t)=i+t by exact b6 3 6 A)▸d;rw[g] at d;obtain rfl:=Jk d;exact cT.mpr ⟨x,g,by rw[show v+(i-u)+t=v+(i-u+t) by exact b6 3 7];exact y2,by rw[D];rfl⟩⟩ (by exact b8 3 8 hi.1) (by exact ja 3 9 o H A)
 have U:=p.best (u+(j-v)) j k h ⟨by exact b6 0 7 E,by exact b6 3 4 F B,λt e=>by
  refine IJ λz=>?_;obtain⟨x,g,w,D⟩:=at_ t e;refine z ?_;obtain⟨y,d,y2⟩:=c.same (j-v+t) (by exact fc 3 5 C B e);replace y2:=(show v+(j-v+t)=j+t by exact b6 3 6 B)▸y2;replace y2:=w▸y2;obtain rfl:=Jk y2;exact cT.mpr ⟨x,by rw[show u+(j-v)+t=u+(j-v+t) by exact b6 3 7];exact d,w,by rw[D];rfl⟩⟩ (by exact ja 3 9 C G B) (by exact b8 3 8 hi.2)
 exact⟨i-u,by exact b8 3 10 A,by exact fc 3 11 U T B,by exact cO 3 12 o A,h⟩
mutual
theorem pU{i j}(h:pairAt as bs J i j=true):as[i]?=bs[j]?:=by
 obtain⟨x,a,c,_⟩:=cT.mp h;refine(a).symm▸?_;exact(c).symm▸rfl
theorem jN{i j}(h:as[i]?=bs[j]?)(c:∃x,as[i]?=IK x/\J x=true):pairAt as bs J i j=true:=by
 refine IJ λe=>?_;obtain⟨x,a,d⟩:=c;refine e ?_;exact cT.mpr ⟨x,a,h▸a,d⟩
end
theorem oA{T}(h:Tree as bs J alo ahi blo bhi T):alo<=ahi->blo<=bhi->d5 as J alo ahi->∀p,y3 as bs ahi bhi alo blo p->T=if p=0 then [] else [(alo,blo,p)]:=by
 have r:∀ {alo ahi blo bhi i j k p:Nat},lF as bs J alo ahi blo bhi (i,j,k)->alo<=ahi->blo<=bhi->d5 as J alo ahi->y3 as bs ahi bhi alo blo p->i=alo/\j=blo/\k=p:=by
  intro alo ahi blo bhi i j k p h f g d c;obtain⟨o,M,k₀,x,y,F,ei,ej,X⟩:=kK h f g;have u:k₀=0:=by
   cases k₀ with
   |zero=>rfl
   |succ k₀ =>
    exfalso;obtain⟨z,Q,z2,C⟩:=cT.mp (F.lg.run.2.2 0 (by exact ec 2 10));have:=F.ha;obtain⟨w,w1,w2⟩:=d o F.lg.run.1 (by exact cO 3 13 this);rw[Lv,w1] at Q;obtain rfl:=Jk Q;have C:=w2▸C;cases C
  subst u;obtain⟨S,U⟩:=F.lg.zero rfl;subst S U;have hx:x=0:=by have:=F.la;exact b8 3 14 this
  subst hx;have D:=F.ha;have E:=F.hb;have G:=F.right;have H:=F.stopR;simp only[Lv] at D E G H;have hy:y=p:=by
   rcases O1 y p with q | q | q
   ·exfalso;have P:=c.ha;have mb:=c.hb;have:=H (by exact cO 3 15 P q) (by exact cO 3 15 mb q);have this:=(jN (c.eq y q) (d _ (by exact b8 1 18) (by exact cO 3 15 P q)))▸this;cases this
   ·exact q
   ·exact(c.stop (by exact cO 3 15 D q) (by exact cO 3 15 E q) (pU (G p q))).elim
  subst hy;exact⟨by assumption,by assumption,by exact b8 3 16 X⟩
 induction h with
 |leaf h =>
  intro f g d p c;refine IJ λzz=>?_;obtain⟨_,_,e⟩:=r h f g d c;refine zz ?_;exact(if_pos e.symm ..).symm▸rfl
 |@node alo ahi blo bhi i j k L R h u hl v hr A aa B =>
  intro f g d p c;obtain⟨rfl,rfl,rfl⟩:=r h f g d c;rw[if_neg (by exact b8 3 17 u)];refine(v (by exact b8 3 18) ..).symm▸?_;have Y:R=[]:=by
   by_cases q:i+k<ahi/\j+k<bhi
   ·have:=B q (by exact b8 1 12 q.1) (by exact b8 1 12 q.2) (λt a b=>d t (by exact b6 3 19 a) b) 0 ⟨by exact b8 3 20 q.1,by exact b8 3 20 q.2,λt Z=>by exact(ec 1 19 Z).elim,λa b=>c.stop q.1 q.2⟩;refine(this ..).symm▸?_;exact(if_pos rfl ..).symm▸rfl
   ·exact A q
  refine(Y).symm▸?_
  rfl
inductive BV(as bs:List Str)(J:Str->Bool)(alo blo u v n m:Nat)(T:List (Nat×Nat×Nat)):Prop
 |mk (L0 T1:List (Nat×Nat×Nat)) (eT:T=L0++T1) (ch:Chain T1 u v n) (t1:alo<u/\blo<v->Tree as bs J alo u blo v L0) (t2:¬(alo<u/\blo<v)->L0=[]) (tl:2*T1.length<=m)
noncomputable def y7(as bs:List Str)(J:Str->Bool)(alo ahi blo bhi:Nat)(T:List (Nat×Nat×Nat)):Prop:=∀u v m e f:Nat,alo<=u->u+m<=ahi->blo<=v->v+m<=bhi->Core as bs J u v m->d5 as J alo u->d5 as J (u+m) ahi->d5 bs J blo v->d5 bs J (v+m) bhi->C3 as bs alo blo u v e->y3 as bs ahi bhi (u+m) (v+m) f ->
  BV as bs J alo blo (u-e) (v-e) (e+m+f) (m+1) T
inductive Fe(as bs:List Str)(J:Str->Bool)(alo blo i j u v m:Nat)(L:List (Nat×Nat×Nat)):Prop
 |mk (l1:u<=i) (l2:j+u=v+i) (t:BV as bs J alo blo u v (i-u) m L)
structure CZ(R:List (Nat×Nat×Nat))(i j n m:Nat):Prop where
 le:i<=n
 ch:Chain R i j (n-i)
 tl:2*R.length<=m
mutual
theorem v8{u v m e i j s k₀ x y L}(F:y6 as bs J alo ahi blo bhi (u+s) (v+s) k₀ x y)(d:i=u+s-x)(g:j=v+s-x)(U:alo<=u)(A:blo<=v)(h4:v+m<=bhi)(T:s+k₀<=m)(D:0<k₀)(c:Core as bs J u v m)(X:d5 as J alo u)(jb:d5 bs J blo v)(f:C3 as bs alo blo u v e)(hl:alo<i/\blo<j->Tree as bs J alo i blo j L)(E:¬(alo<i/\blo<j)->L=[])(M:alo<i/\blo<j->y7 as bs J alo i blo j L):Fe as bs J alo blo i j (u-e) (v-e) s L:=by
 by_cases q:u<i
 ·have c0:=F.stopL (by exact fc 3 22 f.la q d) (by exact ja 3 23 q d A);refine IJ λzz=>?_;obtain⟨z,k,P⟩:=c.same (s-x-1) (by exact ja 4 0 T D);refine zz ?_;replace c0:=(show u+s-x-1=u+(s-x-1) by exact cO 4 1 q d)▸c0;replace c0:=(show v+s-x-1=v+(s-x-1) by exact fc 4 2 q d)▸c0;have hz:J z=false:=by
   cases ez:J z with
   |false=>rfl
   |true=>have c0:=(jN (k.trans P.symm) ⟨z,k,ez⟩)▸c0;cases c0
  have H:0<x:=by
   cases x with
   |succ x=>exact OZ _
   |zero =>
    exfalso;have h:=jj F.lg (by exact ja 4 3 F.ha F.la) (by exact cO 2 20 h4 A) (by exact fc 4 4 q d U) (by exact ja 4 5 q d A);have h:=(show u+s-1=u+(s-0-1) by exact b6 4 6 q d)▸h;have h:=(show v+s-1=v+(s-0-1) by exact cO 4 7 q d)▸h;rw[cT.mpr ⟨z,k,P,by refine(hz).symm▸?_;rfl⟩] at h;cases h
  obtain⟨Y,Z,eL,ch,t1,t2,tl⟩:=M (by exact Dc 4 8 f.la q d g A) u v (s-x) e 0 U (by exact cO 4 9 q d) A (by exact ja 4 10 q d g) ⟨by exact cO 4 11 q d,λt G=>c.same t (by exact fc 4 12 T G),c.first,λw hw=>by
   have hw:=(show u+(s-x)-1=u+(s-x-1) by exact cO 4 13 q d)▸hw;have hw:=k▸hw;cases hw;exact hz⟩ X (λt a b=>by exact(fc 4 14 a b d).elim) jb (λt a b=>by exact(fc 4 14 a b g).elim) f ⟨by exact cO 4 15 q d,by exact ja 4 16 q d g,λt G=>by exact(ec 1 19 G).elim,λa b=>by exact(fc 4 17 b g).elim⟩
  refine⟨by exact b6 4 18 q,by exact Dc 4 19 f.la f.lb q d g,Y,Z,eL,?_,t1,t2,by exact Ij tl H q d⟩;refine(show i-(u-e)=e+(s-x)+0 by exact ja 4 20 f.la q d).symm▸?_;exact ch
 ·have hs:s=0:=by
   cases s with
   |zero=>rfl
   |succ s =>
    exfalso;obtain⟨z,k,P,Q⟩:=cT.mp (F.left s (by exact cO 4 21 d q));have Q:=(c.first z ((show u+(s+1)-1-s=u by exact b6 4 22)▸k))▸Q;cases Q
  subst hs;have R:=F.left;have S:=F.stopL;have o:=F.la;have p:=F.lb;simp only[Lv] at R S o p d g;have hx:x=e:=by
   rcases O1 x e with r | r | r
   ·exfalso;have:=S (by exact cO 4 23 f.la r) (by exact cO 4 23 f.lb r);have B:=f.eq x r;have B:=(show u-1-x=u-x-1 by exact b6 5 0)▸B;have B:=(show v-1-x=v-x-1 by exact b6 5 0)▸B;have this:=(jN B (X _ (by exact cO 5 1 f.la r) (by exact cO 5 2 f.la r)))▸this;cases this
   ·exact r
   ·exfalso;have:=pU (R e r);rw[show u-1-e=u-e-1 by exact b6 5 0,show v-1-e=v-e-1 by exact b6 5 0] at this;exact f.stop (by exact cO 4 23 o r) (by exact cO 4 23 p r) this
  subst hx;refine⟨by exact b8 0 14 d,by exact cO 5 3 g d,L,[],by exact(Jj ..).symm▸rfl,by exact b8 5 4 d,λC=>?_,λC=>?_,Ji _⟩
  ·refine(d)▸?_;refine(g)▸?_;exact hl (by exact ja 5 5 C.1 C.2 d g)
  ·exact E (by exact ja 5 6 d g C)
theorem tm{u v m f i j k s k₀ x y R}(F:y6 as bs J alo ahi blo bhi (u+s) (v+s) k₀ x y)(B:i=u+s-x)(H:j=v+s-x)(g:k=k₀+x+y)(h1:alo<=u)(E:u+m<=ahi)(h3:blo<=v)(M:v+m<=bhi)(e3:s+k₀<=m)(aa:0<k₀)(c:Core as bs J u v m)(A:d5 as J (u+m) ahi)(U:d5 bs J (v+m) bhi)(o:y3 as bs ahi bhi (u+m) (v+m) f)(hr:i+k<ahi/\j+k<bhi->Tree as bs J (i+k) ahi (j+k) bhi R)(Q:¬(i+k<ahi/\j+k<bhi)->R=[])(T:i+k<ahi/\j+k<bhi->y7 as bs J (i+k) ahi (j+k) bhi R):CZ R (i+k) (j+k) (u+m+f) (m-(s+k₀)):=by
 have d:i+k=u+(s+k₀+y):=HL B g F.la;have e:j+k=v+(s+k₀+y):=HL H g F.lb;by_cases q:s+k₀+y<m
 ·have c0:=F.stopR (by exact ja 5 7 q E) (by exact ja 5 7 q M);obtain⟨z,D,X⟩:=c.same (s+k₀+y) q;replace c0:=(show u+s+k₀+y=u+(s+k₀+y) by exact cO 5 8)▸c0;replace c0:=(show v+s+k₀+y=v+(s+k₀+y) by exact cO 5 8)▸c0;have hz:J z=false:=by
   cases ez:J z with
   |false=>rfl
   |true=>have c0:=(jN (D.trans X.symm) ⟨z,D,ez⟩)▸c0;cases c0
  have S:0<y:=by
   cases y with
   |succ y=>exact OZ _
   |zero =>
    exfalso;have C:=ji F.lg (by exact cO 2 20 E h1) (by exact cO 2 20 M h3) (by exact ja 5 9 q E) (by exact qu 5 10 q o.hb);have C:=(show u+s+k₀=u+(s+k₀+0) by exact b6 5 11)▸C;have C:=(show v+s+k₀=v+(s+k₀+0) by exact b6 5 11)▸C;rw[cT.mpr ⟨z,D,X,by refine(hz).symm▸?_;rfl⟩] at C;cases C
  obtain⟨L0,T1,P,ch,t1,t2,tl⟩:=T (by exact y8 5 12 E M q d e) (u+(s+k₀+y)) (v+(s+k₀+y)) (m-(s+k₀+y)) 0 f (by exact b8 5 13 d) (by exact cO 5 14 E q) (by exact b8 5 13 e) (by exact cO 5 14 M q) ⟨by exact b8 5 15 q,λt G=>by
    refine(KA u ..).symm▸?_;refine(KA v ..).symm▸?_;exact c.same _ (by exact b6 5 16 G),λw hw=>by have hw:=D▸hw;cases hw;exact hz,λw hw=>c.last w (by refine(hw)▸?_;congr 1;exact cO 5 17 q)⟩
   (λt a b=>by exact(y8 5 18 a B g b).elim) (λt a b=>A t (by exact cO 5 19 a) b) (λt a b=>by exact(y8 5 18 a H g b).elim) (λt a b=>U t (by exact cO 5 19 a) b) ⟨by exact b8 5 20 d,by exact b8 5 20 e,λt G=>by exact(ec 1 19 G).elim,λa b=>by exact(y8 5 21 b H g).elim⟩
   (by refine(show u+(s+k₀+y)+(m-(s+k₀+y))=u+m by exact b6 5 22 q).symm▸?_;refine(show v+(s+k₀+y)+(m-(s+k₀+y))=v+m by exact b6 5 22 q).symm▸?_;exact o)
  rw[t2 (by exact BX 5 23 g B)] at P;refine⟨by exact fc 6 0 q d,?_,by rw[P,L8];exact Ik tl S q⟩;rw[P,L8,d,e,show u+m+f-(u+(s+k₀+y))=0+(m-(s+k₀+y))+f by exact cO 6 1 q];exact ch
 ·have h:s+k₀=m:=by
   by_cases r:s+k₀=m
   ·exact r
   ·exfalso;obtain⟨z,D,X,Y⟩:=cT.mp (F.right (m-1-s-k₀) (by exact cO 6 2 e3 q r));have:=c.last z (by refine J3 ?_ (D);congr 1;exact cO 6 3 e3 r);have Y:=this▸Y;cases Y
  have Z:=F.right;have F2:=F.stopR;rw[KA u s k₀,KA v s k₀,h] at Z F2;have hy:y=f:=by
   rcases O1 y f with r | r | r
   ·exfalso;have:=F2 (by exact cO 3 15 o.ha r) (by exact cO 3 15 o.hb r);have this:=(jN (o.eq y r) (A _ (by exact b8 1 18) (by exact cO 3 15 o.ha r)))▸this;cases this
   ·exact r
   ·exact(o.stop (by exact qu 6 4 F.ha h r) (by exact qu 6 4 F.hb h r) (pU (Z f r))).elim
  subst hy;have hR:R=[]:=by
   by_cases p:i+k<ahi/\j+k<bhi
   ·have:=oA (hr p) (by exact b8 1 12 p.1) (by exact b8 1 12 p.2) (λt a b=>A t (by exact Dc 6 5 a B g q) b) 0 ⟨by exact b8 3 20 p.1,by exact b8 3 20 p.2,λt G=>by exact(ec 1 19 G).elim,λa b=>by
     have ms:=o.stop (by exact Dc 6 6 p.1 h B g) (by exact Dc 6 6 p.2 h H g);refine(Lv ..).symm▸?_;rw[Lv];refine(d ..).symm▸?_;refine(e ..).symm▸?_;refine(h ..).symm▸?_;refine(KA ..)▸?_;refine(KA ..)▸?_;exact ms⟩
    refine(this ..).symm▸?_;exact(if_pos rfl ..).symm▸rfl
   ·exact Q p
  refine(hR).symm▸?_;exact⟨by exact fc 6 7 d h,by exact y8 6 8 h g B,Ji _⟩
end
theorem v7{T}(h:Tree as bs J alo ahi blo bhi T):y7 as bs J alo ahi blo bhi T:=by
 induction h with
 |leaf h =>
  intro u v m e f g w o p c C a D d Y mr;exfalso;obtain⟨z,A,k₀,x,y,F,H,M,P⟩:=kK h (by exact cO 2 20 w g) (by exact cO 2 20 p o);obtain⟨s,_,_,_,q⟩:=jV F.lg g w o p c C a D d;exact cO 3 21 q P
 |@node alo ahi blo bhi i j k L R h hk hl Q hr S U X =>
  intro u v m e f g w o p c C a D d Y mr;obtain⟨z,A,k₀,x,y,F,H,M,P⟩:=kK h (by exact cO 2 20 w g) (by exact cO 2 20 p o);obtain⟨s,e1,e2,G,r⟩:=jV F.lg g w o p c C a D d;subst e1 e2;refine IJ λzz=>?_;obtain⟨B,Z,L0,T1,eL,ch,t1,t2,tl⟩:=v8 F H M g o p G r c C D Y hl Q U;obtain⟨r1,E,rl⟩:=tm F H M P g w o p G r c a d mr hr S X;refine zz ?_;refine⟨L0,T1++(i,j,k)::R,by rw[eL,I1],?_,t1,t2,by refine(IL).symm▸?_;refine(JA).symm▸?_;exact ja 6 9 rl tl G r⟩;have:=ch.append (T':=(i,j,k)::R) (n':=k+(u+m+f-(i+k))) ⟨by exact b8 3 10 B,by exact cO 6 10 Z B,hk,by exact b8 1 18,by
   rw[show u-e+(i-(u-e))+k=i+k by exact b6 6 11 B,show v-e+(i-(u-e))+k=j+k by exact fc 6 12 Z B,show k+(u+m+f-(i+k))-k=u+m+f-(i+k) by exact b8 6 13];exact E⟩
  rw[show e+m+f=i-(u-e)+(k+(u+m+f-(i+k))) by exact qu 6 14 r1 B Y.la];exact this
noncomputable def one(c:Nat):Str:=⟨#[c]⟩
mutual
theorem one_inj{c d}(h:one c=one d):c=d:=by
 have:=congrArg (λx:Str=>x.cps.toList) h
 simpa [one] using this
theorem rT(l:List Nat):chars (tx l)=l.map one:=by
 unfold chars;refine(gq ..).symm▸?_;rfl
end
mutual
theorem dw(l:List Nat)(i:Nat):(chars (tx l))[i]?=(l[i]?).map one:=by rw[rT,Jt]
theorem d9(l:List Nat):(chars (tx l)).length=l.length:=by rw[rT,IZ]
theorem lT{x}{y:Option Nat}(h:x.map one=y.map one):x=y:=by
 cases x with
 |none=>cases y with
  |none=>rfl
  |some y=>cases h
 |some x=>cases y with
  |none=>cases h
  |some y=>exact(one_inj (Jk h)).symm▸rfl
theorem jZ(c:Nat):cV cU (one c)=dM c:=oE c
theorem iK(a b:Nat)(l m:List Nat):b7 (a::l) (b::m)=if a=b then b7 l m+1 else 0:=rfl
end
theorem gD:∀l m:List Nat,(∀t,t<b7 l m->l[t]?=m[t]?)/\(b7 l m<l.length->b7 l m<m.length->l[b7 l m]?≠m[b7 l m]?)
 |[],Z=>⟨λt h=>absurd h (I4 _),λh=>absurd h (I4 _)⟩
 |Z::L,[]=>⟨λt h=>absurd h (I4 _),λZ h=>absurd h (I4 _)⟩
 |a::l,b::m=>by
  obtain⟨d,f⟩:=gD l m;refine(iK ..).symm▸?_;by_cases e:a=b
  ·rw[if_pos e];refine⟨λt c=>?_,λp q=>?_⟩
   ·cases t with
    |zero=>refine(e).symm▸?_;rfl
    |succ t=>exact d t (by exact b6 2 1 c)
   ·exact f (NM p) (NM q)
  ·rw[if_neg e];exact⟨λt c=>absurd c (I4 _),λZ L q=>e (Jk q)⟩
end
section
variable (a:List Nat)(c:List Nat)(x:List Nat)
mutual
theorem yW{t}(h:t<a.length):(a++c++x)[t]?=a[t]?:=by rw[I1,Jp h]
theorem Ao{t}(h:t<c.length):(a++c++x)[a.length+t]?=c[t]?:=by
 rw[I1,Jr (by exact b8 1 18),Lm,Jp h]
theorem yV(t:Nat):(a++c++x)[a.length+c.length+t]?=x[t]?:=by
 rw[Jr (by rw[IL];exact b8 1 18),IL,Lm]
theorem fA:(a++c++x).length=a.length+c.length+x.length:=by rw[IL,IL]
end
theorem jC:∀(T:List (Nat×Nat×Nat)) (i j k n:Nat) (l:List (Nat×Nat×Nat)),Chain T (i+k) (j+k) n->T.foldl cQ ((i,j,k),l)=((i,j,k+n),l)
 |[],i,j,k,n,l,h=>by
  have c:n=0:=h;subst c;rfl
 |(p,q,a)::T,i,j,k,n,l,⟨d,f,r,g,o⟩=>by
  refine(Ma).symm▸?_;have e:cQ ((i,j,k),l) (p,q,a)=((i,j,k+a),l):=by
   unfold cQ;exact(if_pos ⟨d.symm,f.symm⟩)
  rw[e,jC T i j (k+a) (n-a) l (by refine(KA ..)▸?_;refine(KA ..)▸?_;exact o),show k+a+(n-a)=k+n by exact b6 2 19 g]
set_option tactic.hygienic true in
theorem wq{L0 a A B n p la lb}(d:Chain a A B n)(f:0<n)(c:L0=if p=0 then [] else [(0,0,p)])(x:0<p->¬(A=p/\B=p)) :
  cI (L0++a) la lb=(if p=0 then [] else [(0,0,p)])++[(A,B,n),(la,lb,0)]:=by
 match a,d with
 |[],d =>
  have:n=0:=d;exact(b8 6 15 f this).elim
 |(i,j,k)::a,⟨v,w,y,g,h⟩ =>
  subst v w;unfold cI;by_cases q:p=0
  ·rw[if_pos q] at c ⊢;rw[c,L8,Ma];have e:cQ ((0,0,0),[]) (i,j,k)=((i,j,k),[]):=by
    unfold cQ;dsimp only
    split
    ·rename_i r
     refine(r.1)▸?_;refine(r.2)▸?_;simp
    ·rfl
   refine(e).symm▸?_;refine(jC a i j k (n-k) [] h).symm▸?_;refine(show k+(n-k)=n by exact b8 6 16 g).symm▸?_;dsimp only;rw[if_neg (by exact b8 3 17 f)];rfl
  ·rw[if_neg q] at c ⊢;rw[c,QR,Ma,Ma];have o:cQ ((0,0,0),[]) (0,0,p)=((0,0,p),[]):=by
    unfold cQ;dsimp only;refine J3 (if_pos ⟨rfl,rfl⟩ ..) ?_;exact(JK ..).symm▸rfl
   have u:cQ ((0,0,p),[]) (i,j,k)=((i,j,k),[(0,0,p)]):=by
    unfold cQ;dsimp only;rw[if_neg (λr=>x (by exact ec 6 17 q) ⟨by exact b8 6 18 r.1,by exact b8 6 18 r.2⟩),if_neg q];rfl
   rw[o,u,jC a i j k (n-k) [(0,0,p)] h,show k+(n-k)=n by exact b8 6 16 g];dsimp only;rw[if_neg (by exact b8 3 17 f)];rfl
theorem jB{a a' c x x' T}(F:∀t∈a,dM t=true)(H:∀t∈a',dM t=true)(P:∀t∈x,dM t=true)(Q:∀t∈x',dM t=true)(hc:0<c.length)(J:∀t,c[0]?=IK t->dM t=false)(M:∀t,c[c.length-1]?=IK t->dM t=false)(h:Tree (chars (tx (a++c++x))) (chars (tx (a'++c++x'))) (cV cU) 0 (a++c++x).length 0 (a'++c++x').length T){e p f}(X:e=b7 a.reverse a'.reverse)(hp:p=b7 (a.take (a.length-e)) (a'.take (a'.length-e)))(Y:f=b7 x x') :
  cI T (a++c++x).length (a'++c++x').length=(if p=0 then [] else [(0,0,p)])++[(a.length-e,a'.length-e,e+c.length+f),((a++c++x).length,(a'++c++x').length,0)]/\2*T.length<=c.length+3:=by
 have le:=dm a.reverse a'.reverse;have R:=dm x x';have u:=dm (a.take (a.length-e)) (a'.take (a'.length-e));have le:=(X).symm▸le;have le:=JM▸le;have le:=JM▸le;rw[<-Y] at R;have u:=(hp).symm▸u;have u:=Jq▸u;have u:=Jq▸u;have y:=gD a.reverse a'.reverse;have G:=gD x x';have z:=gD (a.take (a.length-e)) (a'.take (a'.length-e));have y:=(X).symm▸y;have y:=JM▸y;have y:=JM▸y;have G:=(Y).symm▸G;have z:=(hp).symm▸z;have z:=Jq▸z;have z:=Jq▸z;have o:∀(a c x:List Nat),(∀t∈a,dM t=true)->d5 (chars (tx (a++c++x))) (cV cU) 0 a.length:=λa c x F t Z j=>by
  refine⟨one a[t],?_,by refine J3 (jZ ..) ?_;exact F _ (Lh j)⟩;rw[dw,yW a c x j,IV j];rfl
 have v:∀(a c x:List Nat),(∀t∈x,dM t=true)->d5 (chars (tx (a++c++x))) (cV cU) (a.length+c.length) (a++c++x).length:=λa c x P t g i=>by
  rw[fA] at i;have E:t-(a.length+c.length)<x.length:=by exact b6 6 19 i g
  refine⟨one x[t-(a.length+c.length)],?_,by refine J3 (jZ ..) ?_;exact P _ (Lh E)⟩;have:=yV a c x (t-(a.length+c.length));rw[show a.length+c.length+(t-(a.length+c.length))=t by exact b8 6 16 g] at this;rw[dw,this,IV E];rfl
 have core:Core (chars (tx (a++c++x))) (chars (tx (a'++c++x'))) (cV cU) a.length a'.length c.length:=by
  refine⟨hc,λt j=>⟨one c[t],?_,?_⟩,λw hw=>?_,λw hw=>?_⟩
  ·rw[dw,Ao a c x j,IV j];rfl
  ·rw[dw,Ao a' c x' j,IV j];rfl
  ·have:=Ao a c x hc;rw[Lv] at this;rw[dw,this] at hw;obtain⟨d,hd,rfl⟩:=Ln.mp hw;rw[jZ];exact J d hd
  ·have:=Ao a c x (t:=c.length-1) (by exact b8 3 1 hc);rw[show a.length+(c.length-1)=a.length+c.length-1 by exact b6 6 20 hc] at this;rw[dw,this] at hw;obtain⟨d,hd,rfl⟩:=Ln.mp hw;rw[jZ];exact M d hd
 have wH:∀t,t<a.length->t<a'.length->((chars (tx (a++c++x)))[a.length-1-t]?=(a.reverse[t]?).map one/\(chars (tx (a'++c++x')))[a'.length-1-t]?=(a'.reverse[t]?).map one):=λt g i=>by
  rw[dw,dw,yW a c x (by exact b8 6 21 g),yW a' c x' (by exact b8 6 21 i),NW g,NW i];exact⟨rfl,rfl⟩
 have ml:C3 (chars (tx (a++c++x))) (chars (tx (a'++c++x'))) 0 0 a.length a'.length e:=by
  refine⟨by exact b8 6 22 le.1,by exact b8 6 22 le.2,λt j=>?_,λg i q=>?_⟩
  ·obtain⟨B,C⟩:=wH t (by exact b6 6 23 j le.1) (by exact b6 6 23 j le.2);refine(B).symm▸?_;rw[C,y.1 t j]
  ·obtain⟨B,C⟩:=wH e (by exact b6 7 0 g) (by exact b6 7 0 i);rw[show a.length-e-1=a.length-1-e by exact b6 5 0,show a'.length-e-1=a'.length-1-e by exact b6 5 0,B,C] at q;exact y.2 (by exact b6 7 0 g) (by exact b6 7 0 i) (lT q)
 have mr:y3 (chars (tx (a++c++x))) (chars (tx (a'++c++x'))) (a++c++x).length (a'++c++x').length (a.length+c.length) (a'.length+c.length) f:=by
  refine⟨by refine(fA ..).symm▸?_;exact b6 7 1 R.1,by refine(fA ..).symm▸?_;exact b6 7 1 R.2,λt j=>?_,λg i q=>?_⟩
  ·refine(dw ..).symm▸?_;rw[dw,yV,yV,G.1 t j]
  ·rw[dw,dw,yV,yV] at q;rw[fA] at g i;exact G.2 (by exact b6 7 2 g) (by exact b6 7 2 i) (lT q)
 obtain⟨L0,T1,U,ch,t1,t2,tl⟩:=v7 h a.length a'.length c.length e f (Ji _) (by refine(fA ..).symm▸?_;exact b8 1 18) (Ji _) (by refine(fA ..).symm▸?_;exact b8 1 18) core (o a c x F) (v a c x P) (o a' c x' H) (v a' c x' Q) ml mr;have A:∀t,t<a.length-e->t<a'.length-e->((chars (tx (a++c++x)))[0+t]?=((a.take (a.length-e))[t]?).map one/\(chars (tx (a'++c++x')))[0+t]?=((a'.take (a'.length-e))[t]?).map one):=λt g i=>by
  rw[JK,dw,dw,yW a c x (by exact b6 7 3 g),yW a' c x' (by exact b6 7 3 i),Qq g,Qq i];exact⟨rfl,rfl⟩
 have D:L0=if p=0 then [] else [(0,0,p)]:=by
  by_cases q:0<a.length-e/\0<a'.length-e
  ·refine oA (t1 q) (Ji _) (Ji _) (λt g i=>o a c x F t g (by exact b6 7 3 i)) p ⟨by exact b6 7 4 u.1,by exact b6 7 4 u.2,λt j=>?_,λg i r=>?_⟩
   ·obtain⟨B,C⟩:=A t (by exact cO 7 5 j u.1) (by exact cO 7 5 j u.2);refine(B).symm▸?_;rw[C,z.1 t j]
   ·obtain⟨B,C⟩:=A p (by exact b6 7 6 g) (by exact b6 7 6 i);have r:=(B ..)▸r;rw[C] at r;exact z.2 (by exact cO 7 7 g) (by exact cO 7 7 i) (lT r)
  ·rw[t2 q,if_pos (by exact fc 7 8 u.1 u.2 q)]
 refine⟨?_,?_⟩
 ·rw[U];refine wq ch (by exact cO 7 9 hc) D λk aa=>?_;have S:=wH e (by exact fc 7 10 (by assumption) k) (by exact fc 7 11 (by assumption) k);have r2:=A (p-1) (by exact cO 7 12 (by assumption) k) (by exact cO 7 13 (by assumption) k);have r3:=z.1 (p-1) (by exact b8 3 1 k);rw[show a.length-1-e=0+(p-1) by exact fc 7 14 (by assumption),show a'.length-1-e=0+(p-1) by exact fc 7 15 (by assumption),r2.1,r2.2,r3] at S;exact(y.2 (by exact fc 7 10 (by assumption) k) (by exact fc 7 11 (by assumption) k)) (lT (S.1.symm.trans S.2))
 ·rw[U,IL,D]
  split
  ·show 2*(0+_)<=_;exact b8 7 16 tl
  ·show 2*(1+_)<=_;exact b8 7 17 tl
noncomputable def fM(t:Str):Nat:=if t=mH then 32 else if t=oq then 94 else if t=oo then 45 else 43
noncomputable def oneOf(a:List ed):List Nat:=(a.map λc=>Jl (c.2.2.1-c.2.1) (fM c.1)).flatten
noncomputable def gu(a:List ed):List Nat:=(a.map λc=>Jl (c.2.2.2.2-c.2.2.2.1) (fM c.1)).flatten
mutual
theorem vH(l m:List ed):oneOf (l++m)=oneOf l++oneOf m:=by unfold oneOf;refine(Jb).symm▸?_;exact(Rg).symm▸rfl
theorem ve(l m:List ed):gu (l++m)=gu l++gu m:=by unfold gu;refine(Jb).symm▸?_;exact(Rg).symm▸rfl
theorem wX:fM (mH)=32:=by decide
theorem t8:fM (oq)=94:=by decide
theorem zq:fM (oo)=45:=by decide
theorem zo:fM (q6)=43:=by decide
end
mutual
theorem vG{i j ai bj}:oneOf (c4 i j ai bj)=Jl (ai-i) (if j<bj then 94 else 45):=by
 delta c4 oneOf;by_cases a:i<ai
 ·by_cases c:j<bj
  ·rw[if_pos ⟨a,c⟩,if_pos c];simp [t8]
  ·rw[if_neg (λq=>c q.2),if_pos a,if_neg c];simp [zq]
 ·rw[if_neg (λq=>a q.1),if_neg a,show ai-i=0 by exact b8 7 18 a]
  split
  ·simp [show ai-i=0 by exact b8 7 18 a]
  ·rfl
theorem vd{i j ai bj}:gu (c4 i j ai bj)=Jl (bj-j) (if i<ai then 94 else 43):=by
 delta c4 gu;by_cases a:j<bj
 ·by_cases c:i<ai
  ·rw[if_pos ⟨c,a⟩,if_pos c];simp [t8]
  ·rw[if_neg (λq=>c q.1),if_neg c,if_pos a,if_neg c];simp [zo]
 ·rw[if_neg (λq=>a q.2),if_neg a,show bj-j=0 by exact b8 7 18 a]
  split
  ·simp [show bj-j=0 by exact b8 7 18 a]
  ·rfl
end
set_option tactic.hygienic true in
theorem xC{i j k}:oneOf (if k=0 then [] else [(mH,i,i+k,j,j+k)])=Jl k 32:=by
 split
 ·rename_i h;refine(h).symm▸?_;rfl
 ·simp [oneOf,wX]
set_option tactic.hygienic true in
theorem wU{i j k}:gu (if k=0 then [] else [(mH,i,i+k,j,j+k)])=Jl k 32:=by
 split
 ·rename_i h;refine(h).symm▸?_;rfl
 ·simp [gu,wX]
theorem rR{A B n p la lb}(d:p<=A)(e:p<=B) :
  oneOf (d0 ((if p=0 then [] else [(0,0,p)])++[(A,B,n),(la,lb,0)]))=Jl p 32++Jl (A-p) (if p<B then 94 else 45)++Jl n 32++Jl (la-(A+n)) (if B+n<lb then 94 else 45) /\
  gu (d0 ((if p=0 then [] else [(0,0,p)])++[(A,B,n),(la,lb,0)]))=Jl p 32++Jl (B-p) (if p<A then 94 else 43)++Jl n 32++Jl (lb-(B+n)) (if A+n<la then 94 else 43):=by
 have a:d0 ((if p=0 then [] else [(0,0,p)])++[(A,B,n),(la,lb,0)])=(if p=0 then [] else [(mH,0,0+p,0,0+p)])++c4 p p A B++(if n=0 then [] else [(mH,A,A+n,B,B+n)])++c4 (A+n) (B+n) la lb:=by
  unfold d0;by_cases q:p=0
  ·subst q;simp [ey]
  ·rw[if_neg q,if_neg q];have c:c4 0 0 0 0=[]:=rfl;simp [ey,c,q]
 refine(a).symm▸?_;simp only[vH,ve,vG,vd,xC,wU,and_self]
noncomputable def gS(a b:Nat):Nat:=if b=32/\JV a=true then a else b
theorem ry(a:Nat):Na ⟨#[a]⟩=JV a:=by
 unfold Na;simp [Str.length]
theorem lh(a b:Nat):dS a b=tx [gS a b]:=by
 delta dS gS;rw[ry]
 split <;> rfl
theorem lW(x y:List Nat):kept (tx x) (tx y)=tx (Ls gS x y):=by
 have h:dj dS (tx x) (tx y)=((Ls gS x y).map λc=>[c]).map tx:=by
  unfold dj;rw[gq,gq,Vf,Nl,JB,Nl]
  congr 1
  funext a b
  exact lh a b
 unfold kept;rw[h,uN]
 congr 1
 generalize Ls gS x y=l
 induction l with
 |nil=>rfl
 |cons a l d=>rw[JJ,List.flatten_cons,d];rfl
theorem gE:∀l m:List Nat,b7 l m=b7 m l
 |[],[]=>rfl
 |[],Z::L=>rfl
 |Z::L,[]=>rfl
 |a::l,b::m=>by
  rw[iK,iK,gE l m];by_cases e:a=b
  ·rw[if_pos e,if_pos e.symm]
  ·rw[if_neg e,if_neg (LG e)]
theorem iO{l}(h : ∀t∈l,JV t=dM t):Ls gS l (Jl l.length 32)=l.map λt=>if dM t then t else 32:=by
 induction l with
 |nil=>rfl
 |cons a l d =>
  rw[JA,LS,Qy,d λt c=>h t (Jm _ c),JJ]
  congr 1
  unfold gS;refine(h a (Je ..)).symm▸?_;by_cases e:dM a=true
  ·rw[if_pos ⟨rfl,e⟩,if_pos e]
  ·rw[if_neg (λq=>e q.2),if_neg e]
theorem l7{s}(c:s≠32):∀l:List Nat,Ls gS l (Jl l.length s)=Jl l.length s
 |[]=>rfl
 |a::l=>by
  rw[JA,LS,Qy,l7 c l]
  congr 1
  unfold gS;exact(if_neg (λq=>c q.1))
mutual
theorem kF{l:List Nat}(h : ∀t∈l,dM t=true):(l.map λt=>if dM t then t else 32)=l:=by
 induction l with
 |nil=>rfl
 |cons a l d=>rw[JJ,d λt c=>h t (Jm _ c),if_pos (h a (Je ..))]
theorem iX{t}(h:dM t=true):JV t=dM t:=by
 refine J3 ?_ (h).symm;unfold dM at h;rw[Pw,beq_iff_eq,beq_iff_eq] at h;rcases h with rfl | rfl <;> decide
end
mutual
theorem rq{a a' c x x' e p f alone}(B:∀t∈a,dM t=true)(T:∀t∈x,dM t=true)(hc:∀t∈c,JV t=dM t)(A:alone≠32)(C:e=b7 a.reverse a'.reverse)(E:p=b7 (a.take (a.length-e)) (a'.take (a'.length-e)))(D:f=b7 x x') :
  Ls gS (a++c++x) (Jl p 32++Jl (a.length-e-p) (if p<a'.length-e then 94 else alone)++Jl (e+c.length+f) 32++Jl ((a++c++x).length-(a.length-e+(e+c.length+f))) (if a'.length-e+(e+c.length+f)<(a'++c++x').length then 94 else alone))=gI a a' c x x' alone:=by
 have le:=dm a.reverse a'.reverse;have F:=dm x x';have y:=dm (a.take (a.length-e)) (a'.take (a'.length-e));delta gI eK eZ;refine(C)▸?_;refine(E)▸?_;refine(D)▸?_;rw[<-C,JM,JM] at le;rw[<-D] at F;rw[<-E,Jq,Jq] at y;refine(Jq).symm▸?_;refine(Jq).symm▸?_;rw[fA,fA];have G:min (a.length-e) a.length=a.length-e:=by exact b8 7 19
 have H:min (a'.length-e) a'.length=a'.length-e:=by exact b8 7 19
 refine(G).symm▸?_;refine(H).symm▸?_;rw[G,H] at y;have Q:(a'.length-e+(e+c.length+f)<a'.length+c.length+x'.length)=(f<x'.length):=by
  apply propext;exact fc 7 20 le.2
 simp only[Q];rw[show a.length+c.length+x.length-(a.length-e+(e+c.length+f))=x.length-f by exact fc 7 21 le.1];generalize v:(if p<a'.length-e then 94 else alone)=s1;generalize w:(if f<x'.length then 94 else alone)=s2;have Y:s1≠32:=by refine(v)▸?_;split;decide;exact A
 have Z:s2≠32:=by refine(w)▸?_;split;decide;exact A
 generalize g:(a.take (a.length-e)).take p=q;generalize h:(a.take (a.length-e)).drop p=r;generalize i:a.drop (a.length-e)=a3;generalize j:x.take f=o;generalize k:x.drop f=x2;have u:a=q++r++a3:=by rw[<-g,<-h,<-i,Mr,Mr]
 have z:x=o++x2:=by rw[<-j,<-k,Mr]
 have U:a3.length=e:=by rw[<-i,Ku];exact b8 8 0 le.1
 have X:o.length=f:=by rw[<-j,Jq];exact b8 8 1 F.1
 have J:∀t∈q,dM t=true:=λt d=>B t (by rw[u];simp [d]);have M:∀t∈a3,dM t=true:=λt d=>B t (by rw[u];simp [d]);have P:∀t∈o,dM t=true:=λt d=>T t (by rw[z];simp [d]);refine((show r.length=a.length-e-p from by refine(h)▸?_;refine(Ku).symm▸?_;refine(Jq).symm▸?_;exact b6 7 23))▸?_;refine((show x2.length=x.length-f from by refine(k)▸?_;exact(Ku).symm▸rfl))▸?_;have S:Jl (e+c.length+f) 32=Jl a3.length 32++Jl c.length 32++Jl o.length 32:=by
  rw[U,X,O3,O3]
 refine(S).symm▸?_;refine((show q.length=p from by refine(g)▸?_;refine(Jq).symm▸?_;refine(Jq).symm▸?_;exact b6 7 22 y.1))▸?_;have R:a++c++x=q++(r++(a3++(c++(o++x2)))):=by
  rw[u,z];simp only[I1]
 rw[R];simp only[I1];rw[LR (by simp),LR (by simp),LR (by simp),LR (by simp),LR (by simp)];rw[iO λt d=>iX (J t d),l7 Y,iO λt d=>iX (M t d),iO hc,iO λt d=>iX (P t d),l7 Z,kF J,kF M,kF P]
theorem mC{a a' c x x' alone}(g:∀t∈a,dM t=true)(j:∀t∈x,dM t=true)(i:JV alone=dM alone):∀t∈gI a a' c x x' alone,JV t=dM t:=by
 have hw:∀t,dM t=true->JV t=dM t:=λt h=>iX h;have d : ∀(b:Prop) [Decidable b],JV (if b then 94 else alone)=dM (if b then 94 else alone):=λb Z=>by split;decide;exact i
 intro t f;unfold gI eK eZ at f;simp only[NP,List.mem_replicate,Qz] at f;rcases f with ((((h | h) | h) | h) | h) | h
 ·exact hw t (g t (N6 (N6 h)))
 ·rw[h.2];exact d _
 ·exact hw t (g t (List.mem_of_mem_drop h))
 ·obtain⟨s,_,rfl⟩:=h;by_cases e:dM s=true
  ·rw[if_pos e];exact hw s e
  ·rw[if_neg e];decide
 ·exact hw t (j t (N6 h))
 ·rw[h.2];exact d _
theorem r6(l:List Nat):below (tx l)=rowsOf l:=by
 delta below rowsOf;rw[a8];by_cases h:l=[]
 ·rw[if_pos (by refine(h).symm▸?_;rfl),if_pos h]
 ·rw[if_neg (λq=>h (List.eq_nil_of_length_eq_zero q)),if_neg h];rw[show jR=tx [63,32] from rfl,show(⟨⟨[10]⟩⟩:Str)=tx [10] from rfl,dy,dy]
end
theorem x6{a a' c x x' cs}(i:∀t∈a,dM t=true)(d:∀t∈a',dM t=true)(q:∀t∈x,dM t=true)(g:∀t∈x',dM t=true)(hc:∀t∈c,JV t=dM t)(j:0<c.length)(k:∀t,c[0]?=IK t->dM t=false)(o:∀t,c[c.length-1]?=IK t->dM t=false)(h:gG (tx (a++c++x)) (tx (a'++c++x')) cs) :
  kX (tx (a++c++x)) (tx (a'++c++x')) (tx (oneOf cs)) (tx (gu cs))=tx ([45,32]++(a++c++x))::(rowsOf (cL dM (gI a a' c x x' 45))++tx ([43,32]++(a'++c++x'))::rowsOf (cL dM (gI a' a c x' x 43))):=by
 obtain⟨T,u,rfl⟩:=h;rw[d9,d9] at u ⊢;obtain⟨v,_⟩:=jB i d q g j k o u rfl rfl rfl;refine(v).symm▸?_;have le:=dm a.reverse a'.reverse;have r:=dm (a.take (a.length-b7 a.reverse a'.reverse)) (a'.take (a'.length-b7 a.reverse a'.reverse));rw[Jq,Jq] at r;obtain⟨w,y⟩:=rR (A:=a.length-b7 a.reverse a'.reverse) (B:=a'.length-b7 a.reverse a'.reverse) (n:=b7 a.reverse a'.reverse+c.length+b7 x x') (p:=b7 (a.take (a.length-b7 a.reverse a'.reverse)) (a'.take (a'.length-b7 a.reverse a'.reverse))) (la:=(a++c++x).length) (lb:=(a'++c++x').length) (by exact b6 8 2 r.1) (by exact b6 8 2 r.2);rw[w,y];delta kX marks;rw[lW,lW,rq (alone:=45) i q hc (by decide) rfl rfl rfl,
  rq (a:=a') (a':=a) (x:=x') (x':=x) (alone:=43) (e:=b7 a.reverse a'.reverse) (f:=b7 x x') d g hc (by decide) (gE _ _) (gE _ _) (gE _ _)]
 rw[kA,kA,r6,r6,jL (mC i q (by decide)),jL (mC d g (by decide))];rw[show mO=tx [45,32] from rfl,show mL=tx [43,32] from rfl,dy,dy]
structure P5.Ok(p:P5):Prop where
 w0:∀t∈p.p0,dM t=true
 w1:∀t∈p.p1,dM t=true
 w3:∀t∈p.p3,dM t=true
 w4:∀t∈p.p4,dM t=true
 head:p.p2[0]?=IK 61
 c:∀t∈p.p2,t∈[61,59,97,98,99,32,9]
mutual
theorem f3{P:Nat->Prop}{l c}(h:∀t∈l,P t)(hc:P c):∀t∈l++[c],P t:=λt a=>by
 rcases NP.mp a with q | q
 ·exact h t q
 ·refine(OB.mp q).symm▸?_;exact hc
theorem oF{l}{c d:Nat}(h:l[0]?=IK d):(l++[c])[0]?=IK d:=by
 cases l with
 |nil=>cases h
 |cons a l=>exact h
end
inductive zf(p:P5):P5->Prop
 |same:zf p p
 |a0 (w:Nat) (h:dM w=true):zf p {p with p0:=p.p0++[w]}
 |a1 (w:Nat) (h:dM w=true):zf p {p with p1:=p.p1++[w]}
 |both (w:Nat) (h:dM w=true):zf p {p with p0:=p.p0++[w],p1:=p.p1++[w]}
 |a2 (w:Nat) (h:w∈[61,59,97,98,99,32,9]):zf p {p with p2:=p.p2++[w]}
 |a3 (w:Nat) (h:dM w=true):zf p {p with p3:=p.p3++[w]}
 |a4 (w:Nat) (h:dM w=true):zf p {p with p4:=p.p4++[w]}
theorem stp(n:Int)(p:P5):zf p (p.step n):=by
 have a:dM (dD n)=true:=by unfold dD;split <;> rfl
 have c:dD n∈[61,59,97,98,99,32,9]:=by unfold dD;split <;> decide
 have g:=f7 n 8 (by decide);have f:=a;have h:=c;have d:mw n∈[61,59,97,98,99,32,9]:=by
  have:=uh n;unfold mw;generalize ((n.fdiv 8).fmod 5).toNat=k at this ⊢
  match k with
  |0=>decide
  |1=>decide
  |2=>decide
  |3=>decide
  |4=>decide
  |k+5 =>
   rw[Ka (PR 5 k:5<=k+5)] at this;exact nomatch this
 have i:=d;delta P5.step x3 xZ xY xX xW;generalize dD n=w at f h ⊢;generalize mw n=s at i ⊢;obtain⟨k,e⟩:=QA g.1;rw[e] at g ⊢
 clear e
 match k,g with
 |0,Z=>exact .a0 w f
 |1,Z=>exact .a1 w f
 |2,Z=>exact .both w f
 |3,Z=>exact .a2 s i
 |4,Z=>exact .a2 w h
 |5,Z=>exact .a3 w f
 |6,Z=>exact .a4 w f
 |7,Z=>exact .same
 |k+8,g=>exact absurd g.2 (by exact ec 8 3)
theorem P5.Ok.stp{p q}(h:p.Ok)(s:zf p q):q.Ok:=by
 cases s with
 |same=>exact h
 |a0 w e=>exact {h with w0:=f3 h.w0 e}
 |a1 w e=>exact {h with w1:=f3 h.w1 e}
 |both w e=>exact {h with w0:=f3 h.w0 e,w1:=f3 h.w1 e}
 |a2 w e=>exact {h with head:=oF h.head,c:=f3 h.c e}
 |a3 w e=>exact {h with w3:=f3 h.w3 e}
 |a4 w e=>exact {h with w4:=f3 h.w4 e}
noncomputable def P5.sO(p:P5):Nat:=p.p0.length+p.p2.length+p.p3.length
noncomputable def P5.sN(p:P5):Nat:=p.p1.length+p.p2.length+p.p4.length
theorem qI{p q}(s:zf p q):q.sO<=p.sO+1/\q.sN<=p.sN+1:=by
 have a (l:List Nat) (c:Nat):(l++[c]).length=l.length+1:=IL;delta P5.sO P5.sN;cases s with
 |same=>exact⟨I8 _,I8 _⟩
 |a0 w e=>dsimp only;rw[a];exact⟨by exact cO 8 4,by exact b8 1 18⟩
 |a1 w e=>dsimp only;rw[a];exact⟨by exact b8 1 18,by exact cO 8 4⟩
 |both w e=>dsimp only;rw[a,a];exact⟨by exact cO 8 4,by exact cO 8 4⟩
 |a2 w e=>dsimp only;rw[a];exact⟨by exact cO 8 5,by exact cO 8 5⟩
 |a3 w e=>dsimp only;rw[a];exact⟨by exact b6 8 6,by exact b8 1 18⟩
 |a4 w e=>dsimp only;rw[a];exact⟨by exact b8 1 18,by exact b6 8 6⟩
theorem gL{C:Nat->P5->Prop}(g:∀m p n,C m p->C (m+1) (p.step n))(e:∀m p,C m p->C (m+1) p)(i:∀m,C m P5.start):∀(ns:List Int) (a:List P5) (p:P5) (m:Nat),(∀q∈a,C m q)->C m p->∀q∈d8 ns a p,C (m+ns.length) q
 |[],a,p,m,d,f=>λq c=>by
  rcases NP.mp c with h | h
  ·exact d q h
  ·rw[OB.mp h];exact f
 |n::ns,a,p,m,d,f=>λq c=>by
  rw[Cv] at c;refine(JA).symm▸?_;refine(show m+(ns.length+1)=(m+1)+ns.length by exact b6 8 7).symm▸?_
  split at c
  ·refine gL g e i ns _ _ (m+1) (λr j=>?_) (i _) q c;rcases NP.mp j with h | h
   ·exact e m r (d r h)
   ·rw[OB.mp h];exact g m p n f
  ·exact gL g e i ns _ _ (m+1) (λr j=>e m r (d r j)) (g m p n f) q c
theorem xT(ns:List Int):∀p∈linesOf ns,p.Ok/\p.sO<=1+ns.length/\p.sN<=2+ns.length:=by
 have:=gL (C:=λm p=>p.Ok/\p.sO<=1+m/\p.sN<=2+m) (λm p n a=>⟨a.1.stp (stp n p),by have:=qI (stp n p);omega,by have:=qI (stp n p);omega⟩) (λm p a=>⟨a.1,by omega,by omega⟩)
  (λm=>⟨⟨λt h=>absurd h Jf,λt h=>absurd h Jf,λt h=>absurd h Jf,by decide,by decide,by decide⟩,by exact b8 1 18,by exact b8 1 18⟩) ns [] P5.start 0 (λq h=>absurd h Jf)
  ⟨⟨λt h=>absurd h Jf,λt h=>absurd h Jf,λt h=>absurd h Jf,by decide,by decide,by decide⟩,by decide,by decide⟩
 intro p c;have:=this p c;have this:=(JK ..)▸this;exact this
noncomputable def P5.core(p:P5):List Nat:=p.p2++[59]
noncomputable def P5.old(p:P5):List Nat:=p.p0++p.core++p.p3
noncomputable def P5.new(p:P5):List Nat:=p.p1++p.core++p.p4
theorem P5.Ok.core{p:P5}(h:p.Ok):(∀t∈p.core,JV t=dM t)/\0<p.core.length/\(∀t,p.core[0]?=IK t->dM t=false)/\(∀t,p.core[p.core.length-1]?=IK t->dM t=false):=by
 unfold P5.core;refine⟨λt a=>?_,by rw[IL];exact ec 2 10,λt a=>?_,λt a=>?_⟩
 ·have d:t∈[61,59,97,98,99,32,9]:=by
   rcases NP.mp a with q | q
   ·exact h.c t q
   ·rw[OB.mp q];decide
  simp only[Tq,Jf,or_false] at d;rcases d with rfl | rfl | rfl | rfl | rfl | rfl | rfl <;> decide
 ·have a:=(oF h.head)▸a;cases a;rfl
 ·have a:=(IL ..)▸a;have a:=(K3 ..)▸a;have a:=(Md ..)▸a;have a:=(Jr (IQ _) ..)▸a;have a:=(KY ..)▸a;cases a;rfl
noncomputable def P5.rows(p:P5):List Str:=tx ([45,32]++p.old)::(rowsOf (cL dM (gI p.p0 p.p1 p.core p.p3 p.p4 45))++tx ([43,32]++p.new)::rowsOf (cL dM (gI p.p1 p.p0 p.core p.p4 p.p3 43)))
theorem P5.Ok.rows{p:P5}(h:p.Ok){cs}(hc:gG (tx p.old) (tx p.new) cs):kX (tx p.old) (tx p.new) (tx (oneOf cs)) (tx (gu cs))=p.rows:=by
 refine IJ λf=>?_;obtain⟨a,c,d,e⟩:=h.core;refine f ?_;exact x6 h.w0 h.w1 h.w3 h.w4 a c d e hc
theorem P5.Ok.tree{p:P5}(h:p.Ok)(hz:p.core.length<=100){T}(a:Tree (chars (tx p.old)) (chars (tx p.new)) (cV cU) 0 (chars (tx p.old)).length 0 (chars (tx p.new)).length T) :
  T.length<62/\(cI T (chars (tx p.old)).length (chars (tx p.new)).length).length<1000:=by
 refine IJ λi=>?_;obtain⟨j,d,f,g⟩:=h.core;refine i ?_;rw[d9,d9] at a ⊢;obtain⟨e,c⟩:=jB h.w0 h.w1 h.w3 h.w4 d f g a rfl rfl rfl;refine⟨by exact b8 8 8 c hz,?_⟩;refine JP (Js (congrArg Lr e)) ?_;rw[IL]
 split
 ·show 0+2<_;exact BY 8 9
 ·show 1+2<_;exact BY 8 10
structure kR(K:Nat)(c:ed):Prop where
 tag:c.1=mH∨c.1=oq∨c.1=oo∨c.1=q6
 b1:c.2.1<=K
 b2:c.2.2.1<=K
 b3:c.2.2.2.1<=K
 b4:c.2.2.2.2<=K
theorem rS{K}:∀(a:List (Nat×Nat×Nat)) (st:(Nat×Nat)×List ed),(∀b∈a,b.1+b.2.2<=K/\b.2.1+b.2.2<=K)->st.1.1<=K->st.1.2<=K->(∀c∈st.2,kR K c)->(∀c∈(a.foldl ey st).2,kR K c)/\((a.foldl ey st).2).length<=st.2.length+2*a.length
 |[],st,Z,L,D,h=>⟨h,by simp⟩
 |b::a,st,j,f,g,h=>by
  obtain⟨e,d⟩:=j b (Je ..);refine(Ma).symm▸?_;have o:(c4 st.1.1 st.1.2 b.1 b.2.1).length<=1:=by unfold c4;(repeat' split) <;> simp
  have le:(if b.2.2=0 then [] else [(mH,b.1,b.1+b.2.2,b.2.1,b.2.1+b.2.2)]:List ed).length<=1:=by split <;> simp
  obtain⟨p,q⟩:=rS a (ey st b) (λk i=>j k (Jm _ i)) e d (λc hc=>by
   rcases NP.mp hc with hc | hc
   ·rcases NP.mp hc with hc | hc
    ·exact h c hc
    ·unfold c4 at hc
     split at hc
     ·rw[OB.mp hc];exact⟨.inr (.inl rfl),f,by exact b6 3 19 e,g,by exact b6 3 19 d⟩
     ·split at hc
      ·rw[OB.mp hc];exact⟨.inr (.inr (.inl rfl)),f,by exact b6 3 19 e,g,by exact b6 3 19 d⟩
      ·split at hc
       ·rw[OB.mp hc];exact⟨.inr (.inr (.inr rfl)),f,by exact b6 8 11 f (by assumption),g,by exact b6 3 19 d⟩
       ·exact absurd hc Jf
   ·split at hc
    ·exact absurd hc Jf
    ·rw[OB.mp hc];exact⟨.inl rfl,by exact b6 3 19 e,e,by exact b6 3 19 d,d⟩)
  refine⟨p,?_⟩;have:(ey st b).2.length<=st.2.length+2:=by
   show(st.2++_++_).length<=_;rw[IL];refine(IL).symm▸?_;exact b6 8 12 o le
  refine(JA).symm▸?_;exact cO 8 13 q this
theorem P5.Ok.codes{p:P5}(h:p.Ok){K}(u:p.old.length<=K)(r:p.new.length<=K){cs}(hc:gG (tx p.old) (tx p.new) cs):(∀c∈cs,kR K c)/\cs.length<=6:=by
 refine IJ λy=>?_;obtain⟨A,k,o,q⟩:=h.core;obtain⟨T,i,rfl⟩:=hc;refine y ?_;rw[d9,d9] at i ⊢;obtain⟨e,z⟩:=jB h.w0 h.w1 h.w3 h.w4 k o q i rfl rfl rfl;have le:=dm p.p0.reverse p.p1.reverse;have j:=dm p.p3 p.p4;have g:=dm (p.p0.take (p.p0.length-b7 p.p0.reverse p.p1.reverse)) (p.p1.take (p.p1.length-b7 p.p0.reverse p.p1.reverse));rw[JM,JM] at le;rw[Jq,Jq] at g;have f:=fA p.p0 p.core p.p3;have d:(p.p0++p.core++p.p3).length<=K:=u;have a:∀b∈cI T (p.p0++p.core++p.p3).length (p.p1++p.core++p.p4).length,b.1+b.2.2<=K/\b.2.1+b.2.2<=K:=by
  rw[e];intro b a;rcases NP.mp a with a | a
  ·split at a
   ·exact absurd a Jf
   ·rw[OB.mp a];exact⟨by dsimp only;exact qu 8 14 f d g.1,by dsimp only;exact qu 8 14 f d g.1⟩
  ·rcases Tq.mp a with rfl | a
   ·exact⟨by exact qu 8 15 f d le.1 j.1,by exact qu 8 15 (fA p.p1 p.core p.p4) (r:(p.p1++p.core++p.p4).length<=K) le.2 j.2⟩
   ·rw[OB.mp a];exact⟨by assumption,by assumption⟩
 have v:(cI T (p.p0++p.core++p.p3).length (p.p1++p.core++p.p4).length).length<=3:=by
  rw[e,IL]
  split
  ·show 0+2<=3;exact BY 8 16
  ·show 1+2<=3;exact BY 8 17
 obtain⟨w,x⟩:=rS (K:=K) _ ((0,0),[]) a (Ji _) (Ji _) (λc hc=>absurd hc Jf);refine⟨w,IT x ?_⟩;exact ec 8 18 v
mutual
theorem d3(tag:Str)(l m:List Str):restOf tag (l++m)=restOf tag l++restOf tag m:=by
 unfold restOf;rw[Rr,Jb]
theorem fX(a b c d:Nat)(l:List Nat):restOf (tx [a,b]) [tx ([c,d]++l)]=if(decide ([32,32]=[c,d]) || decide ([a,b]=[c,d]))=true then [tx l] else []:=by
 unfold restOf;have g (a b c d:Nat) (l:List Nat):vP (tx [a,b]) (tx ([c,d]++l))=(decide ([32,32]=[c,d]) || decide ([a,b]=[c,d])):=by
  unfold vP;have e:KO (tx ([c,d]++l)) none (IK 2)=tx [c,d]:=by
   have:=g4 ([c,d]++l) 2;refine this.trans ?_
   rfl
  rw[e];show(tx [32,32] == tx [c,d] || (tx [a,b] == tx [c,d] || false))=_;rw[su,su,Tw]
 rw[Pa,g]
 split
 ·have f (c d:Nat) (l:List Nat):KO (tx ([c,d]++l)) (IK 2) none=tx l:=by
   have:=mu ([c,d]++l) 2;exact this.trans rfl
  rw[List.filter_nil,JJ,MQ,f]
 ·rfl
end
mutual
theorem gy(a b:Nat)(h:([a,b]:List Nat)≠[63,32])(l:List Nat):restOf (tx [a,b]) (rowsOf l)=[]:=by
 unfold rowsOf
 split
 ·rfl
 ·rw[I1];refine J3 (fX ..) ?_;refine(decide_eq_false h).symm▸?_;rfl
theorem P5.pM(p:P5):p.rows=[tx ([45,32]++p.old)]++(rowsOf (cL dM (gI p.p0 p.p1 p.core p.p3 p.p4 45))++([tx ([43,32]++p.new)]++rowsOf (cL dM (gI p.p1 p.p0 p.core p.p4 p.p3 43)))):=by
 unfold P5.rows;dsimp only[Pb,L8]
end
mutual
theorem P5.xq(p:P5):restOf (tx [45,32]) p.rows=[tx p.old]:=by
 rw[P5.pM,d3,d3,d3,gy _ _ (by decide),gy _ _ (by decide),fX,fX]
 rfl
theorem P5.xr(p:P5):restOf (tx [43,32]) p.rows=[tx p.new]:=by
 rw[P5.pM,d3,d3,d3,gy _ _ (by decide),gy _ _ (by decide),fX,fX]
 rfl
end
mutual
theorem vy(ps:List P5):restOf (tx [45,32]) (ps.flatMap P5.rows)=ps.map λp=>tx p.old:=by
 induction ps with
 |nil=>rfl
 |cons p ps a=>rw[OT,d3,a,p.xq];rfl
theorem vz(ps:List P5):restOf (tx [43,32]) (ps.flatMap P5.rows)=ps.map λp=>tx p.new:=by
 induction ps with
 |nil=>rfl
 |cons p ps a=>rw[OT,d3,a,p.xr];rfl
theorem g5(l:List Nat):(rowsOf l).length<=1:=by unfold rowsOf;split <;> simp
end
theorem P5.mA(p:P5):p.rows.length<=4:=by
 unfold P5.rows;rw[JA,IL];refine(JA).symm▸?_;have:=g5 (cL dM (gI p.p0 p.p1 p.core p.p3 p.p4 45));have:=g5 (cL dM (gI p.p1 p.p0 p.core p.p4 p.p3 43));exact b8 8 19 (by assumption) this
theorem rJ(ps:List P5):(ps.flatMap P5.rows).length<=4*ps.length:=by
 induction ps with
 |nil=>exact Ji _
 |cons p ps a=>rw[OT,IL,JA];have:=p.mA;exact b6 8 20 a this
theorem gK:∀(ns:List Int) (a:List P5) (p:P5),(d8 ns a p).length<=a.length+1+ns.length
 |[],a,p=>by refine(IL).symm▸?_;exact IQ _
 |n::ns,a,p=>by
  refine(Cv ..).symm▸?_
  split
  ·have:=gK ns (a++[p.step n]) P5.start;rw[IL,K3] at this;rw[JA];exact cO 8 21 this
  ·have:=gK ns a (p.step n);rw[JA];exact cO 8 22 this
mutual
theorem qM(a a' c x x':List Nat)(s:Nat):(gI a a' c x x' s).length<=3*a.length+c.length+2*x.length:=by
 delta gI eK eZ;simp only[IL,Jq,Ku,Kr,IZ];exact Gm
theorem kW{l n}(h:l.length<=n):∀y∈rowsOf (cL dM l),y.length<=n+3:=by
 intro y a;unfold rowsOf at a
 split at a
 ·exact absurd a Jf
 ·rw[OB.mp a,a8,IL,IL];have:(cL dM l).length<=l.length:=by unfold cL;rw[Jq];exact b8 8 23
  exact b6 9 0 this h
end
theorem P5.vt{p:P5}(c:p.sO<=64)(d:p.sN<=65):∀y∈p.rows,y.length<=1000:=by
 intro y a;unfold P5.sO at c;unfold P5.sN at d;have lc:p.core.length=p.p2.length+1:=by refine(IL).trans ?_;rfl
 rcases Tq.mp a with rfl | a
 ·rw[a8];unfold P5.old;rw[IL,IL,IL];exact cO 9 1 c lc
 ·rcases NP.mp a with a | a
  ·have:=kW (IQ _) y a;exact ja 9 2 c lc (qM p.p0 p.p1 p.core p.p3 p.p4 45) this
  ·rcases Tq.mp a with rfl | a
   ·rw[a8];unfold P5.new;rw[IL,IL,IL];exact cO 9 3 d lc
   ·have:=kW (IQ _) y a;exact ja 9 4 d lc (qM p.p1 p.p0 p.core p.p4 p.p3 43) this
end
theorem below_at{K c}(h:kR K c):cR ic c.1=IK (.s (tx [fM c.1]) 0):=by
 rcases h.tag with e | e | e | e <;> refine(e).symm▸?_ <;> rfl
section
variable {p:Option V}{e d:V}{a b:Str}{g f:Nat}{c:List (Str×V)}{l k dl o i j:List Str}{vals:List V}
theorem jX(u:Fz e)(v:Fz d)(p:kr (chars b) (cV cU) c)(r:St):nU ⟨[0,1,2,3,4,5,6,7,8,9,10,11],[]⟩ 0 (dC (IK (.l vals)) e d a b g f c l k dl o i j++r) (dC (IK (.l vals)) e d a b g f c l k dl o i j) :=
 ⟨Eb,.vw rfl rfl (.vw rfl rfl (.vw rfl (congrArg (JZ O.ns) (a9 rfl<|a9 rfl<|a9 rfl<|a9 rfl<|a9 (u.vw _)<|a9 (v.vw _)<|a9 rfl<|a9 rfl<|a9 rfl<|a9 rfl rfl)) (.vw rfl rfl (.vw rfl (p.vw _) (.vw rfl rfl (.vw rfl rfl (.vw rfl rfl (.vw rfl (dK (dP _)) (.vw rfl (dK (dP _)) (.vw rfl (dK (dP _)) (.vw rfl (dK (dP _)) trivial))))))))))),trivial,λh q Z=>absurd q (I4 _)⟩
end
noncomputable abbrev BF(p:P5)(t u:Nat)(a:List ed):Lc:=k8 p t u++[(Bo,.l (a.map c5))]
noncomputable abbrev uK(p:P5)(t u:Nat)(a:List ed):Lc:=BF p t u a++[(uB,.s (tx (oneOf a)) 0)]
noncomputable abbrev jk(p:P5)(t u:Nat)(a:List ed):Lc:=uK p t u a++[(uA,.s (tx (gu a)) 0)]
noncomputable abbrev p9:List (Str×Nat):=[(kB,0)]
noncomputable def zT(i:Nat):Expr:=(GI (iJ (eh i))).2.1
noncomputable abbrev BG(i:Nat)(L C:Addr):dH:=nq (dt L) (tn (zT i)) [(kB,L+1)] p9 C
theorem uI{L}:∀y h,p9.lookup y=IK h->(dt L).ce.lookup y=IK h/\([(kB,L+1)]:List (Str×Addr)).lookup y=(dt L).env.cells.lookup y:=λy h e=>by
 have:(dt L).env.cells=[(fG,L+1+1),(kB,L+1)]:=kH L;refine(this).symm▸?_;obtain⟨rfl,rfl⟩:=Lg (OB.mp (gR e));exact⟨rfl,rfl⟩
section
variable {A:Around}
theorem mT{F elt tgt bl co a b ta tb kvs l l4 dl du ol nw vals g cs Q}(hz:cs.length<sizeLine)(r:∀(c:ed) (lc:Lc) (st:St) (k:Lc->St->Prop),lc=[]∨(∃v,lc=[(qX,v)])->k [(qX,c5 c)] st->dN A F tgt (c5 c) lc st k)(o:∀c∈cs,∀(i:List V) (j:V->St->Prop),j (.s (g c) 0) (dC (IK (.l vals)) bl co a b ta tb kvs l l4 dl du ol nw++[.list i])->c8 A F elt [(qX,c5 c)] (dC (IK (.l vals)) bl co a b ta tb kvs l l4 dl du ol nw++[.list i]) j)(h:Q (dC (IK (.l vals)) bl co a b ta tb kvs l l4 dl du ol nw++[.list (cE (cs.map g))])) :
  ∀(d done:List ed) (lc:Lc),cs=done++d->(lc=[]∨∃v,lc=[(qX,v)])->lG A F 12 (λZ=>True) tgt [] elt Q (d.map c5) lc (dC (IK (.l vals)) bl co a b ta tb kvs l l4 dl du ol nw++[.list (cE (done.map g))]):=by
 intro d
 induction d with
 |nil =>
  intro done lc e _;rw[Jj] at e;subst e;exact⟨trivial,h⟩
 |cons c d f =>
  intro done lc e p;have f:=f (done++[c]) [(qX,c5 c)] (by refine(e).symm▸?_;rw[I1];rfl) (.inr ⟨_,rfl⟩);refine⟨trivial,r c lc _ _ p (Br.mk (λZ=>?_) λq=>IW q)⟩;refine o c (by refine(e).symm▸?_;exact J0 _ (Je ..)) _ _ ⟨?_,?_⟩
  ·rw[IZ,IZ];have:=congrArg Lr e;rw[IL,JA] at this;exact cO 14 6 hz this
  ·rw[Jb] at f;unfold cE at f;rw[Jb] at f;exact f
theorem wY{K}:∀ {l:List Nat},(∀y∈l,y<=K)->l.sum<=K*l.length
 |[],Z=>Ji _
 |a::l,h=>by
  have c:=h a (Je ..);have d:=wY λy e=>h y (Jm _ e);rw[Tp,JA,Nat.mul_succ];exact cO 14 7 c d
mutual
theorem mY{a:List ed}{f:ed->List Nat}(g:a.length<=6)(e:∀c∈a,(f c).length<=500):QV ⟨⟨[]⟩⟩ (a.map λc=>tx (f c))=true:=by
 refine joinOk_of ?_;have d:=wY (K:=500) (l:=(a.map λc=>tx (f c)).map (·.length)) λy i=>by
  obtain⟨x,h,rfl⟩:=Qz.mp i;obtain⟨c,hc,rfl⟩:=Qz.mp h;rw[a8];exact e c hc
 rw[IZ,IZ] at d;exact Gk d g
theorem jl{a:List ed}{f}:OW ⟨⟨[]⟩⟩ (a.map λc=>tx (f c))=tx (a.map f).flatten:=by
 have:=uN (a.map f);rw[JB] at this;exact this
end
mutual
theorem Ex(g:Gd){L p t u bl co a b ta tb kvs l l4 dl du ol nw cs Q}(d:A.handled=none)(r:Fz bl)(w:Fz co)(o:kr (chars b) (cV cU) kvs)(hc:∀c∈cs,kR 500 c)(i:cs.length<=6)(h:Q .next (uK p t u cs) (dC (IK (.l p.vals)) bl co a b ta tb kvs l l4 dl du ol nw)) :
  eG A (dt L) (eh 3) (BF p t u cs) (dC (IK (.l p.vals)) bl co a b ta tb kvs l l4 dl du ol nw) Q:=by
 have S:=g.snd (F:=dt L) d (by rfl);refine kf (S.S ?_);refine l0 (cl:=[(kB,L+1)]) (ce:=p9) g.top (by rfl) (by kernel_rfl) rfl uI ?_;refine S.E ?_;refine .mk _ _ (kI g.top d cS) trivial λC=>?_;have K:=g.snd (F:=BG 3 L C) d (by rfl);refine mT (g:=λc=>tx (Jl (c.2.2.1-c.2.1) (fM c.1))) (JP i (by decide)) (λc lc st z q k=>?_) (λc f j y k=>?_) ?_ cs [] [] rfl (.inl rfl)
 ·refine K.As ?_;rcases q with rfl | ⟨v,rfl⟩ <;> exact k
 ·have hi:=hc c f;refine K.E ?_;refine eY.at (by decide) rfl ?_;refine ng dict_str rfl fz (below_at hi) ?_;refine eY.at (by decide) rfl (eY.at (by decide) rfl ?_);refine⟨lV (a8 _) (by exact b8 14 8 (hi.b1)) (by exact b8 14 9 (hi.b2)),?_⟩;rw[lU];exact k
 ·refine oV (cY (h:=12)) rfl (mY i λc f=>?_) ?_
  ·have:=(hc c f).b2;refine(Kr).symm▸?_;exact b6 13 0 this
  refine(jl).symm▸?_;refine⟨_,.next,uK p t u cs,_,jX r w o _,rfl,λx h e=>g9 (by rfl) (by rfl) e,.of rfl,h⟩
theorem Ew(g:Gd){L p t u bl co a b ta tb kvs l l4 dl du ol nw cs Q}(d:A.handled=none)(r:Fz bl)(w:Fz co)(o:kr (chars b) (cV cU) kvs)(hc:∀c∈cs,kR 500 c)(i:cs.length<=6)(h:Q .next (jk p t u cs) (dC (IK (.l p.vals)) bl co a b ta tb kvs l l4 dl du ol nw)) :
  eG A (dt L) (eh 4) (uK p t u cs) (dC (IK (.l p.vals)) bl co a b ta tb kvs l l4 dl du ol nw) Q:=by
 have S:=g.snd (F:=dt L) d (by rfl);refine kf (S.S ?_);refine l0 (cl:=[(kB,L+1)]) (ce:=p9) g.top (by rfl) (by kernel_rfl) rfl uI ?_;refine S.E ?_;refine .mk _ _ (kI g.top d cS) trivial λC=>?_;have K:=g.snd (F:=BG 4 L C) d (by rfl);refine mT (g:=λc=>tx (Jl (c.2.2.2.2-c.2.2.2.1) (fM c.1))) (JP i (by decide)) (λc lc st z q k=>?_) (λc f j y k=>?_) ?_ cs [] [] rfl (.inl rfl)
 ·refine K.As ?_;rcases q with rfl | ⟨v,rfl⟩ <;> exact k
 ·have hi:=hc c f;refine K.E ?_;refine eY.at (by decide) rfl ?_;refine ng dict_str rfl fz (below_at hi) ?_;refine eY.at (by decide) rfl (eY.at (by decide) rfl ?_);refine⟨lV (a8 _) (by exact b8 14 8 (hi.b3)) (by exact b8 14 9 (hi.b4)),?_⟩;rw[lU];exact k
 ·refine oV (cY (h:=12)) rfl (mY i λc f=>?_) ?_
  ·have:=(hc c f).b4;refine(Kr).symm▸?_;exact b6 13 0 this
  refine(jl).symm▸?_;refine⟨_,.next,jk p t u cs,_,jX r w o _,rfl,λx h e=>g9 (by rfl) (by rfl) e,.of rfl,h⟩
end
end
section
variable {A:Around}{F:dH}{lc:Lc}{lc₂:Lc}{st:St}
noncomputable def sg(lc:Lc):Lc->Prop
 |[]=>True
 |p::l=>(lc.lookup p.1=IK p.2∨∃x t,lc.lookup p.1=IK (.s x t)/\p.2=.s x 0)/\sg lc l
theorem sg.at_{lc l x v}(h:sg lc l)(e:l.lookup x=IK v):lc.lookup x=IK v∨∃y t,lc.lookup x=IK (.s y t)/\v=.s y 0:=by
 induction l with
 |nil=>cases e
 |cons p l a =>
  rw[Jn] at e;cases q:x == p.1 with
  |true=>have e:=q▸e;cases e;refine(eq_of_beq q).symm▸?_;exact h.1
  |false=>have e:=q▸e;exact a h.2 e
theorem Pre.CK{σ s}(p:Pre F σ lc st s)(h:sg lc lc₂):Pre F σ lc₂ st s:=by
 refine IJ λE=>?_;obtain⟨i,r,a,⟨g,A,d⟩,D,C,k,z,f,ce⟩:=p;refine E ?_;refine⟨i,r,a,⟨g,A,λx v c B=>?_⟩,D,C,k,z,f,ce⟩;rcases h.at_ B with e | ⟨y,t,e,rfl⟩
 ·exact d x v c e
 ·obtain⟨w,j,u,o,_⟩:=d x _ c e;exact⟨w,j,u,o,λq=>absurd rfl q⟩
theorem jE{l Q}(h:sg lc lc₂)(q:cK A F l lc₂ st Q):cK A F l lc st Q:=λσ s p=>q σ s (p.CK h)
theorem t9:∀n:Nat,(Jl n 1).sum=n
 |0=>rfl
 |n+1=>by rw[LS,Tp,t9 n,NO]
mutual
theorem map_one(l:List (List Nat))(h:∀x∈l,x.length=1):(l.map tx).map (·.length)=Jl l.length 1:=by
 rw[List.eq_replicate_iff];refine⟨by rw[IZ,IZ],λb a=>?_⟩;obtain⟨x,d,rfl⟩:=Qz.mp a;obtain⟨r,c,rfl⟩:=Qz.mp d;rw[a8];exact h r c
theorem w6(ws:Nat->Bool)(l:List Nat):(cL ws l).length<=l.length:=by
 unfold cL;rw[Jq];exact Nt _ _
end
mutual
theorem yt{a t}(e:a.length<=1000):Fq (tx a) (tx t):=by
 have d:1004<=sizeLine:=by decide
 have f:(Ls gS a t).length<=a.length:=by rw[List.length_zipWith];exact MM _ _
 refine⟨by rw[a8];exact b8 14 10 d e,?_,by rw[lW,a8];exact b6 14 11 d e f,?_⟩
 ·have h:dj dS (tx a) (tx t)=((Ls gS a t).map λc=>[c]).map tx:=by
   unfold dj;rw[gq,gq,Vf,Nl,JB,Nl]
   congr 1
   funext a b
   exact lh a b
  refine(h).symm▸?_;refine joinOk_of ?_;rw[map_one _ λx g=>by obtain⟨c,_,rfl⟩:=Qz.mp g;rfl,t9,IZ];exact b6 14 12 e f
 ·unfold marks;rw[lW,kA,a8];have:=w6 JV (Ls gS a t);exact cO 14 13 d e f this
theorem vZ(g:Gd):Callee (.v (.ref 313)):=by
 obtain⟨m,c,_⟩:=yA g;exact nt c
end
theorem Eu(g:Gd){L p t u bl co a b ta tb kvs l l4 dl du ol nw cs Q}(d:A.handled=none)(c:A.depth+10<recursionLimit)(r:Fz bl)(v:Fz co)(f:kr (chars b) (cV cU) kvs)(o:p.eE.length<=1000)(k:p.eO.length<=1000){rows}(q:kX (tx p.eE) (tx p.eO) (tx (oneOf cs)) (tx (gu cs))=rows)(j:dl.length+rows.length<=1000000)(h:Q .next (jk p t u cs) (dC (IK (.l p.vals)) bl co a b ta tb kvs l l4 (dl++rows) du ol nw)) :
  eG A (dt L) (eh 5) (jk p t u cs) (dC (IK (.l p.vals)) bl co a b ta tb kvs l l4 dl du ol nw) Q:=by
 refine kf ((g.snd (F:=dt L) d (by rfl)).S ?_);refine⟨vZ g,?_⟩;refine sQ g d (by show A.depth+2<_;exact b8 14 14 c) ?_;refine Al g (by exact b6 9 12 c) λw i=>?_;refine tD g d (by exact b8 14 15 c) (yt o) (yt k) i ?_;refine(q).symm▸?_;refine lA g.top (vs:=cE dl) (us:=cE rows) rfl rfl ?_ ?_
 ·rw[IZ,IZ];exact j
 refine(Jb)▸?_;exact⟨_,.next,jk p t u cs,_,jX r v f _,rfl,λx h e=>g9 (by rfl) (by rfl) e,.of rfl,h⟩
mutual
theorem mB(g:Gd):Callee (.v (.ref 351)):=(g.qj (dO 45 rfl) rfl ⟨_,rfl⟩).callee
theorem P5.Iw{p:P5}(h:p.sz<=200):fB p.vals 0 p.p0 p.p1 p.p2 p.p3 p.p4:=by
 unfold P5.sz at h;exact⟨.inl rfl,rfl,rfl,rfl,rfl,rfl,by exact ja 14 18 h,by exact ja 14 19 h,by exact fc 14 20 h,by exact cO 14 21 h,by exact b6 14 22 h⟩
theorem P5.Iu{p:P5}(h:p.sz<=200):fB p.vals 1 p.p1 p.p0 p.p2 p.p4 p.p3:=by
 unfold P5.sz at h;exact⟨.inr rfl,rfl,rfl,rfl,rfl,rfl,by exact ja 14 19 h,by exact ja 14 18 h,by exact fc 14 20 h,by exact b6 14 22 h,by exact cO 14 21 h⟩
theorem P5.zF(p:P5):p.eE.length<=p.sz+1:=by
 delta P5.eE P5.sz;refine(IL).symm▸?_;refine(IL).symm▸?_;refine(IL).symm▸?_;exact ja 14 23
theorem P5.zG(p:P5):p.eO.length<=p.sz+1:=by
 delta P5.eO P5.sz;refine(IL).symm▸?_;refine(IL).symm▸?_;refine(IL).symm▸?_;exact ja 15 0
theorem P5.vr(p:P5):[V.s (mO++tx p.eE) 0]++cE (rowsOf (cL dM (gI p.p0 p.p1 (p.p2++[59]) p.p3 p.p4 (fN 0))))++[V.s (mL++tx p.eO) 0]++cE (rowsOf (cL dM (gI p.p1 p.p0 (p.p2++[59]) p.p4 p.p3 (fN 1))))=cE p.rows:=by
 refine(show mO++tx p.eE=tx ([45,32]++p.eE) from dy _ _).symm▸?_;refine(show mL++tx p.eO=tx ([43,32]++p.eO) from dy _ _).symm▸?_;have eo:p.eE=p.old:=by unfold P5.eE P5.old P5.core;rw[I1,I1,I1,I1]
 have en:p.eO=p.new:=by unfold P5.eO P5.new P5.core;rw[I1,I1,I1,I1]
 rw[P5.pM,eo,en];delta cE P5.core;rw[Jb,Jb,Jb];rw[I1,I1];rfl
end
mutual
theorem Et(g:Gd){L p t u bl co a b ta tb kvs l l4 dl du ol nw cs Q}(f:A.handled=none)(c:A.depth+10<recursionLimit)(r:Fz bl)(v:Fz co)(j:kr (chars b) (cV cU) kvs)(d:p.sz<=190)(o:du.length+10<=1000000)(h:Q .next (jk p t u cs) (dC (IK (.l p.vals)) bl co a b ta tb kvs l l4 dl (du++p.rows) ol nw)) :
  eG A (dt L) (eh 6) (jk p t u cs) (dC (IK (.l p.vals)) bl co a b ta tb kvs l l4 dl du ol nw) Q:=by
 have hz:1000<=sizeLine:=by decide
 refine kf ((g.snd (F:=dt L) f (by rfl)).S ?_);have lo:=p.zF;have q:=p.zG;have i:=g5 (cL dM (gI p.p0 p.p1 (p.p2++[59]) p.p3 p.p4 45));refine⟨?_,?_⟩
 ·rw[a8];exact b6 15 1 hz d lo
 refine⟨mB g,?_⟩;refine rY g f (by exact b8 15 2 c) (P5.Iw (by exact ec 15 3 d)) ?_;refine add_list cY rfl cS trivial ?_ ?_
 ·rw[IZ];exact IT (LW i 1) (by decide)
 refine⟨?_,?_⟩
 ·rw[a8];exact b6 15 1 hz d q
 refine add_list cY rfl cY rfl ?_ ?_
 ·rw[IL,IZ];exact IT (Rd (LW i 1) 1) (by decide)
 refine⟨mB g,?_⟩;refine rY g f (by exact b8 15 2 c) (P5.Iu (by exact ec 15 3 d)) ?_;refine add_list cY rfl cS trivial ?_ ?_
 ·rw[IL,IL,IZ,IZ];exact IT (Nat.add_le_add (Rd (LW i 1) 1) (g5 (cL dM (gI p.p1 p.p0 (p.p2++[59]) p.p4 p.p3 43)))) (by decide)
 have k:=p.mA;refine lA g.top (vs:=cE du) (us:=cE p.rows) rfl (congrArg (λl=>IK (O.list l)) p.vr) ?_ ?_
 ·rw[IZ,IZ];exact b6 15 4 o k
 rw[<-Jb];exact⟨_,.next,jk p t u cs,_,jX r v j _,rfl,λx h e=>g9 (by rfl) (by rfl) e,.of rfl,h⟩
theorem Er(g:Gd){L p bl co a b ta tb kvs l l4 dl du ol nw cs Q}(d:A.handled=none)(e:ol.length<sizeLine)(c:nw.length<sizeLine)(h:Q .next (jk p 0 0 cs) (dC (IK (.l p.vals)) bl co a b ta tb kvs l l4 dl du (ol++[tx p.eE]) (nw++[tx p.eO]))) :
  cK A (dt L) [eh 7,eh 8] (jk p 0 0 cs) (dC (IK (.l p.vals)) bl co a b ta tb kvs l l4 dl du ol nw) Q:=by
 refine(g.snd (F:=dt L) d (by rfl)).Ss ?_;refine⟨by rw[IZ];exact e,by rw[IZ];exact c,?_⟩;unfold dC cE at h;rw[Jb,Jb] at h;exact h
end
mutual
theorem P5.eo(p:P5):p.eE=p.old:=by unfold P5.eE P5.old P5.core;rw[I1,I1,I1,I1]
theorem P5.en(p:P5):p.eO=p.new:=by unfold P5.eO P5.new P5.core;rw[I1,I1,I1,I1]
end
structure ph(p:P5):Prop where
 ok:p.Ok
 o:p.sO<=64
 n:p.sN<=65
theorem ph.sz{p}(h:ph p):p.sz<=129/\p.eE.length<=65/\p.eO.length<=66/\0<p.p2.length/\p.core.length<=66/\p.eE.length≠0:=by
 have a:=h.o;have c:=h.n;unfold P5.sO at a;unfold P5.sN at c;have hc:0<p.p2.length:=by
  have:=h.ok.head;cases e:p.p2 with
  |nil=>have this:=e▸this;exact nomatch this
  |cons=>exact OZ _
 have lo:p.eE.length=p.p0.length+p.p2.length+1+p.p3.length:=by unfold P5.eE;rw[IL,IL,IL];rfl
 have lc:p.core.length=p.p2.length+1:=IL;exact⟨by exact fc 15 5 a c,by exact b6 15 6 a lo,by exact b6 15 7 c (show p.eO.length=p.p1.length+p.p2.length+1+p.p4.length from by unfold P5.eO;rw[IL,IL,IL];rfl),hc,by exact cO 15 8 a lc,by exact b6 15 9 lo⟩
theorem x5(g:Gd){L p f i a b j k d l v dl ol nw Q}(e:A.handled=none)(c:A.depth+10<recursionLimit)(F:A.units+9<cLine)(ok:ph p)(m:MI a b f i d l j k)(hd:dl.length<=100000)(E:ol.length<=1000)(D:nw.length<=1000)(h:∀f i d l v j k,MI (tx p.eE) (tx p.eO) f i d l j k->Q .next lL (dC (IK (.l p.vals)) f i (tx p.eE) (tx p.eO) j k d l v (dl++p.rows) (dl++p.rows) (ol++[tx p.eE]) (nw++[tx p.eO]))) :
  cK A (dt L) (c9 (dh (a5 (a7 14)) 3)) lL (dC (IK (.l p.vals)) f i a b j k d l v dl dl ol nw) Q:=by
 refine IJ λS=>?_;obtain⟨B,w,x,J,C,M⟩:=ok.sz;refine S ?_;have hz:1000<sizeLine:=by decide
 refine fH ?_;show cK A (dt L) (eh 0::eh 1::(c9 (dh (a5 (a7 14)) 3)).drop 2) _ _ _;refine cD (EA g e J (by exact ec 15 10 B) λt u o G H P R=>?_);refine cD (Ez g e (by exact b8 15 11 c) m G H P R (by exact ec 15 12 w) (by exact ec 15 13 x) λf i d l v j k m=>?_);refine jE (lc₂:=k8 p 0 0) ⟨.inl rfl,.inl rfl,.inl rfl,.inl rfl,.inl rfl,.inr ⟨_,_,rfl,rfl⟩,.inr ⟨_,_,rfl,rfl⟩,trivial⟩ ?_;show cK A (dt L) (eh 2::eh 3::eh 4::eh 5::eh 6::[eh 7,eh 8]) _ _ _;refine cD (Ey g e (by exact b8 14 15 c) F m (by rw[a8];exact M) (by rw[a8];exact ec 15 12 w) (by rw[a8];exact ec 15 13 x) (λT q=>?_) (λT q=>?_) λf cs hc m=>?_)
 ·rw[P5.eo,P5.en] at q;exact(ok.ok.tree (by exact ec 15 14 C) q).1
 ·rw[P5.eo,P5.en] at q ⊢;exact(ok.ok.tree (by exact ec 15 14 C) q).2
 have r:gG (tx p.old) (tx p.new) cs:=by rw[<-P5.eo,<-P5.en];exact hc
 obtain⟨y,z⟩:=ok.ok.codes (K:=500) (by rw[<-P5.eo];exact ec 15 15 w) (by rw[<-P5.en];exact ec 15 16 x) r;refine cD (Ex g e m.zb m.zc m.b2 y z ?_);refine cD (Ew g e m.zb m.zc m.b2 y z ?_);refine cD (Eu g e c m.zb m.zc m.b2 (by exact ec 15 17 w) (by exact ec 15 18 x) (show kX (tx p.eE) (tx p.eO) (tx (oneOf cs)) (tx (gu cs))=p.rows from by rw[P5.eo,P5.en];exact ok.ok.rows r) (by exact b8 15 19 hd (p.mA)) ?_);refine cD (Et g e c m.zb m.zc m.b2 (by exact ec 15 20 B) (by exact ec 15 21 hd) ?_);refine Er g e (by exact b6 15 22 hz E) (by exact b6 15 22 hz D) ⟨lL,?_,h _ _ _ _ _ _ _ m⟩;exact .of rfl
mutual
theorem CB(L:Addr):∀(i:Nat) x,[kB,fG][i]?=IK x->(NZ (L+1) (a6 (a7 14)).names []).lookup x=IK (L+1+i):=λi x h=>by
 rw[kH]
 match i,h with
 |0,h=>cases h;rfl
 |1,h=>cases h;rfl
theorem yS(s:IY)(fd:LH)(ws:List Value)(c:fd.params=cJ (a7 14))(d:fd.defaults=.none)(e:fd.kwdefaults=.none)(h:ws.length=1):PX s fd ⟨ws,[]⟩ ([iC].zip ws):=by
 obtain⟨fn,x,w,q,y,u,r,o,v,k,p,f,i,j,g⟩:=fd;dsimp only at c d e;subst c d e;obtain⟨a,rfl⟩:=sV h;exact .of_eq (by rfl)
theorem x8:∀x∈[kB,fG],(a6 (a7 14)).names.lookup x=IK .cell:=by decide
end
noncomputable abbrev uJ:St:=[.cell none,.cell none,.ns (rf mJ ⟨⟨[]⟩⟩ ⟨⟨[]⟩⟩ 404 405 4 5 6),.inst 242 2,.dict [],.set [],.set []]
theorem vh(g:Gd):Callee (.v (.ref 242)):=by
 obtain⟨m,c,_⟩:=xc g;exact nt c
mutual
theorem Ep(g:Gd){L sc Q}(c:A.handled=none)(a:A.depth+7<recursionLimit)(h:Q .next [(iC,sc),(qY,.r 3)] uJ) :
  eG A (dt L) (dh (a5 (a7 14)) 0) [(iC,sc)] [.cell none,.cell none] Q:=by
 refine(g.snd (F:=dt L) c (by rfl)).S ?_;refine⟨vh g,?_⟩;refine gf rfl rfl (q9 g c a (uM g) ?_);exact h
theorem Eo(g:Gd){L sc Q}(a:A.handled=none)(h:Q .next [(iC,sc),(qY,.r 3)] ((uJ++[O.dict ic]).set 0 (.cell (IK (.r 7))))) :
  eG A (dt L) (dh (a5 (a7 14)) 1) [(iC,sc),(qY,.r 3)] uJ Q:=by
 have S:=g.snd (F:=dt L) a (by rfl);refine S.S ?_;refine uT (l:=ic) g.top dict_str rfl rfl (λq=>nomatch q) (by decide) (by decide) ⟨S.E ⟨fz,rfl⟩,S.E ⟨rfl,rfl⟩,S.E ⟨fz,rfl⟩,S.E ⟨rfl,rfl⟩,S.E ⟨fz,rfl⟩,S.E ⟨rfl,rfl⟩,S.E ⟨fz,rfl⟩,S.E ⟨rfl,rfl⟩,trivial⟩ ?_;exact h
theorem En(g:Gd){L sc Q}(a:A.handled=none)(h:Q .next ((iC,sc)::lL) (dC none .n .n ⟨⟨[]⟩⟩ ⟨⟨[]⟩⟩ 404 405 [] [] [] [] [] [] [])) :
  eG A (dt L) (dh (a5 (a7 14)) 2) [(iC,sc),(qY,.r 3)] ((uJ++[O.dict ic]).set 0 (.cell (IK (.r 7)))) Q:=by
 refine(g.snd (F:=dt L) a (by rfl)).S ?_;exact h
end
theorem vJ(g:Gd){L ps Q}(u:A.handled=none)(o:A.depth+10<recursionLimit)(z:A.units+9<cLine)(x:∀p∈ps,ph p)(y:ps.length<=64)(w:∀lc q f h a b i j c l k,sg lc lL->Q .next lc (dC q f h a b i j c l k (ps.flatMap P5.rows) (ps.flatMap P5.rows) (ps.map λp=>tx p.eE) (ps.map λp=>tx p.eO))) :
  ∀(d done:List P5) (lc:Lc) (q:Option V) (f h:V) (a b:Str) (i j:Nat) (c:List (Str×V)) (l k:List Str),ps=done++d->sg lc lL->MI a b f h c l i j->dG (λZ=>True) (dN A (dt L) (fu (dh (a5 (a7 14)) 3))) (cK A (dt L) (c9 (dh (a5 (a7 14)) 3))) Q (d.map λp=>.l p.vals) lc
   (dC q f h a b i j c l k (done.flatMap P5.rows) (done.flatMap P5.rows) (done.map λp=>tx p.eE) (done.map λp=>tx p.eO)):=by
 intro d
 induction d with
 |nil =>
  intro done lc q f h a b i j c l k e r m;rw[Jj] at e;subst e;exact⟨trivial,w lc q f h a b i j c l k r⟩
 |cons p d B =>
  intro done lc q f h a b i j c l k e r m;have hd:done.length<=64:=by
   have:=congrArg Lr e;rw[IL] at this;exact cO 15 23 this y
  have v:=rJ done;refine⟨trivial,(g.snd (F:=dt L) u (by rfl)).As ?_⟩;refine jE r (x5 g u o z (x p (by rw[e];exact J0 _ (Je ..))) m (by exact b8 16 0 v hd) (by rw[IZ];exact ec 16 1 hd) (by rw[IZ];exact ec 16 1 hd) λf h c l k i j m=>?_);have:=B (done++[p]) lL (IK (.l p.vals)) f h _ _ i j c l k (by refine(e).symm▸?_;rw[I1];rfl) ⟨.inl rfl,.inl rfl,.inl rfl,.inl rfl,.inl rfl,trivial⟩ m;rw[List.flatMap_append,List.flatMap_singleton,Jb,Jb] at this;exact this
noncomputable abbrev CS(ds os ns:List Str):Lc:=[(qZ,.l (cE ds)),((⟨⟨[100,117,101]⟩⟩:Str),.l (cE ds)),(Bq,.l (cE os)),(Bp,.l (cE ns))]
theorem zQ(g:Gd){L ds os ns Q}(hA:A.handled=none)(k:A.depth+10<recursionLimit)(hu:A.units+9<cLine)(hz:∀x∈ds,x.length<=sizeLine)(hl:ds.length<=sizeLine)(h1:restOf (ik 1) ds=os)(h2:restOf (ik 2) ds=ns)(h:∀lc st,Q (.ret (.b true)) lc st) :
  cK A (dt L) [dh (a5 (a7 14)) 4] (CS ds os ns) [.gone,.gone] Q:=by
 have H {A st Q a b d1 d2 xs ys} (hu:A.units<cLine) (la:LstAt a (cE xs) d1) (h1:d1 st) (lb:LstAt b (cE ys) d2) (h2:d2 st) (h:Q (.b (decide (xs=ys))) st):di A (J1 .Eq) a b st Q:=by
  intro σ s u w ha hb i r;obtain⟨l,vs,m,e,ho,hv⟩:=la σ st s u ha h1 r;obtain⟨l',ws,m',e',ac,hw⟩:=lb σ st s w hb h2 r;subst e e';have e1:vs.size=xs.length:=by have:=hv.len;rw[I3,IZ] at this;exact this
  have e2:ws.size=ys.length:=by have:=hw.len;rw[I3,IZ] at this;exact this
  by_cases hn:xs.length=ys.length
  ·refine UT ⟨_,ho,rfl,m,rfl⟩ ⟨_,ac,rfl,m',rfl⟩ (by rw[e1,e2,hn]) hu (e:=λj=>xs[j]? == ys[j]?) (λj h1 h2=>?_) (g7 i r ?_)
   ·obtain⟨t,h3⟩:=qG hv h1 (e1▸h1);obtain⟨u,h4⟩:=qG hw h2 (e2▸h2);rw[h3,h4,IV (e1▸h1),IV (e2▸h2)];exact(eqGives_str _ _ t u).at _ _
   ·have:((J4 vs.size).all λj=>xs[j]? == ys[j]?)=decide (xs=ys):=by
     rw[K9,Pc,decide_eq_true_iff];refine⟨λq=>M8 λj=>?_,λq j Z=>by refine(q).symm▸?_;exact beq_self_eq_true _⟩;by_cases hj:j<vs.size
     ·exact eq_of_beq (q j (List.mem_range.mpr hj))
     ·refine(Ka (e1▸Nat.not_lt.mp hj)).symm▸?_;exact(Ka (hn▸e1▸Nat.not_lt.mp hj)).symm▸rfl
    rw[this];exact h
  ·refine US ⟨_,ho,rfl,m,rfl⟩ ⟨_,ac,rfl,m',rfl⟩ (by refine(e1).symm▸?_;refine(e2).symm▸?_;simpa using hn) hu (g7 i r ?_);rw[decide_eq_false λe=>hn (by exact(e).symm▸rfl)] at h;exact h
 have Y {A F lc st Q x y pos} (h:c8 A F x lc st λv J=>wI A v J λb st₂=>Br b (c8 A F y lc st₂ Q) (Q v st₂)):c8 A F (.BoolOp .And [x,y] pos) lc st Q :=
  λσ s p=>wpAny_And2 (b0 (h σ s p) λw s₁ U J v d hv T=>eA (T U s₁ w hv d.inv d.rel) λb P R st₂ B G=>by
   cases b with
   |true=>exact fi (d.trans B) (G.t rfl R P (p.step (d.trans B)))
   |false=>exact⟨R,st₂,d.trans B,v,hv.step d.rel B,G.f rfl⟩)
 have X {A F lc st Q x y z pos} (h:c8 A F x lc st λv J=>wI A v J λb st₂=>Br b (c8 A F (.BoolOp .And [y,z] pos) lc st₂ Q) (Q v st₂)):c8 A F (.BoolOp .And [x,y,z] pos) lc st Q :=
  have ab {A M E s env x y z Q} (h:Jd M A (eval x env) (λv s₁=>Jd M A (Ta v) (λt P=>if t then Jd M A (eval (.BoolOp .And [y,z] pos) env) Q E P else Q v P) E s₁) E s):Jd M A (eval (.BoolOp .And [x,y,z] pos) env) Q E s:=by
   show Jd M A (do
    let v <-eval x env
    OM pos
    let t <-Mh [v] (Ta v)
    match U1.And,t with
    |.And,false | .Or,true=>pure v
    |Z,D=>boolOp pos .And [eval y env,eval z env]) Q E s
   refine II (I5 h (λv s₁ T=>II (K4 (II (I9 (I5 T (λt P G=>?_) λZ D x=>x))))) λZ D x=>x);cases t with
   |false=>exact IP G
   |true=>exact G
  λσ s p=>ab (b0 (h σ s p) λw s₁ U J v d hv T=>eA (T U s₁ w hv d.inv d.rel) λb P R st₂ B G=>by
   cases b with
   |true=>exact fi (d.trans B) (G.t rfl R P (p.step (d.trans B)))
   |false=>exact⟨R,st₂,d.trans B,v,hv.step d.rel B,G.f rfl⟩)
 have o {A} (g:Gd) {st Q n ds} (k:A.depth<recursionLimit) (h:∀gn,(∀(j:Nat) c L,st[j]?≠IK (.gen gn c L))->Q (.r (st.length+1)) ((st++[.frm (n9 ds n)])++[.gen gn qO st.length])) :
   b5 A (.v (.ref 332)) [.l (cE ds),.i n] st Q :=
  yo (lc:=n9 ds n) (names:=[qZ,xH]) g.top (sG g) (by kernel_rfl) (by kernel_rfl) k wt rfl (by kernel_rfl) ⟨rfl,rfl,trivial⟩ h
 have C {A} (g:Gd) {st:St} {Q n ds gn} (hA:A.handled=none) (k:A.depth+6<recursionLimit) (hn:n=1∨n=2) (hz:∀x∈ds,x.length<=sizeLine) (hl:ds.length<=sizeLine) (ae:∀(j:Nat) c L,st[j]?≠IK (.gen gn c L)) (h:Q (.r (st.length+2)) (st++[.gone,.gone,.list (cE (restOf (ik n) ds))])) :
   b5 A (.g .list) [.r (st.length+1)] ((st++[.frm (n9 ds n)])++[.gen gn qO st.length]) Q:=by
  refine call_list_gen (FF:=mE) g.top hA (by exact b6 9 12 k) xt ae rfl ?_ (λL=>mD g hA hn hz) h;unfold restOf;rw[IZ];exact IT (NV _ _) hl
 have S:=g.snd (F:=dt L) hA (by rfl);have aa:A.units<cLine:=by exact b6 9 12 hu
 refine S.Ss ?_;refine X (S.E ?_);refine H aa cS trivial cS trivial (pE ?_);rw[decide_eq_true rfl];refine Br.mk (λZ=>?_) λq=>IW q;refine Y (S.E ?_);refine⟨(g.qj (dO 39 rfl) rfl ⟨_,rfl⟩).callee,?_⟩;refine o g (by exact b6 9 12 k) λgn hg=>?_;refine C g hA (by exact b8 14 15 k) (.inl rfl) hz hl hg ?_;refine H aa cY rfl cS trivial (pE ?_);rw[h1,decide_eq_true rfl];refine Br.mk (λZ=>?_) λq=>IW q;refine S.E ?_;refine⟨(g.qj (dO 39 rfl) rfl ⟨_,rfl⟩).callee,?_⟩;refine o g (by exact b6 9 12 k) λgn hg=>?_;refine C g hA (by exact b8 14 15 k) (.inr rfl) hz hl hg ?_;refine H aa cY rfl cS trivial ?_;rw[h2,decide_eq_true rfl];exact h _ _
theorem zR(g:Gd){L ds os ns Q lc pv bl co a b ta tb kvs l l4}(p:sg lc lL)(h:cK A (dt L) [dh (a5 (a7 14)) 4] (CS ds os ns) [.gone,.gone] Q) :
  cK A (dt L) [dh (a5 (a7 14)) 4] lc (dC pv bl co a b ta tb kvs l l4 ds ds os ns) Q:=by
 have o:([0,1]:List Nat).Nodup:=by decide
 have j:8∉([0,1]:List Nat):=by decide
 have k:9∉([0,1]:List Nat):=by decide
 have d:10∉([0,1]:List Nat):=by decide
 have i:11∉([0,1]:List Nat):=by decide
 have c (l:List Str):iM (cE l):=fk (f:=λy=>V.s y 0) (λZ D v u r q=>q) l;refine jE p (lY ⟨⟨[0,1],[(8,cE ds),(9,cE ds),(10,cE os),(11,cE ns)]⟩,.next,CS ds os ns,[.gone,.gone],⟨o,.out rfl rfl (.out rfl rfl trivial),⟨⟨Ji _,j,rfl,c _⟩,⟨Ji _,k,rfl,c _⟩,⟨Ji _,d,rfl,c _⟩,⟨Ji _,i,rfl,c _⟩,trivial⟩,λh q Z=>absurd q (I4 _)⟩,rfl,λx h e=>g9 (by rfl) (by rfl) e,.of rfl,h⟩)
mutual
theorem BD{ns}(a:ns.length<=63):∀p∈linesOf ns,ph p:=λp f=>by
 obtain⟨c,d,e⟩:=xT ns p f;exact⟨c,by exact b8 16 2 d a,by exact b8 16 3 e a⟩
theorem B7{p}(h:ph p):∀y∈p.rows,y.length<=sizeLine:=λy a=>IT (P5.vt h.o h.n y a) (by decide)
end
theorem x7(g:Gd){L}{ns:List Int}{Q}(d:A.handled=none)(c:A.depth+10<recursionLimit)(o:A.units+9<cLine)(e:ns.length<=63)(h:∀lc st,Q (.ret (.b true)) lc st) :
  cK A (dt L) ((a5 (a7 14)).drop 3) ((iC,.l (ns.map V.i))::lL) (dC none .n .n ⟨⟨[]⟩⟩ ⟨⟨[]⟩⟩ 404 405 [] [] [] [] [] [] []) Q:=by
 have j:(linesOf ns).length<=64:=by have:=gK ns [] P5.start;exact IT this (by exact ec 16 4 e)
 show cK A (dt L) (dh (a5 (a7 14)) 3::[dh (a5 (a7 14)) 4]) _ _ _;refine cD (h9 rfl ((g.snd (F:=dt L) d (by rfl)).E ?_));refine⟨(g.qj (dO 41 rfl) rfl ⟨_,rfl⟩).callee,?_⟩;refine tE g d (by exact b8 15 2 c) e ?_;refine⟨rfl,_,_,iG g.top d cS,trivial,?_⟩;refine vJ g (ps:=linesOf ns) d c o (BD e) j (λlc B v w a b C D u l z q=>?_) (linesOf ns) [] _ none .n .n _ _ 404 405 [] [] [] rfl ⟨.inl rfl,.inl rfl,.inl rfl,.inl rfl,.inl rfl,trivial⟩ ?_
 ·refine zR g q (zQ g d c o (λy f=>?_) ?_ ?_ ?_ h)
  ·obtain⟨p,r,f⟩:=List.mem_flatMap.mp f;exact B7 (BD e p r) y f
  ·exact IT (rJ _) (IT (Nat.mul_le_mul_left 4 j) (by decide))
  ·have:=vy (linesOf ns);exact this.trans (Kn λp Z=>by rw[P5.eo])
  ·have:=vz (linesOf ns);exact this.trans (Kn λp Z=>by rw[P5.en])
 ·exact⟨by decide,by decide,⟨λx h=>absurd h Jf,λx Z=>rfl,λp h=>absurd h Jf⟩,λk=>⟨λh=>absurd h Jf,λh=>absurd h.1 Jf⟩,Ji _,λh=>absurd rfl h,.inl rfl,.inl rfl⟩
theorem yM(g:Gd){ns:List Int}{Q}(f:A.handled=none)(c:A.depth+11<recursionLimit)(k:A.units+20<cLine)(j:ns.length<=63)(h:∀st,Q (.b true) st):b5 A (.v (.ref 356)) [.l (ns.map V.i)] [] Q:=by
 refine(oJ (names:=[iC]) (ns:=[kB,fG]) g.top (CA g) (by kernel_rfl) (by kernel_rfl) (JP (Jc ..) c) CB x8 (λs fd ws=>yS s fd ws) rfl (by kernel_rfl) λL=>?_).call;have a:(A.deeper (kh (IM "law") (a6 (a7 14)) L 356 (.ref 355))).handled=none:=f;have d:(A.deeper (kh (IM "law") (a6 (a7 14)) L 356 (.ref 355))).depth+10<recursionLimit:=by exact c
 have e:(A.deeper (kh (IM "law") (a6 (a7 14)) L 356 (.ref 355))).units+9<cLine:=by exact JP (LW (by decide:12<=20) A.units) k
 generalize A.deeper (kh (IM "law") (a6 (a7 14)) L 356 (.ref 355))=B at a d e ⊢;show cK B (dt L) (dh (a5 (a7 14)) 0::dh (a5 (a7 14)) 1::dh (a5 (a7 14)) 2::(a5 (a7 14)).drop 3) _ _ _;refine cD ?_;refine Ep g a (JP (LW (by decide:7<=10) _) d) ?_;refine cD ?_;refine Eo g a ?_;refine cD ?_;refine En g a ?_;exact x7 g a d e j λlc st=>h st
mutual
theorem EF{w s₀ s₁ mg mb}(e:W=GV w s₁ mg mb)(G:RP qv loose [] (λZ L=>True) w s₀ mg mb s₁.heap)(Y:YP w s₁.heap):Gd :=
 ⟨congrArg Wd.prog e,⟨by rw[e];exact G.T.g,by rw[e];exact G.T.b,by rw[e];exact G.T.nolimit,by rw[e];exact G.T.bmain⟩,by rw[e];exact Y.1,by rw[e];exact Y.2,congrArg Wd.t₁ e,λh=>by rw[e];exact Iff.rfl,by rw[e];exact G.T.free,by rw[e];exact G.T.builtins⟩
theorem vQ{w s₁ mg mb}(e:W=GV w s₁ mg mb)(g:Gd)(p:798<=s₁.toks)(k:s₁.gens=#[]):Inv s₁:=by
 have c:=g.fields (o:=uv) (dO 27 rfl) (λf q=>JO q);have d:=g.fields (o:=xD) (dO 26 rfl) (λf q=>JO q);have a:W.h₁=s₁.heap:=congrArg Wd.h₁ e;have j:s₁.os=W.os₁:=(congrArg Wd.os₁ e).symm;have h:=g.tabs s₁.heap;have r:=g.t1;rw[a] at c d h;refine⟨a▸OldK.refl _,λo x=>a▸x,j,by rw[k];exact .empty,a▸IQ _,r▸p,h.mpr ⟨Ja c,Ja d,#[],⟨⟨_,_,c,rfl,rfl,rfl⟩,d⟩,?_⟩⟩;exact⟨_,_,_,_,_,_,_,_,_,_,c,rfl,rfl,rfl,rfl,rfl,rfl,d,rfl,trivial,by decide⟩
theorem zX{σ s vs ns}(h:IntsAre vs ns):cW σ 0 s (ns.map V.i) vs:=by
 induction h with
 |nil=>rfl
 |cons n t Z a=>exact⟨_,_,rfl,⟨_,rfl⟩,a⟩
end
theorem walk:Walk:=by
 intro w s₀ s₁ E D G Y A y l vs ns d p j;refine IJ λB=>?_;obtain⟨w,s₀,s₁,E,D,G,Y,A,y,l,vs,ns,d,p,j,B,e⟩:=B6 (.mk w s₀ s₁ E D G Y A y l vs ns d p j B rfl);have g:=EF e G Y;have C:=zX (σ:=⟨λZ=>0,(· =l)⟩) (s:=s₁) p;have a:=C.len;rw[IZ] at a;have c:b5 RE (.v (.ref 356)) [.l (ns.map V.i)] [] λv Z=>v=.b true:=yM g rfl (by decide) (by decide) j λZ=>rfl;have r:Rel ⟨λZ=>0,(· =l)⟩ [] s₁:=⟨λh o e=>(nomatch e),λh q=>absurd q (I4 _),λh k q=>absurd q (I4 _),λb e=>e▸Ja d,λb e h q=>absurd q (I4 _)⟩
 have z:Jd (I6 W.prog W.w) RE (JX (.ref 356) [.ref l]) (PV ⟨λZ=>0,(· =l)⟩ [] s₁ λv Z=>v=.b true) D5 s₁:=c _ s₁ _ [.ref l] rfl ⟨_,_,rfl,⟨l,vs.toArray,0,rfl,rfl,d,by rw[KN,a];exact IT j (by decide),by rw[List.toList_toArray];exact C⟩,rfl⟩ (vQ e g A y) r;have F:W.prog=pw:=g.prog;have H:W.w=w:=congrArg Wd.w e;rw[F,H] at z;refine B (I5 z (λv s' q=>?_) λZ L x=>x);obtain⟨σ',M,x,u,J,f⟩:=q;subst f;exact⟨J,(show W.h₁=s₁.heap from congrArg Wd.h₁ e)▸x.inv.old,x.inv.os.trans (congrArg Wd.os₁ e),x.inv.bare⟩
end
end
end Mine.Internal
theorem PySem.Challenge.cw_dm0047_11_holds : PySem.Challenge.rw_dm0047_11.Holds :=
  Mine.Internal.hd Mine.Internal.walk
