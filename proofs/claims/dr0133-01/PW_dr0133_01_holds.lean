import PyProof.Rows.All
import Wide.All
import OpenK.AllK
import Wide.FinOn
import KE.KPar
import PyProof.GenQ
import PySem.Challenge.RW_dr0133_01
set_option genInjectivity false
set_option genSizeOf false
set_option bootstrap.genMatcherCode false
set_option linter.defProp false
set_option Elab.async false
set_option maxRecDepth 100000
set_option linter.unusedVariables false
set_option maxHeartbeats 8000000
set_option genCtorIdx false
set_option compiler.extract_closed false
set_option hygiene false in
local macro_rules
  | `(tactic| rcases _ : $e with $p) => `(tactic| (refine Classical.byContradiction fun kk0 => ?_; rcases $e:term with $p <;> (refine kk0 ?_; clear kk0)))
set_option hygiene false in
local macro_rules
  | `(tactic| show $t) => `(tactic| refine (?_ : $t))
set_option hygiene false in
local macro_rules
  | `(tactic| decide) => `(tactic| first | exact Nat.le_of_ble_eq_true rfl | exact of_decide_eq_true rfl | fail)
set_option hygiene false in
local macro_rules
  | `(tactic| rewrite [$a,*]) =>
    let q := a.getElems
    if q.size > 1 then `(tactic| ($[rewrite [$q]];*)) else
    let e : Lean.Term := ⟨q[0]!.raw[1]⟩
    let (x, y) : Lean.Ident × Lean.Ident := if q[0]!.raw[0].isNone then (Lean.mkIdent `eqR, Lean.mkIdent `ifR) else (Lean.mkIdent `eqL, Lean.mkIdent `ifL)
    `(tactic| with_reducible_and_instances (first | refine $x ($e ..) ?_ | refine $y ($e ..) ?_ | fail))
set_option hygiene false in
local macro_rules
  | `(Wu $x) => `(Sw se dn pd n0 nl dl ps pm data out $x)
  | `(Wv $x) => `(Sw se dn pd (aq.map ae) (nv e) dl ps pm data out $x)
set_option hygiene false in
local macro_rules
 | `(Zz)=>`((by decide))
set_option compiler.maxRecSpecialize 0
open PySem PySem.W PyProof.Rows
open And renaming intro->aee
open _root_.Array renaming any_eq_false'->Zl,forIn_toList->Zv,getD->acG,getElem?_eq_getElem->Υ,getElem?_eq_none->C_,getElem?_eq_some_iff->ĩ,getElem?_setIfInBounds_ne->Xs,getElem?_setIfInBounds_self_of_lt->Ϝ,getElem?_toList->Š,getElem_mem->ZV,length_toList->Č,mem_iff_getElem->YQ,size->acH,size_eq_one_iff->L_,size_eq_zero_iff->YJ,size_push->aaN,size_setIfInBounds->ta,toList_extract->U_,toList_inj->XD,toList_push->ZW
open Array.Perm renaming refl->YW,toList->YI
open Bool renaming and_eq_true->ú,and_eq_true_iff->è,and_false->b_,and_true->YD,eq_false_iff->ϝ,eq_iff_iff->Ψ,false->Ï,false_and->Yq,false_eq_true->ĭ,false_ne_true->ß,false_or->abV,noConfusion->Bu,not_eq_true'->Ϟ,not_eq_true->e_,not_inj->nu,not_not->H_,not_or->acI,or_eq_false_iff->WF,or_eq_true->ϸ,or_eq_true_iff->WT,or_false->YE,or_right_comm->ZX,or_true->n_,true->Í,true_and->uf
open Classical renaming byContradiction->Ř,choose->WY,choose_spec->a7
open Decidable renaming not_not->aeq
open ForInStep renaming yield->Ŵ
open Int renaming eq_ofNat_of_zero_le->YR,fmod_lt_of_pos->aan,fmod_nonneg_of_pos->YX,le_natAbs->W4,le_trans->d_,lt_of_le_of_lt->ϻ,lt_of_lt_of_le->W5,natAbs_neg->abW,natCast_nonneg->W6,neg_le_neg->abX,not_le->W7,not_lt->aao,ofNat_le->ec,ofNat_lt->eh,sub_zero->acK,toNat_lt->acL,toNat_natCast->u_,toNat_of_nonneg->ZZ
open Int.ofNat renaming inj->ZY
open _root_.List renaming all_eq_true->ũ,all_takeWhile->aef,any_cons->V_,any_eq_true->YF,append_assoc->ø,append_cons->Ϙ,append_inj'->abc,append_nil->Ę,casesOn->aco,concat_eq_append->acM,cons_append->abd,contains_append->YK,contains_cons->oo,contains_iff_mem->Ú,dropLast_concat->YL,dropLast_concat_getLast->ϒ,dropWhile_cons->W8,dropWhile_sublist->X8,drop_eq_getElem_cons->pT,drop_length->abe,drop_take->Xt,drop_zero->acN,eq_nil_or_concat->acO,ext_getElem?->X9,filterMap_cons->w_,filterMap_eq_nil_iff->abf,filterMap_map->aeg,filter_append->Zw,filter_congr->WI,filter_cons->I2,filter_eq_nil_iff->I_,filter_eq_self->YY,filter_filter->aeh,filter_sublist->Ϭ,find?_append->aaq,find?_cons->ϭ,find?_eq_none->XQ,flatten_append->Ϯ,flatten_singleton->acp,foldl_append->X_,foldl_cons->YZ,forIn_cons->ϟ,forall_mem_cons->ő,getD_eq_getElem?_getD->Ĺ,getElem?_append_left->ľ,getElem?_append_right->ĺ,getElem?_concat_length->Ĳ,getElem?_eq_getElem->æ,getElem?_eq_none->Ū,getElem?_eq_none_iff->ϩ,getElem?_eq_some_iff->î,getElem?_inj->aar,getElem?_map->Ė,getElem?_range->Y0,getElem?_set_ne->μ,getElem?_set_self->ο,getElem?_toArray->Ŷ,getElem?_zip_eq_some->ϯ,getElem_idxOf->Mo,getElem_of_mem->Y1,getElem_toArray->adm,head?_drop->WJ,idxOf_append->WL,idxOf_cons_self->adn,idxOf_lt_length_iff->abD,idxOf_lt_length_of_mem->Ξ,isEmpty_iff->Ġ,length->xe,length_append->Ð,length_cons->ŕ,length_drop->ϰ,length_eq_zero_iff->Ō,length_eraseIdx->ado,length_filter_le->ķ,length_flatten->Y2,length_nil->ω,length_range->aas,length_replicate->Yv,length_reverse->ϱ,length_set->Y3,length_singleton->ŷ,length_take->W_,lookup->Zn,lookup_cons->ſ,map->abE,map_append->ò,map_congr_left->Ŧ,map_cons->Ī,map_eq_nil_iff->Xa,map_id''->abg,map_map->ĥ,map_nil->ow,map_reverse->Xb,mem_append->ý,mem_append_left->ç,mem_append_right->í,mem_cons->Ċ,mem_cons_of_mem->à,mem_cons_self->ã,mem_filter->þ,mem_filterMap->ĵ,mem_flatMap->abh,mem_flatten->J_,mem_iff_getElem?->Yw,mem_map->ě,mem_map_of_mem->Ĭ,mem_mergeSort->ż,mem_of_find?_eq_some->ϲ,mem_of_getElem?->Ĉ,mem_range->acP,mem_reverse->Xc,mem_singleton->Ù,mergeSort_perm->ň,nil_append->Y4,nodup_append->ō,nodup_cons->ϊ,nodup_nil->Χ,not_lt->acQ,not_mem_nil->Ķ,pairwise_cons->Zx,pairwise_map->Ya,pairwise_singleton->abY,range->İ,replicate->Z_,replicate_succ'->ri,reverse_append->Y5,reverse_cons->tw,reverse_reverse->rt,set_append_right->Wy,size_toArray->Đ,tail_drop->aaa,takeWhile_append_dropWhile->x_,takeWhile_append_of_pos->e7,takeWhile_cons->Xd,take_add_one->ty,take_append_drop->Wz,take_length->Xe,take_of_length_le->fe,toArray->t_,unzip_zip->acR,zip_cons_cons->M_,zip_map'->Yb
open List.Pairwise renaming nil->WU
open List.Perm renaming cons_inv->aer,of_eq->Zm,refl->aes,swap->aet,trans->aeu
open List.Sublist renaming append->aap,refl->Yu
open List.cons renaming inj->ŭ
open Nat renaming add_assoc->Ď,add_comm->ı,add_le_add->å,add_le_add_left->Ø,add_le_add_right->Ò,add_left_cancel->aab,add_lt_add_left->o_,add_right_comm->Ě,add_sub_cancel'->aac,add_sub_cancel->aat,add_sub_cancel_left->D3,eq_of_beq_eq_true->Zo,eq_zero_or_pos->aau,exists_eq_succ_of_ne_zero->X5,le_add_left->ħ,le_add_right->ë,le_antisymm->ţ,le_of_ble_eq_true->WA,le_of_eq->ó,le_of_lt->ð,le_of_lt_succ->ž,le_of_not_lt->ņ,le_of_sub_eq_zero->Ų,le_of_succ_le->XF,le_of_succ_le_succ->N_,le_refl->Ë,le_succ->ö,le_succ_of_le->ļ,le_trans->Â,le_zero->adp,lt_add_of_pos_right->D_,lt_irrefl->Ő,lt_of_le_of_lt->É,lt_of_lt_of_le->ô,lt_of_sub_pos->XG,lt_of_succ_lt_succ->Ζ,lt_one_iff->Yx,lt_or_ge->O_,lt_succ_of_le->ej,lt_succ_of_lt->Ŭ,lt_succ_self->Ň,lt_trans->Þ,min_le_left->abF,min_le_right->f_,min_self->Η,mod_lt->aav,mul_le_mul_left->Ą,mul_le_mul_right->θ,mul_succ->p_,ne_of_gt->Θ,ne_of_lt->Ĝ,not_lt->ų,not_lt_of_lt->abi,not_lt_zero->Ϻ,not_succ_le_zero->Zy,sub_eq_zero_of_le->Zp,sub_le->aaw,sub_le_of_le_add->ZG,sub_lt->aax,sub_lt_sub_left->aad,sub_pos_of_lt->aaO,sub_self->Ť,sub_succ->XH,sub_zero->XI,succ_add_eq_add_succ->YM,succ_le_of_lt->aaP,succ_le_succ->á,succ_lt_succ->ĳ,succ_ne_zero->gg,succ_pos->ŵ,succ_pred_eq_of_pos->YS,succ_sub->Y6,zero_add->ė,zero_le->ï,zero_lt_one->abG
open Nat.succ renaming inj->vx
open Ne renaming symm->Zq
open Option renaming bind->YT,bind_eq_some_iff->ù,elim->abZ,isNone->Yr,isNone_iff_eq_none->Ģ,isSome_iff_exists->š,isSome_map->ZH,isSome_none->Zr,map->ε,map_eq_some_iff->Ħ,mem_toList->ZI,none->U,orElse->abj,or_none->aaQ,some->C,some_get->E_
open Option.some renaming inj->Ä,injEq->adB
open PUnit renaming unit->WZ
open Prod renaming ext->abH
open Prod.mk renaming inj->ŋ,injEq->aaR
open PyProof.Rows renaming AllBare->YU,KeyOrd->r5,SortKind->adD,StrsAre->Ů,args_list_sort->adE,assign_Name->l1,entry_list_sort->YN,failedOf->adG,get?_update_seq->Ι,iadd_str->adq,kwAll_nil->Xu,listItems_at->Yc,listUpdate_at->ϋ,ltCps_eq->adr,lt_str->Yd,mul_int->ads,neg_int->adt,seqEpoch_at->Xf,seqObj->Ŗ,slot_list_sort->Y7,truthy_int->adu,walkZ->Xg
open PyProof.Rows.F renaming entry_set_update_loop->Zs
open PyProof.Rows.KeyOrd renaming kle_refl->kh,kle_trans->v_
open PySem renaming Addr->Ü,Arguments->Ű,Around->Ā,Builtin->ř,CmpOp->XR,Comprehension->Ĥ,Const->abo,DictEntry->mc,ElemsOf->aay,Env->ϙ,ExceptHandler->ph,Expr->ñ,Fin->Ē,Flow->P_,Frame->YG,FuncData->Y9,GenState->Ν,Heap->ę,Keyword->ς,Obj->ϑ,Operator->WD,Pos->ϗ,Program->Xx,Result->ky,Resume->aaz,Scope->Α,Sem->Ϛ,SetTable->Ś,Shared->Ç,Stmt->ϳ,Str->Ì,Tok->YP,Value->Ê,World->WW,again->Zd,argsOk->Xj,args_listiter_next->ach,assign->Xk,assignAll->aaj,assignEach->Ϡ,assignInOrder->ael,attributeBase->aem,backTo->Ab,backToKw->ϔ,binaryOp->abw,bindArgs->adQ,bootBuiltins->Yg,boundAndCalled->adR,builtinLookup_eq_fast->η,builtinsNs->Ŏ,cLine->XU,callAny->YV,callWith->adS,call_meets->Ÿ,call_meetsIn->aaF,cameBackBy->X1,cellsFrom->aak,checkBoundCall->hY,checkBuiltinCall->acX,clipAt->aaG,closureFor->Ze,codeAny->Ž,codeAny_builtin->ģ,codeAny_call_builtin->υ,codeAny_call_function->aaX,codeAny_mono->φ,codeAny_of_tree->ν,collect->Xz,compTurn->Yh,compareOp->WE,comprehension->ZP,dictSet->acA,dropValue->acY,entryFor->bT,entryFor_alias->Xl,entryFor_of_tree->Ϲ,entry_listiter_next->abO,eval->Ũ,evalArgs->abx,evalThenUse->aby,exec->ZQ,execs->h8,firstArgMember->h_,fits_of_scanBound->i_,foldedSetIterable->j2,getAttr->aaH,getMethod->acZ,getMethod_builtin->Yi,getattributeRaised->aci,holding->pw,interactive->YH,isSubtype->ξ,isSubtype_stop->Zg,isSubtype_type->Β,isTrue->YC,isType->acj,joinOk_length->XV,keywordEach->ū,layNew->Rp,leafOf->ack,leaving->Yj,letOwnedTupleGo->r_,letTemporaryGo->adU,limitOf->XA,mainGlobals->ġ,meets_str_join_list->abP,methodCallForm->Xm,methodCallPos->Ϥ,model->Ϧ,newExc->Zh,newFunctionEnv->Xn,noteFrame->wb,numbered_texts->Zi,partValue->ada,pickOrder->adb,plainId->acB,pushCells->ww,pushCells_keeps->ct,pyIter->sz,pyNext->Xo,raiseNew->Yl,rawInt->ŏ,recursionLimit->ϕ,relabel->acC,relayAll->Xp,runOwn->acl,scanBound->ű,seqIndex?->XB,seqItems?->adc,setField->Ym,setFlight->ade,setNextDrawn->aaI,sizeLine->Ö,sizeLine_eq->ŀ,slotArgs->adX,slot_dict_setitem->acD,slot_gen_next->aen,slot_listiter_next->A3,spliced->aaJ,standAt->ϧ,starEach->ŧ,storeName->adf,storeSet->adY,strKind_is->ů,strLen_append->â,strValues->adg,strsFrom_eq->abz,swappedStores->RJ,swapsWith->adh,swapsWithSole->R_,sysModules->Κ,table->XW,theTreesLotGoes->s_,truthy->X2,typeIs_str->Ź,typeLookup->ύ,typeLookup_type->c0,unsupported->ϴ,valueAt->aaK,weight_type_call_type->aaY,wpAny->Î,wpAny_Constant_int->acm,wpAny_Constant_str->e6,wpAny_Name->WQ,wpAny_alloc->abA,wpAny_askSetting->ź,wpAny_attempt->S_,wpAny_bind->Á,wpAny_bindName->aeb,wpAny_call->ϵ,wpAny_callSpecial?_none->aal,wpAny_callSpecial?_slot->ϖ,wpAny_call_entry->Ş,wpAny_dictEntries->acE,wpAny_dictEpoch->adz,wpAny_dictSet_pairs->abQ,wpAny_eqBool_str->adi,wpAny_evalAll_nil->Yn,wpAny_execs_cons->adj,wpAny_execs_nil->WX,wpAny_field->χ,wpAny_fieldsOf->Zj,wpAny_forIn_list->adk,wpAny_getItem_list_slice->ZR,wpAny_handled->ZS,wpAny_holding->ä,wpAny_isInstance->Ŕ,wpAny_isTrue_value->acn,wpAny_ite_split->ĸ,wpAny_layCells->aec,wpAny_letTemporaryGo->abB,wpAny_list_append_plain->aam,wpAny_load->X3,wpAny_loadName_cell->abR,wpAny_loadName_local->ψ,wpAny_loadPart'->ŝ,wpAny_loadPart->aed,wpAny_mono->Ô,wpAny_newFunctionEnv->Xq,wpAny_newList->XY,wpAny_newObj_type->į,wpAny_newTuple->Xr,wpAny_notOrdered_dict->aaZ,wpAny_of_eq->ś,wpAny_onRaise->aeo,wpAny_operating->adA,wpAny_pure->Å,wpAny_pyIter_dict->K_,wpAny_pyIter_list->Ϩ,wpAny_pyIter_slot->acF,wpAny_pyNext_list_end->aba,wpAny_pyNext_list_item->aaL,wpAny_release->ZT,wpAny_rule->Ŝ,wpAny_runValue->A_,wpAny_seqItems->j3,wpAny_setEntries_of->XP,wpAny_setField->γ,wpAny_setState_of->ŗ,wpAny_specialOf->c_,wpAny_standAt->ī,wpAny_storeName_local->W3,wpAny_storeSet_of->Yo,wpAny_throw->abC,wpAny_truthy_bool->Yp,wpAny_typeOf->Τ,yieldFrom->adl
open PySem.Around renaming under_plain->Zt,under_plainId->ϡ
open PySem.Bind renaming lastOf->acS
open PySem.Builtin.Dict renaming addKeywords->adv,selfAndRest->adw,updateFrom->XJ
open PySem.Builtin.Frozenset renaming addrOf->WM,intersection->Ϫ,isAnySet->π,merge->abk,newClass->WB,sizeOf->abl,updateFrom->Ω
open PySem.Builtin.Generator renaming endsTheTurnAsAValue->abm,genWake->WG,isStopAndMetaclass->abn,sleptOver->T_
open PySem.Builtin.List renaming listExtendWith->adx,listLengthHint->W0,listSameRef->Xv,listUpdate->ady
open PySem.Builtin.Range renaming rangeFitsLong->WV,rangeSize->l_,small->y_
open PySem.Builtin.Re renaming reRawOf->aei
open PySem.Builtin.Str renaming glued->adI,occurrences->ϥ,occurrencesFromRight->WC,partsBetween->Ο,strKind->ŉ,strSub->g_
open PySem.Calls renaming spliced_cons->Μ,spliced_nil->a8
open PySem.Challenge renaming rw_dr0133_01->aca
open PySem.Code renaming builtin->Xw,quiet_builtin->aae
open PySem.Data.dict renaming inj->aeB
open PySem.DictEntry renaming refKey->Y8
open PySem.Expr renaming Name->aaS,casesOn->Ŋ
open PySem.F renaming args_list_getattribute_2->YO,args_str_rsplit_3->Xh,args_str_split_2->XM,args_str_split_3->XN,entry_set_init->acb,entry_set_new->acq,entry_str_join->acd,entry_str_rsplit->XO,entry_str_split->Ϣ,entry_type_call->abI,plainAttrs_dict->abJ,plainAttrs_str->Ye,plain_list_iadd->abK,plain_set_new->Yy,slot_dict_get->acr,slot_dict_items->abL,slot_dict_values->abp,slot_list_delitem->aaT,slot_list_extend->abq,slot_list_index->abM,slot_list_lt->acU,slot_list_pop->acs,slot_set_add->acV,slot_set_iter->act,slot_str_join->acu,slot_str_rsplit->B_,slot_str_split->Ρ,type_list_append->abr,type_str_split->ace
open PySem.Flow renaming next->adJ
open PySem.Heap renaming SameBut->ζ,dictOf_iff->m_,get?_push_of_some->Ñ,get?_push_size->ê,get?_update_ne->zh,get?_update_self->œ,lt_size->Ŀ,size_push->e8
open PySem.Heap.DictAt renaming at'->acv
open PySem.Heap.SameBut renaming refl->Yz,update->Ĩ
open PySem.Keeper renaming boundFrame->ZJ,frame->abN,machine->aaU
open PySem.Manifest renaming signature?->ϣ
open PySem.Moved renaming trans->acw
open PySem.NameKind renaming cell->ql,free->ek
open PySem.Obj renaming data_mapDict->abt,data_mapDictKeys->ZK,data_mapFields->Xi,isFreed_of_dict->aaf,isFreed_of_fields->Zu,mapFields->z_,mapSeq->Ğ,putNameByArray->r7,putName_eq->WN,putSet->hG
open PySem.PyData renaming keyHash->aaV
open PySem.Sem renaming bind_eq_wrap'->Ľ,bind_eq_wrap->abu,onRaise_eq_wrap->aag,raise->aej,wrap_congr->acf,wrap_wrap->Ţ
open PySem.SetTable renaming Probe->l8,below->aah,bits->aaA,fill->X6,fits->q_,freeSlot->Y_,fresh->Ņ,grown->ϛ,has->Ys,insertAt->Za,orStandIn->WH,probe->aai,runEnd->ZL,slot->aaB,turns->XT
open PySem.SetTable.below renaming go->acx
open PySem.SetTable.probe renaming go->Δ
open PySem.Shared renaming TypeIs->ϫ
open PySem.Sre renaming Frame->XZ,M->acg,Seen->ι,isWordUni->Q_,run->aaW
open PySem.Sre.M renaming runFor->a_
open PySem.Stmt renaming casesOn->acy
open PySem.Str renaming append_assoc->ό,append_empty->F_,cps->acW,empty->Ĕ,empty_append->G_,join->k_,length->YA,ofString->Ć
open PySem.StrLaws renaming join_split->WO,seqIndex_nonneg->Yt,subAt_one->W1,sumLen_le->rf
open PySem.Txt renaming contains->σ,join->û,replace->ť,rsplitMax->Ĵ,slice->Ļ,slice_le->Zb,split->ğ,splitMax->ĝ,strip->be,stripBy->ZM,stripChars->lr
open PySem.Unicode renaming isSpace->ϐ
open PySem.Value renaming int->aaC,none->Ă,ref->Ż,str->e9,type->W2
open PySem.Value.ref renaming inj->Ϗ
open PySem.Value.type renaming inj->aek
open PySem.W renaming Frag->aaD,emptyDict->ϓ,findIn->YB,instObj->Xy,keeps_K->acz,lookIn->Zc,stripBy_eq->adO
open PySem.W.Looks renaming ld->adM
open PySem.W.OpenLaw renaming wellSaid->ZN
open PySem.W.WData renaming layableAll->aaE
open PySem.Walks renaming dictKeys->Yf,list->ZO
open PySem.pickOrder renaming go->Yk
open StateT renaming run_pure->aaM
open Std.Legacy.Range renaming forIn_eq_forIn_range'->abS,size->abT
open String renaming splitOn->abb,splitOnAux->ZU
open _root_ renaming Array->ÿ,Bool->ì,ForInStep->acJ,Int->Į,List->È,Nat->Ó,Option->Æ,String->Λ,Unit->ab,beq_eq_false_iff_ne->abU,beq_false_of_ne->Œ,beq_iff_eq->ĕ,beq_self_eq_true->ş,bne_iff_ne->ώ,bne_self_eq_false->Ε,congrArg->Õ,decide_eq_false->ü,decide_eq_true->õ,decide_eq_true_eq->j_,forall_congr'->aep,if_false->δ,if_neg->Ý,if_pos->Û,if_true->WR,not_or->Zk,of_decide_eq_false->X4,or_false->Ϸ
noncomputable section
set_option tactic.hygienic false
open PySem.SeqAt PySem.MeetsSeq PySem.MeetsSeq3 List PySem.Heap
namespace Internal
set_option backward.match.sparseCases false
@[elab_as_elim] theorem eqR {B:Sort u} {p:B->Prop} {a b:B} (h:b=a) (m:p a):p b:=h▸m
@[elab_as_elim] theorem eqL {B:Sort u} {p:B->Prop} {a b:B} (h:a=b) (m:p a):p b:=h▸m
@[elab_as_elim] theorem ifR {p:Prop->Prop} {a b:Prop} (h:b↔a) (m:p a):p b:=propext h▸m
@[elab_as_elim] theorem ifL {p:Prop->Prop} {a b:Prop} (h:a↔b) (m:p a):p b:=propext h▸m
set_option genCtorIdx true in
inductive BI where
 | len|sum|range|list|set|sorted|str|dict
 | lAppend|lPop|lSort|lExtend|lIndex
 | sJoin|sRsplit|sSplit|sStrip
 | dItems|dGet|dValues|eAdd|inter|rev
 deriving DecidableEq,Inhabited
def BI.val:BI->Ê
 | .len=>.builtin "len" | .sum=>.builtin "sum" | .sorted=>.builtin "sorted"
 | .range=>.type "range" | .list=>.type "list" | .set=>.type "set" | .str=>.type "str" | .dict=>.type "dict"
 | .lAppend=>.builtin "list.append" | .lPop=>.builtin "list.pop" | .lSort=>.builtin "list.sort" | .lExtend=>.builtin "list.extend" | .lIndex=>.builtin "list.index"
 | .sJoin=>.builtin "str.join" | .sRsplit=>.builtin "str.rsplit" | .sSplit=>.builtin "str.split" | .sStrip=>.builtin "str.strip"
 | .dItems=>.builtin "dict.items" | .dGet=>.builtin "dict.get" | .dValues=>.builtin "dict.values" | .eAdd=>.builtin "set.add" | .inter=>.builtin "set.intersection" | .rev=>.type "reversed"
def MC (G:Prop) {B D:Type} (p:B->D->Prop):Prop:=∀(a:B) (b:D) (h:p a b),G
def Tu {D G:Type} (p:D->G->Prop):Prop:=∀B:Prop,MC B p->B
def Tu.mk:MC (Tu p) p:=λa b h J B=>B a b h
def MD (H:Prop) {B D G:Type} (p:B->D->G->Prop):Prop:=∀(a:B) (b:D) (c:G) (h:p a b c),H
def Tv {D G H:Type} (p:D->G->H->Prop):Prop:=∀B:Prop,MD B p->B
def Tv.mk:MD (Tv p) p:=λa b c h J B=>B a b c h
def Mq (B:Prop) (a b c:Prop):Prop:=∀(x1:a) (x2:b) (x3:c),B
def TN:=λa b c=>∀B,Mq B a b c->B
def TN.mk:Mq (TN a b c) a b c:=λD G H J B=>B D G H
inductive AV where
 | none
 | bool (b:ì)
 | int (i:Į)
 | str (s:Ì)
 | tup (xs:(È AV))
 | fl (xs:(È AV))
 | fd (ks:(È Ì)) (xs:(È AV))
 | ws (ks:(È Ì))
 | loc (l:Ó)
 | obj (d:Ó)
 | fn (a:Ü)
 | bf (b:BI)
 | bm (b:BI) (x:AV)
 | mt (f:Ü) (x:AV)
 | rng (a b:Į)
 | iv (x:AV)
 | vv (x:AV)
 | lk
 | mo
 deriving Inhabited
abbrev ZF:Type:=È (Ì×AV)
abbrev ZE:Type:=È (Ì×Ì)
abbrev ZD:Type:=È (Ì×Ê)
abbrev ZC:Type:=È Ì
abbrev ZB:Type:=È AV
abbrev ZA:Type:=È Ê
inductive aK where
 | list (xs:ZB)
 | dict (kvs:ZF)
 | set (ks:ZC)
 | attrs (fs:È (Æ AV))
 | code
 deriving Inhabited
abbrev aa:=È aK
abbrev Vs:=È (Æ AV)
structure Fn where
 qual:Ì
 pars:È Ì
 body:È ϳ
 scope:Α
 dfl:È AV
 kwd:È (Ì×AV)
 kws:È ZC
structure Rg where
 gl:È (Ì×AV)
 fn:È (Ü×Fn)
 acT:Ü
 ini:Ü
 it:Ü
 an:È Ì
 ms:È (Ì×Ü)
 mu:ϗ->ì
 lam:ϗ
 lk:Ü
 lc:Ü
 lP:Ü
 lq:Ì
def ok {B:Type} (o:Æ B) (f:B->Prop):Prop:=match o with|some a=>f a|none=>False
def oK (c:ì) (p q:Prop):Prop:=match c with|true=>p|false=>q
def cX (c:ì) (p:Prop):Prop:=match c with|true=>p|false=>False
def bV {c:ì} {p:Prop} (h:cX c p):c=Í/\p:=match c,h with
 | true,h=>⟨rfl,h⟩
def bD (x:Ì) (ns:ZC) (vs:Vs):Æ AV:=match vs[ns.idxOf x]? with|some (C v)=>C v|_=>U
def fG (x:Ì) (v:AV) (vs:Vs) (ns:ZC):Vs:=vs.set (ns.idxOf x) (C v)
def lG:AV->Æ Ó | .loc l=>C l|_=>U
noncomputable def strV:AV->Æ Ì | .str s=>C s|_=>U
noncomputable def intV:AV->Æ Į | .int i=>C i|_=>U
def ux:AV->Æ ZB | .tup xs=>C xs|_=>U
noncomputable def Tm:AV->Æ ZC | .ws ks=>C ks|_=>U
noncomputable def aw (Z:aa):AV->Æ ZB
 | .fl xs=>C xs
 | .loc l=>match Z[l]? with|some (.list xs)=>C xs|_=>U
 | _=>U
noncomputable def dS (Z:aa) (l:Ó):Æ ZF:=match Z[l]? with|some (.dict kvs)=>C kvs|_=>U
def aC (Z:aa):AV->Æ ZF
 | .fd ks xs=>C (ks.zip xs)
 | .loc l=>dS Z l
 | _=>U
noncomputable def fN (Z:aa):AV->Æ ZC
 | .ws ks=>C ks
 | .loc l=>match Z[l]? with|some (.set ks)=>C ks|_=>U
 | _=>U
noncomputable def aJ:È AV->Æ ZC
 | []=>C []
 | x::r=>(strV x).bind λs=>(aJ r).map (s :: ·)
noncomputable def iK:È AV->Æ (È Į)
 | []=>C []
 | x::r=>(intV x).bind λs=>(iK r).map (s :: ·)
noncomputable def bZ (Z:aa):AV->Æ ì
 | .none=>C Ï
 | .bool b=>C b
 | .int i=>C (i !=0)
 | .str s=>C (s.length !=0)
 | .fl xs=>C (!xs.isEmpty)
 | .fd ks _=>C (!ks.isEmpty)
 | .ws ks=>C (!ks.isEmpty)
 | .mo=>C Í
 | .loc l=>match Z[l]? with
  | some (.list xs)=>C (!xs.isEmpty)
  | some (.dict kvs)=>C (!kvs.isEmpty)
  | _=>U
 | _=>U
noncomputable def oQ (a b:Ì):Æ Ì:=if a.length+b.length<=Ö then C (a++b)else U
noncomputable def zM (xs:ZB):Æ ZB:=if xs.length<=Ö then C xs else U
def Rr (Z:aa) (a b:AV):Æ AV:=match a with
 | .int i=>(intV b).map λj=>.int (i+j)
 | .str x=>(strV b).bind λy=>(oQ x y).map .str
 | a=>(aw Z a).bind λxs=>(aw Z b).bind λys=>(zM (xs++ys)).map .fl
def Sh (a b:AV):Æ AV:=(intV a).bind λi=>(intV b).bind λj=>if j.natAbs<2 ^ 30 then C (.int (i * j))else U
def UN (a b:AV):Æ AV:=(intV a).bind λi=>(intV b).bind λj=>if j=0 then U else C (.int (i.fmod j))
def RY (a b:AV):Æ AV:=(intV a).bind λi=>(intV b).bind λj=>if j=0\/j.natAbs≥2 ^ 30 then U else C (.int (i.fdiv j))
def jP (Z:aa) (B:WD) (a b:AV):Æ AV:=match B with
 | .Add=>Rr Z a b
 | .Mult=>Sh a b
 | .Mod=>UN a b
 | .FloorDiv=>RY a b
 | _=>U
noncomputable def wc (t:ÿ Ó):Ó->Ó->Ó
 | 0,_=>0
 | n+1,p=>bif Q_ (t.getD p 0)then wc t n (p+1)+1 else 0
def IV {t:ÿ Ó} {n p:Ó}:wc t (n+1) p=bif Q_ (t.getD p 0)then wc t n (p+1)+1 else 0:=rfl
noncomputable def hO (t:ÿ Ó) (p:Ó):ì:=p==t.size||(p+1==t.size&&t.getD p 0==10)
def Qx (t:ÿ Ó) (k:Ó):Ó->ì
 | 0=>Ï
 | j+1=>hO t (k+2+(j+1))
def UM (t:ÿ Ó):Ó->ì
 | 0=>Ï
 | k+1=>(decide (k+1<t.size)&&t.getD (k+1) 0==58)&&Qx t k (wc t (t.size - (k+2)) (k+2))
def bO (t:ÿ Ó):ì:=UM t (wc t t.size 0)
noncomputable def cH {D B:Type} (o:Æ D) (f:D->B) (x:B):B:=match o with|some a=>f a|none=>x
def o6 {B:Type} (o:Æ B) (f:B->Prop) (x:Prop):Prop:=match o with|some a=>f a|none=>x
noncomputable def ak (k:Ì):È (Ì×AV)->Æ AV
 | []=>U
 | (x,v)::r=>if x=k then C v else ak k r
def bu {k x:Ì} {v:AV} {r:ZF}:ak k ((x,v)::r)=if x=k then C v else ak k r:=rfl
def qR:AV->Æ ab | .none=>C ()|_=>U
def xA (a b:AV):Æ ì:=match a with
 | .int i=>(intV b).map λj=>decide (i=j)
 | .str x=>cH (strV b) (λy=>C (decide (x=y))) ((qR b).map λJ=>Ï)
 | .none=>cH (qR b) (λJ=>C Í) ((strV b).map λJ=>Ï)
 | _=>U
noncomputable def OE:È AV->È AV->Æ ì
 | [],ys=>if ys.isEmpty=Í then C Í else U
 | x::xs,ys=>ys.head?.bind λy=>(xA x y).bind λa=>(OE xs ys.tail).map λb=>a&&b
def Uv (Z:aa) (a b:AV):Æ ì:=cH (ux a) (λxs=>(ux b).bind λys=>OE xs ys) ((xA a b).orElse λJ=>(aw Z b).bind λys=>(aw Z a).bind λxs=>if ys.isEmpty=Í then C xs.isEmpty else U)
def Ed (Z:aa) (a b:AV):Æ ì:=(strV a).bind λx=>match b with
 | .str y=>C (σ y x)
 | b=>((aw Z b).bind λys=>(aJ ys).map (·.contains x)).orElse λJ=>((fN Z b).map λks=>ks.contains x).orElse λJ=>(aC Z b).map λkvs=>(kvs.map (·.1)).contains x
def Be:AV->ì
 | .str _=>Í
 | .tup _=>Í
 | .ws _=>Í
 | .bm _ _=>Í
 | _=>Ï
def UH (a b:AV):Æ ì:=(qR b).bind λJ=>cH (qR a) (λJ=>C Í) (if Be a=Í then C Ï else U)
def VH (f:Į->Į->ì) (a b:AV):Æ ì:=(intV a).bind λi=>(intV b).map λj=>f i j
def jR (Z:aa) (B:XR) (a b:AV):Æ ì:=match B with
 | .Eq=>Uv Z a b
 | .NotEq=>(Uv Z a b).map (!·)
 | .Gt=>VH (λi j=>decide (i > j)) a b
 | .In=>Ed Z a b
 | .NotIn=>(Ed Z a b).map (!·)
 | .Is=>UH a b
 | .IsNot=>(UH a b).map (!·)
 | _=>U
abbrev Qs:=Æ (AV×aa)
noncomputable def xv:abo->Æ AV
 | .none=>C .none
 | .bool b=>C (.bool b)
 | .int i=>C (.int i)
 | .str s=>if s.length<=Ö then C (.str s)else U
 | _=>U
noncomputable def nx (n:Ó) (i:Į):Æ Ó:=if i.natAbs<2 ^ 30 then XB i n else U
def aF (k:Ì) (v:AV) (kvs:ZF):È (Ì×AV):=
 if kvs.any (λB=>B.1=k)then kvs.map (λB=>if B.1=k then(B.1,v)else B)else kvs++[(k,v)]
def cN (n:Ó):Ì:=⟨#[n]⟩
def fw (Z:aa) (o i:AV):Æ AV:=match i with
 | .int i=>cH (ux o) (λxs=>(nx xs.length i).bind (xs[·]?)) ((aw Z o).bind λxs=>(nx xs.length i).bind (xs[·]?))
 | .str k=>(aC Z o).bind (ak k)
 | _=>U
noncomputable def yS (xs:ZB) (lo B:Æ Į):È AV:=(xs.take (B.elim xs.length (aaG xs.length))).drop (lo.elim 0 (aaG xs.length))
noncomputable def yE:AV->Æ (Æ Į)
 | .none=>C U
 | .int i=>C (C i)
 | _=>U
def P6 (Z:aa) (o:AV) (lo B:Æ Į):Æ AV:=match o with
 | .str s=>C (.str (Ļ s lo B))
 | o=>(aw Z o).map λxs=>.fl (yS xs lo B)
def d0 (Z:aa) (o lo B st:AV):Æ AV:=(yE lo).bind λlo=>(yE B).bind λB=>match st with
 | .none=>P6 Z o lo B
 | .int i=>if i = -1/\lo.isNone=Í/\B.isNone=Í then(aw Z o).map λxs=>.fl xs.reverse else U
 | _=>U
noncomputable def gD (Z:aa) (d:Ó):Æ (È (Æ AV)):=match Z[d]? with|some (.attrs fs)=>C fs|_=>U
noncomputable def ag (Z:aa) (l:Ó):Æ ZB:=match Z[l]? with|some (.list xs)=>C xs|_=>U
noncomputable def lI (Z:aa) (l:Ó):Æ ZC:=match Z[l]? with|some (.set ks)=>C ks|_=>U
section
variable (T:Rg)
def eD (Z:aa) (o:AV) (x:Ì):Æ AV:=match o with
 | .obj d=>(gD Z d).bind λfs=>cH fs[T.an.idxOf x]? id ((T.ms.lookup x).map λf=>.mt f (.obj d))
 | .loc l=>(ag Z l).bind λJ=>if x=("append" : Ì)then C (.bm .lAppend (.loc l))else U
 | .ws ks=>if x=("intersection" : Ì)then C (.bm .inter (.ws ks))else U
 | _=>U
def n6 (Z:aa) (o:AV) (x:Ì) (v:AV):Æ aa:=match o with
 | .obj d=>(gD Z d).bind λfs=>if T.an.idxOf x<fs.length then C (Z.set d (.attrs (fs.set (T.an.idxOf x) (C v))))else U
 | _=>U
inductive Callee where
 | val (f:AV)
 | fn (f:Ü) (self:AV)
 | bi (b:BI) (self:AV)
noncomputable def dj (i:Į):Ì:=Ć (toString i)
noncomputable def gR:È (Ì×BI):=[("append",.lAppend),("pop",.lPop),("sort",.lSort),("extend",.lExtend),("index",.lIndex)]
noncomputable def wy:È (Ì×BI):=[("join",.sJoin),("rsplit",.sRsplit),("split",.sSplit),("strip",.sStrip)]
noncomputable def jT:È (Ì×BI):=[("items",.dItems),("get",.dGet),("values",.dValues)]
def wk:È (Ì×BI):=[("add",.eAdd)]
def eW (Z:aa) (o:AV) (x:Ì):Æ Callee:=match o with
 | .obj d=>(gD Z d).bind λfs=>cH fs[T.an.idxOf x]? (ε .val) ((T.ms.lookup x).map λf=>.fn f (.obj d))
 | .str s=>(wy.lookup x).map (.bi · (.str s))
 | .fd ks xs=>(jT.lookup x).map (.bi · (.fd ks xs))
 | .loc l=>cH (ag Z l) (λJ=>(gR.lookup x).map (.bi · (.loc l))) (cH (lI Z l) (λJ=>(wk.lookup x).map (.bi · (.loc l))) ((dS Z l).bind λJ=>(jT.lookup x).map (.bi · (.loc l))))
 | _=>U
end
def aZ (k:Ì) (ks:ZC):È Ì:=if ks.contains k then ks else ks++[k]
def ah (ks:ZC):È Ì->È Ì:=foldl (λa k=>aZ k a) ks
def nX (a b:Į):È AV:=(İ (b - a).toNat).map λ(k:Ó)=>.int (a+(k:Į))
def n9 (s:Ì):È AV:=s.cps.toList.map λc=>.str (cN c)
def uj (Z:aa):AV->Æ (ì×È AV)
 | .fl xs=>C (Í,xs)
 | .fd ks _=>C (Í,ks.map .str)
 | .str s=>C (Í,n9 s)
 | .rng a b=>if a.natAbs<2 ^ 30/\b.natAbs<2 ^ 30 then C (Í,nX a b)else U
 | .loc l=>cH (ag Z l) (λxs=>C (Í,xs)) ((dS Z l).map λkvs=>(Ï,kvs.map λB=>.str B.1))
 | _=>U
noncomputable def HW (xs:ZB):Æ (È AV×AV):=match xs.getLast? with
 | some v=>C (xs.dropLast,v)
 | .none=>.none
def UI:AV->Æ AV | .iv d=>C d|_=>U
def VO:AV->Æ AV | .vv d=>C d|_=>U
noncomputable def one:È AV->Æ AV | [x]=>C x|_=>U
noncomputable def two:È AV->Æ (AV×AV) | [x,y]=>C (x,y)|_=>U
def NG (v:AV):Æ (Ì×Ì):=(ux v).bind λxs=>(two xs).bind λq=>(strV q.1).bind λa=>(strV q.2).map λb=>(a,b)
noncomputable def IJ:È AV->Æ (AV×AV×AV) | [x,y,z]=>C (x,y,z)|_=>U
noncomputable def SD:È AV->Æ (AV×AV) | [y]=>C (.int 0,y) | [x,y]=>C (x,y)|_=>U
def Ll (v:AV) (Z:aa):Æ Ó:=cH (strV v) (λs=>C s.length) ((aw Z v).elim ((aC Z v).map (·.length)) λxs=>C xs.length)
noncomputable def gt:È AV->Æ ZE
 | []=>C []
 | x::r=>(NG x).bind λp=>(gt r).map (p :: ·)
noncomputable def ae (p:Ì×Ì):AV:=.tup [.str p.1,.str p.2]
noncomputable def gq (a b:Ì×Ì):ì:=if a.1=b.1 then decide (a.2.cps.toList<=b.2.cps.toList)else decide (a.1.cps.toList<=b.1.cps.toList)
noncomputable def gw (xs:ZC):È Ì:=xs.mergeSort λa b=>decide (a.cps.toList<=b.cps.toList)
def aW (xs:ZE):È (Ì×Ì):=xs.mergeSort gq
def ku (kvs:ZF):Æ ZE:=(aJ (kvs.map (·.2))).map λvs=>(kvs.map (·.1)).zip vs
def Nx (v:AV) (Z:aa):Qs:=cH (UI v) (λd=>(aC Z d).bind λkvs=>(ku kvs).map λps=>(.fl (ps.map ae),Z)) (cH (VO v) (λd=>(aC Z d).map λkvs=>(.fl (kvs.map (·.2)),Z)) ((aC Z v).map λkvs=>(.fl (kvs.map λB=>.str B.1),Z)))
def l9 (v:AV) (Z:aa):Qs:=cH (UI v) (λd=>(aC Z d).bind λkvs=>(ku kvs).bind λps=>if ps.length<5 then C (.fl ((aW ps).map ae),Z)else U)
 (cH (aC Z v) (λkvs=>if kvs.length<64 then C (.fl ((gw (kvs.map (·.1))).map .str),Z)else U) (cH (Tm v) (λks=>if ks.length<64 then C (.fl ((gw ks).map .str),Z)else U) ((aw Z v).bind λxs=>(gt xs).bind λps=>if ps.length<5 then C (.fl ((aW ps).map ae),Z)else U)))
def dictOf (v:AV) (Z:aa):Æ ZF:=cH (aC Z v) (λkvs=>if kvs.length<=15 then C kvs else U) ((aw Z v).bind λxs=>(gt xs).bind λps=>if ps.length<=15 then C (ps.foldl (λa p=>aF p.1 (.str p.2) a) [])else U)
def fq (b:BI) (args:ZB) (Z:aa):Qs:=match b with
 | .lAppend=>(two args).bind λ(x,v)=>(lG x).bind λl=>(ag Z l).bind λxs=>if xs.length<Ö then C (.none,Z.set l (.list (xs++[v])))else U
 | .lPop=>(one args).bind λx=>(lG x).bind λl=>(ag Z l).bind λxs=>(HW xs).map λ(r,v)=>(v,Z.set l (.list r))
 | .lExtend=>(two args).bind λ(x,v)=>(lG x).bind λl=>(ag Z l).bind λxs=>(aw Z v).bind λys=>if xs.length+ys.length<=Ö then C (.none,Z.set l (.list (xs++ys)))else U
 | .lIndex=>(two args).bind λ(x,y)=>(strV y).bind λk=>(aw Z x).bind λxs=>(aJ xs).bind λts=>if ts.contains k then C (.int (ts.idxOf k),Z)else U
 | .lSort=>(one args).bind λx=>(lG x).bind λl=>(ag Z l).bind λxs=>(gt xs).bind λps=>if ps.length<7 then C (.none,Z.set l (.list ((aW ps).map ae)))else U
 | .sJoin=>(two args).bind λ(x,v)=>(strV x).bind λs=>(aw Z v).bind λxs=>(aJ xs).bind λts=>if(ts.map (·.length)).sum+ts.length * s.length<=Ö then C (.str (û s ts),Z)else U
 | .sSplit=>cH (two args) (λ(x,y)=>(strV x).bind λs=>(strV y).bind λc=>if c.length≠0/\(ğ s c).length<=Ö then C (.fl ((ğ s c).map .str),Z)else U)
  ((IJ args).bind λ(x,y,z)=>(strV x).bind λs=>(strV y).bind λc=>(intV z).bind λk=>if c.length≠0/\k=1/\(ĝ s c k).length<=Ö then C (.fl ((ĝ s c k).map .str),Z)else U)
 | .sRsplit=>(IJ args).bind λ(x,y,z)=>(strV x).bind λs=>(strV y).bind λc=>(intV z).bind λk=>if c.length≠0/\k.natAbs<2 ^ 30/\(Ĵ s c k).length<=Ö then C (.fl ((Ĵ s c k).map .str),Z)else U
 | .sStrip=>cH (one args) (λx=>(strV x).map λs=>(.str (be s),Z)) ((two args).bind λ(x,y)=>(strV x).bind λs=>(strV y).map λc=>(.str (lr s c),Z))
 | .dItems=>(one args).bind λd=>(aC Z d).map λJ=>(.iv d,Z)
 | .dValues=>(one args).bind λd=>(aC Z d).map λJ=>(.vv d,Z)
 | .dGet=>(two args).bind λ(x,y)=>(strV y).bind λk=>(aC Z x).map λkvs=>((ak k kvs).getD .none,Z)
 | .eAdd=>(two args).bind λ(x,y)=>(lG x).bind λl=>(strV y).bind λk=>(lI Z l).bind λks=>if ks.length+1<ű then C (.none,Z.set l (.set (aZ k ks)))else U
 | .inter=>U
 | .str=>(one args).bind λx=>(intV x).bind λi=>if i.natAbs<10 ^ 6 then C (.str (dj i),Z)else U
 | .dict=>(one args).bind λx=>(dictOf x Z).map λkvs=>(.fd (kvs.map (·.1)) (kvs.map (·.2)),Z)
 | .len=>(one args).bind λv=>(Ll v Z).map λ(n:Ó)=>(AV.int (n:Į),Z)
 | .sum=>(one args).bind λv=>(aw Z v).bind λxs=>(iK xs).map λB=>(.int B.sum,Z)
 | .range=>(SD args).bind λ(x,y)=>(intV x).bind λa=>(intV y).map λb=>(.rng a b,Z)
 | .list=>(one args).bind λv=>Nx v Z
 | .sorted=>(one args).bind λx=>l9 x Z
 | .set=>if args.isEmpty then C (.loc Z.length,Z++[.set []])else(one args).bind λv=>cH (Tm v) (λks=>if ks.length<=2 then C (v,Z)else U) <| (aw Z v).bind λxs=>(aJ xs).bind λts=>if ts.length<=100 then C (.ws (ah [] ts),Z)else U
 | .rev=>U
abbrev bc:=È (Ì×NameKind)
abbrev VK:=AV->aa->Prop
abbrev BK:=ì->aa->Prop
abbrev NK:=Vs->aa->Prop
abbrev RK:=AV->Vs->aa->Prop
abbrev XK:=Ì->Vs->aa->Prop
abbrev aj:=Ü->È AV->È (Ì×AV)->aa->VK->(Ì->aa->Prop)->Prop
structure Ev where
 e:bc->È Ì->ñ->Vs->aa->VK->XK->Prop
 t:bc->È Ì->ñ->Vs->aa->BK->XK->Prop
 a:bc->È Ì->ñ->AV->Vs->aa->NK->XK->Prop
 s:bc->È Ì->ϳ->Vs->aa->NK->RK->XK->Prop
def aO:ñ->ì
 | .Starred _ _=>Í
 | _=>Ï
noncomputable def u6:ñ->Æ (ñ×È ñ×È ς×ϗ) | .Call f a k p=>C (f,a,k,p)|_=>U
noncomputable def pA:ñ->Æ (ñ×Ì×ϗ) | .Attribute o x p=>C (o,x,p)|_=>U
def ic:ñ->Æ Ì | .Name x _=>C x|_=>U
def mE:ñ->Æ abo | .Constant c _ _=>C c|_=>U
noncomputable def S9:ñ->Æ (ñ×ñ) | .Subscript o i _=>C (o,i)|_=>U
noncomputable def Nv:Æ NameKind->ì
 | some .local=>Í
 | some .cell=>Í
 | some .free=>Í
 | _=>Ï
def Md:abo->Æ Ì | .str s=>C s|_=>U
def Wb:abo->Æ Į | .int i=>C i|_=>U
noncomputable def wt:ñ->Æ ñ | .Starred e _=>C e|_=>U
noncomputable def yG:ñ->Æ (Æ ñ×Æ ñ×Æ ñ) | .Slice lo hi st _=>C (lo,hi,st)|_=>U
noncomputable def fU {B:Type}:È B->Æ B | [x]=>C x|_=>U
noncomputable def VG:ς->Æ (Ì×Ű×ñ×Α×ϗ)|⟨C kw,.Lambda la lb sc p,_⟩=>C (kw,la,lb,sc,p)|_=>U
noncomputable def Ml:È ñ->Æ (ñ×ñ) | [a,b]=>C (a,b)|_=>U
def cF:ñ->ì
 | .Set _ _ _=>Ï
 | _=>Í
def bI (ks:bc) (x:Ì):ì:=ks.lookup x==C .local||ks.lookup x==C .cell
noncomputable def dK:ñ->ì
 | .Call (.Name id _) [] [] _=>id !=("super" : Ì)
 | _=>Í
noncomputable def tL:ñ->ì
 | .ListComp ..=>Í
 | .SetComp ..=>Í
 | .DictComp ..=>Í
 | _=>Ï
noncomputable def aY {B:Type} (src:aa->Prop) (f:AV->B->aa->(B->aa->Prop)->Prop):È AV->B->aa->(B->aa->Prop)->Prop
 | [],b,Z,K=>src Z/\K b Z
 | x::xs,b,Z,K=>src Z/\f x b Z λb Z=>aY src f xs b Z K
def lz {B:Type} (v:AV) (f:AV->B->aa->(B->aa->Prop)->Prop) (b:B) (Z:aa) (K:B->aa->Prop):Prop:=
 o6 (Tm v) (λks=>∀p:È Ì,p.Perm ks->aY (λJ=>True) f (p.map .str) b Z K) (ok (uj Z v) λp=>aY (λZ=>uj Z v=C p) f p.2 b Z K)
def fT (Z:aa) (v:AV):Æ (È (AV×È AV)):=(aw Z v).bind λls=>ls.reverse.mapM λl=>(aw Z l).map λxs=>(l,xs)
def wR {B:Type} (v:AV) (f:AV->B->aa->(B->aa->Prop)->Prop) (b:B) (Z:aa) (K:B->aa->Prop):Prop:=
 ok (fT Z v) λt=>aY (λZ=>fT Z v=C t) f (t.flatMap (·.2)) b Z K
section
variable (T:Rg) (acT:aj) (r:Ev)
noncomputable def ov (ks:bc) (ns:ZC):È ñ->Vs->aa->BK->XK->Prop
 | [],_,Z=>λK J=>K Í Z
 | c::cs,vs,Z=>λK X=>r.t ks ns c vs Z (λb Z=>oK b (ov ks ns cs vs Z K X) (K Ï Z)) X
def ik:XK:=λJ J J=>False
noncomputable def vb {D:Type} (ks:bc) (ns:ZC) (B:Vs->D->aa->(D->aa->Prop)->Prop):È Ĥ->ñ->È ñ->AV->Vs×D->aa->(Vs×D->aa->Prop)->Prop
 | [],target,ifs,src,b,Z=>λK=>lz src (λx (b:Vs×D) Z K=>r.a ks ns target x b.1 Z (λvs Z=>
  ov r ks ns ifs vs Z (λc Z=>oK c (B vs b.2 Z λacc Z=>K (vs,acc) Z) (K (vs,b.2) Z)) ik) ik) b Z K
 | g::gs,target,ifs,src,b,Z=>λK=>lz src (λx (b:Vs×D) Z K=>r.a ks ns target x b.1 Z (λvs Z=>
  ov r ks ns ifs vs Z (λc Z=>oK c (r.e ks ns g.iter vs Z (λv Z=>cX (cF g.iter) <| vb ks ns B gs g.target g.ifs v (vs,b.2) Z K) ik) (K (vs,b.2) Z)) ik) ik) b Z K
def bk (names:bc):È Ì:=(names.filter λ(_,k)=>k==.local).map (·.1)
def xt (ks:bc) (sc:Α):ì:=
 (sc.kind==.function)&&(sc.names.lookup ("resolved_names" : Ì)).isNone&&(sc.names.map (·.1)).Nodup&&sc.names.all λ(n,k)=>k==.local||k==.globalImplicit||(k==.free&&(ks.lookup n==C .cell||ks.lookup n==C .free))
def va {D:Type} (ks:bc) (ns:ZC) (G:D) (B:bc->È Ì->Vs->D->aa->(D->aa->Prop)->Prop) (gens:È Ĥ) (sc:Α) (vs:Vs) (Z:aa) (K:D->aa->Prop):Prop:=match gens with
 | []=>False
 | g::gs=>cX (cF g.iter&&xt ks sc&&(g::gs).all (λg=>g.is_async==0)) <| r.e ks ns g.iter vs Z (λv Z=>
  vb r sc.names (bk sc.names++ns) (B sc.names (bk sc.names++ns)) gs g.target g.ifs v ((bk sc.names).map (λJ=>U)++vs,G) Z λb Z=>K b.2 Z) ik
variable (ks:bc) (ns:ZC)
noncomputable def gc:È ñ->Vs->aa->(È AV->aa->Prop)->XK->Prop
 | [],_,Z=>λK J=>K [] Z
 | e::es,vs,Z=>λK X=>o6 (wt e) (λd=>r.e ks ns d vs Z (λv Z=>ok (ux v) λxs=>gc es vs Z (λys Z=>K (xs++ys) Z) X) X)
  (r.e ks ns e vs Z (λv Z=>gc es vs Z (λxs Z=>K (v::xs) Z) X) X)
noncomputable def jh:È ς->Vs->aa->(È (Ì×AV)->aa->Prop)->XK->Prop
 | [],_,Z=>λK J=>K [] Z
 | k::es,vs,Z=>λK X=>ok k.arg λn=>r.e ks ns k.value vs Z (λv Z=>jh es vs Z (λxs Z=>K ((n,v)::xs) Z) X) X
def Bc (args:ZB) (kws:ZF) (Z:aa) (K:VK):Prop:=
 acT T.ini (.obj Z.length::args) kws (Z++[.attrs (T.an.map λJ=>.none)]) (λv Z'=>ok (qR v) λJ=>K (.obj Z.length) Z') λJ J=>False
def RA (b:BI) (x:AV) (args:ZB) (Z:aa):Qs:=(one args).bind λy=>match b with
 | .lAppend=>fq .lAppend [x,y] Z
 | .sJoin=>fq .sJoin [x,y] Z
 | .inter=>(Tm x).bind λks=>(aC Z y).bind λkvs=>if kvs.length<=100 then C (.ws ((kvs.map (·.1)).filter ks.contains),Z)else U
 | _=>U
def rL (f:AV) (args:ZB) (kws:ZF) (Z:aa) (K:VK) (X:Ì->aa->Prop):Prop:=match f with
 | .fn a=>oK (a==T.acT) (Bc T acT args kws Z K) (acT a args kws Z K X)
 | .bf b=>cX kws.isEmpty (ok (fq b args Z) λp=>K p.1 p.2)
 | .bm b x=>cX kws.isEmpty (ok (RA b x args Z) λp=>K p.1 p.2)
 | .mt a x=>acT a (x::args) kws Z K X
 | .lk=>cX kws.isEmpty (ok ((one args).bind strV) λs=>K (if bO s.cps then .mo else .none) Z)
 | _=>False
def FF (f:Callee) (args:ZB) (kws:ZF) (Z:aa) (K:VK) (X:Ì->aa->Prop):Prop:=match f with
 | .val f=>rL T acT f args kws Z K X
 | .fn a x=>acT a (x::args) kws Z K X
 | .bi b x=>cX kws.isEmpty (ok (fq b (x::args) Z) λp=>K p.1 p.2)
noncomputable def Ji (B:BoolOp):È ñ->Vs->aa->BK->XK->Prop
 | [],_,Z=>λK J=>K (decide (B = .And)) Z
 | e::es,vs,Z=>λK X=>r.t ks ns e vs Z (λb Z=>match B with
  | .And=>oK b (Ji B es vs Z K X) (K Ï Z)
  | .Or=>oK b (K Í Z) (Ji B es vs Z K X)) X
def ON:AV->Æ Ì
 | .str s=>C s
 | .int i=>if i.natAbs<10 ^ 10 then C (dj i)else U
 | _=>U
noncomputable def jm:È ñ->Vs->Ì->aa->(Ì->aa->Prop)->XK->Prop
 | [],_,acc,Z=>λK J=>K acc Z
 | x::es,vs,acc,Z=>λK X=>match x with
  | .Constant c _ _=>ok (Md c) λs=>ok (oQ acc s) λa=>jm es vs a Z K X
  | .FormattedValue e cv sp _=>cX (cv==-1&&sp.isNone) (r.e ks ns e vs Z (λv Z=>ok (ON v) λs=>ok (oQ acc s) λa=>jm es vs a Z K X) X)
  | _=>False
noncomputable def kG (mu:ì) (Z:aa):AV×aa:=match mu with|true=>(.loc Z.length,Z++[.dict []])|false=>(.fd [] [],Z)
noncomputable def cg (mu:ì) (xs:ZB) (Z:aa):AV×aa:=match mu with|true=>(.loc Z.length,Z++[.list xs])|false=>(.fl xs,Z)
def cI (s:Ì):È Ó×Æ (È Ó):=
 (s.cps.toList.takeWhile (· !=125),if s.cps.toList.contains 125 then C ((s.cps.toList.dropWhile (· !=125)).drop 1)else U)
def qK (a b:Ì):ì:=
 let (x,u):=cI a
 let (y,v):=cI b
 if x=y then(match u,v with
  | none,_=>Í
  | some _,U=>Ï
  | some p,C q=>decide (p<=q))
 else decide (x<=y)
def au (xs:ZC):È Ì:=xs.mergeSort qK
noncomputable def bh (Z:aa):ì:=match Z[(0:Ó)]? with|some aK.code=>Í|_=>Ï
noncomputable def Rt (la:Ű):Æ Ì:=if la.posonlyargs.isEmpty&&la.vararg.isNone&&la.kwonlyargs.isEmpty&&la.kw_defaults.isEmpty&&la.kwarg.isNone&&la.defaults.isEmpty then(match la.args with
 | [a]=>if a.annotation.isNone then C a.arg else U
 | _=>U)else U
def Lg (n:Ì) (lb:ñ):ì:=(u6 lb).any λ(f,as,kws,D)=>kws.isEmpty&&((Ml as).any λ(a,b)=>mE a==C (.str "}")&&mE b==C (.int 1))&&
 (pA f).any λ(o,G,B)=>G==("split" : Ì)&&B.endLine==D.line&&ic o==C n
def qH (la:Ű) (lb:ñ) (sc:Α):ì:=(Rt la).any λn=>Lg n lb&&(sc.kind==.function&&!sc.isGenerator&&!sc.isCoroutine&&sc.names.lookup n==C .local&&(sc.names.lookup ("resolved_names" : Ì)).isNone&&
 sc.names.all (λp=>p.2==.local||p.2==.globalImplicit)&&!(n==("__debug__" : Ì))&&!(n==("__classdict__" : Ì))&&n==("n" : Ì))
def G7:Æ AV->ì|some (.bf b)=>b==.sorted|_=>Ï
def NA (x:Ì) (vs:Vs):Æ AV:=if x==("__debug__" : Ì)||x==("__classdict__" : Ì)then U else
 if Nv (ks.lookup x)then bD x ns vs else if ks.lookup x==C .globalImplicit then T.gl.lookup x else U
def Bn (vs:Vs) (o:Æ ñ) (Z:aa) (K:VK) (X:XK):Prop:=o6 o (λe=>r.e ks ns e vs Z K X) (K .none Z)
def Il (o:ñ) (lo B st:Æ ñ) (vs:Vs) (Z:aa) (K:VK) (X:XK):Prop:=
 r.e ks ns o vs Z (λx Z=>Bn r ks ns vs lo Z (λl Z=>Bn r ks ns vs B Z (λh Z=>Bn r ks ns vs st Z (λs Z=>ok (d0 Z x l h s) (K · Z)) X) X) X) X
def S8 (o i:ñ) (vs:Vs) (Z:aa) (K:VK) (X:XK):Prop:=o6 (yG i) (λp=>Il r ks ns o p.1 p.2.1 p.2.2 vs Z K X)
 (r.e ks ns o vs Z (λx Z=>r.e ks ns i vs Z (λy Z=>ok (fw Z x y) (K · Z)) X) X)
def JH (a:ñ) (ops:È XR) (D:È ñ) (vs:Vs) (Z:aa) (K:BK) (X:XK):Prop:=ok (fU ops) λB=>ok (fU D) λb=>cX (!behindInMarks B b)
 (r.e ks ns a vs Z (λx Z=>r.e ks ns b vs Z (λy Z=>ok (jR Z B x y) (K · Z)) X) X)
def NJ (o:ñ) (args:È ñ) (kws:È ς) (vs:Vs) (Z:aa) (K:VK) (X:XK):Prop:=cX kws.isEmpty
 (r.e ks ns o vs Z (λv Z=>ok (strV v) λs=>ok (Ml args) λ(a,b)=>ok ((mE a).bind Md) λp=>ok ((mE b).bind Md) λq=>
  cX (!(p==q)&&p.length.ble Ö&&q.length.ble Ö) (s.length+(s.length+1) * q.length<=Ö/\K (.str (ť s p q)) Z)) X)
def Nz (o:ñ) (x:Ì) (args:È ñ) (kws:È ς) (vs:Vs) (Z:aa) (K:VK) (X:XK):Prop:=
 r.e ks ns o vs Z (λv Z=>ok (if args.any aO then(eD T Z v x).map .val else eW T Z v x) λf=>gc r ks ns args vs Z (λxs Z=>jh r ks ns kws vs Z (λkvs Z=>FF T acT f xs kvs Z K λm Z=>X m vs Z) X) X) X
def Nk (f:ñ) (args:È ñ) (kws:È ς) (vs:Vs) (Z:aa) (K:VK) (X:XK):Prop:=
 r.e ks ns f vs Z (λv Z=>gc r ks ns args vs Z (λxs Z=>jh r ks ns kws vs Z (λkvs Z=>rL T acT v xs kvs Z K λm Z=>X m vs Z) X) X) X
def NP (f:ñ) (args:È ñ) (l:Ì×Ű×ñ×Α×ϗ) (vs:Vs) (Z:aa) (K:VK) (X:XK):Prop:=ok (ic f) λf=>ok (fU args) λe=>
 cX (G7 (T.gl.lookup f)&&!aO e&&ks.lookup f==C .globalImplicit&&l.1==("key" : Ì)&&qH l.2.1 l.2.2.1 l.2.2.2.1&&l.2.2.2.2==T.lam&&(ks.lookup ("resolved_names" : Ì)).isSome&&!(f==("__debug__" : Ì)))
  (r.e ks ns e vs Z (λx Z=>ok (fN Z x) λxs=>cX (bh Z) (xs.length<7/\K (.fl ((au xs).map .str)) Z)) X)
def dR (args:È ñ) (kws:È ς):ì:=kws.all (·.arg.isSome)&&(!args.any aO||(kws.isEmpty&&args.length==2))
def Rs (f:ñ) (args:È ñ) (kws:È ς) (B:ϗ) (vs:Vs) (Z:aa) (K:VK) (X:XK):Prop:=o6 (pA f)
 (λq=>cX (dK q.1&&q.2.2.endLine==B.line&&Nat.blt (args.length+kws.length) 28&&dR args kws) (oK (q.2.1==("replace" : Ì)) (NJ r ks ns q.1 args kws vs Z K X) (Nz T acT r ks ns q.1 q.2.1 args kws vs Z K X)))
 (o6 ((fU kws).bind VG) (λl=>NP T r ks ns f args l vs Z K X) (cX (dR args kws) (Nk T acT r ks ns f args kws vs Z K X)))
def xx (B:ñ) (ks:bc) (ns:ZC) (vs:Vs) (acc:ZB) (Z:aa) (K:È AV->aa->Prop):Prop:=
 r.e ks ns B vs Z (λv Z=>acc.length<Ö/\K (acc++[v]) Z) ik
def xw (k e:ñ) (ks:bc) (ns:ZC) (vs:Vs) (acc:ZF) (Z:aa) (K:È (Ì×AV)->aa->Prop):Prop:=
 r.e ks ns k vs Z (λx Z=>r.e ks ns e vs Z (λy Z=>ok (strV x) λs=>acc.length<Ö/\K (aF s y acc) Z) ik) ik
def SW (es:È ñ) (k:Ó) (vs:Vs) (Z:aa) (K:VK) (X:XK):Prop:=ok (Ml es) λ(e,d)=>cX (k==0&&!aO e) <| ok (wt d) λd=>
 r.e ks ns e vs Z (λx Z=>ok (strV x) λs=>r.e ks ns d vs Z (λy Z=>ok (aC Z y) λkvs=>kvs.length<=3/\K (.loc Z.length) (Z++[.set (ah [s] (kvs.map (·.1)))])) X) X
def Uw (B:ñ) (vs:Vs) (Z:aa) (K:VK) (X:XK):Prop:=match B with
 | .Constant c _ _=>ok (xv c) (K · Z)
 | .Name x _=>ok (NA T ks ns x vs) (K · Z)
 | .BinOp a op b _=>r.e ks ns a vs Z (λx Z=>r.e ks ns b vs Z (λy Z=>ok (jP Z op x y) (K · Z)) X) X
 | .UnaryOp op e _=>cX (op==.USub) (r.e ks ns e vs Z (λx Z=>ok (intV x) λi=>K (.int (-i)) Z) X)
 | .IfExp t a b _=>r.t ks ns t vs Z (λc Z=>oK c (r.e ks ns a vs Z K X) (r.e ks ns b vs Z K X)) X
 | .Compare a ops bs _=>JH r ks ns a ops bs vs Z (λb Z=>K (.bool b) Z) X
 | .List es p=>gc r ks ns es vs Z (λxs Z=>cX (xs.length.ble Ö) (K (cg (T.mu p) xs Z).1 (cg (T.mu p) xs Z).2)) X
 | .Tuple es _ _=>gc r ks ns es vs Z (λxs Z=>cX (xs.length.ble Ö) (K (.tup xs) Z)) X
 | .ListComp elt gens sc p=>va r ks ns [] (xx r elt) gens sc vs Z λxs Z=>K (cg (T.mu p) xs Z).1 (cg (T.mu p) xs Z).2
 | .DictComp k e gens sc p=>va r ks ns [] (xw r k e) gens sc vs Z λxs Z=>K (.fd (xs.map (·.1)) (xs.map (·.2))) Z
 | .Dict kk vv p=>oK (kk.isEmpty&&vv.isEmpty) (K (kG (T.mu p) Z).1 (kG (T.mu p) Z).2)
  (ok ((fU kk).bind id) λk=>ok (fU vv) λv=>r.e ks ns k vs Z (λx Z=>r.e ks ns v vs Z (λy Z=>ok (strV x) λs=>K (.fd [s] [y]) Z) X) X)
 | .Set es k _=>SW r ks ns es k vs Z K X
 | .Subscript o i _=>S8 r ks ns o i vs Z K X
 | .Attribute o x _=>cX (dK o) (r.e ks ns o vs Z (λv Z=>ok (eD T Z v x) (K · Z)) X)
 | .JoinedStr es _=>jm r ks ns es vs Ĕ Z (λs Z=>K (.str s) Z) X
 | .Call f args kws cp=>Rs T acT r ks ns f args kws cp vs Z K X
 | _=>False
def VA (B:ñ) (vs:Vs) (Z:aa) (K:BK) (X:XK):Prop:=match B with
 | .UnaryOp op e _=>cX (op==.Not) (r.t ks ns e vs Z (λb Z=>K (!b) Z) X)
 | .BoolOp op es _=>Ji r ks ns op es vs Z K X
 | .IfExp _ _ _ _=>False
 | .Compare a ops bs _=>JH r ks ns a ops bs vs Z K X
 | e=>r.e ks ns e vs Z (λx Z=>ok (bZ Z x) (K · Z)) X
noncomputable def rN:È ñ->È AV->Vs->aa->NK->XK->Prop
 | [],xs,vs,Z=>λN J=>cX xs.isEmpty (N vs Z)
 | t::ts,xs,vs,Z=>λN X=>ok xs.head? λx=>r.a ks ns t x vs Z (λvs Z=>rN ts xs.tail vs Z N X) X
def jH (Z:aa) (v:AV):Æ ZB:=cH (ux v) C (aw Z v)
def Vy (t:ñ) (v:AV) (vs:Vs) (Z:aa) (N:NK) (X:XK):Prop:=match t with
 | .Name x _=>cX (bI ks x) (N (fG x v vs ns) Z)
 | .Tuple ts _ _=>ok (jH Z v) λxs=>cX (!ts.any aO&&xs.length.beq ts.length) (rN r ks ns ts xs vs Z N X)
 | .Attribute o x _=>r.e ks ns o vs Z (λu Z=>ok (n6 T Z u x v) λZ=>N vs Z) X
 | .Subscript o i _=>r.e ks ns o vs Z (λu Z=>r.e ks ns i vs Z (λy Z=>ok (lG u) λl=>ok (strV y) λk=>ok (dS Z l) λkvs=>kvs.length<Ö/\N vs (Z.set l (.dict (aF k v kvs)))) X) X
 | _=>False
noncomputable def bA:È ϳ->Vs->aa->NK->RK->XK->Prop
 | [],vs,Z=>λN J J=>N vs Z
 | s::ss,vs,Z=>λN R X=>r.s ks ns s vs Z (λvs Z=>bA ss vs Z N R X) R X
noncomputable def im (v:AV):È ñ->Vs->aa->NK->XK->Prop
 | [],vs,Z=>λN J=>N vs Z
 | t::ts,vs,Z=>λN X=>r.a ks ns t v vs Z (λvs Z=>im v ts vs Z N X) X
noncomputable def oZ (ks:bc):ϙ:=⟨⟨.function,ks,Ï,Ï,[]⟩,0,0,[],Ĕ,U,.none,U,0⟩
def BJ (ks:bc) (B:È ñ) (D:ñ):Æ (Æ ZC):=pureOf (RJ B D (oZ ks))
def yV (ks:bc) (ts:È ñ) (e:ñ) (B:Ó):ì:=(pureOf (R_ ts e B (oZ ks))).any λb=>!b||(tL e&&(BJ ks ts e).any Yr)
noncomputable def putAll:È Ì->È AV->Vs->Æ Vs
 | [],us,vs=>if us.isEmpty=Í then C vs else U
 | x::xs,us,vs=>us.head?.bind λv=>if bI ks x then putAll xs us.tail (fG x v vs ns)else U
def rM (ts:È ñ) (B:ñ) (v:AV) (vs:Vs) (Z:aa) (N:NK) (X:XK):Prop:=ok (BJ ks ts B) λo=>
 o6 o (λnames=>ok (jH Z v) λxs=>cX (xs.length.beq names.length) <| ok (putAll ks ns names.reverse xs.reverse vs) λvs=>N vs Z) (im r ks ns v ts vs Z N X)
def Ow (ts:È ñ):Æ ñ:=(fU ts).bind λt=>(S9 t).bind λq=>(yG q.2).bind λz=>if z.1.isNone=Í/\z.2.1.isNone=Í/\z.2.2.isNone=Í then C q.1 else U
def yI (o c:Æ ñ):Æ ñ:=if c.isNone then o.bind λe=>(u6 e).bind λq=>if ic q.1==C ("ValueError" : Ì)&&q.2.2.1.isEmpty then(fU q.2.1).bind λa=>if aO a then U else C a else U else U
def OP (e:ñ):Æ (ñ×ñ):=(u6 e).bind λq=>(pA q.1).bind λa=>if a.2.1==("_iter_namespaces" : Ì)&&q.2.2.1.isEmpty&&dK a.1&&a.2.2.endLine==q.2.2.2.line then(fU q.2.1).bind λx=>if aO x then U else C (a.1,x)else U
def wx (e:Ì) (x:ñ):ì:=(u6 x).any λq=>ic q.1==C ("str" : Ì)&&q.2.2.1.isEmpty&&((fU q.2.1).bind ic)==C e
noncomputable def hP:ph->Æ ñ×Æ Ì×È ϳ×ϗ | .ExceptHandler t n b p=>(t,n,b,p)
noncomputable def Rw:ϳ->Æ (È ñ×ñ) | .Assign ts e _=>C (ts,e)|_=>U
def nw (h:ph):Æ (Ì×Ì):=(hP h).1.bind λt=>(hP h).2.1.bind λe=>(fU (hP h).2.2.1).bind λs=>(Rw s).bind λq=>(fU q.1).bind λn=>(ic n).bind λw=>
 if ic t==C ("ValueError" : Ì)&&wx e q.2 then C (e,w)else U
def Tf (B:È ph) (N:NK):XK:=λm vs Z=>ok ((fU B).bind nw) λ(e,w)=>cX (ks.lookup ("ValueError" : Ì)==C .globalImplicit&&ks.lookup e==C .local&&ks.lookup w==C .local&&ks.lookup ("str" : Ì)==C .globalImplicit&&e !=w&&!(e==("__debug__" : Ì))) <| N (fG w (.str m) (vs.set (ns.idxOf e) U) ns) Z
def Vz (D:ì) (st:ϳ) (vs:Vs) (Z:aa) (N:NK) (R:RK) (X:XK):Prop:=match st with
 | .Expr e _=>cX (!tL e) (r.e ks ns e vs Z (λJ Z=>N vs Z) X)
 | .Return o _=>o6 o (λe=>r.e ks ns e vs Z (λv Z=>R v vs Z) X) (R .none vs Z)
 | .Assign ts e p=>cX (!ts.any aO&&yV ks ts e p.line) (r.e ks ns e vs Z (λv Z=>rM r ks ns ts e v vs Z N X) X)
 | .AugAssign t op e _=>cX (op==.Add) <| ok (ic t) λx=>cX (bI ks x&&!(x==("__classdict__" : Ì))) <| ok ((bD x ns vs).bind strV) λB=>r.e ks ns e vs Z (λv Z=>ok (strV v) λy=>ok (oQ B y) λs=>N (fG x (.str s) vs ns) Z) X
 | .If t a b _=>r.t ks ns t vs Z (λc Z=>oK c (bA r ks ns a vs Z N R X) (bA r ks ns b vs Z N R X)) X
 | .For t it body orelse _=>cX (orelse.isEmpty&&cF it) <| o6 (OP it)
  (λq=>r.e ks ns q.1 vs Z (λo Z=>eW T Z o ("_iter_namespaces" : Ì)=C (.fn T.it o)/\r.e ks ns q.2 vs Z (λv Z=>wR v (λx vs Z N=>r.a ks ns t x vs Z (λvs Z=>bA r ks ns body vs Z N R X) X) vs Z N) X) X)
  (r.e ks ns it vs Z (λv Z=>lz v (λx vs Z N=>r.a ks ns t x vs Z (λvs Z=>bA r ks ns body vs Z N R X) X) vs Z N) X)
 | .Try body hs orelse fin _=>cX (!hs.isEmpty&&orelse.isEmpty&&fin.isEmpty) <| bA r ks ns body vs Z N R (match D with|true=>Tf ks ns hs N|false=>ik)
 | .Raise o c _=>cX (ks.lookup ("ValueError" : Ì)==C .globalImplicit) <| ok (yI o c) λa=>r.e ks ns a vs Z (λv Z=>ok (strV v) λm=>X m vs Z) X
 | .Delete ts _=>ok (Ow ts) λo=>r.e ks ns o vs Z (λv Z=>ok (lG v) λl=>ok (ag Z l) λJ=>N vs (Z.set l (.list []))) X
 | _=>False
noncomputable def OJ (B:ì):Ev:=⟨Uw T acT r,VA r,Vy T r,λks ns=>Vz T r ks ns B⟩
end
noncomputable def F9 (T:Rg) (acT:aj) (B:ì):Ó->Ev
 | 0=>⟨λJ J J J J J J=>False,λJ J J J J J J=>False,λJ J J J J J J J=>False,λJ J J J J J J J=>False⟩
 | n+1=>OJ T acT (F9 T acT B n) B
noncomputable def rS:È Ì->È AV->Æ ZF
 | [],[]=>C []
 | p::ps,x::xs=>(rS ps xs).map ((p,x) :: ·)
 | _,_=>U
def ar (sc:Α):È Ì:=(sc.names.filter λ(_,k)=>k==.local||k==.cell).map (·.1)
def bindB (f:Fn) (args:ZB) (kws:ZF):Æ ZF:=
 if f.kws.contains (kws.map (·.1))=Í then(rS f.pars (args++f.dfl.drop (args.length+f.dfl.length - f.pars.length))).map λps=>ps++f.kwd.map λB=>(B.1,(ak B.1 kws).getD B.2)else U
noncomputable def hW (T:Rg):Ó->aj
 | 0=>λJ J J J J J=>False
 | n+1=>λa args kws Z K X=>ok (T.fn.lookup a) λf=>ok (bindB f args kws) λB=>
  bA (F9 T (hW T n) Ï 40) f.scope.names (ar f.scope) f.body (B.foldl (λvs (x,v)=>fG x v vs (ar f.scope)) ((ar f.scope).map λJ=>.none)) Z (λJ Z=>K .none Z) (λv J Z=>K v Z) λm J Z=>X m Z
def SS:ZN aca=Í:=by kernel_rfl
noncomputable abbrev yL:OpenRow:=PySem.Challenge.rw_dr0133_01.row
noncomputable def body:È ϳ:=PySem.Challenge.pw_dr0133_01.main.body
def JF (n:Ì) (l:È ϳ):È ϳ:=l.flatMap λs=>match s with
 | .ClassDef m _ _ b _ _ _ _ _ _ _=>if m=n then b else[]
 | _=>[]
def cb:È ϳ:=JF "C14NWriterTarget" body
def Uk (x:Λ×Ó×Ó×Ó×Ó):È (Ó×ϑ):=
 let (n,c,t,u,d):=x
 (if c<160 then cb else body).flatMap λs=>match s with
 | .FunctionDef m a b _ _ _ sc _ _ p=>if m=Ć n then
  let q:Ì:=Ć (if c<160 then "C14NWriterTarget."++n else n)
  let z:=3<u - t
  let f:Ì:="/claim/cut.py"
  let r (k:Ó):Ê:=.ref (c - k)
  let i (k:Ó):Ê:=.int k 0
  [(c,{ cls:=.type "code",data:=.fields #[.str m t,.str q (t+1),.str f (t+2),i p.line,i a.args.length,i 0,i a.kwonlyargs.length,i (if c=74 then 35 else 3),r (if z then 5 else 3),.bool Í,i 276,r (if z then 4 else 2),.none,if z then r 3 else .none,if z then r 2 else .none,r 1,i u,i p.line,.str f (u+1)],dict:=U,slots:=#[] }),
   (c+1,{ cls:=.type "function",data:=.func { name:=m,qualname:=q,params:=a,body:=.stmts b,scope:=sc,globals:=3,closure:=[],defaults:=if d=0 then .none else .ref d,kwdefaults:=if c=66 then .ref 60 else .none,pyModule:=if 170<c then .str "law_dr0133_01" 539 else .str "cpy313.xml.etree.ElementTree" 289,code:=.ref c },dict:=U,slots:=#[] })]
  else[]
 | _=>[]
noncomputable def wJ (a:Ó) (vs:ÿ Ê):Ó×ϑ:=(a,{ cls:=.type "tuple",data:=.seq vs 0,dict:=U,slots:=#[] })
def JP (P:Params) (a:Ó) (l:È (Λ×Ó×Ê)) (k:Ó):Ó×ϑ:=(a,{ cls:=.type "dict",data:=.dict (l.map λx=>⟨aaV P (Ć x.1),.str (Ć x.1) x.2.1,x.2.2⟩).toArray k,dict:=U,slots:=#[] })
noncomputable def OM (a:Ó) (c:Λ) (vs:ÿ Ê):Ó×ϑ:=(a,{ cls:=.type c,data:=.fields vs,dict:=U,slots:=#[] })
def R5 (P:Params):aaD:=
 [JP P 3 [("__name__",165,.str "law_dr0133_01" 539),("__doc__",166,.none),("__package__",167,.none),("__loader__",168,.builtin "__main__.__loader__#opaque"),("__spec__",169,.none),("__annotations__",170,.ref 6),("__builtins__",171,.ref 4),
  ("__file__",173,.str "/claim/cut.py" 172),("__cached__",174,.none),("_sre",275,.ref 12),("_wall",288,.ref 38),("_twin_re_2",328,.ref 43),("_namespace_map",350,.ref 44),("_raise_serialization_error",357,.ref 51),("_looks_like_prefix_name",359,.ref 52),
  ("C14NWriterTarget",524,.ref 150),("_escape_cdata_c14n",531,.ref 161),("_escape_attrib_c14n",538,.ref 168),("_law_halves",546,.ref 173),("_law_uri",553,.ref 180),("law",559,.ref 185)] 21,
  wJ 42 ([14,4,0,3,4294967295,6,0,24,9,1,4294967295,13,4,8,14,0,1,16,58,24,9,1,4294967295,13,4,8,14,0,1,6,5,1].map λn=>aaC n 0).toArray,
  OM 43 "re.Pattern" #[.str "^\\w+:\\w+$" 292,.int 32 327,.int 0 0,.none,.none,.ref 42,.int 0 0],
  JP P 44 [("http://www.w3.org/XML/1998/namespace",329,.str "xml" 330),("http://www.w3.org/1999/xhtml",331,.str "html" 332),("http://www.w3.org/1999/02/22-rdf-syntax-ns#",333,.str "rdf" 334),("http://schemas.xmlsoap.org/wsdl/",335,.str "wsdl" 336),("http://www.w3.org/2001/XMLSchema",337,.str "xs" 338),("http://www.w3.org/2001/XMLSchema-instance",339,.str "xsi" 340),("http://purl.org/dc/elements/1.1/",341,.str "dc" 342)] 7,
  OM 52 "builtin_function_or_method" #[.builtin "re.Pattern.match",.ref 43],
  JP P 60 [("with_comments",372,.bool Ï),("strip_text",373,.bool Ï),("rewrite_prefixes",374,.bool Ï),("qname_aware_tags",375,.none),("qname_aware_attrs",376,.none),("exclude_attrs",377,.none),("exclude_tags",378,.none)] 7,
  wJ 68 #[.type "reversed"],wJ 83 #[.none],OM 98 "builtin_function_or_method" #[.builtin "str.join",.str "" 437],wJ 99 #[.ref 98],wJ 121 #[.none],
  JP P 149 [("__module__",367,.str "cpy313.xml.etree.ElementTree" 289),("__firstlineno__",371,.int 11 370),("__init__",393,.ref 67),("_iter_namespaces",403,.ref 75),("_resolve_prefix_name",415,.ref 82),("_qname",428,.ref 90),("data",436,.ref 97),("_flush",449,.ref 106),("start_ns",458,.ref 113),("start",468,.ref 120),
   ("_start",474,.ref 126),("end",482,.ref 133),("comment",490,.ref 140),("pi",499,.ref 147),("__static_attributes__",517,.ref 148),("__dict__",519,.ref 151),("__weakref__",521,.ref 152),("__doc__",522,.none)] 4,
  (150,{ cls:=.type "type",data:=.cls { name:="C14NWriterTarget",bases:=[.type "object"],mro:=[.ref 150,.type "object"],ns:=149,qualname:="C14NWriterTarget" },dict:=U,slots:=#[U,U,C (.str "C14NWriterTarget" 360),C (.str "C14NWriterTarget" 368),C (.builtin "object.__new__"),C (.bool Í)] })]
 ++[("__init__",66,379,391,0),("_iter_namespaces",74,394,401,68),("_resolve_prefix_name",81,404,413,0),("_qname",89,416,426,83),("data",96,429,434,0),("_flush",105,439,447,99),("start_ns",112,450,456,0),("start",119,459,466,0),("_start",125,469,472,121),("end",132,475,480,0),("pi",146,491,497,0),
  ("_escape_cdata_c14n",160,525,529,0),("_escape_attrib_c14n",167,532,536,0),("_law_halves",172,541,544,0),("_law_uri",179,547,551,0),("law",184,554,557,0)].flatMap Uk
def QD:Xx:=view yL.prog [0,1,3,4,5,6,7,8,9,11,12,13]
def R4:Hook:=kmHook R5 [3,42,43,44,52,60,68,83,98,99,121,149,150,66,67,74,75,81,82,89,90,96,97,105,106,112,113,119,120,125,126,132,133,146,147,160,161,167,168,172,173,179,180,184,185] (λJ=>by kernel_rfl) [123]
def lsN:È Ì:=["_twin_re_2","_namespace_map","_looks_like_prefix_name","C14NWriterTarget"]
def VX:DefRec:=match defOf QD "law" with
 | some (d,_)=>d
 | none=>⟨"law",default,[],default,default⟩
def V5:LeftO yL.prog QD lsN (λs=>xlAt QD [] s&&recOk yL.records s) R4.obs R4.val 2322:=LeftO.of_split "special-get-raises" λw=>by kernel_rfl
def V6:(chainsOk QD&&opensWell yL.prog&&(frees yL.toRowW&&yL.within.isEmpty))=Í:=by kernel_rfl
def V7:yL.prog.tablesWhole=Í:=by kernel_rfl
def ws {l:OpenLaw} (h:l.wellSaid=Í):l.row.wellSaid=Í:=by
 revert h;delta ZN;cases l.row.wellSaid<;>simp only[Yq,imp_self,implies_true]
def V8:yL.wellSaid=Í:=ws SS
def V9:(aaE [.list []]&&yL.returnsAt [.list []])=Í:=by kernel_rfl
def V4 (h:WalkO QD lsN (XL QD []) R4.says yL.toRowW VX [] λf vs=>PySem.call f vs):yL.Holds:=
 holds_open V5 R4.of R4.keeps (λs e=>xl_of s (è.mp e).1) XL.keeps (by kernel_rfl) (by kernel_rfl) (by kernel_rfl) (λs e=>recFacts_of (è.mp e).2) (by kernel_rfl)
  V8 V6 ⟨rfl,rfl,rfl,rfl,rfl,V7⟩ ⟨[.list []],by kernel_rfl,V9⟩ h
noncomputable def r8 (n:Ì):È ϳ->Æ (Ű×È ϳ×Α)
 | []=>U
 | .FunctionDef m a b _ _ _ sc _ _ _::r=>if m=n then C (a,b,sc)else r8 n r
 | _::r=>r8 n r
def Sf (d:Æ (Ű×È ϳ×Α)) (qual:Ì) (B:ZB) (D:ZF) (kws:È ZC):Fn:=match d with
 | some (a,b,sc)=>⟨qual,a.args.map (·.arg),b,sc,B,D,kws⟩
 | none=>⟨qual,[],[],default,[],[],[]⟩
def nP (n:Λ) (B:ZB) (D:ZF) (kws:È ZC:=[[]]):Fn:=Sf (r8 (Ć n) cb) (Ć ("C14NWriterTarget."++n)) B D kws
def Tc (n:Λ):Fn:=Sf (r8 (Ć n) body) (Ć n) [] [] [[]]
noncomputable def Sj:AV:=.fd ["http://www.w3.org/XML/1998/namespace","http://www.w3.org/1999/xhtml","http://www.w3.org/1999/02/22-rdf-syntax-ns#","http://schemas.xmlsoap.org/wsdl/","http://www.w3.org/2001/XMLSchema","http://www.w3.org/2001/XMLSchema-instance","http://purl.org/dc/elements/1.1/"] [.str "xml",.str "html",.str "rdf",.str "wsdl",.str "xs",.str "xsi",.str "dc"]
def T:Rg where
 gl:=[("C14NWriterTarget",.fn 150),("_law_halves",.fn 173),("_law_uri",.fn 180),("_escape_cdata_c14n",.fn 161),("_escape_attrib_c14n",.fn 168),("_looks_like_prefix_name",.lk),("sum",.bf .sum),("len",.bf .len),("list",.bf .list),("range",.bf .range),("set",.bf .set),("sorted",.bf .sorted),("str",.bf .str),("dict",.bf .dict),("_namespace_map",Sj)]
 fn:=[(161,Tc "_escape_cdata_c14n"),(168,Tc "_escape_attrib_c14n"),(173,Tc "_law_halves"),(180,Tc "_law_uri"),(185,Tc "law"),
  (67,nP "__init__" [] [("with_comments",.bool Ï),("strip_text",.bool Ï),("rewrite_prefixes",.bool Ï),("qname_aware_tags",.none),("qname_aware_attrs",.none),("exclude_attrs",.none),("exclude_tags",.none)] [["strip_text","rewrite_prefixes","qname_aware_tags","qname_aware_attrs"]]),
  (82,nP "_resolve_prefix_name" [] []),(90,nP "_qname" [.none] []),(97,nP "data" [] []),(106,nP "_flush" [.bm .sJoin (.str "")] []),(113,nP "start_ns" [] []),(120,nP "start" [] []),(126,nP "_start" [.none] []),(133,nP "end" [] []),(147,nP "pi" [] [])]
 acT:=150
 ini:=67
 it:=75
 an:=["_write","_data","_with_comments","_strip_text","_exclude_attrs","_exclude_tags","_rewrite_prefixes","_qname_aware_tags","_find_qname_aware_attrs","_declared_ns_stack","_ns_stack","_prefix_map","_preserve_space","_pending_start","_root_seen","_root_done","_ignored_depth"]
 ms:=[("_iter_namespaces",75),("_resolve_prefix_name",82),("_qname",90),("data",97),("_flush",106),("start_ns",113),("start",120),("_start",126),("end",133),("pi",147)]
 mu:=λp=>[(15,21),(29,34),(30,25),(33,30),(34,27),(35,31),(111,25),(122,25),(141,24),(144,24),(234,19),(234,39),(234,45),(239,20),(242,52),(242,108),(244,49),(246,41),(249,46),(250,35),(251,18),(267,29),(267,33)].contains (p.line,p.col)
 lam:=⟨139,71,139,96⟩
 lk:=52
 lc:=125
 lP:=123
 lq:=Ć "C14NWriterTarget._start"++".<locals>."
def E3:Fn:=nP "_iter_namespaces" [.bf .rev] [] [[]]
def fnOf (a:Ü):Fn:=(T.fn.lookup a).getD ⟨default,[],[],default,[],[],[]⟩
abbrev Pe:=aj->Vs->aa->VK->XK->Prop
abbrev Pt:=aj->Vs->aa->BK->XK->Prop
abbrev Pl:=aj->Vs->aa->(È AV->aa->Prop)->XK->Prop
abbrev Pk:=aj->Vs->aa->(È (Ì×AV)->aa->Prop)->XK->Prop
abbrev Pj:=aj->Vs->Ì->aa->(Ì->aa->Prop)->XK->Prop
abbrev Pa:=aj->AV->Vs->aa->NK->XK->Prop
abbrev Tw:=aj->È AV->Vs->aa->NK->XK->Prop
abbrev Ps:=aj->Vs->aa->NK->RK->XK->Prop
abbrev Pc (β:Type):=aj->AV->Vs×β->aa->(Vs×β->aa->Prop)->Prop
abbrev Pm (β:Type):=aj->Vs->β->aa->(β->aa->Prop)->Prop
@[irreducible] def biZ:BI->È AV->aa->Qs:=fq
@[irreducible] def bmZ:BI->AV->È AV->aa->Qs:=RA
@[irreducible] def getZ:aa->AV->AV->Æ AV:=fw
@[irreducible] def catZ:Ì->Ì->Æ Ì:=oQ
@[irreducible] def binZ:aa->WD->AV->AV->Æ AV:=jP
@[irreducible] def sliceZ:aa->AV->AV->AV->AV->Æ AV:=d0
@[irreducible] def inZ:aa->XR->AV->AV->Æ ì:=jR
@[irreducible] def Xg {β:Type}:AV->(AV->β->aa->(β->aa->Prop)->Prop)->β->aa->(β->aa->Prop)->Prop:=lz
@[irreducible] def walkGZ {β:Type}:AV->(AV->β->aa->(β->aa->Prop)->Prop)->β->aa->(β->aa->Prop)->Prop:=wR
def xp (Z:aa) (kws:ZF) (args:ZB) (f:AV) (acT:aj) (K:VK) (X:Ì->aa->Prop):Prop:=match f with
 | .bf b=>cX kws.isEmpty (ok (biZ b args Z) λp=>K p.1 p.2)
 | .bm b x=>cX kws.isEmpty (ok (bmZ b x args Z) λp=>K p.1 p.2)
 | f=>rL T acT f args kws Z K X
def Ng (args:ZB) (kws:ZF) (Z:aa) (f:Callee) (acT:aj) (K:VK) (X:Ì->aa->Prop):Prop:=match f with
 | .val f=>xp Z kws args f acT K X
 | .bi b x=>cX kws.isEmpty (ok (biZ b (x::args) Z) λp=>K p.1 p.2)
 | .fn a x=>acT a (x::args) kws Z K X
noncomputable def TF (vs:Vs) (k:Ó):Æ AV:=match vs[k]? with|some (C v)=>C v|_=>U
noncomputable def Ss:È Ó->È AV->Vs->Æ Vs
 | [],us,vs=>if us.isEmpty=Í then C vs else U
 | x::xs,us,vs=>us.head?.bind λv=>Ss xs us.tail (vs.set x (C v))
noncomputable def pre:Ó->Vs->Vs
 | 0,vs=>vs
 | n+1,vs=>U::pre n vs
abbrev eL (a:AV):Pe:=λJ J Z K J=>K a Z
abbrev eN (k:Ó):Pe:=λJ vs Z K J=>ok (TF vs k) (K · Z)
abbrev eB (p:WD) (E:Pe) (F:Pe):Pe:=λacT vs Z K X=>E acT vs Z (λx Z=>F acT vs Z (λy Z=>ok (binZ Z p x y) (K · Z)) X) X
abbrev mG (p:WD) (E:Pe) (F:Pe):Pe:=λacT vs Z K X=>E acT vs Z (λx Z=>F acT vs Z (λy Z=>ok (jP Z p x y) (K · Z)) X) X
abbrev eI (P:Pt) (E:Pe) (F:Pe):Pe:=λacT vs Z K X=>P acT vs Z (λc Z=>oK c (E acT vs Z K X) (F acT vs Z K X)) X
abbrev eC (o:XR) (E:Pe) (F:Pe):Pe:=λacT vs Z K X=>E acT vs Z (λx Z=>F acT vs Z (λy Z=>ok (jR Z o x y) λb=>K (.bool b) Z) X) X
abbrev eZ (o:XR) (E:Pe) (F:Pe):Pe:=λacT vs Z K X=>E acT vs Z (λx Z=>F acT vs Z (λy Z=>ok (inZ Z o x y) λb=>K (.bool b) Z) X) X
abbrev eK (b:ì) (L:Pl):Pe:=λacT vs Z K X=>L acT vs Z (λxs Z=>cX (xs.length.ble Ö) (K (cg b xs Z).1 (cg b xs Z).2)) X
abbrev eT (L:Pl):Pe:=λacT vs Z K X=>L acT vs Z (λxs Z=>cX (xs.length.ble Ö) (K (.tup xs) Z)) X
abbrev vg (E:Pe):Pm ZB:=λacT vs acc Z K=>E acT vs Z (λv Z=>acc.length<Ö/\K (acc++[v]) Z) ik
abbrev Qt (E:Pe) (F:Pe):Pm ZF:=λacT vs acc Z K=>E acT vs Z (λx Z=>F acT vs Z (λy Z=>ok (strV x) λs=>acc.length<Ö/\K (aF s y acc) Z) ik) ik
abbrev cm {β:Type} (A:Pa) (P:Pt) (M:Pm β):Pc β:=λacT x b Z K=>A acT x b.1 Z (λvs Z=>P acT vs Z (λc Z=>oK c (M acT vs b.2 Z λacc Z=>K (vs,acc) Z) (K (vs,b.2) Z)) ik) ik
abbrev cn {β:Type} (A:Pa) (P:Pt) (E:Pe) (Cl:Pc β):Pc β:=λacT x b Z K=>A acT x b.1 Z (λvs Z=>P acT vs Z (λc Z=>oK c (E acT vs Z (λv Z=>Xg v (Cl acT) (vs,b.2) Z K) ik) (K (vs,b.2) Z)) ik) ik
abbrev Ct (b:ì) (k:Ó) (E:Pe) (Cs:Pc ZB):Pe:=λacT vs Z K J=>E acT vs Z (λv Z=>Xg v (Cs acT) (pre k vs,[]) Z λr Z=>K (cg b r.2 Z).1 (cg b r.2 Z).2) ik
abbrev RL (k:Ó) (E:Pe) (Cd:Pc ZF):Pe:=λacT vs Z K J=>E acT vs Z (λv Z=>Xg v (Cd acT) (pre k vs,[]) Z λr Z=>K (.fd (r.2.map (·.1)) (r.2.map (·.2))) Z) ik
abbrev Nr (b:ì):Pe:=λJ J Z K J=>K (kG b Z).1 (kG b Z).2
abbrev VT (E:Pe) (F:Pe):Pe:=λacT vs Z K X=>E acT vs Z (λx Z=>F acT vs Z (λy Z=>ok (strV x) λs=>K (.fd [s] [y]) Z) X) X
abbrev Uo (E:Pe) (F:Pe):Pe:=λacT vs Z K X=>E acT vs Z (λx Z=>ok (strV x) λs=>F acT vs Z (λy Z=>ok (aC Z y) λkvs=>kvs.length<=3/\K (.loc Z.length) (Z++[.set (ah [s] (kvs.map (·.1)))])) X) X
abbrev eS (E:Pe) (F:Pe):Pe:=λacT vs Z K X=>E acT vs Z (λx Z=>F acT vs Z (λy Z=>ok (getZ Z x y) (K · Z)) X) X
abbrev IY (E:Pe) (F:Pe) (G:Pe) (H:Pe):Pe:=λacT vs Z K X=>E acT vs Z (λx Z=>F acT vs Z (λl Z=>G acT vs Z (λh Z=>H acT vs Z (λs Z=>ok (d0 Z x l h s) (K · Z)) X) X) X) X
abbrev TA (E:Pe) (F:Pe) (G:Pe) (H:Pe):Pe:=λacT vs Z K X=>E acT vs Z (λx Z=>F acT vs Z (λl Z=>G acT vs Z (λh Z=>H acT vs Z (λs Z=>ok (sliceZ Z x l h s) (K · Z)) X) X) X) X
abbrev eA (n:Ì) (E:Pe):Pe:=λacT vs Z K X=>E acT vs Z (λv Z=>ok (eD T Z v n) (K · Z)) X
abbrev j0:Pj:=λJ J acc Z K J=>K acc Z
abbrev jc (n:Ì) (Jj:Pj):Pj:=λacT vs acc Z K X=>ok (catZ acc n) λa=>Jj acT vs a Z K X
abbrev jv (E:Pe) (Jj:Pj):Pj:=λacT vs acc Z K X=>E acT vs Z (λv Z=>ok (ON v) λs=>ok (catZ acc s) λa=>Jj acT vs a Z K X) X
abbrev eJ (Jj:Pj):Pe:=λacT vs Z K X=>Jj acT vs Ĕ Z (λs Z=>K (.str s) Z) X
abbrev l0:Pl:=λJ J Z K J=>K [] Z
abbrev lc (E:Pe) (L:Pl):Pl:=λacT vs Z K X=>E acT vs Z (λv Z=>L acT vs Z (λxs Z=>K (v::xs) Z) X) X
abbrev ls (E:Pe) (L:Pl):Pl:=λacT vs Z K X=>E acT vs Z (λv Z=>ok (ux v) λxs=>L acT vs Z (λys Z=>K (xs++ys) Z) X) X
abbrev k0:Pk:=λJ J Z K J=>K [] Z
abbrev kc (n:Ì) (E:Pe) (KW:Pk):Pk:=λacT vs Z K X=>E acT vs Z (λv Z=>KW acT vs Z (λxs Z=>K ((n,v)::xs) Z) X) X
abbrev eM (n:Ì) (E:Pe) (L:Pl):Pe:=λacT vs Z K X=>E acT vs Z (λv Z=>ok (eW T Z v n) λf=>L acT vs Z (λxs Z=>Ng xs [] Z f acT K λm Z=>X m vs Z) X) X
abbrev VV (n:Ì) (E:Pe) (L:Pl):Pe:=λacT vs Z K X=>E acT vs Z (λv Z=>ok ((eD T Z v n).map .val) λf=>L acT vs Z (λxs Z=>Ng xs [] Z f acT K λm Z=>X m vs Z) X) X
abbrev eR (n:Ì) (m:Ì) (E:Pe):Pe:=λacT vs Z K X=>E acT vs Z (λv Z=>ok (strV v) λs=>s.length+(s.length+1) * m.length<=Ö/\K (.str (ť s n m)) Z) X
abbrev eF (E:Pe) (L:Pl):Pe:=λacT vs Z K X=>E acT vs Z (λv Z=>L acT vs Z (λxs Z=>xp Z [] xs v acT K λm Z=>X m vs Z) X) X
abbrev VU (E:Pe) (L:Pl) (KW:Pk):Pe:=λacT vs Z K X=>E acT vs Z (λv Z=>L acT vs Z (λxs Z=>KW acT vs Z (λkvs Z=>xp Z kvs xs v acT K λm Z=>X m vs Z) X) X) X
abbrev VW (E:Pe):Pe:=λacT vs Z K X=>E acT vs Z (λx Z=>ok (fN Z x) λxs=>cX (bh Z) (xs.length<7/\K (.fl ((au xs).map .str)) Z)) X
abbrev tN (P:Pt):Pt:=λacT vs Z K X=>P acT vs Z (λb Z=>K (!b) Z) X
abbrev t1:Pt:=λJ J Z K J=>K Í Z
abbrev t0:Pt:=λJ J Z K J=>K Ï Z
abbrev tc (P:Pt) (Q:Pt):Pt:=λacT vs Z K X=>P acT vs Z (λb Z=>oK b (Q acT vs Z K X) (K Ï Z)) X
abbrev to (P:Pt) (Q:Pt):Pt:=λacT vs Z K X=>P acT vs Z (λb Z=>oK b (K Í Z) (Q acT vs Z K X)) X
abbrev tC (o:XR) (E:Pe) (F:Pe):Pt:=λacT vs Z K X=>E acT vs Z (λx Z=>F acT vs Z (λy Z=>ok (jR Z o x y) (K · Z)) X) X
abbrev tZ (o:XR) (E:Pe) (F:Pe):Pt:=λacT vs Z K X=>E acT vs Z (λx Z=>F acT vs Z (λy Z=>ok (inZ Z o x y) (K · Z)) X) X
abbrev tV (E:Pe):Pt:=λacT vs Z K X=>E acT vs Z (λx Z=>ok (bZ Z x) (K · Z)) X
abbrev aN (k:Ó):Pa:=λJ v vs Z N J=>N (vs.set k (C v)) Z
abbrev a0:Tw:=λJ xs vs Z N J=>cX xs.isEmpty (N vs Z)
abbrev ac (A:Pa) (As:Tw):Tw:=λacT xs vs Z N X=>ok xs.head? λx=>A acT x vs Z (λvs Z=>As acT xs.tail vs Z N X) X
abbrev aT (k:Ó) (As:Tw):Pa:=λacT v vs Z N X=>ok (jH Z v) λxs=>cX (xs.length.beq k) (As acT xs vs Z N X)
abbrev aA (n:Ì) (E:Pe):Pa:=λacT v vs Z N X=>E acT vs Z (λu Z=>ok (n6 T Z u n v) λZ=>N vs Z) X
abbrev aS (E:Pe) (F:Pe):Pa:=λacT v vs Z N X=>E acT vs Z (λu Z=>F acT vs Z (λy Z=>ok (lG u) λl=>ok (strV y) λk=>ok (dS Z l) λkvs=>kvs.length<Ö/\N vs (Z.set l (.dict (aF k v kvs)))) X) X
abbrev a2 (A:Pa) (A':Pa):Pa:=λacT v vs Z N X=>A acT v vs Z (λvs Z=>A' acT v vs Z N X) X
abbrev sE (E:Pe):Ps:=λacT vs Z N J X=>E acT vs Z (λJ Z=>N vs Z) X
abbrev sR (E:Pe):Ps:=λacT vs Z J R X=>E acT vs Z (λv Z=>R v vs Z) X
abbrev Qz:Ps:=λJ vs Z J R J=>R .none vs Z
abbrev sA (A:Pa) (E:Pe):Ps:=λacT vs Z N J X=>E acT vs Z (λv Z=>A acT v vs Z N X) X
abbrev sW (ks:È Ó) (E:Pe):Ps:=λacT vs Z N J X=>E acT vs Z (λv Z=>ok (jH Z v) λxs=>cX (xs.length.beq ks.length) (ok (Ss ks xs.reverse vs) λvs=>N vs Z)) X
abbrev sG (k:Ó) (E:Pe):Ps:=λacT vs Z N J X=>ok ((TF vs k).bind strV) λold=>E acT vs Z (λv Z=>ok (strV v) λy=>ok (catZ old y) λs=>N (vs.set k (C (.str s))) Z) X
abbrev sI (P:Pt) (S:Ps) (B:Ps):Ps:=λacT vs Z N R X=>P acT vs Z (λc Z=>oK c (S acT vs Z N R X) (B acT vs Z N R X)) X
abbrev sF (A:Pa) (E:Pe) (S:Ps):Ps:=λacT vs Z N R X=>E acT vs Z (λv Z=>Xg v (λx vs Z N=>A acT x vs Z (λvs Z=>S acT vs Z N R X) X) vs Z N) X
abbrev US (A:Pa) (E:Pe) (F:Pe) (S:Ps):Ps:=λacT vs Z N R X=>E acT vs Z (λo Z=>eW T Z o ("_iter_namespaces" : Ì)=C (.fn T.it o)/\F acT vs Z (λv Z=>walkGZ v (λx vs Z N=>A acT x vs Z (λvs Z=>S acT vs Z N R X) X) vs Z N) X) X
abbrev sT (S:Ps):Ps:=λacT vs Z N R J=>S acT vs Z N R ik
abbrev Wd (k:Ó) (j:Ó) (S:Ps):Ps:=λacT vs Z N R J=>S acT vs Z N R λm vs Z=>N ((vs.set k U).set j (C (.str m))) Z
abbrev sX (E:Pe):Ps:=λacT vs Z J J X=>E acT vs Z (λv Z=>ok (strV v) λm=>X m vs Z) X
abbrev sD (E:Pe):Ps:=λacT vs Z N J X=>E acT vs Z (λv Z=>ok (lG v) λl=>ok (ag Z l) λJ=>N vs (Z.set l (.list []))) X
abbrev sU:Ps:=λJ J J J J J=>False
abbrev sq (S:Ps) (B:Ps):Ps:=λacT vs Z N R X=>S acT vs Z (λvs Z=>B acT vs Z N R X) R X
abbrev s0:Ps:=λJ vs Z N J J=>N vs Z
def MA:∃D:Ó->aj,D=hW T:=⟨_,rfl⟩
def Dn:Ó->aj:=WY MA
def dd:Dn=hW T:=a7 MA
abbrev ā:=eN 0
abbrev ă:=eN 1
abbrev ą:=eN 2
abbrev ć:=eN 3
abbrev ĉ:=eN 4
abbrev ċ:=eN 5
abbrev č:=eN 6
abbrev ď:=eN 7
abbrev đ:=eN 8
abbrev ē:=eN 9
abbrev Ł (x:Ì):=eL (.str x)
abbrev ń (x:Į):=eL (.int x)
abbrev ł (x:Ì):=aA x (eN 0)
abbrev Ń (x:_):=lc x l0
section
variable (b0 b1 b2 b3:AV)
abbrev Dj:=sq (sA (ł "_qname_aware_tags") (eF (eL (.bf .set)) (Ń ċ))) s0
abbrev Dk:=sq (sA (ł "_qname_aware_tags") (eL .none)) s0
abbrev Dl:=sq (sA (ł "_find_qname_aware_attrs") (eA "intersection" (eF (eL (.bf .set)) (Ń č)))) s0
abbrev Do:=sq (sA (ł "_find_qname_aware_attrs") (eL .none)) s0
abbrev Dp:=sq (sE (eM "append" (eA "_ns_stack" ā) (Ń (eF (eL (.bf .list)) (Ń (eM "items" (eL Sj) l0)))))) s0
abbrev GQ:=sA (ł "_ignored_depth") (ń 0)
abbrev GD:=sq GQ s0
abbrev GO:=sA (ł "_root_done") (eL (.bool Ï))
abbrev GC:=sq GO GD
abbrev GN:=sA (ł "_root_seen") (eL (.bool Ï))
abbrev GA:=sq GN GC
abbrev GL:=sA (ł "_pending_start") (eL .none)
abbrev Gz:=sq GL GA
abbrev GK:=sA (ł "_preserve_space") (eK Í (Ń (eL (.bool Ï))))
abbrev Gy:=sq GK Gz
abbrev GJ:=sA (ł "_prefix_map") (Nr Í)
abbrev Gx:=sq GJ Gy
abbrev GI:=sE (eM "append" (eA "_ns_stack" ā) (Ń (eK Í l0)))
abbrev Gw:=sq GI Gx
abbrev GH:=sI (tN (tV ĉ)) Dp s0
abbrev Gv:=sq GH Gw
abbrev GG:=sA (ł "_ns_stack") (eK Í l0)
abbrev Gu:=sq GG Gv
abbrev KE:=sA (ł "_declared_ns_stack") (eK Í (Ń (eK Ï (Ń (eT (lc (Ł "http://www.w3.org/XML/1998/namespace") (Ń (Ł "xml"))))))))
abbrev Ks:=sq KE Gu
abbrev KD:=sI (tV č) Dl Do
abbrev Kr:=sq KD Ks
abbrev KC:=sI (tV ċ) Dj Dk
abbrev Ko:=sq KC Kr
abbrev KA:=sA (ł "_rewrite_prefixes") ĉ
abbrev Km:=sq KA Ko
abbrev Kz:=sA (ł "_exclude_tags") (eI (tV đ) (eF (eL (.bf .set)) (Ń đ)) (eL .none))
abbrev Kl:=sq Kz Km
abbrev Ky:=sA (ł "_exclude_attrs") (eI (tV ď) (eF (eL (.bf .set)) (Ń ď)) (eL .none))
abbrev Kk:=sq Ky Kl
abbrev Kx:=sA (ł "_strip_text") ć
abbrev Kj:=sq Kx Kk
abbrev Kv:=sA (ł "_with_comments") ą
abbrev Ki:=sq Kv Kj
abbrev Ku:=sA (ł "_data") (eK Í l0)
abbrev Kh:=sq Ku Ki
abbrev Kt:=sA (ł "_write") ă
abbrev Kg:=sq Kt Kh
def T9 (n:Ó) (a0 a1:AV) (Z:aa) (K:VK) (X:Ì->aa->Prop):Dn (n+1) 67 [a0,a1] [("strip_text",b0),("rewrite_prefixes",b1),("qname_aware_tags",b2),("qname_aware_attrs",b3)] Z K X=Kg (Dn n) [C a0,C a1,C (.bool Ï),C b0,C b1,C b2,C b3,C .none,C .none] Z (λJ Z=>K .none Z) (λv J Z=>K v Z) λm J Z=>X m Z:=by rw[dd];kernel_rfl
abbrev DV:=sq (sR (eJ (jc "{" (jv ĉ (jc "}" (jv ć j0)))))) s0
abbrev qC:=sq (sI (tC .Eq ċ ą) DV s0) s0
abbrev K6:=sq (sX (eJ (jc "Prefix " (jv ą (jc " of QName \"" (jv ă (jc "\" is not declared in scope" j0))))))) s0
abbrev K5:=sq (US (aT 2 (ac (aN 4) (ac (aN 5) a0))) ā (eA "_ns_stack" ā) qC) K6
abbrev K0:=sq (sA (aT 2 (ac (aN 2) (ac (aN 3) a0))) (eM "split" ă (lc (Ł ":") (Ń (ń 1))))) K5
def Ug (n:Ó) (a0 a1:AV) (Z:aa) (K:VK) (X:Ì->aa->Prop):Dn (n+1) 82 [a0,a1] [] Z K X=K0 (Dn n) [C a0,C a1,U,U,U,U] Z (λJ Z=>K .none Z) (λv J Z=>K v Z) λm J Z=>X m Z:=by rw[dd];kernel_rfl
abbrev DP:=sq (sA (aT 2 (ac (aN 2) (ac (aN 3) a0))) (eI (tC .Eq (IY ă (eL .none) (ń 1) (eL .none)) (Ł "{")) (eM "rsplit" (IY ă (ń 1) (eL .none) (eL .none)) (lc (Ł "}") (Ń (ń 1)))) (eT (lc (Ł "") (Ń ă))))) s0
abbrev DQ:=sq (sA (aN 3) ă) s0
abbrev DR:=sq (sR (eT (lc (eI (tV č) (eJ (jv č (jc ":" (jv ć j0)))) ć) (lc ć (Ń ą))))) s0
abbrev qA:=sq (sE (eM "add" ĉ (Ń č))) s0
abbrev km:=sq (sI (tc (tC .Eq ċ ą) (tc (tC .NotIn č ĉ) t1)) DR s0) qA
abbrev DT:=sq (sA (aN 6) (eS (eA "_prefix_map" ā) ą)) s0
abbrev DU:=sq (sA (a2 (aN 6) (aS (eA "_prefix_map" ā) ą)) (eJ (jc "n" (jv (eF (eL (.bf .len)) (Ń (eA "_prefix_map" ā))) j0)))) s0
abbrev DS:=sq (sR (eT (lc (eJ (jv č (jc ":" (jv ć j0)))) (lc ć (Ń ą))))) s0
abbrev qB:=sq (sE (eM "append" (eS (eA "_declared_ns_stack" ā) (ń (-1))) (Ń (eT (lc ą (Ń č)))))) DS
abbrev kr:=sq (sI (tC .In ą (eA "_prefix_map" ā)) DT DU) qB
abbrev xM:=sq (sR (eT (lc ć (lc ć (Ń ą))))) s0
abbrev xO:=sq (sR (eT (lc (eI (tV č) (eJ (jv č (jc ":" (jv ć j0)))) ć) (lc ć (Ń ą))))) s0
abbrev xN:=sq (sE (eM "append" (eS (eA "_declared_ns_stack" ā) (ń (-1))) (Ń (eT (lc ą (Ń č)))))) xO
abbrev nc:=sq (sI (tC .Eq ċ ą) xN s0) s0
abbrev xP:=sq (sR (eT (lc ć (lc ć (Ń ą))))) s0
abbrev KZ:=sq (sX (eJ (jc "Namespace \"" (jv ą (jc "\" is not declared in scope" j0))))) s0
abbrev KY:=sq (sI (tN (tV ą)) xP s0) KZ
abbrev KV:=sq (US (aT 2 (ac (aN 5) (ac (aN 6) a0))) ā (eA "_ns_stack" ā) nc) KY
abbrev s5:=sq (sI (tc (tN (tV ą)) (tc (tC .NotIn (Ł "") ĉ) t1)) xM s0) KV
abbrev KU:=sq (sI (tV (eA "_rewrite_prefixes" ā)) kr s0) s5
abbrev KS:=sq (US (aT 2 (ac (aN 5) (ac (aN 6) a0))) ā (eA "_declared_ns_stack" ā) km) KU
abbrev AH:=sq (sA (aN 4) (eF (eL (.bf .set)) l0)) KS
abbrev AG:=sq (sI (tC .Is ą (eL .none)) DP DQ) AH
def Uf (n:Ó) (a0 a1:AV) (Z:aa) (K:VK) (X:Ì->aa->Prop):Dn (n+1) 90 [a0,a1] [] Z K X=AG (Dn n) [C a0,C a1,C .none,U,U,U,U] Z (λJ Z=>K .none Z) (λv J Z=>K v Z) λm J Z=>X m Z:=by rw[dd];kernel_rfl
abbrev CL:=sq (sE (eM "append" (eA "_data" ā) (Ń ă))) s0
abbrev J9:=sq (sI (tN (tV (eA "_ignored_depth" ā))) CL s0) s0
def T3 (n:Ó) (a0 a1:AV) (Z:aa) (K:VK) (X:Ì->aa->Prop):Dn (n+1) 97 [a0,a1] [] Z K X=J9 (Dn n) [C a0,C a1] Z (λJ Z=>K .none Z) (λv J Z=>K v Z) λm J Z=>X m Z:=by rw[dd];kernel_rfl
abbrev Dc:=sq (sA (aN 2) (eM "strip" ą l0)) s0
abbrev Dh:=sq Qz s0
abbrev Dg:=sq (sI (tC .IsNot ĉ (eL .none)) Dh s0) s0
abbrev Df:=sq (sE (VV "_start" ā (ls ć (Ń ĉ)))) Dg
abbrev De:=sq (sA (aN 4) (eI (tc (tV ą) (tc (tV (eF (eL (.lk)) (Ń ą))) t1)) ą (eL .none))) Df
abbrev Dd:=sq (sA (aT 2 (ac (aN 3) (ac (ł "_pending_start") a0))) (eT (lc (eA "_pending_start" ā) (Ń (eL .none))))) De
abbrev Di:=sq (sE (eM "_write" ā (Ń (eF (eL (.fn 161)) (Ń ą))))) s0
abbrev sJ:=sI (tc (tV ą) (tc (tV (eA "_root_seen" ā)) t1)) Di s0
abbrev sH:=sq sJ s0
abbrev jk:=sI (tC .IsNot (eA "_pending_start" ā) (eL .none)) Dd s0
abbrev lT:=sq jk sH
abbrev z8:=sI (tc (tV (eA "_strip_text" ā)) (tc (tN (tV (eS (eA "_preserve_space" ā) (ń (-1))))) t1)) Dc s0
abbrev sC:=sq z8 lT
abbrev z7:=sD (eA "_data" ā)
abbrev z5:=sq z7 sC
abbrev z6:=sA (aN 2) (eF ă (Ń (eA "_data" ā)))
abbrev z4:=sq z6 z5
def Oo (n:Ó) (a0:AV) (Z:aa) (K:VK) (X:Ì->aa->Prop):Dn (n+1) 106 [a0] [] Z K X=z4 (Dn n) [C a0,C (.bm .sJoin (.str "")),U,U,U] Z (λJ Z=>K .none Z) (λv J Z=>K v Z) λm J Z=>X m Z:=by rw[dd];kernel_rfl
abbrev DI:=sq Qz s0
abbrev DJ:=sq (sE (eM "_flush" ā l0)) s0
abbrev KO:=sE (eM "append" (eS (eA "_ns_stack" ā) (ń (-1))) (Ń (eT (lc ą (Ń ă)))))
abbrev KJ:=sq KO s0
abbrev KN:=sI (tV (eA "_data" ā)) DJ s0
abbrev KI:=sq KN KJ
abbrev KL:=sI (tV (eA "_ignored_depth" ā)) DI s0
abbrev KH:=sq KL KI
def Ud (n:Ó) (a0 a1 a2:AV) (Z:aa) (K:VK) (X:Ì->aa->Prop):Dn (n+1) 113 [a0,a1,a2] [] Z K X=KH (Dn n) [C a0,C a1,C a2] Z (λJ Z=>K .none Z) (λv J Z=>K v Z) λm J Z=>X m Z:=by rw[dd];kernel_rfl
abbrev D7:=sq Qz s0
abbrev D6:=sq sU D7
abbrev D8:=sq (sE (eM "_flush" ā l0)) s0
abbrev Ea:=sq Qz s0
abbrev D9:=sq (sA (ł "_pending_start") (eT (lc ă (lc ą (Ń ć))))) Ea
abbrev K9:=sE (eM "_start" ā (lc ă (lc ą (Ń ć))))
abbrev tB:=sq K9 s0
abbrev tF:=sI (tc (tC .IsNot (eA "_qname_aware_tags" ā) (eL .none)) (tc (tC .In ă (eA "_qname_aware_tags" ā)) t1)) D9 s0
abbrev tv:=sq tF tB
abbrev lY:=sE (eM "append" (eA "_declared_ns_stack" ā) (Ń ć))
abbrev K8:=sq lY tv
abbrev AR:=sA (aN 3) (eK Í l0)
abbrev lX:=sq AR K8
abbrev tE:=sI (tV (eA "_data" ā)) D8 s0
abbrev tu:=sq tE lX
abbrev tD:=sI (tc (tC .IsNot (eA "_exclude_tags" ā) (eL .none)) (tc (to (tV (eA "_ignored_depth" ā)) (to (tC .In ă (eA "_exclude_tags" ā)) t0)) t1)) D6 s0
abbrev K7:=sq tD tu
def RD (n:Ó) (a0 a1 a2:AV) (Z:aa) (K:VK) (X:Ì->aa->Prop):Dn (n+1) 120 [a0,a1,a2] [] Z K X=K7 (Dn n) [C a0,C a1,C a2,U] Z (λJ Z=>K .none Z) (λv J Z=>K v Z) λm J Z=>X m Z:=by rw[dd];kernel_rfl
abbrev DW:=sq (sA (aN 2) (RL 3 (eM "items" ą l0) (cm (aT 2 (ac (aN 1) (ac (aN 2) a0))) (tc (tC .NotIn ă (eA "_exclude_attrs" ć)) t1) (Qt ă ą)))) s0
abbrev DX:=sq (sE (eM "add" ď (Ń ē))) s0
abbrev qD:=sq (sA (a2 (aN 9) (aS đ ĉ)) (eM "_resolve_prefix_name" ā (Ń ĉ))) DX
abbrev D5:=sq (sE (eM "add" ď (Ń ē))) s0
abbrev qF:=sq (sA (a2 (aN 9) (aS đ (eN 12))) (eM "_resolve_prefix_name" ā (Ń (eN 12)))) D5
abbrev D4:=sq (sI (tV (eF (eL (.lk)) (Ń (eN 12)))) qF s0) s0
abbrev qE:=sq (sA (aN 12) (eS ą (eN 11))) D4
abbrev D0:=sq (sF (aN 11) (eN 10) qE) s0
abbrev xQ:=sq (sA (aN 10) (eL .none)) s0
abbrev DZ:=sq (sI (tV (eN 10)) D0 xQ) s0
abbrev DY:=sq (sA (aN 10) (eM "_find_qname_aware_attrs" ā (Ń ą))) DZ
abbrev xR:=sq (sA (aN 10) (eL .none)) s0
abbrev xT:=sq (sE (eM "sort" (eN 16) l0)) s0
abbrev xS:=sq (sA (aN 16) (Ct Í 3 ć (cm (aT 2 (ac (aN 1) (ac (aN 2) a0))) t1 (vg (eT (lc (eI (tV ą) (eB .Add (Ł "xmlns:") ą) (Ł "xmlns")) (Ń ă))))))) xT
abbrev xU:=sq (sA (aN 16) (eK Í l0)) s0
abbrev xX:=sq (sA (aN 6) (eS (eS (eN 14) (eS đ č)) (ń 0))) s0
abbrev xW:=sq (sE (eM "append" (eN 16) (Ń (eT (lc (eI (tV (eN 15)) (eN 17) (eN 11)) (Ń č)))))) s0
abbrev iI:=sq (sA (aT 3 (ac (aN 17) (ac (aN 11) (ac (aN 15) a0)))) (eS (eN 14) ċ)) xW
abbrev iG:=sq (sI (tc (tC .IsNot (eN 10) (eL .none)) (tc (tC .In ċ (eN 10)) (tc (tC .In č đ) t1))) xX s0) iI
abbrev xV:=sq (sF (aT 2 (ac (aN 5) (ac (aN 6) a0))) (eF (eL (.bf .sorted)) (Ń (eM "items" ą l0))) iG) s0
abbrev xY:=sq (sE (eF (eN 19) (Ń (eM "join" (Ł "") (Ń (Ct Ï 3 (eN 16) (cm (aT 2 (ac (aN 1) (ac (aN 2) a0))) t1 (vg (eJ (jc " " (jv ă (jc "=\"" (jv (eF (eL (.fn 168)) (Ń ą)) (jc "\"" j0)))))))))))))) s0
abbrev xZ:=sq (sE (eF (eN 19) (Ń (eF (eL (.fn 161)) (Ń (eS (eS (eN 14) (eS đ ĉ)) (ń 0))))))) s0
abbrev nt:=sE (eM "append" (eA "_ns_stack" ā) (Ń (eK Ï l0)))
abbrev vK:=sq nt s0
abbrev nr:=sA (ł "_root_seen") (eL (.bool Í))
abbrev vJ:=sq nr vK
abbrev nq:=sI (tC .IsNot ĉ (eL .none)) xZ s0
abbrev vI:=sq nq vJ
abbrev nj:=sE (eF (eN 19) (Ń (Ł ">")))
abbrev vH:=sq nj vI
abbrev ni:=sI (tV (eN 16)) xY s0
abbrev vG:=sq ni vH
abbrev nh:=sE (eF (eN 19) (Ń (eB .Add (Ł "<") (eS (eS (eN 14) ă) (ń 0)))))
abbrev vF:=sq nh vG
abbrev vL:=sA (aN 19) (eA "_write" ā)
abbrev vE:=sq vL vF
abbrev ng:=sE (eM "append" (eA "_preserve_space" ā) (Ń (eI (tV (eN 18)) (eC .Eq (eN 18) (Ł "preserve")) (eS (eA "_preserve_space" ā) (ń (-1))))))
abbrev vD:=sq ng vE
abbrev tr:=sA (aN 18) (eM "get" ą (Ń (Ł "{http://www.w3.org/XML/1998/namespace}space")))
abbrev AO:=sq tr vD
abbrev tn:=sI (tV ą) xV s0
abbrev s8:=sq tn AO
abbrev tm:=sI (tV ć) xS xU
abbrev AN:=sq tm s8
abbrev tj:=sA (aN 14) (RL 2 (VW ď) (cm (aN 1) t1 (Qt ă (eF (eN 15) (Ń ă)))))
abbrev AM:=sq tj AN
abbrev AQ:=sA (aN 13) (eA "_qname" ā)
abbrev lW:=sq AQ AM
abbrev th:=sI (tc (tC .IsNot (eA "_find_qname_aware_attrs" ā) (eL .none)) (tc (tV ą) t1)) DY xR
abbrev AL:=sq th lW
abbrev tf:=sI (tC .IsNot ĉ (eL .none)) qD s0
abbrev AK:=sq tf AL
abbrev td:=sA (aN 8) (Nr Í)
abbrev AJ:=sq td AK
abbrev s9:=sA (aN 7) (Uo ă ą)
abbrev AI:=sq s9 AJ
abbrev AP:=sI (tc (tC .IsNot (eA "_exclude_attrs" ā) (eL .none)) (tc (tV ą) t1)) DW s0
abbrev s6:=sq AP AI
theorem pK {r:Ev}:∀a {vs Z N},bA r ks ns (a++b) vs Z N R X=bA r ks ns a vs Z (λvs Z=>bA r ks ns b vs Z N R X) R X
 | []=>rfl
 | s::a=>Õ (r.s ks ns s _ _ · R X) (funext λJ=>funext λJ=>pK a)
abbrev VN (acT:aj):=bA (F9 T acT Ï 40) (fnOf 126).scope.names (ar (fnOf 126).scope)
def Ui {acT vs Z N R X}:VN acT ((fnOf 126).body.drop 8) vs Z N R X=s8 acT vs Z N R X:=by kernel_rfl
def Uh {acT vs Z N R X}:VN acT (fnOf 126).body vs Z N R X=s6 acT vs Z N R X:=by
 rw[<-Wz 8 (fnOf 126).body]
 refine(pK _).trans ((Õ (bA _ _ _ _ vs Z · R X) (funext λJ=>funext λJ=>Ui)).trans ?_)
 kernel_rfl
def RB (n:Ó) (a0 a1 a2 a3 a4:AV) (Z:aa) (K:VK) (X:Ì->aa->Prop):Dn (n+1) 126 [a0,a1,a2,a3,a4] [] Z K X=s6 (Dn n) [C a0,C a1,C a2,C a3,C a4,U,U,U,U,U,U,U,U,U,U,U,U,U,U,U] Z (λJ Z=>K .none Z) (λv J Z=>K v Z) λm J Z=>X m Z:=by rw[dd,<-Uh];kernel_rfl
abbrev C9:=sq Qz s0
abbrev C8:=sq sU C9
abbrev Db:=sq (sE (eM "_flush" ā l0)) s0
abbrev sB:=sE (eM "pop" (eA "_ns_stack" ā) l0)
abbrev zY:=sq sB s0
abbrev sy:=sE (eM "pop" (eA "_declared_ns_stack" ā) l0)
abbrev zX:=sq sy zY
abbrev sw:=sA (ł "_root_done") (eC .Eq (eF (eL (.bf .len)) (Ń (eA "_preserve_space" ā))) (ń 1))
abbrev zW:=sq sw zX
abbrev sv:=sE (eM "pop" (eA "_preserve_space" ā) l0)
abbrev zV:=sq sv zW
abbrev su:=sE (eM "_write" ā (Ń (eJ (jc "</" (jv (eS (eM "_qname" ā (Ń ă)) (ń 0)) (jc ">" j0))))))
abbrev lS:=sq su zV
abbrev z0:=sI (tV (eA "_data" ā)) Db s0
abbrev zU:=sq z0 lS
abbrev zZ:=sI (tV (eA "_ignored_depth" ā)) C8 s0
abbrev Kd:=sq zZ zU
def T7 (n:Ó) (a0 a1:AV) (Z:aa) (K:VK) (X:Ì->aa->Prop):Dn (n+1) 133 [a0,a1] [] Z K X=Kd (Dn n) [C a0,C a1] Z (λJ Z=>K .none Z) (λv J Z=>K v Z) λm J Z=>X m Z:=by rw[dd];kernel_rfl
abbrev DK:=sq Qz s0
abbrev DL:=sq (sE (eM "_write" ā (Ń (Ł "\n")))) s0
abbrev DN:=sq (sE (eM "_flush" ā l0)) s0
abbrev DM:=sq (sI (tc (tV (eA "_root_seen" ā)) (tc (tV (eA "_data" ā)) t1)) DN s0) s0
abbrev DO:=sq (sE (eM "_write" ā (Ń (Ł "\n")))) s0
abbrev KQ:=sI (tN (tV (eA "_root_seen" ā))) DO s0
abbrev AC:=sq KQ s0
abbrev AF:=sE (eM "_write" ā (Ń (eI (tV ą) (eJ (jc "<?" (jv ă (jc " " (jv (eF (eL (.fn 161)) (Ń ą)) (jc "?>" j0)))))) (eJ (jc "<?" (jv ă (jc "?>" j0)))))))
abbrev lV:=sq AF AC
abbrev AE:=sI (tV (eA "_root_done" ā)) DL DM
abbrev AB:=sq AE lV
abbrev AD:=sI (tV (eA "_ignored_depth" ā)) DK s0
abbrev KP:=sq AD AB
def Ue (n:Ó) (a0 a1 a2:AV) (Z:aa) (K:VK) (X:Ì->aa->Prop):Dn (n+1) 147 [a0,a1,a2] [] Z K X=KP (Dn n) [C a0,C a1,C a2] Z (λJ Z=>K .none Z) (λv J Z=>K v Z) λm J Z=>X m Z:=by rw[dd];kernel_rfl
abbrev C4:=sq (sA (aN 0) (eR "&" "&amp;" ā)) s0
abbrev C5:=sq (sA (aN 0) (eR "<" "&lt;" ā)) s0
abbrev C6:=sq (sA (aN 0) (eR ">" "&gt;" ā)) s0
abbrev C7:=sq (sA (aN 0) (eR "\r" "&#xD;" ā)) s0
abbrev C2:=sq (sR ā) s0
abbrev C1:=sq (sI (tC .In (Ł "\r") ā) C7 s0) C2
abbrev C0:=sq (sI (tC .In (Ł ">") ā) C6 s0) C1
abbrev CZ:=sq (sI (tC .In (Ł "<") ā) C5 s0) C0
abbrev CY:=sq (sI (tC .In (Ł "&") ā) C4 s0) CZ
abbrev Kc:=sq (sT CY) s0
def T6 (n:Ó) (a0:AV) (Z:aa) (K:VK) (X:Ì->aa->Prop):Dn (n+1) 161 [a0] [] Z K X=Kc (Dn n) [C a0] Z (λJ Z=>K .none Z) (λv J Z=>K v Z) λm J Z=>X m Z:=by rw[dd];kernel_rfl
abbrev CU:=sq (sA (aN 0) (eR "&" "&amp;" ā)) s0
abbrev CV:=sq (sA (aN 0) (eR "<" "&lt;" ā)) s0
abbrev CW:=sq (sA (aN 0) (eR "\"" "&quot;" ā)) s0
abbrev CX:=sq (sA (aN 0) (eR "\t" "&#x9;" ā)) s0
abbrev xJ:=sq (sA (aN 0) (eR "\n" "&#xA;" ā)) s0
abbrev xK:=sq (sA (aN 0) (eR "\r" "&#xD;" ā)) s0
abbrev CT:=sq (sR ā) s0
abbrev CS:=sq (sI (tC .In (Ł "\r") ā) xK s0) CT
abbrev CQ:=sq (sI (tC .In (Ł "\n") ā) xJ s0) CS
abbrev CP:=sq (sI (tC .In (Ł "\t") ā) CX s0) CQ
abbrev CO:=sq (sI (tC .In (eL (.str "\"")) ā) CW s0) CP
abbrev CN:=sq (sI (tC .In (Ł "<") ā) CV s0) CO
abbrev CM:=sq (sI (tC .In (Ł "&") ā) CU s0) CN
abbrev Ka:=sq (sT CM) s0
def T5 (n:Ó) (a0:AV) (Z:aa) (K:VK) (X:Ì->aa->Prop):Dn (n+1) 168 [a0] [] Z K X=Ka (Dn n) [C a0] Z (λJ Z=>K .none Z) (λv J Z=>K v Z) λm J Z=>X m Z:=by rw[dd];kernel_rfl
abbrev sL:=sq (sR (eI (tc (tC .Eq (eF (eL (.bf .len)) (Ń ă)) (ń 2)) (tc (tC .NotIn (Ł "") ă) (tc (tC .Eq ą (eK Ï l0)) t1))) (eT (lc (eS ă (ń 0)) (Ń (IY ā (eB .Add (eF (eL (.bf .len)) (Ń (eS ă (ń 0)))) (ń 1)) (eL .none) (eL .none))))) (eL .none))) s0
abbrev sK:=sq (sA (aN 2) (Ct Ï 2 (eM "join" (Ł "") (Ń ă)) (cm (aN 1) (tc (tC .NotIn ă (Ł "pqbyxn0_é")) t1) (vg ă)))) sL
abbrev Ke:=sq (sA (aN 1) (eM "split" (eI (tC .Eq (IY ā (ń (-1)) (eL .none) (eL .none)) (Ł "\n")) (IY ā (eL .none) (ń (-1)) (eL .none)) ā) (Ń (Ł ":")))) sK
def T8 (n:Ó) (a0:AV) (Z:aa) (K:VK) (X:Ì->aa->Prop):Dn (n+1) 173 [a0] [] Z K X=Ke (Dn n) [C a0,U,U] Z (λJ Z=>K .none Z) (λv J Z=>K v Z) λm J Z=>X m Z:=by rw[dd];kernel_rfl
abbrev La:=sq (sR (eI (tC .Eq (IY ā (eL .none) (ń 1) (eL .none)) (Ł "{")) (eS (eM "split" (IY ā (ń 1) (eL .none) (eL .none)) (Ń (Ł "}"))) (ń 0)) (Ł ""))) s0
def Uj (n:Ó) (a0:AV) (Z:aa) (K:VK) (X:Ì->aa->Prop):Dn (n+1) 180 [a0] [] Z K X=La (Dn n) [C a0] Z (λJ Z=>K .none Z) (λv J Z=>K v Z) λm J Z=>X m Z:=by rw[dd];kernel_rfl
abbrev Dr:=sA (aS (eN 16) (eS (mG .Add đ (eK Ï (lc (Ł "{v}r") (Ń (Ł "s"))))) (mG .Mod (mG .Add (mG .FloorDiv (eN 15) (ń 12)) (eN 17)) (ń 4)))) (eS (eN 10) (mG .Mod (mG .Add (mG .FloorDiv (eN 15) (ń 48)) (mG .Mult (ń 4) (eN 17))) (ń 10)))
abbrev pY:=sq Dr s0
abbrev Dq:=sE (eM "append" (eN 11) (Ń (eK Ï (lc (Ł "start") (lc (eS (eN 12) (ń (-1))) (lc (eN 16) (Ń (eI (tC .In (eS (eN 12) (ń (-1))) ď) (eK Í (Ń (eS ē (mG .Mod (mG .FloorDiv (eN 15) (ń 432)) (ń 8))))) (eK Í l0)))))))))
abbrev pU:=sq Dq s0
abbrev pX:=sF (aN 17) (eF (eL (.bf .range)) (Ń (mG .Mod (mG .FloorDiv (eN 15) (ń 4)) (ń 3)))) pY
abbrev pS:=sq pX pU
abbrev pW:=sA (aN 16) (Nr Í)
abbrev pR:=sq pW pS
abbrev pV:=sE (eM "append" (eN 12) (Ń (eS (mG .Add ď (eK Ï (lc (Ł "a") (Ń (Ł "{w}a"))))) (mG .Mod (eN 15) (ń 4)))))
abbrev pQ:=sq pV pR
abbrev pZ:=sq (sE (eM "append" (eN 11) (Ń (eK Ï (lc (Ł "end") (lc (eM "pop" (eN 12) l0) (lc (Nr Ï) (Ń (eK Í l0))))))))) s0
abbrev p9:=sE (eM "append" (eN 11) (Ń (eK Ï (lc (Ł "pi") (lc (Ł "i") (lc (Nr Ï) (Ń (eK Í l0))))))))
abbrev Dt:=sq p9 s0
abbrev qa:=sE (eM "append" (eS (eS (eN 11) (ń (-1))) (ń 3)) (Ń (eS (eK Ï (lc (Ł "p") (lc (Ł "q") (lc (Ł ":") (lc (Ł "x") (lc (Ł "é") (lc (Ł " ") (lc (Ł "\n") (lc (Ł "-") (lc (Ł "b:y") (lc (Ł "<") (lc (Ł "_") (Ń (Ł "n0")))))))))))))) (mG .Mod (eN 15) (ń 12)))))
abbrev Du:=sq qa s0
abbrev p8:=sq (sI (tC .Eq (eN 14) (ń 3)) Dt Du) s0
abbrev Ds:=sq (sI (tc (tC .Eq (eN 14) (ń 1)) (tc (tC .Gt (eF (eL (.bf .len)) (Ń (eN 12))) (ń 1)) t1)) pZ p8) s0
abbrev pP:=sI (tC .Eq (eN 14) (ń 0)) pQ Ds
abbrev jZ:=sq pP s0
abbrev pO:=sW [15,14] (eT (lc (mG .Mod (eN 13) (ń 4)) (Ń (mG .FloorDiv (eN 13) (ń 4)))))
abbrev jY:=sq pO jZ
abbrev vC:=sE (eM "extend" (eN 11) (Ń (Ct Ï 2 (eB .Add (eK Ï (Ń (Ł "t"))) (IY (eN 12) (eL .none) (eL .none) (ń (-1)))) (cm (aN 1) t1 (vg (eK Ï (lc (Ł "end") (lc ă (lc (Nr Ï) (Ń (eK Í l0)))))))))))
abbrev vA:=sq vC s0
abbrev vB:=sE (eM "append" (eN 11) (Ń (eK Ï (lc (Ł "start") (lc (Ł "t") (lc (VT (Ł "r") (Ł "p:x")) (Ń (eK Í (Ń (Ł "q:x"))))))))))
abbrev mX:=sq vB vA
abbrev An:=sF (aN 13) (TA ā (ń 1) (eL .none) (eL .none)) jY
abbrev sS:=sq An mX
abbrev Am:=sA (aT 2 (ac (aN 11) (ac (aN 12) a0))) (eT (lc (eK Í (Ń (eK Ï (lc (Ł "start") (lc (Ł "a") (lc (Nr Ï) (Ń (eK Í l0)))))))) (Ń (eK Í (Ń (Ł "a"))))))
abbrev sQ:=sq Am sS
abbrev Ak:=sA (aN 10) (eK Ï (lc (Ł "p:x") (lc (Ł "q:y") (lc (Ł "b:x") (lc (Ł "p:x\n") (lc (Ł "x") (lc (Ł "p:") (lc (Ł "n0:x") (lc (Ł "y:p:q") (lc (Ł "z:/x") (Ń (Ł "x:p"))))))))))))
abbrev sP:=sq Ak sQ
abbrev Aj:=sA (aN 9) (eK Ï (lc (Ł "q:x") (lc (Ł "p:x") (lc (Ł "b") (lc (Ł "") (lc (Ł " p:x ") (lc (Ł "x:p") (lc (Ł "p:x\n") (Ń (Ł "p:x:y"))))))))))
abbrev sO:=sq Aj sP
abbrev Ai:=sA (aT 2 (ac (aN 7) (ac (aN 8) a0))) (eT (lc (eK Ï (lc (Ł "t") (Ń (Ł "{v}t")))) (Ń (eK Ï (lc (Ł "r") (Ń (Ł "{u}r")))))))
abbrev Ac:=sq Ai sO
abbrev Ah:=sA (aN 6) (eF (eL (.bf .dict)) (Ń ċ))
abbrev Aa:=sq Ah Ac
abbrev Ag:=sA (aN 5) (mG .Add (TA ċ ĉ (eL .none) (eL .none)) (TA ċ (eL .none) ĉ (eL .none)))
abbrev sN:=sq Ag Aa
abbrev Af:=sA (aN 5) (eK Ï (lc (eT (lc (Ł "p") (Ń (Ł "u")))) (lc (eT (lc (Ł "q") (Ń (Ł "u")))) (lc (eT (lc (Ł "b") (Ń (Ł "v")))) (lc (eT (lc (Ł "y") (Ń (Ł "v")))) (Ń (eT (lc (Ł "n0") (Ń (Ł "w"))))))))))
abbrev lU:=sq Af sN
abbrev Ae:=sA (aT 3 (ac (aN 2) (ac (aN 3) (ac (aN 4) a0)))) (eT (lc (eC .Eq (mG .Mod ă (ń 2)) (ń 1)) (lc (eC .Eq (mG .Mod (mG .FloorDiv ă (ń 2)) (ń 2)) (ń 1)) (Ń (mG .Mod (mG .FloorDiv ă (ń 4)) (ń 5))))))
abbrev sM:=sq Ae lU
abbrev Ad:=sA (aN 1) (eF (eL (.bf .sum)) (Ń (TA ā (eL .none) (ń 1) (eL .none))))
abbrev z9:=sq Ad sM
def Hn:È ϳ:=((fnOf 185).body.drop 0).take 12
def Ua (acT:aj) (vs:Vs) (Z:aa) (N:NK) (R:RK) (X:XK):bA (F9 T acT Í 40) (fnOf 185).scope.names (ar (fnOf 185).scope) Hn vs Z N R X=z9 acT vs Z N R X:=by kernel_rfl
abbrev qb:=sq (sE (eM "start_ns" (eN 20) (lc (eN 21) (Ń (eN 22))))) s0
abbrev eE:=sq (sE (eM "start" (eN 20) (lc (eN 24) (Ń (eF (eL (.bf .dict)) (Ń (eN 16))))))) s0
abbrev Dw:=sq (sE (eM "end" (eN 20) (Ń (eN 24)))) s0
abbrev Dx:=sq (sE (eM "pi" (eN 20) (lc (eN 24) (Ń (eL .none))))) s0
abbrev eG:=sq (sI (tC .Eq (eN 23) (Ł "end")) Dw Dx) s0
abbrev qc:=sq (sE (eM "data" (eN 20) (Ń (eN 26)))) s0
abbrev bK:=sq (sF (aN 26) (eN 25) qc) s0
abbrev dw:=sq (sI (tC .Eq (eN 23) (Ł "start")) eE eG) bK
abbrev Dv:=sq (sF (aT 4 (ac (aN 23) (ac (aN 24) (ac (aN 16) (ac (aN 25) a0))))) (eN 11) dw) s0
abbrev Aw:=Wd 27 19 Dv
abbrev Ar:=sq Aw s0
abbrev Av:=sF (aT 2 (ac (aN 21) (ac (aN 22) a0))) ċ qb
abbrev Aq:=sq Av Ar
abbrev sV:=sA (aN 20) (VU (eL (.fn 150)) (Ń (eA "append" (eN 18))) (kc "strip_text" ć (kc "rewrite_prefixes" ą (kc "qname_aware_tags" ď (kc "qname_aware_attrs" (eF (eL (.bf .set)) (Ń đ)) k0)))))
abbrev Ap:=sq sV Aq
abbrev Au:=sW [19,18] (eT (lc (eK Í l0) (Ń (eL .none))))
abbrev Ao:=sq Au Ap
def Ho:È ϳ:=((fnOf 185).body.drop 12).take 4
def Ub (acT:aj) (vs:Vs) (Z:aa) (N:NK) (R:RK) (X:XK):bA (F9 T acT Í 40) (fnOf 185).scope.names (ar (fnOf 185).scope) Ho vs Z N R X=Ao acT vs Z N R X:=by kernel_rfl
abbrev DD:=sR (eC .Eq (eT (lc (eM "join" (Ł "") (Ń (eN 18))) (Ń (eN 19)))) (eT (lc (eN 28) (Ń (eN 37)))))
abbrev DA:=sq DD s0
abbrev DC:=sA (aN 37) (eB .Add (eB .Add (eB .Add (eB .Add (Ł "Prefix ") (eN 21)) (eL (.str " of QName \""))) (eS (eN 36) (ń 0))) (eL (.str "\" is not declared in scope")))
abbrev Dz:=sq DC DA
abbrev DB:=sA (aN 21) (eS (eF (eL (.fn 173)) (Ń (eS (eN 36) (ń 0)))) (ń 0))
abbrev Dy:=sq DB Dz
abbrev DF:=sq (sA (aN 30) (RL 2 (eN 29) (cm (aN 1) t1 (Qt ă (eB .Add (Ł "n") (eF (eL (.bf .str)) (Ń (eM "index" (eN 31) (Ń ă))))))))) s0
abbrev DH:=sA (aN 42) (eB .Add (eB .Add (eS (eN 30) (eS č (eS (eN 35) (ń 0)))) (Ł ":")) (eS (eN 35) (ń 1)))
abbrev DG:=sq DH s0
abbrev kl:=sG 28 (eB .Add (eB .Add (eB .Add (eB .Add (eB .Add (Ł " ") (eN 21)) (eS (eM "split" (eN 33) (Ń (Ł "}"))) (ń (-1)))) (eL (.str "=\""))) (eR "\n" "&#xA;" (eN 42))) (eL (.str "\"")))
abbrev qz:=sq kl s0
abbrev kj:=sA (aN 21) (eI (tC .Eq (IY (eN 33) (eL .none) (ń 1) (eL .none)) (Ł "{")) (eB .Add (eS (eN 30) (eF (eL (.fn 180)) (Ń (eN 33)))) (Ł ":")) (Ł ""))
abbrev qy:=sq kj qz
abbrev ki:=sI (tC .IsNot (eN 35) (eL .none)) DG s0
abbrev qx:=sq ki qy
abbrev kg:=sW [35,42] (eT (lc (eS (eN 16) (eN 33)) (Ń (eM "get" (eN 34) (Ń (eN 33))))))
abbrev qu:=sq kg qx
abbrev iF:=sA (aN 31) (eI (tC .Is (eN 32) (eL .none)) (eN 31) (eB .Add (eB .Add (eS (eN 30) (eS č (eS (eN 32) (ń 0)))) (Ł ":")) (eS (eN 32) (ń 1))))
abbrev na:=sq iF s0
abbrev iE:=sG 28 (Ł ">")
abbrev m9:=sq iE na
abbrev iB:=sF (aN 33) (eF (eL (.bf .sorted)) (Ń (eN 16))) qu
abbrev m8:=sq iB m9
abbrev iA:=sG 28 (eB .Add (eB .Add (Ł "<") (eN 41)) (eM "join" (Ł "") (Ń (Ct Ï 3 (eN 40) (cm (aT 2 (ac (aN 1) (ac (aN 2) a0))) t1 (vg (eB .Add (eB .Add (eB .Add (eB .Add (Ł " xmlns:") ă) (eL (.str "=\""))) ą) (eL (.str "\"")))))))))
abbrev m7:=sq iA m8
abbrev iz:=sE (eM "append" (eN 12) (Ń (eT (lc (eN 41) (Ń (eN 39))))))
abbrev mZ:=sq iz m7
abbrev iy:=sA (aN 41) (eB .Add (eI (tZ .In (eF (eL (.fn 180)) (Ń (eN 24))) (eN 30)) (eB .Add (eS (eN 30) (eF (eL (.fn 180)) (Ń (eN 24)))) (Ł ":")) (Ł "")) (eS (eM "split" (eN 24) (Ń (Ł "}"))) (ń (-1))))
abbrev mY:=sq iy mZ
abbrev kf:=sA (aN 40) (eF (eL (.bf .sorted)) (Ń (Ct Ï 2 (eN 39) (cm (aN 1) (tc (tZ .NotIn ă (Ct Ï 3 (eN 14) (cn (aN 1) t1 (eS ă (ń 1)) (cm (aN 2) t1 (vg ą))))) t1) (vg (eT (lc (eS (eN 32) ă) (Ń ă))))))))
abbrev qr:=sq kf mY
abbrev ke:=sI (tV ą) DF s0
abbrev qp:=sq ke qr
abbrev ka:=sE (eM "extend" (eN 29) (Ń (Ct Ï 2 (eN 39) (cm (aN 1) (tc (tZ .NotIn ă (eN 31)) t1) (vg ă)))))
abbrev qo:=sq ka qp
abbrev j9:=sA (aN 39) (Ct Ï 2 (eN 39) (cm (aN 1) (tc (to (tC .NotEq ă (Ł "")) (to (tV ĉ) t0)) t1) (vg ă)))
abbrev qm:=sq j9 qo
abbrev j8:=sA (aN 39) (eF (eL (.bf .sorted)) (Ń (eF (eL (.bf .set)) (Ń (eB .Add (Ct Ï 2 (eB .Add (eK Ï (Ń (eN 24))) (eF (eL (.bf .list)) (Ń (eN 16)))) (cm (aN 1) t1 (vg (eF (eL (.fn 180)) (Ń ă))))) (eN 38))))))
abbrev qj:=sq j8 qm
abbrev j7:=sA (aN 38) (Ct Ï 2 (eB .Add (eK Ï (Ń (eN 32))) (eF (eL (.bf .list)) (Ń (eM "values" (eN 34) l0)))) (cm (aN 1) (tc (tC .IsNot ă (eL .none)) t1) (vg (eS đ (eS ă (ń 0))))))
abbrev qi:=sq j7 qj
abbrev gM:=sI (tC .NotEq (eN 36) (eK Ï l0)) Dy s0
abbrev qh:=sq gM qi
abbrev j6:=sA (aN 36) (Ct Ï 3 (eB .Add (eK Ï (Ń (eT (lc (eN 31) (Ń (eN 32)))))) (Ct Ï 2 (eN 34) (cm (aN 1) t1 (vg (eT (lc (eS (eN 18) ă) (Ń (eS (eN 36) ă)))))))) (cm (aT 2 (ac (aN 1) (ac (aN 2) a0))) (tc (tc (tC .IsNot ą (eL .none)) (tc (tZ .NotIn (eS ą (ń 0)) ē) t1)) t1) (vg ă)))
abbrev qg:=sq j6 qh
abbrev j5:=sA (aN 34) (RL 2 (eN 16) (cm (aN 1) (tc (tC .In ă (eN 10)) t1) (Qt ă (eF (eL (.fn 173)) (Ń (eS (eN 18) ă))))))
abbrev qf:=sq j5 qg
abbrev j4:=sA (aN 32) (eI (tC .In (eN 24) ď) (eF (eL (.fn 173)) (Ń (eN 31))) (eL .none))
abbrev qe:=sq j4 qf
abbrev xL:=sq (sG 28 (eI (tC .Eq (eN 23) (Ł "end")) (eB .Add (eB .Add (Ł "</") (eS (eM "pop" (eN 12) l0) (ń 0))) (Ł ">")) (Ł "<?i?>"))) s0
abbrev eU:=sG 28 (eR "<" "&lt;" (eN 31))
abbrev gK:=sq eU s0
abbrev gL:=sI (tC .Eq (eN 23) (Ł "start")) qe xL
abbrev gJ:=sq gL gK
abbrev eQ:=sA (aN 31) (eI (tV ć) (eM "strip" (eM "join" (Ł "") (Ń (eN 25))) (Ń (Ł " \n"))) (eM "join" (Ł "") (Ń (eN 25))))
abbrev eO:=sq eQ gJ
abbrev KG:=sR (eC .Eq (eT (lc (eM "join" (Ł "") (Ń (eN 18))) (Ń (eN 19)))) (eT (lc (eN 28) (Ń (eL .none)))))
abbrev sZ:=sq KG s0
abbrev AA:=sF (aT 4 (ac (aN 23) (ac (aN 24) (ac (aN 16) (ac (aN 25) a0))))) (eN 11) eO
abbrev Ay:=sq AA sZ
abbrev s4:=sA (aN 30) (RL 3 (IY ċ (eL .none) (eL .none) (ń (-1))) (cm (aT 2 (ac (aN 1) (ac (aN 2) a0))) t1 (Qt ą ă)))
abbrev sY:=sq s4 Ay
abbrev Az:=sA (aT 3 (ac (aN 28) (ac (aN 29) (ac (aN 12) a0)))) (eT (lc (Ł "") (lc (eK Í l0) (Ń (eK Í l0)))))
abbrev Ax:=sq Az sY
def Hp:È ϳ:=((fnOf 185).body.drop 16).take 4
def Uc (acT:aj) (vs:Vs) (Z:aa) (N:NK) (R:RK) (X:XK):bA (F9 T acT Í 40) (fnOf 185).scope.names (ar (fnOf 185).scope) Hp vs Z N R X=Ax acT vs Z N R X:=by kernel_rfl
end
set_option backward.match.sparseCases true
structure Cx where
 w:WW
 K:aaD
 h₀:ę
 mg:Ì->Æ Ê
 mb:Ì->Æ Ê
noncomputable abbrev Cx.prog (_:Cx):Xx:=PySem.Challenge.rw_dr0133_01.row.prog
abbrev Cx.M (c:Cx):Model:=Ϧ c.prog c.w
abbrev Cx.sk (c:Cx):KeyKind c.prog c.w Ì:=strKind c.prog c.w
noncomputable def erase (h:ę) (a:Ü):ę:={ h with objs:=h.objs.setIfInBounds a ⟨.none,U,.freed,#[]⟩ }
def Vv (K:aaD) (w:WW) (h:ę) (mg B:Ì->Æ Ê):Cx:=⟨w,K,erase h 123,mg,B⟩
def zg (I:Prop) (w:WW) (s:Ç) (mg H:Ì->Æ Ê):Prop:=∀(h:(R5 w.params).In s.heap->s.heap.get? 123=C (tabObj #[])->s.heap.Ns ġ mg->s.heap.Ns Ŏ H->s.heap.NoLimit->(∀x:Ì,x≠"__name__"->H x=Yg x)->(∃bm B,mg "__builtins__" = C (.ref bm)/\bm≠Ŏ/\s.heap.get? bm=C B/\B.cls = .type "module"/\B.dict=C Ŏ/\B.data = .plain)->YU s.gens->∀{G l:Ü} (_:mg (Ć "law")=C (.ref G)) {vs:ZA} {xs:È Į} {m:Ó} (_:s.heap.get? l=C { cls:=.type "list",data:=.seq vs.toArray m }) (_:IntsAre vs xs) (_:xs.length<=63),Î (Ϧ PySem.Challenge.rw_dr0133_01.row.prog w) callerA (call (.ref G) [.ref l]) (λv D=>v = .bool Í/\OldK s.heap D.heap/\D.os=s.os/\YU D.gens) (λJ J=>False) s),I
def zf:=λw s mg D=>∀B,zg B w s mg D->B
def zf.mk:zg (zf w s mg mb) w s mg mb:=λh J B=>B h
def Mz (D:Prop) (c:Cx):Prop:=∀(w:WW) (s:Ç) (mg B:Ì->Æ Ê) (e:c=Vv (R5 w.params) w s.heap mg B) (n:¬ zf w s mg B),D
def My:=λc=>∀B,Mz B c->B
def My.mk:Mz (My c) c:=λw s mg D e n J B=>B w s mg D e n
open Classical in
def Np:∃c:Cx,(∃c,My c)->My c:=if h:∃c,My c then h.elim λc b=>⟨c,λJ=>b⟩else⟨Vv default (aWorld 0) default (λJ=>U) λJ=>U,λb=>absurd b h⟩
def cx:Cx:=WY Np
def Ou {c:Cx} (h:My c):My cx:=a7 Np ⟨c,h⟩
structure G where
 I:Ü->Æ ϑ
 ρ:È Ü
abbrev R9 (items:ÿ Ê) (o:ϑ):Prop:=∃n,o={ cls:=.type "list",data:=.seq items n }
abbrev Vg (items:ÿ Ê) (o:ϑ):Prop:=∃n,o={ cls:=.type "tuple",data:=.seq items n }
noncomputable abbrev d8 (v u:Ê):ϑ:={ cls:=.type "builtin_function_or_method",data:=.fields #[v,u] }
noncomputable abbrev PW (a b c:Ê):ϑ:={ cls:=.type "range",data:=.fields #[a,b,c] }
structure zo (n:Ó) (t:Ś):Prop where
 led:cx.w.params.followText "set-order" = Ï->t.led=Í
 plain:1<=n->t.plain=Ï
 zero:n=0->t.mask=7/\t.place = #[]/\t.dummies = #[]
 few:n<=2->t.mask=7/\t.dummies = #[]
def FA (B:Prop) (ks:ZC) (o:ϑ):Prop:=∀(es:ÿ (Į×Ê)) (ep:Ó) (t:Ś) (x:o.ExactSet) (d:o.data = .set es ep t) (el:aay cx.sk es.toList) (m:∀k,ks.contains k=Í↔∃e∈es.toList,cx.sk.is k e.2=Í) (b:es.size<ű) (f:t.fits es.size=Í) (n:es.size=ks.length) (nd:ks.Nodup) (z:∀k∈ks,k.length<=Ö) (tb:zo es.size t),B
def il:=λks o=>∀B,FA B ks o->B
def il.mk:FA (il ks o) ks o:=λes ep t x d G m b f n nd z H J B=>B es ep t x d G m b f n nd z H
def il.obj (x:il ks o):o.SetObjOf cx.sk (λk=>ks.contains k) ks.length:=(by refine x _ λes ep t x d B m J f n J J J=>?_;exact⟨x,es,ep,t,d,B,m,n,f⟩)
def il.lt (x:il ks o):ks.length<ű:=(by refine x _ λJ J J J J J J b J n J J J=>?_;exact n▸b)
def il.nd (x:il ks o):ks.Nodup:=x _ λJ J J J J J J J J J nd J J=>nd
def zn (B:Prop) (h:ę) (a:Ü) (ks:ZC):Prop:=∀(o:ϑ) (e:h.get? a=C o) (x:il ks o),B
def ba:=λh a ks=>∀B,zn B h a ks->B
def ba.mk:zn (ba h a ks) h a ks:=λo e x J B=>B o e x
def ba.at {h h':ę} {a:Ü} (H:ba h a ks) (k:∀o,h.get? a=C o->h'.get? a=C o):ba h' a ks:=(by refine H _ λo e x=>?_;exact(.mk o (k _ e) x))
def ba.there {h:ę} {a:Ü} (H:ba h a ks):∃o,h.get? a=C o:=(by refine H _ λo e J=>?_;exact⟨o,e⟩)
def ba.of {h:ę} {a:Ü} (H:ba h a ks):h.SetOf cx.sk a (λk=>ks.contains k) ks.length:=(by refine H _ λJ e x=>?_;exact x.obj.setOf e x.lt)
section
variable (g:G) (n:Ó) (ks:ZC) (P:È Ê->Prop) (R:Ê->Prop) (v:Ê)
def Fx (B:Prop) (s:Ì):Prop:=∀(t:YP) (e:v = .str s t) (z:s.length<=Ö),B
def B5:=λs=>∀B,Fx v B s->B
variable {v} in
def B5.mk:Fx v (B5 v s) s:=λt e z J B=>B t e z
def Fy (B:Prop):Prop:=∀(a:Ü) (o:ϑ) (vs:ZA) (e:v = .ref a) (i:g.I a=C o) (t:Vg vs.toArray o) (r:P vs) (z:n<=Ö),B
def rI:Prop:=∀B:Prop,Fy g n P v B->B
variable {g n P v} in
def rI.mk:Fy g n P v (rI g n P v):=λa o vs e i t r z J B=>B a o vs e i t r z
def MW (B:Prop):Prop:=∀(a:Ü) (o:ϑ) (vs:ZA) (e:v = .ref a) (i:g.I a=C o) (t:R9 vs.toArray o) (r:P vs) (z:n<=Ö),B
def B4:Prop:=∀B:Prop,MW g n P v B->B
variable {g n P v} in
def B4.mk:MW g n P v (B4 g n P v):=λa o vs e i t r z J B=>B a o vs e i t r z
def MV (B:Prop):Prop:=∀(a:Ü) (o:ϑ) (vs:ZA) (e:v = .ref a) (i:g.I a=C o) (d:o.IsDictOf cx.sk (ks.zip vs)) (l:ks.length=n) (r:P vs) (q:(a==Κ)=Ï) (z:ks.length<=Ö) (y:∀k∈ks,k.length<=Ö),B
def Fv:Prop:=∀B:Prop,MV g n ks P v B->B
variable {g n ks P v} in
def Fv.mk:MV g n ks P v (Fv g n ks P v):=λa o vs e i d l r q z y J B=>B a o vs e i d l r q z y
def M4 (B:Prop):Prop:=∀(a:Ü) (o:ϑ) (e:v = .ref a) (i:g.I a=C o) (d:il ks o),B
def M3:Prop:=∀B:Prop,M4 g ks v B->B
variable {g ks v} in
def M3.mk:M4 g ks v (M3 g ks v):=λa o e i d J B=>B a o e i d
def M2 (B:Prop):Prop:=∀(x a:Ü) (e:v = .ref x) (i:g.I x=C (Xy T.acT a)) (l:g.ρ[n]? = C a),B
def M1:Prop:=∀B:Prop,M2 g n v B->B
variable {g n v} in
def M1.mk:M2 g n v (M1 g n v):=λx a e i l J B=>B x a e i l
def MU (B:Prop) (b:Ê):Prop:=∀(a:Ü) (u:Ê) (e:v = .ref a) (i:g.I a=C (d8 b u)) (r:R u),B
def MT:=λb=>∀B,MU g R v B b->B
variable {g R v} in
def MT.mk:MU g R v (MT g R v b) b:=λa u e i r J B=>B a u e i r
def M0 (B:Prop) (f:Ü):Prop:=∀(a:Ü) (u:Ê) (e:v = .ref a) (i:g.I a=C (methodObj (.ref f) u)) (r:R u),B
def MZ:=λf=>∀B,M0 g R v B f->B
variable {g R v} in
def MZ.mk:M0 g R v (MZ g R v f) f:=λa u e i r J B=>B a u e i r
def Fw (B:Prop) (x y:Į):Prop:=∀(p:Ü) (o:ϑ) (e:v = .ref p) (i:g.I p=C o) (r:∃t u G,o=PW (.int x t) (.int y u) (.int 1 G)),B
def xf:=λx y=>∀B,Fw g v B x y->B
variable {g v} in
def xf.mk:Fw g v (xf g v x y) x y:=λp o e i r J B=>B p o e i r
def MX (B:Prop) (Ty:Λ):Prop:=∀(a:Ü) (o:ϑ) (d:Ü) (e:v = .ref a) (i:g.I a=C o) (c:o.cls = .type Ty) (f:o.data = .fields #[.ref d]) (r:R (.ref d)),B
def Jd:=λTy=>∀B,MX g R v B Ty->B
variable {g R v} in
def Jd.mk {Ty:Λ}:MX g R v (Jd g R v Ty) Ty:=λa o d e i c f r J B=>B a o d e i c f r
def MY (B:Prop):Prop:=∀(a:Ü) (o:ϑ) (e:v = .ref a) (i:g.I a=C o) (c:o.cls = .type "re.Match"),B
def N1:Prop:=∀B:Prop,MY g v B->B
variable {g v} in
def N1.mk:MY g v (N1 g v):=λa o e i c J B=>B a o e i c
end
mutual
noncomputable def VR (g:G):AV->Ê->Prop
 | .none,v=>v = .none
 | .bool b,v=>v = .bool b
 | .int i,v=>∃t,v = .int i t
 | .str s,v=>B5 v s
 | .tup xs,v=>rI g xs.length (aG g xs) v
 | .fl xs,v=>B4 g xs.length (aG g xs) v
 | .fd ks xs,v=>Fv g xs.length ks (aG g xs) v
 | .ws ks,v=>M3 g ks v
 | .loc l,v=>∃a,v = .ref a/\g.ρ[l]? = C a
 | .obj d,v=>M1 g d v
 | .fn a,v=>v = .ref a
 | .bf b,v=>v=b.val
 | .bm b x,v=>MT g (VR g x) v b.val
 | .mt f x,v=>MZ g (VR g x) v f
 | .rng a b,v=>xf g v a b
 | .iv x,v=>Jd g (VR g x) v "dict_items"
 | .vv x,v=>Jd g (VR g x) v "dict_values"
 | .lk,v=>v = .ref T.lk
 | .mo,v=>N1 g v
noncomputable def aG (g:G):È AV->È Ê->Prop
 | [],vs=>vs=[]
 | x::xs,vs=>∃v r,vs=v::r/\VR g x v/\aG g xs r
end
structure G.le (g D:G):Prop where
 I:∀a o,g.I a=C o->D.I a=C o
 ρ:∃r,D.ρ=g.ρ++r
def G.le.refl (g:G):g.le g:=⟨λJ J e=>e,⟨[],by simp⟩⟩
def G.le.trans {g D B:G} (a:g.le D) (b:D.le B):g.le B:=by
 obtain⟨r,L⟩:=a.ρ
 obtain⟨q,H⟩:=b.ρ
 exact⟨λx o e=>b.I x o (a.I x o e),⟨r++q,by rw[H,L,ø]⟩⟩
def G.le.at {g D:G} (a:g.le D) {l:Ó} {x:Ü} (e:g.ρ[l]? = C x):D.ρ[l]? = C x:=by
 obtain⟨r,B⟩:=a.ρ
 rw[B,ľ (î.mp e).1];exact e
section
variable {g D:G} (le:g.le D)
include le
def rI.mono (k:∀vs,P vs->P' vs) (h:rI g n P v):rI D n P' v:=by exact h _ λa o vs e i t r z=>by exact(.mk a o vs e (le.I _ _ i) t (k _ r) z)
def B4.mono (k:∀vs,P vs->P' vs) (h:B4 g n P v):B4 D n P' v:=by exact h _ λa o vs e i t r z=>by exact(.mk a o vs e (le.I _ _ i) t (k _ r) z)
def Fv.mono (k:∀vs,P vs->P' vs) (h:Fv g n ks P v):Fv D n ks P' v:=by exact h _ λa o vs e i d l r q z y=>by exact(.mk a o vs e (le.I _ _ i) d l (k _ r) q z y)
def M3.mono (h:M3 g ks v):M3 D ks v:=by exact h _ λa o e i d=>by exact(.mk a o e (le.I _ _ i) d)
def M1.mono (h:M1 g n v):M1 D n v:=by exact h _ λx a e i j=>by exact(.mk x a e (le.I _ _ i) (le.at j))
def MT.mono (k:∀u,R u->R' u) (h:MT g R v b):MT D R' v b:=by exact h _ λa u e i r=>by exact(.mk a u e (le.I _ _ i) (k _ r))
def MZ.mono (k:∀u,R u->R' u) (h:MZ g R v f):MZ D R' v f:=by exact h _ λa u e i r=>by exact(.mk a u e (le.I _ _ i) (k _ r))
def xf.mono (h:xf g v x y):xf D v x y:=by exact h _ λp o e i r=>by exact(.mk p o e (le.I _ _ i) r)
def N1.mono (h:N1 g v):N1 D v:=by exact h _ λa o e i c=>by exact(.mk a o e (le.I _ _ i) c)
def Jd.mono {T:Λ} (k:∀u,R u->R' u) (h:Jd g R v T):Jd D R' v T:=by exact h _ λa o d e i c f r=>by exact(.mk a o d e (le.I _ _ i) c f (k _ r))
end
mutual
theorem VR.mono {g D:G} (le:g.le D):∀{x:AV} {v:Ê},VR g x v->VR D x v
 | .none,_,h=>h
 | .bool _,_,h=>h
 | .int _,_,h=>h
 | .str _,_,h=>h
 | .tup _,_,h=>rI.mono le (λJ r=>aG.mono le r) h
 | .fl _,_,h=>B4.mono le (λJ r=>aG.mono le r) h
 | .fd _ _,_,h=>Fv.mono le (λJ r=>aG.mono le r) h
 | .ws _,_,h=>M3.mono le h
 | .loc _,_,h=>let ⟨a,e,i⟩:=h;⟨a,e,le.at i⟩
 | .obj _,_,h=>M1.mono le h
 | .fn _,_,h=>h
 | .bf _,_,h=>h
 | .bm _ _,_,h=>MT.mono le (λJ r=>VR.mono le r) h
 | .mt _ _,_,h=>MZ.mono le (λJ r=>VR.mono le r) h
 | .rng _ _,_,h=>xf.mono le h
 | .iv _,_,h=>Jd.mono le (λJ r=>VR.mono le r) h
 | .vv _,_,h=>Jd.mono le (λJ r=>VR.mono le r) h
 | .lk,_,h=>h
 | .mo,_,h=>N1.mono le h
theorem aG.mono {g D:G} (le:g.le D):∀{xs:ZB} {vs:ZA},aG g xs vs->aG D xs vs
 | [],_,h=>h
 | _::_,_,h=>let ⟨v,r,e,h,t⟩:=h;⟨v,r,e,VR.mono le h,aG.mono le t⟩
end
section
def aG.nil:aG g [] []:=by rfl
def aG.cons {x:AV} {xs:ZB} {v:Ê} {vs:ZA} (h:VR g x v) (t:aG g xs vs):aG g (x::xs) (v::vs):=by
 skip;exact⟨v,vs,rfl,h,t⟩
def aG.b! {x:AV} {xs:ZB} {vs:ZA} (h:aG g (x::xs) vs):∃v r,vs=v::r/\VR g x v/\aG g xs r:=by
 exact h
def aG.d! {vs:ZA} (h:aG g [] vs):vs=[]:=h
theorem aG.length:∀{xs:ZB} {vs:ZA},aG g xs vs->xs.length=vs.length
 | [],_,h=>by rw[h.d!];rfl
 | _::_,_,h=>by obtain⟨v,r,rfl,_,t⟩:=h.b!;simp[t.length]
theorem aG.append:∀{xs ys:ZB} {vs us:ZA},aG g xs vs->aG g ys us->aG g (xs++ys) (vs++us)
 | [],_,_,_,h,k=>by rw[h.d!];exact k
 | _::_,_,_,_,h,k=>by obtain⟨v,r,rfl,a,t⟩:=h.b!;exact .cons a (t.append k)
theorem aG.get:∀{xs:ZB} {vs:ZA} {i:Ó} {x:AV},aG g xs vs->xs[i]? = C x->∃v,vs[i]? = C v/\VR g x v
 | [],_,_,_,_,e=>by trivial
 | y::ys,_,0,x,h,e=>by rcases _:h.b! with⟨v,r,rfl,a,t⟩;simp at e;subst e;exact⟨v,rfl,a⟩
 | y::ys,_,i+1,x,h,e=>by obtain⟨v,r,rfl,a,t⟩:=h.b!;simp at e;obtain⟨u,p,q⟩:=t.get e;exact⟨u,by exact p,q⟩
theorem aG.take:∀{xs:ZB} {vs:ZA} (n:Ó),aG g xs vs->aG g (xs.take n) (vs.take n)
 | _,_,0,_=>by exact aG.nil
 | [],_,_+1,h=>by simp only[h.d!];exact aG.nil
 | _::_,_,n+1,h=>by rcases _:h.b! with⟨v,r,rfl,a,t⟩;exact aG.cons a (t.take n)
theorem aG.drop:∀{xs:ZB} {vs:ZA} (n:Ó),aG g xs vs->aG g (xs.drop n) (vs.drop n)
 | _,_,0,h=>by exact h
 | [],_,_+1,h=>by simp only[h.d!];exact aG.nil
 | _::_,_,n+1,h=>by rcases _:h.b! with⟨v,r,rfl,a,t⟩;exact t.drop n
theorem aG.reverse:∀{xs:ZB} {vs:ZA},aG g xs vs->aG g xs.reverse vs.reverse
 | [],_,h=>by rw[h.d!];simpa using aG.nil
 | _::_,_,h=>by obtain⟨v,r,rfl,a,t⟩:=h.b!;simpa using t.reverse.append (.cons a .nil)
end
structure pk:Prop where
 X:cx.K.In cx.h₀
 ga:YB cx.K (.ref T.acT) "__getattribute__" = C (C (.builtin "object.__getattribute__"))
 gh:YB cx.K (.ref T.acT) "__getattr__" = C U
 sa:YB cx.K (.ref T.acT) "__setattr__" = C (C (.builtin "object.__setattr__"))
 over:plainOver cx.K T.acT=Í
 dict:hasDictIn cx.K T.acT=Í
 attr:∀x∈T.an,takerIn cx.K T.acT x=C U/\YB cx.K (.ref T.acT) x=C U
 ms:∀x f,x∉T.an->T.ms.lookup x=C f->YB cx.K (.ref T.acT) x=C (C (.ref f))/\typeIn cx.K (.ref f)=C (.type "function")/\fnIn cx.K f=Í/\
  specialIn cx.K (.ref f) "__get__" = C (C (.builtin "function.__get__"))/\takesIn cx.K (.ref f)=C Ï/\copiedNames.contains x=Ï
structure Fq:Prop where
 makes:makesIn cx.K T.acT=Í
 ini:YB cx.K (.ref T.acT) "__init__" = C (C (.ref T.ini))
 iniFn:typeIn cx.K (.ref T.ini)=C (.type "function")
 keep:keepIn cx.K (.ref T.acT)=Í
structure QM:Prop where
 mods:∃b o,Κ<=b/\cx.h₀.get? b=C o
 gns:cx.h₀.Ns ġ cx.mg
 bns:cx.h₀.Ns Ŏ cx.mb
 names:∀x v,T.gl.lookup x=C v->∃u,(cx.mg x=C u\/(cx.mg x=U/\cx.mb x=C u))/\∀g,(∀a o,cx.h₀.get? a=C o->g.I a=C o)->VR g v u
 err:cx.mg "ValueError" = U/\cx.mb "ValueError" = C (.type "ValueError")
structure MP:Prop where
 code:CodeHd cx.h₀ T.lc T.lP
 bm:∃bm o,cx.mg "__builtins__" = C (.ref bm)/\bm≠Ŏ/\bm≠ġ/\cx.h₀.get? bm=C o/\o.cls = .type "module"/\o.dict=C Ŏ/\o.data = .plain
 out:cx.h₀.get? T.lP=U
structure Jf (sc:Α):Prop where
 kind:sc.kind = .function
 free:∀p∈sc.names,p.2≠.free
 co:sc.isCoroutine=Ï
noncomputable def pick:È Ì->È Ê->È (Ì×Ê)->È (Ì×Ê)
 | n::ns,d::ds,kw=>(n,(kw.lookup n).getD d)::pick ns ds kw
 | _,_,_=>[]
def uF (H:Prop) (f:Fn) (L:Y9):Prop:=∀(dv B:ZA) (hd:∀g:G,(∀a o,cx.h₀.get? a=C o->g.I a=C o)->aG g f.dfl dv/\aG g (f.kwd.map (·.2)) B) (run:∀kn∈f.kws,∀j ≤ f.dfl.length,∀us uk:È Ê,us.length+(f.dfl.length - j)=f.pars.length->uk.length=kn.length->∀s:Ç,cx.K.In s.heap->BindsTo s L ⟨us,kn.zip uk⟩ (f.pars.zip (us++dv.drop j)++pick (f.kwd.map (·.1)) B (kn.zip uk))),H
def rF:=λf G=>∀B,uF B f G->B
def rF.mk:uF (rF f fd) f fd:=λdv H G run J B=>B dv H G run
def Ff (I:Prop) (a:Ü) (f:Fn) (H:ì):Prop:=∀(o:ϑ) (G:Y9) (ho:cx.h₀.get? a=C o) (hd:o.data = .func G) (hb:G.body = .stmts f.body) (hs:G.scope=f.scope) (S:Jf f.scope) (sg:f.scope.isGenerator=H) (hg:G.globals=ġ) (hbl:G.builtins=Ŏ) (hcl:G.closure=[]) (hc:cx.h₀.CodeRec G.code G.qualname) (k:keepIn cx.K (.ref a)=Í) (n:fnIn cx.K a=Í) (l:(f.scope.names.lookup ("resolved_names" : Ì)).isSome=Í->G.code = .ref T.lc/\G.qualname++".<locals>." = T.lq) (st:∀p∈f.pars++f.kwd.map (·.1),bI f.scope.names p=Í) (B:rF f G),I
def B3:=λa f B=>∀G,Ff G a f B->G
def B3.mk:Ff (B3 a f gen) a f gen:=λo L Y À O E S A V G H Q k n l st B J I=>I o L Y À O E S A V G H Q k n l st B
noncomputable def EF:ÿ Ó:=#[14,4,0,3,4294967295,6,0,24,9,1,4294967295,13,4,8,14,0,1,16,58,24,9,1,4294967295,13,4,8,14,0,1,6,5,1]
def MS (H:Prop) (h:ę) (m:Ü):Prop:=∀(a c:Ü) (B G:ϑ) (pt I L O:Ê) (Q À:YP) (vs:ÿ Ê) (n:Ó) (hm:h.get? m=C (d8 (.builtin "re.Pattern.match") (.ref a))) (hp:h.get? a=C B) (hk:B.cls = .type "re.Pattern") (hd:B.data = .fields #[pt,I,.int 0 Q,L,O,.ref c,.int 0 À]) (hc:h.get? c=C G) (ho:G.data = .seq vs n) (hv:(vs.map aei).map (·.toNat)=EF),H
def IW:=λh m=>∀B,MS B h m->B
def IW.mk:MS (IW h m) h m:=λa c E Y pt G H I A acT vs n Q V hk O L À hv J B=>B a c E Y pt G H I A acT vs n Q V hk O L À hv
def IW.at {h h':ę} {m:Ü} (H:IW h m) (k:∀b o,h.get? b=C o->h'.get? b=C o):IW h' m:=
 (by refine H _ λa c E Y pt B G I A acT vs n Q V hk O L À hv=>?_;exact(.mk a c E Y pt B G I A acT vs n (k _ _ Q) (k _ _ V) hk O (k _ _ L) À hv))
structure Tq:Prop where
 cls:pk
 make:Fq
 gl:QM
 lam:MP
 lim:cx.h₀.NoLimit
 fn:∀a f,T.fn.lookup a=C f->B3 a f Ï
 it:B3 T.it E3 Í
 few:T.an.length<=100
 pat:IW cx.h₀ T.lk
def MQ (B:Prop) (h:ę) (a:Ü) (m:Ì->Æ Ê) (k:Ó):Prop:=∀(o:ϑ) (es:ÿ mc) (ep:Ó) (e:h.get? a=C o) (d:o.data = .dict es ep) (s:StrKeys es) (f:∀name,nsFind es name=m name) (z:es.size<=k),B
def Jc:=λh a m k=>∀B,MQ B h a m k->B
def Jc.mk:MQ (Jc h a m k) h a m k:=λo es ep e d s f z J B=>B o es ep e d s f z
def Jc.ns {h:ę} {a:Ü} {m:Ì->Æ Ê} {k:Ó} (x:Jc h a m k):h.Ns a m:=(by refine x _ λo es ep a b c d J=>?_;exact⟨o,es,ep,a,b,c,d⟩)
section
variable (g:G) (h:ę) (a:Ü)
def zl (B:Prop) (xs:ZB):Prop:=∀(vs:ZA) (p:h.PlainList a vs.toArray) (r:aG g xs vs) (z:xs.length<=Ö),B
def Fu:=λxs=>∀B,zl g h a B xs->B
variable {g h a} in
def Fu.mk:zl g h a (Fu g h a xs) xs:=λvs p r z J B=>B vs p r z
def zk (B:Prop) (kvs:ZF):Prop:=∀(vs:ZA) (p:h.DictAt cx.sk a ((kvs.map (·.1)).zip vs) kvs.length) (r:aG g (kvs.map (·.2)) vs) (q:(a==Κ)=Ï) (z:kvs.length<=Ö) (y:∀G∈kvs,G.1.length<=Ö),B
def Ft:=λkvs=>∀B,zk g h a B kvs->B
variable {g h a} in
def Ft.mk:zk g h a (Ft g h a kvs) kvs:=λvs p r q z y J B=>B vs p r q z y
def I5 (fs:È (Æ AV)) (m:Ì->Æ Ê):Prop:=∀x v,x∈T.an->fs[T.an.idxOf x]? = C (C v)->∃u,m x=C u/\VR g v u
def I4 (fs:È (Æ AV)) (m:Ì->Æ Ê):Prop:=∀x,(x∈T.an->fs[T.an.idxOf x]? = C U)->m x=U
def uM (B:Prop) (fs:È (Æ AV)):Prop:=∀(m:Ì->Æ Ê) (n:Jc h a m (fs.countP (·.isSome))) (l:fs.length=T.an.length) (k:T.an.length<=100) (i:I5 g fs m) (o:I4 fs m),B
def xa:=λfs=>∀B,uM g h a B fs->B
variable {g h a} in
def xa.mk:uM g h a (xa g h a fs) fs:=λm n l k i o J B=>B m n l k i o
def NX (ps:ÿ Ê):Prop:=codeAmong T.lam ps.toList=U\/∃c' B fs t,codeAmong T.lam ps.toList=C (.ref c')/\g.I c'=C B/\B.data = .fields fs/\fs[1]? = C (.str (T.lq++"<lambda>") t)
def zj (B:Prop):Prop:=∀(e:a=T.lP) (ps:ÿ Ê) (o:h.get? a=C (tabObj ps)) (t:TriplesOk ps.toList) (c:NX g ps),B
def Fs:Prop:=∀B:Prop,zj g h a B->B
variable {g h a} in
def Fs.mk:zj g h a (Fs g h a):=λe ps o t c J B=>B e ps o t c
end
def OR (g:G) (h:ę) (a:Ü):aK->Prop
 | .list xs=>Fu g h a xs
 | .dict kvs=>Ft g h a kvs
 | .set ks=>ba h a ks
 | .attrs fs=>xa g h a fs
 | .code=>Fs g h a
def OR.mono {g D:G} {h h':ę} {a:Ü} {o:aK} (le:g.le D) (k:∀B,h.get? a=C B->h'.get? a=C B) (x:OR g h a o):OR D h' a o:=by
 induction o with
 | list xs=>(refine x _ ?_;rintro vs ⟨n,e⟩ q z);exact(.mk vs ⟨n,k _ e⟩ (q.mono le) z)
 | dict kvs=>((refine x _ ?_;rintro vs ⟨B,es,e,r⟩ q z y w));exact(.mk vs ⟨B,es,k _ e,r⟩ (q.mono le) z y w)
 | set ks=>exact ba.at x k
 | attrs fs=>refine x _ λm H À Y V E=>H _ λB es ep e r q w z=>?_;exact(.mk m (.mk B es ep (k _ e) r q w z) À Y (λy v O e=>(by obtain⟨u,a,b⟩:=V y v O e;exact⟨u,a,b.mono le⟩)) E)
 | code=>refine x _ λL ps e t r=>?_;exact(.mk L ps (k _ e) t (r.imp id (by rintro⟨c',Q,fs,t,a,b,r⟩;exact⟨c',Q,fs,t,a,le.I _ _ b,r⟩)))
def OR.there {g:G} {h:ę} {a:Ü} {o:aK} (x:OR g h a o):∃B,h.get? a=C B:=by
 induction o with
 | list xs=>((refine x _ ?_;rintro vs ⟨n,e⟩ _ _));exact⟨_,e⟩
 | dict kvs=>((refine x _ ?_;rintro vs ⟨B,es,e,r⟩ _ _ _ _));exact⟨B,e⟩
 | set ks=>exact ba.there x
 | attrs fs=>refine x _ λm H J J J J=>H _ λB J J e J J J J=>?_;exact⟨B,e⟩
 | code=>refine x _ λJ ps e J J=>?_;exact⟨_,e⟩
structure Inv (g:G) (Z:aa) (s:Ç):Prop where
 sub:∀a o,g.I a=C o->s.heap.get? a=C o
 base:∀a o,cx.h₀.get? a=C o->g.I a=C o
 len:g.ρ.length=Z.length
 nodup:g.ρ.Nodup
 apart:∀a∈g.ρ,g.I a=U
 cells:∀(l:Ó) (o:aK) (a:Ü),Z[l]? = C o->g.ρ[l]? = C a->OR g s.heap a o
 one:1<=s.toks
 bare:YU s.gens
 H:Tq
structure bt (own:È Ü) (g:G) (s:Ç) (D:G) (s':Ç):Prop where
 le:g.le D
 toks:s.toks<=s'.toks
 keep:∀b o,s.heap.get? b=C o->b∉g.ρ->b∉own->s'.heap.get? b=C o
 new:∀b o,s.heap.get? b=C o->b∉g.ρ->b∉D.ρ
 newI:∀b o,s.heap.get? b=C o->g.I b=U->D.I b=U
 stay:∀b o,s.heap.get? b=C o->∃o',s'.heap.get? b=C o'
 gens:∀(k:Ó) y,s.gens[k]? = C y->s'.gens[k]? = C y
 os:s'.os=s.os
def bt.refl (own:È Ü) (g:G) (s:Ç):bt own g s g s:=⟨.refl g,Ë _,λJ J e J J=>e,λJ J J h=>h,λJ J J h=>h,λJ o e=>⟨o,e⟩,λJ J e=>e,rfl⟩
def bt.trans {own:È Ü} {g D B:G} {s I H:Ç} (a:bt own g s D I) (b:bt own D I B H):bt own g s B H:=
 ⟨a.le.trans b.le,Â a.toks b.toks,λx o e h q=>b.keep x o (a.keep x o e h q) (a.new x o e h) q,
  λx o e h=>let ⟨o',e'⟩:=a.stay x o e;b.new x o' e' (a.new x o e h),
  λx o e h=>let ⟨o',e'⟩:=a.stay x o e;b.newI x o' e' (a.newI x o e h),
  λx o e=>let ⟨o',e'⟩:=a.stay x o e;b.stay x o' e',λk y e=>b.gens k y (a.gens k y e),b.os.trans a.os⟩
def bt.m! {own B:È Ü} {g D:G} {s H:Ç} (a:bt own g s D H) (h:∀b∈own,b∈B):bt B g s D H:=
 ⟨a.le,a.toks,λx o e q z=>a.keep x o e q λy=>z (h x y),a.new,a.newI,a.stay,a.gens,a.os⟩
def bt.s! {own:È Ü} {g:G} {s:Ç} {t:Ó} (h:s.toks<=t):bt own g s g { s with toks:=t }:=⟨.refl g,h,λJ J e J J=>e,λJ J J h=>h,λJ J J h=>h,λJ o e=>⟨o,e⟩,λJ J e=>e,rfl⟩
def Inv.toks {g:G} {Z:aa} {s:Ç} (h:Inv g Z s) {t:Ó} (B:s.toks<=t):Inv g Z { s with toks:=t }:=
 ⟨h.sub,h.base,h.len,h.nodup,h.apart,h.cells,Â h.one B,h.bare,h.H⟩
def Inv.cell {g:G} {Z:aa} {s:Ç} (h:Inv g Z s) {l:Ó} {o:aK} (e:Z[l]? = C o):∃a,g.ρ[l]? = C a/\OR g s.heap a o:=by
 have B:l<g.ρ.length:=by rw[h.len];exact(î.mp e).1
 exact⟨g.ρ[l],by simp[B],h.cells l o _ e (by simp[B])⟩
def Inv.n' {g:G} {Z:aa} {s:Ç} (h:Inv g Z s) {a:Ü} {o:ϑ} (e:g.I a=C o):a∉g.ρ:=λq=>by rw[h.apart a q]at e;cases e
def Inv.keep {g:G} {Z:aa} {s:Ç} (h:Inv g Z s) {h':ę} {t:Ó} (B:s.toks<=t) (k:∀b o,s.heap.get? b=C o->h'.get? b=C o):Inv g Z { s with heap:=h',toks:=t }:=
 ⟨λa o e=>k _ _ (h.sub a o e),h.base,h.len,h.nodup,h.apart,λl o a e q=>(h.cells l o a e q).mono (.refl g) λJ e=>k _ _ e,Â h.one B,h.bare,h.H⟩
def bt.keeps {own:È Ü} {g:G} {s:Ç} {h':ę} {t:Ó} (B:s.toks<=t) (k:∀b o,s.heap.get? b=C o->h'.get? b=C o):bt own g s g { s with heap:=h',toks:=t }:=
 ⟨.refl g,B,λb o e J J=>k b o e,λJ J J h=>h,λJ J J h=>h,λb o e=>⟨o,k b o e⟩,λJ J e=>e,rfl⟩
noncomputable def G.freeze (g:G) (a:Ü) (o:ϑ):G:=⟨λb=>if b=a then C o else g.I b,g.ρ⟩
def G.é (g:G) (a:Ü) (o:ϑ):(g.freeze a o).I a=C o:=by simp[G.freeze]
def G.a! {g:G} {a:Ü} {o:ϑ} (h:g.I a=U):g.le (g.freeze a o):=
 ⟨λb x e=>by
  show(if b=a then C o else g.I b)=C x
  by_cases q:b=a
  ·subst q;rw[h]at e;cases e
  ·rw[Ý q];exact e,⟨[],by simp[G.freeze]⟩⟩
def Inv.fresh {g:G} {Z:aa} {s:Ç} (h:Inv g Z s) {a:Ü} (e:s.heap.get? a=U):g.I a=U/\a∉g.ρ:=by
 constructor
 ·generalize q:g.I a=zzy
  induction zzy with
  | none=>rfl
  | some o=>rw[h.sub a o q]at e;contradiction
 ·intro q
  obtain⟨l,H,rfl⟩:=Y1 q
  have L:l<Z.length:=by simp only[<-h.len];exact H
  obtain⟨ob,B⟩:=(h.cells l Z[l] g.ρ[l] (by simp[L]) (by simp[H])).there
  rw[B]at e;contradiction
def bt.n! {g g₀:G} {s s₀:Ç} {own:È Ü} {a:Ü} {o:ϑ} (x:bt own g₀ s₀ g s) (h:s₀.heap.get? a=U) (B:g.I a=U):bt own g₀ s₀ (g.freeze a o) s:=
 ⟨x.le.trans (G.a! B),x.toks,x.keep,x.new,λb H e p=>by
  show(if b=a then C o else g.I b)=U
  rw[Ý λz=>by rw[z,h]at e;contradiction];exact x.newI b H e p,x.stay,x.gens,x.os⟩
def Inv.add {g:G} {Z:aa} {s:Ç} (i:Inv g Z s) {a:Ü} {o:ϑ} (O:s.heap.get? a=C o) (L:a∉g.ρ) (B:g.I a=U):Inv (g.freeze a o) Z s:=by
 refine⟨λb x e=>?_,λb x e=>(G.a! B).I _ _ (i.base b x e),i.len,i.nodup,λb q=>?_,λl x b e q=>(i.cells l x b e q).mono (G.a! B) λJ e=>e,i.one,i.bare,i.H⟩
 ·have e:(if b=a then C o else g.I b)=C x:=e
  by_cases q:b=a
  ·subst q;rw[Û rfl]at e;obtain rfl:=Ä e;exact O
  ·rw[Ý q]at e;exact i.sub b x e
 ·show(if b=a then C o else g.I b)=U
  rw[Ý λz:b=a=>L (z▸q)];exact i.apart b q
def Inv.freeze {g:G} {Z:aa} {s:Ç} (h:Inv g Z s) {h':ę} {t:Ó} {a:Ü} {o:ϑ} (I:s.toks<=t) (H:s.heap.get? a=U) (B:h'.get? a=C o)
 (k:∀b o,s.heap.get? b=C o->h'.get? b=C o):Inv (g.freeze a o) Z { s with heap:=h',toks:=t }:=(h.keep I k).add B (h.fresh H).2 (h.fresh H).1
def bt.freeze {own:È Ü} {g:G} {Z:aa} {s:Ç} (h:Inv g Z s) {h':ę} {t:Ó} {a:Ü} {o:ϑ} (H:s.toks<=t) (B:s.heap.get? a=U)
 (k:∀b o,s.heap.get? b=C o->h'.get? b=C o):bt own g s (g.freeze a o) { s with heap:=h',toks:=t }:=(bt.keeps H k).n! B (h.fresh B).1
noncomputable def G.cell (g:G) (a:Ü):G:=⟨g.I,g.ρ++[a]⟩
def G.j' (g:G) (a:Ü):g.le (g.cell a):=⟨λJ J e=>e,⟨[a],rfl⟩⟩
def Inv.j! {g:G} {Z:aa} {s:Ç} (i:Inv g Z s) {a:Ü} {o:aK} (V:OR (g.cell a) s.heap a o) (Q:a∉g.ρ) (À:g.I a=U):Inv (g.cell a) (Z++[o]) s:=by
 refine⟨i.sub,i.base,by simp[G.cell,i.len],?_,λb B=>?_,λl E b e q=>?_,i.one,i.bare,i.H⟩
 ·show(g.ρ++[a]).Nodup
  rw[ō];exact⟨i.nodup,by simp,λx Y y O=>by rw[Ù]at O;subst O;exact λz=>Q (z▸Y)⟩
 ·rcases ý.mp B with B|B
  ·exact i.apart b B
  ·rw[Ù]at B;subst B;exact À
 ·by_cases hl:l<Z.length
  ·rw[ľ hl]at e
   have q:(g.ρ++[a])[l]? = C b:=q
   rw[ľ (by rw[i.len];exact hl)]at q
   exact(i.cells l E b e q).mono (G.j' g a) λJ e=>e
  ·have L:l=Z.length:=by
    have:=(î.mp e).1
    rw[Ð]at this
    exact ţ (ž this) (ņ hl)
   subst L
   rw[Ĳ]at e
   obtain rfl:=Ä e
   have q:(g.ρ++[a])[Z.length]? = C b:=q
   rw[<-i.len,Ĳ]at q
   obtain rfl:=Ä q
   exact V
def Inv.k! {g:G} {Z:aa} {s:Ç} (h:Inv g Z s) {h':ę} {t:Ó} {a:Ü} {o:aK} (I:s.toks<=t) (B:s.heap.get? a=U) (H:OR (g.cell a) h' a o)
 (k:∀b o,s.heap.get? b=C o->h'.get? b=C o):Inv (g.cell a) (Z++[o]) { s with heap:=h',toks:=t }:=(h.keep I k).j! H (h.fresh B).2 (h.fresh B).1
def bt.j! {g g₀:G} {s s₀:Ç} {own:È Ü} {a:Ü} (x:bt own g₀ s₀ g s) (h:s₀.heap.get? a=U):bt own g₀ s₀ (g.cell a) s:=
 ⟨x.le.trans (G.j' _ _),x.toks,x.keep,λb o e p q=>by
  rcases ý.mp q with q|q
  ·exact x.new b o e p q
  ·rw[Ù.mp q,h]at e;exact absurd e (by simp),x.newI,x.stay,x.gens,x.os⟩
def bt.k! {own:È Ü} {g:G} {s:Ç} {h':ę} {t:Ó} {a:Ü} (H:s.toks<=t) (B:s.heap.get? a=U)
 (k:∀b o,s.heap.get? b=C o->h'.get? b=C o):bt own g s (g.cell a) { s with heap:=h',toks:=t }:=(bt.keeps H k).j! B
def Inv.h! {g:G} {Z:aa} {s:Ç} (h:Inv g Z s) {h':ę} {t:Ó} {l:Ó} {a:Ü} {o:aK} (Q:s.toks<=t) (B:g.ρ[l]? = C a) (O:OR g h' a o) (L:∀b o,b≠a->s.heap.get? b=C o->h'.get? b=C o) :
 Inv g (Z.set l o) { s with heap:=h',toks:=t }:=by
 refine⟨λb x e=>?_,h.base,by simp[h.len],h.nodup,h.apart,λm x b e q=>?_,Â h.one Q,h.bare,h.H⟩
 ·exact L b x (λz=>h.n' e (z▸Ĉ B)) (h.sub b x e)
 ·by_cases hm:l=m
  ·subst hm
   rw[B]at q;obtain rfl:=Ä q
   rw[getElem?_set]at e
   simp only[WR]at e
   split at e
   ·obtain rfl:=Ä e;exact O
   ·contradiction
  ·rw[μ hm]at e
   have I:b≠a:=λz=>hm (by
    subst z
    exact(aar (î.mp B).1 h.nodup).mp (B.trans q.symm))
   exact(h.cells m x b e q).mono (.refl g) λJ e=>L b _ I e
def Inv.setCell {g:G} {Z:aa} {s:Ç} (h:Inv g Z s) {h':ę} {t:Ó} {l:Ó} {a:Ü} {o:aK} (O:s.toks<=t) (H:g.ρ[l]? = C a) (I:OR g h' a o) (L:ζ a s.heap h') :
 Inv g (Z.set l o) { s with heap:=h',toks:=t }:=h.h! O H I λb J B e=>(L.2 b B).trans e
def bt.h! {own:È Ü} {g:G} {s:Ç} {h':ę} {t:Ó} {l:Ó} {a:Ü} (hk:s.toks<=t) (H:g.ρ[l]? = C a) (B:∀b o,b≠a->s.heap.get? b=C o->h'.get? b=C o) (I:∃o,h'.get? a=C o):bt own g s g { s with heap:=h',toks:=t }:=
 ⟨.refl g,hk,λb o e q J=>B b o (λz=>q (z▸Ĉ H)) e,λJ J J h=>h,λJ J J h=>h,λb o e=>by
  by_cases hb:b=a
  ·subst hb;exact I
  ·exact⟨o,B b o hb e⟩,λJ J e=>e,rfl⟩
def bt.setCell {own:È Ü} {g:G} {s:Ç} {h':ę} {t:Ó} {l:Ó} {a:Ü} (hk:s.toks<=t) (H:g.ρ[l]? = C a) (I:ζ a s.heap h') (L:∃o,h'.get? a=C o):bt own g s g { s with heap:=h',toks:=t }:=
 .h! hk H (λb J B e=>(I.2 b B).trans e) L
set_option backward.match.sparseCases false
def aD {B:Type} {a:B} {P:Prop} (h:(U:Æ B)=C a):P:=nomatch h
def GV {c:Prop} [Decidable c] {B:Type} {x:Æ B} {a:B} {P:Prop} (h:(if c then U else x)=C a) (k:¬ c->x=C a->P):P:=
 if q:c then aD ((Û q).symm.trans h)else k q ((Ý q).symm.trans h)
def aQ {c:Prop} [Decidable c] {B:Type} {x:Æ B} {a:B} {P:Prop} (h:(if c then x else U)=C a) (k:c->x=C a->P):P:=
 if q:c then k q ((Û q).symm.trans h)else aD ((Ý q).symm.trans h)
def VD {c:Prop} [Decidable c] {B:Type} {x y:Æ B} {a:B} {P:Prop} (h:(if c then x else y)=C a) (k:c->x=C a->P) (l:¬ c->y=C a->P):P:=
 if q:c then k q ((Û q).symm.trans h)else l q ((Ý q).symm.trans h)
def Se {D B:Type} {o:Æ D} {f:D->B} {b:B} {P:B->Prop} (h:o.map f=C b) (k:∀a,o=C a->P (f a)):P b:=by
 induction o with
 | none=>exact aD h
 | some a=>obtain rfl:=Ä h;exact k a rfl
def listAt {Z:aa} {l:Ó} {B:Type} {f:È AV->Æ B} {a:B} {P:Prop} (h:(match Z[l]? with|some (.list xs)=>f xs|_=>U)=C a) (k:∀xs,Z[l]? = C (.list xs)->f xs=C a->P):P:=by
 revert h k
 cases Z[l]? with
 | none=>exact λh J=>aD h
 | some o=>induction o with
  | list xs=>exact λh k=>k xs rfl h
  | _=>exact λh J=>aD h
def list_eq {Z:aa} {l:Ó} {xs:ZB} (h:ag Z l=C xs):Z[l]? = C (.list xs):=by
 unfold ag at h
 revert h
 cases Z[l]? with
 | none=>exact λh=>aD h
 | some o=>induction o with
  | list xs=>exact λh=>Õ (λx=>C (aK.list x)) (Ä h)
  | _=>exact λh=>aD h
def Ib {Z:aa} {l:Ó} {xs:ZC} (h:lI Z l=C xs):Z[l]? = C (.set xs):=by
 unfold lI at h
 revert h
 cases Z[l]? with
 | none=>exact λh=>aD h
 | some o=>induction o with
  | set xs=>exact λh=>Õ (λx=>C (aK.set x)) (Ä h)
  | _=>exact λh=>aD h
def SV {Z:aa} {l:Ó} {B:Type} {f:È Ì->Æ B} {a:B} {P:Prop} (h:(match Z[l]? with|some (.set xs)=>f xs|_=>U)=C a) (k:∀xs,Z[l]? = C (.set xs)->f xs=C a->P):P:=by
 revert h k
 cases Z[l]? with
 | none=>exact λh J=>aD h
 | some o=>induction o with
  | set xs=>exact λh k=>k xs rfl h
  | _=>exact λh J=>aD h
def bC {B D:Type} {o:Æ B} {f:B->D} {b:D} {P:Prop} (h:o.map f=C b) (k:∀a,o=C a->f a=b->P):P:=by
 cases o with
 | none=>exact nomatch h
 | some a=>exact k a rfl (Ä h)
def aP {B D:Type} {o:Æ B} {f:B->Æ D} {b:D} {P:Prop} (h:o.bind f=C b) (k:∀a,o=C a->f a=C b->P):P:=by
 cases o with
 | none=>exact nomatch h
 | some a=>exact k a rfl h
def PC {B:Type} {o:Æ B} {f:ab->Æ B} {b:B} {P:Prop} (h:o.orElse f=C b) (k:o=C b->P) (l:f ()=C b->P):P:=match o,h with
 | some _,h=>k h
 | none,h=>l h
def nz {x:AV} {i:Į} (h:intV x=C i):x = .int i:=by rcases x<;>first|exact aD h|exact Õ _ (Ä h)
def fL {x:AV} {i:Ì} (h:strV x=C i):x = .str i:=by rcases x<;>first|exact aD h|exact Õ _ (Ä h)
def yo {x:AV} {i:Ó} (h:lG x=C i):x = .loc i:=by rcases x<;>first|exact aD h|exact Õ _ (Ä h)
def eY {D B:Type} {o:Æ D} {f:D->Æ B} {x:Æ B} {b:B} {P:Prop} (h:cH o f x=C b) (k:∀a,o=C a->f a=C b->P) (l:o=U->x=C b->P):P:=by
 cases o with
 | none=>exact l rfl h
 | some a=>exact k a rfl h
def cP {B:Type} {xs:È B} {x:B} (h:fU xs=C x):xs=[x]:=by
 rcases xs with _|⟨y,_|⟨z,r⟩⟩
 ·exact aD h
 ·exact Õ (λx=>[x]) (Ä h)
 ·exact aD h
def iZ {e f:ñ} {a:È ñ} {B:È ς} {p:ϗ} (h:u6 e=C (f,a,B,p)):e = .Call f a B p:=by
 induction e using Ŋ with
 | Call=>rcases h;rfl
 | _=>exact aD h
def mx {e o:ñ} {x:Ì} {p:ϗ} (h:pA e=C (o,x,p)):e = .Attribute o x p:=by
 induction e using Ŋ with
 | Attribute=>rcases h;rfl
 | _=>exact aD h
def c7 {e:ñ} {x:Ì} (h:ic e=C x):∃p,e = .Name x p:=by
 induction e using Ŋ with
 | Name=>obtain rfl:=Ä h;exact⟨_,rfl⟩
 | _=>exact aD h
def Mf {e o i:ñ} (h:S9 e=C (o,i)):∃p,e = .Subscript o i p:=by
 induction e using Ŋ with
 | Subscript=>rcases h;exact⟨_,rfl⟩
 | _=>exact aD h
def wu {e x:ñ} (h:wt e=C x):∃p,e = .Starred x p:=by
 induction e using Ŋ with
 | Starred=>obtain rfl:=Ä h;exact⟨_,rfl⟩
 | _=>exact aD h
def qX {e:ñ} {lo B st:Æ ñ} (h:yG e=C (lo,B,st)):∃p,e = .Slice lo B st p:=by
 induction e using Ŋ with
 | Slice=>rcases h;exact⟨_,rfl⟩
 | _=>exact aD h
def gG {e:ñ} {c:abo} (h:mE e=C c):∃k p,e = .Constant c k p:=by
 induction e using Ŋ with
 | Constant=>obtain rfl:=Ä h;exact⟨_,_,rfl⟩
 | _=>exact aD h
def um {c:abo} {s:Ì} (h:Md c=C s):c = .str s:=by
 induction c with
 | str=>exact Õ _ (Ä h)
 | _=>exact aD h
def uy {es:È ñ} {a b:ñ} (h:Ml es=C (a,b)):es=[a,b]:=by
 rcases es with _|⟨y,_|⟨z,_|⟨u,r⟩⟩⟩
 ·exact aD h
 ·exact aD h
 ·obtain⟨rfl,rfl⟩:=ŋ (Ä h);rfl
 ·exact aD h
def kQ {x:AV} {i:ZB} (h:ux x=C i):x = .tup i:=by rcases x<;>first|exact aD h|exact Õ _ (Ä h)
def Ql:∀{xs:ZB} {q:AV×AV},two xs=C q->xs=[q.1,q.2]
 | [],_,h=>aD h
 | [_],_,h=>aD h
 | [_,_],_,h=>Õ (λq:AV×AV=>[q.1,q.2]) (Ä h)
 | _::_::_::_,_,h=>aD h
def HQ {x:AV} {p:Ì×Ì} (h:NG x=C p):x=ae p:=
 aP h λxs B h=>aP h λq D h=>aP h λa G h=>bC h λb H e=>by
  simp only[kQ B,Ql D,fL G,fL H,<-e];rfl
def sd {Z:aa} {l:Ó} {xs:ZF} (h:dS Z l=C xs):Z[l]? = C (.dict xs):=by
 unfold dS at h
 revert h
 cases Z[l]? with
 | none=>exact λh=>aD h
 | some o=>induction o with
  | dict xs=>exact λh=>Õ (λx=>C (aK.dict x)) (Ä h)
  | _=>exact λh=>aD h
def E4 {P:Prop} (h:Ï=Í):P:=nomatch h
def wS {x:AV} {i:ZC} (h:Tm x=C i):x = .ws i:=by rcases x<;>first|exact aD h|exact Õ _ (Ä h)
def Nw {x:AV} {i:AV} (h:UI x=C i):x = .iv i:=by rcases x<;>first|exact aD h|exact Õ _ (Ä h)
def Ti {x:AV} {i:AV} (h:VO x=C i):x = .vv i:=by rcases x<;>first|exact aD h|exact Õ _ (Ä h)
def jt {x:AV} {i:ab} (h:qR x=C i):x = .none:=by rcases x<;>first|exact aD h|rfl
def FI {Z:aa} {l:Ó} {xs:È (Æ AV)} (h:gD Z l=C xs):Z[l]? = C (.attrs xs):=by
 unfold gD at h
 revert h
 cases Z[l]? with
 | none=>exact λh=>aD h
 | some o=>induction o with
  | attrs xs=>exact λh=>Õ (λx=>C (aK.attrs x)) (Ä h)
  | _=>exact λh=>aD h
def cw {B:Type} {o:Æ B} {f:B->Prop} {P:Prop} (h:ok o f) (k:∀a,o=C a->f a->P):P:=match o,h with
 | some a,h=>k a rfl h
def jw {B:Type} {o:Æ B} {f:B->Prop} {x P:Prop} (h:o6 o f x) (k:∀a,o=C a->f a->P) (l:o=U->x->P):P:=by
 cases o with
 | none=>exact l rfl h
 | some a=>exact k a rfl h
def OV {c:ì} {p q P:Prop} (h:oK c p q) (k:c=Í->p->P) (l:c=Ï->q->P):P:=match c,h with
 | true,h=>k rfl h
 | false,h=>l rfl h
def cW {a b:ì} {P:Prop} (h:(a&&b)=Í) (k:a=Í->b=Í->P):P:=match a,h with
 | true,h=>k rfl h
set_option backward.match.sparseCases true
abbrev aB (x:Ì):È Ó:=x.cps.toList
def bF {x y:Ì} (h:aB x=aB y):x=y:=by
 cases x;cases y
 simp only[aB]at h
 congr
 exact XD.mp h
def ai (x:Ì):(aB x).length=x.length:=by simp[aB,YA]
def aE (x y:Ì):aB (x++y)=aB x++aB y:=by simp[aB,Str.cps_append]
def jE (c:Ó) (z:È Ó) (l:È Ó):È Ó:=l.flatMap λa=>if a=c then z else[a]
def lu (c:Ó) (z a b:È Ó):jE c z (a++b)=jE c z a++jE c z b:=by simp[jE]
def kP (c:Ó) (z:È Ó):∀l:È Ó,c∉l->jE c z l=l:=by
 intro H;induction H with
 | nil=>
  exact @λJ=>rfl
 | cons k r B=>
  intro h
  have G:¬ k=c:=λe=>h (e▸ã ..)
  have D:=B λm=>h (à _ m)
  simp only[jE,flatMap_cons,Ý G]at D ⊢
  rw[D];rfl
def IB (c:Ó) (z:È Ó):jE c z [c]=z:=by simp[jE]
theorem rA (c:Ó) (z:Ì):∀gu:È Ì,(∀p∈gu,c∉p.cps.toList)->jE c (aB z) (aB (k_ ⟨#[c]⟩ gu))=aB (k_ z gu)
 | [],_=>rfl
 | [p],h=>kP c _ _ (h p (Ù.mpr rfl))
 | p::q::r,h=>by
  have D:=rA c z (q::r) λa B=>h a (à _ B)
  show jE c (aB z) (aB (p++⟨#[c]⟩++k_ ⟨#[c]⟩ (q::r)))=aB (p++z++k_ z (q::r))
  simp only[aE,aE,aE,aE,lu,lu,D,kP c _ _ (h p (ã ..))]
  rw[IB]
def c8 (x z:Ì) (c:Ó):aB (ť x ⟨#[c]⟩ z)=jE c (aB z) (aB x):=by
 rw[StrLaws.replace_one,<-rA c z _ (StrLaws.split_free x c),WO]
def di (x:Ì) (c:Ó):σ x ⟨#[c]⟩=decide (c∈aB x):=StrLaws.found_one x c
def Hg:∀ts:È Ì,aB (û ⟨#[]⟩ ts)=(ts.map aB).flatten:=by
 intro ts
 show aB (adI ⟨#[]⟩ ts)=_
 rw[StrLaws.glued_eq_join]
 induction ts with
 | nil=>rfl
 | cons p r B=>
  cases r with
  | nil=>simp[k_,aB]
  | cons q r=>
   show aB (p++⟨#[]⟩++k_ ⟨#[]⟩ (q::r))=_
   simp only[aE,aE,B]
   simp[aB]
def dC (p:Ó->ì) (l:È Ó):È Ó:=((l.dropWhile p).reverse.dropWhile p).reverse
def cB (p:Ó->ì) (l:È Ó):l.drop (l.takeWhile p).length=l.dropWhile p:=by
 induction l with
 | nil=>rfl
 | cons a r B=>by_cases h:p a=Í<;>simp[Xd,W8,h,B]
def ET (x:Ì):aB (be x)=dC ϐ (aB x):=by
 unfold be
 rw[adO]
 dsimp only[W.stripped]
 simp only[WR]
 have e:∀i j,aB (g_ x i j)=((aB x).take j).drop i:=λi j=>by
  show(x.cps.extract i j).toList=_
  simp only[U_]
  simp only[Xt]
 rw[e]
 unfold dC
 have B:(aB x).length=x.length:=ai x
 rw[<-cB ϐ (aB x)]
 rw[show ∀m:È Ó,(m.reverse.dropWhile ϐ).reverse=m.take (m.length - (m.reverse.takeWhile ϐ).length)from λm=>by
  simp only[<-cB,reverse_drop,rt,ϱ]]
 simp only[Xt,ϰ,B]
 congr 1
 lia
def uE (L:È Ó) (d:Ì):Prop:=∀c∈aB d,L.contains c=Ï
def uE.no {L:È Ó} {d:Ì} (h:uE L d) {c:Ó} (B:L.contains c=Í):σ d ⟨#[c]⟩=Ï:=by
 rw[di]
 exact ü λm=>by have:=h c m;rw[B]at this;cases this
def HE {c a:Ó} {z l:È Ó} (h:a∈jE c z l):a∈z\/a∈l:=by
 obtain⟨b,B,h⟩:=abh.mp h
 split at h
 ·exact .inl h
 ·exact .inr (Ù.mp h▸B)
def yx {d z:Ì} {a c:Ó} (h:σ d ⟨#[a]⟩=Ï) (hz:a∉aB z):σ (ť d ⟨#[c]⟩ z) ⟨#[a]⟩=Ï:=by
 rw[di]at h ⊢
 rw[c8]
 exact ü λm=>(HE m).elim hz (X4 h)
def H0 {d z:Ì} {c:Ó} (h:σ d ⟨#[c]⟩=Ï):ť d ⟨#[c]⟩ z=d:=bF (by
 rw[di]at h
 rw[c8,kP _ _ _ (X4 h)])
def xD {l:È Ó} {c i:Ó} (h:l[i]? = C c) (B:∀k,k<i->l[k]?≠C c):l.takeWhile (· !=c)=l.take i/\l.dropWhile (· !=c)=l.drop i:=by
 induction l generalizing i with
 | nil=>trivial
 | cons a l I=>
  induction i with
  | zero=>simp at h;subst h;simp
  | succ j=>
   have H:a≠c:=λz=>B 0 (by exact ŵ _) (by simp[z])
   obtain⟨D,G⟩:=I (i:=j) (by simpa using h) λk hk=>by simpa using B (k+1) (by exact ej ‹_›)
   simp[H,D,G]
def ll (x:Ì) (i j:Ó):(g_ x i j).cps.toList=(x.cps.toList.take j).drop i:=by
 unfold g_
 rw[U_]
 simp only[extract_eq_take_drop]
 rw[Xt]
def Eh (x:Ì):XA x 1=1:=by
 unfold XA
 rfl
def jB (x:Ì) (c:Ó) (Y:c<256):(ĝ x ⟨#[c]⟩ 1).map (·.cps.toList) =
 if x.cps.toList.contains c then[x.cps.toList.takeWhile (· !=c),(x.cps.toList.dropWhile (· !=c)).drop 1]else[x.cps.toList]:=by
 have hk:ŉ ⟨#[c]⟩=1:=by unfold ŉ;simp[Y]
 have hk1:1<=ŉ x:=by unfold ŉ;split<;>(try split)<;>exact ŵ _
 have D:(⟨#[c]⟩:Ì).length=1:=rfl
 unfold ĝ
 rw[hk,Eh]
 rcases _:StrLaws.occ_head x ⟨#[c]⟩ 1 (Ë _)with⟨H,L⟩|⟨i,r,H,I,L⟩
 ·have Q:x.cps.toList.contains c=Ï:=by
   rw[<-e_,Ú,Yw]
   rintro⟨i,I⟩
   exact L i ((W1 x c i).mpr I)
  rw[Q,H]
  simp
 ·have B:=(W1 x c i).mp I
  have G:x.cps.toList.contains c=Í:=by rw[Ú];exact Ĉ B
  have acT:r=[]:=by
   have:=StrLaws.occ_length_le x ⟨#[c]⟩ 0 x.length 1
   rw[H]at this
   simpa using this
  subst acT
  have hlen:1<=x.length:=by have:=(î.mp B).1;skip;exact Â (ħ 1 i) this
  rw[G,H]
  rw[Ý (by rw[D];simp;lia),Ý (by simp)]
  obtain⟨À,V⟩:=xD B λk hk N=>L k hk ((W1 x c k).mpr N)
  simp only[WR,Ο,Ī,ow,abd,Y4,M_,zip_nil_left]
  simp only[ll,ll,À,V]
  rw[fe (show x.cps.toList.length<=x.length by simp[YA])]
  simp[D]
noncomputable def dP:È Ì->È Ì->ì
 | _,[]=>Ï
 | [],_::_=>Í
 | x::xs,y::ys=>if x=y then dP xs ys else decide (x.cps.toList<y.cps.toList)
def g4 {x y:Ì} {xs ys:ZC}:dP (x::xs) (y::ys)=if x=y then dP xs ys else decide (x.cps.toList<y.cps.toList):=rfl
def wO (xs:ZC):dP xs []=Ï:=by cases xs<;>rfl
section
variable {prog:Xx} {w:WW} {A:Ā} {s:Ç} {E:Ê->Ç->Prop}
def dq {vs:ZA} {i:Ó} {xs:ZC} (h:Ů (vs.drop i) xs):(vs.drop i=[]/\xs=[])\/∃x t B,vs[i]? = C (.str x t)/\xs=x::B/\Ů (vs.drop (i+1)) B:=by
 generalize D:vs.drop i=zzy
 induction zzy with
 | nil=>rw[D]at h;cases h;exact .inl ⟨rfl,rfl⟩
 | cons v r=>
  rw[D]at h
  have G:vs[i]? = C v:=by have:=Õ (·[0]?) D;simpa using this
  have H:vs.drop (i+1)=r:=by have:=Õ (·.drop 1) D;simpa using this
  cases h with
  | cons x t I=>exact .inr ⟨x,t,_,G,rfl,by rw[H];exact I⟩
def Lq (l b:Ü) (items B:ÿ Ê) (n n2:Ó) (k:Ó) :
 ∀(i:Ó) (xs ys:ZC),items.size - i=k->(Ů (items.toList.drop i) xs)->(Ů (B.toList.drop i) ys)->i<=items.size->i<=B.size->
  Meets (ř.«list.__eq__.loop» ⟨[.ref l,.ref b,ŏ i,ŏ 0],[]⟩)
  (λA R s=>s.heap.get? l=C { cls:=.type "list",data:=.seq items n }/\s.heap.get? b=C { cls:=.type "list",data:=.seq B n2 }/\
   R (.ok (.ret (.bool (dP xs ys)))) s):=by
 induction k with
 | zero=>
  intro i xs ys hk Y acT D N prog w A R s h
  obtain⟨c,g,d,tk,os⟩:=s;obtain⟨À,Q,h⟩:=h
  have H:i=items.size:=ţ D (Ų hk)
  have m:xs=[]:=by
   rcases dq Y with⟨_,e⟩|⟨x,t,r,e,_⟩
   ·exact e
   ·have:=(î.mp e).1;rw[Č,H]at this;exact absurd this (Ő _)
  subst m
  wp_walk using ŝ À,ŝ Q
  have D:items[((i:Ó):Į).toNat]? = U:=C_ (ó H.symm)
  rw[D]
  dsimp only
  wp_walk using ŝ À,ŝ Q
  show R (.ok (.ret (.bool (decide (items.size<B.size))))) _
  have:dP [] ys=decide (items.size<B.size):=by
   rcases dq acT with⟨I,e⟩|⟨x,t,r,e,L,_⟩
   ·subst e
    have:=Õ xe I
    rw[ϰ,Č]at this
    rw[ü (ų.mpr (by rw[<-H];exact Ų this))];rfl
   ·have:=(î.mp e).1
    rw[Č,H]at this
    rw[L,õ this];rfl
  rw[<-this];exact h
 | succ k ih=>
  intro i xs ys hk Y acT D N prog w A R s h
  obtain⟨c,g,d,tk,os⟩:=s;obtain⟨À,Q,h⟩:=h
  wp_walk using ŝ À,ŝ Q
  dsimp only[u_]
  rcases dq Y with⟨I,_⟩|⟨x,j,r1,I,rfl,q1⟩
  ·exact absurd (Õ xe I) (by simp only[ϰ,Č,hk];exact gg k)
  rw[Š]at I
  rw[I]
  rcases dq acT with⟨L,rfl⟩|⟨y,q,r2,L,rfl,q2⟩
  ·have G:=Õ xe L
   simp at G
   rw[C_ (Ų G)]
   dsimp only
   wp_walk using ŝ À,ŝ Q
   show R (.ok (.ret (.bool (decide (items.size<B.size))))) _
   have:decide (items.size<B.size)=Ï:=ü (ų.mpr (Â (Ų G) D))
   rw[this]
   simpa [g4,wO]using h
  ·rw[Š]at L
   rw[L]
   dsimp only
   refine Á (EqAt.str_str x j y q prog w _ _ ?_)
   have V:i<B.size:=(ĩ.mp L).1
   by_cases hxy:x=y
   ·subst hxy
    rw[Û (by simp)]
    have z:((i:Į)+1)=((i+1:Ó):Į):=by push_cast;rfl
    rw[z]
    refine Å ⟨plainId_quiet plain_eq_loop _,ģ entry_eq_loop ?_⟩
    rw[ϡ plain_eq_loop _]
    exact ih (i+1) r1 r2 (by rw[XH,hk];rfl) q1 q2 (ĩ.mp I).1 V prog w A R _ ⟨À,Q,by simpa [g4,wO]using h⟩
   ·rw[Ý (by simpa using hxy)]
    wp_walk using ŝ À,ŝ Q
    rw[I,L]
    dsimp only
    refine Á ?_
    show Î _ _ (WE .Lt (.str x j) (.str y q)) _ _ _
    refine Yd (Å ?_)
    simpa [g4,hxy]using h
def o0 (l b:Ü) (items B:ÿ Ê) (n H:Ó) (xs ys:ZC) (I:Ů items.toList xs) (L:Ů B.toList ys) :
 Meets (ř.«list.__lt__» ⟨[.ref l,.ref b],[]⟩)
  (λA R s=>s.heap.get? l=C { cls:=.type "list",data:=.seq items n }/\s.heap.get? b=C { cls:=.type "list",data:=.seq B H }/\R (.ok (.ret (.bool (dP xs ys)))) s):=by
 intro prog w A R s h
 obtain⟨hp,g,d,tk,os⟩:=s;obtain⟨G,D,h⟩:=h
 have f3:=AutoSeq1.sub_list_list
 wp_walk using ŝ G,ŝ D
 exact⟨plainId_quiet plain_eq_loop _,ģ entry_eq_loop (by
  rw[ϡ plain_eq_loop _]
  exact Lq l b items B n H _ 0 xs ys rfl (by simpa using I) (by simpa using L) (ï _) (ï _) prog w A R _ ⟨G,D,h⟩)⟩
def yD {l b:Ü} {items B:ÿ Ê} {n G:Ó} {xs ys:ZC} {Q:ì->Ç->Prop} (À:A.units<XU) (D:s.heap.get? l=C { cls:=.type "list",data:=.seq items n }) (L:s.heap.get? b=C { cls:=.type "list",data:=.seq B G })
 (H:Ů items.toList xs) (I:Ů B.toList ys) (h:Q (dP xs ys) s):Î (Ϧ prog w) A (oneLt' Í (.ref l) (.ref b)) Q E s:=by
 dsimp only[oneLt'_eq]
 refine Á (wpAny_cRoomFor À ?_)
 refine Á (wpAny_callSpecialIfBound?_slot (T:="list") ⟨_,D,rfl⟩ acU (Ÿ acU ⟨_,D,rfl⟩ F.entry_list_lt (F.args_list_lt_2 _ _) (o0 l b items B n G xs ys H I) ⟨D,L,?_⟩))
 exact Yp h
end
noncomputable def bQ (O:r5):È O.α->È O.α->ì
 | _,[]=>Ï
 | [],_::_=>Í
 | x::xs,y::ys=>O.blt x y||(!O.blt y x&&bQ O xs ys)
section
variable {O:r5}
def dk {x y:O.α} {xs ys:È O.α}:bQ O (x::xs) (y::ys)=(O.blt x y||(!O.blt y x&&bQ O xs ys)):=rfl
def O6 (a:È O.α):bQ O a []=Ï:=by cases a<;>rfl
def Jq {a b:O.α} (h:O.blt a b=Í):O.blt b a=Ï:=by
 generalize q:O.blt b a=zzy
 induction zzy with
 | false=>rfl
 | true=>have:=O.trans a b a h q;rw[O.irrefl]at this;cases this
def yk:∀a:È O.α,bQ O a a=Ï:=by
 intro D;induction D with
 | nil=>
  exact rfl
 | cons x xs B=>
  exact by rw[dk,O.irrefl,B];rfl
theorem kE:∀a b:È O.α,bQ O a b=Ï->bQ O b a=Ï->a=b
 | [],[],_,_=>rfl
 | [],_::_,h,_=>Bu h
 | _::_,[],_,h=>Bu h
 | x::xs,y::ys,h,k=>by
  simp only[dk,WF,Bool.and_eq_false_iff,Bool.not_eq_false']at h k
  have e:=O.total x y h.1 k.1
  subst e
  rcases h.2 with z|z
  ·rw[h.1]at z;contradiction
  ·rcases k.2 with q|q
   ·rw[h.1]at q;contradiction
   ·rw[kE xs ys z q]
def kA {x y:O.α} {xs ys:È O.α} (h:bQ O (x::xs) (y::ys)=Í):O.blt x y=Í\/(x=y/\bQ O xs ys=Í):=by
 simp only[dk,ϸ,ú,Ϟ]at h
 rcases h with h|⟨B,D⟩
 ·exact .inl h
 ·generalize q:O.blt x y=zzy
  induction zzy with
  | true=>exact .inl rfl
  | false=>exact .inr ⟨O.total x y q B,D⟩
def kC {x y:O.α} {xs ys:È O.α} (h:O.blt x y=Í):bQ O (x::xs) (y::ys)=Í:=by rw[dk,h];rfl
def Eg {x:O.α} {xs ys:È O.α} (h:bQ O xs ys=Í):bQ O (x::xs) (x::ys)=Í:=by rw[dk,h,O.irrefl];rfl
theorem kF:∀a b c:È O.α,bQ O a b=Í->bQ O b c=Í->bQ O a c=Í
 | _,_,[],_,h=>by cases ‹È O.α›<;>trivial
 | a,[],_::_,h,_=>nomatch (O6 a).symm.trans h
 | [],_::_,_::_,_,_=>rfl
 | x::xs,y::ys,z::zs,h,k=>by
  rcases kA h with D|⟨H,D⟩
  ·rcases _:kA k with B|⟨G,B⟩
   ·exact kC (O.trans _ _ _ D B)
   ·rw[<-G];exact kC D
  ·rcases kA k with B|⟨G,B⟩
   ·rw[H];exact kC B
   ·rw[H,G];exact Eg (kF xs ys zs D B)
def Lm (a b c:È O.α) (h:bQ O a c=Í):bQ O a b=Í\/bQ O b c=Í:=by
 cases q:bQ O a b with
 | true=>exact .inl rfl
 | false=>
  right
  generalize p:bQ O b a=zzy
  induction zzy with
  | true=>exact kF _ _ _ p h
  | false=>rw[<-kE a b q p];exact h
end
abbrev lexOrd (O:r5):r5:=⟨È O.α,bQ O,yk,kF,Lm,kE⟩
noncomputable abbrev aM:r5:=PyProof.Rows.strKind.toKeyOrd
abbrev bp (x:Ì):aM.α:=x.cps.toList
def y5 (x y:Ì):aM.blt (bp x) (bp y)=decide (x.cps.toList<y.cps.toList):=rfl
def bW {x y:Ì} (h:bp x=bp y):x=y:=by
 cases x;cases y
 simp only[bp]at h
 congr
 exact XD.mp h
theorem oB:∀xs ys:È Ì,dP xs ys=(lexOrd aM).blt (xs.map bp) (ys.map bp)
 | _,[]=>by cases ‹È Ì›<;>rfl
 | [],_::_=>rfl
 | x::xs,y::ys=>by
  have B:dP xs ys=bQ aM (xs.map bp) (ys.map bp):=oB xs ys
  show dP (x::xs) (y::ys)=bQ aM (bp x::xs.map bp) (bp y::ys.map bp)
  rw[g4,dk,<-B]
  by_cases h:x=y
  ·subst h;rw[Û rfl,aM.irrefl];rfl
  ·rw[Ý h,<-y5]
   cases q:aM.blt (bp x) (bp y)with
   | true=>rfl
   | false=>
    generalize p:aM.blt (bp y) (bp x)=zzy
    induction zzy with
    | true=>rfl
    | false=>exact absurd (bW (aM.total _ _ q p)) h
abbrev bj:Ê->Ç->Prop:=λJ J=>False
def Q5 (H:Prop) (g:G) (s:Ç) (Z':aa) (v:AV) (u:Ê) (D:Ç):Prop:=∀(B:G) (a:bt [] g s B D) (i:Inv B Z' D) (r:VR B v u),H
def PX:=λg s Z' v u D=>∀B,Q5 B g s Z' v u D->B
def PX.mk:Q5 (PX g s Z' v u s') g s Z' v u s':=λD a i r J B=>B D a i r
def PE (g:G) (s:Ç) (Z':aa) (v:AV) (u:Ê) (B:Ç):Prop:=s.toks<=B.toks->PX g s Z' v u B
def cy {D:Type} {A:Ā} {t:Ϛ D} {s:Ç} {Q:D->Ç->Prop} (h:Î cx.M A t (λa B=>s.toks<=B.toks->Q a B) bj s):Î cx.M A t Q bj s:=
 Ô (wpAny_toks_of (n:=s.toks) (Ë _) h) (λJ J x=>x.2 x.1) λJ J x=>x.2.elim
section
def PX.up {B:G} {s₁:Ç} (a:bt [] g s B s₁) (h:PX B s₁ Z' v u s'):PX g s Z' v u s':=(by refine h _ λD b i r=>?_;exact(.mk D (a.trans b) i r))
def PE.now (i:Inv g Z s) (r:VR g v u):PE g s Z v u s:=λJ=>(.mk g (.refl _ _ _) i r)
def PE.tok (i:Inv g Z s) (r:VR g v u) (t:Ó):PE g s Z v u { s with toks:=t }:=λh=>(.mk g (.s! h) (i.toks h) r)
def PE.x {t:Ϛ Ê} (h:Î cx.M A t (PE g s Z' v) bj s):Î cx.M A t (PX g s Z' v) bj s:=cy h
def PX.lift {t:Ϛ Ê} {B:G} {s₁:Ç} (a:bt [] g s B s₁) (h:Î cx.M A t (PX B s₁ Z' v) bj s₁):Î cx.M A t (PX g s Z' v) bj s₁:=
 Ô h (λJ J x=>x.up a) λJ J x=>x
def af (s:Ç):s.heap.get? s.heap.objs.size=U:=by
 cases q:s.heap.get? s.heap.objs.size with
 | none=>rfl
 | some o=>exact absurd (Ŀ q) (Ő _)
def PE.alloc {o:ϑ} (i:Inv g Z s) (O:o.isFreed=Ï) (h:∀B,g.le B->B.I s.heap.objs.size=C o->VR B v (.ref s.heap.objs.size)) (t:Ó) :
 PE g s Z v (.ref s.heap.objs.size) { s with heap:=s.heap.push o,toks:=t }:=λL=>by
 have D:=af s
 have k:∀b H,s.heap.get? b=C H->(s.heap.push o).get? b=C H:=λb H e=>Ñ o e
 exact(.mk (g.freeze s.heap.objs.size o) (.freeze i L D k) (i.freeze L D (ê _ O) k) (h _ (G.a! (i.fresh D).1) (G.é _ _ _)))
def PE.held {o:ϑ} {h':ę} {p:Ü} (i:Inv g Z s) (D:s.heap.get? p=U) (O:h'.get? p=C o) (k:∀b L,s.heap.get? b=C L->h'.get? b=C L) (h:∀B,g.le B->B.I p=C o->VR B v (.ref p)) (t:Ó) :
 PE g s Z v (.ref p) { s with heap:=h',toks:=t }:=λH=>
 (.mk (g.freeze p o) (.freeze i H D k) (i.freeze H D O k) (h _ (G.a! (i.fresh D).1) (G.é _ _ _)))
def PE.set {h':ę} {l:Ó} {a:Ü} {o:aK} (i:Inv g Z s) (B:g.ρ[l]? = C a) (D:OR g h' a o) (G:ζ a s.heap h') (r:VR g v u) (t:Ó) :
 PE g s (Z.set l o) v u { s with heap:=h',toks:=t }:=λH=>(.mk g (.setCell H B G D.there) (i.setCell H B D G) r)
def PE.cell {h':ę} {a:Ü} {o:aK} (i:Inv g Z s) (B:s.heap.get? a=U) (H:OR (g.cell a) h' a o) (k:∀b o,s.heap.get? b=C o->h'.get? b=C o) (t:Ó) :
 PE g s (Z++[o]) (.loc Z.length) (.ref a) { s with heap:=h',toks:=t }:=λD=>
 (.mk (g.cell a) (.k! D B k) (i.k! D B H k) (by exact⟨a,rfl,by simp[G.cell,<-i.len]⟩))
def Mv (B:Prop) (g:G) (s:Ç) (xs:ZB) (u:Ê):Prop:=∀(a:Ü) (vs:ZA) (e:u = .ref a) (h:s.heap.PlainList a vs.toArray) (r:aG g xs vs) (z:xs.length<=Ö),B
def TQ:=λg s xs u=>∀B,Mv B g s xs u->B
def TQ.mk:Mv (TQ g s xs u) g s xs u:=λa vs e h r z J B=>B a vs e h r z
def aI {xs:ZB} (i:Inv g Z s) (e:aw Z v=C xs) (r:VR g v u):TQ g s xs u:=by
 induction v using AV.casesOn with
 | fl B=>
  obtain rfl:=Ä e
  (refine r _ ?_;rintro a o vs rfl h ⟨n,rfl⟩ q z)
  exact(.mk a vs rfl ⟨n,i.sub _ _ h⟩ q z)
 | loc l=>
  refine listAt e λB D e=>?_
  obtain rfl:=Ä e
  obtain⟨a,rfl,h⟩:=r
  refine i.cells _ _ _ D h _ λvs hv q z=>?_
  exact(.mk a vs rfl hv q z)
 | _=>exact aD e
def Mu (B:Prop) (g:G) (s:Ç) (kvs:ZF) (u:Ê):Prop:=∀(a:Ü) (vs:ZA) (e:u = .ref a) (h:s.heap.DictOf cx.sk a ((kvs.map (·.1)).zip vs)) (r:aG g (kvs.map (·.2)) vs) (q:(a==Κ)=Ï) (z:kvs.length<=Ö) (y:∀D∈kvs,D.1.length<=Ö),B
def TP:=λg s kvs u=>∀B,Mu B g s kvs u->B
def TP.mk:Mu (TP g s kvs u) g s kvs u:=λa vs e h r q z y J B=>B a vs e h r q z y
def bg {kvs:ZF} (i:Inv g Z s) (e:aC Z v=C kvs) (r:VR g v u):TP g s kvs u:=by
 induction v using AV.casesOn with
 | fd ks xs=>
  obtain rfl:=Ä e
  (refine r _ ?_;rintro a o vs rfl h d l q z y G)
  have B:(ks.zip xs).map (·.1)=ks:=by rw[<-unzip_fst,acR l]
  have D:(ks.zip xs).map (·.2)=xs:=by rw[<-unzip_snd,acR l]
  exact(.mk a vs rfl (by rw[B];exact m_.mpr ⟨o,i.sub _ _ h,d⟩) (by rw[D];exact q) z (by(simp_all +arith)) (λkv hk=>G _ (of_mem_zip hk).1))
 | loc l=>
  obtain⟨a,rfl,h⟩:=r
  refine i.cells _ _ _ (sd e) h _ λvs hv q z y w=>?_
  exact(.mk a vs rfl hv.dictOf q z y w)
 | _=>exact aD e
def Mw (B:Prop) (s:Ç) (ks:ZC) (u:Ê):Prop:=∀(a:Ü) (e:u = .ref a) (h:ba s.heap a ks),B
def Tt:=λs ks u=>∀B,Mw B s ks u->B
def Tt.mk:Mw (Tt s ks u) s ks u:=λa e h J B=>B a e h
def uU {ks:ZC} (i:Inv g Z s) (e:fN Z v=C ks) (r:VR g v u):Tt s ks u:=by
 induction v using AV.casesOn with
 | ws xs=>
  obtain rfl:=Ä e
  (refine r _ ?_;rintro a o rfl h d)
  exact(.mk a rfl (.mk o (i.sub _ _ h) d))
 | loc l=>
  refine SV e λxs' B e=>?_
  obtain rfl:=Ä e
  obtain⟨a,rfl,h⟩:=r
  exact(.mk a rfl (i.cells _ _ _ B h))
 | _=>exact aD e
end
def gQ {n:Ó} (h:n<=Ö):(n:Į)<2 ^ 63:=ϻ (ec.mpr h) (by rw[ŀ];decide)
def nA {k:Į} {n:Ó} (h:k.natAbs<=n) : -(n:Į)<=k/\k<=n:=by
 have e:(k.natAbs:Į)<=n:=ec.mpr h
 exact⟨Int.neg_le_of_neg_le (d_ (by rw[<-abW];exact W4) e),d_ W4 e⟩
def dT {k:Į} (h:k.natAbs<2 ^ 30) : -(2 ^ 63:Į)<=k/\k<2 ^ 63:=
 ⟨d_ Zz (nA (ð h)).1,ϻ (nA (ð h)).2 Zz⟩
def vM {k:Į} (h:k.natAbs<2 ^ 30):(decide (k < -(2 ^ 63:Į))||decide (k≥2 ^ 63))=Ï:=by
 rw[ü (aao.mpr (dT h).1),ü (W7.mpr (dT h).2)];rfl
section
def nK {a:Ü} {vs:ZA} {xs:ZB} {Q:ì->Ç->Prop} (B:s.heap.IsList a vs.toArray) (r:aG g xs vs) (z:xs.length<=Ö) (h:∀t,Q (!xs.isEmpty) { s with toks:=t }):Î cx.M A (X2 (.ref a)) Q E s:=by
 have hv:vs.length=xs.length:=r.length.symm
 refine wpAny_truthy_list B (by rw[Đ,hv];exact gQ z) ?_
 have:(!vs.toArray.isEmpty) = !xs.isEmpty:=by
  rcases vs<;>rcases xs<;>trivial
 simp only[this];exact h _
def mF {a:Ü} {ks:ZC} {vs:ZA} {Q:ì->Ç->Prop} (D:s.heap.DictOf cx.sk a (ks.zip vs)) (B:(a==Κ)=Ï) (r:ks.length=vs.length) (z:ks.length<=Ö) (h:∀t,Q (!ks.isEmpty) { s with toks:=t }):Î cx.M A (X2 (.ref a)) Q E s:=by
 refine wpAny_truthy_dict B D (by simp only[length_zip,<-r,Η];exact gQ z) ?_
 have:(!(ks.zip vs).isEmpty) = !ks.isEmpty:=by rcases vs<;>rcases ks<;>trivial
 simp only[this];exact h _
def noBool_set:ύ (.type "set") "__bool__" = pure U:=by rw[c0,η];kernel_rfl
def Es:ύ (.type "re.Match") "__bool__" = pure U:=by rw[c0,η];kernel_rfl
def HJ:ύ (.type "re.Match") "__len__" = pure U:=by rw[c0,η];kernel_rfl
def EG {a:Ü} {o:ϑ} {ks:ZC} {Q:ì->Ç->Prop} (H:s.heap.get? a=C o) (d:il ks o) (h:∀t,Q (!ks.isEmpty) { s with toks:=t }):Î cx.M A (X2 (.ref a)) Q E s:=by
 have z:=d.lt
 refine d _ λes ep t I L J J J O G J J J=>?_
 have D:s.TypeIs (.ref a) "set":=⟨o,H,I.1⟩
 have key:Î cx.M A (runValue (.builtin "len" ⟨[.ref a],[]⟩)) (λr B=>r = .int ks.length (s.toks+1)/\Q (!ks.isEmpty) B) E s:=by
  refine A_ (ģ entry_len ?_)
  exact Ô (wpAny_len_body_set (Q:=λr B=>r = .int ks.length (s.toks+1)/\Q (!ks.isEmpty) B) H I L O (by rw[G];exact W5 (eh.mpr z) Zz) ⟨Õ (λk:Ó=>aaC k (s.toks+1)) G,h _⟩) (λfin B h'=>by obtain⟨r,rfl,À⟩:=h';exact À) λJ J e=>e
 unfold X2
 refine Á (aal (name:=Ć "__bool__") D noBool_set (Á (c_ (name:=Ć "__len__") D F.slot_set_len.lookup (Á (Ô key (λr B h'=>?_) λJ J e=>e)))))
 obtain⟨rfl,h'⟩:=h'
 refine Å ?_
 have:((ks.length:Į) !=0) = !ks.isEmpty:=by rcases ks<;>rfl
 rw[this];exact h'
def HF {a:Ü} {o:ϑ} {Q:ì->Ç->Prop} (G:s.heap.get? a=C o) (D:o.cls = .type "re.Match") (h:Q Í s):Î cx.M A (X2 (.ref a)) Q E s:=by
 have B:s.TypeIs (.ref a) "re.Match":=⟨o,G,D⟩
 unfold X2
 refine Á (aal (name:=Ć "__bool__") B Es ?_)
 refine Á (c_ (name:=Ć "__len__") B HJ ?_)
 exact Å h
def oA {b:ì} {Q:ì->Ç->Prop} (i:Inv g Z s) (e:bZ Z v=C b) (r:VR g v u) (h:∀t,Q b { s with toks:=t }):Î cx.M A (X2 u) Q E s:=by
 have D:Q b s:=h s.toks
 induction v using AV.casesOn with
 | none=>subst r;obtain rfl:=Ä e;exact truthy_none D
 | bool c=>subst r;obtain rfl:=Ä e;exact Yp D
 | int n=>obtain⟨t,rfl⟩:=r;obtain rfl:=Ä e;exact adu D
 | str x=>
  (refine r _ ?_;rintro t rfl z);obtain rfl:=Ä e
  refine PySem.P.truthy_str (W7.mpr (gQ z)) ?_
  have:((x.length:Į) !=0)=(x.length !=0):=by rcases x.length<;>rfl<;>lia
  simp only[this];exact h _
 | fl xs=>
  (refine r _ ?_;rintro a o vs rfl B ⟨n,rfl⟩ q z);obtain rfl:=Ä e
  exact nK ⟨_,i.sub _ _ B,rfl,n,rfl⟩ q z h
 | fd ks xs=>
  (refine r _ ?_;rintro a o vs rfl B d l q y z _);obtain rfl:=Ä e
  exact mF (m_.mpr ⟨o,i.sub _ _ B,d⟩) y (l.trans q.length) z h
 | ws ks=>
  (refine r _ ?_;rintro a o rfl B d);obtain rfl:=Ä e
  exact EG (i.sub _ _ B) d h
 | mo=>
  (refine r _ ?_;rintro a o rfl B L);obtain rfl:=Ä e
  exact HF (i.sub _ _ B) L (h s.toks)
 | loc l=>
  obtain⟨a,rfl,G⟩:=r
  dsimp only[bZ]at e
  generalize H:Z[l]? = o at e
  induction o with
  | none=>exact aD e
  | some o=>induction o with
   | list xs=>
    obtain rfl:=Ä e
    refine i.cells _ _ _ H G _ λvs hv q z=>?_
    exact nK hv.isList q z h
   | dict kvs=>
    obtain rfl:=Ä e
    refine i.cells _ _ _ H G _ λvs hv q y z J=>?_
    have I:kvs.isEmpty=(kvs.map (·.1)).isEmpty:=by rcases kvs<;>rfl
    rw[I]at h
    exact mF hv.dictOf y (by simp only[length_map,<-q.length,length_map]) (by simpa using z) h
   | _=>exact aD e
 | _=>exact aD e
end
def Mr (B:Prop) (a b c d:Prop):Prop:=∀(x1:a) (x2:b) (x3:c) (x4:d),B
def TO:=λa b c d=>∀B,Mr B a b c d->B
def TO.mk:Mr (TO a b c d) a b c d:=λD G H I J B=>B D G H I
def Ms (B:Prop) (a b c d e:Prop):Prop:=∀(x1:a) (x2:b) (x3:c) (x4:d) (x5:e),B
def Tr:=λa b c d e=>∀B,Ms B a b c d e->B
def Tr.mk:Ms (Tr a b c d e) a b c d e:=λD G H I L J B=>B D G H I L
def Mt (B:Prop) (a b c d e f:Prop):Prop:=∀(x1:a) (x2:b) (x3:c) (x4:d) (x5:e) (x6:f),B
def Ts:=λa b c d e f=>∀B,Mt B a b c d e f->B
def Ts.mk:Mt (Ts a b c d e f) a b c d e f:=λD G H I L Q J B=>B D G H I L Q
def MF (À:Prop) {B D G H I L Q:Type} (p:B->D->G->H->I->L->Q->Prop):Prop:=∀(a:B) (b:D) (c:G) (d:H) (e:I) (f:L) (g:Q) (h:p a b c d e f g),À
def TR {D G H I L Q À:Type} (p:D->G->H->I->L->Q->À->Prop):Prop:=∀B:Prop,MF B p->B
def TR.mk:MF (TR p) p:=λa b c d e f g h J B=>B a b c d e f g h
def cL (n:Ó) (p:ÿ Ó):Prop:=p.Perm (İ n).toArray
def cL.size {n:Ó} {p:ÿ Ó} (h:cL n p):p.size=n:=by have:=h.size_eq;simpa using this
section
variable {O:r5} {key:Ó->O.α} {n:Ó}
noncomputable def Kp (key:Ó->O.α) (p:ÿ Ó) (i:Ó):O.α:=key (p.getD i 0)
def Up (key:Ó->O.α) (p:ÿ Ó) (k:Ó):Prop:=∀i j,i<=j->j<k->O.kle (Kp key p i) (Kp key p j)
def QE (O:r5) (key:Ó->O.α) (B:Ó->Ó->(ì->Ç->Prop)->Ç->Prop) (I:Ç->Prop) (n:Ó):Prop:=
 ∀i j acT s,i<n->j<n->I s->(∀D,I D->acT (O.blt (key i) (key j)) D)->B i j acT s
noncomputable def reach (fs:È (Ó×Ó×ì)):Ó->Ó->Ó->ì
 | 0,a,b=>a==b
 | k+1,a,b=>a==b||fs.any λf=>(if f.2.2 then f.1==a&&reach fs k f.2.1 b else f.2.1==a&&reach fs k f.1 b)
def HG (fs:È (Ó×Ó×ì)) (p:ÿ Ó) (k:Ó):ì:=reach fs 5 (p.getD k 0) (p.getD (k+1) 0)
def HZ {fs:È (Ó×Ó×ì)} (H:∀f∈fs,O.blt (key f.1) (key f.2.1)=f.2.2):∀(k a b:Ó),reach fs k a b=Í->O.kle (key a) (key b):=by
 intro L;induction L with
 | zero=>
  exact @λa b h=>by rw(occs:=.all) [ĕ.mp h];exact kh _
 | succ k G=>
  intro a b h
  rcases(ϸ ..).mp h with h|h
  ·rw(occs:=.all) [ĕ.mp h];exact kh _
  ·obtain⟨f,I,h⟩:=YF.mp h
   have e:=H f I
   generalize hb:f.2.2=c at h e
   induction c with
   | true=>
    obtain⟨B,D⟩:=(ú ..).mp h
    exact v_ (ĕ.mp B▸KeyOrd.kle_of_klt e) (G _ b D)
   | false=>
    obtain⟨B,D⟩:=(ú ..).mp h
    exact v_ (ĕ.mp B▸e) (G _ b D)
noncomputable def TH (n:Ó):KasT (ÿ Ó)->È (Ó×Ó×ì)->ì
 | .ret p,fs=>p.toList.isPerm (İ n)&&(İ (n - 1)).all (HG fs p)
 | .ask i j k,fs=>(decide (i<n)&&decide (j<n))&&(TH n (k Í) ((i,j,Í)::fs)&&TH n (k Ï) ((i,j,Ï)::fs))
def Tg {fs:È (Ó×Ó×ì)} {p:ÿ Ó} (H:∀f∈fs,O.blt (key f.1) (key f.2.1)=f.2.2) (h:∀k,k+1<n->HG fs p k=Í):Up key p n:=λi j B=>by
 induction j with
 | zero=>exact λJ=>adp.mp B▸kh _
 | succ j I=>
  intro G
  rcases O_ i (j+1)with D|D
  ·refine v_ (I (ž D) (Nat.lt_of_succ_lt G)) ?_
   exact HZ H 5 _ _ (h j G)
  ·rw[ţ B D];exact kh _
theorem yC (h:QE O key cmp I n) {Q:ÿ Ó->Ç->Prop} (k:∀p D,I D->cL n p->Up key p n->Q p D):∀(t:KasT (ÿ Ó)) (fs:È (Ó×Ó×ì)) (s:Ç),TH n t fs=Í->(∀f∈fs,O.blt (key f.1) (key f.2.1)=f.2.2)->I s->t.kasWp cmp Q s
 | .ret p,fs,s,ht,hf,is=>by
  obtain⟨G,H⟩:=(ú ..).mp ht
  exact k p s is (Array.perm_iff_toList_perm.mpr (isPerm_iff.mp G)) (Tg hf λj N=>ũ.mp H j (acP.mpr (Nat.lt_sub_of_add_lt N)))
 | .ask i j t,fs,s,ht,hf,is=>by
  obtain⟨G,H⟩:=(ú ..).mp ht
  obtain⟨V,Y⟩:=(ú ..).mp G
  obtain⟨E,acT⟩:=(ú ..).mp H
  refine h i j _ s (of_decide_eq_true V) (of_decide_eq_true Y) is λD B=>?_
  generalize À:O.blt (key i) (key j)=b
  induction b with
  | true=>exact yC h k (t Í) _ D E (λf L=>(Ċ.mp L).elim (λe=>e▸À) (hf f)) B
  | false=>exact yC h k (t Ï) _ D acT (λf L=>(Ċ.mp L).elim (λe=>e▸À) (hf f)) B
def PA:∀n<7,2<=n->TH n (kas_sort n) []=Í:=by decide +kernel
def qJ (h:QE O key cmp I n) {s:Ç} {Q:ÿ Ó->Ç->Prop} (D:2<=n) (G:n<7) (H:I s) (k:∀p B,I B->cL n p->Up key p n->Q p B):(kas_sort n).kasWp cmp Q s:=
 yC h k _ [] s (PA n G D) (λJ q=>nomatch q) H
end
def IE (l:ZA):l=(İ l.length).map (λi=>l.getD i .none):=by
 refine ext_getElem (by rw[length_map,aas]) λi h J=>?_
 rw[getElem_map,getElem_range,getD,æ h];rfl
def BD {us kk:ZA} {n:Ó} (e:us.length=n) (B:kk.length=n):(kk.toArray.zip us.toArray).map (·.2)=((İ n).toArray.toList.map λi=>us.getD i Ă).toArray:=by
 subst e
 apply XD.mp
 simp only[Array.toList_map,Array.toList_zip,map_snd_zip (ó B.symm)]
 exact IE us
def wP {O:r5} {key:Ó->O.α} {n:Ó} (h:n<2):Up key (İ n).toArray n:=λi j B D=>by
 obtain rfl:j=0:=Yx.mp (ô D (ž h))
 obtain rfl:i=0:=adp.mp B
 exact kh _
section
variable {prog:Xx} {w:WW} {A:Ā} {s:Ç} {O:r5} {key:Ó->O.α} {κ:adD} {vs:ZA}
def cu (a:Ü) (h h':ę):Prop:=∀b o,b≠a->h.get? b=C o->h'.get? b=C o
def tW {a:Ü} {n:Ó} {P:Ē->Ç->Prop} (ho:s.heap.get? a=C (Ŗ "list" vs.toArray n)) (g:vs.length<7)
 (V:2<=vs.length->∀(h':ę) (Q:adD->Ç->Prop),cu a s.heap h'->Q κ { s with heap:=h' }->Î (Ϧ prog w) A (keyKind' vs.toArray) Q bj { s with heap:=h' })
 (l:2<=vs.length->∀(h':ę) (t i j:Ó) (acT:ì->Ç->Prop),i<vs.length->j<vs.length->cu a s.heap h'->(∀t',acT (O.blt (key i) (key j)) { s with heap:=h',toks:=t' })->
  Î (Ϧ prog w) A (keyLt' κ (vs.getD i Ă) (vs.getD j Ă)) acT bj { s with heap:=h',toks:=t })
 (h:∀(p:ÿ Ó) (h':ę) (t c:Ó),cL vs.length p->Up key p vs.length->cu a s.heap h'->h'.get? a=C (Ŗ "list" (p.toList.map λi=>vs.getD i Ă).toArray c)->P (.done (.ret .none)) { s with heap:=h',toks:=t }) :
 Î (Ϧ prog w) A (ř.«list.sort» ⟨[.ref a],[]⟩) P bj s:=by
 rw[list_sort_plain]
 have ha:a<s.heap.objs.size:=Ŀ ho
 obtain⟨E,q⟩:∃E,(s.heap.update a (Ğ λJ=>(#[]:ÿ Ê))).get? a=C (Ŗ "list" #[] E):=⟨_,Ι ho λJ=>#[]⟩
 refine Á (Yc ho rfl ?_)
 refine Á (ϋ ho rfl ?_ (by rw[Đ,ŀ];exact Â (ð g) (ħ 7 16777209)) (ï _))
 refine Á (Xf q rfl ?_)
 refine Á (Xr ?_ (by show vs.length<=_;rw[ŀ];exact Â (ð g) Zz))
 refine Á (XY ?_ (ï _))
 refine ä ?_
 show Î (Ϧ prog w) A _ P bj { s with heap:=((s.heap.update a (Ğ λJ=>(#[]:ÿ Ê))).push (Ŗ "tuple" vs.toArray 0)).push (Ŗ "list" #[] 0) }
 generalize hH:(((s.heap.update a (Ğ λJ=>(#[]:ÿ Ê))).push (Ŗ "tuple" vs.toArray 0)).push (Ŗ "list" #[] 0))=H
 have D:H.get? a=C (Ŗ "list" #[] E):=by rw[<-hH];exact Ñ _ (Ñ _ q)
 have kH:cu a s.heap H:=λb o hb e=>by
  rw[<-hH];exact Ñ _ (Ñ _ (by rw[zh _ _ _ _ hb];exact e))
 dsimp only
 have N:∀(t:Ó) (p:ÿ Ó),cL vs.length p->Up key p vs.length->(Q:ab->Ç->Prop)->(∀h' c,cu a s.heap h'->h'.get? a=C (Ŗ "list" (p.toList.map λi=>vs.getD i Ă).toArray c)->Q () { s with heap:=h',toks:=t })->
  Î (Ϧ prog w) A (ady (.ref a) λJ=>(p.toList.map λi=>vs.getD i Ă).toArray) Q bj { s with heap:=H,toks:=t }:=by
  intro t p Y _ Q hQ
  refine ϋ D rfl ?_ (ï _) (by show(p.toList.map _).length<=_;simp only[length_map,Č,Y.size,ŀ];exact Â (ð g) (ħ 7 16777210))
  refine hQ _ (if((p.toList.map λi=>vs.getD i Ă).toArray).size==(#[]:ÿ Ê).size then E else E+1) (λb o hb e=>?_) (Ι D _)
  rw[zh _ _ _ _ hb];exact kH b o hb e
 by_cases h2:vs.toArray.size<2
 ·rw[Û h2,Û h2]
  refine Á (Å ?_)
  rw[aaM]
  refine Á (Å ?_)
  dsimp only
  refine Á (Xf D rfl ?_)
  have r:cL vs.length (İ vs.length).toArray:=YW _
  have d:Up key (İ vs.length).toArray vs.length:=wP h2
  have ex:((arrOf (SortSt.mk' general' (vs.toArray.zip vs.toArray) #[] 7 U)).map (·.2))=((İ vs.length).toArray.toList.map λi=>vs.getD i Ă).toArray:=by
   exact BD rfl rfl
  rw[ex]
  refine Á (N s.toks _ r d _ λh' c k1 k2=>?_)
  simp only[Ε,ĭ,δ]
  exact Å (h _ h' s.toks c r d k1 k2)
 ·rw[Ý h2,Ý h2]
  have B:2<=vs.length:=ņ h2
  refine Á (V B H _ kH ?_)
  refine Á (Ô (kat_run (ks:=vs) (κ:=κ) (Q:=λL À=>Tu λ(p:ÿ Ó) (t:Ó)=>Tr (À={ s with heap:=H,toks:=t }) (cL vs.length p) (Up key p vs.length) (arrOf L=p.map (kas_item (vs.toArray.zip vs.toArray))) (adG L=U))
   (G:=λp À=>cL vs.length p/\Up key p vs.length/\∃t,À={ s with heap:=H,toks:=t }) rfl B (Þ g Zz) (λp L À a1 a2 a3 m=>(.mk p m.2.2.choose (.mk m.2.2.choose_spec m.1 m.2.1 a2 a3)))
   (qJ (O:=O) (key:=key) (I:=λÀ=>∃t,À={ s with heap:=H,toks:=t }) ?asks B g ⟨s.toks,rfl⟩ λp À is Y hu=>⟨Y,hu,is⟩)) ?_ λJ J e=>e)
  case asks=>
   rintro i j acT _ hi hj ⟨t,rfl⟩ hC
   exact Ô (l B H t i j acT hi hj kH λt'=>hC _ ⟨t',rfl⟩) (λJ J x=>x) λJ J x=>x
  rintro⟨⟨⟩,L⟩ À yy;(refine yy _ λp t y=>?_);(refine y _ ?_;rintro rfl Y hu x0 hf)
  dsimp only
  refine Á (Xf D rfl ?_)
  have z:=kat_snds rfl x0
  rw[z]
  refine Á (N t p Y hu _ λh' c k1 k2=>?_)
  rw[hf]
  simp only[Ε,ĭ,δ]
  exact Å (h p h' t c Y hu k1 k2)
def EO {a:Ü} {n:Ó} {Q:Ê->Ç->Prop} (G:s.heap.get? a=C (Ŗ "list" vs.toArray n)) (V:vs.length<7)
 (B:2<=vs.length->∀(A:Ā) (h':ę) (Q:adD->Ç->Prop),cu a s.heap h'->Q κ { s with heap:=h' }->Î (Ϧ prog w) A (keyKind' vs.toArray) Q bj { s with heap:=h' })
 (D:∀(A:Ā) (h':ę) (t i j:Ó) (acT:ì->Ç->Prop),i<vs.length->j<vs.length->cu a s.heap h'->(∀t',acT (O.blt (key i) (key j)) { s with heap:=h',toks:=t' })->
  Î (Ϧ prog w) A (keyLt' κ (vs.getD i Ă) (vs.getD j Ă)) acT bj { s with heap:=h',toks:=t })
 (h:∀(p:ÿ Ó) (h':ę) (t c:Ó),cL vs.length p->Up key p vs.length->cu a s.heap h'->h'.get? a=C (Ŗ "list" (p.toList.map λi=>vs.getD i Ă).toArray c)->Q .none { s with heap:=h',toks:=t }) :
 Î (Ϧ prog w) A (call (.builtin "list.sort") [.ref a]) Q bj s:=
 Ş Y7 ⟨_,G,rfl⟩ YN (tW G V (λÀ=>B À _) (λJ=>D _) λp h' t c H a2 I L=>⟨_,rfl,h p h' t c H a2 I L⟩) (adE _)
def EQ {x:Ê} {Q:Ê->Ç->Prop}
 (h:Î (Ϧ prog w) A.in1 (Xz x) (λvs s₁=>vs.length<=Ö/\∀A,Î (Ϧ prog w) A (call (.builtin "list.sort") [.ref s₁.heap.objs.size]) (λJ B=>Q (.ref s₁.heap.objs.size) B) bj { s₁ with heap:=s₁.heap.push (Ŗ "list" vs.toArray 0) }) bj s) :
 Î (Ϧ prog w) A (call (.builtin "sorted") [x]) Q bj s:=by
 refine Calls.call_function_entry kind_sorted plain_sorted entry_sorted (args_sorted1 _) ?_
 unfold ř.«sorted»
 refine Á (m:=checkCount "sorted" 1 1 _) (Å ?_)
 refine Á (Ô h (λvs s₁ x=>?_) λJ J x=>x.elim)
 refine Á (XY ?_ x.1)
 exact Á (ä (Ô (x.2 _) (λJ J q=>Å ⟨_,rfl,q⟩) λJ J x=>x.elim))
end
section
open PySem PySem.Sre
def rm (o:ì) (an:Æ ì) (t:ÿ Ó) (w:Ó) (fs:È XZ) (h pos:Ó) (sn:ι) (pc:Ó):M:=
 { code:=EF,text:=t,lim:=t.size,start:=0,pc,pos,outermost:=o,handed:=h,marks:=#[],frames:=fs,weight:=w,answer:=an,seen:=sn }
def fr (pc pos k:Ó):XZ:={ wait:=.giveBack,pc,pos,outermost:=Í,count:=(k:Į) }
def yn (b:ì) (x y:M):M:=match b with|true=>x|false=>y
section
variable {t:ÿ Ó} {p h w:Ó} {fs:È XZ} {sn:ι}
def H8:forMatch EF t 0 0 t.size Ï Ï=if(t.size<3)then{ rm Í U t 0 [] 0 0 (({}:ι).add 14) 5 with answer:=C Ï }else rm Í U t 0 [] 0 0 (({}:ι).add 14) 5:=by
 have e:forMatch EF t 0 0 t.size Ï Ï=if(3 !=0&&decide (0<=t.size)&&decide (t.size - 0<3))=Í then{ rm Í U t 0 [] 0 0 (({}:ι).add 14) 5 with answer:=C Ï }else rm Í U t 0 [] 0 0 (({}:ι).add 14) 5:=by kernel_rfl
 rw[e];simp
def Jg {c:Ó}:accepts EF 17 c sn = .ok (c==58,sn):=by kernel_rfl
def UL (t:ÿ Ó) (p h w:Ó) (fs:È XZ) (sn:ι) (x:Except Λ (ì×ι)):M:=match x with
 | .error why=>(rm Í U t w fs h p sn 17).stick why
 | .ok (Ï,sn)=>rm Í (C Ï) t w fs h p sn 17
 | .ok (Í,sn)=>rm Í U t w fs h (p+1) sn 19
def It:(rm Í U t w fs h p sn 17).step=if p≥t.size then rm Í (C Ï) t w fs h p (sn.add 16) 17 else UL t p h w fs (sn.add 16) (accepts EF 17 (t.getD p 0) (sn.add 16)):=by
 kernel_rfl
def BF (B:p<t.size):(rm Í U t w fs h p sn 17).step=bif t.getD p 0==58 then rm Í U t w fs h (p+1) (sn.add 16) 19 else rm Í (C Ï) t w fs h p (sn.add 16) 17:=by
 rw[It,Ý (Nat.not_le.mpr B),Jg]
 cases (t.getD p 0==58)<;>rfl
def y0 (B:t.size<=p):(rm Í U t w fs h p sn 17).step=rm Í (C Ï) t w fs h p (sn.add 16) 17:=by
 rw[It,Û B]
def Rq {i c:Ó} (B:i=11\/i=23):∃D,accepts EF i c sn = .ok (isWordUni c,D):=by
 have e:∀i,i=11\/i=23->accepts EF i c sn=if(isWordUni c !=Ï)=Í then .ok (Í,(sn.add 8).add (55+14))else .ok (Ï,((sn.add 8).add (55+14)).add 0):=by
  intro i B
  rcases B with rfl|rfl<;>kernel_rfl
 rw[e i B]
 cases isWordUni c<;>exact⟨_,rfl⟩
def PY {i:Ó} (L:i=11\/i=23):∀(n p B:Ó) (sn:ι),∃G,aaW EF t i n p B sn = .ok (B+wc t n p,G):=by
 intro À;induction À with
 | zero=>
  exact @λJ J J=>⟨_,rfl⟩
 | succ n O=>
  intro p B sn
  obtain⟨D,H⟩:=Rq (sn:=sn) (c:=t.getD p 0) L
  obtain⟨Q,I⟩:=O (p+1) (B+1) D
  dsimp only[aaW,wc]
  rw[H]
  show ∃G,(if isWordUni (t.getD p 0)=Í then aaW EF t i n (p+1) (B+1) D else pure (B,D))=_
  cases isWordUni (t.getD p 0)with
  | true=>exact⟨Q,by rw[Û rfl,I,Ď,ı 1];rfl⟩
  | false=>exact⟨D,rfl⟩
def PT (t:ÿ Ó) (pc p h w:Ó) (fs:È XZ) (sn:ι) (x:Except Λ (Ó×ι)):M:=match x with
 | .error why=>(rm Í U t w fs h p sn pc).stick why
 | .ok (n,s)=>if n<1 then rm Í (C Ï) t w fs h p s pc else(rm Í U t w fs h (p+n) s pc).afterRun .giveBack (n:Į) {}
def y4 {pc:Ó} (B:pc=7\/pc=19):(rm Í U t w fs h p sn pc).step =
 if(1:Į) > (t.size:Į) - p then rm Í (C Ï) t w fs h p (sn.add 24) pc else PT t pc p h w fs (sn.add 24) (aaW EF t (pc+4) (min 4294967295 ((t.size:Į) - p).toNat) p 0 ((sn.add 24).add 13)):=by
 rcases B with rfl|rfl<;>kernel_rfl
def Qe:(rm Í U t w fs h 0 sn 5).step=rm Í U t w fs h 0 ((sn.add 6).add (43+0)) 7:=by kernel_rfl
def Iq:(rm Í U t w fs h p sn 29).step=if hO t p=Í then rm Í U t w fs h p ((sn.add 6).add (43+5)) 31 else rm Í (C Ï) t w fs h p ((sn.add 6).add (43+5)) 29:=by kernel_rfl
def Qf:(rm Í U t w fs h p sn 31).step=rm Í (C Í) t w fs p p (sn.add 1) 31:=by kernel_rfl
def Nf {pc n:Ó} (B:pc=7\/pc=19) (hw:w<100):(rm Í U t w fs h p sn pc).afterRun .giveBack (n:Į) {}=rm Í U t (w+1) (fr pc p n::fs) p p sn (pc+10):=by
 have e:∀pc,pc=7\/pc=19->(rm Í U t w fs h p sn pc).afterRun .giveBack (n:Į) {}=if w+1+0 > 16777216 then(rm Í U t w fs h p sn pc).stick "frames:memory" else rm Í U t (w+1) (fr pc p n::fs) p p sn (pc+10):=by
  intro pc B
  rcases B with rfl|rfl<;>kernel_rfl
 rw[e pc B,Ý (by lia)]
def BE {pc q k:Ó} {pc' p' h':Ó} {b:ì} (B:pc=7\/pc=19) (D:w<100):(rm Í (C b) t (w+1) (fr pc q (k+1)::fs) h' p' sn pc').step =
 bif b then rm Í (C Í) t w fs h' q sn pc else if k=0 then rm Í (C Ï) t w fs h' q sn pc else rm Í U t (w+1) (fr pc (q - 1) k::fs) (q - 1) (q - 1) sn (pc+10):=by
 have e:∀pc,pc=7\/pc=19->(rm Í (C b) t (w+1) (fr pc q (k+1)::fs) h' p' sn pc').step =
  if b=Í then rm Í (C Í) t w fs h' q sn pc else if(((k+1:Ó):Į) - 1<((1:Ó):Į))then rm Í (C Ï) t w fs h' q sn pc else(rm Í U t w fs h' (q - 1) sn pc).afterRun .giveBack (((k+1:Ó):Į) - 1) {}:=by
  intro pc B
  rcases B with rfl|rfl<;>kernel_rfl
 simp only[e pc B]
 cases b with
 | true=>rfl
 | false=>
  show(if(((k+1:Ó):Į) - 1<((1:Ó):Į))then _ else _)=if k=0 then _ else _
  rw[show(((k+1:Ó):Į) - 1)=(k:Į) by lia]
  by_cases hk:k=0
  ·rw[Û hk,Û (by(simp only[*];decide))]
  ·rw[Ý hk,Ý (by lia),Nf B D]
def Rh (B:Prop) (k:Ó) (m D:M):Prop:=∀(n:Ó) (h:n<=k) (e:M.runFor n m=D),B
def To:=λk m D=>∀B,Rh B k m D->B
def To.mk:Rh (To k m m') k m m':=λn h e J B=>B n h e
def To.refl {k:Ó} {m:M}:To k m m:=(.mk 0 (ï _) rfl)
def jy (n:Ó) (m:M):M.runFor (n+1) m=if m.outcome.isSome=Í then m else M.runFor n m.step:=rfl
def To.step {k:Ó} {m B:M} (o:m.outcome=U) (h:To k m.step B):To (k+1) m B:=by
 refine h _ λn a e=>?_
 exact(.mk (n+1) (á a) (by rw[jy,o];exact e))
def fH {m:M} (q:m.outcome.isSome=Í):∀b,M.runFor b m=m
 | 0=>rfl
 | b+1=>by rw[jy,Û q]
def dN:∀(a b:Ó) (m:M),M.runFor (a+b) m=M.runFor b (M.runFor a m):=by
 intro D;induction D with
 | zero=>
  exact @λb m=>by rw[ė];rfl
 | succ a B=>
  intro b m
  simp only[Ě,jy,jy]
  by_cases q:m.outcome.isSome=Í
  ·rw[Û q,Û q,fH q]
  ·rw[Ý q,Ý q,B b]
def To.trans {a b:Ó} {m D B:M} (x:To a m D) (y:To b D B):To (a+b) m B:=by
 refine x _ λn h e=>?_
 refine y _ λH h' G=>?_
 exact(.mk (n+H) (å h h') (by rw[dN,e,G]))
def BV:∀(n p:Ó),wc t n p<=n:=by
 intro D;induction D with
 | zero=>
  exact @λJ=>Ë _
 | succ n B=>
  intro p
  rw[IV]
  cases isWordUni (t.getD p 0)with
  | true=>exact á (B (p+1))
  | false=>exact ï _
def Tl:∀{n p i:Ó},i<wc t n p->isWordUni (t.getD (p+i) 0)=Í:=by
 intro D;induction D with
 | zero=>
  exact @λJ J h=>absurd h (Ϻ _)
 | succ n B=>
  intro p i h
  rw[IV]at h
  cases e:isWordUni (t.getD p 0)with
  | false=>rw[e]at h;exact absurd h (Ϻ _)
  | true=>
   rw[e]at h
   cases i with
   | zero=>exact e
   | succ i=>rw[Nat.add_succ,<-Nat.succ_add];exact B (Ζ h)
def LW {pc n:Ó} {s:ι}:PT t pc p h w fs sn (.ok (n+1,s))=(rm Í U t w fs h (p+(n+1)) s pc).afterRun .giveBack ((n+1:Ó):Į) {}:=by
 unfold PT
 exact Ý (ų.mpr (ħ 1 n))
def H5 {pc k:Ó} (B:pc=7\/pc=19) (hp:p<=t.size) (ht:t.size<4294967295) (O:w<100) (hk:wc t (t.size - p) p=k) :
 ∃H,To 1 (rm Í U t w fs h p sn pc) (match k with|0=>rm Í (C Ï) t w fs h p H pc|k+1=>rm Í U t (w+1) (fr pc (p+(k+1)) (k+1)::fs) (p+(k+1)) (p+(k+1)) H (pc+10)):=by
 have G:min 4294967295 ((t.size:Į) - p).toNat=t.size - p:=by lia
 have I:pc+4=11\/pc+4=23:=by lia
 obtain⟨Q,D⟩:=PY (t:=t) I (t.size - p) p 0 ((sn.add 24).add 13)
 rw[ė,hk]at D
 have L:=BV (t:=t) (t.size - p) p
 rw[hk]at L
 cases k with
 | zero=>
  by_cases h1:(1:Į) > (t.size:Į) - p
  ·exact⟨_,.step rfl (by rw[y4 B,Û h1];exact .refl)⟩
  ·exact⟨_,.step rfl (by rw[y4 B,Ý h1,G,D];exact .refl)⟩
 | succ k=>
  refine⟨Q,.step rfl ?_⟩
  rw[y4 B,Ý (by lia),G,D,LW,Nf B O]
  exact .refl
def zu {pc:Ó} (B:pc=7\/pc=19) (G:w<100):∀{k q pc' p' h':Ó} {sn:ι},(∀i,1<=i->i<=k->∀F h sn,∃À,(rm Í U t (w+1) F h (q - i) sn (pc+10)).step=rm Í (C Ï) t (w+1) F h (q - i) À (pc+10))->
 ∃p1 h₁ s₁,To (2 * k+1) (rm Í (C Ï) t (w+1) (fr pc q (k+1)::fs) h' p' sn pc') (rm Í (C Ï) t w fs h₁ p1 s₁ pc):=by
 intro E;induction E with
 | zero=>
  exact @λq pc' p' h' sn J=>⟨q,h',sn,.step rfl (by rw[BE B G];exact .refl)⟩
 | succ k O=>
  intro q pc' p' h' sn H
  obtain⟨V,I⟩:=H 1 (Ë _) (ħ _ _) (fr pc (q - 1) (k+1)::fs) (q - 1) sn
  obtain⟨Q,D,Y,L⟩:=O (q:=q - 1) (pc':=pc+10) (p':=q - 1) (h':=q - 1) (sn:=V) λi h1 D=>by
   rw[Nat.sub_sub,ı 1];exact H (i+1) (ħ _ _) (á D)
  refine⟨Q,D,Y,.step rfl ?_⟩
  rw[BE B G,cond_false,Ý (gg k)]
  exact .step rfl (by rw[I];exact L)
def Ht {k:Ó}:UM t (k+1)=((decide (k+1<t.size)&&t.getD (k+1) 0==58)&&Qx t k (wc t (t.size - (k+2)) (k+2))):=rfl
def Sa {k j:Ó}:Qx t k (j+1)=hO t (k+2+(j+1)):=rfl
def Mb {pc:Ó} {b:ì}:(rm Í (C b) t w [] h p sn pc).step={ rm Í (C b) t w [] h p sn pc with outcome:=C (if b then .matched else .failed) }:=by kernel_rfl
def BX {c:Ó} (h:isWordUni c=Í):(c==58)=Ï/\(c==10)=Ï:=by
 constructor<;>(refine ϝ.mpr λq=>?_;rw[eq_of_beq q]at h;revert h;decide +kernel)
def Fe (D:Prop) (k:Ó) (b:ì) (m:M):Prop:=∀(B:M) (r:To k m B) (o:B.outcome=C (if b then .matched else .failed)),D
def Ends:=λk b m=>∀B,Fe B k b m->B
def Ends.mk:Fe (Ends k b m) k b m:=λD r o J B=>B D r o
def Ends.of {k j:Ó} {b:ì} {m D:M} (r:To k m D) (e:Ends j b D):Ends (k+j) b m:=(by refine e _ λB G o=>?_;exact(.mk B (r.trans G) o))
def Ends.step {k:Ó} {b:ì} {m:M} (o:m.outcome=U) (e:Ends k b m.step):Ends (k+1) b m:=(by refine e _ λB G D=>?_;exact(.mk B (.step o G) D))
def Ends.le {k j:Ó} {b:ì} {m:M} (h:k<=j) (e:Ends k b m):Ends j b m:=(by refine e _ λB D o=>D _ λn a r=>?_;exact(.mk B (.mk n (Â a h) r) o))
def Ends.done {pc:Ó} {b:ì}:Ends 1 b (rm Í (C b) t w [] h p sn pc):=.step rfl (.mk _ .refl (by rw[Mb]))
def Ge {k q pc' p' h':Ó} {sn:ι} (hq:q<=t.size) (hk:k<q) (H:∀i,1<=i->i<=k->isWordUni (t.getD (q - i) 0)=Í):Ends (2 * k+2) Ï (rm Í (C Ï) t 1 [fr 7 q (k+1)] h' p' sn pc'):=by
 (refine Ř λB=>?_;obtain⟨p1,h1,s1,D⟩:=zu (t:=t) (fs:=[]) (w:=0) (pc:=7) (k:=k) (q:=q) (pc':=pc') (p':=p') (h':=h') (sn:=sn) (.inl rfl) Zz λi a b F h sn=>⟨_,by
  rw[show 7+10=17 from rfl,BF (by omega),(BX (H i a b)).1];rfl⟩<;>(refine B ?_;clear B))
 exact .of (k:=2 * k+1) (j:=1) D .done
def BW {n p:Ó} {c:Ó} (B:c<wc t n p):isWordUni (t.getD (p+c) 0)=Í:=Tl B
def LZ (G:t.size<4294967295):Ends 68719476736 (bO t) (forMatch EF t 0 0 t.size Ï Ï):=by
 have A:=BV (t:=t) t.size 0
 rw[H8]
 unfold bO
 have L:=λc=>BW (t:=t) (n:=t.size) (p:=0) (c:=c)
 generalize e:wc t t.size 0=k0 at A L
 by_cases h3:t.size<3
 ·rw[Û h3]
  have:UM t k0=Ï:=by
   cases k0 with
   | zero=>rfl
   | succ k=>
    have B:=BV (t:=t) (t.size - (k+2)) (k+2)
    rw[Ht]
    generalize wc t (t.size - (k+2)) (k+2)=j0 at B
    cases j0 with
    | zero=>exact b_ _
    | succ j=>exact absurd (Â B (ó (Zp (Â (ž h3) (ħ 2 k))))) (Zy j)
  rw[this]
  exact .le Zz (.done (pc:=5) (w:=0))
 ·rw[Ý h3]
  refine .step (k:=68719476735) rfl ?_
  rw[Qe]
  obtain⟨acT,Q⟩:=H5 (t:=t) (p:=0) (k:=k0) (w:=0) (fs:=[]) (h:=0) (sn:=(((({}:ι).add 14).add 6).add (43+0))) (.inl rfl) (ï _) G Zz (by rw[XI];exact e)
  refine .le (k:=1+68719476700) Zz (.of Q ?_)
  cases k0 with
  | zero=>exact .le Zz .done
  | succ k=>
   have D:∀{pc' p' h':Ó} {sn:ι},Ends 17179869184 Ï (rm Í (C Ï) t 1 [fr 7 (0+(k+1)) (k+1)] h' p' sn pc'):=λ{_ _ _ _}=>.le (by lia) <| Ge (by lia) (by lia) λi a b=>by
    have:=L (k+1 - i) (aax (ŵ k) a)
    rw[ė]at this ⊢
    exact this
   by_cases hs:k+1<t.size
   ·refine .step (k:=68719476699) rfl ?_
    rw[show 7+10=17 from rfl,BF (by lia)]
    rw[Ht,õ hs,uf,ė]
    rw[ė]at D
    cases t.getD (k+1) 0==58 with
    | false=>exact .le Zz D
    | true=>
     rw[uf]
     have B:=BV (t:=t) (t.size - (k+2)) (k+2)
     have O:=λc=>BW (t:=t) (n:=t.size - (k+2)) (p:=k+2) (c:=c)
     generalize À:wc t (t.size - (k+2)) (k+2)=j0 at B O
     obtain⟨N,V⟩:=H5 (t:=t) (p:=k+2) (w:=1) (fs:=[fr 7 (k+1) (k+1)]) (h:=k+1) (sn:=acT.add 16) (.inr rfl) (by lia) G Zz À
     refine .le (k:=1+68719476600) Zz (.of V ?_)
     cases j0 with
     | zero=>exact .le Zz D
     | succ j=>
      have H:=Nat.add_le_of_le_sub' hs B
      refine .step (k:=68719476599) rfl ?_
      rw[show 19+10=29 from rfl,Iq]
      rw[Sa]
      cases hE:hO t (k+2+(j+1))with
      | true=>
       rw[Û rfl]
       refine .step (k:=68719476598) rfl ?_
       rw[Qf]
       refine .step (k:=68719476597) rfl ?_
       refine .step (k:=68719476596) rfl ?_
       exact .le Zz .done
      | false=>
       rw[Ý ß]
       obtain⟨p1,h1,s3,Y⟩:=zu (t:=t) (fs:=[fr 7 (k+1) (k+1)]) (w:=1) (pc:=19) (k:=j) (q:=k+2+(j+1)) (pc':=29) (p':=k+2+(j+1)) (h':=k+2+(j+1)) (sn:=(N.add 6).add (43+5)) (.inr rfl) Zz λi a b F h sn=>⟨_,by
        have I:=O (j+1 - i) (aax (ŵ j) a)
        rw[<-Nat.add_sub_assoc (by lia)]at I
        have E:hO t (k+2+(j+1) - i)=Ï:=by
         unfold hO
         simp only[(BX I).2,b_,YE]
         exact Œ (Ĝ (ô (aax (ŵ _) a) H))
        rw[show 19+10=29 from rfl,Iq,E];rfl⟩
       exact .le (Â (Ò (show 2 * j+1<=17179869184 from Â (ö _) (Â (Ą 2 (Â (Â (ħ (j+1) (k+2)) H) (ð G))) Zz)) _) Zz) (.of Y D)
   ·refine .step (k:=68719476699) rfl ?_
    rw[show 7+10=17 from rfl,y0 (by omega)]
    rw[Ht,ü hs,Yq]
    exact .le Zz D
end
end
section
def VR.l! {i:Į} (t:YP):VR g (.int i) (.int i t):=Exists.intro t rfl
def VR.g! {x:Ì} (t:YP) (h:x.length<=Ö):VR g (.str x) (.str x t):=B5.mk t rfl h
def VR.l' {b:ì}:VR g (.bool b) (.bool b):=(rfl:Value.bool b = .bool b)
def VR.f' {i:Į} (h:VR g (.int i) u):∃t,u = .int i t:=h
def VR.c! {x:Ì} (h:VR g (.str x) u):B5 u x:=h
def VR.intV {i:Į} (e:intV x=C i) (h:VR g x u):∃t,u = .int i t:=by rw[nz e]at h;exact h
def VR.strV {i:Ì} (e:strV x=C i) (h:VR g x u):B5 u i:=by rw[fL e]at h;exact h
def VR.of_none (h:VR g .none u):u = .none:=h
def PE.list {xs:ZB} {vs:ZA} {s₁:Ç} {n t:Ó} (i:Inv g Z s) (r:aG g xs vs) (z:xs.length<=Ö)
 (e:s₁={ s with heap:=s.heap.push { cls:=.type "list",data:=.seq vs.toArray n },toks:=t }):PE g s Z (.fl xs) (.ref s.heap.objs.size) s₁:=by
 subst e
 exact .alloc i rfl (λB le D=>show VR B (.fl xs) (.ref s.heap.objs.size)from B4.mk _ _ vs rfl D ⟨n,rfl⟩ (r.mono le) z) t
def PE.tuple {xs:ZB} {vs:ZA} {s₁:Ç} {n t:Ó} (i:Inv g Z s) (r:aG g xs vs) (z:xs.length<=Ö)
 (e:s₁={ s with heap:=s.heap.push { cls:=.type "tuple",data:=.seq vs.toArray n },toks:=t }):PE g s Z (.tup xs) (.ref s.heap.objs.size) s₁:=by
 subst e
 exact .alloc i rfl (λB le D=>show VR B (.tup xs) (.ref s.heap.objs.size)from rI.mk _ _ vs rfl D ⟨n,rfl⟩ (r.mono le) z) t
def add_lists (x:AV) (i:Inv g Z s) (e:((aw Z x).bind λxs=>(aw Z y).bind λys=>(zM (xs++ys)).map AV.fl)=C v) (Q:VR g x a) (À:VR g y b):Î cx.M A (abw .Add a b) (PE g s Z v) bj s:=by
 refine aP e λxs H e=>aP e λys I e=>bC e λzs B e=>aQ B λhz B=>?_
 subst e
 obtain rfl:=Ä B
 ((refine aI i H Q _ ?_;rintro p vs rfl ⟨n,L⟩ D zp))
 ((refine aI i I À _ ?_;rintro q us rfl ⟨m,O⟩ G zq))
 refine P.add_list L O ?_ (by simp only[Đ,Đ,<-D.length,<-G.length];simpa using hz)
 exact .list (n:=0) (t:=s.toks) i (D.append G) hz (by simp)
def Jh (i:Inv g Z s) (e:Rr Z x y=C v) (B:VR g x a) (D:VR g y b):Î cx.M A (abw .Add a b) (PE g s Z v) bj s:=by
 induction x using AV.casesOn with
 | int p=>
  refine bC e λq h e=>?_;subst e
  obtain⟨t,rfl⟩:=B.f'
  obtain⟨t',rfl⟩:=D.intV h
  exact add_int (.tok i (.l! _) _)
 | str p=>
  refine aP e λq h e=>bC e λw G e=>aQ G λhz G=>?_;subst e
  obtain rfl:=Ä G
  (refine B.c! _ ?_;rintro t rfl z)
  (refine D.strV h _ ?_;rintro t' rfl z')
  exact add_str (λt' tk=>.tok i (.g! _ (by rw[â];exact hz)) _) hz
 | fl xs=>exact add_lists (.fl xs) i e B D
 | loc l=>exact add_lists (.loc l) i e B D
 | _=>exact aD e
def Lx (i:Inv g Z s) (e:Sh x y=C v) (D:VR g x a) (G:VR g y b):Î cx.M A (abw .Mult a b) (PE g s Z v) bj s:=by
 refine aP e λp B e=>aP e λj h e=>aQ e λhz e=>?_
 obtain⟨t',rfl⟩:=G.intV h
 obtain⟨t,rfl⟩:=D.intV B
 obtain rfl:=Ä e
 exact ads (.tok i (.l! _) _) (IntMulOk.of_right (intBits_le_64 (W5 Zz (dT hz).1) (Int.lt_trans (dT hz).2 Zz)))
def JA {I:WD} (i:Inv g Z s) (e:jP Z I x y=C v) (B:VR g x a) (D:VR g y b):Î cx.M A (abw I a b) (PE g s Z v) bj s:=by
 induction I with
 | Add=>exact Jh i e B D
 | Mult=>exact Lx i e B D
 | Mod=>
  refine aP e λp G e=>aP e λq H e=>GV e λhz e=>?_
  obtain rfl:=Ä e
  obtain⟨t,rfl⟩:=B.intV G
  obtain⟨t',rfl⟩:=D.intV H
  exact mod_int' hz (.tok i (.l! _) _)
 | FloorDiv=>
  refine aP e λp G e=>aP e λq H e=>GV e λhz e=>?_
  obtain rfl:=Ä e
  obtain⟨t,rfl⟩:=B.intV G
  obtain⟨t',rfl⟩:=D.intV H
  exact floordiv_int (λh=>hz (.inl h)) (.tok i (.l! _) _) (.inl (PyProof.noPylong_small (Nat.lt_of_not_le λh=>hz (.inr h))))
 | _=>exact aD e
end
structure B0 (n:Ó) (A:Ā):Prop where
 handled:A.handled=U
 depth:A.depth+4 * n+8<ϕ
 units:A.units+60 * n+100<XU
def B0.room {n:Ó} {A:Ā} (h:B0 n A):A.units<XU:=É (Â (ë _ _) (ë _ _)) h.units
section
def kS (A:Ā) (s:Ç) (a b:Ê) (r:ì):Prop:=(∀{E Q},Q (.bool r) s->Î cx.M A (WE .Eq a b) Q E s)/\(∀{E Q},Q (.bool (!r)) s->Î cx.M A (WE .NotEq a b) Q E s)
def kS.of {r:ì} (h:RcAt A s a b r) (k:RcNeAt A s a b (!r)):kS A s a b r:=⟨λq=>h _ _ _ _ q,λq=>k _ _ _ _ q⟩
def MB (B:Prop) (A:Ā) (s:Ç) (a b:Ê) (r:ì):Prop:=∀(e:EqAt A s a b r) (p:kS A s a b r),B
def QH:=λA s a b r=>∀B,MB B A s a b r->B
def QH.mk:MB (QH A s a b r) A s a b r:=λe p J B=>B e p
def QH.c {r:ì} (h:QH A s a b r):kS A s a b r:=h _ λJ x=>x
def pH {r:ì} (e:xA x y=C r) (D:VR g x a) (B:VR g y b):QH A s a b r:=by
 induction x using AV.casesOn with
 | int i=>refine bC e λj h e=>?_;subst e;obtain⟨t,rfl⟩:=D.f';obtain⟨t',rfl⟩:=B.intV h;exact(.mk (EqAt.int_int _ _ _ _) (.of (RcAt.int_int _ _ _ _) (RcNeAt.int_int _ _ _ _)))
 | str i=>
  (refine D.c! _ ?_;rintro t rfl _)
  refine eY e (λj h e=>?_) λJ e=>bC e λJ h e=>?_
  ·(refine B.strV h _ ?_;rintro t' rfl _);rw[<-Ä e];exact(.mk (EqAt.str_str _ _ _ _) (.of (RcAt.str_str _ _ _ _) (RcNeAt.str_str _ _ _ _)))
  ·rw[jt h]at B;subst e B;exact(.mk (EqAt.str_none _ _) (.of (RcAt.str_none _ _) (RcNeAt.str_none _ _)))
 | none=>
  obtain rfl:=D.of_none
  refine eY e (λJ h e=>?_) λJ e=>bC e λJ h e=>?_
  ·rw[jt h]at B;subst B;rw[<-Ä e];exact(.mk (EqAt.same _) (.of RcAt.none_none RcNeAt.none_none))
  ·(refine B.strV h _ ?_;rintro t' rfl _);subst e;exact(.mk (EqAt.none_str _ _) (.of (RcAt.none_str _ _) (RcNeAt.none_str _ _)))
 | _=>exact aD e
theorem zL:∀{xs ys:ZB} {vs us:ZA} {r:ì},OE xs ys=C r->aG g xs vs->aG g ys us->vs.length=us.length/\∃f:Ó->ì,(∀j (B:j<vs.toArray.size) (D:j<us.toArray.size),EqAt A s vs.toArray[j] us.toArray[j] (f j))/\(İ vs.length).all f=r
 | [],ys,vs,us,r,e,p,q=>aQ e λO e=>by
  obtain rfl:=Ġ.mp O
  rw[p.d!,q.d!,<-Ä e]
  exact⟨rfl,λJ=>Í,λj h=>absurd h (Ϻ _),rfl⟩
 | x::xs,[],vs,us,r,e,p,q=>aD e
 | x::xs,y::ys,vs,us,r,e,p,q=>aP e λz h e=>aP e λa I e=>bC e λb L H=>by
  obtain rfl:y=z:=Ä h
  obtain⟨v,vs,rfl,B,p⟩:=p.b!
  obtain⟨u,us,rfl,D,q⟩:=q.b!
  obtain⟨l,f,Q,À⟩:=zL L p q
  refine pH (A:=A) (s:=s) I B D _ λG J=>?_
  refine⟨Õ (· + 1) l,λj=>match j with|0=>a|j+1=>f j,λj B D=>?_,?_⟩
  ·match j,B,D with
   | 0,_,_=>exact G
   | j+1,B,D=>exact Q j (Ζ B) (Ζ D)
  ·simp only[<-H,<-À,ŕ,range_succ_eq_map,all_cons,all_map];rfl
def Ej {p q:Ü} {vs us:ZA} (hA:A.units<XU) (D:s.heap.PlainList p vs.toArray) (G:s.heap.PlainList q us.toArray) (H:vs.length≠us.length):kS A s (.ref p) (.ref q) Ï:=
 have B:(vs.length !=us.length)=Í:=ώ.mpr H
 .of (RcAt.lists_lengths D.isList G.isList B hA) (RcNeAt.lists_lengths D.isList G.isList B hA)
def Hs {p q:Ü} {vs us:ZA} {f:Ó->ì} {r:ì} (hA:A.units<XU) (G:s.heap.PlainList p vs.toArray) (H:s.heap.PlainList q us.toArray) (D:vs.length=us.length)
 (B:∀j (h1:j<vs.toArray.size) (h2:j<us.toArray.size),EqAt A.in1 s vs.toArray[j] us.toArray[j] (f j)) (I:(İ vs.length).all f=r):kS A s (.ref p) (.ref q) r:=
 I▸.of (RcAt.lists G.isList H.isList D hA B) (RcNeAt.lists G.isList H.isList D hA B)
def F7 {r:ì} {p q:Ü} {vs us:ZA} {xs ys:ZB} (hA:A.units<XU) (B:s.heap.PlainList p vs.toArray) (D:s.heap.PlainList q us.toArray) (e:(if ys.isEmpty=Í then C xs.isEmpty else U)=C r) (G:aG g xs vs) (I:aG g ys us):kS A s (.ref p) (.ref q) r:=by
 refine aQ e λH e=>?_
 obtain rfl:=Ä e
 obtain rfl:=Ġ.mp H
 obtain rfl:=I.d!
 rcases xs with _|⟨x,xs⟩
 ·obtain rfl:=G.d!
  exact Hs (f:=λJ=>Í) hA B D rfl (λj h=>absurd h (Ϻ _)) rfl
 ·obtain⟨u,r,rfl,_,_⟩:=G.b!
  exact Ej hA B D (gg _)
def F6 {r:ì} (hA:A.units<XU) (i:Inv g Z s) (e:Uv Z x y=C r) (G:VR g x a) (H:VR g y b):kS A s a b r:=by
 refine eY e (λxs B e=>aP e λys D e=>?_) λJ e=>PC e (λe=>(pH e G H).c) λe=>aP e λys D e=>aP e λxs B e=>?_
 ·rw[kQ B]at G
  rw[kQ D]at H
  (refine G _ ?_;rintro p _ vs rfl I ⟨n,rfl⟩ O _)
  (refine H _ ?_;rintro q _ us rfl L ⟨m,rfl⟩ Q _)
  obtain⟨l,f,À,Y⟩:=zL (A:=A.in1) (s:=s) e O Q
  have B:s.heap.IsTuple p vs.toArray:=⟨_,i.sub _ _ I,rfl,n,rfl⟩
  have D:s.heap.IsTuple q us.toArray:=⟨_,i.sub _ _ L,rfl,m,rfl⟩
  have E:min vs.toArray.size us.toArray.size=vs.length:=by simp only[Đ,Đ,<-l,Η]
  have V:((İ (min vs.toArray.size us.toArray.size)).all f&&vs.toArray.size==us.toArray.size)=r:=by rw[E,Y,Đ,Đ,l,ş,YD]
  exact V▸.of (RcAt.tuples B D hA À) (RcNeAt.tuples B D hA À)
 ·((refine aI i B G _ ?_;rintro p vs rfl I O zp))
  ((refine aI i D H _ ?_;rintro q us rfl L Q zq))
  exact F7 hA I L e O Q
end
section
def cR:∀{xs:ZB} {ts:ZC} {vs:ZA},aJ xs=C ts->aG g xs vs->(∀t∈ts,t.length<=Ö)/\Ů vs ts:=by
 intro O;induction O with
 | nil=>
  exact @λJ J e r=>by obtain rfl:=Ä e;rw[r.d!];exact⟨by trivial,.nil⟩
 | cons x xs L=>
  intro _ _ e r
  obtain⟨v,vs,rfl,hv,q⟩:=r.b!
  refine aP e λt h e=>bC e λts I D=>?_
  obtain⟨G,H⟩:=L I q
  (refine hv.strV h _ ?_;rintro tk rfl z)
  subst D
  exact⟨by intro y B;cases B with|head=>exact z|tail _ B=>exact G y B,.cons _ _ H⟩
def Iz {vs:ZA} {ts:ZC} (h:Ů vs ts) (x:Ì):vs.any (λv=>v.isStr x)=ts.contains x:=by
 induction h with
 | nil=>rfl
 | cons y t h B=>
  simp only[V_,B,oo]
  show(y==x||_)=_
  rw[BEq.comm]
def IA {vs:ZA} {ts:ZC} (h:Ů vs ts):∀v∈vs,∃y t,v = .str y t:=by
 induction h with
 | nil=>intro v hv;rcases hv
 | cons y t h B=>
  intro v hv
  cases hv with
  | head=>exact⟨y,t,rfl⟩
  | tail _ hv=>exact B v hv
def QO (A:Ā) (s:Ç) (M:Model) (a b:Ê) (r:ì):Prop:=
 (∀{E Q},(∀t,Q (.bool r) { s with toks:=t })->Î M A (WE .In a b) Q E s)/\(∀{E Q},(∀t,Q (.bool (!r)) { s with toks:=t })->Î M A (WE .NotIn a b) Q E s)
def oF {kvs:ZF} {vs:ZA} (r:aG g (kvs.map (·.2)) vs) (k:Ì):(aaK ((kvs.map (·.1)).zip vs) k).isSome=(kvs.map (·.1)).contains k:=by
 induction kvs generalizing vs with
 | nil=>rfl
 | cons H kvs G=>
  obtain⟨D,y⟩:=H
  rcases _:aG.b! (show aG g (y::kvs.map (·.2)) vs from r)with⟨u,us,rfl,hu,q⟩
  have:=G q
  simp only[Ī,M_,aaK,ϭ,oo]at this ⊢
  by_cases hk:D=k
  ·simp[hk]
  ·have B:(k==D)=Ï:=by simpa using λe:k=D=>hk e.symm
   simp only[hk,decide_false,B,abV]
   exact this
def gN {r:ì} {p:Ì} {B:YP} (y:AV) (i:Inv g Z s) (e:((aw Z y).bind λys=>(aJ ys).map (·.contains p)).orElse (λJ=>((fN Z y).map λks=>ks.contains p).orElse λJ=>(aC Z y).map λkvs=>(kvs.map (·.1)).contains p)=C r) (I:VR g y b):QO A s cx.M (.str p B) b r:=by
 refine PC e (λe=>aP e λys V e=>bC e λts H e=>?_) λe=>PC e (λe=>bC e λks Y e=>?_) λe=>bC e λkvs hk e=>?_<;>subst e
 ·((refine aI i V I _ ?_;rintro q vs rfl G L O))
  obtain⟨_,D⟩:=cR H L
  have À:∀v,v∈vs.toArray->EqAt A.in1 s v (.str p B) (v.isStr p):=λv hv=>by
   obtain⟨y,t,rfl⟩:=IA D v (by simpa using hv)
   exact EqAt.str_str _ _ _ _
  have Q:vs.toArray.any (λv=>v.isStr p)=ts.contains p:=by simp only[<-Iz D p];simp
  exact⟨λh=>in_listAt (λv=>v.isStr p) G.isList À (by rw[Q];exact h s.toks),λh=>notIn_listAt (λv=>v.isStr p) G.isList À (by rw[Q];exact h s.toks)⟩
 ·((refine uU i Y I _ ?_;rintro q rfl D))
  exact⟨λh=>wpAny_inSet_of (ů _ _ p B) rfl D.of (h _),λh=>wpAny_notInSet_of (ů _ _ p B) rfl D.of (h _)⟩
 ·((refine bg i hk I _ ?_;rintro q vs rfl G L O _ _))
  have:=oF L p
  exact⟨λh=>wpAny_in_of (ů _ _ p B) O G.mapOf (by rw[this];exact h _),λh=>wpAny_notIn_of (ů _ _ p B) O G.mapOf (by rw[this];exact h _)⟩
def GW {r:ì} (i:Inv g Z s) (e:Ed Z x y=C r) (D:VR g x a) (B:VR g y b):QO A s cx.M a b r:=by
 refine aP e λp h e=>?_
 (refine D.strV h _ ?_;rintro tk rfl _)
 induction y using AV.casesOn with
 | str q=>
  obtain rfl:=Ä e
  (refine B.c! _ ?_;rintro tk' rfl _)
  exact⟨λh=>in_str (h s.toks),λh=>notIn_str (h s.toks)⟩
 | fl xs=>exact gN (.fl xs) i e B
 | loc l=>exact gN (.loc l) i e B
 | fd ks xs=>exact gN (.fd ks xs) i e B
 | ws ks=>exact gN (.ws ks) i e B
 | _=>exact aD e
def yA (h:Be x=Í) (r:VR g x a):(a==.none)=Ï:=by
 induction x using AV.casesOn with
 | str=>(refine r _ ?_;rintro _ rfl _);rfl
 | tup=>(refine r _ ?_;rintro _ _ _ rfl _ _ _ _);rfl
 | ws=>(refine r _ ?_;rintro _ _ rfl _ _);rfl
 | bm=>(refine r _ ?_;rintro _ _ rfl _ _);rfl
 | _=>exact E4 h
def G4 {r:ì} (e:UH x y=C r) (B:VR g x a) (D:VR g y b):b = .none/\(a==.none)=r:=
 aP e λJ G e=>⟨by rw[jt G]at D;exact D,eY e (λJ h e=>by rw[jt h]at B;rw[B.of_none,<-Ä e];rfl) λJ e=>aQ e λh e=>by rw[<-Ä e];exact yA h B⟩
def IM {f:Į->Į->ì} {r:ì} {P:Prop} (e:VH f x y=C r) (I:VR g x a) (L:VR g y b) (k:∀i j t t',a = .int i t->b = .int j t'->f i j=r->P):P:=
 aP e λi B e=>bC e λj D e=>(I.intV B).elim λt G=>(L.intV D).elim λt' H=>k i j t t' G H e
def JG {G:XR} {r:ì} (hA:B0 n A) (i:Inv g Z s) (e:jR Z G x y=C r) (B:VR g x a) (D:VR g y b):Î cx.M A (WE G a b) (PE g s Z (.bool r)) bj s:=by
 induction G with
 | Eq=>exact(F6 hA.room i e B D).1 (.now i .l')
 | NotEq=>exact bC e λH h e=>e▸(F6 hA.room i h B D).2 (.now i .l')
 | Gt=>exact IM e B D λp q t t' I L O=>I▸L▸O▸gt_int (.now i .l')
 | In=>exact(GW i e B D).1 λt=>.tok i .l' t
 | NotIn=>exact bC e λH h e=>e▸(GW i h B D).2 λt=>.tok i .l' t
 | Is=>obtain⟨rfl,h⟩:=G4 e B D;exact is_none_gen (by rw[h];exact .now i .l')
 | IsNot=>obtain⟨H,h',rfl⟩:=Ħ.mp e;obtain⟨rfl,h⟩:=G4 h' B D;exact isnot_none_gen (by rw[h];exact .now i .l')
 | _=>exact aD e
set_option tactic.hygienic true in def AT {m j:Ó} {k:Į} (e:nx m k=C j):k.natAbs<2 ^ 30/\XB k m=C j:=by
 unfold nx at e
 split at e
 ·rename_i h;exact⟨h,e⟩
 ·contradiction
set_option tactic.hygienic true in def wj {m j:Ó} {k:Į} (e:XB k m=C j):j<m/\(0<=k->k.toNat=j)/\(k<0->-(m:Į)<=k/\(k+m).toNat=j):=by
 unfold XB at e
 by_cases hk:k<0
 ·simp only[hk,WR]at e
  split at e
  ·rename_i h
   simp only[ú,j_]at h
   obtain rfl:=Ä e
   exact⟨(acL h.1).mpr h.2,λB=>absurd hk (aao.mpr B),λJ=>⟨Int.sub_nonneg.mp (by rw[Int.sub_neg];exact h.1),rfl⟩⟩
  ·contradiction
 ·simp only[hk,δ]at e
  split at e
  ·rename_i h
   simp only[ú,j_]at h
   obtain rfl:=Ä e;simp +arith [*]
  ·contradiction
def jJ {kvs:ZF} {vs:ZA} (r:aG g (kvs.map (·.2)) vs) (k:Ì) :
 (ak k kvs=U->aaK ((kvs.map (·.1)).zip vs) k=U)/\∀x,ak k kvs=C x->∃u,aaK ((kvs.map (·.1)).zip vs) k=C u/\VR g x u:=by
 induction kvs generalizing vs with
 | nil=>simp only[ow]at r;skip;exact⟨λJ=>rfl,λx e=>by contradiction⟩
 | cons L kvs H=>
  obtain⟨I,y⟩:=L
  rcases _:r.b! with⟨u,us,rfl,B,q⟩
  obtain⟨D,G⟩:=H q
  simp only[bu,Ī,M_,aaK,ϭ]
  by_cases hk:I=k
  ·simp only[hk,WR,decide_true]
   refine⟨λe=>absurd e (by trivial),λx e=>?_⟩
   obtain rfl:=Ä e
   exact⟨u,rfl,B⟩
  ·simp only[hk,δ,decide_false]
   exact⟨D,G⟩
def Fk (B:Prop) (g:G) (Z:aa) (s:Ç) (A:Ā) (v:AV) (a b:Ê):Prop:=∀(T id:Λ) (h1:s.TypeIs a T) (h2:ύ (.type T) "__getitem__" = pure (C (.builtin id))) (h3:Î cx.M A (getItem a b) (PE g s Z v) bj s),B
def w0:=λg Z s A v a b=>∀B,Fk B g Z s A v a b->B
def w0.mk:Fk (w0 g Z s A v a b) g Z s A v a b:=λT id D G H J B=>B T id D G H
def J7 (i:Inv g Z s) (e:fw Z x y=C v) (B:VR g x a) (I:VR g y b) :
 w0 g Z s A v a b:=by
 have H:∀{k:Į} {o:AV},((aw Z o).bind λxs=>(nx xs.length k).bind (xs[·]?))=C v->VR g o a->VR g (.int k) b->
  w0 g Z s A v a b:=by
  intro k o e B I
  obtain⟨xs,V,e⟩:=ù.mp e
  obtain⟨j,G,e⟩:=ù.mp e
  rcases _:AT G with⟨hk,G⟩
  obtain⟨t,rfl⟩:=I.f'
  ((refine aI i V B _ ?_;rintro p vs rfl O L q))
  obtain⟨u,Q,À⟩:=L.get e
  obtain⟨j1,N,l⟩:=wj G
  refine(.mk "list" _ O.isList.typeIs slot_list_getitem.lookup ?_)
  by_cases h0:0<=k
  ·exact wpAny_getItem_list O.isList h0 (dT hk).2 (by rw[N h0];simpa using Q) (.now i À)
  ·have:=l (W7.mp h0)
   have E:=L.length
   exact wpAny_getItem_list_neg O.isList (W7.mp h0) (by rw[Đ,<-E];exact this.1) (dT hk).1 (by simp only[Đ,<-E,this.2];simpa using Q) (.now i À)
 have D:∀{k:Ì} {o:AV},(aC Z o).bind (ak k)=C v->VR g o a->VR g (.str k) b->
  w0 g Z s A v a b:=by
  intro k o e B I
  rcases _:ù.mp e with⟨kvs,V,e⟩
  ((refine I.c! _ ?_;rintro t rfl _))
  ((refine bg i V B _ ?_;rintro p vs rfl O L q _ _))
  obtain⟨u,Q,À⟩:=(jJ L k).2 _ e
  exact(.mk "dict" _ O.typeIs slot_dict_getitem.lookup (wpAny_getItem_of (ů _ _ k t) O.mapOf Q (.tok i À _)))
 induction y using AV.casesOn with
 | int k=>
  refine eY e (λxs h e=>?_) λJ e=>H e B I
  rw[kQ h]at B
  obtain⟨j,G,e⟩:=ù.mp e
  obtain⟨hk,G⟩:=AT G
  obtain⟨t,rfl⟩:=I.f'
  (refine B _ ?_;rintro p o vs rfl acT ⟨m,rfl⟩ L z)
  rcases _:L.get e with⟨u,Q,À⟩
  have Y:IsTup s.heap p vs.toArray:=⟨_,i.sub _ _ acT,rfl,m,rfl⟩
  exact(.mk "tuple" _ Y.typeIs slot_tuple_getitem.lookup (getItem_tuple Y (dT hk).1 (dT hk).2 (by simp only[Đ,<-L.length];exact G) (by simpa using Q) (.now i À)))
 | str k=>exact D e B I
 | _=>exact aD e
def wC {D B:ñ} {T id:Λ} {E:Ê->Ç->Prop} {Q:Ê->Ç->Prop} (L:s.TypeIs a T)
 (O:ύ (.type T) "__getitem__" = pure (C (.builtin id))) (h:Î cx.M A (getItem a b) Q E s):Î cx.M A (subscriptTail D B a b) Q E s:=by
 refine Á ?_
 refine Á (c_ L O ?_)
 have G:Î cx.M A (subscripted B Ï a b) (λr H=>Î cx.M A (adU D a r >>= λJ=>pure r) Q E H) E s:=by
  have k:Î cx.M A (getItem a b) (λr H=>Î cx.M A (adU D a r >>= λJ=>pure r) Q E H) E s:=
   Ô h (λr H I=>Á (abB (Å I))) λJ J x=>x
  induction B using Ŋ with
  | Slice l u st p=>rcases st with _|st<;>exact adA k
  | _=>exact adA k
 first
  | exact Å (Á G)
  | exact Á (Å (Á G))
  | exact Á G
def uO (B:Prop) (a:Ê) (k:Æ Į):Prop:=∀(h:IsPart a k) (l:Æ (Į×YP)) (e:a=ada l) (q:l.map (·.1)=k),B
def xd:=λa k=>∀B,uO B a k->B
def xd.mk:uO (xd a k) a k:=λh l e q J B=>B h l e q
def qU {k:Æ Į} (e:yE x=C k) (B:VR g x a):xd a k:=by
 induction x using AV.casesOn with
 | none=>obtain rfl:=Ä e;rw[B.of_none];exact(.mk .none U rfl rfl)
 | int j=>obtain rfl:=Ä e;obtain⟨t,rfl⟩:=B.f';exact(.mk (.int _ _) (C (_,t)) rfl rfl)
 | _=>exact aD e
def yT {B:Type} (xs:È B) (p q:Ó):(xs.drop p).take (q - p)=(xs.take q).drop p:=by
 rw[Xt]
def EL {lo j st:AV} {l h t:Ê} {m:Ü} (i:Inv g Z s) (e:d0 Z x lo j st=C v) (B:VR g x a) (rl:VR g lo l) (rh:VR g j h) (y:VR g st t)
 (d:g.I m=C { cls:=.type "slice",data:=.fields #[l,h,t] }) :
 w0 g Z s A v a (.ref m):=by
 rcases _:ù.mp e with⟨acT,r,e⟩
 obtain⟨Q,c,e⟩:=ù.mp e
 ((refine qU r rl _ ?_;rintro pl E rfl À))
 ((refine qU c rh _ ?_;rintro q h' rfl O))
 have V:s.heap.get? m=C { cls:=.type "slice",data:=.fields #[ada E,ada h',t] }:=i.sub _ _ d
 have ls:∀N,((aw Z N).map λxs=>AV.fl (yS xs acT Q))=C v->VR g N a->t = .none->w0 g Z s A v a (.ref m):=λN e B H=>by
  subst H
  refine bC e λxs Y e=>?_
  subst e
  (refine aI i Y B _ ?_;rintro p vs rfl G D L)
  have hz:vs.toArray.size<=Ö:=by simp only[Đ,<-D.length];exact L
  refine(.mk "list" _ G.isList.typeIs slot_list_getitem.lookup (ZR (st:=U) G.isList ⟨_,V,rfl,rfl⟩ pl q .none (by trivial) ?_ hz))
  rw[slicePick_plain,yT]
  have hv:=D.length
  simp only[Đ,<-hv]
  refine .list (n:=0) (t:=s.toks) i ((D.take _).drop _) ?_ rfl
  exact Â (by rw[yS,ϰ];exact aaw _ _) (Â (by rw[W_];exact f_ _ _) L)
 induction st using AV.casesOn with
 | none=>
  have H:=y.of_none
  induction x using AV.casesOn with
  | str p=>
   subst H
   obtain rfl:=Ä e
   (refine B.c! _ ?_;rintro tk rfl z)
   refine(.mk "str" _ (Ź _ _ _) F.slot_str_getitem.lookup (wpAny_getItem_str_slice (l:=E) (u:=h') (st:=U) ⟨_,V,rfl,rfl⟩ rfl ?_))
   simp only[<-À,<-O]
   have w:=Â (Zb p (E.map (·.1)) (h'.map (·.1))) z
   exact post_val_or_str ⟨w,λt' k=>.tok i (.g! _ w) _⟩
  | fl xs=>exact ls (.fl xs) e B H
  | loc xs=>exact ls (.loc xs) e B H
  | _=>exact aD e
 | int k=>
  refine aQ e λhk e=>bC e λxs Y e=>?_
  subst e
  ((refine aI i Y B _ ?_;rintro p vs rfl G D L))
  obtain⟨tk,rfl⟩:=y.f'
  obtain rfl:=hk.1
  obtain rfl:=Ģ.mp hk.2.1
  obtain rfl:=Ģ.mp hk.2.2
  have hz:vs.toArray.size<=Ö:=by simp only[Đ,<-D.length];exact L
  refine(.mk "list" _ G.isList.typeIs slot_list_getitem.lookup (ZR (st:=C (-1)) G.isList ⟨_,V,rfl,rfl⟩ pl q (.int _ _) (by trivial) ?_ hz))
  rw[krv_pick]
  exact .list (n:=0) (t:=s.toks) i D.reverse (by simpa using L) rfl
 | _=>exact aD e
end
def dY:ξ (.type "set") (.type "set")=pure Í:=by rw[Β];kernel_rfl
section
def VR.none_ {g:G}:VR g .none .none:=(rfl:Ă = .none)
def lm {vs:ZA} {ts:ZC} (h:Ů vs ts):∃l:È (Ì×YP),vs=adg l/\l.map (·.1)=ts:=by
 induction h with
 | nil=>exact⟨[],rfl,rfl⟩
 | cons y t h B=>obtain⟨l,rfl,rfl⟩:=B;exact⟨(y,t)::l,rfl,rfl⟩
def B8 {l:Ó} {xs:ZB} (i:Inv g Z s) (e:Z[l]? = C (.list xs)) (hz:xs.length<Ö) (H:VR g (.loc l) a) (I:VR g v b) :
 Î cx.M A (call (.builtin "list.append") [a,b]) (PE g s (Z.set l (.list (xs++[v]))) .none) bj s:=by
 obtain⟨p,rfl,B⟩:=H
 refine i.cells _ _ _ e B _ λvs hv q z=>?_
 refine aam hv (λh' D G=>?_) (by simp only[Đ,<-q.length];exact z)
 exact PE.set (o:=.list (xs++[v])) (t:=s.toks) i B (.mk (vs++[b]) (by simpa using D) (q.append (.cons I .nil)) (by simp;assumption)) G .none_
def xB (vs:ZA) (u:Ê):((vs++[u]).toArray.eraseIdxIfInBounds ((vs++[u]).toArray.size - 1))=vs.toArray:=by
 simp[eraseIdx_append_of_length_le]
def jq (f:ÿ Ê->ÿ Ê) (B:ÿ Ê) (k:Ó):∃m,Ğ f { cls:=.type "list",data:=.seq B k }={ cls:=.type "list",data:=.seq (f B) m }:=⟨_,rfl⟩
def aG.snoc {xs:ZB} {x:AV} {vs:ZA} (h:aG g (xs++[x]) vs):∃us u,vs=us++[u]/\aG g xs us/\VR g x u:=by
 induction xs generalizing vs with
 | nil=>obtain⟨u,r,rfl,H,B⟩:=aG.b! h;rw[B.d!];exact⟨[],u,rfl,.nil,H⟩
 | cons y ys L=>obtain⟨w,r,rfl,I,B⟩:=aG.b! h;obtain⟨us,u,rfl,D,G⟩:=L B;exact⟨w::us,u,rfl,.cons I D,G⟩
set_option tactic.hygienic true in def PK {l:Ó} {xs r:ZB} (i:Inv g Z s) (e:Z[l]? = C (.list xs)) (D:HW xs=C (r,v)) (Q:VR g (.loc l) a) :
 Î cx.M A (call (.builtin "list.pop") [a]) (PE g s (Z.set l (.list r)) v) bj s:=by
 rcases _:Q with⟨p,rfl,I⟩
 ((refine i.cells _ _ _ e I _ ?_;rintro vs ⟨k,hv⟩ q z))
 unfold HW at D
 split at D
 ·rename_i w' hw
  rcases D
  have O:xs=xs.dropLast++[v]:=by
   induction xs with
   | nil=>trivial
   | cons y ys=>rw[getLast?_eq_some_getLast (by simp),adB]at hw;rw[<-hw];exact(ϒ (by simp)).symm
  rw[O]at q
  rcases _:q.snoc with⟨us,u,rfl,G,H⟩
  refine Ÿ acs ⟨_,hv,rfl⟩ F.entry_list_pop (F.args_list_pop_1 _) (MeetsSeq.list_pop_last p _ k u (by simp) (by simp only[Đ,<-(G.append (.cons H .nil)).length,<-O];exact z)) ⟨hv,?_⟩
  rcases _:jq (λxs=>xs.eraseIdxIfInBounds ((us++[u]).toArray.size - 1)) (us++[u]).toArray k with⟨m,L⟩
  rw[xB]at L
  have B:=œ (h:=s.heap) (a:=p) (Ğ λxs=>xs.eraseIdxIfInBounds ((us++[u]).toArray.size - 1)) hv (by rfl)
  rw[L]at B
  refine PE.set (o:=.list xs.dropLast) (t:=s.toks) i I (.mk us ⟨m,B⟩ G (by simp;exact ļ ‹_›)) (Ĩ ..) H
 ·contradiction
def Lf {B:Ì} {xs:ZB} {ts:ZC} (i:Inv g Z s) (e:aw Z v=C xs) (h:aJ xs=C ts) (hz:(ts.map (·.length)).sum+ts.length * B.length<=Ö) (L:VR g (.str B) a) (O:VR g v b) :
 Î cx.M A (call (.builtin "str.join") [a,b]) (PE g s Z (.str (û B ts))) bj s:=by
 (refine L.c! _ ?_;rintro t rfl _)
 ((refine aI i e O _ ?_;rintro p vs rfl I Q zp))
 rcases _:cR h Q with⟨_,H⟩
 rcases _:lm H with⟨l,rfl,rfl⟩
 have D:JoinOk B (l.map (·.1))=Í:=joinOk_of (by exact hz)
 have G:=D
 unfold JoinOk at G
 refine Ÿ acu (Ź _ _ _) acd (F.args_str_join_2 _ _) (abP B t p l (by simpa using G)) ⟨I.isList,post_join l ⟨XV D,λt' k=>.tok i (.g! _ (XV D)) _⟩⟩
def Iy {p:Ì} (i:Inv g Z s) (B:VR g (.str p) a):Î cx.M A (call (.builtin "str.strip") [a]) (PE g s Z (.str (be p))) bj s:=by
 (refine B.c! _ ?_;rintro t rfl z)
 exact SC.strip (λt' k=>.tok i (.g! _ (Â (fact_strip p) z)) _) z
def aG.strs {ts:ZC} {vs:ZA} (h:Ů vs ts) (z:∀t∈ts,t.length<=Ö):aG g (ts.map .str) vs:=by
 induction h with
 | nil=>exact .nil
 | cons y t h D=>exact .cons (.g! _ (z _ (by simp))) (D λx B=>z x (by simp[B]))
def strsAre_values:∀l:È (Ì×YP),Ů (adg l) (l.map (·.1)):=by
 intro G;induction G with
 | nil=>
  exact .nil
 | cons D l B=>
  obtain⟨_,_⟩:=D;exact .cons _ _ (B)
def PE.texts {ts:ZC} {l:È (Ì×YP)} {k t:Ó} (i:Inv g Z s) (e:l.map (·.1)=ts) (z:∀t∈ts,t.length<=Ö) (hz:ts.length<=Ö) :
 PE g s Z (.fl (ts.map .str)) (.ref s.heap.objs.size) { s with heap:=s.heap.push { cls:=.type "list",data:=.seq (adg l).toArray k },toks:=t }:=
 .list (n:=k) (t:=t) i (aG.strs (e▸strsAre_values l) z) (by simpa using hz) rfl
def EE {p c:Ì} {k:Į} {d:Ê} (i:Inv g Z s) (I:c.length≠0) (hk:k.natAbs<2 ^ 30) (hz:(Ĵ p c k).length<=Ö) (O:VR g (.str p) a) (Q:VR g (.str c) b) (À:VR g (.int k) d) :
 Î cx.M A (call (.builtin "str.rsplit") [a,b,d]) (PE g s Z (.fl ((Ĵ p c k).map .str))) bj s:=by
 (refine O.c! _ ?_;rintro t rfl z)
 (refine Q.c! _ ?_;rintro u rfl _)
 obtain⟨D,rfl⟩:=À.f'
 have H:(c.length==0)=Ï:=by simpa using I
 have B:(decide (k < -(2 ^ 63:Į))||decide (k≥2 ^ 63))=Ï:=vM hk
 have G:∀q∈Ĵ p c k,q.length<=Ö:=λq L=>Â (rpartMax_short L) z
 rcases h1:(decide (p.length<c.length)||decide (ŉ p<ŉ c))
 ·rcases hf:(WC p c (XA p k)).isEmpty
  ·have e:Ĵ p c k=Ο p (WC p c (XA p k)) c.length:=by unfold Ĵ;rw[Ý (by rw[h1];simp),Ý (by rw[hf];simp)]
   refine Ÿ B_ (Ź _ _ _) XO (Xh _ _ _) (meets_str_rsplit_sep_max p c k t u D B h1 H hf z (by rw[<-e];exact hz)) ?_
   rw[abz]
   exact PE.texts i ((Zi _ _).trans e.symm) G hz
  ·have e:Ĵ p c k=[p]:=by unfold Ĵ;rw[Ý (by rw[h1];simp),Û hf]
   exact Ÿ B_ (Ź _ _ _) XO (Xh _ _ _) (meets_str_rsplit_max_not_found p c k t u D B h1 H hf) (PE.texts (l:=[(p,t)]) (t:=s.toks) i e.symm G hz)
 ·have e:Ĵ p c k=[p]:=by unfold Ĵ;rw[Û h1]
  exact Ÿ B_ (Ź _ _ _) XO (Xh _ _ _) (meets_str_rsplit_max_cannot_occur p c k t u D B h1) (PE.texts (l:=[(p,t)]) (t:=s.toks) i e.symm G hz)
def Hc {kvs:ZF} (i:Inv g Z s) (e:aC Z v=C kvs) (D:VR g v a):Î cx.M A (call (.builtin "dict.items") [a]) (PE g s Z (.iv v)) bj s:=by
 ((refine bg i e D _ ?_;rintro p vs rfl B rp H _ _))
 refine aaF abL B.typeIs F.entry_dict_items (F.args_dict_items_1 _) (meets_dict_items cx.sk p H) ⟨⟨_,B⟩,?_⟩
 exact PE.alloc (t:=s.toks) i rfl λg' le G=>by exact(.mk _ _ p rfl G rfl rfl (D.mono le))
def OT {k:Ì} {kvs:ZF} (i:Inv g Z s) (e:aC Z v=C kvs) (L:VR g v a) (O:VR g (.str k) b) :
 Î cx.M A (call (.builtin "dict.get") [a,b]) (PE g s Z ((ak k kvs).getD .none)) bj s:=by
 ((refine bg i e L _ ?_;rintro p vs rfl D Q V _ _))
 (refine O.c! _ ?_;rintro t rfl _)
 refine aaF acr D.typeIs F.entry_dict_get (F.args_dict_get_2 _ _) (meets_dict_get cx.sk p (ů _ _ k t) V) ⟨_,D.mapOf,?_⟩
 obtain⟨G,H⟩:=jJ Q k
 generalize B:ak k kvs=zzy
 induction zzy with
 | none=>rw[G B];exact PE.tok i .none_ _
 | some x=>rcases _:H x B with⟨u,I,À⟩;rw[I];exact PE.tok i À _
set_option tactic.hygienic true in def oN (k B:Ì) (ks:ZC):(aZ k ks).contains B=(ks.contains B||decide (B=k)):=by
 unfold aZ
 split
 ·rename_i h
  by_cases e:B=k
  ·subst e;rw[h];rfl
  ·simp[e]
 ·rw[YK];simp
set_option tactic.hygienic true in def xm {k:Ì} {ks:ZC} (h:ks.Nodup):(aZ k ks).Nodup:=by
 unfold aZ
 split
 ·exact h
 ·rename_i q
  rw[ō]
  exact⟨h,by simp,λx D y B=>by simp at B;subst B;intro e;subst e;exact q (by simpa using D)⟩
def kX (k:Ì) (ks:ZC):(aZ k ks).length=if ks.contains k then ks.length else ks.length+1:=by
 unfold aZ;split<;>simp
def yj {p:Ì} (i:Inv g Z s) (B:VR g (.str p) a):Î cx.M A (call (.builtin "len") [a]) (PE g s Z (.int p.length)) bj s:=by
 (refine B.c! _ ?_;rintro t rfl z)
 exact P.len_str (W7.mpr (gQ z)) (PE.tok i (.l! _) _)
def vV {xs:ZB} (i:Inv g Z s) (e:aw Z v=C xs) (G:VR g v a):Î cx.M A (call (.builtin "len") [a]) (PE g s Z (.int xs.length)) bj s:=by
 ((refine aI i e G _ ?_;rintro p vs rfl D B H))
 refine Calls.call_len_list D.isList (by simp only[Đ,<-B.length];exact gQ H) ?_
 simp only[Đ,<-B.length]
 exact PE.tok i (.l! _) _
end
section
open PySem PySem.W PyProof.Rows PySem.Sre PySem.Builtin.Re
section
variable {B:Model} {A:Ā} {E:Ê->Ç->Prop} {s:Ç}
def F0 {Q:acg->Ç->Prop} {G:acg} (o:G.outcome.isSome=Í) (q:Q G s):∀(T n:Ó) (m:acg),n<=4 * T->0<T->a_ n m=G->Î B A (reDrive T m) Q E s:=by
 intro I;induction I with
 | zero=>
  exact @λJ J J h J=>absurd h (Ő _)
 | succ T H=>
  intro n m h _ e
  show Î B A (if(a_ 4 m).outcome.isSome=Í then pure (a_ 4 m)else(do rule "sre.turn";reDrive T (a_ 4 m))) Q E s
  by_cases h1:(a_ 4 m).outcome.isSome=Í
  ·rw[Û h1]
   have:a_ 4 m=G:=by
    rcases Nat.le_total n 4 with D|D
    ·rw[show 4=n+(4 - n) by omega,dN,e,fH o]
    ·rw[<-e,show n=4+(n - 4) by omega,dN,fH h1]
   rw[this]
   exact Å q
  ·rw[Ý h1]
   have D:4<n:=by
    rcases O_ 4 n with D|D
    ·exact D
    ·refine absurd ?_ h1
     rw[show 4=n+(4 - n) by omega,dN,e,fH o]
     exact o
   refine Á (Ŝ ?_)
   exact H (n - 4) (a_ 4 m) (by exact ZG ‹_›) (by lia) (by rw[<-dN,show 4+(n - 4)=n by omega];exact e)
def H7 {Q:PUnit->Ç->Prop} (f:Ó->ì) (g:Ó->Λ):∀(l:È Ó),Q WZ s->Î B A (forIn l WZ λi J=>if f i=Í then(rule (g i) >>= λJ=>pure (Ŵ WZ):Ϛ (acJ PUnit))else pure (Ŵ WZ)) Q E s:=by
 intro G;induction G with
 | nil=>
  exact @λq=>Å q
 | cons i l D=>
  intro q
  rw[ϟ]
  refine Á ?_
  by_cases h:f i=Í
  ·rw[Û h];exact Á (Ŝ (Å (D q)))
  ·rw[Ý h];exact Å (D q)
def IK {Q:Æ acg->Ç->Prop} {k:Ó} {b:ì} {m:acg} (e:Ends k b m) (hk:k<=2 ^ 64) (q:∀D,Q (if b=Í then C D else U) s):Î B A (reRunToEnd m) Q E s:=by
 refine e _ λD G o=>G _ λn a r=>?_
 unfold reRunToEnd
 refine Á (F0 (by rw[o];rfl) ?_ (2 ^ 64) n m (by lia) Zz r)
 refine Á (H7 _ _ _ ?_)
 rw[o]
 have:=q D
 cases b with
 | true=>exact Å this
 | false=>exact Å this
def ED {prog:Xx} {w:WW} {Q:Ê->Ç->Prop} {a c:Ü} {O L:ϑ} {pt:Ê} {x:Ì} {G:YP} {vs:ÿ Ê} {n:Ó} {À V Y:Ê} {r d:YP}
 (l:s.heap.get? a=C O) (g:O.data = .fields #[pt,À,.int 0 r,V,Y,.ref c,.int 0 d]) (N:s.heap.get? c=C L) (j:L.data = .seq vs n) (hv:(vs.map reRawOf).map (·.toNat)=EF) (q:x.length<4294967295)
 (y:bO x.cps=Ï->Q .none s) (I:bO x.cps=Í->∀h' e o,(∀b o,s.heap.get? b=C o->h'.get? b=C o)->s.heap.get? e=U->h'.get? e=C o->o.cls = .type "re.Match"->Q (.ref e) { s with heap:=h' }) :
 Î (Ϧ prog w) A (ř.«re.Pattern.match» ⟨[.ref a,.str x G],[]⟩) (λH z=>∃v,H = .done (.ret v)/\Q v z) E s:=by
 refine Á ?_
 refine Á (m:=reNamed _ _ _ _ _ _) (ś (a:=[C (.str x G),U,U]) (by kernel_rfl) ?_)
 refine Á (Å (Á (Å ?_)))
 refine Á (Zj l g ?_)
 refine Á (m:=reTextOf _) (ś (a:=(x.cps,0)) (by rfl) ?_)
 show Î _ _ (do
  reNoCollectionInside (e9 x G) 0
  let u <-reRawItems (.ref c)
  pure ({ pattern:=Ż a,string:=e9 x G,code:=Array.map (λx=>x.toNat) u,text:=x.cps,kind:=0,groups:=0,pos:=min 0 x.cps.size,lim:=min (2 ^ 63 - 1) x.cps.size }:ReTarget)) _ _ _
 refine Á (ś (a:=()) (by rfl) ?_)
 refine Á (m:=reRawItems _) (Á (j3 N j (Å ?_)))
 refine Å ?_
 have D:min (2 ^ 63 - 1) x.cps.size=x.cps.size:=Nat.min_eq_right (by have:x.length=x.cps.size:=rfl;lia)
 dsimp -iota only[Option.getD]
 rw[hv,D,Nat.zero_min]
 unfold reAnswer
 refine Á (IK (LZ q) Zz λm'=>?_)
 cases D:bO x.cps with
 | false=>exact Å ⟨_,rfl,y D⟩
 | true=>
  refine Á (m:=reNewMatch _ _ _ _ _ _) ?_
  delta reNewMatch
  refine ĸ (λh=>nomatch (show Ï=Í from h)) λJ=>?_
  refine Á (Xr ?_ (by show 2<=Ö;rw[ŀ];decide))
  unfold newFields
  refine į ?_ (by size_fits)
  exact Å ⟨_,rfl,I D _ _ _ (λb o acT=>Ñ _ (Ñ _ acT)) (get?_none_of_le (by show _<=acH (Array.push _ _);rw[aaN];exact ö _)) (ê _ rfl) rfl⟩
end
end
structure Cf where
 g:G
 Z:aa
 s:Ç
 i:Inv g Z s
def KR (a b:Æ NameKind):Prop:=a=b\/(a=C .free/\b=C .cell)
def oM (ks:bc) (x:Ì):Prop:=ks.lookup x=C .cell\/ks.lookup x=C .free
def LJ (ks:bc) (env:ϙ):È Ü:=env.locals::ks.filterMap λp=>if ks.lookup p.1=C .cell then env.cells.lookup p.1 else U
structure Fr (n:Ó) where
 A:Ā
 ks:bc
 ns:È Ì
 env:ϙ
 frs:È ϙ
 hA:B0 n A
 fn:env.scope.kind = .function
 gl:env.globals=ġ
 bl:env.builtins=Ŏ
 code:(∃c o fs,env.code = .ref c/\cx.h₀.get? c=C o/\o.data = .fields fs)/\((ks.lookup ("resolved_names" : Ì)).isSome=Í->env.code = .ref T.lc/\env.qual=T.lq)
 kinds:∀x,KR (ks.lookup x) (env.kindOf x)
 mem:∀x,ks.lookup x=C .local\/ks.lookup x=C .cell->x∈ns
 apart:∀x y c,env.cells.lookup x=C c->env.cells.lookup y=C c->x=y
 fr:A.frames=C frs
 fk:∀e∈frs,e.scope.kind≠.module/\∃L,e.frame=C L
 fc:∀e∈frs,∀L,e.frame=C L->∀x b,env.cells.lookup x=C b->b≠L
abbrev Fr.own (F:Fr n):È Ü:=LJ F.ks F.env
abbrev Le (F:Fr n) (c c':Cf):Prop:=bt F.own c.g c.s c'.g c'.s
def Holds (v:AV) (o:Æ Ê) (g:G):Prop:=∃u,o=C u/\VR g v u
def zi (H:Prop) (ks:bc) (ns:ZC) (l:Ü) (g:G) (vs:Vs) (h:ę):Prop:=∀(m:Ì->Æ Ê) (n:h.Ns l m) (k:∀x v,ks.lookup x=C .local->bD x ns vs=C v->Holds v (m x) g),H
def Fo:=λks ns l g vs h=>∀H,zi H ks ns l g vs h->H
def Fo.mk:zi (Fo ks ns l g vs h) ks ns l g vs h:=λm n k J G=>G m n k
def zb (H:Prop) (ns:ZC) (env:ϙ) (g:G) (vs:Vs) (h:ę) (x:Ì):Prop:=∀(c:Ü) (e:env.cells.lookup x=C c) (n:c∉g.ρ) (i:g.I c=U) (l:c≠env.locals) (o:Æ Ê) (d:h.IsCell c o) (k:∀v,bD x ns vs=C v->Holds v o g),H
def Fd:=λns env g vs h x=>∀H,zb H ns env g vs h x->H
def Fd.mk:zb (Fd ns env g vs h x) ns env g vs h x:=λc e n i l o d k J G=>G c e n i l o d k
def zc (H:Prop) (g:G) (h:ę) (L:Ü):Prop:=∀(o:ϑ) (e:h.get? L=C o) (d:∀vs,o.data≠.fields vs) (n:L∉g.ρ) (i:g.I L=U),H
def uH:=λg h L=>∀H,zc H g h L->H
def uH.mk:zc (uH g h L) g h L:=λo e d n i J G=>G o e d n i
structure At (F:Fr n) (vs:Vs) (c:Cf):Prop where
 len:vs.length=F.ns.length
 loc:Fo F.ks F.ns F.env.locals c.g vs c.s.heap
 locA:F.env.locals∉c.g.ρ/\c.g.I F.env.locals=U
 cel:∀x,oM F.ks x->Fd F.ns F.env c.g vs c.s.heap x
 frm:∀e∈F.frs,∀L,e.frame=C L->uH c.g c.s.heap L
section
variable {n:Ó} {F:Fr n} {vs B:Vs} {c c' c₀:Cf} {Z Z':aa} {v:AV} {u:Ê} {x:Ì} {A:Ā} {g:G} {s O:Ç}
def bJ {h:ę} {a:Ü} {m:Ì->Æ Ê} (x:h.Ns a m):∃o,h.get? a=C o:=(by obtain⟨o,_,_,e,_⟩:=x;exact⟨o,e⟩)
def cS {h:ę} {a:Ü} {m:Æ Ê} (x:h.IsCell a m):∃o,h.get? a=C o:=(by obtain⟨o,e,_⟩:=x;exact⟨o,e⟩)
def ie {h h':ę} {a:Ü} {m:Ì->Æ Ê} (x:h.Ns a m) (k:∀o,h.get? a=C o->h'.get? a=C o):h'.Ns a m:=x.at' k
def zF {h h':ę} {a:Ü} {m:Æ Ê} (x:h.IsCell a m) (k:∀o,h.get? a=C o->h'.get? a=C o):h'.IsCell a m:=(by obtain⟨o,e,d⟩:=x;exact⟨o,k o e,d⟩)
def uG (F:Fr n) (b:Ü):Prop:=b=F.env.locals\/(∃x,oM F.ks x/\F.env.cells.lookup x=C b)\/∃f∈F.frs,f.frame=C b
def At.gen (E:At F vs c) (le:c.g.le c'.g) (h:∀b o,uG F b->b∉c.g.ρ->c.g.I b=U->c.s.heap.get? b=C o->c'.s.heap.get? b=C o/\b∉c'.g.ρ/\c'.g.I b=U):At F vs c':=by
 refine E.loc _ λm j hv=>?_
 obtain⟨lo,G⟩:=bJ j
 have N:=λo G=>h F.env.locals o (.inl rfl) E.locA.1 E.locA.2 G
 refine⟨E.len,(.mk m (ie j λo e=>(N o e).1) (λx v k e=>(by obtain⟨u,p,q⟩:=hv x v k e;exact⟨u,p,q.mono le⟩))),(N lo G).2,λx k=>?_,λe acT L V=>?_⟩
 ·refine E.cel x k _ λb Y y z w o À cv=>?_
  obtain⟨l,H⟩:=cS À
  have Q:=λo G=>h b o (.inr (.inl ⟨x,k,Y⟩)) y z G
  exact(.mk b Y (Q l H).2.1 (Q l H).2.2 w o (zF À λo e=>(Q o e).1) (λv e=>(by obtain⟨u,p,q⟩:=cv v e;exact⟨u,p,q.mono le⟩)))
 ·refine E.frm e acT L V _ λo G t n1 n2=>?_
  obtain⟨r,d,i⟩:=h L o (.inr (.inr ⟨e,acT,V⟩)) n1 n2 G
  exact(.mk o r t d i)
def At.step {own:È Ü} (E:At F vs c) (a:bt own c.g c.s c'.g c'.s) (I:F.env.locals∉own) (Q:∀x a,oM F.ks x->F.env.cells.lookup x=C a->a∉own) (À:∀e∈F.frs,∀L,e.frame=C L->L∉own):At F vs c':=
 E.gen a.le λb o V H acT G=>⟨a.keep b o G H (V.elim (λz=>z▸I) λz=>z.elim ((by rintro⟨x,k,q⟩;exact Q x b k q)) (by rintro⟨f,Y,q⟩;exact À f Y b q)),a.new b o G H,a.newI b o G acT⟩
def At.ex (E:At F vs c) {b:Ü} (h:uG F b):∃o,c.s.heap.get? b=C o:=by
 rcases h with rfl|⟨x,k,q⟩|⟨f,I,q⟩
 ·refine E.loc _ λm L J=>?_;exact bJ L
 ·refine E.cel x k _ λb' G J J J o H J=>?_
  rw[q]at G;obtain rfl:=Ä G
  exact cS H
 ·refine E.frm f I b q _ λo Q J J J=>?_;exact⟨o,Q⟩
def At.go (E:At F vs c) (a:bt [] c.g c.s c'.g c'.s):At F vs c':=E.step a Ķ (λJ J J J=>Ķ) λJ J J J=>Ķ
def bt.own {own:È Ü} (a:bt [] g s g' O):bt own g s g' O:=a.m! (by simp)
def dG (F:Fr n) {x:Ì} (h:F.ks.lookup x=C .local):F.env.kindOf x=C .local:=by
 rcases F.kinds x with e|⟨e,_⟩
 ·rw[<-e];exact h
 ·rw[h]at e;contradiction
def qM (F:Fr n) {x:Ì} (h:F.ks.lookup x=C .cell):F.env.kindOf x=C .cell:=by
 rcases F.kinds x with e|⟨e,_⟩
 ·rw[<-e];exact h
 ·rw[h]at e;cases e
def kind_free (F:Fr n) {x:Ì} (h:F.ks.lookup x=C .free):F.env.kindOf x=C .free\/F.env.kindOf x=C .cell:=by
 rcases F.kinds x with e|⟨_,e⟩
 ·rw[<-e];exact .inl h
 ·exact .inr e
def vS (F:Fr n) {x:Ì} (h:F.ks.lookup x=C .globalImplicit):F.env.kindOf x=C .globalImplicit:=by
 rcases F.kinds x with e|⟨e,_⟩
 ·rw[<-e];exact h
 ·rw[h]at e;cases e
def A9 {x:Ì} {v:AV} {I:Ê->Ç->Prop} {Q:Ê->Ç->Prop} (E:At F vs c) (hk:F.ks.lookup x=C .local\/F.ks.lookup x=C .cell\/F.ks.lookup x=C .free)
 (L:(x==("__classdict__" : Ì))=Ï) (hv:bD x F.ns vs=C v) (h:∀u,VR c.g v u->Q u c.s):Î cx.M A (loadName F.env x) Q I c.s:=by
 rcases _:hk with k|k|k
 ·refine E.loc _ λm À V=>?_
  rcases _:V x v k hv with⟨u,e,r⟩
  exact ψ F.fn (dG F k) À e (h u r)
 ·refine E.cel x (.inl k) _ λa H J J J o G cv=>?_
  obtain⟨u,rfl,r⟩:=cv v hv
  exact abR F.fn (qM F k) H G (h u r)
 ·refine E.cel x (.inr k) _ λa H J J J o G cv=>?_
  obtain⟨u,rfl,r⟩:=cv v hv
  rcases kind_free F k with q|q
  ·exact wpAny_loadName_free F.fn q H G (h u r) L
  ·exact abR F.fn q H G (h u r)
section
variable {ns:ZC}
def gf {x:Ì} (h:x∈ns):ns.idxOf x<ns.length:=Ξ h
def eV {x y:Ì} (h:x∈ns) (e:ns.idxOf x=ns.idxOf y):x=y:=by
 have G:=gf h
 have I:ns.idxOf y<ns.length:=by rw[<-e];exact G
 have H:ns[ns.idxOf x]=x:=Mo G
 have a2:ns[ns.idxOf y]=y:=Mo I
 rw[<-H,<-a2];congr 1
def fO {x:Ì} {v:AV} (G:vs.length=ns.length) (h:x∈ns):bD x ns (fG x v vs ns)=C v:=by
 unfold bD fG
 rw[ο (by rw[G];exact gf h)]
def cV {x y:Ì} {v:AV} (h:x∈ns) (G:y≠x):bD y ns (fG x v vs ns)=bD y ns vs:=by
 unfold bD fG
 rw[μ (λe=>G (eV h e).symm)]
def lg {x:Ì} {v:AV}:(fG x v vs ns).length=vs.length:=by simp[fG]
end
def o4 {ks:bc} {env:ϙ} {x:Ì} {c:Ü} (h:env.cells.lookup x=C c) (hk:ks.lookup x=C .cell):c∈LJ ks env:=by
 refine à _ (ĵ.mpr ⟨(x,.cell),mem_of_lookup hk,by simp[hk,h]⟩)
def NE {b:Ü} {P:Prop} (h:b∈F.own) (G:b=F.env.locals->P) (H:∀x,F.ks.lookup x=C .cell->F.env.cells.lookup x=C b->P):P:=by
 rcases _:Ċ.mp h with q|q
 ·exact G q
 ·rcases _:ĵ.mp q with⟨⟨y,k⟩,_,e⟩
  exact aQ e λhk e=>H y hk e
def fb (E:At F vs c) {b:Ü} (h:b∈F.own):∃o,c.s.heap.get? b=C o:=NE h (λq=>by refine E.loc _ λm I J=>?_;exact q▸bJ I) λx hk e=>by
 refine E.cel x (.inl hk) _ λa H J J J o G J=>?_
 rw[H]at e;obtain rfl:=Ä e
 exact cS G
def gH (E:At F vs c):(∃o,c.s.heap.get? F.env.locals=C o)/\∀x a,oM F.ks x->F.env.cells.lookup x=C a->∃o,c.s.heap.get? a=C o:=by
 refine⟨by(refine E.loc _ λm I J=>?_);exact bJ I,λx a k h=>?_⟩
 refine E.cel x k _ λc' H J J J o G J=>?_
 rw[H]at h;obtain rfl:=Ä h
 exact cS G
def bt.write {own:È Ü} {h':ę} {a:Ü} {t:Ó} (I:s.toks<=t) (H:a∈own) (G:ζ a s.heap h') (L:∃o,h'.get? a=C o):bt own g s g { s with heap:=h',toks:=t }:=
 ⟨.refl g,I,λb o e J q=>(G.2 b λz=>q (z▸H)).trans e,λJ J J h=>h,λJ J J h=>h,λb o e=>by
  by_cases z:b=a
  ·rw[z];exact L
  ·exact⟨o,(G.2 b z).trans e⟩,λJ J e=>e,rfl⟩
def Inv.write (i:Inv g Z s) {h':ę} {a:Ü} {t:Ó} (V:s.toks<=t) (Q:a∉g.ρ) (À:g.I a=U) (G:ζ a s.heap h'):Inv g Z { s with heap:=h',toks:=t }:=
 ⟨λb o e=>(G.2 b λz=>by rw[z,À]at e;contradiction).trans (i.sub b o e),i.base,i.len,i.nodup,i.apart,
  λl o b e q=>(i.cells l o b e q).mono (.refl g) λob L=>(G.2 b λz=>Q (z▸Ĉ q)).trans L,Â i.one V,i.bare,i.H⟩
noncomputable abbrev Cf.wr (c:Cf) {h':ę} {t:Ó} (i:Inv c.g c.Z { c.s with heap:=h',toks:=t }):Cf:=⟨c.g,c.Z,{ c.s with heap:=h',toks:=t },i⟩
def Bg {h:ę} {a:Ü} {m:Ì->Æ Ê} {o:ϑ} (x:h.Ns a m) (e:h.get? a=C o):∀vs,o.data≠.fields vs:=by
 obtain⟨o',es,ep,G,d,_⟩:=x
 rw[e]at G
 obtain rfl:=Ä G
 exact λvs q=>by rw[d]at q;cases q
def u8 {ks:bc} (h:bI ks x=Í):ks.lookup x=C .local\/ks.lookup x=C .cell:=by
 unfold bI at h
 simpa only[ϸ,ĕ]using h
def At.z! (e:At F vs c) {Y:Ì->Æ Ê} {h':ę} {t:Ó} (i:Inv c.g c.Z { c.s with heap:=h',toks:=t }) (I:h'.Ns F.env.locals Y) (À:ζ F.env.locals c.s.heap h') (hl:B.length=vs.length)
 (hk:∀y w,F.ks.lookup y=C .local->bD y F.ns B=C w->Holds w (Y y) c.g) (r:∀y,oM F.ks y->bD y F.ns B=bD y F.ns vs):At F B (c.wr i):=by
 refine⟨hl.trans e.len,(.mk _ I hk),e.locA,λy V=>?_,λf m L z=>?_⟩
 ·refine e.cel y V _ λa H N j Q o l cv=>?_
  exact(.mk a H N j Q o (l.sameBut À Q) (λw q=>cv w (r y V▸q)))
 ·refine e.frm f m L z _ λo ho d E acT=>?_
  by_cases q:L=F.env.locals
  ·subst q;obtain⟨o',G⟩:=bJ I;exact(.mk o' G (Bg I G) E acT)
  ·exact(.mk o ((À.2 L q).trans ho) d E acT)
def Le.loc (F:Fr n) (c:Cf) {L:Ì->Æ Ê} {h':ę} {t:Ó} (I:c.s.toks<=t) (G:h'.Ns F.env.locals L) (H:ζ F.env.locals c.s.heap h') (i:Inv c.g c.Z { c.s with heap:=h',toks:=t }):Le F c (c.wr i):=.write I (ã ..) H (bJ G)
def yw (F:Fr n):(F.env.scope.kind==.class||(F.env.scope.kind==.module&&F.env.locals !=F.env.globals))=Ï:=by rw[F.fn];rfl
def Nl {ks:bc} {x y:Ì} (k:ks.lookup x=C .local) (h:oM ks y):y≠x:=λz=>by subst z;rcases h with h|h<;>(rw[k]at h;contradiction)
def gZ {x:Ì} {o:Æ AV} {u:Ê} {V:Ê->Ç->Prop} {Q:ab->Ç->Prop} (e:At F vs c) (k:F.ks.lookup x=C .local) (r:∀v,o=C v->VR c.g v u)
 (h:∀h' t (i:Inv c.g c.Z { c.s with heap:=h',toks:=t }),Le F c (c.wr i)->At F (vs.set (F.ns.idxOf x) o) (c.wr i)->(∃m,h'.Ns F.env.locals m/\m x=C u)->Q () { c.s with heap:=h',toks:=t }):Î cx.M A (adf F.env x u) Q V c.s:=by
 have L:x∈F.ns:=F.mem x (.inl k)
 (refine e.loc _ λm Y hv=>?_)
 refine W3 (dG F k) Y (λh' G H=>h h' (c.s.toks+1) (c.i.write (ö _) e.locA.1 e.locA.2 H) (Le.loc F c (ö _) G H _) ?_ ⟨_,G,by rw[Û rfl]⟩) (yw F)
 have À:∀y,y≠x->bD y F.ns (vs.set (F.ns.idxOf x) o)=bD y F.ns vs:=λy q=>by unfold bD;rw[μ (λz=>q (eV L z).symm)]
 refine e.z! _ G H Y3 (λy w I q=>?_) λy I=>À y (Nl k I)
 by_cases z:y=x
 ·subst z
  refine⟨u,Û rfl,r w ?_⟩
  unfold bD at q
  rw[ο (by rw[e.len];exact gf L)]at q
  cases o with
  | none=>cases q
  | some w'=>exact q
 ·rw[À y z]at q
  obtain⟨acT,p,E⟩:=hv y w I q
  exact⟨acT,(Ý z).trans p,E⟩
def jD {x:Ì} {v:AV} {u:Ê} {E':Ê->Ç->Prop} {Q:ab->Ç->Prop} (E:At F vs c) (hk:bI F.ks x=Í) (r:VR c.g v u)
 (h:∀h' t (i:Inv c.g c.Z { c.s with heap:=h',toks:=t }),Le F c (c.wr i)->At F (fG x v vs F.ns) (c.wr i)->Q () { c.s with heap:=h',toks:=t }):Î cx.M A (adf F.env x u) Q E' c.s:=by
 have hk:=u8 hk
 rcases _:hk with k|k
 ·exact gZ E k (λw q=>Ä q▸r) λh' t i a e J=>h h' t i a e
 have acT:x∈F.ns:=F.mem x (.inr k)
 refine E.loc _ λm hm hv=>?_
 ·refine E.cel x (.inl k) _ λa G N j l o co cv=>?_
  refine wpAny_storeName_cell F.fn (qM F k) G co λh' hn I=>h h' c.s.toks (c.i.write (Ë _) N j I) (.write (Ë _) (o4 G k) I (cS hn)) ?_
  refine⟨by rw[lg];exact E.len,(.mk m (hm.sameBut I l.symm) (λy w À e=>?_)),E.locA,λy À=>?_,λe he L d=>?_⟩
  ·have q:y≠x:=λz=>by cases z;rw[k]at À;contradiction
   rw[cV acT q]at e;exact hv y w À e
  ·by_cases q:y=x
   ·subst q;exact(.mk a G N j l (C u) hn (λw e=>by rw[fO E.len acT]at e;obtain rfl:=Ä e;exact⟨u,rfl,r⟩))
   ·refine E.cel y À _ λc' H d1 d2 d3 o' V Y=>?_
    exact(.mk c' H d1 d2 d3 o' (V.sameBut I (λz=>q (F.apart y x a (z▸H) G))) (λw e=>by rw[cV acT q]at e;exact Y w e))
  ·refine E.frm e he L d _ λo ho hd n1 n2=>?_
   have q:L≠a:=(F.fc e he L d x a G).symm
   exact(.mk o ((I.2 L q).trans ho) hd n1 n2)
end
def jM (l:È ϙ):È Ü:=l.filterMap (·.frame)
def gB (l:È ϙ) (h h':ę):Prop:=∀L∈jM l,∀o,h.get? L=C o->∃z,h'.get? L=C { o with slots:=z }
inductive Tb (h₀:ę) (c:Cf) (P:Æ Ê->Prop) (vs:ÿ Ê) (e:Ü):Prop
 | no (h:vs[1]? = C .none) (p:P U):Tb h₀ c P vs e
 | yes (À:Ü) (oU:ϑ) (us:ÿ Ê) (fl:Ê) (b1:vs[1]? = C (.ref À)) (b2:À≠e) (b3:h₀.get? À=U) (b4:c.s.heap.get? À=C oU) (b5:oU.data = .fields us) (b6:us[3]? = C fl) (b7:P (C fl)) (b8:À∉c.g.ρ) (b9:c.g.I À=U):Tb h₀ c P vs e
def MG (L:Prop) (c:Cf) (m:Ì) (u:Ê) (vs:ÿ Ê) (e:Ü):Prop:=∀(t:Ü) (G H:ϑ) (Q:YP) (k:Ó) (eu:u = .ref e) (he:c.s.heap.get? e=C G) (hc:G.cls = .type "ValueError") (hd:G.data = .fields vs) (h0:vs[0]? = C (.ref t)) (n:e∉c.g.ρ) (i:c.g.I e=U) (ht:c.g.I t=C H) (hot:H={ cls:=.type "tuple",data:=.seq #[.str m Q] k }) (z:m.length<=Ö),L
def TS:=λc m u vs e=>∀G,MG G c m u vs e->G
def TS.mk:MG (TS c m u vs e) c m u vs e:=λt j l q k I A Q À L n i g G z J H=>H t j l q k I A Q À L n i g G z
def MI (G:Prop) (h₀:ę) (c:Cf) (P:Æ Ê->Prop) (m:Ì) (u:Ê):Prop:=∀(e:Ü) (vs:ÿ Ê) (x:TS c m u vs e) (f:h₀.get? e=U) (tb:Tb h₀ c P vs e),G
def wU:=λh₀ c P m u=>∀G,MI G h₀ c P m u->G
def wU.mk:MI (wU h₀ c P m u) h₀ c P m u:=λe vs x f H J G=>G e vs x f H
def fY (F:Fr n) (h h':ę):Prop:=∀L∈jM F.frs,L∉F.own->∀o,h.get? L=C o->∃z,h'.get? L=C { o with slots:=z }
def Wa (F:Fr n) (o:Æ Ê):Prop:=o=U\/o=C .none\/o=C (ŏ F.env.locals)
section
variable {n:Ó} (F:Fr n) (vs:Vs) (c:Cf)
inductive QX (K:VK):Ê->Ç->Prop|mk (c':Cf) (v:AV) (u:Ê) (a:Le F c c') (e:At F vs c') (r:VR c'.g v u) (k:K v c'.Z):QX K u c'.s
inductive QB (K:BK):ì->Ç->Prop|mk (c':Cf) (b:ì) (a:Le F c c') (e:At F vs c') (k:K b c'.Z):QB K b c'.s
inductive QA (N:NK) (u:ab):Ç->Prop|mk (c':Cf) (V:Vs) (a:Le F c c') (e:At F V c') (k:N V c'.Z):QA N u c'.s
inductive QS (N:NK) (R:RK):P_->Ç->Prop
 | n (c':Cf) (V:Vs) (a:Le F c c') (e:At F V c') (k:N V c'.Z):QS N R .next c'.s
 | r (c':Cf) (V:Vs) (v:AV) (u:Ê) (a:Le F c c') (e:At F V c') (q:VR c'.g v u) (k:R v V c'.Z):QS N R (.ret u) c'.s
inductive XX (X:XK):Ê->Ç->Prop
 | mk (c':Cf) (m:Ì) (vs:Vs) (u:Ê) (a:bt (F.own++jM F.frs) c.g c.s c'.g c'.s) (z:fY F c.s.heap c'.s.heap) (e:At F vs c') (x:wU c.s.heap c' (Wa F) m u) (k:X m vs c'.Z):XX X u c'.s
inductive QC (K:VK):Ê->Ç->Prop|mk (c':Cf) (v:AV) (u:Ê) (a:bt [] c.g c.s c'.g c'.s) (r:VR c'.g v u) (k:K v c'.Z):QC K u c'.s
inductive XC (l:È ϙ) (X:Ì->aa->Prop):Ê->Ç->Prop
 | mk (c':Cf) (m:Ì) (u:Ê) (a:bt (jM l) c.g c.s c'.g c'.s) (z:gB l c.s.heap c'.s.heap) (x:wU c.s.heap c' (· = C .none) m u) (k:X m c'.Z):XC l X u c'.s
end
def oL (acT:ì) (F:Fr n):Prop:=F.env.frame=C F.env.locals/\∃l,F.frs=F.env::l/\(acT=Í->l=[])
def gA (n:Ó) (f:bc->È Ì->ñ->Vs->aa->VK->XK->Prop):Prop:=
 ∀{F:Fr n} {O vs K X} (c:Cf),f F.ks F.ns O vs c.Z K X->At F vs c->Î cx.M F.A (Ũ O F.env) (QX F vs c K) (XX F c X) c.s
def Rf (n:Ó) (f:bc->È Ì->ñ->Vs->aa->BK->XK->Prop):Prop:=
 ∀{F:Fr n} {O vs K X} (c:Cf),f F.ks F.ns O vs c.Z K X->At F vs c->Î cx.M F.A (YC O F.env (Ũ O F.env)) (QB F vs c K) (XX F c X) c.s
def B1 (n:Ó) (f:bc->È Ì->ñ->AV->Vs->aa->NK->XK->Prop):Prop:=
 ∀{F:Fr n} {t v u vs N X} (c:Cf),f F.ks F.ns t v vs c.Z N X->At F vs c->VR c.g v u->Î cx.M F.A (Xk t F.env u) (QA F c N) (XX F c X) c.s
def Q7 (acT:ì) (n:Ó) (f:bc->È Ì->ϳ->Vs->aa->NK->RK->XK->Prop):Prop:=
 ∀{F:Fr n} {st vs N R X} (c:Cf),f F.ks F.ns st vs c.Z N R X->At F vs c->oL acT F->Î cx.M F.A (ZQ st F.env) (QS F c N R) (XX F c X) c.s
def Vn (n:Ó) (f:bc->È Ì->ñ->Vs->aa->VK->XK->Prop):Prop:=
 ∀{F:Fr n} {O vs K X} (c:Cf),tL O=Í->f F.ks F.ns O vs c.Z K X->At F vs c->∀{use:Ê->Ϛ ab} {N:NK},
  (∀c₁ v u,Le F c c₁->At F vs c₁->VR c₁.g v u->K v c₁.Z->Î cx.M F.A (use u) (QA F c₁ N) (XX F c X) c₁.s)->
  Î cx.M F.A (aby O F.env use) (QA F c N) (XX F c X) c.s
structure fj (acT:ì) (n:Ó) (r:Ev):Prop where
 e:gA n r.e
 c:Vn n r.e
 t:Rf n r.t
 a:B1 n r.a
 s:Q7 acT n r.s
section
variable {n:Ó} {acT:ì} {r:Ev} {F:Fr n} {vs V:Vs} {c c' c₀:Cf} {Z Z':aa} {v:AV} {u:Ê} {O:ñ} {K:VK} {B:BK} {N:NK} {R:RK} {X:XK} {E:Ê->Ç->Prop} {Y:Ç}
def Tb.up {h₀ h₁:ę} {P Q:Æ Ê->Prop} {vs:ÿ Ê} {e:Ü} (a:∀b,h₁.get? b=U->h₀.get? b=U) (h:∀o,P o->Q o) (x:Tb h₁ c P vs e):Tb h₀ c Q vs e:=by
 obtain⟨z,p⟩|⟨À,w,us,y,G,H,I,L,A,g,j,l,q⟩:=x
 ·exact .no z (h _ p)
 ·exact .yes À w us y G H (a _ I) L A g (h _ j) l q
def wU.up {h₀ h₁:ę} {P:Æ Ê->Prop} {m:Ì} (a:∀b,h₁.get? b=U->h₀.get? b=U) (x:wU h₁ c P m u):wU h₀ c P m u:=by
 refine x _ λe vs x f G=>?_
 exact(.mk e vs x (a _ f) (G.up a λJ h=>h))
def bt.none_ {own:È Ü} {g H:G} {s Y:Ç} (a:bt own g s H Y) {b:Ü} (h:Y.heap.get? b=U):s.heap.get? b=U:=by
 cases q:s.heap.get? b with
 | none=>rfl
 | some o=>obtain⟨o',h'⟩:=a.stay _ _ q;rw[h]at h';cases h'
def At.out (e:At F vs c) {L:Ü} (G:L∈jM F.frs):L∉c.g.ρ:=let ⟨f,hf,q⟩:=ĵ.mp G;(by refine e.frm f hf L q _ λJ J J n J=>?_;exact n)
def fY.up (a:Le F c₀ c) (e:At F vs c') (le:c.g.le c'.g) (z:fY F c.s.heap c'.s.heap):fY F c₀.s.heap c'.s.heap:=λL G H o I=>z L G H o (a.keep L o I (λq=>e.out G (by
 obtain⟨r,Q⟩:=(a.le.trans le).ρ
 rw[Q];exact ç _ q)) H)
def fY.refl (F:Fr n) (h:ę):fY F h h:=λJ J J o G=>⟨o.slots,G⟩
def XX.up (a:Le F c₀ c) (x:XX F c X u Y):XX F c₀ X u Y:=(by rcases x with⟨c',m,vs,u,b,z,e,x,k⟩;exact .mk c' m vs u ((a.m! λJ h=>ç _ h).trans b) (z.up a e b.le) e (x.up λJ h=>a.none_ h) k)
def bq (H:gA n r.e) (a:Le F c₀ c) (e:At F vs c) (h:r.e F.ks F.ns O vs c.Z K X) {P:Ê->Ç->Prop} (k:∀c' v u,c.g.le c'.g->Le F c₀ c'->At F vs c'->VR c'.g v u->K v c'.Z->P u c'.s):Î cx.M F.A (Ũ O F.env) P (XX F c₀ X) c.s:=
 Ô (H c h e) (λJ J x=>match x with | .mk c' v u b e r q=>k c' v u b.le (a.trans b) e r q) λJ J x=>x.up a
def wI (H:Rf n r.t) (a:Le F c₀ c) (e:At F vs c) (h:r.t F.ks F.ns O vs c.Z B X) {P:ì->Ç->Prop} (k:∀c' b,c.g.le c'.g->Le F c₀ c'->At F vs c'->B b c'.Z->P b c'.s):Î cx.M F.A (YC O F.env (Ũ O F.env)) P (XX F c₀ X) c.s:=
 Ô (H c h e) (λJ J x=>match x with | .mk c' v b e q=>k c' v b.le (a.trans b) e q) λJ J x=>x.up a
def FH (H:B1 n r.a) (a:Le F c₀ c) (e:At F vs c) (q:VR c.g v u) (h:r.a F.ks F.ns O v vs c.Z N X) {P:ab->Ç->Prop} (k:∀c' V,c.g.le c'.g->Le F c₀ c'->At F V c'->N V c'.Z->P () c'.s):Î cx.M F.A (Xk O F.env u) P (XX F c₀ X) c.s:=
 Ô (H c h e q) (λJ J x=>(by rcases x with⟨c',V,b,e,q⟩;exact k c' V b.le (a.trans b) e q)) λJ J x=>x.up a
def Vx (H:gA n r.e) (a:Le F c₀ c) (e:At F vs c) (h:r.e F.ks F.ns O vs c.Z K X):Î cx.M F.A (Ũ O F.env) (QX F vs c₀ K) (XX F c₀ X) c.s:=bq H a e h λc' v u J a e r k=>.mk c' v u a e r k
def A1 (a:Le F c₀ c) (e:At F vs c) {t:Ϛ Ê} (h:Î cx.M F.A t (PE c.g c.s Z' v) bj c.s) {P:Ê->Ç->Prop}
 (k:∀g s u (i:Inv g Z' s),c.g.le g->Le F c₀ ⟨g,Z',s,i⟩->At F vs ⟨g,Z',s,i⟩->VR g v u->P u s):Î cx.M F.A t P E c.s:=
 Ô (PE.x h) ((by rintro u s G;refine G _ λg b i r=>?_;exact k g s u i b.le (a.trans b.own) (e.go (c':=⟨g,Z',s,i⟩) b) r)) λJ J x=>x.elim
def leaf (a:Le F c₀ c) (e:At F vs c) {t:Ϛ Ê} (h:Î cx.M F.A t (PE c.g c.s Z' v) bj c.s) (k:K v Z'):Î cx.M F.A t (QX F vs c₀ K) E c.s:=
 A1 a e h λg s u i J a e r=>.mk ⟨g,Z',s,i⟩ v u a e r k
noncomputable abbrev Cf.tk (c:Cf) (t:Ó) (h:c.s.toks<=t):Cf:=⟨c.g,c.Z,{ c.s with toks:=t },c.i.toks h⟩
def Te (a:Le F c₀ c) (e:At F vs c) {b:ì} (h:bZ c.Z v=C b) (q:VR c.g v u) {P:ì->Ç->Prop} (k:∀t (h:c.s.toks<=t),Le F c₀ (c.tk t h)->At F vs (c.tk t h)->P b (c.tk t h).s):Î cx.M F.A (X2 u) P E c.s:=
 Ô (cy (oA (Q:=λH Y=>c.s.toks<=Y.toks->H=b/\∃t h,Y=(c.tk t h).s) c.i h q λt G=>⟨rfl,t,G,rfl⟩)) ((by rintro _ _ ⟨I,t,G,L⟩;exact by subst I L;exact k t G (a.trans (.s! G)) (e.go (.s! G)))) λJ J x=>x.elim
set_option tactic.hygienic true in def JT {G:abo} {k:Ó} {p:ϗ} (e:At F vs c) (h:ok (xv G) (K · c.Z)):Î cx.M F.A (Ũ (.Constant G k p) F.env) (QX F vs c K) (XX F c X) c.s:=by
 refine cw h λv h kk=>leaf (.refl _ _ _) e ?_ kk
 have i:=c.i
 rcases G<;>dsimp only[xv]at h
 case none=>obtain rfl:=Ä h;exact wpAny_Constant_none (.now i .none_)
 case bool=>obtain rfl:=Ä h;exact wpAny_Constant_bool (.now i .l')
 case int=>obtain rfl:=Ä h;exact acm (.tok i (.l! _) _)
 case str x=>exact aQ h λz h=>by obtain rfl:=Ä h;exact e6 (.tok i (.g! _ z) _)
 all_goals exact aD h
def Inv.A! {g:G} {s:Ç} (i:Inv g Z s) {a:Ü} {m:Ì->Æ Ê} (h:cx.h₀.Ns a m):s.heap.Ns a m:=ie h λo e=>i.sub _ _ (i.base _ _ e)
def HP {o:Æ NameKind} (h:Nv o=Í):o=C .local\/o=C .cell\/o=C .free:=by
 rcases o with _|o
 ·exact absurd h ß
 ·induction o with
  | «local»=>exact .inl rfl
  | cell=>exact .inr (.inl rfl)
  | free=>exact .inr (.inr rfl)
  | _=>exact absurd h ß
def jf {A:Ā} {x:Ì} {p:ϗ} {P:Ê->Ç->Prop} (hk:F.ks.lookup x=C .globalImplicit) (Q:(x==("__debug__" : Ì))=Ï) {w:Ê} (g:cx.mg x=C w\/(cx.mg x=U/\cx.mb x=C w)) (k:P w c.s):Î cx.M A (Ũ (.Name x p) F.env) P E c.s:=by
 refine Calls.Name_function_global F.fn (vS F hk) ?_ Q
 have H:=c.i.H.gl
 have I:c.s.heap.Ns F.env.globals cx.mg:=by rw[F.gl];exact c.i.A! H.gns
 have À:c.s.heap.Ns F.env.builtins cx.mb:=by rw[F.bl];exact c.i.A! H.bns
 rcases _:g with G|⟨L,G⟩
 ·exact Calls.loadGlobal_global I G k
 ·exact Calls.loadGlobal_builtin I L À G k
def OC {x:Ì} {p:ϗ} (e:At F vs c) (h:ok (NA T F.ks F.ns x vs) (K · c.Z)):Î cx.M F.A (Ũ (.Name x p) F.env) (QX F vs c K) (XX F c X) c.s:=by
 refine cw h λv h kk=>GV h λG h=>VD h (λI h=>?_) λJ h=>aQ h λI h=>?_<;>simp only[ϸ,Zk,e_]at G
 ·exact WQ (A9 e (HP I) G.2 h λu r=>.mk c v u (.refl _ _ _) e r kk) G.1
 ·obtain⟨u,Q,L⟩:=c.i.H.gl.names x v h
  exact jf (ĕ.mp I) G.1 Q (.mk c v u (.refl _ _ _) e (L _ c.i.base) kk)
def JS (H:gA n r.e) {l I:ñ} {G:WD} {p:ϗ} (e:At F vs c) (h:r.e F.ks F.ns l vs c.Z (λx Z=>r.e F.ks F.ns I vs Z (λy Z=>ok (jP Z G x y) (K · Z)) X) X) :
 Î cx.M F.A (Ũ (.BinOp l G I p) F.env) (QX F vs c K) (XX F c X) c.s:=
 wpAny_BinOp (bq H (.refl _ _ _) e h λc₁ x u1 l₁ L e₁ À h=>bq H L e₁ h λQ y u2 l₂ a2 e₂ g h=>cw h λv h k=>leaf a2 e₂ (JA Q.i h (À.mono l₂) g) k)
def zG (H:gA n r.e) {l:ñ} {ops:È XR} {L:È ñ} (e:At F vs c) (h:JH r F.ks F.ns l ops L vs c.Z B X) {P:Ê->Ç->Prop} (k:∀c' b,Le F c c'->At F vs c'->B b c'.Z->P (.bool b) c'.s) {Q:Prop}
 (q:∀G I,behindInMarks G I=Ï->ops=[G]->L=[I]->Î cx.M F.A (Ũ l F.env) (λa s₁=>Î cx.M F.A (Ũ I F.env) (λb s₂=>Î cx.M F.A (WE G a b) P (XX F c X) s₂) (XX F c X) s₁) (XX F c X) c.s->Q):Q:=
 cw h λG w h=>cw h λI d h=>(by obtain⟨z,h⟩:=bV h;exact q G I (nu z) (cP w) (cP d) (bq H (.refl _ _ _) e h λc₁ x u1 l₁ À e₁ m h=>bq H À e₁ h λj y u2 l₂ a2 e₂ t h=>cw h λb h kk=>
  A1 a2 e₂ (JG F.hA j.i h (m.mono l₂) t) λg s u i J a e r=>by rw[show u = .bool b from r];exact k ⟨g,_,s,i⟩ b a e kk))
def Cu (H:gA n r.e) {l:ñ} {ops:È XR} {G:È ñ} {p:ϗ} (e:At F vs c) (h:JH r F.ks F.ns l ops G vs c.Z (λb Z=>K (.bool b) Z) X):Î cx.M F.A (Ũ (.Compare l ops G p) F.env) (QX F vs c K) (XX F c X) c.s:=
 zG H e h (P:=QX F vs c K) (λc' b a e k=>QX.mk c' (.bool b) (.bool b) a e .l' k) λop rr Q I L h=>by rw[I,L];exact wpAny_Compare1 h Q
def JU (H:fj acT n r) {t a b:ñ} {p:ϗ} (e:At F vs c) (h:r.t F.ks F.ns t vs c.Z (λG Z=>oK G (r.e F.ks F.ns a vs Z K X) (r.e F.ks F.ns b vs Z K X)) X):Î cx.M F.A (Ũ (.IfExp t a b p) F.env) (QX F vs c K) (XX F c X) c.s:=
 wpAny_IfExp (wI H.t (.refl _ _ _) e h λc₁ G J I e₁ h=>match G,h with
  | true,h=>Vx H.e I e₁ h
  | false,h=>Vx H.e I e₁ h)
def RN (H:gA n r.e) {a:ñ} {G:UnaryOp} {p:ϗ} (e:At F vs c) (h:cX (G==.USub) (r.e F.ks F.ns a vs c.Z (λx Z=>ok (intV x) λi=>K (.int (-i)) Z) X)):Î cx.M F.A (Ũ (.UnaryOp G a p) F.env) (QX F vs c K) (XX F c X) c.s:=by
 obtain⟨L,h⟩:=bV h
 rw[eq_of_beq L]
 exact wpAny_UnaryOp (bq H (.refl _ _ _) e h λc₁ x u1 l₁ I e₁ Q h=>cw h λj h k=>by obtain⟨t,rfl⟩:=Q.intV h;exact leaf I e₁ (adt (.tok c₁.i (.l! _) _)) k)
def Ta (H:Rf n r.t) {G:BoolOp}:∀{es:È ñ} {c:Cf},Le F c₀ c->At F vs c->Ji r F.ks F.ns G es vs c.Z B X->Î cx.M F.A (allTrue G es F.env) (QB F vs c₀ B) (XX F c₀ X) c.s:=by
 intro Q;induction Q with
 | nil=>
  intro c a e h
  have h0:((by rcases G with⟨⟩|⟨⟩;exact Í;exact Ï))=decide (G = .And):=by rcases G<;>rfl
  exact Å (.mk c _ a e (by first|exact h|(rcases G<;>exact h)))
 | cons x es L=>
  exact @λc a e h=>Á (wI H a e h λc₁ b J I e₁ h=>by
   rcases G<;>rcases b
   ·exact Å (.mk c₁ _ I e₁ h)
   ·exact L I e₁ h
   ·exact L I e₁ h
   ·exact Å (.mk c₁ _ I e₁ h))
def OK (H:fj acT n r):Rf n (VA r):=by
 intro F O vs B X c h e
 have dflt:r.e F.ks F.ns O vs c.Z (λx Z=>ok (bZ Z x) (B · Z)) X->YC O F.env (Ũ O F.env)=(do let v <-Ũ O F.env;ϧ O.pos;pw [v] (X2 v))->Î cx.M F.A (YC O F.env (Ũ O F.env)) (QB F vs c B) (XX F c X) c.s:=λh g=>
  acn (bq H.e (.refl _ _ _) e h λc₁ x u1 J G e₁ y h=>cw h λb h k=>Te G e₁ h y λt q a e=>.mk (c₁.tk t q) b a e k) g
 induction O using Ŋ with
 | UnaryOp I x p=>obtain⟨L,h⟩:=bV h;rw[eq_of_beq L];exact Á (wI H.t (.refl _ _ _) e h λc₁ b J G e₁ h=>Å (.mk c₁ _ G e₁ h))
 | BoolOp I es p=>exact Ta H.t (.refl _ _ _) e h
 | IfExp t a c p=>exact h.elim
 | Compare l ops rs p=>exact zG H.e e h (λc' b a e k=>Yp (QB.mk c' b a e k)) λI rr j Q À h=>by rw[Q,À];exact wpAny_isTrue_Compare1 (Ô h (λJ J x=>Ô x (λJ J x=>Ô x (λJ J x=>x) λJ J x=>x) λJ J x=>x) λJ J x=>x) j
 | _=>exact dflt h rfl
end
inductive QL {n:Ó} (F:Fr n) (vs:Vs) (c:Cf) (K:È AV->aa->Prop):È Ê->Ç->Prop|mk (c':Cf) (xs:ZB) (us:ZA) (a:Le F c c') (e:At F vs c') (r:aG c'.g xs us) (k:K xs c'.Z):QL F vs c K us c'.s
def bM {env:ϙ} {e:ñ} {es:È ñ} (h:wt e=U):ŧ (e::es) env=(Ï,Ũ e env)::ŧ es env:=by
 rcases e<;>first|rfl|exact aD h.symm
section
variable {n:Ó} {r:Ev} {F:Fr n} {vs O:Vs} {c c₀:Cf} {Z Z':aa} {v:AV} {u:Ê} {À:ñ} {K:VK} {B:BK} {N:NK} {R:RK} {X:XK} {E:Ê->Ç->Prop} {I:Ç} {L:È AV->aa->Prop}
def xh {xs:ZB} (h:ux v=C xs) (q:VR c.g v u) {P:È Ê->Ç->Prop} (a:Le F c₀ c) (e:At F vs c) (k:∀h' us (i:Inv c.g c.Z { c.s with heap:=h' }),Le F c₀ (c.wr i)->At F vs (c.wr i)->aG c.g xs us->P us { c.s with heap:=h' }):StarOf cx.M F.A E u P c.s:=by
 rw[kQ h]at q
 (refine q _ ?_;rintro p o us rfl V ⟨m,rfl⟩ q z)
 have H:=c.i.sub _ _ V
 have Q:c.s.TypeIs (.ref p) "tuple":=⟨_,H,rfl⟩
 unfold StarOf notIterableAtAll
 refine Á (c_ Q PySem.F.slot_tuple_iter.lookup (Å ⟨rfl,?_⟩))
 refine wpAny_collect_seq p (.inr rfl) H rfl rfl (λh' G=>?_) (by rw[Đ,<-q.length];exact z)
 exact k h' us (c.i.keep (t:=c.s.toks) (Ë _) G) (a.trans (.keeps (t:=c.s.toks) (Ë _) G)) (e.go (.keeps (t:=c.s.toks) (Ë _) G)) q
def Gb (H:gA n r.e) {p:ϗ}:∀{es:È ñ} {c:Cf} {L:È AV->aa->Prop},At F vs c->gc r F.ks F.ns es vs c.Z L X->Î cx.M F.A (aaJ (Ab p (ŧ es F.env))) (QL F vs c L) (XX F c X) c.s:=by
 intro j;induction j with
 | nil=>
  exact @λc L e h=>Å (.mk c [] [] (.refl _ _ _) e .nil h)
 | cons x es Y=>
  exact @λc L e h=>jw h (λd Q h=>by
   obtain⟨q,rfl⟩:=wu Q
   refine ks_spliced (bq H (.refl _ _ _) e h λc₁ w acT l₁ G e₁ V h=>cw h λxs g h=>xh g V G e₁ λh' us i a2 e₂ q=>?_)
   exact Ô (Y (c:=c₁.wr i) e₂ h) (λJ J x=>match x with | .mk c3 ys ws b e r k=>.mk c3 (xs++ys) (us++ws) (a2.trans b) e ((q.mono b.le).append r) k) λJ J x=>x.up a2) λQ h=>by
   rw[bM Q]
   refine Á (bq H (.refl _ _ _) e h λc₁ w acT l₁ G e₁ V h=>Á (Å (Á (ä ?_))))
   exact Ô (Y e₁ h) (λJ J x=>match x with | .mk c3 ys ws b e r k=>Å (.mk c3 (w::ys) (acT::ws) (G.trans b) e (.cons (V.mono b.le) r) k)) λJ J x=>x.up G
def xC (H:gA n r.e) {p:ϗ} {es:È ñ} (a:Le F c₀ c) (e:At F vs c) (h:gc r F.ks F.ns es vs c.Z L X) {P:È Ê->Ç->Prop} (k:∀c' xs us,c.g.le c'.g->Le F c₀ c'->At F vs c'->aG c'.g xs us->L xs c'.Z->P us c'.s):Î cx.M F.A (aaJ (Ab p (ŧ es F.env))) P (XX F c₀ X) c.s:=
 Ô (Gb H e h) (λJ J x=>match x with | .mk c' v u b e r q=>k c' v u b.le (a.trans b) e r q) λJ J x=>x.up a
def Er {g:G} {s:Ç} {mu:ì} {xs:ZB} {us:ZA} {k t:Ó} (i:Inv g Z s) (q:aG g xs us) (z:xs.length<=Ö) :
 PE g s (cg mu xs Z).2 (cg mu xs Z).1 (.ref s.heap.objs.size) { s with heap:=s.heap.push { cls:=.type "list",data:=.seq us.toArray k },toks:=t }:=by
 induction mu with
 | true=>exact PE.cell (o:=.list xs) i (af s) (.mk us ⟨k,ê _ rfl⟩ (q.mono (G.j' _ _)) z) (λb o e=>Ñ _ e) t
 | false=>exact .list i q z rfl
def A4 (a:Le F c₀ c) (e:At F vs c) {I:Ç} (h:PE c.g c.s Z' v u I) (G:c.s.toks<=I.toks) (k:K v Z'):QX F vs c₀ K u I:=(by refine h G _ λg b i r=>?_;exact .mk ⟨g,Z',I,i⟩ v u (a.trans b.own) (e.go (c':=⟨g,Z',I,i⟩) b) r k)
def OB (H:gA n r.e) {es:È ñ} {p:ϗ} (e:At F vs c) (h:gc r F.ks F.ns es vs c.Z (λxs Z=>cX (xs.length.ble Ö) (K (cg (T.mu p) xs Z).1 (cg (T.mu p) xs Z).2)) X):Î cx.M F.A (Ũ (.List es p) F.env) (QX F vs c K) (XX F c X) c.s:=
 wpAny_List (xC H (.refl _ _ _) e h λc₁ xs us l₁ Q e₁ G h=>(by obtain⟨z,h⟩:=bV h;exact have z:=WA z;⟨G.length▸z,A4 Q e₁ (Er (k:=0) (t:=c₁.s.toks) c₁.i G z) (Ë _) h⟩))
def JW (H:gA n r.e) {es:È ñ} {k:Ó} {p:ϗ} (e:At F vs c) (h:gc r F.ks F.ns es vs c.Z (λxs Z=>cX (xs.length.ble Ö) (K (.tup xs) Z)) X):Î cx.M F.A (Ũ (.Tuple es k p) F.env) (QX F vs c K) (XX F c X) c.s:=
 wpAny_Tuple (xC H (.refl _ _ _) e h λc₁ xs us l₁ Q e₁ G h=>(by obtain⟨z,h⟩:=bV h;exact have z:=WA z;⟨G.length▸z,A4 Q e₁ (PE.tuple (n:=0) (t:=c₁.s.toks) c₁.i G z rfl) (Ë _) h⟩))
def RP (H:gA n r.e) {o j:ñ} {p:ϗ} (e:At F vs c) (h:r.e F.ks F.ns o vs c.Z (λx Z=>r.e F.ks F.ns j vs Z (λy Z=>ok (fw Z x y) (K · Z)) X) X):Î cx.M F.A (Ũ (.Subscript o j p) F.env) (QX F vs c K) (XX F c X) c.s:=
 Á (bq H (.refl _ _ _) e h λc₁ x u1 l₁ G e₁ acT h=>Á (ä (bq H G e₁ h λQ y u2 l₂ a2 e₂ g h=>Á (ī (cw h λv h k=>(by refine J7 (A:=F.A) Q.i h (acT.mono l₂) g _ λJ J V Y h=>?_;exact wC V Y (leaf a2 e₂ h k)))))))
def uc (H:gA n r.e) {o:Æ ñ} (a:Le F c₀ c) (e:At F vs c) (h:Bn r F.ks F.ns vs o c.Z K X) {P:Ê->Ç->Prop}
 (k:∀c' v u,c.g.le c'.g->Le F c₀ c'->At F vs c'->VR c'.g v u->K v c'.Z->P u c'.s):Î cx.M F.A (valueOrNone (evalOpt o F.env)) P (XX F c₀ X) c.s:=match o,h with
 | none,h=>Å (k c .none .none (.refl _) a e .none_ h)
 | some _,h=>bq H a e h k
def JV (H:gA n r.e) {o:ñ} {lo d st:Æ ñ} {p q:ϗ} (e:At F vs c) (h:Il r F.ks F.ns o lo d st vs c.Z K X):Î cx.M F.A (Ũ (.Subscript o (.Slice lo d st q) p) F.env) (QX F vs c K) (XX F c X) c.s:=by
 refine Á (bq H (.refl _ _ _) e h λc₁ x u1 l₁ a1 e₁ r1 h=>Á (ä ?_))
 refine Á (uc H a1 e₁ h λc2 y u2 l₂ a2 e₂ r2 h=>Á (ä (uc H a2 e₂ h λc3 z u3 l₃ a3 e3 r3 h=>Á (ä (uc H a3 e3 h λQ w u4 l4 a4 e4 r4 h=>cw h λv h k=>?_)))))
 refine į ?_
 generalize m:({ cls:=.type "slice",data:=.fields #[u2,u3,u4] }:ϑ)=ob
 have V:=af Q.s
 have kp:∀b acT,Q.s.heap.get? b=C acT->(Q.s.heap.push ob).get? b=C acT:=λb acT e=>Ñ _ e
 have le:=G.a! (o:=ob) (Q.i.fresh V).1
 have i5:Inv (Q.g.freeze Q.s.heap.objs.size ob) Q.Z { Q.s with heap:=Q.s.heap.push ob }:=Q.i.freeze (t:=Q.s.toks) (Ë _) V (ê _ (by rw[<-m];rfl)) kp
 have j:bt [] Q.g Q.s (Q.g.freeze Q.s.heap.objs.size ob) { Q.s with heap:=Q.s.heap.push ob }:=.freeze (t:=Q.s.toks) Q.i (Ë _) V kp
 refine Á (ī ?_)
 have l3:=l4.trans le
 have l2:=l₃.trans l3
 exact(by refine Ř λY=>?_;refine EL (A:=F.A) i5 h (r1.mono (l₂.trans l2)) (r2.mono l2) (r3.mono l3) (r4.mono le) (by rw[m];exact G.é _ _ _) _ λJ J hT hl h=>?_;exact Y (wC hT hl (leaf (c:=⟨_,_,_,i5⟩) (a4.trans j.own) (e4.go j) h k)))
def OD (H:gA n r.e) {o j:ñ} {p:ϗ} (e:At F vs c) (h:S8 r F.ks F.ns o j vs c.Z K X):Î cx.M F.A (Ũ (.Subscript o j p) F.env) (QX F vs c K) (XX F c X) c.s:=
 jw h (λq G h=>(qX G).elim λJ h'=>h'▸JV H e h) λJ h=>RP H e h
def kO (x:Ì):Ĕ++x=x:=by cases x;show(⟨#[]++_⟩:Ì)=_;simp
def Oq {a y b:Ì} {P:Prop} (h:oQ a y=C b) (k:b=a++y->(a++y).length<=Ö->P):P:=aQ h λz h=>k (Ä h).symm (by rw[â];exact z)
def zJ (H:gA n r.e) {Q:Ì->Ç->Prop} {S:Ì->aa->Prop} (q:∀c' x,Le F c₀ c'->At F vs c'->x.length<=Ö->S x c'.Z->Q x c'.s):∀{es:È ñ} {acc:Ì} {c:Cf},Le F c₀ c->At F vs c->acc.length<=Ö->jm r F.ks F.ns es vs acc c.Z S X->Joins cx.M F.A (XX F c₀ X) (evalEach es F.env) acc Q c.s:=by
 intro zz;induction zz with
 | nil=>
  exact @λacc c a e z h=>q c acc a e z h
 | cons x es g=>
  intro acc c a e _ h
  have tk:∀{c:Cf} (t:Ó) (acT:c.s.toks<=t),Le F c₀ c->At F vs c->Le F c₀ (c.tk t acT)/\At F vs (c.tk t acT):=λt acT a e=>⟨a.trans (.s! acT),e.go (.s! acT)⟩
  induction x using Ŋ with
  | Constant cc kk p=>
   refine cw h λy G h=>cw h λb m h=>Oq m λi z=>?_
   obtain rfl:=um G
   subst i
   obtain⟨V,Y⟩:=tk _ (ö _) a e
   exact e6 ⟨y,_,rfl,z,g V Y z h⟩
  | FormattedValue y cv sp p=>
   obtain⟨hc,h⟩:=bV h
   obtain⟨x0,x1⟩:=è.mp hc
   obtain rfl:=eq_of_beq x0
   obtain rfl:=Ģ.mp x1
   refine wpAny_FormattedValue_plain (bq H a e h λc₁ w u1 l₁ d e₁ r1 h=>cw h λy G h=>cw h λb m h=>Oq m λi z=>?_)
   subst i
   induction w using AV.casesOn with
   | str q'=>
    obtain rfl:=Ä G
    (refine r1.c! _ ?_;rintro t rfl zz)
    obtain⟨V,Y⟩:=tk _ (ö _) d e₁
    exact wpAny_formatField_str ⟨_,_,rfl,z,g d e₁ z h⟩ ⟨_,_,rfl,z,g V Y z h⟩ zz
   | int j=>
    refine aQ G λhi G=>?_
    obtain rfl:=Ä G
    obtain⟨t,rfl⟩:=r1.f'
    obtain⟨V,Y⟩:=tk _ (ë _ 2) d e₁
    refine wpAny_formatField_int ?_ ⟨_,_,rfl,z,g V Y z h⟩
    by_cases G:j.natAbs=0
    ·rw[G];decide
    ·exact(Nat.log2_lt G).mpr (ô hi (Â (by decide:10 ^ 10<=2 ^ 40) (Nat.pow_le_pow_right Zz Zz)))
   | _=>exact aD G
  | _=>exact h.elim
def F1 (H:gA n r.e) {es:È ñ} {p:ϗ} (e:At F vs c) (h:jm r F.ks F.ns es vs Ĕ c.Z (λx Z=>K (.str x) Z) X):Î cx.M F.A (Ũ (.JoinedStr es p) F.env) (QX F vs c K) (XX F c X) c.s:=by
 have two:Î cx.M F.A (joinParts Ĕ (evalEach es F.env)) (QX F vs c K) (XX F c X) c.s:=
  wpAny_joinPartsRec _ _ _ _ (zJ H (λc' x a e z k=>⟨z,QX.mk (c'.tk (c'.s.toks+1) (ö _)) (.str x) _ (a.trans (.s! (ö _))) (e.go (.s! (ö _))) (.g! _ z) k⟩) (.refl _ _ _) e (ï _) h)
 rcases es with _|⟨y,_|⟨Y,es'⟩⟩
 ·exact two
 rotate_left
 ·exact two
 ·have h:=zJ (Q:=λo s₁=>o.length<=Ö/\∃c₁:Cf,s₁=c₁.s/\Le F c c₁/\At F vs c₁/\K (.str o) c₁.Z) H (λc' x a e z k=>⟨z,c',rfl,a,e,k⟩) (.refl _ _ _) e (ï _) h
  refine Ô (show Î cx.M F.A (Ũ y F.env) (λv s₁=>∃y t,v = .str y t/\(Ĕ++y).length<=Ö/\Joins cx.M F.A (XX F c X) [] (Ĕ++y) _ s₁) (XX F c X) c.s from h) ?_ λJ J x=>x
  rintro _ _ ⟨Y,t,rfl,_,z,c₁,rfl,G,V,k⟩
  rw[kO]at z k
  exact .mk c₁ _ _ G V (.g! _ z) k
end
def cG:Slot "method_descriptor" "__get__" "method_descriptor.__get__":=
 .of (owner:="method_descriptor") (n:="__get__") (by kernel_rfl) (by rfl) (by rfl) (by rfl)
  (by first|exact .inl (by rfl)|exact .inr (by decide +kernel)) (by kernel_rfl)
def jg:bT XW "method_descriptor.__get__" = C ř.«method_descriptor.__get__»:=Ϲ (by kernel_rfl)
def kY (a b c:Ê):Xj "method_descriptor.__get__" ⟨[a,b,c],[]⟩:=by unfold Xj;kernel_rfl
def qQ:ύ (.type "method_descriptor") "__set__" = pure U:=by rw[c0,η];kernel_rfl
def qP:ύ (.type "method_descriptor") "__delete__" = pure U:=by rw[c0,η];kernel_rfl
def sub_list_list:ξ (.type "list") (.type "list")=pure Í:=by rw[Β];kernel_rfl
def si:bT XW "set.__getattribute__" = C ř.«object.__getattribute__»:=Xl (id':="object.__getattribute__") (by kernel_rfl) (by rfl) (by decide +kernel) (by kernel_rfl)
section
variable {prog:Xx} {w:WW} {A:Ā} {E:Ê->Ç->Prop} {h:ę} {g:ÿ Ν} {d:Drawn} {t:Ó} {B:OsState} {p:Ü} {items:ÿ Ê} {k:Ó}
def Pd {P:Ē->Ç->Prop} (G:h.get? p=C { cls:=.type "list",data:=.seq items k })
 (H:P (.done (.ret (.ref h.objs.size))) ⟨h.push (d8 (.builtin "list.append") (.ref p)),g,d,t,B⟩) :
 Î (Ϧ prog w) A (ř.«method_descriptor.__get__» ⟨[.builtin "list.append",.ref p,.type "list"],[]⟩) P E ⟨h,g,d,t,B⟩:=by
 have D:(⟨h,g,d,t,B⟩:Ç).TypeIs (.ref p) "list":=⟨_,G,rfl⟩
 refine Á (ś (a:=(.builtin "list.append",C (.ref p),C (.type "list"))) (by first|rfl|kernel_rfl) ?_)
 refine Á ?_
 refine Á (Å ?_)
 refine Á (Ŕ D sub_list_list ?_)
 exact Å (Á (į (Å H)))
def CJ {I:YP} {Q:Ē->Ç->Prop} (G:h.get? p=C { cls:=.type "list",data:=.seq items k })
 (hq:Q (.done (.ret (.ref h.objs.size))) ⟨h.push (d8 (.builtin "list.append") (.ref p)),g,d,t,B⟩) :
 Î (Ϧ prog w) A (ř.«object.__getattribute__» ⟨[.ref p,.str "append" I],[]⟩) Q E ⟨h,g,d,t,B⟩:=by
 have hT:(⟨h,g,d,t,B⟩:Ç).TypeIs (.ref p) "list":=⟨_,G,rfl⟩
 have f4:=F.slot_list_append.lookup
 have H:=abr
 have f6:=cG.lookup
 have f7:=qQ
 have f8:=qP
 have D:(⟨h,g,d,t,B⟩:Ç).TypeIs (.builtin "list.append") "method_descriptor":=H
 repeat (any_goals (first|assumption|wp_step))
 refine υ cG.plain jg (cG.check _ _ _ _ _ _ _ _ D (kY _ _ _) (Pd G ?_))
 repeat (any_goals (first|assumption|wp_step))
def xG {D:ì} {Q:Ê->Ç->Prop} (G:h.get? p=C { cls:=.type "list",data:=.seq items k })
 (hq:Q (.ref h.objs.size) ⟨h.push (d8 (.builtin "list.append") (.ref p)),g,d,t+1,B⟩) :
 Î (Ϧ prog w) A (aaH (.ref p) ("append" : Ì) D) Q E ⟨h,g,d,t,B⟩:=by
 have H:(⟨h,g,d,t+1,B⟩:Ç).TypeIs (.ref p) "list":=⟨_,G,rfl⟩
 have f2:=F.slot_list_getattribute.lookup
 have f3:=F.slot_list_getattribute.bind (.ref p)
 repeat (any_goals (first|assumption|wp_step))
 rw[Ý (by rcases D<;>trivial)]
 dsimp only[adR]
 repeat (any_goals (first|assumption|wp_step))
 refine υ F.slot_list_getattribute.plain F.entry_list_ga (F.slot_list_getattribute.check _ _ _ _ _ _ _ _ H (YO _ _) (CJ G ?_))
 repeat (any_goals (first|assumption|wp_step))
def Lw {P:Ē->Ç->Prop} {es:ÿ (Į×Ê)} {ep:Ó} {st:Ś} (G:h.get? p=C { cls:=.type "set",data:=.set es ep st })
 (H:P (.done (.ret (.ref h.objs.size))) ⟨h.push (d8 (.builtin "set.intersection") (.ref p)),g,d,t,B⟩) :
 Î (Ϧ prog w) A (ř.«method_descriptor.__get__» ⟨[.builtin "set.intersection",.ref p,.type "set"],[]⟩) P E ⟨h,g,d,t,B⟩:=by
 have D:∀t,(⟨h,g,d,t,B⟩:Ç).TypeIs (.ref p) "set":=λt=>⟨_,G,rfl⟩
 refine Á (ś (a:=(.builtin "set.intersection",C (.ref p),C (.type "set"))) (by first|rfl|kernel_rfl) ?_)
 refine Á ?_
 refine Á (Å ?_)
 refine Á (Ŕ (D _) dY ?_)
 exact Å (Á (į (Å H)))
def Gk {I:YP} {Q:Ē->Ç->Prop} {es:ÿ (Į×Ê)} {ep:Ó} {st:Ś} (G:h.get? p=C { cls:=.type "set",data:=.set es ep st })
 (hq:Q (.done (.ret (.ref h.objs.size))) ⟨h.push (d8 (.builtin "set.intersection") (.ref p)),g,d,t,B⟩) :
 Î (Ϧ prog w) A (ř.«object.__getattribute__» ⟨[.ref p,.str "intersection" I],[]⟩) Q E ⟨h,g,d,t,B⟩:=by
 have hT:(⟨h,g,d,t,B⟩:Ç).TypeIs (.ref p) "set":=⟨_,G,rfl⟩
 have f4:=F.slot_set_intersection.lookup
 have H:=F.type_set_intersection
 have f6:=cG.lookup
 have f7:=qQ
 have f8:=qP
 have D:(⟨h,g,d,t,B⟩:Ç).TypeIs (.builtin "set.intersection") "method_descriptor":=H
 repeat (any_goals (first|assumption|wp_step))
 refine υ cG.plain jg (cG.check _ _ _ _ _ _ _ _ D (kY _ _ _) (Lw G ?_))
 repeat (any_goals (first|assumption|wp_step))
def CK {D:ì} {Q:Ê->Ç->Prop} {es:ÿ (Į×Ê)} {ep:Ó} {st:Ś} (G:h.get? p=C { cls:=.type "set",data:=.set es ep st })
 (hq:Q (.ref h.objs.size) ⟨h.push (d8 (.builtin "set.intersection") (.ref p)),g,d,t+1,B⟩) :
 Î (Ϧ prog w) A (aaH (.ref p) ("intersection" : Ì) D) Q E ⟨h,g,d,t,B⟩:=by
 have H:(⟨h,g,d,t+1,B⟩:Ç).TypeIs (.ref p) "set":=⟨_,G,rfl⟩
 have f2:=F.slot_set_getattribute.lookup
 have f3:=F.slot_set_getattribute.bind (.ref p)
 repeat (any_goals (first|assumption|wp_step))
 rw[Ý (by rcases D<;>trivial)]
 dsimp only[adR]
 repeat (any_goals (first|assumption|wp_step))
 refine υ F.slot_set_getattribute.plain si (F.slot_set_getattribute.check _ _ _ _ _ _ _ _ H (F.args_set_getattribute_2 _ _) (Gk G ?_))
 repeat (any_goals (first|assumption|wp_step))
end
section
variable {g:G} {A:Ā}
def Inv.e! (i:Inv g Z s) (b:Ü) (o:ϑ) (e:cx.h₀.get? b=C o):s.heap.get? b=C o:=i.sub _ _ (i.base _ _ e)
def Inv.X (i:Inv g Z s) (H:pk):cx.K.In s.heap:=H.X.keeps i.e!
def Bh {h:ę} {a:Ü} {m:Ì->Æ Ê} (L:h.Ns a m):∃o,h.get? a=C o/\∀x,Zc x o=C (m x):=by
 rcases _:L with⟨o,es,ep,O,G,hk,I⟩
 refine⟨o,O,λx=>?_⟩
 have D:es.toList.any (·.refKey)=Ï:=by
  rw[Array.any_toList,Zl];intro e H;rcases _:hk e H with⟨n,t,h⟩;simp[Y8,h]
 unfold Zc
 simp only[G,<-I x]
 simp only[nsFind,findBy,<-Array.find?_toList,D]
 cases es.toList.find? (·.key.isStr x)<;>rfl
def LB {a:Ü} {m:Ì->Æ Ê} {k:Ó} {name:Ì} {w:Ê} {E:Ê->Ç->Prop} {Q:ab->Ç->Prop} (Y:Jc s.heap a m k)
 (h:∀h',Jc h' a (λx=>if x=name then C w else m x) (if(m name).isSome then k else k+1)->ζ a s.heap h'->Q () { s with heap:=h',toks:=s.toks+1 }):Î cx.M A (nsSet a name w) Q E s:=λN p J=>by
 refine Y _ λo es ep I À hk L hz=>?_
 simp only[nsSet,strHash,Sem.wp_bind',Sem.wp_cmd_ask,Sem.wp_pure',Sem.wp_cmd_mkText]
 rw[Sem.wp_loadPart_of cx.M N _ p { s with toks:=s.toks+1 } (o:=o) _ I]
 have H:es.any (·.refKey)=Ï:=by
  rw[Zl];intro e V;rcases _:hk e V with⟨n,t,h⟩;simp[Y8,h]
 simp only[À,aRefKeyMayBeTheName_eq,aRefKeyMayBeTheNameByArray,H,b_,ĭ,δ,Sem.wp_cmd_updatePart]
 refine⟨by rw[I];rfl,h _ ?_ (Ĩ ..)⟩
 obtain⟨c,d,dt,sl⟩:=o
 subst À
 have D:(m name).isSome=(es.findIdx? (·.key.isStr name)).isSome:=by
  rw[<-L name];simp only[nsFind,findBy,ZH]
  rw[Ψ,Array.find?_isSome,Array.findIdx?_isSome,Array.any_eq_true]
  constructor
  ·rintro⟨x,acT,O⟩;rcases _:YQ.mp acT with⟨i,G,rfl⟩;exact⟨i,G,O⟩
  ·rintro⟨i,G,O⟩;exact⟨_,ZV G,O⟩
 generalize G:es.findIdx? (·.key.isStr name)=zzy
 induction zzy with
 | some i=>
  rw[G]at D
  refine(.mk _ _ ep (œ _ I (by simp only[WN,r7,G];rfl)) (by simp only[WN,r7,G];rfl) (hk.modify _ _) (λx=>?_) ?_)
  ·show _=if x=name then C w else m x
   rw[<-L];exact findBy_modify (λn v=>v.isStr n) Value.isStr_inj es name x w i G
  ·rw[D];simpa using hz
 | none=>
  rw[G]at D
  refine(.mk _ _ (ep+1) (œ _ I (by simp only[WN,r7,G];rfl)) (by simp only[WN,r7,G];rfl) (hk.push _ _ _ _) (λx=>?_) ?_)
  ·show _=if x=name then C w else m x
   rw[<-L]
   exact findBy_push (λn v=>v.isStr n) es name x _ _ w (λy=>by
    show(name==y)=decide (y=name)
    by_cases h:y=name
    ·cases h;rfl
    ·have:¬ name=y:=λe=>h e.symm
     simp[h,this]) G
  ·rw[D];simpa using hz
def uJ (D:Prop) (g:G) (s:Ç) (d:Ó) (fs:È (Æ AV)) (u:Ê):Prop:=∀(y a:Ü) (o:ϑ) (m:Ì->Æ Ê) (e:u = .ref y) (h:InstAt s.heap y (Xy T.acT a) T.acT (C o)) (ha:g.ρ[d]? = C a) (n:Jc s.heap a m (fs.countP (·.isSome))) (l:∀x,Zc x o=C (m x)) (z:fs.length=T.an.length) (z':T.an.length<=100) (h1:∀x v,x∈T.an->fs[T.an.idxOf x]? = C (C v)->∃u,m x=C u/\VR g v u) (h2:∀x,(x∈T.an->fs[T.an.idxOf x]? = C U)->m x=U),D
def wZ:=λg s d fs u=>∀D,uJ D g s d fs u->D
def wZ.mk:uJ (wZ g s d fs u) g s d fs u:=λy a o m e h I n l z L G H J D=>D y a o m e h I n l z L G H
def tK {d:Ó} {fs:È (Æ AV)} (i:Inv g Z s) (r:VR g (.obj d) u) (e:gD Z d=C fs):wZ g s d fs u:=by
 (refine r _ ?_;rintro y a rfl Y H)
 have V:=FI e
 refine i.cells _ _ _ V H _ λm I Q D L O=>?_
 obtain⟨o,À,G⟩:=Bh I.ns
 exact(.mk y a o m rfl ⟨i.sub _ _ Y,rfl,rfl,À⟩ H I G Q D L O)
def BI.handed (b:BI):handedIn b.val=Í:=by rcases b<;>first|rfl|decide +kernel
set_option tactic.hygienic true in def qG (r:VR g v u):handedIn u=Í:=by
 rcases v<;>skip
 case bf b=>subst r;exact b.handed
 all_goals first
  | (subst r;rfl)
  | (obtain⟨_,rfl,_⟩:=r;rfl)
  | (refine r _ ?_;intro _ e _;subst e;rfl)
  | (refine r _ ?_;intro _ _ e _ _;subst e;rfl)
  | (refine r _ ?_;intro _ _ _ e;intros;subst e;rfl)
def mO {o:ϑ} {w:Ê} (H:pk) (G:x∈T.an) (D:Zc x o=C (C w)):findObj cx.K T.acT (C o) x=C (.value w):=
 findObj_own H.dict (H.attr x G).2 rfl D
def uW {fs:È (Æ AV)} {o:Æ AV} (D:fs.length=T.an.length) (h:fs[T.an.idxOf x]? = C o):x∈T.an:=by
 have:=(î.mp h).1
 rw[D]at this
 exact abD.mp this
def iX {fs:È (Æ AV)} (hl:fs.length=T.an.length) (h:fs[T.an.idxOf x]? = U):x∉T.an:=λD=>by
 have:=Ξ D
 (simp_all +arith)
def mS {l:Ó} {xs:ZB} {D:ì} (i:Inv g Z s) (r:VR g (.loc l) u) (e:Z[l]? = C (.list xs)):Î cx.M A (aaH u ("append" : Ì) D) (PE g s Z (.bm .lAppend (.loc l))) bj s:=by
 obtain⟨p,rfl,G⟩:=id r
 (refine i.cells _ _ _ e G _ ?_;rintro vs ⟨k,hv⟩ q z)
 obtain⟨h,gs,d,t,B⟩:=s
 refine xG hv ?_
 exact PE.alloc (t:=t+1) i rfl (λg' le H=>by exact(.mk _ _ rfl H ⟨p,rfl,le.at G⟩))
def oY {ks:ZC} {D:ì} (i:Inv g Z s) (r:VR g (.ws ks) u):Î cx.M A (aaH u ("intersection" : Ì) D) (PE g s Z (.bm .inter (.ws ks))) bj s:=by
 have L:=r
 (refine r _ ?_;rintro p ⟨_,_,_,_⟩ rfl G d;refine d _ ?_;rintro es ep st ⟨rfl,rfl,rfl⟩ rfl _ _ _ _ _ _ _ _)
 have I:=i.sub _ _ G
 obtain⟨h,gs,dr,t,B⟩:=s
 refine CK I ?_
 exact PE.alloc (t:=t+1) i rfl (λH le G=>show VR H (.bm .inter (.ws ks)) _ from MT.mk _ _ rfl G (L.mono le))
def mT (H:pk) {o:AV} {G:ì} (i:Inv g Z s) (r:VR g o u) (e:eD T Z o x=C v):Î cx.M A (aaH u x G) (PE g s Z v) bj s:=by
 induction o using AV.casesOn with
 | obj d=>
  refine aP e λfs V e=>?_
  ((refine tK i r V _ ?_;rintro y a ob m rfl I ha hm L Q hl' N j))
  refine eY e (λw O e=>?_) λO e=>?_
  ·have D:=uW Q O
   subst e
   rcases _:N x v D O with⟨u,hu,À⟩
   exact get_value (i.X H) I H.ga (mO H D (by simp only[L,hu])) (qG À) (.tok i À _)
  ·have D:=iX Q O
   obtain⟨f,Y,rfl⟩:=Ħ.mp e
   rcases _:H.ms x f D Y with⟨m1,m2,m3,m4,m5,m6⟩
   have c:m x=U:=j x λq=>absurd q D
   refine get_bind (i.X H) I H.ga (findObj_fn H.dict m1 m4 m5 m6 (by rw[L,c])) H.gh (ϵ (fn_get (s:={ s with toks:=s.toks+1 }) (i.X H) m2 (handed_on rfl ?_)))
   exact PE.alloc i rfl (λacT le z=>show VR acT (.mt f (.obj d)) _ from MZ.mk _ _ rfl z (r.mono le)) _
 | loc l=>exact aP e λxs h e=>aQ e λD e=>by subst D;obtain rfl:=Ä e;exact mS i r (list_eq h)
 | ws ks=>exact aQ e λD e=>by subst D;obtain rfl:=Ä e;exact oY i r
 | _=>exact aD e
def yO (H:pk) {E:Ê->Ç->Prop} {o w:AV} {uw:Ê} {Q:ab->Ç->Prop} (i:Inv g Z s) (r:VR g o u) (x1:VR g w uw) (e:n6 T Z o x w=C Z')
 (h:∀s',bt [] g s g s'->Inv g Z' s'->Q () s'):Î cx.M A (setAttr u x uw) Q E s:=by
 induction o using AV.casesOn with
 | obj d=>
  refine aP e λfs e1 e=>?_
  ((refine tK i r e1 _ ?_;rintro y a ob m rfl I ha hm hlk hl V h1 h2))
  refine aQ e λD e=>?_
  ·obtain rfl:=Ä e
   have acT:x∈T.an:=by simp only[hl]at D;exact abD.mp D
   refine set_plain (i.X H) I H.sa (osa_open (s:={ s with toks:=s.toks+1 }) (i.X H) I H.over (H.attr x acT).1 λb=>?_)
   rcases _:any_some H.dict with⟨cd,hc,c⟩
   refine Á (Å (Á (Á (aed I.at_ (Á ((show Looks cx.M ({ s with toks:=s.toks+1 }:Ç).heap _ _ from looks_clsIn (i.X H) hc).here ?_))))))
   rw[c]
   refine Å (a:=C a) (Á (Å (Á ?_)))
   refine LB (s:={ s with toks:=s.toks+1 }) hm λh' hn j=>?_
   have L:(if(m x).isSome then fs.countP (·.isSome)else fs.countP (·.isSome)+1)=(fs.set (T.an.idxOf x) (C w)).countP (·.isSome):=by
    rw[countP_set (h:=D)]
    have Y:∀z:Æ AV,fs[T.an.idxOf x]? = C z->z.isSome=Í->0<fs.countP (·.isSome):=λz hz j=>
     countP_pos_iff.mpr ⟨z,Ĉ hz,j⟩
    generalize hf:fs[T.an.idxOf x]=zzy
    induction zzy with
    | none=>
     have:m x=U:=h2 x λJ=>by simp only[æ D,hf]
     simp[this]
    | some z=>
     obtain⟨u',x0,_⟩:=h1 x z acT (by simp only[æ D,hf])
     have:=Y (C z) (by simp only[æ D,hf]) rfl
     dsimp[x0];(simp_all +arith)
   simp only[L]at hn
   have ho:OR g h' a (.attrs (fs.set (T.an.idxOf x) (C w))):=by
    refine(.mk _ hn (by rw[Y3];exact hl) V (λz q hz N=>?_) (λz hz=>?_))
    ·by_cases G:z=x
     ·cases G;rw[ο D]at N;rcases N;exact⟨uw,by simp,x1⟩
     ·rw[μ (λq=>G (eV acT q).symm)]at N
      obtain⟨u',p1,p2⟩:=h1 z q hz N
      exact⟨u',by simp[G,p1],p2⟩
    ·have G:z≠x:=λq=>by cases q;have:=hz acT;rw[ο D]at this;rcases this
     simp only[G,δ]
     exact h2 z λq=>by have:=hz q;rwa [μ (λq=>G (eV acT q).symm)]at this
   (refine hn _ λon es ep À O J J hsz=>?_)
   have l:(fs.set (T.an.idxOf x) (C w)).countP (·.isSome)<=100:=Â countP_le_length (by simp only[Y3,hl];exact V)
   refine Á (wpAny_lookBehind À (by rw[O];exact pastItsLine_dict (Â hsz (Â l (by rw[ŀ];decide)))) (Å ?_))
   have ht:s.toks<=s.toks+1+1:=by solve_by_elim (maxDepth:=4) only[Â,ô,É, *]
   exact h _ (.setCell (t:=s.toks+1+1) ht ha j ho.there) (i.setCell (t:=s.toks+1+1) ht ha ho j)
 | _=>exact aD e
end
def lJ:ξ (.type "list") (.type "module")=pure Ï:=by rw[Β];kernel_rfl
def ou:ξ (.type "str") (.type "module")=pure Ï:=by rw[Β];kernel_rfl
def oq:ξ (.type "set") (.type "module")=pure Ï:=by rw[Β];kernel_rfl
structure d5 (T id:Λ):Prop where
 sig:∃sig,ϣ id=C sig/\∀a b,Bind.checkArgs id { sig with full:=toString (acS T)++toString "."++toString (acS id) } ⟨[a,b],[]⟩=pure ()
 kind:builtinKind id=C .method
 vars:Manifest.varargsMethods.contains id=Ï
 mod:ξ (.type T) (.type "module")=pure Ï
def yR:d5 "list" "list.append":=⟨⟨(ϣ "list.append").get (by decide +kernel),(E_ _).symm,λJ J=>by kernel_rfl⟩,by decide +kernel,by rfl,lJ⟩
def Ij:d5 "str" "str.join":=⟨⟨(ϣ "str.join").get (by decide +kernel),(E_ _).symm,λJ J=>by kernel_rfl⟩,by decide +kernel,by rfl,ou⟩
def EJ:d5 "set" "set.intersection":=⟨⟨(ϣ "set.intersection").get (by decide +kernel),(E_ _).symm,λJ J=>by kernel_rfl⟩,by decide +kernel,by rfl,oq⟩
section
variable {n:Ó} {s:Ç} {A:Ā} {E:Ê->Ç->Prop} {g:G} {Z:aa} {v:AV}
def jQ {T id:Λ} {u y:Ê} {Q:ab->Ç->Prop} (S:d5 T id) (B:s.TypeIs u T) (L:∀{Q:ì->Ç->Prop},Q Ï s->Î cx.M A (acj u) Q E s) (H:Q () s):Î cx.M A (hY id ⟨[u,y],[]⟩) Q E s:=by
 obtain⟨⟨sig,I,D⟩,hk,hv,G⟩:=S
 delta hY;dsimp only;rw[I];dsimp only;rw[hk,hv]
 refine ĸ (λh=>absurd h Zz) λJ=>?_
 refine Á (Ŕ B G ?_)
 refine ĸ (λh=>absurd h Zz) λJ=>?_
 refine Á (L ?_)
 refine ĸ (λh=>absurd h Zz) λJ=>?_
 refine Á (Τ B ?_)
 dsimp only
 rw[D]
 exact Å H
def pD {T id:Λ} (S:d5 T id) {a:Ü} {y:Ê} {Q:ab->Ç->Prop} {E:Ê->Ç->Prop} (B:s.TypeIs (.ref a) T) (G:∀{Q:ì->Ç->Prop},Q Ï s->Î cx.M A (acj (.ref a)) Q E s) (D:Q () s):Î cx.M A (hY id ⟨[.ref a,y],[]⟩) Q E s:=jQ S B G D
def rV {a:Ü} {id:Λ} {w:Ê} {us:ZA} {R:ky->Ç->Prop} (D:s.heap.get? a=C (d8 (.builtin id) w)) (G:acB id=Í)
 (h:Î cx.M A.in1 (hY id ⟨w::us,[]⟩) (λJ B=>Ž cx.M A (.builtin id ⟨w::us,[]⟩) R B) (λJ J=>False) s):Ž cx.M A (.call (.ref a) ⟨us,[]⟩) R s:=by
 refine ν ?_
 show Î _ A.in1 (YV (.ref a) _) _ _ s
 dsimp only[YV]
 refine Á (X3 D ?_)
 exact Á (Ô h (λJ B z=>Å ⟨plainId_quiet G _,z⟩) λJ J z=>z.elim)
def kt {p:Ü} {o:ϑ} {Q:ì->Ç->Prop} (G:s.heap.get? p=C o) (D:∀c,o.data≠.cls c) (h:Q Ï s):Î cx.M A (acj (.ref p)) Q E s:=by
 obtain⟨c,d,B,sl⟩:=o
 rcases B<;>first|exact absurd rfl (D _)|exact Á (aed G (Å h))
def Cj {l:Ó} {xs:ZB} {b w:Ê} {a:Ü} (i:Inv g Z s) (e:Z[l]? = C (.list xs)) (hz:xs.length<Ö) (D:s.heap.get? a=C (d8 (.builtin "list.append") w)) (H:VR g (.loc l) w) (I:VR g v b) :
 Î cx.M A (call (.ref a) [b]) (PX g s (Z.set l (.list (xs++[v]))) .none) bj s:=by
 obtain⟨p,rfl,B⟩:=H
 (refine i.cells _ _ _ e B _ ?_;rintro vs ⟨k,hv⟩ q z)
 refine PE.x (ϵ (rV D F.slot_list_append.plain (jQ yR ⟨_,hv,rfl⟩ (kt hv λJ h=>nomatch h) (ģ F.entry_list_append ?_))))
 show Î _ _ (updateSeq p (·.push b) >>= λJ=>ret .none) _ _ s
 refine Á ?_
 have hsz:vs.toArray.size<=Ö:=by simp only[Đ,<-q.length];exact z
 refine wpAny_updateSeq hv rfl (Å ?_)
 have G:(s.heap.update p (Ğ (·.push b))).PlainList p (vs.toArray.push b):=⟨k+1,by rw[œ _ hv (by rfl),Obj.mapSeq_push_plain]⟩
 exact PE.set (o:=.list (xs++[v])) (t:=s.toks) i B (.mk (vs++[b]) (by simpa using G) (q.append (.cons I .nil)) (by simp;assumption)) (Ĩ ..) .none_
def JC {B:Ì} {xs:ZB} {ts:ZC} {a:Ü} {b w:Ê} (i:Inv g Z s) (e:aw Z v=C xs) (h:aJ xs=C ts) (hz:(ts.map (·.length)).sum+ts.length * B.length<=Ö) (I:s.heap.get? a=C (d8 (.builtin "str.join") w)) (O:VR g (.str B) w) (Q:VR g v b) :
 Î cx.M A (call (.ref a) [b]) (PX g s Z (.str (û B ts))) bj s:=by
 (refine O _ ?_;rintro t rfl _)
 (refine aI i e Q _ ?_;rintro p vs rfl L À zp)
 obtain⟨_,H⟩:=cR h À
 obtain⟨l,rfl,rfl⟩:=lm H
 have D:JoinOk B (l.map (·.1))=Í:=joinOk_of (by exact hz)
 have G:=D
 unfold JoinOk at G
 refine PE.x (ϵ (rV I F.slot_str_join.plain (jQ Ij (Ź _ _ _) (λh=>Å h) (ģ acd ?_))))
 exact abP B t p l (by simpa using G) cx.prog cx.w A (wants (PE g s Z (.str (û B (l.map (·.1))))) bj) s ⟨L.isList,post_join l ⟨XV D,λt' k=>.tok i (.g! _ (XV D)) _⟩⟩
end
def iP:ξ (.type "re.Pattern") (.type "module")=pure Ï:=by rw[Β];kernel_rfl
def EK:d5 "re.Pattern" "re.Pattern.match":=⟨⟨(ϣ "re.Pattern.match").get (by decide +kernel),(E_ _).symm,λJ J=>by kernel_rfl⟩,by decide +kernel,by decide +kernel,iP⟩
def vi:bT XW "re.Pattern.match" = C ř.«re.Pattern.match»:=Ϲ (by kernel_rfl)
def v8:acB "re.Pattern.match" = Í:=by decide +kernel
section
variable {s:Ç} {A:Ā}
def u5 {a:Ü} {y:Ê} {Q:ab->Ç->Prop} {E:Ê->Ç->Prop} (B:s.TypeIs (.ref a) "re.Pattern") (G:∀{Q:ì->Ç->Prop},Q Ï s->Î cx.M A (acj (.ref a)) Q E s) (D:Q () s):Î cx.M A (hY "re.Pattern.match" ⟨[.ref a,y],[]⟩) Q E s:=by
 have:=pD (y:=y) EK B G D
 exact this
def yt {m:Ü} (H:IW s.heap m) {x:Ì} {g:YP} {Q:Ê->Ç->Prop} {E:Ê->Ç->Prop} (acT:x.length<4294967295)
 (N:bO x.cps=Ï->Q .none s) (D:bO x.cps=Í->∀h' e o,(∀b o,s.heap.get? b=C o->h'.get? b=C o)->s.heap.get? e=U->h'.get? e=C o->o.cls = .type "re.Match"->Q (.ref e) { s with heap:=h' }) :
 Î cx.M A (call (.ref m) [.str x g]) Q E s:=by
 refine H _ λa c I oc pt f1 f3 f4 t2 t6 vs n À B hk G O Y hv=>?_
 have L:s.TypeIs (.ref a) "re.Pattern":=⟨I,B,hk⟩
 have V:∀c,I.data≠.cls c:=λc h=>by rw[G]at h;cases h
 refine ϵ (rV À v8 ?_)
 refine u5 L (λh=>kt B V h) ?_
 refine ģ vi ?_
 refine Ô (ED (Q:=Q) B G O Y hv acT N D) (λfin s' ⟨v,e,q⟩=>?_) λJ J x=>x
 rw[e]
 exact q
end
def o7 (t:Ś) (n:Ó):(t.orStandIn n).led=t.led:=by unfold WH;split<;>rfl
def lH {t:Ś} {n:Ó} (h:t.plain=Ï):(t.orStandIn n).plain=Ï:=by unfold WH;split<;>first|exact h|rfl
def yi (t:Ś) (es:ÿ (Į×Ê)) (h:Į) (x:Ê):(Rp t es h x).2.1.led=t.led:=by
 unfold Rp
 split
 ·exact o7 _ _
 ·rfl
def tR {t:Ś} (es:ÿ (Į×Ê)) (h:Į) (x:Ê) (B:t.plain=Ï):(Rp t es h x).2.1.plain=Ï:=by
 unfold Rp
 split
 ·exact lH B
 ·rfl
def Hk {D B moves:Ó} {led plain:ì} {G:ÿ Į} {r:Ś×ÿ Ó} (h:SetTable.laid D B moves led plain G=C r):r.1.led=led/\r.1.plain=plain:=by
 rcases _:ù.mp h with⟨o,_,h⟩
 obtain rfl:=Ä h
 exact⟨rfl,rfl⟩
set_option tactic.hygienic true in def ue (t:Ś) (es:ÿ (Į×Ê)) (B:Ó):(Xp t es B).2.1.led=t.led/\(t.plain=Ï->(Xp t es B).2.1.plain=Ï):=by
 unfold Xp
 split
 ·rename_i t' order h
  have:=Hk h
  dsimp only
  split
  ·exact⟨this.1,λD=>this.2.trans D⟩
  ·exact⟨rfl,λJ=>rfl⟩
 ·exact⟨rfl,λJ=>rfl⟩
def yU {t:Ś} (D:t.place = #[]) (B:t.dummies = #[]) (j:Ó):t.slot j = .empty:=by
 dsimp only[aaB,Ys]
 rw[D,B]
 rfl
def Gs {t:Ś} {f:Ó->Į} {h:Į} {n:Ó} {p:l8}:Δ t f h (n+1) p=match t.slot p.j with | .empty=>C (.empty p.j p.dummy) | .dummy=>Δ t f h n (t.advance { p with dummy:=C p.j }) | .live i=>if f i==h then C (.candidate p.j i (t.advance p))else Δ t f h n (t.advance p):=rfl
def mQ {t:Ś} (h:Į) (G:t.place = #[]) (D:t.dummies = #[]):∃j,t.freeSlot h=C (j,Ï):=by
 delta Y_ aai
 have B:∃f,10 * XT t.mask=f+1:=⟨10 * XT t.mask - 1,by rfl⟩
 obtain⟨f,B⟩:=B
 rw[B]
 rw[Gs,yU G D]
 exact⟨_,rfl⟩
def pC (j k:Ó):aah #[j] k=if j<k then 1 else 0:=by
 unfold aah
 simp only[Đ,ŕ,ω]
 unfold acx
 simp only[ė,Yx,WR]
 have:(#[j]:ÿ Ó).getD ((0+1) / 2) k=j:=rfl
 simp only[this]
 split<;>(rfl)
def mV {t:Ś} {f:Ó->Į} {h:Į} {n:Ó} {p:l8} (B:t.slot p.j = .empty):Δ t f h (n+1) p=C (.empty p.j p.dummy):=by
 rw[Gs,B]
def zS {t:Ś} {f:Ó->Į} {h:Į} {n i:Ó} {p:l8} (D:t.slot p.j = .live i) (B:(f i==h)=Ï):Δ t f h (n+1) p=Δ t f h n (t.advance p):=by
 rw[Gs,D]
 dsimp only
 rw[B];rfl
def Ex {t:Ś} {h:Į} {o f:Ó} (À:t.mask=7) (I:∀j,t.slot j=if j=o then .live 0 else .empty) (m:Ó):∀(p:l8),p.more=0->p.dummy=U->p.j=p.i->p.perturb<32 ^ m->∃j,Δ t (λJ=>h+1) h (m+f+2) p=C (.empty j U):=by
 have H:(h+1==h)=Ï:=by rw[abU];lia
 have B:∀p:l8,p.more=0->t.advance p={ p with j:=(p.i * 5+1+p.perturb / 32) % 8,more:=0,i:=(p.i * 5+1+p.perturb / 32) % 8,perturb:=p.perturb / 32 }:=λp D=>by
  delta SetTable.advance SetTable.leap ZL
  rw[D,À,Ý (Ő 0)]
  dsimp only
  rw[Ý (by lia),Ť]
 induction m with
 | zero=>
  intro p D G O L
  have Q:p.perturb=0:=Yx.mp L
  by_cases hp:p.j=o
  ·rw[zS (by rw[I,Û hp]) H,B p D,mV (by simp only[I,Q];exact Ý (show ¬ (p.i * 5+1+0 / 32) % 8=o by rw[<-hp,O];lia))]
   exact⟨_,by rw[G]⟩
  ·rw[mV (by rw[I,Ý hp])]
   exact⟨_,by rw[G]⟩
 | succ m V=>
  intro p D G O L
  by_cases hp:p.j=o
  ·rw[show m+1+f+2=(m+f+2)+1 by lia,zS (by rw[I,Û hp]) H,B p D]
   exact V _ rfl G rfl (by dsimp only;rw[Nat.div_lt_iff_lt_mul Zz];rwa [Nat.pow_succ]at L)
  ·rw[mV (by rw[I,Ý hp])]
   exact⟨_,by rw[G]⟩
def Im {t:Ś} {o:Ó} (D:t.place = #[o]) (B:t.dummies = #[]) (j:Ó):t.slot j=if j=o then .live 0 else .empty:=by
 dsimp only[aaB,Ys]
 rw[D,B,pC]
 by_cases h:j=o
 ·rw[Û h,h,Ý (Ő o),Û (by simp)]
 ·rw[Ý h]
  by_cases q:o<j
  ·rw[Û q];rfl
  ·rw[Ý q,Ý (by simpa using λe:o=j=>h e.symm)];rfl
def so {t:Ś} {o:Ó} (h:Į) (B:t.mask=7) (O:t.place = #[o]) (I:t.dummies = #[]):∃j,t.freeSlot h=C (j,Ï):=by
 have H:aaA h<32 ^ 13:=by
  have D:(0:Į)<=h % 2 ^ 64:=Int.emod_nonneg _ Zz
  have G:h % 2 ^ 64<2 ^ 64:=Int.emod_lt_of_pos _ Zz
  exact ô ((acL D).mpr G:aaA h<2 ^ 64) Zz
 obtain⟨j,L⟩:=Ex (h:=h) (f:=205) B (Im O I) 13 (t.probeStart h) (by unfold SetTable.probeStart ZL;rw[B];dsimp only;rw[Ý (by lia),Ť]) rfl rfl H
 unfold Y_ aai XT
 simp only[B,show 10 * (7+15)=13+205+2 from rfl,L]
 exact⟨j,rfl⟩
def yh {t:Ś} {es:ÿ (Į×Ê)} (h:Į) (x:Ê) (L:t.mask=7) (I:t.place.size=es.size) (H:t.dummies = #[]) (O:es.size<=1) :
 (Rp t es h x).2.1.mask=7/\(Rp t es h x).2.1.dummies = #[]/\(Rp t es h x).2.1.place.size=es.size+1:=by
 obtain⟨j,À⟩:∃j,t.freeSlot h=C (j,Ï):=by
  rcases Nat.le_one_iff_eq_zero_or_eq_one.mp O with q|q
  ·exact mQ h (YJ.mp (I.trans q)) H
  ·obtain⟨o,V⟩:=L_.mp (I.trans q)
   exact so h L V H
 unfold Rp
 rw[À]
 have G:∀{Q:Type} (xs:ÿ Q) (k:Ó) (y:Q),(Za xs k y).size=xs.size+1:=λxs k y=>by unfold Za;simp;lia
 have B:(t.put j).1.mask=7/\(t.put j).1.dummies = #[]/\(t.put j).1.place.size=es.size+1:=by
  dsimp only[SetTable.put,Ys]
  rw[H]
  exact⟨L,rfl,(G ..).trans (Õ (· + 1) I)⟩
 have D:(t.put j).1.fits (es.size+1)=Í:=by
  unfold q_ X6
  simp only[B.1,B.2.1,B.2.2,ş,uf]
  exact õ (Â (á O) Zz)
 dsimp only
 rw[G]
 unfold WH
 rw[Û D]
 exact B
section
def ba.new {led:ì} {h:ę} {a:Ü} (G:h.get? a=C { cls:=.type "set",dict:=U,data:=.set #[] 0 (.fresh 0 0 led) }) (D:cx.w.params.followText "set-order" = Ï->led=Í):ba h a []:=
 .mk _ G (.mk #[] 0 _ ⟨rfl,rfl,rfl⟩ rfl (λe B=>by simp at B) (λk=>by simp) Zz rfl rfl .nil (by trivial) ⟨D,by simp,λJ=>⟨rfl,rfl,rfl⟩,λJ=>⟨rfl,rfl⟩⟩)
def gT {Q:Ê->Ç->Prop} (h:∀led:ì,(cx.w.params.followText "set-order" = Ï->led=Í)->Q (.ref s.heap.objs.size) { s with heap:=s.heap.push { cls:=.type "set",dict:=U,data:=.set #[] 0 (.fresh 0 0 led) } }) :
 Î cx.M A (newSet (.type "set")) Q E s:=by
 dsimp only[newSet,setsByText]
 refine Á (Á (ź (Å ?_)))
 exact Á (abA (Å (h _ λB=>by show(!cx.w.params.followText "set-order")=Í;rw[B];rfl)))
def oz {h:ę} {a:Ü} {o:ϑ} {es:ÿ (Į×Ê)} {ep:Ó} {t:Ś} (À:h.get? a=C o) (hex:o.ExactSet) (H:o.data = .set es ep t)
 {es':ÿ (Į×Ê)} {t':Ś} {kk:ZC} (D:aay cx.sk es'.toList) (B:∀k,kk.contains k=Í↔∃e∈es'.toList,cx.sk.is k e.2=Í) (L:es'.size<ű) (O:t'.fits es'.size=Í)
 (Q:es'.size=kk.length) (G:kk.Nodup) (hz:∀k∈kk,k.length<=Ö) (V:zo es'.size t') :
 (h.update a (hG es' t')).get? a=C { o with data:=.set es' (ep+1) t' }/\ba (h.update a (hG es' t')) a kk:=by
 have I:(h.update a (hG es' t')).get? a=C { o with data:=.set es' (ep+1) t' }:=by
  have:=œ (hG es' t') À (by rw[putSet_of es' t' H];rfl)
  rw[putSet_of es' t' H]at this;exact this
 exact⟨I,.mk _ I (.mk es' (ep+1) t' hex rfl D B L O Q G hz V)⟩
def uS {k:Ì} {kk:ZC} (h:kk.contains k=Ï):aZ k kk=kk++[k]:=by unfold aZ;rw[h];rfl
def FC {k:Ì} {kk:ZC} (h:kk.contains k=Í):aZ k kk=kk:=by unfold aZ;rw[h];rfl
set_option tactic.hygienic true in def fm {a:Ü} {kk:ZC} {k:Ì} {i:YP} {Q:ì->Ç->Prop} (H:ba s.heap a kk) (hz:k.length<=Ö) (y3:kk.length+1<ű)
 (h:∀b h',ζ a s.heap h'->ba h' a (aZ k kk)->Q b { s with heap:=h' }):Î cx.M A (setAddHashed a (.str k i) (cx.sk.hash k)) Q E s:=by
 have l:cx.sk.is k (.str k i)=Í:=ů _ _ _ _
 have w3:(e9 k i).scannable=Í:=rfl
 (refine H _ λo ho q4=>q4 _ λes ep t hex hd x1 V hb hf hn v2 u3 ht=>?_)
 have q0:es.size+1<ű:=by rw[hn];exact y3
 refine ä (Á (ŗ ho hd hf ?_))
 dsimp only
 rw[byScan_of w3 hb x1]
 refine Á ?_
 refine Á (Ŝ ?_)
 refine Á (wpAny_setScan_of l ho hd hf x1 ?_)
 generalize hr:findIdx? (λe=>cx.sk.is k e.2) es.toList=zzy
 induction zzy with
 | some j=>
  rcases _:findIdx?_eq_some_iff_getElem.mp hr with⟨hj,q2,_⟩
  have x0:kk.contains k=Í:=(V k).mpr ⟨es.toList[j],getElem_mem hj,q2⟩
  refine Å (Å ?_)
  have e:s={ s with heap:=s.heap }:=by rcases s;rfl
  refine h _ s.heap (Yz a s.heap) ?_
  simp only[FC x0]
  exact(.mk o ho (.mk es ep t hex hd x1 V hb hf hn v2 u3 ht))
 | none=>
  have x0:kk.contains k=Ï:=by
   cases hk:kk.contains k with
   | false=>rfl
   | true=>obtain⟨e,he,hp⟩:=(V k).mp hk;have:=findIdx?_eq_none_iff.mp hr e he;rw[hp]at this;exact Bu this
  have q1:∀(b:ì) {s₁:Ç} {Q':ab->Ç->Prop},Q' () s₁->Î cx.M A (match b with|true=>rule "set.scan.the-table-gave-way" | false=>pure ()) Q' E s₁:=
   λb s₁ Q' hq=>by rcases b<;>first|exact Å hq|exact Ŝ hq
  have D:=layNew_perm t es (cx.sk.hash k) (.str k i)
  have O:=layNew_fits t es (cx.sk.hash k) (.str k i)
  have r:=yi t es (cx.sk.hash k) (.str k i)
  have w2:=λhp=>tR (t:=t) es (cx.sk.hash k) (.str k i) hp
  have G:es.size<=1->(Rp t es (cx.sk.hash k) (.str k i)).2.1.mask=7/\(Rp t es (cx.sk.hash k) (.str k i)).2.1.dummies = #[]/\(Rp t es (cx.sk.hash k) (.str k i)).2.1.place.size=es.size+1:=λN=>
   have z:=ht.few (ļ N)
   yh _ _ z.1 (by simp only[q_,ú,ĕ]at hf;exact hf.1) z.2 N
  generalize hL:Rp t es (cx.sk.hash k) (.str k i)=L at D O r w2 G ⊢
  obtain⟨B,t1,acT,gave⟩:=L
  dsimp only at D O r w2 G ⊢
  simp only[ZW]at D
  have x3:aay cx.sk B.toList:=(x1.push l w3).perm D
  have c:∀k',(aZ k kk).contains k'=Í↔∃e∈B.toList,cx.sk.is k' e.2=Í:=λk'=>by
   simp only[oN];exact mem_push_iff l V D k'
  have I:B.size=es.size+1:=by rw[<-Č,D.length_eq,Ð,Č];rfl
  have g:B.size<ű:=by rw[I];exact q0
  have x4:B.size=(aZ k kk).length:=by simp only[kX,x0,I,hn];rfl
  have x5:(aZ k kk).Nodup:=xm v2
  have w4:∀y∈aZ k kk,y.length<=Ö:=λy hy=>by
   rw[uS x0]at hy
   rcases ý.mp hy with hy|hy
   ·exact u3 y hy
   ·rw[Ù]at hy;cases hy;exact hz
  refine Á (q1 _ ?_)
  have z2:∀À:Ś,À.fits B.size=Í->(cx.w.params.followText "set-order" = Ï->À.led=Í)->À.plain=Ï->(es.size<=1->À.mask=7/\À.dummies = #[])->
   ∀{R:Æ ì->Ç->Prop},(∀h',ζ a s.heap h'->ba h' a (aZ k kk)->R (C Í) { s with heap:=h' })->
   Î cx.M A (do
    adY a B À
    if(!acT&&À.tooFull)=Í then do
     (match (Xp À B (ϛ B.size)).2.2 with|true=>rule "set.scan.the-table-gave-way" | false=>pure ())
     adY a (Xp À B (ϛ B.size)).1 (Xp À B (ϛ B.size)).2.1
     pure (C Í)
     else pure (C Í)) R E s:=by
   intro À x9 u4 w1 v1 R hR
   have T1:zo B.size À:=⟨u4,λJ=>w1,λN=>(nomatch I.symm.trans N),λh1=>v1 (N_ (Â (ó I.symm) h1))⟩
   refine Á (Yo ho hd ?_ (i_ g))
   obtain⟨v3,w6⟩:=oz ho hex hd x3 c g x9 x4 x5 w4 T1
   have x6:=Ĩ s.heap a (hG B À)
   split
   ·rename_i hfull
    have hp:=relayAll_perm À B (ϛ B.size)
    have y1:=relayAll_fits À B (ϛ B.size)
    have x2:=ue À B (ϛ B.size)
    have u1:¬ es.size<=1:=λN=>by
     have hm:=v1 N
     have q3:À.place.size=B.size:=by simp only[q_,ú,ĕ]at x9;exact x9.1
     simp only[SetTable.tooFull,X6,hm.1,hm.2,q3,I,ú,j_]at hfull
     exact absurd (Â hfull.2 (θ 5 (á N:es.size+1<=2))) Zz
    generalize hRl:Xp À B (ϛ B.size)=Rl at hp y1 x2 ⊢
    obtain⟨Y,t3,x7⟩:=Rl
    dsimp only at hp y1 x2 ⊢
    have u2:aay cx.sk Y.toList:=x3.perm hp
    have y2:∀k',(aZ k kk).contains k'=Í↔∃e∈Y.toList,cx.sk.is k' e.2=Í:=λk'=>(c k').trans ⟨λ⟨e,he,q⟩=>⟨e,hp.mem_iff.mpr he,q⟩,λ⟨e,he,q⟩=>⟨e,hp.mem_iff.mp he,q⟩⟩
    have hsz:Y.size=B.size:=by rw[<-Č,hp.length_eq,Č]
    have z3:Y.size<ű:=by rw[hsz];exact g
    have T2:zo Y.size t3:=⟨λhl=>x2.1.trans (u4 hl),λJ=>x2.2 w1,λN=>(nomatch I.symm.trans (hsz.symm.trans N)),λh1=>absurd (N_ (Â (ó (I.symm.trans hsz.symm)) h1)) u1⟩
    have m:Î cx.M A (do
     adY a Y t3
     pure (C Í)) R E { s with heap:=s.heap.update a (hG B À) }:=by
     refine Á (Yo v3 rfl ?_ (i_ z3))
     obtain⟨_,w7⟩:=oz v3 hex rfl u2 y2 z3 y1 (hsz.trans x4) x5 w4 T2
     exact Å (hR _ (x6.trans (Ĩ _ a _)) w7)
    refine Á (by rcases x7<;>first|exact Å m|exact Ŝ m)
   ·exact Å (hR _ x6 w6)
  have d:cx.w.params.followText "set-order" = Ï->t1.led=Í:=λhl=>r.trans (ht.led hl)
  have w5:es.size<=1->t1.mask=7/\t1.dummies = #[]:=λN=>⟨(G N).1,(G N).2.1⟩
  split
  ·refine Á ?_
   refine Å ?_
   refine z2 { t1 with plain:=Ï } (SetTable.fits_plain_off O) d rfl w5 λh' z1 x8=>?_
   skip;exact Å (h _ h' z1 x8)
  ·rename_i hpf
   refine Á (Å ?_)
   refine z2 t1 O d (by simpa using hpf) w5 λh' z1 x8=>?_
   skip;exact Å (h _ h' z1 x8)
def xn {a:Ü} {kk:ZC} {k:Ì} {D:YP} {Q:ì->Ç->Prop} (H:ba s.heap a kk) (hz:k.length<=Ö) (B:kk.length+1<ű)
 (h:∀b h',ζ a s.heap h'->ba h' a (aZ k kk)->Q b { s with heap:=h',toks:=s.toks+1 }):Î cx.M A (setAdd a (.str k D)) Q E s:=by
 unfold setAdd
 refine ä (Á (cx.sk.pyHash (ů _ _ _ _) ?_))
 exact fm (s:={ s with toks:=s.toks+1 }) H hz B h
end
def ij:ξ (.type "dict") (.type "set")=pure Ï:=by rw[Β];kernel_rfl
def dg:ξ (.type "dict") (.type "frozenset")=pure Ï:=by rw[Β];kernel_rfl
def kW (kk ts:ZC) (k:Ì):ah kk (ts++[k])=aZ k (ah kk ts):=by unfold ah;rw[X_];rfl
def dA (ts:ZC):∀kk:È Ì,(ah kk ts).length<=kk.length+ts.length:=by
 unfold ah
 induction ts with
 | nil=>intro kk;simp
 | cons t ts D=>
  intro kk
  simp only[YZ]
  have:=D (aZ t kk)
  have B:=kX t kk
  exact Â this (Â (Ò (Â (ó B) (by split;exact ö _;exact Ë _)) _) (ó (YM _ _)))
def dy {k:Ì} {v:Ê} (h:cx.sk.is k v=Í):∃t,v = .str k t:=Value.isStrOf_shape h
section
def lx {I:Ü} {m wr:È Ü} {d:ÿ Ν->ÿ Ν->Prop} {P:Ó->Ê->Prop} {St:Ó->Ç->Prop} {ts:ZC} {R:ky->Ç->Prop} (W:WalksS cx.prog cx.w A.in1 I m wr d ts.length P St) (S:Ü) (À:S∉m)
 (j:∀i v,P i v->∃k t,ts[i]? = C k/\v = .str k t) (hz:∀k∈ts,k.length<=Ö) {kk:ZC} (H:kk.length+ts.length+1<ű) :
 ∀(k i:Ó) (s:Ç),ts.length - i=k->i<=ts.length->St i s->ba s.heap S (ah kk (ts.take i))->
  (∀G,Moved (S::wr) d s G->ba G.heap S (ah kk ts)->R (.ok (.ret .none)) G)->
  Ž cx.M A (.builtin "set.update.loop" ⟨[.ref S,.ref I],[]⟩) R s:=by
 have V:S∉wr:=λh=>À (W.sub _ h)
 have D:∀b∈wr,b∈S::wr:=λb H=>à _ H
 intro k
 induction k with
 | zero=>
  intro i s hk hi L l q
  have z:i=ts.length:=ţ hi (Ų hk)
  subst z
  simp only[Xe]at l
  refine ģ Zs ?_
  refine Á (W.done s _ _ L λG E=>?_)
  exact Å (q G (E.mono D) (l.at λo e=>E.heap S o V e))
 | succ k ih=>
  intro i s hk hi L l q
  have Y:i<ts.length:=XG (by rw[hk];exact ŵ _)
  refine ģ Zs ?_
  refine Á (W.item i s _ _ Y L λv G hP g E=>?_)
  rcases _:j i v hP with⟨key,t,B,rfl⟩
  have y:=l.at (h':=G.heap) λo e=>E.heap S o V e
  refine Á (ä ?_)
  refine xn y (hz _ (Ĉ B)) (É (á (Â (dA (ts.take i) kk) (Ø (by rw[W_];exact f_ _ _) _))) H) λb h' N Q=>?_
  have r:ts.take (i+1)=ts.take i++[key]:=by rw[ty,B];rfl
  rw[<-kW,<-r]at Q
  refine Å ⟨plainId_quiet F.plain_set_update_loop _,ih (i+1) _ (by rw[XH,hk];rfl) Y (W.frame _ G _ _ g (ö _) λb H o e=>?_) Q λc acT O=>?_⟩
  ·exact(N.2 b λh=>À (h▸H)).trans e
  ·refine q c (acw W.gtrans ((E.mono D).then_heap (ö _) λb o H e=>?_) acT) O
   exact(N.2 b λh=>H (by simp only[h];exact ã)).trans e
def LX {S:Ü} {k:Ì} {m:Ó} {Q:ab->Ç->Prop} (H:ba s.heap S [k]) (hm:m<=3) (h:Q () s):Î cx.M A (setRoomFor S m) Q E s:=by
 (refine H _ λo L D=>D _ λes ep t hex G hel hmem hb B I hnd hkz À=>?_)
 refine Á (ŗ L G B ?_)
 have hsz:es.size=1:=I
 obtain⟨t1,V⟩:=À.few (hsz▸ö 1)
 have O:t.place.size=1:=by simp only[q_,ú,ĕ]at B;simp only[B.1,hsz]
 have:t.roomFor m=U:=by
  dsimp only[SetTable.roomFor,X6]
  simp only[t1,V,O]
  rw[Ý (by simp;lia)]
 rw[this]
 exact Å h
def xz {es:ÿ mc} {kvs:ZD} (hk:KeysOf cx.sk es) (L:Pairs cx.sk es.toList kvs) {i:Ó} {e:mc} (H:es[i]? = C e) :
 ∃k w t,kvs[i]? = C (k,w)/\e.key = .str k t/\e.hash=cx.sk.hash k:=by
 have V:=(ĩ.mp H).1
 have G:=L.length
 obtain⟨I,D⟩:∃I,kvs[i]? = C I:=⟨kvs[i]'(by exact Â V (ó G)),æ _⟩
 obtain⟨k,w⟩:=I
 obtain⟨B,_⟩:=L.get? (e:=e) (by rw[Š];exact H) D
 obtain⟨t,Y⟩:=dy B
 rcases _:hk e (Array.mem_of_getElem? H)with⟨O,Q,À⟩
 have:O=k:=cx.sk.inj _ _ _ Q B
 subst this
 exact⟨O,w,t,D,Y,À⟩
def uQ (D:Prop) (s:Ç) (S d:Ü) (k:Ì) (kvs:ZD) (o:ϑ) (es:ÿ mc) (B:È Ó) (G:Ç):Prop:=∀(h':ę) (i:Ó) (e:G={ s with heap:=h' }) (r:B=range' i (es.size - i)) (l:i<=es.size) (H:ba h' S (ah [k] ((kvs.map (·.1)).take i))) (ho:h'.get? d=C o) (b:ζ S s.heap h'),D
def xg:=λs S d k kvs o es B G=>∀D,uQ D s S d k kvs o es B G->D
def xg.mk:uQ (xg s S d k kvs o es rest s') s S d k kvs o es rest s':=λh' i e r l H D b J B=>B h' i e r l H D b
def ER {S d:Ü} {k:Ì} {kvs:ZD} {Q:ab->Ç->Prop} (hA:A.handled=U) (H:ba s.heap S [k]) (hd:s.heap.DictOf cx.sk d kvs) (x5:d≠S) (hm:(d==Κ)=Ï) (h3:kvs.length<=3) (hz:∀kv∈kvs,kv.1.length<=Ö)
 (h:∀h' t,(∀b o,b≠S->s.heap.get? b=C o->h'.get? b=C o)->s.toks<=t->ba h' S (ah [k] (kvs.map (·.1)))->Q () { s with heap:=h',toks:=t }) :
 Î cx.M A (setDisplayStar S (.ref d)) Q E s:=by
 have hT:=hd.typeIs
 refine Á (Ŕ hT ij ?_)
 refine Á (Ŕ hT dg ?_)
 refine Á (ź ?_)
 rcases _:id hd with⟨o,es,ep,ho,hex,D,I,B,z2⟩
 have x3:kvs.length=es.size:=by have:=B.length;simp only[Č]at this;solve_by_elim (maxDepth:=4) only[Â,ô,É, *]
 generalize x0:cx.w.params.followText "set-display-star-reads-storage" = zzy
 induction zzy with
 | false=>
  have G:(Ϧ cx.prog cx.w).w.params.followText "set-display-star-reads-storage" = Ï:=x0
  dsimp only
  rw[Ý (by rw[G];exact ß)]
  refine Á (Τ hT ?_)
  refine Á (Ŝ ?_)
  rw[Ý (by rw[hm];exact ß)]
  refine Á (adz ho D ?_)
  refine Á (acE ho D ?_)
  refine Á (LX H (by exact Â (ó x3.symm) h3) ?_)
  refine Á ?_
  rw[abS]
  simp only[abT,XI,aat,Nat.div_one]
  refine adk _
   (λO J Y=>xg s S d k kvs o es O Y)
   _ ?_ ?_ _ _ (.mk s.heap 0 rfl (by rfl) (ï _) H ho (Yz _ _))
  ·rintro x O b Y yy;refine yy _ ?_;rintro h' i rfl hr hi c g q
   have V:i<es.size:=by
    rcases _:O_ i es.size with h|h
    ·exact h
    ·rw[Zp h]at hr;trivial
   obtain⟨rfl,j⟩:x=i/\O=range' (i+1) (es.size - (i+1)):=by
    have e:es.size - i=(es.size - (i+1))+1:=(YS (aaO V)).symm
    rw[e,range'_succ]at hr
    injection hr with h1 r
    exact⟨h1,r⟩
   refine Á (acE g D ?_)
   rw[Υ V]
   rcases _:xz I B (Υ V)with⟨z,w,t,À,x2,N⟩
   simp only[x2,N]
   have x4:(kvs.map (·.1))[x]? = C z:=by rw[Ė,À];rfl
   have hl:=dA ((kvs.map (·.1)).take x) [k]
   have y:ű=4096:=rfl
   refine Á (ä (Á (fm c (hz _ (Ĉ À)) (É (á (Â hl (Ø (Â (ó (W_ ..)) (Â (f_ _ _) (Â (ó (length_map ..)) h3))) _))) (show 1+3+1<ű by rw[y];decide)) λb r acT m=>Å ?_)))
   have z3:(kvs.map (·.1)).take (x+1)=(kvs.map (·.1)).take x++[z]:=by simp only[ty,x4];rfl
   rw[<-kW,<-z3]at m
   have x6:r.get? d=C o:=(acT.2 d x5).trans g
   refine Á (adz x6 D ?_)
   simp only[Ε,ĭ,δ]
   exact Å (.mk r (x+1) rfl j V m x6 (q.trans acT))
  ·rintro b Y yy;refine yy _ ?_;rintro h' i rfl hr hi c g q
   have y3:i=es.size:=by
    rcases O_ i es.size with h|h
    ·have e:es.size - i=(es.size - (i+1))+1:=(YS (aaO h)).symm
     rw[e,range'_succ]at hr;contradiction
    ·exact ţ ‹_› ‹_›
   rw[y3,fe (by rw[length_map];exact ó ‹_›)]at c
   exact Å (h h' s.toks (λb o hb e=>(q.2 b hb).trans e) (Ë _) c)
 | true=>
  have G:(Ϧ cx.prog cx.w).w.params.followText "set-display-star-reads-storage" = Í:=x0
  dsimp only
  rw[Û G]
  have x1:s.heap.DictAt cx.sk d kvs ep:=⟨o,es,ho,hex,D,I,B,z2⟩
  refine Á (K_ hm x1 ?_)
  refine Á (A_ ?_)
  have y2:=Ŀ ho
  have y1:S<s.heap.objs.size:=(by obtain⟨oS,c⟩:=H.there;exact Ŀ c)
  have W:=(Yf (knd:=cx.sk) (A:=A.in1) (by exact hA) s.heap.objs.size d (Ĝ y2) kvs ep).toS
  have W':WalksS cx.prog cx.w A.in1 s.heap.objs.size [s.heap.objs.size,d] [s.heap.objs.size] (λa b=>b=a) (kvs.map (·.1)).length (λi v=>∃k x,kvs[i]? = C (k,x)/\cx.sk.is k v=Í) (λi Y=>Y.heap.IsKeyIter s.heap.objs.size d i kvs.length ep/\Y.heap.DictAt cx.sk d kvs ep):=by
   simp only[length_map];exact W
  have y:ű=4096:=rfl
  have x7:∀i v,(∃k x,kvs[i]? = C (k,x)/\cx.sk.is k v=Í)->∃k t,(kvs.map (·.1))[i]? = C k/\v = .str k t:=λi v hv=>by
   rcases _:hv with⟨z,x,h1,r⟩
   obtain⟨t,ht⟩:=dy r
   exact⟨z,t,by rw[Ė,h1];rfl,ht⟩
  have u1:∀z∈kvs.map (·.1),z.length<=Ö:=λz z1=>by
   obtain⟨kv,À,rfl⟩:=ě.mp z1
   exact hz kv À
  have x9:S∉[s.heap.objs.size,d]:=by simp only[Ċ,Ķ,Ϸ,Zk];exact⟨Ĝ y1,x5.symm⟩
  have l:[k].length+(kvs.map (·.1)).length+1<ű:=by rw[length_map,y];exact É (á (Ø h3 _)) (show 1+3+1<4096 by decide)
  refine lx W' S x9 x7 u1 l _ 0 _ rfl (ï _) ⟨⟨_,ê _ rfl,rfl,rfl⟩,acv x1 λo e=>Ñ _ e⟩
   (H.at λo e=>Ñ _ e) λY L x8=>?_
  ·show Î cx.M A (pure ()) Q E Y
   obtain⟨h',g',d',u3,u2⟩:=Y
   have eg:g'=s.gens:=L.gens
   have ed:d'=s.drawn:=L.drawn
   have eo:u2=s.os:=L.os
   subst eg;subst ed;subst eo
   refine Å (h h' u3 (λb o hb e=>L.heap b o ?_ (Ñ _ e)) L.toks x8)
   simp only[Ċ,Ķ,Ϸ,Zk]
   exact⟨hb,Ĝ (Ŀ e)⟩
def N6 {g:G} {Z:aa} {l:Ó} {k:Ì} {ks:ZC} {a b:Ê} (i:Inv g Z s) (e:Z[l]? = C (.set ks)) (hz:ks.length+1<ű) (L:VR g (.loc l) a) (O:VR g (.str k) b) :
 Î cx.M A (call (.builtin "set.add") [a,b]) (PE g s (Z.set l (.set (aZ k ks))) .none) bj s:=by
 obtain⟨p,rfl,H⟩:=L
 (refine O _ ?_;rintro t rfl z)
 have D:ba s.heap p ks:=i.cells _ _ _ e H
 refine Ş acV D.of.typeIs F.entry_set_add ?_ (F.args_set_add_2 _ _)
 refine Á (Å (Á (xn D z hz λb h' I B=>?_)))
 show Î _ _ (ret Ă) _ _ _
 exact Å ⟨_,rfl,PE.set (o:=.set (aZ k ks)) i H B I .none_ _⟩
end
def cA:Slot "set_iterator" "__next__" "set_iterator.__next__":=
 .of (owner:="set_iterator") (n:="__next__") (by kernel_rfl) (by rfl) (by rfl) (by rfl)
  (by first|exact .inl (by rfl)|exact .inr (by decide +kernel)) (by kernel_rfl)
def fR:Slot "set_iterator" "__iter__" "set_iterator.__iter__":=
 .of (owner:="set_iterator") (n:="__iter__") (by kernel_rfl) (by rfl) (by rfl) (by rfl)
  (by first|exact .inl (by rfl)|exact .inr (by decide +kernel)) (by kernel_rfl)
def jW:bT XW "set_iterator.__next__" = C ř.«set_iterator.__next__»:=Ϲ (by kernel_rfl)
def lB (a:Ê):Xj "set_iterator.__next__" ⟨[a],[]⟩:=by unfold Xj;kernel_rfl
def lA (a:Ê):Xj "set_iterator.__iter__" ⟨[a],[]⟩:=by unfold Xj;kernel_rfl
def jV:bT XW "set_iterator.__iter__" = C ř.«dict_keyiterator.__iter__»:=
 Xl (id':="dict_keyiterator.__iter__") (by kernel_rfl) (by first|rfl|decide +kernel|(unfold abb;simp +decide [ZU])) (by decide +kernel) (by kernel_rfl)
def lE:bT XW "set.__iter__" = C ř.«frozenset.__iter__»:=
 Xl (id':="frozenset.__iter__") (by kernel_rfl) (by first|rfl|decide +kernel|(unfold abb;simp +decide [ZU])) (by decide +kernel) (by kernel_rfl)
section
variable {A:Ā} {E:Ê->Ç->Prop} {s:Ç}
def pg {src:Source} {n:Ó} {Q:Ó->Ç->Prop} (D:n≠0) (h:∀k d,k<n->Q k { s with drawn:=d }):Î M A (choose src n) Q E s:=λΓ p J=>
 ⟨D,h _ _ (aav _ (Nat.pos_of_ne_zero D))⟩
def mK {D:Type} (xs:È D) (i:Ó) (x:D) (h:xs[i]? = C x):(x::xs.eraseIdx i).Perm xs:=by
 induction xs generalizing i with
 | nil=>trivial
 | cons y ys G=>
  induction i with
  | zero=>simp at h;subst h;rfl
  | succ j=>
   simp at h
   exact(aet y x _).trans ((G j h).cons y)
theorem zI {H:Type}:∀(n:Ó) (xs:È H) {s:Ç} {Q:È H->Ç->Prop},xs.length=n->(∀ys d,ys.Perm xs->Q ys { s with drawn:=d })->Î M A (drawOrder n xs) Q E s
 | 0,xs,s,Q,hl,h=>by
  rw[Ō.mp hl]at h
  exact Å (h [] s.drawn (.refl _))
 | n+1,[],s,Q,hl,h=>by trivial
 | n+1,x::xs,s,Q,hl,h=>by
  refine Á (pg (by simp) λk d hk=>?_)
  obtain⟨y,G⟩:∃y,(x::xs)[k]? = C y:=⟨(x::xs)[k],æ hk⟩
  rw[G]
  have D:((x::xs).eraseIdx k).length=n:=by rw[ado,Û hk,hl];rfl
  refine Á (zI n _ D λys L O=>Å (h _ L ((O.cons y).trans (mK _ _ _ G))))
def Ew {L:Type} (next:Ó->Ó):∀(f k:Ó) (left:È L) (out:ÿ L),left.length=f->(Yk next f k left out).toList.Perm (out.toList++left):=by
 intro Q;induction Q with
 | zero=>
  exact @λk left out h=>by rw[Ō.mp h];dsimp only[Yk];simp
 | succ f O=>
  intro k left out h
  dsimp only[Yk]
  have D:0<left.length:=by simp +arith [*]
  obtain⟨y,H⟩:∃y,left[next k % left.length]? = C y:=⟨left[next k % left.length]'(aav _ D),æ _⟩
  rw[H]
  have G:(left.eraseIdx (next k % left.length)).length=f:=by rw[ado,Û (aav _ D)];simp +arith [*]
  refine(O (k+1) _ _ G).trans ?_
  simp only[ZW,ø]
  exact(aes _).append (by exact mK _ _ _ H)
end
noncomputable abbrev cK (f a:Ê) (i n ep:Ó):ϑ:={ cls:=.type "set_iterator",data:=.fields #[f,.int i 0,a,.int n 0,.int ep 0] }
section
variable {A:Ā} {E:Ê->Ç->Prop} {s:Ç} {I a:Ü} {B:ϑ} {es:ÿ (Į×Ê)} {ep:Ó} {t:Ś}
def jx {f x:Ê} {i n:Ó} {Q:Ê->Ç->Prop} (G:s.heap.get? I=C (cK f x i n ep)) (h:Q (.ref I) s):Î cx.M A (sz (.ref I)) Q E s:=by
 have D:s.TypeIs (.ref I) "set_iterator":=⟨_,G,rfl⟩
 refine acF D fR (Ş fR D jV ?_ (lA _))
 exact Å ⟨_,rfl,"set_iterator",_,D,cA.lookup,h⟩
def ix {f x:Ê} {i n:Ó} {k:Ó} {v:Ê} (h:ę) (D:h.get? I=C (cK f x i n ep)) :
 (h.update I (z_ (·.setIfInBounds k v))).get? I=C { cls:=.type "set_iterator",data:=.fields (#[f,.int i 0,x,.int n 0,.int ep 0].setIfInBounds k v) }:=œ _ D rfl
def QZ (A:Ā) (a:Ü) (B:ϑ) (ep:Ó) (ord:ZA) (D:Ó->Ó):Prop:=
 ∀i (s:Ç) (E:Ê->Ç->Prop) (Q:Æ (Ê×Ó)->Ç->Prop),i<=ord.length->s.heap.get? a=C B->Q ((ord[i]?).map λx=>(x,D (i+1))) s->Î cx.M A (setNext a (D i) i ep) Q E s
def fD {f:Ê} {i n:Ó} {Q:Æ Ê->Ç->Prop} (H:s.heap.get? I=C (cK f (.ref a) i n ep)) (O:s.heap.get? a=C B) (À:B.data = .set es ep t) (V:t.fits es.size=Í) (Y:n=es.size)
 (h:Î cx.M A.in1 (if let .int slot _:=f then(do
  match <-setNext a slot.toNat i ep with
  | some (x,next)=>
   Ym (.ref I) 0 (ŏ next)
   Ym (.ref I) 1 (ŏ ((i:Į)+1))
   ret x
  | none=>Ym (.ref I) 2 .none;Yl (<-Zh (.type "StopIteration") []):Ϛ Ē)
  else(do
   let C places <-adc f|unsupported "internal:set_iterator"
   match places[i]? with
   | some (.int place _)=>
    let x <-aaI a place.toNat ep
    Ym (.ref I) 1 (ŏ ((i:Į)+1))
    ret x
   | some _=>ϴ "internal:set_iterator"
   | none=>Ym (.ref I) 0 (ŏ 0);Ym (.ref I) 2 .none;Yl (<-Zh (.type "StopIteration") []))) (λD G=>∃r,D = .done (.ret r)/\Q (C r) G) (λe G=>Î cx.M A (do if(<-isInstance e (.type "StopIteration"))then pure U else throw e) Q E G) s) :
 Î cx.M A (Xo (.ref I)) Q E s:=by
 have L:s.TypeIs (.ref I) "set_iterator":=⟨_,H,rfl⟩
 refine Á (S_ (ϖ (name:=Ć "__next__") L cA
  (Ş cA L jW ?_ (lB _))))
 refine Á (m:=adX _ _ _) (Å ?_)
 refine Á (Zj H rfl ?_)
 refine Á (XP O À V ?_)
 rw[Ý (by rw[Y];simp)]
 exact Ô h ((by rintro D G ⟨r,e,q⟩;exact⟨r,e,Å q⟩)) λJ J x=>x
def rn {h₁:ę} {Q:Æ Ê->Ç->Prop} (L:A.handled=U) (H:∀h',(∀b o,h₁.get? b=C o->h'.get? b=C o)->Q U { s with heap:=h' }) :
 Î cx.M A.in1 (do Yl (<-Zh (.type "StopIteration") []):Ϛ Ē) (λD G=>∃r,D = .done (.ret r)/\Q (C r) G) (λe G=>Î cx.M A (do if(<-isInstance e (.type "StopIteration"))then pure U else throw e) Q E G) { s with heap:=h₁ }:=by
 refine Á ?_
 refine Á (į ?_ (by size_fits))
 refine Á (m:=h_ _ _) (ś (a:=Ă) (by first|rfl|(simp only[h_];rfl)) ?_)
 refine į ?_ (by size_fits)
 dsimp only[Yl]
 refine Á (ZS ?_)
 rw[show A.in1.handled=U from L]
 refine Á (Å (abC ?_))
 refine Á (Ŕ (T:="StopIteration") (b:=Í) ⟨_,ê _ rfl,rfl⟩ Zg ?_)
 exact Å (H _ λb o e=>Ñ _ (Ñ _ e))
def bN {h:ę} {k:Ó} {v:Ê} {b:Ü} {o:ϑ} (D:b≠I) (e:h.get? b=C o):(h.update I (z_ (·.setIfInBounds k v))).get? b=C o:=((Ĩ ..).2 b D).trans e
def IS {ord:ZA} {L:Ó->Ó} (j:A.handled=U) (H:a≠I) (À:B.data = .set es ep t) (V:t.fits es.size=Í) (acT:ord.length=es.size) (N:QZ A.in1 a B ep ord L) :
 Walks cx.prog cx.w A I [I,a] [I] ord.length (λi v=>ord[i]? = C v) (λi h=>h.get? I=C (cK (.int (L i) 0) (.ref a) i ord.length ep)/\h.get? a=C B) where
 sub:=λb D=>by simp at D;simp[D]
 frame:=λJ J J st hk=>⟨hk I (by simp) _ st.1,hk a (by simp) _ st.2⟩
 item:=λi s Q E Y st G=>by
  refine fD st.1 st.2 À V acT ?_
  obtain⟨x,g⟩:∃x,ord[i]? = C x:=⟨ord[i],æ Y⟩
  refine Á (N i s _ _ (ð Y) st.2 ?_)
  rw[g]
  refine Á (γ st.1 rfl (by simp) ?_)
  have O:=ix (k:=0) (v:=ŏ (L (i+1))) s.heap st.1
  refine Á (γ O rfl (by simp) ?_)
  refine Å ⟨_,rfl,?_⟩
  refine G x _ s.toks g ⟨?_,bN H (bN H st.2)⟩ λb o D e=>bN (by simpa using D) (bN (by simpa using D) e)
  rw[œ _ O rfl]
  rfl
 done:=λs Q E st G=>by
  refine fD st.1 st.2 À V acT ?_
  refine Á (N ord.length s _ _ (Ë _) st.2 ?_)
  rw[Ū (Ë _)]
  refine Á (γ st.1 rfl (by simp) ?_)
  exact rn (s:=s) j λh' k=>G h' s.toks λb o D e=>k b o (bN (by simpa using D) e)
 self:=λi s Q E st G=>jx st.1 G
def y9 {pl:È Ó} {L:Ü} {m:Ó} (l:A.handled=U) (acT:a≠I) (N:L≠I) (O:B.data = .set es ep t) (À:t.fits es.size=Í) (g:pl.length=es.size) (y:∀j∈pl,j<es.size) :
 Walks cx.prog cx.w A I [I,a,L] [I] pl.length (λi v=>∃j e,pl[i]? = C j/\es[j]? = C e/\v=e.2) (λi h=>h.get? I=C (cK (.ref L) (.ref a) i pl.length ep)/\h.get? a=C B/\h.get? L=C { cls:=.type "tuple",data:=.seq (pl.map λ(i:Ó)=>ŏ i).toArray m }) where
 sub:=λb D=>by simp at D;simp[D]
 frame:=λJ J J st hk=>⟨hk I (by simp) _ st.1,hk a (by simp) _ st.2.1,hk L (by simp) _ st.2.2⟩
 item:=λi s Q E q st G=>by
  refine fD st.1 st.2.1 O À g ?_
  obtain⟨j,V⟩:∃x,pl[i]? = C x:=⟨pl[i],æ q⟩
  have Y:=y j (Ĉ V)
  have H:es[j]? = C es[j]:=Υ Y
  refine Á (j3 st.2.2 rfl ?_)
  dsimp only
  rw[Ŷ,Ė,V]
  show Î _ _ (aaI a (Int.toNat (j:Į)) ep >>= _) _ _ _
  simp only[u_]
  delta aaI
  refine Á (Á (ŗ st.2.1 O À ?_))
  simp only[Ε,ĭ,δ]
  rw[H]
  dsimp only
  refine Å ?_
  refine Á (γ st.1 rfl (by simp) ?_)
  refine Å ⟨_,rfl,?_⟩
  refine G _ _ s.toks ⟨j,_,V,H,rfl⟩ ⟨?_,bN acT st.2.1,bN N st.2.2⟩ λb o D e=>bN (by simpa using D) e
  rw[ix s.heap st.1]
  rfl
 done:=λs Q E st G=>by
  refine fD st.1 st.2.1 O À g ?_
  refine Á (j3 st.2.2 rfl ?_)
  dsimp only
  rw[Ŷ,Ė,Ū (Ë _)]
  refine Á (γ st.1 rfl (by simp) ?_)
  refine Á (γ (ix (k:=0) (v:=ŏ 0) s.heap st.1) rfl (by simp) ?_)
  exact rn (s:=s) l λh' k=>G h' s.toks λb o D e=>k b o (bN (by simpa using D) (bN (by simpa using D) e))
 self:=λi s Q E st G=>jx st.1 G
end
def MN (G:Prop) (src:È Ü) (s:Ç) (n:Ó) (R:È Ê->Prop) (I:Ü) (h:ę):Prop:=∀(B:È Ü) (P:Ó->Ê->Prop) (St:Ó->ę->Prop) (ord:ZA) (W:∀A:Ā,A.handled=U->Walks cx.prog cx.w A I B [I] n P St) (st:St 0 h) (f:∀b∈B,s.heap.get? b=U\/b∈src) (m:I∈B) (r:R ord) (l:ord.length=n) (o:∀i v,P i v->ord[i]? = C v) (D:Ü) (q:∀b∈B,b=I\/b∈src\/b=D) (tq:D=I\/(s.heap.get? D=U/\∃o,h.get? D=C o)) (ti:∀i h,St i h->∃o,h.get? I=C o/\o.cls = .type "set_iterator"),G
def QP:=λsrc s n R I h=>∀B,MN B src s n R I h->B
def QP.mk:MN (QP src s n R I h) src s n R I h:=λD P St ord W st f m r l o H q L G J B=>B D P St ord W st f m r l o H q L G
structure uK (src:È Ü) (s:Ç) (n:Ó) (R:È Ê->Prop) (I:Ü) (s':Ç):Prop where
 keep:∀b o,s.heap.get? b=C o->s'.heap.get? b=C o
 new:s.heap.get? I=U
 toks:s.toks<=s'.toks
 gens:s'.gens=s.gens
 os:s'.os=s.os
 walk:QP src s n R I s'.heap
def yz:∀{xs l:ZC},xs.Nodup->(∀x∈xs,x∈l)->l.length=xs.length->xs.Perm l:=by
 intro À;induction À with
 | nil=>
  exact @λl J J h=>by rw[Ō.mp h]
 | cons x xs Q=>
  intro l B H h
  rw[ϊ]at B
  have O:x∈l:=H x (by simp)
  have G:=perm_cons_erase O
  have L:(l.erase x).length=xs.length:=by have:=G.length_eq;simp at this h;simp +arith [*]
  refine((Q B.2 (λy I=>?_) L).cons x).trans G.symm
  have D:y≠x:=λe=>B.1 (e▸I)
  exact(mem_erase_of_ne D).mpr (H y (by simp[I]))
def pa:∀{es:È (Į×Ê)},aay cx.sk es->∃ts:È Ì,Ů (es.map (·.2)) ts/\∀k,k∈ts↔∃e∈es,cx.sk.is k e.2=Í:=by
 intro O;induction O with
 | nil=>
  exact @λJ=>⟨[],.nil,λk=>by simp⟩
 | cons e es L=>
  intro h
  obtain⟨ts,G,H⟩:=L h.tail
  obtain⟨⟨k,hk,_⟩,_⟩:=h.head
  obtain⟨t,I⟩:=dy hk
  refine⟨k::ts,by rw[Ī,I];exact .cons _ _ G,λk'=>?_⟩
  rw[Ċ,H]
  constructor
  ·rintro(rfl|⟨D,B,q⟩)
   ·exact⟨e,by simp,hk⟩
   ·exact⟨D,by simp[B],q⟩
  ·rintro⟨D,B,q⟩
   rcases Ċ.mp B with rfl|B
   ·exact .inl (cx.sk.inj _ _ _ q hk)
   ·exact .inr ⟨D,B,q⟩
def uq {us vs:ZA} {ts:ZC} (À:vs.Perm us) (h:Ů us ts):∃B,Ů vs B/\B.Perm ts:=by
 induction À generalizing ts with
 | nil=>cases h;exact⟨[],.nil,.refl _⟩
 | cons x À E=>
  cases h with
  | cons y t H=>obtain⟨B,D,G⟩:=E H;exact⟨y::B,.cons _ _ D,G.cons y⟩
 | swap x y l=>
  cases h with
  | cons a t H=>cases H with
   | cons b t' I=>exact⟨b::a::_,.cons _ _ (.cons _ _ I),.swap _ _ _⟩
 | trans _ _ L O=>
  obtain⟨ts2,D,G⟩:=O h
  obtain⟨Q,V,Y⟩:=L D
  exact⟨Q,V,Y.trans G⟩
def uP (B:Prop) (ks:ZC) (vs:ZA):Prop:=∀(p:ZC) (h:p.Perm ks) (r:Ů vs p),B
def jO:=λks vs=>∀B,uP B ks vs->B
def jO.mk:uP (jO ks vs) ks vs:=λp h r J B=>B p h r
def il.ord {ks:ZC} {o:ϑ} {es:ÿ (Į×Ê)} {ep:Ó} {t:Ś} (x:il ks o) (V:o.data = .set es ep t) {vs:ZA} (E:vs.Perm (es.toList.map (·.2))):jO ks vs:=by
 refine x _ λes' ep' t' J D Q H J J Y À J J=>?_
 rw[V]at D;cases D
 obtain⟨acT,B,I⟩:=pa Q
 obtain⟨ts,L,O⟩:=uq E B
 have G:acT.length=es.size:=by have:=B.length;rw[length_map,Č]at this;exact this.symm
 exact(.mk ts (O.trans (yz À (λx A=>(I x).mpr ((H x).mp (Ú.mpr A))) (by rw[G,Y])).symm) L)
def uK.imp {src:È Ü} {s D:Ç} {n:Ó} {R B:È Ê->Prop} {I:Ü} (h:uK src s n R I D) (k:∀vs,R vs->B vs):uK src s n B I D:=
 ⟨h.keep,h.new,h.toks,h.gens,h.os,(by refine h.walk _ λG P St ord W st f m r l o L q O H=>?_;exact(.mk G P St ord W st f m (k _ r) l o L q O H))⟩
section
def Hb {ord vs:ZA} (h:ItemsOf (λi v=>ord[i]? = C v) vs.toArray ord.length):vs=ord:=by
 obtain⟨B,D⟩:=h
 rw[Đ]at B
 refine X9 λi=>?_
 by_cases hi:i<vs.length
 ·have:=D i vs[i] (by simp only[Ŷ,æ hi])
  simp only[æ hi,this]
 ·rw[Ū (by exact ņ ‹_›),Ū (by(simp_all +arith))]
set_option tactic.hygienic true in def vP {ks:ZC} {Q:Ê->Ç->Prop} (ho:s.heap.get? a=C oS) (hs:il ks oS)
 (h:∀I H,uK [a] s ks.length (jO ks) I H->H.TypeIs (.ref I) "set_iterator"->Q (.ref I) H):Î cx.M A (sz (.ref a)) Q E s:=by
 have hx:=hs
 (refine hs _ ?_;rintro es ep t hex Y hel hmem G O hn _ _ ⟨x3,acT,_,_⟩)
 have h:∀I H,uK [a] s es.size (λvs=>vs.Perm (es.toList.map (·.2))) I H->H.TypeIs (.ref I) "set_iterator"->Q (.ref I) H:=λI H k=>h I H (by rw[<-hn];exact k.imp λvs q=>hx.ord Y q)
 have hT:s.TypeIs (.ref a) "set":=⟨_,ho,hex.1⟩
 have x1:=Ŀ ho
 have l:∀{b:Ü},s.heap.objs.size<=b->s.heap.get? b=U:=λ{b} G=>by
  generalize q:s.heap.get? b=zzy
  induction zzy with
  | none=>rfl
  | some o=>exact absurd (Ŀ q) (ų.mpr G)
 refine acF hT act (Ş act hT lE ?_ (F.args_set_iter_1 _))
 refine Á ?_
 refine Á (m:=adX _ _ _) (Å ?_)
 refine Å ?_
 refine Á ?_
 refine Á (XP ho Y O (Å ?_))
 refine Á ?_
 refine Á (ŗ ho Y O ?_)
 dsimp only
 refine Á (Á (ź (Å (Å ?_))))
 have À:∀(first:Ê) (s₁:Ç),(∀b o,s.heap.get? b=C o->s₁.heap.get? b=C o)->s₁.toks=s.toks->s₁.gens=s.gens->s₁.os=s.os->
  (∀h',(∀b o,s₁.heap.get? b=C o->h'.get? b=C o)->h'.get? s₁.heap.objs.size=C (cK first (.ref a) 0 es.size ep)->QP [a] s es.size (λvs=>vs.Perm (es.toList.map (·.2))) s₁.heap.objs.size h')->
  Î cx.M A.in1 (do
   let __do_lift <-setEpoch a
   let __do_lift <-newFields "set_iterator" [first,ŏ 0,Ż a,ŏ ↑es.size,ŏ ↑__do_lift]
   ret __do_lift) (λÀ H=>∃v,À = .done (.ret v)/\∃T' r,H.TypeIs v T'/\ύ (.type T') (Ć "__next__")=pure (C r)/\Q v H) E s₁:=by
  intro first s₁ k1 k2 k3 k4 hw
  refine Á (wpAny_setEpoch_of (k1 _ _ ho) Y O ?_)
  refine Á (į ?_ (by size_fits))
  have hk:∀b o,s₁.heap.get? b=C o->(s₁.heap.push (cK first (.ref a) 0 es.size ep)).get? b=C o:=λb o e=>Ñ _ e
  have y:(s₁.heap.push (cK first (.ref a) 0 es.size ep)).get? s₁.heap.objs.size=C (cK first (.ref a) 0 es.size ep):=ê _ rfl
  refine Å ⟨_,rfl,"set_iterator",_,⟨_,y,rfl⟩,cA.lookup,?_⟩
  have x5:s.heap.get? s₁.heap.objs.size=U:=by
   cases q:s.heap.get? s₁.heap.objs.size with
   | none=>rfl
   | some o=>exact absurd (Ŀ (k1 _ _ q)) (Ő _)
  refine h _ _ ⟨λb o e=>hk b o (k1 b o e),x5,ó k2.symm,k3,k4,hw _ hk y⟩ ⟨_,y,rfl⟩
 split
 ·rename_i hc
  have hc':cx.w.params.followText "set-order" = Ï/\((!t.plain&&decide (es.size > 1))=Í):=by
   simp only[ú]at hc
   exact⟨by have:=hc.1;simp only[Ϟ]at this;exact this,hc.2⟩
  refine Á (zI _ _ (by simp) λys d hp=>?_)
  refine Á ?_
  have B:ys.length=es.size:=by have:=hp.length_eq;simpa using this
  have hz:(abE (λ(i:Ó)=>ŏ ↑i) ys).length<=Ö:=by
   simp only[length_map,B];exact i_ G
  refine Xr ?_ hz
  refine À _ _ (λb o e=>Ñ _ e) rfl rfl rfl λh' k y=>?_
  have x6:h'.get? s.heap.objs.size=C { cls:=.type "tuple",data:=.seq (ys.map λ(i:Ó)=>ŏ i).toArray 0 }:=k _ _ (ê _ rfl)
  have z:h'.get? a=C oS:=k _ _ (Ñ _ ho)
  have hsz:(s.heap.push { cls:=.type "tuple",data:=.seq (ys.map λ(i:Ó)=>ŏ i).toArray 0 }).objs.size=s.heap.objs.size+1:=e8 ..
  have y2:∀j∈ys,j<es.size:=λj hj=>by have:=hp.mem_iff.mp hj;simpa using this
  have x7:(s.heap.push { cls:=.type "tuple",data:=.seq (ys.map λ(i:Ó)=>ŏ i).toArray 0 }).objs.size≠a:=by rw[hsz];exact(Ĝ (Ŭ x1)).symm
  have x8:(s.heap.push { cls:=.type "tuple",data:=.seq (ys.map λ(i:Ó)=>ŏ i).toArray 0 }).objs.size≠s.heap.objs.size:=by rw[hsz];exact(Ĝ (Ň _)).symm
  have W:=λ(A:Ā) (hA:A.handled=U)=>y9 (A:=A) (pl:=ys) (m:=0) hA x7.symm x8.symm Y O B y2
  rw[B]at W
  refine(.mk _ _ _ (ys.map λj=>((es[j]?).map (·.2)).getD .none) W ⟨y,z,x6⟩ (λb G=>?_) (by simp) ?_ (by rw[length_map];exact B) (λi v hv=>?_) s.heap.objs.size (λb G=>?_) (.inr ⟨af s,_,x6⟩) (λJ J st=>⟨_,st.1,rfl⟩))
  ·simp only[Ċ,Ķ,Ϸ]at G
   rcases G with rfl|rfl|rfl
   ·exact .inl (l (by simp only[hsz];exact ö _))
   ·exact .inr (by simp)
   ·exact .inl (l (Ë _))
  ·show(ys.map λj=>((es[j]?).map (·.2)).getD .none).Perm _
   refine(hp.map _).trans (Zm ?_)
   refine X9 λi=>?_
   simp only[Ė,Ė]
   by_cases hi:i<es.size
   ·rw[Y0 hi];simp[hi]
   ·rw[Ū (by simpa using ņ hi),Ū (by simpa using ņ hi)];rfl
  ·obtain⟨j,e,q1,q2,rfl⟩:=hv
   simp only[Ė,q1,Option.map_some,q2];rfl
  ·simp only[Ċ,Ķ,Ϸ]at G
   rcases G with rfl|rfl|rfl
   ·exact .inl rfl
   ·exact .inr (.inl (by simp))
   ·exact .inr (.inr rfl)
 ·rename_i hc
  refine Á (Å ?_)
  refine À _ _ (λb o e=>e) rfl rfl rfl λh' k y=>?_
  have z:h'.get? a=C oS:=k _ _ ho
  have y1:a≠s.heap.objs.size:=Ĝ x1
  have L:∀(ord:ZA) (sl:Ó->Ó),ord.length=es.size->sl 0=0->ord.Perm (es.toList.map (·.2))->(∀A,QZ A a oS ep ord sl)->
   QP [a] s es.size (λvs=>vs.Perm (es.toList.map (·.2))) s.heap.objs.size h':=by
   intro ord sl B h0 x0 N
   have W:=λ(A:Ā) (hA:A.handled=U)=>IS (A:=A) (I:=s.heap.objs.size) hA y1 Y O B (N A.in1)
   rw[B]at W
   refine(.mk _ _ _ ord W ⟨by rw[h0];exact y,z⟩ (λb G=>?_) (by simp) x0 B (λi v hv=>hv) s.heap.objs.size (λb G=>?_) (.inl rfl) (λJ J st=>⟨_,st.1,rfl⟩))<;>simp only[Ċ,Ķ,Ϸ]at G<;>rcases G with rfl|rfl
   ·exact .inl (l (Ë _))
   ·exact .inr (by simp)
   ·exact .inl rfl
   ·exact .inr (.inl (by simp))
  generalize c:cx.w.params.followText "set-order" = zzy
  induction zzy with
  | true=>
   have D:(Ϧ cx.prog cx.w).w.params.followText "set-order" = Í:=c
   have hp:=Ew (cx.w.params.setOrder a ep) es.size 0 es.toList #[] (by dsimp)
   refine L ((adb (cx.w.params.setOrder a ep) es).toList.map (·.2)) (λJ=>0) ?_ rfl ?_ λA i s₁ E Q hi V g=>?_
   ·have:=hp.length_eq
    simp at this
    simp only[length_map,Č]
    exact this
   ·exact(by unfold adb;simpa using hp:(adb (cx.w.params.setOrder a ep) es).toList.Perm es.toList).map _
   ·skip
    refine Á (ŗ V Y O ?_)
    refine Á (Á (ź (Å ?_)))
    rw[Û D]
    simp only[Ε,ĭ,δ]
    refine Á (Á (ŗ V Y O ?_))
    refine Á (Á (ź (Å ?_)))
    rw[Û D]
    refine Á (ź (Å (Å ?_)))
    simp only[Ė,Š]at g
    rw[Option.map_map]at g
    exact g
  | false=>
   have D:(Ϧ cx.prog cx.w).w.params.followText "set-order" = Ï:=c
   have x4:¬ ((!t.plain&&decide (es.size > 1))=Í):=λq=>hc (by simp only[ú];exact⟨by simp[D],q⟩)
   have hsz:es.size<=1:=by
    rcases O_ 1 es.size with h|h
    ·exact absurd (by rw[acT (by exact ð ‹_›)];simp[h]) x4
    ·exact h
   have y3:t.place.size=es.size:=by simp only[q_,ú,ĕ]at O;exact O.1
   refine L (es.toList.map (·.2)) (λi=>if i=0 then 0 else t.place.getD 0 0+1) (by simp) rfl (.refl _) λA i s₁ E Q hi V g=>?_
   refine Á (ŗ V Y O ?_)
   refine Á (Á (ź (Å ?_)))
   rw[Ý (by rw[D];exact ß)]
   refine ĸ (λq=>absurd q x4) λJ=>?_
   refine Á ?_
   show Î _ _ (if(!t.led&&!es.isEmpty)=Í then ϴ _ else pure ()) _ _ _
   rw[Ý (by rw[x3 c];simp)]
   refine Å (Å ?_)
   rcases aau es.size with h0|h1
   ·have e0:es = #[]:=YJ.mp h0
    subst e0
    exact g
   ·have h1:es.size=1:=by exact ţ ‹_› ‹_›
    obtain⟨e0,he⟩:=L_.mp h1
    obtain⟨j,hj⟩:=L_.mp (y3.trans h1)
    subst he
    rw[hj]at g ⊢
    rcases _:aau i with x9|x2
    ·subst x9
     exact g
    ·have x2:i=1:=by exact ţ ‹_› ‹_›
     subst x2
     rw[pC]
     simpa using g
end
structure Kept (s s':Ç):Prop where
 heap:∀b o,s.heap.get? b=C o->s'.heap.get? b=C o
 toks:s.toks<=s'.toks
 gens:s'.gens=s.gens
 os:s'.os=s.os
def Kept.refl (s:Ç):Kept s s:=⟨λJ J e=>e,Ë _,rfl,rfl⟩
def Kept.trans {s D B:Ç} (a:Kept s D) (b:Kept D B):Kept s B:=⟨λx o e=>b.heap x o (a.heap x o e),Â a.toks b.toks,b.gens.trans a.gens,b.os.trans a.os⟩
def uK.kept {src:È Ü} {s B:Ç} {n:Ó} {R:È Ê->Prop} {I:Ü} (h:uK src s n R I B):Kept s B:=⟨h.keep,h.toks,h.gens,h.os⟩
section
def Kept.stp {g:G} {s B:Ç} (k:Kept s B) {own:È Ü}:bt own g s g B:=⟨.refl g,k.toks,λb o e J J=>k.heap b o e,λJ J J h=>h,λJ J J h=>h,λb o e=>⟨o,k.heap b o e⟩,λJ J e=>k.gens▸e,k.os⟩
def Kept.inv {g:G} {Z:aa} {s B:Ç} (k:Kept s B) (h:Inv g Z s):Inv g Z B:=
 ⟨λa o e=>k.heap _ _ (h.sub a o e),h.base,h.len,h.nodup,h.apart,λl o a e q=>(h.cells l o a e q).mono (.refl g) λJ e=>k.heap _ _ e,Â h.one k.toks,k.gens▸h.bare,h.H⟩
def bt.fresh {g B:G} {s D:Ç} {own:È Ü} (a:bt own g s B D) (h:∀b∈own,s.heap.get? b=U):bt [] g s B D:=
 ⟨a.le,a.toks,λb o e p J=>a.keep b o e p λq=>(by rw[h b q]at e;contradiction),a.new,a.newI,a.stay,a.gens,a.os⟩
def oi {vs:ZA} {ts:ZC} (h:Ů vs ts):∀(i:Ó) (v:Ê),vs[i]? = C v->∃k t,ts[i]? = C k/\v=e9 k t:=by
 induction h with
 | nil=>intro i v e;simp at e
 | cons y t h B=>
  intro i v e
  induction i with
  | zero=>simp at e;exact⟨y,t,rfl,e.symm⟩
  | succ j=>simp at e;exact B j v e
def xr {T:Λ} {src:È Ü} {n:Ó} {R:È Ê->Prop} {Q:È Ê->Ç->Prop} (hA:A.handled=U) (hT:s.TypeIs (.ref a) T) (h1:(W2 T==W2 "list")=Ï) (h2:(W2 T==W2 "tuple")=Ï) (hn:n<=Ö) (w:∀b∈src,∃o,s.heap.get? b=C o)
 (iter:∀(A:Ā) (s₁:Ç) (Q:Ê->Ç->Prop),A.handled=U->Kept s s₁->(∀I B,uK src s₁ n R I B->Q (.ref I) B)->Î cx.M A (sz (.ref a)) Q bj s₁)
 (hint:∀(A:Ā) (s₁:Ç) (Q:ì->Ç->Prop),A.handled=U->Kept s s₁->(∀b B,Kept s₁ B->Q b B)->Î cx.M A (W0 (.ref a)) Q bj s₁)
 (h:∀vs B,R vs->vs.length=n->Kept s B->Q vs B):Î cx.M A (Xz (.ref a)) Q bj s:=by
 rcases _:hT with⟨oa,l,x4⟩
 have x2:=Ŀ l
 refine Á (A_ (ģ F.entry_proto_collect ?_))
 dsimp only[ϡ F.plain_proto_collect _]
 refine Á (į ?_)
 refine Å ⟨plainId_quiet abK _,ģ F.entry_list_iadd ?_⟩
 dsimp only[ϡ abK _]
 have O:(s.heap.push { cls:=.type "list",data:=.seq ([]:ZA).toArray }).get? s.heap.objs.size=C { cls:=.type "list",data:=.seq ([]:ZA).toArray }:=ê _ rfl
 have x5:s.heap.objs.size≠a:=Θ x2
 have x6:Xv (.ref s.heap.objs.size) (.ref a)=Ï:=by simp[Xv,x5]
 have m:Kept s { s with heap:=s.heap.push { cls:=.type "list",data:=.seq ([]:ZA).toArray } }:=⟨λb o e=>Ñ _ e,Ë _,rfl,rfl⟩
 show Î _ A.in1 (adx (.ref s.heap.objs.size) (.ref a) (.ref s.heap.objs.size)) _ _ _
 refine Á (Τ (T:=T) ⟨oa,m.heap _ _ l,x4⟩ ?_)
 rw[Ý (by simp only[x6,h1,h2];trivial)]
 have L:A.in1.handled=U:=by exact hA
 refine Á (Ô (iter A.in1 _ _ L m λI s₂ Y=>?_) (λJ J x=>x) λJ J x=>x.elim)
 have hI:s.heap.objs.size≠I:=λe=>by simp only[<-e,]at Y;rw[Y.new]at O;contradiction
 refine Á (ä (Ô (hint A.in1 s₂ _ L (m.trans Y.kept) λroom G k3=>?_) (λJ J x=>x) λJ J x=>x.elim))
 (refine Y.walk _ λfp P St ord w1 w2 w3 w4 w5 w6 w7 J J J J=>?_)
 have N:s.heap.objs.size∉fp:=λE=>by
  rcases _:w3 _ E with q|q
  ·rw[O]at q;contradiction
  ·obtain⟨o,ho⟩:=w _ q
   exact absurd (Ŀ ho) (Ő _)
 have W:=(w1 A.in1 L).toS
 have À:G.heap.get? s.heap.objs.size=C { cls:=.type "list",data:=.seq #[] }:=k3.heap _ _ (Y.kept.heap _ _ O)
 have d:St 0 G.heap:=(w1 A hA).frame 0 s₂.heap G.heap w2 λb J o e=>k3.heap b o e
 have kk:Kept s G:=(m.trans Y.kept).trans k3
 have x7:s.heap.get? s.heap.objs.size=U:=af s
 have t:∀(H:ę) (c:Ó),(∀b o,b≠s.heap.objs.size->G.heap.get? b=C o->H.get? b=C o)->H.get? s.heap.objs.size=C { cls:=.type "list",data:=.seq #[] c }->
  Ž cx.M A (.builtin "list.extend.loop" ⟨[.ref s.heap.objs.size,.ref I,.ref s.heap.objs.size],[]⟩) (λr B=>match r with
   | .ok (.ret v)=>Î cx.M A (match v with
    | .ref a=>do
     let o <-load a
     match o.data with
     | .seq xs _=>pure xs.toList
     | _=>ϴ "internal:collect"
    | _=>ϴ "internal:collect") Q bj B
   | .ok _=>False
   | .error e=>bj e B) { G with heap:=H }:=by
  intro H c g x1
  refine codeAny_extend_loopS W hn s.heap.objs.size N _ n 0 _ _ _ rfl (ï _) ((w1 A hA).frame 0 G.heap H d λb V o e=>g b o (λz=>N (z▸V)) e) x1 (ItemsOf.nil P) λB acT c' E x0 D=>?_
  refine Á (X3 x0 ?_)
  refine Å (h _ _ (by rw[show acT.toList=ord from Hb (by rw[w6];exact⟨D.1,λj v q=>w7 j v (D.2 j v q)⟩)];exact w5) (by exact D.1) ⟨λb o e=>?_,?_,?_,?_⟩)
  ·have V:b≠s.heap.objs.size:=λz=>by rw[z,x7]at e;contradiction
   have x3:b≠I:=λz=>by rw[z]at e;have:=m.heap _ _ e;rw[Y.new]at this;contradiction
   exact E.heap b o (by simp only[Ċ,Ķ,Ϸ,Zk];exact⟨V,x3⟩) (g b o V (kk.heap b o e))
  ·exact Â kk.toks E.toks
  ·exact(E.gens:B.gens=_).trans kk.gens
  ·exact E.os.trans kk.os
 have lp:∀(H:ę) (c:Ó),(∀b o,b≠s.heap.objs.size->G.heap.get? b=C o->H.get? b=C o)->H.get? s.heap.objs.size=C { cls:=.type "list",data:=.seq #[] c }->_:=λH c x y=>aee (plainId_quiet F.plain_extend_loop ⟨[.ref s.heap.objs.size,.ref I,.ref s.heap.objs.size],[]⟩) (t H c x y)
 dsimp only
 refine ĸ (λJ=>?_) λJ=>?_
 ·refine Á (Ŝ (Á ?_))
  (refine Ř λi=>?_;obtain⟨e1,g1⟩:∃e1,(G.heap.update s.heap.objs.size (Ğ (·.push .none))).get? s.heap.objs.size=C { cls:=.type "list",data:=.seq #[.none] e1 }:=⟨_,Ι À (·.push .none)⟩<;>(refine i ?_;clear i))
  refine Á (ϋ À rfl ?_ (ï _) (by trivial))
  obtain⟨e2,g2⟩:∃e2,((G.heap.update s.heap.objs.size (Ğ (·.push .none))).update s.heap.objs.size (Ğ (·.pop))).get? s.heap.objs.size=C { cls:=.type "list",data:=.seq #[] e2 }:=⟨_,Ι g1 (·.pop)⟩
  refine ϋ g1 rfl ?_ (by trivial) (by trivial)
  refine Å (lp _ e2 (λb o V e=>?_) g2)
  rw[zh _ _ _ _ V,zh _ _ _ _ V];exact e
 ·exact Å (lp G.heap _ (λb o J e=>e) À)
end
section
def Lb {T id:Λ} {Q:ì->Ç->Prop} (D:s.TypeIs (.ref a) T) (H:ύ (.type T) "__len__" = pure (C (.builtin id))) (I:splitId id=C (T,"__len__")) (B:ξ (.type T) (.type T)=pure Í)
 (G:id = "set.__len__"\/id = "dict_items.__len__"\/id = "dict.__len__") (h:Q Ï s):Î cx.M A (W0 (.ref a)) Q E s:=by
 refine Á (c_ D H ?_)
 dsimp only
 rw[I]
 refine Á (Ŕ D B ?_)
 rw[Ý (by trivial)]
 refine ĸ (λJ=>?_) λq=>?_
 ·refine Á (Τ D ?_)
  exact Å h
 ·exfalso
  refine q ?_
  rcases G with rfl|rfl|rfl<;>rfl
def k9 {ks:ZC} {Q:È Ê->Ç->Prop} (hA:A.handled=U) (D:s.heap.get? a=C oS) (H:il ks oS) (h:∀vs B,jO ks vs->Kept s B->Q vs B):Î cx.M A (Xz (.ref a)) Q bj s:=by
 have O:oS.cls = .type "set":=H.obj.1.1
 refine xr (src:=[a]) (n:=ks.length) (R:=jO ks) hA ⟨_,D,O⟩ (by rfl) (by rfl) (i_ H.lt) (λb L=>by simp at L;subst L;exact⟨_,D⟩)
  (λA s₁ Q hA k G=>vP (k.heap _ _ D) H λI B À J=>G I B À) (λA s₁ Q hA k G=>?_) λvs B V J k=>h vs B V k
 exact Lb (T:="set") ⟨_,k.heap _ _ D,O⟩ F.slot_set_len.lookup (by rfl) dY (.inl rfl) (G _ _ (.refl _))
end
section
noncomputable abbrev aU (led:ì):ϑ:={ cls:=.type "set",dict:=U,data:=.set #[] 0 (.fresh 0 0 led) }
def jS (a:Ê) {Q₁:Ê->Ç->Prop}
 (h:∀led:ì,(cx.w.params.followText "set-order" = Ï->led=Í)->Q₁ (.ref s.heap.objs.size) { s with heap:=s.heap.push (aU led) }) :
 Ž cx.M A (.call (.builtin "set.__new__") ⟨[.type "set",a],[]⟩) (wants Q₁ E) s:=by
 refine ν ?_
 show Î _ A.in1 (do acX "set.__new__" ⟨[.type "set",a],[]⟩;Zd (.builtin "set.__new__" ⟨[.type "set",a],[]⟩)) _ _ s
 refine Á (ś (F.newCall_set_1 a) (Å ⟨plainId_quiet Yy _,ģ acq ?_⟩))
 unfold ř.«set.__new__» WB
 have hsub:=sub_set_self
 obtain⟨hp,g,d,tk,os⟩:=s
 generalize B:newSet=NS
 wp_walk
 subst B
 refine gT λled D=>?_
 exact Å (h led D)
def mA {x:Ê} {Q:Ê->Ç->Prop}
 (h:∀(O:Ā) (led:ì),O.handled=A.handled->(cx.w.params.followText "set-order" = Ï->led=Í)->
  Î cx.M O (Ω "set.__init__" s.heap.objs.size x) (λJ s₂=>Q (.ref s.heap.objs.size) s₂/\s₂.TypeIs (.ref s.heap.objs.size) "set") E { s with heap:=s.heap.push (aU led) }) :
 Î cx.M A (call (.type "set") [x]) Q E s:=by
 obtain⟨c,tl,hmro⟩:=F.called_set.mro
 have hmade:=F.called_set.made
 have hsub:=F.called_set.sub
 refine ϵ (ν ?_)
 show Î _ _ (YV (.type "set") _) _ _ _
 refine Å ⟨aae _ (by decide +kernel),ģ abI ?_⟩
 rw[Zt (aaY "set" [x] []) rfl]
 have h1:=F.called_set.notType
 have h2:=F.called_set.canCreate
 have hct:=F.typeCall_set_1 x
 repeat (any_goals (first|assumption|wp_step))
 refine φ (jS x (E:=E) (Q₁:=λG s₁=>∃led:ì,(cx.w.params.followText "set-order" = Ï->led=Í)/\G = .ref s.heap.objs.size/\s₁={ s with heap:=s.heap.push (aU led) }) λled acT=>⟨led,acT,rfl,rfl⟩) λr s₁ L=>?_
 cases r with
 | error e=>exact L
 | ok À=>
  induction À with
  | ret G=>
   obtain⟨led,D,rfl,rfl⟩:=L
   have V:(s.heap.push (aU led)).get? s.heap.objs.size=C (aU led):=ê _ rfl
   have Y:ϫ { s with heap:=s.heap.push (aU led) } (.ref s.heap.objs.size) "set":=⟨_,V,rfl⟩
   have hli:=F.called_set.init.lookup
   have hbi:=F.called_set.init.bind (.ref s.heap.objs.size)
   repeat (any_goals (first|assumption|wp_step))
   refine φ (υ (R:=wants (λr s₂=>r = .none/\Q (.ref s.heap.objs.size) s₂/\s₂.TypeIs (.ref s.heap.objs.size) "set") E) F.called_set.init.plain acb (check_set_init_1 Y ?_)) λN s₂ B=>?_
   ·delta ř.«set.__init__» noKeywords
    generalize I:Ω=UF
    wp_walk
    subst I
    refine Ô (h _ led (by simp) D) (λJ s₂ q=>Å ⟨rfl,q⟩) λJ J x=>x
   ·cases N with
    | error e=>exact B
    | ok H=>
     induction H with
     | ret r=>
      obtain⟨rfl,hQ,hT2⟩:=B
      repeat (any_goals (first|assumption|wp_step))
     | _=>exact B.elim
  | _=>exact L.elim
def jb {Q₁:Ê->Ç->Prop}
 (h:∀led:ì,(cx.w.params.followText "set-order" = Ï->led=Í)->Q₁ (.ref s.heap.objs.size) { s with heap:=s.heap.push (aU led) }) :
 Ž cx.M A (.call (.builtin "set.__new__") ⟨[.type "set"],[]⟩) (wants Q₁ E) s:=by
 refine ν ?_
 show Î _ A.in1 (do acX "set.__new__" ⟨[.type "set"],[]⟩;Zd (.builtin "set.__new__" ⟨[.type "set"],[]⟩)) _ _ s
 refine Á (ś F.newCall_set_0 (Å ⟨plainId_quiet Yy _,ģ acq ?_⟩))
 rw[ϡ Yy _]
 unfold ř.«set.__new__» WB
 have hsub:=sub_set_self
 obtain⟨hp,g,d,tk,os⟩:=s
 dsimp only
 generalize B:newSet=NS
 wp_walk
 subst B
 refine gT λled D=>?_
 exact Å (h led D)
def u7 {Q:Ê->Ç->Prop} (h:∀led:ì,(cx.w.params.followText "set-order" = Ï->led=Í)->Q (.ref s.heap.objs.size) { s with heap:=s.heap.push (aU led) }):Î cx.M A (call (.type "set") []) Q E s:=by
 obtain⟨c,tl,hmro⟩:=F.called_set.mro
 have hmade:=F.called_set.made
 have hsub:=F.called_set.sub
 refine ϵ (ν ?_)
 show Î _ _ (YV (.type "set") _) _ _ _
 refine Å ⟨aae _ (by decide +kernel),ģ abI ?_⟩
 rw[Zt (aaY "set" [] []) rfl]
 have h1:=F.called_set.notType
 have h2:=F.called_set.canCreate
 have hct:=F.typeCall_set_0
 repeat (any_goals (first|assumption|wp_step))
 refine φ (jb (E:=E) (Q₁:=λG s₁=>∃led:ì,(cx.w.params.followText "set-order" = Ï->led=Í)/\G = .ref s.heap.objs.size/\s₁={ s with heap:=s.heap.push (aU led) }) λled V=>⟨led,V,rfl,rfl⟩) λr s₁ I=>?_
 cases r with
 | error e=>exact I
 | ok L=>
  induction L with
  | ret G=>
   obtain⟨led,D,rfl,rfl⟩:=I
   have O:(s.heap.push (aU led)).get? s.heap.objs.size=C (aU led):=ê _ rfl
   have À:ϫ { s with heap:=s.heap.push (aU led) } (.ref s.heap.objs.size) "set":=⟨_,O,rfl⟩
   have hli:=F.called_set.init.lookup
   have hbi:=F.called_set.init.bind (.ref s.heap.objs.size)
   repeat (any_goals (first|assumption|wp_step))
   refine φ (υ (R:=wants (λr s₂=>r = .none/\Q (.ref s.heap.objs.size) s₂) E) F.called_set.init.plain acb (check_set_init À ?_)) λY s₂ B=>?_
   ·unfold ř.«set.__init__» noKeywords
    wp_walk
    exact⟨rfl,h led D⟩
   ·cases Y with
    | error e=>exact B
    | ok H=>
     cases H with
     | ret r=>
      obtain⟨rfl,hq⟩:=B
      repeat (any_goals (first|assumption|wp_step))
     | _=>exact B.elim
  | _=>exact I.elim
def L4 (i:Inv g Z s):Î cx.M A (call (.type "set") []) (PE g s (Z++[.set []]) (.loc Z.length)) bj s:=
 u7 λled B=>PE.cell (t:=s.toks) (o:=.set []) i (af s) (ba.new (ê _ rfl) B) λb o e=>Ñ _ e
def Kept.moved {wr:È Ü} {s₁:Ç} (k:Kept s s₁) (B:Moved wr (λa b=>b=a) s₁ s') (D:∀b∈wr,s.heap.get? b=U):Kept s s':=
 ⟨λb o e=>B.heap b o (λh=>by rw[D b h]at e;contradiction) (k.heap b o e),Â k.toks B.toks,(show s'.gens=s₁.gens from B.gens).trans k.gens,B.os.trans k.os⟩
def Kept.push (o:ϑ):Kept s { s with heap:=s.heap.push o }:=⟨λb o e=>Ñ _ e,Ë _,rfl,rfl⟩
def mr {p:Ü} {T:Λ} {Q:ì->Ç->Prop} (B:s.TypeIs (.ref p) T) (D:ξ (.type T) (.type "set")=pure Ï) (G:ξ (.type T) (.type "frozenset")=pure Ï) (h:Q Ï s):Î cx.M A (π (.ref p)) Q E s:=by
 unfold π
 refine Á (Ŕ B D ?_)
 exact Ŕ B G h
def jK {k:ZC} {s₁:Ç} (i:Inv g Z s) (D:Kept s s₁) (H:ba s₁.heap s.heap.objs.size k):PX g s Z (.ws k) (.ref s.heap.objs.size) s₁:=by
 refine H _ λo I L=>?_
 have B:=af s
 exact(.mk (g.freeze s.heap.objs.size o) ((D.stp).n! B (i.fresh B).1) ((D.inv i).add I (i.fresh B).2 (i.fresh B).1) (M3.mk _ o rfl (G.é _ _ _) L))
def wn {xs:ZB} {ts:ZC} (hA:A.handled=U) (i:Inv g Z s) (e:aw Z v=C xs) (h:aJ xs=C ts) (hz:ts.length<=100) (m:VR g v a) :
 Î cx.M A (call (.type "set") [a]) (PX g s Z (.ws (ah [] ts))) bj s:=by
 (refine aI i e m _ ?_;rintro p vs rfl ⟨c,N⟩ t _)
 obtain⟨V,O⟩:=cR h t
 have L:=Ŀ N
 refine mA λl led Q G=>?_
 have I:(s.heap.push (aU led)).get? p=C { cls:=.type "list",dict:=U,data:=.seq vs.toArray c,slots:=#[] }:=Ñ _ N
 have E:ϫ { s with heap:=s.heap.push (aU led) } (.ref p) "list":=⟨_,I,rfl⟩
 have y:(s.heap.push (aU led)).get? s.heap.objs.size=C (aU led):=ê _ rfl
 have D:(s.heap.push (aU led)).PlainList p vs.toArray:=⟨c,I⟩
 unfold Ω
 refine Á (mr E F.sub_list_set F.sub_list_frozenset ?_)
 rw[Ý ß]
 refine Á (Τ E ?_)
 rw[Ý Zz]
 refine Á (Ϩ D.isList (Á (A_ ?_)))
 have H:vs.length=ts.length:=by have:=O.length;omega
 have Y:p≠(s.heap.push (aU led)).objs.size:=by rw[e8];exact Ĝ (Ŭ L)
 have À:s.heap.objs.size∉[(s.heap.push (aU led)).objs.size,p]:=by
  rw[e8];simp only[Ċ,Ķ,Ϸ,Zk];exact⟨Ĝ (Ň _),Θ L⟩
 have W:=(ZO (prog:=cx.prog) (w:=cx.w) (A:=l.in1) (by simpa [Q]using hA) _ p Y vs.toArray).toS
 rw[show vs.toArray.size=ts.length by simpa using H]at W
 refine lx W s.heap.objs.size À (λj v z=>oi O j v (by simpa using z)) V (kk:=[]) (by unfold ű;simp;lia) _ 0 _ rfl (ï _) ⟨⟨_,ê _ rfl,rfl,rfl⟩,D.isList.push _⟩
  ((ba.new (Ñ _ y) G)) λs' r B=>?_
 show Î _ _ _ _ _ _
 refine Å ?_
 refine⟨?_,B.of.typeIs⟩
 refine jK i ?_ B
 have d:Kept s { s with heap:=(s.heap.push (aU led)).push { cls:=.type "list_iterator",data:=.fields #[.ref p,.int 0 0] } }:=⟨λb o e=>Ñ _ (Ñ _ e),Ë _,rfl,rfl⟩
 refine d.moved r λb acT=>?_
 simp only[Ċ,Ķ,Ϸ]at acT
 rcases acT with rfl|rfl
 ·exact af s
 ·rw[e8]
  generalize q:s.heap.get? (s.heap.objs.size+1)=zzy
  induction zzy with
  | none=>rfl
  | some o=>exact absurd (Ŀ q) (abi (Ň _))
end
def vh:bT XW "set.intersection" = C ř.«frozenset.intersection»:=Xl (id':="frozenset.intersection") (by kernel_rfl) (by rfl) (by decide +kernel) (by kernel_rfl)
def ef:bT XW "frozenset.intersection.loop" = C ř.«frozenset.intersection.loop»:=Ϲ (by kernel_rfl)
def fg:acB "frozenset.intersection.loop" = Í:=by decide +kernel
section
variable {A:Ā} {s:Ç} {g:G} {Z:aa} {v:AV} {ks:ZC}
def JZ {a:Ü} {k:Ì} {t:YP} {E:Ê->Ç->Prop} {Q:Æ Ó->Ç->Prop} (H:ba s.heap a ks) (h:∀r:Æ Ó,r.isSome=ks.contains k->Q r s):Î cx.M A (setFind a (.str k t) (cx.sk.hash k)) Q E s:=
 wpAny_setFind_of (ů _ _ _ _) rfl H.of h
def BA {a:Ü} {E:Ê->Ç->Prop} {Q:Ó->Ç->Prop} (H:ba s.heap a ks) (h:Q ks.length s):Î cx.M A (abl a) Q E s:=by
 refine H _ λo L B=>B _ λes ep t J D J J J G I J J J=>?_
 exact Á (XP L D G (Å (I▸h)))
def yb {I:Ü} {fp wr:È Ü} {Gr:ÿ Ν->ÿ Ν->Prop} {P:Ó->Ê->Prop} {St:Ó->Ç->Prop} {ts:ZC} {R:ky->Ç->Prop} (W:WalksS cx.prog cx.w A.in1 I fp wr Gr ts.length P St) {S D:Ü} (hS:S∉fp) (hD:D∉fp) (d:S≠D)
 (x2:∀i v,P i v->∃k t,ts[i]? = C k/\v = .str k t) (hz:∀k∈ts,k.length<=Ö) (L:ts.Nodup) (hl:ts.length<=100) (hks:ks.Nodup) :
 ∀(k i:Ó) (s:Ç),ts.length - i=k->i<=ts.length->St i s->ba s.heap S ks->ba s.heap D ((ts.take i).filter ks.contains)->
  (∀B,Moved (D::wr) Gr s B->ba B.heap D (ts.filter ks.contains)->R (.ok (.ret .none)) B)->Ž cx.M A (.builtin "frozenset.intersection.loop" ⟨[.ref S,.ref I,.ref D],[]⟩) R s:=by
 have x4:S∉wr:=λh=>hS (W.sub _ h)
 have acT:D∉wr:=λh=>hD (W.sub _ h)
 have G:∀b∈wr,b∈D::wr:=λb Q=>à _ Q
 intro k
 induction k with
 | zero=>
  intro i s hk hi Y H1 H2 hR
  obtain rfl:i=ts.length:=ţ hi (Ų hk)
  rw[Xe]at H2
  refine ģ ef (Á (W.done s _ _ Y λB À=>?_))
  exact Å (hR B (À.mono G) (H2.at λo e=>À.heap D o acT e))
 | succ k ih=>
  intro i s hk hi Y H1 H2 hR
  have j:i<ts.length:=XG (by rw[hk];exact ŵ _)
  refine ģ ef (Á (W.item i s _ _ j Y λv B hP x0 À=>?_))
  obtain⟨y,t,hy,rfl⟩:=x2 i v hP
  have O:=H1.at (h':=B.heap) λo e=>À.heap S o x4 e
  have E:=H2.at (h':=B.heap) λo e=>À.heap D o acT e
  have x1:ts.take (i+1)=ts.take i++[y]:=by rw[ty,hy];rfl
  have m:(ts.take i).contains y=Ï:=by
   have hd:=L
   rw[<-Wz i ts,ō]at hd
   exact ϝ.mpr λq=>hd.2.2 y (Ú.mp q) y (Ĉ (i:=0) (by rw[getElem?_drop];exact hy)) rfl
  refine Á (ä (cx.sk.pyHash (ů _ _ _ _) ?_))
  refine Á (ä (JZ (s:={ B with toks:=B.toks+1 }) O λr hr=>?_))
  have next:∀h' (t:Ó),B.toks<=t->ζ D B.heap h'->ba h' D ((ts.take (i+1)).filter ks.contains)->Ž cx.M A (.builtin "frozenset.intersection.loop" ⟨[.ref S,.ref I,.ref D],[]⟩) R { B with heap:=h',toks:=t }:=λh' t ht V H=>by
   refine ih (i+1) _ (by rw[XH,hk];rfl) j (W.frame _ B _ _ x0 ht λb Q o e=>(V.2 b λh=>hD (h▸Q)).trans e) (O.at λo e=>(V.2 S d).trans e) H λy1 c x3=>?_
   refine hR y1 (acw W.gtrans ((À.mono G).then_heap ht λb o Q e=>?_) c) x3
   exact(V.2 b λh=>Q (h▸ã)).trans e
  cases hc:ks.contains y with
  | false=>
   rw[hr,hc,Ý ß]
   refine Å ⟨plainId_quiet fg _,next _ _ (ö _) (Yz _ _) ?_⟩
   rw[x1,Zw,filter_cons_of_neg (by rw[hc];exact ß)]
   simpa using E
  | true=>
   rw[hr,hc,Û rfl]
   have N:((ts.take i).filter ks.contains).length<=100:=Â (ķ _ _) (Â (by rw[W_];exact f_ _ _) hl)
   refine Á (ä (fm (s:={ B with toks:=B.toks+1 }) E (hz _ (Ĉ hy)) (É (á N) Zz) λb h' V H3=>?_))
   have e3:aZ y ((ts.take i).filter ks.contains)=(ts.take (i+1)).filter ks.contains:=by
    simp only[uS (ϝ.mpr λq=>ϝ.mp m (Ú.mpr (þ.mp (Ú.mp q)).1)),x1,Zw,filter_cons_of_pos hc];rfl
   rw[e3]at H3
   have H4:=O.at (h':=h') λo e=>(V.2 S d).trans e
   refine Á (BA (s:={ B with heap:=h',toks:=B.toks+1 }) H3 (Á (BA (s:={ B with heap:=h',toks:=B.toks+1 }) H4 ?_)))
   refine ĸ (λx6=>?_) λJ=>Å ⟨plainId_quiet fg _,next _ _ (ö _) V H3⟩
   refine Á (Ŝ (Å (hR _ ((À.mono G).then_heap (ö _) λb o Q e=>(V.2 b λh=>Q (h▸ã)).trans e) ?_)))
   rw(occs:=.all) [<-Wz (i+1) ts,Zw]
   rw(occs:=.all) [show(ts.drop (i+1)).filter ks.contains=[]from ?_]
   ·simpa using H3
   refine I_.mpr λz x8 x5=>?_
   have x7:((ts.take (i+1)).filter ks.contains).Nodup:=(Ϭ.trans (take_sublist _ _)).nodup L
   have x9:z∉(ts.take (i+1)).filter ks.contains:=λq=>by
    rw[<-Wz (i+1) ts,ō]at L
    exact L.2.2 z (þ.mp q).1 z x8 rfl
   have:=(ϊ.mpr ⟨x9,x7⟩).length_le_of_subset (l₂:=ks) λq hq=>by
    rcases Ċ.mp hq with rfl|hq
    ·exact Ú.mp x5
    ·exact Ú.mp (þ.mp hq).2
   exact absurd (ô this x6) (Ő _)
def li {ps:ZC} {us:ZA} (h:ps.length=us.length):(ps.zip us).map (·.1)=ps:=by rw[<-unzip_fst,acR h]
def LV {a b:Ü} (h:a≠b):(Ż a==Ż b)=Ï:=Œ λe=>h (Ϗ e)
def u0 {a:Ü} {y:Ê} {Q:ab->Ç->Prop} {E:Ê->Ç->Prop} (B:s.TypeIs (.ref a) "set") (G:∀{Q:ì->Ç->Prop},Q Ï s->Î cx.M A (acj (.ref a)) Q E s) (D:Q () s):Î cx.M A (hY "set.intersection" ⟨[.ref a,y],[]⟩) Q E s:=by
 have:=pD (y:=y) EJ B G D
 exact this
def FN {kvs:ZF} {a:Ü} {b w:Ê} (hA:A.handled=U) (i:Inv g Z s) (e:aC Z v=C kvs) (hl:kvs.length<=100) (ho:s.heap.get? a=C (d8 (.builtin "set.intersection") w)) (ra:VR g (.ws ks) w) (rb:VR g v b) :
 Î cx.M A (call (.ref a) [b]) (PX g s Z (.ws ((kvs.map (·.1)).filter ks.contains))) bj s:=by
 (refine ra _ ?_;rintro p o rfl hi hx)
 have y:=i.sub _ _ hi
 (refine bg i e rb _ ?_;rintro d us rfl Q qd hm hz x3)
 have hT:s.TypeIs (.ref p) "set":=⟨o,y,hx.obj.1.1⟩
 have x7:∀c,o.data≠.cls c:=λc h=>by refine hx _ λJ J J J Q J J J J J J J J=>?_;rw[Q]at h;cases h
 have hTd:=Q.typeIs
 obtain⟨od,es,ep,G,hex,I,L,H,N⟩:=id Q
 have B:((kvs.map (·.1)).zip us).map (·.1)=kvs.map (·.1):=li (by have:=qd.length;simpa using this)
 have acT:((kvs.map (·.1)).zip us).length=(kvs.map (·.1)).length:=by have:=Õ xe B;rwa [length_map]at this
 have l:d≠p:=by
  rintro rfl
  rw[y]at G;obtain rfl:=Ä G
  refine hx _ λJ J J J V J J J J J J J J=>?_
  rw[I]at V;cases V
 refine ϵ (rV ho F.slot_set_intersection.plain ?_)
 refine u0 hT (λh=>kt y x7 h) ?_
 refine ģ vh ?_
 have hlk:(kvs.map (·.1)).length=us.length:=by have:=qd.length;rw[length_map]at this ⊢;exact this
 have key:Î cx.M A.in1 (Ϫ "frozenset.intersection" p (.ref d)) (PX g s Z (.ws ((kvs.map (·.1)).filter ks.contains))) bj s:=by
  unfold Ϫ
  rw[Ý (by rw[LV l];exact ß)]
  refine Á (Á (Ŕ hT dY (Å ?_)))
  refine Á (gT λled x4=>Á (Å (Á (ä ?_))))
  have kD:∀b o,s.heap.get? b=C o->(s.heap.push { cls:=.type "set",dict:=U,data:=.set #[] 0 (.fresh 0 0 led) }).get? b=C o:=λb o e=>Ñ _ e
  refine Á (mr (T:="dict") ⟨od,kD _ _ G,hex.1⟩ ij dg ?_)
  rw[Ý ß]
  have Y:DictAt cx.sk (s.heap.push { cls:=.type "set",dict:=U,data:=.set #[] 0 (.fresh 0 0 led) }) d ((kvs.map (·.1)).zip us) ep:=⟨od,es,kD _ _ G,hex,I,L,H,N⟩
  refine Á (K_ hm Y ?_)
  refine Á (A_ ?_)
  have hsz:(s.heap.push { cls:=.type "set",dict:=U,data:=.set #[] 0 (.fresh 0 0 led) }).objs.size=s.heap.objs.size+1:=e8 ..
  have E:=Ŀ G
  have m:=Ŀ y
  have x6:d≠(s.heap.push { cls:=.type "set",dict:=U,data:=.set #[] 0 (.fresh 0 0 led) }).objs.size:=by rw[hsz];exact Ĝ (Ŭ E)
  have W:=(Yf (knd:=cx.sk) (A:=A.in1.in1) (by exact hA) _ d x6 ((kvs.map (·.1)).zip us) ep).toS
  rw[acT]at W
  have x1:(s.heap.push { cls:=.type "set",dict:=U,data:=.set #[] 0 (.fresh 0 0 led) }).get? s.heap.objs.size=C { cls:=.type "set",dict:=U,data:=.set #[] 0 (.fresh 0 0 led) }:=ê _ rfl
  have out:∀b,b<s.heap.objs.size+1->b≠d->b∉[(s.heap.push { cls:=.type "set",dict:=U,data:=.set #[] 0 (.fresh 0 0 led) }).objs.size,d]:=λb O Q=>by
   rw[hsz];simp only[Ċ,Ķ,Ϸ,Zk];exact⟨Ĝ O,Q⟩
  refine yb W (S:=p) (D:=s.heap.objs.size) (ks:=ks) (out p (Ŭ m) l.symm) (out _ (Ň _) (Θ E)) (Ĝ m) (λj v hj=>?_) (λk hk=>?_) (by rw[<-B];exact N) (by rw[length_map];exact hl) hx.nd _ 0 _ rfl (ï _)
   ⟨⟨_,ê _ rfl,rfl,by rw[acT];rfl⟩,acv Y λo e=>Ñ _ e⟩ (.mk o (Ñ _ (kD _ _ y)) hx) (ba.new (Ñ _ x1) x4) λs' x5 x0=>?_
  ·obtain⟨k',x,h1,h2⟩:=hj
   obtain⟨t,ht⟩:=dy h2
   exact⟨k',t,by rw[<-B,Ė,h1];rfl,ht⟩
  ·obtain⟨kv,x2,rfl⟩:=ě.mp hk
   exact x3 kv x2
  ·refine Å (Å (jK i ?_ x0))
   have k1:Kept s { s with heap:=(s.heap.push { cls:=.type "set",dict:=U,data:=.set #[] 0 (.fresh 0 0 led) }).push { cls:=.type "dict_keyiterator",data:=.fields #[.ref d,.int 0 0,.int ((kvs.map (·.1)).zip us).length 0,.int ep 0] } }:=⟨λb o e=>Ñ _ (kD _ _ e),Ë _,rfl,rfl⟩
   refine k1.moved x5 λb O=>?_
   simp only[Ċ,Ķ,Ϸ]at O
   have À:∀b,s.heap.objs.size<=b->s.heap.get? b=U:=λb O=>by
    cases q:s.heap.get? b with
    | none=>rfl
    | some o=>exact absurd (Ŀ q) (ų.mpr O)
   rcases O with rfl|rfl
   ·exact À _ (Ë _)
   ·exact À _ (by rw[hsz];exact ö _)
 show Î _ A.in1 (do
  let r <-forIn [Ż d] (Ż p) (λo (r:Ê)=>(do
   let x <-pw [r] (do Ϫ "frozenset.intersection" (<-WM r) o)
   pure (Ŵ x):Ϛ (acJ Ê)))
  ret r) _ _ s
 rw[ϟ]
 exact Á (Á (Á (ä (Á (Å (Ô key (λu s' z=>Å (Å (Å z))) λJ J x=>x.elim))))))
end
section
def BZ {kvs:ZF} {us:ZA} {k:Ì} (h:kvs.length=us.length):(((kvs.map (·.1)).zip us).any λH=>H.1=k)=kvs.any λH=>H.1=k:=by
 induction kvs generalizing us with
 | nil=>rfl
 | cons a kvs Q=>induction us with
  | nil=>trivial
  | cons b us=>simp only[Ī,M_,V_];simp only[Q (by simpa using h)]
set_option tactic.hygienic true in def kM {kvs:ZF} {us:ZA} {k:Ì} (q:aG g (kvs.map (·.2)) us) (r:VR g v u) :
 ∃H,stored ((kvs.map (·.1)).zip us) k u=((aF k v kvs).map (·.1)).zip H/\aG g ((aF k v kvs).map (·.2)) H:=by
 have Q:kvs.length=us.length:=by simpa using q.length
 delta stored aF
 rw[BZ Q]
 split
 ·rename_i hany
  clear hany Q
  induction kvs generalizing us with
  | nil=>exact⟨[],by rfl,.nil⟩
  | cons a kvs acT=>
   rcases _:aG.b! (show aG g (a.2::kvs.map (·.2)) us from q)with⟨b,us,rfl,Y,A⟩
   rcases _:acT A with⟨H,À,V⟩
   by_cases ha:a.1=k
   ·exact⟨u::H,by simp[ha];simpa using À,by simpa [ha]using aG.cons r V⟩
   ·exact⟨b::H,by simp[ha];simpa using À,by simpa [ha]using aG.cons Y V⟩
 ·exact⟨us++[u],by rw[ò,zip_append (by simpa using Q)];rfl,by rw[ò];exact q.append (.cons r .nil)⟩
def bL (k:Ì) (kvs:ZF):(aF k v kvs).length<=kvs.length+1:=by
 unfold aF;split<;>simp
def gx {k:Ì} {kvs:ZF} (h:∀Q∈kvs,Q.1.length<=Ö) (hk:k.length<=Ö):∀Q∈aF k v kvs,Q.1.length<=Ö:=by
 intro Q H
 unfold aF at H
 split at H
 ·obtain⟨x,À,rfl⟩:=ě.mp H
  split
  ·exact h x À
  ·exact h x À
 ·rcases ý.mp H with H|H
  ·exact h Q H
  ·rw[Ù]at H;subst H;exact hk
def xo (k:Ì) (kvs:ZF):(aF k v kvs).length=if(kvs.any λH=>H.1=k)=Í then kvs.length else kvs.length+1:=by
 unfold aF
 split<;>simp
def yP {d:Ü} {kvs:ZD} {k:Ì} {key w:Ê} {ep:Ó} {E:Ê->Ç->Prop} {Q:ab->Ç->Prop} (hk:cx.sk.is k key=Í) (acT:s.heap.DictAt cx.sk d kvs ep) (z:kvs.length<=Ö)
 (g:∀h',h'.DictAt cx.sk d (stored kvs k w) (if(kvs.any λÀ=>À.1=k)=Í then ep else ep+1)->ζ d s.heap h'->Q () { s with heap:=h',toks:=s.toks+1 }):Î cx.M A (setItem (.ref d) key w) Q E s:=by
 have m:=acT.dictOf.typeIs
 obtain⟨o,es,y,hc,Y,t,hP,hn⟩:=acT
 have x0:es.size<=Ö:=by rw[<-Č,hP.length];exact z
 refine ä (Á (wpAny_sequenceKey m Zz (Á (ϖ (name:=Ć "__setitem__") m acD (Ş acD m entry_dict_setitem ?_ (args_dict_setitem _ _ _))))))
 refine Á (aaZ m ?_)
 show Î _ _ (acA d key w >>= λJ=>ret Ă) _ _ s
 refine Á ?_
 unfold acA
 refine ä (Á (cx.sk.pyHash hk ?_))
 unfold dictSetHashed
 refine ä (Á (wpAny_dictFind_of (s:={ s with toks:=s.toks+1 }) hk y Y t ?_))
 have hi:(es.findIdx? λe=>cx.sk.is k e.key)=kvs.findIdx? λÀ=>decide (À.1=k):=by rw[<-hP.findIdx k];obtain⟨l⟩:=es;simp
 have V:(kvs.any λÀ=>decide (À.1=k))=(es.findIdx? λe=>cx.sk.is k e.key).isSome:=by rw[hi,findIdx?_isSome]
 have H:∀h':ę,Q () { s with heap:=h',toks:=s.toks+1 }->Î cx.M A.in1 (ret Ă) (λH I=>∃r,H = .done (.ret r)/\Î cx.M A (pure ()) Q E I) E { s with heap:=h',toks:=s.toks+1 }:=λh' q=>Å ⟨_,rfl,Å q⟩
 unfold stored at g
 cases hx:(es.findIdx? λe=>cx.sk.is k e.key)with
 | some i=>
  have V:(kvs.any λÀ=>decide (À.1=k))=Í:=V.trans (by rw[hx];rfl)
  rw[Û V,Û V]at g
  have hl:(es.toList.findIdx? λe=>cx.sk.is k e.key)=C i:=by rw[<-hx];obtain⟨l⟩:=es;simp
  have acT:=hP.modify hn hl w
  refine Á (Ŝ (Á (wpAny_updateDict (s:={ s with toks:=s.toks+1 }) y Y (wpAny_point (H _ (g _ ⟨_,_,œ _ y (aaf (abt Y _)),hc.mapDict _,abt Y _,t.modify _ _,?_,?_⟩ (Ĩ ..)))))))
  ·obtain⟨l⟩:=es;simpa using acT
  ·rw[keys_map_store];exact hn
 | none=>
  rw[hx]at V
  have j:¬ (kvs.any λÀ=>decide (À.1=k))=Í:=by rw[V];exact ß
  rw[Ý j,Ý j]at g
  have acT:=hP.append hk (cx.sk.hash k) w
  refine Á (Ŝ (wpAny_updateDictKeys (hz:=x0) (s:={ s with toks:=s.toks+1 }) y Y (H _ (g _ ⟨_,_,œ _ y (aaf (ZK Y _)),hc.mapDictKeys _,ZK Y _,t.push hk _,?_,?_⟩ (Ĩ ..)))))
  ·obtain⟨l⟩:=es;simpa using acT
  ·rw[ò,ō]
   exact⟨hn,abY ..,λa V b hb e=>not_mem_of_findIdx_none (hi▸hx) (by rw[Ù.mp hb]at e;rw[show k=a from e.symm];exact V)⟩
def gz (hA:A.handled=U) {xs:ZB} {k:Ó} {P:È Ê->Ç->Prop} {E:Ê->Ç->Prop} (i:Inv g Z s) (e:jH Z v=C xs) (r:VR g v u) (hk:k=xs.length)
 (h:∀us h',aG g xs us->(∀b o,s.heap.get? b=C o->h'.get? b=C o)->P us { s with heap:=h' }):Î cx.M A (unpackItems u k U) P E s:=by
 have Q:∀{us:ZA} {h':ę},aG g xs us->ExtBut s.heap.objs.size s.heap h'->P us { s with heap:=h' }:=λq x=>h _ _ q λb o e=>x b o (Ĝ (Ŀ e)) e
 refine eY e (λys V e=>?_) λJ e=>?_
 ·rw[kQ V]at r
  obtain rfl:=Ä e
  (refine r _ ?_;rintro a o us rfl Y ⟨m,rfl⟩ q z)
  have H:k=us.toArray.size:=by simp only[hk,q.length,Đ]
  rw[H]
  exact wpAny_unpackItems_tuple hA (show s.heap.IsTuple a us.toArray from⟨_,i.sub _ _ Y,rfl,m,rfl⟩) λh' x=>Q q x
 ·(refine aI i e r _ ?_;rintro p us rfl acT À zp)
  have H:k=us.toArray.size:=by simp only[hk,À.length,Đ]
  rw[H]
  exact kun_itemsOf hA acT.isList λh' x=>Q À x
end
section
variable {n:Ó} {L:ì} {r:Ev} {F:Fr n} {vs G:Vs} {c c₀:Cf} {Z Z':aa} {v:AV} {u:Ê} {O:ñ} {K:VK} {B:BK} {N:NK} {R:RK} {X:XK} {E:Ê->Ç->Prop} {I:Ç}
def QA.up (a:Le F c₀ c) (x:QA F c N () I):QA F c₀ N () I:=(by rcases x with⟨c',G,b,e,k⟩;exact .mk c' G (a.trans b) e k)
def Ry {t:Ϛ ab} (a:Le F c₀ c) (h:Î cx.M F.A t (QA F c N) (XX F c X) c.s):Î cx.M F.A t (QA F c₀ N) (XX F c₀ X) c.s:=Ô h (λJ J x=>x.up a) λJ J x=>x.up a
def oh {e:ñ} (h:aO e=Ï):wt e=U:=by rcases e<;>first|rfl|exact absurd h.symm ß
def bH {env:ϙ} {e:ñ} {es:È ñ} (h:aO e=Ï):Ϡ (e::es) env=(Ï,Xk e env)::Ϡ es env:=by
 rcases e<;>first|rfl|exact absurd h.symm ß
def za (H:Prop) (ts:È ñ) (env:ϙ):Prop:=∀(h1:(Ϡ ts env).findIdx? (·.1)=U) (h2:(Ϡ ts env).length=ts.length),H
def Fa:=λts env=>∀H,za H ts env->H
def Fa.mk:za (Fa ts env) ts env:=λQ À J H=>H Q À
def N7 {ts:È ñ} (h:∀t∈ts,aO t=Ï) (env:ϙ):Fa ts env:=by
 induction ts with
 | nil=>exact(.mk rfl rfl)
 | cons t ts V=>
  refine(V λt À=>h t (à _ À)) _ λH Q=>?_
  have q:=bH (env:=env) (es:=ts) (h t (ã ..))
  exact(.mk (by rw[q,findIdx?_cons];simp[H]) (by simp only[q,ŕ,ŕ,Q]))
def wv {ts:È ñ} (h:ts.any aO=Ï):∀t∈ts,aO t=Ï:=λt H=>e_ _▸any_eq_false.mp h t H
theorem mv (H:B1 n r.a):∀{ts:È ñ} {xs:ZB} {us:ZA} {c:Cf} {vs:Vs},At F vs c->aG c.g xs us->rN r F.ks F.ns ts xs vs c.Z N X->(∀t∈ts,aO t=Ï)->
 Î cx.M F.A (ael ((Ϡ ts F.env).map (·.2)) us) (QA F c N) (XX F c X) c.s
 | [],xs,us,c,vs,e,q,h,_=>by
  obtain⟨À,h⟩:=bV h
  obtain rfl:=Ġ.mp À
  exact Å (.mk c vs (.refl _ _ _) e h)
 | t::ts,[],us,c,vs,e,q,h,_=>h.elim
 | t::ts,x::xs,us,c,vs,e,q,h,hs=>by
  rw[bH (hs t (ã ..))]
  rcases _:q.b! with⟨u,us,rfl,V,Y⟩
  exact Á (ä (FH H (.refl _ _ _) e V h λc₁ vs1 l₁ Q e₁ h=>Ry Q (mv H e₁ (Y.mono l₁) h λt acT=>hs t (à _ acT))))
def OF (H:fj L n r):B1 n (Vy T r):=by
 intro F t v u vs N X c h e q
 induction t using Ŋ with
 | Name x p=>obtain⟨V,h⟩:=bV h;exact l1 (jD e V q λh' t i a e=>.mk (c.wr i) _ a e h)
 | Tuple ts k p=>
  refine cw h λxs d h=>?_
  obtain⟨V,h⟩:=bV h
  obtain⟨V,m⟩:=è.mp V
  have acT:=wv (nu V)
  refine N7 acT F.env _ λk1 k2=>?_
  refine Á (ī ?_)
  unfold unpack
  rw[k1]
  refine Á (ä (gz F.hA.handled c.i d q (k2.trans (Zo m).symm) λus h' q k=>?_))
  have b:bt [] c.g c.s c.g { c.s with heap:=h' }:=.keeps (t:=c.s.toks) (Ë _) k
  exact Ry (c:=c.wr (c.i.keep (t:=c.s.toks) (Ë _) k)) b.own (mv H.a (e.go b) q h acT)
 | Attribute o x p=>
  refine Á (ä (bq H.e (.refl _ _ _) e h λc₁ w u1 l₁ z e₁ À h=>cw h λZ' h k=>Á (ī (Á (ä (yO c₁.i.H.cls c₁.i À (q.mono l₁) h λs₂ a2 i2=>?_))))))
  exact ZT (.mk ⟨c₁.g,Z',s₂,i2⟩ vs (z.trans a2.own) (e₁.go a2) k)
 | Subscript o j p=>
  refine Á (ä (bq H.e (.refl _ _ _) e h λc₁ w u1 l₁ z e₁ À h=>Á (ä (bq H.e z e₁ h λQ y u2 l₂ a2 e₂ r2 h=>cw h λl d h=>cw h λk m h=>cw h λkvs hl h=>Á (ī (Á (ä ?_)))))))
  have hl:=sd hl
  have À:=À.mono l₂
  rw[yo d]at À
  obtain⟨p,rfl,hp⟩:=À
  (refine r2.strV m _ ?_;rintro t rfl tz)
  refine Q.i.cells _ _ _ hl hp _ λus hd q' y1 y2 y3=>?_
  have A:((kvs.map (·.1)).zip us).length<=Ö:=by simp only[length_zip,length_map,<-q'.length,length_map,Η];exact y2
  refine yP (ů _ _ k t) hd A λh' Y acT=>ZT ?_
  rcases _:kM (k:=k) q' ((q.mono l₁).mono l₂)with⟨x1,e3,x0⟩
  rw[e3,BZ (by have:=q'.length;rwa [length_map]at this),<-xo (v:=v)]at Y
  have ho:OR Q.g h' p (.dict (aF k v kvs)):=(.mk x1 Y x0 y1 (Â (bL k kvs) h.1) (gx y3 tz))
  have b:bt [] Q.g Q.s Q.g { Q.s with heap:=h',toks:=Q.s.toks+1 }:=.setCell (t:=Q.s.toks+1) (ö _) hp acT ho.there
  exact .mk ⟨_,_,_,Q.i.setCell (t:=Q.s.toks+1) (ö _) hp ho acT⟩ vs (a2.trans b.own) (e₂.go b) h.2
 | _=>exact h.elim
end
def o9:ύ (.type "slice") "__index__" = pure U:=by rw[c0,η];kernel_rfl
section
variable {prog:Xx} {w:WW} {A:Ā} {E:Ê->Ç->Prop} {h:ę} {g:ÿ Ν} {d:Drawn} {t:Ó} {V:OsState} {l m:Ü} {items:ÿ Ê} {k:Ó}
def vm {f:Ê×Ó->Æ Ê} (D:∀p∈items.toList.zipIdx,f p=U):(items.toList.zipIdx.filterMap f).toArray = #[]:=by
 rw[abf.mpr D]
def qS {f:Ê×Ó->Æ Ê} (D:∀x k,f (x,k)=if(if(1:Į) > 0 then decide ((0:Į)<=(k:Į))&&decide ((k:Į)<(items.size:Į))&&(((k:Į) - 0) % 1==0)else Ï)=Í then U else C x):(items.toList.zipIdx.filterMap f).toArray = #[]:=by
 refine vm λp G=>?_
 obtain⟨x,k⟩:=p
 have hk:k<items.size:=by
  have:=(mem_zipIdx G).2.1
  simpa using this
 rw[D]
 simp[hk,Int.emod_one]
def JO {P:Ē->Ç->Prop} (Q:h.get? l=C { cls:=.type "list",data:=.seq items k }) (G:h.get? m=C { cls:=.type "slice",data:=.fields #[.none,.none,.none] }) (hz:items.size<=Ö)
 (acT:∀f:ÿ Ê->ÿ Ê,f items = #[]->P (.done (.ret .none)) ⟨h.update l (Ğ f),g,d,t,V⟩) :
 Î (Ϧ prog w) A (ř.«list.__delitem__» ⟨[.ref l,.ref m],[]⟩) P E ⟨h,g,d,t,V⟩:=by
 have H:(⟨h,g,d,t,V⟩:Ç).TypeIs (.ref m) "slice":=⟨_,G,rfl⟩
 refine Á (m:=adX _ _ _) (Å ?_)
 refine Á ?_
 refine Á (c_ H o9 ?_)
 refine Å ?_
 refine Á (Τ H ?_)
 refine ĸ (λD=>absurd D Zz) (λJ=>?_)
 refine Á ?_
 refine Á (χ G rfl (x:=.none) rfl ?_)
 refine Á (Å ?_)
 refine ĸ (λD=>absurd D Zz) (λJ=>?_)
 refine Á (χ G rfl (x:=.none) rfl ?_)
 refine Á (Å ?_)
 refine Á (χ G rfl (x:=.none) rfl ?_)
 refine Á (Å ?_)
 refine Å ?_
 refine Á (Yc Q rfl ?_)
 refine Á ?_
 show Î _ _ (pure ((0:Į),(items.size:Į),(1:Į))) _ _ _
 refine Å ?_
 refine Á (Ŝ ?_)
 refine Á ?_
 refine ϋ Q rfl ?_ hz ?_
 ·exact Á (wpAny_letGo (Å (acT _ (qS λJ J=>rfl))))
 ·refine Â (ó (Õ acH (qS λJ J=>rfl))) (ï _)
variable {n:Ó} {Y:ì} {r:Ev} {F:Fr n} {vs O:Vs} {c c₀:Cf} {Z Z':aa} {v:AV} {u:Ê} {I:ñ} {K:VK} {B:BK} {N:NK} {R:RK} {X:XK} {À:Ç} {f:P_} {x:Ì}
def QS.up (a:Le F c₀ c) (x:QS F c N R f À):QS F c₀ N R f À:=(by rcases x with⟨c',O,b,e,k⟩|⟨c',O,v,u,b,e,q,k⟩;exact .n c' O (a.trans b) e k;exact .r c' O v u (a.trans b) e q k)
def TM {t:Ϛ P_} (a:Le F c₀ c) (h:Î cx.M F.A t (QS F c N R) (XX F c X) c.s):Î cx.M F.A t (QS F c₀ N R) (XX F c₀ X) c.s:=Ô h (λJ J x=>x.up a) λJ J x=>x.up a
def et (H:Q7 Y n r.s) (D:oL Y F):∀{acT:È ϳ} {c:Cf} {vs:Vs},At F vs c->bA r F.ks F.ns acT vs c.Z N R X->Î cx.M F.A (h8 acT F.env) (QS F c N R) (XX F c X) c.s:=by
 intro y;induction y with
 | nil=>
  exact @λc vs e h=>WX (.n c vs (.refl _ _ _) e h)
 | cons st acT j=>
  exact @λc vs e h=>adj (Ô (H c h e D) (λf s₁ x=>(by rcases x with⟨c₁,G,Q,e₁,h⟩|⟨c₁,G,v,u,Q,e₁,q,h⟩;exact TM Q (j e₁ h);exact .r c₁ G v u Q e₁ q h)) λJ J x=>x)
def II {t:Ϛ ab} {s:Ç} (h:Î cx.M F.A t (QA F c N) (XX F c X) s):Î cx.M F.A (do t;pure adJ) (QS F c N R) (XX F c X) s:=
 Á (Ô h (λJ J x=>(by rcases x with⟨c',O,b,e,k⟩;exact Å (.n c' O b e k))) λJ J x=>x)
def vt (F:Fr n):F.env.blockKind = .function:=by unfold Env.blockKind;rw[F.fn];rfl
def gi (F:Fr n) (y:Ì):(F.env.kindOf y==C .local)=(F.ks.lookup y==C .local):=by
 rcases F.kinds y with e|⟨e,D⟩
 ·rw[e]
 ·rw[e,D];rfl
def BL (F:Fr n) {ts:È ñ} {o:Æ ZC} (h:BJ F.ks ts I=C o):RJ ts I F.env=pure o:=by
 have H:=vt F
 have hk:=gi F
 refine Eq.trans ?_ (of_pureOf h)
 have D:(oZ F.ks).blockKind = .function:=rfl
 have G:∀y,((oZ F.ks).kindOf y==C .local)=(F.ks.lookup y==C .local):=λJ=>rfl
 delta RJ
 simp -iota only[H,hk,D,G]
def L7 (F:Fr n) {ts:È ñ} {D:Ó}:R_ ts I D F.env=R_ ts I D (oZ F.ks):=by
 have Q:=vt F
 have hk:=gi F
 have G:(oZ F.ks).blockKind = .function:=rfl
 have acT:(oZ F.ks).scope.kind = .function:=rfl
 have H:∀y,((oZ F.ks).kindOf y==C .local)=(F.ks.lookup y==C .local):=λJ=>rfl
 rcases ts with _|⟨t,_|⟨t',ts⟩⟩
 ·rfl
 ·show adh I (C t) D F.env=adh I (C t) D (oZ F.ks)
  delta adh
  simp -iota only[Q,hk,G,H,acT,F.fn]
 ·rfl
theorem fo (H:B1 n r.a):∀{ts:È ñ} {c:Cf} {vs:Vs},At F vs c->VR c.g v u->im r F.ks F.ns v ts vs c.Z N X->(∀t∈ts,aO t=Ï)->Î cx.M F.A (aaj u ((Ϡ ts F.env).map (·.2))) (QA F c N) (XX F c X) c.s
 | [],c,vs,e,q,h,_=>Å (.mk c vs (.refl _ _ _) e h)
 | [t],c,vs,e,q,h,hs=>by
  rw[bH (hs t (ã ..))]
  exact FH H (.refl _ _ _) e q h λc₁ D J G e₁ h=>.mk c₁ D G e₁ h
 | t::t' :: ts,c,vs,e,q,h,hs=>by
  have acT:=hs t (ã ..)
  have j:=hs t' (à _ (ã ..))
  have Q:aaj u ((Ϡ (t::t' :: ts) F.env).map (·.2))=(do pw [u] (Xk t F.env u);aaj u ((Ϡ (t' :: ts) F.env).map (·.2))):=by
   rw[bH acT,bH j];rfl
  rw[Q]
  exact Á (ä (FH H (.refl _ _ _) e q h λc₁ D l₁ G e₁ h=>Ry G (fo H e₁ (q.mono l₁) h λt y=>hs t (à _ y))))
theorem qZ:∀{xs:ZC} {ws:ZB} {us:ZA} {c:Cf} {vs:Vs},At F vs c->aG c.g ws us->ok (putAll F.ks F.ns xs ws vs) (λvs=>N vs c.Z)->Î cx.M F.A (ael (xs.map λn=>bindName F.env n) us) (QA F c N) (XX F c X) c.s
 | [],ws,us,c,vs,e,q,h=>cw h λO D h=>aQ D λG D=>by
  obtain rfl:=Ġ.mp G
  obtain rfl:=Ä D
  exact Å (.mk c vs (.refl _ _ _) e h)
 | x::xs,[],us,c,vs,e,q,h=>cw h λJ D J=>aD D
 | x::xs,w::ws,us,c,vs,e,q,h=>cw h λO D h=>aQ D λhk D=>by
  obtain⟨u,us,rfl,H,Q⟩:=q.b!
  exact Á (ä (aeb (jD e hk H λh' t i a e=>Ry (c:=c.wr i) a (qZ e Q (D▸h)))))
def lD (H:B1 n r.a) {ts:È ñ} (e:At F vs c) (q:VR c.g v u) (acT:∀t∈ts,aO t=Ï) (h:rM r F.ks F.ns ts I v vs c.Z N X) :
 Î cx.M F.A (do assignStores F.env u (<-RJ ts I F.env) ((Ϡ ts F.env).map (·.2))) (QS F c N R) (XX F c X) c.s:=by
 refine cw h λo j h=>?_
 rw[BL F j]
 refine Á (Å ?_)
 refine jw h (λnames D h=>?_) λD h=>?_<;>subst D
 ·refine cw h λxs Q h=>?_
  obtain⟨G,h⟩:=bV h
  refine Á (Ŝ (Á (gz F.hA.handled c.i Q q (Zo G).symm λus h' y k=>?_)))
  have b:bt [] c.g c.s c.g { c.s with heap:=h' }:=.keeps (t:=c.s.toks) (Ë _) k
  exact II (Ry (c:=c.wr (c.i.keep (t:=c.s.toks) (Ë _) k)) b.own (qZ (e.go b) y.reverse h))
 ·exact II (fo H e q h acT)
def H9 (H:fj Y n r) {ts:È ñ} {p:ϗ} (e:At F vs c) (h:cX (!ts.any aO&&yV F.ks ts I p.line) (r.e F.ks F.ns I vs c.Z (λv Z=>rM r F.ks F.ns ts I v vs Z N X) X)):Î cx.M F.A (ZQ (.Assign ts I p) F.env) (QS F c N R) (XX F c X) c.s:=by
 obtain⟨Q,h⟩:=bV h
 obtain⟨Q,D⟩:=è.mp Q
 have y:=wv (nu Q)
 refine Á (ī ?_)
 have plain:Î cx.M F.A (do
  let v <-Ũ I F.env
  assignStores F.env v (<-RJ ts I F.env) ((Ϡ ts F.env).map (·.2))) (QS F c N R) (XX F c X) c.s:=
  Á (bq H.e (.refl _ _ _) e h λc₁ w u1 l₁ G e₁ acT h=>TM G (lD H.a e₁ acT y h))
 rw[L7 F]
 unfold yV at D
 generalize q:pureOf (R_ ts I p.line (oZ F.ks))=o at D
 induction o with
 | none=>exact absurd D ß
 | some b=>
  rw[of_pureOf q]
  refine Á (Å ?_)
  induction b with
  | false=>exact plain
  | true=>
   obtain⟨z,j⟩:=è.mp (show(tL I&&(BJ F.ks ts I).any Yr)=Í from D)
   refine II (H.c c z h e (use:=λv=>aaj v ((Ϡ ts F.env).map (·.2))) λc₁ w u1 G e₁ acT k=>?_)
   refine cw k λo i k=>?_
   rw[i]at j
   induction o with
   | some _=>exact absurd j ß
   | none=>
    exact Ô (fo H.a e₁ acT k y) (λJ J x=>x) λJ J x=>x.up G
def SF (H:gA n r.e) {t:ñ} {op:WD} {q:ϗ} (e:At F vs c) (h:cX (op==.Add) <| ok (ic t) λx=>cX (bI F.ks x&&!(x==("__classdict__" : Ì))) <| ok ((bD x F.ns vs).bind strV) λG=>r.e F.ks F.ns I vs c.Z (λv Z=>ok (strV v) λy=>ok (oQ G y) λs=>N (fG x (.str s) vs F.ns) Z) X) :
 Î cx.M F.A (ZQ (.AugAssign t op I q) F.env) (QS F c N R) (XX F c X) c.s:=by
 obtain⟨acT,h⟩:=bV h
 obtain rfl:=eq_of_beq acT
 refine cw h λx h1 h=>let ⟨acT,h⟩:=bV h;cW acT λhk hd=>cw h λG Q D=>aP Q λw Q h3=>?_
 obtain⟨p,rfl⟩:=c7 h1
 rw[fL h3]at Q
 have j:F.ks.lookup x=C .local\/F.ks.lookup x=C .cell\/F.ks.lookup x=C .free:=(u8 hk).elim .inl λh=>.inr (.inl h)
 refine wpAny_AugAssign_Name (A9 e j (by simpa using hd) Q λuo ro=>bq H (.refl _ _ _) e D λc₁ w u1 l₁ a1 e₁ r1 D=>cw D λy h4 D=>cw D λz h5 hN=>Oq h5 λh6 hz=>?_)
 (refine ro.c! _ ?_;rintro t rfl _)
 (refine r1.strV h4 _ ?_;rintro t' rfl _)
 subst h6
 refine A1 a1 e₁ (adq (λJ J=>.tok c₁.i (.g! _ hz) _) (by rw[<-â];exact hz)) λg s u i l₂ a2 e₂ r2=>?_
 exact jD e₂ hk r2 λh' t i a e=>.n (Cf.wr ⟨g,_,s,_⟩ i) _ (a2.trans a) e hN
theorem JN {g:G} {s:Ç} {l:Ó} {xs:ZB} {m:Ü} {Q:ab->Ç->Prop} (i:Inv g Z s) (r:VR g (.loc l) u) (e:Z[l]? = C (.list xs)) (hm:s.heap.get? m=C { cls:=.type "slice",data:=.fields #[.none,.none,.none] })
 (h:∀À,bt [] g s g À->Inv g (Z.set l (.list [])) À->Q () À) {A:Ā}:Î cx.M A (delItem u (.ref m)) Q E s:=by
 obtain⟨p,rfl,acT⟩:=r
 ((refine i.cells _ _ _ e acT _ ?_;rintro us ⟨k,hk⟩ q z))
 have hz:us.toArray.size<=Ö:=by simp only[Đ,<-q.length];exact z
 refine wpAny_delItem_slot ⟨_,hk,rfl⟩ (by rfl) aaT ?_
 obtain⟨j,gs,d,t,V⟩:=s
 refine Ş aaT ⟨_,hk,rfl⟩ F.entry_list_delitem (JO hk hm hz λf hf=>⟨_,rfl,?_⟩) (F.args_list_delitem_2 _ _)
 obtain⟨k',H⟩:=jq f us.toArray k
 have D:=œ (h:=j) (a:=p) (Ğ f) hk (by rfl)
 rw[H,hf]at D
 have y:OR g (j.update p (Ğ f)) p (.list []):=(.mk [] ⟨k',D⟩ .nil (ï _))
 exact h _ (.setCell (t:=t) (Ë _) acT (Ĩ ..) y.there) (i.setCell (t:=t) (Ë _) acT y (Ĩ ..))
def Un {ts:È ñ} {o:ñ} {P:Prop} (h:Ow ts=C o) (k:∀p q,ts=[.Subscript o (.Slice U U U p) q]->P):P:=by
 refine aP h λt acT h=>aP h λq j h=>aP h λz y h=>aQ h λhz i=>?_
 obtain⟨q1,q2⟩:=q
 obtain⟨z1,z2,z3⟩:=z
 obtain⟨p,D⟩:=Mf j
 obtain⟨p',e⟩:=qX y
 obtain rfl:q1=o:=Ä i
 obtain⟨G,H,Q⟩:=hz
 exact k p' p (by simp only[cP acT,D,show q2=_ from e,show z1=U from Ģ.mp G,show z2=U from Ģ.mp H,show z3=U from Ģ.mp Q])
def SG (H:gA n r.e) {ts:È ñ} {p:ϗ} (e:At F vs c) (h:ok (Ow ts) λo=>r.e F.ks F.ns o vs c.Z (λv Z=>ok (lG v) λl=>ok (ag Z l) λJ=>N vs (Z.set l (.list []))) X):Î cx.M F.A (ZQ (.Delete ts p) F.env) (QS F c N R) (XX F c X) c.s:=by
 refine cw h λo G h=>Un G λq q' G=>?_
 subst G
 refine wpAny_Delete ?_
 refine Á (Á (bq H (.refl _ _ _) e h λc₁ w u1 l₁ a1 e₁ r1 h=>cw h λl h0 h=>cw h λxs hx hN=>Á (ä ?_)))
 refine Á (Å (Á (ä (Å (Á (ä (Å ?_)))))))
 refine į ?_
 generalize z:({ cls:=.type "slice",data:=.fields #[.none,.none,.none] }:ϑ)=ob
 have j:ob.isFreed=Ï:=by rw[<-z];rfl
 have y:=af c₁.s
 have k:∀b Q,c₁.s.heap.get? b=C Q->(c₁.s.heap.push ob).get? b=C Q:=λb Q e=>Ñ _ e
 have D:bt [] c₁.g c₁.s (c₁.g.freeze c₁.s.heap.objs.size ob) { c₁.s with heap:=c₁.s.heap.push ob }:=.freeze (t:=c₁.s.toks) c₁.i (Ë _) y k
 have i2:Inv (c₁.g.freeze c₁.s.heap.objs.size ob) c₁.Z { c₁.s with heap:=c₁.s.heap.push ob }:=c₁.i.freeze (t:=c₁.s.toks) (Ë _) y (ê _ j) k
 obtain rfl:=yo h0
 refine Á (ī (Á (ä (JN i2 (r1.mono D.le) (list_eq hx) (by rw[z];exact ê _ j) λs3 acT i3=>ZT (Å ?_)))))
 exact .n ⟨_,_,s3,i3⟩ vs (a1.trans (D.trans acT).own) (e₁.go (D.trans acT)) hN
end
structure mm (s₀:Ç) (g:G) (s:Ç) (À:G) (V:Ç):Prop where
 le:g.le À
 toks:s.toks<=V.toks
 keep:∀b o,s.heap.get? b=C o->(∃o,s₀.heap.get? b=C o)\/b∈g.ρ\/(∃o,g.I b=C o)->V.heap.get? b=C o
 new:∀b,b∉g.ρ->b∉À.ρ
 newI:∀b o,s.heap.get? b=C o->g.I b=U->À.I b=U
 gens:∀(k:Ó) y,k<s₀.gens.size->s.gens[k]? = C y->V.gens[k]? = C y
 os:V.os=s.os
def bG (s₀:Ç) (g:G) (b:Ü):Prop:=s₀.heap.get? b=U/\b∉g.ρ/\g.I b=U
inductive Vu (s₀:Ç) (c:Cf) (x:AV) (O:Cf->Prop) (r:Æ Ê):Ç->Prop
 | mk (c':Cf) (u:Ê) (e:r=C u) (a:mm s₀ c.g c.s c'.g c'.s) (Z:c'.Z=c.Z) (q:VR c'.g x u) (m:O c'):Vu s₀ c x O r c'.s
inductive Vt (s₀:Ç) (c:Cf) (r:Æ Ê):Ç->Prop
 | mk (c':Cf) (e:r=U) (a:mm s₀ c.g c.s c'.g c'.s) (Z:c'.Z=c.Z):Vt s₀ c r c'.s
noncomputable def dL:È Λ:=["enumerate","zip","dict_itemiterator","dict_reverseitemiterator","odict_iterator","itertools.zip_longest","itertools.pairwise"]
structure WK (A:Ā) (s₀:Ç) (I:Ü) (src:aa->Prop) (xs:ZB) (O:Ó->Cf->Prop):Prop where
 next:∀{i c x},O i c->src c.Z->xs[i]? = C x->Î cx.M A (Xo (.ref I)) (Vu s₀ c x (O (i+1))) bj c.s
 done:∀{c},O xs.length c->src c.Z->Î cx.M A (Xo (.ref I)) (Vt s₀ c) bj c.s
 frame:∀{i c c' own},O i c->bt own c.g c.s c'.g c'.s->(∀b∈own,∃o,s₀.heap.get? b=C o)->O i c'
 self:∀{i c} {Q:Ê->Ç->Prop},O i c->Q (.ref I) c.s->Î cx.M A (sz (.ref I)) Q bj c.s
 cls:∀{i c},O i c->∃o T,c.s.heap.get? I=C o/\o.cls = .type T/\dL.contains T=Ï
section
variable {n:Ó} {F:Fr n} {vs:Vs} {c c' c₀:Cf} {Z:aa} {g À g₀:G} {s V s₀:Ç} {A:Ā} {own:È Ü} {I:Ü} {src:aa->Prop} {xs:ZB} {O:Ó->Cf->Prop}
def bt.w! {s₁:Ç} (a:bt own g₀ s₁ g s) (b:mm s₀ g s À V) (h:∀b o,s₁.heap.get? b=C o->∃o,s₀.heap.get? b=C o) (G:s₁.gens.size<=s₀.gens.size):bt own g₀ s₁ À V:=
 ⟨a.le.trans b.le,Â a.toks b.toks,λx o e p q=>b.keep x o (a.keep x o e p q) (.inl (h x o e)),λx o e p=>b.new x (a.new x o e p),
  λx o e p=>let ⟨o',e'⟩:=a.stay x o e;b.newI x o' e' (a.newI x o e p),λx o e=>let ⟨o',e'⟩:=a.stay x o e;⟨o',b.keep x o' e' (.inl (h x o e))⟩,
  λk y e=>b.gens k y (ô (ĩ.mp e).1 G) (a.gens k y e),b.os.trans a.os⟩
def bt.x! (a:bt own g₀ s₀ g s) (b:mm s₀ g s À V):bt own g₀ s₀ À V:=a.w! b (λJ o e=>⟨o,e⟩) (Ë _)
def At.stepI (e:At F vs c) (a:mm s₀ c.g c.s c'.g c'.s) (H:∃o,s₀.heap.get? F.env.locals=C o) (Q:∀x b,oM F.ks x->F.env.cells.lookup x=C b->∃o,s₀.heap.get? b=C o) (E:∀e∈F.frs,∀L,e.frame=C L->∃o,s₀.heap.get? L=C o):At F vs c':=e.gen a.le λb o acT j l G=>⟨a.keep b o G (.inl (acT.elim (λz=>z▸H) λz=>z.elim ((by rintro⟨x,k,q⟩;exact Q x b k q)) (by rintro⟨f,N,q⟩;exact E f N b q))),a.new b j,a.newI b o G l⟩
def bG.no (n:bG s₀ g I) (h:∃o,s₀.heap.get? I=C o):False:=let ⟨o,h⟩:=h;nomatch (n.1.symm.trans h:U=C o)
def mm.write {h':ę} {t:Ó} (G:s.toks<=t) (k:∀b o,s.heap.get? b=C o->b≠I->h'.get? b=C o) (n:bG s₀ g I):mm s₀ g s g { s with heap:=h',toks:=t }:=
 ⟨.refl g,G,λb o e q=>k b o e λz=>q.elim (λq=>n.no (z▸q)) λq=>q.elim (λq=>n.2.1 (z▸q)) (by rintro⟨o,h⟩;exact(nomatch (n.2.2.symm.trans (z▸h):U=C o))),λJ h=>h,λJ J J h=>h,λJ J J e=>e,rfl⟩
def Inv.i! (i:Inv g Z s) {h':ę} {t:Ó} (L:s.toks<=t) (n:bG s₀ g I) (k:∀b o,s.heap.get? b=C o->b≠I->h'.get? b=C o):Inv g Z { s with heap:=h',toks:=t }:=
 ⟨λb o e=>k b o (i.sub b o e) (λz=>by rw[z,n.2.2]at e;contradiction),i.base,i.len,i.nodup,i.apart,
  λl o b e q=>(i.cells l o b e q).mono (.refl g) λQ G=>k b Q G λz=>n.2.1 (z▸Ĉ q),Â i.one L,i.bare,i.H⟩
def bG.go (h:bG s₀ g I) (a:bt own g s À V) (e:∃o,s.heap.get? I=C o):bG s₀ À I:=let ⟨o,e⟩:=e;⟨h.1,a.new _ _ e h.2.1,a.newI _ _ e h.2.2⟩
def vz {t:ñ} {u:Ê} {o:ϑ} {T:Λ} {Q:ab->Ç->Prop} {E:Ê->Ç->Prop} (acT:s.heap.get? I=C o) (L:o.cls = .type T) (H:dL.contains T=Ï) (G:Q () s):Î cx.M A (r_ t (.ref I) u) Q E s:=by
 have body:∀a:Ü,Î cx.M A (do
  let o <-load I
  match o.cls,o.data with
  | .type n,.fields vs=>
   if dL.contains n&&vs[0]?==C (ŏ a)then
    rule "for.unpacks-the-owned-tuple"
    updateField I 0 .none
  | _,_=>pure ()) Q E s:=λa=>by
  refine Á (X3 acT ?_)
  rw[L]
  rcases o.data<;>first|exact Å G|skip
  simp only[H,Yq,ĭ,δ]
  exact Å G
 rcases t<;>first|exact Å G|(rcases u<;>first|exact Å G|exact body _)
def Na (L:Prop) (fp:È Ü) (s₀:Ç) (g₀:G) (I:Ü) (H:Ó->ę->Prop) (i:Ó) (c:Cf):Prop:=∀(st:H i c.s.heap) (le:g₀.le c.g) (n:bG s₀ c.g I),L
def Tz:=λQ s₀ g₀ I H i c=>∀L,Na L Q s₀ g₀ I H i c->L
def Tz.mk:Na (Tz fp s₀ g₀ I St' i c) fp s₀ g₀ I St' i c:=λst le n J G=>G st le n
def WK.q! {j:È Ü} {P:Ó->Ê->Prop} {H:Ó->ę->Prop} (W:Walks cx.prog cx.w A I j [I] xs.length P H) (hP:∀i v,i<xs.length->P i v->∃x,xs[i]? = C x/\VR g₀ x v)
 (l:∀b∈j,b=I\/∃o,g₀.I b=C o) (d:∀i h,H i h->∃o T,h.get? I=C o/\o.cls = .type T/\dL.contains T=Ï):WK A s₀ I src xs (Tz j s₀ g₀ I H) where
 next:=by
  rintro i c x N;refine N _ λst le G J e=>?_
  have L:=(î.mp e).1
  refine cy (W.item i c.s _ _ L st λv h' tk hv z k E=>?_)
  rcases _:hP i v L hv with⟨y,m,ry⟩
  rw[e]at m;obtain rfl:=Ä m
  have acT:∀b o,c.s.heap.get? b=C o->b≠I->h'.get? b=C o:=λb o e q=>k b o (by simpa using q) e
  exact .mk ⟨c.g,c.Z,_,c.i.i! E G acT⟩ v rfl (.write E acT G) rfl (ry.mono le) (.mk z le G)
 done:=by
  rintro c N;refine N _ λst le G J=>?_
  refine cy (W.done c.s _ _ st λh' tk k E=>?_)
  have acT:∀b o,c.s.heap.get? b=C o->b≠I->h'.get? b=C o:=λb o e q=>k b o (by simpa using q) e
  exact .mk ⟨c.g,c.Z,_,c.i.i! E G acT⟩ rfl (.write E acT G) rfl
 frame:=by
  rintro i c c' own N;refine N _ λst le G a ho=>?_
  rcases _:d _ _ st with⟨o,T,t,_⟩
  refine(.mk (W.frame i _ _ st λb hb ob e=>?_) (le.trans a.le) (G.go a ⟨o,t⟩))
  rcases l b hb with rfl|⟨o',Q⟩
  ·exact a.keep _ _ e G.2.1 λq=>G.no (ho _ q)
  ·have r:=c.i.sub _ _ (le.I _ _ Q)
   rw[e]at r;obtain rfl:=Ä r
   exact c'.i.sub _ _ (a.le.I _ _ (le.I _ _ Q))
 self:=λy q=>y _ λst J J=>W.self _ _ _ _ st q
 cls:=λy=>y _ λst J J=>d _ _ st
def M7 (G:Prop) (s₀:Ç) (l:Ó) (I:Ü) (i:Ó) (c:Cf):Prop:=∀(p:Ü) (e:c.g.ρ[l]? = C p) (it:c.s.heap.IsListIter I p i) (n:bG s₀ c.g I),G
def TY:=λs₀ l I i c=>∀G,M7 G s₀ l I i c->G
def TY.mk:M7 (TY s₀ l I i c) s₀ l I i c:=λp e it n J G=>G p e it n
inductive TX (Z:aa) (l:Ó) (p:ì×È AV):Prop
 | l (ys:ZB) (h:Z[l]? = C (.list ys)) (e:p=(Í,ys))
 | d (kvs:ZF) (h:Z[l]? = C (.dict kvs)) (e:p=(Ï,kvs.map λkv=>.str kv.1))
def P8 {Z:aa} {l:Ó} {p:ì×È AV} (h:uj Z (.loc l)=C p):TX Z l p:=
 eY h (λxs G h=>.l xs (list_eq G) (Ä h).symm) λJ h=>bC h λkvs G h=>.d kvs (sd G) h.symm
def Qa {Z:aa} {l:Ó} {ys:ZB} (h:uj Z (.loc l)=C (Í,ys)):Z[l]? = C (.list ys):=(by refine Ř λG=>?_;rcases P8 h with⟨_,h,e⟩|⟨_,_,e⟩;exact G (by rw[(ŋ e).2];exact h);exact G (nomatch (ŋ e).1))
def P9 {Z:aa} {l:Ó} {ys:ZB} (h:uj Z (.loc l)=C (Ï,ys)):∃kvs,Z[l]? = C (.dict kvs)/\ys=kvs.map λG=>.str G.1:=(by rcases P8 h with⟨_,_,e⟩|⟨kvs,h,e⟩;exact nomatch (ŋ e).1;exact⟨kvs,h,(ŋ e).2⟩)
def WK.v' {l:Ó} {ys:ZB} (hA:A.handled=U) (H:∀Z,src Z->Z[l]? = C (.list ys)):WK A s₀ I src ys (TY s₀ l I) where
 next:=by
  rintro i c x E;refine E _ λp L it G h e=>?_
  refine c.i.cells _ _ _ (H _ h) L _ λus H q z=>?_
  rcases _:q.get e with⟨v,hv,rv⟩
  refine aaL it H.isList (x:=v) (by simpa using hv) λh' N d=>?_
  have Q:∀b o,c.s.heap.get? b=C o->b≠I->h'.get? b=C o:=λb o e q=>(d.2 b q).trans e
  exact .mk ⟨c.g,c.Z,_,c.i.i! (t:=c.s.toks) (Ë _) G Q⟩ v rfl (.write (t:=c.s.toks) (Ë _) Q G) rfl rv (.mk p L N G)
 done:=by
  rintro c E;refine E _ λp L it G h=>?_
  refine c.i.cells _ _ _ (H _ h) L _ λus H q z=>?_
  refine aba hA it H.isList (by rw[Ŷ,ϩ,<-q.length];exact Ë _) λh' m=>?_
  have Q:∀b o,c.s.heap.get? b=C o->b≠I->h'.get? b=C o:=λb o e q=>m b o q e
  exact .mk ⟨c.g,c.Z,_,c.i.i! (t:=c.s.toks) (Ë _) G Q⟩ rfl (.write (t:=c.s.toks) (Ë _) Q G) rfl
 frame:=by
  rintro i c c' own E;refine E _ λp L it G a j=>?_
  rcases _:it with⟨o,acT,r⟩
  exact(.mk p (a.le.at L) ⟨o,a.keep _ _ acT G.2.1 λq=>G.no (j _ q),r⟩ (G.go a ⟨o,acT⟩))
 self:=λy q=>y _ λJ J it J=>wpAny_pyIter_listiter it q
 cls:=λy=>y _ λJ J it J=>(by obtain⟨o,acT,w,_⟩:=it;exact⟨o,_,acT,w,by rfl⟩)
def M8 (G:Prop) (s₀:Ç) (l n:Ó) (I:Ü) (i:Ó) (c:Cf):Prop:=∀(p:Ü) (e:c.g.ρ[l]? = C p) (it:c.s.heap.IsKeyIter I p i n n) (n:bG s₀ c.g I),G
def TZ:=λs₀ l n I i c=>∀G,M8 G s₀ l n I i c->G
def TZ.mk:M8 (TZ s₀ l n I i c) s₀ l n I i c:=λp e it n J G=>G p e it n
def WK.v! {l:Ó} {ys:ZB} (hA:A.handled=U) (hl:∀Z,src Z->∃kvs,Z[l]? = C (.dict kvs)/\ys=kvs.map λkv=>.str kv.1):WK A s₀ I src ys (TZ s₀ l ys.length I) where
 next:=by
  rintro i c x acT;refine acT _ λp L it H h e=>?_
  obtain⟨kvs,j,rfl⟩:=hl _ h
  refine c.i.cells _ _ _ j L _ λus m q J z y=>?_
  rw[length_map]at it ⊢
  obtain⟨⟨k,w⟩,d,rfl⟩:=Ħ.mp ((Ė ..).symm.trans e)
  have Q:∃u,((kvs.map (·.1)).zip us)[i]? = C (k,u):=by
   obtain⟨u,Q,_⟩:=q.get (i:=i) (x:=w) (by rw[Ė,d];rfl)
   exact⟨u,ϯ.mpr ⟨by rw[Ė,d];rfl,Q⟩⟩
  obtain⟨u,Q⟩:=Q
  have G:((kvs.map (·.1)).zip us).length=kvs.length:=by simp only[length_zip,length_map,<-q.length,length_map,Η]
  rw[<-G]at it
  refine wpAny_pyNext_dict_item it (G▸m) Q λkey h' hk x0 hs=>?_
  obtain⟨t,rfl⟩:∃t,key = .str k t:=by rcases kdl_flat_str hk c.s.heap;exact⟨_,rfl⟩
  have E:∀b o,c.s.heap.get? b=C o->b≠I->h'.get? b=C o:=λb o e q=>(hs.2 b q).trans e
  exact .mk ⟨c.g,c.Z,_,c.i.i! (t:=c.s.toks) (Ë _) H E⟩ _ rfl (.write (t:=c.s.toks) (Ë _) E H) rfl (.g! _ (y _ (Ĉ d))) (.mk p L (G▸x0) H)
 done:=by
  rintro c acT;refine acT _ λp L it H h=>?_
  obtain⟨kvs,j,rfl⟩:=hl _ h
  refine c.i.cells _ _ _ j L _ λus m q J z y=>?_
  have G:((kvs.map (·.1)).zip us).length=kvs.length:=by simp only[length_zip,length_map,<-q.length,length_map,Η]
  rw[length_map,<-G]at it
  refine wpAny_pyNext_dict_end hA it (G▸m) (ϩ.mpr (Ë _)) λh' hx=>?_
  have E:∀b o,c.s.heap.get? b=C o->b≠I->h'.get? b=C o:=λb o e q=>hx b o q e
  exact .mk ⟨c.g,c.Z,_,c.i.i! (t:=c.s.toks) (Ë _) H E⟩ rfl (.write (t:=c.s.toks) (Ë _) E H) rfl
 frame:=by
  rintro i c c' own acT;refine acT _ λp L it H a hI=>?_
  rcases _:it with⟨o,N,r⟩
  exact(.mk p (a.le.at L) ⟨o,a.keep _ _ N H.2.1 λq=>H.no (hI _ q),r⟩ (H.go a ⟨o,N⟩))
 self:=λy q=>y _ λJ J it J=>wpAny_pyIter_keyiter it q
 cls:=λy=>y _ λJ J it J=>(by obtain⟨o,N,hc,_⟩:=it;exact⟨o,_,N,hc,by rfl⟩)
end
set_option tactic.hygienic true in def nY (a b:Į):l_ a b 1=((b - a).toNat:Į):=by
 unfold l_
 rw[Û Zz]
 split
 ·rename_i h
  simp only[Int.ediv_one,Int.sub_add_cancel,ZZ (Int.sub_nonneg_of_le (Int.le_of_lt h))]
 ·rename_i h
  rw[Int.toNat_eq_zero.mpr (Int.sub_nonpos_of_le (aao.mp h))];rfl
def ey {k:Į} {n:Ó} (h:k.natAbs<=n) (D:n<=2 ^ 31):WV k=Í:=by
 unfold WV
 have B:=nA (Â h D)
 rw[õ (d_ Zz B.1),õ (ϻ B.2 Zz)];rfl
def wg {a b:Į} (D:a.natAbs<2 ^ 30) (B:b.natAbs<2 ^ 30):y_ a b 1=Í:=by
 unfold y_
 rw[nY,ey (ð D) Zz,ey (ð B) Zz,ey (k:=1) (Ë 1) Zz,
  ey (k:=((b - a).toNat:Į)) (n:=2 ^ 31) ?_ (Ë _),Û Zz,Int.sub_self,Int.add_zero,ey (ð B) Zz,n_]
 ·rfl
 ·refine Int.toNat_le.mpr (d_ (Int.add_le_add (nA (ð B)).2 (abX (nA (ð D)).1)) Zz)
inductive fW (A:Ā) (c:Cf) (src:aa->Prop) (xs:ZB) (it:Ê):Ç->Prop
 | mk (c':Cf) (I:Ü) (St:Ç->Ó->Cf->Prop) (e:it = .ref I) (n:c.s.heap.get? I=U) (a:bt [] c.g c.s c'.g c'.s) (Z:c'.Z=c.Z) (W:∀s₀,WK A s₀ I src xs (St s₀)) (st:∀s₀:Ç,s₀.heap.get? I=U->St s₀ 0 c'):fW A c src xs it c'.s
section
variable {c:Cf} {A:Ā} {v:AV} {u:Ê} {xs:ZB} {src:aa->Prop}
def dE {o:ϑ} {St:Ç->Ó->Cf->Prop} (W:∀s₀,WK A s₀ c.s.heap.objs.size src xs (St s₀)) (st:∀(i:Inv c.g c.Z { c.s with heap:=c.s.heap.push o }) s₀,bG s₀ c.g c.s.heap.objs.size->St s₀ 0 ⟨c.g,c.Z,{ c.s with heap:=c.s.heap.push o },i⟩):fW A c src xs (.ref c.s.heap.objs.size) { c.s with heap:=c.s.heap.push o }:=
 have G:∀b D,c.s.heap.get? b=C D->(c.s.heap.push o).get? b=C D:=λb D e=>Ñ o e
 have B:=af c.s
 have i:=c.i.keep (t:=c.s.toks) (Ë _) G
 .mk ⟨c.g,c.Z,_,i⟩ _ St rfl B (.keeps (t:=c.s.toks) (Ë _) G) rfl W λs₀ H=>st i s₀ ⟨H,(c.i.fresh B).2,(c.i.fresh B).1⟩
def WK.t! {m:Ó} {I:Ü} {g₀:G} {s₀:Ç} {D:È Ü} {P:Ó->Ê->Prop} {B:Ó->ę->Prop} (W:Walks cx.prog cx.w A I D [I] m P B) (O:m=xs.length) (hP:∀i v,i<m->P i v->∃x,xs[i]? = C x/\VR g₀ x v)
 (H:∀b∈D,b=I\/∃o,g₀.I b=C o) (L:∀i h,B i h->∃o T,h.get? I=C o/\o.cls = .type T/\dL.contains T=Ï):WK A s₀ I src xs (Tz D s₀ g₀ I B):=by
 subst O;exact .q! W hP H L
def AU (hA:A.handled=U) (r:VR c.g v u) {p:ì×È AV} (e:uj c.Z v=C p):Î cx.M A (sz u) (fW A c (λZ=>uj Z v=C p) p.2) bj c.s:=by
 induction v using AV.casesOn with
 | loc l=>
  rcases _:r with⟨q,rfl,hp⟩
  rcases _:P8 e with⟨ys,N,rfl⟩|⟨kvs,N,rfl⟩
  ·(refine c.i.cells _ _ _ N hp _ λus hl qq z=>?_)
   exact Ϩ hl.isList (dE (λJ=>WK.v' hA λZ h=>Qa h) λi J D=>(.mk q hp ⟨_,ê _ rfl,rfl,rfl⟩ D))
  ·(refine c.i.cells _ _ _ N hp _ λus hd qq y1 z y=>?_)
   have B:((kvs.map (·.1)).zip us).length=(kvs.map λkv=>AV.str kv.1).length:=by simp only[length_zip,length_map,<-qq.length,length_map,Η,length_map]
   exact K_ y1 hd (dE (λJ=>WK.v! hA λZ h=>P9 h) λi J D=>(.mk q hp ⟨_,ê _ rfl,rfl,by rw[B,length_map];rfl⟩ D))
 | fl ys=>
  obtain rfl:=Ä e
  (refine r _ ?_;rintro a o us rfl V ⟨k,rfl⟩ q z)
  have x2:a≠c.s.heap.objs.size:=Ĝ (Ŀ (c.i.sub _ _ V))
  have ht:c.s.heap.IsList a us.toArray:=⟨_,c.i.sub _ _ V,rfl,k,rfl⟩
  have W:=ZO (prog:=cx.prog) (w:=cx.w) hA c.s.heap.objs.size a x2 us.toArray
  refine Ϩ ht (dE (λJ=>WK.t! (g₀:=c.g) W q.length.symm (λj w J acT=>?_) (λb G=>?_) λj h st=>?_) λi J D=>(.mk ⟨⟨_,ê _ rfl,rfl,rfl⟩,ht.push _⟩ (.refl _) D))
  ·have m:us[j]? = C w:=by simpa using acT
   have E:j<ys.length:=by rw[q.length];exact(î.mp m).1
   rcases _:q.get (i:=j) (x:=ys[j]) (by simp[E])with⟨w',I,h2⟩
   rw[m]at I;cases I
   exact⟨ys[j],by simp[E],h2⟩
  ·simp at G
   exact G.imp id λh=>⟨_,h▸V⟩
  ·obtain⟨⟨o,O,H,_⟩,_⟩:=st
   exact⟨o,_,O,H,by rfl⟩
 | fd ks ys=>
  obtain rfl:=Ä e
  (refine r _ ?_;rintro d o us rfl Y x0 hl q Q hz x1)
  obtain⟨ep,L⟩:=(m_.mpr ⟨o,c.i.sub _ _ Y,x0⟩).dictAt
  have B:(ks.zip us).length=(ks.map AV.str).length:=by simp only[length_zip,<-q.length,hl,Η,length_map,hl]
  have W:=Yf (prog:=cx.prog) (w:=cx.w) (knd:=cx.sk) hA c.s.heap.objs.size d (Ĝ L.lt_size) (ks.zip us) ep
  refine K_ Q L (dE (λJ=>WK.t! (g₀:=c.g) W B (λj w J acT=>?_) (λb G=>?_) λj h st=>?_) λi J D=>(.mk ⟨⟨_,ê _ rfl,rfl,rfl⟩,L.push _⟩ (.refl _) D))
  ·obtain⟨k,x,I,h2⟩:=acT
   obtain⟨t,rfl⟩:∃t,w = .str k t:=by rcases kdl_flat_str h2 c.s.heap;exact⟨_,rfl⟩
   have I:=(ϯ.mp I).1
   exact⟨.str k,by simp only[Ė,I];rfl,.g! _ (x1 _ (Ĉ I))⟩
  ·simp at G
   exact G.imp id λh=>⟨_,h▸Y⟩
  ·obtain⟨⟨o,O,H,_⟩,_⟩:=st
   exact⟨o,_,O,H,by rfl⟩
 | str y=>
  obtain rfl:=Ä e
  (refine r.c! _ ?_;rintro t rfl z)
  have items:∀j w,j<y.cps.size->SignAt y j w->∃x,(n9 y)[j]? = C x/\VR c.g x w:=by
   rintro j _ _ ⟨ch,u',H,rfl⟩
   exact⟨.str (cN ch),by simp only[n9,Ė,Š,H];rfl,.g! _ (by show 1<=Ö;decide)⟩
  have B:y.cps.size=(n9 y).length:=by simp[n9]
  rcases ha:y.cps.all (· < 128)
  ·have W:=Walks.strWide (prog:=cx.prog) (w:=cx.w) hA c.s.heap.objs.size y t
   refine wpAny_pyIter_wide ha (dE (λJ=>WK.t! (g₀:=c.g) W B items (λb G=>.inl (by simpa using G)) λj h st=>?_) λi J D=>(.mk ⟨_,ê _ rfl,rfl,rfl⟩ (.refl _) D))
   obtain⟨o,O,H,_⟩:=st
   exact⟨o,_,O,H,by rfl⟩
  ·have W:=Walks.strAscii (prog:=cx.prog) (w:=cx.w) hA c.s.heap.objs.size y t
   refine wpAny_pyIter_ascii ha (dE (λJ=>WK.t! (g₀:=c.g) W B items (λb G=>.inl (by simpa using G)) λj h st=>?_) λi J D=>(.mk ⟨_,ê _ rfl,rfl,rfl⟩ (.refl _) D))
   obtain⟨o,O,H,_⟩:=st
   exact⟨o,_,O,H,by rfl⟩
 | rng a b=>
  refine aQ e λÀ N=>?_
  obtain rfl:=Ä N
  (refine r _ ?_;rintro p o rfl V ⟨t,t',w',rfl⟩)
  have hsz:l_ a b 1=((b - a).toNat:Į):=nY a b
  have Q:y_ a b 1=Í:=wg À.1 À.2
  have hr:IsRange c.s.heap p a b 1 t t' w':=c.i.sub _ _ V
  have W:=Walks.range (prog:=cx.prog) (w:=cx.w) hA c.s.heap.objs.size a 1 (b - a).toNat
  have B:(b - a).toNat=(nX a b).length:=by simp[nX]
  refine wpAny_pyIter_range hr Q (dE (λJ=>WK.t! (g₀:=c.g) W B (λj w m acT=>?_) (λb G=>.inl (by simpa using G)) λj h st=>?_) λi J D=>(.mk ?_ (.refl _) D))
  ·obtain⟨t,rfl⟩:=acT
   refine⟨.int (a+(j:Į)),?_,by rw[Int.mul_one];exact .l! _⟩
   unfold nX
   simp only[Ė,Y0 m];rfl
  ·exact⟨_,_,st,rfl,by rfl⟩
  ·show IsRangeIter _ _ (a+((0:Ó):Į) * 1) (((b - a).toNat:Į) - ((0:Ó):Į)) 1
   rw[show a+((0:Ó):Į) * 1=a by simp,show((b - a).toNat:Į) - ((0:Ó):Į)=(b - a).toNat by rfl,<-hsz]
   exact ê _ rfl
 | _=>exact aD e
end
def ib (h:ę) (p:Ü->ì):ę:={ h with objs:=h.objs.mapIdx λi o=>bif p i then⟨.none,U,.freed,#[]⟩else o }
def cY (h:ę) (p:Ü->ì) (b:Ü):(ib h p).get? b=bif p b then U else h.get? b:=by
 unfold get? ib
 rw[Array.getElem?_mapIdx]
 cases h.objs[b]? with
 | none=>cases p b<;>rfl
 | some o=>cases p b<;>rfl
structure Ch (h₀:ę) (l:È ϙ) (c c':Cf):Prop where
 g:c'.g=c.g
 Z:c'.Z=c.Z
 toks:c.s.toks<=c'.s.toks
 keep:∀b o,c.s.heap.get? b=C o->(∃o,h₀.get? b=C o)\/b∈c.g.ρ\/(∃o,c.g.I b=C o)->b∉jM l->c'.s.heap.get? b=C o
 slots:gB l c.s.heap c'.s.heap
 gens:c'.s.gens=c.s.gens
 os:c'.s.os=c.s.os
section
variable {n:Ó} {F:Fr n} {vs:Vs} {c c' G c₀:Cf} {h₀:ę} {l:È ϙ} {own:È Ü} {A:Ā} {E:Ê->Ç->Prop} {P:Æ Ê->Prop} {m:Ì} {u:Ê}
def Ch.trans (a:Ch h₀ l c c') (b:Ch h₀ l c' G):Ch h₀ l c G:=
 ⟨b.g.trans a.g,b.Z.trans a.Z,Â a.toks b.toks,λx o e q z=>b.keep x o (a.keep x o e q z) (by rw[a.g];exact q) z,λL h o e=>let ⟨z,e⟩:=a.slots L h o e;(by obtain⟨H,e⟩:=b.slots L h _ e;exact⟨H,e⟩),b.gens.trans a.gens,b.os.trans a.os⟩
def Ch.refl (h₀:ę) (l:È ϙ) (c:Cf):Ch h₀ l c c:=⟨rfl,rfl,Ë _,λJ J e J J=>e,λJ J o e=>⟨o.slots,e⟩,rfl,rfl⟩
def bt.ch (a:bt own c₀.g c₀.s c.g c.s) (O:∀L∈jM l,L∈own) (b:Ch c₀.s.heap l c c'):bt own c₀.g c₀.s c'.g c'.s:=by
 refine⟨b.g▸a.le,Â a.toks b.toks,λx o e p q=>b.keep x o (a.keep x o e p q) (.inl ⟨o,e⟩) λh=>q (O _ h),λx o e p=>by rw[b.g];exact a.new x o e p,λx o e p=>by rw[b.g];exact a.newI x o e p,
  λx o e=>?_,λk y e=>by rw[b.gens];exact a.gens k y e,b.os.trans a.os⟩
 obtain⟨I,H⟩:=a.stay x o e
 by_cases h:x∈jM l
 ·obtain⟨z,e⟩:=b.slots x h _ H;exact⟨_,e⟩
 ·exact⟨I,b.keep x I H (.inl ⟨o,e⟩) h⟩
def Ck (F:Fr n) {x:Ì} {b:Ü} (h:F.env.cells.lookup x=C b):b∉jM F.frs:=λq=>(by obtain⟨f,I,H⟩:=ĵ.mp q;exact F.fc f I b H x b h rfl)
def At.slots (e:At F vs c) (le:c.g.le c'.g) (Q:∀b o,c.s.heap.get? b=C o->b∉c.g.ρ->b∉c'.g.ρ) (H:∀b o,c.s.heap.get? b=C o->c.g.I b=U->c'.g.I b=U) (sl:gB F.frs c.s.heap c'.s.heap)
 (keep:∀b o,c.s.heap.get? b=C o->b∉c.g.ρ->b∉jM F.frs->b=F.env.locals\/(∃x,oM F.ks x/\F.env.cells.lookup x=C b)->c'.s.heap.get? b=C o):At F vs c':=by
 refine e.loc _ λm y hv=>?_
 have w:c'.s.heap.Ns F.env.locals m:=by
  by_cases h:F.env.locals∈jM F.frs
  ·obtain⟨o,es,ep,V,j,r⟩:=y
   obtain⟨z,O⟩:=sl _ h _ V
   exact⟨_,es,ep,O,j,r⟩
  ·exact ie y λo q=>keep _ _ q e.locA.1 h (.inl rfl)
 obtain⟨lo,À⟩:=bJ y
 refine⟨e.len,(.mk m w (λx v acT q=>(by obtain⟨u,p,q⟩:=hv x v acT q;exact⟨u,p,q.mono le⟩))),⟨Q _ _ À e.locA.1,H _ _ À e.locA.2⟩,λx acT=>?_,λf hf L t=>?_⟩
 ·refine e.cel x acT _ λb N d c2 c3 o i cv=>?_
  obtain⟨oc,Y⟩:=cS i
  exact(.mk b N (Q _ _ Y d) (H _ _ Y c2) c3 o (zF i λo q=>keep _ _ q d (Ck F N) (.inr ⟨x,acT,N⟩)) (λv q=>(by obtain⟨u,p,q⟩:=cv v q;exact⟨u,p,q.mono le⟩)))
 ·refine e.frm f hf L t _ λo V j n1 n2=>?_
  obtain⟨z,O⟩:=sl L (ĵ.mpr ⟨f,hf,t⟩) o V
  exact(.mk _ O j (Q _ _ V n1) (H _ _ V n2))
def At.ch (e:At F vs c) (k:Ch h₀ F.frs c c') (H:∃o,h₀.get? F.env.locals=C o) (I:∀x b,oM F.ks x->F.env.cells.lookup x=C b->∃o,h₀.get? b=C o):At F vs c':=
 e.slots (k.g▸.refl _) (λJ J J h=>k.g▸h) (λJ J J h=>k.g▸h) k.slots λb o q J Q h=>k.keep b o q (.inl (h.elim (λz=>z▸H) (by rintro⟨x,O,L⟩;exact I x b O L))) Q
def At.xc (e:At F vs c) (a:bt (jM F.frs) c.g c.s c'.g c'.s) (z:gB F.frs c.s.heap c'.s.heap):At F vs c':=e.slots a.le a.new a.newI z λb o q n H J=>a.keep b o q n H
def cr (l:È ϙ) (c:Cf):Prop:=∀e∈l,e.scope.kind≠.module/\∃L,e.frame=C L/\uH c.g c.s.heap L
def J5 (h:cr l c) {base:ę} (O:∀L∈jM l,base.get? L=U):c.s.heap.FunFrames base l:=by
 induction l with
 | nil=>trivial
 | cons e l V=>
  obtain⟨hk,L,I,y⟩:=h e (ã ..)
  refine y _ λo À Q J J=>?_
  exact⟨hk,⟨L,o,I,O L (ĵ.mpr ⟨e,ã ..,I⟩),À,Q⟩,V (λe H=>h e (à _ H)) λL h=>O L (ĵ.mpr ((by obtain⟨e,H,q⟩:=ĵ.mp h;exact⟨e,à _ H,q⟩)))⟩
def cr.at_ (h:cr l c) {L:Ü} (I:L∈jM l):uH c.g c.s.heap L:=by
 obtain⟨e,O,q⟩:=ĵ.mp I
 obtain⟨_,L',H,r⟩:=h e O
 rw[q]at H
 exact Ä H▸r
def cr.ch (h:cr l c) (k:Ch h₀ l c c'):cr l c':=λe O=>by
 obtain⟨Q,L,I,y⟩:=h e O
 refine y _ λo V À Y acT=>?_
 obtain⟨z,H⟩:=k.slots L (ĵ.mpr ⟨e,O,I⟩) o V
 exact⟨Q,L,I,.mk _ H À (by rw[k.g];exact Y) (by rw[k.g];exact acT)⟩
def Nn (O:cr l c) {h':ę} {q:Ü->Prop} (À:∀b,q b->h₀.get? b=U/\b∉c.g.ρ/\c.g.I b=U) (keep:∀b o,c.s.heap.get? b=C o->¬ q b->b∉jM l->h'.get? b=C o) (j:gB l c.s.heap h') :
 ∃i:Inv c.g c.Z { c.s with heap:=h' },Ch h₀ l c ⟨c.g,c.Z,{ c.s with heap:=h' },i⟩:=by
 have out:∀b,(∃o,h₀.get? b=C o)\/b∈c.g.ρ\/(∃o,c.g.I b=C o)->¬ q b:=λb h z=>by
  obtain⟨y,w,r⟩:=À b z
  rcases h with⟨o,h⟩|h|⟨o,h⟩
  ·rw[y]at h;cases h
  ·exact w h
  ·rw[r]at h;cases h
 have acT:∀b o,c.g.I b=C o->b∉jM l:=λb o e h=>by refine O.at_ h _ λJ J J J Y=>?_;rw[Y]at e;cases e
 have L:∀b,b∈c.g.ρ->b∉jM l:=λb e h=>by refine O.at_ h _ λJ J J V J=>?_;exact V e
 exact⟨⟨λb o e=>keep b o (c.i.sub b o e) (out b (.inr (.inr ⟨o,e⟩))) (acT b o e),c.i.base,c.i.len,c.i.nodup,c.i.apart,
  λl o b e q=>(c.i.cells l o b e q).mono (.refl _) λN Q=>keep b N Q (out b (.inr (.inl (Ĉ q)))) (L b (Ĉ q)),c.i.one,c.i.bare,c.i.H⟩,rfl,rfl,Ë _,λb o e h z=>keep b o e (out b h) z,j,rfl,rfl⟩
variable {D:È ϙ} {env:ϙ} {L:Ü}
inductive mf (h₀:ę) (l:È ϙ) (c:Cf) (m:Ì) (u:Ê) (fl:Ê):Ç->Prop
 | mk (c':Cf) (k:Ch h₀ l c c') (x:wU h₀ c' (· = C fl) m u):mf h₀ l c m u fl c'.s
structure MH (h₀:ę) (c:Cf) (m:Ì) (e t:Ü):Prop where
 f:h₀.get? e=U
 n:e∉c.g.ρ
 i:c.g.I e=U
 t:∃tk k,c.g.I t=C { cls:=.type "tuple",data:=.seq #[.str m tk] k }
 z:m.length<=Ö
def dU (l:È ϙ) (e À b:Ü):ì:=b==e||b==À||(jM l).contains b
def vY {l:È ϙ} {e À b:Ü} (h:¬ (b=e\/b=À)) (G:b∉jM l):dU l e À b=Ï:=by
 rw[Zk]at h
 unfold dU
 simp only[Œ h.1,Œ h.2,ϝ.mpr λq=>G (Ú.mp q)];rfl
def pJ {e t À:Ü} (V:cr l c) (X:MH h₀ c m e t) (hh:∀b,c.s.heap.get? b=U->h₀.get? b=U) (hU:À=e\/(h₀.get? À=U/\À∉c.g.ρ/\c.g.I À=U)) {Q:Ê} {h':ę}
 (N:NotedW (ib c.s.heap (dU l e À)) l e (.type "ValueError") (.ref t) Q c.s.heap h'):mf h₀ l c m (.ref e) Q { c.s with heap:=h' }:=by
 obtain⟨n1,n2,n3,n4⟩:=N
 have q0:∀b,b=e\/b=À->h₀.get? b=U/\b∉c.g.ρ/\c.g.I b=U:=λb h=>
  have q:e=b->h₀.get? b=U/\b∉c.g.ρ/\c.g.I b=U:=λz=>z▸⟨X.f,X.n,X.i⟩
  h.elim (λz=>q z.symm) λz=>hU.elim (λy=>q (y.symm.trans z.symm)) λy=>z▸y
 have keep:∀b o,c.s.heap.get? b=C o->¬ (b=e\/b=À)->b∉jM l->h'.get? b=C o:=λb o e' h h2=>n1 b o (by rw[cY,vY h h2];exact e')
 have sl:gB l c.s.heap h':=λL hL o O=>by
  refine V.at_ hL _ λo' G acT J J=>?_
  rw[O]at G
  exact n4 L o O λvs=>Ä G▸acT vs
 obtain⟨i',k⟩:=Nn (h₀:=h₀) V q0 keep sl
 obtain⟨oe,vs,T,oT,ts,he,⟨hc,h0⟩,acT,h1,H,Y,hT,Qu,h3⟩:=n3
 obtain⟨tk,kk,ht⟩:=X.t
 have d:h₀.get? T=U/\T∉c.g.ρ/\c.g.I T=U:=by
  by_cases z:T=e\/T=À
  ·exact q0 T z
  ·have j:T∉jM l:=λhf=>by
    refine V.at_ hf _ λo O r J J=>?_
    obtain⟨w,hw⟩:=sl T hf o O
    rw[hT]at hw
    obtain rfl:=Ä hw
    exact r _ Qu
   rw[cY,vY z j]at H
   exact⟨hh T H,(c.i.fresh H).2,(c.i.fresh H).1⟩
 exact .mk _ k (.mk e vs (.mk t oe _ tk kk rfl he hc acT h0 X.n X.i ht rfl X.z) X.f (.yes T oT ts Q h1 Y d.1 hT Qu h3 rfl d.2.1 d.2.2))
def mL (hF:cr l c) (w:l=env::D) (j:A.frames=C l) (r:env.frame=C L) (hh:∀b,c.s.heap.get? b=U->h₀.get? b=U) (hP:∀o,P o->o=U\/o=C .none\/o=C (ŏ L)) (x:wU h₀ c P m u) :
 Î cx.M A (wb u env) (λJ=>mf h₀ l c m u (ŏ L)) E c.s:=by
 refine x _ λe vs y f tb=>?_;(refine y _ ?_;rintro t oe ot tk k rfl acT hc Y d n i ht x0 z)
 subst x0
 have X:MH h₀ c m e t:=⟨f,n,i,⟨tk,k,ht⟩,z⟩
 have kb:∀p,(ib c.s.heap p).StaysIn c.s.heap:=λp b o q=>by
  rw[cY]at q
  revert q
  cases p b with
  | true=>exact λq=>nomatch q
  | false=>exact id
 have G:∀À,c.s.heap.FunFrames (ib c.s.heap (dU l e À)) (env::D):=λÀ=>w▸J5 hF λL h=>by
  rw[cY]
  have:dU l e À L=Í:=by unfold dU;rw[Ú.mpr h,n_]
  rw[this];rfl
 have g:∀À,(ib c.s.heap (dU l e À)).get? e=U:=λÀ=>by
  rw[cY]
  have:dU l e À e=Í:=by unfold dU;rw[ş];rfl
  rw[this];rfl
 rcases tb with⟨O,_⟩|⟨À,oU,us,fl,O,V,Q,hU,I,h3,hp,nU,iU⟩
 ·unfold wb
  simp only[r]
  refine Á (χ acT Y O ?_)
  exact wpAny_entryW (base:=ib c.s.heap (dU l e e)) (j.trans (Õ C w)) (G e) r acT (kb _) (g e) Y (ĩ.mp O).1 d λh' N=>pJ hF X hh (.inl rfl) (by rw[hc,<-w]at N;exact N)
 ·have hb:(ib c.s.heap (dU l e À)).get? À=U:=by
   rw[cY]
   have:dU l e À À=Í:=by unfold dU;rw[ş,n_];rfl
   rw[this];rfl
  have same:∀H,fl=H->mf h₀ l c m (.ref e) H c.s:=λH q=>.mk c (.refl _ _ _) (.mk e vs (.mk t oe _ tk k rfl acT hc Y d n i ht rfl z) f (.yes À oU us fl O V Q hU I h3 (Õ C q) nU iU))
  rcases hP _ hp with q|q|q
  ·cases q
  ·obtain rfl:=Ä q
   exact wpAny_noteFrame_onW (base:=ib c.s.heap (dU l e À)) (j.trans (Õ C w)) (G À) r ⟨oe,vs,À,oU,us,acT,⟨hc,d⟩,Y,O,hb,V,hU,I,h3⟩ (kb _) (g À) λh' N=>pJ hF X hh (.inr ⟨Q,nU,iU⟩) (by rw[<-w]at N;exact N)
  ·obtain rfl:=Ä q
   exact wpAny_noteFrame_inFlight r acT Y O hU I h3 (same _ rfl)
def fu (w:cr l c) {N:Ê} (x:wU h₀ c (· = C N) m u) (fr:Æ Ü):Î cx.M A (ade u fr) (λJ=>mf h₀ l c m u (fr.elim .none λf=>ŏ f)) E c.s:=by
 refine x _ λe vs y f tb=>?_;(refine y _ ?_;rintro t oe ot tk k rfl d hc r h0 n i ht Y z)
 rcases tb with⟨_,q⟩|⟨À,oU,us,N,g,I,H,Q,G,j,hp,nU,iU⟩
 ·contradiction
 unfold ade
 refine Á (χ d r g ?_)
 refine γ Q G (ĩ.mp j).1 ?_
 have acT:=Ĩ c.s.heap À (z_ (·.setIfInBounds 3 (fr.elim Ă λf=>ŏ f)))
 have O:=Xi G (·.setIfInBounds 3 (fr.elim Ă λf=>ŏ f))
 have hg:=œ (z_ (·.setIfInBounds 3 (fr.elim Ă λf=>ŏ f))) Q (Zu O)
 have nf:À∉jM l:=λh=>by
  refine w.at_ h _ λo ho V J J=>?_
  rw[Q]at ho
  obtain rfl:=Ä ho
  exact V _ G
 obtain⟨i',kk⟩:=Nn (h₀:=h₀) (h':=c.s.heap.update À (z_ (·.setIfInBounds 3 (fr.elim Ă λf=>ŏ f)))) w (q:=λb=>b=À) (λb h=>h▸⟨H,nU,iU⟩) (λb o e h J=>(acT.2 b h).trans e) λL h o e=>⟨o.slots,(acT.2 L λq=>nf (q▸h)).trans e⟩
 exact .mk _ kk (.mk e vs (.mk t oe ot tk k rfl ((acT.2 e (Zq I)).trans d) hc r h0 n i ht Y z) f (.yes À _ _ _ g I H hg O (Ϝ (ĩ.mp j).1) rfl nU iU))
def CD (I:cr l c) (À:l=env::D) (H:A.frames=C l) (O:env.frame=C L) (Q:∀b,c.s.heap.get? b=U->h₀.get? b=U) (hP:∀o,P o->o=U\/o=C .none\/o=C (ŏ L)) (x:wU h₀ c P m u) :
 Î cx.M A (Yj env u) (λJ=>mf h₀ l c m u .none) E c.s:=by
 unfold Yj
 refine Á (Ô (mL I À H O Q hP x) (λJ J x=>?_) λJ J x=>x)
 obtain⟨c',k,x⟩:=x
 exact Ô (fu (I.ch k) x U) (λJ J x=>(by rcases x with⟨G,V,x⟩;exact .mk G (k.trans V) x)) λJ J x=>x
def Gc (I:cr l c) (j:l=env::D) (H:A.frames=C l) (O:env.frame=C L) (g:∀b,c.s.heap.get? b=U->h₀.get? b=U) (hP:∀o,P o->o=U\/o=C .none\/o=C (ŏ L)) (x:wU h₀ c P m u) {Q:Ê->Ç->Prop} (q:∀V,mf h₀ l c m u (ŏ L) V->Q u V) :
 notedBy cx.M A env (X1 cx.M A env Q) u c.s:=by
 refine Ô (mL I j H O g hP x) (λJ J x=>?_) λJ J x=>x
 obtain⟨c',k,x⟩:=x
 have d:=x
 refine x _ λe vs y f r=>?_;(refine y _ ?_;rintro t oe ot tk kk rfl N hc acT h0 n i ht hot z)
 rcases r with⟨_,q⟩|⟨À,oU,us,fl,Y,_⟩
 ·cases q
 refine Á (χ N acT Y ?_)
 rw[O]
 exact Ô (fu (I.ch k) d (C L)) (λJ J x=>q _ ((by rcases x with⟨G,w,x⟩;exact .mk G (k.trans w) x))) λJ J x=>x
end
def pu (B:Prop) (A:Ā) (c:Cf) (ks:ZC) (it:Ê) (D:Ç):Prop:=∀(p:ZC) (h:p.Perm ks) (x:fW A c (λJ=>True) (p.map .str) it D),B
def lM:=λA c ks it D=>∀B,pu B A c ks it D->B
def lM.mk:pu (lM A c ks it s') A c ks it s':=λp h x J B=>B p h x
def AW {c:Cf} {A:Ā} {ks:ZC} {u:Ê} (hA:A.handled=U) (r:VR c.g (.ws ks) u):Î cx.M A (sz u) (lM A c ks) bj c.s:=by
 obtain⟨g,Z,s,i⟩:=c
 (refine r _ ?_;rintro a o rfl O hx)
 refine vP (i.sub _ _ O) hx λI À w J=>?_
 refine w.walk _ λfp P St ord W st f m y hlen N tp hq x0 d=>y _ λp l hr=>?_
 have k0:=w.kept
 have H:=w.new
 obtain⟨f1,f2⟩:=i.fresh H
 have hz:∀y∈p,y.length<=Ö:=λy Q=>by exact hx _ λJ J J J J J J J J J J z J=>z y (l.mem_iff.mp Q)
 have hl:(p.map AV.str).length=ks.length:=by rw[length_map];exact l.length_eq
 have hP:∀(B:G) i v,i<(p.map AV.str).length->P i v->∃x,(p.map AV.str)[i]? = C x/\VR B x v:=λB j v J hv=>by
  obtain⟨y,t,Q,rfl⟩:=oi hr j v (N j v hv)
  exact⟨.str y,by rw[Ė,Q];rfl,.g! _ (hz y (Ĉ Q))⟩
 have hI':I≠a:=λh=>by rw[h]at H;rw[i.sub _ _ O]at H;cases H
 have W':=W A hA
 rw[<-hl]at W'
 have D:∀B (i':Inv B Z À),bt [] g s B À->(∀b∈fp,b=I\/∃o,B.I b=C o)->I∉B.ρ->B.I I=U->lM A ⟨g,Z,s,i⟩ ks (.ref I) À:=λB i' a1 acT L Y=>
  (.mk p l (.mk ⟨B,Z,À,i'⟩ I _ rfl H a1 rfl (λJ=>WK.q! (g₀:=B) W' (hP B) acT λj h q=>(by obtain⟨o,N,hc⟩:=d j h q;exact⟨o,_,N,hc,by rfl⟩)) λJ n0=>(.mk st (.refl _) ⟨n0,L,Y⟩)))
 by_cases hI:tp=I
 ·refine D g (k0.inv i) k0.stp (λb E=>?_) f2 f1
  rcases hq b E with h|h|h
  ·exact .inl h
  ·rw[Ù.mp h];exact .inr ⟨_,O⟩
  ·exact .inl (h.trans hI)
 ·obtain⟨L,o',Y⟩:=x0.resolve_left hI
  obtain⟨V,f4⟩:=i.fresh L
  refine D (g.freeze tp o') ((k0.inv i).add Y f4 V) (k0.stp.n! L V) (λb E=>?_) f2 (by show(if I=tp then _ else g.I I)=U;rw[Ý (Zq hI)];exact f1)
  rcases hq b E with h|h|h
  ·exact .inl h
  ·rw[Ù.mp h]
   exact .inr ⟨_,(G.a! V).I _ _ O⟩
  ·rw[h];exact .inr ⟨_,G.é _ _ _⟩
section
variable {n:Ó} {V:ì} {r:Ev} {F:Fr n} {vs Y vs0:Vs} {c c' c₀ c₁:Cf} {Z Z':aa} {v:AV} {u:Ê} {E:ñ} {K:VK} {N:NK} {R:RK} {X:XK} {O:Ç} {x:Ì} {I:Ü} {src:aa->Prop} {xs:ZB} {À:Ó->Cf->Prop}
def At.frs (e:At F vs c):cr F.frs c:=λf H=>(by obtain⟨h,L,D⟩:=F.fk f H;exact⟨h,L,D,e.frm f H L D⟩)
def wU.imp {h₀:ę} {P Q:Æ Ê->Prop} {m:Ì} (x:wU h₀ c P m u) (h:∀o,P o->Q o):wU h₀ c Q m u:=by
 refine x _ λe vs x f D=>?_
 exact(.mk e vs x f (D.up (λJ h=>h) h))
def XX.loop (D:oL V F) (j:At F vs0 c₀) (x:XX F c₀ X u O):notedBy cx.M F.A F.env (X1 cx.M F.A F.env (XX F c₀ X)) u O:=by
 obtain⟨c',m,vs,u,a,z,e,x,k⟩:=x
 obtain⟨acT,l,g,_⟩:=D
 obtain⟨t1,t⟩:=gH j
 refine Gc e.frs g F.fr acT (λb h=>a.none_ h) (λJ h=>h) x λO y=>?_
 obtain⟨H,kc,y⟩:=y
 exact .mk H m vs _ (a.ch (λL h=>í _ h) kc) (λL Q d o i=>let ⟨_,q⟩:=z L Q d o i;(by obtain⟨w,q⟩:=kc.slots L Q _ q;exact⟨w,q⟩)) (e.ch kc t1 t) (y.imp λo h=>.inr (.inr h)) (by rw[kc.Z];exact k)
def set_plain {it:ñ} {env:ϙ} (h:cF it=Í) (x:Ê):j2 it env x=pure x:=by induction it using Ŋ with
 | Set=>exact E4 h
 | _=>rfl
abbrev zD (r:Ev) (ks:bc) (ns:ZC) (t:ñ) (body:È ϳ) (R:RK) (X:XK) (x:AV) (vs:Vs) (Z:aa) (N:NK):Prop:=r.a ks ns t x vs Z (λvs Z=>bA r ks ns body vs Z N R X) X
inductive MJ (F:Fr n) (c₁:Cf) (f:AV->Vs->aa->NK->Prop) (src:aa->Prop) (xs:ZB) (À:Ó->Cf->Prop) (N:NK) (m:Ó):Ç->Prop
 | mk (j:Ó) (c:Cf) (vs:Vs) (_:m=xs.length - j+1) (_:j<=xs.length) (_:Le F c₁ c) (_:At F vs c) (_:À j c) (_:aY src f (xs.drop j) vs c.Z N):MJ F c₁ f src xs À N m c.s
def xE (H:fj V n r) (D:oL V F) {t:ñ} {body:È ϳ} (W:WK F.A c₁.s I src xs À) (a0:Le F c₀ c₁) (e₁:At F vs0 c₁) (a:Le F c₁ c) (e:At F vs c) (st:À 0 c) (h:aY src (zD r F.ks F.ns t body R X) xs vs c.Z N) :
 Ž cx.M F.A (.forLoop t (.ref I) body [] F.env) (λq O=>match q with | .ok f=>QS F c₀ N R f O | .error e=>X1 cx.M F.A F.env (XX F c₀ X) e O) c.s:=by
 obtain⟨t1,t2⟩:=gH e₁
 have t3:∀f∈F.frs,∀L,f.frame=C L->∃o,c₁.s.heap.get? L=C o:=λf hf L hL=>(by refine e₁.frm f hf L hL _ λo ho J J J=>?_;exact⟨o,ho⟩)
 have up:∀{c:Cf} {u O},Le F c₁ c->XX F c X u O->notedBy cx.M F.A F.env (X1 cx.M F.A F.env (XX F c₀ X)) u O:=λ{c} {u} {O} b x=>by
  have y:=XX.loop D e₁ (x.up b)
  exact Ô y (λJ J z=>Ô z (λJ J z=>z.up a0) λJ J z=>z.up a0) λJ J z=>Ô z (λJ J z=>z.up a0) λJ J z=>z.up a0
 refine codeAny_forLoop_any (MJ F c₁ (zD r F.ks F.ns t body R X) src xs À N) ?_ (xs.length+1) (.mk 0 c vs rfl (ï _) a e st h)
 rintro m _ ⟨j,c,vs,hm,hj,a,e,st,h⟩
 subst hm
 by_cases hlt:j<xs.length
 ·rw[pT hlt]at h
  refine Ô (W.next st h.1 (æ hlt)) (λJ J y=>?_) λJ J x=>x.elim
  obtain⟨i,u,hu,a2,Q,q2,g⟩:=y
  subst hu
  have A2:=a.x! a2
  have E2:=e.stepI a2 t1 t2 t3
  obtain⟨o,T,ho,hc,hT⟩:=W.cls g
  refine vz ho hc hT ?_
  have h2:=h.2
  rw[<-Q]at h2
  refine Ô (H.a i h2 E2 q2) (λJ J y=>?_) λJ J x=>up A2 x
  obtain⟨c3,vs3,a3,e3,h3⟩:=y
  have d:=A2.trans a3
  have own:∀b∈F.own,∃o,c₁.s.heap.get? b=C o:=λb hb=>fb e₁ hb
  refine Ô (et H.s D e3 h3) (λf J y=>?_) λJ J x=>up d x
  rcases y with⟨c4,acT,l,e4,h4⟩|⟨c4,acT,w,uw,l,e4,q4,h4⟩
  ·exact⟨xs.length - (j+1)+1,ĳ (aad hlt (Ň j)),.mk (j+1) c4 acT rfl hlt (d.trans l) e4 (W.frame (W.frame g a3 own) l own) h4⟩
  ·exact .r c4 acT w uw (a0.trans (d.trans l)) e4 q4 h4
 ·obtain rfl:j=xs.length:=ţ hj (ų.mp hlt)
  rw[abe]at h
  refine Ô (W.done st h.1) (λJ J y=>?_) λJ J x=>x.elim
  obtain⟨i,hr,a2,Q⟩:=y
  subst hr
  exact WX (.n i vs (a0.trans (a.x! a2)) (e.stepI a2 t1 t2 t3) (by rw[Q];exact h.2))
def P0 (H:fj V n r) (D:oL V F) {t it:ñ} {body:È ϳ} {p:ϗ} (e:At F vs c) (Q:cF it=Í) (h:r.e F.ks F.ns it vs c.Z (λv Z=>lz v (zD r F.ks F.ns t body R X) vs Z N) X):Î cx.M F.A (ZQ (.For t it body [] p) F.env) (QS F c N R) (XX F c X) c.s:=by
 refine wpAny_For (bq H.e (.refl _ _ _) e h λc₁ w u1 l₁ j e₁ g h=>jw h (λks hk h=>?_) λJ h=>cw h λp z h=>?_) (set_plain Q)
 ·rw[wS hk]at g
  refine Ô (AW F.hA.handled g) (λJ J y=>?_) λJ J x=>x.elim
  (refine y _ ?_;rintro p Q ⟨q,I,À,rfl,acT,a2,L,W,st⟩)
  exact xE H D (W c₁.s) j e₁ a2.own (e₁.go a2) (st _ acT) (by rw[L];exact h p Q)
 ·refine Ô (AU F.hA.handled g z) (λJ J y=>?_) λJ J x=>x.elim
  obtain⟨q,I,À,rfl,acT,a2,L,W,st⟩:=y
  exact xE H D (W c₁.s) j e₁ a2.own (e₁.go a2) (st _ acT) (by rw[L];exact h)
end
def Ux:ExcCallFacts "ValueError" "ValueError.__new__" "ValueError.__init__":=F.excCall_ValueError
def RW:ExcRaiseFacts "ValueError":=F.excRaise_ValueError
def Uy:ExcStrFacts "ValueError" "ValueError":=F.excStr_ValueError
def Qh:ξ (.type "ValueError") (.type "ValueError")=pure Í:=by rw[Β];kernel_rfl
def y6:ξ (.type ((Manifest.find? "ValueError").elim "type" λx=>x.metatype)) (.type "tuple")=pure Ï:=by rw[Β];kernel_rfl
section
variable {n:Ó} {V:ì} {r:Ev} {F:Fr n} {vs À vs0:Vs} {c c' c₀ c₁:Cf} {Z Z':aa} {v:AV} {u:Ê} {Y:ñ} {K:VK} {N:NK} {R:RK} {X:XK} {s acT:Ç} {x:Ì} {A:Ā} {E:Ê->Ç->Prop}
def PQ {o G:Æ ñ} {a:ñ} {P:Prop} (h:yI o G=C a) (k:∀D p,o=C (.Call (.Name "ValueError" D) [a] [] p)->G=U->aO a=Ï->P):P:=by
 refine aQ h λz h=>aP h λe H h=>aP h λq I h=>aQ h λL h=>aP h λb Q h=>GV h λg y=>?_
 obtain⟨f,as,w,p⟩:=q
 obtain⟨j,l⟩:=è.mp L
 obtain⟨D,rfl⟩:=c7 (ĕ.mp j)
 obtain rfl:=Ä y
 exact k D p (by simp only[H,iZ I,show as=_ from cP Q,show w=[]from Ġ.mp l]) (Ģ.mp z) (e_ _▸g)
def rD {p:ϗ} {P:Ê->Ç->Prop} (hk:F.ks.lookup ("ValueError" : Ì)=C .globalImplicit) (k:P (.type "ValueError") c.s):Î cx.M A (Ũ (.Name "ValueError" p) F.env) P E c.s:=
 jf hk (by rfl) (.inr c.i.H.gl.err) k
def rg {env:ϙ} {a:ñ} {p:ϗ} (D:aO a=Ï) {Q:È Ê->Ç->Prop} (h:Î cx.M A (Ũ a env) (λu s=>Q [u] s) E s):Î cx.M A (aaJ (Ab p (ŧ [a] env))) Q E s:=by
 rw[bM (oh D)]
 exact Á (Ô h (λJ J h=>Á (Å (Á (ä (Å (Å h)))))) λJ J x=>x)
def L0 (H:gA n r.e) {o cc:Æ ñ} {p:ϗ} (e:At F vs c) (h:cX (F.ks.lookup ("ValueError" : Ì)==C .globalImplicit) <| ok (yI o cc) λa=>r.e F.ks F.ns a vs c.Z (λv Z=>ok (strV v) λm=>X m vs Z) X):Î cx.M F.A (ZQ (.Raise o cc p) F.env) (QS F c N R) (XX F c X) c.s:=by
 rcases _:bV h with⟨hk,h⟩
 have hk:=eq_of_beq hk
 refine cw h λa h1 d=>PQ h1 λnp q ho hc hs=>?_
 subst ho hc
 have L:ŧ [a] F.env=[(Ï,Ũ a F.env)]:=bM (oh hs)
 refine wpAny_Raise_call Ux RW F.hA.handled (by rw[L];rfl) (rD hk ⟨rfl,?_⟩)
 refine evalArgs_kw2 (kws:=[]) rfl (rg hs (bq H (.refl _ _ _) e d λc₁ w u1 l₁ Q e₁ r1 d=>cw d λm hm k=>Yn ⟨rfl,show 1<=Ö by decide,λh' x M=>?_⟩)) L
 (refine r1.strV hm _ ?_;rintro tk rfl z)
 obtain⟨kp,j,t,he,D,ht⟩:=M
 have le:=G.a! (o:={ cls:=.type "tuple",data:=.seq [e9 m tk].toArray }) (c₁.i.fresh D).1
 have i':=c₁.i.freeze (t:=c₁.s.toks) (Ë _) D ht kp
 have b:bt [] c₁.g c₁.s (c₁.g.freeze t { cls:=.type "tuple",data:=.seq [e9 m tk].toArray }) { c₁.s with heap:=h' }:=.freeze (t:=c₁.s.toks) c₁.i (Ë _) D kp
 have y:x≠t:=λq=>absurd (aek (Õ Obj.cls (Ä (ht.symm.trans (q▸he))))) Zz
 refine XX.mk ⟨_,_,_,i'⟩ m vs (.ref x) ((Q.trans b.own).m! λJ h=>ç _ h) ((fY.refl F h').up (c':=⟨_,_,_,i'⟩) (Q.trans b.own) (e₁.go b) (.refl _)) (e₁.go b) (.mk x _ (.mk t _ _ tk 0 rfl he rfl rfl rfl (c₁.i.fresh j).2 ?_ (G.é _ _ _) rfl z) (Q.none_ j) (.no rfl (.inl rfl))) k
 show(if x=t then _ else c₁.g.I x)=U
 rw[Ý y];exact(c₁.i.fresh j).1
def Jp {s:ϳ} {q:È ñ×ñ} (h:Rw s=C q):∃p,s = .Assign q.1 q.2 p:=by
 induction s using acy with
 | Assign=>obtain rfl:=Ä h;exact⟨_,rfl⟩
 | _=>exact aD h
def GR {Q:ph} {a w:Ì} {P:Prop} (h:nw Q=C (a,w)) (k:∀V j H I G g p,Q = .ExceptHandler (C (.Name "ValueError" V)) (C a) [.Assign [.Name w j] (.Call (.Name "str" I) [.Name a G] [] H) g] p->P):P:=by
 obtain⟨te,ee,z,p⟩:=Q
 refine aP h λt h1 h=>aP h λe h2 h=>aP h λs h3 h=>aP h λq h4 h=>aP h λnn h5 h=>aP h λw' h6 h=>aQ h λL h9=>?_
 obtain⟨L,l⟩:=è.mp L
 obtain⟨V,rfl⟩:=c7 (ĕ.mp L)
 unfold wx at l
 obtain⟨⟨f,as,kw,H⟩,d,D⟩:=(Option.any_eq_true _ _).mp l
 obtain⟨D,m⟩:=è.mp D
 obtain⟨D,i⟩:=è.mp D
 obtain⟨I,rfl⟩:=c7 (ĕ.mp D)
 obtain⟨y,c5,c6⟩:=ù.mp (ĕ.mp m)
 obtain⟨G,rfl⟩:=c7 c6
 obtain⟨j,rfl⟩:=c7 h6
 obtain⟨rfl,rfl⟩:=ŋ (Ä h9)
 obtain⟨g,hs⟩:=Jp h4
 exact k V j H I G g p (by
  simp only[show te=_ from h1,show ee=_ from h2,show z=_ from cP h3,hs,cP h5,iZ d,show as=_ from cP c5,show kw=[]from Ġ.mp i])
def Py {h:ę} {a:Ü} {m H:Ì->Æ Ê} (x:h.Ns a m) (y:h.Ns a H) (k:Ì):m k=H k:=by
 obtain⟨o,es,ep,e,d,_,f⟩:=x
 obtain⟨o',es',ep',G,D,_,I⟩:=y
 rw[e]at G
 obtain rfl:=Ä G
 rw[d]at D
 obtain⟨rfl,_⟩:=aeB D
 exact(f k).symm.trans (I k)
def EX {a:Ì} {pos:ϗ} (e:At F vs c) (k:F.ks.lookup a=C .local) (k0:vs[F.ns.idxOf a]? = C U) {P:ab->Ç->Prop} (q:∀c',Le F c c'->At F vs c'->c'.Z=c.Z->P () c'.s):Î cx.M A (do bindName F.env a .none;unbindBehindTheSuite F.env a pos) P E c.s:=by
 refine Á (aeb (gZ e k (o:=U) (λv h=>nomatch h) λh' t i b e m=>?_))
 have j:vs.set (F.ns.idxOf a) U=vs:=by
  obtain⟨h,q⟩:=î.mp k0
  rw[<-q,set_getElem_self]
 rw[j]at e
 obtain⟨m,Q,hv⟩:=m
 refine aeo (wpAny_unbindName_local (dG F k) Q hv (yw F) λh2 w g H=>?_)
 refine e.loc _ λm' G I=>?_
 have L:=i.write (t:=t) (Ë _) e.locA.1 e.locA.2 H
 refine q (Cf.wr (c.wr i) L) (b.trans (Le.loc F (c.wr i) (Ë _) g H L)) (e.z! L g H rfl (λy w' l D=>?_) λJ J=>rfl) rfl
 obtain⟨u',p1,p2⟩:=I y w' l D
 have d:y≠a:=λz=>by unfold bD at D;rw[z,k0]at D;cases D
 exact⟨u',by rw[Ý d,Py Q G y];exact p1,p2⟩
def O7:T.gl.lookup ("str" : Ì)=C (.bf .str):=by kernel_rfl
def yd {M:Model} {id:Λ} (h:ę):∃k,(k=abN\/k=aaU\/k=ZJ)/\Looks M h (keeperOf (.type id)) k:=⟨.machine,.inr (.inl rfl),.now⟩
def ya {a w:Ì} {I:ph} {m:Ì} (hh:nw I=C (a,w)) (a0:Le F c₀ c) (e0:At F vs0 c₀) (e:At F vs c) (hl:∀L∈jM F.frs,L∈F.own) (k1:F.ks.lookup ("ValueError" : Ì)=C .globalImplicit) (k2:F.ks.lookup a=C .local) (k3:F.ks.lookup w=C .local) (k4:F.ks.lookup ("str" : Ì)=C .globalImplicit) (k5:a≠w) (k6:(a==("__debug__" : Ì))=Ï)
 (x:wU c₀.s.heap c (· = C .none) m u) {Q:P_->Ç->Prop} (q:∀c',Le F c₀ c'->At F (fG w (.str m) (vs.set (F.ns.idxOf a) U) F.ns) c'->c'.Z=c.Z->Q .next c'.s):Î cx.M F.A (handleBy u F.env [I]) Q E c.s:=by
 refine GR hh λV wp cp fp ap sp p I=>?_
 subst I
 have x0:=x
 refine x _ λea es y f tb=>?_;(refine y _ ?_;rintro t oe ot tk k rfl he hc I h0 n i ht d z)
 obtain⟨t1,t2⟩:=gH e0
 refine wpAny_handleBy_builtin_as RW.isExc y6 Qh (rD k1 ⟨rfl,⟨oe,he,hc⟩,?_⟩)
 rw[Û rfl]
 refine Ô (fu (E:=λJ J=>False) e.frs x0 U) (λJ J y=>?_) λJ J y=>y.elim
 obtain⟨D,kc,x2⟩:=y
 have a2:Le F c₀ D:=a0.ch hl kc
 have e2:=e.ch kc t1 t2
 refine x2 _ λea' es x9 f tb=>x9 _ λt oe ot tk k eu he hc I h0 n i ht d z=>?_
 obtain rfl:=Ϗ eu
 clear tb x0
 refine gZ e2 k2 (o:=U) (λv h=>nomatch h) λh' tt j a3 e3 m3=>?_
 obtain⟨m3,x4,x8⟩:=m3
 have x1:ea∉F.own:=λh=>by obtain⟨o,ho⟩:=fb e0 h;rw[f]at ho;cases ho
 have x3:(D.wr j).s.heap.get? ea=C oe:=a3.keep _ _ he n x1
 have x7:(D.wr j).s.heap.get? t=C ot:=j.sub _ _ ht
 subst d
 have G:∀{A:Ā} {E:Ê->Ç->Prop} {Q:Ê->Ç->Prop},A.units+2<XU->Q (.str m tk) (D.wr j).s->Î cx.M A (call (.type "str") [.ref ea]) Q E (D.wr j).s:=λl hq=>
  P.str_of_exc_one Uy l ⟨oe,es,x3,hc,I,h0⟩ ⟨_,k,x7,rfl,rfl⟩ hq
 refine adj (Á (ī ?_))
 rw[show R_ _ _ _ _=pure Ï from rfl]
 refine Á (Å (Á (wpAny_Call_ofName (jf (c:=D.wr j) k4 (by rfl) (w:=.type "str") ?_ ?_))))
 ·obtain⟨u,l,hr⟩:=c.i.H.gl.names "str" _ O7
  rw[show u = .type "str" from hr c.g c.i.base]at l
  exact l
 have x6:ŧ [aaS a ap] F.env=[(Ï,Ũ (.Name a ap) F.env)]:=rfl
 have l:F.A.units+2<XU:=É (å (ë _ _) (by decide:2<=100)) F.hA.units
 refine callWith_of (P:=λJ=>True) (by rfl) (λh J=>yd h) (evalArgs_kw2 (kws:=[]) rfl (rg rfl (WQ (ψ F.fn (dG F k2) x4 x8 (Yn ⟨trivial,G l ?_⟩)) k6)) x6)
 rw[BL F (o:=U) rfl]
 refine Á (Å (Á (l1 (gZ e3 k3 (o:=C (.str m)) (λv h=>Ä h▸.g! _ z) λh4 tt4 i4 a4 e4 J=>Å (WX ?_)))))
 have x5:F.ns.idxOf a≠F.ns.idxOf w:=λq=>k5 (eV (F.mem a (.inl k2)) q)
 refine EX (c:=(D.wr j).wr i4) e4 k2 ?_ λc' a5 e5 h5=>q c' (((a2.trans a3).trans a4).trans a5) e5 (h5.trans kc.Z)
 rw[μ (Zq x5),ο]
 rw[e.len]
 exact gf (F.mem a (.inl k2))
def NM (H:Q7 V n r.s) (D:oL V F) {body G I:È ϳ} {Q:È ph} {p:ϗ} (e:At F vs c) (h:cX (!Q.isEmpty&&G.isEmpty&&I.isEmpty) <| bA r F.ks F.ns body vs c.Z N R (match V with|true=>Tf F.ks F.ns Q N|false=>ik)) :
 Î cx.M F.A (ZQ (.Try body Q G I p) F.env) (QS F c N R) (XX F c X) c.s:=by
 obtain⟨z,h⟩:=bV h
 obtain⟨z,h3⟩:=è.mp z
 obtain⟨h1,h2⟩:=è.mp z
 rw[Ġ.mp h2,Ġ.mp h3]
 induction Q using aco with
 | nil=>exact E4 h1
 | cons hd Q=>
  refine wpAny_Try_except (Ô (et H D e h) (λf s₁ y=>?_) λJ J y=>?_)
  ·exact(by rcases y with⟨c',À,a,e,k⟩|⟨c',À,v,u,a,e,q,k⟩;exact WX (.n c' À a e k);exact .r c' À v u a e q k)
  ·obtain⟨c',m,À,u,a,_,e',x,k⟩:=y
   induction V with
   | false=>exact k.elim
   | true=>
    obtain⟨t,l,D2,j⟩:=D
    have j:=j rfl
    subst j
    have g:∀L∈jM F.frs,L∈F.own:=λL h=>by
     rw[D2]at h
     obtain⟨f,hf,hL⟩:=ĵ.mp h
     rw[Ù.mp hf,t]at hL
     rw[<-Ä hL]
     exact ã ..
    have a':Le F c c':=a.m! λb hb=>(ý.mp hb).elim id (g b)
    obtain⟨t1,t2⟩:=gH e
    refine Ô (mL e'.frs D2 F.fr t (λb h=>a.none_ h) (λJ h=>h) x) (λJ J y=>?_) λJ J y=>y
    obtain⟨c₁,d,x1⟩:=y
    have e1:=e'.ch d t1 t2
    have a1:Le F c c₁:=a'.ch g d
    refine Ô (fu e1.frs x1 U) (λJ J y=>?_) λJ J y=>y
    obtain⟨c2,i,x2⟩:=y
    have e2:=e1.ch i t1 t2
    have a2:Le F c c2:=a1.ch g i
    refine cw k λq hq k=>aP hq λhd' h4 h5=>?_
    obtain⟨a,w⟩:=q
    obtain⟨k,kN⟩:=bV k
    simp only[ú,ĕ,ώ,Ϟ]at k
    obtain⟨⟨⟨⟨⟨q1,q2⟩,q3⟩,q4⟩,q5⟩,q6⟩:=k
    obtain⟨rfl,rfl⟩:=ŭ (cP h4)
    exact ya h5 a2 e e2 g q1 q2 q3 q4 q5 q6 x2 λc' a e h=>.n c' _ a e (by simp only[h,i.Z,d.Z];exact kN)
end
abbrev Keeps (h:ę) (f:Ê):Prop:=∃k,(k=abN\/k=aaU\/k=ZJ)/\Looks cx.M h (keeperOf f) k
inductive QK {n:Ó} (F:Fr n) (vs:Vs) (c:Cf) (ns:ZC) (K:È (Ì×AV)->aa->Prop):È Ê->Ç->Prop
 | mk (c':Cf) (kvs:ZF) (us:ZA) (a:Le F c c') (e:At F vs c') (n:kvs.map (·.1)=ns) (r:aG c'.g (kvs.map (·.2)) us) (k:K kvs c'.Z):QK F vs c ns K us c'.s
section
variable {n:Ó} {I:ì} {r:Ev} {F:Fr n} {vs:Vs} {c c' c₀ c₁:Cf} {K:VK} {X:XK} {x:Ì} {A:Ā} {E:Ê->Ç->Prop} {M:Model} {s:Ç} {env:ϙ} {p:ϗ} {args:È ñ} {kws:È ς} {f:Ê} {first:ZA}
def Mc {e:ñ} {es:È ñ} {env:ϙ} {t:_} (h:ŧ (e::es) env=(aO e,t)::ŧ es env):∃t,ŧ (e::es) env=(aO e,t)::ŧ es env:=⟨t,h⟩
def gX (e:ñ) (es:È ñ) (env:ϙ):∃t,ŧ (e::es) env=(aO e,t)::ŧ es env:=by
 rcases e<;>exact Mc rfl
def og (p:ϗ) (env:ϙ):∀es:È ñ,(Ab p (ŧ es env)).any (·.1)=es.any aO/\(Ab p (ŧ es env)).all (!·.1) = !es.any aO:=by
 intro O;induction O with
 | nil=>
  exact⟨rfl,rfl⟩
 | cons e es L=>
  obtain⟨t,h⟩:=gX e es env
  obtain⟨D,H⟩:=L
  rw[h]
  exact⟨Õ (aO e||·) D,(Õ (!aO e&&·) H).trans (acI ..).symm⟩
structure Ja (p:ϗ) (env:ϙ) (kws:È ς):Prop where
 all:(ϔ p (ū kws env)).all (·.1.isSome)=Í
 any:(ϔ p (ū kws env)).any (·.1.isNone)=Ï
 map:(ϔ p (ū kws env)).filterMap (·.1)=kws.filterMap (·.arg)
theorem jp (p:ϗ) (env:ϙ):∀{kws:È ς},kws.all (·.arg.isSome)=Í->Ja p env kws
 | [],_=>⟨rfl,rfl,rfl⟩
 | ⟨U,ex,q⟩::kws,h=>E4 h
 | ⟨C a,ex,q⟩::kws,h=>(by obtain⟨D,H,L⟩:=jp p env (kws:=kws) h;exact⟨D,H,Õ (a :: ·) L⟩)
def OZ (H:gA n r.e):∀{kws:È ς} {c:Cf} {L:È (Ì×AV)->aa->Prop},At F vs c->jh r F.ks F.ns kws vs c.Z L X->Î cx.M F.A (evalAll ((ϔ p (ū kws F.env)).map (·.2))) (QK F vs c (kws.filterMap (·.arg)) L) (XX F c X) c.s:=by
 intro N;induction N with
 | nil=>
  exact @λc L e h=>Xu (.mk c [] [] (.refl _ _ _) e rfl .nil h)
 | cons acT kws À=>
  obtain⟨an,ex,q⟩:=acT;exact @λc L e h=>cw h λD Q h=>by
   obtain rfl:an=C D:=Q
   exact kwAll_cons (bq H (.refl _ _ _) e h λc₁ w Y l₁ O e₁ V h=>Ô (À e₁ h) (λJ J x=>match x with | .mk c2 kvs us a e n r k=>.mk c2 ((D,w)::kvs) (Y::us) (O.trans a) e (Õ (D :: ·) n) (.cons (V.mono a.le) r) k) λJ J x=>x.up O)
def bX {Q:Args->Ç->Prop} (Y:dR args kws=Í)
 (h:Î M A (aaJ (Ab p (ŧ args env))) (λus s₁=>Î M A (evalAll ((ϔ p (ū kws env)).map (·.2))) (λks s₂=>Q ⟨us,(kws.filterMap (·.arg)).zip ks⟩ s₂) E s₁) E s) :
 Î M A (abx f Í (Ab p (ŧ args env)) (ϔ p (ū kws env))) Q E s:=by
 obtain⟨À,L⟩:=è.mp Y
 obtain⟨acT,_,N⟩:=jp p env À
 have key:∀{T:È (ì×Ϛ Ê)},Î M A (aaJ T) (λus s₁=>Î M A (evalAll ((ϔ p (ū kws env)).map (·.2))) (λks s₂=>Q ⟨us,(kws.filterMap (·.arg)).zip ks⟩ s₂) E s₁) E s->(∀x,T≠[(Í,x)])->Î M A (abx f Í T (ϔ p (ū kws env))) Q E s:=λ{T} h V=>by
  rcases T with _|⟨⟨_|_,x⟩,_|⟨b,q⟩⟩
  rotate_left 3
  ·exact absurd rfl (V x)
  all_goals
   unfold abx
   first
   | skip
     refine Á (Ô h (λvs s₁ h₁=>?_) λJ J x=>x)
     refine ä ?_
     rw[Û acT,N]
     exact Á (Ô h₁ (λks s₂ h₂=>Á (Å (Å h₂))) λJ J x=>x)
 refine key h λx=>?_
 rcases args with _|⟨a,_|⟨b,q⟩⟩
 ·exact λe=>nomatch e
 ·obtain⟨t,D⟩:=gX a [] env
  rw[D]
  intro e
  have O:aO a=Í:=Õ Prod.fst (ŭ e).1
  rw[show([a].any aO)=Í from by rw[V_,O];rfl]at L
  exact E4 ((è.mp L).2)
 ·obtain⟨t,D⟩:=gX a (b::q) env
  obtain⟨t',H⟩:=gX b q env
  rw[D,H]
  exact λe=>nomatch (ŭ e).2
def bU {Q:Ê->Ç->Prop} (O:dR args kws=Í)
 (h:Î cx.M A (abx f Í (Ab p (ŧ args env)) (ϔ p (ū kws env))) (λa s₁=>Keeps s₁.heap f/\Î cx.M A (call f (first++a.pos) a.kw) Q E s₁) E s) :
 Î cx.M A (adS p f first (Ab p (ŧ args env)) (ϔ p (ū kws env))) Q E s:=by
 obtain⟨L,D⟩:=è.mp O
 obtain⟨H,_⟩:=og p env args
 cases q:args.any aO with
 | false=>exact callWith_of (P:=λh=>Keeps h f) (by simp only[H,q,(jp p env L).any];rfl) (λJ x=>x) h
 | true=>
  rw[q]at D
  obtain rfl:=Ġ.mp (è.mp D).1
  exact ks_call (P:=λh=>Keeps h f) (H.trans q) (λJ x=>x) h
def k7 (H:gA n r.e) {D:È AV->È (Ì×AV)->aa->Prop} {P:Ê->Ç->Prop} (O:dR args kws=Í) (a:Le F c₀ c) (e:At F vs c)
 (h:gc r F.ks F.ns args vs c.Z (λxs Z=>jh r F.ks F.ns kws vs Z (D xs) X) X)
 (k:∀c' xs kvs us uk,c.g.le c'.g->Le F c₀ c'->At F vs c'->aG c'.g xs us->aG c'.g (kvs.map (·.2)) uk->D xs kvs c'.Z->Keeps c'.s.heap f/\Î cx.M F.A (call f (first++us) ((kvs.map (·.1)).zip uk)) P (XX F c₀ X) c'.s) :
 Î cx.M F.A (adS p f first (Ab p (ŧ args F.env)) (ϔ p (ū kws F.env))) P (XX F c₀ X) c.s:=
 bU O (bX O (xC H a e h λc₁ xs us l₁ L e₁ Q h=>Ô (OZ H e₁ h) (λJ J x=>match x with
  | .mk c2 kvs uk b e2 nn q h=>nn▸k c2 xs kvs us uk (l₁.trans b.le) (L.trans b) e2 (Q.mono b.le) q h) λJ J x=>x.up L))
end
def MR (g:G):Callee->Ê×È Ê->Prop
 | .val v,fx=>fx.2=[]/\VR g v fx.1
 | .fn f o,fx=>fx.1 = .ref f/\∃us,fx.2=[us]/\VR g o us
 | .bi b o,fx=>fx.1=b.val/\∃us,fx.2=[us]/\VR g o us
def mj (H:Prop) (c:Cf) (m:Callee) (fx:Ê×È Ê) (D:Ç):Prop:=∀(B:G) (i:Inv B c.Z D) (a:bt [] c.g c.s B D) (r:MR B m fx),H
def fX:=λc m fx D=>∀B,mj B c m fx D->B
def fX.mk:mj (fX c m fx s') c m fx s':=λD i a r J B=>B D i a r
structure mi (T:Λ) (p:Ì×BI):Prop where
 s:∃id,p.2.val = .builtin id/\Slot T p.1 id
 t:typeOf p.2.val=pure (.type "method_descriptor")
section
variable {x:Ì} {A:Ā} {s:Ç} {g:G} {Z:aa} {c:Cf} {b:BI} {u:Ê}
def FE:∀p∈gR,mi "list" p:=by
 refine ő.mpr ⟨⟨⟨_,rfl,F.slot_list_append⟩,abr⟩,ő.mpr ⟨⟨⟨_,rfl,acs⟩,F.type_list_pop⟩,ő.mpr ⟨⟨⟨_,rfl,F.slot_list_sort⟩,F.type_list_sort⟩,
  ő.mpr ⟨⟨⟨_,rfl,abq⟩,F.type_list_extend⟩,ő.mpr ⟨⟨⟨_,rfl,abM⟩,F.type_list_index⟩,λJ h=>nomatch h⟩⟩⟩⟩⟩
def Jk:∀p∈wy,mi "str" p:=by
 refine ő.mpr ⟨⟨⟨_,rfl,acu⟩,F.type_str_join⟩,ő.mpr ⟨⟨⟨_,rfl,B_⟩,F.type_str_rsplit⟩,ő.mpr ⟨⟨⟨_,rfl,Ρ⟩,ace⟩,
  ő.mpr ⟨⟨⟨_,rfl,F.slot_str_strip⟩,F.type_str_strip⟩,λJ h=>nomatch h⟩⟩⟩⟩
def uT:∀p∈jT,mi "dict" p:=by
 refine ő.mpr ⟨⟨⟨_,rfl,abL⟩,F.type_dict_items⟩,ő.mpr ⟨⟨⟨_,rfl,acr⟩,F.type_dict_get⟩,ő.mpr ⟨⟨⟨_,rfl,abp⟩,F.type_dict_values⟩,λJ h=>nomatch h⟩⟩⟩
def Jj:∀p∈wk,mi "set" p:=by
 refine ő.mpr ⟨⟨⟨_,rfl,acV⟩,F.type_set_add⟩,λJ h=>nomatch h⟩
def gk {T:Λ} {l:È (Ì×BI)} {pl:Ϛ ì} {Q:Ê×È Ê->Ç->Prop} {E:Ê->Ç->Prop} (e:l.lookup x=C b) (H:∀p∈l,mi T p) (I:s.TypeIs u T) (O:PlainAttrs T) (L:∀a,u = .ref a->∃o,s.heap.get? a=C o/\o.dict=U) (h:Q (b.val,[u]) s) :
 Î cx.M A (acZ u x pl) Q E s:=by
 obtain⟨⟨id,D,G⟩,B⟩:=H _ (mem_of_lookup e)
 rw[show b.val = .builtin id from D]at h B
 exact Yi I O G B L h
def t7 {y:Ì} {t:YP} {pl:Ϛ ì} {Q:Ê×È Ê->Ç->Prop} {E:Ê->Ç->Prop} (h:Q (.builtin "str.replace",[.str y t]) s):Î cx.M A (acZ (.str y t) "replace" pl) Q E s:=
 Yi (Ź _ _ _) Ye F.slot_str_replace F.type_str_replace (λa z=>nomatch z) h
def qO {o:AV} {m:Callee} {pl:Ϛ ì} {E:Ê->Ç->Prop} (c:Cf) (r:VR c.g o u) (e:eW T c.Z o x=C m):Î cx.M A (acZ u x pl) (fX c m) E c.s:=by
 have i:=c.i
 have H:=c.i.H.cls
 have L:∀{o:AV} {b:BI},VR c.g o u->fX c (.bi b o) (b.val,[u]) c.s:=λr=>(.mk c.g c.i (.refl _ _ _) ⟨rfl,u,rfl,r⟩)
 induction o using AV.casesOn with
 | obj d=>
  refine aP e λfs N e=>?_
  (refine tK i r N _ ?_;rintro y a ob m' rfl I ha hm O G hl' j h2)
  refine eY e (λw' V e=>bC e λw Q e=>?_) λV e=>bC e λf D e=>?_<;>subst e
  ·subst Q
   have B:=uW G V
   obtain⟨uw,hu,acT⟩:=j x w B V
   exact method_usual (i.X H) I H.ga H.gh (H.attr x B).2 rfl (get_value (i.X H) I H.ga (mO H B (by simp only[O,hu])) (qG acT) (.mk c.g (i.toks (ö _)) (.s! (ö _)) ⟨rfl,acT⟩))
  ·have B:=iX G V
   obtain⟨m1,m2,_⟩:=H.ms x f B D
   have hn:m' x=U:=h2 x λq=>absurd q B
   exact method_fn (i.X H) I H.ga H.gh m1 m2 (by simp[shadowIn,O,hn]) (.mk c.g i (.refl _ _ _) ⟨rfl,_,rfl,r⟩)
 | str y=>
  refine bC e λb D e=>?_
  subst e
  (refine r.c! _ ?_;rintro t rfl z)
  exact gk D Jk (Ź _ _ _) Ye (λa z=>nomatch z) (L r)
 | fd kk ys=>
  refine bC e λb D e=>?_
  subst e
  (refine bg i rfl r _ ?_;rintro p us rfl À _ _ _ _)
  exact gk D uT À.typeIs abJ (λa z=>by obtain rfl:=Ϗ z;obtain⟨o,es,ep,Q,B,_⟩:=À;exact⟨o,Q,B.2.1⟩) (L r)
 | loc l=>
  refine eY e (λxs B e=>bC e λb D e=>?_) λJ e=>eY e (λkk B e=>bC e λb D e=>?_) λJ e=>aP e λkvs B e=>bC e λb D e=>?_<;>subst e
  ·obtain⟨p,rfl,G⟩:=id r
   (refine i.cells _ _ _ (list_eq B) G _ ?_;rintro vs ⟨k,hv⟩ q z)
   exact gk D FE ⟨_,hv,rfl⟩ F.plainAttrs_list (λa z=>by obtain rfl:=Ϗ z;exact⟨_,hv,rfl⟩) (L r)
  ·obtain⟨p,rfl,G⟩:=id r
   have Y:=(show ba _ _ _ from i.cells _ _ _ (Ib B) G).of
   exact gk D Jj Y.typeIs F.plainAttrs_set Y.noDict (L r)
  ·(refine bg (v:=.loc l) (kvs:=kvs) i B r _ ?_;rintro p us rfl À _ _ _ _)
   exact gk D uT À.typeIs abJ (λa z=>by obtain rfl:=Ϗ z;obtain⟨o,es,ep,Q,B,_⟩:=À;exact⟨o,Q,B.2.1⟩) (L r)
 | _=>exact aD e
def iY {o:ñ} {P:Ê->Ç->Prop} {E:Ê->Ç->Prop} {env:ϙ} (B:dK o=Í) (h:Î cx.M A (Ũ o env) P E s):Î cx.M A (aem o x env (Ũ o env)) P E s:=by
 induction o using Ŋ with
 | Call f as D p=>induction f using Ŋ with
  | Name id q=>induction as with
   | nil=>induction D with
    | nil=>
     dsimp only[aem]
     rw[show(id !=("super" : Ì))=Í from B]
     first|exact h|exact Á (Ô h (λJ J z=>Å z) λJ J z=>z)
    | cons=>exact h
   | cons=>exact h
  | _=>exact h
 | _=>exact h
variable {n:Ó} {r:Ev} {F:Fr n} {vs:Vs} {K:VK} {X:XK}
def Oy (H:gA n r.e) {o:ñ} {p:ϗ} (e:At F vs c) (h:cX (dK o) (r.e F.ks F.ns o vs c.Z (λv Z=>ok (eD T Z v x) (K · Z)) X)):Î cx.M F.A (Ũ (.Attribute o x p) F.env) (QX F vs c K) (XX F c X) c.s:=
 (by obtain⟨D,h⟩:=bV h;exact Á (iY D (bq H (.refl _ _ _) e h λc₁ w u1 l₁ B e₁ G h=>Á (ī (Á (ä (cw h λv hv k=>
  A1 B e₁ (mT c₁.i.H.cls c₁.i G hv) λg s u i J a e r=>Á (abB (Å (.mk ⟨g,_,s,i⟩ v u a e r k))))))))))
end
def wW (n:Ó):Prop:=∀{b:BI} {args:ZB} {Z:aa} {p:AV×aa},fq b args Z=C p->∀{A:Ā} {g:G} {s:Ç} {us:ZA},B0 n A->Inv g Z s->aG g args us->Î cx.M A (call b.val us) (PX g s p.2 p.1) bj s
structure g9 (n:Ó) (A:Ā):Prop where
 handled:A.handled=U
 depth:A.depth+4 * n+6<ϕ
 units:A.units+60 * n+80<XU
def B0.call {n:Ó} {A:Ā} (h:B0 n A):g9 n A:=
 ⟨h.handled,É (Ø (by decide:6<=8) _) h.depth,É (Ø (by decide:80<=100) _) h.units⟩
def g9.r! {n:Ó} {A:Ā} (h:g9 n A):A.depth<ϕ:=É (Â (ë _ _) (ë _ _)) h.depth
def g9.B! {n:Ó} {A:Ā} (h:g9 (n+1) A) (env:ϙ):B0 n (A.deeper env):=
 ⟨h.handled,É (ó (Õ (· + 8) (Ě A.depth 1 (4 * n)))) (É (Ø (by decide:9<=10) _) h.depth),
  É (ó (Õ (· + 100) (Ě A.units 3 (60 * n)))) (É (Ø (by decide:103<=140) _) h.units)⟩
def QR (l:È ϙ) (c:Cf) (K:VK) (X:Ì->aa->Prop) (r:ky) (G:Ç):Prop:=match r with
 | .ok (.ret u)=>QC c K u G
 | .error u=>XC c l X u G
 | _=>False
structure me (n:Ó) (acT:aj):Prop where
 run:∀{a:Ü} {args:ZB} {kws:ZF} {K:VK} {X:Ì->aa->Prop} (c:Cf) {A:Ā} {l:È ϙ} {us uk:ZA},acT a args kws c.Z K X->g9 n A->A.frames=C l->cr l c->aG c.g args us->aG c.g (kws.map (·.2)) uk->Ž cx.M A (.call (.ref a) ⟨us,(kws.map (·.1)).zip uk⟩) (QR l c K X) c.s
 fn:Tq->∀{a:Ü} {args:ZB} {kws:ZF} {Z:aa} {K:VK} {X:Ì->aa->Prop},acT a args kws Z K X->keepIn cx.K (.ref a)=Í/\fnIn cx.K a=Í
section
variable {n:Ó} {acT:aj} {c c₀:Cf} {A:Ā} {l:È ϙ} {K:VK} {X:Ì->aa->Prop} {f:AV} {D:Ê} {xs:ZB} {kvs:ZF} {us uk:ZA}
def gF {f:Ê} {us:ZA} {G:ZD} (h:Ž cx.M A (.call f ⟨us,G⟩) (QR l c K X) c.s):Î cx.M A (call f us G) (QC c K) (XC c l X) c.s:=by
 refine ϵ (φ h λr s'' z=>?_)
 rcases r with e|(w|_|_|_)<;>first|exact z|exact z.elim
def rW {v:AV} {Z':aa} {t:Ϛ Ê} {E:Ê->Ç->Prop} (h:Î cx.M A t (PX c.g c.s Z' v) bj c.s) (k:K v Z'):Î cx.M A t (QC c K) E c.s:=
 Ô h ((by rintro u H I;refine I _ λG a i r=>?_;exact .mk ⟨G,Z',H,i⟩ v u a r k)) λJ J x=>x.elim
def vQ {h:ę} {a:Ü} {p q:Ê} (e:h.get? a=C (d8 p q)):Keeps h (.ref a):=⟨.machine,.inr (.inl rfl),(adM (part:=U) e).andThen .now⟩
def nF (b:BI) (h:ę):Keeps h b.val:=⟨.machine,.inr (.inl rfl),by rcases b<;>exact .now⟩
def cr.go {c':Cf} (h:cr l c) (a:bt [] c.g c.s c'.g c'.s):cr l c':=λe À=>by
 obtain⟨I,L,O,y⟩:=h e À
 refine y _ λo G Q H V=>?_
 exact⟨I,L,O,.mk o (a.keep _ _ G H Ķ) Q (a.new _ _ G H) (a.newI _ _ G V)⟩
def HL {h:ę} {a:Ü} (e:h.get? a=C ϓ):Jc h a (λJ=>U) 0:=(.mk _ (#[]) _ e rfl (λx G=>by simp at G) (λJ=>rfl) (Ë _))
def Pq (Cf:me n acT) (h:Bc T acT xs kvs c.Z K) (hA:B0 n A) (hl:A.frames=C l) (hf:cr l c) (q:aG c.g xs us) (qk:aG c.g (kvs.map (·.2)) uk) :
 Ž cx.M A (.call (.ref T.acT) ⟨us,(kvs.map (·.1)).zip uk⟩) (QR l c K X) c.s:=by
 obtain⟨g,Z,⟨I,gs,d,t,os⟩,i⟩:=c
 have M:=i.H.make
 have À:=i.X i.H.cls
 refine make_core (makes_of À M.makes) (looks_findIn À M.ini) (λself=>bind_fn À self M.iniFn) (.inl rfl) ?_
 have E:=af ⟨I,gs,d,t,os⟩
 have j:∀b o,I.get? b=C o->(I.push ϓ).get? b=C o:=λb o e=>Ñ _ e
 have g1:(I.push ϓ).get? I.objs.size=C ϓ:=ê _ rfl
 have o1:OR (g.cell I.objs.size) (I.push ϓ) I.objs.size (.attrs (T.an.map λJ=>U)):=by
  refine(.mk (λJ=>U) ?_ (length_map ..) i.H.few (λx v J Q=>?_) (λJ J=>rfl))
  ·have:(T.an.map λJ=>(U:Æ AV)).countP (·.isSome)=0:=by rw[countP_eq_zero];intro z hz;obtain⟨_,_,rfl⟩:=ě.mp hz;simp
   rw[this];exact HL g1
  ·rw[Ė]at Q;obtain⟨_,_,Q⟩:=Ħ.mp Q;cases Q
 have a1:bt [] g ⟨I,gs,d,t,os⟩ (g.cell I.objs.size) ⟨I.push ϓ,gs,d,t,os⟩:=.k! (t:=t) (Ë _) E j
 have N:Inv (g.cell I.objs.size) (Z++[.attrs (T.an.map λJ=>U)]) ⟨I.push ϓ,gs,d,t,os⟩:=i.k! (t:=t) (Ë _) E o1 j
 have V:=af ⟨I.push ϓ,gs,d,t,os⟩
 have hsz:(I.push ϓ).objs.size=I.objs.size+1:=e8 ..
 have w:∀b o,(I.push ϓ).get? b=C o->((I.push ϓ).push (Xy T.acT I.objs.size)).get? b=C o:=λb o e=>Ñ _ e
 have g2:((I.push ϓ).push (Xy T.acT I.objs.size)).get? (I.objs.size+1)=C (Xy T.acT I.objs.size):=by rw[<-hsz];exact ê _ rfl
 have O:(I.push ϓ).get? (I.objs.size+1)=U:=by rw[<-hsz];exact V
 have L:=a1.trans (.freeze (t:=t) (o:=Xy T.acT I.objs.size) N (Ë _) O w)
 have i2:=N.freeze (t:=t) (o:=Xy T.acT I.objs.size) (Ë _) O g2 w
 have self:VR ((g.cell I.objs.size).freeze (I.objs.size+1) (Xy T.acT I.objs.size)) (.obj Z.length) (.ref (I.objs.size+1)):=by
  exact M1.mk _ _ rfl (G.é _ _ _) (by rw[<-i.len];exact Ĳ)
 have hw:∀k,(Xw "type.__call__" ⟨.ref T.acT::us,k⟩).weight=1:=λk=>rfl
 have hc:∀k,(Xw "type.__call__" ⟨.ref T.acT::us,k⟩).cUnits=1:=λk=>rfl
 refine φ (Cf.run (args:=.obj Z.length::xs) (us:=.ref (I.objs.size+1)::us) ⟨_,_,_,i2⟩ h (A:=A.under (.builtin "type.__call__" ⟨.ref T.acT::us,(kvs.map (·.1)).zip uk⟩)) ⟨hA.handled,?_,?_⟩ (l:=l) hl (hf.go L) (.cons self (q.mono L.le)) (qk.mono L.le)) λr s' z=>?_
 ·show A.depth+(Xw "type.__call__" ⟨.ref T.acT::us,_⟩).weight+4 * n+6<ϕ
  rw[hw];exact É (ó (Õ (· + 6) (Ě A.depth 1 (4 * n)))) (É (Ø (by decide:7<=8) _) hA.depth)
 ·show A.units+(Xw "type.__call__" ⟨.ref T.acT::us,_⟩).cUnits+60 * n+80<XU
  rw[hc];exact É (ó (Õ (· + 80) (Ě A.units 1 (60 * n)))) (É (Ø (by decide:81<=100) _) hA.units)
 ·rcases r with e|(y|_|_|_)<;>first|exact z.elim|skip
  ·obtain⟨_,_,_,_,_,_,z⟩:=z
   exact z.elim
  ·obtain⟨c',v,u,Y,m,k⟩:=z
   refine cw k λJ hv k=>?_
   rw[jt hv]at m
   exact⟨m,.mk c' _ _ (L.trans Y) (self.mono Y.le) k⟩
end
def fM {kvs:ZF} (h:kvs.isEmpty=Í) (uk:ZA):(kvs.map (·.1)).zip uk=[]:=by rw[Ġ.mp h];rfl
section
variable {g:G} {x:AV} {u:Ê} {xs:ZB} {us:ZA} {À:Type} {f:AV->Æ À} {a:À} {P:Prop} {Q:È Ê->Prop}
def aG.e1 {Q:È Ê->Prop} (R:aG g [x] us) (k:∀u,VR g x u->Q [u]):Q us:=by
 obtain⟨u,r,rfl,h,t⟩:=R.b!
 rw[t.d!];exact k u h
def aG.e2 {x y:AV} {Q:È Ê->Prop} (R:aG g [x,y] us) (k:∀u w,VR g x u->VR g y w->Q [u,w]):Q us:=by
 obtain⟨u,r,rfl,h,t⟩:=R.b!
 exact t.e1 (Q:=λr=>Q (u::r)) λw q=>k u w h q
def aG.e3 {x y z:AV} {Q:È Ê->Prop} (R:aG g [x,y,z] us) (k:∀u w t,VR g x u->VR g y w->VR g z t->Q [u,w,t]):Q us:=by
 obtain⟨u,r,rfl,h,t⟩:=R.b!
 exact t.e2 (Q:=λr=>Q (u::r)) λw q G B=>k u w q h G B
def eX (R:aG g xs us) (h:(one xs).bind f=C a) (k:∀x u,VR g x u->f x=C a->Q [u]):Q us:=by
 rcases xs with _|⟨x,_|⟨y,r⟩⟩
 ·exact aD h
 ·exact R.e1 λu r=>k x u r h
 ·exact aD h
def qN {f:Ó->Æ À} (r:VR g x u) (h:(lG x).bind f=C a) (k:∀l,VR g (.loc l) u->f l=C a->P):P:=aP h λl B h=>k l (yo B▸r) h
def fS {f:Ì->Æ À} (r:VR g x u) (h:(strV x).bind f=C a) (k:∀l,VR g (.str l) u->f l=C a->P):P:=aP h λl B h=>k l (fL B▸r) h
def G2 {f:Į->Æ À} (r:VR g x u) (h:(intV x).bind f=C a) (k:∀l,VR g (.int l) u->f l=C a->P):P:=aP h λl B h=>k l (nz B▸r) h
variable {n:Ó} {A:Ā} {Z:aa} {s:Ç} {p:AV×aa} {b:BI} {args:ZB} {O:Ê}
def gW {v:AV} {Z':aa} {t:Ϛ Ê} (h:C (v,Z')=C p) (q:Î cx.M A t (PX g s Z' v) bj s):Î cx.M A t (PX g s p.2 p.1) bj s:=by obtain rfl:=Ä h;exact q
def Om (h:RA b x args Z=C p) (hA:A.handled=U) (i:Inv g Z s) (N:VR g (.bm b x) O) (R:aG g args us):Î cx.M A (call O us []) (PX g s p.2 p.1) bj s:=by
 (refine N _ ?_;rintro a w rfl G B)
 have G:=i.sub _ _ G
 refine eX (Q:=λus=>Î cx.M A (call (.ref a) us []) (PX g s p.2 p.1) bj s) R h λy u q h=>?_
 rcases b<;>first|exact aD h|skip
 ·exact qN B h λl B h=>aP h λys E h=>aQ h λhz h=>gW h (Cj i (list_eq E) hz G B q)
 ·exact fS B h λl B h=>aP h λys H h=>aP h λts L h=>aQ h λhz h=>gW h (JC i H L hz G B q)
 ·exact aP h λks V h=>aP h λkvs Y h=>aQ h λhz h=>by
   rw[wS V]at B
   exact gW h (FN hA i Y hz G B q)
end
def Pg {s:Ç} {A:Ā} {a f:Ü} {w:Ê} {us:ZA} {I:ZD} {R:ky->Ç->Prop} (B:s.heap.get? a=C (methodObj (.ref f) w))
 (h:Ž cx.M A (.call (.ref f) ⟨w::us,I⟩) R s):Ž cx.M A (.call (.ref a) ⟨us,I⟩) R s:=by
 refine ν ?_
 show Î _ A.in1 (YV (.ref a) _) _ _ s
 dsimp only[YV]
 exact Á (X3 B (Å ⟨rfl,h⟩))
def IW.keeps {h:ę} {m:Ü} (H:IW h m):Keeps h (.ref m):=by exact H _ λJ J J J J J J J J J J J B J J J J J J=>vQ B
section
variable {n:Ó} {acT:aj} {c c₀:Cf} {A:Ā} {l:È ϙ} {K:VK} {X:Ì->aa->Prop} {f:AV} {O:Ê} {xs:ZB} {kvs:ZF} {us uk:ZA}
structure wX (f:Ê) (us:ZA) (I:ZD) (A:Ā) (l:È ϙ) (c:Cf) (K:VK) (X:Ì->aa->Prop):Prop where
 keeps:Keeps c.s.heap f
 run:Î cx.M A (call f us I) (QC c K) (XC c l X) c.s
def pz (B:wW n) (Cf:me n acT) (h:rL T acT f xs kvs c.Z K X) (hA:B0 n A) (hl:A.frames=C l) (m:cr l c) (Y:VR c.g f O) (q:aG c.g xs us) (qk:aG c.g (kvs.map (·.2)) uk):wX O us ((kvs.map (·.1)).zip uk) A l c K X:=by
 have j:=c.i.X c.i.H.cls
 rcases f<;>first|exact h.elim|skip
 ·subst Y
  refine OV h (λd h=>?_) λJ h=>⟨acz (Cf.fn c.i.H h).1 _ j,gF (Cf.run c h hA.call hl m q qk)⟩
  rw[ĕ.mp d]
  exact⟨acz c.i.H.make.keep _ j,gF (Pq Cf h hA hl m q qk)⟩
 ·subst Y
  obtain⟨E,h⟩:=bV h
  rw[fM E]
  exact cw h λp V k=>⟨nF _ _,rW (B V hA c.i q) k⟩
 ·obtain⟨E,h⟩:=bV h
  rw[fM E]
  refine cw h λp V k=>⟨?_,rW (Om V hA.handled c.i Y q) k⟩
  (refine Y _ ?_;rintro a w rfl L _)
  exact vQ (c.i.sub _ _ L)
 ·(refine Y _ ?_;rintro a w rfl L x0)
  have L:=c.i.sub _ _ L
  exact⟨keeps_M (Cf.fn c.i.H h).2 _ ⟨L,j⟩,gF (Pg L (Cf.run c h hA.call hl m (.cons x0 q) qk))⟩
 ·subst Y
  obtain⟨E,h⟩:=bV h
  rw[fM E]
  refine cw h λy N k=>?_
  obtain⟨z,hz,N⟩:=ù.mp N
  obtain rfl:xs=[z]:=by rcases xs with _|⟨z',_|⟨_,_⟩⟩<;>first|exact aD hz|exact Õ (λz=>[z]) (Ä hz)
  rw[fL N]at q
  have V:=c.i.H.pat.at λb o e=>c.i.sub _ _ (c.i.base _ _ e)
  refine⟨V.keeps,q.e1 (Q:=λus=>Î cx.M A (call (.ref T.lk) us []) (QC c K) (XC c l X) c.s) λu r=>?_⟩
  (refine r _ ?_;rintro t rfl z)
  refine yt V (É z (by rw[ŀ];decide)) (λhn=>?_) λN h' e o kp he ho d=>?_
  ·rw[hn]at k
   exact .mk c .none .none (.refl _ _ _) .none_ k
  ·rw[N]at k
   have i':=c.i.freeze (t:=c.s.toks) (Ë _) he ho kp
   exact .mk ⟨_,_,_,i'⟩ .mo _ (.freeze (t:=c.s.toks) c.i (Ë _) he kp) (.mk e o rfl (G.é _ _ _) d) k
def B9 (B:wW n) (Cf:me n acT) {m:Callee} {fx:Ê×È Ê} (h:FF T acT m xs kvs c.Z K X) (hA:B0 n A) (L:A.frames=C l) (G:cr l c) (N:MR c.g m fx) (q:aG c.g xs us) (V:aG c.g (kvs.map (·.2)) uk):wX fx.1 (fx.2++us) ((kvs.map (·.1)).zip uk) A l c K X:=by
 obtain⟨f1,f2⟩:=fx
 exact match m,h,N with
 | .val f,h,⟨h1,h2⟩=>by subst h1;exact pz B Cf h hA L G h2 q V
 | .fn a x,h,⟨h1,w,h2,h3⟩=>by subst h1;subst h2;exact⟨acz (Cf.fn c.i.H h).1 _ (c.i.X c.i.H.cls),gF (Cf.run c h hA.call L G (.cons h3 q) V)⟩
 | .bi b x,h,⟨h1,w,h2,h3⟩=>by subst h1;subst h2;obtain⟨Y,h⟩:=bV h;rw[fM Y];exact cw h λp E k=>⟨nF _ _,rW (B E hA c.i (.cons h3 q)) k⟩
end
section
variable {n:Ó} {acT:aj} {r:Ev} {F:Fr n} {vs:Vs} {c c₀:Cf} {K:VK} {X:XK} {x:Ì} {us:ZA} {f:Ê} {I:ZD}
def zE (a:Le F c₀ c) (e:At F vs c) (h:wX f us I F.A F.frs c K λm Z=>X m vs Z):Keeps c.s.heap f/\Î cx.M F.A (call f us I) (QX F vs c₀ K) (XX F c₀ X) c.s:=
 ⟨h.keeps,Ô h.run (λJ J x=>match x with | .mk c' v u b r k=>.mk c' v u (a.trans b.own) (e.go b) r k) λJ J x=>match x with
  | .mk c' m u b z x k=>.mk c' m vs u ((a.m! λJ h=>ç _ h).trans (b.m! λJ h=>í _ h)) (fY.up a (e.xc b z) b.le λL B J o G=>z L B o G) (e.xc b z) ((x.imp λJ h=>.inr (.inl h)).up λJ h=>a.none_ h) k⟩
def MR.mono {g B:G} (le:g.le B) {m:Callee} {fx:Ê×È Ê} (h:MR g m fx):MR B m fx:=match m,h with
 | .val _,⟨h1,h2⟩=>⟨h1,h2.mono le⟩
 | .fn _ _,⟨h1,w,h2,h3⟩=>⟨h1,w,h2,h3.mono le⟩
 | .bi _ _,⟨h1,w,h2,h3⟩=>⟨h1,w,h2,h3.mono le⟩
def F2 (B:wW n) (Cf:me n acT) (H:gA n r.e) {o:ñ} {N G:ϗ} {args:È ñ} {kws:È ς} (hs:dK o=Í) (hl:N.endLine=G.line) (hz:args.length+kws.length<28) (t:dR args kws=Í) (e:At F vs c)
 (h:Nz T acT r F.ks F.ns o x args kws vs c.Z K X):Î cx.M F.A (Ũ (.Call (.Attribute o x N) args kws G) F.env) (QX F vs c K) (XX F c X) c.s:=by
 refine Á (iY hs (bq H (.refl _ _ _) e h λc₁ w u1 l₁ a1 e₁ r1 h=>cw h λm V h=>Á (ī ?_)))
 obtain⟨z,ha2⟩:=è.mp t
 have L:Xm (args.length+kws.length) (Ab G (ŧ args F.env)) (ϔ G (ū kws F.env)) = !args.any aO:=by
  unfold Xm
  simp only[(jp G F.env z).all,(og G F.env args).2]
  have:decide (args.length+kws.length+(if(ϔ G (ū kws F.env)).isEmpty=Í then 0 else 1)<30)=Í:=õ (by split<;>(first|exact Â ‹_› Zz|exact É ‹_› Zz))
  rw[this]
  cases args.any aO<;>rfl
 dsimp only[methodCall]
 rw[L]
 have E:Ϥ (!args.any aO) o F.env N G=pure G:=by unfold Ϥ;simp[hl]
 have Y:Î cx.M F.A (calleeOf (!args.any aO) o F.env u1 x) (fX c₁ m) (XX F c X) c₁.s:=by
  cases q:args.any aO with
  | false=>rw[q]at V;exact qO c₁ r1 V
  | true=>
   rw[q]at V
   exact bC V λv hv V=>V▸Á (Ô (PE.x (mT c₁.i.H.cls c₁.i r1 hv)) ((by rintro u s yy;refine yy _ λj a i r=>?_;exact Å (.mk j i a ⟨rfl,r⟩))) λJ J x=>x.elim)
 refine Á (ä (Ô Y (λfx s₂ y=>?_) λJ J x=>x))
 refine y _ λj i' d m'=>?_
 obtain⟨fv,first⟩:=fx
 refine Á (ś E ?_)
 exact k7 H t (c:=⟨j,_,s₂,i'⟩) (a1.trans d.own) (e₁.go d) h λc' xs kvs us uk l₂ a2 e₂ q qk h=>zE a2 e₂ (B9 B Cf (fx:=(fv,first)) h F.hA F.fr e₂.frs (m'.mono l₂) q qk)
def Oz (B:wW n) (Cf:me n acT) (H:gA n r.e) {o:ñ} {G:ϗ} {args:È ñ} {kws:È ς} (N:pA o=U) (e:At F vs c)
 (h:cX (dR args kws) (Nk T acT r F.ks F.ns o args kws vs c.Z K X)):Î cx.M F.A (Ũ (.Call o args kws G) F.env) (QX F vs c K) (XX F c X) c.s:=by
 have L:Ũ (.Call o args kws G) F.env=(do adS G (<-Ũ o F.env) [] (Ab G (ŧ args F.env)) (ϔ G (ū kws F.env))):=by
  rcases o<;>first|rfl|exact aD N.symm
 rw[L]
 obtain⟨E,h⟩:=bV h
 exact Á (bq H (.refl _ _ _) e h λc₁ w u1 l₁ Y e₁ y V=>k7 H E Y e₁ V λc' xs kvs us uk l₂ a2 e₂ q j V=>zE a2 e₂ (pz B Cf V F.hA F.fr e₂.frs (y.mono l₂) q j))
end
theorem iq:∀{ps:ZC} {xs:ZB} {B:ZF},rS ps xs=C B->ps.length=xs.length/\B.map (·.1)=ps/\B.map (·.2)=xs
 | [],[],_,e=>by cases e;exact⟨rfl,rfl,rfl⟩
 | p::ps,x::xs,B,e=>by
  refine bC e λb G h=>?_
  subst h
  obtain⟨H,I,L⟩:=iq G
  exact⟨Õ (· + 1) H,Õ (p :: ·) I,Õ (x :: ·) L⟩
 | [],_::_,_,e=>aD e
 | _::_,[],_,e=>aD e
section
def Li {kws:ZF} {uk:ZA} (q:aG g (kws.map (·.2)) uk) (k:Ì):(ak k kws=U/\((kws.map (·.1)).zip uk).lookup k=U)\/∃w u,ak k kws=C w/\((kws.map (·.1)).zip uk).lookup k=C u/\VR g w u:=by
 induction kws generalizing uk with
 | nil=>exact .inl ⟨rfl,rfl⟩
 | cons a kws Q=>
  obtain⟨b,us,rfl,L,O⟩:=aG.b! (show aG g (a.2::kws.map (·.2)) uk from q)
  obtain⟨B,w⟩:=a
  by_cases hk:B=k
  ·subst hk;exact .inr ⟨w,b,by rw[bu,Û rfl],by simp[ſ],L⟩
  ·have G:(k==B)=Ï:=Œ λe=>hk e.symm
   have H:ak k ((B,w)::kws)=ak k kws:=by rw[bu,Ý hk]
   have I:((((B,w)::kws).map (·.1)).zip (b::us)).lookup k=((kws.map (·.1)).zip us).lookup k:=by simp[ſ,G]
   rw[H,I];exact Q O
def LM {kws:ZF} {uk:ZA} (q:aG g (kws.map (·.2)) uk):∀{B:ZF} {G:ZA},aG g (B.map (·.2)) G->
 ∃H,pick (B.map (·.1)) G ((kws.map (·.1)).zip uk)=(B.map (·.1)).zip H/\aG g (B.map λO=>(ak O.1 kws).getD O.2) H:=by
 intro acT;induction acT with
 | nil=>
  exact @λJ J=>⟨[],rfl,.nil⟩
 | cons E B V=>
  obtain⟨k,d⟩:=E;exact @λG r=>by
   obtain⟨v,G,rfl,Y,r⟩:=aG.b! (show aG g (d::B.map (·.2)) G from r)
   obtain⟨H,e,Q⟩:=V r
   rcases Li q k with⟨I,L⟩|⟨w,u,I,L,À⟩
   ·exact⟨v::H,by show(k,_)::pick _ _ _=_;rw[L,e];rfl,by rw[Ī,I];exact .cons Y Q⟩
   ·exact⟨u::H,by show(k,_)::pick _ _ _=_;rw[L,e];rfl,by rw[Ī,I];exact .cons À Q⟩
def kZ {f:Fn} {args:ZB} {kws B:ZF} (e:bindB f args kws=C B):B.map (·.1)=f.pars++f.kwd.map (·.1):=by
 refine aQ e λhk e=>Se (P:=λB=>B.map (·.1)=f.pars++f.kwd.map (·.1)) e λps G=>?_
 simp only[ò,(iq G).2.1,ĥ];rfl
def rU {f:Fn} {O:Y9} (B:rF f O) (X:cx.K.In s.heap) {args:ZB} {kws:ZF} {G:ZF} {us uk:ZA} {P:È (Ì×Ê)->Ç->Prop} (e:bindB f args kws=C G) (V:∀a o,cx.h₀.get? a=C o->g.I a=C o) (q:aG g args us) (Q:aG g (kws.map (·.2)) uk)
 (h:∀ws,aG g (G.map (·.2)) ws->P ((G.map (·.1)).zip ws) s):Î cx.M A (adQ O ⟨us,(kws.map (·.1)).zip uk⟩) P bj s:=by
 have E:=kZ e
 revert h
 rw[E]
 refine aQ e λhk e=>Se (P:=λG=>(∀ws,aG g (G.map (·.2)) ws->P ((f.pars++f.kwd.map (·.1)).zip ws) s)->_) e λps À h=>?_
 obtain⟨H,_,acT⟩:=iq À
 refine B _ λdv kv Y run=>?_
 obtain⟨L,y⟩:=Y g V
 obtain⟨pv,N,j⟩:=LM Q y
 have L:=L.drop (us.length+f.dfl.length - f.pars.length)
 rw[Ð,q.length,ϰ]at H
 simp only[ò,acT,ĥ]at h
 rw[q.length]at h
 refine run _ (Ú.mp hk) _ (ZG (ı ..▸Ø (Nat.le.intro H.symm) _)) us uk H.symm (by simp only[<-Q.length,length_map,length_map]) s X cx.M A bj P ?_
 rw[N,<-zip_append (by rw[Ð,<-L.length,ϰ];exact H)]
 exact h _ ((q.append L).append j)
end
set_option tactic.hygienic true in def d9:∀(names:È (Ì×NameKind)) (n:Ó) (acc:È (Ì×Ü)) (x:Ì),((x,ql)∈names\/∃c,acc.lookup x=C c)->∃c,(aak n names acc).lookup x=C c:=by
 intro H;induction H with
 | nil=>
  exact @λJ J J h=>h.elim (λh=>by simp at h) id
 | cons G r B=>
  obtain⟨y,k⟩:=G;exact @λn acc x h=>by
   dsimp only[aak]
   split
   ·refine B _ _ x ?_
    by_cases hx:x=y
    ·subst hx;exact .inr ⟨n,by simp[ſ]⟩
    ·rcases h with h|⟨c,h⟩
     ·rcases Ċ.mp h with h|h
      ·rcases h;exact absurd rfl hx
      ·exact .inl h
     ·exact .inr ⟨c,by simp only[ſ,Œ hx];exact h⟩
   ·rename_i hk
    refine B _ _ x ?_
    rcases h with h|h
    ·rcases _:Ċ.mp h with h|h
     ·rcases h;exact absurd rfl hk
     ·exact .inl h
    ·exact .inr h
def dI (ns:ZC) (x:Ì):bD x ns (ns.map λJ=>U)=U:=by
 unfold bD
 rw[Ė]
 cases ns[ns.idxOf x]?<;>rfl
structure Jb (F:Fr n) (A:Ā) (l:È ϙ) (sc:Α) (c:Cf):Prop where
 A:F.A=A.deeper F.env
 ks:F.ks=sc.names
 ns:F.ns=ar sc
 frs:F.frs=F.env::l
 frame:F.env.frame=C F.env.locals
 own:∀b∈F.own,c.s.heap.get? b=U
section
variable {n:Ó} {F:Fr n} {c c₀:Cf} {A:Ā} {l:È ϙ} {vs:Vs}
def FM {P:PUnit->Ç->Prop} (f:Ì×Ê->PUnit->Ϛ (acJ PUnit)) (O:∀n v u,f (n,v) u=(do adf F.env n v;pure (.yield ⟨⟩))):∀{B:ZF} {ws:ZA} {c:Cf} {vs:Vs},(∀p∈B,bI F.ks p.1=Í)->
 Le F c₀ c->At F vs c->aG c.g (B.map (·.2)) ws->(∀c',c'.Z=c.Z->Le F c₀ c'->At F (B.foldl (λvs (x,v)=>fG x v vs F.ns) vs) c'->P ⟨⟩ c'.s)->Î cx.M A (forIn ((B.map (·.1)).zip ws) ⟨⟩ f) P bj c.s:=by
 intro Y;induction Y with
 | nil=>
  exact @λws c vs J a e q h=>Å (h c rfl a e)
 | cons V B À=>
  obtain⟨y,w⟩:=V;exact @λws c vs G a e q h=>by
   obtain⟨u,us,rfl,I,L⟩:=aG.b! (show aG c.g (w::B.map (·.2)) ws from q)
   rw[Ī,M_,ϟ,O]
   exact Á (Á (jD e (G (y,w) (ã ..)) I λh' t i H e₁=>Å (À (c:=c.wr i) (λp Q=>G p (à _ Q)) (a.trans H) e₁ L h)))
def Gj {sc:Α} (S:Jf sc) {qual:Ì} {func:Æ Ü} {code:Ê} (hA:g9 (n+1) A) (hl:A.frames=C l) (w:cr l c)
 (N:(∃c o fs,code = .ref c/\cx.h₀.get? c=C o/\o.data = .fields fs)/\((sc.names.lookup ("resolved_names" : Ì)).isSome=Í->code = .ref T.lc/\qual=T.lq)) {E:ZF} {ws:ZA} {P:ϙ->Ç->Prop} (hs:∀p∈E,bI sc.names p.1=Í) (q:aG c.g (E.map (·.2)) ws)
 (h:∀(F:Fr n) c',Jb F A l sc c->c'.Z=c.Z->Le F c c'->At F (E.foldl (λvs (x,v)=>fG x v vs (ar sc)) ((ar sc).map λJ=>U)) c'->P F.env c'.s) :
 Î cx.M A.in1 (Xn sc ġ [] ((E.map (·.1)).zip ws) qual func code U Ŏ) P bj c.s:=by
 obtain⟨g,Z,s,i⟩:=c
 have À:=af s
 simp only[Xn,Zr,ĭ,δ]
 refine Á (abA ?_)
 refine Á (aec _ (λname kind cells=>by rcases hkc:kind==ql<;>dsimp[hkc]) _ _ _ _ ?_)
 have ok:=cellsFrom_ok sc.names (s.heap.push { cls:=.type "frame",data:=.dict #[] }) (s.heap.objs.size+1) [] ⟨λJ J hm=>(nomatch hm),WU⟩ (by simp only[e8];exact Ë _)
 have k:∀b o,s.heap.get? b=C o->(ww (s.heap.push { cls:=.type "frame",data:=.dict #[] }) sc.names).get? b=C o:=λb o e=>ct _ _ b o (Ñ _ e)
 have m:(ww (s.heap.push { cls:=.type "frame",data:=.dict #[] }) sc.names).get? s.heap.objs.size=C { cls:=.type "frame",data:=.dict #[] }:=ct _ _ _ _ (ê _ rfl)
 have V:(ww (s.heap.push { cls:=.type "frame",data:=.dict #[] }) sc.names).Ns s.heap.objs.size (λJ=>U):=(Ns.new s.heap (.type "frame")).keeps (ct _ _)
 have O:∀{b:Ü},s.heap.objs.size<=b->s.heap.get? b=U:=λ{b} I=>by
  cases q:s.heap.get? b with
  | none=>rfl
  | some o=>exact absurd (Ŀ q) (ų.mpr I)
 generalize j:aak (s.heap.push { cls:=.type "frame",data:=.dict #[] }).objs.size sc.names []=cs at ok
 generalize hh:ww (s.heap.push { cls:=.type "frame",data:=.dict #[] }) sc.names=hp at ok k V m
 let c1:Cf:=⟨g,Z,{ s with heap:=hp },i.keep (t:=s.toks) (Ë _) k⟩
 let env:ϙ:={ scope:=sc,locals:=s.heap.objs.size,globals:=ġ,cells:=cs,qual:=qual,func:=func,code:=code,frame:=C s.heap.objs.size,builtins:=Ŏ }
 let F:Fr n:=⟨A.deeper env,sc.names,ar sc,env,env::l,hA.B! env,S.kind,rfl,rfl,N,λx=>.inl rfl,λx B=>by
  rcases B with B|B<;>exact ě.mpr ⟨_,þ.mpr ⟨mem_of_lookup B,by rfl⟩,rfl⟩,λx y c B hy=>name_of_addr ok.apart (mem_of_lookup B) (mem_of_lookup hy),by rw[show(A.deeper env).frames=A.frames.map (env :: ·)from rfl,hl];rfl,λe H=>by
  rcases Ċ.mp H with rfl|H
  ·exact⟨by rw[show env.scope.kind = .function from S.kind];decide,_,rfl⟩
  ·exact(by obtain⟨h1,L,Q,_⟩:=w e H;exact⟨h1,L,Q⟩),λe H L G x b I=>by
  obtain⟨_,Y⟩:=ok.empty x b (mem_of_lookup I)
  rcases Ċ.mp H with rfl|H
  ·exact Ä G▸(Ĝ Y).symm
  ·obtain⟨_,L',Q,y⟩:=w e H
   refine y _ λo r J J J=>?_
   rw[G]at Q
   obtain rfl:=Ä Q
   exact λz=>absurd (Ŀ r) (ų.mpr (z▸ð Y))⟩
 have e1:At F ((ar sc).map λJ=>U) c1:=by
  refine⟨length_map ..,(.mk _ V (λx v J e=>by rw[dI]at e;cases e)),⟨(i.fresh À).2,(i.fresh À).1⟩,λx B=>?_,λe H L G=>?_⟩
  ·rcases B with B|B
   ·obtain⟨c,acT⟩:=d9 sc.names (s.heap.push { cls:=.type "frame",data:=.dict #[] }).objs.size [] x (.inl (mem_of_lookup B))
    rw[j]at acT
    obtain⟨o1,Y⟩:=ok.empty x c (mem_of_lookup acT)
    have I:=O (b:=c) (ð Y)
    exact(.mk c acT (i.fresh I).2 (i.fresh I).1 (Ĝ Y).symm U o1 (λv e=>by rw[dI]at e;cases e))
   ·exact absurd rfl (S.free _ (mem_of_lookup B))
  ·rcases Ċ.mp H with rfl|H
   ·obtain rfl:=Ä G
    exact(.mk _ m (λJ q=>(nomatch q)) (i.fresh À).2 (i.fresh À).1)
   ·obtain⟨_,L',Q,y⟩:=w e H
    refine y _ λo r hd n1 n2=>?_
    rw[G]at Q
    obtain rfl:=Ä Q
    exact(.mk o (k _ _ r) hd n1 n2)
 refine Á (FM (F:=F) (c:=c1) (c₀:=⟨g,Z,s,i⟩) _ (λJ J J=>rfl) hs (.keeps (t:=s.toks) (Ë _) k) e1 q λc' d a e=>Å (h F c' ⟨rfl,rfl,rfl,rfl,rfl,λb I=>?_⟩ d a e))
 refine NE (F:=F) I (λz=>z▸À) λx J B=>O (ð (ok.empty x b (mem_of_lookup B)).2)
variable {c':Cf} {K:VK} {X:Ì->aa->Prop} {u:Ê} {G:Ç}
def Jb.def (N:Jb F A l sc c):oL Ï F:=⟨N.frame,l,N.frs,λh=>nomatch h⟩
def Hr {sc:Α} (N:Jb F A l sc c) (e₁:At F vs c₀) (E:Le F c c₀) (x:XX F c₀ (λm J Z=>X m Z) u G):Î cx.M (A.deeper F.env) (Yj F.env u) (λJ O=>XC c l X u O) (λJ J=>False) G:=by
 obtain⟨c',m,vs',u,a,z,e,y,k⟩:=x.up E
 have acT:∀L∈jM F.frs,L∈F.own++jM F.frs:=λL h=>í _ h
 rw[<-N.A]
 refine Ô (CD e.frs N.frs F.fr N.frame (λb h=>a.none_ h) (λJ h=>h) y) (λJ O y=>?_) λJ J y=>y
 obtain⟨À,kc,y⟩:=y
 have a2:=a.ch acT kc
 have I:∀L∈jM l,∀o,c.s.heap.get? L=C o->L∈jM F.frs/\L∉F.own:=λL Y o B=>⟨by rw[N.frs];exact ĵ.mpr ((by obtain⟨f,H,q⟩:=ĵ.mp Y;exact⟨f,à _ H,q⟩)),λq=>by rw[N.own L q]at B;cases B⟩
 refine .mk À m _ ⟨a2.le,a2.toks,λb o B Q V=>a2.keep b o B Q λq=>?_,a2.new,a2.newI,a2.stay,a2.gens,a2.os⟩ (λL Y o B=>?_) y (kc.Z▸k)
 ·rcases ý.mp q with q|q
  ·rw[N.own b q]at B;cases B
  ·rw[N.frs]at q
   obtain⟨f,H,q⟩:=ĵ.mp q
   rcases Ċ.mp H with rfl|H
   ·rw[N.frame]at q
    obtain rfl:=Ä q
    rw[N.own _ (ã ..)]at B;cases B
   ·exact V (ĵ.mpr ⟨f,H,q⟩)
 ·obtain⟨Q,V⟩:=I L Y o B
  obtain⟨w,q⟩:=z L Q V o B
  obtain⟨g,q⟩:=kc.slots L Q _ q
  exact⟨g,q⟩
def FQ (g:∀n,me n (hW T n)->fj Ï n (F9 T (hW T n) Ï 40)):∀n,me n (hW T n):=by
 intro zz;induction zz with
 | zero=>
  exact⟨λJ=>λh=>h.elim,λJ=>λh=>h.elim⟩
 | succ n ih=>
  have R:=g n (ih)
  refine⟨?_,?_⟩
  ·intro a args kws K X c A l us uk h hA hl hf q qk
   refine cw h λf Y h=>cw h λbs e2 h=>?_
   have i:=c.i
   refine i.H.fn a f Y _ λo fd ho hd hb L S sg hg j z I J J O d B=>?_
   have Q:∀p∈bs,bI f.scope.names p.1=Í:=λp hp=>d _ (by rw[<-kZ e2];exact ě.mpr ⟨p,hp,rfl⟩)
   refine aaX hA.r! (i.e! _ _ ho) hd (by rw[L];exact S.co) (by rw[L];exact sg) hb (I.keeps i.e!) (Ô (rU (A:=A.in1) B (i.X i.H.cls) e2 i.base q qk λws qw=>?_) (λJ J x=>x) λJ J x=>x.elim)
   simp only[L,hg,j,z]
   refine Ô (Gj (n:=n) S hA hl hf ⟨(by obtain⟨c,o,fs,_,E,acT,h3,_⟩:=I;exact⟨c,o,fs,E,acT,h3⟩),O⟩ Q qw λF c' N m À e₁=>⟨i.H.lim.keeps c'.i.e!,codeAny_func ?_⟩) (λJ J x=>x) λJ J x=>x.elim
   rw[<-m,<-N.ks,<-N.ns]at h
   rw[<-N.ns]at e₁
   have run:=et R.s N.def e₁ h
   rw[N.A]at run
   refine Ô run (λff s₂ y=>?_) λu s₂ x=>Ô (Hr N e₁ À x) (λJ J y=>y) λJ J y=>y.elim
   rcases y with⟨V,t,a2,e₂,k⟩|⟨V,t,v,w,a2,e₂,r,k⟩
   ·exact .mk V .none .none ((À.trans a2).fresh N.own) .none_ k
   ·exact .mk V v w ((À.trans a2).fresh N.own) r k
  ·intro W a args kws Z K X h
   refine cw h λf Y J=>?_
   refine W.fn a f Y _ λJ J J J J J J J J J J J E acT J J J=>?_
   exact⟨E,acT⟩
end
section
variable {n:Ó} {acT:aj} {r:Ev} {F:Fr n} {vs:Vs} {c c₀:Cf} {K:VK} {X:XK} {x:Ì}
def vW {x y z:Ì} (h:x.length+(x.length+1) * z.length<=Ö):(ť x y z).length<=Ö:=by
 unfold ť
 split
 ·exact Â (ë _ _) h
 ·exact fits_replaced y (by exact h)
def Cv (H:gA n r.e) {o:ñ} {O I:ϗ} {args:È ñ} {kws:È ς} (hs:dK o=Í) (hl:O.endLine=I.line) (e:At F vs c) (h:NJ r F.ks F.ns o args kws vs c.Z K X) :
 Î cx.M F.A (Ũ (.Call (.Attribute o ("replace" : Ì) O) args kws I) F.env) (QX F vs c K) (XX F c X) c.s:=by
 rcases _:bV h with⟨hk,h⟩
 obtain rfl:=Ġ.mp hk
 refine Á (iY hs (bq H (.refl _ _ _) e h λc₁ w u1 l₁ z e₁ r1 h=>cw h λy hy h=>cw h λd Q h=>cw h λp À h=>cw h λq V h=>Á (ī ?_)))
 obtain⟨a,b⟩:=d
 (refine r1.strV hy _ ?_;rintro t rfl tz)
 obtain rfl:=uy Q
 obtain⟨ca,m,À⟩:=ù.mp À
 obtain⟨cb,hb,V⟩:=ù.mp V
 obtain⟨E,g,rfl⟩:=gG m
 obtain⟨N,j,rfl⟩:=gG hb
 obtain rfl:=um À
 obtain rfl:=um V
 obtain⟨D,h⟩:=bV h
 obtain⟨Y,k⟩:=h
 obtain⟨D,_⟩:=è.mp D
 obtain⟨D,_⟩:=è.mp D
 have G:Ϥ Í o F.env O I=pure I:=by unfold Ϥ;simp[hl]
 refine Á (ä (t7 ?_))
 refine Á (ś G ?_)
 refine bU (args:=[.Constant (.str p) E g,.Constant (.str q) N j]) (kws:=[]) rfl (bX rfl ?_)
 refine Μ (e6 (k:=E) (pos:=g) (Μ (e6 (k:=N) (pos:=j) (a8 (Xu ⟨⟨.machine,.inr (.inl rfl),.now⟩,?_⟩)))))
 have one:=c₁.i.one
 have L:c₁.s.toks<=c₁.s.toks+1+1:=ë _ 2
 exact leaf (c:=c₁.tk _ L) (z.trans (.s! L)) (e₁.go (.s! L)) (SC.replace (Θ one) (gg _) (Ĝ (Ň _)) (by simpa using D) (by exact Y) λt' k'=>.tok (c₁.i.toks L) (.g! _ (vW Y)) _) k
variable {vs0:Vs} {D:Ü} {h':ę} {t:Ó} {o:ϑ}
def uL (G:Prop) (F:Fr n) (vs:Vs) (c₀ c:Cf) (D:Ü) (h':ę) (t:Ó) (o:ϑ):Prop:=∀(i:Inv (c.g.freeze D o) c.Z { c.s with heap:=h',toks:=t }) (a:Le F c₀ ⟨_,_,_,i⟩) (e:At F vs ⟨_,_,_,i⟩),G
def w8 (F:Fr n) (vs:Vs) (c₀ c:Cf) (D:Ü) (h':ę) (t:Ó) (o:ϑ):Prop:=∀G:Prop,uL G F vs c₀ c D h' t o->G
def w8.mk {F:Fr n} {vs:Vs} {c₀ c:Cf} {D:Ü} {h':ę} {t:Ó} {o:ϑ}:uL (w8 F vs c₀ c D h' t o) F vs c₀ c D h' t o:=λi a e J G=>G i a e
def ze (G:Prop) (F:Fr n) (vs:Vs) (c₀ c:Cf) (D:Ü) (h':ę) (t:Ó) (o:aK):Prop:=∀(i:Inv (c.g.cell D) (c.Z++[o]) { c.s with heap:=h',toks:=t }) (a:Le F c₀ ⟨_,_,_,i⟩) (e:At F vs ⟨_,_,_,i⟩),G
def Fm (F:Fr n) (vs:Vs) (c₀ c:Cf) (D:Ü) (h':ę) (t:Ó) (o:aK):Prop:=∀G:Prop,ze G F vs c₀ c D h' t o->G
def Fm.mk {F:Fr n} {vs:Vs} {c₀ c:Cf} {D:Ü} {h':ę} {t:Ó} {o:aK}:ze (Fm F vs c₀ c D h' t o) F vs c₀ c D h' t o:=λi a e J G=>G i a e
def bt.p! {own:È Ü} {g I:G} {s H:Ç} (a:bt own g s I H) (L:s.heap.get? D=U) (Q:H.toks<=t) (hk:∀b o,b≠D->H.heap.get? b=C o->h'.get? b=C o):bt own g s I { H with heap:=h',toks:=t }:=
 have Y:∀b o,s.heap.get? b=C o->b≠D:=λb o h z=>by rw[z,L]at h;cases h
 ⟨a.le,Â a.toks Q,λb o h p q=>hk b o (Y b o h) (a.keep b o h p q),a.new,a.newI,λb o h=>(by obtain⟨E,A⟩:=a.stay b o h;exact⟨E,hk b E (Y b o h) A⟩),a.gens,a.os⟩
def Inv.p! {g:G} {Z:aa} {s:Ç} (i:Inv g Z s) (Q:s.toks<=t) (À:D∉g.ρ) (O:g.I D=U) (hk:∀b o,b≠D->s.heap.get? b=C o->h'.get? b=C o):Inv g Z { s with heap:=h',toks:=t }:=
 ⟨λb o e=>hk b o (λz=>by rw[z,O]at e;cases e) (i.sub b o e),i.base,i.len,i.nodup,i.apart,
  λl o b e q=>(i.cells l o b e q).mono (.refl g) λE Y=>hk b E (λz=>À (z▸Ĉ q)) Y,Â i.one Q,i.bare,i.H⟩
def lZ (V:At F vs0 c₀) (L:c₀.s.heap.get? D=U) (e:At F vs c) {H:G} {Z':aa} (i:Inv H Z' { c.s with heap:=h',toks:=t }) (le:c.g.le H) (hk:∀b o,b≠D->c.s.heap.get? b=C o->h'.get? b=C o) (h:∀b,b≠D->(b∉c.g.ρ->b∉H.ρ)/\(c.g.I b=U->H.I b=U)):At F vs ⟨_,_,_,i⟩:=
 e.gen le λb o E À O A=>
  have Y:b≠D:=λz=>by obtain⟨o,h⟩:=V.ex E;rw[z,L]at h;cases h
  ⟨hk b o Y A,(h b Y).1 À,(h b Y).2 O⟩
section
variable (V:At F vs0 c₀) (L:c₀.s.heap.get? D=U) (a:Le F c₀ c) (e:At F vs c) (À:D∉c.g.ρ) (O:c.g.I D=U) (Q:c.s.toks<=t) (hk:∀b o,b≠D->c.s.heap.get? b=C o->h'.get? b=C o)
include V L a e À O Q hk
def tQ (H:h'.get? D=C o):w8 F vs c₀ c D h' t o:=
 have i:=(c.i.p! Q À O hk).add H À O
 (.mk i ((a.p! L Q hk).n! L O) (lZ V L e i (G.a! O) hk λb Y=>⟨id,λh=>by show(if b=D then _ else c.g.I b)=U;rw[Ý Y];exact h⟩))
def Hm {o:aK} (H:OR (c.g.cell D) h' D o):Fm F vs c₀ c D h' t o:=
 have i:=(c.i.p! Q À O hk).j! (s:={ c.s with heap:=h',toks:=t }) H À O
 (.mk i ((a.p! L Q hk).j! L) (lZ V L e i (G.j' _ _) hk λb I=>⟨λh q=>(ý.mp q).elim h λq=>I (Ù.mp q),id⟩))
end
def t9 (c:Cf):(c.s.heap.objs.size==Κ)=Ï:=by
 obtain⟨b,o,G,I⟩:=c.i.H.gl.mods
 exact Œ (Θ (É G (Ŀ (c.i.e! _ _ I))))
noncomputable abbrev Cf.new (c:Cf) (o:ϑ):Cf:=⟨c.g,c.Z,{ c.s with heap:=c.s.heap.push o },c.i.keep (t:=c.s.toks) (Ë _) λJ J e=>Ñ _ e⟩
def A0 (F:Fr n) (c:Cf) (o:ϑ):Le F c (c.new o):=.keeps (t:=c.s.toks) (Ë _) λJ J e=>Ñ _ e
def At.new (e:At F vs c) (o:ϑ):At F vs (c.new o):=e.go (.keeps (t:=c.s.toks) (Ë _) λJ J e=>Ñ _ e)
def vT (e:At F vs c) (H:c.s.heap.get? D=U) {o:ϑ} {c':Cf} (a:Le F (c.new ob) c') (G:(c.new ob).s.heap.get? D=C o):D∉c'.g.ρ/\c'.g.I D=U/\c'.s.heap.get? D=C o:=
 have f:=c.i.fresh H
 ⟨a.new _ _ G f.2,a.newI _ _ G f.1,a.keep _ _ G f.2 λq=>by obtain⟨o,h⟩:=fb e q;rw[H]at h;cases h⟩
def OA (H:gA n r.e) {kk:È (Æ ñ)} {j:È ñ} {p:ϗ} (e:At F vs c) (h:oK (kk.isEmpty&&j.isEmpty) (K (kG (T.mu p) c.Z).1 (kG (T.mu p) c.Z).2)
 (ok ((fU kk).bind id) λk=>ok (fU j) λv=>r.e F.ks F.ns k vs c.Z (λx Z=>r.e F.ks F.ns v vs Z (λy Z=>ok (strV x) λs=>K (.fd [s] [y]) Z) X) X)) :
 Î cx.M F.A (Ũ (.Dict kk j p) F.env) (QX F vs c K) (XX F c X) c.s:=by
 have g:=af c.s
 have N:=t9 c
 have d:(c.s.heap.push { cls:=.type "dict",data:=.dict #[] }).get? c.s.heap.objs.size=C { cls:=.type "dict",data:=.dict #[] }:=ê _ rfl
 refine OV h (λh0 h=>?_) λJ h=>cw h λk hk h=>cw h λv hv h=>?_
 ·obtain⟨h1,h2⟩:=è.mp h0
  rw[Ġ.mp h1,Ġ.mp h2]
  refine wpAny_Dict_empty ?_
  revert h
  cases T.mu p with
  | true=>exact λh=>A4 (.refl _ _ _) e (PE.cell (t:=c.s.toks) (o:=.dict []) c.i g (.mk [] ⟨_,#[],d,⟨rfl,rfl,rfl⟩,rfl,λJ L=>by simp at L,.nil,by trivial⟩ .nil N (ï _) (λJ h=>nomatch h)) λb o e=>Ñ _ e) (Ë _) h
  | false=>exact λh=>A4 (.refl _ _ _) e (PE.alloc (t:=c.s.toks) c.i rfl λg' le hi=>show VR g' (.fd [] []) _ from Fv.mk _ _ [] rfl hi ⟨#[],0,⟨rfl,rfl,rfl⟩,rfl,λJ L=>by simp at L,.nil,WU⟩ rfl aG.nil N (ï _) λJ h=>nomatch h) (Ë _) h
 ·obtain⟨k',V,Y⟩:=ù.mp hk
  have E:k'=C k:=Y
  subst E
  rw[cP V,cP hv]
  refine wpAny_Dict_walk (knd:=cx.sk) rfl rfl (by simp) (show 1<=15 by decide) (Ô (pairTrees_cons_walk (bq H (c:=c.new _) (c₀:=c.new _) (.refl _ _ _) (e.new _) h λc₁ w u1 l₁ a1 e₁ r1 h=>bq H a1 e₁ h λc2 w2 m l₂ a2 e₂ r2 h=>cw h λy hy kk=>pairTrees_nil_walk ?_)) (λJ J x=>x) λJ J x=>x.up (A0 F c _))
  (refine r1.strV hy _ ?_;rintro tk rfl z)
  obtain⟨O,I,Q⟩:=vT e g a2 d
  refine⟨[(y,m)],⟨ů _ _ _ tk,rfl,trivial⟩,⟨_,#[],0,Q,⟨rfl,rfl,rfl⟩,rfl,λJ L=>by simp at L,.nil,by trivial⟩,λh' À hs=>?_⟩
  obtain⟨o,ho,À⟩:=m_.mp À
  refine tQ (t:=c2.s.toks+1) e g ((A0 F c _).trans a2) e₂ O I (ö _) (λb o ne q=>(hs.2 b ne).trans q) ho _ λi a e=>?_
  exact .mk ⟨_,_,_,i⟩ (.fd [y] [w2]) _ a e (.mk _ o [m] rfl (G.é _ _ _) À rfl (.cons (r2.mono (G.a! I)) .nil) N (show 1<=Ö by decide) (λk hk=>by rw[Ù.mp hk];exact z)) kk
def Lr (F:Fr n) (c:Cf) {A:Ā} {Q:ì->Ç->Prop} {H:Ê->Ç->Prop} (h:∀b,Q b c.s):Î cx.M A (inMainModule F.env) Q H c.s:=by
 rcases _:F.code.1 with⟨a,o,fs,e,G,I⟩
 have G:=c.i.e! _ _ G
 dsimp only[inMainModule]
 rw[e]
 split
 ·exact Å (h _)
 ·refine Á (Zj G I ?_)
  split
  ·exact Á (ź (Å (h _)))
  ·exact Å (h _)
def RO (H:gA n r.e) {es:È ñ} {k:Ó} {p:ϗ} (e:At F vs c) (h:SW r F.ks F.ns es k vs c.Z K X):Î cx.M F.A (Ũ (.Set es k p) F.env) (QX F vs c K) (XX F c X) c.s:=by
 refine cw h λq hq h=>?_
 obtain⟨ex,dx⟩:=q
 obtain⟨N,h'⟩:=bV h
 clear h
 have h:=h'
 clear h'
 obtain⟨hk,j⟩:=è.mp N
 have x9:=nu (y:=Ï) j
 clear N j
 refine cw h λd hd h=>?_
 obtain rfl:=eq_of_beq hk
 obtain⟨q,rfl⟩:=wu hd
 rw[uy hq]
 have V:=af c.s
 simp only[arm_eval_Set]
 refine Á (ī (Á (Lr F c λb=>?_)))
 rw[bM (oh x9)]
 show Î cx.M F.A (setDisplay .oneByOne b [(Ï,do let v <-Ũ ex F.env;ϧ p;pure v),(Í,do let v <-Ũ d F.env;ϧ p;pure v)]) _ _ _
 dsimp only[setDisplay]
 refine Á (gT λled hl=>?_)
 have hD:(c.s.heap.push { cls:=.type "set",dict:=U,data:=.set #[] 0 (.fresh 0 0 led) }).get? c.s.heap.objs.size=C { cls:=.type "set",dict:=U,data:=.set #[] 0 (.fresh 0 0 led) }:=ê _ rfl
 refine Á (ä ?_)
 refine Á ?_
 refine wpAny_evalAll_cons (Á (Ô (H (c.new _) h (e.new _)) (λu1 s₁ x=>?_) λJ J x=>x.up (A0 F c _)))
 obtain⟨c₁,w,u1,a1,e₁,r1,h⟩:=x
 refine cw h λy hy h=>?_
 (refine r1.strV hy _ ?_;rintro tk rfl tz)
 refine Á (ī (Å (Yn ?_)))
 obtain⟨n1,n2,x0⟩:=vT e V a1 hD
 refine Á (ä ?_)
 simp only[ϟ]
 refine Á (Á (Á (xn (ba.new x0 hl) tz Zz λb h' x8 hS=>?_)))
 refine Å (Å (Å ?_))
 have L:∀b o,b≠c.s.heap.objs.size->c₁.s.heap.get? b=C o->h'.get? b=C o:=λb o ne q=>(x8.2 b ne).trans q
 have i2:=c₁.i.p! (t:=c₁.s.toks+1) (ö _) n1 n2 L
 have e2:=lZ e V e₁ i2 (.refl _) L λJ J=>⟨id,id⟩
 have a2:Le F c ⟨_,_,_,i2⟩:=((A0 F c _).trans a1).p! V (ö _) L
 show Î cx.M F.A (forIn [(Í,do let v <-Ũ d F.env;ϧ p;pure v)] WZ _ >>= _) _ _ _
 simp only[ϟ]
 refine Á (Á (Á (Á (Ô (H ⟨_,_,_,i2⟩ h e2) (λu2 s₂ x=>?_) λJ J x=>x.up a2))))
 obtain⟨I,w,u2,l,e3,r3,h⟩:=x
 refine Á (ī (Å ?_))
 refine cw h λkvs hd h=>?_
 obtain⟨y1,kk⟩:=h
 obtain⟨oS,E⟩:=hS.there
 have m1:=l.new _ _ E n1
 have m2:=l.newI _ _ E n2
 have x1:c.s.heap.objs.size∉F.own:=λq=>by obtain⟨o,h⟩:=fb e q;rw[V]at h;cases h
 have H2:=hS.at (h':=I.s.heap) λo e=>l.keep _ _ e n1 x1
 (refine bg I.i hd r3 _ ?_;rintro da us rfl Q qd hm hz x4)
 have x5:(kvs.map (·.1)).length=us.length:=by have:=qd.length;rw[length_map]at this ⊢;exact this
 have G:=li x5
 have À:((kvs.map (·.1)).zip us).length=kvs.length:=by have:=Õ xe G;rwa [length_map,length_map]at this
 have x6:da≠c.s.heap.objs.size:=by
  rintro rfl
  obtain⟨o1,es1,ep1,x7,hx1,oJ,_⟩:=Q
  refine H2 _ λo2 Y y3=>y3 _ λes2 ep2 t2 hx2 O J J J J J J J J=>?_
  rw[x7]at Y;obtain rfl:=Ä Y
  rw[oJ]at O;cases O
 refine Á (ä (ER F.hA.handled H2 Q x6 hm (by rw[À];exact y1) (λkv x3=>?_) λh4 t k ht H3=>Å ?_))
 ·obtain⟨y2,x2,z⟩:=ě.mp (show kv.1∈kvs.map (·.1)from G▸ě.mpr ⟨kv,x3,rfl⟩)
  rw[<-z];exact x4 y2 x2
 ·rw[G]at H3
  refine Hm (t:=t) (o:=.set (ah [y] (kvs.map (·.1)))) e V (a2.trans l) e3 m1 m2 ht k (show OR _ _ _ (aK.set (ah [y] (kvs.map (·.1))))from H3) _ λi a z=>?_
  have m:QX F vs c K (.ref c.s.heap.objs.size) { I.s with heap:=h4,toks:=t }:=.mk ⟨_,_,_,i⟩ (.loc I.Z.length) _ a z ⟨_,rfl,by show(I.g.ρ++[_])[I.Z.length]? = _;rw[<-I.i.len];exact Ĳ⟩ kk
  exact Å (Å (Å m))
end
noncomputable def F4 (e:ñ) (acc:Ê) (env:ϙ):Ϛ ab:=match e with
 | .ListComp elt _ _ _=>do let _ <-call (.builtin "list.append") [acc,<-Ũ elt env]
 | .DictComp k v _ _ _=>do
  let kv <-Ũ k env
  let vv <-pw [kv] (Ũ v env)
  match acc with
  | .ref d=>do
   ϧ { k.pos with endLine:=v.pos.endLine,endCol:=v.pos.endCol }
   pw [kv,vv] (acA d kv vv)
  | _=>ϴ "internal:dictcomp"
 | _=>ϴ "internal:not-a-comprehension"
def deeper (e:ñ) (G:Ó) (acc:Ê) (env:ϙ) (k:Ϛ Ē):Æ Ĥ->Ϛ Ē
 | some H=>do
  let x <-Ũ H.iter env
  ϧ H.iter.pos
  if H.is_async !=0 then do
   let x <-foldedIterable H.iter x
   let it <-pw [x] (if H.is_async !=0 then asyncIter x else sz x)
   let _ <-acl (.compStart e (G+1) it acc env) env
   k
  else do
   let x <-j2 H.iter env x
   let it <-pw [x] (if H.is_async !=0 then asyncIter x else sz x)
   let _ <-acl (.compStart e (G+1) it acc env) env
   k
 | none=>do
  F4 e acc env
  k
def jF (G:È ñ) (env:ϙ):Ϛ ì:=forIn G Í λc r=>if r=Í then do let ok <-YC c env (Ũ c env);pure (Ŵ ok)else pure (Ŵ r)
def mD {I H iter:ñ} {gens:È Ĥ} {L:È ñ} {sc:Α} {pos:ϗ} {G:Ó} {it acc:Ê} {env:ϙ} (O:gens[G]? = C ⟨H,iter,L,0⟩) :
 Yh (.ListComp I gens sc pos) G it acc env=(ϧ iter.pos >>= λJ=>Xo it >>= λr=>match r with
  | none=>pure (.done .next)
  | some v=>r_ H it v >>= λJ=>Xk H env v >>= λJ=>jF L env >>= λok=>
   if ok=Í then deeper (.ListComp I gens sc pos) G acc env (Zd (.compLoop (.ListComp I gens sc pos) G it acc env)) gens[G+1]?
   else Zd (.compLoop (.ListComp I gens sc pos) G it acc env)):=by
 dsimp only[Yh]
 simp only[O]
 generalize gens[G+1]? = zzy at *
 induction zzy with
 | none=>rfl
 | some g'=>rfl
def mC {L O H iter:ñ} {gens:È Ĥ} {I:È ñ} {sc:Α} {pos:ϗ} {G:Ó} {it acc:Ê} {env:ϙ} (Q:gens[G]? = C ⟨H,iter,I,0⟩) :
 Yh (.DictComp L O gens sc pos) G it acc env=(ϧ iter.pos >>= λJ=>Xo it >>= λr=>match r with
  | none=>pure (.done .next)
  | some v=>r_ H it v >>= λJ=>Xk H env v >>= λJ=>jF I env >>= λok=>
   if ok=Í then deeper (.DictComp L O gens sc pos) G acc env (Zd (.compLoop (.DictComp L O gens sc pos) G it acc env)) gens[G+1]?
   else Zd (.compLoop (.DictComp L O gens sc pos) G it acc env)):=by
 dsimp only[Yh]
 simp only[Q]
 generalize gens[G+1]? = zzy at *
 induction zzy with
 | none=>rfl
 | some g'=>rfl
structure MM (e:ñ) (gens:È Ĥ):Prop where
 turn:∀{depth it acc env target iter ifs},gens[depth]? = C ⟨target,iter,ifs,0⟩->Yh e depth it acc env=(ϧ iter.pos >>= λJ=>Xo it >>= λr=>match r with
  | none=>pure (.done .next)
  | some v=>r_ target it v >>= λJ=>Xk target env v >>= λJ=>jF ifs env >>= λok=>
   if ok=Í then deeper e depth acc env (Zd (.compLoop e depth it acc env)) gens[depth+1]?
   else Zd (.compLoop e depth it acc env))
 den:∀depth it acc env,cx.M.den (.compLoop e depth it acc env)=(Yh e depth it acc env).onRaise (λx=>do wb x env;s_ x)
 denS:∀depth it acc env,cx.M.den (.compStart e depth it acc env)=(compStart e depth it acc env).onRaise (λx=>do wb x env;ϧ theWindowsPlace)
 und:∀(A:Ā) depth it acc env,A.under (.compLoop e depth it acc env)=A
 undS:∀(A:Ā) depth it acc env,A.under (.compStart e depth it acc env)=A
 quiet:∀depth it acc env,(Code.compLoop e depth it acc env).quiet=Í
 clauses:clausesOf e=gens
def G6 {G:ñ} {gens:È Ĥ} {sc:Α} {pos:ϗ}:MM (.ListComp G gens sc pos) gens:=
 ⟨mD,λJ J J J=>rfl,λJ J J J=>rfl,λJ J J J J=>rfl,λJ J J J J=>rfl,λJ J J J=>rfl,rfl⟩
def G5 {G H:ñ} {gens:È Ĥ} {sc:Α} {pos:ϗ}:MM (.DictComp G H gens sc pos) gens:=
 ⟨mC,λJ J J J=>rfl,λJ J J J=>rfl,λJ J J J J=>rfl,λJ J J J J=>rfl,λJ J J J=>rfl,rfl⟩
section
variable {n:Ó} {r:Ev} {F:Fr n} {vs:Vs} {c c₀:Cf} {B:BK} {X:XK} {A:Ā} {s:Ç}
def wE {env:ϙ}:∀G:È ñ,(forIn G Ï λc r=>if r=Í then do let ok <-YC c env (Ũ c env);pure (Ŵ ok)else pure (Ŵ r):Ϛ ì)=pure Ï:=by
 intro I;induction I with
 | nil=>
  exact rfl
 | cons c G H=>
  exact by rw[ϟ];skip;exact H
def IH (H:Rf n r.t):∀{G:È ñ} {c:Cf},Le F c₀ c->At F vs c->ov r F.ks F.ns G vs c.Z B X->Î cx.M F.A (jF G F.env) (QB F vs c₀ B) (XX F c₀ X) c.s:=by
 intro O;induction O with
 | nil=>
  exact @λc a e h=>Å (.mk c Í a e h)
 | cons t G L=>
  intro c a e h
  unfold jF
  rw[ϟ]
  exact Á (Á (wI H a e h λc₁ b J I e₁ h=>Å (match b,h with
   | true,h=>L I e₁ h
   | false,h=>by dsimp only;rw[wE];exact Å (.mk c₁ Ï I e₁ h))))
def jd {e:ñ} {gens:È Ĥ} (acT:MM e gens) {G:Ó} {it acc:Ê} {H:ϙ} {L:Ĥ} (Y:gens[G]? = C L) (Q:L.is_async=0) {P:ky->Ç->Prop}
 (À:Ž cx.M A (.compLoop e G it acc H) P s) (V:Î cx.M A (sz it) (λI O=>Ž cx.M A (.compLoop e G I acc H) P O) bj s):Ž cx.M A (.compStart e G it acc H) P s:=by
 refine ν ?_
 rw[acT.undS,acT.denS]
 refine wpAny_notedAt ?_
 dsimp only[compStart]
 rw[acT.clauses,Y]
 simp only[abZ,Q,Ε,ĭ,δ]
 refine Á (ź (wpAny_ite ?_))
 split
 ·exact Å ⟨acT.quiet ..,À⟩
 ·refine Á (Ŝ (Á (ī (Á (Ô V (λI O h'=>Å ⟨acT.quiet ..,h'⟩) λJ J x=>x.elim)))))
end
abbrev cD (la:Ű) (lb:ñ) (sc:Α) (c':Ü) (B:Ê):ϑ:=kla_obj "<lambda>" (T.lq++"<lambda>") la lb sc [] ((cx.mg "__name__").getD .none) c' B
section
variable {n:Ó} {F:Fr n} {vs:Vs} {c:Cf} {Z:aa} {A:Ā} {env:ϙ}
def cO (h:bh Z=Í):Z[0]? = C .code:=by
 delta bh at h
 generalize e:Z[0]? = o
 rw(occs:=.all) [e]at h
 cases o with
 | none=>exact E4 h
 | some o=>cases o with
  | code=>rfl
  | _=>exact E4 h
def k8 {sc:Α} (h:∀p∈sc.names,p.2≠.free):Ze sc env=pure []:=by
 unfold Ze
 dsimp only
 rw[forIn_yield_id [] (λx B c=>by
  obtain⟨name,kind⟩:=x
  have:(kind==ek)=Ï:=by simpa using h _ B
  simp only[this,ĭ,δ])]
 rfl
def pq (O:Prop) (g:G) (s:Ç) (Z:aa) (la:Ű) (lb:ñ) (sc:Α) (u:Ê) (L:Ç):Prop:=∀(B:G) (f c':Ü) (D:Ê) (H:ϑ) (fs:ÿ Ê) (t:YP) (e:u = .ref f) (a:bt [] g s B L) (i:Inv B Z L) (hf:B.I f=C (cD la lb sc c' D)) (hc:B.I c'=C H) (hd:H.data = .fields fs) (h1:fs[1]? = C (.str (T.lq++"<lambda>") t)),O
def rG:=λg s Z la lb sc u D=>∀B,pq B g s Z la lb sc u D->B
def rG.mk:pq (rG g s Z la lb sc u s') g s Z la lb sc u s':=λG f c' B Q fs t e a i O I L H J D=>D G f c' B Q fs t e a i O I L H
def O1 (e:At F vs c) {la:Ű} {lb:ñ} {sc:Α} {E:ϗ} (hd:la.kw_defaults=[]/\la.defaults=[]) (Y:∀p∈sc.names,p.2≠.free) (hk:(F.ks.lookup ("resolved_names" : Ì)).isSome=Í) (hc:bh c.Z=Í) (hp:E=T.lam) :
 Î cx.M A (Ũ (.Lambda la lb sc E) F.env) (rG c.g c.s c.Z la lb sc) bj c.s:=by
 rcases _:F.code.2 hk with⟨V,x3⟩
 obtain⟨g,Z,s,i⟩:=c
 have L:=i.H.lam
 have H:=i.H.gl
 have h0:=cO hc
 rcases _:i.cell h0 with⟨P,hP,y⟩;(refine y _ ?_;rintro rfl ps x0 N w1)
 have y2:F.env.globals=ġ:=F.gl
 have hg:s.heap.Ns ġ cx.mg:=i.A! H.gns
 have j:T.lP∈g.ρ:=Ĉ hP
 rcases _:L.bm with⟨bm,ob,b1,b2,b3,b4,b5,b6,b7⟩
 have nb:∀{b:Ü} {o:ϑ},cx.h₀.get? b=C o->b≠T.lP:=λe z=>by rw[z,L.out]at e;contradiction
 have v1:ġ≠T.lP:=by
  rcases _:H.gns with⟨o,es,ep,e,_⟩
  exact nb e
 have x9:defaultsOf la F.env=([],[]):=by
  obtain⟨p1,p2,p3,p4,p5,p6,p7⟩:=la
  obtain⟨rfl,rfl⟩:=hd
  rfl
 have hB:s.heap.BuiltinsAt cx.mg T.lP:=⟨bm,ob,b1,b2,b3,nb b4,i.e! _ _ b4,b5,b6,b7⟩
 refine cy (kla_eval x9 ?_)
 simp only[x3]
 rcases _:w1 with z3|⟨c',r,fs,t,y3,hI,Q,acT⟩
 ·refine kla_makeFunction (mg:=cx.mg) (k8 Y) y2 hg V (L.code.keeps i.e!) x0 N (by rw[hp];exact z3) v1 hB λc' B h' tk hx y1 z2 u2 w=>?_
  intro ht
  rcases _:u2 with⟨c2,r,fs,t,e2,v3,Q,acT⟩
  rcases e2
  have x4:∀{b:Ü},s.heap.objs.size<=b->s.heap.get? b=U:=λ{b} O=>by
   cases q:s.heap.get? b with
   | none=>rfl
   | some o=>exact absurd (Ŀ q) (ų.mpr O)
  have m:s.heap.get? c'=U:=x4 y1
  have À:s.heap.get? h'.objs.size=U:=x4 (ð (É y1 z2))
  have u4:h'.objs.size≠c':=Θ z2
  obtain⟨n1,n2⟩:=i.fresh m
  obtain⟨m1,m2⟩:=i.fresh À
  have x8:s.heap.get? T.lP=C (tabObj ps):=x0
  have hcP:c'≠T.lP:=λz=>by rw[z,x8]at m;contradiction
  have hfP:h'.objs.size≠T.lP:=λz=>by rw[z,x8]at À;contradiction
  have keep:∀b o,b≠T.lP->s.heap.get? b=C o->(h'.push (cD la lb sc c' B)).get? b=C o:=λb o O e=>Ñ _ (hx b o O e)
  let g1:=g.freeze c' r
  have u3:g1.I h'.objs.size=U:=by show(if _=c' then _ else g.I _)=U;rw[Ý u4];exact m1
  let g2:=g1.freeze h'.objs.size (cD la lb sc c' B)
  have le:g.le g2:=(G.a! n1).trans (G.a! u3)
  have x7:g2.I h'.objs.size=C (cD la lb sc c' B):=G.é _ _ _
  have d:g2.I c'=C r:=(G.a! u3).I _ _ (G.é g c' r)
  have D:∀b,b≠c'->b≠h'.objs.size->g2.I b=g.I b:=λb h1 h2=>by
   show(if b=h'.objs.size then _ else if b=c' then _ else g.I b)=_
   rw[Ý h2,Ý h1]
  have x6:(h'.push (cD la lb sc c' B)).get? h'.objs.size=C (cD la lb sc c' B):=ê _ rfl
  have x5:(h'.push (cD la lb sc c' B)).get? c'=C r:=Ñ _ v3
  have ne:∀{b:Ü} {o:ϑ},s.heap.get? b=C o->b≠c'/\b≠h'.objs.size:=by
   intro b o e
   constructor
   ·intro z;rw[z,m]at e;contradiction
   ·intro z;rw[z,À]at e;contradiction
  have i2:Inv g2 Z { s with heap:=h'.push (cD la lb sc c' B),toks:=tk }:=by
   refine⟨λb o e=>?_,λb o e=>le.I _ _ (i.base b o e),i.len,i.nodup,λb O=>?_,λl o b e q=>?_,Â i.one ht,i.bare,i.H⟩
   ·by_cases h1:b=h'.objs.size
    ·subst h1;rw[x7]at e;obtain rfl:=Ä e;exact x6
    ·by_cases h2:b=c'
     ·cases h2;rw[d]at e;obtain rfl:=Ä e;exact x5
     ·rw[D b h2 h1]at e
      exact keep b o (λz=>i.n' e (z▸j)) (i.sub b o e)
   ·have O:b∈g.ρ:=O
    obtain⟨l,hl,rfl⟩:=Y1 O
    have hs:l<Z.length:=by simp only[<-i.len];exact hl
    obtain⟨ob',u1⟩:=(i.cells l Z[l] g.ρ[l] (by simp[hs]) (by simp[hl])).there
    obtain⟨x1,x2⟩:=ne u1
    rw[D _ x1 x2];exact i.apart _ O
   ·by_cases O:b=T.lP
    ·subst O
     have v2:l=0:=((aar (î.mp hP).1 i.nodup).mp (hP.trans q.symm)).symm
     subst v2
     rw[h0]at e;obtain rfl:=Ä e
     refine(.mk rfl _ (Ñ _ w) ?_ (.inr ⟨c',r,fs,t,?_,d,Q,acT⟩))
     ·have:(ps++#[ŏ E.line,ŏ E.col,.ref c']).toList=ps.toList++[ŏ E.line,ŏ E.col,.ref c']:=by simp
      simp only[this];exact TriplesOk_snoc _ _ _ _ N
     ·have:(ps++#[ŏ E.line,ŏ E.col,.ref c']).toList=ps.toList++[ŏ E.line,ŏ E.col,.ref c']:=by simp
      rw[this,hp]
      exact codeAmong_snoc _ N z3
    ·exact(i.cells l o b e q).mono le λob eo=>keep b ob O eo
  have a2:bt [] g s g2 { s with heap:=h'.push (cD la lb sc c' B),toks:=tk }:=by
   refine⟨le,ht,λb o e q J=>keep b o (λz=>q (z▸j)) e,λb o e q=>q,λb o e q=>?_,λb o e=>?_,λJ J e=>e,rfl⟩
   ·obtain⟨x1,x2⟩:=ne e
    rw[D _ x1 x2];exact q
   ·by_cases O:b=T.lP
    ·subst O;exact⟨_,Ñ _ w⟩
    ·exact⟨o,keep b o O e⟩
  exact(.mk g2 _ c' B r fs t rfl a2 i2 x7 d Q acT)
 ·refine kla_makeFunctionHit (mg:=cx.mg) (cv:=.ref c') (k8 Y) y2 hg V (L.code.keeps i.e!) x0 N (by rw[hp];exact y3) hB λB h' tk z1 hsz=>?_
  intro ht
  have ht:s.toks<=tk:=ht
  have À:s.heap.get? h'.objs.size=U:=by
   generalize q:s.heap.get? h'.objs.size=zzy
   induction zzy with
   | none=>rfl
   | some o=>exact absurd (Ŀ (z1 _ _ q)) (Ő _)
  have k:∀b o,s.heap.get? b=C o->(h'.push (cD la lb sc c' B)).get? b=C o:=λb o e=>Ñ _ (z1 b o e)
  have a2:bt [] g s (g.freeze h'.objs.size (cD la lb sc c' B)) { s with heap:=h'.push (cD la lb sc c' B),toks:=tk }:=.freeze i ht À k
  exact(.mk _ _ c' B r fs t rfl a2 (i.freeze ht À (ê _ rfl) k) (G.é _ _ _) (a2.le.I _ _ hI) Q acT)
variable {g:G} {s:Ç} {a b u:Ê}
def lj {p c:Ì} {k:Į} {d:Ê} (i:Inv g Z s) (I:c.length≠0) (hk:k.natAbs<2 ^ 30) (hz:(ĝ p c k).length<=Ö) (O:VR g (.str p) a) (Q:VR g (.str c) b) (À:VR g (.int k) d) :
 Î cx.M A (call (.builtin "str.split") [a,b,d]) (PE g s Z (.fl ((ĝ p c k).map .str))) bj s:=by
 (refine O.c! _ ?_;rintro t rfl z)
 (refine Q.c! _ ?_;rintro u rfl _)
 obtain⟨D,rfl⟩:=À.f'
 have H:(c.length==0)=Ï:=by simpa using I
 have B:(decide (k < -(2 ^ 63:Į))||decide (k≥2 ^ 63))=Ï:=vM hk
 have G:∀q∈ĝ p c k,q.length<=Ö:=λq L=>Â (partMax_short L) z
 rcases h1:(decide (p.length<c.length)||decide (ŉ p<ŉ c))
 ·rcases hf:(ϥ p c 0 p.length (XA p k)).isEmpty
  ·have e:ĝ p c k=Ο p (ϥ p c 0 p.length (XA p k)) c.length:=by unfold ĝ;rw[Ý (by rw[h1];simp),Ý (by rw[hf];simp)]
   refine Ÿ Ρ (Ź _ _ _) Ϣ (XN _ _ _) (meets_str_split_sep_max p c k t u D B h1 H hf z (by rw[<-e];exact hz)) ?_
   rw[abz]
   exact PE.texts i ((Zi _ _).trans e.symm) G hz
  ·have e:ĝ p c k=[p]:=by unfold ĝ;rw[Ý (by rw[h1];simp),Û hf]
   exact Ÿ Ρ (Ź _ _ _) Ϣ (XN _ _ _) (meets_str_split_max_not_found p c k t u D B h1 H hf) (PE.texts (l:=[(p,t)]) (t:=s.toks) i e.symm G hz)
 ·have e:ĝ p c k=[p]:=by unfold ĝ;rw[Û h1]
  exact Ÿ Ρ (Ź _ _ _) Ϣ (XN _ _ _) (meets_str_split_max_cannot_occur p c k t u D B h1) (PE.texts (l:=[(p,t)]) (t:=s.toks) i e.symm G hz)
structure iV (la:Ű) (lb:ñ) (sc:Α) (y:Ì):Prop where
 args:∃p,la=⟨[],[⟨y,U,p⟩],U,[],[],U,[]⟩
 body:TR λnp ap cp k1 k2 q1 q2=>lb = .Call (.Attribute (.Name y np) "split" ap) [.Constant (.str "}") k1 q1,.Constant (.int 1) k2 q2] [] cp/\ap.endLine=cp.line
 sok:Jf sc
 gen:sc.isGenerator=Ï
 cell:∀p∈sc.names,p.2≠.cell
 loc:sc.names.lookup y=C .local
 res:sc.names.lookup ("resolved_names" : Ì)=U
 d1:(y==("__debug__" : Ì))=Ï
 d2:(y==("__classdict__" : Ì))=Ï
 nm:y = "n"
def anyB {B:Type} {o:Æ B} {f:B->ì} {P:Prop} (h:o.any f=Í) (k:∀x,o=C x->f x=Í->P):P:=match o,h with
 | some x,h=>k x rfl h
def Jo {la:Ű} {a b:È Arg} {c:Æ Arg} {d:È Arg} {e:È (Æ ñ)} {f:Æ Arg} {g:È ñ} (B:la.posonlyargs=a) (D:la.args=b) (G:la.vararg=c) (H:la.kwonlyargs=d) (I:la.kw_defaults=e) (L:la.kwarg=f) (O:la.defaults=g):la=⟨a,b,c,d,e,f,g⟩:=by
 rcases la;subst B D G H I L O;rfl
set_option backward.match.sparseCases false in
def Jm {as:È Arg} {y:Ì} (h:(match as with | [a]=>if a.annotation.isNone then C a.arg else U|_=>U)=C y):∃p,as=[⟨y,U,p⟩]:=match as,h with
 | [⟨z,an,p⟩],h=>aQ h λk h=>⟨p,by rw[show an=U from Ģ.mp k,show z=y from Ä h]⟩
 | [],h=>aD h
 | _::_::_,h=>aD h
def Jn {la:Ű} {y:Ì} (h:Rt la=C y):∃p,la=⟨[],[⟨y,U,p⟩],U,[],[],U,[]⟩:=
 aQ h λq h=>cW q λq L=>cW q λq I=>cW q λq H=>cW q λq G=>cW q λB D=>(Jm h).elim λp e=>
  ⟨p,Jo (Ġ.mp B) e (Ģ.mp D) (Ġ.mp G) (Ġ.mp H) (Ģ.mp I) (Ġ.mp L)⟩
def Ii {la:Ű} {lb:ñ} {sc:Α} (h:qH la lb sc=Í):∃y,iV la lb sc y:=by
 refine anyB h λy i h=>cW h λB h=>?_
 simp only[ú,ĕ,Ϟ,ũ,ϸ,Ģ]at h
 rcases _:h with⟨⟨⟨⟨⟨⟨⟨⟨w,r⟩,c⟩,d⟩,m⟩,D⟩,G⟩,H⟩,I⟩
 refine⟨y,Jn i,?_,⟨w,λq L=>by rcases D q L with z|z<;>(rw[z];decide),c⟩,r,λq L=>by rcases D q L with z|z<;>(rw[z];decide),d,m,G,H,I⟩
 refine anyB B λ⟨f,as,kws,Q⟩ À B=>cW B λB h=>cW B λhk B=>anyB B λ⟨a,b⟩ V B=>cW B λY E=>anyB h λ⟨o,sp,O⟩ acT h=>cW h λh N=>cW h λj l=>?_
 rcases _:c7 (ĕ.mp N)with⟨np,rfl⟩
 rcases _:gG (ĕ.mp Y)with⟨t,q1,rfl⟩
 rcases _:gG (ĕ.mp E)with⟨k2,q2,rfl⟩
 obtain rfl:=ĕ.mp j
 obtain rfl:=mx acT
 obtain rfl:=uy V
 obtain rfl:=Ġ.mp hk
 exact(.mk np O Q t k2 q1 q2 ⟨iZ À,ĕ.mp l⟩)
def Ol {n q:Ì} {y:Ì} (D:y = "n") {p:ϗ} {lb:ñ} {sc:Α} {m cv B:Ê}:adQ (kla_fn n q ⟨[],[⟨y,U,p⟩],U,[],[],U,[]⟩ lb sc [] m cv B) ⟨[u],[]⟩=pure [(y,u)]:=by
 subst D
 kernel_rfl
def i7 {B:Ê} {us:ZA} {D:ZD} {P:Ê->Ç->Prop} (h:Ž cx.M A (.call B ⟨us,D⟩) (λr G=>match r with | .ok (.ret v)=>P v G | _=>False) s):Î cx.M A (call B us D) P bj s:=by
 refine ϵ (φ h λr s'' z=>?_)
 rcases r with e|(w|_|_|_)<;>first|exact z|exact z.elim
def Hl {f c':Ü} {L:Ê} {Y:ϑ} {fs:ÿ Ê} {t:YP} {la:Ű} {lb:ñ} {sc:Α} {y x:Ì} (S:iV la lb sc y) (hd:A.depth<ϕ) (i:Inv g Z s)
 (hf:g.I f=C (cD la lb sc c' L)) (m:g.I c'=C Y) (D:Y.data = .fields fs) (O:fs[1]? = C (.str (T.lq++"<lambda>") t)) (rx:VR g (.str x) u) :
 Î cx.M A (call (.ref f) [u]) (PX g s Z (.fl ((ĝ x "}" 1).map .str))) bj s:=by
 obtain⟨p1,rfl⟩:=S.args
 (refine S.body _ ?_;rintro np c E N j q w ⟨rfl,hl⟩)
 refine i7 (kla_callFunE hd (i.sub _ _ hf) rfl S.sok.co S.gen rfl ⟨c',Y,fs,t,rfl,i.sub _ _ m,D,O⟩ (BindsTo.of_eq (Ol (u:=u) S.nm) cx.M A.in1 _ _ ?_))
 refine Xq S.cell (λp hp=>by rw[Ù.mp hp];exact S.loc) (λh' Q À=>?_) S.sok.kind
 have hn:=af s
 have l:∀b o,s.heap.get? b=C o->h'.get? b=C o:=λb o e=>À.extBut b o (λz=>by rw[z,hn]at e;cases e) (Ñ _ e)
 have acT:s.toks<=s.toks+1:=ö _
 have V:Inv g Z { s with heap:=h',toks:=s.toks+1 }:=i.keep acT l
 have r:bt [] g s g { s with heap:=h',toks:=s.toks+1 }:=.keeps acT l
 refine⟨V.H.lim.keeps V.e!,kla_codeExpr ?_⟩
 refine Á (iY (by rfl) (WQ (ψ (v:=u) S.sok.kind (show sc.names.lookup y=_ from S.loc) Q (by show Zn y [(y,u)]=C u;simp only[ſ,ş]) ?_) S.d1))
 refine Á (ī ?_)
 (refine rx.c! _ ?_;rintro t2 rfl tz)
 refine Á (ä (Yi (Ź _ _ _) Ye Ρ ace (λa z=>by contradiction) ?_))
 refine Á (ś (show Ϥ Í (aaS y np) _ c E=pure E by unfold Ϥ;simp[hl]) ?_)
 refine bU (args:=[.Constant (.str "}") N q,.Constant (.int 1) j w]) (kws:=[]) rfl (bX rfl ?_)
 refine Μ (e6 (k:=N) (pos:=q) (Μ (acm (k:=j) (pos:=w) (a8 (Xu ⟨⟨.machine,.inr (.inl rfl),.now⟩,?_⟩)))))
 have d:(ĝ x "}" 1).length<=Ö:=by
  have:=Õ xe (jB x 125 Zz)
  rw[length_map]at this
  have B:(⟨#[125]⟩:Ì)=("}" : Ì):=by rfl
  rw[B]at this
  rw[this,ŀ];split<;>exact WA rfl
 have G:s.toks+1<=s.toks+1+1+1:=ë _ 2
 exact Ô (PX.lift (r.trans (.s! G)) (PE.x (lj (V.toks G) Zz Zz d (.g! t2 tz) (.g! _ Zz) (.l! _)))) (λJ J x=>x) λJ J x=>x.elim
end
def gO (t:Ì):È Ì:=ĝ t "}" 1
def AY (t:Ì):AV:=.fl ((gO t).map .str)
abbrev nG (t:Ì):(lexOrd aM).α:=(gO t).map bp
section
variable {g L:G} {Z:aa} {s B:Ç} {A:Ā} {u:Ê}
def bt.less {own D:È Ü} (a:bt own g s L B) (h:∀b∈own,b∈D\/s.heap.get? b=U):bt D g s L B:=
 ⟨a.le,a.toks,λb o e p q=>a.keep b o e p λz=>(h b z).elim q λw=>(by rw[w]at e;contradiction),a.new,a.newI,a.stay,a.gens,a.os⟩
def wA:∀{ts:ZC} {us:ZA},aG g (ts.map .str) us->Ů us ts:=by
 intro I;induction I with
 | nil=>
  exact @λus q=>by rw(occs:=.all) [aG.d! q];exact .nil
 | cons t ts H=>
  intro us q
  obtain⟨u,us,rfl,D,G⟩:=aG.b! (show aG g (AV.str t::ts.map .str) us from q)
  (refine D.c! _ ?_;rintro tk rfl _)
  exact .cons _ _ (H G)
def ye {t:Ì} (i:Inv g Z s) (q:VR g (AY t) u):Tv λp items k=>TO (u = .ref p) (s.heap.get? p=C { cls:=.type "list",data:=.seq items k }) (Ů items.toList (gO t)) (p∉g.ρ):=by
 unfold AY at q
 ((refine q _ ?_;rintro p o us rfl D ⟨k,rfl⟩ G _))
 exact(.mk p us.toArray k (.mk rfl (i.sub _ _ D) (wA G) (i.n' D)))
def MO (O:Prop) (g:G) (Z:aa) (s:Ç) (D K Q:Ó) (us:ZA) (ts:ZC) (H:ZA) (B:Ç):Prop:=∀(done kk:ZA) (L:G) (e:Ó) (x1:us=done++H) (x2:done.length=kk.length) (x3:B.heap.get? K=C (Ŗ "list" (t_ kk) e)) (x4:B.heap.get? D=C (Ŗ "list" #[] Q)) (x5:bt [D,K] g s L B) (x6:Inv L Z B) (x7:aG L ((ts.take done.length).map AY) kk) (x8:D∉L.ρ) (x9:L.I D=U) (x10:K∉L.ρ) (x11:L.I K=U),O
def TV:=λg Z s D K O us ts H B=>∀I,MO I g Z s D K O us ts H B->I
def TV.mk {K:Ó}:MO (TV g Z s D K e1 us ts rest B) g Z s D K e1 us ts rest B:=λdone kk L e O Q À V Y E acT N j G H J I=>I done kk L e O Q À V Y E acT N j G H
def Hi {f c' D:Ü} {w4:Ê} {oc:ϑ} {fs:ÿ Ê} {t:YP} {la:Ű} {lb:ñ} {sc:Α} {y:Ì} (S:iV la lb sc y) (hd:A.depth<ϕ) (hu:A.units<XU) (i:Inv g Z s)
 (hf:g.I f=C (cD la lb sc c' w4)) (hc:g.I c'=C oc) (u1:oc.data = .fields fs) (q0:fs[1]? = C (.str (T.lq++"<lambda>") t))
 {ts:ZC} {us:ZA} {n0:Ó} {P:Ē->Ç->Prop} (q:aG g (ts.map .str) us) (m:ts.length<7) (hD:s.heap.get? D=C (Ŗ "list" us.toArray n0)) (y2:D∉g.ρ) (y3:g.I D=U)
 (h:∀(p:ÿ Ó) (L:G) (B:Ç) (c:Ó),cL ts.length p->Up (O:=lexOrd aM) (λi=>nG (ts.getD i Ĕ)) p ts.length->bt [D] g s L B->Inv L Z B->D∉L.ρ->L.I D=U->B.heap.get? D=C (Ŗ "list" (p.toList.map λi=>us.getD i Ă).toArray c)->P (.done (.ret .none)) B) :
 Î cx.M A (ksk_tree D (.ref f) Ï) P bj s:=by
 have À:us.length=ts.length:=q.length.symm.trans (length_map ..)
 have hz:us.length<=6:=by rw[À];exact ž m
 have w5:D<s.heap.objs.size:=Ŀ hD
 have s1:=Ĩ s.heap D (Ğ λJ=>(#[]:ÿ Ê))
 obtain⟨e1,v1⟩:∃e1,(s.heap.update D (Ğ λJ=>(#[]:ÿ Ê))).get? D=C (Ŗ "list" #[] e1):=⟨_,Ι hD λJ=>#[]⟩
 refine Á (Yc hD rfl ?_)
 refine Á (ϋ hD rfl ?_ (by rw[Đ,ŀ];exact Â hz Zz) (ï _))
 refine Á (Xf v1 rfl ?_)
 refine Á (Xr ?_ (by show us.length<=_;rw[ŀ];exact Â hz Zz))
 refine Á (XY ?_ (ï _))
 refine ä ?_
 have x1:((s.heap.update D (Ğ λJ=>(#[]:ÿ Ê))).push (Ŗ "tuple" us.toArray 0)).objs.size=s.heap.objs.size+1:=by rw[size_push',size_update]
 show Î _ _ (ksk_rest D (.ref f) Ï us.toArray e1 (.ref ((s.heap.update D (Ğ λJ=>(#[]:ÿ Ê))).push (Ŗ "tuple" us.toArray 0)).objs.size)) _ _ { s with heap:=((s.heap.update D (Ğ λJ=>(#[]:ÿ Ê))).push (Ŗ "tuple" us.toArray 0)).push (Ŗ "list" #[] 0) }
 rw[x1]
 generalize hK:s.heap.objs.size+1=K at x1 ⊢
 generalize hH:(((s.heap.update D (Ğ λJ=>(#[]:ÿ Ê))).push (Ŗ "tuple" us.toArray 0)).push (Ŗ "list" #[] 0))=H
 have q4:H.get? K=C (Ŗ "list" #[] 0):=by rw[<-hH,<-x1];exact ê _ rfl
 have z1:H.get? D=C (Ŗ "list" #[] e1):=by rw[<-hH];exact Ñ _ (Ñ _ v1)
 have kH:∀b o,s.heap.get? b=C o->b≠D->H.get? b=C o:=λb o e r=>by
  rw[<-hH];exact Ñ _ (Ñ _ ((s1.2 b r).trans e))
 have nk:s.heap.get? K=U:=by
  rw[<-hK]
  generalize q:s.heap.get? (s.heap.objs.size+1)=zzy
  induction zzy with
  | none=>rfl
  | some o=>exact absurd (Ŀ q) (ų.mpr (ö _))
 have aH:bt [D] g s g { s with heap:=H }:=⟨.refl g,Ë _,λb o e J r=>kH b o e (by simpa using r),λJ J J h=>h,λJ J J h=>h,λb o e=>by
  by_cases r:b=D
  ·rw[r];exact⟨_,z1⟩
  ·exact⟨o,kH b o e r⟩,λJ J e=>e,rfl⟩
 have iH:Inv g Z { s with heap:=H }:=i.p! (D:=D) (t:=s.toks) (Ë _) y2 y3 λb o ne e=>kH b o e ne
 have x7:D≠K:=hK▸Ĝ (Ŭ w5)
 refine Á (Ŝ ?_)
 first
  | rw[forIn_toArray]
  | (rw[<-Zv];simp only[toList_toArray])
  | rw[<-Zv]
 refine Á (adk _ (λx4 J B=>TV g Z s D K e1 us ts x4 B) _ ?turn ?fin us _
  (.mk [] [] g 0 rfl rfl q4 z1 (aH.m! (by simp)) iH .nil y2 y3 (i.fresh nk).2 (i.fresh nk).1))
 case turn=>
  rintro x x4 _ s₁ yy;refine yy _ λdone kk g1 e w x3 Y oJ a1 i1 q1 n1 n2 n3 n4=>?_
  have hx:us[done.length]? = C x:=by rw[w];simp
  have u4:done.length<ts.length:=by rw[<-À,w,Ð];exact D_ (ŵ _)
  obtain⟨tt,w1⟩:∃tt,ts[done.length]? = C tt:=⟨ts[done.length],æ u4⟩
  rcases _:q.get (i:=done.length) (x:=.str tt) (by rw[Ė,w1];rfl)with⟨x',hx',rx⟩
  rw[hx]at hx';obtain rfl:=Ä hx'
  (refine Á (S_ (Ô (Hl S hd i1 (a1.le.I _ _ hf) (a1.le.I _ _ hc) u1 q0 (rx.mono a1.le)) (λk s₂ r4=>?_) λJ J x=>x.elim));refine r4 _ λg2 a2 i2 r2=>?_)
  dsimp only
  have u3:s₂.heap.get? K=C (Ŗ "list" (t_ kk) e):=a2.keep _ _ Y n3 (by simp)
  have x0:s₂.heap.get? D=C (Ŗ "list" #[] e1):=a2.keep _ _ oJ n1 (by simp)
  have s2:=Ĩ s₂.heap K (Ğ (·.push k))
  have ea:(t_ kk).push k=t_ (kk++[k]):=by simp
  obtain⟨c2,z2⟩:∃c2,(s₂.heap.update K (Ğ (·.push k))).get? K=C (Ŗ "list" (t_ (kk++[k])) c2):=⟨_,by rw[<-ea];exact Ι u3 (·.push k)⟩
  have E:kk.length<64:=by rw[<-x3];exact Þ u4 (Þ m Zz)
  refine Á (ϋ u3 rfl ?_ (by rw[Đ,ŀ];exact Â (ð E) Zz) (Â (ó (aaN ..)) (by rw[Đ,ŀ];exact Â E Zz)))
  have m1:D∉g2.ρ:=a2.new _ _ oJ n1
  have m2:g2.I D=U:=a2.newI _ _ oJ n2
  have m3:K∉g2.ρ:=a2.new _ _ Y n3
  have m4:g2.I K=U:=a2.newI _ _ Y n4
  have a3:bt [D,K] g2 s₂ g2 { s₂ with heap:=s₂.heap.update K (Ğ (·.push k)) }:=.write (t:=s₂.toks) (Ë _) (by simp) s2 ⟨_,z2⟩
  have i3:Inv g2 Z { s₂ with heap:=s₂.heap.update K (Ğ (·.push k)) }:=i2.write (t:=s₂.toks) (Ë _) m3 m4 s2
  refine Å (.mk (done++[x]) (kk++[k]) g2 c2 (by rw[w];simp) (by simp[x3]) z2 ((s2.2 D x7).trans x0) ((a1.trans a2.own).trans a3) i3 ?_ m1 m2 m3 m4)
  have V:ts.take (done++[x]).length=ts.take done.length++[tt]:=by simp only[Ð,ŷ,ty,w1];rfl
  rw[V,ò]
  exact(q1.mono a2.le).append (.cons r2 .nil)
 case fin=>
  rintro _ s₁ yy;refine yy _ λdone kk g1 e w x3 Y oJ a1 i1 q1 n1 n2 n3 n4=>?_
  rw[Ę]at w
  subst w
  have E:kk.length=ts.length:=x3.symm.trans À
  rw[fe (ó À.symm)]at q1
  refine Á (Yc Y rfl ?_)
  unfold ksk_end
  dsimp only
  rw[Ý ß]
  have x5:∀(st:SortSt) (p:ÿ Ó) (tk:Ó),s₁.toks<=tk->cL ts.length p->Up (O:=lexOrd aM) (λi=>nG (ts.getD i Ĕ)) p ts.length->(arrOf st).map (·.2)=t_ (p.toList.map λi=>us.getD i Ă)->adG st=U->
   Î cx.M A (ksk_tail D Ï e1 (.ref K) st) P bj { s₁ with toks:=tk }:=by
   intro st p tk V l y1 v2 x8
   unfold ksk_tail
   rw[v2]
   obtain⟨ck,w7⟩:∃ck,(s₁.heap.update K (Ğ λJ=>(#[]:ÿ Ê))).get? K=C (Ŗ "list" #[] ck):=⟨_,Ι Y λJ=>#[]⟩
   have t1:=Ĩ s₁.heap K (Ğ λJ=>(#[]:ÿ Ê))
   have x0:=(t1.2 D x7).trans oJ
   refine Á (ϋ Y rfl ?_ (by rw[Đ,E,ŀ];exact Â (ð m) Zz) (ï _))
   refine Á (wpAny_letGo ?_)
   refine Á (Xf x0 rfl ?_)
   have q7:(p.toList.map λi=>us.getD i Ă).length=ts.length:=by simp only[length_map,Č,l.size]
   rw[Ý ß]
   refine Á (ϋ x0 rfl ?_ (ï _) (Â (ó (show _=ts.length from q7)) (by rw[ŀ];exact Â (ð m) Zz)))
   rw[x8]
   simp only[Ε,ĭ,δ]
   (refine Ř λw2=>?_;obtain⟨cd,z3⟩:∃cd,((s₁.heap.update K (Ğ λJ=>(#[]:ÿ Ê))).update D (Ğ λJ=>t_ (p.toList.map λi=>us.getD i Ă))).get? D=C (Ŗ "list" (t_ (p.toList.map λi=>us.getD i Ă)) cd):=⟨_,Ι x0 λJ=>t_ (p.toList.map λi=>us.getD i Ă)⟩<;>(refine w2 ?_;clear w2))
   have t2:=Ĩ (s₁.heap.update K (Ğ λJ=>(#[]:ÿ Ê))) D (Ğ λJ=>t_ (p.toList.map λi=>us.getD i Ă))
   have w3:∀b o,s₁.heap.get? b=C o->b≠D->b≠K->((s₁.heap.update K (Ğ λJ=>(#[]:ÿ Ê))).update D (Ğ λJ=>t_ (p.toList.map λi=>us.getD i Ă))).get? b=C o:=λb o eb h1 d=>(t2.2 b h1).trans ((t1.2 b d).trans eb)
   refine Å (h p g1 _ cd l y1 (bt.less (own:=[D,K]) ?_ λb r=>?_) ?_ n1 n2 z3)
   ·refine a1.trans ⟨.refl _,V,λb o eb J r=>w3 b o eb (λz=>r (by simp[z])) (λz=>r (by simp[z])),λJ J J h=>h,λJ J J h=>h,λb o eb=>?_,λJ J e=>e,rfl⟩
    by_cases h1:b=D
    ·rw[h1];exact⟨_,z3⟩
    ·by_cases d:b=K
     ·rw[d];exact⟨_,(t2.2 _ x7.symm).trans w7⟩
     ·exact⟨o,w3 b o eb h1 d⟩
   ·simp only[Ċ,Ķ,Ϸ]at r
    rcases r with rfl|rfl
    ·exact .inl (by simp)
    ·exact .inr nk
   ·have i2:=i1.write (t:=tk) V n3 n4 t1
    exact i2.write (t:=tk) (Ë _) n1 n2 t2
  by_cases d:us.toArray.size<2
  ·rw[Û d,Û d]
   refine Á (Å ?_)
   rw[aaM]
   refine Á (Å ?_)
   have r1:ts.length<2:=by rw[<-À];exact d
   have q5:cL ts.length (İ ts.length).toArray:=YW _
   have r3:Up (O:=lexOrd aM) (λi=>nG (ts.getD i Ĕ)) (İ ts.length).toArray ts.length:=wP r1
   refine x5 _ _ s₁.toks (Ë _) q5 r3 ?_ rfl
   show((kk.toArray.zip us.toArray).map (·.2))=_
   exact BD À E
  ·rw[Ý d,Ý d]
   have x6:2<=us.length:=ņ d
   have x9:kk.length=us.length:=E.trans À.symm
   have N:∀j,j<ts.length->Tv λp items k=>TN (kk.getD j Ă = .ref p) (s₁.heap.get? p=C { cls:=.type "list",data:=.seq items k }) (Ů items.toList (gO (ts.getD j Ĕ))):=λj hj=>by
    rcases _:q1.get (i:=j) (x:=AY ts[j]) (by rw[Ė,æ hj];rfl)with⟨k,hk,rk⟩
    ((refine ye i1 rk _ ?_;rintro p items kz y;refine y _ ?_;rintro rfl l hs _))
    refine .mk p items kz (.mk (by rw[Ĺ,hk];rfl) l ?_)
    rw[Ĺ,æ hj];exact hs
   refine Á (kas_kind (T:=.type "list") (by rw[x9];exact x6) (λk hk=>?_) Zz Zz ?_)
   ·obtain⟨j,hj,rfl⟩:=Y1 hk
    (refine N j (by rw[<-E];exact hj) _ ?_;rintro p items kz y;refine y _ λl hg J=>?_)
    rw[Ĺ,æ hj]at l
    rw[show kk[j] = .ref p from l]
    exact(adM hg).andThen .now
   ·refine Á (Ô (kat_run (ks:=kk) (vs:=us) (κ:=oneType') (Q:=λx2 B=>Tu λ(p:ÿ Ó) (t:Ó)=>Ts (B={ s₁ with toks:=t }) (s₁.toks<=t) (cL ts.length p) (Up (O:=lexOrd aM) (λi=>nG (ts.getD i Ĕ)) p ts.length) (arrOf x2=p.map (kas_item (kk.toArray.zip us.toArray))) (adG x2=U))
     (G:=λp B=>cL ts.length p/\Up (O:=lexOrd aM) (λi=>nG (ts.getD i Ĕ)) p ts.length/\∃t,s₁.toks<=t/\B={ s₁ with toks:=t }) x9 x6 (É hz Zz) (λp x2 B a1 a2 a3 a4=>(.mk p a4.2.2.choose (.mk a4.2.2.choose_spec.2 a4.2.2.choose_spec.1 a4.1 a4.2.1 a2 a3)))
     ?run) ?_ λJ J e=>e)
    case run=>
     rw[À]
     refine qJ (O:=lexOrd aM) (key:=λi=>nG (ts.getD i Ĕ)) (I:=λB=>∃t,s₁.toks<=t/\B={ s₁ with toks:=t }) ?asks (by rw[<-À];exact x6) m ⟨s₁.toks,Ë _,rfl⟩ λp B is l hu=>⟨l,hu,is⟩
     rintro i j acT _ hi hj ⟨tk,V,rfl⟩ hC
     ((refine N i hi _ ?_;rintro p items kz y;refine y _ λl q3 r0=>?_))
     ((refine N j hj _ ?_;rintro p2 items2 kz2 y;refine y _ λq6 u2 v3=>?_))
     show Î cx.M A (keyLt' oneType' (kk.getD i Ă) (kk.getD j Ă)) acT _ { s₁ with toks:=tk }
     simp only[l,q6,keyLt'_oneType]
     refine yD (s:={ s₁ with toks:=tk }) hu q3 u2 r0 v3 ?_
     rw[oB]
     exact hC _ ⟨tk,V,rfl⟩
    ·rintro⟨⟨⟩,x2⟩ B yy;(refine yy _ λp tk y=>?_);(refine y _ ?_;rintro rfl V l y1 w6 q2)
     exact x5 x2 p tk V l y1 (kat_snds x9 w6) q2
end
theorem rc {G:Type} {le:G->G->Prop} (B:∀a b,le a b->le b a->a=b):∀{l₁ l₂:È G},l₁.Perm l₂->l₁.Pairwise le->l₂.Pairwise le->l₁=l₂
 | [],l₂,hp,_,_=>(nil_perm.mp hp).symm
 | a::l₁,[],hp,_,_=>by simpa using hp.length_eq
 | a::l₁,b::l₂,hp,h1,h2=>by
  rw[Zx]at h1 h2
  have D:a=b:=by
   rcases Ċ.mp (hp.mem_iff.mp (ã (a:=a) (l:=l₁)))with e|H
   ·exact e
   ·rcases _:Ċ.mp (hp.mem_iff.mpr (ã (a:=b) (l:=l₂)))with e|I
    ·exact e.symm
    ·exact B _ _ (h1.1 b I) (h2.1 a H)
  subst D
  rw[rc B (aer hp) h1.2 h2.2]
def takeWhile_all {l:È Ó} {p:Ó->ì} (h:∀a∈l,p a=Í):l.takeWhile p=l:=by
 induction l with
 | nil=>rfl
 | cons a l D=>simp only[Xd,h a (by simp)];simp only[WR];rw[D λb B=>h b (by simp[B])]
def oW {l:È Ó} {p:Ó->ì} (h:l.dropWhile p=[]):∀a∈l,p a=Í:=by
 induction l with
 | nil=>simp
 | cons a l D=>
  rw[W8]at h
  split at h
  ·intro b B
   rcases Ċ.mp B with rfl|B
   ·assumption
   ·exact D h b B
  ·contradiction
def FP:(⟨#[125]⟩:Ì)=("}" : Ì):=by decide +kernel
set_option tactic.hygienic true in def jo (t:Ì):nG t=match cI t with|(x,U)=>[x]|(x,C r)=>[x,r]:=by
 show((gO t).map λx=>x.cps.toList)=_
 delta gO cI
 rw[<-FP,jB t 125 Zz]
 split
 ·rename_i h
  rfl
 ·rename_i h
  have:t.cps.toList.takeWhile (· !=125)=t.cps.toList:=by
   refine takeWhile_all λa B=>?_
   simp only[ώ,ne_eq]
   rintro rfl
   exact h (Ú.mpr B)
  simp[this]
def dH {O:r5} {x:O.α} {B D:È O.α}:bQ O (x::B) (x::D)=bQ O B D:=by rw[dk,O.irrefl];rfl
def cE (p q:È Ó):(!(decide (q<p)))=decide (p<=q):=by rw[Ψ];simp[acQ]
def kB {x y:È Ó} (h:¬ x=y) (D G:È (È Ó)):(!bQ aM (y::D) (x::G))=decide (x<=y):=by
 rw[dk]
 cases h1:aM.blt y x with
 | true=>
  simp only[j_]at h1
  simp[List.not_le.mpr h1]
 | false=>
  generalize B:aM.blt x y=zzy
  induction zzy with
  | true=>
   simp only[decide_eq_false_iff_not]at h1
   simp[acQ.mp h1]
  | false=>exact absurd (aM.total _ _ B h1) h
def nJ (p q:È Ó):(!bQ aM [q] [p])=decide (p<=q):=by
 rw[dk]
 have:bQ aM [] []=Ï:=rfl
 simp only[this,b_,YE]
 exact cE _ _
def qL (a b:Ì):qK a b = !(lexOrd aM).blt (nG b) (nG a):=by
 rw[jo,jo]
 unfold qK
 rcases cI a with⟨x,u⟩
 rcases cI b with⟨y,v⟩
 dsimp only
 by_cases hxy:x=y
 ·subst hxy
  rw[Û rfl]
  cases u with
  | none=>induction v with
   | none=>show Í = !bQ aM [x] [x];rw[dH];rfl
   | some q=>show Í = !bQ aM [x,q] [x];rw[dH];rfl
  | some p=>induction v with
   | none=>show Ï = !bQ aM [x] [x,p];rw[dH];rfl
   | some q=>show decide (p<=q) = !bQ aM [x,q] [x,p];rw[dH,nJ]
 ·rw[Ý hxy]
  rcases u<;>rcases v<;>exact(kB hxy _ _).symm
abbrev gr (p:Ì×Ì):(lexOrd aM).α:=[bp p.1,bp p.2]
def fE (a b:Ì×Ì):gq a b = !(lexOrd aM).blt (gr b) (gr a):=by
 unfold gq
 by_cases h:a.1=b.1
 ·rw[Û h]
  exact(nJ _ _).symm.trans (Õ not (show _=bQ aM [bp b.1,bp b.2] [bp a.1,bp a.2]from by rw[h];exact dH.symm))
 ·rw[Ý h]
  exact(kB (λe=>h (bW e)) _ _).symm
def qV {a b:Ì×Ì} (h:gr a=gr b):a=b:=by
 obtain⟨B,D⟩:=ŭ h
 exact abH (bW B) (bW (ŭ D).1)
set_option tactic.hygienic true in def Hh {a b:Ì} (h:nG a=nG b):a=b:=by
 simp only[jo,jo]at h
 have B:∀t:Ì,t.cps.toList=match cI t with|(x,U)=>x|(x,C r)=>x++125::r:=λt=>by
  unfold cI
  have e:=x_ (p:=(· !=125)) (l:=t.cps.toList)
  split
  ·rename_i x hx
   simp only[aaR,ite_eq_right_iff,reduceCtorEq,imp_false]at hx
   obtain⟨rfl,G⟩:=hx
   refine(takeWhile_all λa H=>?_).symm
   simp only[ώ,ne_eq]
   rintro rfl
   exact G (Ú.mpr H)
  ·rename_i x r hx
   simp only[aaR]at hx
   obtain⟨rfl,G⟩:=hx
   split at G
   ·rename_i hm
    obtain rfl:=Ä G
    have L:t.cps.toList.dropWhile (· !=125)=125::(t.cps.toList.dropWhile (· !=125)).drop 1:=by
     generalize D:t.cps.toList.dropWhile (· !=125)=zzy
     induction zzy with
     | nil=>
      exfalso
      have:=oW D 125 (Ú.mp hm)
      trivial
     | cons c r=>
      have:(c !=125)=Ï:=by
       have:=head_dropWhile_not (p:=(· !=125)) (l:=t.cps.toList) (by rw[D];simp)
       simpa [D]using this
      have G:c=125:=by simpa using this
      rw[G];rfl
    simp only[<-L,e]
   ·contradiction
 have H:=B a
 have I:=B b
 refine bW (show a.cps.toList=b.cps.toList from ?_)
 simp only[H,I]
 generalize cI a=ca at h
 generalize cI b=cb at h
 rcases ca with⟨x,_|u⟩<;>rcases cb with⟨y,_|v⟩<;>simp at h ⊢
 ·exact h
 ·simp only[h.1,h.2]
def AZ {B:Type} {O:r5} {ko:B->O.α} {le:B->B->ì} (D:∀a b,le a b = !O.blt (ko b) (ko a)) (a b:B):le a b=Í↔O.kle (ko a) (ko b):=by rw[D,Ϟ];rfl
def jA {D:Type} {O:r5} {ko:D->O.α} {le:D->D->ì} (B:∀a b,le a b = !O.blt (ko b) (ko a)) (xs:È D):(xs.mergeSort le).Pairwise λa b=>le a b=Í:=by
 have k:=AZ B
 refine pairwise_mergeSort (λa b c G H=>(k a c).mpr (v_ ((k a b).mp G) ((k b c).mp H))) (λa b=>?_) xs
 rw[B,B]
 cases q:O.blt (ko b) (ko a)with
 | false=>rfl
 | true=>rw[Jq (O:=O) q];rfl
def order_eq {D:Type} {O:r5} {ko:D->O.α} {le:D->D->ì} (B:∀a b,le a b = !O.blt (ko b) (ko a)) (G:∀{a b},ko a=ko b->a=b) {xs H:È D} (Q:H.Perm xs) (À:H.Pairwise λa b=>le a b=Í):H=xs.mergeSort le:=
 have k:=AZ B
 rc (le:=λa b=>le a b=Í) (λa b I L=>G (KeyOrd.kle_antisymm ((k a b).mp I) ((k b a).mp L))) (Q.trans (ň xs le).symm) À (jA B xs)
def cL.lt {n:Ó} {p:ÿ Ó} (h:cL n p) {j:Ó} (D:j∈p.toList):j<n:=by
 have B:p.toList.Perm (İ n):=by simpa using YI h
 have:=B.mem_iff.mp D;simpa using this
def v6 {H:Type} {O:r5} {ko:H->O.α} {le:H->H->ì} (G:∀a b,le a b = !O.blt (ko b) (ko a)) (À:∀{a b},ko a=ko b->a=b) {xs ys:È H} {d:H} {p:ÿ Ó} (N:xs.Perm ys) (Y:cL xs.length p) (acT:Up (O:=O) (λi=>ko (xs.getD i d)) p xs.length) :
 (p.toList.map λi=>xs.getD i d).Perm ys/\(p.toList.map λi=>xs.getD i d)=ys.mergeSort le:=by
 have Q:p.toList.Perm (İ xs.length):=by simpa using YI Y
 have V:(p.toList.map λi=>xs.getD i d).Perm ys:=by
  refine aeu ?_ N
  refine(Q.map _).trans (Zm (X9 λj=>?_))
  rw[Ė]
  by_cases B:j<xs.length
  ·rw[Y0 B,æ B];simp[B]
  ·rw[Ū (by rw[aas];exact ņ B),Ū (ņ B)];rfl
 refine⟨V,order_eq G À V ?_⟩
 rw[Ya,pairwise_iff_getElem]
 intro j k B hk L
 have hz:=Y.size
 have D:k<p.size:=by simpa using hk
 have I:j<p.size:=by simpa using B
 have:=acT j k (ð L) (hz▸D)
 rw[G,Ϟ]
 have E:p.getD j 0=p.toList[j]:=by simp[acG,I]
 have A:p.getD k 0=p.toList[k]:=by simp[acG,D]
 unfold Kp at this
 rw[E,A]at this
 exact this
def yK:∀{l:ZC} {p:Ì},risingS p l=Í->(p::l).Pairwise λa b=>decide (a.cps.toList<=b.cps.toList)=Í:=by
 intro Q;induction Q with
 | nil=>
  exact @λp J=>abY _ _
 | cons x r O=>
  intro p h
  obtain⟨I,L⟩:=(ú ..).mp h
  have k:=O L
  have G:p.cps.toList<=x.cps.toList:=of_decide_eq_true ((cE _ _).symm.trans (by rw[<-adr];exact I))
  refine Zx.mpr ⟨λy D=>?_,k⟩
  rcases Ċ.mp D with rfl|D
  ·exact õ G
  ·exact õ (List.le_trans G (of_decide_eq_true ((Zx.mp k).1 y D)))
def yX:∀{l:ZC},sortedS l=Í->l.Pairwise λa b=>decide (a.cps.toList<=b.cps.toList)=Í
 | [],_=>.nil
 | _::_,h=>yK h
def Io {D ts:ZC} (G:D.Perm ts) (h:sortedS D=Í):D=gw ts:=
 order_eq (O:=aM) (ko:=bp) (λa b=>(cE _ _).symm) bW G (yX h)
section
variable {g B:G} {Z:aa} {s H:Ç} {A:Ā} {x u v:Ê} {xs ys:ZB} {us:ZA}
def Fg (D:Prop) (g:G) (s:Ç) (Z:aa) (xs:ZB) (vs:ZA) (s₁:Ç):Prop:=∀(B:G) (a:bt [] g s B s₁) (i:Inv B Z s₁) (r:aG B xs vs),D
def mh:=λg s Z xs vs s₁=>∀D,Fg D g s Z xs vs s₁->D
def mh.mk:Fg (mh g s Z xs vs s₁) g s Z xs vs s₁:=λB a i r J D=>D B a i r
def iW (xs ys:ZB):Prop:=ys.length=xs.length/\∀(g:G) (A:Ā) (s:Ç) (D:Ü) (us:ZA) (n:Ó) (Q:Ê->Ç->Prop),aG g xs us->(∀b o,g.I b=C o->s.heap.get? b=C o)->g.I D=U->s.heap.get? D=C (Ŗ "list" us.toArray n)->
 (∀L h' t c,aG g ys L->cu D s.heap h'->h'.get? D=C (Ŗ "list" L.toArray c)->Q .none { s with heap:=h',toks:=t })->Î cx.M A (call (.builtin "list.sort") [.ref D]) Q bj s
def zd (D:Prop) (g:G) (s:Ç) (Z:aa) (ys:ZB) (vs:ZA) (s₁:Ç):Prop:=∀(xs:ZB) (S:iW xs ys) (hz:xs.length<=Ö) (q:mh g s Z xs vs s₁),D
def uI:=λg s Z ys vs s₁=>∀D,zd D g s Z ys vs s₁->D
def uI.mk:zd (uI g s Z ys vs s₁) g s Z ys vs s₁:=λxs S hz q J D=>D xs S hz q
def fJ (V:Î cx.M A.in1 (Xz x) (uI g s Z ys) bj s):Î cx.M A (call (.builtin "sorted") [x]) (PE g s Z (.fl ys)) bj s:=by
 refine EQ (Ô V (λvs s₁ q=>?_) λJ J x=>x.elim)
 refine q _ λxs S hz O=>O _ λB a i r=>?_
 refine⟨r.length▸hz,λÀ=>?_⟩
 have D:=af s₁
 have kk:∀b o,s₁.heap.get? b=C o->(s₁.heap.push (Ŗ "list" vs.toArray 0)).get? b=C o:=λb o e=>Ñ _ e
 refine cy (S.2 B À _ _ vs 0 _ r (λb o e=>kk b o (i.sub b o e)) (i.fresh D).1 (ê _ rfl) λL h' t c acT Y E Q J=>?_)
 have I:∀b o,s₁.heap.get? b=C o->h'.get? b=C o:=λb o e=>Y b o (λz=>by rw[z,D]at e;cases e) (kk b o e)
 refine((.mk _ (.freeze i Q D I) (i.freeze Q D E I) ?_):PX B s₁ Z _ _ _).up a
 exact B4.mk _ _ L rfl (G.é _ _ _) ⟨c,rfl⟩ (acT.mono (G.a! (i.fresh D).1)) (S.1▸hz)
def HC (S:iW xs ys) {l:Ó} (i:Inv g Z s) (e:Z[l]? = C (.list xs)) (r:VR g (.loc l) x):Î cx.M A (call (.builtin "list.sort") [x]) (PE g s (Z.set l (.list ys)) .none) bj s:=by
 obtain⟨p,rfl,D⟩:=r
 (refine i.cells _ _ _ e D _ ?_;rintro vs ⟨k,hv⟩ q z)
 exact S.2 g A s p vs k _ q i.sub (i.apart p (Ĉ D)) hv λG h' t c Q L O I=>
  (.mk g (.h! I D L ⟨_,O⟩) (i.h! I D (.mk G ⟨c,O⟩ Q (S.1▸z)) L) .none_)
def yW {p ks:ZC} (h:p.Perm ks):gw p=gw ks:=
 order_eq (O:=aM) (ko:=bp) (λa b=>(cE _ _).symm) bW ((ň ..).trans h) (jA (O:=aM) (ko:=bp) (λa b=>(cE _ _).symm) p)
def rj {ts:ZC} (h:aJ xs=C ts) (L:ts.length<64):iW xs ((gw ts).map .str):=by
 have G:∀{xs:ZB} {ts:ZC},aJ xs=C ts->ts.length=xs.length:=by
  intro xs
  induction xs with
  | nil=>intro ts h;obtain rfl:=Ä h;rfl
  | cons x xs w=>
   intro ts h
   induction x using AV.casesOn with
   | str t=>obtain⟨ts,q,rfl⟩:=Ħ.mp h;exact Õ (· + 1) (w q)
   | _=>exact aD h
 have Y:=ň ts λa b=>decide (a.cps.toList<=b.cps.toList)
 refine⟨by rw[length_map];exact Y.length_eq.trans (G h),λg A s D us n Q r J J O k=>?_⟩
 obtain⟨hz,I⟩:=cR h r
 refine Ş Y7 ⟨_,O,rfl⟩ YN (list_sort_treeK strKind_oneLt O I.keysOf (λv1 v2 rest e=>keyKind_strs (by rw[<-e];exact I)) (I.length▸L) λV À y=>⟨_,rfl,?_⟩) (adE _)
 obtain⟨ss',E,acT,N⟩:=sorted_out_str I À y
 obtain rfl:=Io acT N
 obtain⟨c,l⟩:=sortedHeap_at (vs:=us) (out:=(arrOf V).map (·.2)) O
 exact k _ _ _ c (aG.strs E λt z=>hz t (Y.mem_iff.mp z)) (λb o j e=>(sortedHeap_old j (Ŀ e)).trans e) l
def aG.pick {d:AV} (r:aG g xs us):∀{p:È Ó},(∀j∈p,j<xs.length)->aG g (p.map λi=>xs.getD i d) (p.map λi=>us.getD i Ă):=by
 intro I;induction I with
 | nil=>
  exact @λJ=>.nil
 | cons j p G=>
  intro h
  have D:=h j (by simp)
  obtain⟨v,hv,q⟩:=r.get (æ D)
  simp only[Ī,Ī,Ĺ,Ĺ,æ D,hv]
  exact .cons q (G λk hk=>h k (by simp[hk]))
def ub {p:Ì×Ì} {h:ę} {u:Ê} (k:∀b o,g.I b=C o->h.get? b=C o) (r:VR g (ae p) u):∃a t t' n,u = .ref a/\h.get? a=C { cls:=.type "tuple",data:=.seq #[.str p.1 t,.str p.2 t'] n }:=by
 (refine r _ ?_;rintro a o us rfl D ⟨n,rfl⟩ q _)
 refine q.e2 (Q:=λus=>g.I a=C { cls:=.type "tuple",data:=.seq us.toArray n }->_) (λu w G L D=>?_) D
 (refine G.c! _ ?_;rintro t rfl _)
 (refine L.c! _ ?_;rintro t' rfl _)
 exact⟨a,t,t',n,rfl,k _ _ D⟩
def Mh {h:ę} (k:∀b o,g.I b=C o->h.get? b=C o):∀{ps:ZE} {us:ZA},aG g (ps.map ae) us->∃fs,KatTups h us fs/\fs.length=ps.length/\∀f∈fs,∃x t,f=e9 x t:=by
 intro E;induction E with
 | nil=>
  exact @λus r=>by rw(occs:=.all) [aG.d! r];exact⟨[],.nil,rfl,λJ h=>nomatch h⟩
 | cons p ps À=>
  intro us r
  obtain⟨u,us,rfl,V,Y⟩:=aG.b! (show aG g (ae p::ps.map ae) us from r)
  obtain⟨fs,D,G,L⟩:=À Y
  obtain⟨a,t,t',n,rfl,O⟩:=ub k V
  exact⟨.str p.1 t::fs,.cons O rfl rfl rfl D,Õ (· + 1) G,λf Q=>(Ċ.mp Q).elim (λe=>⟨_,_,e⟩) (L f)⟩
def LK {p q:Ì×Ì} {u v:Ê} {acT:ì->Ç->Prop} (k:∀b o,g.I b=C o->s.heap.get? b=C o) (O:VR g (ae p) u) (Q:VR g (ae q) v) (h:acT ((lexOrd aM).blt (gr p) (gr q)) s) :
 Î cx.M A (keyLt' (tuples' Í) u v) acT bj s:=by
 obtain⟨a,t,t',n,rfl,G⟩:=ub k O
 obtain⟨b,w,w',m,rfl,L⟩:=ub k Q
 refine kat_lt G rfl L rfl (kat_cons (adi ?_))
 by_cases h1:p.1=q.1
 ·rw[õ h1]
  refine kat_yes (kat_cons (adi ?_))
  have D:(lexOrd aM).blt (gr p) (gr q)=bQ aM [bp p.2] [bp q.2]:=by
   show bQ aM [bp p.1,bp p.2] [bp q.1,bp q.2]=_
   rw[h1,dH]
  rw[D]at h
  by_cases h2:p.2=q.2
  ·rw[õ h2]
   refine kat_yes (kat_nil ?_)
   rw[h2,dH]at h
   exact h
  ·rw[ü h2]
   refine kat_no (kat_one _ _ (Yd ?_))
   rw[show bQ aM [bp p.2] [bp q.2]=decide (p.2.cps.toList<q.2.cps.toList)from nu ((nJ _ _).trans (cE _ _).symm)]at h
   exact h
 ·rw[ü h1]
  refine kat_no (oneLt_str ?_)
  rw[show(lexOrd aM).blt (gr p) (gr q)=decide (p.1.cps.toList<q.1.cps.toList)from nu ((kB (λe=>h1 (bW e.symm)) _ _).trans (cE _ _).symm)]at h
  exact h
def qW:∀{xs:ZB} {ps:ZE},gt xs=C ps->xs=ps.map ae:=by
 intro L;induction L with
 | nil=>
  exact @λps h=>by obtain rfl:=Ä h;rfl
 | cons x xs I=>
  exact @λps h=>aP h λp D h=>bC h λr G e=>by simp only[<-e,HQ D,I G];rfl
def kJ:∀ps:È (Ì×Ì),gt (ps.map ae)=C ps:=by
 intro G;induction G with
 | nil=>
  exact rfl
 | cons p ps D=>
  exact by show(gt (ps.map ae)).map (p :: ·)=_;rw[D];rfl
def kL {ps:ZE} (h:gt xs=C ps) (h5:ps.length<7):iW xs ((aW ps).map ae):=by
 obtain rfl:=qW h
 have hp:=ň ps gq
 refine⟨by rw[length_map,length_map];exact hp.length_eq,λg A s D us n Q r hk hD ho k=>?_⟩
 have Y:us.length=ps.length:=by have:=r.length;rw[length_map]at this;exact this.symm
 have l:∀h',cu D s.heap h'->∀b o,g.I b=C o->h'.get? b=C o:=λh' q b o e=>q b o (λz=>by rw[z,hD]at e;cases e) (hk b o e)
 have L:∀i,i<us.length->VR g (ae (ps.getD i (Ĕ,Ĕ))) (us.getD i Ă):=λi E=>by
  obtain⟨v,hv,q⟩:=r.get (i:=i) (x:=ae (ps.getD i (Ĕ,Ĕ))) (by rw[Ė,Ĺ,æ (Y▸E)];rfl)
  rw[show us.getD i Ă=v from by rw[Ĺ,hv];rfl];exact q
 refine EO (O:=lexOrd aM) (key:=λi=>gr (ps.getD i (Ĕ,Ĕ))) (κ:=tuples' Í) ho (Y▸h5) (λh2 y h' Q' V hq=>?_) (λy h' t i j acT E N V hC=>?_) λp h' t c G À V hg=>?_
 ·obtain⟨fs,m,f2,f3⟩:=Mh (l h' V) r
  refine kat_kind (s:={ s with heap:=h' }) (T:=.type "str") m (by rw[f2,<-Y];exact ô Zz h2) (λf hf=>?_) Zz hq
  obtain⟨x,t,rfl⟩:=f3 f hf
  exact Looks.of_pure rfl
 ·exact LK (s:={ s with heap:=h',toks:=t }) (l h' V) (L i E) (L j N) (hC t)
 ·rw[Y]at G À
  obtain⟨_,e⟩:=v6 fE qV (.refl ps) G À
  refine k _ h' t c ?_ V hg
  have q:=r.pick (d:=ae (Ĕ,Ĕ)) (p:=p.toList) λj N=>by rw[length_map];exact G.lt N
  have w:(p.toList.map λi=>(ps.map ae).getD i (ae (Ĕ,Ĕ)))=(aW ps).map ae:=by
   simp only[aW,<-e,ĥ]
   exact Ŧ λi J=>by show(ps.map ae).getD i _=ae (ps.getD i _);simp only[Ĺ,Ĺ,Ė];cases ps[i]?<;>rfl
  rw[w]at q
  exact q
end
def lC (x q:Ü):Xj "sorted" ⟨[.ref x],[(Ć "key",.ref q)]⟩:=by unfold Xj;kernel_rfl
def oO (x q:Ü):Xj "list.sort" ⟨[.ref x],[(Ć "key",.ref q)]⟩:=by unfold Xj;kernel_rfl
section
variable {n:Ó} {g:G} {Z:aa} {s:Ç} {A:Ā} {u:Ê}
theorem pM {us:ZA} {ts:ZC} (h:Ů us ts):∀{D:È Ó},(∀i∈D,i<ts.length)->Ů (D.map λi=>us.getD i Ă) (D.map λi=>ts.getD i Ĕ)
 | [],_=>.nil
 | i::D,hi=>by
  have I:us.length=ts.length:=by
   clear hi
   induction h with
   | nil=>rfl
   | cons _ _ _ H=>simp[H]
  have G:=hi i (by simp)
  obtain⟨t,O⟩:∃t,us.getD i Ă = .str (ts.getD i Ĕ) t:=by
   clear hi
   induction h generalizing i with
   | nil=>simp at G
   | cons y t hr H=>
    induction i with
    | zero=>exact⟨t,rfl⟩
    | succ j=>exact H j (by simp at I;exact I) (by simp at G;exact G)
  simp only[Ī,Ī,O]
  exact .cons _ _ (pM h λj L=>hi j (by simp[L]))
def yY {f c':Ü} {d:Ê} {oc:ϑ} {fs:ÿ Ê} {t:YP} {la:Ű} {lb:ñ} {sc:Α} {y:Ì} (S:iV la lb sc y) (hA:B0 n A) (i:Inv g Z s)
 (hf:g.I f=C (cD la lb sc c' d)) (hc:g.I c'=C oc) (V:oc.data = .fields fs) (x1:fs[1]? = C (.str (T.lq++"<lambda>") t)) {xs:ZC} (rx:Tt s xs u) (Q:xs.length<7) :
 Î cx.M A (call (.builtin "sorted") [u] [(Ć "key",.ref f)]) (PX g s Z (.fl ((au xs).map .str))) bj s:=by
 (refine rx _ ?_;rintro p rfl y;refine y _ λo ho H=>?_)
 have hz:∀x∈xs,x.length<=Ö:=by exact H _ λJ J J J J J J J J J J z J=>z
 have hh:A.in1.handled=U:=by simpa using hA.handled
 refine call_function_entry_kw kind_sorted plain_sorted entry_sorted (lC _ _) ?_
 unfold ř.«sorted»
 refine Á (m:=checkCount "sorted" 1 1 _) (Å ?_)
 refine Á (Ô (k9 hh ho H λus s₁ Y l=>?_) (λJ J x=>x) λJ J x=>x.elim)
 refine Y _ λts D L=>?_
 have O:ts.length=xs.length:=D.length_eq
 have x5:us.length=ts.length:=L.length
 have h4:us.length<=6:=by rw[x5,O];exact ž Q
 have i1:=l.inv i
 have q1:aG g (ts.map .str) us:=aG.strs L λx hx=>hz x (D.mem_iff.mp hx)
 refine Á (XY ?_ (by rw[ŀ];exact Â h4 Zz))
 have hD:(s₁.heap.push (Ŗ "list" us.toArray 0)).get? s₁.heap.objs.size=C (Ŗ "list" us.toArray 0):=ê _ rfl
 have À:=af s₁
 have kD:∀b o,s₁.heap.get? b=C o->(s₁.heap.push (Ŗ "list" us.toArray 0)).get? b=C o:=λb o e=>Ñ _ e
 have a2:bt [] g s g { s₁ with heap:=s₁.heap.push (Ŗ "list" us.toArray 0) }:=(l.stp).trans (.keeps (t:=s₁.toks) (Ë _) kD)
 have i2:Inv g Z { s₁ with heap:=s₁.heap.push (Ŗ "list" us.toArray 0) }:=i1.keep (t:=s₁.toks) (Ë _) kD
 refine Á (ä (wpAny_call_entry_kw Y7 ⟨_,hD,rfl⟩ YN ?_ (oO _ _)))
 rw[show ř.«list.sort» ⟨Ż s₁.heap.objs.size::[],[(Ć "key",Ż f)]⟩=ksk_tree s₁.heap.objs.size (.ref f) Ï from ksk_t1 f s₁.heap.objs.size]
 refine Hi S (A:=A.in1.in1) hA.call.r! (É (show A.units+2<=A.units+60 * n+100 from å (ë A.units (60 * n)) Zz) hA.units) i2 hf hc V x1 q1 (by rw[O];exact Q) hD (i1.fresh À).2 (i1.fresh À).1 λp g3 s3 c E x6 a3 i3 n1 n2 x2=>⟨_,rfl,Å ⟨_,rfl,?_⟩⟩
 have N:=pM L λj hj=>E.lt hj
 obtain⟨acT,H⟩:=v6 qL Hh D E x6
 rw[show xs.mergeSort qK=au xs from rfl]at H
 rw[H]at N
 have w:bt [] g s g3 s3:=(a2.own.trans a3).fresh λb hb=>by
  simp at hb;subst hb
  cases q:s.heap.get? s₁.heap.objs.size with
  | none=>rfl
  | some o=>exact absurd (Ŀ (l.heap _ _ q)) (Ő _)
 have x0:s.heap.get? s₁.heap.objs.size=U:=by
  generalize q:s.heap.get? s₁.heap.objs.size=zzy
  induction zzy with
  | none=>rfl
  | some o=>exact absurd (Ŀ (l.heap _ _ q)) (Ő _)
 have x4:∀x∈au xs,x.length<=Ö:=λx hx=>hz x (acT.mem_iff.mp (by rw[H];exact hx))
 have x3:(au xs).length=xs.length:=by rw[<-H];exact acT.length_eq
 refine(.mk (g3.freeze s₁.heap.objs.size _) (w.n! x0 n2) (i3.add x2 n1 n2) ?_)
 exact B4.mk _ _ _ rfl (G.é _ _ _) ⟨c,rfl⟩ ((aG.strs N x4).mono (G.a! n2)) (by rw[length_map,x3,ŀ];exact Â (ð Q) Zz)
variable {r:Ev} {F:Fr n} {vs:Vs} {c c₀:Cf} {K:VK} {X:XK}
def Su {g:G} {s:Ç} {Z:aa} {v:AV} {A:Ā} {t:Ϛ Ê} (h:Î cx.M A t (PX g s Z v) bj s):Î cx.M A t (PE g s Z v) bj s:=Ô h (λJ J x J=>x) λJ J x=>x
def Cw (R:gA n r.e) {f:ñ} {args:È ñ} {kws:È ς} {l:Ì×Ű×ñ×Α×ϗ} {cp:ϗ} (L:(fU kws).bind VG=C l) (e:At F vs c) (h:NP T r F.ks F.ns f args l vs c.Z K X) :
 Î cx.M F.A (Ũ (.Call f args kws cp) F.env) (QX F vs c K) (XX F c X) c.s:=by
 obtain⟨kw,la,lb,Q,lp⟩:=l
 rcases _:ù.mp L with⟨k0,x0,L⟩
 rw[cP x0]
 refine cw h λfx m h1=>cw h1 λÀ hex h2=>?_
 obtain⟨np,rfl⟩:=c7 m
 rw[cP hex]
 obtain⟨D,h3⟩:=bV h2
 refine cW D λD Y=>cW D λD acT=>cW D λD x1=>cW D λD x2=>cW D λD I=>cW D λD hk=>cW D λG O=>?_
 have O:aO À=Ï:=by simpa using O
 have hk:F.ks.lookup fx=C .globalImplicit:=ĕ.mp hk
 obtain⟨y,S⟩:=Ii x2
 have E:lp=T.lam:=ĕ.mp x1
 have I:kw=("key" : Ì):=ĕ.mp I
 obtain⟨N,rfl⟩:∃N,k0=⟨C kw,.Lambda la lb Q lp,N⟩:=by
  obtain⟨an,À,N⟩:=k0
  cases an with
  | none=>exact aD L
  | some an=>induction À using Ŋ with
   | Lambda=>cases L;exact⟨_,rfl⟩
   | _=>exact aD L
 subst I
 obtain⟨v,hv,hs⟩:∃v,T.gl.lookup fx=C v/\v = .bf .sorted:=by
  cases q:T.gl.lookup fx with
  | none=>rw[q]at G;exact E4 G
  | some w=>rw[q]at G;cases w with
   | bf b=>exact⟨_,rfl,Õ AV.bf (ĕ.mp G)⟩
   | _=>exact E4 G
 subst hs
 obtain⟨u,hu,hr⟩:=c.i.H.gl.names fx _ hv
 have x3:u = .builtin "sorted":=hr _ c.i.base
 subst x3
 refine Á (jf hk (by simpa using Y) hu ?_)
 refine bU (args:=[À]) (kws:=[⟨C "key",.Lambda la lb Q lp,N⟩]) (by show(_&&_)=Í;rw[show([À].any aO)=Ï by rw[V_,O];rfl];rfl) (bX (by show(_&&_)=Í;rw[show([À].any aO)=Ï by rw[V_,O];rfl];rfl) ?_)
 simp only[bM (oh O)]
 refine Μ (bq R (.refl _ _ _) e h3 λc₁ w u1 l₁ a1 e₁ r1 h=>cw h λxs hx h=>a8 (kwAll_cons ?_))
 refine Ô (O1 e₁ (la:=la) (lb:=lb) (sc:=Q) (by obtain⟨p,rfl⟩:=S.args;exact⟨rfl,rfl⟩) S.sok.free acT (bV h).1 E) (λu3 s3 z=>?_) λJ J x=>x.elim
 (refine z _ ?_;rintro g3 f3 c' ctv oc fs t rfl j i3 hf hc V d)
 refine Xu ⟨nF .sorted _,?_⟩
 exact leaf (c:=⟨g3,_,s3,i3⟩) (a1.trans j.own) (e₁.go j) (Su (yY S F.hA i3 hf hc V d (uU i3 hx (r1.mono j.le)) (bV h).2.1)) (bV h).2.2
end
def v9 (G:È Į):∀k,k<=G.length->preSum (λi=>G.getD i 0) k=(G.take k).sum:=by
 intro I;induction I with
 | zero=>
  exact @λJ=>rfl
 | succ k H=>
  intro h
  dsimp only[preSum]
  rw[H (by exact ð ‹_›)]
  have hk:k<G.length:=by assumption
  simp only[show G.take (k+1)=G.take k++[G[k]] by simp only[ty,æ hk];rfl,sum_append]
  simp[hk]
def yH (G:È Į):preSum (λi=>G.getD i 0) G.length=G.sum:=by rw[v9 G _ (Ë _),Xe]
section
variable {n:Ó} {g B:G} {Z Z':aa} {s D:Ç} {A:Ā} {v:AV} {u a b:Ê} {x:Ì}
def Kept.px (k:Kept s D) (i:Inv g Z s) (r:VR g v u):PX g s Z v u D:=(.mk g k.stp (k.inv i) r)
def Ee:∀{xs:ZB} {G:È Į} {vs:ZA},iK xs=C G->aG g xs vs->G.length=vs.length/\∀(i:Ó) (v:Ê),vs[i]? = C v->∃t,v=aaC (G.getD i 0) t:=by
 intro Q;induction Q with
 | nil=>
  exact @λG vs h r=>by obtain rfl:=Ä h;rw[r.d!];exact⟨rfl,λi v e=>by trivial⟩
 | cons x xs O=>
  intro G vs h r
  obtain⟨w,wr,rfl,L,I⟩:=r.b!
  refine aP h λk hk h=>bC h λis' h' H=>?_
  subst H
  obtain⟨l,q⟩:=O h' I
  obtain⟨t,rfl⟩:=L.intV hk
  refine⟨Õ (· + 1) l,λi v e=>?_⟩
  induction i with
  | zero=>exact⟨t,(Ä e).symm⟩
  | succ j=>exact q j v e
def Qi {xs:ZB} {G:È Į} (hA:A.handled=U) (i:Inv g Z s) (e:aw Z v=C xs) (h:iK xs=C G) (Y:VR g v a) :
 Î cx.M A (call (.builtin "sum") [a]) (PX g s Z (.int G.sum)) bj s:=by
 ((refine aI i e Y _ ?_;rintro p vs rfl L E zp))
 obtain⟨À,hv⟩:=Ee h E
 have I:p<s.heap.objs.size:=(by obtain⟨_,e⟩:=L;exact Ŀ e)
 refine call_sum_walkAnyS (Ϩ L.isList ⟨s.heap.objs.size,[s.heap.objs.size,p],[s.heap.objs.size],_,vs.toArray.size,_,_,λi=>G.getD i 0,rfl,(ZO (by exact hA) _ p (Ĝ I) vs.toArray).toS,⟨⟨_,ê _ rfl,rfl,rfl⟩,L.isList.push _⟩,?_,?_,?_⟩)
 ·intro b H
  simp only[Ċ,Ķ,Ϸ]at H
  simp only[e8]
  rcases H with rfl|rfl
  ·exact Ň _
  ·exact Ŭ I
 ·intro j v Q
  exact hv j v (by simpa using Q)
 ·intro D t' V
  have O:preSum (λi=>G.getD i 0) vs.toArray.size=G.sum:=by simp only[Đ,<-À];exact yH G
  rw[O]
  exact((Kept.push _).moved V λb H=>by simp at H;rw[H];exact af s).px i (.l! _)
def Ez {k:Į} (i:Inv g Z s) (H:VR g (.int k) a):Î cx.M A (call (.type "range") [a]) (PE g s Z (.rng 0 k)) bj s:=by
 obtain⟨t,rfl⟩:=H.f'
 exact call_range_1 (PE.alloc i rfl (λB le G=>by exact(.mk _ _ rfl G ⟨_,_,_,rfl⟩)) _)
def EA {k l:Į} (i:Inv g Z s) (H:VR g (.int k) a) (I:VR g (.int l) b):Î cx.M A (call (.type "range") [a,b]) (PE g s Z (.rng k l)) bj s:=by
 obtain⟨t,rfl⟩:=H.f'
 obtain⟨t',rfl⟩:=I.f'
 exact call_range_2 (PE.alloc i rfl (λB le G=>by exact(.mk _ _ rfl G ⟨_,_,_,rfl⟩)) _)
def aG.y! {xs:ZB}:∀{vs:ZA},xs.length=vs.length->(∀(j:Ó) (v:Ê),vs[j]? = C v->∃x,xs[j]? = C x/\VR g x v)->aG g xs vs:=by
 induction xs with
 | nil=>intro vs G _;rw[Ō.mp G.symm];exact .nil
 | cons x xs I=>
  intro vs G h
  induction vs using aco with
  | nil=>exact nomatch G
  | cons w ws=>
   obtain⟨y,H,L⟩:=h 0 w rfl
   exact .cons (Ä H▸L) (I (vx G) λj v e=>h (j+1) v e)
def G.o! {g:G} {a b:Ü} {o:ϑ}:(g.freeze a o).I b=if b=a then C o else g.I b:=rfl
def xF {s₀:Ç}:∀(as:È Ü) {g₀ g:G},bt [] g₀ s₀ g s->Inv g Z s->as.Nodup->(∀a∈as,s₀.heap.get? a=U/\a∉g.ρ/\g.I a=U/\∃o,s.heap.get? a=C o)->
 ∃B,Ts (bt [] g₀ s₀ B s) (Inv B Z s) (g.le B) (∀a∈as,∀o,s.heap.get? a=C o->B.I a=C o) (B.ρ=g.ρ) (∀b,b∉as->B.I b=g.I b):=by
 intro t;induction t with
 | nil=>
  exact @λg₀ g a i J J=>⟨g,.mk a i (.refl _) (by simp) rfl λJ J=>rfl⟩
 | cons p ps q=>
  intro g₀ g a i Q h
  rcases _:h p (by simp)with⟨E,acT,O,o,À⟩
  obtain⟨V,Q⟩:=ϊ.mp Q
  obtain⟨B,y⟩:=q (a.n! (o:=o) E O) (i.add À acT O) Q λb L=>by
   rcases _:h b (by simp[L])with⟨r,c,d,m⟩
   exact⟨r,c,by rw[G.o!,Ý (λz:b=p=>V (z▸L))];exact d,m⟩
  refine y _ λY l le N j L=>?_
  refine⟨B,.mk Y l ((G.a! O).trans le) (λb H w e=>?_) j λb H=>?_⟩
  ·rcases _:Ċ.mp H with rfl|H
   ·rw[À]at e;obtain rfl:=Ä e
    rw[L _ V,G.o!,Û rfl]
   ·exact N b H w e
  ·rw[L b λz=>H (by simp[z]),G.o!,Ý λz=>H (by simp[z])]
def oj {xs:ZB} {us:ZA} {ts:ZC} (h:aJ xs=C ts) (r:aG g xs us):aG g (ts.map .str) us:=(by obtain⟨z,q⟩:=cR h r;exact .strs q z)
def om:∀ts:È Ì,aJ (ts.map .str)=C ts:=by
 intro H;induction H with
 | nil=>
  exact rfl
 | cons t ts G=>
  exact by show(aJ (ts.map .str)).map (t :: ·)=_;rw[G];rfl
def v7 {G ts:ZC} {us:ZA} {h':ę} {V:Ó} {as:È Ü} (i:Inv g Z s) (hk:∀b o,s.heap.get? b=C o->h'.get? b=C o) (z:s.toks<=V) (rq:aG g (ts.map .str) us) (À:G.length=ts.length) (hz:∀k∈G,k.length<=Ö)
 (hl:as.length=G.length) (Y:KdxG cx.sk (G.zip us) s.heap.objs.size h' as) :
 ∃B,Tr (bt [] g s B { s with heap:=h',toks:=V }) (Inv B Z { s with heap:=h',toks:=V }) (aG B ((G.zip ts).map ae) (as.map Ż)) (B.ρ=g.ρ) (∀b,b∉as->B.I b=g.I b):=by
 have H:∀a∈as,s.heap.get? a=U:=λa L=>by
  generalize q:s.heap.get? a=zzy
  induction zzy with
  | none=>rfl
  | some o=>exact absurd (Ŀ q) (abi (Y.above a L))
 obtain⟨B,y⟩:=xF (Z:=Z) (s:={ s with heap:=h',toks:=V }) as (.keeps (t:=V) z hk:bt [] g s g _) (i.keep z hk) (Y.rise.imp λh=>Ĝ h) λa L=>by
  refine⟨H a L,(i.fresh (H a L)).2,(i.fresh (H a L)).1,?_⟩
  rcases _:Yw.mp L with⟨j,hj⟩
  rcases _:Y.pairs j a hj with⟨_,_,_,_,_,e⟩
  exact⟨_,e⟩
 refine y _ λc i' le m hr hb=>?_
 refine⟨B,.mk c i' (aG.y! (by simp only[length_map,length_map,length_zip,hl,<-À,Η]) λj v e=>?_) hr hb⟩
 rw[Ė]at e
 obtain⟨p,l,rfl⟩:=Ħ.mp e
 rcases _:Y.pairs j p l with⟨key,k,x,acT,Q,ho⟩
 obtain⟨E,d⟩:=ϯ.mp acT
 have O:j<ts.length:=À▸(î.mp E).1
 refine⟨ae (k,ts[j]),by rw[Ė,show(G.zip ts)[j]? = C (k,ts[j])from ϯ.mpr ⟨E,æ O⟩];rfl,?_⟩
 obtain⟨w,r,N⟩:=rq.get (i:=j) (x:=.str ts[j]) (by rw[Ė,æ O];rfl)
 rw[d]at r;obtain rfl:=Ä r
 obtain⟨t,rfl⟩:=dy Q
 exact rI.mk p _ [.str k t,x] rfl (m p (Ĉ l) _ ho) ⟨0,rfl⟩ (.cons (.g! _ (hz k (Ĉ E))) (.cons (N.mono le) .nil)) (by simp only[ŀ];simp)
def Co {xs:ZB} (i:Inv g Z s) (e:aw Z v=C xs) (I:VR g v a):Î cx.M A (Xz a) (mh g s Z xs) bj s:=by
 (refine aI i e I _ ?_;rintro p vs rfl H G L)
 refine collect_list H.isList ?_ (G.length▸L)
 have k:∀b o,s.heap.get? b=C o->((s.heap.push (Ŗ "list" #[] 0)).update s.heap.objs.size (Ğ (·++vs.toArray))).get? b=C o:=λb o q=>by
  rw[zh _ _ _ _ (Ĝ (Ŀ q))];exact Ñ _ q
 exact(.mk g (.keeps (t:=s.toks) (Ë _) k) (i.keep (t:=s.toks) (Ë _) k) G)
def d4 {G:ZC} {us:ZA} (H:us.length=G.length):(G.zip us).length=G.length:=by rw[length_zip,H,Η]
def vR {G:ZC} {us:ZA} {acc:ÿ Ê} (I:us.length=G.length) (hz:∀k∈G,k.length<=Ö) (h:ItemsOf (λi v=>∃k x,(G.zip us)[i]? = C (k,x)/\cx.sk.is k v=Í) acc (G.zip us).length) :
 aG g (G.map .str) acc.toList:=by
 refine aG.y! ((length_map ..).trans ((h.1.trans (d4 I)).symm.trans Č.symm)) λj v e=>?_
 obtain⟨k,x,q,hk⟩:=h.2 j v (by rw[<-Š];exact e)
 have H:=(ϯ.mp q).1
 obtain⟨t,rfl⟩:=dy hk
 exact⟨.str k,by rw[Ė,H];rfl,.g! _ (hz k (Ĉ H))⟩
def dJ {kvs:ZF} (y:∀G∈kvs,G.1.length<=Ö):∀k∈kvs.map (·.1),k.length<=Ö:=λk hk=>by
 obtain⟨G,h,rfl⟩:=ě.mp hk
 exact y G h
def Cn {kvs:ZF} (hA:A.handled=U) (i:Inv g Z s) (e:aC Z v=C kvs) (V:VR g v a):Î cx.M A (Xz a) (mh g s Z ((kvs.map (·.1)).map .str)) bj s:=by
 (refine bg i e V _ ?_;rintro q us rfl À Y H hz L)
 obtain⟨ep,I⟩:=À.dictAt
 have O:us.length=(kvs.map (·.1)).length:=by have:=Y.length;rw[length_map]at this ⊢;exact this.symm
 refine cy (kdu_collect (kdl_dict H) hA I (by rw[d4 O,length_map];exact hz) λh' E acc hk G Q=>?_)
 exact(.mk g (.keeps (t:=E) Q hk) (i.keep Q hk) (vR O (dJ L) G))
def tU {kvs:ZF} (hA:A.handled=U) (i:Inv g Z s) (e:aC Z v=C kvs) (E:VR g v a):Î cx.M A (call (.type "list") [a]) (PE g s Z (.fl (kvs.map λO=>.str O.1))) bj s:=by
 (refine bg i e E _ ?_;rintro q us rfl Y acT H hz L)
 obtain⟨ep,I⟩:=Y.dictAt
 have Q:us.length=(kvs.map (·.1)).length:=by have:=acT.length;rw[length_map]at this ⊢;exact this.symm
 refine kdl_call (kdl_dict H) hA I (by rw[d4 Q,length_map];exact hz) λh' N acc c hk V G=>?_
 refine PE.held (v:=.fl (kvs.map λO=>.str O.1)) i (af s) V hk (λB le À=>B4.mk _ _ acc.toList rfl À ⟨c,by rfl⟩ ?_ (by rw[length_map];exact hz)) N
 have:=vR (g:=B) Q (dJ L) G
 rw[ĥ]at this
 exact this
def JI {d:AV} {kvs:ZF} {ts:ZC} (hA:A.handled=U) (i:Inv g Z s) (e:aC Z d=C kvs) (h:aJ (kvs.map (·.2))=C ts) (r:VR g (.iv d) a) :
 Î cx.M A (Xz a) (mh g s Z (((kvs.map (·.1)).zip ts).map ae)) bj s:=by
 (refine r _ ?_;rintro p o q rfl j acT N c)
 refine bg i e c _ λq' us Q l À hsys hz H=>?_
 rcases Q
 obtain⟨ep,G⟩:=l.dictAt
 have I:us.length=(kvs.map (·.1)).length:=by have:=À.length;rw[length_map]at this ⊢;exact this.symm
 have V:=oj h À
 have O:(kvs.map (·.1)).length=ts.length:=by have:=V.length;rw[length_map]at this;rw[this,I]
 exact cy (kdx_collect hA ⟨o,i.sub _ _ j,acT,N⟩ G (by rw[d4 I,length_map];exact hz) λh' tk as hk L E z=>(by obtain⟨B,y⟩:=v7 i hk z V O (dJ H) (by rw[L,d4 I]) E;exact y _ λY w q J J=>(.mk B Y w q)))
def yl {d:AV} {kvs:ZF} {ts:ZC} (hA:A.handled=U) (i:Inv g Z s) (e:aC Z d=C kvs) (h:aJ (kvs.map (·.2))=C ts) (ra:VR g (.iv d) a) :
 Î cx.M A (call (.type "list") [a]) (PE g s Z (.fl (((kvs.map (·.1)).zip ts).map ae))) bj s:=by
 (refine ra _ ?_;rintro p o q rfl hi t hf rd)
 refine bg i e rd _ λq' us N hq l hsys hz À=>?_
 rcases N
 obtain⟨ep,Q⟩:=hq.dictAt
 have V:us.length=(kvs.map (·.1)).length:=by have:=l.length;rw[length_map]at this ⊢;exact this.symm
 have z:=oj h l
 have L:(kvs.map (·.1)).length=ts.length:=by have:=z.length;rw[length_map]at this;rw[this,V]
 refine kdx_call hA ⟨o,i.sub _ _ hi,t,hf⟩ Q (by rw[d4 V,length_map];exact hz) λh' tk acc c as hk r Y j H ht=>?_
 obtain⟨B,y⟩:=v7 i hk ht z L (dJ À) (by rw[Y,d4 V]) j
 refine y _ λw i' rv hr m=>?_
 have E:=af s
 have acT:s.heap.objs.size∉as:=λhm=>Ő _ (j.above _ hm)
 have O:B.I s.heap.objs.size=U:=by rw[m _ acT];exact(i.fresh E).1
 refine(.mk (B.freeze s.heap.objs.size _) (w.n! E O) (i'.add r (by rw[hr];exact(i.fresh E).2) O) ?_)
 exact B4.mk _ _ (as.map Ż) rfl (G.é _ _ _) ⟨c,by rw[<-H]⟩ (rv.mono (G.a! O)) (by simp only[length_map,length_zip,<-L,Η,length_map];exact hz)
def ym {d:AV} {kvs:ZF} (hA:A.handled=U) (i:Inv g Z s) (e:aC Z d=C kvs) (l:VR g (.vv d) a):Î cx.M A (call (.type "list") [a]) (PE g s Z (.fl (kvs.map λO=>O.2))) bj s:=by
 (refine l _ ?_;rintro p o q rfl I Y E y)
 refine bg i e y _ λq' us L N À hsys hz hkz=>?_
 rcases L
 obtain⟨ep,H⟩:=N.dictAt
 have Q:us.length=(kvs.map (·.1)).length:=by have:=À.length;rw[length_map]at this ⊢;exact this.symm
 refine kdl_call kdl_values hA ⟨⟨o,i.sub _ _ I,Y,E⟩,H⟩ (by rw[d4 Q,length_map];exact hz) λh' z acc c hk acT G=>?_
 have V:acc.toList=us:=by
  have:=kdl_vals_eq acc.toList (Č.trans G.1) λj v h=>G.2 j v (by rw[<-Š];exact h)
  rw[this];exact map_snd_zip (ó Q)
 exact PE.held (v:=.fl (kvs.map λO=>O.2)) i (af s) acT hk (λB le I=>B4.mk _ _ acc.toList rfl I ⟨c,rfl⟩ (V▸À.mono le) (by rw[length_map];exact hz)) z
def CE {l:Ó} {xs ys:ZB} (i:Inv g Z s) (Q:Z[l]? = C (.list xs)) (À:aw Z v=C ys) (hz:xs.length+ys.length<=Ö) (E:VR g (.loc l) a) (acT:VR g v b) :
 Î cx.M A (call (.builtin "list.extend") [a,b]) (PE g s (Z.set l (.list (xs++ys))) .none) bj s:=by
 obtain⟨p,rfl,I⟩:=E
 (refine i.cells _ _ _ Q I _ ?_;rintro vs ⟨k,hv⟩ q z)
 (refine aI i À acT _ ?_;rintro Y us rfl ⟨V,H⟩ L zp)
 have G:vs.length+us.length<=Ö:=by simp only[<-q.length,<-L.length];exact hz
 refine Ÿ abq ⟨_,hv,rfl⟩ F.entry_list_extend (F.args_list_extend_2 _ _) (AutoSeq1.list_extend_list_list_0 p vs.toArray k Y us.toArray V (extend_door (by simpa using G)) (by simpa using Â (ë _ _) G) (by simpa using ļ G)) ⟨hv,H,?_⟩
 have O:(s.heap.update p (Ğ λx=>x++us.toArray)).PlainList p (vs++us).toArray:=⟨_,by rw[show(vs++us).toArray=vs.toArray++us.toArray by simp];exact Ι hv λx=>x++us.toArray⟩
 exact PE.set (o:=.list (xs++ys)) (t:=s.toks) i I (.mk (vs++us) O (q.append L) (by rw[Ð];exact hz)) (Ĩ ..) .none_
def G8 {k:Ì} {vs:ZA} {ts:ZC} (h:Ů vs ts):∀(m:Ó) (G:m<vs.length),isStrOf k vs[m]=(ts.getD m Ĕ==k):=by
 induction h with
 | nil=>intro m G;exact absurd G (Ϻ _)
 | cons y t h H=>intro m G;exact match m,G with
  | 0,_=>rfl
  | m+1,G=>H m (Ζ G)
def G0 {xs:ZB} {ts:ZC} {k:Ì} (i:Inv g Z s) (Q:aw Z v=C xs) (h:aJ xs=C ts) (hk:ts.contains k=Í) (V:VR g v a) (Y:VR g (.str k) b) :
 Î cx.M A (call (.builtin "list.index") [a,b]) (PE g s Z (.int (ts.idxOf k:Ó))) bj s:=by
 (refine Y.c! _ ?_;rintro t rfl _)
 (refine aI i Q V _ ?_;rintro p vs rfl ⟨n,hv⟩ q z)
 obtain⟨_,O⟩:=cR h q
 have H:ts.idxOf k<ts.length:=Ξ (Ú.mp hk)
 have L:=O.length
 have G:=G8 (k:=k) O
 refine Ÿ abM ⟨_,hv,rfl⟩ F.entry_list_index (F.args_list_index_2 _ _) (MeetsSeq.list_index p vs.toArray n (.str k t) (isStrOf k) (λy À=>eq_isStrOf k t O y (by simpa using À)) (ts.idxOf k) (by rw[Đ,L];exact H) ?_ ?_ ?_) ⟨hv,PE.tok i (.l! _) _⟩
 ·have:ts.idxOf k<Ö:=ô H (by rw[<-L,<-q.length];exact z)
  exact ϻ (ec.mpr (ð this)) (by rw[ŀ];decide)
 ·simp only[adm,G];exact ĕ.mpr (by rw[Ĺ,æ H];exact Mo H)
 ·intro m hm I
  simp only[adm,G]
  rw[Ĺ,æ (Þ I H)]
  exact not_of_lt_findIdx (xs:=ts) (p:=(·==k)) I
def Qg {k:Į} (i:Inv g Z s) (h:k.natAbs<10 ^ 6) (G:VR g (.int k) a):Î cx.M A (call (.type "str") [a]) (PE g s Z (.str (dj k))) bj s:=by
 obtain⟨t,rfl⟩:=G.f'
 have hz:(dj k).length<=Ö:=by
  have:=len_str_of_int k
  unfold dj
  exact ec.mp (d_ this (d_ (Int.add_le_add_right (ec.mpr (ð h)) 2) (by rw[ŀ];decide)))
 exact str_of_int_fit (N:=10 ^ 6) (W5 (ϻ (by split;rw[Int.zero_sub,<-abW];exact W4;exact W4) (eh.mpr h)) Zz) Zz λJ=>PE.tok i (.g! _ hz) _
def JQ {kvs:ZF} (E:∃b o,Κ<=b/\cx.h₀.get? b=C o) (i:Inv g Z s) (e:aC Z v=C kvs) (N:VR g v a):Î cx.M A (call (.type "dict") [a]) (PE g s Z (.fd (kvs.map (·.1)) (kvs.map (·.2)))) bj s:=by
 (refine bg i e N _ ?_;rintro q us rfl acT O G hz H)
 have Y:us.length=(kvs.map (·.1)).length:=by have:=O.length;rw[length_map]at this ⊢;exact this.symm
 refine kt_call_dict G acT (by rw[d4 Y,length_map];exact hz) λh' À sb=>?_
 obtain⟨o,I,L⟩:=m_.mp À
 refine PE.held (v:=.fd (kvs.map (·.1)) (kvs.map (·.2))) i (af s) I (λb o e=>(sb.2 b (Ĝ (Ŀ e))).trans (Ñ _ e)) (λB le V=>Fv.mk _ o us rfl V L (by rw[length_map,length_map]) (O.mono le) ?_ (by rw[length_map];exact hz) (dJ H)) s.toks
 obtain⟨b,o,Q,I⟩:=E
 exact Œ (Θ (É Q (Ŀ (i.e! _ _ I))))
def vU {kvs:ZF} (i:Inv g Z s) (e:aC Z v=C kvs) (O:VR g v a):Î cx.M A (call (.builtin "len") [a]) (PE g s Z (.int kvs.length)) bj s:=by
 (refine bg i e O _ ?_;rintro q us rfl L Q G hz hkz)
 have I:us.length=(kvs.map (·.1)).length:=by have:=Q.length;rw[length_map]at this ⊢;exact this.symm
 have H:((kvs.map (·.1)).zip us).length=kvs.length:=by rw[d4 I,length_map]
 refine call_len_dict G L (by rw[H];exact gQ hz) ?_
 rw[H]
 exact PE.tok i (.l! _) _
def wq (x y:Ì):∀p∈ğ x y,p.length<=x.length:=by
 intro p G
 unfold ğ at G
 split at G
 ·rw[Ù.mp G];exact Ë _
 ·split at G
  ·rw[Ù.mp G];exact Ë _
  ·simp only[Ο,ě]at G
   obtain⟨⟨i,j⟩,_,rfl⟩:=G
   exact strSub_length_le ..
def Ip {p c:Ì} (i:Inv g Z s) (I:c.length≠0) (hz:(ğ p c).length<=Ö) (O:VR g (.str p) a) (Q:VR g (.str c) b) :
 Î cx.M A (call (.builtin "str.split") [a,b]) (PE g s Z (.fl ((ğ p c).map .str))) bj s:=by
 (refine O.c! _ ?_;rintro t rfl z)
 (refine Q.c! _ ?_;rintro u rfl _)
 have H:(c.length==0)=Ï:=by simpa using I
 have G:∀q∈ğ p c,q.length<=Ö:=λq L=>Â (wq p c q L) z
 rcases h1:(decide (p.length<c.length)||decide (ŉ p<ŉ c))
 ·rcases hf:(ϥ p c 0 p.length (p.length+1)).isEmpty
  ·have e:ğ p c=Ο p (ϥ p c 0 p.length (p.length+1)) c.length:=by unfold ğ;rw[Ý (by rw[h1];simp),Ý (by rw[hf];simp)]
   refine Ÿ Ρ (Ź _ _ _) Ϣ (XM _ _) (meets_str_split_sep p c t u h1 H hf z (by rw[<-e];exact hz)) ?_
   rw[abz]
   exact PE.texts i ((Zi _ _).trans e.symm) G hz
  ·have e:ğ p c=[p]:=by unfold ğ;rw[Ý (by rw[h1];simp),Û hf]
   exact Ÿ Ρ (Ź _ _ _) Ϣ (XM _ _) (meets_str_split_not_found p c t u h1 H hf) (PE.texts (l:=[(p,t)]) (t:=s.toks) i e.symm G hz)
 ·have e:ğ p c=[p]:=by unfold ğ;rw[Û h1]
  exact Ÿ Ρ (Ź _ _ _) Ϣ (XM _ _) (meets_str_split_cannot_occur p c t u h1) (PE.texts (l:=[(p,t)]) (t:=s.toks) i e.symm G hz)
def EU {p q:Ì} (i:Inv g Z s) (G:VR g (.str p) a) (H:VR g (.str q) b):Î cx.M A (call (.builtin "str.strip") [a,b]) (PE g s Z (.str (lr p q))) bj s:=by
 (refine G.c! _ ?_;rintro t rfl z)
 (refine H.c! _ ?_;rintro t' rfl _)
 exact SC.stripChars (λt' k=>.tok i (.g! _ (Â (len_stripChars p q) z)) _) z
def EY {kvs:ZF} (i:Inv g Z s) (e:aC Z v=C kvs) (H:VR g v a):Î cx.M A (call (.builtin "dict.values") [a]) (PE g s Z (.vv v)) bj s:=by
 (refine bg i e H _ ?_;rintro p vs rfl G rp L _ _)
 exact aaF abp G.typeIs F.entry_dict_values (F.args_dict_values_1 _) (meets_dict_values cx.sk p L) ⟨⟨_,G⟩,PE.alloc (v:=.vv v) (t:=s.toks) i rfl λB le I=>(.mk _ _ p rfl I rfl rfl (H.mono le))⟩
def mh.sort {xs ys:ZB} {t:Ϛ ZA} (S:iW xs ys) (hz:xs.length<=Ö) (h:Î cx.M A t (mh g s Z xs) bj s):Î cx.M A t (uI g s Z ys) bj s:=Ô h (λJ J q=>(.mk xs S hz q)) λJ J x=>x
def JJ {ks:ZC} (hA:A.handled=U) (i:Inv g Z s) (Q:VR g (.ws ks) a) (h:ks.length<64):Î cx.M A (Xz a) (uI g s Z ((gw ks).map .str)) bj s:=by
 (refine Q _ ?_;rintro p o rfl L G)
 have hz:∀x∈ks,x.length<=Ö:=by exact G _ λJ J J J J J J J J J J z J=>z
 refine k9 hA (i.sub _ _ L) G λvs s₁ y k=>y _ λq H O=>?_
 have I:q.length<64:=H.length_eq▸h
 exact(.mk (q.map .str) (yW H▸rj (om q) I) (by rw[length_map];exact Â (ð I) Zz) (.mk g k.stp (k.inv i) (.strs O λx G=>hz x (H.mem_iff.mp G))))
def EP {w:AV} (hA:A.handled=U) (i:Inv g Z s) (I:VR g w a) (e:l9 w Z=C (v,Z')):Î cx.M A (call (.builtin "sorted") [a]) (PX g s Z' v) bj s:=by
 refine eY e (λd O e=>aP e λkvs H e=>aP e λps G e=>aQ e λL e=>?_) λJ e=>eY e (λkvs H e=>aQ e λG e=>?_) λJ e=>eY e (λks H e=>aQ e λG e=>?_) λJ e=>aP e λxs H e=>aP e λps G e=>aQ e λL e=>?_
 ·refine bC G λts Q À=>?_
  subst À
  rw[Nw O]at I
  exact gW e (PE.x (fJ (mh.sort (kL (kJ _) (ô L Zz)) (by rw[length_map];exact Â (ð L) Zz) (JI hA i H Q I))))
 ·have G:(kvs.map (·.1)).length<64:=by rw[length_map];exact G
  exact gW e (PE.x (fJ (mh.sort (rj (om _) G) (by rw[length_map];exact Â (ð G) Zz) (Cn hA i H I))))
 ·exact gW e (PE.x (fJ (JJ hA i (wS H▸I) G)))
 ·exact gW e (PE.x (fJ (mh.sort (kL G (ô L Zz)) (by refine aI i H I _ λJ J J J J z=>?_;exact z) (Co i H I))))
def Lo {w:AV} (hA:A.handled=U) (i:Inv g Z s) (H:VR g w a) (e:Nx w Z=C (v,Z')):Î cx.M A (call (.type "list") [a]) (PX g s Z' v) bj s:=by
 refine eY e (λd I e=>aP e λkvs G e=>bC e λps L e=>?_) λJ e=>eY e (λd I e=>bC e λkvs G e=>?_) λJ e=>bC e λkvs G e=>?_
 ·refine bC L λts O Q=>?_
  subst Q
  rw[Nw I]at H
  exact gW (Õ C e) (PE.x (yl hA i G O H))
 ·rw[Ti I]at H
  exact gW (Õ C e) (PE.x (ym hA i G H))
 ·exact gW (Õ C e) (PE.x (tU hA i G H))
end
def gb:bT XW "dict.update.loop" = C ř.«dict.update.loop»:=Ϲ (by kernel_rfl)
def gv:acB "dict.update.loop" = Í:=by decide +kernel
def Lz:ύ (.type "list") "keys" = pure U:=am_miss_of_fast (by decide +kernel)
section
variable {n:Ó} {g B:G} {Z Z':aa} {s H:Ç} {A:Ā} {v:AV} {u a b:Ê} {x:Ì} {E:Ê->Ç->Prop}
def Ei {p:Ü} {xs:ÿ Ê} {k:Ó} {Q:Æ Ê->Ç->Prop} (hA:A.handled=U) (L:s.heap.get? p=C { cls:=.type "list",data:=.seq xs k })
 (h:∀h' O,(∀b o,s.heap.get? b=C o->h'.get? b=C o)->Q U { s with heap:=h',toks:=O }):Î cx.M A (getAttr? (.ref p) "keys") Q E s:=by
 obtain⟨À,gs,d,O,os⟩:=s
 have I:∀D,(⟨À,gs,d,D,os⟩:Ç).TypeIs (.ref p) "list":=λJ=>⟨_,L,rfl⟩
 have f1:=sub_AttributeError
 have f3:=F.slot_list_getattribute.lookup
 have f4:=F.slot_list_getattribute.bind (.ref p)
 have f5:=am_list_getattr_none
 unfold getAttr? getAttrBy? getAttrBy
 repeat (any_goals (first|assumption|exact I _|((with_reducible show Î _ _ (call (Value.builtin "list.__getattribute__") _ _) _ _ _);refine Ÿ F.slot_list_getattribute (I _) am_entry_list_getattribute (YO _ _) (meets_getattribute_miss_list p xs k _ "keys" _ Lz Zz Zz) ⟨L,hA,λh' D e G=>?_⟩)|wp_step))
 obtain⟨t',u',he⟩:=G.there
 show Î _ _ (aci _ _ _ _ _ _ _) _ _ _
 unfold aci
 repeat (any_goals (first|assumption|wp_step))
 exact h h' D G.of.keeps
def dO (ps:ZE):È (Ì×AV):=ps.foldl (λa p=>aF p.1 (.str p.2) a) []
def EW (ps:ZE) (p:Ì×Ì):dO (ps++[p])=aF p.1 (.str p.2) (dO ps):=by unfold dO;rw[X_];rfl
def wF:∀ps:È (Ì×Ì),(dO ps).length<=ps.length:=by
 have key:∀(ps:ZE) (a:ZF),(ps.foldl (λa p=>aF p.1 (.str p.2) a) a).length<=a.length+ps.length:=by
  intro ps
  induction ps with
  | nil=>exact λa=>Ë _
  | cons p ps D=>exact λa=>Â (D _) (Â (Ò (bL _ _) _) (ó (YM _ _)))
 exact λps=>Â (key ps []) (ó (ė _))
def uN (L:Prop) (g:G) (D p I:Ü) (us:ZA) (kvs:ZF) (i:Ó) (h:ę):Prop:=∀(vs:ZA) (hd:h.DictOf cx.sk D ((kvs.map (·.1)).zip vs)) (r:aG g (kvs.map (·.2)) vs) (y:∀O∈kvs,O.1.length<=Ö) (it:h.IsListIter I p i) (hl:h.IsList p us.toArray),L
def xb:=λg D p I us kvs i h=>∀L,uN L g D p I us kvs i h->L
def xb.mk:uN (xb g D p I us kvs i h) g D p I us kvs i h:=λvs L r y it O J G=>G vs L r y it O
def yF {ps:ZE} {us:ZA} {D p I:Ü} {R:ky->Ç->Prop} (hA:A.handled=U) (r:aG g (ps.map ae) us) (x0:ps.length<=15) (h1:D≠p) (h2:I≠p) (h3:D≠I) (c:g.I D=U) (d:g.I I=U):∀(k i:Ó) (s:Ç),ps.length - i=k->i<=ps.length->(∀b o,g.I b=C o->s.heap.get? b=C o)->xb g D p I us (dO (ps.take i)) i s.heap->
 (∀h' tk vs,(∀b o,b≠D->b≠I->s.heap.get? b=C o->h'.get? b=C o)->h'.DictOf cx.sk D (((dO ps).map (·.1)).zip vs)->aG g ((dO ps).map (·.2)) vs->(∀kv∈dO ps,kv.1.length<=Ö)->R (.ok (.ret .none)) { s with heap:=h',toks:=tk })->
 Ž cx.M A (.builtin "dict.update.loop" ⟨[.ref D,.ref I,ŏ i,.none],[]⟩) R s:=by
 intro k
 induction k with
 | zero=>
  intro i s hk hi hI yy;refine yy _ λvs j t y it l hR=>?_
  obtain rfl:i=ps.length:=ţ hi (Ų hk)
  rw[Xe]at j t y
  refine ģ gb ?_
  refine Á (aba hA it l (by rw[Ŷ,ϩ,<-r.length,length_map];exact Ë _) λh' hx=>?_)
  exact Á (m:=adv D []) (Å (Å (hR h' s.toks vs (λb o J nI q=>hx b o nI q) ((by obtain⟨o,es,ep,V,q⟩:=j;exact⟨o,es,ep,hx D o h3 V,q⟩)) t y)))
 | succ k ih=>
  intro i s hk hi hI yy;refine yy _ λvs j t y it l hR=>?_
  have À:i<ps.length:=XG (by rw[hk];exact ŵ _)
  rcases _:r.get (i:=i) (x:=ae ps[i]) (by rw[Ė,æ À];rfl)with⟨u,hu,ru⟩
  refine ģ gb ?_
  refine Á (aaL it l (x:=u) (by rw[Ŷ];exact hu) λh₁ x2 w=>?_)
  have L:∀b o,g.I b=C o->h₁.get? b=C o:=λb o q=>(w.2 b λz=>by rw[z,d]at q;cases q).trans (hI b o q)
  (refine ru _ ?_;rintro a o ws rfl Q ⟨m,rfl⟩ q _)
  have hT:ϫ { s with heap:=h₁ } (.ref a) "tuple":=⟨_,L _ _ Q,rfl⟩
  obtain⟨u1,r1,rfl,q1,q⟩:=q.b!
  obtain⟨u2,r2,rfl,q2,q⟩:=q.b!
  rw[q.d!]at Q
  (refine q1 _ ?_;rintro t1 rfl z1)
  have acT:dO (ps.take (i+1))=aF ps[i].1 (.str ps[i].2) (dO (ps.take i)):=by rw[ty,æ À];exact EW _ _
  have Y:(((dO (ps.take i)).map (·.1)).zip vs).length<=Ö:=by
   rw[length_zip,length_map]
   exact Â (abF _ _) (Â (wF _) (Â (by rw[W_];exact f_ _ _) (Â x0 (by rw[ŀ];decide))))
  have oJ:h₁.DictOf cx.sk D (((dO (ps.take i)).map (·.1)).zip vs):=(by obtain⟨o,es,ep,V,q⟩:=j;exact⟨o,es,ep,(w.2 D h3).trans V,q⟩)
  refine Á (ä (Á (wpAny_tryCatch ?_)))
  refine Á (Τ hT ?_)
  refine Á (j3 (L _ _ Q) rfl (Å ?_))
  refine ä (abQ (s:={ s with heap:=h₁ }) (hsz:=Y) (ů _ _ _ t1) oJ λh₂ O G=>?_)
  obtain⟨x3,e3,N⟩:=kM (k:=ps[i].1) t q2
  rw[e3]at O
  rw[<-acT]at O N
  have x1:∀b o,g.I b=C o->h₂.get? b=C o:=λb o q=>(G.2 b λz=>by rw[z,c]at q;cases q).trans (L b o q)
  refine Å ⟨plainId_quiet gv _,?_⟩
  rw[show(ŏ ((i:Į)+1))=ŏ ((i+1:Ó):Į)from rfl]
  refine ih (i+1) { s with heap:=h₂,toks:=s.toks+1 } (by rw[XH,hk];rfl) À x1 (.mk x3 O N (by rw[acT];exact gx y z1) (by obtain⟨o,V,q⟩:=x2;exact⟨o,(G.2 I h3.symm).trans V,q⟩) (by obtain⟨o,V,q⟩:=l;exact⟨o,(G.2 p h1.symm).trans ((w.2 p h2.symm).trans V),q⟩)) λh' tk vs kp d' r' y'=>hR h' tk vs (λb o c d q=>kp b o c d ((G.2 b c).trans ((w.2 b d).trans q))) d' r' y'
def oV {xs:ZB} {ps:ZE} (hA:A.handled=U) (i:Inv g Z s) (e:aw Z v=C xs) (h:gt xs=C ps) (V:ps.length<=15) (ra:VR g v a) :
 Î cx.M A (call (.type "dict") [a]) (PX g s Z (.fd ((dO ps).map (·.1)) ((dO ps).map (·.2)))) bj s:=by
 (refine aI i e ra _ ?_;rintro p us rfl ⟨k,d⟩ r z)
 rw[qW h]at r
 have y:=Ŀ d
 have N:=af s
 refine cy (callType_codes (Q₁:=λacT s₁=>acT = .ref s.heap.objs.size/\s₁={ s with heap:=s.heap.push { cls:=.type "dict",data:=.dict #[] } }) F.kt_called_dict (F.kt_typeCall_dict_1 _) F.entry_dict_init (kt_code_dict_new _ ⟨rfl,rfl⟩) ?_)
 rintro acT s₁ ⟨rfl,rfl⟩
 have I:(s.heap.push { cls:=.type "dict",data:=.dict #[] }).DictOf cx.sk s.heap.objs.size []:=DictOf.new s.heap
 have L:(s.heap.push { cls:=.type "dict",data:=.dict #[] }).get? p=C { cls:=.type "list",data:=.seq us.toArray k }:=Ñ _ d
 refine⟨I.typeIs,F.args_dict_init_2 _ _,?_⟩
 unfold ř.«dict.__init__»
 refine Á ?_
 unfold adw
 refine Á (aaZ I.typeIs ?_)
 show Î _ _ (pure (s.heap.objs.size,[Ż p])) _ _ _
 refine Å ?_
 show Î _ _ (XJ "dict.__init__" s.heap.objs.size (.ref p) [] .none) _ _ _
 unfold XJ
 refine Á (Τ ⟨_,L,rfl⟩ ?_)
 refine Á (Ei (by simpa using hA) L λh₂ tk w=>?_)
 rw[Û (by rfl)]
 refine Á (Ŝ ?_)
 have O:=w _ _ L
 have Y:h₂.get? s.heap.objs.size=C { cls:=.type "dict",data:=.dict #[] }:=w _ _ (ê _ rfl)
 refine Á (Ϩ (s:={ s with heap:=h₂,toks:=tk }) ⟨_,O,rfl,k,rfl⟩ ?_)
 have k0:∀b o,s.heap.get? b=C o->h₂.get? b=C o:=λb o e=>w b o (Ñ _ e)
 have À:h₂.get? h₂.objs.size=U:=af { s with heap:=h₂ }
 have sI:s.heap.get? h₂.objs.size=U:=by
  cases q:s.heap.get? h₂.objs.size with
  | none=>rfl
  | some o=>rw[k0 _ _ q]at À;cases À
 have c:=i.fresh N
 have t:=i.fresh sI
 have ne:s.heap.objs.size≠h₂.objs.size:=λz=>by rw[<-z,Y]at À;cases À
 refine Å ⟨plainId_quiet gv _,yF (A:=A.in1) (us:=us) (p:=p) (D:=s.heap.objs.size) (by simpa using hA) r V (Θ y) (λz=>by rw[z,O]at À;cases À) ne c.1 t.1 ps.length 0 _ (XI _) (ï _) (λb o q=>Ñ _ (k0 b o (i.sub b o q)))
  (.mk [] ⟨_,#[],0,Ñ _ Y,⟨rfl,rfl,rfl⟩,rfl,λJ he=>by simp at he,.nil,WU⟩ .nil (λJ h=>nomatch h) ⟨_,ê _ rfl,rfl,rfl⟩ ⟨_,Ñ _ O,rfl,k,rfl⟩) λh' tk' vs kq j r' y'=>⟨rfl,λm=>?_⟩⟩
 obtain⟨o,ho,l⟩:=m_.mp j
 have lh:(dO ps).length<=Ö:=Â (wF ps) (Â V (by rw[ŀ];decide))
 have hk:∀b o,s.heap.get? b=C o->h'.get? b=C o:=λb o q=>kq b o (λz=>by rw[z,N]at q;cases q) (λz=>by rw[z,sI]at q;cases q) (Ñ _ (k0 b o q))
 have hm:(s.heap.objs.size==Κ)=Ï:=t9 ⟨g,Z,s,i⟩
 exact(.mk _ (.freeze i m N hk) (i.freeze m N ho hk) (Fv.mk _ o vs rfl (G.é _ _ _) l (by rw[length_map,length_map]) (r'.mono (G.a! c.1)) hm (by rw[length_map];exact lh) (dJ y')))
def EH {ks:ZC} (hA:A.handled=U) (i:Inv g Z s) (h2:ks.length<=2) (ra:VR g (.ws ks) a):Î cx.M A (call (.type "set") [a]) (PX g s Z (.ws ks)) bj s:=by
 (refine ra _ ?_;rintro p o rfl hi hx)
 have d:=i.sub _ _ hi
 have z:=Ŀ d
 have ne:s.heap.objs.size≠p:=Θ z
 refine mA λA' led hA' D=>?_
 have G:(s.heap.push (aU led)).get? p=C o:=Ñ _ d
 have O:(s.heap.push (aU led)).get? s.heap.objs.size=C (aU led):=ê _ rfl
 have hx0:=hx
 refine hx _ λes ep t hex c N À r j l y hz Y=>?_
 have w:es.size<=2:=l▸h2
 have hT:ϫ { s with heap:=s.heap.push (aU led) } (.ref p) "set":=⟨_,G,hex.1⟩
 unfold Ω
 refine Á (m:=π (.ref p)) ?_
 unfold π
 refine Á (Ŕ hT dY (Å ?_))
 rw[Û rfl]
 refine Á (m:=WM (.ref p)) (Å ?_)
 unfold abk
 refine Á (Á (ŗ G c j (Å ?_)))
 unfold setMerge
 rw[Ý (by rw[ĕ];exact ne)]
 refine Á (ŗ G c j ?_)
 dsimp only
 have k1:Kept s { s with heap:=s.heap.push (aU led) }:=Kept.push _
 by_cases he:es.isEmpty=Í
 ·rw[Û he]
  have e0:ks=[]:=Ō.mp (l▸Array.isEmpty_iff_size_eq_zero.mp he)
  exact Å ⟨e0▸jK i k1 (ba.new O D),⟨_,O,rfl⟩⟩
 ·rw[Ý he]
  have Q:(Ņ 0 0 led).fits (#[]:ÿ (Į×Ê)).size=Í:=rfl
  refine Á ?_
  unfold setRoomFor
  refine Á (ŗ O rfl Q ?_)
  have L:(Ņ 0 0 led).roomFor es.size=U:=by
   show(if(0+es.size) * 5≥7 * 3 then _ else U)=U
   rw[Ý (by lia)]
  dsimp only
  rw[L]
  refine Å ?_
  refine Á (ŗ O rfl Q ?_)
  dsimp only
  obtain⟨t1,t2⟩:=Y.few w
  have I:(Ņ 0 0 led).road t = .slotForSlot:=by
   show(if(0:Ó) !=0 then _ else if(7==t.mask&&t.dummies.isEmpty)=Í then _ else _)=_
   rw[t1,t2];rfl
  rw[I]
  dsimp only
  refine Yo O rfl ?_ (i_ r)
  obtain⟨_,acT⟩:=oz (es':=es) (t':={ t with finger:=(Ņ 0 0 led).finger,led:=(Ņ 0 0 led).led&&t.led,moves:=(Ņ 0 0 led).moves,plain:=(Ņ 0 0 led).plain&&t.plain }) (kk:=ks) O ⟨rfl,rfl,rfl⟩ rfl N À r j l y hz
   ⟨λq=>by show(led&&t.led)=Í;rw[D q,Y.led q];rfl,λq=>by show(Í&&t.plain)=Ï;rw[Y.plain q];rfl,λq=>Y.zero q,λq=>Y.few q⟩
  have sb:=Ĩ (s.heap.push (aU led)) s.heap.objs.size (hG es { t with finger:=(Ņ 0 0 led).finger,led:=(Ņ 0 0 led).led&&t.led,moves:=(Ņ 0 0 led).moves,plain:=(Ņ 0 0 led).plain&&t.plain })
  have k2:Kept s { s with heap:=(s.heap.push (aU led)).update s.heap.objs.size (hG es { t with finger:=(Ņ 0 0 led).finger,led:=(Ņ 0 0 led).led&&t.led,moves:=(Ņ 0 0 led).moves,plain:=(Ņ 0 0 led).plain&&t.plain }) }:=
   ⟨λb o q=>(sb.2 b (Ĝ (Ŀ q))).trans (Ñ _ q),Ë _,rfl,rfl⟩
  refine acT _ λo' V x'=>?_
  exact⟨jK i k2 (.mk o' V x'),⟨o',V,x'.obj.1.1⟩⟩
end
section
variable {n:Ó} {g:G} {Z:aa} {s:Ç} {A:Ā} {x:AV} {u:Ê} {xs:ZB} {us:ZA} {B:Type} {a:B} {P:Prop} {Q:È Ê->Prop} {p:AV×aa}
def lw {f:AV×AV->Æ B} (R:aG g xs us) (h:(two xs).bind f=C a) (k:∀x y u w,VR g x u->VR g y w->f (x,y)=C a->Q [u,w]):Q us:=by
 rcases xs with _|⟨x,_|⟨y,_|⟨z,r⟩⟩⟩
 ·exact aD h
 ·exact aD h
 ·exact R.e2 λu w r q=>k x y u w r q h
 ·exact aD h
def BM {f:AV×AV×AV->Æ B} (R:aG g xs us) (h:(IJ xs).bind f=C a) (k:∀x y z u w t,VR g x u->VR g y w->VR g z t->f (x,y,z)=C a->Q [u,w,t]):Q us:=by
 rcases xs with _|⟨x,_|⟨y,_|⟨z,_|⟨z',r⟩⟩⟩⟩
 ·exact aD h
 ·exact aD h
 ·exact aD h
 ·exact R.e3 λu w t r q D=>k x y z u w t r q D h
 ·exact aD h
def Sl {D G:Type} {o:Æ G} {f:G->Æ D} {y:Æ D} {b:D} {P:Prop} (h:cH o f y=C b) (k:o.bind f=C b->P) (l:y=C b->P):P:=eY h (λa H I=>k (H▸I)) λJ h=>l h
def R8 {m:Ó} (i:Inv g Z s) (r:VR g x u) (h:Ll x Z=C m):Î cx.M A (call (.builtin "len") [u]) (PE g s Z (.int m)) bj s:=
 eY h (λy D h=>by rw[fL D]at r;obtain rfl:=Ä h;exact yj i r) λJ h=>by
  unfold abZ at h
  cases q:aw Z x with
  | some ys=>rw[q]at h;obtain rfl:=Ä h;exact vV i q r
  | none=>rw[q]at h;exact bC h λkvs D e=>e▸vU i D r
def LU (i:Inv g Z s) (R:aG g xs us) (h:((SD xs).bind λq=>(intV q.1).bind λa=>(intV q.2).map λb=>(AV.rng a b,Z))=C p):Î cx.M A (call (.type "range") us) (PX g s p.2 p.1) bj s:=by
 refine aP h λq D h=>aP h λa G h=>bC h λb H e=>?_
 obtain⟨q1,q2⟩:=q
 rcases xs with _|⟨y,_|⟨z,_|⟨_,_⟩⟩⟩
 ·exact aD D
 ·obtain⟨rfl,rfl⟩:=ŋ (Ä D)
  obtain rfl:(0:Į)=a:=Ä G
  rw[show y = .int b from nz H]at R
  exact gW (Õ C e) (R.e1 (Q:=λus=>Î cx.M A (call (.type "range") us) _ _ _) λu r=>PE.x (Ez i r))
 ·obtain⟨rfl,rfl⟩:=ŋ (Ä D)
  rw[show y = .int a from nz G,show z = .int b from nz H]at R
  exact gW (Õ C e) (R.e2 (Q:=λus=>Î cx.M A (call (.type "range") us) _ _ _) λu w r q=>PE.x (EA i r q))
 ·exact aD D
def Ox (L:A.handled=U) (i:Inv g Z s) (r:VR g x u) {kvs:ZF} (h:dictOf x Z=C kvs):Î cx.M A (call (.type "dict") [u]) (PX g s Z (.fd (kvs.map (·.1)) (kvs.map (·.2)))) bj s:=
 eY h (λks D h=>aQ h λJ h=>by obtain rfl:=Ä h;exact PE.x (JQ i.H.gl.mods i D r)) λJ h=>aP h λys D h=>aP h λps G h=>aQ h λI h=>by
  obtain rfl:=Ä h;exact oV L i D G I r
def Rz (n:Ó):wW n:=λ{b args Z p} e A g s us hA i R=>by
 have L:=hA.handled
 clear hA
 exact match b,e with
 | .lAppend,e=>lw (Q:=λus=>Î cx.M A (call (.builtin "list.append") us) _ _ _) R e λx y u w r q e=>qN r e λl r e=>aP e λxs H e=>aQ e λhz e=>gW e (PE.x (B8 i (list_eq H) hz r q))
 | .lPop,e=>eX (Q:=λus=>Î cx.M A (call (.builtin "list.pop") us) _ _ _) R e λx u r e=>qN r e λl r e=>aP e λxs H e=>bC e λq Y e=>gW (Õ C e) (PE.x (PK i (list_eq H) Y r))
 | .lExtend,e=>lw (Q:=λus=>Î cx.M A (call (.builtin "list.extend") us) _ _ _) R e λx y u w r q e=>qN r e λl r e=>aP e λxs H e=>aP e λys N e=>aQ e λhz e=>gW e (PE.x (CE i (list_eq H) N hz r q))
 | .lIndex,e=>lw (Q:=λus=>Î cx.M A (call (.builtin "list.index") us) _ _ _) R e λx y u w r q e=>fS q e λk q e=>aP e λxs H e=>aP e λts acT e=>aQ e λG e=>gW e (PE.x (G0 i H acT G r q))
 | .lSort,e=>eX (Q:=λus=>Î cx.M A (call (.builtin "list.sort") us) _ _ _) R e λx u r e=>qN r e λl r e=>aP e λxs H e=>aP e λps Y e=>aQ e λhz e=>gW e (PE.x (HC (kL Y hz) i (list_eq H) r))
 | .sJoin,e=>lw (Q:=λus=>Î cx.M A (call (.builtin "str.join") us) _ _ _) R e λx y u w r q e=>fS r e λc r e=>aP e λxs D e=>aP e λts O e=>aQ e λhz e=>gW e (PE.x (Lf i D O hz r q))
 | .sSplit,e=>Sl e (λe=>lw (Q:=λus=>Î cx.M A (call (.builtin "str.split") us) _ _ _) R e λx y u w r q e=>fS r e λc r e=>fS q e λd q e=>aQ e λG e=>gW e (PE.x (Ip i G.1 G.2 r q)))
  λe=>BM (Q:=λus=>Î cx.M A (call (.builtin "str.split") us) _ _ _) R e λx y z u w t r q I e=>fS r e λc r e=>fS q e λd q e=>G2 I e λk I e=>aQ e λG e=>gW e (PE.x (lj i G.1 (G.2.1▸by decide) G.2.2 r q I))
 | .sRsplit,e=>BM (Q:=λus=>Î cx.M A (call (.builtin "str.rsplit") us) _ _ _) R e λx y z u w t r q I e=>fS r e λc r e=>fS q e λd q e=>G2 I e λk I e=>aQ e λG e=>gW e (PE.x (EE i G.1 G.2.1 G.2.2 r q I))
 | .sStrip,e=>Sl e (λe=>eX (Q:=λus=>Î cx.M A (call (.builtin "str.strip") us) _ _ _) R e λx u r e=>bC e λc À e=>gW (Õ C e) (PE.x (Iy i (fL À▸r))))
  λe=>lw (Q:=λus=>Î cx.M A (call (.builtin "str.strip") us) _ _ _) R e λx y u w r q e=>fS r e λc r e=>bC e λd V e=>gW (Õ C e) (PE.x (EU i r (fL V▸q)))
 | .dItems,e=>eX (Q:=λus=>Î cx.M A (call (.builtin "dict.items") us) _ _ _) R e λx u r e=>bC e λkvs D e=>gW (Õ C e) (PE.x (Hc i D r))
 | .dValues,e=>eX (Q:=λus=>Î cx.M A (call (.builtin "dict.values") us) _ _ _) R e λx u r e=>bC e λkvs D e=>gW (Õ C e) (PE.x (EY i D r))
 | .dGet,e=>lw (Q:=λus=>Î cx.M A (call (.builtin "dict.get") us) _ _ _) R e λx y u w r q e=>fS q e λk q e=>bC e λkvs D e=>gW (Õ C e) (PE.x (OT i D r q))
 | .eAdd,e=>lw (Q:=λus=>Î cx.M A (call (.builtin "set.add") us) _ _ _) R e λx y u w r q e=>qN r e λl r e=>fS q e λk q e=>aP e λxs H e=>aQ e λhz e=>gW e (PE.x (N6 i (Ib H) hz r q))
 | .inter,e=>aD e
 | .rev,e=>aD e
 | .str,e=>eX (Q:=λus=>Î cx.M A (call (.type "str") us) _ _ _) R e λx u r e=>G2 r e λk r e=>aQ e λhz e=>gW e (PE.x (Qg i hz r))
 | .dict,e=>eX (Q:=λus=>Î cx.M A (call (.type "dict") us) _ _ _) R e λx u r e=>bC e λkvs E e=>gW (Õ C e) (Ox L i r E)
 | .len,e=>eX (Q:=λus=>Î cx.M A (call (.builtin "len") us) _ _ _) R e λx u r e=>bC e λn D e=>gW (Õ C e) (PE.x (R8 i r D))
 | .sum,e=>eX (Q:=λus=>Î cx.M A (call (.builtin "sum") us) _ _ _) R e λx u r e=>aP e λxs D e=>bC e λis O e=>gW (Õ C e) (Qi L i D O r)
 | .range,e=>LU i R e
 | .list,e=>eX (Q:=λus=>Î cx.M A (call (.type "list") us) _ _ _) R e λx u r e=>Lo (v:=p.1) (Z':=p.2) L i r e
 | .sorted,e=>eX (Q:=λus=>Î cx.M A (call (.builtin "sorted") us) _ _ _) R e λx u r e=>EP (v:=p.1) (Z':=p.2) L i r e
 | .set,e=>VD e (λhz e=>by
  obtain rfl:=Ġ.mp hz
  rw[R.d!]
  exact gW e (PE.x (L4 i))) λJ e=>eX (Q:=λus=>Î cx.M A (call (.type "set") us) _ _ _) R e λx u r e=>eY e (λks À e=>aQ e λV e=>by
   rw[wS À]at r e
   exact gW e (EH L i V r)) λJ e=>aP e λxs D e=>aP e λts O e=>aQ e λhz e=>gW e (wn L i D O hz r)
end
def Sg (A:Ā) (Φ:End->Ç->Prop) (c:Code) (t:Ϛ Ē) (fs:È YG) (s:Ç):Prop:=∀D p,D.code=c->D.Woken A->∃e G,Runs cx.M D p t fs s e G/\Φ e G
section
variable {A:Ā} {Φ:End->Ç->Prop} {c:Code} {fs:È YG} {s:Ç}
def cz {L:Type} {m:Ϛ L} {K:L->Ϛ Ē} {H:Ê->Ϛ Ē} {gd lv} (h:Î cx.M (A.over c fs) m (λa G=>Sg A Φ c (K a) fs G) (λx G=>Sg A Φ c (H x) fs G) s):Sg A Φ c (m.wrap K H gd lv) fs s:=by
 rintro I p rfl D
 exact runs_wrap_of_wp K H gd lv m (h (I.over fs) p (D.over fs)) (λa p' G h'=>h' I p' rfl D) (λx p' G h'=>h' I p' rfl D)
def bP {G:Type} {m:Ϛ G} {K:G->Ϛ Ē} (h:Î cx.M (A.over c fs) m (λa D=>Sg A Φ c (K a) fs D) (λx D=>Sg A Φ c (.raise x) fs D) s):Sg A Φ c (m >>= K) fs s:=by
 rw[Ľ];exact cz h
def q9 {p':ϗ} {k:ab->Ϛ Ē} (h:Sg A Φ c (k ()) fs s):Sg A Φ c (.at p' k) fs s:=cz (m:=ϧ p') (K:=k) (H:=.raise) (gd:=id) (lv:=id) (ī h)
def Ig {l:ZA} {k:ab->Ϛ Ē} (h:Sg A Φ c (k ()) fs s):Sg A Φ c (.point l k) fs s:=cz (m:=point) (K:=k) (H:=.raise) (gd:=id) (lv:=λJ=>l) (wpAny_point h)
def By {c':Code} {h g l} {k:ky->Ϛ Ē} (G:∀p,Sg A Φ c' (cx.M.den c') (.ret k h g l c p []::fs) s):Sg A Φ c (.call c' h g l k) fs s:=by
 rintro Q p rfl D
 obtain⟨e,O,L,I⟩:=G p (Q.goto c') p rfl (D.goto c')
 exact⟨e,O,runs_call_seg L,I⟩
def Bz {k h g l c₁ p1 kp} (r:ky) (hk:Sg A Φ c₁ (k r) fs s):Sg A Φ c (ack r) (.ret k h g l c₁ p1 kp::fs) s:=by
 rintro O p rfl D
 obtain⟨e,L,I,G⟩:=hk (O.goto c₁) p1 rfl (D.goto c₁)
 exact⟨e,L,Runs.pop r I,G⟩
def jz {c':Code} (L:c'.quiet=Í) (G:Sg A Φ c' (cx.M.den c') fs s):Sg A Φ c (.pure (.again c')) fs s:=by
 rintro À p rfl D
 obtain⟨e,Q,O,I⟩:=G (À.goto c') p rfl (D.goto c')
 exact⟨e,Q,Runs.head (c₁:=c') (λJ J x=>.again L x) O,I⟩
def P5 (r:ky) (h:Φ (.ret r) s):Sg A Φ c (ack r) [] s:=by
 rintro Γ p rfl _
 exact⟨.ret r,s,Runs.leaf r,h⟩
def Ih {v l} {k:aaz->Ϛ Ē} (D:splitAtGen fs=U) (h:∀p,Φ (.susp v Ï l k c p fs) s):Sg A Φ c (.yield v Ï l k) fs s:=by
 rintro Γ p rfl _
 exact⟨_,s,Runs.yield' fs D,h p⟩
def dZ {env:ϙ} {K:P_->Ϛ Ē} {H:Ê->Ϛ Ē} {gd:ì->ì} {lv:È Ê->È Ê} {st:ϳ} {D:È ϳ} (h:Sg A Φ c ((ZQ st env).wrap (λf=>match f with | .next=>(h8 D env).wrap K H gd lv|f=>K f) H gd lv) fs s):Sg A Φ c ((h8 (st::D) env).wrap K H gd lv) fs s:=by rw[execs_cons_wrap];exact h
def L6 {body:È ϳ} {env:ϙ} (h:Sg A Φ (.func body env) ((h8 body env).wrap (λf=>.pure (.done (.ret (match f with | .ret v=>v|_=>.none)))) (λe=>(Yj env e).wrap (λJ=>.raise e) .raise id id) id id) fs s):Sg A Φ (.func body env) (cx.M.den (.func body env)) fs s:=by
 show Sg A Φ _ (.point [] λJ=>((h8 body env).onRaise (Yj env)) >>= _) fs s
 refine Ig ?_
 rw[aag,Ľ,Ţ]
 rw[acf (h8 body env) _ _ (K':=λf=>.pure (.done (.ret (match f with | .ret v=>v|_=>.none)))) (H':=λe=>(Yj env e).wrap (λJ=>.raise e) .raise id id) (λf=>by cases f<;>rfl) (λe=>by rw[abu,Ţ];rfl)]
 exact h
def rK (A:Ā) (Φ:End->Ç->Prop) (gs:Ν) (s:Ç):Prop:=match gs with
 | .fresh c=>Sg A Φ c (cx.M.den c) [] s
 | .suspended k _ c _ fs _=>Sg A Φ c (k (.send .none)) fs s
 | _=>False
def pj {E:Ê->Ç->Prop} {g:Ó} {gs:Ν} {l:ZA} {acT:Type} {k:GenResult->Ϛ acT} {Q:acT->Ç->Prop} (V:s.gens[g]? = C gs) (D:rK A Φ gs (s.setGen g .running)) (Y:∀e N,Φ e N->e.quiet=Í)
 (h:∀e s₁,Φ e s₁->Î cx.M A (k e.result) Q E (s₁.setGen g e.genState)):Î cx.M A (.resume g (.send .none) l k) Q E s:=by
 intro L p G
 have À:∀c,(L.wake c p).Woken A:=λc=>G.wake c p
 cases gs with
 | fresh c=>
  obtain⟨e₁,s₁,O,I⟩:=D (L.wake c p) p rfl (À c)
  exact⟨_,_,by unfold Wakes;rw[V];exact⟨e₁,s₁,O,Y e₁ s₁ I,rfl,rfl⟩,h e₁ s₁ I L p G⟩
 | suspended k0 l0 c₀ p0 fs0 cl=>
  obtain⟨e₁,s₁,O,I⟩:=D (L.wake c₀ p) p0 rfl (À c₀)
  exact⟨_,_,by unfold Wakes;rw[V];exact⟨e₁,s₁,O,Y e₁ s₁ I,rfl,rfl⟩,h e₁ s₁ I L p G⟩
 | running=>exact D.elim
 | finished=>exact D.elim
def vy {E:Ê->Ç->Prop} {a:Ü} {g:Ó} {gs:Ν} {Φ:End->Ç->Prop} {Q:Æ Ê->Ç->Prop} (À:A.handled=U) (acT:s.heap.NoLimit) (G:A.depth<ϕ)
 (L:s.heap.IsGen a g) (I:s.gens[g]? = C gs) (D:rK A.in1 Φ gs (s.setGen g .running)) (j:∀e q,Φ e q->e.quiet=Í)
 (V:∀v gd l k c p fs s₁,Φ (.susp v gd l k c p fs) s₁->Q (C v) (s₁.setGen g (End.susp v gd l k c p fs).genState))
 (hP:∀r s₁,Φ (.ret r) s₁->r = .ok (.ret .none)/\∀h',(∀b o,s₁.heap.get? b=C o->h'.get? b=C o)->Q U { s₁.setGen g .finished with heap:=h' }):Î cx.M A (Xo (.ref a)) Q E s:=by
 unfold Xo
 refine Á (S_ (ϖ (name:=Ć "__next__") L.typeIs aen (Ş aen L.typeIs entry_gen_next ?_ (args_gen_next _))))
 show Î _ A.in1 (WG (.ref a) (.send .none)) _ _ s
 unfold WG
 refine Á (ä (wpAny_genNumber L (Á (wpAny_genState I ?_))))
 cases gs with
 | running=>exact D.elim
 | finished=>exact D.elim
 | _=>
  refine Á (wpAny_roomToWake acT G ?_)
  show Î _ A.in1 (.resume g (.send .none) [] _) _ _ s
  refine pj I D j λe s₁ O=>?_
  cases e with
  | ret r=>
   obtain⟨rfl,N⟩:=hP r s₁ O
   show Î _ A.in1 (Zh (.type "StopIteration") [] >>= _) _ _ _
   refine Á ?_
   simp only[Zh,newTuple]
   refine Á (į ?_ (by size_fits))
   refine Á (m:=h_ _ _) (ś (a:=Ă) (by first|rfl|(simp only[h_];rfl)) ?_)
   refine į ?_ (by size_fits)
   dsimp only[Yl]
   refine Á (Á (ZS ?_))
   first|rw[show A.in1.handled=U from À]|rw[À]
   refine abC ?_
   refine Á (Ŕ (T:="StopIteration") (b:=Í) ⟨_,ê _ rfl,rfl⟩ Zg ?_)
   exact Å (N _ λb o Y=>Ñ _ (Ñ _ Y))
  | susp v gd l k c p fs=>exact Å ⟨v,rfl,Å (V v gd l k c p fs s₁ O)⟩
variable {E:Ê->Ç->Prop}
def L9 {it l:Ü} {i:Ó} {items:ÿ Ê} {x:Ê} {Q:Æ Ê->Ç->Prop} (D:s.heap.IsListIter it l i) (Y:s.heap.IsList l items) (acT:items[i]? = C x)
 (À:∀h',h'.IsListIter it l (i+1)->ζ it s.heap h'->Q (C x) { s with heap:=h' }):Î cx.M A (callSpecial? (.ref it) (Ć "__next__")) Q E s:=by
 obtain⟨o,I,V,G⟩:=id D
 obtain⟨ol,O,_,nl,L⟩:=Y
 refine ϖ (name:=Ć "__next__") D.typeIs A3 (Ş A3 D.typeIs abO ?_ (ach _))
 show Î _ _ (field (.ref it) 0 >>= _) _ _ s
 refine Á (χ I G (x:=.ref l) rfl ?_)
 show Î _ _ (if(Ż l==Ă)=Í then _ else _) _ _ s
 rw[Ý (show ¬ ((Ż l==Ă)=Í)from ß)]
 show Î _ _ (field (.ref it) 1 >>= _) _ _ s
 refine Á (χ I G (x:=.int i 0) rfl ?_)
 show Î _ _ (adc (.ref l) >>= _) _ _ s
 refine Á (j3 O L ?_)
 simp only[u_,acT]
 refine Á (γ I G (by simp) (Å ⟨x,rfl,À _ ?_ (Ĩ ..)⟩))
 exact⟨_,œ _ I (Zu (Xi G _)),(Obj.cls_mapFields ..).trans V,by rw[Xi G];simp[ŏ]⟩
def P7 {it l:Ü} {i:Ó} {items:ÿ Ê} {Q:Æ Ê->Ç->Prop} (V:A.handled=U) (D:s.heap.IsListIter it l i) (Y:s.heap.IsList l items) (acT:items[i]? = U)
 (À:∀h' e o,ExtBut it s.heap h'->h'.get? e=C o->o.cls = .type "StopIteration"->(∃vs,o.data = .fields vs/\vs[5]? = C .none)->E (.ref e) { s with heap:=h' }):Î cx.M A (callSpecial? (.ref it) (Ć "__next__")) Q E s:=by
 obtain⟨o,L,hc,G⟩:=id D
 obtain⟨ol,O,_,nl,I⟩:=Y
 refine ϖ (name:=Ć "__next__") D.typeIs A3 (Ş A3 D.typeIs abO ?_ (ach _))
 show Î _ _ (field (.ref it) 0 >>= _) _ _ s
 refine Á (χ L G (x:=.ref l) rfl ?_)
 show Î _ _ (if(Ż l==Ă)=Í then _ else _) _ _ s
 rw[Ý (show ¬ ((Ż l==Ă)=Í)from ß)]
 show Î _ _ (field (.ref it) 1 >>= _) _ _ s
 refine Á (χ L G (x:=.int i 0) rfl ?_)
 show Î _ _ (adc (.ref l) >>= _) _ _ s
 refine Á (j3 O I ?_)
 simp only[u_,acT]
 refine Á (Ŝ (Á (γ L G (by simp) ?_)))
 show Î _ _ (Zh (.type "StopIteration") [] >>= _) _ _ _
 refine Á ?_
 simp only[Zh,newTuple]
 refine Á (į ?_ (by size_fits))
 refine Á (m:=h_ _ _) (ś (a:=Ă) (by first|rfl|(simp only[h_];rfl)) ?_)
 refine į ?_ (by size_fits)
 dsimp only[Yl]
 refine Á (ZS ?_)
 rw[show A.in1.handled=U from V]
 refine Á (Å (abC ?_))
 exact À _ _ _ (((Ĩ ..).extBut.push _).push _) (ê _ rfl) rfl ⟨_,rfl,rfl⟩
def tX:ύ (.type "list_iterator") (Ć "close")=pure U:=by kernel_rfl
def NO {it:Ü} {b:ì} {A:Ā} {E:Ê->Ç->Prop} {Q:ab->Ç->Prop} {s:Ç} (D:s.TypeIs (.ref it) "list_iterator") (h:Q () s):Î cx.M A (T_ (.ref it) b) Q E s:=by
 obtain⟨o,I,G⟩:=D
 unfold T_
 refine Á (X3 I ?_)
 rw[G]
 refine ĸ (λJ=>Å h) λq=>absurd rfl q
def n7 {id:Λ} {args:Args} {b:ř} {c:Code} (D:bT XW id=C b) (h:Sg A Φ c (b args) fs s):Sg A Φ c (cx.M.den (.builtin id args)) fs s:=by
 show Sg A Φ _ (match bT XW id with|some b=>b args|none=>ϴ ((withoutEnding? id "#data").getD id)) fs s
 rw[D];exact h
def vj:bT XW "proto.yield_from" = C ř.«proto.yield_from»:=Ϲ (by kernel_rfl)
noncomputable abbrev BY (it:Ü):Code:=.builtin "proto.yield_from" ⟨[.ref it,.bool Ï,.none],[]⟩
def yQ {it l:Ü} {i:Ó} {items:ÿ Ê} {x:Ê} (L:s.heap.IsListIter it l i) (V:s.heap.IsList l items) (acT:items[i]? = C x) (I:splitAtGen fs=U)
 (h:∀h' lv k p,h'.IsListIter it l (i+1)->ζ it s.heap h'->
  (∀Φ' D,D.TypeIs (.ref it) "list_iterator"->Sg A Φ' (BY it) (cx.M.den (BY it)) fs D->Sg A Φ' (BY it) (k (.send .none)) fs D)->Φ (.susp x Ï lv k (BY it) p fs) { s with heap:=h' }) :
 Sg A Φ (BY it) (cx.M.den (BY it)) fs s:=by
 refine n7 vj ?_
 unfold ř.«proto.yield_from»
 refine bP (Å ?_)
 refine bP (S_ (ä ?_))
 refine ĸ (λh=>nomatch h) λJ=>?_
 refine ĸ (λJ=>?_) λh=>absurd (ş _) h
 refine Á (Ŝ ?_)
 refine Á (L9 L V acT λh' O À=>?_)
 refine Å ?_
 dsimp only
 have Q:ϫ { s with heap:=h' } (.ref it) "list_iterator":=O.typeIs (s:={ s with heap:=h' })
 refine bP (Τ Q ?_)
 dsimp only
 refine bP (ś tX ?_)
 refine bP (Å ?_)
 refine bP (NO Q ?_)
 show Sg A Φ _ (.yield x Ï [] λr=>_) fs _
 refine Ih I λp=>h h' _ _ p O À λΦ' D G Y=>?_
 refine bP (Å ?_)
 refine bP (NO G ?_)
 refine bP (Å ?_)
 exact jz (plainId_quiet (by decide +kernel) _) Y
def EI {it l:Ü} {i:Ó} {items:ÿ Ê} (À:(A.over (.builtin "proto.yield_from" ⟨[.ref it,.bool Ï,.none],[]⟩) fs).handled=U) (D:s.heap.IsListIter it l i) (V:s.heap.IsList l items) (Y:items[i]? = U)
 (h:∀h',ExtBut it s.heap h'->Sg A Φ (.builtin "proto.yield_from" ⟨[.ref it,.bool Ï,.none],[]⟩) (ack (.ok (.ret .none))) fs { s with heap:=h' }) :
 Sg A Φ (.builtin "proto.yield_from" ⟨[.ref it,.bool Ï,.none],[]⟩) (cx.M.den (.builtin "proto.yield_from" ⟨[.ref it,.bool Ï,.none],[]⟩)) fs s:=by
 refine n7 vj ?_
 unfold ř.«proto.yield_from»
 refine bP (Å ?_)
 refine bP (S_ (ä ?_))
 refine ĸ (λh=>nomatch h) λJ=>?_
 refine ĸ (λJ=>?_) λh=>absurd (ş _) h
 refine Á (Ŝ ?_)
 refine Á (P7 À D V Y λh' e o I G O hv=>?_)
 obtain⟨vs,Q,hv⟩:=hv
 have L:ϫ { s with heap:=h' } (.ref e) "StopIteration":=⟨o,G,O⟩
 dsimp only
 dsimp only[abm,abn]
 refine bP (Á (Á (Τ L ?_)))
 dsimp only
 refine Á (ś Zg (Á ?_))
 refine ś (a:=.type "type") (by kernel_rfl) (Å ?_)
 refine ĸ (λh=>nomatch h) λJ=>Å ?_
 refine bP (Ŝ ?_)
 refine bP (χ G Q hv ?_)
 exact h h' I
variable {c:Code} {env:ϙ} {K:P_->Ϛ Ē} {H:Ê->Ϛ Ē} {gd:ì->ì} {lv:È Ê->È Ê}
noncomputable def R2 (env:ϙ) (K:P_->Ϛ Ē) (H:Ê->Ϛ Ē) (gd:ì->ì) (lv:È Ê->È Ê) (r:ky):Ϛ Ē:=
 ((match r with | .ok f=>(.pure f:Ϛ P_) | .error e=>.raise e).onRaise λ(x:Ê)=>do
  if(<-field x 1)==Ă then ϴ "frame.own-activation:exception-without-traceback"
  ade x env.frame).wrap K H gd lv
def P4 {G iter:ñ} {body D:È ϳ} {pos:ϗ}
 (h:Î cx.M (A.over c fs) (Ũ iter env) (λv s₁=>Î cx.M (A.over c fs) (j2 iter env v) (λx s₂=>Î cx.M (A.over c fs) (sz x) (λit L=>∀p,Sg A Φ (.forLoop G it body D env) (cx.M.den (.forLoop G it body D env))
  (.ret (R2 env K H gd lv) U (gd Ï) (lv []) c p []::fs) L) (λx I=>Sg A Φ c (H x) fs I) s₂) (λx I=>Sg A Φ c (H x) fs I) s₁) (λx I=>Sg A Φ c (H x) fs I) s) :
 Sg A Φ c ((ZQ (.For G iter body D pos) env).wrap K H gd lv) fs s:=by
 show Sg A Φ c (.at pos λJ=>((Ũ iter env >>= λv=>j2 iter env v >>= λx=>ϧ iter.pos >>= λJ=>pw [x] (sz x) >>= λit=>acl (.forLoop G it body D env) env:Ϛ P_).wrap K H gd lv)) fs s
 refine q9 ?_
 rw[Ľ,Ţ]
 refine cz (Ô h (λv s₁ h₁=>?_) λJ J x=>x)
 rw[Ľ,Ţ]
 refine cz (Ô h₁ (λx s₂ h₂=>?_) λJ J x=>x)
 refine q9 ?_
 show Sg A Φ c ((pw [x] (sz x) >>= λit=>acl (.forLoop G it body D env) env:Ϛ P_).wrap K H gd lv) fs s₂
 rw[Ľ,Ţ]
 refine cz (ä (Ô h₂ (λit L O=>?_) λJ J x=>x))
 exact By O
noncomputable def wK (x:Ì) (D:ϗ) (it:Ê) (body:È ϳ) (env:ϙ) (f:P_):Ϛ Ē:=match f with
 | .next | .cont=>.pure (.again (.forLoop (.Name x D) it body [] env))
 | .brk=>.pure (.done .next)
 | .ret v=>.pure (.done (.ret v))
noncomputable def qT (env:ϙ) (e:Ê):Ϛ Ē:=(do wb e env;s_ e:Ϛ ab).wrap (λJ=>.raise e) .raise id id
def n8 {x:Ì} {D:ϗ} {it:Ê} {body:È ϳ} {E:Ê->Ç->Prop}
 (h:Î cx.M (A.over (.forLoop (.Name x D) it body [] env) fs) (Xo it) (λr s₁=>match r with
  | none=>Sg A Φ (.block [] env) (cx.M.den (.block [] env)) fs s₁
  | some v=>Î cx.M (A.over (.forLoop (.Name x D) it body [] env) fs) (Xk (.Name x D) env v) (λJ s₂=>
   Sg A Φ (.forLoop (.Name x D) it body [] env) ((h8 body env).wrap (wK x D it body env) (qT env) id id) fs s₂) (λJ J=>False) s₁) (λJ J=>False) s) :
 Sg A Φ (.forLoop (.Name x D) it body [] env) (cx.M.den (.forLoop (.Name x D) it body [] env)) fs s:=by
 show Sg A Φ _ ((forTurn (.Name x D) it body [] env).onRaise (λx=>do wb x env;s_ x)) fs s
 unfold forTurn
 rw[aag]
 refine q9 ?_
 show Sg A Φ _ (((Xo it).onRaise (λJ=>ϧ { (aaS x D).pos with line:=0 }) >>= λr=>match r with
  | none=>Zd (.block [] env)
  | some v=>r_ (.Name x D) it v >>= λJ=>Xk (.Name x D) env v >>= λJ=>h8 body env >>= λf=>wK x D it body env f).wrap Sem.pure (λe=>(do wb e env;s_ e:Ϛ ab).bind λJ=>.raise e) id id) fs s
 rw[Ľ,Ţ]
 refine cz (aeo (Ô h (λr s₁ h₁=>?_) λJ J x=>x.elim))
 cases r with
 | none=>exact jz (by rfl) h₁
 | some v=>
  show Sg A Φ _ ((Xk (.Name x D) env v >>= λJ=>h8 body env >>= λf=>wK x D it body env f).wrap Sem.pure (λe=>(do wb e env;s_ e:Ϛ ab).bind λJ=>.raise e) id id) fs s₁
  rw[Ľ,Ţ]
  refine cz (Ô h₁ (λJ s₂ h₂=>?_) λJ J x=>x.elim)
  rw[Ľ,Ţ]
  rw[acf (h8 body env) _ _ (K':=wK x D it body env) (H':=qT env) (λf=>by cases f<;>rfl) (λe=>by unfold qT;rw[<-abu];rfl)]
  exact h₂
def SX {G:ñ} {body D:È ϳ} {pos:ϗ} {E:Ê->Ç->Prop}
 (h:Î cx.M (A.over c fs) (YC G env (Ũ G env)) (λb s₁=>if b=Í then Sg A Φ c ((h8 body env).wrap K H gd lv) fs s₁ else Sg A Φ c ((h8 D env).wrap K H gd lv) fs s₁) (λJ J=>False) s) :
 Sg A Φ c ((ZQ (.If G body D pos) env).wrap K H gd lv) fs s:=by
 show Sg A Φ c (.at pos λJ=>((YC G env (Ũ G env) >>= λb=>if b=Í then h8 body env else h8 D env:Ϛ P_).wrap K H gd lv)) fs s
 refine q9 ?_
 rw[Ľ,Ţ]
 refine cz (Ô h (λb s₁ h₁=>?_) λJ J x=>x.elim)
 cases b with
 | true=>exact h₁
 | false=>exact h₁
noncomputable def VP (K:P_->Ϛ Ē) (H:Ê->Ϛ Ē) (gd:ì->ì) (lv:È Ê->È Ê) (e:ñ) (pos:ϗ) (r:ky):Ϛ Ē:=
 ((match r with | .ok f=>(.pure f:Ϛ P_) | .error e=>.raise e) >>= λf=>match f with | .ret v=>pure v|_=>ϴ "internal:call-without-return-value" : Ϛ Ê).wrap (λa=>(acY e pos a).wrap K H gd lv) (λe=>(aej e:Ϛ P_).wrap K H gd lv) gd lv
def SY {e:ñ} {D pos:ϗ} {l:Ü} {items:ÿ Ê} (I:YH env=Ï)
 (h:Î cx.M (A.over c fs) (Ũ e env) (λv s₁=>v = .ref l/\s₁.heap.IsList l items/\∀p,Sg A Φ (.builtin "proto.yield_from" ⟨[.ref s₁.heap.objs.size,.bool Ï,.none],[]⟩) (cx.M.den (.builtin "proto.yield_from" ⟨[.ref s₁.heap.objs.size,.bool Ï,.none],[]⟩))
  (.ret (VP K H gd lv (.YieldFrom e D) pos) U (gd Ï) (lv []) c p []::fs) { s₁ with heap:=s₁.heap.push { cls:=.type "list_iterator",data:=.fields #[.ref l,.int 0 0] } }) (λJ J=>False) s) :
 Sg A Φ c ((ZQ (.Expr (.YieldFrom e D) pos) env).wrap K H gd lv) fs s:=by
 rw[exec_Expr env _ pos I rfl]
 show Sg A Φ c (.at pos λJ=>(((Ũ e env >>= λv=>ϧ D >>= λJ=>adl env v) >>= λx=>acY (.YieldFrom e D) pos x:Ϛ P_).wrap K H gd lv)) fs s
 refine q9 ?_
 rw[Ľ,Ľ,Ţ,Ţ]
 refine cz (Ô h (λv s₁ h₁=>?_) λJ J x=>x.elim)
 obtain⟨rfl,G,h₁⟩:=h₁
 refine q9 ?_
 show Sg A Φ c ((adl env (.ref l)).wrap (λa=>(acY (.YieldFrom e D) pos a).wrap K H gd lv) (λe=>(aej e:Ϛ P_).wrap K H gd lv) gd lv) fs s₁
 unfold adl
 rw[Ľ,Ţ]
 refine cz (Τ G.typeIs ?_)
 rw[Ý Zz,Ľ,Ţ]
 refine cz (ä (Ϩ G ?_))
 exact By h₁
end
def LA:Ì:="namespaces"
structure TU where
 px:ϗ
 p1:ϗ
 p2:ϗ
 yp:ϗ
 ep:ϗ
 ip:ϗ
 pr:ϗ
 pn:ϗ
 cp:ϗ
 fp:ϗ
noncomputable def gP:TU:=⟨⟨42,12,42,22⟩,⟨43,15,43,25⟩,⟨44,27,44,37⟩,⟨44,16,44,37⟩,⟨44,16,44,37⟩,⟨43,12,44,37⟩,⟨42,26,42,35⟩,⟨42,36,42,44⟩,⟨42,26,42,45⟩,⟨42,8,44,37⟩⟩
def VC:ñ:=.YieldFrom (.Name LA gP.p2) gP.yp
def UC:ϳ:=.If (.Name LA gP.p1) [.Expr VC gP.ep] [] gP.ip
def vu:È ϳ:=[.For (.Name LA gP.px) (.Call (.Name "_reversed" gP.pr) [.Name "ns_stack" gP.pn] [] gP.cp) [UC] [] gP.fp]
def JD:E3.body=vu:=by kernel_rfl
noncomputable def Kf (f:P_):Ϛ Ē:=.pure (.done (.ret (match f with | .ret v=>v|_=>.none)))
noncomputable def Hf (env:ϙ) (e:Ê):Ϛ Ē:=(Yj env e).wrap (λJ=>.raise e) .raise id id
noncomputable def Kn (env:ϙ) (K:P_->Ϛ Ē) (H:Ê->Ϛ Ē) (f:P_):Ϛ Ē:=match f with | .next=>(h8 [] env).wrap K H id id|f=>K f
section
variable (env:ϙ) (rit:Ü)
def LC:Code:=.forLoop (.Name LA gP.px) (.ref rit) [UC] [] env
def UB (p:ϗ):È YG:=[.ret (R2 env (Kn env Kf (Hf env)) (Hf env) id id) U Ï [] (.func vu env) p []]
def K2:P_->Ϛ Ē:=Kn env (wK LA gP.px (.ref rit) [UC] env) (qT env)
def TD (p q:ϗ):È YG:=.ret (VP (Kn env (K2 env rit) (qT env)) (qT env) id id VC gP.ep) U Ï [] (LC env rit) q []::UB env p
end
def Fh (G:Prop) (Z:aa) (v:AV) (t:È (AV×È AV)):Prop:=∀(ls:ZB) (h:aw Z v=C ls) (e:t.map (·.1)=ls.reverse) (k:∀p∈t,aw Z p.1=C p.2),G
def NZ:=λZ v t=>∀G,Fh G Z v t->G
def NZ.mk:Fh (NZ Z v t) Z v t:=λls h e k J G=>G ls h e k
def Ls {G H:Type} {f:G->Æ H}:∀{l:È G} {r:È H},l.mapM f=C r->r.length=l.length/\∀(i:Ó) a,l[i]? = C a->∃b,r[i]? = C b/\f a=C b:=by
 intro l
 induction l with
 | nil=>intro r h;rw[mapM_nil]at h;obtain rfl:=Ä h;exact⟨rfl,λi a e=>nomatch e⟩
 | cons x l Y=>
  intro r h
  rw[mapM_cons]at h
  obtain⟨b,O,h⟩:=ù.mp h
  obtain⟨r',Q,h⟩:=ù.mp h
  obtain rfl:=Ä h
  obtain⟨À,V⟩:=Y Q
  refine⟨Õ (· + 1) À,λi a e=>?_⟩
  cases i with
  | zero=>obtain rfl:=Ä e;exact⟨b,rfl,O⟩
  | succ i=>exact V i a e
def J6 {Z:aa} {v:AV} {t:È (AV×È AV)} (h:fT Z v=C t):NZ Z v t:=by
 obtain⟨ls,À,h⟩:=ù.mp h
 obtain⟨Q,j⟩:=Ls h
 have O:∀(i:Ó) a,ls.reverse[i]? = C a->∃xs,t[i]? = C (a,xs)/\aw Z a=C xs:=λi a e=>by
  obtain⟨b,Y,E⟩:=j i a e
  obtain⟨xs,H,rfl⟩:=Ħ.mp E
  exact⟨xs,Y,H⟩
 refine(.mk ls À (X9 λi=>?_) (λp N=>?_))
 ·rw[Ė]
  by_cases G:i<ls.reverse.length
  ·obtain⟨xs,H,_⟩:=O i _ (æ G)
   rw[H,æ G];rfl
  ·rw[Ū (ņ G),Ū (Q▸ņ G)];rfl
 ·obtain⟨i,G⟩:=Yw.mp N
  have A:i<ls.reverse.length:=Q▸(î.mp G).1
  obtain⟨xs,H,V⟩:=O i _ (æ A)
  rw[G]at H
  obtain rfl:=Ä H
  exact V
structure GB (sb:Ç) (I:Ü) (gn:Ó) (g:G) (Z:aa) (s₀ s:Ç):Prop where
 i:Inv g Z s
 a:mm sb g s₀ g s
 old:∀b o,sb.heap.get? b=C o->∃o,s.heap.get? b=C o
 gen:s.heap.IsGen I gn
 gens:s.gens=s₀.gens
structure GF (sb:Ç) (g:G) (acT rit L:Ü) (k:Ó) (s:Ç):Prop where
 ns:∃m,s.heap.Ns acT m
 nC:bG sb g acT
 rev:s.heap.IsRevIter rit L ((k:Į) - 1)
 nR:bG sb g rit
 ne:acT≠rit
section
variable {sb s₀ s D:Ç} {g:G} {Z:aa} {h':ę} {W I acT rit L:Ü} {gn k:Ó}
def GB.put (b:GB sb I gn g Z s₀ s) (n:bG sb g W) (À:W≠I) (hk:∀b o,s.heap.get? b=C o->b≠W->h'.get? b=C o) {t:Ó} (G:s.toks<=t):GB sb I gn g Z s₀ { s with heap:=h',toks:=t }:=
 ⟨b.i.i! G n hk,⟨.refl g,Â b.a.toks G,λx o e q=>hk x o (b.a.keep x o e q) λz=>q.elim (λq=>n.no (z▸q)) λq=>q.elim (λq=>n.2.1 (z▸q)) (by rintro⟨o,h⟩;exact(nomatch (n.2.2.symm.trans (z▸h):U=C o))),λJ h=>h,λJ J J h=>h,b.a.gens,b.a.os⟩,
  λx o e=>(by obtain⟨H,O⟩:=b.old x o e;exact⟨H,hk x H O λz=>n.no (z▸⟨o,e⟩)⟩),(by obtain⟨o,V,Y,Q,r⟩:=b.gen;exact⟨o,V,Y,hk I o Q À.symm,r⟩),b.gens⟩
def GB.none (b:GB sb I gn g Z s₀ s) {a:Ü} (h:s.heap.get? a=U):sb.heap.get? a=U:=by
 cases q:sb.heap.get? a with
 | none=>rfl
 | some o=>obtain⟨o',e⟩:=b.old _ _ q;rw[h]at e;cases e
def bG.fresh {a:Ü} (b:GB sb I gn g Z s₀ s) (h:s.heap.get? a=U):bG sb g a:=⟨b.none h,(b.i.fresh h).2,(b.i.fresh h).1⟩
def zQ {h:ę} {a:Ü} (x:h.IsGen I gn) (e:h.get? a=U):a≠I:=λz=>by obtain⟨o,_,_,G,_⟩:=x;rw[<-z,e]at G;cases G
def zP {h:ę} {a:Ü} {o:ϑ} (x:h.IsGen I gn) (e:h.get? a=C o) (c:o.cls≠.type "generator"):a≠I:=λz=>by obtain⟨o',_,_,G,H,_⟩:=x;rw[<-z,e]at G;cases G;exact c H
def Go {h:ę} {a:Ü} {m:Ì->Æ Ê} (x:h.IsGen I gn) (e:h.Ns a m):a≠I:=λz=>by
 obtain⟨o',_,_,H,_,G,_⟩:=x
 exact Bg e (z▸H) _ G
def Gm {h:ę} {a l:Ü} {j:Ó} (x:h.IsGen I gn) (e:h.IsListIter a l j):a≠I:=(by obtain⟨o,H,G,_⟩:=e;exact zP x H (G▸by decide))
def zR {h:ę} {a l:Ü} {j:Į} (x:h.IsGen I gn) (e:h.IsRevIter a l j):a≠I:=(by obtain⟨o,H,G,_⟩:=e;exact zP x H (G▸by decide))
def GF.put (f:GF sb g acT rit L k s) (hk:∀b o,b=acT\/b=rit->s.heap.get? b=C o->D.heap.get? b=C o):GF sb g acT rit L k D:=
 ⟨(by obtain⟨m,G⟩:=f.ns;exact⟨m,ie G λo=>hk acT o (.inl rfl)⟩),f.nC,(by obtain⟨o,H,r⟩:=f.rev;exact⟨o,hk rit o (.inr rfl) H,r⟩),f.nR,f.ne⟩
end
structure GX (sb:Ç) (A:Ā) (g:G) (Z:aa) (env:ϙ) (rit L:Ü) (v₀:AV) (t:È (AV×È AV)):Prop where
 hA:A.handled=U
 kind:env.scope.kind = .function
 kn:env.kindOf LA=C .local
 src:VR g v₀ (.ref L)
 gen:fT Z v₀=C t
section
variable (sb:Ç) (I:Ü) (gn:Ó) (A:Ā) (g:G) (Z:aa) (s₀:Ç) (env:ϙ) (rit L:Ü) (t:È (AV×È AV))
def MK (B:Prop) (it:Ü) (fs:È YG) (k:aaz->Ϛ Ē) (s:Ç) (X:ZB):Prop:=∀(pre:È (AV×È AV)) (cur:AV×È AV) (D:È (AV×È AV)) (j:Ó) (a:Ü) (p q:ϗ) (ht:t=pre++cur::D) (hX:X=cur.2.drop j++D.flatMap (·.2)) (ra:VR g cur.1 (.ref a)) (hit:s.heap.IsListIter it a j) (nI:bG sb g it) (nC:it≠env.locals) (nR:it≠rit) (f:GF sb g env.locals rit L D.length s) (e:fs=TD env rit p q) (back:∀Φ s'',s''.TypeIs (.ref it) "list_iterator"->Sg A Φ (BY it) (cx.M.den (BY it)) (TD env rit p q) s''->Sg A Φ (BY it) (k (.send .none)) (TD env rit p q) s''),B
def NY:=λit fs k s X=>∀B,MK sb A g env rit L t B it fs k s X->B
variable {sb A g env rit L t} in
def NY.mk:MK sb A g env rit L t (NY sb A g env rit L t it fs k s X) it fs k s X:=λpre cur D j a p q V Q N G E Y acT f e B J H=>H pre cur D j a p q V Q N G E Y acT f e B
inductive GP (X:ZB):End->Ç->Prop
 | fin (s:Ç) (h:X=[]) (b:GB sb I gn g Z s₀ s):GP X (.ret (.ok (.ret .none))) s
 | yld (v:Ê) (lv:ZA) (k:aaz->Ϛ Ē) (it:Ü) (p:ϗ) (fs:È YG) (s:Ç) (x:AV) (X':ZB) (h:X=x::X') (b:GB sb I gn g Z s₀ s) (r:VR g x v) (w:NY sb A g env rit L t it fs k s X'):GP X (.susp v Ï lv k (BY it) p fs) s
end
section
variable {sb:Ç} {gn:Ó} {A:Ā} {g:G} {Z:aa} {s₀ s:Ç} {env:ϙ} {rit L it a I:Ü} {v₀:AV} {t pre D:È (AV×È AV)} {cur:AV×È AV} {p q:ϗ} {j:Ó}
def NV (G:GX sb A g Z env rit L v₀ t) (H:∀{s},GB sb I gn g Z s₀ s->GF sb g env.locals rit L D.length s->Sg A (GP sb I gn A g Z s₀ env rit L t (D.flatMap (·.2))) (LC env rit) (cx.M.den (LC env rit)) (UB env p) s)
 (d:t=pre++cur::D) (ra:VR g cur.1 (.ref a)) (B:s.heap.IsListIter it a j) (y:bG sb g it) (l:it≠env.locals) (w:it≠rit) (b:GB sb I gn g Z s₀ s) (f:GF sb g env.locals rit L D.length s) :
 Sg A (GP sb I gn A g Z s₀ env rit L t (cur.2.drop j++D.flatMap (·.2))) (BY it) (cx.M.den (BY it)) (TD env rit p q) s:=by
 refine J6 G.gen _ λls hl he hk=>?_
 have hc:=hk cur (by rw[d];exact í _ (ã ..))
 (refine aI b.i hc ra _ ?_;rintro a' ws e ⟨m,hw⟩ r z)
 obtain rfl:=Ϗ e
 have E:s.heap.IsList a ws.toArray:=⟨_,hw,rfl,m,rfl⟩
 by_cases hlt:j<cur.2.length
 ·obtain⟨v,hv,rv⟩:=r.get (æ hlt)
  refine yQ B E (x:=v) (by rw[Ŷ];exact hv) rfl λh' lv k pp V hs Q=>?_
  rw[pT hlt]
  have acT:∀b o,s.heap.get? b=C o->b≠it->h'.get? b=C o:=λb o e c=>(hs.2 b c).trans e
  exact .yld v lv k it pp _ _ cur.2[j] _ rfl (b.put y (Gm b.gen B) acT (Ë _)) rv (.mk pre cur D (j+1) a p q d rfl ra V y l w (f.put λb o N e=>acT b o e (N.elim (λz=>z▸l.symm) λz=>z▸w.symm)) rfl Q)
 ·have Y:cur.2.length<=j:=ņ hlt
  refine EI (A:=A) G.hA B E (by rw[Ŷ,ϩ,<-r.length];exact Y) λh' hx=>?_
  have acT:∀b o,s.heap.get? b=C o->b≠it->h'.get? b=C o:=λb o e c=>hx b o c e
  simp only[drop_eq_nil_of_le Y,Y4]
  refine Bz _ ?_
  show Sg A _ (LC env rit) (.pure (.again (LC env rit))) _ _
  exact jz rfl (H (b.put y (Gm b.gen B) acT (Ë _)) (f.put λb o N e=>acT b o e (N.elim (λz=>z▸l.symm) λz=>z▸w.symm)))
def wH {v:AV} {xs:ZB} (h:aw Z v=C xs):bZ Z v=C (!xs.isEmpty):=by
 induction v using AV.casesOn with
 | fl ys=>obtain rfl:=Ä h;rfl
 | loc l=>exact listAt h λys B h=>by obtain rfl:=Ä h;delta bZ;dsimp only;rw[B]
 | _=>exact aD h
def Ln {ls:ZB} (B:t.map (·.1)=ls.reverse) (G:t=pre++cur::D):ls[D.length]? = C cur.1:=by
 have e:ls=(D.map (·.1)).reverse++cur.1::(pre.map (·.1)).reverse:=by
  have:=Õ reverse B
  simp only[rt,G,ò,Ī,Y5,tw,ø]at this
  exact this.symm
 rw[e,ĺ (by rw[ϱ,length_map];exact Ë _),ϱ,length_map,Ť];rfl
def NC {B:Ā} {m:Ì->Æ Ê} {u:Ê} {Q:Ê->Ç->Prop} {E:Ê->Ç->Prop} {H:ϗ} (hk:env.scope.kind = .function) (kn:env.kindOf LA=C .local) (G:s.heap.Ns env.locals m) (hv:m LA=C u) (h:Q u s):Î cx.M B (Ũ (.Name LA H) env) Q E s:=
 WQ (ψ hk kn G hv h) Zz
def A7 (G:GX sb A g Z env rit L v₀ t):∀(D pre:È (AV×È AV)) {s:Ç},t=pre++D->GB sb I gn g Z s₀ s->GF sb g env.locals rit L D.length s->Sg A (GP sb I gn A g Z s₀ env rit L t (D.flatMap (·.2))) (LC env rit) (cx.M.den (LC env rit)) (UB env p) s:=by
 intro zz;induction zz with
 | nil=>
  intro pre s Y b f
  refine n8 (A:=A) (E:=λJ J=>False) (wpAny_pyNext_rev_end G.hA f.rev λh' hx=>?_)
  have kp:∀b o,s.heap.get? b=C o->b≠rit->h'.get? b=C o:=λb o e B=>hx b o B e
  show Sg A _ _ (ack (.ok .next)) _ _
  refine Bz _ ?_
  show Sg A _ _ (ack (.ok (.ret .none))) _ _
  exact P5 _ (.fin _ rfl (b.put f.nR (zR b.gen f.rev) kp (Ë _)))
 | cons cur D ih=>
  intro pre s Y b f
  refine J6 G.gen _ λls hl he hk=>?_
  have hc:=hk cur (by rw[Y];exact í _ (ã ..))
  (refine aI b.i hl G.src _ ?_;rintro L' us e ⟨m0,hL⟩ r _)
  obtain rfl:=Ϗ e
  obtain⟨u,hu,ru⟩:=r.get (Ln he Y)
  refine n8 (A:=A) (E:=λJ J=>False) (wpAny_pyNext_rev_item (i:=D.length) (by have:=f.rev;rwa [show(((cur::D).length:Ó):Į) - 1=(D.length:Į) by rw[ŕ];lia]at this) ⟨_,hL,rfl,m0,rfl⟩ (x:=u) (by rw[Ŷ];exact hu) λh₁ hr hs=>?_)
  have b1:=b.put f.nR (zR b.gen f.rev) (λb o e B=>(hs.2 b B).trans e) (Ë s.toks)
  have f1:GF sb g env.locals rit L D.length { s with heap:=h₁ }:=⟨(by obtain⟨m,d⟩:=f.ns;exact⟨m,ie d λo e=>(hs.2 _ f.ne).trans e⟩),f.nC,hr,f.nR,f.ne⟩
  obtain⟨m,d⟩:=f1.ns
  refine l1 (W3 G.kn d (λh₂ N y=>?_) (by rw[G.kind];rfl))
  have b2:=b1.put f.nC (Go b1.gen d) (λb o e B=>(y.2 b B).trans e) (ö s.toks)
  have f2:GF sb g env.locals rit L D.length { s with heap:=h₂,toks:=s.toks+1 }:=⟨⟨_,N⟩,f.nC,(by obtain⟨o,V,q⟩:=f1.rev;exact⟨o,(y.2 _ f.ne.symm).trans V,q⟩),f.nR,f.ne⟩
  have w:t=(pre++[cur])++D:=by rw[Y,ø];rfl
  refine dZ (SX (E:=λJ J=>False) (acn (NC G.kind G.kn N (Û rfl) ?_) rfl))
  refine Ô (cy (oA (Q:=λb' s'=>s.toks+1<=s'.toks->b' = !cur.2.isEmpty/\∃H,s.toks+1<=H/\s'={ s with heap:=h₂,toks:=H }) b2.i (wH hc) ru λH Y=>⟨rfl,H,Y,rfl⟩)) (λbb s' hb=>?_) λJ J x=>x.elim
  obtain⟨rfl,H,x0,rfl⟩:=hb
  have acT:=b2.put f.nC (Go b2.gen N) (λb o e J=>e) x0
  have f3:GF sb g env.locals rit L D.length { s with heap:=h₂,toks:=H }:=⟨⟨_,N⟩,f.nC,f2.rev,f.nR,f.ne⟩
  (refine aI acT.i hc ru _ ?_;rintro a ws rfl ⟨mw,hw⟩ rw' zw)
  rw[flatMap_cons]
  cases hx:cur.2.isEmpty with
  | true=>
   rw[Ġ.mp hx]
   rw[Ý Zz]
   show Sg A _ (LC env rit) (.pure (.again (LC env rit))) _ _
   exact jz rfl (ih (pre++[cur]) w acT f3)
  | false=>
   rw[Û Zz]
   refine dZ (SY (l:=a) (items:=ws.toArray) (by unfold YH;rw[G.kind];rfl) (NC G.kind G.kn N (Û rfl) ⟨rfl,⟨_,hw,rfl,mw,rfl⟩,λq=>?_⟩))
   have c:=af { s with heap:=h₂,toks:=H }
   have kp:∀b o,h₂.get? b=C o->(h₂.push { cls:=.type "list_iterator",data:=.fields #[.ref a,.int 0 0] }).get? b=C o:=λb o e=>Ñ _ e
   have B:∀{b},(∃o,h₂.get? b=C o)->h₂.objs.size≠b:=λ⟨o,V⟩ z=>by rw[<-z]at V;rw[show h₂.get? h₂.objs.size=U from c]at V;cases V
   exact NV (pre:=pre) (cur:=cur) (j:=0) (q:=q) (s:={ s with heap:=h₂.push { cls:=.type "list_iterator",data:=.fields #[.ref a,.int 0 0] },toks:=H }) G (λb f=>ih (pre++[cur]) w b f) Y ru ⟨_,ê _ rfl,rfl,rfl⟩ (bG.fresh acT c) (B (bJ N)) (B ((by obtain⟨o,V,_⟩:=f3.rev;exact⟨o,V⟩))) (acT.put (bG.fresh acT c) (zQ acT.gen c) (λb o e J=>kp b o e) (Ë _)) (f3.put λb o J e=>kp b o e)
end
section
variable (sb:Ç) (A:Ā) (L I:Ü) (gn:Ó) (v₀:AV) (t:È (AV×È AV)) (env:ϙ) (i:Ó) (gs:Ν) (c:Cf)
inductive Vq:Prop
 | fresh (hi:i=0) (e:gs = .fresh (.func vu env)) (m:Ì->Æ Ê) (ns:c.s.heap.Ns env.locals m) (h1:m "ns_stack" = C (.ref L)) (h2:m "_reversed" = C (.type "reversed")) (nC:bG sb c.g env.locals)
 | wait (k:aaz->Ϛ Ē) (lv:ZA) (it:Ü) (p:ϗ) (fs:È YG) (cl:ì) (rit:Ü) (e:gs = .suspended k lv (BY it) p fs cl) (w:NY sb A.in1 c.g env rit L t it fs k c.s ((t.flatMap (·.2)).drop i))
def M9 (D:Prop):Prop:=∀(gs:Ν) (hg:c.s.heap.IsGen I gn) (nI:bG sb c.g I) (hn:sb.gens.size<=gn) (hgs:c.s.gens[gn]? = C gs) (src:VR c.g v₀ (.ref L)) (old:∀b o,sb.heap.get? b=C o->∃o,c.s.heap.get? b=C o) (w:Vq sb A L t env i gs c),D
def N4:Prop:=∀D:Prop,M9 sb A L I gn v₀ t env i c D->D
variable {sb A L I gn v₀ t env i c} in
def N4.mk:M9 sb A L I gn v₀ t env i c (N4 sb A L I gn v₀ t env i c):=λgs O À Q D src G w J H=>H gs O À Q D src G w
end
def AllBare.set {gens:ÿ Ν} {g:Ó} {x:Ν} (h:YU gens) (G:x.bare=Í):YU (gens.setIfInBounds g x):=λy H=>by
 obtain⟨i,D,rfl⟩:=YQ.mp H
 rw[Array.getElem_setIfInBounds (by rwa [ta]at D)]
 split
 ·exact G
 ·exact h _ (ZV _)
section
variable {sb:Ç} {A:Ā} {L I:Ü} {gn i:Ó} {v₀:AV} {t:È (AV×È AV)} {env:ϙ} {gs:Ν} {c c':Cf} {own:È Ü}
def jn (a:bt own c.g c.s c'.g c'.s) (D:∀b∈own,∃o,sb.heap.get? b=C o) {b:Ü} {o:ϑ} (n:bG sb c.g b) (e:c.s.heap.get? b=C o):c'.s.heap.get? b=C o/\bG sb c'.g b:=
 ⟨a.keep _ _ e n.2.1 λq=>n.no (D _ q),n.go a ⟨o,e⟩⟩
def N4.frame (s:N4 sb A L I gn v₀ t env i c) (a:bt own c.g c.s c'.g c'.s) (D:∀b∈own,∃o,sb.heap.get? b=C o):N4 sb A L I gn v₀ t env i c':=by
 refine s _ λgs hg nI hn Y src N w=>?_
 obtain⟨oI,nm,qn,hI,r⟩:=hg
 obtain⟨V,acT⟩:=jn a D nI hI
 refine(.mk gs ⟨oI,nm,qn,V,r⟩ acT hn (a.gens _ _ Y) (src.mono a.le) (λb o e=>(by obtain⟨o',Q⟩:=N b o e;exact a.stay _ _ Q)) ?_)
 rcases w with⟨hi,e,m,ns,h1,h2,O⟩|⟨k,lv,it,p,fs,d,rit,e,w⟩
 ·obtain⟨oC,À⟩:=bJ ns
  exact .fresh hi e m (ie ns λo e=>(jn a D O e).1) h1 h2 (jn a D O À).2
 ·refine w _ λpre cur H j a0 p0 q0 ht hX ra E z O nR f Q G=>?_
  obtain⟨oT,q,rT⟩:=E
  obtain⟨m,y⟩:=f.ns
  obtain⟨oC,À⟩:=bJ y
  obtain⟨oR,l,rR⟩:=f.rev
  exact .wait k lv it p fs d rit e (.mk pre cur H j a0 p0 q0 ht hX (ra.mono a.le) ⟨oT,(jn a D z q).1,rT⟩ (jn a D z q).2 O nR ⟨⟨m,ie y λo e=>(jn a D f.nC e).1⟩,(jn a D f.nC À).2,⟨oR,(jn a D f.nR l).1,rR⟩,(jn a D f.nR l).2,f.ne⟩ Q G)
def mW {g:G} {Z:aa} {s₀ s:Ç} {rit:Ü} {X:ZB} {e:End} (h:GP sb I gn A g Z s₀ env rit L t X e s):e.quiet=Í:=by
 cases h with
 | fin=>rfl
 | yld v lv k it p fs s x X' h b r w=>
  refine w _ λJ J J J J J J J J J J J J J J e J=>?_
  rw[e];rfl
def Iu {g:G} {Z:aa} {s₀:Ç} {s:Ç} (hA:A.handled=U) (kind:env.scope.kind = .function) (kn:∀x∈[("namespaces" : Ì),"ns_stack","_reversed"],env.kindOf x=C .local) (src:VR g v₀ (.ref L)) (D:fT Z v₀=C t)
 {m:Ì->Æ Ê} (ns:s.heap.Ns env.locals m) (O:m "ns_stack" = C (.ref L)) (Q:m "_reversed" = C (.type "reversed")) (nC:bG sb g env.locals) (b:GB sb I gn g Z s₀ s) :
 Sg A (λe Y=>∃rit,GP sb I gn A g Z s₀ env rit L t (t.flatMap (·.2)) e Y) (.func vu env) (cx.M.den (.func vu env)) [] s:=by
 refine J6 D _ λls d w hk=>?_
 (refine aI b.i d src _ ?_;rintro L' us e ⟨m0,y⟩ r _)
 obtain rfl:=Ϗ e
 refine L6 (dZ (P4 ?_))
 refine Á (WQ (ψ kind (kn _ Zz) ns Q ?_) Zz)
 refine bU (args:=[.Name "ns_stack" gP.pn]) (kws:=[]) rfl (bX rfl ?_)
 refine Μ (WQ (ψ kind (kn _ Zz) ns O (a8 (Xu ⟨⟨.machine,.inr (.inl rfl),.now⟩,?_⟩))) Zz)
 refine call_reversed_list (l:=L) (items:=us.toArray) ⟨_,y,rfl,m0,rfl⟩ ?_
 refine Å ?_
 have V:=af s
 have À:(s.heap.push (revObj L ((us.toArray.size:Į) - 1))).IsRevIter s.heap.objs.size L ((us.toArray.size:Į) - 1):=⟨_,ê _ rfl,rfl,rfl⟩
 refine wpAny_pyIter_revIter (s:={ s with heap:=s.heap.push (revObj L ((us.toArray.size:Į) - 1)) }) À λp=>?_
 have H:us.toArray.size=t.length:=by rw[Đ,<-r.length,<-ϱ,<-w,length_map]
 rw[H]at À ⊢
 have N:=bG.fresh b V
 have ne:env.locals≠s.heap.objs.size:=λz=>by obtain⟨o,E⟩:=bJ ns;rw[z,V]at E;cases E
 have acT:∀b o,s.heap.get? b=C o->(s.heap.push (revObj L ((t.length:Į) - 1))).get? b=C o:=λb o e=>Ñ _ e
 have:=A7 (p:=p) (s₀:=s₀) (rit:=s.heap.objs.size) ⟨hA,kind,kn _ Zz,src,D⟩ t [] rfl (b.put N (zQ b.gen V) (λb o e J=>acT b o e) (Ë _)) ⟨⟨m,ie ns λo e=>acT _ o e⟩,nC,À,N,ne⟩
 exact λΓ p' O Q=>(by obtain⟨e,Y,j,q⟩:=this Γ p' O Q;exact⟨e,Y,j,_,q⟩)
def jj {gens:ÿ Ν} {D:Ó} (G:D<=gn) {x:Ν} (k:Ó) (y:Ν) (hk:k<D) (h:gens[k]? = C y):(gens.setIfInBounds gn x)[k]? = C y:=by
 rw[Xs (Θ (ô hk G))];exact h
def Inv.gens {g:G} {Z:aa} {s:Ç} (i:Inv g Z s) {gs:ÿ Ν} (h:YU gs):Inv g Z { s with gens:=gs }:=⟨i.sub,i.base,i.len,i.nodup,i.apart,i.cells,i.one,h,i.H⟩
def mm.refl (sb:Ç) (g:G) (s:Ç):mm sb g s g s:=⟨.refl g,Ë _,λJ J e J=>e,λJ h=>h,λJ J J h=>h,λJ J J e=>e,rfl⟩
def GE (sb:Ç) (A:Ā) (L I:Ü) (gn:Ó) (t:È (AV×È AV)) (env:ϙ) (i:Ó) (c:Cf) (e:End) (D:Ç):Prop:=∃rit,GP sb I gn A.in1 c.g c.Z (c.s.setGen gn .running) env rit L t ((t.flatMap (·.2)).drop i) e D
def NU (N:fT c.Z v₀=C t) (hA:A.handled=U) (kind:env.scope.kind = .function) (kn:∀x∈[("namespaces" : Ì),"ns_stack","_reversed"],env.kindOf x=C .local) (r:c.s.heap.IsGen I gn) (src:VR c.g v₀ (.ref L)) (acT:∀b o,sb.heap.get? b=C o->∃o,c.s.heap.get? b=C o) (w:Vq sb A L t env i gs c) :
 rK A.in1 (GE sb A L I gn t env i c) gs (c.s.setGen gn .running):=by
 have H:A.in1.handled=U:=by simpa using hA
 have b:GB sb I gn c.g c.Z (c.s.setGen gn .running) (c.s.setGen gn .running):=⟨c.i.gens (AllBare.set c.i.bare rfl),.refl ..,acT,r,rfl⟩
 rcases w with⟨rfl,rfl,m,ns,V,Y,E⟩|⟨k,lv,it,p,fs,cl,rit,rfl,w⟩
 ·exact Iu H kind kn src N ns V Y E b
 ·(refine w _ ?_;rintro pre cur À j a0 p0 q0 Q z ra O nT E d f rfl D)
  refine D _ _ (O.typeIs (s:=c.s.setGen gn .running)) ?_
  have G:GX sb A.in1 c.g c.Z env rit L v₀ t:=⟨H,kind,kn _ Zz,src,N⟩
  have:=NV (s:=c.s.setGen gn .running) (q:=q0) (p:=p0) G (λb f=>A7 G À (pre++[cur]) (by rw[Q,ø];rfl) b f) Q ra O nT E d b (f.put λJ J J e=>e)
  rw[<-z]at this
  exact λΓ p' V Y=>(by obtain⟨e,s',l,y⟩:=this Γ p' V Y;exact⟨e,s',l,_,y⟩)
def NY.heap {g:G} {rit it:Ü} {fs:È YG} {k:aaz->Ϛ Ē} {s Q:Ç} {X:ZB} (w:NY sb A g env rit L t it fs k s X) (h:Q.heap=s.heap):NY sb A g env rit L t it fs k Q X:=
 (by refine w _ λpre cur H j a p q V À N O E Y acT f e D=>?_;exact(.mk pre cur H j a p q V À N (h▸O) E Y acT (f.put λJ J J e=>h▸e) e D))
def WK.B' {src:aa->Prop} (z:∀Z,src Z->fT Z v₀=C t) (hA:A.handled=U) (O:A.depth<ϕ) (kind:env.scope.kind = .function) (kn:∀x∈[("namespaces" : Ì),"ns_stack","_reversed"],env.kindOf x=C .local) :
 WK A sb I src (t.flatMap (·.2)) (N4 sb A L I gn v₀ t env) where
 next:=by
  rintro i c x j;refine j _ λgs V nI E Q G Y w h d=>?_
  refine vy hA (c.i.H.lim.keeps c.i.e!) O V Q (NU (z _ h) hA kind kn V G Y w) ((by rintro e s' ⟨_,h⟩;exact mW h)) (λv gd lv k c' p fs s₁ D=>?_) λr s₁ D=>?_
  ·obtain⟨rit,D⟩:=D
   have hq:=End.bare_of_quiet (mW D)
   cases D with
   | yld v lv k it p fs s x' l À b r w=>
    have e1:x'=x:=by have:=Õ head? À;rw[WJ,d]at this;exact(Ä this).symm
    have e2:l=(t.flatMap (·.2)).drop (i+1):=by have:=Õ List.tail À;rw[aaa]at this;exact this.symm
    subst e1 e2
    refine .mk ⟨c.g,c.Z,s₁.setGen gn _,b.i.gens (AllBare.set b.i.bare hq)⟩ v rfl ⟨.refl _,b.a.toks,b.a.keep,λJ h=>h,λJ J J h=>h,λk y hk e=>jj E k y hk (b.a.gens k y hk (jj E k y hk e)),b.a.os⟩ rfl r (.mk (End.susp v Ï lv k (BY it) p fs).genState b.gen nI E ?_ G b.old (.wait k lv it p fs _ rit rfl (w.heap rfl)))
    have acT:gn<s₁.gens.size:=by rw[b.gens];exact(ta ..).symm▸(ĩ.mp Q).1
    exact Ϝ acT
  ·obtain⟨rit,D⟩:=D
   cases D with
   | fin s À b=>
    have:=Õ head? À
    rw[WJ,d]at this;contradiction
 done:=by
  rintro c j;refine j _ λgs V nI E Q G Y w h=>?_
  refine vy hA (c.i.H.lim.keeps c.i.e!) O V Q (NU (z _ h) hA kind kn V G Y w) ((by rintro e s' ⟨_,h⟩;exact mW h)) (λv gd lv k c' p fs s₁ D=>?_) λr s₁ D=>?_
  ·obtain⟨rit,D⟩:=D
   cases D with
   | yld v lv k it p fs s x' l À b r w=>rw[abe]at À;contradiction
  ·obtain⟨rit,D⟩:=D
   cases D with
   | fin s À b=>
    refine⟨rfl,λh' m=>?_⟩
    exact .mk ⟨c.g,c.Z,{ s₁ with gens:=s₁.gens.setIfInBounds gn .finished,heap:=h' },(b.i.gens (AllBare.set (g:=gn) (x:=.finished) b.i.bare rfl)).keep (t:=s₁.toks) (Ë _) m⟩ rfl ⟨.refl _,b.a.toks,λx o e q=>m _ _ (b.a.keep x o e q),λJ h=>h,λJ J J h=>h,λk y hk e=>jj E k y hk (b.a.gens k y hk (jj E k y hk e)),b.a.os⟩ rfl
 frame:=λst a N=>st.frame a N
 self:=λst q=>(by refine st _ λJ V J J J J J J=>?_;exact wpAny_pyIter_gen V q)
 cls:=λst=>st _ λJ y J J J J J J=>(by obtain⟨o,_,_,N,hc,_⟩:=y;exact⟨o,_,N,hc,by rfl⟩)
end
def Ha:∀x∈E3.scope.names,x.2≠ql:=by decide +kernel
def qI:∀x∈[("self" : Ì),"ns_stack","_reversed","namespaces"],E3.scope.names.lookup x=C .local:=by decide +kernel
def G9 (o v:AV):bindB E3 [o,v] []=C [(("self" : Ì),o),(("ns_stack" : Ì),v),(("_reversed" : Ì),.bf .rev)]:=by kernel_rfl
inductive lK {n:Ó} (F:Fr n) (vs:Vs) (c₀ c:Cf) (v:AV) (t:È (AV×È AV)):Ê->Ç->Prop
 | mk (c':Cf) (I L:Ü) (env:ϙ) (a:Le F c₀ c') (e:At F vs c') (b:bt [] c.g c.s c'.g c'.s) (Z:c'.Z=c.Z) (kind:env.scope.kind = .function) (kn:∀x∈[("namespaces" : Ì),"ns_stack","_reversed"],env.kindOf x=C .local) (st:N4 c.s F.A L I c.s.gens.size v t env 0 c'):lK F vs c₀ c v t (.ref I) c'.s
section
variable {n:Ó} {O:ì} {r:Ev} {F:Fr n} {vs:Vs} {c c₀:Cf} {v o:AV} {u w:Ê} {N:NK} {R:RK} {X:XK} {t:È (AV×È AV)}
def Gn (a:Le F c₀ c) (e:At F vs c) (rv:VR c.g v u) (ro:VR c.g o w) (ht:fT c.Z v=C t):Î cx.M F.A (call (.ref T.it) [w,u]) (lK F vs c₀ c v t) bj c.s:=by
 have i:=c.i
 refine i.H.it _ λof acT ho hd hb V S sg hg m x0 À J J J J B=>?_
 refine i7 (codeAny_call_generator F.hA.call.r! (i.e! _ _ ho) hd (by rw[V];exact S.co) (by rw[V];exact sg) hb (À.keeps i.e!) (Ô (rU (A:=F.A.in1) (kws:=[]) (uk:=[]) B (i.X i.H.cls) (G9 o v) i.base (.cons ro (.cons rv .nil)) .nil λws Y=>?_) (λJ J x=>x) λJ J x=>x.elim))
 simp only[V,hg,m,x0]
 obtain⟨w1,ws,rfl,q1,Y⟩:=aG.b! (show aG c.g [o,v,.bf .rev] ws from Y)
 obtain⟨w2,ws,rfl,q2,Y⟩:=Y.b!
 obtain⟨w3,ws,rfl,q3,Y⟩:=Y.b!
 obtain rfl:=Y.d!
 obtain rfl:w3 = .type "reversed":=q3
 refine J6 ht _ λls hl J J=>?_
 (refine aI i hl q2 _ ?_;rintro L us rfl _ _ _)
 have kd:∀x∈[("self" : Ì),"ns_stack","_reversed"],E3.scope.names.lookup x=C .local:=λx hx=>qI x (ç [("namespaces" : Ì)] hx)
 refine Xq Ha (λp hp=>kd p.1 ?_) (λh' x1 x2=>?_) S.kind
 ·exact(of_mem_zip hp).1
 have hn:=af c.s
 have k1:∀b o,c.s.heap.get? b=C o->h'.get? b=C o:=λb o e=>x2.extBut b o (λz=>by rw[z,hn]at e;cases e) (Ñ _ e)
 have E:c.s.toks<=c.s.toks+3+1+1:=ë _ 5
 refine⟨i.H.lim.keeps λb o e=>k1 b o (i.e! b o e),?_⟩
 obtain⟨Q,I⟩:∃Q,({ cls:=.type "generator",data:=.fields #[.int c.s.gens.size 0,.str acT.name (c.s.toks+3),.str acT.qualname (c.s.toks+3+1)] }:ϑ)=Q:=⟨_,rfl⟩
 have j:∀b o,c.s.heap.get? b=C o->(h'.push Q).get? b=C o:=λb o e=>Ñ _ (k1 b o e)
 have hI:(h'.push Q).get? h'.objs.size=C Q:=ê _ (by rw[<-I];rfl)
 have nI:c.s.heap.get? h'.objs.size=U:=by
  cases q:c.s.heap.get? h'.objs.size with
  | none=>rfl
  | some o=>exact absurd (Ŀ (k1 _ _ q)) (Ő _)
 obtain⟨env,D⟩:∃env,newEnv E3.scope c.s.heap.objs.size ġ [] (acT.qualname++".<locals>.") (C T.it) acT.code U Ŏ=env:=⟨_,rfl⟩
 have i1:Inv c.g c.Z { c.s with heap:=h'.push Q,toks:=c.s.toks+3+1+1,gens:=c.s.gens.push (.fresh (.func E3.body env)) }:=(i.keep E j).gens (c.i.bare.push rfl)
 have l:bt [] c.g c.s c.g { c.s with heap:=h'.push Q,toks:=c.s.toks+3+1+1,gens:=c.s.gens.push (.fresh (.func E3.body env)) }:=⟨.refl _,E,λb o e J J=>j b o e,λJ J J h=>h,λJ J J h=>h,λb o e=>⟨o,j b o e⟩,λk y e=>by rw[Array.getElem?_push_lt (ĩ.mp e).1];exact(Υ _).symm.trans e,rfl⟩
 have fI:=i.fresh nI
 have fC:=i.fresh hn
 have hm:(h'.push Q).Ns env.locals (λx=>((["self","ns_stack","_reversed"]:ZC).zip [w1,.ref L,.type "reversed"]).reverse.lookup x):=by rw[<-D];exact ie x1 λo e=>Ñ _ e
 have nC:bG c.s c.g env.locals:=by rw[<-D];exact⟨hn,fC.2,fC.1⟩
 have d:lK F vs c₀ c v t (.ref h'.objs.size) { c.s with heap:=h'.push Q,toks:=c.s.toks+3+1+1,gens:=c.s.gens.push (.fresh (.func E3.body env)) }:=.mk ⟨c.g,c.Z,_,i1⟩ h'.objs.size L env (a.trans l.own) (e.go (c':=⟨c.g,c.Z,_,i1⟩) l) l rfl (by rw[<-D];exact S.kind) (λx hx=>by rw[<-D];exact qI x (by revert hx;simp only[Ċ,Ķ,Ϸ];rintro(h|h|h)<;>simp[h]))
  (.mk _ ⟨Q,_,_,hI,by rw[<-I],by rw[<-I],by rw[<-I]⟩ ⟨nI,fI.2,fI.1⟩ (Ë _) (Array.getElem?_push_size ..) q2 (λb o e=>⟨o,j b o e⟩) (.fresh rfl (by rw[JD]) _ hm (by rfl) (by rfl) nC))
 subst I D
 exact d
def RM (H:gA n r.e) {it ox ax:ñ} (D:OP it=C (ox,ax)) (e:At F vs c) {f:AV->Vs->aa->NK->Prop}
 (h:r.e F.ks F.ns ox vs c.Z (λo Z=>eW T Z o ("_iter_namespaces" : Ì)=C (.fn T.it o)/\r.e F.ks F.ns ax vs Z (λv Z=>wR v f vs Z N) X) X) :
 Î cx.M F.A (Ũ it F.env) (λu s=>∃c₁ v t,Le F c c₁/\At F vs c₁/\aY (λZ=>fT Z v=C t) f (t.flatMap (·.2)) vs c₁.Z N/\lK F vs c₁ c₁ v t u s) (XX F c X) c.s:=by
 rcases _:ù.mp D with⟨⟨ff,args,kws,Q⟩,acT,D⟩
 rcases _:ù.mp D with⟨⟨o',x',E⟩,g,D⟩
 refine aQ D λÀ D=>cW À λÀ q=>cW À λÀ hs=>cW À λhx hk=>?_
 obtain⟨B,j,D⟩:=ù.mp D
 refine GV D λI D=>?_
 obtain⟨rfl,rfl⟩:=ŋ (Ä D)
 have g:pA ff=C (o',x',E):=g
 have j:fU args=C B:=j
 have hk:kws.isEmpty=Í:=hk
 have q:E.endLine=Q.line:=ĕ.mp q
 simp only[iZ acT,mx g,cP j,Ġ.mp hk]
 have z:x'=("_iter_namespaces" : Ì):=ĕ.mp hx
 subst z
 have I:aO B=Ï:=by simpa using I
 have ha:dR [B] []=Í:=by show(_&&_)=Í;rw[show([B].any aO)=Ï by rw[V_,I];rfl];rfl
 refine Á (iY hs (bq H (.refl _ _ _) e h λc₁ o u1 l₁ a1 e₁ r1 h=>Á (ī ?_)))
 obtain⟨hm,h⟩:=h
 have L:Xm ([B].length+([]:È ς).length) (Ab Q (ŧ [B] F.env)) (ϔ Q (ū [] F.env))=Í:=by
  unfold Xm
  simp only[(og Q F.env [B]).2,show([B].any aO)=Ï by rw[V_,I];rfl];rfl
 dsimp only[methodCall]
 rw[L]
 have V:Ϥ Í o' F.env E Q=pure Q:=by unfold Ϥ;simp[q]
 refine Á (ä (Ô (qO c₁ r1 hm) (λfx s₂ y=>?_) λJ J x=>x))
 (refine y _ ?_;rintro g' i' b' ⟨d,w,m,x0⟩)
 obtain⟨fv,first⟩:=fx
 have d:fv = .ref T.it:=d
 have m:first=[w]:=m
 subst d m
 refine Á (ś V ?_)
 refine bU (args:=[B]) (kws:=[]) ha (bX ha ?_)
 simp only[bM (oh I)]
 refine Μ (bq H (c:=⟨g',_,s₂,i'⟩) (a1.trans b'.own) (e₁.go b') h λY v u2 l₂ a2 e₂ r2 h=>a8 (Xu ?_))
 refine cw h λt ht h=>⟨acz ?_ _ (Y.i.X Y.i.H.cls),Ô (Gn (.refl _ _ _) e₂ r2 (x0.mono l₂) ht) (λJ J y=>⟨Y,v,t,a2,e₂,h,y⟩) λJ J x=>x.elim⟩
 refine Y.i.H.it _ λJ J J J J J J J J J J J acT J J J J=>?_
 exact acT
def PZ (H:fj O n r) (D:oL O F) {Y it ox ax:ñ} {body:È ϳ} {p:ϗ} (g:OP it=C (ox,ax)) (e:At F vs c) (acT:cF it=Í)
 (h:r.e F.ks F.ns ox vs c.Z (λo Z=>eW T Z o ("_iter_namespaces" : Ì)=C (.fn T.it o)/\r.e F.ks F.ns ax vs Z (λv Z=>wR v (zD r F.ks F.ns Y body R X) vs Z N) X) X):Î cx.M F.A (ZQ (.For Y it body [] p) F.env) (QS F c N R) (XX F c X) c.s:=by
 refine wpAny_For (Ô (RM H.e g e h) (λu s y=>?_) λJ J x=>x) (set_plain acT)
 obtain⟨c₁,v,t,E,e₁,h,y⟩:=y
 obtain⟨c2,I,L,env,a2,e₂,b2,À,kind,kn,st⟩:=y
 have W:=WK.B' (sb:=c₁.s) (I:=I) (L:=L) (gn:=c₁.s.gens.size) (v₀:=v) (t:=t) (env:=env) (src:=λZ=>fT Z v=C t) (λJ h=>h) F.hA.handled F.hA.call.r! kind kn
 exact Ô (W.self st (Q:=λV B=>Ž cx.M F.A (.forLoop Y V body [] F.env) (λq B=>match q with | .ok f=>QS F c N R f B | .error e=>X1 cx.M F.A F.env (XX F c X) e B) B) (xE H D W E e₁ a2 e₂ st (by rw[À];exact h))) (λJ J x=>x) λJ J x=>x.elim
end
structure Acc (Y:Type) where
 R:G->ę->Ü->Y->Prop
 mono:∀{g g' h h' D b},g.le g'->(∀o,h.get? D=C o->h'.get? D=C o)->R g h D b->R g' h' D b
structure Cp {n:Ó} {Y:Type} (Q:Acc Y) (F:Fr n) (D:Ü) (c₀:Cf) (vs:Vs) (b:Y) (c:Cf):Prop where
 a:bt [F.env.locals,D] c₀.g c₀.s c.g c.s
 e:At F vs c
 q:Q.R c.g c.s.heap D b
 out:D∉c.g.ρ
 outI:c.g.I D=U
 there:∃o,c.s.heap.get? D=C o
inductive Vo {n:Ó} {Y:Type} (Q:Acc Y) (F:Fr n) (D:Ü) (c₀:Cf) (K:Vs×Y->aa->Prop):ky->Ç->Prop
 | mk (f:P_) (c:Cf) (vs:Vs) (b:Y) (h:Cp Q F D c₀ vs b c) (k:K (vs,b) c.Z):Vo Q F D c₀ K (.ok f) c.s
inductive Vp {n:Ó} {Y:Type} (Q:Acc Y) (F:Fr n) (D:Ü) (vs:Vs) (c:Cf) (K:Y->aa->Prop):Ç->Prop
 | mk (c':Cf) (b:Y) (h:Cp Q F D c vs b c') (k:K b c'.Z):Vp Q F D vs c K c'.s
structure E0 {n:Ó} (F:Fr n) (D:Ü):Prop where
 own:F.own=[F.env.locals]
 ne:∀b,uG F b->b≠D
structure Seen {n:Ó} (F:Fr n) (D:Ü) (s₁ s₀:Ç):Prop where
 own:∀b,uG F b\/b=D->∃o,s₀.heap.get? b=C o
 all:∀b o,s₁.heap.get? b=C o->∃o,s₀.heap.get? b=C o
 gens:s₁.gens.size<=s₀.gens.size
abbrev I7 (Y:Type):=Vs->Y->aa->(Y->aa->Prop)->Prop
def po {n:Ó} {Y:Type} (Q:Acc Y) (F:Fr n) (D:Ü) (e:ñ) (À:I7 Y):Prop:=
 ∀(vs:Vs) {b K c},À vs b c.Z K->Cp Q F D c vs b c->Î cx.M F.A (F4 e (.ref D) F.env) (λJ s'=>Vp Q F D vs c K s') bj c.s
def G1 {Y:Type} (r:Ev) (ks:bc) (ns:ZC) (À:I7 Y):È Ĥ->Vs->Y->aa->(Vs×Y->aa->Prop)->Prop
 | [],vs,b,Z=>λK=>À vs b Z λacc Z=>K (vs,acc) Z
 | g::gs,vs,b,Z=>λK=>r.e ks ns g.iter vs Z (λv Z=>cX (cF g.iter) <| vb r ks ns À gs g.target g.ifs v (vs,b) Z K) ik
def Ni {Y:Type} (r:Ev) (ks:bc) (ns:ZC) (À:I7 Y) (gs:È Ĥ) (O:ñ) (l:È ñ) (x:AV) (b:Vs×Y) (Z:aa) (K:Vs×Y->aa->Prop):Prop:=
 r.a ks ns O x b.1 Z (λvs Z=>ov r ks ns l vs Z (λc Z=>oK c (G1 r ks ns À gs vs b.2 Z K) (K (vs,b.2) Z)) ik) ik
def vc {Y:Type} {r:Ev} {ks:bc} {ns:ZC} {À:I7 Y} {gs:È Ĥ} {O:ñ} {l:È ñ} {src:AV} {b:Vs×Y} {Z:aa} {K:Vs×Y->aa->Prop} :
 vb r ks ns À gs O l src b Z K=lz src (Ni r ks ns À gs O l) b Z K:=by cases gs<;>rfl
section
variable {n:Ó} {tp:ì} {Y:Type} {Q:Acc Y} {r:Ev} {F:Fr n} {D:Ü} {vs x0:Vs} {b b':Y} {c c' c₀:Cf} {s₀:Ç} {e:ñ} {gens gs:È Ĥ} {B:Ó} {À:I7 Y} {u:Ê} {s':Ç} {O d:ñ} {l:È ñ}
def v0 {P:Prop} (x:XX F c ik u s'):P:=(by rcases x with⟨_,_,_,_,_,_,_,_,k⟩;exact k.elim)
def Cp.self (h:Cp Q F D c₀ vs b c):Cp Q F D c vs b c:=⟨.refl _ _ _,h.e,h.q,h.out,h.outI,h.there⟩
def Cp.up (a:bt [F.env.locals,D] c₀.g c₀.s c.g c.s) (h:Cp Q F D c vs b c'):Cp Q F D c₀ vs b c':=⟨a.trans h.a,h.e,h.q,h.out,h.outI,h.there⟩
def E0.out (f:E0 F D):D∉F.own:=λh=>f.ne _ (.inl rfl) (Ù.mp (f.own▸h)).symm
def Cp.go (h:Cp Q F D c₀ vs b c) (f:E0 F D) (a:Le F c c') (e:At F x0 c'):Cp Q F D c₀ x0 b c':=by
 obtain⟨o,G⟩:=h.there
 exact⟨h.a.trans (a.m! λx H=>Ċ.mpr (.inl (Ù.mp (f.own▸H)))),e,Q.mono a.le (λo e=>a.keep _ _ e h.out f.out) h.q,a.new _ _ G h.out,a.newI _ _ G h.outI,a.stay _ _ G⟩
def Cp.it (h:Cp Q F D c₀ vs b c) (w:Seen F D c₀.s s₀) (a:mm s₀ c.g c.s c'.g c'.s):Cp Q F D c₀ vs b c':=by
 obtain⟨o,G⟩:=h.there
 have k:∀o,c.s.heap.get? D=C o->c'.s.heap.get? D=C o:=λo e=>a.keep _ _ e (.inl (w.own _ (.inr rfl)))
 exact⟨h.a.w! a w.all w.gens,h.e.stepI a (w.own _ (.inl (.inl rfl))) (λx b k E=>w.own _ (.inl (.inr (.inl ⟨x,k,E⟩)))) (λf I L H=>w.own _ (.inl (.inr (.inr ⟨f,I,H⟩)))),Q.mono a.le k h.q,a.new _ h.out,a.newI _ _ G h.outI,o,k o G⟩
def wY (Q:Acc Y) (F:Fr n) (D:Ü) (r:Ev) (e:ñ) (À:I7 Y) (B:Ó) (o:Æ Ĥ) (gs:È Ĥ):Prop:=
 ∀(k:Ϛ Ē) {P:Ē->Ç->Prop} {E:Ê->Ç->Prop} {vs b K c},Cp Q F D c vs b c->G1 r F.ks F.ns À gs vs b c.Z K->
  (∀c' x0 b',Cp Q F D c x0 b' c'->K (x0,b') c'.Z->Î cx.M F.A k P E c'.s)->Î cx.M F.A (deeper e B (.ref D) F.env k o) P E c.s
def w9 (Q:Acc Y) (F:Fr n) (D:Ü) (r:Ev) (e:ñ) (À:I7 Y) (B:Ó) (O:ñ) (l:È ñ) (gs:È Ĥ):Prop:=
 ∀(I:Ü) {src xs St s₀},WK F.A s₀ I src xs St->∀{c₀},Seen F D c₀.s s₀->∀{K:Vs×Y->aa->Prop} (m j:Ó) {c vs b},xs.length - j<m->j<=xs.length->Cp Q F D c₀ vs b c->St j c->aY src (Ni r F.ks F.ns À gs O l) (xs.drop j) (vs,b) c.Z K->
  Ž cx.M F.A (.compLoop e B (.ref I) (.ref D) F.env) (Vo Q F D c₀ K) c.s
def A6 (R:fj tp n r) (acT:MM e gens) (f:E0 F D) (hg:gens[B]? = C ⟨O,d,l,0⟩) (H:wY Q F D r e À B gens[B+1]? gs):w9 Q F D r e À B O l gs:=by
 intro I src xs St s₀ W c₀ w K m
 have own:∀b∈F.own,∃o,s₀.heap.get? b=C o:=λb z=>w.own b (.inl (.inl (Ù.mp (f.own▸z))))
 have E:∀b∈[F.env.locals,D],∃o,s₀.heap.get? b=C o:=λb z=>w.own b ((Ċ.mp z).imp .inl Ù.mp)
 induction m with
 | zero=>exact λj c vs b h=>absurd h (Ϻ _)
 | succ m ih=>
  intro j c vs b hm hj cp st h
  refine ν ?_
  simp only[acT.und,acT.den]
  refine wpAny_noted ?_
  simp only[acT.turn hg]
  refine Á (ī ?_)
  by_cases hlt:j<xs.length
  ·rw[pT hlt]at h
   have L:xs.length - (j+1)<m:=ô (aad hlt (Ň j)) (ž hm)
   refine Á (Ô (W.next st h.1 (æ hlt)) (λJ J y=>?_) λJ J x=>x.elim)
   obtain⟨q,u,hu,a2,G,q2,A⟩:=y
   subst hu
   have p2:=cp.it w a2
   obtain⟨o,T,hi,hc,hT⟩:=W.cls A
   have h2:=h.2
   rw[<-G]at h2
   refine Á (vz hi hc hT ?_)
   refine Á (Ô (R.a q h2 p2.e q2) (λJ J y=>?_) λJ J x=>v0 x)
   obtain⟨c3,vs3,a3,e3,h3⟩:=y
   refine Á (Ô (IH R.t (.refl _ _ _) e3 h3) (λbo J y=>?_) λJ J x=>v0 x)
   obtain⟨c4,_,a4,e4,h4⟩:=y
   have i:=(p2.go f a3 e3).go f a4 e4
   have g:=W.frame (W.frame A a3 own) a4 own
   induction bo with
   | false=>exact Å ⟨acT.quiet ..,ih (j+1) L hlt i g h4⟩
   | true=>exact H _ i.self h4 λc5 vs5 b5 p5 h5=>Å ⟨acT.quiet ..,ih (j+1) L hlt (p5.up i.a) (W.frame g p5.a E) h5⟩
  ·obtain rfl:j=xs.length:=ţ hj (ų.mp hlt)
   rw[abe]at h
   refine Á (Ô (W.done st h.1) (λJ J y=>?_) λJ J x=>x.elim)
   obtain⟨q,hr,a2,G⟩:=y
   subst hr
   exact Å (.mk _ q vs b (cp.it w a2) (by rw[G];exact h.2))
def FY (G:po Q F D e À):wY Q F D r e À B U []:=λJ J J J J J J H h k=>
 Á (Ô (G _ h H) (λJ J y=>(by rcases y with⟨c',b',p,q⟩;exact k c' _ b' p q)) λJ J x=>x.elim)
def ve {it:Ê} {k:Ϛ Ē} {G:ϙ} {H:Ĥ} (I:H.is_async=0) :
 deeper e B it G k (C H)=(Ũ H.iter G >>= λx=>ϧ H.iter.pos >>= λJ=>j2 H.iter G x >>= λx=>pw [x] (sz x) >>= λi=>acl (.compStart e (B+1) i it G) G >>= λJ=>k):=by
 dsimp only[deeper]
 simp only[I,Ε,ĭ,δ]
def Cp.seen (h:Cp Q F D c₀ vs b c):Seen F D c.s c.s:=⟨λx G=>G.elim h.e.ex λz=>z▸h.there,λJ o e=>⟨o,e⟩,Ë _⟩
def rE (hA:B0 n F.A) {v:AV} {f:AV->Vs×Y->aa->(Vs×Y->aa->Prop)->Prop} {x:Vs×Y} {K:Vs×Y->aa->Prop} (r:VR c.g v u) (h:lz v f x c.Z K) {P:Ê->Ç->Prop}
 (k:∀{src xs it s'},fW F.A c src xs it s'->aY src f xs x c.Z K->P it s'):Î cx.M F.A (sz u) P bj c.s:=
 jw h (λJ hk h=>Ô (AW hA.handled (wS hk▸r)) (λJ J y=>(by refine y _ λJ G y=>?_;exact k y (h _ G))) λJ J x=>x) λJ h=>cw h λJ H h=>Ô (AU hA.handled r H) (λJ J y=>k y h) λJ J x=>x
def Cr (R:fj tp n r) (acT:MM e gens) (f:E0 F D) {H:Ĥ} (hg:gens[B+1]? = C H) (i:H.is_async=0) (L:w9 Q F D r e À (B+1) H.target H.ifs gs) :
 wY Q F D r e À B (C H) (H::gs):=λk P E vs b K c w h kk=>by
 rw[ve i]
 refine Á (Ô (R.e c h w.e) (λJ J y=>?_) λJ J x=>v0 x)
 obtain⟨c₁,v,u,a1,m,q1,h⟩:=y
 obtain⟨A,h⟩:=bV h
 refine Á (ī ?_)
 rw[set_plain A]
 refine Á (Å (Á (ä ?_)))
 rw[vc]at h
 have j:=w.go f a1 m
 refine Ô (rE F.hA q1 h λ{_ xs _ _} y h=>?_) (λJ J x=>x) λJ J x=>x.elim
 obtain⟨c2,I,St,rfl,t,a2,g,W,st⟩:=y
 have p2:Cp Q F D c₁ vs b c2:=j.self.go f a2.own (m.go a2)
 have G:=L I (W c₁.s) j.seen (K:=K) (xs.length+1) 0 (Ň _) (ï _) p2 (st _ t) (by rw[g];exact h)
 refine Á (wpAny_runOwn (φ (jd acT hg i G ((W c₁.s).self (st _ t) G)) λz s7 h7=>?_))
 obtain⟨fl,c3,q,b3,p3,k3⟩:=h7
 exact kk c3 q b3 (p3.up j.a) k3
def Cq (R:fj tp n r) (acT:MM e gens) (E:po Q F D e À) (f:E0 F D) :
 ∀(gs:È Ĥ) (B:Ó) (O d:ñ) (l:È ñ),gens.drop B=⟨O,d,l,0⟩::gs->(∀g∈gs,g.is_async=0)->w9 Q F D r e À B O l gs:=by
 intro gs
 induction gs with
 | nil=>
  intro B O d l I _
  have A:gens[B]? = C ⟨O,d,l,0⟩:=by rw[<-WJ,I];rfl
  have G:gens[B+1]? = U:=by rw[<-WJ,<-aaa,I];rfl
  exact A6 R acT f A (G▸FY E)
 | cons H gs q=>
  intro B O d l I L
  have A:gens[B]? = C ⟨O,d,l,0⟩:=by rw[<-WJ,I];rfl
  have G:gens[B+1]? = C H:=by rw[<-WJ,<-aaa,I];rfl
  have j:=L H ã
  refine A6 R acT f A (G▸Cr R acT f G j (q (B+1) H.target H.iter H.ifs ?_ λg m=>L g (à _ m)))
  rw[<-aaa,I];show H::gs=_;rcases H;subst j;exact rfl
end
noncomputable def i8 (env:ϙ):È (Ì×NameKind)->È (Ì×Ü)->Æ (È (Ì×Ü))
 | [],acc=>C acc
 | (n,k)::r,acc=>if k==.free then(match env.cells.lookup n with|some c=>i8 env r ((n,c)::acc)|none=>U)else i8 env r acc
def i9 {env:ϙ} {n:Ì} {k:NameKind} {r:È (Ì×NameKind)} {acc:È (Ì×Ü)}:i8 env ((n,k)::r) acc=if k==.free then(match env.cells.lookup n with|some c=>i8 env r ((n,c)::acc)|none=>U)else i8 env r acc:=rfl
set_option tactic.hygienic true in def xq {sc:Α} {env:ϙ} {D:È (Ì×Ü)} (h:i8 env sc.names []=C D):Ze sc env=pure D:=by
 have key:∀(names:È (Ì×NameKind)) (acc D:È (Ì×Ü)),i8 env names acc=C D->
  (forIn names acc λ(x:Ì×NameKind) I=>match x with|(name,kind)=>if(kind==ek)=Í then do let c <-cellOf env name;pure (Ŵ ((name,c)::I))else pure (Ŵ I):Ϛ (È (Ì×Ü)))=pure D:=by
  intro names
  induction names with
  | nil=>intro acc D h;obtain rfl:=Ä h;rfl
  | cons p r L=>
   obtain⟨n,k⟩:=p
   intro acc D h
   simp only[ϟ]
   rw[i9]at h
   split at h
   ·rename_i hk
    split at h
    ·rename_i c hc
     simp only[hk,WR]
     unfold cellOf
     rw[hc]
     exact L _ _ h
    ·contradiction
   ·rename_i hk
    simp only[hk,ĭ,δ,pure_bind]
    exact L _ _ h
 dsimp only[Ze]
 have:=key sc.names [] D h
 simp only[bind_pure]
 first|exact this|simpa using this
set_option tactic.hygienic true in def u9 {env:ϙ}:∀{names:È (Ì×NameKind)} {acc D:È (Ì×Ü)},i8 env names acc=C D->∀x c,D.lookup x=C c->acc.lookup x=C c\/((x,ek)∈names/\env.cells.lookup x=C c):=by
 intro A;induction A with
 | nil=>
  exact @λacc D h x c e=>by obtain rfl:=Ä h;exact .inl e
 | cons E r Y=>
  obtain⟨n,k⟩:=E;exact @λacc D h x c e=>by
   rw[i9]at h
   split at h
   ·rename_i hk
    split at h
    ·rename_i d hd
     rcases Y h x c e with q|⟨I,L⟩
     ·simp only[ſ]at q
      split at q
      ·rename_i hx
       obtain rfl:=Ä q
       rw[ĕ]at hx hk
       subst hx hk
       exact .inr ⟨by simp,hd⟩
      ·exact .inl q
     ·exact .inr ⟨by simp[I],L⟩
    ·contradiction
   ·rcases Y h x c e with q|⟨I,L⟩
    ·exact .inl q
    ·exact .inr ⟨by simp[I],L⟩
def FR {env:ϙ}:∀{names:È (Ì×NameKind)} {acc D:È (Ì×Ü)},i8 env names acc=C D->∀x,(acc.lookup x).isSome=Í->(D.lookup x).isSome=Í:=by
 intro Y;induction Y with
 | nil=>
  exact @λacc D h x e=>by obtain rfl:=Ä h;exact e
 | cons L r I=>
  obtain⟨n,k⟩:=L;exact @λacc D h x e=>by
   rw[i9]at h
   split at h
   ·split at h
    ·refine I h x ?_
     simp only[ſ]
     split
     ·rfl
     ·exact e
    ·contradiction
   ·exact I h x e
def FT {env:ϙ}:∀{names:È (Ì×NameKind)} {acc D:È (Ì×Ü)},i8 env names acc=C D->∀x,(x,ek)∈names->(D.lookup x).isSome=Í:=by
 intro g;induction g with
 | nil=>
  exact @λI L Y E A=>by first|exact nomatch A|exact nomatch E|exact nomatch Y|exact nomatch L|exact nomatch I
 | cons N r acT=>
  obtain⟨n,k⟩:=N;exact @λacc D h x e=>by
   rw[i9]at h
   rcases Ċ.mp e with q|q
   ·rcases q
    rw[Û (by rfl)]at h
    split at h
    ·exact FR h _ (by simp)
    ·contradiction
   ·split at h
    ·split at h
     ·exact acT h x q
     ·contradiction
    ·exact acT h x q
set_option tactic.hygienic true in def Cm {env:ϙ}:∀{names:È (Ì×NameKind)} {acc:È (Ì×Ü)},(∀x,(x,ek)∈names->∃c,env.cells.lookup x=C c)->∃D,i8 env names acc=C D:=by
 intro A;induction A with
 | nil=>
  exact @λacc J=>⟨acc,rfl⟩
 | cons E r L=>
  obtain⟨n,k⟩:=E;exact @λacc h=>by
   rw[i9]
   split
   ·rename_i hk
    rw[ĕ]at hk
    subst hk
    obtain⟨c,Y⟩:=h n (by simp)
    rw[Y]
    exact L λx I=>h x (by simp[I])
   ·exact L λx I=>h x (by simp[I])
set_option tactic.hygienic true in def nM {sc:Α} {env:ϙ} (x:Ì):KR (sc.names.lookup x) ((acC sc env).names.lookup x):=by
 show KR (sc.names.lookup x) ((sc.names.map λ(n,k)=>if(k==.free&&env.scope.kind==.function&&env.kindOf n==C .cell)then(n,ql)else(n,k)).lookup x)
 induction sc.names with
 | nil=>exact .inl rfl
 | cons p r I=>
  obtain⟨n,k⟩:=p
  rw[Ī]
  simp only
  split
  ·rename_i hc
   simp only[ſ,ſ]
   split
   ·simp only[ú,ĕ]at hc
    exact .inr ⟨by rw[hc.1.1],rfl⟩
   ·exact I
  ·simp only[ſ,ſ]
   split
   ·exact .inl rfl
   ·exact I
structure jN (ks:bc) (sc:Α):Prop where
 kind:sc.kind = .function
 nodup:(sc.names.map (·.1)).Nodup
 names:∀p∈sc.names,p.2 = .local\/p.2 = .globalImplicit\/(p.2 = .free/\(ks.lookup p.1=C .cell\/ks.lookup p.1=C .free))
 lam:sc.names.lookup ("resolved_names" : Ì)=U
def pE {sc:Α} (h:xt ks sc=Í):jN ks sc:=by
 unfold xt at h
 simp only[ú,j_,ĕ,ũ,ϸ]at h
 refine⟨h.1.1.1,h.1.2,λp Y=>?_,by simpa using h.1.1.2⟩
 have:=h.2 p Y
 rcases this with(I|I)|⟨I,L⟩
 ·exact .inl I
 ·exact .inr (.inl I)
 ·exact .inr (.inr ⟨I,L⟩)
def dc {names:È (Ì×NameKind)} (h:(names.map (·.1)).Nodup) {x:Ì} {k:NameKind} (I:(x,k)∈names):names.lookup x=C k:=by
 induction names with
 | nil=>simp at I
 | cons p r L=>
  obtain⟨n,k'⟩:=p
  simp only[Ī,ϊ]at h
  simp only[ſ]
  rcases Ċ.mp I with q|q
  ·rcases q;simp
  ·have:(x==n)=Ï:=by
    rw[abU];intro z;subst z;exact h.1 (ě.mpr ⟨(x,k),q,rfl⟩)
   rw[this];exact L h.2 q
def t4 {names:È (Ì×NameKind)} {x:Ì}:x∈bk names↔(x,NameKind.local)∈names:=by
 dsimp only[bk]
 simp only[ě,þ,ĕ,Prod.exists]
 constructor
 ·rintro⟨a,b,⟨I,L⟩,rfl⟩;subst L;exact I
 ·intro h;exact⟨x,.local,⟨h,rfl⟩,rfl⟩
def Ek {cn:ZC} (I:x∉cn):bD x (cn++ns) (cn.map (λJ=>U)++vs)=bD x ns vs:=by
 delta bD
 rw[WL,Ý I,ĺ (by simp),length_map,aat]
section
variable {n:Ó} {F:Fr n} {sc:Α} {D:È (Ì×Ü)} {B:ϙ} {x:Ì} {c:Cf} {vs:Vs}
def ja (K:jN F.ks sc) (G:i8 F.env sc.names []=C D) {b:Ü} (h:D.lookup x=C b):oM F.ks x/\F.env.cells.lookup x=C b/\(x,ek)∈sc.names:=by
 rcases u9 G x b h with q|⟨I,q⟩
 ·contradiction
 ·rcases K.names _ I with h|h|⟨_,h⟩
  ·cases h
  ·cases h
  ·exact⟨h,q,I⟩
def l6 {ks:bc} (K:jN ks sc) (x:Ì):sc.names.lookup x≠C .cell:=λI=>by
 rcases K.names _ (mem_of_lookup I)with h|h|⟨h,_⟩<;>contradiction
def HO {ks:bc} (h:∀x,ks.lookup x≠C .cell):LJ ks B=[B.locals]:=by
 unfold LJ
 rw[abf.mpr λp J=>Ý (h p.1)]
def Fr.comp (F:Fr n) (K:jN F.ks sc) (G:i8 F.env sc.names []=C D) (O:B.scope=acC sc F.env) (Q:B.globals=F.env.globals) (H:B.cells=D) (À:B.builtins=F.env.builtins) (V:B.code=F.env.code):Fr n where
 A:=F.A
 ks:=sc.names
 ns:=bk sc.names++F.ns
 env:=B
 frs:=F.frs
 hA:=F.hA
 fn:=by rw[O];exact K.kind
 gl:=Q.trans F.gl
 bl:=À.trans F.bl
 code:=⟨by rw[V];exact F.code.1,λh=>by rw[K.lam]at h;cases h⟩
 kinds:=λx=>by show KR _ (B.scope.names.lookup x);rw[O];exact nM x
 mem:=λx I=>I.elim (λh=>ç _ (t4.mpr (mem_of_lookup h))) λh=>absurd h (l6 K x)
 apart:=λx y b I acT=>F.apart x y b (ja K G (H▸I)).2.1 (ja K G (H▸acT)).2.1
 fr:=F.fr
 fk:=F.fk
 fc:=λe E L Y x b I=>F.fc e E L Y x b (ja K G (H▸I)).2.1
section
variable (K:jN F.ks sc) (G:i8 F.env sc.names []=C D) (O:B.scope=acC sc F.env) (Q:B.globals=F.env.globals) (H:B.cells=D) (À:B.builtins=F.env.builtins) (V:B.code=F.env.code)
def JK (e:At F vs c) {m:Ì->Æ Ê} (A:c.s.heap.Ns B.locals m) (z:B.locals∉c.g.ρ) (w:c.g.I B.locals=U) (r:∀b,uG F b->b≠B.locals):At (F.comp K G O Q H À V) ((bk sc.names).map (λJ=>U)++vs) c:=by
 have len:((bk sc.names).map λJ=>(U:Æ AV)).length=(bk sc.names).length:=length_map _
 refine⟨by rw[Ð,len,e.len];exact(Ð ..).symm,(.mk m A (λx v L hv=>?_)),⟨z,w⟩,λx L=>?_,e.frm⟩
 ·have E:x∈bk sc.names:=t4.mpr (mem_of_lookup L)
  have N:=gf E
  have d:bD x (bk sc.names++F.ns) ((bk sc.names).map (λJ=>U)++vs)=U:=by
   unfold bD
   simp only[WL,Û E,ľ (len.symm▸N),Ė,æ N];rfl
  exact aD (d.symm.trans hv)
 ·rcases L with L|L
  ·exact absurd L (l6 K x)
  ·obtain⟨b,acT⟩:=š.mp (FT G x (mem_of_lookup L))
   obtain⟨k,q,_⟩:=ja K G acT
   refine e.cel x k _ λb' Y j l c3 o y cv=>?_
   rw[q]at Y;obtain rfl:=Ä Y
   refine(.mk b (by show B.cells.lookup x=_;rw[H];exact acT) j l (r _ (.inr (.inl ⟨x,k,q⟩))) o y (λv hv=>cv v ?_))
   have L:sc.names.lookup x=C .free:=L
   have:bD x (bk sc.names++F.ns) ((bk sc.names).map (λJ=>U)++vs)=C v:=hv
   rwa [Ek λA=>by rw[dc K.nodup (t4.mp A)]at L;cases L]at this
def vd {b:Ü} (h:uG (F.comp K G O Q H À V) b):b=B.locals\/uG F b:=by
 rcases h with h|⟨x,_,h⟩|h
 ·exact .inl h
 ·obtain⟨k,q,_⟩:=ja K G (H▸show B.cells.lookup x=_ from h)
  exact .inr (.inr (.inl ⟨x,k,q⟩))
 ·exact .inr (.inr (.inr h))
end
end
structure I6 {n:Ó} {L:Type} (Q:Acc L) (F:Fr n) (vs:Vs) (c:Cf) (b:L) (D acT:Ü) (c':Cf):Prop where
 nsp:∃m,c'.s.heap.Ns acT m
 stp:Le F c c'
 er:At F vs c'
 acc:Q.R c'.g c'.s.heap D b
 oD:D∉c'.g.ρ
 iD:c'.g.I D=U
 nD:c.s.heap.get? D=U
 oC:acT∉c'.g.ρ
 iC:c'.g.I acT=U
 nC:c.s.heap.get? acT=U
 ne:D≠acT
section
variable {n:Ó} {j:ì} {L:Type} {Q:Acc L} {r:Ev} {F:Fr n} {D:Ü} {vs O:Vs} {b l:L} {c c' c₀:Cf} {s₀:Ç} {e:ñ} {gens gs:È Ĥ} {À:Ó} {u:Ê} {N:Ç} {B G:ñ} {H:È ñ} {sc:Α} {I:Ü}
def A5 (s:Ç) (I:Ü):Ç:={ s with heap:=ib s.heap (·==I) }
def less_get {s:Ç} {b:Ü} {o:ϑ} (h:s.heap.get? b=C o) (E:b≠I):(A5 s I).heap.get? b=C o:=(cY ..).trans (by rw[Œ E];exact h)
def less_none (s:Ç) (I:Ü):(A5 s I).heap.get? I=U:=(cY ..).trans (by rw[ş];rfl)
def pF (R:fj j n r) (acT:MM e gens) (x1:gens=⟨B,G,H,0⟩::gs) (w5:∀g∈gs,g.is_async=0) (K:jN F.ks sc) {x9:bc->È Ì->I7 L} {b0:L} {newAcc:Ϛ Ê} {ao:ϑ} {use:Æ (Ê->Ϛ ab)} {pos:ϗ} {P:Ê->Ç->Prop} {E:Ê->Ç->Prop} {Jj:Vs×L->aa->Prop}
 (hp:cF G=Í) (h:r.e F.ks F.ns G vs c.Z (λv Z=>vb r sc.names (bk sc.names++F.ns) (x9 sc.names (bk sc.names++F.ns)) gs B H v ((bk sc.names).map (λJ=>U)++vs,b0) Z Jj) ik)
 (u4:∀{s:Ç} {P:Ê->Ç->Prop},P (.ref s.heap.objs.size) { s with heap:=s.heap.push ao }->Î cx.M F.A newAcc P E s) (w7:ao.isFreed=Ï) (hq:∀g h D,h.get? D=C ao->(D==Κ)=Ï->Q.R g h D b0)
 (w6:∀(F':Fr n) D,E0 F' D->po Q F' D e (x9 F'.ks F'.ns)) (e0:At F vs c)
 (w4:∀O b c' D acT,I6 Q F vs c b D acT c'->Jj (O,b) c'.Z->match use with
  | none=>∀h',ζ acT c'.s.heap h'->P (.ref D) { c'.s with heap:=h' }
  | some u=>Î cx.M F.A (u (.ref D)) (λJ y2=>∃m,y2.heap.Ns acT m/\∀h',ζ acT y2.heap h'->P .none { y2 with heap:=h' }) E c'.s) :
 Î cx.M F.A (ZP e sc F.env pos newAcc Ï (Ũ G F.env) use) P E c.s:=by
 obtain⟨cl,x0⟩:=Cm (env:=F.env) (names:=sc.names) (acc:=[]) λx hx=>by
  rcases K.names _ hx with h|h|⟨_,h⟩
  ·contradiction
  ·cases h
  ·refine e0.cel x h _ λc hc J J J J J J=>?_;exact⟨c,hc⟩
 refine wpAny_comprehension_free (g:=⟨B,G,H,0⟩) (gs:=gs) (by rw[acT.clauses,x1]) (set_plain hp) (xq x0) K.kind (λx hx hl=>dc K.nodup (by rw[<-hl];exact hx)) ?_
 refine Ô (R.e c h e0) (λJ J y=>?_) λJ J x=>v0 x
 obtain⟨c₁,v,u,a1,e1,q1,h⟩:=y
 rw[vc]at h
 refine Ô (rE F.hA q1 h λ{_ xs _ _} y h=>?_) (λJ J x=>x) λJ J x=>x.elim
 obtain⟨t,I,St,rfl,n2,a2,r0,W,st⟩:=y
 refine u4 ?_
 refine Xq (λx hx hc=>l6 K x.1 (dc K.nodup (by rw[<-hc];exact hx))) (by intro x hx;simp at hx) (λh₁ x7 x8=>?_) K.kind
 dsimp only at x7 x8 ⊢
 obtain⟨oI,_,y1,_,_⟩:=(W c₁.s).cls (st _ n2)
 have u1:=t9 t
 have z3:(t.s.heap.push ao).get? t.s.heap.objs.size=C ao:=ê _ w7
 have r1:=af (t.new ao).s
 have x2:=af t.s
 generalize hD:t.s.heap.objs.size=D at x7 x8 z3 x2 u1 ⊢
 have eH:(t.new ao).s.heap=t.s.heap.push ao:=rfl
 generalize z1:(t.s.heap.push ao).objs.size=CC at x7 x8 ⊢
 have z2:D≠CC:=by rw[<-z1,<-hD,e8];exact Ĝ (Ň _)
 have nC:(t.s.heap.push ao).get? CC=U:=by rw[<-z1];exact r1
 have kp:∀b o,t.s.heap.get? b=C o->(t.s.heap.push ao).get? b=C o:=λb o e=>Ñ _ e
 have x6:t.s.heap.get? CC=U:=by
  cases q:t.s.heap.get? CC with
  | none=>rfl
  | some o=>rw[kp _ _ q]at nC;cases nC
 have x3:∀b o,(t.s.heap.push ao).get? b=C o->b≠CC:=λb o e z=>by rw[z,nC]at e;cases e
 have x5:∀b o,(t.s.heap.push ao).get? b=C o->h₁.get? b=C o:=λb o e=>x8.extBut b o (x3 b o e) (Ñ _ e)
 have keep:∀b o,t.s.heap.get? b=C o->h₁.get? b=C o:=λb o e=>x5 b o (kp b o e)
 obtain⟨w2,w3⟩:=t.i.fresh x2
 obtain⟨v3,w1⟩:=t.i.fresh x6
 have ht:t.s.toks<=t.s.toks+([]:ZD).length:=Ë _
 have e2:=e1.go a2
 let c3:Cf:=⟨t.g,t.Z,{ t.s with heap:=h₁,toks:=t.s.toks+([]:ZD).length },t.i.keep ht keep⟩
 have a3:bt [] t.g t.s c3.g c3.s:=.keeps ht keep
 have n1:∀{b},t.s.heap.get? b=U->c₁.s.heap.get? b=U:=λh=>a2.none_ h
 have n0:∀{b},t.s.heap.get? b=U->c.s.heap.get? b=U:=λh=>a1.none_ (n1 h)
 have u2:c3.s.heap.get? D=C ao:=x5 _ _ z3
 have body:∀d:ϙ,d.scope=acC sc F.env->d.locals=CC->d.globals=F.env.globals->d.cells=cl->d.builtins=F.env.builtins->d.code=F.env.code->
  Ž cx.M F.A (.compStart e 0 (.ref I) (.ref D) d) (compPost cx.M F.A E use P (.ref D) CC) c3.s:=by
  intro d q1 q2 q3 q4 q5 q6
  subst q2
  have e3:At F vs c3:=e2.go a3
  have y3:∀b,uG F b->∃o,t.s.heap.get? b=C o:=λb hb=>e2.ex hb
  have Ec:=JK K x0 q1 q3 q4 q5 q6 e3 x7 w1 v3 λb hb z=>by obtain⟨o,ho⟩:=y3 b hb;rw[z,x6]at ho;cases ho
  have cf:E0 (F.comp K x0 q1 q3 q4 q5 q6) D:=⟨HO (l6 K),λb hb=>(vd K x0 q1 q3 q4 q5 q6 hb).elim (λz=>z▸z2.symm) λhb z=>by obtain⟨o,ho⟩:=y3 b hb;rw[z,x2]at ho;cases ho⟩
  have p3:Cp Q (F.comp K x0 q1 q3 q4 q5 q6) D c₁ ((bk sc.names).map (λJ=>U)++vs) b0 c3:=⟨(a2.trans a3).own,Ec,hq _ _ _ u2 u1,w3,w2,_,u2⟩
  have v1:∀b,(∃o,c₁.s.heap.get? b=C o)->b≠I:=(by rintro b ⟨o,ho⟩ z;exact by rw[z,n2]at ho;cases ho)
  have w:Seen (F.comp K x0 q1 q3 q4 q5 q6) D c₁.s (A5 c3.s I):=by
   refine⟨λb hb=>?_,λb o ho=>?_,?_⟩
   ·obtain⟨o,ho⟩:∃o,c3.s.heap.get? b=C o:=hb.elim Ec.ex λz=>z▸p3.there
    refine⟨o,less_get ho λz=>?_⟩
    rcases hb with hb|hb
    ·rcases vd K x0 q1 q3 q4 q5 q6 hb with h|h
     ·exact x3 _ _ (kp _ _ y1) (z.symm.trans h)
     ·exact v1 b (e1.ex h) z
    ·simp only[<-z,hb,x2]at y1;cases y1
   ·obtain⟨o',q7⟩:=(a2.trans a3).stay b o ho
    exact⟨o',less_get q7 (v1 b ⟨o,ho⟩)⟩
   ·refine ņ λq0=>?_
    have:=(a2.trans a3).gens c3.s.gens.size _ (Υ q0)
    exact Ő _ (ĩ.mp this).1
  have v2:=(W (A5 c3.s I)).frame (st _ (less_none _ _)) a3 (λb hb=>nomatch hb)
  have x4:=Cq R acT (w6 _ D cf) cf gs 0 B G H (by rw[x1];rfl) w5 I (W _) w (xs.length+1) 0 (Ň _) (ï _) p3 v2 (by simp only[<-r0]at h;exact h)
  refine φ (jd acT (by rw[x1];rfl) rfl x4 ((W _).self v2 x4)) ?_
  intro z N hz
  obtain⟨fl,c4,r2,b4,p4,k4⟩:=hz
  have u3:∃m,c4.s.heap.Ns d.locals m:=by refine p4.e.loc _ λm hm J=>?_;exact⟨m,hm⟩
  have stp:Le F c c4:=a1.trans (p4.a.fresh λb hb=>(Ċ.mp hb).elim (λz=>z▸n1 x6) λz=>(Ù.mp z)▸n1 x2).own
  have e4:At F vs c4:=e1.go (p4.a.fresh λb hb=>(Ċ.mp hb).elim (λz=>z▸n1 x6) λz=>(Ù.mp z)▸n1 x2)
  have this:=w4 r2 b4 c4 D d.locals ⟨u3,stp,e4,p4.q,p4.out,p4.outI,n0 x2,p4.e.locA.1,p4.e.locA.2,n0 x6,z2⟩ k4
  revert this
  cases use with
  | none=>exact λthis=>⟨_,u3.choose_spec,this⟩
  | some u=>exact λthis=>this
 exact body _ rfl rfl rfl rfl rfl rfl
end
def E9 (H:Prop) (g:G) (h:ę) (D:Ü) (b:ZB):Prop:=∀(us:ZA) (p:h.PlainList D us.toArray) (r:aG g b us) (z:b.length<=Ö),H
def NW:=λg h D b=>∀H,E9 H g h D b->H
def NW.mk:E9 (NW g h D b) g h D b:=λus p r z J G=>G us p r z
def E8 (H:Prop) (g:G) (h:ę) (D:Ü) (b:ZF):Prop:=∀(us:ZA) (p:h.DictOf cx.sk D ((b.map (·.1)).zip us)) (r:aG g (b.map (·.2)) us) (q:(D==Κ)=Ï) (z:b.length<=Ö) (y:∀I∈b,I.1.length<=Ö),H
def I3:=λg h D b=>∀H,E8 H g h D b->H
def I3.mk:E8 (I3 g h D b) g h D b:=λus p r q z y J G=>G us p r q z y
def tT:Acc ZB where
 R:=NW
 mono:=by intro g g' h h' D b le k y;refine y _ ?_;rintro us ⟨m,e⟩ q z;exact(.mk us ⟨m,k _ e⟩ (q.mono le) z)
def r9:Acc ZF where
 R:=I3
 mono:=by intro g g' h h' D b le k y;refine y _ ?_;rintro us ⟨G,es,ep,e,r⟩ q z y x;exact(.mk us ⟨G,es,ep,k _ e,r⟩ (q.mono le) z y x)
def Fp (H:Prop) {n:Ó} (F:Fr n) (vs:Vs) (c c':Cf) (D acT:Ü) (p:AV×aa):Prop:=∀(g:G) (i:Inv g p.2 c'.s) (a:Le F c ⟨g,p.2,c'.s,i⟩) (e:At F vs ⟨g,p.2,c'.s,i⟩) (r:VR g p.1 (.ref D)) (oC:acT∉g.ρ) (iC:g.I acT=U),H
def Made {n:Ó} (F:Fr n) (vs:Vs) (c c':Cf) (D acT:Ü) (p:AV×aa):Prop:=∀G:Prop,Fp G F vs c c' D acT p->G
def Made.mk:Fp (Made F vs c c' D acT p) F vs c c' D acT p:=λg i a e r I H J G=>G g i a e r I H
section
variable {n:Ó} {À:ì} {O:Type} {Q:Acc O} {r:Ev} {F:Fr n} {D acT:Ü} {vs V:Vs} {b Y:O} {c c' c₀:Cf} {e:ñ} {gens gs:È Ĥ} {u:Ê} {j:Ç} {sc:Α} {K:VK} {X:XK} {N:NK}
def Cp.write (p:Cp Q F D c₀ vs b c) (f:E0 F D) {h':ę} {t:Ó} (I:c.s.toks<=t) (H:ζ D c.s.heap h') (G:∃o,h'.get? D=C o) (q:Q.R c.g h' D Y):Cp Q F D c₀ vs Y (c.wr (c.i.write I p.out p.outI H)):=
 ⟨p.a.trans (.write I (à _ (Ù.mpr rfl)) H G),p.e.step (own:=[D]) (.write I (Ù.mpr rfl) H G) (λh=>f.ne _ (.inl rfl) (Ù.mp h)) (λx b k l h=>f.ne _ (.inr (.inl ⟨x,k,l⟩)) (Ù.mp h)) λg A L E h=>f.ne _ (.inr (.inr ⟨g,A,E⟩)) (Ù.mp h),q,p.out,p.outI,G⟩
def Cz (R:gA n r.e) (f:E0 F D) {G:ñ} {p:ϗ}:po tT F D (.ListComp G gens sc p) (xx r G F.ks F.ns):=by
 intro vs b K c h H
 refine Á (Ô (R c h H.e) (λu J y=>?_) λJ J x=>v0 x)
 obtain⟨c₁,v,_,A,l,i,hz,k⟩:=y
 have L:=H.go f A l
 refine L.q _ λus w E z=>?_
 refine Á (aam w (λh' I m=>Å ?_) (by rw[Đ,<-E.length];exact z))
 have d:∃o,h'.get? D=C o:=by obtain⟨m',g⟩:=I;exact⟨_,g⟩
 exact .mk _ (b++[v]) (L.write f (t:=c₁.s.toks) (Ë _) m d (.mk (us++[u]) (by simpa using I) (E.append (.cons i .nil)) (by rw[Ð];exact hz))) k
def Cy (R:gA n r.e) (f:E0 F D) {I E:ñ} {p:ϗ}:po r9 F D (.DictComp I E gens sc p) (xw r I E F.ks F.ns):=by
 intro vs b K c h g
 show Î cx.M F.A (do
  let kv <-Ũ I F.env
  let vv <-pw [kv] (Ũ E F.env)
  ϧ _
  pw [kv,vv] (acA D kv vv)) _ _ c.s
 refine Á (Ô (R c h g.e) (λJ J y=>?_) λJ J x=>v0 x)
 obtain⟨c₁,v,u,d,e1,r1,h⟩:=y
 refine Á (ä (Ô (R c₁ h e1) (λJ J y=>?_) λJ J x=>v0 x))
 obtain⟨m,w,u2,a2,e2,r2,h⟩:=y
 refine cw h λk h0 h=>Á (ī (ä ?_))
 have l:=g.go f (d.trans a2) e2
 refine l.q _ λus hd qs y1 z kz=>?_
 (refine r1.strV h0 _ ?_;rintro t rfl tz)
 have G:((b.map (·.1)).zip us).length<=Ö:=by rw[length_zip,length_map];exact Â (abF _ _) z
 refine abQ (hsz:=G) (ů _ _ k t) hd λh' H hs=>?_
 obtain⟨L,e3,q'⟩:=kM (k:=k) qs r2
 rw[e3]at H
 have ho:∃o,h'.get? D=C o:=by obtain⟨ob,es,ep,i,_⟩:=H;exact⟨_,i⟩
 exact .mk _ (aF k w b) (l.write f (t:=m.s.toks+1) (ö _) hs ho (.mk L H q' y1 (Â (bL k b) h.1) (gx kz tz))) h.2
def Em {mu:ì} {b:ZB} (H:At F vs c) (f:I6 tT F vs c b D acT c'):Made F vs c c' D acT (cg mu b c'.Z):=by
 (refine f.acc _ ?_;rintro us ⟨m,I⟩ L z)
 cases mu with
 | true=>
  refine Hm (t:=c'.s.toks) (o:=.list b) H f.nD f.stp f.er f.oD f.iD (Ë _) (λJ J J e=>e) (.mk us ⟨m,I⟩ (L.mono (G.j' _ _)) z) _ λi a e=>?_
  exact(.mk _ i a e ⟨D,rfl,by show(c'.g.ρ++[D])[c'.Z.length]? = _;rw[<-c'.i.len];exact Ĳ⟩ (λh=>(ý.mp h).elim f.oC λh=>f.ne (Ù.mp h).symm) f.iC)
 | false=>
  refine tQ (t:=c'.s.toks) H f.nD f.stp f.er f.oD f.iD (Ë _) (λJ J J e=>e) I _ λi a e=>?_
  exact(.mk _ i a e (.mk D _ us rfl (G.é _ _ _) ⟨m,rfl⟩ (L.mono (G.a! f.iD)) z) f.oC ((Ý f.ne.symm).trans f.iC))
def El {b:ZF} (E:At F vs c) (f:I6 r9 F vs c b D acT c'):Made F vs c c' D acT (.fd (b.map (·.1)) (b.map (·.2)),c'.Z):=by
 refine f.acc _ λus A w y z l=>?_
 obtain⟨q,L,H⟩:=m_.mp A
 refine tQ (t:=c'.s.toks) E f.nD f.stp f.er f.oD f.iD (Ë _) (λJ J J e=>e) L _ λi a e=>?_
 exact(.mk _ i a e (.mk D q us rfl (G.é _ _ _) H (by rw[length_map,length_map]) (w.mono (G.a! f.iD)) y (by rw[length_map];exact z) (λk hk=>by obtain⟨g,I,rfl⟩:=ě.mp hk;exact l g I)) f.oC ((Ý f.ne.symm).trans f.iC))
def Fi (G:Prop) (F:Fr n) (vs:Vs) (c c':Cf) (h':ę):Prop:=∀(i:Inv c'.g c'.Z { c'.s with heap:=h' }) (a:Le F c ⟨_,_,_,i⟩) (e:At F vs ⟨_,_,_,i⟩),G
def N0 (F:Fr n) (vs:Vs) (c c':Cf) (h':ę):Prop:=∀G:Prop,Fi G F vs c c' h'->G
def N0.mk:Fi (N0 F vs c c' h') F vs c c' h':=λi a e J G=>G i a e
def R3 {h':ę} (H:At F V c) (G:c.s.heap.get? acT=U) (a:Le F c c') (e:At F vs c') (l:acT∉c'.g.ρ) (E:c'.g.I acT=U) (L:ζ acT c'.s.heap h'):N0 F vs c c' h':=
 have hk:∀b o,b≠acT->c'.s.heap.get? b=C o->h'.get? b=C o:=λb J A q=>(L.2 b A).trans q
 have i:=c'.i.p! (t:=c'.s.toks) (Ë _) l E hk
 (.mk i (a.p! G (Ë _) hk) (lZ H G e i (.refl _) hk λJ J=>⟨id,id⟩))
def pG (R:fj À n r) (Ce:MM e gens) {G:bc->È Ì->I7 O} {mk:O->aa->AV×aa} {b0:O} {newAcc:Ϛ Ê} {ao:ϑ} {pos:ϗ}
 (H:∀{s:Ç} {P:Ê->Ç->Prop} {E:Ê->Ç->Prop},P (.ref s.heap.objs.size) { s with heap:=s.heap.push ao }->Î cx.M F.A newAcc P E s) (w:ao.isFreed=Ï) (hq:∀g h D,h.get? D=C ao->(D==Κ)=Ï->Q.R g h D b0)
 (z:∀(d:Fr n) D,E0 d D->po Q d D e (G d.ks d.ns)) (M:∀{b D acT c'},I6 Q F vs c b D acT c'->Made F vs c c' D acT (mk b c'.Z)) (L:At F vs c) (h:va r F.ks F.ns b0 G gens sc vs c.Z λb Z=>K (mk b Z).1 (mk b Z).2) :
 Î cx.M F.A (ZP e sc F.env pos newAcc (firstAsync gens) (firstIter gens F.env) U) (QX F vs c K) (XX F c X) c.s/\
 ∀{use:Ê->Ϛ ab},(∀c₁ v u,Le F c c₁->At F vs c₁->VR c₁.g v u->K v c₁.Z->Î cx.M F.A (use u) (QA F c₁ N) (XX F c X) c₁.s)->
  Î cx.M F.A (ZP e sc F.env pos newAcc (firstAsync gens) (firstIter gens F.env) (C use)) (λJ j=>QA F c N () j) (XX F c X) c.s:=by
 rcases gens with _|⟨⟨t,it,ifs,as⟩,gs⟩
 ·exact h.elim
 obtain⟨I,h⟩:=bV h
 simp only[ú,all_cons,ũ,ĕ]at I
 obtain⟨⟨hp,hk⟩,rfl,l⟩:=I
 refine⟨pF (use:=U) R Ce rfl l (pE hk) hp h H w hq z L λJ b c' D acT f k h' I=>?_,λ{use} hu=>pF (use:=C use) R Ce rfl l (pE hk) hp h H w hq z L λJ b c' D acT f k=>?_⟩
 ·refine M f _ λg i a e r oC iC=>?_
  refine R3 (c':=⟨g,_,_,i⟩) L f.nC a e oC iC I _ λi' a' e'=>?_
  exact .mk ⟨_,_,_,i'⟩ _ _ a' e' r k
 ·refine M f _ λg i a e r oC iC=>?_
  refine Ô (hu ⟨g,_,_,i⟩ _ _ a e r k) (λJ J y=>?_) λJ J x=>x
  obtain⟨c2,vs2,a2,e2,k2⟩:=y
  obtain⟨m,hm⟩:=f.nsp
  obtain⟨o,ho⟩:=bJ hm
  have hC:acT∉F.own:=λq=>by obtain⟨o,h⟩:=fb L q;rw[f.nC]at h;cases h
  refine⟨m,ie hm λo e=>a2.keep _ _ e oC hC,λh' I=>?_⟩
  refine R3 L f.nC (a.trans a2) e2 (a2.new _ _ ho oC) (a2.newI _ _ ho iC) I _ λi' a' e'=>?_
  exact .mk ⟨_,_,_,i'⟩ _ a' e' k2
def mI (R:fj À n r) {G:ñ} {p:ϗ} (I:At F vs c) (h:va r F.ks F.ns [] (xx r G) gens sc vs c.Z λxs Z=>K (cg (T.mu p) xs Z).1 (cg (T.mu p) xs Z).2) :
 Î cx.M F.A (Ũ (.ListComp G gens sc p) F.env) (QX F vs c K) (XX F c X) c.s/\∀{use:Ê->Ϛ ab},(∀c₁ v u,Le F c c₁->At F vs c₁->VR c₁.g v u->K v c₁.Z->Î cx.M F.A (use u) (QA F c₁ N) (XX F c X) c₁.s)->
  Î cx.M F.A (aby (.ListComp G gens sc p) F.env use) (QA F c N) (XX F c X) c.s:=by
 have H:=pG (Q:=tT) (mk:=cg (T.mu p)) (X:=X) (N:=N) (newAcc:=newList []) (ao:={ cls:=.type "list",data:=.seq #[] }) (pos:=firstIterPos gens p) (e:=.ListComp G gens sc p) R G6 (λh=>į h) rfl (λg h D e J=>(.mk [] ⟨0,e⟩ .nil (ï _))) (λF' D f=>Cz R.e f) (Em I) I h
 exact⟨H.1,λL=>Á (Ô (H.2 L) (λJ J h=>Å h) λJ J x=>x)⟩
def mH (R:fj À n r) {G I:ñ} {p:ϗ} (L:At F vs c) (h:va r F.ks F.ns [] (xw r G I) gens sc vs c.Z λxs Z=>K (.fd (xs.map (·.1)) (xs.map (·.2))) Z) :
 Î cx.M F.A (Ũ (.DictComp G I gens sc p) F.env) (QX F vs c K) (XX F c X) c.s/\∀{use:Ê->Ϛ ab},(∀c₁ v u,Le F c c₁->At F vs c₁->VR c₁.g v u->K v c₁.Z->Î cx.M F.A (use u) (QA F c₁ N) (XX F c X) c₁.s)->
  Î cx.M F.A (aby (.DictComp G I gens sc p) F.env use) (QA F c N) (XX F c X) c.s:=by
 have H:=pG (Q:=r9) (mk:=λxs Z=>(.fd (xs.map (·.1)) (xs.map (·.2)),Z)) (X:=X) (N:=N) (newAcc:=newDict) (ao:={ cls:=.type "dict",data:=.dict #[] }) (pos:=firstIterPos gens p) (e:=.DictComp G I gens sc p) R G5 (λh=>į h) rfl
  (λg h D e q=>show I3 g h D []from(.mk [] ⟨_,#[],0,e,⟨rfl,rfl,rfl⟩,rfl,λJ E=>by simp at E,.nil,by trivial⟩ .nil q (ï _) (λJ h=>nomatch h))) (λF' D f=>Cy R.e f) (El L) L h
 exact⟨H.1,λl=>Á (Ô (H.2 l) (λJ J h=>Å h) λJ J x=>x)⟩
end
section
variable {n:Ó} {G:ì} {r:Ev} {acT:aj} {F:Fr n} {vs:Vs} {c:Cf} {N:NK} {R:RK} {X:XK} {K:VK}
def Jl (B:wW n) (Cf:me n acT) (H:gA n r.e) {f:ñ} {args:È ñ} {kws:È ς} {L:ϗ} (e:At F vs c) (h:Rs T acT r F.ks F.ns f args kws L vs c.Z K X):Î cx.M F.A (Ũ (.Call f args kws L) F.env) (QX F vs c K) (XX F c X) c.s:=
 jw h (λq Y h=>by
  obtain⟨o,x,ap⟩:=q
  rw[mx Y]
  obtain⟨Q,h⟩:=bV h
  refine cW Q λI À=>cW I λI hz=>cW I λO D=>?_
  refine OV h (λE h=>?_) λJ h=>?_
  ·obtain rfl:x=("replace" : Ì):=ĕ.mp E
   exact Cv H O (ĕ.mp D) e h
  ·exact F2 B Cf H O (ĕ.mp D) (Nat.blt_eq.mp hz) À e h) λV h=>jw h (λl D h=>Cw H D e h) λJ h=>Oz B Cf H V e h
def OH (B:wW n) (Cf:me n acT) (H:fj G n r):gA n (Uw T acT r):=by
 intro F D vs K X c h e
 induction D using Ŋ with
 | Constant cc k p=>exact JT e h
 | Name x p=>exact OC e h
 | BinOp a I b p=>exact JS H.e e h
 | UnaryOp I a p=>exact RN H.e e h
 | IfExp t a b p=>exact JU H e h
 | Compare a ops bs p=>exact Cu H.e e h
 | List es p=>exact OB H.e e h
 | Tuple es k p=>exact JW H.e e h
 | ListComp elt gens sc p=>exact(mI (N:=λJ J=>False) H e h).1
 | DictComp k v gens sc p=>exact(mH (N:=λJ J=>False) H e h).1
 | Dict kk vv p=>exact OA H.e e h
 | Set es k p=>exact RO H.e e h
 | Subscript o i p=>exact OD H.e e h
 | Attribute o x p=>exact Oy H.e e h
 | JoinedStr es p=>exact F1 H.e e h
 | Call f args kws cp=>exact Jl B Cf H.e e h
 | _=>exact h.elim
def OG (H:fj G n r):Vn n (Uw T acT r):=by
 intro F D vs K X c I h e use N B
 induction D using Ŋ with
 | ListComp elt gens sc p=>exact(mI H e h).2 B
 | DictComp k v gens sc p=>exact(mH H e h).2 B
 | SetComp=>exact h.elim
 | _=>exact E4 I
def OI (H:fj G n r):Q7 G n (λks ns=>Vz T r ks ns G):=by
 intro F st vs N R X c h e D
 induction st using acy with
 | Expr L pp=>
  have j:YH F.env=Ï:=by dsimp only[YH];rw[F.fn];rfl
  obtain⟨g,h⟩:=bV h
  refine wpAny_Expr_any (bq H.e (.refl _ _ _) e h λc₁ w V l₁ I e₁ À h=>.n c₁ vs I e₁ h) j ?_
  rcases L<;>first|rfl|exact absurd g ß
 | Return o p=>
  refine jw h (λL Q h=>?_) λQ h=>?_<;>rw[Q]
  ·exact wpAny_Return_some (bq H.e (.refl _ _ _) e h λc₁ w V l₁ I e₁ À h=>.r c₁ vs w V I e₁ À h)
  ·exact wpAny_Return_none (.r c vs .none .none (.refl _ _ _) e .none_ h)
 | Assign ts L p=>exact H9 H e h
 | AugAssign t op L p=>exact SF H.e e h
 | If t a b p=>exact wpAny_If (wI H.t (.refl _ _ _) e h λc₁ Y l₁ I e₁ h=>match Y,h with
  | true,h=>TM I (et H.s D e₁ h)
  | false,h=>TM I (et H.s D e₁ h))
 | For t it body B p=>
  obtain⟨E,h⟩:=bV h
  obtain⟨A,O⟩:=è.mp E
  rw[Ġ.mp A]
  exact jw h (λq y h=>PZ H D (ox:=q.1) (ax:=q.2) y e O h) λJ h=>P0 H D e O h
 | Try body hs B fin p=>cases G with
  | true=>exact NM H.s D e h
  | false=>exact NM H.s D e h
 | Raise o cc p=>exact L0 H.e e h
 | Delete ts p=>exact SG H.e e h
 | _=>exact h.elim
end
def Ga {G:ì} {acT:aj} (n:Ó) (Cf:me n acT):∀k,fj G n (F9 T acT G k):=by
 intro D;induction D with
 | zero=>
  exact⟨λJ h=>h.elim,λJ J h=>h.elim,λJ h=>h.elim,λJ h=>h.elim,λJ h=>h.elim⟩
 | succ k B=>
  exact let H:=B;⟨OH (Rz n) Cf H,OG H,OK H,OF H,OI H⟩
def S2 (n:Ó):me n (hW T n):=FQ (λn Cf=>Ga n Cf 40) n
mutual
noncomputable def pl:AV->ì
 | .loc _=>Ï
 | .obj _=>Ï
 | .tup xs=>Bo xs
 | .fl xs=>Bo xs
 | .fd _ xs=>Bo xs
 | .bm _ x=>pl x
 | .mt _ x=>pl x
 | .iv x=>pl x
 | .vv x=>pl x
 | _=>Í
noncomputable def Bo:È AV->ì
 | []=>Í
 | x::xs=>pl x&&Bo xs
end
section
variable {g Q:G} {Z:aa} {s:Ç} {u:Ê}
mutual
theorem VR.pl (h:∀a o,g.I a=C o->Q.I a=C o):∀{x:AV} {v:Ê},VR g x v->pl x=Í->VR Q x v
 | .none,_,q=>λJ=>q
 | .bool _,_,q=>λJ=>q
 | .int _,_,q=>λJ=>q
 | .str _,_,q=>λJ=>q
 | .tup xs,_,q=>λp=>q _ λa o vs e i t r z=>(.mk a o vs e (h _ _ i) t (aG.pl h (xs:=xs) r p) z)
 | .fl xs,_,q=>λp=>q _ λa o vs e i t r z=>(.mk a o vs e (h _ _ i) t (aG.pl h (xs:=xs) r p) z)
 | .fd _ xs,_,q=>λp=>q _ λa o vs e i d l r y z w=>(.mk a o vs e (h _ _ i) d l (aG.pl h (xs:=xs) r p) y z w)
 | .ws _,_,q=>λJ=>q _ λa o e i d=>(.mk a o e (h _ _ i) d)
 | .loc _,_,_=>λp=>E4 p
 | .obj _,_,_=>λp=>E4 p
 | .fn _,_,q=>λJ=>q
 | .bf _,_,q=>λJ=>q
 | .bm _ x,_,q=>λp=>q _ λa u e i r=>(.mk a u e (h _ _ i) (VR.pl h (x:=x) r p))
 | .mt _ x,_,q=>λp=>q _ λa u e i r=>(.mk a u e (h _ _ i) (VR.pl h (x:=x) r p))
 | .rng _ _,_,q=>λJ=>q _ λp o e i r=>(.mk p o e (h _ _ i) r)
 | .iv x,_,q=>λp=>q _ λa o d e i c f r=>(.mk a o d e (h _ _ i) c f (VR.pl h (x:=x) r p))
 | .vv x,_,q=>λp=>q _ λa o d e i c f r=>(.mk a o d e (h _ _ i) c f (VR.pl h (x:=x) r p))
 | .lk,_,q=>λJ=>q
 | .mo,_,q=>λJ=>q _ λa o e i c=>(.mk a o e (h _ _ i) c)
theorem aG.pl (h:∀a o,g.I a=C o->Q.I a=C o):∀{xs:ZB} {vs:ZA},aG g xs vs->Bo xs=Í->aG Q xs vs
 | [],_,q=>λJ=>q
 | x::xs,_,q=>λp=>let ⟨v,r,e,q1,q2⟩:=q;cW (a:=Internal.pl x) (b:=Bo xs) p λB D=>⟨v,r,e,VR.pl h q1 B,aG.pl h q2 D⟩
end
inductive Pw (P:AV->AV->Prop):È AV->È AV->Prop
 | nil:Pw P [] []
 | cons {x y:AV} {xs ys:ZB} (h:P x y) (t:Pw P xs ys):Pw P (x::xs) (y::ys)
def Pw.len {P:AV->AV->Prop} {xs ys:ZB} (h:Pw P xs ys):xs.length=ys.length:=by induction h with
 | nil=>rfl
 | cons _ _ B=>exact Õ (· + 1) B
def Pw.vrs {P:AV->AV->Prop} {xs ys:ZB} (h:Pw P xs ys) (k:∀x y u,P x y->VR g x u->VR Q y u):∀{vs:ZA},aG g xs vs->aG Q ys vs:=by
 induction h with
 | nil=>exact λq=>by rw[q.d!];exact .nil
 | cons h _ B=>exact λq=>by obtain⟨v,r,rfl,D,G⟩:=q.b!;exact .cons (k _ _ _ h D) (B G)
inductive N2 (Z:aa):AV->AV->Prop
 | same (v:AV) (h:pl v=Í):N2 Z v v
 | list (l:Ó) (xs:ZB) (h:Z[l]? = C (.list xs)) (q:Bo xs=Í):N2 Z (.loc l) (.fl xs)
 | dict (l:Ó) (kvs:ZF) (h:Z[l]? = C (.dict kvs)) (q:Bo (kvs.map (·.2))=Í):N2 Z (.loc l) (.fd (kvs.map (·.1)) (kvs.map (·.2)))
inductive M5 (Z:aa):AV->AV->Prop
 | one {v w:AV} (h:N2 Z v w):M5 Z v w
 | fl {xs ys:ZB} (h:Pw (N2 Z) xs ys):M5 Z (.fl xs) (.fl ys)
inductive N3 (Z:aa):AV->AV->Prop
 | two {v w:AV} (h:M5 Z v w):N3 Z v w
 | cells {l:Ó} {xs ys:ZB} (h:Z[l]? = C (.list xs)) (q:Pw (M5 Z) xs ys):N3 Z (.loc l) (.fl ys)
def G.f! (g:G) (h:ę):G:=⟨λb=>if b∈g.ρ/\b≠T.lP then h.get? b else g.I b,[T.lP]⟩
def gY (i:Inv g Z s):∀a o,g.I a=C o->(g.f! s.heap).I a=C o:=λa o e=>by
 show(if a∈g.ρ/\a≠T.lP then _ else _)=_
 rw(occs:=.all) [Ý λh=>i.n' e h.1];exact e
def iO (i:Inv g Z s) {l:Ó} {a:Ü} {o:aK} {B:ϑ} (e:Z[l]? = C o) (D:l≠0) (G:bh Z=Í) (q:g.ρ[l]? = C a) (H:s.heap.get? a=C B):(g.f! s.heap).I a=C B:=by
 obtain⟨P,hP,y⟩:=i.cell (cO G)
 (refine y _ ?_;rintro rfl _ _ _ _)
 show(if a∈g.ρ/\a≠T.lP then _ else _)=_
 rw(occs:=.all) [Û ⟨Ĉ q,λz=>D ((aar (î.mp q).1 i.nodup).mp (q.trans (z▸hP.symm)))⟩]
 exact H
def rY {l:Ó} {o:aK} (B:bh Z=Í) (h:Z[l]? = C o) (D:bh [o]=Ï):l≠0:=λz=>by
 subst z
 rw[cO B]at h
 exact nomatch (Õ (λo:Æ aK=>bh o.toList) h).trans D
def VI (i:Inv g Z s) (D:bh Z=Í) {v w:AV} (h:N2 Z v w) (q:VR g v u):VR (g.f! s.heap) w u:=by
 cases h with
 | same v h=>exact q.pl (gY i) h
 | list l xs h p=>
  obtain⟨a,rfl,B⟩:=q
  (refine i.cells _ _ _ h B _ ?_;rintro vs ⟨n,hv⟩ r z)
  exact(.mk a _ vs rfl (iO i h (rY D h rfl) D B hv) ⟨n,rfl⟩ (r.pl (gY i) p) z)
 | dict l kvs h p=>
  obtain⟨a,rfl,B⟩:=q
  refine i.cells _ _ _ h B _ λvs hv r y z w=>?_
  obtain⟨o,H,G⟩:=m_.mp hv.dictOf
  exact(.mk a o vs rfl (iO i h (rY D h rfl) D B H) G (by rw[length_map,length_map]) (r.pl (gY i) p) y (by rw[length_map];exact z) (dJ w))
def VJ (i:Inv g Z s) (B:bh Z=Í) {v w:AV} (h:M5 Z v w) (q:VR g v u):VR (g.f! s.heap) w u:=by
 cases h with
 | one h=>exact VI i B h q
 | fl h=>
  refine q _ λa o vs e D t r z=>?_
  exact(.mk a o vs e (gY i _ _ D) t (h.vrs (λJ J J h q=>VI i B h q) r) (h.len▸z))
def VM (i:Inv g Z s) (B:bh Z=Í) {v w:AV} (h:N3 Z v w) (q:VR g v u):VR (g.f! s.heap) w u:=by
 cases h with
 | two h=>exact VJ i B h q
 | cells h p=>
  obtain⟨a,rfl,D⟩:=q
  (refine i.cells _ _ _ h D _ ?_;rintro vs ⟨n,hv⟩ r z)
  exact(.mk a _ vs rfl (iO i h (rY B h rfl) B D hv) ⟨n,rfl⟩ (p.vrs (λJ J J h q=>VJ i B h q) r) (p.len▸z))
def Inv.f! (i:Inv g Z s) (V:bh Z=Í):Inv (g.f! s.heap) [.code] s:=by
 obtain⟨P,hP,y⟩:=i.cell (cO V)
 (refine y _ ?_;rintro rfl ps D L B)
 have Y:=Ĉ hP
 refine⟨λa o e=>?_,λa o e=>gY i _ _ (i.base a o e),rfl,by simp[G.f!],λa À=>?_,λl o a e q=>?_,i.one,i.bare,i.H⟩
 ·have e:(if a∈g.ρ/\a≠T.lP then s.heap.get? a else g.I a)=C o:=e
  split at e
  ·exact e
  ·exact i.sub a o e
 ·rw(occs:=.all) [Ù.mp À]
  show(if T.lP∈g.ρ/\T.lP≠T.lP then _ else _)=_
  rw(occs:=.all) [Ý λh=>h.2 rfl];exact i.apart _ Y
 ·cases l with
  | zero=>
   obtain rfl:=Ä e
   obtain rfl:=Ä q
   exact(.mk rfl ps D L (B.imp id (by rintro⟨c',E,fs,t,a,b,r⟩;exact⟨c',E,fs,t,a,gY i _ _ b,r⟩)))
  | succ l=>cases e
end
def B6 (Z:aa) (vs O:Vs):Prop:=O.length=vs.length/\∀(i:Ó) w,O[i]? = C (C w)->∃v,vs[i]? = C (C v)/\N3 Z v w
section
variable {n:Ó} {F:Fr n} {vs O:Vs} {c:Cf}
def Bt {ns:ZC} {Z:aa} {x:Ì} {w:AV} (h:B6 Z vs O) (e:bD x ns O=C w):∃v,bD x ns vs=C v/\N3 Z v w:=by
 unfold bD at e ⊢
 cases q:O[ns.idxOf x]? with
 | none=>rw[q]at e;cases e
 | some o=>
  rw[q]at e
  cases o with
  | none=>cases e
  | some w'=>
   obtain rfl:=Ä e
   obtain⟨v,hv,r⟩:=h.2 _ _ q
   exact⟨v,by rw[hv],r⟩
def At.f! (e:At F vs c) (B:bh c.Z=Í) (h:B6 c.Z vs O):At F O ⟨c.g.f! c.s.heap,[.code],c.s,c.i.f! B⟩:=by
 obtain⟨P,hP,y⟩:=c.i.cell (cO B)
 (refine y _ ?_;rintro rfl _ _ _ _)
 have D:=Ĉ hP
 have out:∀{b},b∉c.g.ρ->c.g.I b=U->b∉(c.g.f! c.s.heap).ρ/\(c.g.f! c.s.heap).I b=U:=λ{b} A z=>
  ⟨λq=>A (Ù.mp q▸D),by show(if b∈c.g.ρ/\b≠T.lP then _ else _)=_;rw[Ý λh=>A h.1];exact z⟩
 refine e.loc _ λm D hv=>?_
 refine⟨h.1.trans e.len,(.mk m D (λx w k q=>?_)),out e.locA.1 e.locA.2,λx k=>?_,λf hf L r=>?_⟩
 ·obtain⟨v,G,H⟩:=Bt h q
  obtain⟨u,À,V⟩:=hv x v k G
  exact⟨u,À,VM c.i B H V⟩
 ·refine e.cel x k _ λb d Y E j o l cv=>?_
  refine(.mk b d (out Y E).1 (out Y E).2 j o l (λw q=>?_))
  obtain⟨v,G,H⟩:=Bt h q
  obtain⟨u,À,V⟩:=cv v G
  exact⟨u,À,VM c.i B H V⟩
 ·refine e.frm f hf L r _ λo ho t acT N=>?_
  exact(.mk o ho t (out acT N).1 (out acT N).2)
end
noncomputable def gu (r:Ev) (ks:bc) (ns:ZC):È (È ϳ)->Vs->Prop
 | [],_=>False
 | A::rest,vs=>bA r ks ns A vs [.code] (λO Z=>bh Z=Í/\∃B,B6 Z O B/\gu r ks ns rest B) (λv J Z=>v = .bool Í/\bh Z=Í) ik
inductive Q3 (s:Ç):P_->Ç->Prop|mk (c:Cf) (h:c.s.os=s.os) (k:bh c.Z=Í):Q3 s (.ret (.bool Í)) c.s
def sj {env:ϙ}:∀(A B:È ϳ),h8 (A++B) env=(h8 A env >>= λf=>match f with | .next=>h8 B env|f=>pure f):=by
 intro G;induction G with
 | nil=>
  exact @λB=>by show _=(pure adJ >>= _);rfl
 | cons st A D=>
  intro B
  show h8 (st::(A++B)) env=_
  rw[execs_cons,execs_cons,bind_assoc]
  refine Õ _ (funext λf=>?_)
  cases f<;>first|rfl|exact D B
def HR {n:Ó} {F:Fr n} {r:Ev} (H:Q7 Í n r.s) (D:oL Í F):∀{ps:È (È ϳ)} {vs:Vs} {c:Cf},At F vs c->c.Z=[.code]->gu r F.ks F.ns ps vs->Î cx.M F.A (h8 ps.flatten F.env) (Q3 c.s) bj c.s:=by
 intro N;induction N with
 | nil=>
  exact @λJ J J J h=>h.elim
 | cons A G acT=>
  intro vs c e À h
  show Î cx.M F.A (h8 (A++G.flatten) F.env) _ _ _
  rw[sj]
  have h:bA r F.ks F.ns A vs c.Z (λO Z=>bh Z=Í/\∃B,B6 Z O B/\gu r F.ks F.ns G B) (λv J Z=>v = .bool Í/\bh Z=Í) ik:=by rw[À];exact h
  refine Á (Ô (et H D e h) (λf s' y=>?_) λJ J x=>v0 x)
  rcases y with⟨c',O,a,V,k⟩|⟨c',O,v,u,a,V,q,k⟩
  ·obtain⟨I,B,E,k⟩:=k
   refine Ô (acT (c:=⟨_,[.code],_,c'.i.f! I⟩) (V.f! I E) rfl k) (λf s'' y=>?_) λJ J x=>x
   obtain⟨L,Y,hk⟩:=y
   exact .mk L (Y.trans a.os) hk
  ·obtain⟨k,I⟩:=k
   subst k
   obtain rfl:u = .bool Í:=q
   exact Å (.mk c' a.os I)
section
variable {n:Ó} {A:Ā} {g:G} {Z:aa} {s:Ç} {u:Ê}
def CI {sc:Α} (S:Jf sc) {qual:Ì} {func:Æ Ü} {code:Ê} (hA:g9 (n+1) A) (hl:A.frames=C [])
 (N:(∃c o fs,code = .ref c/\cx.h₀.get? c=C o/\o.data = .fields fs)/\((sc.names.lookup ("resolved_names" : Ì)).isSome=Í->code = .ref T.lc/\qual=T.lq)) {y:Ì} {w:AV} {P:ϙ->Ç->Prop} (Q:sc.names.lookup y=C .local) (i:Inv g Z { s with toks:=s.toks+1 }) (q:VR g w u)
 (h:∀(F:Fr n) (c':Cf),F.A=A.deeper F.env->F.ks=sc.names->F.ns=ar sc->oL Í F->c'.Z=Z->c'.s.os=s.os->At F (fG y w ((ar sc).map λJ=>U) (ar sc)) c'->P F.env c'.s) :
 Î cx.M A.in1 (Xn sc ġ [] [(y,u)] qual func code U Ŏ) P bj s:=by
 have V:=af s
 simp only[Xn,Zr,ĭ,δ]
 refine Á (abA ?_)
 refine Á (aec _ (λname kind cells=>by rcases hkc:kind==ql<;>dsimp[hkc]) _ _ _ _ ?_)
 have ok:=cellsFrom_ok sc.names (s.heap.push { cls:=.type "frame",data:=.dict #[] }) (s.heap.objs.size+1) [] ⟨λJ J hm=>(nomatch hm),WU⟩ (by simp only[e8];exact Ë _)
 have k:∀b o,s.heap.get? b=C o->(ww (s.heap.push { cls:=.type "frame",data:=.dict #[] }) sc.names).get? b=C o:=λb o e=>ct _ _ b o (Ñ _ e)
 have r:(ww (s.heap.push { cls:=.type "frame",data:=.dict #[] }) sc.names).get? s.heap.objs.size=C { cls:=.type "frame",data:=.dict #[] }:=ct _ _ _ _ (ê _ rfl)
 have H:(ww (s.heap.push { cls:=.type "frame",data:=.dict #[] }) sc.names).Ns s.heap.objs.size (λJ=>U):=(Ns.new s.heap (.type "frame")).keeps (ct _ _)
 have O:∀{b:Ü},s.heap.objs.size<=b->s.heap.get? b=U:=λ{b} I=>by
  cases q:s.heap.get? b with
  | none=>rfl
  | some o=>exact absurd (Ŀ q) (ų.mpr I)
 generalize j:aak (s.heap.push { cls:=.type "frame",data:=.dict #[] }).objs.size sc.names []=cs at ok
 generalize hh:ww (s.heap.push { cls:=.type "frame",data:=.dict #[] }) sc.names=hp at ok k H r
 have ht:s.toks+1<=s.toks+1:=Ë _
 let c1:Cf:=⟨g,Z,{ s with heap:=hp,toks:=s.toks+1 },i.keep (t:=s.toks+1) ht k⟩
 let env:ϙ:={ scope:=sc,locals:=s.heap.objs.size,globals:=ġ,cells:=cs,qual:=qual,func:=func,code:=code,frame:=C s.heap.objs.size,builtins:=Ŏ }
 have fr:∀e∈[env],e=env:=λe G=>Ù.mp G
 let F:Fr n:=⟨A.deeper env,sc.names,ar sc,env,[env],hA.B! env,S.kind,rfl,rfl,N,λx=>.inl rfl,λx B=>by
  rcases B with B|B<;>exact ě.mpr ⟨_,þ.mpr ⟨mem_of_lookup B,by rfl⟩,rfl⟩,λx y c B Q=>name_of_addr ok.apart (mem_of_lookup B) (mem_of_lookup Q),by rw[show(A.deeper env).frames=A.frames.map (env :: ·)from rfl,hl];rfl,λe G=>by
  rw[fr e G];exact⟨by rw[show env.scope.kind = .function from S.kind];decide,_,rfl⟩,λe G L D x b I=>by
  obtain⟨_,Y⟩:=ok.empty x b (mem_of_lookup I)
  rw[fr e G]at D
  exact Ä D▸(Ĝ Y).symm⟩
 have À:At F ((ar sc).map λJ=>U) c1:=by
  refine⟨length_map ..,(.mk _ H (λx v J e=>by rw[dI]at e;cases e)),⟨(i.fresh V).2,(i.fresh V).1⟩,λx B=>?_,λe G L D=>?_⟩
  ·rcases B with B|B
   ·obtain⟨c,acT⟩:=d9 sc.names (s.heap.push { cls:=.type "frame",data:=.dict #[] }).objs.size [] x (.inl (mem_of_lookup B))
    rw[j]at acT
    obtain⟨o1,Y⟩:=ok.empty x c (mem_of_lookup acT)
    have I:=O (b:=c) (ð Y)
    exact(.mk c acT (i.fresh I).2 (i.fresh I).1 (Ĝ Y).symm U o1 (λv e=>by rw[dI]at e;cases e))
   ·exact absurd rfl (S.free _ (mem_of_lookup B))
  ·rw[fr e G]at D
   obtain rfl:=Ä D
   exact(.mk _ r (λJ q=>(nomatch q)) (i.fresh V).2 (i.fresh V).1)
 have B:y∈F.ns:=F.mem y (.inl Q)
 rw[ϟ]
 refine Á (Á (Á (W3 (dG F Q) H (λh' l d=>?_) (yw F))))
 refine Å (Å (Å ?_))
 have m:=c1.i.write (t:=s.toks+1) (Ë _) À.locA.1 À.locA.2 d
 refine h F (c1.wr m) rfl rfl rfl ⟨rfl,[],rfl,λJ=>rfl⟩ rfl rfl (À.z! m l d lg (λz w' kz E=>?_) λz kz=>cV B (Nl Q kz))
 by_cases hz:z=y
 ·subst hz
  rw[fO À.len B]at E
  obtain rfl:=Ä E
  exact⟨u,Û rfl,q⟩
 ·rw[cV B hz,dI]at E;cases E
inductive Vr (s:Ç):ky->Ç->Prop|mk (c:Cf) (h:c.s.os=s.os) (k:bh c.Z=Í):Vr s (.ok (.ret (.bool Í))) c.s
def Qj (n:Ó) {a:Ü} {f:Fn} {y:Ì} {w:AV} {ps:È (È ϳ)} (j:T.fn.lookup a=C f) (Q:bindB f [w] []=C [(y,w)]) (hy:f.scope.names.lookup y=C .local) (hp:ps.flatten=f.body)
 (h:gu (F9 T (hW T n) Í 40) f.scope.names (ar f.scope) ps (fG y w ((ar f.scope).map λJ=>U) (ar f.scope))) (hA:g9 (n+1) A) (hl:A.frames=C []) (i:Inv g [.code] { s with toks:=s.toks+1 }) (q:VR g w u) :
 Ž cx.M A (.call (.ref a) ⟨[u],[]⟩) (Vr s) s:=by
 refine i.H.fn a f j _ λo fd V t m I S sg hg O À G J J L hst B=>?_
 refine aaX hA.r! (i.e! _ _ V) t (by rw[I];exact S.co) (by rw[I];exact sg) m (G.keeps i.e!) (Ô (rU (s:=s) (A:=A.in1) (kws:=[]) (uk:=[]) B (i.X i.H.cls) Q i.base (.cons q .nil) .nil λws qw=>?_) (λJ J x=>x) λJ J x=>x.elim)
 rw[I,hg,O,À]
 obtain⟨w',r',rfl,q',qn⟩:=aG.b! (show aG g (w::[]) ws from qw)
 obtain rfl:=qn.d!
 refine Ô (CI (n:=n) S hA hl ⟨(by obtain⟨c,o,fs,_,z,r,d,_⟩:=G;exact⟨c,o,fs,z,r,d⟩),L⟩ hy i q' λF c' eA l acT D E V e=>⟨i.H.lim.keeps c'.i.e!,codeAny_func ?_⟩) (λJ J x=>x) λJ J x=>x.elim
 rw[<-acT]at e
 rw[<-l,<-acT]at h
 have run:=HR (Ga n (S2 n) 40).s D e E h
 rw[hp,eA]at run
 refine Ô run (λff s₂ y=>?_) λu s₂ x=>x.elim
 obtain⟨N,Y,hk⟩:=y
 exact .mk N (Y.trans V) hk
end
noncomputable def V0 (a0 D a2 G H I L O Q À B:Æ AV):Vs:=[a0,D,a2,G,H,I,L,O,Q,À,B,U,U,U,U,U,U,U,U,U,U,U,U,U,U,U,U,U,U,U,U,U,U,U,U,U,U,U,U,U,U,U,U]
def zm (xs:È Į):Prop:=∀n,gu (F9 T (hW T (n+5)) Í 40) (fnOf 185).scope.names (ar (fnOf 185).scope) [Hn,Ho,Hp] (V0 (C (.fl (xs.map .int))) U U U U U U U U U U)
def Fc (B:Prop) (xs:È Į):Prop:=∀(h:xs.length<=63) (n:¬ zm xs),B
def Fb:=λxs=>∀B,Fc B xs->B
def Fb.mk:Fc (Fb xs) xs:=λh n J B=>B h n
open Classical in
def yN:∃xs:È Į,xs.length<=63/\((∃ys,Fb ys)->Fb xs):=if h:∃ys,Fb ys then h.elim λys b=>⟨ys,b _ λl J=>l,λJ=>b⟩else⟨[],ï _,λb=>absurd b h⟩
def yM:È Į:=WY yN
def L2:yM.length<=63:=(a7 yN).1
def L1 (h:zm yM) {xs:È Į} (k:xs.length<=63):zm xs:=Ř λn=>(a7 yN).2 ⟨xs,.mk k n⟩ _ λJ z=>z h
structure Fl where
 st:ì
 rw:ì
noncomputable def oy:È (Ì×Ì):=[("u","p"),("u","q"),("v","b"),("v","y"),("w","n0")]
def dh (k:Ó):È (Ì×Ì):=oy.drop k++oy.take k
def F:Į:=(yM.take 1).sum
def f:Fl:=⟨decide ((F.fdiv 2).fmod 2=1),decide (F.fmod 2=1)⟩
def k:Ó:=((F.fdiv 4).fmod 5).toNat
def R7:(F.fdiv 4).fmod 5=(k:Į):=(ZZ (YX _ Zz)).symm
def hk:k<5:=eh.mp (R7▸aan _ Zz)
def aq:È (Ì×Ì):=dh k
def kU (q:Ì):Ì:=if(aB q).head? = C 123 then⟨((aB q).tail.takeWhile (· !=125)).toArray⟩else ""
def kT (q:Ì):Ì:=if(aB q).head? = C 123 then⟨((aB q).dropWhile (· !=125)).tail.toArray⟩else q
def dD {b:ì} {p q:Prop} (e:b=Í) (h:p):oK b p q:=by subst e;exact h
def db {b:ì} {p q:Prop} (e:b=Ï) (h:q):oK b p q:=by subst e;exact h
def o5 {B:Type} {o:Æ B} {a:B} {f:B->Prop} (e:o=C a) (h:f a):ok o f:=by subst e;exact h
def Oa:biZ=fq:=by delta biZ;rfl
def On:bmZ=RA:=by delta bmZ;rfl
def J8:getZ=fw:=by delta getZ;rfl
def JE:catZ=oQ:=by delta catZ;rfl
def JB:binZ=jP:=by delta binZ;rfl
def EM:sliceZ=d0:=by delta sliceZ;rfl
def OW:inZ=jR:=by delta inZ;rfl
def fh {B:Type} : @Xg B=lz:=by delta Xg;rfl
def EZ {B:Type} : @walkGZ B=wR:=by delta walkGZ;rfl
def ay {Z:aa} {b:BI} {as:ZB} {r:AV×aa} {F:AV×aa->Prop} (e:fq b as Z=C r) (k:F r):ok (biZ b as Z) F:=by rw[Oa];exact o5 e k
def FO {Z:aa} {b:BI} {x:AV} {as:ZB} {r:AV×aa} {F:AV×aa->Prop} (e:RA b x as Z=C r) (k:F r):ok (bmZ b x as Z) F:=by rw[On];exact o5 e k
def io {Z:aa} {o:WD} {a b v:AV} {F:AV->Prop} (e:jP Z o a b=C v) (k:F v):ok (binZ Z o a b) F:=by rw[JB];exact o5 e k
def BC {Z:aa} {a b c d v:AV} {F:AV->Prop} (e:d0 Z a b c d=C v) (k:F v):ok (sliceZ Z a b c d) F:=by rw[EM];exact o5 e k
def tJ {Z:aa} {o:XR} {a b:AV} {c:ì} {F:ì->Prop} (e:jR Z o a b=C c) (k:F c):ok (inZ Z o a b) F:=by rw[OW];exact o5 e k
def I1:∀{xs ys:ZB} {B ts:ZC},aJ xs=C B->aJ ys=C ts->aJ (xs++ys)=C (B++ts):=by
 intro I;induction I with
 | nil=>
  exact @λJ J J h k=>by obtain rfl:=Ä h;exact k
 | cons x xs H=>
  intro ys B ts h k
  refine aP h λa D h=>bC h λb G h=>?_
  subst h
  show(strV x).bind _=_
  rw[D]
  show(aJ (xs++ys)).map _=_
  rw[H G k];rfl
def Sw (se dn:ì) (pd:AV) (n0 nl dl ps:ZB) (pm:ZF) (data out:ZB) (x:aa):aa:=
 [.code,.list out,.attrs [C (.bm .lAppend (.loc 1)),C (.loc 3),C (.bool Ï),C (.bool f.st),C .none,C .none,C (.bool f.rw),C (.ws ["t","{v}t"]),C (.bm .inter (.ws ["r","{u}r"])),C (.loc 4),C (.loc 5),C (.loc 7),C (.loc 8),C pd,C (.bool se),C (.bool dn),C (.int 0)],
  .list data,.list dl,.list nl,.list n0,.dict pm,.list ps]++x
noncomputable abbrev tg:AV:=.obj 2
def Va (Y a2 E A acT N g j l B D G H I L O Q À V:Æ AV):Vs:=[C tg,Y,a2,E,A,acT,N,g,j,l,B,D,G,H,I,L,O,Q,À,V]
section
variable {Z:aa}
def bS {l:Ó} {xs:ZB} {v:AV} {F:AV×aa->Prop} (h:ag Z l=C xs) (hz:xs.length<Ö) (k:F (.none,Z.set l (.list (xs++[v])))):ok (biZ .lAppend [.loc l,v] Z) F:=
 ay (show(ag Z l).bind _=_ by rw[h];exact Û hz) k
def VF {l:Ó} {xs:ZB} {ts:ZC} {s:Ì} {F:AV×aa->Prop} (h:ag Z l=C xs) (e:aJ xs=C ts) (hz:(ts.map (·.length)).sum+ts.length * s.length<=Ö) (k:F (.str (û s ts),Z)):ok (biZ .sJoin [.str s,.loc l] Z) F:=
 ay (show(ag Z l).bind _=_ by rw[h];show(aJ xs).bind _=_;rw[e];exact Û hz) k
def f0 {Z:aa} {l:Ó} {xs:ZB} {v:AV} {F:AV×aa->Prop} (h:ag Z l=C xs) (hz:xs.length<Ö) (k:F (.none,Z.set l (.list (xs++[v])))):ok (bmZ .lAppend (.loc l) [v] Z) F:=
 FO (show(ag Z l).bind _=_ by rw[h];exact Û hz) k
def Nh {Z:aa} {l:Ó} {xs:ZB} {ts:ZC} {s:Ì} {F:AV×aa->Prop} (h:ag Z l=C xs) (e:aJ xs=C ts) (hz:(ts.map (·.length)).sum+ts.length * s.length<=Ö) (k:F (.str (û s ts),Z)):ok (bmZ .sJoin (.str s) [.loc l] Z) F:=
 FO (show(ag Z l).bind _=_ by rw[h];show(aJ xs).bind _=_;rw[e];exact Û hz) k
def ir {a b:Ì} {F:Ì->Prop} (h:a.length+b.length<=Ö) (k:F (a++b)):ok (catZ a b) F:=by rw[JE];exact o5 (Û h) k
def bz {a b:Ì} {i j:Ó} {F:Ì->Prop} (B:a.length<=i) (D:b.length<=j) (h:i+j<=Ö) (k:(a++b).length<=i+j->F (a++b)):ok (catZ a b) F:=
 have z:=å B D
 ir (Â z h) (k (by rw[â];exact z))
def aL {o i v:AV} {F:AV->Prop} (e:fw Z o i=C v) (k:F v):ok (getZ Z o i) F:=by rw[J8];exact o5 e k
def OO {i:Į} {F:Ì->Prop} (h:i.natAbs<10 ^ 10) (k:F (dj i)):ok (ON (.int i)) F:=o5 (Û h) k
def gm {l:Ó} {xs:ZB} (h:ag Z l=C xs):eW T Z (.loc l) "append" = C (.bi .lAppend (.loc l)):=by
 show cH (ag Z l) _ _=_
 rw[h];rfl
def fy {l:Ó} {ys:ZB} {v:AV} (h:ag Z l=C (ys++[v])):fw Z (.loc l) (.int (-1))=C v:=by
 show(ag Z l).bind _=_
 rw[h]
 show(nx (ys++[v]).length (-1)).bind ((ys++[v])[·]?)=_
 have e:nx (ys++[v]).length (-1)=C ys.length:=by
  rw[Ð]
  show XB (-1) (ys.length+1)=_
  unfold XB
  have e:(-1:Į)+((ys.length+1:Ó):Į)=(ys.length:Į):=by lia
  rw[Û (by decide:(-1:Į)<0),e]
  simp
  lia
 rw[e]
 show(ys++[v])[ys.length]? = C v
 exact Ĳ
def mU {l k:Ó} {v:AV} (h:ag Z l=C (Z_ (k+1) v)):fw Z (.loc l) (.int (-1))=C v:=fy (ys:=Z_ k v) (h.trans (Õ C ri))
def br {o v:AV} {k:Ì} {kvs:ZF} (h:aC Z o=C kvs) (e:ak k kvs=C v):fw Z o (.str k)=C v:=by
 show(aC Z o).bind (ak k)=_
 rw[h];exact e
def dp {o:AV} {x:Ì} {m:Callee} {F:Callee->Prop} (e:eW T Z o x=C m) (k:F m):ok (eW T Z o x) F:=o5 e k
def mB {o:XR} {a b:AV} {c:ì} {F:ì->Prop} (e:jR Z o a b=C c) (k:F c):ok (jR Z o a b) F:=o5 e k
def uZ {s:Ì}:fq .sStrip [.str s] Z=C (.str (be s),Z):=rfl
def Cg {s c:Ì} {k:Į} (h:c.length≠0/\k=1/\(ĝ s c k).length<=Ö):fq .sSplit [.str s,.str c,.int k] Z=C (.fl ((ĝ s c k).map .str),Z):=Û h
def bx {B:Type} {src:aa->Prop} {f:AV->B->aa->(B->aa->Prop)->Prop} {b:B} {K:B->aa->Prop} (h:src Z) (k:K b Z):aY src f [] b Z K:=⟨h,k⟩
def bB {B:Type} {xs:ZB} {f:AV->B->aa->(B->aa->Prop)->Prop} {b:B} {K:B->aa->Prop} (k:∀src:aa->Prop,(∀Z,src Z)->aY src f xs b Z K):Xg (.fl xs) f b Z K:=by rw[fh];exact k _ λJ=>rfl
def rz {k:Ì} {v:AV} {kvs:ZF} (h:k∉kvs.map (·.1)):aF k v kvs=kvs++[(k,v)]:=Ý λq=>by
 obtain⟨kv,B,e⟩:=YF.mp q
 exact h (of_decide_eq_true e▸Ĭ B)
def oG {B:Type} {v:AV} {t:È (AV×È AV)} {f:AV->B->aa->(B->aa->Prop)->Prop} {b:B} {K:B->aa->Prop} (e:fT Z v=C t) (k:aY (λZ=>fT Z v=C t) f (t.flatMap (·.2)) b Z K):walkGZ v f b Z K:=by rw[EZ];exact o5 e k
def Cb {s c:Ì} {k:Į} (h:c.length≠0/\k.natAbs<2 ^ 30/\(Ĵ s c k).length<=Ö):fq .sRsplit [.str s,.str c,.int k] Z=C (.fl ((Ĵ s c k).map .str),Z):=Û h
def my {v:AV} {n:Ó} (h:Ll v Z=C n):fq .len [v] Z=C (.int (n:Į),Z):=by
 show(Ll v Z).map _=_
 rw[h];rfl
def Bi:∀k<10,(dj ((k:Ó):Į)).length<=1:=by decide +kernel
def f9 {l:Ó} {kvs:ZF} (h:Z[l]? = C (.dict kvs)):dS Z l=C kvs:=by unfold dS;rw[h]
def zC {l:Ó} {S:ZC} {p:Ì} (h:Z[l]? = C (.set S)) (hz:S.length+1<ű):fq .eAdd [.loc l,.str p] Z=C (.none,Z.set l (.set (aZ p S))):=by
 show(lI Z l).bind _=_
 rw[show lI Z l=C S by unfold lI;rw[h]]
 exact Û hz
end
section
section
open Builtin Builtin.Str StrLaws
variable {c:Ó} {p m x:Ì}
def PB (D:c∉aB p) (B:c∉aB m) (e:aB x=aB p++c::aB m) (i:Ó):(aB x)[i]? = C c↔i=p.length:=by
 rw[e,<-ai]
 constructor
 ·intro h
  rcases Nat.lt_trichotomy i (aB p).length with q|q|q
  ·rw[ľ q]at h
   exact absurd (Ĉ h) D
  ·exact q
  ·rw[ĺ (ð q)]at h
   obtain⟨k,hk⟩:=Nat.exists_eq_add_of_lt q
   simp only[hk,Ď,D3,getElem?_cons_succ]at h
   exact absurd (Ĉ h) B
 ·rintro rfl
  rw[ĺ (Ë _),Ť];rfl
def tS (e:aB x=aB p++c::aB m):x.length=p.length+1+m.length:=by
 rw[<-ai,e,Ð,ŕ,ai,ai,Ď,ı 1]
def rO (D:c∉aB p) (B:c∉aB m) (e:aB x=aB p++c::aB m) (i:Ó):StrLaws.At x ⟨#[c]⟩ x.length i↔i=p.length:=(subAt_one x c i).trans (PB D B e i)
def rZ (e:aB x=aB p++c::aB m):partsBetween x [p.length] 1=[p,m]:=by
 have l:=tS e
 rw[partsBetween_eq]
 show[strSub x 0 p.length,strSub x (p.length+1) x.length]=_
 rw[show strSub x 0 p.length=p from bF (by simp only[aB,strSub_toList,acN,XI,<-ai p];rw[show x.cps.toList=_ from e];exact take_left),
  show strSub x (p.length+1) x.length=m from bF (by
   rw[aB,strSub_toList,show x.cps.toList=_ from e,Ϙ,drop_left' (by rw[Ð,ai];rfl),l,D3]
   exact fe (ó (ai m)))]
def Bj (D:c∉aB p) (B:c∉aB m) (e:aB x=aB p++c::aB m) {k:Ó} (hk:1<=k):occurrences x ⟨#[c]⟩ 0 x.length k=[p.length]:=by
 rcases occ_head x ⟨#[c]⟩ k hk with⟨_,h⟩|⟨i,r,H,I,_⟩
 ·exact absurd ((rO D B e _).mpr rfl) (h _)
 ·obtain⟨f,G⟩:=occ_chain x ⟨#[c]⟩ k
  rw[H]at G ⊢
  obtain rfl:=(rO D B e _).mp I
  cases r with
  | nil=>rfl
  | cons j r=>
   obtain⟨_,_,a,b,_⟩:=G
   rw[(rO D B e _).mp b]at a
   exact absurd a (Nat.not_succ_le_self _)
def rX (e:aB x=aB p++c::aB m):(decide (x.length<(⟨#[c]⟩:Ì).length)||decide (strKind x<strKind ⟨#[c]⟩))=Ï:=by
 refine WF.mpr ⟨ü λh=>?_,ü λh=>StrLaws.kind_free x c h (show c∈aB x by rw[e];exact í _ (ã ..))⟩
 rw[tS e,Ě]at h
 exact Zy _ (N_ h)
def Ma (D:c∉aB p) (B:c∉aB m) (e:aB x=aB p++c::aB m):ğ x ⟨#[c]⟩=[p,m]:=by
 unfold ğ
 rw[rX e,Bj D B e (á (ï _))]
 exact rZ e
def yZ (D:c∉aB p) (B:c∉aB m) (e:aB x=aB p++c::aB m):ĝ x ⟨#[c]⟩ 1=[p,m]:=by
 unfold ĝ
 rw[rX e,show XA x 1=1 from rfl,Bj D B e (Ë _)]
 exact rZ e
def Et {s sub:Ì} {j:Ó}:∀(l:È Ó) (f:Ó),(forIn l ((#[j]:ÿ Ó),f) (occRBody s sub 1)).run.fst = #[j]:=by
 intro D;induction D with
 | nil=>
  exact @λJ=>rfl
 | cons a l B=>
  intro f
  rw[ϟ]
  unfold occRBody
  exact B f
def HM {s sub:Ì} {j:Ó} (B:∀i,i+sub.length<=s.length/\subAt s sub i=Í↔i=j):∀l:È Ó,(∃k∈l,s.length - k=j)->(forIn l ((#[]:ÿ Ó),s.length) (occRBody s sub 1)).run.fst = #[j]:=by
 intro G;induction G with
 | nil=>
  exact @λh=>h.elim λJ h=>nomatch h.1
 | cons a l D=>
  intro h
  rw[ϟ]
  unfold occRBody
  by_cases q:s.length - a=j
  ·rw[Û ⟨⟨abG,((B _).mpr q).1⟩,((B _).mpr q).2⟩,q]
   exact Et l j
  ·rw[Ý λh=>q ((B _).mp ⟨h.1.2,h.2⟩)]
   exact D (by obtain⟨k,hk,e⟩:=h;exact⟨k,(Ċ.mp hk).resolve_left λz=>q (z▸e),e⟩)
def wh (D:c∉aB p) (B:c∉aB m) (e:aB x=aB p++c::aB m):Ĵ x ⟨#[c]⟩ 1=[p,m]:=by
 have h:occurrencesFromRight x ⟨#[c]⟩ 1=[p.length]:=by
  rw[occR_eq,HM (rO D B e) _ ⟨x.length - p.length,?_,?_⟩]
  ·rfl
  ·rw[mem_range'_1,ė];exact⟨ï _,ej (aaw _ _)⟩
  ·exact Nat.sub_sub_self (by rw[tS e,Ď];exact ë _ _)
 unfold Ĵ
 rw[rX e,show XA x 1=1 from rfl,h]
 exact rZ e
end
end
open StrLaws in
def uh {x:Ì} {n:Ó} (h:n<=x.length):aB (Ļ x (C (n:Į)) U)=(aB x).drop n:=by
 rw[show Ļ x (C (n:Į)) U=sliceText x (C (n:Į)) U from rfl,sliceText_from ⟨W6 _,ec.mpr (Â h (ó (ai x).symm))⟩]
 show((aB x).drop n).take _=_
 refine fe ?_
 rw[ϰ,show((aB x).length:Į) - (n:Į)=(((aB x).length - n:Ó):Į)from(Int.ofNat_sub (Â h (ó (ai x).symm))).symm]
 exact Ë _
open StrLaws in
def NN {x:Ì} {n:Ó} (h:n<=x.length):aB (Ļ x U (C (n:Į)))=(aB x).take n:=by
 rw[show Ļ x U (C (n:Į))=sliceText x U (C (n:Į))from rfl,sliceText_to ⟨W6 _,ec.mpr (Â h (ó (ai x).symm))⟩,acK]
 rfl
def Bb {x:Ì} {l:È Ó} {c:Ó} (e:aB x=l++[c]):x.length=l.length+1/\-(x.length:Į)<=-1/\(-1:Į)+(x.length:Į)=(l.length:Į):=by
 have h:x.length=l.length+1:=by rw[<-ai,e,Ð];rfl
 rw[h,Int.natCast_add]
 refine⟨rfl,abX (Int.le_add_of_nonneg_left (W6 _)),?_⟩
 show(-1:Į)+((l.length:Į)+1)=_
 rw[Int.add_comm,Int.add_neg_cancel_right]
open StrLaws in
def ui {x:Ì} {l:È Ó} {c:Ó} (e:aB x=l++[c]):aB (Ļ x (C (-1)) U)=[c]:=by
 obtain⟨B,D,G⟩:=Bb e
 rw[show Ļ x (C (-1)) U=sliceText x (C (-1)) U from rfl,sliceText_neg_lo x U Zz D,G]
 refine(uh (n:=l.length) (Â (ö _) (ó B.symm))).trans ?_
 rw[e,drop_left]
open StrLaws in
def BB {x:Ì} {l:È Ó} {c:Ó} (e:aB x=l++[c]):aB (Ļ x U (C (-1)))=l:=by
 obtain⟨B,D,G⟩:=Bb e
 rw[show Ļ x U (C (-1))=sliceText x U (C (-1))from rfl,sliceText_neg_hi x U Zz D,G]
 refine(NN (n:=l.length) (Â (ö _) (ó B.symm))).trans ?_
 rw[e,take_left]
abbrev lF:Ó->ì:=Q_
def getD_list (t:ÿ Ó) (i:Ó):t.getD i 0=(t.toList[i]?).getD 0:=by
 rw[Array.getD_eq_getD_getElem?,Š]
def BU (t:ÿ Ó):∀n i,i+n=t.size->wc t n i=((t.toList.drop i).takeWhile lF).length:=by
 intro G;induction G with
 | zero=>
  intro i h
  rw[drop_of_length_le (by simp only[Č,<-h];exact Ë _)];rfl
 | succ n D=>
  intro i h
  have B:i<t.toList.length:=by rw[Č,<-h];exact D_ (ŵ _)
  simp only[pT B,Xd]
  rw[IV]
  simp only[getD_list,æ B,D (i+1) (by rw[Ď,ı 1];exact h),Option.getD_some]
  show(bif lF t.toList[i]then _ else _)=_
  cases lF t.toList[i]<;>rfl
def Fj (B:Prop) (l p m z:È Ó):Prop:=∀(hp:p≠[]) (hm:m≠[]) (wp:∀c∈p,lF c=Í) (wm:∀c∈m,lF c=Í) (e:l=p++58::(m++z)) (hz:z=[]\/z=[10]),B
def Good:=λl p m z=>∀B,Fj B l p m z->B
def Good.mk:Fj (Good l p m z) l p m z:=λG D I H e hz J B=>B G D I H e hz
def rB {p r:È Ó} {c:Ó} (B:∀c∈p,lF c=Í) (h:lF c=Ï):(p++c::r).takeWhile lF=p:=by
 rw[e7 B,Xd,h]
 exact Ę _
def IG {m z:È Ó} (B:∀c∈m,lF c=Í) (hz:z=[]\/z=[10]):(m++z).takeWhile lF=m:=by
 rcases hz with rfl|rfl
 ·rw[e7 B];exact Ę _
 ·exact rB B (by decide +kernel)
def lQ {p r:È Ó} {c:Ó}:(p++c::r)[p.length]? = C c:=by rw[ĺ (Ë _),Ť];rfl
def jU {p r:È Ó} {c:Ó}:(p++c::r).drop (p.length+1)=r:=by rw[Ϙ];exact drop_left' (Ð ..)
def xI {t:ÿ Ó} {p m z:È Ó} (h:Good t.toList p m z):bO t=Í:=by
 refine h _ λÀ Q Y V e hz=>?_
 have I:t.size=p.length+1+(m.length+z.length):=by simp only[<-Č,e,Ð,ŕ,Ð];exact(Ě p.length 1 (m.length+z.length)).symm
 have D:p.length<t.size:=by rw[I,Ď];exact D_ (ô abG (ë _ _))
 have L:wc t t.size 0=p.length:=by rw[BU t _ 0 (ė _),acN,e,rB Y (by decide +kernel)]
 have G:wc t (t.size - (p.length+1)) (p.length+1)=m.length:=by simp only[BU t _ _ (aac (aaP D)),e,jU,IG V hz]
 have H:t.getD p.length 0=58:=by rw[getD_list,e,lQ];rfl
 have B:hO t (p.length+1+m.length)=Í:=by
  unfold hO
  rw[I,getD_list,e]
  rcases hz with rfl|rfl
  ·exact WT.mpr (.inl (ş (p.length+1+m.length)))
  ·refine WT.mpr (.inr (è.mpr ⟨ş (p.length+1+m.length+1),?_⟩))
   rw[ Ϙ,<-ø,show p.length+1+m.length=(p++[58]++m).length by rw[Ð,Ð];rfl,lQ];rfl
 obtain⟨k,hk⟩:=X5 λq=>À (Ō.mp q)
 obtain⟨j,O⟩:=X5 λq=>Q (Ō.mp q)
 rw[hk]at L G H B D
 rw[O]at G B
 unfold bO
 rw[L]
 show((decide (k+1<t.size)&&t.getD (k+1) 0==58)&&Qx t k (wc t (t.size - (k+2)) (k+2)))=Í
 simp only[show decide (k+1<t.size)=Í from õ D,show t.getD (k+1) 0=58 from H,show wc t (t.size - (k+2)) (k+2)=j+1 from G]
 exact B
def yq {t:ÿ Ó} (h:bO t=Í):∃p m z,Good t.toList p m z:=by
 unfold bO at h
 rw[BU t _ 0 (ė _),acN]at h
 have E:∀c∈t.toList.takeWhile lF,lF c=Í:=λc I=>ũ.mp aef c I
 have e:=(x_ (p:=lF) (l:=t.toList)).symm
 generalize t.toList.takeWhile lF=p at *
 generalize t.toList.dropWhile lF=D at *
 cases p with
 | nil=>cases h
 | cons a p=>
  have h:((decide (p.length+1<t.size)&&t.getD (p.length+1) 0==58)&&Qx t p.length (wc t (t.size - (p.length+2)) (p.length+2)))=Í:=h
  rw[ú,ú]at h
  obtain⟨⟨G,H⟩,B⟩:=h
  have G:p.length+1<t.size:=of_decide_eq_true G
  have O:t.size=(a::p).length+D.length:=by simp only[<-Č,e,Ð]
  rw[getD_list,e]at H
  rw[BU t _ _ (aac (aaP G)),e]at B
  cases D with
  | nil=>rw[O]at G;exact absurd G (Ő _)
  | cons c r=>
   have À:c=58:=by
    rw[show p.length+1=(a::p).length from rfl,lQ]at H
    exact eq_of_beq H
   replace B:Qx t p.length ((((a::p)++c::r).drop ((a::p).length+1)).takeWhile lF).length=Í:=B
   rw[jU]at B
   have Y:∀c∈r.takeWhile lF,lF c=Í:=λc I=>ũ.mp aef c I
   have V:=(x_ (p:=lF) (l:=r)).symm
   generalize r.takeWhile lF=m at *
   generalize r.dropWhile lF=z at *
   subst V À
   cases m with
   | nil=>cases B
   | cons b m=>
    refine⟨a::p,b::m,z,.mk (cons_ne_nil _ _) (cons_ne_nil _ _) E Y e ?_⟩
    have B:hO t ((a::p).length+1+(b::m).length)=Í:=B
    unfold hO at B
    rw[O,getD_list,e]at B
    have A:((a::p).length+(58::(b::m++z)).length)=(a::p).length+1+(b::m).length+z.length:=by
     rw[ŕ (a:=58),Ð]
     exact(Ě (a::p).length 1 ((b::m).length+z.length)).symm.trans (Ď ..).symm
    rw[A]at B
    rcases WT.mp B with q|q
    ·exact .inl (Ō.mp (aab (n:=(a::p).length+1+(b::m).length) (eq_of_beq q)).symm)
    ·obtain⟨L,Q⟩:=è.mp q
     have L:=aab (n:=(a::p).length+1+(b::m).length) (eq_of_beq L)
     obtain⟨y,rfl⟩:=length_eq_one_iff.mp L.symm
     rw[Ϙ,<-ø,show(a::p).length+1+(b::m).length=(a::p++[58]++b::m).length by rw[Ð,Ð];rfl,lQ]at Q
     exact .inr (Õ (λy=>[y]) (eq_of_beq Q))
def W9:Ì:="pqbyxn0_é"
noncomputable def Eb (t:Ì):Ì:=if Ļ t (C (-1)) U = "\n" then Ļ t U (C (-1))else t
def Qv (h:ZC):ì:=(decide (h.length=2)&&!h.contains "")&&(aB (û "" h)).all λc=>(aB W9).contains c
@[irreducible] def hvP (t:Ì):Æ (Ì×Ì):=if Qv (ğ (Eb t) ":")=Í then C ((ğ (Eb t) ":").headD "",Ļ t (C ((((ğ (Eb t) ":").headD "").length+1:Ó):Į)) U)else U
noncomputable def SA:È Ó:=[112,113,98,121,120,110,48,95,233,58,32,10,45,60]
def Al (t:Ì):Prop:=∀c∈aB t,c∈SA
def ug:∀c∈SA,lF c=(aB W9).contains c:=by decide +kernel
def md:∀c∈aB W9,lF c=Í/\c≠58/\c≠125:=by decide +kernel
def cJ (ts:ZC):aB (û "" ts)=(ts.map aB).flatten:=Hg ts
def Me {x:Ì} {l:È Ó} (h:aB x=l):x=⟨l.toArray⟩:=bF h
section
variable {t:Ì} {p m z:È Ó}
def OU (h:Good (aB t) p m z):aB (Eb t)=p++58::m:=by
 refine h _ λhp B wp D e hz=>?_
 unfold Eb
 rcases hz with rfl|rfl
 ·rw[Ę]at e
  rw[Ý,e]
  intro q
  have em:=(ϒ B).symm
  rw[em,Ϙ,<-ø]at e
  have h:=ui e
  rw[q]at h
  have:=D _ (getLast_mem B)
  rw[<-(ŭ h).1]at this
  exact absurd this (by decide +kernel)
 ·rw[Ϙ,<-ø]at e
  rw[Û (bF (ui e)),BB e,<-Ϙ]
def zT (O:Al t) (h:Good (aB t) p m z):hvP t=C (⟨p.toArray⟩,⟨(m++z).toArray⟩):=by
 have e:=OU h
 refine h _ λV À L I D hz=>?_
 have H:∀{l:È Ó},(∀c∈l,lF c=Í)->58∉l:=λw q=>absurd (w _ q) (by decide +kernel)
 have es:ğ (Eb t) ":" = [⟨p.toArray⟩,⟨m.toArray⟩]:=Ma (c:=58) (p:=⟨p.toArray⟩) (m:=⟨m.toArray⟩) (H L) (H I) e
 have G:∀{l:È Ó},l≠[]->(("" : Ì)==⟨l.toArray⟩)=Ï:=λh=>Œ λq=>h (Õ aB q).symm
 unfold hvP
 rw[es]
 have Q:Qv [⟨p.toArray⟩,⟨m.toArray⟩]=Í:=by
  unfold Qv
  rw[cJ]
  refine è.mpr ⟨è.mpr ⟨rfl,?_⟩,ũ.mpr λc B=>?_⟩
  ·simp only[oo,oo,G V,G À];rfl
  ·have B:c∈p++(m++[]):=B
   rw[Ę]at B
   rw[<-ug c (O c (by rw[D];exact(ý.mp B).elim (ç _) λq=>í _ (à _ (ç _ q))))]
   exact(ý.mp B).elim (L c) (I c)
 rw[Û Q]
 refine Õ (λb=>C ((⟨p.toArray⟩:Ì),b)) (Me ?_)
 rw[uh,D]
 ·exact jU
 ·simp only[<-ai t,D,Ð]
  exact Ø (á (ï _)) _
set_option tactic.hygienic true in def AS (al:Al t) {q:Ì×Ì} (h:hvP t=C q):∃p m z,Good (aB t) p m z:=by
 unfold hvP at h
 split at h
 case isFalse=>contradiction
 rename_i hb
 unfold Qv at hb
 rw[ú,ú]at hb
 obtain⟨⟨Q,H⟩,B⟩:=hb
 obtain⟨x,y,e⟩:∃x y,ğ (Eb t) ":" = [x,y]:=by
  match ğ (Eb t) ":",of_decide_eq_true Q with
  | [x,y],_=>exact⟨x,y,rfl⟩
 have I:=WO (Eb t) ":"
 rw[e]at I H B
 have G:aB (Eb t)=aB x++58::aB y:=by
  rw[<-I]
  show aB (x++":"++y)=_
  rw[aE,aE,ø];rfl
 rw[cJ]at B
 have B:∀c∈aB x++(aB y++[]),lF c=Í:=λc D=>(md c (Ú.mp (ũ.mp B c D))).1
 rw[Ę]at B
 have O:∀{a:Ì},a∈[x,y]->aB a≠[]:=λL q=>by
  rw[show _=("" : Ì)from bF q]at L
  rw[Ú.mpr L]at H
  cases H
 refine⟨aB x,aB y,(if Ļ t (C (-1)) U = "\n" then[10]else[]),.mk (O (ã ..)) (O (à _ (Ù.mpr rfl))) (λc D=>B c (ç _ D)) (λc D=>B c (í _ D)) ?_ ?_⟩
 ·unfold Eb at G
  split at G<;>rename_i q
  ·rw[Û q,Ϙ,<-ø,<-Ϙ,<-G]
   rcases acO (aB t)with n|⟨l,c,n⟩
   ·rw[show t = "" from bF n]at q
    exact absurd q (by decide +kernel)
   ·rw[acM]at n
    rw[BB n,n]
    have:=ui n
    rw[q]at this
    exact Õ (λy=>l++[y]) (ŭ (show[10]=[c]from this)).1.symm
  ·rw[Ý q,Ę,<-G]
 ·split
  ·exact .inr rfl
  ·exact .inl rfl
variable {n:Ó} {s:Ì} {Z:aa} {K:VK} {X:Ì->aa->Prop} {out data dl nl ps n0:ZB} {pm:ZF} {pd:AV} {se dn:ì} {x:aa}
def RE (hz:data.length<Ö) (k:K .none (Sw se dn pd n0 nl dl ps pm (data++[.str s]) out x)):Dn (n+1) 97 [tg,.str s] [] (Sw se dn pd n0 nl dl ps pm data out x) K X:=by
 rw[T3]
 exact bS (l:=3) rfl hz k
noncomputable def bd (m:Ó):È AV:=Z_ (m+1) (.bool Ï)
def stp (d:Ì):Ì:=if f.st=Í then be d else d
noncomputable def nN (d:Ì):Ì:=ť d "<" "&lt;"
noncomputable def IZ (d:Ì):Ì:=ť d "\n" "&#xA;"
def more (out:ZB) (d:Ì):È AV:=if(d.length !=0)=Í then out++[.str (nN d)]else out
noncomputable abbrev oP:È Ó:=[38,62,13]
noncomputable abbrev N8:È Ó:=[38,60,34,9,13]
def Bv {m:Ó} (h:s.length<=10000) (B:m<=10):s.length+(s.length+1) * m<=Ö:=
 Â (å h (Nat.mul_le_mul (á h) B)) Zz
def F3 (p:uE oP s) (B:s.length<=10000) (k:K (.str (nN s)) Z):Dn (n+1) 161 [.str s] [] Z K X:=by
 rw[T6]
 refine db (p.no (c:=38) rfl) ?_
 cases h:σ s ⟨#[60]⟩with
 | true=>
  exact dD h ⟨Bv B Zz,db (yx (p.no (c:=62) rfl) (by decide +kernel)) <| db (yx (p.no (c:=13) rfl) (by decide +kernel)) k⟩
 | false=>
  unfold nN at k
  rw[show ť s "<" "&lt;" = s from H0 h]at k
  exact db h <| db (p.no (c:=62) rfl) <| db (p.no (c:=13) rfl) k
def RQ (p:uE N8 s) (B:s.length<=10000) (k:K (.str (IZ s)) Z):Dn (n+1) 168 [.str s] [] Z K X:=by
 rw[T5]
 refine db (p.no (c:=38) rfl) <| db (p.no (c:=60) rfl) <| db (p.no (c:=34) rfl) <| db (p.no (c:=9) rfl) ?_
 cases h:σ s ⟨#[10]⟩with
 | true=>exact dD h ⟨Bv B Zz,db (yx (p.no (c:=13) rfl) (by decide +kernel)) k⟩
 | false=>
  unfold IZ at k
  rw[show ť s "\n" "&#xA;" = s from H0 h]at k
  exact db h <| db (p.no (c:=13) rfl) k
def zN {m:Ó} {d:Ì} {N:NK} {R:RK} {X:XK} (p:uE oP d) (B:d.length<=10000) (D:out.length<Ö)
 (k:∀vs,N vs (Sw Í dn .none n0 nl dl (bd m) pm [] (more out d) x)):lT (Dn (n+1)) [C tg,C (.bm .sJoin (.str "")),C (.str d),U,U] (Sw Í dn .none n0 nl dl (bd m) pm [] out x) N R X:=by
 unfold more at k
 cases h:(d.length !=0)with
 | false=>rw[h]at k;exact db h (k _)
 | true=>rw[h]at k;exact dD h (F3 p B (f0 (l:=1) rfl D (k _)))
def Gg {ts:ZC} {d:Ì} {m:Ó} (h:aJ data=C ts) (hz:(ts.map (·.length)).sum<=5000) (B:stp (û "" ts)=d) (D:d.length<=10000) (G:out.length<Ö) (p:uE oP d)
 (k:K .none (Sw Í dn .none n0 nl dl (bd m) pm [] (more out d) x)):Dn (n+2) 106 [tg] [] (Sw Í dn .none n0 nl dl (bd m) pm data out x) K X:=by
 rw[Oo]
 refine Nh (Z:=Sw Í dn .none n0 nl dl (bd m) pm data out x) (l:=3) rfl h (Â hz Zz) ?_
 unfold stp at B
 cases hst:f.st with
 | false=>
  rw[hst,Ý ß]at B
  subst B
  exact db hst (zN p D G λJ=>k)
 | true=>
  rw[hst,Û rfl]at B
  subst B
  exact dD hst (aL (mU (l:=8) (k:=m) rfl) (ay uZ (zN p D G λJ=>k)))
end
noncomputable def ce (u n:Ì):Ì:=(((Ĕ++"{")++u)++"}")++n
noncomputable def fQ (p t:Ì):Ì:=((((Ĕ++"Prefix ")++p)++" of QName \"")++t)++"\" is not declared in scope"
section
variable {n:Ó} {s:Ì} {Z:aa} {K:VK} {X:Ì->aa->Prop} {out data dl nl ps n0:ZB} {pm:ZF} {pd:AV} {se dn:ì} {x:aa}
def LY {src:aa->Prop} {acT:aj} {p m w:Ì} (D:src Z) (H:m.length<=5000):∀(M:ZE) (u q:Æ AV),(∀z∈M,z.1.length<=100)->(∀N:NK,(∀z,M.find? (λz=>decide (z.2=p))=C z->K (.str (ce z.1 m)) Z)->(M.find? (λz=>decide (z.2=p))=U->∀u q,N [C tg,C (.str w),C (.str p),C (.str m),u,q] Z)->
 aY src (λx vs Z N=>(aT 2 (ac (aN 4) (ac (aN 5) a0))) acT x vs Z (λvs Z=>qC acT vs Z N (λv J Z=>K v Z) λm J Z=>X m Z) λm J Z=>X m Z) (M.map ae) [C tg,C (.str w),C (.str p),C (.str m),u,q] Z N):=by
 intro Q;induction Q with
 | nil=>
  exact @λu q J N J k=>bx D (k rfl u q)
 | cons z M I=>
  exact @λu q h N G L=>⟨D,by
   cases e:decide (z.2=p)with
   | true=>
    refine dD e ?_
    refine bz (i:=0) (j:=1) Zz Zz Zz λl=>bz l (h z (ã ..)) Zz λl=>bz l (j:=1) Zz Zz λl=>bz l H Zz λl=>?_
    exact G z (by simp only[ϭ,e])
   | false=>
    refine db e ?_
    exact I _ _ (λz hz=>h z (à _ hz)) N (λO B=>G O (by rw[ϭ,e];exact B)) λB=>L (by rw[ϭ,e];exact B)⟩
def tM:eW T (Sw se dn pd n0 nl dl ps pm data out x) tg ("_iter_namespaces" : Ì)=C (.fn T.it tg):=by kernel_rfl
def NL {w p m:Ì} {t:È (AV×È AV)} {M:ZE} (G:ĝ w ":" 1=[p,m]) (O:w.length<=5000) (B:p.length<=5000) (L:m.length<=5000) (D:fT (Sw se dn pd n0 nl dl ps pm data out x) (.loc 5)=C t) (H:t.flatMap (·.2)=M.map ae) (I:∀z∈M,z.1.length<=100)
 (Q:∀z,M.find? (λz=>decide (z.2=p))=C z->K (.str (ce z.1 m)) (Sw se dn pd n0 nl dl ps pm data out x)) (À:M.find? (λz=>decide (z.2=p))=U->X (fQ p w) (Sw se dn pd n0 nl dl ps pm data out x)) :
 Dn (n+1) 82 [tg,.str w] [] (Sw se dn pd n0 nl dl ps pm data out x) K X:=by
 rw[Ug]
 refine ay (Cg ⟨by decide,rfl,by rw[G];exact(by decide:2<=Ö)⟩) ?_
 rw[G]
 refine⟨tM,oG D ?_⟩
 rw[H]
 refine LY D L M _ _ I _ Q λe J J=>?_
 exact bz (i:=0) (j:=7) Zz Zz Zz λl=>bz l B Zz λl=>bz l (j:=11) Zz Zz λl=>bz l O Zz λl=>bz l (j:=29) Zz Zz λl=>À e
end
noncomputable def ge (p t:Ì):Ì:=((Ĕ++p)++":")++t
section
variable {n:Ó} {s:Ì} {Z:aa} {K:VK} {X:Ì->aa->Prop} {out data dl nl ps n0:ZB} {pm:ZF} {pd:AV} {se dn:ì} {x:aa}
def uu {c:aK}:(Wu (x++[c]))[(Wu x).length]? = C c:=by
 show(Wu x++[c])[(Wu x).length]? = C c
 exact Ĳ
def ut {c v:aK}:(Wu (x++[c])).set (Wu x).length v=Wu (x++[v]):=by
 show(Wu x++[c]).set (Wu x).length v=Wu x++[v]
 rw[Wy _ _ (Ë _),Ť];rfl
def GY {S:ZC} {p:Ì} {l:Ó} (h:Z[l]? = C (.set S)):jR Z .NotIn (.str p) (.loc l)=C (!S.contains p):=by
 show ε _ (abj (YT (aw Z (.loc l)) _) λJ=>abj (ε _ (fN Z (.loc l))) _)=_
 unfold aw fN
 dsimp only
 rw[h];rfl
def Ob {S:ZC} {p:Ì} (hz:S.length+1<ű):fq .eAdd [.loc (Wu x).length,.str p] (Wu (x++[.set S]))=C (.none,Wu (x++[.set (aZ p S)])):=by
 show(lI (Wu (x++[.set S])) (Wu x).length).bind _=_
 rw[show lI (Wu (x++[.set S])) (Wu x).length=C S by unfold lI;rw[uu]]
 refine(Û hz).trans ?_
 rw[ut]
def nQ {S:ZC} {l:Ó} (h:Z[l]? = C (.set S)):eW T Z (.loc l) "add" = C (.bi .eAdd (.loc l)):=by
 show cH (ag Z l) _ (cH (lI Z l) _ _)=_
 unfold ag lI
 rw[h];rfl
def uR (p:Ì) (S:ZC):(aZ p S).length<=S.length+1:=by
 unfold aZ
 split
 ·exact ö _
 ·rw[Ð];exact Ë _
def gj {p q:Ì} {S:ZC} (h:q∈aZ p S):q∈S\/q=p:=by
 unfold aZ at h
 split at h
 ·exact .inl h
 ·exact(ý.mp h).imp id Ù.mp
def Jw:fq .set [] (Wu x)=C (.loc (Wu x).length,Wu (x++[.set []])):=rfl
def LQ {src:aa->Prop} {acT:aj} {u t:Ì} {q:AV} (Q:∀S,src (Wu (x++[.set S]))) (hu:u.length<=100) (A:t.length<=5000):∀(M:ZE) (S:ZC) (v w:Æ AV),(∀z∈M,(z.2.length !=0)=Í/\z.2.length<=100)->(∀z∈M,∀B∈M,z.2=B.2->z.1=B.1)->(∀z∈M,z.1=u->S.contains z.2=Ï)->S.length+M.length<4000->
 ∀N:NK,(∀z∈M,z.1=u->∀D,K (.tup [.str (ge z.2 t),.str t,.str u]) (Wu (x++[.set D])))->((∀z∈M,z.1≠u)->∀D v w,(∀p∈D,p∈S\/p∈M.map (·.2))->N [C tg,C q,C (.str u),C (.str t),C (.loc (Wu x).length),v,w] (Wu (x++[.set D])))->
 aY src (λx vs Z N=>(aT 2 (ac (aN 5) (ac (aN 6) a0))) acT x vs Z (λvs Z=>km acT vs Z N (λv J Z=>K v Z) λm J Z=>X m Z) λm J Z=>X m Z) (M.map ae) [C tg,C q,C (.str u),C (.str t),C (.loc (Wu x).length),v,w] (Wu (x++[.set S])) N:=by
 intro r;induction r with
 | nil=>
  exact @λS v w J J J J N J k=>bx (Q S) (k (λJ h=>nomatch h) S v w λJ h=>.inl h)
 | cons z M g=>
  exact @λS v w H L O I N À y=>⟨Q S,by
   rw[ŕ]at I
   have next:z.1≠u->qA acT [C tg,C q,C (.str u),C (.str t),C (.loc (Wu x).length),C (.str z.1),C (.str z.2)] (Wu (x++[.set S])) (λvs Z=>aY src (λx vs Z N=>(aT 2 (ac (aN 5) (ac (aN 6) a0))) acT x vs Z (λvs Z=>km acT vs Z N (λv J Z=>K v Z) λm J Z=>X m Z) λm J Z=>X m Z) (M.map ae) vs Z N) (λv J Z=>K v Z) λm J Z=>X m Z:=λG=>by
    refine dp (nQ uu) ?_
    refine ay (Ob (É (Ø (á (ï _)) _) (Þ I Zz)):fq .eAdd [.loc (Wu x).length,.str z.2] (Wu (x++[.set S]))=C (.none,Wu (x++[.set (aZ z.2 S)]))) ?_
    refine g _ _ _ (λz h=>H z (à _ h)) (λz h B h'=>L z (à _ h) B (à _ h')) (λB h' e=>?_) ?_ N (λz h=>À z (à _ h)) λY D v w V=>y (λB h'=>(Ċ.mp h').elim (λe=>e▸G) (Y B)) D v w λp E=>?_
    ·cases e':(aZ z.2 S).contains B.2 with
     | false=>rfl
     | true=>
      refine absurd ?_ G
      rcases gj (Ú.mp e')with m|m
      ·have:=O B (à _ h') e
       rw[Ú.mpr m]at this;cases this
      ·exact(L B (à _ h') z (ã ..) m).symm.trans e
    ·exact É (Ò (uR _ _) _) (by rw[Ď,ı 1];exact I)
    ·rcases V p E with m|m
     ·exact(gj m).imp id λ(e:p=z.2)=>by rw[e];exact ã ..
     ·exact .inr (à _ m)
   by_cases e:z.1=u
   ·refine dD (õ e) ?_
    refine mB (c:=Í) ((GY uu).trans (Õ (λb=>C (!b)) (O z (ã ..) e))) ?_
    refine dD rfl (dD rfl (dD (H z (ã ..)).1 ?_))
    exact bz (a:=Ĕ) (i:=0) (Ë _) (H z (ã ..)).2 Zz λl=>bz l (b:=":") (j:=1) Zz Zz λl=>bz l A Zz λl=>À z (ã ..) e S
   ·exact db (ü e) (next e)⟩
end
inductive I9 (q u t:Ì):Prop
 | bare (h:Ļ q U (C 1)≠"{") (e:u = "") (e':t=q)
 | full (h:Ļ q U (C 1) = "{") (e:Ĵ (Ļ q (C 1) U) "}" 1=[u,t])
section
variable {n:Ó} {q u t:Ì} {Z:aa} {K:VK} {X:Ì->aa->Prop} {out data dl nl ps n0:ZB} {pm:ZF} {pd:AV} {se dn:ì} {x:aa} {acT:aj} {N:NK} {R:RK} {Y:XK}
def PN (h:I9 q u t) (k:AH acT [C tg,C (.str q),C (.str u),C (.str t),U,U,U] Z N R Y):AG acT [C tg,C (.str q),C .none,U,U,U,U] Z N R Y:=by
 cases h with
 | bare h e D=>
  subst e D
  exact db (ü h) k
 | full h e=>
  refine dD (õ h) (ay (Cb ⟨by decide,by decide,by rw[e];exact(by decide:2<=Ö)⟩) ?_)
  rw[e]
  exact k
def uD {d:Ó} {y:aa} {B:ZB} (h:y[d]? = C (.list B)):ag (Wu y) (d+9)=C B:=by
 show ag y d=_
 unfold ag
 rw[h]
variable {d:Ó} {B ys:ZB} {y:aa} {l v w:Æ AV} {p:Ì}
def Bq (G:p.length<=100) (H:t.length<=5000) (D:dl=ys++[.loc (d+9)]) (h:y[d]? = C (.list B)) (hz:B.length<1000)
 (k:K (.tup [.str (ge p t),.str t,.str u]) (Wu (y.set d (.list (B++[.tup [.str u,.str p]]))))):qB acT [C tg,C (.str q),C (.str u),C (.str t),l,v,C (.str p)] (Wu y) N (λv J Z=>K v Z) Y:=
 aL (fy (ys:=ys) (v:=.loc (d+9)) (Õ C D)) (dp (gm (uD h)) (bS (uD h) (Þ hz Zz)
  (bz (a:=Ĕ) (i:=0) (Ë _) G Zz λl=>bz l (b:=":") (j:=1) Zz Zz λl=>bz l H Zz λl=>k)))
def PP (I:p.length<=100) (L:t.length<=5000) (D:(pm.map (·.1)).contains u=Í) (H:ak u pm=C (.str p)) (G:dl=ys++[.loc (d+9)]) (h:y[d]? = C (.list B)) (hz:B.length<1000)
 (k:K (.tup [.str (ge p t),.str t,.str u]) (Wu (y.set d (.list (B++[.tup [.str u,.str p]]))))):kr acT [C tg,C (.str q),C (.str u),C (.str t),l,v,w] (Wu y) N (λv J Z=>K v Z) Y:=
 dD D (aL (br (o:=.loc 7) (v:=.str p) rfl H) (Bq I L G h hz k))
def pN (k:Ó):Ì:=(Ĕ++"n")++dj (k:Į)
def PO (I:t.length<=5000) (G:(pm.map (·.1)).contains u=Ï) (D:pm.length<10) (H:dl=ys++[.loc (d+9)]) (h:y[d]? = C (.list B)) (hz:B.length<1000)
 (k:K (.tup [.str (ge (pN pm.length) t),.str t,.str u]) (Sw se dn pd n0 nl dl ps (aF u (.str (pN pm.length)) pm) data out (y.set d (.list (B++[.tup [.str u,.str (pN pm.length)]]))))):kr acT [C tg,C (.str q),C (.str u),C (.str t),l,v,w] (Wu y) N (λv J Z=>K v Z) Y:=by
 refine db G (bz (a:=Ĕ) (i:=0) (j:=1) (b:="n") (Ë _) Zz Zz λL=>ay (my (n:=pm.length) rfl) (OO (Þ D Zz) (bz L (Bi _ D) Zz λO=>⟨Þ D Zz,?_⟩)))
 exact Bq (Â O Zz) I H h hz k
def LR {S:ZC} {l:Ó} (G:y[l]? = C (.set S)) (D:S.contains "" = Ï) (k:K (.tup [.str t,.str t,.str ""]) (Wu y)):s5 acT [C tg,C (.str q),C (.str ""),C (.str t),C (.loc (l+9)),v,w] (Wu y) N (λv J Z=>K v Z) Y:=
 mB (c:=Í) ((GY (l:=l+9) (S:=S) G).trans (Õ (λb=>C (!b)) D)) k
def HY {src:aa->Prop} {z:Ì×Ì} {l:Æ AV} (Q:src (Wu y)) (L:(z.2.length !=0)=Í/\z.2.length<=100) (À:t.length<=5000) (O:dl=ys++[.loc (d+9)]) (h:y[d]? = C (.list B)) (hz:B.length<1000)
 (k:K (.tup [.str (ge z.2 t),.str t,.str u]) (Wu (y.set d (.list (B++[.tup [.str u,.str z.2]]))))):∀(M:ZE) (v w:Æ AV) (N:NK),M.find? (λz=>decide (z.1=u))=C z->
 aY src (λx vs Z N=>(aT 2 (ac (aN 5) (ac (aN 6) a0))) acT x vs Z (λvs Z=>nc acT vs Z N (λv J Z=>K v Z) Y) Y) (M.map ae) [C tg,C (.str q),C (.str u),C (.str t),l,v,w] (Wu y) N:=by
 intro A;induction A with
 | nil=>
  exact @λD G H I=>by first|exact nomatch I|exact nomatch H|exact nomatch G|exact nomatch D
 | cons E M V=>
  exact @λv w N e=>⟨Q,by
   dsimp only[ϭ]at e
   cases e':decide (E.1=u)with
   | true=>
    rw[e']at e
    obtain rfl:=Ä e
    exact dD e' (aL (fy (ys:=ys) (v:=.loc (d+9)) (Õ C O)) (dp (gm (uD h)) (bS (uD h) (Þ hz Zz)
     (dD L.1 (bz (a:=Ĕ) (i:=0) (Ë _) L.2 Zz λl=>bz l (b:=":") (j:=1) Zz Zz λl=>bz l À Zz λl=>k)))))
   | false=>
    rw[e']at e
    exact db e' (V _ _ N e)⟩
def LS {z:Ì×Ì} {l:Æ AV} {G:È (AV×È AV)} {M:ZE} (Q:(u.length !=0)=Í) (D:fT (Wu y) (.loc 5)=C G) (H:G.flatMap (·.2)=M.map ae) (e:M.find? (λz=>decide (z.1=u))=C z) (L:(z.2.length !=0)=Í/\z.2.length<=100) (O:t.length<=5000) (I:dl=ys++[.loc (d+9)]) (h:y[d]? = C (.list B)) (hz:B.length<1000)
 (k:K (.tup [.str (ge z.2 t),.str t,.str u]) (Wu (y.set d (.list (B++[.tup [.str u,.str z.2]]))))):s5 acT [C tg,C (.str q),C (.str u),C (.str t),l,v,w] (Wu y) N (λv J Z=>K v Z) Y:=by
 refine db (b:=!(u.length !=0)) (by rw[Q];rfl) ⟨tM,oG D ?_⟩
 rw[H]
 exact HY D L O I h hz k M _ _ _ e
end
def En {B D:Type} {F:B->Æ D} {g:B->D}:∀{l:È B},(∀a∈l,F a=C (g a))->l.mapM F=C (l.map g):=by
 intro I;induction I with
 | nil=>
  exact @λJ=>rfl
 | cons a l H=>
  intro h
  simp only[mapM_cons,h a (ã ..),H λb G=>h b (à _ G)]
  rfl
def yr (Z:aa) (v:AV):È AV:=(aw Z v).getD []
def mR (Z:aa) (ls:ZB):È (AV×È AV):=ls.reverse.map λl=>(l,yr Z l)
def Gl {Z B:aa} {v:AV} {ls:ZB} (h:aw Z v=C ls) (k:∀l∈ls,aw Z l=C (yr B l)):fT Z v=C (mR B ls):=by
 unfold fT
 rw[h]
 exact En λa D=>by rw[k a (Xc.mp D)];rfl
def vw {Z:aa} (ls:ZB):(mR Z ls).flatMap (·.2)=(ls.map (yr Z)).reverse.flatten:=by
 unfold mR
 rw[flatMap_map,<-Xb,flatMap_def]
def kR:Ì×Ì:=("http://www.w3.org/XML/1998/namespace","xml")
def locs (ds:È Ó):È AV:=ds.map λd=>.loc (d+9)
def dv (ds:È Ó):È AV:=.fl [ae kR]::locs ds
def Lv (x:aa) (ds:È Ó) (L:È ZE):Prop:=ds.map (ag x)=L.map λl=>C (l.map ae)
noncomputable def uX:È (Ì×Ì):=[("http://www.w3.org/XML/1998/namespace","xml"),("http://www.w3.org/1999/xhtml","html"),("http://www.w3.org/1999/02/22-rdf-syntax-ns#","rdf"),("http://schemas.xmlsoap.org/wsdl/","wsdl"),("http://www.w3.org/2001/XMLSchema","xs"),("http://www.w3.org/2001/XMLSchema-instance","xsi"),("http://purl.org/dc/elements/1.1/","dc")]
def jL:È (Ì×Ì):=if f.rw=Í then[]else uX
def bv:È AV:=if f.rw=Í then[]else[.fl (uX.map ae)]
def nv (e:Ó):È AV:=bv++.loc 6::Z_ e (.fl [])
section
variable {out data dl nl ps n0:ZB} {pm:ZF} {pd:AV} {se dn:ì} {x y:aa} {ds:È Ó} {e:Ó} {L:È ZE}
def Rv {d:Ó}:aw (Wu y) (.loc (d+9))=ag y d:=rfl
def HD {d:Ó} (h:Lv x ds L) (B:d∈ds):∃l∈L,ag x d=C (l.map ae):=by
 have m:ag x d∈ds.map (ag x):=Ĭ B
 rw[show ds.map (ag x)=_ from h]at m
 obtain⟨l,D,e⟩:=ě.mp m
 exact⟨l,D,e.symm⟩
def Sb (h:Lv x ds L):ds.map (λd=>(ag x d).getD [])=L.map λl=>l.map ae:=by
 have e:=Õ (abE λo:Æ ZB=>o.getD []) h
 rw[ĥ,ĥ]at e
 exact e
def Ra (x y:aa):Prop:=∀j xs,ag x j=C xs->ag y j=C xs
def dz (x:aa) (c:aK):Ra x (x++[c]):=λj xs h=>by
 unfold ag at h ⊢
 cases e:x[j]? with
 | none=>rw[e]at h;cases h
 | some o=>rw[e]at h;rw[ľ (î.mp e).1,e];exact h
def FV (h:Lv x ds L) (D:dl=dv ds) (k:Ra x y):fT (Wu y) (.loc 4)=C (mR (Wu x) dl):=by
 refine Gl rfl λl B=>?_
 rw[D]at B
 rcases Ċ.mp B with e|B
 ·rw[e];rfl
 ·obtain⟨d,D,rfl⟩:=ě.mp B
  obtain⟨l,_,e⟩:=HD h D
  unfold yr
  simp only[Rv,Rv,e,k _ _ e];rfl
def Lp (h:Lv x ds L):(locs ds).map (yr (Wu x))=L.map λl=>l.map ae:=by
 rw[<-Sb h]
 unfold locs
 rw[ĥ];rfl
def JM (h:Lv x ds L) (B:dl=dv ds):(mR (Wu x) dl).flatMap (·.2)=(L.reverse.flatten++[kR]).map ae:=by
 subst B
 rw[vw]
 show([ae kR]::(locs ds).map (yr _)).reverse.flatten=_
 rw[Lp h,tw,Ϯ,ò,<-Xb,map_flatten]
 rfl
def yB (D:nl=nv e):fT (Wu y) (.loc 5)=C (mR (Wu x) nl):=by
 refine Gl rfl λl B=>?_
 rw[D]at B
 rcases ý.mp B with B|B
 ·unfold bv at B
  split at B
  ·nomatch B
  ·rw[Ù.mp B];rfl
 rcases Ċ.mp B with e|B
 ·rw[e];rfl
 ·rw[(mem_replicate.mp B).2];rfl
def ua (D:nl=nv e) (B:n0=aq.map ae):(mR (Wu x) nl).flatMap (·.2)=(aq++jL).map ae:=by
 subst D B
 rw[vw]
 unfold nv
 simp only[ò,Ī,Y5,Ϯ,tw,Ϯ,map_replicate,reverse_replicate,show yr _ (.fl [])=[]from rfl,flatten_replicate_nil,Y4,ò]
 refine congr (Õ _ ?_) ?_
 ·exact Ę _
 ·unfold bv jL
  split
  ·rfl
  ·exact Ę _
end
noncomputable def rJ:È Ì:=["u","v","w"]
def U4:È Ì:=["","u","v","w"]
def g6 (aq:ZE) (u:Ì):Ì:=((aq.find? λz=>decide (z.1=u)).map (·.2)).getD ""
def df (nd:ZC) (u:Ì):Ì:=if f.rw=Í then pN (nd.idxOf u)else g6 aq u
def Dm (nd:ZC):È Ì:=if f.rw=Í then nd else rJ
def c9 (u:Ì) (nd:ZC):È Ì:=if f.rw=Í then aZ u nd else nd
def Td:Prop:=(∀a∈rJ,(aq.find? λz=>decide (z.1=a)).isSome=Í/\(g6 aq a).length≠0/\(g6 aq a).length<=100/\g6 aq a≠"xml")/\∀a∈rJ,∀b∈rJ,g6 aq a=g6 aq b->a=b
def Nd (nd:ZC):Prop:=nd.Nodup/\nd ⊆ U4
def Nd.len {nd:ZC} (h:Nd nd):nd.length<=4:=h.1.length_le_of_subset h.2
def NF:∀i<10,(pN i).length≠0/\(pN i).length<=100/\pN i≠"xml"/\∀j<10,pN i=pN j->i=j:=by decide +kernel
def tI {a:Ì} {nd:ZC} (h:Nd nd) (B:a∈nd):nd.idxOf a<10:=ô (Ξ B) (Â h.len Zz)
section
variable {nd:ZC}
set_option tactic.hygienic true in def q8 (G:Td) (D:Nd nd) {a:Ì} (B:a∈Dm nd):(df nd a).length≠0/\(df nd a).length<=100/\df nd a≠"xml":=by
 unfold df;unfold Dm at B
 split<;>rename_i h
 ·rw[Û h]at B
  obtain⟨a,b,c,_⟩:=NF _ (tI D B)
  exact⟨a,b,c⟩
 ·rw[Ý h]at B
  exact(G.1 a B).2
def Lc {a b:Ì} (B:a∈nd) (e:nd.idxOf a=nd.idxOf b):a=b:=by
 have h:=Ξ B
 rw[<-Mo h]
 have h':nd.idxOf b<nd.length:=e▸h
 rw[<-Mo h']
 exact getElem_congr_idx e
set_option tactic.hygienic true in def PM (H:Td) (G:Nd nd) {a b:Ì} (B:a∈Dm nd) (D:b∈Dm nd) (e:df nd a=df nd b):a=b:=by
 unfold df at e;unfold Dm at B D
 split at e<;>rename_i h
 ·rw[Û h]at B D
  obtain⟨_,_,_,i⟩:=NF _ (tI G B)
  exact Lc B (i _ (tI G D) e)
 ·rw[Ý h]at B D
  exact H.2 a B b D e
set_option tactic.hygienic true in def NB {u:Ì} (B:Nd nd) (H:u∈U4):Nd (c9 u nd):=by
 unfold c9 aZ
 split
 ·split
  ·exact B
  ·rename_i h
   exact⟨ō.mpr ⟨B.1,ϊ.mpr ⟨Ķ,Χ⟩,λa D b G e=>h (Ú.mpr (by rw[<-Ù.mp G,<-e];exact D))⟩,λa D=>(ý.mp D).elim (λm=>B.2 m) λm=>Ù.mp m▸H⟩
 ·exact B
set_option tactic.hygienic true in def l7 {u a:Ì} (B:a∈Dm nd):df (c9 u nd) a=df nd a/\a∈Dm (c9 u nd):=by
 delta df c9 Dm aZ;unfold Dm at B
 split<;>rename_i h
 ·rw[Û h]at B
  split
  ·exact⟨rfl,B⟩
  ·exact⟨by rw[WL,Û B],ç _ B⟩
 ·rw[Ý h]at B
  exact⟨rfl,B⟩
end
def dX (nd:ZC):È (Ì×AV):=nd.zipIdx.map λp=>(p.1,.str (pN p.2))
def gV (nd:ZC):(dX nd).map (·.1)=nd:=by
 unfold dX
 rw[ĥ]
 exact zipIdx_map_fst ..
def LO {u:Ì}:∀{nd:ZC} (i:Ó),u∈nd->ak u ((nd.zipIdx i).map λp=>(p.1,AV.str (pN p.2)))=C (.str (pN (nd.idxOf u+i))):=by
 intro H;induction H with
 | nil=>
  exact @λB D=>by first|exact nomatch D|exact nomatch B
 | cons a nd G=>
  intro i h
  simp only[zipIdx_cons,Ī,bu]
  by_cases e:a=u
  ·rw[Û e,e,adn,ė]
  ·rw[Ý e,G (i+1) ((Ċ.mp h).resolve_left λz=>e z.symm),idxOf_cons,Œ e,ı i,<-Ď];rfl
def HV {u:Ì} {nd:ZC} (h:u∉nd):aF u (.str (pN nd.length)) (dX nd)=dX (nd++[u]):=by
 unfold aF
 rw[Ý]
 ·unfold dX
  simp only[zipIdx_append,ò,ė];rfl
 ·intro q
  obtain⟨kv,B,e⟩:=YF.mp q
  rw[<-gV nd]at h
  exact h (of_decide_eq_true e▸Ĭ B)
def QQ (D:Prop) (nd:ZC) (x:aa) (ds:È Ó) (d:Ó) (L:È ZE) (B:ZE):Prop:=∀(lv:Lv x ds L) (lb:ag x d=C (B.map ae)) (d1:d∉ds) (pf:∀z∈L.flatten++B,z.1∈Dm nd/\z.1∈U4/\z.2=df nd z.1) (un:((L.flatten++B).map (·.1)).Nodup) (hn:Nd nd),D
def Iv:=λnd x ds d L B=>∀D,QQ D nd x ds d L B->D
def Iv.mk:QQ (Iv nd x ds d L B) nd x ds d L B:=λlv lb G pf I H J D=>D lv lb G pf I H
def FW (L:È ZE) (B:ZE) (u:Ì):ì:=((L.flatten++B).map (·.1)).contains u
def nS (nd:ZC) (L:È ZE) (B:ZE) (u:Ì):È (Ì×Ì):=
 if(FW L B u||(!f.rw&&decide (u = "")))=Í then B else B++[(u,df (c9 u nd) u)]
def nZ (nd:ZC) (u t:Ì):Ì:=if(!f.rw&&decide (u = ""))=Í then t else ge (df (c9 u nd) u) t
def Kq (d:Ó) (x y:aa):Prop:=x.length<=y.length/\∀j o,j≠d->x[j]? = C o->y[j]? = C o
section
variable {nd:ZC} {x y:aa} {ds:È Ó} {d:Ó} {L:È ZE} {B:ZE} {u t:Ì}
def Lh {j:Ó} {xs:ZB} (k:Kq d x y) (D:j≠d) (h:ag x j=C xs):ag y j=C xs:=by
 have e:=list_eq h
 unfold ag
 rw[k.2 j _ D e]
def Ny (k:Kq d x y) (G:d∉ds) (h:Lv x ds L):Lv y ds L:=by
 refine Eq.trans (Ŧ λj D=>?_) h
 obtain⟨l,_,e⟩:=HD h D
 rw[e]
 exact Lh k (λq=>G (q▸D)) e
def Iv.wide (h:Iv nd x ds d L B):Lv x (ds++[d]) (L++[B]):=by
 refine h _ λlv lb J J J J=>?_
 unfold Lv
 simp only[ò,ò,show ds.map (ag x)=_ from lv]
 exact Õ (_++[·]) lb
def Iv.few (h:Iv nd x ds d L B):(L.flatten++B).length<=4:=by
 refine h _ λJ J J pf G J=>?_
 rw[<-length_map (f:=(·.1))]
 exact G.length_le_of_subset λa D=>by obtain⟨z,hz,rfl⟩:=ě.mp D;exact(pf z hz).2.1
def Iv.go (h:Iv nd x ds d L B) (Q:u∈U4) {G:ZE} (k:Kq d x y) (lb:ag y d=C (G.map ae)) (I:G=B\/FW L B u=Ï/\u∈Dm (c9 u nd)/\G=B++[(u,df (c9 u nd) u)]):Iv (c9 u nd) y ds d L G:=by
 refine h _ λlv J H pf À N=>?_
 have D:∀z∈L.flatten++B,z.1∈Dm (c9 u nd)/\z.1∈U4/\z.2=df (c9 u nd) z.1:=λz hz=>by
  obtain⟨a,b,c⟩:=pf z hz
  obtain⟨V,Y⟩:=l7 (u:=u) a
  exact⟨Y,b,c.trans V.symm⟩
 refine(.mk (Ny k H lv) lb H ?_ ?_ (NB N Q))
 ·rcases I with e|⟨_,acT,e⟩
  ·rw[e];exact D
  ·rw[e,<-ø]
   exact λz hz=>(ý.mp hz).elim (D z) λm=>by rw[Ù.mp m];exact⟨acT,Q,rfl⟩
 ·rcases I with e|⟨O,_,e⟩
  ·rw[e];exact À
  ·rw[e,<-ø,ò]
   refine ō.mpr ⟨À,ϊ.mpr ⟨Ķ,Χ⟩,λa E b A q=>?_⟩
   have:=Ú.mpr (show u∈_ from Ù.mp A▸q▸E)
   unfold FW at O
   rw[O]at this;cases this
def cU (c:aK):Kq d x (x++[c]):=⟨by rw[Ð];exact ë _ _,λj o J e=>by rw[ľ (î.mp e).1];exact e⟩
def Hj (v:aK) (k:Kq d x y):Kq d x (y.set d v):=⟨by rw[Y3];exact k.1,λj o D e=>by rw[μ (Zq D)];exact k.2 j o D e⟩
def Ie {xs:ZB} (h:ag x d=C xs) (k:x.length<=y.length) (ys:ZB):ag (y.set d (.list ys)) d=C ys:=by
 have:=(î.mp (list_eq h)).1
 unfold ag
 rw[ο (ô this k)]
def A8 {z:Ì×Ì} (h:z∈(L++[B]).reverse.flatten++[kR]):z∈L.flatten++B\/z=kR:=by
 rcases ý.mp h with m|m
 ·obtain⟨l,D,hz⟩:=J_.mp m
  rcases ý.mp (Xc.mp D)with q|q
  ·exact .inl (ç _ (J_.mpr ⟨l,q,hz⟩))
  ·exact .inl (í _ (Ù.mp q▸hz))
 ·exact .inr (Ù.mp m)
def QW {z:Ì×Ì} (h:z∈L.flatten++B):z∈(L++[B]).reverse.flatten++[kR]:=by
 refine ç _ ?_
 rcases ý.mp h with m|m
 ·obtain⟨l,D,hz⟩:=J_.mp m
  exact J_.mpr ⟨l,Xc.mpr (ç _ D),hz⟩
 ·exact J_.mpr ⟨B,Xc.mpr (í _ (Ù.mpr rfl)),m⟩
end
def je (ds:È Ó) (d:Ó):dv (ds++[d])=(.fl [ae kR]::locs ds)++[.loc (d+9)]:=by
 unfold dv locs
 rw[ò];rfl
def uA:∀u∈U4,u.length<=100/\u≠kR.1/\(u = ""\/u∈rJ/\(u.length !=0)=Í):=by decide +kernel
def QV (L:È ZE) (B:ZE):((L++[B]).reverse.flatten++[kR]).length=(L.flatten++B).length+1:=by
 simp only[Y5,reverse_singleton,singleton_append,flatten_cons,Ð,Ð,Ð,Y2,Y2,Xb,sum_reverse,ı B.length];rfl
set_option tactic.hygienic true in def Ba {nd:ZC} {u:Ì} (h:u∈Dm nd):c9 u nd=nd:=by
 unfold Dm at h
 unfold c9
 split<;>rename_i q
 ·rw[Û q]at h
  exact Û (Ú.mpr h)
 ·rfl
def rQ {nd:ZC} {u:Ì} (h:u∈Dm nd):(!f.rw&&decide (u = ""))=Ï:=by
 unfold Dm at h
 cases q:f.rw with
 | true=>rfl
 | false=>
  rw[q,Ý ß]at h
  exact ü λe=>(by decide +kernel:("" : Ì)∉rJ) (e▸h)
section
variable {nd:ZC} {x y:aa} {ds:È Ó} {d n e:Ó} {L:È ZE} {B:ZE} {q u t:Ì} {out data ps:ZB} {pd:AV} {se dn:ì} {K:VK} {X:Ì->aa->Prop}
set_option tactic.hygienic true in def NI (V:Td) (hk:I9 q u t) (acT:u∈U4) (r:t.length<=5000) (I:Iv nd x ds d L B)
 (k:∀y,Kq d x y->Iv (c9 u nd) y ds d L (nS nd L B u)->K (.tup [.str (nZ nd u t),.str t,.str u]) (Sw se dn pd (aq.map ae) (nv e) (dv (ds++[d])) ps (dX (c9 u nd)) data out y)) :
 Dn (n+1) 90 [tg,.str q] [] (Sw se dn pd (aq.map ae) (nv e) (dv (ds++[d])) ps (dX nd) data out x) K X:=by
 rw[Uf]
 refine PN hk (ay Jw ⟨tM,oG (FV I.wide rfl (dz x _)) ?_⟩)
 rw[JM I.wide rfl]
 have Jj:=I
 refine Jj _ λJ lb d1 pf un À=>?_
 obtain⟨u1,u2,u3⟩:=uA u acT
 have hp:∀z∈(L++[B]).reverse.flatten++[kR],(z.2.length≠0/\z.2.length<=100):=λz hz=>by
  rcases A8 hz with m|rfl
  ·obtain⟨a,_,e⟩:=pf z m
   obtain⟨a,b,_⟩:=q8 V À a
   rw[e];exact⟨a,b⟩
  ·decide +kernel
 have hi:∀z∈(L++[B]).reverse.flatten++[kR],∀g∈(L++[B]).reverse.flatten++[kR],z.2=g.2->z.1=g.1:=λz hz g x0 e=>by
  rcases A8 hz with m|rfl<;>rcases A8 x0 with m' | rfl
  ·obtain⟨a,_,c⟩:=pf z m
   obtain⟨a',_,c'⟩:=pf g m'
   exact PM V À a a' (c.symm.trans (e.trans c'))
  ·obtain⟨a,_,c⟩:=pf z m
   exact absurd (c.symm.trans e) (q8 V À a).2.2
  ·obtain⟨a,_,c⟩:=pf g m'
   exact absurd (c.symm.trans e.symm) (q8 V À a).2.2
  ·rfl
 have E:((L++[B]).reverse.flatten++[kR]).length<4000:=by rw[QV];exact É (á I.few) Zz
 refine LQ (λS=>FV I.wide rfl (dz x _)) u1 r _ [] U U (λz hz=>⟨ώ.mpr (hp z hz).1,(hp z hz).2⟩) hi (λJ J J=>rfl) (by rw[ω,ė];exact E) _ (λz hz e G=>?_) λi G v w hS=>?_
 ·rcases A8 hz with m|rfl
  ·obtain⟨a,_,c⟩:=pf z m
   rw[e]at a c
   have j:FW L B u=Í:=Ú.mpr (e▸Ĭ m)
   have Y:nS nd L B u=B:=Û (by rw[j];rfl)
   have k:=k _ (cU (.set G)) (I.go acT (cU _) (by rw[Y];exact dz _ _ _ _ lb) (.inl Y))
   unfold nZ at k
   rw[Ba a,rQ a,Ý ß,<-c]at k
   exact k
  ·exact absurd e.symm u2
 ·have j:FW L B u=Ï:=by
   cases h:FW L B u with
   | false=>rfl
   | true=>
    obtain⟨z,hz,e⟩:=ě.mp (Ú.mp h)
    exact absurd e (i z (QW hz))
  have hz:B.length<1000:=É (Â (by rw[Ð];exact ħ _ _) I.few) Zz
  have H:=dz x (.set G) _ _ lb
  have D:u∈Dm (c9 u nd)->(!f.rw&&decide (u = ""))=Ï->K (.tup [.str (ge (df (c9 u nd) u) t),.str t,.str u]) (Sw se dn pd (aq.map ae) (nv e) (dv (ds++[d])) ps (dX (c9 u nd)) data out ((x++[aK.set G]).set d (aK.list (B.map ae++[AV.tup [.str u,.str (df (c9 u nd) u)]])))):=λO Q=>by
   have e:nS nd L B u=B++[(u,df (c9 u nd) u)]:=Ý (by rw[j,Q];exact ß)
   have k:=k _ (Hj (aK.list (B.map ae++[AV.tup [.str u,.str (df (c9 u nd) u)]])) (cU (aK.set G))) (I.go acT (Hj _ (cU _)) (by rw[Ie lb (cU (d:=d) _).1,e,ò];rfl) (.inr ⟨j,O,e⟩))
   unfold nZ at k
   rw[Q,Ý ß]at k
   exact k
  cases hr:f.rw with
  | true=>
   refine dD hr ?_
   have Q:(!f.rw&&decide (u = ""))=Ï:=by rw[hr];rfl
   have O:u∈Dm (c9 u nd):=by
    unfold Dm c9 aZ
    rw[Û hr,Û hr]
    split
    ·rename_i h;exact Ú.mp h
    ·exact í _ (Ù.mpr rfl)
   have D:=D O Q
   obtain⟨a,b,_⟩:=q8 V (NB À acT) O
   have ep:df (c9 u nd) u=pN ((c9 u nd).idxOf u):=Û hr
   cases hc:nd.contains u with
   | true=>
    have es:c9 u nd=nd:=(Û hr).trans (Û hc)
    rw[es]at D ep b
    exact PP (y:=x++[aK.set G]) (p:=df nd u) b r (by rw[gV];exact hc) ((LO 0 (Ú.mp hc)).trans (by rw[ep];rfl)) (je ds d) (list_eq H) (by rw[length_map];exact hz) D
   | false=>
    have es:c9 u nd=nd++[u]:=(Û hr).trans (Ý (by rw[hc];exact ß))
    have N:u∉nd:=λq=>by rw[Ú.mpr q]at hc;cases hc
    have ep:df (c9 u nd) u=pN (dX nd).length:=by
     rw[ep,es,WL,Ý N,adn,ė,<-length_map (f:=(·.1)) (as:=dX nd),gV]
    rw[ep]at D
    have e2:aF u (.str (pN (dX nd).length)) (dX nd)=dX (c9 u nd):=by
     rw[es,<-HV N,<-length_map (f:=(·.1)) (as:=dX nd),gV]
    refine PO (y:=x++[aK.set G]) r (by rw[gV];exact hc) ?_ (je ds d) (list_eq H) (by rw[length_map];exact hz) ?_
    ·rw[<-length_map (f:=(·.1)),gV]
     exact É À.len Zz
    ·rw[e2];exact D
  | false=>
   refine db hr ?_
   have es':c9 u nd=nd:=Ý (by rw[hr];exact ß)
   rcases u3 with rfl|⟨O,Q⟩
   ·have Y:nS nd L B "" = B:=Û (by rw[hr];exact n_ _)
    have k:=k _ (cU (aK.set G)) (I.go acT (cU _) (by rw[Y];exact H) (.inl Y))
    unfold nZ at k
    rw[es',Û (by rw[hr];rfl)]at k
    refine LR (l:=x.length) Ĳ ?_ k
    cases h0:G.contains "" with
    | false=>rfl
    | true=>
     rcases hS _ (Ú.mp h0)with m|m
     ·contradiction
     ·obtain⟨z,hz,e⟩:=ě.mp m
      exact absurd (Õ YA e) (hp z hz).1
   ·have A:u∈Dm (c9 u nd):=by unfold Dm;rw[hr,Ý ß];exact O
    have D:=D A (rQ A)
    obtain⟨h1,h2,h3,_⟩:=V.1 u O
    obtain⟨z,e⟩:=š.mp h1
    have ez:g6 aq u=z.2:=by unfold g6;rw[e];rfl
    have ep:df (c9 u nd) u=z.2:=(Ý (by rw[hr];exact ß)).trans ez
    rw[ep,es']at D
    rw[ez]at h2 h3
    exact LS (y:=x++[aK.set G]) Q (yB (x:=x) rfl) (ua rfl rfl) (by rw[aaq,e];rfl) ⟨ώ.mpr h2,h3⟩ r (je ds d) (list_eq H) (by rw[length_map];exact hz) D
end
def bn (u t:Ì) (nd:ZC):Ì:=if(!f.rw&&decide (u = ""))=Í then t else ge (df nd u) t
def oH (nd:ZC) (u:Ì):Prop:=u∈Dm nd\/(!f.rw&&decide (u = ""))=Í
noncomputable def bw (L:È ZE):È Ì->È Ì->È (Ì×Ì)->È Ì×È (Ì×Ì)
 | [],nd,B=>(nd,B)
 | q::Zf,nd,B=>bw L Zf (c9 (kU q) nd) (nS nd L B (kU q))
def qv (nd:ZC) (q:Ì):Ì×AV:=(q,.tup [.str (bn (kU q) (kT q) nd),.str (kT q),.str (kU q)])
section
variable {nd:ZC} {x y:aa} {ds:È Ó} {d n e:Ó} {L:È ZE} {B:ZE} {q u t:Ì} {out data ps:ZB} {pd:AV} {se dn:ì} {V:Vs}
set_option tactic.hygienic true in def Bk (D:u∈U4):oH (c9 u nd) u:=by
 delta oH Dm c9 aZ
 cases f.rw with
 | true=>
  rw[Û rfl,Û rfl]
  split
  ·rename_i h;exact .inl (Ú.mp h)
  ·exact .inl (í _ (Ù.mpr rfl))
 | false=>
  obtain⟨_,_,h⟩:=uA u D
  rcases h with rfl|h
  ·exact .inr rfl
  ·exact .inl h.1
def v5 {a:Ì} (h:oH nd a):oH (c9 u nd) a/\bn a t (c9 u nd)=bn a t nd:=by
 rcases h with h|h
 ·obtain⟨D,G⟩:=l7 (u:=u) h
  exact⟨.inl G,by unfold bn;rw[D]⟩
 ·exact⟨.inr h,by unfold bn;rw[Û h,Û h]⟩
def yu {src:aa->Prop} {K:Vs×È (Ì×AV)->aa->Prop} (N:∀Z,src Z) (ht:Td) (c:TF V 13=C (.mt 90 tg)):∀(Zf D:ZC) (nd:ZC) (B:ZE) (x:aa) (a b:Æ AV),(∀q∈Zf,I9 q (kU q) (kT q)/\kU q∈U4/\(kT q).length<=5000)->(D++Zf).Nodup->(D++Zf).length<1000->(∀q∈D,oH nd (kU q))->Iv nd x ds d L B->
 (∀y a b,Kq d x y->Iv (bw L Zf nd B).1 y ds d L (bw L Zf nd B).2->(∀q∈D++Zf,oH (bw L Zf nd B).1 (kU q))->
  K (a::b::V,(D++Zf).map (qv (bw L Zf nd B).1)) (Sw se dn pd (aq.map ae) (nv e) (dv (ds++[d])) ps (dX (bw L Zf nd B).1) data out y))->
 aY src ((cm (aN 1) t1 (Qt (eN 1) (eF (eN 15) (lc (eN 1) l0)))) (Dn (n+1))) (Zf.map .str) (a::b::V,D.map (qv nd)) (Sw se dn pd (aq.map ae) (nv e) (dv (ds++[d])) ps (dX nd) data out x) K:=by
 intro zz;induction zz with
 | nil=>
  intro D nd B x a b _ _ _ O I k
  refine bx (N _) ?_
  have k:=k x a b ⟨Ë _,λJ J J h=>h⟩ I
  rw[Ę]at k
  exact k O
 | cons q Zf ih=>
  exact @λD nd B x a b Y E acT O I k=>⟨N _,by
   obtain⟨k1,g,k3⟩:=Y q (ã ..)
   refine o5 (o:=TF (a::C (.str q)::V) 15) c ?_
   have i:q∉D:=λm=>(ō.mp E).2.2 q m q (ã ..) rfl
   have em:aF q (.tup [.str (nZ nd (kU q) (kT q)),.str (kT q),.str (kU q)]) (D.map (qv nd))=(D++[q]).map (qv (c9 (kU q) nd)):=by
    rw[rz (by rw[ĥ];exact λm=>by obtain⟨z,hz,e⟩:=ě.mp m;exact i (e▸hz)),ò]
    refine congr (Õ _ (Ŧ λz hz=>?_)) rfl
    unfold qv
    rw[(v5 (O z hz)).2]
   have À:D.length<1000:=É (by rw[Ð];exact ë _ _) acT
   refine NI ht k1 g k3 I λy l w=>⟨by rw[length_map];exact Þ À Zz,?_⟩
   show aY src _ (Zf.map .str) (a::C (.str q)::V,aF q _ _) _ K
   rw[em]
   have Q:(D++[q])++Zf=D++q::Zf:=by rw[ø];rfl
   refine ih (D++[q]) _ _ _ _ _ (λz hz=>Y z (à _ hz)) (by rw[Q];exact E) (by rw[Q];exact acT) (λz hz=>?_) w λy' a b H r G=>?_
   ·rcases ý.mp hz with m|m
    ·exact(v5 (t:=q) (O z m)).1
    ·rw[Ù.mp m];exact Bk g
   ·rw[Q]at G ⊢
    exact k y' a b ⟨Â l.1 H.1,λj o A e=>H.2 j o A (l.2 j o A e)⟩ r G⟩
end
def bE (at':ZE):AV:=.fd (at'.map (·.1)) (at'.map λq=>.str q.2)
def Rc (q:Prop) (w p m:Ì):Prop:=∀(h:ĝ w ":" 1=[p,m]) (h1:w.length<=5000) (h2:p.length<=5000) (h3:m.length<=5000),q
def Sp:=λw p m=>∀q,Rc q w p m->q
def Sp.mk:Rc (Sp w p m) w p m:=λh y z r J q=>q h y z r
section
variable {x:aa} {ds:È Ó} {n e:Ó} {out data ps dl:ZB} {pm:ZF} {pd:AV} {se dn:ì} {K:VK} {X:Ì->aa->Prop} {S:ZC} {R:ZF} {w p m:Ì} {N:NK} {RR:RK} {Y:XK} {E a2 A j acT g l B D V G H I L O Q À:Æ AV}
noncomputable def bR (x:aa) (S:ZC) (R:ZF):aa:=x++[.set S,.dict R]
def Mm:(Wv (x++[aK.set S])).length=(Wv x).length+1:=by
 show(Wv x++[aK.set S]).length=_
 rw[Ð];rfl
def jG:(Wv (bR x S R))[(Wv x).length]? = C (.set S):=by
 show(Wv x++[aK.set S,aK.dict R])[(Wv x).length]? = _
 rw[ĺ (Ë _),Ť];rfl
def wL:(Wv (bR x S R))[(Wv x).length+1]? = C (.dict R):=by
 show(Wv x++[aK.set S,aK.dict R])[(Wv x).length+1]? = _
 rw[ĺ (ö _),Y6 (Ë _),Ť];rfl
def wN {q:ZC}:(Wv (bR x S R)).set (Wv x).length (.set q)=Wv (bR x q R):=by
 show(Wv x++[aK.set S,aK.dict R]).set _ _=Wv x++[aK.set q,aK.dict R]
 rw[Wy _ _ (Ë _),Ť];rfl
def rC {q:ZF}:(Wv (bR x S R)).set ((Wv x).length+1) (.dict q)=Wv (bR x S q):=by
 show(Wv x++[aK.set S,aK.dict R]).set _ _=Wv x++[aK.set S,aK.dict q]
 rw[Wy _ _ (ö _),Y6 (Ë _),Ť];rfl
def Sy (t:Sp w p m) (ht:∀z∈aq++jL,z.1.length<=100) (i:S.length<100) (d:R.length<100)
 (k1:∀z,(aq++jL).find? (λz=>decide (z.2=p))=C z->N (Va E a2 A (C (.str w)) acT g (C (.loc (Wv x).length)) (C (.loc ((Wv x).length+1))) (C (.str (ce z.1 m))) B D V G H I L O Q À) (Wv (bR x (aZ (ce z.1 m) S) (aF w (.str (ce z.1 m)) R))))
 (k2:(aq++jL).find? (λz=>decide (z.2=p))=U->∀vs y,Y (fQ p w) vs (Wv y)) :
 qD (Dn (n+1)) (Va E a2 A (C (.str w)) acT g (C (.loc (Wv x).length)) (C (.loc ((Wv x).length+1))) l B D V G H I L O Q À) (Wv (bR x S R)) N RR Y:=by
 refine t _ λh q r c=>?_
 refine NL h q r c (yB (x:=bR x S R) rfl) (ua rfl rfl) ht (λz hz=>?_) λe=>k2 e _ _
 refine o5 (o:=dS (Wv (bR x S R)) ((Wv x).length+1)) (f9 wL) ⟨Þ d Zz,?_⟩
 rw[rC]
 refine dp (nQ jG) (ay (zC jG (Þ (ĳ i) Zz)) ?_)
 have k:=k1 z hz
 rw[<-wN]at k
 exact k
def Sz (t:Sp w p m) (ht:∀z∈aq++jL,z.1.length<=100) (i:S.length<100) (d:R.length<100)
 (k1:∀z,(aq++jL).find? (λz=>decide (z.2=p))=C z->N (Va E a2 A j acT g (C (.loc (Wv x).length)) (C (.loc ((Wv x).length+1))) (C (.str (ce z.1 m))) B D (C (.str w)) G H I L O Q À) (Wv (bR x (aZ (ce z.1 m) S) (aF w (.str (ce z.1 m)) R))))
 (k2:(aq++jL).find? (λz=>decide (z.2=p))=U->∀vs y,Y (fQ p w) vs (Wv y)) :
 qF (Dn (n+1)) (Va E a2 A j acT g (C (.loc (Wv x).length)) (C (.loc ((Wv x).length+1))) l B D (C (.str w)) G H I L O Q À) (Wv (bR x S R)) N RR Y:=by
 refine t _ λh q r c=>?_
 refine NL h q r c (yB (x:=bR x S R) rfl) (ua rfl rfl) ht (λz hz=>?_) λe=>k2 e _ _
 refine o5 (o:=dS (Wv (bR x S R)) ((Wv x).length+1)) (f9 wL) ⟨Þ d Zz,?_⟩
 rw[rC]
 refine dp (nQ jG) (ay (zC jG (Þ (ĳ i) Zz)) ?_)
 have k:=k1 z hz
 rw[<-wN]at k
 exact k
end
@[irreducible] def look1 (hv:Ì->Æ (Ì×Ì)) (v:Ì):Æ Ì:=(hv v).bind λq=>((aq++jL).find? λz=>decide (z.2=q.1)).map λz=>ce z.1 q.2
def HB (hv:Ì->Æ (Ì×Ì)) (v:Ì):look1 hv v=(hv v).bind λq=>((aq++jL).find? λz=>decide (z.2=q.1)).map λz=>ce z.1 q.2:=by delta look1;rfl
def Q6 (y:Prop) (lk:Ì->Æ Ì) (q vs:ZC) (S:ZC) (R:ZF):Prop:=∀(h1:∀a,a∈S↔a∈q\/∃v∈vs,lk v=C a) (h2:S.Nodup) (h3:∀v,ak v R=if v∈vs then(lk v).map .str else U) (h4:S.length<=q.length+vs.length) (h5:R.length<=vs.length) (h6:∀v∈vs,(lk v).isSome=Í),y
def RI:=λlk y vs S R=>∀q,Q6 q lk y vs S R->q
def RI.mk:Q6 (RI lk S0 vs S R) lk S0 vs S R:=λy z r c d i J q=>q y z r c d i
def Gd {k y:Ì} {v:AV}:∀{kvs:ZF},ak y (kvs.map λz=>if z.1=k then(z.1,v)else z)=if y=k then(ak y kvs).map λJ=>v else ak y kvs:=by
 intro i;induction i with
 | nil=>
  exact by split<;>rfl
 | cons d r c=>
  obtain⟨a,b⟩:=d;exact by
   rw[Ī]
   by_cases h:a=k
   ·rw[Û h,bu,bu,c]
    by_cases e:a=y
    ·rw[Û e,Û e,Û (e.symm.trans h)];rfl
    ·rw[Ý e,Ý e]
   ·rw[Ý h,bu,bu,c]
    by_cases e:a=y
    ·rw[Û e,Û e,Ý λq=>h (e.trans q)]
    ·rw[Ý e,Ý e]
def CG {k q:Ì} {v:AV}:∀{kvs:ZF},ak q (kvs++[(k,v)])=(ak q kvs).or (if k=q then C v else U):=by
 intro c;induction c with
 | nil=>
  exact rfl
 | cons z r y=>
  obtain⟨a,b⟩:=z;exact by
   show ak q ((a,b)::(r++[(k,v)]))=_
   simp only[bu,bu,y]
   by_cases e:a=q
   ·rw[Û e,Û e];rfl
   ·rw[Ý e,Ý e]
def vp {k:Ì}:∀{kvs:ZF},(ak k kvs).isSome=kvs.any λy=>decide (y.1=k):=by
 intro c;induction c with
 | nil=>
  exact rfl
 | cons z r q=>
  obtain⟨a,b⟩:=z;exact by
   simp only[bu,V_,<-q]
   by_cases e:a=k
   ·rw[Û e,õ e];rfl
   ·rw[Ý e,ü e];rfl
def mN {k y:Ì} {v:AV} {kvs:ZF}:ak y (aF k v kvs)=if y=k then C v else ak y kvs:=by
 by_cases q:(kvs.any λr=>decide (r.1=k))=Í
 ·rw[show aF k v kvs=_ from Û q,Gd]
  by_cases e:y=k
  ·rw[Û e,Û e,e]
   rw[<-vp]at q
   obtain⟨z,hz⟩:=š.mp q
   rw[hz];rfl
  ·rw[Ý e,Ý e]
 ·rw[show aF k v kvs=_ from Ý q,CG]
  by_cases e:y=k
  ·rw[Û e,Û e.symm,e]
   rw[<-vp]at q
   cases h:ak k kvs with
   | none=>rfl
   | some z=>rw[h]at q;exact absurd rfl q
  ·rw[Ý e,Ý λz=>e z.symm,aaQ]
set_option tactic.hygienic true in def mn {k a:Ì} {S:ZC}:a∈aZ k S↔a∈S\/a=k:=by
 refine⟨gj,λh=>?_⟩
 unfold aZ
 split
 ·rename_i q
  exact h.elim id λe=>e▸Ú.mp q
 ·exact ý.mpr (h.imp id Ù.mpr)
set_option tactic.hygienic true in def zt {k:Ì} {S:ZC} (h:S.Nodup):(aZ k S).Nodup:=by
 unfold aZ
 split
 ·exact h
 ·rename_i q
  exact ō.mpr ⟨h,ϊ.mpr ⟨Ķ,Χ⟩,λa y b z e=>q (Ú.mpr (Ù.mp z▸e▸y))⟩
def RI.add {lk:Ì->Æ Ì} {c vs S:ZC} {R:ZF} {v a:Ì} (h:RI lk c vs S R) (e:lk v=C a):RI lk c (vs++[v]) (aZ a S) (aF v (.str a) R):=by
 refine h _ λd i t h4 h5 h6=>?_
 refine(.mk (λb=>?_) (zt i) (λw=>?_) (Â (uR _ _) (by rw[Ð,<-Ď];exact á h4)) (Â (bL _ _) (by rw[Ð];exact á h5)) (λw hw=>?_))
 ·rw[mn,d]
  refine⟨λq=>?_,λq=>?_⟩
  ·rcases q with(q|⟨r,hv,y⟩)|q
   ·exact .inl q
   ·exact .inr ⟨r,ç _ hv,y⟩
   ·exact .inr ⟨v,í _ (Ù.mpr rfl),q▸e⟩
  ·rcases q with q|⟨r,hv,y⟩
   ·exact .inl (.inl q)
   ·rcases ý.mp hv with m|m
    ·exact .inl (.inr ⟨r,m,y⟩)
    ·rw[Ù.mp m]at y
     exact .inr (Ä (y.symm.trans e))
 ·rw[mN,t]
  by_cases q:w=v
  ·rw[Û q,Û (í _ (Ù.mpr q)),q,e];rfl
  ·rw[Ý q]
   by_cases m:w∈vs
   ·rw[Û m,Û (ç _ m)]
   ·rw[Ý m,Ý λz=>(ý.mp z).elim m λz=>q (Ù.mp z)]
 ·rcases ý.mp hw with m|m
  ·exact h6 w m
  ·rw[Ù.mp m,e];rfl
def wG {Z:aa} {v:AV} {b:ì} {F:ì->Prop} (e:bZ Z v=C b) (k:F b):ok (bZ Z v) F:=o5 e k
def HA {Z:aa} {s:Ì}:bZ Z (if bO s.cps=Í then .mo else .none)=C (bO s.cps):=by
 cases bO s.cps<;>rfl
def am (at':ZE):È (Ì×AV):=at'.map λI=>(I.1,.str I.2)
def fZ {Z:aa} {at':ZE}:aC Z (bE at')=C (am at'):=Õ C (Yb ..)
def QN (I:Prop) (hv:Ì->Æ (Ì×Ì)) (v:Ì):Prop:=∀(h1:bO v.cps=(hv v).isSome) (h2:∀p m,hv v=C (p,m)->Sp v p m),I
def Hv:=λhv v=>∀I,QN I hv v->I
def Hv.mk:QN (Hv hv v) hv v:=λl q J I=>I l q
section
variable {x:aa} {ds:È Ó} {n e:Ó} {out data ps dl:ZB} {pm:ZF} {pd:AV} {se dn:ì} {K:VK} {X:Ì->aa->Prop} {w p m:Ì} {N:NK} {RR:RK} {Y:XK} {E A acT g j B D G H L O Q À:Æ AV} {hv:Ì->Æ (Ì×Ì)} {at':ZE} {val:Ì->Ì} {V:ZC}
def LP (ht:∀z∈aq++jL,z.1.length<=100) (h0:V.length<10):∀(P vs S:ZC) (R:ZF) (d l r:Æ AV),(∀k∈P,ak k (am at')=C (.str (val k))/\Hv hv (val k))->vs.length+P.length<80->RI (look1 hv) V vs S R->
 (∀S R d l r,(∀k∈P,(hv (val k)).isSome=Í->(look1 hv (val k)).isSome=Í)->RI (look1 hv) V (vs++(P.map val).filter λv=>(hv v).isSome) S R->N (Va E (C (bE at')) A acT g j (C (.loc (Wv x).length)) (C (.loc ((Wv x).length+1))) d B l r D G H L O Q À) (Wv (bR x S R)))->
 (∀k∈P,∀q,hv (val k)=C q->(aq++jL).find? (λz=>decide (z.2=q.1))=U->∀vs y,Y (fQ q.1 (val k)) vs (Wv y))->
 aY (λJ=>True) (λx vs Z N=>(aN 11) (Dn (n+1)) x vs Z (λvs Z=>qE (Dn (n+1)) vs Z N RR Y) Y) (P.map .str) (Va E (C (bE at')) A acT g j (C (.loc (Wv x).length)) (C (.loc ((Wv x).length+1))) d B l r D G H L O Q À) (Wv (bR x S R)) N:=by
 intro zz;induction zz with
 | nil=>
  exact @λvs S R d l r J J I k J=>bx trivial (k S R d l r (λJ h=>nomatch h) (by simp only[ow,filter_nil,Ę];exact I))
 | cons c P ih=>
  exact @λvs S R d l r hP hl I k kx=>⟨trivial,by
   obtain⟨c1,y⟩:=hP c (ã ..)
   refine y _ λc2 c3=>?_
   refine aL (br fZ c1) ?_
   refine wG HA ?_
   rw[c2]
   cases h:hv (val c)with
   | none=>
    refine db (b:=(U:Æ (Ì×Ì)).isSome) rfl ?_
    refine ih vs S R _ _ _ (λz hz=>hP z (à _ hz)) (Þ (o_ (Ň _) _) hl) I (λS R d l r hk t=>k S R d l r (λz hz=>(Ċ.mp hz).elim (λq q'=>by rw[q,h]at q';cases q') (hk z)) ?_) λz hz=>kx z (à _ hz)
    rw[Ī,I2,h]
    exact t
   | some q=>
    obtain⟨p,m⟩:=q
    refine dD (b:=(C (p,m)).isSome) rfl ?_
    refine I _ λi1 i2 i3 i4 i5 i6=>?_
    have i:vs.length<80:=É (ë _ _) hl
    refine Sz (c3 p m h) ht (ô (É i4 (Nat.add_lt_add h0 i)) Zz) (É i5 (Þ i Zz)) (λz hz=>?_) λen vs Z=>kx c (ã ..) _ h en vs Z
    have el:look1 hv (val c)=C (ce z.1 m):=by unfold look1;rw[h];show ε _ _=_;rw[hz];rfl
    refine ih (vs++[val c]) _ _ _ _ _ (λz hz=>hP z (à _ hz)) (by simp only[Ð,ŷ,Ď,ı 1];exact hl) (RI.add (.mk i1 i2 i3 i4 i5 i6) el) (λS R d l r hk t=>k S R d l r (λz hz=>(Ċ.mp hz).elim (λq q'=>by rw[q,el];rfl) (hk z)) ?_) λz hz=>kx z (à _ hz)
    rw[Ī,I2,h]
    rw[ø]at t
    exact t⟩
end
def gC:∀(L S:ZC),S.Nodup->(ah S L).Nodup:=by
 intro I;induction I with
 | nil=>
  exact @λJ h=>h
 | cons a L H=>
  exact @λJ h=>H _ (zt h)
def Mp {H:Type} {ks:ZC} {f:AV->H->aa->(H->aa->Prop)->Prop} {b:H} {Z:aa} {K:H->aa->Prop} (k:∀p:È Ì,p.Perm ks->aY (λJ=>True) f (p.map .str) b Z K):Xg (.ws ks) f b Z K:=by rw[fh];exact k
def G3 {ks:ZC} {at':ZE} {Z:aa} {F:AV×aa->Prop} (h:at'.length<=100) (k:F (.ws ((at'.map (·.1)).filter ks.contains),Z)):ok (bmZ .inter (.ws ks) [bE at'] Z) F:=by
 refine FO (r:=(.ws ((at'.map (·.1)).filter ks.contains),Z)) ?_ k
 show YT (aC Z (bE at')) (λkvs=>if kvs.length<=100 then C (AV.ws ((kvs.map (·.1)).filter ks.contains),Z)else U)=_
 rw[fZ]
 refine(Û (by unfold am;rw[length_map];exact h)).trans ?_
 unfold am
 rw[ĥ];rfl
noncomputable def we (qt:Æ Ì):AV:=qt.elim .none .str
def fV (at':ZE):È Ì:=(at'.map (·.1)).filter (["r","{u}r"]:ZC).contains
noncomputable def E6 (ks:ZC):AV:=if ks.isEmpty=Í then .none else .ws ks
section
variable {x:aa} {n e:Ó} {out data ps dl:ZB} {pm:ZF} {pd:AV} {se dn:ì} {N:NK} {RR:RK} {Y:XK} {B D:Æ AV} {hv:Ì->Æ (Ì×Ì)} {at':ZE} {val:Ì->Ì} {G:Ì} {qt:Æ Ì}
def SR (r:∀z∈aq++jL,z.1.length<=100) {A vs S:ZC} {R:ZF} {acT Q:Æ AV} (l:A.length<10) (hz:at'.length<=3) (E:∀k∈fV at',ak k (am at')=C (.str (val k))/\Hv hv (val k)) (g:vs.length<=1) (I:RI (look1 hv) A vs S R)
 (k:∀(p S:ZC) (R:ZF) (Q L O:Æ AV),p.Perm (fV at')->(∀k∈fV at',(hv (val k)).isSome=Í->(look1 hv (val k)).isSome=Í)->RI (look1 hv) A (vs++(p.map val).filter λv=>(hv v).isSome) S R->N (Va B (C (bE at')) D acT U U (C (.loc (Wv x).length)) (C (.loc ((Wv x).length+1))) Q (C (E6 (fV at'))) L O U U U U U U U) (Wv (bR x S R)))
 (c:∀k∈fV at',∀q,hv (val k)=C q->(aq++jL).find? (λz=>decide (z.2=q.1))=U->∀vs y,Y (fQ q.1 (val k)) vs (Wv y)) :
 th (Dn (n+1)) (Va B (C (bE at')) D acT U U (C (.loc (Wv x).length)) (C (.loc ((Wv x).length+1))) Q U U U U U U U U U U) (Wv (bR x S R)) N RR Y:=by
 have À:fV at'=[]->∀H,H=E6 []->N (Va B (C (bE at')) D acT U U (C (.loc (Wv x).length)) (C (.loc ((Wv x).length+1))) Q (C H) U U U U U U U U U) (Wv (bR x S R)):=λh H e=>by
  have k:=k [] S R Q U U (by rw[h]) (λk hk=>by rw[h]at hk;nomatch hk) (by simp only[ow,filter_nil,Ę];exact I)
  rw[h]at k
  rw[e];exact k
 cases hb:(at'.map (·.1)).isEmpty with
 | true=>
  refine db (b:=!(at'.map (·.1)).isEmpty) (by rw[hb];rfl) (À ?_ _ rfl)
  unfold fV
  rw[Ġ.mp hb];rfl
 | false=>
  refine dD (b:=!(at'.map (·.1)).isEmpty) (by rw[hb];rfl) (G3 (Â hz Zz) ?_)
  cases hc:(fV at').isEmpty with
  | true=>exact db (b:=!(fV at').isEmpty) (by rw[hc];rfl) (À (Ġ.mp hc) _ rfl)
  | false=>
   refine dD (b:=!(fV at').isEmpty) (by rw[hc];rfl) (Mp λp V=>?_)
   have e:E6 (fV at') = .ws (fV at'):=Ý (by rw[hc];exact ß)
   have w:p.length<=3:=by
    rw[V.length_eq]
    refine Â (ķ ..) ?_
    rw[length_map];exact hz
   refine LP r l p vs S R _ _ _ (λk hk=>E k (V.mem_iff.mp hk)) (É (å g w) Zz) I (λS R Q L O hk j=>?_) λk hk=>c k (V.mem_iff.mp hk)
   have k:=k p S R Q L O V (λz hz=>hk z (V.mem_iff.mpr hz)) j
   rw[e]at k
   exact k
end
def H6 {lk:Ì->Æ Ì} {H:ZC} (h:H.Nodup):RI lk H [] H []:=
 (.mk (λJ=>⟨.inl,λq=>q.elim id (by rintro⟨_,h,_⟩;exact nomatch h)⟩) h (λJ=>rfl) (ë _ _) (Ë _) (λJ h=>nomatch h))
section
variable {x:aa} {n e:Ó} {out data ps dl:ZB} {pm:ZF} {pd:AV} {se dn:ì} {N:NK} {RR:RK} {Y:XK} {D G:Æ AV} {hv:Ì->Æ (Ì×Ì)} {at':ZE} {B:Ì} {qt:Æ Ì} {S:ZC} {R:ZF} {acT:aj}
def UT (hz:at'.length<=3) (k:N (Va (C (.str B)) (C (bE at')) D G U U (C (.loc (Wv x).length)) U U U U U U U U U U U U) (Wv (x++[.set (ah [B] (at'.map (·.1)))]))) :
 s9 acT (Va (C (.str B)) (C (bE at')) D G U U U U U U U U U U U U U U U) (Wv x) N RR Y:=by
 have e:(at'.map (·.1)).zip (at'.map λI=>AV.str I.2)=am at':=Yb ..
 have H:(am at').map (·.1)=at'.map (·.1):=by unfold am;rw[ĥ];rfl
 rw[<-H,<-e]at k
 exact aee (by simp only[length_zip,length_map,length_map,Η];exact hz) k
def UU {H a2 I:Æ AV} (k:N [H,a2,C (bE at'),D,G,U,U,I,C (.loc ((Wv x).length+1)),U,U,U,U,U,U,U,U,U,U,U] (Wv (bR x S []))) :
 td acT [H,a2,C (bE at'),D,G,U,U,I,U,U,U,U,U,U,U,U,U,U,U,U] (Wv (x++[.set S])) N RR Y:=by
 rw[<-Mm (S:=S)]at k
 refine cast ?_ k
 show N _ _=N _ (Wv (x++[aK.set S])++[aK.dict []])
 refine Õ _ ?_
 unfold bR
 rw[show x++[aK.set S,aK.dict []]=x++[aK.set S]++[aK.dict []] by rw[ø];rfl]
 rfl
def UV (V:∀z∈aq++jL,z.1.length<=100) (Q:S.length<100) (I:S.Nodup) (À:∀w,qt=C w->∃p m,hv w=C (p,m)/\Sp w p m)
 (k:∀H R L,RI (look1 hv) S qt.toList H R->N (Va (C (.str B)) (C (bE at')) D (C (we qt)) U U (C (.loc (Wv x).length)) (C (.loc ((Wv x).length+1))) L U U U U U U U U U U) (Wv (bR x H R)))
 (E:∀w,qt=C w->∀q,hv w=C q->(aq++jL).find? (λz=>decide (z.2=q.1))=U->∀vs y,Y (fQ q.1 w) vs (Wv y)) :
 tf (Dn (n+1)) (Va (C (.str B)) (C (bE at')) D (C (we qt)) U U (C (.loc (Wv x).length)) (C (.loc ((Wv x).length+1))) U U U U U U U U U U U) (Wv (bR x S [])) N RR Y:=by
 cases qt with
 | none=>exact k S [] U (H6 I)
 | some w=>
  obtain⟨p,m,h,A⟩:=À w rfl
  refine Sy A V Q Zz (λz hz=>?_) λO=>E w rfl (p,m) h O
  refine k _ _ _ (RI.add (H6 I) ?_)
  unfold look1
  rw[h]
  show ε _ _=_
  rw[hz];rfl
end
def dm {S:ZC} {q:Ì}:q∈au S↔q∈S:=ż
def nH (S:ZC):(au S).Perm S:=ň ..
def P2 {Z:aa} {l:Ó} {S:ZC} (h:Z[l]? = C (.set S)):fN Z (.loc l)=C S:=by
 unfold fN
 dsimp only
 rw[h]
def E5 (nd:ZC) (Zf:ZC):AV:=.fd ((Zf.map (qv nd)).map (·.1)) ((Zf.map (qv nd)).map (·.2))
section
variable {nd:ZC} {x y:aa} {ds:È Ó} {d n e:Ó} {L:È ZE} {B:ZE} {out data ps:ZB} {pd:AV} {se dn:ì} {N:NK} {RR:RK} {Y:XK} {S:ZC} {R:ZF}
def Iv.up (h:Iv nd x ds d L B) (k:Kq d x y) (lb:ag y d=C (B.map ae)):Iv nd y ds d L B:=by
 refine h _ λlv J D pf H G=>?_
 exact(.mk (Ny k D lv) lb D pf H G)
def y7:Kq d x (bR x S R):=by
 unfold bR
 exact⟨by rw[Ð];exact ë _ _,λj o J e=>by rw[ľ (î.mp e).1];exact e⟩
def Iv.two (h:Iv nd x ds d L B):Iv nd (bR x S R) ds d L B:=by
 have Jj:=h
 refine Jj _ λJ lb J J J J=>?_
 refine h.up y7 ?_
 unfold bR ag
 rw[ľ (î.mp (list_eq lb)).1,list_eq lb]
def UW {O a2 Q À E A acT g D G H:Æ AV} (i:Td) (r:S.Nodup) (l:S.length<7) (w:∀q∈S,I9 q (kU q) (kT q)/\kU q∈U4/\(kT q).length<=5000) (I:Iv nd x ds d L B)
 (k:∀y,Kq d (bR x S R) y->Iv (bw L (au S) nd B).1 y ds d L (bw L (au S) nd B).2->(∀q∈S,oH (bw L (au S) nd B).1 (kU q))->
  N (Va O a2 Q À E A (C (.loc (Sw se dn pd (aq.map ae) (nv e) (dv (ds++[d])) ps (dX nd) data out x).length)) acT g D G H (C (.mt 90 tg)) (C (E5 (bw L (au S) nd B).1 (au S))) U U U U U) (Sw se dn pd (aq.map ae) (nv e) (dv (ds++[d])) ps (dX (bw L (au S) nd B).1) data out y)) :
 tj (Dn (n+1)) (Va O a2 Q À E A (C (.loc (Sw se dn pd (aq.map ae) (nv e) (dv (ds++[d])) ps (dX nd) data out x).length)) acT g D G H (C (.mt 90 tg)) U U U U U U) (Sw se dn pd (aq.map ae) (nv e) (dv (ds++[d])) ps (dX nd) data out (bR x S R)) N RR Y:=by
 refine o5 (o:=fN (Sw se dn pd (aq.map ae) (nv e) (dv (ds++[d])) ps (dX nd) data out (bR x S R)) (.loc (Sw se dn pd (aq.map ae) (nv e) (dv (ds++[d])) ps (dX nd) data out x).length)) (P2 jG) ⟨l,bB λsrc m=>?_⟩
 refine yu m i (V:=(Va O a2 Q À E A (C (.loc (Sw se dn pd (aq.map ae) (nv e) (dv (ds++[d])) ps (dX nd) data out x).length)) acT g D G H (C (.mt 90 tg)) U U U U U U)) rfl (au S) [] nd B (bR x S R) U U (λq j=>w q (dm.mp j)) ?_ ?_ (λJ h=>nomatch h) I.two λy a b t z c=>k y t z λq j=>c q (dm.mpr j)
 ·exact(nH S).nodup_iff.mpr r
 ·show(au S).length<1000
  rw[(nH S).length_eq]
  exact Þ l Zz
end
def aR {Z:aa} {a b:Ì} {F:AV->Prop} (h:a.length+b.length<=Ö) (k:F (.str (a++b))):ok (binZ Z .Add (.str a) (.str b)) F:=by
 refine io (v:=.str (a++b)) ?_ k
 show(oQ a b).map _=_
 rw[show oQ a b=C (a++b)from Û h];rfl
def Jx {Z:aa} {l:Ó} {ps:ZE} (h:ag Z l=C (ps.map ae)) (hz:ps.length<7):fq .lSort [.loc l] Z=C (.none,Z.set l (.list ((aW ps).map ae))):=by
 show(ag Z l).bind _=_
 rw[h]
 show(gt (ps.map ae)).bind _=_
 rw[kJ]
 exact Û hz
def Ep {Z:aa} {l:Ó} {xs:ZB} (h:ag Z l=C xs) {x:Ì} {b:BI} (e:gR.lookup x=C b):eW T Z (.loc l) x=C (.bi b (.loc l)):=by
 show cH (ag Z l) _ _=_
 rw[h]
 show ε _ (gR.lookup x)=_
 rw[e];rfl
def g5 {D:Type} {l:Ó} {xs:ZB} {f:AV->D->aa->(D->aa->Prop)->Prop} {b:D} {Z:aa} {K:D->aa->Prop} (h:ag Z l=C xs) (k:∀src:aa->Prop,(∀Z,ag Z l=C xs->src Z)->aY src f xs b Z K):Xg (.loc l) f b Z K:=by
 have e:∀Z,ag Z l=C xs->uj Z (.loc l)=C (Í,xs):=λZ h=>by
  show cH (ag Z l) _ _=_
  rw[h];rfl
 rw[fh]
 refine o5 (e Z h) (k _ e)
noncomputable def HK (z:Ì×Ì):Ì×Ì:=("xmlns:"++z.2,z.1)
section
variable {y:aa} {d n e:Ó} {B:ZE} {out data ps dl nl n0:ZB} {pm:ZF} {pd:AV} {se dn:ì} {N:NK} {RR:RK} {Y:XK}
def LG {src:aa->Prop} {Z:aa} {acT:aj} {V:Vs} {K:Vs×È AV->aa->Prop} (G:src Z):∀(M:ZE) (a b c:Æ AV) (acc:ZE),(∀z∈M,z.2.length≠0/\z.2.length<=100)->acc.length+M.length<1000->
 (∀a b c,K (a::b::c::V,(acc++M.map HK).map ae) Z)->
 aY src ((cm (aT 2 (ac (aN 1) (ac (aN 2) a0))) t1 (vg (eT (lc (eI (tV (eN 2)) (eB .Add (eL (.str "xmlns:")) (eN 2)) (eL (.str "xmlns"))) (lc (eN 1) l0))))) acT) (M.map ae) (a::b::c::V,acc.map ae) Z K:=by
 intro O;induction O with
 | nil=>
  intro a b c acc _ _ k
  have k:=k a b c
  rw[ow,Ę]at k
  exact bx G k
 | cons z M L=>
  exact @λa b c acc h D k=>⟨G,by
   obtain⟨H,I⟩:=h z (ã ..)
   refine dD (ώ.mpr H) (aR (Â (Ø I _) Zz) ⟨by rw[length_map];exact É (ë _ _) (Þ D Zz),?_⟩)
   have e:acc.map ae++[.tup [.str ("xmlns:"++z.2),.str z.1]]=(acc++[HK z]).map ae:=by rw[ò];rfl
   show aY src _ (M.map ae) (_,acc.map ae++[.tup [.str ("xmlns:"++z.2),.str z.1]]) Z K
   rw[e]
   refine L _ _ _ _ (λz hz=>h z (à _ hz)) (by simp only[Ð,ŷ,Ď,ı 1];exact D) λa b c=>?_
   have k:=k a b c
   rw[Ī]at k
   rw[ø]
   exact k⟩
end
def BO {Z:aa} {l:Ó} {xs:ZB} (h:ag Z l=C xs):bZ Z (.loc l)=C (!xs.isEmpty):=by
 unfold bZ
 dsimp only
 rw[list_eq h]
section
variable {y:aa} {d n e:Ó} {B:ZE} {out data ps dl nl n0:ZB} {pm:ZF} {pd:AV} {se dn:ì} {N:NK} {RR:RK} {Y:XK}
def ly {xs:ZB}:ag (Wu (y++[.list xs])) (Wu y).length=C xs:=by
 unfold ag
 rw[uu]
def Pu (B:ZE):È AV:=(aW (B.map HK)).map ae
def UX {acT:aj} {O a2 Q À V E A g D G H I L:Æ AV} (lb:ag y d=C (B.map ae)) (q:∀z∈B,z.2.length≠0/\z.2.length<=100) (j:B.length<=4)
 (k:N (Va O a2 (C (.loc (d+9))) Q À V E A g D G H I L U (C (.loc (Wu y).length)) U U U) (Wu (y++[.list (Pu B)]))) :
 tm acT (Va O a2 (C (.loc (d+9))) Q À V E A g D G H I L U U U U U) (Wu y) N RR Y:=by
 refine wG (BO (l:=d+9) (Z:=Wu y) (xs:=B.map ae) lb) ?_
 cases B with
 | nil=>
  rw[show Pu []=[] by unfold Pu aW;kernel_rfl]at k
  exact db rfl k
 | cons z B=>
  refine g5 (l:=d+9) (Z:=Wu y) (xs:=(z::B).map ae) lb λsrc w=>?_
  refine LG (w _ lb) (z::B) U U U [] q (É (by rw[ω,ė];exact j) Zz) λJ J J=>?_
  refine dp (Ep (ly (xs:=((z::B).map HK).map ae)) (b:=.lSort) rfl) (ay (Jx (ly (xs:=((z::B).map HK).map ae)) (by rw[length_map];exact É j Zz)) ?_)
  rw[<-ut (c:=aK.list (((z::B).map HK).map ae))]at k
  exact k
end
def vN (at':ZE):ku (am at')=C at':=by
 delta ku am
 rw[ĥ,ĥ]
 have e:aJ (at'.map ((·.2) ∘ λB:Ì×Ì=>(B.1,AV.str B.2)))=C (at'.map (·.2)):=by
  induction at' with
  | nil=>rfl
  | cons a r D=>show(aJ (r.map _)).map (a.2 :: ·)=_;rw[D];rfl
 rw[e]
 show C ((at'.map (·.1)).zip (at'.map (·.2)))=_
 rw[Yb,abg (λJ=>rfl)]
def Cc {at':ZE} {Z:aa} (h:at'.length<5):fq .sorted [.iv (bE at')] Z=C (.fl ((aW at').map ae),Z):=by
 refine(show _=((aC Z (bE at')).bind λkvs=>(ku kvs).bind λps=>if ps.length<5 then C (AV.fl ((aW ps).map ae),Z)else U)from rfl).trans ?_
 rw[fZ]
 show YT (ku (am at')) _=_
 rw[vN]
 exact Û h
def FK {at':ZE} {Z:aa}:fq .dItems [bE at'] Z=C (.iv (bE at'),Z):=by
 refine(show _=((aC Z (bE at')).map λJ=>(AV.iv (bE at'),Z))from rfl).trans ?_
 rw[fZ];rfl
def gI {v:Ì}:∀{R:ZF},(R.map (·.1)).contains v=(ak v R).isSome:=by
 intro G;induction G with
 | nil=>
  exact rfl
 | cons D r B=>
  obtain⟨a,b⟩:=D;exact by
   simp only[Ī,oo,bu,B]
   by_cases e:a=v
   ·rw[Û e,e,ş];rfl
   ·rw[Ý e,Œ λz=>e z.symm];rfl
def in_dict {Z:aa} {l:Ó} {R:ZF} {v:Ì} (h:Z[l]? = C (.dict R)):jR Z .In (.str v) (.loc l)=C ((ak v R).isSome):=by
 show Ed Z (.str v) (.loc l)=_
 dsimp only[Ed,aw,fN,aC,dS]
 dsimp only[strV]
 rw[h]
 exact Õ C gI
def sr {Z:aa} {a b c:AV}:fw Z (.tup [a,b,c]) (.int 0)=C a:=rfl
def lR {nd:ZC} {q:Ì}:∀{Zf:ZC},q∈Zf->ak q (Zf.map (qv nd))=C (qv nd q).2:=by
 intro G;induction G with
 | nil=>
  exact @λB=>by first|exact nomatch B
 | cons a Zf D=>
  intro h
  rw[Ī]
  show ak q ((a,(qv nd a).2)::_)=_
  rw[bu]
  by_cases e:a=q
  ·rw[Û e,e]
  ·rw[Ý e]
   exact D ((Ċ.mp h).resolve_left λz=>e z.symm)
def uV {Z:aa} {kvs:ZF}:aC Z (.fd (kvs.map (·.1)) (kvs.map (·.2)))=C kvs:=by
 show C ((kvs.map (·.1)).zip (kvs.map (·.2)))=_
 rw[Yb,abg (λJ=>rfl)]
def zr (nd:ZC) (k:Ì):Ì:=if((kU k).length !=0)=Í then bn (kU k) (kT k) nd else kT k
section
variable {y:aa} {n:Ó} {out data ps dl nl n0:ZB} {pm:ZF} {pd:AV} {se dn:ì} {N:NK} {RR:RK} {Y:XK} {acT:aj} {nd Zf ks:ZC} {R:ZF} {A:ZB} {l:Ó} {k v:Ì} {Q a2 V E g w j À B H I D G L O:Æ AV}
def Jt (hk:k∈Zf) (hA:A.length<1000)
 (kk:∀B D G,N (Va Q a2 V E (C (.str k)) (C (.str v)) g w j À B H I (C (E5 nd Zf)) D (C (.loc (Wu y).length)) G L O) (Wu (y++[.list (A++[ae (zr nd k,v)])]))) :
 iI acT (Va Q a2 V E (C (.str k)) (C (.str v)) g w j À B H I (C (E5 nd Zf)) D (C (.loc (Wu y).length)) G L O) (Wu (y++[.list A])) N RR Y:=by
 refine aL (br uV (lR hk)) (dp (gm ly) ?_)
 have kk:=kk (C (.str (kT k))) (C (.str (kU k))) (C (.str (bn (kU k) (kT k) nd)))
 unfold zr at kk
 rw[<-ut (c:=aK.list A)]at kk
 cases h:((kU k).length !=0)with
 | true=>
  rw[h]at kk
  exact dD h (bS ly (Þ hA Zz) kk)
 | false=>
  rw[h]at kk
  exact db h (bS ly (Þ hA Zz) kk)
def vO (lk:Ì->Æ Ì) (nd ks vs0:ZC) (k v:Ì):Ì:=if ks.contains k=Í/\v∈vs0 then(lk v).elim v λa=>bn (kU a) (kT a) nd else v
def Js {lk:Ì->Æ Ì} {vs0:ZC} {src:aa->Prop} (hs:∀Z,src Z) (hR:∀A,(Wu (y++[.list A]))[l]? = C (.dict R)) (t:∀v,ak v R=if v∈vs0 then(lk v).map .str else U) (h6:∀v∈vs0,∃a,lk v=C a/\a∈Zf):∀(M:ZE) (A:ZB) (r c B D G:Æ AV),(∀z∈M,z.1∈Zf)->A.length+M.length<1000->
 (∀r c B D G,N (Va Q a2 V E r c g (C (.loc l)) j (C (E6 ks)) B H I (C (E5 nd Zf)) D (C (.loc (Wu y).length)) G L O) (Wu (y++[.list (A++(M.map λz=>(zr nd z.1,vO lk nd ks vs0 z.1 z.2)).map ae)])))->
 aY src (λx vs Z N=>(aT 2 (ac (aN 5) (ac (aN 6) a0))) acT x vs Z (λvs Z=>iG acT vs Z N RR Y) Y) (M.map ae) (Va Q a2 V E r c g (C (.loc l)) j (C (E6 ks)) B H I (C (E5 nd Zf)) D (C (.loc (Wu y).length)) G L O) (Wu (y++[.list A])) N:=by
 intro zz;induction zz with
 | nil=>
  intro A r c B D G _ _ kk
  have kk:=kk r c B D G
  simp only[ow,ow,Ę]at kk
  exact bx (hs _) kk
 | cons z M ih=>
  exact @λA r c B D G hM hl kk=>⟨hs _,by
   have i:A.length<1000:=É (ë _ _) hl
   have d:∀v B D G,v=vO lk nd ks vs0 z.1 z.2->iI acT (Va Q a2 V E (C (.str z.1)) (C (.str v)) g (C (.loc l)) j (C (E6 ks)) B H I (C (E5 nd Zf)) D (C (.loc (Wu y).length)) G L O) (Wu (y++[.list A])) (λvs Z=>aY src (λx vs Z N=>(aT 2 (ac (aN 5) (ac (aN 6) a0))) acT x vs Z (λvs Z=>iG acT vs Z N RR Y) Y) (M.map ae) vs Z N) RR Y:=λv B D G e=>by
    refine Jt (hM z (ã ..)) i λB D G=>?_
    refine ih _ _ _ _ _ _ (λz hz=>hM z (à _ hz)) (by simp only[Ð,ŷ,Ď,ı 1];exact hl) λr c B D G=>?_
    have kk:=kk r c B D G
    simp only[e,ø]
    exact kk
   cases hks:ks.isEmpty with
   | true=>
    have e:E6 ks = .none:=Û hks
    rw[e]at d ⊢
    refine d _ _ _ _ ?_
    unfold vO
    rw[Ġ.mp hks]
    exact(Ý λq=>nomatch q.1).symm
   | false=>
    have e:E6 ks = .ws ks:=Ý (by rw[hks];exact ß)
    rw[e]at d ⊢
    cases hc:ks.contains z.1 with
    | false=>
     refine db hc (d _ _ _ _ ?_)
     unfold vO
     rw[hc]
     exact(Ý λq=>ß q.1).symm
    | true=>
     refine dD hc (mB (in_dict (hR A)) ?_)
     rw[t]
     by_cases hv:z.2∈vs0
     ·obtain⟨a,m,hZ⟩:=h6 _ hv
      rw[Û hv,m]
      refine aL (br (f9 (hR A)) ((t z.2).trans (by rw[Û hv,m];rfl))) (aL (br uV (lR hZ)) (aL sr (d _ _ _ _ ?_)))
      unfold vO
      rw[Û ⟨hc,hv⟩,m];rfl
     ·rw[Ý hv]
      refine d _ _ _ _ ?_
      unfold vO
      rw[Ý λq=>hv q.2]⟩
end
def Oc {at':ZE} {Z:aa} {k:Ì} (h:ak k (am at')=U):fq .dGet [bE at',.str k] Z=C (.none,Z):=by
 refine(show _=((aC Z (bE at')).map λkvs=>((ak k kvs).getD .none,Z))from rfl).trans ?_
 rw[fZ]
 show C ((ak k (am at')).getD .none,Z)=_
 rw[h];rfl
section
variable {y:aa} {n e m:Ó} {out data ps dl nl n0:ZB} {pm:ZF} {pd:AV} {se dn:ì} {N:NK} {RR:RK} {Y:XK} {acT:aj} {nd Zf ks:ZC} {R:ZF} {A:ZB} {i:Ó} {at':ZE} {t:Ì} {j a2 q w V E r d c O B H I Q D À G g L:Æ AV}
def UY {lk:Ì->Æ Ì} {vs0:ZC} (hz:at'.length<=3) (hR:∀A,(Wu (y++[.list A]))[i]? = C (.dict R)) (l:∀v,ak v R=if v∈vs0 then(lk v).map .str else U) (h6:∀v∈vs0,∃a,lk v=C a/\a∈Zf) (hM:∀z∈at',z.1∈Zf) (hA:A.length<900)
 (kk:∀V E B D G,N (Va j (C (bE at')) q w V E r (C (.loc i)) c (C (E6 ks)) B H I (C (E5 nd Zf)) D (C (.loc (Wu y).length)) G g L) (Wu (y++[.list (A++((aW at').map λz=>(zr nd z.1,vO lk nd ks vs0 z.1 z.2)).map ae)]))) :
 tn acT (Va j (C (bE at')) q w V E r (C (.loc i)) c (C (E6 ks)) B H I (C (E5 nd Zf)) D (C (.loc (Wu y).length)) G g L) (Wu (y++[.list A])) N RR Y:=by
 cases hb:(at'.map (·.1)).isEmpty with
 | true=>
  refine db (b:=!(at'.map (·.1)).isEmpty) (by rw[hb];rfl) ?_
  have kk:=kk V E B D G
  have e:at'=[]:=Xa.mp (Ġ.mp hb)
  simp only[show aW at'=[] by rw[e];unfold aW;simp,ow,ow,Ę]at kk
  exact kk
 | false=>
  refine dD (b:=!(at'.map (·.1)).isEmpty) (by rw[hb];rfl) ?_
  refine ay (FK (at':=at')) ?_
  refine ay (Cc (É hz Zz)) (bB λsrc hs=>?_)
  have pl:(aW at').length=at'.length:=(ň ..).length_eq
  exact Js hs hR l h6 (aW at') A _ _ _ _ _ (λz hz=>hM z (ż.mp hz)) (by rw[pl];exact ô (Nat.add_lt_add_of_lt_of_le hA hz) Zz) kk
def UZ (h:ak "{http://www.w3.org/XML/1998/namespace}space" (am at')=U) (kk:N (Va j (C (bE at')) q w V E r d c O B H I Q D À G (C .none) L) (Wu y)) :
 tr acT (Va j (C (bE at')) q w V E r d c O B H I Q D À G g L) (Wu y) N RR Y:=ay (Oc h) kk
def SH (z:m<1000) (kk:N (Va j a2 q w V E r d c O B H I Q D À G (C .none) L) (Sw se dn pd n0 nl dl (bd (m+1)) pm data out y)) :
 ng acT (Va j a2 q w V E r d c O B H I Q D À G (C .none) L) (Sw se dn pd n0 nl dl (bd m) pm data out y) N RR Y:=by
 have e:bd (m+1)=bd m++[.bool Ï]:=ri
 rw[e]at kk
 exact aL (mU (l:=8) (k:=m) rfl) (bS (l:=8) (xs:=bd m) rfl (by unfold bd;rw[Yv];exact É (á (ð z)) Zz) kk)
end
def Hd {Z:aa} {xs:ZB} {ts:ZC} {s:Ì} {F:AV×aa->Prop} (e:aJ xs=C ts) (hz:(ts.map (·.length)).sum+ts.length * s.length<=Ö) (k:F (.str (û s ts),Z)):ok (biZ .sJoin [.str s,.fl xs] Z) F:=
 ay (show(aJ xs).bind _=_ by rw[e];exact Û hz) k
def atT (z:Ì×Ì):Ì:=((((Ĕ++" ")++z.1)++"=\"")++IZ z.2)++"\""
def HN (lk:Ì->Æ Ì) (nd:ZC) (qt:Æ Ì) (out:ZB):È AV:=match qt with|none=>out|some w=>out++[.str (nN ((lk w).elim "" λa=>bn (kU a) (kT a) nd))]
section
variable {y:aa} {n e m:Ó} {out data ps dl nl n0:ZB} {pm:ZF} {pd:AV} {se dn:ì} {N:NK} {RR:RK} {Y:XK} {acT:aj} {nd Zf ks:ZC} {R:ZF} {A:ZB} {v:Ó} {at':ZE} {À w:Ì} {d a2 E i g j q t r B D G H V I L O Q c:Æ AV}
abbrev wr:Æ AV:=C (.bm .lAppend (.loc 1))
def SI (ht:À∈Zf) (z:(bn (kU À) (kT À) nd).length<=6000) (ho:out.length<10000)
 (kk:N (Va (C (.str À)) a2 E i g j q t r B D G H (C (E5 nd Zf)) I L O Q wr) (Sw se dn pd n0 nl dl ps pm data (out++[.str ("<"++bn (kU À) (kT À) nd)]) y)) :
 nh acT (Va (C (.str À)) a2 E i g j q t r B D G H (C (E5 nd Zf)) I L O Q wr) (Wu y) N RR Y:=
 aL (br uV (lR ht)) (aL sr (aR (Â (Ø z _) Zz) (f0 (l:=1) rfl (Þ ho Zz) kk)))
def SK (z:out.length<10000)
 (kk:N (Va d a2 E i g j q t r B D G H V I L O Q wr) (Sw se dn pd n0 nl dl ps pm data (out++[.str ">"]) y)) :
 nj acT (Va d a2 E i g j q t r B D G H V I L O Q wr) (Wu y) N RR Y:=
 f0 (l:=1) rfl (Þ z Zz) kk
def SM {qt:Æ Ì} {lk:Ì->Æ Ì} (hR:(Wu y)[v]? = C (.dict R)) (hq:∀w,qt=C w->∃a,ak w R=C (.str a)/\lk w=C a/\a∈Zf/\(bn (kU a) (kT a) nd).length<=6000/\uE oP (bn (kU a) (kT a) nd)) (ho:out.length<10000)
 (kk:N (Va d a2 E (C (we qt)) g j q (C (.loc v)) r B D G H (C (E5 nd Zf)) I L O Q wr) (Sw se dn pd n0 nl dl ps pm data (HN lk nd qt out) y)) :
 nq (Dn (n+1)) (Va d a2 E (C (we qt)) g j q (C (.loc v)) r B D G H (C (E5 nd Zf)) I L O Q wr) (Wu y) N RR Y:=by
 cases qt with
 | none=>exact kk
 | some w=>
  obtain⟨a,z,h2,h3,h4,h5⟩:=hq w rfl
  unfold HN at kk
  dsimp only at kk
  rw[h2]at kk
  exact aL (br (f9 hR) z) (aL (br uV (lR h3)) (aL sr (F3 h5 (Â h4 Zz) (f0 (l:=1) rfl (Þ ho Zz) kk))))
def SN (kk:N (Va d a2 E i g j q t r B D G H V I L O Q c) (Sw Í dn pd n0 nl dl ps pm data out y)) :
 nr acT (Va d a2 E i g j q t r B D G H V I L O Q c) (Wu y) N RR Y:=kk
def SO (z:e<1000) (kk:N (Va d a2 E i g j q t r B D G H V I L O Q c) (Sw se dn pd n0 (nv (e+1)) dl ps pm data out y)) :
 nt acT (Va d a2 E i g j q t r B D G H V I L O Q c) (Sw se dn pd n0 (nv e) dl ps pm data out y) N RR Y:=by
 have h:nv (e+1)=nv e++[.fl []]:=by
  unfold nv
  rw[ø,abd,<-ri]
 rw[h]at kk
 refine bS (l:=5) (xs:=nv e) rfl ?_ kk
 unfold nv bv
 rw[Ð,ŕ,Yv]
 split
 ·rw[ω,ė];exact ô (ĳ z) Zz
 ·rw[ŷ];exact ô (o_ (ĳ z) 1) Zz
end
section
variable {y:aa} {n:Ó} {out data ps dl nl n0:ZB} {pm:ZF} {pd:AV} {se dn:ì} {N:NK} {RR:RK} {Y:XK} {À a2 E A acT g q w d B D G H I L O Q:Æ AV}
def Wr (z:Ì×Ì):Prop:=z.1.length<=6000/\z.2.length<=6000/\(IZ z.2).length<=40000/\uE N8 z.2
def Jr {src:aa->Prop} {Z:aa} {V:Vs} {K:Vs×È AV->aa->Prop} (m:src Z):∀(M:ZE) (a b c:Æ AV) (acc:ZC),(∀z∈M,Wr z)->acc.length+M.length<1000->
 (∀a b c,K (a::b::c::V,(acc++M.map atT).map .str) Z)->
 aY src ((cm (aT 2 (ac (aN 1) (ac (aN 2) a0))) t1 (vg (eJ (jc " " (jv (eN 1) (jc "=\"" (jv (eF (eL (.fn 168)) (lc (eN 2) l0)) (jc "\"" j0)))))))) (Dn (n+1))) (M.map ae) (a::b::c::V,acc.map .str) Z K:=by
 intro zz;induction zz with
 | nil=>
  intro a b c acc _ _ k
  have k:=k a b c
  rw[ow,Ę]at k
  exact bx m k
 | cons z M ih=>
  exact @λa b c acc h r k=>⟨m,by
   obtain⟨t,h2,h3,h4⟩:=h z (ã ..)
   refine bz (a:=Ĕ) (i:=0) (b:=" ") (j:=1) (Ë _) Zz Zz λl=>bz l t Zz λl=>bz l (b:="=\"") (j:=2) Zz Zz λl=>?_
   refine RQ h4 (Â h2 Zz) ?_
   refine bz l h3 Zz λl=>bz l (b:="\"") (j:=1) Zz Zz λl=>⟨by rw[length_map];exact É (ë _ _) (Þ r Zz),?_⟩
   show aY src _ (M.map ae) (_,acc.map .str++[.str (atT z)]) Z K
   rw[show acc.map AV.str++[.str (atT z)]=(acc++[atT z]).map .str by rw[ò];rfl]
   refine ih _ _ _ _ (λz hz=>h z (à _ hz)) (by simp only[Ð,ŷ,Ď,ı 1];exact r) λa b c=>?_
   have k:=k a b c
   rw[Ī]at k
   rw[ø]
   exact k⟩
def strs_map:∀ts:È Ì,aJ (ts.map AV.str)=C ts:=by
 intro j;induction j with
 | nil=>
  exact rfl
 | cons t r V=>
  exact by show(aJ (r.map AV.str)).map (t :: ·)=_;rw[V];rfl
def IX (out:ZB) (M:ZE):È AV:=if M.isEmpty=Í then out else out++[.str (û "" (M.map atT))]
def SJ {M:ZE} (h:∀z∈M,Wr z) (V:M.length<100) (hz:((M.map atT).map (·.length)).sum<=10000000) (j:out.length<10000)
 (kk:N (Va À a2 E A acT g q w d B D G H I L (C (.loc (Wu y).length)) O Q wr) (Sw se dn pd n0 nl dl ps pm data (IX out M) (y++[.list (M.map ae)]))) :
 ni (Dn (n+1)) (Va À a2 E A acT g q w d B D G H I L (C (.loc (Wu y).length)) O Q wr) (Wu (y++[.list (M.map ae)])) N RR Y:=by
 refine wG (BO ly) ?_
 cases M with
 | nil=>exact db rfl kk
 | cons z M=>
  refine dD rfl (g5 ly λsrc r=>?_)
  refine Jr (r _ ly) (z::M) U U U [] h (by rw[ω,ė];exact Þ V Zz) λJ J J=>?_
  refine Hd (strs_map ((z::M).map atT)) (by exact Â hz Zz) (f0 (l:=1) rfl (Þ j Zz) kk)
end
def mz {Z:aa} {l:Ó} {xs:ZB} {v:AV} (h:ag Z l=C (xs++[v])):fq .lPop [.loc l] Z=C (v,Z.set l (.list xs)):=by
 show(ag Z l).bind _=_
 rw[h]
 show(HW (xs++[v])).map _=_
 unfold HW
 rw[getLast?_concat,YL];rfl
noncomputable def xy (r:Ì):Ì:=((Ĕ++"</")++r)++">"
def LI (f:Fl) (e:Ó):nv (e+1)=nv e++[.fl []]:=by
 unfold nv
 rw[ø,abd,<-ri]
def EC (m:Ó):bd (m+1)=bd m++[.bool Ï]:=ri
def az {S B:Ps} {acT:aj} {vs:Vs} {Z:aa} {N:NK} {R:RK} {X:XK} (h:S acT vs Z (λvs Z=>B acT vs Z N R X) R X):sq S B acT vs Z N R X:=h
section
variable {nd:ZC} {x y:aa} {ds:È Ó} {d n e m:Ó} {L:È ZE} {B:ZE} {q u t:Ì} {out data:ZB} {pd:AV} {se dn:ì} {K:VK} {X:Ì->aa->Prop} {N:NK} {RR:RK} {Y:XK}
def Uq (À:Td) (hk:I9 q u t) (V:u∈U4) (H:t.length<=5000) (I:Iv nd x ds d L B) (Q:(nZ nd u t).length<=6000) (O:out.length<10000)
 (k:∀y,Kq d x y->Iv (c9 u nd) y ds d L (nS nd L B u)->N [C tg,C (.str q)] (Sw se dn pd (aq.map ae) (nv e) (dv (ds++[d])) (bd m) (dX (c9 u nd)) data (out++[.str (xy (nZ nd u t))]) y)) :
 su (Dn (n+1)) [C tg,C (.str q)] (Sw se dn pd (aq.map ae) (nv e) (dv (ds++[d])) (bd m) (dX nd) data out x) N RR Y:=by
 refine bz (a:=Ĕ) (i:=0) (b:="</") (j:=2) (Ë _) Zz Zz λl=>?_
 refine NI À hk V H I λy E G=>?_
 exact aL sr (bz l Q Zz λl=>bz l (b:=">") (j:=1) Zz Zz λl=>f0 (l:=1) rfl (Þ O Zz) (k y E G))
variable {dl nl n0:ZB} {pm:ZF} {D:Æ AV} {acT:aj}
def Ur (kk:N [C tg,D] (Sw se dn pd n0 nl dl (bd m) pm data out y)):sv acT [C tg,D] (Sw se dn pd n0 nl dl (bd (m+1)) pm data out y) N RR Y:=
 ay (mz (l:=8) (xs:=bd m) (v:=.bool Ï) (Õ C (EC m))) kk
def Us (kk:N [C tg,D] (Sw se (decide (((m+1:Ó):Į)=1)) pd n0 nl dl (bd m) pm data out y)):sw acT [C tg,D] (Sw se dn pd n0 nl dl (bd m) pm data out y) N RR Y:=
 ay (my (v:=.loc 8) (n:=m+1) (Õ C (Yv ..))) kk
def Ut (kk:N [C tg,D] (Sw se dn pd n0 nl (dv ds) (bd m) pm data out y)):sy acT [C tg,D] (Sw se dn pd n0 nl (dv (ds++[d])) (bd m) pm data out y) N RR Y:=
 ay (mz (l:=4) (xs:=dv ds) (v:=.loc (d+9)) (Õ C (je ds d))) kk
def Uu (kk:N [C tg,D] (Sw se dn pd n0 (nv e) dl (bd m) pm data out y)):sB acT [C tg,D] (Sw se dn pd n0 (nv (e+1)) dl (bd m) pm data out y) N RR Y:=
 ay (mz (l:=5) (xs:=nv e) (v:=.fl []) (Õ C (LI f e))) kk
def JX (À:Td) (hk:I9 q u t) (V:u∈U4) (H:t.length<=5000) (I:Iv nd x ds d L B) (Q:(nZ nd u t).length<=6000) (O:out.length<10000)
 (k:∀y,Kq d x y->Iv (c9 u nd) y ds d L (nS nd L B u)->K .none (Sw se (decide (((m+1:Ó):Į)=1)) pd (aq.map ae) (nv e) (dv ds) (bd m) (dX (c9 u nd)) data (out++[.str (xy (nZ nd u t))]) y)) :
 lS (Dn (n+1)) [C tg,C (.str q)] (Sw se dn pd (aq.map ae) (nv (e+1)) (dv (ds++[d])) (bd (m+1)) (dX nd) data out x) (λJ Z=>K .none Z) RR Y:=by
 refine az (S:=su) (B:=zV) (Uq (e:=e+1) (m:=m+1) À hk V H I Q O λy E G=>?_)
 refine az (S:=sv) (B:=zW) (Ur ?_)
 refine az (S:=sw) (B:=zX) (Us ?_)
 refine az (S:=sy) (B:=zY) (Ut ?_)
 refine az (S:=sB) (B:=s0) (Uu ?_)
 exact k y E G
end
noncomputable def Sq (w:Ì):Ì:=((Ĕ++"<?")++w)++"?>"
section
variable {y:aa} {n e m:Ó} {w p u:Ì} {out data dl nl n0 ps:ZB} {pm:ZF} {pd:AV} {se dn:ì} {K:VK} {X:Ì->aa->Prop} {N:NK} {RR:RK} {Y:XK} {acT:aj}
def LL (G:w.length<=100) (D:out.length<10000) (k:K .none (Sw Í dn pd n0 nl dl ps pm data (out++[.str (Sq w)]) y)) :
 lV acT [C tg,C (.str w),C .none] (Sw Í dn pd n0 nl dl ps pm data out y) (λJ Z=>K .none Z) RR Y:=by
 refine az (S:=AF) (B:=AC) ?_
 refine bz (a:=Ĕ) (i:=0) (b:="<?") (j:=2) (Ë _) Zz Zz λl=>bz l G Zz λl=>bz l (b:="?>") (j:=2) Zz Zz λl=>f0 (l:=1) rfl (Þ D Zz) k
def Sk (hz:n0.length<1000) (k:K .none (Sw se dn pd (n0++[.tup [.str u,.str p]]) (nv 0) dl ps pm [] out y)) :
 Dn (n+1) 113 [tg,.str p,.str u] [] (Sw se dn pd n0 (nv 0) dl ps pm [] out y) K X:=by
 rw[Ud]
 exact aL (fy (l:=5) (ys:=bv) (v:=.loc 6) rfl) (dp (gm (l:=6) (xs:=n0) rfl) (bS (l:=6) (xs:=n0) rfl (Þ hz Zz) k))
variable {x:aa} {G:Æ AV} {hv:Ì->Æ (Ì×Ì)} {at':ZE} {val:Ì->Ì} {D:Ì} {qt:Æ Ì}
def U0 (A:∀z∈aq++jL,z.1.length<=100) (hz:at'.length<=3) (L:∀k∈fV at',ak k (am at')=C (.str (val k))/\Hv hv (val k)) (l:∀w,qt=C w->∃p m,hv w=C (p,m)/\Sp w p m)
 (k:∀(p S:ZC) (R:ZF) (E Q À:Æ AV),p.Perm (fV at')->(∀k∈fV at',(hv (val k)).isSome=Í->(look1 hv (val k)).isSome=Í)->RI (look1 hv) (ah [D] (at'.map (·.1))) (qt.toList++(p.map val).filter λv=>(hv v).isSome) S R->
  lW (Dn (n+1)) (Va (C (.str D)) (C (bE at')) G (C (we qt)) U U (C (.loc (Wv x).length)) (C (.loc ((Wv x).length+1))) E (C (E6 (fV at'))) Q À U U U U U U U) (Wv (bR x S R)) N RR Y)
 (acT:∀w q,(qt=C w\/(∃k∈fV at',w=val k)/\∀O,qt=C O->(look1 hv O).isSome=Í)->hv w=C q->(aq++jL).find? (λz=>decide (z.2=q.1))=U->∀vs y,Y (fQ q.1 w) vs (Wv y)) :
 s6 (Dn (n+1)) (Va (C (.str D)) (C (bE at')) G (C (we qt)) U U U U U U U U U U U U U U U) (Wv x) N RR Y:=by
 have V:(ah [D] (at'.map (·.1))).Nodup:=gC _ _ (ϊ.mpr ⟨Ķ,Χ⟩)
 have H:(ah [D] (at'.map (·.1))).length<=4:=Â (dA _ _) (by rw[length_map];exact Ø hz 1)
 refine az (S:=AP) (B:=AI) ?_
 refine az (S:=s9) (B:=AJ) (UT hz ?_)
 refine az (S:=td) (B:=AK) (UU ?_)
 refine az (S:=tf) (B:=AL) (UV A (É H Zz) V l (λS' R E I=>?_) λw e q h=>acT w q (.inl e) h)
 refine az (S:=th) (B:=lW) (SR A (É H Zz) hz L ?_ I k λc j q h=>acT (val c) q (.inr ⟨⟨c,j,rfl⟩,λO e=>by refine I _ λJ J J J J g=>?_;exact g O (by rw[e];exact Ù.mpr rfl)⟩) h)
 cases qt with
 | none=>exact ï _
 | some w=>exact Ë _
end
section
variable {nd:ZC} {x y:aa} {ds:È Ó} {d n e m:Ó} {L:È ZE} {B:ZE} {out data:ZB} {pd:AV} {se dn:ì} {N:NK} {RR:RK} {Y:XK} {S:ZC} {R:ZF} {at':ZE} {H:Ì} {qt:Æ Ì} {lk:Ì->Æ Ì} {vs0 ks:ZC} {I D G:Æ AV}
def iQ (lk:Ì->Æ Ì) (ks vs0:ZC) (at':ZE) (nd:ZC) (B:ZE):È (Ì×Ì):=
 aW (B.map HK)++(aW at').map λz=>(zr nd z.1,vO lk nd ks vs0 z.1 z.2)
def wM {Q O dl nl ps n0:ZB} {pm À:ZF} {c:aK} (V:d<x.length) (k:Kq d (bR x S R) y):(Sw se dn pd n0 nl dl ps À O Q (y++[c]))[(Sw se dn pd n0 nl dl ps pm data out x).length+1]? = C (.dict R):=by
 show(y++[c])[x.length+1]? = _
 have e:(bR x S R)[x.length+1]? = C (.dict R):=by
  unfold bR
  rw[ĺ (ö _),Y6 (Ë _),Ť];rfl
 have h:=k.2 _ _ (Θ (Ŭ V)) e
 rw[ľ (î.mp h).1,h]
end
section
variable {nd:ZC} {x y:aa} {ds:È Ó} {d n e m:Ó} {L:È ZE} {B:ZE} {out data:ZB} {pd:AV} {se dn:ì} {K:VK} {RR:RK} {Y:XK} {S:ZC} {R:ZF} {at':ZE} {D:Ì} {qt:Æ Ì} {lk:Ì->Æ Ì} {vs0 ks:ZC} {O G H:Æ AV}
def U1 (F:È Ì×È (Ì×Ì)) (hF:bw L (au S) nd B=F) (ht:Td) (hS:S.Nodup) (hl:S.length<7) (hK:∀q∈S,I9 q (kU q) (kT q)/\kU q∈U4/\(kT q).length<=5000) (I:Iv nd x ds d L B) (hd:d<x.length) (hz:at'.length<=3)
 (h3:∀v,ak v R=if v∈vs0 then(lk v).map .str else U) (h6:∀v∈vs0,∃a,lk v=C a/\a∈S) (Q:D∈S) (r:∀z∈at',z.1∈S) (x0:ak "{http://www.w3.org/XML/1998/namespace}space" (am at')=U) (E:∀w,qt=C w->w∈vs0)
 (t:∀q∈S,(bn (kU q) (kT q) F.1).length<=6000/\uE oP (bn (kU q) (kT q) F.1)) (hM:∀z∈iQ lk ks vs0 at' F.1 F.2,Wr z) (hs:(((iQ lk ks vs0 at' F.1 F.2).map atT).map (·.length)).sum<=10000000) (ho:out.length<9000) (he:e<1000) (hm:m<1000)
 (k:∀y,Kq d x y->Iv F.1 y ds d L F.2->K .none (Sw Í dn pd (aq.map ae) (nv (e+1)) (dv (ds++[d])) (bd (m+1)) (dX F.1) data (HN lk F.1 qt (IX (out++[.str ("<"++bn (kU D) (kT D) F.1)]) (iQ lk ks vs0 at' F.1 F.2)++[.str ">"])) y)) :
 lW (Dn (n+1)) (Va (C (.str D)) (C (bE at')) (C (.loc (d+9))) (C (we qt)) U U (C (.loc (Sw se dn pd (aq.map ae) (nv e) (dv (ds++[d])) (bd m) (dX nd) data out x).length)) (C (.loc ((Sw se dn pd (aq.map ae) (nv e) (dv (ds++[d])) (bd m) (dX nd) data out x).length+1))) O (C (E6 ks)) G H U U U U U U U) (Sw se dn pd (aq.map ae) (nv e) (dv (ds++[d])) (bd m) (dX nd) data out (bR x S R)) (λJ Z=>K .none Z) RR Y:=by
 subst hF
 refine az (S:=AQ) (B:=AM) ?_
 refine az (S:=tj) (B:=AN) (UW ht hS hl hK I λy acT N J=>?_)
 generalize bw L (au S) nd B=F at *
 have Jj:=N
 refine Jj _ λJ lb J pf J hn=>?_
 have hB:∀z∈F.2,z.2.length≠0/\z.2.length<=100:=λz hz=>by
  obtain⟨a,_,c⟩:=pf z (í _ hz)
  obtain⟨a,b,_⟩:=q8 ht hn a
  rw[c];exact⟨a,b⟩
 have V:F.2.length<=4:=Â (by rw[Ð];exact ħ _ _) N.few
 have À:(Pu F.2).length<=4:=by unfold Pu;rw[length_map,(show(aW (F.2.map HK)).length=_ from(ň ..).length_eq),length_map];exact V
 refine az (S:=tm) (B:=s8) (UX lb hB V ?_)
 refine az (S:=tn) (B:=AO) (UY (lk:=lk) (vs0:=vs0) hz (λA=>wM hd acT) h3 (λv hv=>(by obtain⟨a,e,h⟩:=h6 v hv;exact⟨a,e,dm.mpr h⟩)) (λz h=>dm.mpr (r z h)) (É À Zz) λa5 a6 G a15 a17=>?_)
 have eM:Pu F.2++((aW at').map λz=>(zr F.1 z.1,vO lk F.1 ks vs0 z.1 z.2)).map ae=(iQ lk ks vs0 at' F.1 F.2).map ae:=by
  unfold iQ Pu
  rw[ò]
 rw[eM]
 have l:(iQ lk ks vs0 at' F.1 F.2).length<100:=by
  rw[<-length_map (f:=ae),<-eM,Ð,length_map,length_map,(show(aW at').length=_ from(ň ..).length_eq)]
  exact É (å À hz) Zz
 refine az (S:=tr) (B:=vD) (UZ x0 ?_)
 refine az (S:=ng) (B:=vE) (SH hm ?_)
 refine az (S:=vL) (B:=vF) ?_
 refine az (S:=nh) (B:=vG) (SI (dm.mpr Q) (t _ Q).1 (Þ ho Zz) ?_)
 have o1:(out++[AV.str ("<"++bn (kU D) (kT D) F.1)]).length<9001:=by rw[Ð];exact ĳ ho
 have o2:∀o:È AV,o.length<9001->∀M,(IX o M).length<9002:=λo h M=>by
  unfold IX
  split
  ·exact Ŭ h
  ·rw[Ð];exact ĳ h
 refine az (S:=ni) (B:=vH) (SJ (out:=out++[AV.str ("<"++bn (kU D) (kT D) F.1)]) (ps:=bd (m+1)) (pm:=dX F.1) (y:=y) hM l hs (Þ o1 Zz) ?_)
 have o3:=o2 _ o1 (iQ lk ks vs0 at' F.1 F.2)
 refine az (S:=nj) (B:=vI) (SK (Þ o3 Zz) ?_)
 refine az (S:=nq) (B:=vJ) (SM (lk:=lk) (wM (out:=out) (data:=data) (pm:=dX nd) hd acT) (λw hw=>?_) (by rw[Ð];exact Þ (ĳ o3) Zz) ?_)
 ·obtain⟨a,e1,g⟩:=h6 w (E w hw)
  exact⟨a,by rw[h3,Û (E w hw),e1];rfl,e1,dm.mpr g,(t a g).1,(t a g).2⟩
 refine az (S:=nr) (B:=vK) (SN ?_)
 refine az (S:=nt) (B:=s0) (SO he ?_)
 exact k (y++[aK.list ((iQ lk ks vs0 at' F.1 F.2).map ae)]) ⟨Â (y7 (d:=d)).1 (Â acT.1 (cU (d:=d) _).1),λj o i e=>(cU (d:=d) _).2 j o i (acT.2 j o i ((y7 (d:=d)).2 j o i e))⟩ (N.up (cU _) (dz _ _ _ _ lb))
end
def cZ {a:Ì}:∀{L S:ZC},a∈S\/a∈L->a∈ah S L:=by
 intro H;induction H with
 | nil=>
  exact @λJ h=>h.elim id λq=>nomatch q
 | cons b L G=>
  exact @λS h=>G (S:=aZ b S) (h.elim (λq=>.inl (mn.mpr (.inl q))) λq=>(Ċ.mp q).elim (λq=>.inl (mn.mpr (.inr q))) .inr)
section
variable {nd:ZC} {x y:aa} {ds:È Ó} {d n e m:Ó} {L:È ZE} {B:ZE} {out data:ZB} {pd:AV} {se dn:ì} {K:VK} {X:Ì->aa->Prop} {at':ZE} {D:Ì} {qt:Æ Ì} {hv:Ì->Æ (Ì×Ì)} {val:Ì->Ì}
def M6 (G:Prop) (hv:Ì->Æ (Ì×Ì)) (nd:ZC) (L:È ZE) (B at':ZE) (D:Ì) (vs S:ZC):Prop:=∀(hl:S.length<7) (hK:∀q∈S,I9 q (kU q) (kT q)/\kU q∈U4/\(kT q).length<=5000) (hr:∀q∈S,(bn (kU q) (kT q) (bw L (au S) nd B).1).length<=6000/\uE oP (bn (kU q) (kT q) (bw L (au S) nd B).1)) (hM:∀z∈iQ (look1 hv) (fV at') vs at' (bw L (au S) nd B).1 (bw L (au S) nd B).2,Wr z) (hs:(((iQ (look1 hv) (fV at') vs at' (bw L (au S) nd B).1 (bw L (au S) nd B).2).map atT).map (·.length)).sum<=10000000),G
def Tx:=λhv nd L B at' D vs S=>∀G,M6 G hv nd L B at' D vs S->G
def Tx.mk:M6 (Tx hv nd L B at' D vs S) hv nd L B at' D vs S:=λO H Q I À J G=>G O H Q I À
def SQ (ht:Td) (À:∀z∈aq++jL,z.1.length<=100) (hz:at'.length<=3) (O:∀k∈fV at',ak k (am at')=C (.str (val k))/\Hv hv (val k)) (hq:∀w,qt=C w->∃p m,hv w=C (p,m)/\Sp w p m)
 (I:Iv nd x ds d L B) (c:d<x.length) (Q:ak "{http://www.w3.org/XML/1998/namespace}space" (am at')=U) (ho:out.length<9000) (i:e<1000) (hm:m<1000)
 (hA:∀(p S:ZC) (R:ZF),p.Perm (fV at')->(∀k∈fV at',(hv (val k)).isSome=Í->(look1 hv (val k)).isSome=Í)->RI (look1 hv) (ah [D] (at'.map (·.1))) (qt.toList++(p.map val).filter λv=>(hv v).isSome) S R->Tx hv nd L B at' D (qt.toList++(p.map val).filter λv=>(hv v).isSome) S)
 (k:∀(p S:ZC) (R:ZF) y,p.Perm (fV at')->RI (look1 hv) (ah [D] (at'.map (·.1))) (qt.toList++(p.map val).filter λv=>(hv v).isSome) S R->Kq d x y->Iv (bw L (au S) nd B).1 y ds d L (bw L (au S) nd B).2->
  K .none (Sw Í dn pd (aq.map ae) (nv (e+1)) (dv (ds++[d])) (bd (m+1)) (dX (bw L (au S) nd B).1) data (HN (look1 hv) (bw L (au S) nd B).1 qt (IX (out++[.str ("<"++bn (kU D) (kT D) (bw L (au S) nd B).1)]) (iQ (look1 hv) (fV at') (qt.toList++(p.map val).filter λv=>(hv v).isSome) at' (bw L (au S) nd B).1 (bw L (au S) nd B).2)++[.str ">"])) y))
 (kx:∀w q,(qt=C w\/(∃k∈fV at',w=val k)/\∀acT,qt=C acT->(look1 hv acT).isSome=Í)->hv w=C q->(aq++jL).find? (λz=>decide (z.2=q.1))=U->∀y,X (fQ q.1 w) (Sw se dn pd (aq.map ae) (nv e) (dv (ds++[d])) (bd m) (dX nd) data out y)) :
 Dn (n+2) 126 [tg,.str D,bE at',.loc (d+9),we qt] [] (Sw se dn pd (aq.map ae) (nv e) (dv (ds++[d])) (bd m) (dX nd) data out x) K X:=by
 rw[RB]
 refine U0 À hz O hq (λp S R a9 a11 a12 A hk G=>?_) λw q h g j J y=>kx w q h g j y
 refine hA p S R A hk G _ λt l hr r hs=>?_
 have N:=G
 refine N _ λY r2 r3 J J r6=>?_
 refine U1 _ rfl ht r2 t l I c hz r3 (λv H=>?_) ((Y D).mpr (.inl ?_)) (λz V=>(Y z.1).mpr (.inl ?_)) Q (λw hw=>?_) hr r hs ho i hm λy kq iv=>k p S R y A G kq iv
 ·obtain⟨a,E⟩:=š.mp (r6 v H)
  exact⟨a,E,(Y a).mpr (.inr ⟨v,H,E⟩)⟩
 ·exact cZ (.inl (Ù.mpr rfl))
 ·exact cZ (.inr (Ĭ V))
 ·rw[hw];exact ç _ (Ù.mpr rfl)
end
def pB:È Ì:=["t","a","r","s"]
inductive Nm (q:Ì):Prop
 | bare (h:q∈pB)
 | full (u m:Ì) (hu:u∈rJ) (hm:125∉aB m) (e:q=ce u m)
def gS (u m:Ì):aB (ce u m)=123::(aB u++125::aB m):=by
 unfold ce
 rw[aE,aE,aE,aE,ø];rfl
def oE:∀u∈rJ,(∀c∈aB u,(c !=125)=Í)/\125∉aB u/\u∈U4/\u.length=1/\u≠"":=by decide +kernel
section
variable {u m q:Ì}
def tP (B:u∈rJ):kU (ce u m)=u:=by
 unfold kU
 rw[gS]
 refine(Û rfl).trans (bF ?_)
 show takeWhile _ (aB u++125::aB m)=_
 rw[e7 (oE u B).1]
 exact Ę _
def tO (D:u∈rJ):kT (ce u m)=m:=by
 unfold kT
 rw[gS]
 refine(Û rfl).trans (bF ?_)
 show(dropWhile _ ((123::aB u)++125::aB m)).tail=_
 rw[dropWhile_append_of_pos λc B=>(Ċ.mp B).elim (λe=>e▸by decide) ((oE u D).1 c)];rfl
def zB:∀q∈pB,Ļ q U (C 1)≠"{"/\kU q = ""/\kT q=q/\q.length<=5000:=by decide +kernel
def Nm.key (h:Nm q):I9 q (kU q) (kT q)/\kU q∈U4:=by
 cases h with
 | bare h=>
  obtain⟨a,b,c,_⟩:=zB q h
  exact⟨.bare a b c,by rw[b];exact ã ..⟩
 | full u m B I e=>
  subst e
  obtain⟨_,G,H,_⟩:=oE u B
  rw[tP B,tO B]
  have D:1<=(ce u m).length:=by rw[<-ai,gS];exact á (ï _)
  refine⟨.full (bF ?_) (wh G I ?_),H⟩
  ·refine(NN D).trans ?_
   rw[gS];rfl
  ·refine(uh D).trans ?_
   rw[gS];rfl
noncomputable def X7:È (È Ó×Ì):=[([116],""),([97],""),([114],""),([115],""),([123,117],"u"),([123,118],"v"),([123,119],"w")]
def Nm.cut (h:Nm q):((cI q).1,kU q)∈X7:=by
 cases h with
 | bare h=>exact(show ∀q∈pB,((cI q).1,kU q)∈X7 by decide +kernel) q h
 | full u m B hm e=>
  subst e
  have e:(cI (ce u m)).1=123::aB u:=by
   show(aB (ce u m)).takeWhile _=_
   rw[gS]
   show takeWhile _ ((123::aB u)++125::aB m)=_
   rw[e7 λc D=>(Ċ.mp D).elim (λe=>e▸by decide) ((oE u B).1 c)]
   exact Ę _
  rw[e,tP B]
  exact(show ∀u∈rJ,(123::aB u,u)∈X7 by decide +kernel) u B
abbrev Qw (a b:Ì):Prop:=decide (a.cps.toList<=b.cps.toList)=Í
def Tn:∀a∈X7,∀b∈X7,a.1=b.1\/a.1<=b.1->Qw a.2 b.2:=by decide +kernel
def OY {p:Ì} (D:Nm q) (B:Nm p) (h:qK q p=Í):Qw (kU q) (kU p):=by
 refine Tn _ D.cut _ B.cut ?_
 unfold qK at h
 by_cases e:(cI q).1=(cI p).1
 ·exact .inl e
 ·refine .inr ?_
  have h:(if(cI q).1=(cI p).1 then _ else decide ((cI q).1<=(cI p).1))=Í:=h
  rw[Ý e]at h
  exact of_decide_eq_true h
end
def o8 (nd us:ZC):È (Ì×Ì):=us.map λu=>(u,df nd u)
def I0 (Lu:ZC) (u:Ì):ì:=!(Lu.contains u||(!f.rw&&decide (u = "")))
def uB (us:ZC):È Ì:=U4.filter us.contains
def fP (nd us:ZC):È Ì:=if f.rw=Í then ah nd (uB us)else nd
def Bp {nd us:ZC}:(o8 nd us).map (·.1)=us:=by
 unfold o8
 rw[ĥ]
 exact abg (λJ=>rfl) _
section
variable {L:È ZE}
def J3:∀(Zf nd:ZC) (B:ZE),(bw L Zf nd B).1=if f.rw=Í then ah nd (Zf.map kU)else nd:=by
 intro G;induction G with
 | nil=>
  exact @λnd B=>by split<;>rfl
 | cons q Zf D=>
  exact @λnd B=>(D _ _).trans (by unfold c9;split<;>rfl)
def wd {nd us:ZC} (u:Ì) (h:∀a∈us,a∈Dm nd):o8 (c9 u nd) us=o8 nd us:=Ŧ λa B=>by rw[(l7 (h a B)).1]
def J4:∀(Zf nd B:ZC),(∀q∈Zf,kU q∈U4)->(∀u∈B,u∈Dm nd)->(bw L Zf nd (o8 nd B)).2=o8 (bw L Zf nd (o8 nd B)).1 (ah B ((Zf.map kU).filter (I0 (L.flatten.map (·.1))))):=by
 intro À;induction À with
 | nil=>
  exact @λnd B J J=>rfl
 | cons q Zf O=>
  intro nd B H G
  show(bw L Zf (c9 (kU q) nd) (nS nd L (o8 nd B) (kU q))).2=o8 (bw L Zf (c9 (kU q) nd) (nS nd L (o8 nd B) (kU q))).1 _
  have D:∀u∈B,u∈Dm (c9 (kU q) nd):=λu I=>(l7 (G u I)).2
  have Q:FW L (o8 nd B) (kU q)=((L.flatten.map (·.1)).contains (kU q)||B.contains (kU q)):=by
   unfold FW
   simp only[ò,Bp,YK]
  unfold nS
  simp only[Ī,I2,Q]
  cases e:I0 (L.flatten.map (·.1)) (kU q)with
  | false=>
   have e:((L.flatten.map (·.1)).contains (kU q)||(!f.rw&&decide (kU q = "")))=Í:=(H_ _).symm.trans (Õ (!·) e)
   rw[Û (by rw[ZX,e];rfl),<-wd (kU q) G]
   exact O _ B (λq h=>H q (à _ h)) D
  | true=>
   have e:((L.flatten.map (·.1)).contains (kU q)||(!f.rw&&decide (kU q = "")))=Ï:=(H_ _).symm.trans (Õ (!·) e)
   rw[ZX,e,abV,Û rfl]
   show _=o8 _ (ah (aZ (kU q) B) _)
   have st:(if B.contains (kU q)=Í then o8 nd B else o8 nd B++[(kU q,df (c9 (kU q) nd) (kU q))])=o8 (c9 (kU q) nd) (aZ (kU q) B):=by
    unfold aZ
    rw[<-wd (kU q) G]
    split
    ·rfl
    ·unfold o8;rw[ò];rfl
   rw[st]
   refine O _ _ (λq h=>H q (à _ h)) λu I=>?_
   rcases gj I with m|rfl
   ·exact D u m
   ·exact(Bk (H q (ã ..))).resolve_right λh=>by rw[(WF.mp e).2]at h;cases h
end
def iN {xs B:ZC} (D:B.Perm xs) (h:B.Pairwise Qw):B=gw xs:=order_eq (O:=aM) (ko:=bp) (λa b=>(cE _ _).symm) bW D h
def B7 {R:Ì->Ì->Prop}:∀(xs S:ZC),(S++xs).Pairwise R->(ah S xs).Pairwise R:=by
 intro D;induction D with
 | nil=>
  exact @λS h=>by rw[Ę]at h;exact h
 | cons a xs B=>
  intro S h
  refine B (aZ a S) ?_
  unfold aZ
  split
  ·exact h.sublist (aap (Yu _) (sublist_cons_self ..))
  ·rw[ø];exact h
def py {a:Ì}:∀(xs S:ZC),a∈ah S xs->a∈S\/a∈xs:=by
 intro D;induction D with
 | nil=>
  exact @λJ h=>.inl h
 | cons b xs B=>
  exact @λS h=>(B (aZ b S) h).elim (λq=>(gj q).elim .inl λe=>.inr (by rw[e];exact ã ..)) λq=>.inr (à _ q)
def iL {a:Ì} {xs:ZC}:a∈ah [] xs↔a∈xs:=⟨λh=>(py xs [] h).resolve_left (λq=>nomatch q),λh=>cZ (.inr h)⟩
def BP:U4.Pairwise Qw/\U4.Nodup:=by decide +kernel
def IP {us xs:ZC} (D:xs.Nodup) (h:∀a,a∈xs↔a∈us) (B:∀a∈us,a∈U4):(uB us).Perm xs:=by
 refine(perm_ext_iff_of_nodup (BP.2.sublist Ϭ) D).mpr λa=>?_
 rw[þ,Ú,h]
 exact⟨λq=>q.2,λq=>⟨B a q,q⟩⟩
def wQ {us xs:ZC} (D:xs.Nodup) (h:∀a,a∈xs↔a∈us) (B:∀a∈us,a∈U4):gw xs=uB us:=(iN (IP D h B) (BP.1.filter _)).symm
def hJ {us:ZC} (h:us.Pairwise Qw) (B:∀a∈us,a∈U4):ah [] us=uB us:=
 (iN (.refl _) (B7 us [] h)).trans (wQ (gC us [] Χ) (λa=>iL) B)
set_option tactic.hygienic true in def xl (nd:ZC):∀xs S:È Ì,ah nd (ah S xs)=ah (ah nd S) xs:=by
 intro D;induction D with
 | nil=>
  exact @λJ=>rfl
 | cons x xs B=>
  intro S
  show ah nd (ah (aZ x S) xs)=ah (aZ x (ah nd S)) xs
  rw[B]
  refine Õ (ah · xs) ?_
  show ah nd (if S.contains x=Í then S else S++[x])=_
  split
  ·rename_i h
   unfold aZ
   rw[Û (Ú.mpr (cZ (.inr (Ú.mp h))))]
  ·unfold ah
   rw[X_];rfl
noncomputable def xi:È Ì:=["p:x","q:y","b:x","p:x\n","x","p:","n0:x","y:p:q","z:/x","x:p"]
noncomputable def K4:È Ì:=["r","{u}r","{v}r","s"]
def T4:È Ì:=["t","{v}t","a","{w}a"]
def g7 (w:Ì):ì:=(["t","{v}t"]:ZC).contains w
def fB (k:Ì):ì:=(["r","{u}r"]:ZC).contains k
def Mx (B:Prop) (at':ZE):Prop:=∀(hl:at'.length<=2) (hk:∀z∈at',z.1∈K4/\z.2∈xi) (n1:(at'.map (·.1)).Nodup),B
def B2:=λat'=>∀B,Mx B at'->B
def B2.mk:Mx (B2 at') at':=λD hk G J B=>B D hk G
noncomputable def N9:È Ó:=[38,60,62,34,9,13]
def Cl (s:Ì):Prop:=uE N9 s
section
variable {a b:Ì}
def Cl.u! (D:Cl a) (G:Cl b):Cl (a++b):=λc B=>by
 rw[aE]at B
 exact(ý.mp B).elim (D c) (G c)
def uE.sub {L M:È Ó} (h:uE L a) (k:∀c∈M,c∈L):uE M a:=λc B=>by
 cases e:M.contains c with
 | false=>rfl
 | true=>
  have:=h c B
  rw[Ú.mpr (k c (Ú.mp e))]at this;cases this
def Cl.T (h:Cl a):uE oP a:=h.sub Zz
def Cl.V (h:Cl a):uE N8 a:=h.sub Zz
end
def Ot (s:Ì):ì:=(aB s).all λc=>!N9.contains c
def ft {s:Ì} (h:Ot s=Í):Cl s:=λc B=>(H_ _).symm.trans (Õ (!·) (ũ.mp h c B))
def QY (B:Prop) (b:Ó) (q:Ì):Prop:=∀(n:Nm q) (l:(kT q).length<=b) (c:Cl (kT q)),B
def Nq:=λb q=>∀B,QY B b q->B
def Nq.mk:QY (Nq b q) b q:=λn l c J B=>B n l c
def g0:∀z∈aq,z.1∈rJ/\z.1.length<=100/\z.2.length<=100/\Ot z.2=Í:=(by decide +kernel:∀k<5,∀z∈dh k,z.1∈rJ/\z.1.length<=100/\z.2.length<=100/\Ot z.2=Í) k hk
def wD:Td:=
 ⟨(show ∀k<5,∀a∈rJ,((dh k).find? λz=>decide (z.1=a)).isSome=Í/\(g6 (dh k) a).length≠0/\(g6 (dh k) a).length<=100/\g6 (dh k) a≠"xml" by decide +kernel) k hk,
  (show ∀k<5,∀a∈rJ,∀b∈rJ,g6 (dh k) a=g6 (dh k) b->a=b by decide +kernel) k hk⟩
def uY:∀z∈uX,z.1.length<=100/\(aB z.2).all (aB W9).contains=Ï:=by decide +kernel
def OL:∀q∈T4++K4,q∈pB\/∃u∈rJ,∃m∈pB,q=ce u m:=by decide +kernel
def zA:∀q∈pB,Ot q=Í/\125∉aB q/\q.length<=10:=by decide +kernel
def cC {q:Ì} (h:q∈T4++K4):Nq 10 q:=by
 rcases OL q h with m|⟨u,B,m,D,rfl⟩
 ·obtain⟨c,_,l⟩:=zA q m
  refine(.mk (.bare m) ?_ ?_)<;>rw[(zB q m).2.2.1]
  ·exact l
  ·exact ft c
 ·obtain⟨c,n,l⟩:=zA m D
  refine(.mk (.full u m B n rfl) ?_ ?_)<;>rw[tO B]
  ·exact l
  ·exact ft c
def ML (B:Prop) (t a b:Ì):Prop:=∀(sp:ĝ t ":" 1=[a,b]) (wa:(aB a).all (aB W9).contains=Í) (nb:125∉aB b) (cb:Cl b) (la:a.length<=t.length) (lb:b.length<=t.length),B
def I8:=λt a b=>∀B,ML B t a b->B
def I8.mk:ML (I8 t a b) t a b:=λG H D cb la lb J B=>B G H D cb la lb
def Tj:∀c∈aB W9,N9.contains c=Ï:=by decide +kernel
def tG {t:Ì} (D:Al t):bO t.cps=(hvP t).isSome/\∀a b,hvP t=C (a,b)->I8 t a b:=by
 refine⟨?_,λa b h=>?_⟩
 ·cases h:hvP t with
  | some q=>
   obtain⟨p,m,z,g⟩:=AS D h
   exact xI g
  | none=>
   cases h':bO t.cps with
   | false=>rfl
   | true=>
    obtain⟨p,m,z,g⟩:=yq h'
    rw[zT D g]at h;cases h
 ·obtain⟨p,m,z,g⟩:=AS D h
  rw[zT D g]at h
  obtain⟨rfl,rfl⟩:=ŋ (Ä h)
  refine g _ λhp hm Q O e hz=>?_
  have H:∀c∈aB t,c∈SA:=D
  rw[e]at H
  have G:∀c∈p,c∈aB W9:=λc B=>Ú.mp ((ug c (H c (ç _ B))).symm.trans (Q c B))
  have I:∀c∈m++z,c∈aB W9\/c=10:=λc B=>by
   rcases ý.mp B with q|q
   ·exact .inl (Ú.mp ((ug c (H c (í _ (à _ (ç _ q))))).symm.trans (O c q)))
   ·rcases hz with rfl|rfl
    ·cases q
    ·exact .inr (Ù.mp q)
  have L:t.length=p.length+((m++z).length+1):=by rw[<-ai,e,Ð];rfl
  refine(.mk (yZ (c:=58) (p:=⟨p.toArray⟩) (m:=⟨(m++z).toArray⟩) (λq=>(md _ (G _ q)).2.1 rfl) (λq=>(I _ q).elim (λq=>(md _ q).2.1 rfl) (λq=>nomatch q)) e) (ũ.mpr λc B=>Ú.mpr (G c B)) (λq=>(I _ q).elim (λq=>(md _ q).2.2 rfl) (λq=>nomatch q)) (λc B=>(I c B).elim (Tj c) λq=>q▸rfl) ?_ ?_)
  ·rw[L];exact ë _ _
  ·rw[L];exact Â (ö _) (ħ _ _)
def Qp:∀v∈xi,(aB v).all SA.contains=Í\/(bO v.cps=Ï/\hvP v=U):=by decide +kernel
def tH {t:Ì} (h:t∈xi):bO t.cps=(hvP t).isSome/\∀a b,hvP t=C (a,b)->I8 t a b:=by
 rcases Qp t h with q|⟨B,D⟩
 ·exact tG λc G=>Ú.mp (ũ.mp q c G)
 ·rw[B,D]
  exact⟨rfl,λa b q=>nomatch q⟩
def jI:∀v∈xi,v.length<=5/\Ot v=Í:=by decide +kernel
abbrev nL:Ì->Æ Ì:=look1 hvP
def vX (v:Ì):nL v=(hvP v).bind λq=>((aq++jL).find? λz=>decide (z.2=q.1)).map λz=>ce z.1 q.2:=HB ..
def y8 (at':ZE) (k:Ì):Ì:=((ak k (am at')).bind strV).getD ""
def g8 (qt:Æ Ì) (at':ZE):È Ì:=qt.toList++(at'.filter λz=>fB z.1).map (·.2)
def cT (w:Ì) (qt:Æ Ì) (at':ZE):È Ì:=kU w::at'.map (λz=>kU z.1)++(g8 qt at').filterMap λv=>(nL v).map kU
@[irreducible] def badT' (v:Ì):ì:=(hvP v).any λq=>(aq.find? λz=>decide (z.2=q.1)).isNone
section
variable {at':ZE} {v a b:Ì}
def vq {g:Ì×Ì->AV}:∀{at':ZE},(at'.map (·.1)).Nodup->∀z∈at',ak z.1 (at'.map λH=>(H.1,g H))=C (g z):=by
 intro Q;induction Q with
 | nil=>
  exact @λB D G=>by first|exact nomatch G|exact nomatch D|exact nomatch B
 | cons y at' O=>
  intro h z hz
  rw[Ī,bu]
  obtain⟨I,L⟩:=ϊ.mp h
  rcases Ċ.mp hz with rfl|m
  ·exact Û rfl
  ·rw[Ý λe=>I (show y.1∈_ by rw[e];exact Ĭ m),O L z m]
def ji (h:(at'.map (·.1)).Nodup):∀z∈at',ak z.1 (am at')=C (.str z.2):=vq h
def uC (h:B2 at') {z:Ì×Ì} (hz:z∈at'):y8 at' z.1=z.2:=by
 refine h _ λJ J B=>?_
 unfold y8
 rw[ji B z hz];rfl
def nO {c:Ì}:c∈fV at'↔∃z∈at',z.1=c/\fB c=Í:=by
 unfold fV
 rw[þ,ě]
 exact⟨(by rintro⟨⟨z,hz,e⟩,q⟩;exact⟨z,hz,e,q⟩),(by rintro⟨z,hz,e,q⟩;exact⟨⟨z,hz,e⟩,q⟩)⟩
def Qq (h:B2 at'):∀c∈fV at',ak c (am at')=C (.str (y8 at' c))/\Hv hvP (y8 at' c):=λc H=>by
 obtain⟨z,hz,rfl,_⟩:=nO.mp H
 rw[uC h hz]
 refine h _ λJ hk I=>?_
 obtain⟨D,G⟩:=tH (hk z hz).2
 refine⟨ji I z hz,.mk D λa b e=>?_⟩
 refine G a b e _ λL J J J la lb=>?_
 have B:=Â (jI _ (hk z hz).2).1 (by decide:5<=5000)
 exact(.mk L B (Â la B) (Â lb B))
def Ju {p:Ì} (h:(aB p).all (aB W9).contains=Í):(jL).find? (λz=>decide (z.2=p))=U:=by
 refine XQ.mpr λz hz e=>?_
 unfold jL at hz
 split at hz
 ·cases hz
 ·have:=(uY z hz).2
  rw[of_decide_eq_true e,h]at this;cases this
def pL {p:Ì} (h:(aB p).all (aB W9).contains=Í):(aq++jL).find? (λz=>decide (z.2=p))=aq.find? λz=>decide (z.2=p):=by
 rw[aaq,Ju h,aaQ]
def Hx (h:I8 v a b) (e:hvP v=C (a,b)):nL v=(aq.find? λz=>decide (z.2=a)).map λz=>ce z.1 b:=by
 refine h _ λJ B J J J J=>?_
 rw[vX,e]
 show ε _ _=_
 rw[pL B]
def Hy (h:∀a b,hvP v=C (a,b)->I8 v a b) {q:Ì} (e:nL v=C q):Nq v.length q:=by
 cases e1:hvP v with
 | none=>
  rw[vX,e1]at e;cases e
 | some B=>
  have D:=h B.1 B.2 e1
  rw[Hx D e1]at e
  obtain⟨z,hz,rfl⟩:=Ħ.mp e
  refine D _ λJ J H cb J lb=>?_
  have G:=(g0 z (ϲ hz)).1
  refine(.mk (.full z.1 B.2 G H rfl) ?_ ?_)<;>rw[tO G]
  ·exact lb
  ·exact cb
end
def Rb (B:Prop) (w:Ì) (at':ZE) (qt:Æ Ì):Prop:=∀(hw:w∈T4) (ha:B2 at') (hq:∀x,qt=C x->Al x/\x.length<=1000/\(hvP x).isSome=Í),B
def Sc:=λw at' qt=>∀B,Rb B w at' qt->B
def Sc.mk:Rb (Sc w at' qt) w at' qt:=λH D G J B=>B H D G
abbrev NT (qt:Æ Ì) (at':ZE) (p:ZC):È Ì:=qt.toList++(p.map (y8 at')).filter λv=>(hvP v).isSome
section
variable {at':ZE} {v w:Ì} {qt:Æ Ì} {p S nd:ZC} {R:ZF} {L:È ZE}
def Nq.mono {b c:Ó} {q:Ì} (h:Nq b q) (l:b<=c):Nq c q:=(by refine h _ λn a e=>?_;exact(.mk n (Â a l) e))
def BR (B:B2 at') (G:p.Perm (fV at')) (h:v∈NT qt at' p):v∈g8 qt at':=by
 rcases ý.mp h with m|m
 ·exact ç _ m
 ·obtain⟨c,D,rfl⟩:=ě.mp (þ.mp m).1
  obtain⟨z,hz,rfl,e⟩:=nO.mp (G.mem_iff.mp D)
  rw[uC B hz]
  exact í _ (Ĭ (þ.mpr ⟨hz,e⟩))
def uz (B:B2 at') (D:p.Perm (fV at')) (h:v∈g8 qt at') (hv:(hvP v).isSome=Í):v∈NT qt at' p:=by
 rcases ý.mp h with m|m
 ·exact ç _ m
 ·obtain⟨z,hz,rfl⟩:=ě.mp m
  obtain⟨hz,e⟩:=þ.mp hz
  refine í _ (þ.mpr ⟨ě.mpr ⟨z.1,D.mem_iff.mpr (nO.mpr ⟨z,hz,rfl,e⟩),uC B hz⟩,hv⟩)
def iR (h:Sc w at' qt) (m:v∈g8 qt at'):v.length<=1000/\∀a b,hvP v=C (a,b)->I8 v a b:=by
 refine h _ λJ B G=>B _ λJ hk J=>?_
 rcases ý.mp m with m|m
 ·obtain⟨D,l,_⟩:=G v (ZI.mp m)
  exact⟨l,(tG D).2⟩
 ·obtain⟨z,hz,rfl⟩:=ě.mp m
  have hv:=(hk z (þ.mp hz).1).2
  exact⟨Â (jI _ hv).1 Zz,(tH hv).2⟩
def tY {B q:Ì} {xs:ZC}:q∈ah [B] xs↔q=B\/q∈xs:=by
 rw[show ah [B] xs=ah [] (B::xs)from rfl,iL,Ċ]
def Hw {q:Ì} (e:nL v=C q):(hvP v).isSome=Í:=by
 cases h:hvP v with
 | some _=>rfl
 | none=>
  rw[vX,h]at e;cases e
def Q8 (h:Sc w at' qt) (I:p.Perm (fV at')) (À:RI (nL) (ah [w] (at'.map (·.1))) (NT qt at' p) S R):∀q∈S,Nq 1000 q:=λq O=>by
 refine À _ λG J J J J J=>?_
 rcases(G q).mp O with m|⟨v,hv,e⟩
 ·refine h _ λQ D J=>D _ λJ B J=>?_
  refine(cC ?_).mono Zz
  rcases tY.mp m with rfl|m
  ·exact ç _ Q
  ·obtain⟨z,hz,rfl⟩:=ě.mp m
   exact í _ (B z hz).1
 ·have Jj:=h
  refine Jj _ λJ B J=>?_
  obtain⟨l,H⟩:=iR h (BR B I hv)
  exact(Hy H e).mono l
def Q9 (h:B2 at') (G:p.Perm (fV at')) (I:RI (nL) (ah [w] (at'.map (·.1))) (NT qt at' p) S R) (u:Ì):u∈S.map kU↔u∈cT w qt at':=by
 refine I _ λB J J J J J=>?_
 unfold cT
 rw[ý,Ċ,ě,ě,ĵ]
 constructor
 ·rintro⟨q,H,rfl⟩
  rcases(B q).mp H with m|⟨v,hv,e⟩
  ·rcases tY.mp m with rfl|m
   ·exact .inl (.inl rfl)
   ·obtain⟨z,hz,rfl⟩:=ě.mp m
    exact .inl (.inr ⟨z,hz,rfl⟩)
  ·exact .inr (⟨v,BR h G hv,by rw[e];rfl⟩)
 ·rintro((rfl|⟨z,hz,rfl⟩)|⟨v,hv,e⟩)
  ·exact⟨w,(B w).mpr (.inl (tY.mpr (.inl rfl))),rfl⟩
  ·exact⟨z.1,(B _).mpr (.inl (tY.mpr (.inr (Ĭ hz)))),rfl⟩
  ·obtain⟨q,D,rfl⟩:=Ħ.mp e
   exact⟨q,(B q).mpr (.inr ⟨v,uz h G hv (Hw D),D⟩),rfl⟩
def IQ {us vs:ZC} (h:∀u,u∈us↔u∈vs):uB us=uB vs:=WI λu J=>by
 rw[Ψ,Ú,Ú];exact h u
def zO {us:ZC} (H:∀q∈S,Nm q) (E:∀u,u∈S.map kU↔u∈us):bw L (au S) nd []=(fP nd us,o8 (fP nd us) ((uB us).filter (I0 (L.flatten.map (·.1))))):=by
 have D:∀u∈(au S).map kU,u∈U4:=λu G=>by
  obtain⟨q,I,rfl⟩:=ě.mp G
  exact(H q (dm.mp I)).key.2
 have Q:((au S).map kU).Pairwise Qw:=Ya.mpr ((jA qL S).imp_of_mem λV Y h=>OY (H _ (dm.mp V)) (H _ (dm.mp Y)) h)
 have B:∀u,u∈(au S).map kU↔u∈us:=λu=>by rw[<-E];exact((nH S).map kU).mem_iff
 have O:(bw L (au S) nd []).1=fP nd us:=by
  have À:ah nd ((au S).map kU)=ah nd (ah [] ((au S).map kU)):=(xl nd _ []).symm
  simp only[J3,À,hJ Q D,IQ B];rfl
 refine abH O ?_
 refine(J4 (au S) nd [] (λq I=>D _ (Ĭ I)) λJ h=>nomatch h).trans ?_
 rw[show(o8 nd [])=[]from rfl,O,hJ (Q.filter _) λu G=>D u (þ.mp G).1]
 refine Õ _ ?_
 unfold uB
 rw[aeh]
 refine WI λu J=>?_
 rw[Ψ,ú,Ú,þ,Ú,B,And.comm]
end
def aV (nd:ZC) (k v:Ì):Ì:=if fB k=Í then(nL v).elim v λa=>bn (kU a) (kT a) nd else v
def pb (nd:ZC) (at' B:ZE):È (Ì×Ì):=aW (B.map HK)++(aW at').map λz=>(zr nd z.1,aV nd z.1 z.2)
def Rm (D:Prop) (z:Ì×Ì):Prop:=∀(h1:z.1.length<=130) (h2:z.2.length<=130) (c:Cl z.2),D
def Wq:=λz=>∀D,Rm D z->D
def Wq.mk:Rm (Wq z) z:=λG H c J D=>D G H c
section
variable {at' B:ZE} {u v w t:Ì} {qt:Æ Ì} {p S nd us:ZC} {R:ZF} {L:È ZE}
def Sm:∀i<10,Ot (pN i)=Í:=by decide +kernel
set_option tactic.hygienic true in def ii (D:Nd nd) (h:u∈Dm nd):Cl (df nd u)/\(df nd u).length<=100:=by
 refine⟨?_,(q8 wD D h).2.1⟩
 unfold df;unfold Dm at h
 split<;>rename_i q
 ·rw[Û q]at h
  exact ft (Sm _ (tI D h))
 ·rw[Ý q]at h
  obtain⟨z,e⟩:=š.mp (wD.1 u h).1
  unfold g6
  rw[e]
  exact ft (g0 z (ϲ e)).2.2.2
set_option tactic.hygienic true in def kK {b:Ó} (H:Nd nd) (h:oH nd u) (G:t.length<=b) (D:Cl t):(bn u t nd).length<=101+b/\Cl (bn u t nd):=by
 unfold bn
 split<;>rename_i q
 ·exact⟨Â G (ħ _ _),D⟩
 ·obtain⟨c,l⟩:=ii H (h.resolve_right q)
  unfold ge
  simp only[â,â,â]
  refine⟨å (á (Â (ó (ė _)) l)) G,((Cl.u! (Cl.u! ?_ c) ?_).u! D)⟩
  ·exact ft (by decide +kernel)
  ·exact ft (by decide +kernel)
def Pn (D:Nd nd):Nd (fP nd us):=by
 unfold fP
 split
 ·refine⟨gC _ _ D.1,λa G=>?_⟩
  exact(py _ _ G).elim (λq=>D.2 q) λq=>(þ.mp q).1
 ·exact D
set_option tactic.hygienic true in def ju (h:u∈us) (D:u∈U4):oH (fP nd us) u:=by
 unfold oH Dm fP
 split
 ·exact .inl (cZ (.inr (þ.mpr ⟨D,Ú.mpr h⟩)))
 ·rename_i q
  rcases(uA u D).2.2 with e|e
  ·exact .inr (by rw[e,ϝ.mpr q];rfl)
  ·exact .inl e.1
def uv (D:B2 at') (G:p.Perm (fV at')):iQ (nL) (fV at') (NT qt at' p) at' nd B=pb nd at' B:=by
 unfold iQ pb
 refine Õ _ (Ŧ λz hz=>?_)
 have hz:z∈at':=ż.mp hz
 refine Õ (Prod.mk _) ?_
 unfold vO aV
 have e:(fV at').contains z.1=fB z.1:=by
  rw[Ψ,Ú,nO]
  exact⟨(by rintro⟨_,_,_,q⟩;exact q),λq=>⟨z,hz,rfl,q⟩⟩
 rw[e]
 by_cases q:fB z.1=Í
 ·rw[Û q]
  cases h:nL z.2 with
  | none=>split<;>rfl
  | some a=>rw[Û ⟨q,uz D G (í _ (Ĭ (þ.mpr ⟨hz,q⟩))) (Hw h)⟩]
 ·rw[Ý q,Ý λh=>q h.1]
end
def js (nd Lu us:ZC):È (Ì×Ì):=o8 nd ((uB us).filter (I0 Lu))
def wB (c:Ó) (z:È Ó) (hz:1<=z.length):∀l:È Ó,(jE c z l).length<=z.length * l.length:=by
 intro D;induction D with
 | nil=>
  exact ï _
 | cons a l B=>
  show((if a=c then z else[a])++jE c z l).length<=_
  rw[Ð,ŕ,p_,ı]
  refine å (B) ?_
  split
  ·exact Ë _
  ·exact hz
def t8 (s:Ì):(IZ s).length<=5 * s.length:=by
 unfold IZ
 rw[<-ai,<-ai,show aB (ť s "\n" "&#xA;")=_ from c8 s "&#xA;" 10]
 exact wB 10 (aB "&#xA;") (by decide +kernel) _
def Wq.wr {z:Ì×Ì} (h:Wq z):Wr z/\(atT z).length<=800:=by
 refine h _ λB D c=>?_
 have G:=Â (t8 z.2) (Ą 5 D)
 refine⟨⟨Â B Zz,Â D Zz,Â G Zz,c.V⟩,?_⟩
 unfold atT
 simp only[â,â,â,â,â]
 exact Â (Ò (å (Ò (Ø B _) _) G) _) (by decide +kernel)
section
variable {at':ZE} {u w:Ì} {qt:Æ Ì} {p S nd:ZC} {R:ZF} {L:È ZE} {Lu:ZC}
def NR (h:Sc w at' qt) (D:u∈cT w qt at'):u∈U4:=by
 have Jj:=h
 refine Jj _ λI B J=>B _ λJ H J=>?_
 unfold cT at D
 rcases ý.mp D with m|m
 ·rcases Ċ.mp m with rfl|m
  ·refine cC (ç K4 I) _ λn J J=>?_
   exact n.key.2
  ·obtain⟨z,hz,rfl⟩:=ě.mp m
   refine cC (í T4 (H z hz).1) _ λn J J=>?_
   exact n.key.2
 ·obtain⟨v,hv,e⟩:=ĵ.mp m
  obtain⟨q,G,rfl⟩:=Ħ.mp e
  refine Hy (iR h hv).2 G _ λn J J=>?_
  exact n.key.2
def Pp (h:u∈(uB (cT w qt at')).filter (I0 Lu)):u∈Dm (fP nd (cT w qt at')):=by
 obtain⟨D,B⟩:=þ.mp h
 obtain⟨G,H⟩:=þ.mp D
 refine(ju (Ú.mp H) G).resolve_right λq=>?_
 unfold I0 at B
 rw[q,n_]at B;cases B
set_option tactic.hygienic true in def IF (N:Nd nd) (h:Sc w at' qt):∀z∈pb (fP nd (cT w qt at')) at' (js (fP nd (cT w qt at')) Lu (cT w qt at')),Wq z:=λz hz=>by
 have I:Nd (fP nd (cT w qt at')):=Pn N
 have V:=λu=>NR (u:=u) h
 unfold pb at hz
 rcases ý.mp hz with m|m
 ·obtain⟨b,A,rfl⟩:=ě.mp (ż.mp m)
  obtain⟨u,D,rfl⟩:=ě.mp A
  obtain⟨c,l⟩:=ii I (Pp D)
  refine(.mk ?_ ?_ ?_)
  ·show(("xmlns:" : Ì)++_).length<=_
   rw[â]
   exact Â (Ø l _) Zz
  ·exact(show ∀u∈U4,u.length<=130 by decide +kernel) u (þ.mp (þ.mp D).1).1
  ·exact ft ((show ∀u∈U4,Ot u=Í by decide +kernel) u (þ.mp (þ.mp D).1).1)
 ·obtain⟨y,H,rfl⟩:=ě.mp m
  have H:y∈at':=ż.mp H
  have Jj:=h
  refine Jj _ λJ À J=>À _ λJ E J=>?_
  obtain⟨O,hv⟩:=E y H
  obtain⟨Q,Y⟩:=jI _ hv
  have G:kU y.1∈cT w qt at':=ç _ (à _ (Ĭ H))
  refine cC (í T4 O) _ λJ l c=>?_
  have B:(aV (fP nd (cT w qt at')) y.1 y.2).length<=130/\Cl (aV (fP nd (cT w qt at')) y.1 y.2):=by
   unfold aV
   split<;>rename_i q
   ·cases e:nL y.2 with
    | none=>exact⟨Â Q Zz,ft Y⟩
    | some a=>
     have acT:y.2∈g8 qt at':=í _ (Ĭ (þ.mpr ⟨H,q⟩))
     refine Hy (tH hv).2 e _ λJ l c=>?_
     have D:kU a∈cT w qt at':=í _ (ĵ.mpr ⟨y.2,acT,by rw[e];rfl⟩)
     obtain⟨g,j⟩:=kK I (ju D (V _ D)) (Â l Q) c
     exact⟨Â g Zz,j⟩
   ·exact⟨Â Q Zz,ft Y⟩
  refine(.mk ?_ B.1 B.2)
  show(zr _ _).length<=_
  unfold zr
  split
  ·exact Â (kK I (ju G (V _ G)) l c).1 Zz
  ·exact Â l Zz
variable {x:aa} {n m:Ó} {out data dl nl n0:ZB} {pm:ZF} {t1 B D:AV} {se dn:ì} {K:VK} {X:Ì->aa->Prop} {N:NK} {RR:RK} {Y:XK} {d:Ì} {acT:aj}
def R0 (h:Dn (n+1) 126 [tg,t1,B,D,.str d] [] (Sw se dn .none n0 nl dl (bd m) pm data out x) (λJ Z=>RR .none [C tg,C (.bm .sJoin (.str "")),C (.str d),C (.tup [t1,B,D]),C (.str d)] Z) λe Z=>Y e [C tg,C (.bm .sJoin (.str "")),C (.str d),C (.tup [t1,B,D]),C (.str d)] Z)
 (G:(d.length !=0)=Í) (H:bO d.cps=Í):jk (Dn (n+1)) [C tg,C (.bm .sJoin (.str "")),C (.str d),U,U] (Sw se dn (.tup [t1,B,D]) n0 nl dl (bd m) pm data out x) N RR Y:=by
 refine dD G (wG (b:=Í) (HA.trans (Õ C H)) ?_)
 exact h
def RZ (h:Dn (n+1) 126 [tg,t1,B,D,.none] [] (Sw se dn .none n0 nl dl (bd m) pm data out x) (λJ Z=>N [C tg,C (.bm .sJoin (.str "")),C (.str d),C (.tup [t1,B,D]),C .none] Z) λe Z=>Y e [C tg,C (.bm .sJoin (.str "")),C (.str d),C (.tup [t1,B,D]),C .none] Z)
 (G:((d.length !=0)&&bO d.cps)=Ï):jk (Dn (n+1)) [C tg,C (.bm .sJoin (.str "")),C (.str d),U,U] (Sw se dn (.tup [t1,B,D]) n0 nl dl (bd m) pm data out x) N RR Y:=by
 cases h1:(d.length !=0)with
 | false=>exact db h1 h
 | true=>
  rw[h1]at G
  exact dD h1 (wG (b:=Ï) (HA.trans (Õ C G)) h)
variable {a b:ì}
def UG:Dn (n+1) 67 [tg,.bm .lAppend (.loc 1)] [("strip_text",.bool f.st),("rewrite_prefixes",.bool f.rw),("qname_aware_tags",.fl [.str "t",.str "{v}t"]),("qname_aware_attrs",.ws ["r","{u}r"])] [.code,.list [],.attrs (T.an.map λJ=>.none)] K X=K .none (Sw Ï Ï .none [] (nv 0) (dv []) (bd 0) [] [] [] []):=by
 rw[T9]
 unfold Sw nv bv
 generalize f=f
 obtain⟨a,b⟩:=f
 cases b<;>kernel_rfl
variable {pd G:AV} {ts:ZC}
def vr (h:aJ data=C ts) (hz:(ts.map (·.length)).sum<=5000) (H:stp (û "" ts)=d)
 (k:lT acT [C tg,C (.bm .sJoin (.str "")),C (.str d),U,U] (Sw se dn pd n0 nl dl (bd m) pm [] out x) N RR Y) :
 z4 acT [C tg,C (.bm .sJoin (.str "")),U,U,U] (Sw se dn pd n0 nl dl (bd m) pm data out x) N RR Y:=by
 refine az (S:=z6) (B:=z5) (Nh (l:=3) (xs:=data) rfl h (Â hz Zz) ?_)
 refine az (S:=z7) (B:=sC) ?_
 show sC acT [C tg,C (.bm .sJoin (.str "")),C (.str (û "" ts)),U,U] (Sw se dn pd n0 nl dl (bd m) pm [] out x) N RR Y
 refine az (S:=z8) (B:=lT) ?_
 unfold stp at H
 cases hst:f.st with
 | false=>
  rw[hst,Ý ß]at H
  subst H
  exact db hst k
 | true=>
  rw[hst,Û rfl]at H
  subst H
  exact dD hst (aL (mU (l:=8) (k:=m) rfl) (ay uZ k))
variable {ps:ZB} {H I:Æ AV}
def Uz (p:uE oP d) (B:d.length<=10000) (L:out.length<10000) (k:∀vs,N vs (Sw Í dn .none n0 nl dl ps pm [] (more out d) x)) :
 sJ (Dn (n+1)) [C tg,C (.bm .sJoin (.str "")),C (.str d),H,I] (Sw Í dn .none n0 nl dl ps pm [] out x) N RR Y:=by
 unfold more at k
 cases h:(d.length !=0)with
 | false=>rw[h]at k;exact db h (k _)
 | true=>rw[h]at k;exact dD h (F3 p B (f0 (l:=1) rfl (Þ L Zz) (k _)))
def J2 (h:aJ data=C ts) (hz:(ts.map (·.length)).sum<=5000) (Q:stp (û "" ts)=d) (L:(d.length !=0)=Í) (O:bO d.cps=Í)
 (k:Dn (n+1) 126 [tg,t1,D,G,.str d] [] (Sw se dn .none n0 nl dl (bd m) pm [] out x) (λJ Z=>K .none Z) X):Dn (n+2) 106 [tg] [] (Sw se dn (.tup [t1,D,G]) n0 nl dl (bd m) pm data out x) K X:=by
 simp only[Oo]
 exact vr h hz Q (az (S:=jk) (B:=sH) (R0 k L O))
def J0 (h:aJ data=C ts) (hz:(ts.map (·.length)).sum<=5000) (O:stp (û "" ts)=d) (L:((d.length !=0)&&bO d.cps)=Ï)
 (k:Dn (n+1) 126 [tg,t1,D,G,.none] [] (Sw se dn .none n0 nl dl (bd m) pm [] out x) (λJ Z=>sJ (Dn (n+1)) [C tg,C (.bm .sJoin (.str "")),C (.str d),C (.tup [t1,D,G]),C .none] Z (λJ Z=>K .none Z) (λv J Z=>K v Z) λm J Z=>X m Z) X):Dn (n+2) 106 [tg] [] (Sw se dn (.tup [t1,D,G]) n0 nl dl (bd m) pm data out x) K X:=by
 simp only[Oo]
 exact vr h hz O (az (S:=jk) (B:=sH) (RZ k L))
end
def JR (ds:È Ó) (d:Ó):dv (ds++[d])=dv ds++[.loc (d+9)]:=je ds d
section
variable {x:aa} {n m:Ó} {out data nl n0 ps:ZB} {ds:È Ó} {pm:ZF} {pd A:AV} {se dn:ì} {K:VK} {X:Ì->aa->Prop} {N:NK} {RR:RK} {Y:XK} {D:Ì} {acT:aj}
def S4 (G:ds.length<1000) (k:N [C tg,C (.str D),C A,C (.loc (x.length+9))] (Sw se dn pd n0 nl (dv (ds++[x.length])) ps pm data out (x++[.list []]))) :
 sq AR (sq lY s0) acT [C tg,C (.str D),C A,U] (Sw se dn pd n0 nl (dv ds) ps pm data out x) N RR Y:=by
 rw[JR]at k
 show sq lY s0 acT [C tg,C (.str D),C A,C (.loc (x.length+9))] (Sw se dn pd n0 nl (dv ds) ps pm data out (x++[.list []])) N RR Y
 refine az (S:=lY) (B:=s0) ?_
 refine bS (l:=4) (xs:=dv ds) rfl ?_ k
 unfold dv locs
 rw[ŕ,length_map]
 exact ô (ĳ G) Zz
def S6 (G:(["t","{v}t"]:ZC).contains D=Í) {a:AV} (k:K .none (Sw se dn (.tup [.str D,A,a]) n0 nl (dv ds) ps pm data out x)) :
 tv acT [C tg,C (.str D),C A,C a] (Sw se dn pd n0 nl (dv ds) ps pm data out x) N (λv J Z=>K v Z) Y:=by
 refine az (S:=tF) (B:=tB) ?_
 exact dD G k
def S5 (G:(["t","{v}t"]:ZC).contains D=Ï) {a:AV} (k:Dn (n+1) 126 [tg,.str D,A,a] [] (Sw se dn pd n0 nl (dv ds) ps pm data out x) (λJ Z=>N [C tg,C (.str D),C A,C a] Z) λm Z=>Y m [C tg,C (.str D),C A,C a] Z) :
 tv (Dn (n+1)) [C tg,C (.str D),C A,C a] (Sw se dn pd n0 nl (dv ds) ps pm data out x) N RR Y:=by
 refine az (S:=tF) (B:=tB) ?_
 exact db G k
end
def RC (n:Ó) (a0 B a2 D:AV) (Z:aa) (K:VK) (X:Ì->aa->Prop):Dn (n+1) 126 [a0,B,a2,D] [] Z K X=Dn (n+1) 126 [a0,B,a2,D,.none] [] Z K X:=by
 simp only[RB,dd];kernel_rfl
def vk (v:Ì):Ì:=(hvP v).elim "" λq=>fQ q.1 v
def de (qt:Æ Ì) (at':ZE):Æ Ì:=(g8 qt at').find? (badT')
def UQ:∀q:Æ Ì,q.toList.length<=1
 | none=>ï 1
 | some _=>Ë 1
section
variable {n:Ó} {at':ZE} {w:Ì} {qt:Æ Ì} {p S nd:ZC} {R:ZF} {L:È ZE} {x:aa} {ds:È Ó} {d e m:Ó} {out data:ZB} {pd:AV} {se dn:ì} {K:VK} {X:Ì->aa->Prop}
def Mg (H:Nd nd) (h:Sc w at' qt) (Lu:ZC):(((pb (fP nd (cT w qt at')) at' (js (fP nd (cT w qt at')) Lu (cT w qt at'))).map atT).map (·.length)).sum<=6 * 800:=by
 refine Â (rf (B:=800) _ λy I=>?_) (θ 800 ?_)
 ·obtain⟨z,hz,rfl⟩:=ě.mp I
  exact(IF H h z hz).wr.2
 ·refine h _ λJ D J=>D _ λG J J=>?_
  delta pb js o8 uB
  simp only[length_map,Ð,length_map,(show(aW at').length=at'.length from(ň ..).length_eq)]
  refine å (b:=4) (d:=2) (Â (ó (show(aW _).length=_ from(ň ..).length_eq)) ?_) G
  rw[length_map,length_map]
  exact Â (ķ ..) (ķ ..)
def Qb (I:Nd nd) (h:Sc w at' qt) (D:p.Perm (fV at')) (O:RI (nL) (ah [w] (at'.map (·.1))) (NT qt at' p) S R):Tx hvP nd L [] at' w (NT qt at' p) S:=by
 have sq:=Q8 h D O
 have Jj:=h
 refine Jj _ λJ G J=>?_
 have À:=Q9 G D O
 have Jj:=G
 refine Jj _ λQ J J=>?_
 have B:(NT qt at' p).length<=3:=by
  rw[Ð]
  refine å (b:=1) (d:=2) (UQ qt) (Â (ķ ..) ?_)
  rw[length_map,D.length_eq]
  refine Â (ķ ..) ?_
  rw[length_map];exact Q
 have Y:Nd (fP nd (cT w qt at')):=Pn I
 have H:=zO (nd:=nd) (L:=L) (λq B=>(by refine sq q B _ λa J J=>?_;exact a)) À
 have acT:=IF (Lu:=L.flatten.map (·.1)) I h
 refine O _ λJ J J V J J=>?_
 refine(.mk (ej (Â V (å (Â (dA _ _) (Ø (Â (ó (length_map ..)) Q) 1)) B))) (λq B=>?_) (λq B=>?_) ?_ ?_)
 ·refine sq q B _ λa b c=>?_
  exact⟨a.key.1,a.key.2,Â b Zz⟩
 ·refine sq q B _ λa b c=>?_
  rw[H]
  obtain⟨E,A⟩:=kK Y (ju ((À _).mp (Ĭ B)) a.key.2) b c
  exact⟨Â E Zz,A.T⟩
 ·show ∀z∈iQ (nL) _ _ _ _ _,Wr z
  rw[H,uv G D]
  exact λz hz=>(acT z hz).wr.1
 ·show((abE atT (iQ (nL) _ _ _ _ _)).map (·.length)).sum<=_
  rw[H,uv G D]
  exact Â (Mg I h _) Zz
end
def Mn:∀v∈xi,badT' v=Í->v = "x:p":=by delta badT';exact(by decide +kernel:∀k<5,∀v∈xi,((hvP v).any λq=>((dh k).find? λz=>decide (z.2=q.1)).isNone)=Í->v = "x:p") k hk
section
variable {n:Ó} {at':ZE} {w v:Ì} {qt:Æ Ì} {p S nd:ZC} {L:È ZE} {x:aa} {ds:È Ó} {d e m:Ó} {out data:ZB} {pd:AV} {se dn:ì} {K:VK} {X:Ì->aa->Prop}
def zx (h:Sc w at' qt) (B:v∈g8 qt at') {q:Ì×Ì} (e:hvP v=C q):badT' v=((aq++jL).find? λz=>decide (z.2=q.1)).isNone:=by
 refine(iR h B).2 q.1 q.2 e _ λJ D J J J J=>?_
 unfold badT'
 simp only[e,pL D];rfl
def Ca (h:Sc w at' qt) (O:v∈g8 qt at') (B:badT' v=Í) (G:qt=C v\/∀x,qt=C x->badT' x=Ï):de qt at'=C v:=by
 cases e:de qt at' with
 | none=>exact absurd B (XQ.mp e v O)
 | some y=>
  rcases G with rfl|G
  ·rw[<-e]
   exact find?_cons_of_pos B
  ·have À:=find?_some e
   have D:∀z,z∈g8 qt at'->badT' z=Í->z = "x:p":=λz hz B=>by
    rcases ý.mp hz with m|m
    ·rw[G z (ZI.mp m)]at B;cases B
    ·obtain⟨V,H,rfl⟩:=ě.mp m
     refine h _ λJ I J=>I _ λJ Q J=>?_
     exact Mn _ (Q V (þ.mp H).1).2 B
   rw[D y (ϲ e) À,D v O B]
def Hu (h:Sc w at' qt) (D:v∈g8 qt at') (B:(hvP v).isSome=Í->(nL v).isSome=Í):badT' v=Ï:=by
 cases e:hvP v with
 | none=>unfold badT';rw[e];rfl
 | some q=>
  rw[zx h D e]
  have B:=B (by rw[e];rfl)
  rw[vX,e]at B
  have B:(ε _ ((aq++jL).find? λz=>decide (z.2=q.1))).isSome=Í:=B
  rw[ZH]at B
  cases h:(aq++jL).find? λz=>decide (z.2=q.1)with
  | none=>rw[h]at B;cases B
  | some _=>rfl
def SP (h:Sc w at' qt) (I:Iv nd x ds d L []) (r:d<x.length) (ho:out.length<9000) (t:e<1000) (Q:m<1000)
 (kk:∀y,de qt at'=U->Kq d x y->Iv (fP nd (cT w qt at')) y ds d L (js (fP nd (cT w qt at')) (L.flatten.map (·.1)) (cT w qt at'))->
  K .none (Sw Í dn pd (aq.map ae) (nv (e+1)) (dv (ds++[d])) (bd (m+1)) (dX (fP nd (cT w qt at'))) data (HN (nL) (fP nd (cT w qt at')) qt (IX (out++[.str ("<"++bn (kU w) (kT w) (fP nd (cT w qt at')))]) (pb (fP nd (cT w qt at')) at' (js (fP nd (cT w qt at')) (L.flatten.map (·.1)) (cT w qt at')))++[.str ">"])) y))
 (G:∀v,de qt at'=C v->∀y,X (vk v) (Sw se dn pd (aq.map ae) (nv e) (dv (ds++[d])) (bd m) (dX nd) data out y)) :
 Dn (n+2) 126 [tg,.str w,bE at',.loc (d+9),we qt] [] (Sw se dn pd (aq.map ae) (nv e) (dv (ds++[d])) (bd m) (dX nd) data out x) K X:=by
 have Jj:=h
 refine Jj _ λhw B Y=>?_
 have Jj:=B
 refine Jj _ λhl V n1=>?_
 have Jj:=I
 refine Jj _ λJ J J J J hn=>?_
 have vo:=Qq B
 have mk:∀{c},c∈fV at'->y8 at' c∈g8 qt at':=λÀ=>by
  obtain⟨z,hz,rfl,e⟩:=nO.mp À
  rw[uC B hz]
  exact í _ (Ĭ (þ.mpr ⟨hz,e⟩))
 refine SQ (hv:=hvP) (val:=y8 at') wD (λz hz=>?_) (ļ hl) vo (λv hv=>?_) I r ?_ ho t Q (λp S R D J H=>Qb hn h D H) (λp S R y D H kq acT=>?_) λv q hv e hf y=>?_
 ·rcases ý.mp hz with m|m
  ·exact(g0 z m).2.1
  ·unfold jL at m
   split at m
   ·nomatch m
   ·exact(uY z m).1
 ·obtain⟨N,l,i⟩:=Y v hv
  obtain⟨O,e⟩:=š.mp i
  refine(tG N).2 O.1 O.2 e _ λsp J J J la lb=>?_
  have l:=Â l (by decide:1000<=5000)
  exact⟨O.1,O.2,e,.mk sp l (Â la l) (Â lb l)⟩
 ·cases e:ak "{http://www.w3.org/XML/1998/namespace}space" (am at')with
  | none=>rfl
  | some v=>
   have:=Ú.mp (gI.trans (show(ak "{http://www.w3.org/XML/1998/namespace}space" (am at')).isSome=Í by rw[e];rfl))
   obtain⟨z,hz,e⟩:=ě.mp this
   obtain⟨y,hy,rfl⟩:=ě.mp hz
   exact absurd (V y hy).1 (by rw[show y.1=_ from e];decide +kernel)
 ·have Jj:=H
  refine Jj _ λJ J J J J g=>?_
  have j:de qt at'=U:=XQ.mpr λv hv=>by
   rw[Hu h hv λi=>g v (uz B D hv i)];exact ß
  rw[zO (λq Y=>(by refine Q8 h D H q Y _ λa J J=>?_;exact a)) (Q9 B D H)]at acT ⊢
  rw[uv B D]
  exact kk y j kq acT
 ·have Q:v∈g8 qt at':=by
   rcases hv with e|⟨⟨c,À,e⟩,_⟩
   ·rw[e];exact ç _ (Ù.mpr rfl)
   ·rw[e];exact mk À
  have G:=G v (Ca h Q (by rw[zx h Q e,hf];rfl) (hv.imp id λE x A=>Hu h (by rw[A];exact ç _ (Ù.mpr rfl)) λJ=>E.2 x A)) y
  unfold vk at G
  rw[e]at G
  exact G
end
def Rk (G:Prop) (nd:ZC) (x:aa) (ds:È Ó) (L:È ZE):Prop:=∀(lv:Lv x ds L) (nodup:ds.Nodup) (lt:∀d∈ds,d<x.length) (pf:∀z∈L.flatten,z.1∈Dm nd/\z.1∈U4/\z.2=df nd z.1) (un:(L.flatten.map (·.1)).Nodup) (hn:Nd nd),G
def Wi:=λnd x ds L=>∀G,Rk G nd x ds L->G
def Wi.mk:Rk (Wi nd x ds L) nd x ds L:=λlv G O pf Q I J H=>H lv G O pf Q I
section
variable {nd D:ZC} {x y:aa} {ds:È Ó} {d:Ó} {L:È ZE} {B:ZE}
def du:(L++[B]).flatten=L.flatten++B:=by rw[Ϯ,acp]
def Wi.iv (h:Wi nd x (ds++[d]) (L++[B])):Iv nd x ds d L B/\d<x.length:=by
 refine h _ λlv V À pf G I=>?_
 rw[du]at pf G
 have H:ds.length=L.length:=by
  have:=Õ xe (show(ds++[d]).map (ag x)=(L++[B]).map _ from lv)
  simp only[length_map,length_map,Ð,Ð]at this
  exact vx this
 have lv:(ds++[d]).map (ag x)=(L++[B]).map _:=lv
 rw[ò,ò]at lv
 obtain⟨O,Q⟩:=append_inj lv (by simp only[length_map,length_map,H])
 refine⟨(.mk O (ŭ Q).1 (λm=>(ō.mp V).2.2 d m d (Ù.mpr rfl) rfl) pf G I),À d (í _ (Ù.mpr rfl))⟩
def Iv.wi (h:Iv nd x ds d L B) (I:(ds++[d]).Nodup) (H:∀j∈ds++[d],j<x.length):Wi nd x (ds++[d]) (L++[B]):=by
 have w:=h.wide
 refine h _ λJ J J pf O G=>?_
 exact(.mk w I H (by rw[du];exact pf) (by rw[du];exact O) G)
def Iv.pop (h:Iv nd x ds d L B) (Q:(ds++[d]).Nodup) (O:∀j∈ds++[d],j<x.length):Wi nd x ds L:=by
 refine h _ λlv J J pf G I=>?_
 rw[ò]at G
 exact(.mk lv (ō.mp Q).1 (λj H=>O j (ç _ H)) (λz hz=>pf z (ç _ hz)) (ō.mp G).1 I)
def Wi.push (h:Wi nd x ds L):Wi nd (x++[.list []]) (ds++[x.length]) (L++[[]]):=by
 refine h _ λlv À H pf V Q=>?_
 have e:ag (x++[aK.list []]) x.length=C []:=by unfold ag;rw[Ĳ]
 refine(.mk ?_ ?_ (λj G=>?_) (by rw[du,Ę];exact pf) (by rw[du,Ę];exact V) Q)
 ·unfold Lv
  rw[ò,ò]
  refine congr (Õ _ ((Ŧ λj G=>?_).trans (show ds.map (ag x)=_ from lv))) (Õ (λo=>[o]) e)
  obtain⟨l,_,e⟩:=HD lv G
  rw[e];exact dz x _ _ _ e
 ·exact ō.mpr ⟨À,ϊ.mpr ⟨Ķ,Χ⟩,λa I b O e=>Ĝ (H a I) (e.trans (Ù.mp O))⟩
 ·rw[Ð]
  exact(ý.mp G).elim (λm=>Ŭ (H j m)) λm=>Ù.mp m▸Ň _
end
abbrev fi:=È (Ì×È Ì)
def abv (P:fi):È Ì:=(P.map (·.2)).flatten
inductive rH:È ZE->fi->Prop
 | nil:rH [] []
 | snoc {L:È ZE} {P:fi} {B:ZE} {q:Ì} {us:ZC} (h:rH L P) (e:∀u,u∈B.map (·.1)↔u∈us/\u∉L.flatten.map (·.1)):rH (L++[B]) (P++[(q,us)])
def rH.abv {L:È ZE} {P:fi} (h:rH L P) (u:Ì):u∈L.flatten.map (·.1)↔u∈abv P:=by
 induction h with
 | nil=>exact Iff.rfl
 | @snoc L P B q us _ e G=>
  unfold Internal.abv at G ⊢
  rw[du,ò,ò,Ϯ,ý,ý,G,e,G]
  rw[show[(q,us)].map (·.2)=[us]from rfl,acp]
  by_cases m:u∈(P.map (·.2)).flatten
  ·exact⟨λJ=>.inl m,λJ=>.inl m⟩
  ·exact⟨λh=>h.imp id (·.1),λh=>h.imp id λk=>⟨k,m⟩⟩
def E1 (nd:ZC) (P:fi):Prop:=∀z∈P,z.1∈T4/\oH nd (kU z.1)/\(kU z.1∈z.2\/(!f.rw&&decide (kU z.1 = ""))=Í)
def Rj (B:Prop) (nd:ZC) (P:fi) (out data:ZB) (dn:ì) (Z:aa):Prop:=∀(x:aa) (ds:È Ó) (L:È ZE) (e:Z=Sw Í dn .none (aq.map ae) (nv P.length) (dv ds) (bd P.length) (dX nd) data out x) (w:Wi nd x ds L) (l:rH L P) (p:E1 nd P),B
def WS:=λnd P out data dn Z=>∀B,Rj B nd P out data dn Z->B
def WS.mk:Rj (WS nd P out data dn Z) nd P out data dn Z:=λx ds L e w l p J B=>B x ds L e w l p
def rH.un {D:È ZE} {P:fi} {q:Ì} {us:ZC} (h:rH D (P++[(q,us)])):∃L B,D=L++[B]/\rH L P/\∀u,u∈B.map (·.1)↔u∈us/\u∉L.flatten.map (·.1):=by
 generalize hP:P++[(q,us)]=P' at h
 cases h with
 | nil=>exact absurd hP (by simp)
 | @snoc L P B q us h e=>
  obtain⟨rfl,G⟩:=abc hP rfl
  obtain⟨rfl,rfl⟩:=ŋ (ŭ G).1
  exact⟨L,B,rfl,h,e⟩
section
variable {n:Ó} {nd:ZC} {P:fi} {out:ZB} {dn:ì} {Z:aa} {q:Ì} {us:ZC} {K:VK} {RR:RK} {Y:XK}
def Wi.ds {x:aa} {ds:È Ó} {L:È ZE} {B:ZE} (h:Wi nd x ds (L++[B])):∃D d,ds=D++[d]:=by
 rcases acO ds with rfl|⟨D,d,e⟩
 ·refine h _ λlv J J J J J=>?_
  have:=Õ xe (show([]:È Ó).map (ag x)=(L++[B]).map _ from lv)
  simp only[length_map,length_map,Ð]at this
  contradiction
 ·exact⟨D,d,by simp only[e,acM]⟩
def RT (W:WS nd (P++[(q,us)]) out [] dn Z) (r:out.length<10000)
 (kk:∀Z,WS nd P (out++[.str (xy (bn (kU q) (kT q) nd))]) [] (decide (((P.length+1:Ó):Į)=1)) Z->K .none Z) :
 lS (Dn (n+1)) [C tg,C (.str q)] Z (λJ Z=>K .none Z) RR Y:=by
 refine W _ λx ds L' e w l p=>?_
 subst e
 obtain⟨L,B,rfl,l,E⟩:=l.un
 obtain⟨ds,d,rfl⟩:=w.ds
 rw[Ð]
 obtain⟨V,ok,acT⟩:=p (q,us) (í _ (Ù.mpr rfl))
 obtain⟨I,_⟩:=w.iv
 refine w _ λJ t i pf J g=>?_
 refine cC (ç K4 V) _ λO Q tc=>?_
 have A:(FW L B (kU q)||(!f.rw&&decide (kU q = "")))=Í:=by
  rcases acT with m|m
  ·have:FW L B (kU q)=Í:=by
    unfold FW
    rw[Ú,ò,ý]
    by_cases z:kU q∈L.flatten.map (·.1)
    ·exact .inl z
    ·exact .inr ((E _).mpr ⟨m,z⟩)
   rw[this];rfl
  ·rw[m,n_]
 have À:nS nd L B (kU q)=B:=Û A
 have D:c9 (kU q) nd=nd:=by
  rcases ok with m|m
  ·exact Ba m
  ·unfold c9
   rw[Ý]
   rw[(H_ f.rw).symm.trans (Õ (!·) (è.mp m).1)]
   exact ß
 have G:nZ nd (kU q) (kT q)=bn (kU q) (kT q) nd:=by unfold nZ bn;rw[D]
 refine JX (e:=P.length) (m:=P.length) wD O.key.1 O.key.2 (Â Q Zz) I (by rw[G];exact Â (kK g ok Q tc).1 Zz) r λy c H=>?_
 rw[À,D]at H
 rw[D,G]
 exact kk _ (.mk y ds L rfl (H.pop t λj N=>ô (i j N) c.1) l (λz hz=>p z (ç _ hz)))
end
def lL (ps:ZC):Prop:=(∀p∈ps,Al p)/\(ps.map (·.length)).sum<=1000/\ps.length<=1000
def cj (ps:ZC):Ì:=stp (û "" ps)
def sf (p:Ó->ì) (l:È Ó):(dC p l).Sublist l:=by
 unfold dC
 have h:=(X8 p (l:=(l.dropWhile p).reverse)).reverse
 rw[rt]at h
 exact h.trans (X8 p)
def Bx (ps:ZC):(aB (cj ps)).Sublist (aB (û "" ps)):=by
 unfold cj stp
 split
 ·rw[ET];exact sf _ _
 ·exact Yu _
def dF (ps:ZC):(û "" ps).length=(ps.map (·.length)).sum:=by
 rw[<-ai,cJ,Y2,ĥ]
 exact Õ List.sum (Ŧ λp J=>ai p)
def AX {ps:ZC} (h:lL ps):Al (û "" ps):=λc B=>by
 rw[cJ]at B
 obtain⟨l,D,B⟩:=J_.mp B
 obtain⟨p,G,rfl⟩:=ě.mp D
 exact h.1 p G c B
def n5 {ps:ZC} (h:lL ps):Al (cj ps)/\(cj ps).length<=1000:=by
 refine⟨λc B=>AX h c ((Bx ps).subset B),?_⟩
 ·rw[<-ai]
  refine Â (Bx ps).length_le ?_
  rw[ai,dF];exact h.2.1
def Al.T {t:Ì} (h:Al t):uE oP t:=λc B=>(show ∀c∈SA,oP.contains c=Ï by decide) c (h c B)
def ml (out:ZB) (due:Ì):Prop:=∃ts:È Ì,out=ts.map .str/\(ts.map aB).flatten=aB due
section
variable {out:ZB} {due t d:Ì}
def ml.add (h:ml out due) (t:Ì):ml (out++[.str t]) (due++t):=by
 obtain⟨ts,rfl,e⟩:=h
 refine⟨ts++[t],by rw[ò];rfl,?_⟩
 simp only[ò,Ϯ,e,aE]
 exact Õ _ (Ę _)
def lN {s t:Ì} (h:aB t=[]):s++t=s:=bF (by rw[aE,h,Ę])
set_option tactic.hygienic true in def ml.more (h:ml out due) (d:Ì):ml (more out d) (due++nN d):=by
 unfold Internal.more
 split
 ·exact h.add _
 ·rename_i q
  have B:aB d=[]:=Ō.mp (by rw[ai];exact aeq.mp λz=>q (ώ.mpr z))
  rw[lN]
  ·exact h
  ·unfold nN
   rw[show aB (ť d "<" "&lt;")=_ from c8 d "&lt;" 60,B];rfl
set_option tactic.hygienic true in def ml.at (h:ml out due) (M:ZE):ml (IX out M) (due++û "" (M.map atT)):=by
 unfold IX
 split
 ·rename_i q
  rw[Ġ.mp q,lN]
  ·exact h
  ·rw[cJ];rfl
 ·exact h.add _
end
def vZ (out:ZB) (d:Ì):(more out d).length<=out.length+1:=by
 unfold more
 split
 ·rw[Ð];exact Ë _
 ·exact ö _
def ur (ps:ZC):aJ (ps.map AV.str)=C ps:=strs_map ps
section
variable {n:Ó} {nd:ZC} {P:fi} {out:ZB} {dn:ì} {Z:aa} {ps:ZC} {K:VK} {X:Ì->aa->Prop}
def R1 (W:WS nd P out (ps.map .str) dn Z) (h:lL ps) (B:out.length<9000) (kk:∀Z,WS nd P (more out (cj ps)) [] dn Z->K .none Z):Dn (n+2) 106 [tg] [] Z K X:=by
 refine W _ λx ds L e w l p=>?_
 subst e
 obtain⟨a,b⟩:=n5 h
 exact Gg (ur ps) (Â h.2.1 Zz) rfl (Â b Zz) (Þ B Zz) a.T (kk _ (.mk x ds L rfl w l p))
end
def iS (us:ZC):È Ì:=(uB us).filter λu=>!(!f.rw&&decide (u = ""))
def Br (d:Ì):Æ Ì:=if(hvP d).isSome=Í then C d else U
def Qu (nd:ZC) (w:Ì) (at' B:ZE):Ì:=(("<"++bn (kU w) (kT w) nd)++û "" ((pb nd at' B).map atT))++">"
def Qy (nd:ZC) (d:Ì) (qt:Æ Ì):Ì:=nN (qt.elim d λv=>(nL v).elim "" λa=>bn (kU a) (kT a) nd)
def xk:∀(xs nd:ZC),∃s,ah nd xs=nd++s:=by
 intro D;induction D with
 | nil=>
  exact @λnd=>⟨[],(Ę _).symm⟩
 | cons a xs B=>
  intro nd
  obtain⟨s,e⟩:=B (aZ a nd)
  by_cases h:nd.contains a=Í
  ·rw[show aZ a nd=nd from Û h]at e
   exact⟨s,(show ah (aZ a nd) xs=_ by rw[show aZ a nd=nd from Û h];exact e)⟩
  ·exact⟨[a]++s,by rw[<-ø,<-show aZ a nd=nd++[a]from Ý h];exact e⟩
section
variable {nd us:ZC} {u t:Ì}
set_option tactic.hygienic true in def Bl (h:oH nd u):oH (fP nd us) u/\bn u t (fP nd us)=bn u t nd:=by
 rcases h with h|h
 ·have key:u∈Dm (fP nd us)/\df (fP nd us) u=df nd u:=by
   unfold Dm df fP;unfold Dm at h
   split<;>rename_i q
   ·rw[Û q]at h
    obtain⟨s,e⟩:=xk (uB us) nd
    rw[e]
    exact⟨ç _ h,by rw[WL,Û h]⟩
   ·rw[Ý q]at h
    exact⟨h,rfl⟩
  exact⟨.inl key.1,by unfold bn;rw[key.2]⟩
 ·exact⟨.inr h,by unfold bn;rw[Û h,Û h]⟩
variable {P:fi} {L:È ZE} {w:Ì}
def E1.keep (h:E1 nd P):E1 (fP nd us) P:=λz hz=>(by obtain⟨a,b,c⟩:=h z hz;exact⟨a,(Bl (t:="") b).1,c⟩)
def E1.push (h:E1 nd P) (G:w∈T4) (D:kU w∈us):E1 (fP nd us) (P++[(w,iS us)]):=λz hz=>by
 rcases ý.mp hz with m|m
 ·exact h.keep z m
 ·rw[Ù.mp m]
  refine cC (ç K4 G) _ λn J J=>?_
  have B:=n.key.2
  refine⟨G,ju D B,?_⟩
  cases q:(!f.rw&&decide (kU w = ""))with
  | true=>exact .inr rfl
  | false=>exact .inl (þ.mpr ⟨þ.mpr ⟨B,Ú.mpr D⟩,by rw[q];rfl⟩)
def rH.push (h:rH L P):rH (L++[js nd (L.flatten.map (·.1)) us]) (P++[(w,iS us)]):=.snoc h λu=>by
 unfold js iS
 rw[Bp,þ,þ]
 unfold I0
 rw[<-Ú (as:=L.flatten.map (·.1))]
 cases (L.flatten.map (·.1)).contains u<;>cases (!f.rw&&decide (u = ""))<;>simp
end
def Ri (D:Prop) (nd:ZC) (P:fi) (w:Ì) (at':ZE) (out data:ZB) (Z:aa):Prop:=∀(x:aa) (ds:È Ó) (d:Ó) (L:È ZE) (e:Z=Sw Í Ï (.tup [.str w,bE at',.loc (d+9)]) (aq.map ae) (nv P.length) (dv (ds++[d])) (bd P.length) (dX nd) data out x) (w:Wi nd x (ds++[d]) (L++[[]])) (l:rH L P) (p:E1 nd P),D
def WP:=λnd P w at' out data Z=>∀D,Ri D nd P w at' out data Z->D
def WP.mk:Ri (WP nd P w at' out data Z) nd P w at' out data Z:=λx ds d L e w l p J D=>D x ds d L e w l p
def dQ (nd:ZC) (w:Ì) (qt:Æ Ì) (at':ZE):È Ì:=fP nd (cT w qt at')
def P1 (P:fi) (w:Ì) (qt:Æ Ì) (at':ZE):fi:=P++[(w,iS (cT w qt at'))]
def oJ (nd:ZC) (P:fi) (w:Ì) (qt:Æ Ì) (at':ZE):Ì:=Qu (dQ nd w qt at') w at' (js (dQ nd w qt at') (abv P) (cT w qt at'))
def XS (out:ZB) (Z:aa):Prop:=ag Z 1=C out/\bh Z=Í
section
variable {n:Ó} {nd:ZC} {P:fi} {w:Ì} {at':ZE} {out data:ZB} {Z:aa} {ps:ZC} {K:VK} {X:Ì->aa->Prop} {d:Ì} {qt:Æ Ì} {x:aa} {ds:È Ó} {B:Ó} {L:È ZE} {pd:AV} {se dn:ì}
def Sc.u (h:Sc w at' qt):kU w∈cT w qt at':=ç _ (ã ..)
def Bm (out:ZB) (M:ZE) (s t:AV):(IX (out++[s]) M++[t]).length<=out.length+3:=by
 unfold IX
 split
 ·rw[Ð,Ð];exact ö _
 ·rw[Ð,Ð,Ð];exact Ë _
def Ly {us:ZC} (l:rH L P):js nd (L.flatten.map (·.1)) us=js nd (abv P) us:=Õ _ (WI λu J=>by
 unfold I0
 rw[show(L.flatten.map (·.1)).contains u=(abv P).contains u by rw[Ψ,Ú,Ú];exact l.abv u])
def WS.go {m:Ó} (h:P.length=m) (w:Wi nd x ds L) (l:rH L P) (p:E1 nd P):WS nd P out data dn (Sw Í dn .none (aq.map ae) (nv m) (dv ds) (bd m) (dX nd) data out x):=by
 subst h
 exact(.mk x ds L rfl w l p)
def Ia (h:Sc w at' qt) (W:Wi nd x (ds++[B]) (L++[[]])) (l:rH L P) (p:E1 nd P) (G:out.length<9000) (hP:P.length<1000)
 (kk:∀Z D,de qt at'=U->WS (dQ nd w qt at') (P1 P w qt at') D [] dn Z->D.length<=out.length+4->
  (∀due,ml out due->ml D ((due++oJ nd P w qt at')++qt.elim ("" : Ì) λJ=>Qy (dQ nd w qt at') d qt))->K .none Z)
 (E:∀v Z,de qt at'=C v->XS out Z->X (vk v) Z) :
 Dn (n+2) 126 [tg,.str w,bE at',.loc (B+9),we qt] [] (Sw se dn .none (aq.map ae) (nv P.length) (dv (ds++[B])) (bd P.length) (dX nd) [] out x) K X:=by
 obtain⟨I,O⟩:=W.iv
 refine W _ λJ acT A J J J=>?_
 have Jj:=h
 refine Jj _ λÀ J J=>?_
 refine SP h I O G hP hP (λy H Y V=>?_) λv e y=>E v _ e ⟨rfl,rfl⟩
 refine kk _ _ H (WS.go (by unfold P1;rw[Ð];rfl) (V.wi acT λj Q=>ô (A j Q) Y.1) l.push (p.push À h.u)) ?_ λdue G=>?_
 ·cases qt with
  | none=>exact Â (Bm ..) (ö _)
  | some v=>
   show(_++[_]).length<=_
   rw[Ð]
   exact á (Bm ..)
 ·unfold oJ Qu dQ
  rw[Ly l]
  have o:=((G.add ("<"++bn (kU w) (kT w) (fP nd (cT w qt at')))).at (pb (fP nd (cT w qt at')) at' (js (fP nd (cT w qt at')) (abv P) (cT w qt at')))).add ">"
  rw[ό,ό,<-ό (_++_)]at o
  cases qt with
  | none=>exact cast (Õ (ml _) (F_ _).symm) o
  | some v=>exact o.add _
set_option tactic.hygienic true in def Sc.qtO (h:Sc w at' U) (D:Al d) (l:d.length<=1000):Sc w at' (Br d):=by
 refine h _ λa b J=>?_
 refine(.mk a b (λx B=>?_))
 unfold Br at B
 split at B<;>rename_i q
 ·obtain rfl:=Ä B
  exact⟨D,l,q⟩
 ·contradiction
def UA (W:WP nd P w at' out (ps.map .str) Z) (h:Sc w at' U) (A:lL ps) (Y:cj ps=d) (E:out.length<8000) (hP:P.length<1000)
 (kk:∀Z B,de (Br d) at'=U->WS (dQ nd w (Br d) at') (P1 P w (Br d) at') B [] Ï Z->B.length<=out.length+5->
  (∀due,ml out due->ml B ((due++oJ nd P w (Br d) at')++Qy (dQ nd w (Br d) at') d (Br d)))->K .none Z)
 (I:∀v Z,de (Br d) at'=C v->XS out Z->X (vk v) Z):Dn (n+3) 106 [tg] [] Z K X:=by
 refine W _ λx ds d' L e V l p=>?_
 subst e
 have r:=n5 A
 rw[Y]at r
 obtain⟨O,len⟩:=r
 have hz:=Â A.2.1 (by decide:1000<=5000)
 have H:=h.qtO O len
 have lk:=(tG O).1
 have D:out.length<9000:=Þ E Zz
 cases e:(hvP d).isSome with
 | true=>
  have Q:Br d=C d:=Û e
  rw[Q]at H kk I
  refine J2 (ur ps) hz Y ?_ (lk.trans e) (Ia (d:=d) H V l p D hP (λZ B À ws G o=>kk Z B À ws (ļ G) o) I)
  refine ώ.mpr λz=>?_
  rw[show d = "" from bF (Ō.mp ((ai d).trans z))]at e
  exact absurd e (by decide +kernel)
 | false=>
  have Q:Br d=U:=Ý (by rw[e];exact ß)
  rw[Q]at H kk I
  refine J0 (ur ps) hz Y (by simp only[lk,e,b_]) (Ia (d:=d) H V l p D hP (λZ B À ws G o=>?_) I)
  refine ws _ λy ds L e acT l p=>?_
  subst e
  refine Uz O.T (Â len Zz) (É G (Þ (Nat.add_lt_add_right E 4) Zz)) λvs=>kk _ _ À (.mk y ds L rfl acT l p) (Â (vZ ..) (á G)) λdue h=>?_
  have o:=(o due h).more d
  exact cast (Õ (λs=>ml (more B d) (s++nN d)) (F_ (due++oJ nd P w U at'))) o
end
structure aX where
 k:Ì
 w:Ì
 a:È (Ì×Ì)
 p:È Ì
def Ey (c:aX) (d:Ì):Æ Ì:=if g7 c.w=Í then Br d else U
noncomputable def bY:È aX->È Ì->fi->Ì->Ì×Æ Ì
 | [],_,_,due=>(due,U)
 | c::B,nd,P,due=>if c.k = "start" then
  (de (Ey c (cj c.p)) c.a).elim (bY B (dQ nd c.w (Ey c (cj c.p)) c.a) (P1 P c.w (Ey c (cj c.p)) c.a)
   ((due++oJ nd P c.w (Ey c (cj c.p)) c.a)++Qy (dQ nd c.w (Ey c (cj c.p)) c.a) (cj c.p) (Ey c (cj c.p)))) λv=>(due,C (vk v))
  else if c.k = "end" then bY B nd P.dropLast ((due++xy (bn (kU c.w) (kT c.w) nd))++nN (cj c.p))
  else bY B nd P ((due++Sq c.w)++nN (cj c.p))
section
variable {t:ZE} {w v due d:Ì} {a:ZE} {p:ZC} {B:È aX} {nd:ZC} {P:fi} {qt:Æ Ì}
def yg (G:cj p=d) (H:Ey ⟨"start",w,a,p⟩ d=qt) (D:de qt a=U):bY (⟨"start",w,a,p⟩::B) nd P due=bY B (dQ nd w qt a) (P1 P w qt a) ((due++oJ nd P w qt a)++Qy (dQ nd w qt a) d qt):=by
 subst G H
 exact(Û rfl).trans (by simp only[D];rfl)
def yf (G:cj p=d) (H:Ey ⟨"start",w,a,p⟩ d=qt) (D:de qt a=C v):bY (⟨"start",w,a,p⟩::B) nd P due=(due,C (vk v)):=by
 subst G H
 exact(Û rfl).trans (by simp only[D];rfl)
def Hq:bY (⟨"end",w,a,p⟩::B) nd P due=bY B nd P.dropLast ((due++xy (bn (kU w) (kT w) nd))++nN (cj p)):=(Ý (show("end" : Ì)≠"start" by decide)).trans (Û rfl)
def O5:bY (⟨"pi",w,a,p⟩::B) nd P due=bY B nd P ((due++Sq w)++nN (cj p)):=(Ý (show("pi" : Ì)≠"start" by decide)).trans (Ý (show("pi" : Ì)≠"end" by decide))
end
inductive TL (i:Ó) (pt:ZC) (R:È aX->Ì×Æ Ì) (Z:aa):Prop
 | idle (nd:ZC) (P:fi) (due:Ì) (ps:ZC) (out:ZB) (dn:ì) (W:WS nd P out (ps.map .str) dn Z) (hp:lL ps) (o:ml out due) (hR:∀B,R B=bY B nd P (due++nN (cj ps))) (ho:out.length<=9 * i) (hP:P.length<=i) (pe:P.map (·.1)=pt) (hd:pt≠[]->dn=Ï) (hz:pt=[]->ps=[])
 | wait (nd:ZC) (P:fi) (due:Ì) (ps:ZC) (out:ZB) (w:Ì) (at':ZE) (W:WP nd P w at' out (ps.map .str) Z) (ht:g7 w=Í) (h:Sc w at' U) (hp:lL ps) (hn:ps≠[]) (o:ml out due) (hR:∀B,R B=bY (⟨"start",w,at',ps⟩::B) nd P due) (ho:out.length<=9 * i) (hP:P.length+1<=i) (pe:P.map (·.1)++[w]=pt)
def QI (D:Prop) (i:Ó) (pt:ZC) (R:È aX->Ì×Æ Ì) (Z:aa):Prop:=∀(nd:ZC) (P:fi) (due:Ì) (out:ZB) (dn:ì) (W:WS nd P out [] dn Z) (o:ml out due) (hR:∀B,R B=bY B nd P due) (ho:out.length<=9 * i+5) (hP:P.length<=i) (pe:P.map (·.1)=pt) (hd:pt≠[]->dn=Ï),D
def FS:=λi pt R Z=>∀D,QI D i pt R Z->D
def FS.mk:QI (FS i pt R Z) i pt R Z:=λnd P due out dn W o G I hP L H J D=>D nd P due out dn W o G I hP L H
def Ro (D:Prop) (R:È aX->Ì×Æ Ì) (t:Ì) (Z:aa):Prop:=∀(due:Ì) (out:ZB) (s:XS out Z) (o:ml out due) (hR:∀B,R B=(due,C t)),D
def XE:=λR t Z=>∀D,Ro D R t Z->D
def XE.mk:Ro (XE R t Z) R t Z:=λdue out s o G J D=>D due out s o G
section
variable {n i:Ó} {pt:ZC} {R:È aX->Ì×Æ Ì} {Z:aa} {vs:Vs} {N:NK} {RR:RK} {Y:XK}
def Bw (f:Fl):aB (nN (cj []))=[]:=by
 unfold cj stp
 split<;>decide +kernel
def Gf (V:i<800) (T:TL i pt R Z) (kk:∀Z,FS i pt R Z->N (C tg::vs) Z) (q:∀t Z,XE R t Z->Y t (C tg::vs) Z) :
 sI (tV (eA "_data" (eN 0))) (sq (sE (eM "_flush" (eN 0) l0)) s0) s0 (Dn (n+3)) (C tg::vs) Z N RR Y:=by
 cases T with
 | idle nd P due ps out dn W E o G H hP O acT hz=>
  have D:out.length<9000:=É (Â H (Ą 9 (ð V))) Zz
  cases ps with
  | nil=>
   rw[show ∀s,s++nN (cj [])=s from λs=>lN (Bw f)]at G
   have fs:=kk _ (.mk nd P due out dn W o G (Nat.le_add_right_of_le H) hP O acT)
   refine W _ λx ds L e J J J=>?_
   subst e
   exact fs
  | cons p ps=>
   have Q:Dn (n+3) 106 [tg] [] Z (λJ Z=>N (C tg::vs) Z) λm Z=>Y m (C tg::vs) Z:=R1 W E D λZ W=>kk Z (.mk nd P _ _ dn W (o.more _) G (Â (vZ ..) (å H Zz)) hP O acT)
   refine W _ λx ds L e J J J=>?_
   subst e
   exact Q
 | wait nd P due ps out w at' W l h E j o G H hP O=>
  have D:out.length<8000:=É (Â H (Ą 9 (ð V))) Zz
  have A:Ey ⟨"start",w,at',ps⟩ (cj ps)=Br (cj ps):=Û l
  have Q:Dn (n+3) 106 [tg] [] Z (λJ Z=>N (C tg::vs) Z) λm Z=>Y m (C tg::vs) Z:=UA W h E rfl D (É (XF hP) (Þ V Zz)) (λZ I À ws g y=>kk Z (.mk _ _ _ I Ï ws (y due o) (λB=>(G B).trans (yg rfl A À)) (Â g (Ò H 5)) ?_ ?_ (λJ=>rfl))) λv Z À xs=>q _ Z (.mk due out xs o (λB=>(G B).trans (yf rfl A À)))
  ·refine W _ λx ds d L e J J J=>?_
   subst e
   cases ps with
   | nil=>exact absurd rfl j
   | cons p ps=>exact Q
  ·unfold P1;rw[Ð];exact hP
  ·unfold P1;rw[ò];exact O
end
inductive TB (i:Ó) (pt:ZC) (b:ì) (R:È Ì->È aX->Ì×Æ Ì) (Z:aa):Prop
 | idle (nd:ZC) (P:fi) (due:Ì) (out:ZB) (dn:ì) (W:WS nd P out [] dn Z) (o:ml out due) (hR:∀ps cs,R ps cs=bY cs nd P (due++nN (cj ps))) (ho:out.length<=9 * i) (hP:P.length<=i) (pe:P.map (·.1)=pt) (hd:pt≠[]->dn=Ï)
 | wait (nd:ZC) (P:fi) (due:Ì) (out:ZB) (w:Ì) (at':ZE) (W:WP nd P w at' out [] Z) (ht:g7 w=Í) (h:Sc w at' U) (hb:b=Í) (o:ml out due) (hR:∀ps cs,R ps cs=bY (⟨"start",w,at',ps⟩::cs) nd P due) (ho:out.length<=9 * i) (hP:P.length+1<=i) (pe:P.map (·.1)++[w]=pt)
def Rd (B:Prop) (Z:aa):Prop:=∀(out data dl nl ps n0:ZB) (pm:ZF) (pd:AV) (se dn:ì) (x:aa) (e:Z=Sw se dn pd n0 nl dl ps pm data out x),B
def Sx:=λZ=>∀B,Rd B Z->B
def Sx.mk:Rd (Sx Z) Z:=λout data dl nl ps n0 pm pd se dn x e J B=>B out data dl nl ps n0 pm pd se dn x e
section
variable {n i:Ó} {pt:ZC} {R:È aX->Ì×Æ Ì} {Z:aa} {vs:Vs} {N:NK} {RR:RK} {Y:XK} {acT:aj} {K:VK} {X:Ì->aa->Prop}
def TL.sx (h:TL i pt R Z):Sx Z:=by
 cases h with
 | idle nd P due ps out dn W=>exact W _ λJ J J e J J J=>(.mk _ _ _ _ _ _ _ _ _ _ _ e)
 | wait nd P due ps out w at' W=>exact W _ λJ J J J e J J J=>(.mk _ _ _ _ _ _ _ _ _ _ _ e)
def ig {A:Ps} (T:Sx Z) (h:N (C tg::vs) Z):sI (tV (eA "_ignored_depth" (eN 0))) A s0 acT (C tg::vs) Z N RR Y:=by
 refine T _ λJ J J J J J J J J J J e=>?_
 subst e
 exact h
def RS {q:Ì} (À:i<800) (T:TL i (pt++[q]) R Z) (kk:∀Z,TB (i+1) pt Ï (λps Q=>R (⟨"end",q,[],ps⟩::Q)) Z->K .none Z) (l:∀t Z,XE R t Z->X t Z):Dn (n+4) 133 [tg,.str q] [] Z K X:=by
 simp only[T7]
 refine az (S:=zZ) (B:=zU) (ig T.sx ?_)
 refine az (S:=z0) (B:=lS) (Gf À T (λZ F=>?_) l)
 refine F _ λnd H due out dn W o g E hP G hd=>?_
 have V:H≠[]:=λe=>by rw[e]at G;exact absurd G.symm (by simp)
 have I:=(ϒ V).symm
 generalize H.dropLast=P at I
 generalize H.getLast V=z at I
 obtain⟨y,us⟩:=z
 subst I
 rw[ò]at G
 obtain⟨D,A⟩:=abc G rfl
 obtain rfl:y=q:=(ŭ A).1
 have O:out.length<10000:=É (Â E (Ò (Ą 9 (ð À)) 5)) Zz
 rw[Ð]at hP
 refine RT W O λZ W=>kk Z (.idle nd P _ _ _ W (o.add _) (λps Q=>?_) ?_ (ļ (XF hP)) D λL=>ü λq=>?_)
 ·simp only[g,Hq,YL]
 ·rw[Ð]
  exact Â (á E) (Ø (by decide:6<=9) (9 * i))
 ·have j:P.length+1=1:=ZY q
  rw[Ō.mp (vx j)]at D
  exact L D.symm
variable {w due:Ì} {at':ZE} {nd:ZC} {P:fi} {out:ZB} {x:aa} {ds:È Ó} {L:È ZE} {se:ì}
def VE {A:Ps} {acT:aj} {B D G:Æ AV} (T:Sx Z) (h:N [C tg,B,D,G] Z):sI (tc (tC .IsNot (eA "_exclude_tags" (eN 0)) (eL .none)) (tc (to (tV (eA "_ignored_depth" (eN 0))) (to (tC .In (eN 1) (eA "_exclude_tags" (eN 0))) t0)) t1)) A s0 acT [C tg,B,D,G] Z N RR Y:=by
 refine T _ λJ J J J J J J J J J J e=>?_
 subst e
 exact h
def rH.len (l:rH L P):L.length=P.length:=by
 induction l with
 | nil=>rfl
 | snoc _ _ B=>simp only[Ð,Ð,B];rfl
def BG (acT:i<800) (h:Sc w at' U) (W:Wi nd x ds L) (l:rH L P) (p:E1 nd P) (o:ml out due) (H:∀B,R B=bY B nd P due) (Q:out.length<=9 * i+5) (hP:P.length<=i) (y:P.map (·.1)=pt) (E:g7 w=Í->se=Í)
 (kk:∀Z,TB (i+1) (pt++[w]) (g7 w) (λps B=>R (⟨"start",w,at',ps⟩::B)) Z->K .none Z) (j:∀t Z,(∀ps,XE (λB=>R (⟨"start",w,at',ps⟩::B)) t Z)->X t Z) :
 lX (Dn (n+3)) [C tg,C (.str w),C (bE at'),U] (Sw se Ï .none (aq.map ae) (nv P.length) (dv ds) (bd P.length) (dX nd) [] out x) (λJ Z=>K .none Z) (λv J Z=>K v Z) λm J Z=>X m Z:=by
 have D:P.length<1000:=É hP (Þ acT Zz)
 have À:out.length<9000:=É (Â Q (Ò (Ą 9 (ð acT)) 5)) Zz
 have pl:(P.map (·.1)++[w])=pt++[w]:=by rw[y]
 have O:ds.length<1000:=by
  refine W _ λlv J J J J J=>?_
  have:=Õ xe (show ds.map (ag x)=L.map _ from lv)
  rw[length_map,length_map]at this
  rw[this,l.len];exact D
 refine S4 O ?_
 have V:out.length<=9 * (i+1):=Â Q (Ø (by decide:5<=9) (9 * i))
 cases ht:g7 w with
 | true=>
  rw[ht]at kk
  obtain rfl:=E ht
  exact S6 ht (kk _ (.wait nd P due out w at' (.mk _ _ _ _ rfl W.push l p) ht h rfl o (λps B=>H _) V (á hP) pl))
 | false=>
  rw[ht]at kk
  have A:∀ps d,Ey ⟨"start",w,at',ps⟩ d=U:=λps d=>Ý (by rw[show g7 _=_ from ht];exact ß)
  refine S5 (n:=n+2) ht ?_
  rw[RC]
  refine Ia (qt:=U) (d:="") h W.push l p À D (λZ G I ws g q=>kk Z (.idle _ _ _ G Ï ws (q due o) (λps B=>(H _).trans ((yg rfl (A ps _) I).trans ?_)) (Â g (Ò Q 4)) ?_ ?_ λJ=>rfl)) λv Z I xs=>j _ Z λps=>(.mk due out xs o (λB=>(H _).trans (yf rfl (A ps _) I)))
  ·exact Õ (λs=>bY _ _ _ (s++_)) (F_ _).symm
  ·unfold P1;rw[Ð];exact á hP
  ·unfold P1;rw[ò];exact pl
variable {b:ì} {D:È Ì->È aX->Ì×Æ Ì}
def S7 (O:i<800) (h:Sc w at' U) (I:pt≠[]) (T:TL i pt R Z)
 (kk:∀Z,TB (i+1) (pt++[w]) (g7 w) (λps G=>R (⟨"start",w,at',ps⟩::G)) Z->K .none Z) (Q:∀t Z,(∀ps,XE (λG=>R (⟨"start",w,at',ps⟩::G)) t Z)->X t Z):Dn (n+4) 120 [tg,.str w,bE at'] [] Z K X:=by
 simp only[RD]
 refine az (S:=tD) (B:=tu) (VE T.sx ?_)
 refine az (S:=tE) (B:=lX) (Gf O T (λZ F=>?_) λt Z acT=>Q t Z λps=>?_)
 ·refine F _ λnd P due out dn W o H V hP E À=>?_
  obtain rfl:=À I
  refine W _ λx ds L e A l p=>?_
  subst e
  exact BG O h A l p o H V hP E (λJ=>rfl) kk Q
 ·refine acT _ λdue out s o H=>?_
  exact(.mk due out s o (λG=>H _))
def Ir (h:Sc w at' U) (H:g7 w=Ï) {x:aa} (I:∀G,R G=bY G [] [] "")
 (kk:∀Z,TB 1 [w] Ï (λps G=>R (⟨"start",w,at',ps⟩::G)) Z->K .none Z) (O:∀t Z,(∀ps,XE (λG=>R (⟨"start",w,at',ps⟩::G)) t Z)->X t Z) :
 Dn (n+4) 120 [tg,.str w,bE at'] [] (Sw Ï Ï .none (aq.map ae) (nv 0) (dv []) (bd 0) [] [] [] x) K X:=by
 simp only[RD]
 refine az (S:=tD) (B:=tu) (VE (.mk _ _ _ _ _ _ _ _ _ _ _ rfl) ?_)
 refine az (S:=tE) (B:=lX) ?_
 refine BG (i:=0) (pt:=[]) (L:=[]) (P:=[]) (out:=[]) (nd:=[]) (ds:=[]) (se:=Ï) Zz h (.mk rfl Χ (λJ h=>nomatch h) (λJ h=>nomatch h) Χ ⟨Χ,(λJ h=>nomatch h)⟩) .nil (λJ h=>nomatch h) ⟨[],rfl,rfl⟩ I (ï _) (ï _) rfl (λq=>by rw[H]at q;cases q) (λZ T=>kk Z ?_) O
 rw[H]at T
 exact T
def Sr {H:Ì} (j:H.length<=100) (A:i<800) (O:pt≠[]) (T:TL i pt R Z) (kk:∀Z,TB (i+1) pt Ï (λps V=>R (⟨"pi",H,[],ps⟩::V)) Z->K .none Z) (q:∀t Z,XE R t Z->X t Z):Dn (n+4) 147 [tg,.str H,.none] [] Z K X:=by
 simp only[Ue]
 refine az (S:=AD) (B:=AB) (ig T.sx ?_)
 have G:=Gf (n:=n) (N:=λvs Z=>lV (Dn (n+3)) vs Z (λJ Z=>K .none Z) (λv J Z=>K v Z) λm J Z=>X m Z) (vs:=[C (.str H),C .none]) (RR:=λv J Z=>K v Z) (Y:=λm J Z=>X m Z) A T (λZ F=>?_) λt Z z=>q t Z z
 ·refine az (S:=AE) (B:=lV) ?_
  cases T with
  | idle nd P due ps out dn W g o E Q hP acT I hz=>
   obtain rfl:=I O
   refine W _ λJ J J e J J J=>?_
   subst e
   cases ps with
   | nil=>exact G
   | cons p ps=>exact G
  | wait nd P due ps out w at' W ht h g hn=>
   refine W _ λJ J J J e J J J=>?_
   subst e
   cases ps with
   | nil=>exact G
   | cons p ps=>exact G
 ·refine F _ λnd P due out dn W o E Q hP acT I=>?_
  refine W _ λx ds L e y l p=>?_
  subst e
  have À:out.length<10000:=É (Â Q (Ò (Ą 9 (ð A)) 5)) Zz
  refine LL j À (kk _ (.idle nd P _ _ dn (.mk x ds L rfl y l p) (o.add _) (λps V=>(E _).trans O5) ?_ (ļ hP) acT I))
  rw[Ð]
  exact Â (á Q) (Ø (by decide:6<=9) (9 * i))
end
def dB (c:aX):AV:=.fl [.str c.k,.str c.w,bE c.a,.fl (c.p.map .str)]
def gy:AV:=.fl (aq.map λz=>ae (z.2,z.1))
def cQ:AV:=.fd (aq.map (·.2)) (aq.map λz=>.str z.1)
def VL (Q I O D À L V E G H:Æ AV) (B:È aX):Vs:=
 [U,U,C (.bool f.rw),C (.bool f.st),U,C (gy),C (cQ),C (.fl [.str "t",.str "{v}t"]),C (.fl [.str "r",.str "{u}r"]),U,U,C (.fl (B.map dB)),U,U,U,U,D,U,V,E,Q,G,H,I,O,À,L,U,U,U,U,U,U,U,U,U,U,U,U,U,U,U,U]
inductive wV:È Ì->È aX->Prop
 | nil:wV [] []
 | st (w:Ì) (at':ZE) (ps:ZC) (B:È aX) (pt:ZC) (hne:pt≠[]) (h:Sc w at' U) (hp:lL ps) (hn:g7 w=Í->ps≠[]) (t:wV (pt++[w]) B):wV pt (⟨"start",w,at',ps⟩::B)
 | en (q:Ì) (ps:ZC) (B:È aX) (pt:ZC) (hp:lL ps) (hz:pt=[]->ps=[]) (t:wV pt B):wV (pt++[q]) (⟨"end",q,[],ps⟩::B)
 | pi (ps:ZC) (B:È aX) (pt:ZC) (hne:pt≠[]) (hp:lL ps) (t:wV pt B):wV pt (⟨"pi","i",[],ps⟩::B)
section
variable {n i:Ó} {pt:ZC} {Z:aa} {N:NK} {RR:RK} {Y:XK} {acT:aj} {b:ì} {A:È Ì->È aX->Ì×Æ Ì} {B:È aX} {V E D G H I O À:Æ AV}
def QG (L:Prop) (Q:È AV->aa->Prop) (data:ZB) (Z:aa):Prop:=∀(out dl nl ps n0:ZB) (pm:ZF) (pd:AV) (se dn:ì) (x:aa) (e:Z=Sw se dn pd n0 nl dl ps pm data out x) (h:∀data,Q data (Sw se dn pd n0 nl dl ps pm data out x)),L
def Da:=λQ data Z=>∀L,QG L Q data Z->L
def Da.mk:QG (Da Q data Z) Q data Z:=λout dl nl ps n0 pm pd se dn x e h J L=>L out dl nl ps n0 pm pd se dn x e h
def RG {nd:ZC} {P:fi} {out data:ZB} {dn:ì} (W:WS nd P out data dn Z):Da (λd Z=>WS nd P out d dn Z) data Z:=by
 refine W _ λx ds L e w l p=>?_
 exact(.mk _ _ _ _ _ _ _ _ _ _ e (λd=>(.mk x ds L rfl w l p)))
def RF {nd:ZC} {P:fi} {w:Ì} {at':ZE} {out data:ZB} (W:WP nd P w at' out data Z):Da (λd Z=>WP nd P w at' out d Z) data Z:=by
 refine W _ λx ds d L e w l p=>?_
 exact(.mk _ _ _ _ _ _ _ _ _ _ e (λd'=>(.mk x ds d L rfl w l p)))
def HS {src:aa->Prop} (j:∀Z,src Z) {out dl nl ps n0:ZB} {pm:ZF} {pd:AV} {se dn:ì} {x:aa}:∀(Q:ZC) (data:ZB) (L:Æ AV),data.length+Q.length<100000->
 (∀L,N (VL (C tg) I O D À L V E G H B) (Sw se dn pd n0 nl dl ps pm (data++Q.map .str) out x))->
 aY src (λx vs Z N=>(aN 26) (Dn (n+1)) x vs Z (λvs Z=>qc (Dn (n+1)) vs Z N RR Y) Y) (Q.map .str) (VL (C tg) I O D À L V E G H B) (Sw se dn pd n0 nl dl ps pm data out x) N:=by
 intro y;induction y with
 | nil=>
  exact @λdata L J h=>bx (j _) (by have h:=h L;rw[ow,Ę]at h;exact h)
 | cons q Q l=>
  exact @λdata L g h=>⟨j _,by
   refine RE (É (ë _ _) (Þ g Zz)) ?_
   refine l (data++[.str q]) _ (by simp only[Ð,ŷ,Ď,ı 1];exact g) λL=>?_
   have h:=h L
   rw[Ī]at h
   rw[ø]
   exact h⟩
end
section
variable {n i:Ó} {pt:ZC} {Z:aa} {N:NK} {RR:RK} {Y:XK} {b:ì} {acT:È Ì->È aX->Ì×Æ Ì} {R:È aX->Ì×Æ Ì} {L:È aX} {O À V H I E A g G:Æ AV} {ps:ZC}
def zH {at':ZE} (h:at'.length<=15):fq .dict [bE at'] Z=C (bE at',Z):=by
 have e:dictOf (bE at') Z=C (am at'):=by
  show cH (aC Z (bE at')) _ _=_
  rw[fZ]
  exact Û (by unfold am;rw[length_map];exact h)
 show(dictOf (bE at') Z).map _=_
 rw[e]
 unfold am bE
 show C (AV.fd ((at'.map _).map _) ((at'.map _).map _),Z)=_
 rw[ĥ,ĥ];rfl
def ud (T:TB i pt b acT Z) (l:lL ps) (d:b=Í->ps≠[]) (hz:pt=[]->ps=[]) (kk:∀G Z,TL i pt (acT ps) Z->N (VL (C tg) E A V (C (.fl (ps.map .str))) G O À H I L) Z) :
 bK (Dn (n+1)) (VL (C tg) E A V (C (.fl (ps.map .str))) G O À H I L) Z N RR Y:=by
 have z:∀Q,Da Q [] Z->(∀Z,Q (ps.map .str) Z->TL i pt (acT ps) Z)->bK (Dn (n+1)) (VL (C tg) E A V (C (.fl (ps.map .str))) G O À H I L) Z N RR Y:=λQ D t=>by
  refine D _ λJ J J J J J J J J J e q=>?_
  subst e
  refine bB λsrc m=>?_
  exact HS m ps [] G (by simp only[ω,ė];exact É l.2.2 Zz) λG=>kk G _ (t _ (q (ps.map .str)))
 cases T with
 | idle nd P due out dn W o B j hP y c=>exact z _ (RG W) λZ W=>.idle nd P due ps out dn W l o (B ps) j hP y c hz
 | wait nd P due out w at' W ht h r o B j hP y=>exact z _ (RF W) λZ W=>.wait nd P due ps out w at' W ht h l (d r) o (B ps) j hP y
def Mk {w:Ì} {at':ZE} (l:i<800) (h:Sc w at' U) (z:lL ps) (y:g7 w=Í->ps≠[]) (D:pt≠[]) (T:TL i pt R Z)
 (kk:∀G Z,TL (i+1) (pt++[w]) (λL=>R (⟨"start",w,at',ps⟩::L)) Z->N (VL (C tg) (C (.str "start")) (C (.str w)) (C (bE at')) (C (.fl (ps.map .str))) G O À H I L) Z)
 (r:∀t vs Z,XE (λL=>R (⟨"start",w,at',ps⟩::L)) t Z->Y t (VL (C tg) (C (.str "start")) (C (.str w)) (C (bE at')) (C (.fl (ps.map .str))) vs O À H I L) Z) :
 dw (Dn (n+4)) (VL (C tg) (C (.str "start")) (C (.str w)) (C (bE at')) (C (.fl (ps.map .str))) G O À H I L) Z N RR Y:=by
 have Jj:=h
 refine Jj _ λJ Q J=>Q _ λq J J=>?_
 have j:Dn (n+4) 120 [tg,.str w,bE at'] [] Z (λJ Z=>bK (Dn (n+4)) (VL (C tg) (C (.str "start")) (C (.str w)) (C (bE at')) (C (.fl (ps.map .str))) G O À H I L) Z N RR Y) λm Z=>Y m (VL (C tg) (C (.str "start")) (C (.str w)) (C (bE at')) (C (.fl (ps.map .str))) G O À H I L) Z:=
  S7 l h D T (λZ T=>ud (n:=n+3) T z y (λe=>absurd e (by simp)) kk) λt Z c=>r t G Z (c ps)
 refine T.sx _ λJ J J J J J J J J J J e=>?_
 subst e
 refine az (S:=(sI (tC .Eq (eN 23) (eL (.str "start"))) eE eG)) (B:=bK) ?_
 exact ay (zH (Â q Zz)) j
end
section
variable {n i:Ó} {pt:ZC} {Z:aa} {N:NK} {RR:RK} {Y:XK} {R:È aX->Ì×Æ Ì} {G:È aX} {V E L H I O Q À D:Æ AV} {ps:ZC}
def Mi {q:Ì} (acT:i<800) (g:lL ps) (hz:pt=[]->ps=[]) (T:TL i (pt++[q]) R Z)
 (kk:∀D Z,TL (i+1) pt (λG=>R (⟨"end",q,[],ps⟩::G)) Z->N (VL (C tg) (C (.str "end")) (C (.str q)) (C (bE [])) (C (.fl (ps.map .str))) D V E H I G) Z)
 (j:∀t vs Z,XE R t Z->Y t (VL (C tg) (C (.str "end")) (C (.str q)) (C (bE [])) (C (.fl (ps.map .str))) vs V E H I G) Z) :
 dw (Dn (n+4)) (VL (C tg) (C (.str "end")) (C (.str q)) (C (bE [])) (C (.fl (ps.map .str))) D V E H I G) Z N RR Y:=by
 have A:Dn (n+4) 133 [tg,.str q] [] Z (λJ Z=>bK (Dn (n+4)) (VL (C tg) (C (.str "end")) (C (.str q)) (C (bE [])) (C (.fl (ps.map .str))) D V E H I G) Z N RR Y) λm Z=>Y m (VL (C tg) (C (.str "end")) (C (.str q)) (C (bE [])) (C (.fl (ps.map .str))) D V E H I G) Z:=
  RS acT T (λZ T=>ud (n:=n+3) T g (λe=>by contradiction) hz kk) λt Z l=>j t D Z l
 refine T.sx _ λJ J J J J J J J J J J e=>?_
 subst e
 refine az (S:=(sI (tC .Eq (eN 23) (eL (.str "start"))) eE eG)) (B:=bK) ?_
 exact A
def Mj (g:i<800) (j:lL ps) (A:pt≠[]) (T:TL i pt R Z)
 (kk:∀D Z,TL (i+1) pt (λG=>R (⟨"pi","i",[],ps⟩::G)) Z->N (VL (C tg) (C (.str "pi")) (C (.str "i")) (C (bE [])) (C (.fl (ps.map .str))) D V E H I G) Z)
 (l:∀t vs Z,XE R t Z->Y t (VL (C tg) (C (.str "pi")) (C (.str "i")) (C (bE [])) (C (.fl (ps.map .str))) vs V E H I G) Z) :
 dw (Dn (n+4)) (VL (C tg) (C (.str "pi")) (C (.str "i")) (C (bE [])) (C (.fl (ps.map .str))) D V E H I G) Z N RR Y:=by
 have acT:Dn (n+4) 147 [tg,.str "i",.none] [] Z (λJ Z=>bK (Dn (n+4)) (VL (C tg) (C (.str "pi")) (C (.str "i")) (C (bE [])) (C (.fl (ps.map .str))) D V E H I G) Z N RR Y) λm Z=>Y m (VL (C tg) (C (.str "pi")) (C (.str "i")) (C (bE [])) (C (.fl (ps.map .str))) D V E H I G) Z:=
  Sr Zz g A T (λZ T=>ud (n:=n+3) T j (λe=>by cases e) (λe=>absurd e A) kk) λt Z q=>l t D Z q
 refine T.sx _ λJ J J J J J J J J J J e=>?_
 subst e
 refine az (S:=(sI (tC .Eq (eN 23) (eL (.str "start"))) eE eG)) (B:=bK) ?_
 exact acT
def O9 {src:aa->Prop} (r:∀Z,src Z) {c:È aX}:∀{pt:ZC} {G:È aX},wV pt G->∀{i:Ó} {R:È aX->Ì×Æ Ì} {Z:aa} {L O Q À D:Æ AV},TL i pt R Z->i+G.length<800->
 (∀L O Q À D Z,TL (i+G.length) [] (λd=>R (G++d)) Z->N (VL (C tg) O Q L À D V E H I c) Z)->
 (∀t L O Q À D Z,XE (λJ=>R G) t Z->Y t (VL (C tg) O Q L À D V E H I c) Z)->
 aY src (λx vs Z N=>(aT 4 (ac (aN 23) (ac (aN 24) (ac (aN 16) (ac (aN 25) a0))))) (Dn (n+4)) x vs Z (λvs Z=>dw (Dn (n+4)) vs Z N RR Y) Y) (G.map dB) (VL (C tg) O Q L À D V E H I c) Z N:=λh=>by
 induction h with
 | nil=>exact λT J kk J=>bx (r _) (kk _ _ _ _ _ _ T)
 | st w at' ps G pt g h l m t y=>
  intro i R Z L O Q À D T A kk acT
  have B:i<800:=É (ë _ _) A
  have e:i+1+G.length=i+(G.length+1):=Ě i 1 G.length
  refine⟨r _,Mk B h l m g T (λD Z T=>y T (by rw[e];exact A) (by rw[e];exact kk) acT) λt D Z z=>acT t _ _ _ _ D Z ?_⟩
  refine z _ λdue out s o j=>?_
  exact(.mk due out s o (λJ=>j G))
 | en q ps G pt l hz t y=>
  intro i R Z L O Q À D T A kk acT
  have B:i<800:=É (ë _ _) A
  have e:i+1+G.length=i+(G.length+1):=Ě i 1 G.length
  refine⟨r _,Mi B l hz T (λD Z T=>y T (by rw[e];exact A) (by rw[e];exact kk) acT) λt D Z z=>acT t _ _ _ _ D Z ?_⟩
  refine z _ λdue out s o j=>?_
  exact(.mk due out s o (λJ=>j _))
 | pi ps G pt g l t y=>
  intro i R Z L O Q À D T A kk acT
  have B:i<800:=É (ë _ _) A
  have e:i+1+G.length=i+(G.length+1):=Ě i 1 G.length
  refine⟨r _,Mj B l g T (λD Z T=>y T (by rw[e];exact A) (by rw[e];exact kk) acT) λt D Z z=>acT t _ _ _ _ D Z ?_⟩
  refine z _ λdue out s o j=>?_
  exact(.mk due out s o (λJ=>j _))
end
section
variable {n i:Ó} {Z:aa} {N:NK} {RR:RK} {Y:XK} {Q:È aX} {À V G B D H I L O:Æ AV} {ps:ZC} {acT:aj} {K:VK} {X:Ì->aa->Prop}
def Ic:fq .set [.fl [.str "r",.str "{u}r"]] Z=C (.ws ["r","{u}r"],Z):=by kernel_rfl
def R6 (h:K .none (Sw Ï Ï .none [] (nv 0) (dv []) (bd 0) [] [] [] [])):Dn (n+1) 67 [tg,.bm .lAppend (.loc 1)] [("strip_text",.bool f.st),("rewrite_prefixes",.bool f.rw),("qname_aware_tags",.fl [.str "t",.str "{v}t"]),("qname_aware_attrs",.ws ["r","{u}r"])] [.code,.list [],.attrs (T.an.map λJ=>.none)] K X:=by
 rw[UG];exact h
def O0 (E:N (VL (C tg) U U U U U (C (.loc 1)) (C .none) U U Q) (Sw Ï Ï .none [] (nv 0) (dv []) (bd 0) [] [] [] [])) :
 sV (Dn (n+1)) (VL U U U U U U (C (.loc 1)) (C .none) U U Q) [.code,.list []] N RR ik:=by
 refine ay Ic ?_
 exact R6 E
def LH {src:aa->Prop} (A:∀Z,src Z) {x:aa}:∀(M:ZE) (n0:ZB) (B D:Æ AV),n0.length+M.length<900->
 (∀B D,N (VL (C tg) H I G L O À V B D Q) (Sw Ï Ï .none (n0++M.map ae) (nv 0) (dv []) (bd 0) [] [] [] x))->
 aY src (λx vs Z N=>(aT 2 (ac (aN 21) (ac (aN 22) a0))) (Dn (n+1)) x vs Z (λvs Z=>qb (Dn (n+1)) vs Z N RR Y) Y) (M.map λz=>ae (z.2,z.1)) (VL (C tg) H I G L O À V B D Q) (Sw Ï Ï .none n0 (nv 0) (dv []) (bd 0) [] [] [] x) N:=by
 intro j;induction j with
 | nil=>
  exact @λn0 B D J h=>bx (A _) (by have h:=h B D;rw[ow,Ę]at h;exact h)
 | cons z M g=>
  exact @λn0 B D E h=>⟨A _,by
   refine Sk (É (ë _ _) (Þ E Zz)) ?_
   refine g (n0++[ae z]) _ _ (by simp only[Ð,ŷ,Ď,ı 1];exact E) λB D=>?_
   have h:=h B D
   rw[Ī]at h
   rw[ø]
   exact h⟩
end
section
variable {n:Ó} {N:NK} {RR:RK} {X Y:XK} {O I:È aX} {ps:ZC} {G H D Q À:Æ AV} {R:È aX->Ì×Æ Ì}
def SU:Sc "a" [] U:=(.mk (by decide +kernel) (.mk Zz (λJ h=>nomatch h) Χ) (λJ h=>nomatch h))
def Rn (A:Prop) (r:Ì×Æ Ì) (vs:Vs) (Z:aa) (I:È aX):Prop:=∀(B G H L V E D:Æ AV) (e:vs=VL (C tg) L V B E D (C (.loc 1)) (C (we r.2)) G H I) (out:ZB) (s:XS out Z) (o:ml out r.1),A
def Wx:=λr vs Z I=>∀B,Rn B r vs Z I->B
def Wx.mk:Rn (Wx r vs Z I) r vs Z I:=λB G H L V E D e out s o J A=>A B G H L V E D e out s o
def Qk {x:aa} (V:lL ps) (L:∀O,R O=bY O [] [] "")
 (kk:∀D Z,TL 1 ["a"] (λO=>R (⟨"start","a",[],ps⟩::O)) Z->N (VL (C tg) (C (.str "start")) (C (.str "a")) (C (bE [])) (C (.fl (ps.map .str))) D Q À G H O) Z)
 (E:∀t vs Z,XE (λO=>R (⟨"start","a",[],ps⟩::O)) t Z->Y t (VL (C tg) (C (.str "start")) (C (.str "a")) (C (bE [])) (C (.fl (ps.map .str))) vs Q À G H O) Z) :
 dw (Dn (n+4)) (VL (C tg) (C (.str "start")) (C (.str "a")) (C (bE [])) (C (.fl (ps.map .str))) D Q À G H O) (Sw Ï Ï .none (aq.map ae) (nv 0) (dv []) (bd 0) [] [] [] x) N RR Y:=by
 refine az (S:=(sI (tC .Eq (eN 23) (eL (.str "start"))) eE eG)) (B:=bK) ?_
 refine ay (zH Zz) ?_
 exact Ir SU (by decide +kernel) L (λZ T=>ud (n:=n+3) T V (λe=>by cases e) (λe=>by cases e) kk) λt Z A=>E t D Z (A ps)
def PG (y:lL ps) (h:wV ["a"] O) (m:O.length<700) (d:I=⟨"start","a",[],ps⟩::O)
 (kk:∀vs Z,Wx (bY I [] [] "") vs Z I->N vs Z) :
 Ao (Dn (n+5)) (VL U U U U U U U U U U I) [.code] N RR ik:=by
 refine az (S:=Au) (B:=Ap) ?_
 refine az (S:=sV) (B:=Aq) (O0 (n:=n+4) ?_)
 refine az (S:=Av) (B:=Ar) (bB λsrc j=>?_)
 refine LH (n:=n+4) j aq [] U U (by rw[ω,ė];exact(by decide +kernel:∀k<5,(dh k).length<900) k hk) λG H=>?_
 refine az (S:=Aw) (B:=s0) (bB λsrc j=>?_)
 have q:1+O.length<800:=Þ (o_ m 1) Zz
 have r:∀t V E A acT D Z,XE (λJ=>bY I [] [] "") t Z->N (((VL (C tg) E A V acT D (C (.loc 1)) (C .none) G H I).set 27 U).set 19 (C (.str t))) Z:=λt V E A acT D Z z=>by
  refine z _ λdue out s o g=>?_
  have e:bY I [] [] "" = _:=g []
  refine kk _ Z (.mk V G H E A acT D ?_ out s ?_)
  ·rw[e];rfl
  ·rw[e];exact o
 have kn:∀V E A acT D Z,TL (1+O.length) [] (λl=>bY (I++l) [] [] "") Z->N (VL (C tg) E A V acT D (C (.loc 1)) (C .none) G H I) Z:=λV E A acT D Z T=>by
  have sx:=T.sx
  cases T with
  | wait nd P due ps out w at' W ht h y hn o g i hP c=>exact absurd c (by simp)
  | idle nd P due ps out dn W y o g i hP c hd hz=>
   obtain rfl:=hz rfl
   have e:=g []
   rw[Ę,lN (Bw f)]at e
   have e:bY I [] [] "" = (due,U):=e
   refine kk _ Z (.mk V G H E A acT D (by rw[e];rfl) out ?_ (by rw[e];exact o))
   refine W _ λx ds L e J J J=>?_
   subst e
   exact⟨rfl,rfl⟩
 subst d
 exact⟨j _,Qk (n:=n+1) y (λJ=>rfl) (λD Z T=>O9 (n:=n+1) j h T q kn r) λt D Z z=>r t _ _ _ _ D Z (by refine z _ λdue out s o g=>?_;exact(.mk due out s o (λJ=>g O)))⟩
end
section
variable {B D:Type} {src:aa->Prop} {f:AV->Vs×D->aa->(Vs×D->aa->Prop)->Prop} {Wp:Vs->Prop} {Z:aa} {K:Vs×D->aa->Prop}
def lO (Q:src Z) (L:B->AV) (G:D->B->D) (I:D->Ó) (À:∀b x,I (G b x)<=I b+1):∀(xs:È B) (b:D) (V:Vs),Wp V->I b+xs.length<100000->
 (∀x∈xs,∀V b K,Wp V->I b<Ö->(∀V,Wp V->K (V,G b x) Z)->f (L x) (V,b) Z K)->(∀V,Wp V->K (V,xs.foldl G b) Z)->aY src f (xs.map L) (V,b) Z K:=by
 intro A;induction A with
 | nil=>
  exact @λb V H J J k=>⟨Q,k V H⟩
 | cons x xs E=>
  exact @λb V H O st k=>⟨Q,st x (ã ..) V b _ H (É (ë _ _) (Þ O Zz)) λV H=>E _ V H (É (Ò (À b x) _) (by rw[Ď,ı 1];exact O)) (λy Y=>st y (à _ Y)) k⟩
end
def Q0 (G:Prop) (W V:Vs):Prop:=∀(a b:Æ AV) (e:V=a::b::W),G
def O2:=λW V=>∀G,Q0 G W V->G
def O2.mk:Q0 (O2 W V) W V:=λa b e J G=>G a b e
def Q1 (G:Prop) (W V:Vs):Prop:=∀(a b c:Æ AV) (e:V=a::b::c::W),G
def O3:=λW V=>∀G,Q1 G W V->G
def O3.mk:Q1 (O3 W V) W V:=λa b c e J G=>G a b c e
section
variable {B:Type} {src:aa->Prop} {f:AV->Vs×È AV->aa->(Vs×È AV->aa->Prop)->Prop} {Z:aa} {K:Vs×È AV->aa->Prop} {Wp:Vs->Prop}
def iu (L:src Z) (G:B->AV) (p:B->ì) (g:B->AV) (xs:È B) {V:Vs} (H:Wp V) (I:xs.length<100000)
 (st:∀x∈xs,∀V b K,Wp V->b.length<Ö->(∀V,Wp V->K (V,if p x=Í then b++[g x]else b) Z)->f (G x) (V,b) Z K) (k:∀V,Wp V->K (V,(xs.filter p).map g) Z):aY src f (xs.map G) (V,[]) Z K:=by
 refine lO L G (λb x=>if p x=Í then b++[g x]else b) xe (λb x=>?_) xs [] V H (by rw[ω,ė];exact I) st λV H=>?_
 ·split
  ·rw[Ð];exact Ë _
  ·exact ö _
 ·have e:∀(xs:È B) (b:ZB),xs.foldl (λb x=>if p x=Í then b++[g x]else b) b=b++(xs.filter p).map g:=λxs=>by
   induction xs with
   | nil=>exact λb=>(Ę b).symm
   | cons x xs O=>
    intro b
    simp only[YZ,O,I2]
    split
    ·rw[Ī,ø];rfl
    ·rfl
  rw[e]
  exact k V H
def xu (L:src Z) (G:B->AV) (g:B->AV) (xs:È B) {V:Vs} (H:Wp V) (I:xs.length<100000)
 (st:∀x∈xs,∀V b K,Wp V->b.length<Ö->(∀V,Wp V->K (V,b++[g x]) Z)->f (G x) (V,b) Z K) (k:∀V,Wp V->K (V,xs.map g) Z):aY src f (xs.map G) (V,[]) Z K:=
 iu L G (λJ=>Í) g xs H I st λV H=>by rw[YY.mpr λJ J=>rfl];exact k V H
end
section
variable {B:Type} {src:aa->Prop} {f:AV->Vs×È (Ì×AV)->aa->(Vs×È (Ì×AV)->aa->Prop)->Prop} {Z:aa} {K:Vs×È (Ì×AV)->aa->Prop} {Wp:Vs->Prop}
def FU (À:src Z) (I:B->AV) (p:B->ì) (G:B->Ì) (g:B->AV) (xs:È B) {V:Vs} (L:Wp V) (Q:xs.length<100000) (H:(xs.map G).Nodup)
 (st:∀x∈xs,∀V b K,Wp V->b.length<Ö->(∀V,Wp V->K (V,if p x=Í then aF (G x) (g x) b else b) Z)->f (I x) (V,b) Z K) (k:∀V,Wp V->K (V,(xs.filter p).map λx=>(G x,g x)) Z):aY src f (xs.map I) (V,[]) Z K:=by
 refine lO À I (λb x=>if p x=Í then aF (G x) (g x) b else b) xe (λb x=>?_) xs [] V L (by rw[ω,ė];exact Q) st λV L=>?_
 ·split
  ·exact bL _ _
  ·exact ö _
 ·have e:∀(xs:È B) (b:ZF),(b.map (·.1)++xs.map G).Nodup->xs.foldl (λb x=>if p x=Í then aF (G x) (g x) b else b) b=b++(xs.filter p).map λx=>(G x,g x):=λxs=>by
   induction xs with
   | nil=>exact λb J=>(Ę b).symm
   | cons x xs O=>
    intro b H
    simp only[YZ,I2]
    rw[Ī,Ϙ]at H
    split
    ·rw[rz λm=>(ō.mp (ō.mp H).1).2.2 _ m _ (Ù.mpr rfl) rfl,O _ (by rw[ò];exact H),Ī,ø];rfl
    ·exact O b (H.sublist (aap (sublist_append_left ..) (Yu _)))
  rw[e xs [] H]
  exact k V L
end
noncomputable def iJ (o:Æ (Ì×Ì)):AV:=o.elim .none λq=>.tup [.str q.1,.str q.2]
def IU {B:Type} {s:Ì} {f:AV->B->aa->(B->aa->Prop)->Prop} {b:B} {Z:aa} {K:B->aa->Prop} (k:∀src:aa->Prop,(∀Z,src Z)->aY src f ((aB s).map λc=>.str (cN c)) b Z K):Xg (.str s) f b Z K:=by rw[fh];exact k _ λJ=>rfl
theorem qY (c:Ó):∀ps:È Ì,(ps.map (·.length)).sum+ps.length<=(k_ ⟨#[c]⟩ ps).length+1
 | []=>ï _
 | [p]=>ó (Õ (· + 1) (show p.length+0=p.length from rfl))
 | p::q::r=>by
  show p.length+((q::r).map (·.length)).sum+((q::r).length+1)<=(p++⟨#[c]⟩++k_ ⟨#[c]⟩ (q::r)).length+1
  rw[â,â]
  have h:=qY c (q::r)
  calc p.length+((q::r).map (·.length)).sum+((q::r).length+1)
   = p.length+(((q::r).map (·.length)).sum+(q::r).length)+1:=by simp only[Ď p.length,Ď p.length,Ď]
   _<=p.length+((k_ ⟨#[c]⟩ (q::r)).length+1)+1:=á (Ø h _)
   _=_:=Õ (· + 1) (Ě p.length (k_ ⟨#[c]⟩ (q::r)).length 1)
def split_len (u:Ì) (c:Ó):((ğ u ⟨#[c]⟩).map (·.length)).sum+(ğ u ⟨#[c]⟩).length<=u.length+1:=by
 have h:=qY c (ğ u ⟨#[c]⟩)
 rw[WO]at h
 exact h
def gE {s:Ì} {c:Ó} {Z:aa} (h:s.length<=10000):fq .sSplit [.str s,.str ⟨#[c]⟩] Z=C (.fl ((ğ s ⟨#[c]⟩).map .str),Z):=
 Û ⟨(by decide:(1:Ó)≠0),Â (Â (ħ _ _) (split_len s c)) (Â (á h) Zz)⟩
def add_int {Z:aa} {a b:Į}:jP Z .Add (.int a) (.int b)=C (.int (a+b)):=rfl
def Gp {Z:aa} {a b:AV}:fw Z (.fl [a,b]) (.int 0)=C a:=rfl
def Nt {c:Ó} {s:Ì}:σ s (cN c)=(aB s).contains c:=by
 rw[show cN c=⟨#[c]⟩from rfl,di,contains_eq_mem]
def ny {Z:aa} {k:Ì} {ts:ZC}:Ed Z (.str k) (.fl (ts.map .str))=C (ts.contains k):=by
 show((aJ (ts.map AV.str)).map (·.contains k)).orElse _=_
 rw[strs_map];rfl
section
variable {n:Ó} {t:Ì} {Z:aa} {K:VK} {X:Ì->aa->Prop}
def UD {h:ZC} (hz:(h.map (·.length)).sum<=10000) (k:sL (Dn n) [C (.str t),C (.fl (h.map .str)),C (.fl (((aB (û "" h)).filter λc=>!(aB W9).contains c).map λc=>.str (cN c)))] Z (λJ Z=>K .none Z) (λv J Z=>K v Z) λm J Z=>X m Z) :
 sK (Dn n) [C (.str t),C (.fl (h.map .str)),U] Z (λJ Z=>K .none Z) (λv J Z=>K v Z) λm J Z=>X m Z:=by
 refine Hd (strs_map h) (by exact Â hz Zz) (IU λsrc G=>?_)
 refine iu (Wp:=O2 [C (.str t),C (.fl (h.map .str)),U]) (G _) (λc=>.str (cN c)) (λc=>!(aB W9).contains c) (λc=>.str (cN c)) _ (.mk U U rfl) ?_ (λc J V b K B D k=>?_) λV B=>?_
 ·rw[ai,dF];exact É hz Zz
 ·refine B _ λa b' e=>?_
  subst e
  have k:=k _ (.mk a (C (.str (cN c))) rfl)
  cases e : !(aB W9).contains c with
  | true=>rw[e]at k;exact dD (b:=!Txt.contains W9 (cN c)) (by rw[Nt];exact e) ⟨D,k⟩
  | false=>rw[e]at k;exact db (b:=!Txt.contains W9 (cN c)) (by rw[Nt];exact e) k
 ·exact k
def Qm {B:Type} {h:È B} (e:h.length=2):∃a b,h=[a,b]:=by
 rcases h with _|⟨a,_|⟨b,_|⟨c,r⟩⟩⟩
 ·contradiction
 ·exact absurd e (by show ¬ 1=2;decide)
 ·exact⟨a,b,rfl⟩
 ·exact absurd (vx (vx e)) (gg _)
def UE {h:ZC} (k:K (iJ (if Qv h=Í then C (h.headD "",Ļ t (C (((h.headD "").length+1:Ó):Į)) U)else U)) Z) :
 sL (Dn n) [C (.str t),C (.fl (h.map .str)),C (.fl (((aB (û "" h)).filter λc=>!(aB W9).contains c).map λc=>.str (cN c)))] Z (λJ Z=>K .none Z) (λv J Z=>K v Z) λm J Z=>X m Z:=by
 unfold Qv at k
 refine ay (my (n:=h.length) (Õ C (length_map ..))) ?_
 by_cases h2:h.length=2
 ·refine dD (õ (Õ Nat.cast h2)) ?_
  rw[õ h2,uf]at k
  cases h3 : !h.contains "" with
  | false=>
   rw[h3]at k
   exact mB (c:=Ï) (show(Ed Z (.str "") (.fl (h.map .str))).map (!·)=_ by rw[ny];exact Õ C h3) k
  | true=>
   rw[h3,uf]at k
   refine mB (c:=Í) (show(Ed Z (.str "") (.fl (h.map .str))).map (!·)=_ by rw[ny];exact Õ C h3) ?_
   have e:(((aB (û "" h)).filter λc=>!(aB W9).contains c).map λc=>AV.str (cN c)).isEmpty=(aB (û "" h)).all λc=>(aB W9).contains c:=by
    rw[Ψ,Ġ,Xa,I_,ũ]
    exact aep λc=>aep λJ=>by cases (aB W9).contains c<;>decide
   cases h4:(aB (û "" h)).all λc=>(aB W9).contains c with
   | false=>rw[h4]at k e;exact dD rfl (db e k)
   | true=>
    rw[h4]at k e
    obtain⟨a,b,rfl⟩:=Qm h2
    exact dD rfl (dD e (dD rfl (aL (Gp (a:=.str a) (b:=.str b)) (aL (Gp (a:=.str a) (b:=.str b)) (ay (my (v:=.str a) (n:=a.length) rfl) (io add_int k))))))
 ·refine db (ü λq=>h2 (ZY q)) ?_
  rw[ü h2]at k
  exact k
def GU (D:t.length<=5000) (k:K (iJ (hvP t)) Z):Dn (n+1) 173 [.str t] [] Z K X:=by
 rw[T8]
 have key:∀u,Eb t=u->u.length<=5000->ok (biZ .sSplit [.str u,.str ":"] Z) λp=>sK (Dn n) [C (.str t),C p.1,U] p.2 (λJ Z=>K .none Z) (λv J Z=>K v Z) λm J Z=>X m Z:=λu G B=>by
  refine ay (gE (c:=58) (Â B Zz)) ?_
  unfold hvP at k
  rw[G]at k
  exact UD (h:=ğ u ":") (Â (ë _ _) (Â (split_len u 58) (Â (á B) Zz))) (UE (h:=ğ u ":") k)
 unfold Eb at key
 by_cases q:Ļ t (C (-1)) U = "\n"
 ·exact dD (õ q) (key _ (Û q) (Â (Zb ..) D))
 ·exact db (ü q) (key _ (Ý q) D)
end
def wz (p:Ó->ì) (x:Ì):aB (ZM p Í Í x)=dC p (aB x):=by
 rw[adO]
 dsimp only[W.stripped]
 simp only[WR]
 have e:∀i j,aB (g_ x i j)=((aB x).take j).drop i:=λi j=>by
  show(x.cps.extract i j).toList=_
  simp only[U_,Xt]
 rw[e]
 unfold dC
 have B:(aB x).length=x.length:=ai x
 rw[<-cB p (aB x)]
 rw[show ∀m:È Ó,(m.reverse.dropWhile p).reverse=m.take (m.length - (m.reverse.takeWhile p).length)from λm=>by
  simp only[<-cB,reverse_drop,rt,ϱ]]
 simp only[Xt,ϰ,B]
 congr 1
 lia
def vf {p q:Ó->ì}:∀{l:È Ó},(∀c∈l,p c=q c)->l.dropWhile p=l.dropWhile q:=by
 intro G;induction G with
 | nil=>
  exact @λJ=>rfl
 | cons c l D=>
  intro h
  simp only[W8,W8,h c (ã ..),D λc B=>h c (à _ B)]
def Ix {t:Ì} (h:Al t):lr t " \n" = be t:=bF (by
 have e:∀c∈aB t,(acW " \n").contains c=ϐ c:=λc B=>(show ∀c∈SA,(acW " \n").contains c=ϐ c by decide +kernel) c (h c B)
 simp only[show lr t " \n" = ZM (acW " \n").contains Í Í t from rfl,show be t=ZM ϐ Í Í t from rfl,wz,wz]
 unfold dC
 rw[vf e,vf (l:=(dropWhile _ (aB t)).reverse) λc B=>e c ((X8 _).subset (Xc.mp B))])
def xH {Z:aa} {x:AV} {xs:ZB}:fw Z (.fl (x::xs)) (.int 0)=C x:=by
 show(nx (x::xs).length 0).bind _=_
 rw[show nx (x::xs).length 0=C 0 from(Û Zz).trans (Yt (Int.le_refl 0) (eh.mpr (ŵ _)))]
 rfl
def Gq {Z:aa} {ys:ZB} {v:AV}:fw Z (.fl (ys++[v])) (.int (-1))=C v:=fy (Z:=[.list (ys++[v])]) (l:=0) rfl
def TG:∀q∈T4++K4,(Ļ q U (C 1) = "{"/\ğ (Ļ q (C 1) U) "}" = kU q::(ğ (Ļ q (C 1) U) "}").tail\/Ļ q U (C 1)≠"{"/\kU q = "")/\q.length<=10/\ğ q "}" = (ğ q "}").dropLast++[kT q]:=by decide +kernel
section
variable {n:Ó} {q:Ì} {Z:aa} {K:VK} {X:Ì->aa->Prop}
def BQ (h:q∈T4++K4) (k:K (.str (kU q)) Z):Dn (n+1) 180 [.str q] [] Z K X:=by
 rw[Uj]
 obtain⟨a,b,_⟩:=TG q h
 rcases a with⟨a,c⟩|⟨a,c⟩
 ·refine dD (õ a) (ay (gE (c:=125) (Â (Â (Zb ..) b) Zz)) ?_)
  rw[show ğ (Ļ q (C 1) U) ⟨#[125]⟩=_ from c]
  exact aL xH k
 ·rw[c]at k
  exact db (ü a) k
end
structure C3 where
 cs:È aX
 ts:È Ì
 wo:AV
def V3 (Y E V À A g j l O Q L y G H z D I:Æ AV) (c:C3) (q B:Æ AV):Vs:=
 [U,U,C (.bool f.rw),C (.bool f.st),U,C (gy),C (cQ),C (.fl [.str "t",.str "{v}t"]),C (.fl [.str "r",.str "{u}r"]),U,U,C (.fl (c.cs.map dB)),C (.loc 2),U,U,U,B,U,C (.fl (c.ts.map .str)),C c.wo,U,D,U,G,H,z,U,U,q,C (.loc 1),I,y,L,O,Q,À,V,Y,E,A,g,j,l]
def fF (nd:ZC) (z:Ì×È Ì):AV:=.tup [.str (bn (kU z.1) (kT z.1) nd),.fl (z.2.map .str)]
def S3 (ned:ZC) (d:ZB):aa:=[.code,.list (ned.map .str),.list d]
section
variable {c:C3} {acT:aj} {N:NK} {RR:RK} {X:XK} {ned:ZC} {d:ZB} {ps:ZC} {w due run:Ì} {at':ZE} {B D G H q I y L O Q À V Y E A g j l:Æ AV} {n:Ó}
def nB {Z:aa} {ts:ZC} {F:AV×aa->Prop} (hz:(ts.map (·.length)).sum<=16000000) (k:F (.str (û "" ts),Z)):ok (biZ .sJoin [.str "",.fl (ts.map .str)] Z) F:=
 Hd (strs_map ts) (by rw[show YA "" = 0 from rfl,Nat.mul_zero];exact Â hz Zz) k
def Ci {Z:aa} {s c:Ì}:fq .sStrip [.str s,.str c] Z=C (.str (lr s c),Z):=rfl
def ID (z:lL ps) (k:N (V3 Y E V À A g j l O Q L (C (.str (cj ps))) G H (C (.fl (ps.map .str))) D I c q B) (S3 ned d)) :
 eQ acT (V3 Y E V À A g j l O Q L y G H (C (.fl (ps.map .str))) D I c q B) (S3 ned d) N RR X:=by
 have hz:=Â z.2.1 (by decide:1000<=16000000)
 have m:=AX z
 unfold cj stp at k
 cases h:f.st with
 | true=>
  rw[h,Û rfl]at k
  refine dD h (nB hz (ay (r:=(.str (be (û "" ps)),S3 ned d)) ?_ k))
  rw[<-Ix m];exact Ci
 | false=>
  rw[h,Ý ß]at k
  exact db h (nB hz k)
def l5 (s:Ì):(nN s).length<=4 * s.length:=by
 unfold nN
 rw[<-ai,<-ai,show aB (ť s "<" "&lt;")=_ from c8 s "&lt;" 60]
 exact wB 60 (aB "&lt;") (by decide +kernel) _
def IC (z:run.length<=2000) (r:due.length<=16000000) (k:N (V3 Y E V À A g j l O Q L (C (.str run)) G H (C (.fl (ps.map .str))) D I c (C (.str (due++nN run))) B) (S3 ned d)) :
 eU acT (V3 Y E V À A g j l O Q L (C (.str run)) G H (C (.fl (ps.map .str))) D I c (C (.str due)) B) (S3 ned d) N RR X:=
 ⟨Â (å z (θ _ (á z))) Zz,ir (a:=due) (b:=nN run) (Â (å r (Â (l5 run) (Ą 4 z))) Zz) k⟩
end
def iT (w run:Ì):Æ (Ì×Ì):=if g7 w=Í then hvP run else U
def dM (at':ZE):È (Ì×AV):=(at'.filter λz=>fB z.1).map λz=>(z.1,iJ (hvP z.2))
def cM (kvs:ZF):AV:=.fd (kvs.map (·.1)) (kvs.map (·.2))
def BS {V:Type} {ks:ZC} {xs:ZB} {f:AV->V->aa->(V->aa->Prop)->Prop} {b:V} {Z:aa} {K:V->aa->Prop} (k:∀src:aa->Prop,(∀Z,src Z)->aY src f (ks.map .str) b Z K):Xg (.fd ks xs) f b Z K:=by rw[fh];exact k _ λJ=>rfl
def d7 {Z:aa} {kvs:ZF}:aC Z (cM kvs)=C kvs:=uV
def Nu {Z:aa} {kvs:ZF} {k:Ì}:Ed Z (.str k) (cM kvs)=C ((kvs.map (·.1)).contains k):=by
 have e:Ed Z (.str k) (cM kvs)=(aC Z (cM kvs)).map λkvs=>(kvs.map (·.1)).contains k:=rfl
 rw[e,d7];rfl
section
variable {c:C3} {N:NK} {RR:RK} {X:XK} {ned:ZC} {d:ZB} {w run:Ì} {at':ZE} {r B D q G H I y j L l O Q À Y E A acT g:Æ AV} {n:Ó}
def We (V:run.length<=5000) (k:N (V3 À Y Q O E A acT g L l (C (iJ (iT w run))) (C (.str run)) D (C (.str w)) G B I c H r) (S3 ned d)) :
 j4 (Dn (n+1)) (V3 À Y Q O E A acT g L l j (C (.str run)) D (C (.str w)) G B I c H r) (S3 ned d) N RR X:=by
 unfold iT at k
 cases h:g7 w with
 | true=>rw[h]at k;exact dD h (GU V k)
 | false=>rw[h]at k;exact db h k
def Wf (t:B2 at') (k:N (V3 À Y Q O E A acT g L (C (cM (dM at'))) j y D q G B I c H (C (bE at'))) (S3 ned d)) :
 j5 (Dn (n+1)) (V3 À Y Q O E A acT g L l j y D q G B I c H (C (bE at'))) (S3 ned d) N RR X:=by
 refine t _ λhl hk i=>?_
 refine BS λsrc hs=>?_
 rw[ĥ]
 refine FU (Wp:=O2 (V3 À Y Q O E A acT g L l j y D q G B I c H (C (bE at')))) (hs _) (λz:Ì×Ì=>.str z.1) (λz=>fB z.1) (λz=>z.1) (λz=>iJ (hvP z.2)) at' (.mk U U rfl) (É hl Zz) i (λz hz V b K m hb k=>?_) λV m=>k
 refine m _ λa b' e=>?_
 subst e
 have k:=k _ (.mk a (C (.str z.1)) rfl)
 cases e:fB z.1 with
 | true=>
  rw[e]at k
  exact dD e (aL (br fZ (ji i z hz)) (GU (Â (jI _ (hk z hz).2).1 Zz) ⟨hb,k⟩))
 | false=>rw[e]at k;exact db e k
end
def X0 (w run:Ì) (at':ZE):È (Ì×Æ (Ì×Ì)):=(run,iT w run)::(at'.filter λz=>fB z.1).map λz=>(z.2,hvP z.2)
def dW (o:Æ (Ì×Ì)):ì:=o.any λq=>(aq.find? λz=>decide (z.2=q.1)).isNone
def v4 (o:Æ (Ì×Ì)):dW o=o.any λq=>(aq.find? λz=>decide (z.2=q.1)).isNone:=by delta dW;rfl
def rP (X:È (Ì×Æ (Ì×Ì))):È Ì:=(X.filter λz=>dW z.2).map (·.1)
def mq {Z:aa} {xs ys:ZB} (h:(xs++ys).length<=Ö):jP Z .Add (.fl xs) (.fl ys)=C (.fl (xs++ys)):=by
 show(zM (xs++ys)).map _=_
 rw[show zM (xs++ys)=C (xs++ys)from Û h];rfl
def fz {Z:aa} {a b:AV}:fw Z (.tup [a,b]) (.int 0)=C a/\fw Z (.tup [a,b]) (.int 1)=C b:=⟨rfl,rfl⟩
def oX {p:Ì}:(aq.map (·.2)).contains p=(aq.find? λz=>decide (z.2=p)).isSome:=by
 rw[Ψ,Ú,find?_isSome,ě]
 exact⟨(by rintro⟨z,h,e⟩;exact⟨z,h,õ e⟩),(by rintro⟨z,h,e⟩;exact⟨z,h,of_decide_eq_true e⟩)⟩
def jC:cQ=cM (aq.map λz=>(z.2,.str z.1)):=by
 unfold cQ cM
 rw[ĥ,ĥ];rfl
def GZ {Z:aa} {q:Ì×Ì}:jR Z .NotIn (.str q.1) (cQ)=C (dW (C q)):=by
 show(Ed Z (.str q.1) (cQ)).map (!·)=_
 rw[jC,Nu,ĥ]
 show C (!(aq.map (·.2)).contains q.1)=_
 rw[oX,Option.not_isSome];rfl
section
variable {c:C3} {N:NK} {RR:RK} {X:XK} {ned:ZC} {r:ZB} {w run:Ì} {at':ZE} {d B D G H I L m i O v Q y À Y E A j l:Æ AV} {n:Ó} {acT:aj}
def Bs (V:(at'.map (·.1)).Nodup) {z:Ì×Ì} (hz:z∈at'.filter λz=>fB z.1):ak z.1 (dM at')=C (iJ (hvP z.2)):=
 vq (g:=λz=>iJ (hvP z.2)) (V.sublist (Sublist.map _ Ϭ)) z hz
def Wg (ha:B2 at') (k:N (V3 À Y (C (.fl ((rP (X0 w run at')).map .str))) Q E A j l O (C (cM (dM at'))) (C (iJ (iT w run))) (C (.str run)) D G H B L c I (C (bE at'))) (S3 ned r)) :
 j6 acT (V3 À Y y Q E A j l O (C (cM (dM at'))) (C (iJ (iT w run))) (C (.str run)) D G H B L c I (C (bE at'))) (S3 ned r) N RR X:=by
 refine ha _ λhl hk n1=>?_
 have lf:(at'.filter λz=>fB z.1).length<=2:=Â (ķ ..) hl
 refine BS λsrc hs=>?_
 unfold dM
 simp only[ĥ,ĥ]
 refine xu (Wp:=O2 (V3 À Y y Q E A j l O (C (cM (dM at'))) (C (iJ (iT w run))) (C (.str run)) D G H B L c I (C (bE at')))) (hs _) (λz:Ì×Ì=>.str z.1) (λz=>.tup [.str z.2,iJ (hvP z.2)]) _ (.mk U U rfl) (É lf Zz) (λz hz V b K g hb k=>?_) λV g=>?_
 ·refine g _ λa b' e=>?_
  subst e
  exact aL (br fZ (ji n1 z (þ.mp hz).1)) (aL (br d7 (Bs n1 hz)) ⟨hb,k _ (.mk a (C (.str z.1)) rfl)⟩)
 ·refine io (mq (by rw[Ð,length_map];exact Â (Ø lf 1) Zz)) (bB λsrc hs=>?_)
  have e:[AV.tup [.str run,iJ (iT w run)]]++(at'.filter λz=>fB z.1).map (λz=>AV.tup [.str z.2,iJ (hvP z.2)])=(X0 w run at').map λz=>.tup [.str z.1,iJ z.2]:=by
   unfold X0
   simp only[Ī,ĥ];rfl
  rw[e]
  refine iu (Wp:=O3 (V3 À Y y Q E A j l O (C (cM (dM at'))) (C (iJ (iT w run))) (C (.str run)) D G H B L c I (C (bE at')))) (hs _) (λz:Ì×Æ (Ì×Ì)=>.tup [.str z.1,iJ z.2]) (λz=>dW z.2) (λz=>.str z.1) _ (.mk U U U rfl) ?_ (λz hz V b K g hb k=>?_) λV g=>?_
  ·unfold X0
   rw[ŕ,length_map]
   exact É (á lf) Zz
  ·refine g _ λa b' c' e=>?_
   subst e
   obtain⟨t,o⟩:=z
   cases o with
   | none=>exact k _ (.mk a _ _ rfl)
   | some q=>
    have k:=k _ (.mk a (C (.str t)) (C (iJ (C q))) rfl)
    refine aL (fz (a:=.str q.1) (b:=.str q.2)).1 ?_
    refine tJ (GZ (q:=q)) ?_
    cases e:dW (C q)with
    | true=>rw[e]at k;exact⟨hb,k⟩
    | false=>rw[e]at k;exact k
  ·unfold rP at k
   rw[ĥ]at k
   exact k
end
def eq_self (a b:Ì):(decide (a=a)&&(decide (b=b)&&Í))=Í:=by rw[õ (rfl:a=a),õ (rfl:b=b)];rfl
section
variable {c:C3} {N:NK} {RR:RK} {X:XK} {ned:ZC} {w:ZB} {v due:Ì} {r:ZC} {q:Ì×Ì} {B D G H I z L O Q À V Y d E A g j l y:Æ AV} {n:Ó} {acT:aj}
def Vd (k:N (V3 E A (C (.fl (([]:ZC).map .str))) Y g j l y À V Q O G H I D L c z B) (S3 ned w)) :
 gM acT (V3 E A (C (.fl (([]:ZC).map .str))) Y g j l y À V Q O G H I D L c z B) (S3 ned w) N RR X:=k
def Vc (hv:hvP v=C q) (hl:v.length<=1000) (m:q.1.length<=1000) (ho:(c.ts.map (·.length)).sum<=16000000) (i:û "" c.ts=due) (t:c.wo = .str (fQ q.1 v)) (k:∀vs,RR (.bool Í) vs (S3 ned w)) :
 gM (Dn (n+1)) (V3 E A (C (.fl ((v::r).map .str))) Y g j l y À V Q O G H I D L c (C (.str due)) B) (S3 ned w) N RR X:=by
 obtain⟨cs,ts,wo⟩:=c
 have t:wo = .str (fQ q.1 v):=t
 have i:û "" ts=due:=i
 subst t i
 refine aL (xH (x:=.str v) (xs:=r.map .str)) (GU (Â hl Zz) ?_)
 rw[hv]
 refine aL (fz (a:=.str q.1) (b:=.str q.2)).1 ?_
 refine aR (a:="Prefix ") (b:=q.1) (Â (Ø m _) Zz) ?_
 refine aR (b:=" of QName \"") (by rw[â];exact Â (Ò (Ø m _) _) Zz) ?_
 refine aL (xH (x:=.str v) (xs:=r.map .str)) ?_
 refine aR (b:=v) (by rw[â,â];exact Â (å (Ò (Ø m _) _) hl) Zz) ?_
 refine aR (b:="\" is not declared in scope") (by rw[â,â,â];exact Â (Ò (å (Ò (Ø m _) _) hl) _) Zz) ?_
 refine nB ho ?_
 have k:=k
 rw[<-eq_self (û "" ts) (fQ q.1 v)]at k
 exact k _
end
def cq (o:Æ (Ì×Ì)):Æ Ì:=o.bind λq=>(aq.find? λz=>decide (z.2=q.1)).map (·.1)
def fK (o:Æ (Ì×Ì)):cq o=o.bind λq=>(aq.find? λz=>decide (z.2=q.1)).map (·.1):=by delta cq;rfl
def Jz {Z:aa} {kvs:ZF}:fq .dValues [cM kvs] Z=C (.vv (cM kvs),Z):=by
 refine(show _=(aC Z (cM kvs)).map (λJ=>(AV.vv (cM kvs),Z))from rfl).trans ?_
 rw[d7];rfl
def Of {Z:aa} {kvs:ZF}:fq .list [.vv (cM kvs)] Z=C (.fl (kvs.map (·.2)),Z):=by
 refine(show _=(aC Z (cM kvs)).map (λkvs=>(AV.fl (kvs.map (·.2)),Z))from rfl).trans ?_
 rw[d7];rfl
def Oe {Z:aa} {at':ZE}:fq .list [bE at'] Z=C (.fl ((at'.map (·.1)).map .str),Z):=by
 refine(show _=(aC Z (bE at')).map (λkvs=>(AV.fl (kvs.map λV=>.str V.1),Z))from rfl).trans ?_
 rw[fZ]
 unfold am
 show C (AV.fl ((at'.map _).map _),Z)=_
 rw[ĥ,ĥ];rfl
def mM {p:Ì}:∀{aq:ZE},ak p (aq.map λz=>(z.2,AV.str z.1))=(aq.find? λz=>decide (z.2=p)).map λz=>.str z.1:=by
 intro l;induction l with
 | nil=>
  exact rfl
 | cons z r V=>
  rw[Ī,bu,ϭ,V]
  by_cases e:z.2=p
  ·rw[Û e,õ e];rfl
  ·rw[Ý e,ü e]
def Oh {Z:aa} {ts:ZC} (h:ts.length<=100):fq .set [.fl (ts.map .str)] Z=C (.ws (ah [] ts),Z):=by
 show(aJ (ts.map AV.str)).bind _=_
 rw[strs_map]
 exact Û h
def Ok {Z:aa} {ks:ZC} (h:ks.length<64):fq .sorted [.ws ks] Z=C (.fl ((gw ks).map .str),Z):=Û h
section
variable {c:C3} {N:NK} {RR:RK} {X:XK} {ned:ZC} {x:ZB} {w run:Ì} {at':ZE} {v us:ZC} {B D G H I L O Q x0 À x1 Y E A i g j d m:Æ AV} {n:Ó} {acT:aj}
def Wh (hl:at'.length<=2) (hb:rP (X0 w run at')=[]) (k:N (V3 A (C (.fl (((X0 w run at').filterMap λz=>cq z.2).map .str))) E Y g j d m À (C (cM (dM at'))) (C (iJ (iT w run))) Q G H I D O c L B) (S3 ned x)) :
 j7 acT (V3 A i E Y g j d m À (C (cM (dM at'))) (C (iJ (iT w run))) Q G H I D O c L B) (S3 ned x) N RR X:=by
 have lf:(at'.filter λz=>fB z.1).length<=2:=Â (ķ ..) hl
 refine ay Jz (ay Of ?_)
 refine io (mq (by unfold dM;simp only[Ð,length_map,length_map];exact Â (Ø lf 1) Zz)) (bB λsrc hs=>?_)
 have e:[iJ (iT w run)]++(dM at').map (·.2)=(X0 w run at').map λz=>iJ z.2:=by
  unfold dM X0
  simp only[ĥ,Ī,ĥ];rfl
 rw[e]
 have ok:∀z∈X0 w run at',∀q,z.2=C q->∃u,cq z.2=C u/\ak q.1 (aq.map λz=>(z.2,AV.str z.1))=C (.str u):=λz hz q e=>by
  have:=I_.mp (Xa.mp hb) z hz
  unfold dW at this
  unfold cq
  rw[e]at this ⊢
  rw[mM]
  cases h:aq.find? λz=>decide (z.2=q.1)with
  | none=>exact absurd (show(Option.any _ (C q))=Í by show Yr _=Í;rw[h];rfl) this
  | some y=>exact⟨y.1,by show ε _ (find? _ _)=_;rw[h];rfl,rfl⟩
 refine iu (Wp:=O2 (V3 A i E Y g j d m À (C (cM (dM at'))) (C (iJ (iT w run))) Q G H I D O c L B)) (hs _) (λz:Ì×Æ (Ì×Ì)=>iJ z.2) (λz=>z.2.isSome) (λz=>.str ((cq z.2).getD "")) _ (.mk U U rfl) ?_ (λz hz V b K hV hb k=>?_) λV hV=>?_
 ·unfold X0
  rw[ŕ,length_map]
  exact É (á lf) Zz
 ·refine hV _ λa b' e=>?_
  subst e
  have k:=k _ (.mk a (C (iJ z.2)) rfl)
  obtain⟨t,o⟩:=z
  cases o with
  | none=>exact k
  | some q=>
   obtain⟨u,r,h2⟩:=ok _ hz q rfl
   rw[r]at k
   exact aL (fz (a:=.str q.1) (b:=.str q.2)).1 (aL (br (by rw[jC];exact d7) h2) ⟨hb,k⟩)
 ·have e:∀l:È (Ì×Æ (Ì×Ì)),(∀z∈l,∀q,z.2=C q->∃u,cq z.2=C u/\ak q.1 (aq.map λz=>(z.2,AV.str z.1))=C (.str u))->(l.filter λz=>z.2.isSome).map (λz=>AV.str ((cq z.2).getD ""))=(l.filterMap λz=>cq z.2).map .str:=λl=>by
   induction l with
   | nil=>exact λJ=>rfl
   | cons z l ih=>
    intro h
    have ih:=ih λz hz=>h z (à _ hz)
    obtain⟨t,o⟩:=z
    cases o with
    | none=>exact ih
    | some q=>
     obtain⟨u,r,_⟩:=h _ (ã ..) q rfl
     dsimp only[w_,r]
     show AV.str ((cq (C q)).getD "")::_=_
     rw[show cq (C q)=C u from r,ih];rfl
  rw[e _ ok]
  exact k
end
section
variable {c:C3} {N:NK} {RR:RK} {X:XK} {ned:ZC} {x:ZB} {w run:Ì} {at':ZE} {B us:ZC} {d D G i H I L O Q À Y E A g t x0 j y r:Æ AV} {n:Ó} {acT:aj} {Z:aa}
def TC {u v:Ì}:jR Z .NotEq (.str u) (.str v)=C (!decide (u=v)):=rfl
def FJ {l:Ó} {xs ys:ZB} (h:ag Z l=C xs) (hz:xs.length+ys.length<=Ö):fq .lExtend [.loc l,.fl ys] Z=C (.none,Z.set l (.list (xs++ys))):=by
 show(ag Z l).bind _=_
 rw[h]
 exact Û hz
def OX {u:Ì}:Ed (S3 ned x) (.str u) (.loc 1)=C (ned.contains u):=by
 have e:Ed (S3 ned x) (.str u) (.loc 1)=((aJ (ned.map AV.str)).map (·.contains u)).orElse λJ=>((fN (S3 ned x) (.loc 1)).map λks=>ks.contains u).orElse λJ=>(aC (S3 ned x) (.loc 1)).map λkvs=>(kvs.map (·.1)).contains u:=rfl
 simp only[e,strs_map];rfl
def Wj (h:w∈T4) (ha:B2 at') (hf:B.length<=10) (h4:∀u∈B,u∈U4) (k:N (V3 g (C (.fl (B.map .str))) A E (C (.fl ((uB (kU w::at'.map (λz=>kU z.1)++B)).map .str))) j y r À Y Q O G (C (.str w)) H D L c I (C (bE at'))) (S3 ned x)) :
 j8 (Dn (n+1)) (V3 g (C (.fl (B.map .str))) A E x0 j y r À Y Q O G (C (.str w)) H D L c I (C (bE at'))) (S3 ned x) N RR X:=by
 refine ha _ λhl hk J=>?_
 have nm:∀q∈w::at'.map (·.1),q∈T4++K4:=λq hq=>by
  rcases Ċ.mp hq with rfl|m
  ·exact ç _ h
  ·obtain⟨z,hz,rfl⟩:=ě.mp m
   exact í _ (hk z hz).1
 have hz:(w::at'.map (·.1)).length<=3:=á (Â (ó (length_map ..)) hl)
 refine ay Oe ?_
 refine io (mq (xs:=[.str w]) (ys:=(at'.map (·.1)).map .str) (by rw[Ð,length_map];exact Â (Ø (Â (ó (length_map ..)) hl) 1) Zz)) (bB λsrc hs=>?_)
 refine xu (Wp:=O2 (V3 g (C (.fl (B.map .str))) A E x0 j y r À Y Q O G (C (.str w)) H D L c I (C (bE at')))) (hs _) (λq:Ì=>.str q) (λq=>.str (kU q)) (w::at'.map (·.1)) (.mk U U rfl) (É hz Zz) (λq hq V b K hV hb k=>?_) λV hV=>?_
 ·refine hV _ λa b' e=>?_
  subst e
  exact BQ (nm q hq) ⟨hb,k _ (.mk a (C (.str q)) rfl)⟩
 ·have l:(kU w::at'.map (λz=>kU z.1)++B).length<=13:=by
   simp only[Ð,ŕ,length_map]
   exact å (á hl) hf
  have eu:((w::at'.map (·.1)).map λq=>AV.str (kU q))++B.map .str=(kU w::at'.map (λz=>kU z.1)++B).map .str:=by
   simp only[ò,Ī,Ī,ĥ,ĥ];rfl
  refine io (mq (by rw[eu,length_map];exact Â l Zz)) ?_
  rw[eu]
  have x1:∀u∈kU w::at'.map (λz=>kU z.1)++B,u∈U4:=λu l=>by
   rcases ý.mp l with m|m
   ·rcases Ċ.mp m with rfl|m
    ·refine cC (ç K4 h) _ λa J J=>?_
     exact a.key.2
    ·obtain⟨z,hz,rfl⟩:=ě.mp m
     refine cC (í T4 (hk z hz).1) _ λa J J=>?_
     exact a.key.2
   ·exact h4 u m
  refine ay (Oh (Â l Zz)) (ay (Ok ?_) ?_)
  ·exact É (Â (dA _ _) (Â (ó (ė _)) l)) Zz
  ·rw[wQ (gC _ _ Χ) (λa=>iL) x1]
   exact k
def Wk (m:us.length<=4) (k:N (V3 g t A E (C (.fl ((us.filter λu:Ì=>!(!f.rw&&decide (u = ""))).map .str))) j y r À Y Q O G i H D L c I d) (S3 ned x)) :
 j9 acT (V3 g t A E (C (.fl (us.map .str))) j y r À Y Q O G i H D L c I d) (S3 ned x) N RR X:=by
 refine bB λsrc hs=>?_
 refine iu (Wp:=O2 (V3 g t A E (C (.fl (us.map .str))) j y r À Y Q O G i H D L c I d)) (hs _) (λq:Ì=>.str q) (λu:Ì=>!(!f.rw&&decide (u = ""))) (λq=>.str q) us (.mk U U rfl) (É m Zz) (λq hq V b K l z k=>?_) λV l=>k
 refine l _ λa b' e=>?_
 subst e
 have k:=k _ (.mk a (C (.str q)) rfl)
 cases e:decide (q = "")with
 | false=>rw[e,b_]at k;exact dD (b:=!decide (q = "")) (by rw[e];rfl) ⟨z,k⟩
 | true=>
  rw[e,YD,H_]at k
  refine db (b:=!decide (q = "")) (by rw[e];rfl) ?_
  cases h:f.rw with
  | true=>rw[h]at k;exact dD h ⟨z,k⟩
  | false=>rw[h]at k;exact db h k
def Wl (m:us.length<=4) (hn:ned.length<=1000) (k:N (V3 g t A E (C (.fl (us.map .str))) j y r À Y Q O G i H D L c I d) (S3 (ned++us.filter λu=>!ned.contains u) x)) :
 ka acT (V3 g t A E (C (.fl (us.map .str))) j y r À Y Q O G i H D L c I d) (S3 ned x) N RR X:=by
 refine bB λsrc hs=>?_
 refine iu (Wp:=O2 (V3 g t A E (C (.fl (us.map .str))) j y r À Y Q O G i H D L c I d)) (hs _) (λq:Ì=>.str q) (λu=>!ned.contains u) (λq=>.str q) us (.mk U U rfl) (É m Zz) (λq hq V b K z hb k=>?_) λV z=>?_
 ·refine z _ λa b' e=>?_
  subst e
  have k:=k _ (.mk a (C (.str q)) rfl)
  refine tJ (c:=!ned.contains q) (Õ (ε (!·)) OX) ?_
  cases e : !ned.contains q with
  | true=>rw[e]at k;exact⟨hb,k⟩
  | false=>rw[e]at k;exact k
 ·refine ay (FJ (l:=1) (xs:=ned.map .str) rfl (by simp only[length_map,length_map];exact Â (å hn (Â (ķ ..) m)) Zz)) ?_
  rw[<-ò]
  exact k
end
def TK (ned:ZC):È (Ì×AV):=ned.map λu=>(u,.str (pN (ned.idxOf u)))
section
variable {c:C3} {N:NK} {RR:RK} {X:XK} {ned:ZC} {pv:ZB} {us:ZC} {B D G H I L x O Q À Y E A j w x0 v m t:Æ AV} {n:Ó} {acT:aj} {Z:aa} {P:fi} {nd:ZC} {pf:ZF} {g:Ì->Ì}
def Od {u:Ì} (h:u∈ned):fq .lIndex [.loc 1,.str u] (S3 ned pv)=C (.int (ned.idxOf u:Ó),S3 ned pv):=by
 show(aJ (ned.map AV.str)).bind _=_
 rw[strs_map]
 exact Û (Ú.mpr h)
def Jy {i:Ó} (h:i<1000):fq .str [.int (i:Į)] Z=C (.str (dj (i:Į)),Z):=Û (Þ h Zz)
def Oi {ps:ZE} (h:ps.length<5):fq .sorted [.fl (ps.map ae)] Z=C (.fl ((aW ps).map ae),Z):=by
 show(gt (ps.map ae)).bind _=_
 rw[kJ]
 exact Û h
def Wm (z:ned.length<=10) (hn:ned.Nodup) (k:N (V3 j w A E x0 v m t À Y Q O G H I D (if f.rw=Í then C (cM (TK ned))else x) c L B) (S3 ned pv)) :
 ke acT (V3 j w A E x0 v m t À Y Q O G H I D x c L B) (S3 ned pv) N RR X:=by
 cases h:f.rw with
 | false=>
  rw[h,Ý ß]at k
  exact db h k
 | true=>
  rw[h,Û rfl]at k
  refine dD h (g5 (l:=1) (xs:=ned.map .str) rfl λsrc hs=>?_)
  refine FU (Wp:=O2 (V3 j w A E x0 v m t À Y Q O G H I D x c L B)) (hs _ rfl) (λq:Ì=>.str q) (λJ=>Í) (λq=>q) (λu=>.str (pN (ned.idxOf u))) ned (.mk U U rfl) (É z Zz) (by rw[abg (λJ=>rfl)];exact hn) (λq r V b K y i k=>?_) λV y=>?_
  ·refine y _ λa b' e=>?_
   subst e
   have d:ned.idxOf q<10:=ô (Ξ r) z
   refine ay (Od r) (ay (Jy (Þ d Zz)) (aR (a:="n") (Â (Ø (Bi _ d) _) Zz) ?_))
   exact⟨i,k _ (.mk a (C (.str q)) rfl)⟩
  ·rw[YY.mpr λJ J=>rfl]
   exact k
def Eu {src:aa->Prop} (hs:src Z) {W:Vs} {K:Vs×È AV->aa->Prop}:∀(P:fi) (a b d:Æ AV) (acc:ZC),(∀z∈P,z.2.length<=4)->acc.length+4 * P.length<90000->
 (∀a b d,K (a::b::d::W,(acc++abv P).map .str) Z)->aY src ((cn (aN 1) t1 (eS (eN 1) (eL (.int 1))) (cm (aN 2) t1 (vg (eN 2)))) acT) (P.map (fF nd)) (a::b::d::W,acc.map .str) Z K:=by
 intro zz;induction zz with
 | nil=>
  intro a b d acc _ _ k
  have k:=k a b d
  rw[show abv []=[]from rfl,Ę]at k
  exact bx hs k
 | cons z P x0=>
  exact @λa b d acc h hl k=>⟨hs,by
   have h2:=h z (ã ..)
   refine aL (fz (b:=.fl (z.2.map .str))).2 (bB λsrc' i=>?_)
   have e:∀(l:ZC) (b:ZB),l.foldl (λb u=>b++[AV.str u]) b=b++l.map .str:=λl=>by
    induction l with
    | nil=>exact λb=>(Ę b).symm
    | cons u l ih=>intro b;simp only[YZ,ih,ø];rfl
   refine lO (Wp:=O3 W) (i _) (λq:Ì=>.str q) (λb u=>b++[.str u]) xe (λb u=>by rw[Ð];exact Ë _) z.2 _ _ (.mk _ _ _ rfl) (by rw[length_map];exact É (Ø h2 _) (É (Ø (ħ _ _) _) (Þ hl Zz))) (λq hq V b K r hb k=>?_) λV r=>?_
   ·refine r _ λa b' d e=>?_
    subst e
    exact⟨hb,k _ (.mk _ _ _ rfl)⟩
   ·refine r _ λa b' d ev=>?_
    subst ev
    rw[e,<-ò]
    refine x0 a b' d (acc++z.2) (λy hy=>h y (à _ hy)) (É ?_ hl) λa b d=>?_
    ·simp only[Ð,Ď,ı z.2.length]
     exact Ø (Ø h2 _) _
    ·have k:=k a b d
     rw[show abv (z::P)=z.2++abv P from rfl]at k
     rw[ø]
     exact k⟩
def Wn (i:us.length<=4) (hp:∀z∈P,z.2.length<=4) (hP:P.length<1000) (hf:∀u∈us,ak u pf=C (.str (g u))) (k:N (V3 j w A E (C (.fl (us.map .str))) (C (.fl ((aW ((us.filter λu=>!(abv P).contains u).map λu=>(g u,u))).map ae))) m t À Y Q O G H I D (C (cM pf)) c L B) (S3 ned (P.map (fF nd)))) :
 kf acT (V3 j w A E (C (.fl (us.map .str))) v m t À Y Q O G H I D (C (cM pf)) c L B) (S3 ned (P.map (fF nd))) N RR X:=by
 refine bB λsrc y=>?_
 refine iu (Wp:=O2 (V3 j w A E (C (.fl (us.map .str))) v m t À Y Q O G H I D (C (cM pf)) c L B)) (y _) (λq:Ì=>.str q) (λu=>!(abv P).contains u) (λu=>ae (g u,u)) us (.mk U U rfl) (É i Zz) (λq hq V b K d hb k=>?_) λV d=>?_
 ·refine d _ λa b' e=>?_
  subst e
  have k:=k _ (.mk a (C (.str q)) rfl)
  refine g5 (l:=2) (xs:=P.map (fF nd)) rfl λsrc y=>?_
  refine Eu (y _ rfl) P U U U [] hp (by rw[ω,ė];exact Þ (Nat.mul_lt_mul_of_pos_left hP Zz) Zz) λJ J J=>?_
  refine tJ (c:=!(abv P).contains q) (Õ (ε (!·)) (ny (ts:=[]++abv P))) ?_
  cases e : !(abv P).contains q with
  | false=>rw[e]at k;exact k
  | true=>rw[e]at k;exact aL (br d7 (hf q hq)) ⟨hb,k⟩
 ·refine ay (r:=(.fl ((aW ((us.filter λu=>!(abv P).contains u).map λu=>(g u,u))).map ae),S3 ned (P.map (fF nd)))) ?_ k
  have h:=Oi (Z:=S3 ned (P.map (fF nd))) (ps:=(us.filter λu=>!(abv P).contains u).map λu=>(g u,u)) (by rw[length_map];exact ej (Â (ķ ..) i))
  rw[ĥ]at h
  exact h
end
def Pf (nd:ZC) (pf:ZF):Prop:=∀u∈U4,ak u pf=if u∈Dm nd then C (.str (df nd u))else U
noncomputable def Bf (z:Ì×Ì):Ì:=(((" xmlns:"++z.1)++"=\"")++z.2)++"\""
section
variable {c:C3} {N:NK} {RR:RK} {X:XK} {ned:ZC} {pv:ZB} {w due name:Ì} {us:ZC} {D G H m I i x L O Q À Y E A g r x0 x1 j:Æ AV} {n:Ó} {acT:aj} {Z:aa} {nd:ZC} {pf:ZF} {u t:Ì} {ns:ZE}
set_option tactic.hygienic true in def Sn (h:Pf nd pf) (B:u∈U4):(pf.map (·.1)).contains u=decide (u∈Dm nd):=by
 rw[gI,h u B]
 split<;>rename_i q
 ·exact(õ q).symm
 ·exact(ü q).symm
def nW (h:Pf nd pf) (V:u∈U4) (B:u∈Dm nd):ak u pf=C (.str (df nd u)):=(h u V).trans (Û B)
def yJ (h:u∈Dm nd):bn u t nd=(df nd u++":")++t:=by
 unfold bn
 rw[rQ h,Ý ß]
 unfold ge
 rw[G_]
def PU (h:oH nd u) (h':u∉Dm nd):bn u t nd = ""++t:=by
 unfold bn
 rw[Û (h.resolve_left h')]
 exact(G_ t).symm
def U5 (hw:w∈T4) (z:Nd nd) (hu:oH nd (kU w)) (y:Pf nd pf) (kk:N (V3 A g E Y r x0 (C (.str (bn (kU w) (kT w) nd))) j Q À O L H (C (.str w)) I G (C (cM pf)) c i D) (S3 ned pv)) :
 iy (Dn (n+1)) (V3 A g E Y r x0 x1 j Q À O L H (C (.str w)) I G (C (cM pf)) c i D) (S3 ned pv) N RR X:=by
 have V:=ç K4 hw
 refine cC V _ λnm tl J=>?_
 have q:=nm.key.2
 obtain⟨_,wl,ws⟩:=TG w V
 have B:∀s:Ì,s.length<=101->s++kT w=bn (kU w) (kT w) nd->∀Z,Z=S3 ned pv->ok (biZ .sSplit [.str w,.str "}"] Z) λp=>ok (getZ p.2 p.1 (.int (-1))) λv=>ok (binZ p.2 .Add (.str s) v) λv=>N (V3 A g E Y r x0 (C v) j Q À O L H (C (.str w)) I G (C (cM pf)) c i D) p.2:=λs d e Z l=>by
  subst l
  refine ay (gE (c:=125) (Â wl Zz)) ?_
  simp only[show ğ w ⟨#[125]⟩=_ from ws,ò]
  refine aL Gq (aR (Â (å d tl) Zz) ?_)
  rw[e];exact kk
 refine BQ V (tJ (c:=decide (kU w∈Dm nd)) (Nu.trans (Õ C (Sn y q))) ?_)
 by_cases hd:kU w∈Dm nd
 ·rw[õ hd]
  refine BQ V (aL (br d7 (nW y q hd)) (aR (b:=":") (Â (Ò (ii z hd).2 _) Zz) ?_))
  exact B _ (by rw[â];exact Ò (ii z hd).2 _) (yJ hd).symm _ rfl
 ·rw[ü hd]
  exact B "" Zz (PU hu hd).symm _ rfl
def U6 (hP:pv.length<1000) (kk:N (V3 A g E Y (C (.fl (us.map .str))) x0 (C (.str name)) j Q À O L H m I G x c i D) (S3 ned (pv++[.tup [.str name,.fl (us.map .str)]]))) :
 iz acT (V3 A g E Y (C (.fl (us.map .str))) x0 (C (.str name)) j Q À O L H m I G x c i D) (S3 ned pv) N RR X:=
 bS (l:=2) (xs:=pv) rfl (Þ hP Zz) kk
def LD {z:Ì×Ì} (B:z.1.length<=100) (V:z.2.length<=100):(Bf z).length<=300:=by
 unfold Bf
 rw[â,â,â,â]
 exact Â (Ò (å (Ò (Ø B _) _) V) _) Zz
def ND (V:∀z∈ns,z.1.length<=100/\z.2.length<=100) (l:ns.length<=4) (q:name.length<=300):(û "" (ns.map Bf)).length<=1200/\(("<"++name)++û "" (ns.map Bf)).length<=1501:=by
 have hz:((ns.map Bf).map (·.length)).sum<=4 * 300:=Â (rf (B:=300) _ λy d=>by obtain⟨z,hz,rfl⟩:=ě.mp d;exact LD (V z hz).1 (V z hz).2) (θ 300 (Â (ó (length_map ..)) l))
 rw[<-dF]at hz
 refine⟨hz,?_⟩
 rw[â,â]
 exact å (Ø q 1) hz
def U7 (hn:∀z∈ns,z.1.length<=100/\z.2.length<=100) (hl:ns.length<=4) (hm:name.length<=300) (hd:due.length<=16000000) (kk:N (V3 A g E Y r (C (.fl (ns.map ae))) (C (.str name)) j Q À O L H m I G x c (C (.str (due++(("<"++name)++û "" (ns.map Bf))))) D) (S3 ned pv)) :
 iA acT (V3 A g E Y r (C (.fl (ns.map ae))) (C (.str name)) j Q À O L H m I G x c (C (.str due)) D) (S3 ned pv) N RR X:=by
 refine aR (a:="<") (Â (Ø hm _) Zz) (bB λsrc hs=>?_)
 refine xu (Wp:=O3 (V3 A g E Y r (C (.fl (ns.map ae))) (C (.str name)) j Q À O L H m I G x c (C (.str due)) D)) (hs _) ae (λz=>.str (Bf z)) ns (.mk U U U rfl) (É hl Zz) (λz hz V b K y hb k=>?_) λV y=>?_
 ·refine y _ λa b' d e=>?_
  subst e
  obtain⟨B,q⟩:=hn z hz
  refine aR (a:=" xmlns:") (Â (Ø B _) Zz) ?_
  refine aR (b:="=\"") (by rw[â];exact Â (Ò (Ø B _) _) Zz) ?_
  refine aR (b:=z.2) (by rw[â,â];exact Â (å (Ò (Ø B _) _) q) Zz) ?_
  refine aR (b:="\"") (by rw[â,â,â];exact Â (Ò (å (Ò (Ø B _) _) q) _) Zz) ?_
  exact⟨hb,k _ (.mk a (C (.str z.1)) (C (.str z.2)) rfl)⟩
 ·have e:ns.map (λz=>AV.str (Bf z))=(ns.map Bf).map .str:=by rw[ĥ];rfl
  rw[e]
  obtain⟨jl,l⟩:=ND hn hl hm
  refine nB (Â (ó (dF _).symm) (Â jl Zz)) ?_
  exact aR (by rw[<-â];exact Â l Zz) (ir (a:=due) (Â (å hd l) Zz) kk)
variable {d:ZB} {v:Ì} {B l V:Æ AV} {at':ZE} {z:Ì×Ì} {o:Æ (Ì×Ì)} {q:Ì×Ì}
def Jv {kvs:ZF} {s:Ì}:fq .dGet [cM kvs,.str s] Z=C ((ak s kvs).getD .none,Z):=by
 refine(show _=((aC Z (cM kvs)).map λkvs=>((ak s kvs).getD .none,Z))from rfl).trans ?_
 rw[d7];rfl
def EB (z:Ì×Ì):Æ (Ì×Ì):=if fB z.1=Í then hvP z.2 else U
def PS (n1:(at'.map (·.1)).Nodup) (hz:z∈at'):(ak z.1 (dM at')).getD .none=iJ (EB z):=by
 unfold EB
 by_cases h:fB z.1=Í
 ·rw[Û h,Bs n1 (þ.mpr ⟨hz,h⟩)];rfl
 ·rw[Ý h]
  cases e:ak z.1 (dM at')with
  | none=>rfl
  | some y=>
   have:=gI.trans (show(ak z.1 (dM at')).isSome=Í by rw[e];rfl)
   rw[Ú]at this
   unfold dM at this
   rw[ĥ]at this
   obtain⟨z',x0,t⟩:=ě.mp this
   have t:z'.1=z.1:=t
   exact absurd (t▸(þ.mp x0).2) h
def Wo (y:(at'.map (·.1)).Nodup) (hz:z∈at') (kk:N (V3 O Q L (C (iJ (EB z))) À V Y (C (.str z.2)) (C (.str z.1)) (C (cM (dM at'))) I H B D G j r c A (C (bE at'))) (S3 ned d)) :
 kg acT (V3 O Q L l À V Y m (C (.str z.1)) (C (cM (dM at'))) I H B D G j r c A (C (bE at'))) (S3 ned d) N RR X:=by
 refine aL (br fZ (ji y z hz)) (ay Jv ?_)
 rw[PS y hz]
 exact kk
def Bd (nd:ZC) (q:Ì×Ì):Ì:=(df nd ((cq (C q)).getD "")++":")++q.2
def Iw (h:cq (C q)=C u):ak q.1 (aq.map λz=>(z.2,AV.str z.1))=C (.str u):=by
 rw[mM]
 have h:(aq.find? λz=>decide (z.2=q.1)).map (·.1)=C u:=h
 cases e:aq.find? λz=>decide (z.2=q.1)with
 | none=>rw[e]at h;cases h
 | some y=>rw[e]at h;exact Õ (λu=>C (AV.str u)) (Ä h)
def Ws (hn:Nd nd) (hf:Pf nd pf) (ho:∀q,o=C q->q.2.length<=1000/\∃u,cq (C q)=C u/\u∈U4/\u∈Dm nd) (kk:N (V3 O Q L (C (iJ o)) À V Y (C (.str (o.elim v (Bd nd)))) i g I H B D G j (C (cM pf)) c A E) (S3 ned d)) :
 ki acT (V3 O Q L (C (iJ o)) À V Y (C (.str v)) i g I H B D G j (C (cM pf)) c A E) (S3 ned d) N RR X:=by
 cases o with
 | none=>exact kk
 | some q=>
  obtain⟨hl,u,t,h4,y⟩:=ho q rfl
  have pl:=(ii hn y).2
  refine aL (fz (a:=.str q.1) (b:=.str q.2)).1 (aL (br (by rw[jC];exact d7) (Iw t)) (aL (br d7 (nW hf h4 y)) ?_))
  refine aR (b:=":") (Â (Ò pl _) Zz) (aL (fz (a:=.str q.1) (b:=.str q.2)).2 ?_)
  refine aR (b:=q.2) (by rw[â];exact Â (å (Ò pl _) hl) Zz) ?_
  have e:(C q).elim v (Bd nd)=(df nd u++":")++q.2:=by
   show(df nd ((cq (C q)).getD "")++":")++q.2=_
   rw[t];rfl
  rw[e]at kk
  exact kk
def NH (nd:ZC) (key:Ì):Ì:=if(kU key).length !=0 then df nd (kU key)++":" else ""
def Wt (hn:Nd nd) (hf:Pf nd pf) (hz:z.1∈K4) (hu:oH nd (kU z.1)) (kk:N (V3 O Q L l À V Y m (C (.str z.1)) g I H B D G (C (.str (NH nd z.1))) (C (cM pf)) c A E) (S3 ned d)) :
 kj (Dn (n+1)) (V3 O Q L l À V Y m (C (.str z.1)) g I H B D G j (C (cM pf)) c A E) (S3 ned d) N RR X:=by
 have y:=í T4 hz
 refine cC y _ λnm J J=>?_
 have h4:=nm.key.2
 obtain⟨ws,_⟩:=TG z.1 y
 have ne:Ļ z.1 U (C 1) = "{"->(kU z.1).length≠0:=(show ∀q∈T4++K4,Ļ q U (C 1) = "{"->(kU q).length≠0 by decide +kernel) z.1 y
 unfold NH at kk
 rcases ws with⟨a,_⟩|⟨a,b⟩
 ·have t:kU z.1∈Dm nd:=hu.resolve_right λq=>ne a (by rw[of_decide_eq_true (è.mp q).2];rfl)
  rw[Û (ώ.mpr (ne a))]at kk
  exact dD (õ a) (BQ y (aL (br d7 (nW hf h4 t)) (aR (b:=":") (Â (Ò (ii hn t).2 _) Zz) kk)))
 ·rw[b]at kk
  exact db (ü a) kk
def Ww {y:Ì} (hz:z.1∈K4) (hp:y.length<=101) (hv:v.length<=2000) (hd:due.length<=16000000) (kk:N (V3 O Q L l À V Y (C (.str v)) (C (.str z.1)) g I H B D G (C (.str y)) r c (C (.str (due++(((((" "++y)++kT z.1)++"=\"")++IZ v)++"\"")))) E) (S3 ned d)) :
 kl acT (V3 O Q L l À V Y (C (.str v)) (C (.str z.1)) g I H B D G (C (.str y)) r c (C (.str due)) E) (S3 ned d) N RR X:=by
 have t:=í T4 hz
 refine cC t _ λJ tl J=>?_
 obtain⟨_,wl,ws⟩:=TG z.1 t
 have nl:=Â (t8 v) (Ą 5 hv)
 have i1:(" "++y).length<=102:=by rw[â];exact Ø hp 1
 have i2:((" "++y)++kT z.1).length<=112:=by rw[â];exact å i1 tl
 have i3:(((" "++y)++kT z.1)++"=\"").length<=114:=by rw[â];exact Ò i2 2
 have i4:((((" "++y)++kT z.1)++"=\"")++IZ v).length<=10114:=by rw[â];exact å i3 nl
 refine aR (a:=" ") (Â (Ø hp _) Zz) (ay (gE (c:=125) (Â wl Zz)) ?_)
 rw[show ğ z.1 ⟨#[125]⟩=_ from ws,ò]
 refine aL Gq (aR (Â (å i1 tl) Zz) (aR (b:="=\"") (Â (Ò i2 _) Zz) ?_))
 refine⟨Â (å hv (θ _ (á hv))) Zz,?_⟩
 refine aR (Â (å i3 nl) Zz) (aR (b:="\"") (Â (Ò i4 _) Zz) ?_)
 refine ir (a:=due) (Â (å hd (show _<=10115 from ?_)) Zz) kk
 rw[â]
 exact Ò i4 1
end
set_option tactic.hygienic true in def L8 {at':ZE}:gw (at'.map (·.1))=(aW at').map (·.1):=by
 refine(iN ((ň at' gq).map _) (Ya.mpr ((jA fE at').imp λ{a b} h=>?_))).symm
 unfold gq at h
 split at h<;>rename_i e
 ·exact õ (e▸List.le_refl _)
 ·exact h
def Ef (a:Ì) (r:ZC):û "" (a::r)=a++û "" r:=bF (by rw[cJ,aE,cJ];rfl)
def E7 (nd:ZC) (z:Ì×Ì):Ì:=((((" "++NH nd z.1)++kT z.1)++"=\"")++IZ ((EB z).elim z.2 (Bd nd)))++"\""
section
variable {c:C3} {N:NK} {RR:RK} {X:XK} {ned:ZC} {i:ZB} {due v run:Ì} {d D L O Q t x0 j w G m H À V Y E A g I:Æ AV} {n:Ó} {acT:aj} {Z:aa} {nd:ZC} {pf:ZF} {at':ZE} {z:Ì×Ì} {o:Æ (Ì×Ì)}
def Og (h:at'.length<64):fq .sorted [bE at'] Z=C (.fl (((aW at').map (·.1)).map .str),Z):=by
 show l9 (bE at') Z=_
 unfold l9
 simp only[fZ]
 refine(Û (by unfold am;rw[length_map];exact h)).trans ?_
 unfold am
 rw[ĥ,<-L8];rfl
def Je (nd:ZC) (o:Æ (Ì×Ì)):Prop:=∀q,o=C q->q.2.length<=1000/\∃u,cq (C q)=C u/\u∈U4/\u∈Dm nd
def yv (y:Nd nd) (hv:v.length<=1000) (h:Je nd o):(o.elim v (Bd nd)).length<=1101:=by
 cases o with
 | none=>exact Â hv Zz
 | some q=>
  obtain⟨l,u,r,_,B⟩:=h q rfl
  show((df nd ((cq (C q)).getD "")++":")++q.2).length<=_
  rw[r,â,â]
  exact å (Ò (ii y B).2 1) l
set_option tactic.hygienic true in def HX (l:Nd nd) (h4:kU z.1∈U4) (y:oH nd (kU z.1)):(NH nd z.1).length<=101:=by
 unfold NH
 split<;>rename_i q
 ·have B:kU z.1∈Dm nd:=y.resolve_right λe=>ώ.mp q (by rw[of_decide_eq_true (è.mp e).2];rfl)
  rw[â]
  exact Ò (ii l B).2 1
 ·exact ï _
def IN (pl:(NH nd z.1).length<=101) (B:(kT z.1).length<=10) (l:((EB z).elim z.2 (Bd nd)).length<=1101):(E7 nd z).length<=12000:=by
 unfold E7
 simp only[â,â,â,â,â]
 exact Â (Ò (å (Ò (å (Ø pl _) B) _) (Â (t8 _) (Ą 5 l))) _) Zz
def Qn {src:aa->Prop} (hs:∀Z,src Z) (q:Nd nd) (r:Pf nd pf) (n1:(at'.map (·.1)).Nodup):∀(M:ZE) (due:Ì) (D G H I:Æ AV),(∀z∈M,z∈at'/\z.1∈K4/\z.2.length<=1000/\oH nd (kU z.1)/\Je nd (EB z))->due.length+12000 * M.length<=15000000->
 (∀D G H I,N (V3 V Y À H E A g I G (C (cM (dM at'))) w j L O Q D (C (cM pf)) c (C (.str (due++û "" (M.map (E7 nd))))) (C (bE at'))) (S3 ned i))->
 aY src (λx vs Z N=>(aN 33) (Dn (n+1)) x vs Z (λvs Z=>qu (Dn (n+1)) vs Z N RR X) X) (M.map λz=>.str z.1) (V3 V Y À H E A g I G (C (cM (dM at'))) w j L O Q D (C (cM pf)) c (C (.str due)) (C (bE at'))) (S3 ned i) N:=by
 intro zz;induction zz with
 | nil=>
  exact @λdue D G H I J J kk=>bx (hs _) (by
   have kk:=kk D G H I
   exact kk)
 | cons z M ih=>
  exact @λdue D G H I h hl kk=>⟨hs _,by
   obtain⟨hz,l,hv,hu,ho⟩:=h z (ã ..)
   refine cC (í T4 l) _ λnm tl J=>?_
   have pl:=HX q nm.key.2 hu
   have vl:=yv q hv ho
   have hd:due.length<=15000000:=Â (ë _ _) hl
   refine az (S:=kg) (B:=qx) (Wo n1 hz ?_)
   refine az (S:=ki) (B:=qy) (Ws q r ho ?_)
   refine az (S:=kj) (B:=qz) (Wt q r l hu ?_)
   refine az (S:=kl) (B:=s0) (Ww l pl (Â vl Zz) (Â hd Zz) ?_)
   refine ih (due++E7 nd z) _ _ _ _ (λy hy=>h y (à _ hy)) ?_ λD G H I=>?_
   ·have tx:=IN pl tl vl
    rw[â,Ď]
    refine Â (Ø (Ò tx _) _) (Â (ó ?_) hl)
    simp only[ŕ,p_,ı 12000]
   ·have kk:=kk D G H I
    rw[Ī,Ef,<-ό]at kk
    exact kk⟩
def U8 (q:Nd nd) (B:Pf nd pf) (r:(at'.map (·.1)).Nodup) (hz:at'.length<=3) (h:∀z∈at',z.1∈K4/\z.2.length<=1000/\oH nd (kU z.1)/\Je nd (EB z)) (l:due.length<=14000000)
 (kk:∀D G H I,N (V3 V Y À H E A g I G (C (cM (dM at'))) w j L O Q D (C (cM pf)) c (C (.str (due++û "" ((aW at').map (E7 nd))))) (C (bE at'))) (S3 ned i)) :
 iB (Dn (n+1)) (V3 V Y À H E A g I G (C (cM (dM at'))) w j L O Q D (C (cM pf)) c (C (.str due)) (C (bE at'))) (S3 ned i) N RR X:=by
 refine ay (Og (É hz Zz)) (bB λsrc y=>?_)
 rw[ĥ]
 have pl:(aW at').length=at'.length:=(ň ..).length_eq
 refine Qn y q B r (aW at') due _ _ _ _ (λz hz=>⟨ż.mp hz,h z (ż.mp hz)⟩) ?_ kk
 rw[pl]
 exact Â (å l (Ą 12000 hz)) Zz
def U9 (B:due.length<=16000000) (kk:N (V3 V Y À H E A g I G m w j L O Q D x0 c (C (.str (due++">"))) d) (S3 ned i)) :
 iE acT (V3 V Y À H E A g I G m w j L O Q D x0 c (C (.str due)) d) (S3 ned i) N RR X:=
 ir (a:=due) (b:=">") (Â (Ò B _) Zz) kk
def Vb (hn:Nd nd) (r:Pf nd pf) (ho:Je nd o) (kk:N (V3 V Y À H E A g I G m (C (iJ o)) (C (.str (o.elim run (Bd nd)))) L O Q D (C (cM pf)) c t d) (S3 ned i)) :
 iF acT (V3 V Y À H E A g I G m (C (iJ o)) (C (.str run)) L O Q D (C (cM pf)) c t d) (S3 ned i) N RR X:=by
 cases o with
 | none=>exact kk
 | some q=>
  obtain⟨hl,u,l,y,B⟩:=ho q rfl
  have pl:=(ii hn B).2
  refine aL (fz (a:=.str q.1) (b:=.str q.2)).1 (aL (br (by rw[jC];exact d7) (Iw l)) (aL (br d7 (nW r y B)) ?_))
  refine aR (b:=":") (Â (Ò pl _) Zz) (aL (fz (a:=.str q.1) (b:=.str q.2)).2 ?_)
  refine aR (b:=q.2) (by rw[â];exact Â (å (Ò pl _) hl) Zz) ?_
  have e:(C q).elim run (Bd nd)=(df nd u++":")++q.2:=by
   show(df nd ((cq (C q)).getD "")++":")++q.2=_
   rw[l];rfl
  rw[e]at kk
  exact kk
end
section
variable {nd us:ZC} {P:fi} {w run v:Ì} {at':ZE} {qt:Æ Ì} {ps:ZC} {q:Ì×Ì} {a b:Ì} {z:Ì×Ì} {c:C3}
def Hz (h:∀a b,hvP v=C (a,b)->I8 v a b):(nL v).map kU=cq (hvP v):=by
 cases e:hvP v with
 | none=>
  rw[vX,e,fK];rfl
 | some B=>
  rw[Hx (h B.1 B.2 e) e]
  rw[fK]
  show _=(aq.find? λz=>decide (z.2=B.1)).map (·.1)
  cases e':aq.find? λz=>decide (z.2=B.1)with
  | none=>rfl
  | some z=>exact Õ C (tP (g0 z (ϲ e')).1)
def BH {o:Æ (Ì×Ì)} {u:Ì} (h:cq o=C u):u∈rJ:=by
 rw[fK]at h
 cases o with
 | none=>cases h
 | some q=>
  obtain⟨z,hz,rfl⟩:=Ħ.mp (show(aq.find? λz=>decide (z.2=q.1)).map (·.1)=C u from h)
  exact(g0 z (ϲ hz)).1
def Sv (B:qt=Ey ⟨"start",w,at',ps⟩ run):qt=(iT w run).map λJ=>run:=by
 subst B
 delta Ey Br iT
 split
 ·cases hvP run<;>rfl
 ·rfl
def wf (B:qt=(iT w run).map λJ=>run) {o:Æ (Ì×Ì)} (h:iT w run=o):∀q,o=C q->qt=C run/\hvP run=C q:=λq e=>by
 rw[h,e]at B
 refine⟨B,?_⟩
 unfold iT at h
 split at h
 ·exact h.trans e
 ·rw[<-h]at e;cases e
def zv (v:Ì):badT' v=dW (hvP v):=by
 unfold badT' dW
 rfl
def UO:dW U=Ï:=by rw[v4];rfl
def U3:cq U=U:=by rw[fK];rfl
section
def zy (B:qt=(iT w run).map λJ=>run):de qt at'=(rP (X0 w run at')).head?:=by
 delta de rP X0 g8
 rw[head?_map,head?_filter,aaq,ϭ,find?_map,find?_map]
 rw[show(badT' ∘ λz:Ì×Ì=>z.2)=((λz:Ì×Æ (Ì×Ì)=>dW z.2) ∘ λz:Ì×Ì=>(z.2,hvP z.2))from funext λz=>zv z.2]
 generalize find? ((λz:Ì×Æ (Ì×Ì)=>dW z.2) ∘ λz:Ì×Ì=>(z.2,hvP z.2)) (at'.filter λz=>fB z.1)=r
 cases e:iT w run with
 | none=>rw[e]at B;subst B;dsimp only;rw[UO];cases r<;>rfl
 | some q=>
  obtain⟨D,G⟩:=wf B e q rfl
  simp only[D,show(C run).toList=[run]from rfl,ϭ,zv,G]
  show _=ε _ (match dW (C q)with|true=>_|false=>_)
  cases dW (C q)with
  | true=>rfl
  | false=>cases r<;>rfl
def Gh {B I:Type} {g h:B->Æ I}:∀{l:È B},(∀a∈l,g a=h a)->l.filterMap g=l.filterMap h:=by
 intro H;induction H with
 | nil=>
  exact @λJ=>rfl
 | cons a l G=>
  exact @λe=>by rw[w_,w_,e a (ã ..),G λb D=>e b (à _ D)]
def CH (h:Sc w at' qt) (D:qt=(iT w run).map λJ=>run):(g8 qt at').filterMap (λv=>(nL v).map kU)=(X0 w run at').filterMap λz=>cq z.2:=by
 have B:=λv hv=>(iR (v:=v) h hv).2
 unfold g8 at B ⊢
 unfold X0
 rw[filterMap_append,w_,aeg,aeg]
 have H:((at'.filter λz=>fB z.1).filterMap ((λv=>(nL v).map kU) ∘ λz=>z.2))=(at'.filter λz=>fB z.1).filterMap ((λz:Ì×Æ (Ì×Ì)=>cq z.2) ∘ λz=>(z.2,hvP z.2)):=
  Gh λz hz=>Hz (B z.2 (í _ (Ĭ hz)))
 rw[H]
 cases e:iT w run with
 | none=>rw[e]at D;subst D;dsimp only;rw[U3];rfl
 | some q=>
  obtain⟨G,I⟩:=wf D e q rfl
  have:=Hz (B run (by rw[G];exact ç _ (Ù.mpr rfl)))
  rw[I]at this
  rw[G,show(C run).toList=[run]from rfl,w_,this]
  dsimp only
  cases cq (C q)<;>rfl
end
end
def EN (l:ZE):aW (l.map λz=>(("xmlns:" : Ì)++z.1,z.2))=(aW l).map λz=>(("xmlns:" : Ì)++z.1,z.2):=by
 refine(order_eq fE qV ((ň l gq).map _) (Ya.mpr ((jA fE l).imp λ{a b} h=>?_))).symm
 unfold gq at h ⊢
 dsimp only
 by_cases e:a.1=b.1
 ·rw[Û e]at h
  rw[Û (by rw[e])];exact h
 ·rw[Ý e]at h
  rw[Ý λq=>e (bF (append_cancel_left (show aB "xmlns:"++aB a.1=aB "xmlns:"++aB b.1 by rw[<-aE,<-aE,q])))]
  refine õ ?_
  show aB ("xmlns:"++a.1)<=aB ("xmlns:"++b.1)
  rw[aE,aE]
  exact append_left_le (of_decide_eq_true h)
def Si:∀u∈U4,IZ u=u:=by decide +kernel
def Px {p u:Ì} (h:u∈U4):atT ("xmlns:"++p,u)=Bf (p,u):=by
 unfold atT Bf
 dsimp only
 rw[Si u h,G_,<-ό];rfl
def He (a b:ZC):û "" (a++b)=û "" a++û "" b:=bF (by rw[aE,cJ,cJ,cJ,ò,Ϯ])
section
variable {nd us:ZC} {B:ZC} {at':ZE} {z:Ì×Ì} {q:Ì×Ì} {a b v:Ì}
def Pz:(aW ((js nd B us).map HK)).map atT=(aW (((iS us).filter λu=>!B.contains u).map λu=>(df nd u,u))).map Bf:=by
 have e:(js nd B us).map HK=(((iS us).filter λu=>!B.contains u).map λu=>(df nd u,u)).map λz=>(("xmlns:" : Ì)++z.1,z.2):=by
  unfold js o8 iS
  simp only[ĥ,ĥ,aeh]
  have e:(uB us).filter (I0 B)=(uB us).filter λu=>!B.contains u&&!(!f.rw&&decide (u = "")):=WI λu J=>by unfold I0;rw[acI]
  rw[e];rfl
 rw[e,EN,ĥ]
 refine Ŧ λz hz=>?_
 obtain⟨u,D,rfl⟩:=ě.mp (ż.mp hz)
 exact Px (þ.mp (þ.mp (þ.mp D).1).1).1
def HI (h:∀a b,hvP v=C (a,b)->I8 v a b) (hv:hvP v=C q) {u:Ì} (D:cq (C q)=C u) (H:u∈Dm nd):∃a,nL v=C a/\bn (kU a) (kT a) nd=Bd nd q:=by
 have G:=BH D
 have e:=Hx (h q.1 q.2 hv) hv
 have D:(aq.find? λz=>decide (z.2=q.1)).map (·.1)=C u:=(fK _).symm.trans D
 unfold Bd
 rw[show cq (C q)=C u from(fK _).trans D]
 cases e':aq.find? λz=>decide (z.2=q.1)with
 | none=>rw[e']at D;cases D
 | some y=>
  rw[e']at D e
  obtain rfl:y.1=u:=Ä D
  refine⟨_,e,?_⟩
  rw[tP G,tO G,yJ H];rfl
def FG (hv:z.2∈xi) (O:oH nd (kU z.1)) (H:∀q,EB z=C q->∃u,cq (C q)=C u/\u∈Dm nd):atT (zr nd z.1,aV nd z.1 z.2)=E7 nd z:=by
 unfold atT E7
 dsimp only
 have D:aV nd z.1 z.2=(EB z).elim z.2 (Bd nd):=by
  unfold aV
  by_cases q:fB z.1=Í
  ·have e:EB z=hvP z.2:=Û q
   rw[Û q,e]
   rw[e]at H
   cases h:hvP z.2 with
   | none=>
    cases h':nL z.2 with
    | none=>rfl
    | some a=>have:=Hw h';rw[h]at this;cases this
   | some q=>
    obtain⟨u,L,I⟩:=H q h
    obtain⟨a,D,G⟩:=HI (tH hv).2 h L I
    rw[D];exact G
  ·rw[Ý q,show EB z=U from Ý q];rfl
 have G:(Ĕ++" ")++zr nd z.1=(" "++NH nd z.1)++kT z.1:=by
  unfold zr NH
  rw[G_]
  by_cases q:((kU z.1).length !=0)=Í
  ·rw[Û q,Û q,yJ (O.resolve_right λe=>ώ.mp q (by rw[of_decide_eq_true (è.mp e).2];rfl)),<-ό]
  ·rw[Ý q,Ý q,show(" " : Ì)++"" = " " from F_ _]
 simp only[D,G]
end
def QU (B:Prop) (i:Ó) (nd:ZC) (P:fi) (due:Ì) (ned:ZC) (pf:ZF):Prop:=∀(hn:Nd nd) (nn:Nd ned) (hr:f.rw=Í->ned=nd) (hf:f.rw=Ï->Pf nd pf) (p:E1 nd P) (pl:∀z∈P,z.2.length<=4) (hP:P.length<=i) (hd:due.length<=35000 * i),B
def L3:=λi nd P due ned pf=>∀B,QU B i nd P due ned pf->B
def L3.mk:QU (L3 i nd P due ned pf) i nd P due ned pf:=λH L I G p pl hP D J B=>B H L I G p pl hP D
section
variable {c:C3} {i:Ó} {nd ned us:ZC} {P:fi} {due run w:Ì} {pf:ZF} {at':ZE} {qt:Æ Ì} {u:Ì}
def CF {g:Ì->AV} {u:Ì}:∀{l:ZC},ak u (l.map λu=>(u,g u))=if u∈l then C (g u)else U:=by
 intro D;induction D with
 | nil=>
  exact rfl
 | cons a l B=>
  rw[Ī,bu,B]
  by_cases e:a=u
  ·rw[Û e,Û (e▸ã ..),e]
  ·rw[Ý e]
   by_cases m:u∈l
   ·rw[Û m,Û (à _ m)]
   ·rw[Ý m,Ý λq=>(Ċ.mp q).elim (λz=>e z.symm) m]
def jr (ned us:ZC):È Ì:=ned++(iS us).filter λu=>!ned.contains u
def PJ (ned:ZC) (pf:ZF):È (Ì×AV):=if f.rw=Í then TK ned else pf
def xj:∀(xs nd:ZC),xs.Nodup->ah nd xs=nd++xs.filter λu=>!nd.contains u:=by
 intro I;induction I with
 | nil=>
  exact @λnd J=>(Ę _).symm
 | cons a xs H=>
  intro nd h
  obtain⟨B,D⟩:=ϊ.mp h
  show ah (aZ a nd) xs=_
  simp only[H _ D,I2]
  cases e:nd.contains a with
  | true=>rw[show aZ a nd=nd from Û e];rfl
  | false=>
   rw[show aZ a nd=nd++[a]from Ý (by rw[e];exact ß),ø]
   refine Õ (nd++·) (Õ (a :: ·) (WI λb G=>?_))
   rw[YK,show([a]:ZC).contains b=Ï from by
    rw[oo,Œ λq:b=a=>B (by rw[<-q];exact G)];rfl,YE]
def ma:(iS us).length<=4:=Â (ķ ..) (ķ ..)
def Qo:(iS us).Nodup:=(BP.2.sublist Ϭ).sublist Ϭ
def Po (h:Nd ned):Nd (jr ned us):=by
 unfold jr
 refine⟨ō.mpr ⟨h.1,Qo.sublist Ϭ,λa B b D e=>?_⟩,λa B=>?_⟩
 ·have:=(þ.mp D).2
  rw[<-e,Ú.mpr B]at this;cases this
 ·exact(ý.mp B).elim (λm=>h.2 m) λm=>(þ.mp (þ.mp (þ.mp m).1).1).1
def HH (h:f.rw=Í):jr ned us=fP ned us:=by
 unfold jr fP
 rw[Û h,xj (uB us) ned (BP.2.sublist Ϭ)]
 unfold iS
 rw[h,show(uB us).filter (λu:Ì=>!(!true&&decide (u = "")))=uB us from YY.mpr λJ J=>rfl]
def So (h:L3 i nd P due ned pf):Pf (fP nd us) (PJ (jr ned us) pf):=by
 refine h _ λhn nn D B J J J J=>?_
 unfold PJ
 cases e:f.rw with
 | true=>
  rw[Û rfl,D e,HH e]
  intro u _
  unfold TK Dm df
  rw[CF,Û e,Û e]
 | false=>
  rw[Ý ß]
  have e:¬f.rw=Í:=by rw[e];exact ß
  intro u G
  rw[B ‹_› u G]
  unfold Dm df
  rw[Ý e,Ý e,Ý e,Ý e]
def PR {o:Æ (Ì×Ì)} (L:∀q,o=C q->q.2.length<=1000) (O:∀q,o=C q->∃u,cq (C q)=C u/\u∈us):Je (fP nd us) o:=λq H=>by
 obtain⟨u,D,I⟩:=O q H
 have Q:=BH D
 obtain⟨_,_,G,_,B⟩:=oE u Q
 exact⟨L q H,u,D,G,(ju I G).resolve_right λe=>B (of_decide_eq_true (è.mp e).2)⟩
variable {v:Ì} {ps:ZC} {q:Ì×Ì}
abbrev ci (w run:Ì):Æ Ì:=(iT w run).map λJ=>run
def Pr (nd us:ZC) (P:fi):È (Ì×Ì):=aW (((iS us).filter λu=>!(abv P).contains u).map λu=>(df nd u,u))
def GS (h:∀z∈at',atT (zr (dQ nd w qt at') z.1,aV (dQ nd w qt at') z.1 z.2)=E7 (dQ nd w qt at') z) :
 ((due++(("<"++bn (kU w) (kT w) (dQ nd w qt at'))++û "" ((Pr (dQ nd w qt at') (cT w qt at') P).map Bf)))++û "" ((aW at').map (E7 (dQ nd w qt at'))))++">" = due++oJ nd P w qt at':=by
 delta oJ Qu pb Pr
 simp only[ò,He,Pz,ĥ,show((aW at').map (atT ∘ λz:Ì×Ì=>(zr (dQ nd w qt at') z.1,aV (dQ nd w qt at') z.1 z.2)))=(aW at').map (E7 (dQ nd w qt at'))from Ŧ λz hz=>h z (ż.mp hz)]
 simp only[ό]
def Sc.rd (h:Sc w at' U) (B:Al run) (l:run.length<=1000):Sc w at' (ci w run):=by
 refine h _ λa b J=>?_
 refine(.mk a b (λx D=>?_))
 obtain⟨q,e,rfl⟩:=Ħ.mp D
 refine⟨B,l,?_⟩
 rw[(wf (o:=C q) rfl e q rfl).2];rfl
def Nc (h:Sc w at' (ci w run)) {y:Ì×Æ (Ì×Ì)} (G:y∈X0 w run at') (e:y.2=C q):hvP y.1=C q/\y.1∈g8 (ci w run) at':=by
 rcases Ċ.mp G with rfl|m
 ·obtain⟨B,D⟩:=wf (o:=C q) rfl e q rfl
  refine⟨D,?_⟩
  rw[show ci w run=C run from B]
  exact ç _ (Ù.mpr rfl)
 ·obtain⟨z,hz,rfl⟩:=ě.mp m
  exact⟨e,í _ (Ĭ hz)⟩
def N5 (D:rP (X0 w run at')=[]) {y:Ì×Æ (Ì×Ì)} (B:y∈X0 w run at') (e:y.2=C q):∃u,cq (C q)=C u/\u∈(X0 w run at').filterMap λz=>cq z.2:=by
 have:=I_.mp (Xa.mp D) y B
 rw[e]at this
 cases h:cq (C q)with
 | some u=>exact⟨u,rfl,ĵ.mpr ⟨y,B,by rw[e];exact h⟩⟩
 | none=>
  refine absurd ?_ this
  rw[v4]
  show(aq.find? λz=>decide (z.2=q.1)).isNone=Í
  have h:(aq.find? λz=>decide (z.2=q.1)).map (·.1)=U:=(fK _).symm.trans h
  rw[Option.map_eq_none_iff.mp h];rfl
def IR (h:Sc w at' (ci w run)):kU w::at'.map (λz=>kU z.1)++(X0 w run at').filterMap (λz=>cq z.2)=cT w (ci w run) at':=by
 unfold cT
 rw[CH h rfl]
def Fz (h:Sc w at' (ci w run)) (H:rP (X0 w run at')=[]) {y:Ì×Æ (Ì×Ì)} (G:y∈X0 w run at'):Je (dQ nd w (ci w run) at') y.2:=by
 refine PR (λq e=>?_) λq e=>?_
 ·obtain⟨B,D⟩:=Nc h G e
  obtain⟨l,I⟩:=iR h D
  refine I q.1 q.2 B _ λJ J J J J lb=>?_
  exact Â lb l
 ·obtain⟨u,B,D⟩:=N5 H G e
  exact⟨u,B,by rw[<-IR h];exact í _ D⟩
variable {n:Ó} {N:NK} {RR:RK} {X:XK} {D A acT r G O H Q j À V Y E I:Æ AV}
set_option tactic.hygienic true in def T0 (hi:i<390) (h:Sc w at' (ci w run)) (y1:run.length<=1000) (L:L3 i nd P due ned pf)
 (he:∀v,de (ci w run) at'=C v->û "" c.ts=due/\c.wo = .str (vk v)) (hR:∀vs,RR (.bool Í) vs (S3 ned (P.map (fF nd))))
 (kk:de (ci w run) at'=U->∀D G O H Q À V Y E I,L3 (i+1) (dQ nd w (ci w run) at') (P1 P w (ci w run) at') ((due++oJ nd P w (ci w run) at')++nN ((iT w run).elim run (Bd (dQ nd w (ci w run) at')))) (jr ned (cT w (ci w run) at')) (PJ (jr ned (cT w (ci w run) at')) pf)->
  (due++oJ nd P w (ci w run) at').length<=16000000->((iT w run).elim run (Bd (dQ nd w (ci w run) at'))).length<=2000->
  N (V3 j À Q H V Y E I G O (C (iJ (iT w run))) (C (.str ((iT w run).elim run (Bd (dQ nd w (ci w run) at'))))) A (C (.str w)) acT D (C (cM (PJ (jr ned (cT w (ci w run) at')) pf))) c (C (.str (due++oJ nd P w (ci w run) at'))) (C (bE at'))) (S3 (jr ned (cT w (ci w run) at')) ((P1 P w (ci w run) at').map (fF (dQ nd w (ci w run) at'))))) :
 qe (Dn (n+1)) (V3 j À Q H V Y E I G O r (C (.str run)) A (C (.str w)) acT D (C (cM pf)) c (C (.str due)) (C (bE at'))) (S3 ned (P.map (fF nd))) N RR X:=by
 have Jj:=h
 refine Jj _ λhw ha J=>?_
 have Jj:=ha
 refine Jj _ λhl x5 n1=>?_
 refine az (S:=j4) (B:=qf) (We (Â y1 Zz) ?_)
 refine az (S:=j5) (B:=qg) (Wf ha ?_)
 refine az (S:=j6) (B:=qh) (Wg ha ?_)
 have x1:=zy (at':=at') (w:=w) (run:=run) (qt:=ci w run) rfl
 refine az (S:=gM) (B:=qi) ?_
 cases hb:rP (X0 w run at')with
 | cons v bs=>
  rw[hb]at x1
  have hv:v∈rP (X0 w run at'):=by rw[hb];exact ã ..
  obtain⟨y,hy,rfl⟩:=ě.mp hv
  obtain⟨hy,hny⟩:=þ.mp hy
  obtain⟨t,o⟩:=y
  cases o with
  | none=>contradiction
  | some q=>
   obtain⟨h1,h2⟩:=Nc h hy rfl
   obtain⟨l,z3⟩:=iR h h2
   refine z3 q.1 q.2 h1 _ λJ J J J la J=>?_
   obtain⟨e1,e2⟩:=he t x1
   unfold vk at e2
   rw[h1]at e2
   refine L _ λJ J J J J J J hd=>?_
   exact Vc h1 l (Â la l) (by rw[<-dF,e1];exact Â hd (Â (Ą 35000 (ð hi)) Zz)) e1 e2 hR
 | nil=>
  rw[hb]at x1
  refine Vd ?_
  have ul:=IR h
  have x6:=λu=>NR (u:=u) h
  have z1:=λy hy=>Fz (nd:=nd) h hb (y:=y) hy
  have kk:=kk x1
  have Jj:=L
  refine Jj _ λhn nn hr hf p pl hP hd=>?_
  have x3:Pf (dQ nd w (ci w run) at') (PJ (jr ned (cT w (ci w run) at')) pf):=So L
  have x7:Nd (jr ned (cT w (ci w run) at')):=Po nn
  have x0:Nd (dQ nd w (ci w run) at'):=Pn hn
  have y3:oH (dQ nd w (ci w run) at') (kU w):=ju h.u (x6 _ h.u)
  have x8:∀u∈iS (cT w (ci w run) at'),u∈U4/\u∈Dm (dQ nd w (ci w run) at'):=λu hu=>by
   obtain⟨h1,h2⟩:=þ.mp hu
   obtain⟨h3,h4⟩:=þ.mp h1
   exact⟨h3,(ju (Ú.mp h4) h3).resolve_right λe=>by rw[e]at h2;cases h2⟩
  have fl:((X0 w run at').filterMap λz=>cq z.2).length<=10:=by
   refine Â (length_filterMap_le ..) ?_
   unfold X0
   rw[ŕ,length_map]
   exact Â (á (Â (ķ ..) hl)) Zz
  have x4:due.length<=13650000:=Â hd (Â (Ą 35000 (ð hi)) Zz)
  refine az (S:=j7) (B:=qj) (Wh hl hb ?_)
  refine az (S:=j8) (B:=qm) (Wj hw ha fl (λu hu=>x6 u (by rw[<-ul];exact í _ hu)) ?_)
  rw[ul]
  refine az (S:=j9) (B:=qo) (Wk (ķ ..) ?_)
  refine az (S:=ka) (B:=qp) (Wl ma (Â nn.len Zz) ?_)
  refine az (S:=ke) (B:=qr) (Wm (ned:=jr ned (cT w (ci w run) at')) (Â x7.len Zz) x7.1 ?_)
  rw[show(if f.rw=Í then C (cM (TK (jr ned (cT w (ci w run) at'))))else C (cM pf))=C (cM (PJ (jr ned (cT w (ci w run) at')) pf)) by unfold PJ;split<;>rfl]
  refine az (S:=kf) (B:=mY) (Wn (us:=iS (cT w (ci w run) at')) (g:=df (dQ nd w (ci w run) at')) ma pl (É hP (Þ hi Zz)) (λu hu=>nW x3 (x8 u hu).1 (x8 u hu).2) ?_)
  refine az (S:=iy) (B:=mZ) (U5 hw x0 y3 x3 ?_)
  refine az (S:=iz) (B:=m7) (U6 (by rw[length_map];exact É hP (Þ hi Zz)) ?_)
  refine cC (ç K4 hw) _ λnmw u2 u1=>?_
  have nl:(bn (kU w) (kT w) (dQ nd w (ci w run) at')).length<=300:=Â (kK x0 y3 u2 u1).1 Zz
  have x9:∀z∈Pr (dQ nd w (ci w run) at') (cT w (ci w run) at') P,z.1.length<=100/\z.2.length<=100:=λz hz=>by
   obtain⟨u,hu,rfl⟩:=ě.mp (ż.mp hz)
   obtain⟨h4,z2⟩:=x8 u (þ.mp hu).1
   exact⟨(ii x0 z2).2,(uA u h4).1⟩
  have y2:(Pr (dQ nd w (ci w run) at') (cT w (ci w run) at') P).length<=4:=by
   unfold Pr
   rw[show(aW _).length=_ from(ň ..).length_eq,length_map]
   exact Â (ķ ..) ma
  refine az (S:=iA) (B:=m8) (U7 (ns:=Pr (dQ nd w (ci w run) at') (cT w (ci w run) at') P) x9 y2 nl (Â x4 Zz) ?_)
  obtain⟨_,al⟩:=ND x9 y2 nl
  generalize hD:due++(("<"++bn (kU w) (kT w) (dQ nd w (ci w run) at'))++û "" ((Pr (dQ nd w (ci w run) at') (cT w (ci w run) at') P).map Bf))=D1
  have dl:D1.length<=due.length+1501:=by rw[<-hD,â];exact Ø al _
  have x2:∀z∈at',z.1∈K4/\z.2.length<=1000/\oH (dQ nd w (ci w run) at') (kU z.1)/\Je (dQ nd w (ci w run) at') (EB z):=λz hz=>by
   obtain⟨a,b⟩:=x5 z hz
   have hu:kU z.1∈cT w (ci w run) at':=ç _ (à _ (Ĭ hz))
   refine⟨a,Â (jI _ b).1 Zz,ju hu (x6 _ hu),λq hq=>?_⟩
   unfold EB at hq
   split at hq<;>rename_i hkq
   ·exact z1 (z.2,hvP z.2) (à _ (Ĭ (þ.mpr ⟨hz,hkq⟩))) q hq
   ·contradiction
  refine az (S:=iB) (B:=m9) (U8 x0 x3 n1 (ļ hl) x2 (Â dl (Â (Ò x4 _) Zz)) λD G H I=>?_)
  have jl:(û "" ((aW at').map (E7 (dQ nd w (ci w run) at')))).length<=2 * 12000:=by
   rw[dF]
   refine Â (rf (B:=12000) _ λy hy=>?_) (θ 12000 (by rw[length_map,show(aW at').length=at'.length from(ň ..).length_eq];exact hl))
   obtain⟨z,hz,rfl⟩:=ě.mp hy
   obtain⟨a,b,c',d⟩:=x2 z (ż.mp hz)
   refine cC (í T4 a) _ λnm tl J=>?_
   exact IN (HX x0 nm.key.2 c') tl (yv x0 b d)
  have d2:(D1++û "" ((aW at').map (E7 (dQ nd w (ci w run) at')))).length<=due.length+1501+2 * 12000:=by
   rw[â]
   exact å dl jl
  refine az (S:=iE) (B:=na) (U9 (Â d2 (Â (Ò (Ò x4 _) _) Zz)) ?_)
  rw[<-hD,GS λz hz=>FG (x5 z hz).2 (x2 z hz).2.2.1 λq hq=>let ⟨_,u,h1,_,h2⟩:=(x2 z hz).2.2.2 q hq;⟨u,h1,h2⟩]
  have d3:(due++oJ nd P w (ci w run) at').length<=due.length+1501+2 * 12000+1:=by
   rw[<-GS λz hz=>FG (x5 z hz).2 (x2 z hz).2.2.1 λq hq=>let ⟨_,u,h1,_,h2⟩:=(x2 z hz).2.2.2 q hq;⟨u,h1,h2⟩,â,hD]
   exact Ò d2 1
  have ro:Je (dQ nd w (ci w run) at') (iT w run):=z1 _ (ã ..)
  have rl:=yv x0 y1 ro
  refine az (S:=iF) (B:=s0) (Vb x0 x3 ro ?_)
  have eP:P.map (fF nd)++[.tup [.str (bn (kU w) (kT w) (dQ nd w (ci w run) at')),.fl ((iS (cT w (ci w run) at')).map .str)]]=(P1 P w (ci w run) at').map (fF (dQ nd w (ci w run) at')):=by
   unfold P1
   rw[ò]
   refine Õ (·++_) (Ŧ λz hz=>?_)
   obtain⟨_,b,_⟩:=p z hz
   unfold fF dQ
   rw[(Bl b).2]
  rw[eP]
  refine kk _ _ _ _ _ _ _ _ _ _ (.mk x0 x7 (λe=>?_) (λe=>?_) (p.push hw h.u) (λz hz=>?_) ?_ ?_) (Â d3 (Â (Ò (Ò (Ò x4 _) _) _) Zz)) (Â rl Zz)
  ·rw[HH e,hr e];rfl
  ·exact x3
  ·rcases ý.mp hz with m|m
   ·exact pl z m
   ·rw[Ù.mp m];exact ma
  ·unfold P1;rw[Ð];exact á hP
  ·rw[â]
   refine Â (å d3 (Â (l5 _) (Ą 4 rl))) ?_
   rw[p_,Ď,Ď,Ď]
   exact å hd Zz
end
section
variable {c:C3} {i n:Ó} {nd ned:ZC} {P:fi} {due run w:Ì} {pf:ZF} {at':ZE} {N:NK} {RR:RK} {X:XK} {ps:ZC} {d:È aX} {W:Æ Ì} {q:Ì} {us:ZC} {acT:aj} {y D m r t A g G H I O j Q À V Y E:Æ AV}
def K3 (c:C3) (i:Ó) (d:È aX) (W:Æ Ì) (pt:ZC) (N:NK):Prop:=∀(nd:ZC) (P:fi) (due:Ì) (ned:ZC) (pf:ZF) (y D m r t A g G H I O j Q À V Y E:Æ AV),L3 i nd P due ned pf->P.map (·.1)=pt->bY d nd P due=(û "" c.ts,W)->N (V3 j Q O I À V Y E G H g A m r t D (C (cM pf)) c (C (.str due)) y) (S3 ned (P.map (fF nd)))
def K3.use (h:K3 c i d W (P.map (·.1)) N) (L:L3 i nd P due ned pf) (e:bY d nd P due=(û "" c.ts,W)):N (V3 j Q O I À V Y E G H g A m r t D (C (cM pf)) c (C (.str due)) y) (S3 ned (P.map (fF nd))):=h _ _ _ _ _ _ _ _ _ _ _ _ _ _ _ _ _ _ _ _ _ _ L rfl e
def PV (h:Sc w at' (ci w run)) (ro:Je nd (iT w run)):Qy nd run (ci w run)=nN ((iT w run).elim run (Bd nd)):=by
 unfold Qy
 refine Õ nN ?_
 cases e:iT w run with
 | none=>rw[show ci w run=U by unfold ci;rw[e];rfl];rfl
 | some q=>
  obtain⟨_,u,hs,_,hd⟩:=ro q e
  obtain⟨B,z⟩:=wf (o:=C q) (qt:=ci w run) rfl e q rfl
  obtain⟨_,hi⟩:=iR h (v:=run) (by rw[B];exact ç _ (Ù.mpr rfl))
  obtain⟨a,L,l⟩:=HI hi z hs hd
  rw[B]
  show(nL run).elim _ _=_
  rw[L];exact l
def Th (hi:i<390) (h:Sc w at' U) (hp:lL ps) (L:L3 i nd P due ned pf)
 (l:bY (⟨"start",w,at',ps⟩::d) nd P due=(û "" c.ts,W)) (hw:c.wo=we W) (hR:∀vs ned pv,RR (.bool Í) vs (S3 ned pv))
 (kk:K3 c (i+1) d W (P.map (·.1)++[w]) N) :
 eO (Dn (n+1)) (V3 j Q O I À V Y E G H g A (C (.str "start")) (C (.str w)) (C (.fl (ps.map .str))) D (C (cM pf)) c (C (.str due)) (C (bE at'))) (S3 ned (P.map (fF nd))) N RR X:=by
 obtain⟨al,rl⟩:=n5 hp
 have hq:Ey ⟨"start",w,at',ps⟩ (cj ps)=ci w (cj ps):=Sv rfl
 have z:=h.rd al rl
 refine az (S:=eQ) (B:=gJ) (ID hp ?_)
 refine az (S:=gL) (B:=gK) ?_
 refine T0 hi z rl L (λv hv=>?_) (λvs=>hR vs _ _) λhb D G H I O Q À V Y E L' d1 d2=>?_
 ·rw[yf rfl hq hv]at l
  obtain⟨e1,e2⟩:=ŋ l
  exact⟨e1.symm,by rw[hw,<-e2];rfl⟩
 ·refine az (S:=eU) (B:=s0) (IC d2 d1 ?_)
  have e:(P1 P w (ci w (cj ps)) at').map (·.1)=P.map (·.1)++[w]:=by unfold P1;rw[ò];rfl
  rw[<-e]at kk
  refine K3.use kk L' ?_
  rw[yg rfl hq hb]at l
  rw[<-l]
  refine Õ (bY _ _ _) (Õ (_++·) (PV z ?_).symm)
  refine Fz z ?_ (ã ..)
  have:=zy (at':=at') (w:=w) (run:=cj ps) (qt:=ci w (cj ps)) rfl
  rw[hb]at this
  exact head?_eq_none_iff.mp this.symm
def Vh (hi:i<390) (hp:lL ps) (L:L3 i nd (P++[(q,us)]) due ned pf)
 (hr:bY (⟨"end",q,[],ps⟩::d) nd (P++[(q,us)]) due=(û "" c.ts,W)) (kk:K3 c (i+1) d W (P.map (·.1)) N) :
 eO acT (V3 j Q O I À V Y E G H g A (C (.str "end")) r (C (.fl (ps.map .str))) D (C (cM pf)) c (C (.str due)) y) (S3 ned ((P++[(q,us)]).map (fF nd))) N RR X:=by
 obtain⟨al,rl⟩:=n5 hp
 refine L _ λhn nn h1 hf p pl hP hd=>?_
 obtain⟨h4,ok,_⟩:=p (q,us) (í _ (Ù.mpr rfl))
 refine cC (ç K4 h4) _ λnm tl tc=>?_
 have nl:=Â (kK hn ok tl tc).1 (by decide:101+10<=300)
 have x0:due.length<=13650000:=Â hd (Â (Ą 35000 (ð hi)) Zz)
 have e1:(("</" : Ì)++bn (kU q) (kT q) nd).length<=302:=by rw[â];exact Ø nl 2
 have e2:((("</" : Ì)++bn (kU q) (kT q) nd)++">").length<=303:=by rw[â];exact Ò e1 1
 have d1:(due++xy (bn (kU q) (kT q) nd)).length<=due.length+303:=by rw[â];exact Ø e2 _
 refine az (S:=eQ) (B:=gJ) (ID hp ?_)
 refine az (S:=gL) (B:=gK) ?_
 rw[ò]
 refine ay (mz (l:=2) (xs:=P.map (fF nd)) (v:=fF nd (q,us)) rfl) (aL (fz (a:=.str (bn (kU q) (kT q) nd)) (b:=.fl (us.map .str))).1 ?_)
 refine aR (a:="</") (Â (Ø nl _) Zz) (aR (b:=">") (Â (Ò e1 _) Zz) ?_)
 refine ir (a:=due) (Â (å x0 e2) Zz) ?_
 refine az (S:=eU) (B:=s0) (IC (due:=due++xy (bn (kU q) (kT q) nd)) (Â rl Zz) (Â d1 (Â (Ò x0 _) Zz)) ?_)
 rw[Hq,YL]at hr
 rw[Ð]at hP
 refine kk.use (.mk hn nn h1 hf (λz hz=>p z (ç _ hz)) (λz hz=>pl z (ç _ hz)) (ļ (XF hP)) ?_) hr
 rw[â,p_]
 refine Â (å d1 (Â (l5 _) (Ą 4 rl))) ?_
 rw[Ď]
 exact å hd Zz
end
section
variable {c:C3} {i n:Ó} {nd ned:ZC} {P:fi} {due:Ì} {pf:ZF} {N:NK} {RR:RK} {X:XK} {ps:ZC} {D:È aX} {W:Æ Ì} {acT:aj} {G H d I m O Q À V Y E A g j l y r:Æ AV}
def Vi (hi:i<390) (t:lL ps) (L:L3 i nd P due ned pf)
 (hr:bY (⟨"pi","i",[],ps⟩::D) nd P due=(û "" c.ts,W)) (kk:K3 c (i+1) D W (P.map (·.1)) N) :
 eO acT (V3 A g E Y j l y r À V Q O (C (.str "pi")) I (C (.fl (ps.map .str))) H (C (cM pf)) c (C (.str due)) G) (S3 ned (P.map (fF nd))) N RR X:=by
 obtain⟨al,rl⟩:=n5 t
 refine L _ λhn nn h1 hf p pl hP w=>?_
 have q:due.length<=13650000:=Â w (Â (Ą 35000 (ð hi)) Zz)
 have z:(due++Sq "i").length<=due.length+10:=by rw[â];exact Ø Zz _
 refine az (S:=eQ) (B:=gJ) (ID t ?_)
 refine az (S:=gL) (B:=gK) ?_
 refine ir (a:=due) (b:="<?i?>") (Â (Ò q _) Zz) ?_
 refine az (S:=eU) (B:=s0) (IC (due:=due++Sq "i") (Â rl Zz) (Â z (Â (Ò q _) Zz)) ?_)
 refine kk.use (.mk hn nn h1 hf p pl (ļ hP) ?_) hr
 rw[â,p_]
 refine Â (å z (Â (l5 _) (Ą 4 rl))) ?_
 rw[Ď]
 exact å w Zz
def Pb {src:aa->Prop} (hs:∀Z,src Z) (hw:c.wo=we W) (hR:∀vs ned pv,RR (.bool Í) vs (S3 ned pv)):∀{pt:ZC} {D:È aX},wV pt D->∀{i:Ó},i+D.length<390->K3 c (i+D.length) [] W [] N->
 K3 c i D W pt λvs Z=>aY src (λx vs Z N=>(aT 4 (ac (aN 23) (ac (aN 24) (ac (aN 16) (ac (aN 25) a0))))) (Dn (n+1)) x vs Z (λvs Z=>eO (Dn (n+1)) vs Z N RR X) X) (D.map dB) vs Z N:=λh=>by
 induction h with
 | nil=>exact λJ kk nd P due ned pf G H d I m O Q À V Y E A g j l y r L B e=>bx (hs _) (kk _ _ _ _ _ _ _ _ _ _ _ _ _ _ _ _ _ _ _ _ _ _ L B e)
 | st w at' ps D pt x0 h hp hn t ih=>
  intro i hi kk nd P due ned pf G H d I m O Q À V Y E A g j l y r L B e
  have e1:i+1+D.length=i+(D.length+1):=Ě i 1 D.length
  subst B
  exact⟨hs _,Th (É (ë _ _) hi) h hp L e hw hR (ih (by rw[e1];exact hi) (by rw[e1];exact kk))⟩
 | en q ps D pt hp hz t ih=>
  intro i hi kk nd P' due ned pf G H d I m O Q À V Y E A g j l y r L B e
  have e1:i+1+D.length=i+(D.length+1):=Ě i 1 D.length
  have hn:P'≠[]:=λe=>by rw[e]at B;exact absurd B.symm (by simp)
  have eP:=(ϒ hn).symm
  generalize P'.dropLast=P at eP
  generalize P'.getLast hn=z at eP
  obtain⟨q',us⟩:=z
  subst eP
  rw[ò]at B
  obtain⟨x1,e2⟩:=abc B rfl
  obtain rfl:q'=q:=(ŭ e2).1
  subst x1
  exact⟨hs _,Vh (É (ë _ _) hi) hp L e (ih (by rw[e1];exact hi) (by rw[e1];exact kk))⟩
 | pi ps D pt x0 hp t ih=>
  intro i hi kk nd P due ned pf G H d I m O Q À V Y E A g j l y r L B e
  have e1:i+1+D.length=i+(D.length+1):=Ě i 1 D.length
  subst B
  exact⟨hs _,Vi (É (ë _ _) hi) hp L e (ih (by rw[e1];exact hi) (by rw[e1];exact kk))⟩
end
def TJ:È (Ì×AV):=aq.reverse.foldl (λb z=>aF z.1 (.str z.2) b) []
def HT (u:Ì):∀(l:ZE),ak u (l.reverse.foldl (λb z=>aF z.1 (AV.str z.2) b) [])=(l.find? λz=>decide (z.1=u)).map λz=>.str z.2:=by
 intro L;induction L with
 | nil=>
  exact rfl
 | cons z l B=>
  rw[tw,X_,ϭ]
  show ak u (aF z.1 (.str z.2) _)=_
  rw[mN,B]
  by_cases e:z.1=u
  ·rw[Û e.symm,õ e];rfl
  ·rw[Ý λq=>e q.symm,ü e]
set_option tactic.hygienic true in def PI (h:f.rw=Ï):Pf [] (TJ):=λu hu=>by
 have e:¬f.rw=Í:=by rw[h];exact ß
 rw[show Dm []=rJ from Ý e,show df [] u=g6 aq u from Ý e]
 unfold TJ g6
 rw[HT]
 split<;>rename_i q
 ·obtain⟨z,e⟩:=š.mp (wD.1 u q).1
  rw[e];rfl
 ·have B:aq.find? (λz=>decide (z.1=u))=U:=XQ.mpr λz hz e=>q ((of_decide_eq_true e:z.1=u)▸(g0 z hz).1)
  rw[B];rfl
section
variable {c:C3} {n:Ó} {N:NK} {RR:RK} {X:XK} {ps:ZC} {cs:È aX} {W:Æ Ì} {ned:ZC} {pv:ZB} {acT:aj} {D G H I O v x Q À Y E A g j y w r m t:Æ AV}
def Ve (kk:N (V3 j y g A w r m t Y E À Q H I O G (C (cM (TJ))) c v D) (S3 ned pv)) :
 s4 acT (V3 j y g A w r m t Y E À Q H I O G x c v D) (S3 ned pv) N RR X:=by
 refine bB λsrc l=>?_
 rw[<-Xb]
 refine lO (Wp:=O3 (V3 j y g A w r m t Y E À Q H I O G x c v D)) (l _) (λz:Ì×Ì=>ae (z.2,z.1)) (λb z=>aF z.1 (.str z.2) b) xe (λb z=>bL _ _) _ [] _ (.mk U U U rfl) ?_ (λz hz V b K B L k=>?_) λV B=>kk
 ·simp only[ω,ė,ϱ]
  exact(by decide +kernel:∀k<5,(dh k).length<100000) k hk
 ·refine B _ λa b' d e=>?_
  subst e
  exact⟨L,k _ (.mk a (C (.str z.2)) (C (.str z.1)) rfl)⟩
def PH (hp:lL ps) (h:wV ["a"] cs) (hl:cs.length<300) (hc:c.cs=⟨"start","a",[],ps⟩::cs) (hr:bY c.cs [] [] "" = (û "" c.ts,W)) (l:c.wo=we W) (V:∀vs ned pv,RR (.bool Í) vs (S3 ned pv)) :
 Ax (Dn (n+1)) (VL U U U U U U (C (.fl (c.ts.map .str))) (C c.wo) U U c.cs) [.code] N RR X:=by
 refine az (S:=Az) (B:=sY) ?_
 show sY (Dn (n+1)) (V3 U U U U U U U U U U U U U U U U U c (C (.str "")) U) (S3 [] []) N RR X
 refine az (S:=s4) (B:=Ay) (Ve ?_)
 refine az (S:=AA) (B:=sZ) (bB λsrc hs=>?_)
 simp only[hc]at hr ⊢
 have d:K3 c (1+cs.length) [] W [] λvs Z=>sZ (Dn (n+1)) vs Z N RR X:=λnd P due ned pf D G H I O Q À Y E A g j y w r m t L pe e=>by
  obtain⟨z,e2⟩:=ŋ (show(due,U)=(û "" c.ts,W)from e)
  obtain⟨cs',ts,wo⟩:=c
  have l:wo = .none:=by rw[show wo=we W from l,<-e2];rfl
  have z:due=û "" ts:=z
  subst l z
  refine L _ λJ J J J J J J hd=>?_
  refine nB (by rw[<-dF];exact Â hd (Â (Ą 35000 (Ø (ð hl) 1)) Zz)) ?_
  have V:=V
  have es:(decide (û "" ts=û "" ts)&&(Í&&Í))=Í:=by rw[õ (rfl:û "" ts=û "" ts)];rfl
  rw[<-es]at V
  exact V _ _ _
 have q:1+cs.length<390:=Þ (o_ hl 1) Zz
 refine⟨hs _,Th (at':=[]) (P:=[]) (nd:=[]) (ned:=[]) (pf:=TJ) (i:=0) Zz SU hp (.mk ⟨Χ,λJ h=>nomatch h⟩ ⟨Χ,(λJ h=>nomatch h)⟩ (λJ=>rfl) PI (λJ h=>nomatch h) (λJ h=>nomatch h) (ï _) (ï _)) hr l V ?_⟩
 exact Pb hs l V h q d
end
noncomputable def F8:È Ì:=["q:x","p:x","b",""," p:x ","x:p","p:x\n","p:x:y"]
noncomputable def Q2:È Ì:=["p","q",":","x","é"," ","\n","-","b:y","<","_","n0"]
def V1 (a0 L O B D G H I:Æ AV):Vs:=
 [a0,L,C (.bool f.rw),C (.bool f.st),O,C (gy),C (cQ),C (.fl [.str "t",.str "{v}t"]),C (.fl [.str "r",.str "{u}r"]),C (.fl (F8.map .str)),C (.fl (xi.map .str)),C (.loc 2),C (.loc 3),B,D,G,H,I,U,U,U,U,U,U,U,U,U,U,U,U,U,U,U,U,U,U,U,U,U,U,U,U,U]
def OS {Z:aa} {ts:ZC} {i:Į} (D:0<=i) (h:i<ts.length) (hz:ts.length<=1000):∃s∈ts,fw Z (.fl (ts.map .str)) (.int i)=C (.str s):=by
 obtain⟨n,rfl⟩:=YR D
 have B:n<ts.length:=eh.mp h
 refine⟨ts[n],getElem_mem B,?_⟩
 show(nx (ts.map AV.str).length (n:Į)).bind _=_
 rw[show nx (ts.map AV.str).length (n:Į)=C n from(Û (ô B (Â hz Zz))).trans (Yt D (by rw[length_map];exact h))]
 show(ts.map AV.str)[n]? = _
 rw[Ė,æ B];rfl
def Gi (i:Į) {n:Ó} (h:0<n):0<=i.fmod n/\i.fmod n<n:=
 have h:(0:Į)<n:=eh.mpr h
 ⟨YX i h,aan i h⟩
def mP {Z:aa} {ts:ZC} {i:Į} {n:Ó} (h:0<n) (B:ts.length=n) (hz:n<=1000):∃s∈ts,fw Z (.fl (ts.map .str)) (.int (i.fmod n))=C (.str s):=by
 subst B
 exact OS (Gi i h).1 (Gi i h).2 hz
def Qc (k v:Ì) (at':ZE):È (Ì×Ì):=if at'.any (λz=>z.1=k)then at'.map (λz=>if z.1=k then(z.1,v)else z)else at'++[(k,v)]
set_option tactic.hygienic true in def ES {k v:Ì} {at':ZE}:aF k (.str v) (am at')=am (Qc k v at'):=by
 delta aF Qc am
 rw[any_map]
 split<;>rename_i q<;>simp only[Function.comp_def]at q
 ·rw[Û (by exact q),ĥ,ĥ]
  refine Ŧ λz J=>?_
  show(if z.1=k then(z.1,AV.str v)else(z.1,AV.str z.2))=(λy:Ì×Ì=>(y.1,AV.str y.2)) (if z.1=k then(z.1,v)else z)
  by_cases e:z.1=k
  ·rw[Û e,Û e]
  ·rw[Ý e,Ý e]
 ·rw[Ý (by simpa using q),ò];rfl
set_option tactic.hygienic true in def Qd {k v:Ì} {at':ZE} (hk:k∈K4) (hv:v∈xi) (h:∀z∈at',z.1∈K4/\z.2∈xi) (D:(at'.map (·.1)).Nodup):(∀z∈Qc k v at',z.1∈K4/\z.2∈xi)/\((Qc k v at').map (·.1)).Nodup/\(Qc k v at').length<=at'.length+1:=by
 unfold Qc
 split<;>rename_i q
 ·refine⟨λz hz=>?_,?_,?_⟩
  ·obtain⟨y,B,rfl⟩:=ě.mp hz
   split
   ·exact⟨(h y B).1,hv⟩
   ·exact h y B
  ·rw[ĥ,show((at'.map ((·.1) ∘ λz:Ì×Ì=>if z.1=k then(z.1,v)else z)))=at'.map (·.1)from Ŧ λz J=>by show(if z.1=k then(z.1,v)else z).1=z.1;split<;>rfl]
   exact D
  ·rw[length_map];exact ö _
 ·refine⟨λz hz=>?_,?_,by rw[Ð];exact Ë _⟩
  ·exact(ý.mp hz).elim (h z) λm=>by rw[Ù.mp m];exact⟨hk,hv⟩
  ·rw[ò]
   refine ō.mpr ⟨D,ϊ.mpr ⟨Ķ,Χ⟩,λa G b H e=>q (YF.mpr ?_)⟩
   obtain⟨z,hz,rfl⟩:=ě.mp G
   exact⟨z,hz,õ (e.trans (Ù.mp H))⟩
def Ph {Z:aa} {i j:Į} (h:j.natAbs<2 ^ 30):jP Z .Mult (.int i) (.int j)=C (.int (i * j)):=Û h
def FZ {Z:aa} {kvs:ZF}:dS (Z++[.dict kvs]) Z.length=C kvs:=f9 Ĳ
def L5 {Z:aa} {o v:aK}:(Z++[o]).set Z.length v=Z++[v]:=by
 rw[Wy _ _ (Ë _),Ť];rfl
section
variable {N:NK} {RR:RK} {X:XK} {acT:aj} {Z:aa} {D:Į} {a0 I L G H B:Æ AV}
def Rx {src:aa->Prop} (Y:∀Z,src Z):∀(l:È Ó) (at':ZE) (B:Æ AV),(∀k∈l,k<1000)->(∀z∈at',z.1∈K4/\z.2∈xi)->(at'.map (·.1)).Nodup->at'.length+l.length<=2->
 (∀at' B,B2 at'->N (V1 a0 I L G H (C (.int D)) (C (.loc Z.length)) B) (Z++[.dict (am at')]))->
 aY src (λx vs Z N=>(aN 17) acT x vs Z (λvs Z=>pY acT vs Z N RR X) X) (l.map λ(k:Ó)=>.int (0+(k:Į))) (V1 a0 I L G H (C (.int D)) (C (.loc Z.length)) B) (Z++[.dict (am at')]) N:=by
 intro d;induction d with
 | nil=>
  exact @λat' B J h Q O kk=>bx (Y _) (kk at' B (.mk O h Q))
 | cons i l y=>
  exact @λat' B V h Q O kk=>⟨Y _,by
   have g:(0+(i:Į)).natAbs<2 ^ 30:=by
    rw[Int.zero_add]
    exact Þ (V i (ã ..)) Zz
   obtain⟨v,hv,A⟩:=mP (Z:=Z++[.dict (am at')]) (ts:=xi) (i:=D.fdiv 48+4 * (0+(i:Į))) (n:=10) Zz rfl Zz
   obtain⟨q,j,E⟩:=mP (Z:=Z++[.dict (am at')]) (ts:=K4) (i:=D.fdiv 12+(0+(i:Į))) (n:=4) Zz rfl Zz
   obtain⟨w,r,c⟩:=Qd j hv h Q
   refine o5 (o:=jP _ .Mult _ _) (Ph g) (aL A (aL E ?_))
   refine o5 (o:=dS _ _) FZ ⟨?_,?_⟩
   ·unfold am
    rw[length_map]
    exact É (Â (ë _ _) O) Zz
   ·have À:=y (Qc q v at') (C (.int (0+(i:Į)))) (λk hk=>V k (à _ hk)) w r (Â (Ò c _) (by rw[Ď,ı 1];exact O)) kk
    rw[<-ES,<-L5 (o:=.dict (am at')) (v:=.dict (aF q (.str v) (am at')))]at À
    exact À⟩
end
noncomputable def S1 (H:aK) (B:ZB) (x:aa) (cells:ZB):aa:=.code::H :: .list cells :: .list B::x
def QF (H:Prop) (Z:aa) (c:aX) (v:AV) (l:Ó):Prop:=∀(B:AV) (e:v = .fl [.str c.k,.str c.w,B,.loc l]) (ha:B=bE c.a\/∃d,B = .loc d/\Z[d]? = C (.dict (am c.a))) (hl:Z[l]? = C (.list (c.p.map .str))) (h2:l≠2) (h3:l≠3),H
def CR:=λZ c v l=>∀B,QF B Z c v l->B
def CR.mk:QF (CR Z c v l) Z c v l:=λH e O Q I L J B=>B H e O Q I L
inductive wT (Z:aa) (b:Ó):È aX->È AV->Prop
 | nil:wT Z b [] []
 | snoc {D:È aX} {vs:ZB} {c:aX} {v:AV} {l:Ó} (h:wT Z b D vs) (r:CR Z c v l) (hb:l<b):wT Z b (D++[c]) (vs++[v])
def Kb (b:Ó) (Z τ:aa):Prop:=∀j o,Z[j]? = C o->(∃kvs,o = .dict kvs)\/j≠2/\j≠3/\j<b->τ[j]? = C o
section
variable {Z τ:aa} {c:aX} {v:AV} {l b G:Ó} {D:È aX} {vs:ZB}
def CR.keep (h:CR Z c v l) (O:l<b) (k:Kb b Z τ):CR τ c v l:=by
 refine h _ λI e L Q B H=>?_
 exact(.mk I e (L.imp id (by rintro⟨d,e,h⟩;exact⟨d,e,k d _ h (.inl ⟨_,rfl⟩)⟩)) (k l _ Q (.inr ⟨B,H,O⟩)) B H)
def wT.keep (h:wT Z b D vs) (k:Kb b Z τ):wT τ b D vs:=by
 induction h with
 | nil=>exact .nil
 | snoc _ r B H=>exact .snoc H (r.keep B k) B
def wT.up (h:wT Z b D vs) (H:b<=G):wT Z G D vs:=by
 induction h with
 | nil=>exact .nil
 | snoc _ r B I=>exact .snoc I r (ô B H)
def Kb.u! (x:aa):Kb b Z (Z++x):=λj o e J=>by rw[ľ (î.mp e).1,e]
def Kb.trans {B:aa} (h:Kb b Z τ) (k:Kb b τ B):Kb b Z B:=λj o e q=>k j o (h j o e q) q
def Kb.put {p:Ó} {xs:ZB} (e:Z[p]? = C (.list xs)) (O:p=2\/p=3\/b<=p) (w:aK):Kb b Z (Z.set p w):=λj o B q=>by
 rw(occs:=.all) [μ λz=>?_]
 ·exact B
 ·subst z
  rcases q with⟨kvs,rfl⟩|⟨H,I,L⟩
  ·exact nomatch (Õ (λo:Æ aK=>ag o.toList 0) (e.symm.trans B):C xs=U)
  ·rcases O with h|h|h
   ·exact H h
   ·exact I h
   ·exact absurd L (ų.mpr h)
end
def QJ (l:È aX):Prop:=∃ps B,l=⟨"start","a",[],ps⟩::B/\lL ps/\wV ["a"] B
def nE (c:aX) (ps:ZC):Prop:=c.k = "start"->g7 c.w=Í->ps≠[]
def Q4 (B:Prop) (i:Ó) (pt:ZC) (D:È aX) (c:aX):Prop:=∀(hne:pt≠[]) (ht:∀q∈pt,q∈T4) (hp:∀p∈c.p,Al p) (sl:(c.p.map (·.length)).sum<=5 * (i+1)) (pl:c.p.length<=i+1) (hn:nE c c.p) (ext:∀ps,lL ps->nE c ps->∀ds,wV pt ds->QJ (D++⟨c.k,c.w,c.a,ps⟩::ds)) (lc:D.length<=i) (lp:pt.length<=i+1),B
def PL:=λi pt D c=>∀B,Q4 B i pt D c->B
def PL.mk:Q4 (PL i pt D c) i pt D c:=λB O L À pl I ext lc Q J H=>H B O L À pl I ext lc Q
section
variable {i:Ó} {pt pt':ZC} {D:È aX} {c c':aX} {p:Ì}
def PL.pso (h:PL i pt D c) (B:i<100):lL c.p:=by
 refine h _ λJ J H I pl J J J J=>?_
 exact⟨H,Â I (Â (Ą 5 B) Zz),Â pl (Â B Zz)⟩
def PL.add (h:PL i pt D c) (E:i<100) (L:pt'≠[]) (acT:∀q∈pt',q∈T4) (À:∀p∈c'.p,Al p/\p.length<=5) (pl:c'.p.length<=1) (A:nE c' c'.p) (g:pt'.length<=pt.length+1)
 (H:∀ps,lL ps->nE c' ps->∀ds,wV pt' ds->wV pt (⟨c'.k,c'.w,c'.a,ps⟩::ds)):PL (i+1) pt' (D++[c]) c':=by
 have Q:=h.pso E
 refine h _ λJ J J J J I ext lc O=>?_
 refine(.mk L acT (λp h=>(À p h).1) ?_ (Â pl (ħ _ _)) A (λps V Y ds d=>?_) (by rw[Ð];exact á lc) (Â g (á O)))
 ·refine Â (rf (B:=5) _ λy N=>(À y N).2) ?_
  rw[Nat.mul_comm]
  exact Ą 5 (Â pl (ħ _ _))
 ·have:=ext c.p Q I _ (H ps V Y ds d)
  rw[ø]
  exact this
def PL.more (h:PL i pt D c) (H:Al p) (I:p.length<=5):PL (i+1) pt D ⟨c.k,c.w,c.a,c.p++[p]⟩:=by
 refine h _ λB Q L V pl hn ext lc À=>?_
 refine(.mk B Q (λq O=>(ý.mp O).elim (L q) λm=>Ù.mp m▸H) ?_ (by rw[Ð];exact á pl) (λJ J=>by simp) ext (ļ lc) (ļ À))
 simp only[ò,sum_append,p_ 5 (i+1)]
 exact å V (by rw[map_singleton,sum_singleton];exact I)
end
def QT (Y:Prop) (i:Ó) (pt:ZC) (Z:aa):Prop:=∀(B:aK) (x:aa) (vs:ZB) (v:AV) (l:Ó) (O:È aX) (c:aX) (e:Z=S1 B (pt.map .str) x (vs++[v])) (hc:wT Z l O vs) (r:CR Z c v l) (p:PL i pt O c),Y
def J1:=λi pt Z=>∀Y,QT Y i pt Z->Y
def J1.mk:QT (J1 i pt Z) i pt Z:=λB x vs v l O c e E r p J Y=>Y B x vs v l O c e E r p
def wT.len {Z:aa} {b:Ó} {O:È aX} {vs:ZB} (h:wT Z b O vs):vs.length=O.length:=by
 induction h with
 | nil=>rfl
 | snoc _ _ _ Y=>rw[Ð,Ð,Y];rfl
section
variable {i l:Ó} {pt pt':ZC} {B:aK} {x y:aa} {vs:ZB} {v w:AV} {O:È aX} {c c':aX}
def CR.lt {Z:aa} (h:CR Z c v l):l<Z.length:=(by refine h _ λJ J J h J J=>?_;exact(î.mp h).1)
def J1.add (g:wT (S1 B (pt.map .str) x (vs++[v])) l O vs) (r:CR (S1 B (pt.map .str) x (vs++[v])) c v l) (p:PL (i+1) pt' (O++[c]) c') (Y:AV) (j:w = .fl [.str c'.k,.str c'.w,Y,.loc ((x++y).length+4)])
 (A:Y=bE c'.a\/∃d,Y = .loc d/\(S1 B (pt'.map .str) ((x++y)++[.list (c'.p.map .str)]) ((vs++[v])++[w]))[d]? = C (.dict (am c'.a))):J1 (i+1) pt' (S1 B (pt'.map .str) ((x++y)++[.list (c'.p.map .str)]) ((vs++[v])++[w])):=by
 have E:l<x.length+4:=r.lt
 have q:Kb (x.length+4) (S1 B (pt.map .str) x (vs++[v])) (S1 B (pt'.map .str) ((x++y)++[.list (c'.p.map .str)]) ((vs++[v])++[w])):=by
  rw[show S1 B (pt'.map .str) ((x++y)++[.list (c'.p.map .str)]) ((vs++[v])++[w])=S1 B (pt'.map .str) x ((vs++[v])++[w])++(y++[.list (c'.p.map .str)]) by unfold S1;rw[ø x];rfl]
  exact(Kb.put (p:=2) (xs:=vs++[v]) rfl (.inl rfl) (.list ((vs++[v])++[w]))).trans ((Kb.put (p:=3) (xs:=pt.map .str) rfl (.inr (.inl rfl)) (.list (pt'.map .str))).trans (Kb.u! (y++[.list (c'.p.map .str)])))
 have bl:x.length+4<=(x++y).length+4:=by rw[Ð];exact Ò (ë _ _) 4
 refine(.mk B _ (vs++[v]) w ((x++y).length+4) (O++[c]) c' rfl (((wT.snoc (g.up (ð E)) r E).keep q).up bl) (.mk Y j A ?_ (by simp) (by simp)) p)
 show((x++y)++[aK.list (c'.p.map .str)])[(x++y).length]? = _
 exact Ĳ
variable {N:NK} {RR:RK} {X:XK} {acT:aj} {Z:aa} {V:Į} {a0 Q À D G H I L:Æ AV}
def K1 (i:Ó) (pt:ZC) (N:NK):Prop:=∀Z a0 Q À D G H I L,J1 i pt Z->N (V1 a0 Q À D G H I L) Z
def Vl (A:i<90) (Jj:J1 i pt Z) (kk:∀Z,J1 (i+1) pt Z->N (V1 a0 Q À D G H I L) Z) :
 p9 acT (V1 a0 Q À D G H I L) Z N RR X:=by
 refine Jj _ λB x vs v l O c e E r p=>?_
 subst e
 have hz:(vs++[v]).length<1000:=by
  rw[Ð,E.len]
  refine p _ λJ J J J J J J lc J=>?_
  exact É (á lc) (Þ (ĳ A) Zz)
 refine bS (l:=2) (xs:=vs++[v]) rfl (Þ hz Zz) (kk _ ?_)
 have Jj:=p
 refine Jj _ λY j J J J J J J J=>?_
 have:=J1.add (y:=[]) E r (p.add (c':=⟨"pi","i",[],[]⟩) (Þ A Zz) Y j (λJ h=>nomatch h) (ï _) (λe=>absurd e Zz) (ö _) λps g J ds d=>.pi ps ds pt Y g d) (.fd [] []) rfl (.inl rfl)
 rw[Ę]at this
 exact this
def Vj {q:Ì} (A:i<90) (Y:pt≠[]) (Jj:J1 i (pt++[q]) Z) (kk:∀Z,J1 (i+1) pt Z->N (V1 a0 Q À D G H I L) Z) :
 pZ acT (V1 a0 Q À D G H I L) Z N RR X:=by
 refine Jj _ λB x vs v l O c e E r p=>?_
 subst e
 have hz:(vs++[v]).length<1000:=by
  rw[Ð,E.len]
  refine p _ λJ J J J J J J lc J=>?_
  exact É (á lc) (Þ (ĳ A) Zz)
 refine ay (mz (l:=3) (xs:=pt.map .str) (v:=.str q) (Õ C (show((pt++[q]).map AV.str)=_ by rw[ò];rfl))) ?_
 refine bS (l:=2) (xs:=vs++[v]) rfl (Þ hz Zz) (kk _ ?_)
 have Jj:=p
 refine Jj _ λJ z J J J J J J J=>?_
 have:=J1.add (y:=[]) E r (p.add (c':=⟨"end",q,[],[]⟩) (pt':=pt) (Þ A Zz) Y (λq j=>z q (ç _ j)) (λJ h=>nomatch h) (ï _) (λe=>absurd e (show("end" : Ì)≠"start" by decide)) (by rw[Ð];exact ļ (ö _)) λps g J ds d=>.en q ps ds pt g (λe=>absurd e Y) d) (.fd [] []) rfl (.inl rfl)
 rw[Ę]at this
 exact this
end
def OQ {Z:aa} {a b c d:AV}:fw Z (.fl [a,b,c,d]) (.int 3)=C d:=rfl
def RX:∀s∈F8,(aB s).all SA.contains=Í/\s.length<=5:=by decide +kernel
def PD:∀s∈Q2,(aB s).all SA.contains=Í/\s.length<=5:=by decide +kernel
def FD {s:Ì} (h:(aB s).all SA.contains=Í):Al s:=λc À=>Ú.mp (ũ.mp h c À)
section
variable {N:NK} {RR:RK} {X:XK} {acT:aj} {Z:aa} {B:Į} {a0 L O D G Q H I:Æ AV} {i:Ó} {pt:ZC}
def Wc {l:Ó} (h0:l≠0) (h2:l≠2) (h3:l≠3):l=1\/∃m,l=m+4:=by
 rcases l with _|_|_|_|m
 ·contradiction
 ·exact .inl rfl
 ·contradiction
 ·contradiction
 ·exact .inr ⟨m,rfl⟩
def Vk (hi:i<90) (Jj:J1 i pt Z) (kk:∀Z,J1 (i+1) pt Z->N (V1 a0 L O D G (C (.int B)) H I) Z) :
 qa acT (V1 a0 L O D G (C (.int B)) H I) Z N RR X:=by
 refine Jj _ λY x vs v l j c e hc r p=>?_
 subst e
 have R:=r
 refine r _ λÀ ev ha A q y=>?_
 subst ev
 obtain⟨s,hs,es⟩:=mP (Z:=S1 Y (pt.map .str) x (vs++[.fl [.str c.k,.str c.w,À,.loc l]])) (ts:=Q2) (i:=B) (n:=12) Zz rfl Zz
 obtain⟨al,sl⟩:=PD s hs
 have hz:c.p.length<1000:=by
  refine p _ λJ J J J pl J J J J=>?_
  exact É pl (Þ (ĳ hi) Zz)
 have V:ag (S1 Y (pt.map .str) x (vs++[.fl [.str c.k,.str c.w,À,.loc l]])) l=C (c.p.map .str):=by unfold ag;rw[A]
 refine aL (fy (l:=2) (ys:=vs) (v:=.fl [.str c.k,.str c.w,À,.loc l]) rfl) ?_
 refine aL OQ (dp (gm V) (aL es ?_))
 refine bS V (by rw[length_map];exact Þ hz Zz) (kk _ ?_)
 have g:Kb l (S1 Y (pt.map .str) x (vs++[.fl [.str c.k,.str c.w,À,.loc l]])) ((S1 Y (pt.map .str) x (vs++[.fl [.str c.k,.str c.w,À,.loc l]])).set l (.list (c.p.map .str++[.str s]))):=Kb.put A (.inr (.inr (Ë _))) _
 have t:CR ((S1 Y (pt.map .str) x (vs++[.fl [.str c.k,.str c.w,À,.loc l]])).set l (.list (c.p.map .str++[.str s]))) ⟨c.k,c.w,c.a,c.p++[s]⟩ (.fl [.str c.k,.str c.w,À,.loc l]) l:=by
  refine(.mk À rfl ?_ ?_ q y)
  ·exact ha.imp id (by rintro⟨d,e,h⟩;exact⟨d,e,g d _ h (.inl ⟨_,rfl⟩)⟩)
  ·rw[ο R.lt]
   exact Õ (λxs=>C (aK.list xs)) (ò (f:=AV.str) (l₁:=c.p) (l₂:=[s])).symm
 have p':=p.more (FD al) sl
 have E:=hc.keep g
 have h0:l≠0:=λz=>by subst z;contradiction
 clear A V g R
 rcases Wc h0 q y with e|⟨m,e⟩
 ·subst e;exact(.mk _ x vs _ 1 j _ rfl E t p')
 ·subst e;exact(.mk Y (x.set m (.list (c.p.map .str++[.str s]))) vs _ (m+4) j _ rfl E t p')
end
def FL {Z:aa} {n:Į}:fq .range [.int n] Z=C (.rng 0 n,Z):=rfl
def IT {B:Type} {n:Į} {f:AV->B->aa->(B->aa->Prop)->Prop} {b:B} {Z:aa} {K:B->aa->Prop} (h:n.natAbs<2 ^ 30) (k:∀src:aa->Prop,(∀Z,src Z)->aY src f ((İ n.toNat).map λ(k:Ó)=>.int (0+(k:Į))) b Z K):Xg (.rng 0 n) f b Z K:=by
 have e:∀Z,uj Z (.rng 0 n)=C (Í,(İ n.toNat).map λ(k:Ó)=>.int (0+(k:Į))):=λZ=>(Û ⟨by decide,h⟩).trans (by unfold nX;rw[acK])
 rw[fh]
 exact o5 (e Z) (k _ e)
section
variable {N:NK} {RR:RK} {X:XK} {acT:aj} {Z:aa} {D:Į} {a0 O Q I L À H G:Æ AV} {i:Ó} {pt:ZC}
def Vm (j:i<90) (Jj:J1 i pt Z) (kk:∀w H G Z,J1 (i+1) (pt++[w]) Z->N (V1 a0 O Q I L (C (.int D)) H G) Z) :
 pQ acT (V1 a0 O Q I L (C (.int D)) H G) Z N RR X:=by
 refine Jj _ λV x vs v l cs c e hc r p=>?_
 subst e
 have Jj:=p
 refine Jj _ λt ht J J J J J lc lp=>?_
 have hz:(vs++[v]).length<1000:=by
  rw[Ð,hc.len]
  exact É (á lc) (Þ (ĳ j) Zz)
 obtain⟨w,hw,ew⟩:=mP (Z:=S1 V (pt.map .str) x (vs++[v])) (ts:=T4) (i:=D) (n:=4) Zz rfl Zz
 have ep:pt.map AV.str++[.str w]=(pt++[w]).map .str:=by rw[ò];rfl
 refine az (S:=pV) (B:=pR) (aL ew (bS (l:=3) (xs:=pt.map .str) rfl (by rw[length_map];exact É lp (Þ (ĳ j) Zz)) ?_))
 rw[ep]
 refine az (S:=pW) (B:=pS) ?_
 obtain⟨n0,n1⟩:=Gi (D.fdiv 4) (n:=3) Zz
 obtain⟨n,E⟩:=YR n0
 have z:n<3:=eh.mp (E▸n1)
 refine az (S:=pX) (B:=pU) (ay (FL (n:=(D.fdiv 4).fmod 3)) (IT (by rw[show(D.fdiv 4).fmod 3=_ from E];exact Þ z Zz) λsrc hs=>?_))
 refine Rx (Z:=S1 V ((pt++[w]).map .str) x (vs++[v])) hs (İ ((D.fdiv 4).fmod 3).toNat) [] G (λk hk=>?_) (λJ h=>nomatch h) Χ ?_ λat' G ha=>?_
 ·rw[show(D.fdiv 4).fmod 3=_ from E]at hk
  exact Þ (acP.mp hk) (Þ z Zz)
 ·rw[show(D.fdiv 4).fmod 3=_ from E,ω,ė,aas]
  exact ž z
 ·have el:((x++[aK.dict (am at')]).length+4)=(S1 V ((pt++[w]).map .str) (x++[.dict (am at')]) (vs++[v])).length:=rfl
  have gp:∀y,fw (S1 V ((pt++[w]).map .str) y (vs++[v])) (.loc 3) (.int (-1))=C (.str w):=λy=>fy (ys:=pt.map .str) (Õ C ep.symm)
  have Y:∀ps:È Ì,(∀p∈ps,Al p/\p.length<=5)->ps.length<=1->(g7 w=Í->ps≠[])->J1 (i+1) (pt++[w]) (S1 V ((pt++[w]).map .str) ((x++[.dict (am at')])++[.list (ps.map .str)]) ((vs++[v])++[.fl [.str "start",.str w,.loc (x.length+4),.loc ((x++[aK.dict (am at')]).length+4)]])):=λps A g h3=>
   J1.add (y:=[.dict (am at')]) (c':=⟨"start",w,at',ps⟩) hc r (p.add (c':=⟨"start",w,at',ps⟩) (Þ j Zz) (by simp) (λq hq=>(ý.mp hq).elim (ht q) λm=>Ù.mp m▸hw) A g (λJ=>h3) (by rw[Ð];exact Ë _) λps A g ds d=>.st w at' ps ds pt t (.mk hw ha (λJ h=>nomatch h)) A (g rfl) d) (.loc (x.length+4)) rfl (.inr ⟨x.length+4,rfl,by
    show((x++[aK.dict (am at')])++_)[x.length]? = _
    rw[ø,ĺ (Ë _),Ť];rfl⟩)
  refine aL (gp _) (aL (gp _) ?_)
  cases htq:g7 w with
  | true=>
   obtain⟨s,hs,es⟩:=mP (Z:=S1 V ((pt++[w]).map .str) (x++[.dict (am at')]) (vs++[v])) (ts:=F8) (i:=D.fdiv 432) (n:=8) Zz rfl Zz
   obtain⟨al,sl⟩:=RX s hs
   refine dD htq (aL es (bS (l:=2) (xs:=vs++[v]) rfl (Þ hz Zz) (kk w _ G _ ?_)))
   exact Y [s] (λp hp=>by rw[Ù.mp hp];exact⟨FD al,sl⟩) (Ë _) λJ=>by simp
  | false=>
   refine db htq (bS (l:=2) (xs:=vs++[v]) rfl (Þ hz Zz) (kk w _ G _ ?_))
   exact Y [] (λJ h=>nomatch h) (ï _) λh=>by rw[htq]at h;cases h
end
def No (L:ZB):L.take (aaG L.length (1:Ó))=L.take 1/\L.drop (aaG L.length (1:Ó))=L.drop 1:=by
 rw[clipAt_nat]
 cases L with
 | nil=>exact⟨rfl,rfl⟩
 | cons a r=>skip;exact⟨rfl,rfl⟩
def Ik {Z:aa} (L:ZB):d0 Z (.fl L) .none (.int 1) .none=C (.fl (L.take 1))/\d0 Z (.fl L) (.int 1) .none .none=C (.fl (L.drop 1)):=by
 refine⟨?_,?_⟩
 ·show C (AV.fl ((L.take (aaG L.length (1:Ó))).drop 0))=_
  rw[(No L).1];rfl
 ·show C (AV.fl ((L.take L.length).drop (aaG L.length (1:Ó))))=_
  rw[Xe,(No L).2]
def yc:∀xs:È Į,iK (xs.map AV.int)=C xs:=by
 intro L;induction L with
 | nil=>
  exact rfl
 | cons x xs B=>
  exact by show(iK (xs.map AV.int)).map (x :: ·)=_;rw[B];rfl
def Oj {Z:aa} {xs:È Į}:fq .sum [.fl (xs.map .int)] Z=C (.int xs.sum,Z):=by
 show(iK (xs.map AV.int)).map (λB=>(AV.int B.sum,Z))=_
 rw[yc];rfl
section
variable {N:NK} {RR:RK} {X:XK} {acT:aj} {Z:aa} {a0 Q À O H I D G:Æ AV} {i:Ó} {pt:ZC} {m:Į} {x:Į}
def J1.path (Jj:J1 i pt Z):ag Z 3=C (pt.map .str)/\pt≠[]/\pt.length<=i+1:=by
 refine Jj _ λJ J J J J J J e J J L=>L _ λB J J J J J J J V=>?_
 subst e
 exact⟨rfl,B,V⟩
def Qr (Y:i<90) (Jj:J1 i pt Z) (kk:∀pt H I D G Z,J1 (i+1) pt Z->N (V1 a0 Q À (C (.int x)) H I D G) Z) :
 jY acT (V1 a0 Q À (C (.int x)) H I D G) Z N RR X:=by
 refine az (S:=pO) (B:=jZ) ?_
 show jZ acT (V1 a0 Q À (C (.int x)) (C (.int (x.fmod 4))) (C (.int (x.fdiv 4))) D G) Z N RR X
 refine az (S:=pP) (B:=s0) ?_
 by_cases m0:x.fmod 4=0
 ·exact dD (õ m0) (Vm Y Jj λw D G Z Jj=>kk _ _ _ _ _ _ Jj)
 ·refine db (ü m0) ?_
  have L:p8 acT (V1 a0 Q À (C (.int x)) (C (.int (x.fmod 4))) (C (.int (x.fdiv 4))) D G) Z N RR X:=by
   by_cases m3:x.fmod 4=3
   ·exact dD (õ m3) (Vl (RR:=RR) Y Jj λZ Jj=>kk _ _ _ _ _ _ Jj)
   ·exact db (ü m3) (Vk (RR:=RR) Y Jj λZ Jj=>kk _ _ _ _ _ _ Jj)
  by_cases m1:x.fmod 4=1
  ·obtain⟨E,V,lp⟩:=Jj.path
   refine dD (õ m1) (ay (my (v:=.loc 3) (n:=pt.length) ?_) ?_)
   ·show cH (strV (.loc 3)) _ ((aw Z (.loc 3)).elim _ _)=_
    rw[show aw Z (.loc 3)=ag Z 3 from rfl,E]
    exact Õ C (length_map ..)
   ·by_cases hl:((pt.length:Ó):Į) > 1
    ·obtain⟨pt',q,rfl⟩:∃pt' q,pt=pt'++[q]:=⟨pt.dropLast,pt.getLast V,(ϒ V).symm⟩
     refine dD (õ hl) (Vj Y (λe=>?_) Jj λZ Jj=>kk _ _ _ _ _ _ Jj)
     subst e
     exact absurd hl (show ¬ ((1:Ó):Į) > 1 by decide)
    ·exact db (ü hl) L
  ·exact db (ü m1) L
def O8 {src:aa->Prop} (V:∀Z,src Z):∀(xs:È Į) (i:Ó) (pt:ZC) (Z:aa) (O H I D G:Æ AV),J1 i pt Z->i+xs.length<90->
 (∀pt Z O H I D G,J1 (i+xs.length) pt Z->N (V1 a0 Q À O H I D G) Z)->
 aY src (λx vs Z N=>(aN 13) acT x vs Z (λvs Z=>jY acT vs Z N RR X) X) (xs.map .int) (V1 a0 Q À O H I D G) Z N:=by
 intro E;induction E with
 | nil=>
  exact @λi pt Z O H I D G Jj J kk=>bx (V _) (kk _ _ _ _ _ _ _ Jj)
 | cons x xs Y=>
  exact @λi pt Z O H I D G Jj L kk=>⟨V _,by
   have B:i+1+xs.length=i+(xs.length+1):=Ě i 1 xs.length
   exact Qr (x:=x) (É (ë _ _) L) Jj λpt H I D G Z Jj=>Y (i+1) pt Z _ _ _ _ _ Jj (by rw[B];exact L) (by rw[B];exact kk)⟩
end
def mJ (H:ZC):È aX:=H.map λq=>⟨"end",q,[],[]⟩
noncomputable def ia:È Ì->Ó->È AV
 | [],_=>[]
 | q::qs,n=>.fl [.str "end",.str q,.fd [] [],.loc (n+4)]::ia qs (n+1)
noncomputable def sh:È Ì->aa
 | []=>[]
 | _::qs=>.list []::sh qs
def F5:∀l:È Ì,wV l.reverse (mJ l):=by
 intro I;induction I with
 | nil=>
  exact .nil
 | cons q l H=>
  rw[tw]
  exact .en q [] (mJ l) l.reverse ⟨(λJ h=>nomatch h),ï _,ï _⟩ (λJ=>rfl) (H)
def t5:AV:=.fl (oy.map λz=>ae (z.2,z.1))
def IL {Z:aa}:d0 Z t5 (.int (k:Ó)) .none .none=C (.fl ((oy.map λz=>ae (z.2,z.1)).drop k))/\d0 Z t5 .none (.int (k:Ó)) .none=C (.fl ((oy.map λz=>ae (z.2,z.1)).take k))/\jP Z .Add (.fl ((oy.map λz=>ae (z.2,z.1)).drop k)) (.fl ((oy.map λz=>ae (z.2,z.1)).take k))=C gy:=by
 have h:=hk
 unfold gy aq dh
 revert h
 generalize k=k
 intro h
 rcases k with _|_|_|_|_|k
 iterate 5 exact⟨by kernel_rfl,by kernel_rfl,by kernel_rfl⟩
 exact absurd h (ų.mpr (ħ ..))
def EV {Z:aa}:fq .dict [gy] Z=C (cQ,Z):=by
 have h:=hk
 unfold gy cQ aq dh
 revert h
 generalize k=k
 intro h
 rcases k with _|_|_|_|_|k
 iterate 5 kernel_rfl
 exact absurd h (ų.mpr (ħ ..))
def Pw.u! {P:AV->AV->Prop} {xs ys H I:ZB} (h:Pw P xs ys) (k:Pw P H I):Pw P (xs++H) (ys++I):=by
 induction h with
 | nil=>exact k
 | cons h _ L=>exact .cons h L
def gU {H:Type} (g:H->Ì):∀l:È H,Bo (l.map λx=>.str (g x))=Í:=by
 intro L;induction L with
 | nil=>
  exact rfl
 | cons _ l I=>
  exact I
section
variable {τ:aa} {c:aX} {v:AV} {l b:Ó} {D:È aX} {vs:ZB}
def CR.re (h:CR τ c v l):M5 τ v (dB c):=by
 refine h _ λav e H I J J=>?_
 subst e
 refine .fl (.cons (.same _ rfl) (.cons (.same _ rfl) (.cons ?_ (.cons (.list l _ I (gU id c.p)) .nil))))
 rcases H with e|⟨d,e,h⟩
 ·rw[e]
  exact .same _ (gU (λz:Ì×Ì=>z.2) c.a)
 ·rw[e]
  have r:=N2.dict d (am c.a) h (by unfold am;rw[ĥ];exact gU (λz:Ì×Ì=>z.2) c.a)
  rw[show AV.fd ((am c.a).map (·.1)) ((am c.a).map (·.2))=bE c.a by unfold am bE;simp only[ĥ,ĥ];rfl]at r
  exact r
def wT.re (h:wT τ b D vs):Pw (M5 τ) vs (D.map dB):=by
 induction h with
 | nil=>exact .nil
 | snoc _ r _ H=>rw[ò];exact H.u! (.cons r.re .nil)
def JY:∀(H:ZC) (n:Ó),(∀j<H.length,τ[n+4+j]? = C (.list []))->Pw (M5 τ) (ia H n) ((mJ H).map dB):=by
 intro O;induction O with
 | nil=>
  exact @λJ J=>.nil
 | cons q H L=>
  exact @λn h=>.cons (CR.re (c:=⟨"end",q,[],[]⟩) (l:=n+4) (.mk (.fd [] []) rfl (.inl rfl) (h 0 (ŵ _)) (by simp) (by simp))) (L (n+1) λj I=>by
   have h:=h (j+1) (ĳ I)
   rw[show n+1+4+j=n+4+(j+1)from(Õ (· + j) (Ě n 1 4)).trans (Ď _ 1 j |>.trans (Õ _ (ı 1 j)))]
   exact h)
variable {N:NK} {X:XK} {acT:aj} {W:Vs} {G:aK} {A B:ZB}
def CB {src:aa->Prop} (L:∀Z,src Z) {K:Vs×È AV->aa->Prop}:∀(H:ZC) (x:aa) (acc:ZB) (a b:Æ AV),acc.length+H.length<1000->
 (∀a b,K (a::b::W,acc++ia H x.length) (S1 G B (x++sh H) A))->
 aY src ((cm (aN 1) t1 (vg (eK Ï (lc (eL (.str "end")) (lc (eN 1) (lc (Nr Ï) (lc (eK Í l0) l0))))))) acT) (H.map .str) (a::b::W,acc) (S1 G B x A) K:=by
 intro À;induction À with
 | nil=>
  exact @λx acc a b J k=>bx (L _) (by have k:=k a b;simp only[show ia [] x.length=[]from rfl,show sh []=[]from rfl,Ę,Ę]at k;exact k)
 | cons q H Q=>
  exact @λx acc a b I k=>⟨L _,É (ë _ _) (Þ I Zz),by
   have O:=Q (x++[.list []]) (acc++[.fl [.str "end",.str q,.fd [] [],.loc (x.length+4)]]) a (C (.str q)) (by simp only[Ð,ŷ,Ď,ı 1];exact I) λa b=>by
    have k:=k a b
    simp only[ø,ø,Ð]
    exact k
   exact O⟩
end
inductive RV (τ:aa):Vs->Vs->Prop
 | nil:RV τ [] []
 | none {a:Æ AV} {vs vs':Vs} (t:RV τ vs vs'):RV τ (a::vs) (U::vs')
 | some {v w:AV} {vs vs':Vs} (h:N3 τ v w) (t:RV τ vs vs'):RV τ (C v::vs) (C w::vs')
def RV.re {τ:aa} {vs À:Vs} (h:RV τ vs À):B6 τ vs À:=by
 induction h with
 | nil=>exact⟨rfl,λi w e=>by contradiction⟩
 | none _ B=>exact⟨Õ (· + 1) B.1,λi w e=>by cases i with|zero=>cases e|succ i=>exact B.2 i w e⟩
 | some h _ B=>exact⟨Õ (· + 1) B.1,λi w e=>by cases i with|zero=>cases e;exact⟨_,rfl,h⟩|succ i=>exact B.2 i w e⟩
def BN:pl gy=Í/\pl cQ=Í:=(by decide +kernel:∀k<5,pl (.fl ((dh k).map λz=>ae (z.2,z.1)))=Í/\pl (.fd ((dh k).map (·.2)) ((dh k).map λz=>.str z.1))=Í) k hk
def sm {τ:aa} {v:AV} (h:pl v=Í):N3 τ v v:=.two (.one (.same v h))
def CA:∀(B:ZC) (n:Ó),(ia B n).length=B.length:=by
 intro V;induction V with
 | nil=>
  exact @λJ=>rfl
 | cons _ B À=>
  exact @λn=>Õ (· + 1) (À (n+1))
theorem zK:∀(B:ZC) (j:Ó),j<B.length->(sh B)[j]? = C (.list [])
 | _::_,0,_=>rfl
 | _::B,j+1,h=>zK B j (Ζ h)
def U2:Sc "t" [("r","p:x")] U:=(.mk (by decide +kernel) (.mk Zz (show ∀z∈[(("r" : Ì),("p:x" : Ì))],z.1∈K4/\z.2∈xi by decide +kernel) (by decide +kernel)) (λJ h=>nomatch h))
section
variable {N:NK} {RR:RK} {X:XK} {acT:aj} {Z:aa} {a0 O Q D G H I L:Æ AV} {i:Ó} {pt:ZC}
def TW (vs:Vs) (τ:aa):Prop:=∃B,bh τ=Í/\B6 τ vs (VL U U U U U U U U U U B)/\QJ B/\B.length<300
def Tk (Y:i<90) (Jj:J1 i pt Z) (kk:∀vs τ,TW vs τ->N vs τ) :
 mX acT (V1 a0 O Q D G H I L) Z N RR X:=by
 refine Jj _ λV x vs v l g c e w r p=>?_
 subst e
 have y:=p.pso (Þ Y Zz)
 refine p _ λq ht J J J hn ext lc lp=>?_
 have hz:(vs++[v]).length<=91:=by rw[Ð,w.len];exact á (Â lc (ð Y))
 have ln:pt.length<=91:=Â lp (á (ð Y))
 refine az (S:=vB) (B:=vA) (bS (l:=2) (xs:=vs++[v]) rfl (É hz Zz) ?_)
 refine az (S:=vC) (B:=s0) ?_
 have z:([AV.str "t"]++(pt.map AV.str).reverse)=(("t" : Ì)::pt.reverse).map .str:=by rw[<-Xb];rfl
 have E:(("t" : Ì)::pt.reverse).length<=92:=by rw[ŕ,ϱ];exact á ln
 refine io (mq (xs:=[.str "t"]) (ys:=(pt.map .str).reverse) (by rw[z,length_map];exact Â E Zz)) (bB λsrc hs=>?_)
 rw[z]
 refine CB (A:=(vs++[v])++[.fl [.str "start",.str "t",.fd ["r"] [.str "p:x"],.loc (x.length+4)]]) hs (("t" : Ì)::pt.reverse) (x++[.list [.str "q:x"]]) [] U U (É (Â (ó (ė _)) E) Zz) λa b=>?_
 refine ay (FJ (l:=2) (xs:=(vs++[v])++[.fl [.str "start",.str "t",.fd ["r"] [.str "p:x"],.loc (x.length+4)]]) rfl ?_) (kk _ _ ?_)
 ·rw[Y4,CA,Ð]
  exact Â (å (Ò hz 1) E) Zz
 ·show TW (V1 a0 O Q D G H I L) (S1 V (pt.map .str) ((x++[.list [.str "q:x"]])++sh (("t" : Ì)::pt.reverse)) (((vs++[v])++[.fl [.str "start",.str "t",.fd ["r"] [.str "p:x"],.loc (x.length+4)]])++ia (("t" : Ì)::pt.reverse) (x++[aK.list [.str "q:x"]]).length))
  generalize hq:(("t" : Ì)::pt.reverse)=qs at *
  generalize hw:AV.fl [.str "start",.str "t",.fd ["r"] [.str "p:x"],.loc (x.length+4)]=w1
  generalize À:S1 V (pt.map .str) ((x++[.list [.str "q:x"]])++sh qs) (((vs++[v])++[w1])++ia qs (x++[aK.list [.str "q:x"]]).length)=τ
  have d:Kb (x.length+4) (S1 V (pt.map .str) x (vs++[v])) τ:=by
   rw[<-À,show S1 V (pt.map .str) ((x++[.list [.str "q:x"]])++sh qs) (((vs++[v])++[w1])++ia qs (x++[aK.list [.str "q:x"]]).length)=S1 V (pt.map .str) x (((vs++[v])++[w1])++ia qs (x++[aK.list [.str "q:x"]]).length)++([.list [.str "q:x"]]++sh qs) by unfold S1;rw[ø x];rfl]
   exact(Kb.put (p:=2) (xs:=vs++[v]) rfl (.inl rfl) (.list (((vs++[v])++[w1])++ia qs (x++[aK.list [.str "q:x"]]).length))).trans (Kb.u! _)
  have m:l<x.length+4:=r.lt
  have at':∀j,τ[j+4]? = ((x++[aK.list [.str "q:x"]])++sh qs)[j]?:=λj=>by rw[<-À];rfl
  have r1:CR τ ⟨"start","t",[("r","p:x")],["q:x"]⟩ w1 (x.length+4):=by
   refine(.mk (.fd ["r"] [.str "p:x"]) hw.symm (.inl rfl) ?_ (by simp) (by simp))
   rw[at',ø,ĺ (Ë _),Ť];rfl
  have re:=JY (τ:=τ) qs (x++[aK.list [.str "q:x"]]).length λj hj=>by
   rw[Ě,at',ĺ (ë _ _),D3]
   exact zK qs j hj
  have t:=((((w.up (ð m)).keep d).re.u! (.cons (r.keep m d).re .nil)).u! (.cons r1.re .nil)).u! re
  rw[show((g.map dB++[dB c])++[dB ⟨"start","t",[("r","p:x")],["q:x"]⟩])++(mJ qs).map dB=(g++c::⟨"start","t",[("r","p:x")],["q:x"]⟩::mJ qs).map dB by rw[ò,ø,ø];rfl]at t
  obtain⟨tp,sp⟩:=BN
  refine⟨g++c::⟨"start","t",[("r","p:x")],["q:x"]⟩::mJ qs,by rw[<-À];rfl,RV.re ?_,ext c.p y hn _ ?_,?_⟩
  ·refine .none <| .none <| .some (sm rfl) <| .some (sm rfl) <| .none <| .some (sm tp) <| .some (sm sp) <| .some (sm rfl) <| .some (sm rfl) <| .none <| .none <| .some (.cells (l:=2) (by rw[<-À];rfl) t) ?_
   repeat first|exact .nil|refine .none ?_
  ·refine .st "t" _ ["q:x"] _ pt q U2 ⟨(λp hp=>by rw[Ù.mp hp];exact FD (by decide +kernel)),by decide,by decide⟩ (λJ=>by simp) ?_
   have h:=F5 qs
   rw[<-hq]at h ⊢
   rw[tw,rt]at h
   exact h
  ·rw[Ð]
   have:(mJ qs).length<=92:=Â (ó (length_map ..)) E
   exact É (å (Â lc (ð Y)) (á (á this))) Zz
def LN:PL 0 ["a"] [] ⟨"start","a",[],[]⟩:=
 (.mk (by simp) (show ∀q∈[("a" : Ì)],q∈T4 by decide +kernel) (λJ h=>nomatch h) (ï _) (ï _) (λJ h=>absurd h (by decide +kernel)) (λps B J ds d=>⟨ps,ds,rfl,B,d⟩) (ï _) (Ë _))
def PF (kk:∀vs τ,TW vs τ->N vs τ):z9 acT (V0 (C (.fl (yM.map .int))) U U U U U U U U U U) [.code] N RR X:=by
 refine az (S:=Ad) (B:=sM) ?_
 refine BC (Ik _).1 ?_
 rw[<-map_take]
 refine ay Oj ?_
 change sM acT (V0 (C (.fl (yM.map .int))) (C (.int F)) U U U U U U U U U) [.code] N RR X
 refine az (S:=Ae) (B:=lU) ?_
 show lU acT (V0 (C (.fl (yM.map .int))) (C (.int F)) (C (.bool (decide (F.fmod 2=1)))) (C (.bool (decide ((F.fdiv 2).fmod 2=1)))) (C (.int ((F.fdiv 4).fmod 5))) U U U U U U) [.code] N RR X
 rw[R7]
 change lU acT (V0 (C (.fl (yM.map .int))) (C (.int F)) (C (.bool f.rw)) (C (.bool f.st)) (C (.int k)) U U U U U U) [.code] N RR X
 obtain⟨G,H,I⟩:=IL (Z:=[.code])
 refine az (S:=Af) (B:=sN) ?_
 show sN acT (V0 (C (.fl (yM.map .int))) (C (.int F)) (C (.bool f.rw)) (C (.bool f.st)) (C (.int k)) (C t5) U U U U U) [.code] N RR X
 refine az (S:=Ag) (B:=Aa) ?_
 refine BC G ?_
 refine BC H ?_
 refine o5 (o:=jP _ .Add _ _) I ?_
 refine az (S:=Ah) (B:=Ac) ?_
 refine ay (EV) ?_
 refine az (S:=Ai) (B:=sO) ?_
 show sO acT (V0 (C (.fl (yM.map .int))) (C (.int F)) (C (.bool f.rw)) (C (.bool f.st)) (C (.int k)) (C (gy)) (C (cQ)) (C (.fl [.str "t",.str "{v}t"])) (C (.fl [.str "r",.str "{u}r"])) U U) [.code] N RR X
 refine az (S:=Aj) (B:=sP) ?_
 show sP acT (V0 (C (.fl (yM.map .int))) (C (.int F)) (C (.bool f.rw)) (C (.bool f.st)) (C (.int k)) (C (gy)) (C (cQ)) (C (.fl [.str "t",.str "{v}t"])) (C (.fl [.str "r",.str "{u}r"])) (C (.fl (F8.map .str))) U) [.code] N RR X
 refine az (S:=Ak) (B:=sQ) ?_
 show sQ acT (V0 (C (.fl (yM.map .int))) (C (.int F)) (C (.bool f.rw)) (C (.bool f.st)) (C (.int k)) (C (gy)) (C (cQ)) (C (.fl [.str "t",.str "{v}t"])) (C (.fl [.str "r",.str "{u}r"])) (C (.fl (F8.map .str))) (C (.fl (xi.map .str)))) [.code] N RR X
 refine az (S:=Am) (B:=sS) ?_
 show sS acT (V1 (C (.fl (yM.map .int))) (C (.int F)) (C (.int k)) U U U U U) (S1 (.list []) ([("a" : Ì)].map .str) [] ([]++[.fl [.str "start",.str "a",.fd [] [],.loc 1]])) N RR X
 refine az (S:=An) (B:=mX) ?_
 refine BC (Ik _).2 (bB λsrc L=>?_)
 rw[<-map_drop]
 have D:(yM.drop 1).length<=63:=by rw[ϰ];exact Â (aaw _ _) L2
 refine O8 L (yM.drop 1) 0 ["a"] _ _ _ _ _ _ (.mk (.list []) [] [] _ 1 [] _ rfl .nil (.mk (.fd [] []) rfl (.inl rfl) rfl Zz Zz) LN) (by rw[ė];exact É D Zz) λpt Z a13 a14 a15 a16 a17 Jj=>?_
 exact Tk (É (Â (ó (ė _)) D) Zz) Jj λvs τ h=>kk vs τ h
end
def HU:∀B:È aX,Bo (B.map dB)=Í:=by
 intro H;induction H with
 | nil=>
  exact rfl
 | cons c B D=>
  show(pl (dB c)&&Bo (B.map dB))=Í
  rw[D,YD]
  show(Í&&(Í&&(Bo (c.a.map λG=>.str G.2)&&(Bo (c.p.map .str)&&Í))))=Í
  rw[gU (λz:Ì×Ì=>z.2) c.a,show Bo (c.p.map .str)=Í from gU id c.p];rfl
def Lk:zm yM:=λn=>by
 show gu _ _ _ _ _
 rw[<-dd]
 show bA _ _ _ Hn _ _ _ _ _
 rw[Ua]
 refine PF λvs τ h=>?_
 obtain⟨B,À,V,⟨ps,H,e,L,G⟩,I⟩:=h
 have D:H.length<299:=by rw[e]at I;exact Ζ I
 refine⟨À,_,V,?_⟩
 show bA _ _ _ Ho _ _ _ _ _
 rw[Ub]
 refine PG L G (Þ D Zz) e λvs Z w=>?_
 (refine w _ ?_;rintro a16 a21 a22 a23 a24 a25 a26 Q out ⟨Y,E⟩ ⟨ts,O,o⟩)
 subst Q O
 obtain⟨acT,A⟩:=BN
 refine⟨E,VL U U U U U U (C (.fl (ts.map .str))) (C (we (bY B [] [] "").2)) U U B,RV.re ?_,?_⟩
 ·refine .none <| .none <| .some (sm rfl) <| .some (sm rfl) <| .none <| .some (sm acT) <| .some (sm A) <| .some (sm rfl) <| .some (sm rfl) <| .none <| .none <| .some (sm (HU B)) <| .none <| .none <| .none <| .none <| .none <| .none <| .some (.two (.one (.list 1 _ (list_eq Y) (gU id ts)))) <| .some (sm ?_) <| ?_
  ·cases (bY B [] [] "").2<;>rfl
  ·repeat first|exact .nil|refine .none ?_
 ·show bA _ _ _ Hp _ _ _ _ _
  rw[Uc]
  refine PH (c:=⟨B,ts,we (bY B [] [] "").2⟩) (n:=n+4) L G (Þ D Zz) e ?_ rfl λJ J J=>⟨rfl,rfl⟩
  exact abH (bF (by simp only[cJ];exact o.symm)) rfl
def Lj (n:Ó) {xs:È Į} (B:xs.length<=63):gu (F9 T (hW T (n+5)) Í 40) (fnOf 185).scope.names (ar (fnOf 185).scope) [Hn,Ho,Hp] (V0 (C (.fl (xs.map .int))) U U U U U U U U U U):=L1 Lk B n
def kI (K:aaD) (a:Ü):ϑ:=(K.lookup a).getD ⟨.none,U,.plain,#[]⟩
def jX (K:aaD) (a:Ü):Y9:=match (kI K a).data with | .func fd=>fd|_=>default
def JL (K:aaD) (c:Ü):ÿ Ê:=match (kI K c).data with | .fields vs=>vs|_=>#[]
def Vf (K:aaD) (c:Ü):YP:=match ((JL K c)[1]? : Æ Ê)with|some (.str _ t)=>t|_=>0
def ME {B D:Type} {l:È B} {x:B} (m:x∈l) {f g:B->D} (h:l.map f=l.map g):f x=g x:=map_inj_left.mp h x m
def NQ (l:ZA) {n:Ó} (h:l.length=n):∃B,l=(İ n).map B:=⟨_,h▸IE l⟩
def iw (h:ę) (a:Ü):(erase h a).get? a=U:=by
 delta erase get?
 dsimp only
 by_cases q:a<h.objs.size
 ·rw[Ϝ q]
 ·rw[C_ (by rw[ta];exact ņ q)]
def ei (h:ę) {a b:Ü} (B:a≠b):(erase h a).get? b=h.get? b:=by
 delta erase get?
 dsimp only
 rw[Xs B]
def pI {h:ę} {a b:Ü} {o:ϑ} (e:(erase h a).get? b=C o):h.get? b=C o:=by
 by_cases q:a=b
 ·subst q;rw[iw]at e;cases e
 ·rw[ei h q]at e;exact e
section
variable {K:aaD} {h:ę}
def d6 (D:K.In h) (k:K.lookup 123=U):K.In (erase h 123):=λa o e=>by
 have B:(123:Ü)≠a:=λq=>by rw[<-q,k]at e;cases e
 rw[ei h B]
 exact D a o e
def nV {a:Ü} {m:Ì->Æ Ê} (D:h.Ns a m) (B:(123:Ü)≠a):(erase h 123).Ns a m:=by
 obtain⟨o,es,ep,e,r⟩:=D
 exact⟨o,es,ep,(ei h B).trans e,r⟩
def iM (X:K.In h) {a:Ü} {m:Ì->Æ Ê} (G:h.Ns a m) (H:K.lookup a=C (kI K a)) {x:Ì} {r:Æ Ê} (e:Zc x (kI K a)=C r):m x=r:=by
 obtain⟨o,B,D⟩:=Bh G
 rw[X _ _ H]at B
 obtain rfl:=Ä B
 rw[D x]at e
 exact Ä e
end
noncomputable def kn:Ó->AV
 | 0=>.none
 | 1=>.bool Ï
 | 2=>.bf .rev
 | _=>.bm .sJoin (.str "")
noncomputable def vn:Ó->Ê
 | 0=>.none
 | 1=>.bool Ï
 | 2=>BI.val .rev
 | _=>.ref 98
def Um (a:Ü):È Ó:=(Zn a [(90,[0]),(106,[3]),(126,[0]),(75,[2])]).getD []
def UJ (a:Ü):È Ó:=(Zn a [(67,[1,1,1,0,0,0,0])]).getD []
def Nb {g:G} (h:∀n,VR g (kn n) (vn n)):∀l:È Ó,aG g (l.map kn) (l.map vn):=by
 intro D;induction D with
 | nil=>
  exact .nil
 | cons n l B=>
  exact .cons (h n) (B)
def Eo {H:Type}:∀{l:È (Ü×H)} {a:Ü} {b:H},l.lookup a=C b->(a,b)∈l:=by
 intro O;induction O with
 | nil=>
  exact @λB D G=>by first|exact nomatch G|exact nomatch D|exact nomatch B
 | cons L l I=>
  obtain⟨x,y⟩:=L;exact @λa b h=>by
   dsimp only[ſ]at h
   by_cases q:a==x
   ·rw[q]at h
    obtain rfl:=Ä h
    rw[eq_of_beq q]
    simp
   ·simp only[e_]at q
    rw[q]at h
    exact à _ (I h)
noncomputable def VZ:È (Ì×Ü):=[("C14NWriterTarget",150),("_law_halves",173),("_law_uri",180),("_escape_cdata_c14n",161),("_escape_attrib_c14n",168)]
noncomputable def V2:È (Ì×BI):=[("sum",.sum),("len",.len),("list",.list),("range",.range),("set",.set),("sorted",.sorted),("str",.str),("dict",.dict)]
abbrev DE:=Ì×YP×Ì×YP
noncomputable def Vw (w:WW) (p:DE):mc:=⟨aaV w.params p.1,.str p.1 p.2.1,.str p.2.2.1 p.2.2.2⟩
noncomputable def VQ (e:mc):DE:=match e.key,e.val with | .str k t,.str v u=>(k,t,v,u)|_,_=>(Ĕ,0,Ĕ,0)
def RU (K:aaD) (a:Ü):È mc:=match (kI K a).data with | .dict es _=>es.toList|_=>[]
def FX {prog:Xx} {w:WW}:∀l:È DE,Pairs (strKind prog w) (l.map (Vw w)) (l.map λp=>(p.1,.str p.2.2.1 p.2.2.2)):=by
 intro D;induction D with
 | nil=>
  exact .nil
 | cons p l B=>
  exact .cons (ů prog w p.1 p.2.1) rfl (B)
def Ov {g:G}:∀l:È DE,(∀p∈l,p.2.2.1.length<=Ö)->aG g (l.map λp=>.str p.2.2.1) (l.map λp=>.str p.2.2.1 p.2.2.2):=by
 intro H;induction H with
 | nil=>
  exact @λJ=>.nil
 | cons p l D=>
  exact @λh=>.cons (.mk _ rfl (h p (ã ..))) (D λq B=>h q (à _ B))
def RH {g:G} {a:Ü} {o:ϑ} {es:ÿ mc} {ep:Ó} {l:È DE} (i:g.I a=C o) (À:o.ExactDict) (L:o.data = .dict es ep) (H:es.toList=l.map (Vw cx.w)) (O:(l.map (·.1)).Nodup) (Q:(a==Κ)=Ï) (hz:l.length<=Ö) (D:∀p∈l,p.1.length<=Ö/\p.2.2.1.length<=Ö) :
 VR g (.fd (l.map (·.1)) (l.map λp=>.str p.2.2.1)) (.ref a):=by
 refine Fv.mk a o (l.map λp=>.str p.2.2.1 p.2.2.2) rfl i ⟨es,ep,À,L,λe h=>?_,?_,?_⟩ (by rw[length_map,length_map]) (Ov l λp B=>(D p B).2) Q (by rw[length_map];exact hz) λk hk=>?_
 ·obtain⟨p,_,rfl⟩:=ě.mp (H▸Array.mem_toList_iff.mpr h)
  exact⟨p.1,ů _ _ _ _,rfl⟩
 ·rw[H,show(l.map (·.1)).zip (l.map λp=>e9 p.2.2.1 p.2.2.2)=l.map λp=>(p.1,.str p.2.2.1 p.2.2.2)from Yb ..]
  exact FX l
 ·rw[show(l.map (·.1)).zip (l.map λp=>e9 p.2.2.1 p.2.2.2)=l.map λp=>(p.1,.str p.2.2.1 p.2.2.2)from Yb ..,ĥ]
  exact O
 ·obtain⟨p,B,rfl⟩:=ě.mp hk
  exact(D p B).1
def Nj (K:aaD) (a:Ü):Ü:=match (jX K a).code with | .ref c=>c|_=>0
abbrev Kw:aaD:=R5 cx.w.params
def TE:È DE:=(RU Kw 44).map VQ
def VS:Ó:=match (kI Kw 44).data with | .dict _ n=>n|_=>0
def UP {g:G} (i:g.I 44=C (kI Kw 44)):VR g Sj (.ref 44):=by
 have e:Sj = .fd (TE.map (·.1)) (TE.map λp=>.str p.2.2.1):=by kernel_rfl
 have D:TE.map (λp=>(p.1,p.2.2.1))=uX:=by kernel_rfl
 rw[e]
 refine RH (es:=(RU Kw 44).toArray) (ep:=VS) i ⟨by kernel_rfl,by kernel_rfl,by kernel_rfl⟩ (by kernel_rfl) (by kernel_rfl) ?_ Zz ?_ λp B=>?_
 ·skip
  decide +kernel
 ·skip
  decide
 ·have m:(p.1,p.2.2.1)∈TE.map (λp=>(p.1,p.2.2.1)):=Ĭ (f:=λp:DE=>(p.1,p.2.2.1)) B
  rw[D]at m
  exact(by decide +kernel:∀q∈uX,q.1.length<=Ö/\q.2.length<=Ö) _ m
section
variable {h:ę}
def VY (H:cx.h₀=erase h 123) (B:Kw.In h) (D:h.Ns ġ cx.mg) (Q:h.Ns Ŏ cx.mb) (L:∀x:Ì,x≠"__name__"->cx.mb x=Yg x):QM where
 mods:=⟨3,_,by decide,by rw[H];exact d6 B (by kernel_rfl) 3 (kI Kw 3) (by kernel_rfl)⟩
 gns:=by rw[H];exact nV D (by show(123:Ü)≠ġ;decide)
 bns:=by rw[H];exact nV Q (by show(123:Ü)≠Ŏ;decide)
 names:=λx v e=>by
  have X:=d6 B (by kernel_rfl)
  have m:(x,v)∈T.gl:=mem_of_lookup e
  have I:Kw.lookup ġ=C (kI Kw ġ):=by kernel_rfl
  have m:(x,v)∈((VZ.map (λp=>(p.1,AV.fn p.2))++[(Ć "_looks_like_prefix_name",AV.lk)])++V2.map (λp=>(p.1,AV.bf p.2)))++[(Ć "_namespace_map",Sj)]:=m
  rcases ý.mp m with m|m
  ·rcases ý.mp m with m|m
   ·rcases ý.mp m with m|m
    ·obtain⟨p,G,q⟩:=ě.mp m
     obtain⟨rfl,rfl⟩:=ŋ q
     exact⟨.ref p.2,.inl (iM B D I (ME G (f:=λp=>Zc p.1 (kI Kw ġ)) (g:=λp=>C (C (.ref p.2))) (by kernel_rfl))),λg J=>by rfl⟩
    ·obtain⟨rfl,rfl⟩:=ŋ (Ù.mp m)
     exact⟨.ref 52,.inl (iM B D I (by kernel_rfl)),λg J=>by rfl⟩
   ·obtain⟨p,G,q⟩:=ě.mp m
    obtain⟨rfl,rfl⟩:=ŋ q
    exact⟨BI.val p.2,.inr ⟨iM B D I (ME G (f:=λp=>Zc p.1 (kI Kw ġ)) (g:=λp=>C U) (by kernel_rfl)),
     (L _ (X4 (ME G (f:=λp=>decide (p.1 = "__name__")) (g:=λp=>Ï) (by kernel_rfl)))).trans (ME G (f:=λp=>Yg p.1) (g:=λp=>C (BI.val p.2)) (by kernel_rfl))⟩,λg J=>by rfl⟩
  ·obtain⟨rfl,rfl⟩:=ŋ (Ù.mp m)
   exact⟨.ref 44,.inl (iM B D I (by kernel_rfl)),λg O=>UP (O 44 _ (by rw[H];exact X 44 (kI Kw 44) (by kernel_rfl)))⟩
 err:=⟨iM B D (by kernel_rfl:Kw.lookup ġ=C (kI Kw ġ)) (by kernel_rfl),(L _ (by decide +kernel)).trans (by kernel_rfl)⟩
def Ul (eK:cx.K=Kw) (G:cx.h₀=erase h 123) (D:Kw.In h):pk where
 X:=by rw[eK,G];exact d6 D (by kernel_rfl)
 ga:=by rw[eK];kernel_rfl
 gh:=by rw[eK];kernel_rfl
 sa:=by rw[eK];kernel_rfl
 over:=by rw[eK];kernel_rfl
 dict:=by rw[eK];kernel_rfl
 attr:=λx B=>by
  rw[eK]
  exact⟨ME B (f:=λx=>takerIn Kw 150 x) (g:=λJ=>C U) (by kernel_rfl),ME B (f:=λx=>YB Kw (.ref 150) x) (g:=λJ=>C U) (by kernel_rfl)⟩
 ms:=λx f J e=>by
  rw[eK]
  have m:(x,f)∈T.ms:=mem_of_lookup e
  exact⟨ME m (f:=λp=>YB Kw (.ref 150) p.1) (g:=λp=>C (C (.ref p.2))) (by kernel_rfl),ME m (f:=λp=>typeIn Kw (.ref p.2)) (g:=λp=>C (.type "function")) (by kernel_rfl),
   ME m (f:=λp=>fnIn Kw p.2) (g:=λp=>Í) (by kernel_rfl),ME m (f:=λp=>specialIn Kw (.ref p.2) "__get__") (g:=λp=>C (C (.builtin "function.__get__"))) (by kernel_rfl),
   ME m (f:=λp=>takesIn Kw (.ref p.2)) (g:=λp=>C Ï) (by kernel_rfl),ME m (f:=λp=>copiedNames.contains p.1) (g:=λp=>Ï) (by kernel_rfl)⟩
def Sd (eK:cx.K=Kw):Fq where
 makes:=by rw[eK];kernel_rfl
 ini:=by rw[eK];kernel_rfl
 iniFn:=by rw[eK];kernel_rfl
 keep:=by rw[eK];kernel_rfl
def UK (D:cx.h₀=erase h 123) (G:Kw.In h) (Y:h.Ns ġ cx.mg) (bm:∃bm B,cx.mg "__builtins__" = C (.ref bm)/\bm≠Ŏ/\h.get? bm=C B/\B.cls = .type "module"/\B.dict=C Ŏ/\B.data = .plain):MP where
 code:=by rw[D];exact codeHd_of_K (d6 G (by kernel_rfl)) (by kernel_rfl)
 bm:=by
  obtain⟨b,B,I,L,O,Q,À,V⟩:=bm
  have H:cx.mg "__builtins__" = C (.ref 4):=iM G Y (by kernel_rfl:Kw.lookup ġ=C (kI Kw ġ)) (by kernel_rfl)
  rw[H]at I
  rcases I
  exact⟨4,B,H,L,by decide,by rw[D];exact(ei h Zz).trans O,Q,À,V⟩
 out:=by rw[D];exact iw h 123
def fA (i:Ó):Ê:=((JL Kw 43)[i]?).getD .none
def tA (i:Ó):YP:=match fA i with | .int _ t=>t|_=>0
def SE:ÿ Ê×Ó:=match (kI Kw 42).data with | .seq vs n=>(vs,n)|_=>(#[],0)
def UR (D:cx.h₀=erase h 123) (B:Kw.In h):IW cx.h₀ T.lk:=by
 rw[D]
 have X:=d6 B (by kernel_rfl)
 have e:∀a,Kw.lookup a=C (kI Kw a)->(erase h 123).get? a=C (kI Kw a):=λa q=>X a _ q
 exact .mk 43 42 (kI Kw 43) (kI Kw 42) (fA 0) (fA 1) (fA 3) (fA 4) (tA 2) (tA 6) SE.1 SE.2 ((e 52 (by kernel_rfl)).trans (by kernel_rfl)) (e 43 (by kernel_rfl)) (by kernel_rfl) (by kernel_rfl) (e 42 (by kernel_rfl)) (by kernel_rfl) (by kernel_rfl)
end
def LF:È (Ü×Fn):=(75,E3)::T.fn
section
variable {h:ę}
def VB (eK:cx.K=Kw) (Y:cx.h₀=erase h 123) (V:Kw.In h) {a:Ü} {f:Fn} (m:(a,f)∈LF):B3 a f (a==75):=by
 have X:=d6 V (by kernel_rfl)
 have D:=ME m (f:=λp=>p.2.scope.names.all (λp=>match p.2 with | .free=>Ï|_=>Í)) (g:=λp=>Í) (by kernel_rfl)
 have st:=ME m (f:=λp=>(p.2.pars++p.2.kwd.map (·.1)).all (bI p.2.scope.names)) (g:=λp=>Í) (by kernel_rfl)
 have B:∀a,Kw.lookup a=C (kI Kw a)->cx.h₀.get? a=C (kI Kw a):=λa q=>by rw[Y];exact X a _ q
 refine B3.mk (kI Kw a) (jX Kw a) (B _ (ME m (f:=λp=>Kw.lookup p.1) (g:=λp=>C (kI Kw p.1)) (by kernel_rfl))) (ME m (f:=λp=>(kI Kw p.1).data) (g:=λp=>.func (jX Kw p.1)) (by kernel_rfl))
  (ME m (f:=λp=>(jX Kw p.1).body) (g:=λp=>.stmts p.2.body) (by kernel_rfl)) (ME m (f:=λp=>(jX Kw p.1).scope) (g:=λp=>p.2.scope) (by kernel_rfl))
  ⟨ME m (f:=λp=>p.2.scope.kind) (g:=λp=>.function) (by kernel_rfl),λp H q=>?_,ME m (f:=λp=>p.2.scope.isCoroutine) (g:=λp=>Ï) (by kernel_rfl)⟩ (ME m (f:=λp=>p.2.scope.isGenerator) (g:=λp=>p.1==75) (by kernel_rfl))
  (ME m (f:=λp=>(jX Kw p.1).globals) (g:=λp=>ġ) (by kernel_rfl)) (ME m (f:=λp=>(jX Kw p.1).builtins) (g:=λp=>Ŏ) (by kernel_rfl)) (ME m (f:=λp=>(jX Kw p.1).closure) (g:=λp=>[]) (by kernel_rfl))
  ⟨Nj Kw a,_,_,_,ME m (f:=λp=>(jX Kw p.1).code) (g:=λp=>.ref (Nj Kw p.1)) (by kernel_rfl),B _ (ME m (f:=λp=>Kw.lookup (Nj Kw p.1)) (g:=λp=>C (kI Kw (Nj Kw p.1))) (by kernel_rfl)),ME m (f:=λp=>(kI Kw (Nj Kw p.1)).data) (g:=λp=>.fields (JL Kw (Nj Kw p.1))) (by kernel_rfl),
   ME m (f:=λp=>(JL Kw (Nj Kw p.1))[1]?) (g:=λp=>C (.str (jX Kw p.1).qualname (Vf Kw (Nj Kw p.1)))) (by kernel_rfl)⟩
  (by rw[eK];exact ME m (f:=λp=>keepIn Kw (.ref p.1)) (g:=λp=>Í) (by kernel_rfl)) (by rw[eK];exact ME m (f:=λp=>fnIn Kw p.1) (g:=λp=>Í) (by kernel_rfl)) (λq=>?_) (λp H=>ũ.mp st p H)
  (.mk ((Um a).map vn) ((UJ a).map vn) (λg acT=>?_) (λkn G j N us uk E A s I=>?_))
 ·have:=ũ.mp D p H
  rw[q]at this
  exact Bu this
 ·have e:=ME m (f:=λp=>if(p.2.scope.names.lookup ("resolved_names" : Ì)).isSome then((jX Kw p.1).code,(jX Kw p.1).qualname++".<locals>.")else(.ref 125,Ć "C14NWriterTarget._start"++".<locals>.")) (g:=λp=>(.ref 125,Ć "C14NWriterTarget._start"++".<locals>.")) (by kernel_rfl)
  dsimp only at e
  rw[Û q]at e
  exact ŋ e
 ·have L:=ME m (f:=λp=>p.2.dfl) (g:=λp=>(Um p.1).map kn) (by kernel_rfl)
  have O:=ME m (f:=λp=>p.2.kwd.map (·.2)) (g:=λp=>(UJ p.1).map kn) (by kernel_rfl)
  dsimp only at L O
  rw[L,O]
  have b:∀n,VR g (kn n) (vn n)
   | 0=>rfl
   | 1=>rfl
   | 2=>rfl
   | _+3=>(.mk 98 (.str "" 437) rfl (acT 98 _ (B 98 (by kernel_rfl))) (.mk _ rfl (ï _)))
  exact⟨Nb b _,Nb b _⟩
 ·rw[eK]at I
  refine kp_binds I λS=>?_
  obtain⟨Q,rfl⟩:=NQ us (Nat.eq_sub_of_add_eq E)
  obtain⟨À,rfl⟩:=NQ uk A
  have l:(((a,f),kn),j)∈LF.flatMap λp=>p.2.kws.flatMap λkn=>(İ (p.2.dfl.length+1)).map λj=>((p,kn),j):=abh.mpr ⟨(a,f),m,abh.mpr ⟨kn,G,ě.mpr ⟨j,acP.mpr (ej N),rfl⟩⟩⟩
  exact ME l (f:=λq=>peek Kw S (adQ (jX Kw q.1.1.1) ⟨(İ (q.1.1.2.pars.length - (q.1.1.2.dfl.length - q.2))).map Q,q.1.2.zip ((İ q.1.2.length).map À)⟩)) (g:=λq=>C (q.1.1.2.pars.zip ((İ (q.1.1.2.pars.length - (q.1.1.2.dfl.length - q.2))).map Q++((Um q.1.1.1).map vn).drop q.2)++pick (q.1.1.2.kwd.map (·.1)) ((UJ q.1.1.1).map vn) (q.1.2.zip ((İ q.1.2.length).map À)))) (by kernel_rfl)
def all1 (eK:cx.K=Kw) (B:cx.h₀=erase h 123) (D:Kw.In h) (H:h.Ns ġ cx.mg) (L:h.Ns Ŏ cx.mb) (lim:h.NoLimit) (I:∀x:Ì,x≠"__name__"->cx.mb x=Yg x)
 (bm:∃bm G,cx.mg "__builtins__" = C (.ref bm)/\bm≠Ŏ/\h.get? bm=C G/\G.cls = .type "module"/\G.dict=C Ŏ/\G.data = .plain):Tq where
 cls:=Ul eK B D
 make:=Sd eK
 gl:=VY B D H L I
 lam:=UK B D H bm
 lim:=by rw[B];exact(by obtain⟨O,a,b⟩:=lim;exact⟨O,nV a Zz,b⟩)
 fn:=λa f e=>by
  have m:=Eo e
  have:=VB eK B D (à (75,E3) m)
  rw[ME m (f:=λp=>p.1==75) (g:=λJ=>Ï) (by kernel_rfl)]at this
  exact this
 it:=VB eK B D (ã ..)
 few:=by decide
 pat:=UR B D
end
def Ld {g:G} {vs:ZA} {xs:È Į} (h:IntsAre vs xs):aG g (xs.map AV.int) vs:=by
 induction h with
 | nil=>exact .nil
 | cons _ t h B=>exact .cons ⟨t,rfl⟩ B
def O4 (w:WW) (s:Ç) (mg O:Ì->Æ Ê):zf w s mg O:=by
 refine Ř λn=>?_
 refine Ou (My.mk w s mg O rfl n) _ λw s mg O e n=>?_
 refine n (.mk λÀ KT Y D lim N bm gs fa l I vs xs m Q hI E=>?_)
 have eK:cx.K=R5 w.params:=Õ Cx.K e
 have H:cx.h₀=erase s.heap 123:=Õ Cx.h₀ e
 have ew:cx.w=w:=Õ Cx.w e
 have t:cx.mg=mg:=Õ Cx.mg e
 have B:cx.mb=O:=Õ Cx.mb e
 clear e n
 subst ew t B
 have W:Tq:=all1 eK H À Y D lim N bm
 have g:cx.mg (Ć "law")=C (.ref 185):=iM À Y (by kernel_rfl:Kw.lookup ġ=C (kI Kw ġ)) (by kernel_rfl)
 rw[g]at I
 rcases I
 have G:(123:Ü)≠l:=λq=>by
  rw[<-q,KT]at Q
  exact absurd (show Ă=W2 "list" from Õ Obj.cls (Ä Q)) (λz=>nomatch z)
 have i0:Inv ⟨cx.h₀.get?,[123]⟩ [.code] { s with toks:=s.toks+1 }:=by
  refine⟨λa o e=>pI (H▸e),λa o e=>e,rfl,by decide,λa ha=>?_,λj o a V d=>?_,á (ï _),gs,W⟩
  ·rw[Ù.mp ha]
   show cx.h₀.get? 123=U
   rw[H];exact iw _ _
  ·cases j with
   | zero=>
    obtain rfl:=Ä V
    obtain rfl:=Ä d
    exact .mk rfl #[] KT (by trivial) (.inl rfl)
   | succ j=>exact absurd (show(U:Æ aK)=C o from V) (λh=>nomatch h)
 have q0:VR ⟨cx.h₀.get?,[123]⟩ (.fl (xs.map AV.int)) (.ref l):=.mk l _ vs rfl (by
  show cx.h₀.get? l=_
  rw[H];exact(ei _ G).trans Q) ⟨m,rfl⟩ (Ld hI) (by rw[length_map];exact Â E Zz)
 have hA:g9 (5+1) callerA:=⟨rfl,by decide,by decide⟩
 have acT:=Lj 0 E
 rw[show V0 (C (.fl (xs.map .int))) U U U U U U U U U U=fG (Ć "script") (.fl (xs.map .int)) ((ar (fnOf 185).scope).map λJ=>U) (ar (fnOf 185).scope) by kernel_rfl]at acT
 have run:=Qj (A:=callerA) 5 (a:=185) (f:=fnOf 185) (y:=Ć "script") (w:=.fl (xs.map .int)) (ps:=[Hn,Ho,Hp]) (by kernel_rfl) (by kernel_rfl) (by kernel_rfl) (by kernel_rfl) acT hA rfl i0 q0
 refine ϵ (φ run λr s' z=>?_)
 obtain⟨c,ho,hk⟩:=z
 have keep:∀b o,b≠123->s.heap.get? b=C o->c.s.heap.get? b=C o:=λb o D B=>c.i.sub b o (c.i.base b o (by rw[H];exact(ei _ (Zq D)).trans B))
 obtain⟨P,_,y⟩:=c.i.cell (cO hk)
 refine y _ λhP ps L J J=>?_
 subst hP
 refine⟨rfl,⟨λb o B=>?_,λb o B=>?_⟩,ho,c.i.bare⟩
 ·by_cases D:b=123
  ·subst D
   rw[KT]at B
   obtain rfl:=Ä B
   obtain⟨oc,fs,_,_,_,_,_,_,_,h1,h2,h3,h4,_⟩:=(show CodeHd _ _ _ from W.lam.code)
   exact .inr (.inl ⟨⟨125,oc,fs,pI (H▸h1),h2,h3,h4⟩,rfl,#[],ps,rfl,by rw[Array.empty_append];exact L⟩)
  ·exact .inl (keep b o D B)
 ·by_cases D:b=123
  ·subst D;exact⟨_,L⟩
  ·exact⟨o,keep b o D B⟩
set_option tactic.hygienic true in def Ru {w:WW} {s:Ç} {f:Ì->Æ Ü} {args:È WData} {B:ZA} {as:È Ü} {P:È Ê->È WData->Prop} (G:yL.claim.pre args=Í) (D:aaE args=Í)
 (I:ReadsAllW yL.records f s.heap B args as) (L:WellAll w.params s.heap B args) (H:∀a,a∈as->(a==Κ)=Ï)
 (k:∀(xs:È Į) (l:Ü) (vs:ZA) (m:Ó),s.heap.get? l=C { cls:=.type "list",data:=.seq vs.toArray m }->IntsAre vs xs->xs.length<=63->P [.ref l] [ofPy (.list (xs.map .int))]):P B args:=by
 wrow_args G D I L H
 rename_i xs _ _ _ _ _ _ _ l vs _ hL _ w1 _ hI _ hlen _
 obtain⟨m,V⟩:∃m,s.heap.get? l=C { cls:=.type "list",data:=.seq vs.toArray m }:=by
  rcases _:hL with⟨o,O,e2,n,À⟩
  have Y:Well w.params s.heap (Ż l) (.list (ofPys (xs.map PyData.int))):=w1
  cases Y with
  | list Q _=>
   rw[O]at Q
   obtain rfl:=Ä Q
   refine⟨n,?_⟩
   rw[O]
   exact Õ (λd=>C ({ cls:=.type "list",data:=d }:ϑ)) À
 exact k xs l vs m V hI (by lia)
end Internal
end
noncomputable section
theorem PySem.Challenge.cw_dr0133_01_holds : PySem.Challenge.rw_dr0133_01.Holds :=
 ⟨Internal.SS, Internal.V4 (by
 intro w s₀ s₁ mg mb G Y fa o pm cd doc dV kV ho hdd hcd hD hmg hg args vals as hpre hlay hrd hwl hlo
 clear hD hcd hdd ho
 have KX := km_in_of Y
 have KT := km_tabs_of Y 123 (by decide)
 have Tp := G.T
 have hmg' : mg (Str.ofString "law") = some (.ref fa) := hmg
 clear hmg G Y
 refine Internal.Ru (P := λ vals args => wpAny _ _ (call (.ref fa) vals) (λ v s' => GoodWG Internal.yL.claim _ _ args s₁ (.ok (.ret v)) s') (λ e s' => GoodWG Internal.yL.claim _ _ args s₁ (.error e) s') s₁) hpre hlay hrd hwl hlo λ xs l vs m hl hI hx => ?_
 refine Internal.O4 w s₁ mg mb _ λ run => ?_
 refine wpAny_mono (run KX KT Tp.g Tp.b Tp.nolimit Tp.builtins Tp.bmain (.of_eq hg) hmg' hl hI hx) (λ v s' ⟨e, k, os, gs⟩ => ?_) λ _ _ x => x.elim
 subst e
 exact ⟨.inl ⟨.bool true, .bool true, [], rfl, raisesW_false (by wrow_none_raised), .bool true, by wrow_post, λ _ => ⟨List.nodup_nil, λ _ h => nomatch h⟩⟩, k, os, gs⟩)⟩
end
