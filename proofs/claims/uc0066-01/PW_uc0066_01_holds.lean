import PyProof.Rows.All
import Wide.All
import OpenK.AllK
import Wide.FinOn
import KE.IntBitsLaws
import KE.KEqSeq
import KE.KIntText
import KE.KxPercentT
import Lean
import PySem.Challenge.RW_uc0066_01
set_option Elab.async false
set_option maxRecDepth 100000
set_option maxHeartbeats 4000000
set_option genSizeOf false
set_option genSizeOfSpec false
set_option genInjectivity false
set_option tactic.hygienic false
set_option linter.all false
open Option renaming some->O,none->aB,join->jb,map->j6,map_eq_some_iff->me,elim->uM,some_ne_none->xB,bind_some->xI,isNone->QQ,some->Q1,bind_eq_some_iff->Q3,bind->Sl,map_some->agx,some_inj->agz
open _root_ renaming rfl->V,Int->Z,Nat->aA,List->aD,Option->aG,if_neg->aP,congrArg->aR,if_pos->aS,Bool->aU,False->bO,String->eA,decide_eq_false->eP,Array->eW,decide_eq_true->fM,of_decide_eq_true->kQ,decide_eq_true_eq->lL,beq_iff_eq->mh,Decidable->qE,True->sa,ForInStep->wX,bne_self_eq_false->xb,dif_pos->AL,PUnit->Ge,bne_iff_ne->Gs,not_or->Hc,beq_eq_false_iff_ne->Hg,decide_eq_false_iff_not->QR,if_true->RJ,not_not_intro->agP
open Bool renaming true->aF,false->aI,false_ne_true->cM,and_eq_true->hG,and_eq_true_iff->mM,not_eq_true'->nt,or_eq_false_iff->xj,noConfusion->GY,eq_iff_iff->Q5,true_and->Rb,or_eq_true->RM,false_eq_true->af3,false_and->agN
open PySem.Str renaming ofString->aH,empty->qP,length->sm,join->Bl,ofString->HE,length->ahZ,empty->ah1
open PySem renaming Value->aJ,Shared->aM,wpAny->aN,model->aO,World->aV,Addr->aW,Heap->bF,Pos->bG,Stmt->bR,Around->bX,sizeLine_eq->cN,Sem->cR,starEach->dG,Scope->dO,sizeLine->eF,execs->eH,intKind->fG,mainGlobals->fL,Env->gK,Tok->hA,wpAny_holding->il,wpAny_Assign_Name->iY,Operator->i9,builtinsNs->i',wpAny_standAt->jj,exec->jl,Seg->jn,clipAt->jC,backTo->jD,sysModules->j1,Flow->j5,draw->j9,rawInt->lQ,CmpOp->l9,codeAmong->mL,wpAny_If->mO,stack->mQ,startupNames->mR,wpAny_of_eq->mT,seg_bind_wrap->mU,intKind_is->no,standAt->nu,wpAny_newObj_type->nw,wpAny_Return_some->nA,Str->nI,seqIndex?->oy,getItem->oA,Arguments->oB,closureFor->oE,compEnvC->oK,GenState->pC,valueAt->pE,typeIs_str->pF,wpAny_Name->pG,wpAny_Constant_int->pH,codeAny->pJ,table->pO,seg_execs_nil->pR,wpAny_ite->qF,merged->qG,cellsFrom->qS,holding->sd,stored->sf,binaryOp->sk,spliced->sn,isTrue->so,wpAny_Constant_str->sp,wpAny_Call_method_lateS->sr,wpAny_askSetting->sz,wpAny_call_entry->sC,Model->uv,TriplesOk->uw,wpAny_storeName_local->uz,swapsWith->uA,wpAny_bindName->uB,codeAny_mono->uC,bindArgs->uF,codeAny_builtin->uJ,SetTable->uK,relabel->uP,wpAny_specialOf->wZ,bootBuiltins->xg,cStatics->xh,call_meets->xm,wpAny_call->xu,denote->xx,argsOk->xF,pyNext->xG,typeLookup->At,wpAny_isInstance->Av,subDict->AB,typeIs_int->AK,attributeBase->AQ,constantsAlone->AR,foldedForSure->AS,assign->AT,wpAny_For->AV,intBits_le_64->AW,splitAtGen->AZ,runN->A0,callerA->A1,mainNs->A2,wpAny_storeName_cell->A4,bindL->A5,relayAll->Bh,wpAny_setState_of->Bi,pyIter->Bj,intBits_mul_le->Bq,wpAny_alloc->Gg,wpAny_rule->Gh,wpAny_onRaise->Gj,OsState->Gp,compareOp->Gv,strKind->Gw,Keyword->GC,wpAny_loadName_local->GI,wpAny_loadName_free->GJ,wpAny_isTrue_Compare1->GN,inplaceOp->GQ,Walks->GU,callWith->GV,assignEach->GW,bindName->GX,ConstVals->Hb,mainEnv->Hd,staticOf->Hh,DictEntry->Hi,BindsTo->Hk,plainId_quiet->Ho,entryFor->Hs,wpAny_callSpecial?_slot->Ht,firstArgMember->Hu,intBits_le_of_natAbs->Hz,strIterType->HB,forTurn->HC,foldedSetIterable->HD,Program->QP,isSubtype_type->QS,wpAny_dictEntries->QU,evalPairs->QX,wpAny_loadName_cell->Ro,letTemporaryGo->Rp,slot_list_getitem->Rq,evalEachOpt->Rr,evalEach->Rs,wpAny_Compare1->Rt,storeName->RB,wpAny_Assign_Subscript->RD,wpAny_pyIter_list->RI,wpAny_nsGet->RN,builtinOf->RO,wpAny_isTrue_value->RX,layNew->R1,scanBound->R3,wpAny_storeSet_of->R4,fits_of_scanBound->R5,setAdd->R6,wpAny_setEntries_of->R9,wpAny_attempt->Sa,wpAny_fieldsOf->Sb,newList->Se,wpAny_updateSeq->Sf,slot_listiter_next->Sj,wpAny_seqItems->Sk,wpAny_newFunctionEnv->Sm,stripped->Sq,call_gives->Sr,intBits_add_le->Sz,seg_wrap->SF,NameKind->SP,wpAny_dictEpoch->aeE,evalPairs_nil->aeJ,evalPairs_cons->aeK,noFill_list_add->aeR,wpAny_getItem_of->aeX,behindInMarks->ae3,call_list_range->ae5,wpAny_setItem_list->ae',codeAny_forLoop->afa,codeAny_whileLoop->afd,assignInOrder->afe,swapsWithSole->aff,swappedStores->afg,wpAny_unpack_tuple->afj,wpAny_list_append_plain->afk,rangeSize_one->afo,annotationsOf->afx,call->afC,fenceModules?->afG,codeAny_of_tree->afS,typeLookup_type->afY,builtinLookup_eq_fast->afZ,wpAny_runValue->af0,wpAny_callSpecial?_none->af1,wpAny_setField_rec->af5,wpAny_setField->af6,wpAny_handled->af7,isSubtype_stop->af8,entryFor_of_fast->agc,wpAny_inSet_of->agf,wpAny_ite_false->agh,wpAny_ite_true->agi,intText?->agj,recursionLimit->agL,slot_gen_next->agM,gives_int_repr->agX,int_text_fits->agY,wpAny_assign_Name->ag1,wpAny_comprehension_free->ag2
open Nat renaming le_trans->aL,lt_of_lt_of_le->bK,lt_of_le_of_lt->bZ,le_refl->cA,le_of_eq->cI,ne_of_gt->eG,add_le_add_left->eK,le_of_lt->fB,ne_of_lt->fE,add_le_add->fY,add_comm->gI,le_add_right->hV,add_assoc->ik,lt_trans->iF,not_lt->i8,zero_le->ji,le_of_lt_succ->jB,succ_lt_succ->kr,lt_of_succ_lt->ku,lt_succ_self->kS,add_le_add_right->lH,sub_le->lK,min_eq_left->l8,add_lt_add_left->mj,lt_succ_of_le->ml,zero_add->mI,lt_or_ge->np,succ_pos->nq,le_succ_of_le->nB,succ_le_of_lt->nF,add_right_comm->ov,le_add_left->ox,sub_self->pK,lt_of_add_lt_add_right->pP,add_sub_of_le->qz,add_sub_cancel_left->qA,le_of_succ_le->qB,sub_le_sub_right->qK,sub_le_of_le_add->qV,mul_add->r8,sub_add_cancel->r9,add_zero->si,sub_zero->su,le_total->sv,lt_succ_of_lt->sy,succ_le_succ->sF,mul_le_mul_left->uu,lt_irrefl->ux,min_eq_right->uD,le_succ->uL,mul_le_mul->xz,pow_le_pow_right->xC,le_add_right_of_le->xK,le_sub_of_add_le->Ar,not_lt_of_le->As,log2_lt->AJ,succ_ne_self->A6,mul_one->A7,mul_comm->Bg,mul_two->F8,sub_le_iff_le_add->F9,lt_of_succ_le->Ga,noConfusion->Gb,min_le_right->Gf,add_le_of_le_sub->GK,sub_add_sub_cancel->Hl,lt_of_succ_lt_succ->Hn,sub_lt_left_of_lt_add->Hx,add_lt_add_right->QL,two_mul->QM,sub_add_eq->QO,not_succ_le_self->Q9,pow_succ->RT,mod_lt->RZ,eq_zero_or_pos->R0,not_lt_zero->R2,pow_add->Sn,mul_le_mul_right->So,sub_eq_zero_of_le->Su,le_antisymm->SG,le_div_iff_mul_le->aeu,succ_add_eq_add_succ->aev,lt_of_le_of_ne->aew,mul_div_cancel'->aey,dvd_of_mod_eq_zero->aez,mul_zero->aeA,le_of_add_le_add_right->aeB,le_sub_one_of_lt->aeC,one_mul->aeQ,sub_lt->afc,two_pow_pos->afE,eq_of_testBit_eq->afL,testBit_shiftLeft->afM,testBit_shiftRight->afN,div_add_mod->afO,pos_of_ne_zero->afU,add_mul->agk,zero_mul->agl,succ_ne_zero->ags,lt_of_not_le->agu,sub_sub->agB,lt_add_of_pos_right->agC,le_zero->ag',le_of_succ_le_succ->aha,ofDigitChars->ahh,succ_mul->ahj
open PyProof.Rows renaming lo1->bA,args_cons->iG,IntsAre->iZ,args_nil->jE,up1->jG,seen->kx,AllBare->nr,envOfC->nC,callWith_type->pI,CellsAre->xy,firstMet->AX,List_->GL,evalArgs_none->GO,plain1->HH,seqObj->Si,Constant_none->ae6,callWith_type0->agg,placed_single->ag9,is_none_ne->ahx,is_none_none->ahy,join_list->ahB,Assign_Tuple->ahF,Assign_Tuple_swapped->ahG,IsTup->ah2
open List renaming length_append->bH,length_map->bQ,not_mem_nil->cO,replicate->dU,append_assoc->eZ,getElem?_eq_getElem->fD,mem_singleton->fK,mem_cons->gA,map_cons->gJ,mem_cons_of_mem->hX,getElem?_map->im,getD_eq_getElem?_getD->io,map_append->iE,mem_cons_self->iN,length_drop->iP,mem_map->iX,forall_mem_cons->jk,mem_append->jF,append_nil->jT,all_eq_true->j2,length_cons->j3,mem_append_right->j7,map_map->j8,mem_of_getElem?->kt,size_toArray->kP,mem_append_left->kU,getElem?_eq_some_iff->md,getElem_mem->mq,take_of_length_le->mJ,range->mK,length->nk,drop_zero->nz,Perm->nH,length_take->ow,length_replicate->oJ,mem_reverse->pL,getElem?_append_right->pM,eq_nil_of_length_eq_zero->qC,map_take->qH,range'->qM,nil_append->qQ,cons_append->qR,getElem?_append_left->sx,range_eq_range'->uy,map_reverse->uE,set_append_right->uN,map_congr_left->uO,nodup_append->wW,forIn_cons->wY,any_eq_true->xc,length_nil->xd,drop_eq_nil_of_le->xf,replicate_succ->xi,isEmpty_eq_false_iff->xq,length_reverse->xr,getElem?_eq_none->xt,map_set->xJ,drop_eq_getElem_cons->Au,length_range->Aw,take_length->Ax,mem_map_of_mem->AA,getElem?_drop->AC,toArray->AE,foldl_cons->AH,take_nil->AI,drop_of_length_le->AU,mem_of_mem_drop->Bb,mem_of_mem_take->Bc,map_drop->Bk,tail_drop->Bm,filter_append->Bs,filter_cons_of_pos->Bu,mem_replicate->Bv,take_sublist->Gk,take->Gy,length_set->GP,lookup_cons->GZ,getElem?_take->G0,drop_drop->Hm,head?_drop->Hy,length_singleton->HG,take_left'->HI,take_append_drop->QT,cons->QV,take_add->QZ,flatten_cons->Q2,find?_cons->Q6,drop->Ra,isEmpty_iff->Rn,findIdx?->RC,reverse_reverse->Sv,reverse_append->SD,mem_flatMap->SM,drop_left'->SO,filter_cons_of_neg->SQ,getElem_range->aeG,take_add_one->aeH,length_eq_one_iff->aeO,any_cons->aeV,drop_nil->aeY,cons_ne_nil->ae4,getElem?_set_self->ae7,getElem?_set_ne->ae8,reverse_cons->ae9,drop_length->afb,filterMap_cons_some->afi,extract_eq_take_drop->afm,getElem?_reverse->afq,nodup_cons->afr,of_mem_zip->afs,getElem_of_mem->aft,nodup_nil->afv,take_append_of_le_length->afP,foldl->afQ,isEmpty_nil->afV,perm_singleton->agb,takeWhile_cons->agp,sum_cons->agt,mem_of_find?_eq_some->agw,getElem?_toArray->agy,tail_cons->agA,reverse_singleton->agG,drop_take->agO,flatten->agQ,length_filter_le->ag0,filter_nil->ag3,flatMap_cons->ag4,flatMap_nil->ag5,mem_range->ag6,flatten_singleton->ahb,set_eq_of_length_le->ahc,range'_succ->ahe,filter_eq_self->ahg,mem_or_eq_of_mem_set->ahk,map_eq_nil_iff->ahm
open Option.some renaming inj->cB
open PySem.Txt renaming lower->cD,join->mf,upper->qJ,contains->aeM
open Int renaming le_of_lt->cJ,le_trans->cL,ofNat_le->cT,natCast_nonneg->cW,lt_of_lt_of_le->dD,ofNat_lt->dN,emod_nonneg->eD,ne_of_gt->fC,one_mul->gL,emod_lt_of_pos->gM,mul_comm->hH,lt_of_le_of_lt->iD,not_lt->ja,pow_pos->jm,toNat_of_nonneg->j4,ediv_nonneg->kR,add_comm->lJ,toNat_lt->lP,mul_assoc->lR,add_le_add->nv,mul_ediv_add_emod->nG,le_of_eq->oz,mul_nonneg->oG,toNat_natCast->oH,not_le->pD,ofNat_inj->pN,add_nonneg->qN,pow_add->qT,add_assoc->qU,eq_ofNat_of_zero_le->qW,zero_add->sw,mul_le_mul_of_nonneg_right->sD,neg_mul->sE,lt_trans->uG,ediv_lt_of_lt_mul->uI,natAbs_of_nonneg->wV,le_sub_one_of_lt->xn,add_le_add_right->xo,sub_add_cancel->xp,add_mul_ediv_left->xA,ediv_le_self->AN,sub_le_self->AO,sub_nonneg_of_le->AY,mul_add->A8,mul_le_mul_of_nonneg_left->A9,add_one_le_of_lt->Ba,natCast_mul->Bd,ofNat_sub->Be,ediv_ediv_of_nonneg->Bf,sub_mul->Bn,mul_pos->Bo,add_le_add_left->Bp,toNat_le->Gr,fdiv_eq_ediv_of_nonneg->Ha,ofNat->Hw,add_mul->HA,add_right_comm->HJ,le_antisymm->RF,mul_one->RH,ediv_eq_zero_of_lt->RY,min_eq_left->Sp,sub_left_lt_of_lt_add->Ss,reducePow->Sw,ediv_emod_unique->Sx,le_add_of_nonneg_right->Sy,pow_succ->SA,neg_neg->SE,add_sub_cancel->SK,ne_of_lt->SR,ediv_le_ediv->SS,toNat->aex,le_ediv_iff_mul_le->aeP,add_lt_add_left->afu,sub_left_le_of_le_add->afw,emod_add_mul_ediv->afI,emod_def->afJ,mul_sub->afK,max_eq_right->agm,natCast_pow->agn,natCast_add->ago,sub_le_sub_right->agv,add_mul_ediv_right->agE,mul_lt_mul_of_pos_right->agF,neg_mul_neg->agH,add_mul_emod_self_left->agI,sub_nonneg->ahl,add_sub_add_right->ahn
open Exists renaming elim->cQ
open PySem.Value renaming int->dW,isStrOf->xk,ref->Q0,bool->aeW
open PySem.Heap renaming get?_push_of_some->eV,lt_size->fA,get?_push_size->fP,SameBut->iM,get?_update_self->sb,size_push->xv,get?_update_other->GR,dictOf_iff->Hv,ExtBut->Sd,push->aeI
open And renaming elim->fZ
open PySem.Builtin.Int renaming intBits->gZ
open Array renaming length_toList->iO,toList_append->lO,getElem?_toList->pB,size_append->xH,getElem?_eq_getElem->Ay,replicate->Gm,toList_inj->Gq,getD_eq_getD_getElem?->Q7,toList_push->RE,mem_of_getElem?->SI,getElem?_eq_some_iff->agK
open PySem.W.KPc renaming Good->ky,obj_none->Br,after_add->SJ,good_mono->agS,good_add->agT
open Eq renaming trans->kO
open PySem.Obj renaming mapSeq->mN,putSet->Hp,data_mapDictKeys->aeD,data_mapFields->agd
open PySem.Calls renaming docDef->mP,callWith_builtin->ny,callWith_function->AP,call_function_entry->Sh,call_len_list->aeZ,Name_function_global->ae1,loadGlobal_builtin->ae2
open PySem.W renaming fnX->oF,CodeHd->uH,WData->A3,through->He,hideAll->Hj,boot_heap->RK,ReadsAllW->RP,ReadsW->RQ,behindTheImports->afy
open PySem.Unicode renaming isSpace->pQ,lowerOf->ag7,upperOf->ag8
open PySem.Heap.SameBut renaming update->qD,refl->aeF
open PySem.Builtin renaming bitAnd->qI,bitXor->AD,bitOr->Gl,bitNot->aeL
open Prod.mk renaming inj->qO
open PySem.Builtin.Range renaming rangeSize->sj,rangeFitsLong->ahD,small->ahE
open PySem.F renaming called_set->sA,slot_str_getitem->Q8,plainAttrs_str->Rc,slot_set_len->R8,slot_list_add->aeS,entry_list_add->aeT,args_list_add_2->aeU,slot_str_split->ae0,slot_list_insert->afl,slot_list_reverse->afn,slot_int_rmul->afR,slot_set_iter->af2,plain_extend_loop->af',entry_extend_loop->aga,plainAttrs_set->age,slot_str_rstrip->agr,slot_int_repr->agU,entry_int_repr->agV,args_int_repr_1->agW,slot_str_mod->agZ
open List.cons renaming inj->xl,injEq->Gu
open PySem.SetTable renaming eraseAt->xD,grown->xE,below->Hq,fits->R7,insertAt->afT,popped->afW,drop->afX
open ForInStep renaming yield->Az,rec->ah0
open Classical renaming byContradiction->AF,byCases->ah3
open PySem.Expr.Constant renaming elim->AM
open PySem.StrLaws renaming occBody->Bw,strSub_toList->agq,partsFrom->ahf,found_one->ahY
open Nat.succ renaming inj->Gc
open PySem.Heap.DictOf renaming new->Gi
open PySem.Builtin.Str renaming strKind->Gn,occurrences->Go,strSliceIndices->Gx,partsBetween->aeN,tooLong->ahw
open PySem.Expr.BinOp renaming elim->Gz
open PySem.Expr.List renaming elim->GA
open PySem.Expr.Dict renaming elim->GB
open PySem.Expr.Call renaming elim->GD
open PySem.Expr.Name renaming elim->GF
open PySem.Stmt.Assign renaming elim->GG
open PySem.Env renaming kindOf->GH,blockKind->afh
open PySem.Frame renaming guarded->Hf
open PySem.Setting renaming params->Hr
open PySem.W.KPt renaming hd2->HF
open Int.ofNat renaming inj->QN
open PUnit renaming unit->QW
open Iff renaming mp->QY
open PyProof renaming noPylong_of_log2->Q4
open PySem.Expr.UnaryOp renaming elim->Rf
open PySem.Expr.Compare renaming elim->Rg
open PySem.Expr.BoolOp renaming elim->Rh
open PySem.Expr.IfExp renaming elim->Ri
open PySem.Expr.Subscript renaming elim->Rj
open PySem.Expr.Slice renaming elim->Rk
open PySem.Expr.Tuple renaming elim->Rl
open PySem.Expr.Attribute renaming elim->Rm
open PySem.Stmt.AugAssign renaming elim->Ru
open PySem.Stmt.Expr renaming elim->Rv
open PySem.Stmt.If renaming elim->Rw
open PySem.Stmt.While renaming elim->Rx
open PySem.Stmt.For renaming elim->Ry
open PySem.Stmt.Return renaming elim->Rz
open PySem.Stmt.Break renaming elim->RA
open PySem.W.WShape renaming hasItems->RS,has->afD
open Prod renaming fst->RU,snd->RW
open PySem.Shared renaming setGen->SH,asleep_of_life->afB
open List.Lex renaming rel->SN
open PySem.Walks renaming list->afp
open PySem.Heap.Ns renaming of_isNs->afz
open PySem.Claim2Try renaming globalOf_of_ns->afA
open PySem.W.WData renaming weightAll->afF,layableAll->afH
open PySem.SetTable.below renaming go->af4
open PySem.Builtin.List renaming listSameRef->af9,listFitsIndex->ahM,listTooLong->ahN,listExtendWith->ahU,listTouch->ahV
open PySem.IntMulOk renaming of_le->agD
open PySem.Sem renaming onRaise_eq_wrap->agJ
open Char renaming toNat->agR
open PySem.NameKind renaming free->ahd
open PySem.PyData renaming eqv->ahi
open PySem.Challenge renaming pw_uc0066_01->ahu,rw_uc0066_01->ahv
open PyProof.Rows.SCL renaming lower->ahz,upper->ahA
open PySem.Stmt.FunctionDef renaming elim->ahC
open PySem.AutoListH renaming list_insert_list_int_val_1->ahH,list_reverse_list_0->ahI,list___mul___list_int_3->ahL
open PySem.AfterImport renaming of_importEnds->ahJ,unique->ahK
open PySem.Builtin.Frozenset renaming newClass->ahO,oneOther->ahP,noArgs->ahQ,slot0->ahR
open PySem.pickOrder.go renaming match_1->ahS
open PySem.pickOrder renaming go->ahT
open Decidable renaming byContradiction->ahW
open PySem.Builtin.Generator renaming genWake->ahX
open PySem PySem.W PyProof.Rows
namespace gN
noncomputable section
section
theorem sG{L R a:aA}(h:L < R)(e:a=(L+R) / 2)(n:¬L+1=R):L < a∧a < R:=by
 rw[e];refine⟨(aeu (by decide)).mpr ?_,(Nat.div_lt_iff_lt_mul (by decide)).mpr ?_⟩
 ·rw[F8,aev];exact eK (aew h n) L
 ·rw[F8];exact QL h R
theorem HK{L R:aA}(h:L < R)(n:L+1≠R):L < (L+R) / 2:=(sG h V n).1
theorem Bx{L R:aA}(h:L < R)(n:L+1≠R):(L+R) / 2 < R:=(sG h V n).2
theorem HL{L R N:aA}(h:L < R)(n:L+1≠R)(a:R≤N):(L+R) / 2≤N:=aL (fB (Bx h n)) a
theorem SU{L R N K:aA}(h:L < R)(n:L+1≠R)(a:R≤N)(e:K=N):(L+R) / 2≤K:=e▸HL h n a
theorem HM{L R k:aA}(h:R - L≤k*2):(L+R) / 2 - L≤k:=by refine F9.mpr (Nat.div_le_of_le_mul ?_);rw[QM,←ik,ov k L k,←F8,gI L R];exact lH (F9.mp h) L
theorem HN{L R k:aA}(h:R - L≤k*2):R - (L+R) / 2≤k:=by refine F9.mpr ?_;rw[gI,←Nat.add_mul_div_right _ _ (by decide)];refine(aeu (by decide)).mpr ?_;rw[F8,ov,gI L];exact lH (F9.mp h) R
theorem HO{L R a N:aA}(h:L < R)(b:R≤N)(e:a=(L+R) / 2)(n:¬L+1=R):L+(a - L)≤N:=
 aL (cI (qz (fB (sG h e n).1))) (aL (fB (sG h e n).2) b)
theorem SV{L R a N K:aA}(b:N≤K)(c:R≤N)(e:a=(L+R) / 2):a - L≤K:=
 aL (Nat.sub_le_iff_le_add'.mpr (e▸Nat.div_le_self _ _)) (aL c b)
theorem xL{a b k:aA}(c:a+(k+1)+1 < 900)(h:b≤a+1):b+k+1 < 900:=
 bZ (lH (lH h k) 1) (by rw[ik a 1 k,gI 1 k];exact c)
theorem xM{a b k:aA}(c:a+10*(k+1+1) < 9000)(h:b≤a+3):b+10*(k+1) < 9000:=
 bZ (aL (lH h _) (by rw[r8 10 (k+1) 1,ik,gI 3];exact eK (eK (by decide) _) a)) c
theorem SW{a e:aA}(b:a+e+1 < 900):a+1+0 < 900:=bZ (lH (hV a e) 1) b
theorem HP{a e:aA}(b:a+10*(e+1) < 9000):a+3+10*e < 9000:=bZ (aL (cI (ik a 3 _)) (eK (aL (lH (by decide) _) (cI (gI 10 _))) a)) b
theorem HQ{a e:aA}(b:a+10*(e+1) < 9000):a+3+10*0 < 9000:=bZ (eK (ji (10*e)) _) (HP b)
theorem SX{a e:aA}(h:a+(e+1) < 900):a+1+e < 900:=by rw[ik,gI 1];exact h
theorem SY{a n k p q:aA}(h:k≤n)(b:a+10*n < 9000)(d:p+q≤10*k):a+p+q < 9000:=
 bZ (aL (cI (ik a p q)) (eK (aL d (uu 10 h)) a)) b
theorem S0{a n k:aA}(h:k≤n)(b:a+n < 900)(d:q≤k):a+q < 900:=bZ (eK (aL d h) a) b
theorem S1{L R:aA}(h:L+1=R):R - L=1:=h▸qA L 1
theorem xN{L R:aA}(h:L+1=R):(L:Z)+1=(R:Z):=h▸rfl
theorem HR{L R:aA}(h:¬L+1=R):(L:Z)+1≠(R:Z):=fun e=>h (QN e)
theorem HS{L R a:aA}(e:a=(L+R) / 2):((L:Z)+R) / 2=(a:Z):=e▸rfl
theorem S2{L R N:aA}(a:N≤1000)(b:R≤N)(h:L+1=R):(L:Z) < 2^63:=
 iD (cT.mpr (aL (qB (aL (cI h) b)) a)) (by decide)
theorem S3{L R N K:aA}(a:R≤N)(h:L+1=R)(e:K=N):(L:Z) < (K:Z):=dN.mpr (bK (Ga (aL (cI h) a)) (cI e.symm))
theorem HT{b p q:aA}(a:b≤p)(c:p≤10000*1000)(d:q≤10000*1000):0≤(q:Z)∧(b:Z)+q≤2^27:=
 ⟨cW _,cL (cT.mpr (fY (aL a c) d)) (by decide)⟩
theorem xO{a b c:aA}(h:a+c≤b):min a b=a:=l8 (Nat.le_of_add_right_le h)
theorem S4{L a b N:aA}(h:L+a≤N):L+a+(L+a+b - (min L N+a))=L+(a+b):=by rw[xO h,qA,ik]
theorem S5{L d N:aA}(h:L+d≤N):min L N+(d+(N - (L+d)))=N:=by rw[xO h,←ik,qz h]
theorem S6{L a b N:aA}(h:L+a≤N):min L N+a≤L+a+b:=by rw[xO h];exact hV _ _
theorem S7{L a N:aA}(h:L+a≤N):L≤min L N:=cI (xO h).symm
theorem By(b:aA):¬0≤ -(b:Z) - 1:=by omega
theorem HU(b:Z): -(-b - 1) - 1=b:=by omega
theorem HV(b:aA):(-(-(b:Z) - 1) - 1).toNat=b:=aR aex (HU b)
theorem Bz{a:Z}{k:aA}(b:0≤a)(h:a < k):a.natAbs < k:=dN.mp (by rw[wV b];exact h)
theorem HW{a:Z}(h:0 < a):a.natAbs≠0:=fun e=>absurd (Int.natAbs_eq_zero.mp e) (fC h)
theorem S8{a b k:aA}(h:a - b=k+1):a - (b+1)=k:=by rw[QO,h];rfl
theorem xP{a b:aA}(h:b+1≤a):a - b=a - (b+1)+1:=by rw[QO,r9 (Ar (by rw[gI];exact h))]
theorem S9{n:aA}(h:n % 2=1):n+1=2*((n+1) / 2):=(aey (aez ((Nat.add_mod n 1 2).trans (aR (fun z=>(z+1 % 2) % 2) h)))).symm
theorem S'{n:aA}(h:n % 2=0):n=2*(n / 2):=(aey (aez h)).symm
theorem Ta{n h:aA}(e:n+1=2*h)(m:n % 2=1):h≤n:=by omega
theorem xQ{a b:Z}(h:0 < a)(c:a≤2*b):0 < b:=by omega
theorem Tc{c:aA}(h:65≤c∧c≤90∨97≤c∧c≤122):c < 128:=by omega
theorem BA{c a b:aA}(h:b < c):¬(a≤c∧c≤b):=fun x=>As x.2 h
theorem HX{c a b:aA}(h:c < a):¬(a≤c∧c≤b):=fun x=>As x.1 h
theorem BB{a b c d k:aA}(e:a≤c)(f:b≤d)(h:c+d≤k):a+b≤k:=aL (fY e f) h
theorem Td{a b:aA}(h:a≤b):(a:Z)≤(b:Z):=cT.mpr h
theorem Te{b n m:aA}(a:n*0+m=b+n - 1)(c:m < n)(d:1≤b):False:=by rw[aeA,mI] at a;exact absurd c (i8.mpr (a▸Ar (gI b n▸eK d n)))
theorem Tf{b n k m:aA}(c:k+m=b+n - 1)(a:m < n):b≤k:=aeB (aL (eK (aeC a) b) (cI ((Nat.add_sub_assoc (bZ (ji m) a) b).symm.trans c.symm)))
theorem Tg{j m n:Z}(h:m+(j+1)=n): -j - 1+n=m:=h▸((aR (· +(m+(j+1))) (Int.neg_add (a:=j) (b:=1)).symm).trans ((lJ ..).trans (Int.add_neg_cancel_right ..)))
theorem Th{a b:aA}(h:a - (a - (b+1))=b+1):a - b=(a - (b+1))+1:=(Nat.succ_pred_eq_of_pos (Nat.sub_pos_of_lt (aL (cI h.symm) (lK ..)))).symm
end
section
theorem xa{a b:Prop}{G:Prop}(h:a∧b)(k:a→b→G):G:=
 fZ (fun c h=>k c h) h
theorem xe.{c} {d:Sort c}{b:d→Prop}{G:Prop}(h:∃a,b a)(k:∀a,b a→G):G:=
 cQ h fun a h=>k a h
theorem iH{a b c:Prop}{G:Prop}(h:a∧b∧c)(k:a→b→c→G):G:=
 fZ (fun d h=>xa h (k d)) h
theorem aQ.{d} {e:Sort d}{b c:e→Prop}{G:Prop}(h:∃a,b a∧c a)(k:∀a,b a→c a→G):G:=
 cQ h fun a h=>xa h (k a)
theorem oL.{d,e} {f:Sort d}{g:Sort e}{c:f→g→Prop}{G:Prop}(h:∃a,∃b,c a b)(k:∀a,∀b,c a b→G):G:=
 cQ h fun a h=>xe h (k a)
theorem dX{a b c d:Prop}{G:Prop}(h:a∧b∧c∧d)(k:a→b→c→d→G):G:=
 fZ (fun e h=>iH h (k e)) h
theorem uQ.{e} {f:Sort e}{b:Prop}{c d:f→Prop}{G:Prop}(h:b∧∃a,c a∧d a)(k:b→∀a,c a→d a→G):G:=
 fZ (fun g h=>aQ h (k g)) h
theorem dB.{e} {f:Sort e}{b c d:f→Prop}{G:Prop}(h:∃a,b a∧c a∧d a)(k:∀a,b a→c a→d a→G):G:=
 cQ h fun a h=>iH h (k a)
theorem iQ.{e,f} {g:Sort e}{i:Sort f}{c d:g→i→Prop}{G:Prop}(h:∃a,∃b,c a b∧d a b)(k:∀a,∀b,c a b→d a b→G):G:=
 cQ h fun a h=>aQ h (k a)
theorem xR.{e,f,g} {i:Sort e}{j:Sort f}{l:Sort g}{d:i→j→l→Prop}{G:Prop}(h:∃a,∃b,∃c,d a b c)(k:∀a,∀b,∀c,d a b c→G):G:=
 cQ h fun a h=>oL h (k a)
theorem jo{a b c d e:Prop}{G:Prop}(h:a∧b∧c∧d∧e)(k:a→b→c→d→e→G):G:=
 fZ (fun f h=>dX h (k f)) h
theorem HY.{f,g} {i:Sort f}{j:Sort g}{c:Prop}{d e:i→j→Prop}{G:Prop}(h:c∧∃a,∃b,d a b∧e a b)(k:c→∀a,∀b,d a b→e a b→G):G:=
 fZ (fun l h=>iQ h (k l)) h
theorem mV.{f} {g:Sort f}{b c d e:g→Prop}{G:Prop}(h:∃a,b a∧c a∧d a∧e a)(k:∀a,b a→c a→d a→e a→G):G:=
 cQ h fun a h=>dX h (k a)
theorem uR.{g,i} {c:Sort g}{j:Sort i}{d e:c→Prop}{f:c→j→Prop}{G:Prop}(h:∃a,d a∧e a∧∃b,f a b)(k:∀a,d a→e a→∀b,f a b→G):G:=
 cQ h fun a h=>fZ (fun l h=>fZ (fun m h=>xe h (k a l m)) h) h
theorem BC.{g,i} {c:Sort g}{j:Sort i}{d:c→Prop}{e f:c→j→Prop}{G:Prop}(h:∃a,d a∧∃b,e a b∧f a b)(k:∀a,d a→∀b,e a b→f a b→G):G:=
 cQ h fun a h=>uQ h (k a)
theorem cS.{f,g} {i:Sort f}{j:Sort g}{c d e:i→j→Prop}{G:Prop}(h:∃a,∃b,c a b∧d a b∧e a b)(k:∀a,∀b,c a b→d a b→e a b→G):G:=
 cQ h fun a h=>dB h (k a)
theorem eQ.{f,g,i} {j:Sort f}{l:Sort g}{m:Sort i}{d e:j→l→m→Prop}{G:Prop}(h:∃a,∃b,∃c,d a b c∧e a b c)(k:∀a,∀b,∀c,d a b c→e a b c→G):G:=
 cQ h fun a h=>iQ h (k a)
theorem sH.{f,g,i,j} {l:Sort f}{m:Sort g}{n:Sort i}{o:Sort j}{e:l→m→n→o→Prop}{G:Prop}(h:∃a,∃b,∃c,∃d,e a b c d)(k:∀a,∀b,∀c,∀d,e a b c d→G):G:=
 cQ h fun a h=>xR h (k a)
theorem qX{a b c d e f:Prop}{G:Prop}(h:a∧b∧c∧d∧e∧f)(k:a→b→c→d→e→f→G):G:=
 fZ (fun g h=>jo h (k g)) h
theorem HZ.{g} {i:Sort g}{b:Prop}{c d e f:i→Prop}{G:Prop}(h:b∧∃a,c a∧d a∧e a∧f a)(k:b→∀a,c a→d a→e a→f a→G):G:=
 fZ (fun j h=>mV h (k j)) h
theorem xS.{g} {i:Sort g}{b c d e f:i→Prop}{G:Prop}(h:∃a,b a∧c a∧d a∧e a∧f a)(k:∀a,b a→c a→d a→e a→f a→G):G:=
 cQ h fun a h=>jo h (k a)
theorem Ti.{j,l,m} {d:Sort j}{e:Sort l}{n:Sort m}{f:d→Prop}{g:d→e→Prop}{i:d→e→n→Prop}{G:Prop}(h:∃a,f a∧∃b,g a b∧∃c,i a b c)(k:∀a,f a→∀b,g a b→∀c,i a b c→G):G:=
 cQ h fun a h=>fZ (fun o h=>cQ h fun c h=>fZ (fun p h=>xe h (k a o c p)) h) h
theorem H0.{g,i} {j:Sort g}{l:Sort i}{c d e f:j→l→Prop}{G:Prop}(h:∃a,∃b,c a b∧d a b∧e a b∧f a b)(k:∀a,∀b,c a b→d a b→e a b→f a b→G):G:=
 cQ h fun a h=>mV h (k a)
theorem pS.{g,i,j} {l:Sort g}{m:Sort i}{n:Sort j}{d e f:l→m→n→Prop}{G:Prop}(h:∃a,∃b,∃c,d a b c∧e a b c∧f a b c)(k:∀a,∀b,∀c,d a b c→e a b c→f a b c→G):G:=
 cQ h fun a h=>cS h (k a)
theorem uS.{g,i,j,l} {m:Sort g}{n:Sort i}{o:Sort j}{p:Sort l}{e f:m→n→o→p→Prop}{G:Prop}(h:∃a,∃b,∃c,∃d,e a b c d∧f a b c d)(k:∀a,∀b,∀c,∀d,e a b c d→f a b c d→G):G:=
 cQ h fun a h=>eQ h (k a)
theorem BD.{g,i,j,l,m} {n:Sort g}{o:Sort i}{p:Sort j}{q:Sort l}{r:Sort m}{f:n→o→p→q→r→Prop}{G:Prop}(h:∃a,∃b,∃c,∃d,∃e,f a b c d e)(k:∀a,∀b,∀c,∀d,∀e,f a b c d e→G):G:=
 cQ h fun a h=>sH h (k a)
theorem uT{a b c d e f g:Prop}{G:Prop}(h:a∧b∧c∧d∧e∧f∧g)(k:a→b→c→d→e→f→g→G):G:=
 fZ (fun i h=>qX h (k i)) h
theorem H1.{i,j} {l:Sort i}{m:Sort j}{c d e f g:l→m→Prop}{G:Prop}(h:∃a,∃b,c a b∧d a b∧e a b∧f a b∧g a b)(k:∀a,∀b,c a b→d a b→e a b→f a b→g a b→G):G:=
 cQ h fun a h=>xS h (k a)
theorem nJ.{i,j,l} {m:Sort i}{n:Sort j}{o:Sort l}{d e f g:m→n→o→Prop}{G:Prop}(h:∃a,∃b,∃c,d a b c∧e a b c∧f a b c∧g a b c)(k:∀a,∀b,∀c,d a b c→e a b c→f a b c→g a b c→G):G:=
 cQ h fun a h=>H0 h (k a)
theorem BE.{i,j,l,m} {n:Sort i}{o:Sort j}{p:Sort l}{q:Sort m}{e f g:n→o→p→q→Prop}{G:Prop}(h:∃a,∃b,∃c,∃d,e a b c d∧f a b c d∧g a b c d)(k:∀a,∀b,∀c,∀d,e a b c d→f a b c d→g a b c d→G):G:=
 cQ h fun a h=>pS h (k a)
theorem H2.{i,j,l,m,n,o} {p:Sort i}{q:Sort j}{r:Sort l}{s:Sort m}{t:Sort n}{u:Sort o}{g:p→q→r→s→t→u→Prop}{G:Prop}(h:∃a,∃b,∃c,∃d,∃e,∃f,g a b c d e f)(k:∀a,∀b,∀c,∀d,∀e,∀f,g a b c d e f→G):G:=
 cQ h fun a h=>BD h (k a)
theorem BF{a b c d e f g i:Prop}{G:Prop}(h:a∧b∧c∧d∧e∧f∧g∧i)(k:a→b→c→d→e→f→g→i→G):G:=
 fZ (fun j h=>uT h (k j)) h
theorem BH.{j,l,m} {n:Sort j}{o:Sort l}{p:Sort m}{d:Prop}{e f g i:n→o→p→Prop}{G:Prop}(h:d∧∃a,∃b,∃c,e a b c∧f a b c∧g a b c∧i a b c)(k:d→∀a,∀b,∀c,e a b c→f a b c→g a b c→i a b c→G):G:=
 fZ (fun q h=>nJ h (k q)) h
theorem Tj.{l,m,n} {d:Sort l}{o:Sort m}{p:Sort n}{e f g:d→Prop}{i j:d→o→p→Prop}{G:Prop}(h:∃a,e a∧f a∧g a∧∃b,∃c,i a b c∧j a b c)(k:∀a,e a→f a→g a→∀b,∀c,i a b c→j a b c→G):G:=
 cQ h fun a h=>fZ (fun q h=>fZ (fun r h=>HY h (k a q r)) h) h
theorem BI.{j,l} {m:Sort j}{n:Sort l}{c d e f g i:m→n→Prop}{G:Prop}(h:∃a,∃b,c a b∧d a b∧e a b∧f a b∧g a b∧i a b)(k:∀a,∀b,c a b→d a b→e a b→f a b→g a b→i a b→G):G:=
 cQ h fun a h=>cQ h fun b h=>qX h (k a b)
theorem BJ.{j,l,m,n} {o:Sort j}{p:Sort l}{q:Sort m}{r:Sort n}{e f g i:o→p→q→r→Prop}{G:Prop}(h:∃a,∃b,∃c,∃d,e a b c d∧f a b c d∧g a b c d∧i a b c d)(k:∀a,∀b,∀c,∀d,e a b c d→f a b c d→g a b c d→i a b c d→G):G:=
 cQ h fun a h=>nJ h (k a)
theorem Tk.{m,n,o,p,q} {f:Sort m}{r:Sort n}{s:Sort o}{t:Sort p}{u:Sort q}{g i:f→Prop}{j l:f→r→s→t→u→Prop}{G:Prop}(h:∃a,g a∧i a∧∃b,∃c,∃d,∃e,j a b c d e∧l a b c d e)(k:∀a,g a→i a→∀b,∀c,∀d,∀e,j a b c d e→l a b c d e→G):G:=
 cQ h fun a h=>fZ (fun v h=>fZ (fun w h=>uS h (k a v w)) h) h
theorem H4.{l,m} {n:Sort l}{o:Sort m}{c d e f g i j:n→o→Prop}{G:Prop}(h:∃a,∃b,c a b∧d a b∧e a b∧f a b∧g a b∧i a b∧j a b)(k:∀a,∀b,c a b→d a b→e a b→f a b→g a b→i a b→j a b→G):G:=
 cQ h fun a h=>cQ h fun b h=>uT h (k a b)
theorem oM.{l,m,n} {o:Sort l}{p:Sort m}{q:Sort n}{d e f g i j:o→p→q→Prop}{G:Prop}(h:∃a,∃b,∃c,d a b c∧e a b c∧f a b c∧g a b c∧i a b c∧j a b c)(k:∀a,∀b,∀c,d a b c→e a b c→f a b c→g a b c→i a b c→j a b c→G):G:=
 cQ h fun a h=>BI h (k a)
theorem ip.{l,m,n,o} {p:Sort l}{q:Sort m}{r:Sort n}{s:Sort o}{e f g i j:p→q→r→s→Prop}{G:Prop}(h:∃a,∃b,∃c,∃d,e a b c d∧f a b c d∧g a b c d∧i a b c d∧j a b c d)(k:∀a,∀b,∀c,∀d,e a b c d→f a b c d→g a b c d→i a b c d→j a b c d→G):G:=
 cQ h fun a h=>cQ h fun b h=>H1 h (k a b)
theorem H5.{l,m,n,o,p,q,r,s} {t:Sort l}{u:Sort m}{v:Sort n}{w:Sort o}{x:Sort p}{y:Sort q}{z:Sort r}{A:Sort s}{j:t→u→v→w→x→y→z→A→Prop}{G:Prop}(h:∃a,∃b,∃c,∃d,∃e,∃f,∃g,∃i,j a b c d e f g i)(k:∀a,∀b,∀c,∀d,∀e,∀f,∀g,∀i,j a b c d e f g i→G):G:=
 cQ h fun a h=>cQ h fun b h=>H2 h (k a b)
theorem H6{a b c d e f g i j l:Prop}{G:Prop}(h:a∧b∧c∧d∧e∧f∧g∧i∧j∧l)(k:a→b→c→d→e→f→g→i→j→l→G):G:=
 fZ (fun m h=>fZ (fun n h=>BF h (k m n)) h) h
theorem Tl.{o,p,q,r,s} {f:Sort o}{g:Sort p}{t:Sort q}{u:Sort r}{v:Sort s}{i j l:f→g→Prop}{m n:f→g→t→u→v→Prop}{G:Prop}(h:∃a,∃b,i a b∧j a b∧l a b∧∃c,∃d,∃e,m a b c d e∧n a b c d e)(k:∀a,∀b,i a b→j a b→l a b→∀c,∀d,∀e,m a b c d e→n a b c d e→G):G:=
 cQ h fun a h=>cQ h fun b h=>fZ (fun w h=>fZ (fun x h=>fZ (fun y h=>eQ h (k a b w x y)) h) h) h
theorem Tm.{p,q,r,s} {e:Sort p}{f:Sort q}{g:Sort r}{t:Sort s}{i j l:e→f→g→Prop}{m n o:e→f→g→t→Prop}{G:Prop}(h:∃a,∃b,∃c,i a b c∧j a b c∧l a b c∧∃d,m a b c d∧n a b c d∧o a b c d)(k:∀a,∀b,∀c,i a b c→j a b c→l a b c→∀d,m a b c d→n a b c d→o a b c d→G):G:=
 cQ h fun a h=>cQ h fun b h=>cQ h fun c h=>fZ (fun u h=>fZ (fun v h=>fZ (fun w h=>dB h (k a b c u v w)) h) h) h
theorem H8.{m,n,o,p} {q:Sort m}{r:Sort n}{s:Sort o}{t:Sort p}{e f g i j l:q→r→s→t→Prop}{G:Prop}(h:∃a,∃b,∃c,∃d,e a b c d∧f a b c d∧g a b c d∧i a b c d∧j a b c d∧l a b c d)(k:∀a,∀b,∀c,∀d,e a b c d→f a b c d→g a b c d→i a b c d→j a b c d→l a b c d→G):G:=
 cQ h fun a h=>oM h (k a)
theorem BK.{m,n,o,p,q} {r:Sort m}{s:Sort n}{t:Sort o}{u:Sort p}{v:Sort q}{f g i j l:r→s→t→u→v→Prop}{G:Prop}(h:∃a,∃b,∃c,∃d,∃e,f a b c d e∧g a b c d e∧i a b c d e∧j a b c d e∧l a b c d e)(k:∀a,∀b,∀c,∀d,∀e,f a b c d e→g a b c d e→i a b c d e→j a b c d e→l a b c d e→G):G:=
 cQ h fun a h=>ip h (k a)
theorem H9.{m,n,o,p,q,r} {s:Sort m}{t:Sort n}{u:Sort o}{v:Sort p}{w:Sort q}{x:Sort r}{g i j l:s→t→u→v→w→x→Prop}{G:Prop}(h:∃a,∃b,∃c,∃d,∃e,∃f,g a b c d e f∧i a b c d e f∧j a b c d e f∧l a b c d e f)(k:∀a,∀b,∀c,∀d,∀e,∀f,g a b c d e f→i a b c d e f→j a b c d e f→l a b c d e f→G):G:=
 cQ h fun a h=>cQ h fun b h=>BJ h (k a b)
theorem Tn.{p,q,r,s,t} {f:Sort p}{g:Sort q}{u:Sort r}{v:Sort s}{w:Sort t}{i j l:f→g→Prop}{m n o:f→g→u→v→w→Prop}{G:Prop}(h:∃a,∃b,i a b∧j a b∧l a b∧∃c,∃d,∃e,m a b c d e∧n a b c d e∧o a b c d e)(k:∀a,∀b,i a b→j a b→l a b→∀c,∀d,∀e,m a b c d e→n a b c d e→o a b c d e→G):G:=
 cQ h fun a h=>cQ h fun b h=>fZ (fun x h=>fZ (fun y h=>fZ (fun z h=>pS h (k a b x y z)) h) h) h
theorem To.{n,o,p,q,r} {s:Sort n}{t:Sort o}{u:Sort p}{v:Sort q}{w:Sort r}{f g i j l m:s→t→u→v→w→Prop}{G:Prop}(h:∃a,∃b,∃c,∃d,∃e,f a b c d e∧g a b c d e∧i a b c d e∧j a b c d e∧l a b c d e∧m a b c d e)(k:∀a,∀b,∀c,∀d,∀e,f a b c d e→g a b c d e→i a b c d e→j a b c d e→l a b c d e→m a b c d e→G):G:=
 cQ h fun a h=>H8 h (k a)
theorem H'.{n,o,p,q,r,s} {t:Sort n}{u:Sort o}{v:Sort p}{w:Sort q}{x:Sort r}{y:Sort s}{g i j l m:t→u→v→w→x→y→Prop}{G:Prop}(h:∃a,∃b,∃c,∃d,∃e,∃f,g a b c d e f∧i a b c d e f∧j a b c d e f∧l a b c d e f∧m a b c d e f)(k:∀a,∀b,∀c,∀d,∀e,∀f,g a b c d e f→i a b c d e f→j a b c d e f→l a b c d e f→m a b c d e f→G):G:=
 cQ h fun a h=>BK h (k a)
theorem Ia.{o,p,q,r,s,t,u,v,w} {x:Sort o}{y:Sort p}{z:Sort q}{A:Sort r}{B:Sort s}{C:Sort t}{D:Sort u}{E:Sort v}{F:Sort w}{l m n:x→y→z→A→B→C→D→E→F→Prop}{G:Prop}(h:∃a,∃b,∃c,∃d,∃e,∃f,∃g,∃i,∃j,l a b c d e f g i j∧m a b c d e f g i j∧n a b c d e f g i j)(k:∀a,∀b,∀c,∀d,∀e,∀f,∀g,∀i,∀j,l a b c d e f g i j→m a b c d e f g i j→n a b c d e f g i j→G):G:=
 cQ h fun a h=>cQ h fun b h=>cQ h fun c h=>cQ h fun d h=>cQ h fun e h=>BE h (k a b c d e)
end
section
universe u
@[elab_as_elim] theorem M{c:Sort u}{a b:c}{motive:c→Prop}(h:a=b)(p:motive b):motive a:=h▸p
@[elab_as_elim] theorem aT{c:Sort u}{a b:c}{motive:c→Prop}(h:a=b)(p:motive a):motive b:=h▸p
@[elab_as_elim] theorem iR{a b:Prop}{motive:Prop→Prop}(h:a↔b)(p:motive b):motive a:=propext h▸p
end
section
set_option genInjectivity true in
inductive PV where
 |none |bool (b:aU) |int (i:Z) |str (s:Str)
 |tup (xs:aD PV) |lst (xs:aD PV) |bV
 |gB (fQ:aD (Str×Z))
 deriving Inhabited
noncomputable abbrev PK:=aW→aG Obj
noncomputable abbrev pg:QP:=ahu
mutual
inductive RV(w:aV)(K:PK):aG aW→aJ→PV→Prop
 |none {ma}:RV w K ma .none .none
 |bool {ma b}:RV w K ma (.bool b) (.bool b)
 |int {ma i t}:RV w K ma (.int i t) (.int i)
 |str {ma s t}:RV w K ma (.str s t) (.str s)
 |tup {ma a o its n xs}:K a=O o→o.cls= .type "tuple"→o.data= .seq its n→bL w K its.toList xs→RV w K ma (.ref a) (.tup xs)
 |lst {ma a o its n xs}:K a=O o→o.cls= .type "list"→o.data= .seq its n→bL w K its.toList xs→RV w K ma (.ref a) (.lst xs)
 |bV {a}:RV w K (O a) (.ref a) .bV
 |gB {ma a o kv fQ}:K a=O o→(a==j1)=aI→(∀h:bF,h.get? a=O o→h.DictOf (strKind pg w) a kv)→kv.map (·.1)=fQ.map (·.1)→bL w K (kv.map (·.2)) (fQ.map fun p=> .int p.2)→RV w K ma (.ref a) (.gB fQ)
inductive bL(w:aV)(K:PK):aD aJ→aD PV→Prop
 |nil:bL w K [] []
 |cons {v vs x xs}:RV w K .none v x→bL w K vs xs→bL w K (v::vs) (x::xs)
end
section
variable{K K':PK}
theorem RV.mono(h:∀b o,K b=O o→K' b=O o)(r:RV w K f v x):RV w K' f v x:=
 RV.rec (motive_1:=fun f v x J=>RV w K' f v x) (motive_2:=fun g i J=>bL w K' g i) .none .bool .int .str (fun a b c J d=> .tup (h _ _ a) b c d) (fun a b c J d=> .lst (h _ _ a) b c d) .bV (fun a e b c J d=> .gB (h _ _ a) e b c d) .nil (fun J J a b=> .cons a b) r
theorem bL.ind{w:aV}{C:aD aJ→aD PV→Prop}(d:C [] [])(e:∀v b x c,RV w K .none v x→bL w K b c→C b c→C (v::b) (x::c)){b:aD aJ}{c:aD PV}(r:bL w K b c):C b c:=
 bL.rec (motive_1:=fun J J J J=>sa) (motive_2:=fun b c J=>C b c) trivial trivial trivial trivial (fun J J J J J=>trivial) (fun J J J J J=>trivial) trivial (fun J J J J J J=>trivial) d (fun a r J i=>e _ _ _ _ a r i) r
theorem bL.mono{w:aV}(h:∀b o,K b=O o→K' b=O o){c:aD aJ}{d:aD PV}(r:bL w K c d):bL w K' c d:=bL.ind .nil (fun J J J J a J b=> .cons (a.mono h) b) r
theorem bL.length{w:aV}{a:aD aJ}{c:aD PV}(r:bL w K a c):a.length=c.length:=bL.ind (C:=fun a c=>a.length=c.length) V (fun J J J J J J b=>aR (· +1) b) r
theorem bL.mr(r:bL w K d (x::e)):∃v c,d=v::c∧RV w K .none v x∧bL w K c e:=by cases r with |cons a b=>exact⟨_,_,rfl,a,b⟩
theorem bL.nil_inv(r:bL w K a []):a=[] :=qC r.length
noncomputable def RV.Inv(w:aV)(K:PK)(g:aG aW)(v:aJ):PV→Prop
 | .none=>v= .none| .bool b=>v= .bool b| .int i=>∃t,v= .int i t| .str x=>∃t,v= .str x t| .tup d=>∃a o c n,v= .ref a∧K a=O o∧o.cls= .type "tuple"∧o.data= .seq c n∧bL w K c.toList d| .lst d=>∃a o c n,v= .ref a∧K a=O o∧o.cls= .type "list"∧o.data= .seq c n∧bL w K c.toList d| .bV=>∃a,g=O a∧v= .ref a| .gB f=>∃a o e,v= .ref a∧K a=O o∧(a==j1)=aI∧(∀h:bF,h.get? a=O o→h.DictOf (strKind pg w) a e)∧e.map (·.1)=f.map (·.1)∧bL w K (e.map (·.2)) (f.map fun p=> .int p.2)
theorem RV.inv(r:RV w K f v x):RV.Inv w K f v x:=
 RV.casesOn (motive_1:=fun f v x J=>RV.Inv w K f v x) r V rfl ⟨_,rfl⟩ ⟨_,rfl⟩ (fun a b c d=>⟨_,_,_,_,rfl,a,b,c,d⟩) (fun a b c d=>⟨_,_,_,_,rfl,a,b,c,d⟩) ⟨_,rfl,rfl⟩ (fun a b c d e=>⟨_,_,_,rfl,a,b,c,d,e⟩)
theorem RV.int_inv {a v i} (h:RV w K a v (.int i)):∃t,v= .int i t:=h.inv
theorem RV.str_inv {a v i} (h:RV w K a v (.str i)):∃t,v= .str i t:=h.inv
theorem RV.bool_inv {a v i} (h:RV w K a v (.bool i)):v= .bool i:=h.inv
theorem RV.none_inv {a v} (h:RV w K a v .none):v= .none:=h.inv
theorem RV.lst_inv {d v b} (h:RV w K d v (.lst b)):∃a o c n,v= .ref a∧K a=O o∧o.cls= .type "list"∧o.data= .seq c n∧bL w K c.toList b:=h.inv
theorem RV.sJ {d v b} (h:RV w K d v (.tup b)):∃a o c n,v= .ref a∧K a=O o∧o.cls= .type "tuple"∧o.data= .seq c n∧bL w K c.toList b:=h.inv
theorem RV.pT {b v} (h:RV w K b v .bV):∃a,b=O a∧v= .ref a:=h.inv
theorem RV.BL {d v b} (h:RV w K d v (.gB b)):∃a o c,v= .ref a∧K a=O o∧(a==j1)=aI∧(∀h:bF,h.get? a=O o→h.DictOf (strKind pg w) a c)∧c.map (·.1)=b.map (·.1)∧bL w K (c.map (·.2)) (b.map fun p=> .int p.2):=h.inv
theorem RV.any {g f v x} (h:RV w K g v x)(i:x≠ .bV):RV w K f v x:=
 RV.casesOn (motive_1:=fun J v x J=>x≠ .bV→RV w K f v x) h (fun J=> .none) (fun J=> .bool) (fun J=> .int) (fun J=> .str) (fun a b c d J=> .tup a b c d) (fun a b c d J=> .lst a b c d) (fun h=>absurd rfl h) (fun a b c d e J=> .gB a b c d e) i
end
@[elab_as_elim] theorem sK{b:Type}{P:aD b→Prop}{l:aD b}{n:aA}(h:l.length=n+1)(k:∀a r,r.length=n→P (a::r)):P l:=by
 cases l with
 |nil=>exact Gb h|cons a r=>exact k a r (Gc h)
@[elab_as_elim] theorem pU{b:Type}{P:aD b→Prop}(k:∀a,P [a])(l:aD b)(h:l.length=1):P l:=sK h fun a J h=>qC h▸k a
@[elab_as_elim] theorem pV{c:Type}{P:aD c→Prop}(k:∀a b,P [a,b])(l:aD c)(h:l.length=2):P l:=sK h fun a r h=>pU (P:=fun r=>P (a::r)) (k a) r h
@[elab_as_elim] theorem xT{d:Type}{P:aD d→Prop}(k:∀a b c,P [a,b,c])(l:aD d)(h:l.length=3):P l:=sK h fun a r h=>pV (P:=fun r=>P (a::r)) (k a) r h
@[elab_as_elim] theorem BM{e:Type}{P:aD e→Prop}(k:∀a b c d,P [a,b,c,d])(l:aD e)(h:l.length=4):P l:=sK h fun a r h=>xT (P:=fun r=>P (a::r)) (k a) r h
@[elab_as_elim] theorem Ib{g:Type}{P:aD g→Prop}(k:∀a b c d e f,P [a,b,c,d,e,f])(l:aD g)(h:l.length=6):P l:=sK h fun a r h=>sK h fun b r h=>BM (P:=fun r=>P (a::b::r)) (k a b) r h
theorem Ts{g:Type}{l:aD g}(h:l.length=6):∃a b c d e f,l=[a,b,c,d,e,f] :=Ib (P:=fun l=>∃a b c d e f,l=[a,b,c,d,e,f]) (fun a b c d e f=>⟨a,b,c,d,e,f,rfl⟩) l h
theorem Ic{a:Type}{l:aD (aG a)}(h:l.all QQ=aF):∀q,O q∈l→False:=fun J b=>nomatch j2.mp h _ b
structure Sg where
 loc:aD (aG PV)
 mu:aG (aD PV):= .none
 pl:Bool:=aF
inductive Fl where
 |next |brk |ret (v:PV)
mutual
inductive E
 |nm (i:aA) |gk (x:Str) |int (n:Z) |str (s:Str) |bool (b:aU) |none
 |bin (o:i9) (a b:E) |un (o:UnaryOp) (a:E) |cmp (o:l9) (a b:E) |oN (o1 o2:l9) (a b c:E)
 |bo (o:BoolOp) (es:Es)
 |jc (t a b:E)
 |sub (a i:E) |dE (a l h:E)
 |lst (es:Es) |tup (es:Es) |gB (fQ:aD (Str×Z))
 |call (f:Str) (es:Es) |bi (f:eA) (es:Es)
 |lS (es:Es) |oO (a:E)
 |dH (f:eA) (a:E) (es:Es)
 |comp (elt it:E) (cond:Es) (frees:aD aA)
inductive Es
 |nil |cons (a:E) (r:Es)
end
mutual
inductive S
 |asg (i:aA) (e:E) |mv (i:aA) (e:E) |jp (is:aD aA) (e:E) |mW (i j:aA) (e f:E) |uU (i j:aA) (e:E) |aug (i:aA) (o:i9) (e:E)
 |oP (i:aA) (ix e:E) |sM (i:aA) (ix:E) (o:i9) (e:E)
 |app (i:aA) (e:E) |ins (i:aA) (e1 e2:E) |uV (i:aA) |kV (i:aA)
 |ite (t:E) (a b:B) |oQ (n:aA) (t:E) (b:B) |forR (i:aA) (e:E) (b:B) |forL (i:aA) (rev:aU) (e:E) (b:B)
 |ret (e:E) |brk |bad
inductive B
 |nil |cons (s:S) (b:B)
end
end
section
noncomputable abbrev lw:OpenLaw:=ahv
theorem Tt{a b:aU}(h:a=aF)(g:b=aF):(a && b)=true:=by subst h;exact g
theorem Ie:lw.wellSaid=true:=by
 iterate 38 refine Tt ?_ (by decide+kernel)
 decide+kernel
theorem Tu:pg.bare:=⟨rfl,rfl,rfl,rfl,rfl,by decide+kernel⟩
theorem Tv:opensWell pg=true:=by decide+kernel
theorem Ig:lw.row.toRowW.promised:=⟨[.list []],by decide+kernel,by decide+kernel⟩
theorem Tw:opening pg=plainProg pg.main.scope.names:=by kernel_rfl
end
section
section
variable{E:aJ→aM→Prop}{K:Type} [DecidableEq K]
theorem Tx{w:aV}{A:bX}{s:aM}{c:KeyKind pg w K}{d:aW}{g:aD (K×aJ)}{k:K}{n v:aJ}{Q:Unit→aM→Prop}(i:c.is k n=aF)(p:s.heap.DictOf c d g)(q:k∉g.map (·.1))
  (u:∀j,j.DictOf c d (g++[(k,v)])→iM d s.heap j→Q () {s with heap:=j}) (y:g.length≤eF):
  aN (aO pg w) A (dictPut d (c.hash k) n v) Q E s:=by
 (refine oM (p) ?_;try clear p;rintro o f z l B h r m C)
 have D:f.size≤eF:=by have F:=m.length;have N:f.toList.length=f.size:=rfl;exact aL (cI (kO V F)) y
 have G:(f.findIdx? fun e=>c.is k e.key)=none:=by
  have:(f.findIdx? fun e=>c.is k e.key)=g.findIdx? fun H=>decide (H.1=k):=by refine aT (m.findIdx k) ?_;cases f;simp
  refine M this (iR List.findIdx?_eq_none_iff ?_);intro x I;simp only[QR];exact fun e=>q (iX.mpr ⟨x,I,e⟩)
 refine wpAny_bind (wpAny_dictFind_of i l h r ?_);refine M G <|wpAny_updateDictKeys (hz:=D) l h (u _ ⟨_,_,z+1,sb _ l (Obj.isFreed_of_dict (aeD h _)),B.mapDictKeys _,aeD h _,r.push i _,?_,?_⟩ (qD ..))
 ·have:=m.append i (c.hash k) v;cases f;simpa using this
 ·refine M iE (iR wW ?_);refine⟨C,by simp,?_⟩;intro a L b t;simp only[gJ,List.map_nil,fK] at t;subst t;exact fun e=>q (e▸L)
theorem Tz:At (.type "dict") (aH "__iter__")=pure (O (.builtin "dict.__iter__")):=by kernel_rfl
theorem TA:isSubtype (.type "dict") (.type "dict")=pure true:=by refine M (QS ..) ?_;kernel_rfl
theorem uW{c:Prop} [qE c] {X Y:Prop}(a:¬c)(h:Y):if c then X else Y:=aP a▸h
theorem BN{c:Prop} [qE c] {X Y:Prop}(a:c)(h:X):if c then X else Y:=aS a▸h
theorem xU(h:a=b)(k:aN c A b Q E s):aN c A a Q E s:=h▸k
theorem Ih{A:bX}{M0:uv}{α β:Type}{l:aD α}{f:α→β→cR (wX β)}{Q:β→aM→Prop}(I:aA→β→aM→Prop)(hQ:∀b s,I l.length b s→Q b s)
  (turn:∀i x b s,l[i]? =O x→I i b s→aN M0 A (f x b) (fun r s'=>∃b',r= .yield b'∧I (i+1) b' s') E s) {b:β} {s:aM} (h0:I 0 b s):aN M0 A (forIn l b f) Q E s:=by
 have go:∀(r:aD α) (k:aA),(∀i x,r[i]? =O x→l[k+i]? =O x)→k+r.length=l.length→∀b s,I k b s→aN M0 A (forIn r b f) Q E s:=by
  intro r
  induction r with
  |nil=>intro k _ hk b s h;exact wpAny_pure (hQ b s (hk▸h))
  |cons x r ih=>
   intro k hx hk b s h;refine M (wY ..) <|wpAny_bind (wpAny_mono (turn k x b s (hx 0 x V) h) (fun r' s' h'=> ?_) fun J J e=>e)
   (refine aQ (h') ?_;try clear h';rintro b' e h');exact M e <|ih (k+1) (fun i y hy=>by refine M (ik ..) (M (gI 1 ..) ?_);exact hx (i+1) y hy) (by refine M (ik ..) (M (gI 1 ..) ?_);exact hk) b' s' h'
 exact go l 0 (fun i x h=>by refine M (mI ..) ?_;exact h) (mI _) b s h0
noncomputable def TB(c:KeyKind pg w K)(d a:aW)(e f:aD (K×aJ))(g:Obj)(s:aM)(i:aA)(_:Ge)(h:aM):Prop:=
 ∃b,h={s with heap:=b}∧b.DictOf c d (e++f.take i)∧b.get? a=O g∧iM d s.heap b
theorem TC{a:aD (K×aJ)}(c:((b++a).map (·.1)).Nodup)(d:i < a.length)(e:a[i]? =O (k,v)):k∉(b++a.take i).map (·.1):=by have f:a.drop i=(k,v)::a.drop (i+1):=(Au d).trans (aR (· ::_) (cB ((fD d).symm.trans e)));have g:b++a=(b++a.take i)++((k,v)::a.drop (i+1)):=M (eZ ..) (aT f (M (QT ..) V));rw[g,iE,wW] at c;exact fun h=>c.2.2 _ h _ (iN ..) V
theorem TD{w:aV}{A:bX}{s:aM}{knd:KeyKind pg w K}{d a:aW}{g c:aD (K×aJ)}{Q:Unit→aM→Prop}(H:d≠a)(I:(a==j1)=aI)(L:g≠[])
  (t:s.heap.DictOf knd d g) (u:s.heap.DictOf knd a c) (N:((g++c).map (·.1)).Nodup) (P:g.length+c.length≤eF)
  (R:∀h,h.DictOf knd d (g++c)→iM d s.heap h→Q () {s with heap:=h}):
  aN (aO pg w) A (mergeMapping d (.ref a) aI) Q E s:=by
 (refine oM (u) ?_;try clear u;rintro o j ab m S n T v ae);have y:s.TypeIs (.ref a) "dict":=⟨o,m,S.1⟩;have z:c.length=j.size:=v.length.symm.trans iO;refine oM (id t) fun af U ah W ai X aj Y ak=> ?_;have a0:¬U.isEmpty=true:=fun a1=>L (qC (Y.length.symm.trans (iO.trans (Array.isEmpty_iff_size_eq_zero.mp a1))));refine wpAny_bind (Av y TA (wpAny_bind (wZ y Tz (wpAny_bind (wpAny_pure ?_)))));refine qF (uW (by refine M I ?_;exact cM) ?_);refine wpAny_bind (QU W X (qF (uW a0 ?_)));refine wpAny_bind (QU m n (wpAny_bind (aeE m n (wpAny_bind ?_))));refine Ih (TB knd d a g c o s) (fun J a2 l=> ?_) (fun i x b a2 a3 l=> ?_) ⟨s.heap,rfl,by refine M List.take_zero (M (jT ..) ?_);exact t,m,aeF _ _⟩
 ·(refine mV (l) ?_;try clear l;rintro h e f _ p);refine M e ?_;(replace f:=Aw▸f;replace f:=Eq.symm z▸f;replace f:=Ax▸f);exact wpAny_pure (R h f p)
 (refine xe (md.mp a3) ?_;rintro k q);replace k:=Aw▸k;replace q:=(aeG ..)▸q;subst q;(refine mV (l) ?_;try clear l;rintro h a4 f B p);have a5:i < c.length:=z▸k;obtain⟨⟨al,am⟩,r⟩:∃a6,c[i]? =O a6:=⟨c[i],fD _⟩;(refine xa (v.get? (e:=j[i]) (by refine M pB ?_;exact Ay k) r) ?_;rintro C a7);refine aQ (T j[i] (Array.getElem_mem k)) fun an a8 a9=> ?_;obtain rfl:=knd.inj _ _ _ a8 C
 have a':(g++c.take i).length≤eF:=by refine M bH (M ow ?_);exact aL (eK (Gf _ _) _) P
 refine M a4 <|wpAny_bind (QU B n ?_)
 refine M (Ay k) ?_;refine wpAny_bind (il ?_);refine(M a9 ?_:aN _ A (dictPut d j[i].hash j[i].key j[i].val) _ E _);refine Tx C f (TC N a5 r) (fun D aa F=> ?_) a';have G:D.get? a=O o:=(F.2 a (Ne.symm H)).trans B;refine wpAny_bind (aeE G n (qF (uW (by refine M (xb ..) ?_;exact cM) (wpAny_pure ⟨_,rfl,D,rfl,?_,G,p.trans F⟩))));refine M aeH (M r (aT (eZ ..) (aT a7 ?_)));exact aa
end
end
section
noncomputable def Ii(w:aV)(p:cR aJ×cR aJ)(e:Z×Str):Prop:=
 (∀(A:bX) (E:aJ→aM→Prop) (s:aM) (Q:aJ→aM→Prop),(∀t tk,Q (.int e.1 t) {s with toks:=tk})→aN (aO pg w) A p.1 Q E s)∧
 (∀(A:bX) (E:aJ→aM→Prop) (s:aM) (Q:aJ→aM→Prop),(∀t tk,Q (.str e.2 t) {s with toks:=tk})→aN (aO pg w) A p.2 Q E s)
inductive iS(w:aV):aD (cR aJ×cR aJ)→aD (Z×Str)→Prop
 |nil:iS w [] []
 |cons {p e ps es}:Ii w p e→iS w ps es→iS w (p::ps) (e::es)
inductive iq:aD (Z×aJ)→aD (Z×Str)→Prop
 |nil:iq [] []
 |cons {n x t ps es}:iq ps es→iq ((n,.str x t)::ps) ((n,x)::es)
theorem iS.length {a b} (h:iS w a b):a.length=b.length:=by
 induction h with
 |nil=>rfl|cons _ _ ih=>exact aR (· +1) ih
theorem iS.take:∀{b c} (n:aA),iS w b c→iS w (b.take n) (c.take n)
 | _,_,0,_=>by simpa using iS.nil| _,_,n+1,.nil=>by simpa using iS.nil| _,_,n+1,.cons a h=>by simpa using iS.cons a (h.take n)
theorem iS.drop:∀{b c} (n:aA),iS w b c→iS w (b.drop n) (c.drop n)
 | _,_,0,h=>by simpa using h| _,_,n+1,.nil=>by simpa using iS.nil| _,_,n+1,.cons a h=>by simpa using h.drop n
theorem iq.keys {a b} (h:iq a b):a.map (·.1)=b.map (·.1):=by
 induction h with
 |nil=>rfl|cons _ ih=>exact aR (QV _) ih
theorem iq.append {a b qs c} (g:iq a b)(h:iq qs c):iq (a++qs) (b++c):=by
 induction g with
 |nil=>exact h|cons _ ih=>exact .cons ih
theorem iq.len {a b} (h:iq a b):a.length=b.length:=by have:=aR nk h.keys;simpa using this
section
variable{E:aJ→aM→Prop}
theorem TE(ht:iS w ps es):∀{fQ:aD (Z×aJ)} {s:aM} {Q:Ge→aM→Prop},
  s.heap.DictOf (fG pg w) d fQ→(fQ.map (·.1)++es.map (·.1)).Nodup→fQ.length+es.length≤eF→
  (∀h' tk sN,iq sN es→h'.DictOf (fG pg w) d (fQ++sN)→iM d s.heap h'→Q QW {s with heap:=h',toks:=tk})→
  aN (aO pg w) A (forIn ps QW fun(p:cR aJ×cR aJ) (_:Ge)=>(do let kv ←p.1;let vv ←sd [kv] p.2;sd [kv,vv] (dictSet d kv vv);pure (Az QW):cR (wX Ge))) Q E s:=by
 induction ht with
 |nil=>
  intro fQ s Q hd _ _ hQ;exact wpAny_pure (hQ s.heap s.toks [] .nil (by simpa using hd) (aeF _ _))
 | @cons p e ps es hp hr ih=>
  obtain⟨n,x⟩:=e;intro fQ s Q hd hn hz hQ;refine M (wY ..) <|wpAny_bind (wpAny_bind (hp.1 _ _ _ _ fun t tk=> ?_))
  refine wpAny_bind (il (hp.2 _ _ _ _ fun t' TG=> ?_))
  have TH:sf fQ n (Value.str x t')=fQ++[(n,Value.str x t')] :=by unfold sf;rw[aP];intro ha;simp only[xc,lL] at ha;(refine aQ (ha) ?_;try clear ha;rintro q hq e);rw[wW] at hn;exact hn.2.2 _ (AA hq) n (.head _) e
  simp only[j3] at hz;refine wpAny_bind (il (wpAny_dictSet_pairs (knd:=fG pg w) (hsz:=aL (Ar hz) (lK _ _)) (no pg w n t) hd fun h' oR TJ=>wpAny_pure ?_));rw[TH] at oR;have uX:((fQ++[(n,Value.str x t')]).map (·.1)++es.map (·.1)).Nodup:=by simpa using hn
  exact ih oR uX (by simp;exact aL (cI (ov _ _ _)) hz) fun TK Ij sN hv TL TM=>hQ TK Ij ((n,.str x t')::sN) (.cons hv) (by simpa using TL) (TJ.trans TM)
theorem TN(ht:iS w ps es)(hl:15 < ps.length)(hz:es.length≤eF)(hn:(es.map (·.1)).Nodup)
  (hQ:∀h' tk fQ,iq fQ es→h'.DictOf (fG pg w) s.heap.objs.size fQ→h'.objs.size=s.heap.objs.size+1→(∀b o,s.heap.get? b=O o→h'.get? b=O o)→Q s.heap.objs.size {s with heap:=h',toks:=tk}):
  aN (aO pg w) A (AB ps) Q E s:=by
 unfold AB;refine wpAny_bind (Gg ?_);refine wpAny_bind (il ?_);refine M (aP (Nat.not_le_of_lt hl)) <|wpAny_bind (Gh (wpAny_bind ?_))
 refine TE ht (Gi _) (by simpa using hn) (by simpa using hz) fun h' tk sN hv hd hs=>wpAny_pure (wpAny_pure ?_);refine hQ h' tk sN hv (by simpa using hd) (by refine M hs.1 ?_;simp[aeI]) fun b o e=> ?_;have hb:b≠s.heap.objs.size:=fE (fA e);exact(hs.2 b hb).trans (eV _ e)
inductive uY:aD (aJ×aJ)→aD (Z×Str)→Prop
 |nil:uY [] []
 |cons {n x t u vs es}:uY vs es→uY ((.int n t,.str x u)::vs) ((n,x)::es)
theorem TO(ht:iS w ps es):∀{s:aM} {Q:aD (aJ×aJ)→aM→Prop},
  (∀vs tk,uY vs es→Q vs {s with toks:=tk})→aN (aO pg w) A (QX ps) Q E s:=by
 induction ht with
 |nil=>intro s Q hQ;exact aeJ (hQ [] s.toks .nil)
 | @cons p e ps es hp hr ih=>
  intro s Q hQ;obtain⟨n,x⟩:=e;obtain⟨k,v⟩:=p;exact aeK (hp.1 _ _ _ _ fun t tk=>hp.2 _ _ _ _ fun t' TG=>ih fun vs Ij hv=>hQ _ _ (.cons hv))
theorem TP {d e} (h:uY d e):∃c,Carries (fG pg w) d c∧iq c e:=by
 induction h with
 |nil=>exact⟨[],trivial,.nil⟩
 |cons _ ih=>
  (refine aQ (ih) ?_;try clear ih;rintro c a b);exact⟨(_,.str _ _)::c,⟨no pg w _ _,rfl,a⟩,.cons b⟩
theorem Ik:∀(b a:aD (Z×aJ)),(a.map (·.1)++b.map (·.1)).Nodup→qG a b=a++b
 |[],a,_=>by simp[qG]
 |(k,v)::r,a,h=>by
  have d:k∉a.map (·.1):=fun f=>by rw[wW] at h;exact h.2.2 k f k (.head _) V
  have e:sf a k v=a++[(k,v)] :=by unfold sf;rw[aP];intro c;simp only[xc,lL] at c;(refine aQ (c) ?_;try clear c;rintro p g rfl);exact d (AA g)
  have ih:=Ik r (a++[(k,v)]) (by simpa using h);have:qG a ((k,v)::r)=qG (sf a k v) r:=rfl;refine M this (M e (M ih ?_));simp
theorem Il(h:iS w i f)(n:f.length≤eF)(j:(f.map (·.1)).Nodup)
  (k:∀c tk d,iq d f→c.DictOf (fG pg w) s.heap.objs.size d→c.objs.size=s.heap.objs.size+1→(∀b o,s.heap.get? b=O o→c.get? b=O o)→Q s.heap.objs.size {s with heap:=c,toks:=tk}):
  aN (aO pg w) A (AB i) Q E s:=by
 rcases np 15 i.length with g |g
 ·exact TN h g n j k
 ·refine wpAny_subDict (knd:=fG pg w) g (TO h fun r tk p=> ?_);refine aQ (TP (w:=w) p) fun d a b=>⟨d,a,Gi _,fun c l m=> ?_⟩;rw[Ik d [] (by refine M b.keys ?_;simpa using j)] at l;refine k c _ d b (by simpa using l) (by refine M m.1 ?_;simp[aeI]) fun b o e=> ?_;have q:b≠s.heap.objs.size:=fE (fA e);exact(m.2 b q).trans (eV _ e)
noncomputable def Im(run:aD (cR aJ×cR aJ))(a:aG aW):cR (aG aW):=do
  if run.isEmpty then return a
  match a with
  |none=>return O (←AB run)
  |some d=>
   let sub ←sd [.ref d] (AB run)
   (sd [.ref d,.ref sub] (mergeMapping d (.ref sub) aI)).onRaise fun x=>do let _ ←sd [.ref d,x] (runValue (.builtin "proto.let_go" {}))
   return O d
noncomputable def xV(w:aV)(h₀ h:bF):aG aW→aD (Z×Str)→Prop
 |none,a=>a=[]∧h=h₀|some d,a=>a≠[]∧∃c,iq c a∧h.DictOf (fG pg w) d c∧h₀.objs.size≤d∧∀b o,h₀.get? b=O o→h.get? b=O o
theorem Io{done:aD (Z×Str)}(m:iS w j c)(D:0 < j.length)
  (t:done.length+c.length≤eF) (f:((done++c).map (·.1)).Nodup) (k:xV w h₀ s.heap u done) (F:j1 < h₀.objs.size)
  (v:∀h tk d,xV w h₀ h (O d) (done++c)→Q (O d) {s with heap:=h,toks:=tk}):
  aN (aO pg w) A (Im j u) Q E s:=by
 have G:j.isEmpty=false:=by cases j with
  |nil=>simp at D|cons=>rfl
 have x:c≠[] :=by intro e;have:=m.length;(replace this:=e▸this;replace this:=xd▸this);lia
 have y:(c.map (·.1)).Nodup:=by(replace f:=iE▸f;replace f:=QY wW f);exact f.2.1
 unfold Im;refine M G ?_;have z:c.length≤eF:=aL (ox _ _) t;cases u with
 |none=>
  (refine xa k ?_;clear k;rintro rfl e);refine wpAny_bind (Il m z y fun h tk l a i H n=>wpAny_pure ?_);refine v h tk _ ⟨by simpa using x,l,by simpa using a,i,?_,?_⟩
  ·refine M e ?_;exact cA _
  ·intro b o g;exact n b o (by refine M e ?_;exact g)
 |some d=>
  (refine HZ k ?_;clear k;rintro I l a i p n);refine wpAny_bind (il (Il m z y fun h tk K q L H B=> ?_));refine eQ (id i) fun a0 J J N J=> ?_;have C:d < s.heap.objs.size:=fA N
  have P:h.DictOf (fG pg w) d l:=by(refine eQ (i) ?_;try clear i;rintro o R S T r);exact⟨o,R,S,B _ _ T,r⟩
  refine wpAny_bind (Gj (il (TD (knd:=fG pg w) (fE C) ?_ ?_ P L ?_ ?_ fun U W X=>wpAny_pure ?_)))
  ·exact beq_eq_false_iff_ne.mpr (eG (iF F (bZ p C)))
  ·intro e;replace a:=e▸a;cases a;exact I V
  ·refine M iE (M a.keys (M q.keys (aT iE ?_)));exact f
  ·refine M a.len (M q.len ?_);exact t
  ·refine v U tk d ⟨by simp[x],l++K,a.append q,W,p,fun b o e=> ?_⟩;have Y:b < h₀.objs.size:=fA e;exact(X.2 b (fE (bK Y p))).trans (B b o (n b o e))
noncomputable def TQ(w:aV)(c:aD (cR aJ×cR aJ))(d:aD (Z×Str))(s:aM)(n:aA)(b:aG aW×aD (cR aJ×cR aJ))(e:aM):Prop:=
 ∃m r a tk,n=17*m+r∧r < 17∧e={s with heap:=a,toks:=tk}∧b.2=(c.drop (17*m)).take r∧xV w s.heap a b.1 (d.take (17*m))
theorem TR(l:iS w g a)(N:0 < g.length)
  (D:a.length≤eF) (F:(a.map (·.1)).Nodup) (G:j1 < s.heap.objs.size)
  (P:∀c tk d q,iq q a→c.DictOf (fG pg w) d q→s.heap.objs.size≤d→(∀b o,s.heap.get? b=O o→c.get? b=O o)→Q (.ref d) {s with heap:=c,toks:=tk}):
  aN (aO pg w) A (dictDisplay (g.map fun p=>(O p.1,p.2))) Q E s:=by
 have split:∀m,a.take (17*m)++(a.drop (17*m)).take 17=a.take (17*(m+1)):=fun m=>M (r8 ..) (M QZ V)
 have H:∀(o:aG aW) c tk,xV w s.heap c o a→aN (aO pg w) A (match o with |some d=>pure (Q0 d) |none=>newDict) Q E {s with heap:=c,toks:=tk}:=fun o c tk f=>by
  cases o with
  |none=>exact absurd (l.length.trans (aR nk f.1)) (eG N)
  |some d=>
   (refine HZ f ?_;clear f;rintro _ q R S T U);exact wpAny_pure (P c tk d q R S T U)
 refine wpAny_bind (Ih (TQ w g a s) (fun b W h=> ?_) (fun n x b W t h=> ?_) ⟨0,0,s.heap,s.toks,rfl,by decide,rfl,rfl,⟨rfl,rfl⟩⟩)
 ·(refine ip (h) ?_;try clear h;rintro m r c tk e I u i f);replace e:=(bQ ..)▸e;have i:b.2=g.drop (17*m):=M i (M (mJ (by refine M iP (M e (M (qA ..) ?_));exact cA _)) V);refine M u <|wpAny_bind ?_
  refine M i ?_;cases r with
  |zero=>
   have X:a.take (17*m)=a:=aT (si (17*m)) (aT e (M l.length (M Ax V)));refine M (xf (cI e:g.length≤17*m)) ?_;replace f:=X▸f;exact wpAny_pure (H b.1 c tk f)
  |succ r=>
   have v:a.take (17*m)++a.drop (17*m)=a:=QT _ _;refine Io (h₀:=s.heap) (done:=a.take (17*m)) (l.drop _) (by refine M iP (M e (M (qA ..) ?_));exact nq r) (by refine aT bH (M v ?_);exact D) (by refine M v ?_;exact F) f G fun y z d j=> ?_;replace j:=v▸j;exact H (O d) y z j
 ·(refine ip (h) ?_;try clear h;rintro m r c tk e I u i f);replace t:=im▸t;refine aQ (me.mp t) fun p K Y=>aT Y (M u ?_);(refine xe (md.mp K) ?_;rintro a0 _)
  have B:b.2++[(p.1,p.2)] =(g.drop (17*m)).take (r+1):=by refine M i (M aeH (M AC (aT e (M K ?_))));rfl
  have C:r+1≤g.length - 17*m:=Nat.le_sub_of_add_le' (by refine aT (ik ..) (aT e ?_);exact a0)
  have L:(b.2++[(p.1,p.2)]).length=r+1:=by refine M B (M ow (M iP ?_));exact l8 C
  by_cases k:r=16
  ·refine qF (BN (by refine M L (M k ?_);rfl) (wpAny_bind ?_));refine M B (M k ?_);rw[k] at C e;refine Io (h₀:=s.heap) (done:=a.take (17*m)) ((l.drop (17*m)).take 17) (by refine M ow (M iP (M (l8 C) ?_));decide) (by refine aT bH (M (split ..) ?_);exact aL (List.length_take_le' _ _) D) (by refine M (split ..) (M qH ?_);exact F.sublist (Gk _ _)) f G fun y z d j=>wpAny_pure ⟨_,rfl,m+1,0,y,z,by refine M e ?_;rfl,by decide,rfl,rfl,?_⟩;refine aT (split ..) ?_;exact j
  ·exact qF (uW (by refine M L ?_;exact fun a1=>k (Gc (beq_iff_eq.mp a1))) (wpAny_pure ⟨_,rfl,m,r+1,c,tk,by refine M e ?_;rfl,kr (aew (jB I) k),rfl,B,f⟩))
end
end
section
open Classical
noncomputable def aZ{b:Type}(p:Prop)(a:aG b):aG b:=if p then a else .none
theorem bB(h:p):aZ p a=a:=aS h
theorem nn{a:Type}{z:a}{C:Prop}(h:(aB:aG a)=O z):C:=nomatch h
theorem i0(h:aZ p a=O x):p∧a=O x:=by
 by_cases b:p
 ·exact⟨b,(aS b).symm.trans h⟩
 ·exact nomatch (aP b).symm.trans h
noncomputable def truth:PV→aG aU
 | .none=>O aI| .bool b=>O b| .int i=>O (i !=0)| .str s=>aZ (s.length≤eF) (O (s.length !=0))| _=> .none
noncomputable def ints? :aD PV→aG (aD Z)
 |[] =>O []| .int i::r=>(ints? r).map (i:: ·)| _=> .none
noncomputable def Ip(a b:Z):i9→aG PV
 | .Add=>O (.int (a+b))| .Sub=>O (.int (a - b))| .Mult=>aZ (PySem.IntMulOk a b) (O (.int (a*b)))| .FloorDiv=>aZ (b≠0∧b.natAbs.log2 < 9000) (O (.int (a.fdiv b)))| .Mod=>aZ (b≠0∧b.natAbs.log2 < 9000) (O (.int (a.fmod b)))| .Pow=>aZ (0≤b∧(gZ a:Z)*b≤2^27) (O (.int (a^b.toNat)))| .LShift=>aZ (0≤b∧(gZ a:Z)+b≤2^27) (O (.int (a*2^b.toNat)))| .RShift=>aZ (0≤b) (O (.int (a.fdiv (2^b.toNat))))| .BitAnd=>O (.int (qI a b))| .BitOr=>O (.int (Gl a b))| .BitXor=>O (.int (AD a b))| _=> .none
noncomputable def dC(o:i9)(x y:PV):aG PV:=match x with
 | .int a=>match y with
  | .int b=>Ip a b o| _=> .none
 | .str a=>match y with
  | .str b=>match o with
   | .Add=>aZ ((a++b).length≤eF) (O (.str (a++b)))| _=> .none
  | .int b=>match o with
   | .Mult=>aZ (a.length=1∧ -10000≤b∧b≤10000) (O (.str ⟨Gm b.toNat (a.cps.getD 0 0)⟩))| _=> .none
  | _=> .none
 | .lst a=>match y with
  | .lst b=>match o with
   | .Add=>aZ (a.length+b.length≤1000) (O (.lst (a++b)))| _=> .none
  | _=> .none
 | _=> .none
noncomputable def BO(o:UnaryOp)(x:PV):aG PV:=match o with
 | .Not=>(truth x).map fun b=> .bool (!b)
 | .USub=>match x with
  | .int a=>O (.int (-a))| _=> .none
 | .Invert=>match x with
  | .int a=>O (.int (aeL a))| _=> .none
 | _=> .none
noncomputable def Iq(a b:Z):l9→aG PV
 | .Eq=>O (.bool (a==b))| .NotEq=>O (.bool (a !=b))| .Lt=>O (.bool (decide (a < b)))| .LtE=>O (.bool (decide (a≤b)))| .Gt=>O (.bool (decide (b < a)))| .GtE=>O (.bool (decide (b≤a)))| _=> .none
noncomputable def Ir(a b:Str):l9→aG PV
 | .Eq=>O (.bool (decide (a=b)))| .NotEq=>O (.bool (decide (a≠b)))| .LtE=>O (.bool (!decide (b.cps.toList < a.cps.toList)))| .NotIn=>O (.bool (!aeM b a))| _=> .none
noncomputable def jd(o:l9)(x y:PV):aG PV:=match x with
 | .int a=>match y with
  | .int b=>Iq a b o
  | .none=>match o with
   | .Is=>O (.bool aI)| _=> .none
  | _=> .none
 | .str a=>match y with
  | .str b=>Ir a b o
  | .gB c=>match o with
   | .In=>O (.bool (c.any fun p=>decide (p.1=a)))| _=> .none
  | _=> .none
 | .bool a=>match y with
  | .bool b=>match o with
   | .IsNot=>O (.bool (a !=b))| _=> .none
  | _=> .none
 | .none=>match y with
  | .none=>match o with
   | .Is=>O (.bool aF)| _=> .none
  | _=> .none
 | _=> .none
noncomputable def uZ:PV→aG (aG Z)
 | .none=>O .none| .int i=>O (O i)| _=> .none
noncomputable def gO(x:Str)(l h:aG Z):Str:=⟨((x.cps.toList.drop (l.elim 0 (jC x.length))).take (h.elim x.length (jC x.length) - l.elim 0 (jC x.length))).toArray⟩
noncomputable def xW(x:aD PV)(l h:aG Z):aD PV:=(x.drop (l.elim 0 (jC x.length))).take (h.elim x.length (jC x.length) - l.elim 0 (jC x.length))
noncomputable def qY(a:aD PV)(k:Z):aG PV:=aZ (a.length≤eF) ((oy k a.length).bind fun j=>a[j]?)
noncomputable def jq(b:aG (aD PV))(o i:PV):aG PV:=match o with
 | .str x=>match i with
  | .int k=>aZ (x.length≤eF) ((oy k x.length).map fun j=> .str ⟨#[x.cps.getD j 0]⟩)| _=> .none
 | .tup a=>match i with
  | .int k=>qY a k| _=> .none
 | .lst a=>match i with
  | .int k=>qY a k| _=> .none
 | .bV=>match i with
  | .int k=>b.bind fun a=>qY a k| _=> .none
 | .gB c=>match i with
  | .str k=>(c.find? fun p=>decide (p.1=k)).map fun p=> .int p.2| _=> .none
 | _=> .none
noncomputable def mX(o l h:PV):aG PV:=match o with
 | .str x=>(uZ l).bind fun a=>(uZ h).bind fun b=>aZ (x.length≤eF) (O (.str (gO x a b)))| .lst c=>(uZ l).bind fun a=>(uZ h).bind fun b=>aZ (c.length≤1000) (O (.lst (xW c a b)))| _=> .none
noncomputable def strs? :aD PV→aG (aD Str)
 |[] =>O []| .str s::r=>(strs? r).map (s:: ·)| _=> .none
noncomputable def pW(i:Z):Str:=aH (toString i)
noncomputable def pX(a b d:Z):aD PV:=(mK (sj a b d).toNat).map fun k=> .int (a+(k:aA)*d)
noncomputable def small(a b d:Z):Prop:=0≤a∧a≤1000000∧0≤b∧b≤1000000∧1≤d∧d≤1000
noncomputable def xX(a:aD PV):aG PV:=aZ (a.length≤eF) (O (.int a.length))
noncomputable def It(a:aG (aD PV))(f:eA)(x:PV):aG PV:=match x with
 | .str x=>if f="len" then aZ (x.length≤eF) (O (.int x.length)) else if f="ord" then aZ (x.length=1) (O (.int (x.cps.getD 0 0:aA))) else .none| .lst b=>if f="len" then xX b else .none| .bV=>if f="len" then a.bind xX else .none| .int i=>if f="chr" then aZ (0≤i∧i≤0x10FFFF) (O (.str ⟨#[i.toNat]⟩)) else if f="str" then aZ (i.natAbs < 10^10) (O (.str (pW i))) else .none| _=> .none
noncomputable def Iu(f:eA)(a b:Z):aG PV:=
 if f="min" then O (.int (if b < a then b else a)) else if f="divmod" then aZ (b≠0∧b.natAbs.log2 < 9000) (O (.tup [.int (a.fdiv b),.int (a.fmod b)])) else .none
noncomputable def oS(c:aG (aD PV))(f:eA)(d:aD PV):aG PV:=match d with
 |[] => .none
 |x::r=>match r with
  |[] =>It c f x
  |y::r=>match r with
   |[] =>match x with
    | .int a=>match y with
     | .int b=>Iu f a b| _=> .none
    | _=> .none
   | _=> .none
noncomputable def xY(f:eA)(x:PV):aG PV:=match x with
 | .str x=>if f="lower" then aZ (x.length≤5592405) (O (.str (cD x))) else if f="upper" then aZ (x.length≤5592405) (O (.str (qJ x))) else .none| .int a=>if f="bit_length" then O (.int (gZ a)) else .none| _=> .none
noncomputable def Iv(f:eA)(x:Str)(y:PV):aG PV:=match y with
 | .lst b=>if f="join" then(strs? b).bind fun a=>aZ ((a.map (·.length)).sum+a.length*x.length≤16777216) (O (.str (mf x a))) else .none
 | .str y=>if f="split" then aZ ((y.length==0)=aI∧(decide (x.length < y.length) ||decide (Gn x < Gn y))=aI∧(Go x y 0 x.length (x.length+1)).isEmpty=aI∧x.length≤100000∧
   (aeN x (Go x y 0 x.length (x.length+1)) y.length).length≤1000) (O (.lst ((Txt.split x y).map .str))) else .none
 | _=> .none
noncomputable def nK(_:aG (aD PV))(f:eA)(x:PV)(a:aD PV):aG PV:=match a with
 |[] =>xY f x
 |y::r=>match r with
  |[] =>match x with
   | .str x=>Iv f x y| _=> .none
  | _=> .none
structure bT where
 gk:Str→aG Z
 call:Str→aD PV→aG PV
noncomputable def kW:aD PV→aU
 |[] =>aF| .bV::_=>aI| _::r=>kW r
section
noncomputable def lC(a:aD PV)(k:PV→aD PV→aG PV):aG PV:=match a with
 |[] =>aB|x::r=>k x r
noncomputable def lN(a:aD PV)(z:aG PV):aG PV:=match a with
 |[] =>z| _=>aB
noncomputable def sI(x:PV)(k:Z→aG PV):aG PV:=match x with
 | .int a=>k a| _=>aB
noncomputable def sS(x:PV)(k:Str→aG PV):aG PV:=match x with
 | .str a=>k a| _=>aB
noncomputable def sB(x:PV)(k:aU→aG PV):aG PV:=match x with
 | .bool a=>k a| _=>aB
@[elab_as_elim] theorem eC{a:aD PV}{z:PV} {k} {C:aD PV→Prop}(h:lC a k=O z)(f:∀x r,k x r=O z→C (x::r)):C a:=by
 cases a with
 |nil=>exact nn h|cons x r=>exact f x r h
@[elab_as_elim] theorem eN{a:aD PV}{z:PV} {y} {C:aD PV→Prop}(h:lN a y=O z)(f:y=O z→C []):C a:=by
 cases a with
 |nil=>exact f h|cons=>exact nn h
@[elab_as_elim] theorem eI{x z:PV} {k} {C:PV→Prop}(h:sI x k=O z)(f:∀a,k a=O z→C (.int a)):C x:=by
 cases x with
 |int a=>exact f a h| _=>exact nn h
@[elab_as_elim] theorem eS{x z:PV} {k} {C:PV→Prop}(h:sS x k=O z)(f:∀a,k a=O z→C (.str a)):C x:=by
 cases x with
 |str a=>exact f a h| _=>exact nn h
@[elab_as_elim] theorem eB{x z:PV} {k} {C:PV→Prop}(h:sB x k=O z)(f:∀a,k a=O z→C (.bool a)):C x:=by
 cases x with
 |bool a=>exact f a h| _=>exact nn h
end
noncomputable def BP(c:aD PV):aG PV:=lC c fun x r=>sI x fun a=>lC r fun y r=>sI y fun b=>r.rec (motive:=fun J=>aG PV) (aZ (small a b 1) (O (.lst (pX a b 1)))) fun z r J=>sI z fun d=>lN r (aZ (small a b d) (O (.lst (pX a b d))))
noncomputable def TS(a:BoolOp)(b:aU):Bool:=match a with
 | .And=> !b| .Or=>b
noncomputable def TU:Es→aU
 | .nil=>aF| _=>aI
mutual
noncomputable def ev(P:bT)(d:Sg):E→aG PV
 | .nm i=>(d.loc[i]?).join| .gk x=>(P.gk x).map .int| .int n=>O (.int n)| .str s=>O (.str s)| .bool b=>O (.bool b)| .none=>O .none| .bin o a b=>(ev P d a).bind fun x=>(ev P d b).bind fun y=>dC o x y| .un o a=>(ev P d a).bind fun x=>BO o x| .cmp o a b=>(ev P d a).bind fun x=>(ev P d b).bind fun y=>jd o x y
 | .oN j k a b c=>(ev P d a).bind fun x=>(ev P d b).bind fun y=>match jd j x y with
  |some (.bool aI)=>O (.bool aI)|some (.bool aF)=>(ev P d c).bind fun z=>jd k y z| _=> .none
 | .bo o g=>oU P d o g
 | .jc t a b=>match(ev P d t).bind (truth) with
  |some aF=>ev P d a|some aI=>ev P d b| .none=> .none
 | .sub a i=>(ev P d a).bind fun x=>(ev P d i).bind fun y=>jq d.mu x y| .dE a l h=>(ev P d a).bind fun x=>(ev P d l).bind fun y=>(ev P d h).bind fun z=>mX x y z| .lst g=>(gC P d g).bind fun e=>aZ (e.length≤1000∧kW e=aF) (O (.lst e))| .tup g=>(gC P d g).bind fun e=>aZ (e.length≤1000∧kW e=aF) (O (.tup e))| .gB m=>O (.gB m)| .call f g=>(gC P d g).bind fun e=>aZ (kW e=aF) (P.call f e)| .bi f g=>(gC P d g).bind fun e=>oS d.mu f e| .lS g=>(gC P d g).bind BP
 | .oO a=>(ev P d a).bind fun x=>match x with
  | .str s=>aZ (s.length≤1000) (O (.lst (s.cps.toList.map fun c=> .str ⟨#[c]⟩)))| _=> .none
 | .dH f a g=>(ev P d a).bind fun x=>(gC P d g).bind fun e=>nK d.mu f x e| .comp _ _ _ _=> .none
termination_by structural e=>e
noncomputable def gC(P:bT)(b:Sg):Es→aG (aD PV)
 | .nil=>O []| .cons a r=>(ev P b a).bind fun x=>(gC P b r).bind fun c=>O (x::c)
termination_by structural e=>e
noncomputable def oU(P:bT)(c:Sg)(o:BoolOp):Es→aG PV
 | .nil=> .none| .cons a r=>(ev P c a).bind fun x=>cond (TU r) (O x) ((truth x).bind fun b=>cond (TS o b) (O x) (oU P c o r))
termination_by structural e=>e
end
end
section
structure Tab where
 P:aW
 pos:bG
 q:Str
inductive mY(K:aW→aG Obj)(v:aJ)(q:Str):Prop
 |mk (c o vs t:_) (h1:v= .ref c) (h2:K c=O o) (h3:o.data= .fields vs) (h4:vs[1]? =O (.str q t)):mY K v q
noncomputable def Tab.Ok(K:aW→aG Obj)(h:bF)(t:Tab):Prop:=∃a,h.get? t.P=O {cls:= .none,data:= .fields a}∧uw a.toList∧(mL t.pos a.toList=aB∨∃b,mL t.pos a.toList=O b∧mY K b t.q)
theorem mY.mono{K:aW→aG Obj} {v q} (x:mY K v q)(h:∀b o,K b=O o→d b=O o):mY d v q:=
 let⟨c,o,e,t,a,b,f,g⟩:=x;⟨c,o,e,t,a,h _ _ b,f,g⟩
theorem Tab.Ok.mono{K c:aW→aG Obj}{h f:bF}{t:Tab}(x:t.Ok K h)(g:∀b o,K b=O o→c b=O o)(i:∀o,h.get? t.P=O o→f.get? t.P=O o):t.Ok c f:=
 dB x fun j a d b=>⟨j,i _ a,d,b.imp id fun⟨k,e,r⟩=>⟨k,e,r.mono g⟩⟩
theorem Tab.Ok.some{K:aW→aG Obj}{h:bF}{t:Tab}(x:t.Ok K h):∃o,h.get? t.P=Q1 o:=aQ x fun J a J=>⟨_,a⟩
structure iT(TV g:eW pC):Prop where
 bare:nr g
 old:∀(k:aA) (x:pC),TV[k]? =O x→g[k]? =O x
theorem iT.refl(h:nr g):iT g g:=⟨h,fun J J e=>e⟩
theorem iT.trans(x:iT a b)(y:iT b c):iT a c:=⟨y.bare,fun k z e=>y.old k z (x.old k z e)⟩
structure Cx where
 mg:Str→aG aJ
 mb:Str→aG aJ
 h₀:bF
 pY:Gp
 fH:PK
 hE:bF
 env:gK
 T:aD Tab
 ir:eW pC
noncomputable abbrev Off(T:aD Tab)(b:aW):Prop:=∀t∈T,t.P≠b
structure Base(mg mb:Str→aG aJ)(h:bF):Prop where
 g:h.Ns fL mg
 b:h.Ns i' mb
 builtins:∀x:Str,x≠"__name__"→mb x=xg x
 nolimit:h.NoLimit
 nodigits:∃mc,h.Ns xh mc∧mc "sys.int_max_str_digits"=aB
 pZ:∃o,h.get? j1=O o
theorem Base.keeps {d mb h f} (x:Base d mb h)(c:∀b o,h.get? b=O o→f.get? b=O o):Base d mb f:=
 ⟨x.g.keeps c,x.b.keeps c,x.builtins,x.nolimit.keeps c,(aQ x.nodigits fun g a b=>⟨g,a.keeps c,b⟩),(xe x.pZ fun o e=>⟨o,c _ _ e⟩)⟩
noncomputable abbrev Mu:=aG (aW×aD aJ×aU)
noncomputable def Mu.ad:Mu→aG aW:=fun a=>a.map (·.1)
noncomputable def PK.le(K a:PK):Prop:=∀b o,K b=O o→a b=O o
theorem PK.le.refl(K:PK):PK.le K K:=fun J J e=>e
theorem PK.le.trans{K:PK}(a:PK.le K c)(b:PK.le c d):PK.le K d:=fun x o e=>b x o (a x o e)
inductive Mu.Is(w:aV)(K:PK):Mu→aG (aD PV)→Prop
 |none:Mu.Is w K .none .none
 |some {a its fl xs}:bL w K its xs→Mu.Is w K (O (a,its,fl)) (O xs)
theorem Mu.Is.mono{K:PK} {a x} (h:Mu.Is w K a x)(c:∀b o,K b=Q1 o→d b=Q1 o):Mu.Is w d a x:=by
 cases h with
 |none=>exact .none|some h=>exact .some (h.mono c)
structure Fm(c:Cx)(K:PK)(m:Str→aG aJ)(mu:Mu)(s:aM):Prop where
 ns:s.heap.Ns c.env.locals m
 keep:∀b o,K b=O o→s.heap.get? b=O o
 dJ:K c.env.locals=aB
 low:∀b o,c.h₀.get? b=O o→c.fH b=O o
 le:PK.le c.fH K
 cU:∀b o,Off c.T b→c.hE.get? b=O o→s.heap.get? b=O o
 new:∀b o,K b=O o→c.fH b=O o∨c.hE.get? b=aB
 cX:c.hE.get? c.env.locals=aB
 mul:∀a its fl,mu=O (a,its,fl)→(s.heap.IsList a (AE its)∧(fl=aF→s.heap.PlainList a (AE its)))∧K a=aB∧a≠c.env.locals∧c.hE.get? a=aB
 gens:iT c.ir s.gens
 os:s.os=c.pY
 base:Base c.mg c.mb c.h₀
 dP:∀t∈c.T,K t.P=aB
 eX:∀t∈c.T,∃o,c.hE.get? t.P=O o
 tabs:∀t∈c.T,t.Ok K s.heap
theorem Fm.off {c K m a s b} (F:Fm c K m a s)(h:c.hE.get? b=aB):Off c.T b:=fun t d e=>by refine xe (F.eX t d) fun o q=> ?_;(replace q:=e▸q;replace q:=h▸q);cases q
theorem Fm.TW {c K m a s b o} (F:Fm c K m a s)(h:K b=O o):Off c.T b:=fun t d e=>by have:=F.dP t d;(replace this:=e▸this;replace this:=h▸this);cases this
theorem fR{h:bF}:h.get? h.objs.size=none:=by
 cases a:h.get? h.objs.size with
 |none=>rfl|some o=>exact absurd (fA a) (ux _)
theorem xZ{h:bF}{b:aW}(a:h.objs.size≤b):h.get? b=none:=by
 cases c:h.get? b with
 |none=>rfl|some o=>exact absurd (fA c) (i8.mpr a)
noncomputable def KB(c:Cx)(a:Mu)(h d:bF):Prop:=∀b o,h.get? b=O o→b≠c.env.locals→a.ad≠O b→Off c.T b→d.get? b=O o
theorem KB.refl {c a h}:KB c a h h:=fun J J e J J J=>e
theorem KB.trans {c d h f g} (a:KB c d h f)(b:KB c d f g):KB c d h g:=fun x o e i j k=>b x o (a x o e i j k) i j k
theorem KB.of_keeps {c f h d} (a:∀b o,h.get? b=O o→d.get? b=O o):KB c f h d:=fun x o e J J J=>a x o e
theorem Fm.grow {c K m f s h' tk} (F:Fm c K m f s)(d:∀b o,s.heap.get? b=O o→h'.get? b=O o):Fm c K m f {s with heap:=h',toks:=tk}:=
 {
  ns:=F.ns.keeps d,keep:=fun b o e=>d b o (F.keep b o e),dJ:=F.dJ,low:=F.low,le:=F.le,cU:=fun b o n e=>d b o (F.cU b o n e),new:=F.new,cX:=F.cX,dP:=F.dP,eX:=F.eX,tabs:=fun t g=>(F.tabs t g).mono (fun J J e=>e) (d _),
  mul:=fun a h i e=>let⟨⟨j,k⟩,l⟩:=F.mul a h i e;⟨⟨(aQ j fun o p r=>⟨o,d _ _ p,r⟩),fun q=>(k q).at fun J=>d _ _⟩,l⟩,gens:=F.gens,os:=F.os,base:=F.base}
theorem Fm.tok {c K m a s tk} (F:Fm c K m a s):Fm c K m a {s with toks:=tk}:=F.grow (fun J J e=>e)
theorem Fm.Iw {c K K' m mu s} (F:Fm c K m mu s)(hK:PK.le K K')(hk:∀b o,K' b=O o→s.heap.get? b=O o)(hn:∀b o,K' b=O o→K b=O o∨(c.hE.get? b=aB∧b≠c.env.locals∧mu.ad≠O b)):Fm c K' m mu s:=
 {
  ns:=F.ns,keep:=hk,dJ:=by
   cases hq:K' c.env.locals with
   |none=>rfl
   |some o=>
    rcases hn _ _ hq with h |h
    ·replace h:=F.dJ▸h;cases h
    ·exact absurd rfl h.2.1
  low:=F.low,le:=F.le.trans hK,cU:=F.cU,new:=fun b o e=>(hn b o e).elim (F.new b o) (fun h=> .inr h.1),cX:=F.cX
  mul:=fun a its fl e=>dX (F.mul a its fl e) fun h1 h2 h3 h4=>⟨h1,(by
   cases hq:K' a with
   |none=>rfl
   |some o=>
    rcases hn _ _ hq with h |h
    ·replace h:=h2▸h;cases h
    ·exact absurd (by refine M e ?_;rfl) h.2.2),h3,h4⟩
  gens:=F.gens,os:=F.os,base:=F.base,eX:=F.eX,tabs:=fun t ht=>(F.tabs t ht).mono hK (fun J e=>e),dP:=fun t ht=>by
   cases hq:K' t.P with
   |none=>rfl
   |some o=>
    rcases hn _ _ hq with h |h
    ·replace h:=(F.dP t ht)▸h;cases h
    ·exact absurd rfl (F.off h.1 t ht)}
noncomputable def PK.put(K:PK)(a:aW)(o:Obj):PK:=fun b=>if b=a then O o else K b
theorem PK.u0{K:PK} {a o} (h:K a=aB):PK.le K (K.put a o):=fun b x e=>by
 unfold PK.put
 split
 ·subst_vars;rw[h] at e;exact nn e
 ·exact e
theorem PK.jr{K:PK} {a o}:K.put a o a=O o:=by simp[PK.put]
theorem Fm.Ix {c K m a s} (F:Fm c K m a s):c.hE.get? s.heap.objs.size=none:=by
 cases b:c.hE.get? s.heap.objs.size with
 |none=>rfl
 |some o=>
  refine absurd (F.cU _ _ (fun t d e=> ?_) b) (by refine M fR ?_;intro z;cases z);refine xe ((F.tabs t d).some) fun f q=> ?_;(replace q:=e▸q;replace q:=fR▸q);cases q
theorem Fm.heap {c K m a s} (F:Fm c K m a s):Base c.mg c.mb s.heap:=F.base.keeps fun b o e=>F.keep _ _ (F.le _ _ (F.low _ _ e))
theorem Fm.Iy {c K m b s a} (F:Fm c K m b s)(h:b.ad=O a):a < s.heap.objs.size:=by
 cases b with
 |none=>cases h|some p=>cases h;obtain⟨⟨⟨o,d,_⟩,_⟩,_⟩:=F.mul p.1 p.2.1 p.2.2 V;exact fA d
theorem Fm.BQ {c K m a s} (F:Fm c K m a s):c.env.locals < s.heap.objs.size:=F.ns.lt
theorem Fm.called {c K m i s d s2} (F:Fm c K m i s)(A:PK.le K d)(B:∀b o,d b=O o→s2.heap.get? b=O o)(l:∀b o,d b=O o→K b=O o∨s.heap.get? b=aB)
  (f:∀b o,Off c.T b→s.heap.get? b=O o→s2.heap.get? b=O o) (C:s2.os=s.os) (D:iT s.gens s2.gens) (E:∀t∈c.T,t.Ok d s2.heap):Fm c d m i s2∧KB c i s.heap s2.heap:=by
 have dJ:Off c.T c.env.locals:=F.off F.cX
 have j:∀b,(∃o,s.heap.get? b=O o)→K b=aB→d b=none:=fun b ⟨o,e⟩ h=>by
  cases k:d b with
  |none=>rfl
  |some p=>
   rcases l _ _ k with z |z
   ·replace z:=h▸z;cases z
   ·replace z:=e▸z;cases z
 refine⟨{ns:= ?_,keep:=B,dJ:= ?_,low:=F.low,le:=F.le.trans A,cU:=fun b o n e=>f b o n (F.cU b o n e),new:=fun b o e=> ?_,cX:=F.cX,mul:=fun a G H e=> ?_,gens:=F.gens.trans D,os:=C.trans F.os,base:=F.base,dP:=fun t g=> ?_,eX:=F.eX,tabs:=E},fun b o e J J n=>f b o n e⟩
 ·exact eQ (F.ns) fun o u v e r=>⟨o,u,v,f _ _ dJ e,r⟩
 ·exact eQ (F.ns) fun o u v e r=>j _ ⟨_,e⟩ F.dJ
 ·rcases l b o e with z |z
  ·exact F.new b o z
  ·refine .inr ?_;cases k:c.hE.get? b with
   |none=>rfl
   |some p=>
    have I:Off c.T b:=fun t g L=>by refine xe ((F.tabs t g).some) fun S q=> ?_;(replace q:=L▸q;replace q:=z▸q);cases q
    replace z:=(F.cU b p I k)▸z;cases z
 ·(refine dX (F.mul a G H e) ?_;rintro⟨⟨o,w,N⟩,P⟩ Q R x);have y:=F.off x;exact⟨⟨⟨o,f _ _ y w,N⟩,fun q=>(P q).at fun J=>f _ _ y⟩,j _ ⟨_,w⟩ Q,R,x⟩
 ·exact j _ (F.tabs t g).some (F.dP t g)
theorem Fm.there {c K m f s b o} (F:Fm c K m f s)(q:c.hE.get? b=O o):∃g,s.heap.get? b=O g:=by
 by_cases d:Off c.T b
 ·exact⟨o,F.cU b o d q⟩
 ·have:∃t∈c.T,t.P=b:=by refine AF fun h=>d fun t a e=>h ⟨t,a,e⟩
  (refine aQ (this) ?_;try clear this;rintro t a rfl);exact(F.tabs t a).some
theorem Fm.TX {c K m a s t} (F:Fm c K m a s)(b:t∈c.T):t.P≠c.env.locals∧a.ad≠O t.P:=by
 refine⟨F.off F.cX t b,fun z=> ?_⟩;cases a with
 |none=>cases z
 |some p=>
  have z:p.1=t.P:=by injection z
  exact F.off (F.mul p.1 p.2.1 p.2.2 V).2.2.2 t b z.symm
theorem kz{h:bF}{o:Obj}:∀b x,h.get? b=O x→(h.push o).get? b=O x:=fun J J e=>eV _ e
theorem Fm.push {c K m a s o tk} (F:Fm c K m a s):Fm c K m a {s with heap:=s.heap.push o,toks:=tk}:=
 F.grow kz
theorem PK.p'{K:PK}(e:K.put a o b=O x):(b=a∧o=x)∨K b=O x:=by
 unfold PK.put at e
 by_cases h:b=a
 ·rw[aS h] at e;exact .inl ⟨h,cB e⟩
 ·rw[aP h] at e;exact .inr e
theorem Fm.known{K:PK}(F:Fm c K m d s)(f:K ci=aB)(h:ci≠c.env.locals)(i:d.ad≠O ci)(j:c.hE.get? ci=aB)(k:s.heap.get? ci=O oc):PK.le K (K.put ci oc)∧Fm c (K.put ci oc) m d s:=by
 refine⟨PK.u0 f,F.Iw (PK.u0 f) (fun b x e=> ?_) (fun b x e=> ?_)⟩
 ·rcases PK.p' e with⟨a,g⟩ |e
  ·refine M a (aT g ?_);exact k
  ·exact F.keep _ _ e
 ·rcases PK.p' e with⟨a,g⟩ |e
  ·refine M a ?_;exact .inr ⟨j,h,i⟩
  ·exact .inl e
theorem Fm.fresh {c K m a s} (F:Fm c K m a s):K s.heap.objs.size=aB∧s.heap.objs.size≠c.env.locals∧a.ad≠O s.heap.objs.size∧c.hE.get? s.heap.objs.size=none:=by
 refine⟨?_,eG F.BQ,fun h=>ux _ (F.Iy h),F.Ix⟩;cases b:K s.heap.objs.size with
 |none=>rfl|some x=>have:=F.keep _ _ b;rw[fR] at this;exact nn this
theorem Fm.absent {c K m d s b} (F:Fm c K m d s)(q:s.heap.get? b=aB):c.hE.get? b=aB∧b≠c.env.locals∧d.ad≠O b:=by
 refine⟨?_,fun y=> ?_,fun y=> ?_⟩
 ·cases y:c.hE.get? b with
  |none=>rfl|some e=>obtain⟨f,a⟩:=F.there y;rw[q] at a;exact nn a
 ·refine eQ (F.ns) fun e J J a J=> ?_;rw[←y,q] at a;exact nn a
 ·cases d with
  |none=>exact nn y
  |some p=>
   obtain⟨⟨⟨e,a,_⟩,_⟩,_⟩:=F.mul p.1 p.2.1 p.2.2 V;rw[show p.1=b from cB y,q] at a;exact nn a
theorem Fm.alloc {c K m a s o tk} (F:Fm c K m a s)(b:o.isFreed=aI):
  PK.le K (K.put s.heap.objs.size o)∧Fm c (K.put s.heap.objs.size o) m a {s with heap:=s.heap.push o,toks:=tk}:=
 have Fr:=F.fresh
 (F.push (o:=o) (tk:=tk)).known Fr.1 Fr.2.1 Fr.2.2.1 Fr.2.2.2 (fP _ b)
end
section
section
variable{K:PK}
inductive oV(w:aV)(c:Cx)(K:PK)(m:Str→aG aJ)(mu:Mu)(h:bF)(x:PV)(v:aJ)(s':aM):Prop
 |mk (K':PK) (k:PK.le K K') (F:Fm c K' m mu s') (b:KB c mu h s'.heap) (r:RV w K' mu.ad v x):oV w c K m mu h x v s'
noncomputable def dF(w:aV)(A:bX)(c:Cx)(K:PK)(m:Str→aG aJ)(a:Mu)(t:cR aJ)(x:PV)(s:aM):Prop:=
 aN (aO pg w) A t (oV w c K m a s.heap x) (fun J J=>bO) s
theorem dF.then{E:aJ→aM→Prop}(h:dF w A c K m i t x s)
  (k:∀f v g,PK.le K f→Fm c f m i g→KB c i s.heap g.heap→RV w f i.ad v x→Q v g):aN (aO pg w) A t Q E s:=
 wpAny_mono h (fun v g ⟨f,a,b,d,e⟩=>k f v g a b d e) fun J J x=>x.elim
theorem eE(F:Fm c K m a s)(h:RV w K a.ad v x):
  oV w c K m a s.heap x v {s with toks:=tk}:=⟨K,.refl K,F.tok,.refl,h⟩
theorem fS(F:Fm c K m a s)(h:RV w K a.ad v x):
  oV w c K m a s.heap x v s:=⟨K,.refl K,F,.refl,h⟩
theorem u3(F:Fm c K m d s)(a:o.isFreed=aI)(h:∀b,PK.le K b→b s.heap.objs.size=O o→RV w b d.ad v x):
  oV w c K m d s.heap x v {s with heap:=s.heap.push o,toks:=tk}:=
 ⟨_,(F.alloc a (tk:=tk)).1,(F.alloc a).2,.of_keeps kz,h _ (F.alloc a (tk:=tk)).1 PK.jr⟩
theorem fT{a b:Str}(h:a.cps.toList=b.cps.toList):a=b:=by cases a;cases b;simp only[Str.mk.injEq];exact Gq.mp h
theorem BR:∀(n:aA) (x a:eW aA),(dU n x).foldl (· ++ ·) a=a++(dU n x.toList).flatten.toArray
 |0,x,a=>rfl|n+1,x,a=>by refine M xi (M AH (M (BR n ..) (M xi (M Q2 ?_))));apply Gq.mp;simp
theorem bL.append{K:PK} {c d e f} (h:bL w K c d)(g:bL w K e f):bL w K (c++e) (d++f):=bL.ind (C:=fun c d=>bL w K (c++e) (d++f)) g (fun J J J J a J b=> .cons a b) h
noncomputable def fN(w:aV)(A:bX)(c:Cx)(K:PK)(m:Str→aG aJ)(a:Mu)(t:cR aJ)(r:aG PV)(s:aM):Prop:=∀z,r=O z→dF w A c K m a t z s
section
theorem fN.some(h:dF w A c K m a t z s):fN w A c K m a t (O z) s:=fun J e=>cB e▸h
theorem fN.none:fN w A c K m a t aB s:=fun J e=>nn e
theorem fN.aZ(h:p→fN w A c K m a t r s):fN w A c K m a t (aZ p r) s:=fun z e=>have e:=i0 e;h e.1 z e.2
theorem fN.bind{w:aV}{A:bX}{c:Cx}{m:Str→aG aJ}{b:Mu}{s:aM}{t:cR aJ}{d:Type}{a:aG d}{f:d→aG PV}(h:∀x,a= .some x→fN w A c K m b t (f x) s):fN w A c K m b t (a.bind f) s:=fun z e=>by exact aQ (Q3.mp e) fun x g i=>h x g z i
theorem fN.ite [qE p] (b:p→fN w A c K m a t r s)(d:¬p→fN w A c K m a t e s):fN w A c K m a t (if p then r else e) s:=by
 by_cases h:p
 ·refine M (aS h) ?_;exact b h
 ·refine M (aP h) ?_;exact d h
end
section
theorem TY(F:Fm c K m d s)(o:i9):fN w A c K m d (sk o (.int a t) (.int b u)) (Ip a b o) s:=by
 cases o with
 |Add=>exact .some (add_int (eE F .int))|Sub=>exact .some (sub_int (eE F .int))|Mult=>exact .aZ fun p=> .some (PySem.P.mul_int (eE F .int) p)|FloorDiv=>exact .aZ fun p=> .some (floordiv_int p.1 (eE F .int) (.inl (Q4 p.2)))|Mod=>exact .aZ fun p=> .some (mod_int' p.1 (eE F .int))|Pow=>exact .aZ fun p=> .some (pow_int p.1 p.2 (eE F .int))|LShift=>exact .aZ fun p=> .some (lshift_int p.1 p.2 (eE F .int))|RShift=>exact .aZ fun p=> .some (rshift_int p (eE F .int))|BitAnd=>exact .some (and_int (eE F .int))|BitOr=>exact .some (or_int (eE F .int))|BitXor=>exact .some (xor_int (eE F .int))| _=>exact .none
end
theorem Iz{a:Str}(h:a.length=0):a.cps.toList=[] :=qC h
theorem IA{a b:Str}(h:a.length=0):a++b=b:=fT (by refine(M lO (M (Iz h) ?_):(a.cps++b.cps).toList=_);rfl)
theorem IB{a b:Str}(h:b.length=0):a++b=a:=fT (M lO (M (Iz h) (M (jT ..) V)):(a.cps++b.cps).toList=_)
theorem TZ{w:aV}{A:bX}{c:Cx}{m:Str→aG aJ}{d:Mu}{s:aM}{a b:Str}{t u:hA}(F:Fm c K m d s)(p:(a++b).length≤eF):dF w A c K m d (sk .Add (.str a t) (.str b u)) (.str (a++b)) s:=by
 refine PySem.P.add_str ?_
 split
 ·rename_i e;refine M (IA (beq_iff_eq.mp e)) ?_;exact fS F .str
 ·split
  ·rename_i e;refine M (IB (beq_iff_eq.mp e)) ?_;exact fS F .str
  ·exact⟨p,eE F .str⟩
theorem T0(h:n≤10000):ahw n=false:=eP (i8.mpr (aL h (by refine M cN ?_;decide)))
theorem T1{w:aV}{A:bX}{c:Cx}{m:Str→aG aJ}{h:Mu}{s:aM}{a:Str}{b:Z}{t u:hA}(F:Fm c K m h s)(p:a.length=1∧ -10000≤b∧b≤10000):dF w A c K m h (sk .Mult (.str a t) (.int b u)) (.str ⟨Gm b.toNat (a.cps.getD 0 0)⟩) s:=by
 (refine iH (p) ?_;try clear p;rintro j n f);obtain⟨⟨l⟩⟩:=a;(refine xe (aeO.mp j) ?_;rintro k rfl);have d:b.toNat≤10000:=Gr.mpr f;refine PySem.P.mul_str ?_ ?_ ?_ ?_
 ·refine iR xj ?_;exact⟨eP (by clear d;exact ja.mpr (cL (by decide) n)),eP (by clear d;exact pD.mpr (iD f (by decide)))⟩
 ·intro i o g;have g:(2^63 - 1) / b < (1:Z):=g;have:=(aeP (by clear d;exact dD (by decide) (ja.mp i):0 < b)).mpr (by clear d;exact cL (oz (gL _)) (cL f (by decide)):1*b≤2^63 - 1);exact absurd g (ja.mpr this)
 ·intro i o;exact T0 (by refine(M (aeQ ..) ?_:1*b.toNat≤10000);exact d)
 ·split
  ·have:b.toNat=0:=by clear d;lia
   exact M this <|⟨by decide,eE F .str⟩
  ·split
   ·rename_i e
    obtain rfl:b=1:=by simpa [sm] using e
    exact fS F .str
   ·refine⟨by simp[sm,BR,cN];exact cL f (by decide),?_⟩;have:(⟨(dU b.toNat #[k]).foldl (· ++ ·) #[]⟩:Str)=⟨Gm b.toNat ((#[k] :eW aA).getD 0 0)⟩:=fT (by simp[BR]);exact M this <|eE F .str
theorem T2(F:Fm c K m d s)(n:RV w K d.ad v (.lst a))(o:RV w K d.ad u (.lst b))(p:a.length+b.length≤1000):dF w A c K m d (sk .Add v u) (.lst (a++b)) s:=by
 (refine ip (n.lst_inv) ?_;rintro q r t x rfl y z B f);(refine ip (o.lst_inv) ?_;rintro C D E G rfl H I L g);obtain⟨N,P,Q,R⟩:=r;obtain⟨S,T,data2,U⟩:=D;obtain rfl:N=_:=z;obtain rfl:Q=_:=B;obtain rfl:S=_:=I;obtain rfl:data2=_:=L;have h:=F.keep _ _ y;have i:=F.keep _ _ H;refine concat_meets ⟨_,h,rfl⟩ ⟨_,i,rfl⟩ aeR seq_list_add aeS aeT (aeU _ _) (list_addW q C t E x G P T R U ?_) ⟨h,i,?_⟩
 ·have j:=f.length;have k:=g.length;rw[iO] at j k;refine M j (M k ?_);exact aL p (by refine M cN ?_;decide)
 ·exact u3 (tk:=s.toks) F V (fun W l e=> .lst e V rfl (by refine M lO ?_;exact(f.mono l).append (g.mono l)))
theorem T3(F:Fm c K m e s)(f:RV w K e.ad v x)(d:RV w K e.ad u y):fN w A c K m e (sk o v u) (dC o x y) s:=by
 cases x with
 |int a=>
  (refine xe f.int_inv ?_;rintro t rfl);cases y with
  |int b=>(refine xe d.int_inv ?_;rintro g rfl);exact TY F o| _=>exact .none
 |str a=>
  (refine xe f.str_inv ?_;rintro t rfl);cases y with
  |str b=>
   (refine xe d.str_inv ?_;rintro g rfl);cases o with
   |Add=>exact .aZ fun p=> .some (TZ F p)| _=>exact .none
  |int b=>
   (refine xe d.int_inv ?_;rintro g rfl);cases o with
   |Mult=>exact .aZ fun p=> .some (T1 F p)| _=>exact .none
  | _=>exact .none
 |lst a=>
  cases y with
  |lst b=>
   cases o with
   |Add=>exact .aZ fun p=> .some (T2 F f d p)| _=>exact .none
  | _=>exact .none
 | _=>exact .none
theorem sO(h:dC o x y=O z)(F:Fm c K m a s)(b:RV w K a.ad v x)(d:RV w K a.ad u y)(_:A.handled=aB):
  dF w A c K m a (sk o v u) z s:=T3 F b d z h
end
end
section
section
variable{K:PK}
theorem qZ{w:aV}{A:bX}{mu:Mu}{s:aM}{x:PV}{b:aU}{v:aJ}{Q:aU→aM→Prop}{E:aJ→aM→Prop}(h:truth x=O b)(a:RV w K mu.ad v x)(d:∀tk,Q b {s with toks:=tk}):
  aN (aO pg w) A (PySem.truthy v) Q E s:=by
 cases x with
 |none=>refine M a.none_inv ?_;obtain rfl:=cB h;exact truthy_none (d s.toks)
 |bool c=>refine M a.bool_inv ?_;obtain rfl:=cB h;exact wpAny_truthy_bool (d s.toks)
 |int i=>(refine xe a.int_inv ?_;rintro t rfl);obtain rfl:=cB h;exact truthy_int (d s.toks)
 |str y=>
  (refine xe a.str_inv ?_;rintro t rfl);refine xa (i0 h) fun p h=> ?_;obtain rfl:=cB h;rw[cN] at p;refine PySem.P.truthy_str (pD.mpr (iD (cT.mpr p) (by decide))) ?_
  have e:((y.length:Z) !=0)=(y.length !=0):=by refine iR Q5 (iR Gs (iR Gs ?_));exact not_congr Int.natCast_eq_zero
  exact M e <|d _
 | _=>exact nn h
theorem T4(h:BO o x=O z)(F:Fm c K m a s)(d:RV w K a.ad v x):
  dF w A c K m a (unaryOp o v) z s:=by
 have e:fN w A c K m a (unaryOp o v) (BO o x) s:=by
  cases o with
  |USub=>cases x with
   |int=>(refine xe d.int_inv ?_;rintro t rfl);exact .some (PySem.P.neg_int (eE F .int))| _=>exact .none
  |Invert=>cases x with
   |int=>(refine xe d.int_inv ?_;rintro t rfl);exact .some (invert_int (eE F .int))| _=>exact .none
  |Not=>
   intro z h;(refine aQ (me.mp h) ?_;rintro b f rfl);exact not_of (qZ f d fun tk=>eE F .bool)
  | _=>exact .none
 exact e z h
theorem IC{a b:Str}:(a.cps.toList==b.cps.toList)=decide (a=b):=by
 by_cases c:a=b
 ·subst c;simp
 ·exact M (eP c) <|beq_eq_false_iff_ne.mpr fun d=>c (fT d)
theorem T5{b:aD (Str×aJ)}{a:aD (Str×Z)}(h:b.map (·.1)=a.map (·.1))(k:Str):(pE b k).isSome=a.any fun p=>decide (p.1=k):=by
 induction b generalizing a with
 |nil=>cases a with
  |nil=>rfl|cons _ _=>cases h
 |cons p r ih=>cases a with
  |nil=>cases h
  |cons q t=>
   simp only[gJ,Gu] at h;refine M aeV <|aT (ih h.2) (aT h.1 ?_)
   unfold pE
   by_cases c:p.1=k<;>simp[Q6,c]
theorem T6(F:Fm c K m d s)(o:l9):fN w A c K m d (Gv o (.int a t) (.int b u)) (Iq a b o) s:=by
 cases o with
 |Eq=>exact .some (PySem.P.eq_int (fS F .bool))|NotEq=>exact .some (PySem.P.ne_int (fS F .bool))|Lt=>exact .some (PySem.P.lt_int (fS F .bool))|LtE=>exact .some (PySem.P.le_int (fS F .bool))|Gt=>exact .some (PySem.P.gt_int (fS F .bool))|GtE=>exact .some (PySem.P.ge_int (fS F .bool))| _=>exact .none
theorem T7{w:aV}{A:bX}{c:Cx}{m:Str→aG aJ}{d:Mu}{s:aM}{a b:Str}{t u:hA}(F:Fm c K m d s)(o:l9):fN w A c K m d (Gv o (.str a t) (.str b u)) (Ir a b o) s:=by
 cases o with
 |Eq=>exact .some (PySem.P.eq_str (by refine M IC ?_;exact fS F .bool))
 |NotEq=>
  refine .some (PySem.P.ne_str ?_);have:(a.cps.toList !=b.cps.toList)=decide (a≠b):=by(rewrite[bne];exact M IC (M decide_not V))
  refine M this ?_;exact fS F .bool
 |LtE=>exact .some (PySem.P.le_str (fS F .bool))|NotIn=>exact .some (PySem.P.notIn_str (fS F .bool))| _=>exact .none
theorem T8(F:Fm c K m mu s)(hx:RV w K mu.ad v x)(hy:RV w K mu.ad u y):fN w A c K m mu (Gv o v u) (jd o x y) s:=by
 cases x with
 |int a=>
  (refine xe hx.int_inv ?_;rintro t rfl);cases y with
  |int b=>(refine xe hy.int_inv ?_;rintro t' rfl);exact T6 F o
  |none=>
   cases o with
   |Is=>refine M hy.none_inv ?_;exact .some (ahx (by intro z;cases z) (fS F .bool))| _=>exact .none
  | _=>exact .none
 |str k=>
  (refine xe hx.str_inv ?_;rintro t rfl);cases y with
  |str b=>(refine xe hy.str_inv ?_;rintro t' rfl);exact T7 F o
  |gB fQ=>
   cases o with
   |In=>
    (refine oM (hy.BL) ?_;rintro a o kv rfl h1 h2 h3 h4 h5);refine .some (wpAny_in_of (knd:=Gw pg w) (k:=k) (by show xk k (.str k t)=aF;simp[xk]) h2 (h3 _ (F.keep _ _ h1)).mapOf ?_);exact M (T5 h4 ..) <|eE F .bool
   | _=>exact .none
  | _=>exact .none
 |bool a=>
  cases y with
  |bool b=>
   cases o with
   |IsNot=>
    refine M hx.bool_inv (M hy.bool_inv ?_);refine .some (wpAny_isNot_plain V ?_);have:(!(aeW a==aeW b))=(a !=b):=by cases a<;>cases b<;>rfl
    refine M this ?_;exact fS F .bool
   | _=>exact .none
  | _=>exact .none
 |none=>
  cases y with
  |none=>
   cases o with
   |Is=>refine M hx.none_inv (M hy.none_inv ?_);exact .some (ahy (fS F .bool))| _=>exact .none
  | _=>exact .none
 | _=>exact .none
theorem qa(h:jd o x y=O z)(F:Fm c K m a s)(b:RV w K a.ad v x)(d:RV w K a.ad u y):
  dF w A c K m a (Gv o v u) z s:=T8 F b d z h
theorem bL.get{K:PK} {b c} (r:bL w K b c):∀{j:aA} {x:PV},c[j]? =O x→∃v,b[j]? =O v∧RV w K .none v x:=
 bL.ind (C:=fun b c=>∀{j:aA} {x:PV},c[j]? =O x→∃v,b[j]? =O v∧RV w K .none v x) (fun h=>nn h) (fun v b x c a _ ih {j} y h=>by
  cases j with
  |zero=>obtain rfl:x=y:=cB h;exact⟨v,rfl,a⟩
  |succ j=>exact ih h) r
theorem RV.up{K:PK} {v x} (c:aG aW)(h:RV w K .none v x):RV w K c v x:=by
 by_cases b:x= .bV
 ·subst b;refine aQ (h.pT) fun a e J=> ?_;exact nn e
 ·exact h.any b
theorem BS{n:aA}(h:oy k n=O j)(b:n≤eF): -(2^63)≤k∧k < 2^63∧(0≤k→j=k.toNat)∧(k < 0→j=(k+n).toNat∧ -(n:Z)≤k)∧j < n:=by
 rw[cN] at b;obtain⟨i,d,a⟩:∃i,(if k < 0 then k+n else k)=i∧(if 0≤i && i < n then O i.toNat else aB)=O j:=⟨_,rfl,h⟩
 by_cases c:(decide (0≤i) && decide (i < (n:Z)))=aF
 ·rw[aS c] at a;have a:=cB a;simp only[hG,lL] at c
  split at d<;>subst d a
  ·exact⟨by omega,by omega,fun J=>by omega,fun J=>⟨rfl,by omega⟩,by exact(lP c.1).mpr c.2⟩
  ·exact⟨by exact cL (by decide) c.1,by exact dD c.2 (cL (cT.mpr b) (by decide)),fun J=>rfl,fun J=>by omega,by exact(lP c.1).mpr c.2⟩
 ·rw[aP c] at a;exact nn a
theorem list_item(f:s.heap.IsList a g)(h:bL w K g.toList d)(p:d.length≤eF)
  (o:oy k d.length=O j) (q:d[j]? =O z) (F:Fm c K m r s):dF w A c K m r (oA (.ref a) (.int k t)) z s:=by
 refine jo (BS o p) fun u x y i B=>aQ (h.get q) fun v e l=> ?_;have n:g.size=d.length:=by refine aT h.length ?_;exact rfl
 rw[pB] at e
 by_cases b:0≤k
 ·refine wpAny_getItem_list f b x (x:=v) (by refine aT (y b) ?_;exact e) (fS F (l.up _))
 ·refine wpAny_getItem_list_neg f (pD.mp b) (by refine M n ?_;exact(i (pD.mp b)).2) u (x:=v) (by refine M n (aT ((i (pD.mp b)).1) ?_);exact e) (fS F (l.up _))
theorem ID(b:s.heap.IsList a d)(e:bL w K d.toList f)(F:Fm c K m g s):fN w A c K m g (oA (.ref a) (.int k t)) (qY f k) s:=
 .aZ fun p=> .bind fun j h z i=>list_item b e p h i F
theorem T9(F:Fm c K m b s)(p:x.length≤eF)(a:oy k x.length=O j):dF w A c K m b (oA (.str x t) (.int k d)) (.str ⟨#[x.cps.getD j 0]⟩) s:=by
 refine jo (BS a p) fun e f i l g=> ?_
 have h:(oy k x.length).bind (x.cps[·]?)=O (x.cps.getD j 0):=by refine M a ?_;show x.cps[j]? =_;refine M Q7 (M (Ay g) ?_);rfl
 exact getItem_gives (pF s x t) (by decide) Q8 PySem.F.entry_str_getitem (PySem.F.args_str_getitem_2 _ _) (gives_str_getitem x k t d _ (by refine iR xj ?_;exact⟨eP (ja.mpr e),eP (pD.mpr f)⟩) h) ⟨(by show 1≤eF;decide),eE F .str⟩
theorem Ua:∀{a:aD (Str×Z)},c.map (·.1)=a.map (·.1)→bL w K (c.map (·.2)) (a.map fun p=> .int p.2)→∀{z},(a.find? fun p=>decide (p.1=k)).map (fun p=>PV.int p.2)=O z→∃v,pE c k=O v∧RV w K .none v z:=by
 induction c with
 |nil=>intro a e _ z b;cases a with
  |nil=>exact nn b|cons _ _=>exact(by contradiction)
 |cons p r ih=>intro a e g z b;cases a with
  |nil=>exact(by contradiction)
  |cons q t=>
   refine cS (g.mr) fun v m h i j=> ?_;(refine xa (xl h) ?_;rintro rfl rfl);refine xa (xl e) fun d l=> ?_;rw[Q6] at b;unfold pE;refine M Q6 ?_;have d:p.1=q.1:=d;refine M d ?_;cases f:decide (q.1=k) with
   |true=>rw[f] at b;obtain rfl:=cB b;exact⟨_,rfl,i⟩
   |false=>rw[f] at b;exact ih l j b
theorem Ub(F:Fm c K m mu s)(hm:Mu.Is w K mu x)(ho:RV w K mu.ad v o)(hi:RV w K mu.ad u i):fN w A c K m mu (oA v u) (jq x o i) s:=by
 cases o with
 |str y=>
  cases i with
  |int k=>
   obtain⟨t,rfl⟩:=ho.str_inv;obtain⟨t',rfl⟩:=hi.int_inv;refine .aZ fun p z h=> ?_;(refine aQ (me.mp h) ?_;rintro j hj rfl);exact T9 F p hj
  | _=>exact .none
 |tup xs=>
  cases i with
  |int k=>
   (refine ip (ho.sJ) ?_;rintro a ob its n rfl h1 h2 h3 h4);obtain⟨t',rfl⟩:=hi.int_inv;refine .aZ fun p=> .bind fun j hj z h=>jo (BS hj p) fun f1 f2 f3 f4 f5=>aQ (h4.get h) fun v hv q0=> ?_;rw[pB] at hv;exact getItem_tuple ⟨ob,F.keep _ _ h1,h2,n,h3⟩ f1 f2 (by refine aT iO (M h4.length ?_);exact hj) hv (fS F (q0.up _))
  | _=>exact .none
 |lst xs=>
  cases i with
  |int k=>
   (refine ip (ho.lst_inv) ?_;rintro a ob its n rfl h1 h2 h3 h4);obtain⟨t',rfl⟩:=hi.int_inv;exact ID ⟨ob,F.keep _ _ h1,h2,n,h3⟩ h4 F
  | _=>exact .none
 |bV=>
  cases i with
  |int k=>
   (refine aQ (ho.pT) ?_;rintro a ha rfl);obtain⟨t',rfl⟩:=hi.int_inv;cases hm with
   |none=>exact .none
   |some hr=>
    obtain rfl:=cB ha;exact ID (F.mul _ _ _ V).1.1 hr F
  | _=>exact .none
 |gB fQ=>
  cases i with
  |str k=>
   (refine oM (ho.BL) ?_;rintro a o kv rfl h1 h2 h3 h4 h5);obtain⟨t',rfl⟩:=hi.str_inv;intro z h;exact aQ (Ua h4 h5 h) fun v hv q0=>aeX (knd:=Gw pg w) (k:=k) (by show xk k (.str k t')=aF;simp[xk]) (h3 _ (F.keep _ _ h1)).mapOf hv (eE F (q0.up _))
  | _=>exact .none
 | _=>exact .none
theorem IE(h:jq x o i=O z)(F:Fm c K m a s)(b:Mu.Is w K a x)(d:RV w K a.ad v o)(e:RV w K a.ad u i):
  dF w A c K m a (oA v u) z s:=Ub F b d e z h
end
end
section
section
variable{K:PK}
theorem x6{w:aV}{b:Mu}{x:PV}{l:aG Z}{v:aJ}(h:uZ x=O l)(a:RV w K b.ad v x):∃p:aG (Z×hA),v=partValue p∧p.map (·.1)=l∧IsPart v l:=by
 cases x with
 |none=>refine M a.none_inv ?_;obtain rfl:=cB h;exact⟨aB,rfl,rfl,.none⟩
 |int=>(refine xe a.int_inv ?_;rintro t rfl);obtain rfl:=cB h;exact⟨O (_,t),rfl,rfl,.int _ t⟩
 | _=>exact nn h
theorem IF(l u:aG Z)(n:aA):Gx l u 1 n=(mK (u.elim n (jC n) - l.elim 0 (jC n))).map ((l.elim 0 (jC n))+ ·):=by refine aT (sliceRange_one ..) ?_;unfold Gx;cases l<;>cases u<;>simp[clipAt_cast]
theorem Uc(n:aA)(i:Z):jC n i≤n:=Gr.mpr (Int.max_le.mpr ⟨cW n,Int.min_le_right _ _⟩)
theorem Ud(x:Str)(l u:aG Z):(⟨((Gx l u 1 x.length).filterMap (x.cps[·]?)).toArray⟩:Str)=gO x l u:=by refine M (IF ..) (M (pick_run ..) ?_);rfl
theorem Ue{c:Type}{l:aD c}{a b:aA}(h:b - a=l.length)(d:b≤l.length):(l.drop a).take (b - a)=l:=by
 have e:l.drop a=l:=by
  cases a with
  |zero=>rfl
  |succ a=>
   cases l with
   |nil=>rfl|cons x r=>exact absurd (aL (cI h.symm) (aL (qK d _) (by refine M (Nat.add_sub_add_right ..) ?_;exact lK _ _:(r.length+1) - (a+1)≤r.length))) (Q9 _)
 exact M e (M h (M Ax V))
theorem Uf{x:Str}{l u:aG Z}(h:(Gx l u 1 x.length).length=x.length):gO x l u=x:=by
 rw[IF,bQ,Aw] at h
 have a:u.elim x.length (jC x.length)≤x.length:=by
  cases u with
  |none=>exact cA _|some i=>exact Uc _ _
 exact fT (Ue (h.trans iO.symm) (aL a (cI iO.symm)))
theorem Ug(x:Str)(l u:aG Z):(gO x l u).length≤x.length:=by refine(M kP (M ow (M iP (M iO ?_))):(AE (Gy (u.elim x.length (jC x.length) - l.elim 0 (jC x.length)) (Ra (l.elim 0 (jC x.length)) x.cps.toList))).size≤x.cps.size);exact aL (Gf _ _) (lK _ _)
theorem bL.drop{K:PK} {c d} (n:aA)(h:bL w K c d):bL w K (c.drop n) (d.drop n):=
 bL.ind (C:=fun c d=>∀n,bL w K (c.drop n) (d.drop n)) (fun n=>by refine M aeY (M aeY ?_);exact .nil) (fun J J J J a b ih n=>by cases n with
  |zero=>exact .cons a b|succ n=>exact ih n) h n
theorem bL.take{K:PK} {c d} (n:aA)(h:bL w K c d):bL w K (c.take n) (d.take n):=
 bL.ind (C:=fun c d=>∀n,bL w K (c.take n) (d.take n)) (fun n=>by refine M AI (M AI ?_);exact .nil) (fun J J J J a b ih n=>by cases n with
  |zero=>exact .nil|succ n=>exact .cons a (ih n)) h n
theorem Uh(F:Fm c K m mu s)(ho:RV w K mu.ad v o)(hl:RV w K mu.ad vl l)(hu:RV w K mu.ad vu u)
  (hs:s.heap.get? sl=O {cls:= .type "slice",data:= .fields #[vl,vu,.none]}):fN w A c K m mu (oA v (.ref sl)) (mX o l u) s:=by
 cases o with
 |str x=>
  (refine xe ho.str_inv ?_;rintro t rfl);refine .bind fun a e1=> .bind fun b e2=> .aZ fun p=> .some ?_;(refine dB (x6 e1 hl) ?_;rintro p1 rfl q1 _);(refine dB (x6 e2 hu) ?_;rintro p2 rfl q2 _);refine wpAny_getItem_str_slice (l:=p1) (u:=p2) (st:=aB) ⟨_,hs,rfl,rfl⟩ V ?_;unfold sliceMade slicePicked;simp only[Option.map_none,Option.getD_none,beq_self_eq_true,Rb,q1,q2]
  split
  ·rename_i e
   exact M (Uf (by simpa using e)) <|fS F .str
  ·exact M (Ud ..) <|⟨aL (Ug _ _ _) p,eE F .str⟩
 |lst xs=>
  (refine ip (ho.lst_inv) ?_;rintro ad ob its n rfl h1 h2 h3 h4);refine .bind fun a e1=> .bind fun b e2=> .aZ fun p=> .some <|dB (x6 e1 hl) fun J J J q1=> ?_
  refine dB (x6 e2 hu) fun J J J q2=> ?_;have hsz:its.size=xs.length:=aT h4.length (M iO V);refine wpAny_getItem_list_slice ⟨ob,F.keep _ _ h1,h2,n,h3⟩ ⟨_,hs,rfl,rfl⟩ q1 q2 .none (by decide) ?_ (by refine M cN ?_;exact aL (cI hsz) (aL p (by decide)));refine u3 (tk:=s.toks) F V fun K' hK e=> .lst e V rfl <|M (slicePick_plain ..) ?_
  unfold xW;exact aT hsz <|((h4.mono hK).drop _).take _
 | _=>exact .none
theorem Ui(h:mX o l u=O z)(F:Fm c K m a s)(b:RV w K a.ad v o)(d:RV w K a.ad e l)(f:RV w K a.ad g u)
  (i:s.heap.get? j=O {cls:= .type "slice",data:= .fields #[e,g,.none]}):dF w A c K m a (oA v (.ref j)) z s:=Uh F b d f i z h
end
end
section
inductive hJ(w:aV)(K:PK)(ma:aG aW):aD aJ→aD PV→Prop
 |nil:hJ w K ma [] []
 |cons {v vs x xs}:RV w K ma v x→hJ w K ma vs xs→hJ w K ma (v::vs) (x::xs)
theorem Uj(h:kW (x::xs)=aF):x≠ .bV∧kW xs=true:=by
 cases x with
 |bV=>exact absurd h cM| _=>exact⟨(fun e=>(by contradiction)),h⟩
theorem hJ.plain{K:PK} {e} {d c} (r:hJ w K e d c)(h:kW c=aF):bL w K d c:=by
 induction r with
 |nil=>exact .nil|cons a _ b=>have h:=Uj h;exact .cons (a.any h.1) (b h.2)
theorem hJ.length{K:PK} {d} {a c} (r:hJ w K d a c):a.length=c.length:=by
 induction r with
 |nil=>rfl|cons _ _ b=>exact aR (· +1) b
section
variable{K:PK}
theorem hJ.mr{w:aV}{c:Mu}{x:PV}{d:aD PV}{e:aD aJ}(h:hJ w K c.ad e (x::d)):∃v f,e=v::f∧RV w K c.ad v x∧hJ w K c.ad f d:=by cases h with |cons a b=>exact⟨_,_,rfl,a,b⟩
theorem hJ.zero{w:aV}{b:Mu}{a:aD aJ}(h:hJ w K b.ad a []):a=[] :=qC h.length
theorem hJ.one{w:aV}{c:Mu}{x:PV}{d:aD aJ}(h:hJ w K c.ad d [x]):∃v,d=[v]∧RV w K c.ad v x:=by(refine cS (h.mr) ?_;rintro v e rfl a b);refine M b.zero ?_;exact⟨v,rfl,a⟩
theorem hJ.two{w:aV}{c:Mu}{x y:PV}{e:aD aJ}(h:hJ w K c.ad e [x,y]):∃v u,e=[v,u]∧RV w K c.ad v x∧RV w K c.ad u y:=by(refine cS (h.mr) ?_;rintro v f rfl a b);(refine aQ (b.one) ?_;rintro u rfl d);exact⟨v,u,rfl,a,d⟩
noncomputable def qb(f:eA):aJ:=if f="str" then .type "str" else .builtin f
theorem Uk(n:aA)(h:n < 10^10):n.log2 < 1920:=by
 by_cases a:n=0
 ·subst a;decide
 ·have b:n < 2^34:=bK h (by decide);have c:n.log2 < 34:=(AJ a).mpr b;exact bK c (by decide)
theorem IG(b:s.heap.IsList a d)(e:d.size=f.length)(F:Fm c K m g s):fN w A c K m g (call (qb "len") [.ref a]) (xX f) s:=by
 refine .aZ fun p=> .some ?_;rw[cN] at p;refine aeZ b (by omega) <|M e ?_
 exact eE F .int
theorem Ul(F:Fm c K m mu s)(hm:Mu.Is w K mu o)(hx:RV w K mu.ad v x):fN w A c K m mu (call (qb f) [v]) (It o f x) s:=by
 cases x with
 |str y=>
  (refine xe hx.str_inv ?_;rintro t rfl);refine .ite (fun e=>e▸ .aZ fun p=> .some ?_) fun J=> .ite (fun e=>e▸ .aZ fun p=> .some ?_) fun J=> .none
  ·rw[cN] at p;exact PySem.P.len_str (pD.mpr (iD (cT.mpr p) (by decide))) (eE F .int)
  ·obtain⟨⟨l⟩⟩:=y;(refine xe (aeO.mp p) ?_;rintro k rfl);exact PySem.P.ord_of_char (eE F .int)
 |lst ys=>
  (refine ip (hx.lst_inv) ?_;rintro a ob its n rfl h1 h2 h3 h4);exact .ite (fun e=>e▸IG ⟨ob,F.keep _ _ h1,h2,n,h3⟩ (aT h4.length (M iO V)) F) fun J=> .none
 |bV=>
  (refine aQ (hx.pT) ?_;rintro a ha rfl);refine .ite (fun e=>e▸ ?_) fun J=> .none;cases hm with
  |none=>exact .none
  |some hr=>
   obtain rfl:=cB ha;exact IG (F.mul _ _ _ V).1.1 (by refine M kP ?_;exact hr.length) F
 |int i=>
  (refine xe hx.int_inv ?_;rintro t rfl);refine .ite (fun e=>e▸ .aZ fun p=> .some ?_) fun J=> .ite (fun e=>e▸ .aZ fun p=> .some ?_) fun J=> .none
  ·exact PySem.P.chr_of_int (by refine iR xj ?_;exact⟨eP (ja.mpr p.1),eP (ja.mpr p.2)⟩) (eE F .str)
  ·exact PySem.P.str_of_int (Uk _ p) (eE F .str)
 | _=>exact .none
theorem Um(F:Fm c K m g s)(h:A.handled=aB):fN w A c K m g (call (qb f) [.int a t,.int b u]) (Iu f a b) s:=by
 refine .ite (fun e=>e▸ .some ?_) fun J=> .ite (fun e=>e▸ .aZ fun p=> .some ?_) fun J=> .none
 ·refine min_two_ints h fun i tk d=>⟨K,.refl K,F.grow d,.of_keeps d,?_⟩
  split<;>exact .int
 ·exact divmod_int p.1 (u3 F V fun j k e=> .tup e V rfl (.cons .int (.cons .int .nil))) (.inl (Q4 p.2))
theorem Un(F:Fm c K m d s)(i:Mu.Is w K d x)(g:hJ w K d.ad j h)(k:A.handled=aB):fN w A c K m d (call (qb f) j) (oS x f h) s:=by
 cases h with
 |nil=>exact .none
 |cons l r=>cases r with
  |nil=>(refine aQ (g.one) ?_;rintro v rfl e);exact Ul F i e
  |cons n r=>cases r with
   |cons=>exact .none
   |nil=>
    (refine cS (g.two) ?_;rintro v u rfl e o);cases l with
    |int a=>
     (refine xe e.int_inv ?_;rintro t rfl);cases n with
     |int b=>(refine xe o.int_inv ?_;rintro p rfl);exact Um F k| _=>exact .none
    | _=>exact .none
theorem Uo(h:oS x f b=O z)(F:Fm c K m a s)(d:Mu.Is w K a x)(e:hJ w K a.ad g b)(i:A.handled=aB):
  dF w A c K m a (call (qb f) g) z s:=Un F d e i z h
theorem Up{K:PK}:∀{a:aD aJ} {b:aD Str},strs? c=O b→bL w K a c→StrsAre a b:=by
 induction c with
 |nil=>intro a b h r;obtain rfl:=cB h;refine M r.nil_inv ?_;exact .nil
 |cons x c ih=>
  intro a b h r;(refine cS (r.mr) ?_;rintro v g rfl d f);cases x with
  |str y=>
   (refine aQ (me.mp h) ?_;rintro i e rfl);obtain⟨t,rfl⟩:=d.str_inv;exact .cons _ _ (ih e f)
  | _=>exact nn h
theorem IH{K:PK}:∀(k:aA) (l:aD Str),bL w K (strsFrom k l) (l.map .str)
 | _,[] => .nil|k,x::r=> .cons .str (IH (k+1) r)
noncomputable def x7(f:eA)(o:PV)(T id:eA):Prop:=
 PlainAttrs T∧Slot T (aH f) id∧typeOf (.builtin id)=pure (.type "method_descriptor")∧∀{w:aV} {K:PK} {c:aG aW} {v:aJ} (s:aM),RV w K c v o→s.TypeIs v T∧(∀a,v= .ref a→∃b,s.heap.get? a=O b∧b.dict=aB)
theorem x9{id:eA}(b:Slot "str" (aH f) id)(c:typeOf (.builtin id)=pure (.type "method_descriptor")):x7 f (.str x) "str" id:=
 ⟨Rc,b,c,fun s d=>by(refine xe d.str_inv ?_;rintro t rfl);exact⟨pF _ _ _,fun a e=>(by contradiction)⟩⟩
noncomputable def mZ(w:aV)(A:bX)(c:Cx)(m:Str→aG aJ)(a:Mu)(f:eA)(o:PV)(d:aD PV)(r:aG PV):Prop:=
 ∀z,r=O z→∃T id,x7 f o T id∧∀{K:PK} {s:aM} {v:aJ} {b:aD aJ},Fm c K m a s→RV w K a.ad v o→hJ w K a.ad b d→dF w A c K m a (call (.builtin id) (v::b)) z s
section
theorem mZ.none:mZ w A c m a f o b none:=fun J e=>nn e
theorem mZ.ite(d:mZ w A c m a g o b r)(e:mZ w A c m a f o b i):mZ w A c m a f o b (if f=g then r else i):=by
 by_cases h:f=g
 ·refine M (aS h) (M h ?_);exact d
 ·refine M (aP h) ?_;exact e
theorem mZ.of{id:eA}(h:x7 f o T id)(k:∀{K:PK} {s:aM} {v:aJ} {b:aD aJ},Fm c K m a s→RV w K a.ad v o→hJ w K a.ad b d→fN w A c K m a (call (.builtin id) (v::b)) r s):mZ w A c m a f o d r:=
 fun z e=>⟨T,id,h,fun F g i=>k F g i z e⟩
end
theorem Uq(F:Fm c K m d s)(p:(y.length==0)=aI∧(decide (x.length < y.length) ||decide (Gn x < Gn y))=aI∧(Go x y 0 x.length (x.length+1)).isEmpty=aI∧x.length≤100000∧
   (aeN x (Go x y 0 x.length (x.length+1)) y.length).length≤1000):dF w A c K m d (call (.builtin "str.split") [.str x t,.str y f]) (.lst ((Txt.split x y).map .str)) s:=by
 (refine jo (p) ?_;try clear p;rintro g a b h i);refine xm ae0 (pF _ _ _) PySem.F.entry_str_split (PySem.F.args_str_split_2 _ _) (meets_str_split_sep _ _ t f a g b (aL h (by refine M cN ?_;decide)) (aL i (by refine M cN ?_;decide))) ?_;refine u3 F V fun j k e=> .lst e V rfl ?_;unfold Txt.split;refine M (aP (by refine M a ?_;exact cM)) (M (aP (by refine M b ?_;exact cM)) ?_);exact IH _ _
theorem Ur:mZ w A c m g f o [] (xY f o):=by
 cases o with
 |str x=>
  refine .ite (.of (x9 PySem.F.slot_str_lower PySem.F.type_str_lower) fun F b d=> ?_) (.ite (.of (x9 PySem.F.slot_str_upper PySem.F.type_str_upper) fun F b d=> ?_) .none)
  ·(refine xe b.str_inv ?_;rintro t rfl);refine M d.zero ?_;exact .aZ fun p=> .some (ahz p fun J=>eE F .str)
  ·(refine xe b.str_inv ?_;rintro t rfl);refine M d.zero ?_;exact .aZ fun p=> .some (ahA p fun J=>eE F .str)
 |int a=>
  refine .ite (.of (T:="int") ⟨PySem.F.plainAttrs_int,PySem.F.slot_int_bit_length,PySem.F.type_int_bit_length,fun s b=>by(refine xe b.int_inv ?_;rintro t rfl);exact⟨AK _ _ _,fun a e=>(by contradiction)⟩⟩ fun F b d=> ?_) .none;(refine xe b.int_inv ?_;rintro t rfl);refine M d.zero ?_;exact .some (call_int_bit_length (eE F .int))
 | _=>exact .none
theorem Us:mZ w A c m q f (.str x) [y] (Iv f x y):=by
 cases y with
 |lst r=>
  refine .ite (.of (x9 PySem.F.slot_str_join PySem.F.type_str_join) fun F b d=> ?_) .none;obtain⟨t,rfl⟩:=b.str_inv;(refine aQ (d.one) ?_;rintro u rfl e);(refine ip (e.lst_inv) ?_;rintro a s v n rfl g h i j);exact .bind fun z l=> .aZ fun p=> .some (ahB ⟨_,F.keep _ _ g,h,n,i⟩ (Up l j) p fun o k=>eE F .str)
 |str y=>
  refine .ite (.of (x9 ae0 PySem.F.type_str_split) fun F b d=> ?_) .none;obtain⟨t,rfl⟩:=b.str_inv;(refine aQ d.one ?_;rintro u rfl e);obtain⟨o,rfl⟩:=e.str_inv;exact .aZ fun p=> .some (Uq F p)
 | _=>exact .none
theorem II(h:nK x f o a=O z):
  ∃T id,x7 f o T id∧∀{K:PK} {s:aM} {v:aJ} {b:aD aJ},Fm c K m mu s→RV w K mu.ad v o→hJ w K mu.ad b a→dF w A c K m mu (call (.builtin id) (v::b)) z s:=by
 have d:mZ w A c m mu f o a (nK x f o a):=by
  cases a with
  |nil=>exact Ur
  |cons y r=>cases r with
   |cons=>exact .none
   |nil=>cases o with
    |str x=>exact Us| _=>exact .none
 exact d z h
end
end
section
noncomputable abbrev Tb:=aD (Str×aU)
noncomputable def ya(x:Str):Bool:= !(x==("__debug__":Str)) && !(x==("__classdict__":Str))
noncomputable def je(sc:dO)(a:Tb):Bool:=(sc.kind== .function) && a.all (fun p=>ya p.1 && (if p.2 then sc.names.lookup p.1==O .local else(sc.names.lookup p.1==O .free ||sc.names.lookup p.1==O .cell))) && decide (a.map (·.1)).Nodup
noncomputable def js(a:dO)(x:Str):Bool:=ya x && a.names.lookup x==O .globalImplicit
theorem dite_true{p:Prop} [qE p] {f:p→aU}(h:(if h:p then f h else aI)=aF):∃a,f a=true:=by
 by_cases a:p
 ·exact⟨a,by rw[AL a] at h;exact h⟩
 ·rw[dif_neg a] at h;exact absurd h cM
noncomputable def IJ(a:Expr)(f:Expr→i9→Expr→bG→aU):Bool:=if h:a.ctorIdx=2 then Gz a h f else aI
@[elab_as_elim] theorem BU{a:Expr}{f:Expr→i9→Expr→bG→aU}{C:Expr→Prop}(h:IJ a f=aF)(c:∀l o r p,f l o r p=aF→C (.BinOp l o r p)):C a:=
 xe (dite_true h) fun b h=>Gz (motive_1:=fun a=>∀b,Gz a b f=aF→C a) a b (fun l o r p J h=>c l o r p h) b h
noncomputable def IK(a:Expr)(f:UnaryOp→Expr→bG→aU):Bool:=if h:a.ctorIdx=3 then Rf a h f else aI
@[elab_as_elim] theorem BV{b:Expr}{f:UnaryOp→Expr→bG→aU}{C:Expr→Prop}(h:IK b f=aF)(d:∀o a p,f o a p=aF→C (.UnaryOp o a p)):C b:=
 xe (dite_true h) fun c h=>Rf (motive_1:=fun b=>∀c,Rf b c f=aF→C b) b c (fun o a p J h=>d o a p h) c h
noncomputable def BW(a:Expr)(f:Expr→(aD l9)→(aD Expr)→bG→aU):Bool:=if h:a.ctorIdx=15 then Rg a h f else aI
@[elab_as_elim] theorem sP{a:Expr}{f:Expr→(aD l9)→(aD Expr)→bG→aU}{C:Expr→Prop}(h:BW a f=aF)(e:∀l b c p,f l b c p=aF→C (.Compare l b c p)):C a:=
 xe (dite_true h) fun d h=>Rg (motive_1:=fun a=>∀d,Rg a d f=aF→C a) a d (fun l b c p J h=>e l b c p h) d h
noncomputable def IL(a:Expr)(f:BoolOp→(aD Expr)→bG→aU):Bool:=if h:a.ctorIdx=0 then Rh a h f else aI
@[elab_as_elim] theorem BX{a:Expr}{f:BoolOp→(aD Expr)→bG→aU}{C:Expr→Prop}(h:IL a f=aF)(d:∀o b p,f o b p=aF→C (.BoolOp o b p)):C a:=
 xe (dite_true h) fun c h=>Rh (motive_1:=fun a=>∀c,Rh a c f=aF→C a) a c (fun o b p J h=>d o b p h) c h
noncomputable def IM(a:Expr)(f:Expr→Expr→Expr→bG→aU):Bool:=if h:a.ctorIdx=5 then Ri a h f else aI
@[elab_as_elim] theorem BY{c:Expr}{f:Expr→Expr→Expr→bG→aU}{C:Expr→Prop}(h:IM c f=aF)(e:∀t a b p,f t a b p=aF→C (.IfExp t a b p)):C c:=
 xe (dite_true h) fun d h=>Ri (motive_1:=fun c=>∀d,Ri c d f=aF→C c) c d (fun t a b p J h=>e t a b p h) d h
noncomputable def u4(a:Expr)(f:Expr→Expr→bG→aU):Bool:=if h:a.ctorIdx=21 then Rj a h f else aI
@[elab_as_elim] theorem qc{a:Expr}{f:Expr→Expr→bG→aU}{C:Expr→Prop}(h:u4 a f=aF)(d:∀v b p,f v b p=aF→C (.Subscript v b p)):C a:=
 xe (dite_true h) fun c h=>Rj (motive_1:=fun a=>∀c,Rj a c f=aF→C a) a c (fun v b p J h=>d v b p h) c h
noncomputable def IN(a:Expr)(f:(aG Expr)→(aG Expr)→(aG Expr)→bG→aU):Bool:=if h:a.ctorIdx=26 then Rk a h f else aI
@[elab_as_elim] theorem Ut{a:Expr}{f:(aG Expr)→(aG Expr)→(aG Expr)→bG→aU}{C:Expr→Prop}(h:IN a f=aF)(d:∀lo b st p,f lo b st p=aF→C (.Slice lo b st p)):C a:=
 xe (dite_true h) fun c h=>Rk (motive_1:=fun a=>∀c,Rk a c f=aF→C a) a c (fun lo b st p J h=>d lo b st p h) c h
noncomputable def IP(a:Expr)(f:(aD Expr)→bG→aU):Bool:=if h:a.ctorIdx=24 then GA a h f else aI
@[elab_as_elim] theorem yb{a:Expr}{f:(aD Expr)→bG→aU}{C:Expr→Prop}(h:IP a f=aF)(d:∀b p,f b p=aF→C (.List b p)):C a:=
 xe (dite_true h) fun c h=>GA (motive_1:=fun a=>∀c,GA a c f=aF→C a) a c (fun b p J h=>d b p h) c h
noncomputable def u5(a:Expr)(f:(aD Expr)→aA→bG→aU):Bool:=if h:a.ctorIdx=25 then Rl a h f else aI
@[elab_as_elim] theorem sQ{a:Expr}{f:(aD Expr)→aA→bG→aU}{C:Expr→Prop}(h:u5 a f=aF)(d:∀b k p,f b k p=aF→C (.Tuple b k p)):C a:=
 xe (dite_true h) fun c h=>Rl (motive_1:=fun a=>∀c,Rl a c f=aF→C a) a c (fun b k p J h=>d b k p h) c h
noncomputable def IQ(a:Expr)(f:(aD (aG Expr))→(aD Expr)→bG→aU):Bool:=if h:a.ctorIdx=6 then GB a h f else aI
@[elab_as_elim] theorem BZ{a:Expr}{f:(aD (aG Expr))→(aD Expr)→bG→aU}{C:Expr→Prop}(h:IQ a f=aF)(e:∀b c p,f b c p=aF→C (.Dict b c p)):C a:=
 xe (dite_true h) fun d h=>GB (motive_1:=fun a=>∀d,GB a d f=aF→C a) a d (fun b c p J h=>e b c p h) d h
noncomputable def yc(a:Expr)(f:Expr→(aD Expr)→(aD GC)→bG→aU):Bool:=if h:a.ctorIdx=16 then GD a h f else aI
@[elab_as_elim] theorem u6{a:Expr}{f:Expr→(aD Expr)→(aD GC)→bG→aU}{C:Expr→Prop}(h:yc a f=aF)(e:∀g b c p,f g b c p=aF→C (.Call g b c p)):C a:=
 xe (dite_true h) fun d h=>GD (motive_1:=fun a=>∀d,GD a d f=aF→C a) a d (fun g b c p J h=>e g b c p h) d h
noncomputable def q7(a:Expr)(f:Const→aA→bG→aU):Bool:=if h:a.ctorIdx=19 then AM a h f else aI
@[elab_as_elim] theorem kX{a:Expr}{f:Const→aA→bG→aU}{C:Expr→Prop}(h:q7 a f=aF)(c:∀k n p,f k n p=aF→C (.Constant k n p)):C a:=
 xe (dite_true h) fun b h=>AM (motive_1:=fun a=>∀b,AM a b f=aF→C a) a b (fun k n p J h=>c k n p h) b h
noncomputable def B0(a:Expr)(f:Expr→Str→bG→aU):Bool:=if h:a.ctorIdx=20 then Rm a h f else aI
@[elab_as_elim] theorem B1{a:Expr}{f:Expr→Str→bG→aU}{C:Expr→Prop}(h:B0 a f=aF)(c:∀o x p,f o x p=aF→C (.Attribute o x p)):C a:=
 xe (dite_true h) fun b h=>Rm (motive_1:=fun a=>∀b,Rm a b f=aF→C a) a b (fun o x p J h=>c o x p h) b h
noncomputable def jU(a:Expr)(f:Str→bG→aU):Bool:=if h:a.ctorIdx=23 then GF a h f else aI
@[elab_as_elim] theorem jf{a:Expr}{f:Str→bG→aU}{C:Expr→Prop}(h:jU a f=aF)(c:∀x p,f x p=aF→C (.Name x p)):C a:=
 xe (dite_true h) fun b h=>GF (motive_1:=fun a=>∀b,GF a b f=aF→C a) a b (fun x p J h=>c x p h) b h
noncomputable def yd{a:Type}(d:a)(e:Expr)(f:Str→bG→a):a:=if h:e.ctorIdx=23 then GF (motive_1:=fun J=>a) e h f else d
noncomputable def sR{a:Type}(d:a)(e:Expr)(f:Z→aA→bG→a):a:=if h:e.ctorIdx=19 then AM (motive_1:=fun J=>a) e h fun c k p=>match c with
 | .int i=>f i k p| _=>d else d
noncomputable def B2{a:Type}(d:a)(e:Expr)(f:Str→aA→bG→a):a:=if h:e.ctorIdx=19 then AM (motive_1:=fun J=>a) e h fun c k p=>match c with
 | .str i=>f i k p| _=>d else d
noncomputable def IR{a:Type}(d:a)(e:Expr)(f:aD (aG Expr)→aD Expr→bG→a):a:=if h:e.ctorIdx=6 then GB (motive_1:=fun J=>a) e h f else d
noncomputable def B3{a:Type}(d:a)(e:Expr)(f:Expr→aD Expr→bG→a):a:=if h:e.ctorIdx=16 then GD (motive_1:=fun J=>a) e h fun g b J p=>f g b p else d
noncomputable def Uu{a:Type}(d:a)(e:Expr)(f:Expr→Expr→bG→a):a:=if h:e.ctorIdx=2 then Gz (motive_1:=fun J=>a) e h fun l J r p=>f l r p else d
noncomputable def Uv{a:Type}(d:a)(e:Expr)(f:aD Expr→bG→a):a:=if h:e.ctorIdx=24 then GA (motive_1:=fun J=>a) e h f else d
noncomputable def d1{c b:Type}(d:b)(l:aD c)(f:c→b):b:=match l with
 |[a] =>f a| _=>d
noncomputable def d2{c e:Type}(d:e)(l:aD c)(f:c→c→e):e:=match l with
 |[a,b] =>f a b| _=>d
noncomputable def ye{c:Type}(d:c)(s:bR)(f:Str→oB→aD bR→dO→bG→c):c:=if h:s.ctorIdx=0 then ahC (motive_2:=fun J=>c) s h fun n a b J J J e J J p=>f n a b e p else d
noncomputable def IS{a:Type}(d:a)(s:bR)(f:aD Expr→Expr→bG→a):a:=if h:s.ctorIdx=5 then GG (motive_2:=fun J=>a) s h f else d
noncomputable def kY{b:Type}(l:aD b)(f:b→aU):Bool:=l.rec aI fun a r J=>r.isEmpty && f a
@[elab_as_elim] theorem jV{b:Type}{l:aD b}{f:b→aU}{C:aD b→Prop}(h:kY l f=aF)(k:∀a,f a=aF→C [a]):C l:=by
 cases l with
 |nil=>exact absurd h cM
 |cons a r=>cases r with
  |nil=>exact k a h|cons=>exact absurd h cM
noncomputable def q8{b:Type}(l:aD b)(f:b→b→aU):Bool:=l.rec aI fun a r J=>kY r (f a)
@[elab_as_elim] theorem sT{c:Type}{l:aD c}{f:c→c→aU}{C:aD c→Prop}(h:q8 l f=aF)(k:∀a b,f a b=aF→C [a,b]):C l:=by
 cases l with
 |nil=>exact absurd h cM|cons a r=>exact jV (C:=fun r=>C (a::r)) h (k a)
noncomputable def B4{a:Type}(o:aG a)(f:a→aU):Bool:=o.rec aI f
@[elab_as_elim] theorem IT{b:Type}{o:aG b}{f:b→aU}{C:aG b→Prop}(h:B4 o f=aF)(k:∀a,f a=aF→C (O a)):C o:=by
 cases o with
 |none=>exact absurd h cM|some a=>exact k a h
theorem aY{a b:aU}(h:(a && b)=aF):a=aF∧b=true:=mM.mp h
theorem kA{a:Type}{l:aD a}(h:l.isEmpty=aF):l=[] :=Rn.mp h
theorem jt{p:Prop} [qE p] (h:decide p=aF):p:=kQ h
theorem q9{α:Type} [BEq α] [LawfulBEq α] {a b:α}(h:(a==b)=aF):a=b:=eq_of_beq h
noncomputable def qd(a:Expr)(f:Str→aD Expr→aU):Bool:=yc a fun g b c J=>c.isEmpty && jU g fun x J=>f x b
@[elab_as_elim] theorem jH{b:Expr}{f:Str→aD Expr→aU}{C:Expr→Prop}(h:qd b f=aF)(k:∀x p a q,f x a=aF→C (.Call (.Name x p) a [] q)):C b:=
 u6 h fun g a e q h=>by refine xa (aY h) fun c d=> ?_;obtain rfl:=kA c;exact jf (C:=fun g=>C (.Call g a [] q)) d fun x p h=>k x p a q h
noncomputable def q':aD (aG Expr)→aD Expr→aD (Str×Z)→aU
 |a,b,[] =>a.isEmpty && b.isEmpty|a,b,e::r=>a.rec aI fun k a J=>b.rec aI fun v b J=>(B4 k fun k=>q7 k fun c J J=>decide (c= .str e.1)) && (q7 v fun c J J=>decide (c= .int e.2)) && q' a b r
noncomputable def B5(e:E):Bool:=e.ctorIdx==E.none.ctorIdx
mutual
noncomputable def bC(j:dO)(k:Tb):E→Expr→aU
 | .nm i,ex=>jU ex fun x J=>(k[i]?).any fun p=>p.1==x| .gk y,ex=>jU ex fun x J=>(x==y) && js j x| .int n,ex=>q7 ex fun c J J=>decide (c= .int n)| .str n,ex=>q7 ex fun c J J=>decide (c= .str n)| .bool n,ex=>q7 ex fun c J J=>decide (c= .bool n)| .none,ex=>q7 ex fun c J J=>decide (c= .none)| .bin o a b,ex=>IJ ex fun l q r J=>decide (q=o) && bC j k a l && bC j k b r| .un o a,ex=>IK ex fun q x J=>decide (q=o) && bC j k a x| .cmp o a b,ex=>BW ex fun l u w J=>(kY u fun q=>decide (q=o)) && bC j k a l && kY w fun r=>bC j k b r| .oN C D a b d,ex=>BW ex fun l u w J=>(q8 u fun F G=>decide (F=C) && decide (G=D)) && bC j k a l && q8 w fun H I=>bC j k b H && bC j k d I| .bo o m,ex=>IL ex fun q z J=>decide (q=o) && eL j k m z| .jc t a b,ex=>IM ex fun K L N J=>bC j k t K && bC j k a L && bC j k b N| .sub a i,ex=>u4 ex fun v A J=>bC j k a v && bC j k i A| .dE a l h,ex=>u4 ex fun v A J=>IN A fun lo P st J=>st.isNone && bC j k a v && lo.rec (B5 l) (fun x=>bC j k l x) && P.rec (B5 h) (fun x=>bC j k h x)| .lst m,ex=>IP ex fun B J=>eL j k m B| .tup m,ex=>u5 ex fun B J J=>eL j k m B| .gB s,ex=>IQ ex fun Q z J=>q' Q z s && decide (s.length≤15) && !s.isEmpty && decide (s.map (·.1)).Nodup| .call f m,ex=>qd ex fun x args=>(x==f) && js j x && eL j k m args && decide (args≠[])| .bi f m,ex=>qd ex fun x args=>(x==aH f) && js j x && eL j k m args && (["len","chr","ord","str","min","divmod"] :aD eA).contains f && !args.isEmpty| .lS m,ex=>qd ex fun x l=>kY l fun e=>qd e fun y args=>(x==("list":Str)) && js j x && (y==("range":Str)) && js j y && eL j k m args && !args.isEmpty| .oO a,ex=>qd ex fun x l=>kY l fun b=>(x==("list":Str)) && js j x && bC j k a b| .dH f a m,ex=>yc ex fun g args R S=>R.isEmpty && B0 g fun o name T=>(name==aH f) && (T.endLine==S.line) && bC j k a o && eL j k m args && decide (args.length < 20)| .comp _ _ _ _,_=>aI
termination_by structural e=>e
noncomputable def eL(c:dO)(d:Tb):Es→aD Expr→aU
 | .nil,b=>b.isEmpty| .cons a r,b=>b.rec aI fun x b J=>bC c d a x && eL c d r b
termination_by structural e=>e
end
end
section
inductive IU(w:aV)(T:aD Tab)(K:PK)(s:aM)(y:PV)(v:aJ)(s':aM):Prop
 |mk (K':PK) (h1:PK.le K K') (h2:∀b o,K' b=O o→s'.heap.get? b=O o) (h3:∀b o,K' b=O o→K b=O o∨s.heap.get? b=aB)
   (h4:∀b o,Off T b→s.heap.get? b=O o→s'.heap.get? b=O o) (h5:RV w K' aB v y) (h6:s'.os=s.os) (h7:iT s.gens s'.gens) (h8:∀t∈T,t.Ok K' s'.heap):IU w T K s y v s'
noncomputable def oW(w:aV)(c mb:Str→aG aJ)(h₀:bF)(T:aD Tab)(n:aA)(f:aJ)(d:aD PV)(y:PV):Prop:=
 ∀(A:bX) (K:PK) (s:aM) (a:aD aJ),A.handled=aB→A.depth+n < 900→A.units+10*n < 9000→
  (∀b o,h₀.get? b=O o→K b=O o)→(∀b o,K b=O o→s.heap.get? b=O o)→Base c mb h₀→nr s.gens→(∀t∈T,K t.P=aB)→(∀t∈T,t.Ok K s.heap)→bL w K a d→
  aN (aO pg w) A (call f a) (IU w T K s y) (fun J J=>bO) s
inductive Ct(w:aV)(mg mb:Str→aG aJ)(h₀:bF)(T:aD Tab)(n:aA)(f:Str)(xs:aD PV)(y:PV):Prop
 |mk (a:aW) (o:Obj) (fd:FuncData) (h1:mg f=O (.ref a)) (h2:h₀.get? a=O o) (h3:o.data= .func fd) (h4:oW w mg mb h₀ T n (.ref a) xs y):Ct w mg mb h₀ T n f xs y
structure yf(w:aV)(c:Cx)(n:aA)(P:bT):Prop where
 gk:∀x i,P.gk x=O i→∃t,c.mg x=O (.int i t)
 call:∀f xs y,P.call f xs=O y→Ct w c.mg c.mb c.h₀ c.T n f xs y
 bi:∀f∈(["len","chr","ord","str","min","divmod","list","range","reversed"] :aD eA),c.mg (aH f)=aB
structure fF(c:Cx)(sc:dO)(tb:Tb):Prop where
 scope:c.env.scope=sc
 sU:je sc tb=aF
 globals:c.env.globals=fL
 builtins:c.env.builtins=i'
noncomputable def RL(w:aV)(K:PK)(a:gK)(b:aG aW)(d:Tb)(m:Str→aG aJ)(e:aD (aG PV)):Prop:=
 ∀(i:aA) (x:Str) (k:aU) (p:PV),d[i]? =O (x,k)→e[i]? =O (O p)→
  if k then ∃v,m x=O v∧RV w K b v p else ∃c o v,a.cells.lookup x=O c∧K c=O o∧o.data= .cell (O v)∧RV w K aB v p
theorem RL.mono{K:PK} {f g j m l} (h:RL w K f g j m l)(d:PK.le K n):RL w n f g j m l:=fun i x k p a b=>by
 have:=h i x k p a b;cases k with
 |true=>(refine aQ this ?_;clear this;rintro v e r);exact⟨v,e,r.mono d⟩|false=>(refine nJ (this) ?_;try clear this;rintro c o v q s t r);exact⟨c,o,v,q,d _ _ s,t,r.mono d⟩
section
variable{K:PK}
theorem fF.kind(h:fF c a b):c.env.scope.kind= .function:=by have:=h.sU;unfold je at this;simp only[hG,mh] at this;refine M h.scope ?_;exact this.1.1
theorem fF.at{c:Cx}{d:dO}{b:Tb}{i:aA}{x:Str}{k:aU}(h:fF c d b)(e:b[i]? =O (x,k)):((x==("__debug__":Str))=aI∧(x==("__classdict__":Str))=aI)∧(k=aF→c.env.kindOf x=O .local)∧(k=aI→c.env.kindOf x=O .free∨c.env.kindOf x=O .cell):=by
 have:=h.sU;unfold je at this;simp only[hG,j2] at this;have:=this.1.2 _ (kt e);unfold GH;refine M h.scope ?_;unfold ya at this;simp only[nt,hG] at this;refine⟨this.1,fun a=> ?_,fun a=> ?_⟩
 ·subst a;simpa using this.2
 ·subst a;simpa using this.2
theorem fF.glob(h:fF c a b)(e:js a x=aF):(x==("__debug__":Str))=aI∧c.env.kindOf x=O .globalImplicit:=by unfold js ya at e;simp only[hG,nt,mh] at e;exact⟨e.1.1,by unfold GH;refine M h.scope ?_;exact e.2⟩
noncomputable abbrev Ev(w:aV)(A:bX)(c:Cx)(d:Tb)(m:Str→aG aJ)(a:Mu)(b:Sg)(t:cR aJ)(x:PV):Prop:=
 ∀(K:PK) (s:aM),Fm c K m a s→RL w K c.env a.ad d m b.loc→Mu.Is w K a b.mu→dF w A c K m a t x s
theorem dF.lift{w:aV}{A:bX}{c:Cx}{m:Str→aG aJ}{f:Mu}{t:cR aJ}{z:PV}{g:PK}{s s':aM}(i:PK.le K g)(j:KB c f s.heap s'.heap)(h:dF w A c g m f t z s'):
  aN (aO pg w) A t (oV w c K m f s.heap z) (fun J J=>bO) s':=
 wpAny_mono h (fun v l ⟨k,a,b,d,e⟩=>⟨k,i.trans a,b,j.trans d,e⟩) fun J J x=>x
theorem B6{w:aV}{A:bX}{c:Cx}{m:Str→aG aJ}{l:Mu}{n:dO}{b:Tb}{σ:Sg}{i:aA}{x:Str}{t:bG}{p:PV}(H:fF c n b)(a:(b[i]?).any (fun q=>q.1==x)=aF)(u:σ.loc[i]? =O (O p)):Ev w A c b m l σ (eval (.Name x t) c.env) p:=by
 intro K s F z _;cases e:b[i]? with
 |none=>replace a:=e▸a;cases a
 |some q=>
  obtain⟨y,k⟩:=q;replace a:=e▸a;have:y=x:=by simpa using a
  subst this;refine iH (H.at e) fun d B C=> ?_;have:=z i y k p e u;cases k with
  |true=>
   obtain⟨v,f,r⟩:=this;exact pG (GI H.kind (B V) F.ns f (fS F r)) d.1
  |false=>
   (refine nJ (this) ?_;try clear this;rintro D o v f h j r);rcases C rfl with g |g
   ·exact pG (GJ H.kind g f ⟨o,F.keep _ _ h,j⟩ (fS F (r.up _)) d.2) d.1
   ·exact pG (Ro H.kind g f ⟨o,F.keep _ _ h,j⟩ (fS F (r.up _))) d.1
theorem sV{E:aJ→aM→Prop}(H:fF c d g)(e:js d x=aF)(F:Fm c K m i s)(f:c.mg x=O v)(h:Q v s):aN (aO pg w) A (eval (.Name x j) c.env) Q E s:=by exact xa (H.glob e) fun a b=>ae1 H.kind b (Calls.loadGlobal_global (mg:=c.mg) (by refine M H.globals ?_;exact F.heap.g) f h) a
theorem qe{E:aJ→aM→Prop}(H:fF c d j)(e:js d x=aF)(F:Fm c K m k s)(f:c.mg x=aB)(g:xg x=O v)(i:x≠"__name__")(h:Q v s):
  aN (aO pg w) A (eval (.Name x l) c.env) Q E s:=by
 exact xa (H.glob e) fun a b=>ae1 H.kind b (ae2 (mg:=c.mg) (mb:=c.mb) (by refine M H.globals ?_;exact F.heap.g) f (by refine M H.builtins ?_;exact F.heap.b) ((F.base.builtins x i).trans g) h) a
theorem iI{args:aD (aU×cR aJ)}{E:aJ→aM→Prop}(c:args≠[])(a:args.any (·.1)=aI)
  (h:aN (aO pg w) A (sn args) (fun d e=>Q ⟨d,[]⟩ e) E s):aN (aO pg w) A (evalArgs f aF args []) Q E s:=by
 cases args with
 |nil=>exact absurd rfl c
 |cons p r=>
  obtain⟨b,x⟩:=p;simp only[aeV,xj] at a;(refine xa a ?_;clear a;rintro rfl _);exact Calls.evalArgs_plain h
noncomputable def ra(a:Expr):Bool:=([0,2,3,5,6,15,16,19,21,23,24,25] :aD aA).contains a.ctorIdx
theorem qf{ex:Expr}(h:bC sc tb e ex=aF):ra ex=true:=by
 cases e with
 |nm=>exact jf h fun J J J=>rfl|gk=>exact jf h fun J J J=>rfl|int=>exact kX h fun J J J J=>rfl|str=>exact kX h fun J J J J=>rfl|bool=>exact kX h fun J J J J=>rfl|none=>exact kX h fun J J J J=>rfl|bin=>exact BU h fun J J J J J=>rfl|un=>exact BV h fun J J J J=>rfl|cmp=>exact sP h fun J J J J J=>rfl|oN=>exact sP h fun J J J J J=>rfl|bo=>exact BX h fun J J J J=>rfl|jc=>exact BY h fun J J J J J=>rfl|sub=>exact qc h fun J J J J=>rfl|dE=>exact qc h fun J J J J=>rfl|lst=>exact yb h fun J J J=>rfl|tup=>exact sQ h fun J J J J=>rfl|gB=>exact BZ h fun J J J J=>rfl|call=>exact jH h fun J J J J J=>rfl|bi=>exact jH h fun J J J J J=>rfl|lS=>exact jH h fun J J J J J=>rfl|oO=>exact jH h fun J J J J J=>rfl|dH=>exact u6 h fun J J J J J=>rfl|comp=>exact absurd h cM
theorem Uw{a:Expr}(h:ra a=aF)(c:aD Expr)(b:gK):dG (a::c) b=(aI,eval a b)::dG c b:=by
 cases a with
 |Starred _ _=>exact absurd h cM| _=>rfl
theorem i5{b:Expr}(h:bC d f e b=aF)(c:aD Expr)(a:gK):dG (b::c) a=(aI,eval b a)::dG c a:=Uw (qf h) c a
theorem Ux{a:Expr}(h:ra a=aF)(b:l9):ae3 b a=false:=by
 cases a with
 |Set _ _ _=>exact absurd h cM| _=>rfl
theorem B7{a:Expr}(h:bC c d e a=aF)(b:l9):ae3 b a=false:=Ux (qf h) b
@[elab_as_elim] theorem u7{c:dO}{d:Tb}{a:E}{r:Es}{b:aD Expr}{C:aD Expr→Prop}(h:eL c d (.cons a r) b=aF)(k:∀x b,bC c d a x=aF→eL c d r b=aF→C (x::b)):C b:=by
 cases b with
 |nil=>exact absurd h cM|cons x b=>exact k x b (aY h).1 (aY h).2
theorem yg(h:eL b c .nil a=aF):a=[] :=kA h
theorem Es.ind{C:Es→Prop}(c:C .nil)(d:∀a r,C r→C (.cons a r))(b:Es):C b:=
 Es.rec (motive_1:=fun J=>sa) (motive_2:=C) (fun J=>trivial) (fun J=>trivial) (fun J=>trivial) (fun J=>trivial) (fun J=>trivial) trivial (fun J J J J J=>trivial) (fun J J J=>trivial) (fun J J J J J=>trivial) (fun J J J J J J J J=>trivial) (fun J J J=>trivial)
  (fun J J J J J J=>trivial) (fun J J J J=>trivial) (fun J J J J J J=>trivial) (fun J J=>trivial) (fun J J=>trivial) (fun J=>trivial) (fun J J J=>trivial) (fun J J J=>trivial) (fun J J=>trivial) (fun J J=>trivial) (fun J J J J J=>trivial) (fun J J J J J J J=>trivial)
  c (fun a r J h=>d a r h) b
theorem mw{d:dO}{e:Tb}{pos:bG}{env:gK}{c:Es}:∀{b:aD Expr},eL d e c b=aF→(jD pos (dG b env)).any (·.1)=false:=
 Es.ind (C:=fun c=>∀{b:aD Expr},eL d e c b=aF→(jD pos (dG b env)).any (·.1)=aI) (fun h=>by refine M (yg h) ?_;rfl)
  (fun a r ih b h=>u7 (C:=fun b=>(jD pos (dG b env)).any (·.1)=aI) h fun x i f g=>by refine M (i5 f ..) ?_;exact ih g) c
theorem qg{f:dO}{g:Tb}{c:bG}{d:gK}{e:Es}{b:aD Expr}(h:eL f g e b=aF)(i:b≠[]):jD c (dG b d)≠[] :=by
 cases e with
 |nil=>exact absurd (yg h) i|cons a r=>exact u7 (C:=fun b=>jD c (dG b d)≠[]) h fun x k j l=>by refine M (i5 j ..) ?_;exact ae4 _ _
end
end
section
section
inductive B8(c:Cx)(K:PK)(m:Str→aG aJ)(mu:Mu)(h:bF)(b:aU)(b':aU)(s':aM):Prop
 |mk (e:b'=b) (K':PK) (k:PK.le K K') (F:Fm c K' m mu s') (kb:KB c mu h s'.heap):B8 c K m mu h b b' s'
inductive IW(w:aV)(c:Cx)(K:PK)(m:Str→aG aJ)(mu:Mu)(h:bF)(xs:aD PV)(vs:aD aJ)(s':aM):Prop
 |mk (K':PK) (k:PK.le K K') (F:Fm c K' m mu s') (b:KB c mu h s'.heap) (r:hJ w K' mu.ad vs xs):IW w c K m mu h xs vs s'
noncomputable abbrev Tr(w:aV)(A:bX)(c:Cx)(g:Tb)(m:Str→aG aJ)(a:Mu)(d:Sg)(e:Expr)(b:aU):Prop:=
 ∀(K:PK) (s:aM) (f:cR aJ),f=eval e c.env→Fm c K m a s→RL w K c.env a.ad g m d.loc→Mu.Is w K a d.mu→
  aN (aO pg w) A (so e c.env f) (B8 c K m a s.heap b) (fun J J=>bO) s
noncomputable abbrev rb(w:aV)(A:bX)(c:Cx)(d:Tb)(m:Str→aG aJ)(a:Mu)(b:Sg)(e:aD Expr)(f:aD PV):Prop:=
 ∀(g:bG) (K:PK) (s:aM),Fm c K m a s→RL w K c.env a.ad d m b.loc→Mu.Is w K a b.mu→
  aN (aO pg w) A (sn (jD g (dG e c.env))) (IW w c K m a s.heap f) (fun J J=>bO) s
theorem rb.then{j:aD Expr}{K:PK}{E:aJ→aM→Prop}(h:rb w A c o m f l j p)(F:Fm c K m f s)(L:RL w K c.env f.ad o m l.loc)(q:Mu.Is w K f l.mu)
  (k:∀g n i,PK.le K g→Fm c g m f i→KB c f s.heap i.heap→hJ w g f.ad n p→Q n i):aN (aO pg w) A (sn (jD r (dG j c.env))) Q E s:=
 wpAny_mono (h r K s F L q) (fun v i ⟨g,a,b,d,e⟩=>k g v i a b d e) fun J J x=>x.elim
theorem Tr.then{j:Expr}{K:PK}{E:aJ→aM→Prop}(h:Tr w A c n m f l j b)(F:Fm c K m f s)(L:RL w K c.env f.ad n m l.loc)(o:Mu.Is w K f l.mu)
  (k:∀i g,PK.le K i→Fm c i m f g→KB c f s.heap g.heap→Q b g):aN (aO pg w) A (so j c.env (eval j c.env)) Q E s:=
 wpAny_mono (h K s _ V F L o) (fun v g ⟨e,i,a,b,d⟩=>e▸k i g a b d) fun J J x=>x.elim
theorem IX{f:Expr}(i:∀x,o=O x→Ev w A c j m k l (eval f c.env) x)(n:∀g,so f c.env g=(do let v ←g;nu f.pos;sd [v] (truthy v))):
  ∀b,o.bind truth=O b→Tr w A c j m k l f b:=by
 intro b h K s g p F L q;cases o with
 |none=>cases h
 |some x=>
  subst p;refine isTrue_plain ((i x V K s F L q).then fun r v u a t d e=> ?_) (n _);exact qZ h e fun tk=>⟨rfl,r,a,t.tok,d⟩
theorem Uy{E:aJ→aM→Prop}(h:Q () s):aN (aO pg w) A (Rp a o r) Q E s:=wpAny_letTemporaryGo h
theorem Uz{K:PK}(h:jq x o i=O z)(F:Fm c K m mu s)(hm:Mu.Is w K mu x)(ho:RV w K mu.ad v o):
  ∃T id,s.TypeIs v T∧At (.type T) "__getitem__"=pure (O (.builtin id)):=by
 cases o with
 |str=>obtain⟨t,rfl⟩:=ho.str_inv;exact⟨"str",_,pF _ _ _,Q8.lookup⟩
 |tup=>
  (refine ip ho.sJ ?_;rintro a ob its n rfl h1 h2 h3 h4);exact⟨"tuple",_,⟨ob,F.keep _ _ h1,h2⟩,PySem.F.slot_tuple_getitem.lookup⟩
 |lst=>
  (refine ip ho.lst_inv ?_;rintro a ob its n rfl h1 h2 h3 h4);exact⟨"list",_,⟨ob,F.keep _ _ h1,h2⟩,Rq.lookup⟩
 |bV=>
  (refine aQ (ho.pT) ?_;rintro a ha rfl);cases hm with
  |none=>cases i<;>exact nn h
  |some hr=>
   obtain rfl:=cB ha;obtain⟨⟨⟨ob,g,g2,_⟩,_⟩,_⟩:=F.mul _ _ _ V;exact⟨"list",_,⟨ob,g,g2⟩,Rq.lookup⟩
 |gB=>
  (refine oM (ho.BL) ?_;rintro a o kv rfl h1 h2 h3 h4 h5);exact⟨"dict",_,(h3 _ (F.keep _ _ h1)).typeIs,PySem.F.slot_dict_getitem.lookup⟩
 | _=>exact nn h
theorem UA{K:PK}(h:mX o l u=O z)(F:Fm c K m d s)(b:RV w K d.ad v o):
  ∃T id,s.TypeIs v T∧At (.type T) "__getitem__"=pure (O (.builtin id)):=by
 cases o with
 |str=>obtain⟨t,rfl⟩:=b.str_inv;exact⟨"str",_,pF _ _ _,Q8.lookup⟩
 |lst=>
  (refine ip (b.lst_inv) ?_;rintro a e i n rfl f g j k);exact⟨"list",_,⟨e,F.keep _ _ f,g⟩,Rq.lookup⟩
 | _=>exact nn h
theorem UB:∃d,subscripted slice aI o i=operate d (oA o i):=by
 cases slice with
 |Slice a b c p=>cases c<;>exact⟨_,rfl⟩| _=>exact⟨_,rfl⟩
theorem IY{id:eA}{E:aJ→aM→Prop}(b:s.TypeIs o T)(c:At (.type T) "__getitem__"=pure (O (.builtin id)))
  (h:aN (aO pg w) A (oA o i) Q E s):
  aN (aO pg w) A (do let r ←subscripted d (←getitemInPython o) o i;Rp f o r;pure r) Q E s:=by
 have g:∀a,aN (aO pg w) A (operate a (oA o i) >>=fun r=>Rp f o r >>=fun J=>pure r) Q E s:=fun a=>
  wpAny_bind (wpAny_operating (wpAny_mono h (fun r k j=>wpAny_bind (Uy (wpAny_pure j))) fun J J x=>x))
 refine wpAny_bind <|wpAny_bind (wZ b c ?_)
 refine wpAny_pure ?_;obtain⟨a,e⟩:=UB (slice:=d) (o:=o) (i:=i);refine M e ?_;exact g a
end
end
section
section
variable{K:PK}
inductive yh(w:aV)(c:Cx)(K:PK)(m:Str→aG aJ)(mu:Mu)(h:bF)(xs:aD PV)(v:aJ)(s':aM):Prop
 |mk (K':PK) (a:aW) (vs:aD aJ) (n:aA) (h1:PK.le K K') (h2:Fm c K' m mu s') (h3:KB c mu h s'.heap) (h4:v= .ref a) (h5:s'.heap.get? a=O {cls:= .type "list",data:= .seq (AE vs) n})
  (h6:K' a=aB) (h7:a≠c.env.locals) (h8:mu.ad≠O a) (h9:c.hE.get? a=aB) (B9:h.get? a=aB) (B':bL w K' vs xs):yh w c K m mu h xs v s'
noncomputable def kZ(w:aV)(A:bX)(c:Cx)(K:PK)(m:Str→aG aJ)(a:Mu)(t:cR aJ)(b:aD PV)(s:aM):Prop:=
 aN (aO pg w) A t (yh w c K m a s.heap b) (fun J J=>bO) s
theorem kZ.frozen(h:kZ w A c K m b t d s):dF w A c K m b t (.lst d) s:=
 wpAny_mono h (fun v p e=>by obtain⟨q,a,u,n,f,F,i,rfl,g,j,k,l,o,_,r⟩:=e;have Q:=F.known j k l o g;exact⟨_,f.trans Q.1,Q.2,i,.lst PK.jr V rfl (r.mono Q.1)⟩) fun J J x=>x
theorem kZ.lift{w:aV}{A:bX}{c:Cx}{m:Str→aG aJ}{d:Mu}{t:cR aJ}{f:aD PV}{i:PK}{s s':aM}(u:PK.le K i)(j:KB c d s.heap s'.heap)(h:kZ w A c i m d t f s'):
  aN (aO pg w) A t (yh w c K m d s.heap f) (fun J J=>bO) s':=
 wpAny_mono h (fun v D ⟨y,a,z,n,b,F,B,e,g,C,k,l,p,q,r⟩=>⟨y,a,z,n,u.trans b,F,j.trans B,e,g,C,k,l,p,(by
  cases e:s.heap.get? a with
  |none=>rfl|some o=>rw[j a o e k l (F.off p)] at q;exact nn q.symm),r⟩) fun J J x=>x
theorem Ca(F:Fm c K m f s)(a:∀b o,s.heap.get? b=O o→d.get? b=O o)
  (g:d.get? s.heap.objs.size=O {cls:= .type "list",data:= .seq e.toArray n}) (r:bL w K e h):
  yh w c K m f s.heap h (.ref s.heap.objs.size) {s with heap:=d,toks:=tk}:=
 ⟨K,_,e,n,.refl K,F.grow a,.of_keeps a,rfl,g,F.fresh.1,F.fresh.2.1,F.fresh.2.2.1,F.fresh.2.2.2,fR,r⟩
theorem IZ(h:ItemsOf P a n)(d:∀j v,P j v→j < n→RV w K .none v (f j)):bL w K a.toList ((mK n).map f):=by
 (refine xa (h) ?_;try clear h;rintro b g)
 have i:∀(l:aD aJ) (k:aA),(∀j v,l[j]? =O v→P (k+j) v∧k+j < n)→bL w K l ((qM k l.length).map f):=by
  intro l
  induction l with
  |nil=>intro k _;exact .nil
  |cons v r ih=>
   intro k c;exact xa (c 0 v V) fun m o=> .cons (d _ _ m o) (ih (k+1) fun j v e=>by have:=c (j+1) v (by simpa using e);refine M (ov _ _ _:k+1+j=k+(j+1)) ?_;exact this)
 have:=i a.toList 0 (fun j v e=>by
  replace e:=pB▸e;refine⟨by simpa using g j v e,?_⟩
  have:j < a.size:=by
   rcases np j a.size with h |h
   ·exact h
   ·simp[h] at e
  exact bK (mj this _) (GK (cI b) (ji _)))
 refine M uy (aT b ?_);simpa using this
theorem UC(F:Fm c K m b s)(d:A.handled=aB)(p:x.length≤1000):kZ w A c K m b (call (.type "list") [.str x t]) (x.cps.toList.map fun k=> .str ⟨#[k]⟩) s:=by
 refine call_list_str d x t (fun r tk f u n g o=> ?_) (by refine M cN ?_;have:x.cps.size≤1000:=p;exact aL this (by decide));obtain⟨l⟩:=f;refine Ca F n g ?_
 have e:(x.cps.toList.map fun k=>PV.str ⟨#[k]⟩)=(mK x.cps.size).map fun j=>PV.str ⟨#[x.cps.getD j 0]⟩:=by
  apply List.ext_getElem?;intro i
  by_cases h:i < x.cps.size<;>simp[h]
 refine M e ?_
 exact IZ o fun j v a y=>by
  (refine iQ (a) ?_;try clear a;rintro k t q rfl);have:x.cps.getD j 0=k:=by simp[q]
  refine M this ?_;exact .str
theorem UD(f:0≤a)(g:b≤1000000)(c:0 < d):0≤sj a b d∧sj a b d≤1000000:=by
 refine M (show sj a b d=if a < b then(b - a - 1) / d+1 else 0 from aS c) ?_
 by_cases h:a < b
 ·have e:0≤b - a - 1:=xn (Int.sub_pos_of_lt h);exact M (aS h) <|⟨qN (kR e (cJ c)) (by decide),cL (xo (AN _ e) 1) (by refine M (xp ..) ?_;exact cL (AO _ f) g)⟩
 ·refine M (aP h) ?_;decide
theorem u8(a:0≤x)(b:x≤2000000):ahD x=true:=mM.mpr ⟨fM (cL (by decide) a),fM (iD b (by decide))⟩
theorem I0(F:Fm c K m x s)(y:A.handled=aB)(p:small a b d)(z:IsRange s.heap r a b d t u v):kZ w A c K m x (call (.type "list") [.ref r]) (pX a b d) s:=by
 (refine qX (p) ?_;try clear p;rintro h B i f C k);have e:0 < d:=C;refine xa (UD h f e) fun n o=>ae5 y z ?_ (n:=(sj a b d).toNat) (j4 n).symm (Gr.mpr (cL o (by decide))) fun H tk D I E g G=> ?_
 ·unfold ahE;refine M (aS e) (M (u8 h (cL B (by decide))) (M (u8 i (cL f (by decide))) (M (u8 (cJ e) (cL k (by decide))) (M (u8 n (cL o (by decide))) (M (u8 (qN i (xn e)) (cL (nv f (cL (AO _ (by decide)) k)) (by decide))) (M (Bool.or_true ..) ?_))))));rfl
 ·obtain⟨l⟩:=D;refine Ca F E g ?_;exact IZ G fun j v q J=>by(refine xe q ?_;clear q;rintro t rfl);exact .int
end
end
section
section
variable{w:aV}{A:bX}{c:Cx}{K:PK}{m:Str→aG aJ}{mu:Mu}{s:aM}
noncomputable def rd(a:gK)(b:bG):aD (aG Expr)→aD Expr→aD (cR aJ×cR aJ)
 |some k::d,v::e=>(eval k a,do let x ←eval v a;nu b;pure x)::rd a b d e| _,_=>[]
@[elab_as_elim] theorem I1{a:aD (aG Expr)}{b:aD Expr}{e:Str×Z}{r:aD (Str×Z)}{C:aD (aG Expr)→aD Expr→Prop}(h:q' a b (e::r)=aF)
  (i:∀k p j g a b,q' a b r=aF→C (O (.Constant (.str e.1) k p)::a) (.Constant (.int e.2) j g::b)):C a b:=by
 cases a with
 |nil=>exact absurd h cM
 |cons k a=>cases b with
  |nil=>exact absurd h cM
  |cons v b=>
   refine xa (aY h) fun h l=>xa (aY h) fun d f=>IT (C:=fun k=>C (k::a) (v::b)) d fun k d=>kX (C:=fun k=>C (O k::a) (v::b)) d fun c n p d=>M (jt d) ?_;exact kX (C:=fun v=>C (O (.Constant (.str e.1) n p)::a) (v::b)) f fun c o g f=>M (jt f) <|i _ _ _ _ _ _ l
theorem UE{env:gK}{pos:bG}{d:aD (Str×Z)}:∀{a:aD (aG Expr)} {b:aD Expr},q' a b d=aF→
  (Rr a env).zip ((Rs b env).map fun v=>(do let x ←v;nu pos;pure x:cR aJ))=(rd env pos a b).map (fun p=>(O p.1,p.2))∧(rd env pos a b).length=d.length:=by
 induction d with
 |nil=>
  intro a b h;refine xa (aY h) fun f g=> ?_;refine M (kA f) (M (kA g) ?_);exact⟨rfl,rfl⟩
 |cons e r ih=>
  intro a b h;exact I1 (C:=fun a b=>(Rr a env).zip ((Rs b env).map fun v=>(do let x ←v;nu pos;pure x:cR aJ))=(rd env pos a b).map (fun p=>(O p.1,p.2))∧(rd env pos a b).length=(e::r).length) h fun k p i j a b h=>⟨aR (QV _) (ih h).1,aR (· +1) (ih h).2⟩
inductive u9:aD (aJ×aJ)→aD (Str×Z)→Prop
 |nil:u9 [] []
 |cons {x n t u vs r}:u9 vs r→u9 ((.str x t,.int n u)::vs) ((x,n)::r)
theorem UF{i:gK}{j:bG}{E:aJ→aM→Prop}{d:aD (Str×Z)}:∀{a:aD (aG Expr)} {b:aD Expr} {s:aM} {Q:aD (aJ×aJ)→aM→Prop},q' a b d=aF→
  (∀f tk,u9 f d→Q f {s with toks:=tk})→aN (aO pg w) A (QX (rd i j a b)) Q E s:=by
 induction d with
 |nil=>
  intro a b s Q h g;refine xa (aY h) fun l n=> ?_;refine M (kA l) (M (kA n) ?_);exact aeJ (g [] s.toks .nil)
 |cons e r ih=>
  intro a b s Q h g;exact I1 (C:=fun a b=>aN (aO pg w) A (QX (rd i j a b)) Q E s) h fun k p q t a b h=>aeK (sp (wpAny_bind (pH (wpAny_bind (jj (wpAny_pure (ih h fun f tk o=>g _ tk (.cons o))))))))
theorem UG(h:u9 ps fQ):∃kv:aD (Str×aJ),Carries (Gw pg w) ps kv∧kv.map (·.1)=fQ.map (·.1)∧∀K,bL w K (kv.map (·.2)) (fQ.map fun p=> .int p.2):=by
 induction h with
 |nil=>exact⟨[],trivial,rfl,fun J=> .nil⟩
 | @cons x n t u _ _ _ ih=>
  (refine dB (ih) ?_;try clear ih;rintro kv a b d);refine⟨(x,.int n u)::kv,⟨?_,rfl,a⟩,aR (x:: ·) b,fun K=> .cons .int (d K)⟩;show xk x (.str x t)=aF;simp[xk]
theorem I2:∀(b a:aD (Str×aJ)),(a.map (·.1)++b.map (·.1)).Nodup→qG a b=a++b
 |[],a,_=>by simp[qG]
 |(k,v)::r,a,h=>by
  have f:k∉a.map (·.1):=fun g=>by rw[wW] at h;exact h.2.2 k g k (.head _) V
  have e:sf a k v=a++[(k,v)] :=by unfold sf;rw[aP];intro d;simp only[xc,lL] at d;(refine aQ (d) ?_;try clear d;rintro p i rfl);exact f (AA i)
  have ih:=I2 r (a++[(k,v)]) (by simpa using h);have:qG a ((k,v)::r)=qG (sf a k v) r:=rfl;refine M this (M e (M ih ?_));simp
theorem UH(h:q' l n f=aF)(p:f.length≤15)(r:f≠[])(t:(f.map (·.1)).Nodup)(F:Fm c K m mu s):
  dF w A c K m mu (eval (.Dict l n u) c.env) (.gB f) s:=by
 refine xa (UE (env:=c.env) (pos:=u) h) fun v g=>wpAny_Dict_pairs (knd:=Gw pg w) v (by intro e;replace g:=e▸g;exact r (List.length_eq_zero_iff.mp g.symm)) (aL (cI g) p) (UF h fun y tk z=> ?_);refine dB (UG (w:=w) z) fun i a b d=>⟨i,a,Gi _,fun B j C=> ?_⟩
 have D:qG [] i=i:=by have:=I2 i [] (by simpa [b] using t);simpa using this
 replace j:=D▸j;refine oM (id j) fun o E G H I L N P R=> ?_
 have k:∀b x,s.heap.get? b=O x→B.get? b=O x:=fun b x e=>by have S:b≠s.heap.objs.size:=fE (fA e);exact(C.2 b S).trans (kz _ _ e)
 have Fr:=F.fresh;have Q:=(F.grow (tk:=tk+y.length) k).known Fr.1 Fr.2.1 Fr.2.2.1 Fr.2.2.2 H;refine⟨_,Q.1,Q.2,.of_keeps k,.gB PK.jr ?_ (fun T q=>⟨o,E,G,q,I,L,N,P,R⟩) b (d _)⟩;refine xe F.heap.pZ fun U q=> ?_;exact beq_eq_false_iff_ne.mpr fun e=>by(replace q:=Eq.symm e▸q;replace q:=fR▸q);cases q
end
end
section
section
variable{w:aV}{A:bX}{c:Cx}{m:Str→aG aJ}{mu:Mu}{sc:dO}{tb:Tb}{σ:Sg}{P:bT}{n:aA}
theorem nL{g i j:Type}{a:aG g}{b:aG i}{f:g→i→aG j}{z:j}(h:(a.bind fun x=>b.bind fun y=>f x y)=O z):∃x y,a=O x∧b=O y∧f x y=O z:=by
 cases a with
 |none=>cases h
 |some x=>cases b with
  |none=>cases h|some y=>exact⟨x,y,rfl,rfl,h⟩
theorem dQ{g i:Type}{a:aG g}{f:g→aG i}{z:i}(h:a.bind f=O z):∃x,a=O x∧f x=O z:=by
 cases a with
 |none=>cases h|some x=>exact⟨x,rfl,h⟩
theorem I3{g i j:Type}{a:aG g}{b:g→aG i}{f:g→i→aG j}{z:j}(h:(a.bind fun x=>(b x).bind fun y=>f x y)=O z):∃x y,a=O x∧b x=O y∧f x y=O z:=by exact aQ (dQ h) fun x e h=>aQ (dQ h) fun y k h=>⟨x,y,e,k,h⟩
structure Hyp(w:aV)(A:bX)(c:Cx)(sc:dO)(tb:Tb)(P:bT)(n:aA):Prop where
 hh:A.handled=aB
 hd:A.depth+n < 900
 hu:A.units+10*n < 9000
 H:fF c sc tb
 S:yf w c n P
noncomputable abbrev ju(w:aV)(A:bX)(c:Cx)(tb:Tb)(m:Str→aG aJ)(mu:Mu)(σ:Sg)(f:Expr)(o:aG PV):Prop:=
 (∀x,o=O x→Ev w A c tb m mu σ (eval f c.env) x)∧(∀b,o.bind truth=O b→Tr w A c tb m mu σ f b)
theorem ju.plain{f:Expr}{o:aG PV}(g:∀x,o=O x→Ev w A c tb m mu σ (eval f c.env) x)(i:∀h,so f c.env h=(do let v ←h;nu f.pos;sd [v] (truthy v))):ju w A c tb m mu σ f o:=⟨g,IX g i⟩
theorem I4{T:eA}{f:aD aJ}{xs:aD PV}{K:PK}{s:aM}{z:PV}(F:Fm c K m mu s)(i:f.length≤1000)
  (h:∀g,PK.le K g→g s.heap.objs.size=O {cls:= .type T,data:= .seq f.toArray}→RV w g mu.ad (.ref s.heap.objs.size) z):dF w A c K m mu (newObj (.type T) (.seq f.toArray)) z s:=
 nw (u3 (tk:=s.toks) F V h) (by refine(M kP (M cN ?_):f.toArray.size≤eF);exact aL i (by decide))
theorem UI{g:aD Expr}{f:aD PV}{j:bG}{K:PK}{s:aM}(h:rb w A c tb m mu σ g f)(p:f.length≤1000)(k:kW f=aF)(F:Fm c K m mu s)(L:RL w K c.env mu.ad tb m σ.loc)(l:Mu.Is w K mu σ.mu):
  kZ w A c K m mu (eval (.List g j) c.env) f s:=by
 refine GL (h.then F L l fun v o q r t u i=> ?_);refine kZ.lift r u (nw (Ca (tk:=q.toks) t kz (fP _ V) (i.plain k)) ?_);refine(M kP (M cN (M i.length ?_)):o.toArray.size≤eF);exact aL p (by decide)
noncomputable def re(f:aD PV)(z:PV):Prop:=(∃a b,f=[.int a,.int b]∧small a b 1∧z= .lst (pX a b 1))∨∃a b d,f=[.int a,.int b,.int d]∧small a b d∧z= .lst (pX a b d)
theorem I5{f:aD PV}{z:PV}(h:BP f=O z):re f z:=by
 refine eC (C:=fun f=>re f z) h fun J r h=>eI (C:=fun x=>re (x::r) z) h fun a h=>eC (C:=fun r=>re (.int a::r) z) h fun J r h=>eI (C:=fun x=>re (.int a::x::r) z) h fun b h=> ?_;cases r with
 |nil=>
  exact xa (i0 h) fun p h=> .inl ⟨a,b,rfl,p,(cB h).symm⟩
 |cons x r=>
  exact eI (C:=fun x=>re (.int a:: .int b::x::r) z) h fun d h=>eN (C:=fun r=>re (.int a:: .int b:: .int d::r) z) h fun h=>xa (i0 h) fun p h=> .inr ⟨a,b,d,rfl,p,(cB h).symm⟩
theorem I6{f:aD Expr}{o z:aD PV}{G H I N:bG}{x y:Str}{K:PK}{s:aM}{es:Es}(Y:Hyp w A c sc tb P n)(g:(x==("list":Str))=aF)(Q:js sc x=aF)(i:(y==("range":Str))=aF)(R:js sc y=aF)
  (j:eL sc tb es f=aF) (S:f≠[]) (h:rb w A c tb m mu σ f o)
  (T:BP o=O (.lst z)) (F:Fm c K m mu s) (L:RL w K c.env mu.ad tb m σ.loc) (U:Mu.Is w K mu σ.mu):
  kZ w A c K m mu (eval (.Call (.Name x H) [.Call (.Name y I) f [] N] [] G) c.env) z s:=by
 have g:=beq_iff_eq.mp g;have i:=beq_iff_eq.mp i;subst g i;refine wpAny_Call_NameR (qe Y.H Q F (Y.S.bi "list" (by decide)) (v:= .type "list") (by decide+kernel) (by decide+kernel) ?_);refine pI V (iI (by intro e;cases e) V (iG ?_));refine wpAny_Call_NameR (qe Y.H R F (Y.S.bi "range" (by decide)) (v:= .type "range") (by decide+kernel) (by decide+kernel) ?_);refine pI (mw j) (iI (qg j S) (mw j) (h.then F L U fun a0 a1 a2 B C D E=> ?_));rcases I5 T with⟨a,b,rfl,p,q⟩ |⟨a,b,d,rfl,p,q⟩ <;>obtain rfl:=PV.lst.inj q
 ·(refine cS (E.two) ?_;rintro v u rfl k l);obtain⟨t,rfl⟩:=k.int_inv;obtain⟨W,rfl⟩:=l.int_inv;refine call_range_2 (jE ?_);exact kZ.lift B (D.trans (.of_keeps kz)) (I0 C.push Y.hh p (fP _ V))
 ·(refine cS (E.mr) ?_;rintro v a3 rfl k r);(refine cS (r.two) ?_;rintro v u rfl l X);obtain⟨t,rfl⟩:=k.int_inv;obtain⟨W,rfl⟩:=l.int_inv;obtain⟨a4,rfl⟩:=X.int_inv;refine call_range_3 (fC (dD Int.zero_lt_one p.2.2.2.2.1)) (jE ?_) (.inl (PyProof.noPylong_small (by have:=p.2.2.2.2;omega)));exact kZ.lift B (D.trans (.of_keeps kz)) (I0 C.push Y.hh p (fP _ V))
theorem I7{f:Expr}{z:Str}{i j:bG}{x:Str}{K:PK}{s:aM}{a:E}(Y:Hyp w A c sc tb P n)(g:(x==("list":Str))=aF)(l:js sc x=aF)(o:bC sc tb a f=aF)
  (h:Ev w A c tb m mu σ (eval f c.env) (.str z)) (p:z.length≤1000) (F:Fm c K m mu s) (L:RL w K c.env mu.ad tb m σ.loc) (q:Mu.Is w K mu σ.mu):
  kZ w A c K m mu (eval (.Call (.Name x j) [f] [] i) c.env) (z.cps.toList.map fun k=> .str ⟨#[k]⟩) s:=by
 have g:=beq_iff_eq.mp g;subst g;refine wpAny_Call_NameR (qe Y.H l F (Y.S.bi "list" (by decide)) (v:= .type "list") (by decide+kernel) (by decide+kernel) ?_);have e:dG [f] c.env=(aI,eval f c.env)::dG [] c.env:=i5 o [] c.env;refine pI (by refine M e ?_;rfl) (iI (by refine M e ?_;intro h;cases h) (by refine M e ?_;rfl) (iG ?_ e));refine(h K s F L q).then fun C v D r u y B=>jE ?_
 (refine xe B.str_inv ?_;rintro t rfl);exact kZ.lift r y (UC u Y.hh p)
theorem lookupS{es:Es}{f:aD Expr}{g:bG}(h:eL sc tb es f=aF):(jD g (dG f c.env)).all (fun x=> !x.1)=true:=by have:=mw (pos:=g) (env:=c.env) h;refine M List.all_eq_not_any_not ?_;simpa using this
noncomputable def PE(w:aV)(A:bX)(c:Cx)(m:Str→aG aJ)(mu:Mu)(sc:dO)(tb:Tb)(σ:Sg)(P:bT)(e:E):Prop:=∀f:Expr,bC sc tb e f=aF→ju w A c tb m mu σ f (ev P σ e)
noncomputable def mx(w:aV)(A:bX)(c:Cx)(m:Str→aG aJ)(mu:Mu)(sc:dO)(tb:Tb)(σ:Sg)(P:bT)(es:Es):Prop:=∀f:aD Expr,eL sc tb es f=aF→∀g,gC P σ es=O g→rb w A c tb m mu σ f g
noncomputable def rf(w:aV)(A:bX)(c:Cx)(m:Str→aG aJ)(mu:Mu)(sc:dO)(tb:Tb)(σ:Sg)(P:bT)(es:Es):Prop:=∀(f:BoolOp) (h:bG) (g:aD Expr),eL sc tb es g=aF→ju w A c tb m mu σ (.BoolOp f g h) (oU P σ f es)
section
variable{a b d e:E}{es:Es}
theorem I8(Y:Hyp w A c sc tb P n){i:aA}:PE w A c m mu sc tb σ P (.nm i):=fun g h=>jf h fun x j h=> .plain (fun z f=>by
 have f:(σ.loc[i]?).join=O z:=f;cases e1:σ.loc[i]? with
 |none=>rw[e1] at f;exact nn f|some o=>rw[e1] at f;exact B6 Y.H h (e1.trans (aR O f))) fun J=>rfl
theorem I9(Y:Hyp w A c sc tb P n){y:Str}:PE w A c m mu sc tb σ P (.gk y):=fun l h=>jf h fun x o h=> .plain (fun z f=>by obtain⟨g,j⟩:=aY h;obtain rfl:=q9 g;have f:(P.gk x).map PV.int=O z:=f;(refine aQ (me.mp f) ?_;rintro i e rfl);obtain⟨t,k⟩:=Y.S.gk x i e;exact fun K s F L p=>sV Y.H j F k (fS F .int)) fun J=>rfl
theorem Ja{k:Z}:PE w A c m mu sc tb σ P (.int k):=fun g h=>kX h fun q J J h=>by exact M (jt h) <| .plain (fun z f=>by obtain rfl:PV.int k=z:=cB f;exact fun K s F L i=>pH (eE F .int)) fun J=>rfl
theorem Jb{k:Str}:PE w A c m mu sc tb σ P (.str k):=fun g h=>kX h fun q J J h=>by exact M (jt h) <| .plain (fun z f=>by obtain rfl:PV.str k=z:=cB f;exact fun K s F L i=>sp (eE F .str)) fun J=>rfl
theorem Jc{k:aU}:PE w A c m mu sc tb σ P (.bool k):=fun g h=>kX h fun q J J h=>by exact M (jt h) <| .plain (fun z f=>by obtain rfl:PV.bool k=z:=cB f;exact fun K s F L i=>Constant_bool (fS F .bool)) fun J=>rfl
theorem Jd:PE w A c m mu sc tb σ P .none:=fun g h=>kX h fun q J J h=>by exact M (jt h) <| .plain (fun z f=>by obtain rfl:PV.none=z:=cB f;exact fun K s F L i=>ae6 (fS F .none)) fun J=>rfl
theorem Je{x y z:PV}{l r:Expr}{f:aJ→aJ→cR aJ}(j:Ev w A c tb m mu σ (eval l c.env) x)(k:Ev w A c tb m mu σ (eval r c.env) y)
  (o:∀K s v u,Fm c K m mu s→Mu.Is w K mu σ.mu→RV w K mu.ad v x→RV w K mu.ad u y→dF w A c K m mu (f v u) z s) (K:PK) (s:aM) (F:Fm c K m mu s) (L:RL w K c.env mu.ad tb m σ.loc) (h:Mu.Is w K mu σ.mu):
  aN (aO pg w) A (eval l c.env) (fun v=>aN (aO pg w) A (eval r c.env) (fun u=>aN (aO pg w) A (f v u) (oV w c K m mu s.heap z) (fun J J=>bO)) (fun J J=>bO)) (fun J J=>bO) s:=
 (j K s F L h).then fun p q t g B C D=>(k p t B (L.mono g) (h.mono g)).then fun E G H i I N Q=>dF.lift (g.trans i) (C.trans N) (o E H q G I (h.mono (g.trans i)) (D.mono i) Q)
theorem Jf(Y:Hyp w A c sc tb P n){o:i9}(f:PE w A c m mu sc tb σ P a)(g:PE w A c m mu sc tb σ P b):PE w A c m mu sc tb σ P (.bin o a b):=fun E h=>BU h fun l G r H h=>by refine xa (aY h) fun h i=>xa (aY h) fun h j=> ?_;obtain rfl:=jt h;refine .plain (fun z k=> ?_) (fun J=>rfl);exact cS (nL k) fun x y p q t=>fun K s F L B=>wpAny_BinOp (Je ((f _ j).1 x p) ((g _ i).1 y q) (fun K s v u F J C D=>sO t F C D Y.hh) K s F L B)
theorem Jg{o:UnaryOp}(p:PE w A c m mu sc tb σ P a):PE w A c m mu sc tb σ P (.un o a):=fun S h=>BV h fun g x u h=>by
 refine xa (aY h) fun h q=> ?_;obtain rfl:=jt h
 have i:∀z,ev P σ (.un g a)=O z→Ev w A c tb m mu σ (eval (.UnaryOp g x u) c.env) z:=fun z j=>by exact aQ (dQ j) fun y k f=>fun K s F L l=>UnaryOp_ (((p _ q).1 y k K s F L l).then fun T U W v B C D=>dF.lift v C (T4 f B D))
 by_cases r:g= .Not
 ·subst r;refine⟨i,fun b E K s X Y F L l=> ?_⟩;refine aQ (dQ E) fun z j G=>aQ (dQ j) fun y k f=> ?_;have f:((truth y).map fun b=>PV.bool (!b))=O z:=f;(refine aQ (me.mp f) ?_;rintro t H rfl);obtain rfl:(!t)=b:=cB G;exact isTrue_not (((p _ q).2 t (by refine M k ?_;exact H)).then F L l fun I a0 N Q R=>⟨rfl,I,N,Q,R⟩)
 ·refine⟨i,IX i ?_⟩;cases g with
  |Not=>exact absurd rfl r| _=>exact fun J=>rfl
theorem Jh{o:l9}(B:PE w A c m mu sc tb σ P a)(C:PE w A c m mu sc tb σ P b):PE w A c m mu sc tb σ P (.cmp o a b):=fun a3 h=>sP h fun l D i E h=>by
 refine xa (aY h) fun h f=>xa (aY h) fun h G=>jV (C:=fun D=>ju w A c tb m mu σ (.Compare l D i E) (ev P σ (.cmp o a b))) h fun j h=>jV (C:=fun i=>ju w A c tb m mu σ (.Compare l [j] i E) (ev P σ (.cmp o a b))) f fun a4 f=> ?_;obtain rfl:=jt h
 constructor
 ·intro z k;exact cS (nL k) fun x y p q r=>fun K s F L g=>Rt (Je ((B _ G).1 x p) ((C _ f).1 y q) (fun K s a5 a6 F J t u=>qa r F t u) K s F L g) (B7 f j)
 ·intro a7 I K s a8 a9 F L g;obtain⟨z,k,N⟩:=dQ I
  exact cS (nL k) fun x y p q r=>GN (((B _ G).1 x p K s F L g).then fun Q a' R v S T t=>((C _ f).1 y q Q R S (L.mono v) (g.mono v)).then fun aa ab ae H U W u=>
   (qa r U (t.mono H) u).then fun X af ah Y a0 a1 a2=>qZ N a2 fun tk=>⟨rfl,X,(v.trans H).trans Y,a0.tok,(T.trans W).trans a1⟩) (B7 f j)
theorem Ji{o f:aG PV}{z:PV}(h:(match o with
  |some (.bool aI)=>O (.bool aI)|some (.bool aF)=>f| _=> .none)=O z):(o=O (.bool aI)∧z= .bool aI)∨(o=O (.bool aF)∧f=O z):=by
 cases o with
 |none=>exact nn h
 |some p=>cases p with
  |bool b=>cases b with
   |false=>exact .inl ⟨rfl,(cB h).symm⟩|true=>exact .inr ⟨rfl,h⟩
  | _=>exact nn h
theorem Jj{H I:l9}(a7:PE w A c m mu sc tb σ P a)(a8:PE w A c m mu sc tb σ P b)(a9:PE w A c m mu sc tb σ P d):PE w A c m mu sc tb σ P (.oN H I a b d):=fun b2 h=>sP h fun a' aa N ab h=>by
 obtain⟨h,u⟩:=aY h;obtain⟨h,ae⟩:=aY h;refine sT (C:=fun aa=>ju w A c tb m mu σ (.Compare a' aa N ab) (ev P σ (.oN H I a b d))) h fun af Q h=>sT (C:=fun N=>ju w A c tb m mu σ (.Compare a' [af,Q] N ab) (ev P σ (.oN H I a b d))) u fun aj ak u=> ?_;obtain⟨al,am⟩:=aY h;obtain rfl:=jt al;obtain rfl:=jt am;obtain⟨u,R⟩:=aY u;have ah:lastMarks (af::Q::[]) (aj::ak::[])=false:=B7 R Q
 constructor
 ·intro z S;refine cS (nL S) fun x y T U W=> ?_;intro K s F L j;refine Compare_chain (((a7 _ ae).1 x T K s F L j).then fun X an Y f a0 v B=>chain_link (((a8 _ u).1 y U X Y a0 (L.mono f) (j.mono f)).then fun ao ap aq g C D k=> ?_)) ah;rcases Ji W with⟨l,rfl⟩ |⟨l,o⟩
  ·exact(qa l C (B.mono g) k).then fun p a1 E i q r t=>M t.bool_inv <|wpAny_truthy_bool ⟨p,(f.trans g).trans i,q,(v.trans D).trans r,.bool⟩
  ·refine aQ (dQ o) fun a2 o a3=>(qa l C (B.mono g) k).then fun p a1 E i q r t=>M t.bool_inv <|wpAny_truthy_bool (chain_last (((a9 _ R).1 a2 o p E q ((L.mono f).mono (g.trans i)) ((j.mono f).mono (g.trans i))).then fun ar as au G a4 a5 a6=> ?_))
   exact dF.lift (((f.trans g).trans i).trans G) (((v.trans D).trans r).trans a5) (qa a3 a4 (k.mono (i.trans G)) a6)
 ·intro av aw K s b3 b4 F L j;refine aQ (dQ aw) fun z S ai=>cS (nL S) fun x y T U W=>isTrue_chain (((a7 _ ae).1 x T K s F L j).then fun X an Y f a0 v B=>test_link (((a8 _ u).1 y U X Y a0 (L.mono f) (j.mono f)).then fun ao ap aq g C D k=> ?_)) ah;rcases Ji W with⟨l,rfl⟩ |⟨l,o⟩
  ·obtain rfl:aI=av:=cB ai;exact(qa l C (B.mono g) k).then fun p a1 E i q r t=>M t.bool_inv <|wpAny_truthy_bool ⟨rfl,p,(f.trans g).trans i,q,(v.trans D).trans r⟩
  ·obtain⟨a2,o,a3⟩:=dQ o;refine(qa l C (B.mono g) k).then fun p a1 E i q r t=>M t.bool_inv <|wpAny_truthy_bool (test_last (((a9 _ R).1 a2 o p E q ((L.mono f).mono (g.trans i)) ((j.mono f).mono (g.trans i))).then fun ar as au G a4 a5 a6=> ?_))
   exact(qa a3 a4 (k.mono (i.trans G)) a6).then fun ax b5 b6 ay az b0 b1=>qZ ai b1 fun tk=>⟨rfl,ax,(((f.trans g).trans i).trans G).trans ay,az.tok,(((v.trans D).trans r).trans a5).trans b0⟩
theorem yi{i:Type}{o:aG aU}{f g:aG i}{z:i}(h:(match o with
  |some aF=>f|some aI=>g| .none=> .none)=O z):(o=O aF∧f=O z)∨(o=O aI∧g=O z):=by
 cases o with
 |none=>exact nn h
 |some b=>cases b with
  |false=>exact .inr ⟨rfl,h⟩|true=>exact .inl ⟨rfl,h⟩
theorem Jk(hd:PE w A c m mu sc tb σ P d)(ha:PE w A c m mu sc tb σ P a)(hb:PE w A c m mu sc tb σ P b):PE w A c m mu sc tb σ P (.jc d a b):=fun ex h=>BY h fun t' a' b' pos h=>by
 refine xa (aY h) fun h h3=>xa (aY h) fun h1 h2=> ?_
 constructor
 ·intro z hz K s F L Mi;rcases yi hz with⟨e,hz⟩ |⟨e,hz⟩
  ·exact IfExp_ (((hd _ h1).2 aF e).then F L Mi fun K1 s1 k1 F1 b1=>dF.lift k1 b1 ((ha _ h2).1 z hz K1 s1 F1 (L.mono k1) (Mi.mono k1)))
  ·exact IfExp_ (((hd _ h1).2 aI e).then F L Mi fun K1 s1 k1 F1 b1=>dF.lift k1 b1 ((hb _ h3).1 z hz K1 s1 F1 (L.mono k1) (Mi.mono k1)))
 ·intro bb UJ K s whole hw F L Mi;refine aQ (dQ UJ) fun z hz e4=> ?_;rcases yi hz with⟨e,hz⟩ |⟨e,hz⟩
  ·exact isTrue_IfExp (((hd _ h1).2 aF e).then F L Mi fun K1 s1 k1 F1 b1=>((ha _ h2).2 bb (by refine M hz ?_;exact e4)).then F1 (L.mono k1) (Mi.mono k1) fun K2 s2 k2 F2 b2=>⟨rfl,K2,k1.trans k2,F2,b1.trans b2⟩)
  ·exact isTrue_IfExp (((hd _ h1).2 aI e).then F L Mi fun K1 s1 k1 F1 b1=>((hb _ h3).2 bb (by refine M hz ?_;exact e4)).then F1 (L.mono k1) (Mi.mono k1) fun K2 s2 k2 F2 b2=>⟨rfl,K2,k1.trans k2,F2,b1.trans b2⟩)
theorem Jl(o:PE w A c m mu sc tb σ P a)(p:PE w A c m mu sc tb σ P b):PE w A c m mu sc tb σ P (.sub a b):=fun R h=>qc h fun v S U h=>by obtain⟨q,r⟩:=aY h;refine .plain (fun z t=> ?_) (fun J=>rfl);refine cS (nL t) fun x y u B j=> ?_;intro K s F L i;refine wpAny_bind (((o _ q).1 x u K s F L i).then fun C W D f E G k=>wpAny_bind (il (((p _ r).1 y B C D E (L.mono f) (i.mono f)).then fun X Y a0 g l H I=>wpAny_bind (jj ?_))));exact iQ (Uz j l (i.mono (f.trans g)) (k.mono g)) fun T id N Q=>IY N Q (dF.lift (f.trans g) (G.trans H) (IE j l (i.mono (f.trans g)) (k.mono g) I))
theorem Jm{o:aG Expr}(g:PE w A c m mu sc tb σ P a)(h:(o.rec (B5 a) fun x=>bC sc tb a x:aU)=aF){y:PV}(f:ev P σ a=O y):Ev w A c tb m mu σ (evalPart o c.env) y:=by
 cases o with
 |some x=>exact(g x h).1 y f
 |none=>
  cases a with
  |none=>obtain rfl:PV.none=y:=cB f;exact fun K s F L i=>wpAny_pure (fS F .none)
  | _=>exact absurd h cM
theorem Jn(r:PE w A c m mu sc tb σ P a)(t:PE w A c m mu sc tb σ P b)(u:PE w A c m mu sc tb σ P d):PE w A c m mu sc tb σ P (.dE a b d):=fun a8 h=>qc h fun v l y h=>Ut (C:=fun l=>ju w A c tb m mu σ (.Subscript v l y) (ev P σ (.dE a b d))) h fun lo a9 st a' h=>by
 refine xa (aY h) fun h B=>xa (aY h) fun h C=>xa (aY h) fun h D=> ?_;obtain rfl:=Option.isNone_iff_eq_none.mp h;refine .plain (fun z j=> ?_) (fun J=>rfl);obtain⟨x,E,j⟩:=dQ j;refine cS (nL j) fun aa ab G H o=> ?_;intro K s F L k;refine wpAny_bind (((r _ D).1 x E K s F L k).then fun I ae N f Q R p=>wpAny_bind (il (wpAny_Slice ?_)));refine(Jm t C G I N Q (L.mono f) (k.mono f)).then fun S U W g X Y a0=>(Jm u B H S W X (L.mono (f.trans g)) (k.mono (f.trans g))).then fun af a1 a2 i a3 a4 a5=>wpAny_pure (wpAny_bind (jj ?_))
 have q:=a3.push (o:={cls:= .type "slice",data:= .fields #[U,a1,.none]}) (tk:=a2.toks);exact iQ (UA o q (p.mono (g.trans i))) fun T id a6 a7=>IY a6 a7 (dF.lift ((f.trans g).trans i) (((R.trans Y).trans a4).trans (.of_keeps kz)) (Ui o q (p.mono (g.trans i)) (a0.mono i) a5 (fP _ V)))
theorem Jo(j:mx w A c m mu sc tb σ P es):PE w A c m mu sc tb σ P (.lst es):=fun x h=>yb h fun y B h=> .plain (fun z k=>by refine aQ (dQ k) fun g l f=> ?_;obtain⟨⟨o,p⟩,f⟩:=i0 f;obtain rfl:=cB f;exact fun K s F L q=>GL ((j _ h g l).then F L q fun C D E r t u i=>dF.lift r u (I4 (xs:=g) t (by refine M i.length ?_;exact o) fun G v e=> .lst e V rfl (i.plain p |>.mono v)))) fun J=>rfl
theorem Jp(j:mx w A c m mu sc tb σ P es):PE w A c m mu sc tb σ P (.tup es):=fun y h=>sQ h fun B k C h=> .plain (fun z l=>by refine aQ (dQ l) fun g o f=> ?_;obtain⟨⟨p,q⟩,f⟩:=i0 f;obtain rfl:=cB f;exact fun K s F L r=>Tuple_ ((j _ h g o).then F L r fun D E G t u v i=>dF.lift t v (I4 (xs:=g) u (by refine M i.length ?_;exact p) fun H x e=> .tup e V rfl (i.plain q |>.mono x)))) fun J=>rfl
theorem Jq{f:aD (Str×Z)}:PE w A c m mu sc tb σ P (.gB f):=fun o h=>BZ h fun p q r h=> .plain (fun z i=>by refine xa (aY h) fun h j=>xa (aY h) fun h g=>xa (aY h) fun k l=> ?_;obtain rfl:PV.gB f=z:=cB i;exact fun K s F L t=>UH k (jt l) (by rw[nt] at g;exact xq.mp g) (jt j) F) fun J=>rfl
theorem Jr(Y:Hyp w A c sc tb P n){f:Str}(r:mx w A c m mu sc tb σ P es):PE w A c m mu sc tb σ P (.call f es):=fun a3 h=>jH h fun x a4 args a5 h=>by refine xa (aY h) fun h i=>xa (aY h) fun h j=>xa (aY h) fun h s=> ?_;obtain rfl:=q9 h;have i:=jt i;refine .plain (fun z t=> ?_) (fun J=>rfl);refine aQ (dQ t) fun u v k=>xa (i0 k) fun p k=> ?_;obtain⟨a,o,fd,y,B,C,D⟩:=Y.S.call _ _ _ k;intro K a6 F L E;refine wpAny_Call_NameR (sV Y.H s F y ?_);refine AP (o:=o) (fd:=fd) (iI (qg j i) (mw j) ((r _ j u v).then F L E fun G H I N g Q R=>⟨⟨g.keep _ _ (g.le _ _ (g.low _ _ B)),C⟩,?_⟩));refine wpAny_mono (D A G I H Y.hh Y.hd Y.hu (fun b o e=>g.le _ _ (g.low _ _ e)) g.keep g.base g.gens.bare g.dP g.tabs (R.plain p)) (fun a7 a8 ⟨S,l,T,U,W,X,a0,a1,a2⟩=> ?_) (fun J J x=>x.elim);have q:=g.called l T U W a0 a1 a2;exact⟨S,N.trans l,q.1,Q.trans q.2,X.up _⟩
theorem UK:∀f∈(["len","chr","ord","str","min","divmod"] :aD eA),f∈(["len","chr","ord","str","min","divmod","list","range","reversed"] :aD eA)∧xg (aH f)=O (qb f)∧aH f≠"__name__":=by simp only[jk];exact⟨⟨by decide,by decide+kernel,by decide+kernel⟩,⟨by decide,by decide+kernel,by decide+kernel⟩,⟨by decide,by decide+kernel,by decide+kernel⟩,⟨by decide,by decide+kernel,by decide+kernel⟩,⟨by decide,by decide+kernel,by decide+kernel⟩,⟨by decide,by decide+kernel,by decide+kernel⟩,fun J h=>(cO h).elim⟩
theorem Js(Y:Hyp w A c sc tb P n){f:eA}(r:mx w A c m mu sc tb σ P es):PE w A c m mu sc tb σ P (.bi f es):=fun N h=>jH h fun x Q args t h=>by
 refine xa (aY h) fun h i=>xa (aY h) fun h u=>xa (aY h) fun h g=>xa (aY h) fun h v=> ?_;obtain rfl:=q9 h;rw[nt] at i;have i:=xq.mp i;refine .plain (fun z y=> ?_) (fun J=>rfl);refine aQ (dQ y) fun B C D=> ?_;intro K s F L l;refine iH (UK f (List.contains_iff_mem.mp u)) fun k E G=>wpAny_Call_NameR (qe Y.H v F (Y.S.bi f k) E G ?_)
 have j:aN (aO pg w) A (sn (jD t (dG args c.env))) (fun o p=>aN (aO pg w) A (call (qb f) o) (oV w c K m mu s.heap z) (fun J J=>bO) p) (fun J J=>bO) s:=
  (r _ g B C).then F L l fun R o p q H k I=>dF.lift q k (Uo D H (l.mono q) I Y.hh)
 unfold qb at j ⊢
 by_cases e:f="str"
 ·rw[aS e] at j ⊢;exact pI (mw g) (iI (qg g i) (mw g) j)
 ·rw[aP e] at j ⊢;exact ny (mw g) (iI (qg g i) (mw g) j)
theorem Jt(Y:Hyp w A c sc tb P n)(q:mx w A c m mu sc tb σ P es):PE w A c m mu sc tb σ P (.lS es):=fun G h=>jH h fun x f l g h=>jV (C:=fun l=>ju w A c tb m mu σ (.Call (.Name x f) l [] g) (ev P σ (.lS es))) h fun e h=>jH (C:=fun e=>ju w A c tb m mu σ (.Call (.Name x f) [e] [] g) (ev P σ (.lS es))) h fun y H args I h=>by
 refine xa (aY h) fun h i=>xa (aY h) fun h j=>xa (aY h) fun h r=>xa (aY h) fun h t=> ?_;refine xa (aY h) fun u v=> ?_;rw[nt] at i;refine .plain (fun z B=> ?_) (fun J=>rfl);refine aQ (dQ B) fun C D k=> ?_
 have o:∃p,z= .lst p:=by rcases I5 k with⟨_,_,_,_,e⟩ |⟨_,_,_,_,_,e⟩ <;>exact⟨_,e⟩
 (refine xe o ?_;clear o;rintro p rfl);exact fun K s F L E=>(I6 Y u v t r j (xq.mp i) (q _ j C D) k F L E).frozen
theorem Ju{x z:PV}(h:(match x with
  | .str s=>aZ (s.length≤1000) (O (.lst (s.cps.toList.map fun c=> .str ⟨#[c]⟩)))| _=> .none)=O z):∃y,x= .str y∧y.length≤1000∧z= .lst (y.cps.toList.map fun c=> .str ⟨#[c]⟩):=by
 cases x with
 |str y=>(refine xa (i0 h) ?_;rintro p h);exact⟨y,rfl,p,(cB h).symm⟩| _=>exact nn h
theorem Jv(Y:Hyp w A c sc tb P n)(g:PE w A c m mu sc tb σ P a):PE w A c m mu sc tb σ P (.oO a):=fun v h=>jH h fun x i l j h=>jV (C:=fun l=>ju w A c tb m mu σ (.Call (.Name x i) l [] j) (ev P σ (.oO a))) h fun e h=>by refine xa (aY h) fun h f=>xa (aY h) fun k o=> .plain (fun z q=> ?_) (fun J=>rfl);refine aQ (dQ q) fun y r t=> ?_;(refine dB (Ju t) ?_;rintro x rfl p rfl);exact fun K s F L u=>(I7 Y k o f ((g _ f).1 _ r) p F L u).frozen
theorem UL{ex:Expr}{x:Str}{env:gK}(h:bC sc tb a ex=aF):AQ ex x env (eval ex env)=eval ex env:=by
 cases a with
 |nm=>exact jf h fun J J J=>rfl|gk=>exact jf h fun J J J=>rfl|int=>exact kX h fun J J J J=>rfl|str=>exact kX h fun J J J J=>rfl|bool=>exact kX h fun J J J J=>rfl|none=>exact kX h fun J J J J=>rfl|bin=>exact BU h fun J J J J J=>rfl|un=>exact BV h fun J J J J=>rfl|cmp=>exact sP h fun J J J J J=>rfl|oN=>exact sP h fun J J J J J=>rfl|bo=>exact BX h fun J J J J=>rfl|jc=>exact BY h fun J J J J J=>rfl|sub=>exact qc h fun J J J J=>rfl|dE=>exact qc h fun J J J J=>rfl|lst=>exact yb h fun J J J=>rfl|tup=>exact sQ h fun J J J J=>rfl|gB=>exact BZ h fun J J J J=>rfl
 |call=>
  refine jH h fun x p args q h=> ?_;have h:=jt (aY h).2;cases args with
  |nil=>exact absurd rfl h|cons=>rfl
 |bi=>
  refine jH h fun x p args q h=> ?_;have h:=(aY h).2;cases args with
  |nil=>exact absurd h cM|cons=>rfl
 |lS=>exact jH h fun y p args q h=>jV (C:=fun args=>AQ (.Call (.Name y p) args [] q) x env (eval (.Call (.Name y p) args [] q) env)=eval (.Call (.Name y p) args [] q) env) h fun J J=>rfl|oO=>exact jH h fun y p args q h=>jV (C:=fun args=>AQ (.Call (.Name y p) args [] q) x env (eval (.Call (.Name y p) args [] q) env)=eval (.Call (.Name y p) args [] q) env) h fun J J=>rfl|dH=>exact u6 h fun g xs Cb p h=>B1 (C:=fun g=>AQ (.Call g xs Cb p) x env (eval (.Call g xs Cb p) env)=eval (.Call g xs Cb p) env) (aY h).2 fun J J J J=>rfl|comp=>exact absurd h cM
theorem Jw{f:eA}(I:PE w A c m mu sc tb σ P a)(N:mx w A c m mu sc tb σ P es):PE w A c m mu sc tb σ P (.dH f a es):=fun ae h=>u6 h fun g args af i h=>by
 refine xa (aY h) fun Q h=> ?_;obtain rfl:=kA Q;refine B1 (C:=fun g=>ju w A c tb m mu σ (.Call g args [] i) (ev P σ (.dH f a es))) h fun o name ah h=>xa (aY h) fun h k=>xa (aY h) fun h j=>xa (aY h) fun h r=> ?_;refine xa (aY h) fun R S=> ?_;obtain rfl:=q9 R;have k:=jt k;refine .plain (fun z l=> ?_) (fun J=>rfl);refine aQ (dQ l) fun x U l=>aQ (dQ l) fun W X Y=> ?_;intro K s F L t;refine sr (UL r) ?_ S (((I _ r).1 x U K s F L t).then fun ai a0 u q a1 a2 v=> ?_)
 ·refine M (lookupS (c:=c) j) ?_;simp only[Rb,hG,lL];exact⟨rfl,bK k (by decide)⟩
 ·have y:=mw (pos:=i) (env:=c.env) j;refine iQ (II (w:=w) (A:=A) (c:=c) (m:=m) (mu:=mu) Y) fun T id B a3=> ?_;(refine dX (B) ?_;try clear B;rintro a4 a5 a6 a7);refine xa (a7 u v) fun a8 a9=>⟨T,id,a4,a5,a6,a8,a9,?_⟩
  have C:aN (aO pg w) A (sn (jD i (dG args c.env))) (fun D E=>aN (aO pg w) A (call (.builtin id) (a0::D)) (oV w c K m mu s.heap z) (fun J J=>bO) E) (fun J J=>bO) u:=
   (N _ j W X).then a1 (L.mono q) (t.mono q) fun aj D E G a' aa ab=>dF.lift (q.trans G) (a2.trans aa) (a3 a' (v.mono G) ab)
  cases args with
  |nil=>exact ny V (GO (by intro H p hΓ;have:=C H p hΓ;have e:jD i (dG [] c.env)=[] :=rfl;rw[e,sn,Sem.wp_pure'] at this;exact this H p hΓ))
  |cons ak al=>exact ny y (iI (qg j (ae4 _ _)) y C)
theorem Jx:mx w A c m mu sc tb σ P .nil:=fun i h f g=>by obtain rfl:=yg h;obtain rfl:[] =f:=cB g;exact fun j K s F L k=>jE ⟨K,.refl K,F,.refl,.nil⟩
theorem Jy(o:PE w A c m mu sc tb σ P a)(p:mx w A c m mu sc tb σ P es):mx w A c m mu sc tb σ P (.cons a es):=fun i h=>u7 (C:=fun i=>∀f,gC P σ (.cons a es)=O f→rb w A c tb m mu σ i f) h fun x q j r f t=>by refine cS (nL t) fun y u v z B=> ?_;obtain rfl:=cB B;intro Q K s F L k;exact iG (((o _ j).1 y v K s F L k).then fun R S T g C D E=>(p _ r u z).then C (L.mono g) (k.mono g) fun G U W l H I N=>⟨G,g.trans l,H,D.trans I,.cons (E.mono l) N⟩) (i5 j q c.env)
theorem UM{f:BoolOp}:oU P σ f (.cons a .nil)=ev P σ a:=by show(ev P σ a).bind O=_;cases ev P σ a<;>rfl
theorem Jz(o:PE w A c m mu sc tb σ P a)(Y:rf w A c m mu sc tb σ P es):rf w A c m mu sc tb σ P (.cons a es):=fun l D U a0=>u7 (C:=fun U=>ju w A c tb m mu σ (.BoolOp l U D) (oU P σ l (.cons a es))) a0 fun x v p N=>by
 cases es with
 |nil=>
  obtain rfl:=yg N;refine M UM <|⟨fun z B K s F L j=>BoolOp_one ((o _ p).1 z B K s F L j),fun b E K s a1 a2 F L j=> ?_⟩
  cases l with
  |And=>
   refine isTrue_and (((o _ p).2 b E).then F L j fun i q f g h=> ?_);cases b with
   |true=>exact isTrue_and_nil ⟨rfl,i,f,g,h⟩|false=>exact⟨rfl,i,f,g,h⟩
  |Or=>
   refine isTrue_or (((o _ p).2 b E).then F L j fun i q f g h=> ?_);cases b with
   |true=>exact⟨rfl,i,f,g,h⟩|false=>exact isTrue_or_nil ⟨rfl,i,f,g,h⟩
 |cons G r=>
  have t:=Y l D v N;refine u7 (C:=fun v=>ju w A c tb m mu σ (.BoolOp l v D) (oU P σ l (.cons G r))→ju w A c tb m mu σ (.BoolOp l (x::v) D) (oU P σ l (.cons a (.cons G r)))) N (fun a5 v J J t=> ?_) t
  constructor
  ·intro z B K s F L j;refine cS (I3 B) fun y b H u k=> ?_;cases l with
   |And=>
    refine BoolOp_and (((o _ p).1 y H K s F L j).then fun i a3 q f g h C=>qZ u C fun tk=> ?_);cases b with
    |true=>exact dF.lift (s':={q with toks:=tk}) f h (t.1 z k i _ g.tok (L.mono f) (j.mono f))|false=>obtain rfl:y=z:=cB k;exact⟨i,f,g.tok,h,C⟩
   |Or=>
    refine BoolOp_or (((o _ p).1 y H K s F L j).then fun i a3 q f g h C=>qZ u C fun tk=> ?_);cases b with
    |true=>obtain rfl:y=z:=cB k;exact⟨i,f,g.tok,h,C⟩
    |false=>exact dF.lift (s':={q with toks:=tk}) f h (t.1 z k i _ g.tok (L.mono f) (j.mono f))
  ·intro W E K s a1 a2 F L j;refine aQ (dQ E) fun z B I=>cS (I3 B) fun y b H u k=> ?_;have X:(ev P σ a).bind truth=O b:=by refine M H ?_;exact u
   cases l with
   |And=>
    refine isTrue_and (((o _ p).2 b X).then F L j fun i q f g h=> ?_);cases b with
    |true=>exact(t.2 W (by have k:oU P σ _ (.cons G r)=O z:=k;refine M k ?_;exact I)).then g (L.mono f) (j.mono f) fun Q a4 R S T=>⟨rfl,Q,f.trans R,S,h.trans T⟩|false=>obtain rfl:y=z:=cB k;exact⟨cB (u.symm.trans I),i,f,g,h⟩
   |Or=>
    refine isTrue_or (((o _ p).2 b X).then F L j fun i q f g h=> ?_);cases b with
    |true=>obtain rfl:y=z:=cB k;exact⟨cB (u.symm.trans I),i,f,g,h⟩
    |false=>exact(t.2 W (by have k:oU P σ _ (.cons G r)=O z:=k;refine M k ?_;exact I)).then g (L.mono f) (j.mono f) fun Q a4 R S T=>⟨rfl,Q,f.trans R,S,h.trans T⟩
end
theorem JA{o:BoolOp}{es:Es}(f:rf w A c m mu sc tb σ P es):PE w A c m mu sc tb σ P (.bo o es):=fun l h=>BX h fun g i j h=>by obtain⟨h,k⟩:=aY h;obtain rfl:=jt h;exact f g j i k
theorem JB:rf w A c m mu sc tb σ P .nil:=fun i j k h=>⟨fun x f=>nn f,fun b g=>nn g⟩
theorem JC(Y:Hyp w A c sc tb P n):(∀e,PE w A c m mu sc tb σ P e)∧∀es,mx w A c m mu sc tb σ P es∧rf w A c m mu sc tb σ P es:=
 ⟨fun e=>E.rec (motive_1:=PE w A c m mu sc tb σ P) (motive_2:=fun es=>mx w A c m mu sc tb σ P es∧rf w A c m mu sc tb σ P es) (fun J=>I8 Y) (fun J=>I9 Y) (fun J=>Ja) (fun J=>Jb) (fun J=>Jc) Jd (fun J J J f i=>Jf Y f i) (fun J J f=>Jg f) (fun J J J f i=>Jh f i) (fun J J J J J f i j=>Jj f i j) (fun J J g=>JA g.2) (fun J J J j f i=>Jk j f i) (fun J J f i=>Jl f i) (fun J J J f i j=>Jn f i j) (fun J g=>Jo g.1) (fun J g=>Jp g.1) (fun J=>Jq) (fun J J g=>Jr Y g.1) (fun J J g=>Js Y g.1) (fun J g=>Jt Y g.1) (fun J f=>Jv Y f) (fun J J J f g=>Jw f g.1) (fun J J J J J J J J h=>absurd h cM) ⟨Jx,JB⟩ (fun J J f g=>⟨Jy f g.1,Jz f g.2⟩) e,fun es=>Es.rec (motive_1:=PE w A c m mu sc tb σ P) (motive_2:=fun es=>mx w A c m mu sc tb σ P es∧rf w A c m mu sc tb σ P es) (fun J=>I8 Y) (fun J=>I9 Y) (fun J=>Ja) (fun J=>Jb) (fun J=>Jc) Jd (fun J J J f i=>Jf Y f i) (fun J J f=>Jg f) (fun J J J f i=>Jh f i) (fun J J J J J f i j=>Jj f i j) (fun J J g=>JA g.2) (fun J J J j f i=>Jk j f i) (fun J J f i=>Jl f i) (fun J J J f i j=>Jn f i j) (fun J g=>Jo g.1) (fun J g=>Jp g.1) (fun J=>Jq) (fun J J g=>Jr Y g.1) (fun J J g=>Js Y g.1) (fun J g=>Jt Y g.1) (fun J f=>Jv Y f) (fun J J J f g=>Jw f g.1) (fun J J J J J J J J h=>absurd h cM) ⟨Jx,JB⟩ (fun J J f g=>⟨Jy f g.1,Jz f g.2⟩) es⟩
theorem cY(Y:Hyp w A c sc tb P n)(e:E)(f:Expr)(h:bC sc tb e f=aF):ju w A c tb m mu σ f (ev P σ e):=(JC Y).1 e f h
theorem va(Y:Hyp w A c sc tb P n)(es:Es)(f:aD Expr)(h:eL sc tb es f=aF):∀g,gC P σ es=O g→rb w A c tb m mu σ f g:=((JC Y).2 es).1 f h
end
end
section
open Classical
noncomputable def Sg.put(a:Sg)(i:aA)(p:PV):Sg:={a with loc:=a.loc.set i (O p)}
noncomputable def sW:aG PV→aG PV
 |some .bV=>aB|p=>p
noncomputable def Sg.fresh(a:Sg)(i:aA)(b:aD PV):Sg:={loc:=(a.loc.map sW).set i (O .bV),mu:=O b,pl:=aF}
noncomputable def nM(a:aD PV):aG PV→aG PV
 |some .bV=>O (.lst a)|p=>p
noncomputable def Sg.freeze(a:Sg)(b:aD PV):Sg:={loc:=a.loc.map (nM b),mu:=aB,pl:=aF}
noncomputable def jI(a:Sg)(i:aA):Bool:=match a.loc[i]? with
 |some (O .bV)=>aF| _=>aI
noncomputable def putAll:Sg→aD aA→aD PV→Sg
 |σ,i::a,x::b=>putAll (σ.put i x) a b|σ,_,_=>σ
noncomputable def JD(a b:Z):i9→aG PV
 | .Add=>O (.int (a+b))| .Sub=>O (.int (a - b))| .FloorDiv=>aZ (b≠0∧b.natAbs.log2 < 9000) (O (.int (a.fdiv b)))| .LShift=>aZ (0≤b∧(gZ a:Z)+b≤2^27) (O (.int (a*2^b.toNat)))| .RShift=>aZ (0≤b) (O (.int (a.fdiv (2^b.toNat))))| _=> .none
noncomputable def jW(o:i9)(x y:PV):aG PV:=match x with
 | .int a=>match y with
  | .int b=>JD a b o| _=> .none
 | .str a=>match y with
  | .str b=>match o with
   | .Add=>aZ ((a++b).length≤eF) (O (.str (a++b)))| _=> .none
  | _=> .none
 | _=> .none
noncomputable def gP(c:Sg→aG (Fl×Sg))(i:aA):aD PV→Sg→aG (Fl×Sg)
 |[],b=>O (.next,b)
 |x::r,b=>match c (b.put i x) with
  |some (.next,a)=>gP c i r a|some (.brk,a)=>O (.next,a)|some (.ret v,a)=>O (.ret v,a)| .none=> .none
noncomputable def kB(c:Sg→aG aU)(d:Sg→aG (Fl×Sg)):aA→Sg→aG (Fl×Sg)
 |0,_=> .none
 |n+1,b=>match c b with
  |some aF=>(match d b with
   |some (.next,a)=>kB c d n a|some (.brk,a)=>O (.next,a)|some (.ret v,a)=>O (.ret v,a)| .none=> .none)
  |some aI=>O (.next,b)| .none=> .none
noncomputable def jv:PV→aG PV
 | .bV=> .none|x=>O x
noncomputable def vb(b:Sg)(k:Z)(x:PV):aG (Fl×Sg):=b.mu.bind fun a=>aZ (0≤k∧k < a.length∧a.length≤1000000) (O (.next,{b with mu:=O (a.set k.toNat x),pl:=aI}))
noncomputable def vc(e:E):Bool:=e.ctorIdx==(E.lst .nil).ctorIdx ||e.ctorIdx==(E.lS .nil).ctorIdx ||e.ctorIdx==(E.oO .none).ctorIdx
mutual
noncomputable def ex(P:bT):S→Sg→aG (Fl×Sg)
 | .asg i e,c=>(ev P c e).bind fun x=>(jv x).map fun x=>(.next,c.put i x)
 | .mv i e,c=>if vc e then(match ev P c e with
  |some (.lst d)=>O (.next,c.fresh i d)| _=> .none) else .none
 | .jp h e,c=>match ev P c e with
  |some (.tup d)=>if d.length=h.length then O (.next,putAll c h d) else .none| _=> .none
 | .mW i j e f,c=>(ev P c e).bind fun x=>(ev P c f).bind fun y=>(jv x).bind fun x=>(jv y).map fun y=>(.next,(c.put j y).put i x)| .uU i j e,c=>(ev P c e).bind fun x=>(jv x).map fun x=>(.next,(c.put i x).put j x)
 | .aug i o e,c=>match c.loc[i]? with
  |some (O p)=>(ev P c e).bind fun y=>(jW o p y).map fun z=>(.next,c.put i z)| _=> .none
 | .oP i g e,c=>(ev P c e).bind fun x=>(jv x).bind fun x=>if jI c i then(match ev P c g with
  |some (.int k)=>vb c k x| _=> .none) else .none
 | .sM i g o e,c=>if jI c i then(match ev P c g with
  |some (.int k)=>(jq c.mu .bV (.int k)).bind fun p=>(ev P c e).bind fun y=>(jW o p y).bind fun z=>vb c k z| _=> .none) else .none
 | .app i e,c=>if jI c i && c.pl then(ev P c e).bind fun x=>(jv x).bind fun x=>c.mu.bind fun d=>aZ (d.length≤1000000) (O (.next,{c with mu:=O (d++[x])})) else .none
 | .ins i e1 e2,c=>if jI c i && c.pl then(ev P c e1).bind fun k=>(ev P c e2).bind fun x=>(jv x).bind fun x=>c.mu.bind fun d=>(match k with
  | .int k=>aZ (0≤k∧k≤1000∧d.length≤1000) (O (.next,{c with mu:=O (d.take k.toNat++x::d.drop k.toNat)}))| _=> .none) else .none
 | .uV i,c=>if jI c i && c.pl then c.mu.bind fun d=>aZ (d.length≤1000000) (O (.next,{c with mu:=O d.reverse})) else .none| .kV i,c=>if jI c i then c.mu.map fun d=>(.next,c.freeze d) else .none
 | .ite t a b,c=>match(ev P c t).bind truth with
  |some aF=>bE P a c|some aI=>bE P b c| .none=> .none
 | .oQ n t b,c=>kB (fun c=>(ev P c t).bind truth) (bE P b) n c
 | .forR i e b,c=>match ev P c e with
  |some (.int N)=>aZ (0≤N∧N≤1000000) (gP (bE P b) i ((mK N.toNat).map fun k=> .int (k:aA)) c)| _=> .none
 | .forL i l e b,c=>match ev P c e with
  |some (.lst d)=>aZ (d.length≤1000000) (gP (bE P b) i (if l then d.reverse else d) c)| _=> .none
 | .ret e,c=>(ev P c e).bind fun x=>match x with
  | .bV=>c.mu.map fun d=>(.ret (.lst d),c)|x=>O (.ret x,c)
 | .brk,c=>O (.brk,c)| .bad,_=> .none
termination_by structural s=>s
noncomputable def bE(P:bT):B→Sg→aG (Fl×Sg)
 | .nil,c=>O (.next,c)
 | .cons s b,c=>match ex P s c with
  |some (.next,a)=>bE P b a|some (.brk,a)=>O (.brk,a)|some (.ret v,a)=>O (.ret v,a)| .none=> .none
termination_by structural b=>b
end
noncomputable def okN(a:Tb)(i:aA)(x:Str):Bool:=a[i]? ==O (x,aF)
noncomputable def m0(b:Tb):aD aA→aD Expr→aU
 |[],a=>a.isEmpty|i::c,a=>a.rec aI fun t a J=>jU t fun x J=>okN b i x && m0 b c a
noncomputable def JE(e:Expr):Bool:=e.ctorIdx==25
noncomputable def rg(st:bR)(f:(aD Expr)→Expr→bG→aU):Bool:=if h:st.ctorIdx=5 then GG st h f else aI
@[elab_as_elim] theorem sX{st:bR}{f:(aD Expr)→Expr→bG→aU}{C:bR→Prop}(h:rg st f=aF)(c:∀a v p,f a v p=aF→C (.Assign a v p)):C st:=
 xe (dite_true h) fun b h=>GG (motive_2:=fun st=>∀b,GG st b f=aF→C st) st b (fun a v p J h=>c a v p h) b h
noncomputable def Cc(st:bR)(f:Expr→i9→Expr→bG→aU):Bool:=if h:st.ctorIdx=7 then Ru st h f else aI
@[elab_as_elim] theorem JF{st:bR}{f:Expr→i9→Expr→bG→aU}{C:bR→Prop}(h:Cc st f=aF)(b:∀t o v p,f t o v p=aF→C (.AugAssign t o v p)):C st:=
 xe (dite_true h) fun a h=>Ru (motive_2:=fun st=>∀a,Ru st a f=aF→C st) st a (fun t o v p J h=>b t o v p h) a h
noncomputable def yj(st:bR)(f:Expr→bG→aU):Bool:=if h:st.ctorIdx=24 then Rv st h f else aI
@[elab_as_elim] theorem Cd{st:bR}{f:Expr→bG→aU}{C:bR→Prop}(h:yj st f=aF)(b:∀v p,f v p=aF→C (.Expr v p)):C st:=
 xe (dite_true h) fun a h=>Rv (motive_2:=fun st=>∀a,Rv st a f=aF→C st) st a (fun v p J h=>b v p h) a h
noncomputable def JG(st:bR)(f:Expr→(aD bR)→(aD bR)→bG→aU):Bool:=if h:st.ctorIdx=12 then Rw st h f else aI
@[elab_as_elim] theorem UN{st:bR}{f:Expr→(aD bR)→(aD bR)→bG→aU}{C:bR→Prop}(h:JG st f=aF)(d:∀t a b p,f t a b p=aF→C (.If t a b p)):C st:=
 xe (dite_true h) fun c h=>Rw (motive_2:=fun st=>∀c,Rw st c f=aF→C st) st c (fun t a b p J h=>d t a b p h) c h
noncomputable def JH(st:bR)(f:Expr→(aD bR)→(aD bR)→bG→aU):Bool:=if h:st.ctorIdx=11 then Rx st h f else aI
@[elab_as_elim] theorem UO{st:bR}{f:Expr→(aD bR)→(aD bR)→bG→aU}{C:bR→Prop}(h:JH st f=aF)(d:∀t a b p,f t a b p=aF→C (.While t a b p)):C st:=
 xe (dite_true h) fun c h=>Rx (motive_2:=fun st=>∀c,Rx st c f=aF→C st) st c (fun t a b p J h=>d t a b p h) c h
noncomputable def Ce(st:bR)(f:Expr→Expr→(aD bR)→(aD bR)→bG→aU):Bool:=if h:st.ctorIdx=9 then Ry st h f else aI
@[elab_as_elim] theorem JI{st:bR}{f:Expr→Expr→(aD bR)→(aD bR)→bG→aU}{C:bR→Prop}(h:Ce st f=aF)(d:∀t i a b p,f t i a b p=aF→C (.For t i a b p)):C st:=
 xe (dite_true h) fun c h=>Ry (motive_2:=fun st=>∀c,Ry st c f=aF→C st) st c (fun t i a b p J h=>d t i a b p h) c h
noncomputable def JJ(st:bR)(f:(aG Expr)→bG→aU):Bool:=if h:st.ctorIdx=3 then Rz st h f else aI
@[elab_as_elim] theorem UP{st:bR}{f:(aG Expr)→bG→aU}{C:bR→Prop}(h:JJ st f=aF)(b:∀v p,f v p=aF→C (.Return v p)):C st:=
 xe (dite_true h) fun a h=>Rz (motive_2:=fun st=>∀a,Rz st a f=aF→C st) st a (fun v p J h=>b v p h) a h
noncomputable def JK(st:bR)(f:bG→aU):Bool:=if h:st.ctorIdx=26 then RA st h f else aI
@[elab_as_elim] theorem UQ{st:bR}{f:bG→aU}{C:bR→Prop}(h:JK st f=aF)(b:∀p,f p=aF→C (.Break p)):C st:=
 xe (dite_true h) fun a h=>RA (motive_2:=fun st=>∀a,RA st a f=aF→C st) st a (fun p J h=>b p h) a h
noncomputable def yk(a:Tb)(i:aA)(b:eA)(e:Expr)(f:aD Expr→aU):Bool:=yc e fun g args c d=>c.isEmpty && B0 g fun o name h=>jU o fun x J=>okN a i x && (name==aH b) && (h.endLine==d.line) && f args
@[elab_as_elim] theorem Cf{j:Tb}{i:aA}{k:eA}{e:Expr}{f:aD Expr→aU}{C:Expr→Prop}(h:yk j i k e f=aF)(l:∀x p b args a,okN j i x=aF→(b.endLine==a.line)=aF→f args=aF→C (.Call (.Attribute (.Name x p) (aH k) b) args [] a)):C e:=
 u6 h fun g args q a h=>by refine xa (aY h) fun c d=> ?_;obtain rfl:=kA c;refine B1 (C:=fun g=>C (.Call g args [] a)) d fun o name b h=>jf (C:=fun o=>C (.Call (.Attribute o name b) args [] a)) h fun x p h=>xa (aY h) fun h m=>xa (aY h) fun h n=>xa (aY h) fun c d=> ?_;obtain rfl:=q9 d;exact l x p b args a c n m
noncomputable def yl(s:S):Bool:=s.ctorIdx==(S.kV 0).ctorIdx
mutual
noncomputable def j'(g:dO)(d:Tb):S→bR→aU
 | .asg i e,st=>rg st fun h v J=>kY h fun t=>jU t fun x J=>okN d i x && bC g d e v| .mv i e,st=>rg st fun h v J=>kY h fun t=>jU t fun x J=>okN d i x && bC g d e v && vc e| .jp B e,st=>rg st fun h v J=>kY h fun t=>u5 t fun m J J=>m0 d B m && bC g d e v && !JE v
 | .mW i j e f,st=>rg st fun h v J=>kY h fun t=>u5 t fun m J J=>q8 m fun n r=>jU n fun x p=>jU r fun y q=>u5 v fun C J J=>q8 C fun a b=>
   okN d i x && okN d j y && bC g d e a && bC g d f b && !(x==y) && (p.line==q.line) && !(AR 8 a) && !(AS 8 a)
 | .uU i j e,st=>rg st fun h v J=>q8 h fun n r=>jU n fun x J=>jU r fun y J=>okN d i x && okN d j y && bC g d e v| .aug i o e,st=>Cc st fun t s v J=>jU t fun x J=>okN d i x && decide (s=o) && bC g d e v| .oP i w e,st=>rg st fun h v J=>kY h fun t=>u4 t fun b z J=>jU b fun x J=>okN d i x && bC g d w z && bC g d e v| .sM i w o e,st=>Cc st fun t s v J=>u4 t fun b z J=>jU b fun x J=>okN d i x && bC g d w z && decide (s=o) && bC g d e v| .app i e,st=>yj st fun c J=>yk d i "append" c fun args=>kY args fun v=>bC g d e v| .ins i e f,st=>yj st fun c J=>yk d i "insert" c fun args=>q8 args fun u v=>bC g d e u && bC g d f v| .uV i,st=>yj st fun c J=>yk d i "reverse" c fun args=>args.isEmpty| .kV _,_=>aI| .ite t a b,st=>JG st fun A D k J=>bC g d t A && dY g d a D && dY g d b k| .oQ _ t b,st=>JH st fun A k o J=>o.isEmpty && bC g d t A && dY g d b k| .forR i e b,st=>Ce st fun t l k o J=>o.isEmpty && jU t fun x J=>qd l fun y args=>kY args fun a=>okN d i x && (y==("range":Str)) && js g y && bC g d e a && dY g d b k| .forL i E e b,st=>Ce st fun t l k o J=>o.isEmpty && jU t fun x J=>okN d i x && dY g d b k && (E.rec (bC g d e l) (qd l fun y args=>kY args fun a=>(y==("reversed":Str)) && js g y && bC g d e a))| .ret e,st=>JJ st fun v J=>B4 v fun v=>bC g d e v| .brk,st=>JK st fun J=>aF| .bad,_=>aF
termination_by structural s=>s
noncomputable def dY(c:dO)(d:Tb):B→aD bR→aU
 | .nil,a=>a.isEmpty| .cons s b,a=>(yl s).rec (a.rec aI fun st r J=>j' c d s st && dY c d b r) (dY c d b a)
termination_by structural b=>b
end
theorem ym{b:Type}{o:aG (Fl×Sg)}{f g:Sg→aG b}{h:PV→Sg→aG b}{z:b}(e:(match o with
  |some (.next,a)=>f a|some (.brk,a)=>g a|some (.ret v,a)=>h v a| .none=> .none)=O z):(∃a,o=O (.next,a)∧f a=O z)∨(∃a,o=O (.brk,a)∧g a=O z)∨∃v a,o=O (.ret v,a)∧h v a=O z:=by
 cases o with
 |none=>exact nn e
 |some p=>
  obtain⟨c,a⟩:=p;cases c with
  |next=>exact .inl ⟨a,rfl,e⟩|brk=>exact .inr (.inl ⟨a,rfl,e⟩)|ret v=>exact .inr (.inr ⟨v,a,rfl,e⟩)
theorem JL{b:Type}{o:aG PV}{f:aD PV→aG b}{z:b}(h:(match o with
  |some (.lst a)=>f a| _=> .none)=O z):∃a,o=O (.lst a)∧f a=O z:=by
 cases o with
 |none=>exact nn h
 |some p=>cases p with
  |lst a=>exact⟨a,rfl,h⟩| _=>exact nn h
theorem UR{b:Type}{o:aG PV}{f:aD PV→aG b}{z:b}(h:(match o with
  |some (.tup a)=>f a| _=> .none)=O z):∃a,o=O (.tup a)∧f a=O z:=by
 cases o with
 |none=>exact nn h
 |some p=>cases p with
  |tup a=>exact⟨a,rfl,h⟩| _=>exact nn h
theorem Cg{a:Type}{o:aG PV}{f:Z→aG a}{z:a}(h:(match o with
  |some (.int k)=>f k| _=> .none)=O z):∃k,o=O (.int k)∧f k=O z:=by
 cases o with
 |none=>exact nn h
 |some p=>cases p with
  |int k=>exact⟨k,rfl,h⟩| _=>exact nn h
theorem US{a:Type}{o:aG (aG PV)}{f:PV→aG a}{z:a}(h:(match o with
  |some (O p)=>f p| _=> .none)=O z):∃p,o=O (O p)∧f p=O z:=by
 cases o with
 |none=>exact nn h
 |some p=>cases p with
  |some p=>exact⟨p,rfl,h⟩|none=>exact nn h
theorem rh{a:Type}{b:aU}{o:aG a}{z:a}(h:(if b then o else aB)=O z):b=aF∧o=O z:=by
 cases b with
 |true=>exact⟨rfl,h⟩|false=>exact nn h
end
section
section
variable{K:PK}
noncomputable def Mu.Fl(c:Mu)(d:aU):Prop:=∀a e b,c=O (a,e,b)→d=aF→b=aF
structure Gd(w:aV)(c:Cx)(tb:Tb)(K:PK)(m:Str→aG aJ)(mu:Mu)(s:aM)(σ:Sg):Prop where
 F:Fm c K m mu s
 L:RL w K c.env mu.ad tb m σ.loc
 Mi:Mu.Is w K mu σ.mu
 fl:mu.Fl σ.pl
noncomputable def hL(b c:Mu)(h:bF):Prop:=∀a,c.ad=O a→b.ad=O a∨h.get? a=aB
noncomputable def Ch(w:aV)(c:Cx)(g:Tb)(f:j5)(b:aM)(h:Sg)(a:PK)(d:Str→aG aJ)(e:Mu):Fl→Prop
 | .next=>f= .next∧Gd w c g a d e b h
 | .brk=>f= .brk∧Gd w c g a d e b h| .ret x=>∃v,f= .ret v∧Fm c a d e b∧RV w a aB v x
inductive Out(w:aV)(c:Cx)(tb:Tb)(K:PK)(mu:Mu)(h:bF)(f:j5)(s':aM)(fl:Fl)(σ':Sg):Prop
 |mk (K':PK) (m':Str→aG aJ) (my:Mu) (k:PK.le K K') (b:KB c mu h s'.heap) (ms:hL mu my h) (x:Ch w c tb f s' σ' K' m' my fl):Out w c tb K mu h f s' fl σ'
theorem KB.step(a:KB c d h j)(k:hL d l h)(b:KB c l j m):KB c d h m:=fun x o e f g i=>
 b x o (a x o e f g i) f (fun q=>by
  rcases k x q with z |z
  ·exact g z
  ·replace e:=z▸e;cases e) i
theorem hL.step{g k:aM} {l m} (a:KB c b h g.heap)(n:hL b r h)(s:hL r d g.heap)(f:Fm c l m d k):hL b d h:=fun x q=>by
 rcases s x q with z |z
 ·exact n x z
 ·by_cases i:b.ad=O x
  ·exact .inl i
  ·refine .inr ?_;cases e:h.get? x with
   |none=>rfl
   |some o=>
    have j:x≠c.env.locals∧Off c.T x:=by
     cases d with
     |none=>cases q|some p=>cases q;exact⟨(f.mul p.1 p.2.1 p.2.2 V).2.2.1,f.off (f.mul p.1 p.2.1 p.2.2 V).2.2.2⟩
    replace z:=(a x o e j.1 i j.2)▸z;cases z
theorem hL.refl:hL a a h:=fun J e=> .inl e
theorem Ch.fm(x:Ch w c h f a i b d e g):Fm c b d e a:=by
 cases g with
 |next=>exact x.2.F|brk=>exact x.2.F|ret v=>(refine dB (x) ?_;try clear x;rintro u _ F _);exact F
theorem Out.after{s1 e:aM}(k:PK.le K l)(g:KB c i h s1.heap)(j:hL i m h)(o:Out w c n l m s1.heap f e p q):Out w c n K i h f e p q:=by obtain⟨r,s,t,a,b,d,x⟩:=o;exact .mk r s t (k.trans a) (g.step j b) (hL.step g j d x.fm) x
noncomputable abbrev sZ(w:aV)(A:bX)(c:Cx)(a:Tb)(d:Sg)(t:cR j5)(e:Fl)(g:Sg):Prop:=
 ∀(K:PK) (m:Str→aG aJ) (b:Mu) (s:aM),Gd w c a K m b s d→aN (aO pg w) A t (fun f h=>Out w c a K b s.heap f h e g) (fun J J=>bO) s
theorem JM{c:Cx}{e:dO}{a:Tb}{i j:aA}{x y:Str}{k:aU}(H:fF c e a)(f:a[i]? =O (x,aF))(g:a[j]? =O (y,k))(h:i≠j):y≠x:=fun l=>by
 have b:=H.sU;unfold je at b;simp only[hG,lL] at b;have d:(a.map (·.1))[i]? =O y:=by refine M im (M f (M l ?_));rfl
 have m:(a.map (·.1))[j]? =O y:=by refine M im (M g ?_);rfl
 exact h (List.getElem?_inj (md.mp d).1 b.2 |>.mp (d.trans m.symm))
theorem Gd.put{w:aV}{c:Cx}{m:Str→aG aJ}{g:Mu}{s:aM}{E:dO}{h:Tb}{l:Sg}{i:aA}{x:Str}{v:aJ}{p:PV}{r:bF}{tk:aA}(G:Gd w c h K m g s l)(H:fF c E h)(u:okN h i x=aF)(I:RV w K g.ad v p)(L:r.Ns c.env.locals (fun y=>if y=x then O v else m y))(f:iM c.env.locals s.heap r):
  Gd w c h K (fun y=>if y=x then O v else m y) g {s with heap:=r,toks:=tk} (l.put i p)∧KB c g s.heap r:=by
 have u:h[i]? =O (x,aF):=beq_iff_eq.mp u;have N:KB c g s.heap r:=fun b o e P J J=>(f.2 b P).trans e;refine⟨⟨?_,?_,G.Mi,G.fl⟩,N⟩
 ·have F:=G.F
  refine{ns:=L,keep:=fun b o e=>(f.2 b ?_).trans (F.keep b o e),dJ:=F.dJ,low:=F.low,le:=F.le,cU:=fun b o n e=>(f.2 b ?_).trans (F.cU b o n e),new:=F.new,cX:=F.cX,mul:=fun a Q R e=> ?_,gens:=F.gens,os:=F.os,base:=F.base,dP:=F.dP,eX:=F.eX,tabs:=fun t D=>(F.tabs t D).mono (fun J J e=>e) fun o e=>(f.2 _ (F.off F.cX t D)).trans e}
  ·intro z;rw[z,F.dJ] at e;exact nn e
  ·intro z;rw[z,F.cX] at e;exact nn e
  ·(refine dX (F.mul a Q R e) ?_;rintro⟨S,T⟩ U A W);exact⟨⟨(aQ S fun o X Y=>⟨o,(f.2 a A).trans X,Y⟩),fun q=>(T q).at fun J e=>(f.2 a A).trans e⟩,U,A,W⟩
 ·intro j y k q B d
  by_cases C:i=j
  ·subst C;obtain⟨rfl,rfl⟩:=qO (cB (u.symm.trans B))
   have a0:i < l.loc.length:=by refine aT (GP (i:=i) (a:=O p)) ?_;exact(md.mp d).1
   have d:(l.loc.set i (O p))[i]? =O (O q):=d;rw[ae7 a0] at d;exact aT (cB (cB d)) <|⟨v,aS V,I⟩
  ·have d:(l.loc.set i (O p))[j]? =O (O q):=d;rw[ae8 C] at d;have:=G.L j y k q B d;cases k with
   |false=>exact this
   |true=>
    (refine aQ (this) ?_;try clear this;rintro a1 e a2);exact⟨a1,(aP (JM H u B C)).trans e,a2⟩
theorem name_kind(H:fF c d a)(b:okN a i x=aF):c.env.kindOf x=O .local:=(H.at (beq_iff_eq.mp b)).2.1 rfl
theorem vd(H:fF c a b):(c.env.scope.kind== .class ||(c.env.scope.kind== .module && c.env.locals !=c.env.globals))=false:=by refine M H.kind ?_;rfl
theorem kC{E:aJ→aM→Prop}(G:Gd w c a K m b s f)(H:fF c n a)(e:okN a i x=aF)(j:RV w K b.ad v p)
  (h:∀d,Gd w c a K (fun y=>if y=x then O v else m y) b d (f.put i p)→KB c b s.heap d.heap→Q () d):aN (aO pg w) A (RB c.env x v) Q E s:=
 uz (name_kind H e) G.F.ns (fun o k l=>have g:=G.put (tk:=s.toks+1) H e j k l;h _ g.1 g.2) (vd H)
theorem Gd.of(G:Gd w c d K m a s e)(k:PK.le K b)(F:Fm c b m a f):Gd w c d b m a f e:=⟨F,G.L.mono k,G.Mi.mono k,G.fl⟩
theorem UT{a:Expr}(h:ra a=aF)(t:aG Expr)(b:aA)(c:gK):uA a t b c=pure false:=by
 cases a with
 |ListComp=>exact absurd h cM|SetComp=>exact absurd h cM|DictComp=>exact absurd h cM| _=>rfl
theorem qh{a:Expr}(h:bC d f e a=aF)(t:aG Expr)(b:aA)(c:gK):uA a t b c=pure false:=UT (qf h) t b c
theorem ri(h:jv x=O y):x=y∧x≠ .bV:=by
 cases x with
 |bV=>exact nn h| _=>exact⟨cB h,fun e=>(by contradiction)⟩
theorem UU(F:Fm c K m d s)(p:(a++b).length≤eF):dF w A c K m d (GQ .Add (.str a t) (.str b u)) (.str (a++b)) s:=by
 refine PySem.P.iadd_str ?_
 split
 ·rename_i e;refine M (IA (beq_iff_eq.mp e)) ?_;exact fS F .str
 ·split
  ·rename_i e;refine M (IB (beq_iff_eq.mp e)) ?_;exact fS F .str
  ·exact⟨p,eE F .str⟩
theorem UV(F:Fm c K m d s)(o:i9):fN w A c K m d (GQ o (.int a t) (.int b u)) (JD a b o) s:=by
 cases o with
 |Add=>exact .some (PySem.P.iadd_int (eE F .int))|Sub=>exact .some (PySem.P.isub_int (eE F .int))|FloorDiv=>exact .aZ fun p=> .some (ifloordiv_int p.1 (eE F .int) (.inl (Q4 p.2)))|LShift=>exact .aZ fun p=> .some (ilshift_int p.1 p.2 (eE F .int))|RShift=>exact .aZ fun p=> .some (irshift_int p (eE F .int))| _=>exact .none
theorem UW(F:Fm c K m a s)(b:RV w K a.ad v x)(d:RV w K a.ad u y):fN w A c K m a (GQ o v u) (jW o x y) s:=by
 cases x with
 |int=>
  (refine xe b.int_inv ?_;rintro t rfl);cases y with
  |int=>(refine xe d.int_inv ?_;rintro e rfl);exact UV F o| _=>exact .none
 |str=>
  (refine xe b.str_inv ?_;rintro t rfl);cases y with
  |str=>
   (refine xe d.str_inv ?_;rintro e rfl);cases o with
   |Add=>exact .aZ fun p=> .some (UU F p)| _=>exact .none
  | _=>exact .none
 | _=>exact .none
theorem JN(h:jW o x y=O z)(F:Fm c K m a s)(b:RV w K a.ad v x)(d:RV w K a.ad u y):
  dF w A c K m a (GQ o v u) z s:=UW F b d z h
end
end
section
section
variable{K:PK}
theorem JO(h:jI σ i=aF):σ.loc[i]? =O (O .bV):=by
 have h:(match σ.loc[i]? with |some (O .bV)=>aF | _=>aI)=true:=h;cases e:σ.loc[i]? with
 |none=>replace h:=e▸h;exact absurd h cM
 |some o=>cases o with
  |none=>replace h:=e▸h;exact absurd h cM
  |some p=>replace h:=e▸h;cases p with
   |bV=>rfl| _=>exact absurd h cM
theorem ve(h:Mu.Is w K c o)(e:o=O x):∃a b d,c=O (a,b,d)∧bL w K b x:=by
 cases h with
 |none=>cases e|some h=>cases e;exact⟨_,_,_,rfl,h⟩
theorem Gd.yn{w:aV}{c:Cx}{m:Str→aG aJ}{mu:Mu}{s:aM}{i:Tb}{j:Sg}{a:aW}{k its':aD aJ}{l qi ta:aU}{xs':aD PV}{d:bF}{tk:aA}(G:Gd w c i K m mu s j)(v:mu=O (a,k,l))(x:d.IsList a its'.toArray)(y:qi=aF→d.PlainList a its'.toArray)(p:iM a s.heap d)(z:bL w K its' xs')(A:ta=aF→qi=aF):
  Gd w c i K m (O (a,its',qi)) {s with heap:=d,toks:=tk} {j with mu:=O xs',pl:=ta}∧KB c mu s.heap d∧hL mu (O (a,its',qi)) s.heap:=by
 subst v;have F:=G.F;refine dX (F.mul a k l V) fun J q r f=>⟨⟨?_,G.L,.some z,fun J J J e h=>by cases e;exact A h⟩,fun b o e J B J=>(p.2 b fun C=>B (C▸rfl)).trans e,fun J e=> .inl e⟩;have keep:∀b o,s.heap.get? b=O o→b≠a→d.get? b=O o:=fun b o e n=>(p.2 b n).trans e
 refine{ns:= ?_,keep:=fun b o e=>keep b o (F.keep b o e) ?_,dJ:=F.dJ,low:=F.low,le:=F.le,cU:=fun b o n e=>keep b o (F.cU b o n e) ?_,new:=F.new,cX:=F.cX,mul:=fun L N P e=> ?_,gens:=F.gens,os:=F.os,base:=F.base,dP:=F.dP,eX:=F.eX,tabs:=fun t u=>(F.tabs t u).mono (fun J J e=>e) fun o e=>keep _ _ e (F.off f t u)}
 ·exact eQ (F.ns) fun o D E H I=>⟨o,D,E,keep _ _ H (Ne.symm r),I⟩
 ·intro g;rw[g,q] at e;exact nn e
 ·intro g;rw[g,f] at e;exact nn e
 ·cases e;exact⟨⟨x,y⟩,q,r,f⟩
theorem jw(k:PK.le K a)(b:KB c d h e.heap)(f:hL d my h)(G:Gd w c g a i my e j):Out w c g K d h .next e .next j:=
 ⟨a,i,my,k,b,f,rfl,G⟩
theorem bL.set{K:PK}(j:aA)(h:bL w K c d)(e:RV w K .none v x):bL w K (c.set j v) (d.set j x):=
 bL.ind (C:=fun c d=>∀j,bL w K (c.set j v) (d.set j x)) (fun J=> .nil) (fun J J J J a b ih j=>by cases j with
  |zero=>exact .cons e b|succ j=>exact .cons a (ih j)) h j
theorem bL.rev{K:PK}(h:bL w K b c):bL w K b.reverse c.reverse:=
 bL.ind (C:=fun b c=>bL w K b.reverse c.reverse) .nil (fun J J J J a J ih=>by refine M ae9 (M ae9 ?_);exact ih.append (.cons a .nil)) h
theorem JP{w:aV}{A:bX}{c:Cx}{m:Str→aG aJ}{d:Mu}{s:aM}{p:Tb}{q:Sg}{k:Z}{t:hA}{x:PV}{v:aJ}{r:Fl}{u:Sg}{a:aW}{h₀:bF}{y:PK}{i:Mu}(h:vb q k x=O (r,u))(G:Gd w c p K m d s q)(j:d.ad=O a)(C:RV w K .none v x)(D:PK.le y K)(E:KB c i h₀ s.heap)(F:hL i d h₀):
  aN (aO pg w) A (setItem (.ref a) (.int k t) v) (fun J H=>Out w c p y i h₀ .next H r u) (fun J J=>bO) s:=by
 refine aQ (dQ h) fun U I l=> ?_;obtain⟨⟨L,N,P⟩,l⟩:=i0 l;cases l;refine eQ (ve G.Mi I) fun Q z f n B=> ?_;have:Q=a:=by replace j:=n▸j;cases j;rfl
 subst this;have W:=B.length;(refine xa (G.F.mul _ _ _ n) ?_;rintro⟨g,_⟩ _);refine ae' g L (dD N (cL (cT.mpr P) (by decide))) (by refine M kP ?_;omega) fun X o R=> ?_;have e:z.toArray.setIfInBounds k.toNat v=(z.set k.toNat v).toArray:=by simp
 replace o:=e▸o;exact iH (G.yn (tk:=s.toks) (qi:=aI) (ta:=aI) n o (fun e=>by cases e) R (B.set k.toNat C) (fun e=>by cases e)) fun S b T=>Out.after D E F (jw (.refl K) b T S)
theorem UX(h:jq d.mu .bV (.int k)=O p)(G:Gd w c f K m b s d)(e:b.ad=O a):dF w A c K m b (oA (.ref a) (.int k t)) p s:=
 IE h G.F G.Mi (by refine M e ?_;exact .bV) .int
theorem Gd.other(G:Gd w c p K m i s r)(u:K I=aB)(v:I≠c.env.locals)(x:i.ad≠O I)(j:c.hE.get? I=aB)(d:∀b o,b≠I→s.heap.get? b=O o→h'.get? b=O o):Gd w c p K m i {s with heap:=h',toks:=tk} r:=by
 have F:=G.F;refine⟨{ns:= ?_,keep:=fun b o e=>d b o ?_ (F.keep b o e),dJ:=F.dJ,low:=F.low,le:=F.le,cU:=fun b o n e=>d b o ?_ (F.cU b o n e),new:=F.new,cX:=F.cX,mul:=fun a y z e=> ?_,gens:=F.gens,os:=F.os,base:=F.base,dP:=F.dP,eX:=F.eX,tabs:=fun t k=>(F.tabs t k).mono (fun J J e=>e) fun o e=>d _ _ (F.off j t k) e},G.L,G.Mi,G.fl⟩
 ·exact eQ (F.ns) fun o A B f g=>⟨o,A,B,d _ _ (Ne.symm v) f,g⟩
 ·intro h;rw[h,u] at e;exact nn e
 ·intro h;rw[h,j] at e;exact nn e
 ·(refine dX (F.mul a y z e) ?_;rintro⟨f,C⟩ g D E);have l:a≠I:=fun q=>x (by refine M e (aT q ?_);rfl);exact⟨⟨(aQ f fun o H L=>⟨o,d _ _ l H,L⟩),fun q=>(C q).at fun J=>d _ _ l⟩,g,D,E⟩
noncomputable def cut(h:bF)(a:aW):bF:=h.update a fun o=>{o with data:= .freed}
theorem oX(n:b≠a):(cut h a).get? b=h.get? b:=GR _ _ (Ne.symm n)
theorem tc:(cut h a).get? a=none:=by obtain⟨b,l⟩:=h;unfold cut Heap.update Heap.get?;refine M Array.getElem?_modify (M (aS V) ?_);cases b[a]? <;>rfl
noncomputable def yo(h:bF):aG aW→bF
 |none=>h|some a=>cut h a
theorem JQ(n:o≠O b):(yo h o).get? b=h.get? b:=by
 cases o with
 |none=>rfl|some a=>exact oX fun e=>n (e▸rfl)
theorem UY(n:o=O b):(yo h o).get? b=none:=by subst n;exact tc
noncomputable def Cx.here(c:Cx)(K:PK)(a:Mu)(h:bF):Cx:={c with fH:=K,hE:=yo (cut h c.env.locals) a.ad}
theorem rj{c:Cx}{a:Mu}{b:aW}{h:bF}(d:b≠c.env.locals)(e:a.ad≠O b):(c.here K a h).hE.get? b=h.get? b:=(JQ e).trans (oX d)
theorem Ci{c:Cx}{a:Mu}{b:aW}{o:Obj}{h:bF}(e:(c.here K a h).hE.get? b=O o):b≠c.env.locals∧a.ad≠O b∧h.get? b=O o:=by
 have e:(yo (cut h c.env.locals) a.ad).get? b=O o:=e;have d:a.ad≠O b:=fun q=>by rw[UY q] at e;cases e
 rw[JQ d] at e;have f:b≠c.env.locals:=fun q=>by rw[q,tc] at e;exact nn e
 rw[oX f] at e;exact⟨f,d,e⟩
theorem Gd.here{w:aV}{c:Cx}{m:Str→aG aJ}{d:Mu}{s:aM}{f:Tb}{g:Sg}(G:Gd w c f K m d s g):Gd w (c.here K d s.heap) f K m d s g:=by
 have F:=G.F;refine⟨{ns:=F.ns,keep:=F.keep,dJ:=F.dJ,low:=fun b o e=>F.le _ _ (F.low b o e),le:= .refl K,cU:=fun b o J e=>(Ci e).2.2,new:=fun b o e=> .inl e,cX:= ?_,mul:=fun a i j e=> ?_,gens:=F.gens,os:=F.os,base:=F.base,dP:=F.dP,eX:=fun t h=> ?_,tabs:=F.tabs},G.L,G.Mi,G.fl⟩
 ·cases e:(c.here K d s.heap).hE.get? c.env.locals with
  |none=>exact e|some o=>exact absurd rfl (Ci e).1
 ·refine dX (F.mul a i j e) fun k l n J=>⟨k,l,n,?_⟩;cases p:(c.here K d s.heap).hE.get? a with
  |none=>rfl|some o=>exact absurd (by refine M e ?_;rfl) (Ci p).2.1
 ·obtain⟨q,r⟩:=F.TX h;obtain⟨o,e⟩:=(F.tabs t h).some;exact⟨o,(rj q r).trans e⟩
theorem Fm.back{c:Cx}{m:Str→aG aJ}{f:Mu}{s:aM}{h:PK}{i:Str→aG aJ}{j:Mu}{g:aM}(F:Fm c K m f s)(d:Fm (c.here K f s.heap) h i j g)(l:KB c f s.heap g.heap):Fm c h i j g:=by
 have k:∀b,(c.here K f s.heap).hE.get? b=aB→c.hE.get? b=none:=fun b e=>by
  cases q:c.hE.get? b with
  |none=>rfl
  |some o=>
   have r:b≠c.env.locals:=fun z=>by(replace q:=z▸q;replace q:=F.cX▸q);exact nn q
   have t:f.ad≠O b:=fun z=>by
    cases f with
    |none=>cases z|some p=>cases z;replace q:=((F.mul p.1 p.2.1 p.2.2 V).2.2.2)▸q;exact nn q
   refine xe (F.there q) fun D u=> ?_;(replace e:=(rj r t)▸e;replace e:=u▸e);cases e
 refine{ns:=d.ns,keep:=d.keep,dJ:=d.dJ,low:=F.low,le:=F.le.trans d.le,cU:=fun b o n e=>l b o (F.cU b o n e) ?_ ?_ n,new:=fun b o e=>(d.new b o e).elim (F.new b o) fun z=> .inr (k b z),cX:=F.cX,mul:=fun a v w e=> ?_,gens:=d.gens,os:=d.os,base:=F.base,dP:=d.dP,eX:=F.eX,tabs:=d.tabs}
 ·intro x;(replace e:=x▸e;replace e:=F.cX▸e);exact nn e
 ·intro z;cases f with
  |none=>cases z|some p=>cases z;replace e:=((F.mul p.1 p.2.1 p.2.2 V).2.2.2)▸e;exact nn e
 ·exact dX (d.mul a v w e) fun y A B C=>⟨y,A,B,k a C⟩
inductive JR(w:aV)(c:Cx)(tb:Tb)(K:PK)(mu:Mu)(hs:bF)(I:aW)(St:aA→bF→Prop)(xs:aD PV)(bp:Sg→aG (Fl×Sg))(i:aA)(z:aG (Fl×Sg))(left:aA)(s1:aM):Prop
 |mk (K1:PK) (m1:Str→aG aJ) (gQ:Mu) (eJ:Sg) (k1:PK.le K K1) (kb:KB c mu hs s1.heap) (ms:hL mu gQ hs) (hM:gQ.ad≠O I) (hK:K1 I=aB) (G:Gd w c tb K1 m1 gQ s1 eJ) (hle:left≤xs.length) (hS:St (xs.length - left) s1.heap) (hx:gP bp i (xs.drop (xs.length - left)) eJ=z):
   JR w c tb K mu hs I St xs bp i z left s1
theorem Cj{c:uv}{A:bX}{b:Type}{t:cR b}{Q:b→aM→Prop}{E:aJ→aM→Prop}{s:aM}(h:∀(d:b→aM→Prop) (e:aJ→aM→Prop),(∀a s,Q a s→d a s)→aN c A t d e s):aN c A t Q E s:=h Q E fun J J h=>h
theorem UZ{c:uv}{A:bX}{b:Type}{t:cR b}{Q:b→aM→Prop}{E:aJ→aM→Prop}{s:aM}(h:∀d:b→aM→Prop,(∀a s,Q a s→d a s)→aN c A t d E s):aN c A t Q E s:=h Q fun J J h=>h
theorem vf{st:bR}{E:aJ→aM→Prop}(e:st=d)(h:∀R:j5→aM→Prop,(∀a,aN b A (eH f c) Q E a→R .next a)→(∀v a,Q (.ret v) a→R (.ret v) a)→aN b A (jl d c) R E s):aN b A (eH (st::f) c) Q E s:=
 wpAny_execs_cons (e▸h _ (fun J h=>h) fun J J h=>h)
theorem Ck{w:aV}{A:bX}{c:Cx}{m:Str→aG aJ}{mu:Mu}{s:aM}{sc:dO}{tb:Tb}{σ:Sg}{x:Str}{px:bG}{body:aD bR}{i:aA}{bp:Sg→aG (Fl×Sg)}{I:aW}{fp:aD aW}{N:aA}{Pv:aA→aJ→Prop}{St:aA→bF→Prop}{xs:aD PV}{fl:Fl}{σ':Sg}{hs:bF}{fH:PK}
  (H:fF c sc tb) (hi:okN tb i x=aF) (W:GU pg w A I fp [I] N Pv St) (hN:xs.length=N)
  (hb:∀(K1:PK) (gQ:Mu) (h:bF) σ fl σ',bp σ=O (fl,σ')→sZ w A (c.here K1 gQ h) tb σ (eH body c.env) fl σ')
  (hP:∀(K1:PK) (j:aA) (v:aJ) (p:PV),PK.le K K1→Pv j v→xs[j]? =O p→RV w K1 .none v p)
  (Cm:∀j h,St j h→∃o,h.get? I=O o) (rk:∀b∈fp,b=I∨(∃o,K b=O o)) (hI:I≠c.env.locals) (U0:mu.ad≠O I) (U1:K I=aB) (JS:c.hE.get? I=aB)
  (U2:hs.get? I=aB) (Cn:KB c mu hs s.heap) (Co:PK.le fH K)
  (hx:gP bp i xs σ=O (fl,σ')) (G:Gd w c tb K m mu s σ) (td:St 0 s.heap):
  pJ (aO pg w) A (.forLoop (.Name x px) (.ref I) body [] c.env) (fun r s'=>match r with | .ok f=>Out w c tb fH mu hs f s' fl σ' | .error _=>bO) s:=by
 have tf:Off c.T I:=G.F.off JS;refine afa (I:=JR w c tb K mu hs I St xs bp i (O (fl,σ'))) (fun left s1 vg=> ?_) xs.length ⟨K,m,mu,σ,.refl K,Cn,.refl,U0,U1,G,cA _,by refine M (pK ..) ?_;exact td,by refine M (pK ..) ?_;exact hx⟩;obtain⟨K1,m1,gQ,eJ,k1,kb,ms,vh,JT,G1,hle,oY,gD⟩:=vg
 have moved:∀(h':bF) (tk:aA),(∀b o,b∉[I]→s1.heap.get? b=O o→h'.get? b=O o)→Gd w c tb K1 m1 gQ {s1 with heap:=h',toks:=tk} eJ∧KB c mu hs h':=fun h' tk hk=>by have lc:∀b o,b≠I→s1.heap.get? b=O o→h'.get? b=O o:=fun b o n e=>hk b o (by simpa using n) e;exact⟨G1.other JT hI vh JS lc,fun b o e n1 n2 n3=>lc b o (fun q=>by(replace e:=q▸e;replace e:=U2▸e);exact nn e) (kb b o e n1 n2 n3)⟩
 refine Cj fun Q E hQ=> ?_;cases left with
 |zero=>
  rw[su] at oY gD;replace gD:=afb▸gD;cases gD;exact W.done s1 _ _ (hN▸oY) fun h' tk hk=>xa (moved h' tk hk) fun G2 kb2=>hQ _ _ (wpAny_execs_nil (jw (Co.trans k1) kb2 ms G2))
 |succ l=>
  have hj:xs.length - (l+1) < xs.length:=afc (bK (nq _) hle) (nq _)
  have hd:xs.drop (xs.length - (l+1))=xs[xs.length - (l+1)] ::xs.drop (xs.length - l):=by
   refine M (Au hj) ?_
   congr 2;exact Eq.symm (xP hle)
  replace gD:=hd▸gD;refine W.item _ s1 _ _ (bK hj (cI hN)) oY fun v h' tk Cp nN hk=>hQ _ _ (Cj fun Q E hQ=> ?_);have nN:St (xs.length - l) h':=by refine M (xP hle:xs.length - l=xs.length - (l+1)+1) ?_;exact nN
  refine xa (moved h' tk hk) fun G2 kb2=> ?_;have q0:RV w K1 .none v xs[xs.length - (l+1)] :=hP K1 _ v _ k1 Cp (fD hj);refine wpAny_bind (jj (uB (kC G2 H hi (q0.up _) fun s3 G3 th=> ?_)));have ti:KB c mu hs s3.heap:=kb2.step ms th;have vi:∀o,h'.get? I=O o→s3.heap.get? I=O o:=fun o e=>th I o e hI vh tf
  have yp:St (xs.length - l) s3.heap:=W.frame _ _ _ nN fun b Cq o e=>by
   rcases rk b Cq with q |⟨o',nO⟩
   ·rw[q] at e ⊢;exact vi o e
   ·have e1:=G2.F.keep b o' (k1 _ _ nO);have e2:=G3.F.keep b o' (k1 _ _ nO);replace e:=e1▸e;cases e;exact e2
  refine hQ _ _ (Cj fun Q E hQ=> ?_)
  have run:∀flb na,bp (eJ.put i xs[xs.length - (l+1)])=O (flb,na)→aN (aO pg w) A (eH body c.env) (fun f s'=>Out w (c.here K1 gQ s3.heap) tb K1 gQ s3.heap f s' flb na) (fun J J=>bO) s3:=fun flb na kD=>
   hb K1 gQ s3.heap _ _ _ kD K1 _ gQ s3 G3.here
  refine xe (Cm _ _ yp) fun oI JU=> ?_;rcases ym gD with⟨na,kD,gD⟩ |⟨na,kD,gD⟩ |⟨u,na,kD,gD⟩
  ·refine wpAny_mono (run _ _ kD) (fun f s4 ho=> ?_) fun J J x=>x.elim;obtain⟨K4,m4,lT,k4,iu,jJ,rfl,G4⟩:=ho;have iu:KB c gQ s3.heap s4.heap:=iu;have F4:=G3.F.back G4.F iu
   have U3:lT.ad≠O I:=fun q=>by
    rcases jJ I q with z |z
    ·exact vh z
    ·replace z:=JU▸z;cases z
   have U4:K4 I=none:=by
    cases e:K4 I with
    |none=>rfl
    |some o'=>
     rcases G4.F.new I o' e with z |z
     ·have z:K1 I=O o':=z;replace z:=JT▸z;cases z
     ·(replace z:=(rj hI vh)▸z;replace z:=JU▸z);cases z
   refine hQ _ _ ⟨l,kS l,K4,m4,lT,na,k1.trans k4,ti.step ms iu,hL.step ti ms jJ F4,U3,U4,⟨F4,G4.L,G4.Mi,G4.fl⟩,by exact qB hle,?_,gD⟩;refine W.frame _ _ _ yp fun b Cq o e=> ?_;rcases rk b Cq with q |⟨o',nO⟩
   ·rw[q] at e ⊢;exact iu _ o e hI vh tf
   ·have e1:=G3.F.keep b o' (k1 _ _ nO);have e2:=F4.keep b o' (k4 _ _ (k1 _ _ nO));replace e:=e1▸e;cases e;exact e2
  ·refine wpAny_mono (run _ _ kD) (fun f s4 ho=> ?_) fun J J x=>x.elim;obtain⟨K4,m4,lT,k4,iu,jJ,rfl,G4⟩:=ho;have iu:KB c gQ s3.heap s4.heap:=iu;have F4:=G3.F.back G4.F iu;cases gD;exact hQ _ _ <|jw (Co.trans (k1.trans k4)) (ti.step ms iu) (hL.step ti ms jJ F4) ⟨F4,G4.L,G4.Mi,G4.fl⟩
  ·refine wpAny_mono (run _ _ kD) (fun f s4 ho=> ?_) fun J J x=>x.elim;obtain⟨K4,m4,lT,k4,iu,jJ,v4,rfl,U5,r4⟩:=ho;have iu:KB c gQ s3.heap s4.heap:=iu;have F4:=G3.F.back U5 iu;cases gD;exact hQ _ _ ⟨K4,m4,lT,Co.trans (k1.trans k4),ti.step ms iu,hL.step ti ms jJ F4,v4,rfl,F4,r4⟩
end
end
section
section
variable{K:PK}
inductive JV(w:aV)(c:Cx)(tb:Tb)(K:PK)(mu:Mu)(h:bF)(tp:Sg→aG aU)(bp:Sg→aG (Fl×Sg))(z:aG (Fl×Sg))(left:aA)(s1:aM):Prop
 |mk (K1:PK) (m1:Str→aG aJ) (gQ:Mu) (eJ:Sg) (k1:PK.le K K1) (kb:KB c mu h s1.heap) (ms:hL mu gQ h) (G:Gd w c tb K1 m1 gQ s1 eJ) (hx:kB tp bp left eJ=z):JV w c tb K mu h tp bp z left s1
theorem U6
  (ht:∀(σ:Sg) (b:aU) (K:PK) (m:Str→aG aJ) (mu:Mu) (s:aM),tp σ=O b→Gd w c tb K m mu s σ→aN (aO pg w) A (so test c.env (eval test c.env)) (B8 c K m mu s.heap b) (fun J J=>bO) s)
  (hb:∀σ fl σ',bp σ=O (fl,σ')→sZ w A c tb σ (eH body c.env) fl σ')
  (hx:kB tp bp N σ=O (fl,σ')) (G:Gd w c tb K m mu s σ):
  pJ (aO pg w) A (.whileLoop test body [] c.env) (fun r s'=>match r with | .ok f=>Out w c tb K mu s.heap f s' fl σ' | .error _=>bO) s:=by
 refine afd (I:=JV w c tb K mu s.heap tp bp (O (fl,σ'))) (fun left s1 vg=> ?_) N ⟨K,m,mu,σ,.refl K,.refl,.refl,G,hx⟩;obtain⟨K1,m1,gQ,eJ,k1,kb,ms,G1,gD⟩:=vg;cases left with
 |zero=>exact nn gD
 |succ l=>
  rcases yi gD with⟨e,gD⟩ |⟨e,gD⟩
  ·refine wpAny_mono (ht eJ aF K1 m1 gQ s1 e G1) (fun b' s2 h2=> ?_) fun J J x=>x.elim;obtain⟨rfl,K2,k2,F2,b2⟩:=h2;have G2:=G1.of k2 F2;refine M (aS V) ?_;rcases ym gD with⟨na,kD,gD⟩ |⟨na,kD,gD⟩ |⟨u,na,kD,gD⟩
   ·refine wpAny_mono (hb _ _ _ kD K2 m1 gQ s2 G2) (fun f s4 ho=> ?_) fun J J x=>x.elim;obtain⟨K4,m4,lT,k4,iu,jJ,rfl,G4⟩:=ho;exact⟨l,kS l,K4,m4,lT,na,(k1.trans k2).trans k4,(kb.step ms b2).step ms iu,hL.step (kb.step ms b2) ms jJ G4.F,G4,gD⟩
   ·refine wpAny_mono (hb _ _ _ kD K2 m1 gQ s2 G2) (fun f s4 ho=> ?_) fun J J x=>x.elim;obtain⟨K4,m4,lT,k4,iu,jJ,rfl,G4⟩:=ho;cases gD;exact jw ((k1.trans k2).trans k4) ((kb.step ms b2).step ms iu) (hL.step (kb.step ms b2) ms jJ G4.F) G4
   ·refine wpAny_mono (hb _ _ _ kD K2 m1 gQ s2 G2) (fun f s4 ho=> ?_) fun J J x=>x.elim;obtain⟨K4,m4,lT,k4,iu,jJ,v4,rfl,F4,r4⟩:=ho;cases gD;exact⟨K4,m4,lT,(k1.trans k2).trans k4,(kb.step ms b2).step ms iu,hL.step (kb.step ms b2) ms jJ F4,v4,rfl,F4,r4⟩
  ·refine wpAny_mono (ht eJ aI K1 m1 gQ s1 e G1) (fun b' s2 h2=> ?_) fun J J x=>x.elim;obtain⟨rfl,K2,k2,F2,b2⟩:=h2;cases gD;exact wpAny_execs_nil (jw (k1.trans k2) (kb.step ms b2) ms (G1.of k2 F2))
theorem tj{w:aV}{A:bX}{s:aM}{b:Code}{Q:j5→aM→Prop}(d:A.handled=aB)(h:pJ (aO pg w) A b (fun r a=>match r with | .ok f=>Q f a | .error _=>bO) s){c:gK}{E:aJ→aM→Prop}:
  pJ (aO pg w) A b (fun r a=>match r with | .ok f=>Q f a | .error e=>cameBackBy (aO pg w) A c E e a) s:=
 uC h fun r a x=>by cases r with
  |ok f=>exact x|error e=>exact x.elim
theorem Hyp.here(Y:Hyp w A c a b P n)(d:PK)(e:Mu)(h:bF):Hyp w A (c.here d e h) a b P n:=
 ⟨Y.hh,Y.hd,Y.hu,⟨Y.H.scope,Y.H.sU,Y.H.globals,Y.H.builtins⟩,⟨Y.S.gk,Y.S.call,Y.S.bi⟩⟩
theorem ju.ev{a:Expr}(h:ju w A c d m b f a o)(e:o=O x)(G:Gd w c d K m b s f):dF w A c K m b (eval a c.env) x s:=h.1 x e K s G.F G.L G.Mi
theorem U7(h:sW p=O q):p=O q∧q≠ .bV:=by
 cases p with
 |none=>exact nn h
 |some p=>
  by_cases hp:p= .bV
  ·rw[hp] at h;exact nn h
  ·have h1:sW (O p)=O p:=by cases p with
    |bV=>exact absurd rfl hp| _=>rfl
   have:=cB (h1.symm.trans h);exact⟨aR _ this,this▸hp⟩
theorem U8(H:fF c t d)(f:okN d i x=aF)(L:RL w K c.env v d m l):
  RL w K c.env (O a) d (fun y=>if y=x then O (.ref a) else m y) ((l.map sW).set i (O .bV)):=by
 have f:d[i]? =O (x,aF):=beq_iff_eq.mp f;intro j y k q g b
 by_cases h:i=j
 ·subst h;obtain⟨rfl,rfl⟩:=qO (cB (f.symm.trans g))
  have n:i < (l.map sW).length:=by refine aT (GP (i:=i) (a:=O PV.bV)) ?_;exact(md.mp b).1
  rw[ae7 n] at b;exact aT (cB (cB b)) <|⟨_,aS V,.bV⟩
 ·rw[ae8 h,im] at b;refine aQ (me.mp b) fun o e b=> ?_;obtain⟨rfl,p⟩:=U7 b;have:=L j y k q g e;cases k with
  |false=>exact this
  |true=>
   (refine aQ (this) ?_;try clear this;rintro u s r);exact⟨u,(aP (JM H f g h)).trans s,r.any p⟩
theorem U9(h:nM xs p=O q):(p=O .bV∧ .lst xs=q)∨(p=O q∧q≠ .bV):=by
 cases p with
 |none=>exact nn h
 |some p=>
  by_cases hp:p= .bV
  ·rw[hp] at h;exact .inl ⟨aR _ hp,cB h⟩
  ·have h1:nM xs (O p)=O p:=by cases p with
    |bV=>exact absurd rfl hp| _=>rfl
   have:=cB (h1.symm.trans h);exact .inr ⟨aR _ this,this▸hp⟩
theorem Fm.freeze(F:Fm c K m (O (a,l,n)) s)(p:s.heap.get? a=O o):Fm c (K.put a o) m aB s:=by
 refine dX (F.mul a l n V) fun J q r g=> ?_;have i:PK.le K (K.put a o):=PK.u0 q;have j:∀{b},b≠a→(K.put a o) b=K b:=fun h=>aP h
 refine{ns:=F.ns,keep:=fun b x e=> ?_,dJ:=(j (Ne.symm r)).trans F.dJ,low:=F.low,le:=F.le.trans i,cU:=F.cU,new:=fun b x e=> ?_,cX:=F.cX,mul:=fun J J J e=>nn e,gens:=F.gens,os:=F.os,base:=F.base,eX:=F.eX,tabs:=fun t d=>(F.tabs t d).mono i (fun J e=>e),dP:=fun t d=>(j (F.off g t d)).trans (F.dP t d)}
 ·rcases PK.p' e with⟨f,k⟩ |e
  ·refine M f (aT k ?_);exact p
  ·exact F.keep _ _ e
 ·rcases PK.p' e with⟨f,k⟩ |e
  ·refine M f ?_;exact .inr g
  ·exact F.new _ _ e
theorem RL.freeze{w:aV}{c:Cx}{m:Str→aG aJ}{h:Tb}{f:PK}{a:aW}{i:aD PV}{l:aD (aG PV)}(L:RL w K c.env (O a) h m l)(g:PK.le K f)(o:RV w f aB (.ref a) (.lst i)):RL w f c.env aB h m (l.map (nM i)):=by
 intro j y k q n d;rw[im] at d;refine aQ (me.mp d) fun p e d=> ?_;rcases U9 d with⟨rfl,rfl⟩ |⟨rfl,s⟩
 ·have:=L j y k .bV n e;cases k with
  |true=>
   obtain⟨v,b,r⟩:=this;obtain⟨B,t,rfl⟩:=r.pT;obtain rfl:=cB t;exact⟨_,b,o⟩
  |false=>
   (refine nJ (this) ?_;try clear this;rintro _ _ _ _ _ _ r);exact aQ (r.pT) fun J e J=>nn e
 ·have:=L j y k q n e;cases k with
  |true=>obtain⟨v,b,r⟩:=this;exact⟨v,b,(r.mono g).any s⟩
  |false=>(refine nJ (this) ?_;try clear this;rintro u x v b z A r);exact⟨u,x,v,b,g _ _ z,A,r.mono g⟩
theorem Gd.freeze(G:Gd w c j K m k s h)(l:h.mu=O d):∃f,PK.le K f∧Gd w c j f m aB s (h.freeze d)∧∀a,k.ad=O a→RV w f aB (.ref a) (.lst d):=by(refine eQ (ve G.Mi l) ?_;rintro a n p rfl q);obtain⟨⟨⟨o,r,t,x,u⟩,_⟩,v,_⟩:=G.F.mul a n p V;have g:PK.le K (K.put a o):=PK.u0 v;have i:RV w (K.put a o) aB (.ref a) (.lst d):= .lst PK.jr t u (by simpa using q.mono g);exact⟨K.put a o,g,⟨G.F.freeze r,G.L.freeze g i,.none,fun J J J e=>nn e⟩,fun b e=>by refine aT (cB e) ?_;exact i⟩
end
end
section
section
variable{K:PK}
theorem vj(H:fF c l b)(d:okN b i x=aF)(f:jI j i=aF)(G:Gd w c b K m g s j):∃a,g.ad=O a∧dF w A c K m g (eval (.Name x pos) c.env) .bV s∧m x=O (.ref a):=by
 have h:b[i]? =O (x,aF):=by unfold okN at d;exact beq_iff_eq.mp d
 refine aQ (G.L i x aF .bV h (JO f)) fun v e r=> ?_;(refine aQ (r.pT) ?_;rintro a k rfl);refine⟨a,k,B6 H (by refine M h ?_;simp) (JO f) K s G.F G.L G.Mi,e⟩
theorem Cr{E:aJ→aM→Prop}(H:fF c f b)(d:okN b i x=aF)(G:Gd w c b K m g s j)(e:m x=O (.ref a))(h:Q (.ref a) s):
  aN (aO pg w) A (eval (.Name x k) c.env) Q E s:=
 pG (GI H.kind (name_kind H d) G.F.ns e h) (H.at (beq_iff_eq.mp d)).1.1
theorem rl{E:aJ→aM→Prop}(H:fF c d f)(a:uA e aB b.line c.env=pure aI)(h:aN (aO pg w) A (eval e c.env) (fun J=>Q .next) E s):aN (aO pg w) A (jl (.Expr e b) c.env) Q E s:=
 wpAny_Expr_any h (by unfold interactive;refine M H.kind ?_;rfl) a
theorem Cs{id:eA}{args:aD Expr}{E:aJ→aM→Prop}(H:fF c sc tb)(hi:okN tb i x=aF)(hl:(apos.endLine==pos.line)=aF)(G:Gd w c tb K m mu s σ)(hv:m x=O (.ref a))
  (hp:∃its,s.heap.PlainList a its) (slot:Slot "list" (aH nm) id) (ty:typeOf (.builtin id)=pure (.type "method_descriptor")) (U':(jD pos (dG args c.env)).all (fun x=> !x.1)=aF) (hlen:args.length < 20)
  (h:aN (aO pg w) A (GV pos (.builtin id) [.ref a] (jD pos (dG args c.env)) []) Q E s):aN (aO pg w) A (eval (.Call (.Attribute (.Name x p) (aH nm) apos) args [] pos) c.env) Q E s:=by
 refine sr V ?_ hl (Cr H hi G hv ?_)
 ·refine M U' ?_;simp only[Rb,hG,lL];exact⟨rfl,by exact(bZ (cA _) (bK hlen (by decide)):args.length+0+0 < 30)⟩
 ·(refine oL (hp) ?_;try clear hp;rintro its nn g);exact⟨"list",id,PySem.F.plainAttrs_list,slot,ty,⟨_,g,rfl⟩,fun b e=>by cases e;exact⟨_,g,rfl⟩,h⟩
@[elab_as_elim] theorem JW{b:Tb}{i:aA}{c:aD aA}{a:aD Expr}{C:aD Expr→Prop}(h:m0 b (i::c) a=aF)(k:∀x p a,okN b i x=aF→m0 b c a=aF→C (.Name x p::a)):C a:=by
 cases a with
 |nil=>exact absurd h cM|cons t a=>exact jf (C:=fun t=>C (t::a)) h fun x p h=>k x p a (aY h).1 (aY h).2
theorem JX{w:aV}{c:Cx}{mu:Mu}{sc:dO}{tb:Tb}{is:aD aA}:∀{ts:aD Expr} {vs:aD aJ} {xs:aD PV} {σ:Sg} {m:Str→aG aJ} {s:aM} {hs:bF} {fH:PK} {kc:Mu},fF c sc tb→m0 tb is ts=aF→bL w K vs xs→xs.length=is.length→Gd w c tb K m mu s σ→PK.le fH K→KB c kc hs s.heap→hL kc mu hs→
  aN (aO pg w) A (afe ((GW ts c.env).map (·.2)) vs) (fun J s'=>Out w c tb fH kc hs .next s' .next (putAll σ is xs)) (fun J J=>bO) s:=by
 induction is with
 |nil=>
  intro ts vs xs σ m s hs fH kc H ho r hl G k b ms;obtain rfl:=qC hl;refine M (kA ho) (M r.nil_inv ?_);exact wpAny_pure (jw k b ms G)
 |cons i is ih=>
  intro ts vs xs σ m s hs fH kc H ho r hl G k b ms;cases xs with
  |nil=>exact Gb hl
  |cons x1 xs=>
   (refine cS (r.mr) ?_;rintro v us rfl r1 r2);refine JW ho fun x p ts h1 h2=>wpAny_bind (il ?_);refine(wpAny_bind (jj (uB (kC G H h1 (r1.up _) fun s1 G1 b1=> ?_))):aN (aO pg w) A (do nu p;GX c.env x v) _ _ s);exact ih H h2 r2 (Gc hl) G1 k (b.step ms b1) ms
theorem JY{g:Tb}{e:aD aA}:∀{c:aD Expr},m0 g e c=aF→c.length=e.length∧∀d,(GW c d).length=e.length∧(GW c d).findIdx? (·.1)=none:=by
 induction e with
 |nil=>intro c f;refine M (kA f) ?_;exact⟨rfl,fun J=>⟨rfl,rfl⟩⟩
 |cons i e ih=>
  intro c f;refine JW f fun x p c J h=>xa (ih h) fun a b=>⟨aR (· +1) a,fun d=>⟨aR (· +1) (b d).1,?_⟩⟩;refine(M List.findIdx?_cons (M ((b d).2) ?_):RC (·.1) ((aI,AT (.Name x p) d)::GW c d)=aB);rfl
end
end
section
section
variable{w:aV}{A:bX}{sc:dO}{tb:Tb}{P:bT}{n:aA}
theorem Va{t v:Expr}{l:aA}{c:gK}(h:uA v (O t) l c=pure aI):aff [t] v l c=pure false:=by unfold aff;exact h
theorem Vb{c:Cx}{d:aD Expr}{k:aA}{p:bG}{v:Expr}(h:JE v=aI):afg [.Tuple d k p] v c.env=pure none:=by
 cases v with
 |Tuple _ _ _=>exact GY h| _=>rfl
theorem Vc{c:Cx}{x y:Str}{p q:bG}{k d:aA}{g m:bG}{a b:Expr}(H:fF c sc tb)(o:c.env.kindOf x=O .local)(r:c.env.kindOf y=O .local)(s:ra a=aF)(t:ra b=aF)
  (u:(x==y)=aI) (v:(p.line==q.line)=aF) (B:AR 8 a=aI) (C:AS 8 a=aI):
  afg [.Tuple [.Name x p,.Name y q] k g] (.Tuple [a,b] d m) c.env=pure (O [x,y]):=by
 have D:c.env.blockKind= .function:=by unfold afh;refine M H.kind ?_;rfl
 have E:q.line=p.line:=(beq_iff_eq.mp v).symm;have F:(y==x)=false:=beq_eq_false_iff_ne.mpr fun e=>(beq_eq_false_iff_ne.mp u) e.symm;have G:(c.env.blockKind != .function)=false:=by refine M D ?_;rfl
 have I:∀f:Expr→aU,(∀e,ra e=aF→f e=aI)→[a,b].any f=false:=fun f h=>by refine(M (h a s) (M (h b t) ?_):(f a ||(f b ||false))=aI);rfl
 have K:(c.env.kindOf x==O NameKind.local && p.line==p.line)=true:=by refine M o ?_;simp
 have L:(c.env.kindOf y==O NameKind.local && q.line==p.line)=true:=by refine M r ?_;simp[E]
 have N:∀f:Expr→aG Str,f (.Name x p)=O x→f (.Name y q)=O y→List.filterMap f [.Name x p,.Name y q] =[x,y] :=fun f a b=>(afi a).trans (aR (x:: ·) ((afi b).trans rfl));have Q:[x,y].eraseDups.length=2:=by simp[F,List.eraseDups_cons]
 refine(aP fun z=>cM (G.symm.trans z)).trans ((aP fun z=>cM ((I _ ?_).symm.trans z)).trans ?_)
 ·intro e h;cases e with
  |Starred=>exact absurd h cM| _=>rfl
 refine(aR (fun l:aD Str=>(if(l.length !=2 ||l.eraseDups.length !=l.length)=aF then pure aB else if [a,b].all (AS 8)=aF then pure aB
  else if [a,b].all (AR 8)=aF then unsupported "assign.tuple-of-constant-expressions:order-of-the-stores" >>=fun J=>pure (O l) else pure (O l):cR (aG (aD Str))))
  (N _ (aS K) (aS L))).trans ?_
 exact(aP (by refine M Q ?_;exact cM)).trans ((aP fun z=>cM ((by refine M C ?_;rfl:(AS 8 a && (AS 8 b && aF))=aI).symm.trans z)).trans
  (aP fun z=>cM ((by refine M B ?_;rfl:(AR 8 a && (AR 8 b && aF))=aI).symm.trans z)))
theorem Vd{c:Cx}{K:PK}{m:Str→aG aJ}{mu:Mu}{s:aM}{σ:Sg}(Y:Hyp w A c sc tb P n)(e:E)(ex:Expr)(ho:bC sc tb e ex=aF)(hl:vc e=aF){xs:aD PV}(hx:ev P σ e=O (.lst xs))(G:Gd w c tb K m mu s σ):
  kZ w A c K m mu (eval ex c.env) xs s:=by
 cases e with
 |lst es=>
  refine yb ho fun bE p h=>aQ (dQ hx) fun ys e1 e2=> ?_;(refine xa (i0 e2) ?_;rintro⟨p1,p2⟩ e2);obtain rfl:=PV.lst.inj (cB e2);exact UI (va Y es _ h ys e1) p1 p2 G.F G.L G.Mi
 |lS es=>
  refine jH ho fun x p l q h=>jV h fun e h=>jH h fun y p2 args q2 h=>xa (aY h) fun h h6=>xa (aY h) fun h h5=>xa (aY h) fun h h4=> ?_;refine xa (aY h) fun h h3=>xa (aY h) fun h1 h2=> ?_;replace h6:=(nt ..)▸h6;exact aQ (dQ hx) fun ys e1 e2=>I6 Y h1 h2 h3 h4 h5 (xq.mp h6) (va Y es _ h5 ys e1) e2 G.F G.L G.Mi
 |oO a=>
  refine jH ho fun x p l q h=>jV h fun e h=>xa (aY h) fun h h3=>xa (aY h) fun h1 h2=>aQ (dQ hx) fun y e1 e2=> ?_;(refine dB (Ju e2) ?_;rintro z rfl p e2);obtain rfl:=PV.lst.inj e2;exact I7 Y h1 h2 h3 ((cY Y a _ h3).1 _ e1) p G.F G.L G.Mi
 | _=>exact absurd hl cM
theorem JZ{g:bG}{id:eA}{e:Expr}{k:aJ}{c:gK}{s:aM}{Q:aJ→aM→Prop}{E:aJ→aM→Prop}(d:dG [e] c=(aI,eval e c)::dG [] c)
  (h:aN (aO pg w) A (eval e c) (fun v l=>aN (aO pg w) A (call (.builtin id) [k,v]) Q E l) E s):
  aN (aO pg w) A (GV g (.builtin id) [k] (jD g (dG [e] c)) []) Q E s:=by
 refine ny (by refine M d ?_;rfl) (iI (by refine M d ?_;intro h;cases h) (by refine M d ?_;rfl) (iG (wpAny_mono h (fun v o m=>jE m) fun J J x=>x) d))
noncomputable def PS(w:aV)(A:bX)(sc:dO)(tb:Tb)(P:bT)(n:aA)(st:S):Prop:=∀(d:bR) (c:Cx) (g h:Sg) (k:Fl),Hyp w A c sc tb P n→j' sc tb st d=aF→ex P st g=O (k,h)→sZ w A c tb g (jl d c.env) k h
noncomputable def PB(w:aV)(A:bX)(sc:dO)(tb:Tb)(P:bT)(n:aA)(b:B):Prop:=∀(d:aD bR) (c:Cx) (g h:Sg) (k:Fl),Hyp w A c sc tb P n→dY sc tb b d=aF→bE P b g=O (k,h)→sZ w A c tb g (eH d c.env) k h
theorem nP{g k:Type}{a c:g}{b d:k}(h:O (a,b)=O (c,d)):a=c∧b=d:=qO (cB h)
theorem tl{c d:Type}{o:aG c}{f:c→d}{z:d}(h:o.map f=O z):∃x,o=O x∧f x=z:=me.mp h
section
variable{i j:aA}{e f ix:E}{a b:B}
theorem J0:PS w A sc tb P n (.asg i e):=fun I c L N Q Y k l=>sX k fun R v S h=>jV h fun t h=>jf h fun x p h=>by obtain⟨o,d⟩:=aY h;refine aQ (dQ l) fun y q r=>aQ (tl r) fun z u B=> ?_;obtain⟨rfl,rfl⟩:=qO B;obtain⟨rfl,_⟩:=ri u;intro K m T s G;exact iY (((cY Y e _ d).ev q G).then fun U v W g C D E=>kC (G.of g C) Y.H o E fun X F H=>jw g (D.step .refl H) .refl F) (qh d _ _ _)
theorem J1:PS w A sc tb P n (.mv i e):=fun py c σ σ' fl Y ho hx=>sX ho fun ts v pos h=>jV h fun t h=>jf h fun x p h=>by
 refine xa (aY h) fun h h3=>xa (aY h) fun h1 h2=>xa (rh hx) fun J hx=>aQ (JL hx) fun xs e1 hx=> ?_;(refine xa (nP hx) ?_;rintro rfl rfl);intro K m mu s G;refine iY (wpAny_mono (Vd Y e v h2 h3 e1 G) (fun u s1 hu=> ?_) fun J J x=>x) (qh h2 _ _ _);obtain⟨K1,a,vs,nn,k1,F1,b1,rfl,g,g1,g2,g3,g4,g5,r⟩:=hu;refine uz (name_kind Y.H h1) F1.ns (fun h' hn hs=> ?_) (vd Y.H);have hk:∀b o,b≠c.env.locals→s1.heap.get? b=O o→h'.get? b=O o:=fun b o n e=>(hs.2 b n).trans e;refine jw (my:=O (a,vs,aF)) k1 (b1.step .refl fun b o e n1 J J=>hk b o n1 e) (fun z hz=> ?_) ⟨?_,U8 Y.H h1 (G.L.mono k1),.some r,fun J J J e J=>by cases e;rfl⟩
 ·cases hz;exact .inr g5
 ·refine{ns:=hn,keep:=fun b o e=>hk b o ?_ (F1.keep b o e),dJ:=F1.dJ,low:=F1.low,le:=F1.le,cU:=fun b o n e=>hk b o ?_ (F1.cU b o n e),new:=F1.new,cX:=F1.cX,mul:=fun a' its fl e=> ?_,gens:=F1.gens,os:=F1.os,base:=F1.base,dP:=F1.dP,eX:=F1.eX,tabs:=fun t ht=>(F1.tabs t ht).mono (fun J J e=>e) (fun o=>hk _ o (F1.off F1.cX t ht))}
  ·intro hy;(replace e:=hy▸e;replace e:=F1.dJ▸e);exact gN.nn e
  ·intro hy;(replace e:=hy▸e;replace e:=F1.cX▸e);exact gN.nn e
  ·cases e;exact⟨⟨⟨_,hk _ _ g2 g,rfl,nn,rfl⟩,fun J=>⟨nn,hk _ _ g2 g⟩⟩,g1,g2,g4⟩
theorem J2{is:aD aA}:PS w A sc tb P n (.jp is e):=fun py c σ σ' fl Y ho hx=>sX ho fun ts v pos h=>jV h fun t h=>sQ h fun us k p h=>by
 refine xa (aY h) fun h h3=>xa (aY h) fun h1 h2=> ?_;replace h3:=(nt ..)▸h3;refine aQ (UR hx) fun xs e1 hx=> ?_
 by_cases hl:xs.length=is.length
 ·replace hx:=(aS hl)▸hx;(refine xa (nP hx) ?_;rintro rfl rfl);intro K m mu s G;refine ahF (((cY Y e _ h2).ev e1 G).then fun K1 v1 s1 k1 F1 b1 r1=> ?_) (Va (qh h2 _ _ _)) (Vb h3);(refine ip r1.sJ ?_;rintro a ob its nn rfl g1 g2 g3 g4);refine xa (JY h1) fun l1 l2=>xa (l2 c.env) fun l2 l3=> ?_;have hsz:its.size=xs.length:=aT g4.length (M iO V);refine wpAny_bind (jj (afj Y.hh (items:=its) ⟨ob,F1.keep _ _ g1,g2,nn,g3⟩ (by refine M hsz (M l2 ?_);exact hl.symm) l3 fun h' hs=> ?_));have hk:∀b o,s1.heap.get? b=O o→h'.get? b=O o:=fun b o e=>hs b o (fE (fA e)) e;exact JX Y.H h1 g4 hl (G.of k1 (F1.grow (tk:=s1.toks) hk)) k1 (b1.step .refl (.of_keeps hk)) .refl
 ·replace hx:=(aP hl)▸hx;exact nn hx
theorem J3:PS w A sc tb P n (.mW i j e f):=fun a9 c a' aa ab Y C D=>sX C fun ae af ah h=>jV h fun t h=>sQ h fun ai aj ak h=>sT h fun al am h=>jf h fun x an h=>jf h fun y ao h=>sQ h fun ap aq ar h=>sT h fun a b h=>by obtain⟨h,q⟩:=aY h;obtain⟨h,r⟩:=aY h;obtain⟨h,E⟩:=aY h;obtain⟨h,s⟩:=aY h;obtain⟨h,d⟩:=aY h;obtain⟨h,g⟩:=aY h;obtain⟨u,v⟩:=aY h;rw[nt] at s r q;refine cS (nL D) fun as au F H I=>aQ (dQ I) fun av L N=>aQ (tl N) fun aw Q R=> ?_;obtain⟨rfl,rfl⟩:=qO R;obtain⟨rfl,ax⟩:=ri L;obtain⟨rfl,ay⟩:=ri Q;intro K az b0 b1 G;refine ahG (names:=[x,y]) (Tuple_ (iG (((cY Y e _ g).ev F G).then fun b2 k b3 l S T U=>iG (((cY Y f _ d).ev H (G.of l S)).then fun b4 m z p W X a0=>jE ?_) (i5 d _ _)) (i5 g _ _))) V (Vc Y.H (name_kind Y.H u) (name_kind Y.H v) (qf g) (qf d) s E r q);have a1:=U.mono p;refine nw (?_) (by show(2:aA)≤eF;decide);refine wpAny_unpackItems_tuple Y.hh (items:= #[k,m]) ⟨_,fP _ V,rfl,0,rfl⟩ fun a2 a3=> ?_;have B:∀b o,z.heap.get? b=O o→a2.get? b=O o:=fun b o e=>a3 b o (fE (fA (kz (o:={cls:= .type "tuple",data:= .seq [k,m].toArray}) _ _ e))) (kz _ _ e);have a4:=G.of (l.trans p) (W.grow (tk:=z.toks) B);refine(wpAny_bind (il (uB (kC a4 Y.H v a0 fun b5 a5 a6=>wpAny_bind (il (uB (kC a5 Y.H u a1 fun b6 a7 a8=>wpAny_pure ?_)))))):aN (aO pg w) A (afe [GX c.env y,GX c.env x] [m,k]) _ _ _);exact jw (l.trans p) ((((T.step .refl X).step .refl (.of_keeps B)).step .refl a6).step .refl a8) .refl a7
theorem J4:PS w A sc tb P n (.uU i j e):=fun L c N Q R Y k l=>sX k fun S v T h=>sT h fun U W h=>jf h fun x p h=>jf h fun y q h=>by obtain⟨h,m⟩:=aY h;obtain⟨o,r⟩:=aY h;refine aQ (dQ l) fun z s t=>aQ (tl t) fun X u B=> ?_;obtain⟨rfl,rfl⟩:=qO B;obtain⟨rfl,_⟩:=ri u;intro K a0 a1 a2 G;refine wpAny_Assign_two (((cY Y e _ m).ev s G).then fun a3 a4 a5 d C D g=> ?_);refine wpAny_bind (jj (uB (kC (G.of d C) Y.H o g fun a6 E F=> ?_)));exact wpAny_bind (jj (uB (kC E Y.H r g fun a7 H I=>jw d ((D.step .refl F).step .refl I) .refl H)))
theorem J5{o:i9}:PS w A sc tb P n (.aug i o e):=fun S c T U W Y m d=>JF m fun t X a0 a1 h=>jf h fun x a2 h=>by refine xa (aY h) fun h p=>xa (aY h) fun g q=> ?_;obtain rfl:=jt q;refine aQ (US d) fun r s d=>aQ (dQ d) fun a3 u v=>aQ (tl v) fun z y B=> ?_;(refine xa (qO B) ?_;rintro rfl rfl);intro K a4 a5 a6 G;refine aQ (G.L i x aF r (beq_iff_eq.mp g) s) fun a7 C D=>wpAny_AugAssign_Name (GI Y.H.kind (name_kind Y.H g) G.F.ns C ?_);exact((cY Y e _ p).ev u G).then fun a8 a9 a' k E F H=>(JN y E (D.mono k) H).then fun aa ab ae l I L N=>kC (G.of (k.trans l) I) Y.H g N fun af Q R=>jw (k.trans l) ((F.step .refl L).step .refl R) .refl Q
theorem J6:PS w A sc tb P n (.oP i ix e):=fun S c T U W Y q r=>sX q fun X v a0 h=>jV h fun t h=>qc h fun b a1 a2 h=>jf h fun x p h=>by obtain⟨h,l⟩:=aY h;obtain⟨m,s⟩:=aY h;refine aQ (dQ r) fun a3 u y=>aQ (dQ y) fun a4 z d=> ?_;obtain⟨rfl,B⟩:=ri z;obtain⟨C,d⟩:=rh d;refine aQ (Cg d) fun a5 D d=> ?_;intro K a6 a7 a8 G;refine RD (((cY Y e _ l).ev u G).then fun a9 a' aa o E F H=> ?_) (qh l _ _ _);have g:=G.of o E;refine dB (vj (pos:=p) (A:=A) Y.H m C g) fun a I J L=>Cr Y.H m g L (((cY Y ix _ s).ev D g).then fun ab ae af k N Q R=> ?_);obtain⟨t,rfl⟩:=R.int_inv;exact JP d (g.of k N) I ((H.mono k).any B) (o.trans k) (F.step .refl Q) .refl
theorem Ve{o:i9}{x y z:PV}(h:jW o x y=O z):z≠ .bV:=by
 rintro rfl;cases x with
 |int=>cases y with
  |int=>cases o<;>first |exact nn h |exact nomatch cB h |exact nomatch cB (i0 h).2
  | _=>exact nn h
 |str=>cases y with
  |str=>cases o<;>first |exact nn h |exact nomatch cB (i0 h).2
  | _=>exact nn h
 | _=>exact nn h
theorem J7{o:i9}:PS w A sc tb P n (.sM i ix o e):=fun a6 a7 a8 a9 a' Y B c=>JF B fun t aa ab ae h=>qc h fun b C af h=>jf h fun x p h=>by
 refine xa (aY h) fun h D=>xa (aY h) fun h E=>xa (aY h) fun m d=> ?_;obtain rfl:=jt E;refine xa (rh c) fun F c=>aQ (Cg c) fun ah H c=>aQ (dQ c) fun ai I L=>aQ (dQ L) fun aj N Q=> ?_;refine aQ (dQ Q) fun z q R=> ?_;intro K ak al am G;refine dB (vj (pos:=p) (A:=A) Y.H m F G) fun a r J S=>wpAny_AugAssign_SubscriptAny (Cr Y.H m G S (((cY Y ix _ d).ev H G).then fun an ao ap s T U W=> ?_)) (fun aq ar as=> ?_)
 ·(refine xe W.int_inv ?_;rintro t rfl);have g:=G.of s T;exact(UX I g r).then fun au av aw k u X a0=>((cY Y e _ D).ev N (g.of k u)).then fun ax ay az l v a1 a2=>(JN q v (a0.mono l) a2).then fun b0 b1 b2 y a3 a4 a5=>JP R (((g.of k u).of l v).of y a3) r (a5.any (Ve q)) (((s.trans k).trans l).trans y) ((((U.step .refl X).step .refl a1)).step .refl a4) .refl
 ·have d:=qf d;cases C with
  |Slice _ _ _ _=>exact absurd d cM| _=>rfl
theorem J8:PS w A sc tb P n (.app i e):=fun a3 c B a4 a5 Y d o=>Cd d fun a6 a7 h=>Cf h fun x p a8 args a9 s C h=>jV h fun a' d=>by
 obtain⟨k,o⟩:=rh o;have k:=aY k;refine aQ (dQ o) fun aa D E=>aQ (dQ E) fun ab F H=> ?_;obtain⟨rfl,I⟩:=ri F;refine aQ (dQ H) fun ae L q=> ?_;obtain⟨N,q⟩:=i0 q;obtain⟨rfl,rfl⟩:=nP q;intro K af ah ai G;refine dB (vj (pos:=p) (A:=A) Y.H s k.1 G) fun a l J Q=>eQ (ve G.Mi L) fun R t f g v=> ?_;obtain rfl:R=a:=by replace l:=g▸l;exact cB l
 have y:=G.fl _ _ _ g k.2;refine rl Y.H V (Cs Y.H s C G Q ⟨_,(G.F.mul _ _ _ g).1.2 y⟩ slot_list_append type_list_append (by refine M (i5 d ..) ?_;rfl) (by show 1 < 20;decide) (JZ (i5 d [] c.env) (((cY Y e _ d).ev D G).then fun aj u S r T U W=> ?_)));have z:=G.of r T;refine afk ((z.F.mul _ _ _ g).1.2 y) (fun ak m X=> ?_) (by refine M kP (M v.length (M cN ?_));exact aL N (by decide));have a0:t.toArray.push u=(t++[u]).toArray:=by simp
 replace m:=a0▸m;exact iH (z.yn (tk:=S.toks) (qi:=aF) (ta:=B.pl) g m.isList (fun J=>m) X ((v.mono r).append (.cons (W.any I) .nil)) (fun J=>rfl)) fun a1 a2 al=>jw r (U.step .refl a2) (fun J e=>by cases e;exact .inl l) a1
theorem Vf{k:PV}{c:aD PV}{x:PV}{d:Sg}{g:Fl}{l:Sg}(h:(match k with
  | .int k=>aZ (0≤k∧k≤1000∧c.length≤1000) (O (Fl.next,{d with mu:=O (c.take k.toNat++x::c.drop k.toNat)}))| _=> .none)=O (g,l)):∃i,k= .int i∧(0≤i∧i≤1000∧c.length≤1000)∧ .next=g∧{d with mu:=O (c.take i.toNat++x::c.drop i.toNat)}=l:=by
 cases k with
 |int k=>(refine xa (i0 h) ?_;rintro p h);have h:=nP h;exact⟨k,rfl,p,h.1,h.2⟩| _=>exact nn h
theorem J9:PS w A sc tb P n (.ins i e f):=fun au c a2 av a3 Y D E=>Cd D fun aw F h=>Cf h fun x a4 ax args ay p H h=>sT h fun u v D=>by
 refine xa (aY D) fun Q R=>xa (rh E) fun q E=> ?_;have q:=aY q;refine cS (nL E) fun k a5 a6 a7 a8=>aQ (dQ a8) fun az a9 a'=> ?_;(refine xa (ri a9) ?_;rintro rfl aa);refine aQ (dQ a') fun g ab ae=> ?_;(refine mV (Vf ae) ?_;rintro k rfl ⟨S,af,ah⟩ rfl rfl);intro K b0 b1 b2 G;refine dB (vj (pos:=a4) (A:=A) Y.H p q.1 G) fun a r J ai=>eQ (ve G.Mi ab) fun s d a3 m I=> ?_;have:s=a:=by replace r:=m▸r;cases r;rfl
 subst this;have T:=G.fl _ _ _ m q.2;have y:dG [u,v] c.env=(aI,eval u c.env)::dG [v] c.env:=i5 Q [v] c.env;have L:dG [v] c.env=(aI,eval v c.env)::dG [] c.env:=i5 R [] c.env;have U:∀F:bG,(jD F (dG [u,v] c.env)).any (·.1)=false:=fun F=>by refine M y (M L ?_);rfl
 refine rl Y.H V (Cs Y.H p H G ai ⟨_,(G.F.mul _ _ _ m).1.2 T⟩ afl PySem.F.type_list_insert (by refine M y (M L ?_);rfl) (by show 2 < 20;decide) (ny (U _) (iI (by refine M y ?_;intro h;cases h) (U _) (iG (((cY Y e _ Q).ev a6 G).then fun b3 b4 b5 o aj ak al=>iG (((cY Y f _ R).ev a7 (G.of o aj)).then fun b6 z W B X am an=>jE ?_) L) y))));(refine xe al.int_inv ?_;rintro t rfl);have ao:=G.of (o.trans B) X;refine xe ((X.mul _ _ _ m).1.2 T) fun C N=>xm afl ⟨_,N,rfl⟩ PySem.F.entry_list_insert (PySem.F.args_list_insert_3 _ _ _) (ahH s d.toArray C k t z (by refine M (fitsIndex_of S (iD af (by decide))) ?_;decide) (by refine M kP (M I.length (M cN ?_));exact aL ah (by decide))) ⟨N,?_⟩
 let l:=d.take k.toNat++z::d.drop k.toNat
 have ap:l.toArray.size≠d.toArray.size:=fun e=>absurd (((aR nk (QT k.toNat d)).symm.trans bH).symm.trans (e.symm.trans (bH.trans (ik ..).symm))) (fE (kS _))
 have aq:(d.toArray.extract 0 (min k.toNat d.toArray.size)).push z++d.toArray.extract (min k.toNat d.toArray.size)=l.toArray:=by
  apply Gq.mp;simp only[lO,RE,Array.toList_extract,kP,l,afm,nz,su,eZ,List.singleton_append];have p:d.take (min k.toNat d.length)=d.take k.toNat:=aT List.take_take (M Ax V)
  have H:(d.drop (min k.toNat d.length)).take (d.length - min k.toNat d.length)=d.drop k.toNat:=by
   refine M (mJ (by simp)) ?_;rcases sv k.toNat d.length with h |h
   ·exact M (l8 h) V
   ·exact M (uD h) (M afb (M (AU h) V))
  exact M p (M H V)
 have a0:(W.heap.update s (mN fun g:eW aJ=>have a1:=if k < 0 then(k+((g.size:aA):Z)).toNat else min k.toNat g.size;(g.extract 0 a1).push z++g.extract a1)).get? s=O {cls:= .type "list",data:= .seq l.toArray (C+1)}:=by refine M (sb _ N V) ?_;unfold mN;simp only[aP (ja.mpr S:¬k < 0),aq];have:(l.toArray.size==d.toArray.size)=false:=beq_eq_false_iff_ne.mpr ap;refine M this ?_;rfl
 exact iH (ao.yn (tk:=W.toks) (its':=l) (qi:=aF) (ta:=a2.pl) m ⟨_,a0,rfl,C+1,rfl⟩ (fun J=>⟨C+1,a0⟩) (qD ..) (xs':=g.take k.toNat++a5::g.drop k.toNat) (((I.mono (o.trans B)).take _).append (.cons (an.any aa) ((I.mono (o.trans B)).drop _))) (fun J=>rfl)) fun ar as b7=>jw (o.trans B) ((ak.step .refl am).step .refl as) (fun J e=>by cases e;exact .inl r) ar
theorem J':PS w A sc tb P n (.uV i):=fun R c z S T Y B o=>Cd B fun U W h=>Cf h fun x p X args a0 u C h=>by
 obtain rfl:=kA h;obtain⟨g,o⟩:=rh o;have g:=aY g;refine aQ (dQ o) fun a1 D q=> ?_;obtain⟨E,q⟩:=i0 q;obtain⟨rfl,rfl⟩:=nP q;intro K a2 a3 s G;refine dB (vj (pos:=p) (A:=A) Y.H u g.1 G) fun a r J F=>eQ (ve G.Mi D) fun k t f l v=> ?_;have:k=a:=by replace r:=l▸r;cases r;rfl
 subst this;have H:=G.fl _ _ _ l g.2;have I:=(G.F.mul _ _ _ l).1.2 H;obtain⟨d,m⟩:=I;refine rl Y.H V (Cs Y.H u C G F ⟨_,d,m⟩ afn PySem.F.type_list_reverse V (by decide) (ny V (GO ?_)));refine xm afn ⟨_,m,rfl⟩ PySem.F.entry_list_reverse (PySem.F.args_list_reverse_1 _) (ahI k t.toArray d (by refine M kP (M v.length (M cN ?_));exact aL E (by decide))) ⟨m,?_⟩
 have y:(s.heap.update k (mN fun x=>x.reverse)).get? k=O {cls:= .type "list",data:= .seq t.reverse.toArray d}:=by refine M (sb _ m V) ?_;simp[mN]
 exact iH (G.yn (tk:=s.toks) (its':=t.reverse) (qi:=aF) (ta:=z.pl) l ⟨_,y,rfl,d,rfl⟩ (fun J=>⟨d,y⟩) (qD ..) v.rev (fun J=>rfl)) fun L N Q=>jw (.refl K) N Q L
theorem Ka(ha:PB w A sc tb P n a)(hb:PB w A sc tb P n b):PS w A sc tb P n (.ite e a b):=fun py c σ σ' fl Y ho hx=>UN ho fun t' a' b' pos h=>by
 refine xa (aY h) fun h h3=>xa (aY h) fun h1 h2=> ?_;intro K m mu s G;rcases yi hx with⟨e1,hx⟩ |⟨e1,hx⟩
 ·refine mO (((cY Y e _ h1).2 aF e1).then G.F G.L G.Mi fun K1 s1 k1 F1 b1=> ?_);exact wpAny_mono (ha _ c σ σ' fl Y h2 hx K1 m mu s1 (G.of k1 F1)) (fun f s' o=>Out.after k1 b1 .refl o) fun J J x=>x
 ·refine mO (((cY Y e _ h1).2 aI e1).then G.F G.L G.Mi fun K1 s1 k1 F1 b1=> ?_);exact wpAny_mono (hb _ c σ σ' fl Y h3 hx K1 m mu s1 (G.of k1 F1)) (fun f s' o=>Out.after k1 b1 .refl o) fun J J x=>x
theorem Kb{N:aA}(l:PB w A sc tb P n b):PS w A sc tb P n (.oQ N e b):=fun y c d g k Y p q=>UO p fun z B o C h=>by refine xa (aY h) fun h r=>xa (aY h) fun t u=> ?_;obtain rfl:=kA t;intro K m v s G;exact wpAny_While (tj Y.hh (U6 (fun d b K m v s x G=>(cY Y e _ u).2 b x K s _ V G.F G.L G.Mi) (fun d k g e=>l _ c d g k Y r e) q G))
theorem Vg{N:Z}(h:0≤N):sj 0 N 1=(N.toNat:Z):=by
 refine M (afo ..) (M (j4 h) (M (Int.sub_zero ..) ?_))
 by_cases c:0 < N
 ·exact aS c
 ·exact M (aP c) (M (RF h (ja.mp c)) V)
theorem Vh{K:PK}{N j:aA}{v:aJ}{p:PV}(d:∃t,v= .int (0+(j:Z)*1) t)(c:((mK N).map fun k=>PV.int (k:aA))[j]? =O p):RV w K .none v p:=by(refine xe d ?_;clear d;rintro t rfl);replace c:=im▸c;(refine aQ (me.mp c) ?_;rintro q e rfl);(refine xe (md.mp e) ?_;rintro _ rfl);refine M (aeG ..) (M (RH ..) (M (sw ..) ?_));exact .int
theorem Kc(q:PB w A sc tb P n b):PS w A sc tb P n (.forR i e b):=fun E c r s u Y F k=>JI F fun t a3 a4 o a5 h=>by
 obtain⟨H,h⟩:=aY h;obtain rfl:=kA H;refine jf h fun x a6 h=>jH h fun a7 E a8 v h=>jV h fun a h=> ?_;obtain⟨h,I⟩:=aY h;obtain⟨h,y⟩:=aY h;obtain⟨h,L⟩:=aY h;obtain⟨Q,R⟩:=aY h;obtain rfl:=q9 R;refine aQ (Cg k) fun N z k=> ?_;obtain⟨⟨B,v⟩,k⟩:=i0 k;intro K m S a9 G;have l:dG [a] c.env=(aI,eval a c.env)::dG [] c.env:=i5 y [] c.env;refine AV (wpAny_Call_NameR (qe Y.H L G.F (Y.S.bi "range" (by decide)) (v:= .type "range") (by decide+kernel) (by decide+kernel) ?_)) (fun J=>rfl);refine pI (by refine M l ?_;rfl) (iI (by refine M l ?_;intro h;cases h) (by refine M l ?_;rfl) (iG (((cY Y e _ y).ev z G).then fun g a' d C T U W=>jE ?_) l));obtain⟨t,rfl⟩:=W.int_inv;refine call_range_1 <|wpAny_pyIter_range (fP _ V) (small_one (by decide) (by decide) (cL (by decide) B) (iD v (by decide))) (tj Y.hh ?_)
 refine M (Vg B) ?_;have D:Fm c g m S {d with heap:=(d.heap.push {cls:= .type "range",data:= .fields #[.int 0 d.toks,.int N t,.int 1 (d.toks+1)]}),toks:=d.toks+1+1}:=T.push;have X:=D.push (o:={cls:= .type "range_iterator",data:= .fields #[lQ 0,lQ (N.toNat:Z),lQ 1]}) (tk:=d.toks+1+1);have p:=D.fresh
 have a0:IsRangeIter ((d.heap.push {cls:= .type "range",data:= .fields #[.int 0 d.toks,.int N t,.int 1 (d.toks+1)]}).push {cls:= .type "range_iterator",data:= .fields #[lQ 0,lQ (N.toNat:Z),lQ 1]}) (d.heap.push {cls:= .type "range",data:= .fields #[.int 0 d.toks,.int N t,.int 1 (d.toks+1)]}).objs.size (0+((0:aA):Z)*1) ((N.toNat:Z) - ((0:aA):Z)) 1:=by
  have:=fP (d.heap.push {cls:= .type "range",data:= .fields #[.int 0 d.toks,.int N t,.int 1 (d.toks+1)]}) (o:={cls:= .type "range_iterator",data:= .fields #[lQ 0,lQ (N.toNat:Z),lQ 1]}) V;have aa:(0:Z)+((0:aA):Z)*1=0:=(by decide);have z:(N.toNat:Z) - ((0:aA):Z)=N.toNat:=by omega
  exact this
 refine uC (Ck (K:=g) (hs:=(d.heap.push {cls:= .type "range",data:= .fields #[.int 0 d.toks,.int N t,.int 1 (d.toks+1)]})) (σ:=r) Y.H Q (Walks.range Y.hh _ 0 1 N.toNat) (by simp) (fun g a1 h r u s e=>q _ _ r s u (Y.here g a1 h) I e) (fun J J J J J=>Vh) (fun j h st=>⟨_,st⟩) (fun b q=> .inl (by simpa using q)) p.2.1 p.2.2.1 p.1 p.2.2.2 fR (.of_keeps kz) (.refl g) k (G.of C X) a0) fun a2 ab x=> ?_;cases a2 with
 |error _=>exact x|ok f=>exact Out.after C U .refl (Out.after (s1:={d with heap:=(d.heap.push {cls:= .type "range",data:= .fields #[.int 0 d.toks,.int N t,.int 1 (d.toks+1)]})}) (.refl g) (.of_keeps kz) .refl x)
theorem Kd{rev:aU}(hb:PB w A sc tb P n b):PS w A sc tb P n (.forL i rev e b):=fun py c σ σ' fl Y ho hx=>JI ho fun t it b' o pos h=>by
 refine xa (aY h) fun h0 h=> ?_;obtain rfl:=kA h0;refine jf h fun x px h=>xa (aY h) fun h h3=>xa (aY h) fun h1 h2=>aQ (JL hx) fun xs e1 hx=> ?_;refine xa (i0 hx) fun p hx=> ?_;intro K m mu s G;cases rev with
 |false=>
  have h3:bC sc tb e it=true:=h3;have hx:gP (bE P b) i xs σ=O (fl,σ'):=hx
  refine AV (((cY Y e _ h3).ev e1 G).then fun K1 v s1 k1 F1 b1 r1=> ?_) (fun J=>by
   have h3:=qf h3;cases it with
   |GeneratorExp=>exact absurd h3 cM|Set=>exact absurd h3 cM| _=>rfl)
  (refine ip r1.lst_inv ?_;rintro a ob its nn rfl g1 g2 g3 g4);have hl:s1.heap.IsList a its:=⟨ob,F1.keep _ _ g1,g2,nn,g3⟩;refine RI hl (tj Y.hh ?_);have fr:=F1.fresh;have vk:a≠s1.heap.objs.size:=fun z=>by have:=F1.keep _ _ g1;(replace this:=z▸this;replace this:=fR▸this);exact gN.nn this
  have F3:=F1.push (o:={cls:= .type "list_iterator",data:= .fields #[.ref a,.int 0 0]}) (tk:=s1.toks);have hsz:xs.length=its.size:=by refine aT g4.length ?_;exact rfl
  refine uC (Ck (K:=K1) (hs:=s1.heap) (σ:=σ) Y.H h1 (afp Y.hh s1.heap.objs.size a vk its) hsz (fun K1 gQ h σ fl σ' e=>hb _ _ σ σ' fl (Y.here K1 gQ h) h2 e) (fun K' j v q hk hv hj=> ?_) (fun j h st=> ?_) (fun z hz=> ?_) fr.2.1 fr.2.2.1 fr.1 fr.2.2.2 fR (.of_keeps kz) (.refl K1) hx (G.of k1 F3) ⟨?_,hl.push _⟩) fun r s' x=> ?_
  ·refine aQ (g4.get hj) fun v' e2 r2=> ?_;replace e2:=pB▸e2;replace e2:=hv▸e2;cases e2;exact r2.mono hk
  ·refine aQ st.1 fun o e2 J=> ?_;exact⟨o,e2⟩
  ·simp at hz;rcases hz with rfl |rfl
   ·exact .inl V
   ·exact .inr ⟨ob,g1⟩
  ·exact⟨_,fP _ V,rfl,rfl⟩
  ·cases r with
   |error _=>exact x|ok f=>exact Out.after k1 b1 .refl x
 |true=>
  have hx:gP (bE P b) i xs.reverse σ=O (fl,σ'):=hx;refine jH h3 fun y py l p2 h=>jV h fun a h=>xa (aY h) fun h h6=>xa (aY h) fun h4 h5=> ?_;obtain rfl:=q9 h4;have es:dG [a] c.env=(aI,eval a c.env)::dG [] c.env:=i5 h6 [] c.env;refine AV (wpAny_Call_NameR (qe Y.H h5 G.F (Y.S.bi "reversed" (by decide)) (v:= .type "reversed") (by decide+kernel) (by decide+kernel) ?_)) (fun J=>rfl);refine pI (by refine M es ?_;rfl) (iI (by refine M es ?_;intro h;cases h) (by refine M es ?_;rfl) (iG (((cY Y e _ h6).ev e1 G).then fun K1 v s1 k1 F1 b1 r1=>jE ?_) es));(refine ip r1.lst_inv ?_;rintro a' ob its nn rfl g1 g2 g3 g4);have hl:s1.heap.IsList a' its:=⟨ob,F1.keep _ _ g1,g2,nn,g3⟩;refine call_reversed_list hl ?_;have hit:(s1.heap.push (revObj a' ((its.size:Z) - 1))).IsRevIter s1.heap.objs.size a' ((its.size:Z) - 1):=⟨_,fP _ V,rfl,rfl⟩;refine wpAny_pyIter_revIter hit (tj Y.hh ?_);have fr:=F1.fresh;have vk:a'≠s1.heap.objs.size:=fun z=>by have:=F1.keep _ _ g1;(replace this:=z▸this;replace this:=fR▸this);exact gN.nn this
  have F3:=F1.push (o:=revObj a' ((its.size:Z) - 1)) (tk:=s1.toks);have hsz:xs.reverse.length=its.size:=by refine M xr (aT g4.length ?_);exact rfl
  refine uC (Ck (K:=K1) (hs:=s1.heap) (σ:=σ) Y.H h1 (Walks.listRev Y.hh s1.heap.objs.size a' vk its) hsz (fun K1 gQ h σ fl σ' e=>hb _ _ σ σ' fl (Y.here K1 gQ h) h2 e) (fun K' j v q hk hv hj=> ?_) (fun j h st=> ?_) (fun z hz=> ?_) fr.2.1 fr.2.2.1 fr.1 fr.2.2.2 fR (.of_keeps kz) (.refl K1) hx (G.of k1 F3) ⟨ji _,by simpa using hit,hl.push _⟩) fun r s' x=> ?_
  ·have Vi:j < xs.length:=by
    rcases np j xs.length with h |h
    ·exact h
    ·rw[xt (by simpa using h)] at hj;cases hj
   replace hj:=(afq Vi)▸hj;refine aQ (g4.get hj) fun v' e2 r2=> ?_;replace e2:=pB▸e2;have Cu:its.size=xs.length:=by refine aT hsz ?_;simp
   replace hv:=Cu▸hv;replace e2:=hv▸e2;cases e2;exact r2.mono hk
  ·refine aQ st.2.1 fun o e2 J=> ?_;exact⟨o,e2⟩
  ·simp at hz;rcases hz with rfl |rfl
   ·exact .inl V
   ·exact .inr ⟨ob,g1⟩
  ·cases r with
   |error _=>exact x|ok f=>exact Out.after k1 b1 .refl x
theorem Vj{x:PV}{σ σ':Sg}{fl:Fl}(h:(match x with
  | .bV=>σ.mu.map fun xs=>(Fl.ret (.lst xs),σ)|x=>O (.ret x,σ))=O (fl,σ')):(x= .bV∧∃xs,σ.mu=O xs∧fl= .ret (.lst xs)∧σ=σ')∨(x≠ .bV∧fl= .ret x∧σ=σ'):=by
 by_cases hx:x= .bV
 ·subst hx;refine aQ (tl h) fun xs e h=> ?_;obtain⟨rfl,rfl⟩:=qO h;exact .inl ⟨rfl,xs,e,rfl,rfl⟩
 ·refine .inr ⟨hx,?_⟩;cases x with
  |bV=>exact absurd rfl hx| _=>obtain⟨rfl,rfl⟩:=nP h;exact⟨rfl,rfl⟩
theorem Ke:PS w A sc tb P n (.ret e):=fun H c I L N Y d p=>UP d fun v Q h=>IT h fun v d=>by
 refine aQ (dQ p) fun x q r=> ?_;intro K m t s G;refine nA (((cY Y e _ d).ev q G).then fun u v R g k l o=> ?_);rcases Vj r with⟨rfl,S,y,rfl,rfl⟩ |⟨z,rfl,rfl⟩
 ·(refine aQ o.pT ?_;rintro a B rfl);exact dB ((G.of g k).freeze y) fun C D E F=>⟨C,m,aB,g.trans D,l,(fun J e=>by cases e),_,rfl,E.F,F a B⟩
 ·exact⟨u,m,t,g,l,.refl,v,rfl,k,o.any z⟩
theorem Kf:PS w A sc tb P n .brk:=fun k c l o q Y d g=>UQ d fun p J=>by(refine xa (nP g) ?_;rintro rfl rfl);exact fun K m h s G=>wpAny_Break ⟨K,m,h,.refl K,.refl,.refl,rfl,G⟩
theorem Kg:PB w A sc tb P n .nil:=fun h c k l o Y d g=>by obtain rfl:=kA d;obtain⟨rfl,rfl⟩:=nP g;exact fun K m p s G=>wpAny_execs_nil (jw (.refl K) .refl .refl G)
theorem Cv{i:aA}{d g:Sg}{k:Fl}(h:ex P (.kV i) d=O (k,g)):∃c,d.mu=O c∧k= .next∧d.freeze c=g:=by refine xa (rh h) fun J h=>aQ (tl h) fun c e h=> ?_;(refine xa (qO h) ?_;rintro rfl rfl);exact⟨c,e,rfl,rfl⟩
theorem Vk{st:S}(h:yl st=aF):∃i,st= .kV i:=S.kV.elim (motive_1:=fun st=>∃i,st= .kV i) st (eq_of_beq h) fun i=>⟨i,rfl⟩
theorem Kh{st:S}(C:PS w A sc tb P n st)(H:PB w A sc tb P n b):PB w A sc tb P n (.cons st b):=fun h c D I L Y d g=>by
 have d:((yl st).rec (h.rec aI fun p r J=>j' sc tb st p && dY sc tb b r) (dY sc tb b h):aU)=true:=d;cases N:yl st with
 |true=>
  obtain⟨i,rfl⟩:=Vk N;have d:dY sc tb b h=true:=d;rcases ym g with⟨eJ,e,g⟩ |⟨eJ,e,g⟩ |⟨u,eJ,e,g⟩
  ·(refine dB (Cv e) ?_;rintro a1 Q _ rfl);intro K m B s G;exact dB (G.freeze Q) fun R T U J=>wpAny_mono (H _ c _ I L Y d g R m aB s U) (fun f W o=>Out.after T .refl (fun J e=>by cases e) o) fun J J x=>x
  ·exact nomatch (Cv e).choose_spec.2.1
  ·exact nomatch (Cv e).choose_spec.2.1
 |false=>
  replace d:=N▸d;cases h with
  |nil=>exact absurd d cM
  |cons p h=>
   have d:j' sc tb st p=aF∧dY sc tb b h=true:=aY d;intro K m B s G;refine wpAny_execs_cons ?_;rcases ym g with⟨eJ,e,g⟩ |⟨eJ,e,g⟩ |⟨u,eJ,e,g⟩
   ·refine wpAny_mono (C _ c D eJ .next Y d.1 e K m B s G) (fun f E o=> ?_) fun J J x=>x;obtain⟨k,l,q,t,y,z,rfl,F⟩:=o;exact wpAny_mono (H _ c eJ I L Y d.2 g k l q E F) (fun f W o=>Out.after t y z o) fun J J x=>x
   ·obtain⟨rfl,rfl⟩:=nP g;refine wpAny_mono (C _ c D _ .brk Y d.1 e K m B s G) (fun f E o=> ?_) fun J J x=>x;obtain⟨k,l,q,t,y,z,rfl,F⟩:=o;exact⟨k,l,q,t,y,z,rfl,F⟩
   ·obtain⟨rfl,rfl⟩:=nP g;refine wpAny_mono (C _ c D _ (.ret u) Y d.1 e K m B s G) (fun f E o=> ?_) fun J J x=>x;obtain⟨k,l,q,t,y,z,v,rfl,X,a0⟩:=o;exact⟨k,l,q,t,y,z,v,rfl,X,a0⟩
end
theorem Ki:(∀st,PS w A sc tb P n st)∧∀b,PB w A sc tb P n b:=
 ⟨fun st=>S.rec (motive_1:=PS w A sc tb P n) (motive_2:=PB w A sc tb P n) (fun J J=>J0) (fun J J=>J1) (fun J J=>J2) (fun J J J J=>J3) (fun J J J=>J4) (fun J J J=>J5) (fun J J J=>J6) (fun J J J J=>J7) (fun J J=>J8) (fun J J J=>J9) (fun J=>J') (fun J J J J J J J h=>absurd h cM) (fun J J J d c=>Ka d c) (fun J J J c=>Kb c) (fun J J J c=>Kc c) (fun J J J J c=>Kd c) (fun J=>Ke) Kf (fun J J J J J J J h=>nn h) Kg (fun J J g c=>Kh g c) st,fun b=>B.rec (motive_1:=PS w A sc tb P n) (motive_2:=PB w A sc tb P n) (fun J J=>J0) (fun J J=>J1) (fun J J=>J2) (fun J J J J=>J3) (fun J J J=>J4) (fun J J J=>J5) (fun J J J=>J6) (fun J J J J=>J7) (fun J J=>J8) (fun J J J=>J9) (fun J=>J') (fun J J J J J J J h=>absurd h cM) (fun J J J d c=>Ka d c) (fun J J J c=>Kb c) (fun J J J c=>Kc c) (fun J J J J c=>Kd c) (fun J=>Ke) Kf (fun J J J J J J J h=>nn h) Kg (fun J J g c=>Kh g c) b⟩
theorem yq(st:S)(d:bR)(c:Cx)(g h:Sg)(k:Fl)(Y:Hyp w A c sc tb P n)(l:j' sc tb st d=aF)(m:ex P st g=O (k,h)):sZ w A c tb g (jl d c.env) k h:=Ki.1 st d c g h k Y l m
theorem nQ(b:B)(d:aD bR)(c:Cx)(g h:Sg)(k:Fl)(Y:Hyp w A c sc tb P n)(l:dY sc tb b d=aF)(m:bE P b g=O (k,h)):sZ w A c tb g (eH d c.env) k h:=Ki.2 b d c g h k Y l m
end
end
section
structure Df where
 name:Str
 params:oB
 body:aD bR
 scope:dO
noncomputable def Kj(s:bR):aG Df:=ye aB s fun n a b c J=>O ⟨n,a,b,c⟩
noncomputable def aK(i:aA):Df:=((pg.main.body[i]?).bind Kj).getD ⟨qP,{posonlyargs:=[],args:=[],vararg:=aB,kwonlyargs:=[],kw_defaults:=[],kwarg:=aB,defaults:=[]},[],{kind:= .module,names:=[],isGenerator:=aI,isCoroutine:=aI,more:=[]}⟩
inductive vm(mg:Str→aG aJ)(h:bF)(d:Df):Prop
 |mk (a o pm cd doc:_) (h1:mg d.name=O (.ref a)) (h2:h.get? a=O o) (h3:o.data= .func (mP d.name d.params d.body d.scope pm cd doc)) (h4:h.CodeRec cd d.name):vm mg h d
noncomputable def iv(d:Df)(k:aA)(b:Tb):Bool:=
 (d.scope.kind== .function) && !d.scope.isCoroutine && !d.scope.isGenerator && d.scope.names.all (fun p=>p.2 != .cell) && je d.scope b && (b.take k==(d.params.args.map fun a=>(a.arg,aF))) && decide (d.params.args.length=k)
theorem Kk{c:aD Str}{d:aD aJ}{i:aA}{x:Str}{v:aJ}(g:c.Nodup)(j:c[i]? =O x)(k:d[i]? =O v):(c.zip d).reverse.lookup x=O v:=by
 have m:∀(l:aD (Str×aJ)),(l.map (·.1)).Nodup→(x,v)∈l→l.lookup x=O v:=by
  intro l
  induction l with
  |nil=>intro _ h;cases h
  |cons p r ih=>
   intro f hm;obtain⟨y,u⟩:=p;simp only[gJ,afr] at f;rcases gA.mp hm with e |hm
   ·cases e;simp
   ·have n:x≠y:=fun e=>f.1 (e▸iX.mpr ⟨(x,v),hm,rfl⟩);refine M GZ ?_;have:(x==y)=false:=beq_eq_false_iff_ne.mpr n;exact M this <|ih f.2 hm
 refine m _ ?_ ?_
 ·refine M uE ?_
  have o:((c.zip d).map (·.1)).Nodup:=by
   have:(c.zip d).map (·.1)=c.take d.length:=by
    clear j k g
    induction c generalizing d with
    |nil=>simp
    |cons a r ih=>cases d with
     |nil=>exact rfl|cons b t=>simp[ih]
   exact M this <|(Gk _ _).nodup g
  exact List.pairwise_reverse.mpr (o.imp fun h=>Ne.symm h)
 ·exact iR pL <|kt (i:=i) (List.getElem?_zip_eq_some.mpr ⟨j,k⟩)
inductive Cw(w:aV)(c:Cx)(K:PK)(y:PV)(f:j5)(s':aM):Prop
 |mk (K':PK) (m':Str→aG aJ) (my:Mu) (v:aJ) (k:PK.le K K') (e:f= .ret v) (F:Fm c K' m' my s') (r:RV w K' aB v y):Cw w c K y f s'
theorem oW.by{w:aV}{mg mb:Str→aG aJ}{h₀:bF}{n k:aA}{d:Df}{tb:Tb}{T:aD Tab}{P:bT}{xs:aD PV}{y:PV}{rest:aD (aG PV)}
  (hd:iv d k tb=aF) (hS:vm mg h₀ d)
  (rm:∀(vs:aD aJ) (pm cd doc:aJ),vs.length=k→uF (mP d.name d.params d.body d.scope pm cd doc) ⟨vs,[]⟩=pure ((d.params.args.map (·.arg)).zip vs))
  (Cy:∀c:Cx,c.mg=mg→c.mb=mb→c.h₀=h₀→c.T=T→yf w c n P)
  (hk:xs.length=k)
  (Cz:∀(A:bX) (c:Cx) (K:PK) (m:Str→aG aJ) (s:aM),c.mg=mg→c.mb=mb→c.h₀=h₀→c.T=T→Hyp w A c d.scope tb P n→Gd w c tb K m aB s {loc:=xs.map O++rest}→
   aN (aO pg w) A (eH d.body c.env) (Cw w c K y) (fun J J=>bO) s) (hr:∀q,O q∈rest→bO):
  Ct w mg mb h₀ T (n+1) d.name xs y:=by
 obtain⟨a,o,pm,cd,doc,g1,g2,g3,g4⟩:=hS;refine⟨a,o,_,g1,g2,g3,?_⟩;intro A K s vs hh Kl Vl vn qj hB CA CB vo hv;unfold iv at hd;simp only[hG,nt,mh,lL,j2,Gs] at hd;obtain⟨⟨⟨⟨⟨⟨d1,d2⟩,d3⟩,d4⟩,d5⟩,d6⟩,d7⟩:=hd;have Vm:vs.length=k:=by refine M hv.length ?_;exact hk
 have vp:∀b o,h₀.get? b=O o→s.heap.get? b=O o:=fun b o e=>qj _ _ (vn b o e);have CC:=hB.keeps vp;have yt:=d5;unfold je at yt;simp only[hG,j2,lL] at yt
 have CD:(d.params.args.map (·.arg)).Nodup:=by
  have:d.params.args.map (·.arg)=(tb.map (·.1)).take k:=by refine aT qH (M d6 ?_);simp
  refine M this ?_;exact(Gk _ _).nodup yt.2
 have yu:∀i x,(d.params.args.map (·.arg))[i]? =O x→tb[i]? =O (x,aF)∧i < k:=by
  intro i x e
  have hi:i < k:=by
   rcases np i k with h |h
   ·exact h
   ·rw[xt (by simpa [d7] using h)] at e;cases e
  refine⟨?_,hi⟩;have:(tb.take k)[i]? =tb[i]? :=M G0 (M (aS hi) V);refine aT this (M d6 ?_);simp only[im] at e ⊢;cases q:d.params.args[i]? with
  |none=>replace e:=q▸e;cases e|some z=>replace e:=q▸e;cases e;rfl
 let env:=envOf d.name d.scope s.heap.objs.size a cd
 let c:Cx:={mg:=mg,mb:=mb,h₀:=h₀,pY:=s.os,fH:=K,hE:=s.heap,env:=env,T:=T,ir:=s.gens}
 refine xu (call_plain_ret (bZ (hV _ _) (bK Kl (by decide)):A.depth < 1000) (vp _ _ g2) g3 CC.nolimit (g4.keeps vp) (rm vs pm cd doc Vm) ?_ (fun mz F=> ?_) d2 d3 d1 d4)
 ·intro p hp;obtain⟨x,v⟩:=p;have hm:=afs hp;obtain⟨i,hi,e⟩:=aft hm.1;obtain⟨t1,_⟩:=yu i x (M (fD hi) (M e V));have:=yt.1.2 _ (kt t1);simp only[hG,RJ,mh] at this;exact this.2
 ·have H:fF c d.scope tb:=⟨rfl,d5,rfl,rfl⟩;have Y:Hyp w (A.deeper env) c d.scope tb P n:=⟨hh,(by show A.depth+1+n < 900;exact SX Kl),(by show A.units+3+10*n < 9000;exact HP Vl),H,Cy c V rfl rfl rfl⟩
  have G:Gd w c tb K (fun x=>((d.params.args.map (·.arg)).zip vs).reverse.lookup x) aB {s with heap:=mz,toks:=s.toks+((d.params.args.map (·.arg)).zip vs).length} {loc:=xs.map O++rest}:=by
   refine⟨⟨F.ns,fun b o e=>F.keep _ _ (qj b o e),?_,vn,.refl K,fun b o J=>F.keep b o,fun b o e=> .inl e,fR,fun J J J e=>(by cases e),.refl CA,rfl,hB,CB,fun t ht=>(vo t ht).some,fun t ht=>(vo t ht).mono (fun J J e=>e) (F.keep _)⟩,?_,.none,fun J J J e=>(by cases e)⟩
   ·show K s.heap.objs.size=aB;cases e:K s.heap.objs.size with
    |none=>rfl|some o=>have:=qj _ _ e;replace this:=fR▸this;exact nn this
   ·intro i x kk p hi hp
    by_cases oZ:i < xs.length
    ·(rewrite[sx (by simpa using oZ)] at hp;replace hp:=im▸hp;replace hp:=(fD oZ)▸hp)
     have hp:xs[i] =p:=by simpa using hp
     (refine aQ (hv.get (fD oZ)) ?_;rintro v Vn Vo)
     have Vp:(d.params.args.map (·.arg))[i]? =O x∧kk=true:=by
      have e1:(tb.take k)[i]? =O (x,kk):=by refine M G0 (M (aS (bK oZ (cI hk))) ?_);exact hi
      replace e1:=d6▸e1;simp only[im] at e1 ⊢;cases q:d.params.args[i]? with
      |none=>replace e1:=q▸e1;cases e1|some z=>replace e1:=q▸e1;cases e1;exact⟨rfl,rfl⟩
     obtain⟨gD,rfl⟩:=Vp;exact⟨v,Kk CD gD Vn,hp▸Vo.up _⟩
    ·rw[pM (by simpa using i8.mp oZ)] at hp;exact(hr p (kt hp)).elim
  refine wpAny_mono (Cz _ c K _ _ V rfl rfl rfl Y G) (fun f s' o=> ?_) fun J J x=>x;obtain⟨K',m',my,v,k1,rfl,F',r⟩:=o;exact⟨K',k1,F'.keep,F'.new,F'.cU,r,F'.os,F'.gens,F'.tabs⟩
theorem oW.of
  (hd:iv d k tb=aF) (hS:vm mg h₀ d)
  (rm:∀(vs:aD aJ) (pm cd doc:aJ),vs.length=k→uF (mP d.name d.params d.body d.scope pm cd doc) ⟨vs,[]⟩=pure ((d.params.args.map (·.arg)).zip vs))
  (Cy:∀c:Cx,c.mg=mg→c.mb=mb→c.h₀=h₀→c.T=T→yf w c n P)
  (rn:dY d.scope tb b d.body=aF) (hk:xs.length=k) (hx:bE P b {loc:=xs.map O++rest}=O (.ret y,σ')) (hr:∀q,O q∈rest→bO):
  Ct w mg mb h₀ T (n+1) d.name xs y:=oW.by hd hS rm Cy hk (fun A c K m s e1 e2 e3 e4 Y G=>wpAny_mono (nQ b d.body c _ σ' (.ret y) Y rn hx K m aB s G) (fun f s' o=>by
  obtain⟨K',m',my,k1,b1,ms,v,rfl,F',r⟩:=o;exact⟨K',m',my,v,k1,rfl,F',r⟩) fun J J x=>x) hr
end
section
noncomputable def Km:Tb:=[(aH "a",aF),(aH "b",aF),(aH "n",aF),(aH "pad",aF),(aH "half_n",aF),(aH "mask",aF),(aH "b1",aF),(aH "b2",aF),(aH "q1",aF),(aH "r",aF),(aH "q2",aF)]
noncomputable def yv:B:=(.cons (.ite (.cmp .LtE (.bin .Sub (.dH "bit_length" (.nm 0) .nil) (.nm 2)) (.gk (aH "_DIV_LIMIT"))) (.cons (.ret (.bi "divmod" (.cons (.nm 0) (.cons (.nm 1) .nil))))
  .nil) .nil)
  (.cons (.asg 3 (.bin .BitAnd (.nm 2) (.int 1)))
  (.cons (.ite (.nm 3) (.cons (.aug 0 .LShift (.int 1))
  (.cons (.aug 1 .LShift (.int 1))
  (.cons (.aug 2 .Add (.int 1))
  .nil))) .nil)
  (.cons (.asg 4 (.bin .RShift (.nm 2) (.int 1)))
  (.cons (.asg 5 (.bin .Sub (.bin .LShift (.int 1) (.nm 4)) (.int 1)))
  (.cons (.mW 6 7 (.bin .RShift (.nm 1) (.nm 4)) (.bin .BitAnd (.nm 1) (.nm 5)))
  (.cons (.jp [8,9] (.call (aH "_div3n2n") (.cons (.bin .RShift (.nm 0) (.nm 2)) (.cons (.bin .BitAnd (.bin .RShift (.nm 0) (.nm 4)) (.nm 5)) (.cons (.nm 1) (.cons (.nm 6) (.cons (.nm 7) (.cons (.nm 4) .nil))))))))
  (.cons (.jp [10,9] (.call (aH "_div3n2n") (.cons (.nm 9) (.cons (.bin .BitAnd (.nm 0) (.nm 5)) (.cons (.nm 1) (.cons (.nm 6) (.cons (.nm 7) (.cons (.nm 4) .nil))))))))
  (.cons (.ite (.nm 3) (.cons (.aug 9 .RShift (.int 1))
  .nil) .nil)
  (.cons (.ret (.tup (.cons (.bin .BitOr (.bin .LShift (.nm 8) (.nm 4)) (.nm 10)) (.cons (.nm 9) .nil))))
  .nil))))))))))
theorem Ko:dY (aK 9).scope Km (yv) (aK 9).body=true:=by decide+kernel
theorem Kp:iv (aK 9) 3 Km=true:=by decide+kernel
noncomputable def Kq:Tb:=[(aH "a12",aF),(aH "a3",aF),(aH "b",aF),(aH "b1",aF),(aH "b2",aF),(aH "n",aF),(aH "q",aF),(aH "r",aF)]
noncomputable def Kr(N:aA):B:=(.cons (.ite (.cmp .Eq (.bin .RShift (.nm 0) (.nm 5)) (.nm 3)) (.cons (.mW 6 7 (.bin .Sub (.bin .LShift (.int 1) (.nm 5)) (.int 1)) (.bin .Add (.bin .Sub (.nm 0) (.bin .LShift (.nm 3) (.nm 5))) (.nm 3)))
  .nil) (.cons (.jp [6,7] (.call (aH "_div2n1n") (.cons (.nm 0) (.cons (.nm 3) (.cons (.nm 5) .nil)))))
  .nil))
  (.cons (.asg 7 (.bin .Sub (.bin .BitOr (.bin .LShift (.nm 7) (.nm 5)) (.nm 1)) (.bin .Mult (.nm 6) (.nm 4))))
  (.cons (.oQ N (.cmp .Lt (.nm 7) (.int 0)) (.cons (.aug 6 .Sub (.int 1))
  (.cons (.aug 7 .Add (.nm 2))
  .nil)))
  (.cons (.ret (.tup (.cons (.nm 6) (.cons (.nm 7) .nil))))
  .nil))))
theorem Vq(N:aA):dY (aK 10).scope Kq (Kr N) (aK 10).body=true:=by kernel_rfl
theorem Vr:iv (aK 10) 6 Kq=true:=by decide+kernel
noncomputable def Ks:Tb:=[(aH "a",aF),(aH "b",aF),(aH "n",aF),(aH "a_digits",aF),(aH "r",aF),(aH "q_digits",aF),(aH "a_digit",aF),(aH "q_digit",aF),(aH "q",aF)]
theorem Vs:iv (aK 13) 2 Ks=true:=by decide+kernel
noncomputable def Kt:Tb:=[(aH "a",aF),(aH "b",aF),(aH "q",aF),(aH "r",aF)]
noncomputable def vq:B:=(.cons (.ite (.cmp .Eq (.nm 1) (.int 0)) (.cons .bad
  .nil) (.cons (.ite (.cmp .Lt (.nm 1) (.int 0)) (.cons (.jp [2,3] (.call (aH "int_divmod") (.cons (.un .USub (.nm 0)) (.cons (.un .USub (.nm 1)) .nil))))
  (.cons (.ret (.tup (.cons (.nm 2) (.cons (.un .USub (.nm 3)) .nil))))
  .nil)) (.cons (.ite (.cmp .Lt (.nm 0) (.int 0)) (.cons (.jp [2,3] (.call (aH "int_divmod") (.cons (.un .Invert (.nm 0)) (.cons (.nm 1) .nil))))
  (.cons (.ret (.tup (.cons (.un .Invert (.nm 2)) (.cons (.bin .Add (.nm 1) (.un .Invert (.nm 3))) .nil))))
  .nil)) (.cons (.ret (.call (aH "_divmod_pos") (.cons (.nm 0) (.cons (.nm 1) .nil))))
  .nil))
  .nil))
  .nil))
  .nil)
theorem Vt:dY (aK 14).scope Kt (vq) (aK 14).body=true:=by decide+kernel
theorem Vu:iv (aK 14) 2 Kt=true:=by decide+kernel
noncomputable def Ku:Tb:=[(aH "ch_a",aF),(aH "ch_b",aF)]
noncomputable def Kv:B:=(.cons (.ite (.cmp .Eq (.nm 0) (.nm 1)) (.cons (.ret (.int 0))
  .nil) .nil)
  (.cons (.ite (.cmp .Eq (.dH "lower" (.nm 0) .nil) (.dH "lower" (.nm 1) .nil)) (.cons (.ret (.gk (aH "_CASE_COST")))
  .nil) .nil)
  (.cons (.ret (.gk (aH "_MOVE_COST")))
  .nil)))
theorem Vv:dY (aK 24).scope Ku (Kv) (aK 24).body=true:=by decide+kernel
theorem Vw:iv (aK 24) 2 Ku=true:=by decide+kernel
noncomputable def Kw:Tb:=[(aH "a",aF),(aH "b",aF),(aH "max_cost",aF),(aH "pre",aF),(aH "post",aF),(aH "row",aF),(aH "result",aF),(aH "bindex",aF),(aH "bchar",aF),(aH "distance",aF),(aH "minimum",aF),(aH "index",aF),(aH "substitute",aF),(aH "insert_delete",aF)]
noncomputable def Kx(N:aA):B:=(.cons (.ite (.cmp .Eq (.nm 0) (.nm 1)) (.cons (.ret (.int 0))
  .nil) .nil)
  (.cons (.asg 3 (.int 0))
  (.cons (.oQ N (.bo .And (.cons (.dE (.nm 0) (.nm 3) .none) (.cons (.dE (.nm 1) (.nm 3) .none) (.cons (.cmp .Eq (.sub (.nm 0) (.nm 3)) (.sub (.nm 1) (.nm 3))) .nil)))) (.cons (.aug 3 .Add (.int 1))
  .nil))
  (.cons (.asg 0 (.dE (.nm 0) (.nm 3) .none))
  (.cons (.asg 1 (.dE (.nm 1) (.nm 3) .none))
  (.cons (.asg 4 (.int 0))
  (.cons (.oQ N (.bo .And (.cons (.dE (.nm 0) .none (.bo .Or (.cons (.nm 4) (.cons .none .nil)))) (.cons (.dE (.nm 1) .none (.bo .Or (.cons (.nm 4) (.cons .none .nil)))) (.cons (.cmp .Eq (.sub (.nm 0) (.bin .Sub (.nm 4) (.int 1))) (.sub (.nm 1) (.bin .Sub (.nm 4) (.int 1)))) .nil)))) (.cons (.aug 4 .Sub (.int 1))
  .nil))
  (.cons (.asg 0 (.dE (.nm 0) .none (.bo .Or (.cons (.nm 4) (.cons .none .nil)))))
  (.cons (.asg 1 (.dE (.nm 1) .none (.bo .Or (.cons (.nm 4) (.cons .none .nil)))))
  (.cons (.ite (.bo .Or (.cons (.un .Not (.nm 0)) (.cons (.un .Not (.nm 1)) .nil))) (.cons (.ret (.bin .Mult (.gk (aH "_MOVE_COST")) (.bin .Add (.bi "len" (.cons (.nm 0) .nil)) (.bi "len" (.cons (.nm 1) .nil)))))
  .nil) .nil)
  (.cons (.ite (.bo .Or (.cons (.cmp .Gt (.bi "len" (.cons (.nm 0) .nil)) (.gk (aH "_MAX_STRING_SIZE"))) (.cons (.cmp .Gt (.bi "len" (.cons (.nm 1) .nil)) (.gk (aH "_MAX_STRING_SIZE"))) .nil))) (.cons (.ret (.bin .Add (.nm 2) (.int 1)))
  .nil) .nil)
  (.cons (.ite (.cmp .Lt (.bi "len" (.cons (.nm 1) .nil)) (.bi "len" (.cons (.nm 0) .nil))) (.cons (.mW 0 1 (.nm 1) (.nm 0))
  .nil) .nil)
  (.cons (.ite (.cmp .Gt (.bin .Mult (.bin .Sub (.bi "len" (.cons (.nm 1) .nil)) (.bi "len" (.cons (.nm 0) .nil))) (.gk (aH "_MOVE_COST"))) (.nm 2)) (.cons (.ret (.bin .Add (.nm 2) (.int 1)))
  .nil) .nil)
  (.cons (.mv 5 (.lS (.cons (.gk (aH "_MOVE_COST")) (.cons (.bin .Mult (.gk (aH "_MOVE_COST")) (.bin .Add (.bi "len" (.cons (.nm 0) .nil)) (.int 1))) (.cons (.gk (aH "_MOVE_COST")) .nil)))))
  (.cons (.asg 6 (.int 0))
  (.cons (.forR 7 (.bi "len" (.cons (.nm 1) .nil)) (.cons (.asg 8 (.sub (.nm 1) (.nm 7)))
  (.cons (.uU 9 6 (.bin .Mult (.nm 7) (.gk (aH "_MOVE_COST"))))
  (.cons (.asg 10 (.int 9223372036854775807))
  (.cons (.forR 11 (.bi "len" (.cons (.nm 0) .nil)) (.cons (.asg 12 (.bin .Add (.nm 9) (.call (aH "_substitution_cost") (.cons (.nm 8) (.cons (.sub (.nm 0) (.nm 11)) .nil)))))
  (.cons (.asg 9 (.sub (.nm 5) (.nm 11)))
  (.cons (.asg 13 (.bin .Add (.bi "min" (.cons (.nm 6) (.cons (.nm 9) .nil))) (.gk (aH "_MOVE_COST"))))
  (.cons (.asg 6 (.bi "min" (.cons (.nm 13) (.cons (.nm 12) .nil))))
  (.cons (.oP 5 (.nm 11) (.nm 6))
  (.cons (.ite (.cmp .Lt (.nm 6) (.nm 10)) (.cons (.asg 10 (.nm 6))
  .nil) .nil)
  .nil)))))))
  (.cons (.ite (.cmp .Gt (.nm 10) (.nm 2)) (.cons (.ret (.bin .Add (.nm 2) (.int 1)))
  .nil) .nil)
  .nil))))))
  (.cons (.ret (.nm 6))
  .nil)))))))))))))))))
theorem Vx(N:aA):dY (aK 25).scope Kw (Kx N) (aK 25).body=true:=by kernel_rfl
theorem Vy:iv (aK 25) 3 Kw=true:=by decide+kernel
noncomputable def Ky:Tb:=[(aH "script",aF),(aH "cells",aF),(aH "place",aF)]
noncomputable def Kz:B:=(.cons (.mv 1 (.lst (.cons (.int 739295) (.cons (.int 97445) (.cons (.int 13) (.cons (.int 3202493070) (.cons (.un .USub (.int 7)) (.cons (.un .USub (.int 7)) .nil))))))))
  (.cons (.forR 2 (.bi "len" (.cons (.nm 0) .nil)) (.cons (.sM 1 (.bin .Mod (.nm 2) (.int 6)) .Add (.sub (.nm 0) (.nm 2)))
  .nil))
  (.cons (.ret (.nm 1))
  .nil)))
theorem Vz:dY (aK 27).scope Ky (Kz) (aK 27).body=true:=by decide+kernel
theorem VA:iv (aK 27) 1 Ky=true:=by decide+kernel
noncomputable def KA:Tb:=[(aH "place",aF),(aH "year",aF),(aH "left",aF),(aH "month",aF),(aH "days",aF)]
noncomputable def CE:B:=(.cons (.asg 1 (.bin .FloorDiv (.bin .Sub (.bin .Add (.bin .Sub (.nm 0) (.bin .FloorDiv (.nm 0) (.int 1460))) (.bin .FloorDiv (.nm 0) (.int 36524))) (.bin .FloorDiv (.nm 0) (.int 146096))) (.int 365)))
  (.cons (.asg 2 (.bin .Add (.bin .Sub (.bin .Sub (.nm 0) (.bin .Mult (.int 365) (.nm 1))) (.bin .FloorDiv (.nm 1) (.int 4))) (.bin .FloorDiv (.nm 1) (.int 100))))
  (.cons (.asg 3 (.int 2))
  (.cons (.forL 4 aI (.lst (.cons (.int 31) (.cons (.int 30) (.cons (.int 31) (.cons (.int 30) (.cons (.int 31) (.cons (.int 31) (.cons (.int 30) (.cons (.int 31) (.cons (.int 30) (.cons (.int 31) (.cons (.int 31) .nil)))))))))))) (.cons (.ite (.cmp .Lt (.nm 2) (.nm 4)) (.cons .brk
  .nil) .nil)
  (.cons (.aug 2 .Sub (.nm 4))
  (.cons (.aug 3 .Add (.int 1))
  .nil))))
  (.cons (.ret (.tup (.cons (.bin .Add (.nm 1) (.bin .FloorDiv (.nm 3) (.int 12))) (.cons (.bin .Mod (.nm 3) (.int 12)) (.cons (.bin .Add (.nm 2) (.int 1)) .nil)))))
  .nil)))))
theorem VB:dY (aK 28).scope KA (CE) (aK 28).body=true:=by decide+kernel
theorem VC:iv (aK 28) 1 KA=true:=by decide+kernel
noncomputable def KC:Tb:=[(aH "number",aF)]
noncomputable def KD:B:=(.cons (.ret (.dE (.bi "str" (.cons (.bin .Add (.int 100) (.nm 0)) .nil)) (.int 1) .none))
  .nil)
theorem VD:dY (aK 29).scope KC (KD) (aK 29).body=true:=by decide+kernel
theorem VE:iv (aK 29) 1 KC=true:=by decide+kernel
noncomputable def KE:Tb:=[(aH "draw",aF),(aH "letters",aF),(aH "stays",aF)]
noncomputable def KH:B:=(.cons (.asg 2 (.lst (.cons (.int 172) (.cons (.int 174) (.cons (.int 846) (.cons (.int 848) (.cons (.int 6149) (.cons (.int 6151) (.cons (.int 6154) (.cons (.int 6158) (.cons (.int 8202) (.cons (.int 8206) (.cons (.int 8287) (.cons (.int 8289) (.cons (.int 65023) (.cons (.int 65040) (.cons (.int 65278) (.cons (.int 65280) .nil))))))))))))))))))
  (.cons (.ite (.bo .And (.cons (.nm 1) (.cons (.cmp .Lt (.bin .Mod (.nm 0) (.int 42)) (.int 26)) .nil))) (.cons (.ret (.bi "chr" (.cons (.bin .Add (.int 97) (.bin .Mod (.nm 0) (.int 42))) .nil)))
  .nil) .nil)
  (.cons (.ret (.bi "chr" (.cons (.sub (.nm 2) (.jc (.nm 1) (.bin .Mod (.bin .Sub (.bin .Mod (.nm 0) (.int 42)) (.int 26)) (.int 16)) (.bin .Mod (.nm 0) (.int 16)))) .nil)))
  .nil)))
theorem VG:dY (aK 30).scope KE (KH) (aK 30).body=true:=by decide+kernel
theorem VH:iv (aK 30) 2 KE=true:=by decide+kernel
noncomputable def KI:Tb:=[(aH "name",aF),(aH "harm",aF),(aH "which",aF),(aH "marked",aF),(aH "row",aF),(aH "spot",aF)]
noncomputable def yw:B:=(.cons (.mv 4 (.oO (.nm 0)))
  (.cons (.asg 5 (.bin .Mod (.bin .FloorDiv (.nm 1) (.int 8)) (.int 12)))
  (.cons (.ite (.bo .Or (.cons (.cmp .NotEq (.bin .Mod (.bin .FloorDiv (.nm 1) (.int 4)) (.int 2)) (.nm 2)) (.cons (.cmp .Eq (.bin .Mod (.nm 1) (.int 4)) (.int 0)) .nil))) (.cons (.ret (.nm 4))
  .nil) .nil)
  (.cons (.ite (.cmp .Eq (.bin .Mod (.nm 1) (.int 4)) (.int 1)) (.cons (.oP 4 (.bin .Mod (.nm 5) (.int 3)) (.jc (.nm 3) (.bin .Add (.bin .Add (.str (aH "\"")) (.sub (.nm 4) (.bin .Mod (.nm 5) (.int 3)))) (.str (aH "\""))) (.str (aH ""))))
  .nil) (.cons (.ite (.cmp .Eq (.bin .Mod (.nm 1) (.int 4)) (.int 2)) (.cons (.ins 4 (.bin .Mod (.nm 5) (.int 4)) (.call (aH "_law_sign") (.cons (.bin .FloorDiv (.nm 1) (.int 96)) (.cons (.bool aF) .nil))))
  .nil) (.cons (.oP 4 (.bin .Mod (.nm 5) (.int 3)) (.call (aH "_law_sign") (.cons (.bin .FloorDiv (.nm 1) (.int 96)) (.cons (.bool aI) .nil))))
  .nil))
  .nil))
  (.cons (.ret (.nm 4))
  .nil)))))
theorem VI:dY (aK 31).scope KI (yw) (aK 31).body=true:=by decide+kernel
theorem VJ:iv (aK 31) 4 KI=true:=by decide+kernel
noncomputable def KJ:Tb:=[(aH "read",aF),(aH "name",aF),(aH "low",aF),(aH "spot",aF),(aH "one",aF),(aH "other",aF)]
noncomputable def KL:B:=(.cons (.asg 2 (.dH "lower" (.nm 1) .nil))
  (.cons (.ite (.cmp .Eq (.nm 0) (.nm 2)) (.cons (.ret (.int 1))
  .nil) .nil)
  (.cons (.forR 3 (.int 4) (.cons (.asg 4 (.jc (.cmp .Eq (.bi "len" (.cons (.nm 0) .nil)) (.int 2)) (.nm 0) (.bin .Add (.dE (.nm 0) .none (.nm 3)) (.dE (.nm 0) (.bin .Add (.nm 3) (.int 1)) .none))))
  (.cons (.asg 5 (.jc (.cmp .Eq (.bi "len" (.cons (.nm 0) .nil)) (.int 4)) (.nm 2) (.bin .Add (.dE (.nm 2) .none (.nm 3)) (.dE (.nm 2) (.bin .Add (.nm 3) (.int 1)) .none))))
  (.cons (.ite (.cmp .Eq (.nm 4) (.nm 5)) (.cons (.ret (.jc (.bo .And (.cons (.cmp .Eq (.nm 3) (.int 0)) (.cons (.cmp .Lt (.bi "len" (.cons (.nm 0) .nil)) (.int 4)) .nil))) (.int 2) (.int 3)))
  .nil) .nil)
  .nil))))
  (.cons (.ret (.int 4))
  .nil))))
theorem VK:dY (aK 32).scope KJ (KL) (aK 32).body=true:=by decide+kernel
theorem VL:iv (aK 32) 2 KJ=true:=by decide+kernel
noncomputable def KN:Tb:=[(aH "row",aF),(aH "draw",aF),(aH "hidden",aF),(aH "great",aF),(aH "joined",aF),(aH "text",aF),(aH "place",aF),(aH "piece",aF),(aH "pair",aF),(aH "way",aF)]
noncomputable def CF(N:aA):B:=(.cons (.asg 2 (.bin .Add (.lst (.cons (.int 173) (.cons (.int 847) (.cons (.int 6150) (.cons (.int 6155) (.cons (.int 6156) (.cons (.int 6157) (.cons (.int 8203) (.cons (.int 8204) (.cons (.int 8205) (.cons (.int 8288) (.cons (.int 65279) .nil)))))))))))) (.lS (.cons (.int 65024) (.cons (.int 65040) .nil)))))
  (.cons (.asg 3 (.lst (.cons (.int 119808) (.cons (.int 119860) (.cons (.int 119912) (.cons (.int 120016) (.cons (.int 120172) (.cons (.int 120224) (.cons (.int 120276) (.cons (.int 120328) (.cons (.int 120380) (.cons (.int 120432) .nil))))))))))))
  (.cons (.asg 4 (.gB [((aH "ma"),13187),((aH "pr"),13274),((aH "no"),8470),((aH "ov"),13173),((aH "au"),13171),((aH "ss"),223),((aH "ff"),64256),((aH "st"),64262)]))
  (.cons (.asg 5 (.str (aH "")))
  (.cons (.asg 6 (.int 0))
  (.cons (.oQ N (.cmp .Lt (.nm 6) (.bi "len" (.cons (.nm 0) .nil))) (.cons (.asg 7 (.sub (.nm 0) (.nm 6)))
  (.cons (.asg 8 (.dH "lower" (.dH "join" (.str (aH "")) (.cons (.dE (.nm 0) (.nm 6) (.bin .Add (.nm 6) (.int 2))) .nil)) .nil))
  (.cons (.asg 9 (.bin .Mod (.nm 1) (.int 40)))
  (.cons (.aug 1 .FloorDiv (.int 40))
  (.cons (.ite (.cmp .Lt (.nm 9) (.int 27)) (.cons (.aug 5 .Add (.bin .Add (.nm 7) (.bi "chr" (.cons (.sub (.nm 2) (.nm 9)) .nil))))
  .nil) (.cons (.ite (.bo .And (.cons (.cmp .Lt (.nm 9) (.int 37)) (.cons (.oN .LtE .LtE (.str (aH "a")) (.dH "lower" (.nm 7) .nil) (.str (aH "z"))) .nil))) (.cons (.aug 5 .Add (.bi "chr" (.cons (.bin .Sub (.bin .Add (.sub (.nm 3) (.bin .Sub (.nm 9) (.int 27))) (.bi "ord" (.cons (.dH "lower" (.nm 7) .nil) .nil))) (.int 97)) .nil)))
  .nil) (.cons (.ite (.bo .And (.cons (.cmp .Gt (.nm 9) (.int 37)) (.cons (.cmp .In (.nm 8) (.nm 4)) .nil))) (.cons (.aug 5 .Add (.bi "chr" (.cons (.sub (.nm 4) (.nm 8)) .nil)))
  (.cons (.aug 6 .Add (.int 1))
  .nil)) (.cons (.aug 5 .Add (.jc (.cmp .Eq (.nm 9) (.int 37)) (.dH "upper" (.nm 7) .nil) (.nm 7)))
  .nil))
  .nil))
  .nil))
  (.cons (.aug 6 .Add (.int 1))
  .nil)))))))
  (.cons (.ret (.tup (.cons (.nm 5) (.cons (.nm 1) .nil))))
  .nil)))))))
theorem VM(N:aA):dY (aK 33).scope KN (CF N) (aK 33).body=true:=by kernel_rfl
theorem VN:iv (aK 33) 2 KN=true:=by decide+kernel
noncomputable def KO:Tb:=[(aH "year",aF),(aH "month",aF),(aH "day",aF),(aH "cells",aF),(aH "start",aF),(aH "count",aF),(aH "unit",aF),(aH "turn",aF),(aH "top",aF),(aH "told",aF)]
noncomputable def KP:B:=(.cons (.asg 4 (.jc (.cmp .Lt (.nm 1) (.int 2)) (.bin .Sub (.nm 0) (.int 1)) (.nm 0)))
  (.cons (.asg 5 (.bin .Add (.bin .Add (.bin .Add (.bin .Add (.bin .Sub (.bin .Add (.bin .Mult (.int 365) (.nm 4)) (.bin .FloorDiv (.nm 4) (.int 4))) (.bin .FloorDiv (.nm 4) (.int 100))) (.bin .FloorDiv (.nm 4) (.int 400))) (.bin .FloorDiv (.bin .Add (.bin .Mult (.int 153) (.bin .Mod (.bin .Add (.nm 1) (.int 10)) (.int 12))) (.int 2)) (.int 5))) (.nm 2)) (.int 1)))
  (.cons (.asg 6 (.bin .Pow (.int 3) (.bin .Add (.int 2598) (.bin .Mod (.bin .FloorDiv (.sub (.nm 3) (.int 5)) (.int 10)) (.int 64)))))
  (.cons (.asg 7 (.bin .Sub (.int 1) (.bin .Mult (.int 2) (.bin .Mod (.bin .FloorDiv (.sub (.nm 3) (.int 5)) (.int 5)) (.int 2)))))
  (.cons (.asg 8 (.bin .Add (.bin .Mult (.bin .Add (.bin .Mult (.bin .Mult (.int 146097) (.sub (.nm 3) (.int 4))) (.bin .Pow (.int 2) (.int 4010))) (.nm 5)) (.nm 6)) (.bin .Mod (.bin .FloorDiv (.sub (.nm 3) (.int 5)) (.int 10)) (.nm 6))))
  (.cons (.asg 9 (.call (aH "int_divmod") (.cons (.bin .Mult (.nm 7) (.nm 8)) (.cons (.bin .Mult (.bin .Mult (.nm 7) (.int 7)) (.nm 6)) .nil))))
  (.cons (.ite (.cmp .NotEq (.bin .Add (.bin .Mult (.bin .Mult (.sub (.nm 9) (.int 0)) (.int 7)) (.nm 6)) (.bin .Mult (.nm 7) (.sub (.nm 9) (.int 1)))) (.nm 8)) (.cons (.ret (.un .USub (.int 1)))
  .nil) .nil)
  (.cons (.ret (.bin .FloorDiv (.bin .Mult (.nm 7) (.sub (.nm 9) (.int 1))) (.nm 6)))
  .nil))))))))
theorem VO:dY (aK 34).scope KO (KP) (aK 34).body=true:=by decide+kernel
theorem VP:iv (aK 34) 4 KO=true:=by decide+kernel
end
section
section
variable{a b:Z}{x y:Str}
theorem CG{b:Z}(c:0 < b)(d:b < 4611686018427387904):b≠0∧b.natAbs.log2 < 9000:=by refine⟨by exact fC c,?_⟩;have f:b.natAbs < 2^62:=Bz (cJ c) (dD d (by decide));have:=(AJ (n:=b.natAbs) (k:=62) (HW c)).mpr f;exact bK this (by decide)
theorem tm{a b:Z}(h:0 < b):a.fdiv b=a / b:=Ha _ (cJ h)
theorem CH{a b:Z}(h:0 < b):a.fmod b=a % b:=Int.fmod_eq_emod_of_nonneg _ (cJ h)
@[simp] theorem iJ:dC .Add (.int a) (.int b)=O (.int (a+b)):=rfl
@[simp] theorem mA:dC .Sub (.int a) (.int b)=O (.int (a - b)):=rfl
@[simp] theorem yx(c:0 < b)(d:b < 4611686018427387904):dC .FloorDiv (.int a) (.int b)=O (.int (a / b)):=by refine aT (tm c) ?_;exact bB (CG c d)
@[simp] theorem tn(c:0 < b)(d:b < 4611686018427387904):dC .Mod (.int a) (.int b)=O (.int (a % b)):=by refine aT (CH c) ?_;exact bB (CG c d)
@[simp] theorem vr(c: -4611686018427387904 < b)(d:b < 4611686018427387904):dC .Mult (.int a) (.int b)=O (.int (a*b)):=
 bB (IntMulOk.of_right (AW (iD (by decide) c) (dD d (by decide))))
@[simp] theorem tq(c: -4611686018427387904 < a)(d:a < 4611686018427387904):dC .Mult (.int a) (.int b)=O (.int (a*b)):=
 bB (IntMulOk.of_left (AW (iD (by decide) c) (dD d (by decide))))
@[simp] theorem CI:jW .Add (.int a) (.int b)=O (.int (a+b)):=rfl
@[simp] theorem VQ:jW .Sub (.int a) (.int b)=O (.int (a - b)):=rfl
@[simp] theorem VR(c:0 < b)(d:b < 4611686018427387904):jW .FloorDiv (.int a) (.int b)=O (.int (a / b)):=by refine aT (tm c) ?_;exact bB (CG c d)
@[simp] theorem VS:jd .Eq (.int a) (.int b)=O (.bool (a==b)):=rfl
@[simp] theorem VT:jd .Gt (.int a) (.int b)=O (.bool (decide (b < a))):=rfl
@[simp] theorem aho{c:Type}{p:aG c}:aZ sa p=p:=bB trivial
end
section
variable{P:bT}{σ:Sg}
theorem tr {t a b}:ev P σ (.jc t a b)=(match(ev P σ t).bind truth with
  |some aF=>ev P σ a|some aI=>ev P σ b| .none=> .none):=rfl
end
section
variable{body:Sg→aG (Fl×Sg)}{i:aA}{x:PV}{r:aD PV}{P:bT}{s:S}{b:B}{σ σ':Sg}{v:PV}
theorem CJ:gP body i (x::r) σ=(match body (σ.put i x) with
  |some (.next,σ')=>gP body i r σ'|some (.brk,σ')=>O (.next,σ')|some (.ret v,σ')=>O (.ret v,σ')| .none=> .none):=rfl
theorem ro(h:body (σ.put i x)=O (.next,σ')):gP body i (x::r) σ=gP body i r σ':=M CJ (M h V)
theorem VU(h:body (σ.put i x)=O (.brk,σ')):gP body i (x::r) σ=O (.next,σ'):=M CJ (M h V)
theorem KQ(h:body (σ.put i x)=O (.ret v,σ')):gP body i (x::r) σ=O (.ret v,σ'):=M CJ (M h V)
theorem CK:bE P (.cons s b) σ=(match ex P s σ with
  |some (.next,σ')=>bE P b σ'|some (.brk,σ')=>O (.brk,σ')|some (.ret v,σ')=>O (.ret v,σ')| .none=> .none):=rfl
theorem eM(h:ex P s σ=O (.next,σ')):bE P (.cons s b) σ=bE P b σ':=M CK (M h V)
theorem cV(h:ex P s σ=O (.ret v,σ')):bE P (.cons s b) σ=O (.ret v,σ'):=M CK (M h V)
theorem VV(h:ex P s σ=O (.brk,σ')):bE P (.cons s b) σ=O (.brk,σ'):=M CK (M h V)
end
theorem bN{c d:Type}{a:aG c}{x:c}{f:c→aG d}{r:aG d}(h:a=O x)(k:f x=r):a.bind f=r:=by refine M h ?_;exact k
section
variable{P:bT}{σ:Sg}{e t:E}{x y z p:PV}{i:aA}{a b:B}{xs:aD PV}
theorem VW{o:i9}:ex P (.aug i o e) σ=(match σ.loc[i]? with
  |some (O p)=>(ev P σ e).bind fun y=>(jW o p y).map fun z=>(.next,σ.put i z)| _=> .none):=rfl
theorem gR(h:ev P σ e=O x)(c:jv x=O x):ex P (.asg i e) σ=O (.next,σ.put i x):=bN h (aR (j6 _) c)
theorem tu(c:vc e=aF)(h:ev P σ e=O (.lst xs)):ex P (.mv i e) σ=O (.next,σ.fresh i xs):=by
 have q:ex P (.mv i e) σ=if vc e then(match ev P σ e with
  |some (.lst xs)=>O (.next,σ.fresh i xs)| _=> .none) else .none:=rfl
 exact M q (M (aS c) (M h V))
theorem yy{c:aD aA}(h:ev P σ e=O (.tup xs))(d:xs.length=c.length):ex P (.jp c e) σ=O (.next,putAll σ c xs):=by
 have q:ex P (.jp c e) σ=(match ev P σ e with
  |some (.tup xs)=>if xs.length=c.length then O (.next,putAll σ c xs) else .none| _=> .none):=rfl
 refine M q (M h ?_);exact aS d
theorem qk{o:i9}(c:σ.loc[i]? =O (O p))(h:ev P σ e=O y)(d:jW o p y=O z):ex P (.aug i o e) σ=O (.next,σ.put i z):=by refine M VW (M c ?_);exact bN h (aR (j6 _) d)
theorem KR:ex P (.ite t a b) σ=(match(ev P σ t).bind truth with
  |some aF=>bE P a σ|some aI=>bE P b σ| .none=> .none):=rfl
theorem ql(h:ev P σ t=O x)(c:truth x=O aF):ex P (.ite t a b) σ=bE P a σ:=M KR (M (bN h c) V)
theorem nR(h:ev P σ t=O x)(c:truth x=O aI):ex P (.ite t a b) σ=bE P b σ:=M KR (M (bN h c) V)
theorem tv{N:Z}(h:ev P σ e=O (.int N))(c:0≤N∧N≤1000000):ex P (.forR i e b) σ=gP (bE P b) i ((mK N.toNat).map fun k=> .int (k:aA)) σ:=by
 have q:ex P (.forR i e b) σ=(match ev P σ e with
  |some (.int N)=>aZ (0≤N∧N≤1000000) (gP (bE P b) i ((mK N.toNat).map fun k=> .int (k:aA)) σ)| _=> .none):=rfl
 refine M q (M h ?_);exact bB c
theorem KS{v:aU}(h:ev P σ e=O (.lst xs))(c:xs.length≤1000000):ex P (.forL i v e b) σ=gP (bE P b) i (if v then xs.reverse else xs) σ:=by
 have q:ex P (.forL i v e b) σ=(match ev P σ e with
  |some (.lst xs)=>aZ (xs.length≤1000000) (gP (bE P b) i (if v then xs.reverse else xs) σ)| _=> .none):=rfl
 refine M q (M h ?_);exact bB c
theorem VX(h:ev P σ e=O (.lst xs))(c:xs.length≤1000000):ex P (.forL i aI e b) σ=gP (bE P b) i xs σ:=KS h c
theorem VY(h:ev P σ e=O (.lst xs))(c:xs.length≤1000000):ex P (.forL i aF e b) σ=gP (bE P b) i xs.reverse σ:=KS h c
theorem VZ{n:aA}:ex P (.oQ n t b) σ=kB (fun σ=>(ev P σ t).bind truth) (bE P b) n σ:=rfl
theorem fU(h:ev P σ e=O x)(c:jv x=O x):ex P (.ret e) σ=O (.ret x,σ):=bN h (by cases x<;>first |rfl |cases c)
theorem KU(h:ev P σ e=O .bV)(c:σ.mu=O xs):ex P (.ret e) σ=O (.ret (.lst xs),σ):=bN h (aR (j6 _) c)
end
section
variable{P:bT}{σ:Sg}{a b i:E}{es:Es}{x y z:PV}{xs:aD PV}
theorem iw:gC P σ .nil=O [] :=rfl
theorem bW(c:ev P σ a=O x)(d:gC P σ es=O xs):gC P σ (.cons a es)=O (x::xs):=bN c (bN d V)
theorem gE(c:ev P σ a=O x):gC P σ (.cons a .nil)=O [x] :=bN c V
theorem hZ(c:ev P σ a=O x)(d:ev P σ i=O y)(f:jq σ.mu x y=O z):ev P σ (.sub a i)=O z:=bN c (bN d f)
theorem bM{o:i9}(c:ev P σ a=O x)(d:ev P σ b=O y)(f:dC o x y=O z):ev P σ (.bin o a b)=O z:=bN c (bN d f)
theorem lU{x b:Z}(h:ev P σ a=O (.int x))(c:0 < b)(d:b < 4611686018427387904):ev P σ (.bin .Mod a (.int b))=O (.int (x % b)):=bM h V (tn c d)
theorem lV{x b:Z}(h:ev P σ a=O (.int x))(c:0 < b)(d:b < 4611686018427387904):ev P σ (.bin .FloorDiv a (.int b))=O (.int (x / b)):=bM h V (yx c d)
theorem cK{o:l9}(c:ev P σ a=O x)(d:ev P σ b=O y)(f:jd o x y=O z):ev P σ (.cmp o a b)=O z:=bN c (bN d f)
theorem tw(h:gC P σ es=O xs)(c:xs.length≤1000)(d:kW xs=aF):ev P σ (.tup es)=O (.tup xs):=bN h (bB ⟨c,d⟩)
theorem nS(h:gC P σ es=O xs)(c:xs.length≤1000)(d:kW xs=aF):ev P σ (.lst es)=O (.lst xs):=bN h (bB ⟨c,d⟩)
theorem fO{f:Str}(h:gC P σ es=O xs)(c:kW xs=aF)(d:P.call f xs=O z):ev P σ (.call f es)=O z:=bN h ((bB c).trans d)
theorem iU{f:eA}(h:gC P σ es=O xs)(c:oS σ.mu f xs=O z):ev P σ (.bi f es)=O z:=bN h c
theorem lf{f:eA}(c:ev P σ a=O x)(h:gC P σ es=O xs)(d:nK σ.mu f x xs=O z):ev P σ (.dH f a es)=O z:=bN c (bN h d)
theorem o0{l h:E}{u v:PV}(c:ev P σ a=O x)(d:ev P σ l=O u)(f:ev P σ h=O v)(g:mX x u v=O z):ev P σ (.dE a l h)=O z:=bN c (bN d (bN f g))
theorem nT(c:ev P σ a=O (.bool aF))(d:ev P σ b=O x):ev P σ (.bo .And (.cons a (.cons b .nil)))=O x:=bN c (bN d V)
theorem vt(c:ev P σ a=O (.bool aI)):ev P σ (.bo .And (.cons a (.cons b .nil)))=O (.bool aI):=bN c V
theorem KW{i:aA}{c e:E}{k:Z}(d:jI σ i=aF)(f:ev P σ c=O (.int k))(g:ev P σ e=O x)(h:jv x=O x)(j:σ.mu=O xs)(l:0≤k)(m:k < xs.length)(n:xs.length≤1000000):
  ex P (.oP i c e) σ=O (.next,{σ with mu:=O (xs.set k.toNat x),pl:=aI}):=by
 refine bN g (bN h ((aS d).trans ?_))
 show(match ev P σ c with
  |some (.int k)=>vb σ k x| _=> .none)=_
 exact M f <|bN j (bB ⟨l,m,n⟩)
theorem V0{i:aA}{c e:E}{k:Z}{o:i9}{y z:PV}(d:jI σ i=aF)(f:ev P σ c=O (.int k))(g:jq σ.mu .bV (.int k)=O p)(h:ev P σ e=O y)(j:jW o p y=O z)(l:σ.mu=O xs)(m:0≤k)(n:k < xs.length)(q:xs.length≤1000000):
  ex P (.sM i c o e) σ=O (.next,{σ with mu:=O (xs.set k.toNat z),pl:=aI}):=by
 refine(aS d).trans ?_
 show(match ev P σ c with
  |some (.int k)=>(jq σ.mu .bV (.int k)).bind fun p=>(ev P σ e).bind fun y=>(jW o p y).bind fun z=>vb σ k z| _=> .none)=_
 exact M f <|bN g (bN h (bN j (bN l (bB ⟨m,n,q⟩))))
theorem yz{i:aA}{e:E}(c:(jI σ i && σ.pl)=aF)(d:ev P σ e=O x)(f:jv x=O x)(g:σ.mu=O xs)(h:xs.length≤1000000):ex P (.app i e) σ=O (.next,{σ with mu:=O (xs++[x])}):=(aS c).trans (bN d (bN f (bN g (bB h))))
theorem V1{i:aA}(c:(jI σ i && σ.pl)=aF)(d:σ.mu=O xs)(f:xs.length≤1000000):ex P (.uV i) σ=O (.next,{σ with mu:=O xs.reverse}):=(aS c).trans (bN d (bB f))
theorem V2{i:aA}{e f:E}{k:Z}(c:(jI σ i && σ.pl)=aF)(d:ev P σ e=O (.int k))(g:ev P σ f=O x)(h:jv x=O x)(j:σ.mu=O xs)(l:0≤k∧k≤1000∧xs.length≤1000):
  ex P (.ins i e f) σ=O (.next,{σ with mu:=O (xs.take k.toNat++x::xs.drop k.toNat)}):=(aS c).trans (bN d (bN g (bN h (bN j (bB l)))))
theorem CL{i:aA}(c:jI σ i=aF)(d:σ.mu=O xs):ex P (.kV i) σ=O (.next,σ.freeze xs):=(aS c).trans (aR (j6 _) d)
theorem nx{s:S}{b:B}{σ':Sg}{r:aG (Fl×Sg)}(h:ex P s σ=O (.next,σ'))(k:bE P b σ'=r):bE P (.cons s b) σ=r:=(eM h).trans k
theorem sg{e:E}{b:B}{i:aA}{r:aG (Fl×Sg)}(h:ev P σ e=O x)(c:jv x=O x)(k:bE P b (σ.put i x)=r):bE P (.cons (.asg i e) b) σ=r:=(eM (gR h c)).trans k
theorem it{t:E}{a b:B}{r:aG (Fl×Sg)}(h:ev P σ t=O (.bool aF))(k:bE P a σ=r):ex P (.ite t a b) σ=r:=(ql h V).trans k
theorem eY{t:E}{a b:B}{r:aG (Fl×Sg)}(h:ev P σ t=O (.bool aI))(k:bE P b σ=r):ex P (.ite t a b) σ=r:=(nR h V).trans k
theorem tg{e:E}{b:B}{c:aD aA}{r:aG (Fl×Sg)}(h:ev P σ e=O (.tup xs))(d:xs.length=c.length)(k:bE P b (putAll σ c xs)=r):bE P (.cons (.jp c e) b) σ=r:=(eM (yy h d)).trans k
theorem KX{e f:E}{b:B}{i j:aA}{y:PV}{r:aG (Fl×Sg)}(h:ev P σ e=O x)(c:ev P σ f=O y)(d:jv x=O x)(g:jv y=O y)(k:bE P b ((σ.put j y).put i x)=r):bE P (.cons (.mW i j e f) b) σ=r:=by have q:ex P (.mW i j e f) σ=O (.next,(σ.put j y).put i x):=bN h (bN c (bN d (aR (j6 _) g)));exact(eM q).trans k
theorem ag{o:i9}{e:E}{b:B}{i:aA}{p z:PV}{r:aG (Fl×Sg)}(c:σ.loc[i]? =O (O p))(h:ev P σ e=O y)(d:jW o p y=O z)(k:bE P b (σ.put i z)=r):bE P (.cons (.aug i o e) b) σ=r:=(eM (qk c h d)).trans k
theorem jX(c:ev P σ a=O x)(d:ev P σ b=O y):gC P σ (.cons a (.cons b .nil))=O [x,y] :=bW c (gE d)
theorem tA(c:ev P σ a=O x)(d:ev P σ b=O y)(f:kW [x,y] =aF):ev P σ (.tup (.cons a (.cons b .nil)))=O (.tup [x,y]):=tw (jX c d) (by decide:2≤1000) f
theorem KY(c:ev P σ a=O (.bool aF)):ev P σ (.bo .Or (.cons a (.cons b .nil)))=O (.bool aF):=bN c V
theorem vw(c:ev P σ a=O (.bool aI))(d:ev P σ b=O x):ev P σ (.bo .Or (.cons a (.cons b .nil)))=O x:=bN c (bN d V)
theorem KZ{c:E}{p q r:aU}(f:ev P σ a=O x)(d:truth x=O p)(h:ev P σ b=O y)(g:truth y=O q)(j:p=aF→q=aF→ev P σ c=O (.bool r)):(ev P σ (.bo .And (.cons a (.cons b (.cons c .nil))))).bind truth=O (p && (q && r)):=by
 cases p with
 |false=>exact bN (bN f (bN d V)) d
 |true=>cases q with
  |false=>exact bN (bN f (bN d (bN h (bN g V)))) g|true=>exact bN (bN f (bN d (bN h (bN g (bN (j V rfl) V))))) V
theorem K0{c:Sg→aG aU}{body:Sg→aG (Fl×Sg)}{n:aA}:kB c body (n+1) σ=(match c σ with
  |some aF=>(match body σ with
   |some (.next,σ')=>kB c body n σ'|some (.brk,σ')=>O (.next,σ')|some (.ret v,σ')=>O (.ret v,σ')| .none=> .none)
  |some aI=>O (.next,σ)| .none=> .none):=rfl
theorem vx{c:Sg→aG aU}{body:Sg→aG (Fl×Sg)}{n:aA}(h:c σ=O aI):kB c body (n+1) σ=O (.next,σ):=M K0 (M h V)
theorem CM{c:Sg→aG aU}{body:Sg→aG (Fl×Sg)}{n:aA}{σ':Sg}(h:c σ=O aF)(d:body σ=O (.next,σ')):kB c body (n+1) σ=kB c body n σ':=by refine M K0 (M h ?_);dsimp only;exact M d V
theorem bb{p q:aU}(h:p=q):O (PV.bool p)=O (.bool q):=aR (fun z=>O (PV.bool z)) h
theorem La{a b:Z}(h:a=b):jd .Eq (.int a) (.int b)=O (.bool aF):=bb (beq_iff_eq.mpr h)
theorem yA{a b:Z}(h:a≠b):jd .Eq (.int a) (.int b)=O (.bool aI):=bb (beq_eq_false_iff_ne.mpr h)
theorem V3{a b:Z}(h:a≠b):jd .NotEq (.int a) (.int b)=O (.bool aF):=bb (bne_iff_ne.mpr h)
theorem V4{a b:Z}(h:a≤b):jd .LtE (.int a) (.int b)=O (.bool aF):=bb (fM h)
theorem V5{a b:Z}(h:¬a≤b):jd .LtE (.int a) (.int b)=O (.bool aI):=bb (eP h)
theorem lW{a b:Z}(h:a < b):jd .Lt (.int a) (.int b)=O (.bool aF):=bb (fM h)
theorem lg{a b:Z}(h:¬a < b):jd .Lt (.int a) (.int b)=O (.bool aI):=bb (eP h)
theorem CN{a b:Z}(h:b < a):jd .Gt (.int a) (.int b)=O (.bool aF):=bb (fM h)
theorem CO{a b:Z}(h:¬b < a):jd .Gt (.int a) (.int b)=O (.bool aI):=bb (eP h)
end
section
variable{x:PV}{xs:aD PV}{z:PV}
theorem CP {k} (h:lC xs k=O z):∃x r,xs=x::r∧k x r=O z:=eC (C:=fun xs=>∃x r,xs=x::r∧k x r=O z) h fun x r h=>⟨x,r,rfl,h⟩
theorem Lb {k} (h:sS x k=O z):∃a,x= .str a∧k a=O z:=eS (C:=fun x=>∃a,x= .str a∧k a=O z) h fun a h=>⟨a,rfl,h⟩
noncomputable def s1(xs:aD PV)(k:Str→aG PV):aG PV:=lC xs fun x r=>sS x fun a=>lN r (k a)
noncomputable def s2(xs:aD PV)(k:Str→Str→aG PV):aG PV:=lC xs fun x r=>sS x fun a=>s1 r (k a)
noncomputable def i1(xs:aD PV)(k:Z→aG PV):aG PV:=lC xs fun x r=>sI x fun a=>lN r (k a)
noncomputable def i2(xs:aD PV)(k:Z→Z→aG PV):aG PV:=lC xs fun x r=>sI x fun a=>i1 r (k a)
noncomputable def i3(xs:aD PV)(k:Z→Z→Z→aG PV):aG PV:=lC xs fun x r=>sI x fun a=>i2 r (k a)
noncomputable def i4(xs:aD PV)(k:Z→Z→Z→Z→aG PV):aG PV:=lC xs fun x r=>sI x fun a=>i3 r (k a)
noncomputable def i6(xs:aD PV)(k:Z→Z→Z→Z→Z→Z→aG PV):aG PV:=lC xs fun x r=>sI x fun a=>lC r fun x r=>sI x fun b=>i4 r (k a b)
noncomputable def ib(xs:aD PV)(k:Z→aU→aG PV):aG PV:=lC xs fun x r=>sI x fun a=>lC r fun y r=>sB y fun b=>lN r (k a b)
@[elab_as_elim] theorem mS{p:Prop}{a z:PV}{C:PV→Prop}(h:aZ p (O a)=O z)(k:p→C a):C z:=by refine xa (i0 h) fun c h=> ?_;cases h;exact k c
@[elab_as_elim] theorem fI{g f:Str}{A B:aG PV}{z:PV}{C:Str→Prop}(h:(if f=g then A else B)=O z)(k:A=O z→C g)(l:B=O z→C f):C f:=by
 by_cases e:f=g
 ·subst e;exact k ((aS V).symm.trans h)
 ·exact l ((aP e).symm.trans h)
@[elab_as_elim] theorem V6 {k} {C:aD PV→Prop}(h:s1 xs k=O z)(f:∀a,k a=O z→C [.str a]):C xs:=eC h fun J r h=>eS (C:=fun x=>C (x::r)) h fun a h=>eN (C:=fun r=>C (.str a::r)) h (f a)
@[elab_as_elim] theorem Lc {k} {C:aD PV→Prop}(h:s2 xs k=O z)(f:∀a b,k a b=O z→C [.str a,.str b]):C xs:=eC h fun J r h=>eS (C:=fun x=>C (x::r)) h fun a h=>V6 (C:=fun r=>C (.str a::r)) h (f a)
@[elab_as_elim] theorem e1 {k} {C:aD PV→Prop}(h:i1 xs k=O z)(f:∀a,k a=O z→C [.int a]):C xs:=eC h fun J r h=>eI (C:=fun x=>C (x::r)) h fun a h=>eN (C:=fun r=>C (.int a::r)) h (f a)
@[elab_as_elim] theorem e2 {k} {C:aD PV→Prop}(h:i2 xs k=O z)(f:∀a b,k a b=O z→C [.int a,.int b]):C xs:=eC h fun J r h=>eI (C:=fun x=>C (x::r)) h fun a h=>e1 (C:=fun r=>C (.int a::r)) h (f a)
@[elab_as_elim] theorem e3 {k} {C:aD PV→Prop}(h:i3 xs k=O z)(f:∀a b c,k a b c=O z→C [.int a,.int b,.int c]):C xs:=eC h fun J r h=>eI (C:=fun x=>C (x::r)) h fun a h=>e2 (C:=fun r=>C (.int a::r)) h (f a)
@[elab_as_elim] theorem e4 {k} {C:aD PV→Prop}(h:i4 xs k=O z)(f:∀a b c d,k a b c d=O z→C [.int a,.int b,.int c,.int d]):C xs:=eC h fun J r h=>eI (C:=fun x=>C (x::r)) h fun a h=>e3 (C:=fun r=>C (.int a::r)) h (f a)
@[elab_as_elim] theorem e6 {k} {C:aD PV→Prop}(h:i6 xs k=O z)(q:∀a b c d e f,k a b c d e f=O z→C [.int a,.int b,.int c,.int d,.int e,.int f]):C xs:=
 eC h fun J r h=>eI (C:=fun x=>C (x::r)) h fun a h=>eC (C:=fun r=>C (.int a::r)) h fun J r h=>eI (C:=fun x=>C (.int a::x::r)) h fun b h=>e4 (C:=fun r=>C (.int a:: .int b::r)) h (q a b)
@[elab_as_elim] theorem V7 {k} {C:aD PV→Prop}(h:ib xs k=O z)(f:∀a b,k a b=O z→C [.int a,.bool b]):C xs:=
 eC h fun J r h=>eI (C:=fun x=>C (x::r)) h fun a h=>eC (C:=fun r=>C (.int a::r)) h fun J r h=>eB (C:=fun x=>C (.int a::x::r)) h fun b h=>eN (C:=fun r=>C (.int a:: .bool b::r)) h (f a b)
theorem V8 {k} (h:s2 xs k=O z):∃a b,xs=[.str a,.str b]∧k a b=O z:=Lc (C:=fun xs=>∃a b,xs=[.str a,.str b]∧k a b=O z) h fun a b h=>⟨a,b,rfl,h⟩
theorem Ld {k} (h:i1 xs k=O z):∃a,xs=[.int a]∧k a=O z:=e1 (C:=fun xs=>∃a,xs=[.int a]∧k a=O z) h fun a h=>⟨a,rfl,h⟩
theorem V9{p:Prop} [qE p] {y u:aG PV}(h:(if p then y else u)=O z):(p∧y=O z)∨u=O z:=by
 by_cases c:p
 ·exact .inl ⟨c,(aS c).symm.trans h⟩
 ·exact .inr ((aP c).symm.trans h)
theorem V'{p:Prop} [qE p] {y:aG PV}(h:(if p then y else aB)=O z):p∧y=O z:=by
 by_cases c:p
 ·exact⟨c,(aS c).symm.trans h⟩
 ·rw[aP c] at h;exact nn h
end
noncomputable def two(n:Z):Str:=gO (pW (100+n)) (O 1) aB
theorem Wa{i:Z}(h:i.natAbs < 10^10):(pW i).length≤11:=by unfold pW;exact M (PySem.ofString_length ..) <|PySem.int_text_length_le10 (by decide) h
theorem Wb(P:bT)(n:Z)(d:0≤n)(f:n < 100):bE P KD {loc:=[O (.int n)]}=O (.ret (.str (two n)),{loc:=[O (.int n)]}):=by have c:(100+n).natAbs < 10^10:=Bz (qN (by decide) d) (dD (afu f _) (by decide));have g:(pW (100+n)).length≤eF:=aL (Wa c) (by refine M cN ?_;decide);have h:oS aB "str" [.int (100+n)] =O (.str (pW (100+n))):=bB c;have j:mX (.str (pW (100+n))) (.int 1) .none=O (.str (two n)):=bB g;exact cV (fU (x:= .str (two n)) (bN h (bN V (bN V j))) V)
theorem rp{j n:aA}(h:j < n):oy (j:Z) n=O j:=by have c:¬((j:Z) < 0):=ja.mpr (cW j);unfold oy;exact aS (fM (dN.mpr h)▸fM (cW j)▸rfl)
theorem Le{k:Z}{n:aA}(c:0≤k)(h:k < n):oy k n=O k.toNat:=by have e:=j4 c;exact aT e <|rp (dN.mp (e.symm▸h))
end
section
noncomputable def Wc(a:aD (aG Expr))(b:aD Expr):aD (Z×Str):=(a.zip b).filterMap fun p=>p.1.bind fun k=>sR aB k fun n J J=>B2 aB p.2 fun x J J=>O (n,x)
structure KV where
 kv:Z×Str
 k1:aA
 p1:bG
 k2:aA
 p2:bG
noncomputable def KV.key(e:KV):aG Expr:=O (.Constant (.int e.kv.1) e.k1 e.p1)
noncomputable def KV.val(e:KV):Expr:= .Constant (.str e.kv.2) e.k2 e.p2
structure IV where
 i:Z
 k:aA
 p:bG
noncomputable def IV.e(e:IV):Expr:= .Constant (.int e.i) e.k e.p
noncomputable def vy:aD Z→aU
 |a::b::r=>decide (a < b) && vy (b::r)| _=>aF
theorem Lf:∀{l:aD Z} {a:Z},vy (a::l)=aF→∀x∈l,a < x
 |[],_,_,x,h=>by cases h
 |b::r,a,h,x,c=>by
  have h:=mM.mp h;rcases gA.mp c with e |c
  ·refine M e ?_;exact kQ h.1
  ·exact uG (kQ h.1) (Lf h.2 x c)
theorem Lg:∀{l:aD Z},vy l=aF→l.Nodup
 |[],_=>afv
 |a::l,h=>by
  refine iR afr <|⟨fun c=>absurd (Lf h a c) (Int.lt_irrefl _),Lg (l:=l) ?_⟩
  cases l with
  |nil=>rfl|cons b r=>exact(mM.mp h).2
section
variable{E:aJ→aM→Prop}
noncomputable def CQ(a:gK)(b:bG):aD (aG Expr)→aD Expr→aD (cR aJ×cR aJ)
 |some k::c,v::d=>(eval k a,do let x ←eval v a;nu b;pure x)::CQ a b c d| _,_=>[]
theorem We:Ii w (eval (.Constant (.int n) k p) a,(do let x ←eval (.Constant (.str x) c d) a;nu e;pure x:cR aJ)) (n,x):=
 ⟨fun J J J J b=>pH (env:=a) (k:=k) (pos:=p) (b _ _),fun J J J J b=>wpAny_bind (sp (env:=a) (k:=c) (pos:=d) (wpAny_bind (jj (wpAny_pure (b _ _)))))⟩
theorem Wf(l:aD KV):
  (Rr (l.map KV.key) env).zip ((Rs (l.map KV.val) env).map fun v=>(do let x ←v;nu pos;pure x:cR aJ))=(CQ env pos (l.map KV.key) (l.map KV.val)).map (fun p=>(O p.1,p.2))∧iS w (CQ env pos (l.map KV.key) (l.map KV.val)) (l.map KV.kv):=by
 induction l with
 |nil=>exact⟨rfl,.nil⟩|cons e r ih=>exact⟨aR (QV (O (eval (.Constant (.int e.kv.1) e.k1 e.p1) env),(do let x ←eval (.Constant (.str e.kv.2) e.k2 e.p2) env;nu pos;pure x:cR aJ))) ih.1,.cons We ih.2⟩
theorem Wg{w:aV}{A:bX}{s:aM}{c:gK}{l:aD KV}{f:bG}{Q:aJ→aM→Prop}(h:0 < (l.map KV.kv).length)
  (i:(l.map KV.kv).length≤eF) (j:vy ((l.map KV.kv).map (·.1))=aF) (k:j1 < s.heap.objs.size)
  (m:∀a tk d g,iq g (l.map KV.kv)→a.DictOf (fG pg w) d g→s.heap.objs.size≤d→(∀b o,s.heap.get? b=O o→a.get? b=O o)→Q (.ref d) {s with heap:=a,toks:=tk}):
  aN (aO pg w) A (eval (.Dict (l.map KV.key) (l.map KV.val) f) c) Q E s:=by
 refine xa (Wf (w:=w) (env:=c) (pos:=f) l) fun e t=>M (arm_eval_Dict ..) (M e ?_);exact wpAny_bind (jj (TR t (by refine M t.length ?_;exact h) i (Lg j) k m))
theorem Wh:∀{l:aD IV} {s:aM} {Q:aD aJ→aM→Prop},
  (∀a tk,iZ a (l.map IV.i)→Q a {s with toks:=tk})→aN (aO pg w) A (sn (jD d (dG (l.map IV.e) f))) Q E s:=by
 intro l
 induction l with
 |nil=>exact fun b=>jE (b [] _ .nil)|cons e r ih=>exact fun b=>iG (pH (ih fun a tk c=>b _ _ (.cons _ _ c)))
theorem IntsAre.append {a b c d} (g:iZ a b)(h:iZ c d):iZ (a++c) (b++d):=by
 induction g with
 |nil=>exact h|cons n t _ ih=>exact .cons n t ih
theorem Wi(h:ItemsOf (fun i (v:aJ)=>∃t,v=dW (a+i*c) t) b n):iZ b.toList ((mK n).map fun(i:aA)=>a+(i:Z)*c):=by
 (refine xa h ?_;clear h;rintro f g)
 have m:∀(l:aD aJ) (k:aA),(∀(j:aA) (v:aJ),l[j]? =O v→∃t,v=dW (a+((k+j:aA):Z)*c) t)→iZ l ((qM k l.length).map fun(i:aA)=>a+(i:Z)*c):=by
  intro l
  induction l with
  |nil=>intro k _;exact .nil
  |cons v r ih=>
   intro k d;(refine xe (d 0 v V) ?_;rintro t rfl);exact .cons _ t (ih (k+1) fun j v e=>by have:=d (j+1) v (by simpa using e);refine M (ov _ _ _:k+1+j=k+(j+1)) ?_;exact this)
 have:=m b.toList 0 (fun j v e=>by rw[pB] at e;simpa using g j v e);refine M uy (aT f ?_);simpa using this
noncomputable def lX(c:aD Z)(a b:Z):aD Int:=c++(mK (b - a).toNat).map fun(i:aA)=>a+(i:Z)*1
theorem CR(b:a.scope.kind= .module)(c:a.locals=a.globals)(d:s.heap.Ns a.globals mg)(e:mg x=aB)
  (f:s.heap.Ns a.builtins mb) (g:mb x=O v) (i:(x==("__debug__":Str))=aI) (h:Q v s):aN (aO pg w) A (eval (.Name x j) a) Q E s:=
 Calls.Name_module b c (ae2 d e f g h) i
theorem Wj{w:aV}{A:bX}{s:aM}{f:gK}{l:aD IV}{a b:Z}{R T:aA}{U W X Y a0 a1 a2 a3 a4 a5:bG}{j mb:Str→aG aJ}{Q:aJ→aM→Prop}(B:A.handled=aB)(p:f.scope.kind= .module)(q:f.locals=f.globals)
  (r:s.heap.Ns f.globals j) (t:s.heap.Ns f.builtins mb) (a6:j "set"=aB) (a7:j "list"=aB) (a8:j "range"=aB) (a9:mb "set"=O (.type "set")) (a':mb "list"=O (.type "list")) (aa:mb "range"=O (.type "range"))
  (u:(l.map IV.i).length≤100) (C:0≤a∧a≤b∧b≤a+100∧b≤1000000)
  (ab:∀d tk S,d.SetOf (fG pg w) S (fun ae=>(AX (fun i=>(lX (l.map IV.i) a b).getD i 0) (lX (l.map IV.i) a b).length).any (· ==ae)) (AX (fun i=>(lX (l.map IV.i) a b).getD i 0) (lX (l.map IV.i) a b).length).length→s.heap.objs.size≤S→
   (∀b o,s.heap.get? b=O o→d.get? b=O o)→Q (.ref S) {s with heap:=d,toks:=tk}):
  aN (aO pg w) A (eval (.Call (.Name "set" U) [.BinOp (.List (l.map IV.e) W) .Add (.Call (.Name "list" X) [.Call (.Name "range" Y) [.Constant (.int a) R a0,.Constant (.int b) T a1] [] a2] [] a3) a4] [] a5) f) Q E s:=by
 refine wpAny_Call_NameR (CR p q r a6 t a9 (by decide+kernel) ?_);refine pI V (iI (by intro e;cases e) V ?_);refine iG <|wpAny_BinOp (GL (Wh fun c tk D=> ?_))
 have F:c.length=(l.map IV.i).length:=D.length;refine nw ?_ (by refine(M kP (M cN (M F ?_)):c.toArray.size≤eF);exact aL u (by decide));dsimp only;have k:∀x o,s.heap.get? x=O o→(s.heap.push {cls:= .type "list",data:= .seq c.toArray}).get? x=O o:=fun x o e=>eV _ e;have af:(s.heap.push {cls:= .type "list",data:= .seq c.toArray}).get? s.heap.objs.size=O {cls:= .type "list",data:= .seq c.toArray}:=fP _ V;refine wpAny_Call_NameR (CR (mg:=j) (mb:=mb) p q (r.keeps k) a7 (t.keeps k) a' (by decide+kernel) ?_);refine pI V (iI (by intro e;cases e) V ?_);refine iG <|wpAny_Call_NameR (CR (mg:=j) (mb:=mb) p q (r.keeps k) a8 (t.keeps k) aa (by decide+kernel) ?_)
 refine pI V (iI (by intro e;cases e) V ?_);refine iG (pH ?_);refine iG (pH (jE ?_));refine call_range_2 (jE ?_);dsimp only;(refine dX C ?_;clear C;rintro G n ah H)
 have ai:sj a b 1=((b - a).toNat:aA):=by
  refine M (j4 (AY n)) (M (afo ..) ?_)
  by_cases h:a < b
  ·exact aS h
  ·exact M (aP h) (M (RF n (ja.mp h)) (M (Int.sub_self ..) V))
 have v:(b - a).toNat≤100:=Gr.mpr (afw ah);refine ae5 B (IsRange.new _ _ _ _ _ _ _) (small_one (cL (by decide) G) (iD (cL n H) (by decide)) (cL (by decide) (cL G n)) (iD H (by decide))) ai (aL v (by decide)) fun d aq m aj y g I=> ?_;dsimp only at y g;have z:d.get? s.heap.objs.size=O {cls:= .type "list",data:= .seq c.toArray}:=y _ _ (eV _ af);have ak:=Wi I;have al:m.size=(b - a).toNat:=I.1;refine concat_meets ⟨_,z,rfl⟩ ⟨_,g,rfl⟩ aeR seq_list_add aeS aeT (aeU _ _) (list_addW _ _ c.toArray m _ aj aB aB #[] #[] ?_) ⟨z,g,?_⟩
 ·refine M cN (M kP (M F (M al ?_)));exact aL (fY u v) (by decide)
 refine jE ?_
 have K:iZ (c.toArray++m).toList (lX (l.map IV.i) a b):=by refine M lO ?_;exact IntsAre.append D ak
 have L:(c.toArray++m).size=(lX (l.map IV.i) a b).length:=by have:=K.length;simpa using this
 refine call_set_list B (l:=d.objs.size) (items:=c.toArray++m) ⟨_,fP _ V,rfl,_,rfl⟩ K ?_ fun am an N ao=> ?_
 ·refine M L ?_;unfold lX;refine M bH (M (bQ (f:=fun(i:aA)=>a+(i:Z)*1)) (M Aw ?_));exact bZ (lH (fY u v) 1) (by decide:201 < 4096)
 ·rw[L] at N;have ap:s.heap.objs.size≤d.objs.size:=fB (fA z);refine ab am an _ N ?_ fun x o e=> ?_
  ·refine(M (xv ..) ?_:s.heap.objs.size≤(d.push _).objs.size);exact nB ap
  ·have P:d.get? x=O o:=y _ _ (eV _ (k x o e));refine ao x o ?_ (eV _ P);exact M (xv ..) <|sy (fA P)
end
end
section
noncomputable def CS(p:oB):Bool:=(p.args++p.posonlyargs++p.vararg.toList++p.kwonlyargs++p.kwarg.toList).all fun a=>a.annotation.isNone
theorem Lh:∀(l:aD Arg) (e:gK),(l.all fun a=>a.annotation.isNone)=aF→afx l e=[]
 |[],_,_=>rfl|⟨_,aB,_⟩::r,e,h=>show afx r e=[] from Lh r e h|⟨_,O _,_⟩::_,_,h=>absurd h cM
theorem Li(h:CS p=aF):annTrees p aB e=[] :=by obtain⟨b,a,c,f,g,i,d⟩:=p;unfold annTrees;simp only;refine M (Lh _ _ h) ?_;rfl
inductive cP where
 |fn (name:Str) (params:oB) (body:aD bR) (scope:dO) (pos:bG)
 |int (x:Str) (p:bG) (i:Z) (k:aA) (q r:bG)
 |str (x:Str) (p:bG) (y:Str) (k:aA) (q r:bG)
 |dict (x:Str) (p:bG) (l:aD KV) (q r:bG)
 |set (x:Str) (p:bG) (l:aD IV) (a b:Z) (k1 k2:aA) (p1 p2 p3 p4 p5 p6 p7 p8 p9 lh r:bG)
noncomputable def cP.st:cP→bR
 | .fn name c d e f=> .FunctionDef name c d [] aB [] e aB name f| .int x p i k q r=> .Assign [.Name x p] (.Constant (.int i) k q) r| .str x p y k q r=> .Assign [.Name x p] (.Constant (.str y) k q) r| .dict x p l q r=> .Assign [.Name x p] (.Dict (l.map KV.key) (l.map KV.val) q) r| .set x p l a b g h j m n o s t u v w z r=> .Assign [.Name x p] (.Call (.Name "set" j) [.BinOp (.List (l.map IV.e) m) .Add (.Call (.Name "list" n) [.Call (.Name "range" o) [.Constant (.int a) g s,.Constant (.int b) h t] [] u] [] v) w] [] z) r
noncomputable def cP.nm:cP→Str
 | .fn n _ _ _ _=>n| .int x .. =>x| .str x .. =>x| .dict x .. =>x| .set x .. =>x
noncomputable def cP.pl:cP→bG
 | .fn _ _ _ _ p=>p| .int _ _ _ _ _ p=>p| .str _ _ _ _ _ p=>p| .dict _ _ _ _ p=>p| .set _ _ _ _ _ _ _ _ _ _ _ _ _ _ _ _ _ p=>p
noncomputable def Wk(k:aG Expr)(v:Expr):KV:=(k.map fun k=>sR ⟨(0,qP),0,default,0,default⟩ k fun n a b=>B2 ⟨(0,qP),0,default,0,default⟩ v fun x c d=>⟨(n,x),a,b,c,d⟩).getD ⟨(0,qP),0,default,0,default⟩
noncomputable def Wl(e:Expr):IV:=sR ⟨0,0,default⟩ e fun n k p=>⟨n,k,p⟩
noncomputable def ke:cP:= .int qP default 0 0 default default
noncomputable def Wm(s:bR):cP:=ye (IS ke s fun d v r=>d1 ke d fun t=>yd ke t fun x p=>
  sR (B2 (IR (B3 ke v fun g e f=>yd ke g fun J h=>d1 ke e fun b=>Uu ke b fun l j m=>Uv ke l fun o z=>B3 ke j fun A B C=>yd ke A fun J D=>d1 ke B fun c=>B3 ke c fun E F G=>yd ke E fun J H=>
   d2 ke F fun u w=>sR ke u fun a I K=>sR ke w fun b L N=> .set x p (o.map Wl) a b I L h z D H K N G C m f r)
   v fun P Q q=> .dict x p (List.zipWith Wk P Q) q r) v fun y k q=> .str x p y k q r) v fun i k q=> .int x p i k q r) s fun n a b R p=> .fn n a b R p
noncomputable def iK:aD cP:=pg.main.body.map Wm
theorem yB:iK.map cP.st=pg.main.body:=by kernel_rfl
inductive rq(N:aW)(name:Str)(params:oB)(body:aD bR)(scope:dO)(v:aJ)(h:bF):Prop
 |mk (a c' P':aW) (doc dV:aJ) (vs:aD aJ) (pm:aJ) (e:v= .ref a) (l1:N≤a) (l2:N≤c') (l3:N≤P') (g:h.get? a=O {cls:= .type "function",data:= .func (defFd name name params body scope fL dV .none aB pm (.ref c') doc)})
   (hv:Hb params.defaults vs) (hd:h.DefaultsAt N vs dV) (hc:h.CodeRec (.ref c') name) (hi:h.IsCode c' P' #[]) (ht:h.TableAt c' P' #[])
noncomputable def VF(w:aV)(N:aW):cP→aJ→bF→Prop
 | .fn name e f g _,v,h=>rq N name e f g v h| .int _ _ i _ _ _,v,_=>∃t,v= .int i t| .str _ _ y _ _ _,v,_=>∃t,v= .str y t| .dict _ _ l _ _,v,h=>∃d c,v= .ref d∧N≤d∧iq c (l.map KV.kv)∧h.DictOf (fG pg w) d c| .set _ _ l a b _ _ _ _ _ _ _ _ _ _ _ _ _,v,h=>∃S,v= .ref S∧N≤S∧h.SetOf (fG pg w) S (fun j=>(AX (fun i=>(lX (l.map IV.i) a b).getD i 0) (lX (l.map IV.i) a b).length).any (· ==j)) (AX (fun i=>(lX (l.map IV.i) a b).getD i 0) (lX (l.map IV.i) a b).length).length
theorem VF.above{st:cP}(x:VF w N st v h)(c:∀b o,N≤b→h.get? b=O o→z.get? b=O o):VF w N st v z:=by
 cases st with
 |fn=>
  obtain⟨a,A,B,C,D,k,E,e,u,i,m,g,F,G,H,y,I⟩:rq .. :=x;refine rq.mk a A B C D k E e u i m (c _ _ u g) F ?_ (H.at fun o=>c _ o i) ?_ ?_
  ·rcases G with e |⟨d,T,n,j,p⟩
   ·exact .inl e
   ·exact .inr ⟨d,T,n,j,c _ _ j p⟩
  ·(refine sH y ?_;clear y;rintro K k L P f;refine H' f ?_;clear f;rintro Q R U W X Y d a0 a1 a2 f;refine jo f ?_;clear f;rintro a3 a4 a5 n r);exact⟨K,k,L,P,Q,R,U,W,X,Y,c _ _ i d,a0,a1,a2,a3,a4,a5,c _ _ m n,r⟩
  ·obtain⟨⟨a6,a7,j,a8⟩,p⟩:=I;exact⟨⟨a6,a7,c _ _ i j,a8⟩,c _ _ m p⟩
 |int=>exact x|str=>exact x|dict=>(refine Tl x ?_;clear x;rintro a9 a' d l aa o q s e r);exact⟨a9,a',d,l,aa,o,q,s,c _ _ l e,r⟩|set=>(refine Tk x ?_;clear x;rintro S d l o q s t e r);exact⟨S,d,l,o,q,s,t,c _ _ l e,r⟩
structure Tp(w:aV)(h₀:bF)(lY mb:Str→aG aJ)(c Pl:aW)(done:aD cP)(h:bF)(mg:Str→aG aJ)(ps:eW aJ):Prop where
 main:h.Main mg c Pl ps
 keep:∀b o,b≠Pl→b≠fL→h₀.get? b=O o→h.get? b=O o
 lowP:Pl < h₀.objs.size
 lowG:fL < h₀.objs.size
 yC:j1 < h₀.objs.size
 CT:i'≠Pl
 grows:h₀.objs.size≤h.objs.size
 others:∀x,x∉done.map cP.nm→mg x=lY x
 held:∀st∈done,(st.nm≠"__name__"∧∃v,mg st.nm=O v∧VF w h₀.objs.size st v h)∨(st.nm="__name__"∧∃x t,mg "__name__"=O (.str x t))
 yD:∀p:bG,mL p ps.toList≠aB→∃st∈done,st.pl.line=p.line∧st.pl.col=p.col
 ok:uw ps.toList
 b:h₀.Ns i' mb
noncomputable def yE:cP→aU
 | .fn name c _ scope _=>c.kwonlyargs.isEmpty && c.kw_defaults.isEmpty && c.defaults.all (·.isPlainConst) && CS c && scope.names.all (fun x=>x.2 != .free) &&
   (pg.main.scope.names.lookup name==O .local) && (qualnameIn {scope:=pg.main.scope,locals:=fL,globals:=fL,cells:=[]} name name==name) && (name !="__builtins__") && (name !="__name__")
 | .int x _ _ _ _ _=>(pg.main.scope.names.lookup x==O .local) && (x !="__builtins__") && (x !="__name__")| .str x _ _ _ _ _=>(pg.main.scope.names.lookup x==O .local) && (x=="__name__")| .dict x _ l _ _=>(pg.main.scope.names.lookup x==O .local) && (x !="__builtins__") && (x !="__name__") && decide (0 < (l.map KV.kv).length) && decide ((l.map KV.kv).length≤10000) && vy ((l.map KV.kv).map (·.1))| .set x _ l a b _ _ _ _ _ _ _ _ _ _ _ _ _=>(pg.main.scope.names.lookup x==O .local) && (x !="__builtins__") && (x !="__name__") && decide ((l.map IV.i).length≤100) && decide (0≤a∧a≤b∧b≤a+100∧b≤1000000)
theorem Wn:iK.all yE=true:=by decide+kernel
end
section
section
variable{w:aV}{A:bX}{E:aJ→aM→Prop}{s:aM}{h₀:bF}{lY mb Y:Str→aG aJ}{c Pl F:aW}{done:aD cP}{ps:eW aJ}
theorem Wo:pg.main.scope.kind= .module:=by rfl
theorem Tp.bind{st:cP}{v:aJ}{h g:bF}{j:eW aJ}(X:Tp w h₀ lY mb c Pl done h Y ps)(D:st.nm∉done.map cP.nm∨st.nm="__name__")
  (G:g.Main (fun y=>if y=st.nm then O v else Y y) c Pl j) (n:∀b o,b≠Pl→b≠fL→h.get? b=O o→g.get? b=O o) (H:h.objs.size≤g.objs.size)
  (r:(st.nm≠"__name__"∧VF w h₀.objs.size st v g)∨(st.nm="__name__"∧∃x t,v= .str x t))
  (I:∀p:bG,mL p j.toList≠aB→∃a∈done++[st],a.pl.line=p.line∧a.pl.col=p.col) (K:uw j.toList):
  Tp w h₀ lY mb c Pl (done++[st]) g (fun y=>if y=st.nm then O v else Y y) j:=by
 have L:∀b o,h₀.objs.size≤b→h.get? b=O o→g.get? b=O o:=fun b o z e=>n b o (eG (bK X.lowP z)) (eG (bK X.lowG z)) e;refine⟨G,fun b o B C e=>n b o B C (X.keep b o B C e),X.lowP,X.lowG,X.yC,X.CT,aL X.grows H,?_,?_,I,K,X.b⟩
 ·intro x l;rw[iE,jF,Hc] at l;refine(M (aP (by simpa using l.2)) ?_:(if x=st.nm then O v else Y x)=_);exact X.others x l.1
 ·intro a i;rcases jF.mp i with i |i
  ·rcases X.held a i with⟨k,u,m,f⟩ |⟨k,x,t,m⟩
   ·refine .inl ⟨k,u,?_,f.above L⟩
    have N:a.nm≠st.nm:=by
     rcases D with q |q
     ·exact fun e=>q (e▸AA i)
     ·refine M q ?_;exact k
    refine(M (aP N) ?_:(if a.nm=st.nm then _ else Y (a.nm))=_);exact m
   ·refine .inr ⟨k,?_⟩;rcases r with⟨d,_⟩ |⟨d,y,u,f⟩
    ·exact⟨x,t,by show(if _ then _ else Y "__name__")=_;refine M (aP (Ne.symm d)) ?_;exact m⟩
    ·exact⟨y,u,by show(if _ then _ else Y "__name__")=_;exact M (aS d.symm) (M f V)⟩
  ·obtain rfl:a=st:=by simpa using i
   rcases r with⟨d,f⟩ |⟨d,y,u,f⟩
   ·exact .inl ⟨d,v,aS V,f⟩
   ·exact .inr ⟨d,y,u,by show(if _ then _ else Y "__name__")=_;exact M (aS d.symm) (M f V)⟩
theorem Tp.grown{h d:bF}(X:Tp w h₀ lY mb c Pl done h Y ps)(a:∀b o,h.get? b=O o→d.get? b=O o)(f:h.objs.size≤d.objs.size):Tp w h₀ lY mb c Pl done d Y ps:=by
 refine BI X.main.bmod fun g o i j k l m n=>⟨⟨X.main.g.keeps a,X.main.code.keeps a,X.main.low,⟨g,o,i,j,k,l,a _ _ m,n⟩⟩,fun b o p q e=>a b o (X.keep b o p q e),X.lowP,X.lowG,X.yC,X.CT,aL X.grows f,X.others,?_,X.yD,X.ok,X.b⟩;intro st t;rcases X.held st t with⟨v,u,x,y⟩ |r
 ·exact .inl ⟨v,u,x,y.above fun b o J=>a b o⟩
 ·exact .inr r
theorem Tp.store{st:cP}{v:aJ}{Q:j5→aM→Prop}(X:Tp w h₀ lY mb c Pl done s.heap Y ps)(j:st.nm∉done.map cP.nm∨st.nm="__name__")(l:pg.main.scope.names.lookup (st.nm)=O .local)
  (m:st.nm≠"__builtins__") (n:∀d,(∀b o,b≠fL→s.heap.get? b=O o→d.get? b=O o)→(st.nm≠"__name__"∧VF w h₀.objs.size st v d)∨(st.nm="__name__"∧∃x t,v= .str x t))
  (k:∀d q r tk,Tp w h₀ lY mb c Pl (done++[st]) d q r→Q .next {s with heap:=d,toks:=tk}):
  aN (aO pg w) A (RB (Hd pg c F) (st.nm) v) (fun J=>Q .next) E s:=by
 refine uz (env:=Hd pg c F) l X.main.g (fun d u f=> ?_) V;refine BI X.main.bmod fun y o z B h C D G=> ?_;have i:∀b o,b≠fL→s.heap.get? b=O o→d.get? b=O o:=fun b o g e=>(f.2 _ g).trans e
 refine k d _ ps _ (X.bind j (v:=v) ⟨u,X.main.code.sameBut f (eG X.main.low.1) (eG X.main.low.2),X.main.low,⟨y,o,?_,B,h,C,(f.2 _ h).trans D,G⟩⟩
  (fun b o J g e=>i b o g e) (cI f.1.symm) (n d i) (fun p H=>aQ (X.yD p H) fun I a b=>⟨I,kU _ a,b⟩) X.ok)
 simp only[Ne.symm m,if_false];exact z
theorem Wp{p q:bG}{v:aJ}(l:aD aJ)(h:uw l)(d:mL q (l++[lQ p.line,lQ p.col,v])≠aB):mL q l≠aB∨(p.line=q.line∧p.col=q.col):=by
 fun_induction uw l with
 |case1=>
  simp only[qQ,mL,lQ] at d
  split at d
  ·rename_i e
   simp only[hG,mh] at e;exact .inr ⟨by exact pN.mp e.1,by exact pN.mp e.2⟩
  ·exact absurd rfl d
 |case2 a t b u x f ih=>
  simp only[qR,mL] at d ⊢
  split at d
  ·rename_i e;refine M (aS e) ?_;exact .inl (by assumption)
  ·rename_i e;refine M (aP e) ?_;exact ih h d
 |case3 l g i=>exact h.elim
theorem Tp.step{st:cP}{Q:j5→aM→Prop}(X:Tp w h₀ lY mb c Pl done s.heap Y ps)(d:yE st=aF)(a2:A.handled=aB)(m:st.nm∉done.map cP.nm∨st.nm="__name__")
  (a3:∀n∈done,¬(n.pl.line=st.pl.line∧n.pl.col=st.pl.col))
  (K:lY "set"=aB∧("set":Str)∉done.map cP.nm) (L:lY "list"=aB∧("list":Str)∉done.map cP.nm) (N:lY "range"=aB∧("range":Str)∉done.map cP.nm)
  (a4:mb "set"=O (.type "set")) (a5:mb "list"=O (.type "list")) (a6:mb "range"=O (.type "range"))
  (k:∀f a7 a8 tk,Tp w h₀ lY mb c Pl (done++[st]) f a7 a8→Q .next {s with heap:=f,toks:=tk}):
  aN (aO pg w) A (jl st.st (Hd pg c F)) Q E s:=by
 cases st with
 |fn P a9 a' aa e=>
  (refine xa (aY d) ?_;clear d;rintro d y);(refine xa (aY d) ?_;clear d;rintro d ab);(refine xa (aY d) ?_;clear d;rintro d ae);(refine xa (aY d) ?_;clear d;rintro d af);(refine xa (aY d) ?_;clear d;rintro d ah);(refine xa (aY d) ?_;clear d;rintro d z);(refine xa (aY d) ?_;clear d;rintro d B);(refine xa (aY d) ?_;clear d;rintro d C);replace y:=bne_iff_ne.mp y;have bk:P∉done.map cP.nm:=m.resolve_right y
  have ai:mL e ps.toList=none:=by
   cases aj:mL e ps.toList with
   |none=>rfl
   |some bl=>
    (refine aQ (X.yD e (by refine M aj ?_;simp)) ?_;rintro n a b);exact absurd b (a3 n a)
  refine wpAny_defStmt0N (Rn.mp d) (Rn.mp C) (j2.mp B) (Li z) (fun x ak=>bne_iff_ne.mp (j2.mp ah x ak)) (beq_iff_eq.mp af) (beq_iff_eq.mp ae) X.main (fun a bm bn bo bp f tk R al g am an U ⟨bq,ao,ap,aq⟩ ar=> ?_) (bne_iff_ne.mp ab) V ai;have as:s.heap.objs.size≤f.objs.size:=aL R (fB (fA g));refine k f _ _ tk (X.bind (st:= .fn P a9 a' aa e) (v:= .ref a) m al ar as (.inl ⟨y,rq.mk _ _ _ _ _ _ _ V (aL X.grows R) (aL X.grows U.1) (aL X.grows ao) g am (an.imp id fun⟨au,T,av,aw,ax⟩=>⟨au,T,av,aL X.grows aw,ax⟩) U.2 ap aq⟩) (fun p W=> ?_) ?_)
  ·rw[lO] at W;rcases Wp ps.toList X.ok W with q |q
   ·exact aQ (X.yD p q) fun n a b=>⟨n,kU _ a,b⟩
   ·exact⟨_,j7 _ (fK.mpr V),q⟩
  ·exact M lO <|TriplesOk_snoc _ _ _ _ X.ok
 |int x p i D q e=>
  (refine xa (aY d) ?_;clear d;rintro d u);(refine xa (aY d) ?_;clear d;rintro d h);exact iY (pH (Tp.store (st:= .int x p i D q e) (s:={s with toks:=s.toks+1}) X m (beq_iff_eq.mp d) (bne_iff_ne.mp h) (fun f J=> .inl ⟨bne_iff_ne.mp u,_,rfl⟩) k))
 |str x p ay D q e=>
  (refine xa (aY d) ?_;clear d;rintro d h);replace h:=beq_iff_eq.mp h;exact iY (sp (Tp.store (st:= .str x p ay D q e) (s:={s with toks:=s.toks+1}) X m (beq_iff_eq.mp d) (by refine(M h ?_:x≠_);decide) (fun f J=> .inr ⟨h,_,_,rfl⟩) k))
 |dict x p l q e=>
  (refine xa (aY d) ?_;clear d;rintro d C);(refine xa (aY d) ?_;clear d;rintro d az);(refine xa (aY d) ?_;clear d;rintro d b0);(refine xa (aY d) ?_;clear d;rintro d u);(refine xa (aY d) ?_;clear d;rintro d h);refine iY (Wg (kQ b0) (aL (kQ az) (by refine M cN ?_;decide)) C (bK X.yC X.grows) fun f tk b1 b2 b3 a0 j G=> ?_);(refine eQ a0 ?_;clear a0;rintro o H v g r);exact Tp.store (st:= .dict x p l q e) (s:={s with heap:=f,toks:=tk}) (X.grown G (aL j (fB (fA g)))) m (beq_iff_eq.mp d) (bne_iff_ne.mp h) (fun b4 I=> .inl ⟨bne_iff_ne.mp u,b1,b2,rfl,aL X.grows j,b3,o,H,v,I _ _ (eG (bK X.lowG (aL X.grows j))) g,r⟩) k
 |set x p l a b b5 b6 b7 b8 b9 b' ba bc bd be bf bg e=>
  (refine xa (aY d) ?_;clear d;rintro d z);(refine xa (aY d) ?_;clear d;rintro d B);(refine xa (aY d) ?_;clear d;rintro d u);(refine xa (aY d) ?_;clear d;rintro d h)
  have bh:s.heap.Ns i' mb:=by exact eQ X.b fun o bi v bj r=>⟨o,bi,v,X.keep _ _ X.CT (by decide) bj,r⟩
  refine iY (Wj a2 (Wo) V X.main.g bh ((X.others _ K.2).trans K.1) ((X.others _ L.2).trans L.1) ((X.others _ N.2).trans N.1) a4 a5 a6 (kQ B) (kQ z) fun f tk S a1 j G=> ?_);(refine uS a1 ?_;clear a1;rintro o H v t g r);exact Tp.store (st:= .set x p l a b b5 b6 b7 b8 b9 b' ba bc bd be bf bg e) (s:={s with heap:=f,toks:=tk}) (X.grown G (aL j (fB (fA g)))) m (beq_iff_eq.mp d) (bne_iff_ne.mp h) (fun b4 I=> .inl ⟨bne_iff_ne.mp u,S,rfl,aL X.grows j,o,H,v,t,I _ _ (eG (bK X.lowG (aL X.grows j))) g,r⟩) k
end
end
section
noncomputable def isDone:Step→aU
 | .go _ _=>aI
 | .halt o _=>match o with
  | .done _=>aF| _=>aI
theorem ite_no [qE c] (a:isDone x=aI)(b:isDone y=aI):isDone (if c then x else y)=false:=by
 by_cases h:c
 ·refine M (aS h) ?_;exact a
 ·refine M (aP h) ?_;exact b
theorem Wq(s:aM)(t:Thread):isDone (step den p w s t)=aI∨He t=true:=by
 obtain⟨d,b,drawn,h,os⟩:=s;obtain⟨u,code,i,mQ⟩:=t;cases u with
 |pure y=>cases y with
  |done f=>cases mQ with
   |nil=>exact .inr V|cons j m=>cases j<;>exact .inl V
  | _=>exact .inl V
 |raise e=>cases mQ with
  |nil=>exact .inl (ite_no V rfl)|cons j m=>cases j<;>exact .inl V
 |finish e=>exact .inl (ite_no V rfl)
 |load a x k=>
  refine .inl ?_
  show isDone (match d.get? a with
   |some o=> .go ⟨d,b,drawn,h,os⟩ ⟨k o,code,i,mQ⟩|none=> .halt (.stuck (if a < d.objs.size then "load: the object has been freed" else "load: no object at this address")) ⟨d,b,drawn,h,os⟩)=aI
  cases d.get? a<;>rfl
 |update a x f k=>exact .inl (ite_no V rfl)|choose a n k=>exact .inl (ite_no V rfl)
 |genState g k=>
  refine .inl ?_
  show isDone (match b[g]? with
   |none=> .halt (.stuck "genState: no such generator") ⟨d,b,drawn,h,os⟩
   |some st=> .go ⟨d,b,drawn,h,os⟩ ⟨k (match st with
      | .fresh c=>(.fresh,O [(c,default)])| .suspended _ _ c p frames _=>(.suspended,O ((c,p)::frames.map Frame.where_))| .running=>(.running,aB)| .finished=>(.finished,aB)),code,i,mQ⟩)=aI
  cases b[g]? <;>rfl
 |resume g r l k=>
  refine .inl ?_
  show isDone (match b[g]? with
   |none=> .halt (.stuck "resume: no such generator") ⟨d,b,drawn,h,os⟩
   |some (.fresh c)=>
    match r with
    | .send .none=> .go ⟨d,b.setIfInBounds g .running,drawn,h,os⟩ ⟨den c,c,i,.gen g k l code i::mQ⟩| .send _=> .go ⟨d,b,drawn,h,os⟩ ⟨k .justStarted,code,i,mQ⟩| .throw e=> .go ⟨d,b.setIfInBounds g .finished,drawn,h,os⟩ ⟨k (.raised e),code,i,mQ⟩
   |some (.suspended q _ c p frames _)=>
    .go ⟨d,b.setIfInBounds g .running,drawn,h,os⟩ ⟨q r,c,p,frames++ .gen g k l code i::mQ⟩
   |some .running=> .go ⟨d,b,drawn,h,os⟩ ⟨k .running,code,i,mQ⟩|some .finished=> .go ⟨d,b,drawn,h,os⟩ ⟨k .finished,code,i,mQ⟩)=aI
  cases b[g]? with
  |none=>rfl
  |some st=>cases st with
   |fresh c=>cases r with
    |send v=>cases v<;>rfl|throw=>rfl
   | _=>rfl
 |yield v z l q=>
  refine .inl ?_
  show isDone (match AZ mQ with
   |some (frames,(g,k,c,p),m)=> .go ⟨d,b.setIfInBounds g (.suspended q l code i frames (z ||frames.any Hf)),drawn,h,os⟩ ⟨k (.yielded v),c,p,m⟩|none=> .halt (.stuck "yield outside a generator") ⟨d,b,drawn,h,os⟩)=aI
  cases AZ mQ<;>rfl
 | _=>exact .inl V
theorem step_done(h:step a p w s t= .halt (.done f) b):He t=aF∧b=s:=by refine⟨(Wq (den:=a) (p:=p) (w:=w) s t).resolve_left fun e=> ?_,step_halt_same a p w s b t _ h⟩;rw[h] at e;exact absurd e.symm cM
theorem Lj:∀(n:aA) (s:aM) (t:Thread) (f:j5) (c:aM),A0 g p w n s t= .halted (.done f) c→
  ∃m d,A0 g p w m s t= .running c d∧He d=aF
 |0,_,_,_,_,h=>by cases h
 |n+1,s,t,f,c,h=>by
  simp only[A0] at h;cases e:step g p w s t with
  |go i j=>
   simp only[e] at h;exact iQ (Lj n i j f c h) fun m d a b=>⟨m+1,d,by simp only[A0,e];exact a,b⟩
  |halt o i=>
   simp only[e] at h;injection h with k l
   subst k;subst l;obtain⟨a,b⟩:=step_done e;exact⟨0,t,by refine M b ?_;rfl,a⟩
theorem Wr{p:QP}{w:aV}{t:cR Fin}{s:aM}{R:aM→Prop}(u:s.asleep)
  (h:aN (aO p w) A1 t (fun q c=>(∃f,q= .done f)∧R c∧c.gens= #[]) (fun J J=>bO) s):
  ∃n d i,schedN (xx pO) p w n (.single s ⟨t,.builtin "claim.caller" {},default,[]⟩)= .running (.single i d)∧He d=aF∧i.heap.life=s.heap.life∧∃c,i.forget=c.forget∧R c∧c.gens= #[] :=by
 have v:=wp_of_wpAny_done (R:=fun r c=>((∃f,r= .ok f)∧R c∧c.gens= #[])∧leftWithCleanup c.gens=aI) caller_in
  (wpAny_mono h (fun q c ⟨⟨f,e⟩,r,g⟩=>⟨f,e,⟨⟨f,rfl⟩,r,g⟩,by refine M g ?_;exact Array.any_toList.symm⟩) fun J J x=>x.elim) (default:bG)
 obtain⟨n,r,c,y,⟨f,rfl⟩,z,A⟩:=(wp_iff_halts t _ _ s).mp v;refine dB (runNI_real (xx pO) p w y (outcomeOf_ends _)) fun j l B C=> ?_
 have D:∀k o,A0 (xx pO) p w k s ⟨t,.builtin "claim.caller" {},default,[]⟩≠ .halted (.unsupported "lifetime:generator-with-cleanup-left-suspended") o:=by
  intro k o E;have a:=runN_mono (xx pO) p w n k s _ _ j l;have b:=runN_mono (xx pO) p w k n s _ _ o E;rw[gI,b] at a;injection a with F _
  cases F
 refine iQ (Lj n s _ f j l) fun m d G H=>⟨m,d,j,?_,H,runN_life _ _ _ l,c,B,z,A⟩;refine M (schedN_eq_runN (xx pO) p w s _ u ⟨C,D⟩ m) (M G ?_);rfl
end
section
structure Bt(h:bF):Prop where
 mg:h.isNs fL=aF
 mb:h.isNs i'=aF
 mc:h.Ns xh (fun J=>aB)
 cs:∃o,h.get? xh=O o∧o.data= .dict #[] 0
 blt:h.bltView=bltViewBooted
 keys:(h.nsKeys fL)=mR
 bm:h.nsMap fL "__builtins__"=O (.ref 4)∧h.get? 4=O {cls:= .type "module",dict:=O i'}
 pZ:∃o es ep,h.get? j1=O o∧o.data= .dict es ep
 size:h.objs.size=11
theorem Ws(P:Params):Bt (RK P):=by
 refine⟨by kernel_rfl,by kernel_rfl,?_,?_,by kernel_rfl,by kernel_rfl,⟨by kernel_rfl,by kernel_rfl⟩,⟨boot_o_1 P,_,_,by kernel_rfl,rfl⟩,by kernel_rfl⟩
 ·have:(RK P).nsMap xh=fun J=>none:=by funext x;rfl
  exact .of_isNs (by kernel_rfl)
 ·exact⟨boot_o_2 P,by kernel_rfl,by kernel_rfl⟩
end
section
noncomputable def CU:aD cP→aD cP→aU
 | _,[] =>aF
 |done,st::b=>yE st && (!(done.map cP.nm).contains (st.nm) ||(st.nm=="__name__")) && done.all (fun a=> !(a.pl.line==st.pl.line && a.pl.col==st.pl.col)) &&
   !(st.nm=="set" ||st.nm=="list" ||st.nm=="range" ||st.nm=="__builtins__" ||mR.contains (st.nm) && !(st.nm=="__name__")) && CU (done++[st]) b
theorem Wt:CU [] iK=true:=by decide+kernel
section
variable{E:aJ→aM→Prop}
theorem Wu(r:A.handled=aB)(t:d "set"=aB)(u:d "list"=aB)(v:d "range"=aB)
  (y:mb "set"=O (.type "set")) (z:mb "list"=O (.type "list")) (B:mb "range"=O (.type "range")):
  ∀(a done:aD cP) (s:aM) (f:Str→aG aJ) (g:eW aJ) (Q:j5→aM→Prop),CU done a=aF→("set":Str)∉done.map cP.nm→("list":Str)∉done.map cP.nm→("range":Str)∉done.map cP.nm→
  Tp w h₀ d mb c Pl done s.heap f g→
  (∀h i j tk,Tp w h₀ d mb c Pl (done++a) h i j→Q .next {s with heap:=h,toks:=tk})→aN (aO pg w) A (eH (a.map cP.st) (Hd pg c F)) Q E s:=by
 intro a
 induction a with
 |nil=>
  intro done s f g Q _ _ _ _ X k;exact wpAny_execs_nil (k s.heap f g s.toks (by simpa using X))
 |cons st a ih=>
  intro done s f g Q b n o p X k;(refine xa (aY b) ?_;clear b;rintro b C);simp only[hG,RM,nt,mh,j2,xj,Hg] at b;obtain⟨⟨⟨D,G⟩,H⟩,l⟩:=b;refine wpAny_execs_cons (Tp.step X D r (G.imp (fun q=>by simpa using q) id) (fun I K e=> ?_) ⟨t,n⟩ ⟨u,o⟩ ⟨v,p⟩ y z B fun h i j tk L=> ?_)
  ·have:=H I K;rw[e.1,e.2] at this;simp at this
  ·have m:∀x:Str,x∉done.map cP.nm→st.nm≠x→x∉(done++[st]).map cP.nm:=fun x q e=>by refine M iE (iR jF (iR Hc ?_));exact⟨q,by simpa using Ne.symm e⟩
   exact ih (done++[st]) _ i j Q C (m _ n l.1.1.1.1) (m _ o l.1.1.1.2) (m _ p l.1.1.2) L fun N P R S T=>k N P R S (by simpa using T)
end
theorem Wv:∀x∈mR,x="__name__"∨x∉iK.map cP.nm:=by decide+kernel
theorem Ww:∀x∈iK.map cP.nm,x∈mR∨x∈pg.boundNames:=by decide+kernel
theorem Wx:afy pg=pg.main.body:=by kernel_rfl
theorem Lk:hasAnns pg.main.body=aI∧docOf pg.main.body=none:=⟨by kernel_rfl,by kernel_rfl⟩
theorem cP.Wy{t:cP}{n:Str}{p:oB}{b:aD bR}{a:dO}{q:bG}(h:t.st= .FunctionDef n p b [] aB [] a aB n q):t= .fn n p b a q:=by
 cases t with
 |fn=>injection h with c d e _ _ _ f _ _ g;exact M c (M d (M e (M f (M g V))))
 | _=>exact(by contradiction)
theorem Ll{n:Str}{p:oB}{b:aD bR}{a:dO}{q:bG}(c: .FunctionDef n p b [] aB [] a aB n q∈pg.main.body): .fn n p b a q∈iK:=by rw[←yB] at c;exact aQ (iX.mp c) fun t d e=>cP.Wy e▸d
structure TF(w:aV)(h:bF)(mg mb:Str→aG aJ):Prop where
 g:h.Ns fL mg
 b:h.Ns i' mb
 builtins:∀x:Str,x≠"__name__"→mb x=xg x
 statics:h.Ns xh (fun J=>aB)
 bmain:∃bm o,mg "__builtins__"=O (.ref bm)∧bm≠i'∧bm≠fL∧h.get? bm=O o∧o.cls= .type "module"∧o.dict=O i'∧o.data= .plain
 pZ:∃o es ep,h.get? j1=O o∧o.data= .dict es ep
 others:∀x,x∉iK.map cP.nm→x∉mR→mg x=aB
 held:∃N,j1 < N∧fL < N∧i' < N∧xh < N∧∀st∈iK,st.nm≠"__name__"→∃v,mg (st.nm)=O v∧VF w N st v h
theorem Wz(d:Bt s₀.heap)(a7:s₀.gens= #[])(U:s₀.asleep):
  ∃f,TopRan pg w s₀ f∧f.asleep∧f.gens= #[]∧∃W mb,TF w f.heap W mb∧∀x∈mR,x≠"__name__"→W x=s₀.heap.nsMap fL x:=by
 have G:=afz d.mg;have B:=afz d.mb;have p:∀x:Str,x≠"__name__"→s₀.heap.nsMap i' x=xg x:=Heap.of_bltView d.mb d.blt;have I:=d.size;have s:∀x,x∉mR→s₀.heap.nsMap fL x=none:=fun x i=>Heap.nsMap_none (by refine M d.keys ?_;exact i)
 (refine Tm (Wr (p:=pg) (w:=w) (s:=s₀) (t:=(topStub pg).cur)
  (R:=fun z=>∃h c Pl Y A,(Tp w A (s₀.heap.nsMap fL) (s₀.heap.nsMap i') c Pl iK z.heap h Y∧(∀b o,s₀.heap.get? b=O o→A.get? b=O o))∧s₀.heap.objs.size≤Pl∧z.os=s₀.os) U (by
   show aN _ _ (do
     let code ←moduleCode pg.main
     let frame ←newBodyFrame code A2 A2
     let _ ←run (.body (afy pg) {scope:=pg.main.scope,locals:=A2,globals:=A2,cells:=[],code,frame:=O frame})
     ret .none) _ _ s₀
   refine wpAny_bind (wpAny_moduleCode fun c Pl a0 tk a1 a8 K a2=> ?_);refine wpAny_bind (wpAny_bind (RN (G.keeps a1) (Gg ?_)));refine M Wx (aT yB ?_);refine wpAny_bind (wpAny_run (codeAny_body (by refine M yB ?_;exact Lk.1) (by refine M yB ?_;exact Lk.2) ?_));have j:∀o b x,s₀.heap.get? b=O x→(a0.push o).get? b=O x:=fun o b x e=>eV _ (a1 b x e);have L:∀a:aW,a < 11→a < s₀.heap.objs.size:=fun a N=>by refine M I ?_;exact N
   have k:11≤Pl:=by refine aT I ?_;exact K
   refine Wu V (s _ (by decide)) (s _ (by decide)) (s _ (by decide)) ((p _ (by decide)).trans (by decide+kernel)) ((p _ (by decide)).trans (by decide+kernel)) ((p _ (by decide)).trans (by decide+kernel))
    iK [] _ (s₀.heap.nsMap fL) #[] _ Wt (by decide) (by decide) (by decide) (h₀:=a0.push _) (mb:=s₀.heap.nsMap i') (Pl:=Pl)
    ⟨⟨G.keeps (j _),a2.push _,⟨bK (L 3 (by decide)) a8,bK (L 3 (by decide)) K⟩,⟨4,_,d.bm.1,by decide,by decide,by intro e;replace k:=Eq.symm e▸k;exact absurd k (by decide),j _ _ _ d.bm.2,rfl,rfl,rfl⟩⟩,
     fun b o J J e=>e,(a2.push _).lt.2,(G.keeps (j _)).lt,?_,?_,cA _,fun x J=>rfl,fun st l=>((cO l).elim),fun b5 a9=>absurd rfl a9,trivial,B.keeps (j _)⟩
    fun b6 h a' b7 aa=> ?_
   ·obtain⟨o,_,_,e,_⟩:=d.pZ;exact fA (j _ _ _ e)
   ·intro e;replace k:=Eq.symm e▸k;exact absurd k (by decide)
   ·exact wpAny_pure ⟨⟨_,rfl⟩,⟨h,c,Pl,a',_,⟨by simpa using aa,fun b o e=>j _ b o e⟩,K,rfl⟩,a7⟩)) ?_;rintro n ab f ae af a3 z ah ⟨h,c,Pl,Y,A,⟨X,P⟩,ai,aj⟩ ak)
 refine jo (Shared.forget_eq ah) fun al J J am an=> ?_
 have a4:f.gens= #[] :=by
  have:f.gens.size=z.gens.size:=by have:=aR Array.size an;simpa using this
  exact Array.eq_empty_of_size_eq_zero (by refine M this (M ak ?_);rfl)
 replace X:=Eq.symm al▸X;have L:∀a:aW,a < 11→a < s₀.heap.objs.size:=fun a N=>by refine M I ?_;exact N
 have ao:∀b o,s₀.heap.get? b=O o→b≠Pl:=fun b o e=>fE (bK (fA e) ai);have t:∀b o,b≠fL→s₀.heap.get? b=O o→f.heap.get? b=O o:=fun b o d e=>X.keep b o (ao b o e) d (P b o e);have a5:∀(a:aW) m,a≠fL→s₀.heap.Ns a m→f.heap.Ns a m:=fun a m ap x=>eQ x fun o C D e r=>⟨o,C,D,t _ _ ap e,r⟩;have aq:=a5 _ _ (by decide) d.mc;have Q:=a5 _ _ (by decide) B;have R:∀x,globalOf f.heap x=h x:=fun x=>afA X.main.g x;have ar:∀x,globalOf s₀.heap x=s₀.heap.nsMap fL x:=fun x=>Pin.globalOf_eq d.mg x
 have a6:∀g,Hh f.heap g=none:=fun g=>by refine aQ d.cs fun o u v=> ?_;simp only[Hh,t _ _ (by decide) u,v];rfl
 have as:∀g,Hh s₀.heap g=none:=fun g=>by refine aQ d.cs fun o u v=> ?_;simp only[Hh,u,v];rfl
 have S:∀x∈mR,x≠"__name__"→h x=s₀.heap.nsMap fL x:=fun x i y=>X.others x ((Wv x i).resolve_left y)
 refine⟨f,⟨⟨n,ab,ae,af⟩,a3,Shared.rest_eq (am.trans aj),fun b o e y=>t b o (fun q=>y (.inl q)) e,fun g au e=>(by replace e:=(a6 ..)▸e;cases e),fun g=> .inl ((a6 g).trans (as g).symm),Pin.keysAreStrs_of_ns X.main.g,?_,?_,?_,?_,?_⟩,afB a3 U,a4,h,s₀.heap.nsMap i',
  ⟨X.main.g,Q,p,aq,(let⟨av,o,aw,ax,ay,_,az,b0,b1,b2⟩:=X.main.bmod;⟨av,o,aw,ax,ay,az,b0,b1,b2⟩),(eQ d.pZ fun o C D e b3=>⟨o,C,D,t _ _ (by decide) e,b3⟩),fun x F H=>(X.others x F).trans (s x H),A.objs.size,X.yC,X.lowG,(B.keeps P).lt,(d.mc.keeps P).lt,?_⟩,S⟩
 ·intro x i;(refine nJ Q ?_;clear Q;rintro o C D u v b8 b4);show RO f.heap x=_
  have:RO f.heap x=s₀.heap.nsMap i' x:=by simp only[RO,u,v];exact b4 x
  exact M this <|p x i
 ·exact⟨4,_,(R _).trans ((S _ (by decide) (by decide)).trans d.bm.1),t _ _ (by decide) d.bm.2,rfl,rfl⟩
 ·intro b9 T;replace T:=a4▸T;simp at T
 ·intro x au e;replace e:=(R ..)▸e
  by_cases F:x∈iK.map cP.nm
  ·exact Ww x F
  ·replace e:=(X.others x F)▸e
   by_cases H:x∈mR
   ·exact .inl H
   ·replace e:=(s x H)▸e;cases e
 ·intro x i
  have l:x∈mR∧x≠"__name__":=by revert x;decide
  refine M (R ..) (M (ar ..) ?_);exact S x l.1 l.2
 ·intro st l y;rcases X.held st l with⟨_,r⟩ |⟨q,_⟩
  ·exact r
  ·exact absurd q y
end
section
noncomputable def Lm:Prop:=∀(w:aV) (h:bF) (g mb:Str→aG aJ),TF w h g mb→∀(c:aM) (a:aW) (o:Obj) (i:eW aJ) (n:aA) (d:aD Z),
 (∀b o,h.get? b=O o→c.heap.get? b=O o)→h.get? a=aB→c.gens= #[]→c.heap.get? a=O o→o.cls= .type "list"→o.data= .seq i n→iZ i.toList d→d.length≤63→(∀x∈d,x.natAbs < 2^(2^20))→
 ∃f,g "law"=O f∧aN (aO pg w) A1 (afC f [.ref a]) (fun v e=>v= .bool aF∧OldK c.heap e.heap∧e.os=c.os∧nr e.gens) (fun J J=>bO) c
noncomputable def Ln(R:WRecords)(e:Str→aG aW)(h:bF)(v:aJ)(b:aD aW):A3→Prop
 | .int i=>(∃t,v= .int i t)∧b=[]| .list f=>∃a o c n d,v= .ref a∧b=a::d∧h.get? a=O o∧o.cls= .type "list"∧o.data= .seq c n∧RP R e h c.toList f d| _=>sa
theorem Lp(r:RQ R b h v d a):Ln R b h v a d:=
 ReadsW.casesOn (motive_1:=fun v d a J=>Ln R b h v a d) r trivial (fun J=>trivial) (fun J t=>⟨⟨t,rfl⟩,rfl⟩) (fun J J=>trivial) (fun c e f g=>⟨_,_,_,_,_,rfl,rfl,c,e,f,g⟩) (fun J J J J=>trivial) (fun J J J J J=>trivial) (fun J J=>trivial) (fun J J=>trivial) (fun J J J=>trivial) (fun J J J J J J=>trivial) (fun J J J J J J=>trivial) (fun J J J J J J J J J J J J J J=>trivial)
theorem WA(r:RQ [] c h v d a)(b:afD [] d .int=aF):∃i t,v= .int i t∧d= .int i∧a=[] :=by
 have q:=Lp r;clear r;cases d with
 |int i=>exact⟨i,q.1.choose,q.1.choose_spec,rfl,q.2⟩| _=>exact absurd b cM
theorem WB{i:Z}{m n:aA}(h:(if i==0 then 0 else i.natAbs.log2+1)+1+m≤n):i.natAbs < 2^n:=by
 split at h
 ·rename_i a
  refine M (beq_iff_eq.mp a) ?_;exact afE _
 ·rename_i a
  have a:i≠0:=by simpa using a
  exact(AJ (Int.natAbs_ne_zero.mpr a)).mp (bK (kS _) (aL (hV _ _) (aL (hV _ _) h)))
theorem WC(a:aD A3):∀{e:aD aJ} {f:aD aW},RS [] a .int=aF→RP [] q h e a f→∃b:aD Z,iZ e b∧b.length=a.length∧f=[]∧(afF a≤2^20→∀x∈b,x.natAbs < 2^(2^20)):=by
 induction a with
 |nil=>intro e f _ r;cases r;exact⟨[],.nil,rfl,rfl,fun J x c=>(cO c).elim⟩
 |cons d a ih=>
  intro e f g r;cases r with
  |cons k l=>
   have g:=mM.mp g;refine mV (ih g.2 l) fun b m n o p=> ?_;(refine cS (WA k g.1) ?_;rintro i t rfl rfl rfl);subst o;refine⟨_::b,.cons _ _ m,aR (· +1) n,rfl,fun j x c=> ?_⟩;rcases gA.mp c with rfl |c
   ·exact WB j
   ·exact p (aL (ox _ _) j) x c
theorem WD{args:aD A3}(h:lw.row.toRowW.claim.pre args=aF):∃a,args=[.list a]∧RS [] a .int=aF∧a.length≤63:=by
 refine xa (pre_splitW h) fun f c=> ?_;(refine cS (hasAllW_cons f) ?_;rintro d r rfl b g);obtain rfl:=hasAllW_nil g;have b:afD [] d (.list .int)=true:=b;cases d with
 |list a=>
  have b:(RS [] a .int ||false)=true:=b;refine⟨a,rfl,by rw[Bool.or_false] at b;exact b,?_⟩;have c:WTm.holds [] (.and (.not (.lit (.bool (decide ((63:Z) < (a.length:Z)))))) (.lit (.bool aF))) {args:=[]}=true:=c
  by_cases e:(63:Z) < (a.length:Z)
  ·rw[fM e] at c;exact absurd c cM
  ·exact cT.mp (ja.mp e)
 | _=>exact absurd b cM
theorem WE:∀s,afG pg s=O s:=fun s=>by
 have a:importedModules pg.main.body=[] :=by decide+kernel
 have b:pg.main.body.any namesNumpy=false:=by decide+kernel
 unfold afG;rfl
theorem CV:∀{a:aD aJ},Hb [] a→a=[]
 |[],_=>rfl| _::_,h=>h.elim
theorem WF(X:TF w h c mb)(d:h.Ns fL c):isTheDefsW pg h "law":=by
 refine xS X.held fun N J J J J f=> ?_;obtain⟨b,i⟩:∃b,iK[35]? =O (.fn "law" (aK 35).params (aK 35).body (aK 35).scope b):=⟨_,rfl⟩;(refine aQ (f _ (kt i) (by show("law":Str)≠_;decide)) ?_;rintro v e j);obtain⟨a,m,n,o,p,r,s,rfl,t,u,x,g,k,l,y,z,A⟩:rq .. :=j;refine⟨_,_,_,(aK 35).params,(aK 35).body,(aK 35).scope,(afA d _).trans e,g,rfl,by kernel_rfl,rfl,rfl,rfl,rfl,rfl,rfl,rfl,rfl,.inl ⟨rfl,?_⟩,[],rfl,.inl ⟨rfl,rfl⟩⟩;rcases l with⟨_,q⟩ |⟨q,_⟩
 ·exact q
 ·exact absurd (CV k) q
inductive Lq(w:aV)(kf:aM)(ord:aD Hi→aD Hi)(args:aD A3):Prop
 |mk (vz:aM) (as:aD aW) (a:aW) (o:Obj) (its:eW aJ) (n:aA) (xs:aD Z) (h1:layAllW lw.row.toRowW.claim.records (classAt kf.heap) w.params ord args kf=O ([.ref a],vz)) (L:Laid lw.row.toRowW.claim.records w kf vz args [.ref a] as)
   (keeps:∀b o,kf.heap.get? b=O o→vz.heap.get? b=O o) (hn:kf.heap.get? a=aB) (hg:vz.gens= #[]) (ho:vz.heap.get? a=O o) (hc:o.cls= .type "list") (hd:o.data= .seq its n) (hI:iZ its.toList xs) (hl:xs.length≤63) (hw:∀x∈xs,x.natAbs < 2^(2^20)):Lq w kf ord args
theorem WG(r:RP R a h b [d] c):∃v,b=[v]∧RQ R a h v d c:=by
 cases r with
 |cons e f=>cases f;exact⟨_,rfl,by refine M (jT ..) ?_;exact e⟩
theorem WH(h:afH [.list a] =aF):afF a≤2^20:=by have h:=j2.mp h _ (.head _);unfold WData.layable at h;exact kQ (mM.mp h).2
theorem WI(j:d.gens= #[]){args:aD A3}(k:lw.row.toRowW.claim.pre args=aF)(m:afH args=aF){ord:aD Hi→aD Hi}(p:∀l,(ord l).Perm l):Lq w d ord args:=by(refine dB (WD k) ?_;rintro f rfl t u);(refine xe (Option.isSome_iff_exists.mp (layAllW_isSome (P:=w.params) (ord:=ord) (R:=lw.row.toRowW.claim.records) (cl:=classAt d.heap) (fun c g=>GY g) [.list f] [.list .int] d (pre_splitW k).1)) ?_;rintro⟨x,h⟩ b);have q:=layAllW_keeps _ _ _ b;have i:=layAllW_rest _ _ _ b;refine dB (reads_layAllW p _ _ _ b m h.heap (fun J J e=>e)) fun y r s z=> ?_;have L:Laid lw.row.toRowW.claim.records w d h [.list f] x y:=⟨⟨ord,p,b⟩,r,s,z,q,i.1.trans j,i.2.2.1⟩;(refine aQ (WG r) ?_;rintro v rfl A);(refine To (Lp A) ?_;rintro a o B n K rfl rfl C g D E);exact mV (WC f t E) fun F G H N I=>⟨h,_,a,o,B,n,F,b,L,q,xZ (s.2.2 _ (.head _)).1,i.1.trans j,C,g,D,G,aL (cI H) u,I (WH m)⟩
theorem WJ(H:Lm):lw.Holds:=by
 refine⟨Ie,⟨row_said Ie,Ig,⟨Tu,Tv,rfl⟩,Ig.witness,fun w=> ?_⟩⟩;have d:=boot_open (p:=pg) (N:=600) Tw (by decide) WE w;rw[←table_eq_tree] at d;refine aQ (me.mp d) fun b p e=>aQ (Q3.mp p) fun s q i=> ?_;have c:=ahJ q;refine⟨⟨s,c⟩,fun j r=> ?_⟩;obtain rfl:j=s:=ahK r c;have z:b.asleep:=afB (fence_lifeW i) c.life;have k:b.gens= #[] :=aR (·.2.1) e;have t:b.heap=RK w.params:=aR (·.1) e;refine Tj (Wz (w:=w) (s₀:=b) (t▸Ws w.params) k z) fun u y D A E mb X J=> ?_;clear d p e q c r z t;refine⟨b,i,k,u,y,fun n l=> ?_,fun x m=>((cO m).elim),fun x m=>((cO m).elim),?_⟩
 ·exact M (fK.mp (l:n∈[aH "law"])) <|WF X X.g
 ·clear i y k
  refine ClaimW.callFrom_of_specG (c:=lw.row.toRowW.claim) (tree:=fun F=>do match ←nsGet A2 (aH "law") with
   |some f=>do ret (←afC f F)
   |none=>unsupported "claim.caller:no-such-global") D A fun args G I ord K=> ?_
  obtain⟨B,a5,a,o,N,n,P,Q,L,C,l,R,S,T,U,W,Y,a0⟩:=WI (w:=w) A G I K;refine aQ (H w u.heap E mb X B a o N n P C l R S T U W Y a0) fun f a1 a2=>⟨_,B,Q,wpAny_bind (RN (X.g.keeps C) ?_)⟩;refine M a1 <|wpAny_bind (wpAny_mono a2 (fun v j h=>wpAny_pure ⟨_,rfl,?_⟩) fun J J x=>x.elim)
  have g:=GoodWG.laid (c:=lw.row.toRowW.claim) (s':=j) (r:= .ok (.ret v)) V rfl (ident_freeW V rfl rfl) L ⟨.inl ⟨v,.bool aF,[],rfl,fun a6=>rfl,h.1▸ .bool _,by kernel_rfl,fun J=>⟨afv,fun a a3=>(cO a3).elim⟩⟩,h.2.1,h.2.2.1,h.2.2.2⟩;exact⟨g.1,g.2.1,g.2.2,fun a4=>by cases a4⟩
end
section
noncomputable def vA:aD Nat:=[6,11,12]
noncomputable def o5(s:bR):aG (bG×Str):=ye aB s fun n J b J J=>b.findSome? fun st=>ye aB st fun m J J J p=>O (p,n++(".<locals>.":Str)++m)
inductive CW(mg:Str→aG aJ)(h:bF)(T:aD Tab)(i:aA):Prop
 |mk (t:Tab) (ht:t∈T) (a:aW) (o:Obj) (pm:aJ) (c:aW) (doc:aJ) (h1:mg (aK i).name=O (.ref a)) (h2:h.get? a=O o) (h3:o.data= .func (mP (aK i).name (aK i).params (aK i).body (aK i).scope pm (.ref c) doc)) (h4:h.CodeRec (.ref c) (aK i).name) (h5:uH h c t.P) (h6:(pg.main.body[i]?).bind o5=O (t.pos,t.q)):CW mg h T i
noncomputable def hO:aD Int:=lX [173,847,6150,6155,6156,6157,8203,8204,8205,8288,65279] 65024 65040
noncomputable def lj:aD (Z×Str):=((pg.main.body[18]?).map fun s=>IS [] s fun J v J=>IR [] v fun a b J=>Wc a b).getD []
structure Wd(w:aV)(mg mb:Str→aG aJ)(h₀:bF):Prop where
 base:Base mg mb h₀
 bi:∀f∈(["len","chr","ord","str","min","divmod","list","range","reversed"] :aD eA),mg (aH f)=aB
 CX:∀f∈(["int","set","iter","next","sorted","enumerate","print","ZeroDivisionError"] :aD eA),mg (aH f)=aB
 CY:∀i < 36,∀n p b sc q,pg.main.body[i]? =O (.FunctionDef n p b [] aB [] sc aB n q)→p.defaults=[]→vm mg h₀ ⟨n,p,b,sc⟩
 bmain:∃bm o,mg "__builtins__"=O (.ref bm)∧bm≠i'∧bm≠fL∧h₀.get? bm=O o∧o.cls= .type "module"∧o.dict=O i'∧o.data= .plain
 WK:∃a o pm cd doc D,mg (aK 5).name=O (.ref a)∧h₀.get? a=O o∧o.data= .func {mP (aK 5).name (aK 5).params (aK 5).body (aK 5).scope pm cd doc with defaults:= .ref D}∧h₀.CodeRec cd (aK 5).name∧h₀.get? D=O {cls:= .type "tuple",data:= .seq #[.bool aI]}
 b1:∃S,mg "b1_set"=O (.ref S)∧h₀.SetOf (fG pg w) S (fun k=>hO.any (· ==k)) hO.length
 b3:∃d fQ,mg "b3_exceptions"=O (.ref d)∧(d==j1)=aI∧iq fQ lj∧h₀.DictOf (fG pg w) d fQ
 WL:∀x i,(x,i)∈[(("_DIV_LIMIT":Str),(4000:Z)),("_MAX_STRING_SIZE",40),("_MOVE_COST",2),("_CASE_COST",1)]→∃t,mg x=O (.int i t)
theorem oW.up(h:oW w b mb h₀ T n f c y)(a:n≤m):oW w b mb h₀ T m f c y:=
 fun A K s d e g i=>h A K s d e (bZ (eK a _) g) (ml (BB (cA _) (uu _ a) (jB i)))
theorem Ct.up(h:Ct w b mb h₀ T n f c y)(d:n≤m):Ct w b mb h₀ T m f c y:=
 let⟨a,o,e,g,i,j,k⟩:=h;⟨a,o,e,g,i,j,k.up d⟩
section
theorem Wd.nc(W:Wd w b mb h₀)(d:∀x i,P.gk x=O i→(x,i)∈[(("_DIV_LIMIT":Str),(4000:Z)),("_MAX_STRING_SIZE",40),("_MOVE_COST",2),("_CASE_COST",1)])
  (e:∀f a y,P.call f a=O y→Ct w b mb h₀ T n f a y):∀c:Cx,c.mg=b→c.mb=mb→c.h₀=h₀→c.T=T→yf w c n P:=fun c g j k l=>by
 subst g j k l;exact⟨fun x i h=>W.WL x i (d x i h),fun f a y h=>e f a y h,W.bi⟩
theorem Wd.fn(W:Wd w mg mb h₀)(hi:i < 36)(he:∃q,pg.main.body[i]? =O (.FunctionDef (aK i).name (aK i).params (aK i).body [] aB [] (aK i).scope aB (aK i).name q))(WM:(aK i).params.defaults=[])
  (hd:iv (aK i) k tb=aF)
  (rm:∀(vs:aD aJ) (pm cd doc:aJ),vs.length=k→uF (mP (aK i).name (aK i).params (aK i).body (aK i).scope pm cd doc) ⟨vs,[]⟩=pure (((aK i).params.args.map (·.arg)).zip vs))
  (rn:dY (aK i).scope tb b (aK i).body=aF)
  (hg:∀x i,P.gk x=O i→(x,i)∈[(("_DIV_LIMIT":Str),(4000:Z)),("_MAX_STRING_SIZE",40),("_MOVE_COST",2),("_CASE_COST",1)])
  (hc:∀f xs y,P.call f xs=O y→Ct w mg mb h₀ T n f xs y)
  (hk:xs.length=k) (hx:bE P b {loc:=xs.map O++rest}=O (.ret y,σ')) (hr:rest.all QQ=aF):Ct w mg mb h₀ T (n+1) (aK i).name xs y:=by
 (refine xe he ?_;clear he;rintro q he);exact oW.of hd (W.CY i hi _ _ _ _ q he WM) rm (W.nc hg hc) rn hk hx (Ic hr)
end
theorem WN:AX (fun i=>hO.getD i 0) hO.length=hO:=by decide+kernel
noncomputable def ia(x:Str):aG Int:=if x="_DIV_LIMIT" then O 4000 else if x="_MAX_STRING_SIZE" then O 40 else if x="_MOVE_COST" then O 2 else if x="_CASE_COST" then O 1 else aB
theorem fV:∀x i,ia x=O i→(x,i)∈[(("_DIV_LIMIT":Str),(4000:Z)),("_MAX_STRING_SIZE",40),("_MOVE_COST",2),("_CASE_COST",1)] :=by
 intro x i h;unfold ia at h
 split at h
 ·cases h;subst_vars;decide
 ·split at h
  ·cases h;subst_vars;decide
  ·split at h
   ·cases h;subst_vars;decide
   ·split at h
    ·cases h;subst_vars;decide
    ·cases h
noncomputable def bJ:bT:={gk:=ia,call:=fun J J=>aB}
theorem WO(W:Wd w mg mb h₀)(n:Z)(h0:0≤n)(h1:n < 100):Ct w mg mb h₀ T 1 "_law_two" [.int n] (.str (two n)):=
 W.fn (n:=0) (i:=29) (P:=bJ) (rest:=[]) (by decide) ⟨_,rfl⟩ V VE (fun vs J J J h=>pU (fun J=>rfl) vs h) VD fV (fun J J J=>nn) V (Wb bJ n h0 h1) V
end
section
theorem WP:∀i∈vA,∃q,pg.main.body[i]? =O (.FunctionDef (aK i).name (aK i).params (aK i).body [] aB [] (aK i).scope aB (aK i).name q)∧(aK i).params.defaults=[]∧(aK i).name≠"__name__":=by
 intro i a;simp only[vA,gA,cO,or_false] at a;rcases a with rfl |rfl |rfl
 ·exact⟨_,rfl,rfl,by decide⟩
 ·exact⟨_,rfl,rfl,by decide⟩
 ·exact⟨_,rfl,rfl,by decide⟩
theorem WQ{h:bF}{N:aW}{b:aD aJ}{c:aJ}{p:oB}(d:p.defaults=[])(a:Hb p.defaults b)(e:h.DefaultsAt N b c):c= .none:=by
 replace a:=d▸a;rcases e with⟨_,q⟩ |⟨q,_⟩
 ·exact q
 ·exact absurd (CV a) q
theorem WR{h:bF}{N:aW}{a:aD aJ}{c:aJ}{k:aA}{r:bG}(b:Hb [.Constant (.bool aI) k r] a)(d:h.DefaultsAt N a c):∃D,c= .ref D∧h.get? D=O {cls:= .type "tuple",data:= .seq #[.bool aI]}:=by
 cases a with
 |nil=>exact b.elim
 |cons v a=>
  obtain⟨b,f⟩:=b;obtain rfl:v= .bool false:=b;obtain rfl:=CV f;rcases d with⟨q,_⟩ |⟨_,D,e,_,g⟩
  ·exact absurd q (by decide)
  ·exact⟨D,e,g⟩
inductive WS(h:bF)(mg:Str→aG aJ)(n:Str)(p:oB)(b:aD bR)(sc:dO):Prop
 |mk (a:aW) (o:Obj) (pm:aJ) (c P:aW) (doc:aJ) (h1:mg n=O (.ref a)) (h2:h.get? a=O o) (h3:o.cls= .type "function") (h4:o.data= .func (mP n p b sc pm (.ref c) doc)) (h5:h.CodeRec (.ref c) n) (h6:h.TableAt c P #[]) (h7:uH h c P)
theorem CZ{w:aV}{h:bF}{mg mb:Str→aG aJ}(X:TF w h mg mb){n:Str}{p:oB}{b:aD bR}{c:dO}{q:bG}(f: .FunctionDef n p b [] aB [] c aB n q∈pg.main.body)(i:p.defaults=[])(j:n≠"__name__"):WS h mg n p b c:=by refine xS X.held fun N J J J J k=>aQ (k _ (Ll f) j) fun v e l=> ?_;obtain⟨a,t,u,x,y,z,A,rfl,B,C,D,g,m,o,r,s,d⟩:rq .. :=l;obtain rfl:=WQ i m o;exact⟨_,_,_,_,_,_,e,g,rfl,rfl,r,d,.of s d⟩
structure jY(mg:Str→aG aJ)(h:bF)(T:aD Tab):Prop where
 at_:∀i∈vA,CW mg h T i
 apart:∀t∈T,∀t'∈T,t'.pos.line=t.pos.line→t'.pos.col=t.pos.col→t'.q=t.q
noncomputable def kvsOf:cP→aD (Z×Str)
 | .dict _ _ l _ _=>l.map KV.kv| _=>[]
noncomputable def cP.WT:cP→aU
 | .dict .. =>aF| _=>aI
structure Seen(h h':bF):Prop where
 get:∀b o,h.get? b=O o→(∀ps,o≠{cls:= .none,data:= .fields ps})→h'.get? b=O o
section
variable{h h':bF}(S:Seen h h')
include S
theorem Seen.code(b:h.CodeRec (.ref c) q)(d:uH h c P):h'.CodeRec (.ref c) q:=by(refine Ia d ?_;clear d;rintro o k _ _ _ _ _ _ _ f a _);(refine BE b ?_;clear b;rintro l m i j e g r);cases e;replace g:=f▸g;cases g;exact⟨_,_,i,j,rfl,S.get _ _ f (fun n z=>by replace a:=z▸a;cases a),r⟩
theorem Seen.hd(b:uH h c P):uH h' c P:=by(refine Ia b ?_;clear b;rintro o d e f g i j k l m a r);exact⟨o,d,e,f,g,i,j,k,l,S.get _ _ m (fun n z=>by replace a:=z▸a;cases a),a,r⟩
theorem Seen.ns(x:h.Ns a m):h'.Ns a m:=by(refine pS x ?_;clear x;rintro o b c e d r);exact⟨o,b,c,S.get _ _ e (fun f z=>by replace d:=z▸d;cases d),d,r⟩
end
theorem WU{h:bF}{T:aD Tab}(a:∀t∈T,∃c,h.TableAt c t.P #[]):Seen h (Hj h (T.map (·.P))):=⟨fun b o e d=>hideAll_get _ e fun f=>by(refine aQ (iX.mp f) ?_;rintro t g rfl);obtain⟨c,k⟩:=a t g;replace e:=k.2▸e;exact d _ (cB e).symm⟩
noncomputable def WV(h:bF)(mg:Str→aG aJ)(i:aA)(t:Tab):Prop:=∃c,h.TableAt c t.P #[]∧(pg.main.body[i]?).bind o5=O (t.pos,t.q)∧∀h' T,Seen h h'→t∈T→CW mg h' T i
theorem C0{w:aV}{h:bF}{mg mb:Str→aG aJ}(X:TF w h mg mb){i:aA}(g:i∈vA){p:bG}{q:Str}(d:(pg.main.body[i]?).bind o5=O (p,q)):∃P,WV h mg i ⟨P,p,q⟩:=by refine dB (WP i g) fun q e j k=> ?_;obtain⟨a,o,l,c,P,m,n,r,b,s,t,u,f⟩:=CZ X (kt e) j k;exact⟨P,c,u,d,fun h' T S v=>⟨_,v,a,o,l,c,m,n,S.get _ _ r (fun x z=>by replace b:=z▸b;cases b),s,S.code t f,S.hd f,d⟩⟩
section
variable{w:aV}{h h':bF}{mg mb:Str→aG aJ}(X:TF w h mg mb)(S:Seen h h')
include X
theorem yF{t:cP}{i:aA}(e:iK[i]? =O t)(a:t.nm≠"__name__"):∃N,j1 < N∧∃v,mg t.nm=O v∧VF w N t v h:=by exact xS X.held fun N b J J J c=>⟨N,b,c t (kt e) a⟩
theorem yG{i:aA}{x:Str}{k:Z}(e:∃p a q r,iK[i]? =O (.int x p k a q r))(b:x≠"__name__"):∃t,mg x=O (.int k t):=by(refine sH e ?_;clear e;rintro p a q r e);(refine Ti (yF X e b) ?_;rintro _ _ v c t rfl);exact⟨t,c⟩
include S
theorem WW:∃a o c d f D,mg (aK 5).name=O (.ref a)∧h'.get? a=O o∧o.data= .func {mP (aK 5).name (aK 5).params (aK 5).body (aK 5).scope c d f with defaults:= .ref D}∧h'.CodeRec d (aK 5).name∧h'.get? D=O {cls:= .type "tuple",data:= .seq #[.bool aI]}:=by obtain⟨k,r,i⟩:∃k r,(aK 5).params.defaults=[.Constant (.bool aI) k r] :=⟨_,_,rfl⟩;obtain⟨q,e⟩:∃q,iK[5]? =O (.fn (aK 5).name (aK 5).params (aK 5).body (aK 5).scope q):=⟨_,rfl⟩;(refine BC (yF X e (by show(aK 5).name≠_;decide)) ?_;rintro _ _ v j l);obtain⟨a,x,y,f,A,B,c,rfl,C,E,F,g,b,m,n,p,s⟩:rq .. :=l;replace b:=i▸b;(refine aQ (WR b m) ?_;rintro D rfl t);exact⟨_,_,_,_,_,D,j,S.get _ _ g (fun u z=>by cases z),rfl,S.code n (.of p s),S.get _ _ t (fun u z=>by cases z)⟩
theorem WX:∃d,mg "b1_set"=O (.ref d)∧h'.SetOf (fG pg w) d (fun k=>hO.any (· ==k)) hO.length:=by
 have n:∀t:cP,iK[16]? =O t→t.nm="b1_set"→(match t with | .set _ _ l a b _ _ _ _ _ _ _ _ _ _ _ _ _=>decide (lX (l.map IV.i) a b=hO) | _=>aI)=aF→∃d,mg "b1_set"=O (.ref d)∧h'.SetOf (fG pg w) d (fun k=>hO.any (· ==k)) hO.length:=by
  intro t e j f;(refine BC (yF X e (by refine M j ?_;decide)) ?_;rintro _ _ v i m);replace i:=j▸i;cases t with
  |set=>
   have f:=kQ f;(refine dB m ?_;clear m;rintro s rfl _ c);(replace c:=f▸c;replace c:=WN▸c);(refine uS c ?_;clear c;rintro o p q t g r);exact⟨_,i,o,p,q,t,S.get _ _ g (fun u z=>by replace r:=z▸r;cases r.1.1),r⟩
  | _=>exact absurd f cM
 exact n (iK.getD 16 (.int qP default 0 0 default default)) V rfl (by decide+kernel)
omit X S in
theorem WY:kvsOf (iK.getD 18 (.int qP default 0 0 default default))=lj:=by kernel_rfl
theorem WZ:∃d a,mg "b3_exceptions"=O (.ref d)∧(d==j1)=aI∧iq a lj∧h'.DictOf (fG pg w) d a:=by
 have k:∀t:cP,iK[18]? =O t→t.nm="b3_exceptions"→t.WT=aF→kvsOf t=lj→∃d a,mg "b3_exceptions"=O (.ref d)∧(d==j1)=aI∧iq a lj∧h'.DictOf (fG pg w) d a:=by
  intro t e i m n;(refine BC (yF X e (by refine M i ?_;decide)) ?_;rintro N s v f j);replace f:=i▸f;cases t with
  |dict x p l q r=>
   (refine Tn j ?_;clear j;rintro d a rfl u b o y A g c B);have b:iq a (kvsOf (.dict x p l q r)):=b;replace b:=n▸b;exact⟨_,_,f,beq_eq_false_iff_ne.mpr (eG (bK s u)),b,o,y,A,S.get _ _ g (fun C z=>by replace c:=z▸c;cases c.1),c,B⟩
  | _=>exact absurd m cM
 exact k (iK.getD 18 (.int qP default 0 0 default default)) V rfl rfl WY
theorem W0:Wd w mg mb h':=by
 have l:∀f:Str,f∉iK.map cP.nm∧f∉mR→mg f=none:=fun f h=>X.others f h.1 h.2;refine⟨⟨S.ns X.g,S.ns X.b,X.builtins,⟨_,S.ns X.statics,rfl⟩,⟨_,S.ns X.statics,rfl⟩,?_⟩,?_,?_,?_,?_,WW X S,WX X S,WZ X S,?_⟩
 ·exact eQ X.pZ fun o R T e d=>⟨o,S.get _ _ e fun m z=>by replace d:=z▸d;cases d⟩
 ·have:∀f∈(["len","chr","ord","str","min","divmod","list","range","reversed"] :aD eA),aH f∉iK.map cP.nm∧aH f∉mR:=by decide+kernel
  exact fun f j=>l _ (this f j)
 ·have:∀f∈(["int","set","iter","next","sorted","enumerate","print","ZeroDivisionError"] :aD eA),aH f∉iK.map cP.nm∧aH f∉mR:=by decide+kernel
  exact fun f j=>l _ (this f j)
 ·intro i U n p b W q e t;have r:=kt e
  have u:n≠"__name__":=by have v:yE _=true:=j2.mp Wn _ (Ll r);exact bne_iff_ne.mp (aY v).2
  obtain⟨a,o,y,c,P,A,B,C,k,D,E,Y,F⟩:=CZ X r t u;exact⟨a,o,y,.ref c,A,B,S.get _ _ C (fun m z=>by replace k:=z▸k;cases k),D,S.code E F⟩
 ·exact H4 X.bmain fun G o H I K L g N Q=>⟨G,o,H,I,K,S.get _ _ L (fun m z=>by replace g:=z▸g;cases g),g,N,Q⟩
 ·intro x i s;simp only[gA,cO,or_false,Prod.mk.injEq] at s;rcases s with⟨rfl,rfl⟩ |⟨rfl,rfl⟩ |⟨rfl,rfl⟩ |⟨rfl,rfl⟩
  ·exact yG X (i:=8) ⟨_,_,_,_,rfl⟩ (by decide)
  ·exact yG X (i:=21) ⟨_,_,_,_,rfl⟩ (by decide)
  ·exact yG X (i:=22) ⟨_,_,_,_,rfl⟩ (by decide)
  ·exact yG X (i:=23) ⟨_,_,_,_,rfl⟩ (by decide)
end
theorem W1{w:aV}{h:bF}{mg mb:Str→aG aJ}(X:TF w h mg mb):∃T:aD Tab,Wd w mg mb (Hj h (T.map (·.P)))∧jY mg (Hj h (T.map (·.P))) T∧∀t∈T,∃c,h.TableAt c t.P #[] :=by
 obtain⟨f,g,i⟩:∃p:bG,(pg.main.body[6]?).bind o5=O (p,("_str_to_int_inner.<locals>.inner":Str))∧p.line=80:=⟨_,rfl,rfl⟩;obtain⟨j,k,l⟩:∃p:bG,(pg.main.body[11]?).bind o5=O (p,("_int2digits.<locals>.inner":Str))∧p.line=120:=⟨_,rfl,rfl⟩;obtain⟨m,n,o⟩:∃p:bG,(pg.main.body[12]?).bind o5=O (p,("_digits2int.<locals>.inner":Str))∧p.line=135:=⟨_,rfl,rfl⟩;refine cS (C0 X (by decide) g) fun q r s J u=>cS (C0 X (by decide) k) fun v x y J z=>cS (C0 X (by decide) n) fun P3 A B J C=> ?_
 have a:∀t∈[(⟨q,f,("_str_to_int_inner.<locals>.inner":Str)⟩:Tab),⟨v,j,("_int2digits.<locals>.inner":Str)⟩,⟨P3,m,("_digits2int.<locals>.inner":Str)⟩],∃c,h.TableAt c t.P #[] :=by simp only[jk];exact⟨⟨r,s⟩,⟨x,y⟩,⟨A,B⟩,fun J h=>(cO h).elim⟩
 have S:=WU a;refine⟨_,W0 X S,⟨?_,?_⟩,a⟩
 ·unfold vA;simp only[jk];exact⟨u _ _ S (.head _),z _ _ S (.tail _ (.head _)),C _ _ S (.tail _ (.tail _ (.head _))),fun J h=>(cO h).elim⟩
 ·intro t b D d e _;simp only[gA,cO,or_false] at b d;rcases b with rfl |rfl |rfl<;>rcases d with rfl |rfl |rfl<;>first |rfl |(simp only[i,l,o] at e;cases e)
end
section
section
theorem Wd.by(W:Wd w d mb h₀)(g:i < 36)(b:∃q,pg.main.body[i]? =O (.FunctionDef (aK i).name (aK i).params (aK i).body [] aB [] (aK i).scope aB (aK i).name q))(h:(aK i).params.defaults=[])
  (j:iv (aK i) k tb=aF)
  (l:∀(e:aD aJ) (o p r:aJ),e.length=k→uF (mP (aK i).name (aK i).params (aK i).body (aK i).scope o p r) ⟨e,[]⟩=pure (((aK i).params.args.map (·.arg)).zip e))
  (t:∀x i,P.gk x=O i→(x,i)∈[(("_DIV_LIMIT":Str),(4000:Z)),("_MAX_STRING_SIZE",40),("_MOVE_COST",2),("_CASE_COST",1)])
  (u:∀f a y,P.call f a=O y→Ct w d mb h₀ T n f a y)
  (v:a.length=k)
  (z:∀(A:bX) (c:Cx) (K:PK) (m:Str→aG aJ) (s:aM),c.mg=d→c.mb=mb→c.h₀=h₀→c.T=T→Hyp w A c (aK i).scope tb P n→Gd w c tb K m aB s {loc:=a.map O++rest}→
   aN (aO pg w) A (eH (aK i).body c.env) (Cw w c K y) (fun J J=>bO) s)
  (B:rest.all QQ=aF):Ct w d mb h₀ T (n+1) (aK i).name a y:=by
 (refine xe b ?_;clear b;rintro q b);exact oW.by j (W.CY i g _ _ _ _ q b h) l (W.nc t u) v z (Ic B)
end
end
section
theorem C1{w:aV}{mg mb:Str→aG aJ}{h₀ hE:bF}{T:aD Tab}{A:bX}{K:PK}{s:aM}{f:aW}{o:Obj}{d:FuncData}{E:aD bR}{tb:Tb}{k:aA}{xs:aD PV}{j:aD aJ}{ps:aD Str}{rest:aD (aG PV)}{Q:aJ→aM→Prop}
  (S:A.depth < 900) (U:s.heap.get? f=O o) (W:o.data= .func d) (X:s.heap.CodeRec d.code d.qualname) (Y:d.body= .stmts E) (a0:Hk s d ⟨j,[]⟩ (ps.zip j))
  (a1:d.scope.isCoroutine=aI) (a2:d.scope.isGenerator=aI) (a3:d.scope.kind= .function) (a4:∀x∈d.scope.names,x.2≠ .cell) (a5:je d.scope tb=aF) (C:tb.take k=ps.map fun x=>(x,aF)) (a6:ps.length=k)
  (F:∀b o,h₀.get? b=O o→K b=O o) (D:∀b o,K b=O o→s.heap.get? b=O o) (G:Base mg mb h₀) (a7:nr s.gens) (a8:∀t∈T,K t.P=aB) (a9:∀t∈T,t.Ok K s.heap)
  (H:∀b o,hE.get? b=O o→s.heap.get? b=O o) (a':∀t∈T,∃o,hE.get? t.P=O o)
  (I:bL w K j xs) (n:xs.length=k)
  (aa:∀i x p,tb[k+i]? =O (x,aI)→rest[i]? =O (O p)→∃c o v,d.closure.lookup x=O c∧K c=O o∧o.data= .cell (O v)∧RV w K aB v p)
  (ab:∀i x p,tb[k+i]? =O (x,aF)→rest[i]? =O (O p)→bO)
  (h:∀(c:Cx) (ae:Str→aG aJ) (r:aM),c={mg:=mg,mb:=mb,h₀:=h₀,pY:=s.os,fH:=K,hE:=hE,env:=callEnv d s.heap.objs.size f,T:=T,ir:=s.gens}→Gd w c tb K ae aB r {loc:=xs.map O++rest}→
   (∀b o,s.heap.get? b=O o→r.heap.get? b=O o)→r.os=s.os→aN (aO pg w) (A.deeper c.env) (eH E c.env) (fun L N=>Q (match L with | .ret v=>v | _=> .none) N) (fun J J=>bO) r):
  aN (aO pg w) A (call (.ref f) j) Q (fun J J=>bO) s:=by
 have av:j.length=k:=by refine M I.length ?_;exact n
 have af:∀b o,h₀.get? b=O o→s.heap.get? b=O o:=fun b o e=>D _ _ (F b o e);have ah:=G.keeps af;have u:=a5;unfold je at u;simp only[hG,j2,lL] at u
 have ai:ps.Nodup:=by
  have:ps=(tb.map (·.1)).take k:=by refine aT qH (M C (M j8 ?_));exact(List.map_id ps).symm
  refine M this ?_;exact(Gk _ _).nodup u.2
 have aj:∀i x,ps[i]? =O x→tb[i]? =O (x,aF)∧i < k:=by
  intro i x e
  have l:i < k:=by
   rcases np i k with h |h
   ·exact h
   ·rw[xt (aL (cI a6) h)] at e;cases e
  refine⟨?_,l⟩;have:(tb.take k)[i]? =tb[i]? :=M G0 (M (aS l) V);refine aT this (M C (M im (M e ?_)));rfl
 refine xu (codeAny_call_def (binds:=ps.zip j) (bK S (by decide):A.depth < 1000) U W ah.nolimit X Y a0 a4 ?_ (fun ak al y=> ?_) a1 a2 a3)
 ·intro p a;obtain⟨x,v⟩:=p;have am:=afs a;obtain⟨i,l,e⟩:=aft am.1;(refine xa (aj i x (M (fD l) (M e V))) ?_;rintro an _);have:=u.1.2 _ (kt an);simp only[hG,RJ,mh] at this;exact this.2
 ·have ao:K s.heap.objs.size=none:=by
   cases e:K s.heap.objs.size with
   |none=>rfl|some o=>have:=D _ _ e;replace this:=fR▸this;exact nn this
  have ap:hE.get? s.heap.objs.size=none:=by
   cases e:hE.get? s.heap.objs.size with
   |none=>rfl|some o=>have:=H _ _ e;replace this:=fR▸this;exact nn this
  refine wpAny_mono (h {mg:=mg,mb:=mb,h₀:=h₀,pY:=s.os,fH:=K,hE:=hE,env:=callEnv d s.heap.objs.size f,T:=T,ir:=s.gens} (fun x=>(ps.zip j).reverse.lookup x) {s with heap:=ak,toks:=s.toks+(ps.zip j).length} rfl ⟨?_,?_,.none,fun J J J e=>(by cases e)⟩ y V)
   (fun L N q=>q) fun J J x=>x.elim
  ·exact⟨al,fun b o e=>y _ _ (D b o e),ao,F,.refl K,fun b o J e=>y _ _ (H b o e),fun b o e=> .inl e,ap,fun J J J e=>(by cases e),.refl a7,rfl,G,a8,a',fun t aq=>(a9 t aq).mono (fun J J e=>e) (fun o e=>y _ _ e)⟩
  ·intro i x B p l a
   by_cases m:i < xs.length
   ·(rewrite[sx (by simpa using m)] at a;replace a:=im▸a;replace a:=(fD m)▸a)
    have a:xs[i] =p:=by simpa using a
    (refine aQ (I.get (fD m)) ?_;rintro v ar as)
    have P:ps[i]? =O x∧B=true:=by
     have g:(tb.take k)[i]? =O (x,B):=by refine M G0 (M (aS (bK m (cI n))) ?_);exact l
     (replace g:=C▸g;replace g:=im▸g);cases q:ps[i]? with
     |none=>replace g:=q▸g;cases g|some z=>replace g:=q▸g;cases g;exact⟨rfl,rfl⟩
    (refine xa P ?_;clear P;rintro au rfl);exact⟨v,Kk ai au ar,a▸as.up _⟩
   ·rw[pM (by simpa using i8.mp m)] at a;have R:tb[k+(i - k)]? =O (x,B):=by refine M (qz (aL (cI (Eq.symm n)) (i8.mp m)):k+(i - k)=i) ?_;exact l
    simp only[bQ] at a;replace a:=n▸a;cases B with
    |true=>exact(ab _ _ _ R a).elim|false=>exact aa _ _ _ R a
end
section
theorem W2{q p:bG}{v:aJ}(l:aD aJ)(h:uw l):mL q (l++[lQ p.line,lQ p.col,v])=match mL q l with
  |some x=>O x|none=>if(p.line:Z)==q.line && (p.col:Z)==q.col then O v else none:=by
 fun_induction uw l with
 |case1=>exact rfl
 |case2 a t b u x c ih=>
  simp only[qR,mL]
  split
  ·rfl
  ·exact ih h
 |case3 l d e=>exact h.elim
theorem Fm.other{K:PK}(F:Fm c K m i s)(p:K I=aB)(r:I≠c.env.locals)(u:i.ad≠O I)(j:c.hE.get? I=aB)(d:∀b o,b≠I→s.heap.get? b=O o→h'.get? b=O o):Fm c K m i {s with heap:=h',toks:=tk}:=by
 refine{ns:= ?_,keep:=fun b o e=>d b o ?_ (F.keep b o e),dJ:=F.dJ,low:=F.low,le:=F.le,cU:=fun b o n e=>d b o ?_ (F.cU b o n e),new:=F.new,cX:=F.cX,mul:=fun a v w e=> ?_,gens:=F.gens,os:=F.os,base:=F.base,dP:=F.dP,eX:=F.eX,tabs:=fun t k=>(F.tabs t k).mono (fun J J e=>e) fun o e=>d _ _ (F.off j t k) e}
 ·exact eQ F.ns fun o x y f g=>⟨o,x,y,d _ _ (Ne.symm r) f,g⟩
 ·intro h;rw[h,p] at e;exact nn e
 ·intro h;rw[h,j] at e;exact nn e
 ·(refine dX (F.mul a v w e) ?_;rintro⟨f,z⟩ g A B);have l:a≠I:=fun q=>u (by refine M e (aT q ?_);rfl);exact⟨⟨(aQ f fun o C D=>⟨o,d _ _ l C,D⟩),fun q=>(z q).at fun J=>d _ _ l⟩,g,A,B⟩
theorem Fm.cell{K:PK}(F:Fm c K m d s)(g:K a=aB)(h:a≠c.env.locals)(i:d.ad≠O a)(j:c.hE.get? a=aB)(l:iM a s.heap f)(p:f.get? a=O k):
  PK.le K (K.put a k)∧Fm c (K.put a k) m d {s with heap:=f,toks:=tk}:=by
 have q:Fm c K m d {s with heap:=f,toks:=tk}:=F.other g h i j fun b o n e=>(l.2 b n).trans e;exact q.known g h i j p
theorem C2{aa:aV}{ab:bX}{c:Cx}{K:PK}{m:Str→aG aJ}{mu:Mu}{s:aM}{cc ci:aW}{P:Obj}{t:Tab}{name:Str}{k:oB}{v:aD bR}{u:dO}{B:bG}{w:aD (Str×aW)}{Q:j5→aM→Prop}
  (F:Fm c K m mu s) (Y:t∈c.T) (ay:∀f∈c.T,f.pos.line=t.pos.line→f.pos.col=t.pos.col→f.q=t.q) (ae:c.env.code= .ref cc) (az:uH c.h₀ cc t.P) (af:c.env.globals=fL)
  (p:∃p o,c.mg "__builtins__"=O (.ref p)∧p≠i'∧p≠fL∧c.h₀.get? p=O o∧o.cls= .type "module"∧o.dict=O i'∧o.data= .plain)
  (a0:t.pos=B) (b0:qualnameIn c.env name name=t.q) (ah:oE u c.env=pure w)
  (R:k.kwonlyargs=[]) (S:k.kw_defaults=[]) (b1:k.defaults=[]) (b2:CS k=aF)
  (b3:c.env.scope.kind= .function) (b4:c.env.kindOf name=O .cell) (b5:c.env.cells.lookup name=O ci) (ai:K ci=aB) (b6:ci≠c.env.locals) (b7:mu.ad≠O ci) (b8:c.hE.get? ci=aB) (C:s.heap.get? ci=O P) (aj:P.data= .cell aB)
  (b9:∀A a1 ak l g h i D,PK.le K A→Fm c A m mu a1→(∀b o,b≠ci→Off c.T b→s.heap.get? b=O o→a1.heap.get? b=O o)→A ak=O l→l.data= .func (oF name t.q k v u w .none .none i D aB g h)→
   mY A g t.q→(∃T,A ci=O T∧T.data= .cell (O (.ref ak)))→(∀b,s.heap.get? b≠aB→b≠ci→K b=aB→A b=aB)→Q .next a1):
  aN (aO pg aa) ab (jl (.FunctionDef name k v [] aB [] u aB name B) c.env) Q (fun J J=>bO) s:=by
 have b':Off [t] ci:=fun f a e=>by
  obtain rfl:f=t:=by simpa using a
  refine aQ (F.tabs f Y) fun ba d J=> ?_;(replace d:=e▸d;replace d:=C▸d);cases d;cases aj
 have bc:ci≠t.P:=fun e=>b' t (.head _) e.symm;have Fl:∀b o,c.h₀.get? b=O o→s.heap.get? b=O o:=fun b o e=>F.keep _ _ (F.le _ _ (F.low _ _ e));have al:uH s.heap cc t.P:=az.keeps Fl;refine dB (F.tabs t Y) fun ba E U bd=> ?_;have W:s.heap.Ns fL c.mg:=F.heap.g
 have be:fL≠t.P:=fun e=>by(refine pS W ?_;clear W;rintro o c8 c9 d am _);(replace d:=e▸d;replace d:=E▸d);cases d;cases am
 have an:s.heap.BuiltinsAt c.mg t.P:=by(refine H4 p ?_;clear p;rintro p o bf bg bh ao ap bi bj);refine⟨p,o,bf,bg,bh,fun e=> ?_,Fl _ _ ao,ap,bi,bj⟩;have:=Fl _ _ ao;(replace this:=e▸this;replace this:=E▸this);cases this;cases ap
 have ar:∀(a:bF) (tk:aA) (x:PK) (l:Obj) (g h i D:aJ),PK.le K x→Fm c x m mu {s with heap:=a.push l,toks:=tk}→x a.objs.size=O l→l.data= .func (oF name t.q k v u w .none .none i D aB g h)→mY x g t.q→x ci=aB→(a.push l).get? ci=O P→
   (∀b o,Off c.T b→s.heap.get? b=O o→(a.push l).get? b=O o)→(∀b,s.heap.get? b≠aB→K b=aB→x b=aB)→
   aN (aO pg aa) ab (do nu B;GX c.env name (.ref a.objs.size);pure .next) Q (fun J J=>bO) {s with heap:=a.push l,toks:=tk}:=by
  intro a tk x l g h i D bk a2 a3 bl bm bn bo bp y;refine wpAny_bind (jj (wpAny_bind (uB (A4 b3 b4 b5 ⟨P,bo,aj⟩ fun cf as au=>wpAny_pure ?_))));(refine aQ as ?_;clear as;rintro T bq br);refine xa (a2.cell (tk:=tk) bn b6 b7 b8 au bq) fun r G=>b9 _ _ _ l g h i D (bk.trans r) G (fun b o a4 H e=>(au.2 b a4).trans (bp b o H e)) (r _ _ a3) bl (bm.mono r) ⟨T,PK.jr,br⟩ (fun b n a4 I=> ?_);unfold PK.put;exact M (aP a4) <|y b n I
 refine M (exec_def ..) (M b0 (M (defaultsOf_eq ..) (M S (M b1 (M (Li b2) ?_)))));refine wpAny_bind (jj (wpAny_bind (il ?_)));refine wpAny_bind (wpAny_pure ?_);refine wpAny_bind (il (wpAny_pure ?_));refine il <|wpAny_bind (wpAny_pure ?_)
 rcases bd with bs |⟨g,a3,bt⟩
 ·refine makeFunction_K ah af W ae al E U (a0▸bs) be an fun j h i a tk a5 av bu aw bv=> ?_;(refine BJ aw ?_;clear aw;rintro cg L bw bx bz c0 c1 c2);cases bz;have a6:s.heap.get? j=none:=xZ av
  have c3:K j=none:=by
   cases e:K j with
   |none=>rfl|some o=>have:=F.keep _ _ e;replace this:=a6▸this;exact nn this
  have X:PK.le K (K.put j L):=PK.u0 c3;have a7:∀b o,Off c.T b→s.heap.get? b=O o→a.get? b=O o:=fun b o H e=>a5 b o (fun q=>H t Y q.symm) e
  have c4:∀b o,(K.put j L) b=O o→a.get? b=O o:=fun b o e=>by
   rcases PK.p' e with⟨R,S⟩ |e
   ·refine M R (aT S ?_);exact c0
   ·exact a7 b o (F.TW e) (F.keep b o e)
  have ax:mY (K.put j L) (.ref j) t.q:=⟨j,L,bw,bx,rfl,PK.jr,c1,c2⟩
  (refine xa (F.called (s2:={s with heap:=a,toks:=tk}) X c4 (fun b o e=>by
    rcases PK.p' e with⟨R,S⟩ |e
    ·refine M R ?_;exact .inr a6
    ·exact .inl e) a7 V (.refl F.gens.bare) (fun f a8=>by
    by_cases a9:f.P=t.P
    ·refine⟨_,by refine M a9 ?_;exact bv,?_,?_⟩
     ·refine M lO ?_;exact TriplesOk_snoc _ _ _ _ U
     ·refine dB (F.tabs f a8) fun ch d am N=> ?_;(replace d:=a9▸d;replace d:=E▸d);cases d;refine M lO (M (W2 _ U) ?_);rcases N with N |⟨g,N,c5⟩
      ·refine M N ?_
       by_cases z:((B.line:Z)==f.pos.line && (B.col:Z)==f.pos.col)=aF
       ·right
        refine⟨.ref j,by exact M (aS z) V,?_⟩;simp only[hG,mh] at z;replace z:=Eq.symm a0▸z;refine M (ay f a8 (Eq.symm (pN.mp z.1)) (Eq.symm (pN.mp z.2))) ?_;exact ax
       ·left;exact M (aP z) V
      ·refine M N ?_;exact .inr ⟨g,rfl,c5.mono X⟩
    ·exact(F.tabs f a8).mono X fun o e=>a5 _ o a9 e)) ?_;rintro a2 _)
  refine xa (a2.alloc (o:=fnMade name t.q k v u w i ((c.mg "__name__").getD .none) j h) (tk:=tk) V) fun r G=> ?_
  have c6:∀b,s.heap.get? b≠aB→b≠a.objs.size:=fun b n e=>by
   have:b < s.heap.objs.size:=by
    cases q:s.heap.get? b with
    |none=>exact absurd q n|some o=>exact fA q
   have:=bK this (aL av (fB bu));exact ux _ (e▸this)
  have y:∀b,s.heap.get? b≠aB→K b=aB→((K.put j L).put a.objs.size (fnMade name t.q k v u w i ((c.mg "__name__").getD .none) j h)) b=none:=fun b n I=>by unfold PK.put;refine M (aP (c6 b n)) (M (aP (fun e=>by replace n:=e▸n;exact n a6)) ?_);exact I
  exact ar a tk _ _ _ h i _ (X.trans r) G PK.jr V (ax.mono r) (y ci (by refine M C ?_;simp) ai) (eV _ (a5 _ _ bc C)) (fun b o H e=>eV _ (a7 b o H e)) y
 ·refine makeFunction_hit ah af W ae al E U (a0▸a3) an fun h i a tk a' c7=>xa ((F.grow (tk:=tk) a').alloc (o:={cls:= .type "function",data:= .func (oF name t.q k v u w .none .none i ((c.mg "__name__").getD .none) aB g h)}) (tk:=tk) V) fun r G=> ?_
  have y:∀b,s.heap.get? b≠aB→K b=aB→(K.put a.objs.size {cls:= .type "function",data:= .func (oF name t.q k v u w .none .none i ((c.mg "__name__").getD .none) aB g h)}) b=none:=fun b n I=>by
   unfold PK.put;rw[aP (fun(e:b=a.objs.size)=> ?_)]
   ·exact I
   ·cases q:s.heap.get? b with
    |none=>exact n q|some o=>exact ux _ (e▸bK (fA q) c7)
  exact ar a tk _ _ g h i _ r G PK.jr V (bt.mono r) (y ci (by refine M C ?_;simp) ai) (eV _ (a' _ _ C)) (fun b o J e=>eV _ (a' b o e)) y
end
section
theorem cell_call{K:PK}{name:Str}
  (W3:A.depth < 900) (ho:s.heap.get? a=O o) (W4:o.data= .func (mP name params body scope pm cd doc)) (C3:s.heap.CodeRec cd name)
  (rm:uF (mP name params body scope pm cd doc) ⟨vs,[]⟩=pure binds)
  (C4:∀x∈binds,scope.names.lookup x.1=O .local∨(scope.names.lookup x.1=O .cell∧((qS (s.heap.objs.size+1) scope.names []).lookup x.1).isSome=aF))
  (CD:((qS 0 scope.names []).map (·.1)).Nodup)
  (W5:scope.isCoroutine=aI) (rs:scope.isGenerator=aI) (vB:scope.kind= .function)
  (vn:∀b o,h₀.get? b=O o→K b=O o) (qj:∀b o,K b=O o→s.heap.get? b=O o) (hB:Base mg mb h₀) (CA:nr s.gens) (CB:∀t∈T,K t.P=aB) (vo:∀t∈T,t.Ok K s.heap)
  (h:∀(c:Cx) (s':aM) (cells:aD (aW×Obj)),c={mg:=mg,mb:=mb,h₀:=h₀,pY:=s.os,fH:=K,hE:=s.heap,env:=nC name scope s.heap.objs.size a cd,T:=T,ir:=s.gens}→
   Fm c K (A5 (nC name scope s.heap.objs.size a cd).kindOf binds fun J=>aB) aB s'→xy (bindC (nC name scope s.heap.objs.size a cd).kindOf binds fun J=>aB) (qS (s.heap.objs.size+1) scope.names []) cells→
   (∀p∈cells,s'.heap.get? p.1=O p.2∧p.1≠c.env.locals∧s.heap.get? p.1=aB∧K p.1=aB)→(∀b o,s.heap.get? b=O o→s'.heap.get? b=O o)→
   aN (aO pg w) (A.deeper c.env) (eH body c.env) (fun fl W6=>Q (match fl with | .ret v=>v | _=> .none) W6) (fun J J=>bO) s'):
  aN (aO pg w) A (call (.ref a) vs) Q (fun J J=>bO) s:=by
 have vp:∀b o,h₀.get? b=O o→s.heap.get? b=O o:=fun b o e=>qj _ _ (vn b o e);have CC:=hB.keeps vp;refine xu (call_cellsN_ret (binds:=binds) (bK W3 (by decide):A.depth < 1000) ho W4 CC.nolimit C3 rm C4 CD (fun mz tk cells F N X=> ?_) W5 rs vB)
 have W7:K s.heap.objs.size=none:=by
  cases e:K s.heap.objs.size with
  |none=>rfl|some o=>have:=qj _ _ e;rw[fR] at this;exact nn this
 refine h _ {s with heap:=mz,toks:=tk} cells V ?_ X (fun p hp=>⟨(N p hp).1,(N p hp).2.1,(N p hp).2.2,?_⟩) F.keep
 ·exact⟨F.ns,fun b o e=>F.keep _ _ (qj b o e),W7,vn,.refl K,fun b o J e=>F.keep _ _ e,fun b o e=> .inl e,fR,fun J J J e=>(by cases e),.refl CA,rfl,hB,CB,fun t ht=>(vo t ht).some,fun t ht=>(vo t ht).mono (fun J J e=>e) (fun o e=>F.keep _ _ e)⟩
 ·cases e:K p.1 with
  |none=>rfl|some o=>have:=qj _ _ e;rw[(N p hp).2.2] at this;exact nn this
inductive yH(n3 n2 n1:Str)(v3 v2 v1:aG aJ)(cf:aD (Str×aW))(cells:aD (aW×Obj)):Prop
 |mk (c3 c2 c1:aW) (o3 o2 o1:Obj) (e:cells=[(c3,o3),(c2,o2),(c1,o1)]) (W8:cf=[(n3,c3),(n2,c2),(n1,c1)]) (d3:o3.data= .cell v3) (d2:o2.data= .cell v2) (d1:o1.data= .cell v1) (W9:c3≠c2) (W':c3≠c1) (Xa:c2≠c1):yH n3 n2 n1 v3 v2 v1 cf cells
inductive C5(n4 n3 n2 n1:Str)(v4 v3 v2 v1:aG aJ)(cf:aD (Str×aW))(cells:aD (aW×Obj)):Prop
 |mk (c4 c3 c2 c1:aW) (o4 o3 o2 o1:Obj) (e:cells=[(c4,o4),(c3,o3),(c2,o2),(c1,o1)]) (W8:cf=[(n4,c4),(n3,c3),(n2,c2),(n1,c1)]) (d4:o4.data= .cell v4) (d3:o3.data= .cell v3) (d2:o2.data= .cell v2) (d1:o1.data= .cell v1) (n43:c4≠c3) (n42:c4≠c2) (n41:c4≠c1) (W9:c3≠c2) (W':c3≠c1) (Xa:c2≠c1):C5 n4 n3 n2 n1 v4 v3 v2 v1 cf cells
section
theorem Lr(X:xy a [(c,b+1+1),(d,b+1),(e,b)] f):yH c d e (a c) (a d) (a e) [(c,b+1+1),(d,b+1),(e,b)] f:=by
 cases X with
 |cons g X=>
  (refine cS X.two ?_;rintro h i rfl j k);exact⟨_,_,_,_,h,i,rfl,rfl,g,j,k,A6 _,eG (sy (kS b)),A6 _⟩
theorem Xb(X:xy a [(c,b+1+1+1),(d,b+1+1),(e,b+1),(f,b)] g):C5 c d e f (a c) (a d) (a e) (a f) [(c,b+1+1+1),(d,b+1+1),(e,b+1),(f,b)] g:=by
 cases X with
 |cons h X=>
  cases X with
  |cons i X=>
   (refine cS X.two ?_;rintro j k rfl l m);exact⟨_,_,_,_,_,_,j,k,rfl,rfl,h,i,l,m,A6 _,eG (sy (kS _)),eG (sy (sy (kS b))),A6 _,eG (sy (kS b)),A6 _⟩
end
end
section
theorem Ls(env:gK):∀(a b:aD bR),eH (a++b) env=(do match ←eH a env with | .next=>eH b env |f=>pure f)
 |[],b=>M (qQ ..) (M (execs_nil ..) (M (pure_bind ..) V))
 |st::a,b=>by
  refine M qR (M (execs_cons ..) (M (execs_cons ..) (M (bind_assoc ..) ?_)))
  congr 1
  funext f
  cases f with
  |next=>exact Ls env a b|ret v=>exact rfl|brk=>exact rfl|cont=>exact rfl
theorem tB{E:aJ→aM→Prop}(a b:aD bR)
  (h:aN (aO pg w) A (eH a d) (fun f c=>match f with | .next=>aN (aO pg w) A (eH b d) Q E c |f=>Q f c) E s):aN (aO pg w) A (eH (a++b) d) Q E s:=by
 refine M (Ls ..) <|wpAny_bind (wpAny_mono h (fun f c q=> ?_) fun J J x=>x)
 cases f with
 |next=>exact q|ret v=>exact wpAny_pure q|brk=>exact wpAny_pure q|cont=>exact wpAny_pure q
structure Kn(mg mb:Str→aG aJ)(h₀:bF)(T:aD Tab)(K:PK)(s:aM):Prop where
 low:∀b o,h₀.get? b=O o→K b=O o
 keep:∀b o,K b=O o→s.heap.get? b=O o
 base:Base mg mb h₀
 gens:nr s.gens
 dP:∀t∈T,K t.P=aB
 tabs:∀t∈T,t.Ok K s.heap
theorem Fm.kn{K:PK}(F:Fm c K m a s):Kn c.mg c.mb c.h₀ c.T K s:=
 ⟨fun b o e=>F.le _ _ (F.low b o e),F.keep,F.base,F.gens.bare,F.dP,F.tabs⟩
theorem Kn.nil{K:PK}(N:Kn a mb h₀ T K s):Kn a mb h₀ [] K s:=⟨N.low,N.keep,N.base,N.gens,(fun J h=>(cO h).elim),(fun J h=>(cO h).elim)⟩
noncomputable def Still(w:aV)(s a:aM):Prop:=(∀b o,s.heap.get? b=O o→a.heap.get? b=O o)∧a.os=s.os∧iT s.gens a.gens
theorem o6{c:Cx}{g a:eW pC}(h:c.ir=g)(x:iT c.ir a):iT g a:=h▸x
theorem Fm.yI{K:PK}(F:Fm c K m a s)(h:Still w s d):Fm c K m a d∧KB c a s.heap d.heap:=by exact xa (F.called (.refl K) (fun b o e=>h.1 _ _ (F.keep b o e)) (fun b o e=> .inl e) (fun b o J e=>h.1 b o e) h.2.1 h.2.2 (fun t f=>(F.tabs t f).mono (fun J J e=>e) fun o e=>h.1 _ _ e)) fun g b=>⟨g,b⟩
section
variable{K:PK}
theorem vC{args:aD Expr}(Y:Hyp w A c D l P n)(F:Fm c K m a s)(L:RL w K c.env a.ad l m σ.loc)(E:Mu.Is w K a σ.mu)
  (h:(x==("__debug__":Str))=aI∧(x==("__classdict__":Str))=aI) (G:c.env.kindOf x=O .free∨c.env.kindOf x=O .cell) (q:c.env.cells.lookup x=O H) (r:K H=O i) (t:i.data= .cell (O (.ref f))) (I:K f=O u) (N:u.data= .func fd)
  (j:eL D l y args=aF) (R:args≠[]) (S:gC P σ y=O xs)
  (k:∀b g d,PK.le K b→Fm c b m a d→KB c a s.heap d.heap→hJ w b a.ad g xs→aN (aO pg w) A (call (.ref f) g) Q (fun J J=>bO) d):
  aN (aO pg w) A (eval (.Call (.Name x p) args [] a0) c.env) Q (fun J J=>bO) s:=by
 have load:aN (aO pg w) A (eval (.Name x p) c.env) (fun v z=>v= .ref f∧z=s) (fun J J=>bO) s:=by
  rcases G with e |e
  ·exact pG (GJ Y.H.kind e q ⟨i,F.keep _ _ r,t⟩ ⟨rfl,rfl⟩ h.2) h.1
  ·exact pG (Ro Y.H.kind e q ⟨i,F.keep _ _ r,t⟩ ⟨rfl,rfl⟩) h.1
 refine wpAny_Call_NameR (wpAny_mono load (fun v z ⟨T,U⟩=> ?_) fun J J x=>x);subst T U;exact AP (o:=u) (fd:=fd) (iI (qg j R) (mw j) ((va Y y _ j xs S).then F L E fun b g d B C W X=>⟨⟨C.keep _ _ (B _ _ I),N⟩,k b g d B C W X⟩))
end
end
section
noncomputable def bP(i:aA):Df:=((aK i).body.findSome? Kj).getD ⟨qP,{posonlyargs:=[],args:=[],vararg:=aB,kwonlyargs:=[],kw_defaults:=[],kwarg:=aB,defaults:=[]},[],{kind:= .module,names:=[],isGenerator:=aI,isCoroutine:=aI,more:=[]}⟩
noncomputable def pack(n:aA):aD Z→Z
 |[] =>0|d::r=>d+2^n*pack n r
theorem tC{n:aA}{d:Z}{r:aD Z}:pack n (d::r)=d+2^n*pack n r:=rfl
theorem vD{n:aA}:pack n [] =0:=rfl
theorem Lu(n:aA):∀(a b:aD Z),pack n (a++b)=pack n a+2^(n*a.length)*pack n b
 |[],b=>by simp[vD]
 |d::r,b=>by(refine M qR ?_;rewrite[tC,tC];exact M (Lu n r b) (M j3 (M (r8 ..) (M (A7 ..) (M (qT ..) (M (A8 ..) (M (qU ..) (M (hH (2^(n*r.length)) (2^n)) (M (lR ..) V)))))))))
theorem Lv(n:aA):∀(a:aD Z),(∀d∈a,0≤d∧d < 2^n)→0≤pack n a∧pack n a < 2^(n*a.length)
 |[],_=>by simp[vD]
 |d::r,h=>by
  refine xa (h d (.head _)) fun c i=>xa (Lv n r fun x e=>h x (.tail _ e)) fun f g=> ?_;have b:(0:Z) < 2^n:=jm (by decide)
  constructor
  ·rw[tC];have:=oG (cJ b) f;exact qN c this
  ·(rewrite[tC];refine M j3 (M (r8 ..) (M (A7 ..) (M (qT ..) (M (hH (2^(n*r.length)) (2^n)) ?_)))))
   have:(2:Z) ^n*(pack n r+1)≤2^n*2^(n*r.length):=A9 (Ba g) (cJ b);rw[A8] at this;lia
theorem intBits_le(c:0≤a)(h:a < 2^k):gZ a≤k:=by
 unfold gZ
 split
 ·exact ji _
 ·rename_i b
  have b:a≠0:=by simpa using b
  have:a.natAbs < 2^k:=by have e:((2^k:aA):Z)=2^k:=rfl;lia
  have:=(AJ (by lia)).mpr this;exact nF this
noncomputable def seg(a:aD Z)(L R:aA):aD Int:=(a.drop L).take (R - L)
theorem Xc(a:L≤m)(c:m≤R):seg b L R=seg b L m++seg b m R:=by unfold seg;have e:R - L=(m - L)+(R - m):=Eq.symm (kO (gI _ _) (Hl c a));exact M e (M QZ (M Hm (M (qz a:L+(m - L)=m) V)))
theorem Lw(h:R≤a.length):(seg a L R).length=R - L:=by unfold seg;refine M ow (M iP ?_);exact l8 (qK h _)
theorem Xd(h:L < a.length):seg a L (L+1)=[a[L]] :=by unfold seg;refine M (qA _ _:L+1 - L=1) (M (Au h) ?_);rfl
noncomputable def qm:Tb:=[(aH "L",aF),(aH "R",aF),(aH "mid",aF),(aH "shift",aF),(aH "digits",aI),(aH "n",aI)]
noncomputable def bD:B:= .cons (.ite (.cmp .Eq (.bin .Add (.nm 0) (.int 1)) (.nm 1)) (.cons (.ret (.sub (.nm 4) (.nm 0))) .nil) .nil)
 (.cons (.asg 2 (.bin .RShift (.bin .Add (.nm 0) (.nm 1)) (.int 1))) (.cons (.asg 3 (.bin .Mult (.bin .Sub (.nm 2) (.nm 0)) (.nm 5))) .nil))
theorem Lx:je (bP 12).scope qm=true:=by decide+kernel
inductive Ly:Prop
 |mk (l p1 p2 p3 p4 p5 p6 p7 a1 a2 a3:_) (h1:(bP 12).body=l++[.Return (O (.BinOp (.BinOp (.Call (.Name "inner" p1) a1 [] p2) .LShift a2 p3) .Add (.Call (.Name "inner" p4) a3 [] p5) p6)) p7]) (h2:dY (bP 12).scope qm bD l=aF) (h3:eL (bP 12).scope qm (.cons (.nm 2) (.cons (.nm 1) .nil)) a1=aF) (h4:bC (bP 12).scope qm (.nm 3) a2=aF) (h5:eL (bP 12).scope qm (.cons (.nm 0) (.cons (.nm 2) .nil)) a3=aF) (h6:a1≠[]) (h7:a3≠[]):Ly
theorem Xe:Ly:=
 ⟨(bP 12).body.take 3,_,_,_,_,_,_,_,_,_,_,rfl,by decide+kernel,by decide+kernel,by decide+kernel,by decide+kernel,(by intro e;cases e),(by intro e;cases e)⟩
structure rt(w:aV)(K:PK)(f:aW)(n:aA)(ds:aD Z)(fo:Obj)(kg:aD (Str×aW))(cv tD doc pm:aJ)(ci cd cn:aW):Prop where
 fn:K f=O fo
 data:fo.data= .func (oF (bP 12).name "_digits2int.<locals>.inner" (bP 12).params (bP 12).body (bP 12).scope kg .none .none doc pm aB cv tD)
 code:mY K cv "_digits2int.<locals>.inner"
 li:kg.lookup ("inner":Str)=O ci
 ld:kg.lookup ("digits":Str)=O cd
 ln:kg.lookup ("n":Str)=O cn
 ki:∃o,K ci=O o∧o.data= .cell (O (.ref f))
 kd:∃o v,K cd=O o∧o.data= .cell (O v)∧RV w K aB v (.lst (ds.map .int))
 kn:∃o v,K cn=O o∧o.data= .cell (O v)∧RV w K aB v (.int (n:Z))
theorem rt.mono{K:PK} {f n c d e g i j k l m p} (x:rt w K f n c d e g i j k l m p)(h:PK.le K q):rt w q f n c d e g i j k l m p:=
 ⟨h _ _ x.fn,x.data,x.code.mono h,x.li,x.ld,x.ln,(aQ x.ki fun o a b=>⟨o,h _ _ a,b⟩),(cS x.kd fun o v a b r=>⟨o,v,h _ _ a,b,r.mono h⟩),(cS x.kn fun o v a b r=>⟨o,v,h _ _ a,b,r.mono h⟩)⟩
theorem Xf:∀x∈(bP 12).scope.names,x.2≠ .cell:=by decide
theorem Xg {a b c d e}:
  Hk s (oF (bP 12).name f (bP 12).params (bP 12).body (bP 12).scope a .none .none b c aB d e) ⟨[v,u],[]⟩ ((["L","R"] :aD Str).zip [v,u]):= .of_eq V
section
theorem Lz(b3:Wd w al mb h₀)(X:n≤10000)(a0:f.length≤1000)(b4:∀d∈f,0≤d∧d < 2^n)(L R a:aA)(am:L < R)(C:R≤f.length)(an:a=(L+R) / 2)(A:bX)(K:PK)(s:aM)(t a1:hA)(e:aA)
  (ao:A.handled=aB) (Q:A.depth+e+1 < 900) (b5:A.units+10*(e+1) < 9000) (N:Kn al mb h₀ [] K s) (I:rt w K a2 n f b6 b7 b8 b9 b' ba bc ap aq)
  (bd:L+1≠R→∀l m,(l=L∧m=a)∨(l=a∧m=R)→∀(S:bX) (a3:PK) (u:aM) (t a1:hA),S.handled=aB→S.depth≤A.depth+1→S.units≤A.units+3→Kn al mb h₀ [] a3 u→rt w a3 a2 n f b6 b7 b8 b9 b' ba bc ap aq→
   aN (aO pg w) S (call (.ref a2) [.int (l:Z) t,.int (m:Z) a1]) (fun v ar=>(∃r,v= .int (pack n (seg f l m)) r)∧Still w u ar) (fun J J=>bO) u):
  aN (aO pg w) A (call (.ref a2) [.int (L:Z) t,.int (R:Z) a1]) (fun v u=>(∃r,v= .int (pack n (seg f L R)) r)∧Still w s u) (fun J J=>bO) s:=by
 obtain⟨a4,be,bf,d6,bg,bh,d7,d8,bi,bj,bk,bl,as,bm,bn,bo,bp,bq⟩:=Xe;obtain⟨br,bs,bt,bu,bv,bw,bx,bz⟩:=I.code
 refine cS I.kd fun c0 c1 c2 c3 c4=>cS I.kn fun c5 c6 c7 c8 c9=>aQ I.ki fun c' au av=>C1 (hE:=s.heap) (tb:=qm) (k:=2) (xs:=[.int L,.int R]) (rest:=[aB,aB,O (.lst (f.map .int)),O (.int (n:Z))]) (ps:=["L","R"]) (bZ (hV _ _) (ku Q)) (N.keep _ _ I.fn) I.data ⟨br,bs,bt,bu,bv,N.keep _ _ bw,bx,bz⟩ V Xg V rfl rfl Xf Lx (by decide) V
  N.low N.keep N.base N.gens N.dP N.tabs (fun J J q=>q) (fun r a5=>(N.tabs r a5).some) (.cons .int (.cons .int .nil)) V ?_ ?_ (fun c aw u g ax d9 d'=> ?_)
 ·intro i x p j k
  match i,j,k with
  |2,j,k=>
   cases j;cases k;exact⟨ap,c0,c1,I.ld,c2,c3,c4⟩
  |3,j,k=>
   cases j;cases k;exact⟨aq,c5,c6,I.ln,c7,c8,c9⟩
  |0,j,k=>cases j|1,j,k=>cases j|i+4,j,k=>cases k
 ·intro i x p j k
  match i,j,k with
  |0,j,k=>cases k|1,j,k=>cases k|2,j,k=>cases j|3,j,k=>cases j|i+4,j,k=>cases k
 ·have Y:Hyp w (A.deeper c.env) c (bP 12).scope qm bJ 0:=by refine⟨ao,by show A.depth+1+0 < 900;exact kr (bZ (hV _ _) (Hn Q)),by show A.units+3+10*0 < 9000;exact HQ b5,?_,b3.nc fV (fun J J J h=>by cases h) c (M g V) (M g V) (M g V) V⟩;exact M g <|⟨rfl,Lx,rfl,rfl⟩
  have a6:c.T=[] :=M g V;have da:c.fH=K:=M g V;show aN _ _ (eH (bP 12).body c.env) _ _ _;refine M bl <|tB a4 _ ?_
  have a7:L < f.length:=bK am C
  have ca:jq aB (.lst (f.map .int)) (.int (L:Z))=O (.int f[L]):=by show aZ _ _=_;refine M (bB (by refine M (bQ ..) (M cN ?_);exact aL a0 (by decide))) (M (rp (by refine M (bQ ..) ?_;exact a7)) ?_);simp[a7]
  by_cases D:L+1=R
  ·have a8:bE bJ bD {loc:=[O (.int L),O (.int R),aB,aB,O (.lst (f.map .int)),O (.int (n:Z))]}=O (.ret (.int f[L]),{loc:=[O (.int L),O (.int R),aB,aB,O (.lst (f.map .int)),O (.int (n:Z))]}):=by
    have g:((L:Z)+1==(R:Z))=true:=by refine iR mh ?_;exact xN D
    refine cV <|M (ql (x:= .bool aF) (by exact aR (fun b=>O (PV.bool b)) g) V) ?_
    exact cV (fU ca V)
   refine wpAny_mono (nQ bD a4 c _ _ _ Y as a8 K aw aB u ax) (fun cb ar o=> ?_) fun J J x=>x;obtain⟨a3,db,dc,ay,cc,cd,v,rfl,a9,ce⟩:=o;obtain⟨r,rfl⟩:=ce.int_inv;refine⟨⟨r,?_⟩,?_⟩
   ·refine aT D (M (Xd a7) ?_);simp[tC,vD]
   ·exact⟨fun b o e=>a9.cU b o (by refine M a6 ?_;exact fun J h=>(cO h).elim) (by refine M g ?_;exact e),a9.os.trans (M g V),o6 (by exact M g V) a9.gens⟩
  ·have E:L < a∧a < R:=by exact sG am an D
   have a8:bE bJ bD {loc:=[O (.int L),O (.int R),aB,aB,O (.lst (f.map .int)),O (.int (n:Z))]}=O (.next,{loc:=[O (.int L),O (.int R),O (.int (a:Z)),O (.int (((a:Z) - L)*n)),O (.lst (f.map .int)),O (.int (n:Z))]}):=by
    have g:((L:Z)+1==(R:Z))=false:=by refine iR Hg ?_;exact HR D
    have a':dC .RShift (.int ((L:Z)+R)) (.int 1)=O (.int (a:Z)):=by
     show aZ _ _=_;refine M (bB (by decide)) ?_
     congr 2
     refine M (Ha _ (by decide)) ?_;show((L:Z)+R) / 2=_;exact HS an
    have cf:dC .Mult (.int ((a:Z) - L)) (.int (n:Z))=O (.int (((a:Z) - L)*n)):=vr (dD (by decide) (cW _)) (dN.mpr (bZ X (by decide)));unfold bD;rw[eM (σ':={loc:=[O (.int L),O (.int R),aB,aB,O (.lst (f.map .int)),O (.int (n:Z))]})]
    ·refine M (eM (gR (x:= .int (a:Z)) (by exact a') V)) <|M (eM (gR (x:= .int (((a:Z) - L)*n)) (by exact cf) V)) ?_
     rfl
    ·refine M (nR (x:= .bool aI) (by exact aR (fun b=>O (PV.bool b)) g) V) ?_;rfl
   refine wpAny_mono (nQ bD a4 c _ _ _ Y as a8 K aw aB u ax) (fun cb cg o=> ?_) fun J J x=>x;obtain⟨aa,az,b0,ay,cc,cd,rfl,T⟩:=o
   have ch:b0=none:=by
    cases b0 with
    |none=>rfl|some p=>exact absurd T.Mi (by intro z;cases z)
   subst ch;have ci:=I.mono ay
   have one:∀(l m:aA),(l=L∧m=a)∨(l=a∧m=R)→∀(p q:bG) (args:aD Expr) (ab:Es),eL (bP 12).scope qm ab args=aF→args≠[]→
     gC bJ {loc:=[O (.int L),O (.int R),O (.int (a:Z)),O (.int (((a:Z) - L)*n)),O (.lst (f.map .int)),O (.int (n:Z))]} ab=O [.int (l:Z),.int (m:Z)]→
     ∀(y:PK) (F:aM) (ae:aJ→aM→Prop),PK.le aa y→Fm c y az aB F→(∀B G r,PK.le y B→Fm c B az aB G→ae (.int (pack n (seg f l m)) r) G)→
     aN (aO pg w) (A.deeper c.env) (eval (.Call (.Name "inner" p) args [] q) c.env) ae (fun J J=>bO) F:=by
    intro l m cj p q args ab ck cl cm y F ae H af cn;have P:=ci.mono H;refine aQ P.ki fun c' au av=>vC Y af (T.L.mono H) .none (by decide) (.inl (by refine M g ?_;rfl)) (by refine M g ?_;exact P.li) au av P.fn P.data ck cl cm fun B dh G U W co ah=> ?_;(refine cS ah.two ?_;rintro v di rfl cp cq);obtain⟨cr,rfl⟩:=cp.int_inv;obtain⟨b1,rfl⟩:=cq.int_inv;have ai:=W.kn;rw[a6] at ai;refine wpAny_mono (bd D l m cj (A.deeper c.env) B G cr b1 ao (cA _) (cA _) (by rw[g] at ai;exact ai) (P.mono U)) (fun v aj ⟨⟨r,a5⟩,st⟩=> ?_) fun J J x=>x;subst a5;exact cn B aj r U (W.yI st).1
   refine wpAny_execs_cons (nA (wpAny_BinOp (wpAny_BinOp (one a R (.inr ⟨rfl,rfl⟩) be bf bi _ bm bp V aa cg _ (.refl aa) T.F fun y F b1 H af=> ?_))));refine(((cY (P:=bJ) Y (.nm 3) bj bn).1 (.int (((a:Z) - L)*n)) V) y F af (T.L.mono H) .none).then fun B dj G U W co ah=> ?_
   have b2:=Lv n (seg f a R) (fun d Q=>b4 d (Bb (Bc Q)));have cs:(seg f a R).length=R - a:=Lw C;have ct:gZ (pack n (seg f a R))≤n*(R - a):=by refine aT cs ?_;exact intBits_le b2.1 b2.2
   have cu:n*(R - a)≤10000*1000:=xz X (aL (lK _ _) (aL C a0));have cv:n*(a - L)≤10000*1000:=xz X (aL (lK _ _) (aL (fB E.2) (aL C a0)))
   have a':((a:Z) - L)*n=((n*(a - L):aA):Z):=
    M (Bd ..) (M (hH ..) (M (Be (by exact fB E.1)) V))
   have cw:dC .LShift (.int (pack n (seg f a R))) (.int (((a:Z) - L)*n))=O (.int (pack n (seg f a R)*2^(n*(a - L)))):=by show aZ _ _=_;exact M a' (M (bB (HT ct cu cv)) (M (oH ..) V))
   refine(sO cw W .int ah Y.hh).then fun cx dk aj cy cz dm d0=> ?_
   obtain⟨dn,rfl⟩:=d0.int_inv;refine one L a (.inl ⟨rfl,rfl⟩) bg bh bk _ bo bq V cx aj _ (H.trans (U.trans cy)) cz fun dp dq dr ds d3=>(sO (iJ) d3 .int .int Y.hh).then fun dt du dv dw ak dx d4=> ?_
   obtain⟨d5,rfl⟩:=d4.int_inv;refine⟨⟨d5,?_⟩,⟨fun b o e=>ak.cU b o (by refine M a6 ?_;exact fun J h=>(cO h).elim) (by refine M g ?_;exact e),ak.os.trans (M g V),o6 (by exact M g V) ak.gens⟩⟩;exact M (Xc (L:=L) (m:=a) (R:=R) (fB E.1) (fB E.2)) (M (Lu ..) (M (Lw (fB (bK E.2 C))) (M (lJ ..) (M (hH (2^(n*(a - L))) ..) V))))
theorem Xh(W:Wd w mg mb h₀)(hn:n≤10000)(hl:ds.length≤1000)(LA:∀d∈ds,0≤d∧d < 2^n):∀(k L R:aA),L < R→R≤ds.length→R - L≤2^k→∀(A:bX) (K:PK) (s:aM) (t u:hA),
  A.handled=aB→A.depth+k+1 < 900→A.units+10*(k+1) < 9000→Kn mg mb h₀ [] K s→rt w K f n ds fo kg cv tD doc pm ci cd cn→
  aN (aO pg w) A (call (.ref f) [.int (L:Z) t,.int (R:Z) u]) (fun v s'=>(∃t',v= .int (pack n (seg ds L R)) t')∧Still w s s') (fun J J=>bO) s:=by
 intro k
 induction k with
 |zero=>
  intro L R h1 h2 h3 A K s t u hh hd hu N I;refine Lz W hn hl LA L R ((L+R) / 2) h1 h2 V A K s t u 0 hh hd hu N I fun h=>absurd h (by simp at h3;lia)
 |succ k ih=>
  intro L R h1 h2 h3 A K s t u hh hd hu N I;refine Lz W hn hl LA L R ((L+R) / 2) h1 h2 V A K s t u (k+1) hh hd hu N I fun h L' R' Xi A' K' s' t' u' LB oR LC N' I'=> ?_;rw[RT] at h3;rcases Xi with⟨rfl,rfl⟩ |⟨rfl,rfl⟩
  ·exact ih _ _ (HK h1 h) (HL h1 h h2) (HM h3) A' K' s' t' u' LB (xL hd oR) (xM hu LC) N' I'
  ·exact ih _ _ (Bx h1 h) h2 (HN h3) A' K' s' t' u' LB (xL hd oR) (xM hu LC) N' I'
end
end
section
noncomputable def yJ:Tb:=[(aH "digits",aI),(aH "n",aI)]
theorem Xj:je (aK 12).scope yJ=true:=by decide+kernel
inductive LD:Prop
 |mk (p0 p1 p2 p3 p4 p5 a e3:_) (h1:(aK 12).body=[.FunctionDef (bP 12).name (bP 12).params (bP 12).body [] aB [] (bP 12).scope aB (bP 12).name p0,.Return (O (.IfExp (.Name "digits" p1) (.Call (.Name "inner" p2) a [] p3) e3 p4)) p5]) (h2:eL (aK 12).scope yJ (.cons (.int 0) (.cons (.bi "len" (.cons (.nm 0) .nil)) .nil)) a=aF) (h3:a≠[]) (h4:(pg.main.body[12]?).bind o5=O (p0,("_digits2int.<locals>.inner":Str))):LD
theorem Xk:LD:=
 ⟨_,_,_,_,_,_,_,_,rfl,by decide+kernel,(by intro e;cases e),by decide+kernel⟩
theorem Xl(h:a.cells=[(("inner":Str),b),(("n":Str),c),(("digits":Str),d)]):oE (bP 12).scope a=pure [(("n":Str),c),(("inner":Str),b),(("digits":Str),d)] :=by obtain⟨e,lo,g,i,q,f,j,k,l⟩:=a;simp only at h;subst h;rfl
section
theorem Xm{w:aV}{I mb:Str→aG aJ}{h₀:bF}{T:aD Tab}{n:aA}{d:aD Z}(W:Wd w I mb h₀)(a4:jY I h₀ T)(b4:n≤10000)(D:d.length≤1000)(b5:d≠[])(b6:∀a5∈d,0≤a5∧a5 < 2^n):Ct w I mb h₀ T 15 "_digits2int" [.lst (d.map .int),.int (n:Z)] (.int (pack n d)):=by
 obtain⟨t,a6,a,o,de,L,df,b7,a7,a8,b8,b9,a9⟩:=a4.at_ 12 (by decide);refine⟨a,o,_,b7,a7,a8,?_⟩;obtain⟨b',ba,dg,dh,di,dj,dk,dm,bc,bd,be,bf⟩:=Xk;rw[bf] at a9
 obtain⟨bg,a'⟩:t.pos=b'∧t.q="_digits2int.<locals>.inner":=by have:=cB a9;exact⟨(aR RU this).symm,(aR RW this).symm⟩
 intro A K s bh aa N ab ae af bi bj bk bl bm
 obtain⟨v,u,rfl,ah,ai⟩:∃v u,bh=[v,u]∧RV w K aB v (.lst (d.map .int))∧RV w K aB u (.int (n:Z)):=by cases bm with |cons bn bo=>cases bo with |cons bp P=>cases P;exact⟨_,_,rfl,bn,bp⟩
 have aj:∀b o,h₀.get? b=O o→s.heap.get? b=O o:=fun b o e=>af _ _ (ae b o e);refine cell_call (binds:=[("digits",v),("n",u)]) (pP (bK N (by decide))) (aj _ _ a7) a8 (b8.keeps aj) V ?_ (by decide) V rfl rfl ae af bi bj bk bl (fun c dn ak g bq X Q dp=> ?_)
 ·intro x al;simp only[gA,cO,or_false] at al;rcases al with rfl |rfl<;>exact .inr ⟨rfl,rfl⟩
 ·have X:xy _ [(("inner":Str),s.heap.objs.size+1+1+1),(("n":Str),s.heap.objs.size+1+1),(("digits":Str),s.heap.objs.size+1)] ak:=X;obtain⟨m,f,h,br,j,k,rfl,R,bs,am,an,bt,bu,ao⟩:yH _ _ _ aB (O u) (O v) (qS (s.heap.objs.size+1) (aK 12).scope.names []) ak:=Lr X;refine dX (Q (m,br) (.head _)) fun bv bw bx bz=>dX (Q (f,j) (.tail _ (.head _))) fun c0 c1 c2 c3=>dX (Q (h,k) (.tail _ (.tail _ (.head _)))) fun c4 c5 c6 c7=> ?_;have y:c.hE=s.heap:=M g V;have E:c.T=T:=M g V;have c8:c.fH=K:=M g V;obtain⟨c9,c'⟩:=bq.known c7 c5 (by intro z;cases z) (by refine M y ?_;exact c6) c4;obtain⟨ca,ap⟩:=c'.known (ci:=f) (oc:=j) (by show PK.put K h k f=aB;unfold PK.put;refine M (aP ao) ?_;exact c3) c1 (by intro z;cases z) (by refine M y ?_;exact c2) c0;have aq:PK.le K ((K.put h k).put f j):=c9.trans ca;have S:((K.put h k).put f j) h=O k:=by unfold PK.put;exact M (aP (Ne.symm ao)) (M (aS V) V)
  have U:((K.put h k).put f j) f=O j:=PK.jr;have ar:((K.put h k).put f j) m=none:=by unfold PK.put;refine M (aP bt) (M (aP bu) ?_);exact bz
  generalize dq:(K.put h k).put f j=KK at ap aq S U ar;have l:c.env=nC (aK 12).name (aK 12).scope s.heap.objs.size a (.ref L):=M g V;have cb:oE (bP 12).scope c.env=pure [(("n":Str),f),(("inner":Str),m),(("digits":Str),h)] :=Xl (by refine M l ?_;exact R);show aN _ _ (eH (aK 12).body c.env) _ _ _
  refine M bc <|wpAny_execs_cons (C2 (mu:=aB) (t:=t) ap (by refine M E ?_;exact a6) (by refine M E ?_;exact fun as cc Y cd=>a4.apart t a6 as cc Y cd) (cc:=L) (by refine M l ?_;rfl) (by refine M g ?_;exact b9) (by refine M l ?_;rfl) (by refine M g ?_;exact W.bmain) bg
   (by refine M l (M a' ?_);rfl) cb V rfl rfl (by decide+kernel) (by refine M l ?_;rfl) (by refine M l ?_;rfl) (ci:=m) (by refine M l ?_;show(qS _ _ []).lookup _=_;refine M R ?_;rfl) ar bw (by intro z;cases z) (by refine M y ?_;exact bx) bv bs fun F ce cf cg ch ci cj ck B cl dr cm au av aw ds=> ?_)
  (refine aQ aw ?_;clear aw;rintro dt cn co);rw[a'] at au av;have C:PK.le K F:=aq.trans B
  have ax:Hyp w (A.deeper c.env) c (aK 12).scope yJ bJ 0:=by refine⟨aa,by show A.depth+1+0 < 900;exact kr (pP (bK N (by decide))),by show A.units+3+10*0 < 9000;exact kr (bK (mj (by decide) _) (jB ab)),?_,W.nc fV (fun J J J cp=>by cases cp) c (M g V) (M g V) (M g V) V⟩;exact M g <|⟨rfl,Xj,rfl,rfl⟩
  have a0:c.env.cells=[(("inner":Str),m),(("n":Str),f),(("digits":Str),h)] :=by refine M l ?_;exact R
  have ay:RL w F c.env aB yJ (A5 (nC (aK 12).name (aK 12).scope s.heap.objs.size a (.ref L)).kindOf [("digits",v),("n",u)] fun J=>aB) [O (.lst (d.map .int)),O (.int (n:Z))] :=by
   intro i x du dv q p
   match i,q,p with
   |0,q,p=>
    cases q;cases p;exact⟨h,k,v,by refine M a0 ?_;rfl,B _ _ S,an,ah.mono C⟩
   |1,q,p=>
    cases q;cases p;exact⟨f,j,u,by refine M a0 ?_;rfl,B _ _ U,am,ai.mono C⟩
   |i+2,q,p=>simp at p
  have cq:rt w F cf n d cg [(("n":Str),f),(("inner":Str),m),(("digits":Str),h)] ch ci cj ck m h f:=
   ⟨cm,au,av,rfl,rfl,rfl,⟨_,cn,co⟩,⟨k,v,B _ _ S,an,ah.mono C⟩,⟨j,u,B _ _ U,am,ai.mono C⟩⟩
  refine wpAny_execs_cons (nA (wpAny_IfExp ?_));refine RX (whole:=eval (.Name "digits" ba) c.env) ?_ V;refine((B6 (σ:={loc:=[O (.lst (d.map .int)),O (.int (n:Z))]}) (i:=0) (x:="digits") ax.H (by decide+kernel) V) F ce cl ay .none).then fun cr e0 G a1 az e5 P=> ?_
  (refine ip P.lst_inv ?_;rintro e7 cs a2 ct rfl cu cv cw cx);have a3:a2.size=d.length:=by have:=cx.length;simpa using this
  have cy:0 < d.length:=by cases d with |nil=>exact absurd rfl b5 |cons=>simp
  refine wpAny_truthy_list ⟨cs,az.keep _ _ cu,cv,ct,cw⟩ (by refine M a3 ?_;exact iD (cT.mpr D) (by decide)) ?_
  have cz:(!a2.isEmpty)=true:=by
   have:a2≠ #[] :=by intro z;rw[z] at a3;simp at a3;lia
   simpa using this
  refine M (aS cz) ?_;have d0:Fm c cr _ aB {G with toks:=G.toks+1+1}:=az.tok;have H:=cq.mono a1;refine aQ H.ki fun e8 d3 d4=> ?_
  have Y:oS aB "len" [.lst (d.map .int)] =O (.int d.length):=by show aZ _ _=_;exact M (bB (by refine M (bQ ..) (M cN ?_);exact aL D (by decide))) (M (bQ ..) V)
  refine vC (s:={G with toks:=G.toks+1+1}) (σ:={loc:=[O (.lst (d.map .int)),O (.int (n:Z))]}) (xs:=[.int 0,.int d.length]) ax d0 (ay.mono a1) .none (by decide) (.inr (by refine M l ?_;rfl)) (by refine M a0 ?_;rfl) d3 d4 H.fn H.data bd be (bW V (bW Y iw)) fun b0 e9 d5 b1 b2 e' d6=> ?_;(refine cS d6.two ?_;rintro ea eb rfl d7 d8);obtain⟨d9,rfl⟩:=d7.int_inv;obtain⟨d',rfl⟩:=d8.int_inv;have b3:=b2.kn.nil;rw[g] at b3;have da:d.length - 0≤2^10:=by simp;exact aL D (by decide)
  refine wpAny_mono (Xh W b4 D b6 10 0 d.length cy (cA _) da (A.deeper c.env) b0 d5 d9 d' aa (by show A.depth+1+10+1 < 900;exact ku (ku (ku N))) (by show A.units+3+10*(10+1) < 9000;exact kr (bK (mj (by decide) _) (jB ab))) b3 (H.mono b1)) (fun ec ed ⟨⟨as,db⟩,st⟩=> ?_) fun J J x=>x;subst db;obtain⟨r,_⟩:=b2.yI st;have dc:seg d 0 d.length=d:=by unfold seg;simp
  refine⟨b0,C.trans (a1.trans b1),r.keep,fun b o e=> ?_,fun b o dd e=>r.cU b o (by refine M E ?_;exact dd) (by refine M y ?_;exact e),by refine M dc ?_;exact .int,r.os.trans (M g V),o6 (by exact M g V) r.gens,by refine aT E ?_;exact r.tabs⟩;have:=r.new b o e;rw[c8,y] at this;exact this
end
end
section
noncomputable def fW(n:aA):aA→Z→aD Z
 |0,_=>[]|k+1,x=>x % 2^n::fW n k (x / 2^n)
theorem vE{n k:aA}{x:Z}:fW n (k+1) x=x % 2^n::fW n k (x / 2^n):=rfl
theorem C6{n:aA}{x:Z}:fW n 0 x=[] :=rfl
theorem tE(n:aA):∀k x,(fW n k x).length=k
 |0,_=>rfl|k+1,x=>by simp[vE,tE n k]
theorem LF(n:aA):∀k x,∀d∈fW n k x,0≤d∧d < 2^n
 |0,_,d,h=>by cases h
 |k+1,x,d,h=>by
  have a:(0:Z) < 2^n:=jm (by decide);rcases gA.mp h with rfl |h
  ·exact⟨eD _ (fC a),gM _ a⟩
  ·exact LF n k _ d h
theorem LG(n:aA):∀k (x:Z),0≤x→x < 2^(n*k)→pack n (fW n k x)=x
 |0,x,b,a=>by simp at a;simp[C6,vD];exact RF b (Int.le_of_lt_add_one (dD a (by decide)))
 |k+1,x,b,a=>by
  have c:(0:Z) < 2^n:=jm (by decide)
  have d:x / 2^n < 2^(n*k):=by rw[r8,A7,qT] at a;exact uI c a
  (rewrite[vE,tC];refine M (LG n k _ (kR b (cJ c)) d) ?_)
  have:=afI x (2^n);exact this
theorem LH(x a b:Z)(c:0 < a)(h:0 < b):(x % (a*b)) / a=(x / a) % b:=by
 have i:x=a*(x / a)+x % a:=(nG x a).symm;have d:x / (a*b)=(x / a) / b:=(Bf (cJ c)).symm;have e:x % (a*b)=x - (a*b)*(x / (a*b)):=by have:=nG x (a*b);exact afJ _ _
 have f:(x / a) % b=x / a - b*((x / a) / b):=by have:=nG (x / a) b;exact afJ _ _
 have g:x % (a*b)=x % a+a*((x / a) % b):=by refine M e (M d (M f (M (afK ..) (M (lR ..) ?_))));lia
 refine M g (M (xA _ _ (fC c)) (M (RY (eD _ (fC c)) (gM _ c)) ?_));exact sw _
theorem LI(n:aA):∀(a b:aA) (x:Z),0≤x→fW n (a+b) x=fW n a (x % 2^(n*a))++fW n b (x / 2^(n*a))
 |0,b,x,_=>by simp[C6]
 |a+1,b,x,d=>by
  have c:(0:Z) < 2^n:=jm (by decide);have e:(0:Z) < 2^(n*a):=jm (by decide);have f:(2:Z) ^(n*(a+1))=2^n*2^(n*a):=M (r8 ..) (M (A7 ..) (M (qT ..) (M (hH ..) V)));(refine M (ov _ _ _:a+1+b=(a+b)+1) ?_;rewrite[vE,vE];refine M qR (M (LI n a b _ (kR d (cJ c))) (M f ?_)))
  congr 1
  ·exact M (Int.emod_emod_of_dvd _ ⟨_,rfl⟩) V
  ·congr 1
   ·exact M (LH _ _ _ c e) V
   ·exact M (Bf (cJ c)) V
theorem LJ(a b:aA):qI (a:Z) (b:Z)=((a &&& b:aA):Z):=by unfold qI;refine M (fM (cW _:(0:Z)≤a)) (M (fM (cW _:(0:Z)≤b)) ?_);simp
theorem LK(a b:aA):Gl (a:Z) (b:Z)=((a |||b:aA):Z):=by unfold Gl qI aeL;refine M (eP (By _:¬(0:Z)≤ -(a:Z) - 1)) (M (eP (By _:¬(0:Z)≤ -(b:Z) - 1)) ?_);dsimp only;have e1:(-(-(a:Z) - 1) - 1).toNat=a:=HV _;have e2:(-(-(b:Z) - 1) - 1).toNat=b:=HV _;refine M e1 (M e2 ?_);exact HU _
theorem Xn(x s:aA):x &&& (x / 2^s*2^s)=x / 2^s*2^s∧x |||(x / 2^s*2^s)=x:=by
 have e:x / 2^s*2^s=(x >>>s) <<< s:=M (Nat.shiftLeft_eq ..) (M (Nat.shiftRight_eq_div_pow ..) V);refine M e ?_
 constructor
 ·apply afL;intro i;refine M (Nat.testBit_and ..) (M (afM ..) (M (afN ..) ?_))
  by_cases h:s≤i
  ·simp[h,show s+(i - s)=i by exact qz h]
  ·simp[h]
 ·apply afL;intro i;refine M (Nat.testBit_or ..) (M (afM ..) (M (afN ..) ?_))
  by_cases h:s≤i
  ·simp[h,show s+(i - s)=i by exact qz h]
  ·simp[h]
theorem Xo(s:aA)(h:0≤x):AD x (x / 2^s*2^s)=x % 2^s:=by
 obtain⟨n,rfl⟩:∃n:aA,x=n:=⟨x.toNat,by exact Eq.symm (j4 h)⟩;have e:((n:Z) / 2^s*2^s)=((n / 2^s*2^s:aA):Z):=rfl;refine M e <|xa (Xn n s) fun a b=> ?_
 have c:AD (n:Z) ((n / 2^s*2^s:aA):Z)=((n |||(n / 2^s*2^s):aA):Z) - ((n &&& (n / 2^s*2^s):aA):Z):=by unfold AD;exact M (LK ..) (M (LJ ..) V)
 refine M c (M a (M b ?_));have:=afO n (2^s);have d:((n:Z) % 2^s)=((n % 2^s:aA):Z):=rfl;have f:n / 2^s*2^s=2^s*(n / 2^s):=Bg _ _;lia
noncomputable def kE(a:aD Z)(L:aA)(b:aD Z):aD Int:=a.take L++b++a.drop (L+b.length)
theorem Xp(h:L+b.length≤a.length):(kE a L b).length=a.length:=by unfold kE;simp;exact S5 h
theorem Xq(h:L < a.length):kE a L [d] =a.set L d:=by unfold kE;refine M List.set_eq_take_append_cons_drop (M (aS h) ?_);simp
theorem Xr(h:L+a.length≤ys.length):kE (kE ys L a) (L+a.length) b=kE ys L (a++b):=by
 unfold kE
 have c:(ys.take L++a++ys.drop (L+a.length)).take (L+a.length)=ys.take L++a:=
  M (afP (by simp;exact S7 h)) (M (mJ (by simp;exact Nat.min_le_left _ _)) V)
 have d:(ys.take L++a++ys.drop (L+a.length)).drop (L+a.length+b.length)=ys.drop (L+(a++b).length):=by
  refine M List.drop_append (M (AU (by simp;exact S6 h)) (M (qQ ..) (M Hm ?_)))
  congr 1
  simp;exact S4 h
 refine M c (M d ?_);simp[eZ]
noncomputable def lZ:Tb:=[(aH "x",aF),(aH "L",aF),(aH "R",aF),(aH "mid",aF),(aH "shift",aF),(aH "upper",aF),(aH "lower",aF),(aH "n",aI)]
noncomputable def bI:B:= .cons (.asg 3 (.bin .RShift (.bin .Add (.nm 1) (.nm 2)) (.int 1))) (.cons (.asg 4 (.bin .Mult (.bin .Sub (.nm 3) (.nm 1)) (.nm 7)))
 (.cons (.asg 5 (.bin .RShift (.nm 0) (.nm 4))) (.cons (.asg 6 (.bin .BitXor (.nm 0) (.bin .LShift (.nm 5) (.nm 4)))) .nil)))
theorem LL:je (bP 11).scope lZ=true:=by decide+kernel
theorem Xt:∀x∈(bP 11).scope.names,x.2≠ .cell:=by decide
inductive LM:Prop
 |mk (t p1 p2 p3 p4 p5 p6 p7 p8 e1 e2 l a1 a2 q1 q2 q3:_) (h1:(bP 11).body= .If t [.Assign [.Subscript (.Name "a_digits" p1) e1 p2] e2 p3,.Return aB p4] [] p5::(l++[.Expr (.Call (.Name "inner" p6) a1 [] p7) p8,.Expr (.Call (.Name "inner" q1) a2 [] q2) q3])) (h2:bC (bP 11).scope lZ (.cmp .Eq (.bin .Add (.nm 1) (.int 1)) (.nm 2)) t=aF) (h3:bC (bP 11).scope lZ (.nm 1) e1=aF) (h4:bC (bP 11).scope lZ (.nm 0) e2=aF) (h5:dY (bP 11).scope lZ bI l=aF) (h6:eL (bP 11).scope lZ (.cons (.nm 6) (.cons (.nm 1) (.cons (.nm 3) .nil))) a1=aF) (h7:eL (bP 11).scope lZ (.cons (.nm 5) (.cons (.nm 3) (.cons (.nm 2) .nil))) a2=aF) (h8:a1≠[]) (h9:a2≠[]):LM
theorem Xu:LM:=
 ⟨_,_,_,_,_,_,_,_,_,_,_,((bP 11).body.drop 1).take 4,_,_,_,_,_,rfl,by decide+kernel,by decide+kernel,by decide+kernel,by decide+kernel,by decide+kernel,by decide+kernel,(by intro e;cases e),(by intro e;cases e)⟩
structure ru(w:aV)(K:PK)(f D:aW)(n:aA)(fo:Obj)(kg:aD (Str×aW))(cv tD doc pm:aJ)(ci ca cn:aW):Prop where
 fn:K f=O fo
 data:fo.data= .func (oF (bP 11).name "_int2digits.<locals>.inner" (bP 11).params (bP 11).body (bP 11).scope kg .none .none doc pm aB cv tD)
 code:mY K cv "_int2digits.<locals>.inner"
 li:kg.lookup ("inner":Str)=O ci
 la:kg.lookup ("a_digits":Str)=O ca
 ln:kg.lookup ("n":Str)=O cn
 ki:∃o,K ci=O o∧o.data= .cell (O (.ref f))
 ka:∃o,K ca=O o∧o.data= .cell (O (.ref D))
 kn:∃o v,K cn=O o∧o.data= .cell (O v)∧RV w K aB v (.int (n:Z))
theorem ru.mono{K:PK} {f D n c d e g i j k l m} (x:ru w K f D n c d e g i j k l m)(h:PK.le K p):ru w p f D n c d e g i j k l m:=
 ⟨h _ _ x.fn,x.data,x.code.mono h,x.li,x.la,x.ln,(aQ x.ki fun o a b=>⟨o,h _ _ a,b⟩),(aQ x.ka fun o a b=>⟨o,h _ _ a,b⟩),(cS x.kn fun o v a b r=>⟨o,v,h _ _ a,b,r.mono h⟩)⟩
theorem Xv {a b c d e}:
  Hk s (oF (bP 11).name f (bP 11).params (bP 11).body (bP 11).scope a .none .none b c aB d e) ⟨[v,u,z],[]⟩ ((["x","L","R"] :aD Str).zip [v,u,z]):= .of_eq V
noncomputable def C7(D:aW)(d:aD Z)(s a:aM):Prop:=(∀b o,b≠D→s.heap.get? b=O o→a.heap.get? b=O o)∧(∃c:aD aJ,a.heap.IsList D c.toArray∧iZ c d)∧a.os=s.os∧iT s.gens a.gens
theorem ints_set(h:iZ a b):∀(j:aA) (x:Z) (t:hA),iZ (a.set j (.int x t)) (b.set j x):=by
 induction h with
 |nil=>exact fun J J J=> .nil
 |cons n t h ih=>
  intro j x u;cases j with
  |zero=>exact .cons x u h|succ j=>exact .cons n t (ih j x u)
theorem Fm.wrote{K:PK}(F:Fm c K m a s)(d:K D=aB)(e:D≠c.env.locals)(f:a.ad≠O D)(g:c.hE.get? D=aB)(h:∀b o,b≠D→s.heap.get? b=O o→s'.heap.get? b=O o)(i:s'.os=s.os)(j:iT c.ir s'.gens):Fm c K m a s':=by
 have k:=F.other (h':=s'.heap) (tk:=s'.toks) d e f g h
 exact{k with gens:=j,os:=i.trans F.os}
section
theorem LN(cj:Wd w bq mb h₀)(am:n≤10000)(x:Z)(L R a:aA)(v:aD Z)(B:aD aJ)(an:v.length≤1000)(ao:L < R)(Q:R≤v.length)(a7:a=(L+R) / 2)(S:0≤x∧x < 2^(n*(R - L)))(A:bX)(K:PK)(s:aM)(t b7 z:hA)(e:aA)
  (br:A.handled=aB) (bs:A.depth+e+1 < 900) (ck:A.units+10*(e+1) < 9000) (N:Kn bq mb h₀ [] K s) (I:ru w K b8 D n cl cm cn co cp cq cr bt bu) (cs:K D=aB) (ap:s.heap.IsList D B.toArray) (b9:iZ B v)
  (ct:L+1≠R→∀(m:Z) (k p:aA) (F:aD Z) (T:aD aJ),(k=L∧p=a)∨(k=a∧p=R)→0≤m∧m < 2^(n*(p - k))→F.length=v.length→∀(aq:bX) (C:PK) (H:aM) (t b7 z:hA),aq.handled=aB→aq.depth≤A.depth+1→aq.units≤A.units+3→
   Kn bq mb h₀ [] C H→ru w C b8 D n cl cm cn co cp cq cr bt bu→C D=aB→H.heap.IsList D T.toArray→iZ T F→
   aN (aO pg w) aq (call (.ref b8) [.int m t,.int (k:Z) b7,.int (p:Z) z]) (fun ar X=>ar= .none∧C7 D (kE F k (fW n (p - k) m)) H X) (fun J J=>bO) H):
  aN (aO pg w) A (call (.ref b8) [.int x t,.int (L:Z) b7,.int (R:Z) z]) (fun ar H=>ar= .none∧C7 D (kE v L (fW n (R - L) x)) s H) (fun J J=>bO) s:=by
 obtain⟨bv,fd,fe,ff,fg,fh,cu,cv,fi,as,au,av,cw,cx,cy,cz,fj,d0,bw,d3,bx,d4,d5,d6,d7,d8⟩:=Xu;obtain⟨d9,d',da,db,dc,dd,de,df⟩:=I.code;refine aQ I.ka fun fk fl fm=>cS I.kn fun dg dh di dj dk=> ?_;have dm:D < s.heap.objs.size:=by(refine aQ ap ?_;clear ap;rintro o g _);exact fA g
 refine C1 (hE:=cut s.heap D) (tb:=lZ) (k:=3) (xs:=[.int x,.int L,.int R]) (rest:=[aB,aB,aB,aB,O (.int (n:Z))]) (ps:=["x","L","R"]) (bZ (hV _ _) (ku bs)) (N.keep _ _ I.fn) I.data ⟨d9,d',da,db,dc,N.keep _ _ dd,de,df⟩ V Xv V rfl rfl Xt LL (by decide) V
  N.low N.keep N.base N.gens N.dP N.tabs (fun b o q=> ?_) (fun fn dn=>((cO dn).elim)) (.cons .int (.cons .int (.cons .int .nil))) V ?_ ?_ (fun c bz H l G dp fo=> ?_)
 ·by_cases c0:b=D
  ·(replace q:=c0▸q;replace q:=tc▸q);cases q
  ·replace q:=(oX c0)▸q;exact q
 ·intro i m a8 f d
  match i,f,d with
  |4,f,d=>
   cases f;cases d;exact⟨bu,dg,dh,I.ln,di,dj,dk⟩
  |0,f,d=>cases f|1,f,d=>cases f|2,f,d=>cases f|3,f,d=>cases f|i+5,f,d=>cases d
 ·intro i m a8 f d
  match i,f,d with
  |0,f,d=>cases d|1,f,d=>cases d|2,f,d=>cases d|3,f,d=>cases d|4,f,d=>cases f|i+5,f,d=>cases d
 ·have Y:Hyp w (A.deeper c.env) c (bP 11).scope lZ bJ 0:=by refine⟨br,by show A.depth+1+0 < 900;exact SW bs,by show A.units+3+10*0 < 9000;exact HQ ck,?_,cj.nc fV (fun J J J h=>by cases h) c (M l V) (M l V) (M l V) V⟩;exact M l <|⟨rfl,LL,rfl,rfl⟩
  have c1:c.T=[] :=M l V;have c2:c.hE=cut s.heap D:=M l V;have dq:c.hE.get? D=none:=by refine M c2 ?_;exact tc
  have b':D≠c.env.locals:=by refine M l ?_;exact fE dm
  have c3:∀b,Off c.T b:=fun b=>by refine M c1 ?_;exact fun J h=>(cO h).elim
  have c4:∀{C:PK} {aw:Str→aG aJ} {dr:Mu} {X:aM},Fm c C aw dr X→∀b o,b≠D→s.heap.get? b=O o→X.heap.get? b=O o:=fun ba b o ax q=>ba.cU b o (c3 b) (by refine M c2 (M (oX ax) ?_);exact q);have a0:∀{U a1:aM} {B:aD aJ},U.heap.IsList D B.toArray→KB c aB U.heap a1.heap→a1.heap.IsList D B.toArray:=fun⟨o,g,r⟩ b=>⟨o,b D o g b' (by intro z;cases z) (c3 D),r⟩;have bc:H.heap.IsList D B.toArray:=by(refine aQ ap ?_;clear ap;rintro o g r);exact⟨o,dp _ _ g,r⟩
  refine(M d0 ?_:aN _ _ (eH (bP 11).body c.env) _ _ _)
  by_cases P:L+1=R
  ·have bd:((L:Z)+1==(R:Z))=true:=by refine iR mh ?_;exact xN P
   refine wpAny_execs_cons (mO (((cY (P:=bJ) Y _ bv bw).2 aF (by exact aR O bd)).then G.F G.L G.Mi fun a2 U a3 be ay=> ?_));have a9:=G.of a3 be;have az:=a0 bc ay;refine wpAny_execs_cons (RD (((cY (P:=bJ) Y _ au bx).ev (x:= .int x) V a9).then fun b0 b1 a1 a' b2 b3 bf=> ?_) (qh bx _ _ _));obtain⟨aa,rfl⟩:=bf.int_inv;have c5:=I.mono (a3.trans a');refine aQ c5.ka fun ds dt du=>pG (GJ Y.H.kind (by refine M l ?_;rfl) (c:=bt) (by refine M l ?_;exact c5.la) ⟨ds,b2.keep _ _ dt,du⟩ ?_) (by decide);refine((cY (P:=bJ) Y _ as d3).ev (x:= .int (L:Z)) V (a9.of a' b2)).then fun u b4 E a4 W b5 ab=> ?_
   obtain⟨c6,rfl⟩:=ab.int_inv;have ae:=a0 (a0 az b3) b5;have dv:B.length=v.length:=b9.length;refine ae' ae (cW _) (S2 an Q P) (by refine M kP ?_;exact S3 Q P dv) fun fp c7 dw=> ?_;refine wpAny_execs_cons (wpAny_Return_none ?_);have e:B.toArray.setIfInBounds ((L:Z).toNat) (dW x aa)=(B.set L (dW x aa)).toArray:=by simp
   rw[e] at c7;refine⟨rfl,fun b o ax q=>(dw.2 b ax).trans (c4 W b o ax q),⟨_,c7,?_⟩,W.os.trans (M l V),o6 (by exact M l V) W.gens⟩
   have dx:fW n (R - L) x=[x] :=by rw[show R - L=1 by exact S1 P] at S ⊢;simp only[vE,C6,Gu,and_true];rw[A7] at S;exact Int.emod_eq_of_lt S.1 S.2
   refine M dx (M (Xq (bK ao Q)) ?_);exact ints_set b9 L x aa
  ·have bd:((L:Z)+1==(R:Z))=false:=by refine iR Hg ?_;exact HR P
   have a5:L < a∧a < R:=sG ao a7 P;have fq:n*(R - L)≤10000*1000:=xz am (aL (lK _ _) (aL Q an));have dy:n*(a - L)≤10000*1000:=xz am (SV an Q a7)
   have c8:((a:Z) - L)*n=((n*(a - L):aA):Z):=
    M (Bd ..) (M (hH ..) (M (Be (by exact fB a5.1)) V))
   have af:(0:Z) < 2^(n*(a - L)):=jm (by decide);have c9:0≤x / 2^(n*(a - L)):=kR S.1 (cJ af)
   have c':x / 2^(n*(a - L)) < 2^(n*(R - a)):=by refine uI af ?_;refine aT (qT ..) (aT (r8 ..) (M (Hl (fB a5.2) (fB a5.1):R - a+(a - L)=R - L) ?_));exact S.2
   have dz:gZ (x / 2^(n*(a - L)))≤n*(R - a):=intBits_le c9 c';have e0:n*(R - a)≤10000*1000:=xz am (aL (lK _ _) (aL Q an));have bg:∀(j:PK) (h:bF),Hyp w (A.deeper c.env) (c.here j aB h) (bP 11).scope lZ bJ 0:=fun j h=>⟨Y.hh,Y.hd,Y.hu,⟨Y.H.1,Y.H.2,Y.H.3,Y.H.4⟩,⟨Y.S.gk,Y.S.call,Y.S.bi⟩⟩
   have bh:∀{j C:PK} {aw:Str→aG aJ} {y X:aM},Fm (c.here j aB y.heap) C aw aB X→(∃o,y.heap.get? D=O o)→j D=aB→C D=none:=fun{j C aw y X} ba ⟨o,g⟩ e7=>by
    cases e:C D with
    |none=>rfl
    |some cb=>
     rcases ba.new D cb e with z |z
     ·have z:j D=O cb:=z;replace z:=e7▸z;cases z
     ·(rewrite[rj b' (by intro z;cases z)] at z;replace z:=g▸z);cases z
   have bi:∀{h:bF} {av:eW aJ},h.IsList D av→∃o,h.get? D=O o:=fun⟨o,g,_⟩=>⟨o,g⟩;refine wpAny_execs_cons (mO (((cY (P:=bJ) (bg K H.heap) _ bv bw).2 aI (by exact aR O bd)).then G.here.F G.L G.Mi fun a2 U a3 cc ay=> ?_));refine wpAny_execs_nil ?_;have e8:a2 D=none:=bh cc (bi bc) cs;have be:Fm c a2 bz aB U:=G.F.back cc ay;have a9:=G.of a3 be;have az:=a0 bc ay
   have e9:bE bJ bI {loc:=[O (.int x),O (.int (L:Z)),O (.int (R:Z)),aB,aB,aB,aB,O (.int (n:Z))]}=O (.next,{loc:=[O (.int x),O (.int (L:Z)),O (.int (R:Z)),O (.int (a:Z)),O (.int (((a:Z) - L)*n)),O (.int (x / 2^(n*(a - L)))),O (.int (x % 2^(n*(a - L)))),O (.int (n:Z))]}):=by
    have e':dC .RShift (.int ((L:Z)+R)) (.int 1)=O (.int (a:Z)):=by
     show aZ _ _=_;refine M (bB (by decide)) ?_
     congr 2
     refine M (Ha _ (by decide)) ?_;show((L:Z)+R) / 2=_;exact HS a7
    have ea:dC .Mult (.int ((a:Z) - L)) (.int (n:Z))=O (.int (((a:Z) - L)*n)):=vr (dD (by decide) (cW _)) (dN.mpr (bZ am (by decide)))
    have eb:dC .RShift (.int x) (.int (((a:Z) - L)*n))=O (.int (x / 2^(n*(a - L)))):=by show aZ _ _=_;exact M c8 (M (bB (cW _)) (M (oH ..) (M (Ha _ (cJ af)) V)))
    have ec:dC .LShift (.int (x / 2^(n*(a - L)))) (.int (((a:Z) - L)*n))=O (.int (x / 2^(n*(a - L))*2^(n*(a - L)))):=by show aZ _ _=_;exact M c8 (M (bB (HT dz e0 dy)) (M (oH ..) V))
    have ed:dC .BitXor (.int x) (.int (x / 2^(n*(a - L))*2^(n*(a - L))))=O (.int (x % 2^(n*(a - L)))):=
     (M (Xo _ S.1) V:O (PV.int (AD _ _))=_)
    unfold bI;refine M (eM (gR (x:= .int (a:Z)) (by exact e') V)) <|M (eM (gR (x:= .int (((a:Z) - L)*n)) (by exact ea) V)) ?_
    refine M (eM (gR (x:= .int (x / 2^(n*(a - L)))) (by exact eb) V)) <|M (eM (gR (x:= .int (x % 2^(n*(a - L)))) (by exact bN (x:= .int x) V (bN ec ed)) V)) ?_
    rfl
   have one:∀(m:Z) (k p:aA) (F:aD Z) (T:aD aJ),(k=L∧p=a)∨(k=a∧p=R)→0≤m∧m < 2^(n*(p - k))→F.length=v.length→∀(a8 q:bG) (args:aD Expr) (bj:Es),eL (bP 11).scope lZ bj args=aF→args≠[]→
     ∀(ah:Sg),ah.mu=aB→gC bJ ah bj=O [.int m,.int (k:Z),.int (p:Z)]→
     ∀(j:PK) (a6:Str→aG aJ) (y:aM) (bk:aJ→aM→Prop),PK.le K j→j D=aB→Fm c j a6 aB y→RL w j c.env aB lZ a6 ah.loc→y.heap.IsList D T.toArray→iZ T F→
     (∀u E b6,PK.le j u→u D=aB→Fm c u a6 aB E→E.heap.IsList D b6.toArray→iZ b6 (kE F k (fW n (p - k) m))→bk .none E)→
     aN (aO pg w) (A.deeper c.env) (eval (.Call (.Name "inner" a8) args [] q) c.env) bk (fun J J=>bO) y:=by
    intro m k p F T ee ef eg a8 q args bj eh ei ah cd ej j a6 y bk ek el ce cf cg en eo;have ep:Gd w c lZ j a6 aB y ah:=⟨ce,cf,by refine M cd ?_;exact .none,fun J J J z=>by cases z⟩;have ai:=I.mono ek;refine aQ ai.ki fun g0 eq er=>vC (c:=c.here j aB y.heap) (bg j y.heap) ep.here.F cf (by refine M cd ?_;exact .none) (by decide) (.inl (by refine(M l ?_:c.env.kindOf _=_);rfl)) (by refine(M l ?_:c.env.cells.lookup _=_);exact ai.li) eq er ai.fn ai.data eh ei ej fun u es E a4 W b5 ab=> ?_;have aj:u D=none:=bh W (bi cg) el;have bl:Fm c u a6 aB E:=ce.back W b5
    obtain⟨bm,b1,b4,rfl,et,eu,ew⟩:∃bm b1 b4,es=[bm,b1,b4]∧RV w u aB bm (.int m)∧RV w u aB b1 (.int (k:Z))∧RV w u aB b4 (.int (p:Z)):=by cases ab with |cons ey r=>cases r with |cons bf r=>cases r with |cons ab r=>cases r;exact⟨_,_,_,rfl,ey,bf,ab⟩
    obtain⟨ez,rfl⟩:=et.int_inv;obtain⟨aa,rfl⟩:=eu.int_inv;obtain⟨c6,rfl⟩:=ew.int_inv;have ak:=bl.kn;replace ak:=c1▸ak;have ae:E.heap.IsList D T.toArray:=a0 cg b5;refine wpAny_mono (ct P m k p F T ee ef eg (A.deeper c.env) u E ez aa c6 br (cA _) (cA _) (by replace ak:=l▸ak;exact ak) (ai.mono a4) aj ae en) (fun ar ch ⟨f0,f1,⟨bn,f2,f3⟩,f4,f5⟩=> ?_) fun J J x=>x;subst f0;exact eo u ch bn a4 aj (bl.wrote aj b' (by intro z;cases z) dq f1 f4 (bl.gens.trans f5)) f2 f3
   refine tB av _ (wpAny_mono (nQ bI av (c.here a2 aB U.heap) _ _ _ (bg a2 U.heap) d4 e9 a2 bz aB U a9.here) (fun g1 a1 o=> ?_) fun J J x=>x);obtain⟨b0,bo,ci,a',b3,g2,rfl,al⟩:=o
   have f6:ci=none:=by
    cases ci with
    |none=>rfl|some a8=>exact absurd al.Mi (by intro z;cases z)
   subst f6;have f7:b0 D=none:=bh al.F (bi az) e8;have b2:Fm c b0 bo aB a1:=a9.F.back al.F b3;have f8:=a0 az b3;have f9:0≤x % 2^(n*(a - L))∧x % 2^(n*(a - L)) < 2^(n*(a - L)):=⟨eD _ (fC af),gM _ af⟩;have f':(kE v L (fW n (a - L) (x % 2^(n*(a - L))))).length=v.length:=Xp (by refine M (tE ..) ?_;exact HO ao Q a7 P);refine wpAny_execs_cons (rl Y.H V (one (x % 2^(n*(a - L))) L a v B (.inl ⟨rfl,rfl⟩) f9 V cu cv cw _ d5 d7 _ V rfl b0 bo a1 _ (a3.trans a') f7 b2 al.L f8 b9 fun u E b6 a4 aj W ae fa=> ?_));refine wpAny_execs_cons (rl Y.H V (one (x / 2^(n*(a - L))) a R _ b6 (.inr ⟨rfl,rfl⟩) ⟨c9,c'⟩ f' cy cz cx _ d6 d8 _ V rfl u bo E _ ((a3.trans a').trans a4) aj W (al.L.mono a4) ae fa fun g3 ch bn g4 g5 bp fb fc=> ?_));refine wpAny_execs_nil ⟨rfl,c4 bp,⟨bn,fb,?_⟩,bp.os.trans (M l V),o6 (by exact M l V) bp.gens⟩;have as:=LI n (a - L) (R - a) x S.1;rw[show a - L+(R - a)=R - L by exact kO (gI _ _) (Hl (fB a5.2) (fB a5.1))] at as;have au:=Xr (ys:=v) (a:=fW n (a - L) (x % 2^(n*(a - L)))) (b:=fW n (R - a) (x / 2^(n*(a - L)))) (L:=L) (by refine M (tE ..) ?_;exact HO ao Q a7 P);rw[tE,show L+(a - L)=a by exact qz (fB a5.1)] at au;refine M as (aT au ?_);exact fc
theorem Xw(W:Wd w a3 mb h₀)(v:n≤10000):∀(k:aA) (x:Z) (L R:aA) (a:aD Z) (b:aD aJ),a.length≤1000→L < R→R≤a.length→R - L≤2^k→0≤x∧x < 2^(n*(R - L))→∀(A:bX) (K:PK) (s:aM) (t u z:hA),
  A.handled=aB→A.depth+k+1 < 900→A.units+10*(k+1) < 9000→Kn a3 mb h₀ [] K s→ru w K a4 D n a7 a8 a9 a' aa ab ae af ah→K D=aB→s.heap.IsList D b.toArray→iZ b a→
  aN (aO pg w) A (call (.ref a4) [.int x t,.int (L:Z) u,.int (R:Z) z]) (fun a5 i=>a5= .none∧C7 D (kE a L (fW n (R - L) x)) s i) (fun J J=>bO) s:=by
 intro k
 induction k with
 |zero=>
  intro x L R a b d c j e l A K s t u z m f g N I o p q;refine LN W v x L R ((L+R) / 2) a b d c j V l A K s t u z 0 m f g N I o p q fun h=>absurd h (by simp at e;lia)
 |succ k ih=>
  intro x L R a b d c j e l A K s t u z m f g N I o p q;refine LN W v x L R ((L+R) / 2) a b d c j V l A K s t u z (k+1) m f g N I o p q fun h y ai aj B C a6 E r F G i H P Q S T U X Y a0 a1 a2=> ?_;rw[RT] at e;rcases a6 with⟨rfl,rfl⟩ |⟨rfl,rfl⟩
  ·exact ih y _ _ B C (aL (cI r) d) (HK c h) (SU c h j r) (HM e) E F G i H P Q S (xL f T) (xM g U) X Y a0 a1 a2
  ·exact ih y _ _ B C (aL (cI r) d) (Bx c h) (by lia) (HN e) E F G i H P Q S (xL f T) (xM g U) X Y a0 a1 a2
end
end
section
section
variable{w:aV}{A:bX}{c:Cx}{K:PK}{m:Str→aG aJ}{s:aM}{sc:dO}{tb:Tb}{σ:Sg}{P:bT}{n:aA}
theorem tF{a d:PK}{g:Str→aG aJ}{i:Mu}{h:bF}{j:aM}{b:aW}(F:Fm (c.here a aB h) d g i j)(k:h.get? b≠aB)(l:b≠c.env.locals)(o:a b=aB):d b=none:=by
 cases e:d b with
 |none=>rfl
 |some f=>
  rcases F.new b f e with z |z
  ·have z:a b=O f:=z;replace z:=o▸z;cases z
  ·rw[rj l (by intro z;cases z)] at z;exact absurd z k
theorem nU(Y:Hyp w A c sc tb P n){e:E}{f:Expr}{x:PV}{Q:aJ→aM→Prop}(i:bC sc tb e f=aF)(j:ev P σ e=O x)(G:Gd w c tb K m aB s σ)
  (k:∀a v d,PK.le K a→Fm c a m aB d→KB c aB s.heap d.heap→RV w a aB v x→(∀b,s.heap.get? b≠aB→b≠c.env.locals→K b=aB→a b=aB)→Q v d):aN (aO pg w) A (eval f c.env) Q (fun J J=>bO) s:=
 ((cY (Y.here K aB s.heap) e f i).ev j G.here).then fun a v d l g h o=>k a v d l (G.F.back g h) h o fun J p q r=>tF g p q r
theorem tH(Y:Hyp w A c sc tb P n){e:E}{f:Expr}{b:aU}{Q:aU→aM→Prop}(i:bC sc tb e f=aF)(j:(ev P σ e).bind truth=O b)(G:Gd w c tb K m aB s σ)
  (k:∀a d,PK.le K a→Fm c a m aB d→KB c aB s.heap d.heap→(∀b,s.heap.get? b≠aB→b≠c.env.locals→K b=aB→a b=aB)→Q b d):aN (aO pg w) A (so f c.env (eval f c.env)) Q (fun J J=>bO) s:=
 ((cY (Y.here K aB s.heap) e f i).2 b j).then G.here.F G.L G.Mi fun a d l g h=>k a d l (G.F.back g h) h fun J o p q=>tF g o p q
theorem Xx(Y:Hyp w A c sc tb P n){b:B}{d:aD bR}{e:Sg}{Q:j5→aM→Prop}(j:dY sc tb b d=aF)(hex:bE P b σ=O (.next,e))(G:Gd w c tb K m aB s σ)(l:e.mu=aB)
  (k:∀f q g,PK.le K f→Gd w c tb f q aB g e→KB c aB s.heap g.heap→(∀b,s.heap.get? b≠aB→b≠c.env.locals→K b=aB→f b=aB)→Q .next g):aN (aO pg w) A (eH d c.env) Q (fun J J=>bO) s:=by
 refine wpAny_mono (nQ b d (c.here K aB s.heap) _ _ _ (Y.here K aB s.heap) j hex K m aB s G.here) (fun F r o=> ?_) fun J J x=>x;obtain⟨t,u,h,v,i,H,rfl,a⟩:=o
 have y:h=none:=by
  cases h with
  |none=>rfl|some p=>exact absurd a.Mi (by refine M l ?_;intro z;cases z)
 subst y;exact k t u r v ⟨G.F.back a.F i,a.L,a.Mi,a.fl⟩ i fun J C D E=>tF a.F C D E
end
end
section
noncomputable def qo:Tb:=[(aH "a",aF),(aH "n",aI)]
theorem Xy:je (aK 11).scope qo=true:=by decide+kernel
inductive LO:Prop
 |mk (s1 s2 s3 s4:bR) (z1 p0 p1 p2 p3 p4 p5 p6 p7 p8 p9 lh ll nd yK yL e1 ea e0 t:_) (h1:(aK 11).body=[s1,s2,s3,s4]) (g1:s1= .Assign [.Name "a_digits" p0] (.BinOp (.List [.Constant (.int 0) z1 p1] p2) .Mult e1 p3) p4) (g2:s2= .FunctionDef (bP 11).name (bP 11).params (bP 11).body [] aB [] (bP 11).scope aB (bP 11).name p5)
   (g3:s3= .If t [.Expr (.Call (.Name "inner" p6) [ea,e0,.Call (.Name "len" p7) [.Name "a_digits" p8] [] p9] [] lh) ll] [] nd) (g4:s4= .Return (O (.Name "a_digits" yK)) yL) (h2:bC (aK 11).scope qo (.bin .FloorDiv (.bin .Sub (.bin .Add (.dH "bit_length" (.nm 0) .nil) (.nm 1)) (.int 1)) (.nm 1)) e1=aF) (h3:bC (aK 11).scope qo (.nm 0) ea=aF) (h4:bC (aK 11).scope qo (.int 0) e0=aF) (h5:bC (aK 11).scope qo (.nm 0) t=aF) (h6:(pg.main.body[11]?).bind o5=O (p5,("_int2digits.<locals>.inner":Str))):LO
theorem Xz:LO:=
 ⟨_,_,_,_,_,_,_,_,_,_,_,_,_,_,_,_,_,_,_,_,_,_,_,_,rfl,rfl,rfl,rfl,rfl,by decide+kernel,by decide+kernel,by decide+kernel,by decide+kernel,rfl⟩
theorem XA(h:a.cells=[(("inner":Str),b),(("a_digits":Str),c),(("n":Str),d)]):oE (bP 11).scope a=pure [(("n":Str),d),(("inner":Str),b),(("a_digits":Str),c)] :=by obtain⟨e,lo,g,i,q,f,j,k,l⟩:=a;simp only at h;subst h;rfl
theorem LP(v:aJ):∀(n:aA) (a:eW aJ),(dU n #[v]).foldl (fun b c=>b++c) a=a++(dU n v).toArray
 |0,a=>rfl
 |n+1,a=>by refine M xi (M AH (M (LP v n ..) (M xi ?_)));apply Gq.mp;simp
theorem XB{E:aJ→aM→Prop}
  (a:s.heap.get? l=O {cls:= .type "list",dict:=aB,data:= .seq b k,slots:= #[]})
  (d: -(2^63:Z)≤x) (e:x < 2^63) (c:b.size*x.toNat≤2^24)
  (h:Q (.ref s.heap.objs.size) {s with heap:=s.heap.push {cls:= .type "list",data:= .seq (afQ (fun f g=>f++g) #[] (dU (if b.isEmpty=aF then 0 else x.toNat) b))}}):
  aN (aO pg w) A (sk .Mult (.ref l) (.int x u)) Q E s:=
 wpAny_binaryOp_repeat_ref (T:="list") (U:="int") (by decide) ⟨_,a,rfl⟩ (fun i=>AK i x u) noFill_list_mul PySem.F.fills_int_mul afR repeat_list PySem.F.slot_int_index.lookup
  (xm afR (AK s x u) PySem.F.entry_int_rmul (PySem.F.args_int_rmul_2 _ _) (int___rmul___int_list x u l b k)
   ⟨a,rfl,⟨_,a,rfl⟩,xm PySem.F.slot_list_mul ⟨_,a,rfl⟩ PySem.F.entry_list_mul (PySem.F.args_list_mul_2 _ _)
    (ahL l b k x u (by simp[ahM];exact⟨cL (by decide) d,dD e (by decide)⟩) (As (aL c (by decide))) (by simp[ahN,eF];exact c))
    ⟨a,h⟩⟩)
theorem ints_rep:∀(k:aA) (t:hA) (x:Z),iZ (dU k (dW x t)) (dU k x)
 |0,_,_=> .nil|k+1,t,x=> .cons x t (ints_rep k t x)
theorem LS{K:PK}(h:iZ a b):bL w K a (b.map .int):=by
 induction h with
 |nil=>exact .nil|cons _ _ _ ih=>exact .cons .int ih
theorem vF(h:0 < a):a < 2^gZ a:=by unfold gZ;refine M (aP (by simp;exact fC h)) ?_;have b:a.natAbs < 2^(a.natAbs.log2+1):=(AJ (HW h)).mp (kS _);exact dD (iD Int.le_natAbs (dN.mpr b)) (oz (rfl:((2^(a.natAbs.log2+1):aA):Z)=2^(a.natAbs.log2+1)))
section
theorem XC(af:Wd w bd mb h₀)(be:jY bd h₀ T)(S:1≤n∧n≤10000)(a:Z)(k:aA)(a2:0 < a)(bf:k=(gZ a+n - 1) / n)(bg:k≤1000):
  Ct w bd mb h₀ T 15 "_int2digits" [.int a,.int (n:Z)] (.lst ((fW n k a).map .int)):=by
 obtain⟨t,bh,ad,o,gc,ah,gd,de,bi,bj,df,dg,bk⟩:=be.at_ 11 (by decide);refine⟨ad,o,_,de,bi,bj,?_⟩;obtain⟨ge,gf,gg,gh,gi,gj,gk,gl,gm,gn,dh,go,gp,gq,gr,gs,gt,gu,gv,gw,U,bl,bm,gx,di,dj,dk,dm,dn,dp,ai,aj,dq,dr⟩:=Xz;rw[dr] at bk
 obtain⟨ds,bn⟩:t.pos=dh∧t.q="_int2digits.<locals>.inner":=by have:=cB bk;exact⟨(aR RU this).symm,(aR RW this).symm⟩
 intro A K s dt bo ak bp bq br du dv dw dx dy
 obtain⟨v,u,rfl,dz,bs⟩:∃v u,dt=[v,u]∧RV w K aB v (.int a)∧RV w K aB u (.int (n:Z)):=by cases dy with |cons e0 al=>cases al with |cons e5 am=>cases am;exact⟨_,_,rfl,e0,e5⟩
 have bt:∀b o,h₀.get? b=O o→s.heap.get? b=O o:=fun b o e=>br _ _ (bq b o e);refine cell_call (binds:=[("a",v),("n",u)]) (pP (bK ak (by decide))) (bt _ _ bi) bj (df.keeps bt) V ?_ (by decide) V rfl rfl bq br du dv dw dx (fun c d bu g bv an ao gy=> ?_)
 ·intro x bw;simp only[gA,cO,or_false] at bw;rcases bw with rfl |rfl
  ·exact .inl V
  ·exact .inr ⟨rfl,rfl⟩
 ·refine UZ fun ap aq=> ?_;have an:xy _ [(("inner":Str),s.heap.objs.size+1+1+1),(("a_digits":Str),s.heap.objs.size+1+1),(("n":Str),s.heap.objs.size+1)] bu:=an;obtain⟨m,f,j,e7,bx,y,rfl,e8,e9,e',bz,c0,ea,c1⟩:yH _ _ _ aB aB (O u) (qS (s.heap.objs.size+1) (aK 11).scope.names []) bu:=Lr an;refine dX (ao (m,e7) (.head _)) fun ar a3 as eb=>dX (ao (f,bx) (.tail _ (.head _))) fun au a4 av ec=>dX (ao (j,y) (.tail _ (.tail _ (.head _)))) fun ed ee ef eg=> ?_;have I:c.hE=s.heap:=M g V;have a5:c.T=T:=M g V;have eh:c.fH=K:=M g V;have p:c.env=nC (aK 11).name (aK 11).scope s.heap.objs.size ad (.ref ah):=M g V;have G:c.env.cells=[(("inner":Str),m),(("a_digits":Str),f),(("n":Str),j)] :=by refine M p ?_;exact e8
  obtain⟨W,L⟩:=bv.known eg ee (by intro z;cases z) (by refine M I ?_;exact ef) ed;have aw:(K.put j y) j=O y:=PK.jr;have c2:(K.put j y) f=none:=by unfold PK.put;refine M (aP c1) ?_;exact ec
  have c3:(K.put j y) m=none:=by unfold PK.put;refine M (aP ea) ?_;exact eb
  generalize gz:K.put j y=KK at L W aw c2 c3
  have Y:Hyp w (A.deeper c.env) c (aK 11).scope qo bJ 0:=by refine⟨bo,by show A.depth+1+0 < 900;exact kr (pP (bK ak (by decide))),by show A.units+3+10*0 < 9000;exact kr (bK (mj (by decide) _) (jB bp)),?_,af.nc fV (fun J J J h=>by cases h) c (M g V) (M g V) (M g V) V⟩;exact M g <|⟨rfl,Xy,rfl,rfl⟩
  generalize ei:A5 (nC (aK 11).name (aK 11).scope s.heap.objs.size ad (.ref ah)).kindOf [("a",v),("n",u)] (fun J=>aB)=B at bv L;have ej:B "a"=O v:=by refine aT ei ?_;rfl
  have ek:∀{r:PK},PK.le KK r→RL w r c.env aB qo B [O (.int a),O (.int (n:Z))] :=fun{r} X i x h0 c4 N H=>by
   match i,N,H with
   |0,N,H=>
    cases N;cases H;exact⟨v,ej,dz.mono (W.trans X)⟩
   |1,N,H=>
    cases N;cases H;exact⟨j,y,u,by refine M G ?_;rfl,X _ _ aw,bz,bs.mono (W.trans X)⟩
   |i+2,N,H=>cases H
  have a6:∀{r:PK} {P:aM},PK.le KK r→Fm c r B aB P→Gd w c qo r B aB P {loc:=[O (.int a),O (.int (n:Z))]}:=fun X ax=>⟨ax,ek X,.none,fun J J J z=>by cases z⟩;have ay:=bg;show aN _ _ (eH (aK 11).body c.env) _ _ _;refine M di <|vf dj fun az a0 J=> ?_
  refine(iY (wpAny_BinOp (GL (iG (pH (jE ?_))))) V);refine nw ?_ (by show(1:aA)≤eF;refine M cN ?_;decide);have en:Fm c KK B aB {d with heap:=d.heap.push {cls:= .type "list",data:= .seq [dW 0 d.toks].toArray},toks:=d.toks+1}:=L.push;have eo:(d.heap.push {cls:= .type "list",data:= .seq [dW 0 d.toks].toArray}).get? d.heap.objs.size=O {cls:= .type "list",data:= .seq [dW 0 d.toks].toArray}:=fP _ V;have c6:=L.fresh
  have ep:ev bJ {loc:=[O (.int a),O (.int (n:Z))]} (.bin .FloorDiv (.bin .Sub (.bin .Add (.dH "bit_length" (.nm 0) .nil) (.nm 1)) (.int 1)) (.nm 1))=O (.int (k:Z)):=by
   have U:nK aB "bit_length" (.int a) [] =O (.int (gZ a)):=rfl
   have a7:dC .FloorDiv (.int ((gZ a:Z)+n - 1)) (.int (n:Z))=O (.int (k:Z)):=by
    refine M (yx (dN.mpr (Ga S.1)) (dN.mpr (bZ S.2 (by decide)))) (M bf ?_)
    congr 2
    refine M (Int.natCast_ediv ..) (M (Be (Nat.le_add_left_of_le S.1)) ?_);exact rfl
   assumption
  refine nU (m:=B) (s:={d with heap:=d.heap.push {cls:= .type "list",data:= .seq [dW 0 d.toks].toArray},toks:=d.toks+1}) Y dp ep (a6 (.refl _) en) fun C h3 l c7 c8 a8 al eq=> ?_;obtain⟨h4,rfl⟩:=al.int_inv;have er:=a8 _ _ eo c6.2.1 (by intro z;cases z) (L.off c6.2.2.2);refine XB er (cL (by decide) (cW _)) (iD (cT.mpr ay) (by decide)) (by show 1*_≤_;lia) ?_
  have es:(afQ (fun et eu:eW aJ=>et++eu) #[] (dU (if([dW 0 d.toks].toArray).isEmpty=aF then 0 else((k:Z)).toNat) [dW 0 d.toks].toArray))=(dU k (dW 0 d.toks)).toArray:=by refine M (show([dW 0 d.toks].toArray)= #[dW 0 d.toks] from rfl) (M (LP ..) ?_);simp
  refine M es <|dX c8.fresh fun ew ey h5 Q=> ?_
  have ez:Fm c C B aB {l with heap:=l.heap.push {cls:= .type "list",data:= .seq (dU k (dW 0 d.toks)).toArray}}:=c8.push (tk:=l.toks);have f0:(l.heap.push {cls:= .type "list",data:= .seq (dU k (dW 0 d.toks)).toArray}).get? l.heap.objs.size=O {cls:= .type "list",data:= .seq (dU k (dW 0 d.toks)).toArray}:=fP _ V;have b0:∀{b:aW},s.heap.get? b=aB→Off c.T b:=fun{b} z=>L.off (by refine M I ?_;exact z)
  have c9:∀{b:aW} {o:Obj},d.heap.get? b=O o→b≠c.env.locals→s.heap.get? b=aB→(l.heap.push {cls:= .type "list",data:= .seq (dU k (dW 0 d.toks)).toArray}).get? b=O o:=fun{b o} e b1 z=>
   eV _ (a8 b o (eV _ e) b1 (by intro z;cases z) (b0 z))
  have c':∀{b:aW},d.heap.get? b≠aB→b≠c.env.locals→KK b=aB→C b=none:=fun{b} e b1 z=>eq b (by
   cases q:d.heap.get? b with
   |none=>exact absurd q e|some o=>refine M (show(d.heap.push {cls:= .type "list",data:= .seq [dW 0 d.toks].toArray}).get? b=O o from eV _ q) ?_;simp) b1 z
  have a9:l.heap.objs.size≠f∧l.heap.objs.size≠m:=⟨fun e=>by
    have:=fA (a8 _ _ (eV _ au) a4 (by intro z;cases z) (b0 av));exact ux _ (e▸this),fun e=>by
    have:=fA (a8 _ _ (eV _ ar) a3 (by intro z;cases z) (b0 as));exact ux _ (e▸this)⟩
  generalize ha:l.heap.objs.size=D at*;refine A4 Y.H.kind (by refine M p ?_;rfl) (c:=f) (by refine M G ?_;rfl) ⟨bx,c9 au a4 av,e'⟩ fun ca cb b2=> ?_;(refine aQ cb ?_;clear cb;rintro E f2 f3);obtain⟨cc,b3⟩:=ez.cell (tk:=l.toks) (c' (by refine M au ?_;exact xB _) a4 c2) a4 (by intro z;cases z) (by refine M I ?_;exact av) b2 f2;have cd:ca.get? D=O {cls:= .type "list",data:= .seq (dU k (dW 0 d.toks)).toArray}:=(b2.2 D a9.1).trans f0;have ce:(C.put f E) j=O y:=by unfold PK.put;refine M (aP (Ne.symm c1)) ?_;exact c7 _ _ aw
  have cf:(C.put f E) f=O E:=PK.jr;have cg:(C.put f E) m=none:=by unfold PK.put;refine M (aP c0) ?_;exact c' (by refine M ar ?_;exact xB _) a3 c3
  have ch:(C.put f E) D=none:=by unfold PK.put;refine M (aP a9.1) ?_;exact ew
  have ci:PK.le KK (C.put f E):=c7.trans cc;generalize hb:C.put f E=hc at b3 cc ce cf cg ch ci;refine a0 _ (vf dk fun az a0 J=> ?_)
  refine(C2 (mu:=aB) (t:=t) (s:={l with heap:=ca}) b3 (by refine M a5 ?_;exact bh) (by refine M a5 ?_;exact fun f4 f5 U a7=>be.apart t bh f4 f5 U a7) (cc:=ah) (by refine M p ?_;rfl) (by refine M g ?_;exact dg) (by refine M p ?_;rfl) (by refine M g ?_;exact af.bmain) ds
   (by refine M p (M bn ?_);rfl) (XA G) V rfl rfl (by decide+kernel) (by refine M p ?_;rfl) (by refine M p ?_;rfl) (ci:=m) (by refine M G ?_;rfl) cg a3 (by intro z;cases z) (by refine M I ?_;exact as) ((b2.2 m c0).trans (c9 ar a3 as)) e9 fun b4 hd f6 cj ck cl cm cn b5 co f7 f8 cp cq cr f9=> ?_)
  (refine aQ cr ?_;clear cr;rintro he f' fa);rw[bn] at cp cq;have fb:b4 D=none:=f9 D (by refine M cd ?_;exact xB _) a9.2 ch;have cs:=f7 D _ a9.2 (b3.off Q) cd;have b6:PK.le KK b4:=ci.trans b5
  have fc:ru w b4 f6 D n cj [(("n":Str),j),(("inner":Str),m),(("a_digits":Str),f)] ck cl cm cn m f j:=
   ⟨f8,cp,cq,rfl,rfl,rfl,⟨_,f',fa⟩,⟨E,b5 _ _ cf,f3⟩,⟨y,u,b5 _ _ ce,bz,bs.mono (W.trans b6)⟩⟩
  have F:D≠c.env.locals:=ey;refine a0 _ (vf dm fun az a0 J=> ?_);refine(mO (tH Y dq (by show(O (a !=0))=O aF;exact M (show(a !=0)=aF from bne_iff_ne.mpr (fC a2)) V) (a6 b6 co) fun fe hj ct b7 ff fg=> ?_));have fh:fe D=none:=fg D (by refine M cs ?_;exact xB _) F fb;have cu:=ff D _ cs F (by intro z;cases z) (co.off Q);have b8:=b6.trans ct;have cv:=fc.mono ct;have cw:∀(q:aD Expr),dG (bl::bm::q) c.env=(aI,eval bl c.env)::(aI,eval bm c.env)::dG q c.env:=fun q=>M (i5 ai ..) (M (i5 aj ..) V)
  have b9:∀{r:PK} {P:aM} {x:Str} {c4:bG} {cx cy:aW} {cz:Obj} {ap:aJ→aM→Prop},Fm c r B aB P→c.env.kindOf x=O .cell→(x==("__debug__":Str))=aI→c.env.cells.lookup x=O cx→r cx=O cz→cz.data= .cell (O (.ref cy))→ap (.ref cy) P→aN (aO pg w) (A.deeper c.env) (eval (.Name x c4) c.env) ap (fun J J=>bO) P:=
   fun ax U a7 fi fj fk aq=>pG (Ro Y.H.kind U fi ⟨_,ax.keep _ _ fj,fk⟩ aq) a7
  refine vf V fun hk fl J=>rl Y.H V (wpAny_Call_NameR ?_);refine aQ cv.ki fun hl fm fn=>b9 b7 (by refine M p ?_;rfl) (by decide) (by refine M G ?_;rfl) fm fn ?_;refine AP (o:=cj) (fd:=oF (bP 11).name "_int2digits.<locals>.inner" (bP 11).params (bP 11).body (bP 11).scope [(("n":Str),j),(("inner":Str),m),(("a_digits":Str),f)] .none .none cm cn aB ck cl) (iI (by refine M (cw ..) ?_;intro z;cases z) (by refine M (cw ..) ?_;rfl) ?_);refine iG (nU Y ai (x:= .int a) V (a6 b8 b7) fun hm hn ho b' d0 fo fp fq=> ?_) (i5 ai _ _);have fr:=fq D (by refine M cu ?_;exact xB _) F fh;have d3:=fo D _ cu F (by intro z;cases z) (b7.off Q);refine iG (nU Y aj (x:= .int 0) V (a6 (b8.trans b') d0) fun a' hp a1 d4 aa fs ft fu=> ?_) (i5 aj _ _);have ba:=fu D (by refine M d3 ?_;exact xB _) F fr;have d5:=fs D _ d3 F (by intro z;cases z) (d0.off Q);obtain⟨fv,rfl⟩:=fp.int_inv;obtain⟨fw,rfl⟩:=ft.int_inv;have fx:=(b8.trans b').trans d4;have ab:=cv.mono (b'.trans d4);refine iG (wpAny_Call_NameR (qe Y.H (by decide+kernel) aa (Y.S.bi "len" (by decide)) (v:= .builtin "len") (by decide+kernel) (by decide+kernel) ?_)) V;refine ny V (iI (by intro z;cases z) V ?_);refine aQ ab.ka fun hq d6 d7=>iG (b9 aa (by refine M p ?_;rfl) (by decide) (by refine M G ?_;rfl) d6 d7 (jE ?_)) V;refine aeZ (items:=(dU k (dW 0 d.toks)).toArray) ⟨_,d5,rfl,_,rfl⟩ (by refine M kP (M oJ ?_);exact iD (cT.mpr ay) (by decide)) ?_;refine jE ⟨⟨aa.keep _ _ ab.fn,ab.data⟩,?_⟩;refine M kP (M oJ ?_);have fy:=vF a2
  have d8:0 < k∧gZ a≤n*k:=by
   have fz:1≤gZ a:=by unfold gZ;refine M (aP (by simp;exact fC a2)) ?_;exact ox _ _
   have ae:=afO (gZ a+n - 1) n;have d9:=RZ (gZ a+n - 1) (show 0 < n by exact Ga S.1);rw[←bf] at ae
   constructor
   ·rcases R0 k with h |h
    ·rw[h] at ae;exact(Te ae d9 fz).elim
    ·exact h
   ·exact Tf ae d9
  have g0:0≤a∧a < 2^(n*(k - 0)):=⟨by exact cJ a2,dD fy (by
   exact_mod_cast xC (by decide) d8.2)⟩
  have g1:iZ (dU k (dW 0 d.toks)) (dU k 0):=ints_rep k _ _;have bc:Fm c a' B aB {a1 with toks:=a1.toks+1+1}:=aa.tok;have d':=bc.kn.nil;rw[g] at d'
  refine wpAny_mono (Xw af S.2 10 a 0 k (dU k 0) (dU k (dW 0 d.toks)) (by refine M oJ ?_;exact bg) d8.1 (by refine M oJ ?_;exact cA _) (by simp;exact aL ay (by decide)) g0 (A.deeper c.env) a' {a1 with toks:=a1.toks+1+1} fv fw (a1.toks+1) bo
   (by show A.depth+1+10+1 < 900;exact ku (ku (ku ak))) (by show A.units+3+10*(10+1) < 9000;exact kr (bK (mj (by decide) _) (jB bp))) d' ab ba ⟨_,d5,rfl,_,rfl⟩ g1) (fun hr hs ⟨g2,g3,⟨ht,da,db⟩,g4,g5⟩=> ?_) fun J J x=>x
  subst g2;have dc:=bc.wrote ba F (by intro z;cases z) Q g3 g4 (bc.gens.trans g5);refine fl _ (wpAny_execs_nil (a0 _ ?_))
  have g6:kE (dU k 0) 0 (fW n (k - 0) a)=fW n k a:=by unfold kE;refine M (su ..) ?_;simp[tE]
  rw[g6] at db;refine vf dn fun az J am=>(nA (b9 dc (by refine M p ?_;rfl) (by decide) (by refine M G ?_;rfl) d6 d7 ?_));(refine uR da ?_;clear da;rintro dd g7 g8 hu g9);obtain⟨g',R⟩:=dc.known ba F (by intro z;cases z) Q g7;have ga:PK.le K (a'.put D dd):=(W.trans fx).trans g';refine am _ _ (aq _ _ ?_);refine⟨a'.put D dd,ga,R.keep,fun b o e=> ?_,fun b o gb e=>R.cU b o (by refine M a5 ?_;exact gb) (by refine M I ?_;exact e),.lst PK.jr g8 g9 ?_,R.os.trans (M g V),o6 (by exact M g V) R.gens,by refine aT a5 ?_;exact R.tabs⟩
  ·have:=R.new b o e;rw[eh,I] at this;exact this
  ·exact LS db
end
end
section
noncomputable abbrev fJ(w:aV):Bool:=w.params.followText "set-order"
inductive ic(w:aV):aD (Z×aJ)→aD Z→Prop
 |nil:ic w [] []
 |cons {z t l zs}:ic w l zs→ic w (((intKind pg w).hash z,.int z t)::l) (z::zs)
theorem ic.length {l a} (h:ic w l a):l.length=a.length:=by
 induction h with
 |nil=>rfl|cons _ ih=>exact aR (· +1) ih
theorem ic.mem {l a} (h:ic w l a):∀e∈l,∃z t,e=((intKind pg w).hash z,.int z t)∧z∈a:=by
 induction h with
 |nil=>intro e h;cases h
 |cons h ih=>
  intro e he;rcases gA.mp he with rfl |he
  ·exact⟨_,_,rfl,.head _⟩
  ·refine iQ (ih e he) fun z t e b=> ?_;exact⟨z,t,e,.tail _ b⟩
theorem ic.XD {l a} (h:ic w l a):∀z∈a,∃t,((intKind pg w).hash z,dW z t)∈l:=by
 induction h with
 |nil=>intro e h;cases h
 |cons h ih=>
  intro e he;rcases gA.mp he with rfl |he
  ·exact⟨_,.head _⟩
  ·refine xe (ih e he) fun t b=> ?_;exact⟨t,.tail _ b⟩
theorem ic.elems {l a} (h:ic w l a):ElemsOf (intKind pg w) l:=fun e b=>by(refine iQ (h.mem e b) ?_;rintro z t rfl _);exact⟨⟨z,no pg w _ _,rfl⟩,rfl⟩
theorem ic.any {l zs} (h:ic w l zs)(k:Z):zs.any (· ==k)=aF↔∃e∈l,(intKind pg w).is k e.2=true:=by
 refine iR xc ?_
 constructor
 ·rintro⟨z,hz,e⟩;obtain rfl:=eq_of_beq e;exact xe (h.XD z hz) fun t ht=>⟨_,ht,no pg w _ _⟩
 ·rintro⟨e,he,hk⟩;(refine iQ (h.mem e he) ?_;rintro z t rfl hz);exact⟨z,hz,beq_iff_eq.mpr ((intKind pg w).inj (.int z t) z k (no pg w _ _) hk)⟩
theorem ic.perm {l e c} (h:ic w l c)(p:nH e l):∃d,ic w e d∧nH d c:=by
 have f:∀{a b:aD (Z×aJ)},nH a b→∀c,ic w b c→∃d,ic w a d∧nH d c:=by
  intro a b p
  induction p with
  |nil=>intro c h;exact⟨c,h,.refl _⟩
  |cons x _ ih=>
   intro c h;cases h with
   |cons h=>(refine aQ (ih _ h) ?_;rintro d g i);exact⟨_,.cons g,i.cons _⟩
  |swap x y l=>
   intro c h;cases h with
   |cons h=>cases h with
    |cons h=>exact⟨_,.cons (.cons h),.swap _ _ _⟩
  |trans _ _ ih1 ih2=>
   intro c h;exact aQ (ih2 _ h) fun q j k=>aQ (ih1 _ j) fun m n o=>⟨m,n,o.trans k⟩
 exact f p c h
inductive dZ(w:aV)(h:bF)(a:aW)(zs:aD Z):Prop
 |mk (o:Obj) (es ep t:_) (h1:h.get? a=O o) (h2:o.ExactSet∧o.data= .set es ep t∧ic w es.toList zs∧t.fits es.size=aF∧t.led= !fJ w):dZ w h a zs
theorem dZ.at {a b} (x:dZ w h a b)(k:∀o,h.get? a=O o→c.get? a=O o):dZ w c a b:=
 let⟨o,d,e,t,g,r⟩:=x;⟨o,d,e,t,k _ g,r⟩
theorem dZ.get {a b} (x:dZ w h a b):∃o,h.get? a=O o:=let⟨o,_,_,_,g,_⟩:=x;⟨o,g⟩
theorem dZ.setOf {a b} (x:dZ w h a b)(j:b.length < 4096):h.SetOf (intKind pg w) a (fun k=>b.any (· ==k)) b.length:=by
 obtain⟨o,e,l,t,g,m,d,c,f,_⟩:=x;have i:e.size=b.length:=by refine aT c.length ?_;exact rfl
 exact⟨o,e,l,t,g,m,d,c.elems,c.any,by refine M i ?_;exact j,f,i⟩
theorem dZ.typeIs{w:aV}{s:aM} {a b} (x:dZ w s.heap a b):s.TypeIs (.ref a) "set":=let⟨o,_,_,_,g,e,_⟩:=x;⟨o,g,e.1⟩
section
variable{E:aJ→aM→Prop}
theorem XF(h:Q (.ref s.heap.objs.size) {s with heap:=s.heap.push {cls:= .type "set",dict:=aB,data:= .set #[] 0 (.fresh 0 0 (!fJ w))}}):aN (aO pg w) A (newSet (.type "set")) Q E s:=by refine wpAny_bind (wpAny_bind (sz (wpAny_pure ?_)));dsimp only;exact wpAny_bind (Gg (wpAny_pure h))
theorem dZ.fresh{w:aV}{h:bF}:dZ w (h.push {cls:= .type "set",dict:=aB,data:= .set #[] 0 (.fresh 0 0 (!fJ w))}) h.objs.size [] :=
 ⟨_,#[],0,_,fP _ V,⟨rfl,rfl,rfl⟩,rfl,.nil,rfl,rfl⟩
theorem XG
  (h:Q₁ (.ref s.heap.objs.size) {s with heap:=s.heap.push {cls:= .type "set",dict:=aB,data:= .set #[] 0 (.fresh 0 0 (!fJ w))}}):
  pJ (aO pg w) A (.call (.builtin "set.__new__") ⟨[.type "set"],[]⟩) (wants Q₁ E) s:=by
 refine afS <|wpAny_bind (mT F.newCall_set_0 (wpAny_pure ⟨Ho F.plain_set_new _,uJ F.entry_set_new ?_⟩))
 unfold Builtin.«set.__new__» ahO;have a:=sub_set_self;obtain⟨b,g,d,tk,os⟩:=s;dsimp only
 wp_walk
 refine sz (wpAny_pure ?_);dsimp only;refine wpAny_bind (Gg (wpAny_pure ?_));exact wpAny_pure h
theorem LU
  (h:Q (.ref s.heap.objs.size) {s with heap:=s.heap.push {cls:= .type "set",dict:=aB,data:= .set #[] 0 (.fresh 0 0 (!fJ w))}}):
  aN (aO pg w) A (call (.type "set") []) Q E s:=by
 refine oL sA.mro fun c n o=> ?_;have p:=sA.made;have q:=sA.sub;refine xu (afS ?_);refine wpAny_pure ⟨Code.quiet_builtin _ (by decide+kernel),uJ F.entry_type_call ?_⟩;refine M (Around.under_plain (weight_type_call_type "set" [] []) V) ?_;have t:=sA.notType;have u:=sA.canCreate;have v:=F.typeCall_set_0
 repeat (any_goals (first |assumption |wp_step))
 refine uC (XG (E:=E) (Q₁:=fun d f=>d= .ref s.heap.objs.size∧f={s with heap:=s.heap.push {cls:= .type "set",dict:=aB,data:= .set #[] 0 (.fresh 0 0 (!fJ w))}}) ⟨rfl,rfl⟩) fun r f a=> ?_;cases r with
 |error e=>exact a
 |ok i=>
  cases i with
  |ret d=>
   (refine xa a ?_;clear a;rintro rfl rfl);have j:(s.heap.push {cls:= .type "set",dict:=aB,data:= .set #[] 0 (.fresh 0 0 (!fJ w))}).get? s.heap.objs.size=O {cls:= .type "set",dict:=aB,data:= .set #[] 0 (.fresh 0 0 (!fJ w))}:=fP _ V;have k:Shared.TypeIs {s with heap:=s.heap.push {cls:= .type "set",dict:=aB,data:= .set #[] 0 (.fresh 0 0 (!fJ w))}} (.ref s.heap.objs.size) "set":=⟨_,j,rfl⟩;have x:=sA.init.lookup;have y:=sA.init.bind (.ref s.heap.objs.size)
   repeat (any_goals (first |assumption |wp_step))
   refine uC (codeAny_call_builtin (R:=wants (fun r g=>r= .none∧Q (.ref s.heap.objs.size) g) E) sA.init.plain F.entry_set_init (check_set_init k ?_)) fun l g b=> ?_
   ·unfold Builtin.«set.__init__» noKeywords
    wp_walk
    exact⟨rfl,h⟩
   ·cases l with
    |error e=>exact b
    |ok m=>
     cases m with
     |ret r=>
      (refine xa b ?_;clear b;rintro rfl z)
      repeat (any_goals (first |assumption |wp_step))
     | _=>exact b.elim
  | _=>exact a.elim
end
end
section
set_option tactic.hygienic true in
theorem XH(t:uK)(b:eW (Z×aJ))(n:aA):(Bh t b n).2.1.led=t.led:=by
 unfold Bh
 split
 ·rename_i c e h
  have d:c.led=t.led:=by unfold SetTable.relaid SetTable.laid at h;simp only[Option.bind_eq_bind,Q3] at h;(refine aQ h ?_;clear h;rintro f _ h);cases h;rfl
  dsimp only
  split
  ·exact d
  ·rfl
 ·rfl
set_option tactic.hygienic true in
theorem XI(t:uK)(b:eW (Z×aJ))(h:Z)(x:aJ):(R1 t b h x).2.1.led=t.led:=by
 unfold R1
 split
 ·unfold SetTable.put SetTable.orStandIn;dsimp only
  (repeat' split) <;>rfl
 ·rfl
theorem LV{c:Type}(b:eW c)(p:aA):(xD b p).toList=b.toList.take p++b.toList.drop (p+1):=by simp[xD,afm,mJ]
theorem C8{c:Type}(b:eW c)(p:aA)(h:p < b.size):(xD b p).size=b.size - 1:=
 aT iO (M (LV ..) (M bH (M ow (M iP (M iO (M (l8 (fB h)) (M (gI p 1) (M (QO ..) (M (qz (aeC h)) V)))))))))
theorem XJ{c:Type}(b:eW c)(p:aA)(x:c):(afT b p x).size=b.size+1:=by have:=(SetTable.insertAt_perm b p x).length_eq;simpa using this
noncomputable def XK(w:aV)(l:aD (Z×aJ))(Y:aD Z)(i:aA):Prop:=∃z t b,l[i]? =O ((intKind pg w).hash z,.int z t)∧nH Y (z::b)∧ic w (l.take i++l.drop (i+1)) b
theorem ic.split{w:aV}{l:aD (Z×aJ)}{Y:aD Z}(h:ic w l Y):∀i,i < l.length→XK w l Y i:=by
 induction h with
 |nil=>exact fun i h=>absurd h (R2 i)
 | @cons z t l Y h ih=>
  intro i hi;cases i with
  |zero=>exact⟨z,t,Y,rfl,.refl _,h⟩
  |succ i=>
   exact pS (ih i (Hn hi)) fun z' t' kF e p h'=>⟨z',t',z::kF,e,(p.cons z).trans (.swap ..),.cons h'⟩
section
variable{w:aV}{A:bX}{E:aJ→aM→Prop}{s:aM}{a:aW}{Y:aD Z}
theorem LW{c:uv}{e:Source}{n:aA}{Q:aA→aM→Prop}(b:n≠0)(h:∀i < n,∀d,Q i {s with drawn:=d}):aN c A (choose e n) Q E s:=
 fun J J J=>⟨b,h _ (RZ _ (afU b)) _⟩
theorem dZ.store{h:bF}{o:Obj}{g:eW (Z×aJ)}{d:aA}{t:uK}(i:h.get? a=O o)(hex:o.ExactSet)(e:o.data= .set g d t)
  {b:eW (Z×aJ)} {c:uK} (j:ic w b.toList Y) (k:c.fits b.size=aF) (l:c.led= !fJ w):
  (h.update a (Hp b c)).get? a=O {o with data:= .set b (d+1) c}∧dZ w (h.update a (Hp b c)) a Y:=by
 have f:(h.update a (Hp b c)).get? a=O {o with data:= .set b (d+1) c}:=by have:=sb (Hp b c) i (by refine M (putSet_of b c e) ?_;rfl);rw[putSet_of b c e] at this;exact this
 exact⟨f,_,b,d+1,c,f,hex,rfl,j,k,l⟩
theorem XM{b:uv}{d:Type}{c:aU}{k:Z}{t:hA}{f:aU→cR d}{Q:d→aM→Prop}{s:aM}(h:aN b A (f aF) Q E s):aN b A (if c=aF then(hashByValue 8 (.int k t) >>=f) else(pure aF >>=f)) Q E s:=by
 cases c with
 |false=>exact wpAny_bind (wpAny_pure h)|true=>exact wpAny_bind (xU (hashByValue_scannable 8 rfl) (wpAny_pure h))
theorem XN{k:Z}{x:aJ}{Q:aU→aM→Prop}(XO:(intKind pg w).is k x=aF)(hx:∃t,x= .int k t)(hS:dZ w s.heap a Y)
  (tI:Y.length+1 < 4096) (hk:k∉Y)
  (h:∀h' kF,iM a s.heap h'→nH kF (k::Y)→dZ w h' a kF→Q aF {s with heap:=h'}):
  aN (aO pg w) A (setAddHashed a x ((intKind pg w).hash k)) Q E s:=by
 (refine xe hx ?_;clear hx;rintro tx rfl);obtain⟨o,es,ep,t,ho,hex,hd,o7,hf,hl⟩:=hS;have hsz:es.size=Y.length:=iO.symm.trans o7.length;have hb:es.size < R3:=by refine M hsz ?_;exact ku tI
 have hr:RC (fun e=>(intKind pg w).is k e.2) es.toList=none:=by
  cases hr:RC (fun e=>(intKind pg w).is k e.2) es.toList with
  |none=>rfl
  |some j=>
   (refine aQ (List.findIdx?_eq_some_iff_getElem.mp hr) ?_;rintro hj XP _);exact aQ (xc.mp ((o7.any k).mpr ⟨es.toList[j],mq hj,XP⟩)) fun z hz e=>absurd (eq_of_beq e▸hz) hk
 have LX:∀(b:aU) {kf:aM} {Q':Unit→aM→Prop},Q' () kf→aN (aO pg w) A (match b with |true=>rule "set.scan.the-table-gave-way" |false=>pure ()) Q' E kf:=
  fun b kf Q' hq=>by cases b<;>first |exact wpAny_pure hq |exact Gh hq
 have C9:=layNew_perm t es ((intKind pg w).hash k) (.int k tx);have LY:=layNew_fits t es ((intKind pg w).hash k) (.int k tx);have C':=XI t es ((intKind pg w).hash k) (.int k tx);rw[RE] at C9;refine il (wpAny_bind (Bi ho hd hf (qF (BN (byScan_of V hb o7.elems) (wpAny_bind (wpAny_bind (Gh (wpAny_bind (wpAny_setScan_of XO ho hd hf o7.elems ?_)))))))));refine M hr ?_;generalize R1 t es ((intKind pg w).hash k) (.int k tx)=L at C9 LY C' ⊢;obtain⟨l0,t1,XQ,ahp⟩:=L;refine aQ ((ic.cons o7).perm (C9.trans (List.perm_append_singleton _ _))) fun zs1 Db rx=> ?_;have XR:=iO.symm.trans (Db.length.trans rx.length_eq);have vG:l0.size < R3:=bZ (cI XR) (tI:(k::Y).length < R3);refine xa (dZ.store ho hex hd Db LY (C'.trans hl)) fun LZ oY=>wpAny_bind (LX _ (XM (wpAny_bind (R4 ho hd ?_ (R5 vG)))))
 by_cases hc:(!XQ && t1.tooFull)=aF
 ·have L0:=relayAll_perm t1 l0 (xE l0.size);have XS:=relayAll_fits t1 l0 (xE l0.size);have XT:=XH t1 l0 (xE l0.size);refine aQ (Db.perm L0) fun zs2 XU XV=> ?_;have XW:=iO.symm.trans (L0.length_eq.trans iO);have XX:=(dZ.store LZ hex V XU XS (XT.trans (C'.trans hl))).2;have XY:=R5 (bZ (cI XW) vG);refine qF (BN hc (wpAny_bind (LX (Bh t1 l0 (xE l0.size)).2.2 (wpAny_bind (R4 LZ V (es':=(Bh t1 l0 (xE l0.size)).1) (t':=(Bh t1 l0 (xE l0.size)).2.1) ?_ XY)))));exact wpAny_pure (wpAny_pure (h _ _ ((qD s.heap a _).trans (qD _ a _)) (XV.trans rx) XX))
 ·exact qF (uW hc (wpAny_pure (wpAny_pure (h _ _ (qD s.heap a _) rx oY))))
theorem L3{k:Z}{t:hA}{Q:aU→aM→Prop}(d:dZ w s.heap a Y)(e:Y.length+1 < 4096)(f:k∉Y)
  (h:∀b c,iM a s.heap b→nH c (k::Y)→dZ w b a c→Q aF {s with heap:=b,toks:=s.toks+1}):
  aN (aO pg w) A (R6 a (.int k t)) Q E s:=by
 unfold R6;refine il (wpAny_bind ((intKind pg w).pyHash (no pg w _ _) ?_));exact XN (s:={s with toks:=s.toks+1}) (no pg w _ _) ⟨_,rfl⟩ d e f h
theorem XZ{k:Z}{t:hA}{Q:aJ→aM→Prop}(hS:dZ w s.heap a Y)(tI:Y.length+1 < 4096)(hk:k∉Y)
  (h:∀h' kF,iM a s.heap h'→nH kF (k::Y)→dZ w h' a kF→Q .none {s with heap:=h',toks:=s.toks+1}):
  aN (aO pg w) A (call (.builtin "set.add") [.ref a,.int k t]) Q E s:=by
 refine sC F.slot_set_add hS.typeIs F.entry_set_add ?_ (F.args_set_add_2 _ _);unfold Builtin.«set.add» ahP;simp only[afV,bind_assoc];refine wpAny_bind (wpAny_pure ?_)
 try dsimp only
 refine wpAny_bind (wpAny_pure ?_)
 try dsimp only
 refine wpAny_bind <|L3 hS tI hk fun h' kF vH p nN=> ?_
 show aN _ _ (ret Value.none) _ _ _;exact wpAny_pure ⟨_,rfl,h h' kF vH p nN⟩
theorem X0(t:uK)(i:aA):(t.popped i).led=t.led:=by
 unfold afW afX;dsimp only
 split<;>rfl
theorem X1{t:uK}{n i:aA}(b:t.fits n=aF)(g:i < n):(t.popped i).fits (n - 1)=true:=by simp only[R7,hG,mh,lL] at b ⊢;have c:i < t.place.size:=bK g (cI (Eq.symm b.1));have e:t.place[i]? =O t.place[i] :=Ay c;unfold afW afX;refine M e ?_;dsimp only;have d:=C8 t.place i c;have h:=XJ t.dummies (Hq t.dummies t.place[i]) t.place[i];refine⟨by refine M d ?_;exact aR (· - 1) b.1,?_⟩;have f:=b.2;unfold SetTable.fill at f ⊢;refine(M d (M h ?_):(xD t.place i).size+(afT t.dummies _ _).size≤t.mask);exact aL (cI ((aR (t.place.size - 1+ ·) (gI t.dummies.size 1)).trans ((ik ..).symm.trans (aR (· +t.dummies.size) (r9 (bZ (ji i) c)))))) f
theorem X3{Q:aG aJ→aM→Prop}(C:dZ w s.heap a Y)(D:Y≠[])(F:Y.length < 4096)
  (h:∀k z t e d,iM a s.heap k→nH Y (z::e)→dZ w k a e→Q (O (.int z t)) {s with heap:=k,drawn:=d}):
  aN (aO pg w) A (setPop a) Q E s:=by
 obtain⟨o,b,T,t,l,hex,m,r,f,u⟩:=C;have v:b.size=Y.length:=by refine aT r.length ?_;exact rfl
 have y:0 < b.size:=by refine M v ?_;cases Y with |nil=>exact absurd rfl D |cons=>exact nq _
 have n:t.place.size=b.size:=by simp only[R7,hG,mh] at f;exact f.1
 refine wpAny_bind (Bi l m f ?_);dsimp only
 have B:∃j,t.popPlace=O j∧j < b.size:=by
  unfold SetTable.popPlace
  have G:t.place.isEmpty=false:=by
   cases p:t.place.isEmpty with
   |false=>rfl|true=>replace p:=QY Array.isEmpty_iff p;replace n:=p▸n;simp at n;lia
  refine M G (M (aP cM) ?_);refine⟨_,rfl,?_⟩
  split<;>lia
 (refine aQ B ?_;clear B;rintro j H I);refine M H ?_;dsimp only
 have q:∀i d,i < b.size→aN (aO pg w) A (match b[i]? with
   |some (_,x)=>do storeSet a (xD b i) (t.popped i);return O x
   | _=>unsupported "internal:set.pop") Q E {s with drawn:=d}:=by
  intro i d c;(refine pS (r.split i (by refine M iO ?_;exact c)) ?_;rintro z tk e K L N);refine aT pB (M K ?_);refine wpAny_bind (R4 (s:={s with drawn:=d}) l m ?_ (R5 (by refine M (C8 b i c) (M v ?_);exact bZ (lK _ 1) F)));have P:ic w (xD b i).toList e:=by refine M (LV ..) ?_;exact N
  (refine xa (dZ.store (w:=w) (a:=a) l hex m P (by refine M (C8 b i c) ?_;exact X1 f c) ((X0 t i).trans u)) ?_;rintro _ R);exact wpAny_pure (h _ _ _ e _ (qD _ a _) L R)
 refine wpAny_bind (wpAny_bind (sz (wpAny_pure ?_)))
 by_cases g:fJ w=aF
 ·exact M (show(Hr ⟨(aO pg w).prog,(aO pg w).w.params⟩).followText "set-order"=aF from g) <|wpAny_bind (LW (eG y) fun i c d=>q i d c)
 ·have g:fJ w=false:=by simpa using g
  have S:t.led=true:=by refine M u (M g ?_);rfl
  split
  ·exact wpAny_bind (LW (eG y) fun i c d=>q i d c)
  ·refine wpAny_bind (?_:aN _ _ (if(!t.led && decide (b.size >1))=aF then unsupported "set:maker-not-led" else pure ()) _ _ _);refine M S <|wpAny_pure ?_
   exact wpAny_bind (wpAny_pure (q j s.drawn I))
theorem X4{Q:aJ→aM→Prop}(e:dZ w s.heap a Y)(f:Y≠[])(g:Y.length < 4096)
  (h:∀b z t c d,iM a s.heap b→nH Y (z::c)→dZ w b a c→Q (.int z t) {s with heap:=b,drawn:=d}):
  aN (aO pg w) A (call (.builtin "set.pop") [.ref a]) Q E s:=by
 refine sC F.slot_set_pop e.typeIs F.entry_set_pop ?_ (F.args_set_pop_1 _);unfold Builtin.«set.pop» ahQ;refine wpAny_bind (wpAny_pure ?_)
 try dsimp only
 refine wpAny_bind (X3 e f g fun b z t c d i p j=> ?_);exact wpAny_pure ⟨_,rfl,h b z t c d i p j⟩
end
end
section
theorem X5:Manifest.owners.lookup (String.ofList ['r','o','t','a','r','e','t','i','_','t','e','s'].reverse)=O Manifest.sig_set_iterator:=by kernel_rfl
theorem vI:Slot "set_iterator" "__next__" "set_iterator.__next__":=
 .of (owner:="set_iterator") (n:="__next__") (by refine M (afY ..) (M afZ ?_);kernel_rfl) (by decide+kernel) (by decide+kernel) (by decide+kernel)
  (by first |exact .inl (by decide+kernel) |exact .inr (by decide+kernel)) (by refine M (QS ..) ?_;kernel_rfl)
theorem L4:Hs pO "set_iterator.__next__"=O Builtin.«set_iterator.__next__»:=entryFor_of_tree (by kernel_rfl)
theorem L5(a:aJ):xF "set_iterator.__next__" ⟨[a],[]⟩:=by unfold xF;refine M (signature?_of (id:="set_iterator.__next__") (n:=['_','_','t','x','e','n','_','_']) (o:=['r','o','t','a','r','e','t','i','_','t','e','s']) (by kernel_rfl) X5) ?_;kernel_rfl
theorem X6:Hs pO "set.__iter__"=O Builtin.«frozenset.__iter__»:=
 entryFor_alias (id':="frozenset.__iter__") (by kernel_rfl) V (by decide+kernel) (by kernel_rfl)
theorem noBool_set:At (.type "set") "__bool__"=pure none:=by refine M (afY ..) (M afZ ?_);kernel_rfl
section
variable{E:aJ→aM→Prop}
theorem L6(f:dZ w s.heap a b)(v:b.length < 4096)(h:Q (!b.isEmpty) {s with toks:=s.toks+1+1}):aN (aO pg w) A (truthy (.ref a)) Q E s:=by
 obtain⟨o,i,x,t,l,hex,m,n,p,y⟩:=id f;have q:i.size=b.length:=by refine aT n.length ?_;exact rfl
 have j:((i.size:Z) !=0)= !b.isEmpty:=by
  refine M q ?_;cases b with
  |nil=>rfl
  |cons z r=>
   have u:(((z::r).length:aA):Z)≠0:=by refine M j3 ?_;exact fC (dN.mpr (nq _))
   exact bne_iff_ne.mpr u
 have k:aN (aO pg w) A (runValue (.builtin "len" ⟨[.ref a],[]⟩)) (fun r d=>r= .int i.size (s.toks+1)∧Q (!b.isEmpty) d) E s:=by
  refine af0 (uJ entry_len ?_)
  exact wpAny_mono (wpAny_len_body_set (Q:=fun r d=>r= .int i.size (s.toks+1)∧Q (!b.isEmpty) d) l hex m p (by omega) ⟨rfl,h⟩)
   (fun B d c=>by(refine aQ c ?_;clear c;rintro r rfl g);exact g) fun J J e=>e
 first
  |refine wpAny_bind (af1 (name:=aH "__bool__") f.typeIs noBool_set ?_)
  |refine wpAny_bind (wpAny_pure (wpAny_bind (af1 (name:=aH "__bool__") f.typeIs noBool_set ?_)))
 first
  |refine wpAny_bind (wZ (name:=aH "__len__") f.typeIs R8.lookup ?_)
  |refine wpAny_bind (wpAny_pure (wpAny_bind (wZ (name:=aH "__len__") f.typeIs R8.lookup ?_)))
 first
  |exact wpAny_bind (wpAny_mono k (fun r d c=>by(refine xa c ?_;clear c;rintro rfl g);exact wpAny_pure (j▸g)) fun J J e=>e)
  |exact wpAny_bind (wpAny_pure (wpAny_bind (wpAny_mono k (fun r d c=>by obtain⟨rfl,g⟩:=c;exact wpAny_pure (j▸g)) fun J J e=>e)))
noncomputable def vJ(h:bF)(b a:aW)(c i d:aA):Prop:=
 h.get? b=O {cls:= .type "set_iterator",data:= .fields #[.int (c:Z) 0,.int (i:Z) 0,.ref a,.int 1 0,.int (d:Z) 0]}
structure nV(w:aV)(h:bF)(a:aW)(z:Z)(tz:hA)(j ep:aA)(t:uK):Prop where
 at_:∃o,h.get? a=O o∧o.ExactSet∧o.data= .set #[((intKind pg w).hash z,.int z tz)] ep t
 fits:t.fits 1=aF
 led:t.led= !fJ w
 place:t.place= #[j]
theorem dZ.one(x:dZ w h a [z]):∃tz j ep t,nV w h a z tz j ep t:=by
 obtain⟨o,es,ep,t,ho,hex,hd,o7,hf,hl⟩:=x;obtain⟨es⟩:=es;cases o7 with
 | @cons z' tk l' kF o7=>
  cases o7
  have hp:t.place.size=1:=by simp only[R7,hG,mh] at hf;exact hf.1
  obtain⟨j,hj⟩:∃j,t.place= #[j] :=by
   generalize t.place=pl at hp;obtain⟨pl⟩:=pl
   match pl,hp with
   |[j],_=>exact⟨j,rfl⟩|[],hp=>cases hp| _::_::_,hp=>simp at hp
  exact⟨tk,j,ep,t,⟨o,ho,hex,hd⟩,hf,hl,hj⟩
theorem X7{ep:aA}(x:nV w s.heap a z tz j ep t)
  (h:Q (.ref s.heap.objs.size) {s with heap:=s.heap.push {cls:= .type "set_iterator",data:= .fields #[.int ((0:aA):Z) 0,.int ((0:aA):Z) 0,.ref a,.int 1 0,.int (ep:Z) 0]}}):
  aN (aO pg w) A (Bj (.ref a)) Q E s:=by
 refine dB x.at_ fun o ho hex hd=> ?_;have hT:s.TypeIs (.ref a) "set":=⟨o,ho,hex.1⟩;have hf:t.fits (#[((intKind pg w).hash z,dW z tz)] :eW (Z×aJ)).size=true:=x.fits;refine wpAny_pyIter_slot hT af2 (sC af2 hT X6 ?_ (F.args_set_iter_1 _));unfold Builtin.«frozenset.__iter__» ahR slotArgs;simp only[afV,Bool.not_true,af3,↓reduceIte,bind_assoc,xd,xb];refine wpAny_bind (wpAny_pure ?_);refine wpAny_bind (wpAny_pure ?_);refine wpAny_bind (wpAny_bind (R9 ho hd hf (wpAny_pure ?_)));refine wpAny_bind <|wpAny_bind (Bi ho hd hf ?_)
 refine wpAny_bind (wpAny_bind (sz (wpAny_pure ?_)));refine wpAny_pure ?_
 split
 ·rename_i hh
  have hh:(!(fJ w) && (!t.plain && decide ((#[((intKind pg w).hash z,dW z tz)] :eW (Z×aJ)).size >1)))=true:=hh;simp at hh
 ·refine wpAny_bind (wpAny_pure ?_);refine wpAny_bind (wpAny_setEpoch_of ho hd hf ?_);exact wpAny_bind (nw (wpAny_pure ⟨_,rfl,"set_iterator",_,⟨_,fP _ V,rfl⟩,vI.lookup,h⟩))
theorem X8{a:Type}(f:aA→aA)(x:a):pickOrder f #[x] = #[x] :=
 aR (fun i=>ahS (fun J=>eW a) [x][i]? (fun y=>ahT f 0 1 ([x].eraseIdx i) (#[].push y)) fun J=> #[]) (Nat.mod_one (f 0))
theorem X9(x:nV w s.heap a z b j g t)(h:Q #[((intKind pg w).hash z,.int z b)] s)(c:fJ w=aF):aN (aO pg w) A (setWalk a) Q E s:=by
 refine dB x.at_ fun o d hex e=> ?_;have f:t.fits (#[((intKind pg w).hash z,dW z b)] :eW (Z×aJ)).size=true:=x.fits;refine wpAny_bind (Bi d e f ?_);refine wpAny_bind (wpAny_bind (sz (wpAny_pure ?_)));refine M (show(Hr ⟨(aO pg w).prog,(aO pg w).w.params⟩).followText "set-order"=aF from c) <|wpAny_bind (sz ?_)
 exact M (X8 ..) <|wpAny_pure h
theorem L7(x:nV w s.heap a z c j l t)
  (g:i=0∧slot=0∨i=1∧(slot=0∧fJ w=aF∨slot=j+1∧fJ w=aI))
  (h:i=0→∀d,(d=0∧fJ w=aF∨d=j+1∧fJ w=aI)→Q (O (.int z c,d)) s) (k:i=1→Q aB s):aN (aO pg w) A (setNext a slot i l) Q E s:=by
 refine dB x.at_ fun o m hex n=> ?_;have p:t.fits (#[((intKind pg w).hash z,dW z c)] :eW (Z×aJ)).size=true:=x.fits;refine wpAny_bind (Bi m n p ?_);refine wpAny_bind (wpAny_bind (sz (wpAny_pure ?_)));cases b:fJ w with
 |true=>
  refine M (show(Hr ⟨(aO pg w).prog,(aO pg w).w.params⟩).followText "set-order"=aF from b) <|M (aS V) (M (aP (by simp)) ?_)
  refine wpAny_bind (X9 x ?_ b);rcases g with⟨rfl,rfl⟩ |⟨rfl,⟨rfl,_⟩ |⟨_,e⟩⟩
  ·exact wpAny_pure (h V 0 (.inl ⟨rfl,b⟩))
  ·exact wpAny_pure (k V)
  ·replace e:=b▸e;cases e
 |false=>
  refine M (show(Hr ⟨(aO pg w).prog,(aO pg w).w.params⟩).followText "set-order"=aI from b) <|M (aP cM) ?_
  split
  ·rename_i f
   have f:(!t.plain && decide ((#[((intKind pg w).hash z,dW z c)] :eW (Z×aJ)).size >1))=true:=f;simp at f
  ·refine wpAny_bind (?_:aN _ _ (if(!t.led && !(#[((intKind pg w).hash z,dW z c)] :eW (Z×aJ)).isEmpty)=aF then unsupported "set:maker-not-led" else pure ()) _ _ _);refine M x.led (M b ?_);refine wpAny_pure <|M x.place ?_
   rcases g with⟨rfl,rfl⟩ |⟨rfl,⟨_,e⟩ |⟨rfl,_⟩⟩
   ·have:Hq #[j] 0=0:=rfl;exact wpAny_pure (h V (j+1) (.inr ⟨rfl,b⟩))
   ·replace e:=b▸e;cases e
   ·have:Hq #[j] (j+1)=1:=(by kernel_rfl:Hq #[j] (j+1)=if j < j+1 then af4 #[j] (j+1) 0 1 1 else af4 #[j] (j+1) 0 0 0).trans ((aS (kS j)).trans rfl);exact M this <|wpAny_pure (k V)
theorem X'{b:aA}(x:nV w s.heap a z g j i t)(c:vJ s.heap b a 0 0 i)(D:b≠a)
  (h:∀d f,vJ d b a f 1 i→(f=0∧fJ w=aF∨f=j+1∧fJ w=aI)→iM b s.heap d→Q (O (.int z g)) {s with heap:=d}):
  aN (aO pg w) A (xG (.ref b)) Q E s:=by
 refine dB x.at_ fun o l hex m=> ?_;have n:t.fits (#[((intKind pg w).hash z,dW z g)] :eW (Z×aJ)).size=true:=x.fits;have k:s.TypeIs (.ref b) "set_iterator":=⟨_,c,rfl⟩
 refine wpAny_bind (Sa (Ht (name:=aH "__next__") k vI
  (sC vI k L4 ?_ (L5 _))))
 refine wpAny_bind (wpAny_pure ?_);refine wpAny_bind (Sb c V ?_);dsimp only;refine wpAny_bind (R9 l m n ?_);refine wpAny_bind (L7 x (slot:=0) (i:=0) (.inl ⟨rfl,rfl⟩) (fun J p q=> ?_) (fun e=>by cases e));refine wpAny_bind (af5 c (nq _) fun r u v=> ?_);refine wpAny_bind (af5 (s:={s with heap:=r}) u (by simp) fun y B C=> ?_);exact wpAny_pure ⟨_,rfl,wpAny_pure (h y p (by unfold vJ;refine M B ?_;exact rfl) q (v.trans C))⟩
theorem Ya{b:aA}(h:A.handled=aB)(x:nV w s.heap a z i j k t)(c:vJ s.heap b a d 1 k)(r:b≠a)
  (l:d=0∧fJ w=aF∨d=j+1∧fJ w=aI)
  (m:∀f,Sd b s.heap f→Q aB {s with heap:=f}):
  aN (aO pg w) A (xG (.ref b)) Q E s:=by
 refine dB x.at_ fun o n hex p=> ?_;have q:t.fits (#[((intKind pg w).hash z,dW z i)] :eW (Z×aJ)).size=true:=x.fits;have g:s.TypeIs (.ref b) "set_iterator":=⟨_,c,rfl⟩
 refine wpAny_bind (Sa (Ht (name:=aH "__next__") g vI
  (sC vI g L4 ?_ (L5 _))))
 refine wpAny_bind (wpAny_pure ?_);refine wpAny_bind (Sb c V ?_);dsimp only;refine wpAny_bind (R9 n p q ?_);refine wpAny_bind (L7 x (slot:=d) (i:=1) (.inr ⟨rfl,l⟩) (fun e=>by cases e) (fun J=> ?_));refine wpAny_bind (af6 c V (by simp) ?_);refine(wpAny_bind ?_:aN _ _ (newExc (.type "StopIteration") [] >>=_) _ _ _);refine wpAny_bind (nw ?_ (by size_fits));refine wpAny_bind (m:=Hu _ _) (mT (a:=Value.none) (by first |rfl |(simp only[Hu];rfl)) ?_);refine nw ?_ (by size_fits);refine wpAny_bind (af7 ?_);refine M (h:A.in1.handled=aB) <|wpAny_bind (wpAny_pure (wpAny_throw ?_))
 refine wpAny_bind (Av (T:="StopIteration") (b:=aF) ⟨_,fP _ V,rfl⟩ af8 ?_);exact wpAny_pure (m _ (((qD ..).extBut.push _).push _))
end
end
section
section
variable{E:aJ→aM→Prop}
theorem nV.at(x:nV w h a z b j c t)(k:∀o,h.get? a=O o→d.get? a=O o):nV w d a z b j c t:=
 aQ x.at_ fun o g r=>⟨⟨o,k _ g,r⟩,x.fits,x.led,x.place⟩
theorem ry(x:iM c h a)(d:b≠c)(e:h.get? b=O o):a.get? b=O o:=(x.2 b d).trans e
theorem Yb(a1:A.handled=aB)(K:dZ w s.heap a [z])
  (a2:∀L d,(∀b o,s.heap.get? b=O o→L.get? b=O o)→a3 [.int z d] {s with heap:=L}):aN (aO pg w) A (collect (.ref a)) a3 E s:=by
 refine sH K.one fun d a4 f t x=> ?_;have p:a < s.heap.objs.size:=by refine xe K.get fun o a5=> ?_;exact fA a5
 refine wpAny_bind (af0 (uJ F.entry_proto_collect ?_));show aN _ A.in1 (Se [] >>=fun a6=>again (.builtin "list.__iadd__" ⟨[a6,.ref a],[]⟩)) _ _ s;refine wpAny_bind (nw ?_);refine wpAny_pure ⟨Ho F.plain_list_iadd _,uJ F.entry_list_iadd ?_⟩;show aN _ A.in1 (ahU (.ref s.heap.objs.size) (.ref a) (.ref s.heap.objs.size)) _ _ _;have q:∀b o,s.heap.get? b=O o→(s.heap.push {cls:= .type "list",data:= .seq ([] :aD aJ).toArray}).get? b=O o:=fun b o e=>eV _ e;have i:=x.at (q a);refine dB i.at_ fun a7 a8 a9 J=>wpAny_bind (wpAny_typeOf (T:="set") ⟨a7,a8,a9.1⟩ ?_);have a':af9 (.ref s.heap.objs.size) (.ref a)=false:=by simp[af9];exact(fE p).symm
 have as:(Value.type "set"==Value.type "list")=false:=by decide
 have au:(Value.type "set"==Value.type "tuple")=false:=by decide
 refine wpAny_ite_split (fun r=>absurd (a'▸r) (by decide)) fun J=>wpAny_bind (X7 (s:={s with heap:=s.heap.push {cls:= .type "list",data:= .seq ([] :aD aJ).toArray}}) i ?_);have u:(s.heap.push {cls:= .type "list",data:= .seq ([] :aD aJ).toArray}).get? s.heap.objs.size=O {cls:= .type "list",data:= .seq ([] :aD aJ).toArray}:=fP _ V;generalize av:s.heap.push {cls:= .type "list",data:= .seq ([] :aD aJ).toArray}=g at q i u ⊢;have j:s.heap.objs.size < g.objs.size:=fA u;dsimp only;generalize aa:g.objs.size=I at*;have v:(g.push {cls:= .type "set_iterator",data:= .fields #[.int ((0:aA):Z) 0,.int ((0:aA):Z) 0,.ref a,.int 1 0,.int (f:Z) 0]}).get? I=O {cls:= .type "set_iterator",data:= .fields #[.int ((0:aA):Z) 0,.int ((0:aA):Z) 0,.ref a,.int 1 0,.int (f:Z) 0]}:=by refine aT aa ?_;exact fP _ V
 have k:∀b o,g.get? b=O o→(g.push {cls:= .type "set_iterator",data:= .fields #[.int ((0:aA):Z) 0,.int ((0:aA):Z) 0,.ref a,.int 1 0,.int (f:Z) 0]}).get? b=O o:=fun b o e=>eV _ e;generalize aw:g.push {cls:= .type "set_iterator",data:= .fields #[.int ((0:aA):Z) 0,.int ((0:aA):Z) 0,.ref a,.int 1 0,.int (f:Z) 0]}=h at v k ⊢;have N:=i.at (k a);have P:=k _ _ u;have l:s.heap.objs.size≠I:=fE j;have Q:s.heap.objs.size≠a:=(fE p).symm;have y:I≠a:=fun e=>by rw[e] at j;exact absurd j (i8.mpr (fB p))
 have ax:({s with heap:=h}:aM).TypeIs (.ref I) "set_iterator":=⟨_,v,rfl⟩;refine wpAny_bind (il ?_);refine dB N.at_ fun ab ae af J=> ?_;have B:({s with heap:=h}:aM).TypeIs (.ref a) "set":=⟨ab,ae,af.1⟩;refine wpAny_bind (wZ B R8.lookup ?_)
 (generalize C:("set.__len__":eA)=R;(fail_if_success (clear C R));wp_delta;refine M (show splitId R=O ("set","__len__") from by subst C;decide+kernel) ?_;subst C)
 refine wpAny_bind (Av (b:=aF) B (by refine M (QS ..) ?_;kernel_rfl) ?_);refine M (aP (by decide)) <|wpAny_ite_split (fun J=> ?_) (fun r=>absurd (by decide+kernel) r)
 refine wpAny_bind (wpAny_typeOf B ?_);refine wpAny_pure ?_
 show aN _ A.in1 (rule "list.extend.makes-room" >>=fun J=>ahV (.ref s.heap.objs.size) >>=fun J=>
  again (.builtin "list.extend.loop" ⟨[.ref s.heap.objs.size,.ref I,.ref s.heap.objs.size],[]⟩)) _ _ _
 refine wpAny_bind (Gh ?_);refine wpAny_bind ?_;show aN _ A.in1 (updateSeq s.heap.objs.size (·.push .none) >>=fun J=>updateSeq s.heap.objs.size (·.pop)) _ _ _;refine wpAny_bind (Sf P V ?_);have S:=sb (mN (·.push Value.none)) P V;refine Sf S V ?_;have T:=sb (mN (·.pop)) S V
 have m:∀b o,b≠s.heap.objs.size→h.get? b=O o→((h.update s.heap.objs.size (mN (·.push Value.none))).update s.heap.objs.size (mN (·.pop))).get? b=O o:=
  fun b o c e=>(GR _ _ (Ne.symm c)).trans ((GR _ _ (Ne.symm c)).trans e)
 generalize(h.update s.heap.objs.size (mN (·.push Value.none))).update s.heap.objs.size (mN (·.pop))=ah at m T ⊢;have U:=N.at (m a · Q.symm);have ai:=m _ _ l.symm v;refine wpAny_pure ⟨Ho af' _,uJ aga ?_⟩;show aN _ A.in1 (xG (.ref I) >>=_) _ _ _;refine wpAny_bind (X' (s:={s with heap:=ah}) U ai y fun D ak al am G=> ?_);have W:=ry G l T;refine wpAny_bind (Sf W V ?_);have X:=sb (mN (·.push (dW z d))) W V;have n:∀b o,b≠s.heap.objs.size→D.get? b=O o→(D.update s.heap.objs.size (mN (·.push (dW z d)))).get? b=O o:=fun b o c e=>(GR _ _ (Ne.symm c)).trans e;generalize D.update s.heap.objs.size (mN (·.push (dW z d)))=H at n X ⊢;have an:nV w H a z d a4 f t:=(U.at fun o e=>ry G y.symm e).at fun o e=>n a o Q.symm e;have ao:vJ H I a ak 1 f:=n _ _ l.symm al;refine wpAny_pure ⟨Ho af' _,uJ aga ?_⟩;show aN _ A.in1 (xG (.ref I) >>=_) _ _ _;refine wpAny_bind (Ya (s:={s with heap:=H}) a1 an ao y am fun ap ext=> ?_);refine wpAny_pure ?_;have aq:=ext _ _ l X;refine wpAny_bind (wpAny_load aq ?_);refine wpAny_pure (a2 ap d fun b o e=> ?_);have c:b < s.heap.objs.size:=fA e;have Y:b≠s.heap.objs.size:=fE c;have a0:b≠I:=fun ar=>by rw[ar] at c;exact absurd c (i8.mpr (fB j))
 exact ext _ _ a0 (n _ _ Y (ry G a0 (m _ _ Y (k _ _ (q _ _ e)))))
theorem Yc(p:A.handled=aB)(r:dZ w s.heap a [z])
  (h:∀i l c,(∀b o,s.heap.get? b=O o→i.get? b=O o)→s.heap.get? l=aB→i.IsList l #[.int z c]→Q (.ref l) {s with heap:=i}):aN (aO pg w) A (call (.builtin "sorted") [.ref a]) Q E s:=by
 refine Sh kind_sorted plain_sorted entry_sorted (args_sorted1 _) <|wpAny_bind (m:=checkCount "sorted" 1 1 _) (wpAny_pure ?_)
 refine wpAny_bind (Yb p r fun d c j=> ?_);refine wpAny_bind (wpAny_newList ?_);have k:(d.push (Si "list" [dW z c].toArray 0)).get? d.objs.size=O (Si "list" [dW z c].toArray 0):=fP _ V;have t:iZ [dW z c] [z] := .cons z c .nil;refine wpAny_bind (il (sC (s:={s with heap:=d.push (Si "list" [dW z c].toArray 0)}) slot_list_sort ⟨_,k,rfl⟩ entry_list_sort (list_sort_tree k t (by show 1 < 64;decide) fun m u v x B=>⟨_,rfl,?_⟩) (args_list_sort _)));obtain rfl:u=[z] :=agb.mp x;obtain⟨m⟩:=m
 obtain⟨f,rfl⟩:∃f,m=[.int z f] :=by cases v with |cons _ _ h=>cases h;exact⟨_,rfl⟩
 obtain⟨e,y⟩:=sortedHeap_at (out:= #[dW z f]) k;refine wpAny_pure ⟨_,rfl,h _ d.objs.size f (fun b o g=> ?_) ?_ ⟨_,y,rfl,e,rfl⟩⟩
 ·have n:b < d.objs.size:=fA (j b o g);refine M (sortedHeap_old (fE n) (by refine M (size_push' ..) ?_;exact sy n)) (M (Heap.get?_push_ne _ _ _ (fE n)) ?_);exact j b o g
 ·cases q:s.heap.get? d.objs.size with
  |none=>rfl|some o=>exact absurd (j _ _ q) (by refine M fR ?_;intro z;cases z)
theorem Yd:Hs pO "iter"=O Builtin.«iter»:=agc (by kernel_rfl)
theorem Ye:Hs pO "next"=O Builtin.«next»:=agc (by kernel_rfl)
theorem Yf(a:aJ):xF "iter" ⟨[a],[]⟩:=by unfold xF;kernel_rfl
theorem Yg(a:aJ):xF "next" ⟨[a],[]⟩:=by unfold xF;kernel_rfl
theorem Yh(h:aN (aO pg w) A.in1 (Bj x) Q E s):aN (aO pg w) A (call (.builtin "iter") [x]) Q E s:=by
 refine Sh (by decide+kernel) (by decide+kernel) Yd (Yf _) <|wpAny_bind (m:=someArgs "iter" 1 2 _) (mT (a:=[x]) (by first |rfl |kernel_rfl!) ?_)
 refine wpAny_bind (wpAny_mono h (fun v a q=> ?_) fun J J e=>e);exact wpAny_pure ⟨_,rfl,q⟩
theorem Yi{a:aW}(c:s.heap.IsListIter a l i)(f:s.heap.IsList l items)(g:items[i]? =O x)
  (h:∀e,e.IsListIter a l (i+1)→iM a s.heap e→Q x {s with heap:=e}):aN (aO pg w) A (call (.builtin "next") [.ref a]) Q E s:=by
 refine dB (id c) fun o d j b=> ?_;(refine uR f ?_;clear f;rintro p k _ q m);refine Sh (by decide+kernel) (by decide+kernel) Ye (Yg _) <|wpAny_bind (m:=someArgs "next" 1 2 _) (mT (a:=[Q0 a]) (by first |rfl |kernel_rfl!) ?_)
 dsimp only;refine wpAny_bind (wZ (name:=aH "__next__") c.typeIs Sj.lookup ?_);refine wpAny_ite_split (fun n=>absurd n (by decide)) (fun J=> ?_)
 refine wpAny_bind (Ht (name:=aH "__next__") c.typeIs Sj
  (sC Sj c.typeIs entry_listiter_next ?_ (args_listiter_next _)))
 refine(wpAny_bind (wpAny_field d b (x:= .ref l) V ?_):aN _ _ (field (.ref a) 0 >>=_) _ _ s);refine(wpAny_bind (wpAny_field d b (x:= .int i 0) V ?_):aN _ _ (field (.ref a) 1 >>=_) _ _ s);refine wpAny_bind (Sk k m ?_);simp only[oH,g];refine wpAny_bind (af6 d b (by simp) (wpAny_pure ⟨x,rfl,wpAny_pure ⟨_,rfl,h _ ?_ (qD ..)⟩⟩))
 exact⟨_,sb _ d (Obj.isFreed_of_fields (agd b _)),(Obj.cls_mapFields ..).trans j,by refine M (agd b ..) ?_;exact rfl⟩
end
end
section
section
variable{K:PK}
theorem Yj{w:aV}{A:bX}{s:aM}{c:gK}{h:bF}{q:Str}{Q:aU→aM→Prop}{E:aJ→aM→Prop}(d:h.CodeRec c.code q)(f:∀b o,h.get? b=O o→s.heap.get? b=O o)(a:∀b,Q b s):aN (aO pg w) A (inMainModule c) Q E s:=by
 (refine BJ d ?_;clear d;rintro j k l m e g i _);unfold inMainModule;refine M e ?_
 split
 ·exact wpAny_pure (a _)
 ·refine wpAny_bind (Sb (f _ _ g) i ?_);generalize Array.getD _ 18 Value.none=z;cases z with
  |str=>exact wpAny_bind (sz (wpAny_pure (a _)))| _=>exact wpAny_pure (a _)
theorem Yk{w:aV}{A:bX}{s:aM}{a:gK}{e:Expr}{k:aA}{c:bG}{h:bF}{q:Str}{Q:aJ→aM→Prop}{E:aJ→aM→Prop}(f:h.CodeRec a.code q)(g:∀b o,h.get? b=O o→s.heap.get? b=O o)
  (i:displayRoad k [e] = .oneByOne) (j:dG [e] a=(aI,eval e a)::dG [] a)
  (l:aN (aO pg w) A (eval e a) (fun v d=>aN (aO pg w) A (R6 s.heap.objs.size v) (fun J m=>Q (.ref s.heap.objs.size) m) E d) E {s with heap:=s.heap.push {cls:= .type "set",dict:=aB,data:= .set #[] 0 (.fresh 0 0 (!fJ w))}}):
  aN (aO pg w) A (eval (.Set [e] k c) a) Q E s:=by
 refine wpAny_bind (jj ?_);refine wpAny_bind (Yj f g fun b=> ?_);refine M j (M i ?_);unfold setDisplay;refine wpAny_bind (XF ?_);refine wpAny_bind (il ?_);refine wpAny_bind (m:=evalAll _) (?_:aN (aO pg w) A ((eval e a >>=fun v=>nu c >>=fun J=>pure v) >>=fun v=>sd [v] (pure []) >>=fun r=>pure (v::r)) _ E _);refine wpAny_bind (wpAny_bind (wpAny_mono l (fun v d n=> ?_) fun J J x=>x));refine wpAny_bind (jj (wpAny_pure ?_));refine wpAny_bind (il (wpAny_pure (wpAny_pure ?_)));refine wpAny_bind (il ?_);refine wpAny_bind <|M (wY ..) ?_
 refine wpAny_bind (wpAny_bind (wpAny_mono n (fun J t p=> ?_) fun J J x=>x));refine wpAny_pure ?_;dsimp only;refine wpAny_pure <|wpAny_pure ?_
 exact wpAny_pure (wpAny_pure p)
theorem ne{E:aJ→aM→Prop}(H:fF c e f)(F:Fm c K m g s)(a:c.env.kindOf x=O .local)(b:m x=O v)(d:(x==("__debug__":Str))=aI)(h:Q v s):
  aN (aO pg w) A (eval (.Name x i) c.env) Q E s:=pG (GI H.kind a F.ns b h) d
theorem vK{E:aJ→aM→Prop}(G:Gd w c f K m aB s z)(H:fF c N f)(B:c.env.kindOf x=O .local)(C:∀(i:aA) y k,f[i]? =O (y,k)→y≠x)
  (h:∀g,Gd w c f K (fun y=>if y=x then O v else m y) aB g z→KB c aB s.heap g.heap→Q () g):aN (aO pg w) A (RB c.env x v) Q E s:=
 uz B G.F.ns (fun P D d=>by
  have F:=G.F;refine h _ ⟨{ns:=D,keep:=fun b o e=>(d.2 b ?_).trans (F.keep b o e),dJ:=F.dJ,low:=F.low,le:=F.le,cU:=fun b o n e=>(d.2 b ?_).trans (F.cU b o n e),new:=F.new,cX:=F.cX,mul:=fun a R S e=>((by contradiction)),gens:=F.gens,os:=F.os,base:=F.base,dP:=F.dP,eX:=F.eX,tabs:=fun t l=>(F.tabs t l).mono (fun J J e=>e) fun o e=>(d.2 _ (F.off F.cX t l)).trans e},?_,G.Mi,fun J J J e=>((by contradiction))⟩ fun b o e I J J=>(d.2 b I).trans e
  ·intro j;rw[j,F.dJ] at e;exact nn e
  ·intro j;rw[j,F.cX] at e;exact nn e
  ·intro i y k p q L;have:=G.L i y k p q L;cases k with
   |false=>exact this
   |true=>
    (refine aQ this ?_;clear this;rintro u e r);exact⟨u,(aP (C i y aF q)).trans e,r⟩) (vd H)
structure Lies(w:aV)(c:Cx)(K:PK)(h:bF)(a:aW)(zs:aD Z):Prop where
 set:dZ w h a zs
 un:K a=aB
 nl:a≠c.env.locals
 hE:c.hE.get? a=aB
theorem Lies.ev(x:Lies w c K s.heap a d)(F:Fm c K m aB s)(b:KB c aB s.heap f)(h:∀b,s.heap.get? b≠aB→b≠c.env.locals→K b=aB→i b=aB):Lies w c i f a d:=by exact xe x.set.get fun o g=>⟨x.set.at fun o e=>b a o e x.nl (by intro z;cases z) (F.off x.hE),h a (by refine M g ?_;intro z;cases z) x.nl x.un,x.nl,x.hE⟩
theorem Lies.i7(x:Lies w c K s.heap a d)(F:Fm c K m aB s)(b:KB c aB s.heap f):Lies w c K f a d:=x.ev F b fun J J J e=>e
theorem Lies.other(x:Lies w c K h a b)(d:iM f h h')(g:a≠f):Lies w c K h' a b:=⟨x.set.at fun o e=>ry d g e,x.un,x.nl,x.hE⟩
theorem Lies.grow(x:Lies w c K h a d)(e:∀b o,h.get? b=O o→h'.get? b=O o):Lies w c K h' a d:=⟨x.set.at (e a),x.un,x.nl,x.hE⟩
theorem Lies.now(x:Lies w c K h a e)(y:dZ w b a d):Lies w c K b a d:=⟨y,x.un,x.nl,x.hE⟩
theorem Lies.wrote(x:Lies w c K h a k)(G:Gd w c d K m aB s f)(g:iM a s.heap s'.heap)(i:s'.os=s.os)(j:s'.gens=s.gens):Gd w c d K m aB s' f:=
 ⟨G.F.wrote x.un x.nl (by intro z;cases z) x.hE (fun b o n e=>ry g n e) i (by refine M j ?_;exact G.F.gens),G.L,G.Mi,G.fl⟩
theorem Gd.grown(G:Gd w c a K m aB s d)(e:∀b o,s.heap.get? b=O o→s'.heap.get? b=O o)(f:s'.os=s.os)(g:s'.gens=s.gens):Gd w c a K m aB s' d:=by have h:=G.F.grow (h':=s'.heap) (tk:=s'.toks) e;exact⟨{h with gens:=by refine M g ?_;exact G.F.gens,os:=f.trans G.F.os},G.L,G.Mi,G.fl⟩
theorem Lies.fresh(F:Fm c K m aB s)(y:dZ w a s.heap.objs.size b):Lies w c K a s.heap.objs.size b:=
 ⟨y,(by
  cases e:K s.heap.objs.size with
  |none=>rfl|some o=>have:=F.keep _ _ e;rw[fR] at this;exact nn this),eG F.BQ,F.Ix⟩
theorem rz(W:∀f∈(["int","set","iter","next","sorted","enumerate","print","ZeroDivisionError"] :aD eA),c.mg (aH f)=aB){E:aJ→aM→Prop}(H:fF c a j)(F:Fm c K m k s)
  (b:f∈(["int","set","iter","next","sorted","enumerate","print","ZeroDivisionError"] :aD eA)) (d:aH f=x) (e:js a x=aF) (g:xg x=O v) (i:x≠"__name__") (h:Q v s):aN (aO pg w) A (eval (.Name x l) c.env) Q E s:=
 qe H e F (d▸W f b) g i h
end
end
section
noncomputable def eR:Tb:=[("w",aF),("base",aF),("more_than",aF),("show",aF),("lo",aF),("first",aF)]
theorem Yl:je (aK 5).scope eR=true:=by decide+kernel
inductive Dc(lb:aD bR):Prop
 |mk (s1 s2 s3 s4 s5 s6 s7:bR) (a1 a2 a3 a4 a5:_) (a6 a7 a8 le a9 Ym Yn:_) (b1 b2 b3 b4 b5:_) (g1 L8 g2:_) (c1 c2 c3 c4 c5:_) (d1 d2 d3 d4 d5:_) (tt e1 e2 lo e4 e5 e6:_) (L9:s1= .Assign [.Name "w" a1] (.Call (.Attribute (.Name "ws" a2) "pop" a3) [] [] a4) a5) (Ma:s2= .If (.BoolOp .Or [.Compare (.Name "w" a6) [.In] [.Name "seen" a7] a8,le] a9) [.Continue Ym] [] Yn) (Mb:s3= .Expr (.Call (.Attribute (.Name "seen" b1) "add" b2) [.Name "w" b3] [] b4) b5) (Yo:s4= .Assign [.Name "lo" g1] L8 g2) (Yp:s5= .Expr (.Call (.Attribute (.Name "need" c1) "add" c2) [.Name "lo" c3] [] c4) c5) (Yq:s6= .Expr (.Call (.Attribute (.Name "ws" d1) "add" d2) [.Name "lo" d3] [] d4) d5) (Yr:s7= .If tt [.Expr (.Call (.Attribute (.Name "ws" e1) "add" e2) [lo] [] e4) e5] [] e6) (h1:lb=[s1,s2,s3,s4,s5,s6,s7]) (h2:bC (aK 5).scope eR (.cmp .LtE (.nm 0) (.nm 2)) le=aF) (h3:bC (aK 5).scope eR (.bin .RShift (.nm 0) (.int 1)) L8=aF) (h4:bC (aK 5).scope eR (.bin .BitAnd (.nm 0) (.int 1)) tt=aF) (h5:bC (aK 5).scope eR (.bin .Add (.nm 4) (.int 1)) lo=aF) (h6:(a3.endLine==a4.line)=aF) (h7:(b2.endLine==b4.line)=aF) (h8:(c2.endLine==c4.line)=aF) (h9:(d2.endLine==d4.line)=aF) (B9:(e2.endLine==e4.line)=aF):Dc lb
inductive Mc(sets:aD bR):Prop
 |mk (s1 s2 s3:bR) (p1 p2 p3 p4 p5 p6 p7 p8 p9 lh ll nd:_) (L9:s1= .Assign [.Name "seen" p1] (.Call (.Name "set" p2) [] [] p3) p4) (Ma:s2= .Assign [.Name "need" p5] (.Call (.Name "set" p6) [] [] p7) p8) (Mb:s3= .Assign [.Name "ws" p9] (.Set [.Name "w" lh] 0 ll) nd) (h:sets=[s1,s2,s3]):Mc sets
inductive Md:Prop
 |mk (s1 s2 s3 s4 s5 s6 s7 s8 s9 vL vM yM:bR) (p1 p2 p3 p4 p5 p6 p7 p8 p9 lh ll nd:_) (lb yK yL:_) (Me yN yO vN yP:_) (x5 yQ:_) (yR yS yT Mf Mg Mh Mj:_) (Mk Ml Mm Mn Mo:_) (t8 x8 Mp:_) (pw Mq Mr Ms Mt:_) (Mv Mw fb Mx:_) (My Mz:_) (L9:s1= .Assign [.Name "seen" p1] (.Call (.Name "set" p2) [] [] p3) p4) (Ma:s2= .Assign [.Name "need" p5] (.Call (.Name "set" p6) [] [] p7) p8) (Mb:s3= .Assign [.Name "ws" p9] (.Set [.Name "w" lh] 0 ll) nd) (Yo:s4= .While (.Name "ws" yK) lb [] yL) (Yp:s5= .Assign [.Name "d" Me] (.Dict [] [] yN) yO) (Yq:s6= .If (.UnaryOp .Not (.Name "need" vN) yP) x5 [] yQ) (Yr:s7= .Assign [.Name "it" yR] (.Call (.Name "iter" yS) [.Call (.Name "sorted" yT) [.Name "need" Mf] [] Mg] [] Mh) Mj) (se8:s8= .Assign [.Name "first" Mk] (.Call (.Name "next" Ml) [.Name "it" Mm] [] Mn) Mo) (se9:s9= .If t8 x8 [] Mp) (ahq:vL= .Assign [.Subscript (.Name "d" Mq) (.Name "first" Mr) Ms] pw Mt) (ahr:vM= .For (.Name "this" Mv) (.Name "it" Mw) fb [] Mx) (ahs:yM= .Return (O (.Name "d" My)) Mz) (h1:(aK 5).body=[s1,s2,s3,s4,s5,s6,s7,s8,s9,vL,vM,yM]) (h2:bC (aK 5).scope eR (.nm 3) t8=aF) (h3:bC (aK 5).scope eR (.bin .Pow (.nm 1) (.nm 5)) pw=aF) (h4:Dc lb):Md
theorem Ys:Md:=by refine⟨_,_,_,_,_,_,_,_,_,_,_,_,_,_,_,_,_,_,_,_,_,_,_,_,_,_,_,_,_,_,_,_,_,_,_,_,_,_,_,_,_,_,_,_,_,_,_,_,_,_,_,_,_,_,_,_,_,_,_,_,rfl,rfl,rfl,rfl,rfl,rfl,rfl,rfl,rfl,rfl,rfl,rfl,rfl,by decide+kernel,by decide+kernel,?_⟩;exact⟨_,_,_,_,_,_,_,_,_,_,_,_,_,_,_,_,_,_,_,_,_,_,_,_,_,_,_,_,_,_,_,_,_,_,_,_,_,_,_,_,_,_,_,_,rfl,rfl,rfl,rfl,rfl,rfl,rfl,rfl,by decide+kernel,by decide+kernel,by decide+kernel,by decide+kernel,by decide,by decide,by decide,by decide,by decide⟩
end
section
noncomputable def jx(x:Z)(lo fi:aG PV):aD (aG PV):=[O (.int x),O (.int 5),O (.int 2048),O (.bool aI),lo,fi]
structure LQ(w:aV)(c:Cx)(a1 a2 a3:aW)(K:PK)(m:Str→aG aJ)(s:aM)(x:Z)(lo fi:aG PV)(kx need ws:aD Z):Prop where
 G:Gd w c eR K m aB s {loc:=jx x lo fi}
 m1:m "seen"=O (.ref a1)
 m2:m "need"=O (.ref a2)
 m3:m "ws"=O (.ref a3)
 l1:Lies w c K s.heap a1 kx
 l2:Lies w c K s.heap a2 need
 l3:Lies w c K s.heap a3 ws
 Dd:a1≠a2
 yU:a1≠a3
 yV:a2≠a3
section
variable{K:PK}{lo fi:aG PV}{kx need ws:aD Z}
theorem LQ.tok(L:LQ w c f g h K m s x lo fi kx need ws)(a:d.heap=s.heap)(i:d.os=s.os)(j:d.gens=s.gens):LQ w c f g h K m d x lo fi kx need ws:=
 {L with G:=L.G.grown (fun b o e=>by refine M a ?_;exact e) i j,l1:=by refine M a ?_;exact L.l1,l2:=by refine M a ?_;exact L.l2,l3:=by refine M a ?_;exact L.l3}
theorem LQ.ev(L:LQ w c f g h K m s x lo fi kx need ws)(k:PK.le K a)(F:Fm c a m aB e)(b:KB c aB s.heap e.heap)(d:∀b,s.heap.get? b≠aB→b≠c.env.locals→K b=aB→a b=aB):LQ w c f g h a m e x lo fi kx need ws:=
 {L with G:=L.G.of k F,l1:=L.l1.ev L.G.F b d,l2:=L.l2.ev L.G.F b d,l3:=L.l3.ev L.G.F b d}
theorem LQ.i7(L:LQ w c h i j K m s x lo fi kx need ws) {d e f} (G:Gd w c eR K a aB g {loc:=jx d e f})(b:KB c aB s.heap g.heap)(k:a "seen"=m "seen")(l:a "need"=m "need")(n:a "ws"=m "ws"):LQ w c h i j K a g d e f kx need ws:=
 ⟨G,k.trans L.m1,l.trans L.m2,n.trans L.m3,L.l1.i7 L.G.F b,L.l2.i7 L.G.F b,L.l3.i7 L.G.F b,L.Dd,L.yU,L.yV⟩
theorem LQ.w3(L:LQ w c e f b K m s x lo fi kx need ws)(d:iM b s.heap a.heap)(g:dZ w a.heap b h)(i:a.os=s.os)(j:a.gens=s.gens):LQ w c e f b K m a x lo fi kx need h:=
 {L with G:=L.l3.wrote L.G d i j,l3:=L.l3.now g,l1:=L.l1.other d L.yU,l2:=L.l2.other d L.yV}
theorem yW{ex:Expr}(Y:Hyp w A c sc tb P n)(G:Gd w c tb K m aB s σ)(hm:m y=O (.ref a))(hk:c.env.kindOf y=O .local)(hd:(y==("__debug__":Str))=aI)
  (L:Lies w c K s.heap a zs) (hz:zs.length < 1000) (Yt:(ap.endLine==cp.line)=aF) (ho:bC sc tb e ex=aF) (he:ev P σ e=O (.int k)) (Yu:k∉zs)
  (k':∀K' kF s',PK.le K K'→Gd w c tb K' m aB s' σ→(∃h1,KB c aB s.heap h1∧iM a h1 s'.heap)→(∀b,s.heap.get? b≠aB→b≠c.env.locals→K b=aB→K' b=aB)→nH kF (k::zs)→Lies w c K' s'.heap a kF→Q .next s'):
  aN (aO pg w) A (jl (.Expr (.Call (.Attribute (.Name y p1) "add" ap) [ex] [] cp) pp) c.env) Q (fun J J=>bO) s:=by
 refine rl Y.H V (sr V ?_ Yt (ne Y.H G.F hk hm hd ⟨"set","set.add",age,PySem.F.slot_set_add,PySem.F.type_set_add,L.set.typeIs,?_,?_⟩))
 ·refine M (i5 ho [] c.env) ?_;rfl
 ·intro b e;cases e;obtain⟨o,es,ep,t,g,hx,_⟩:=L.set;exact⟨o,g,hx.2.1⟩
 ·refine JZ (i5 ho [] c.env) (nU Y ho he G fun K1 v s1 k1 F1 b1 r1 hn=> ?_);(refine xe r1.int_inv ?_;rintro t rfl);have L1:=L.ev G.F b1 hn;refine XZ L1.set (kr (bK hz (by decide))) Yu fun h' kF hs hp hS=> ?_;have G1:=G.of k1 F1;exact k' K1 kF _ k1 (L1.wrote (s':={s1 with heap:=h',toks:=s1.toks+1}) G1 hs V rfl) ⟨_,b1,hs⟩ hn hp (L1.now hS)
end
end
section
section
variable{K:PK}{lo fi:aG PV}{kx need ws:aD Z}
theorem mB(H:fF c a b)(h:a.names.lookup y=O k):c.env.kindOf y=O k:=by refine(M H.scope ?_:c.env.scope.names.lookup y=O k);exact h
theorem vO(h:nH a [k]):a=[k] :=agb.mp h
theorem LQ.Yv(L:LQ w c a j k K m s x lo fi kx need ws)(G:Gd w c eR d m aB e {loc:=jx x lo fi})(g:∃f,KB c aB s.heap f∧iM a f e.heap)(h:∀b,s.heap.get? b≠aB→b≠c.env.locals→K b=aB→d b=aB)(l:Lies w c d e.heap a n):LQ w c a j k d m e x lo fi n need ws:=by
 (refine aQ g ?_;clear g;rintro f b i)
 exact{L with G:=G,l1:=l,l2:=(L.l2.ev L.G.F b h).other i (Ne.symm L.Dd),l3:=(L.l3.ev L.G.F b h).other i (Ne.symm L.yU)}
theorem LQ.Yw(L:LQ w c j a k K m s x lo fi kx need ws)(G:Gd w c eR d m aB e {loc:=jx x lo fi})(g:∃f,KB c aB s.heap f∧iM a f e.heap)(h:∀b,s.heap.get? b≠aB→b≠c.env.locals→K b=aB→d b=aB)(l:Lies w c d e.heap a n):LQ w c j a k d m e x lo fi kx n ws:=by
 (refine aQ g ?_;clear g;rintro f b i)
 exact{L with G:=G,l2:=l,l1:=(L.l1.ev L.G.F b h).other i L.Dd,l3:=(L.l3.ev L.G.F b h).other i (Ne.symm L.yV)}
theorem LQ.MA(L:LQ w c j k a K m s x lo fi kx need ws)(G:Gd w c eR d m aB e {loc:=jx x lo fi})(g:∃f,KB c aB s.heap f∧iM a f e.heap)(h:∀b,s.heap.get? b≠aB→b≠c.env.locals→K b=aB→d b=aB)(l:Lies w c d e.heap a n):LQ w c j k a d m e x lo fi kx need n:=by
 (refine aQ g ?_;clear g;rintro f b i)
 exact{L with G:=G,l3:=l,l1:=(L.l1.ev L.G.F b h).other i L.yU,l2:=(L.l2.ev L.G.F b h).other i L.yV}
inductive De(w:aV)(c:Cx)(a1 a2 a3:aW)(K:PK)(W:Z)(f:j5)(s':aM):Prop
 |mk (e:f= .next) (K':PK) (m':Str→aG aJ) (x':Z) (Yx:aG PV) (k:PK.le K K') (L:LQ w c a1 a2 a3 K' m' s' x' Yx aB [W] [1025] []):De w c a1 a2 a3 K W f s'
inductive Dg(w:aV)(c:Cx)(a1 a2 a3:aW)(K:PK)(W:Z)(left:aA)(s1:aM):Prop
 |mk (K1:PK) (m1:Str→aG aJ) (x1:Z) (bA:aG PV) (Dh Di yX:aD Z) (k:PK.le K K1) (L:LQ w c a1 a2 a3 K1 m1 s1 x1 bA aB Dh Di yX)
   (h:(Dh=[]∧Di=[]∧yX=[W]∧left=4)∨(Dh=[W]∧Di=[1025]∧(∀z∈yX,z≤2048)∧yX.length=left∧left≤2)):Dg w c a1 a2 a3 K W left s1
theorem Yy(B:W=2050∨W=2051)(Y:Hyp w ay c (aK 5).scope eR bJ n)
  (az:Dc b0)
  (b1:LQ w c a d e K m b2 x lo aB [] [] [W]):
  aN (aO pg w) ay (jl (.While (.Name "ws" b3) b0 [] d3) c.env) (De w c a d e K W) (fun J J=>bO) b2:=by
 obtain⟨p,d4,P,aa,Q,d5,ab,d6,d7,d8,d9,d',b4,da,db,dc,dd,de,df,dg,dh,di,ae,af,dj,dk,dm,dn,dp,dq,dr,ds,dt,du,dv,dw,dx,dy,dz,e0,bA,e5,e7,e8,b5,b6,b7,b8,b9,b',ah,rfl,ai,aj,ak,ba,bc,bd,be,bf,bg⟩:=az;have C:c.env.kindOf "ws"=O .local:=mB Y.H (by decide+kernel);have al:c.env.kindOf "seen"=O .local:=mB Y.H (by decide+kernel);have bh:c.env.kindOf "need"=O .local:=mB Y.H (by decide+kernel);refine wpAny_While (tj (Q:=De w c a d e K W) Y.hh (afd (I:=Dg w c a d e K W) (fun left p bi=> ?_) 4 ⟨K,m,x,lo,[],[],[W],.refl K,b1,.inl ⟨rfl,rfl,rfl,rfl⟩⟩));obtain⟨D,R,S,g,q,E,r,T,s,F⟩:=bi
 have U:r.length≤2:=by
  rcases F with⟨_,_,h,_⟩ |⟨_,_,_,bj,bk⟩
  ·refine M h ?_;exact uL 1
  ·exact aL (cI bj) bk
 refine RX (whole:=eval (.Name "ws" b3) c.env) (ne Y.H s.G.F C s.m3 (by decide) (L6 s.l3.set (bZ U (by decide)) ?_)) V;have f:LQ w c a d e D R {p with toks:=p.toks+1+1} S g aB q E r:=s.tok V rfl rfl
 by_cases X:r=[]
 ·subst X;rcases F with⟨_,_,h,_⟩ |⟨rfl,rfl,_,_,_⟩
  ·cases h
  ·exact M (aP (by decide)) <|wpAny_execs_nil ⟨rfl,D,R,S,g,T,f⟩
 ·have bl:(!r.isEmpty)=true:=by cases r with |nil=>exact absurd rfl X |cons=>rfl
  refine M (aS bl) <|wpAny_mono (Q:=fun a0 P=>(a0= .next∨a0= .cont)∧∃m,m < left∧Dg w c a d e K W m P) (E:=fun J J=>bO) ?_ (fun a0 P h=>by
   obtain⟨rfl |rfl,h⟩:=h
   ·exact h
   ·exact h) fun J J x=>x.elim
  refine wpAny_execs_cons <|M b5 ?_
  refine iY (sr V rfl bc (ne Y.H f.G.F C f.m3 (by decide) ⟨"set","set.pop",age,PySem.F.slot_set_pop,PySem.F.type_set_pop,f.l3.set.typeIs,?_,ny V (GO (X4 f.l3.set X (bZ U (by decide)) fun bm z t u bn bo G bp=> ?_))⟩)) V
  ·intro b bq;cases bq;obtain⟨o,e',ea,t,br,bs,_⟩:=f.l3.set;exact⟨o,br,bs.2.1⟩
  have a1:LQ w c a d e D R {p with toks:=p.toks+1+1,heap:=bm,drawn:=bn} S g aB q E u:=f.w3 bo bp V rfl;refine kC (i:=0) (x:="w") a1.G Y.H (by decide+kernel) (.int (t:=t)) fun aa bt ae=> ?_;have a2:LQ w c a d e D _ aa z g aB q E u:=a1.i7 bt ae V rfl rfl;have bv:bC (aK 5).scope eR (.nm 0) (.Name "w" b4)=true:=by rfl
  have am:q.length < 4096:=by rcases F with⟨rfl,_⟩ |⟨rfl,_⟩ <;>simp
  refine wpAny_execs_cons <|M b6 ?_
  refine mO (wpAny_isTrue_BoolOp (wpAny_allTrue_Or_cons (GN (nU (x:= .int z) Y bv V a2.G fun bw ec Q a3 an af bx bz=> ?_) V)));(refine xe bx.int_inv ?_;rintro ed rfl);have H:=a2.ev a3 an af bz;refine ne Y.H an al H.m1 (by decide) (agf (knd:=fG pg w) (no pg w _ _) V (H.l1.set.setOf am) (wpAny_truthy_bool ?_));have I:LQ w c a d e bw _ {Q with toks:=Q.toks+1} z g aB q E u:=H.tok V rfl rfl;clear s f a1 a2 H U am;rcases F with⟨rfl,rfl,rfl,rfl⟩ |⟨rfl,rfl,ao,ee,ef⟩
  ·
   obtain⟨rfl,rfl⟩:z=W∧u=[] :=by have:=vO G.symm;cases this;exact⟨rfl,rfl⟩
   refine wpAny_allTrue_Or_cons (tH Y ai (b:=aI) (by rcases B with rfl |rfl<;>exact rfl) I.G fun ap ab v a4 a5 a6=> ?_)
   have i:=I.ev v a4 a5 a6;refine wpAny_allTrue_Or_nil <|wpAny_execs_nil ?_
   refine wpAny_execs_cons <|M b7 ?_
   refine yW (k:=z) Y i.G i.m1 al (by decide) i.l1 (by decide) bd (e:= .nm 0) (by rfl) V cO fun eg eh ei c1 c2 c3 c4 c5 c6=> ?_;have L:=i.Yv c2 c3 c4 c6;replace L:=(vO c5)▸L
   have c7:ev bJ {loc:=jx z g aB} (.bin .RShift (.nm 0) (.int 1))=O (.int 1025):=by
    rcases B with rfl |rfl
    ·show aZ _ _=_;refine M (bB (by decide)) ?_;rfl
    ·show aZ _ _=_;refine M (bB (by decide)) ?_;rfl
   refine wpAny_execs_cons <|M b8 ?_
   refine iY (nU (x:= .int 1025) Y aj c7 L.G fun c8 ej ek aq c9 c' ca cb=> ?_) (qh aj _ _ _);have ar:=L.ev aq c9 c' cb;refine kC (i:=4) (x:="lo") ar.G Y.H (by decide+kernel) ca fun cc cd ce=> ?_;have N:LQ w c a d e c8 _ cc z (O (.int 1025)) aB [z] [] [] :=ar.i7 cd ce V rfl rfl;refine wpAny_execs_cons <|M b9 ?_
   refine yW (k:=1025) Y N.G N.m2 bh (by decide) N.l2 (by decide) be (e:= .nm 4) (by rfl) V (by decide) fun el en eo cf cg ch ci cj ck=> ?_;have j:=N.Yw cg ch ci ck;replace j:=(vO cj)▸j;refine wpAny_execs_cons <|M b' ?_
   refine yW (k:=1025) Y j.G j.m3 C (by decide) j.l3 (by decide) bf (e:= .nm 4) (by rfl) V (by decide) fun cl ep eq cm cn co cp cq cr=> ?_;have k:=j.MA cn co cp cr;replace k:=(vO cq)▸k;have as:PK.le K cl:=((((((T.trans a3).trans v).trans c1).trans aq).trans cf).trans cm);rcases B with rfl |rfl
   ·refine wpAny_execs_cons <|M ah ?_
    refine mO (tH Y ak (b:=aI) (by refine(M (show qI 2050 1=0 from by decide) ?_:Sl (O (PV.int (qI 2050 1))) truth=_);rfl) k.G fun au cs y a7 a8 a9=> ?_)
    have l:=k.ev y a7 a8 a9;refine wpAny_execs_nil (wpAny_execs_nil ⟨.inl V,1,by decide,au,_,_,_,_,_,_,as.trans y,l,.inr ⟨rfl,rfl,fun a' A=> ?_,rfl,by decide⟩⟩);refine M (fK.mp A) ?_;decide
   ·refine wpAny_execs_cons <|M ah ?_
    refine mO (tH Y ak (b:=aF) (by refine(M (show qI 2051 1=1 from by decide) ?_:Sl (O (PV.int (qI 2051 1))) truth=_);rfl) k.G fun au cs y a7 a8 a9=> ?_)
    have l:=k.ev y a7 a8 a9;refine wpAny_execs_cons (yW (k:=1026) Y l.G l.m3 C (by decide) l.l3 (by decide) bg (e:= .bin .Add (.nm 4) (.int 1)) ba V (by decide) fun ct er es cu cv cw cx av cy=> ?_);have cz:=l.MA cv cw cx cy;refine wpAny_execs_nil (wpAny_execs_nil ⟨.inl V,2,by decide,ct,_,_,_,_,_,_,(as.trans y).trans cu,cz,.inr ⟨rfl,rfl,fun a' A=> ?_,av.length_eq,by decide⟩⟩);have:=av.mem_iff.mp A;simp only[gA,cO,or_false] at this;rcases this with rfl |rfl<;>decide
  ·
   have aw:z≤2048:=ao z (G.mem_iff.mpr (.head _))
   have d0:¬([W].any (· ==z))=true:=by
    have:W≠z:=by rcases B with rfl |rfl<;>exact fC (iD aw (by decide))
    simp[this]
   refine M (aP d0) <|wpAny_allTrue_Or_cons (tH Y ai (b:=aF) (by refine(M (fM aw) ?_:Sl (O (PV.bool (decide (z≤2048)))) truth=_);rfl) I.G fun ap ab v a4 a5 a6=> ?_)
   have i:=I.ev v a4 a5 a6;have ax:=G.length_eq;replace ax:=j3▸ax;refine wpAny_execs_cons (wpAny_Continue ?_);refine⟨.inr V,u.length,by lia,ap,_,_,_,_,_,_,(T.trans a3).trans v,i,.inr ⟨rfl,rfl,fun a' A=>ao a' (G.mem_iff.mpr (.tail _ A)),rfl,by lia⟩⟩
end
end
section
section
variable{K:PK}
theorem Dj{id:eA}{E:aJ→aM→Prop}(a:dG [e] b=(aI,eval e b)::dG [] b)
  (h:aN (aO pg w) A (eval e b) (fun v c=>aN (aO pg w) A (call (.builtin id) [v]) Q E c) E s):
  aN (aO pg w) A (GV d (.builtin id) [] (jD d (dG [e] b)) []) Q E s:=
 ny (by refine M a ?_;rfl) (iI (by refine M a ?_;intro h;cases h) (by refine M a ?_;rfl) (iG (wpAny_mono h (fun v g f=>jE f) fun J J x=>x) a))
structure Lo(c:Cx)(K:PK)(h:bF)(a:aW)(o:Obj):Prop where
 get:h.get? a=O o
 un:K a=aB
 nl:a≠c.env.locals
 hE:c.hE.get? a=aB
theorem Lo.ev(x:Lo c K s.heap a o)(F:Fm c K m aB s)(b:KB c aB s.heap d)(e:∀b,s.heap.get? b≠aB→b≠c.env.locals→K b=aB→f b=aB):Lo c f d a o:=
 ⟨b a o x.get x.nl (by intro z;cases z) (F.off x.hE),e a (by refine M x.get ?_;intro z;cases z) x.nl x.un,x.nl,x.hE⟩
theorem Lo.i7(x:Lo c K s.heap a o)(F:Fm c K m aB s)(b:KB c aB s.heap d):Lo c K d a o:=x.ev F b fun J J J e=>e
theorem Lo.other(x:Lo c K h a o)(b:iM d h h')(e:a≠d):Lo c K h' a o:=⟨ry b e x.get,x.un,x.nl,x.hE⟩
theorem Lo.grow(x:Lo c K h a o)(d:∀b o,h.get? b=O o→h'.get? b=O o):Lo c K h' a o:=⟨d _ _ x.get,x.un,x.nl,x.hE⟩
theorem Lo.wrote(x:Lo c K j a o)(G:Gd w c d K m aB s f)(g:iM a s.heap s'.heap)(h:s'.os=s.os)(i:s'.gens=s.gens):Gd w c d K m aB s' f:=
 ⟨G.F.wrote x.un x.nl (by intro z;cases z) x.hE (fun b o n e=>ry g n e) h (by refine M i ?_;exact G.F.gens),G.L,G.Mi,G.fl⟩
theorem Lo.fresh(F:Fm c K m aB s)(b:s.heap.get? a=aB)(g:h.get? a=O o):Lo c K h a o:=by
 refine⟨g,?_,?_,?_⟩
 ·cases e:K a with
  |none=>rfl|some f=>have:=F.keep _ _ e;replace this:=b▸this;exact nn this
 ·rintro rfl;refine eQ F.ns fun f i j e J=> ?_;replace e:=b▸e;cases e
 ·cases e:c.hE.get? a with
  |none=>rfl|some f=>(refine xe (F.there e) ?_;rintro k d);replace d:=b▸d;exact nn d
theorem vP(h:∀p∈eR,p.1≠y):∀(i:aA) z k,eR[i]? =O (z,k)→z≠y:=fun i z k e=>h (z,k) (kt e)
theorem Yz(Y:Hyp w a1 c (aK 5).scope eR bJ n)(a2:c.h₀.CodeRec c.env.code au)
  (I:∀a3∈(["int","set","iter","next","sorted","enumerate","print","ZeroDivisionError"] :aD eA),c.mg (aH a3)=aB)
  (G:Gd w c eR K a4 aB s {loc:=jx W aB aB})
  (a5:Mc a6)
 (a7:∀k q v L a8 N,PK.le K L→LQ w c k q v L a8 N W aB aB [] [] [W]→a9 .next N):
  aN (aO pg w) a1 (eH a6 c.env) a9 (fun J J=>bO) s:=by
 obtain⟨av,h,d,aw,ax,ay,az,b0,b1,b2,b3,b4,a',b5,b6,aa,ab,ae,rfl⟩:=a5;have af:c.env.kindOf "ws"=O .local:=mB Y.H (by decide+kernel);have ah:c.env.kindOf "seen"=O .local:=mB Y.H (by decide+kernel);have ai:c.env.kindOf "need"=O .local:=mB Y.H (by decide+kernel);have P:js (aK 5).scope "set"=true:=by decide+kernel
 refine wpAny_execs_cons <|M aa ?_
 refine iY (wpAny_Call_NameR (rz I (f:="set") (v:= .type "set") Y.H G.F (by decide) V P (by decide+kernel) (by decide+kernel) (agg (LU ?_)))) V;have Q:∀b o,s.heap.get? b=O o→(s.heap.push {cls:= .type "set",dict:=aB,data:= .set #[] 0 (.fresh 0 0 (!fJ w))}).get? b=O o:=fun b o e=>eV _ e;have a:Lies w c K _ s.heap.objs.size [] :=Lies.fresh G.F (dZ.fresh (w:=w));generalize s.heap.push {cls:= .type "set",dict:=aB,data:= .set #[] 0 (.fresh 0 0 (!fJ w))}=R at Q a ⊢;have S:Gd w c eR K a4 aB {s with heap:=R} {loc:=jx W aB aB}:=G.grown Q V rfl;generalize s.heap.objs.size=k at a ⊢;refine vK S Y.H ah (vP (by decide)) fun h x aj=> ?_;have a:=Lies.i7 (s:={s with heap:=R}) a S.F aj;refine wpAny_execs_cons <|M ab ?_
 refine iY (wpAny_Call_NameR (rz I (f:="set") (v:= .type "set") Y.H x.F (by decide) V P (by decide+kernel) (by decide+kernel) (agg (LU ?_)))) V;have y:∀b o,h.heap.get? b=O o→(h.heap.push {cls:= .type "set",dict:=aB,data:= .set #[] 0 (.fresh 0 0 (!fJ w))}).get? b=O o:=fun b o e=>eV _ e;have f:Lies w c K _ h.heap.objs.size [] :=Lies.fresh x.F (dZ.fresh (w:=w));have T:k≠h.heap.objs.size:=fun e=>by refine xe a.set.get fun o g=> ?_;rw[e,fR] at g;exact nn g
 generalize h.heap.push {cls:= .type "set",dict:=aB,data:= .set #[] 0 (.fresh 0 0 (!fJ w))}=z at y f ⊢;have A:Gd w c eR K _ aB {h with heap:=z} {loc:=jx W aB aB}:=x.grown y V rfl;have a:=a.grow y;generalize h.heap.objs.size=q at f T ⊢;refine vK A Y.H ai (vP (by decide)) fun d l U=> ?_;have a:=Lies.i7 (s:={h with heap:=z}) a A.F U;have f:=Lies.i7 (s:={h with heap:=z}) f A.F U;have ak:bC (aK 5).scope eR (.nm 0) (.Name "w" a')=true:=by rfl
 have al:∀b o,c.h₀.get? b=O o→d.heap.get? b=O o:=fun b o e=>l.F.keep _ _ (l.F.le _ _ (l.F.low _ _ e));refine wpAny_execs_cons <|M ae ?_
 refine iY (Yk a2 al V rfl ?_) V;have r:∀b o,d.heap.get? b=O o→(d.heap.push {cls:= .type "set",dict:=aB,data:= .set #[] 0 (.fresh 0 0 (!fJ w))}).get? b=O o:=fun b o e=>eV _ e;have j:Lies w c K _ d.heap.objs.size [] :=Lies.fresh l.F (dZ.fresh (w:=w));have B:k≠d.heap.objs.size:=fun e=>by refine xe a.set.get fun o g=> ?_;rw[e,fR] at g;exact nn g
 have C:q≠d.heap.objs.size:=fun e=>by refine xe f.set.get fun o g=> ?_;rw[e,fR] at g;exact nn g
 generalize d.heap.push {cls:= .type "set",dict:=aB,data:= .set #[] 0 (.fresh 0 0 (!fJ w))}=t at r j ⊢;have m:Gd w c eR K _ aB {d with heap:=t} {loc:=jx W aB aB}:=l.grown r V rfl;have a:=a.grow r;have f:=f.grow r;generalize d.heap.objs.size=v at j B C ⊢;refine nU (x:= .int W) Y ak V m fun X b9 i a0 am D an E=> ?_;(refine xe an.int_inv ?_;rintro b' rfl);have a:=Lies.ev (s:={d with heap:=t}) a m.F D E;have f:=Lies.ev (s:={d with heap:=t}) f m.F D E;have j:=Lies.ev (s:={d with heap:=t}) j m.F D E;have ao:=m.of a0 am;refine L3 j.set (by decide) cO fun p ba F ap aq=> ?_;obtain rfl:=vO ap;have u:Gd w c eR X _ aB {i with heap:=p,toks:=i.toks+1} {loc:=jx W aB aB}:=j.wrote (s':={i with heap:=p,toks:=i.toks+1}) ao F V rfl;have a:=a.other F B;have f:=f.other F C;have j:=j.now aq;refine vK u Y.H af (vP (by decide)) fun ar as H=>wpAny_execs_nil (a7 k q v X _ ar a0 ⟨as,?_,?_,?_,?_,?_,?_,T,B,C⟩)
 ·rfl
 ·rfl
 ·rfl
 ·exact Lies.i7 (s:={i with heap:=p,toks:=i.toks+1}) a u.F H
 ·exact Lies.i7 (s:={i with heap:=p,toks:=i.toks+1}) f u.F H
 ·exact Lies.i7 (s:={i with heap:=p,toks:=i.toks+1}) j u.F H
end
end
section
section
variable{K:PK}
inductive rA(w:aV)(K:PK)(d:aW):Prop
 |mk (o t:_) (h1:K d=O o) (h2:(d==j1)=aI) (h3:∀h:bF,h.get? d=O o→h.DictOf (fG pg w) d [(1025,.int (5^1025) t)]):rA w K d
inductive MB(w:aV)(c:Cx)(K:PK)(f:j5)(s':aM):Prop
 |mk (K':PK) (m':Str→aG aJ) (d:aW) (k:PK.le K K') (e:f= .ret (.ref d)) (F:Fm c K' m' aB s') (p:rA w K' d):MB w c K f s'
theorem YA(hW:W=2050∨W=2051)(Y:Hyp w A c (aK 5).scope eR bJ n)(C3:c.h₀.CodeRec c.env.code q)
  (yY:∀f∈(["int","set","iter","next","sorted","enumerate","print","ZeroDivisionError"] :aD eA),c.mg (aH f)=aB)
  (G:Gd w c eR K m aB s {loc:=jx W aB aB}):
  aN (aO pg w) A (eH (aK 5).body c.env) (MB w c K) (fun J J=>bO) s:=by
 obtain⟨s1,s2,s3,s4,s5,s6,s7,s8,s9,vL,vM,yM,p1,p2,p3,p4,p5,p6,p7,p8,p9,lh,ll,nd,lb,yK,yL,Me,yN,yO,vN,yP,x5,yQ,yR,yS,yT,Mf,Mg,Mh,Mj,Mk,Ml,Mm,Mn,Mo,t8,x8,Mp,pw,Mq,Mr,Ms,Mt,Mv,Mw,fb,Mx,My,Mz,g1,g2,g3,g4,g5,g6,g7,g8,g9,YC,YD,YF,hb,YH,MC,YI⟩:=Ys;refine M hb ?_;have MD:c.env.kindOf "need"=O .local:=mB Y.H (by decide+kernel);have vB:c.env.kindOf "d"=O .local:=mB Y.H (by decide+kernel);have Dk:c.env.kindOf "it"=O .local:=mB Y.H (by decide+kernel);refine tB [_,_,_] _ (Yz Y C3 yY G ⟨s1,s2,s3,p1,p2,p3,p4,p5,p6,p7,p8,p9,lh,ll,nd,g1,g2,g3,rfl⟩ fun a1 a2 a3 K1 m1 s1 k1 L1=> ?_);refine wpAny_execs_cons <|M g4 ?_
 refine wpAny_mono (Yy hW Y YI L1) (fun f s2 h2=> ?_) fun J J x=>x;obtain⟨rfl,K2,m2,x2,tJ,k2,L2⟩:=h2;refine wpAny_execs_cons <|M g5 ?_
 refine iY (wpAny_Dict_empty ?_) V;have Dl:∀b o,s2.heap.get? b=O o→(s2.heap.push {cls:= .type "dict",data:= .dict #[]}).get? b=O o:=fun b o e=>eV _ e;have Dm:Lo c K2 (s2.heap.push {cls:= .type "dict",data:= .dict #[]}) s2.heap.objs.size {cls:= .type "dict",data:= .dict #[]}:=Lo.fresh L2.G.F fR (fP _ V)
 have YJ:({cls:= .type "dict",data:= .dict #[]}:Obj).IsDictOf (fG pg w) [] :=by refine aQ (Hv.mp (Gi (knd:=fG pg w) s2.heap)) fun o ho hd=> ?_;rw[fP _ V] at ho;exact(cB ho)▸hd
 have ME:(s2.heap.objs.size==j1)=false:=by obtain⟨o,ho⟩:=L2.G.F.heap.pZ;exact beq_eq_false_iff_ne.mpr (eG (fA ho))
 generalize s2.heap.push {cls:= .type "dict",data:= .dict #[]}=H3 at Dl Dm ⊢;have G3:Gd w c eR K2 m2 aB {s2 with heap:=H3} {loc:=jx x2 tJ aB}:=L2.G.grown Dl V rfl;have l2:=L2.l2.grow Dl;have MF:=L2.m2;have YK:s2.heap.objs.size≠a2:=fun e=>by obtain⟨o,g⟩:=L2.l2.set.get;(replace g:=Eq.symm e▸g;replace g:=fR▸g);exact nn g
 generalize s2.heap.objs.size=d at Dm ME YK ⊢;refine vK G3 Y.H vB (vP (by decide)) fun s4 G4 b4=> ?_;have l2:=Lies.i7 (s:={s2 with heap:=H3}) l2 G3.F b4;have MG:=Lo.i7 (s:={s2 with heap:=H3}) Dm G3.F b4;refine wpAny_execs_cons <|M g6 ?_
 refine mO (wpAny_isTrue_Not (RX (whole:=eval (.Name "need" vN) c.env) (ne (v:= .ref a2) Y.H G4.F MD MF (by decide) (L6 l2.set (by decide) ?_)) V));refine wpAny_execs_nil ?_;have G5:Gd w c eR K2 _ aB {s4 with toks:=s4.toks+1+1} {loc:=jx x2 tJ aB}:=G4.grown (fun J J e=>e) V rfl;refine wpAny_execs_cons <|M g7 ?_
 refine iY (wpAny_Call_NameR (rz yY (f:="iter") (v:= .builtin "iter") Y.H G5.F (by decide) V (by decide+kernel) (by decide+kernel) (by decide+kernel) (Dj V (wpAny_Call_NameR (rz yY (f:="sorted") (v:= .builtin "sorted") Y.H G5.F (by decide) V (by decide+kernel) (by decide+kernel) (by decide+kernel) (Dj V (ne (v:= .ref a2) Y.H G5.F MD MF (by decide) (Yc Y.hh l2.set fun h6 l tz MH yZ Dn=>Yh (RI Dn ?_))))))))) V;(refine uR Dn ?_;clear Dn;rintro ol rB MI nl MJ);have YL:Lo c K2 h6 l ol:=Lo.fresh G5.F yZ rB;have G6:Gd w c eR K2 _ aB {s4 with heap:=h6,toks:=s4.toks+1+1} {loc:=jx x2 tJ aB}:=G5.grown MH V rfl;have MK:=MG.grow MH;have dl:d≠l:=fun e=>by have:=MG.get;replace this:=e▸this;replace this:=(show s4.heap.get? l=aB from yZ)▸this;exact nn this
 have y5:∀b o,h6.get? b=O o→(h6.push {cls:= .type "list_iterator",data:= .fields #[.ref l,.int 0 0]}).get? b=O o:=fun b o e=>eV _ e;have Do:Lo c K2 (h6.push {cls:= .type "list_iterator",data:= .fields #[.ref l,.int 0 0]}) h6.objs.size {cls:= .type "list_iterator",data:= .fields #[.ref l,.int 0 0]}:=Lo.fresh (s:={s4 with heap:=h6,toks:=s4.toks+1+1}) G6.F fR (fP _ V);have dI:d≠h6.objs.size:=fun e=>by have:=MK.get;(replace this:=e▸this;replace this:=fR▸this);exact nn this
 have lI:l≠h6.objs.size:=fun e=>by(replace rB:=e▸rB;replace rB:=fR▸rB);cases rB
 generalize h6.push {cls:= .type "list_iterator",data:= .fields #[.ref l,.int 0 0]}=H7 at y5 Do ⊢;have G7:Gd w c eR K2 _ aB {s4 with heap:=H7,toks:=s4.toks+1+1} {loc:=jx x2 tJ aB}:=Gd.grown (s:={s4 with heap:=h6,toks:=s4.toks+1+1}) (s':={s4 with heap:=H7,toks:=s4.toks+1+1}) G6 y5 V rfl;have YM:=YL.grow y5;have YN:=MK.grow y5;generalize h6.objs.size=I at Do dI lI ⊢;refine vK (s:={s4 with heap:=H7,toks:=s4.toks+1+1}) G7 Y.H Dk (vP (by decide)) fun s8 G8 b8=> ?_;have ML:=Lo.i7 (s:={s4 with heap:=H7,toks:=s4.toks+1+1}) YM G7.F b8;have YO:=Lo.i7 (s:={s4 with heap:=H7,toks:=s4.toks+1+1}) YN G7.F b8;have vQ:=Lo.i7 (s:={s4 with heap:=H7,toks:=s4.toks+1+1}) Do G7.F b8;refine wpAny_execs_cons <|M g8 ?_
 refine iY (wpAny_Call_NameR (rz yY (f:="next") (v:= .builtin "next") Y.H G8.F (by decide) V (by decide+kernel) (by decide+kernel) (by decide+kernel) (Dj V (ne (v:= .ref I) Y.H G8.F Dk (by rfl) (by decide) (Yi (l:=l) (i:=0) (items:= #[.int 1025 tz]) ⟨_,vQ.get,rfl,rfl⟩ ⟨ol,ML.get,MI,nl,MJ⟩ V fun h9 MM Dp=> ?_))))) V;have G9:Gd w c eR K2 _ aB {s8 with heap:=h9} {loc:=jx x2 tJ aB}:=vQ.wrote (s':={s8 with heap:=h9}) G8 Dp V rfl;have YQ:=ML.other Dp lI;have YR:=YO.other Dp dI;(refine dB MM ?_;clear MM;rintro YS YT MN MO);have YU:Lo c K2 h9 I YS:=⟨YT,vQ.un,vQ.nl,vQ.hE⟩;refine kC (s:={s8 with heap:=h9}) (i:=5) (x:="first") G9 Y.H (by decide+kernel) (.int (i:=1025) (t:=tz)) fun vL rC y6=> ?_;have YV:=Lo.i7 (s:={s8 with heap:=h9}) YQ G9.F y6;have YX:=Lo.i7 (s:={s8 with heap:=h9}) YR G9.F y6;have YY:=Lo.i7 (s:={s8 with heap:=h9}) YU G9.F y6;refine wpAny_execs_cons <|M g9 ?_
 refine mO (tH (b:=aI) Y YH V rC fun MP vM vR Dq Dr Ds=> ?_);have YZ:=Lo.ev YV rC.F Dr Ds;have Y1:=Lo.ev YX rC.F Dr Ds;have Y2:=Lo.ev YY rC.F Dr Ds;have vS:=rC.of vR Dq;refine wpAny_execs_nil ?_
 have Y3:ev bJ (Sg.put {loc:=jx x2 tJ aB} 5 (.int 1025)) (.bin .Pow (.nm 1) (.nm 5))=O (.int (5^1025)):=by show aZ _ _=_;refine M (bB (by decide)) ?_;rfl
 refine wpAny_execs_cons <|M YC ?_
 refine RD (nU Y MC Y3 vS fun K12 jg yM MQ Y4 Dt Y5 Du=> ?_) (qh MC _ _ _);have Y6:=Lo.ev YZ vS.F Dt Du;have Y7:=Lo.ev Y1 vS.F Dt Du;have Y8:=Lo.ev Y2 vS.F Dt Du;have tK:=vS.of MQ Y4;obtain⟨Y9,rfl⟩:=Y5.int_inv;refine ne (v:= .ref d) Y.H tK.F vB (by rfl) (by decide) <|nU (e:= .nm 5) (x:= .int 1025) Y (by rfl) V tK fun Dv v13 nW Dw Za Dx Zb Dy=> ?_
 have Zc:=Lo.ev Y6 tK.F Dx Dy;have vT:=Lo.ev Y7 tK.F Dx Dy;have Zd:=Lo.ev Y8 tK.F Dx Dy;have MR:=tK.of Dw Za;obtain⟨t13,rfl⟩:=Zb.int_inv;refine wpAny_setItem_pairs (knd:=fG pg w) (no pg w _ _) (Hv.mpr ⟨_,vT.get,YJ⟩) (fun tL Ze Dz=> ?_) (by decide);have vU:Gd w c eR Dv _ aB {nW with heap:=tL,toks:=nW.toks+1} _:=vT.wrote (s':={nW with heap:=tL,toks:=nW.toks+1}) MR Dz V rfl;have Zf:=Zc.other Dz (Ne.symm dl);have vV:=Zd.other Dz (Ne.symm dI);refine aQ (Hv.mp Ze) fun od Zg Zh=> ?_;have y7:Lo c Dv tL d od:=⟨Zg,vT.un,vT.nl,vT.hE⟩;refine wpAny_execs_cons <|M YD ?_
 refine wpAny_mono (Q:=fun f s'=>f= .next∧Sd I tL s'.heap∧s'.os=nW.os∧s'.gens=nW.gens) (AV (ne (v:= .ref I) Y.H vU.F Dk (by rfl) (by decide) (wpAny_pyIter_listiter (i:=1) (l:=l) ⟨_,vV.get,MN,MO⟩ (tj (Q:=fun f s'=>f= .next∧Sd I tL s'.heap∧s'.os=nW.os∧s'.gens=nW.gens) Y.hh (afa (fun J s1=>s1={nW with heap:=tL,toks:=nW.toks+1}) (fun nn s1 rD=> ?_) 0 rfl (fun J=>rfl)))))) (fun f MS MT=> ?_) fun J J x=>x
 ·subst rD;exact wpAny_pyNext_list_end (l:=l) (i:=1) (items:= #[.int 1025 tz]) Y.hh ⟨_,vV.get,MN,MO⟩ ⟨ol,Zf.get,MI,nl,MJ⟩ V fun h16 ext=>wpAny_execs_nil ⟨rfl,ext,rfl,rfl⟩
 (refine dX MT ?_;clear MT;rintro rfl ext Zi Zj);have MU:Gd w c eR Dv _ aB MS _:=⟨vU.F.wrote vV.un vV.nl (by intro z;cases z) vV.hE (fun b o n e=>ext b o n e) Zi (by refine M Zj ?_;exact MR.F.gens),vU.L,vU.Mi,vU.fl⟩;have Zk:MS.heap.get? d=O od:=ext d od dI y7.get;refine wpAny_execs_cons <|M YF ?_
 refine nA (ne (v:= .ref d) Y.H MU.F vB (by rfl) (by decide) ?_);obtain⟨kk,FF⟩:=MU.F.known y7.un y7.nl (by intro z;cases z) y7.hE Zk;refine⟨_,_,d,((((k1.trans k2).trans vR).trans MQ).trans Dw).trans kk,rfl,FF,od,Y9,PK.jr,ME,fun h e=> ?_⟩;exact Hv.mpr ⟨od,e,Zh⟩
end
end
section
section
theorem Zl{E:aJ→aM→Prop}{a:aJ}(d:s.heap.get? D=O e)(f:e.data= .seq #[.bool aI] 0)
  (h:Q [("w",b),("base",c),("more_than",a),("show",.bool aI)] s):
  aN (aO pg w) A (uF {mP (aK 5).name (aK 5).params (aK 5).body (aK 5).scope g i j with defaults:= .ref D} ⟨[b,c,a],[]⟩) Q E s:=by
 refine(wpAny_bind (Sk d f ?_):aN _ _ (seqItems? (.ref D) >>=_) _ _ _);exact mT (a:=[(("w":Str),b),(("base":Str),c),(("more_than":Str),a),(("show":Str),.bool aI)]) (by rfl) h
inductive MV(w:aV)(K:PK)(s:aM)(v:aJ)(s':aM):Prop
 |mk (K':PK) (d:aW) (e:v= .ref d) (k:PK.le K K') (h1:∀b o,K' b=O o→s'.heap.get? b=O o) (h2:∀b o,K' b=O o→K b=O o∨s.heap.get? b=aB) (h3:Still w s s') (h4:rA w K' d):MV w K s v s'
theorem Zm(W:Wd w mg mb h₀)(B:N=2050∨N=2051):∃a o C,mg "compute_powers"=O (.ref a)∧h₀.get? a=O o∧o.data= .func C∧
  ∀(A:bX) (K:PK) (s:aM) (l m n:hA),A.handled=aB→A.depth+3 < 900→A.units+30 < 9000→Kn mg mb h₀ [] K s→
   aN (aO pg w) A (call (.ref a) [.int N l,.int 5 m,.int 2048 n]) (MV w K s) (fun J J=>bO) s:=by
 refine H' W.WK fun a o a0 D a1 a2 E q r t I=>⟨a,o,_,E,q,r,fun A K s l m n L u P j=> ?_⟩;have p:∀b o,h₀.get? b=O o→s.heap.get? b=O o:=fun b o e=>j.keep _ _ (j.low b o e);have Q:=j.base.keeps p
 let env:=envOf (aK 5).name (aK 5).scope s.heap.objs.size a D
 let c:Cx:={mg:=mg,mb:=mb,h₀:=h₀,pY:=s.os,fH:=K,hE:=s.heap,env:=env,T:=[],ir:=s.gens}
 refine xu (codeAny_call_function (body:=(aK 5).body) (pP (bK u (by decide)):A.depth < 1000) (p _ _ q) r (by rfl) (by rfl) V (t.keeps p) (Zl (p _ _ I) V ?_));refine Sm (by decide+kernel:∀x∈(aK 5).scope.names,x.2≠ .cell) ?_ (fun v R y=>⟨Q.nolimit.fresh _ y,?_⟩) (by rfl)
 ·intro x z;simp only[gA,cO,or_false] at z;rcases z with rfl |rfl |rfl |rfl
  ·exact(by decide+kernel:(aK 5).scope.names.lookup ("w":Str)=O .local)
  ·exact(by decide+kernel:(aK 5).scope.names.lookup ("base":Str)=O .local)
  ·exact(by decide+kernel:(aK 5).scope.names.lookup ("more_than":Str)=O .local)
  ·exact(by decide+kernel:(aK 5).scope.names.lookup ("show":Str)=O .local)
 refine(codeAny_func ?_:pJ _ _ (.func (aK 5).body env) _ _);have F:Fr s.heap s.heap.objs.size v (fun x=>[(("w":Str),dW N l),("base",.int 5 m),("more_than",.int 2048 n),("show",.bool aI)].reverse.lookup x):=⟨R,fun b o e=>y.extBut b o (fE (fA e)) (eV _ e),cA _⟩;have H:fF c (aK 5).scope eR:=⟨rfl,Yl,rfl,rfl⟩;have Y:Hyp w (A.deeper env) c (aK 5).scope eR bJ 0:=⟨L,(ku (ku u):A.depth+1+0 < 900),(kr (bK (mj (by decide) _) (jB P)):A.units+3+10*0 < 9000),H,W.nc (T:=[]) fV (fun J J J h=>by cases h) c V rfl rfl rfl⟩
 have G:Gd w c eR K (fun x=>[(("w":Str),dW N l),("base",.int 5 m),("more_than",.int 2048 n),("show",.bool aI)].reverse.lookup x) aB {s with heap:=v,toks:=s.toks+4} {loc:=jx N aB aB}:=by
  refine⟨⟨F.ns,fun b o e=>F.keep _ _ (j.keep b o e),?_,j.low,.refl K,fun b o J=>F.keep b o,fun b o e=> .inl e,fR,fun J J J e=>(by cases e),.refl j.gens,rfl,j.base,(fun J h=>(cO h).elim),(fun J h=>(cO h).elim),(fun J h=>(cO h).elim)⟩,?_,.none,fun J J J e=>(by cases e)⟩
  ·show K s.heap.objs.size=aB;cases e:K s.heap.objs.size with
   |none=>rfl|some o=>have:=j.keep _ _ e;rw[fR] at this;exact nn this
  ·intro i x a3 a4 g f
   match i,g,f with
   |0,g,f=>cases g;cases f;exact⟨_,rfl,.int⟩|1,g,f=>cases g;cases f;exact⟨_,rfl,.int⟩|2,g,f=>cases g;cases f;exact⟨_,rfl,.int⟩|3,g,f=>cases g;cases f;exact⟨_,rfl,.bool⟩|4,g,f=>cases f|5,g,f=>cases f|i+6,g,f=>cases f
 have S:=YA B Y (c:=c) (q:=(aK 5).name) t W.CX G;refine wpAny_mono S (fun a5 a6 o=> ?_) fun J J x=>x.elim;obtain⟨U,a7,d,X,rfl,k,f⟩:=o;exact⟨U,d,rfl,X,k.keep,k.new,⟨fun b o e=>k.cU b o (fun J h=>(cO h).elim) e,k.os,k.gens⟩,f⟩
end
end
section
open PySem.NumText PySem.Calls
theorem maxDigits{E:aJ→aM→Prop}(a:s.heap.NoDigits)(h:Q 4300 s):aN d A Builtin.intMaxStrDigits Q E s:=by(refine aQ a ?_;clear a;rintro e b c);refine wpAny_bind (RN b ?_);exact M c <|wpAny_pure h
theorem Zn{E:aJ→aM→Prop}(f:s.heap.NoDigits)
  (a:(int_private% "readNumeral") (if(b.takeWhile (· !=0)).length≤640 then 0 else 4300) 10 (b.takeWhile (· !=0))=(int_private% "Numeral.value") n)
  (e:((b.takeWhile (· !=0)).length==b.length)=aF) (h:Q (.int n s.toks) {s with toks:=s.toks+1}):
  aN i A ((int_private% "intFromText") v b 10) Q E s:=by
 by_cases c:(b.takeWhile (· !=0)).length≤640
 ·replace a:=(aS c)▸a;exact KIN.wp_text c a e h
 ·replace a:=(aP c)▸a;obtain⟨j,g,d,tk,os⟩:=s
  repeat (any_goals (first
   |assumption
   |(with_reducible refine agh (eP c) ?_)
   |(with_reducible refine agi (fM e) ?_)
   |(with_reducible refine maxDigits f ?_)
   |wp_step))
  all_goals (try refine M a ?_)
  all_goals (try dsimp only)
  repeat (any_goals (first
   |assumption
   |(with_reducible refine agh (eP c) ?_)
   |(with_reducible refine agi (fM e) ?_)
   |(with_reducible refine maxDigits f ?_)
   |wp_step))
noncomputable def Zo(n:Z):PySem.Spec:=fun J R s=>s.heap.NoDigits∧R (.ok (.ret (.int n s.toks))) {s with toks:=s.toks+1}
structure Hid(p:Prop):Prop where
 out:p
theorem meets_text(e:x.length≤eF)(c:agj x=O n):Meets (Builtin.«int.__new__» ⟨[.type "int",.str x u],[]⟩) (Zo n):=by
 intro o w A R s f;(refine xa f ?_;clear f;rintro i h)
 have j:(int_private% "readNumeral") (numLimitOf x) 10 (numSeenOf x)=(int_private% "Numeral.value") n∧((numSeenOf x).length==(numTextOf x).length)=true:=by
  rcases readAny x e with⟨m,a,k,l⟩ |⟨a,_⟩
  ·rw[c] at a;injection a with a
   subst a;exact⟨l,k⟩
  ·rw[c] at a;cases a
 have p:=F.conv_sub_int;have q:=F.madeHere_int;have r:=KIN.str_int;have t:=KIN.str_idx;have v:=KIN.str_trunc;have y:typeOf (.str x u)=pure (.type "str"):=rfl;have b:=Hid.mk (And.intro i (And.intro j h));clear j c e i h;obtain⟨z,g,d,tk,os⟩:=s
 repeat (any_goals (first
  |assumption
  |((with_reducible show aN _ _ ((int_private% "intFromText") _ _ _) _ _ _);refine Zn b.out.1 b.out.2.1.1 b.out.2.1.2 ?_)
  |wp_step))
 all_goals first |exact b.out.2.2 |skip
theorem Zp{E:aJ→aM→Prop}(a:s.heap.NoDigits)(b:agj x=O n)(c:x.length≤eF)
  (h:Q (.int n s.toks) {s with toks:=s.toks+1}):aN (aO d w) A (call (.type "int") [.str x t]) Q E s:=
 call_int_1 (meets_text c b) ⟨a,rfl,h⟩
end
section
open PySem.NumText
theorem DA(a b:aD aA):digitsVal (a++b)=digitsVal a*10^b.length+digitsVal b:=by
 have key:∀(l:aD aA) (x:aA),l.foldl (fun d c=>d*10+(c - 48)) x=x*10^l.length+digitsVal l:=by
  intro l
  induction l with
  |nil=>intro x;simp[digitsVal]
  |cons c r ih=>
   intro x;unfold digitsVal;exact M AH (M AH (M (ih ..) (M (ih (0*10+(c - 48))) (M j3 (M (RT ..) (M (agk ..) (M (agl ..) (M (mI ..) (M (Nat.mul_assoc ..) (M (Bg 10 ..) (M (ik ..) V)))))))))))
 unfold digitsVal;exact M List.foldl_append <|key b _
theorem MW:∀(l:aD aA),AllDigits l→digitsVal l < 10^l.length
 |[],_=>by decide
 |c::r,h=>by have e:c::r=[c] ++r:=rfl;refine M e (M (DA ..) (M bH (M (Sn ..) ?_)));have d:=MW r h.tail;have a:=h.head;have b:digitsVal [c]≤9:=(GK (qV a.2) (ji _):0*10+(c - 48)≤9);have:digitsVal [c] *10^r.length≤9*10^r.length:=So _ b;simp only[j3,xd,mI,Nat.pow_one];omega
noncomputable def part(l:aD aA)(a b:aA):aD Nat:=(l.drop a).take (b - a)
theorem DB(h:b≤l.length):(part l a b).length=b - a:=by unfold part;refine M ow (M iP ?_);exact l8 (qK h a)
theorem MX(h:c∈part l a b):c∈l:=Bb (Bc h)
theorem Zq(c:a≤m)(d:m≤b):part l a b=part l a m++part l m b:=by unfold part;exact aT (Hl d c) (M (gI ..) (M QZ (M Hm (M (qz c) V))))
theorem Zr(l:aD aA):part l 0 l.length=l:=by unfold part;simp
theorem MY{k:aA}(h:k≤n):jC n (k:Z)=k:=by unfold jC;refine M (aP (ja.mpr (cW k))) (M (Sp (cT.mpr h)) (M (agm (cW k)) ?_));rfl
theorem Zs(x:Str){a b:aA}(d:a≤b)(c:b≤x.length):(gO x (O (a:Z)) (O (b:Z))).cps.toList=part x.cps.toList a b:=by unfold gO part;simp only[uM,MY c,MY (aL d c)]
noncomputable def l4:Tb:=[(aH "a",aF),(aH "b",aF),(aH "mid",aF),(aH "s",aI),(aH "DIGLIM",aI)]
noncomputable def bS:B:= .cons (.ite (.cmp .LtE (.bin .Sub (.nm 1) (.nm 0)) (.nm 4)) (.cons .bad .nil) .nil)
 (.cons (.asg 2 (.bin .RShift (.bin .Add (.bin .Add (.nm 0) (.nm 1)) (.int 1)) (.int 1))) .nil)
theorem MZ:je (bP 6).scope l4=true:=by decide+kernel
inductive M1:Prop
 |mk (l p1 p2 p3 p4 p5 p6 p7 p8 p9 lh ll nd a1 a3 q1 q2 rr:_) (h1:(bP 6).body=l++[.Return (O (.BinOp (.Call (.Name "inner" p1) a1 [] p2) .Add (.BinOp (.BinOp (.Call (.Name "inner" p3) a3 [] p4) .Mult (.Subscript (.Name "w5pow" p5) (.BinOp q1 .Sub q2 p6) p7) p8) .LShift rr p9) lh)) ll]) (h2:dY (bP 6).scope l4 bS l=aF) (h3:eL (bP 6).scope l4 (.cons (.nm 2) (.cons (.nm 1) .nil)) a1=aF) (h4:eL (bP 6).scope l4 (.cons (.nm 0) (.cons (.nm 2) .nil)) a3=aF) (h5:bC (bP 6).scope l4 (.bin .Sub (.nm 1) (.nm 2)) (.BinOp q1 .Sub q2 p6)=aF) (h6:bC (bP 6).scope l4 (.bin .Sub (.nm 1) (.nm 2)) rr=aF) (h7:a1≠[]) (h8:a3≠[]) (h9:nd=ll) (B9:(∃t sl i1 i2 i3 i4 Zt,l=[.If t [.Return (O (.Call (.Name "int" i1) [sl] [] i2)) i3] [] i4,Zt]∧bC (bP 6).scope l4 (.cmp .LtE (.bin .Sub (.nm 1) (.nm 0)) (.nm 4)) t=aF∧bC (bP 6).scope l4 (.dE (.nm 3) (.nm 0) (.nm 1)) sl=aF)):M1
theorem M2:M1:=
 ⟨(bP 6).body.take 2,_,_,_,_,_,_,_,_,_,_,_,_,_,_,_,_,_,rfl,by decide+kernel,by decide+kernel,by decide+kernel,by decide+kernel,by decide+kernel,(by intro e;cases e),(by intro e;cases e),rfl,
  _,_,_,_,_,_,_,rfl,by decide+kernel,by decide+kernel⟩
end
section
open PySem.NumText
structure rE(w:aV)(K:PK)(f:aW)(x:Str)(fo:Obj)(kg:aD (Str×aW))(cv tD doc pm:aJ)(ci cs cd cw d:aW):Prop where
 fn:K f=O fo
 data:fo.data= .func (oF (bP 6).name "_str_to_int_inner.<locals>.inner" (bP 6).params (bP 6).body (bP 6).scope kg .none .none doc pm aB cv tD)
 code:mY K cv "_str_to_int_inner.<locals>.inner"
 li:kg.lookup ("inner":Str)=O ci
 ls:kg.lookup ("s":Str)=O cs
 ld:kg.lookup ("DIGLIM":Str)=O cd
 lw:kg.lookup ("w5pow":Str)=O cw
 ki:∃o,K ci=O o∧o.data= .cell (O (.ref f))
 ks:∃o v,K cs=O o∧o.data= .cell (O v)∧RV w K aB v (.str x)
 kd:∃o v,K cd=O o∧o.data= .cell (O v)∧RV w K aB v (.int 2048)
 kw:∃o,K cw=O o∧o.data= .cell (O (.ref d))
 pw:rA w K d
theorem rA.mono{K:PK}(x:rA w K d)(h:PK.le K c):rA w c d:=let⟨o,t,a,b,r⟩:=x;⟨o,t,h _ _ a,b,r⟩
theorem rE.mono{K:PK} {f x c e g i j k l m n p d} (I:rE w K f x c e g i j k l m n p d)(h:PK.le K q):rE w q f x c e g i j k l m n p d:=
 ⟨h _ _ I.fn,I.data,I.code.mono h,I.li,I.ls,I.ld,I.lw,(aQ I.ki fun o a b=>⟨o,h _ _ a,b⟩),(cS I.ks fun o v a b r=>⟨o,v,h _ _ a,b,r.mono h⟩),(cS I.kd fun o v a b r=>⟨o,v,h _ _ a,b,r.mono h⟩),(aQ I.kw fun o a b=>⟨o,h _ _ a,b⟩),I.pw.mono h⟩
theorem Zu:∀x∈(bP 6).scope.names,x.2≠ .cell:=by decide
theorem Zv {a b c d e}:
  Hk s (oF (bP 6).name f (bP 6).params (bP 6).body (bP 6).scope a .none .none b c aB d e) ⟨[v,u],[]⟩ ((["a","b"] :aD Str).zip [v,u]):= .of_eq V
theorem M3{E:aJ→aM→Prop}(a:dG [e] b=(aI,eval e b)::dG [] b)
  (h:aN (aO pg w) A (eval e b) (fun v c=>aN (aO pg w) A (call (.type T) [v]) Q E c) E s):
  aN (aO pg w) A (GV d (.type T) [] (jD d (dG [e] b)) []) Q E s:=
 pI (by refine M a ?_;rfl) (iI (by refine M a ?_;intro h;cases h) (by refine M a ?_;rfl) (iG (wpAny_mono h (fun v g f=>jE f) fun J J x=>x) a))
section
theorem M4(W:Wd w k mb h₀)(a b:aA)(A:bX)(K:PK)(s:aM)(t u:hA)(n:A.handled=aB)(l:A.depth+1 < 900)(o:A.units+10 < 9000)(N:Kn k mb h₀ [] K s)(I:rE w K f x a9 p a' aa ab ae af q r ah ai)
  (h:∀(c:Cx) (m:Str→aG aJ) (j:aM),c.fH=K→c.hE=s.heap→c.T=[]→(c.pY=s.os∧c.ir=s.gens)→c.mg=k→c.mb=mb→c.h₀=h₀→c.env.cells=p→Hyp w (A.deeper c.env) c (bP 6).scope l4 bJ 0→
   Gd w c l4 K m aB j {loc:=[O (.int a),O (.int b),aB,O (.str x),O (.int 2048)]}→aN (aO pg w) (A.deeper c.env) (eH (bP 6).body c.env) (fun y z=>Q (match y with | .ret v=>v | _=> .none) z) (fun J J=>bO) j):
  aN (aO pg w) A (call (.ref f) [.int (a:Z) t,.int (b:Z) u]) Q (fun J J=>bO) s:=by
 obtain⟨B,C,D,E,F,G,H,L⟩:=I.code
 refine cS I.ks fun os P R S T=>cS I.kd fun U X Y a0 a1=>C1 (hE:=s.heap) (tb:=l4) (k:=2) (xs:=[.int a,.int b]) (rest:=[aB,O (.str x),O (.int 2048)]) (ps:=["a","b"]) (ku l) (N.keep _ _ I.fn) I.data ⟨B,C,D,E,F,N.keep _ _ G,H,L⟩ V Zv V rfl rfl Zu MZ (by decide) V
  N.low N.keep N.base N.gens N.dP N.tabs (fun J J a2=>a2) (fun a3 a4=>(N.tabs a3 a4).some) (.cons .int (.cons .int .nil)) V ?_ ?_ (fun c m j g a5 aj ak=> ?_)
 ·intro i a6 a7 d e
  match i,d,e with
  |1,d,e=>
   cases d;cases e;exact⟨q,os,P,I.ls,R,S,T⟩
  |2,d,e=>
   cases d;cases e;exact⟨r,U,X,I.ld,Y,a0,a1⟩
  |0,d,e=>cases d|i+3,d,e=>cases e
 ·intro i a6 a7 d e
  match i,d,e with
  |0,d,e=>cases e|1,d,e=>cases d|2,d,e=>cases d|i+3,d,e=>cases e
 ·have a8:Hyp w (A.deeper c.env) c (bP 6).scope l4 bJ 0:=by refine⟨n,by show A.depth+1+0 < 900;exact l,by show A.units+3+10*0 < 9000;exact kr (bK (mj (by decide) _) (jB o)),?_,W.nc fV (fun J J J h=>by cases h) c (M g V) (M g V) (M g V) V⟩;exact M g <|⟨rfl,MZ,rfl,rfl⟩
  exact h c m j (M g V) (M g V) (M g V) ⟨by exact M g V,by exact M g V⟩ (M g V) (M g V) (M g V) (by refine M g ?_;rfl) a8 a5
theorem Zw{K:PK}(F:Fm c K m a s):s.heap.NoDigits:=F.heap.nodigits
theorem Zx(W:Wd w z mb h₀)(B:AllDigits x.cps.toList)(a b:aA)(C:a < b)(i:b≤x.length)(j:b - a≤2048)(D:x.length≤3000)(A:bX)(K:PK)(s:aM)(t u:hA)(E:A.handled=aB)(F:A.depth+1 < 900)(H:A.units+10 < 9000)(N:Kn z mb h₀ [] K s)(I:rE w K f x a9 a' aa ab ae af ah ai aj ak al):
  aN (aO pg w) A (call (.ref f) [.int (a:Z) t,.int (b:Z) u]) (fun v k=>(∃L,v= .int (digitsVal (part x.cps.toList a b):aA) L)∧Still w s k) (fun J J=>bO) s:=by
 refine M4 W a b A K s t u E F H N I fun c m k am P Q l R an ao ap Y G=> ?_;obtain⟨aq,ar,as,au,av,aw,ax,ay,az,b0,b1,b2,b3,b4,b5,b6,b7,b8,S,_,_,_,_,_,_,_,_,T,U,b9,b',ba,bc,bd,rfl,X,n⟩:=M2;refine M S ?_
 have a0:ev bJ {loc:=[O (.int a),O (.int b),aB,O (.str x),O (.int 2048)]} (.cmp .LtE (.bin .Sub (.nm 1) (.nm 0)) (.nm 4))=O (.bool aF):=by have:decide (((b:Z) - a)≤2048)=true:=fM (by omega);exact aR (fun b=>O (PV.bool b)) this
 refine wpAny_execs_cons (mO ((((cY Y _ T X).2 aF (by refine M a0 ?_;rfl)).then G.F G.L G.Mi fun be bf a1 p bg=> ?_)));have a2:x.length≤eF:=by refine M cN ?_;exact aL D (by decide)
 have a3:ev bJ {loc:=[O (.int a),O (.int b),aB,O (.str x),O (.int 2048)]} (.dE (.nm 3) (.nm 0) (.nm 1))=O (.str (gO x (O (a:Z)) (O (b:Z)))):=
  (M (bB a2) V:(aZ _ _)=_)
 have a4:=G.of a1 p;refine wpAny_execs_cons (nA (wpAny_Call_NameR (rz (by refine M R ?_;exact W.CX) (f:="int") (v:= .type "int") Y.H p (by decide) V (by decide+kernel) (by decide+kernel) (by decide+kernel) (M3 (i5 n [] c.env) (((cY Y _ U n).ev a3 a4).then fun a5 bh q bi r bj a6=> ?_)))));(refine xe a6.str_inv ?_;rintro bk rfl);have d:=Zs x (fB C) i;have g:=DB (l:=x.cps.toList) (a:=a) (b:=b) (by simpa [sm] using i)
 have y:(gO x (O (a:Z)) (O (b:Z))).length=b - a:=by
  have:(gO x (O (a:Z)) (O (b:Z))).cps.toList.length=b - a:=by refine M d ?_;exact g
  simpa [sm] using this
 refine Zp (Zw r) (intText_digits (by refine M d ?_;exact fun c a7=>B c (MX a7)) (by refine M d ?_;intro e;rw[e] at g;simp at g;omega) (by refine M y ?_;exact aL j (by decide))) (by refine M y (M cN ?_);exact aL j (by decide)) ?_;have h:Fm c a5 m aB {q with toks:=q.toks+1}:=r.tok;refine⟨⟨_,by exact M d V⟩,fun b o e=>h.cU b o (by refine M Q ?_;exact fun J a8=>(cO a8).elim) (by refine M P ?_;exact e),h.os.trans l.1,o6 l.2 h.gens⟩
end
end
section
open PySem.NumText
section
theorem DC{n:aA}(h:n < 2^k):((n:aA):Z) < 2^k:=(agn 2 k)▸dN.mpr h
theorem Zy{N:aA}:N=2050∧a=1025∨N=2051∧a=1026→(a < N∧a≤1026∧N≤3000)∧N - a=1025∧N - a≤2048∧0 < a∧a - 0≤2048∧(((0:aA):Z)+N+1) / 2=a∧decide (((N:Z) - ((0:aA):Z))≤2048)=aI∧(N:Z) - a=1025
 | .inl h | .inr h=>by refine M h.1 (M h.2 ?_);decide+kernel
theorem Zz(k:aA):((5^k:aA):Z)=5^k:=rfl
theorem ZA(k:aA):((10^k:aA):Z)=5^k*2^k:=by refine aT Int.mul_pow ?_;exact rfl
theorem M5:(10:aA) ^1026 < 2^3500:=by decide+kernel
theorem M6:(5:aA) ^1025 < 2^2500:=by decide+kernel
theorem ZB(W:Wd w ai mb h₀)(P:AllDigits x.cps.toList)(N d:aA)(R:N=2050∧d=1025∨N=2051∧d=1026)(y:x.length=N)(A:bX)(K:PK)(s:aM)(t u:hA)(S:A.handled=aB)(T:A.depth+2 < 900)(U:A.units+20 < 9000)(aj:Kn ai mb h₀ [] K s)(I:rE w K ak x cu cv cw cx cy cz d0 d3 d4 d5 al):
  aN (aO pg w) A (call (.ref ak) [.int ((0:aA):Z) t,.int (N:Z) u]) (fun v B=>(∃j,v= .int (digitsVal x.cps.toList:aA) j)∧Still w s B) (fun J J=>bO) s:=by
 (refine BF (Zy R) ?_;rintro⟨r,am,an⟩ ao ap aq ar d6 as au);clear R;refine M4 W 0 N A K s t u S (ku T) (bZ (eK (by decide) _) U) aj I fun c av B d7 aw X a0 ax ay az a1 Y b0=> ?_;obtain⟨a2,b1,b2,b3,b4,d8,d9,d',da,db,dc,dd,de,b5,b6,df,dg,dh,b7,b8,b9,b',ba,bc,bd,be,_,_⟩:=M2;refine M b7 <|tB a2 _ ?_
 have hex:bE bJ bS {loc:=[O (.int (0:aA)),O (.int N),aB,O (.str x),O (.int 2048)]}=O (.next,{loc:=[O (.int (0:aA)),O (.int N),O (.int d),O (.str x),O (.int 2048)]}):=by
  unfold bS
  have bf:dC .RShift (.int (((0:aA):Z)+N+1)) (.int 1)=O (.int (d:Z)):=by
   show aZ _ _=_;refine M (bB (by decide)) ?_
   congr 2
  rw[eM (σ':={loc:=[O (.int (0:aA)),O (.int N),aB,O (.str x),O (.int 2048)]})]
  ·refine M (eM (gR (x:= .int (d:Z)) (by exact bf) V)) ?_;rfl
  ·refine M (nR (x:= .bool aI) (by exact aR (fun b=>O (PV.bool b)) as) V) ?_;rfl
 refine wpAny_mono (nQ bS a2 c _ _ _ Y b8 hex K av aB B b0) (fun di bg o=> ?_) fun J J x=>x;obtain⟨C,D,a3,bh,dj,dk,rfl,k⟩:=o
 have bi:a3=none:=by
  cases a3 with
  |none=>rfl|some p=>exact absurd k.Mi (by intro z;cases z)
 subst bi;have a4:=I.mono bh;have E:x.cps.toList.length=N:=by simpa [sm] using y
 have one:∀(a b:aA),a < b→b≤N→b - a≤2048→∀(p a5:bG) (args:aD Expr) (F:Es),eL (bP 6).scope l4 F args=aF→args≠[]→
   gC bJ {loc:=[O (.int (0:aA)),O (.int N),O (.int d),O (.str x),O (.int 2048)]} F=O [.int (a:Z),.int (b:Z)]→
   ∀(g:PK) (l:aM) (Q:aJ→aM→Prop),PK.le C g→Fm c g D aB l→(∀e h j,PK.le g e→Fm c e D aB h→Q (.int (digitsVal (part x.cps.toList a b):aA) j) h)→
   aN (aO pg w) (A.deeper c.env) (eval (.Call (.Name "inner" p) args [] a5) c.env) Q (fun J J=>bO) l:=by
  intro a b bk bl bm p a5 args F bn bo bp g l Q f G bq;have m:=a4.mono f;refine aQ m.ki fun dq br bs=>vC Y G (k.L.mono f) .none (by decide) (.inl (mB Y.H (by decide+kernel))) (by refine M a1 ?_;exact m.li) br bs m.fn m.data bn bo bp fun e dr h i n ds bt=> ?_;(refine cS bt.two ?_;rintro v dt rfl bu bv);(refine xe bu.int_inv ?_;rintro bw rfl);(refine xe bv.int_inv ?_;rintro a6 rfl);have a7:=n.kn;rw[X,ax,ay,az] at a7;refine wpAny_mono (Zx W P a b bk (y▸bl) bm (y▸an) (A.deeper c.env) e h bw a6 S T (bZ (eK (n:=13) (m:=20) (by decide) _) U) a7 (m.mono i)) (fun v q ⟨⟨j,bx⟩,st⟩=> ?_) fun J J x=>x;subst bx;exact bq e q j i (n.yI st).1
 refine wpAny_execs_cons (nA (wpAny_BinOp (one d N r (cA _) ap b1 b2 b5 _ b9 bd V C bg _ (.refl C) k.F fun g l a6 f G=> ?_)));refine wpAny_BinOp (wpAny_BinOp (one 0 d aq (fB r) ar b3 b4 b6 _ b' be V g l _ f G fun e h du i n=> ?_));have H:=a4.mono (f.trans i);refine aQ H.kw fun bz c0 c1=>wpAny_Subscript_BinOp_late (pG (GJ Y.H.kind (mB Y.H (by decide+kernel)) (by refine M a1 ?_;exact H.lw) ⟨bz,n.keep _ _ c0,c1⟩ ?_ (by decide)) (by decide)) (fun J J=>rfl)
 have a8:ev bJ {loc:=[O (.int (0:aA)),O (.int N),O (.int d),O (.str x),O (.int 2048)]} (.bin .Sub (.nm 1) (.nm 2))=O (.int 1025):=
  aR (fun z=>O (PV.int z)) au
 refine((cY Y _ _ ba).1 _ a8 e h n (k.L.mono (f.trans i)) .none).then fun c2 dw q a9 a' dx c3=> ?_
 (refine xe c3.int_inv ?_;rintro dy rfl);obtain⟨dz,aa,c4,e0,c5⟩:=H.pw.mono a9;have ab:q.heap.DictOf (fG pg w) al [(1025,.int (5^1025) aa)] :=c5 _ (a'.keep _ _ c4);refine⟨"dict","dict.__getitem__",slot_dict_getitem.lookup,ab.typeIs,aeX (knd:=fG pg w) (no pg w _ _) ab.mapOf (v:= .int (5^1025) aa) (by rfl) ?_⟩;have c6:Fm c c2 D aB {q with toks:=q.toks+1}:=a'.tok
 have ae:digitsVal (part x.cps.toList 0 d) < 10^1026:=by refine bK (MW _ (fun c c7=>P c (MX c7))) (xC (by decide) ?_);refine M (DB (E▸fB r)) ?_;exact am
 have c8:gZ ((digitsVal (part x.cps.toList 0 d):aA):Z)≤3500:=intBits_le (cW _) (DC (iF ae M5))
 have c9:gZ ((5:Z) ^1025)≤2500:=intBits_le (cJ (jm (by decide))) (by refine aT (Zz 1025) ?_;exact DC M6)
 have c':dC .Mult (.int ((digitsVal (part x.cps.toList 0 d):aA):Z)) (.int (5^1025))=O (.int ((digitsVal (part x.cps.toList 0 d):aA)*5^1025)):=
  bB (IntMulOk.of_bits (aL c8 (by decide)) (aL c9 (by decide)))
 refine(sO c' c6 .int .int Y.hh).then fun ca e7 cb cc cd e8 ce=>((cY Y _ _ bc).1 _ a8 ca cb cd (k.L.mono ((f.trans i).trans (a9.trans cc))) .none).then fun e9 e' ea cf cg eb ch=> ?_
 have ci:gZ (((digitsVal (part x.cps.toList 0 d):aA):Z)*5^1025)≤6000:=by refine intBits_le (oG (cW _) (cJ (jm (by decide)))) ?_;have cj:=iF ae M5;have af:digitsVal (part x.cps.toList 0 d)*5^1025 < 2^3500*2^2500:=Nat.mul_lt_mul'' cj M6;rw[←Sn] at af;exact DC af
 have ck:dC .LShift (.int (((digitsVal (part x.cps.toList 0 d):aA):Z)*5^1025)) (.int 1025)=O (.int (((digitsVal (part x.cps.toList 0 d):aA):Z)*5^1025*2^1025)):=by show aZ _ _=_;refine M (bB ⟨by decide,cL (xo (cT.mpr ci) 1025) (by decide)⟩) ?_;rfl
 refine(sO ck cg (ce.mono cf) ch Y.hh).then fun ec ed ee ef cl eg cm=> ?_
 (refine xe cm.int_inv ?_;rintro eh rfl);refine(sO iJ cl .int .int Y.hh).then fun ei ej ek el L en cn=> ?_
 (refine xe cn.int_inv ?_;rintro co rfl);refine⟨⟨co,?_⟩,⟨fun b o cp=>L.cU b o (by refine M X ?_;exact fun J cq=>(cO cq).elim) (by refine M aw ?_;exact cp),L.os.trans a0.1,o6 a0.2 L.gens⟩⟩
 have cr:digitsVal x.cps.toList=digitsVal (part x.cps.toList 0 d)*10^1025+digitsVal (part x.cps.toList d N):=by
  have cs:part x.cps.toList 0 N=x.cps.toList:=by refine aT E ?_;exact Zr _
  have ct:=Zq (l:=x.cps.toList) (a:=0) (m:=d) (b:=N) (ji _) (fB r);have ah:=DA (part x.cps.toList 0 d) (part x.cps.toList d N);rw[←ct,cs,DB (cI E.symm),ao] at ah;exact ah
 refine M cr ?_
 congr 1
 rw[ago,Bd,ZA 1025,lJ,lR]
end
end
section
open PySem.NumText
noncomputable def tM:Tb:=[(aH "s",aI),(aH "DIGLIM",aI)]
theorem ZC:je (aK 6).scope tM=true:=by decide+kernel
inductive M7:Prop
 |mk (p1 p2 p3 p4 p5 p6 p7 a1 p8 p9 lh a2 ll nd:_) (h1:(aK 6).body=[.Assign [.Name "DIGLIM" p1] (.Constant (.int 2048) p2 p3) p4,.FunctionDef (bP 6).name (bP 6).params (bP 6).body [] aB [] (bP 6).scope aB (bP 6).name p5,.Assign [.Name "w5pow" p6] (.Call (.Name "compute_powers" p7) a1 [] p8) p9,.Return (O (.Call (.Name "inner" lh) a2 [] ll)) nd]) (h2:eL (aK 6).scope tM (.cons (.bi "len" (.cons (.nm 0) .nil)) (.cons (.int 5) (.cons (.nm 1) .nil))) a1=aF) (h3:eL (aK 6).scope tM (.cons (.int 0) (.cons (.bi "len" (.cons (.nm 0) .nil)) .nil)) a2=aF) (h4:a1≠[]) (h5:a2≠[]) (h6:(pg.main.body[6]?).bind o5=O (p5,("_str_to_int_inner.<locals>.inner":Str))):M7
theorem ZD:M7:=
 ⟨_,_,_,_,_,_,_,_,_,_,_,_,_,_,rfl,by decide+kernel,by decide+kernel,(by intro e;cases e),(by intro e;cases e),by decide+kernel⟩
theorem ZE(h:a.cells=[(("w5pow":Str),b),(("inner":Str),c),(("DIGLIM":Str),d),(("s":Str),e)]):oE (bP 6).scope a=pure [(("w5pow":Str),b),(("s":Str),e),(("inner":Str),c),(("DIGLIM":Str),d)] :=by obtain⟨g,lo,i,j,q,f,k,l,m⟩:=a;simp only at h;subst h;rfl
section
variable{K:PK}
theorem ZF(Y:Hyp w A c l f P n){args:aD Expr}(o:eL l f g args=aF)(p:gC P q g=O h)(G:Gd w c f K m aB s q)
  (k:∀a e d,PK.le K a→Fm c a m aB d→KB c aB s.heap d.heap→hJ w a aB e h→(∀b,s.heap.get? b≠aB→b≠c.env.locals→K b=aB→a b=aB)→Q e d):aN (aO pg w) A (sn (jD y (dG args c.env))) Q (fun J J=>bO) s:=
 ((va (Y.here K aB s.heap) g args o h p).then G.here.F G.L G.Mi fun a e d r i j t=>k a e d r (G.F.back i j) j t fun J u v x=>tF i u v x)
theorem call_top(Y:Hyp w A c i j P n){args:aD Expr}(q:js i x=aF)(r:c.mg x=O (.ref f))(t:c.h₀.get? f=O l)(u:l.data= .func fd)
  (h:eL i j v args=aF) (y:args≠[]) (z:gC P σ v=O xs) (G:Gd w c j K m aB s σ)
  (k:∀a e d,PK.le K a→Fm c a m aB d→KB c aB s.heap d.heap→hJ w a aB e xs→(∀b,s.heap.get? b≠aB→b≠c.env.locals→K b=aB→a b=aB)→aN (aO pg w) A (call (.ref f) e) Q (fun J J=>bO) d):
  aN (aO pg w) A (eval (.Call (.Name x p) args [] F) c.env) Q (fun J J=>bO) s:=by
 refine wpAny_Call_NameR (sV Y.H q G.F r ?_);exact AP (o:=l) (fd:=fd) (iI (qg h y) (mw h) (ZF Y h z G fun a e d B g C D E=>⟨⟨g.keep _ _ (g.le _ _ (g.low _ _ t)),u⟩,k a e d B g C D E⟩))
end
section
theorem ZG(W:Wd w a1 mb h₀)(ax:jY a1 h₀ T)(x:Str)(cc:AllDigits x.cps.toList)(N:aA)(a2:N=2050∨N=2051)(a3:x.length=N):Ct w a1 mb h₀ T 5 "_str_to_int_inner" [.str x] (.int (digitsVal x.cps.toList:aA)):=by
 obtain⟨t,ay,ad,o,fe,a4,ff,cd,az,b0,ce,cf,b1⟩:=ax.at_ 6 (by decide);refine⟨ad,o,_,cd,az,b0,?_⟩;obtain⟨fg,fh,fi,fj,cg,fk,fl,b2,fm,fn,fo,b3,fp,fq,ch,ci,cj,ck,cl,cm⟩:=ZD;rw[cm] at b1
 obtain⟨cn,b4⟩:t.pos=cg∧t.q="_str_to_int_inner.<locals>.inner":=by have:=cB b1;exact⟨(aR RU this).symm,(aR RW this).symm⟩
 intro A K s a5 a6 R a7 b5 b6 co cp cq cr cs
 obtain⟨v,rfl,b7⟩:∃v,a5=[v]∧RV w K aB v (.str x):=by cases cs with |cons a8 a9=>cases a9;exact⟨_,rfl,a8⟩
 have b8:∀b o,h₀.get? b=O o→s.heap.get? b=O o:=fun b o e=>b6 _ _ (b5 b o e);refine cell_call (binds:=[("s",v)]) (pP (bK R (by decide))) (b8 _ _ az) b0 (ce.keeps b8) V ?_ (by decide) V rfl rfl b5 b6 co cp cq cr (fun c D b9 d b' a' S fr=> ?_)
 ·intro ct ba;simp only[gA,cO,or_false] at ba;subst ba;exact .inr ⟨rfl,rfl⟩
 have a':xy _ [(("w5pow":Str),s.heap.objs.size+1+1+1+1),(("inner":Str),s.heap.objs.size+1+1+1),(("DIGLIM":Str),s.heap.objs.size+1+1),(("s":Str),s.heap.objs.size+1)] b9:=a';obtain⟨a,j,f,g,E,bc,bd,h,rfl,cu,cv,cw,cx,be,bf,bg,cy,bh,cz,d0⟩:C5 _ _ _ _ aB aB aB (O v) (qS (s.heap.objs.size+1) (aK 6).scope.names []) b9:=Xb a';refine dX (S (a,E) (.head _)) fun d3 aa ab d4=>dX (S (j,bc) (.tail _ (.head _))) fun d5 d6 d7 d8=>dX (S (f,bd) (.tail _ (.tail _ (.head _)))) fun d9 d' da db=>dX (S (g,h) (.tail _ (.tail _ (.tail _ (.head _))))) fun dc dd de df=> ?_;have m:c.hE=s.heap:=M d V;have U:c.T=T:=M d V;have dg:c.fH=K:=M d V;have ae:c.mg=a1:=M d V;have bi:c.mb=mb:=M d V;have af:c.h₀=h₀:=M d V;have k:c.env=nC (aK 6).name (aK 6).scope s.heap.objs.size ad (.ref a4):=M d V;have p:c.env.cells=[(("w5pow":Str),a),(("inner":Str),j),(("DIGLIM":Str),f),(("s":Str),g)] :=by refine M k ?_;exact cu
 obtain⟨bj,ah⟩:=b'.known df dd (by intro z;cases z) (by refine M m ?_;exact de) dc;have bk:(K.put g h) g=O h:=PK.jr;have bl:(K.put g h) f=none:=by unfold PK.put;refine M (aP d0) ?_;exact db
 have bm:(K.put g h) j=none:=by unfold PK.put;refine M (aP cz) ?_;exact d8
 have bn:(K.put g h) a=none:=by unfold PK.put;refine M (aP cy) ?_;exact d4
 generalize fs:K.put g h=u at ah bj bk bl bm bn
 have Y:Hyp w (A.deeper c.env) c (aK 6).scope tM bJ 0:=by refine⟨a6,by show A.depth+1+0 < 900;exact kr (pP (bK R (by decide))),by show A.units+3+10*0 < 9000;exact kr (bK (mj (by decide) _) (jB a7)),?_,W.nc fV (fun J J J dh=>by cases dh) c (M d V) (M d V) (M d V) V⟩;exact M d <|⟨rfl,ZC,rfl,rfl⟩
 generalize ft:A5 (nC (aK 6).name (aK 6).scope s.heap.objs.size ad (.ref a4)).kindOf [("s",v)] (fun J=>aB)=F at b' ah;show aN _ _ (eH (aK 6).body c.env) _ _ _;refine M ch ?_;refine wpAny_execs_cons (iY (pH ?_) V);have dj:Fm c u F aB {D with toks:=D.toks+1}:=ah.tok;refine A4 Y.H.kind (by refine M k ?_;rfl) (c:=f) (by refine M p ?_;rfl) ⟨bd,d9,cx⟩ fun ai bo aj=> ?_;(refine aQ bo ?_;clear bo;rintro n dk bp);obtain⟨ak,al⟩:=dj.cell (tk:=D.toks+1) bl d' (by intro z;cases z) (by refine M m ?_;exact da) aj dk;have am:(u.put f n) g=O h:=ak _ _ bk;have an:(u.put f n) f=O n:=PK.jr;have bq:(u.put f n) j=none:=by unfold PK.put;refine M (aP bh) ?_;exact bm
 have br:(u.put f n) a=none:=by unfold PK.put;refine M (aP bg) ?_;exact bn
 have dm:ai.get? j=O bc:=(aj.2 j bh).trans d5;have bs:ai.get? a=O E:=(aj.2 a bg).trans d3;generalize u.put f n=fu at al ak am an bq br
 refine wpAny_execs_cons (C2 (mu:=aB) (t:=t) (s:={D with heap:=ai,toks:=D.toks+1}) al (by refine M U ?_;exact ay) (by refine M U ?_;exact fun X dp dq dr=>ax.apart t ay X dp dq dr) (cc:=a4) (by refine M k ?_;rfl) (by refine M d ?_;exact cf) (by refine M k ?_;rfl) (by refine M d ?_;exact W.bmain) cn
   (by refine M k (M b4 ?_);rfl) (ZE p) V rfl rfl (by decide+kernel) (by refine M k ?_;rfl) (by refine M k ?_;rfl) (ci:=j) (by refine M p ?_;rfl) bq d6 (by intro z;cases z) (by refine M m ?_;exact d7) dm cw fun y bt ds dt du dv dw dx G bu dy dz bv bw bx e0=> ?_)
 (refine aQ bx ?_;clear bx;rintro fv e5 e7);rw[b4] at bv bw;have e8:y a=none:=e0 a (by refine M bs ?_;simp) bf br;have bz:bt.heap.get? a=O E:=dy a _ bf (al.off (by refine M m ?_;exact ab)) bs;have ao:PK.le K y:=bj.trans (ak.trans G)
 have c0:∀{q:PK},PK.le y q→RL w q c.env aB tM F [O (.str x),O (.int 2048)] :=fun{q} H i ct fw fx B r=>by
  match i,B,r with
  |0,B,r=>
   cases B;cases r;exact⟨g,h,v,by refine M p ?_;rfl,H _ _ (G _ _ am),be,b7.mono (ao.trans H)⟩
  |1,B,r=>
   cases B;cases r;exact⟨f,n,_,by refine M p ?_;rfl,H _ _ (G _ _ an),bp,.int⟩
  |i+2,B,r=>simp at r
 have e9:∀{q:PK} {c1:aM},PK.le y q→Fm c q F aB c1→Gd w c tM q F aB c1 {loc:=[O (.str x),O (.int 2048)]}:=fun H e'=>⟨e',c0 H,.none,fun J J J z=>by cases z⟩
 have c2:oS aB "len" [.str x] =O (.int N):=by show aZ _ _=_;exact M (bB (by refine M cN (M a3 ?_);exact a2.elim (fun e=>aL (cI e) (by decide)) fun e=>aL (cI e) (by decide))) (M a3 V)
 refine nJ (Zm W (N:=N) (a2.imp (aR Hw) (aR Hw))) fun g0 g1 g2 a8 a9 ea eb=>wpAny_execs_cons (iY (call_top (m:=F) (K:=y) (s:=bt) (σ:={loc:=[O (.str x),O (.int 2048)]}) (xs:=[.int N,.int 5,.int 2048]) Y (by decide+kernel) (by refine M ae ?_;exact a8) (by refine M af ?_;exact a9) ea ci ck (bN c2 V) (e9 (.refl _) bu) fun L a5 c3 ec ap ed ee ef=> ?_) V)
 obtain⟨aq,ar,as,rfl,eg,eh,ei⟩:∃aq ar as,a5=[aq,ar,as]∧RV w L aB aq (.int N)∧RV w L aB ar (.int 5)∧RV w L aB as (.int 2048):=by cases ee with |cons b2 b3=>cases b3 with |cons ej ek=>cases ek with |cons g f=>cases f;exact⟨_,_,_,rfl,b2,ej,g⟩
 obtain⟨el,rfl⟩:=eg.int_inv;obtain⟨en,rfl⟩:=eh.int_inv;obtain⟨eo,rfl⟩:=ei.int_inv;have ep:L a=none:=ef a (by refine M bz ?_;simp) aa e8;have c4:c3.heap.get? a=O E:=ed a _ bz aa (by intro z;cases z) (bu.off (by refine M m ?_;exact ab));have c5:=ap.kn.nil;rw[ae,bi,af] at c5;refine wpAny_mono (eb (A.deeper c.env) L c3 el en eo a6 (by show A.depth+1+3 < 900;exact ku R) (by show A.units+3+30 < 9000;exact kr (bK (mj (by decide) _) (jB a7))) c5) (fun eq au er=> ?_) fun J J x=>x;obtain⟨P,es,rfl,av,et,c6,Q,eu⟩:=er;obtain⟨ew,g3⟩:=ap.called av et c6 (fun b o J e=>Q.1 b o e) Q.2.1 Q.2.2 (fun X ey=>(ap.tabs X ey).mono av (fun o e=>Q.1 _ _ e))
 have ez:P a=none:=by
  cases e:P a with
  |none=>rfl
  |some g4=>
   rcases c6 _ _ e with z |z
   ·rw[ep] at z;cases z
   ·rw[c4] at z;cases z
 have f0:=Q.1 _ _ c4;refine A4 Y.H.kind (by refine M k ?_;rfl) (c:=a) (by refine M p ?_;rfl) ⟨E,f0,cv⟩ fun f1 c7 f2=> ?_;(refine aQ c7 ?_;clear c7;rintro a0 f3 f4);obtain⟨aw,c8⟩:=ew.cell (tk:=au.toks) ez aa (by intro z;cases z) (by refine M m ?_;exact ab) f2 f3;have l:PK.le y (P.put a a0):=(ec.trans av).trans aw
 have I:rE w (P.put a a0) ds x dt [(("w5pow":Str),a),(("s":Str),g),(("inner":Str),j),(("DIGLIM":Str),f)] du dv dw dx j g f a es:=
  ⟨l _ _ dz,bv,bw.mono l,rfl,rfl,rfl,rfl,⟨_,l _ _ e5,e7⟩,⟨h,v,l _ _ (G _ _ am),be,b7.mono (ao.trans l)⟩,⟨n,_,l _ _ (G _ _ an),bp,.int⟩,⟨a0,PK.jr,f4⟩,eu.mono aw⟩
 generalize P.put a a0=g5 at c8 aw l I;refine aQ I.ki fun g6 f5 f6=>wpAny_execs_cons (nA (vC (s:={au with heap:=f1,toks:=au.toks}) (σ:={loc:=[O (.str x),O (.int 2048)]}) (xs:=[.int 0,.int N]) Y c8 (c0 l) .none (by decide) (.inr (by refine M k ?_;rfl)) (by refine M p ?_;rfl) f5 f6 I.fn I.data cj cl (bW V (bW c2 iw)) fun c9 g7 f7 c' ca g8 f8=> ?_));(refine cS f8.two ?_;rintro g9 g' rfl f9 f');obtain⟨fa,rfl⟩:=f9.int_inv;obtain⟨fb,rfl⟩:=f'.int_inv;have cb:=ca.kn.nil;rw[ae,bi,af] at cb;refine wpAny_mono (ZB W cc N (N - 1025) (a2.imp (fun e=>⟨e,aR (· - 1025) e⟩) fun e=>⟨e,aR (· - 1025) e⟩) a3 (A.deeper c.env) c9 f7 fa fb a6 (by show A.depth+1+2 < 900;exact ku (ku R)) (by show A.units+3+20 < 9000;exact kr (bK (mj (by decide) _) (jB a7))) cb (I.mono c')) (fun eq ga ⟨⟨X,fc⟩,st⟩=> ?_) fun J J x=>x;subst fc;obtain⟨C,_⟩:=ca.yI st;refine⟨c9,(ao.trans l).trans c',C.keep,fun b o e=> ?_,fun b o fd e=>C.cU b o (by refine M U ?_;exact fd) (by refine M m ?_;exact e),.int,C.os.trans (M d V),o6 (by exact M d V) C.gens,by refine aT U ?_;exact C.tabs⟩;have:=C.new b o e;rw[dg,m] at this;exact this
end
end
section
open PySem.NumText Classical
theorem ZH(a:x.cps.toList=l++[c,32])(f:pQ c=aI):
  stripSame pQ aI aF x=aI∧(Sq pQ aI aF x).cps.toList=l++[c] :=by
 have b:x.length=l.length+2:=by
  have:x.cps.toList.length=l.length+2:=by refine M a ?_;exact bH
  simpa [sm] using this
 have g:pQ 32=true:=by decide+kernel
 have d:stripHi pQ aF x 0=l.length+1:=by
  unfold stripHi;refine M (aS V) (M a (M b (M nz ?_)));have:(l++[c,32]).reverse=32::c::l.reverse:=by simp
  refine M this (M agp (M g (M (aS V) (M agp (M f (M (aP cM) ?_))))));exact rfl
 constructor
 ·unfold stripSame;have:stripLo pQ aI x=0:=rfl;refine M this (M d (M b ?_));simp
 ·unfold Sq;have:stripLo pQ aI x=0:=rfl;refine M this (M d (M (agq ..) (M a (M nz (M (su ..) ?_)))));have e:l++[c,32] =(l++[c])++[32] :=by simp
  exact M e (M (afP (by simp)) (M (mJ (by simp)) V))
noncomputable def DD:Tb:=[(aH "s",aF)]
theorem ZI:iv (aK 7) 1 DD=true:=by decide+kernel
inductive M8:Prop
 |mk (p1 p2 p3 p4 p5 p6 p7 p8 p9 k1 k2 last:_) (h1:(aK 7).body=[.Assign [.Name "s" p1] (.Call (.Attribute (.Call (.Attribute (.Name "s" p2) "rstrip" p3) [] [] p4) "replace" p5) [.Constant (.str "_") k1 p6,.Constant (.str "") k2 p7] [] p8) p9,last]) (h2:j' (aK 7).scope DD (.ret (.call "_str_to_int_inner" (.cons (.nm 0) .nil))) last=aF) (h3:(p3.endLine==p4.line)=aF) (h4:(p5.endLine==p8.line)=aF):M8
theorem ZJ:M8:=
 ⟨_,_,_,_,_,_,_,_,_,_,_,_,rfl,by decide+kernel,by decide,by decide⟩
section
theorem ZK(W:Wd w d mb h₀)(s:jY d h₀ T)(x:Str)(l a:aD aA)(c:aA)(u:x.cps.toList=l++[c,32])(v:pQ c=aI)(A:(l++[c]).filter (· !=95)=a)(B:AllDigits a)(N:aA)(C:N=2050∨N=2051)(D:a.length=N)(i:l.length≤10000):
  Ct w d mb h₀ T 6 "int_from_string" [.str x] (.int (digitsVal a:aA)):=by
 let P:bT:={gk:=ia,call:=fun f b=>if f="_str_to_int_inner"∧b=[.str ⟨a.toArray⟩] then O (.int (digitsVal a:aA)) else aB}
 have E:∀f b y,P.call f b=O y→Ct w d mb h₀ T 5 f b y:=fun f b y e=>by
  simp only[P] at e
  split at e
  ·rename_i h
   obtain⟨rfl,rfl⟩:=h;cases e;exact ZG W s ⟨a.toArray⟩ B N C (by simpa [sm] using D)
  ·cases e
 refine W.by (n:=5) (i:=7) (P:=P) (rest:=[]) (k:=1) (tb:=DD) (by decide) ⟨_,rfl⟩ V ZI (fun F J J J h=>pU (fun J=>rfl) F h) fV E V ?_ V;intro aj j K m ak H I L Q Y G;subst H I L Q;obtain⟨al,am,an,ao,ap,aq,ar,as,au,av,aw,R,S,U,X,a0⟩:=ZJ;refine M S ?_;obtain⟨a1,g⟩:=ZH u v;generalize a2:Sq pQ aI aF x=y at g
 have n:y.length=l.length+1:=by
  have:y.cps.toList.length=l.length+1:=by refine M g ?_;exact bH
  simpa [sm] using this
 refine wpAny_execs_cons (iY (sr V rfl a0 ?_) V);refine sr V rfl X ((cY (P:=P) Y (.nm 0) _ (by rfl)).ev (x:= .str x) V G |>.then fun p ax q r a3 ay a4=> ?_);obtain⟨t,rfl⟩:=a4.str_inv;refine⟨"str","str.rstrip",Rc,agr,PySem.F.type_str_rstrip,pF _ _ _,(fun J e=>by cases e),ny V (GO ?_)⟩;refine Sr agr (pF _ _ _) PySem.F.entry_str_rstrip (PySem.F.args_str_rstrip_1 _) (gives_str_rstrip x t) <|M a1 (M (aP cM) (M a2 ?_))
 refine⟨by refine M n (M cN ?_);exact nF (bZ i (by decide)),?_⟩;refine⟨"str","str.replace",Rc,PySem.F.slot_str_replace,PySem.F.type_str_replace,pF _ _ _,(fun J e=>by cases e),?_⟩;refine ny V (iI (by intro z;cases z) V ?_);refine iG (sp ?_) V;refine iG (sp (jE ?_)) V;refine SC.replaceW (ags _) (ags _) (by simp) (by decide) (by refine M n ?_;exact nF (bZ i (by decide))) (by decide) fun az k=> ?_
 have a5:(Txt.replace y ⟨#[95]⟩ ⟨#[]⟩)=⟨a.toArray⟩:=by exact fT <|M (replace_strikes ..) (M g (M A V))
 have a6:("_":Str)=⟨#[95]⟩:=by decide+kernel
 have a7:("":Str)=⟨#[]⟩:=by decide+kernel
 refine M a6 (M a7 (M a5 ?_));have a8:Fm j p m aB {q with toks:=k}:=a3.tok;refine kC (s:={q with toks:=k}) (i:=0) (x:="s") (p:= .str ⟨a.toArray⟩) (G.of r a8) Y.H (by decide+kernel) .str fun b0 a9 b1=>wpAny_execs_cons (wpAny_mono (yq (.ret (.call "_str_to_int_inner" (.cons (.nm 0) .nil))) R j _ _ (.ret (.int (digitsVal a:aA))) Y U (fU (x:= .int (digitsVal a:aA)) (fO (bW (x:= .str ⟨a.toArray⟩) V iw) V (aS ⟨rfl,rfl⟩)) V) p _ aB _ a9) (fun f b2 o=> ?_) fun J J x=>x);obtain⟨a',aa,ab,ae,b3,b4,af,rfl,ah,ai⟩:=o;exact⟨a',aa,ab,af,r.trans ae,rfl,ah,ai⟩
end
end
section
noncomputable def iV:aD Int:=[31,30,31,30,31,31,30,31,30,31,31]
noncomputable def hU:aD Z→Z→Z→Z×Z
 |[],l,m=>(l,m)|d::r,l,m=>if l < d then(l,m) else hU r (l - d) (m+1)
noncomputable def ie(p:Z):Int:=(p - p / 1460+p / 36524 - p / 146096) / 365
noncomputable def jZ(p:Z):Int:=p - 365*ie p - ie p / 4+ie p / 100
noncomputable def o8(p:Z):Z×Z×Int:=
 (ie p+(hU iV (jZ p) 2).2 / 12,(hU iV (jZ p) 2).2 % 12,(hU iV (jZ p) 2).1+1)
noncomputable def ZL:B:= .cons (.ite (.cmp .Lt (.nm 2) (.nm 4)) (.cons .brk .nil) .nil) (.cons (.aug 2 .Sub (.nm 4)) (.cons (.aug 3 .Add (.int 1)) .nil))
theorem M9(P:bT)(p y:Z):∀(a:aD Z) (l m:Z) (o:aG PV),∃c,gP (bE P ZL) 4 (a.map .int) {loc:=[O (.int p),O (.int y),O (.int l),O (.int m),o]}=O (.next,{loc:=[O (.int p),O (.int y),O (.int (hU a l m).1),O (.int (hU a l m).2),c]})
 |[],l,m,o=>⟨o,rfl⟩
 |d::r,l,m,o=>by
  by_cases h:l < d
  ·refine⟨O (.int d),?_⟩;(refine M gJ ?_;rewrite[VU (σ':={loc:=[O (.int p),O (.int y),O (.int l),O (.int m),O (.int d)]})])
   ·exact M (by exact aS h:hU (d::r) l m=(l,m)) V
   ·exact VV ((ql (x:= .bool aF) (by exact aR (fun b=>O (PV.bool b)) (fM h)) V).trans rfl)
  ·refine xe (M9 P p y r (l - d) (m+1) (O (.int d))) fun c ih=>⟨c,?_⟩;(refine M gJ ?_;rewrite[ro (σ':={loc:=[O (.int p),O (.int y),O (.int (l - d)),O (.int (m+1)),O (.int d)]})])
   ·exact M ih (M (by exact aP h:hU (d::r) l m=hU r (l - d) (m+1)) V)
   ·exact(eM ((nR (x:= .bool aI) (by exact aR (fun b=>O (PV.bool b)) (eP h)) V).trans rfl)).trans rfl
theorem ZM(P:bT)(p:Z):∃b,bE P CE {loc:=[O (.int p),aB,aB,aB,aB]}=O (.ret (.tup [.int (o8 p).1,.int (o8 p).2.1,.int (o8 p).2.2]),b):=by
 refine xe (M9 P p (ie p) iV (jZ p) 2 aB) fun a hw=>⟨{loc:=[O (.int p),O (.int (ie p)),O (.int (hU iV (jZ p) 2).1),O (.int (hU iV (jZ p) 2).2),a]},?_⟩;unfold CE;refine M (eM (gR (x:= .int (ie p)) (lV (bM (bM (bM (x:= .int p) V (lV (x:=p) V (by decide) (by decide)) V) (lV (x:=p) V (by decide) (by decide)) V) (lV (x:=p) V (by decide) (by decide)) V) (by decide) (by decide)) V)) <|M (eM (gR (x:= .int (jZ p)) (bM (bM (bM (x:= .int p) V (bM (y:= .int (ie p)) V rfl (tq (by decide) (by decide))) V) (lV (x:=ie p) V (by decide) (by decide)) V) (lV (x:=ie p) V (by decide) (by decide)) V) V)) ?_
 refine M (eM (gR (x:= .int 2) V rfl)) ?_
 have c:ev P {loc:=[O (.int p),O (.int (ie p)),O (.int (jZ p)),O (.int 2),aB]} (.lst (.cons (.int 31) (.cons (.int 30) (.cons (.int 31) (.cons (.int 30) (.cons (.int 31) (.cons (.int 31) (.cons (.int 30) (.cons (.int 31) (.cons (.int 30) (.cons (.int 31) (.cons (.int 31) .nil))))))))))))=O (.lst (iV.map .int)):=
  bB ⟨by decide,rfl⟩
 rw[eM (σ':={loc:=[O (.int p),O (.int (ie p)),O (.int (hU iV (jZ p) 2).1),O (.int (hU iV (jZ p) 2).2),a]})]
 ·exact cV (fU (tw (bW (bM (x:= .int (ie p)) V (lV (x:=(hU iV (jZ p) 2).2) V (by decide) (by decide)) V) (bW (lU (x:=(hU iV (jZ p) 2).2) V (by decide) (by decide)) (bW (bM (x:= .int (hU iV (jZ p) 2).1) V rfl rfl) iw))) (Nat.le_of_ble_eq_true V) V) V)
 ·exact M (VX (by simpa [Sg.put] using c) (by decide)) <|hw
section
theorem ZN(W:Wd w a mb h₀)(p:Z):Ct w a mb h₀ T 1 "_law_date" [.int p] (.tup [.int (o8 p).1,.int (o8 p).2.1,.int (o8 p).2.2]):=by exact xe (ZM bJ p) fun c h=>W.fn (n:=0) (i:=28) (P:=bJ) (rest:=[aB,aB,aB,aB]) (by decide) ⟨_,rfl⟩ V VC (fun b J J J h=>pU (fun J=>rfl) b h) VB fV (fun J J J=>nn) V h V
end
end
section
section
noncomputable def one(c:aA):Str:=⟨#[c]⟩
noncomputable def DE:Tb:=[(aH "code",aF)]
theorem ZO:iv (aK 17) 1 DE=true:=by decide+kernel
theorem ZP(W:Wd w j mb h₀)(c:aA):Ct w j mb h₀ T 1 "in_table_b1" [.str (one c)] (.bool (hO.any (· ==(c:Z)))):=by
 refine W.by (n:=0) (i:=17) (P:=bJ) (rest:=[]) (k:=1) (tb:=DE) (by decide) ⟨_,rfl⟩ V ZO (fun n J J J h=>pU (fun J=>rfl) n h) fV (fun J J J=>nn) V ?_ V;intro A N K m s p q u v Y G;subst p q u v;refine aQ W.b1 fun S x d=> ?_;have b:∃l e f i,(aK 17).body=[.Return (O (.Compare l [.In] [.Name "b1_set" e] f)) i]∧bC (aK 17).scope DE (.bi "ord" (.cons (.nm 0) .nil)) l=true:=⟨_,_,_,_,rfl,by decide+kernel⟩;(refine uS b ?_;clear b;rintro l e f i b y);refine M b ?_;have z:ev bJ {loc:=[O (.str (one c))]} (.bi "ord" (.cons (.nm 0) .nil))=O (.int (c:Z)):=bB V;refine wpAny_execs_cons (nA (Rt (((cY Y _ l y).ev z G).then fun B P C D a Q E=> ?_) V));obtain⟨t,rfl⟩:=E.int_inv;refine sV Y.H (by decide+kernel) a x ?_
 have F:C.heap.SetOf (fG pg w) S (fun k=>hO.any (· ==k)) hO.length:=by(refine uS d ?_;clear d;rintro o H I L g r);exact⟨o,H,I,L,a.keep _ _ (a.le _ _ (a.low _ _ g)),r⟩
 exact agf (knd:=fG pg w) (no pg w _ _) V F <|⟨B,m,aB,_,D,rfl,a.tok,.bool⟩
noncomputable def vW:Tb:=[(aH "code",aF),(aH "r",aF)]
theorem ZQ:iv (aK 19) 1 vW=true:=by decide+kernel
noncomputable def lp(c:aA):Str:=match lj.lookup (c:Z) with
 |some x=>x|none=>cD (one c)
theorem ZR(h:iq fQ es)(k:Z):match es.lookup k with
  |some x=>∃t,pE fQ k=O (.str x t)|none=>pE fQ k=none:=by
 induction h with
 |nil=>rfl
 | @cons n x t ps es h ih=>
  by_cases e:k=n
  ·subst e;simp[pE]
  ·have e1:(k==n)=false:=beq_eq_false_iff_ne.mpr e;have e2:(n==k)=false:=beq_eq_false_iff_ne.mpr (Ne.symm e);refine M GZ (M e1 ?_)
   have:pE ((n,Value.str x t)::ps) k=pE ps k:=by simp[pE,Ne.symm e]
   exact M this <|ih
theorem ZS(W:Wd w ae mb h₀)(c:aA):Ct w ae mb h₀ T 1 "map_table_b3" [.str (one c)] (.str (lp c)):=by
 refine W.by (n:=0) (i:=19) (P:=bJ) (rest:=[aB]) (k:=1) (tb:=vW) (by decide) ⟨_,rfl⟩ V ZQ (fun af J J J ah=>pU (fun J=>rfl) af ah) fV (fun J J J=>nn) V ?_ V;intro ai a K m s aj ak al am Y G;subst aj ak al am;refine H0 W.b3 fun d N an ao ap B=> ?_
 have j:∃l P C k n R S U X a0 a1 a2 a3 p,(aK 19).body=[.Assign [.Name "r" P] (.Call (.Attribute (.Name "b3_exceptions" C) "get" k) [l] [] n) R,
   .If (.Compare (.Name "r" S) [.IsNot] [.Constant .none a0 U] X) [.Return (O (.Name "r" a1)) a2] [] a3,p]∧bC (aK 19).scope vW (.bi "ord" (.cons (.nm 0) .nil)) l=aF∧j' (aK 19).scope vW (.ret (.dH "lower" (.nm 0) .nil)) p=aF∧(k.endLine==n.line)=true:=
  ⟨_,_,_,_,_,_,_,_,_,_,_,_,_,_,rfl,by decide+kernel,by decide+kernel,by decide⟩
 (refine H5 j ?_;clear j;rintro l P C k n R S U a4;refine H9 a4 ?_;clear a4;rintro X a0 a1 a2 a3 p j a5 aq ar);refine M j ?_;have as:ev bJ {loc:=[O (.str (one c)),aB]} (.bi "ord" (.cons (.nm 0) .nil))=O (.int (c:Z)):=bB V;have a6:bC (aK 19).scope vW (.bi "ord" (.cons (.nm 0) .nil)) l=true:=a5
 have a7:∀q:aM,Fm a K m aB q→q.heap.DictOf (fG pg w) d N:=fun q F=>by(refine eQ B ?_;clear B;rintro o D E g r);exact⟨o,D,E,F.keep _ _ (F.le _ _ (F.low _ _ g)),r⟩
 have au:s.TypeIs (.ref d) "dict":=(a7 s G.F).typeIs
 have av:∀{Q:aJ→aM→Prop},(∀b f v (x:PV),PK.le K b→Fm a b m aB f→KB a aB s.heap f.heap→RV w b aB v x→x=(match lj.lookup (c:Z) with |some x=> .str x |none=> .none)→Q v f)→
   aN (aO pg w) ai (eval (.Call (.Attribute (.Name "b3_exceptions" C) "get" k) [l] [] n) a.env) Q (fun J J=>bO) s:=fun{Q} a8=>by
  refine sr V ?_ ar (sV Y.H (by decide+kernel) G.F an ?_)
  ·refine M (i5 a6 [] a.env) ?_;rfl
  ·refine⟨"dict","dict.get",PySem.F.plainAttrs_dict,PySem.F.slot_dict_get,PySem.F.type_dict_get,au,(a7 s G.F).mapOf.noDict,?_⟩;refine M (i5 a6 [] a.env) <|wpAny_dict_get1 (knd:=fG pg w) ao (((cY Y _ l a5).ev as G).then fun b bg f h e H I=> ?_)
   obtain⟨t,rfl⟩:=I.int_inv
   refine⟨(c:Z),_,no pg w _ _,(by exact eQ B fun o D E g r=>(show f.heap.DictOf (fG pg w) d N from⟨o,D,E,e.keep _ _ (e.le _ _ (e.low _ _ g)),r⟩).mapOf),?_⟩
   have i:=ZR ap (c:Z);revert i;cases a9:lj.lookup (c:Z) with
   |none=>intro i;refine M i ?_;exact a8 b _ _ _ h e.tok H .none (M a9 V)
   |some x=>rintro⟨bh,i⟩;refine M i ?_;exact a8 b _ _ _ h e.tok H .str (M a9 V)
 refine wpAny_execs_cons (iY (av fun b f v x h e H I u=> ?_) V);refine kC (i:=1) (G.of h e) Y.H (by decide+kernel) I fun bi L bj=>wpAny_execs_cons (mO (GN (((cY (P:=bJ) Y (.nm 1) _ (by rfl)).ev (x:=x) V L).then fun aw bk bl y a' bm aa=> ?_) V));refine ae6 (isNot_none ?_);obtain⟨ax,A⟩:∃z,lj.lookup (c:Z)=z:=⟨_,rfl⟩;cases ax with
 |some ab=>
  rw[A] at u;subst u;obtain⟨ay,rfl⟩:=aa.str_inv;refine wpAny_truthy_bool ?_;have az:(!(Value.str ab ay==Value.none))=true:=rfl;refine wpAny_execs_cons (nA (((cY (P:=bJ) Y (.nm 1) _ (by rfl)).ev (x:= .str ab) V (L.of y a')).then fun b0 b1 bn b2 b3 bo b4=> ?_));exact⟨b0,_,aB,b1,((h.trans y).trans b2),rfl,b3,by unfold lp;refine M A ?_;exact b4⟩
 |none=>
  rw[A] at u;subst u;obtain rfl:=aa.none_inv;refine wpAny_truthy_bool ?_;have az:¬(!(Value.none==Value.none))=true:=by decide
  refine wpAny_execs_nil ?_;have b5:cD (one c)=lp c:=by unfold lp;exact M A V
  refine wpAny_execs_cons (wpAny_mono (yq (.ret (.dH "lower" (.nm 0) .nil)) p a _ _ (.ret (.str (lp c))) Y aq (by refine aT b5 ?_;have:nK aB "lower" (.str (one c)) [] =O (.str (cD (one c))):=bB (nq _);exact fU (by assumption) V) aw _ aB _ (L.of y a')) (fun bp q o=> ?_) fun J J x=>x)
  obtain⟨b6,b7,b8,b9,bq,br,b',rfl,ba,bc⟩:=o;exact⟨b6,b7,b8,b',(h.trans y).trans b9,rfl,ba,bc⟩
end
end
section
noncomputable def jy:aD Int:=[172,174,846,848,6149,6151,6154,6158,8202,8206,8287,8289,65023,65040,65278,65280]
noncomputable def jK(j9:Z)(a:aU):Nat:=
 if a=aF∧j9 % 42 < 26 then(97+j9 % 42).toNat
 else(jy.getD (if a then(j9 % 42 - 26) % 16 else j9 % 16).toNat 0).toNat
theorem ZT(d:a.length≤eF)(c:0≤k)(b:a[k.toNat]? =O x):jq f (.lst a) (.int k)=O x:=by
 have e:k.toNat < a.length:=by
  rcases np k.toNat a.length with h |h
  ·exact h
  ·replace b:=(xt h)▸b;cases b
 show aZ _ _=_;refine M (bB d) (M (Le c ((lP c).mp e)) ?_);exact b
theorem vX(h:x.length+y.length≤16777216):dC .Add (.str x) (.str y)=O (.str (x++y)):=bB (by refine(M xH (M cN ?_):(x.cps++y.cps).size≤_);exact h)
theorem get_map{a:Type}(f:a→PV){l:aD a}(d:a){k:Z}(b:0≤k)(h:k < l.length)(c:l.length≤1000):qY (l.map f) k=O (f (l.getD k.toNat d)):=by have e:k.toNat < l.length:=(lP b).mpr h;refine(bB (by refine M (bQ ..) (M cN ?_);exact aL c (by decide))).trans ?_;refine M (bQ ..) (M (Le b h) (M (xI ..) (M im (M io (M (fD e) ?_)))));rfl
theorem ZU:∀j < 16,0≤jy.getD j 0∧jy.getD j 0≤0x10FFFF:=by decide
theorem ZV(P:bT)(j9:Z)(c:aU):∃m,bE P KH {loc:=[O (.int j9),O (.bool c),aB]}=O (.ret (.str (one (jK j9 c))),m):=by
 have k:∀{d:Sg} {e:E} {x b:Z},ev P d e=O (.int x)→0 < b→b < 4611686018427387904→ev P d (.bin .Mod e (.int b))=O (.int (x % b)):=fun h l n=>bM h V (tn l n);have l:0≤j9 % 42:=eD _ (by decide);have f:∀{d:Sg},d.loc[0]? =O (O (.int j9))→ev P d (.bin .Mod (.nm 0) (.int 42))=O (.int (j9 % 42)):=fun h=>k (aR jb h) (by decide) (by decide);unfold jK
 by_cases a:c=aF∧j9 % 42 < 26
 ·refine M (aS a) ?_;(refine xa a ?_;clear a;rintro rfl a);exact⟨_,sg (x:= .lst (jy.map .int)) (nS (xs:=jy.map .int) V (by decide) V) V (cV (it (nT V (cK (f V) (y:= .int 26) V (lW a))) (cV (fU (iU (gE (bM (x:= .int 97) V (f V) iJ)) (bB (by lia))) V))))⟩
 ·refine M (aP a) ?_;obtain⟨i,g⟩:∃i:Z,(if c then(j9 % 42 - 26) % 16 else j9 % 16)=i:=⟨_,rfl⟩
  have j:0≤i∧i < 16:=by
   refine aT g ?_
   split<;>exact⟨eD _ (by decide),gM _ (by decide)⟩
  refine M g <|⟨_,sg (x:= .lst (jy.map .int)) (nS (xs:=jy.map .int) V (by decide) V) V (nx (eY ?_ V) (cV (fU (iU (gE (hZ (x:= .lst (jy.map .int)) (y:= .int i) V ?_ (get_map (l:=jy) .int 0 j.1 j.2 (by decide)))) (bB (ZU i.toNat ((lP j.1).mpr (dD j.2 (by decide)))))) V)))⟩
  ·cases c with
   |false=>exact vt V|true=>exact nT V (cK (f V) (y:= .int 26) V (lg fun h=>a ⟨rfl,h⟩))
  ·refine M tr ?_;cases c with
   |false=>exact(k V (by decide) (by decide)).trans (aR (fun z=>O (PV.int z)) g)|true=>exact(k (bM (f V) (y:= .int 26) V mA) (by decide) (by decide)).trans (aR (fun z=>O (PV.int z)) g)
section
theorem ZW(W:Wd w b mb h₀)(j9:Z)(a:aU):Ct w b mb h₀ T 1 "_law_sign" [.int j9,.bool a] (.str (one (jK j9 a))):=by exact xe (ZV bJ j9 a) fun d h=>W.fn (n:=0) (i:=30) (P:=bJ) (rest:=[aB]) (by decide) ⟨_,rfl⟩ V VH (fun c J J J h=>pV (fun J J=>rfl) c h) VG fV (fun J J J=>nn) V h V
end
end
section
noncomputable def rowOf(x:Str):aD Str:=x.cps.toList.map one
noncomputable def iy(a:Z):Int:=a / 8 % 12
noncomputable def quoted(p:Str):Str:=⟨#[34]⟩++p++⟨#[34]⟩
noncomputable def nX(b:aD Str)(a c:Z)(d:aU):aD Str:=
 if a / 4 % 2≠c∨a % 4=0 then b
 else if a % 4=1 then b.set (iy a % 3).toNat (if d then quoted (b.getD (iy a % 3).toNat ⟨#[]⟩) else⟨#[]⟩)
 else if a % 4=2 then b.take (iy a % 4).toNat++one (jK (a / 96) aF)::b.drop (iy a % 4).toNat
 else b.set (iy a % 3).toNat (one (jK (a / 96) aI))
noncomputable def M'(f:Str)(a:aD PV):aG PV:=if f="_law_sign" then ib a fun d b=>O (.str (one (jK d b))) else aB
noncomputable def jL:bT:={gk:=ia,call:=M'}
theorem ZX:M' (aH "_law_sign") [.int d,.bool b] =O (.str (one (jK d b))):=aS V
noncomputable def ZY:B:=match yw with
 | .cons _ (.cons _ r)=>r| _=> .nil
noncomputable def stH(x:Str)(a b:Z)(c:aU)(d:aD Str)(pl:aU):Sg:={loc:=[O (.str x),O (.int a),O (.int b),O (.bool c),O .bV,O (.int (iy a))],mu:=O (d.map .str),pl:=pl}
theorem ZZ(x:Str)(k:aA):((rowOf x).getD k ⟨#[]⟩).length≤1:=by
 (refine M io ?_;rewrite[rowOf];refine M im ?_);cases x.cps.toList[k]? with
 |none=>exact ji _|some c=>exact cA 1
section
theorem vY(h:ev jL a e=O (.int x))(c:0 < b)(d:b < 4611686018427387904):ev jL a (.bin .Mod e (.int b))=O (.int (x % b)):=bM h V (tn c d)
theorem DF(h:ev jL a e=O (.int x))(c:0 < b)(d:b < 4611686018427387904):ev jL a (.bin .FloorDiv e (.int b))=O (.int (x / b)):=bM h V (yx c d)
theorem Z0:ev jL (stH x a b c d e) (.bin .Mod (.nm 1) (.int 4))=O (.int (a % 4)):=vY V (by decide) (by decide)
theorem Na:ev jL (stH x a b c d e) (.bin .Mod (.nm 5) (.int 3))=O (.int (iy a % 3)):=vY V (by decide) (by decide)
theorem Nb:ev jL (stH x a c d e f) (.call (aH "_law_sign") (.cons (.bin .FloorDiv (.nm 1) (.int 96)) (.cons (.bool b) .nil)))=O (.str (one (jK (a / 96) b))):=
 fO (jX (DF (x:=a) V (by decide) (by decide)) V) V ZX
theorem Nc(g:a.length=3)(h:ev jL (stH x b c d a aF) e=O (.str y)):ex jL (.oP 4 (.bin .Mod (.nm 5) (.int 3)) e) (stH x b c d a aF)=O (.next,stH x b c d (a.set (iy b % 3).toNat y) aI):=by have f:(a.map PV.str).length=3:=(bQ ..).trans g;refine(KW (xs:=a.map .str) V Na h V rfl (eD _ (by decide)) (by refine M f ?_;exact gM _ (by decide)) (by refine M f ?_;decide)).trans ?_;refine aT xJ ?_;rfl
theorem Z3(c:a.length=3)(d:(a.getD (iy b % 3).toNat ⟨#[]⟩).length≤1):ev jL (stH x b i e a j) (.jc (.nm 3) (.bin .Add (.bin .Add (.str (aH "\"")) (.sub (.nm 4) (.bin .Mod (.nm 5) (.int 3)))) (.str (aH "\""))) (.str (aH "")))=O (.str (if e then quoted (a.getD (iy b % 3).toNat ⟨#[]⟩) else⟨#[]⟩)):=by
 have f:aH "\""=⟨#[34]⟩:=by decide+kernel
 have g:aH ""=⟨#[]⟩:=by decide+kernel
 refine M f (M g (M tr ?_));cases e with
 |false=>rfl
 |true=>
  have h:(⟨#[34]⟩++a.getD (iy b % 3).toNat ⟨#[]⟩:Str).length=1+(a.getD (iy b % 3).toNat ⟨#[]⟩).length:=xH;exact bM (bM V (hZ (x:= .bV) V Na (get_map .str ⟨#[]⟩ (eD _ (by decide)) (by refine M c ?_;exact gM _ (by decide)) (by refine M c ?_;decide))) (vX (by show 1+_≤_;exact aL (eK d _) (by decide)))) V (vX (by refine M h ?_;show _+1≤_;exact nF (bZ (eK d _) (by decide))))
end
theorem Z4(x:Str)(t:x.length=3)(a c:Z)(d:aU):∃v,bE jL yw {loc:=[O (.str x),O (.int a),O (.int c),O (.bool d),aB,aB]}=O (.ret (.lst ((nX (rowOf x) a c d).map .str)),v):=by
 have e:(rowOf x).length=3:=(bQ ..).trans t;have u:=ZZ x (iy a % 3).toNat
 have f:∀{r:aG (Fl×Sg)},bE jL ZY (stH x a c d (rowOf x) aF)=r→bE jL yw {loc:=[O (.str x),O (.int a),O (.int c),O (.bool d),aB,aB]}=r:=fun h=>by refine nx (tu (xs:=(rowOf x).map .str) V (bN (x:= .str x) V ?_)) (sg (x:= .int (iy a)) (vY (DF (x:=a) V (by decide) (by decide)) (by decide) (by decide)) V h);refine(bB (by refine M t ?_;decide)).trans ?_;unfold rowOf;refine M j8 ?_;rfl
 generalize rowOf x=g at e u f ⊢;have o:∀b,(a / 4 % 2 !=c)=b→ev jL (stH x a c d g aF) (.cmp .NotEq (.bin .Mod (.bin .FloorDiv (.nm 1) (.int 4)) (.int 2)) (.nm 2))=O (.bool b):=fun b h=>cK (vY (DF (x:=a) V (by decide) (by decide)) (by decide) (by decide)) (y:= .int c) V (bb h);have q:∀(k:Z) b,(a % 4==k)=b→ev jL (stH x a c d g aF) (.cmp .Eq (.bin .Mod (.nm 1) (.int 4)) (.int k))=O (.bool b):=fun k b h=>cK Z0 (y:= .int k) V (bb h);have m:∀{r:aD Str} {p:aU},bE jL (.cons (.ret (.nm 4)) .nil) (stH x a c d r p)=O (.ret (.lst (r.map .str)),stH x a c d r p):=cV (KU V rfl);unfold nX
 by_cases i:a / 4 % 2≠c∨a % 4=0
 ·refine M (aS i) <|⟨_,f <|cV (it ?_ m)⟩
  by_cases j:a / 4 % 2=c
  ·exact vw (o aI (by refine M j ?_;exact xb _)) (q 0 aF (beq_iff_eq.mpr (i.resolve_left fun h=>h j)))
  ·exact KY (o aF (bne_iff_ne.mpr j))
 ·refine M (aP i) ?_;have j:a / 4 % 2=c:=ahW fun h=>i (.inl h);have s:=vw (o aI (by refine M j ?_;exact xb _)) (q 0 aI (beq_eq_false_iff_ne.mpr fun h=>i (.inr h)))
  by_cases l:a % 4=1
  ·exact M (aS l) <|⟨_,f <|nx (eY s V) (nx (it (q 1 aF (beq_iff_eq.mpr l)) (nx (Nc e (Z3 e u)) V)) m)⟩
  ·refine M (aP l) ?_
   by_cases n:a % 4=2
   ·refine M (aS n) <|⟨_,f <|nx (eY s V) (nx (eY (q 1 aI (beq_eq_false_iff_ne.mpr l)) (nx (it (q 2 aF (beq_iff_eq.mpr n)) (nx (σ':=stH x a c d (g.take (iy a % 4).toNat++one (jK (a / 96) aF)::g.drop (iy a % 4).toNat) aF) ?_ V)) V)) m)⟩
    refine(V2 (k:=iy a % 4) (xs:=g.map .str) V (vY (x:=iy a) V (by decide) (by decide)) Nb V rfl ⟨eD _ (by decide),?_,by refine M (bQ ..) (M e ?_);decide⟩).trans ?_
    ·have:=gM (iy a) (by decide:(0:Z) < 4);exact cJ (dD this (by decide))
    ·unfold stH;exact M iE (M gJ (M qH (M Bk V)))
   ·exact M (aP n) <|⟨_,f <|nx (eY s V) (nx (eY (q 1 aI (beq_eq_false_iff_ne.mpr l)) (nx (eY (q 2 aI (beq_eq_false_iff_ne.mpr n)) (nx (Nc e Nb) V)) V)) m)⟩
section
theorem Z5(W:Wd w c mb h₀):∀f a y,jL.call f a=O y→Ct w c mb h₀ T 1 f a y:=by intro f a y h;exact fI h (fun h=>V7 h fun d b h=>cB h▸ZW W _ _) fun h=>nn h
theorem y8(W:Wd w d mb h₀)(x:Str)(e:x.length=3)(a b:Z)(c:aU):Ct w d mb h₀ T 2 "_law_harmed" [.str x,.int a,.int b,.bool c] (.lst ((nX (rowOf x) a b c).map .str)):=by exact xe (Z4 x e a b c) fun g h=>W.fn (n:=1) (i:=31) (P:=jL) (rest:=[aB,aB]) (by decide) ⟨_,rfl⟩ V VJ (fun f J J J h=>BM (fun J J J J=>rfl) f h) VI fV (Z5 W) V h V
end
end
section
noncomputable def iz(x:aD aA)(k:aA):aD Nat:=x.take k++x.drop (k+1)
noncomputable def kG(r low:aD aA)(k:aA):Bool:=(if r.length=2 then r else iz r k)==(if r.length=4 then low else iz low k)
noncomputable def lq(r low:aD aA):aD aA→Z
 |[] =>4|k::a=>if kG r low k then(if k=0∧r.length < 4 then 2 else 3) else lq r low a
noncomputable def dS(r low:aD aA):Int:=if r=low then 1 else lq r low [0,1,2,3]
theorem y9(n k:aA):jC n (k:Z)=min k n:=by
 unfold jC;refine M (aP (ja.mpr (cW _))) (M (agm (Int.le_min.mpr ⟨cW _,cW _⟩)) ?_);rcases sv k n with h |h
 ·refine M (l8 h) (M (Sp (cT.mpr h)) ?_);rfl
 ·refine M (uD h) (M (Int.min_eq_right (cT.mpr h)) ?_);rfl
theorem Nd(x:Str)(k:aA):(gO x aB (O (k:Z))).cps.toList=x.cps.toList.take k:=by
 unfold gO;simp only[uM,y9,nz,su];have a:x.cps.toList.length=x.length:=iO;rcases sv k x.length with h |h
 ·exact M (l8 h) V
 ·exact M (uD h) (M (mJ (cI a)) (M (mJ (aL (cI a) h)) V))
theorem DG(x:Str)(k:aA):(gO x (O (k:Z)) aB).cps.toList=x.cps.toList.drop k:=by
 unfold gO;simp only[uM,y9];have a:x.cps.toList.length=x.length:=iO;rcases sv k x.length with h |h
 ·exact M (l8 h) (M (mJ (by refine M iP ?_;exact qK (cI a) _)) V)
 ·exact M (uD h) (M (xf (cI a)) (M (xf (aL (cI a) h)) (M AI V)))
theorem Z6(x:Str)(k:aA):(gO x aB (O (k:Z))++gO x (O ((k:Z)+1)) aB).cps.toList=iz x.cps.toList k:=by refine(M lO (M (Nd ..) (M (show((k:Z)+1)=((k+1:aA):Z) by exact xN V) (M (DG ..) ?_))):((gO x aB (O (k:Z))).cps++(gO x (O ((k:Z)+1)) aB).cps).toList=_);rfl
theorem DH(x y:Str):x=y↔x.cps.toList=y.cps.toList:=⟨fun h=>M h V,fun h=>fT h⟩
noncomputable def DI:B:=(.cons (.asg 4 (.jc (.cmp .Eq (.bi "len" (.cons (.nm 0) .nil)) (.int 2)) (.nm 0) (.bin .Add (.dE (.nm 0) .none (.nm 3)) (.dE (.nm 0) (.bin .Add (.nm 3) (.int 1)) .none))))
  (.cons (.asg 5 (.jc (.cmp .Eq (.bi "len" (.cons (.nm 0) .nil)) (.int 4)) (.nm 2) (.bin .Add (.dE (.nm 2) .none (.nm 3)) (.dE (.nm 2) (.bin .Add (.nm 3) (.int 1)) .none))))
  (.cons (.ite (.cmp .Eq (.nm 4) (.nm 5)) (.cons (.ret (.jc (.bo .And (.cons (.cmp .Eq (.nm 3) (.int 0)) (.cons (.cmp .Lt (.bi "len" (.cons (.nm 0) .nil)) (.int 4)) .nil))) (.int 2) (.int 3)))
  .nil) .nil)
  .nil)))
theorem Nf(x:Str)(l h:aG Z):(gO x l h).length≤x.length:=by refine(M kP (M ow (M iP ?_)):(Gy _ _).toArray.size≤_);exact aL (Gf _ _) (aL (lK _ _) (cI iO))
noncomputable def qp(p:aU)(y:Str)(k:aA):Str:=if p then y else gO y aB (O (k:Z))++gO y (O ((k:Z)+1)) aB
theorem Ng(p:Prop) [qE p] (y:Str)(k:aA):(qp (decide p) y k).cps.toList=if p then y.cps.toList else iz y.cps.toList k:=by
 by_cases h:p
 ·refine M (fM h) (M (aS h) ?_);rfl
 ·refine M (eP h) (M (aP h) ?_);exact Z6 y k
section
theorem y'(a:r.length≤1000)(b:c.loc[0]? =O (O (.str r))):ev P c (.bi "len" (.cons (.nm 0) .nil))=O (.int r.length):=iU (gE (aR jb b)) (bB (by refine M cN ?_;exact aL a (by decide)))
theorem Nh{P:bT}{a:Sg}{r y:Str}{k:aA}{i:aA}{n:aA}(c:r.length≤1000)(j:y.length≤1000)(d:a.loc[0]? =O (O (.str r)))(b:a.loc[i]? =O (O (.str y)))(f:a.loc[3]? =O (O (.int k))):
  ev P a (.jc (.cmp .Eq (.bi "len" (.cons (.nm 0) .nil)) (.int n)) (.nm i) (.bin .Add (.dE (.nm i) .none (.nm 3)) (.dE (.nm i) (.bin .Add (.nm 3) (.int 1)) .none)))=O (.str (qp (decide (r.length=n)) y k)):=by
 have g:y.length≤eF:=by refine M cN ?_;exact aL j (by decide)
 refine M tr ?_
 by_cases h:r.length=n
 ·refine M (bN (cK (y' c d) (y:= .int n) V (La (pN.mpr h))) V) (M (fM h) ?_);exact aR jb b
 ·refine M (bN (cK (y' c d) (y:= .int n) V (yA fun e=>h (pN.mp e))) V) (M (eP h) ?_)
  exact bM (o0 (aR jb b) (u:= .none) V (aR jb f) (bB g)) (o0 (aR jb b) (bM (aR jb f) (y:= .int 1) V iJ) (v:= .none) V (bB g))
   (vX (by have:=Nf y aB (O (k:Z));have:=Nf y (O ((k:Z)+1)) aB;lia))
end
noncomputable def stN(r a low:Str)(b c d:aG PV):Sg:={loc:=[O (.str r),O (.str a),O (.str low),b,c,d]}
theorem Z7(P:bT)(r g low:Str)(d:r.length≤1000)(j:low.length≤1000)(k:aA)(l m:aG PV):∃a b,bE P DI (stN r g low (O (.int k)) l m)=O (if kG r.cps.toList low.cps.toList k then .ret (.int (if k=0∧r.length < 4 then 2 else 3)) else .next,stN r g low (O (.int k)) a b):=by
 refine⟨O (.str (qp (decide (r.length=2)) r k)),O (.str (qp (decide (r.length=4)) low k)),sg (Nh (n:=2) (k:=k) d d V rfl rfl) V (sg (Nh (n:=4) (k:=k) d j V rfl rfl) V ?_)⟩
 have c:decide (qp (decide (r.length=2)) r k=qp (decide (r.length=4)) low k)=kG r.cps.toList low.cps.toList k:=by unfold kG;refine M iO (iR Q5 (M lL (iR mh (iR (DH ..) (M (Ng ..) (M (Ng ..) ?_))))));rfl
 generalize qp (decide (r.length=2)) r k=a at c ⊢;generalize qp (decide (r.length=4)) low k=b at c ⊢;cases i:kG r.cps.toList low.cps.toList k with
 |true=>
  rw[i] at c;refine cV (it (cK (x:= .str a) (y:= .str b) V rfl (bb c)) (cV (fU ?_ V)));refine M tr ?_
  by_cases f:k=0
  ·subst f
   by_cases e:r.length < 4
   ·refine M (aS ⟨rfl,e⟩) (M (bN (nT (cK (x:= .int ((0:aA):Z)) (y:= .int 0) V rfl rfl) (cK (y' d V) (y:= .int 4) V (lW (dN.mpr e)))) V) ?_);rfl
   ·refine M (aP fun h=>e h.2) (M (bN (nT (cK (x:= .int ((0:aA):Z)) (y:= .int 0) V rfl rfl) (cK (y' d V) (y:= .int 4) V (lg fun h=>e (dN.mp h)))) V) ?_);rfl
  ·refine M (aP fun h=>f h.1) (M (bN (vt (cK (x:= .int k) (y:= .int 0) V rfl (yA fun h=>f (pN.mp h)))) V) ?_);rfl
 |false=>
  rw[i] at c;exact nx (eY (cK (x:= .str a) (y:= .str b) V rfl (bb c)) V) V
noncomputable def Z8(z:Z):Fl→Prop
 | .ret v=>v= .int z| .next=>z=4| .brk=>bO
theorem Z9(P:bT)(r j low:Str)(m:r.length≤1000)(n:low.length≤1000)(c:aD aA):∀(g d e:aG PV),∃i f,gP (bE P DI) 3 (c.map fun k=> .int (k:aA)) (stN r j low g d e)=O (f,i)∧Z8 (lq r.cps.toList low.cps.toList c) f:=by
 induction c with
 |nil=>exact fun g d e=>⟨_,.next,rfl,rfl⟩
 |cons k c ih=>
  intro g d e;refine oL (Z7 P r j low m n k d e) fun a b h=> ?_;have o:lq r.cps.toList low.cps.toList (k::c)=if kG r.cps.toList low.cps.toList k then(if k=0∧r.cps.toList.length < 4 then 2 else 3) else lq r.cps.toList low.cps.toList c:=rfl
  refine M o (M iO ?_)
  by_cases l:kG r.cps.toList low.cps.toList k=aF
  ·rw[aS l] at h ⊢;exact⟨_,_,KQ h,rfl⟩
  ·rw[aP l] at h ⊢;exact iQ (ih (O (.int k)) a b) fun i f p q=>⟨i,f,(ro h).trans p,q⟩
theorem Z'(P:bT)(r a:Str)(i:r.length≤1000)(j:a.length≤1000)(k:(cD a).length≤1000):∃b,bE P KL {loc:=[O (.str r),O (.str a),aB,aB,aB,aB]}=O (.ret (.int (dS r.cps.toList (cD a).cps.toList)),b):=by
 have e:ev P {loc:=[O (.str r),O (.str a),aB,aB,aB,aB]} (.dH "lower" (.nm 1) .nil)=O (.str (cD a)):=lf (x:= .str a) V rfl (bB (aL j (by decide)));unfold dS
 by_cases c:r=cD a
 ·exact M (aS ((DH _ _).mp c)) <|⟨_,sg e V (cV (it (cK (x:= .str r) (y:= .str (cD a)) V rfl (bb (fM c))) (cV (fU (x:= .int 1) V rfl))))⟩
 ·refine M (aP fun h=>c ((DH _ _).mpr h)) <|iQ (Z9 P r a (cD a) i k [0,1,2,3] aB aB aB) fun b f l d=> ?_
  have g:ex P (.forR 3 (.int 4) DI) (stN r a (cD a) aB aB aB)=O (f,b):=(tv (N:=4) V (by decide)).trans l;refine⟨b,sg e V (nx (eY (cK (x:= .str r) (y:= .str (cD a)) V rfl (bb (eP c))) V) ?_)⟩;cases f with
  |ret v=>cases d;exact cV g|next=>refine M (d:lq r.cps.toList (cD a).cps.toList [0,1,2,3] =4) ?_;exact nx g (cV (fU (x:= .int 4) V rfl))|brk=>exact d.elim
section
theorem aaa(W:Wd w b mb h₀)(r a:Str)(c:r.length≤1000)(d:a.length≤1000)(e:(cD a).length≤1000):Ct w b mb h₀ T 1 "_law_near" [.str r,.str a] (.int (dS r.cps.toList (cD a).cps.toList)):=by exact xe (Z' bJ r a c d e) fun g h=>W.fn (n:=0) (i:=32) (P:=bJ) (rest:=[aB,aB,aB,aB]) (by decide) ⟨_,rfl⟩ V VL (fun f J J J h=>pV (fun J J=>rfl) f h) VK fV (fun J J J=>nn) V h V
end
end
section
noncomputable def jM:aD Int:=[173,847,6150,6155,6156,6157,8203,8204,8205,8288,65279,65024,65025,65026,65027,65028,65029,65030,65031,65032,65033,65034,65035,65036,65037,65038,65039]
noncomputable def jN:aD Int:=[119808,119860,119912,120016,120172,120224,120276,120328,120380,120432]
noncomputable def o9:aD (Str×Z):=[((aH "ma"),13187),((aH "pr"),13274),((aH "no"),8470),((aH "ov"),13173),((aH "au"),13171),((aH "ss"),223),((aH "ff"),64256),((aH "st"),64262)]
noncomputable def j0(p:Str):Bool:= !decide ((cD p).cps.toList < [97]) && !decide ([122] < (cD p).cps.toList)
noncomputable def pairOf(p:Str)(a:aD Str):Str:=cD (mf ⟨#[]⟩ (p::a.take 1))
noncomputable def nY(x:Str):aG Int:=(o9.find? fun q=>decide (q.1=x)).map (·.2)
noncomputable def qq(x:Str):Int:=((cD x).cps.getD 0 0:aA)
noncomputable def rF(a:Z)(p:Str):Nat:=(jN.getD (a - 27).toNat 0+qq p - 97).toNat
noncomputable def qr(a:Z):Nat:=(jM.getD a.toNat 0).toNat
noncomputable def tG:aD Str→aU→Z→Str→Str×Z
 |[],_,d,a=>(a,d)| _::b,aF,d,a=>tG b aI d a
 |p::b,aI,d,a=>
  if d % 40 < 27 then tG b aI (d / 40) (a++(p++one (qr (d % 40))))
  else if d % 40 < 37∧j0 p=aF then tG b aI (d / 40) (a++one (rF (d % 40) p))
  else match(if 37 < d % 40 then nY (pairOf p b) else aB) with
   |some v=>tG b aF (d / 40) (a++one v.toNat)|none=>tG b aI (d / 40) (a++(if d % 40=37 then qJ p else p))
noncomputable abbrev fX(Y:aD Str)(d:Z)(a:Str):Str×Int:=tG Y aI d a
section
theorem Ni(h:d % 40 < 27):fX (p::a) d b=fX a (d / 40) (b++(p++one (qr (d % 40)))):=aS h
theorem Nj(h:¬d % 40 < 27)(a:d % 40 < 37∧j0 p=aF):fX (p::b) d c=fX b (d / 40) (c++one (rF (d % 40) p)):=(aP h).trans (aS a)
theorem DJ(h:¬d % 40 < 27)(b:¬(d % 40 < 37∧j0 p=aF))(c:(if 37 < d % 40 then nY (pairOf p a) else aB)=aB):fX (p::a) d e=fX a (d / 40) (e++(if d % 40=37 then qJ p else p)):=
 (aP h).trans ((aP b).trans (M c V))
theorem Nk(h:¬d % 40 < 27)(b:¬(d % 40 < 37∧j0 p=aF))(c:(if 37 < d % 40 then nY (pairOf p a) else aB)=O v):fX (p::a) d e=fX a.tail (d / 40) (e++one v.toNat):=
 (aP h).trans ((aP b).trans (by refine M c ?_;cases a<;>rfl))
end
structure qt(p:Str):Prop where
 len:p.length≤10
 low:(cD p).length≤30
 up:(qJ p).length≤30
 az:j0 p=aF→(cD p).length=1∧97≤qq p∧qq p≤122
noncomputable def za:E:= .oN .LtE .LtE (.str (aH "a")) (.dH "lower" (.nm 7) .nil) (.str (aH "z"))
noncomputable def rG:S:= .ite (.cmp .Lt (.nm 9) (.int 27)) (.cons (.aug 5 .Add (.bin .Add (.nm 7) (.bi "chr" (.cons (.sub (.nm 2) (.nm 9)) .nil)))) .nil)
  (.cons (.ite (.bo .And (.cons (.cmp .Lt (.nm 9) (.int 37)) (.cons za .nil))) (.cons (.aug 5 .Add (.bi "chr" (.cons (.bin .Sub (.bin .Add (.sub (.nm 3) (.bin .Sub (.nm 9) (.int 27))) (.bi "ord" (.cons (.dH "lower" (.nm 7) .nil) .nil))) (.int 97)) .nil))) .nil)
  (.cons (.ite (.bo .And (.cons (.cmp .Gt (.nm 9) (.int 37)) (.cons (.cmp .In (.nm 8) (.nm 4)) .nil))) (.cons (.aug 5 .Add (.bi "chr" (.cons (.sub (.nm 4) (.nm 8)) .nil))) (.cons (.aug 6 .Add (.int 1)) .nil))
  (.cons (.aug 5 .Add (.jc (.cmp .Eq (.nm 9) (.int 37)) (.dH "upper" (.nm 7) .nil) (.nm 7))) .nil)) .nil)) .nil)
noncomputable def vZ:B:= .cons (.asg 7 (.sub (.nm 0) (.nm 6))) (.cons (.asg 8 (.dH "lower" (.dH "join" (.str (aH "")) (.cons (.dE (.nm 0) (.nm 6) (.bin .Add (.nm 6) (.int 2))) .nil)) .nil))
  (.cons (.asg 9 (.bin .Mod (.nm 1) (.int 40))) (.cons (.aug 1 .FloorDiv (.int 40)) (.cons rG (.cons (.aug 6 .Add (.int 1)) .nil)))))
noncomputable def mC(Y:aD Str)(d:Z)(a:Str)(i:Z)(b c e:aG PV):Sg:=
 {loc:=[O (.lst (Y.map .str)),O (.int d),O (.lst (jM.map .int)),O (.lst (jN.map .int)),O (.gB o9),O (.str a),O (.int i),b,c,e]}
noncomputable def gT(Y:aD Str)(p x:Str)(a d:Z)(b:Str)(i:Z):Sg:=mC Y d b i (O (.str p)) (O (.str x)) (O (.int a))
theorem strs_map:∀l:aD Str,strs? (l.map PV.str)=O l
 |[] =>rfl|a::r=>aR (j6 (a:: ·)) (strs_map r)
theorem v0(l:aD Str):(mf ⟨#[]⟩ l).cps.toList=(l.map fun x=>x.cps.toList).flatten:=by
 have e:mf ⟨#[]⟩ l=Bl ⟨#[]⟩ l:=by simpa using join_plain_closes ⟨#[]⟩ l
 refine M e ?_;clear e
 induction l with
 |nil=>rfl
 |cons a r ih=>
  cases r with
  |nil=>simp[Bl]
  |cons b t=>
   have:Bl ⟨#[]⟩ (a::b::t)=a++⟨#[]⟩++Bl ⟨#[]⟩ (b::t):=rfl;show((a.cps++ #[])++(Bl ⟨#[]⟩ (b::t)).cps).toList=_;refine M lO (M ih ?_);exact rfl
theorem DK(l:aD Str):(mf ⟨#[]⟩ l).length=(l.map (·.length)).sum:=by
 have h:=v0 l;have:(mf ⟨#[]⟩ l).cps.toList.length=(mf ⟨#[]⟩ l).length:=iO;refine aT this (M h ?_);clear h this
 induction l with
 |nil=>rfl|cons a r ih=>simp only[gJ,Q2,bH,agt,ih];rfl
section
variable(P:bT)(Y:aD Str)
theorem aab(i:aA)(a:i < Y.length):xW (Y.map PV.str) (O (i:Z)) (O ((i:Z)+2))=((Y.drop i).take 2).map PV.str:=by
 unfold xW;simp only[uM,bQ,show((i:Z)+2)=((i+2:aA):Z) by lia,y9];refine M (l8 (fB a)) (M qH (M Bk ?_));rcases sv (i+2) Y.length with h |h
 ·exact M (l8 h) (M (qA _ _:i+2 - i=2) V)
 ·exact M (uD h) (M (mJ (by refine M iP (M (bQ ..) ?_);exact cA _)) (M (mJ (by refine M iP (M (bQ ..) ?_);exact jB (Hx (fB a) (ml h)))) V))
theorem aac:∀j < 27,0≤jM.getD j 0∧jM.getD j 0≤0x10FFFF:=by decide
theorem aad:∀j < 10,119808≤jN.getD j 0∧jN.getD j 0≤120432:=by decide
theorem aae:∀q∈o9,0≤q.2∧q.2≤0x10FFFF:=by decide
theorem Nl(c:ev P (gT Y p x b d a i) e=O (.str y))(f:y.length≤40)(g:a.length≤1000):ex P (.aug 5 .Add e) (gT Y p x b d a i)=O (.next,gT Y p x b d (a++y) i):=
 qk V c (bB (by refine(M xH (M cN ?_):(a.cps++y.cps).size≤_);show a.length+y.length≤_;exact aL (fY g f) (by decide)))
theorem DL(c:ev P (gT Y p x b d a i) e=O (.str y))(f:y.length≤40)(g:a.length≤1000):bE P (.cons (.aug 5 .Add e) .nil) (gT Y p x b d a i)=O (.next,gT Y p x b d (a++y) i):=eM (Nl P Y c f g)
theorem Nm{p x a:Str}{b d:Z}{i:aA}:ex P (.aug 6 .Add (.int 1)) (gT Y p x b d a i)=O (.next,gT Y p x b d a (i+1:aA)):=qk V rfl rfl
theorem DM {a} (h:p.length≤20):nK a "lower" (.str p) [] =O (.str (cD p)):=bB (aL h (by decide))
theorem aaf(c:Y.length≤10)(a:Y.drop i=p::b)(e:(mf ⟨#[]⟩ (p::b.take 1)).length≤20)(d:Z)(f:Str)(g j k:aG PV):
  bE P vZ (mC Y d f i g j k)=bE P (.cons rG (.cons (.aug 6 .Add (.int 1)) .nil)) (gT Y p (pairOf p b) (d % 40) (d / 40) f i):=by
 have l:i < Y.length:=agu fun h=>by replace a:=(xf h)▸a;cases a
 have m:Y[i]? =O p:=by
  have:(Y.drop i)[0]? =O p:=by refine M a ?_;rfl
  rwa [AC,si] at this
 refine(eM (gR (x:= .str p) (hZ (x:= .lst (Y.map .str)) (y:= .int i) V rfl (ZT (by refine M (bQ ..) (M cN ?_);exact aL c (by decide)) (cW _) (by refine M (oH ..) (M im (M m ?_));rfl))) V)).trans ?_
 refine(eM (gR (x:= .str (pairOf p b)) (lf (lf (x:= .str ⟨#[]⟩) (z:= .str (mf ⟨#[]⟩ (p::b.take 1))) (by refine M (by decide+kernel:(aH "")=⟨#[]⟩) ?_;rfl)
  (gE (o0 (x:= .lst (Y.map .str)) (u:= .int i) (v:= .int ((i:Z)+2)) (z:= .lst (((p::b).take 2).map .str)) V rfl rfl ?_)) ?_) V (DM e)) V)).trans ?_
 ·refine(bB (by refine M (bQ ..) ?_;exact aL c (by decide))).trans ?_;exact M (aab Y i l) (M a V)
 ·refine bN (strs_map _) (bB ?_);exact aT (DK ..) <|aL e (by decide)
 ·exact(eM (gR (x:= .int (d % 40)) (bM V rfl (tn (by decide) (by decide))) V)).trans ((eM (qk (p:= .int d) (y:= .int 40) V rfl (VR (by decide) (by decide)))).trans rfl)
theorem Nn(a:p.length≤10):ev P (gT Y p x b d c i) za=O (.bool (j0 p)):=by
 have e:aH "a"=⟨#[97]⟩:=by decide+kernel
 have f:aH "z"=⟨#[122]⟩:=by decide+kernel
 unfold za;refine bN V (bN (x:= .str (cD p)) (lf V rfl (DM (aL a (by decide)))) ?_)
 show(match O (PV.bool (!decide ((cD p).cps.toList < [97]))) with
  |some (.bool aI)=>O (PV.bool aI)|some (.bool aF)=>O (PV.bool (!decide ([122] < (cD p).cps.toList)))| _=>aB)=_
 unfold j0;cases(!decide ((cD p).cps.toList < [97])) <;>rfl
section
theorem aag(b:p.length≤10)(f:c.length≤1000)(e:0≤a)(h:a < 27):ex P rG (gT Y p x a d c i)=O (.next,gT Y p x a d (c++(p++one (qr a))) i):=by
 have g:(p++one (qr a)).length=p.length+1:=xH
 exact(ql (cK (x:= .int a) V rfl (lW h)) V).trans (DL P Y (bM (x:= .str p) V (iU (gE (hZ (x:= .lst (jM.map .int)) (y:= .int a) V rfl (get_map .int 0 e (by show _ < 27;exact h) (by decide)))) (bB (aac a.toNat ((lP e).mpr (dD h (by decide))))))
  (vX (by show _+1≤_;exact nF (bZ b (by decide))))) (by refine M g ?_;exact nF (bZ b (by decide))) f)
theorem DN{B:B}(h:ev P (gT Y p x a d b i) t=O (.bool aI))(c:ex P s (gT Y p x a d b i)=O (.next,e)):ex P (.ite t A (.cons s .nil)) (gT Y p x a d b i)=O (.next,e):=(nR h V).trans (eM c)
theorem aah(b:qt p)(k:c.length≤1000)(e:¬a < 27)(h:a < 37)(f:j0 p=aF):ex P rG (gT Y p x a d c i)=O (.next,gT Y p x a d (c++one (rF a p)) i):=by refine iH (b.az f) fun l m n=> ?_;have g:0≤a - 27:=AY (ja.mp e);have o:(a - 27).toNat < 10:=(lP g).mpr (Ss h);have j:=aad (a - 27).toNat o;have b:=b.len;refine DN P Y (B:= .nil) (cK (x:= .int a) V rfl (lg e)) ((ql (nT (cK (x:= .int a) V rfl (lW h)) ((Nn P Y b).trans (bb f))) V).trans (DL P Y ?_ (by show 1≤40;decide) k));refine iU (gE (bM (bM (hZ (x:= .lst (jN.map .int)) (y:= .int (a - 27)) V rfl (get_map .int 0 g (Ss h) (by decide))) (iU (gE (lf (x:= .str p) V rfl (DM (aL b (by decide))))) (bB l)) iJ) V mA)) (bB ?_);exact(⟨cL (by decide) (agv (nv j.1 m) 97),cL (agv (nv j.2 n) 97) (by decide)⟩:0≤jN.getD (a - 27).toNat 0+qq p - 97∧jN.getD (a - 27).toNat 0+qq p - 97≤0x10FFFF)
theorem No(g:p.length≤10)(j:¬a < 27)(h:¬(a < 37∧j0 p=aF)){B:B}(k:ex P (.ite t A B) (gT Y p x a d l i)=O (.next,m)):∀c f,ex P (.ite (.cmp .Lt (.nm 9) (.int 27)) c (.cons (.ite (.bo .And (.cons (.cmp .Lt (.nm 9) (.int 37)) (.cons za .nil))) f (.cons (.ite t A B) .nil)) .nil)) (gT Y p x a d l i)=O (.next,m):=fun c f=>by
 refine DN P Y (B:= .nil) (cK (x:= .int a) V rfl (lg j)) (DN P Y (B:= .nil) ?_ k)
 by_cases b:a < 37
 ·refine nT (cK (x:= .int a) V rfl (lW b)) ((Nn P Y g).trans (bb ?_));cases e:j0 p with
  |false=>rfl|true=>exact absurd ⟨b,e⟩ h
 ·exact vt (cK (x:= .int a) V rfl (lg b))
theorem Np:ev P (gT Y p x a d b i) (.cmp .In (.nm 8) (.nm 4))=O (.bool (nY x).isSome):=by refine bb (p:=o9.any fun q=>decide (q.1=x)) ?_;unfold nY;rw[Option.isSome_map,Q5,xc,List.find?_isSome]
theorem aai{p x b:Str}{a d:Z}{i:aA}(f:p.length≤10)(g:b.length≤1000)(j:¬a < 27)(h:¬(a < 37∧j0 p=aF))(k:37 < a){v:Z}(c:nY x=O v):ex P rG (gT Y p x a d b i)=O (.next,gT Y p x a d (b++one v.toNat) (i+1:aA)):=by(refine aQ (me.mp c) ?_;rintro q e rfl);refine No P Y f j h ((ql (nT (cK (x:= .int a) V rfl (CN k)) ((Np P Y).trans (bb (by refine M c ?_;rfl)))) V).trans ?_) _ _;exact(eM (Nl P Y (iU (gE (hZ (x:= .gB o9) (y:= .str x) (z:= .int q.2) V rfl (aR (j6 fun q:Str×Z=>PV.int q.2) e))) (by exact bB (aae q (agw e)))) (by show 1≤40;decide) g)).trans (eM (Nm P Y))
theorem aaj(f:qt p)(k:b.length≤1000)(l:¬a < 27)(h:¬(a < 37∧j0 p=aF))(g:(if 37 < a then nY x else aB)=aB):ex P rG (gT Y p x a d b i)=O (.next,gT Y p x a d (b++(if a=37 then qJ p else p)) i):=by
 have j:=f.len;refine No P Y j l h ((nR (x:= .bool aI) ?_ V).trans (DL P Y ?_ ?_ k)) _ _
 ·by_cases c:37 < a
  ·rw[aS c] at g;exact nT (cK (x:= .int a) V rfl (CN c)) ((Np P Y).trans (bb (by refine M g ?_;rfl)))
  ·exact vt (cK (x:= .int a) V rfl (CO c))
 ·refine M tr ?_
  by_cases e:a=37
  ·subst e;exact(bB (aL j (by decide)):xY "upper" (.str p)=_)
  ·have:(a==37)=false:=beq_eq_false_iff_ne.mpr e;refine M (show(ev P (gT Y p x a d b i) (.cmp .Eq (.nm 9) (.int 37))).bind truth=O (a==37) from rfl) (M this (M (aP e) ?_));rfl
 ·have:=f.up
  split<;>exact aL (by assumption) (by decide)
end
noncomputable def Nq(Y:aD Str)(i:aA)(p:Str)(j:aD Str)(d:Z)(g:Str)(z:aG (Fl×Sg)):Prop:=∃h e f a b c,z=O (.next,mC Y h e (f:aA) (O a) (O b) (O c))∧i < f∧e.length≤g.length+40∧fX (p::j) d g=fX (Y.drop f) h e
theorem aak{a y:Str}(h:y.length≤40):(a++y).length≤a.length+40:=aL (cI xH) (eK h _)
theorem aal(z:∀p∈Y,qt p)(A:Y.length≤10)(i:aA)(p:Str)(a:aD Str)(o:Y.drop i=p::a)(d:Z)(b:Str)(k:b.length≤1000)(s t u:aG PV):
  Nq Y i p a d b (bE P vZ (mC Y d b (i:aA) s t u)):=by
 have l:Y.drop (i+1)=a:=Bm.symm.trans (aR List.tail o);have x:∀q∈p::a,qt q:=fun q B=>z q (Bb (o▸B));have m:=x p (.head _);have f:=m.len
 have C:(mf ⟨#[]⟩ (p::a.take 1)).length≤20:=by
  refine M (DK ..) ?_;cases a with
  |nil=>exact aL f (by decide)|cons q r=>exact fY f (x q (.tail _ (.head _))).len
 have D:0≤d % 40:=eD _ (by decide)
 have n:∀(y:Str) (g:aA),ex P rG (gT Y p (pairOf p a) (d % 40) (d / 40) b i)=O (.next,gT Y p (pairOf p a) (d % 40) (d / 40) (b++y) (g:aA))→y.length≤40→i≤g→fX (p::a) d b=fX (Y.drop (g+1)) (d / 40) (b++y)→
   Nq Y i p a d b (bE P vZ (mC Y d b (i:aA) s t u)):=fun y g h E F G=>
  ⟨d / 40,b++y,g+1,_,_,_,(aaf P Y A o C d b s t u).trans (nx h (eM (Nm P Y))),ml F,aak E,G⟩
 by_cases c:d % 40 < 27
 ·exact n _ i (aag P Y f k D c) (aL (cI xH) (aL (lH f 1) (by decide))) (cA _) (by refine M l ?_;exact Ni c)
 ·by_cases e:d % 40 < 37∧j0 p=aF
  ·exact n _ i (aah P Y m k c e.1 e.2) (by show 1≤40;decide) (cA _) (by refine M l ?_;exact Nj c e)
  ·cases j:(if 37 < d % 40 then nY (pairOf p a) else aB) with
   |none=>
    refine n _ i (aaj P Y m k c e j) ?_ (cA _) (by refine M l ?_;exact DJ c e j)
    split
    ·exact aL m.up (by decide)
    ·exact aL f (by decide)
   |some v=>
    by_cases w:37 < d % 40
    ·exact n _ (i+1) (aai P Y f k c e w ((aS w).symm.trans j)) (by show 1≤40;decide) (uL _) (by refine aT Bm (M l ?_);exact Nk c e j)
    ·exact nomatch (aP w).symm.trans j
end
end
section
section
variable(P:bT)(Y:aD Str)
noncomputable def TyL(P:bT)(Y:aD Str)(n i:aA)(d:Z)(e:Str)(z:Str×Z)(f g h:aG PV):Prop:=∃j a b c,kB (fun k=>(ev P k (.cmp .Lt (.nm 6) (.bi "len" (.cons (.nm 0) .nil)))).bind truth) (bE P vZ) n (mC Y d e (i:aA) f g h)=O (.next,mC Y z.2 z.1 (j:aA) a b c)
theorem aam(z:∀p∈Y,qt p)(t:Y.length≤10)(n:aA):∀(i:aA) (d:Z) (e:Str) (f g l:aG PV),Y.length - i < n→e.length+40*(Y.length - i)≤900→TyL P Y n i d e (fX (Y.drop i) d e) f g l:=by
 have u:∀(i:aA) (d:Z) (e:Str) (f g l:aG PV),ev P (mC Y d e (i:aA) f g l) (.bi "len" (.cons (.nm 0) .nil))=O (.int Y.length):=fun i d e f g l=>
  iU (gE (x:= .lst (Y.map .str)) V) ((bB (by refine M (bQ ..) (M cN ?_);exact aL t (by decide))).trans (aR (fun n:aA=>O (PV.int n)) (bQ _)))
 induction n with
 |zero=>exact fun J J J J J J o J=>absurd o (R2 _)
 |succ n ih=>
  intro i d e f g l o r
  by_cases m:i < Y.length
  ·obtain⟨p,s,v⟩:∃p s,Y.drop i=p::s:=⟨Y[i],Y.drop (i+1),Au m⟩;refine xe (Nat.exists_eq_add_of_lt m) fun k w=> ?_;have A:Y.length - i=k+1:=M w (M (ik ..) (M (qA ..) V));rw[A] at o r;refine H9 (aal P Y z t i p s v d e (aL (hV _ _) (aL r (by decide))) f g l) fun B C x a b c D E F G=> ?_;have y:Y.length - x≤k:=qV (by refine M w (M (ik ..) (M (gI i ..) (M (ik ..) ?_)));exact eK (by refine M (gI ..) ?_;exact E) k);(refine sH (ih x B C (O a) (O b) (O c) (bZ y (Hn o)) (aL (fY F (uu 40 y)) (by refine M (ik ..) (M (gI 40 ..) ?_);exact r))) ?_;rintro j H I K h);refine M v (M G ?_);exact⟨j,H,I,K,(CM (bN (cK (x:= .int i) V (u ..) (lW (dN.mpr m))) V) D).trans h⟩
  ·exact M (xf (i8.mp m)) <|⟨i,f,g,l,vx (bN (cK (x:= .int i) V (u ..) (lg fun q=>m (dN.mp q))) V)⟩
theorem aan(g:∀p∈Y,qt p)(e:Y.length≤10)(d:Z):∃i,bE P (CF 12) {loc:=[O (.lst (Y.map .str)),O (.int d),aB,aB,aB,aB,aB,aB,aB,aB]}=O (.ret (.tup [.str (fX Y d ⟨#[]⟩).1,.int (fX Y d ⟨#[]⟩).2]),i):=by
 have j:aH ""=⟨#[]⟩:=by decide+kernel
 (refine sH (aam P Y g e 12 0 d ⟨#[]⟩ aB aB aB (Nat.sub_lt_sub_right (ji _) (bZ e (by decide))) (by show 0+_≤_;lia)) ?_;rintro f a b c h);rw[nz] at h;refine⟨(mC Y (fX Y d ⟨#[]⟩).2 (fX Y d ⟨#[]⟩).1 (f:aA) a b c),?_⟩;unfold CF;have k:pX 65024 65040 1=(jM.drop 11).map .int:=by rfl
 have l:ex P (.oQ 12 (.cmp .Lt (.nm 6) (.bi "len" (.cons (.nm 0) .nil))) vZ) (mC Y d ⟨#[]⟩ ((0:aA):Z) aB aB aB)=O (.next,(mC Y (fX Y d ⟨#[]⟩).2 (fX Y d ⟨#[]⟩).1 (f:aA) a b c)):=h
 rw[eM (σ':={loc:=[O (.lst (Y.map .str)),O (.int d),O (.lst (jM.map .int)),aB,aB,aB,aB,aB,aB,aB]}) (gR (x:= .lst (jM.map .int)) (by
  have m:ev P {loc:=[O (.lst (Y.map .str)),O (.int d),aB,aB,aB,aB,aB,aB,aB,aB]} (.lS (.cons (.int 65024) (.cons (.int 65040) .nil)))=O (.lst ((jM.drop 11).map .int)):=by show aZ _ _=_;rw[bB ⟨by decide,by decide,by decide,by decide,by decide,by decide⟩,k]
  have n:ev P {loc:=[O (.lst (Y.map .str)),O (.int d),aB,aB,aB,aB,aB,aB,aB,aB]} (.lst (.cons (.int 173) (.cons (.int 847) (.cons (.int 6150) (.cons (.int 6155) (.cons (.int 6156) (.cons (.int 6157) (.cons (.int 8203) (.cons (.int 8204) (.cons (.int 8205) (.cons (.int 8288) (.cons (.int 65279) .nil))))))))))))=O (.lst ((jM.take 11).map .int)):=nS (xs:=(jM.take 11).map .int) V (by decide) V;exact bM n m (bB (by decide))) V)]
 rw[eM (σ':={loc:=[O (.lst (Y.map .str)),O (.int d),O (.lst (jM.map .int)),O (.lst (jN.map .int)),aB,aB,aB,aB,aB,aB]}) (gR (x:= .lst (jN.map .int)) (nS (xs:=jN.map .int) V (by decide) V) V)];rw[eM (σ':={loc:=[O (.lst (Y.map .str)),O (.int d),O (.lst (jM.map .int)),O (.lst (jN.map .int)),O (.gB o9),aB,aB,aB,aB,aB]}) (gR (x:= .gB o9) (by rfl) V)];rw[eM (σ':={loc:=[O (.lst (Y.map .str)),O (.int d),O (.lst (jM.map .int)),O (.lst (jN.map .int)),O (.gB o9),O (.str ⟨#[]⟩),aB,aB,aB,aB]}) (gR (x:= .str ⟨#[]⟩) (by rw[j];rfl) V)];rw[eM (σ':=(mC Y d ⟨#[]⟩ ((0:aA):Z) aB aB aB)) (gR (x:= .int 0) (by rfl) V)];exact(eM l).trans <|cV (fU (tw (bW V (gE V)) (by show 2≤1000;decide) V) V)
end
section
theorem Nr(W:Wd w a mb h₀)(Y:aD Str)(b:∀p∈Y,qt p)(c:Y.length≤10)(d:Z):Ct w a mb h₀ T 1 "_law_typed" [.lst (Y.map .str),.int d] (.tup [.str (fX Y d ⟨#[]⟩).1,.int (fX Y d ⟨#[]⟩).2]):=by exact xe (aan bJ Y b c d) fun f h=>W.fn (n:=0) (i:=33) (P:=bJ) (rest:=[aB,aB,aB,aB,aB,aB,aB,aB]) (by decide) ⟨_,rfl⟩ V VN (fun e J J J h=>pV (fun J J=>rfl) e h) (VM 12) fV (fun J J J=>nn) V h V
end
end
section
noncomputable def tN(x y:Str):Int:=if x=y then 0 else if cD x=cD y then 1 else 2
theorem aao(P:bT)(e:P.gk "_CASE_COST"=O 1)(f:P.gk "_MOVE_COST"=O 2)(x y:Str)(g:x.length≤1000)(i:y.length≤1000):∃j,bE P Kv {loc:=[O (.str x),O (.str y)]}=O (.ret (.int (tN x y)),j):=by
 have low:∀{z:Str},z.length≤1000→xY "lower" (.str z)=O (.str (cD z)):=fun h=>bB (aL h (by decide));refine⟨{loc:=[O (.str x),O (.str y)]},?_⟩;unfold tN
 by_cases a:x=y
 ·exact M (aS a) <|cV (it (cK (x:= .str x) (y:= .str y) V rfl (bb (fM a))) (cV (fU V rfl)))
 ·refine M (aP a) <|nx (eY (cK (x:= .str x) (y:= .str y) V rfl (bb (eP a))) V) ?_
  have d:∀b,decide (cD x=cD y)=b→ev P {loc:=[O (.str x),O (.str y)]} (.cmp .Eq (.dH "lower" (.nm 0) .nil) (.dH "lower" (.nm 1) .nil))=O (.bool b):=fun b h=>cK (lf (x:= .str x) V rfl (low g)) (lf (x:= .str y) V rfl (low i)) (bb h)
  by_cases c:cD x=cD y
  ·exact M (aS c) <|cV (it (d aF (fM c)) (cV (fU (aR (j6 PV.int) e) V)))
  ·exact M (aP c) <|nx (eY (d aI (eP c)) V) (cV (fU (aR (j6 PV.int) f) V))
theorem aap:ia "_CASE_COST"=O 1:=by unfold ia;exact M (aP (by decide+kernel)) (M (aP (by decide+kernel)) (M (aP (by decide+kernel)) (M (aS V) V)))
theorem Nt:ia "_MOVE_COST"=O 2:=by unfold ia;exact M (aP (by decide+kernel)) (M (aP (by decide+kernel)) (M (aS V) V))
theorem aaq:ia "_MAX_STRING_SIZE"=O 40:=by unfold ia;exact M (aP (by decide+kernel)) (M (aS V) V)
theorem aar:ia "_DIV_LIMIT"=O 4000:=by unfold ia;exact M (aS V) V
section
theorem aas(W:Wd w a mb h₀)(x y:Str)(b:x.length≤1000)(c:y.length≤1000):Ct w a mb h₀ T 1 "_substitution_cost" [.str x,.str y] (.int (tN x y)):=by exact xe (aao bJ aap Nt x y b c) fun e h=>W.fn (n:=0) (i:=24) (P:=bJ) (rest:=[]) (by decide) ⟨_,rfl⟩ V Vw (fun d J J J h=>pV (fun J J=>rfl) d h) Vv fV (fun J J J=>nn) V h V
end
noncomputable abbrev mk(l:aD aA):Str:=⟨l.toArray⟩
theorem cZ(l:aD aA):(mk l).length=l.length:=rfl
theorem DO(x:Str):mk x.cps.toList=x:=by obtain⟨⟨l⟩⟩:=x;rfl
theorem mk_inj:mk a=mk b↔a=b:=⟨fun h=>by have:=aR (fun x:Str=>x.cps.toList) h;simpa using this,fun h=>M h V⟩
theorem aat(l:aD aA)(k:aA):gO (mk l) (O (k:Z)) aB=mk (l.drop k):=fT (M (DG ..) V)
noncomputable def cost(c d:aA):Int:=tN (one c) (one d)
noncomputable def lr(e:aA→aA→Z)(f:aA):aD aA→aD Z→Z→Z→Z→aD Z×Z×Z
 |[],a,_,b,c=>(a,b,c)
 |x::g,a,h,b,c=>match a with
  |[] =>([],b,c)
  |r::a=>
   let id:=(if r < b then r else b)+2
   let sub:=h+e f x
   let d:=if sub < id then sub else id
   let o:=lr e f g a r d (if d < c then d else c)
   (d::o.1,o.2)
noncomputable def pa(c:aA→aA→Z)(a:aD aA)(b:Z):aD aA→aA→aD Z→Z→Z
 |[],_,_,d=>d
 |e::f,k,g,_=>
  let o:=lr c e a g ((k:Z)*2) ((k:Z)*2) 9223372036854775807
  if b < o.2.2 then b+1 else pa c a b f (k+1) o.1 o.2.1
theorem DP(h:(if f+b c x < (if r < d then r else d)+2 then f+b c x else(if r < d then r else d)+2)=a):
  lr b c (x::g) (r::i) f d e=(a::(lr b c g i r a (if a < e then a else e)).1,(lr b c g i r a (if a < e then a else e)).2):=by cases h;rfl
theorem DQ{k:aA}:pa b a c (d::f) k e g=
  if c < (lr b d a e ((k:Z)*2) ((k:Z)*2) 9223372036854775807).2.2 then c+1 else pa b a c f (k+1) (lr b d a e ((k:Z)*2) ((k:Z)*2) 9223372036854775807).1 (lr b d a e ((k:Z)*2) ((k:Z)*2) 9223372036854775807).2.1:=rfl
noncomputable def kH:aD aA→aD aA→aD aA×aD aA
 |[],b=>([],b)
 |x::a,b=>match b with
  |[] =>(x::a,[])|y::b=>if x=y then kH a b else(x::a,y::b)
theorem v5:kH (x::a) (y::b)=if x=y then kH a b else(x::a,y::b):=rfl
noncomputable def pb(n:aA):aD Int:=(mK n).map fun k=>2+(k:aA)*2
noncomputable def zb(d:aA→aA→Z)(c:Z)(a b:aD aA):Int:=
 if a=[]∨b=[] then 2*(a.length+b.length)
 else if b.length < a.length then(if c < ((a.length:Z) - b.length)*2 then c+1 else pa d b c a 0 (pb b.length) 0)
 else(if c < ((b.length:Z) - a.length)*2 then c+1 else pa d a c b 0 (pb a.length) 0)
noncomputable def qu(c:aA→aA→Z)(a b:aD aA)(d:Z):Int:=
 if a=b then 0 else
  let p:=kH a b
  let q:=kH p.1.reverse p.2.reverse
  zb c d q.1.reverse q.2.reverse
noncomputable abbrev rH:=qu cost
end
section
noncomputable abbrev l5(a b:Str)(c:Z)(pre post:aG PV):aD (aG PV):=[O (.str a),O (.str b),O (.int c),pre,post,aB,aB,aB,aB,aB,aB,aB,aB,aB]
theorem v6(h:l.length≤1000):truth (.str (mk l))=O (!l.isEmpty):=by
 show aZ _ _=_;refine M (bB (by refine M (cZ ..) (M cN ?_);exact aL h (by decide))) (M (cZ ..) ?_);cases l with
 |nil=>rfl|cons a r=>exact rfl
theorem v7(h:l.length≤1000)(k:aA):mX (.str (mk l)) (.int (k:Z)) .none=O (.str (mk (l.drop k))):=by show aZ _ _=_;exact M (bB (by refine M (cZ ..) (M cN ?_);exact aL h (by decide))) (M (aat ..) V)
theorem zc(h:l.length≤1000){k:aA}(a:l[k]? =O c):jq mu (.str (mk l)) (.int (k:Z))=O (.str (one c)):=by
 have b:k < l.length:=by
  rcases np k l.length with q |q
  ·exact q
  ·replace a:=(xt q)▸a;cases a
 show aZ _ _=_;refine M (bB (by refine M (cZ ..) (M cN ?_);exact aL h (by decide))) (M (cZ ..) (M (rp b) (M (agx ..) ?_)))
 have e:(mk l).cps.getD k 0=c:=by refine M Q7 ?_;refine M agy (M a ?_);rfl
 refine M e ?_;rfl
theorem one_inj:one a=one b↔a=b:=⟨fun h=>by have:=aR (fun x:Str=>x.cps.toList) h;simpa [one] using this,fun h=>M h V⟩
noncomputable def aau:E:= .bo .And (.cons (.dE (.nm 0) (.nm 3) .none) (.cons (.dE (.nm 1) (.nm 3) .none) (.cons (.cmp .Eq (.sub (.nm 0) (.nm 3)) (.sub (.nm 1) (.nm 3))) .nil)))
noncomputable def DR(a b:aD aA):Bool:= !a.isEmpty && (!b.isEmpty && decide (a.head? =b.head?))
theorem Nu{l:aD aA}(h:(!l.isEmpty)=aF):∃x,l.head? =O x:=by
 cases l with
 |nil=>cases h|cons x r=>exact⟨x,rfl⟩
theorem Nv{P:bT}{a:Sg}{s t:E}{A B:aD aA}(d:∀x,A.head? =O x→ev P a s=O (.str (one x)))(e:∀x,B.head? =O x→ev P a t=O (.str (one x)))(f:(!A.isEmpty)=aF)(g:(!B.isEmpty)=aF):ev P a (.cmp .Eq s t)=O (.bool (decide (A.head? =B.head?))):=by refine xe (Nu f) fun x b=>xe (Nu g) fun y c=>cK (d x b) (e y c) (bb (decide_eq_decide.mpr ?_));rw[b,c,one_inj,agz]
theorem Nw(st:aA→Sg)(A B:aD aA)(a:∀k,f (st k)=O (DR (A.drop k) (B.drop k)))(g:∀k,i (st k)=O (.next,st (k+1))):∀(n k:aA),A.length - k < n→
  ∃c,kB f i n (st k)=O (.next,st c)∧(A.drop c,B.drop c)=kH (A.drop k) (B.drop k):=by
 intro n
 induction n with
 |zero=>intro k h;lia
 |succ n ih=>
  intro k j;have a:=a k;cases b:A.drop k with
  |nil=>rw[b] at a;exact⟨k,vx a,by refine M b ?_;rfl⟩
  |cons x l=>
   cases d:B.drop k with
   |nil=>rw[b,d] at a;exact⟨k,vx a,by refine M b (M d ?_);rfl⟩
   |cons y m=>
    rw[b,d] at a;have o:DR (x::l) (y::m)=decide (x=y):=decide_eq_decide.mpr agz;rw[o] at a
    by_cases e:x=y
    ·rw[fM e] at a;have p:k < A.length:=agu fun q=>by rw[xf q] at b;cases b
     refine aQ (ih (k+1) (bK (Nat.pred_lt (Nat.sub_ne_zero_of_lt p)) (jB j))) fun c r s=>⟨c,(CM a (g k)).trans r,?_⟩;exact M s (aT Bm (aT Bm (M b (M d (M agA (M agA (M v5 (M (aS e) V))))))))
    ·rw[eP e] at a;exact⟨k,vx a,by exact M b (M d (M v5 (M (aP e) V)))⟩
section
variable(P:bT)
theorem aav(a b:aD aA)(c:a.length≤1000)(d:b.length≤1000)(e:Z)(f:aG PV)(n k:aA)(h:a.length - k < n):
  ∃g,kB (fun j=>(ev P j aau).bind truth) (bE P (.cons (.aug 3 .Add (.int 1)) .nil)) n {loc:=l5 (mk a) (mk b) e (O (.int (k:aA))) f}=O (.next,{loc:=l5 (mk a) (mk b) e (O (.int (g:aA))) f})∧(a.drop g,b.drop g)=kH (a.drop k) (b.drop k):=
 Nw (fun k=>{loc:=l5 (mk a) (mk b) e (O (.int (k:aA))) f}) a b (fun k=>by
  refine KZ (x:= .str (mk (a.drop k))) (y:= .str (mk (b.drop k))) ?_ (v6 (by refine M iP ?_;exact qV (xK c))) ?_ (v6 (by refine M iP ?_;exact qV (xK d))) (Nv (fun x i=> ?_) (fun x i=> ?_))
  ·exact v7 c k
  ·exact v7 d k
  ·exact zc (mu:=aB) c (Hy.symm.trans i)
  ·exact zc (mu:=aB) d (Hy.symm.trans i)) (fun k=>eM (qk (p:= .int k) (y:= .int 1) V rfl rfl)) n k h
end
end
section
theorem aaw(n j:aA)(h:j≠0):jC n (-(j:Z))=n - j:=by
 unfold jC;refine M (aS (Int.neg_neg_of_pos (dN.mpr (afU h)))) (M (lJ .. : -(j:Z)+n=(n:Z) - j) (M (Sp (AO _ (cW _))) ?_));rcases sv j n with q |q
 ·refine aT (Be q) ?_;rfl
 ·refine M (Int.max_eq_left (Int.sub_nonpos_of_le (cT.mpr q))) (M (Su q) ?_);rfl
theorem aax(l:aD aA)(j:aA):(l.reverse.drop j).reverse=l.take (l.length - j):=
 M List.drop_reverse (M (Sv ..) V)
theorem Nx(l:aD aA)(j:aA)(h:j≠0):gO (mk l) aB (O (-(j:Z)))=mk ((l.reverse.drop j).reverse):=by refine fT ?_;unfold gO;simp only[uM,nz,su];exact M (cZ ..) (M (aaw _ _ h) (M (aax ..) V))
theorem aay(l:aD aA):gO (mk l) aB aB=mk l:=by refine fT ?_;unfold gO;simp only[uM,nz,su];exact M (cZ ..) (M (mJ (cA _)) V)
theorem seqIndex_neg{j:aA}(h:j < n):oy (-(j:Z) - 1) n=O (n - 1 - j):=by
 unfold oy;simp only[show(-(j:Z) - 1 < 0) by exact pD.mp (By _),RJ];have q:n - 1 - j+(j+1)=n:=(aR (· +(j+1)) ((agB ..).trans (aR (n - ·) (gI 1 j)))).trans (r9 h)
 have e: -(j:Z) - 1+n=((n - 1 - j:aA):Z):=by have a:=aR Hw q;exact Tg a
 have b:((n - 1 - j:aA):Z) < n:=dN.mpr (Nat.lt_of_lt_of_eq (agC (nq j)) q);refine M e (M (fM b) (M (fM (cW _)) ?_));rfl
noncomputable def DS(i:aA):E:= .dE (.nm i) .none (.bo .Or (.cons (.nm 4) (.cons .none .nil)))
noncomputable def aaz:E:= .bo .And (.cons (DS 0) (.cons (DS 1) (.cons (.cmp .Eq (.sub (.nm 0) (.bin .Sub (.nm 4) (.int 1))) (.sub (.nm 1) (.bin .Sub (.nm 4) (.int 1)))) .nil)))
theorem Ny(h:l.length≤1000){j:aA}(a:l.reverse[j]? =O c):jq mu (.str (mk l)) (.int (-(j:Z) - 1))=O (.str (one c)):=by
 have b:j < l.length:=by
  rcases np j l.length with q |q
  ·exact q
  ·rw[xt (by simpa using q)] at a;cases a
 show aZ _ _=_;refine M (bB (by refine M (cZ ..) (M cN ?_);exact aL h (by decide))) (M (cZ ..) (M (seqIndex_neg b) (M (agx ..) ?_)))
 have e:(mk l).cps.getD (l.length - 1 - j) 0=c:=by
  refine M Q7 <|M agy ?_
  rw[afq b] at a;refine M a ?_;rfl
 refine M e ?_;rfl
theorem zd(d:l.length≤1000)(j:aA)(e:ev P b (.nm i)=O (.str (mk l)))(f:ev P b (.nm 4)=O (.int (-(j:Z)))):ev P b (DS i)=O (.str (mk ((l.reverse.drop j).reverse))):=by
 have H:ev P b (.bo .Or (.cons (.nm 4) (.cons .none .nil)))=O (if j=0 then .none else .int (-(j:Z))):=by
  refine bN f ?_
  by_cases a:j=0
  ·subst a;rfl
  ·refine M (aP a) ?_;refine(M (bne_iff_ne.mpr (show -(j:Z)≠0 by lia)) ?_:cond (-(j:Z) !=0) _ _=_);rfl
 refine bN e (bN (x:= .none) V (bN H ?_));have c:(mk l).length≤eF:=by refine M (cZ ..) (M cN ?_);exact aL d (by decide)
 by_cases a:j=0
 ·subst a;exact(bB c).trans <|M (aay ..) (M nz (M (Sv ..) V))
 ·refine M (aP a) <|(bB c).trans ?_
  exact M (Nx l j a) V
theorem ze{l:aD aA}{j n:aA}(h:l.length≤n):((l.reverse.drop j).reverse).length≤n:=by refine M xr (M iP (M xr ?_));exact qV (xK h)
theorem zf(l:aD aA):l.reverse.isEmpty=l.isEmpty:=by cases l<;>simp
theorem aaA(P:bT)(a b:aD aA)(c:a.length≤1000)(d:b.length≤1000)(e:Z)(f:aG PV)(n j:aA)(h:a.length - j < n):
  ∃g,kB (fun k=>(ev P k aaz).bind truth) (bE P (.cons (.aug 4 .Sub (.int 1)) .nil)) n {loc:=l5 (mk a) (mk b) e f (O (.int (-(j:Z))))}=O (.next,{loc:=l5 (mk a) (mk b) e f (O (.int (-(g:aA):Z)))})∧(a.reverse.drop g,b.reverse.drop g)=kH (a.reverse.drop j) (b.reverse.drop j):=
 Nw (fun j=>{loc:=l5 (mk a) (mk b) e f (O (.int (-(j:Z))))}) a.reverse b.reverse (fun j=>by
  unfold DR;refine aT (zf (a.reverse.drop j)) (aT (zf (b.reverse.drop j)) ?_);refine KZ (zd c j V rfl) (v6 (ze c)) (zd d j V rfl) (v6 (ze d)) <|M (zf ..) (M (zf ..) ?_)
  refine Nv (fun x i=> ?_) (fun x i=> ?_)
  ·exact Ny (mu:=aB) c (Hy.symm.trans i)
  ·exact Ny (mu:=aB) d (Hy.symm.trans i)) (fun j=>eM (qk (p:= .int (-(j:Z))) (y:= .int 1) V rfl (by exact aR (fun z=>O (PV.int z)) (by lia: -(j:Z) - 1= -((j+1:aA):Z))))) n j (by refine M xr ?_;exact h)
end
section
noncomputable def Nz(f:Str)(a:aD PV):aG PV:=if f="_substitution_cost" then s2 a fun x y=>if x.length≤1000∧y.length≤1000 then O (.int (tN x y)) else aB else aB
noncomputable def gU:bT:={gk:=ia,call:=Nz}
theorem aaB(W:Wd w c mb h₀):∀f a y,gU.call f a=O y→Ct w c mb h₀ T 1 f a y:=by intro f a y h;refine fI h (fun h=>Lc h fun x y h=> ?_) fun h=>nn h;refine xa (V' h) fun b h=> ?_;cases h;exact aas W x _ b.1 b.2
noncomputable def DT:B:=(.cons (.asg 12 (.bin .Add (.nm 9) (.call (aH "_substitution_cost") (.cons (.nm 8) (.cons (.sub (.nm 0) (.nm 11)) .nil)))))
  (.cons (.asg 9 (.sub (.nm 5) (.nm 11)))
  (.cons (.asg 13 (.bin .Add (.bi "min" (.cons (.nm 6) (.cons (.nm 9) .nil))) (.gk (aH "_MOVE_COST"))))
  (.cons (.asg 6 (.bi "min" (.cons (.nm 13) (.cons (.nm 12) .nil))))
  (.cons (.oP 5 (.nm 11) (.nm 6))
  (.cons (.ite (.cmp .Lt (.nm 6) (.nm 10)) (.cons (.asg 10 (.nm 6))
  .nil) .nil)
  .nil))))))
noncomputable abbrev stI(A B:Str)(a:Z)(pre post:aG PV)(b:aD Z)(c k:Z)(d:aA)(e f:Z)(g h i:aG PV)(pl:aU):Sg:=
 {loc:=[O (.str A),O (.str B),O (.int a),pre,post,O .bV,O (.int c),O (.int k),O (.str (one d)),O (.int e),O (.int f),g,h,i],mu:=O (b.map .int),pl:=pl}
theorem aaC(x y:aA):Nz (aH "_substitution_cost") [.str (one x),.str (one y)] =O (.int (cost x y)):=by exact(aS V).trans <|(aS ⟨by show 1≤1000;decide,by show 1≤1000;decide⟩:(if(one x).length≤1000∧(one y).length≤1000 then O (PV.int (cost x y)) else aB)=_)
theorem zg:gU.gk (aH "_MOVE_COST")=O 2:=Nt
theorem DU{a:aD Z}{j:aA}{r:Z}(c:a.length≤1000)(b:a[j]? =O r):qY (a.map .int) (j:Z)=O (.int r):=by have d:j < a.length:=(md.mp b).1;refine(bB (by refine M (bQ ..) (M cN ?_);exact aL c (by decide))).trans ?_;refine M (bQ ..) (M (rp d) (M (xI ..) (M im (M b ?_))));rfl
theorem aaD(a:aD aA)(B:Str)(n:a.length≤1000)(i:Z)(pre post:aG PV)(f:aD Z)(l:f.length≤1000)(b k:Z)(d:aA)(e g:Z)(j:aA)(x:aA)(r c:Z)(o:a[j]? =O x)(m:f[j]? =O r)(p q:aG PV)(s:aU)
  (t:(if e+cost d x < (if r < b then r else b)+2 then e+cost d x else(if r < b then r else b)+2)=c):
  ∃u v w,bE gU DT (stI (mk a) B i pre post f b k d e g (O (.int (j:aA))) p q s)=
   O (.next,stI (mk a) B i pre post (f.set j c) c k d r (if c < g then c else g) (O (.int (j:aA))) u v w):=by
 refine⟨O (.int (e+cost d x)),O (.int ((if r < b then r else b)+2)),aI,?_⟩;refine sg (x:= .int (e+cost d x)) (bM (x:= .int e) V (fO (bW (x:= .str (one d)) V (gE (hZ (x:= .str (mk a)) (y:= .int j) V rfl (zc n o)))) V (aaC d x)) iJ) V <|sg (x:= .int r) (hZ (x:= .bV) (y:= .int j) V rfl (DU l m)) V ?_
 refine sg (x:= .int ((if r < b then r else b)+2)) (bM (x:= .int (if r < b then r else b)) (iU (bW (x:= .int b) V (gE (x:= .int r) V)) V) (aR (j6 PV.int) zg) iJ) V <|sg (x:= .int c) (iU (bW (x:= .int ((if r < b then r else b)+2)) V (gE (x:= .int (e+cost d x)) V)) (by refine aT t ?_;rfl)) V ?_
 have y:j < f.length:=(md.mp m).1;refine nx (KW (k:=j) (x:= .int c) (xs:=f.map .int) V rfl rfl rfl rfl (cW _) (by refine M (bQ ..) ?_;exact dN.mpr y) (by refine M (bQ ..) ?_;exact aL l (by decide))) ?_;refine M (oH ..) (aT xJ ?_)
 by_cases h:c < g
 ·exact M (aS h) <|nx (it (cK (x:= .int c) (y:= .int g) V rfl (lW h)) (sg (x:= .int c) V rfl rfl)) V
 ·exact M (aP h) <|nx (eY (cK (x:= .int c) (y:= .int g) V rfl (lg h)) V) V
theorem NA{a:Type}{l r:aD a}{k:aA}{x:a}(h:l.drop k=x::r):l[k]? =O x∧l.drop (k+1)=r:=by
 constructor
 ·have:(l.drop k)[0]? =O x:=by refine M h ?_;rfl
  rwa [AC,si] at this
 ·refine aT Bm (M h ?_);rfl
theorem aaE(a:aD aA)(B:Str)(z:a.length≤1000)(t:Z)(pre post:aG PV)(k:Z)(h:aA)(f:aD aA):∀(b:aD Z) (j:aA) (done:aD Z) (c e g:Z) (n i l:aG PV) (m:aU) (o:aD Z×Z×Z),
  f.length=b.length→a.drop j=f→done.length=j→j+f.length≤1000→lr cost h f b e c g=o→
  ∃A C D E F,gP (bE gU DT) 11 ((qM j f.length).map fun q=> .int (q:aA)) (stI (mk a) B t pre post (done++b) c k h e g n i l m)=
   O (.next,stI (mk a) B t pre post (done++o.1) o.2.1 k h A o.2.2 C D E F):=by
 induction f with
 |nil=>intro b j done c e g n i l m o _ _ _ _ p;subst p;exact⟨e,n,i,l,m,rfl⟩
 |cons x f ih=>
  intro b j done c e g n i l m o u G s v p;cases b with
  |nil=>cases u
  |cons r b=>
   refine xa (NA G) fun H I=> ?_;obtain⟨d,w⟩:∃d,(if e+cost h x < (if r < c then r else c)+2 then e+cost h x else(if r < c then r else c)+2)=d:=⟨_,rfl⟩;rw[DP w] at p;subst p;have K:(done++r::b)[j]? =O r:=by refine aT s (M (pM (cA _)) (M (pK ..) ?_));rfl
   (refine xR (aaD a B z t pre post (done++r::b) (by refine M bH (aT u (M s ?_));exact v) c k h e g j x r d H K i l m w) ?_;rintro L N P y);(refine BD (ih b (j+1) (done++[d]) d r (if d < g then d else g) (O (.int (j:aA))) L N P _ (Gc u) I (by refine M bH (M s ?_);rfl) (by refine M (aev ..) ?_;exact v) V) ?_;rintro Q R S T U W)
   have X:(done++r::b).set j d=(done++[d])++b:=by refine aT s (M (uN _ _ (cA _)) (M (pK ..) (M (eZ ..) ?_)));rfl
   rw[X] at y;refine⟨Q,R,S,T,U,(ro y).trans (W.trans ?_)⟩;refine M (eZ ..) ?_;rfl
end
section
theorem aaF(c:aA)(b:aD aA):∀(a:aD Z) (d r m:Z),(lr cost c b a d r m).1.length=a.length:=by
 induction b with
 |nil=>exact fun J J J J=>rfl
 |cons x b ih=>
  intro a d r m;cases a with
  |nil=>rfl|cons e a=>exact aR (· +1) (ih a _ _ _)
noncomputable def zh:B:=(.cons (.asg 8 (.sub (.nm 1) (.nm 7)))
  (.cons (.uU 9 6 (.bin .Mult (.nm 7) (.gk (aH "_MOVE_COST"))))
  (.cons (.asg 10 (.int 9223372036854775807))
  (.cons (.forR 11 (.bi "len" (.cons (.nm 0) .nil)) DT)
  (.cons (.ite (.cmp .Gt (.nm 10) (.nm 2)) (.cons (.ret (.bin .Add (.nm 2) (.int 1)))
  .nil) .nil)
  .nil)))))
noncomputable abbrev zj(A B:Str)(a:Z)(pre post:aG PV)(b:aD Z)(c:Z)(d e f g h i j:aG PV)(pl:aU):Sg:=
 {loc:=[O (.str A),O (.str B),O (.int a),pre,post,O .bV,O (.int c),d,e,f,g,h,i,j],mu:=O (b.map .int),pl:=pl}
theorem zk(h:l.length≤1000):∀a,oS a "len" [.str (mk l)] =O (.int l.length):=fun a=>by show aZ _ _=_;exact M (bB (by refine M (cZ ..) (M cN ?_);exact aL h (by decide))) (M (cZ ..) V)
theorem aaG(a b:aD aA)(e:a.length≤1000)(s:b.length≤1000)(c:Z)(pre post:aG PV)(f:aD Z)(t:f.length=a.length)(u:Z)(k d:aA)(v:b[k]? =O d)(w x y n p q:aG PV)(r:aU)(o:aD Z×Z×Z)(z:lr cost d a f ((k:Z)*2) ((k:Z)*2) 9223372036854775807=o):
  ∃A B i j l m,bE gU zh (zj (mk a) (mk b) c pre post f u (O (.int (k:aA))) w x y n p q r)=
   O (if c < o.2.2 then .ret (.int (c+1)) else .next,zj (mk a) (mk b) c pre post o.1 o.2.1 (O (.int (k:aA))) (O (.str (one d))) A B i j l m):=by
 (refine BD (aaE a (mk b) e c pre post (k:Z) d a f 0 [] ((k:Z)*2) ((k:Z)*2) 9223372036854775807 n p q r o t.symm V rfl (by refine M (mI ..) ?_;exact e) z) ?_;rintro C i j l m h);rw[←uy] at h;refine⟨O (.int C),O (.int o.2.2),i,j,l,m,?_⟩;refine sg (x:= .str (one d)) (hZ (x:= .str (mk b)) (y:= .int k) V rfl (zc s v)) V <|nx (bN (x:= .int ((k:Z)*2)) (bM (x:= .int k) V (aR (j6 PV.int) zg) (vr (by decide) (by decide))) V) (sg (x:= .int 9223372036854775807) V rfl ?_)
 refine nx ((tv (N:=a.length) (iU (gE (x:= .str (mk a)) V) (zk e aB)) ⟨cW _,cT.mpr (aL e (by decide))⟩).trans h) ?_
 by_cases g:c < o.2.2
 ·exact M (aS g) <|cV (it (cK (x:= .int o.2.2) (y:= .int c) V rfl (CN g)) (cV (fU (x:= .int (c+1)) V rfl)))
 ·exact M (aP g) <|nx (eY (cK (x:= .int o.2.2) (y:= .int c) V rfl (CO g)) V) V
noncomputable def aaH(a:Sg)(z:Z):Fl→Prop
 | .ret v=>v= .int z| .next=>a.loc[6]? =O (O (.int z))| .brk=>bO
theorem aaI(a b:aD aA)(y:a.length≤1000)(z:b.length≤1000)(d:Z)(pre post:aG PV)(e:aD aA):∀(k:aA) (c:aD Z) (f:Z) (u g i j l m n:aG PV) (p:aU),b.drop k=e→c.length=a.length→
  ∃r s,gP (bE gU zh) 7 ((qM k e.length).map fun q=> .int (q:aA)) (zj (mk a) (mk b) d pre post c f u g i j l m n p)=O (s,r)∧aaH r (pa cost a d e k c f) s:=by
 induction e with
 |nil=>exact fun k c f u g i j l m n p J J=>⟨_,.next,rfl,rfl⟩
 |cons t e ih=>
  intro k c f u g i j l m n p A v;refine xa (NA A) fun B C=> ?_;have w:=aaF t a c ((k:Z)*2) ((k:Z)*2) 9223372036854775807;have st:=aaG a b y z d pre post c v f k t B g i j l m n p _ V;refine M DQ ?_;generalize lr cost t a c ((k:Z)*2) ((k:Z)*2) 9223372036854775807=o at st w ⊢;(refine H2 st ?_;clear st;rintro D E F G H I h)
  by_cases x:d < o.2.2
  ·rw[aS x] at h ⊢;exact⟨_,.ret (.int (d+1)),KQ h,rfl⟩
  ·rw[aP x] at h ⊢;exact iQ (ih (k+1) o.1 o.2.1 (O (.int (k:aA))) (O (.str (one t))) D E F G H I C (w.trans v)) fun r s K L=>⟨r,s,(ro h).trans K,L⟩
end
section
noncomputable def DV:B:=(.cons (.ite (.cmp .Gt (.bin .Mult (.bin .Sub (.bi "len" (.cons (.nm 1) .nil)) (.bi "len" (.cons (.nm 0) .nil))) (.gk (aH "_MOVE_COST"))) (.nm 2)) (.cons (.ret (.bin .Add (.nm 2) (.int 1)))
  .nil) .nil)
  (.cons (.mv 5 (.lS (.cons (.gk (aH "_MOVE_COST")) (.cons (.bin .Mult (.gk (aH "_MOVE_COST")) (.bin .Add (.bi "len" (.cons (.nm 0) .nil)) (.int 1))) (.cons (.gk (aH "_MOVE_COST")) .nil)))))
  (.cons (.asg 6 (.int 0))
  (.cons (.forR 7 (.bi "len" (.cons (.nm 1) .nil)) zh)
  (.cons (.ret (.nm 6))
  .nil)))))
theorem aaJ(n:aA):pX 2 (2*((n:Z)+1)) 2=(pb n).map .int:=by
 have e:(sj 2 (2*((n:Z)+1)) 2).toNat=n:=by
  show((if(2:Z) < 2*((n:Z)+1) then(2*((n:Z)+1) - 2 - 1) / 2+1 else 0)).toNat=n;cases n with
  |zero=>rfl
  |succ m=>
   have a:2*(((m+1:aA):Z)+1) - 2 - 1=1+2*(m:Z):=by lia
   have b:(1+2*(m:Z)) / 2=m:=(xA 1 m (by decide)).trans (sw _);refine M (aS (by lia:(2:Z) < 2*(((m+1:aA):Z)+1))) (M a (M b ?_));rfl
 unfold pX pb;refine M e (M j8 ?_);rfl
theorem NB(a b:aD aA)(l:a.length≤40)(f:b.length≤40)(c k j:Z):
  ∃g,bE gU DV {loc:=l5 (mk a) (mk b) c (O (.int k)) (O (.int j))}=O (.ret (.int (if c < ((b.length:Z) - a.length)*2 then c+1 else pa cost a c b 0 (pb a.length) 0)),g):=by
 have m:=zk (l:=a) (aL l (by decide)) aB;have n:=zk (l:=b) (aL f (by decide)) aB;have d:∀q,ev gU q (.gk (aH "_MOVE_COST"))=O (.int 2):=fun J=>aR (j6 PV.int) zg
 have o:=cK (o:= .Gt) (P:=gU) (σ:={loc:=l5 (mk a) (mk b) c (O (.int k)) (O (.int j))}) (a:= .bin .Mult (.bin .Sub (.bi "len" (.cons (.nm 1) .nil)) (.bi "len" (.cons (.nm 0) .nil))) (.gk (aH "_MOVE_COST"))) (b:= .nm 2) (y:= .int c)
  (bM (bM (iU (gE (x:= .str (mk b)) V) n) (iU (gE (x:= .str (mk a)) V) m) mA) (d _) (vr (by decide) (by decide))) V (VT)
 by_cases e:c < ((b.length:Z) - a.length)*2
 ·exact M (aS e) <|⟨_,cV (it (o.trans (bb (fM e))) (cV (fU (x:= .int (c+1)) V rfl)))⟩
 ·refine M (aP e) ?_;(refine iQ (aaI a b (aL l (by decide)) (aL f (by decide)) c (O (.int k)) (O (.int j)) b 0 (pb a.length) 0 aB aB aB aB aB aB aB aF rfl (by(rewrite[pb];exact M (bQ ..) (M Aw V)))) ?_;rintro g r h i);replace h:=Eq.symm uy▸h;refine⟨g,nx (eY (o.trans (bb (eP e))) V) (nx (tu (xs:=(pb a.length).map .int) V ?_) (sg (x:= .int 0) V rfl ?_))⟩
  ·refine bN (bW (d _) (bW (bM (d _) (bM (iU (gE (x:= .str (mk a)) V) m) V iJ) (tq (by decide) (by decide))) (gE (d _)))) ((bB ?_).trans (M (aaJ ..) V));exact⟨by decide,by decide,by lia,by lia,by decide,by decide⟩
  ·have p:=(tv (P:=gU) (i:=7) (b:=zh) (σ:=zj (mk a) (mk b) c (O (.int k)) (O (.int j)) (pb a.length) 0 aB aB aB aB aB aB aB aF) (N:=b.length) (iU (gE (a:= .nm 1) (x:= .str (mk b)) V) n) ⟨cW _,cT.mpr (aL f (by decide))⟩).trans h;cases r with
   |ret v=>cases i;exact cV p|next=>exact nx p (cV (fU (aR jb i) V))|brk=>exact i.elim
noncomputable def NC:B:=(.cons (.ite (.bo .Or (.cons (.un .Not (.nm 0)) (.cons (.un .Not (.nm 1)) .nil))) (.cons (.ret (.bin .Mult (.gk (aH "_MOVE_COST")) (.bin .Add (.bi "len" (.cons (.nm 0) .nil)) (.bi "len" (.cons (.nm 1) .nil)))))
  .nil) .nil)
  (.cons (.ite (.bo .Or (.cons (.cmp .Gt (.bi "len" (.cons (.nm 0) .nil)) (.gk (aH "_MAX_STRING_SIZE"))) (.cons (.cmp .Gt (.bi "len" (.cons (.nm 1) .nil)) (.gk (aH "_MAX_STRING_SIZE"))) .nil))) (.cons (.ret (.bin .Add (.nm 2) (.int 1)))
  .nil) .nil)
  (.cons (.ite (.cmp .Lt (.bi "len" (.cons (.nm 1) .nil)) (.bi "len" (.cons (.nm 0) .nil))) (.cons (.mW 0 1 (.nm 1) (.nm 0))
  .nil) .nil)
  DV)))
theorem aaK:gU.gk (aH "_MAX_STRING_SIZE")=O 40:=aaq
theorem aaL(a b:aD aA)(d:a.length≤40)(e:b.length≤40)(f k j:Z):
  ∃g,bE gU NC {loc:=l5 (mk a) (mk b) f (O (.int k)) (O (.int j))}=O (.ret (.int (zb cost f a b)),g):=by
 have len:∀{l:aD aA} {i:aA} {c:Sg},l.length≤40→ev gU c (.nm i)=O (.str (mk l))→ev gU c (.bi "len" (.cons (.nm i) .nil))=O (.int l.length):=fun h m=>iU (gE m) (zk (aL h (by decide)) _);have n:∀{l:aD aA} {i:aA} {c:Sg},l.length≤40→ev gU c (.nm i)=O (.str (mk l))→ev gU c (.un .Not (.nm i))=O (.bool l.isEmpty):=fun{l} _ _ h m=>bN m ((aR (j6 fun b=>PV.bool !b) (v6 (l:=l) (aL h (by decide)))).trans (bb (Bool.not_not _)));have q:∀{l:aD aA} {i:aA} {c:Sg},l.length≤40→ev gU c (.nm i)=O (.str (mk l))→ev gU c (.cmp .Gt (.bi "len" (.cons (.nm i) .nil)) (.gk (aH "_MAX_STRING_SIZE")))=O (.bool aI):=fun h m=>cK (len h m) (aR (j6 PV.int) aaK) (CO (ja.mpr (cT.mpr h)));have t:∀c,ev gU c (.gk (aH "_MOVE_COST"))=O (.int 2):=fun J=>aR (j6 PV.int) zg;unfold zb
 by_cases o:a=[]∨b=[]
 ·refine M (aS o) <|⟨_,cV (it (?_:ev gU {loc:=l5 (mk a) (mk b) f (O (.int k)) (O (.int j))} _=_) (cV (fU (bM (t _) (bM (len d V) (len e V) iJ) (tq (by decide) (by decide))) V)))⟩
  cases a with
  |nil=>exact KY (n d V)
  |cons x a=>
   obtain rfl:=o.resolve_left (fun h=>(by contradiction));exact vw (n d V) (n e V)
 ·refine M (aP o) ?_;have u:a.isEmpty=false:=xq.mpr fun h=>o (.inl h);have v:b.isEmpty=false:=xq.mpr fun h=>o (.inr h)
  have s:∀{r:aG (Fl×Sg)},bE gU (.cons (.ite (.cmp .Lt (.bi "len" (.cons (.nm 1) .nil)) (.bi "len" (.cons (.nm 0) .nil))) (.cons (.mW 0 1 (.nm 1) (.nm 0)) .nil) .nil) DV) {loc:=l5 (mk a) (mk b) f (O (.int k)) (O (.int j))}=r→bE gU NC {loc:=l5 (mk a) (mk b) f (O (.int k)) (O (.int j))}=r:=
   fun h=>nx (eY (vw ((n d V).trans (bb u)) ((n e V).trans (bb v))) V) (nx (eY (vw (q d V) (q e V)) V) h)
  by_cases p:b.length < a.length
  ·refine M (aS p) <|xe (NB b a e d f k j) fun g h=> ?_
   exact⟨g,s (nx (it (cK (len e V) (len d V) (lW (dN.mpr p))) V) h)⟩
  ·refine M (aP p) <|xe (NB a b d e f k j) fun g h=> ?_
   exact⟨g,s (nx (eY (cK (len e V) (len d V) (lg fun h=>p (dN.mp h))) V) h)⟩
theorem aaM(a b:aD aA)(d:a.length≤40)(g:b.length≤40)(c:Z):
  ∃i,bE gU (Kx 41) {loc:=[O (.str (mk a)),O (.str (mk b)),O (.int c),aB,aB,aB,aB,aB,aB,aB,aB,aB,aB,aB]}=O (.ret (.int (qu cost a b c)),i):=by
 have m:∀p,decide (mk a=mk b)=p→ev gU {loc:=l5 (mk a) (mk b) c aB aB} (.cmp .Eq (.nm 0) (.nm 1))=O (.bool p):=fun p h=>cK (x:= .str (mk a)) (y:= .str (mk b)) V rfl (bb h);unfold qu
 by_cases e:a=b
 ·exact M (aS e) <|⟨_,cV (it (m aF (fM (mk_inj.mpr e))) (cV (fU (x:= .int 0) V rfl)))⟩
 ·refine M (aP e) <|aQ (aav gU a b (aL d (by decide)) (aL g (by decide)) c aB 41 0 (ml (qK d _))) fun k q n=> ?_
  rw[nz,nz] at n;have f:(a.drop k).length≤40:=by refine M iP ?_;exact qV (xK d)
  have l:(b.drop k).length≤40:=by refine M iP ?_;exact qV (xK g)
  refine aQ (aaA gU (a.drop k) (b.drop k) (aL f (by decide)) (aL l (by decide)) c (O (.int (k:aA))) 41 0 (ml (qK f _))) fun j r o=> ?_;rw[nz,nz] at o;refine aT n ?_;dsimp only;refine aT o <|xe (aaL ((a.drop k).reverse.drop j).reverse ((b.drop k).reverse.drop j).reverse (ze f) (ze l) c k (-(j:aA):Z)) fun i h=> ?_
  exact⟨i,nx (eY (m aI (eP fun h=>e (mk_inj.mp h))) V) (sg (x:= .int 0) V rfl (nx q (sg (v7 (l:=a) (aL d (by decide)) k) V (sg (v7 (l:=b) (aL g (by decide)) k) V (sg (x:= .int 0) V rfl (nx r
   (sg (zd (aL f (by decide)) j V rfl) V (sg (zd (aL l (by decide)) j V rfl) V h))))))))⟩
section
theorem aaN(W:Wd w d mb h₀)(a b:aD aA)(e:a.length≤40)(f:b.length≤40)(c:Z):Ct w d mb h₀ T 2 "_levenshtein_distance" [.str (mk a),.str (mk b),.int c] (.int (rH a b c)):=by exact xe (aaM a b e f c) fun i h=>W.fn (n:=1) (i:=25) (P:=gU) (rest:=[aB,aB,aB,aB,aB,aB,aB,aB,aB,aB,aB]) (by decide) ⟨_,rfl⟩ V Vy (fun g J J J h=>xT (fun J J J=>rfl) g h) (Vx 41) fV (aaB W) V h V
end
end
section
open Builtin.Int (intBits)
theorem ND(h:aA)(a:0≤x)(b:0≤y)(c:y < 2^h):Gl (x*2^h) y=x*2^h+y:=by
 obtain⟨n,rfl⟩:∃n:aA,x=n:=⟨x.toNat,by exact Eq.symm (j4 a)⟩;obtain⟨m,rfl⟩:∃m:aA,y=m:=⟨y.toNat,by exact Eq.symm (j4 b)⟩;have d:m < 2^h:=dN.mp c;have e:((n:Z)*2^h)=((2^h*n:aA):Z):=by refine M (Bg ..) ?_;exact rfl
 refine M e (M (LK ..) (aT (Nat.two_pow_add_eq_or_of_lt d ..) ?_));exact rfl
theorem NE(h:aA)(a:0≤x):qI x (1*2^h - 1)=x % 2^h:=by obtain⟨n,rfl⟩:∃n:aA,x=n:=⟨x.toNat,by exact Eq.symm (j4 a)⟩;have b:0 < 2^h:=afE h;have e:((1:Z)*2^h - 1)=((2^h - 1:aA):Z):=(aR (· - 1) (gL _)).trans (Be b).symm;refine M e (M (LJ ..) (M (Nat.and_two_pow_sub_one_eq_mod ..) ?_));exact rfl
theorem DW{b:Z}{m:aA}(a:0 < b)(h:b < 2^m)(c:m≤8000):b≠0∧b.natAbs.log2 < 9000:=by refine⟨by exact fC a,?_⟩;have:=intBits_le (cJ a) h;unfold gZ at this;rw[aP (by simp;exact fC a)] at this;exact bK (Ga this) (aL c (by decide))
theorem tO{n:aA}(b:intBits a≤k)(h:k+n≤134217728):dC .LShift (.int a) (.int (n:Z))=O (.int (a*2^n)):=by show aZ _ _=_;exact M (bB ⟨by exact cW _,by simp only[Nat.reducePow,Sw];lia⟩) <|rfl
theorem v9{n:aA}:dC .RShift (.int a) (.int (n:Z))=O (.int (a / 2^n)):=by show aZ _ _=_;refine M (bB (cW _)) ?_;have:(0:Z) < 2^n:=jm (by decide);simp only[oH];exact M (tm this) V
theorem aaO{d:aG (aD PV)}{a b:Z}{m:aA}(c:0 < b)(h:b < 2^m)(e:m≤8000):oS d "divmod" [.int a,.int b] =O (.tup [.int (a / b),.int (a % b)]):=by show aZ _ _=_;exact M (bB (DW c h e)) (M (tm c) (M (CH c) V))
theorem aaP(P:bT)(c:P.gk (aH "_DIV_LIMIT")=O 4000)(a b:Z)(n m:aA)(g:intBits a≤n+4000)(d:0 < b)(h:b < 2^m)(e:m≤8000):
  ∃f,bE P yv {loc:=[O (.int a),O (.int b),O (.int (n:Z)),aB,aB,aB,aB,aB,aB,aB,aB]}=O (.ret (.tup [.int (a / b),.int (a % b)]),f):=
 ⟨_,cV (it (cK (bM (lf (x:= .int a) (z:= .int (intBits a)) V rfl rfl) (y:= .int n) V mA) (aR (j6 PV.int) c) (V4 (by lia))) (cV (fU (iU (jX (x:= .int a) (y:= .int b) V rfl) (aaO d h e)) V)))⟩
theorem NF:ia (aH "_DIV_LIMIT")=O 4000:=aar
section
theorem NG(W:Wd w c mb h₀)(a b:Z)(n m:aA)(d:intBits a≤n+4000)(f:0 < b)(h:b < 2^m)(g:m≤8000):Ct w c mb h₀ T 1 "_div2n1n" [.int a,.int b,.int (n:Z)] (.tup [.int (a / b),.int (a % b)]):=by exact xe (aaP bJ NF a b n m d f h g) fun j e=>W.fn (n:=0) (i:=9) (P:=bJ) (rest:=[aB,aB,aB,aB,aB,aB,aB,aB]) (by decide) ⟨_,rfl⟩ V Kp (fun i J J J h=>xT (fun J J J=>rfl) i h) Ko fV (fun J J J=>nn) V e V
end
end
section
open Builtin.Int (intBits)
noncomputable def NH(f:Str)(c:aD PV):aG PV:=if f="_div2n1n" then i3 c fun a b n=>aZ (0≤n∧(intBits a:Z)≤n+4000∧0 < b∧intBits b≤8000) (O (.tup [.int (a / b),.int (a % b)])) else aB
noncomputable def wa:bT:={gk:=ia,call:=NH}
theorem aaQ{x y:Z}(a:0≤x)(h:x≤y):x.natAbs≤y.natAbs:=
 cT.mp (by refine M (wV a) (M (wV (cL a h)) ?_);exact h)
theorem wb{x y:Z}(a:0≤x)(h:x≤y){n:aA}(b:intBits y≤n):intBits x≤n:=aL (Hz (aaQ a h) (cA _)) b
theorem NI{b t:Z}(a:0 < b)(c:0 < t):b≤b*t:=by
 have:=A9 (Ba c) (cJ a)
 rwa [sw,RH] at this
theorem wc{n:Z}(h:0≤n):∃k:aA,n=k:=⟨n.toNat,(j4 h).symm⟩
theorem aaR{w:aV}{d mb:Str→aG aJ}{h₀:bF}{T:aD Tab}(W:Wd w d mb h₀):∀f c y,wa.call f c=O y→Ct w d mb h₀ T 1 f c y:=by intro f c y h;refine fI h (fun h=>e3 h fun a b n h=>mS h fun h=> ?_) fun h=>nn h;(refine xe (wc h.1) ?_;rintro n rfl);exact NG W a b n (intBits b) (cT.mp h.2.1) h.2.2.1 (vF h.2.2.1) h.2.2.2
theorem aaS{n:aA}(c:intBits a≤n+4000)(d:0 < b)(e:intBits b≤8000):NH (aH "_div2n1n") [.int a,.int b,.int (n:Z)] =O (.tup [.int (a / b),.int (a % b)]):=
 (aS V).trans (bB ⟨cW n,cT.mpr c,d,e⟩)
theorem aaT(a:0 < b)(c:r < 0)(h:(-r).toNat < N+1):(-(r+b)).toNat < N:=by refine bK ((Int.toNat_lt_toNat (Int.neg_pos_of_neg c)).mpr ?_) (jB h);exact Int.neg_lt_neg (Int.lt_add_of_pos_right r a)
theorem aaU(P:bT)(c d e f g:aG PV)(b A:Z)(i:0 < b):∀(N:aA) (q r:Z),A=q*b+r→r < b→(-r).toNat < N→
  kB (fun k=>(ev P k (.cmp .Lt (.nm 7) (.int 0))).bind truth) (bE P (.cons (.aug 6 .Sub (.int 1)) (.cons (.aug 7 .Add (.nm 2)) .nil))) N {loc:=[c,d,O (.int b),e,f,g,O (.int q),O (.int r)]}=
   O (.next,{loc:=[c,d,O (.int b),e,f,g,O (.int (A / b)),O (.int (A % b))]}):=by
 intro N
 induction N with
 |zero=>exact fun J J J J h=>absurd h (R2 _)
 |succ N ih=>
  intro q r j l m
  by_cases a:r < 0
  ·exact(CM (bN (cK (x:= .int r) (y:= .int 0) V rfl (lW a)) V) (ag (p:= .int q) (y:= .int 1) V rfl VQ (ag (p:= .int r) (y:= .int b) V rfl CI V))).trans (ih (q - 1) (r+b) (M j (M (Bn ..) (M (gL ..) (M (lJ r b) (aT (qU ..) (M (xp ..) V)))))) (by have:=Int.add_lt_add_right a b;rwa [sw] at this) (aaT i a m))
  ·refine xa ((Sx i (a:=A) (q:=q) (r:=r)).mpr ⟨by exact M j (M (hH ..) (M (lJ ..) V)),ja.mp a,l⟩) fun n o=>M n (M o ?_);exact vx (bN (cK (x:= .int r) (y:= .int 0) V rfl (lg a)) V)
noncomputable def jh(a b:Z)(n:aA):Int:=if a / 2^n=b then 1*2^n - 1 else a / b
noncomputable def kI(b a:Z)(n:aA):Int:=if b / 2^n=a then b - a*2^n+a else b % a
theorem qr3(a f b c d:Z)(n:aA)(p:0≤a∧a < b)(s:0≤f∧f < 2^n)(k:0≤d∧d < 2^n)(g:0 < c)(l:b=c*2^n+d):
  a=jh a c n*c+kI a c n∧0≤kI a c n∧kI a c n*2^n+f - jh a c n*d < b∧0≤jh a c n∧kI a c n < b+b:=by
 have e:(0:Z) < 2^n:=jm (by decide);unfold jh kI;generalize(2:Z) ^n=t at*;have u:c≤b:=l▸cL (NI g e) (Sy k.1)
 by_cases h:a / t=c
 ·refine M (aS h) (M (aS h) ?_);have i:=nG a t;have m:=eD a (fC e:t≠0);have r:=gM a e;rw[h,hH] at i;refine⟨?_,by lia,?_,by lia,?_⟩
  ·refine M (gL ..) (M (Bn ..) (M (hH t c) ?_));lia
  ·
   have j:(a - c*t+c)*t+f - (1*t - 1)*d=(a - b)*t+f+b:=by refine M l ?_;simp only[Bn,HA,gL,hH t d];lia
   refine M j ?_;have:(a - b)*t≤(-1)*t:=sD (by lia) (cJ e);lia
  ·have:0≤c*t:=oG (cJ g) (cJ e);lia
 ·refine M (aP h) (M (aP h) ?_);have i:=nG a c;have m:=eD a (fC g:c≠0);have r:=gM a g;have o:0≤a / c:=kR p.1 (cJ g);refine⟨by refine M (hH ..) ?_;exact Eq.symm i,m,?_,o,by lia⟩;have j:a % c*t≤(c - 1)*t:=sD (by lia) (cJ e);rw[Bn] at j;have v:=oG o k.1;lia
theorem aaV(a d b c e:Z)(n:aA)(g:0≤a∧a < b)(o:0≤d∧d < 2^n)(l:0≤e∧e < 2^n)(i:0 < c)(k:b=c*2^n+e)(j:n≤4000)(q:intBits b≤n+4000):
  ∃N x,bE wa (Kr N) {loc:=[O (.int a),O (.int d),O (.int b),O (.int c),O (.int e),O (.int (n:Z)),aB,aB]}=O (.ret (.tup [.int ((a*2^n+d) / b),.int ((a*2^n+d) % b)]),x):=by
 refine jo (qr3 a d b c e n g o l i k) fun y r A P B=> ?_;have s:(0:Z) < 2^n:=jm (by decide);have t:c≤b:=k▸cL (NI i s) (Sy l.1);have m:intBits b≤8000:=aL q (lH j 4000);have C:intBits a≤8000:=wb g.1 (cJ g.2) m;have u:intBits c≤8000:=wb (cJ i) t m;have D:intBits e≤4000:=aL (intBits_le l.1 l.2) j;have E:intBits a≤n+4000:=wb g.1 (cJ g.2) q
 have F:intBits (jh a c n)≤8000:=by
  by_cases f:a / 2^n=c
  ·(rewrite[jh];refine M (aS f) (M (gL ..) ?_))
   exact aL (intBits_le (k:=n) (AY s) (Int.sub_lt_self _ (by decide))) (aL j (by decide))
  ·(rewrite[jh];refine M (aP f) ?_)
   exact wb (kR g.1 (cJ i)) (AN _ g.1) C
 have G:intBits (kI a c n)≤8001:=by have H:=Sz (x:=b) (y:=b) (m:=8000) (n:=8000) m m;exact wb r (cJ B) H
 have I:a*2^n+d=jh a c n*b+(kI a c n*2^n+d - jh a c n*e):=by have K:jh a c n*b=jh a c n*c*2^n+jh a c n*e:=M k (M (A8 ..) (M (lR ..) V));have L:a*2^n=(jh a c n*c+kI a c n)*2^n:=aR (· *2^n) y;exact M K (M L (M (HA ..) (M (qU ..) (M (qU ..) (M (lJ (_*e) ..) (M (xp ..) V))))))
 have v:=aaU wa (O (.int a)) (O (.int d)) (O (.int c)) (O (.int e)) (O (.int (n:Z))) b _ (dD i t) ((-(kI a c n*2^n+d - jh a c n*e)).toNat+1) (jh a c n) _ I A (kS _);generalize(-(kI a c n*2^n+d - jh a c n*e)).toNat+1=N at v
 refine⟨N,_,nx (σ':={loc:=[O (.int a),O (.int d),O (.int b),O (.int c),O (.int e),O (.int (n:Z)),O (.int (jh a c n)),O (.int (kI a c n))]}) ?_
  (sg (x:= .int (kI a c n*2^n+d - jh a c n*e)) (bM (bM (z:= .int (kI a c n*2^n+d)) (bM (x:= .int (kI a c n)) (y:= .int n) V rfl (tO G (aL (eK j _) (by decide)))) (y:= .int d) V (aR (fun z=>O (PV.int z)) (ND n r o.1 o.2)))
   (bM (x:= .int (jh a c n)) (y:= .int e) V rfl (bB (agD F D (by decide)))) mA) V (nx (VZ.trans v) (cV (fU (tA (x:= .int ((a*2^n+d) / b)) (y:= .int ((a*2^n+d) % b)) V rfl rfl) V))))⟩
 have w:∀{p:Sg},p.loc[0]? =O (O (.int a))→p.loc[5]? =O (O (.int (n:Z)))→ev wa p (.bin .RShift (.nm 0) (.nm 5))=O (.int (a / 2^n)):=fun h k=>bM (aR jb h) (aR jb k) v9;unfold jh kI
 by_cases f:a / 2^n=c
 ·refine M (aS f) (M (aS f) ?_)
  exact it (cK (w V rfl) (y:= .int c) V (La f)) (KX (bM (bM (x:= .int 1) (y:= .int n) V rfl (tO (k:=64) (by decide) (aL (eK j _) (by decide)))) (y:= .int 1) V mA)
   (bM (bM (x:= .int a) V (bM (x:= .int c) (y:= .int n) V rfl (tO u (aL (eK j _) (by decide)))) mA) (y:= .int c) V iJ) V rfl rfl)
 ·refine M (aP f) (M (aP f) ?_);exact eY (cK (w V rfl) (y:= .int c) V (yA f)) (tg (fO (bW (x:= .int a) V (jX (x:= .int c) (y:= .int n) V rfl)) V (aaS E i u)) V rfl)
section
theorem aaW(W:Wd w f mb h₀)(a c b e d:Z)(n:aA)(g:0≤a∧a < b)(i:0≤c∧c < 2^n)(j:0≤d∧d < 2^n)(k:0 < e)(l:b=e*2^n+d)(m:n≤4000)(o:intBits b≤n+4000):
  Ct w f mb h₀ T 2 "_div3n2n" [.int a,.int c,.int b,.int e,.int d,.int (n:Z)] (.tup [.int ((a*2^n+c) / b),.int ((a*2^n+c) % b)]):=by
 exact oL (aaV a c b e d n g i j k l m o) fun N q h=>W.fn (n:=1) (i:=10) (P:=wa) (rest:=[aB,aB]) (by decide) ⟨_,rfl⟩ V Vr (fun p J J J h=>Ib (fun J J J J J J=>rfl) p h) (Vq N) fV (aaR W) V h V
end
end
section
open Builtin.Int (intBits)
noncomputable def P3(c d b e a n:Z):Prop:=0≤n∧n≤4000∧(0≤c∧c < b)∧(0≤d∧d < 2^n.toNat)∧(0≤a∧a < 2^n.toNat)∧0 < e∧b=e*2^n.toNat+a∧(intBits b:Z)≤n+4000
noncomputable def v3(a b:Z):PV:= .tup [.int (a / b),.int (a % b)]
noncomputable def NJ(f:Str)(d:aD PV):aG PV:=if f="_div3n2n" then i6 d fun a c b e g n=>aZ (P3 a c b e g n) (O (v3 (a*2^n.toNat+c) b)) else aB
noncomputable def pe:bT:={gk:=ia,call:=NJ}
theorem aaX(W:Wd w c mb h₀):∀f a y,pe.call f a=O y→Ct w c mb h₀ T 2 f a y:=by intro f a y h;refine fI h (fun h=>e6 h fun d e b g i n h=>mS h fun h=> ?_) fun h=>nn h;(refine xe (wc h.1) ?_;rintro n rfl);(refine BF h ?_;clear h;rintro _ j k l m o p q);exact aaW W d e b g i n k l m o p (cT.mp j) (cT.mp q)
theorem NK{n:aA}(f:0≤a∧a < b)(g:0≤c∧c < 2^n)(h:0≤d∧d < 2^n)(i:0 < e)(j:b=e*2^n+d)(k:n≤4000)(l:intBits b≤n+4000):
  NJ (aH "_div3n2n") [.int a,.int c,.int b,.int e,.int d,.int (n:Z)] =O (.tup [.int ((a*2^n+c) / b),.int ((a*2^n+c) % b)]):=
 (aS V).trans (bB ⟨cW n,cT.mpr k,f,g,h,i,j,cT.mpr l⟩)
theorem aaY(a b:Z)(h:aA)(i:0≤a)(d:0 < b)(f:a < b*2^(2*h)):
  (a / 2^(2*h))*2^h+(a / 2^h) % 2^h=a / 2^h∧(0≤a / 2^(2*h)∧a / 2^(2*h) < b)∧
  a / b=(a / 2^h) / b*2^h+((a / 2^h) % b*2^h+a % 2^h) / b∧a % b=((a / 2^h) % b*2^h+a % 2^h) % b∧
  0≤((a / 2^h) % b*2^h+a % 2^h) / b∧((a / 2^h) % b*2^h+a % 2^h) / b < 2^h:=by
 have j:(2:Z) ^(2*h)=2^h*2^h:=by rw[QM,qT]
 rw[j] at f ⊢;have c:(0:Z) < 2^h:=jm (by decide);generalize(2:Z) ^h=t at*;have k:=nG a t;have l:=eD a (fC c:t≠0);have r:=gM a c;have m:a / (t*t)=a / t / t:=(Bf (cJ c)).symm;have n:=nG (a / t) t;have o:=nG (a / t) b;have p:=eD (a / t) (fC d:b≠0);have s:=gM (a / t) d
 have g:a=((a / t) % b*t+a % t)+(a / t) / b*t*b:=by
  have e:a=t*(b*(a / t / b)+a / t % b)+a % t:=by rw[o];exact k.symm
  rw[A8] at e
  have q:t*(b*(a / t / b))=a / t / b*t*b:=by rw[hH (a / t / b) t,lR,hH b]
  rw[q,hH t (a / t % b)] at e;exact kO e (kO (qU _ _ _) (lJ _ _))
 refine⟨?_,⟨?_,?_⟩,?_,?_,?_,?_⟩
 ·rw[m,hH];exact n
 ·exact kR i (oG (cJ c) (cJ c))
 ·exact uI (Bo c c) f
 ·conv=>lhs;rw[g]
  rw[agE _ _ (fC d)];exact lJ _ _
 ·conv=>lhs;rw[g]
  rw[Int.add_mul_emod_self_right]
 ·exact kR (by have:=oG p (cJ c);exact qN this l) (cJ d)
 ·refine uI d ?_;have:(a / t) % b*t≤(b - 1)*t:=sD (by lia) (cJ c);rw[Bn,hH b t] at this;lia
noncomputable def NL:B:=(.cons (.asg 4 (.bin .RShift (.nm 2) (.int 1)))
  (.cons (.asg 5 (.bin .Sub (.bin .LShift (.int 1) (.nm 4)) (.int 1)))
  (.cons (.mW 6 7 (.bin .RShift (.nm 1) (.nm 4)) (.bin .BitAnd (.nm 1) (.nm 5)))
  (.cons (.jp [8,9] (.call (aH "_div3n2n") (.cons (.bin .RShift (.nm 0) (.nm 2)) (.cons (.bin .BitAnd (.bin .RShift (.nm 0) (.nm 4)) (.nm 5)) (.cons (.nm 1) (.cons (.nm 6) (.cons (.nm 7) (.cons (.nm 4) .nil))))))))
  (.cons (.jp [10,9] (.call (aH "_div3n2n") (.cons (.nm 9) (.cons (.bin .BitAnd (.nm 0) (.nm 5)) (.cons (.nm 1) (.cons (.nm 6) (.cons (.nm 7) (.cons (.nm 4) .nil))))))))
  (.cons (.ite (.nm 3) (.cons (.aug 9 .RShift (.int 1))
  .nil) .nil)
  (.cons (.ret (.tup (.cons (.bin .BitOr (.bin .LShift (.nm 8) (.nm 4)) (.nm 10)) (.cons (.nm 9) .nil))))
  .nil)))))))
theorem NM(a b p:Z)(h:aA)(l:0≤a)(q:a < b*2^(2*h))(f:2^h≤b)(A:b < 2^(2*h))(j:h≤2500)(B:p=0∨p=1):
  ∃C,bE pe NL {loc:=[O (.int a),O (.int b),O (.int ((2*h:aA):Z)),O (.int p),aB,aB,aB,aB,aB,aB,aB]}=O (.ret (.tup [.int (a / b),.int (if p=0 then a % b else a % b / 2)]),C):=by
 have c:(0:Z) < 2^h:=jm (by decide);refine qX (aaY a b h l (dD c f) q) fun D F G H I K=> ?_;have a0:intBits b≤2*h:=intBits_le (cJ (dD c f)) A
 have r:b=b / 2^h*2^h+b % 2^h:=by have:=nG b (2^h);rw[hH] at this;exact Eq.symm this
 have s:0≤b % 2^h∧b % 2^h < 2^h:=⟨eD _ (fC c),gM _ c⟩;have t:0 < b / 2^h:=by have:=(aeP c:1≤b / 2^h↔1*2^h≤b).mpr (cL (oz (gL _)) f);exact dD (by decide) this
 have L:0≤(a / 2^h) % 2^h∧(a / 2^h) % 2^h < 2^h:=⟨eD _ (fC c),gM _ c⟩;have N:0≤a % 2^h∧a % 2^h < 2^h:=⟨eD _ (fC c),gM _ c⟩;have P:0≤(a / 2^h) % b∧(a / 2^h) % b < b:=⟨eD _ (fC (dD c f)),gM _ (dD c f)⟩;have u:=NK F L s t r (aL j (by decide)) (by lia);have Q:=NK P N s t r (aL j (by decide)) (by lia);rw[D] at u;generalize v:(a / 2^h) / b=k at*;generalize a1:(a / 2^h) % b=n at*;generalize a2:(n*2^h+a % 2^h) / b=w at*;generalize a3:(n*2^h+a % 2^h) % b=m at*;have y:0≤k:=by refine aT v ?_;exact kR (kR l (cJ c)) (cJ (dD c f))
 have R:intBits k≤8000:=by
  have S:a / 2^h < b*2^h:=by refine uI c ?_;refine M (lR ..) (aT (qT ..) (aT (QM ..) ?_));exact q
  have T:k < 2^h:=by exact aT v <|uI (dD c f) (by refine M (hH ..) ?_;exact S)
  exact aL (intBits_le y T) (aL j (by decide))
 have d:∀{g:Sg} {i:aA} {x:Z},g.loc[i]? =O (O (.int x))→ev pe g (.nm i)=O (.int x):=fun h=>aR jb h;have o:∀{g:Sg} {e:E} {x:Z},0≤x→ev pe g e=O (.int x)→g.loc[5]? =O (O (.int (1*2^h - 1)))→ev pe g (.bin .BitAnd e (.nm 5))=O (.int (x % 2^h)):=fun U W X=>bM W (d X) (aR (fun z=>O (PV.int z)) (NE h U));have Y:((2*h:aA):Z) / 2^1=h:=by lia
 refine⟨_,sg (x:= .int (h:Z)) (bM (x:= .int ((2*h:aA):Z)) (y:= .int 1) V rfl ((v9 (n:=1)).trans (aR (fun z=>O (PV.int z)) Y))) V
  (sg (bM (bM (x:= .int 1) (y:= .int h) V rfl (tO (k:=64) (by decide) (aL (eK j _) (by decide)))) (y:= .int 1) V mA) V
  (KX (bM (x:= .int b) (y:= .int h) V rfl v9) (o (cJ (dD c f)) (d (x:=b) V) V) V rfl
  (tg (fO (bW (bM (x:= .int a) (y:= .int ((2*h:aA):Z)) V rfl v9) (bW (o (kR l (cJ c)) (bM (x:= .int a) (y:= .int h) V rfl v9) V) (bW (d (x:=b) V) (bW (d V) (jX (d V) (d (x:=h) V)))))) V u) V
  (tg (fO (bW (d (x:=n) V) (bW (o l (d V) V) (bW (d (x:=b) V) (bW (d V) (jX (d V) (d (x:=h) V)))))) V Q) V
  (nx (σ':={loc:=[O (.int a),O (.int b),O (.int ((2*h:aA):Z)),O (.int p),O (.int (h:Z)),O (.int (1*2^h - 1)),O (.int (b / 2^h)),O (.int (b % 2^h)),O (.int k),O (.int (if p=0 then m else m / 2)),O (.int w)]}) ?_ (cV (fU (x:= .tup [.int (a / b),.int (if p=0 then a % b else a % b / 2)]) ?_ V)))))))⟩
 ·rcases B with rfl |rfl
  ·exact(nR (x:= .int 0) V rfl).trans rfl
  ·refine(ql (x:= .int 1) V rfl).trans (ag (p:= .int m) (y:= .int 1) (z:= .int (m / 2)) V rfl ?_ V);exact(bB (by decide)).trans <|M (show(2:Z) ^(1:Z).toNat=2 from rfl) (M (tm (by decide)) V)
 ·refine M G (M H ?_);exact tA (bM (bM (x:= .int k) (y:= .int h) V rfl (tO R (aL (eK j _) (by decide)))) (y:= .int w) V (aR (fun z=>O (PV.int z)) (ND h y I K))) V rfl
end
section
open Builtin.Int (intBits)
theorem we(h:a≤b):(2:Z) ^a≤2^b:=by have:=xC (n:=2) (by decide) h;have c:((2^a:aA):Z)=2^a:=rfl;have d:((2^b:aA):Z)=2^b:=rfl;lia
theorem aaZ(a b:Z)(n:aA)(ha:0≤a)(oZ:a < b*2^n)(vG:b < 2^n)(DX:2^n≤2*b)(NN:2≤n)(hn:n≤4999)(aht:¬intBits a≤n+4000)(haB:intBits a≤20000):
  ∃σ',bE pe yv {loc:=[O (.int a),O (.int b),O (.int (n:Z)),aB,aB,aB,aB,aB,aB,aB,aB]}=O (.ret (.tup [.int (a / b),.int (a % b)]),σ'):=by
 have e3:dC .BitAnd (.int (n:Z)) (.int 1)=O (.int ((n % 2:aA):Z)):=by refine aR (fun z=>O (PV.int z)) ((NE (x:=(n:Z)) 1 (cW _)).trans ?_);exact(Int.natCast_emod n 2).symm
 have go:∀{r:aG (Fl×Sg)},bE pe (.cons (.ite (.nm 3) (.cons (.aug 0 .LShift (.int 1)) (.cons (.aug 1 .LShift (.int 1)) (.cons (.aug 2 .Add (.int 1)) .nil))) .nil) NL) {loc:=[O (.int a),O (.int b),O (.int (n:Z)),O (.int ((n % 2:aA):Z)),aB,aB,aB,aB,aB,aB,aB]}=r→
   bE pe yv {loc:=[O (.int a),O (.int b),O (.int (n:Z)),aB,aB,aB,aB,aB,aB,aB,aB]}=r:=fun h=>
  nx (eY (cK (bM (lf (x:= .int a) (z:= .int (intBits a)) V rfl rfl) (y:= .int n) V mA) (aR (j6 PV.int) NF) (V5 (by lia))) V) (sg (bM (x:= .int n) (y:= .int 1) V rfl e3) V h)
 rcases Nat.mod_two_eq_zero_or_one n with hm |hm
 ·obtain⟨h,rfl⟩:∃h,n=2*h:=⟨n / 2,by exact S' hm⟩
  have DY:2^h≤b:=by
   have e:(2:Z) ^(2*h)=2^(2*h - 1)*2:=by refine aT (SA ..) ?_;congr 1;lia
   have:(2:Z) ^h≤2^(2*h - 1):=we (by lia);lia
  refine xe (NM a b 0 h ha oZ DY vG (by lia) (.inl V)) fun σ' h'=> ?_;rw[aS V] at h';rw[hm] at go;exact⟨σ',go (nx (nR (x:= .int ((0:aA):Z)) V rfl) h')⟩
 ·obtain⟨h,hh⟩:∃h,n+1=2*h:=⟨(n+1) / 2,by exact S9 hm⟩;have ep:(2:Z) ^(2*h)=2^n*2:=aT hh (M (SA ..) V);have pn:(0:Z) < 2^n:=jm (by decide)
  have s1:jW .LShift (.int a) (.int 1)=O (.int (a*2)):=by show aZ _ _=_;refine M (bB ⟨by decide,by simp only[Sw];exact Ba (dN.mpr (bZ haB (by decide)))⟩) ?_;rfl
  have bb:intBits b≤n:=intBits_le (cJ (xQ pn DX)) vG
  have s2:jW .LShift (.int b) (.int 1)=O (.int (b*2)):=by show aZ _ _=_;refine M (bB ⟨by decide,by simp only[Sw];lia⟩) ?_;rfl
  have DY:2^h≤b*2:=by have:(2:Z) ^h≤2^n:=we (Ta hh hm);exact cL (cL this DX) (oz (hH _ _))
  have aa0:a*2 < b*2*2^(2*h):=by
   refine M ep ?_
   have e:b*2*(2^n*2)=(b*2^n)*4:=by refine M (lR ..) (M (lR ..) ?_);congr 1;lia
   refine M e ?_;have:0≤b*2^n:=oG (cJ (xQ pn DX)) (cJ pn);lia
  (refine xe (NM (a*2) (b*2) 1 h (oG ha (by decide)) aa0 DY (by refine M ep ?_;lia) (by lia) (.inr V)) ?_;rintro σ' h');rw[aP (by decide)] at h';have d1:a*2 / (b*2)=a / b:=Int.mul_ediv_mul_of_pos_left _ _ (by decide)
  have d2:a*2 % (b*2) / 2=a % b:=by refine M (hH a 2) (M (hH b 2) (M (Int.mul_emod_mul_of_pos _ _ (by decide)) ?_));lia
  rw[d1,d2] at h';rw[hm] at go;refine⟨σ',go (nx ((ql (x:= .int ((1:aA):Z)) V rfl).trans (ag (p:= .int a) (y:= .int 1) V rfl s1 (ag (p:= .int b) (y:= .int 1) V rfl s2 (ag (p:= .int n) (y:= .int 1) V rfl CI V)))) ?_)⟩;exact M (xN hh:((n:Z)+1)=((2*h:aA):Z)) <|h'
section
theorem aa1(W:Wd w j mb h₀)(a b:Z)(n:aA)(e:0≤a)(f:a < b*2^n)(d:b < 2^n)(g:2^n≤2*b)(k:2≤n)(c:n≤4999):Ct w j mb h₀ T 3 "_div2n1n" [.int a,.int b,.int (n:Z)] (.tup [.int (a / b),.int (a % b)]):=by
 by_cases i:intBits a≤n+4000
 ·have:(0:Z) < 2^n:=jm (by decide);exact(NG W a b n n i (xQ this g) d (aL c (by decide))).up (by decide)
 ·have l:intBits a≤20000:=by have m:(0:Z) < 2^n:=jm (by decide);have:b*2^n < 2^n*2^n:=agF d m;rw[←qT] at this;exact aL (intBits_le e (uG f this)) (aL (fY c c) (by decide))
  exact xe (aaZ a b n e f d g k c i l) fun p h=>W.fn (n:=2) (i:=9) (P:=pe) (rest:=[aB,aB,aB,aB,aB,aB,aB,aB]) (by decide) ⟨_,rfl⟩ V Kp (fun o J J J h=>xT (fun J J J=>rfl) o h) Ko fV (aaX W) V h V
end
end
section
open Builtin.Int (intBits)
noncomputable def aa2(x:PV)(r:aG (aD Z)):aG (aD Z):=match x with
 | .int i=>r.map (i:: ·)| _=>aB
theorem aa3:ints? (x::a)=aa2 x (ints? a):=by cases x<;>rfl
theorem NO:∀{b:aD PV} {a:aD Z},ints? b=O a→b=a.map .int
 |[],a,h=>by cases h;rfl
 |x::b,a,h=>by
  replace h:=aa3▸h;cases x with
  |int i=>
   (refine aQ (me.mp h) ?_;rintro r e rfl);refine M (NO e) ?_;rfl
  | _=>exact nn h
theorem ints_map:∀a:aD Z,ints? (a.map .int)=O a
 |[] =>rfl|d::a=>aR (j6 (d:: ·)) (ints_map a)
noncomputable def sL(x:PV)(k:aD PV→aG PV):aG PV:=match x with
 | .lst a=>k a| _=>aB
theorem sL_ {k} (h:sL x k=O z):∃a,x= .lst a∧k a=O z:=by
 cases x with
 |lst a=>exact⟨a,rfl,h⟩| _=>exact nn h
noncomputable def P4a(a b n:Z):Prop:=0≤a∧a < b*2^n.toNat∧b < 2^n.toNat∧2^n.toNat≤2*b∧2≤n∧n≤4999
noncomputable def nD(a:Z)(n:aA):Nat:=(intBits a+n - 1) / n
noncomputable def NP(a n:Z):Prop:=0 < a∧1≤n∧n≤10000∧nD a n.toNat≤1000
noncomputable def P4c(a:aD Z)(n:Z):Prop:=0≤n∧n≤10000∧a.length≤1000∧a≠[]∧∀d∈a,0≤d∧d < 2^n.toNat
noncomputable def wf(f:Str)(c:aD PV):aG PV:=if f="_div2n1n" then i3 c fun a b n=>aZ (P4a a b n) (O (.tup [.int (a / b),.int (a % b)]))
 else if f="_int2digits" then i2 c fun a n=>aZ (NP a n) (O (.lst ((fW n.toNat (nD a n.toNat) a).map .int)))
 else if f="_digits2int" then lC c fun x r=>sL x fun c=>i1 r fun n=>(ints? c).bind fun d=>aZ (P4c d n) (O (.int (pack n.toNat d)))
 else aB
noncomputable def rI:bT:={gk:=ia,call:=wf}
theorem aa4(W:Wd w g mb h₀)(i:jY g h₀ T):∀f d y,rI.call f d=O y→Ct w g mb h₀ T 15 f d y:=by
 intro f d y h;refine fI h (fun h=>e3 h fun a b n h=>mS h fun h=> ?a) fun h=>fI h (fun h=>e2 h fun a n h=>mS h fun h=> ?b) fun h=>fI h (fun h=> ?c) fun h=>nn h
 case a=>
  (refine xe (wc (cL (by decide) h.2.2.2.2.1)) ?_;rintro n rfl);exact(aa1 W a b n h.1 h.2.1 h.2.2.1 h.2.2.2.1 (cT.mp h.2.2.2.2.1) (cT.mp h.2.2.2.2.2)).up (by decide)
 case b=>
  (refine xe (wc (cL (by decide) h.2.1)) ?_;rintro n rfl);exact XC W i ⟨cT.mp h.2.1,cT.mp h.2.2.1⟩ a _ h.1 V h.2.2.2
 case c=>
  (refine iQ (CP h) ?_;rintro _ _ rfl j);(refine aQ (sL_ j) ?_;rintro d rfl k);refine e1 k fun n h=>aQ (dQ h) fun m e l=>mS l fun h=> ?_;(refine xe (wc h.1) ?_;rintro n rfl);exact M (NO e) <|Xm W i (cT.mp h.2.1) h.2.2.1 h.2.2.2.1 h.2.2.2.2
noncomputable def nZ(b:Z)(n:aA):aD Z→Z→aD Z→Z×aD Z
 |[],r,qs=>(r,qs)|d::a,r,qs=>nZ b n a ((r*2^n+d) % b) (qs++[(r*2^n+d) / b])
theorem NQ{b r d:Z}{n:aA}(a:0≤r∧r < b)(c:0≤d∧d < 2^n):0≤r*2^n+d∧r*2^n+d < b*2^n:=by have e:(0:Z) < 2^n:=jm (by decide);have f:(r+1)*2^n≤b*2^n:=sD a.2 (cJ e);rw[HA,gL] at f;exact⟨qN (oG a.1 (cJ e)) c.1,dD (afu c.2 _) f⟩
theorem aa5(b:Z)(n:aA)(f:0 < b):∀(a:aD Z) (r:Z) (c p:aD Z),0≤r∧r < b→pack n c.reverse*b+r=pack n p.reverse→(∀d∈c,0≤d∧d < 2^n)→c.length=p.length→(∀d∈a,0≤d∧d < 2^n)→
  (0≤(nZ b n a r c).1∧(nZ b n a r c).1 < b)∧pack n (nZ b n a r c).2.reverse*b+(nZ b n a r c).1=pack n (p++a).reverse∧(∀d∈(nZ b n a r c).2,0≤d∧d < 2^n)∧(nZ b n a r c).2.length=(p++a).length:=by
 intro a
 induction a with
 |nil=>intro r c p g h i j _;refine M (jT ..) ?_;exact⟨g,h,i,j⟩
 |cons d a ih=>
  intro r c p g h i j k;have l:=k d (iN ..);refine xa (NQ g l) fun m o=> ?_;have q:=nG (r*2^n+d) b;refine M (by simp:p++d::a=(p++[d])++a) <|ih _ _ (p++[d]) ⟨eD _ (fC f),gM _ f⟩ ?_ ?_ (by simp[j]) (fun x e=>k x (hX _ e))
  ·refine M SD (M SD (M agG (M agG ?_)));show(_+_*pack n c.reverse)*b+_=d+_*pack n p.reverse;refine aT h (M (HA ..) (M (A8 ..) (M (lR ..) (M (hH _ b) (M (hH (2^n) r) ?_)))));lia
  ·intro x e;rcases jF.mp e with e |e
   ·exact i x e
   ·exact M (fK.mp e) <|⟨kR m (cJ f),uI f (by refine M (hH (2^n) b) ?_;exact o)⟩
noncomputable def NR:B:=(.cons (.jp [7,4] (.call (aH "_div2n1n") (.cons (.bin .Add (.bin .LShift (.nm 4) (.nm 2)) (.nm 6)) (.cons (.nm 1) (.cons (.nm 2) .nil)))))
  (.cons (.app 5 (.nm 7)) .nil))
noncomputable def NS:B:=(.cons (.asg 2 (.dH "bit_length" (.nm 1) .nil))
  (.cons (.asg 3 (.call (aH "_int2digits") (.cons (.nm 0) (.cons (.nm 2) .nil))))
  (.cons (.asg 4 (.int 0))
  (.cons (.mv 5 (.lst .nil))
  (.cons (.forL 6 aF (.nm 3) NR)
  (.cons (.uV 5) (.cons (.kV 5)
  (.cons (.asg 8 (.call (aH "_digits2int") (.cons (.nm 5) (.cons (.nm 2) .nil))))
  (.cons (.ret (.tup (.cons (.nm 8) (.cons (.nm 4) .nil))))
  .nil)))))))))
theorem aa6:dY (aK 13).scope Ks NS (aK 13).body=true:=by decide+kernel
noncomputable def zm(a b:Z)(n:aA)(c r:PV)(d e:aG PV)(f:aD Z):Sg:=
 {loc:=[O (.int a),O (.int b),O (.int (n:Z)),O c,O r,O .bV,d,e,aB],mu:=O (f.map .int)}
theorem aa7(a b:Z)(n:aA)(p:b < 2^n)(q:2^n≤2*b)(u:2≤n)(i:n≤4999)(j:PV):∀(e:aD Z) (r:Z) (c:aD Z) (f g:aG PV),0≤r∧r < b→(∀d∈e,0≤d∧d < 2^n)→c.length+e.length≤1000→
  ∃k l,gP (bE rI NR) 6 (e.map .int) (zm a b n j (.int r) f g c)=O (.next,zm a b n j (.int (nZ b n e r c).1) k l (nZ b n e r c).2):=by
 have s:0 < b:=by have:(0:Z) < 2^n:=jm (by decide);exact xQ this q
 intro e
 induction e with
 |nil=>intro r c f g _ _ _;exact⟨f,g,rfl⟩
 |cons d e ih=>
  intro r c f g m t o;have v:=t d (iN ..);refine xa (NQ m v) fun w y=> ?_
  have z:intBits r≤5000:=
   aL (intBits_le m.1 (uG m.2 p)) (by exact nB i)
  (refine oL (ih ((r*2^n+d) % b) (c++[(r*2^n+d) / b]) (O (.int d)) (O (.int ((r*2^n+d) / b))) ⟨eD _ (fC s),gM _ s⟩ (fun x A=>t x (hX _ A)) (by simp at o ⊢;exact aL (cI (ov _ _ _)) o)) ?_;rintro k l h);refine⟨k,l,(ro (σ':=zm a b n j (.int ((r*2^n+d) % b)) (O (.int d)) (O (.int ((r*2^n+d) / b))) (c++[(r*2^n+d) / b])) ?_).trans h⟩;have B:wf (aH "_div2n1n") [.int (r*2^n+d),.int b,.int (n:Z)] =O (.tup [.int ((r*2^n+d) / b),.int ((r*2^n+d) % b)]):=(aS V).trans (bB ⟨w,y,p,q,by exact cT.mpr u,by exact cT.mpr i⟩);refine tg (fO (bW (bM (bM (x:= .int r) (y:= .int n) V rfl (tO z (aL (eK i _) (by decide)))) (y:= .int d) V iJ) (jX (x:= .int b) (y:= .int n) V rfl)) V B) V (nx (yz (x:= .int ((r*2^n+d) / b)) (xs:=c.map .int) V rfl rfl rfl ?_) ?_)
  ·refine M (bQ ..) ?_;exact aL (hV _ _) (aL o (by decide))
  ·refine M ((iE (f:=PV.int) (l₁:=c) (l₂:=[_])).symm:List.map PV.int c++[PV.int ((r*2^n+d) / b)] =(c++[(r*2^n+d) / b]).map PV.int) ?_;rfl
end
section
open Builtin.Int (intBits)
theorem aa8{b:Z}(h:0 < b):2^intBits b≤2*b:=by obtain⟨n,rfl⟩:∃n:aA,b=n:=⟨b.toNat,by exact Eq.symm (j4 (cJ h))⟩;have c:n≠0:=eG (dN.mp (iD (by decide) h));unfold gZ;refine M (aP (by simpa using c)) ?_;have d:(2:aA) ^n.log2≤n:=Nat.log2_self_le c;have e:((2^n.log2:aA):Z)=2^n.log2:=rfl;simp only[Int.natAbs_natCast];omega
noncomputable def kh(a b:Z):Prop:=0 < b∧2≤intBits b∧intBits b≤4999∧(intBits a+intBits b - 1) / intBits b≤1000
theorem aa9(a b:Z)(m:0 < a)(l:kh a b):∃H,bE rI NS {loc:=[O (.int a),O (.int b),aB,aB,aB,aB,aB,aB,aB]}=O (.ret (.tup [.int (a / b),.int (a % b)]),H):=by
 (refine dX l ?_;clear l;rintro c q r g);have I:=aa8 c;have K:=vF c;have L:ev rI {loc:=[O (.int a),O (.int b),aB,aB,aB,aB,aB,aB,aB]} (.dH "bit_length" (.nm 1) .nil)=O (.int (intBits b)):=rfl;have B:=vF m
 have N:0 < intBits a:=by
  rcases R0 (intBits a) with h |h
  ·rw[h] at B;omega
  ·exact h
 generalize intBits b=n at*;generalize s:(intBits a+n - 1) / n=k at*
 have t:intBits a≤n*k:=by have h:=Nat.lt_mul_div_succ (intBits a+n - 1) (bK (by decide) q);rw[s,Nat.mul_succ] at h;exact aeB (Nat.le_of_pred_lt h)
 have P:1≤k:=by
  rcases R0 k with h |h
  ·rw[h] at t;exact nF (bK (bK N t) (ji _))
  ·exact h
 have Q:=LG n k a (cJ m) (dD B (we t))
 have R:wf (aH "_int2digits") [.int a,.int (n:Z)] =O (.lst ((fW n k a).map .int)):=by
  refine(aP (by decide+kernel)).trans ((aS V).trans (kO (bB ?_) ?_))
  ·unfold NP nD;refine M (oH ..) (M s ?_);exact⟨m,by exact cT.mpr (qB q),by exact cT.mpr (aL r (by decide)),g⟩
  ·unfold nD;exact M (oH ..) (M s V)
 have u:=tE n k a;have C:=LF n k a;(refine oL (aa7 a b n K I q r (.lst ((fW n k a).map .int)) (fW n k a).reverse 0 [] aB aB ⟨by exact(by decide),c⟩ (fun d i=>C d (pL.mp i)) (by simp[u];exact g)) ?_;rintro S U D);refine dX (aa5 b n c (fW n k a).reverse 0 [] [] ⟨by exact(by decide),c⟩ (by simp[vD]) (by simp) V (fun d i=>C d (pL.mp i))) fun v y F j=> ?_;rw[qQ,Sv,Q] at y;rw[qQ,xr,u] at j;generalize nZ b n (fW n k a).reverse 0 [] =o at D v y F j
 have W:wf (aH "_digits2int") [.lst (o.2.reverse.map .int),.int (n:Z)] =O (.int (pack n o.2.reverse)):=by refine(aP (by decide+kernel)).trans ((aP (by decide+kernel)).trans ((aS V).trans (bN (ints_map _) ?_)));refine bB ⟨by exact cW _,by exact cT.mpr (aL r (by decide)),by refine M xr ?_;exact aL (cI j) g,?_,fun d i=>F d (pL.mp i)⟩;exact fun e=>absurd (j.symm.trans (aR nk (List.reverse_eq_nil_iff.mp e))) (eG P)
 obtain⟨X,a0⟩:=(Sx c (a:=a) (q:=pack n o.2.reverse) (r:=o.1)).mpr ⟨by refine M (hH ..) (M (lJ ..) ?_);exact y,v.1,v.2⟩;refine M X (M a0 ?_);have G:∀{f:Str} {A:Sg} {e:E} {x z:PV},ev rI A e=O x→kW [x,.int n] =aF→wf f [x,.int n] =O z→A.loc[2]? =O (O (.int n))→ev rI A (.call f (.cons e (.cons (.nm 2) .nil)))=O z:=fun a1 a2 l a3=>fO (jX a1 (aR jb a3)) a2 l
 exact⟨_,sg (x:= .int n) L V (sg (G (x:= .int a) V rfl R V) V (sg (x:= .int 0) V rfl (nx (tu (xs:=[]) V (nS V (by decide) V)) (nx (σ':=zm a b n (.lst ((fW n k a).map .int)) (.int o.1) S U o.2)
  ((VY (xs:=(fW n k a).map .int) V (by refine M (bQ ..) (M u ?_);exact aL g (by decide))).trans (by refine aT uE ?_;exact D))
  (nx (V1 (xs:=o.2.map .int) V rfl (by refine M (bQ ..) ?_;exact aL (cI j) (aL g (by decide)))) (nx (CL (xs:=o.2.reverse.map .int) V (aR O (uE ..).symm)) (sg (G (x:= .lst (o.2.reverse.map .int)) V rfl W V) V (cV (fU (tA (x:= .int (pack n o.2.reverse)) (y:= .int o.1) V rfl rfl) V)))))))))⟩
section
variable{w:aV}{Y mb:Str→aG aJ}{h₀:bF}{T:aD Tab}
theorem aa'(W:Wd w Y mb h₀)(c:jY Y h₀ T)(a b:Z)(d:0 < a)(e:kh a b):Ct w Y mb h₀ T 16 "_divmod_pos" [.int a,.int b] (.tup [.int (a / b),.int (a % b)]):=by exact xe (aa9 a b d e) fun g h=>W.fn (n:=15) (i:=13) (P:=rI) (rest:=[aB,aB,aB,aB,aB,aB,aB]) (by decide) ⟨_,rfl⟩ V Vs (fun f J J J h=>pV (fun J J=>rfl) f h) aa6 fV (aa4 W c) V h V
end
noncomputable def DZ(p:Z→Prop)(f:Str)(c:aD PV):aG PV:=if f="_divmod_pos" then i2 c fun a b=>aZ (0 < a∧kh a b) (O (.tup [.int (a / b),.int (a % b)]))
 else if f="int_divmod" then i2 c fun a b=>aZ (p a∧kh a b) (O (.tup [.int (a / b),.int (a % b)])) else aB
noncomputable def n0(p:Z→Prop):bT:={gk:=ia,call:=DZ p}
theorem D0{w:aV}{Y mb:Str→aG aJ}{h₀:bF}{T:aD Tab}(W:Wd w Y mb h₀)(d:jY Y h₀ T){m:aA}{p:Z→Prop}(e:16≤m)(g:∀a b,p a→kh a b→Ct w Y mb h₀ T m "int_divmod" [.int a,.int b] (.tup [.int (a / b),.int (a % b)])):
  ∀f c y,(n0 p).call f c=O y→Ct w Y mb h₀ T m f c y:=by
 intro f c y h;exact fI h (fun h=>e2 h fun a b h=>mS h fun h=>(aa' W d _ _ h.1 h.2).up e) fun h=>fI h (fun h=>e2 h fun a b h=>mS h fun h=>g _ _ h.1 h.2) fun h=>nn h
theorem NT{p:Z→Prop}{a b:Z}(h:p a)(c:kh a b):DZ p (aH "int_divmod") [.int a,.int b] =O (.tup [.int (a / b),.int (a % b)]):=
 (aP (by decide+kernel)).trans ((aS V).trans (bB ⟨h,c⟩))
theorem aba(a b:Z)(c:0 < b): -((-a - 1) / b) - 1=a / b∧b+(-((-a - 1) % b) - 1)=a % b:=by have e:=nG (-a - 1) b;have l:=gM (-a - 1) c;have n:=eD (-a - 1) (fC c:b≠0);(refine xa ((Sx c (a:=a) (q:= -((-a - 1) / b) - 1) (r:=b+(-((-a - 1) % b) - 1))).mpr ⟨by refine M (afK ..) (M (Int.mul_neg ..) ?_);omega,by omega,by omega⟩) ?_;rintro d f);exact⟨d.symm,f.symm⟩
section
variable{p:Z→Prop}(a b:Z)
theorem D1{a b:Z}{r:aG (Fl×Sg)}(e:b≠0){s:S}(h:ex (n0 p) s {loc:=[O (.int a),O (.int b),aB,aB]}=r)(c:∃v d,r=O (.ret v,d)){f:B}:
  bE (n0 p) (.cons (.ite (.cmp .Eq (.nm 1) (.int 0)) f (.cons s .nil)) .nil) {loc:=[O (.int a),O (.int b),aB,aB]}=r:=by
 (refine oL c ?_;clear c;rintro v d rfl);exact cV (eY (cK (x:= .int b) (y:= .int 0) V rfl (yA e)) (cV h))
theorem abb(c:0 < a)(d:kh a b):∃f,bE (n0 p) vq {loc:=[O (.int a),O (.int b),aB,aB]}=O (.ret (.tup [.int (a / b),.int (a % b)]),f):=by have e:=d.1;have g:DZ p (aH "_divmod_pos") [.int a,.int b] =O (.tup [.int (a / b),.int (a % b)]):=(aS V).trans (bB ⟨c,d⟩);exact⟨_,D1 (p:=p) (fC e) (eY (cK (x:= .int b) (y:= .int 0) V rfl (lg (ja.mpr (cJ e)))) (cV (eY (cK (x:= .int a) (y:= .int 0) V rfl (lg (ja.mpr (cJ c)))) (cV (fU (fO (f:=aH "_divmod_pos") (jX (x:= .int a) (y:= .int b) V rfl) V g) V))))) ⟨_,_,rfl⟩⟩
theorem abc(e:a < 0)(f:p (-a - 1))(d:kh (-a - 1) b):∃g,bE (n0 p) vq {loc:=[O (.int a),O (.int b),aB,aB]}=O (.ret (.tup [.int (a / b),.int (a % b)]),g):=by
 have c:=d.1;refine xa (aba a b c) fun h i=>aT h (aT i ?_)
 exact⟨_,D1 (p:=p) (fC c) (eY (cK (x:= .int b) (y:= .int 0) V rfl (lg (ja.mpr (cJ c)))) (cV (it (cK (x:= .int a) (y:= .int 0) V rfl (lW e))
  (tg (fO (f:=aH "int_divmod") (jX (x:= .int (-a - 1)) (y:= .int b) V rfl) V (NT f d)) V (cV (fU (tA (x:= .int (-((-a - 1) / b) - 1)) (y:= .int (b+(-((-a - 1) % b) - 1))) V rfl rfl) V)))))) ⟨_,_,rfl⟩⟩
theorem abd(f:p a)(c:kh a b):∃g,bE (n0 p) vq {loc:=[O (.int (-a)),O (.int (-b)),aB,aB]}=O (.ret (.tup [.int (a / b),.int (-(a % b))]),g):=by have j:=c.1;have d:∀{e:Sg} {i:aA} {x:Z},e.loc[i]? =O (O (.int (-x)))→ev (n0 p) e (.un .USub (.nm i))=O (.int x):=fun h=>bN (aR jb h) (aR (fun z=>O (PV.int z)) (SE _));exact⟨_,D1 (p:=p) (by omega) (it (cK (x:= .int (-b)) (y:= .int 0) V rfl (lW (by omega))) (tg (fO (f:=aH "int_divmod") (jX (d V) (d V)) V (NT f c)) V (cV (fU (tA (x:= .int (a / b)) (y:= .int (-(a % b))) V rfl rfl) V)))) ⟨_,_,rfl⟩⟩
end
section
variable{w:aV}{Y mb:Str→aG aJ}{h₀:bF}{T:aD Tab}
theorem D2(W:Wd w Y mb h₀){m:aA}{p:Z→Prop}{a b:Z}{y:PV}(e:∀f c y,(n0 p).call f c=O y→Ct w Y mb h₀ T m f c y)(h:∃d,bE (n0 p) vq {loc:=[O (.int a),O (.int b),aB,aB]}=O (.ret y,d)):Ct w Y mb h₀ T (m+1) "int_divmod" [.int a,.int b] y:=by(refine xe h ?_;clear h;rintro d h);exact W.fn (n:=m) (i:=14) (P:=n0 p) (rest:=[aB,aB]) (by decide) ⟨_,rfl⟩ V Vu (fun g J J J h=>pV (fun J J=>rfl) g h) Vt fV e V h V
theorem NU(W:Wd w Y mb h₀)(c:jY Y h₀ T)(a b:Z)(d:0 < a)(e:kh a b):Ct w Y mb h₀ T 17 "int_divmod" [.int a,.int b] (.tup [.int (a / b),.int (a % b)]):=
 D2 W (p:=fun J=>bO) (D0 W c (cA _) fun J J h=>h.elim) (abb a b d e)
theorem NV(W:Wd w Y mb h₀)(e:jY Y h₀ T)(a b:Z)(d:0 < a∨a < -1)(c:kh a b):Ct w Y mb h₀ T 18 "int_divmod" [.int a,.int b] (.tup [.int (a / b),.int (a % b)]):=by
 rcases d with d |d
 ·exact(NU W e a b d c).up (by decide)
 ·refine D2 W (p:=fun a=>0 < a) (D0 W e (by decide) fun a b h c=>NU W e a b h c) (abc a b (dD d (by decide)) (by omega) ⟨c.1,c.2.1,c.2.2.1,?_⟩);have:intBits (-a - 1)≤intBits a:=Hz (y:=a) (by omega) (cA _);exact aL (Nat.div_le_div_right (qK (lH this _) 1)) c.2.2.2
theorem NW(W:Wd w Y mb h₀)(d:jY Y h₀ T)(t a b:Z)(f:t=1∨t= -1)(e:0 < a∨a < -1)(c:kh a b):Ct w Y mb h₀ T 19 "int_divmod" [.int (t*a),.int (t*b)] (.tup [.int (a / b),.int (t*(a % b))]):=by
 rcases f with rfl |rfl
 ·refine M (gL ..) (M (gL ..) (M (gL ..) ?_));exact(NV W d a b e c).up (by decide)
 ·refine M (sE ..) (M (sE ..) (M (sE ..) (M (gL ..) (M (gL ..) (M (gL ..) ?_)))));exact D2 W (p:=fun a=>0 < a∨a < -1) (D0 W d (by decide) fun a b h c=>NV W d a b h c) (abd a b e c)
end
end
section
open Builtin.Int (intBits)
noncomputable def rJ(y j:Z):Int:=if j < 2 then y - 1 else y
noncomputable def iA(y j d:Z):Int:=365*rJ y j+rJ y j / 4 - rJ y j / 100+rJ y j / 400+(153*((j+10) % 12)+2) / 5+d+1
noncomputable def gV(y j d:Z):Int:=iA y j d % 7
theorem D3{e:aA}(h:intBits a*e≤134217728):dC .Pow (.int a) (.int (e:Z))=O (.int (a^e)):=by show aZ _ _=_;have b:((intBits a*e:aA):Z)≤((134217728:aA):Z):=cT.mpr h;rw[Bd] at b;exact M (bB ⟨by exact cW _,b⟩) (M (oH ..) V)
theorem tP(c:intBits a≤m)(d:intBits b≤n)(h:m+n≤134217728):dC .Mult (.int a) (.int b)=O (.int (a*b)):=bB (agD c d h)
theorem abe(c:0 < b)(h:b < 2^m)(d:m≤8000):dC .FloorDiv (.int a) (.int b)=O (.int (a / b)):=by show aZ _ _=_;exact M (bB (DW c h d)) (M (tm c) V)
theorem abf(c:0 < b)(h:b < 2^m)(d:m≤8000):dC .Mod (.int a) (.int b)=O (.int (a % b)):=by show aZ _ _=_;exact M (bB (DW c h d)) (M (CH c) V)
theorem abg(h:2598≤e):(2:Z) ^4117≤3^e:=by
 have a:(2:aA) ^4117≤3^2598:=by decide+kernel
 have b:(3:aA) ^2598≤3^e:=xC (by decide) h
 exact_mod_cast aL a b
theorem abh(h:e≤2661):(3:Z) ^e < 2^4218:=by
 have a:(3:aA) ^2661 < 2^4218:=by decide+kernel
 have b:(3:aA) ^e≤3^2661:=xC (by decide) h
 exact_mod_cast bZ b a
theorem abi{z q d a b c:Z}(e:0≤z∧z≤20000)(f:0≤q∧q≤400)(g:1≤d∧d≤31)(h:0≤b∧b≤a)(j:a≤z)(i:0≤c∧c≤z):2≤365*z+a - b+c+q+d+1∧365*z+a - b+c+q+d+1≤10000000:=
 ⟨xo (nv (qN (qN (AY (cL h.2 (Int.le_add_of_nonneg_left (oG (by decide) e.1)))) i.1) f.1) g.1) 1,
  cL (xo (nv (nv (nv (cL (AO _ h.1) (nv (A9 e.2 (by decide)) (cL j e.2))) (cL i.2 e.2)) f.2) g.2) 1) (by decide)⟩
theorem abj:∀m < 12,0≤(153*((m:aA):Z)+2) / 5∧(153*((m:aA):Z)+2) / 5≤400:=by decide
theorem NX{y j d z:Z}(c:1≤d∧d≤31)(a:0≤z∧z≤20000)(e:rJ y j=z):2≤iA y j d∧iA y j d≤10000000:=by
 unfold iA;refine M e <|xe (qW (eD (j+10) (by decide:(12:Z)≠0))) fun m f=> ?_
 have b:=gM (j+10) (by decide:(0:Z) < 12);rw[f] at b ⊢;have g:0≤z / 4:=kR a.1 (by decide)
 have h:z / 100≤z / 4:=by refine M (show(100:Z)=4*25 from rfl) (aT (Bf (by decide)) ?_);exact AN _ g
 exact abi a (abj m (dN.mp b)) c ⟨kR a.1 (by decide),h⟩ (AN _ a.1) ⟨kR a.1 (by decide),AN _ a.1⟩
theorem abk(b:0≤y∧y≤20000)(i:0≤j∧j≤11)(a:1≤d∧d≤31)(l:¬(y=0∧j=1)):(2≤iA y j d∨iA y j d < -1)∧ -1000≤iA y j d∧iA y j d≤10000000:=by
 have c:2≤iA y j d∧iA y j d≤10000000→(2≤iA y j d∨iA y j d < -1)∧ -1000≤iA y j d∧iA y j d≤10000000:=fun k=>⟨.inl k.1,cL (by decide) k.1,k.2⟩
 by_cases e:j < 2
 ·by_cases f:y=0
  ·have h:j=0:=by lia
   refine M f (M h (M (rfl:iA 0 0 d= -60+d+1) ?_));have g: -60+d+1≤ -28:=xo (Bp a.2 (-60)) 1;exact⟨.inr (iD g (by decide)),cL (by decide) (xo (Bp a.1 (-60)) 1),cL g (by decide)⟩
  ·exact c (NX a ⟨xn (Int.lt_iff_le_and_ne.mpr ⟨b.1,Ne.symm f⟩),cL (AO _ (by decide)) b.2⟩ (aS e))
 ·exact c (NX a b (aP e))
theorem abl(d:1000000000≤P)(e:(2≤c∨c < -1)∧ -1000≤c∧c≤10000000)(f:0 < U)(g:0≤x∧x < U):0 < (z*P+c)*U+x∨(z*P+c)*U+x < -1:=by
 have i:0≤P:=cL (by decide) d
 have j:0 < z*P+c∨z*P+c≤ -2:=by
  rcases Int.lt_trichotomy z 0 with h |h |h
  ·exact .inr (cL (nv (cL (sD (xn h) i) (by refine M (Int.zero_sub ..) (M (sE ..) (M (gL ..) ?_));exact Int.neg_le_neg d:(0 - 1)*P≤ -1000000000)) e.2.2) (by decide))
  ·refine M h (M (Int.zero_mul ..) (M (sw ..) ?_));exact e.1.imp (fun q=>dD (by decide) q) fun q=>xn q
  ·have b:=sD h i;rw[sw,gL] at b;exact .inl (dD (by decide) (nv (cL d b) e.2.1))
 generalize z*P+c=a at j;rcases j with h |h
 ·exact .inl (Int.add_pos_of_pos_of_nonneg (Bo h f) g.1)
 ·have b:a*U+x < -2*U+U:=Int.add_lt_add_of_le_of_lt (sD h (cJ f)) g.2;exact .inr (dD b (by lia))
noncomputable def NY(f:Str)(c:aD PV):aG PV:=if f="int_divmod" then i2 c fun a b=>if 0 < b then aZ ((0 < a∨a < -1)∧kh a b) (O (.tup [.int (a / b),.int (a % b)])) else aZ ((0 < -a∨ -a < -1)∧kh (-a) (-b)) (O (.tup [.int ((-a) / (-b)),.int (-((-a) % (-b)))])) else aB
noncomputable def kJ:bT:={gk:=ia,call:=NY}
theorem abm(W:Wd w d mb h₀)(e:jY d h₀ T):∀f c y,kJ.call f c=O y→Ct w d mb h₀ T 19 f c y:=by
 intro f c y h;refine fI h (fun h=>e2 h fun a b h=> ?_) fun h=>nn h;rcases V9 h with⟨_,h⟩ |h
 ·refine mS h fun h=> ?_;have:=NW W e 1 a b (.inl V) h.1 h.2
  rwa [gL,gL,gL] at this
 ·refine mS h fun h=> ?_;have:=NW W e (-1) (-a) (-b) (.inr V) h.1 h.2
  rwa [agH,agH,sE,gL,gL,gL] at this
theorem abn(e:t=1∨t= -1)(d:0 < a∨a < -1)(c:kh a b):NY (aH "int_divmod") [.int (t*a),.int (t*b)] =O (.tup [.int (a / b),.int (t*(a % b))]):=by
 have f:=c.1;refine(aS V).trans ?_;rcases e with rfl |rfl
 ·refine M (gL ..) (M (gL ..) (M (gL ..) ?_));exact(aS f).trans (bB ⟨d,c⟩)
 ·refine M (sE ..) (M (sE ..) (M (sE ..) (M (gL ..) (M (gL ..) (M (gL ..) ?_)))));refine(aP (by lia)).trans <|M (SE ..) (M (SE ..) ?_)
  exact bB ⟨d,c⟩
theorem abo{c4 P c U x:Z}(a:0 < U)(b:0≤x∧x < U):(((146097*c4*P+c)*U+x) % (U*7)) / U=c % 7:=by
 refine M (LH _ _ _ a (by decide)) ?_
 have:((146097*c4*P+c)*U+x) / U=146097*c4*P+c:=by refine M (lJ ..) (M (agE _ _ (fC a)) (M (RY b.1 b.2) ?_));exact sw _
 refine M this ?_
 have e:146097*c4*P+c=c+7*(20871*(c4*P)):=by refine M (lR ..) ?_;generalize c4*P=q;lia
 exact M e (M (agI ..) V)
theorem abp(c:Z):1 - 2*(c / 5 % 2)=1∨1 - 2*(c / 5 % 2)= -1:=by lia
theorem twice(h:t=1∨t= -1):t*(t*x)=x:=by rcases h with rfl |rfl<;>lia
theorem abq(y j d v w A B g m:Z)(a7:0≤y∧y≤20000)(a8:0≤j∧j≤11)(a9:1≤d∧d≤31)(a':¬(y=0∧j=1))(aa:intBits g≤1048600):
  ∃ab,bE kJ KP {loc:=[O (.int y),O (.int j),O (.int d),O (.lst [.int v,.int w,.int A,.int B,.int g,.int m]),aB,aB,aB,aB,aB,aB]}=O (.ret (.int (gV y j d)),ab):=by
 obtain⟨e,ae,af,W⟩:∃e:aA,(2598+m / 10 % 64:Z)=e∧2598≤e∧e≤2661:=⟨(2598+m / 10 % 64).toNat,by lia,by lia,by lia⟩
 have H:(1000000000:Z)≤2^4010:=by have:(2:Z) ^30≤2^4010:=we (by decide);exact cL (by decide) this
 have I:intBits ((2:Z) ^4010)≤4011:=by refine intBits_le (cJ (jm (by decide))) ?_;have e:(2:Z) ^4011=2^4010*2:=SA ..;refine M e ?_;generalize(2:Z) ^4010=q at H ⊢;lia
 have X:dC .Pow (.int 2) (.int 4010)=O (.int (2^4010)):=D3 (e:=4010) (by decide)
 have ah:dC .Pow (.int 3) (.int (e:Z))=O (.int (3^e)):=D3 (by exact M (by decide:intBits 3=2) <|aL (uu _ W) (by decide))
 have lo:=abg af;have p:=abh W;have C:intBits ((3:Z) ^e)≤4218:=intBits_le (cJ (jm (by decide))) p;have n:(0:Z) < 3^e:=jm (by decide)
 have Y:intBits ((3:Z) ^e*7)≤4221:=intBits_le (by exact cJ (Bo n (by decide))) (by have e:(2:Z) ^4221=2^4218*8:=qT _ 4218 3;exact M e <|dD (agF p (by decide)) (A9 (by decide) (cJ (uG n p))))
 have a0:4118≤intBits ((3:Z) ^e*7):=by
  rcases np (intBits ((3:Z) ^e*7)) 4118 with h |h
  ·have o:=vF (by exact Bo n (by decide):(0:Z) < 3^e*7);have ai:(2:Z) ^intBits ((3:Z) ^e*7)≤2^4117:=we (by exact jB h);have K:=dD o (cL ai lo);exact absurd (A9 (by decide:(1:Z)≤7) (cJ n)) (by refine M (RH ..) ?_;exact pD.mpr K)
  ·exact h
 have L:=abk a7 a8 a9 a';generalize(2:Z) ^4117=b4 at lo;generalize b5:(2:Z) ^4010=P at H I X;generalize b6:(3:Z) ^e=U at*;have r:0≤m / 10 % U∧m / 10 % U < U:=⟨eD _ (fC n),gM _ n⟩;have a1:dC .Mod (.int (m / 10)) (.int U)=O (.int (m / 10 % U)):=abf n p (by decide);generalize b7:m / 10 % U=x at r a1;have a2:intBits (146097*g)≤18+1048600:=Bq (by decide) aa;have aj:intBits (146097*g*P)≤18+1048600+4011:=Bq a2 I;have ak:intBits (iA y j d)≤64:=AW (by exact dD (by decide) L.2.1) (by exact iD L.2.2 (by decide));have a3:intBits (146097*g*P+iA y j d)≤1052630:=aL (Sz aj ak) (by decide);have al:intBits ((146097*g*P+iA y j d)*U)≤1052630+4218:=Bq a3 C;have N:intBits ((146097*g*P+iA y j d)*U+x)≤1056849:=aL (Sz al (intBits_le r.1 (uG r.2 p))) (by decide);have am:=abl (z:=146097*g) H L n r;have an:dC .Mult (.int (146097*g)) (.int P)=O (.int (146097*g*P)):=tP a2 I (by decide);have ao:dC .Mult (.int (146097*g*P+iA y j d)) (.int U)=O (.int ((146097*g*P+iA y j d)*U)):=tP a3 C (by decide);have ap:=abo (c4:=g) (P:=P) (c:=iA y j d) n r;generalize aq:(146097*g*P+iA y j d)*U+x=c at*;have Q:=abp m;generalize ar:1 - 2*(m / 5 % 2)=t at Q;have R:intBits t≤64:=AW (by lia) (by lia);have D:0 < U*7:=Bo n (by decide)
 have as:kh c (U*7):=⟨D,by exact aL (by decide) a0,by exact aL Y (by decide),by refine jB (Nat.div_lt_of_lt_mul (bZ (lK _ 1) ?_));exact QL (bZ N (bK (by decide:1056849 < 4118*1000) (So 1000 a0))) _⟩
 have call:=abn Q am as;have au:dC .Mult (.int t) (.int c)=O (.int (t*c)):=tP R N (by decide)
 have av:dC .Mult (.int (t*7)) (.int U)=O (.int (t*(U*7))):=by
  have e:t*(U*7)=t*7*U:=by exact M (hH U ..) (M (lR ..) V)
  exact M e <|tP (m:=64) (AW (by lia) (by lia)) C (by decide)
 have aw:intBits (c / (U*7))≤1056850:=by refine Hz (y:=c) ?_ (aL N (by decide));exact Int.natAbs_ediv_le_natAbs ..
 have a4:0≤c % (U*7)∧c % (U*7) < U*7:=⟨eD _ (fC D),gM _ D⟩;have ax:intBits (c % (U*7))≤4221:=Hz (y:=U*7) (cT.mp (by refine M (wV a4.1) (M (wV (cJ D)) ?_);exact cJ a4.2)) Y;have ay:dC .Mult (.int (c / (U*7)*7)) (.int U)=O (.int (c / (U*7)*7*U)):=tP (m:=1056850+3) (Bq aw (by decide)) C (by decide);have az:intBits (t*(c % (U*7)))≤64+4221:=Bq R ax
 have a5:dC .Mult (.int t) (.int (t*(c % (U*7))))=O (.int (c % (U*7))):=by have:=tP (a:=t) (b:=t*(c % (U*7))) R az (by decide);rw[twice Q] at this;exact this
 have b0:c / (U*7)*7*U+c % (U*7)=c:=(aR (· +c % (U*7)) (by exact M (lR ..) (M (hH 7 U) (M (hH ..) V)))).trans (nG c (U*7));have b1:dC .FloorDiv (.int (c % (U*7))) (.int U)=O (.int (c % (U*7) / U)):=abe n p (by decide)
 have F:∀{f:Sg} (k:aA) (x:Z),k < 6→[PV.int v,.int w,.int A,.int B,.int g,.int m][k]? =O (.int x)→f.loc[3]? =O (O (.lst [.int v,.int w,.int A,.int B,.int g,.int m]))→ev kJ f (.sub (.nm 3) (.int k))=O (.int x):=by intro f k x b2 r K;refine hZ (aR jb K) (y:= .int (k:Z)) V ((bB (by refine M cN ?_;show 6≤16777216;decide)).trans ?_);exact M (rp (b2:k < nk [_,_,_,_,_,_])) (M (xI ..) (M r V))
 have s:∀{f:Sg} {e:E} {x b:Z},ev kJ f e=O (.int x)→0 < b→b < 4611686018427387904→ev kJ f (.bin .FloorDiv e (.int b))=O (.int (x / b)):=fun h u o=>bM h V (yx u o);have S:∀{f:Sg} {e:E} {x b:Z},ev kJ f e=O (.int x)→0 < b→b < 4611686018427387904→ev kJ f (.bin .Mod e (.int b))=O (.int (x % b)):=fun h u o=>bM h V (tn u o);have G:∀{f:Sg} {e:E} {x a:Z},ev kJ f e=O (.int x)→ -4611686018427387904 < a→a < 4611686018427387904→ev kJ f (.bin .Mult (.int a) e)=O (.int (a*x)):=fun h u o=>bM V h (tq u o);have a6:∀{f:Sg} {e:E} {x a:Z},ev kJ f e=O (.int x)→ -4611686018427387904 < a→a < 4611686018427387904→ev kJ f (.bin .Mult e (.int a))=O (.int (x*a)):=fun h u o=>bM h V (vr u o);have l:∀{f:Sg} {i:aA} {x:Z},f.loc[i]? =O (O (.int x))→ev kJ f (.nm i)=O (.int x):=fun h=>aR jb h
 have b3:ev kJ {loc:=[O (.int y),O (.int j),O (.int d),O (.lst [.int v,.int w,.int A,.int B,.int g,.int m]),aB,aB,aB,aB,aB,aB]} (.jc (.cmp .Lt (.nm 1) (.int 2)) (.bin .Sub (.nm 0) (.int 1)) (.nm 0))=O (.int (rJ y j)):=by
  refine M tr ?_;unfold rJ
  by_cases h:j < 2
  ·refine M (bN (cK (x:= .int j) (y:= .int 2) V rfl (lW h)) V) (M (aS h) ?_);rfl
  ·refine M (bN (cK (x:= .int j) (y:= .int 2) V rfl (lg h)) V) (M (aP h) ?_);rfl
 have q:∀{f:Sg} {k:Z} {z:Z} {i:aA},qY [.int (c / (U*7)),.int (t*(c % (U*7)))] k=O (.int z)→f.loc[i]? =O (O (.tup [.int (c / (U*7)),.int (t*(c % (U*7)))]))→ev kJ f (.sub (.nm i) (.int k))=O (.int z):=fun h p=>hZ (aR jb p) (y:= .int _) V h;have T:(2:aA)≤eF:=by refine M cN ?_;decide
 refine⟨_,sg b3 V (sg (bM (bM (bM (bM (bM (bM (G (l V) (by decide) (by decide)) (s (l V) (by decide) (by decide)) iJ) (s (l V) (by decide) (by decide)) mA) (s (l V) (by decide) (by decide)) iJ)
   (s (bM (G (S (bM (l (x:=j) V) (y:= .int 10) V iJ) (by decide) (by decide)) (by decide) (by decide)) (y:= .int 2) V iJ) (by decide) (by decide)) iJ) (l (x:=d) V) iJ) (y:= .int 1) V iJ) V
  (sg (x:= .int U) (bM (x:= .int 3) V (bM (x:= .int 2598) (z:= .int e) V (S (s (F 5 m (by decide) V rfl) (by decide) (by decide)) (by decide) (by decide)) (aR (fun z=>O (PV.int z)) ae)) ah) V
  (sg (x:= .int t) (bM (x:= .int 1) V (G (S (s (F 5 m (by decide) V rfl) (by decide) (by decide)) (by decide) (by decide)) (by decide) (by decide)) (aR (fun z=>O (PV.int z)) ar)) V
  (sg (x:= .int c) (bM (bM (bM (bM (G (F 4 g (by decide) V rfl) (by decide) (by decide)) (bM (x:= .int 2) (y:= .int 4010) V rfl X) an) (l (x:=iA y j d) V) iJ) (l V) ao) (bM (s (F 5 m (by decide) V rfl) (by decide) (by decide)) (l V) a1) (aR (fun z=>O (PV.int z)) aq)) V
  (sg (fO (jX (bM (l V) (l V) au) (bM (a6 (l V) (by decide) (by decide)) (l V) av)) V call) V
  (nx (eY (cK (bM (bM (a6 (q (bB T) V) (by decide) (by decide)) (l V) ay) (bM (l V) (q (bB T) V) a5) ((aR (fun z=>O (PV.int z)) b0))) (l V) (bb (xb _))) V)
  (cV (fU (bM (bM (l V) (q (bB T) V) a5) (l V) (b1.trans (aR (fun z=>O (PV.int z)) ap))) V))))))))⟩
section
theorem abr(W:Wd w b mb h₀)(k:jY b h₀ T)(y j d c e f g a i:Z)(l:0≤y∧y≤20000)(m:0≤j∧j≤11)(n:1≤d∧d≤31)(o:¬(y=0∧j=1))(p:intBits a≤1048600):Ct w b mb h₀ T 20 "_law_weekday" [.int y,.int j,.int d,.lst [.int c,.int e,.int f,.int g,.int a,.int i]] (.int (gV y j d)):=by exact xe (abq y j d c e f g a i l m n o p) fun r h=>W.fn (n:=19) (i:=34) (P:=kJ) (rest:=[aB,aB,aB,aB,aB,aB]) (by decide) ⟨_,rfl⟩ V VP (fun q J J J h=>BM (fun J J J J=>rfl) q h) VO fV (abm W k) V h V
end
end
section
noncomputable def dK:aD aA→aA→aU→aD (aA×aD aA)
 |[],i,aF=>[(i - 1,[92])]|[],_,aI=>[]|c::r,i,aF=>(i,[92,c])::dK r (i+1) aI|c::r,i,aI=>if c=92 then dK r (i+1) aF else(i,[c])::dK r (i+1) aI
noncomputable def kj:aD aA→aU→aU
 |[],e=>e| _::r,aF=>kj r aI|c::r,aI=>kj r (decide (c=92))
noncomputable def gW:Tb:=[(aH "addr",aF),(aH "pos",aF),(aH "escape",aF),(aH "ch",aF)]
theorem D4:je (aK 1).scope gW=true:=by decide+kernel
noncomputable def D5:E:= .tup (.cons (.nm 1) (.cons (.bin .Add (.str "\\") (.nm 3)) .nil))
noncomputable def D6:E:= .tup (.cons (.nm 1) (.cons (.nm 3) .nil))
noncomputable def y3G:E:= .tup (.cons (.nm 1) (.cons (.str "\\") .nil))
noncomputable def D7:E:= .cmp .Eq (.nm 3) (.str "\\")
inductive NZ:Prop
 |mk (q1 z1 q2 q3 q4 z2 q5 q6 p4 p5 x1 p6 p7 p8 p9 t1 y1 lh ll a3 t2 a4 y2 yN yO vN yP yQ t3 y3 yR yS yT:_) (h1:(aK 1).body=[.Assign [.Name "pos" q1] (.Constant (.int 0) z1 q2) q3,.Assign [.Name "escape" q4] (.Constant (.bool aI) z2 q5) q6,.For (.Tuple [.Name "pos" p4,.Name "ch" p5] x1 p6) (.Call (.Name "enumerate" p7) [.Name "addr" p8] [] p9) [.If t1 [.Expr (.Yield (O y1) lh) ll,a3] [.If t2 [a4] [.Expr (.Yield (O y2) yN) yO] vN] yP] [] yQ,.If t3 [.Expr (.Yield (O y3) yR) yS] [] yT]) (h2:j' (aK 1).scope gW (.asg 2 (.bool aI)) a3=aF) (h3:j' (aK 1).scope gW (.asg 2 (.bool aF)) a4=aF) (h4:bC (aK 1).scope gW (.nm 2) t1=aF) (h5:bC (aK 1).scope gW D7 t2=aF) (h6:bC (aK 1).scope gW (.nm 2) t3=aF) (h7:bC (aK 1).scope gW D5 y1=aF) (h8:bC (aK 1).scope gW D6 y2=aF) (h9:bC (aK 1).scope gW y3G y3=aF):NZ
theorem abt:NZ:=
 ⟨_,_,_,_,_,_,_,_,_,_,_,_,_,_,_,_,_,_,_,_,_,_,_,_,_,_,_,_,_,_,_,_,_,rfl,by decide+kernel,by decide+kernel,by decide+kernel,by decide+kernel,by decide+kernel,by decide+kernel,by decide+kernel,by decide+kernel⟩
noncomputable def Sc:PV→Prop
 | .none=>sa| .bool _=>sa| .int _=>sa| .str _=>sa| _=>bO
theorem RV.sc{K:PK}(h:RV w K ma v p)(hp:Sc p):RV w K' ma' v p:=by
 cases h with
 |none=>exact .none|bool=>exact .bool|int=>exact .int|str=>exact .str|tup=>exact hp.elim|lst=>exact hp.elim|bV=>exact hp.elim|gB=>exact hp.elim
theorem bL.sc{K:PK}(r:bL w K c b):(∀x∈b,Sc x)→bL w d c b:=
 bL.ind (C:=fun c b=>(∀x∈b,Sc x)→bL w d c b) (fun J=> .nil) (fun J J J J a J ih h=> .cons (a.sc (h _ (.head _))) (ih fun x f=>h x (.tail _ f))) r
structure n'(h₀:bF)(env:gK)(e it:aW):Prop where
 scope:env.scope=(aK 1).scope
 glob:env.globals=fL
 D8:env.builtins=i'
 hC:h₀.get? env.locals=aB
 he:h₀.get? e=aB
 hi:h₀.get? it=aB
 ce:env.locals≠e
 ci:env.locals≠it
 ei:e≠it
section
variable(w:aV)(mg mb:Str→aG aJ)(h₀:bF)(env:gK)(e it:aW)
noncomputable def KG:PK:=fun b=>h₀.get? b
noncomputable def cG(os:Gp)(a:eW pC):Cx:={mg:=mg,mb:=mb,h₀:=h₀,pY:=os,fH:=KG h₀,hE:=h₀,env:=env,T:=[],ir:=a}
noncomputable def GS(a:aM)(b:Sg)(s:aM):Prop:=∃m,Gd w (cG mg mb h₀ env a.os a.gens) gW (KG h₀) m aB s b
noncomputable def lu(a s:aM):Prop:=∀b o,b≠env.locals→b≠e→b≠it→a.heap.get? b=O o→s.heap.get? b=O o
noncomputable abbrev tQ(s:aM):Prop:=(∃o,s.heap.get? e=O o)∧∃o,s.heap.get? it=O o
noncomputable def tR(a:Sg):Prop:=a.mu=aB∧∀p,O p∈a.loc→Sc p
inductive N0(s₀ s:aM)(v:aJ)(x:aA×aD aA):Prop
 |mk (a o its k:_) (h1:v= .ref a) (h2:s.heap.get? a=O o) (h3:o.cls= .type "tuple") (h4:o.data= .seq its k) (h5:(∀K,bL w K its.toList [.int x.1,.str (mk x.2)])) (h6:(s₀.heap.get? a=aB∨h₀.get? a=O o)∧a≠env.locals∧a≠e∧a≠it):N0 s₀ s v x
noncomputable def RG:GenEnd:=fun n a r s=>r= .ok (.ret .none)∧n=0∧lu env e it a s∧iT a.gens s.gens∧s.os=a.os
noncomputable def YG(d:aD (aA×aD aA)):Protocol:=fun n a v s f=>(∃x,d[d.length - 1 - n]? =O x∧N0 w h₀ env e it a s v x)∧lu env e it a s∧tQ e it s∧(∃o,s.heap.get? env.locals=O o)∧iT a.gens s.gens∧s.os=a.os∧
 ∀c,(∀b∈[env.locals,e,it],∀o,s.heap.get? b=O o→c.heap.get? b=O o)→(∀b o,h₀.get? b=O o→c.heap.get? b=O o)→nr c.gens→f (.send .none) c
end
section
variable{e it:aW}
theorem zn{os:Gp}(d:Base mg mb h₀)(a:h₀.get? env.locals=aB)(f:s.heap.Ns env.locals m)(c:∀b o,h₀.get? b=O o→s.heap.get? b=O o)(g:iT i s.gens)(j:s.os=os):
  Fm (cG mg mb h₀ env os i) (KG h₀) m aB s:=
 {ns:=f,keep:=c,dJ:=a,low:=fun J J q=>q,le:= .refl _,cU:=fun b o J q=>c b o q,new:=fun J J q=> .inl q,cX:=a,mul:=fun J J J q=>((by contradiction)),gens:=g,os:=j,base:=d,dP:=fun J h=>((cO h).elim),eX:=fun J h=>((cO h).elim),tabs:=fun J h=>((cO h).elim)}
theorem abu{K:PK}(L:RL w K env aB gW m b)(d:∀p,O p∈b→Sc p):RL w (KG h₀) env aB gW m b:=by
 intro i x k p a c
 have f:k=true:=by
  match i,a with
  |0,a=>cases a;rfl|1,a=>cases a;rfl|2,a=>cases a;rfl|3,a=>cases a;rfl|i+4,a=>cases a
 subst f;exact aQ (L i x aF p a c) fun v g h=>⟨v,g,h.sc (d p (kt c))⟩
theorem GS.back(G:Gd w (cG mg mb h₀ env a.os a.gens) gW k h c s d)(f:tR d):GS w mg mb h₀ env a d s:=by
 (refine xa f ?_;clear f;rintro g i)
 have j:c=none:=by
  cases c with
  |none=>rfl|some p=>exact absurd G.Mi (by refine M g ?_;intro z;cases z)
 subst j;exact⟨h,zn G.F.base G.F.cX G.F.ns (fun b o q=>G.F.keep _ _ (G.F.le _ _ q)) G.F.gens G.F.os,abu G.L i,by refine M g ?_;exact .none,G.fl⟩
theorem GS.move(G:GS w mg mb h₀ env h c s)(d:∀o,s.heap.get? env.locals=O o→a.heap.get? env.locals=O o)(f:∀b o,h₀.get? b=O o→a.heap.get? b=O o)(g:nr a.gens):GS w mg mb h₀ env a c a:=by(refine xe G ?_;clear G;rintro m G);exact⟨m,zn G.F.base G.F.cX (G.F.ns.at' fun o q=>d o q) f (.refl g) V,G.L,G.Mi,G.fl⟩
structure AG(A:bX):Prop where
 hh:A.handled=aB
 hd:A.depth < 900
 hu:A.units < 9000
theorem D9(W:Wd w mg mb h₀)(X:n' h₀ env e it)(a:AG A)(os:Gp)(b:eW pC):Hyp w A (cG mg mb h₀ env os b) (aK 1).scope gW bJ 0:=
 ⟨a.hh,a.hd,a.hu,⟨X.scope,D4,X.glob,X.D8⟩,W.nc (T:=[]) fV (fun J J J h=>by cases h) _ V rfl rfl rfl⟩
section
variable{K:j5→cR Fin}
theorem N1(W:Wd w mg mb h₀)(X:n' h₀ env e it)(ha:AG (A.over c fs)){st:S}(ho:j' (aK 1).scope gW st py=aF)(hex:ex bJ st σ=O (.next,σ'))(hs:tR σ')(G:GS w mg mb h₀ env s₀ σ s)
  (h:∀s',GS w mg mb h₀ env s₀ σ' s'→(∀b o,b≠env.locals→s.heap.get? b=O o→s'.heap.get? b=O o)→jn (aO pg w) A R Y n s₀ c (K .next) fs s'):
  jn (aO pg w) A R Y n s₀ c ((jl py env).wrap K H gd lv) fs s:=by
 (refine xe G ?_;clear G;rintro m G);refine SF (wpAny_mono (yq st py _ σ σ' .next (D9 W X ha _ _) ho hex _ m aB s G) (fun f s' o=> ?_) fun J J x=>x.elim);obtain⟨K',m',my,k1,b1,ms,rfl,G'⟩:=o;exact h s' (.back G' hs) fun b o nb q=>b1 b o q nb (by intro z;cases z) fun t ht=>(cO ht).elim
theorem abv(h:aN (aO pg w) (A.over c f) (so t env (eval t env)) (fun b a=>jn (aO pg w) A R Y n g c ((eH (if b=aF then i else j) env).wrap K H k l) f a) (fun x a=>jn (aO pg w) A R Y n g c (H x) f a) s):
  jn (aO pg w) A R Y n g c ((jl (.If t i j m) env).wrap K H k l) f s:=by
 refine mU (jj (mU (wpAny_mono h (fun b a d=> ?_) fun J J x=>x)));cases b with
 |true=>rw[aS V] at d ⊢;exact d|false=>rw[aP cM] at d ⊢;exact d
theorem wg(W:Wd w mg mb h₀)(X:n' h₀ env e it)(j:AG (A.over c g))(k:bC (aK 1).scope gW i t=aF)(l:(ev bJ d i).bind truth=O b)(p:tR d)(G:GS w mg mb h₀ env f d s)
  (h:∀a,GS w mg mb h₀ env f d a→(∀b o,b≠env.locals→s.heap.get? b=O o→a.heap.get? b=O o)→jn (aO pg w) A R Y n f c ((eH (if b=aF then r else u) env).wrap K H v x) g a):
  jn (aO pg w) A R Y n f c ((jl (.If t r u F) env).wrap K H v x) g s:=by
 (refine xe G ?_;clear G;rintro m G);refine abv ((((cY (D9 W X j _ _) i t k).2 b l).then G.F G.L G.Mi fun I a y B C=> ?_));exact h a (.back (G.of y B) p) fun b o D q=>C b o q D (by intro z;cases z) fun t E=>(cO E).elim
theorem N2(W:Wd w mg mb h₀)(X:n' h₀ env e it)(P:AG (A.over c j))(Q:bC (aK 1).scope gW C y=aF)(R:ev bJ k C=O (.tup [.int x.1,.str (mk x.2)]))
  (S:tR k) (G:GS w mg mb h₀ env h k s) (D:lu env e it h s) (l:tQ e it s) (T:f.drop (f.length - (r.length+1))=x::r)
  (U:AZ j=aB) (Y:a0 aI=aI) (a1:j.any Hf=aI)
  (a2:∀(i d:aM),(∀b o,b≠env.locals→s.heap.get? b=O o→i.heap.get? b=O o)→(∀b∈[env.locals,e,it],∀o,i.heap.get? b=O o→d.heap.get? b=O o)→GS w mg mb h₀ env d k d→
   jn (aO pg w) A a3 (YG w h₀ env e it f) r.length d c (K .next) j d):
  jn (aO pg w) A a3 (YG w h₀ env e it f) (r.length+1) h c ((jl (.Expr (.Yield (O y) aq) ar) env).wrap K as a0 au) j s:=by
 (refine xe G ?_;clear G;rintro av G);have a4:=D9 W X P h.os h.gens;refine seg_Expr_Yield U Y a1 ?_ (by refine M X.scope ?_;rfl) (by unfold interactive;refine M X.scope ?_;rfl);refine((cY (a4.here (KG h₀) aB s.heap) C y Q).ev R G.here).then fun a5 aw (i:aM) a6 p E a7=> ?_
 intro ax a8;have m:∀b o,b≠env.locals→s.heap.get? b=O o→i.heap.get? b=O o:=fun b o a9 q=>E b o q a9 (by intro z;cases z) fun t a'=>(cO a').elim;have F:=G.F.back p E;(refine ip a7.sJ ?_;rintro a o aa ab rfl g ae af ah);have ai:f.length - 1 - r.length=f.length - (r.length+1):=(agB _ _ _).trans (aR _ (gI 1 _));refine⟨⟨x,?_,a,o,aa,ab,rfl,F.keep _ _ g,ae,af,fun K=>ah.sc ?_,?_⟩,?_,⟨xe l.1 fun o q=>⟨o,m _ o X.ce.symm q⟩,xe l.2 fun o q=>⟨o,m _ o X.ci.symm q⟩⟩,eQ F.ns fun o J J q J=>⟨o,q⟩,F.gens,F.os,fun d H aj ak=>a8 .none d ?_⟩
 ·refine M ai ?_;have:(f.drop (f.length - (r.length+1)))[0]? =O x:=by refine M T ?_;rfl
  rwa [AC,si] at this
 ·intro ay u;rcases gA.mp u with rfl |u
  ·trivial
  ·refine M (fK.mp u) ?_;trivial
 ·have v:a≠env.locals:=fun q=>by have z:a5 env.locals=none:=p.dJ;(replace g:=q▸g;replace g:=z▸g);cases g
  have n:=p.new a o g;rw[rj v (by intro z;cases z)] at n
  have I:a≠e:=fun y=>by
   refine xe l.1 fun al B=> ?_;rcases n with z |z
   ·replace z:=y▸z;have z:h₀.get? e=O o:=z;replace z:=X.he▸z;cases z
   ·(replace z:=y▸z;replace z:=B▸z);cases z
  have L:a≠it:=fun y=>by
   refine xe l.2 fun al B=> ?_;rcases n with z |z
   ·replace z:=y▸z;have z:h₀.get? it=O o:=z;replace z:=X.hi▸z;cases z
   ·(replace z:=y▸z;replace z:=B▸z);cases z
  refine⟨?_,v,I,L⟩;rcases n with z |z
  ·exact .inr z
  ·refine .inl ?_;cases q:h.heap.get? a with
   |none=>rfl
   |some am=>
    have:=D a am v I L q;replace this:=z▸this;cases this
 ·exact fun b o N an ao q=>m b o N (D b o N an ao q)
 ·have ap:GS w mg mb h₀ env h k i:= .back (G.of a6 F) S;exact a2 i d m H (ap.move (H _ (iN ..)) aj ak)
end
end
end
section
theorem N3{K:PK}(hh:A.handled=aB)(H:fF c sc tb)(h1:m0 tb is ts=aF)
  (hT:s.heap.IsTuple T its) (r:bL w K its.toList xs) (hl:xs.length=is.length) (G:Gd w c tb K m mu s σ):
  aN (aO pg w) A (AT (.Tuple ts x1 p) c.env (.ref T)) (fun J s'=>Out w c tb K mu s.heap .next s' .next (putAll σ is xs)) (fun J J=>bO) s:=by
 refine xa (JY h1) fun l1 l2=>xa (l2 c.env) fun l2 l3=> ?_;have hsz:its.size=xs.length:=by refine aT r.length ?_;exact rfl
 refine wpAny_bind (jj (afj hh (items:=its) hT (Eq.symm (kO (kO hsz hl) (Eq.symm l2))) l3 fun h' hs=> ?_));have hk:∀b o,s.heap.get? b=O o→h'.get? b=O o:=fun b o e=>hs b o (fE (fA e)) e;have F2:=G.F.grow (tk:=s.toks) hk;exact JX H h1 r hl (G.of (.refl K) F2) (.refl K) (KB.of_keeps hk) .refl
noncomputable def kK(x:Str)(p:Z)(a:aU)(b:aG PV):Sg:={loc:=[O (.str x),O (.int p),O (.bool a),b]}
theorem D'(b:∀q,c=O q→Sc q):tR (kK x p d c):=by
 refine⟨rfl,fun q a=> ?_⟩;simp only[kK,gA,cO,or_false] at a;rcases a with h |h |h |h
 ·cases h;trivial
 ·cases h;trivial
 ·cases h;trivial
 ·exact b q h.symm
theorem pj:tR (kK x p a (O (.str (one c)))):=D' fun q h=>by cases h;trivial
theorem Ea{b:Type}{a r:aD b}{x:b}(h:a.drop (a.length - (r.length+1))=x::r):a.drop (a.length - r.length)=r:=by have c:=aR nk h;rw[iP,j3] at c;have:a.length - r.length=(a.length - (r.length+1))+1:=Th c;refine M this (aT Hm (M h ?_));rfl
structure BG(t1 y1:Expr)(a3:bR)(t2:Expr)(a4:bR)(y2:Expr):Prop where
 h3:j' (aK 1).scope gW (.asg 2 (.bool aI)) a3=aF
 h4:j' (aK 1).scope gW (.asg 2 (.bool aF)) a4=aF
 N4:bC (aK 1).scope gW (.nm 2) t1=aF
 N5:bC (aK 1).scope gW D7 t2=aF
 hy1:bC (aK 1).scope gW D5 y1=aF
 hy2:bC (aK 1).scope gW D6 y2=aF
theorem N6(x:Str)(p:Z)(a:aU)(c:aA):(ev bJ (kK x p a (O (.str (one c)))) D7).bind truth=O (decide (c=92)):=by
 show O (decide (one c=aH "\\"))=_
 congr 1
 refine M (by decide+kernel:aH "\\"=one 92) ?_
 by_cases h:c=92
 ·subst h;exact rfl
 ·(refine M (eP h) ?_;rw[eP]);intro e;apply h;have:=aR (fun z:Str=>z.cps.toList) e;simpa [one] using this
theorem abw(x:Str)(p:aA)(b:aU)(c:aA):ev bJ (kK x p b (O (.str (one c)))) D5=O (.tup [.int p,.str (mk [92,c])]):=by
 have d:dC .Add (.str (aH "\\")) (.str (one c))=O (.str (mk [92,c])):=
  bB (by refine M cN ?_;show 2≤16777216;decide)
 refine(M d ?_:((O (PV.int p)).bind fun z=>(((dC .Add (.str (aH "\\")) (.str (one c))).bind fun q=>(O []).bind fun a=>O (q::a)).bind fun a=>O (z::a))).bind _=_);exact bB ⟨by show 2≤1000;decide,rfl⟩
theorem abx(x:Str)(p:aA)(a:aU)(c:aA):ev bJ (kK x p a (O (.str (one c)))) D6=O (.tup [.int p,.str (mk [c])]):=bB ⟨by show 2≤1000;decide,rfl⟩
section
variable{e it:aW}
variable{K:j5→cR Fin}
theorem aby{w:aV}{N mb:Str→aG aJ}{h₀:bF}{f:gK}{A:bX}{a0:GenEnd}{t:aM}{c:Code}{F:aD Frame}{s:aM}{ah:aJ→cR Fin}{a1:aU→aU}{ai:aD aJ→aD aJ}(W:Wd w N mb h₀)(X:n' h₀ f e it)(n:AG (A.over c F)){a2 a3:Expr}{a4:bR}{a5:Expr}{a6:bR}{a7:Expr}(B:BG a2 a3 a4 a5 a6 a7){aj ak al am an ao:bG}{x:Str}{j a:aA}{C:aU}{l:aD aA}{D:aD (aA×aD aA)}
  (a8:GS w N mb h₀ f t (kK x j C (O (.str (one a)))) s) (P:lu f e it t s) (a9:tQ e it s) (Q:kj (a::l) C=aI) (p:D.drop (D.length - (dK (a::l) j C).length)=dK (a::l) j C)
  (a':AZ F=aB) (aa:a1 aI=aI) (ab:F.any Hf=aI)
  (h:∀G R g,GS w N mb h₀ f R (kK x j G (O (.str (one a)))) g→lu f e it R g→(∀b∈[e,it],∀o,s.heap.get? b=O o→g.heap.get? b=O o)→kj l G=aI→D.drop (D.length - (dK l (j+1) G).length)=dK l (j+1) G→
   jn (aO pg w) A a0 (YG w h₀ f e it D) (dK l (j+1) G).length R c (K .next) F g):
  jn (aO pg w) A a0 (YG w h₀ f e it D) (dK (a::l) j C).length t c ((eH [.If a2 [.Expr (.Yield (O a3) aj) ak,a4] [.If a5 [a6] [.Expr (.Yield (O a7) al) am] an] ao] f).wrap K ah a1 ai) F s:=by
 have i:∀{s g:aM},(∀b o,b≠f.locals→s.heap.get? b=O o→g.heap.get? b=O o)→∀b∈[e,it],∀o,s.heap.get? b=O o→g.heap.get? b=O o:=fun h b d o q=>by
  refine h b o (fun z=> ?_) q;rcases gA.mp d with rfl |d
  ·exact X.ce z.symm
  ·rw[fK.mp d] at z;exact X.ci z.symm
 have S:∀{s g:aM},(∀b∈[e,it],∀o,s.heap.get? b=O o→g.heap.get? b=O o)→tQ e it s→tQ e it g:=fun k h=>⟨xe h.1 fun o q=>⟨o,k _ (.head _) _ q⟩,xe h.2 fun o q=>⟨o,k _ (by simp) _ q⟩⟩;have u:∀{t s g:aM},lu f e it t s→(∀b o,b≠f.locals→s.heap.get? b=O o→g.heap.get? b=O o)→lu f e it t g:=fun k h b o ae ap aq q=>h b o ae (k b o ae ap aq q);have fresh:∀s,lu f e it s s:=fun s b o J J J q=>q;refine seg_execs_cons ?_;cases C with
 |true=>
  have H:dK (a::l) j aF=(j,[92,a])::dK l (j+1) false:=rfl;rw[H] at p ⊢;refine wg W X n (b:=aF) B.N4 V pj a8 fun ar L m=>seg_execs_cons (N2 (x:=(j,[92,a])) W X n B.hy1 (abw x j aF a) pj L (u P m) (S (i m) a9) p a' aa ab fun af T r U as=> ?_);refine seg_execs_cons (N1 (σ':=kK x j aI (O (.str (one a)))) W X n B.h3 V pj as fun v I y=> ?_);refine pR (pR (h aI T v I (u (fresh T) y) (fun b d o q=>i y b d o (U b (hX _ d) o (i r b d o (i m b d o q)))) Q (Ea p)))
 |false=>
  refine wg W X n (b:=aI) B.N4 V pj a8 fun ar L m=>seg_execs_cons ?_
  by_cases E:a=92
  ·have H:dK (a::l) j aI=dK l (j+1) true:=aS E;rw[H] at p ⊢;refine wg W X n (b:=aF) B.N5 (M (N6 ..) (M (fM E) V)) pj L fun af Y r=>seg_execs_cons (N1 (σ':=kK x j aF (O (.str (one a)))) W X n B.h4 V pj Y fun v I y=> ?_);exact pR (pR (pR (h aF t v I (u (u (u P m) r) y) (fun b d o q=>i y b d o (i r b d o (i m b d o q))) (fM E▸(Q:kj l (decide (a=92))=aI)) p)))
  ·have H:dK (a::l) j aI=(j,[a])::dK l (j+1) false:=aP E;rw[H] at p ⊢;refine wg W X n (b:=aI) B.N5 (M (N6 ..) (M (eP E) V)) pj L fun af Y r=>seg_execs_cons (N2 (x:=(j,[a])) W X n B.hy2 (abx x j aI a) pj Y (u (u P m) r) (S (i r) (S (i m) a9)) p a' aa ab fun T v U y I=> ?_);exact pR (pR (pR (h aI v v I (fresh v) (fun b d o q=>y b (hX _ d) o (i U b d o (i r b d o (i m b d o q)))) (eP E▸(by exact Q:kj l (decide (a=92))=aI)) (Ea p))))
end
end
section
theorem abz(b:A.handled=aB)(a:aW)(x:Str)(t:hA):Draws pg w A a [a] x.cps.size (fun i v=>∃c u,x.cps[i]? =O c∧v= .str ⟨#[c]⟩ u) (fun i h=>h.IsStrIter a (HB x) x t i):=by
 unfold HB
 split
 ·exact Draws.strAscii b a x t
 ·exact Draws.strWide b a x t
noncomputable def StE(e a:aW)(x:Str)(t:hA)(i:aA)(h:bF):Prop:=(∃b,IsEnum h e a i b)∧h.IsStrIter a (HB x) x t i
section
variable{e it:aW}
theorem N7(d:lu f e it g s)(k:∀b o,b∉[e,it]→s.heap.get? b=O o→s'.heap.get? b=O o):lu f e it g s':=by intro b o h a c q;exact k b o (by simp[a,c]) (d b o h a c q)
theorem GS.keep(X:n' h₀ a e it)(G:GS w f mb h₀ a g h s)(d:∀b o,b∉[e,it]→s.heap.get? b=O o→i.get? b=O o):GS w f mb h₀ a g h {s with heap:=i,toks:=tk}:=by
 (refine xe (G) ?_;try clear G;rintro m G);refine⟨m,zn G.F.base X.hC (G.F.ns.at' fun o q=>d _ o (by show a.locals∉_;simp[X.ce,X.ci]) q) (fun b o q=>d b o ?_ (G.F.keep b o q)) G.F.gens G.F.os,G.L,G.Mi,G.fl⟩;intro c;rcases gA.mp c with rfl |c
 ·replace q:=X.he▸q;cases q
 ·(replace q:=(fK.mp c)▸q;replace q:=X.hi▸q);cases q
theorem abA(af:Wd w P mb h₀)(X:n' h₀ a e it)(B:BG ah ai aj ak al am)(Q:f=[.If ah [.Expr (.Yield (O ai) bl) bm,aj] [.If ak [al] [.Expr (.Yield (O am) bn) bo] bp] bq])
  (R:AG (A.over (.forLoop (.Tuple [.Name "pos" h,.Name "ch" i] l m) (.ref e) f [] a) g)) (an:AZ g=aB) (ao:g.any Hf=aI) (x:Str) (t:hA) (H:aD (aA×aD aA))
  (ap:∀aq a2 y r,(∀q,a2=O q→Sc q)→GS w P mb h₀ a y (kK x aq aI a2) r→lu a e it y r→jn (aO pg w) A ar (YG w h₀ a e it H) 0 y (.block [] a) (leafOf (.ok .next)) g r):
  ∀(k j:aA) (d:aU) (p:Z) (C:aG PV) (c s:aM),x.cps.size - j=k→j≤x.cps.size→(∀q,C=O q→Sc q)→kj (x.cps.toList.drop j) d=aI→GS w P mb h₀ a c (kK x p d C) s→lu a e it c s→StE e it x t j s.heap→
   H.drop (H.length - (dK (x.cps.toList.drop j) j d).length)=dK (x.cps.toList.drop j) j d→
   jn (aO pg w) A ar (YG w h₀ a e it H) (dK (x.cps.toList.drop j) j d).length c (.forLoop (.Tuple [.Name "pos" h,.Name "ch" i] l m) (.ref e) f [] a)
    ((aO pg w).den (.forLoop (.Tuple [.Name "pos" h,.Name "ch" i] l m) (.ref e) f [] a)) g s:=by
 have D:=WalksT.enumerateD (abz (w:=w) (A:=(A.over (.forLoop (.Tuple [.Name "pos" h,.Name "ch" i] l m) (.ref e) f [] a) g).in1) R.hh it x t) e X.ei (by simpa using X.ei) (fK.mpr V);intro k
 induction k with
 |zero=>
  intro j d p C c s I K a3 E G S U L;have K:j=x.cps.size:=SG K (Nat.le_of_sub_eq_zero I);subst K;have W:x.cps.toList.drop x.cps.size=[] :=AU (by assumption);rw[W] at L E ⊢;cases d with
  |true=>cases E|false=>
  refine(M (agJ ..) ?_:jn _ A _ _ _ c _ ((HC (.Tuple [.Name "pos" h,.Name "ch" i] l m) (.ref e) f [] a).onRaise _) g s);unfold HC;refine mU (jj ?_);refine mU (Gj (D.done s _ _ U fun as tk a4=> ?_));refine seg_again V <|seg_bind (Gj (wpAny_execs_nil ?_))
  exact ap p C c _ a3 (G.keep X a4) (N7 (s':={s with heap:=as,toks:=tk}) S a4)
 |succ k ih=>
  intro j d p C c s I K a3 E G S U L;have Y:j < x.cps.size:=Nat.lt_of_sub_eq_succ I;refine(M (agJ ..) ?_:jn _ A _ _ _ c _ ((HC (.Tuple [.Name "pos" h,.Name "ch" i] l m) (.ref e) f [] a).onRaise _) g s);unfold HC;refine mU (jj ?_);refine mU (Gj (D.item j s _ _ Y U fun T br bs a5 a6 bt a7 a8 au=> ?_));(refine iQ (a6) ?_;try clear a6;rintro av bu ⟨N,aw,ax,rfl⟩ rfl)
  have W:x.cps.toList.drop j=N::x.cps.toList.drop (j+1):=by
   refine M (Au (by simpa using Y)) ?_
   congr 1
   have:=(agK.mp ax).2;simpa using this
  rw[W] at L E ⊢
  have a9:T≠e∧T≠it:=by have:=D.apart _ _ _ a8;simpa using this
  refine mU (D.go _ _ _ j T _ _ _ a8 fun u a0 a'=> ?_);have aa:∀b o,b∉[e,it]→s.heap.get? b=O o→u.get? b=O o:=fun b o n q=>a' b o n (au b o n q);have ay:=N7 (s':={s with heap:=u,toks:=a5}) S aa;refine xe (G.keep (tk:=a5) X aa) fun bv az=> ?_
  have b0:u.IsTuple T #[.int j av,.str ⟨#[N]⟩ aw] :=by(refine aQ (a7) ?_;try clear a7;rintro o q b1);exact⟨o,a' T o (by simp[a9.1,a9.2]) q,b1⟩
  have b2:m0 gW [1,3] [.Name "pos" h,.Name "ch" i] =true:=by kernel_rfl
  have b3:=N3 (x1:=l) (p:=m) (is:=[1,3]) (xs:=[.int j,.str (one N)]) R.hh ⟨X.scope,D4,X.glob,X.D8⟩ b2 b0 (.cons .int (.cons .str .nil)) V az;refine mU (wpAny_mono b3 (fun J F o=> ?_) fun J J q=>q.elim);obtain⟨bw,bx,bz,c0,b4,c1,_,b5⟩:=o;have ab:∀b o,b≠a.locals→u.get? b=O o→F.heap.get? b=O o:=fun b o b6 q=>b4 b o q b6 (by intro z;cases z) fun t b7=>(cO b7).elim;have b8:GS w P mb h₀ a c (kK x j d (O (.str (one N)))) F:= .back b5 pj;have b9:lu a e it c F:=fun b o ae b' ba q=>ab b o ae (ay b o ae b' ba q)
  have a1:∀b∈[e,it],∀o,u.get? b=O o→F.heap.get? b=O o:=fun b v o q=>by
   refine ab b o (fun z=> ?_) q;rcases gA.mp v with rfl |v
   ·exact X.ce z.symm
   ·rw[fK.mp v] at z;exact X.ci z.symm
  have bc:tQ e it F:=⟨xe a0.1 fun J q=>⟨_,a1 e (.head _) _ q⟩,aQ a0.2 fun o q J=>⟨o,a1 it (by simp) _ q⟩⟩;refine(M (Sem.bind_eq_wrap' ..) (M (Sem.wrap_wrap ..) (M Q ?_)):jn _ _ _ _ _ _ _ ((eH f a >>=_).wrap _ _ _ _) _ _);refine aby af X (Q▸R) B b8 b9 bc E L an V ao fun bd y r be bf bg bh bi=>aT Q <|seg_again V (ih (j+1) bd j _ y r (S8 I) (nF Y) (fun q bj=>by cases bj;trivial) bh be bf ?_ bi)
  have bk:=D.frame (j+1) u r.heap a0 fun b v o q=>bg b (by simpa using v) o (a1 b (by simpa using v) o q);exact bk
end
end
section
section
variable{K:j5→cR Fin}
theorem abB{iter:Expr}(q:∀x,HD iter a x=pure x)
  (h:aN (aO pg w) (A.over c b) (eval iter a) (fun v i=>aN (aO pg w) (A.over c b) (Bj v) (fun I j=>∀p,jn (aO pg w) A R Y n d (.forLoop k I l [] a) ((aO pg w).den (.forLoop k I l [] a))
   (.ret (fun r=>((match r with | .ok f=>(.pure f:cR j5) | .error e=> .raise e).onRaise fun(x:aJ)=>do
    if(←field x 1)==Value.none then unsupported "frame.own-activation:exception-without-traceback"
    setFlight x a.frame).wrap K H m o) aB (m aI) (o []) c p [] ::b) j) (fun x g=>jn (aO pg w) A R Y n d c (H x) b g) i) (fun x g=>jn (aO pg w) A R Y n d c (H x) b g) s):
  jn (aO pg w) A R Y n d c ((jl (.For k iter l [] y) a).wrap K H m o) b s:=by
 refine mU (jj (mU (wpAny_mono h (fun v i t=> ?_) fun J J x=>x)));refine mU (mT (q v) (mU (jj (mU (il (wpAny_mono t (fun I j u=> ?_) fun J J x=>x))))));exact seg_call u
end
section
variable{e it:aW}
theorem abC(W:Wd w g mb h₀)(X:n' h₀ a e it)(I:it=s.heap.objs.size)(L:e=s.heap.objs.size+1)(N:(aK 1).body=i)
  (G:Gd w (cG g mb h₀ a s.os s.gens) gW (KG h₀) m aB s {loc:=[O (.str x),aB,aB,aB]}) (P:m "addr"=O (.str x t)) (Q:kj x.cps.toList aI=aI)
  (u:A.handled=aB) (v:A.depth+10 < 900) (y:A.units+30 < 9000):
  jn (aO pg w) A (RG a e it) (YG w h₀ a e it (dK x.cps.toList 0 aI)) (dK x.cps.toList 0 aI).length s (.func i a) ((aO pg w).den (.func i a)) [] s:=by
 obtain⟨ap,aq,ar,as,au,av,aw,ax,ay,az,b0,b1,b2,b3,b4,R,S,b5,b6,T,U,Y,a0,b7,b8,b9,b',ba,bc,bd,be,bf,bg,z,a1,a2,a3,a4,a5,a6,a7,bh⟩:=abt;rw[N] at z;have a8:AG (A.over (.func i a) []):=⟨u,by show A.depth+0+1 < 900;exact bK (mj (by decide) _) (fB v),by show A.units+0+3 < 9000;exact bK (mj (by decide) _) (fB y)⟩;have H:fF (cG g mb h₀ a s.os s.gens) (aK 1).scope gW:=⟨X.scope,D4,X.glob,X.D8⟩;have B:BG R S T U Y a0:=⟨a1,a2,a3,a4,a6,a7⟩;refine seg_func ?_;have a9:eH i a=eH _ a:=aR (eH · a) z;refine M a9 <|seg_execs_cons (SF (iY (pH (uz (name_kind (i:=1) H (by rfl)) G.F.ns (fun bi a' p=> ?_) (vd H))) V))
 obtain⟨c,bj⟩:=G.put (tk:=s.toks+1+1) (p:= .int 0) H (i:=1) (by rfl) .int a' p;refine seg_execs_cons (SF (iY (wpAny_Constant_bool (uz (name_kind (i:=2) H (by rfl)) c.F.ns (fun d aa r=> ?_) (vd H))) V));obtain⟨f,bk⟩:=c.put (tk:=s.toks+1+1+1) (p:= .bool aI) H (i:=2) (by rfl) .bool aa r;have C:d.objs.size=s.heap.objs.size:=r.1.trans p.1;have ab:∀b o,b≠a.locals→s.heap.get? b=O o→d.get? b=O o:=fun b o n q=>(r.2 b n).trans ((p.2 b n).trans q);have ae:∀af∈(["int","set","iter","next","sorted","enumerate","print","ZeroDivisionError"] :aD eA),(cG g mb h₀ a s.os s.gens).mg (aH af)=none:=W.CX
 refine seg_execs_cons (abB (fun J=>rfl) (wpAny_Call_NameR (rz ae (f:="enumerate") (v:= .type "enumerate") H f.F (by decide) V (by decide+kernel) (by decide+kernel) (by decide+kernel)
  (M3 V (ne (v:= .str x t) H f.F (mB H (by decide+kernel)) (by show(if _ then _ else if _ then _ else _)=_;refine M (aP (by decide+kernel)) (M (aP (by decide+kernel)) ?_);exact P) (by decide) (call_enumerate_str fun j h k bl D=> ?_))))))
 refine wpAny_pyIter_enum h fun bm=> ?_;have E:d.objs.size+1=e:=by refine M C ?_;exact L.symm
 have F:d.objs.size=it:=by refine M C ?_;exact I.symm
 replace h:IsEnum j (d.objs.size+1) d.objs.size 0 .none:=h;replace k:j.IsStrIter d.objs.size (HB x) x t 0:=k;rw[F] at k;rw[E,F] at h;refine M E ?_;have ah:lu a e it s {s with heap:=j,toks:=s.toks+1+1+1}:=fun b o l J J q=>D b o (ab b o l q)
 have ai:GS w g mb h₀ a s (kK x 0 aI aB) {s with heap:=j,toks:=s.toks+1+1+1}:=
  GS.back (⟨f.F.grow D,f.L,f.Mi,f.fl⟩:Gd w (cG g mb h₀ a s.os s.gens) gW (KG h₀) _ aB _ (kK x 0 aI aB)) (D' fun J q=>(by contradiction))
 refine abA W X B V (by exact⟨u,by show A.depth+1+0 < 900;exact kr (pP (bK v (by decide))),by show A.units+3+0 < 9000;exact kr (bK (mj (by decide) _) (jB y))⟩) (by rfl) (by rfl) x t _ (fun bn bo bp bq aj ak al=> ?_) x.cps.size 0 aI 0 aB s _ (by exact rfl) (by exact ji _) (fun J q=>(by contradiction)) Q ai ah ⟨⟨_,h⟩,k⟩ (by simp);refine seg_leaf (.ok .next) <|seg_execs_cons (wg W X a8 (b:=aI) a5 V (D' aj) ak fun br c am=> ?_)
 refine pR (pR (seg_end (.ok (.ret .none)) ?_));obtain⟨bs,c⟩:=c;exact⟨rfl,rfl,fun b o l an ao q=>am b o l (al b o l an ao q),c.F.gens,c.F.os⟩
end
end
section
open Sem (wp)
section
variable{E:aJ→aM→Prop}
theorem abD(p:A.handled=aB)(q:s.heap.NoLimit)(t:A.depth < agL)(e:s.heap.IsGen a g)(i:s.gens[g]? =O j)
  (u:∀n y r c,R n y r c→r= .ok (.ret .none)) (f:j.Goes (aO pg w) A.in1 R Y n (.send .none) (s.setGen g .running))
  (z:∀v c d,d.bare=aF→Y (n - 1) (s.setGen g .running) v c (fun B C=>match n with
    |0=>bO|m+1=>d.Goes (aO pg w) A.in1 R Y m B C)→Q (O v) (c.setGen g d))
  (D:∀r c,R n (s.setGen g .running) r c→∀k,(∀b o,c.heap.get? b=O o→k.get? b=O o)→Q aB {c.setGen g .finished with heap:=k}):
  aN (aO pg w) A (xG (.ref a)) Q E s:=by
 unfold xG;refine wpAny_bind (Sa (Ht (name:=aH "__next__") e.typeIs agM (sC agM e.typeIs entry_gen_next ?_ (args_gen_next _))));refine(wpAny_bind (il (wpAny_genNumber e (wpAny_bind (wpAny_genState i ?_)))):aN _ A.in1 (ahX (.ref a) (.send .none)) _ _ s);cases j with
 |running=>exact f.elim|finished=>exact f.elim
 | _=>
  refine wpAny_bind (wpAny_roomToWake q t ?_);refine wpAny_resumeQ i f (fun x c l=> ?_) (fun v c d h F=>wpAny_pure ⟨v,rfl,wpAny_pure (z v c d h F)⟩);obtain rfl:=u _ _ _ _ l;refine(wpAny_bind ?_:aN _ A.in1 (newExc (.type "StopIteration") [] >>=_) _ _ _);refine wpAny_bind (nw ?_ (by size_fits));refine wpAny_bind (m:=Hu _ _) (mT (a:=Value.none) (by first |rfl |(simp only[Hu];rfl)) ?_);refine nw ?_ (by size_fits);refine wpAny_bind (wpAny_bind (af7 ?_));refine M (p:A.in1.handled=aB) <|wpAny_throw (wpAny_bind (Av (T:="StopIteration") (b:=aF) ⟨_,fP _ V,rfl⟩ af8 ?_))
  exact wpAny_pure (D _ c l _ fun b o h=>eV _ (eV _ h))
theorem abE(b:s.heap.IsGen a g)(c:Q () s):aN (aO pg w) A (letOwnedTupleGo (.Tuple k l m) (.ref a) (.ref T)) Q E s:=by
 (refine nJ b ?_;clear b;rintro o d e f i j _);refine wpAny_bind (wpAny_load f ?_);rw[i,j];show aN _ A (if(["enumerate","zip","dict_itemiterator","dict_reverseitemiterator","odict_iterator","itertools.zip_longest","itertools.pairwise"].contains "generator" && (#[.int g 0,d,e] :eW aJ)[0]? ==O (lQ T))=aF then _ else _) Q E s
 rw[aP (by intro h;rw[show(["enumerate","zip","dict_itemiterator","dict_reverseitemiterator","odict_iterator","itertools.zip_longest","itertools.pairwise"].contains "generator")=aI from by decide,agN] at h;cases h)]
 exact wpAny_pure c
end
structure dR(c:Cx)(K:PK)(mu:Mu)(b:aW):Prop where
 un:K b=aB
 nl:b≠c.env.locals
 nm:mu.ad≠O b
 nE:c.hE.get? b=aB
section
variable{K:PK}
theorem Fm.others{S:aD aW}(F:Fm c K m j s)(f:∀b∈S,dR c K j b)(d:∀b o,b∉S→s.heap.get? b=O o→s'.heap.get? b=O o)(p:iT c.ir s'.gens)(r:s'.os=s.os):Fm c K m j s':=by
 refine{ns:= ?_,keep:=fun b o e=>d b o (fun h=> ?_) (F.keep b o e),dJ:=F.dJ,low:=F.low,le:=F.le,cU:=fun b o n e=>d b o (fun h=> ?_) (F.cU b o n e),new:=F.new,cX:=F.cX,mul:=fun a u v e=> ?_,gens:=p,os:=r.trans F.os,base:=F.base,dP:=F.dP,eX:=F.eX,tabs:=fun t k=>(F.tabs t k).mono (fun J J e=>e) fun o e=>d _ _ (fun h=>F.off (f _ h).nE t k V) e}
 ·exact eQ F.ns fun o w x g i=>⟨o,w,x,d _ _ (fun h=>(f _ h).nl V) g,i⟩
 ·replace e:=((f _ h).un)▸e;cases e
 ·replace e:=((f _ h).nE)▸e;cases e
 ·(refine dX (F.mul a u v e) ?_;rintro⟨g,y⟩ i z A);have l:a∉S:=fun q=>(f _ q).nm (by refine M e ?_;rfl);exact⟨⟨(aQ g fun o B C=>⟨o,d _ _ l B,C⟩),fun q=>(y q).at fun J=>d _ _ l⟩,i,z,A⟩
theorem Gd.Eb(G:Gd w c a K m b s d):Gd w {c with ir:=s.gens} a K m b s d:=
 ⟨{ns:=G.F.ns,keep:=G.F.keep,dJ:=G.F.dJ,low:=G.F.low,le:=G.F.le,cU:=G.F.cU,new:=G.F.new,cX:=G.F.cX,mul:=G.F.mul,gens:= .refl G.F.gens.bare,os:=G.F.os,base:=G.F.base,dP:=G.F.dP,eX:=G.F.eX,tabs:=G.F.tabs},G.L,G.Mi,G.fl⟩
theorem Fm.abF(h:iT c.ir g)(F:Fm {c with ir:=g} K m a s):Fm c K m a s:=
 {ns:=F.ns,keep:=F.keep,dJ:=F.dJ,low:=F.low,le:=F.le,cU:=F.cU,new:=F.new,cX:=F.cX,mul:=F.mul,gens:=h.trans F.gens,os:=F.os,base:=F.base,dP:=F.dP,eX:=F.eX,tabs:=F.tabs}
theorem Hyp.Eb(Y:Hyp w A c a b P n):Hyp w A {c with ir:=g} a b P n:=
 ⟨Y.hh,Y.hd,Y.hu,⟨Y.H.scope,Y.H.sU,Y.H.globals,Y.H.builtins⟩,⟨Y.S.gk,Y.S.call,Y.S.bi⟩⟩
theorem dR.run{c:Cx}{a:Mu}{s:aM}{f:PK}{j:Str→aG aJ}{h:Mu}{k:aM}{b:aW}{g:eW pC}(x:dR c K a b)(d:∃o,s.heap.get? b=O o)(l:Fm {c.here K a s.heap with ir:=g} f j h k)(m:hL a h s.heap):dR c f h b:=by
 (refine xe d ?_;clear d;rintro o d);refine⟨?_,x.nl,fun z=> ?_,x.nE⟩
 ·cases e:f b with
  |none=>rfl
  |some i=>
   rcases l.new b i e with z |z
   ·exact absurd (show K b=O i from z) (by refine M x.un ?_;intro q;cases q)
   ·(replace z:=(show({c.here K a s.heap with ir:=g}:Cx).hE.get? b=(c.here K a s.heap).hE.get? b from rfl)▸z;replace z:=(rj x.nl x.nm)▸z;replace z:=d▸z);cases z
 ·rcases m b z with q |q
  ·exact x.nm q
  ·replace q:=d▸q;cases q
end
end
section
open Sem (wp)
noncomputable def rK(b:Sg→aG (Fl×Sg))(i j:aA):aD (aA×aD aA)→Sg→aG Sg
 |[],a=>O a|x::r,a=>(b (putAll a [i,j] [.int x.1,.str (mk x.2)])).bind fun p=>Fl.rec (motive:=fun J=>aG Sg) (rK b i j r p.2) aB (fun J=>aB) p.1
theorem Ec{s:aM}{g k:aA}{x:pC}(h:k≠g):(s.setGen g x).gens[k]? =s.gens[k]? :=by simp[SH,Ne.symm h]
theorem Ed{s:aM}{g:aA}{x:pC}(h:nr s.gens)(b:x.bare=aF):nr (s.setGen g x).gens:=by
 intro y c;obtain⟨k,a,rfl⟩:=Array.getElem_of_mem c;have e:(s.setGen g x).gens[k]? =O _:=Ay a
 by_cases q:k=g
 ·subst q;have:k < s.gens.size:=by simpa [SH] using a
  have d:(s.setGen k x).gens[k]? =O x:=by simp[SH,this]
  rw[d] at e;refine aT (cB e) ?_;exact b
 ·rw[Ec q] at e;exact h _ (SI e)
section
variable{K:PK}
structure zo(w:aV)(A:bX)(c:Cx)(env:gK)(e it a:aW)(g:aA)(out:aD (aA×aD aA))(k:aA)(K:PK)(mu:Mu)(s:aM):Prop where
 gen:s.heap.IsGen a g
 go:∃gs,s.gens[g]? =O gs∧gs.Goes (aO pg w) A.in1 (RG env e it) (YG w c.h₀ env e it out) k (.send .none) (s.setGen g .running)
 oC:dR c K mu env.locals
 oe:dR c K mu e
 oi:dR c K mu it
 oa:dR c K mu a
 lC:∃o,s.heap.get? env.locals=O o
 g0:c.ir[g]? =aB
theorem zo.gens{w:aV}{A:bX}{c:Cx}{m:Str→aG aJ}{b:Mu}{s:aM}{i:gK}{e j a:aW}{g:aA}{l:aD (aA×aD aA)}{k:aA}(X:zo w A c i e j a g l k K b s)(F:Fm c K m b s){d:aM}{x:pC}(h:iT (s.setGen g .running).gens d.gens)(n:x.bare=aF):iT c.ir (d.setGen g x).gens:=by
 refine⟨Ed h.bare n,fun k y q=> ?_⟩;have f:k≠g:=fun z=>by(replace q:=z▸q;replace q:=X.g0▸q);cases q
 exact M (Ec f) <|h.old k y (by refine M (Ec f) ?_;exact F.gens.old k y q)
inductive N8(w:aV)(A:bX)(c:Cx)(tb:Tb)(env:gK)(e it a:aW)(g:aA)(out:aD (aA×aD aA))(fH:PK)(kc:Mu)(hs:bF)(P:bT)(b:B)(i j:aA)(σ':Sg)(k:aA)(s:aM):Prop
 |mk (r:aD (aA×aD aA)) (K:PK) (m:Str→aG aJ) (mu:Mu) (σ:Sg) (e1:r.length=k) (h1:out.drop (out.length - r.length)=r) (h2:r.length≤out.length) (G:Gd w c tb K m mu s σ) (X:zo w A c env e it a g out r.length K mu s) (k0:PK.le fH K) (b0:KB c kc hs s.heap) (ms:hL kc mu hs) (hx:rK (bE P b) i j r σ=O σ'):
   N8 w A c tb env e it a g out fH kc hs P b i j σ' k s
set_option tactic.hygienic true in
theorem abG(Y:Hyp w A c sc tb P n){it:aW}(XE:n' c.h₀ env e it)(hae:a≠e)(hai:a≠it)(hac:a≠env.locals)
  (ho:m0 tb [i,j] ts=aF) (hb:dY sc tb b body=aF):
  (∀q∈[env.locals,e,it],hs.get? q=aB)→∀(r:aD (aA×aD aA)) (K:PK) (m:Str→aG aJ) (mu:Mu) (s:aM) (σ:Sg),out.drop (out.length - r.length)=r→r.length≤out.length→Gd w c tb K m mu s σ→zo w A c env e it a g out r.length K mu s→PK.le fH K→KB c kc hs s.heap→hL kc mu hs→rK (bE P b) i j r σ=O σ'→
   pJ (aO pg w) A (.forLoop (.Tuple ts x1 p) (.ref a) body [] c.env) (fun r s'=>match r with | .ok f=>Out w c tb fH kc hs f s' .next σ' | .error _=>bO) s:=by
 have tI:A.depth < agL:=by have:=Y.hd;exact(bZ (hV _ _) (bK this (by decide)):A.depth < 1000)
 intro Ee r K m mu s σ hr wh G X k0 b0 ms hx;refine codeAny_forLoop_any (I:=N8 w A c tb env e it a g out fH kc hs P b i j σ') ?_ r.length ⟨r,K,m,mu,σ,rfl,hr,wh,G,X,k0,b0,ms,hx⟩;clear hx ms b0 k0 X G wh hr r K m mu s σ;rintro k s ⟨r,K,m,mu,σ,rfl,hr,wh,G,X,k0,b0,ms,hx⟩;refine aQ X.go fun gs N9 hgo=> ?_
 have hS:∀q∈[env.locals,e,it],dR c K mu q:=by
  intro q hq;rcases gA.mp hq with rfl |hq
  ·exact X.oC
  rcases gA.mp hq with rfl |hq
  ·exact X.oe
  ·refine M (fK.mp hq) ?_;exact X.oi
 refine abD Y.hh G.F.heap.nolimit tI X.gen N9 (fun J J J J q=>q.1) hgo (fun v kf wi abH hv=> ?_) (fun r' kf hR h' lc=> ?_)
 ·(refine uT hv ?_;clear hv;rintro⟨x,Ef,T,oT,abI,kT,rfl,Oa,hT2,hT3,hT4,hT5,hTc,hTe,hTi⟩ zp Ob Oc rs Eg Od);cases r with
  |nil=>exact(Od kf (fun J J J q=>q) (fun q o z=>zp q o (fun y=>by rw[y,XE.hC] at z;cases z) (fun y=>by rw[y,XE.he] at z;cases z) (fun y=>by rw[y,XE.hi] at z;cases z) (G.F.keep _ _ (G.F.le _ _ (G.F.low _ _ z)))) rs.bare).elim
  |cons y r=>
   have hxy:x=y:=by
    have h1:(out.drop (out.length - (r.length+1)))[0]? =O y:=by have:=aR (·[0]?) hr;simpa using this
    rw[AC,si] at h1;rw[j3] at Ef;rw[show out.length - 1 - (r.length+1 - 1)=out.length - (r.length+1) by lia,h1] at Ef;exact(cB Ef).symm
   subst hxy
   let sY:aM:=kf.setGen g wi
   have rL:∀q o,q∉[env.locals,e,it]→s.heap.get? q=O o→sY.heap.get? q=O o:=fun q o hq z=>by simp only[gA,cO,or_false,Hc] at hq;exact zp q o hq.1 hq.2.1 hq.2.2 z
   have FY:Fm c K m mu sY:=G.F.others hS rL (X.gens G.F rs abH) Eg;have Eh:K T=O oT∨s.heap.get? T=none:=hT5.elim .inr fun q1=> .inl (G.F.le _ _ (G.F.low _ _ q1))
   have hle:PK.le K (K.put T oT):=fun q o z=>by
    by_cases hq:q=T
    ·rw[hq] at z ⊢;rcases Eh with q1 |q1
     ·exact PK.jr.trans (q1.symm.trans z)
     ·have h1:=G.F.keep _ _ z;rw[q1] at h1;exact nn h1
    ·exact(aP hq).trans z
   have F1:Fm c (K.put T oT) m mu sY:=by
    refine FY.Iw hle (fun q o z=> ?_) fun q o z=> ?_
    ·rcases PK.p' z with⟨h1,h2⟩ |z
     ·refine M h1 (aT h2 ?_);exact Oa
     ·exact FY.keep _ _ z
    ·rcases PK.p' z with⟨h1,h2⟩ |z
     ·refine M h1 (aT h2 ?_);exact Eh.imp id G.F.absent
     ·exact .inl z
   have G1:Gd w c tb (K.put T oT) m mu sY σ:=G.of hle F1;have Y':Hyp w A {c.here (K.put T oT) mu sY.heap with ir:=sY.gens} sc tb P n:=(Y.here _ _ _).Eb
   have zq:sY.heap.IsGen a g:=by exact eQ X.gen fun o nm qn h1 r=>⟨o,nm,qn,rL a o (by simp[hac,hae,hai]) h1,r⟩
   refine wpAny_mono (Q:=fun J s'=>s'=sY) (abE zq V) (fun J s2 h2=> ?_) fun J J q=>q;subst h2;have Cz:=N3 (s:=sY) (x1:=x1) (p:=p) Y'.hh Y'.H ho (T:=T) (its:=abI) ⟨oT,Oa,hT2,kT,hT3⟩ (hT4 _) V G1.here.Eb;refine wpAny_mono Cz (fun J s3 o3=> ?_) fun J J q=>q.elim;obtain⟨K3,m3,mu3,k3,b3,ms3,_,G3⟩:=o3;(refine aQ (dQ hx) ?_;rintro⟨fl,σ4⟩ kD hx);cases fl with
   |next=>
    refine wpAny_mono (nQ b body _ _ _ _ Y' hb kD K3 m3 mu3 s3 G3) (fun f s4 o4=> ?_) fun J J q=>q.elim;obtain⟨K4,m4,lT,k4,b4,jJ,rfl,G4⟩:=Out.after k3 b3 ms3 o4;have b4:KB c mu sY.heap s4.heap:=b4;have F4:Fm c K4 m4 lT s4:=G1.F.back (G4.F.abF FY.gens) b4;have abJ:kf.gens[g]? =O .running:=rs.old g .running (setGen_self N9);have abK:sY.gens[g]? =O wi:=setGen_self abJ;have abL:s4.gens[g]? =O wi:=G4.F.gens.old g wi abK;have zr:∀q,q≠T→dR c K mu q→dR c (K.put T oT) mu q:=fun q hq o=>⟨by unfold PK.put;refine M (aP hq) ?_;exact o.un,o.nl,o.nm,o.nE⟩
    have hTa:a≠T:=fun q=>by
     subst q;rcases Eh with q1 |q1
     ·rw[X.oa.un] at q1;cases q1
     ·refine eQ X.gen fun o nm qn h1 r=> ?_;rw[q1] at h1;cases h1
    have up:∀q,dR c K mu q→∀o,sY.heap.get? q=O o→s4.heap.get? q=O o:=fun q oq o z=>b4 q o z oq.nl oq.nm (FY.off oq.nE);have aC:∃o,sY.heap.get? env.locals=O o:=Oc;obtain⟨oC,zC⟩:=Oc;have ha:∃o,sY.heap.get? a=O o:=eQ zq fun o J J z J=>⟨o,z⟩;refine⟨r.length,by simp,r,K4,m4,lT,σ4,rfl,Ea hr,by simp at wh;exact qB wh,⟨F4,G4.L,G4.Mi,G4.fl⟩,⟨?_,⟨wi,abL,?_⟩,?_,?_,?_,?_,⟨oC,up _ X.oC oC zC⟩,X.g0⟩,k0.trans (hle.trans k4),?_,?_,hx⟩
    ·(refine eQ zq ?_;clear zq;rintro o nm qn h1 r);exact⟨o,nm,qn,up _ X.oa _ h1,r⟩
    ·refine Od (s4.setGen g .running) (fun q hq o z=>up q (hS q hq) o z) (fun q o z=>F4.keep _ _ (F4.le _ _ (F4.low _ _ z))) (Ed G4.F.gens.bare V)
    ·exact(zr _ (Ne.symm hTc) X.oC).run aC G4.F jJ
    ·exact(zr _ (Ne.symm hTe) X.oe).run Ob.1 G4.F jJ
    ·exact(zr _ (Ne.symm hTi) X.oi).run Ob.2 G4.F jJ
    ·exact(zr _ hTa X.oa).run ha G4.F jJ
    ·have bY:KB c kc hs sY.heap:=fun q o z n1 n2 n3=>rL q o (fun hq=>by rw[Ee q hq] at z;cases z) (b0 q o z n1 n2 n3);exact bY.step ms b4
    ·have bY:KB c kc hs sY.heap:=fun q o z n1 n2 n3=>rL q o (fun hq=>by rw[Ee q hq] at z;cases z) (b0 q o z n1 n2 n3);exact hL.step bY ms jJ F4
   |brk=>cases hx|ret=>cases hx
 ·(refine jo hR ?_;clear hR;rintro _ hn zp rs Eg);have hr0:r=[] :=qC hn;subst hr0;cases hx
  have rL:∀q o,q∉[env.locals,e,it]→s.heap.get? q=O o→h'.get? q=O o:=fun q o hq z=>by simp only[gA,cO,or_false,Hc] at hq;exact lc _ _ (zp q o hq.1 hq.2.1 hq.2.2 z)
  have F2:Fm c K m mu {kf.setGen g .finished with heap:=h'}:=G.F.others hS rL (X.gens G.F rs V) Eg;exact wpAny_execs_nil (jw k0 (fun q o z n1 n2 n3=>rL q o (fun hq=>by rw[Ee q hq] at z;cases z) (b0 q o z n1 n2 n3)) ms ⟨F2,G.L,G.Mi,G.fl⟩)
end
end
section
theorem abM(W:Wd w a mb h₀):vm a h₀ (aK 1):=by obtain⟨q,b⟩:∃q,pg.main.body[1]? =O (.FunctionDef (aK 1).name (aK 1).params (aK 1).body [] aB [] (aK 1).scope aB (aK 1).name q):=⟨_,rfl⟩;exact W.CY 1 (by decide) _ _ _ _ q b V
theorem abN:uF (mP (aK 1).name (aK 1).params (aK 1).body (aK 1).scope a b c) ⟨[v],[]⟩=pure [(("addr":Str),v)] :=rfl
section
variable{K:PK}
theorem dR.fresh(F:Fm c K m d s)(h:s.heap.objs.size≤b):dR c K d b:=by
 have a:∀o,s.heap.get? b=O o→False:=fun o q=>absurd (fA q) (i8.mpr h);refine⟨?_,fun z=>absurd F.BQ (i8.mpr (z▸h)),fun z=>absurd (F.Iy z) (i8.mpr h),?_⟩
 ·cases q:K b with
  |none=>rfl|some o=>exact(a o (F.keep _ _ q)).elim
 ·cases q:c.hE.get? b with
  |none=>rfl|some o=>(refine xe (F.there q) ?_;rintro e f);exact(a e f).elim
theorem abO(W:Wd w c.mg c.mb c.h₀)(Y:Hyp w A c sc tb P n)(hn:12≤n)(G:Gd w c tb K m mu s σ){arg:Expr}
  (hg:js sc (aK 1).name=aF) (oa:eL sc tb (.cons ea .nil) [arg] =aF) (pk:gC P σ (.cons ea .nil)=O [.str x]) (hF:kj x.cps.toList aI=aI) (ho:m0 tb [i,j] ts=aF) (hb:dY sc tb b body=aF)
  (hx:rK (bE P b) i j (dK x.cps.toList 0 aI) σ=O σ'):
  aN (aO pg w) A (jl (.For (.Tuple ts x1 p) (.Call (.Name (aK 1).name p1) [arg] [] p2) body [] pos) c.env) (fun f s'=>Out w c tb K mu s.heap f s' .next σ') (fun J J=>bO) s:=by
 obtain⟨a,o,pm,cd,doc,g1,g2,g3,g4⟩:=abM W;have hd:=Y.hd;have hu:=Y.hu;refine AV (wpAny_Call_NameR (sV Y.H hg G.F g1 (AP (o:=o) (iI (qg oa (by simp)) (mw oa) ((va Y _ _ oa [.str x] pk).then G.F G.L G.Mi fun K1 vs s1 k1 F1 b1 r1=>⟨⟨F1.keep _ _ (F1.le _ _ (F1.low _ _ g2)),g3⟩,?_⟩)))))
 obtain⟨v,rfl,rv⟩:∃v,vs=[v]∧RV w K1 mu.ad v (.str x):=by
  cases r1 with
  |cons a b=>cases b;exact⟨_,rfl,a⟩
 obtain⟨t,rfl⟩:=rv.str_inv;have zt:∀b o,c.h₀.get? b=O o→s1.heap.get? b=O o:=fun b o q=>F1.keep _ _ (F1.le _ _ (F1.low _ _ q));refine xu (codeAny_call_generator (body:=(aK 1).body) (by show A.depth < 1000;exact bZ (hV _ _) (bK hd (by decide))) (zt _ _ g2) g3 V rfl rfl (g4.keeps zt) (mT abN ?_));refine Sm (show ∀x∈(aK 1).scope.names,x.2≠ .cell from by decide+kernel) (by intro z hz;refine M (fK.mp hz) ?_;exact(by decide+kernel:(aK 1).scope.names.lookup ("addr":Str)=O .local)) (fun mz po vH=>⟨F1.heap.nolimit.fresh _ vH,?_⟩) (by rfl);have lx:mz.objs.size=s1.heap.objs.size+1:=M vH.1 (M (xv ..) V);have jG:∀b o,s1.heap.get? b=O o→mz.get? b=O o:=fun b o q=>vH.extBut b o (fE (fA q)) (eV _ q);generalize zu:newEnv _ _ _ _ _ _ _ _ _=env;have eC:env.locals=s1.heap.objs.size:=by refine aT zu ?_;rfl
 have e1:env.scope=(aK 1).scope:=by refine aT zu ?_;rfl
 have e2:env.globals=fL:=by refine aT zu ?_;rfl
 have e3:env.builtins=i':=by refine aT zu ?_;rfl
 have fr:∀b,s1.heap.objs.size≤b→dR c K1 mu b:=fun b h=> .fresh F1 h
 have h0:∀b,s1.heap.objs.size≤b→c.h₀.get? b=none:=fun b h=>by
  cases q:c.h₀.get? b with
  |none=>rfl|some o=>exact absurd (fA (zt _ _ q)) (i8.mpr h)
 have XE:n' c.h₀ env (s1.heap.objs.size+3) (s1.heap.objs.size+2):=⟨e1,e2,e3,h0 _ (by refine M eC ?_;exact cA _),h0 _ (hV _ _),h0 _ (hV _ _),by refine M eC ?_;show(s1.heap.objs.size:aA)≠s1.heap.objs.size+3;exact fE (ml (hV _ _)),by refine M eC ?_;show(s1.heap.objs.size:aA)≠s1.heap.objs.size+2;exact fE (ml (uL _)),by show(s1.heap.objs.size+3:aA)≠s1.heap.objs.size+2;exact eG (kS _)⟩;refine wpAny_pyIter_gen (g:=s1.gens.size) ⟨_,_,_,fP _ V,rfl,rfl,rfl⟩ ?_;have a1:mz.objs.size≠s1.heap.objs.size+3:=by refine M lx ?_;show(s1.heap.objs.size+1:aA)≠s1.heap.objs.size+3;exact fE (mj (by decide) _)
 have a2:mz.objs.size≠s1.heap.objs.size+2:=by refine M lx ?_;show(s1.heap.objs.size+1:aA)≠s1.heap.objs.size+2;exact fE (kS _)
 have a3:mz.objs.size≠env.locals:=by refine M lx (M eC ?_);show(s1.heap.objs.size+1:aA)≠s1.heap.objs.size;exact eG (kS _)
 have Ei:∀b,s1.heap.objs.size≤b→s.heap.get? b=none:=fun b h=>by
  cases q:s.heap.get? b with
  |none=>rfl|some o=>exact absurd (fA (b1 b o q (fr b h).nl (fr b h).nm (F1.off (fr b h).nE))) (i8.mpr h)
 have Oe:nr (s1.gens.push (.fresh (.func (aK 1).body env))):=F1.gens.bare.push V;refine uC (abG (p:=p) (x1:=x1) (fH:=K) (kc:=mu) (hs:=s.heap) (out:=dK x.cps.toList 0 aI) (g:=s1.gens.size) Y XE a1 a2 a3 ho hb ?_ (dK x.cps.toList 0 aI) K1 m mu _ σ (by simp) (cA _) (G.of k1 (F1.others (S:=[]) (fun J h=>(cO h).elim) (fun q o J z=>eV _ (jG q o z)) ⟨Oe,fun k y q=> ?_⟩ V)) ?_ k1 (fun q o z n1 n2 n3=>eV _ (jG q o (b1 q o z n1 n2 n3))) .refl hx) fun r s' y=> ?_
 ·intro q hq;simp only[gA,cO,or_false] at hq;rcases hq with rfl |rfl |rfl
  ·exact Ei _ (by refine M eC ?_;exact cA _)
  ·exact Ei _ (hV _ _)
  ·exact Ei _ (hV _ _)
 ·have:=F1.gens.old k y q;have oZ:k < s1.gens.size:=(agK.mp this).1;refine M Array.getElem?_push (M (aP (fE oZ)) ?_);exact this
 ·refine⟨⟨_,_,_,fP _ V,rfl,rfl,rfl⟩,⟨.fresh (.func (aK 1).body env),by simp,rfl,?_⟩,fr _ (by refine M eC ?_;exact cA _),fr _ (hV _ _),fr _ (hV _ _),fr _ (by refine M lx ?_;exact hV _ _),?_,?_⟩
  ·have abP:∀q:Obj,(mz.push q).Ns env.locals (fun y=>[(("addr":Str),Value.str x t)].reverse.lookup y):=fun q=>by refine M eC ?_;exact po.keeps fun J J z=>eV _ z
   refine abC W XE (by show _=(mz.push _).objs.size;exact M (xv ..) (M lx V)) (by show _=(mz.push _).objs.size+1;exact M (xv ..) (M lx V)) V ⟨zn F1.base XE.hC (abP _) (fun b o q=>eV _ (jG _ _ (zt b o q))) (.refl (Ed Oe V)) V,?_,.none,fun J J J q=>(by cases q)⟩ (by rfl) hF Y.hh (by show A.depth+10 < 900;exact S0 hn hd (by decide)) (by show A.units+1+30 < 9000;exact SY hn hu (by decide));intro i y k p hi hp
   match i,hi,hp with
   |0,hi,hp=>cases hi;cases hp;exact⟨_,rfl,.str⟩|1,hi,hp=>cases hp|2,hi,hp=>cases hp|3,hi,hp=>cases hp|i+4,hi,hp=>simp at hp
  ·(refine eQ po ?_;clear po;rintro o _ _ q _);exact⟨o,by refine M eC ?_;exact eV _ q⟩
  ·show c.ir[s1.gens.size]? =aB;cases q:c.ir[s1.gens.size]? with
   |none=>rfl
   |some y=>
    have:=F1.gens.old _ y q;replace this:=(Array.getElem?_eq_none (cA _))▸this;cases this
 ·cases r with
  |ok f=>exact y|error _=>exact y.elim
end
end
section
noncomputable def gF(x:aD aA):aD (aA×aD aA)→aA→aG aA→aD (aD aA)→aA×aD (aD aA)
 |[],st,_,a=>(st,a)
 |(p,c)::r,st,b,a=>if c=[34] then(match b with
   |none=>gF x r st (O p) a|some o=>gF x r (p+1) aB (if st≠o then a++[(x.take o).drop st] else a))
  else gF x r st b a
noncomputable def kl(x:aD aA):aD Nat:=if 34∈x then
  ((gF x (dK x 0 aI) 0 aB []).2++if(gF x (dK x 0 aI) 0 aB []).1 < x.length then [x.drop (gF x (dK x 0 aI) 0 aB []).1] else []).flatten
 else x
noncomputable def rM:Tb:=[(aH "addr",aF),(aH "start",aF),(aH "open_pos",aF),(aH "result",aF),(aH "pos",aF),(aH "ch",aF)]
noncomputable def wj:B:= .cons (.ite (.cmp .NotIn (.str (aH "\"")) (.nm 0)) (.cons (.ret (.nm 0)) .nil) .nil) (.cons (.asg 1 (.int 0)) (.cons (.asg 2 .none) (.cons (.mv 3 (.lst .nil)) .nil)))
noncomputable def Ej:B:= .cons (.ite (.cmp .Eq (.nm 5) (.str (aH "\""))) (.cons (.ite (.cmp .Is (.nm 2) .none) (.cons (.asg 2 (.nm 4)) .nil)
  (.cons (.ite (.cmp .NotEq (.nm 1) (.nm 2)) (.cons (.app 3 (.dE (.nm 0) (.nm 1) (.nm 2))) .nil) .nil) (.cons (.asg 1 (.bin .Add (.nm 4) (.int 1))) (.cons (.asg 2 .none) .nil)))) .nil) .nil) .nil
noncomputable def postR:B:= .cons (.ite (.cmp .Lt (.nm 1) (.bi "len" (.cons (.nm 0) .nil))) (.cons (.app 3 (.dE (.nm 0) (.nm 1) .none)) .nil) .nil) (.cons (.kV 3) (.cons (.ret (.dH "join" (.str (aH "")) (.cons (.nm 3) .nil))) .nil))
theorem dfR:iv (aK 2) 1 rM=true:=by decide+kernel
inductive Of:Prop
 |mk (l ts x1 p p1 arg p2 body pos l2:_) (h1:(aK 2).body=l++ .For (.Tuple ts x1 p) (.Call (.Name (aK 1).name p1) [arg] [] p2) body [] pos::l2) (h2:dY (aK 2).scope rM wj l=aF) (h3:eL (aK 2).scope rM (.cons (.nm 0) .nil) [arg] =aF) (h4:m0 rM [4,5] ts=aF) (h5:dY (aK 2).scope rM Ej body=aF) (h6:dY (aK 2).scope rM postR l2=aF):Of
theorem abQ:Of:=by refine⟨(aK 2).body.take 4,_,_,_,_,_,_,_,_,(aK 2).body.drop 5,rfl,by decide+kernel,by decide+kernel,by decide+kernel,by decide+kernel,by decide+kernel⟩
noncomputable def km(x:aD aA)(st:aA)(a:aG aA)(b:aD (aD aA))(c d:aG PV):Sg:=
 {loc:=[O (.str (mk x)),O (.int (st:aA)),O (match a with |none=> .none |some o=> .int (o:aA)),O .bV,c,d],mu:=O (b.map fun y=> .str (mk y))}
theorem Og(x:aD aA)(a b:aA)(h:x.length≤100000):mX (.str (mk x)) (.int (a:Z)) (.int (b:Z))=O (.str (mk ((x.take b).drop a))):=by
 refine(bB (by refine M (cZ ..) (M cN ?_);exact aL h (by decide))).trans (aR (fun z=>O (PV.str z)) (fT ?_));unfold gO;simp only[uM,y9,cZ];refine(M agO ?_:Gy _ (Ra _ x)=Ra a (Gy b x));rcases sv a x.length with c |c
 ·refine M (l8 c) ?_;rcases sv b x.length with d |d
  ·exact M (l8 d) V
  ·exact M (uD d) (M (mJ (cI iP)) (M (mJ (aL (cI iP) (qK d a))) V))
 ·exact M (uD c) (M (AU (cA _)) (M (AU c) (M AI (M AI V))))
theorem Oh(c:aD aA):jd .Eq (.str (mk c)) (.str (aH "\""))=O (.bool (decide (c=[34]))):=by exact M (by decide+kernel:aH "\""=mk [34]) <|bb (decide_eq_decide.mpr mk_inj)
theorem abR{a:Sg→aG (Fl×Sg)}{i j:aA}{y:aA×aD aA}{r:aD (aA×aD aA)}{b c:Sg}(h:a (putAll b [i,j] [.int y.1,.str (mk y.2)])=O (.next,c)):rK a i j (y::r) b=rK a i j r c:=
 bN h V
noncomputable def LR(P:bT)(x:aD aA)(r:aD (aA×aD aA))(st:aA)(a:aG aA)(b:aD (aD aA))(c d:aG PV)(z:aA×aD (aD aA)):Prop:=∃e f g,rK (bE P Ej) 4 5 r (km x st a b c d)=O (km x z.1 e z.2 f g)
theorem LR.step{P:bT}{x c:aD aA}{p:aA}{r:aD (aA×aD aA)}{st a:aA}{b d:aG aA}{f g:aD (aD aA)}{j k:aG PV}{z i:aA×aD (aD aA)}(h:LR P x r a d g (O (.int p)) (O (.str (mk c))) z)
  (l:bE P Ej (km x st b f (O (.int p)) (O (.str (mk c))))=O (.next,km x a d g (O (.int p)) (O (.str (mk c))))) (e:i=z):LR P x ((p,c)::r) st b f j k i:=by
 (refine xR h ?_;clear h;rintro q m n h);exact⟨q,m,n,(abR (y:=(p,c)) l).trans (e▸h)⟩
theorem abS(P:bT)(x:aD aA)(k:x.length≤1000)(r:aD (aA×aD aA)):∀(st:aA) (b:aG aA) (a:aD (aD aA)) (e f:aG PV),a.length+r.length≤100000→LR P x r st b a e f (gF x r st b a):=by
 induction r with
 |nil=>exact fun J b J e f J=>⟨b,e,f,rfl⟩
 |cons y r ih=>
  intro st b a e f j;obtain⟨p,c⟩:=y;have g:a.length+r.length≤100000:=qB j
  by_cases d:c=[34]
  ·have i:∀b,ev P (km x st b a (O (.int p)) (O (.str (mk c)))) (.cmp .Eq (.nm 5) (.str (aH "\"")))=O (.bool aF):=fun b=>(Oh c).trans (bb (fM d));cases b with
   |none=>exact(ih st (O p) a _ _ g).step (nx (it (i _) (nx (it V (sg V rfl rfl)) V)) V) (aS d)
   |some o=>
    by_cases h:st=o
    ·exact(ih (p+1) aB a _ _ g).step (nx (it (i _) (nx (eY V (nx (eY (bb (bne_eq_false_iff_eq.mpr (aR Hw h))) V) (sg V rfl (sg V rfl rfl)))) V)) V) ((aS d).trans (aR (gF x r (p+1) aB) (aP (agP h))))
    ·have l:ex P (.app 3 (.dE (.nm 0) (.nm 1) (.nm 2))) (km x st (O o) a (O (.int p)) (O (.str (mk c))))=O (.next,km x st (O o) (a++[(x.take o).drop st]) (O (.int p)) (O (.str (mk c)))):=
      (yz V (by exact Og x st o (aL k (by decide))) V rfl (by refine M (bQ ..) ?_;exact aL (aL (hV _ _) g) (by decide))).trans (aR (fun m=>O (Fl.next,{km x st (O o) a (O (.int p)) (O (.str (mk c))) with mu:=O m})) (iE (f:=fun y=>PV.str (mk y)) (l₁:=a) (l₂:=[(x.take o).drop st])).symm)
     exact(ih (p+1) aB (a++[(x.take o).drop st]) _ _ (by refine M bH ?_;exact aL (cI (ov _ _ _)) j)).step (nx (it (i _) (nx (eY V (nx (it (V3 (mt QN h)) (nx l V)) (sg V rfl (sg V rfl rfl)))) V)) V) ((aS d).trans (aR (gF x r (p+1) aB) (aS h)))
  ·exact(ih st b a _ _ g).step (nx (eY ((Oh c).trans (bb (eP d))) V) V) (aP d)
end
section
theorem abT(l:aD aA):∀(i:aA) (e:aU),(dK l i e).length≤l.length+1:=by
 induction l with
 |nil=>intro i e;cases e with
  |true=>exact cA 1|false=>exact ji 1
 |cons c r ih=>
  intro i e;cases e with
  |true=>exact sF (ih (i+1) aI)
  |false=>
   by_cases h:c=92
   ·exact aL (cI (aR nk (aS h))) (nB (ih (i+1) aF))
   ·exact aL (cI (aR nk (aP h))) (sF (ih (i+1) aI))
noncomputable def Ek(n k:aA)(z:aA×aD (aD aA)):Prop:=z.2.length≤k∧∀y∈z.2,y.length≤n
theorem abU(x:aD aA)(r:aD (aA×aD aA)):∀(st:aA) (d:aG aA) (a:aD (aD aA)),(∀y∈a,y.length≤x.length)→Ek x.length (a.length+r.length) (gF x r st d a):=by
 induction r with
 |nil=>exact fun J J J h=>⟨cA _,h⟩
 |cons y r ih=>
  intro st d a h;obtain⟨p,c⟩:=y;have f:∀{k z j},Ek x.length k z→k≤a.length+(r.length+1)→j=z→Ek x.length (a.length+(r.length+1)) j:=fun g m e=>e▸⟨aL g.1 m,g.2⟩
  by_cases i:c=[34]
  ·cases d with
   |none=>exact f (ih st (O p) a h) (uL _) (aS i)
   |some o=>
    by_cases l:st=o
    ·exact f (ih (p+1) aB a h) (uL _) ((aS i).trans (aR (gF x r (p+1) aB) (aP (agP l))))
    ·refine f (ih (p+1) aB (a++[(x.take o).drop st]) fun y b=> ?_) (cI ?_) ((aS i).trans (aR (gF x r (p+1) aB) (aS l)))
     ·rcases jF.mp b with b |b
      ·exact h y b
      ·refine M (fK.mp b) (M iP (M ow ?_));exact aL (lK _ _) (Gf _ _)
     ·refine M bH ?_;exact ov _ _ _
  ·exact f (ih st d a h) (uL _) (aP i)
theorem abV(n:aA)(l:aD (aD aA)):(∀y∈l,y.length≤n)→(l.map nk).sum≤l.length*n:=by
 induction l with
 |nil=>exact fun J=>ji _
 |cons a r ih=>
  intro h;refine M gJ (M agt (M j3 (M (agk ..) (M (aeQ ..) (M (gI ..) ?_)))));exact fY (ih fun y b=>h y (hX _ b)) (h a (iN ..))
theorem abW(x:aD aA):aeM (mk x) (aH "\"")=decide (34∈x):=by exact M (by decide+kernel:aH "\""=⟨#[34]⟩) <|ahY (mk x) 34
theorem Oi(P:bT)(x:aD aA)(r:aD (aG PV)):ev P {loc:=O (.str (mk x))::r} (.cmp .NotIn (.str (aH "\"")) (.nm 0))=O (.bool (!decide (34∈x))):=bb (aR (!·) (abW x))
theorem abX(P:bT)(x:aD aA)(h:34∉x):bE P wj {loc:=[O (.str (mk x)),aB,aB,aB,aB,aB]}=O (.ret (.str (mk x)),{loc:=[O (.str (mk x)),aB,aB,aB,aB,aB]}):=
 cV (it ((Oi P x _).trans (by refine M (eP h) ?_;rfl)) (cV (fU V rfl)))
theorem abY(P:bT)(x:aD aA)(h:34∈x):bE P wj {loc:=[O (.str (mk x)),aB,aB,aB,aB,aB]}=O (.next,km x 0 aB [] aB aB):=
 nx (eY ((Oi P x _).trans (by refine M (fM h) ?_;rfl)) V) (sg V rfl (sg V rfl (nx (tu V (nS (xs:=[]) V (ji _) V)) V)))
theorem abZ{b:aG (aD PV)}{a:aD (aD aA)}{n:aA}(c:a.length≤2001)(d:n≤1000)(e:∀y∈a,y.length≤n):nK b "join" (.str (aH "")) [.lst (a.map fun y=> .str (mk y))] =O (.str (mk a.flatten)):=by
 have f:a.length*n≤2001*1000:=xz c d;have g:((a.map mk).map (·.length))=a.map nk:=by refine M j8 ?_;exact uO fun y J=>cZ y
 refine(bN ((aR strs? (j8 (f:=mk) (g:=PV.str) (l:=a)).symm).trans (strs_map _)) (bB ?_)).trans (aR (fun z=>O (PV.str z)) ?_)
 ·refine M g (M (by decide+kernel:(aH "").length=0) (M (aeA ..) (M (si ..) ?_)));exact aL (aL (abV n a e) f) (by decide)
 ·refine M (by decide+kernel:aH ""=⟨#[]⟩) <|fT ?_
  refine M (v0 ..) (M j8 ?_);exact aR agQ (List.map_id'' (fun y=>rfl) _)
theorem Oj(P:bT)(x:aD aA)(e:x.length≤1000)(st:aA)(b:aG aA)(a:aD (aD aA))(c d:aG PV)(f:a.length≤2001)(g:∀y∈a,y.length≤x.length):
  bE P (.cons (.kV 3) (.cons (.ret (.dH "join" (.str (aH "")) (.cons (.nm 3) .nil))) .nil)) (km x st b a c d)=O (.ret (.str (mk a.flatten)),(km x st b a c d).freeze (a.map fun y=> .str (mk y))):=
 nx (CL V rfl) (cV (fU (lf V (gE V) (abZ f e g)) V))
theorem ab0(P:bT)(x:aD aA)(e:x.length≤1000)(st:aA)(b:aG aA)(a:aD (aD aA))(c d:aG PV)(f:a.length≤2000)(i:∀y∈a,y.length≤x.length):
  ∃k,bE P postR (km x st b a c d)=O (.ret (.str (mk (a++if st < x.length then [x.drop st] else []).flatten)),k):=by
 have j:ev P (km x st b a c d) (.bi "len" (.cons (.nm 0) .nil))=O (.int x.length):=iU (gE V) ((bB (by refine M (cZ ..) (M cN ?_);exact aL e (by decide))).trans (aR (fun n:aA=>O (PV.int n)) (cZ x)))
 by_cases h:st < x.length
 ·have l:∀y∈a++[x.drop st],y.length≤x.length:=fun y g=>(jF.mp g).elim (i y) fun g=>by refine M (fK.mp g) (M iP ?_);exact lK _ _
  have o:ex P (.app 3 (.dE (.nm 0) (.nm 1) .none)) (km x st b a c d)=O (.next,km x st b (a++[x.drop st]) c d):=
   (yz V (o0 V rfl rfl (v7 e st)) V rfl (by refine M (bQ ..) ?_;exact aL f (by decide))).trans (aR (fun m=>O (Fl.next,{km x st b a c d with mu:=O m})) (iE (f:=fun y=>PV.str (mk y)) (l₁:=a) (l₂:=[x.drop st])).symm)
  exact M (aS h) <|⟨_,nx (it (cK V j (lW (dN.mpr h))) (nx o V)) (Oj P x e st b _ c d (by refine M bH ?_;exact sF f) l)⟩
 ·refine M (aP h) (M (jT ..) ?_);exact⟨_,nx (eY (cK V j (lg fun q=>h (dN.mp q))) V) (Oj P x e st b a c d (nB f) i)⟩
section
theorem ab1(W:Wd w p mb h₀)(x:aD aA)(a:x.length≤1000)(r:kj x aI=aI):Ct w p mb h₀ T 13 "_strip_quoted_realnames" [.str (mk x)] (.str (mk (kl x))):=by
 refine W.by (n:=12) (i:=2) (P:=bJ) (rest:=[aB,aB,aB,aB,aB]) (k:=1) (tb:=rM) (by decide) ⟨_,rfl⟩ V dfR (fun t J J J h=>pU (fun J=>rfl) t h) fV (fun J J J=>nn) V ?_ V;intro ah ai K m s u y A B Y G;subst u y A B;obtain⟨l,aj,ak,al,am,arg,an,ao,ap,C,D,d,E,F,H,I⟩:=abQ;refine M D <|tB l _ ?_
 by_cases h:34∈x
 ·refine wpAny_mono (nQ wj l _ _ _ _ Y d (abY bJ x h) K m aB s G) (fun f L o=> ?_) fun J J q=>q.elim;obtain⟨e,g,i,b,N,P,rfl,Q⟩:=o;have j:=abT x 0 aI;(refine xR (abS bJ x a (dK x 0 aI) 0 aB [] aB aB (by simp;exact aL j (nF (bZ a (by decide))))) ?_;rintro R S U k);refine xa (abU x (dK x 0 aI) 0 aB [] (by simp)) fun c n=> ?_;have X:kl x=((gF x (dK x 0 aI) 0 aB []).2++if(gF x (dK x 0 aI) 0 aB []).1 < x.length then [x.drop (gF x (dK x 0 aI) 0 aB []).1] else []).flatten:=aS h;refine M X ?_;generalize gF x (dK x 0 aI) 0 aB [] =z at k c n;refine wpAny_execs_cons (wpAny_mono (abO W Y (cA _) Q (x:=mk x) (by decide+kernel) E V r F H k) (fun f a0 o=> ?_) fun J J q=>q.elim);obtain⟨a1,a2,a3,a4,aq,ar,rfl,a5⟩:=o;(refine xe (ab0 bJ x a z.1 R z.2 S U (by simp at c;exact aL (aL c j) (nF (bZ a (by decide)))) n) ?_;rintro as a6);refine wpAny_mono (nQ postR C _ _ _ _ Y I a6 a1 a2 a3 a0 a5) (fun f au o=> ?_) fun J J q=>q.elim;obtain⟨a7,a8,a9,a',av,aw,v,rfl,aa,ab⟩:=o;exact⟨a7,a8,a9,v,(b.trans a4).trans a',rfl,aa,ab⟩
 ·refine wpAny_mono (nQ wj l _ _ _ _ Y d (abX bJ x h) K m aB s G) (fun f L o=> ?_) fun J J q=>q.elim;obtain⟨e,g,i,b,N,P,v,rfl,ae,af⟩:=o;exact M (show kl x=x from aP h) <|⟨e,g,i,v,b,rfl,ae,af⟩
end
end
section
open Builtin Builtin.Str
noncomputable def tS:nI:=⟨#[37,115,44,32,37,48,50,100,32,37,115,32,37,48,52,100,32,37,48,50,100,58,37,48,50,100,58,37,48,50,100,32,37,115]⟩
noncomputable def iB(n:Z):aD Nat:=(Nat.toDigits 10 n.toNat).map agR
noncomputable def cC(k:aA)(n:Z):aD Nat:=dU (k - (iB n).length) 48++iB n
noncomputable def l6(k:aA)(n:Z):nI:=mk (cC k n)
noncomputable def tT(a:nI)(d:Z)(b:nI)(y c e f:Z)(z:nI):nI:=a++", "++l6 2 d++" "++b++" "++l6 4 y++" "++l6 2 c++":"++l6 2 e++":"++l6 2 f++" "++z
theorem El(hn:0≤n):(HE (toString n)).cps.toList=iB n:=by(refine xe (qW hn) ?_;rintro m rfl);exact KIN.signs_num m
theorem Em(n:Z):∀c∈iB n,48≤c∧c≤57:=by intro c a;exact aQ (iX.mp a) fun d b e=>aT e <|digit_range (Nat.isDigit_of_mem_toDigits (by decide) (by decide) b)
theorem Ol(h0:0≤n)(h1:n < 10^10):(iB n).length≤10:=by refine aT (El h0) ?_;have:=toString_length_le (k:=10) h0 (by decide) h1;simpa [ahZ] using this
theorem ab2{c:Percent}{k:aA}(a:c.alt=aI)(b:c.type=100)(d:c.prec=aB)(e:c.width=O k)(f:c.ljust=aI)(g:c.zero=aF)(h:c.sign=aI)(i:c.blank=aI):c=⟨aI,aI,aI,aI,aF,O k,aB,100⟩:=by refine aT a (aT b (aT d (aT e (aT g ?_))));show Percent.mk c.ljust c.sign c.blank c.alt c.zero c.width c.prec c.type=_;exact M f (M h (M i (M a V)))
@[elab_as_elim] theorem ten{P:aA→Prop}(d:aA)(a:d < 10)(b:P 0)(c:P 1)(e:P 2)(f:P 3)(g:P 4)(i:P 5)(j:P 6)(k:P 7)(l:P 8)(m:P 9):P d:=
 match d,a with
 |0,_=>b |1,_=>c |2,_=>e |3,_=>f |4,_=>g |5,_=>i |6,_=>j |7,_=>k |8,_=>l |9,_=>m
 | _+10,h=>absurd h (i8.mpr (ox ..))
theorem ab3(k:aA){l:aD aA}(f:∀c∈l,48≤c∧c≤57):percentField ⟨aI,aI,aI,aI,aF,O k,aB,100⟩ aF l=if k≤l.length then aB else O (dU (k - l.length) 48++l):=by
 by_cases b:k≤l.length
 ·exact(aS (by refine(M (fM b) ?_:(((decide (k≤l.length) && aF) && !aI) && !aI)=aF);rfl)).trans (aS b).symm
 ·refine(aP (by refine(M (eP b) ?_:¬(((decide (k≤l.length) && aF) && !aI) && !aI)=aF);exact GY)).trans (kO ?_ (aP b).symm);clear b;cases l with
  |nil=>rfl
  |cons a r=>
   have e:=f a (iN ..);have z:∀a,O (dU (k - (0+0+(r.length+1))) 48++(a::r))=O (dU (k - (r.length+1)) 48++(a::r)):=fun a=>aR (fun n=>O (dU (k - n) 48++(a::r))) (mI _);obtain⟨d,rfl⟩:∃d,a=d+48:=⟨a - 48,(r9 e.1).symm⟩;have g:d < 10:=pP (n:=48) (ml e.2);clear f e;refine ten d g ?_ ?_ ?_ ?_ ?_ ?_ ?_ ?_ ?_ ?_<;>exact z _
theorem Om{c:Percent}{k:aA}{n:Z}{d:aD aA}(h1:c.alt=aI)(h2:c.type=100)(h3:c.prec=aB)(h4:c.width=O k)(h5:c.ljust=aI)(h6:c.zero=aF)(h7:c.sign=aI)(h8:c.blank=aI)(hn:0≤n)
  (hd:d=(HE (toString ((n.natAbs:aA):Z))).cps.toList):percentInt c (decide (n < 0)) d=iB n∧percentField c aF (iB n)=if k≤(iB n).length then aB else O (dU (k - (iB n).length) 48++iB n):=by
 have e:((n.natAbs:aA):Z)=n:=wV hn;rw[e,El hn] at hd;subst hd;exact⟨KPc.int_text c h1 (.inl h2) h3 hn _,(aR (fun c=>percentField c aF (iB n)) (ab2 h1 h2 h3 h4 h5 h6 h7 h8)).trans (ab3 k (Em n))⟩
theorem On(h:percentField c aF (percentInt c (decide (n < 0)) d)=aB)(h1:c.alt=aI)(h2:c.type=100)(h3:c.prec=aB)(h4:c.width=O k)(h5:c.ljust=aI)(h6:c.zero=aF)(h7:c.sign=aI)(h8:c.blank=aI)(hn:0≤n)
  (hd:d=(HE (toString ((n.natAbs:aA):Z))).cps.toList):(⟨(percentInt c (decide (n < 0)) d).toArray⟩:nI)=l6 k n:=by
 refine xa (Om h1 h2 h3 h4 h5 h6 h7 h8 hn hd) fun e1 e2=> ?_;(replace h:=e1▸h;replace h:=e2▸h);refine M e1 ?_
 by_cases hk:k≤(iB n).length
 ·unfold l6 cC;refine M (Su hk) ?_;rfl
 ·replace h:=(aP hk)▸h;cases h
theorem Oo(h:percentField c aF (percentInt c (decide (n < 0)) d)=O laid)(h1:c.alt=aI)(h2:c.type=100)(h3:c.prec=aB)(h4:c.width=O k)(h5:c.ljust=aI)(h6:c.zero=aF)(h7:c.sign=aI)(h8:c.blank=aI)(hn:0≤n)
  (hd:d=(HE (toString ((n.natAbs:aA):Z))).cps.toList):(⟨laid.toArray⟩:nI)=l6 k n:=by
 refine xa (Om h1 h2 h3 h4 h5 h6 h7 h8 hn hd) fun e1 e2=> ?_;(replace h:=e1▸h;replace h:=e2▸h)
 by_cases hk:k≤(iB n).length
 ·replace h:=(aS hk)▸h;cases h
 ·replace h:=(aP hk)▸h;cases h;rfl
theorem En(a:0≤n)(b:n < 10^10)(c:k≤4):(l6 k n).length≤14:=by have:=Ol a b;unfold l6;refine M (cZ ..) ?_;unfold cC;refine M bH (M oJ ?_);exact GK (fB (bZ this (by decide))) (qK (aL c (by decide)) _)
theorem Op{f:uv}{A:bX}{E:aJ→aM→Prop}{s s₀:aM}{p:aD aJ}{r:aD aA}{Q:wX (aD aJ×Writer×aD aA)→aM→Prop}{w:Writer}{T x y:nI}{N K:aA}{b:aG aJ}{o:aG (aD aA)}(i:o=aB→x=y)(j:∀a,o=O a→(⟨a.toArray⟩:nI)=y)
  (c:∃k,s={s₀ with toks:=k}) (g:ky w T N) (d:y.length≤K) (m:KPc.Obj b x) (h:∀e k,ky e (T++y) (N+K)→Q (.yield (p,e,r)) {s₀ with toks:=k}):aN f A (match o with |none=>(pure (.yield (p,w.add x b,r)):cR (wX (aD aJ×Writer×aD aA))) |some a=>pure (.yield (p,w.add ⟨a.toArray⟩,r))) Q E s:=by
 (refine xe c ?_;clear c;rintro k rfl);cases o with
 |none=>
  refine wpAny_pure (h _ _ ?_);have:=i V;subst this;exact agS (agT g m) (eK d _)
 |some l=>
  refine wpAny_pure (h _ _ ?_);have:=j l V;subst this;exact agS (agT g (Br V)) (eK d _)
end
section
open Builtin Builtin.Str
noncomputable abbrev rN:=aD aJ×Writer×aD aA
noncomputable abbrev wk:=wX rN
section
variable{pg:QP}{B:aA→rN→cR wk}{E:aJ→aM→Prop}
noncomputable def Tq(M0:uv)(A:bX)(B:aA→rN→cR wk)(l:aD aA)(Q:rN→aM→Prop)(E:aJ→aM→Prop)(r:wk)(s:aM):Prop:=ah0 (fun b=>Q b s) (fun b=>aN M0 A (forIn l b B) Q E s) r
noncomputable def ab4(B:aA→rN→cR wk)(U G:aD aJ→Writer→aD aA→cR wk):Prop:=∀x p w r,B x (p,w,r)=if tooLong w.total=aF then U p w r else G p w r
theorem rO(hB:ab4 B U G)(g:ky w T N)(hN:N≤16777216)
  (h:aN (aO pg wd) A (G p w r) (Tq (aO pg wd) A B l Q E) E s):aN (aO pg wd) A (forIn (x::l) (p,w,r) B) Q E s:=
 KPc.turn (xU (hB x p w r) (qF (KPc.ite_no (KPc.short_good g hN) (wpAny_mono h (fun r s h=>by cases r<;>exact h) fun J J h=>h))))
end
theorem ab5(r:aD aA):KPc.Obj (if r.isEmpty=aF then O (.str y t) else aB) y:=by
 by_cases a:r.isEmpty=aF
 ·exact KPc.obj_some (aS a)
 ·exact Br (aP a)
theorem ab6{B:aA→rN→cR (wX rN)}{E:aJ→aM→Prop}(l1:∀{s l x p w T N r},ky w T N→N≤16777216→(∀w',ky w' (T++", ") (N+2)→aN M0 A (forIn l (p,w',37::r) B) Q E s)→aN M0 A (forIn (x::l) (p,w,44::32::37::r) B) Q E s)(l2:∀{s l x p w T N r},ky w T N→N≤16777216→(∀w',ky w' (T++" ") (N+1)→aN M0 A (forIn l (p,w',37::r) B) Q E s)→aN M0 A (forIn (x::l) (p,w,32::37::r) B) Q E s)(l3:∀{s l x p w T N r},ky w T N→N≤16777216→(∀w',ky w' (T++":") (N+1)→aN M0 A (forIn l (p,w',37::r) B) Q E s)→aN M0 A (forIn (x::l) (p,w,58::37::r) B) Q E s)(st:∀{s l x p w T N r} {y:nI} {t:hA},y.length≤100000→ky w T N→N≤16777216→(∀w',ky w' (T++y) (N+100000)→aN M0 A (forIn l (p,w',r) B) Q E s)→aN M0 A (forIn (x::l) (.str y t::p,w,37::115::r) B) Q E s)(d2:∀{s l x p w T N r} {n:Z} {t:hA},0≤n→n < 10^10→ky w T N→N≤16777216→(∀w' k,ky w' (T++l6 2 n) (N+14)→aN M0 A (forIn l (p,w',r) B) Q E {s with toks:=k})→aN M0 A (forIn (x::l) (.int n t::p,w,37::48::50::100::r) B) Q E s)(d4:∀{s l x p w T N r} {n:Z} {t:hA},0≤n→n < 10^10→ky w T N→N≤16777216→(∀w' k,ky w' (T++l6 4 n) (N+14)→aN M0 A (forIn l (p,w',r) B) Q E {s with toks:=k})→aN M0 A (forIn (x::l) (.int n t::p,w,37::48::52::100::r) B) Q E s)(g:ky w0 ah1 0)
  (h0:wd.length≤100000) (h1:mo.length≤100000) (h2:z.length≤100000) (hd:0≤d) (oR:d < 10^10) (hy:0≤y) (Eo:y < 10^10) (Ep:0≤hh) (Er:hh < 10^10) (Et:0≤mm) (Eu:mm < 10^10) (Ew:0≤ss) (rD:ss < 10^10)
  (fin:∀{l:aD aA} {x:aA} {w:Writer} {N k:aA},ky w (tT wd d mo y hh mm ss z) N→N≤16777216→aN M0 A (forIn (x::l) ([],w,[]) B) Q E {s with toks:=k}):
  aN M0 A (forIn (qM 0 34) ([.str wd t0,.int d t1,.str mo t2,.int y t3,.int hh t4,.int mm t5,.int ss t6,.str z t7],w0,[37,115,44,32,37,48,50,100,32,37,115,32,37,48,52,100,32,37,48,50,100,58,37,48,50,100,58,37,48,50,100,32,37,115]) B) Q E s:=by
 refine st h0 g (by decide) fun w1 g=> ?_;rw[KPc.empty_app] at g
 exact l1 g (by decide) fun w2 g=>d2 hd oR g (by decide) fun w3 k3 g=>l2 g (by decide) fun w4 g=>st h1 g (by decide) fun w5 g=>l2 g (by decide) fun w6 g=>d4 hy Eo g (by decide) fun w7 k7 g=>l2 g (by decide) fun w8 g=>
  d2 Ep Er g (by decide) fun w9 k9 g=>l3 g (by decide) fun w10 g=>d2 Et Eu g (by decide) fun w11 vR g=>l3 g (by decide) fun w12 g=>d2 Ew rD g (by decide) fun w13 Dw g=>l2 g (by decide) fun w14 g=>st h2 g (by decide) fun w15 g=>fin g (by decide)
theorem ab7(wd mo z:nI)(d y hh mm ss:Z)(t t0 t1 t2 t3 t4 t5 t6 t7:hA)(b:aW)(h0:wd.length≤100000)(h1:mo.length≤100000)(h2:z.length≤100000)(hd:0≤d)(oR:d < 10^10)(hy:0≤y)(Eo:y < 10^10)(Ep:0≤hh)(Er:hh < 10^10)(Et:0≤mm)(Eu:mm < 10^10)(Ew:0≤ss)(rD:ss < 10^10):
  Meets («str.__mod__» ⟨[.str tS t,.ref b],[]⟩) (fun J R s=>ah2 s.heap b #[.str wd t0,.int d t1,.str mo t2,.int y t3,.int hh t4,.int mm t5,.int ss t6,.str z t7]∧∀t' k,R (.ok (.ret (.str (tT wd d mo y hh mm ss z) t'))) {s with toks:=k}):=by
 refine KPt.meets_tup fun J J J s J J hT ab8=>xU (KPt.entry_is_r _ _ _) ?_;(refine uR hT ?_;clear hT;rintro o ho hc n hD);have hY:s.TypeIs (.ref b) "tuple":=⟨o,ho,hc⟩;refine wpAny_bind (Av (T:="tuple") hY KPt.sub_tt (wpAny_bind (KPt.asStr_ref ho hD (wpAny_bind (KPt.fills_ref hY fun m=>wpAny_bind (Sk ho hD (wpAny_bind (wpAny_pure (wpAny_bind (xU (KPc.range_list _ _ _) (KPc.start fun w0 g=> ?_)))))))))));clear hY ho hc hD
 refine(fun hB=>ab6
  (fun g hN k=>rO hB g hN (wpAny_pure (by exact SJ g V (Br V) k)))
  (fun g hN k=>rO hB g hN (wpAny_pure (by exact SJ g V (Br V) k)))
  (fun g hN k=>rO hB g hN (wpAny_pure (by exact SJ g V (Br V) k)))
  (fun{s l x p w T N r y t} hy g hN k=>rO hB g hN (wpAny_bind (il (wpAny_bind (mT (KPc.strOf_str _ _) (by exact wpAny_pure (by exact wpAny_pure (KPc.after_str g hy (ab5 r) k))))))))
  (fun{s l x p w T N r n u} hn uX g hN k=>rO hB g hN (wpAny_bind (il (wpAny_bind (mT (a:=n) V ?_)))))
  (fun{s l x p w T N r n u} hn uX g hN k=>rO hB g hN (wpAny_bind (il (wpAny_bind (mT (a:=n) V ?_)))))
  g h0 h1 h2 hd oR hy Eo Ep Er Et Eu Ew rD fun g hN=>rO hB g hN (wpAny_pure (by exact KPc.finish_ok (T':=tT wd d mo y hh mm ss z) g hN V ab8))) (fun J J J J=>rfl)
 ·refine wpAny_bind (wpAny_mkInt (wpAny_bind ?_));exact Sr agU (AK _ _ _) agV (agW _) (agX _ _ (HF (by kpt_hd))) ⟨agY (HF (by kpt_hd)),wpAny_bind (mT (a:=O _) V (wpAny_pure (Op (s₀:=s) (fun hF=>On (k:=2) hF V rfl rfl rfl rfl rfl rfl rfl hn V) (fun laid hF=>Oo (k:=2) hF V rfl rfl rfl rfl rfl rfl rfl hn V) ⟨_,rfl⟩ g (En hn uX (by decide)) (by kpc_obj) k)))⟩
 ·refine wpAny_bind (wpAny_mkInt (wpAny_bind ?_));exact Sr agU (AK _ _ _) agV (agW _) (agX _ _ (HF (by kpt_hd))) ⟨agY (HF (by kpt_hd)),wpAny_bind (mT (a:=O _) V (wpAny_pure (Op (s₀:=s) (fun hF=>On (k:=4) hF V rfl rfl rfl rfl rfl rfl rfl hn V) (fun laid hF=>Oo (k:=4) hF V rfl rfl rfl rfl rfl rfl rfl hn V) ⟨_,rfl⟩ g (En hn uX (by decide)) (by kpc_obj) k)))⟩
end
section
noncomputable def cF:aD Str:=["Mon","Tue","Wed","Thu","Fri","Sat","Sun"]
noncomputable def cH:aD Str:=["Jan","Feb","Mar","Apr","May","Jun","Jul","Aug","Sep","Oct","Nov","Dec"]
noncomputable def nf:aD Str→Es
 |[] => .nil|x::r=> .cons (.str x) (nf r)
noncomputable def Ex:Tb:=[(aH "timetuple",aF),(aH "zone",aF)]
theorem ab9:iv (aK 3) 2 Ex=true:=by decide+kernel
noncomputable def ly(k:Z):E:= .sub (.nm 0) (.int k)
noncomputable def Oq:E:= .tup (.cons (.sub (.lst (nf cF)) (ly 6)) (.cons (ly 2) (.cons (.sub (.lst (nf cH)) (.bin .Sub (ly 1) (.int 1))) (.cons (ly 0) (.cons (ly 3) (.cons (ly 4) (.cons (ly 5) (.cons (.nm 1) .nil))))))))
theorem ab':∃F z p q e r,(aK 3).body=[.Return (O (.BinOp (.Constant (.str F) z p) .Mod e q)) r]∧F=tS∧bC (aK 3).scope Ex Oq e=true:=⟨_,_,_,_,_,_,rfl,by decide+kernel,by decide+kernel⟩
theorem Ot(P:bT)(a:Sg):∀l:aD Str,gC P a (nf l)=O (l.map .str)
 |[] =>rfl|x::r=>bW V (Ot P a r)
theorem Ou:∀l:aD Str,kW (l.map PV.str)=aF
 |[] =>rfl| _::r=>Ou r
theorem wl(P:bT)(a:Sg)(l:aD Str)(h:l.length≤1000):ev P a (.lst (nf l))=O (.lst (l.map .str)):=
 nS (Ot P a l) (by refine M (bQ ..) ?_;exact h) (Ou l)
theorem og{a:aG (aD PV)}{l:aD Str}{k:aA}{x:Str}(b:l.length≤1000)(h:l[k]? =O x):jq a (.lst (l.map .str)) (.int (k:Z))=O (.str x):=by have c:k < l.length:=(md.mp h).1;show aZ _ _=_;refine M (bB (by refine M (bQ ..) (M cN ?_);exact aL b (by decide))) (M (rp (by refine M (bQ ..) ?_;exact c)) (M (xI ..) (M im (M h ?_))));rfl
theorem aca{E:aJ→aM→Prop}(c:IsTup s.heap b d)
  (f:Meets (Builtin.«str.__mod__» ⟨[.str tS t,.ref b],[]⟩) (fun J R s=>IsTup s.heap b d∧∀a k,R (.ok (.ret (.str T a))) {s with toks:=k}))
  (h:∀a k,Q (.str T a) {s with toks:=k}):aN (aO pg w) A (sk .Mod (.str tS t) (.ref b)) Q E s:=by
 have g:s.TypeIs (.ref b) "tuple":=by(refine dB c ?_;clear c;rintro o i j _);exact⟨o,i,j⟩
 exact KPt.bin_left (T:="str") (U:="tuple") (op:= .Mod) (by decide) (pF s tS t) g F.fills_str_mod KPt.fills_tuple agZ
  (xm agZ (pF s tS t) F.entry_str_mod (F.args_str_mod_2 _ _) f ⟨c,fun a k=>⟨(fun e=>(by contradiction)),h a k⟩⟩)
@[elab_as_elim] theorem bL.eS{w:aV}{K:PK}{C:aD aJ→Prop}{l:aD aJ}{x:Str}{r:aD PV}(h:bL w K l (.str x::r))(k:∀t a,bL w K a r→C (.str x t::a)):C l:=by(refine cS h.mr ?_;rintro v l rfl q b);(refine xe q.str_inv ?_;rintro t rfl);exact k t l b
@[elab_as_elim] theorem bL.eI{w:aV}{K:PK}{C:aD aJ→Prop}{l:aD aJ}{x:Z}{r:aD PV}(h:bL w K l (.int x::r))(k:∀t a,bL w K a r→C (.int x t::a)):C l:=by(refine cS h.mr ?_;rintro v l rfl q b);(refine xe q.int_inv ?_;rintro t rfl);exact k t l b
@[elab_as_elim] theorem bL.eN{w:aV}{K:PK}{C:aD aJ→Prop}{l:aD aJ}(h:bL w K l [])(k:C []):C l:=by cases h;exact k
noncomputable def acb(a b c:Str)(d e f g h:Z)(l:aD aJ):Prop:=∃i j k m n o p q,l=[.str a i,.int d j,.str b k,.int e m,.int f n,.int g o,.int h p,.str c q]
theorem acd{w:aV}{K:PK}{a b c:Str}{d e f g i:Z}{l:aD aJ}(h:bL w K l [.str a,.int d,.str b,.int e,.int f,.int g,.int i,.str c]):acb a b c d e f g i l:=
 h.eS fun j J h=>h.eI fun k J h=>h.eS fun m J h=>h.eI fun n J h=>h.eI fun o J h=>h.eI fun p J h=>h.eI fun q J h=>h.eS fun r J h=>h.eN ⟨j,k,m,n,o,p,q,r,rfl⟩
section
theorem ace{w:aV}{mg mb:Str→aG aJ}{h₀:bF}{T:aD Tab}(W:Wd w mg mb h₀)(y mo d hh mm ss wd:aA)(z:Str)(hy:y < 100000)(hmo:mo < 12)(hd:d < 100)(hhh:hh < 100)(hmm:mm < 100)(hss:ss < 100)(hwd:wd < 7)(hz:z.length≤1000):
  Ct w mg mb h₀ T 1 "_format_timetuple_and_zone" [.tup [.int (y:Z),.int ((mo:Z)+1),.int (d:Z),.int (hh:Z),.int (mm:Z),.int (ss:Z),.int (wd:Z)],.str z] (.str (tT (cF.getD wd ⟨#[]⟩) d (cH.getD mo ⟨#[]⟩) y hh mm ss z)):=by
 refine W.by (n:=0) (i:=3) (P:=bJ) (rest:=[]) (k:=2) (tb:=Ex) (by decide) ⟨_,rfl⟩ V ab9 (fun vs J J J h=>pV (fun J J=>rfl) vs h) fV (fun J J J=>nn) V ?_ V;intro A cx K m s e1 e2 e3 e4 Y G;subst e1 e2 e3 e4;obtain⟨F,zz,p,q,e,r,hb,rfl,he⟩:=ab';refine M hb ?_
 let tt:PV:= .tup [.int (y:Z),.int ((mo:Z)+1),.int (d:Z),.int (hh:Z),.int (mm:Z),.int (ss:Z),.int (wd:Z)]
 have hwl:wd < cF.length:=hwd;have hml:mo < cH.length:=hmo;have g1:cF[wd]? =O (cF.getD wd ⟨#[]⟩):=by refine M io (M (fD hwl) ?_);rfl
 have g2:cH[mo]? =O (cH.getD mo ⟨#[]⟩):=by refine M io (M (fD hml) ?_);rfl
 have sl:∀x∈cF++cH,x.length≤3:=by decide+kernel
 have l1:(cF.getD wd ⟨#[]⟩).length≤3:=sl _ (kU _ (kt g1));have l2:(cH.getD mo ⟨#[]⟩).length≤3:=sl _ (j7 _ (kt g2));generalize cF.getD wd ⟨#[]⟩=dn at g1 l1 ⊢;generalize cH.getD mo ⟨#[]⟩=mn at g2 l2 ⊢
 have sub:∀mu (k:aA) x,k < 7→[PV.int (y:Z),.int ((mo:Z)+1),.int (d:Z),.int (hh:Z),.int (mm:Z),.int (ss:Z),.int (wd:Z)][k]? =O x→jq mu tt (.int (k:Z))=O x:=by intro mu k x hk hx;show aZ _ _=_;exact M (bB (by refine M cN ?_;show 7≤16777216;decide)) (M (rp (by simpa using hk)) (M (xI ..) (M hx V)))
 have pk:ev bJ {loc:=[O tt,O (.str z)]} Oq=O (.tup [.str dn,.int d,.str mn,.int y,.int hh,.int mm,.int ss,.str z]):=by
  have s0:=fun mu=>sub mu 0 _ (by decide) V;have s1:=fun mu=>sub mu 1 _ (by decide) V;have s2:=fun mu=>sub mu 2 _ (by decide) V;have s3:=fun mu=>sub mu 3 _ (by decide) V;have s4:=fun mu=>sub mu 4 _ (by decide) V;have s5:=fun mu=>sub mu 5 _ (by decide) V;have s6:=fun mu=>sub mu 6 _ (by decide) V;have em:((mo:Z)+1 - 1)=(mo:aA):=SK _ _;have d1:∀mu,jq mu (.lst (cF.map .str)) (.int (wd:Z))=O (.str dn):=fun mu=>og (by decide) g1;have d2:∀mu,jq mu (.lst (cH.map .str)) (.int ((mo:Z)+1 - 1))=O (.str mn):=fun mu=>by refine M em ?_;exact og (by decide) g2
  have k1:=wl bJ {loc:=[O tt,O (.str z)]} cF (by decide);have k2:=wl bJ {loc:=[O tt,O (.str z)]} cH (by decide);generalize tt=tt at s0 s1 s2 s3 s4 s5 s6 k1 k2;have a0:ev bJ {loc:=[O tt,O (.str z)]} (ly 0)=O (.int y):=s0 aB;have a1:ev bJ {loc:=[O tt,O (.str z)]} (ly 1)=O (.int ((mo:Z)+1)):=s1 aB;have a2:ev bJ {loc:=[O tt,O (.str z)]} (ly 2)=O (.int d):=s2 aB;have a3:ev bJ {loc:=[O tt,O (.str z)]} (ly 3)=O (.int hh):=s3 aB;have a4:ev bJ {loc:=[O tt,O (.str z)]} (ly 4)=O (.int mm):=s4 aB;have a5:ev bJ {loc:=[O tt,O (.str z)]} (ly 5)=O (.int ss):=s5 aB;have a6:ev bJ {loc:=[O tt,O (.str z)]} (ly 6)=O (.int wd):=s6 aB;refine tw (bW (hZ k1 a6 (d1 aB)) (bW a2 (bW (hZ k2 (bM a1 V mA) (d2 aB)) (bW a0 (bW a3 (bW a4 (bW a5 (bW V iw)))))))) (by show 8≤1000;decide) V
 refine wpAny_execs_cons (nA (wpAny_BinOp (sp (((cY Y _ e he).ev pk (G.of (.refl K) G.F.tok)).then fun K1 v1 s1 k1 F1 b1 r1=> ?_))));(refine ip r1.sJ ?_;rintro a o its nn rfl h1 h2 h3 h4);refine H5 (acd h4) fun t0 t1 t2 t3 t4 t5 t6 t7 e=> ?_;obtain⟨its⟩:=its;obtain rfl:its=_:=e;exact aca ⟨o,F1.keep _ _ h1,h2,nn,h3⟩ (ab7 dn mn z d y hh mm ss _ t0 t1 t2 t3 t4 t5 t6 t7 a (aL l1 (by decide)) (aL l2 (by decide)) (aL hz (by decide)) (cW _) (dD (dN.mpr hd) (by decide)) (cW _) (dD (dN.mpr hy) (by decide)) (cW _) (dD (dN.mpr hhh) (by decide)) (cW _) (dD (dN.mpr hmm) (by decide)) (cW _) (dD (dN.mpr hss) (by decide))) fun t' k=>⟨K1,m,aB,_,k1,rfl,F1.tok,.str⟩
end
end
section
open Sem (wp)
section
variable{K:PK}
theorem Fm.sub{S:aD aW}{d:aM}(F:Fm c K m l s)(i:∀b∈S,dR c K l b)(C:PK.le K f)(D:∀b o,f b=O o→d.heap.get? b=O o)(p:∀b o,f b=O o→K b=O o∨s.heap.get? b=aB)
  (g:∀b o,Off c.T b→b∉S→s.heap.get? b=O o→d.heap.get? b=O o) (E:d.os=s.os) (G:iT s.gens d.gens) (H:∀t∈c.T,t.Ok f d.heap):Fm c f m l d:=by
 have dJ:Off c.T c.env.locals:=F.off F.cX
 have j:∀b,(∃o,s.heap.get? b=O o)→K b=aB→f b=none:=fun b ⟨o,e⟩ h=>by
  cases k:f b with
  |none=>rfl
  |some I=>
   rcases p _ _ k with z |z
   ·replace z:=h▸z;cases z
   ·replace z:=e▸z;cases z
 refine{ns:= ?_,keep:=D,dJ:= ?_,low:=F.low,le:=F.le.trans C,cU:=fun b o n e=>g b o n (fun h=>by replace e:=((i b h).nE)▸e;cases e) (F.cU b o n e),new:=fun b o e=> ?_,cX:=F.cX,mul:=fun a L N e=> ?_,gens:=F.gens.trans G,os:=E.trans F.os,base:=F.base,dP:=fun t u=> ?_,eX:=F.eX,tabs:=H}
 ·exact eQ F.ns fun o v w e r=>⟨o,v,w,g _ _ dJ (fun h=>(i _ h).nl V) e,r⟩
 ·exact eQ F.ns fun o v w e r=>j _ ⟨_,e⟩ F.dJ
 ·rcases p b o e with z |z
  ·exact F.new b o z
  ·refine .inr ?_;cases k:c.hE.get? b with
   |none=>rfl|some I=>(refine xe (F.there k) ?_;rintro U q);replace q:=z▸q;exact nn q
 ·(refine dX (F.mul a L N e) ?_;rintro⟨⟨o,x,P⟩,Q⟩ R T y);have A:=F.off y;have B:a∉S:=fun q=>(i _ q).nm (by refine M e ?_;rfl);exact⟨⟨⟨o,g _ _ A B x,P⟩,fun q=>(Q q).at fun J=>g _ _ A B⟩,j _ ⟨_,x⟩ R,T,y⟩
 ·exact j _ (F.tabs t u).some (F.dP t u)
noncomputable def cE(c:Cx)(K:PK)(s:aM)(a:dO)(b:aD (Str×aW))(C:aW):Cx:={c with fH:=K,hE:=cut s.heap C,env:=oK a b C c.env,ir:=s.gens}
theorem Ov(F:Fm c K m mu s)(hC:dR c K mu C)(hn:s.heap.Ns C mE):Fm (cE c K s scope cl C) K mE aB s:=
 {ns:=hn,keep:=F.keep,dJ:=hC.un,low:=fun b o q=>F.le _ _ (F.low b o q),le:= .refl K,cU:=fun b o J q=>by
   have nb:b≠C:=fun z=>by subst z;rw[show(cE c K s scope cl b).hE=cut s.heap b from rfl,tc] at q;exact nn q
   rw[show(cE c K s scope cl C).hE=cut s.heap C from rfl,oX nb] at q;exact q
  new:=fun b o q=> .inl q,cX:=tc,mul:=fun J J J q=>((by contradiction)),gens:= .refl F.gens.bare,os:=F.os,base:=F.base,dP:=F.dP,eX:=fun t ht=>by refine xe ((F.tabs t ht).some) fun o q=> ?_;have nb:t.P≠C:=F.off hC.nE t ht;exact⟨o,(oX nb).trans q⟩
  tabs:=F.tabs}
theorem Ow{f:aM}(F:Fm c K m g s)(n:dR c K g C)(k:PK.le K e)(a:Fm (cE c K s t u C) e p aB f):
  Fm c e m g f∧(∀b o,b≠C→Off c.T b→s.heap.get? b=O o→f.heap.get? b=O o)∧f.heap.Ns C p∧(∀b,dR c K g b→(∃o,s.heap.get? b=O o)→dR c e g b):=by
 have j:∀b o,b≠C→Off c.T b→s.heap.get? b=O o→f.heap.get? b=O o:=fun b o h i q=>a.cU b o i ((oX h).trans q)
 have l:∀b o,e b=O o→K b=O o∨(b≠C∧s.heap.get? b=aB):=fun b o q=>by
  have h:b≠C:=fun z=>by have:=a.dJ;replace q:=z▸q;replace q:=(show e C=aB from this)▸q;cases q
  rcases a.new b o q with z |z
  ·exact .inl z
  ·exact .inr ⟨h,(oX h).symm.trans z⟩
 refine⟨F.sub (S:=[C]) (fun b d=>by refine M (fK.mp d) ?_;exact n) k a.keep (fun b o q=>(l b o q).imp id And.right) (fun b o i d q=>j b o (by simpa using d) i q) (a.os.trans F.os.symm) a.gens a.tabs,j,a.ns,fun b d ⟨o,q⟩=>⟨?_,d.nl,d.nm,d.nE⟩⟩;cases z:e b with
 |none=>rfl
 |some r=>
  rcases l b r z with y |⟨_,y⟩
  ·replace y:=d.un▸y;cases y
  ·replace y:=q▸y;cases y
end
end
section
open Sem (wp)
section
variable{K:PK}
structure pq(w:aV)(c:Cx)(K:PK)(P:bT)(scope:dO)(cl:aD (Str×aW))(x:Str)(elt:Expr)(ifs:aD Expr)(qv:Tb)(fr:aD (aG PV))(zs:aD PV)(iC:PV→aU)(f:PV→PV)(ee:E):Prop where
 sc:je (uP scope c.env) qv=aF
 x0:qv[0]? =O (x,aF)
 Ey:∀i y k p,qv[i+1]? =O (y,k)→fr[i]? =O (O p)→k=aI∧∃ca o v,cl.lookup y=O ca∧K ca=O o∧o.data= .cell (O v)∧RV w K aB v p
 ts:∀p∈zs,(ifs=[]∧iC p=aF)∨∃t te,ifs=[t]∧bC (uP scope c.env) qv te t=aF∧(ev P {loc:=O p::fr} te).bind truth=O (iC p)
 el:bC (uP scope c.env) qv ee elt=aF
 ev:∀p∈zs,iC p=aF→ev P {loc:=O p::fr} ee=O (f p)
inductive CompI(w:aV)(c:Cx)(K:PK)(m:Str→aG aJ)(mu:Mu)(hs:bF)(I D C:aW)(St:aA→bF→Prop)(zs:aD PV)(iC:PV→aU)(f:PV→PV)(left:aA)(s1:aM):Prop
 |mk (K1:PK) (mE:Str→aG aJ) (its:aD aJ) (k:PK.le K K1) (F:Fm c K1 m mu s1) (n:s1.heap.Ns C mE) (p:s1.heap.PlainList D (AE its)) (r:bL w K1 its (((zs.take (zs.length - left)).filter iC).map f)) (hle:left≤zs.length) (hS:St (zs.length - left) s1.heap) (oI:dR c K1 mu I) (oD:dR c K1 mu D) (oC:dR c K1 mu C) (kb:KB c mu hs s1.heap):
   CompI w c K m mu hs I D C St zs iC f left s1
inductive Ox(w:aV)(c:Cx)(K1:PK)(m:Str→aG aJ)(mu:Mu)(h3:bF)(C:aW)(mE:Str→aG aJ)(b ok:aU)(s4:aM):Prop
 |mk (e:ok=b) (K4:PK) (k:PK.le K1 K4) (F:Fm c K4 m mu s4) (kp:∀b o,b≠C→Off c.T b→h3.get? b=O o→s4.heap.get? b=O o) (n:s4.heap.Ns C mE) (of:∀b,dR c K1 mu b→(∃o,h3.get? b=O o)→dR c K4 mu b):Ox w c K1 m mu h3 C mE b ok s4
theorem acf(Y:Hyp w A c sc tb P n){iter:Expr}
  (X:pq w c K P scope cl x elt ifs qv fr zs iC f ee) (C4:scope.kind= .function) (hlx:scope.names.lookup x=O .local) {St:aA→bF→Prop} (W:GU pg w A I fp [I] zs.length Pv St)
  (hP:∀(K1:PK) (j:aA) (v:aJ) (p:PV),PK.le K K1→Pv j v→zs[j]? =O p→RV w K1 .none v p) (rk:∀b∈fp,b=I∨∃o,K b=O o) (Cm:∀j h,St j h→∃o,h.get? I=O o) (Ez:I≠D) (qw:I≠C) (zv:D≠C)
  (hlen:zs.length≤1000000) (hI:hs.get? I=aB) (hD:hs.get? D=aB) (hC:hs.get? C=aB) (F0:Fm c K m mu s) (oI:dR c K mu I) (oD:dR c K mu D) (oC:dR c K mu C) (po:s.heap.Ns C mE)
  (tU:s.heap.PlainList D #[]) (td:St 0 s.heap) (Cn:KB c mu hs s.heap)
  (hR:∀K1 s' its mE',PK.le K K1→Fm c K1 m mu s'→s'.heap.Ns C mE'→s'.heap.PlainList D its.toArray→bL w K1 its ((zs.filter iC).map f)→dR c K1 mu D→dR c K1 mu C→KB c mu hs s'.heap→R (.ok .next) s'):
  pJ (aO pg w) A (.compLoop (.ListComp elt [⟨.Name x px,iter,ifs,0⟩] scope pos) 0 (.ref I) (.ref D) (oK scope cl C c.env)) R s:=by
 have hkx:(oK scope cl C c.env).kindOf x=O .local:=lookup_relabel_local hlx
 have hp:((oK scope cl C c.env).scope.kind== .class ||((oK scope cl C c.env).scope.kind== .module && (oK scope cl C c.env).locals !=(oK scope cl C c.env).globals))=false:=by refine(M C4 ?_:(scope.kind== .class ||(scope.kind== .module && _))=aI);rfl
 have YE:∀K1 s1,Hyp w A (cE c K1 s1 scope cl C) (uP scope c.env) qv P n:=fun K1 s1=>⟨Y.hh,Y.hd,Y.hu,⟨rfl,X.sc,Y.H.globals,Y.H.builtins⟩,⟨Y.S.gk,Y.S.call,Y.S.bi⟩⟩;refine codeAny_compLoop_tests (I:=CompI w c K m mu hs I D C St zs iC f) (fun left s1 vg=> ?_) zs.length ⟨K,mE,[],.refl K,F0,po,tU,by refine M (pK ..) ?_;exact .nil,cA _,by refine M (pK ..) ?_;exact td,oI,oD,oC,Cn⟩;obtain⟨K1,tV,its,k1,F1,Oy,Oz,rP,hle,oY,oI,oD,oC,kb1⟩:=vg
 have acg:its.length≤1000000:=by refine M rP.length (M (bQ ..) ?_);exact aL (ag0 ..) (aL (List.length_take_le ..) (qV (xK hlen)))
 have one:∀{b:aW} {s1:aM} {K1:PK} {h':bF} {tk:aA},Fm c K1 m mu s1→dR c K1 mu b→(∀q o,q≠b→s1.heap.get? q=O o→h'.get? q=O o)→Fm c K1 m mu {s1 with heap:=h',toks:=tk}:=fun{b} {s1} {K1} {h'} {tk} F o hk=>
  F.others (S:=[b]) (s':={s1 with heap:=h',toks:=tk}) (fun q hq=>by refine M (fK.mp hq) ?_;exact o) (fun q o hq z=>hk q o (by simpa using hq) z) F.gens V
 have zw:∀{b:aW} {h h':bF},KB c mu hs h→hs.get? b=aB→(∀q o,q≠b→h.get? q=O o→h'.get? q=O o)→KB c mu hs h':=fun{b} {h} {h'} kb hb hk q o z n1 n2 n3=>hk q o (fun y=>by(replace z:=y▸z;replace z:=hb▸z);exact nn z) (kb q o z n1 n2 n3);cases left with
 |zero=>
  rw[su] at oY rP;replace rP:=Ax▸rP;refine W.done s1 _ _ oY fun h' tk hk=> ?_;have lc:∀q o,q≠I→s1.heap.get? q=O o→h'.get? q=O o:=fun q o hq z=>hk q o (by simpa using hq) z;exact hR K1 {s1 with heap:=h',toks:=tk} its tV k1 (one F1 oI lc) (Oy.at' fun o z=>lc C o (Ne.symm qw) z) (Oz.at fun o z=>lc D o (Ne.symm Ez) z) rP oD oC (zw kb1 hI lc)
 |succ l=>
  have hj:zs.length - (l+1) < zs.length:=afc (bK (nq _) hle) (nq _);have OA:zs.length - (l+1)+1=zs.length - l:=Eq.symm (xP hle);refine W.item _ s1 _ _ hj oY fun v h' tk Cp nN hk=> ?_;have lc:∀q o,q≠I→s1.heap.get? q=O o→h'.get? q=O o:=fun q o hq z=>hk q o (by simpa using hq) z;replace nN:=OA▸nN;obtain⟨p,rx⟩:∃p,zs[zs.length - (l+1)]? =O p:=⟨_,fD hj⟩;have OB:p∈zs:=kt rx;have q0:RV w K1 .none v p:=hP K1 _ v p k1 Cp rx;have F2:Fm c K1 m mu {s1 with heap:=h',toks:=tk}:=one F1 oI lc;have NN:h'.Ns C tV:=Oy.at' fun o z=>lc C o (Ne.symm qw) z;have hl2:h'.PlainList D its.toArray:=Oz.at fun o z=>lc D o (Ne.symm Ez) z;have kb2:=zw kb1 hI lc;obtain⟨oIo,hIo⟩:=Cm _ _ nN;refine ag1 (uz (m:=tV) hkx NN (fun h3 EA EB=> ?_) hp);have tW:∀q o,q≠C→h'.get? q=O o→h3.get? q=O o:=fun q o hq z=>EB.extBut q o hq z;have F3:Fm c K1 m mu {s1 with heap:=h3,toks:=tk+1}:=one (s1:={s1 with heap:=h',toks:=tk}) F2 oC tW;have OC:h3.PlainList D its.toArray:=hl2.at fun o z=>tW D o zv z;have th:=zw kb2 hC tW
  have yp:St (zs.length - l) h3:=W.frame _ _ _ nN fun b hb o z=>by
   rcases rk b hb with rfl |⟨o',nO⟩
   ·exact tW _ o qw z
   ·exact tW b o (fun y=>by subst y;have:=k1 _ _ nO;replace this:=oC.un▸this;exact nn this) z
  have vi:∃o,h3.get? I=O o:=⟨_,tW I _ qw hIo⟩;have OD:∃o,h3.get? D=O o:=xe OC fun J z=>⟨_,z⟩;have OE:∃o,h3.get? C=O o:=eQ EA fun o J J z J=>⟨o,z⟩;have tf:=F3.off oI.nE;have ach:=F3.off oD.nE
  have LE:∀K2,PK.le K1 K2→RL w K2 (oK scope cl C c.env) aB qv (fun z=>if z=x then O v else tV z) (O p::fr):=by
   intro K2 k2 i y k q hi hq;cases i with
   |zero=>
    replace hi:=X.x0▸hi;cases hi;cases hq;exact⟨v,aS V,q0.mono k2⟩
   |succ i=>
    (refine BH (X.Ey i y k q hi hq) ?_;rintro rfl ca o u e1 e2 e3 r);exact⟨ca,o,u,e1,(k1.trans k2) _ _ e2,e3,r.mono (k1.trans k2)⟩
  have next:∀(K2:PK) (s2:aM) (its':aD aJ),PK.le K1 K2→Fm c K2 m mu s2→s2.heap.Ns C (fun z=>if z=x then O v else tV z)→s2.heap.PlainList D its'.toArray→bL w K2 its' (((zs.take (zs.length - l)).filter iC).map f)→(∀b∈fp,∀o,h3.get? b=O o→s2.heap.get? b=O o)→
    dR c K2 mu I→dR c K2 mu D→dR c K2 mu C→KB c mu hs s2.heap→∃q,q < l+1∧CompI w c K m mu hs I D C St zs iC f q s2:=fun K2 s2 its' k2 F n2 l2 r2 hf oI oD oC kb=>
   ⟨l,kS l,K2,_,its',k1.trans k2,F,n2,l2,r2,by exact qB hle,W.frame _ _ _ yp hf,oI,oD,oC,kb⟩
  have mD:(zs.take (zs.length - l)).filter iC=(zs.take (zs.length - (l+1))).filter iC++(if iC p then [p] else []):=by refine aT OA ?_;exact take_succ_filter iC zs _ p rx
  have OF:∀{K2:PK} {s2:aM},PK.le K1 K2→Fm c K2 m mu s2→(∀o,h3.get? I=O o→s2.heap.get? I=O o)→∀b∈fp,∀o,h3.get? b=O o→s2.heap.get? b=O o:=fun k2 F hi b hb o z=>by
   rcases rk b hb with rfl |⟨o',nO⟩
   ·exact hi o z
   ·have e1:=F3.keep b o' (k1 _ _ nO);have e1:h3.get? b=O o':=e1;replace z:=e1▸z;cases z;exact F.keep b _ (k2 _ _ (k1 _ _ nO))
  have test:aN (aO pg w) A (forIn ifs aF fun cc r=>if r=aF then do let ok ←so cc (oK scope cl C c.env) (eval cc (oK scope cl C c.env));pure (Az ok) else pure (Az r))
    (Ox w c K1 m mu h3 C (fun z=>if z=x then O v else tV z) (iC p)) (fun J J=>bO) {s1 with heap:=h3,toks:=tk+1}:=by
   rcases X.ts p OB with⟨rfl,ht⟩ |⟨t,te,rfl,ho,ht⟩
   ·exact wpAny_tests_nil ⟨ht.symm,K1,.refl K1,F3,fun b o J J z=>z,EA,fun J o J=>o⟩
   ·refine wpAny_tests_one (((cY (YE K1 {s1 with heap:=h3,toks:=tk+1}) te t ho).2 (iC p) ht).then (Ov F3 oC EA) (LE K1 (.refl K1)) .none fun K4 s4 k4 F4 b4=> ?_);exact dX (Ow F3 oC k4 F4) fun G4 q1 q2 q3=>⟨rfl,K4,k4,G4,q1,q2,q3⟩
  refine wpAny_mono test (fun ok s4 h4=> ?_) fun J J q=>q.elim;obtain⟨rfl,K4,k4,F4,wm,EC,tX⟩:=h4;have ED:s4.heap.PlainList D its.toArray:=OC.at fun o z=>wm D o zv ach z;have iu:KB c mu hs s4.heap:=fun q o z n1 n2 n3=>wm q o (fun y=>by(replace z:=y▸z;replace z:=hC▸z);exact nn z) n3 (th q o z n1 n2 n3);cases ht:iC p with
  |false=>
   (replace mD:=ht▸mD;replace mD:=(aP cM)▸mD;replace mD:=(jT ..)▸mD);exact next K4 s4 its k4 F4 EC ED (by refine M mD ?_;exact rP.mono k4) (OF k4 F4 fun o z=>wm I o qw tf z) (tX I oI vi) (tX D oD OD) (tX C oC OE) iu
  |true=>
   (replace mD:=ht▸mD;replace mD:=(aS V)▸mD);have EE:=tX C oC OE;have OG:=tX D oD OD;have OH:=tX I oI vi;refine((cY (YE K4 s4) ee elt X.el).ev (X.ev p OB ht) ⟨Ov F4 EE EC,LE K4 k4,.none,fun J J J q=>(by cases q)⟩).then fun K5 y s5 k5 F5 b5 r5=>dX (Ow F4 EE k5 F5) fun G5 q1 q2 q3=> ?_
   have aci:=F4.off OH.nE;have acj:=F4.off OG.nE;have hD4:∃o,s4.heap.get? D=O o:=xe ED fun J z=>⟨_,z⟩;have hI4:∃o,s4.heap.get? I=O o:=xe vi fun o z=>⟨o,wm I o qw tf z⟩;have hC4:∃o,s4.heap.get? C=O o:=eQ EC fun o J J z J=>⟨o,z⟩;have hl5:s5.heap.PlainList D its.toArray:=ED.at fun o z=>q1 D o zv acj z;refine afk hl5 (fun h6 yZ hs6=> ?_) (by refine M kP (M cN ?_);exact aL acg (by decide));have zx:∀q o,q≠D→s5.heap.get? q=O o→h6.get? q=O o:=fun q o hq z=>hs6.extBut q o hq z;have OI:=q3 D OG hD4;have F6:Fm c K5 m mu {s5 with heap:=h6}:=one (tk:=s5.toks) G5 OI zx;have kb5:KB c mu hs s5.heap:=fun q o z n1 n2 n3=>q1 q o (fun y=>by(replace z:=y▸z;replace z:=hC▸z);exact nn z) n3 (iu q o z n1 n2 n3);refine next K5 {s5 with heap:=h6} (its++[y]) (k4.trans k5) F6 (q2.at' fun o z=>zx C o (Ne.symm zv) z) (by refine aT (List.push_toArray ..) ?_;exact yZ) (by refine M mD (M iE ?_);exact(rP.mono (k4.trans k5)).append (.cons r5 .nil)) (OF (k4.trans k5) F6 fun o z=>zx I o Ez (q1 I o qw aci (wm I o qw tf z))) (q3 I OH hI4) OI (q3 C EE hC4) (zw kb5 hD zx)
end
end
section
open Sem (wp)
section
variable{w:aV}{A:bX}{c:Cx}{K:PK}{m:Str→aG aJ}{mu:Mu}{s:aM}{sc:dO}{tb:Tb}{σ:Sg}{P:bT}{n:aA}
structure zy(w:aV)(A:bX)(c:Cx)(K:PK)(m:Str→aG aJ)(mu:Mu)(s:aM)(zs:aD PV)(I:aW)(fp:aD aW)(Pv:aA→aJ→Prop)(St:aA→bF→Prop):Prop where
 F:Fm c K m mu s
 W:GU pg w A I fp [I] zs.length Pv St
 hP:∀(K1:PK) (j:aA) (v:aJ) (p:PV),PK.le K K1→Pv j v→zs[j]? =O p→RV w K1 .none v p
 rk:∀b∈fp,b=I∨∃o,K b=O o
 td:∀j h,St j h→∃o,h.get? I=O o
 st:St 0 s.heap
 oI:dR c K mu I
theorem OJ(a6:Hyp w A c sc tb P n){scope:dO}{z:aD (Str×aW)}{x:Str}{U W:bG}{B iter:Expr}{G:aD Expr}{a7:Tb}{a8:aD (aG PV)}{l:aD PV}{X:PV→aU}{f:PV→PV}{a9:E}
  (a':pq w c K P scope z x B G a7 a8 l X f a9) (Y:scope.kind= .function) (aa:∀y∈scope.names,y.2≠ .cell) (ab:scope.names.lookup x=O .local) {I:aW} {ae:aD aW} {af:aA→aJ→Prop} {St:aA→bF→Prop} (d:zy w A c K m mu s l I ae af St)
  (ah:l.length≤1000000) {i:bF} (ai:i.get? I=aB) (a0:KB c mu i s.heap) {RR:aJ→aW→Result→aM→Prop}
  (aj:∀D C g h p H,PK.le K g→Fm c g m mu h→h.heap.Ns C H→h.heap.PlainList D p.toArray→bL w g p ((l.filter X).map f)→dR c g mu D→dR c g mu C→D≠C→i.get? C=aB→KB c mu i h.heap→RR (.ref D) C (.ok .next) h):
  aN (aO pg w) A (Se []) (fun a1 j=>aN (aO pg w) A (newFunctionEnv scope c.env.globals z [] c.env.qual aB .none (O c.env)) (fun a2 ak=>
   pJ (aO pg w) A (.compStart (.ListComp B [⟨.Name x U,iter,G,0⟩] scope W) 0 (.ref I) a1 {a2 with scope:=uP scope c.env}) (RR a1 a2.locals) ak) (fun J J=>bO) j) (fun J J=>bO) s:=by
 have F:=d.F;refine nw (Sm aa (by intro y al;simp at al) (fun q L r=> ?_) Y);dsimp only at L r ⊢;generalize N:s.heap.push {cls:= .type "list",dict:=aB,data:= .seq ([] :aD aJ).toArray}=k at L r ⊢;have Q:k.objs.size=s.heap.objs.size+1:=aT N (M (xv ..) V);have R:s.heap.objs.size≠k.objs.size:=by refine M Q ?_;exact fE (kS _)
 have a3:s.heap.objs.size≤s.heap.objs.size:=cA _;have t:s.heap.objs.size≤k.objs.size:=by refine M Q ?_;exact uL _
 have u:∀b o,s.heap.get? b=O o→q.get? b=O o:=fun b o e=>r.extBut b o (by refine M Q ?_;exact fE (sy (fA e))) (eV _ (N▸eV _ e));have am:q.PlainList s.heap.objs.size #[] :=⟨_,r.extBut _ _ R (eV _ (N▸fP _ V))⟩;obtain⟨b3,an⟩:=d.td _ _ d.st;have a4:I < s.heap.objs.size:=fA an;have ao:∀a,s.heap.objs.size≤a→s.heap.get? a=none:=fun a v=>xZ v
 have a5:∀j:aM,j={s with heap:=q,toks:=s.toks+([] :aD (Str×aJ)).length}→pJ (aO pg w) A (.compLoop (.ListComp B [⟨.Name x U,iter,G,0⟩] scope W) 0 (.ref I) (.ref s.heap.objs.size) (oK scope z k.objs.size c.env)) (RR (.ref s.heap.objs.size) k.objs.size) j:=by
  rintro j rfl;have ap:Fm c K m mu {s with heap:=q,toks:=s.toks+([] :aD (Str×aJ)).length}:=F.grow u
  have S:∀a,s.heap.objs.size≤a→i.get? a=none:=fun a v=>by
   have T:=dR.fresh F v;cases aq:i.get? a with
   |none=>rfl|some o=>have:=a0 a o aq T.nl T.nm (F.off T.nE);replace this:=(ao a v)▸this;exact nn this
  exact acf a6 a' Y ab d.W d.hP d.rk d.td (fE a4) (fE (bK a4 t)) R ah ai (S _ a3) (S _ t) ap d.oI (.fresh F a3) (.fresh F t) L am
   (d.W.frame _ _ _ d.st fun b J o e=>u b o e) (fun b o e ar as au=>u b o (a0 b o e ar as au)) fun g h p H av aw ax ay az b0 b1 b2=>aj _ _ g h p H av aw ax ay az b0 b1 R (S _ t) b2
 exact codeAny_compStart_list (a5 _ V) (d.W.self 0 _ _ _ (d.W.frame _ _ _ d.st fun b J o e=>u b o e) (a5 _ V))
theorem PlainList.known{h:bF}{D:aW}{a:aD aJ}(b:h.PlainList D a.toArray):∃o,h.get? D=O o∧o.cls= .type "list"∧∃n,o.data= .seq a.toArray n:=by(refine xe b ?_;clear b;rintro n e);exact⟨_,e,rfl,n,rfl⟩
theorem OK{e:aD aJ}{f:aD PV}{D:aW}(F:Fm c K m mu s)(a:dR c K mu D)(g:s.heap.PlainList D e.toArray)(h:bL w K e f):∃d,PK.le K d∧Fm c d m mu s∧RV w d mu.ad (.ref D) (.lst f)∧∀b,b≠D→dR c K mu b→dR c d mu b:=by refine uR (PlainList.known g) fun o i j r l=> ?_;obtain⟨k,p⟩:=F.known a.un a.nl a.nm a.nE i;exact⟨K.put D o,k,p,.lst PK.jr j l (by simpa using h.mono k),fun b q x=>⟨by unfold PK.put;refine M (aP q) ?_;exact x.un,x.nl,x.nm,x.nE⟩⟩
theorem EF(Y:Hyp w A c sc tb P n){iter:Expr}
  (N:oE a c.env=pure r) (t:a.kind= .function) (Q:∀y∈a.names,y.2≠ .cell) (R:a.names.lookup x=O .local) (S:∀y∈a.names,y.2= .local→a.names.lookup y.1=O .local)
  (T:∀x,HD iter c.env x=pure x) (U:g.length≤1000000) (X:pq w c K P a r x u v W a0 g z f a1)
  (a2:aN (aO pg w) A (eval iter c.env) (fun B D=>aN (aO pg w) A (Bj B) (fun E j=>∃h I F G St,E= .ref I∧PK.le K h∧zy w A c h m mu j g I F G St∧s.heap.get? I=aB∧KB c mu s.heap j.heap) (fun J J=>bO) D) (fun J J=>bO) s):
  dF w A c K m mu (eval (.ListComp u [⟨.Name x px,iter,v,0⟩] a pos) c.env) (.lst ((g.filter z).map f)) s:=by
 refine ag2 (use:=aB) V T N t S (wpAny_mono a2 (fun B D a3=>wpAny_mono a3 (fun E j H=> ?_) fun J J e=>e) fun J J e=>e);(refine BK H ?_;clear H;rintro h I F G St rfl k a4 a5 a6)
 have a7:pq w c h P a r x u v W a0 g z f a1:=⟨X.sc,X.x0,fun i y a8 a9 a' aa=>(by exact BH (X.Ey i y a8 a9 a' aa) fun ab ae o af ah ai aj ak=>⟨ab,ae,o,af,ah,k _ _ ai,aj,ak.mono k⟩),X.ts,X.el,X.ev⟩
 refine OJ (RR:=fun al C=>compPost (aO pg w) A (fun J J=>bO) aB _ al C) Y a7 t Q R a4 U a5 a6 ?_;intro am C an l b8 ao ap L aq ar as au av aw ax ay;refine⟨ao,aq,fun p az=> ?_⟩;have q:∀b o,b∉[C]→l.heap.get? b=O o→p.get? b=O o:=fun b o d e=>az.extBut b o (by simpa using d) e;have b0:Fm c an m mu {l with heap:=p}:=L.others (S:=[C]) (s':={l with heap:=p}) (fun b d=>by refine M (fK.mp d) ?_;exact av) q L.gens V;refine mV (OK b0 au (ar.at fun o e=>q am o (by simpa using aw) e) as) fun b1 b2 b3 b4 J=>⟨b1,(k.trans ap).trans b2,b3,fun b o e b5 b6 b7=>q b o (fun d=> ?_) (ay b o e b5 b6 b7),b4⟩;have d:=fK.mp d;subst d;replace e:=ax▸e;cases e
end
end
section
open Sem (wp)
section
variable{K:PK}
theorem OL(F:Fm c K m mu s)(kb:KB c mu hs s.heap)(h:s.heap.objs.size≤b):hs.get? b=none:=by
 have oa:=dR.fresh F h;cases q:hs.get? b with
 |none=>rfl|some o=>have:=kb b o q oa.nl oa.nm (F.off oa.nE);replace this:=(xZ h)▸this;exact gN.nn this
noncomputable abbrev Src(w:aV)(A:bX)(c:Cx)(K:PK)(m:Str→aG aJ)(a:Mu)(s:aM)(iter:Expr)(e:aD PV):Prop:=
 aN (aO pg w) A (eval iter c.env) (fun f g=>aN (aO pg w) A (Bj f) (fun h b=>∃d I i j St,h= .ref I∧PK.le K d∧zy w A c d m a b e I i j St∧s.heap.get? I=aB∧KB c a s.heap b.heap) (fun J J=>bO) g) (fun J J=>bO) s
theorem EG(Y:Hyp w A c sc tb P n){iter:Expr}(ho:bC sc tb ei iter=aF)(pk:ev P σ ei=O (.lst zs))(G:Gd w c tb K m mu s σ):Src w A c K m mu s iter zs:=by
 refine((cY Y ei _ ho).ev pk G).then fun K1 v s1 k1 F1 b1 r1=> ?_
 (refine ip r1.lst_inv ?_;rintro a ob its nn rfl g1 g2 g3 g4);have hl:s1.heap.IsList a its:=⟨ob,F1.keep _ _ g1,g2,nn,g3⟩;refine RI hl ?_;have vk:a≠s1.heap.objs.size:=fun z=>by have:=F1.keep _ _ g1;(replace this:=z▸this;replace this:=fR▸this);exact gN.nn this
 have F3:=F1.push (o:={cls:= .type "list_iterator",data:= .fields #[.ref a,.int 0 0]}) (tk:=s1.toks);have hsz:zs.length=its.size:=by refine aT g4.length ?_;exact rfl
 refine⟨K1,s1.heap.objs.size,_,_,_,rfl,k1,⟨F3,hsz▸afp Y.hh s1.heap.objs.size a vk its,fun K' j v q hk hv hj=> ?_,fun z hz=> ?_,fun j h st=> ?_,⟨?_,hl.push _⟩,.fresh F1 (cA _)⟩,OL F1 b1 (cA _),b1.trans (.of_keeps kz)⟩
 ·refine aQ (g4.get hj) fun v' e2 r2=> ?_;replace e2:=pB▸e2;replace e2:=hv▸e2;cases e2;exact r2.mono hk
 ·simp at hz;rcases hz with rfl |rfl
  ·exact .inl V
  ·exact .inr ⟨ob,g1⟩
 ·refine aQ st.1 fun o e2 J=> ?_;exact⟨o,e2⟩
 ·exact⟨_,fP _ V,rfl,rfl⟩
theorem ack(Y:Hyp w A c C k P n){iter:Expr}(D:bC C k l iter=aF)(E:ev P F l=O (.str x))(G:Gd w c k K m f s F):Src w A c K m f s iter (x.cps.toList.map fun q=> .str (one q)):=by
 refine((cY Y l _ D).ev E G).then fun H v a L g p N=> ?_
 (refine xe N.str_inv ?_;rintro t rfl)
 have r:∀(T:eA) (St:aA→bF→Prop),(∀j h,St j h→∃o,h.get? a.heap.objs.size=O o)→(∀d:bX,d.handled=aB→GU pg w d a.heap.objs.size [a.heap.objs.size] [a.heap.objs.size] x.cps.size (SignAt x) St)→∀o,St 0 (a.heap.push o)→
   ∃u I Q R St,Q0 a.heap.objs.size= .ref I∧PK.le K u∧zy w A c u m f {a with heap:=a.heap.push o} (x.cps.toList.map fun q=> .str (one q)) I Q R St∧s.heap.get? I=aB∧KB c f s.heap (a.heap.push o):=fun T St S U o W=>
  ⟨H,a.heap.objs.size,_,SignAt x,St,rfl,L,⟨g.push,by refine M (bQ ..) (M iO ?_);exact U A Y.hh,fun a1 j v q a2 y b=>by(refine iQ y ?_;clear y;rintro a3 a4 X rfl);(replace b:=im▸b;replace b:=pB▸b;replace b:=X▸b);cases b;exact .str,fun z a0=> .inl (fK.mp a0),S,W,.fresh g (cA _)⟩,OL g p (cA _),p.trans (.of_keeps kz)⟩
 cases B:x.cps.all (· < 128)
 ·exact wpAny_pyIter_wide B (r "" _ (fun j h st=>aQ st fun o e J=>⟨o,e⟩) (fun d i=>Walks.strWide i _ x t) _ ⟨_,fP _ V,rfl,rfl⟩)
 ·exact wpAny_pyIter_ascii B (r "" _ (fun j h st=>aQ st fun o e J=>⟨o,e⟩) (fun d i=>Walks.strAscii i _ x t) _ ⟨_,fP _ V,rfl,rfl⟩)
theorem acl(Y:Hyp w A c be k P n){iter:Expr}(T:okN k i y=aF)
  (U:uA (.ListComp l [⟨.Name x px,iter,m,0⟩] a pos) (O (.Name y py)) spos.line c.env=pure aF)
  (W:oE a c.env=pure z) (B:a.kind= .function) (a0:∀y∈a.names,y.2≠ .cell) (a1:a.names.lookup x=O .local) (a2:∀y∈a.names,y.2= .local→a.names.lookup y.1=O .local)
  (a3:∀x,HD iter c.env x=pure x) (a4:g.length≤1000000) (X:pq w c K P a z x l m a5 a6 g r f a7) (a8:Gd w c k K a9 p s D) (a':Src w A c K a9 p s iter g):
  aN (aO pg w) A (jl (.Assign [.Name y py] (.ListComp l [⟨.Name x px,iter,m,0⟩] a pos) spos) c.env) (fun aa h=>Out w c k K p s.heap aa h .next (D.put i (.lst ((g.filter r).map f)))) (fun J J=>bO) s:=by
 refine M (exec_Assign_Name_used _ _ _ _ U) <|wpAny_bind (jj (wpAny_bind ?_))
 show aN _ A (do let _ ←comprehension (.ListComp l [⟨.Name x px,iter,m,0⟩] a pos) a c.env _ (Se []) aI (eval iter c.env) (O (AT (.Name y py) c.env))) _ _ s
 refine wpAny_bind (wpAny_mono (ag2 (use:=O (AT (.Name y py) c.env)) (Q:=fun J h=>Out w c k K p s.heap .next h .next (D.put i (.lst ((g.filter r).map f)))) (E:=fun J J=>bO) V a3 W B a2
  (wpAny_mono a' (fun bf bg ab=>wpAny_mono ab (fun bh bi E=> ?_) fun J J e=>e) fun J J e=>e)) (fun J h ae=>wpAny_pure (wpAny_pure ae)) fun J J e=>e)
 (refine BK E ?_;clear E;rintro af bj bk bl St rfl t ah ai aj)
 have ak:pq w c af P a z x l m a5 a6 g r f a7:=⟨X.sc,X.x0,fun i y al am an ao=>(by exact BH (X.Ey i y al am an ao) fun ap aq o ar as au av aw=>⟨ap,aq,o,ar,as,t _ _ au,av,aw.mono t⟩),X.ts,X.el,X.ev⟩
 refine OJ (RR:=fun ax C=>compPost (aO pg w) A (fun J J=>bO) (O (AT (.Name y py) c.env)) _ ax C) Y ak B a0 a1 ah a4 ai aj ?_;intro bm C bn h bo ay az b0 F b1 b2 b3 b4 b5 b6 b7;refine mV (OK b0 b3 b1 b2) fun G b8 H b9 b'=> ?_;have q:=b' C (Ne.symm b5) b4;have I:PK.le K G:=(t.trans az).trans b8;refine ag1 (kC (a8.of I H) Y.H T b9 fun u j L=> ?_);refine eQ (id F) fun bp J J bq J=> ?_;have ba:=H.off q.nE;refine⟨ay,F.at' fun o e=>L C o e q.nl q.nm ba,fun v bc=> ?_⟩;have N:∀b o,b∉[C]→u.heap.get? b=O o→v.get? b=O o:=fun b o d e=>bc.extBut b o (by simpa using d) e;have bd:Fm c G _ p {u with heap:=v}:=j.F.others (S:=[C]) (s':={u with heap:=v}) (fun b d=>by refine M (fK.mp d) ?_;exact q) N j.F.gens V;refine jw I (fun b o e Q R S=>N b o (fun d=> ?_) (L b o (b7 b o e Q R S) Q R S)) .refl ⟨bd,j.L,j.Mi,j.fl⟩;have d:=fK.mp d;subst d;replace e:=b6▸e;cases e
end
end
section
noncomputable def pu:aD Str:=["-0000","GMT","+0530","-0800"]
noncomputable def EH:aD Str:=[""," \""," \\\""," \"(\\\"x\""," \\\\\"q\""]
noncomputable def zA:aD Str:=[""," \""," \\\""," "," \\\\"]
noncomputable def dA:Tb:=[(aH "script",aF),(aH "cells",aF),(aH "days",aF),(aH "months",aF),(aH "weekday",aF),(aH "year",aF),(aH "month",aF),(aH "day",aF),(aH "second",aF),(aH "zone",aF),(aH "line",aF),(aH "middle",aF),(aH "end",aF),(aH "head",aF),(aH "draw",aF),(aH "body",aF),(aH "tail",aF),(aH "left",aF),(aH "text",aF),(aH "first",aF),(aH "other",aF),(aH "words",aI),(aH "prices",aF),(aH "others",aF),(aH "found",aF),(aH "i",aF),(aH "j",aF)]
noncomputable def z0:S:=(.asg 1 (.call (aH "_law_cells") (.cons (.nm 0) .nil)))
noncomputable def z1:S:=(.asg 2 (.lst (nf cF)))
noncomputable def z2:S:=(.asg 3 (.lst (nf cH)))
noncomputable def z3:S:=(.asg 4 (.bin .Mod (.bin .Add (.bin .Mod (.sub (.nm 1) (.int 0)) (.int 146097)) (.int 2)) (.int 7)))
noncomputable def z4:S:=(.jp [5,6,7] (.call (aH "_law_date") (.cons (.bin .Mod (.sub (.nm 1) (.int 0)) (.int 146097)) .nil)))
noncomputable def z5:S:=(.aug 5 .Add (.bin .Mult (.int 400) (.bin .Mod (.bin .FloorDiv (.sub (.nm 1) (.int 0)) (.int 146097)) (.int 30))))
noncomputable def z6:S:=(.asg 8 (.bin .Mod (.sub (.nm 1) (.int 1)) (.int 86400)))
noncomputable def z7:S:=(.asg 9 (.sub (.lst (nf pu)) (.bin .Mod (.bin .FloorDiv (.sub (.nm 1) (.int 1)) (.int 86400)) (.int 4))))
noncomputable def z8:S:=(.asg 10 (.call (aH "_format_timetuple_and_zone") (.cons (.tup (.cons (.nm 5) (.cons (.bin .Add (.nm 6) (.int 1)) (.cons (.nm 7) (.cons (.bin .FloorDiv (.nm 8) (.int 3600)) (.cons (.bin .Mod (.bin .FloorDiv (.nm 8) (.int 60)) (.int 60)) (.cons (.bin .Mod (.nm 8) (.int 60)) (.cons (.nm 4) .nil)))))))) (.cons (.nm 9) .nil))))
noncomputable def z9:S:=(.asg 11 (.bin .Add (.bin .Add (.str (aH ", ")) (.call (aH "_law_two") (.cons (.nm 7) .nil))) (.str (aH " "))))
noncomputable def EI:S:=(.asg 12 (.bin .Add (.bin .Add (.bin .Add (.bin .Add (.str (aH " ")) (.bin .Mult (.str (aH "0")) (.bin .Sub (.int 4) (.bi "len" (.cons (.bi "str" (.cons (.nm 5) .nil)) .nil))))) (.bi "str" (.cons (.nm 5) .nil))) (.str (aH " "))) (.call (aH "_law_two") (.cons (.bin .FloorDiv (.nm 8) (.int 3600)) .nil))))
noncomputable def EJ:S:=(.aug 12 .Add (.bin .Add (.bin .Add (.bin .Add (.bin .Add (.bin .Add (.str (aH ":")) (.call (aH "_law_two") (.cons (.bin .Mod (.bin .FloorDiv (.nm 8) (.int 60)) (.int 60)) .nil))) (.str (aH ":"))) (.call (aH "_law_two") (.cons (.bin .Mod (.nm 8) (.int 60)) .nil))) (.str (aH " "))) (.nm 9)))
noncomputable def EK:S:=(.ite (.cmp .NotEq (.nm 10) (.bin .Add (.bin .Add (.bin .Add (.sub (.nm 2) (.nm 4)) (.nm 11)) (.sub (.nm 3) (.nm 6))) (.nm 12))) (.cons (.ret (.bool aI))
  .nil) .nil)
noncomputable def EL:S:=(.jp [13,14] (.call (aH "_law_typed") (.cons (.call (aH "_law_harmed") (.cons (.dE (.nm 10) .none (.int 3)) (.cons (.sub (.nm 1) (.int 2)) (.cons (.int 0) (.cons (.bool aF) .nil))))) (.cons (.sub (.nm 1) (.int 3)) .nil))))
noncomputable def EM:S:=(.jp [15,14] (.call (aH "_law_typed") (.cons (.call (aH "_law_harmed") (.cons (.dE (.nm 10) (.int 8) (.int 11)) (.cons (.sub (.nm 1) (.int 2)) (.cons (.int 1) (.cons (.bool aF) .nil))))) (.cons (.nm 14) .nil))))
noncomputable def EN:S:=(.asg 16 (.sub (.lst (nf EH)) (.bin .Mod (.sub (.nm 1) (.int 5)) (.int 5))))
noncomputable def EO:S:=(.asg 17 (.call (aH "_strip_quoted_realnames") (.cons (.bin .Add (.bin .Add (.bin .Add (.bin .Add (.nm 13) (.dE (.nm 10) (.int 3) (.int 8))) (.nm 15)) (.dE (.nm 10) (.int 11) .none)) (.nm 16)) .nil)))
noncomputable def OM:S:=(.asg 19 (.dH "join" (.str (aH "")) (.cons (.call (aH "_law_harmed") (.cons (.dH "lower" (.sub (.nm 2) (.nm 4)) .nil) (.cons (.sub (.nm 1) (.int 2)) (.cons (.int 0) (.cons (.bool aI) .nil))))) .nil)))
noncomputable def ON:S:=(.asg 20 (.dH "join" (.str (aH "")) (.cons (.call (aH "_law_harmed") (.cons (.dH "lower" (.sub (.nm 3) (.nm 6)) .nil) (.cons (.sub (.nm 1) (.int 2)) (.cons (.int 1) (.cons (.bool aI) .nil))))) .nil)))
noncomputable def zB:S:=(.ite (.cmp .NotEq (.nm 18) (.bin .Add (.bin .Add (.bin .Add (.bin .Add (.nm 19) (.nm 11)) (.nm 20)) (.dH "lower" (.nm 12) .nil)) (.sub (.lst (nf zA)) (.bin .Mod (.sub (.nm 1) (.int 5)) (.int 5))))) (.cons (.ret (.bool aI))
  .nil) .nil)
noncomputable def wn:S:=(.ite (.cmp .NotEq (.call (aH "int_from_string") (.cons (.bin .Add (.bin .Add (.bin .Add (.bin .Add (.bin .Add (.sub (.nm 21) (.int 3)) (.str (aH "_"))) (.bin .Mult (.str (aH "0")) (.int 2044))) (.str (aH "_"))) (.sub (.nm 21) (.int 1))) (.str (aH " "))) .nil)) (.bin .Add (.bin .Mult (.nm 5) (.bin .Pow (.int 10) (.int 2046))) (.nm 7))) (.cons (.ret (.bool aI))
  .nil) .nil)
noncomputable def wo:S:=(.mv 24 (.lst .nil))
noncomputable def wq:S:=(.forR 25 (.int 7) (.cons (.forR 26 (.int 12) (.cons (.ite (.bo .And (.cons (.cmp .LtE (.bin .Add (.sub (.nm 22) (.nm 25)) (.sub (.nm 23) (.nm 26))) (.int 4)) (.cons (.cmp .Eq (.call (aH "_law_weekday") (.cons (.nm 5) (.cons (.nm 26) (.cons (.nm 7) (.cons (.nm 1) .nil))))) (.nm 25)) .nil))) (.cons (.app 24 (.tup (.cons (.nm 25) (.cons (.nm 26) .nil))))
  .nil) .nil)
  .nil))
  .nil))
theorem okZ:je (aK 35).scope dA=true:=by decide+kernel
end
section
noncomputable def Z1:aD S:=[z0,z1,z2,z3,z4,z5,z6,z7,z8,z9,EI,EJ,EK,EL,EM,EN,EO]
noncomputable def Z2:aD S:=[OM,ON,zB]
noncomputable def tY(a:dO)(b:Tb):aD S→aD bR→aU
 |[],[] =>aF|z::c,p::d=>j' a b z p && tY a b c d| _,_=>aI
noncomputable def zD:Tb:=[(aH "sign",aF)]
noncomputable def rQ:Tb:=[(aH "name",aF),(aH "words",aI)]
noncomputable def EP:Tb:=[(aH "price",aF)]
noncomputable def oh(a:dO):dO:={a with names:=a.names.map fun(n,k)=>if(k== .free && (aK 35).scope.kind== .function && (aK 35).scope.names.lookup n==O .cell) then(n,.cell) else(n,k)}
noncomputable def rR(a:Tb)(x:Str)(scope:dO):Bool:=(scope.kind== .function) && scope.names.all (fun y=>y.2 != .cell) && (scope.names.lookup x==O .local) && scope.names.all (fun y=>y.2 != .local ||scope.names.lookup y.1==O .local) && je (oh scope) a
noncomputable def zE:E:= .dE (.sub (.nm 1) (.int 0)) .none (.un .USub (.int 1))
noncomputable def OO:E:= .call (aH "_levenshtein_distance") (.cons zE (.cons (.nm 0) (.cons (.int 3) .nil)))
noncomputable def OP:E:= .call (aH "_levenshtein_distance") (.cons (.nm 0) (.cons (.sub (.nm 1) (.int 2)) (.cons (.int 3) .nil)))
noncomputable def OQ:E:= .call (aH "_law_near") (.cons zE (.cons (.nm 0) .nil))
noncomputable def OR:E:= .call (aH "_law_near") (.cons (.sub (.nm 1) (.int 2)) (.cons (.nm 0) .nil))
noncomputable def OS:E:= .bi "min" (.cons (.nm 0) (.cons (.int 4) .nil))
inductive EQ(s:bR):Prop
 |mk (q1 k q2 apos elt px it iC sc pos tZ p:_) (h1:s= .Assign [.Name "text" q1] (.Call (.Attribute (.Constant (.str (aH "")) k q2) (aH "join") apos) [.ListComp elt [⟨.Name "sign" px,it,[iC],0⟩] sc pos] [] tZ) p) (h2:rR zD "sign" sc=aF) (h3:sc.names.all (fun y=>y.2 != .free)=aF) (h4:bC (aK 35).scope dA (.nm 17) it=aF) (h5:bC (oh sc) zD (.call (aH "map_table_b3") (.cons (.nm 0) .nil)) elt=aF) (h6:bC (oh sc) zD (.cmp .IsNot (.call (aH "in_table_b1") (.cons (.nm 0) .nil)) (.bool aF)) iC=aF) (h7:(apos.endLine==tZ.line)=aF):EQ s
inductive ER(s:bR):Prop
 |mk (q v p:_) (h1:s= .Assign [.Name "words" q] v p) (h2:bC (aK 35).scope dA (.dH "split" (.nm 18) (.cons (.str (aH " ")) .nil)) v=aF):ER s
noncomputable def ES(a:dO):Bool:=a.names.map (fun y=>(y.1,y.2== .free)) |>.filter (·.2) |>.map (·.1) |> (· ==[("words":Str)])
inductive zF(y:Str)(i:aA)(e:E)(s:bR):Prop
 |mk (py elt px it sc pos p:_) (h1:s= .Assign [.Name y py] (.ListComp elt [⟨.Name "name" px,it,[],0⟩] sc pos) p) (h2:rR rQ "name" sc=aF) (h3:ES sc=aF) (h4:bC (aK 35).scope dA (.nm i) it=aF) (h5:bC (oh sc) rQ e elt=aF) (h6:(py.line==pos.line)=aF) (h7:(sc.names.any fun(n,k)=>n==y && (k== .local ||k== .cell))=aI):zF y i e s
inductive zG(i j:aA)(e:E)(s:bR):Prop
 |mk (elt px it sc pos ET EU EV wr EW pc b p:_) (h1:s= .If (.Compare (.ListComp elt [⟨.Name "price" px,it,[],0⟩] sc pos) [.NotEq] [.ListComp ET [⟨.Name "name" EU,EV,[],0⟩] wr EW] pc) b [] p) (h2:rR EP "price" sc=aF) (h3:sc.names.all (fun y=>y.2 != .free)=aF) (h4:bC (aK 35).scope dA (.nm i) it=aF) (h5:bC (oh sc) EP OS elt=aF) (h6:rR rQ "name" wr=aF) (h7:ES wr=aF) (h8:bC (aK 35).scope dA (.nm j) EV=aF) (h9:bC (oh wr) rQ e ET=aF):zG i j e s
inductive EX(s:bR):Prop
 |mk (pf a b pt k pl pc pr:_) (h1:s= .Return (O (.Compare (.Name "found" pf) [.Eq] [.List [.Tuple [a,b] k pt] pl] pc)) pr) (h2:bC (aK 35).scope dA (.nm 4) a=aF) (h3:bC (aK 35).scope dA (.nm 6) b=aF):EX s
inductive OT:Prop
 |mk (l1 l2 l3 EY EZ E0 E1 E2 E3 zH:_) (h1:(aK 35).body=l1++EY::(l2++EZ::E0::E1::E2::E3::(l3++[zH]))) (h2:tY (aK 35).scope dA Z1 l1=aF) (h3:tY (aK 35).scope dA Z2 l2=aF) (h4:tY (aK 35).scope dA [wn,wo,wq] l3=aF) (h5:EQ EY) (h6:ER EZ) (h7:zF "prices" 2 OO E0) (h8:zF "others" 3 OP E1) (h9:zG 22 2 OQ E2) (B9:zG 23 3 OR E3) (B':EX zH):OT
theorem acm:OT:=by
 refine⟨(aK 35).body.take 17,((aK 35).body.drop 18).take 3,((aK 35).body.drop 26).take 3,_,_,_,_,_,_,_,rfl,by decide+kernel,by decide+kernel,by decide+kernel,?_,?_,?_,?_,?_,?_,?_⟩
 ·exact⟨_,_,_,_,_,_,_,_,_,_,_,_,rfl,by decide+kernel,by decide+kernel,by decide+kernel,by decide+kernel,by decide+kernel,by decide+kernel⟩
 ·exact⟨_,_,_,rfl,by decide+kernel⟩
 ·exact⟨_,_,_,_,_,_,_,rfl,by decide+kernel,by decide+kernel,by decide+kernel,by decide+kernel,by decide+kernel,by decide+kernel⟩
 ·exact⟨_,_,_,_,_,_,_,rfl,by decide+kernel,by decide+kernel,by decide+kernel,by decide+kernel,by decide+kernel,by decide+kernel⟩
 ·exact⟨_,_,_,_,_,_,_,_,_,_,_,_,_,rfl,by decide+kernel,by decide+kernel,by decide+kernel,by decide+kernel,by decide+kernel,by decide+kernel,by decide+kernel,by decide+kernel⟩
 ·exact⟨_,_,_,_,_,_,_,_,_,_,_,_,_,rfl,by decide+kernel,by decide+kernel,by decide+kernel,by decide+kernel,by decide+kernel,by decide+kernel,by decide+kernel,by decide+kernel⟩
 ·exact⟨_,_,_,_,_,_,_,_,rfl,by decide+kernel,by decide+kernel⟩
end
section
open Classical
noncomputable def E4(f:Str)(a:aD PV)(y:PV):bT:={gk:=ia,call:=fun g b=>if g=f∧b=a then O y else aB}
noncomputable def E5(f:Str)(b:aD PV)(y:PV)(c:Str)(d:aD PV)(e:PV):bT:={gk:=ia,call:=fun g a=>if g=f∧a=b then O y else if g=c∧a=d then O e else aB}
noncomputable def jz(f:Str)(g:aD PV→aG PV):bT:={gk:=ia,call:=fun h a=>if h=f then g a else aB}
structure om(w:aV)(mg mb:Str→aG aJ)(h₀:bF)(T:aD Tab)(P:bT):Prop where
 gk:P.gk=ia
 call:∀f xs y,P.call f xs=O y→Ct w mg mb h₀ T 20 f xs y
section
theorem mF:om w a mb h₀ T bJ:=⟨rfl,fun J J J h=>by cases h⟩
theorem lx(h:Ct w d mb h₀ T n f b y)(e:n≤20):om w d mb h₀ T (E4 f b y):=by
 refine⟨rfl,fun g i z a=> ?_⟩;replace a:(if g=f∧i=b then O y else aB)=O z:=a
 split at a
 ·rename_i c
  (refine xa c ?_;clear c;rintro rfl rfl);cases a;exact h.up e
 ·cases a
theorem OU(h:Ct w c mb h₀ T n f d y)(l:n≤20)(m:Ct w c mb h₀ T o e i j)(p:o≤20):om w c mb h₀ T (E5 f d y e i j):=by
 refine⟨rfl,fun g k z a=> ?_⟩;replace a:(if g=f∧k=d then O y else if g=e∧k=i then O j else aB)=O z:=a
 split at a
 ·rename_i b
  (refine xa b ?_;clear b;rintro rfl rfl);cases a;exact h.up l
 ·split at a
  ·rename_i b
   (refine xa b ?_;clear b;rintro rfl rfl);cases a;exact m.up p
  ·cases a
theorem t9(h:∀b y,g b=O y→Ct w c mb h₀ T n f b y)(d:n≤20):om w c mb h₀ T (jz f g):=by
 refine⟨rfl,fun k e z a=> ?_⟩;replace a:(if k=f then g e else aB)=O z:=a
 split at a
 ·rename_i i
  subst i;exact(h _ _ a).up d
 ·cases a
theorem rS:(E4 f a y).call f a=O y:=aS ⟨rfl,rfl⟩
theorem OV:(E5 f a y b c d).call f a=O y:=aS ⟨rfl,rfl⟩
theorem OW(h:a≠f):(E5 f e y a b c).call a b=O c:=(aP fun d=>h d.1).trans (aS ⟨rfl,rfl⟩)
theorem ua(h:g a=O y):(jz f g).call f a=O y:=(aS V).trans h
inductive lz(w:aV)(mg mb:Str→aG aJ)(h₀:bF)(T:aD Tab):aD S→Sg→Sg→Prop
 |nil {σ}:lz w mg mb h₀ T [] σ σ
 |cons {z zs σ eJ σ'} (P:bT) (hP:om w mg mb h₀ T P) (hex:ex P z σ=O (.next,eJ)) (hmu:eJ.mu=aB) (r:lz w mg mb h₀ T zs eJ σ'):lz w mg mb h₀ T (z::zs) σ σ'
theorem lz.append(e:lz w c mb h₀ T a f eJ)(d:lz w c mb h₀ T b eJ g):lz w c mb h₀ T (a++b) f g:=by
 induction e with
 |nil=>exact d|cons P h hex i _ ih=>exact .cons P h hex i (ih d)
end
structure ko(w:aV)(A:bX)(c:Cx):Prop where
 W:Wd w c.mg c.mb c.h₀
 hh:A.handled=aB
 hd:A.depth+20 < 900
 hu:A.units+10*20 < 9000
 H:fF c (aK 35).scope dA
theorem ko.y(Y:ko w A c)(h:om w c.mg c.mb c.h₀ c.T P):Hyp w A c (aK 35).scope dA P 20:=
 ⟨Y.hh,Y.hd,Y.hu,Y.H,Y.W.nc (T:=c.T) (fun x i q=>fV x i (by refine aT h.gk ?_;exact q)) h.call c V rfl rfl rfl⟩
theorem zI(Y:ko w A c):∀{u:aD S} {a:aD bR} {v x:Sg} {K:PK} {m:Str→aG aJ} {s:aM},lz w c.mg c.mb c.h₀ c.T u v x→tY (aK 35).scope dA u a=aF→Gd w c dA K m aB s v→
  (∀f j g,PK.le K f→Gd w c dA f j aB g x→KB c aB s.heap g.heap→(∀b,s.heap.get? b≠aB→b≠c.env.locals→K b=aB→f b=aB)→aN (aO pg w) A (eH rest c.env) Q (fun J J=>bO) g)→
  aN (aO pg w) A (eH (a++rest) c.env) Q (fun J J=>bO) s
 | _,a,_,_,K,m,s,.nil,i,G,k=>by
  cases a with
  |nil=>exact k K m s (.refl K) G .refl fun J J J h=>h|cons _ _=>cases i
 | _,a,_,_,K,m,s,.cons (z:=z) (eJ:=eJ) a3 E hex F r,i,G,k=>by
  cases a with
  |nil=>cases i
  |cons H a=>
   obtain⟨I,L⟩:=mM.mp i;refine wpAny_execs_cons (wpAny_mono (yq z H (c.here K aB s.heap) _ _ _ ((Y.y E).here K aB s.heap) I hex K m aB s G.here) (fun a4 N o=> ?_) fun J J q=>q.elim);obtain⟨a5,a6,y,P,l,a7,rfl,d⟩:=o
   have R:y=none:=by
    cases y with
    |none=>rfl|some a8=>exact absurd d.Mi (by refine M F ?_;intro z;cases z)
   subst R;have B:=G.F.back d.F l
   exact zI Y r L ⟨B,d.L,d.Mi,d.fl⟩ fun f j g T U W X=>k f j g (P.trans T) U (KB.trans l W) fun b C n a0=>by
    have a1:N.heap.get? b≠none:=by
     cases e:s.heap.get? b with
     |none=>exact absurd e C
     |some o=>
      by_cases D:Off c.T b
      ·refine M (l b o e n (by intro z;cases z) D) ?_;intro z;cases z
      ·have:∃t∈c.T,t.P=b:=AF fun h=>D fun t p e=>h ⟨t,p,e⟩;(refine aQ this ?_;clear this;rintro t p rfl);obtain⟨a9,a2⟩:=(B.tabs t p).some;refine M a2 ?_;intro z;cases z
    exact X b a1 n (tF d.F C n a0)
end
section
noncomputable def aX(l:aD PV):Sg:={loc:=l.map O++dU (27 - l.length) aB}
noncomputable def ig(d:aA):aD Nat:=[44,32] ++cC 2 d++[32]
noncomputable def l7(y h m s:aA)(z:aD aA):aD Nat:=[32] ++cC 4 y++[32] ++cC 2 h++[58] ++cC 2 m++[58] ++cC 2 s++[32] ++z
noncomputable def jO(i:aA):aD Nat:=(cF.getD i ⟨#[]⟩).cps.toList
noncomputable def jP(i:aA):aD Nat:=(cH.getD i ⟨#[]⟩).cps.toList
noncomputable def gX(i:aA):aD Nat:=(pu.getD i ⟨#[]⟩).cps.toList
theorem OX(h:a.length+b.length≤1000000):dC .Add (.str (mk a)) (.str (mk b))=O (.str (mk (a++b))):=
 (vX (x:=mk a) (y:=mk b) (by refine M (cZ ..) (M (cZ ..) ?_);exact aL h (by decide))).trans (aR (fun z=>O (PV.str z)) (fT (lO (xs:=a.toArray))))
theorem acn:∀n < 100,two ((n:aA):Z)=mk (cC 2 (n:aA)):=by decide+kernel
theorem aco{n:aA}(h:n < 10^9):pW ((n:aA):Z)=mk (iB (n:aA)):=fT (El (cW _))
theorem pv(k n:aA)(a:n < 10^9)(b:k≤4):(cC k (n:aA)).length≤14:=by
 have:=En (k:=k) (n:=n) (cW _) (dD (dN.mpr a) (by decide)) b;unfold l6 at this
 rwa [cZ] at this
section
theorem on(d:ev P c a=O (.str (mk x)))(e:ev P c b=O (.str (mk y)))(h:x.length+y.length≤1000000):ev P c (.bin .Add a b)=O (.str (mk (x++y))):=bM d e (OX h)
theorem zJ(h:aH s=mk l):ev P a (.str (aH s))=O (.str (mk l)):=by refine M h ?_;rfl
theorem E6{k:aA}(d:ev P b a=O (.int (k:Z)))(c:l.length≤1000)(e:k < l.length):ev P b (.sub (.lst (nf l)) a)=O (.str (l.getD k ⟨#[]⟩)):=
 hZ (wl P b l c) d (og c (by refine M io (M (fD e) ?_);rfl))
end
noncomputable def lA(a:aD PV):aG PV:=i1 a fun n=>aZ (0≤n∧n < 100) (O (.str (two n)))
theorem acp(n:aA)(h:n < 100):lA [.int (n:Z)] =O (.str (mk (cC 2 (n:aA)))):=by refine aT (acn n h) ?_;exact bB ⟨cW n,dN.mpr h⟩
theorem acq(W:Wd w mg mb h₀):∀a y,lA a=O y→Ct w mg mb h₀ T 1 "_law_two" a y:=by intro a y h;refine aQ (Ld h) fun n e q=> ?_;obtain⟨⟨b,c⟩,q⟩:=i0 q;refine M e (aT (cB q) ?_);exact WO W _ b c
structure bU where
 ns:aD Z
 c0:Z
 c1:Z
 c2:Z
 c3:Z
 c4:Z
 c5:Z
 wd:aA
 yr:aA
 y0:aA
 mo:aA
 dy:aA
 zi:aA
 hh:aA
 mi:aA
 se:aA
noncomputable def bU.cs(D:bU):aD Int:=[D.c0,D.c1,D.c2,D.c3,D.c4,D.c5]
structure bU.Ok(D:bU):Prop where
 hw:(D.c0 % 146097+2) % 7=(D.wd:Z)
 hd:o8 (D.c0 % 146097)=((D.y0:Z),(D.mo:Z),(D.dy:Z))
 hy:(D.y0:Z)+400*(D.c0 / 146097 % 30)=(D.yr:Z)
 hz:D.c1 / 86400 % 4=(D.zi:Z)
 hh:D.c1 % 86400 / 3600=(D.hh:Z)
 hm:D.c1 % 86400 / 60 % 60=(D.mi:Z)
 hs:D.c1 % 86400 % 60=(D.se:Z)
 bw:D.wd < 7
 lB:D.yr < 20000
 bm:D.mo < 12
 bd:1≤D.dy∧D.dy≤31
 bz:D.zi < 4
 bh:D.hh < 24
 bi:D.mi < 60
 bs:D.se < 60
noncomputable def bU.line(D:bU):aD Nat:=jO D.wd++ig D.dy++jP D.mo++l7 D.yr D.hh D.mi D.se (gX D.zi)
theorem OY(x:Str):mk x.cps.toList=x:=DO x
theorem E7:(∀x∈cF++cH,x.cps.toList.length=3)∧∀x∈pu,x.cps.toList.length≤5:=by decide+kernel
theorem ub(h:i < 7):(jO i).length=3:=by have:i < cF.length:=h;unfold jO;refine M io (M (fD this) ?_);exact E7.1 _ (kU _ (mq ..))
theorem uc(h:i < 12):(jP i).length=3:=by have:i < cH.length:=h;unfold jP;refine M io (M (fD this) ?_);exact E7.1 _ (j7 _ (mq ..))
theorem rT(h:i < 4):(gX i).length≤5:=by have:i < pu.length:=h;unfold gX;refine M io (M (fD this) ?_);exact E7.2 _ (mq ..)
theorem acr(a b:aD aA):mk a++mk b=mk (a++b):=fT (lO (xs:=a.toArray))
theorem lD(h:x=mk l):x++mk b=mk (l++b):=(aR (· ++mk b) h).trans (acr l b)
theorem kq{a u v l:aD aA}(h:a++u=l):a++(u++v)=l++v:=(eZ a u v).symm.trans (aR (· ++v) h)
theorem acs(a p m y h i s z:aD aA):mk a++mk [44,32] ++mk p++mk [32] ++mk m++mk [32] ++mk y++mk [32] ++mk h++mk [58] ++mk i++mk [58] ++mk s++mk [32] ++mk z=mk (a++([44,32] ++p++[32])++m++([32] ++y++[32] ++h++[58] ++i++[58] ++s++[32] ++z)):=
 (lD (lD (lD (lD (lD (lD (lD (lD (lD (lD (lD (lD (lD (lD V)))))))))))))).trans (aR mk (kq (kq (kq (kq (kq (kq (kq (kq (kq (aR (· ++[32]) (aR (· ++m) (kq (kq V))))))))))))).symm)
theorem act(D:bU):tT (cF.getD D.wd ⟨#[]⟩) D.dy (cH.getD D.mo ⟨#[]⟩) D.yr D.hh D.mi D.se (pu.getD D.zi ⟨#[]⟩)=mk D.line:=by
 have a:(", ":Str)=mk [44,32] :=by decide+kernel
 have b:(" ":Str)=mk [32] :=by decide+kernel
 have c:(":":Str)=mk [58] :=by decide+kernel
 unfold tT;exact acs (jO D.wd) (cC 2 D.dy) (jP D.mo) (cC 4 D.yr) (cC 2 D.hh) (cC 2 D.mi) (cC 2 D.se) (gX D.zi)
end
section
noncomputable def bU.v8(D:bU)(y:Z):aD PV:=[.lst (D.ns.map .int),.lst (D.cs.map .int),.lst (cF.map .str),.lst (cH.map .str),.int D.wd,.int y,.int D.mo,.int D.dy]
noncomputable def bU.v10(D:bU):aD PV:=D.v8 D.yr++[.int (D.c1 % 86400),.str (gN.mk (gX D.zi)),.str (gN.mk D.line)]
noncomputable def bU.v11(D:bU):aD PV:=D.v10++[.str (gN.mk (ig D.dy))]
noncomputable def bU.jg(D:bU):aD PV:=D.v11++[.str (gN.mk (l7 D.yr D.hh D.mi D.se (gX D.zi)))]
theorem rU(a:l.length=i)(h:i < 27):(aX l).put i x=aX (l++[x]):=by
 subst a;unfold aX Sg.put
 congr 1
 refine M (uN _ _ (by simp)) (M (bQ ..) (M (pK ..) (M bH (M HG (M iE (M (eZ ..) ?_))))))
 congr 1
 refine M (xP (nF h):27 - l.length=(27 - (l.length+1))+1) (M xi ?_);rfl
theorem acu(a:l.length=i):(aX (l++[p])).put i x=aX (l++[x]):=by
 subst a;unfold aX Sg.put
 congr 1
 refine M bH (M bH (M iE (M iE (M (eZ ..) (M (eZ ..) (M (uN _ _ (by simp)) (M (bQ ..) (M (pK ..) ?_))))))));rfl
theorem dT(h:l[i]? =O x):ev P (aX l) (.nm i)=O x:=by
 have a:i < l.length:=(md.mp h).1
 have:(aX l).loc[i]? =O (O x):=by unfold aX;refine M (sx (by refine M (bQ ..) ?_;exact a)) (M im (M h ?_));rfl
 exact aR jb this
theorem ud(a:l.length=i)(b:i < 27)(h:ev P (aX l) e=O x)(c:jv x=O x):ex P (.asg i e) (aX l)=O (.next,aX (l++[x])):=
 M (gR h c) (M (rU a b) V)
theorem acv(a:l.length=i)(h:ev P (aX (l++[p])) e=O y)(b:jW o p y=O z):ex P (.aug i o e) (aX (l++[p]))=O (.next,aX (l++[z])):=by
 have c:(aX (l++[p])).loc[i]? =O (O p):=by unfold aX;subst a;refine M (sx (by simp)) (M im (M (pM (cA _)) (M (pK ..) ?_)));rfl
 exact M (qk c h b) (M (acu a) V)
theorem rV(D:bU)(h:ev P σ (.nm 1)=O (.lst (D.cs.map .int)))(k:aA)(x:Z)(a:D.cs[k]? =O x):ev P σ (.sub (.nm 1) (.int (k:Z)))=O (.int x):=hZ h (y:= .int (k:Z)) V (DU (by decide:6≤1000) a)
theorem ue(l:aD Str)(i:aA):l.getD i ⟨#[]⟩=mk (l.getD i ⟨#[]⟩).cps.toList:=(DO _).symm
theorem OZ(h:a=b):jd .NotEq (.str (mk a)) (.str (mk b))=O (.bool aI):=
 (M (eP (fun q=>q (by exact M h V))) V:O (PV.bool (decide (mk a≠mk b)))=_)
theorem tx1:aH ", "=mk [44,32] :=by decide+kernel
theorem wt:aH " "=mk [32] :=by decide+kernel
theorem O1:aH ":"=mk [58] :=by decide+kernel
section
theorem acw(W:Wd w mg mb h₀)(D:bU)(O0:D.Ok)(hc:Ct w mg mb h₀ T 20 "_law_cells" [.lst (D.ns.map .int)] (.lst (D.cs.map .int))):lz w mg mb h₀ T [z0,z1,z2,z3,z4,z5,z6,z7,z8] (aX [.lst (D.ns.map .int)]) (aX D.v10):=by
 have zl:=rT O0.bz;have O2:=ace (T:=T) W D.yr D.mo D.dy D.hh D.mi D.se D.wd (mk (gX D.zi)) (by have:=O0.lB;exact bK this (by decide)) O0.bm (by have:=O0.bd;exact bZ this.2 (by decide)) (by have:=O0.bh;exact bK this (by decide)) (by have:=O0.bi;exact bK this (by decide)) (by have:=O0.bs;exact bK this (by decide)) O0.bw (by refine M (cZ ..) ?_;exact aL zl (by decide));have O3:mk (gX D.zi)=pu.getD D.zi ⟨#[]⟩:=DO _;rw[O3,act,←O3] at O2;have O4:=ZN (T:=T) W (D.c0 % 146097);rw[O0.hd] at O4;refine .cons _ (lx hc (cA _)) (eJ:=aX [.lst (D.ns.map .int),.lst (D.cs.map .int)]) (gR (fO (bW V iw) V rS) V) V <| .cons bJ mF (eJ:=aX [.lst (D.ns.map .int),.lst (D.cs.map .int),.lst (cF.map .str)]) (gR (wl _ _ _ (by decide)) V) V ?_
 refine .cons bJ mF (eJ:=aX [.lst (D.ns.map .int),.lst (D.cs.map .int),.lst (cF.map .str),.lst (cH.map .str)]) (gR (wl _ _ _ (by decide)) V) V <| .cons bJ mF (eJ:=aX [.lst (D.ns.map .int),.lst (D.cs.map .int),.lst (cF.map .str),.lst (cH.map .str),.int D.wd]) (gR (x:= .int D.wd) (by have:=lU (P:=bJ) (bM (lU (rV D (P:=bJ) (σ:=aX [.lst (D.ns.map .int),.lst (D.cs.map .int),.lst (cF.map .str),.lst (cH.map .str)]) V 0 D.c0 V) (b:=146097) (by decide) (by decide)) (b:= .int 2) V iJ) (b:=7) (by decide) (by decide);rw[O0.hw] at this;exact this) V) V ?_
 refine .cons _ (lx O4 (by decide)) (eJ:=aX (D.v8 D.y0)) (yy (xs:=[.int D.y0,.int D.mo,.int D.dy]) (fO (bW (lU (rV D V 0 D.c0 V) (by decide) (by decide)) iw) V rS) V) V <| .cons bJ mF (eJ:=aX (D.v8 D.yr)) (qk (p:= .int D.y0) (y:= .int (400*(D.c0 / 146097 % 30))) V (bM V (lU (lV (rV D V 0 D.c0 V) (by decide) (by decide)) (by decide) (by decide)) (tq (by decide) (by decide))) (by show O (PV.int _)=_;exact M O0.hy V)) V ?_
 refine .cons bJ mF (eJ:=aX (D.v8 D.yr++[.int (D.c1 % 86400)])) (gR (lU (rV D V 1 D.c1 V) (by decide) (by decide)) V) V <| .cons bJ mF (eJ:=aX (D.v8 D.yr++[.int (D.c1 % 86400),.str (mk (gX D.zi))])) (gR (x:= .str (mk (gX D.zi))) (by refine E6 (l:=pu) ?_ (by decide) O0.bz;have:=lU (P:=bJ) (lV (rV D (P:=bJ) (σ:=aX (D.v8 D.yr++[.int (D.c1 % 86400)])) V 1 D.c1 V) (b:=86400) (by decide) (by decide)) (b:=4) (by decide) (by decide);rw[O0.hz] at this;exact this) V) V ?_
 refine .cons _ (lx O2 (by decide)) (eJ:=aX D.v10) (gR (x:= .str (mk D.line)) (by
  have a1:∀P,ev P (aX (D.v8 D.yr++[.int (D.c1 % 86400),.str (mk (gX D.zi))])) (.bin .FloorDiv (.nm 8) (.int 3600))=O (.int D.hh):=fun P=>by have:=lV (P:=P) (σ:=aX (D.v8 D.yr++[.int (D.c1 % 86400),.str (mk (gX D.zi))])) (a:= .nm 8) (x:=D.c1 % 86400) (b:=3600) V (by decide) (by decide);rw[O0.hh] at this;exact this
  have a2:∀P,ev P (aX (D.v8 D.yr++[.int (D.c1 % 86400),.str (mk (gX D.zi))])) (.bin .Mod (.bin .FloorDiv (.nm 8) (.int 60)) (.int 60))=O (.int D.mi):=fun P=>by have:=lU (P:=P) (lV (P:=P) (σ:=aX (D.v8 D.yr++[.int (D.c1 % 86400),.str (mk (gX D.zi))])) (a:= .nm 8) (x:=D.c1 % 86400) (b:=60) V (by decide) (by decide)) (b:=60) (by decide) (by decide);rw[O0.hm] at this;exact this
  have a3:∀P,ev P (aX (D.v8 D.yr++[.int (D.c1 % 86400),.str (mk (gX D.zi))])) (.bin .Mod (.nm 8) (.int 60))=O (.int D.se):=fun P=>by have:=lU (P:=P) (σ:=aX (D.v8 D.yr++[.int (D.c1 % 86400),.str (mk (gX D.zi))])) (a:= .nm 8) (x:=D.c1 % 86400) (b:=60) V (by decide) (by decide);rw[O0.hs] at this;exact this
  refine fO (bW (tw (bW V (bW (bM V rfl iJ) (bW V (bW (a1 _) (bW (a2 _) (bW (a3 _) (bW V iw))))))) (by show 7≤1000;decide) (by rfl)) (bW V iw)) (by rfl) rS) V) V .nil
end
end
section
section
theorem acx{n:aA}(h:n < 20000):(iB (n:aA)).length≤10:=Ol (cW _) (dD (dN.mpr h) (by decide))
noncomputable def jQ(P:bT)(b:Sg)(a:E)(x:aD aA)(n:aA):Prop:=ev P b a=O (.str (mk x))∧x.length≤n
theorem jQ.add(c:jQ P e a x n)(d:jQ P e b y m)(h:n+m≤1000000):jQ P e (.bin .Add a b) (x++y) (n+m):=
 ⟨on c.1 d.1 (aL (fY c.2 d.2) h),by refine M bH ?_;exact fY c.2 d.2⟩
theorem rW(n:aA)(h:aH s=mk l)(a:l.length≤n):jQ P b (.str (aH s)) l n:=⟨zJ h,a⟩
theorem jQ.to(h:jQ P b a x n)(e:x=y):jQ P b a y n:=e▸h
theorem jQ.two{n:aA}(h:ev (jz (aH "_law_two") lA) c a=O (.int (n:Z)))(b:n < 100):jQ (jz (aH "_law_two") lA) c (.call (aH "_law_two") (.cons a .nil)) (cC 2 (n:aA)) 14:=
 ⟨fO (gE h) V (ua (acp n b)),pv 2 n (iF b (by decide)) (by decide)⟩
noncomputable def bU.qL(D:bU):aD Nat:=[32] ++cC 4 D.yr++[32] ++cC 2 D.hh
theorem acy(D:bU)(a:D.Ok):ex (jz (aH "_law_two") lA) z9 (aX D.v10)=O (.next,aX D.v11):=
 ud (i:=11) V (by decide) (((rW 2 tx1 (by decide)).add (.two (dT V) (bZ a.bd.2 (by decide))) (by decide)).add (rW 1 wt (by decide)) (by decide)).1 rfl
theorem acz{k:aA}(h:k≤10):dC .Mult (.str (aH "0")) (.int (4 - (k:Z)))=O (.str (mk (dU (4 - k) 48))):=by have e:(4 - (k:Z)).toNat=4 - k:=Int.toNat_sub 4 k;refine(bB ⟨rfl,by lia,by lia⟩).trans (aR (fun z=>O (PV.str z)) (fT ?_));exact(M Array.toList_replicate (M e V):(Gm (4 - (k:Z)).toNat 48).toList=_)
theorem acA(D:bU)(a:D.Ok):ex (jz (aH "_law_two") lA) EI (aX D.v11)=O (.next,aX (D.v11++[.str (mk D.qL)])):=by
 have b:=acx a.lB
 have c:jQ (jz (aH "_law_two") lA) (aX D.v11) (.bi "str" (.cons (.nm 5) .nil)) (iB D.yr) 10:=⟨iU (gE (x:= .int (D.yr:Z)) (dT V)) (by exact aT (aco (iF a.lB (by decide))) <|bB (by have:=a.lB;exact Bz (Td (ji _)) (dN.mpr (bK this (by decide))))),b⟩
 have d:ev (jz (aH "_law_two") lA) (aX D.v11) (.bi "len" (.cons (.bi "str" (.cons (.nm 5) .nil)) .nil))=O (.int (iB D.yr).length):=iU (gE c.1) ((bB (by refine M (cZ ..) (M cN ?_);exact aL b (by decide))).trans (aR (fun n:aA=>O (PV.int n)) (cZ _)))
 have e:jQ (jz (aH "_law_two") lA) (aX D.v11) (.bin .Mult (.str (aH "0")) (.bin .Sub (.int 4) (.bi "len" (.cons (.bi "str" (.cons (.nm 5) .nil)) .nil)))) (dU (4 - (iB D.yr).length) 48) 4:=
  ⟨bM V (bM V d mA) (acz b),by refine M oJ ?_;exact lK _ _⟩
 have f:ev (jz (aH "_law_two") lA) (aX D.v11) (.bin .FloorDiv (.nm 8) (.int 3600))=O (.int D.hh):=(lV (x:=D.c1 % 86400) (dT V) (by decide) (by decide)).trans (M a.hh V);exact ud (i:=12) V (by decide) ((((((rW 1 wt (by decide)).add e (by decide)).add c (by decide)).to (eZ ..)).add (rW 1 wt (by decide)) (by decide)).add (.two f (iF a.bh (by decide))) (by decide)).1 rfl
theorem acB(D:bU)(a:D.Ok):ex (jz (aH "_law_two") lA) EJ (aX (D.v11++[.str (mk D.qL)]))=O (.next,aX D.jg):=by
 have c:ev (jz (aH "_law_two") lA) (aX (D.v11++[.str (mk D.qL)])) (.bin .Mod (.bin .FloorDiv (.nm 8) (.int 60)) (.int 60))=O (.int D.mi):=(lU (lV (x:=D.c1 % 86400) (dT V) (by decide) (by decide)) (by decide) (by decide)).trans (M a.hm V);have d:ev (jz (aH "_law_two") lA) (aX (D.v11++[.str (mk D.qL)])) (.bin .Mod (.nm 8) (.int 60))=O (.int D.se):=(lU (x:=D.c1 % 86400) (dT V) (by decide) (by decide)).trans (M a.hs V);have e:jQ (jz (aH "_law_two") lA) (aX (D.v11++[.str (mk D.qL)])) (.nm 9) (gX D.zi) 5:=⟨dT V,rT a.bz⟩;have b:=((((rW 1 O1 (by decide)).add (.two c (iF a.bi (by decide))) (by decide)).add (rW 1 O1 (by decide)) (by decide)).add (.two d (iF a.bs (by decide))) (by decide)).add (rW 1 wt (by decide)) (by decide) |>.add e (by decide)
 have f:D.qL.length≤30:=by have g:=pv 2 D.hh (iF a.bh (by decide)) (by decide);have h:=pv 4 D.yr (iF a.lB (by decide)) (by decide);unfold bU.qL;refine M bH (M bH (M bH ?_));exact fY (fY (eK h 1) (cA 1)) g
 exact acv (l:=D.v11) V b.1 (((OX (aL (fY f b.2) (by decide))):jW .Add (.str (mk D.qL)) (.str (mk ([58] ++cC 2 D.mi++[58] ++cC 2 D.se++[32] ++gX D.zi)))=O (.str (mk (D.qL++([58] ++cC 2 D.mi++[58] ++cC 2 D.se++[32] ++gX D.zi))))).trans (aR (fun z=>O (PV.str (mk z))) (kq (kq (kq (kq (kq V)))))))
theorem acC(D:bU)(O0:D.Ok):ex bJ EK (aX D.jg)=O (.next,aX D.jg):=by
 have e1:jQ bJ (aX D.jg) (.sub (.nm 2) (.nm 4)) (jO D.wd) 3:=⟨hZ (dT V) (dT V) (by exact aT (ue _ _:cF.getD D.wd ⟨#[]⟩=mk (jO D.wd)) <|og (by decide) (by refine M io (M (fD (O0.bw:D.wd < cF.length)) ?_);rfl)),cI (ub O0.bw)⟩
 have e2:jQ bJ (aX D.jg) (.sub (.nm 3) (.nm 6)) (jP D.mo) 3:=⟨hZ (dT V) (dT V) (by exact aT (ue _ _:cH.getD D.mo ⟨#[]⟩=mk (jP D.mo)) <|og (by decide) (by refine M io (M (fD (O0.bm:D.mo < cH.length)) ?_);rfl)),cI (uc O0.bm)⟩
 have pd:=pv 2 D.dy (bZ O0.bd.2 (by decide)) (by decide)
 have lm:(ig D.dy).length≤17:=by unfold ig;refine M bH (M bH ?_);exact fY (eK pd 2) (cA 1)
 have le:(l7 D.yr D.hh D.mi D.se (gX D.zi)).length≤100:=by have zl:=rT O0.bz;have ph:=pv 2 D.hh (iF O0.bh (by decide)) (by decide);have pi:=pv 2 D.mi (iF O0.bi (by decide)) (by decide);have ps:=pv 2 D.se (iF O0.bs (by decide)) (by decide);have p4:=pv 4 D.yr (iF O0.lB (by decide)) (by decide);unfold l7;refine M bH (M bH (M bH (M bH (M bH (M bH (M bH (M bH (M bH ?_))))))));exact aL (fY (fY (fY (fY (fY (fY (fY (fY (eK p4 1) (cA 1)) ph) (cA 1)) pi) (cA 1)) ps) (cA 1)) zl) (by decide)
 have e3:=((e1.add (b:= .nm 11) ⟨dT V,lm⟩ (by decide)).add e2 (by decide)).add (b:= .nm 12) ⟨dT V,le⟩ (by decide);exact eY (cK (x:= .str (mk D.line)) (dT V) e3.1 (OZ V)) V
theorem acD(W:Wd w c mb h₀)(D:bU)(a:D.Ok):lz w c mb h₀ T [z9,EI,EJ,EK] (aX D.v10) (aX D.jg):=
 have b:=t9 (T:=T) (acq (mg:=c) (T:=T) W) (by decide:1≤20)
 .cons _ b (acy D a) V (.cons _ b (acA D a) V (.cons _ b (acB D a) V (.cons bJ mF (acC D a) V .nil)))
end
end
section
noncomputable def dL(l:aD aA):aD Nat:=(l.filter fun(c:aA)=> !hO.any fun x=>x==(c:Z)).flatMap fun c=>(lp c).cps.toList
theorem oo(a b:aD aA):dL (a++b)=dL a++dL b:=by unfold dL;exact M (Bs ..) (M List.flatMap_append V)
theorem acE(c:aA)(l:aD aA):dL (c::l)=dL [c] ++dL l:=oo [c] l
theorem E8(h:∀c∈l,c < 128):cD (mk l)=mk (l.map bA):=by
 refine M (lower_ascii (x:=mk l) h) <|fT ?_
 simp
theorem acF:hO.all (fun s=>decide (173≤s) && decide (s < 70000))=true:=by decide+kernel
theorem acG:lj.all (fun p=>decide (181≤p.1))=true:=by decide+kernel
theorem O5{c:aA}(h:c < 173∨70000≤c):(hO.any fun x=>x==(c:Z))=false:=by refine iR List.any_eq_false ?_;intro x a b;have:=j2.mp acF x a;simp only[hG,lL] at this;have:=beq_iff_eq.mp b;omega
theorem acH{l:aD (Z×Str)}{k:Z}(h:∀p∈l,p.1≠k):l.lookup k=none:=by
 induction l with
 |nil=>rfl
 |cons p r ih=>
  obtain⟨a,b⟩:=p;refine M GZ ?_;have:(k==a)=false:=beq_eq_false_iff_ne.mpr fun e=>h (a,b) (iN ..) e.symm;exact M this <|ih fun q c=>h q (hX _ c)
theorem E9{c:aA}(h:c < 128):dL [c] =[bA c] :=by
 have a:=O5 (c:=c) (.inl (bK h (by decide)))
 have b:lj.lookup (c:Z)=none:=acH fun p d=>by have:=kQ (j2.mp acG p d);exact fC (dD (dN.mpr h) (cL (by decide) this))
 unfold dL;refine M (Bu (by refine M a ?_;rfl)) (M ag3 ?_);unfold lp;refine M ag4 (M ag5 (M b ?_));refine(M (E8 (l:=[c]) (by simpa using h)) ?_:(cD (mk [c])).cps.toList++[] =_);exact rfl
theorem zK:∀{l:aD aA},(∀c∈l,c < 128)→dL l=l.map bA
 |[],_=>rfl
 |c::r,h=>by refine M (acE ..) (M (E9 (h c (iN ..))) (M (zK fun x a=>h x (hX _ a)) ?_));rfl
noncomputable def uf:aD (Z×Str)→aU
 |a::b::r=>decide (a.1 < b.1) && uf (b::r)| _=>aF
noncomputable def subB:aD (Z×Str)→aD (Z×Str)→aU
 |[],a=>a.isEmpty|y::b,a=>a.isEmpty ||if(a.headD y).1=y.1 then decide ((a.headD y).2=y.2) && subB b a.tail else subB b a
theorem O6:∀{l:aD (Z×Str)} {a:Z×Str},uf (a::l)=aF→∀p∈l,a.1 < p.1
 |[],_,_,_,c=>(cO c).elim
 |b::r,a,h,p,c=>by
  refine xa (mM.mp h) fun d e=> ?_;have d:=kQ d;rcases gA.mp c with rfl |c
  ·exact d
  ·have:=O6 e p c;exact uG d this
theorem acI(h:uf (a::l)=aF):uf l=true:=by
 cases l with
 |nil=>rfl|cons b r=>exact(mM.mp h).2
theorem O7:∀{l:aD (Z×Str)},uf l=aF→∀{k:Z} {v:Str},(k,v)∈l→l.lookup k=O v
 |[],_,_,_,hm=>(cO hm).elim
 |(a,b)::r,h,k,v,hm=>by
  refine M GZ ?_;rcases gA.mp hm with e |hm
  ·cases e;simp
  ·have:=O6 h _ hm
   have c:(k==a)=false:=beq_eq_false_iff_ne.mpr fun e=>by have:a < k:=this;omega
   exact M c <|O7 (acI h) hm
theorem E':∀{b c:aD (Z×Str)},subB b c=aF→∀p∈c,p∈b
 | _,[],_,_,a=>(cO a).elim|[],_::_,h,_,_=>by cases h
 |y::b,x::c,h,p,a=>by
  by_cases d:x.1=y.1
  ·replace h:(decide (x.2=y.2) && subB b c)=true:=(aS d).symm.trans h;refine xa (mM.mp h) fun e f=> ?_;have e:=kQ e;rcases gA.mp a with rfl |a
   ·have:p=y:=Prod.ext d e;refine M this ?_;exact iN ..
   ·exact hX _ (E' f p a)
  ·exact hX _ (E' ((aP d).symm.trans h) p a)
noncomputable def acJ:aD (Z×Str):=jN.flatMap fun g=>(mK 26).map fun k=>(g+(k:aA),one (k+97))
theorem acK:uf lj=true:=by decide+kernel
theorem acL:subB lj acJ=true:=by decide+kernel
theorem acM:∀g∈jN,119000 < g:=by decide
theorem acN(a:g∈jN)(d:k < 26):dL [(g+((k+97:aA):Z) - 97).toNat] =[k+97]∧100 < (g+((k+97:aA):Z) - 97).toNat:=by
 have f:=acM g a;have b:g+((k+97:aA):Z) - 97=g+(k:aA):=(aR (· - 97) ((qU g k 97).symm)).trans (SK ..);have c:119000 < g+(k:aA):=dD f (Sy (cW k));have e:(((g+((k+97:aA):Z) - 97).toNat:aA):Z)=g+(k:aA):=by refine M b ?_;exact j4 (cJ (iD (by decide) c))
 have h:119000 < (g+((k+97:aA):Z) - 97).toNat:=by refine M b ?_;exact Int.lt_toNat.mpr c
 have i:(g+((k:aA):Z),one (k+97))∈lj:=E' acL _ (SM.mpr ⟨g,a,iX.mpr ⟨k,ag6.mpr d,rfl⟩⟩);have j:=O7 acK i;refine⟨?_,iF (by decide) h⟩;have l:=O5 (c:=(g+((k+97:aA):Z) - 97).toNat) (.inr (by omega));unfold dL;refine M (Bu (by refine M l ?_;rfl)) (M ag3 ?_);unfold lp;refine M ag4 (M ag5 (M e (M j ?_)));rfl
theorem acO:∀h∈jM,dL [h.toNat] =[]∧100 < h.toNat:=by decide+kernel
theorem acP:∀q∈o9,dL [q.2.toNat] =q.1.cps.toList∧100 < q.2.toNat∧q.1.cps.toList.length=2∧q.1.cps.toList.all (fun c=>c !=34)=true:=by decide+kernel
end
section
noncomputable def ot:aD Nat:=jy.map aex
noncomputable def Let(c:aA):Prop:=(65≤c∧c≤90)∨(97≤c∧c≤122)
noncomputable def kL(c:aA):Prop:=Let c∨c∈ot
noncomputable def ug(c:aA):Prop:=c < 128∨c∈ot
theorem kL.Fa(h:kL c):ug c:=by
 rcases h with(h |h) |h
 ·exact .inl (bZ h.2 (by decide))
 ·exact .inl (bZ h.2 (by decide))
 ·exact .inr h
theorem uh:∀c∈ot,ag7 c=[c]∧ag8 c=[c]∧dL [c] =[c]∧128≤c∧c≠931:=by decide+kernel
theorem zL(h:128≤c):bA c=c:=aP (BA (bK (by decide) h))
theorem O8(h:128≤c):jG c=c:=aP (BA (bK (by decide) h))
theorem acQ(h:ug c):ag7 c=[bA c]∧c≠931:=by
 rcases h with h |h
 ·exact⟨lowerOf_ascii c h,by exact fE (bK h (by decide))⟩
 ·refine jo (uh c h) fun a J J b d=> ?_;refine M (zL b) ?_;exact⟨a,d⟩
theorem acR(h:ug c):ag8 c=[jG c] :=by
 rcases h with h |h
 ·exact upperOf_ascii c h
 ·refine jo (uh c h) fun J a J b J=> ?_;refine M (O8 b) ?_;exact a
theorem wu(h:∀c∈l,ug c):cD (mk l)=mk (l.map bA):=by
 unfold cD
 rw[ag9 (mk l) _ bA fun i c b=>by
  have a:(mk l).cps[i]? =O c:=by simpa using b
  obtain⟨d,e⟩:=acQ (h c (by have:=SI a;simpa using this));unfold Unicode.lowerAt;rw[a];have f:(c==0x3A3)=false:=by rw[Hg];exact e
  simp only[f,agN,af3,if_false];exact d]
 refine fT ?_;simp
theorem O9(h:∀c∈l,ug c):qJ (mk l)=mk (l.map jG):=by
 unfold qJ
 rw[ag9 (mk l) _ jG fun i c a=>acR (h c (by
  have b:(mk l).cps[i]? =O c:=by simpa using a
  have:=SI b;simpa using this))]
 refine fT ?_;simp
theorem acS(h:kL c):dL [c] =[bA c]∧dL [jG c] =[bA c]∧c≠34∧c≠92∧jG c≠34∧jG c≠92:=by
 rcases h with h |h
 ·have d:jG c < 128∧bA (jG c)=bA c∧jG c≠34∧jG c≠92∧c < 128∧c≠34∧c≠92:=by
   rcases h with h |h
   ·have e:jG c=c:=aP (HX (bZ h.2 (by decide)));refine M e ?_;exact⟨by exact bZ h.2 (by decide),rfl,by exact eG (bK (by decide) h.1),by exact fE (bZ h.2 (by decide)),by exact bZ h.2 (by decide),by exact eG (bK (by decide) h.1),by exact fE (bZ h.2 (by decide))⟩
   ·have e:jG c=c - 32:=aS h;have f:bA (c - 32)=c - 32+32:=aS ⟨Ar h.1,qV h.2⟩;have g:bA c=c:=aP (BA (bK (by decide) h.1));refine M e (M f (M g ?_));exact⟨by exact Hx (aL (by decide) h.1) (bZ h.2 (by decide)),by exact r9 (aL (by decide) h.1),by exact eG (Nat.lt_sub_of_add_lt (bK (by decide) h.1)),by exact fE (Hx (aL (by decide) h.1) (bZ h.2 (by decide))),by exact bZ h.2 (by decide),by exact eG (bK (by decide) h.1),by exact eG (bK (by decide) h.1)⟩
  (refine uT d ?_;clear d;rintro b i j a k l m);exact⟨E9 k,by exact M (E9 b) (M i V),l,m,j,a⟩
 ·refine jo (uh c h) fun J J b a J=>M (zL a) (M (O8 a) ?_);exact⟨b,b,by exact eG (bK (by decide) a),by exact eG (bK (by decide) a),by exact eG (bK (by decide) a),by exact eG (bK (by decide) a)⟩
noncomputable abbrev Row:=aD (aU×aA)
noncomputable def gG(p:aU×aA):aD Nat:=if p.1 then [34,p.2,34] else [p.2]
noncomputable def eO(p:aU×aA):Str:=if p.1 then quoted (one p.2) else one p.2
theorem ng(p:aU×aA):eO p=mk (gG p):=by obtain⟨b,c⟩:=p;cases b<;>rfl
noncomputable def ii(p:aU×aA):Prop:=if p.1=aF then Let p.2 else kL p.2
theorem ii.sgn(h:ii p):kL p.2:=by
 unfold ii at h
 split at h
 ·exact .inl h
 ·exact h
theorem rX(h:ii p):∀c∈gG p,ug c:=by
 intro c a;have b:=h.sgn;unfold gG at a
 split at a
 ·simp only[gA,cO,or_false] at a;rcases a with rfl |rfl |rfl
  ·exact .inl (by decide)
  ·exact b.Fa
  ·exact .inl (by decide)
 ·refine M (fK.mp a) ?_;exact b.Fa
theorem acT(h:(!decide (([x] :aD aA) < [97]) && !decide ([122] < ([x] :aD aA)))=aF):97≤x∧x≤122:=by
 simp only[hG,nt,QR] at h;obtain⟨a,b⟩:=h
 constructor
 ·rcases np x 97 with q |q
  ·exact absurd (SN q) a
  ·exact q
 ·rcases np 122 x with q |q
  ·exact absurd (SN q) b
  ·exact q
theorem O'(h:ii p)(a:j0 (eO p)=aF):p.1=aI∧97≤bA p.2∧bA p.2≤122:=by
 unfold j0 at a;rw[ng,wu (rX h)] at a;obtain⟨b,c⟩:=p;cases b with
 |true=>
  exfalso
  simp only[hG,nt,QR] at a;exact a.1 (SN (by decide:(34:aA) < 97))
 |false=>exact⟨rfl,acT a⟩
theorem Pa(h:ii p):qt (eO p):=by
 have g:=wu (rX h);have i:=O9 (rX h);have a:(gG p).length≤3:=by unfold gG;split<;>simp
 refine⟨?_,?_,?_,fun j=> ?_⟩
 ·refine M (ng ..) (M (cZ ..) ?_);exact aL a (by decide)
 ·refine M (ng ..) (M g (M (cZ ..) (M (bQ ..) ?_)));exact aL a (by decide)
 ·refine M (ng ..) (M i (M (cZ ..) (M (bQ ..) ?_)));exact aL a (by decide)
 ·refine iH (O' h j) fun k d f=> ?_;obtain⟨b,c⟩:=p;cases k;have e:cD (eO (aI,c))=mk [bA c] :=by refine M (ng ..) (M g ?_);rfl
  unfold qq;refine M e ?_;have d:97≤bA c:=d;have f:bA c≤122:=f;refine⟨rfl,?_,?_⟩
  ·exact(cT.mpr d:(97:Z)≤((bA c:aA):Z))
  ·exact(cT.mpr f:((bA c:aA):Z)≤122)
end
section
noncomputable def gY(l:aD aA):Prop:=∀c∈l,c≠34∧c≠92
theorem gY.append(d:gY a)(e:gY b):gY (a++b):=fun c f=>(jF.mp f).elim (d c) (e c)
noncomputable def lcs(a:Row):aD Nat:=(a.filter fun p=> !p.1).map fun p=>bA p.2
noncomputable def qs(a:Row):Nat:=(a.filter fun p=>p.1).length
noncomputable def Rd(q:aA)(o f:aD aA):Prop:=
 (q=0∧gY o∧dL o=f)∨(q=1∧∃a u b,o=a++[34,u,34] ++b∧gY a∧gY b∧u≠34∧u≠92∧dL a++dL b=f)
theorem Rd.pre(h:Rd q o f)(c:gY m):Rd q (m++o) (dL m++f):=by
 rcases h with⟨d,n,g⟩ |⟨i,a,u,b,e,j,k,l,p,g⟩
 ·exact .inl ⟨d,c.append n,by exact M (oo ..) (M g V)⟩
 ·exact .inr ⟨i,m++a,u,b,by exact M e (aT (eZ ..) (aT (eZ ..) V)),c.append j,k,l,p,by exact M (oo ..) (M (eZ ..) (M g V))⟩
theorem Rd.post(h:Rd q o f)(c:gY m):Rd q (o++m) (f++dL m):=by
 rcases h with⟨d,n,g⟩ |⟨i,a,u,b,e,j,k,l,p,g⟩
 ·exact .inl ⟨d,n.append c,by exact M (oo ..) (M g V)⟩
 ·exact .inr ⟨i,a,u,b++m,by exact M e (M (eZ ..) V),j,k.append c,l,p,by exact M (oo ..) (aT (eZ ..) (M g V))⟩
theorem Rd.app(h:Rd q o f)(b:Rd c i j)(d:q+c≤1):Rd (q+c) (o++i) (f++j):=by
 rcases h with⟨a,n,g⟩ |e
 ·refine M a (M (mI ..) (aT g ?_));exact b.pre n
 ·rcases b with⟨a,n,g⟩ |⟨k,_⟩
  ·refine M a (M (si ..) (aT g ?_));exact Rd.post (.inr e) n
  ·rw[e.1,k] at d;exact absurd d (by decide)
noncomputable def jR(a:Row)(b:aD aA):Prop:=Rd (qs a) b (lcs a)
theorem acU:lcs ((aI,c)::r)=bA c::lcs r:=rfl
theorem acV:lcs ((aF,c)::r)=lcs r:=rfl
theorem acW:qs ((aI,c)::r)=qs r:=rfl
theorem acX:qs ((aF,c)::r)=qs r+1:=rfl
theorem Pb(c:lcs a=fs++lcs r)(d:qs a=qs r)(e:gY b)(f:dL b=fs)(h:jR r g):jR a (b++g):=by unfold jR;refine M c (M d (aT f ?_));exact Rd.pre h e
theorem acY(b:qs r=0)(g:gY a)(i:dL a=[])(j:q≠34)(k:q≠92)(h:jR r d):jR ((aF,c)::r) ([34,q,34] ++a++d):=by
 rcases h with⟨_,n,f⟩ |⟨e,_⟩
 ·refine .inr ⟨by exact M acX (M b V),[],q,a++d,eZ ..,(fun J h=>(cO h).elim),g.append n,j,k,?_⟩;refine M (oo ..) (M i (M f (M acV ?_)));rfl
 ·rw[b] at e;exact Gb e
theorem acZ(c:Str)(a b:aD aA):c++mk a++mk b=c++mk (a++b):=by refine fT ?_;show((c.cps++a.toArray)++b.toArray).toList=(c.cps++(a++b).toArray).toList;simp
theorem ac0(h:d % 40 < 27):dL [qr (d % 40)] =[]∧gY [qr (d % 40)] :=by
 have b:0≤d % 40:=eD _ (by decide);have e:(d % 40).toNat < jM.length:=(lP b).mpr h
 have f:jM.getD (d % 40).toNat 0∈jM:=by refine M io (M (fD e) ?_);exact mq ..
 exact xa (acO _ f) fun g a=>⟨g,fun c i=>by refine M (fK.mp i) ?_;exact⟨eG (iF (by decide) a),eG (iF (by decide) a)⟩⟩
theorem ac1(j:¬d % 40 < 27)(l:d % 40 < 37)(g:ii p)(m:j0 (eO p)=aF):p.1=aI∧dL [rF (d % 40) (eO p)] =[bA p.2]∧gY [rF (d % 40) (eO p)] :=by
 refine iH (O' g m) fun n a f=> ?_;have o:(d % 40 - 27).toNat < jN.length:=(lP (AY (ja.mp j))).mpr (Ss l)
 have q:jN.getD (d % 40 - 27).toNat 0∈jN:=by refine M io (M (fD o) ?_);exact mq ..
 obtain⟨b,c⟩:=p;cases n;have a:97≤bA c:=a;have f:bA c≤122:=f
 have e:qq (eO (aI,c))=((bA c:aA):Z):=by unfold qq;refine M (ng ..) (M (wu (rX g)) ?_);rfl
 obtain⟨k,h⟩:∃k,bA c=k+97:=⟨bA c - 97,(r9 a).symm⟩;refine xa (acN q (k:=k) (pP (n:=97) (h▸ml f))) fun r i=> ?_;unfold rF;refine M e (M h ?_);refine⟨rfl,r,fun x s=> ?_⟩;refine M (fK.mp s) ?_;exact⟨eG (iF (by decide) i),eG (iF (by decide) i)⟩
theorem ac2{p:aU×aA}{a:Row}:pairOf (eO p) (a.map eO)=cD (mk (gG p++((a.take 1).map gG).flatten)):=by unfold pairOf;refine aR cD (fT ?_);refine M (v0 ..) (aT qH (M gJ (M Q2 (M j8 (M (ng ..) ?_)))));exact aR (fun z=>gG p++agQ z) (uO fun q J=>(M (ng ..) V:(eO q).cps.toList=_))
theorem Fb(p:aU×aA):(p.1=aI∧gG p=[p.2])∨(p.1=aF∧gG p=[34,p.2,34]):=by
 obtain⟨b,c⟩:=p;cases b with
 |false=>exact .inl ⟨rfl,rfl⟩|true=>exact .inr ⟨rfl,rfl⟩
noncomputable def JoinOk(p:aU×aA)(a:Row)(v:Z):Prop:=∃q r,a=q::r∧p.1=aI∧q.1=aI∧dL [v.toNat] =[bA p.2,bA q.2]∧gY [v.toNat]
theorem ac3(o:ii p)(s:∀q∈b,ii q)(h:nY (pairOf (eO p) (b.map eO))=O v):JoinOk p b v:=by
 refine aQ (me.mp h) fun z j t=> ?_;(refine dX (acP z (agw j)) ?_;rintro d f a _);have k:=kQ (List.find?_some (p:=fun q:Str×Z=>decide (q.1=pairOf (eO p) (b.map eO))) j)
 rw[ac2,wu fun c e=>(jF.mp e).elim (rX o c) fun e=>by refine aQ (List.mem_flatten.mp e) fun l u e=> ?_;(refine aQ (iX.mp u) ?_;rintro q w rfl);exact rX (s q (Bc w)) c e] at k
 rw[k] at d a;rw[t] at d f
 have y:gY [v.toNat] :=fun x A=>by exact M (fK.mp A) <|⟨eG (iF (by decide) f),eG (iF (by decide) f)⟩
 have a:((gG p++((b.take 1).map gG).flatten).map bA).length=2:=a;have d:dL [v.toNat] =(gG p++((b.take 1).map gG).flatten).map bA:=d;rcases Fb p with⟨m,g⟩ |⟨m,g⟩
 ·rw[g] at d a;cases b with
  |nil=>exact absurd (show 1=2 from a) (by decide)
  |cons q r=>
   rcases Fb q with⟨n,i⟩ |⟨n,i⟩
   ·exact⟨q,r,rfl,m,n,d.trans (by rw[show(q::r).take 1=[q] from rfl,gJ,i];rfl),y⟩
   ·rw[show(q::r).take 1=[q] from rfl,gJ,i] at a;exact absurd (show 4=2 from a) (by decide)
 ·rw[g] at a;have a:((([34,p.2,34] ++((b.take 1).map gG).flatten).map bA).length)=2:=a;exact(by cases(a:_+1+1+1=2))
theorem ac4(a:p.1=aI)(b:q.1=aI)(c:dL l=[bA p.2,bA q.2])(d:gY l)(e:jR r f):jR (p::q::r) (l++f):=by obtain⟨i,g⟩:=p;obtain⟨j,h⟩:=q;cases a;cases b;exact Pb (fs:=[bA g,bA h]) V rfl d c e
noncomputable def rY(b:Row)(n:aA)(c:Str)(z:Str×Z):Prop:=∃a,z.1=c++mk a∧jR b a∧a.length≤4*n
theorem rY.more(h:rY b n (c++mk l) z)(e:d=z)(f:l.length+4*n≤4*g)(k:∀a,jR b a→jR i (l++a)):rY i g c d:=by(refine dB h ?_;clear h;rintro a j m o);exact⟨l++a,by exact M e (M j (M (acZ ..) V)),k a m,by refine M bH ?_;exact aL (eK o _) f⟩
theorem zM(h:qs (p::a)≤k):qs a≤k∧(p.1=aF→qs a+1≤k):=by
 obtain⟨b,c⟩:=p;cases b with
 |false=>exact⟨h,fun e=>GY e⟩|true=>exact⟨qB h,fun J=>h⟩
theorem Pc(i:qs (p::a)≤1)(j:p.1=aI→gY l∧dL l=[bA p.2])(k:p.1=aF→∃u,l=[34,u,34]∧u≠34∧u≠92)(d:gY hs)(f:dL hs=[])(m:l.length+hs.length≤4)
  (h:rY a n (acc++mk (l++hs)) z) (e:z'=z):rY (p::a) (n+1) acc z':=by
 refine h.more e (by refine M bH (M (r8 ..) (M (gI ..) ?_));exact eK m _) fun v g=> ?_;have o:=(zM i).2;obtain⟨b,c⟩:=p;cases b with
 |false=>
  exact xa (j V) fun q r=>Pb (fs:=[bA c]) acU acW (q.append d) (by refine M (oo ..) (M r (M f ?_));rfl) g
 |true=>
  exact dB (k V) fun u e s t=>M e <|acY (ag'.mp (aha (o V))) d f s t g
theorem Pd:gY [] :=fun J h=>(cO h).elim
theorem Pe(h:c≠34)(a:c≠92):gY [c] :=fun x b=>by refine M (fK.mp b) ?_;exact⟨h,a⟩
theorem Pf(n:aA):∀row:Row,row.length≤n→(∀p∈row,ii p)→qs row≤1→∀(d:Z) (acc:Str),rY row row.length acc (fX (row.map eO) d acc):=by
 have nil:∀(d:Z) (acc:Str),rY [] 0 acc (fX [] d acc):=fun d acc=>⟨[],fT (Array.append_empty (xs:=acc.cps)▸rfl),.inl ⟨rfl,Pd,rfl⟩,cA _⟩
 induction n with
 |zero=>intro row hn _ _ d acc;cases row with
  |nil=>exact nil d acc|cons=>exact absurd hn (Nat.not_succ_le_zero _)
 |succ n ih=>
  intro row hn rn hq d acc;cases row with
  |nil=>exact nil d acc|cons p rest=>
  have hp:=rn p (iN ..);have hr:∀q∈rest,ii q:=fun q hq=>rn q (hX _ hq);have Pg:rest.length≤n:=aha hn;have go:=fun acc=>ih rest Pg hr (zM hq).1 (d / 40) acc;refine qX (acS hp.sgn) fun f1 f2 f3 f4 f5 f6=> ?_
  have HH:p.1=aI→gY (gG p)∧dL (gG p)=[bA p.2] :=fun e=>by refine M (show gG p=[p.2] from aP (by refine M e ?_;exact cM)) ?_;exact⟨Pe f3 f4,f1⟩
  have Fd:p.1=aF→∃u,gG p=[34,u,34]∧u≠34∧u≠92:=fun e=>⟨p.2,aS e,f3,f4⟩
  have tU:(gG p).length≤3:=by
   rcases Fb p with⟨_,e⟩ |⟨_,e⟩
   ·refine M e ?_;show 1≤3;decide
   ·refine M e ?_;exact cA 3
  have zN:=fun(l:aD aA) h1 h2 h5 z' e=>Pc (acc:=acc) (l:=l) (hs:=[]) (z':=z') hq h1 h2 Pd V h5 (go _) e
  by_cases c1:d % 40 < 27
  ·refine xa (ac0 c1) fun g1 g2=> ?_;have e:acc++(eO p++one (qr (d % 40)))=acc++mk (gG p++[qr (d % 40)]):=by refine M (ng ..) ?_;exact aR (acc++ ·) (fT (lO (xs:=(gG p).toArray)))
   exact Pc hq HH Fd g2 g1 (sF tU) (go _) ((Ni c1).trans (aR _ e))
  by_cases c2:d % 40 < 37∧j0 (eO p)=aF
  ·exact iH (ac1 c1 c2.1 hp c2.2) fun g0 g1 g2=>zN [rF (d % 40) (eO p)] (fun J=>⟨g2,g1⟩) (fun h=>nomatch g0.symm.trans h) (by decide:1+0≤4) _ (Nj c1 c2)
  cases hj:(if 37 < d % 40 then nY (pairOf (eO p) (rest.map eO)) else aB) with
  |some v=>
   by_cases Ph:37 < d % 40
   ·refine H1 (ac3 hp hr ((aS Ph).symm.trans hj)) fun q r e b1 b2 g1 g2=> ?_;clear zN HH Fd go f1 f2 f3 f4 f5 f6 tU hp rn hn;subst e;exact(ih r (qB Pg) (fun x hx=>hr x (hX _ hx)) (zM (zM hq).1).1 (d / 40) (acc++mk [v.toNat])).more (Nk c1 c2 hj) (by refine M (gI ..) ?_;exact(nB (nB (nB (eK (show 1≤5 by decide) _))):_≤4*r.length+4+4)) fun out ho=>ac4 b1 b2 g1 g2 ho
   ·exact nomatch (aP Ph).symm.trans hj
  |none=>
   by_cases c3:d % 40=37
   ·have e:acc++(if d % 40=37 then qJ (eO p) else eO p)=acc++mk ((gG p).map jG++[]):=
     M (aS c3) (M (ng ..) (M (O9 (rX hp)) (M (jT ..) V)))
    exact zN ((gG p).map jG) (fun h=>by refine M (show gG p=[p.2] from aP (by refine M h ?_;exact cM)) ?_;exact⟨Pe f5 f6,f2⟩) (fun h=>⟨jG p.2,by refine M (show gG p=[34,p.2,34] from aS h) ?_;rfl,f5,f6⟩) (by refine M (bQ ..) ?_;exact nB tU) _ ((DJ c1 c2 hj).trans (aR _ e))
   ·have e:acc++(if d % 40=37 then qJ (eO p) else eO p)=acc++mk (gG p++[]):=M (aP c3) (M (ng ..) (M (jT ..) V));exact zN (gG p) HH Fd (nB tU) _ ((DJ c1 c2 hj).trans (aR _ e))
end
section
noncomputable def dM(k:aA):aD Nat:=(EH.getD k ⟨#[]⟩).cps.toList
noncomputable def iL(k:aA):aD Nat:=(zA.getD k ⟨#[]⟩).cps.toList
theorem wv:dM 0=[]∧dM 1=[32,34]∧dM 2=[32,92,34]∧dM 3=[32,34,40,92,34,120,34]∧dM 4=[32,92,92,34,113,34]∧
  iL 0=[]∧iL 1=[32,34]∧iL 2=[32,92,34]∧iL 3=[32]∧iL 4=[32,92,92] :=by decide+kernel
theorem Pj{st:aA}(h:c≠34):gF x ((i,[c])::r) st op res=gF x r st op res:=aP fun e=>h (xl e).1
theorem Pk(h:c≠92):dK (c::r) i aI=(i,[c])::dK r (i+1) false:=aP h
theorem Pm(x a b:aD aA)(st:aA)(d:aG aA)(e:aD (aD aA)):∀i:aA,gY a→gF x (dK (a++b) i aI) st d e=gF x (dK b (i+a.length) aI) st d e:=by
 induction a with
 |nil=>exact fun J J=>rfl
 |cons c a ih=>
  intro i h;refine xa (h c (iN ..)) fun f g=>(aR (fun z=>gF x z st d e) (Pk (r:=a++b) g)).trans ((Pj f).trans ((ih (i+1) fun y j=>h y (hX _ j)).trans ?_));refine M (ik ..) (M (gI 1 ..) ?_);rfl
theorem ac5(a b:aD aA):(∀c∈a,c≠92)→kj (a++b) aI=kj b false:=by
 induction a with
 |nil=>exact fun J=>rfl
 |cons c a ih=>
  intro h;refine kO ?_ (ih fun y d=>h y (hX _ d));exact aR (kj (a++b)) (eP (h c (iN ..)))
theorem ww{C:aA→Prop}{k:aA}(a:k < 5)(b:C 0)(c:C 1)(d:C 2)(e:C 3)(f:C 4):C k:=
 match k,a with
 |0,_=>b |1,_=>c |2,_=>d |3,_=>e |4,_=>f
 |n+5,h=>absurd h (i8.mpr (ox 5 n))
theorem ac6{k:aA}(a:k < 5):kj (dM k) aI=false:=by exact qX wv fun b c d e f J=>ww (C:=fun k=>kj (dM k) aI=aI) a (b▸rfl) (c▸rfl) (d▸rfl) (e▸rfl) (f▸rfl)
noncomputable def wx(x:aD aA)(z:aA×aD (aD aA)):aD Nat:=(z.2++if z.1 < x.length then [x.drop z.1] else []).flatten
theorem Pn(a:aD (aD aA))(y:aD aA):(a++[y]).flatten=a.flatten++y:=M List.flatten_append (M ahb V)
theorem Fe{st:aA}(d:x.drop st=b++t)(e:x.length=st+(b++t).length):wx x (st,a)=a.flatten++b++t:=by
 refine M (eZ ..) ?_
 by_cases c:st < x.length
 ·exact(aR (fun z=>(a++z).flatten) (aS c)).trans ((Pn a _).trans (aR _ d))
 ·have f:(b++t).length=0:=ag'.mp (Nat.le_of_add_le_add_left (aL (cI e.symm) (i8.mp c)));refine M (qC f) (M (jT ..) ?_);exact(aR (fun z=>(a++z).flatten) (aP c)).trans (M (jT ..) V)
theorem Po{st:aA}(d:x.drop st=b++t)(e:x.length=st+(b++t).length)(g:t.take (n+1)=f)(c:z=(st+b.length+t.length,if st≠st+b.length+(n+1) then a++[(x.take (st+b.length+(n+1))).drop st] else a)):wx x z=a.flatten++b++f:=by
 have h:¬st+b.length+t.length < x.length:=by refine M e (M bH (M (ik ..) ?_));exact ux _
 have i:st≠st+b.length+(n+1):=by refine M (ik ..) ?_;exact fE (agC (nq _))
 have j:(x.take (st+b.length+(n+1))).drop st=b++f:=
  M agO (M d (M (ik ..) (M (qA ..) (M (List.take_length_add_append ..) (M g V)))))
 rw[aS i,j] at c;refine M c (M (eZ ..) ?_);exact(aR (fun z=>((a++[b++f])++z).flatten) (aP h)).trans (M (jT ..) (M (Pn ..) V))
theorem Pp(x b:aD aA)(k st:aA)(a:aD (aD aA))(e:k < 5)(f:gY b)(c:x.drop st=b++dM k)(d:x.length=st+(b++dM k).length):
  wx x (gF x (dK (b++dM k) st aI) st aB a)=a.flatten++b++iL k:=by
 refine H6 wv fun g h i j l m n o p q=>M (Pm x b _ st aB a st f) ?_;revert c d;refine ww (C:=fun k=>x.drop st=b++dM k→x.length=st+(b++dM k).length→wx x (gF x (dK (dM k) (st+b.length) aI) st aB a)=a.flatten++b++iL k) e ?_ ?_ ?_ ?_ ?_
 ·refine M g (M m ?_);exact Fe
 ·refine M h (M n ?_);exact Fe
 ·refine M i (M o ?_);exact Fe
 ·refine M j (M p ?_);exact fun c d=>Po (n:=0) c d V rfl
 ·refine M l (M q ?_);exact fun c d=>Po (n:=2) c d V rfl
theorem ac7(b:aD aA)(k:aA)(c:k < 5)(d:gY b):kl (b++dM k)=b++iL k:=by
 by_cases a:34∈b++dM k
 ·exact(aS a).trans (Pp (b++dM k) b k 0 [] c d V (mI _).symm)
 ·refine uT wv fun e f g i j l J=>(aP a).trans ?_;revert a;exact ww (C:=fun k=>34∉b++dM k→b++dM k=b++iL k) c (fun J=>M e (M l V)) (fun h=>absurd (j7 _ (f▸by decide)) h) (fun h=>absurd (j7 _ (g▸by decide)) h) (fun h=>absurd (j7 _ (i▸by decide)) h) fun h=>absurd (j7 _ (j▸by decide)) h
theorem ac8(a b:aD aA)(q k:aA)(f:k < 5)(g:gY a)(h:gY b)(i:q≠34)(j:q≠92):kl (a++[34,q,34] ++b++dM k)=a++b++iL k:=by
 have e:a++[34,q,34] ++b++dM k=a++(34::q::34::(b++dM k)):=by refine M (eZ ..) (M (eZ ..) ?_);rfl
 refine M e <|(aS (j7 _ (iN ..))).trans ?_
 show wx _ _=_;generalize c:a++(34::q::34::(b++dM k))=X;have l:X.take a.length=a:=by refine aT c ?_;exact HI V
 have m:gF X (dK X 0 aI) 0 aB [] =gF X (dK (b++dM k) (a.length+3) aI) (a.length+3) aB (if 0≠a.length then [a] else []):=by
  refine(aR (fun z=>gF X (dK z 0 aI) 0 aB []) c.symm).trans ((Pm X a _ 0 aB [] 0 g).trans ?_);refine M (mI ..) <|(aR (fun z=>gF X ((a.length,[34])::z) 0 aB []) (Pk j)).trans ((Pj (st:=0) (op:=O a.length) (res:=[]) i).trans ?_)
  refine(M l ?_:gF X (dK (b++dM k) (a.length+3) aI) (a.length+3) aB (if 0≠a.length then [] ++[X.take a.length] else [])=_);rfl
 refine M m (M (Pp X b k (a.length+3) _ f h (by refine aT c ?_;exact List.drop_length_add_append 3) (by refine aT c (M bH (M (ik ..) ?_));exact aR _ (gI _ 3))) ?_)
 by_cases d:a.length=0
 ·refine M (qC d) ?_;rfl
 ·exact M (aS (Ne.symm d)) (M ahb V)
end
section
noncomputable def jS(d:aD aA)(a e:Z):Row:=
 let b:Row:=d.map fun c=>(aI,c)
 if a / 4 % 2≠e∨a % 4=0 then b
 else if a % 4=1 then b.set (iy a % 3).toNat (aF,d.getD (iy a % 3).toNat 0)
 else if a % 4=2 then b.take (iy a % 4).toNat++(aI,jK (a / 96) aF)::b.drop (iy a % 4).toNat
 else b.set (iy a % 3).toNat (aI,jK (a / 96) aI)
theorem qx{C:aA→Prop}{k:aA}(a:k < 3)(b:C 0)(c:C 1)(d:C 2):C k:=
 match k,a with
 |0,_=>b |1,_=>c |2,_=>d
 |n+3,h=>absurd h (i8.mpr (ox 3 n))
theorem wy{C:aA→Prop}{k:aA}(a:k < 4)(b:C 0)(c:C 1)(d:C 2)(e:C 3):C k:=
 match k,a with
 |0,_=>b |1,_=>c |2,_=>d |3,_=>e
 |n+4,h=>absurd h (i8.mpr (ox 4 n))
theorem mG{x:Z}{m:aA}(h:0 < (m:Z)):(x % m).toNat < m:=(lP (eD _ (fC h))).mpr (gM _ h)
theorem rZ(d:Z)(b:aU):kL (jK d b)∧bA (jK d b)=jK d b:=by
 unfold jK
 by_cases h:b=aF∧d % 42 < 26
 ·refine M (aS h) <|xe (qW (eD d (by decide:(42:Z)≠0))) fun n e=> ?_
  have a:=h.2;rw[e] at a ⊢;exact⟨.inl (.inr ⟨hV 97 n,eK (jB (dN.mp a)) 97⟩),aP fun q=>absurd (aL (hV 97 n) q.2) (by decide)⟩
 ·refine M (aP h) ?_
  have f:∀k:aA,k < 16→kL (jy.getD k 0).toNat∧bA (jy.getD k 0).toNat=(jy.getD k 0).toNat:=fun k g=>by
   have c:(jy.getD k 0).toNat∈ot:=iX.mpr ⟨jy.getD k 0,by refine M io (M (fD (g:k < jy.length)) ?_);exact mq ..,rfl⟩
   exact⟨.inr c,zL (uh _ c).2.2.2.1⟩
  refine f _ ?_
  split
  ·exact mG (m:=16) (by decide)
  ·exact mG (m:=16) (by decide)
theorem map_one(l:aD aA):rowOf (mk l)=l.map one:=rfl
theorem zO(l:aD aA):(l.map fun c=>((aI,c):aU×aA)).map eO=l.map one:=by refine M j8 ?_;rfl
theorem Ff{C:aD Str→Row→Prop}{row:aD Str}{a:aD aA}{b g:Z}{m:aU}(h:C row (a.map fun c=>(aI,c)))
  (i:∀k < 3,C (row.set k (if m=aF then quoted (row.getD k ⟨#[]⟩) else⟨#[]⟩)) ((a.map fun c=>(aI,c)).set k (aF,a.getD k 0)))
  (j:∀k < 4,∀s,kL s→bA s=s→C (row.take k++one s::row.drop k) ((a.map fun c=>(aI,c)).take k++(aI,s)::(a.map fun c=>(aI,c)).drop k))
  (l:∀k < 3,∀s,kL s→bA s=s→C (row.set k (one s)) ((a.map fun c=>(aI,c)).set k (aI,s))):C (nX row b g m) (jS a b g):=by
 unfold nX jS;dsimp only
 by_cases d:b / 4 % 2≠g∨b % 4=0
 ·refine M (aS d) (M (aS d) ?_);exact h
 refine M (aP d) (M (aP d) ?_)
 by_cases e:b % 4=1
 ·refine M (aS e) (M (aS e) ?_);exact i _ (mG (m:=3) (by decide))
 refine M (aP e) (M (aP e) ?_)
 by_cases f:b % 4=2
 ·refine M (aS f) (M (aS f) ?_);exact j _ (mG (m:=4) (by decide)) _ (rZ _ _).1 (rZ _ _).2
 ·refine M (aP f) (M (aP f) ?_);exact l _ (mG (m:=3) (by decide)) _ (rZ _ _).1 (rZ _ _).2
theorem Pq(a:aD aA)(b c:Z):nX (rowOf (mk a)) b c aF=(jS a b c).map eO:=by
 refine M (map_one ..) ?_;refine Ff (C:=fun l r=>l=r.map eO) (zO a).symm (fun k J=> ?_) (fun k J s J J=>by refine M iE (M gJ (M qH (M Bk (M (zO ..) ?_))));rfl) fun k J s J J=>by refine M xJ (M (zO ..) ?_);rfl
 refine M xJ (M (zO ..) (M (aS V) ?_))
 by_cases d:k < a.length
 ·refine aR ((a.map one).set k) ?_;refine M io (M io (M im (M (fD d) ?_)));rfl
 ·have:(a.map one).length≤k:=by refine M (bQ ..) ?_;exact i8.mp d
  exact M (ahc this) (M (ahc this) V)
noncomputable def zP(r:Row):Prop:=(∀p∈r,ii p)∧qs r≤1∧r.length≤4
theorem pz{f:aD aA}(q:∀c∈f,Let c)(v:f.length=3)(j l:Z):(∀p∈jS f j l,ii p)∧qs (jS f j l)≤1∧(jS f j l).length≤4:=by
 obtain⟨a,b,c,rfl⟩:∃a b c,f=[a,b,c] :=by
  match f,v with
  |[a,b,c],_=>exact⟨a,b,c,rfl⟩
 have m:∀x∈[a,b,c],ii (aI,x):=fun x h=> .inl (q x h);have n:∀x∈[a,b,c],ii (aF,x):=q;have t:a∈[a,b,c] := .head _;have mb:b∈[a,b,c] := .tail _ (.head _);have u:c∈[a,b,c] := .tail _ (.tail _ (.head _));have w:∀p∈([] :Row),ii p:=fun J h=>(cO h).elim;have d:∀{x y z:aU×aA},ii x→ii y→ii z→∀p∈[x,y,z],ii p:=fun C E F=>jk.mpr ⟨C,jk.mpr ⟨E,jk.mpr ⟨F,w⟩⟩⟩;have A:=m a t;have B:=m b mb;have D:=m c u;have e:(0:aA)≤1:=by decide
 have g:(3:aA)≤4:=by decide
 refine Ff (m:=aF) (row:=[]) (C:=fun J r=>zP r) ⟨d A B D,e,g⟩ (fun k i=>qx (C:=fun k=>zP (([a,b,c].map fun c=>(aI,c)).set k (aF,[a,b,c].getD k 0))) i ⟨d (n a t) B D,cA 1,g⟩ ⟨d A (n b mb) D,cA 1,g⟩ ⟨d A B (n c u),cA 1,g⟩)
  (fun k i s o J=> ?_) fun k i s o J=> ?_
 ·have S:ii (aI,s):=o;exact wy (C:=fun k=>zP (([a,b,c].map fun c=>(aI,c)).take k++(aI,s)::([a,b,c].map fun c=>(aI,c)).drop k)) i ⟨jk.mpr ⟨S,d A B D⟩,e,cA 4⟩ ⟨jk.mpr ⟨A,d S B D⟩,e,cA 4⟩ ⟨jk.mpr ⟨A,d B S D⟩,e,cA 4⟩ ⟨jk.mpr ⟨A,d B D S⟩,e,cA 4⟩
 ·have S:ii (aI,s):=o;exact qx (C:=fun k=>zP (([a,b,c].map fun c=>(aI,c)).set k (aI,s))) i ⟨d S B D,e,g⟩ ⟨d A S D,e,g⟩ ⟨d A B S,e,g⟩
noncomputable def zQ(l:aD Str)(r:Row):Prop:=(l.map fun x=>x.cps.toList).flatten=lcs r∧l.length≤4
theorem ac9{f:aD aA}(j:f.length=3)(h i:Z):((nX (rowOf (mk (f.map bA))) h i aI).map fun x=>x.cps.toList).flatten=lcs (jS f h i)∧(nX (rowOf (mk (f.map bA))) h i aI).length≤4:=by
 obtain⟨a,b,c,rfl⟩:∃a b c,f=[a,b,c] :=by
  match f,j with
  |[a,b,c],_=>exact⟨a,b,c,rfl⟩
 have e:(3:aA)≤4:=by decide
 refine Ff (C:=zQ) ⟨rfl,e⟩ (fun k g=>qx (C:=fun k=>zQ ((([a,b,c].map bA).map one).set k ⟨#[]⟩) (([a,b,c].map fun c=>(aI,c)).set k (aF,[a,b,c].getD k 0))) g ⟨rfl,e⟩ ⟨rfl,e⟩ ⟨rfl,e⟩) (fun k g s J d=> ?_) fun k g s J d=> ?_
 ·exact wy (C:=fun k=>zQ ((([a,b,c].map bA).map one).take k++one s::(([a,b,c].map bA).map one).drop k) (([a,b,c].map fun c=>(aI,c)).take k++(aI,s)::([a,b,c].map fun c=>(aI,c)).drop k)) g ⟨aR (fun s=>[s,bA a,bA b,bA c]) d.symm,cA 4⟩ ⟨aR (fun s=>[bA a,s,bA b,bA c]) d.symm,cA 4⟩ ⟨aR (fun s=>[bA a,bA b,s,bA c]) d.symm,cA 4⟩ ⟨aR (fun s=>[bA a,bA b,bA c,s]) d.symm,cA 4⟩
 ·exact qx (C:=fun k=>zQ ((([a,b,c].map bA).map one).set k (one s)) (([a,b,c].map fun c=>(aI,c)).set k (aI,s))) g ⟨aR (fun s=>[s,bA b,bA c]) d.symm,e⟩ ⟨aR (fun s=>[bA a,s,bA c]) d.symm,e⟩ ⟨aR (fun s=>[bA a,bA b,s]) d.symm,e⟩
end
section
theorem Pr:(∀x∈cF++cH,x.cps.toList.all fun c=>(decide (65≤c) && decide (c≤90)) ||(decide (97≤c) && decide (c≤122)))∧∀x∈pu,x.cps.toList.all fun c=>decide (c < 128) && c !=34 && c !=92:=by decide+kernel
theorem Ps(h:x∈cF++cH):∀c∈x.cps.toList,Let c:=fun c a=>by have:=j2.mp (Pr.1 x h) c a;simp only[RM,hG,lL] at this;exact this
theorem ui(h:i < 7):∀c∈jO i,Let c:=by have:i < cF.length:=h;unfold jO;refine M io (M (fD this) ?_);exact Ps (kU _ (mq ..))
theorem uj(h:i < 12):∀c∈jP i,Let c:=by have:i < cH.length:=h;unfold jP;refine M io (M (fD this) ?_);exact Ps (j7 _ (mq ..))
noncomputable def iW(l:aD aA):Prop:=∀c∈l,c < 128∧c≠34∧c≠92
theorem iW.Pt(h:iW l):gY l:=fun c a=>(h c a).2
theorem iW.lt(h:iW l):∀c∈l,c < 128:=fun c a=>(h c a).1
theorem iW.append(d:iW a)(e:iW b):iW (a++b):=fun c f=>(jF.mp f).elim (d c) (e c)
theorem wz(h:c < 128∧c≠34∧c≠92):iW [c] :=fun x a=>by refine M (fK.mp a) ?_;exact h
theorem wA(k:aA)(n:aA):iW (cC k (n:aA))∧(cC k (n:aA)).map bA=cC k (n:aA):=by
 have b:∀c∈cC k (n:aA),48≤c∧c≤57:=by
  intro c a;rcases jF.mp a with a |a
  ·refine M ((Bv.mp a).2) ?_;exact⟨by decide,by decide⟩
  ·exact Em _ c a
 refine⟨fun c a=> ?_,?_⟩
 ·have:=b c a;lia
 ·have e:(cC k (n:aA)).map bA=(cC k (n:aA)).map fun c=>c:=uO fun c a=>by have:=b c a;exact aP (HX (bZ this.2 (by decide)))
  exact M e (M (List.map_id' ..) V)
theorem wB(d:aA):iW (ig d)∧(ig d).map bA=ig d:=by refine xa (wA 2 d) fun a b=> ?_;unfold ig;refine⟨((wz (c:=44) (by decide)).append (wz (c:=32) (by decide)) |>.append a).append (wz (by decide)),?_⟩;refine M iE (M iE (M b ?_));rfl
theorem zR(h:i < 4):iW (gX i):=by have:i < pu.length:=h;unfold gX;refine M io (M (fD this) ?_);intro c a;have:=j2.mp (Pr.2 _ (mq ..)) c a;simp only[hG,lL,Gs] at this;exact⟨this.1.1,this.1.2,this.2⟩
theorem zS(y h m s:aA)(c:iW z):iW (l7 y h m s z)∧(l7 y h m s z).map bA=l7 y h m s (z.map bA):=by refine xa (wA 4 y) fun d e=>xa (wA 2 h) fun f g=>xa (wA 2 m) fun i j=>xa (wA 2 s) fun k l=> ?_;have a:iW [32] :=wz (by decide);have b:iW [58] :=wz (by decide);unfold l7;refine⟨(((((((a.append d).append a).append f).append b).append i).append b).append k |>.append a).append c,?_⟩;simp only[iE,e,g,j,l];rfl
theorem Pu(b:k < 5):dL (iL k)=iL k∧(iL k).length≤3:=by refine H6 wv fun J J J J J d f g i j=> ?_;have a:∀{l:aD aA},(∀c∈l,c < 128)→l.map bA=l→l.length≤3→dL l=l∧l.length≤3:=fun h e m=>⟨(zK h).trans e,m⟩;exact ww (C:=fun k=>dL (iL k)=iL k∧(iL k).length≤3) b (d▸a (by decide) V (by decide)) (f▸a (by decide) V (by decide)) (g▸a (by decide) V (by decide)) (i▸a (by decide) V (by decide)) (j▸a (by decide) V (by decide))
theorem zT(h:zU / 4 % 2≠which):qs (jS nm zU which)=0:=by
 refine M (show jS nm zU which=nm.map fun c=>(aI,c) from aS (.inl h)) ?_
 induction nm with
 |nil=>rfl|cons c r ih=>exact ih
theorem Rd.ac'(h:Rd q o f):∀c∈o,c≠92:=by
 rcases h with⟨_,n,_⟩ |⟨_,a,u,b,e,g,i,_,j,_⟩
 ·exact fun c d=>(n c d).2
 ·refine M e ?_;have k:∀c∈[34,u,34],c≠92:=jk.mpr ⟨by decide,jk.mpr ⟨j,jk.mpr ⟨by decide,fun J h=>(cO h).elim⟩⟩⟩;exact fun c d=>(jF.mp d).elim (fun d=>(jF.mp d).elim (fun d=>(g c d).2) (k c)) fun d=>(i c d).2
theorem Rd.strip(c:k < 5)(h:Rd q o f):dL (kl (o++dM k))=f++iL k∧(kl (o++dM k)).length≤o.length+3:=by
 refine xa (Pu c) fun d i=> ?_;rcases h with⟨_,n,g⟩ |⟨_,a,u,b,e,j,l,m,p,g⟩
 ·refine M (ac7 o k c n) (M (oo ..) (M g (M d (M bH ?_))));exact⟨rfl,eK i _⟩
 ·refine M e (M (ac8 a b u k c j l m p) (M (oo ..) (M (oo ..) (M g (M d (M bH (M bH (M bH (M bH ?_)))))))));exact⟨rfl,fY (lH (hV _ _) _) i⟩
theorem Pw(f:jR a g)(h:jR b i)(j:qs a+qs b≤1)(c:iW d)(e:iW R):Rd (qs a+qs b) (g++d++i++R) (lcs a++d.map bA++lcs b++R.map bA):=by refine aT (zK c.lt) (aT (zK e.lt) ?_);exact Rd.post (Rd.app (Rd.post f c.Pt) h j) e.Pt
theorem Px(d:k < 5)(g:jR e b)(i:jR f c)(j:qs e+qs f≤1)(l:iW a)(m:iW R):
  dL (kl (b++a++c++R++dM k))=lcs e++a.map bA++lcs f++R.map bA++iL k∧kj (b++a++c++R++dM k) aI=false:=
 have h:=Pw g i j l m
 ⟨(h.strip d).1,(ac5 (b++a++c++R) (dM k) h.ac').trans (ac6 d)⟩
end
section
theorem ada(a:l.length=i):(aX (l++[p] ++[q])).put i x=aX (l++[x] ++[q]):=by
 have e:∀z:PV,aX (l++[z] ++[q])={loc:=l.map O++O z::(O q::dU (27 - (l.length+1+1)) aB)}:=fun z=>by unfold aX;refine M iE (M iE (M bH (M bH (M (eZ ..) (M (eZ ..) ?_)))));rfl
 refine M (e ..) (M (e ..) (aT a ?_));refine aR (fun z=>({loc:=z}:Sg)) ?_;refine M (uN _ _ (cI (bQ _))) (M (bQ ..) (M (pK ..) ?_));rfl
theorem adb(a:l.length=i)(b:i+1 < 27)(h:ev P (aX l) e=O (.tup [x,y])):ex P (.jp [i,i+1] e) (aX l)=O (.next,aX (l++[x] ++[y])):=by exact M (yy h V) <|(M (rU a (ku b)) (M (rU (by refine M bH (M a ?_);rfl) b) V):O (Fl.next,((aX l).put i x).put (i+1) y)=_)
theorem adc(a:l.length=i)(b:i+1 < 27)(h:ev P (aX (l++[p])) e=O (.tup [x,y])):ex P (.jp [i+1,i] e) (aX (l++[p]))=O (.next,aX (l++[y] ++[x])):=by exact M (yy h V) <|(M (rU (by refine M bH (M a ?_);rfl) b) (M (ada a) V):O (Fl.next,((aX (l++[p])).put (i+1) x).put i y)=_)
theorem Py{a b:aA}(h:l.length≤100000):mX (.str (mk l)) (.int (a:Z)) (.int (b:Z))=O (.str (mk ((l.take b).drop a))):=Og l a b h
theorem ade{b:aA}(h:l.length≤100000):mX (.str (mk l)) .none (.int (b:Z))=O (.str (mk (l.take b))):=
 (bB (by refine M (cZ ..) (M cN ?_);exact aL h (by decide))).trans (aR (fun z=>O (PV.str z)) (fT (Nd _ _)))
theorem adf{a:aA}(h:l.length≤100000):mX (.str (mk l)) (.int (a:Z)) .none=O (.str (mk (l.drop a))):=
 (bB (by refine M (cZ ..) (M cN ?_);exact aL h (by decide))).trans (aR (fun z=>O (PV.str z)) (fT (DG _ _)))
theorem more{l:aD PV}{k:aA}{x y:PV}(h:l[k]? =O x):(l++[y])[k]? =O x:=
 M (sx (md.mp h).1) (M h V)
theorem nh:∀n < 100,(cC 2 ((n:aA):Z)).length=2:=by decide+kernel
theorem Fg(h:d < 100):(ig d).length=5:=by unfold ig;refine M bH (M bH (M (nh d h) ?_));rfl
theorem Fh(a:y < 20000)(b:h < 100)(c:m < 100)(d:s < 100)(e:z.length≤5):(l7 y h m s z).length≤40:=by have f:=pv 4 y (iF a (by decide)) (by decide);unfold l7;refine M bH (M bH (M bH (M bH (M bH (M bH (M bH (M bH (M bH (M (nh h b) (M (nh m c) (M (nh s d) ?_)))))))))));exact aL (fY (lH (eK f 1) 10:1+(cC 4 (y:aA)).length+10≤25) e) (by decide)
theorem parts{a b c e:aD aA}(d:a.length=3)(h:b.length=5)(i:c.length=3):(a++b++c++e).take 3=a∧((a++b++c++e).take 11).drop 8=c∧((a++b++c++e).take 8).drop 3=b∧(a++b++c++e).drop 11=e:=by have f:(a++b).length=8:=M bH (M d (M h V));have g:(a++b++c).length=11:=M bH (M f (M i V));exact⟨by refine M (eZ ..) (M (eZ ..) ?_);exact HI d,by refine M (HI g) ?_;exact SO f,by refine M (eZ ..) (M (HI f) ?_);exact SO d,SO g⟩
theorem zV(h:l.length=k):(l++[x])[k]? =O x:=by refine aT h ?_;exact List.getElem?_concat_length
theorem adg(a:k < 5):(dM k).length≤7:=by exact qX wv fun b c d e f J=>ww (C:=fun k=>(dM k).length≤7) a (by refine M b ?_;decide) (by refine M c ?_;decide) (by refine M d ?_;decide) (by refine M e ?_;decide) (by refine M f ?_;decide)
noncomputable def bU.r1(D:bU):Row:=jS (jO D.wd) D.c2 0
noncomputable def bU.r2(D:bU):Row:=jS (jP D.mo) D.c2 1
noncomputable def bU.E(D:bU):aD Nat:=l7 D.yr D.hh D.mi D.se (gX D.zi)
section
theorem zW{P:bT}{D:bU}{l:aD PV}{k:aA}{x:Z}(a:D.cs[k]? =O x)(h:l[1]? =O (.lst (D.cs.map .int))):ev P (aX l) (.sub (.nm 1) (.int (k:Z)))=O (.int x):=rV D (dT h) k x a
theorem adh{P:bT}{D:bU}{l:aD PV}{o:aD aA}{a:aD PV}{d:Z}(n:l.length=13)(b:l[1]? =O (.lst (D.cs.map .int)))(c:l[10]? =O (.str (mk D.line)))(e:D.line.length≤100000)(t:D.line.take 3=jO D.wd)
  (f:P.call (aH "_law_harmed") [.str (mk (jO D.wd)),.int D.c2,.int 0,.bool aF] =O (.lst a)) (g:P.call (aH "_law_typed") [.lst a,.int D.c3] =O (.tup [.str (mk o),.int d])):ex P EL (aX l)=O (.next,aX (l++[PV.str (mk o)] ++[.int d])):=
 adb n (by decide) (fO (jX (fO (bW (o0 (v:= .int (3:aA)) (dT c) V rfl ((ade e).trans (M t V))) (bW (zW (k:=2) V b) (jX V rfl))) V f) (zW (k:=3) V b)) V g)
theorem adi{P:bT}{D:bU}{l:aD PV}{o:aD aA}{a:aD PV}{d b:Z}(n:l.length=14)(c:(l++[.int d])[1]? =O (.lst (D.cs.map .int)))(e:(l++[.int d])[10]? =O (.str (mk D.line)))(f:D.line.length≤100000)(t:(D.line.take 11).drop 8=jP D.mo)
  (g:P.call (aH "_law_harmed") [.str (mk (jP D.mo)),.int D.c2,.int 1,.bool aF] =O (.lst a)) (h:P.call (aH "_law_typed") [.lst a,.int d] =O (.tup [.str (mk o),.int b])):ex P EM (aX (l++[.int d]))=O (.next,aX (l++[.int b] ++[PV.str (mk o)])):=
 adc n (by decide) (fO (jX (fO (bW (o0 (u:= .int (8:aA)) (v:= .int (11:aA)) (dT e) V rfl ((Py f).trans (M t V))) (bW (zW (k:=2) V c) (jX V rfl))) V g) (dT (zV n))) V h)
theorem adj{P:bT}{D:bU}{l:aD PV}{k:aA}(n:l.length=16)(a:l[1]? =O (.lst (D.cs.map .int)))(b:D.c5 % 5=(k:Z))(c:k < 5):ex P EN (aX l)=O (.next,aX (l++[PV.str (mk (dM k))])):=
 ud n (by decide) ((E6 (l:=EH) ((lU (b:=5) (zW (k:=5) (x:=D.c5) V a) (by decide) (by decide)).trans (M b V)) (by decide) c).trans (aR (fun z=>O (PV.str z)) (ue _ _))) V
theorem adk{P:bT}{D:bU}{l:aD PV}{a b c:aD aA}{z:PV}{m E:aD aA}(n:l.length=17)(d:l[10]? =O (.str (mk D.line)))(f:l[13]? =O (.str (mk a)))(g:l[15]? =O (.str (mk b)))(h:l[16]? =O (.str (mk c)))(e:D.line.length≤100000)(i:(D.line.take 8).drop 3=m)(j:D.line.drop 11=E)
  (k:a.length≤100) (o:b.length≤100) (p:c.length≤100) (q:m.length≤100) (r:E.length≤100) (s:P.call (aH "_strip_quoted_realnames") [.str (mk (a++m++b++E++c))] =O z) (t:jv z=O z):ex P EO (aX l)=O (.next,aX (l++[z])):=by
 have u:jQ P (aX l) (.dE (.nm 10) (.int 3) (.int 8)) m 100:=⟨o0 (u:= .int (3:aA)) (v:= .int (8:aA)) (dT d) V rfl ((Py e).trans (M i V)),q⟩;have v:jQ P (aX l) (.dE (.nm 10) (.int 11) .none) E 100:=⟨o0 (u:= .int (11:aA)) (dT d) V rfl ((adf e).trans (M j V)),r⟩;have w:jQ P (aX l) (.nm 13) a 100:=⟨dT f,k⟩;exact ud n (by decide) (fO (gE (((((w.add u (by decide)).add ⟨dT g,o⟩ (by decide)).add v (by decide)).add ⟨dT h,p⟩ (by decide)).1)) V s) t
end
section
theorem adl{w:aV}{H mb:Str→aG aJ}{h₀:bF}{T:aD Tab}(W:Wd w H mb h₀)(D:bU)(a:D.Ok):∃b c i k,jR D.r1 b∧jR D.r2 c∧k < 5∧D.c5 % 5=((k:aA):Z)∧b.length+c.length≤32∧
  lz w H mb h₀ T [EL,EM,EN,EO] (aX D.jg) (aX (D.jg++[PV.str (mk b)] ++[PV.int i] ++[PV.str (mk c)] ++[PV.str (mk (dM k))] ++[.str (mk (kl (b++ig D.dy++c++D.E++dM k)))])):=by
 have e:=ub a.bw;have f:=uc a.bm;have j:=Fg (d:=D.dy) (bZ a.bd.2 (by decide));have s:D.E.length≤40:=Fh a.lB (iF a.bh (by decide)) (iF a.bi (by decide)) (iF a.bs (by decide)) (rT a.bz);refine iH (pz (ui a.bw) e D.c2 0) fun t I u=>iH (pz (uj a.bm) f D.c2 1) fun x K y=>dB (Pf _ D.r1 (cA _) t I D.c3 ⟨#[]⟩) fun b z L g=>dB (Pf _ D.r2 (cA _) x K (fX (D.r1.map eO) D.c3 ⟨#[]⟩).2 ⟨#[]⟩) fun c A N h=> ?_;have g:b.length≤16:=aL g (uu 4 u);have h:c.length≤16:=aL h (uu 4 y);have a0:∀l:aD aA,(⟨#[]⟩:Str)++mk l=mk l:=fun l=>fT (lO (xs:= #[]));rw[a0] at z A;refine xe (qW (eD D.c5 (by decide:(5:Z)≠0))) fun k B=> ?_;have m:k < 5:=dN.mp (B▸gM D.c5 (by decide));refine⟨b,c,(fX (D.r2.map eO) (fX (D.r1.map eO) D.c3 ⟨#[]⟩).2 ⟨#[]⟩).2,k,L,N,m,B,fY g h,?_⟩;have P:=y8 (T:=T) W (mk (jO D.wd)) (by rw[cZ,e]) D.c2 0 aF;rw[Pq] at P;have C:=Nr (T:=T) W (D.r1.map eO) (fun a1 d=>by(refine aQ (iX.mp d) ?_;rintro q E rfl);exact Pa (t q E)) (by rw[bQ];exact aL u (by decide)) D.c3;rw[z] at C;have Q:=y8 (T:=T) W (mk (jP D.mo)) (by rw[cZ,f]) D.c2 1 aF;rw[Pq] at Q;have n:=Nr (T:=T) W (D.r2.map eO) (fun a1 d=>by(refine aQ (iX.mp d) ?_;rintro q E rfl);exact Pa (x q E)) (by rw[bQ];exact aL y (by decide)) (fX (D.r1.map eO) D.c3 ⟨#[]⟩).2;rw[A] at n;clear z A t x I K u y;generalize(fX (D.r1.map eO) D.c3 ⟨#[]⟩).2=d1 at C n ⊢;generalize(fX (D.r2.map eO) d1 ⟨#[]⟩).2=i at n ⊢;refine dX (parts (e:=D.E) e j f) fun a2 a3 a4 a5=> ?_
 have F:D.line.length≤100000:=by show(jO D.wd++ig D.dy++jP D.mo++D.E).length≤100000;rw[bH,bH,bH,e,f,j];exact aL (eK s 11) (by decide)
 have R:qs D.r1+qs D.r2≤1:=by
  have a6:qs D.r1≤1:=(pz (ui a.bw) e D.c2 0).2.1;have a7:qs D.r2≤1:=(pz (uj a.bm) f D.c2 1).2.1
  by_cases d:D.c2 / 4 % 2=0
  ·rw[show qs D.r2=0 from zT (by rw[d];decide)];exact a6
  ·rw[show qs D.r1=0 from zT d,mI];exact a7
 have S:=adg m
 have U:=ab1 (T:=T) W (b++ig D.dy++c++D.E++dM k) (by rw[bH,bH,bH,bH,j];exact aL (fY (fY (fY (lH g 5) h) s) S) (by decide)) (Px m L N R (wB D.dy).1 (zS D.yr D.hh D.mi D.se (zR a.bz)).1).2
 clear R;have o:D.jg[1]? =O (.lst (D.cs.map .int)):=rfl;have p:D.jg[10]? =O (.str (mk D.line)):=rfl;have r:D.jg.length=13:=rfl;generalize D.jg=v at o p r;generalize kl (b++ig D.dy++c++D.E++dM k)=a8 at U ⊢;have X:(v++[PV.str (mk b)]).length=14:=by rw[bH,r];rfl
 have Y:(v++[PV.str (mk b)] ++[PV.int i]).length=15:=by rw[bH,X];rfl
 have G:(v++[PV.str (mk b)] ++[PV.int i] ++[PV.str (mk c)]).length=16:=by rw[bH,Y];rfl
 exact .cons _ (OU P (by decide) C (by decide)) (adh r o p F a2 OV (OW (by decide+kernel))) V (.cons _ (OU Q (by decide) n (by decide)) (adi X (more (more o)) (more (more p)) F a3 OV (OW (by decide+kernel))) V
  (.cons bJ mF (adj G (more (more (more o))) B m) V (.cons _ (lx U (by decide)) (adk (by rw[bH,G];rfl) (more (more (more (more p)))) (more (more (more (zV r)))) (more (zV Y)) (zV G) F a4 a5 (aL g (by decide)) (aL h (by decide)) (aL S (by decide)) (by rw[j];decide) (aL s (by decide)) rS V) V .nil)))
end
end
section
open Classical
theorem zX{a:Expr}(h:bC c d e a=aF)(b:gK):∀x,HD a b x=pure x:=by
 have h:=qf h;intro x;cases a with
 |Set=>exact absurd h cM| _=>rfl
theorem Pz(ad:Str→aW)(h:∀n∈((scope.names.map (fun y=>(y.1,y.2== .free)) |>.filter (·.2) |>.map (·.1)):aD Str),env.cells.lookup n=O (ad n)):
  oE scope env=pure ((scope.names.map (fun y=>(y.1,y.2== .free)) |>.filter (·.2) |>.map (·.1)).foldl (fun r n=>(n,ad n)::r) []):=by
 unfold oE;generalize scope.names=ns at h
 have:∀(l:aD (Str×SP)) (acc:aD (Str×aW)),(∀n∈((l.map (fun y=>(y.1,y.2== .free)) |>.filter (·.2) |>.map (·.1)):aD Str),env.cells.lookup n=O (ad n))→(forIn l acc fun(x:Str×SP) r=>do
   if(x.2== .free)=aF then do let a ←cellOf env x.1;pure (Az ((x.1,a)::r))
   else pure (Az r))=(pure ((l.map (fun y=>(y.1,y.2== .free)) |>.filter (·.2) |>.map (·.1)).foldl (fun r n=>(n,ad n)::r) acc):cR _):=by
  intro l
  induction l with
  |nil=>intro acc _;rfl
  |cons y l ih=>
   intro acc h;refine M (wY ..) ?_;cases hy:y.2==ahd with
   |false=>
    rw[gJ,SQ (by simp[hy])] at h ⊢;exact ih acc h
   |true=>
    rw[gJ,Bu (by assumption),gJ] at h ⊢;rw[aS V,cellOf,h _ (iN ..),pure_bind,pure_bind];exact ih _ fun n hn=>h n (hX _ hn)
 have:=this ns [] h;simp only[bind_pure_comp] at this ⊢;refine M this ?_;rfl
theorem PA(h:a.names.all (fun y=>y.2 != .free)=aF):oE a b=pure [] :=by
 have e:(a.names.map (fun y=>(y.1,y.2== .free)) |>.filter (·.2) |>.map (·.1))=([] :aD Str):=by
  rw[List.filter_eq_nil_iff.mpr];rfl;intro y c;(refine aQ (iX.mp c) ?_;rintro z d rfl);have:=j2.mp h z d;unfold bne at this;cases q:z.2==ahd with
  |false=>exact cM|true=>replace this:=q▸this;cases this
 have:=Pz (scope:=a) (env:=b) (fun J=>0) (by refine M e ?_;intro n f;cases f);replace this:=e▸this;exact this
theorem PC(h:ES a=aF)(d:b.cells.lookup ("words":Str)=O c):oE a b=pure [(("words":Str),c)] :=by have e:=beq_iff_eq.mp (h:(_==_)=aF);have:=Pz (scope:=a) (env:=b) (fun J=>c) (by refine M e ?_;intro n f;refine M (fK.mp f) ?_;exact d);rw[e] at this;exact this
theorem Fi(h:a.scope=(aK 35).scope):uP scope a=oh scope:=by unfold uP oh GH;exact M h V
theorem wC(h:rR i x d=aF):d.kind= .function∧(∀y∈d.names,y.2≠ .cell)∧d.names.lookup x=O .local∧(∀y∈d.names,y.2= .local→d.names.lookup y.1=O .local)∧je (oh d) i=true:=by
 unfold rR at h;rw[hG,hG,hG,hG] at h;(refine xa h ?_;clear h;rintro⟨⟨⟨g,j⟩,c⟩,l⟩ m);have n:∀{a b:SP},(a !=b)=aF→a≠b:=fun{a b} h e=>by subst e;cases a<;>exact absurd h (by decide)
 refine⟨?_,fun y f=>n (j2.mp j y f),?_,fun y f o=> ?_,m⟩
 ·generalize d.kind=k at g;cases k<;>first |rfl |exact absurd g (by decide)
 ·generalize d.names.lookup x=k at c
  match k,c with
  |some k,c=>cases k<;>first |rfl |exact absurd c (by decide)
  |none,c=>exact absurd c (by decide)
 ·have:=j2.mp l y f;rw[o] at this;generalize d.names.lookup y.1=k at this
  match k,this with
  |some k,c=>cases k<;>first |rfl |exact absurd c (by decide)
  |none,c=>exact absurd c (by decide)
noncomputable def wD(z:Str):Nat:=z.cps.toList.headD 0
open Classical in
noncomputable def wE:bT:={gk:=ia,call:=fun f a=>if h:∃q,a=[.str (one q)] then(if f=aH "in_table_b1" then O (.bool (hO.any (· ==(h.choose:Z)))) else if f=aH "map_table_b3" then O (.str (lp h.choose)) else aB) else aB}
set_option tactic.hygienic true in
theorem szB(W:Wd w b mb h₀):om w b mb h₀ T wE:=by
 refine⟨rfl,fun f d y h=> ?_⟩;unfold wE at h;dsimp only at h
 split at h
 ·rename_i c
  refine M c.choose_spec ?_
  split at h
  ·rename_i a
   subst a;cases h;exact(ZP W _).up (by decide)
  ·split at h
   ·rename_i a
    subst a;cases h;exact(ZS W _).up (by decide)
   ·cases h
 ·cases h
theorem PD(h:∃p,[PV.str (one q)] =[PV.str (one p)]):h.choose=q:=(aR wD (PV.str.inj (xl h.choose_spec).1)).symm
theorem adm(q:aA):wD (one q)=q:=rfl
theorem adn(q:aA):wE.call (aH "in_table_b1") [.str (one q)] =O (.bool (hO.any (· ==(q:Z)))):=(AL ⟨q,rfl⟩).trans ((aS V).trans (by refine M (PD _) ?_;rfl))
theorem ado(q:aA):wE.call (aH "map_table_b3") [.str (one q)] =O (.str (lp q)):=(AL ⟨q,rfl⟩).trans ((aP (by decide+kernel)).trans ((aS V).trans (by refine M (PD _) ?_;rfl)))
noncomputable def Fj:PV→aU
 | .str z=>hO.any (· ==(wD z:Z)) !=aF| _=>aI
noncomputable def PF:PV→PV
 | .str z=> .str (lp (wD z))|p=>p
theorem adp(x:aD aA):((x.map fun q=>PV.str (one q)).filter Fj).map PF=((x.filter fun(c:aA)=> !hO.any fun y=>y==(c:Z)).map lp).map .str:=by
 induction x with
 |nil=>rfl
 |cons q x ih=>
  refine M gJ ?_
  have e:Fj (.str (one q))= !hO.any fun y=>y==(q:Z):=by show(_ !=aF)=_;refine M (adm ..) ?_;cases hO.any fun y=>y==(q:Z) <;>rfl
  cases hq:hO.any fun y=>y==(q:Z) with
  |true=>exact M (SQ (by refine M e (M hq ?_);decide)) (M (SQ (by refine M hq ?_;decide)) (M ih rfl))
  |false=>
   rw[Bu (by rw[e,hq];rfl),Bu (by rw[hq];rfl),gJ,gJ,gJ,ih];rfl
theorem PG(x:aD aA):mf ⟨#[]⟩ ((x.filter fun(c:aA)=> !hO.any fun y=>y==(c:Z)).map lp)=mk (dL x):=by
 refine fT <|M (v0 ..) ?_
 unfold dL;refine M j8 (M List.flatMap_def ?_);rfl
theorem PH(a:aG (aD PV))(l:aD Str)(h:(mf ⟨#[]⟩ l).length≤16777216):nK a "join" (.str (aH "")) [.lst (l.map .str)] =O (.str (mf ⟨#[]⟩ l)):=by
 have b:aH ""=(⟨#[]⟩:Str):=by decide+kernel
 refine(M (strs_map ..) (M (xI ..) ?_):(strs? _).bind _=_);rw[DK] at h;exact bB (by show _+_*0≤_;omega)
section
theorem ko.here(Y:ko w A c)(K:PK)(h:bF):ko w A (c.here K aB h):=⟨Y.W,Y.hh,Y.hd,Y.hu,⟨Y.H.scope,Y.H.sU,Y.H.globals,Y.H.builtins⟩⟩
theorem wF{K:PK}(Y:ko w A c)(G:Gd w c dA K m aB s n)(r:g.mu=aB)
  (h:∀a:Cx,a.env=c.env→a.T=c.T→ko w A a→Gd w a dA K m aB s n→aN (aO pg w) A (jl t a.env) (fun i e=>Out w a dA K aB s.heap i e .next g) (fun J J=>bO) s)
  (k:∀f u e,PK.le K f→Gd w c dA f u aB e g→KB c aB s.heap e.heap→(∀b,s.heap.get? b≠aB→b≠c.env.locals→K b=aB→f b=aB)→aN (aO pg w) A (eH v c.env) Q (fun J J=>bO) e):
  aN (aO pg w) A (eH (t::v) c.env) Q (fun J J=>bO) s:=by
 refine wpAny_execs_cons (wpAny_mono (h (c.here K aB s.heap) V rfl (Y.here K s.heap) G.here) (fun i x o=> ?_) fun J J q=>q.elim);obtain⟨y,B,j,C,l,I,rfl,d⟩:=o
 have D:j=none:=by
  cases j with
  |none=>rfl|some p=>exact absurd d.Mi (by refine M r ?_;intro z;cases z)
 subst D;exact k y B x C ⟨G.F.back d.F l,d.L,d.Mi,d.fl⟩ l fun J E F H=>tF d.F E F H
theorem adq(Y:ko w A c){K:PK}{st:bR}(sh:EQ st)(hl:l.length=18)(wG:l[17]? =O (.str (mk x)))(hx:x.length≤1000000)(hf:(dL x).length≤1000000)(G:Gd w c dA K m aB s (aX l)):
  aN (aO pg w) A (jl st c.env) (fun fl s'=>Out w c dA K aB s.heap fl s' .next (aX (l++[.str (mk (dL x))]))) (fun J J=>bO) s:=by
 obtain⟨q1,k,q2,apos,elt,px,it,iC,sc,pos,tZ,p,rfl,h1,h2,h3,h4,h5,h6⟩:=sh;refine jo (wC h1) fun g1 g2 g3 g4 g5=> ?_;have YB:=Y.y (szB (T:=c.T) Y.W);have uk:=Fi (scope:=sc) Y.H.scope;have G1:Gd w c dA K m aB {s with toks:=s.toks+1} (aX l):=⟨G.F.tok,G.L,G.Mi,G.fl⟩
 have X:pq w c K wE sc [] "sign" elt [iC] zD [] (x.map fun q=> .str (one q)) Fj PF (.call (aH "map_table_b3") (.cons (.nm 0) .nil)):=by
  refine⟨by refine M uk ?_;exact g5,rfl,fun i y k p J e2=>by simp at e2,fun p hp=> .inr ⟨iC,_,rfl,by refine M uk ?_;exact h5,?_⟩,by refine M uk ?_;exact h4,fun p hp J=> ?_⟩
  ·(refine aQ (iX.mp hp) ?_;rintro q _ rfl);refine M (cK (fO (bW (x:= .str (one q)) V iw) V (adn q)) (y:= .bool aF) V (z:= .bool (hO.any (· ==(q:Z)) !=aF)) V) ?_;rfl
  ·(refine aQ (iX.mp hp) ?_;rintro q _ rfl);exact fO (bW (x:= .str (one q)) V iw) V (ado q)
 have adr:Src w A c K m aB {s with toks:=s.toks+1} it (x.map fun q=> .str (one q)):=ack YB h3 (x:=mk x) (dT wG) G1;have PI:=EF (pos:=pos) (px:=px) (x:="sign") YB (PA h2) g1 g2 g3 g4 (zX h3 c.env) (by refine M (bQ ..) ?_;exact hx) X adr;rw[adp] at PI;have rD:∀{o:Expr} {args:aD Expr} (line:aA) (t:aG Expr),uA (.Call o args [] tZ) t line c.env=pure false:=fun J J=>rfl;have Cu:AQ (.Constant (.str (aH "")) k q2) (aH "join") c.env (eval (.Constant (.str (aH "")) k q2) c.env)=eval (.Constant (.str (aH "")) k q2) c.env:=rfl;have EB:∀{e:Expr} (he:dG [e] c.env=[(aI,eval e c.env)]),((jD tZ (dG [e] c.env)).all (fun x=> !x.1) && (backToKw tZ (keywordEach [] c.env)).all (fun x=>x.1.isSome) && decide ([e].length+([] :aD GC).length+(if([] :aD GC).isEmpty then 0 else 1) < 30))=true:=fun he=>by refine M he ?_;rfl
 with_reducible refine iY ?_ (rD _ _)
 with_reducible refine sr Cu (EB (by with_unfolding_all rfl)) h6 ?_
 with_reducible refine sp ?_
 (refine iQ (II (w:=w) (A:=A) (c:=c) (m:=m) (mu:=aB) (PH aB ((x.filter fun(c:aA)=> !hO.any fun y=>y==(c:Z)).map lp) (by refine M (PG ..) (M (cZ ..) ?_);exact aL hf (by decide)))) ?_;rintro T id m1 m2);(refine dX m1 ?_;clear m1;rintro e1 e2 e3 e45);refine xa (e45 {s with toks:=s.toks+1} (RV.str (w:=w) (K:=K) (ma:=aB) (t:=s.toks))) fun e4 e5=>⟨T,id,e1,e2,e3,e4,e5,ny V (iI (by intro e;cases e) V (iG (wpAny_mono PI (fun v s1 h1=> ?_) fun J J e=>e.elim) V))⟩;obtain⟨K1,k1,F1,b1,r1⟩:=h1;refine jE (wpAny_mono (m2 F1 (.str) (.cons r1 .nil)) (fun v2 s2 h2=> ?_) fun J J e=>e.elim);obtain⟨K2,k2,F2,b2,r2⟩:=h2;rw[PG] at r2;refine kC (i:=18) (p:= .str (mk (dL x))) (G.of (k1.trans k2) F2) Y.H (by decide+kernel) r2 fun s3 G3 th=> ?_;rw[rU hl (by decide)] at G3;exact jw (k1.trans k2) ((b1.trans b2).trans th) .refl G3
end
end
section
section
structure Slots(D:bU)(l:aD PV):Prop where
 cs:l[1]? =O (.lst (D.cs.map .int))
 ds:l[2]? =O (.lst (cF.map .str))
 ms:l[3]? =O (.lst (cH.map .str))
 wd:l[4]? =O (.int D.wd)
 yr:l[5]? =O (.int D.yr)
 mo:l[6]? =O (.int D.mo)
 dy:l[7]? =O (.int D.dy)
theorem Slots.more(h:Slots D l):Slots D (l++[x]):=⟨gN.more h.cs,gN.more h.ds,gN.more h.ms,gN.more h.wd,gN.more h.yr,gN.more h.mo,gN.more h.dy⟩
theorem ads(D:bU):Slots D D.jg:=⟨rfl,rfl,rfl,rfl,rfl,rfl,rfl⟩
theorem Slots.day(h:Slots D l)(O0:D.Ok)(P:bT):ev P (aX l) (.sub (.nm 2) (.nm 4))=O (.str (gN.mk (jO D.wd))):=hZ (dT h.ds) (dT h.wd) (by exact aT (ue _ _:cF.getD D.wd ⟨#[]⟩=gN.mk (jO D.wd)) <|og (by decide) (by refine M io (M (fD (O0.bw:D.wd < cF.length)) ?_);rfl))
theorem Slots.mon(h:Slots D l)(O0:D.Ok)(P:bT):ev P (aX l) (.sub (.nm 3) (.nm 6))=O (.str (gN.mk (jP D.mo))):=hZ (dT h.ms) (dT h.mo) (by exact aT (ue _ _:cH.getD D.mo ⟨#[]⟩=gN.mk (jP D.mo)) <|og (by decide) (by refine M io (M (fD (O0.bm:D.mo < cH.length)) ?_);rfl))
theorem Slots.cell(h:Slots D l)(P:bT)(k:aA)(x:Z)(a:D.cs[k]? =O x):ev P (aX l) (.sub (.nm 1) (.int (k:Z)))=O (.int x):=rV D (dT h.cs) k x a
theorem wH(r:Row):(lcs r).length≤r.length:=by unfold lcs;exact M (bQ ..) <|ag0 ..
theorem PJ(a:k < 5):(iL k).length≤3:=(Pu a).2
theorem Fk(e:∀c∈a,Let c)(f:a.length=3)(b d:Z):(lcs (jS a b d)).length≤4:=aL (wH _) (pz e f b d).2.2
theorem PL{d g:E}(h:∀c∈a,Let c)(e:a.length=3)(j:ev P (aX l) d=O (.str (mk a)))(k:ev P (aX l) g=O (.int b))
  (f:P.call (aH "_law_harmed") [.str (mk (a.map bA)),.int b,.int which,.bool aI] =O (.lst ((nX (rowOf (mk (a.map bA))) b which aI).map .str))):
  ev P (aX l) (.dH "join" (.str (aH "")) (.cons (.call (aH "_law_harmed") (.cons (.dH "lower" d .nil) (.cons g (.cons (.int which) (.cons (.bool aI) .nil))))) .nil))=O (.str (mk (lcs (jS a b which)))):=by
 refine xa (ac9 e b which) fun m q=> ?_
 have n:cD (mk a)=mk (a.map bA):=E8 fun c f=>by have:=h c f;unfold Let at this;exact Tc this
 have o:ev P (aX l) (.dH "lower" d .nil)=O (.str (mk (a.map bA))):=lf j iw (by exact aT n <|bB (by refine M (cZ ..) ?_;exact aL (cI e) (by decide)))
 have p:=fO (bW o (bW k (bW (a:= .int which) (x:= .int which) (by rfl) (bW (a:= .bool aI) (x:= .bool aI) (by rfl) iw)))) (by rfl) f;have i:mf ⟨#[]⟩ (nX (rowOf (mk (a.map bA))) b which aI)=mk (lcs (jS a b which)):=fT (M (v0 ..) (M m V));refine lf (x:= .str (aH "")) (by rfl) (bW p iw) <|aT i ?_
 refine PH _ _ <|M i (M (cZ ..) ?_)
 have:=Fk h e b which;exact aL this (by decide)
theorem adt(W:Wd w g mb h₀)(D:bU)(a:D.Ok){k:aA}(h:k < 5)(s:D.c5 % 5=((k:aA):Z))(d:l.length=19)(b:Slots D l)(t:l[11]? =O (.str (mk (ig D.dy))))(v:l[12]? =O (.str (mk D.E)))
  (y:l[18]? =O (.str (mk (lcs D.r1++(ig D.dy).map bA++lcs D.r2++D.E.map bA++iL k)))):
  lz w g mb h₀ T [OM,ON,zB] (aX l) (aX (l++[.str (mk (lcs D.r1))] ++[.str (mk (lcs D.r2))])):=by
 have e:=ub a.bw;have f:=uc a.bm;have z:=y8 (T:=T) W (mk ((jO D.wd).map bA)) (M (cZ ..) (M (bQ ..) (M e V))) D.c2 0 aI;have A:=y8 (T:=T) W (mk ((jP D.mo).map bA)) (M (cZ ..) (M (bQ ..) (M f V))) D.c2 1 aI;refine .cons _ (lx z (by decide)) (ud (i:=19) d (by decide) (PL (which:=0) (ui a.bw) e (b.day a _) (b.cell _ 2 D.c2 V) rS) V) V <| .cons _ (lx A (by decide)) (ud (i:=20) (by refine M bH (M d ?_);rfl) (by decide) (PL (which:=1) (uj a.bm) f (b.more.mon a _) (b.more.cell _ 2 D.c2 V) rS) V) V ?_
 have B:D.E.length≤40:=by have:=Fh (y:=D.yr) (h:=D.hh) (m:=D.mi) (s:=D.se) (z:=gX D.zi) a.lB (by have:=a.bh;exact bK this (by decide)) (by have:=a.bi;exact bK this (by decide)) (by have:=a.bs;exact bK this (by decide)) (rT a.bz);exact this
 have C:=zS D.yr D.hh D.mi D.se (zR a.bz);have E:=wB D.dy;have F:=Fg (d:=D.dy) (by have:=a.bd;exact bZ this.2 (by decide));have G:(l++[PV.str (mk (lcs D.r1))]).length=20:=by refine M bH (M d ?_);rfl
 have i:(l++[PV.str (mk (lcs D.r1))] ++[PV.str (mk (lcs D.r2))])[19]? =O (.str (mk (lcs D.r1))):=more (by refine aT d ?_;simp);have j:(l++[PV.str (mk (lcs D.r1))] ++[PV.str (mk (lcs D.r2))])[20]? =O (.str (mk (lcs D.r2))):=by refine aT G ?_;simp
 have m:=more (y:= .str (mk (lcs D.r2))) (more (y:= .str (mk (lcs D.r1))) t);have n:=more (y:= .str (mk (lcs D.r2))) (more (y:= .str (mk (lcs D.r1))) v);have o:=more (y:= .str (mk (lcs D.r2))) (more (y:= .str (mk (lcs D.r1))) y);have p:=(b.more (x:= .str (mk (lcs D.r1)))).more (x:= .str (mk (lcs D.r2)));show lz w g mb h₀ T [zB] (aX (l++[PV.str (mk (lcs D.r1))] ++[PV.str (mk (lcs D.r2))])) _;generalize l++[PV.str (mk (lcs D.r1))] ++[PV.str (mk (lcs D.r2))] =u at m n o i j p ⊢;refine .cons bJ mF (eJ:=aX u) ?_ V .nil
 have H:ev bJ (aX u) (.dH "lower" (.nm 12) .nil)=O (.str (mk (D.E.map bA))):=lf (dT n) iw (by exact aT (E8 (l:=D.E) (fun c I=>(C.1 c I).1)) <|bB (by refine M (cZ ..) ?_;exact aL B (by decide)))
 have q:=lU (b:=5) (p.cell bJ 5 D.c5 V) (by decide) (by decide);rw[s] at q;have r:=E6 (l:=zA) q (by decide) h;rw[ue,show(zA.getD k ⟨#[]⟩).cps.toList=iL k from rfl] at r;have K:(lcs D.r1).length≤4:=Fk (ui a.bw) e _ _;have N:(lcs D.r2).length≤4:=Fk (uj a.bm) f _ _
 have L:=on (on (on (on (dT i) (dT m) (BB K (cI F) (by decide))) (dT j) (by simp only[bH];lia)) H (by simp only[bH,bQ];lia)) r (by
  have:=PJ h;simp only[bH,bQ]
  lia)
 refine(show ex bJ zB (aX u)=bE bJ .nil (aX u) from nR (x:= .bool aI) (cK (dT o) L (OZ ?_)) V).trans rfl;exact M E.2 V
end
end
section
open Builtin Builtin.Str
noncomputable def occs:aD aA→aA→aD aA
 |[],_=>[]|c::r,i=>if c=32 then i::occs r (i+1) else occs r (i+1)
noncomputable def ij:aD aA→aD aA→aD (aD aA)
 |acc,[] =>[acc]|acc,c::r=>if c=32 then acc::ij [] r else ij (acc++[c]) r
theorem zY:occs (c::r) i=if c=32 then i::occs r (i+1) else occs r (i+1):=rfl
theorem zZ:ij a (c::r)=if c=32 then a::ij [] r else ij (a++[c]) r:=rfl
theorem adu(p q:aD aA)(c:aA):subAt (mk (p++c::q)) (mk [32]) p.length=decide (c=32):=by
 refine M (StrLaws.subAt_eq ..) ?_;show(((p++c::q).drop p.length).take 1==[32])=_
 by_cases h:c=32<;>simp[h]
theorem PM:∀(q p:aD aA) (l:aD aA) (found:eW aA) (free:aA),l=p++q→free≤p.length→found.size≤p.length→
  (forIn (qM p.length (q.length+1)) (found,free) (Bw (mk l) (mk [32]) l.length (l.length+1))).run.fst.toList=found.toList++occs q p.length
 |[],p,l,found,free,hl,_,_=>by subst hl;refine M xd (M ahe (M (wY ..) ?_));unfold Bw;exact M (aP (by intro h;have:=h.1.2;simp at this;have e:(mk [32]).length=1:=rfl;lia)) <|(jT _).symm
 |c::r,p,l,found,free,hl,h1,h2=>by
  have hlen:l.length=p.length+(r.length+1):=by refine M hl ?_;exact bH
  have ih:=fun fo fr hf hs=>PM r (p++[c]) l fo fr (by refine M hl ?_;simp) hf hs;(replace ih:=bH▸ih;replace ih:=HG▸ih);(refine M j3 (M ahe (M (wY ..) ?_));rewrite[zY]);unfold Bw;have e:(mk [32]).length=1:=rfl;have yu:subAt (mk l) (mk [32]) p.length=decide (c=32):=by refine M hl ?_;exact adu p r c
  by_cases hc:c=32
  ·refine M (aS ⟨⟨⟨by show found.size < _;lia,h1⟩,by lia⟩,by refine M yu (M hc ?_);rfl⟩) (M (aS hc) ?_);have:=ih (found.push p.length) (p.length+1) (cA _) (by refine M (Array.size_push ..) ?_;exact sF h2);unfold Bw at this;refine this.trans <|M RE (M (eZ ..) ?_)
   rfl
  ·refine M (aP (by intro h;have:=h.2;replace this:=yu▸this;exact hc (kQ this))) (M (aP hc) ?_);have:=ih found free (nB h1) (nB h2);unfold Bw at this;exact this
theorem PN(l:aD aA):occurrences (mk l) (mk [32]) 0 (mk l).length ((mk l).length+1)=occs l 0:=by refine M (StrLaws.occ_eq ..) (M (cZ ..) ?_);have:=PM l [] l #[] 0 rfl (cA _) (cA _);simpa using this
theorem strSub_mk(p a q:aD aA):strSub (mk (p++a++q)) p.length (p.length+a.length)=mk a:=by
 refine fT <|M (agq ..) ?_
 exact(M (eZ ..) (M List.drop_left (M (qA ..) (M List.take_left V))):((p++a++q).drop p.length).take (p.length+a.length - p.length)=a)
theorem Fn:∀(q p a:aD aA) (l:aD aA),l=p++a++q→ahf (mk l) 1 p.length (occs q (p.length+a.length))=(ij a q).map mk
 |[],p,a,l,b=>by
  (refine(?_:[strSub (mk l) p.length (mk l).length] =[mk a]);refine M (cZ ..) ?_)
  have:=strSub_mk p a [];rw[jT] at this;exact M b (M (jT ..) (M (bH:(p++a).length=p.length+a.length) (M this rfl)))
 |c::r,p,a,l,b=>by
  rw[zY,zZ]
  by_cases d:c=32
  ·(refine M (aS d) (M (aS d) ?_);refine(?_:strSub (mk l) p.length (p.length+a.length)::ahf (mk l) 1 (p.length+a.length+1) (occs r (p.length+a.length+1))=mk a::(ij [] r).map mk));have:=strSub_mk p a (c::r);rw[←b] at this;refine M this ?_;have ih:=Fn r (p++a++[c]) [] l (by refine M b ?_;simp);have e:(p++a++[c]).length=p.length+a.length+1:=by simp;exact rfl
   rw[e,xd,si] at ih;exact M ih rfl
  ·refine M (aP d) (M (aP d) ?_);have ih:=Fn r p (a++[c]) l (by refine M b ?_;simp);rw[bH,HG,←ik] at ih;exact ih
theorem wI:∀(a b r:aD aA),(∀c∈a,c≠32)→ij b (a++32::r)=(b++a)::ij [] r
 |[],b,r,_=>by(refine M (qQ ..) ?_;rewrite[zZ];exact M (aS V) (M (jT ..) V))
 |c::a,b,r,h=>by(refine M qR ?_;rewrite[zZ];refine M (aP (h c (iN ..))) (M (wI a _ r fun x d=>h x (hX _ d)) (M (eZ ..) ?_)));rfl
theorem Aa:∀(q a:aD aA),(ij a q).length≤q.length+1
 |[],a=>cA _
 |c::r,a=>by
  rw[zZ]
  split
  ·have:=Aa r [];refine M j3 (M j3 ?_);exact sF this
  ·have:=Aa r (a++[c]);refine M j3 ?_;exact nB this
theorem PO:∀(a r:aD aA) (i:aA),(occs (a++32::r) i).isEmpty=aI
 |[],r,i=>by(refine M (qQ ..) ?_;rewrite[zY];refine M (aS V) ?_);rfl
 |c::a,r,i=>by
  (refine M qR ?_;rewrite[zY])
  split
  ·rfl
  ·exact PO a r (i+1)
theorem adv(h:(a++32::r).length≤900)(g:aG (aD PV)):nK g "split" (.str (mk (a++32::r))) [.str (aH " ")] =O (.lst (((ij [] (a++32::r)).map mk).map .str)):=by
 have i:aH " "=mk [32] :=by decide+kernel
 refine M i ?_;generalize b:a++32::r=x at h ⊢;have j:∀y,1≤Str.strKind y:=fun y=>by unfold Str.strKind;split<;>(try split) <;>decide
 have c:(decide ((mk x).length < (mk [32]).length) ||decide (Str.strKind (mk x) < Str.strKind (mk [32])))=false:=by
  have e:(mk [32]).length=1:=rfl;have k:Str.strKind (mk [32])=1:=by decide+kernel
  have:=j (mk x);have l:1≤(mk x).length:=by refine M (cZ ..) (aT b ?_);simp;exact ox _ _
  exact iR xj <|⟨eP (As (aL (by decide) l)),eP (As (aL (cI k) this))⟩
 have d:(occurrences (mk x) (mk [32]) 0 (mk x).length ((mk x).length+1)).isEmpty=false:=by refine M (PN ..) (aT b ?_);exact PO a r 0
 have f:partsBetween (mk x) (occurrences (mk x) (mk [32]) 0 (mk x).length ((mk x).length+1)) (mk [32]).length=(ij [] x).map mk:=by refine M (StrLaws.partsBetween_eq ..) (M (PN ..) ?_);exact Fn x [] [] x V
 have m:Txt.split (mk x) (mk [32])=(ij [] x).map mk:=by unfold Txt.split;exact M (aP (by refine M c ?_;decide)) (M (aP (by refine M d ?_;decide)) (M f V))
 refine aT m <|bB ⟨by rfl,c,d,by refine M (cZ ..) ?_;exact aL h (by decide),?_⟩
 refine M f (M (bQ ..) ?_);have:=Aa x [];exact aL this (nF (bZ h (by decide)))
end
section
open Classical
section
theorem adw(Y:ko w A c){K:PK}{st:bR}(y:ER st)(B:l.length=21)(C:l[18]? =O (.str (mk (a++32::r))))(D:(a++32::r).length≤900)
  (h:c.env.cells.lookup ("words":Str)=O d) (E:c.env.kindOf ("words":Str)=O .cell) (F:K d=aB) (f:d≠c.env.locals) (j:c.hE.get? d=aB) (k:s.heap.get? d=O o) (H:o.data= .cell ab) (G:Gd w c dA K m aB s (aX l)):
  aN (aO pg w) A (jl st c.env) (fun I L=>I= .next∧∃n,PK.le K n∧Gd w c dA n m aB L (aX (l++[.lst (((ij [] (a++32::r)).map mk).map .str)]))) (fun J J=>bO) s:=by
 obtain⟨q,ae,p,rfl,t⟩:=y;have N:=Y.y (mF (T:=c.T));have P:=qh t (O (.Name ("words":Str) q)) p.line c.env;have Q:ev bJ (aX l) (.dH "split" (.nm 18) (.cons (.str (aH " ")) .nil))=O (.lst (((ij [] (a++32::r)).map mk).map .str)):=lf (dT C) (bW (x:= .str (aH " ")) V iw) (adv D _);have R:=G.F.off j
 with_reducible refine iY ?_ P
 refine nU N t Q G fun S T u v U W X a0=> ?_;have a1:S d=none:=a0 d (by refine M k ?_;intro z;cases z) f F;have a2:u.heap.get? d=O o:=W d o k f (by intro z;cases z) R;refine A4 Y.H.kind E h ⟨o,a2,H⟩ fun af x a3=>⟨rfl,?_⟩;(refine aQ x ?_;clear x;rintro a4 a5 a6);obtain⟨g,a7⟩:=U.cell (tk:=u.toks) a1 f (by intro z;cases z) j a3 a5;refine⟨_,v.trans g,a7,?_,.none,G.fl⟩;intro i a8 a9 p e b;have a':(aX l).put 21 (.lst (((ij [] (a++32::r)).map mk).map .str))=aX (l++[.lst (((ij [] (a++32::r)).map mk).map .str)]):=rU B (by decide);replace b:=Eq.symm a'▸b;replace b:((aX l).loc.set 21 (O (.lst (((ij [] (a++32::r)).map mk).map .str))))[i]? =O (O p):=b;replace b:=List.getElem?_set▸b
 split at b
 ·rename_i aa
  subst aa;have:dA[21]? =O (aH "words",aI):=rfl;replace e:=this▸e;cases e
  split at b
  ·cases b;exact⟨d,a4,T,h,PK.jr,a6,X.mono g⟩
  ·cases b
 ·exact(G.L.mono (v.trans g)) i a8 a9 p e b
theorem adx{K:PK}(a:l[21]? =O (.lst b))(G:Gd w c dA K m aB s (aX l)):∃d o v,c.env.cells.lookup ("words":Str)=O d∧K d=O o∧o.data= .cell (O v)∧RV w K aB v (.lst b):=by refine G.L 21 (aH "words") aI (.lst b) V ?_;have e:21 < l.length:=(md.mp a).1;refine(M (sx (by simpa using e)) (M im (M a ?_)):(l.map O++dU (27 - l.length) aB)[21]? =_);rfl
noncomputable def Fo:PV→Str
 | .str z=>z| _=>⟨#[]⟩
theorem ady(l:aD Str):∀p∈l.map PV.str,∃z∈l,p= .str z∧Fo p=z:=fun p a=>aQ (iX.mp a) fun z b e=>⟨z,b,e.symm,by refine aT e ?_;rfl⟩
theorem PP{w:aV}{A:bX}{c:Cx}{P:bT}(Y:ko w A c)(Q:om w c.mg c.mb c.h₀ c.T P){K:PK}{m:Str→aG aJ}{s:aM}{l:aD PV}{d:aD PV}{g:aD Str}{e:E}{j:Expr}{b:dO}{f:Str→PV}(t:l[21]? =O (.lst d))(G:Gd w c dA K m aB s (aX l))(u:rR rQ "name" b=aF)(x:bC (oh b) rQ e j=aF)
  (B:∀z∈g,ev P {loc:=[O (.str z),O (.lst d)]} e=O (f z)):∃n,c.env.cells.lookup ("words":Str)=O n∧pq w c K P b [(("words":Str),n)] "name" j [] rQ [O (.lst d)] (g.map .str) (fun J=>aF) (fun p=>f (Fo p)) e:=by
 refine nJ (adx t G) fun q o v C D F H=> ?_;have r:=Fi (scope:=b) Y.H.scope;refine jo (wC u) fun J J J J I=>⟨q,C,by refine M r ?_;exact I,rfl,fun i y k p h a=> ?_,fun p J=> .inl ⟨rfl,rfl⟩,by refine M r ?_;exact x,fun p L J=> ?_⟩
 ·match i,h,a with
  |0,h,a=>
   cases h;cases a;exact⟨rfl,q,o,v,rfl,D,F,H⟩
  |i+1,_,a=>cases a
 ·(refine dB (ady g p L) ?_;rintro z N rfl R);exact B z N
theorem Fp(l:aD PV):l.filter (fun J=>aF)=l:=ahg.mpr fun J J=>rfl
theorem PQ{w:aV}{A:bX}{c:Cx}{P:bT}(Y:ko w A c)(hP:om w c.mg c.mb c.h₀ c.T P){K:PK}{m:Str→aG aJ}{s:aM}{l:aD PV}{ws:aD PV}{ns:aD Str}{y:Str}{i j:aA}{e:E}{st:bR}{f:Str→PV}(sh:zF y i e st)(hl:l.length=j)(hj:j < 27)(hy:okN dA j y=aF)(hkl:c.env.kindOf y=O .local)(wJ:l[21]? =O (.lst ws))(hi:l[i]? =O (.lst (ns.map .str)))(po:ns.length≤100)(G:Gd w c dA K m aB s (aX l))
  (pk:∀z∈ns,ev P {loc:=[O (.str z),O (.lst ws)]} e=O (f z)):
  aN (aO pg w) A (jl st c.env) (fun fl s'=>Out w c dA K aB s.heap fl s' .next (aX (l++[.lst (ns.map f)]))) (fun J J=>bO) s:=by
 obtain⟨py,elt,px,it,sc,pos,p,rfl,h1,h2,h3,h4,h5,h6⟩:=sh;refine jo (wC h1) fun g1 g2 g3 g4 g5=> ?_;have YP:=Y.y hP;refine aQ (PP Y hP wJ G h1 h4 pk) fun cw wK X=> ?_
 have hsw:uA (.ListComp elt [⟨.Name ("name":Str) px,it,[],0⟩] sc pos) (O (.Name y py)) p.line c.env=pure true:=by
  refine(M hkl (M h5 (M h6 ?_)):(pure (c.env.blockKind== .function && c.env.kindOf y==O .local && py.line==pos.line && !(sc.names.any fun(n,k)=>n==y && (k== .local ||k== .cell))):cR aU)=pure aF)
  have:c.env.blockKind= .function:=by unfold afh;refine M Y.H.kind ?_;rfl
  refine M this ?_;rfl
 have:=acl (x:="name") (px:=px) (py:=py) (pos:=pos) (spos:=p) YP hy hsw (PC h2 wK) g1 g2 g3 g4 (zX h3 c.env) (by refine M (bQ ..) ?_;exact aL po (by decide)) X G (EG YP h3 (dT hi) G);rw[Fp,j8,rU hl hj] at this;exact this
end
end
section
open Classical
section
theorem ints_of{K:PK}:∀{c:aD aJ},bL w K c (d.map .int)→iZ c d:=by
 induction d with
 |nil=>intro c h;refine M (bL.nil_inv h) ?_;exact .nil
 |cons x d ih=>
  intro c h;(refine cS (bL.mr h) ?_;rintro v e rfl a b);(refine xe a.int_inv ?_;rintro t rfl);exact .cons _ t (ih b)
noncomputable def jA(a:Z):Int:=if 4 < a then 4 else a
noncomputable def PR:PV→PV
 | .int a=> .int (jA a)|p=>p
theorem PT{w:aV}{A:bX}{c:Cx}{P:bT}(Y:ko w A c)(hP:om w c.mg c.mb c.h₀ c.T P){K:PK}{m:Str→aG aJ}{s:aM}{l:aD PV}{ws:aD PV}{ns:aD Str}{ps:aD Z}{i j:aA}{e:E}{st:bR}{g:Str→Z}(sh:zG i j e st)(wJ:l[21]? =O (.lst ws))(hi:l[i]? =O (.lst (ps.map .int)))(hj:l[j]? =O (.lst (ns.map .str)))
  (hps:ps.length≤100) (po:ns.length≤100) (G:Gd w c dA K m aB s (aX l)) (pk:∀z∈ns,ev P {loc:=[O (.str z),O (.lst ws)]} e=O (.int (g z))) (heq:ps.map jA=ns.map g):
  aN (aO pg w) A (jl st c.env) (fun fl s'=>Out w c dA K aB s.heap fl s' .next (aX l)) (fun J J=>bO) s:=by
 obtain⟨elt,px,it,sc,pos,ET,EU,EV,wr,EW,pc,b,p,rfl,h1,h2,h3,h4,k1,k2,k3,k4⟩:=sh;refine jo (wC h1) fun g1 g2 g3 g4 g5=>jo (wC k1) fun q1 q2 q3 q4 q5=> ?_;have Y0:=Y.y (mF (T:=c.T));have YP:=Y.y hP;have uk:=Fi (scope:=sc) Y.H.scope
 have X:pq w c K bJ sc [] "price" elt [] EP [] (ps.map .int) (fun J=>aF) PR OS:=by refine⟨by refine M uk ?_;exact g5,rfl,fun i y k p J e2=>by simp at e2,fun p J=> .inl ⟨rfl,rfl⟩,by refine M uk ?_;exact h4,fun p hp J=> ?_⟩;(refine aQ (iX.mp hp) ?_;rintro a _ rfl);exact iU (bW (x:= .int a) V (bW (x:= .int 4) V iw)) V
 have c1:=EF (pos:=pos) (px:=px) (x:="price") Y0 (PA h2) g1 g2 g3 g4 (zX h3 c.env) (by refine M (bQ ..) ?_;exact aL hps (by decide)) X (EG Y0 h3 (dT hi) G);rw[Fp,j8,show(PR ∘ PV.int)=(PV.int ∘ jA) from rfl,←j8] at c1
 with_reducible refine mO ?_
 with_reducible refine GN ?_ V
 refine wpAny_mono c1 (fun v s1 o1=> ?_) fun J J e=>e;obtain⟨K1,e1,F1,b1,r1⟩:=o1;have G1:Gd w c dA K1 m aB s1 (aX l):=G.of e1 F1;refine aQ (PP (f:=fun z=> .int (g z)) Y hP wJ G1 k1 k4 pk) fun cw wK X2=> ?_;have c2:=EF (pos:=EW) (px:=EU) (x:="name") YP (PC k2 wK) q1 q2 q3 q4 (zX k3 c.env) (by refine M (bQ ..) ?_;exact aL po (by decide)) X2 (EG YP k3 (dT hj) G1);refine wpAny_mono c2 (fun v2 s2 o2=> ?_) fun J J e=>e;obtain⟨K2,e2,F2,b2,r2⟩:=o2;rw[Fp,j8,show((fun p=>PV.int (g (Fo p))) ∘ PV.str)=(PV.int ∘ g) from rfl,←j8] at r2;(refine ip ((r1.mono e2).lst_inv) ?_;rintro a1 o1 adz n1 rfl x1 x2 x3 x4);(refine ip r2.lst_inv ?_;rintro a2 o2 adA n2 rfl y1 y2 y3 y4);have hu:=Y.hu;refine ke_ne_ints (xs:=adz.toList) (ys:=adA.toList) ⟨o1,F2.keep _ _ x1,x2,n1,by simpa using x3⟩ ⟨o2,F2.keep _ _ y1,y2,n2,by simpa using y3⟩ (ints_of x4) (ints_of y4) (bZ (eK (by decide) _) (bK hu (by decide)):A.units+64 < 9900) <|M heq (M (fM V) ?_)
 exact qZ (K:=K2) (mu:=aB) (x:= .bool aI) V .bool fun tk=>wpAny_execs_nil <|jw (e1.trans e2) (b1.trans b2) .refl (G.of (e1.trans e2) F2.tok)
end
end
section
theorem PU{a:aG (aD PV)}{l:aD Z}{k:aA}(b:l.length≤1000)(h:k < l.length):jq a (.lst (l.map .int)) (.int (k:Z))=O (.int (l.getD k 0)):=get_map .int 0 (cW _) (dN.mpr h) b
noncomputable def eT(l:aD PV)(L:aD PV)(a b:aG PV):Sg:={loc:=l.map O++[O .bV,a,b],mu:=O L,pl:=aF}
noncomputable def Fq:B:= .cons (.ite (.bo .And (.cons (.cmp .LtE (.bin .Add (.sub (.nm 22) (.nm 25)) (.sub (.nm 23) (.nm 26))) (.int 4)) (.cons (.cmp .Eq (.call (aH "_law_weekday") (.cons (.nm 5) (.cons (.nm 26) (.cons (.nm 7) (.cons (.nm 1) .nil))))) (.nm 25)) .nil))) (.cons (.app 24 (.tup (.cons (.nm 25) (.cons (.nm 26) .nil)))) .nil) .nil) .nil
section
theorem wL(h:l[k]? =O x)(d:l.length=24):ev P (eT l L a b) (.nm k)=O x:=by
 have c:k < l.length:=(md.mp h).1
 have:(eT l L a b).loc[k]? =O (O x):=by refine(M (sx (by refine M (bQ ..) ?_;exact c)) (M im (M h ?_)):(l.map O++[O .bV,a,b])[k]? =_);rfl
 exact aR jb this
theorem adB(a:l.length=24):ev P (eT l L (O x) b) (.nm 25)=O x:=by
 have:(eT l L (O x) b).loc[25]? =O (O x):=by refine(M (pM (by refine M (bQ ..) (M a ?_);decide)) (M (bQ ..) (M a ?_)):(l.map O++[O .bV,O x,b])[25]? =_);rfl
 exact aR jb this
theorem adC(a:l.length=24):ev P (eT l L b (O x)) (.nm 26)=O x:=by
 have:(eT l L b (O x)).loc[26]? =O (O x):=by refine(M (pM (by refine M (bQ ..) (M a ?_);decide)) (M (bQ ..) (M a ?_)):(l.map O++[O .bV,b,O x])[26]? =_);rfl
 exact aR jb this
theorem adD(a:l.length=24):(eT l L b c).put 26 x=eT l L b (O x):=by
 unfold eT Sg.put
 congr 1
 refine M (uN _ _ (by refine M (bQ ..) (M a ?_);decide)) (M (bQ ..) (M a ?_));rfl
theorem adE(a:l.length=24):(eT l L c b).put 25 x=eT l L (O x) b:=by
 unfold eT Sg.put
 congr 1
 refine M (uN _ _ (by refine M (bQ ..) (M a ?_);decide)) (M (bQ ..) (M a ?_));rfl
theorem adF(c:l.length=24)(h:ev P (eT l L a b) e=O x)(d:jv x=O x)(f:L.length≤1000000):ex P (.app 24 e) (eT l L a b)=O (.next,eT l (L++[x]) a b):=by
 have g:jI (eT l L a b) 24=true:=by
  unfold jI
  have:(eT l L a b).loc[24]? =O (O .bV):=by refine(M (pM (by refine M (bQ ..) (M c ?_);decide)) (M (bQ ..) (M c ?_)):(l.map O++[O .bV,a,b])[24]? =_);rfl
  exact M this rfl
 exact yz (xs:=L) (by refine M g ?_;rfl) h d V f
structure Ab(P:bT)(l:aD PV)(ps qs:aD Z)(cs:PV)(y d:Z)(wd:aA→Z)(w mo:aA):Prop where
 hl:l.length=24
 hp:ps.length=7
 hq:qs.length=12
 h1:l[1]? =O cs
 h5:l[5]? =O (.int y)
 h7:l[7]? =O (.int d)
 Fs:l[22]? =O (.lst (ps.map .int))
 Ft:l[23]? =O (.lst (qs.map .int))
 call:∀i j:aA,i < 7→j < 12→ps.getD i 0+qs.getD j 0≤4→P.call (aH "_law_weekday") [.int y,.int (j:Z),.int d,cs] =O (.int (wd j))
 ncs:∃xs,cs= .lst xs
 one:∀i j:aA,i < 7→j < 12→(ps.getD i 0+qs.getD j 0≤4∧wd j=(i:Z)↔i=w∧j=mo)
variable{ps qs:aD Z}
noncomputable def gH(w a:aA):PV:= .tup [.int (w:Z),.int (a:Z)]
theorem found_one(F:Ab P l ps qs s y d q w c){i j:aA}(k:i < 7)(m:j < 12)(r:L.length≤100):bE P Fq (eT l L (O (.int (i:Z))) (O (.int (j:Z))))=O (.next,eT l (L++if j=c then(if i=w then [gH w c] else []) else []) (O (.int (i:Z))) (O (.int (j:Z)))):=by
 have a:=F.hl;have n:ev P (eT l L (O (.int (i:Z))) (O (.int (j:Z)))) (.nm 25)=O (.int (i:Z)):=adB a;have o:ev P (eT l L (O (.int (i:Z))) (O (.int (j:Z)))) (.nm 26)=O (.int (j:Z)):=adC a;have one:=F.one i j k m
 have b:jd .LtE (.int (ps.getD i 0+qs.getD j 0)) (.int 4)=O (.bool (decide (ps.getD i 0+qs.getD j 0≤4)))→ev P (eT l L (O (.int (i:Z))) (O (.int (j:Z)))) (.cmp .LtE (.bin .Add (.sub (.nm 22) (.nm 25)) (.sub (.nm 23) (.nm 26))) (.int 4))=O (.bool (decide (ps.getD i 0+qs.getD j 0≤4))):=
  cK (bM (hZ (wL F.Fs a) n (PU (by refine M F.hp ?_;decide) (by refine M F.hp ?_;exact k))) (hZ (wL F.Ft a) o (PU (by refine M F.hq ?_;decide) (by refine M F.hq ?_;exact m))) iJ) (y:= .int 4) V
 have b:=b V
 by_cases e:ps.getD i 0+qs.getD j 0≤4
 ·rw[fM e] at b
  have f:ev P (eT l L (O (.int (i:Z))) (O (.int (j:Z)))) (.cmp .Eq (.call (aH "_law_weekday") (.cons (.nm 5) (.cons (.nm 26) (.cons (.nm 7) (.cons (.nm 1) .nil))))) (.nm 25))=O (.bool (q j==(i:Z))):=by(refine xe F.ncs ?_;rintro t rfl);exact cK (fO (bW (wL F.h5 a) (bW o (jX (wL F.h7 a) (wL F.h1 a)))) V (F.call i j k m e)) n VS
  by_cases g:q j=(i:Z)
  ·(refine xa (one.mp ⟨e,g⟩) ?_;rintro rfl rfl);refine M (aS V) (M (aS V) ?_);rw[beq_iff_eq.mpr g] at f;exact nx (it (nT b f) (nx (adF a (tA n o V) V (aL r (by decide))) V)) V
  ·rw[beq_eq_false_iff_ne.mpr g] at f
   have p:(if j=c then(if i=w then [gH w c] else []) else [])=[] :=by
    split
    ·exact aP fun h=>g (one.mpr ⟨h,by assumption⟩).2
    ·rfl
   refine M p (M (jT ..) ?_);exact nx (eY (nT b f) V) V
 ·rw[eP e] at b
  have p:(if j=c then(if i=w then [gH w c] else []) else [])=[] :=by
   split
   ·exact aP fun h=>e (one.mpr ⟨h,by assumption⟩).1
   ·rfl
  refine M p (M (jT ..) ?_);exact nx (eY (vt b) V) V
theorem PW{α:Type}{B:aA}{st:aD PV→α→Sg}(g:c.length≤1)(i:∀a L o,a < N→L.length≤B→∃b,j ((st L o).put v (.int (a:aA)))=O (.next,st (L++if a=m then c else []) b))(k:aA):
  ∀(a:aA) (L:aD PV) (o:α),a+k=N→L.length+k≤B→∃b,gP j v ((qM a k).map fun q=> .int (q:aA)) (st L o)=O (.next,st (L++if a≤m∧m < N then c else []) b):=by
 induction k with
 |zero=>intro a L o h _;exact⟨o,by refine M (aP (by lia)) (M (jT ..) ?_);rfl⟩
 |succ k ih=>
  intro a L o h l;refine xe (i a L o (bK (ml (hV _ _)) (cI h)) (aL (Ar l) (lK _ _))) fun n p=> ?_
  (refine xe (ih (a+1) (L++if a=m then c else []) n (kO (ov _ _ _) (kO V h)) (by
   have:(if a=m then c else []).length≤1:=by
    split
    ·exact g
    ·exact ji _
   refine M bH ?_;lia)) ?_;rintro r d)
  have e:(if a=m then c else [])++(if a+1≤m∧m < N then c else [])=if a≤m∧m < N then c else [] :=by
   by_cases f:a=m
   ·exact M (aS f) (M (aP (by lia)) (M (aS (by lia)) (M (jT ..) V)))
   ·refine M (aP f) (M (qQ ..) ?_)
    by_cases q:a+1≤m∧m < N
    ·exact M (aS q) (M (aS ⟨qB q.1,q.2⟩) V)
    ·exact M (aP q) (M (aP (by lia)) V)
  rw[eZ,e] at d;exact⟨r,(ro p).trans d⟩
theorem adG(F:Ab P l ps qs m y d n w a)(f:a < 12)(o:aG PV×aG PV):∃e:aG PV×aG PV,gP (bE P (.cons (.forR 26 (.int 12) Fq) .nil)) 25 ((qM 0 7).map fun q=> .int (q:aA)) (eT l [] o.1 o.2)=O (.next,eT l ([] ++if 0≤w∧w < 7 then [gH w a] else []) e.1 e.2):=
 PW (α:=aG PV×aG PV) (st:=fun L o=>eT l L o.1 o.2) (B:=30) (N:=7) (c:=[gH w a]) (m:=w) (cA 1) (fun i L o g c=>by
  (refine xe (PW (c:=if i=w then [gH w a] else []) (m:=a) (N:=12) (B:=50) (st:=fun L b=>eT l L (O (.int (i:Z))) b) (by split<;>first |exact cA 1 |exact ji _) (fun j L b k c=>⟨O (.int (j:Z)),by show bE P Fq _=_;refine M (adD F.hl) ?_;exact found_one F g k (aL c (by decide))⟩) 12 0 L o.2 V (lH (aL c (by decide)) _)) ?_;rintro b h)
  rw[aS ⟨ji _,f⟩,←uy] at h;refine⟨(O (.int (i:Z)),b),?_⟩;exact M (adE F.hl) <|nx ((tv (N:=12) V ⟨by decide,by decide⟩).trans h) V) 7 0 [] o V (by decide)
theorem adH(F:Ab P l ps qs r y d s w a)(j:w < 7)(k:a < 12)(i:∀p∈l,p≠ .bV):∃b c,bE P (.cons wo (.cons wq (.cons (.kV 24) .nil))) (aX l)=O (.next,{loc:=l.map O++[O (.lst [gH w a]),b,c]}):=by
 have f:=F.hl
 have m:(aX l).fresh 24 [] =eT l [] aB none:=by
  unfold Sg.fresh eT aX
  congr 1
  refine M iE (M List.map_replicate (M f ?_))
  have e:((l.map O).map sW)=l.map some:=by
   refine M j8 <|uO fun p h=> ?_
   have:=i p h;cases p<;>first |rfl |exact absurd rfl this
  refine M e (M (uN _ _ (by refine M (bQ ..) (M f ?_);decide)) (M (bQ ..) (M f ?_)));rfl
 have n:ex P wo (aX l)=O (.next,eT l [] aB aB):=by exact aT m <|tu V (nS V (by decide) V)
 (refine xe (adG F k (aB,aB)) ?_;rintro⟨b,c⟩ g);rw[←uy,aS ⟨ji _,j⟩] at g
 have g:ex P wq (eT l [] aB aB)=O (.next,eT l ([] ++[gH w a]) b c):=
  (tv (N:=7) V ⟨by decide,by decide⟩).trans g
 have o:ex P (.kV 24) (eT l [gH w a] b c)=O (.next,{loc:=l.map O++[O (.lst [gH w a]),nM [gH w a] b,nM [gH w a] c]}):=by
  have q:jI (eT l [gH w a] b c) 24=true:=by
   unfold jI
   have:(eT l [gH w a] b c).loc[24]? =O (O .bV):=by refine(M (pM (by refine M (bQ ..) (M f ?_);decide)) (M (bQ ..) (M f ?_)):(l.map O++[O .bV,b,c])[24]? =_);rfl
   exact M this rfl
  refine M (CL q (xs:=[gH w a]) V) ?_
  have e:((l.map O).map (nM [gH w a]))=l.map some:=by
   refine M j8 <|uO fun p h=> ?_
   have:=i p h;cases p<;>first |rfl |exact absurd rfl this
  refine(M iE (M e ?_):O (Fl.next,({loc:=(l.map O++[O .bV,b,c]).map (nM [gH w a]),mu:=aB,pl:=aF}:Sg))=_);rfl
 refine⟨nM [gH w a] b,nM [gH w a] c,?_⟩;exact nx n (nx g (nx o V))
end
end
section
open PySem.NumText
theorem PX:aH "_"=mk [95] :=by decide+kernel
theorem Fu:∀(n:aA) (r:aD aA),digitsVal (dU n 48++r)=digitsVal r
 |0,r=>rfl|n+1,r=>by refine M xi (M qR ?_);exact Fu n r
theorem adI(n:aA):digitsVal (iB (n:Z))=n:=by
 have h:= @Nat.ofDigitChars_toDigits 10 n (by decide) (by decide)
 have a:∀(l:aD Char) (x:aA),ahh 10 l x=(l.map agR).foldl (fun b c=>b*10+(c - 48)) x:=by
  intro l
  induction l with
  |nil=>intro x;rfl
  |cons c l ih=>
   intro x;show ahh 10 l (10*x+(c.toNat - '0'.toNat))=_;refine M (ih ..) (M gJ (M AH (M (Bg ..) ?_)));rfl
 rw[a] at h;unfold iB digitsVal;exact h
theorem PY(k n:aA):digitsVal (cC k (n:Z))=n:=by unfold cC;exact M (Fu ..) (M (adI ..) V)
theorem Ac(k n:aA):AllDigits (cC k (n:Z)):=by
 intro c a;rcases jF.mp a with a |a
 ·refine M ((Bv.mp a).2) ?_;exact⟨by decide,by decide⟩
 ·exact Em _ c a
theorem Fv(n:aA)(h:n < 20000):(cC 4 (n:Z)).length=4∨(cC 4 (n:Z)).length=5:=by
 have a:(iB (n:Z)).length≤5:=by unfold iB;refine M (bQ ..) (M (oH ..) ?_);exact(Nat.length_toDigits_le_iff (by decide) (by decide)).mpr (bK h (by decide))
 unfold cC;refine M bH (M oJ ?_);rcases np 4 (iB (n:Z)).length with q |q
 ·exact .inr ((aR (· +(iB (n:Z)).length) (Su (fB q))).trans ((mI _).trans (SG a q)))
 ·exact .inl (r9 q)
noncomputable def ul(y d:aA):aD Nat:=cC 4 (y:Z)++[95] ++dU 2044 48++[95] ++cC 2 (d:Z)++[32]
noncomputable def r3(y d:aA):aD Nat:=cC 4 (y:Z)++dU 2044 48++cC 2 (d:Z)
theorem adJ(a:d < 100):digitsVal (r3 y d)=y*10^2046+d:=by unfold r3;rw[eZ,DA,Fu,PY,PY,bH,oJ,nh d a]
theorem Fw(h:AllDigits l):l.filter (· !=95)=l:=ahg.mpr fun c a=>by have:=h c a;exact bne_iff_ne.mpr (fE (bZ this.2 (by decide)))
section
theorem adK(W:Wd w h mb h₀)(l:jY h h₀ T)(m:y < 20000)(i:d < 100):Ct w h mb h₀ T 6 "int_from_string" [.str (mk (ul y d))] (.int ((y*10^2046+d:aA):Z)):=by
 have j:=nh d i;have f:=Ac 2 d
 obtain⟨a,c,g⟩:∃a c,cC 2 (d:Z)=[a,c] :=by
  match cC 2 (d:Z),j with
  |[a,c],_=>exact⟨a,c,rfl⟩
 refine aT (adJ i) ?_
 have n:AllDigits (r3 y d):=by
  intro x b;rcases jF.mp b with b |b
  ·rcases jF.mp b with b |b
   ·exact Ac 4 y x b
   ·refine M ((Bv.mp b).2) ?_;exact⟨by decide,by decide⟩
  ·exact f x b
 have o:AllDigits (dU 2044 48):=fun x b=>by refine M ((Bv.mp b).2) ?_;exact⟨by decide,by decide⟩
 have k:48≤c∧c≤57:=f c (by refine M g ?_;simp);have p:=Fv y m;refine ZK W l (mk (ul y d)) (cC 4 (y:Z)++[95] ++dU 2044 48++[95] ++[a]) (r3 y d) c ?_ ?_ ?_ n (r3 y d).length ?_ V ?_
 ·show ul y d=_;unfold ul;refine M g ?_;simp only[eZ];rfl
 ·have:∀c < 58,48≤c→pQ c=false:=by decide+kernel
  exact this c (ml k.2) k.1
 ·have e:cC 4 (y:Z)++[95] ++dU 2044 48++[95] ++[a] ++[c] =cC 4 (y:Z)++([95] ++(dU 2044 48++([95] ++cC 2 (d:Z)))):=by refine M g ?_;simp only[eZ];rfl
  rw[e,Bs,Bs,Bs,Bs,Fw (Ac 4 y),Fw o,Fw f];unfold r3;rw[eZ];rfl
 ·unfold r3;refine M bH (M bH (M oJ (M j ?_)));lia
 ·refine M bH (M bH (M bH (M bH (M oJ ?_))));show _+1+2044+1+1≤10000;lia
theorem adL(W:Wd w c mb h₀)(h:jY c h₀ T)(D:bU)(a:D.Ok)(d:Slots D l)(f:i.length≤900)
  (g:l[21]? =O (.lst (((u::cC 2 (D.dy:Z)::v::cC 4 (D.yr:Z)::i).map mk).map .str))):lz w c mb h₀ T [wn] (aX l) (aX l):=by
 have j:=adK (T:=T) W h (y:=D.yr) (d:=D.dy) a.lB (by have:=a.bd;exact bZ this.2 (by decide));refine .cons _ (lx j (by decide)) ?_ V .nil;generalize k:E4 (aH "int_from_string") [PV.str (mk (ul D.yr D.dy))] (.int ((D.yr*10^2046+D.dy:aA):Z))=P;have m:P.call (aH "int_from_string") [.str (mk (ul D.yr D.dy))] =O (.int ((D.yr*10^2046+D.dy:aA):Z)):=by refine aT k ?_;exact rS
 have x:=nh D.dy (by have:=a.bd;exact bZ this.2 (by decide));have y:=Fv D.yr a.lB;have n:ev P (aX l) (.sub (.nm 21) (.int 3))=O (.str (mk (cC 4 (D.yr:Z)))):=hZ (dT g) (y:= .int (3:aA)) V (og (by simp;exact aL f (by decide)) (by rfl));have o:ev P (aX l) (.sub (.nm 21) (.int 1))=O (.str (mk (cC 2 (D.dy:Z)))):=hZ (dT g) (y:= .int (1:aA)) V (og (by simp;exact aL f (by decide)) (by rfl))
 have em:ev P (aX l) (.bin .Mult (.str (aH "0")) (.int 2044))=O (.str (mk (dU 2044 48))):=by
  refine bM (x:= .str (aH "0")) (y:= .int 2044) V rfl ?_;show aZ _ _=_;refine M (bB ⟨rfl,by decide,by decide⟩) ?_
  congr 2
 have b:(dU 2044 48).length=2044:=oJ;have p:=on (on (on (on (on n (zJ PX) (by simp;lia)) em (by refine M b (M bH ?_);show _+1+2044≤_;lia)) (zJ PX) (by refine M bH (M bH (M b ?_));show _+1+2044+1≤_;lia)) o (by refine M bH (M bH (M bH (M b ?_)));show _+1+2044+1+_≤_;lia)) (zJ wt) (by refine M bH (M bH (M bH (M bH (M b ?_))));show _+1+2044+1+_+1≤_;lia);have q:=fO (bW p iw) (by rfl) m;have r:∀z:Z,dC .Mult (.int (D.yr:Z)) (.int z)=O (.int ((D.yr:Z)*z)):=fun z=>tq (dD (by decide) (cW _)) (by have:=a.lB;exact dN.mpr (bK this (by decide)));have s:ev P (aX l) (.bin .Pow (.int 10) (.int 2046))=O (.int (10^2046)):=bM (x:= .int 10) (y:= .int (2046:aA)) V rfl (D3 (by decide));have t:ev P (aX l) (.bin .Add (.bin .Mult (.nm 5) (.bin .Pow (.int 10) (.int 2046))) (.nm 7))=O (.int ((D.yr:Z)*10^2046+(D.dy:Z))):=bM (bM (dT d.yr) s (r _)) (dT d.dy) iJ;refine(show ex P wn (aX l)=bE P .nil (aX l) from nR (x:= .bool aI) (cK q t ?_) V).trans rfl
 have e:((D.yr*10^2046+D.dy:aA):Z)=(D.yr:Z)*10^2046+(D.dy:Z):=by refine M (ago ..) (M (Bd ..) (M (agn ..) ?_));rfl
 refine M e ?_;show O (PV.bool (_ !=_))=_;exact M (xb ..) V
end
end
section
noncomputable def wM(w a:aA):PyData:= .list [.tuple [.int (w:Z),.int (a:Z)]]
theorem PZ{K:PK}(f:∀b o,K b=O o→h.get? b=O o)(r:RV w K aB v (.lst [gH a b])):∃g,Reads h v (wM a b) g:=by
 (refine ip r.lst_inv ?_;rintro x o i n rfl j k l c);cases d:i.toList with
 |nil=>replace c:=d▸c;cases c
 |cons u r=>
  replace c:=d▸c;cases c with
  |cons m s=>
   cases s;(refine ip m.sJ ?_;rintro y L t N rfl z A B C);refine cS C.mr fun p P D E F=>cS F.mr fun q Q G H I=> ?_;cases I;have e:t.toList=[p,q] :=M D (M G V);(refine xe E.int_inv ?_;rintro R rfl);(refine xe H.int_inv ?_;rintro S rfl);exact⟨_,.list (f _ _ j) k l (by refine M d ?_;exact .cons (.tuple (f _ _ z) A B (by refine M e ?_;exact .cons (.int _ _) (.cons (.int _ _) .nil))) .nil)⟩
theorem P0(a b:aA):SeqAt.shaped (wM a b)=true:=by rfl
theorem adM(a b:aA):ahi (wM a b) (wM a b)=true:=by simp[wM,ahi,PyData.eqvAll]
section
theorem adN(Y:ko w A c){K:PK}{st:bR}{a b:aA}(j:EX st)(l:ev bJ d (.nm 4)=O (.int (a:Z)))(n:ev bJ d (.nm 6)=O (.int (b:Z)))(o:ev bJ d (.nm 24)=O (.lst [gH a b]))(G:Gd w c dA K m aB s d):
  aN (aO pg w) A (jl st c.env) (fun q r=>q= .ret (.bool aF)∧∃f,PK.le K f∧Fm c f m aB r) (fun J J=>bO) s:=by
 obtain⟨t,x,y,u,k,v,R,S,rfl,z,B⟩:=j;have g:=Y.y (mF (T:=c.T))
 have C:bC (aK 35).scope dA (.nm 24) (.Name ("found":Str) t)=true:=by
  show Option.any (fun p=>p.1==("found":Str)) dA[24]? =aF
  decide+kernel
 have D:bC (aK 35).scope dA (.lst (.cons (.tup (.cons (.nm 4) (.cons (.nm 6) .nil))) .nil)) (.List [.Tuple [x,y] k u] v)=true:=by refine(M z (M B ?_):((bC (aK 35).scope dA (.nm 4) x && (bC (aK 35).scope dA (.nm 6) y && aF)) && aF)=aF);rfl
 have E:ev bJ d (.lst (.cons (.tup (.cons (.nm 4) (.cons (.nm 6) .nil))) .nil))=O (.lst [gH a b]):=nS (bW (tw (bW l (bW n iw)) (by show 2≤1000;decide) V) iw) (by show 1≤1000;decide) V;refine nA ?_
 with_reducible refine Rt ?_ V
 refine((cY g _ _ C).ev o G).then fun T U W h F X H=>((cY g _ _ D).ev E (G.of h F)).then fun I a0 a1 i e a2 L=> ?_
 obtain⟨a3,N⟩:=PZ e.keep (H.mono i);obtain⟨a4,P⟩:=PZ e.keep L;have Q:=Y.hu;refine SeqAt.compareEq_shaped N P (P0 a b) (P0 a b) (bZ (eK (by decide) _) (bK Q (by decide)):A.units+64 < 9900) <|M (adM ..) ?_
 exact⟨rfl,I,h.trans i,e⟩
end
end
section
theorem text_len(d:k < 5)(e:jR f a)(g:jR h b)(i:qs f+qs h≤1)(j:iW c)(l:iW R):
  (kl (a++c++b++R++dM k)).length≤a.length+c.length+b.length+R.length+3:=by
 have:=((Pw e g i j l).strip d).2
 rwa [bH,bH,bH] at this
theorem adO(h:kL c):bA c≠32:=by
 rcases h with h |h
 ·unfold Let at h;unfold bA;split<;>lia
 ·have:=(uh _ h).2.2.2.1;refine M (zL this) ?_;exact eG (bK (by decide) this)
theorem P1(h:∀p∈r,ii p):∀c∈lcs r,c≠32:=fun c a=>by(refine aQ (iX.mp a) ?_;rintro p b rfl);exact adO (h p (List.mem_filter.mp b).1).sgn
theorem P2(k n:aA):∀c∈cC k (n:Z),c≠32:=fun c a=>by have:=Ac k n c a;exact eG (bK (by decide) this.1)
noncomputable def bU.ni(D:bU)(k:aA):aD Nat:=cC 2 (D.hh:Z)++[58] ++cC 2 (D.mi:Z)++[58] ++cC 2 (D.se:Z)++[32] ++(gX D.zi).map bA++iL k
noncomputable def bU.text(D:bU)(k:aA):aD Nat:=lcs D.r1++(ig D.dy).map bA++lcs D.r2++D.E.map bA++iL k
theorem Fx(D:bU)(a:D.Ok)(k:aA):D.text k=(lcs D.r1++[44])++32::(cC 2 (D.dy:Z)++32::(lcs D.r2++32::(cC 4 (D.yr:Z)++32::D.ni k))):=by have b:=(wB D.dy).2;have c:D.E.map bA=_:=(zS D.yr D.hh D.mi D.se (zR a.bz)).2;unfold bU.text;refine M b (M c ?_);unfold ig l7 bU.ni;simp only[eZ,qR,qQ]
theorem Fy(D:bU)(a:D.Ok):(∀p∈D.r1,ii p)∧(∀p∈D.r2,ii p)∧D.r1.length≤4∧D.r2.length≤4:=by exact iH (pz (ui a.bw) (ub a.bw) D.c2 0) fun b f c=>iH (pz (uj a.bm) (uc a.bm) D.c2 1) fun d g e=>⟨b,d,c,e⟩
theorem adP(D:bU)(b:D.Ok)(k:aA):ij [] (D.text k)=(lcs D.r1++[44])::cC 2 (D.dy:Z)::lcs D.r2::cC 4 (D.yr:Z)::ij [] (D.ni k):=by
 refine dX (Fy D b) fun d e J J=> ?_
 rw[Fx D b k,wI _ _ _ (fun c a=>by
  rcases jF.mp a with a |a
  ·exact P1 d c a
  ·rw[fK.mp a];decide),wI _ _ _ (P2 2 D.dy),wI _ _ _ (P1 e),wI _ _ _ (P2 4 D.yr)]
 rfl
theorem P4(D:bU)(a:D.Ok)(b:k < 5):(D.ni k).length≤100:=by have c:=rT a.bz;have d:=PJ b;have e:=nh D.hh (by have:=a.bh;exact bK this (by decide));have f:=nh D.mi (by have:=a.bi;exact bK this (by decide));have g:=nh D.se (by have:=a.bs;exact bK this (by decide));unfold bU.ni;simp only[bH,bQ,HG];lia
theorem adQ(D:bU)(a:D.Ok)(b:k < 5):(D.text k).length≤200:=by have c:=P4 D a b;refine dX (Fy D a) fun J J d e=> ?_;have f:=wH D.r1;have g:=wH D.r2;have h:=nh D.dy (by have:=a.bd;exact bZ this.2 (by decide));have i:=Fv D.yr a.lB;refine M (Fx D a k) ?_;simp only[bH,j3,xd];lia
noncomputable def Fz(c:aD PV):aG PV:=lC c fun x r=>sS x fun a=>lC r fun x r=>sS x fun b=>i1 r fun d=>aZ (a.length≤40∧b.length≤40) (O (.int (rH a.cps.toList b.cps.toList d)))
noncomputable def FA(c:aD PV):aG PV:=s2 c fun a b=>aZ (a.length≤1000∧b.length≤1000∧(cD b).length≤1000) (O (.int (dS a.cps.toList (cD b).cps.toList)))
section
theorem P5(W:Wd w d mb h₀):∀c y,Fz c=O y→Ct w d mb h₀ T 2 "_levenshtein_distance" c y:=by
 intro c y h;refine iQ (CP h) fun J J e f=>aQ (Lb f) fun a g i=>iQ (CP i) fun J J j k=>aQ (Lb k) fun b l m=> ?_;refine aQ (Ld m) fun n o p=> ?_;obtain⟨⟨q,r⟩,s⟩:=i0 p;refine M e (M g (M j (M l (M o (aT (cB s) ?_)))));have:=aaN (T:=T) W a.cps.toList b.cps.toList q r n
 rwa [OY,OY] at this
theorem P6(W:Wd w d mb h₀):∀c y,FA c=O y→Ct w d mb h₀ T 1 "_law_near" c y:=by intro c y h;refine iQ (V8 h) fun a b e q=> ?_;obtain⟨⟨f,g,i⟩,q⟩:=i0 q;refine M e (aT (cB q) ?_);exact aaa W _ _ f g i
end
section
noncomputable abbrev um(a b c:aD aA)(r:aD (aD aA)):PV:= .lst (((a::b::c::r).map mk).map .str)
theorem P7(z:Str)(k:aA)(d:r.length≤900)(h:(a::b::c::r)[k]? =O x):ev P {loc:=[O (.str z),O (um a b c r)]} (.sub (.nm 1) (.int (k:Z)))=O (.str (mk x)):=by refine hZ (x:=um a b c r) (y:= .int (k:Z)) V rfl (og (by simp;exact aL (by assumption) (by decide)) ?_);refine M im (M h ?_);rfl
theorem adR(z:Str)(b:x.length≤100)(a:r.length≤900):ev P {loc:=[O (.str z),O (um (x++[44]) c d r)]} zE=O (.str (mk x)):=by
 refine o0 (x:= .str (mk (x++[44]))) (u:= .none) (v:= .int (-1)) (P7 z 0 a V) V rfl ?_;show aZ _ _=_;refine M (bB (by refine M (cZ ..) (M cN (M bH ?_));show x.length+1≤_;exact bZ (by assumption) (by decide))) ?_;have:=Nx (x++[44]) 1 (by decide);rw[SD] at this;have e:(([44].reverse++x.reverse).drop 1).reverse=x:=by simp
 rw[e] at this;refine aT this ?_;rfl
end
end
section
noncomputable def bU.p1(D:bU)(z:Str):Int:=rH (lcs D.r1) z.cps.toList 3
noncomputable def bU.p2(D:bU)(z:Str):Int:=rH z.cps.toList (lcs D.r2) 3
structure bU.Fact(D:bU):Prop where
 n1:∀z∈cF,jA (D.p1 z)=dS (lcs D.r1) (cD z).cps.toList
 n2:∀z∈cH,jA (D.p2 z)=dS (lcs D.r2) (cD z).cps.toList
 feb:∀i j:aA,i < 7→j < 12→(cF.map D.p1).getD i 0+(cH.map D.p2).getD j 0≤4→¬((D.yr:Z)=0∧(j:Z)=1)
 one:∀i j:aA,i < 7→j < 12→((cF.map D.p1).getD i 0+(cH.map D.p2).getD j 0≤4∧gV D.yr j D.dy=(i:Z)↔i=D.wd∧j=D.mo)
 big:gZ D.c4≤1048600
theorem Ad:∀z∈cF++cH,(cD z).length≤1000∧z.length≤40:=by decide+kernel
noncomputable def FC(D:bU)(a:aD PV)(j:aA):Prop:=j < 12∧¬((D.yr:Z)=0∧(j:Z)=1)∧a=[.int D.yr,.int (j:Z),.int D.dy,.lst (D.cs.map .int)]
open Classical in
noncomputable def Ae(D:bU)(a:aD PV):aG PV:=if h:∃j:aA,FC D a j then O (.int (gV D.yr h.choose D.dy)) else aB
theorem adS(D:bU){j:aA}(h:j < 12)(a:¬((D.yr:Z)=0∧(j:Z)=1)):Ae D [.int D.yr,.int (j:Z),.int D.dy,.lst (D.cs.map .int)] =O (.int (gV D.yr j D.dy)):=by have e:∃i:aA,FC D [.int D.yr,.int (j:Z),.int D.dy,.lst (D.cs.map .int)] i:=⟨j,h,a,rfl⟩;have q:j=e.choose:=QN (PV.int.inj (xl (xl e.choose_spec.2.2).2).1);refine(AL e).trans ?_;exact aR (fun i:aA=>O (PV.int (gV D.yr i D.dy))) q.symm
section
theorem adT(W:Wd w mg mb h₀)(Ns:jY mg h₀ T)(D:bU)(O0:D.Ok)(hb:gZ D.c4≤1048600):∀xs y,Ae D xs=O y→Ct w mg mb h₀ T 20 "_law_weekday" xs y:=by
 intro xs y h;unfold Ae at h
 by_cases hc:∃j:aA,FC D xs j
 ·replace h:=(AL hc).symm.trans h;cases h;have e:=hc.choose_spec;generalize hc.choose=j at e ⊢;(refine iH e ?_;rintro h1 h2 rfl);exact abr W Ns D.yr j D.dy D.c0 D.c1 D.c2 D.c3 D.c4 D.c5 (by have:=O0.lB;exact⟨cW _,cJ (dN.mpr this)⟩) ⟨cW _,cT.mpr (jB h1)⟩ (by have:=O0.bd;exact⟨cT.mpr this.1,cT.mpr this.2⟩) h2 hb
 ·replace h:=(dif_neg hc).symm.trans h;cases h
end
noncomputable def bU.r6(D:bU)(o1 o2:aD aA)(d2:Z)(k:aA)(sq:aD aA):aD PV:=D.jg++[.str (gN.mk o1)] ++[.int d2] ++[.str (gN.mk o2)] ++[.str (gN.mk (dM k))] ++[.str (gN.mk sq)]
structure adU(D:bU)(l:aD PV)(sq:aD aA):Prop where
 hl:l.length=18
 sl:Slots D l
 B':l[11]? =O (.str (mk (ig D.dy)))
 h12:l[12]? =O (.str (mk D.E))
 wG:l[17]? =O (.str (mk sq))
 nm:∀p∈l,p≠ .bV
theorem wN(h:l.length=n):(l++[x])[n]? =O x:=by refine aT h ?_;simp
theorem nj{l:aD PV}{x:PV}(h:∀p∈l,p≠ .bV)(b:x≠ .bV):∀p∈l++[x],p≠ .bV:=fun p a=>by
 rcases jF.mp a with a |a
 ·exact h p a
 ·refine M (fK.mp a) ?_;exact b
theorem kM(h:l.length=n):(l++[x]).length=n+1:=by refine M bH (M h ?_);rfl
theorem adV(D:bU):∀p∈D.jg,p≠ .bV:=by unfold bU.jg bU.v11 bU.v10 bU.v8;intro p a;simp only[jF,gA,cO,or_false] at a;rcases a with(((rfl |rfl |rfl |rfl |rfl |rfl |rfl |rfl) |(rfl |rfl |rfl)) |rfl) |rfl<;>intro h<;>cases h
theorem adW(D:bU)(c d:aD aA)(e:Z)(k:aA)(a:aD aA):adU D (D.r6 c d e k a) a:=by
 have b:D.jg.length=13:=rfl;have f:D.jg[11]? =O (.str (mk (ig D.dy))):=rfl;have g:D.jg[12]? =O (.str (mk D.E)):=rfl;have i:=ads D;have j:=adV D
 exact⟨kM (kM (kM (kM (kM b)))),i.more.more.more.more.more,more (more (more (more (more f)))),more (more (more (more (more g)))),wN (kM (kM (kM (kM b)))),
  nj (nj (nj (nj (nj j (by intro h;cases h)) (by intro h;cases h)) (by intro h;cases h)) (by intro h;cases h)) (by intro h;cases h)⟩
section
theorem adX{w:aV}{A:bX}{c:Cx}(Y:ko w A c)(Ns:jY c.mg c.h₀ c.T)(D:bU)(O0:D.Ok)(Fc:D.Fact)(P8:Ct w c.mg c.mb c.h₀ c.T 20 "_law_cells" [.lst (D.ns.map .int)] (.lst (D.cs.map .int))){K:PK}{m:Str→aG aJ}{s:aM}{cw:aW}{o:Obj}{x0:aG aJ}
  (wK:c.env.cells.lookup ("words":Str)=O cw) (hK:K cw=aB) (hn:cw≠c.env.locals) (hE:c.hE.get? cw=aB) (ho:s.heap.get? cw=O o) (hd:o.data= .cell x0) (G:Gd w c dA K m aB s (aX [.lst (D.ns.map .int)])):
  aN (aO pg w) A (eH (aK 35).body c.env) (fun fl s'=>fl= .ret (.bool aF)∧∃K' m',PK.le K K'∧Fm c K' m' aB s') (fun J J=>bO) s:=by
 obtain⟨l1,l2,l3,EY,EZ,E0,E1,E2,E3,zH,P9,h1,h2,h3,wG,wJ,Fs,Ft,h24,h25,h29⟩:=acm;refine M P9 ?_;clear P9;have W:=Y.W;have kind:∀x,c.env.kindOf x=(aK 35).scope.names.lookup x:=fun x=>by unfold GH;exact M Y.H.scope V
 have FD:=G.F.off hE;refine H8 (adl (T:=c.T) W D O0) fun o1 o2 d2 k u1 u2 wO hk rB rc=> ?_;have r0:=(acw W D O0 P8).append ((acD W D O0).append rc);refine zI Y r0 h1 G fun K1 m1 s1 k1 G1 b1 n1=> ?_;have K1c:=n1 cw (by refine M ho ?_;intro z;cases z) hn hK;have g1:=b1 cw o ho hn (by intro z;cases z) FD;clear r0 rc P8
 have Qa:qs D.r1+qs D.r2≤1:=by
  by_cases hp:D.c2 / 4 % 2=0
  ·have:=zT (nm:=jP D.mo) (zU:=D.c2) (which:=1) (SR (iD (oz hp) (by decide)));refine iH (pz (ui O0.bw) (ub O0.bw) D.c2 0) fun J q J=> ?_;unfold bU.r1 bU.r2;exact BB q (cI this) (by decide)
  ·have:=zT (nm:=jO D.wd) (zU:=D.c2) (which:=0) hp;refine iH (pz (uj O0.bm) (uc O0.bm) D.c2 1) fun J q J=> ?_;unfold bU.r1 bU.r2;exact GK q (aL (cI this) (ji _))
 have aE:=(zS D.yr D.hh D.mi D.se (zR O0.bz)).1;have uo:=(Px wO u1 u2 Qa (wB D.dy).1 aE).1;have hlen:=text_len wO u1 u2 Qa (wB D.dy).1 aE;have lM:=Fg (d:=D.dy) (by have:=O0.bd;exact bZ this.2 (by decide));have lE:=Fh (y:=D.yr) (h:=D.hh) (m:=D.mi) (s:=D.se) (z:=gX D.zi) O0.lB (by have:=O0.bh;exact bK this (by decide)) (by have:=O0.bi;exact bK this (by decide)) (by have:=O0.bs;exact bK this (by decide)) (rT O0.bz);have ou:=adW D o1 o2 d2 k (kl (o1++ig D.dy++o2++D.E++dM k));replace G1:Gd w c dA K1 m1 aB s1 (aX (D.r6 o1 o2 d2 k (kl (o1++ig D.dy++o2++D.E++dM k)))):=G1;generalize D.r6 o1 o2 d2 k (kl (o1++ig D.dy++o2++D.E++dM k))=r6 at G1 ou;have hE':l7 D.yr D.hh D.mi D.se (gX D.zi)=D.E:=rfl;rw[hE'] at uo hlen lE;have uo:dL (kl (o1++ig D.dy++o2++D.E++dM k))=D.text k:=uo;have FE:=adQ D O0 wO;generalize kl (o1++ig D.dy++o2++D.E++dM k)=sq at uo hlen ou;refine wF Y G1 V (fun c' e1 e2 Y' G'=>adq Y' wG ou.hl ou.wG (by lia) (by refine M uo ?_;exact aL FE (by decide)) G') fun K2 m2 s2 k2 G2 b2 n2=> ?_;rw[uo] at G2;have K2c:=n2 cw (by refine M g1 ?_;intro z;cases z) hn K1c;have g2:=b2 cw o g1 hn (by intro z;cases z) FD;have FG:(r6++[PV.str (mk (D.text k))]).length=19:=kM ou.hl;have FH:=ou.sl.more (x:= .str (mk (D.text k)));have FI:(r6++[PV.str (mk (D.text k))])[18]? =O (.str (mk (D.text k))):=wN ou.hl;have Qb:=more (y:= .str (mk (D.text k))) ou.B';have Qc:=more (y:= .str (mk (D.text k))) ou.h12;have Qd:=nj (x:= .str (mk (D.text k))) ou.nm (by intro h;cases h);generalize r6++[PV.str (mk (D.text k))] =v18 at G2 FG FH FI Qb Qc Qd;refine zI Y (adt W D O0 wO hk FG FH Qb Qc FI) h2 G2 fun K3 m3 s3 k3 G3 b3 n3=> ?_;have K3c:=n3 cw (by refine M g2 ?_;intro z;cases z) hn K2c;have g3:=b3 cw o g2 hn (by intro z;cases z) FD;have Af:=kM (x:= .str (mk (lcs D.r2))) (kM (x:= .str (mk (lcs D.r1))) FG);have Qe:=(FH.more (x:= .str (mk (lcs D.r1)))).more (x:= .str (mk (lcs D.r2)));have Ag:=more (y:= .str (mk (lcs D.r2))) (more (y:= .str (mk (lcs D.r1))) FI);have Qf:=nj (x:= .str (mk (lcs D.r2))) (nj (x:= .str (mk (lcs D.r1))) Qd (by intro h;cases h)) (by intro h;cases h);generalize v18++[PV.str (mk (lcs D.r1))] ++[PV.str (mk (lcs D.r2))] =v20 at G3 Af Qe Ag Qf;have FJ:=Fx D O0 k;rw[FJ] at Ag FE;have FK:=adP D O0 k;rw[FJ] at FK;refine wpAny_execs_cons (wpAny_mono (adw Y wJ Af Ag (aL FE (by decide)) wK (by refine M (kind ..) ?_;decide+kernel) K3c hn hE g3 hd G3) (fun fl s4 Qg=> ?_) fun J J e=>e.elim);(refine uQ Qg ?_;clear Qg;rintro rfl K4 k4 G4);rw[FK] at G4;clear FK FJ Ag
 have hr:(cC 4 (D.yr:Z)::ij [] (D.ni k)).length≤900:=by have h1:=Aa (D.ni k) [];have h2:=P4 D O0 wO;refine M j3 ?_;lia
 have hr':(ij [] (D.ni k)).length≤900:=by rw[j3] at hr;lia
 replace G4:Gd w c dA K4 m3 aB s4 (aX (v20++[um (lcs D.r1++[44]) (cC 2 (D.dy:Z)) (lcs D.r2) (cC 4 (D.yr:Z)::ij [] (D.ni k))])):=G4;generalize wP:um (lcs D.r1++[44]) (cC 2 (D.dy:Z)) (lcs D.r2) (cC 4 (D.yr:Z)::ij [] (D.ni k))=ws at G4;have Ah:=kM (x:=ws) Af;have FL:=Qe.more (x:=ws);have Qh:(v20++[ws])[21]? =O ws:=wN Af;have Qi:=nj (x:=ws) Qf (by refine aT wP ?_;intro h;cases h);generalize v20++[ws] =FM at G4 Ah FL Qh Qi;refine dX (Fy D O0) fun p1 p2 FN Qj=> ?_;have FO:=wH D.r1;have Qk:=wH D.r2;have hw:∃xs,ws= .lst xs:=⟨_,wP.symm⟩;have w0:∀P z,ev P {loc:=[O (.str z),O ws]} zE=O (.str (mk (lcs D.r1))):=fun P z=>by refine aT wP ?_;exact adR z (aL FO (aL FN (by decide))) hr
 have w2:∀P z,ev P {loc:=[O (.str z),O ws]} (.sub (.nm 1) (.int 2))=O (.str (mk (lcs D.r2))):=fun P z=>by refine aT wP ?_;exact P7 z 2 hr V
 have Ai:∀P (z:Str),ev P {loc:=[O (.str z),O ws]} (.nm 0)=O (.str z):=fun P z=>rfl;have i3:∀P (z:Str),ev P {loc:=[O (.str z),O ws]} (.int 3)=O (.int 3):=fun P z=>rfl
 have e22:∀z∈cF,ev (jz (aH "_levenshtein_distance") Fz) {loc:=[O (.str z),O ws]} OO=O (.int (D.p1 z)):=fun z hz=>by have hz:=(Ad z (kU _ hz)).2;exact fO (bW (w0 _ z) (bW (Ai _ z) (bW (i3 _ z) iw))) (by rfl) (ua (bB ⟨by refine M (cZ ..) ?_;exact aL FO (aL FN (by decide)),hz⟩))
 have e23:∀z∈cH,ev (jz (aH "_levenshtein_distance") Fz) {loc:=[O (.str z),O ws]} OP=O (.int (D.p2 z)):=fun z hz=>by have hz:=(Ad z (j7 _ hz)).2;exact fO (bW (Ai _ z) (bW (w2 _ z) (bW (i3 _ z) iw))) (by rfl) (ua (bB ⟨hz,by refine M (cZ ..) ?_;exact aL Qk (aL Qj (by decide))⟩))
 have e24:∀z∈cF,ev (jz (aH "_law_near") FA) {loc:=[O (.str z),O ws]} OQ=O (.int (dS (lcs D.r1) (cD z).cps.toList)):=fun z hz=>by have hz:=Ad z (kU _ hz);exact fO (bW (w0 _ z) (bW (Ai _ z) iw)) (by rfl) (ua (bB ⟨by refine M (cZ ..) ?_;exact aL FO (aL FN (by decide)),by exact aL hz.2 (by decide),hz.1⟩))
 have e25:∀z∈cH,ev (jz (aH "_law_near") FA) {loc:=[O (.str z),O ws]} OR=O (.int (dS (lcs D.r2) (cD z).cps.toList)):=fun z hz=>by have hz:=Ad z (j7 _ hz);exact fO (bW (w2 _ z) (bW (Ai _ z) iw)) (by rfl) (ua (bB ⟨by refine M (cZ ..) ?_;exact aL Qk (aL Qj (by decide)),by exact aL hz.2 (by decide),hz.1⟩))
 have Ql:∃xs,FM[21]? =O (.lst xs)∧ws= .lst xs:=xe hw fun xs e=>⟨xs,by exact M Qh (M e V),e⟩;(refine aQ Ql ?_;clear Ql;rintro xs Qm rfl);refine wF Y G4 V (fun c' e1 e2 Y' G'=>PQ (f:=fun z=> .int (D.p1 z)) Y' (t9 (P5 Y'.W) (by decide)) Fs Ah (by decide) (by decide+kernel) (by refine M e1 (M (kind ..) ?_);decide+kernel) Qm FL.ds (by decide) G' e22) fun K5 m5 s5 k5 G5 b5 n5=> ?_;have e5:(cF.map fun z=>PV.int (D.p1 z))=(cF.map D.p1).map .int:=by refine M j8 ?_;rfl
 rw[e5] at G5;have Aj:=kM (x:= .lst ((cF.map D.p1).map .int)) Ah;have FP:=FL.more (x:= .lst ((cF.map D.p1).map .int));have FQ:=more (y:= .lst ((cF.map D.p1).map .int)) Qm;have Qn:(FM++[.lst ((cF.map D.p1).map .int)])[22]? =O (.lst ((cF.map D.p1).map .int)):=wN Ah;have Qo:=nj (x:= .lst ((cF.map D.p1).map .int)) Qi (by intro h;cases h);generalize FM++[.lst ((cF.map D.p1).map .int)] =Qp at G5 Aj FP FQ Qn Qo;refine wF Y G5 V (fun c' e1 e2 Y' G'=>PQ (f:=fun z=> .int (D.p2 z)) Y' (t9 (P5 Y'.W) (by decide)) Ft Aj (by decide) (by decide+kernel) (by refine M e1 (M (kind ..) ?_);decide+kernel) FQ FP.ms (by decide) G' e23) fun K6 m6 s6 k6 G6 b6 n6=> ?_;have e6:(cH.map fun z=>PV.int (D.p2 z))=(cH.map D.p2).map .int:=by refine M j8 ?_;rfl
 rw[e6] at G6;have Ak:=kM (x:= .lst ((cH.map D.p2).map .int)) Aj;have pA:=FP.more (x:= .lst ((cH.map D.p2).map .int));have Al:=more (y:= .lst ((cH.map D.p2).map .int)) FQ;have FR:=more (y:= .lst ((cH.map D.p2).map .int)) Qn;have FS:(Qp++[.lst ((cH.map D.p2).map .int)])[23]? =O (.lst ((cH.map D.p2).map .int)):=wN Aj;have Qq:=nj (x:= .lst ((cH.map D.p2).map .int)) Qo (by intro h;cases h);generalize Qp++[.lst ((cH.map D.p2).map .int)] =qy at G6 Ak pA Al FR FS Qq
 have q1:(cF.map D.p1).map jA=cF.map fun z=>dS (lcs D.r1) (cD z).cps.toList:=
  uO fun z hz=>Fc.n1 z hz
 have q2:(cH.map D.p2).map jA=cH.map fun z=>dS (lcs D.r2) (cD z).cps.toList:=
  uO fun z hz=>Fc.n2 z hz
 refine wF Y G6 V (fun c' e1 e2 Y' G'=>PT (g:=fun z=>dS (lcs D.r1) (cD z).cps.toList) Y' (t9 (P6 Y'.W) (by decide)) h24 Al FR pA.ds (by refine M (bQ ..) ?_;decide) (by decide) G' e24 q1) fun K7 m7 s7 k7 G7 b7 n7=> ?_;refine wF Y G7 V (fun c' e1 e2 Y' G'=>PT (g:=fun z=>dS (lcs D.r2) (cD z).cps.toList) Y' (t9 (P6 Y'.W) (by decide)) h25 Al FS pA.ms (by refine M (bQ ..) ?_;decide) (by decide) G' e25 q2) fun K8 m8 s8 k8 G8 b8 n8=> ?_
 match l3,h3 with
 |a::b,h3=>
 refine xa (mM.mp h3) fun FT h3=> ?_
 match b,h3 with
 |b::d,h3=>
 refine xa (mM.mp h3) fun h27 h3=> ?_
 match d,h3 with
 |d::e,h3=>
 refine xa (mM.mp h3) fun h28 h3=> ?_
 match e,h3 with
 |[],_=>
 have FT:tY (aK 35).scope dA [wn] [a] =true:=by refine(M FT ?_:(j' _ _ wn a && aF)=aF);rfl
 have xw:qy[21]? =O (um (lcs D.r1++[44]) (cC 2 (D.dy:Z)) (lcs D.r2) (cC 4 (D.yr:Z)::ij [] (D.ni k))):=M Al (M wP V);refine zI (rest:=[b,d] ++[zH]) Y (adL W Ns D O0 pA hr' xw) FT G8 fun K9 m9 s9 k9 G9 b9 n9=> ?_
 have F:Ab (jz (aH "_law_weekday") (Ae D)) qy (cF.map D.p1) (cH.map D.p2) (.lst (D.cs.map .int)) D.yr D.dy (fun j=>gV D.yr j D.dy) D.wd D.mo:=
  ⟨Ak,by refine M (bQ ..) ?_;rfl,by refine M (bQ ..) ?_;rfl,pA.cs,pA.yr,pA.dy,FR,FS,fun i j hi hj hc=>ua (adS D hj (Fc.feb i j hi hj hc)),⟨_,rfl⟩,Fc.one⟩
 refine oL (adH F O0.bw O0.bm Qq) fun oi oj hf=> ?_
 have hB:dY (aK 35).scope dA (.cons wo (.cons wq (.cons (.kV 24) .nil))) [b,d] =true:=by refine(M h27 (M h28 ?_):(j' _ _ wo b && (j' _ _ wq d && aF))=aF);rfl
 have YW:=Y.y (t9 (T:=c.T) (adT W Ns D O0 Fc.big) (by decide:20≤20));refine tB _ _ (Xx YW hB hf G9 V fun K10 m10 vL k10 rC y6 n10=> ?_)
 have Qr:∀(i:aA) (x:PV),qy[i]? =O x→ev bJ {loc:=qy.map O++[O (.lst [gH D.wd D.mo]),oi,oj]} (.nm i)=O x:=fun i x hx=>by
  have hi:i < qy.length:=(md.mp hx).1
  have:(qy.map O++[O (.lst [gH D.wd D.mo]),oi,oj])[i]? =O (O x):=by refine M (sx (by simpa using hi)) (M im (M hx ?_));rfl
  exact aR jb this
 have adY:ev bJ {loc:=qy.map O++[O (.lst [gH D.wd D.mo]),oi,oj]} (.nm 24)=O (.lst [gH D.wd D.mo]):=by
  have:(qy.map O++[O (.lst [gH D.wd D.mo]),oi,oj])[24]? =O (O (.lst [gH D.wd D.mo])):=by refine M (pM (by refine M (bQ ..) (M Ak ?_);decide)) (M (bQ ..) (M Ak ?_));rfl
  exact aR jb this
 refine wpAny_execs_cons (wpAny_mono (adN Y h29 (Qr 4 _ pA.wd) (Qr 6 _ pA.mo) adY rC) (fun fl vM Qs=> ?_) fun J J e=>e.elim);(refine uQ Qs ?_;clear Qs;rintro rfl MP vR Dq);exact⟨rfl,MP,m10,k1.trans (k2.trans (k3.trans (k4.trans (k5.trans (k6.trans (k7.trans (k8.trans (k9.trans (k10.trans vR))))))))),Dq⟩
end
end
section
noncomputable def stC(a b:aD Z)(o:aG PV)(pl:aU):Sg:={loc:=[O (.lst (a.map .int)),O .bV,o],mu:=O (b.map .int),pl:=pl}
theorem adZ(P:bT)(b:aD Z)(w:b.length≤63)(l:aA)(z:∀x∈b,x.natAbs≤l)(k:aA):∀(j:aA) (a:aD Z) (o:aG PV) (g:aU),j+k=b.length→a.length=6→(∀c∈a,c.natAbs≤3202493070+j*l)→
  ∃f m n,f.length=6∧(∀c∈f,c.natAbs≤3202493070+b.length*l)∧gP (bE P (.cons (.sM 1 (.bin .Mod (.nm 2) (.int 6)) .Add (.sub (.nm 0) (.nm 2))) .nil)) 2 ((qM j k).map fun q=> .int (q:aA)) (stC b a o g)=O (.next,stC b f m n):=by
 induction k with
 |zero=>intro j a o g i d A;obtain rfl:j=b.length:=i;exact⟨a,o,g,d,A,rfl⟩
 |succ k ih=>
  intro j a o g i d p;have B:j < b.length:=bK (ml (hV _ _)) (cI i);have r:(((j:Z) % 6).toNat)=j % 6:=rfl;have s:0≤(j:Z) % 6:=eD _ (by decide);have t:(j:Z) % 6 < a.length:=by refine M d ?_;exact gM _ (by decide)
  have u:∀c,c=a.getD (j % 6) 0→c∈a:=fun c e=>by
   have:j % 6 < a.length:=by refine M d ?_;exact RZ _ (by decide)
   refine M e (M io (M (fD this) ?_));exact mq this
  generalize C:a.getD (j % 6) 0=x at u;have D:=p x (u x V);have E:jq (O (a.map .int)) .bV (.int ((j:Z) % 6))=O (.int x):=(get_map .int 0 s t (by refine M d ?_;decide)).trans (M r (M C V));obtain⟨y,v⟩:∃y,b[j]? =O y:=⟨_,fD B⟩;have F:=z y (kt v)
  (refine pS (ih (j+1) (a.set (j % 6) (x+y)) (O (.int j)) aI (kO (ov _ _ _) (kO V i)) (by refine M GP ?_;exact d) (fun c G=>by
   refine M (ahj ..) (aT (ik ..) ?_);rcases ahk G with h |rfl
   ·exact aL (p c h) (hV _ _)
   ·exact aL (Int.natAbs_add_le x y) (fY D F))) ?_;rintro f m n H I K)
  refine⟨f,m,n,H,I,(ro (σ':=stC b (a.set (j % 6) (x+y)) (O (.int j)) aI) (nx ((V0 (k:=(j:Z) % 6) (xs:=a.map .int) (y:= .int y) (z:= .int (x+y)) V (bM (x:= .int j) (y:= .int 6) V rfl (tn (by decide) (by decide))) E (hZ (x:= .lst (b.map .int)) (y:= .int j) V rfl (DU (aL w (by decide)) v)) CI V s (by refine M (bQ ..) ?_;exact t) (by refine M (bQ ..) (M d ?_);decide)).trans ?_) V)).trans K⟩;refine M r (aT xJ ?_);rfl
theorem ad0(P:bT)(a:aD Z)(b:a.length≤63)(d:aA)(g:∀x∈a,x.natAbs≤d):∃e:aD Z,∃h,e.length=6∧(∀c∈e,c.natAbs≤3202493070+a.length*d)∧bE P Kz {loc:=[O (.lst (a.map .int)),aB,aB]}=O (.ret (.lst (e.map .int)),h):=by(refine pS (adZ P a b d g a.length 0 [739295,97445,13,3202493070,-7,-7] aB aF (mI _) V (by refine M (agl ..) ?_;decide)) ?_;rintro i m n j k f);rw[←uy] at f;have l:xX (a.map .int)=O (.int a.length):=(bB (by refine M (bQ ..) (M cN ?_);exact aL b (by decide))).trans (M (bQ ..) V);refine⟨i,_,j,k,nx (tu (xs:=[.int 739295,.int 97445,.int 13,.int 3202493070,.int (-7),.int (-7)]) V (nS V (by decide) V)) (nx ((tv (N:=a.length) (iU (f:="len") (gE (x:= .lst (a.map .int)) V) l) ⟨cW _,cT.mpr (aL b (by decide))⟩).trans f) (cV (KU V rfl)))⟩
section
theorem ad1(W:Wd w f mb h₀)(b:aD Z)(e:b.length≤63)(d:aA)(g:∀x∈b,x.natAbs≤d):∃a:aD Z,a.length=6∧(∀c∈a,c.natAbs≤3202493070+63*d)∧Ct w f mb h₀ T 1 "_law_cells" [.lst (b.map .int)] (.lst (a.map .int)):=by refine cS (ad0 bJ b e d g) fun a n i j k=>⟨a,i,fun c l=>aL (j c l) (eK (So _ e) _),?_⟩;exact W.fn (n:=0) (i:=27) (P:=bJ) (rest:=[aB,aB]) (by decide) ⟨_,rfl⟩ V VA (fun m J J J h=>pU (fun J=>rfl) m h) Vz fV (fun J J J=>nn) V k V
end
end
section
noncomputable def Qt:Prop:=∀(b a:aD Z),a.length=6→(∀c∈a,gZ c≤1048600)→∃D:bU,D.ns=b∧D.cs=a∧D.Ok∧D.Fact
theorem ad2:∃q,pg.main.body[35]? =O (.FunctionDef (aK 35).name (aK 35).params (aK 35).body [] aB [] (aK 35).scope aB (aK 35).name q)∧(aK 35).params.defaults=[]∧(aK 35).name≠"__name__":=⟨_,rfl,rfl,by decide⟩
theorem ad3(h:c.natAbs≤3202493070+63*2^(2^20)):gZ c≤1048600:=by
 have d:c.natAbs < 2^(2^20+7):=by have a:(3202493070:aA) < 2^(2^20):=bK (by decide:3202493070 < 2^32) (xC (by decide) (by decide));refine M (Sn ..) ?_;generalize 2^(2^20)=b at h a;exact bZ h (bK (QL a _) (aL (cI ((gI ..).trans ((ahj 63 b).symm.trans (Bg ..)))) (uu b (by decide))))
 exact aL (PySem.intBits_le_iff.mpr d) (by decide)
theorem ad4(a':Qt):Lm:=by
 intro w h N mb X d a o bs n P p Q aa ab ae af ah ai aj;refine dB (W1 X) fun T W R C=>dB ad2 fun bt ak al am=> ?_;obtain⟨f,bu,bv,r,bw,bx,E,an,bz,ao,S,c0,c1⟩:=CZ X (kt ak) al am;have ap:(aK 35).name=("law":Str):=by decide+kernel
 replace E:=ap▸E;refine⟨_,E,?_⟩;generalize U:Hj h (T.map (·.P))=h₀ at W R;have sub:∀b o,h₀.get? b=O o→h.get? b=O o:=fun b o e=>by replace e:=Eq.symm U▸e;exact of_hideAll _ e
 have aq:∀t∈T,h₀.get? t.P=none:=fun t g=>by refine aT U ?_;exact hideAll_none _ (AA g)
 have ar:h₀.get? a=none:=by
  cases e:h₀.get? a with
  |none=>rfl|some s=>have:=sub _ _ e;replace this:=Q▸this;exact nn this
 generalize as:PK.put (fun b=>h₀.get? b) a o=K;have u:∀b,K b=if b=a then O o else h₀.get? b:=fun b=>by refine aT as ?_;rfl
 have au:∀b o,h₀.get? b=O o→K b=O o:=fun b s e=>by refine M (u ..) (M (aP (fun z=>by(replace e:=z▸e;replace e:=ar▸e);cases e)) ?_);exact e
 have av:∀b o,K b=O o→d.heap.get? b=O o:=fun b s e=>by
  replace e:=(u ..)▸e
  split at e
  ·rename_i z;cases e;refine M z ?_;exact ab
  ·exact p _ _ (sub _ _ e)
 have aw:∀t∈T,K t.P=none:=fun t g=>by refine xe (C t g) fun c k=>M (u ..) (M (aP (fun z=>by have:=k.2;(replace this:=z▸this;replace this:=Q▸this);exact nn this)) ?_);exact aq t g
 have ax:∀t∈T,t.Ok K d.heap:=fun t g=>by exact xe (C t g) fun c k=>⟨#[],p _ _ k.2,trivial,.inl V⟩
 have ay:d.heap.CodeRec (.ref r) (aK 35).name:=by(refine BE S ?_;clear S;rintro Y s az b0 e b1 b2);exact⟨Y,s,az,b0,e,p _ _ b1,b2⟩
 refine dB (ad1 (T:=T) W P ai (2^(2^20)) (fun x G=>fB (aj x G))) fun b3 b4 b5 b6=> ?_;(refine mV (a' P b3 b4 fun c j=>ad3 (b5 c j)) ?_;rintro D rfl rfl b7 b8)
 refine cell_call (h₀:=h₀) (mg:=N) (mb:=mb) (T:=T) (K:=K) (binds:=[("script",.ref a)]) (by decide) (p _ _ an) ao ay (by rfl) (fun x G=> ?_) (by decide+kernel) (by rfl) (by rfl) (by rfl) au av W.base (by refine M aa ?_;exact fun J h=>by simp at h) aw ax
  fun c b9 b' j F X ba c2=> ?_
 ·refine M (fK.mp G) <| .inl ?_
  show(aK 35).scope.names.lookup ("script":Str)=O .local
  decide+kernel
 have a0:qS (d.heap.objs.size+1) (aK 35).scope.names [] =[(("words":Str),d.heap.objs.size+1)] :=rfl
 obtain⟨v,rfl,bc⟩:∃v,b'=[(d.heap.objs.size+1,v)]∧v.data= .cell none:=by
  replace X:=a0▸X;cases X with |cons bd X=>
  cases X;exact⟨_,rfl,bd⟩
 refine dX (ba (_,v) (.head _)) fun be bf bg bh=> ?_;have a1:c.hE=d.heap:=M j V;have y:c.T=T:=M j V;have H:c.mg=N:=M j V;have a2:c.mb=mb:=M j V;have I:c.h₀=h₀:=M j V;have bi:c.env=nC (aK 35).name (aK 35).scope d.heap.objs.size f (.ref r):=M j V
 have bj:c.env.cells.lookup ("words":Str)=O (d.heap.objs.size+1):=by refine M bi ?_;refine(M a0 ?_:(qS (d.heap.objs.size+1) (aK 35).scope.names []).lookup ("words":Str)=_);rfl
 have bk:ko w (A1.deeper c.env) c:=by refine⟨by refine M H (M a2 (M I ?_));exact W,rfl,by show A1.depth+1+20 < 900;decide,by show A1.units+3+10*20 < 9000;decide,?_⟩;exact M j <|⟨rfl,okZ,rfl,rfl⟩
 have bl:K a=O o:=M (u ..) (M (aS V) V);generalize bm:A5 (nC (aK 35).name (aK 35).scope d.heap.objs.size f (.ref r)).kindOf [("script",.ref a)] (fun J=>aB)=a3 at F
 have bn:a3 "script"=O (.ref a):=by
  refine aT bm ?_
  have c3:(nC (aK 35).name (aK 35).scope d.heap.objs.size f (.ref r)).kindOf ("script":Str)=O .local:=by
   show(aK 35).scope.names.lookup ("script":Str)=O .local
   decide+kernel
  exact rfl
 have bo:Gd w c dA K a3 aB b9 (aX [.lst (D.ns.map .int)]):=by
  refine⟨F,?_,.none,fun J J J z=>by cases z⟩;intro i x k bp A l
  match i,A,l with
  |0,A,l=>
   cases A;cases l;exact⟨.ref a,bn,.lst bl ae af (LS ah)⟩
  |i+1,A,l=>
   exfalso
   replace l:([O (PV.lst (D.ns.map .int))] ++dU 26 aB)[i+1]? =O (O bp):=l;rw[pM (nq _)] at l;have:=kt l;replace this:=QY Bv this;cases this.2
 refine wpAny_mono (adX bk (by refine M H (M I (M y ?_));exact R) D b7 b8 (by refine M H (M a2 (M I (M y ?_)));exact b6.up (by decide)) bj bh bf (by refine M a1 ?_;exact bg) be bc bo) (fun c4 a4 a5=> ?_) fun J J e=>e.elim;(refine HY a5 ?_;clear a5;rintro rfl c5 c6 c7 B);refine⟨rfl,?_,B.os.trans (M j V),B.gens.bare⟩;have a6:∀b o,d.heap.get? b=O o→Off T b→a4.heap.get? b=O o:=fun b o e q=>B.cU b o (by refine M y ?_;exact q) (by refine M a1 ?_;exact e)
 have a7:∀t∈T,∀o,d.heap.get? t.P=O o→isCodeTable d.heap t.P∧∃m,o={cls:= .none,data:= .fields #[]}∧a4.heap.get? t.P=O {cls:= .none,data:= .fields m}:=fun t g o e=>by refine xe (C t g) fun Y k=> ?_;have a8:=k.keeps p;(refine aQ (B.tabs t (by refine M y ?_;exact g)) ?_;rintro m bq _);replace e:=a8.2▸e;cases e;exact⟨a8.isCodeTable,m,rfl,bq⟩
 have a9:∀b,Off T b∨∃t∈T,t.P=b:=fun b=>ah3 (fun h=> .inr h) fun h=> .inl fun t g e=>h ⟨t,g,e⟩;refine⟨fun b o e=> ?_,fun b o e=> ?_⟩
 ·rcases a9 b with q |⟨t,g,rfl⟩
  ·exact .inl (a6 b o e q)
  ·(refine uQ (a7 t g o e) ?_;rintro br m rfl L);exact .inr (.inl ⟨br,rfl,#[],m,rfl,by refine M L ?_;simp⟩)
 ·rcases a9 b with q |⟨t,g,rfl⟩
  ·exact⟨o,a6 b o e q⟩
  ·exact uQ (a7 t g o e) fun J m J L=>⟨_,L⟩
end
section
theorem Qu{k x y:Z}(a:0 < k)(h:x≤y):x - x / k≤y - y / k:=by
 refine xe (qW (ahl.mpr h)) fun d b=> ?_;have e:y=x+(d:Z):=aT b (M (lJ ..) (M (xp ..) V))
 have c:(x+(d:Z)) / k≤x / k+d:=by
  refine aT (xA x d (fC a)) <|SS a (Bp ?_ x)
  have:=sD (show 1≤k from a) (cW d)
  rwa [gL] at this
 refine M e <|Int.le_sub_right_of_add_le (cL (Bp c _) (oz ?_))
 exact aT (qU ..) (M (xp ..) V)
theorem Am{p q:Z}(h:p≤q):ie p≤ie q:=by
 have e:∀p:Z,p - p / 1460+p / 36524 - p / 146096=(p - p / 1460)+(p / 36524 - p / 36524 / 4):=fun p=>by refine M (Bf (by decide)) (M (Int.add_sub_assoc ..) ?_);rfl
 unfold ie;refine M (e p) (M (e q) ?_);exact SS (by decide) (nv (Qu (by decide) h) (Qu (by decide) (SS (by decide) h)))
noncomputable def eU(s:Z):Int:=365*s+s / 4 - s / 100+s / 400
theorem FU(s a:Z):eU (s+400*a)=eU s+146097*a:=by
 have b:(s+400*a) / 4=s / 4+100*a:=by refine M (lR 4 100 a:400*a=4*(100*a)) ?_;exact xA _ _ (by decide)
 have c:(s+400*a) / 100=s / 100+4*a:=by refine M (lR 100 4 a:400*a=100*(4*a)) ?_;exact xA _ _ (by decide)
 have d:(s+400*a) / 400=s / 400+a:=xA _ _ (by decide);unfold eU;refine M b (M c (M d ?_));generalize s / 4=x;generalize s / 100=y;generalize s / 400=z;lia
theorem Qv:∀y < 399,ie (eU (y+1:aA) - 1)=(y:aA)∧ie (eU (y+1:aA))=(y+1:aA)∧eU (y+1:aA)≤eU (y:aA)+366:=by decide+kernel
theorem ad5(p:Z)(h:0≤p∧p≤146096):∃n:aA,n < 400∧ie p=n∧eU n≤p∧p≤eU n+365:=by
 have f:0≤ie p:=Am (p:=0) h.1;have c:ie p≤399:=Am (q:=146096) h.2;refine xe (qW f) fun n a=> ?_;rw[a] at c;have b:n < 400:=dN.mp (iD c (by decide));refine⟨n,b,a,ja.mp fun q=> ?_,ja.mp fun q=> ?_⟩
 ·cases n with
  |zero=>exact absurd h.1 (pD.mpr q)
  |succ m=>
   have:=Am (xn q);rw[a,(Qv m (Hn b)).1] at this;exact absurd (cT.mp this) (Q9 m)
 ·by_cases d:n < 399
  ·refine iH (Qv n d) fun J g i=> ?_;have:=Am (cL i (by have:=Ba q;rwa [qU] at this));rw[a,g] at this;exact absurd (cT.mp this) (Q9 n)
  ·have e:n=399:=SG (jB b) (i8.mp d);rw[e] at q;exact absurd (dD q h.2) (by decide)
theorem ad6:∀l < 366,0≤(hU iV ((l:aA):Z) 2).1∧(hU iV ((l:aA):Z) 2).1≤30∧2≤(hU iV ((l:aA):Z) 2).2∧(hU iV ((l:aA):Z) 2).2≤13∧(153*((hU iV ((l:aA):Z) 2).2 - 2)+2) / 5+(hU iV ((l:aA):Z) 2).1=((l:aA):Z):=by decide+kernel
theorem ad7:∀m < 14,2≤m→(((m:aA):Z) % 12).toNat < 12∧((((m:aA):Z) % 12).toNat:Z)=((m:aA):Z) % 12∧(((m:aA):Z) % 12+10) % 12=((m:aA):Z) - 2∧(((m:aA):Z) / 12=0∧¬((m:aA):Z) % 12 < 2∧2≤(((m:aA):Z) % 12).toNat∨((m:aA):Z) / 12=1∧((m:aA):Z) % 12 < 2):=by decide+kernel
theorem ad8(p:Z)(h:0≤p∧p≤146096):∃c d f:aA,o8 p=((c:Z),(d:Z),(f:Z))∧d < 12∧(1≤f∧f≤31)∧c≤400∧(c=0→2≤d)∧∀n:Z,gV ((c:Z)+400*n) d f=(p+2) % 7:=by
 refine mV (ad5 p h) fun y i v C D=> ?_;have E:((y:aA):Z) / 400=0:=RY (cW _) (dN.mpr i)
 have F:jZ p=p - eU y:=by show p - 365*ie p - ie p / 4+ie p / 100=_;unfold eU;refine M v (M E ?_);generalize((y:aA):Z) / 4=a;generalize((y:aA):Z) / 100=b;lia
 obtain⟨l,j⟩:=qW (ahl.mpr C);have G:l < 366:=dN.mp (by refine aT j ?_;exact Int.lt_add_one_of_le (afw D));refine jo (ad6 l G) fun w k s x z=>M (show o8 p=((ie p+(hU iV (jZ p) 2).2 / 12),(hU iV (jZ p) 2).2 % 12,(hU iV (jZ p) 2).1+1) from rfl) (M F (M j (M v ?_)));generalize hU iV ((l:aA):Z) 2=q at w k s x z;obtain⟨r,m⟩:=q;obtain⟨m,rfl⟩:=qW (cL (by decide) s);obtain⟨r,rfl⟩:=qW w;refine dX (ad7 m (ml (cT.mp x)) (cT.mp s)) fun A g H I=> ?_;have K:p=eU y+l:=aT j (M (lJ ..) (M (xp ..) V))
 have B:∀(S n:Z),S=(y:Z)+400*n→(eU S+(153*((((m:aA):Z) % 12+10) % 12)+2) / 5+((r:Z)+1)+1) % 7=(p+2) % 7:=fun S n e=>by refine M e (M (FU ..) (M H (M K (aT z ?_))));show(eU y+146097*n+(153*((m:Z) - 2)+2) / 5+((r:Z)+1)+1) % 7=(eU y+((153*((m:Z) - 2)+2) / 5+(r:Z))+2) % 7;generalize(153*((m:Z) - 2)+2) / 5=o;refine aT (agI (eU y+(o+(r:Z))+2) 7 (20871*n)) (M (show 7*(20871*n)=146097*n from(lR 7 20871 n).symm) ?_);refine aR (· % 7) ?_;lia
 rcases I with⟨t,u,L⟩ |⟨t,u⟩
 ·refine⟨y,(((m:aA):Z) % 12).toNat,r+1,?_,A,⟨ox 1 r,sF (cT.mp k)⟩,fB i,fun J=>L,fun n=> ?_⟩
  ·show((y:Z)+((m:aA):Z) / 12,_,_)=_;refine M t (M g (M (Int.add_zero ..) ?_));rfl
  ·exact M g <|(aR (fun S=>(eU S+(153*((((m:aA):Z) % 12+10) % 12)+2) / 5+((r:Z)+1)+1) % 7) (aP u)).trans (B _ n V)
 ·refine⟨y+1,(((m:aA):Z) % 12).toNat,r+1,?_,A,⟨ox 1 r,sF (cT.mp k)⟩,i,(fun e=>Gb e),fun n=> ?_⟩
  ·show((y:Z)+((m:aA):Z) / 12,_,_)=_;refine M t (M g ?_);rfl
  ·exact M g <|(aR (fun S=>(eU S+(153*((((m:aA):Z) % 12+10) % 12)+2) / 5+((r:Z)+1)+1) % 7) (aS u)).trans (B _ n (by exact(M (HJ ..) (M (SK ..) V):(y:Z)+1+400*n - 1=_)))
end
section
theorem Qw:∀(a:aD aA) (b:aD Z) (d r m:Z),(∀x∈a,c e x=f i (g x))→lr c e a b d r m=lr f i (a.map g) b d r m
 |[],_,_,_,_,_=>rfl| _::_,[],_,_,_,_=>rfl
 |x::a,r::b,d,k,m,h=>by refine M gJ (M (DP V) (M (DP V) (aT (h x (iN ..)) ?_)));exact M (Qw a b _ _ _ fun y j=>h y (hX _ j)) V
theorem FV:∀(c:aD aA) (k:aA) (d:aD Z) (e:Z),(∀b∈c,∀x∈a,i b x=j (f b) (g x))→pa i a l c k d e=pa j (a.map g) l (c.map f) k d e
 |[],_,_,_,_=>rfl
 |b::c,k,d,e,h=>by refine M gJ (M DQ (M DQ ?_));exact M (Qw a d _ _ _ (h b (iN ..))) (M (FV c (k+1) _ _ fun y m=>h y (hX _ m)) V)
theorem FW:∀(a b:aD aA),(∀x∈a,∀y∈b,(x=y↔g x=f y))→kH (a.map g) (b.map f)=((kH a b).1.map g,(kH a b).2.map f)
 |[],_,_=>rfl| _::_,[],_=>rfl
 |x::a,y::b,h=>by
  have c:=h x (iN ..) y (iN ..);refine M gJ (M gJ (M v5 (M v5 ?_)))
  by_cases e:x=y
  ·refine M (aS e) (M (aS (c.mp e)) ?_);exact FW a b fun u d v i=>h u (hX _ d) v (hX _ i)
  ·exact M (aP e) (M (aP (fun q=>e (c.mpr q))) (M gJ (M gJ V)))
theorem An:∀(a b:aD aA),(∀x∈(kH a b).1,x∈a)∧(∀x∈(kH a b).2,x∈b)
 |[],_=>⟨fun J h=>((cO h).elim),fun J h=>h⟩| _::_,[] =>⟨fun J h=>h,fun J h=>((cO h).elim)⟩
 |x::a,y::b=>by
  refine M v5 ?_
  by_cases e:x=y
  ·exact M (aS e) <|⟨fun u c=>hX _ ((An a b).1 u c),fun u c=>hX _ ((An a b).2 u c)⟩
  ·exact M (aP e) <|⟨fun u c=>c,fun u c=>c⟩
theorem map_eq_iff:∀(a b:aD aA),(∀x∈a,∀y∈b,(x=y↔g x=f y))→(a=b↔a.map g=b.map f)
 |[],[],_=>⟨fun J=>rfl,fun J=>rfl⟩|[],_::_,_=>⟨(fun h=>(by contradiction)),(fun h=>(by contradiction))⟩| _::_,[],_=>⟨(fun h=>(by contradiction)),(fun h=>(by contradiction))⟩
 |x::a,y::b,h=>by rw[gJ,gJ,Gu,Gu,h x (iN ..) y (iN ..),map_eq_iff a b fun u c v d=>h u (hX _ c) v (hX _ d)]
theorem Qx(n:Z)(h:∀x∈a,∀y∈b,(x=y↔g x=f y)∧i x y=uq (g x) (f y)∧i y x=uq (f y) (g x)):qu i a b n=qu uq (a.map g) (b.map f) n:=by
 unfold qu
 by_cases e:a=b
 ·exact M (aS e) (M (aS ((map_eq_iff a b fun x c y d=>(h x c y d).1).mp e)) V)
 ·refine M (aP e) (M (aP fun q=>e ((map_eq_iff a b fun x c y d=>(h x c y d).1).mpr q)) ?_);simp only;refine M (FW a b fun x c y d=>(h x c y d).1) <|xa (An a b) fun l m=> ?_
  generalize kH a b=p at l m;have t:∀x∈p.1.reverse,∀y∈p.2.reverse,(x=y↔g x=f y):=fun x c y d=>(h x (l x (pL.mp c)) y (m y (pL.mp d))).1;refine aT uE (aT uE (M (FW _ _ t) ?_));refine xa (An p.1.reverse p.2.reverse) fun o r=> ?_;generalize kH p.1.reverse p.2.reverse=q at o r;simp only;refine aT uE (aT uE ?_);have j:∀x∈q.1.reverse,∀y∈q.2.reverse,i x y=uq (g x) (f y)∧i y x=uq (f y) (g x):=fun x c y d=>(h x (l x (pL.mp (o x (pL.mp c)))) y (m y (pL.mp (r y (pL.mp d))))).2;generalize q.1.reverse=u at j;generalize q.2.reverse=v at j;unfold zb;refine M (bQ ..) (M (bQ ..) ?_);have s:(u.map g=[]∨v.map f=[])↔(u=[]∨v=[]):=or_congr ahm ahm
  by_cases k:u=[]∨v=[]
  ·exact M (aS k) (M (aS (s.mpr k)) V)
  ·refine M (aP k) (M (aP fun q=>k (s.mp q)) ?_)
   split
   ·split
    ·rfl
    ·exact FV u 0 _ _ fun x c y d=>(j x c y d).1
   ·split
    ·rfl
    ·exact FV v 0 _ _ fun y d x c=>(j x c y d).2
theorem FX(g:aA→aA)(x:aD aA)(k:aA):iz (x.map g) k=(iz x k).map g:=by unfold iz;exact M iE (M qH (M Bk V))
theorem FZ(x:aD aA)(k:aA):∀c∈iz x k,c∈x:=fun c a=>by
 rcases jF.mp a with h |h
 ·exact Bc h
 ·exact Bb h
theorem Qy{low:aD aA}(h:∀x∈r,∀y∈low,(x=y↔g x=f y)):dS (r.map g) (low.map f)=dS r low:=by
 have d:∀k,kG (r.map g) (low.map f) k=kG r low k:=fun k=>by
  unfold kG;refine M (bQ ..) (M (FX ..) (M (FX ..) ?_));have i:(if r.length=2 then r.map g else(iz r k).map g)=(if r.length=2 then r else iz r k).map g:=by split<;>rfl
  have j:(if r.length=4 then low.map f else(iz low k).map f)=(if r.length=4 then low else iz low k).map f:=by split<;>rfl
  refine M i (M j ?_)
  have l:∀c∈(if r.length=2 then r else iz r k),c∈r:=fun c a=>by
   split at a
   ·exact a
   ·exact FZ r k c a
  have m:∀c∈(if r.length=4 then low else iz low k),c∈low:=fun c a=>by
   split at a
   ·exact a
   ·exact FZ low k c a
  have:=map_eq_iff (g:=g) (f:=f) (if r.length=2 then r else iz r k) (if r.length=4 then low else iz low k) fun x n y o=>h x (l x n) y (m y o);generalize(if r.length=2 then r else iz r k)=u at this;generalize(if r.length=4 then low else iz low k)=v at this
  by_cases e:u=v
  ·exact M (beq_iff_eq.mpr e) (M (beq_iff_eq.mpr (this.mp e)) V)
  ·exact M (beq_eq_false_iff_ne.mpr e) (M (beq_eq_false_iff_ne.mpr fun q=>e (this.mpr q)) V)
 have p:∀b,lq (r.map g) (low.map f) b=lq r low b:=by
  intro b
  induction b with
  |nil=>rfl
  |cons k b ih=>
   exact(M (d ..) (M (bQ ..) (M ih rfl)):(if kG (r.map g) (low.map f) k=aF then(if k=0∧(r.map g).length < 4 then 2 else 3) else lq (r.map g) (low.map f) b)=(if kG r low k=aF then(if k=0∧r.length < 4 then 2 else 3) else lq r low b))
 unfold dS;refine M (p ..) ?_
 by_cases e:r=low
 ·exact M (aS e) (M (aS ((map_eq_iff r low h).mp e)) V)
 ·exact M (aP e) (M (aP fun q=>e ((map_eq_iff r low h).mpr q)) V)
theorem wQ(r low:aD aA):1≤dS r low∧dS r low≤4∧(dS r low=1→r=low):=by
 have d:∀a,2≤lq r low a∧lq r low a≤4:=by
  intro a
  induction a with
  |nil=>exact(by decide:(2:Z)≤4∧(4:Z)≤4)
  |cons k a ih=>
   show 2≤(if kG r low k=aF then(if k=0∧r.length < 4 then(2:Z) else 3) else lq r low a)∧(if kG r low k=aF then(if k=0∧r.length < 4 then(2:Z) else 3) else lq r low a)≤4
   by_cases h:kG r low k=aF
   ·refine M (aS h) ?_
    by_cases b:k=0∧r.length < 4
    ·refine M (aS b) ?_;decide
    ·refine M (aP b) ?_;decide
   ·refine M (aP h) ?_;exact ih
 by_cases h:r=low
 ·refine M (show dS r low=1 from aS h) ?_;exact⟨by decide,by decide,fun J=>h⟩
 ·refine M (show dS r low=_ from aP h) <|xa (d [0,1,2,3]) fun c b=> ?_
  exact⟨cL (by decide) c,b,fun e=>absurd (e▸c) (by decide)⟩
end
section
noncomputable def mH(c d:aA):Int:=if c=d then 0 else if bA c=bA d then 1 else 2
theorem Qz(e:kL c)(f:kL d):cost c d=mH c d:=by
 have low:∀{c:aA},kL c→cD (one c)=one (bA c):=fun{c} h=>wu (l:=[c]) (by intro x g;refine M (fK.mp g) ?_;exact h.Fa);have a:∀{c d:aA},one c=one d↔c=d:=fun{c d}=>⟨fun h=>by have:=aR wD h;exact this,fun h=>M h V⟩;unfold cost tN mH;refine M (low e) (M (low f) ?_)
 by_cases h:c=d
 ·exact M (aS h) (M (aS (a.mpr h)) V)
 ·refine M (aP h) (M (aP fun q=>h (a.mp q)) ?_)
  by_cases b:bA c=bA d
  ·exact M (aS b) (M (aS (a.mpr b)) V)
  ·exact M (aP b) (M (aP fun q=>b (a.mp q)) V)
noncomputable def Xs(x:aA):Prop:=(97≤x∧x≤122)∨x∈ot
theorem Xs.sgn(h:Xs x):kL x:=h.elim (fun h=> .inl (.inr h)) .inr
noncomputable def Ao:aD Nat:=(mK 26).map (· +97)++ot
theorem Xs.mem(h:Xs x):x∈Ao:=h.elim (fun h=>kU _ (iX.mpr ⟨x - 97,ag6.mpr (Hx h.1 (ml h.2)),r9 h.1⟩)) (j7 _)
theorem ad9(h:65≤a∧a≤90):bA a=a+32:=aS h
noncomputable def gS(z:Str)(x:aA):Nat:=if x=z.cps.getD 0 0+32 then 97 else if x=z.cps.getD 1 0 then 98 else if x=z.cps.getD 2 0 then 99 else if x=z.cps.getD 0 0 then 65 else 48
theorem wR:∀z∈cF++cH,(cD z).cps.toList.map (gS z)=[97,98,99]∧z.cps.toList.map (gS z)=[65,98,99]∧(∀s∈ot,gS z s=48)∧∀y∈z.cps.toList,(65≤y∧y≤90)∨(97≤y∧y≤122):=by decide+kernel
theorem QA:∀z∈cF++cH,∀y∈(cD z).cps.toList,∀x∈Ao,(x=y↔gS z x=gS z y):=by decide+kernel
theorem ad':∀z∈cF++cH,∀y∈z.cps.toList,∀x∈Ao,(x=y↔gS z x=gS z y)∧mH x y=mH (gS z x) (gS z y)∧mH y x=mH (gS z y) (gS z x):=by decide+kernel
theorem QB:∀z∈cF++cH,∀x∈Ao,gS z x∈[97,98,99,48] :=by decide+kernel
theorem QC(b:z∈cF++cH)(a:Xs x)(y:aA)(c:y∈z.cps.toList):(x=y↔gS z x=gS z y)∧cost x y=mH (gS z x) (gS z y)∧cost y x=mH (gS z y) (gS z x):=by have d:kL y:= .inl ((wR z b).2.2.2 y c);refine M (Qz a.sgn d) (M (Qz d a.sgn) ?_);exact ad' z b y c x a.mem
noncomputable def wS:aA→aD (aD aA)
 |0=>[[]]|n+1=>(wS n).flatMap fun t=>[97,98,99,48].map (· ::t)
theorem aea(t:aD aA):(∀c∈t,c∈[97,98,99,48])→t∈wS t.length:=by
 induction t with
 |nil=>exact fun J=>iN ..|cons c t ih=>exact fun h=>SM.mpr ⟨t,ih fun x a=>h x (hX _ a),iX.mpr ⟨c,h c (iN ..),rfl⟩⟩
theorem aeb:∀t∈wS 2++wS 3++wS 4,jA (qu mH t [65,98,99] 3)=dS t [97,98,99]∧jA (qu mH [65,98,99] t 3)=dS t [97,98,99] :=by decide+kernel
theorem QD(f:z∈cF++cH)(g:∀c∈x,Xs c)(l:2≤x.length)(i:x.length≤4):
  jA (rH x z.cps.toList 3)=dS x (cD z).cps.toList∧jA (rH z.cps.toList x 3)=dS x (cD z).cps.toList:=by
 refine iH (wR z f) fun m o J=> ?_;unfold rH
 rw[Qx (uq:=mH) (g:=gS z) (f:=gS z) 3 (fun u b y d=>QC f (g u b) y d),Qx (uq:=mH) (a:=z.cps.toList) (g:=gS z) (f:=gS z) 3 (fun y d u b=>by exact iH (QC f (g u b) y d) fun j p q=>⟨⟨fun e=>(j.mp e.symm).symm,fun e=>(j.mpr e.symm).symm⟩,q,p⟩),o,←Qy (g:=gS z) (f:=gS z) (r:=x) (low:=(cD z).cps.toList) (fun u b y d=>QA z f y d u (g u b).mem),m]
 have a:=aea (x.map (gS z)) fun y d=>by(refine aQ (iX.mp d) ?_;rintro u b rfl);exact QB z f u (g u b).mem
 rw[bQ] at a;refine aeb _ <|xe (Nat.exists_eq_add_of_le l) fun k r=> ?_
 rw[r] at a i
 match k,i,a with
 |0,_,a=>exact kU _ (kU _ a)|1,_,a=>exact kU _ (j7 _ a)|2,_,a=>exact j7 _ a|n+3,h,_=>exact absurd h (Nat.not_le.mpr (by refine M (gI 2 ..) (M (ik ..) ?_);exact ox 5 n))
end
section
noncomputable def lF(n x:aD aA):Prop:=x=n∨(∃k < 3,x=iz n k)∨(∃k < 4,∃s,Xs s∧x=n.take k++s::n.drop k)∨(∃k < 3,∃s∈ot,x=n.set k s)
theorem aec(d:Z)(b:aU):Xs (jK d b):=by
 refine xa (rZ d b) fun a c=> ?_;rcases a with(h |h) |h
 ·rw[ad9 h] at c;omega
 ·exact .inl h
 ·exact .inr h
theorem aed(d:Z):jK d aI∈ot:=by
 unfold jK
 have a:∀k:aA,k < 16→(jy.getD k 0).toNat∈ot:=fun k b=>iX.mpr ⟨jy.getD k 0,by refine M io (M (fD (b:k < jy.length)) ?_);exact mq ..,rfl⟩
 exact a _ ((lP (eD _ (by decide))).mpr (gM _ (by decide)):(d % 16).toNat < 16)
theorem aee(d:k < 3):lcs (([a,b,c].map fun c=>(aI,c)).set k (aF,v))=iz ([a,b,c].map bA) k:=
 qx (C:=fun k=>lcs (([a,b,c].map fun c=>(aI,c)).set k (aF,v))=iz ([a,b,c].map bA) k) d V rfl rfl
theorem aef(d:k < 4):lcs (([a,b,c].map fun c=>(aI,c)).take k++(aI,s)::([a,b,c].map fun c=>(aI,c)).drop k)=([a,b,c].map bA).take k++bA s::([a,b,c].map bA).drop k:=
 wy (C:=fun k=>lcs (([a,b,c].map fun c=>(aI,c)).take k++(aI,s)::([a,b,c].map fun c=>(aI,c)).drop k)=([a,b,c].map bA).take k++bA s::([a,b,c].map bA).drop k) d V rfl rfl rfl
theorem aeg(d:k < 3):lcs (([a,b,c].map fun c=>(aI,c)).set k (aI,s))=([a,b,c].map bA).set k (bA s):=
 qx (C:=fun k=>lcs (([a,b,c].map fun c=>(aI,c)).set k (aI,s))=([a,b,c].map bA).set k (bA s)) d V rfl rfl
theorem QE(l:f.length=3)(d g:Z):lF (f.map bA) (lcs (jS f d g))∧(d / 4 % 2≠g→lcs (jS f d g)=f.map bA):=by
 obtain⟨a,b,c,rfl⟩:∃a b c,f=[a,b,c] :=by
  match f,l with
  |[a,b,c],_=>exact⟨a,b,c,rfl⟩
 by_cases i:d / 4 % 2≠g∨d % 4=0
 ·have e:lcs (jS [a,b,c] d g)=[a,b,c].map bA:=aR lcs (aS i);exact⟨.inl e,fun J=>e⟩
 refine⟨?_,fun h=>absurd (Or.inl h) i⟩;have e:jS [a,b,c] d g=_:=aP i
 by_cases j:d % 4=1
 ·exact .inr (.inl ⟨_,mG (m:=3) (by decide),(aR lcs (e.trans (aS j))).trans (aee (mG (m:=3) (by decide)))⟩)
 by_cases k:d % 4=2
 ·exact .inr (.inr (.inl ⟨_,mG (m:=4) (by decide),_,aec (d / 96) aF,((aR lcs (e.trans ((aP j).trans (aS k)))).trans (aef (mG (m:=4) (by decide)))).trans (by refine M ((rZ (d / 96) aF).2) ?_;rfl)⟩))
 ·exact .inr (.inr (.inr ⟨_,mG (m:=3) (by decide),_,aed (d / 96),((aR lcs (e.trans ((aP j).trans (aP k)))).trans (aeg (mG (m:=3) (by decide)))).trans (by refine M ((rZ (d / 96) aI).2) ?_;rfl)⟩))
theorem lF.xs(h:lF n x)(a:∀c∈n,Xs c):∀c∈x,Xs c:=by
 intro c b;rcases h with rfl |⟨k,_,rfl⟩ |⟨k,_,s,d,rfl⟩ |⟨k,_,s,d,rfl⟩
 ·exact a c b
 ·exact a c (FZ _ _ c b)
 ·rcases jF.mp b with h |h
  ·exact a c (Bc h)
  ·rcases gA.mp h with rfl |h
   ·exact d
   ·exact a c (Bb h)
 ·rcases ahk b with h |rfl
  ·exact a c h
  ·exact .inr d
theorem QF(a:n.length=3)(b:k < 3):(iz n k).length=2:=by unfold iz;refine M bH (M ow (M iP (M a ?_)));exact qx (C:=fun k=>min k 3+(3 - (k+1))=2) b V rfl rfl
theorem QG{n:aD aA}(a:n.length=3){k s:aA}(b:k < 4):(n.take k++s::n.drop k).length=4:=by refine M bH (M j3 (M ow (M iP (M a ?_))));exact wy (C:=fun k=>min k 3+(3 - k+1)=4) b V rfl rfl rfl
theorem lF.len(h:lF n x)(a:n.length=3):2≤x.length∧x.length≤4:=by
 rcases h with e |⟨k,b,e⟩ |⟨k,b,s,c,e⟩ |⟨k,_,s,c,e⟩ <;>refine M e ?_
 ·refine M a ?_;decide
 ·refine M (QF a b) ?_;decide
 ·refine M (QG a b) ?_;decide
 ·refine M GP (M a ?_);decide
theorem lF.other(h:lF n x)(b:n.length=3)(d:x≠n)(f:m.length=3)(i:∀c∈m,c < 128):x≠m:=by
 intro q;rw[q] at h d;rcases h with e |⟨k,a,e⟩ |⟨k,a,s,g,e⟩ |⟨k,a,s,g,e⟩
 ·exact d e
 ·exact absurd (f.symm.trans ((aR nk e).trans (QF b a)):3=2) (by decide)
 ·exact absurd (f.symm.trans ((aR nk e).trans (QG b a)):3=4) (by decide)
 ·exact absurd (i s (by refine M e ?_;exact List.mem_set (by refine M b ?_;exact a) s)) (i8.mpr (uh _ g).2.2.2.1)
noncomputable def F7(n:aD aA):aD (aD aA):=n::([0,1,2].map (iz n)++[0,1,2,3].flatMap (fun k=>[97,98,99,48].map fun s=>n.take k++s::n.drop k)++[0,1,2].map fun k=>n.set k 48)
theorem lF.renamed(h:lF n x)(c:z∈cF++cH):x.map (gS z)∈F7 (n.map (gS z)):=by
 have d:=(wR z c).2.2.1;have f:∀s,Xs s→gS z s∈[97,98,99,48] :=fun s a=>QB z c s a.mem;generalize gS z=g at d f;have i:∀{k},k < 3→k∈[0,1,2] :=fun{k} h=>qx (C:=(· ∈[0,1,2])) h (by decide) (by decide) (by decide);rcases h with e |⟨k,b,e⟩ |⟨k,b,s,a,e⟩ |⟨k,b,s,a,e⟩ <;>refine M e ?_
 ·exact iN ..
 ·exact hX _ (kU _ (kU _ (iX.mpr ⟨k,i b,FX g n k⟩)))
 ·exact hX _ (kU _ (j7 _ (SM.mpr ⟨k,wy (C:=(· ∈[0,1,2,3])) b (by decide) (by decide) (by decide) (by decide),iX.mpr ⟨g s,f s a,by exact M iE (M gJ (M qH (M Bk V)))⟩⟩)))
 ·exact hX _ (j7 _ (iX.mpr ⟨k,i b,by exact M xJ (M (d s a) V)⟩))
noncomputable def wT(i:aA):Str:=cF.getD i ⟨#[]⟩
noncomputable def ur(i:aA):Str:=cH.getD i ⟨#[]⟩
noncomputable def lG(i:aA):aD Nat:=(cD (wT i)).cps.toList
noncomputable def kN(i:aA):aD Nat:=(cD (ur i)).cps.toList
noncomputable def ut:aD (aA×aA):=[(0,5),(2,3),(2,4),(3,2),(4,2),(5,0),(5,6),(6,5)]
theorem aeh:∀t∈F7 [97,98,99],dS t [97,98,99]≤3:=by decide+kernel
theorem aei:∀w < 7,∀i < 7,w≠i→dS (lG w) (lG i)=4:=by decide+kernel
theorem aej:∀w < 12,∀i < 12,w≠i→3≤dS (kN w) (kN i):=by decide+kernel
theorem aek:∀m < 12,∀j < 12,(F7 ((kN m).map (gS (ur j)))).all (fun t=>decide (4≤dS t [97,98,99]) ||(decide (m=j) ||decide ((m,j)∈ut)))=true:=by decide+kernel
theorem r7:∀i < 7,lG i=(jO i).map bA∧(lG i).length=3∧∀c∈lG i,97≤c∧c≤122:=by decide+kernel
theorem wU:∀i < 12,kN i=(jP i).map bA∧(kN i).length=3∧∀c∈kN i,97≤c∧c≤122:=by decide+kernel
theorem QH(h:i < 7):wT i∈cF++cH∧wT i∈cF:=by
 have:i < cF.length:=h
 have e:wT i∈cF:=by unfold wT;refine M io (M (fD this) ?_);exact mq ..
 exact⟨kU _ e,e⟩
theorem Ap(h:i < 12):ur i∈cF++cH∧ur i∈cH:=by
 have:i < cH.length:=h
 have e:ur i∈cH:=by unfold ur;refine M io (M (fD this) ?_);exact mq ..
 exact⟨j7 _ e,e⟩
theorem QI(a:z∈cF++cH)(b:∀c∈x,Xs c):dS x (cD z).cps.toList=dS (x.map (gS z)) [97,98,99] :=
 aT (Qy (g:=gS z) (f:=gS z) (r:=x) (low:=(cD z).cps.toList) (fun u d y e=>QA z a y e u (b u d).mem)) (M ((wR z a).1) V)
theorem Aq{l:aD aA}(h:∀c∈l,97≤c∧c≤122):∀c∈l,Xs c:=fun c a=> .inl (h c a)
theorem QJ{z:Str}(a:z∈cF++cH){x:aD aA}(b:∀c∈(cD z).cps.toList,97≤c∧c≤122)(h:lF (cD z).cps.toList x):dS x (cD z).cps.toList≤3:=by exact M (QI a (h.xs (Aq b))) <|aeh _ ((wR z a).1▸h.renamed a)
theorem ael{m j:aA}(c:m < 12)(a:j < 12){x:aD aA}(h:lF (kN m) x)(b:dS x (kN j)≤3):m=j∨(m,j)∈ut:=by have d:=h.xs (Aq (wU m c).2.2);have b:=cL (oz (QI (Ap a).1 d).symm) b;have:=j2.mp (aek m c j a) _ (h.renamed (Ap a).1);rw[eP fun q=>absurd (cL q b) (by decide),Bool.false_or] at this;exact(RM _ _▸this:_∨_).imp kQ kQ
theorem aem:∀r < 400,eU (r:aA)=eU ((r:aA)+ -1)+365∨eU (r:aA)=eU ((r:aA)+ -1)+366:=by decide+kernel
theorem aen(y:Z):eU y=eU (y - 1)+365∨eU y=eU (y - 1)+366:=by
 have h:=aem (y % 400).toNat (mG (m:=400) (by decide));rw[j4 (eD _ (by decide))] at h;have e:y % 400+400*(y / 400)=y:=afI y 400;have c:y - 1=y % 400+ -1+400*(y / 400):=by refine M (HJ ..) (M e ?_);rfl
 have a:=FU (y % 400) (y / 400);have b:=FU (y % 400+ -1) (y / 400);rw[e] at a;rw[←c] at b;refine M a (M b ?_);exact h.imp (fun h=>by exact M h (M (HJ ..) V)) fun h=>by exact M h (M (HJ ..) V)
theorem off_ne{S:Z}(h:(x - y) % 7≠0):(S+x+d+1) % 7≠(S+y+d+1) % 7:=fun e=>h (by
 have:=Int.emod_eq_emod_iff_emod_sub_eq_zero.mp e
 rwa [show S+x+d+1 - (S+y+d+1)=x - y from(ahn ..).trans ((ahn ..).trans (Int.add_sub_add_left ..))] at this)
theorem aeo(y d:Z)(a:(x - (365+z)) % 7≠0)(b:(x - (366+z)) % 7≠0):(eU (y - 1)+x+d+1) % 7≠(eU y+z+d+1) % 7:=by
 rcases aen y with e |e<;>refine M e (M (qU (eU (y - 1)) _ z) ?_)
 ·exact off_ne a
 ·exact off_ne b
theorem aep{m j:aA}(h:(m,j)∈ut)(y d:Z):gV y (m:Z) d≠gV y (j:Z) d:=by
 have i:∀p∈ut,gV y (p.1:aA) d≠gV y (p.2:aA) d:=by
  have k:gV y (0:aA) d=(eU (y - 1)+306+d+1) % 7:=rfl;have a:gV y (2:aA) d=(eU y+0+d+1) % 7:=rfl;have l:gV y (3:aA) d=(eU y+31+d+1) % 7:=rfl;have n:gV y (4:aA) d=(eU y+61+d+1) % 7:=rfl;have b:gV y (5:aA) d=(eU y+92+d+1) % 7:=rfl;have o:gV y (6:aA) d=(eU y+122+d+1) % 7:=rfl;have c:gV y (0:aA) d≠gV y (5:aA) d:=by refine M k (M b ?_);exact aeo y d (by decide) (by decide)
  have e:gV y (2:aA) d≠gV y (3:aA) d:=by refine M a (M l ?_);exact off_ne (by decide)
  have f:gV y (2:aA) d≠gV y (4:aA) d:=by refine M a (M n ?_);exact off_ne (by decide)
  have g:gV y (5:aA) d≠gV y (6:aA) d:=by refine M b (M o ?_);exact off_ne (by decide)
  exact jk.mpr ⟨c,jk.mpr ⟨e,jk.mpr ⟨f,jk.mpr ⟨e.symm,jk.mpr ⟨f.symm,jk.mpr ⟨c.symm,jk.mpr ⟨g,jk.mpr ⟨g.symm,fun J h=>(cO h).elim⟩⟩⟩⟩⟩⟩⟩⟩
 exact i (m,j) h
end
section
theorem QK(h:jA p=n)(a:1≤n):1≤p:=by
 by_cases c:4 < p
 ·exact cJ (uG (by decide) c)
 ·rw[←h] at a;exact(show jA p=p from aP c)▸a
theorem aeq(b:jA p=n)(d:jA q=m)(g:1≤n)(i:1≤m):p+q≤4↔n+m≤4:=by
 have j:=QK b g;have k:=QK d i;have a:∀{x y:Z},4≤x→1≤y→¬x+y≤4:=fun l o h=>absurd (cL (nv l o) h) (by decide)
 by_cases c:4 < p
 ·have e:n=4:=b.symm.trans (aS c);exact iff_of_false (a (cJ c) k) (a (oz e.symm) i)
 ·by_cases f:4 < q
  ·have e:m=4:=d.symm.trans (aS f);refine M (lJ p ..) (M (lJ n ..) ?_);exact iff_of_false (a (cJ f) j) (a (oz e.symm) g)
  ·rw[←b,←d,show jA p=p from aP c,show jA q=q from aP f]
theorem map_getD{f:Str→Z}{l:aD Str}{i:aA}(h:i < l.length):(l.map f).getD i 0=f (l.getD i ⟨#[]⟩):=by refine M io (M io (M im (M (fD h) ?_)));rfl
theorem aer(D:bU)(a:D.Ok)(I:gZ D.c4≤1048600)(p:gV D.yr D.mo D.dy=D.wd)(K:D.yr=0→2≤D.mo):D.Fact:=by
 refine xa (QE (ub a.bw) D.c2 0) fun f k=>xa (QE (uc a.bm) D.c2 1) fun g m=> ?_;rw[←(r7 D.wd a.bw).1] at f k;rw[←(wU D.mo a.bm).1] at g m;have f:lF (lG D.wd) (lcs D.r1):=f;have g:lF (kN D.mo) (lcs D.r2):=g;have k:D.c2 / 4 % 2≠0→lcs D.r1=lG D.wd:=k;have m:D.c2 / 4 % 2≠1→lcs D.r2=kN D.mo:=m;have L:=f.xs (Aq (r7 D.wd a.bw).2.2);have N:=g.xs (Aq (wU D.mo a.bm).2.2);have x:=f.len (r7 D.wd a.bw).2.1;have y:=g.len (wU D.mo a.bm).2.1;have A:∀z∈cF,jA (D.p1 z)=dS (lcs D.r1) (cD z).cps.toList:=fun z r=>(QD (kU _ r) L x.1 x.2).1;have B:∀z∈cH,jA (D.p2 z)=dS (lcs D.r2) (cD z).cps.toList:=fun z r=>(QD (j7 _ r) N y.1 y.2).2
 have sum:∀i j:aA,i < 7→j < 12→((cF.map D.p1).getD i 0+(cH.map D.p2).getD j 0≤4↔dS (lcs D.r1) (lG i)+dS (lcs D.r2) (kN j)≤4):=fun i j d b=>by refine M (map_getD (d:i < cF.length)) (M (map_getD (b:j < cH.length)) ?_);exact aeq (A _ (QH d).2) (B _ (Ap b).2) (wQ (lcs D.r1) (lG i)).1 (wQ (lcs D.r2) (kN j)).1
 have P:dS (lcs D.r1) (lG D.wd)≤3:=QJ (QH a.bw).1 (r7 D.wd a.bw).2.2 f;have Q:dS (lcs D.r2) (kN D.mo)≤3:=QJ (Ap a.bm).1 (wU D.mo a.bm).2.2 g;have E:∀j,j < 12→dS (lcs D.r2) (kN j)≤3→D.mo=j∨(D.mo,j)∈ut:=fun j b h=>ael a.bm b g h;have F:∀{l:aD aA},dS l l=1:=fun{l}=>aS V;refine⟨A,B,fun i j d b h=> ?_,fun i j d b=>⟨fun⟨h,s⟩=> ?_,fun⟨n,t⟩=> ?_⟩,I⟩
 ·rw[sum i j d b] at h;have u:=wQ (lcs D.r1) (lG i);intro⟨R,v⟩;have v:j=1:=pN.mp (kO v (by decide));subst v;rcases E 1 (by decide) (by lia) with e |e
  ·have:=K (pN.mp (kO R (by decide)));lia
  ·simp[ut] at e
 ·rw[sum i j d b] at h;have u:=wQ (lcs D.r1) (lG i);have a0:=wQ (lcs D.r2) (kN j)
  by_cases n:lcs D.r1=lG D.wd
  ·
   rw[n] at h u
   have G:i=D.wd:=AF fun w=>by have:=aei D.wd a.bw i d (Ne.symm w);lia
   refine⟨G,?_⟩;rcases E j b (by lia) with e |e
   ·exact e.symm
   ·have:=aep e D.yr D.dy;rw[p,s,G] at this;exact absurd rfl this
  ·
   have o:D.c2 / 4 % 2=0:=AF fun q=>n (k q);have t:=m (SR (iD (oz o) (by decide)));rw[t] at h
   have a3:dS (lcs D.r1) (lG i)≠1:=fun q=>by have:=u.2.2 q;exact lF.other f (r7 D.wd a.bw).2.1 n (r7 i d).2.1 (fun c U=>bZ ((r7 i d).2.2 c U).2 (by decide)) this
   have H:j=D.mo:=AF fun w=>by have:=aej D.mo a.bm j b (Ne.symm w);lia
   refine⟨?_,H⟩;rw[H,p] at s;exact Eq.symm (pN.mp s)
 ·subst n t;refine⟨(sum D.wd D.mo d b).mpr ?_,p⟩
  by_cases o:D.c2 / 4 % 2=0
  ·refine M (m (SR (iD (oz o) (by decide)))) (M F ?_);exact Ba (iD P (by decide))
  ·refine M (k o) (M F ?_);exact cL (Bp Q _) (by decide)
theorem aes:Qt:=by
 intro ns b c d
 obtain⟨c0,c1,c2,c3,c4,c5,rfl⟩:∃c0 c1 c2 c3 c4 c5,b=[c0,c1,c2,c3,c4,c5] :=
  Ts c
 refine oM (ad8 (c0 % 146097) (by lia)) fun y0 mo dy e f g m i j=> ?_
 let D:bU:={ns:=ns,c0:=c0,c1:=c1,c2:=c2,c3:=c3,c4:=c4,c5:=c5,wd:=((c0 % 146097+2) % 7).toNat,yr:=((y0:Z)+400*(c0 / 146097 % 30)).toNat,y0:=y0,mo:=mo,dy:=dy,zi:=(c1 / 86400 % 4).toNat,hh:=(c1 % 86400 / 3600).toNat,mi:=(c1 % 86400 / 60 % 60).toNat,se:=(c1 % 86400 % 60).toNat}
 have a:D.Ok:=by
  refine⟨?_,e,?_,?_,?_,?_,?_,?_,?_,f,g,?_,?_,?_,?_⟩
  ·exact(j4 (eD _ (by decide))).symm
  ·exact(j4 (qN (cW _) (oG (by decide) (eD _ (by decide))))).symm
  ·exact(j4 (eD _ (by decide))).symm
  ·exact(j4 (kR (eD _ (by decide)) (by decide))).symm
  ·exact(j4 (eD _ (by decide))).symm
  ·exact(j4 (eD _ (by decide))).symm
  ·exact((lP (eD _ (by decide))).mpr (gM _ (by decide)):((c0 % 146097+2) % 7).toNat < 7)
  ·show((y0:Z)+400*(c0 / 146097 % 30)).toNat < 20000;lia
  ·exact((lP (eD _ (by decide))).mpr (gM _ (by decide)):(c1 / 86400 % 4).toNat < 4)
  ·show(c1 % 86400 / 3600).toNat < 24;lia
  ·exact((lP (eD _ (by decide))).mpr (gM _ (by decide)):(c1 % 86400 / 60 % 60).toNat < 60)
  ·exact((lP (eD _ (by decide))).mpr (gM _ (by decide)):(c1 % 86400 % 60).toNat < 60)
 have k:(D.yr:Z)=(y0:Z)+400*(c0 / 146097 % 30):=a.hy.symm;have l:(D.wd:Z)=(c0 % 146097+2) % 7:=a.hw.symm;refine⟨D,rfl,rfl,a,aer D a (d c4 (by simp)) ?_ fun h=> ?_⟩
 ·refine M k (M l ?_);exact j (c0 / 146097 % 30)
 ·refine i ?_;lia
theorem aet:lw.Holds:=WJ (ad4 aes)
end
end
end gN
theorem PySem.Challenge.cw_uc0066_01_holds : PySem.Challenge.rw_uc0066_01.Holds :=
 gN.aet
