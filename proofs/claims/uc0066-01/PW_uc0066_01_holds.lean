import PyProof.Rows.All
import Wide.All
import OpenK.AllK
import Wide.FinOn
import KE.IntBitsLaws
import KE.KEqSeq
import KE.KIntText
import KE.KxPercentT
import Lean
import PySem.Challenge.RW_uc0066_01
set_option Elab.async false
set_option maxRecDepth 100000
set_option maxHeartbeats 4000000
set_option genSizeOf false
set_option genSizeOfSpec false
set_option genInjectivity false
set_option tactic.hygienic false
set_option linter.all false
open Option renaming some->O,none->aB,join->i',map->j4,map_eq_some_iff->l8,elim->uJ,some_ne_none->xz,bind_some->xG,isNone->QN,some->QX,bind_eq_some_iff->QZ,bind->Sh,map_some->agh,some_inj->agj
open _root_ renaming rfl->V,Int->Z,Nat->aA,List->aD,Option->aG,if_neg->aP,if_pos->aR,congrArg->aT,Bool->aU,False->bO,String->eA,decide_eq_false->eO,Array->eW,decide_eq_true->fM,of_decide_eq_true->kP,decide_eq_true_eq->lG,beq_iff_eq->me,Decidable->qC,True->r7,ForInStep->wV,bne_self_eq_false->wY,dif_pos->AJ,PUnit->Ga,bne_iff_ne->Gp,not_or->G0,beq_eq_false_iff_ne->Hd,decide_eq_false_iff_not->QO,if_true->RE,not_not_intro->agz
open Bool renaming true->aF,false->aI,false_ne_true->cL,and_eq_true->gZ,and_eq_true_iff->mJ,not_eq_true'->no,or_eq_false_iff->xh,noConfusion->GV,eq_iff_iff->Q1,true_and->Q7,or_eq_true->RH,false_eq_true->afN,false_and->agx
open PySem.Str renaming ofString->aH,empty->qN,length->si,join->Bh,ofString->HC,length->ahI,empty->ahK
open PySem renaming Value->aJ,Shared->aM,wpAny->aN,model->aO,World->aV,Addr->aW,Heap->bF,Pos->bG,Stmt->bR,Around->bX,sizeLine_eq->cN,Sem->cR,starEach->dF,Scope->dN,sizeLine->eF,execs->eH,intKind->fF,mainGlobals->fL,Env->gI,Tok->gX,wpAny_holding->ii,wpAny_Assign_Name->iX,Operator->i7,builtinsNs->i8,wpAny_standAt->jg,exec->ji,Seg->jk,clipAt->jz,backTo->jB,sysModules->j0,Flow->j3,draw->j7,rawInt->lK,CmpOp->l5,codeAmong->mI,wpAny_If->mL,stack->mN,startupNames->mO,wpAny_of_eq->mQ,seg_bind_wrap->mR,intKind_is->nj,standAt->np,wpAny_newObj_type->nr,wpAny_Return_some->nv,Str->nC,seqIndex?->ox,getItem->oy,Arguments->oz,closureFor->oA,compEnvC->oH,GenState->pA,valueAt->pD,typeIs_str->pE,wpAny_Name->pF,wpAny_Constant_int->pG,codeAny->pI,table->pN,seg_execs_nil->pQ,wpAny_ite->qD,merged->qE,cellsFrom->qQ,holding->r9,stored->sa,binaryOp->sf,spliced->sj,isTrue->sk,wpAny_Constant_str->sm,wpAny_Call_method_lateS->sn,wpAny_askSetting->sx,wpAny_call_entry->sz,Model->ur,TriplesOk->ut,wpAny_storeName_local->uw,swapsWith->ux,wpAny_bindName->uy,codeAny_mono->uz,bindArgs->uC,codeAny_builtin->uG,SetTable->uH,relabel->uM,wpAny_specialOf->wX,bootBuiltins->xd,cStatics->xf,call_meets->xk,wpAny_call->xr,denote->xu,argsOk->xD,pyNext->xE,typeLookup->Ar,wpAny_isInstance->At,subDict->Az,typeIs_int->AI,attributeBase->AO,constantsAlone->AP,foldedForSure->AQ,assign->AR,wpAny_For->AT,intBits_le_64->AU,splitAtGen->AX,runN->AY,callerA->AZ,mainNs->A0,wpAny_storeName_cell->A2,bindL->A3,relayAll->Bd,wpAny_setState_of->Be,pyIter->Bf,intBits_mul_le->Bm,wpAny_alloc->Gc,wpAny_rule->Ge,wpAny_onRaise->Gg,OsState->Gm,compareOp->Gr,strKind->Gs,Keyword->Gz,wpAny_loadName_local->GF,wpAny_loadName_free->GG,wpAny_isTrue_Compare1->GJ,inplaceOp->GN,Walks->GP,callWith->GQ,assignEach->GR,bindName->GU,ConstVals->GZ,mainEnv->Ha,staticOf->He,DictEntry->Hf,BindsTo->Hh,plainId_quiet->Hn,entryFor->Hr,wpAny_callSpecial?_slot->Hs,firstArgMember->Ht,intBits_le_of_natAbs->Hx,strIterType->Hz,forTurn->HA,foldedSetIterable->HB,Program->QM,isSubtype_type->QP,wpAny_dictEntries->QQ,evalPairs->QT,wpAny_loadName_cell->Rk,letTemporaryGo->Rl,slot_list_getitem->Rm,evalEachOpt->Rn,evalEach->Ro,wpAny_Compare1->Rp,storeName->Rx,wpAny_Assign_Subscript->Rz,wpAny_pyIter_list->RD,wpAny_nsGet->RI,builtinOf->RJ,wpAny_isTrue_value->RS,layNew->RX,scanBound->RZ,wpAny_storeSet_of->R0,fits_of_scanBound->R1,setAdd->R2,wpAny_setEntries_of->R5,wpAny_attempt->R6,wpAny_fieldsOf->R7,newList->R9,wpAny_updateSeq->Sa,slot_listiter_next->Se,wpAny_seqItems->Sf,wpAny_newFunctionEnv->Si,stripped->Sm,call_gives->Sn,intBits_add_le->Ss,seg_wrap->Sx,NameKind->SG,wpAny_dictEpoch->aep,evalPairs_nil->aeu,evalPairs_cons->aev,noFill_list_add->aeC,wpAny_getItem_of->aeI,behindInMarks->aeO,call_list_range->aeQ,wpAny_setItem_list->aeV,codeAny_forLoop->aeW,codeAny_whileLoop->aeZ,assignInOrder->ae0,swapsWithSole->ae1,swappedStores->ae2,wpAny_unpack_tuple->ae5,wpAny_list_append_plain->ae6,rangeSize_one->ae',annotationsOf->afi,call->afn,fenceModules?->afr,codeAny_of_tree->afD,typeLookup_type->afI,builtinLookup_eq_fast->afJ,wpAny_runValue->afK,wpAny_callSpecial?_none->afL,wpAny_setField_rec->afP,wpAny_setField->afQ,wpAny_handled->afR,isSubtype_stop->afS,entryFor_of_fast->afX,wpAny_inSet_of->af0,wpAny_ite_false->af2,wpAny_ite_true->af3,intText?->af4,recursionLimit->agv,slot_gen_next->agw,gives_int_repr->agH,int_text_fits->agI,wpAny_assign_Name->agM,wpAny_comprehension_free->agN
open Nat renaming le_trans->aL,lt_of_lt_of_le->bL,le_refl->bZ,lt_of_le_of_lt->cC,le_of_eq->cM,ne_of_gt->eG,add_le_add_left->eU,le_of_lt->fE,ne_of_lt->fG,add_le_add->fY,le_add_right->hO,add_comm->iz,add_assoc->iI,lt_trans->iM,le_of_lt_succ->jy,not_lt->jA,zero_le->jR,succ_lt_succ->ko,lt_of_succ_lt->kt,add_le_add_right->lF,lt_succ_self->lJ,min_eq_left->l4,sub_le->l7,add_lt_add_left->mf,lt_succ_of_le->mh,le_succ_of_le->nw,succ_le_of_lt->nz,add_right_comm->on,zero_add->oo,lt_or_ge->ou,le_add_left->ov,succ_pos->ow,sub_self->pJ,lt_of_add_lt_add_right->pO,add_sub_cancel_left->qy,le_of_succ_le->qz,sub_le_sub_right->qI,sub_le_of_le_add->qS,add_sub_of_le->r3,mul_add->r6,add_zero->sb,sub_zero->so,le_total->sp,lt_succ_of_lt->sv,succ_le_succ->sD,lt_irrefl->uu,min_eq_right->uA,le_succ->uI,mul_le_mul_left->wS,mul_le_mul->xx,pow_le_pow_right->xA,le_add_right_of_le->xI,sub_add_cancel->Ap,not_lt_of_le->Aq,log2_lt->AH,succ_ne_self->A4,mul_one->A5,mul_two->FW,sub_le_iff_le_add->FX,lt_of_succ_le->FZ,le_sub_of_add_le->F7,noConfusion->F8,min_le_right->Gb,add_le_of_le_sub->GH,sub_add_sub_cancel->Hi,lt_of_succ_lt_succ->Hk,mul_comm->Hm,sub_lt_left_of_lt_add->Hv,two_mul->QJ,sub_add_eq->QL,not_succ_le_self->Q5,pow_succ->RO,mod_lt->RU,eq_zero_or_pos->RW,not_lt_zero->RY,pow_add->Sj,mul_le_mul_right->Sk,le_div_iff_mul_le->aei,succ_add_eq_add_succ->aej,lt_of_le_of_ne->aek,add_lt_add_right->ael,one_mul->aeB,sub_lt->aeY,two_pow_pos->afp,eq_of_testBit_eq->afw,testBit_shiftLeft->afx,testBit_shiftRight->afy,div_add_mod->afz,add_mul->af5,zero_mul->af6,succ_ne_zero->agc,lt_of_not_le->age,sub_eq_zero_of_le->agl,le_zero->agV,le_of_succ_le_succ->agW,ofDigitChars->ag3
open PyProof.Rows renaming lo1->bA,args_cons->iC,IntsAre->iY,args_nil->jC,up1->jE,seen->ku,AllBare->nk,envOfC->ny,callWith_type->pH,CellsAre->xv,firstMet->AV,List_->GI,evalArgs_none->GK,plain1->HF,seqObj->Sd,Constant_none->aeR,callWith_type0->af1,placed_single->agU,is_none_ne->ahg,is_none_none->ahh,join_list->ahk,Assign_Tuple->aho,Assign_Tuple_swapped->ahp,IsTup->ahL
open List renaming length_append->bH,length_map->bQ,not_mem_nil->cO,replicate->dT,append_assoc->eZ,getElem?_eq_getElem->fC,mem_singleton->fK,mem_cons->gz,map_cons->gH,mem_cons_of_mem->hU,getElem?_map->ij,getD_eq_getElem?_getD->ik,map_append->iA,length_drop->iB,mem_cons_self->iK,mem_map->iW,forall_mem_cons->jh,mem_append->jD,append_nil->jS,all_eq_true->j1,length_cons->j2,mem_append_right->j5,map_map->j6,mem_of_getElem?->kq,size_toArray->kO,mem_append_left->kR,getElem?_eq_some_iff->l6,getElem_mem->mj,take_of_length_le->mG,range->mH,length_take->ni,drop_zero->nu,Perm->nB,length->ot,length_replicate->oG,mem_reverse->pK,getElem?_append_right->pL,eq_nil_of_length_eq_zero->qA,map_take->qF,range'->qJ,nil_append->qO,cons_append->qP,getElem?_append_left->su,range_eq_range'->uv,map_reverse->uB,set_append_right->uK,map_congr_left->uL,nodup_append->wU,forIn_cons->wW,any_eq_true->wZ,length_nil->xb,drop_eq_nil_of_le->xc,replicate_succ->xg,isEmpty_eq_false_iff->xo,length_reverse->xp,getElem?_eq_none->xq,map_set->xH,drop_eq_getElem_cons->As,length_range->Au,take_length->Av,mem_map_of_mem->Ay,getElem?_drop->AA,toArray->AC,foldl_cons->AE,take_nil->AF,drop_of_length_le->AS,mem_of_mem_drop->A9,mem_of_mem_take->Ba,map_drop->Bg,tail_drop->Bi,filter_append->Bo,filter_cons_of_pos->Bp,mem_replicate->Bq,take_sublist->Gh,take->Gv,length_set->GL,lookup_cons->GW,getElem?_take->GX,drop_drop->Hj,head?_drop->Hw,length_singleton->HE,take_left'->HG,cons->QR,take_add->QV,flatten_cons->QY,find?_cons->Q2,drop->Q6,isEmpty_iff->Rj,findIdx?->Ry,reverse_reverse->Sp,reverse_append->Sv,mem_flatMap->SD,drop_left'->SF,filter_cons_of_neg->SH,take_append_drop->aeo,getElem_range->aer,take_add_one->aes,length_eq_one_iff->aez,any_cons->aeG,drop_nil->aeJ,cons_ne_nil->aeP,getElem?_set_self->aeS,getElem?_set_ne->aeT,reverse_cons->aeU,drop_length->aeX,filterMap_cons_some->ae4,extract_eq_take_drop->ae8,getElem?_reverse->afb,nodup_cons->afc,of_mem_zip->afd,getElem_of_mem->afe,nodup_nil->afg,take_append_of_le_length->afA,foldl->afB,isEmpty_nil->afF,perm_singleton->afW,takeWhile_cons->af',sum_cons->agd,mem_of_find?_eq_some->agg,getElem?_toArray->agi,tail_cons->agk,reverse_singleton->agq,drop_take->agy,flatten->agA,length_filter_le->agL,filter_nil->agO,flatMap_cons->agP,flatMap_nil->agQ,mem_range->agR,flatten_singleton->agX,set_eq_of_length_le->agY,range'_succ->ag0,filter_eq_self->ag2,mem_or_eq_of_mem_set->ag5,map_eq_nil_iff->ag7
open Option.some renaming inj->cA
open PySem.Txt renaming lower->cD,join->l9,upper->qH,contains->aex
open Int renaming le_of_lt->cJ,le_trans->cK,ofNat_le->cV,natCast_nonneg->cW,lt_of_lt_of_le->dM,ofNat_lt->dZ,emod_nonneg->eD,ne_of_gt->fB,emod_lt_of_pos->gJ,one_mul->gY,mul_comm->hA,lt_of_le_of_lt->iV,not_lt->i9,pow_pos->jj,toNat_of_nonneg->kr,ediv_nonneg->kQ,mul_assoc->lL,toNat_lt->md,add_comm->mP,add_le_add->nq,mul_ediv_add_emod->nA,mul_nonneg->oE,toNat_natCast->oF,not_le->pB,le_of_eq->pC,ofNat_inj->pM,add_nonneg->qK,pow_add->qR,eq_ofNat_of_zero_le->qT,zero_add->sr,add_assoc->sw,mul_le_mul_of_nonneg_right->sA,neg_mul->sC,lt_trans->uD,ediv_lt_of_lt_mul->uF,natAbs_of_nonneg->wT,le_sub_one_of_lt->xl,add_le_add_right->xm,sub_add_cancel->xn,add_mul_ediv_left->xy,ediv_le_self->AL,sub_le_self->AM,sub_nonneg_of_le->AW,mul_add->A6,mul_le_mul_of_nonneg_left->A7,add_one_le_of_lt->A8,natCast_mul->Bb,ediv_ediv_of_nonneg->Bc,sub_mul->Bj,mul_pos->Bk,add_le_add_left->Bl,toNat_le->Go,fdiv_eq_ediv_of_nonneg->GY,ofNat_sub->Hl,add_mul->Hy,add_right_comm->HH,le_antisymm->RB,mul_one->RC,ediv_eq_zero_of_lt->RT,min_eq_left->Sl,sub_left_lt_of_lt_add->So,reducePow->Sq,ediv_emod_unique->Sr,pow_succ->Su,neg_neg->Sw,ne_of_lt->SI,ediv_le_ediv->SJ,toNat->aem,le_ediv_iff_mul_le->aeA,add_lt_add_left->aff,sub_left_le_of_le_add->afh,emod_add_mul_ediv->aft,emod_def->afu,mul_sub->afv,max_eq_right->af7,natCast_pow->af8,natCast_add->af9,sub_le_sub_right->agf,le_add_of_nonneg_right->agm,add_mul_ediv_right->ago,mul_lt_mul_of_pos_right->agp,neg_mul_neg->agr,add_mul_emod_self_left->ags,add_sub_cancel->agK,sub_nonneg->ag6
open Exists renaming elim->cQ
open PySem.Value renaming int->dU,isStrOf->xi,ref->QW,bool->aeH
open PySem.Heap renaming get?_push_of_some->eV,lt_size->fA,get?_push_size->fP,SameBut->iJ,get?_update_self->r8,size_push->xt,get?_update_other->GO,dictOf_iff->Hu,ExtBut->R8,push->aet
open And renaming elim->fZ
open PySem.Builtin.Int renaming intBits->gW
open Array renaming length_toList->iL,toList_append->lH,getElem?_toList->pz,size_append->xF,getElem?_eq_getElem->Aw,replicate->Gj,toList_inj->Gn,getD_eq_getD_getElem?->Q3,toList_push->RA,mem_of_getElem?->Sz,getElem?_eq_some_iff->agu
open PySem.W.KPc renaming Good->kx,obj_none->Bn,after_add->SA,good_mono->agC,good_add->agD
open Eq renaming trans->kN
open PySem.Obj renaming mapSeq->mK,putSet->Ho,data_mapDictKeys->aen,data_mapFields->afY
open PySem.Calls renaming docDef->mM,callWith_builtin->nt,callWith_function->AN,call_function_entry->Sb,call_len_list->aeK,Name_function_global->aeM,loadGlobal_builtin->aeN
open PySem.W renaming fnX->oB,CodeHd->uE,WData->A1,through->Hb,hideAll->Hg,boot_heap->RF,ReadsAllW->RK,ReadsW->RM,behindTheImports->afj
open PySem.Unicode renaming isSpace->pP,lowerOf->agS,upperOf->agT
open PySem.Heap.SameBut renaming update->qB,refl->aeq
open PySem.Builtin renaming bitAnd->qG,bitXor->AB,bitOr->Gi,bitNot->aew
open Prod.mk renaming inj->qM
open PySem.Builtin.Range renaming rangeSize->sd,rangeFitsLong->ahm,small->ahn
open PySem.F renaming called_set->sy,slot_str_getitem->Q4,plainAttrs_str->Q8,slot_set_len->R4,slot_list_add->aeD,entry_list_add->aeE,args_list_add_2->aeF,slot_str_split->aeL,slot_list_insert->ae7,slot_list_reverse->ae9,slot_int_rmul->afC,slot_set_iter->afM,plain_extend_loop->afU,entry_extend_loop->afV,plainAttrs_set->afZ,slot_str_rstrip->agb,slot_int_repr->agE,entry_int_repr->agF,args_int_repr_1->agG,slot_str_mod->agJ
open List.cons renaming inj->xj,injEq->Gq
open PySem.SetTable renaming eraseAt->xB,grown->xC,below->Hp,fits->R3,insertAt->afE,popped->afG,drop->afH
open ForInStep renaming yield->Ax,rec->ahJ
open Classical renaming byContradiction->AD,byCases->ahM
open PySem.Expr.Constant renaming elim->AK
open PySem.StrLaws renaming occBody->Br,strSub_toList->aga,partsFrom->ag1,found_one->ahH
open Nat.succ renaming inj->F9
open PySem.Heap.DictOf renaming new->Gf
open PySem.Builtin.Str renaming strKind->Gk,occurrences->Gl,strSliceIndices->Gu,partsBetween->aey,tooLong->ahf
open PySem.Expr.BinOp renaming elim->Gw
open PySem.Expr.List renaming elim->Gx
open PySem.Expr.Dict renaming elim->Gy
open PySem.Expr.Call renaming elim->GA
open PySem.Expr.Name renaming elim->GB
open PySem.Stmt.Assign renaming elim->GC
open PySem.Env renaming kindOf->GD,blockKind->ae3
open PySem.Frame renaming guarded->Hc
open PySem.Setting renaming params->Hq
open PySem.W.KPt renaming hd2->HD
open Int.ofNat renaming inj->QK
open PUnit renaming unit->QS
open Iff renaming mp->QU
open PyProof renaming noPylong_of_log2->Q0
open PySem.Expr.UnaryOp renaming elim->Q9
open PySem.Expr.Compare renaming elim->Ra
open PySem.Expr.BoolOp renaming elim->Rb
open PySem.Expr.IfExp renaming elim->Rc
open PySem.Expr.Subscript renaming elim->Rf
open PySem.Expr.Slice renaming elim->Rg
open PySem.Expr.Tuple renaming elim->Rh
open PySem.Expr.Attribute renaming elim->Ri
open PySem.Stmt.AugAssign renaming elim->Rq
open PySem.Stmt.Expr renaming elim->Rr
open PySem.Stmt.If renaming elim->Rs
open PySem.Stmt.While renaming elim->Rt
open PySem.Stmt.For renaming elim->Ru
open PySem.Stmt.Return renaming elim->Rv
open PySem.Stmt.Break renaming elim->Rw
open PySem.W.WShape renaming hasItems->RN,has->afo
open Prod renaming fst->RP,snd->RQ
open PySem.Shared renaming setGen->Sy,asleep_of_life->afm
open List.Lex renaming rel->SE
open PySem.Walks renaming list->afa
open PySem.Heap.Ns renaming of_isNs->afk
open PySem.Claim2Try renaming globalOf_of_ns->afl
open PySem.W.WData renaming weightAll->afq,layableAll->afs
open PySem.SetTable.below renaming go->afO
open PySem.Builtin.List renaming listSameRef->afT,listFitsIndex->ahv,listTooLong->ahw,listExtendWith->ahD,listTouch->ahE
open PySem.IntMulOk renaming of_le->agn
open PySem.Sem renaming onRaise_eq_wrap->agt
open Char renaming toNat->agB
open PySem.NameKind renaming free->agZ
open PySem.PyData renaming eqv->ag4
open PySem.Challenge renaming pw_uc0066_01->ahd,rw_uc0066_01->ahe
open PyProof.Rows.SCL renaming lower->ahi,upper->ahj
open PySem.Stmt.FunctionDef renaming elim->ahl
open PySem.AutoListH renaming list_insert_list_int_val_1->ahq,list_reverse_list_0->ahr,list___mul___list_int_3->ahu
open PySem.AfterImport renaming of_importEnds->ahs,unique->aht
open PySem.Builtin.Frozenset renaming newClass->ahx,oneOther->ahy,noArgs->ahz,slot0->ahA
open PySem.pickOrder.go renaming match_1->ahB
open PySem.pickOrder renaming go->ahC
open Decidable renaming byContradiction->ahF
open PySem.Builtin.Generator renaming genWake->ahG
open PySem PySem.W PyProof.Rows
namespace gK
noncomputable section
section
theorem sE{L R a:aA}(h:L < R)(e:a=(L+R) / 2)(n:¬L+1=R):L < a∧a < R:=by
 rw[e];refine⟨(aei (by decide)).mpr ?_,(Nat.div_lt_iff_lt_mul (by decide)).mpr ?_⟩
 ·rw[FW,aej];exact eU (aek h n) L
 ·rw[FW];exact ael h R
theorem HI{L R:aA}(h:L < R)(n:L+1≠R):L < (L+R) / 2:=(sE h V n).1
theorem Bs{L R:aA}(h:L < R)(n:L+1≠R):(L+R) / 2 < R:=(sE h V n).2
theorem HJ{L R N:aA}(h:L < R)(n:L+1≠R)(a:R≤N):(L+R) / 2≤N:=aL (fE (Bs h n)) a
theorem SK{L R N K:aA}(h:L < R)(n:L+1≠R)(a:R≤N)(e:K=N):(L+R) / 2≤K:=e▸HJ h n a
theorem HK{L R k:aA}(h:R - L≤k*2):(L+R) / 2 - L≤k:=by refine FX.mpr (Nat.div_le_of_le_mul ?_);rw[QJ,←iI,on k L k,←FW,iz L R];exact lF (FX.mp h) L
theorem HL{L R k:aA}(h:R - L≤k*2):R - (L+R) / 2≤k:=by refine FX.mpr ?_;rw[iz,←Nat.add_mul_div_right _ _ (by decide)];refine(aei (by decide)).mpr ?_;rw[FW,on,iz L];exact lF (FX.mp h) R
theorem HM{L R a N:aA}(h:L < R)(b:R≤N)(e:a=(L+R) / 2)(n:¬L+1=R):L+(a - L)≤N:=
 aL (cM (r3 (fE (sE h e n).1))) (aL (fE (sE h e n).2) b)
theorem SM{L R a N K:aA}(b:N≤K)(c:R≤N)(e:a=(L+R) / 2):a - L≤K:=
 aL (Nat.sub_le_iff_le_add'.mpr (e▸Nat.div_le_self _ _)) (aL c b)
theorem xJ{a b k:aA}(c:a+(k+1)+1 < 900)(h:b≤a+1):b+k+1 < 900:=
 cC (lF (lF h k) 1) (by rw[iI a 1 k,iz 1 k];exact c)
theorem xK{a b k:aA}(c:a+10*(k+1+1) < 9000)(h:b≤a+3):b+10*(k+1) < 9000:=
 cC (aL (lF h _) (by rw[r6 10 (k+1) 1,iI,iz 3];exact eU (eU (by decide) _) a)) c
theorem SN{a e:aA}(b:a+e+1 < 900):a+1+0 < 900:=cC (lF (hO a e) 1) b
theorem HN{a e:aA}(b:a+10*(e+1) < 9000):a+3+10*e < 9000:=cC (aL (cM (iI a 3 _)) (eU (aL (lF (by decide) _) (cM (iz 10 _))) a)) b
theorem HO{a e:aA}(b:a+10*(e+1) < 9000):a+3+10*0 < 9000:=cC (eU (jR (10*e)) _) (HN b)
theorem SO{a e:aA}(h:a+(e+1) < 900):a+1+e < 900:=by rw[iI,iz 1];exact h
theorem SP{a n k p q:aA}(h:k≤n)(b:a+10*n < 9000)(d:p+q≤10*k):a+p+q < 9000:=
 cC (aL (cM (iI a p q)) (eU (aL d (wS 10 h)) a)) b
theorem SQ{a n k:aA}(h:k≤n)(b:a+n < 900)(d:q≤k):a+q < 900:=cC (eU (aL d h) a) b
theorem SR{L R:aA}(h:L+1=R):R - L=1:=h▸qy L 1
theorem xL{L R:aA}(h:L+1=R):(L:Z)+1=(R:Z):=h▸rfl
theorem HP{L R:aA}(h:¬L+1=R):(L:Z)+1≠(R:Z):=fun e=>h (QK e)
theorem HQ{L R a:aA}(e:a=(L+R) / 2):((L:Z)+R) / 2=(a:Z):=e▸rfl
theorem SS{L R N:aA}(a:N≤1000)(b:R≤N)(h:L+1=R):(L:Z) < 2^63:=
 iV (cV.mpr (aL (qz (aL (cM h) b)) a)) (by decide)
theorem SU{L R N K:aA}(a:R≤N)(h:L+1=R)(e:K=N):(L:Z) < (K:Z):=dZ.mpr (bL (FZ (aL (cM h) a)) (cM e.symm))
theorem HR{b p q:aA}(a:b≤p)(c:p≤10000*1000)(d:q≤10000*1000):0≤(q:Z)∧(b:Z)+q≤2^27:=
 ⟨cW _,cK (cV.mpr (fY (aL a c) d)) (by decide)⟩
theorem xM{a b c:aA}(h:a+c≤b):min a b=a:=l4 (Nat.le_of_add_right_le h)
theorem SV{L a b N:aA}(h:L+a≤N):L+a+(L+a+b - (min L N+a))=L+(a+b):=by rw[xM h,qy,iI]
theorem SW{L d N:aA}(h:L+d≤N):min L N+(d+(N - (L+d)))=N:=by rw[xM h,←iI,r3 h]
theorem SX{L a b N:aA}(h:L+a≤N):min L N+a≤L+a+b:=by rw[xM h];exact hO _ _
theorem SY{L a N:aA}(h:L+a≤N):L≤min L N:=cM (xM h).symm
theorem Bu(b:aA):¬0≤ -(b:Z) - 1:=by omega
theorem HS(b:Z): -(-b - 1) - 1=b:=by omega
theorem HT(b:aA):(-(-(b:Z) - 1) - 1).toNat=b:=aT aem (HS b)
theorem Bv{a:Z}{k:aA}(b:0≤a)(h:a < k):a.natAbs < k:=dZ.mp (by rw[wT b];exact h)
theorem HU{a:Z}(h:0 < a):a.natAbs≠0:=fun e=>absurd (Int.natAbs_eq_zero.mp e) (fB h)
theorem S0{a b k:aA}(h:a - b=k+1):a - (b+1)=k:=by rw[QL,h];rfl
theorem xN{a b:aA}(h:b+1≤a):a - b=a - (b+1)+1:=by rw[QL,Ap (F7 (by rw[iz];exact h))]
theorem S1{n:aA}(h:n % 2=1):n+1=2*((n+1) / 2):=by omega
theorem S2{n:aA}(h:n % 2=0):n=2*(n / 2):=by omega
theorem S3{n h:aA}(e:n+1=2*h)(m:n % 2=1):h≤n:=by omega
theorem xO{a b:Z}(h:0 < a)(c:a≤2*b):0 < b:=by omega
theorem S4{c:aA}(h:65≤c∧c≤90∨97≤c∧c≤122):c < 128:=by omega
theorem Bw{c a b:aA}(h:b < c):¬(a≤c∧c≤b):=fun x=>Aq x.2 h
theorem HV{c a b:aA}(h:c < a):¬(a≤c∧c≤b):=fun x=>Aq x.1 h
theorem Bx{a b c d k:aA}(e:a≤c)(f:b≤d)(h:c+d≤k):a+b≤k:=aL (fY e f) h
theorem S5{a b:aA}(h:a≤b):(a:Z)≤(b:Z):=cV.mpr h
end
section
theorem xa{a b:Prop}{G:Prop}(h:a∧b)(k:a→b→G):G:=
 fZ (fun c h=>k c h) h
theorem xe.{c} {d:Sort c}{b:d→Prop}{G:Prop}(h:∃a,b a)(k:∀a,b a→G):G:=
 cQ h fun a h=>k a h
theorem iD{a b c:Prop}{G:Prop}(h:a∧b∧c)(k:a→b→c→G):G:=
 fZ (fun d h=>xa h (k d)) h
theorem aQ.{d} {e:Sort d}{b c:e→Prop}{G:Prop}(h:∃a,b a∧c a)(k:∀a,b a→c a→G):G:=
 cQ h fun a h=>xa h (k a)
theorem oJ.{d,e} {f:Sort d}{g:Sort e}{c:f→g→Prop}{G:Prop}(h:∃a,∃b,c a b)(k:∀a,∀b,c a b→G):G:=
 cQ h fun a h=>xe h (k a)
theorem dW{a b c d:Prop}{G:Prop}(h:a∧b∧c∧d)(k:a→b→c→d→G):G:=
 fZ (fun e h=>iD h (k e)) h
theorem uN.{e} {f:Sort e}{b:Prop}{c d:f→Prop}{G:Prop}(h:b∧∃a,c a∧d a)(k:b→∀a,c a→d a→G):G:=
 fZ (fun g h=>aQ h (k g)) h
theorem dB.{e} {f:Sort e}{b c d:f→Prop}{G:Prop}(h:∃a,b a∧c a∧d a)(k:∀a,b a→c a→d a→G):G:=
 cQ h fun a h=>iD h (k a)
theorem iN.{e,f} {g:Sort e}{i:Sort f}{c d:g→i→Prop}{G:Prop}(h:∃a,∃b,c a b∧d a b)(k:∀a,∀b,c a b→d a b→G):G:=
 cQ h fun a h=>aQ h (k a)
theorem xP.{e,f,g} {i:Sort e}{j:Sort f}{l:Sort g}{d:i→j→l→Prop}{G:Prop}(h:∃a,∃b,∃c,d a b c)(k:∀a,∀b,∀c,d a b c→G):G:=
 cQ h fun a h=>oJ h (k a)
theorem jl{a b c d e:Prop}{G:Prop}(h:a∧b∧c∧d∧e)(k:a→b→c→d→e→G):G:=
 fZ (fun f h=>dW h (k f)) h
theorem HW.{f,g} {i:Sort f}{j:Sort g}{c:Prop}{d e:i→j→Prop}{G:Prop}(h:c∧∃a,∃b,d a b∧e a b)(k:c→∀a,∀b,d a b→e a b→G):G:=
 fZ (fun l h=>iN h (k l)) h
theorem mT.{f} {g:Sort f}{b c d e:g→Prop}{G:Prop}(h:∃a,b a∧c a∧d a∧e a)(k:∀a,b a→c a→d a→e a→G):G:=
 cQ h fun a h=>dW h (k a)
theorem uO.{g,i} {c:Sort g}{j:Sort i}{d e:c→Prop}{f:c→j→Prop}{G:Prop}(h:∃a,d a∧e a∧∃b,f a b)(k:∀a,d a→e a→∀b,f a b→G):G:=
 cQ h fun a h=>fZ (fun l h=>fZ (fun m h=>xe h (k a l m)) h) h
theorem By.{g,i} {c:Sort g}{j:Sort i}{d:c→Prop}{e f:c→j→Prop}{G:Prop}(h:∃a,d a∧∃b,e a b∧f a b)(k:∀a,d a→∀b,e a b→f a b→G):G:=
 cQ h fun a h=>uN h (k a)
theorem cS.{f,g} {i:Sort f}{j:Sort g}{c d e:i→j→Prop}{G:Prop}(h:∃a,∃b,c a b∧d a b∧e a b)(k:∀a,∀b,c a b→d a b→e a b→G):G:=
 cQ h fun a h=>dB h (k a)
theorem eP.{f,g,i} {j:Sort f}{l:Sort g}{m:Sort i}{d e:j→l→m→Prop}{G:Prop}(h:∃a,∃b,∃c,d a b c∧e a b c)(k:∀a,∀b,∀c,d a b c→e a b c→G):G:=
 cQ h fun a h=>iN h (k a)
theorem sF.{f,g,i,j} {l:Sort f}{m:Sort g}{n:Sort i}{o:Sort j}{e:l→m→n→o→Prop}{G:Prop}(h:∃a,∃b,∃c,∃d,e a b c d)(k:∀a,∀b,∀c,∀d,e a b c d→G):G:=
 cQ h fun a h=>xP h (k a)
theorem qU{a b c d e f:Prop}{G:Prop}(h:a∧b∧c∧d∧e∧f)(k:a→b→c→d→e→f→G):G:=
 fZ (fun g h=>jl h (k g)) h
theorem HX.{g} {i:Sort g}{b:Prop}{c d e f:i→Prop}{G:Prop}(h:b∧∃a,c a∧d a∧e a∧f a)(k:b→∀a,c a→d a→e a→f a→G):G:=
 fZ (fun j h=>mT h (k j)) h
theorem xQ.{g} {i:Sort g}{b c d e f:i→Prop}{G:Prop}(h:∃a,b a∧c a∧d a∧e a∧f a)(k:∀a,b a→c a→d a→e a→f a→G):G:=
 cQ h fun a h=>jl h (k a)
theorem S6.{j,l,m} {d:Sort j}{e:Sort l}{n:Sort m}{f:d→Prop}{g:d→e→Prop}{i:d→e→n→Prop}{G:Prop}(h:∃a,f a∧∃b,g a b∧∃c,i a b c)(k:∀a,f a→∀b,g a b→∀c,i a b c→G):G:=
 cQ h fun a h=>fZ (fun o h=>cQ h fun c h=>fZ (fun p h=>xe h (k a o c p)) h) h
theorem HY.{g,i} {j:Sort g}{l:Sort i}{c d e f:j→l→Prop}{G:Prop}(h:∃a,∃b,c a b∧d a b∧e a b∧f a b)(k:∀a,∀b,c a b→d a b→e a b→f a b→G):G:=
 cQ h fun a h=>mT h (k a)
theorem pR.{g,i,j} {l:Sort g}{m:Sort i}{n:Sort j}{d e f:l→m→n→Prop}{G:Prop}(h:∃a,∃b,∃c,d a b c∧e a b c∧f a b c)(k:∀a,∀b,∀c,d a b c→e a b c→f a b c→G):G:=
 cQ h fun a h=>cS h (k a)
theorem uP.{g,i,j,l} {m:Sort g}{n:Sort i}{o:Sort j}{p:Sort l}{e f:m→n→o→p→Prop}{G:Prop}(h:∃a,∃b,∃c,∃d,e a b c d∧f a b c d)(k:∀a,∀b,∀c,∀d,e a b c d→f a b c d→G):G:=
 cQ h fun a h=>eP h (k a)
theorem Bz.{g,i,j,l,m} {n:Sort g}{o:Sort i}{p:Sort j}{q:Sort l}{r:Sort m}{f:n→o→p→q→r→Prop}{G:Prop}(h:∃a,∃b,∃c,∃d,∃e,f a b c d e)(k:∀a,∀b,∀c,∀d,∀e,f a b c d e→G):G:=
 cQ h fun a h=>sF h (k a)
theorem uQ{a b c d e f g:Prop}{G:Prop}(h:a∧b∧c∧d∧e∧f∧g)(k:a→b→c→d→e→f→g→G):G:=
 fZ (fun i h=>qU h (k i)) h
theorem HZ.{i,j} {l:Sort i}{m:Sort j}{c d e f g:l→m→Prop}{G:Prop}(h:∃a,∃b,c a b∧d a b∧e a b∧f a b∧g a b)(k:∀a,∀b,c a b→d a b→e a b→f a b→g a b→G):G:=
 cQ h fun a h=>xQ h (k a)
theorem nF.{i,j,l} {m:Sort i}{n:Sort j}{o:Sort l}{d e f g:m→n→o→Prop}{G:Prop}(h:∃a,∃b,∃c,d a b c∧e a b c∧f a b c∧g a b c)(k:∀a,∀b,∀c,d a b c→e a b c→f a b c→g a b c→G):G:=
 cQ h fun a h=>HY h (k a)
theorem BA.{i,j,l,m} {n:Sort i}{o:Sort j}{p:Sort l}{q:Sort m}{e f g:n→o→p→q→Prop}{G:Prop}(h:∃a,∃b,∃c,∃d,e a b c d∧f a b c d∧g a b c d)(k:∀a,∀b,∀c,∀d,e a b c d→f a b c d→g a b c d→G):G:=
 cQ h fun a h=>pR h (k a)
theorem H0.{i,j,l,m,n,o} {p:Sort i}{q:Sort j}{r:Sort l}{s:Sort m}{t:Sort n}{u:Sort o}{g:p→q→r→s→t→u→Prop}{G:Prop}(h:∃a,∃b,∃c,∃d,∃e,∃f,g a b c d e f)(k:∀a,∀b,∀c,∀d,∀e,∀f,g a b c d e f→G):G:=
 cQ h fun a h=>Bz h (k a)
theorem BB{a b c d e f g i:Prop}{G:Prop}(h:a∧b∧c∧d∧e∧f∧g∧i)(k:a→b→c→d→e→f→g→i→G):G:=
 fZ (fun j h=>uQ h (k j)) h
theorem BC.{j,l,m} {n:Sort j}{o:Sort l}{p:Sort m}{d:Prop}{e f g i:n→o→p→Prop}{G:Prop}(h:d∧∃a,∃b,∃c,e a b c∧f a b c∧g a b c∧i a b c)(k:d→∀a,∀b,∀c,e a b c→f a b c→g a b c→i a b c→G):G:=
 fZ (fun q h=>nF h (k q)) h
theorem S7.{l,m,n} {d:Sort l}{o:Sort m}{p:Sort n}{e f g:d→Prop}{i j:d→o→p→Prop}{G:Prop}(h:∃a,e a∧f a∧g a∧∃b,∃c,i a b c∧j a b c)(k:∀a,e a→f a→g a→∀b,∀c,i a b c→j a b c→G):G:=
 cQ h fun a h=>fZ (fun q h=>fZ (fun r h=>HW h (k a q r)) h) h
theorem BD.{j,l} {m:Sort j}{n:Sort l}{c d e f g i:m→n→Prop}{G:Prop}(h:∃a,∃b,c a b∧d a b∧e a b∧f a b∧g a b∧i a b)(k:∀a,∀b,c a b→d a b→e a b→f a b→g a b→i a b→G):G:=
 cQ h fun a h=>cQ h fun b h=>qU h (k a b)
theorem BE.{j,l,m,n} {o:Sort j}{p:Sort l}{q:Sort m}{r:Sort n}{e f g i:o→p→q→r→Prop}{G:Prop}(h:∃a,∃b,∃c,∃d,e a b c d∧f a b c d∧g a b c d∧i a b c d)(k:∀a,∀b,∀c,∀d,e a b c d→f a b c d→g a b c d→i a b c d→G):G:=
 cQ h fun a h=>nF h (k a)
theorem S8.{m,n,o,p,q} {f:Sort m}{r:Sort n}{s:Sort o}{t:Sort p}{u:Sort q}{g i:f→Prop}{j l:f→r→s→t→u→Prop}{G:Prop}(h:∃a,g a∧i a∧∃b,∃c,∃d,∃e,j a b c d e∧l a b c d e)(k:∀a,g a→i a→∀b,∀c,∀d,∀e,j a b c d e→l a b c d e→G):G:=
 cQ h fun a h=>fZ (fun v h=>fZ (fun w h=>uP h (k a v w)) h) h
theorem H1.{l,m} {n:Sort l}{o:Sort m}{c d e f g i j:n→o→Prop}{G:Prop}(h:∃a,∃b,c a b∧d a b∧e a b∧f a b∧g a b∧i a b∧j a b)(k:∀a,∀b,c a b→d a b→e a b→f a b→g a b→i a b→j a b→G):G:=
 cQ h fun a h=>cQ h fun b h=>uQ h (k a b)
theorem oK.{l,m,n} {o:Sort l}{p:Sort m}{q:Sort n}{d e f g i j:o→p→q→Prop}{G:Prop}(h:∃a,∃b,∃c,d a b c∧e a b c∧f a b c∧g a b c∧i a b c∧j a b c)(k:∀a,∀b,∀c,d a b c→e a b c→f a b c→g a b c→i a b c→j a b c→G):G:=
 cQ h fun a h=>BD h (k a)
theorem il.{l,m,n,o} {p:Sort l}{q:Sort m}{r:Sort n}{s:Sort o}{e f g i j:p→q→r→s→Prop}{G:Prop}(h:∃a,∃b,∃c,∃d,e a b c d∧f a b c d∧g a b c d∧i a b c d∧j a b c d)(k:∀a,∀b,∀c,∀d,e a b c d→f a b c d→g a b c d→i a b c d→j a b c d→G):G:=
 cQ h fun a h=>cQ h fun b h=>HZ h (k a b)
theorem H2.{l,m,n,o,p,q,r,s} {t:Sort l}{u:Sort m}{v:Sort n}{w:Sort o}{x:Sort p}{y:Sort q}{z:Sort r}{A:Sort s}{j:t→u→v→w→x→y→z→A→Prop}{G:Prop}(h:∃a,∃b,∃c,∃d,∃e,∃f,∃g,∃i,j a b c d e f g i)(k:∀a,∀b,∀c,∀d,∀e,∀f,∀g,∀i,j a b c d e f g i→G):G:=
 cQ h fun a h=>cQ h fun b h=>H0 h (k a b)
theorem H4{a b c d e f g i j l:Prop}{G:Prop}(h:a∧b∧c∧d∧e∧f∧g∧i∧j∧l)(k:a→b→c→d→e→f→g→i→j→l→G):G:=
 fZ (fun m h=>fZ (fun n h=>BB h (k m n)) h) h
theorem S9.{o,p,q,r,s} {f:Sort o}{g:Sort p}{t:Sort q}{u:Sort r}{v:Sort s}{i j l:f→g→Prop}{m n:f→g→t→u→v→Prop}{G:Prop}(h:∃a,∃b,i a b∧j a b∧l a b∧∃c,∃d,∃e,m a b c d e∧n a b c d e)(k:∀a,∀b,i a b→j a b→l a b→∀c,∀d,∀e,m a b c d e→n a b c d e→G):G:=
 cQ h fun a h=>cQ h fun b h=>fZ (fun w h=>fZ (fun x h=>fZ (fun y h=>eP h (k a b w x y)) h) h) h
theorem S'.{p,q,r,s} {e:Sort p}{f:Sort q}{g:Sort r}{t:Sort s}{i j l:e→f→g→Prop}{m n o:e→f→g→t→Prop}{G:Prop}(h:∃a,∃b,∃c,i a b c∧j a b c∧l a b c∧∃d,m a b c d∧n a b c d∧o a b c d)(k:∀a,∀b,∀c,i a b c→j a b c→l a b c→∀d,m a b c d→n a b c d→o a b c d→G):G:=
 cQ h fun a h=>cQ h fun b h=>cQ h fun c h=>fZ (fun u h=>fZ (fun v h=>fZ (fun w h=>dB h (k a b c u v w)) h) h) h
theorem H5.{m,n,o,p} {q:Sort m}{r:Sort n}{s:Sort o}{t:Sort p}{e f g i j l:q→r→s→t→Prop}{G:Prop}(h:∃a,∃b,∃c,∃d,e a b c d∧f a b c d∧g a b c d∧i a b c d∧j a b c d∧l a b c d)(k:∀a,∀b,∀c,∀d,e a b c d→f a b c d→g a b c d→i a b c d→j a b c d→l a b c d→G):G:=
 cQ h fun a h=>oK h (k a)
theorem BF.{m,n,o,p,q} {r:Sort m}{s:Sort n}{t:Sort o}{u:Sort p}{v:Sort q}{f g i j l:r→s→t→u→v→Prop}{G:Prop}(h:∃a,∃b,∃c,∃d,∃e,f a b c d e∧g a b c d e∧i a b c d e∧j a b c d e∧l a b c d e)(k:∀a,∀b,∀c,∀d,∀e,f a b c d e→g a b c d e→i a b c d e→j a b c d e→l a b c d e→G):G:=
 cQ h fun a h=>il h (k a)
theorem H6.{m,n,o,p,q,r} {s:Sort m}{t:Sort n}{u:Sort o}{v:Sort p}{w:Sort q}{x:Sort r}{g i j l:s→t→u→v→w→x→Prop}{G:Prop}(h:∃a,∃b,∃c,∃d,∃e,∃f,g a b c d e f∧i a b c d e f∧j a b c d e f∧l a b c d e f)(k:∀a,∀b,∀c,∀d,∀e,∀f,g a b c d e f→i a b c d e f→j a b c d e f→l a b c d e f→G):G:=
 cQ h fun a h=>cQ h fun b h=>BE h (k a b)
theorem Ta.{p,q,r,s,t} {f:Sort p}{g:Sort q}{u:Sort r}{v:Sort s}{w:Sort t}{i j l:f→g→Prop}{m n o:f→g→u→v→w→Prop}{G:Prop}(h:∃a,∃b,i a b∧j a b∧l a b∧∃c,∃d,∃e,m a b c d e∧n a b c d e∧o a b c d e)(k:∀a,∀b,i a b→j a b→l a b→∀c,∀d,∀e,m a b c d e→n a b c d e→o a b c d e→G):G:=
 cQ h fun a h=>cQ h fun b h=>fZ (fun x h=>fZ (fun y h=>fZ (fun z h=>pR h (k a b x y z)) h) h) h
theorem Tc.{n,o,p,q,r} {s:Sort n}{t:Sort o}{u:Sort p}{v:Sort q}{w:Sort r}{f g i j l m:s→t→u→v→w→Prop}{G:Prop}(h:∃a,∃b,∃c,∃d,∃e,f a b c d e∧g a b c d e∧i a b c d e∧j a b c d e∧l a b c d e∧m a b c d e)(k:∀a,∀b,∀c,∀d,∀e,f a b c d e→g a b c d e→i a b c d e→j a b c d e→l a b c d e→m a b c d e→G):G:=
 cQ h fun a h=>H5 h (k a)
theorem H8.{n,o,p,q,r,s} {t:Sort n}{u:Sort o}{v:Sort p}{w:Sort q}{x:Sort r}{y:Sort s}{g i j l m:t→u→v→w→x→y→Prop}{G:Prop}(h:∃a,∃b,∃c,∃d,∃e,∃f,g a b c d e f∧i a b c d e f∧j a b c d e f∧l a b c d e f∧m a b c d e f)(k:∀a,∀b,∀c,∀d,∀e,∀f,g a b c d e f→i a b c d e f→j a b c d e f→l a b c d e f→m a b c d e f→G):G:=
 cQ h fun a h=>BF h (k a)
theorem H9.{o,p,q,r,s,t,u,v,w} {x:Sort o}{y:Sort p}{z:Sort q}{A:Sort r}{B:Sort s}{C:Sort t}{D:Sort u}{E:Sort v}{F:Sort w}{l m n:x→y→z→A→B→C→D→E→F→Prop}{G:Prop}(h:∃a,∃b,∃c,∃d,∃e,∃f,∃g,∃i,∃j,l a b c d e f g i j∧m a b c d e f g i j∧n a b c d e f g i j)(k:∀a,∀b,∀c,∀d,∀e,∀f,∀g,∀i,∀j,l a b c d e f g i j→m a b c d e f g i j→n a b c d e f g i j→G):G:=
 cQ h fun a h=>cQ h fun b h=>cQ h fun c h=>cQ h fun d h=>cQ h fun e h=>BA h (k a b c d e)
end
section
universe u
@[elab_as_elim] theorem M{c:Sort u}{a b:c}{motive:c→Prop}(h:a=b)(p:motive b):motive a:=h▸p
@[elab_as_elim] theorem aS{c:Sort u}{a b:c}{motive:c→Prop}(h:a=b)(p:motive a):motive b:=h▸p
@[elab_as_elim] theorem iO{a b:Prop}{motive:Prop→Prop}(h:a↔b)(p:motive b):motive a:=propext h▸p
end
section
set_option genInjectivity true in
inductive PV where
 |none |bool (b:aU) |int (i:Z) |str (s:Str)
 |tup (xs:aD PV) |lst (xs:aD PV) |bV
 |gA (fQ:aD (Str×Z))
 deriving Inhabited
noncomputable abbrev PK:=aW→aG Obj
noncomputable abbrev pg:QM:=ahd
mutual
inductive RV(w:aV)(K:PK):aG aW→aJ→PV→Prop
 |none {ma}:RV w K ma .none .none
 |bool {ma b}:RV w K ma (.bool b) (.bool b)
 |int {ma i t}:RV w K ma (.int i t) (.int i)
 |str {ma s t}:RV w K ma (.str s t) (.str s)
 |tup {ma a o its n xs}:K a=O o→o.cls= .type "tuple"→o.data= .seq its n→bK w K its.toList xs→RV w K ma (.ref a) (.tup xs)
 |lst {ma a o its n xs}:K a=O o→o.cls= .type "list"→o.data= .seq its n→bK w K its.toList xs→RV w K ma (.ref a) (.lst xs)
 |bV {a}:RV w K (O a) (.ref a) .bV
 |gA {ma a o kv fQ}:K a=O o→(a==j0)=aI→(∀h:bF,h.get? a=O o→h.DictOf (strKind pg w) a kv)→kv.map (·.1)=fQ.map (·.1)→bK w K (kv.map (·.2)) (fQ.map fun p=> .int p.2)→RV w K ma (.ref a) (.gA fQ)
inductive bK(w:aV)(K:PK):aD aJ→aD PV→Prop
 |nil:bK w K [] []
 |cons {v vs x xs}:RV w K .none v x→bK w K vs xs→bK w K (v::vs) (x::xs)
end
section
variable{K K':PK}
theorem RV.mono(h:∀b o,K b=O o→K' b=O o)(r:RV w K f v x):RV w K' f v x:=
 RV.rec (motive_1:=fun f v x J=>RV w K' f v x) (motive_2:=fun g i J=>bK w K' g i) .none .bool .int .str (fun a b c J d=> .tup (h _ _ a) b c d) (fun a b c J d=> .lst (h _ _ a) b c d) .bV (fun a e b c J d=> .gA (h _ _ a) e b c d) .nil (fun J J a b=> .cons a b) r
theorem bK.ind{w:aV}{C:aD aJ→aD PV→Prop}(d:C [] [])(e:∀v b x c,RV w K .none v x→bK w K b c→C b c→C (v::b) (x::c)){b:aD aJ}{c:aD PV}(r:bK w K b c):C b c:=
 bK.rec (motive_1:=fun J J J J=>r7) (motive_2:=fun b c J=>C b c) trivial trivial trivial trivial (fun J J J J J=>trivial) (fun J J J J J=>trivial) trivial (fun J J J J J J=>trivial) d (fun a r J i=>e _ _ _ _ a r i) r
theorem bK.mono{w:aV}(h:∀b o,K b=O o→K' b=O o){c:aD aJ}{d:aD PV}(r:bK w K c d):bK w K' c d:=bK.ind .nil (fun J J J J a J b=> .cons (a.mono h) b) r
theorem bK.length{w:aV}{a:aD aJ}{c:aD PV}(r:bK w K a c):a.length=c.length:=bK.ind (C:=fun a c=>a.length=c.length) V (fun J J J J J J b=>aT (· +1) b) r
theorem bK.ml(r:bK w K d (x::e)):∃v c,d=v::c∧RV w K .none v x∧bK w K c e:=by cases r with |cons a b=>exact⟨_,_,rfl,a,b⟩
theorem bK.nil_inv(r:bK w K a []):a=[] :=qA r.length
noncomputable def RV.Inv(w:aV)(K:PK)(g:aG aW)(v:aJ):PV→Prop
 | .none=>v= .none| .bool b=>v= .bool b| .int i=>∃t,v= .int i t| .str x=>∃t,v= .str x t| .tup d=>∃a o c n,v= .ref a∧K a=O o∧o.cls= .type "tuple"∧o.data= .seq c n∧bK w K c.toList d| .lst d=>∃a o c n,v= .ref a∧K a=O o∧o.cls= .type "list"∧o.data= .seq c n∧bK w K c.toList d| .bV=>∃a,g=O a∧v= .ref a| .gA f=>∃a o e,v= .ref a∧K a=O o∧(a==j0)=aI∧(∀h:bF,h.get? a=O o→h.DictOf (strKind pg w) a e)∧e.map (·.1)=f.map (·.1)∧bK w K (e.map (·.2)) (f.map fun p=> .int p.2)
theorem RV.inv(r:RV w K f v x):RV.Inv w K f v x:=
 RV.casesOn (motive_1:=fun f v x J=>RV.Inv w K f v x) r V rfl ⟨_,rfl⟩ ⟨_,rfl⟩ (fun a b c d=>⟨_,_,_,_,rfl,a,b,c,d⟩) (fun a b c d=>⟨_,_,_,_,rfl,a,b,c,d⟩) ⟨_,rfl,rfl⟩ (fun a b c d e=>⟨_,_,_,rfl,a,b,c,d,e⟩)
theorem RV.int_inv {a v i} (h:RV w K a v (.int i)):∃t,v= .int i t:=h.inv
theorem RV.str_inv {a v i} (h:RV w K a v (.str i)):∃t,v= .str i t:=h.inv
theorem RV.bool_inv {a v i} (h:RV w K a v (.bool i)):v= .bool i:=h.inv
theorem RV.none_inv {a v} (h:RV w K a v .none):v= .none:=h.inv
theorem RV.lst_inv {d v b} (h:RV w K d v (.lst b)):∃a o c n,v= .ref a∧K a=O o∧o.cls= .type "list"∧o.data= .seq c n∧bK w K c.toList b:=h.inv
theorem RV.sG {d v b} (h:RV w K d v (.tup b)):∃a o c n,v= .ref a∧K a=O o∧o.cls= .type "tuple"∧o.data= .seq c n∧bK w K c.toList b:=h.inv
theorem RV.pS {b v} (h:RV w K b v .bV):∃a,b=O a∧v= .ref a:=h.inv
theorem RV.BH {d v b} (h:RV w K d v (.gA b)):∃a o c,v= .ref a∧K a=O o∧(a==j0)=aI∧(∀h:bF,h.get? a=O o→h.DictOf (strKind pg w) a c)∧c.map (·.1)=b.map (·.1)∧bK w K (c.map (·.2)) (b.map fun p=> .int p.2):=h.inv
theorem RV.any {g f v x} (h:RV w K g v x)(i:x≠ .bV):RV w K f v x:=
 RV.casesOn (motive_1:=fun J v x J=>x≠ .bV→RV w K f v x) h (fun J=> .none) (fun J=> .bool) (fun J=> .int) (fun J=> .str) (fun a b c d J=> .tup a b c d) (fun a b c d J=> .lst a b c d) (fun h=>absurd rfl h) (fun a b c d e J=> .gA a b c d e) i
end
@[elab_as_elim] theorem sH{b:Type}{P:aD b→Prop}{l:aD b}{n:aA}(h:l.length=n+1)(k:∀a r,r.length=n→P (a::r)):P l:=by
 cases l with
 |nil=>exact F8 h|cons a r=>exact k a r (F9 h)
@[elab_as_elim] theorem pT{b:Type}{P:aD b→Prop}(k:∀a,P [a])(l:aD b)(h:l.length=1):P l:=sH h fun a J h=>qA h▸k a
@[elab_as_elim] theorem pU{c:Type}{P:aD c→Prop}(k:∀a b,P [a,b])(l:aD c)(h:l.length=2):P l:=sH h fun a r h=>pT (P:=fun r=>P (a::r)) (k a) r h
@[elab_as_elim] theorem xR{d:Type}{P:aD d→Prop}(k:∀a b c,P [a,b,c])(l:aD d)(h:l.length=3):P l:=sH h fun a r h=>pU (P:=fun r=>P (a::r)) (k a) r h
@[elab_as_elim] theorem BI{e:Type}{P:aD e→Prop}(k:∀a b c d,P [a,b,c,d])(l:aD e)(h:l.length=4):P l:=sH h fun a r h=>xR (P:=fun r=>P (a::r)) (k a) r h
@[elab_as_elim] theorem H'{g:Type}{P:aD g→Prop}(k:∀a b c d e f,P [a,b,c,d,e,f])(l:aD g)(h:l.length=6):P l:=sH h fun a r h=>sH h fun b r h=>BI (P:=fun r=>P (a::b::r)) (k a b) r h
theorem Td{g:Type}{l:aD g}(h:l.length=6):∃a b c d e f,l=[a,b,c,d,e,f] :=H' (P:=fun l=>∃a b c d e f,l=[a,b,c,d,e,f]) (fun a b c d e f=>⟨a,b,c,d,e,f,rfl⟩) l h
theorem Ia{a:Type}{l:aD (aG a)}(h:l.all QN=aF):∀q,O q∈l→False:=fun J b=>nomatch j1.mp h _ b
structure Sg where
 loc:aD (aG PV)
 mu:aG (aD PV):= .none
 pl:Bool:=aF
inductive Fl where
 |next |brk |ret (v:PV)
mutual
inductive E
 |nm (i:aA) |gk (x:Str) |int (n:Z) |str (s:Str) |bool (b:aU) |none
 |bin (o:i7) (a b:E) |un (o:UnaryOp) (a:E) |cmp (o:l5) (a b:E) |oL (o1 o2:l5) (a b c:E)
 |bo (o:BoolOp) (es:Es)
 |ja (t a b:E)
 |sub (a i:E) |dD (a l h:E)
 |lst (es:Es) |tup (es:Es) |gA (fQ:aD (Str×Z))
 |call (f:Str) (es:Es) |bi (f:eA) (es:Es)
 |lO (es:Es) |oM (a:E)
 |dG (f:eA) (a:E) (es:Es)
 |comp (elt it:E) (cond:Es) (frees:aD aA)
inductive Es
 |nil |cons (a:E) (r:Es)
end
mutual
inductive S
 |asg (i:aA) (e:E) |mq (i:aA) (e:E) |jm (is:aD aA) (e:E) |mU (i j:aA) (e f:E) |uR (i j:aA) (e:E) |aug (i:aA) (o:i7) (e:E)
 |oN (i:aA) (ix e:E) |sJ (i:aA) (ix:E) (o:i7) (e:E)
 |app (i:aA) (e:E) |ins (i:aA) (e1 e2:E) |uS (i:aA) |kS (i:aA)
 |ite (t:E) (a b:B) |oO (n:aA) (t:E) (b:B) |forR (i:aA) (e:E) (b:B) |forL (i:aA) (rev:aU) (e:E) (b:B)
 |ret (e:E) |brk |bad
inductive B
 |nil |cons (s:S) (b:B)
end
end
section
noncomputable abbrev lw:OpenLaw:=ahe
theorem Ib:lw.wellSaid=true:=by decide+kernel
theorem Te:pg.bare:=⟨rfl,rfl,rfl,rfl,rfl,by decide+kernel⟩
theorem Tf:opensWell pg=true:=by decide+kernel
theorem Ic:lw.row.toRowW.promised:=⟨[.list []],by decide+kernel,by decide+kernel⟩
theorem Tg:opening pg=plainProg pg.main.scope.names:=by kernel_rfl
end
section
section
variable{E:aJ→aM→Prop}{K:Type} [DecidableEq K]
theorem Th{w:aV}{A:bX}{s:aM}{c:KeyKind pg w K}{d:aW}{g:aD (K×aJ)}{k:K}{n v:aJ}{Q:Unit→aM→Prop}(i:c.is k n=aF)(p:s.heap.DictOf c d g)(q:k∉g.map (·.1))
  (u:∀j,j.DictOf c d (g++[(k,v)])→iJ d s.heap j→Q () {s with heap:=j}) (y:g.length≤eF):
  aN (aO pg w) A (dictPut d (c.hash k) n v) Q E s:=by
 (refine oK (p) ?_;try clear p;rintro o f z l B h r m C)
 have D:f.size≤eF:=by have F:=m.length;have N:f.toList.length=f.size:=rfl;exact aL (cM (kN V F)) y
 have G:(f.findIdx? fun e=>c.is k e.key)=none:=by
  have:(f.findIdx? fun e=>c.is k e.key)=g.findIdx? fun H=>decide (H.1=k):=by refine aS (m.findIdx k) ?_;cases f;simp
  refine M this (iO List.findIdx?_eq_none_iff ?_);intro x I;simp only[QO];exact fun e=>q (iW.mpr ⟨x,I,e⟩)
 refine wpAny_bind (wpAny_dictFind_of i l h r ?_);refine M G <|wpAny_updateDictKeys (hz:=D) l h (u _ ⟨_,_,z+1,r8 _ l (Obj.isFreed_of_dict (aen h _)),B.mapDictKeys _,aen h _,r.push i _,?_,?_⟩ (qB ..))
 ·have:=m.append i (c.hash k) v;cases f;simpa using this
 ·refine M iA (iO wU ?_);refine⟨C,by simp,?_⟩;intro a L b t;simp only[gH,List.map_nil,fK] at t;subst t;exact fun e=>q (e▸L)
theorem Ti:Ar (.type "dict") (aH "__iter__")=pure (O (.builtin "dict.__iter__")):=by kernel_rfl
theorem Tj:isSubtype (.type "dict") (.type "dict")=pure true:=by refine M (QP ..) ?_;kernel_rfl
theorem uT{c:Prop} [qC c] {X Y:Prop}(a:¬c)(h:Y):if c then X else Y:=aP a▸h
theorem BJ{c:Prop} [qC c] {X Y:Prop}(a:c)(h:X):if c then X else Y:=aR a▸h
theorem xS(h:a=b)(k:aN c A b Q E s):aN c A a Q E s:=h▸k
theorem Ie{A:bX}{M0:ur}{α β:Type}{l:aD α}{f:α→β→cR (wV β)}{Q:β→aM→Prop}(I:aA→β→aM→Prop)(hQ:∀b s,I l.length b s→Q b s)
  (turn:∀i x b s,l[i]? =O x→I i b s→aN M0 A (f x b) (fun r s'=>∃b',r= .yield b'∧I (i+1) b' s') E s) {b:β} {s:aM} (h0:I 0 b s):aN M0 A (forIn l b f) Q E s:=by
 have go:∀(r:aD α) (k:aA),(∀i x,r[i]? =O x→l[k+i]? =O x)→k+r.length=l.length→∀b s,I k b s→aN M0 A (forIn r b f) Q E s:=by
  intro r
  induction r with
  |nil=>intro k _ hk b s h;exact wpAny_pure (hQ b s (hk▸h))
  |cons x r ih=>
   intro k hx hk b s h;refine M (wW ..) <|wpAny_bind (wpAny_mono (turn k x b s (hx 0 x V) h) (fun r' s' h'=> ?_) fun J J e=>e)
   (refine aQ (h') ?_;try clear h';rintro b' e h');exact M e <|ih (k+1) (fun i y hy=>by refine M (iI ..) (M (iz 1 ..) ?_);exact hx (i+1) y hy) (by refine M (iI ..) (M (iz 1 ..) ?_);exact hk) b' s' h'
 exact go l 0 (fun i x h=>by refine M (oo ..) ?_;exact h) (oo _) b s h0
noncomputable def Tk(c:KeyKind pg w K)(d a:aW)(e f:aD (K×aJ))(g:Obj)(s:aM)(i:aA)(_:Ga)(h:aM):Prop:=
 ∃b,h={s with heap:=b}∧b.DictOf c d (e++f.take i)∧b.get? a=O g∧iJ d s.heap b
theorem Tl{a:aD (K×aJ)}(c:((b++a).map (·.1)).Nodup)(d:i < a.length)(e:a[i]? =O (k,v)):k∉(b++a.take i).map (·.1):=by have f:a.drop i=(k,v)::a.drop (i+1):=(As d).trans (aT (· ::_) (cA ((fC d).symm.trans e)));have g:b++a=(b++a.take i)++((k,v)::a.drop (i+1)):=M (eZ ..) (aS f (M (aeo ..) V));rw[g,iA,wU] at c;exact fun h=>c.2.2 _ h _ (iK ..) V
theorem Tm{w:aV}{A:bX}{s:aM}{knd:KeyKind pg w K}{d a:aW}{g c:aD (K×aJ)}{Q:Unit→aM→Prop}(H:d≠a)(I:(a==j0)=aI)(L:g≠[])
  (t:s.heap.DictOf knd d g) (u:s.heap.DictOf knd a c) (N:((g++c).map (·.1)).Nodup) (P:g.length+c.length≤eF)
  (R:∀h,h.DictOf knd d (g++c)→iJ d s.heap h→Q () {s with heap:=h}):
  aN (aO pg w) A (mergeMapping d (.ref a) aI) Q E s:=by
 (refine oK (u) ?_;try clear u;rintro o j ab m S n T v ae);have y:s.TypeIs (.ref a) "dict":=⟨o,m,S.1⟩;have z:c.length=j.size:=v.length.symm.trans iL;refine oK (id t) fun af U ah W ai X aj Y ak=> ?_;have a0:¬U.isEmpty=true:=fun a1=>L (qA (Y.length.symm.trans (iL.trans (Array.isEmpty_iff_size_eq_zero.mp a1))));refine wpAny_bind (At y Tj (wpAny_bind (wX y Ti (wpAny_bind (wpAny_pure ?_)))));refine qD (uT (by refine M I ?_;exact cL) ?_);refine wpAny_bind (QQ W X (qD (uT a0 ?_)));refine wpAny_bind (QQ m n (wpAny_bind (aep m n (wpAny_bind ?_))));refine Ie (Tk knd d a g c o s) (fun J a2 l=> ?_) (fun i x b a2 a3 l=> ?_) ⟨s.heap,rfl,by refine M List.take_zero (M (jS ..) ?_);exact t,m,aeq _ _⟩
 ·(refine mT (l) ?_;try clear l;rintro h e f _ p);refine M e ?_;(replace f:=Au▸f;replace f:=Eq.symm z▸f;replace f:=Av▸f);exact wpAny_pure (R h f p)
 (refine xe (l6.mp a3) ?_;rintro k q);replace k:=Au▸k;replace q:=(aer ..)▸q;subst q;(refine mT (l) ?_;try clear l;rintro h a4 f B p);have a5:i < c.length:=z▸k;obtain⟨⟨al,am⟩,r⟩:∃a6,c[i]? =O a6:=⟨c[i],fC _⟩;(refine xa (v.get? (e:=j[i]) (by refine M pz ?_;exact Aw k) r) ?_;rintro C a7);refine aQ (T j[i] (Array.getElem_mem k)) fun an a8 a9=> ?_;obtain rfl:=knd.inj _ _ _ a8 C
 have a':(g++c.take i).length≤eF:=by refine M bH (M ni ?_);exact aL (eU (Gb _ _) _) P
 refine M a4 <|wpAny_bind (QQ B n ?_)
 refine M (Aw k) ?_;refine wpAny_bind (ii ?_);refine(M a9 ?_:aN _ A (dictPut d j[i].hash j[i].key j[i].val) _ E _);refine Th C f (Tl N a5 r) (fun D aa F=> ?_) a';have G:D.get? a=O o:=(F.2 a (Ne.symm H)).trans B;refine wpAny_bind (aep G n (qD (uT (by refine M (wY ..) ?_;exact cL) (wpAny_pure ⟨_,rfl,D,rfl,?_,G,p.trans F⟩))));refine M aes (M r (aS (eZ ..) (aS a7 ?_)));exact aa
end
end
section
noncomputable def Ig(w:aV)(p:cR aJ×cR aJ)(e:Z×Str):Prop:=
 (∀(A:bX) (E:aJ→aM→Prop) (s:aM) (Q:aJ→aM→Prop),(∀t tk,Q (.int e.1 t) {s with toks:=tk})→aN (aO pg w) A p.1 Q E s)∧
 (∀(A:bX) (E:aJ→aM→Prop) (s:aM) (Q:aJ→aM→Prop),(∀t tk,Q (.str e.2 t) {s with toks:=tk})→aN (aO pg w) A p.2 Q E s)
inductive iP(w:aV):aD (cR aJ×cR aJ)→aD (Z×Str)→Prop
 |nil:iP w [] []
 |cons {p e ps es}:Ig w p e→iP w ps es→iP w (p::ps) (e::es)
inductive im:aD (Z×aJ)→aD (Z×Str)→Prop
 |nil:im [] []
 |cons {n x t ps es}:im ps es→im ((n,.str x t)::ps) ((n,x)::es)
theorem iP.length {a b} (h:iP w a b):a.length=b.length:=by
 induction h with
 |nil=>rfl|cons _ _ ih=>exact aT (· +1) ih
theorem iP.take:∀{b c} (n:aA),iP w b c→iP w (b.take n) (c.take n)
 | _,_,0,_=>by simpa using iP.nil| _,_,n+1,.nil=>by simpa using iP.nil| _,_,n+1,.cons a h=>by simpa using iP.cons a (h.take n)
theorem iP.drop:∀{b c} (n:aA),iP w b c→iP w (b.drop n) (c.drop n)
 | _,_,0,h=>by simpa using h| _,_,n+1,.nil=>by simpa using iP.nil| _,_,n+1,.cons a h=>by simpa using h.drop n
theorem im.keys {a b} (h:im a b):a.map (·.1)=b.map (·.1):=by
 induction h with
 |nil=>rfl|cons _ ih=>exact aT (QR _) ih
theorem im.append {a b qs c} (g:im a b)(h:im qs c):im (a++qs) (b++c):=by
 induction g with
 |nil=>exact h|cons _ ih=>exact .cons ih
theorem im.len {a b} (h:im a b):a.length=b.length:=by have:=aT ot h.keys;simpa using this
section
variable{E:aJ→aM→Prop}
theorem Tn(ht:iP w ps es):∀{fQ:aD (Z×aJ)} {s:aM} {Q:Ga→aM→Prop},
  s.heap.DictOf (fF pg w) d fQ→(fQ.map (·.1)++es.map (·.1)).Nodup→fQ.length+es.length≤eF→
  (∀h' tk sK,im sK es→h'.DictOf (fF pg w) d (fQ++sK)→iJ d s.heap h'→Q QS {s with heap:=h',toks:=tk})→
  aN (aO pg w) A (forIn ps QS fun(p:cR aJ×cR aJ) (_:Ga)=>(do let kv ←p.1;let vv ←r9 [kv] p.2;r9 [kv,vv] (dictSet d kv vv);pure (Ax QS):cR (wV Ga))) Q E s:=by
 induction ht with
 |nil=>
  intro fQ s Q hd _ _ hQ;exact wpAny_pure (hQ s.heap s.toks [] .nil (by simpa using hd) (aeq _ _))
 | @cons p e ps es hp hr ih=>
  obtain⟨n,x⟩:=e;intro fQ s Q hd hn hz hQ;refine M (wW ..) <|wpAny_bind (wpAny_bind (hp.1 _ _ _ _ fun t tk=> ?_))
  refine wpAny_bind (ii (hp.2 _ _ _ _ fun t' To=> ?_))
  have Ts:sa fQ n (Value.str x t')=fQ++[(n,Value.str x t')] :=by unfold sa;rw[aP];intro ha;simp only[wZ,lG] at ha;(refine aQ (ha) ?_;try clear ha;rintro q hq e);rw[wU] at hn;exact hn.2.2 _ (Ay hq) n (.head _) e
  simp only[j2] at hz;refine wpAny_bind (ii (wpAny_dictSet_pairs (knd:=fF pg w) (hsz:=aL (F7 hz) (l7 _ _)) (nj pg w n t) hd fun h' oP Tt=>wpAny_pure ?_));rw[Ts] at oP;have uU:((fQ++[(n,Value.str x t')]).map (·.1)++es.map (·.1)).Nodup:=by simpa using hn
  exact ih oP uU (by simp;exact aL (cM (on _ _ _)) hz) fun Tu Ih sK hv Tv Tw=>hQ Tu Ih ((n,.str x t')::sK) (.cons hv) (by simpa using Tv) (Tt.trans Tw)
theorem Tx(ht:iP w ps es)(hl:15 < ps.length)(hz:es.length≤eF)(hn:(es.map (·.1)).Nodup)
  (hQ:∀h' tk fQ,im fQ es→h'.DictOf (fF pg w) s.heap.objs.size fQ→h'.objs.size=s.heap.objs.size+1→(∀b o,s.heap.get? b=O o→h'.get? b=O o)→Q s.heap.objs.size {s with heap:=h',toks:=tk}):
  aN (aO pg w) A (Az ps) Q E s:=by
 unfold Az;refine wpAny_bind (Gc ?_);refine wpAny_bind (ii ?_);refine M (aP (Nat.not_le_of_lt hl)) <|wpAny_bind (Ge (wpAny_bind ?_))
 refine Tn ht (Gf _) (by simpa using hn) (by simpa using hz) fun h' tk sK hv hd hs=>wpAny_pure (wpAny_pure ?_);refine hQ h' tk sK hv (by simpa using hd) (by refine M hs.1 ?_;simp[aet]) fun b o e=> ?_;have hb:b≠s.heap.objs.size:=fG (fA e);exact(hs.2 b hb).trans (eV _ e)
inductive uV:aD (aJ×aJ)→aD (Z×Str)→Prop
 |nil:uV [] []
 |cons {n x t u vs es}:uV vs es→uV ((.int n t,.str x u)::vs) ((n,x)::es)
theorem Tz(ht:iP w ps es):∀{s:aM} {Q:aD (aJ×aJ)→aM→Prop},
  (∀vs tk,uV vs es→Q vs {s with toks:=tk})→aN (aO pg w) A (QT ps) Q E s:=by
 induction ht with
 |nil=>intro s Q hQ;exact aeu (hQ [] s.toks .nil)
 | @cons p e ps es hp hr ih=>
  intro s Q hQ;obtain⟨n,x⟩:=e;obtain⟨k,v⟩:=p;exact aev (hp.1 _ _ _ _ fun t tk=>hp.2 _ _ _ _ fun t' To=>ih fun vs Ih hv=>hQ _ _ (.cons hv))
theorem TA {d e} (h:uV d e):∃c,Carries (fF pg w) d c∧im c e:=by
 induction h with
 |nil=>exact⟨[],trivial,.nil⟩
 |cons _ ih=>
  (refine aQ (ih) ?_;try clear ih;rintro c a b);exact⟨(_,.str _ _)::c,⟨nj pg w _ _,rfl,a⟩,.cons b⟩
theorem Ii:∀(b a:aD (Z×aJ)),(a.map (·.1)++b.map (·.1)).Nodup→qE a b=a++b
 |[],a,_=>by simp[qE]
 |(k,v)::r,a,h=>by
  have d:k∉a.map (·.1):=fun f=>by rw[wU] at h;exact h.2.2 k f k (.head _) V
  have e:sa a k v=a++[(k,v)] :=by unfold sa;rw[aP];intro c;simp only[wZ,lG] at c;(refine aQ (c) ?_;try clear c;rintro p g rfl);exact d (Ay g)
  have ih:=Ii r (a++[(k,v)]) (by simpa using h);have:qE a ((k,v)::r)=qE (sa a k v) r:=rfl;refine M this (M e (M ih ?_));simp
theorem Ij(h:iP w i f)(n:f.length≤eF)(j:(f.map (·.1)).Nodup)
  (k:∀c tk d,im d f→c.DictOf (fF pg w) s.heap.objs.size d→c.objs.size=s.heap.objs.size+1→(∀b o,s.heap.get? b=O o→c.get? b=O o)→Q s.heap.objs.size {s with heap:=c,toks:=tk}):
  aN (aO pg w) A (Az i) Q E s:=by
 rcases ou 15 i.length with g |g
 ·exact Tx h g n j k
 ·refine wpAny_subDict (knd:=fF pg w) g (Tz h fun r tk p=> ?_);refine aQ (TA (w:=w) p) fun d a b=>⟨d,a,Gf _,fun c l m=> ?_⟩;rw[Ii d [] (by refine M b.keys ?_;simpa using j)] at l;refine k c _ d b (by simpa using l) (by refine M m.1 ?_;simp[aet]) fun b o e=> ?_;have q:b≠s.heap.objs.size:=fG (fA e);exact(m.2 b q).trans (eV _ e)
noncomputable def Ik(run:aD (cR aJ×cR aJ))(a:aG aW):cR (aG aW):=do
  if run.isEmpty then return a
  match a with
  |none=>return O (←Az run)
  |some d=>
   let sub ←r9 [.ref d] (Az run)
   (r9 [.ref d,.ref sub] (mergeMapping d (.ref sub) aI)).onRaise fun x=>do let _ ←r9 [.ref d,x] (runValue (.builtin "proto.let_go" {}))
   return O d
noncomputable def xT(w:aV)(h₀ h:bF):aG aW→aD (Z×Str)→Prop
 |none,a=>a=[]∧h=h₀|some d,a=>a≠[]∧∃c,im c a∧h.DictOf (fF pg w) d c∧h₀.objs.size≤d∧∀b o,h₀.get? b=O o→h.get? b=O o
theorem Il{done:aD (Z×Str)}(m:iP w j c)(D:0 < j.length)
  (t:done.length+c.length≤eF) (f:((done++c).map (·.1)).Nodup) (k:xT w h₀ s.heap u done) (F:j0 < h₀.objs.size)
  (v:∀h tk d,xT w h₀ h (O d) (done++c)→Q (O d) {s with heap:=h,toks:=tk}):
  aN (aO pg w) A (Ik j u) Q E s:=by
 have G:j.isEmpty=false:=by cases j with
  |nil=>simp at D|cons=>rfl
 have x:c≠[] :=by intro e;have:=m.length;(replace this:=e▸this;replace this:=xb▸this);lia
 have y:(c.map (·.1)).Nodup:=by(replace f:=iA▸f;replace f:=QU wU f);exact f.2.1
 unfold Ik;refine M G ?_;have z:c.length≤eF:=aL (ov _ _) t;cases u with
 |none=>
  (refine xa k ?_;clear k;rintro rfl e);refine wpAny_bind (Ij m z y fun h tk l a i H n=>wpAny_pure ?_);refine v h tk _ ⟨by simpa using x,l,by simpa using a,i,?_,?_⟩
  ·refine M e ?_;exact bZ _
  ·intro b o g;exact n b o (by refine M e ?_;exact g)
 |some d=>
  (refine HX k ?_;clear k;rintro I l a i p n);refine wpAny_bind (ii (Ij m z y fun h tk K q L H B=> ?_));refine eP (id i) fun a0 J J N J=> ?_;have C:d < s.heap.objs.size:=fA N
  have P:h.DictOf (fF pg w) d l:=by(refine eP (i) ?_;try clear i;rintro o R S T r);exact⟨o,R,S,B _ _ T,r⟩
  refine wpAny_bind (Gg (ii (Tm (knd:=fF pg w) (fG C) ?_ ?_ P L ?_ ?_ fun U W X=>wpAny_pure ?_)))
  ·exact beq_eq_false_iff_ne.mpr (eG (iM F (cC p C)))
  ·intro e;replace a:=e▸a;cases a;exact I V
  ·refine M iA (M a.keys (M q.keys (aS iA ?_)));exact f
  ·refine M a.len (M q.len ?_);exact t
  ·refine v U tk d ⟨by simp[x],l++K,a.append q,W,p,fun b o e=> ?_⟩;have Y:b < h₀.objs.size:=fA e;exact(X.2 b (fG (bL Y p))).trans (B b o (n b o e))
noncomputable def TB(w:aV)(c:aD (cR aJ×cR aJ))(d:aD (Z×Str))(s:aM)(n:aA)(b:aG aW×aD (cR aJ×cR aJ))(e:aM):Prop:=
 ∃m r a tk,n=17*m+r∧r < 17∧e={s with heap:=a,toks:=tk}∧b.2=(c.drop (17*m)).take r∧xT w s.heap a b.1 (d.take (17*m))
theorem TC(l:iP w g a)(N:0 < g.length)
  (D:a.length≤eF) (F:(a.map (·.1)).Nodup) (G:j0 < s.heap.objs.size)
  (P:∀c tk d q,im q a→c.DictOf (fF pg w) d q→s.heap.objs.size≤d→(∀b o,s.heap.get? b=O o→c.get? b=O o)→Q (.ref d) {s with heap:=c,toks:=tk}):
  aN (aO pg w) A (dictDisplay (g.map fun p=>(O p.1,p.2))) Q E s:=by
 have split:∀m,a.take (17*m)++(a.drop (17*m)).take 17=a.take (17*(m+1)):=fun m=>M (r6 ..) (M QV V)
 have H:∀(o:aG aW) c tk,xT w s.heap c o a→aN (aO pg w) A (match o with |some d=>pure (QW d) |none=>newDict) Q E {s with heap:=c,toks:=tk}:=fun o c tk f=>by
  cases o with
  |none=>exact absurd (l.length.trans (aT ot f.1)) (eG N)
  |some d=>
   (refine HX f ?_;clear f;rintro _ q R S T U);exact wpAny_pure (P c tk d q R S T U)
 refine wpAny_bind (Ie (TB w g a s) (fun b W h=> ?_) (fun n x b W t h=> ?_) ⟨0,0,s.heap,s.toks,rfl,by decide,rfl,rfl,⟨rfl,rfl⟩⟩)
 ·(refine il (h) ?_;try clear h;rintro m r c tk e I u i f);replace e:=(bQ ..)▸e;have i:b.2=g.drop (17*m):=M i (M (mG (by refine M iB (M e (M (qy ..) ?_));exact bZ _)) V);refine M u <|wpAny_bind ?_
  refine M i ?_;cases r with
  |zero=>
   have X:a.take (17*m)=a:=aS (sb (17*m)) (aS e (M l.length (M Av V)));refine M (xc (cM e:g.length≤17*m)) ?_;replace f:=X▸f;exact wpAny_pure (H b.1 c tk f)
  |succ r=>
   have v:a.take (17*m)++a.drop (17*m)=a:=aeo _ _;refine Il (h₀:=s.heap) (done:=a.take (17*m)) (l.drop _) (by refine M iB (M e (M (qy ..) ?_));exact ow r) (by refine aS bH (M v ?_);exact D) (by refine M v ?_;exact F) f G fun y z d j=> ?_;replace j:=v▸j;exact H (O d) y z j
 ·(refine il (h) ?_;try clear h;rintro m r c tk e I u i f);replace t:=ij▸t;refine aQ (l8.mp t) fun p K Y=>aS Y (M u ?_);(refine xe (l6.mp K) ?_;rintro a0 _)
  have B:b.2++[(p.1,p.2)] =(g.drop (17*m)).take (r+1):=by refine M i (M aes (M AA (aS e (M K ?_))));rfl
  have C:r+1≤g.length - 17*m:=Nat.le_sub_of_add_le' (by refine aS (iI ..) (aS e ?_);exact a0)
  have L:(b.2++[(p.1,p.2)]).length=r+1:=by refine M B (M ni (M iB ?_));exact l4 C
  by_cases k:r=16
  ·refine qD (BJ (by refine M L (M k ?_);rfl) (wpAny_bind ?_));refine M B (M k ?_);rw[k] at C e;refine Il (h₀:=s.heap) (done:=a.take (17*m)) ((l.drop (17*m)).take 17) (by refine M ni (M iB (M (l4 C) ?_));decide) (by refine aS bH (M (split ..) ?_);exact aL (List.length_take_le' _ _) D) (by refine M (split ..) (M qF ?_);exact F.sublist (Gh _ _)) f G fun y z d j=>wpAny_pure ⟨_,rfl,m+1,0,y,z,by refine M e ?_;rfl,by decide,rfl,rfl,?_⟩;refine aS (split ..) ?_;exact j
  ·exact qD (uT (by refine M L ?_;exact fun a1=>k (F9 (beq_iff_eq.mp a1))) (wpAny_pure ⟨_,rfl,m,r+1,c,tk,by refine M e ?_;rfl,ko (aek (jy I) k),rfl,B,f⟩))
end
end
section
open Classical
noncomputable def aZ{b:Type}(p:Prop)(a:aG b):aG b:=if p then a else .none
theorem bB(h:p):aZ p a=a:=aR h
theorem nn{a:Type}{z:a}{C:Prop}(h:(aB:aG a)=O z):C:=nomatch h
theorem iZ(h:aZ p a=O x):p∧a=O x:=by
 by_cases b:p
 ·exact⟨b,(aR b).symm.trans h⟩
 ·exact nomatch (aP b).symm.trans h
noncomputable def truth:PV→aG aU
 | .none=>O aI| .bool b=>O b| .int i=>O (i !=0)| .str s=>aZ (s.length≤eF) (O (s.length !=0))| _=> .none
noncomputable def ints? :aD PV→aG (aD Z)
 |[] =>O []| .int i::r=>(ints? r).map (i:: ·)| _=> .none
noncomputable def Im(a b:Z):i7→aG PV
 | .Add=>O (.int (a+b))| .Sub=>O (.int (a - b))| .Mult=>aZ (PySem.IntMulOk a b) (O (.int (a*b)))| .FloorDiv=>aZ (b≠0∧b.natAbs.log2 < 9000) (O (.int (a.fdiv b)))| .Mod=>aZ (b≠0∧b.natAbs.log2 < 9000) (O (.int (a.fmod b)))| .Pow=>aZ (0≤b∧(gW a:Z)*b≤2^27) (O (.int (a^b.toNat)))| .LShift=>aZ (0≤b∧(gW a:Z)+b≤2^27) (O (.int (a*2^b.toNat)))| .RShift=>aZ (0≤b) (O (.int (a.fdiv (2^b.toNat))))| .BitAnd=>O (.int (qG a b))| .BitOr=>O (.int (Gi a b))| .BitXor=>O (.int (AB a b))| _=> .none
noncomputable def dC(o:i7)(x y:PV):aG PV:=match x with
 | .int a=>match y with
  | .int b=>Im a b o| _=> .none
 | .str a=>match y with
  | .str b=>match o with
   | .Add=>aZ ((a++b).length≤eF) (O (.str (a++b)))| _=> .none
  | .int b=>match o with
   | .Mult=>aZ (a.length=1∧ -10000≤b∧b≤10000) (O (.str ⟨Gj b.toNat (a.cps.getD 0 0)⟩))| _=> .none
  | _=> .none
 | .lst a=>match y with
  | .lst b=>match o with
   | .Add=>aZ (a.length+b.length≤1000) (O (.lst (a++b)))| _=> .none
  | _=> .none
 | _=> .none
noncomputable def BK(o:UnaryOp)(x:PV):aG PV:=match o with
 | .Not=>(truth x).map fun b=> .bool (!b)
 | .USub=>match x with
  | .int a=>O (.int (-a))| _=> .none
 | .Invert=>match x with
  | .int a=>O (.int (aew a))| _=> .none
 | _=> .none
noncomputable def Io(a b:Z):l5→aG PV
 | .Eq=>O (.bool (a==b))| .NotEq=>O (.bool (a !=b))| .Lt=>O (.bool (decide (a < b)))| .LtE=>O (.bool (decide (a≤b)))| .Gt=>O (.bool (decide (b < a)))| .GtE=>O (.bool (decide (b≤a)))| _=> .none
noncomputable def Ip(a b:Str):l5→aG PV
 | .Eq=>O (.bool (decide (a=b)))| .NotEq=>O (.bool (decide (a≠b)))| .LtE=>O (.bool (!decide (b.cps.toList < a.cps.toList)))| .NotIn=>O (.bool (!aex b a))| _=> .none
noncomputable def jb(o:l5)(x y:PV):aG PV:=match x with
 | .int a=>match y with
  | .int b=>Io a b o
  | .none=>match o with
   | .Is=>O (.bool aI)| _=> .none
  | _=> .none
 | .str a=>match y with
  | .str b=>Ip a b o
  | .gA c=>match o with
   | .In=>O (.bool (c.any fun p=>decide (p.1=a)))| _=> .none
  | _=> .none
 | .bool a=>match y with
  | .bool b=>match o with
   | .IsNot=>O (.bool (a !=b))| _=> .none
  | _=> .none
 | .none=>match y with
  | .none=>match o with
   | .Is=>O (.bool aF)| _=> .none
  | _=> .none
 | _=> .none
noncomputable def uW:PV→aG (aG Z)
 | .none=>O .none| .int i=>O (O i)| _=> .none
noncomputable def gL(x:Str)(l h:aG Z):Str:=⟨((x.cps.toList.drop (l.elim 0 (jz x.length))).take (h.elim x.length (jz x.length) - l.elim 0 (jz x.length))).toArray⟩
noncomputable def xU(x:aD PV)(l h:aG Z):aD PV:=(x.drop (l.elim 0 (jz x.length))).take (h.elim x.length (jz x.length) - l.elim 0 (jz x.length))
noncomputable def qV(a:aD PV)(k:Z):aG PV:=aZ (a.length≤eF) ((ox k a.length).bind fun j=>a[j]?)
noncomputable def jn(b:aG (aD PV))(o i:PV):aG PV:=match o with
 | .str x=>match i with
  | .int k=>aZ (x.length≤eF) ((ox k x.length).map fun j=> .str ⟨#[x.cps.getD j 0]⟩)| _=> .none
 | .tup a=>match i with
  | .int k=>qV a k| _=> .none
 | .lst a=>match i with
  | .int k=>qV a k| _=> .none
 | .bV=>match i with
  | .int k=>b.bind fun a=>qV a k| _=> .none
 | .gA c=>match i with
  | .str k=>(c.find? fun p=>decide (p.1=k)).map fun p=> .int p.2| _=> .none
 | _=> .none
noncomputable def mV(o l h:PV):aG PV:=match o with
 | .str x=>(uW l).bind fun a=>(uW h).bind fun b=>aZ (x.length≤eF) (O (.str (gL x a b)))| .lst c=>(uW l).bind fun a=>(uW h).bind fun b=>aZ (c.length≤1000) (O (.lst (xU c a b)))| _=> .none
noncomputable def strs? :aD PV→aG (aD Str)
 |[] =>O []| .str s::r=>(strs? r).map (s:: ·)| _=> .none
noncomputable def pV(i:Z):Str:=aH (toString i)
noncomputable def pW(a b d:Z):aD PV:=(mH (sd a b d).toNat).map fun k=> .int (a+(k:aA)*d)
noncomputable def small(a b d:Z):Prop:=0≤a∧a≤1000000∧0≤b∧b≤1000000∧1≤d∧d≤1000
noncomputable def xV(a:aD PV):aG PV:=aZ (a.length≤eF) (O (.int a.length))
noncomputable def Iq(a:aG (aD PV))(f:eA)(x:PV):aG PV:=match x with
 | .str x=>if f="len" then aZ (x.length≤eF) (O (.int x.length)) else if f="ord" then aZ (x.length=1) (O (.int (x.cps.getD 0 0:aA))) else .none| .lst b=>if f="len" then xV b else .none| .bV=>if f="len" then a.bind xV else .none| .int i=>if f="chr" then aZ (0≤i∧i≤0x10FFFF) (O (.str ⟨#[i.toNat]⟩)) else if f="str" then aZ (i.natAbs < 10^10) (O (.str (pV i))) else .none| _=> .none
noncomputable def Ir(f:eA)(a b:Z):aG PV:=
 if f="min" then O (.int (if b < a then b else a)) else if f="divmod" then aZ (b≠0∧b.natAbs.log2 < 9000) (O (.tup [.int (a.fdiv b),.int (a.fmod b)])) else .none
noncomputable def oQ(c:aG (aD PV))(f:eA)(d:aD PV):aG PV:=match d with
 |[] => .none
 |x::r=>match r with
  |[] =>Iq c f x
  |y::r=>match r with
   |[] =>match x with
    | .int a=>match y with
     | .int b=>Ir f a b| _=> .none
    | _=> .none
   | _=> .none
noncomputable def xW(f:eA)(x:PV):aG PV:=match x with
 | .str x=>if f="lower" then aZ (x.length≤5592405) (O (.str (cD x))) else if f="upper" then aZ (x.length≤5592405) (O (.str (qH x))) else .none| .int a=>if f="bit_length" then O (.int (gW a)) else .none| _=> .none
noncomputable def It(f:eA)(x:Str)(y:PV):aG PV:=match y with
 | .lst b=>if f="join" then(strs? b).bind fun a=>aZ ((a.map (·.length)).sum+a.length*x.length≤16777216) (O (.str (l9 x a))) else .none
 | .str y=>if f="split" then aZ ((y.length==0)=aI∧(decide (x.length < y.length) ||decide (Gk x < Gk y))=aI∧(Gl x y 0 x.length (x.length+1)).isEmpty=aI∧x.length≤100000∧
   (aey x (Gl x y 0 x.length (x.length+1)) y.length).length≤1000) (O (.lst ((Txt.split x y).map .str))) else .none
 | _=> .none
noncomputable def nG(_:aG (aD PV))(f:eA)(x:PV)(a:aD PV):aG PV:=match a with
 |[] =>xW f x
 |y::r=>match r with
  |[] =>match x with
   | .str x=>It f x y| _=> .none
  | _=> .none
structure bT where
 gk:Str→aG Z
 call:Str→aD PV→aG PV
noncomputable def kU:aD PV→aU
 |[] =>aF| .bV::_=>aI| _::r=>kU r
section
noncomputable def lC(a:aD PV)(k:PV→aD PV→aG PV):aG PV:=match a with
 |[] =>aB|x::r=>k x r
noncomputable def lN(a:aD PV)(z:aG PV):aG PV:=match a with
 |[] =>z| _=>aB
noncomputable def sI(x:PV)(k:Z→aG PV):aG PV:=match x with
 | .int a=>k a| _=>aB
noncomputable def sS(x:PV)(k:Str→aG PV):aG PV:=match x with
 | .str a=>k a| _=>aB
noncomputable def sB(x:PV)(k:aU→aG PV):aG PV:=match x with
 | .bool a=>k a| _=>aB
@[elab_as_elim] theorem eC{a:aD PV}{z:PV} {k} {C:aD PV→Prop}(h:lC a k=O z)(f:∀x r,k x r=O z→C (x::r)):C a:=by
 cases a with
 |nil=>exact nn h|cons x r=>exact f x r h
@[elab_as_elim] theorem eN{a:aD PV}{z:PV} {y} {C:aD PV→Prop}(h:lN a y=O z)(f:y=O z→C []):C a:=by
 cases a with
 |nil=>exact f h|cons=>exact nn h
@[elab_as_elim] theorem eI{x z:PV} {k} {C:PV→Prop}(h:sI x k=O z)(f:∀a,k a=O z→C (.int a)):C x:=by
 cases x with
 |int a=>exact f a h| _=>exact nn h
@[elab_as_elim] theorem eS{x z:PV} {k} {C:PV→Prop}(h:sS x k=O z)(f:∀a,k a=O z→C (.str a)):C x:=by
 cases x with
 |str a=>exact f a h| _=>exact nn h
@[elab_as_elim] theorem eB{x z:PV} {k} {C:PV→Prop}(h:sB x k=O z)(f:∀a,k a=O z→C (.bool a)):C x:=by
 cases x with
 |bool a=>exact f a h| _=>exact nn h
end
noncomputable def BL(c:aD PV):aG PV:=lC c fun x r=>sI x fun a=>lC r fun y r=>sI y fun b=>r.rec (motive:=fun J=>aG PV) (aZ (small a b 1) (O (.lst (pW a b 1)))) fun z r J=>sI z fun d=>lN r (aZ (small a b d) (O (.lst (pW a b d))))
noncomputable def TD(a:BoolOp)(b:aU):Bool:=match a with
 | .And=> !b| .Or=>b
noncomputable def TE:Es→aU
 | .nil=>aF| _=>aI
mutual
noncomputable def ev(P:bT)(d:Sg):E→aG PV
 | .nm i=>(d.loc[i]?).join| .gk x=>(P.gk x).map .int| .int n=>O (.int n)| .str s=>O (.str s)| .bool b=>O (.bool b)| .none=>O .none| .bin o a b=>(ev P d a).bind fun x=>(ev P d b).bind fun y=>dC o x y| .un o a=>(ev P d a).bind fun x=>BK o x| .cmp o a b=>(ev P d a).bind fun x=>(ev P d b).bind fun y=>jb o x y
 | .oL j k a b c=>(ev P d a).bind fun x=>(ev P d b).bind fun y=>match jb j x y with
  |some (.bool aI)=>O (.bool aI)|some (.bool aF)=>(ev P d c).bind fun z=>jb k y z| _=> .none
 | .bo o g=>oR P d o g
 | .ja t a b=>match(ev P d t).bind (truth) with
  |some aF=>ev P d a|some aI=>ev P d b| .none=> .none
 | .sub a i=>(ev P d a).bind fun x=>(ev P d i).bind fun y=>jn d.mu x y| .dD a l h=>(ev P d a).bind fun x=>(ev P d l).bind fun y=>(ev P d h).bind fun z=>mV x y z| .lst g=>(gB P d g).bind fun e=>aZ (e.length≤1000∧kU e=aF) (O (.lst e))| .tup g=>(gB P d g).bind fun e=>aZ (e.length≤1000∧kU e=aF) (O (.tup e))| .gA m=>O (.gA m)| .call f g=>(gB P d g).bind fun e=>aZ (kU e=aF) (P.call f e)| .bi f g=>(gB P d g).bind fun e=>oQ d.mu f e| .lO g=>(gB P d g).bind BL
 | .oM a=>(ev P d a).bind fun x=>match x with
  | .str s=>aZ (s.length≤1000) (O (.lst (s.cps.toList.map fun c=> .str ⟨#[c]⟩)))| _=> .none
 | .dG f a g=>(ev P d a).bind fun x=>(gB P d g).bind fun e=>nG d.mu f x e| .comp _ _ _ _=> .none
termination_by structural e=>e
noncomputable def gB(P:bT)(b:Sg):Es→aG (aD PV)
 | .nil=>O []| .cons a r=>(ev P b a).bind fun x=>(gB P b r).bind fun c=>O (x::c)
termination_by structural e=>e
noncomputable def oR(P:bT)(c:Sg)(o:BoolOp):Es→aG PV
 | .nil=> .none| .cons a r=>(ev P c a).bind fun x=>cond (TE r) (O x) ((truth x).bind fun b=>cond (TD o b) (O x) (oR P c o r))
termination_by structural e=>e
end
end
section
structure Tab where
 P:aW
 pos:bG
 q:Str
inductive mW(K:aW→aG Obj)(v:aJ)(q:Str):Prop
 |mk (c o vs t:_) (h1:v= .ref c) (h2:K c=O o) (h3:o.data= .fields vs) (h4:vs[1]? =O (.str q t)):mW K v q
noncomputable def Tab.Ok(K:aW→aG Obj)(h:bF)(t:Tab):Prop:=∃a,h.get? t.P=O {cls:= .none,data:= .fields a}∧ut a.toList∧(mI t.pos a.toList=aB∨∃b,mI t.pos a.toList=O b∧mW K b t.q)
theorem mW.mono{K:aW→aG Obj} {v q} (x:mW K v q)(h:∀b o,K b=O o→d b=O o):mW d v q:=
 let⟨c,o,e,t,a,b,f,g⟩:=x;⟨c,o,e,t,a,h _ _ b,f,g⟩
theorem Tab.Ok.mono{K c:aW→aG Obj}{h f:bF}{t:Tab}(x:t.Ok K h)(g:∀b o,K b=O o→c b=O o)(i:∀o,h.get? t.P=O o→f.get? t.P=O o):t.Ok c f:=
 dB x fun j a d b=>⟨j,i _ a,d,b.imp id fun⟨k,e,r⟩=>⟨k,e,r.mono g⟩⟩
theorem Tab.Ok.some{K:aW→aG Obj}{h:bF}{t:Tab}(x:t.Ok K h):∃o,h.get? t.P=QX o:=aQ x fun J a J=>⟨_,a⟩
structure iQ(TG g:eW pA):Prop where
 bare:nk g
 old:∀(k:aA) (x:pA),TG[k]? =O x→g[k]? =O x
theorem iQ.refl(h:nk g):iQ g g:=⟨h,fun J J e=>e⟩
theorem iQ.trans(x:iQ a b)(y:iQ b c):iQ a c:=⟨y.bare,fun k z e=>y.old k z (x.old k z e)⟩
structure Cx where
 mg:Str→aG aJ
 mb:Str→aG aJ
 h₀:bF
 pX:Gm
 fH:PK
 hE:bF
 env:gI
 T:aD Tab
 io:eW pA
noncomputable abbrev Off(T:aD Tab)(b:aW):Prop:=∀t∈T,t.P≠b
structure Base(mg mb:Str→aG aJ)(h:bF):Prop where
 g:h.Ns fL mg
 b:h.Ns i8 mb
 builtins:∀x:Str,x≠"__name__"→mb x=xd x
 nolimit:h.NoLimit
 nodigits:∃mc,h.Ns xf mc∧mc "sys.int_max_str_digits"=aB
 pY:∃o,h.get? j0=O o
theorem Base.keeps {d mb h f} (x:Base d mb h)(c:∀b o,h.get? b=O o→f.get? b=O o):Base d mb f:=
 ⟨x.g.keeps c,x.b.keeps c,x.builtins,x.nolimit.keeps c,(aQ x.nodigits fun g a b=>⟨g,a.keeps c,b⟩),(xe x.pY fun o e=>⟨o,c _ _ e⟩)⟩
noncomputable abbrev Mu:=aG (aW×aD aJ×aU)
noncomputable def Mu.ad:Mu→aG aW:=fun a=>a.map (·.1)
noncomputable def PK.le(K a:PK):Prop:=∀b o,K b=O o→a b=O o
theorem PK.le.refl(K:PK):PK.le K K:=fun J J e=>e
theorem PK.le.trans{K:PK}(a:PK.le K c)(b:PK.le c d):PK.le K d:=fun x o e=>b x o (a x o e)
inductive Mu.Is(w:aV)(K:PK):Mu→aG (aD PV)→Prop
 |none:Mu.Is w K .none .none
 |some {a its fl xs}:bK w K its xs→Mu.Is w K (O (a,its,fl)) (O xs)
theorem Mu.Is.mono{K:PK} {a x} (h:Mu.Is w K a x)(c:∀b o,K b=QX o→d b=QX o):Mu.Is w d a x:=by
 cases h with
 |none=>exact .none|some h=>exact .some (h.mono c)
structure Fm(c:Cx)(K:PK)(m:Str→aG aJ)(mu:Mu)(s:aM):Prop where
 ns:s.heap.Ns c.env.locals m
 keep:∀b o,K b=O o→s.heap.get? b=O o
 dH:K c.env.locals=aB
 low:∀b o,c.h₀.get? b=O o→c.fH b=O o
 le:PK.le c.fH K
 cT:∀b o,Off c.T b→c.hE.get? b=O o→s.heap.get? b=O o
 new:∀b o,K b=O o→c.fH b=O o∨c.hE.get? b=aB
 cX:c.hE.get? c.env.locals=aB
 mul:∀a its fl,mu=O (a,its,fl)→(s.heap.IsList a (AC its)∧(fl=aF→s.heap.PlainList a (AC its)))∧K a=aB∧a≠c.env.locals∧c.hE.get? a=aB
 gens:iQ c.io s.gens
 os:s.os=c.pX
 base:Base c.mg c.mb c.h₀
 dO:∀t∈c.T,K t.P=aB
 eX:∀t∈c.T,∃o,c.hE.get? t.P=O o
 tabs:∀t∈c.T,t.Ok K s.heap
theorem Fm.off {c K m a s b} (F:Fm c K m a s)(h:c.hE.get? b=aB):Off c.T b:=fun t d e=>by refine xe (F.eX t d) fun o q=> ?_;(replace q:=e▸q;replace q:=h▸q);cases q
theorem Fm.TH {c K m a s b o} (F:Fm c K m a s)(h:K b=O o):Off c.T b:=fun t d e=>by have:=F.dO t d;(replace this:=e▸this;replace this:=h▸this);cases this
theorem fR{h:bF}:h.get? h.objs.size=none:=by
 cases a:h.get? h.objs.size with
 |none=>rfl|some o=>exact absurd (fA a) (uu _)
theorem xX{h:bF}{b:aW}(a:h.objs.size≤b):h.get? b=none:=by
 cases c:h.get? b with
 |none=>rfl|some o=>exact absurd (fA c) (jA.mpr a)
noncomputable def KB(c:Cx)(a:Mu)(h d:bF):Prop:=∀b o,h.get? b=O o→b≠c.env.locals→a.ad≠O b→Off c.T b→d.get? b=O o
theorem KB.refl {c a h}:KB c a h h:=fun J J e J J J=>e
theorem KB.trans {c d h f g} (a:KB c d h f)(b:KB c d f g):KB c d h g:=fun x o e i j k=>b x o (a x o e i j k) i j k
theorem KB.of_keeps {c f h d} (a:∀b o,h.get? b=O o→d.get? b=O o):KB c f h d:=fun x o e J J J=>a x o e
theorem Fm.grow {c K m f s h' tk} (F:Fm c K m f s)(d:∀b o,s.heap.get? b=O o→h'.get? b=O o):Fm c K m f {s with heap:=h',toks:=tk}:=
 {
  ns:=F.ns.keeps d,keep:=fun b o e=>d b o (F.keep b o e),dH:=F.dH,low:=F.low,le:=F.le,cT:=fun b o n e=>d b o (F.cT b o n e),new:=F.new,cX:=F.cX,dO:=F.dO,eX:=F.eX,tabs:=fun t g=>(F.tabs t g).mono (fun J J e=>e) (d _),
  mul:=fun a h i e=>let⟨⟨j,k⟩,l⟩:=F.mul a h i e;⟨⟨(aQ j fun o p r=>⟨o,d _ _ p,r⟩),fun q=>(k q).at fun J=>d _ _⟩,l⟩,gens:=F.gens,os:=F.os,base:=F.base}
theorem Fm.tok {c K m a s tk} (F:Fm c K m a s):Fm c K m a {s with toks:=tk}:=F.grow (fun J J e=>e)
theorem Fm.Iu {c K K' m mu s} (F:Fm c K m mu s)(hK:PK.le K K')(hk:∀b o,K' b=O o→s.heap.get? b=O o)(hn:∀b o,K' b=O o→K b=O o∨(c.hE.get? b=aB∧b≠c.env.locals∧mu.ad≠O b)):Fm c K' m mu s:=
 {
  ns:=F.ns,keep:=hk,dH:=by
   cases hq:K' c.env.locals with
   |none=>rfl
   |some o=>
    rcases hn _ _ hq with h |h
    ·replace h:=F.dH▸h;cases h
    ·exact absurd rfl h.2.1
  low:=F.low,le:=F.le.trans hK,cT:=F.cT,new:=fun b o e=>(hn b o e).elim (F.new b o) (fun h=> .inr h.1),cX:=F.cX
  mul:=fun a its fl e=>dW (F.mul a its fl e) fun h1 h2 h3 h4=>⟨h1,(by
   cases hq:K' a with
   |none=>rfl
   |some o=>
    rcases hn _ _ hq with h |h
    ·replace h:=h2▸h;cases h
    ·exact absurd (by refine M e ?_;rfl) h.2.2),h3,h4⟩
  gens:=F.gens,os:=F.os,base:=F.base,eX:=F.eX,tabs:=fun t ht=>(F.tabs t ht).mono hK (fun J e=>e),dO:=fun t ht=>by
   cases hq:K' t.P with
   |none=>rfl
   |some o=>
    rcases hn _ _ hq with h |h
    ·replace h:=(F.dO t ht)▸h;cases h
    ·exact absurd rfl (F.off h.1 t ht)}
noncomputable def PK.put(K:PK)(a:aW)(o:Obj):PK:=fun b=>if b=a then O o else K b
theorem PK.uX{K:PK} {a o} (h:K a=aB):PK.le K (K.put a o):=fun b x e=>by
 unfold PK.put
 split
 ·subst_vars;rw[h] at e;exact nn e
 ·exact e
theorem PK.jo{K:PK} {a o}:K.put a o a=O o:=by simp[PK.put]
theorem Fm.Iv {c K m a s} (F:Fm c K m a s):c.hE.get? s.heap.objs.size=none:=by
 cases b:c.hE.get? s.heap.objs.size with
 |none=>rfl
 |some o=>
  refine absurd (F.cT _ _ (fun t d e=> ?_) b) (by refine M fR ?_;intro z;cases z);refine xe ((F.tabs t d).some) fun f q=> ?_;(replace q:=e▸q;replace q:=fR▸q);cases q
theorem Fm.heap {c K m a s} (F:Fm c K m a s):Base c.mg c.mb s.heap:=F.base.keeps fun b o e=>F.keep _ _ (F.le _ _ (F.low _ _ e))
theorem Fm.Iw {c K m b s a} (F:Fm c K m b s)(h:b.ad=O a):a < s.heap.objs.size:=by
 cases b with
 |none=>cases h|some p=>cases h;obtain⟨⟨⟨o,d,_⟩,_⟩,_⟩:=F.mul p.1 p.2.1 p.2.2 V;exact fA d
theorem Fm.BM {c K m a s} (F:Fm c K m a s):c.env.locals < s.heap.objs.size:=F.ns.lt
theorem Fm.called {c K m i s d s2} (F:Fm c K m i s)(A:PK.le K d)(B:∀b o,d b=O o→s2.heap.get? b=O o)(l:∀b o,d b=O o→K b=O o∨s.heap.get? b=aB)
  (f:∀b o,Off c.T b→s.heap.get? b=O o→s2.heap.get? b=O o) (C:s2.os=s.os) (D:iQ s.gens s2.gens) (E:∀t∈c.T,t.Ok d s2.heap):Fm c d m i s2∧KB c i s.heap s2.heap:=by
 have dH:Off c.T c.env.locals:=F.off F.cX
 have j:∀b,(∃o,s.heap.get? b=O o)→K b=aB→d b=none:=fun b ⟨o,e⟩ h=>by
  cases k:d b with
  |none=>rfl
  |some p=>
   rcases l _ _ k with z |z
   ·replace z:=h▸z;cases z
   ·replace z:=e▸z;cases z
 refine⟨{ns:= ?_,keep:=B,dH:= ?_,low:=F.low,le:=F.le.trans A,cT:=fun b o n e=>f b o n (F.cT b o n e),new:=fun b o e=> ?_,cX:=F.cX,mul:=fun a G H e=> ?_,gens:=F.gens.trans D,os:=C.trans F.os,base:=F.base,dO:=fun t g=> ?_,eX:=F.eX,tabs:=E},fun b o e J J n=>f b o n e⟩
 ·exact eP (F.ns) fun o u v e r=>⟨o,u,v,f _ _ dH e,r⟩
 ·exact eP (F.ns) fun o u v e r=>j _ ⟨_,e⟩ F.dH
 ·rcases l b o e with z |z
  ·exact F.new b o z
  ·refine .inr ?_;cases k:c.hE.get? b with
   |none=>rfl
   |some p=>
    have I:Off c.T b:=fun t g L=>by refine xe ((F.tabs t g).some) fun S q=> ?_;(replace q:=L▸q;replace q:=z▸q);cases q
    replace z:=(F.cT b p I k)▸z;cases z
 ·(refine dW (F.mul a G H e) ?_;rintro⟨⟨o,w,N⟩,P⟩ Q R x);have y:=F.off x;exact⟨⟨⟨o,f _ _ y w,N⟩,fun q=>(P q).at fun J=>f _ _ y⟩,j _ ⟨_,w⟩ Q,R,x⟩
 ·exact j _ (F.tabs t g).some (F.dO t g)
theorem Fm.there {c K m f s b o} (F:Fm c K m f s)(q:c.hE.get? b=O o):∃g,s.heap.get? b=O g:=by
 by_cases d:Off c.T b
 ·exact⟨o,F.cT b o d q⟩
 ·have:∃t∈c.T,t.P=b:=by refine AD fun h=>d fun t a e=>h ⟨t,a,e⟩
  (refine aQ (this) ?_;try clear this;rintro t a rfl);exact(F.tabs t a).some
theorem Fm.TJ {c K m a s t} (F:Fm c K m a s)(b:t∈c.T):t.P≠c.env.locals∧a.ad≠O t.P:=by
 refine⟨F.off F.cX t b,fun z=> ?_⟩;cases a with
 |none=>cases z
 |some p=>
  have z:p.1=t.P:=by injection z
  exact F.off (F.mul p.1 p.2.1 p.2.2 V).2.2.2 t b z.symm
theorem ky{h:bF}{o:Obj}:∀b x,h.get? b=O x→(h.push o).get? b=O x:=fun J J e=>eV _ e
theorem Fm.push {c K m a s o tk} (F:Fm c K m a s):Fm c K m a {s with heap:=s.heap.push o,toks:=tk}:=
 F.grow ky
theorem PK.pZ{K:PK}(e:K.put a o b=O x):(b=a∧o=x)∨K b=O x:=by
 unfold PK.put at e
 by_cases h:b=a
 ·rw[aR h] at e;exact .inl ⟨h,cA e⟩
 ·rw[aP h] at e;exact .inr e
theorem Fm.known{K:PK}(F:Fm c K m d s)(f:K ci=aB)(h:ci≠c.env.locals)(i:d.ad≠O ci)(j:c.hE.get? ci=aB)(k:s.heap.get? ci=O oc):PK.le K (K.put ci oc)∧Fm c (K.put ci oc) m d s:=by
 refine⟨PK.uX f,F.Iu (PK.uX f) (fun b x e=> ?_) (fun b x e=> ?_)⟩
 ·rcases PK.pZ e with⟨a,g⟩ |e
  ·refine M a (aS g ?_);exact k
  ·exact F.keep _ _ e
 ·rcases PK.pZ e with⟨a,g⟩ |e
  ·refine M a ?_;exact .inr ⟨j,h,i⟩
  ·exact .inl e
theorem Fm.fresh {c K m a s} (F:Fm c K m a s):K s.heap.objs.size=aB∧s.heap.objs.size≠c.env.locals∧a.ad≠O s.heap.objs.size∧c.hE.get? s.heap.objs.size=none:=by
 refine⟨?_,eG F.BM,fun h=>uu _ (F.Iw h),F.Iv⟩;cases b:K s.heap.objs.size with
 |none=>rfl|some x=>have:=F.keep _ _ b;rw[fR] at this;exact nn this
theorem Fm.absent {c K m d s b} (F:Fm c K m d s)(q:s.heap.get? b=aB):c.hE.get? b=aB∧b≠c.env.locals∧d.ad≠O b:=by
 refine⟨?_,fun y=> ?_,fun y=> ?_⟩
 ·cases y:c.hE.get? b with
  |none=>rfl|some e=>obtain⟨f,a⟩:=F.there y;rw[q] at a;exact nn a
 ·refine eP (F.ns) fun e J J a J=> ?_;rw[←y,q] at a;exact nn a
 ·cases d with
  |none=>exact nn y
  |some p=>
   obtain⟨⟨⟨e,a,_⟩,_⟩,_⟩:=F.mul p.1 p.2.1 p.2.2 V;rw[show p.1=b from cA y,q] at a;exact nn a
theorem Fm.alloc {c K m a s o tk} (F:Fm c K m a s)(b:o.isFreed=aI):
  PK.le K (K.put s.heap.objs.size o)∧Fm c (K.put s.heap.objs.size o) m a {s with heap:=s.heap.push o,toks:=tk}:=
 have Fr:=F.fresh
 (F.push (o:=o) (tk:=tk)).known Fr.1 Fr.2.1 Fr.2.2.1 Fr.2.2.2 (fP _ b)
end
section
section
variable{K:PK}
inductive oS(w:aV)(c:Cx)(K:PK)(m:Str→aG aJ)(mu:Mu)(h:bF)(x:PV)(v:aJ)(s':aM):Prop
 |mk (K':PK) (k:PK.le K K') (F:Fm c K' m mu s') (b:KB c mu h s'.heap) (r:RV w K' mu.ad v x):oS w c K m mu h x v s'
noncomputable def dE(w:aV)(A:bX)(c:Cx)(K:PK)(m:Str→aG aJ)(a:Mu)(t:cR aJ)(x:PV)(s:aM):Prop:=
 aN (aO pg w) A t (oS w c K m a s.heap x) (fun J J=>bO) s
theorem dE.then{E:aJ→aM→Prop}(h:dE w A c K m i t x s)
  (k:∀f v g,PK.le K f→Fm c f m i g→KB c i s.heap g.heap→RV w f i.ad v x→Q v g):aN (aO pg w) A t Q E s:=
 wpAny_mono h (fun v g ⟨f,a,b,d,e⟩=>k f v g a b d e) fun J J x=>x.elim
theorem eE(F:Fm c K m a s)(h:RV w K a.ad v x):
  oS w c K m a s.heap x v {s with toks:=tk}:=⟨K,.refl K,F.tok,.refl,h⟩
theorem fS(F:Fm c K m a s)(h:RV w K a.ad v x):
  oS w c K m a s.heap x v s:=⟨K,.refl K,F,.refl,h⟩
theorem uY(F:Fm c K m d s)(a:o.isFreed=aI)(h:∀b,PK.le K b→b s.heap.objs.size=O o→RV w b d.ad v x):
  oS w c K m d s.heap x v {s with heap:=s.heap.push o,toks:=tk}:=
 ⟨_,(F.alloc a (tk:=tk)).1,(F.alloc a).2,.of_keeps ky,h _ (F.alloc a (tk:=tk)).1 PK.jo⟩
theorem fT{a b:Str}(h:a.cps.toList=b.cps.toList):a=b:=by cases a;cases b;simp only[Str.mk.injEq];exact Gn.mp h
theorem BN:∀(n:aA) (x a:eW aA),(dT n x).foldl (· ++ ·) a=a++(dT n x.toList).flatten.toArray
 |0,x,a=>rfl|n+1,x,a=>by refine M xg (M AE (M (BN n ..) (M xg (M QY ?_))));apply Gn.mp;simp
theorem bK.append{K:PK} {c d e f} (h:bK w K c d)(g:bK w K e f):bK w K (c++e) (d++f):=bK.ind (C:=fun c d=>bK w K (c++e) (d++f)) g (fun J J J J a J b=> .cons a b) h
noncomputable def fN(w:aV)(A:bX)(c:Cx)(K:PK)(m:Str→aG aJ)(a:Mu)(t:cR aJ)(r:aG PV)(s:aM):Prop:=∀z,r=O z→dE w A c K m a t z s
section
theorem fN.some(h:dE w A c K m a t z s):fN w A c K m a t (O z) s:=fun J e=>cA e▸h
theorem fN.none:fN w A c K m a t aB s:=fun J e=>nn e
theorem fN.aZ(h:p→fN w A c K m a t r s):fN w A c K m a t (aZ p r) s:=fun z e=>have e:=iZ e;h e.1 z e.2
theorem fN.bind{w:aV}{A:bX}{c:Cx}{m:Str→aG aJ}{b:Mu}{s:aM}{t:cR aJ}{d:Type}{a:aG d}{f:d→aG PV}(h:∀x,a= .some x→fN w A c K m b t (f x) s):fN w A c K m b t (a.bind f) s:=fun z e=>by exact aQ (QZ.mp e) fun x g i=>h x g z i
theorem fN.ite [qC p] (b:p→fN w A c K m a t r s)(d:¬p→fN w A c K m a t e s):fN w A c K m a t (if p then r else e) s:=by
 by_cases h:p
 ·refine M (aR h) ?_;exact b h
 ·refine M (aP h) ?_;exact d h
end
section
theorem TK(F:Fm c K m d s)(o:i7):fN w A c K m d (sf o (.int a t) (.int b u)) (Im a b o) s:=by
 cases o with
 |Add=>exact .some (add_int (eE F .int))|Sub=>exact .some (sub_int (eE F .int))|Mult=>exact .aZ fun p=> .some (PySem.P.mul_int (eE F .int) p)|FloorDiv=>exact .aZ fun p=> .some (floordiv_int p.1 (eE F .int) (.inl (Q0 p.2)))|Mod=>exact .aZ fun p=> .some (mod_int' p.1 (eE F .int))|Pow=>exact .aZ fun p=> .some (pow_int p.1 p.2 (eE F .int))|LShift=>exact .aZ fun p=> .some (lshift_int p.1 p.2 (eE F .int))|RShift=>exact .aZ fun p=> .some (rshift_int p (eE F .int))|BitAnd=>exact .some (and_int (eE F .int))|BitOr=>exact .some (or_int (eE F .int))|BitXor=>exact .some (xor_int (eE F .int))| _=>exact .none
end
theorem Ix{a:Str}(h:a.length=0):a.cps.toList=[] :=qA h
theorem Iy{a b:Str}(h:a.length=0):a++b=b:=fT (by refine(M lH (M (Ix h) ?_):(a.cps++b.cps).toList=_);rfl)
theorem Iz{a b:Str}(h:b.length=0):a++b=a:=fT (M lH (M (Ix h) (M (jS ..) V)):(a.cps++b.cps).toList=_)
theorem TL{w:aV}{A:bX}{c:Cx}{m:Str→aG aJ}{d:Mu}{s:aM}{a b:Str}{t u:gX}(F:Fm c K m d s)(p:(a++b).length≤eF):dE w A c K m d (sf .Add (.str a t) (.str b u)) (.str (a++b)) s:=by
 refine PySem.P.add_str ?_
 split
 ·rename_i e;refine M (Iy (beq_iff_eq.mp e)) ?_;exact fS F .str
 ·split
  ·rename_i e;refine M (Iz (beq_iff_eq.mp e)) ?_;exact fS F .str
  ·exact⟨p,eE F .str⟩
theorem TM(h:n≤10000):ahf n=false:=eO (jA.mpr (aL h (by refine M cN ?_;decide)))
theorem TN{w:aV}{A:bX}{c:Cx}{m:Str→aG aJ}{h:Mu}{s:aM}{a:Str}{b:Z}{t u:gX}(F:Fm c K m h s)(p:a.length=1∧ -10000≤b∧b≤10000):dE w A c K m h (sf .Mult (.str a t) (.int b u)) (.str ⟨Gj b.toNat (a.cps.getD 0 0)⟩) s:=by
 (refine iD (p) ?_;try clear p;rintro j n f);obtain⟨⟨l⟩⟩:=a;(refine xe (aez.mp j) ?_;rintro k rfl);have d:b.toNat≤10000:=Go.mpr f;refine PySem.P.mul_str ?_ ?_ ?_ ?_
 ·refine iO xh ?_;exact⟨eO (by clear d;exact i9.mpr (cK (by decide) n)),eO (by clear d;exact pB.mpr (iV f (by decide)))⟩
 ·intro i o g;have g:(2^63 - 1) / b < (1:Z):=g;have:=(aeA (by clear d;exact dM (by decide) (i9.mp i):0 < b)).mpr (by clear d;exact cK (pC (gY _)) (cK f (by decide)):1*b≤2^63 - 1);exact absurd g (i9.mpr this)
 ·intro i o;exact TM (by refine(M (aeB ..) ?_:1*b.toNat≤10000);exact d)
 ·split
  ·have:b.toNat=0:=by clear d;lia
   exact M this <|⟨by decide,eE F .str⟩
  ·split
   ·rename_i e
    obtain rfl:b=1:=by simpa [si] using e
    exact fS F .str
   ·refine⟨by simp[si,BN,cN];exact cK f (by decide),?_⟩;have:(⟨(dT b.toNat #[k]).foldl (· ++ ·) #[]⟩:Str)=⟨Gj b.toNat ((#[k] :eW aA).getD 0 0)⟩:=fT (by simp[BN]);exact M this <|eE F .str
theorem TO(F:Fm c K m d s)(n:RV w K d.ad v (.lst a))(o:RV w K d.ad u (.lst b))(p:a.length+b.length≤1000):dE w A c K m d (sf .Add v u) (.lst (a++b)) s:=by
 (refine il (n.lst_inv) ?_;rintro q r t x rfl y z B f);(refine il (o.lst_inv) ?_;rintro C D E G rfl H I L g);obtain⟨N,P,Q,R⟩:=r;obtain⟨S,T,data2,U⟩:=D;obtain rfl:N=_:=z;obtain rfl:Q=_:=B;obtain rfl:S=_:=I;obtain rfl:data2=_:=L;have h:=F.keep _ _ y;have i:=F.keep _ _ H;refine concat_meets ⟨_,h,rfl⟩ ⟨_,i,rfl⟩ aeC seq_list_add aeD aeE (aeF _ _) (list_addW q C t E x G P T R U ?_) ⟨h,i,?_⟩
 ·have j:=f.length;have k:=g.length;rw[iL] at j k;refine M j (M k ?_);exact aL p (by refine M cN ?_;decide)
 ·exact uY (tk:=s.toks) F V (fun W l e=> .lst e V rfl (by refine M lH ?_;exact(f.mono l).append (g.mono l)))
theorem TP(F:Fm c K m e s)(f:RV w K e.ad v x)(d:RV w K e.ad u y):fN w A c K m e (sf o v u) (dC o x y) s:=by
 cases x with
 |int a=>
  (refine xe f.int_inv ?_;rintro t rfl);cases y with
  |int b=>(refine xe d.int_inv ?_;rintro g rfl);exact TK F o| _=>exact .none
 |str a=>
  (refine xe f.str_inv ?_;rintro t rfl);cases y with
  |str b=>
   (refine xe d.str_inv ?_;rintro g rfl);cases o with
   |Add=>exact .aZ fun p=> .some (TL F p)| _=>exact .none
  |int b=>
   (refine xe d.int_inv ?_;rintro g rfl);cases o with
   |Mult=>exact .aZ fun p=> .some (TN F p)| _=>exact .none
  | _=>exact .none
 |lst a=>
  cases y with
  |lst b=>
   cases o with
   |Add=>exact .aZ fun p=> .some (TO F f d p)| _=>exact .none
  | _=>exact .none
 | _=>exact .none
theorem sM(h:dC o x y=O z)(F:Fm c K m a s)(b:RV w K a.ad v x)(d:RV w K a.ad u y)(_:A.handled=aB):
  dE w A c K m a (sf o v u) z s:=TP F b d z h
end
end
section
section
variable{K:PK}
theorem qW{w:aV}{A:bX}{mu:Mu}{s:aM}{x:PV}{b:aU}{v:aJ}{Q:aU→aM→Prop}{E:aJ→aM→Prop}(h:truth x=O b)(a:RV w K mu.ad v x)(d:∀tk,Q b {s with toks:=tk}):
  aN (aO pg w) A (PySem.truthy v) Q E s:=by
 cases x with
 |none=>refine M a.none_inv ?_;obtain rfl:=cA h;exact truthy_none (d s.toks)
 |bool c=>refine M a.bool_inv ?_;obtain rfl:=cA h;exact wpAny_truthy_bool (d s.toks)
 |int i=>(refine xe a.int_inv ?_;rintro t rfl);obtain rfl:=cA h;exact truthy_int (d s.toks)
 |str y=>
  (refine xe a.str_inv ?_;rintro t rfl);refine xa (iZ h) fun p h=> ?_;obtain rfl:=cA h;rw[cN] at p;refine PySem.P.truthy_str (pB.mpr (iV (cV.mpr p) (by decide))) ?_
  have e:((y.length:Z) !=0)=(y.length !=0):=by refine iO Q1 (iO Gp (iO Gp ?_));exact not_congr Int.natCast_eq_zero
  exact M e <|d _
 | _=>exact nn h
theorem TQ(h:BK o x=O z)(F:Fm c K m a s)(d:RV w K a.ad v x):
  dE w A c K m a (unaryOp o v) z s:=by
 have e:fN w A c K m a (unaryOp o v) (BK o x) s:=by
  cases o with
  |USub=>cases x with
   |int=>(refine xe d.int_inv ?_;rintro t rfl);exact .some (PySem.P.neg_int (eE F .int))| _=>exact .none
  |Invert=>cases x with
   |int=>(refine xe d.int_inv ?_;rintro t rfl);exact .some (invert_int (eE F .int))| _=>exact .none
  |Not=>
   intro z h;(refine aQ (l8.mp h) ?_;rintro b f rfl);exact not_of (qW f d fun tk=>eE F .bool)
  | _=>exact .none
 exact e z h
theorem IA{a b:Str}:(a.cps.toList==b.cps.toList)=decide (a=b):=by
 by_cases c:a=b
 ·subst c;simp
 ·exact M (eO c) <|beq_eq_false_iff_ne.mpr fun d=>c (fT d)
theorem TR{b:aD (Str×aJ)}{a:aD (Str×Z)}(h:b.map (·.1)=a.map (·.1))(k:Str):(pD b k).isSome=a.any fun p=>decide (p.1=k):=by
 induction b generalizing a with
 |nil=>cases a with
  |nil=>rfl|cons _ _=>cases h
 |cons p r ih=>cases a with
  |nil=>cases h
  |cons q t=>
   simp only[gH,Gq] at h;refine M aeG <|aS (ih h.2) (aS h.1 ?_)
   unfold pD
   by_cases c:p.1=k<;>simp[Q2,c]
theorem TS(F:Fm c K m d s)(o:l5):fN w A c K m d (Gr o (.int a t) (.int b u)) (Io a b o) s:=by
 cases o with
 |Eq=>exact .some (PySem.P.eq_int (fS F .bool))|NotEq=>exact .some (PySem.P.ne_int (fS F .bool))|Lt=>exact .some (PySem.P.lt_int (fS F .bool))|LtE=>exact .some (PySem.P.le_int (fS F .bool))|Gt=>exact .some (PySem.P.gt_int (fS F .bool))|GtE=>exact .some (PySem.P.ge_int (fS F .bool))| _=>exact .none
theorem TU{w:aV}{A:bX}{c:Cx}{m:Str→aG aJ}{d:Mu}{s:aM}{a b:Str}{t u:gX}(F:Fm c K m d s)(o:l5):fN w A c K m d (Gr o (.str a t) (.str b u)) (Ip a b o) s:=by
 cases o with
 |Eq=>exact .some (PySem.P.eq_str (by refine M IA ?_;exact fS F .bool))
 |NotEq=>
  refine .some (PySem.P.ne_str ?_);have:(a.cps.toList !=b.cps.toList)=decide (a≠b):=by(rewrite[bne];exact M IA (M decide_not V))
  refine M this ?_;exact fS F .bool
 |LtE=>exact .some (PySem.P.le_str (fS F .bool))|NotIn=>exact .some (PySem.P.notIn_str (fS F .bool))| _=>exact .none
theorem TV(F:Fm c K m mu s)(hx:RV w K mu.ad v x)(hy:RV w K mu.ad u y):fN w A c K m mu (Gr o v u) (jb o x y) s:=by
 cases x with
 |int a=>
  (refine xe hx.int_inv ?_;rintro t rfl);cases y with
  |int b=>(refine xe hy.int_inv ?_;rintro t' rfl);exact TS F o
  |none=>
   cases o with
   |Is=>refine M hy.none_inv ?_;exact .some (ahg (by intro z;cases z) (fS F .bool))| _=>exact .none
  | _=>exact .none
 |str k=>
  (refine xe hx.str_inv ?_;rintro t rfl);cases y with
  |str b=>(refine xe hy.str_inv ?_;rintro t' rfl);exact TU F o
  |gA fQ=>
   cases o with
   |In=>
    (refine oK (hy.BH) ?_;rintro a o kv rfl h1 h2 h3 h4 h5);refine .some (wpAny_in_of (knd:=Gs pg w) (k:=k) (by show xi k (.str k t)=aF;simp[xi]) h2 (h3 _ (F.keep _ _ h1)).mapOf ?_);exact M (TR h4 ..) <|eE F .bool
   | _=>exact .none
  | _=>exact .none
 |bool a=>
  cases y with
  |bool b=>
   cases o with
   |IsNot=>
    refine M hx.bool_inv (M hy.bool_inv ?_);refine .some (wpAny_isNot_plain V ?_);have:(!(aeH a==aeH b))=(a !=b):=by cases a<;>cases b<;>rfl
    refine M this ?_;exact fS F .bool
   | _=>exact .none
  | _=>exact .none
 |none=>
  cases y with
  |none=>
   cases o with
   |Is=>refine M hx.none_inv (M hy.none_inv ?_);exact .some (ahh (fS F .bool))| _=>exact .none
  | _=>exact .none
 | _=>exact .none
theorem p'(h:jb o x y=O z)(F:Fm c K m a s)(b:RV w K a.ad v x)(d:RV w K a.ad u y):
  dE w A c K m a (Gr o v u) z s:=TV F b d z h
theorem bK.get{K:PK} {b c} (r:bK w K b c):∀{j:aA} {x:PV},c[j]? =O x→∃v,b[j]? =O v∧RV w K .none v x:=
 bK.ind (C:=fun b c=>∀{j:aA} {x:PV},c[j]? =O x→∃v,b[j]? =O v∧RV w K .none v x) (fun h=>nn h) (fun v b x c a _ ih {j} y h=>by
  cases j with
  |zero=>obtain rfl:x=y:=cA h;exact⟨v,rfl,a⟩
  |succ j=>exact ih h) r
theorem RV.up{K:PK} {v x} (c:aG aW)(h:RV w K .none v x):RV w K c v x:=by
 by_cases b:x= .bV
 ·subst b;refine aQ (h.pS) fun a e J=> ?_;exact nn e
 ·exact h.any b
theorem BO{n:aA}(h:ox k n=O j)(b:n≤eF): -(2^63)≤k∧k < 2^63∧(0≤k→j=k.toNat)∧(k < 0→j=(k+n).toNat∧ -(n:Z)≤k)∧j < n:=by
 rw[cN] at b;obtain⟨i,d,a⟩:∃i,(if k < 0 then k+n else k)=i∧(if 0≤i && i < n then O i.toNat else aB)=O j:=⟨_,rfl,h⟩
 by_cases c:(decide (0≤i) && decide (i < (n:Z)))=aF
 ·rw[aR c] at a;have a:=cA a;simp only[gZ,lG] at c
  split at d<;>subst d a
  ·exact⟨by omega,by omega,fun J=>by omega,fun J=>⟨rfl,by omega⟩,by exact(md c.1).mpr c.2⟩
  ·exact⟨by exact cK (by decide) c.1,by exact dM c.2 (cK (cV.mpr b) (by decide)),fun J=>rfl,fun J=>by omega,by exact(md c.1).mpr c.2⟩
 ·rw[aP c] at a;exact nn a
theorem list_item(f:s.heap.IsList a g)(h:bK w K g.toList d)(p:d.length≤eF)
  (o:ox k d.length=O j) (q:d[j]? =O z) (F:Fm c K m r s):dE w A c K m r (oy (.ref a) (.int k t)) z s:=by
 refine jl (BO o p) fun u x y i B=>aQ (h.get q) fun v e l=> ?_;have n:g.size=d.length:=by refine aS h.length ?_;exact rfl
 rw[pz] at e
 by_cases b:0≤k
 ·refine wpAny_getItem_list f b x (x:=v) (by refine aS (y b) ?_;exact e) (fS F (l.up _))
 ·refine wpAny_getItem_list_neg f (pB.mp b) (by refine M n ?_;exact(i (pB.mp b)).2) u (x:=v) (by refine M n (aS ((i (pB.mp b)).1) ?_);exact e) (fS F (l.up _))
theorem IB(b:s.heap.IsList a d)(e:bK w K d.toList f)(F:Fm c K m g s):fN w A c K m g (oy (.ref a) (.int k t)) (qV f k) s:=
 .aZ fun p=> .bind fun j h z i=>list_item b e p h i F
theorem TW(F:Fm c K m b s)(p:x.length≤eF)(a:ox k x.length=O j):dE w A c K m b (oy (.str x t) (.int k d)) (.str ⟨#[x.cps.getD j 0]⟩) s:=by
 refine jl (BO a p) fun e f i l g=> ?_
 have h:(ox k x.length).bind (x.cps[·]?)=O (x.cps.getD j 0):=by refine M a ?_;show x.cps[j]? =_;refine M Q3 (M (Aw g) ?_);rfl
 exact getItem_gives (pE s x t) (by decide) Q4 PySem.F.entry_str_getitem (PySem.F.args_str_getitem_2 _ _) (gives_str_getitem x k t d _ (by refine iO xh ?_;exact⟨eO (i9.mpr e),eO (pB.mpr f)⟩) h) ⟨(by show 1≤eF;decide),eE F .str⟩
theorem TX:∀{a:aD (Str×Z)},c.map (·.1)=a.map (·.1)→bK w K (c.map (·.2)) (a.map fun p=> .int p.2)→∀{z},(a.find? fun p=>decide (p.1=k)).map (fun p=>PV.int p.2)=O z→∃v,pD c k=O v∧RV w K .none v z:=by
 induction c with
 |nil=>intro a e _ z b;cases a with
  |nil=>exact nn b|cons _ _=>exact(by contradiction)
 |cons p r ih=>intro a e g z b;cases a with
  |nil=>exact(by contradiction)
  |cons q t=>
   refine cS (g.ml) fun v m h i j=> ?_;(refine xa (xj h) ?_;rintro rfl rfl);refine xa (xj e) fun d l=> ?_;rw[Q2] at b;unfold pD;refine M Q2 ?_;have d:p.1=q.1:=d;refine M d ?_;cases f:decide (q.1=k) with
   |true=>rw[f] at b;obtain rfl:=cA b;exact⟨_,rfl,i⟩
   |false=>rw[f] at b;exact ih l j b
theorem TY(F:Fm c K m mu s)(hm:Mu.Is w K mu x)(ho:RV w K mu.ad v o)(hi:RV w K mu.ad u i):fN w A c K m mu (oy v u) (jn x o i) s:=by
 cases o with
 |str y=>
  cases i with
  |int k=>
   obtain⟨t,rfl⟩:=ho.str_inv;obtain⟨t',rfl⟩:=hi.int_inv;refine .aZ fun p z h=> ?_;(refine aQ (l8.mp h) ?_;rintro j hj rfl);exact TW F p hj
  | _=>exact .none
 |tup xs=>
  cases i with
  |int k=>
   (refine il (ho.sG) ?_;rintro a ob its n rfl h1 h2 h3 h4);obtain⟨t',rfl⟩:=hi.int_inv;refine .aZ fun p=> .bind fun j hj z h=>jl (BO hj p) fun f1 f2 f3 f4 f5=>aQ (h4.get h) fun v hv qX=> ?_;rw[pz] at hv;exact getItem_tuple ⟨ob,F.keep _ _ h1,h2,n,h3⟩ f1 f2 (by refine aS iL (M h4.length ?_);exact hj) hv (fS F (qX.up _))
  | _=>exact .none
 |lst xs=>
  cases i with
  |int k=>
   (refine il (ho.lst_inv) ?_;rintro a ob its n rfl h1 h2 h3 h4);obtain⟨t',rfl⟩:=hi.int_inv;exact IB ⟨ob,F.keep _ _ h1,h2,n,h3⟩ h4 F
  | _=>exact .none
 |bV=>
  cases i with
  |int k=>
   (refine aQ (ho.pS) ?_;rintro a ha rfl);obtain⟨t',rfl⟩:=hi.int_inv;cases hm with
   |none=>exact .none
   |some hr=>
    obtain rfl:=cA ha;exact IB (F.mul _ _ _ V).1.1 hr F
  | _=>exact .none
 |gA fQ=>
  cases i with
  |str k=>
   (refine oK (ho.BH) ?_;rintro a o kv rfl h1 h2 h3 h4 h5);obtain⟨t',rfl⟩:=hi.str_inv;intro z h;exact aQ (TX h4 h5 h) fun v hv qX=>aeI (knd:=Gs pg w) (k:=k) (by show xi k (.str k t')=aF;simp[xi]) (h3 _ (F.keep _ _ h1)).mapOf hv (eE F (qX.up _))
  | _=>exact .none
 | _=>exact .none
theorem IC(h:jn x o i=O z)(F:Fm c K m a s)(b:Mu.Is w K a x)(d:RV w K a.ad v o)(e:RV w K a.ad u i):
  dE w A c K m a (oy v u) z s:=TY F b d e z h
end
end
section
section
variable{K:PK}
theorem xY{w:aV}{b:Mu}{x:PV}{l:aG Z}{v:aJ}(h:uW x=O l)(a:RV w K b.ad v x):∃p:aG (Z×gX),v=partValue p∧p.map (·.1)=l∧IsPart v l:=by
 cases x with
 |none=>refine M a.none_inv ?_;obtain rfl:=cA h;exact⟨aB,rfl,rfl,.none⟩
 |int=>(refine xe a.int_inv ?_;rintro t rfl);obtain rfl:=cA h;exact⟨O (_,t),rfl,rfl,.int _ t⟩
 | _=>exact nn h
theorem ID(l u:aG Z)(n:aA):Gu l u 1 n=(mH (u.elim n (jz n) - l.elim 0 (jz n))).map ((l.elim 0 (jz n))+ ·):=by refine aS (sliceRange_one ..) ?_;unfold Gu;cases l<;>cases u<;>simp[clipAt_cast]
theorem TZ(n:aA)(i:Z):jz n i≤n:=Go.mpr (Int.max_le.mpr ⟨cW n,Int.min_le_right _ _⟩)
theorem T0(x:Str)(l u:aG Z):(⟨((Gu l u 1 x.length).filterMap (x.cps[·]?)).toArray⟩:Str)=gL x l u:=by refine M (ID ..) (M (pick_run ..) ?_);rfl
theorem T1{c:Type}{l:aD c}{a b:aA}(h:b - a=l.length)(d:b≤l.length):(l.drop a).take (b - a)=l:=by
 have e:l.drop a=l:=by
  cases a with
  |zero=>rfl
  |succ a=>
   cases l with
   |nil=>rfl|cons x r=>exact absurd (aL (cM h.symm) (aL (qI d _) (by refine M (Nat.add_sub_add_right ..) ?_;exact l7 _ _:(r.length+1) - (a+1)≤r.length))) (Q5 _)
 exact M e (M h (M Av V))
theorem T2{x:Str}{l u:aG Z}(h:(Gu l u 1 x.length).length=x.length):gL x l u=x:=by
 rw[ID,bQ,Au] at h
 have a:u.elim x.length (jz x.length)≤x.length:=by
  cases u with
  |none=>exact bZ _|some i=>exact TZ _ _
 exact fT (T1 (h.trans iL.symm) (aL a (cM iL.symm)))
theorem T3(x:Str)(l u:aG Z):(gL x l u).length≤x.length:=by refine(M kO (M ni (M iB (M iL ?_))):(AC (Gv (u.elim x.length (jz x.length) - l.elim 0 (jz x.length)) (Q6 (l.elim 0 (jz x.length)) x.cps.toList))).size≤x.cps.size);exact aL (Gb _ _) (l7 _ _)
theorem bK.drop{K:PK} {c d} (n:aA)(h:bK w K c d):bK w K (c.drop n) (d.drop n):=
 bK.ind (C:=fun c d=>∀n,bK w K (c.drop n) (d.drop n)) (fun n=>by refine M aeJ (M aeJ ?_);exact .nil) (fun J J J J a b ih n=>by cases n with
  |zero=>exact .cons a b|succ n=>exact ih n) h n
theorem bK.take{K:PK} {c d} (n:aA)(h:bK w K c d):bK w K (c.take n) (d.take n):=
 bK.ind (C:=fun c d=>∀n,bK w K (c.take n) (d.take n)) (fun n=>by refine M AF (M AF ?_);exact .nil) (fun J J J J a b ih n=>by cases n with
  |zero=>exact .nil|succ n=>exact .cons a (ih n)) h n
theorem T4(F:Fm c K m mu s)(ho:RV w K mu.ad v o)(hl:RV w K mu.ad vl l)(hu:RV w K mu.ad vu u)
  (hs:s.heap.get? sl=O {cls:= .type "slice",data:= .fields #[vl,vu,.none]}):fN w A c K m mu (oy v (.ref sl)) (mV o l u) s:=by
 cases o with
 |str x=>
  (refine xe ho.str_inv ?_;rintro t rfl);refine .bind fun a e1=> .bind fun b e2=> .aZ fun p=> .some ?_;(refine dB (xY e1 hl) ?_;rintro p1 rfl q1 _);(refine dB (xY e2 hu) ?_;rintro p2 rfl q2 _);refine wpAny_getItem_str_slice (l:=p1) (u:=p2) (st:=aB) ⟨_,hs,rfl,rfl⟩ V ?_;unfold sliceMade slicePicked;simp only[Option.map_none,Option.getD_none,beq_self_eq_true,Q7,q1,q2]
  split
  ·rename_i e
   exact M (T2 (by simpa using e)) <|fS F .str
  ·exact M (T0 ..) <|⟨aL (T3 _ _ _) p,eE F .str⟩
 |lst xs=>
  (refine il (ho.lst_inv) ?_;rintro ad ob its n rfl h1 h2 h3 h4);refine .bind fun a e1=> .bind fun b e2=> .aZ fun p=> .some <|dB (xY e1 hl) fun J J J q1=> ?_
  refine dB (xY e2 hu) fun J J J q2=> ?_;have hsz:its.size=xs.length:=aS h4.length (M iL V);refine wpAny_getItem_list_slice ⟨ob,F.keep _ _ h1,h2,n,h3⟩ ⟨_,hs,rfl,rfl⟩ q1 q2 .none (by decide) ?_ (by refine M cN ?_;exact aL (cM hsz) (aL p (by decide)));refine uY (tk:=s.toks) F V fun K' hK e=> .lst e V rfl <|M (slicePick_plain ..) ?_
  unfold xU;exact aS hsz <|((h4.mono hK).drop _).take _
 | _=>exact .none
theorem T5(h:mV o l u=O z)(F:Fm c K m a s)(b:RV w K a.ad v o)(d:RV w K a.ad e l)(f:RV w K a.ad g u)
  (i:s.heap.get? j=O {cls:= .type "slice",data:= .fields #[e,g,.none]}):dE w A c K m a (oy v (.ref j)) z s:=T4 F b d f i z h
end
end
section
inductive hG(w:aV)(K:PK)(ma:aG aW):aD aJ→aD PV→Prop
 |nil:hG w K ma [] []
 |cons {v vs x xs}:RV w K ma v x→hG w K ma vs xs→hG w K ma (v::vs) (x::xs)
theorem T6(h:kU (x::xs)=aF):x≠ .bV∧kU xs=true:=by
 cases x with
 |bV=>exact absurd h cL| _=>exact⟨(fun e=>(by contradiction)),h⟩
theorem hG.plain{K:PK} {e} {d c} (r:hG w K e d c)(h:kU c=aF):bK w K d c:=by
 induction r with
 |nil=>exact .nil|cons a _ b=>have h:=T6 h;exact .cons (a.any h.1) (b h.2)
theorem hG.length{K:PK} {d} {a c} (r:hG w K d a c):a.length=c.length:=by
 induction r with
 |nil=>rfl|cons _ _ b=>exact aT (· +1) b
section
variable{K:PK}
theorem hG.ml{w:aV}{c:Mu}{x:PV}{d:aD PV}{e:aD aJ}(h:hG w K c.ad e (x::d)):∃v f,e=v::f∧RV w K c.ad v x∧hG w K c.ad f d:=by cases h with |cons a b=>exact⟨_,_,rfl,a,b⟩
theorem hG.zero{w:aV}{b:Mu}{a:aD aJ}(h:hG w K b.ad a []):a=[] :=qA h.length
theorem hG.one{w:aV}{c:Mu}{x:PV}{d:aD aJ}(h:hG w K c.ad d [x]):∃v,d=[v]∧RV w K c.ad v x:=by(refine cS (h.ml) ?_;rintro v e rfl a b);refine M b.zero ?_;exact⟨v,rfl,a⟩
theorem hG.two{w:aV}{c:Mu}{x y:PV}{e:aD aJ}(h:hG w K c.ad e [x,y]):∃v u,e=[v,u]∧RV w K c.ad v x∧RV w K c.ad u y:=by(refine cS (h.ml) ?_;rintro v f rfl a b);(refine aQ (b.one) ?_;rintro u rfl d);exact⟨v,u,rfl,a,d⟩
noncomputable def qa(f:eA):aJ:=if f="str" then .type "str" else .builtin f
theorem T7(n:aA)(h:n < 10^10):n.log2 < 1920:=by
 by_cases a:n=0
 ·subst a;decide
 ·have b:n < 2^34:=bL h (by decide);have c:n.log2 < 34:=(AH a).mpr b;exact bL c (by decide)
theorem IE(b:s.heap.IsList a d)(e:d.size=f.length)(F:Fm c K m g s):fN w A c K m g (call (qa "len") [.ref a]) (xV f) s:=by
 refine .aZ fun p=> .some ?_;rw[cN] at p;refine aeK b (by omega) <|M e ?_
 exact eE F .int
theorem T8(F:Fm c K m mu s)(hm:Mu.Is w K mu o)(hx:RV w K mu.ad v x):fN w A c K m mu (call (qa f) [v]) (Iq o f x) s:=by
 cases x with
 |str y=>
  (refine xe hx.str_inv ?_;rintro t rfl);refine .ite (fun e=>e▸ .aZ fun p=> .some ?_) fun J=> .ite (fun e=>e▸ .aZ fun p=> .some ?_) fun J=> .none
  ·rw[cN] at p;exact PySem.P.len_str (pB.mpr (iV (cV.mpr p) (by decide))) (eE F .int)
  ·obtain⟨⟨l⟩⟩:=y;(refine xe (aez.mp p) ?_;rintro k rfl);exact PySem.P.ord_of_char (eE F .int)
 |lst ys=>
  (refine il (hx.lst_inv) ?_;rintro a ob its n rfl h1 h2 h3 h4);exact .ite (fun e=>e▸IE ⟨ob,F.keep _ _ h1,h2,n,h3⟩ (aS h4.length (M iL V)) F) fun J=> .none
 |bV=>
  (refine aQ (hx.pS) ?_;rintro a ha rfl);refine .ite (fun e=>e▸ ?_) fun J=> .none;cases hm with
  |none=>exact .none
  |some hr=>
   obtain rfl:=cA ha;exact IE (F.mul _ _ _ V).1.1 (by refine M kO ?_;exact hr.length) F
 |int i=>
  (refine xe hx.int_inv ?_;rintro t rfl);refine .ite (fun e=>e▸ .aZ fun p=> .some ?_) fun J=> .ite (fun e=>e▸ .aZ fun p=> .some ?_) fun J=> .none
  ·exact PySem.P.chr_of_int (by refine iO xh ?_;exact⟨eO (i9.mpr p.1),eO (i9.mpr p.2)⟩) (eE F .str)
  ·exact PySem.P.str_of_int (T7 _ p) (eE F .str)
 | _=>exact .none
theorem T9(F:Fm c K m g s)(h:A.handled=aB):fN w A c K m g (call (qa f) [.int a t,.int b u]) (Ir f a b) s:=by
 refine .ite (fun e=>e▸ .some ?_) fun J=> .ite (fun e=>e▸ .aZ fun p=> .some ?_) fun J=> .none
 ·refine min_two_ints h fun i tk d=>⟨K,.refl K,F.grow d,.of_keeps d,?_⟩
  split<;>exact .int
 ·exact divmod_int p.1 (uY F V fun j k e=> .tup e V rfl (.cons .int (.cons .int .nil))) (.inl (Q0 p.2))
theorem Ua(F:Fm c K m d s)(i:Mu.Is w K d x)(g:hG w K d.ad j h)(k:A.handled=aB):fN w A c K m d (call (qa f) j) (oQ x f h) s:=by
 cases h with
 |nil=>exact .none
 |cons l r=>cases r with
  |nil=>(refine aQ (g.one) ?_;rintro v rfl e);exact T8 F i e
  |cons n r=>cases r with
   |cons=>exact .none
   |nil=>
    (refine cS (g.two) ?_;rintro v u rfl e o);cases l with
    |int a=>
     (refine xe e.int_inv ?_;rintro t rfl);cases n with
     |int b=>(refine xe o.int_inv ?_;rintro p rfl);exact T9 F k| _=>exact .none
    | _=>exact .none
theorem Ub(h:oQ x f b=O z)(F:Fm c K m a s)(d:Mu.Is w K a x)(e:hG w K a.ad g b)(i:A.handled=aB):
  dE w A c K m a (call (qa f) g) z s:=Ua F d e i z h
theorem Uc{K:PK}:∀{a:aD aJ} {b:aD Str},strs? c=O b→bK w K a c→StrsAre a b:=by
 induction c with
 |nil=>intro a b h r;obtain rfl:=cA h;refine M r.nil_inv ?_;exact .nil
 |cons x c ih=>
  intro a b h r;(refine cS (r.ml) ?_;rintro v g rfl d f);cases x with
  |str y=>
   (refine aQ (l8.mp h) ?_;rintro i e rfl);obtain⟨t,rfl⟩:=d.str_inv;exact .cons _ _ (ih e f)
  | _=>exact nn h
theorem IF{K:PK}:∀(k:aA) (l:aD Str),bK w K (strsFrom k l) (l.map .str)
 | _,[] => .nil|k,x::r=> .cons .str (IF (k+1) r)
noncomputable def xZ(f:eA)(o:PV)(T id:eA):Prop:=
 PlainAttrs T∧Slot T (aH f) id∧typeOf (.builtin id)=pure (.type "method_descriptor")∧∀{w:aV} {K:PK} {c:aG aW} {v:aJ} (s:aM),RV w K c v o→s.TypeIs v T∧(∀a,v= .ref a→∃b,s.heap.get? a=O b∧b.dict=aB)
theorem x6{id:eA}(b:Slot "str" (aH f) id)(c:typeOf (.builtin id)=pure (.type "method_descriptor")):xZ f (.str x) "str" id:=
 ⟨Q8,b,c,fun s d=>by(refine xe d.str_inv ?_;rintro t rfl);exact⟨pE _ _ _,fun a e=>(by contradiction)⟩⟩
noncomputable def mX(w:aV)(A:bX)(c:Cx)(m:Str→aG aJ)(a:Mu)(f:eA)(o:PV)(d:aD PV)(r:aG PV):Prop:=
 ∀z,r=O z→∃T id,xZ f o T id∧∀{K:PK} {s:aM} {v:aJ} {b:aD aJ},Fm c K m a s→RV w K a.ad v o→hG w K a.ad b d→dE w A c K m a (call (.builtin id) (v::b)) z s
section
theorem mX.none:mX w A c m a f o b none:=fun J e=>nn e
theorem mX.ite(d:mX w A c m a g o b r)(e:mX w A c m a f o b i):mX w A c m a f o b (if f=g then r else i):=by
 by_cases h:f=g
 ·refine M (aR h) (M h ?_);exact d
 ·refine M (aP h) ?_;exact e
theorem mX.of{id:eA}(h:xZ f o T id)(k:∀{K:PK} {s:aM} {v:aJ} {b:aD aJ},Fm c K m a s→RV w K a.ad v o→hG w K a.ad b d→fN w A c K m a (call (.builtin id) (v::b)) r s):mX w A c m a f o d r:=
 fun z e=>⟨T,id,h,fun F g i=>k F g i z e⟩
end
theorem Ud(F:Fm c K m d s)(p:(y.length==0)=aI∧(decide (x.length < y.length) ||decide (Gk x < Gk y))=aI∧(Gl x y 0 x.length (x.length+1)).isEmpty=aI∧x.length≤100000∧
   (aey x (Gl x y 0 x.length (x.length+1)) y.length).length≤1000):dE w A c K m d (call (.builtin "str.split") [.str x t,.str y f]) (.lst ((Txt.split x y).map .str)) s:=by
 (refine jl (p) ?_;try clear p;rintro g a b h i);refine xk aeL (pE _ _ _) PySem.F.entry_str_split (PySem.F.args_str_split_2 _ _) (meets_str_split_sep _ _ t f a g b (aL h (by refine M cN ?_;decide)) (aL i (by refine M cN ?_;decide))) ?_;refine uY F V fun j k e=> .lst e V rfl ?_;unfold Txt.split;refine M (aP (by refine M a ?_;exact cL)) (M (aP (by refine M b ?_;exact cL)) ?_);exact IF _ _
theorem Ue:mX w A c m g f o [] (xW f o):=by
 cases o with
 |str x=>
  refine .ite (.of (x6 PySem.F.slot_str_lower PySem.F.type_str_lower) fun F b d=> ?_) (.ite (.of (x6 PySem.F.slot_str_upper PySem.F.type_str_upper) fun F b d=> ?_) .none)
  ·(refine xe b.str_inv ?_;rintro t rfl);refine M d.zero ?_;exact .aZ fun p=> .some (ahi p fun J=>eE F .str)
  ·(refine xe b.str_inv ?_;rintro t rfl);refine M d.zero ?_;exact .aZ fun p=> .some (ahj p fun J=>eE F .str)
 |int a=>
  refine .ite (.of (T:="int") ⟨PySem.F.plainAttrs_int,PySem.F.slot_int_bit_length,PySem.F.type_int_bit_length,fun s b=>by(refine xe b.int_inv ?_;rintro t rfl);exact⟨AI _ _ _,fun a e=>(by contradiction)⟩⟩ fun F b d=> ?_) .none;(refine xe b.int_inv ?_;rintro t rfl);refine M d.zero ?_;exact .some (call_int_bit_length (eE F .int))
 | _=>exact .none
theorem Uf:mX w A c m q f (.str x) [y] (It f x y):=by
 cases y with
 |lst r=>
  refine .ite (.of (x6 PySem.F.slot_str_join PySem.F.type_str_join) fun F b d=> ?_) .none;obtain⟨t,rfl⟩:=b.str_inv;(refine aQ (d.one) ?_;rintro u rfl e);(refine il (e.lst_inv) ?_;rintro a s v n rfl g h i j);exact .bind fun z l=> .aZ fun p=> .some (ahk ⟨_,F.keep _ _ g,h,n,i⟩ (Uc l j) p fun o k=>eE F .str)
 |str y=>
  refine .ite (.of (x6 aeL PySem.F.type_str_split) fun F b d=> ?_) .none;obtain⟨t,rfl⟩:=b.str_inv;(refine aQ d.one ?_;rintro u rfl e);obtain⟨o,rfl⟩:=e.str_inv;exact .aZ fun p=> .some (Ud F p)
 | _=>exact .none
theorem IG(h:nG x f o a=O z):
  ∃T id,xZ f o T id∧∀{K:PK} {s:aM} {v:aJ} {b:aD aJ},Fm c K m mu s→RV w K mu.ad v o→hG w K mu.ad b a→dE w A c K m mu (call (.builtin id) (v::b)) z s:=by
 have d:mX w A c m mu f o a (nG x f o a):=by
  cases a with
  |nil=>exact Ue
  |cons y r=>cases r with
   |cons=>exact .none
   |nil=>cases o with
    |str x=>exact Uf| _=>exact .none
 exact d z h
end
end
section
noncomputable abbrev Tb:=aD (Str×aU)
noncomputable def x7(x:Str):Bool:= !(x==("__debug__":Str)) && !(x==("__classdict__":Str))
noncomputable def jc(sc:dN)(a:Tb):Bool:=(sc.kind== .function) && a.all (fun p=>x7 p.1 && (if p.2 then sc.names.lookup p.1==O .local else(sc.names.lookup p.1==O .free ||sc.names.lookup p.1==O .cell))) && decide (a.map (·.1)).Nodup
noncomputable def jp(a:dN)(x:Str):Bool:=x7 x && a.names.lookup x==O .globalImplicit
theorem dite_true{p:Prop} [qC p] {f:p→aU}(h:(if h:p then f h else aI)=aF):∃a,f a=true:=by
 by_cases a:p
 ·exact⟨a,by rw[AJ a] at h;exact h⟩
 ·rw[dif_neg a] at h;exact absurd h cL
noncomputable def IH(a:Expr)(f:Expr→i7→Expr→bG→aU):Bool:=if h:a.ctorIdx=2 then Gw a h f else aI
@[elab_as_elim] theorem BP{a:Expr}{f:Expr→i7→Expr→bG→aU}{C:Expr→Prop}(h:IH a f=aF)(c:∀l o r p,f l o r p=aF→C (.BinOp l o r p)):C a:=
 xe (dite_true h) fun b h=>Gw (motive_1:=fun a=>∀b,Gw a b f=aF→C a) a b (fun l o r p J h=>c l o r p h) b h
noncomputable def II(a:Expr)(f:UnaryOp→Expr→bG→aU):Bool:=if h:a.ctorIdx=3 then Q9 a h f else aI
@[elab_as_elim] theorem BQ{b:Expr}{f:UnaryOp→Expr→bG→aU}{C:Expr→Prop}(h:II b f=aF)(d:∀o a p,f o a p=aF→C (.UnaryOp o a p)):C b:=
 xe (dite_true h) fun c h=>Q9 (motive_1:=fun b=>∀c,Q9 b c f=aF→C b) b c (fun o a p J h=>d o a p h) c h
noncomputable def BR(a:Expr)(f:Expr→(aD l5)→(aD Expr)→bG→aU):Bool:=if h:a.ctorIdx=15 then Ra a h f else aI
@[elab_as_elim] theorem sN{a:Expr}{f:Expr→(aD l5)→(aD Expr)→bG→aU}{C:Expr→Prop}(h:BR a f=aF)(e:∀l b c p,f l b c p=aF→C (.Compare l b c p)):C a:=
 xe (dite_true h) fun d h=>Ra (motive_1:=fun a=>∀d,Ra a d f=aF→C a) a d (fun l b c p J h=>e l b c p h) d h
noncomputable def IJ(a:Expr)(f:BoolOp→(aD Expr)→bG→aU):Bool:=if h:a.ctorIdx=0 then Rb a h f else aI
@[elab_as_elim] theorem BS{a:Expr}{f:BoolOp→(aD Expr)→bG→aU}{C:Expr→Prop}(h:IJ a f=aF)(d:∀o b p,f o b p=aF→C (.BoolOp o b p)):C a:=
 xe (dite_true h) fun c h=>Rb (motive_1:=fun a=>∀c,Rb a c f=aF→C a) a c (fun o b p J h=>d o b p h) c h
noncomputable def IK(a:Expr)(f:Expr→Expr→Expr→bG→aU):Bool:=if h:a.ctorIdx=5 then Rc a h f else aI
@[elab_as_elim] theorem BU{c:Expr}{f:Expr→Expr→Expr→bG→aU}{C:Expr→Prop}(h:IK c f=aF)(e:∀t a b p,f t a b p=aF→C (.IfExp t a b p)):C c:=
 xe (dite_true h) fun d h=>Rc (motive_1:=fun c=>∀d,Rc c d f=aF→C c) c d (fun t a b p J h=>e t a b p h) d h
noncomputable def uZ(a:Expr)(f:Expr→Expr→bG→aU):Bool:=if h:a.ctorIdx=21 then Rf a h f else aI
@[elab_as_elim] theorem qb{a:Expr}{f:Expr→Expr→bG→aU}{C:Expr→Prop}(h:uZ a f=aF)(d:∀v b p,f v b p=aF→C (.Subscript v b p)):C a:=
 xe (dite_true h) fun c h=>Rf (motive_1:=fun a=>∀c,Rf a c f=aF→C a) a c (fun v b p J h=>d v b p h) c h
noncomputable def IL(a:Expr)(f:(aG Expr)→(aG Expr)→(aG Expr)→bG→aU):Bool:=if h:a.ctorIdx=26 then Rg a h f else aI
@[elab_as_elim] theorem Ug{a:Expr}{f:(aG Expr)→(aG Expr)→(aG Expr)→bG→aU}{C:Expr→Prop}(h:IL a f=aF)(d:∀lo b st p,f lo b st p=aF→C (.Slice lo b st p)):C a:=
 xe (dite_true h) fun c h=>Rg (motive_1:=fun a=>∀c,Rg a c f=aF→C a) a c (fun lo b st p J h=>d lo b st p h) c h
noncomputable def IM(a:Expr)(f:(aD Expr)→bG→aU):Bool:=if h:a.ctorIdx=24 then Gx a h f else aI
@[elab_as_elim] theorem x9{a:Expr}{f:(aD Expr)→bG→aU}{C:Expr→Prop}(h:IM a f=aF)(d:∀b p,f b p=aF→C (.List b p)):C a:=
 xe (dite_true h) fun c h=>Gx (motive_1:=fun a=>∀c,Gx a c f=aF→C a) a c (fun b p J h=>d b p h) c h
noncomputable def u0(a:Expr)(f:(aD Expr)→aA→bG→aU):Bool:=if h:a.ctorIdx=25 then Rh a h f else aI
@[elab_as_elim] theorem sO{a:Expr}{f:(aD Expr)→aA→bG→aU}{C:Expr→Prop}(h:u0 a f=aF)(d:∀b k p,f b k p=aF→C (.Tuple b k p)):C a:=
 xe (dite_true h) fun c h=>Rh (motive_1:=fun a=>∀c,Rh a c f=aF→C a) a c (fun b k p J h=>d b k p h) c h
noncomputable def IN(a:Expr)(f:(aD (aG Expr))→(aD Expr)→bG→aU):Bool:=if h:a.ctorIdx=6 then Gy a h f else aI
@[elab_as_elim] theorem BV{a:Expr}{f:(aD (aG Expr))→(aD Expr)→bG→aU}{C:Expr→Prop}(h:IN a f=aF)(e:∀b c p,f b c p=aF→C (.Dict b c p)):C a:=
 xe (dite_true h) fun d h=>Gy (motive_1:=fun a=>∀d,Gy a d f=aF→C a) a d (fun b c p J h=>e b c p h) d h
noncomputable def ya(a:Expr)(f:Expr→(aD Expr)→(aD Gz)→bG→aU):Bool:=if h:a.ctorIdx=16 then GA a h f else aI
@[elab_as_elim] theorem u3{a:Expr}{f:Expr→(aD Expr)→(aD Gz)→bG→aU}{C:Expr→Prop}(h:ya a f=aF)(e:∀g b c p,f g b c p=aF→C (.Call g b c p)):C a:=
 xe (dite_true h) fun d h=>GA (motive_1:=fun a=>∀d,GA a d f=aF→C a) a d (fun g b c p J h=>e g b c p h) d h
noncomputable def qY(a:Expr)(f:Const→aA→bG→aU):Bool:=if h:a.ctorIdx=19 then AK a h f else aI
@[elab_as_elim] theorem kV{a:Expr}{f:Const→aA→bG→aU}{C:Expr→Prop}(h:qY a f=aF)(c:∀k n p,f k n p=aF→C (.Constant k n p)):C a:=
 xe (dite_true h) fun b h=>AK (motive_1:=fun a=>∀b,AK a b f=aF→C a) a b (fun k n p J h=>c k n p h) b h
noncomputable def BW(a:Expr)(f:Expr→Str→bG→aU):Bool:=if h:a.ctorIdx=20 then Ri a h f else aI
@[elab_as_elim] theorem BX{a:Expr}{f:Expr→Str→bG→aU}{C:Expr→Prop}(h:BW a f=aF)(c:∀o x p,f o x p=aF→C (.Attribute o x p)):C a:=
 xe (dite_true h) fun b h=>Ri (motive_1:=fun a=>∀b,Ri a b f=aF→C a) a b (fun o x p J h=>c o x p h) b h
noncomputable def jT(a:Expr)(f:Str→bG→aU):Bool:=if h:a.ctorIdx=23 then GB a h f else aI
@[elab_as_elim] theorem jd{a:Expr}{f:Str→bG→aU}{C:Expr→Prop}(h:jT a f=aF)(c:∀x p,f x p=aF→C (.Name x p)):C a:=
 xe (dite_true h) fun b h=>GB (motive_1:=fun a=>∀b,GB a b f=aF→C a) a b (fun x p J h=>c x p h) b h
noncomputable def yb{a:Type}(d:a)(e:Expr)(f:Str→bG→a):a:=if h:e.ctorIdx=23 then GB (motive_1:=fun J=>a) e h f else d
noncomputable def sP{a:Type}(d:a)(e:Expr)(f:Z→aA→bG→a):a:=if h:e.ctorIdx=19 then AK (motive_1:=fun J=>a) e h fun c k p=>match c with
 | .int i=>f i k p| _=>d else d
noncomputable def BY{a:Type}(d:a)(e:Expr)(f:Str→aA→bG→a):a:=if h:e.ctorIdx=19 then AK (motive_1:=fun J=>a) e h fun c k p=>match c with
 | .str i=>f i k p| _=>d else d
noncomputable def IP{a:Type}(d:a)(e:Expr)(f:aD (aG Expr)→aD Expr→bG→a):a:=if h:e.ctorIdx=6 then Gy (motive_1:=fun J=>a) e h f else d
noncomputable def BZ{a:Type}(d:a)(e:Expr)(f:Expr→aD Expr→bG→a):a:=if h:e.ctorIdx=16 then GA (motive_1:=fun J=>a) e h fun g b J p=>f g b p else d
noncomputable def Uh{a:Type}(d:a)(e:Expr)(f:Expr→Expr→bG→a):a:=if h:e.ctorIdx=2 then Gw (motive_1:=fun J=>a) e h fun l J r p=>f l r p else d
noncomputable def Ui{a:Type}(d:a)(e:Expr)(f:aD Expr→bG→a):a:=if h:e.ctorIdx=24 then Gx (motive_1:=fun J=>a) e h f else d
noncomputable def d1{c b:Type}(d:b)(l:aD c)(f:c→b):b:=match l with
 |[a] =>f a| _=>d
noncomputable def d2{c e:Type}(d:e)(l:aD c)(f:c→c→e):e:=match l with
 |[a,b] =>f a b| _=>d
noncomputable def yc{c:Type}(d:c)(s:bR)(f:Str→oz→aD bR→dN→bG→c):c:=if h:s.ctorIdx=0 then ahl (motive_2:=fun J=>c) s h fun n a b J J J e J J p=>f n a b e p else d
noncomputable def IQ{a:Type}(d:a)(s:bR)(f:aD Expr→Expr→bG→a):a:=if h:s.ctorIdx=5 then GC (motive_2:=fun J=>a) s h f else d
noncomputable def kW{b:Type}(l:aD b)(f:b→aU):Bool:=l.rec aI fun a r J=>r.isEmpty && f a
@[elab_as_elim] theorem jU{b:Type}{l:aD b}{f:b→aU}{C:aD b→Prop}(h:kW l f=aF)(k:∀a,f a=aF→C [a]):C l:=by
 cases l with
 |nil=>exact absurd h cL
 |cons a r=>cases r with
  |nil=>exact k a h|cons=>exact absurd h cL
noncomputable def qZ{b:Type}(l:aD b)(f:b→b→aU):Bool:=l.rec aI fun a r J=>kW r (f a)
@[elab_as_elim] theorem sQ{c:Type}{l:aD c}{f:c→c→aU}{C:aD c→Prop}(h:qZ l f=aF)(k:∀a b,f a b=aF→C [a,b]):C l:=by
 cases l with
 |nil=>exact absurd h cL|cons a r=>exact jU (C:=fun r=>C (a::r)) h (k a)
noncomputable def B0{a:Type}(o:aG a)(f:a→aU):Bool:=o.rec aI f
@[elab_as_elim] theorem IR{b:Type}{o:aG b}{f:b→aU}{C:aG b→Prop}(h:B0 o f=aF)(k:∀a,f a=aF→C (O a)):C o:=by
 cases o with
 |none=>exact absurd h cL|some a=>exact k a h
theorem aY{a b:aU}(h:(a && b)=aF):a=aF∧b=true:=mJ.mp h
theorem kz{a:Type}{l:aD a}(h:l.isEmpty=aF):l=[] :=Rj.mp h
theorem jq{p:Prop} [qC p] (h:decide p=aF):p:=kP h
theorem q0{α:Type} [BEq α] [LawfulBEq α] {a b:α}(h:(a==b)=aF):a=b:=eq_of_beq h
noncomputable def qc(a:Expr)(f:Str→aD Expr→aU):Bool:=ya a fun g b c J=>c.isEmpty && jT g fun x J=>f x b
@[elab_as_elim] theorem jF{b:Expr}{f:Str→aD Expr→aU}{C:Expr→Prop}(h:qc b f=aF)(k:∀x p a q,f x a=aF→C (.Call (.Name x p) a [] q)):C b:=
 u3 h fun g a e q h=>by refine xa (aY h) fun c d=> ?_;obtain rfl:=kz c;exact jd (C:=fun g=>C (.Call g a [] q)) d fun x p h=>k x p a q h
noncomputable def q7:aD (aG Expr)→aD Expr→aD (Str×Z)→aU
 |a,b,[] =>a.isEmpty && b.isEmpty|a,b,e::r=>a.rec aI fun k a J=>b.rec aI fun v b J=>(B0 k fun k=>qY k fun c J J=>decide (c= .str e.1)) && (qY v fun c J J=>decide (c= .int e.2)) && q7 a b r
noncomputable def B1(e:E):Bool:=e.ctorIdx==E.none.ctorIdx
mutual
noncomputable def bC(j:dN)(k:Tb):E→Expr→aU
 | .nm i,ex=>jT ex fun x J=>(k[i]?).any fun p=>p.1==x| .gk y,ex=>jT ex fun x J=>(x==y) && jp j x| .int n,ex=>qY ex fun c J J=>decide (c= .int n)| .str n,ex=>qY ex fun c J J=>decide (c= .str n)| .bool n,ex=>qY ex fun c J J=>decide (c= .bool n)| .none,ex=>qY ex fun c J J=>decide (c= .none)| .bin o a b,ex=>IH ex fun l q r J=>decide (q=o) && bC j k a l && bC j k b r| .un o a,ex=>II ex fun q x J=>decide (q=o) && bC j k a x| .cmp o a b,ex=>BR ex fun l u w J=>(kW u fun q=>decide (q=o)) && bC j k a l && kW w fun r=>bC j k b r| .oL C D a b d,ex=>BR ex fun l u w J=>(qZ u fun F G=>decide (F=C) && decide (G=D)) && bC j k a l && qZ w fun H I=>bC j k b H && bC j k d I| .bo o m,ex=>IJ ex fun q z J=>decide (q=o) && eK j k m z| .ja t a b,ex=>IK ex fun K L N J=>bC j k t K && bC j k a L && bC j k b N| .sub a i,ex=>uZ ex fun v A J=>bC j k a v && bC j k i A| .dD a l h,ex=>uZ ex fun v A J=>IL A fun lo P st J=>st.isNone && bC j k a v && lo.rec (B1 l) (fun x=>bC j k l x) && P.rec (B1 h) (fun x=>bC j k h x)| .lst m,ex=>IM ex fun B J=>eK j k m B| .tup m,ex=>u0 ex fun B J J=>eK j k m B| .gA s,ex=>IN ex fun Q z J=>q7 Q z s && decide (s.length≤15) && !s.isEmpty && decide (s.map (·.1)).Nodup| .call f m,ex=>qc ex fun x args=>(x==f) && jp j x && eK j k m args && decide (args≠[])| .bi f m,ex=>qc ex fun x args=>(x==aH f) && jp j x && eK j k m args && (["len","chr","ord","str","min","divmod"] :aD eA).contains f && !args.isEmpty| .lO m,ex=>qc ex fun x l=>kW l fun e=>qc e fun y args=>(x==("list":Str)) && jp j x && (y==("range":Str)) && jp j y && eK j k m args && !args.isEmpty| .oM a,ex=>qc ex fun x l=>kW l fun b=>(x==("list":Str)) && jp j x && bC j k a b| .dG f a m,ex=>ya ex fun g args R S=>R.isEmpty && BW g fun o name T=>(name==aH f) && (T.endLine==S.line) && bC j k a o && eK j k m args && decide (args.length < 20)| .comp _ _ _ _,_=>aI
termination_by structural e=>e
noncomputable def eK(c:dN)(d:Tb):Es→aD Expr→aU
 | .nil,b=>b.isEmpty| .cons a r,b=>b.rec aI fun x b J=>bC c d a x && eK c d r b
termination_by structural e=>e
end
end
section
inductive IS(w:aV)(T:aD Tab)(K:PK)(s:aM)(y:PV)(v:aJ)(s':aM):Prop
 |mk (K':PK) (h1:PK.le K K') (h2:∀b o,K' b=O o→s'.heap.get? b=O o) (h3:∀b o,K' b=O o→K b=O o∨s.heap.get? b=aB)
   (h4:∀b o,Off T b→s.heap.get? b=O o→s'.heap.get? b=O o) (h5:RV w K' aB v y) (h6:s'.os=s.os) (h7:iQ s.gens s'.gens) (h8:∀t∈T,t.Ok K' s'.heap):IS w T K s y v s'
noncomputable def oU(w:aV)(c mb:Str→aG aJ)(h₀:bF)(T:aD Tab)(n:aA)(f:aJ)(d:aD PV)(y:PV):Prop:=
 ∀(A:bX) (K:PK) (s:aM) (a:aD aJ),A.handled=aB→A.depth+n < 900→A.units+10*n < 9000→
  (∀b o,h₀.get? b=O o→K b=O o)→(∀b o,K b=O o→s.heap.get? b=O o)→Base c mb h₀→nk s.gens→(∀t∈T,K t.P=aB)→(∀t∈T,t.Ok K s.heap)→bK w K a d→
  aN (aO pg w) A (call f a) (IS w T K s y) (fun J J=>bO) s
inductive Ct(w:aV)(mg mb:Str→aG aJ)(h₀:bF)(T:aD Tab)(n:aA)(f:Str)(xs:aD PV)(y:PV):Prop
 |mk (a:aW) (o:Obj) (fd:FuncData) (h1:mg f=O (.ref a)) (h2:h₀.get? a=O o) (h3:o.data= .func fd) (h4:oU w mg mb h₀ T n (.ref a) xs y):Ct w mg mb h₀ T n f xs y
structure yd(w:aV)(c:Cx)(n:aA)(P:bT):Prop where
 gk:∀x i,P.gk x=O i→∃t,c.mg x=O (.int i t)
 call:∀f xs y,P.call f xs=O y→Ct w c.mg c.mb c.h₀ c.T n f xs y
 bi:∀f∈(["len","chr","ord","str","min","divmod","list","range","reversed"] :aD eA),c.mg (aH f)=aB
structure fD(c:Cx)(sc:dN)(tb:Tb):Prop where
 scope:c.env.scope=sc
 sR:jc sc tb=aF
 globals:c.env.globals=fL
 builtins:c.env.builtins=i8
noncomputable def RL(w:aV)(K:PK)(a:gI)(b:aG aW)(d:Tb)(m:Str→aG aJ)(e:aD (aG PV)):Prop:=
 ∀(i:aA) (x:Str) (k:aU) (p:PV),d[i]? =O (x,k)→e[i]? =O (O p)→
  if k then ∃v,m x=O v∧RV w K b v p else ∃c o v,a.cells.lookup x=O c∧K c=O o∧o.data= .cell (O v)∧RV w K aB v p
theorem RL.mono{K:PK} {f g j m l} (h:RL w K f g j m l)(d:PK.le K n):RL w n f g j m l:=fun i x k p a b=>by
 have:=h i x k p a b;cases k with
 |true=>(refine aQ this ?_;clear this;rintro v e r);exact⟨v,e,r.mono d⟩|false=>(refine nF (this) ?_;try clear this;rintro c o v q s t r);exact⟨c,o,v,q,d _ _ s,t,r.mono d⟩
section
variable{K:PK}
theorem fD.kind(h:fD c a b):c.env.scope.kind= .function:=by have:=h.sR;unfold jc at this;simp only[gZ,me] at this;refine M h.scope ?_;exact this.1.1
theorem fD.at{c:Cx}{d:dN}{b:Tb}{i:aA}{x:Str}{k:aU}(h:fD c d b)(e:b[i]? =O (x,k)):((x==("__debug__":Str))=aI∧(x==("__classdict__":Str))=aI)∧(k=aF→c.env.kindOf x=O .local)∧(k=aI→c.env.kindOf x=O .free∨c.env.kindOf x=O .cell):=by
 have:=h.sR;unfold jc at this;simp only[gZ,j1] at this;have:=this.1.2 _ (kq e);unfold GD;refine M h.scope ?_;unfold x7 at this;simp only[no,gZ] at this;refine⟨this.1,fun a=> ?_,fun a=> ?_⟩
 ·subst a;simpa using this.2
 ·subst a;simpa using this.2
theorem fD.glob(h:fD c a b)(e:jp a x=aF):(x==("__debug__":Str))=aI∧c.env.kindOf x=O .globalImplicit:=by unfold jp x7 at e;simp only[gZ,no,me] at e;exact⟨e.1.1,by unfold GD;refine M h.scope ?_;exact e.2⟩
noncomputable abbrev Ev(w:aV)(A:bX)(c:Cx)(d:Tb)(m:Str→aG aJ)(a:Mu)(b:Sg)(t:cR aJ)(x:PV):Prop:=
 ∀(K:PK) (s:aM),Fm c K m a s→RL w K c.env a.ad d m b.loc→Mu.Is w K a b.mu→dE w A c K m a t x s
theorem dE.lift{w:aV}{A:bX}{c:Cx}{m:Str→aG aJ}{f:Mu}{t:cR aJ}{z:PV}{g:PK}{s s':aM}(i:PK.le K g)(j:KB c f s.heap s'.heap)(h:dE w A c g m f t z s'):
  aN (aO pg w) A t (oS w c K m f s.heap z) (fun J J=>bO) s':=
 wpAny_mono h (fun v l ⟨k,a,b,d,e⟩=>⟨k,i.trans a,b,j.trans d,e⟩) fun J J x=>x
theorem B2{w:aV}{A:bX}{c:Cx}{m:Str→aG aJ}{l:Mu}{n:dN}{b:Tb}{σ:Sg}{i:aA}{x:Str}{t:bG}{p:PV}(H:fD c n b)(a:(b[i]?).any (fun q=>q.1==x)=aF)(u:σ.loc[i]? =O (O p)):Ev w A c b m l σ (eval (.Name x t) c.env) p:=by
 intro K s F z _;cases e:b[i]? with
 |none=>replace a:=e▸a;cases a
 |some q=>
  obtain⟨y,k⟩:=q;replace a:=e▸a;have:y=x:=by simpa using a
  subst this;refine iD (H.at e) fun d B C=> ?_;have:=z i y k p e u;cases k with
  |true=>
   obtain⟨v,f,r⟩:=this;exact pF (GF H.kind (B V) F.ns f (fS F r)) d.1
  |false=>
   (refine nF (this) ?_;try clear this;rintro D o v f h j r);rcases C rfl with g |g
   ·exact pF (GG H.kind g f ⟨o,F.keep _ _ h,j⟩ (fS F (r.up _)) d.2) d.1
   ·exact pF (Rk H.kind g f ⟨o,F.keep _ _ h,j⟩ (fS F (r.up _))) d.1
theorem sT{E:aJ→aM→Prop}(H:fD c d g)(e:jp d x=aF)(F:Fm c K m i s)(f:c.mg x=O v)(h:Q v s):aN (aO pg w) A (eval (.Name x j) c.env) Q E s:=by exact xa (H.glob e) fun a b=>aeM H.kind b (Calls.loadGlobal_global (mg:=c.mg) (by refine M H.globals ?_;exact F.heap.g) f h) a
theorem qd{E:aJ→aM→Prop}(H:fD c d j)(e:jp d x=aF)(F:Fm c K m k s)(f:c.mg x=aB)(g:xd x=O v)(i:x≠"__name__")(h:Q v s):
  aN (aO pg w) A (eval (.Name x l) c.env) Q E s:=by
 exact xa (H.glob e) fun a b=>aeM H.kind b (aeN (mg:=c.mg) (mb:=c.mb) (by refine M H.globals ?_;exact F.heap.g) f (by refine M H.builtins ?_;exact F.heap.b) ((F.base.builtins x i).trans g) h) a
theorem iE{args:aD (aU×cR aJ)}{E:aJ→aM→Prop}(c:args≠[])(a:args.any (·.1)=aI)
  (h:aN (aO pg w) A (sj args) (fun d e=>Q ⟨d,[]⟩ e) E s):aN (aO pg w) A (evalArgs f aF args []) Q E s:=by
 cases args with
 |nil=>exact absurd rfl c
 |cons p r=>
  obtain⟨b,x⟩:=p;simp only[aeG,xh] at a;(refine xa a ?_;clear a;rintro rfl _);exact Calls.evalArgs_plain h
noncomputable def q8(a:Expr):Bool:=([0,2,3,5,6,15,16,19,21,23,24,25] :aD aA).contains a.ctorIdx
theorem qe{ex:Expr}(h:bC sc tb e ex=aF):q8 ex=true:=by
 cases e with
 |nm=>exact jd h fun J J J=>rfl|gk=>exact jd h fun J J J=>rfl|int=>exact kV h fun J J J J=>rfl|str=>exact kV h fun J J J J=>rfl|bool=>exact kV h fun J J J J=>rfl|none=>exact kV h fun J J J J=>rfl|bin=>exact BP h fun J J J J J=>rfl|un=>exact BQ h fun J J J J=>rfl|cmp=>exact sN h fun J J J J J=>rfl|oL=>exact sN h fun J J J J J=>rfl|bo=>exact BS h fun J J J J=>rfl|ja=>exact BU h fun J J J J J=>rfl|sub=>exact qb h fun J J J J=>rfl|dD=>exact qb h fun J J J J=>rfl|lst=>exact x9 h fun J J J=>rfl|tup=>exact sO h fun J J J J=>rfl|gA=>exact BV h fun J J J J=>rfl|call=>exact jF h fun J J J J J=>rfl|bi=>exact jF h fun J J J J J=>rfl|lO=>exact jF h fun J J J J J=>rfl|oM=>exact jF h fun J J J J J=>rfl|dG=>exact u3 h fun J J J J J=>rfl|comp=>exact absurd h cL
theorem Uj{a:Expr}(h:q8 a=aF)(c:aD Expr)(b:gI):dF (a::c) b=(aI,eval a b)::dF c b:=by
 cases a with
 |Starred _ _=>exact absurd h cL| _=>rfl
theorem i0{b:Expr}(h:bC d f e b=aF)(c:aD Expr)(a:gI):dF (b::c) a=(aI,eval b a)::dF c a:=Uj (qe h) c a
theorem Uk{a:Expr}(h:q8 a=aF)(b:l5):aeO b a=false:=by
 cases a with
 |Set _ _ _=>exact absurd h cL| _=>rfl
theorem B3{a:Expr}(h:bC c d e a=aF)(b:l5):aeO b a=false:=Uk (qe h) b
@[elab_as_elim] theorem u4{c:dN}{d:Tb}{a:E}{r:Es}{b:aD Expr}{C:aD Expr→Prop}(h:eK c d (.cons a r) b=aF)(k:∀x b,bC c d a x=aF→eK c d r b=aF→C (x::b)):C b:=by
 cases b with
 |nil=>exact absurd h cL|cons x b=>exact k x b (aY h).1 (aY h).2
theorem ye(h:eK b c .nil a=aF):a=[] :=kz h
theorem Es.ind{C:Es→Prop}(c:C .nil)(d:∀a r,C r→C (.cons a r))(b:Es):C b:=
 Es.rec (motive_1:=fun J=>r7) (motive_2:=C) (fun J=>trivial) (fun J=>trivial) (fun J=>trivial) (fun J=>trivial) (fun J=>trivial) trivial (fun J J J J J=>trivial) (fun J J J=>trivial) (fun J J J J J=>trivial) (fun J J J J J J J J=>trivial) (fun J J J=>trivial)
  (fun J J J J J J=>trivial) (fun J J J J=>trivial) (fun J J J J J J=>trivial) (fun J J=>trivial) (fun J J=>trivial) (fun J=>trivial) (fun J J J=>trivial) (fun J J J=>trivial) (fun J J=>trivial) (fun J J=>trivial) (fun J J J J J=>trivial) (fun J J J J J J J=>trivial)
  c (fun a r J h=>d a r h) b
theorem mr{d:dN}{e:Tb}{pos:bG}{env:gI}{c:Es}:∀{b:aD Expr},eK d e c b=aF→(jB pos (dF b env)).any (·.1)=false:=
 Es.ind (C:=fun c=>∀{b:aD Expr},eK d e c b=aF→(jB pos (dF b env)).any (·.1)=aI) (fun h=>by refine M (ye h) ?_;rfl)
  (fun a r ih b h=>u4 (C:=fun b=>(jB pos (dF b env)).any (·.1)=aI) h fun x i f g=>by refine M (i0 f ..) ?_;exact ih g) c
theorem qf{f:dN}{g:Tb}{c:bG}{d:gI}{e:Es}{b:aD Expr}(h:eK f g e b=aF)(i:b≠[]):jB c (dF b d)≠[] :=by
 cases e with
 |nil=>exact absurd (ye h) i|cons a r=>exact u4 (C:=fun b=>jB c (dF b d)≠[]) h fun x k j l=>by refine M (i0 j ..) ?_;exact aeP _ _
end
end
section
section
inductive B4(c:Cx)(K:PK)(m:Str→aG aJ)(mu:Mu)(h:bF)(b:aU)(b':aU)(s':aM):Prop
 |mk (e:b'=b) (K':PK) (k:PK.le K K') (F:Fm c K' m mu s') (kb:KB c mu h s'.heap):B4 c K m mu h b b' s'
inductive IT(w:aV)(c:Cx)(K:PK)(m:Str→aG aJ)(mu:Mu)(h:bF)(xs:aD PV)(vs:aD aJ)(s':aM):Prop
 |mk (K':PK) (k:PK.le K K') (F:Fm c K' m mu s') (b:KB c mu h s'.heap) (r:hG w K' mu.ad vs xs):IT w c K m mu h xs vs s'
noncomputable abbrev Tr(w:aV)(A:bX)(c:Cx)(g:Tb)(m:Str→aG aJ)(a:Mu)(d:Sg)(e:Expr)(b:aU):Prop:=
 ∀(K:PK) (s:aM) (f:cR aJ),f=eval e c.env→Fm c K m a s→RL w K c.env a.ad g m d.loc→Mu.Is w K a d.mu→
  aN (aO pg w) A (sk e c.env f) (B4 c K m a s.heap b) (fun J J=>bO) s
noncomputable abbrev q9(w:aV)(A:bX)(c:Cx)(d:Tb)(m:Str→aG aJ)(a:Mu)(b:Sg)(e:aD Expr)(f:aD PV):Prop:=
 ∀(g:bG) (K:PK) (s:aM),Fm c K m a s→RL w K c.env a.ad d m b.loc→Mu.Is w K a b.mu→
  aN (aO pg w) A (sj (jB g (dF e c.env))) (IT w c K m a s.heap f) (fun J J=>bO) s
theorem q9.then{j:aD Expr}{K:PK}{E:aJ→aM→Prop}(h:q9 w A c o m f l j p)(F:Fm c K m f s)(L:RL w K c.env f.ad o m l.loc)(q:Mu.Is w K f l.mu)
  (k:∀g n i,PK.le K g→Fm c g m f i→KB c f s.heap i.heap→hG w g f.ad n p→Q n i):aN (aO pg w) A (sj (jB r (dF j c.env))) Q E s:=
 wpAny_mono (h r K s F L q) (fun v i ⟨g,a,b,d,e⟩=>k g v i a b d e) fun J J x=>x.elim
theorem Tr.then{j:Expr}{K:PK}{E:aJ→aM→Prop}(h:Tr w A c n m f l j b)(F:Fm c K m f s)(L:RL w K c.env f.ad n m l.loc)(o:Mu.Is w K f l.mu)
  (k:∀i g,PK.le K i→Fm c i m f g→KB c f s.heap g.heap→Q b g):aN (aO pg w) A (sk j c.env (eval j c.env)) Q E s:=
 wpAny_mono (h K s _ V F L o) (fun v g ⟨e,i,a,b,d⟩=>e▸k i g a b d) fun J J x=>x.elim
theorem IU{f:Expr}(i:∀x,o=O x→Ev w A c j m k l (eval f c.env) x)(n:∀g,sk f c.env g=(do let v ←g;np f.pos;r9 [v] (truthy v))):
  ∀b,o.bind truth=O b→Tr w A c j m k l f b:=by
 intro b h K s g p F L q;cases o with
 |none=>cases h
 |some x=>
  subst p;refine isTrue_plain ((i x V K s F L q).then fun r v u a t d e=> ?_) (n _);exact qW h e fun tk=>⟨rfl,r,a,t.tok,d⟩
theorem Ul{E:aJ→aM→Prop}(h:Q () s):aN (aO pg w) A (Rl a o r) Q E s:=wpAny_letTemporaryGo h
theorem Um{K:PK}(h:jn x o i=O z)(F:Fm c K m mu s)(hm:Mu.Is w K mu x)(ho:RV w K mu.ad v o):
  ∃T id,s.TypeIs v T∧Ar (.type T) "__getitem__"=pure (O (.builtin id)):=by
 cases o with
 |str=>obtain⟨t,rfl⟩:=ho.str_inv;exact⟨"str",_,pE _ _ _,Q4.lookup⟩
 |tup=>
  (refine il ho.sG ?_;rintro a ob its n rfl h1 h2 h3 h4);exact⟨"tuple",_,⟨ob,F.keep _ _ h1,h2⟩,PySem.F.slot_tuple_getitem.lookup⟩
 |lst=>
  (refine il ho.lst_inv ?_;rintro a ob its n rfl h1 h2 h3 h4);exact⟨"list",_,⟨ob,F.keep _ _ h1,h2⟩,Rm.lookup⟩
 |bV=>
  (refine aQ (ho.pS) ?_;rintro a ha rfl);cases hm with
  |none=>cases i<;>exact nn h
  |some hr=>
   obtain rfl:=cA ha;obtain⟨⟨⟨ob,g,g2,_⟩,_⟩,_⟩:=F.mul _ _ _ V;exact⟨"list",_,⟨ob,g,g2⟩,Rm.lookup⟩
 |gA=>
  (refine oK (ho.BH) ?_;rintro a o kv rfl h1 h2 h3 h4 h5);exact⟨"dict",_,(h3 _ (F.keep _ _ h1)).typeIs,PySem.F.slot_dict_getitem.lookup⟩
 | _=>exact nn h
theorem Un{K:PK}(h:mV o l u=O z)(F:Fm c K m d s)(b:RV w K d.ad v o):
  ∃T id,s.TypeIs v T∧Ar (.type T) "__getitem__"=pure (O (.builtin id)):=by
 cases o with
 |str=>obtain⟨t,rfl⟩:=b.str_inv;exact⟨"str",_,pE _ _ _,Q4.lookup⟩
 |lst=>
  (refine il (b.lst_inv) ?_;rintro a e i n rfl f g j k);exact⟨"list",_,⟨e,F.keep _ _ f,g⟩,Rm.lookup⟩
 | _=>exact nn h
theorem Uo:∃d,subscripted slice aI o i=operate d (oy o i):=by
 cases slice with
 |Slice a b c p=>cases c<;>exact⟨_,rfl⟩| _=>exact⟨_,rfl⟩
theorem IW{id:eA}{E:aJ→aM→Prop}(b:s.TypeIs o T)(c:Ar (.type T) "__getitem__"=pure (O (.builtin id)))
  (h:aN (aO pg w) A (oy o i) Q E s):
  aN (aO pg w) A (do let r ←subscripted d (←getitemInPython o) o i;Rl f o r;pure r) Q E s:=by
 have g:∀a,aN (aO pg w) A (operate a (oy o i) >>=fun r=>Rl f o r >>=fun J=>pure r) Q E s:=fun a=>
  wpAny_bind (wpAny_operating (wpAny_mono h (fun r k j=>wpAny_bind (Ul (wpAny_pure j))) fun J J x=>x))
 refine wpAny_bind <|wpAny_bind (wX b c ?_)
 refine wpAny_pure ?_;obtain⟨a,e⟩:=Uo (slice:=d) (o:=o) (i:=i);refine M e ?_;exact g a
end
end
section
section
variable{K:PK}
inductive yf(w:aV)(c:Cx)(K:PK)(m:Str→aG aJ)(mu:Mu)(h:bF)(xs:aD PV)(v:aJ)(s':aM):Prop
 |mk (K':PK) (a:aW) (vs:aD aJ) (n:aA) (h1:PK.le K K') (h2:Fm c K' m mu s') (h3:KB c mu h s'.heap) (h4:v= .ref a) (h5:s'.heap.get? a=O {cls:= .type "list",data:= .seq (AC vs) n})
  (h6:K' a=aB) (h7:a≠c.env.locals) (h8:mu.ad≠O a) (h9:c.hE.get? a=aB) (B5:h.get? a=aB) (B6:bK w K' vs xs):yf w c K m mu h xs v s'
noncomputable def kX(w:aV)(A:bX)(c:Cx)(K:PK)(m:Str→aG aJ)(a:Mu)(t:cR aJ)(b:aD PV)(s:aM):Prop:=
 aN (aO pg w) A t (yf w c K m a s.heap b) (fun J J=>bO) s
theorem kX.frozen(h:kX w A c K m b t d s):dE w A c K m b t (.lst d) s:=
 wpAny_mono h (fun v p e=>by obtain⟨q,a,u,n,f,F,i,rfl,g,j,k,l,o,_,r⟩:=e;have Q:=F.known j k l o g;exact⟨_,f.trans Q.1,Q.2,i,.lst PK.jo V rfl (r.mono Q.1)⟩) fun J J x=>x
theorem kX.lift{w:aV}{A:bX}{c:Cx}{m:Str→aG aJ}{d:Mu}{t:cR aJ}{f:aD PV}{i:PK}{s s':aM}(u:PK.le K i)(j:KB c d s.heap s'.heap)(h:kX w A c i m d t f s'):
  aN (aO pg w) A t (yf w c K m d s.heap f) (fun J J=>bO) s':=
 wpAny_mono h (fun v D ⟨y,a,z,n,b,F,B,e,g,C,k,l,p,q,r⟩=>⟨y,a,z,n,u.trans b,F,j.trans B,e,g,C,k,l,p,(by
  cases e:s.heap.get? a with
  |none=>rfl|some o=>rw[j a o e k l (F.off p)] at q;exact nn q.symm),r⟩) fun J J x=>x
theorem B7(F:Fm c K m f s)(a:∀b o,s.heap.get? b=O o→d.get? b=O o)
  (g:d.get? s.heap.objs.size=O {cls:= .type "list",data:= .seq e.toArray n}) (r:bK w K e h):
  yf w c K m f s.heap h (.ref s.heap.objs.size) {s with heap:=d,toks:=tk}:=
 ⟨K,_,e,n,.refl K,F.grow a,.of_keeps a,rfl,g,F.fresh.1,F.fresh.2.1,F.fresh.2.2.1,F.fresh.2.2.2,fR,r⟩
theorem IX(h:ItemsOf P a n)(d:∀j v,P j v→j < n→RV w K .none v (f j)):bK w K a.toList ((mH n).map f):=by
 (refine xa (h) ?_;try clear h;rintro b g)
 have i:∀(l:aD aJ) (k:aA),(∀j v,l[j]? =O v→P (k+j) v∧k+j < n)→bK w K l ((qJ k l.length).map f):=by
  intro l
  induction l with
  |nil=>intro k _;exact .nil
  |cons v r ih=>
   intro k c;exact xa (c 0 v V) fun m o=> .cons (d _ _ m o) (ih (k+1) fun j v e=>by have:=c (j+1) v (by simpa using e);refine M (on _ _ _:k+1+j=k+(j+1)) ?_;exact this)
 have:=i a.toList 0 (fun j v e=>by
  replace e:=pz▸e;refine⟨by simpa using g j v e,?_⟩
  have:j < a.size:=by
   rcases ou j a.size with h |h
   ·exact h
   ·simp[h] at e
  exact bL (mf this _) (GH (cM b) (jR _)))
 refine M uv (aS b ?_);simpa using this
theorem Up(F:Fm c K m b s)(d:A.handled=aB)(p:x.length≤1000):kX w A c K m b (call (.type "list") [.str x t]) (x.cps.toList.map fun k=> .str ⟨#[k]⟩) s:=by
 refine call_list_str d x t (fun r tk f u n g o=> ?_) (by refine M cN ?_;have:x.cps.size≤1000:=p;exact aL this (by decide));obtain⟨l⟩:=f;refine B7 F n g ?_
 have e:(x.cps.toList.map fun k=>PV.str ⟨#[k]⟩)=(mH x.cps.size).map fun j=>PV.str ⟨#[x.cps.getD j 0]⟩:=by
  apply List.ext_getElem?;intro i
  by_cases h:i < x.cps.size<;>simp[h]
 refine M e ?_
 exact IX o fun j v a y=>by
  (refine iN (a) ?_;try clear a;rintro k t q rfl);have:x.cps.getD j 0=k:=by simp[q]
  refine M this ?_;exact .str
theorem Uq(f:0≤a)(g:b≤1000000)(c:0 < d):0≤sd a b d∧sd a b d≤1000000:=by
 refine M (show sd a b d=if a < b then(b - a - 1) / d+1 else 0 from aR c) ?_
 by_cases h:a < b
 ·have e:0≤b - a - 1:=xl (Int.sub_pos_of_lt h);exact M (aR h) <|⟨qK (kQ e (cJ c)) (by decide),cK (xm (AL _ e) 1) (by refine M (xn ..) ?_;exact cK (AM _ f) g)⟩
 ·refine M (aP h) ?_;decide
theorem u5(a:0≤x)(b:x≤2000000):ahm x=true:=mJ.mpr ⟨fM (cK (by decide) a),fM (iV b (by decide))⟩
theorem IY(F:Fm c K m x s)(y:A.handled=aB)(p:small a b d)(z:IsRange s.heap r a b d t u v):kX w A c K m x (call (.type "list") [.ref r]) (pW a b d) s:=by
 (refine qU (p) ?_;try clear p;rintro h B i f C k);have e:0 < d:=C;refine xa (Uq h f e) fun n o=>aeQ y z ?_ (n:=(sd a b d).toNat) (kr n).symm (Go.mpr (cK o (by decide))) fun H tk D I E g G=> ?_
 ·unfold ahn;refine M (aR e) (M (u5 h (cK B (by decide))) (M (u5 i (cK f (by decide))) (M (u5 (cJ e) (cK k (by decide))) (M (u5 n (cK o (by decide))) (M (u5 (qK i (xl e)) (cK (nq f (cK (AM _ (by decide)) k)) (by decide))) (M (Bool.or_true ..) ?_))))));rfl
 ·obtain⟨l⟩:=D;refine B7 F E g ?_;exact IX G fun j v q J=>by(refine xe q ?_;clear q;rintro t rfl);exact .int
end
end
section
section
variable{w:aV}{A:bX}{c:Cx}{K:PK}{m:Str→aG aJ}{mu:Mu}{s:aM}
noncomputable def q'(a:gI)(b:bG):aD (aG Expr)→aD Expr→aD (cR aJ×cR aJ)
 |some k::d,v::e=>(eval k a,do let x ←eval v a;np b;pure x)::q' a b d e| _,_=>[]
@[elab_as_elim] theorem IZ{a:aD (aG Expr)}{b:aD Expr}{e:Str×Z}{r:aD (Str×Z)}{C:aD (aG Expr)→aD Expr→Prop}(h:q7 a b (e::r)=aF)
  (i:∀k p j g a b,q7 a b r=aF→C (O (.Constant (.str e.1) k p)::a) (.Constant (.int e.2) j g::b)):C a b:=by
 cases a with
 |nil=>exact absurd h cL
 |cons k a=>cases b with
  |nil=>exact absurd h cL
  |cons v b=>
   refine xa (aY h) fun h l=>xa (aY h) fun d f=>IR (C:=fun k=>C (k::a) (v::b)) d fun k d=>kV (C:=fun k=>C (O k::a) (v::b)) d fun c n p d=>M (jq d) ?_;exact kV (C:=fun v=>C (O (.Constant (.str e.1) n p)::a) (v::b)) f fun c o g f=>M (jq f) <|i _ _ _ _ _ _ l
theorem Ur{env:gI}{pos:bG}{d:aD (Str×Z)}:∀{a:aD (aG Expr)} {b:aD Expr},q7 a b d=aF→
  (Rn a env).zip ((Ro b env).map fun v=>(do let x ←v;np pos;pure x:cR aJ))=(q' env pos a b).map (fun p=>(O p.1,p.2))∧(q' env pos a b).length=d.length:=by
 induction d with
 |nil=>
  intro a b h;refine xa (aY h) fun f g=> ?_;refine M (kz f) (M (kz g) ?_);exact⟨rfl,rfl⟩
 |cons e r ih=>
  intro a b h;exact IZ (C:=fun a b=>(Rn a env).zip ((Ro b env).map fun v=>(do let x ←v;np pos;pure x:cR aJ))=(q' env pos a b).map (fun p=>(O p.1,p.2))∧(q' env pos a b).length=(e::r).length) h fun k p i j a b h=>⟨aT (QR _) (ih h).1,aT (· +1) (ih h).2⟩
inductive u6:aD (aJ×aJ)→aD (Str×Z)→Prop
 |nil:u6 [] []
 |cons {x n t u vs r}:u6 vs r→u6 ((.str x t,.int n u)::vs) ((x,n)::r)
theorem Us{i:gI}{j:bG}{E:aJ→aM→Prop}{d:aD (Str×Z)}:∀{a:aD (aG Expr)} {b:aD Expr} {s:aM} {Q:aD (aJ×aJ)→aM→Prop},q7 a b d=aF→
  (∀f tk,u6 f d→Q f {s with toks:=tk})→aN (aO pg w) A (QT (q' i j a b)) Q E s:=by
 induction d with
 |nil=>
  intro a b s Q h g;refine xa (aY h) fun l n=> ?_;refine M (kz l) (M (kz n) ?_);exact aeu (g [] s.toks .nil)
 |cons e r ih=>
  intro a b s Q h g;exact IZ (C:=fun a b=>aN (aO pg w) A (QT (q' i j a b)) Q E s) h fun k p q t a b h=>aev (sm (wpAny_bind (pG (wpAny_bind (jg (wpAny_pure (ih h fun f tk o=>g _ tk (.cons o))))))))
theorem Ut(h:u6 ps fQ):∃kv:aD (Str×aJ),Carries (Gs pg w) ps kv∧kv.map (·.1)=fQ.map (·.1)∧∀K,bK w K (kv.map (·.2)) (fQ.map fun p=> .int p.2):=by
 induction h with
 |nil=>exact⟨[],trivial,rfl,fun J=> .nil⟩
 | @cons x n t u _ _ _ ih=>
  (refine dB (ih) ?_;try clear ih;rintro kv a b d);refine⟨(x,.int n u)::kv,⟨?_,rfl,a⟩,aT (x:: ·) b,fun K=> .cons .int (d K)⟩;show xi x (.str x t)=aF;simp[xi]
theorem I0:∀(b a:aD (Str×aJ)),(a.map (·.1)++b.map (·.1)).Nodup→qE a b=a++b
 |[],a,_=>by simp[qE]
 |(k,v)::r,a,h=>by
  have f:k∉a.map (·.1):=fun g=>by rw[wU] at h;exact h.2.2 k g k (.head _) V
  have e:sa a k v=a++[(k,v)] :=by unfold sa;rw[aP];intro d;simp only[wZ,lG] at d;(refine aQ (d) ?_;try clear d;rintro p i rfl);exact f (Ay i)
  have ih:=I0 r (a++[(k,v)]) (by simpa using h);have:qE a ((k,v)::r)=qE (sa a k v) r:=rfl;refine M this (M e (M ih ?_));simp
theorem Uu(h:q7 l n f=aF)(p:f.length≤15)(r:f≠[])(t:(f.map (·.1)).Nodup)(F:Fm c K m mu s):
  dE w A c K m mu (eval (.Dict l n u) c.env) (.gA f) s:=by
 refine xa (Ur (env:=c.env) (pos:=u) h) fun v g=>wpAny_Dict_pairs (knd:=Gs pg w) v (by intro e;replace g:=e▸g;exact r (List.length_eq_zero_iff.mp g.symm)) (aL (cM g) p) (Us h fun y tk z=> ?_);refine dB (Ut (w:=w) z) fun i a b d=>⟨i,a,Gf _,fun B j C=> ?_⟩
 have D:qE [] i=i:=by have:=I0 i [] (by simpa [b] using t);simpa using this
 replace j:=D▸j;refine oK (id j) fun o E G H I L N P R=> ?_
 have k:∀b x,s.heap.get? b=O x→B.get? b=O x:=fun b x e=>by have S:b≠s.heap.objs.size:=fG (fA e);exact(C.2 b S).trans (ky _ _ e)
 have Fr:=F.fresh;have Q:=(F.grow (tk:=tk+y.length) k).known Fr.1 Fr.2.1 Fr.2.2.1 Fr.2.2.2 H;refine⟨_,Q.1,Q.2,.of_keeps k,.gA PK.jo ?_ (fun T q=>⟨o,E,G,q,I,L,N,P,R⟩) b (d _)⟩;refine xe F.heap.pY fun U q=> ?_;exact beq_eq_false_iff_ne.mpr fun e=>by(replace q:=Eq.symm e▸q;replace q:=fR▸q);cases q
end
end
section
section
variable{w:aV}{A:bX}{c:Cx}{m:Str→aG aJ}{mu:Mu}{sc:dN}{tb:Tb}{σ:Sg}{P:bT}{n:aA}
theorem nH{g i j:Type}{a:aG g}{b:aG i}{f:g→i→aG j}{z:j}(h:(a.bind fun x=>b.bind fun y=>f x y)=O z):∃x y,a=O x∧b=O y∧f x y=O z:=by
 cases a with
 |none=>cases h
 |some x=>cases b with
  |none=>cases h|some y=>exact⟨x,y,rfl,rfl,h⟩
theorem dP{g i:Type}{a:aG g}{f:g→aG i}{z:i}(h:a.bind f=O z):∃x,a=O x∧f x=O z:=by
 cases a with
 |none=>cases h|some x=>exact⟨x,rfl,h⟩
theorem I1{g i j:Type}{a:aG g}{b:g→aG i}{f:g→i→aG j}{z:j}(h:(a.bind fun x=>(b x).bind fun y=>f x y)=O z):∃x y,a=O x∧b x=O y∧f x y=O z:=by exact aQ (dP h) fun x e h=>aQ (dP h) fun y k h=>⟨x,y,e,k,h⟩
structure Hyp(w:aV)(A:bX)(c:Cx)(sc:dN)(tb:Tb)(P:bT)(n:aA):Prop where
 hh:A.handled=aB
 hd:A.depth+n < 900
 hu:A.units+10*n < 9000
 H:fD c sc tb
 S:yd w c n P
noncomputable abbrev jr(w:aV)(A:bX)(c:Cx)(tb:Tb)(m:Str→aG aJ)(mu:Mu)(σ:Sg)(f:Expr)(o:aG PV):Prop:=
 (∀x,o=O x→Ev w A c tb m mu σ (eval f c.env) x)∧(∀b,o.bind truth=O b→Tr w A c tb m mu σ f b)
theorem jr.plain{f:Expr}{o:aG PV}(g:∀x,o=O x→Ev w A c tb m mu σ (eval f c.env) x)(i:∀h,sk f c.env h=(do let v ←h;np f.pos;r9 [v] (truthy v))):jr w A c tb m mu σ f o:=⟨g,IU g i⟩
theorem I2{T:eA}{f:aD aJ}{xs:aD PV}{K:PK}{s:aM}{z:PV}(F:Fm c K m mu s)(i:f.length≤1000)
  (h:∀g,PK.le K g→g s.heap.objs.size=O {cls:= .type T,data:= .seq f.toArray}→RV w g mu.ad (.ref s.heap.objs.size) z):dE w A c K m mu (newObj (.type T) (.seq f.toArray)) z s:=
 nr (uY (tk:=s.toks) F V h) (by refine(M kO (M cN ?_):f.toArray.size≤eF);exact aL i (by decide))
theorem Uv{g:aD Expr}{f:aD PV}{j:bG}{K:PK}{s:aM}(h:q9 w A c tb m mu σ g f)(p:f.length≤1000)(k:kU f=aF)(F:Fm c K m mu s)(L:RL w K c.env mu.ad tb m σ.loc)(l:Mu.Is w K mu σ.mu):
  kX w A c K m mu (eval (.List g j) c.env) f s:=by
 refine GI (h.then F L l fun v o q r t u i=> ?_);refine kX.lift r u (nr (B7 (tk:=q.toks) t ky (fP _ V) (i.plain k)) ?_);refine(M kO (M cN (M i.length ?_)):o.toArray.size≤eF);exact aL p (by decide)
noncomputable def ra(f:aD PV)(z:PV):Prop:=(∃a b,f=[.int a,.int b]∧small a b 1∧z= .lst (pW a b 1))∨∃a b d,f=[.int a,.int b,.int d]∧small a b d∧z= .lst (pW a b d)
theorem I3{f:aD PV}{z:PV}(h:BL f=O z):ra f z:=by
 refine eC (C:=fun f=>ra f z) h fun J r h=>eI (C:=fun x=>ra (x::r) z) h fun a h=>eC (C:=fun r=>ra (.int a::r) z) h fun J r h=>eI (C:=fun x=>ra (.int a::x::r) z) h fun b h=> ?_;cases r with
 |nil=>
  exact xa (iZ h) fun p h=> .inl ⟨a,b,rfl,p,(cA h).symm⟩
 |cons x r=>
  exact eI (C:=fun x=>ra (.int a:: .int b::x::r) z) h fun d h=>eN (C:=fun r=>ra (.int a:: .int b:: .int d::r) z) h fun h=>xa (iZ h) fun p h=> .inr ⟨a,b,d,rfl,p,(cA h).symm⟩
theorem I4{f:aD Expr}{o z:aD PV}{G H I N:bG}{x y:Str}{K:PK}{s:aM}{es:Es}(Y:Hyp w A c sc tb P n)(g:(x==("list":Str))=aF)(Q:jp sc x=aF)(i:(y==("range":Str))=aF)(R:jp sc y=aF)
  (j:eK sc tb es f=aF) (S:f≠[]) (h:q9 w A c tb m mu σ f o)
  (T:BL o=O (.lst z)) (F:Fm c K m mu s) (L:RL w K c.env mu.ad tb m σ.loc) (U:Mu.Is w K mu σ.mu):
  kX w A c K m mu (eval (.Call (.Name x H) [.Call (.Name y I) f [] N] [] G) c.env) z s:=by
 have g:=beq_iff_eq.mp g;have i:=beq_iff_eq.mp i;subst g i;refine wpAny_Call_NameR (qd Y.H Q F (Y.S.bi "list" (by decide)) (v:= .type "list") (by decide+kernel) (by decide+kernel) ?_);refine pH V (iE (by intro e;cases e) V (iC ?_));refine wpAny_Call_NameR (qd Y.H R F (Y.S.bi "range" (by decide)) (v:= .type "range") (by decide+kernel) (by decide+kernel) ?_);refine pH (mr j) (iE (qf j S) (mr j) (h.then F L U fun a0 a1 a2 B C D E=> ?_));rcases I3 T with⟨a,b,rfl,p,q⟩ |⟨a,b,d,rfl,p,q⟩ <;>obtain rfl:=PV.lst.inj q
 ·(refine cS (E.two) ?_;rintro v u rfl k l);obtain⟨t,rfl⟩:=k.int_inv;obtain⟨W,rfl⟩:=l.int_inv;refine call_range_2 (jC ?_);exact kX.lift B (D.trans (.of_keeps ky)) (IY C.push Y.hh p (fP _ V))
 ·(refine cS (E.ml) ?_;rintro v a3 rfl k r);(refine cS (r.two) ?_;rintro v u rfl l X);obtain⟨t,rfl⟩:=k.int_inv;obtain⟨W,rfl⟩:=l.int_inv;obtain⟨a4,rfl⟩:=X.int_inv;refine call_range_3 (fB (dM Int.zero_lt_one p.2.2.2.2.1)) (jC ?_) (.inl (PyProof.noPylong_small (by have:=p.2.2.2.2;omega)));exact kX.lift B (D.trans (.of_keeps ky)) (IY C.push Y.hh p (fP _ V))
theorem I5{f:Expr}{z:Str}{i j:bG}{x:Str}{K:PK}{s:aM}{a:E}(Y:Hyp w A c sc tb P n)(g:(x==("list":Str))=aF)(l:jp sc x=aF)(o:bC sc tb a f=aF)
  (h:Ev w A c tb m mu σ (eval f c.env) (.str z)) (p:z.length≤1000) (F:Fm c K m mu s) (L:RL w K c.env mu.ad tb m σ.loc) (q:Mu.Is w K mu σ.mu):
  kX w A c K m mu (eval (.Call (.Name x j) [f] [] i) c.env) (z.cps.toList.map fun k=> .str ⟨#[k]⟩) s:=by
 have g:=beq_iff_eq.mp g;subst g;refine wpAny_Call_NameR (qd Y.H l F (Y.S.bi "list" (by decide)) (v:= .type "list") (by decide+kernel) (by decide+kernel) ?_);have e:dF [f] c.env=(aI,eval f c.env)::dF [] c.env:=i0 o [] c.env;refine pH (by refine M e ?_;rfl) (iE (by refine M e ?_;intro h;cases h) (by refine M e ?_;rfl) (iC ?_ e));refine(h K s F L q).then fun C v D r u y B=>jC ?_
 (refine xe B.str_inv ?_;rintro t rfl);exact kX.lift r y (Up u Y.hh p)
theorem lookupS{es:Es}{f:aD Expr}{g:bG}(h:eK sc tb es f=aF):(jB g (dF f c.env)).all (fun x=> !x.1)=true:=by have:=mr (pos:=g) (env:=c.env) h;refine M List.all_eq_not_any_not ?_;simpa using this
noncomputable def PE(w:aV)(A:bX)(c:Cx)(m:Str→aG aJ)(mu:Mu)(sc:dN)(tb:Tb)(σ:Sg)(P:bT)(e:E):Prop:=∀f:Expr,bC sc tb e f=aF→jr w A c tb m mu σ f (ev P σ e)
noncomputable def mv(w:aV)(A:bX)(c:Cx)(m:Str→aG aJ)(mu:Mu)(sc:dN)(tb:Tb)(σ:Sg)(P:bT)(es:Es):Prop:=∀f:aD Expr,eK sc tb es f=aF→∀g,gB P σ es=O g→q9 w A c tb m mu σ f g
noncomputable def rb(w:aV)(A:bX)(c:Cx)(m:Str→aG aJ)(mu:Mu)(sc:dN)(tb:Tb)(σ:Sg)(P:bT)(es:Es):Prop:=∀(f:BoolOp) (h:bG) (g:aD Expr),eK sc tb es g=aF→jr w A c tb m mu σ (.BoolOp f g h) (oR P σ f es)
section
variable{a b d e:E}{es:Es}
theorem I6(Y:Hyp w A c sc tb P n){i:aA}:PE w A c m mu sc tb σ P (.nm i):=fun g h=>jd h fun x j h=> .plain (fun z f=>by
 have f:(σ.loc[i]?).join=O z:=f;cases e1:σ.loc[i]? with
 |none=>rw[e1] at f;exact nn f|some o=>rw[e1] at f;exact B2 Y.H h (e1.trans (aT O f))) fun J=>rfl
theorem I7(Y:Hyp w A c sc tb P n){y:Str}:PE w A c m mu sc tb σ P (.gk y):=fun l h=>jd h fun x o h=> .plain (fun z f=>by obtain⟨g,j⟩:=aY h;obtain rfl:=q0 g;have f:(P.gk x).map PV.int=O z:=f;(refine aQ (l8.mp f) ?_;rintro i e rfl);obtain⟨t,k⟩:=Y.S.gk x i e;exact fun K s F L p=>sT Y.H j F k (fS F .int)) fun J=>rfl
theorem I8{k:Z}:PE w A c m mu sc tb σ P (.int k):=fun g h=>kV h fun q J J h=>by exact M (jq h) <| .plain (fun z f=>by obtain rfl:PV.int k=z:=cA f;exact fun K s F L i=>pG (eE F .int)) fun J=>rfl
theorem I9{k:Str}:PE w A c m mu sc tb σ P (.str k):=fun g h=>kV h fun q J J h=>by exact M (jq h) <| .plain (fun z f=>by obtain rfl:PV.str k=z:=cA f;exact fun K s F L i=>sm (eE F .str)) fun J=>rfl
theorem Ja{k:aU}:PE w A c m mu sc tb σ P (.bool k):=fun g h=>kV h fun q J J h=>by exact M (jq h) <| .plain (fun z f=>by obtain rfl:PV.bool k=z:=cA f;exact fun K s F L i=>Constant_bool (fS F .bool)) fun J=>rfl
theorem Jb:PE w A c m mu sc tb σ P .none:=fun g h=>kV h fun q J J h=>by exact M (jq h) <| .plain (fun z f=>by obtain rfl:PV.none=z:=cA f;exact fun K s F L i=>aeR (fS F .none)) fun J=>rfl
theorem Jc{x y z:PV}{l r:Expr}{f:aJ→aJ→cR aJ}(j:Ev w A c tb m mu σ (eval l c.env) x)(k:Ev w A c tb m mu σ (eval r c.env) y)
  (o:∀K s v u,Fm c K m mu s→Mu.Is w K mu σ.mu→RV w K mu.ad v x→RV w K mu.ad u y→dE w A c K m mu (f v u) z s) (K:PK) (s:aM) (F:Fm c K m mu s) (L:RL w K c.env mu.ad tb m σ.loc) (h:Mu.Is w K mu σ.mu):
  aN (aO pg w) A (eval l c.env) (fun v=>aN (aO pg w) A (eval r c.env) (fun u=>aN (aO pg w) A (f v u) (oS w c K m mu s.heap z) (fun J J=>bO)) (fun J J=>bO)) (fun J J=>bO) s:=
 (j K s F L h).then fun p q t g B C D=>(k p t B (L.mono g) (h.mono g)).then fun E G H i I N Q=>dE.lift (g.trans i) (C.trans N) (o E H q G I (h.mono (g.trans i)) (D.mono i) Q)
theorem Jd(Y:Hyp w A c sc tb P n){o:i7}(f:PE w A c m mu sc tb σ P a)(g:PE w A c m mu sc tb σ P b):PE w A c m mu sc tb σ P (.bin o a b):=fun E h=>BP h fun l G r H h=>by refine xa (aY h) fun h i=>xa (aY h) fun h j=> ?_;obtain rfl:=jq h;refine .plain (fun z k=> ?_) (fun J=>rfl);exact cS (nH k) fun x y p q t=>fun K s F L B=>wpAny_BinOp (Jc ((f _ j).1 x p) ((g _ i).1 y q) (fun K s v u F J C D=>sM t F C D Y.hh) K s F L B)
theorem Je{o:UnaryOp}(p:PE w A c m mu sc tb σ P a):PE w A c m mu sc tb σ P (.un o a):=fun S h=>BQ h fun g x u h=>by
 refine xa (aY h) fun h q=> ?_;obtain rfl:=jq h
 have i:∀z,ev P σ (.un g a)=O z→Ev w A c tb m mu σ (eval (.UnaryOp g x u) c.env) z:=fun z j=>by exact aQ (dP j) fun y k f=>fun K s F L l=>UnaryOp_ (((p _ q).1 y k K s F L l).then fun T U W v B C D=>dE.lift v C (TQ f B D))
 by_cases r:g= .Not
 ·subst r;refine⟨i,fun b E K s X Y F L l=> ?_⟩;refine aQ (dP E) fun z j G=>aQ (dP j) fun y k f=> ?_;have f:((truth y).map fun b=>PV.bool (!b))=O z:=f;(refine aQ (l8.mp f) ?_;rintro t H rfl);obtain rfl:(!t)=b:=cA G;exact isTrue_not (((p _ q).2 t (by refine M k ?_;exact H)).then F L l fun I a0 N Q R=>⟨rfl,I,N,Q,R⟩)
 ·refine⟨i,IU i ?_⟩;cases g with
  |Not=>exact absurd rfl r| _=>exact fun J=>rfl
theorem Jf{o:l5}(B:PE w A c m mu sc tb σ P a)(C:PE w A c m mu sc tb σ P b):PE w A c m mu sc tb σ P (.cmp o a b):=fun a3 h=>sN h fun l D i E h=>by
 refine xa (aY h) fun h f=>xa (aY h) fun h G=>jU (C:=fun D=>jr w A c tb m mu σ (.Compare l D i E) (ev P σ (.cmp o a b))) h fun j h=>jU (C:=fun i=>jr w A c tb m mu σ (.Compare l [j] i E) (ev P σ (.cmp o a b))) f fun a4 f=> ?_;obtain rfl:=jq h
 constructor
 ·intro z k;exact cS (nH k) fun x y p q r=>fun K s F L g=>Rp (Jc ((B _ G).1 x p) ((C _ f).1 y q) (fun K s a5 a6 F J t u=>p' r F t u) K s F L g) (B3 f j)
 ·intro a7 I K s a8 a9 F L g;obtain⟨z,k,N⟩:=dP I
  exact cS (nH k) fun x y p q r=>GJ (((B _ G).1 x p K s F L g).then fun Q a' R v S T t=>((C _ f).1 y q Q R S (L.mono v) (g.mono v)).then fun aa ab ae H U W u=>
   (p' r U (t.mono H) u).then fun X af ah Y a0 a1 a2=>qW N a2 fun tk=>⟨rfl,X,(v.trans H).trans Y,a0.tok,(T.trans W).trans a1⟩) (B3 f j)
theorem Jg{o f:aG PV}{z:PV}(h:(match o with
  |some (.bool aI)=>O (.bool aI)|some (.bool aF)=>f| _=> .none)=O z):(o=O (.bool aI)∧z= .bool aI)∨(o=O (.bool aF)∧f=O z):=by
 cases o with
 |none=>exact nn h
 |some p=>cases p with
  |bool b=>cases b with
   |false=>exact .inl ⟨rfl,(cA h).symm⟩|true=>exact .inr ⟨rfl,h⟩
  | _=>exact nn h
theorem Jh{H I:l5}(a7:PE w A c m mu sc tb σ P a)(a8:PE w A c m mu sc tb σ P b)(a9:PE w A c m mu sc tb σ P d):PE w A c m mu sc tb σ P (.oL H I a b d):=fun b2 h=>sN h fun a' aa N ab h=>by
 obtain⟨h,u⟩:=aY h;obtain⟨h,ae⟩:=aY h;refine sQ (C:=fun aa=>jr w A c tb m mu σ (.Compare a' aa N ab) (ev P σ (.oL H I a b d))) h fun af Q h=>sQ (C:=fun N=>jr w A c tb m mu σ (.Compare a' [af,Q] N ab) (ev P σ (.oL H I a b d))) u fun aj ak u=> ?_;obtain⟨al,am⟩:=aY h;obtain rfl:=jq al;obtain rfl:=jq am;obtain⟨u,R⟩:=aY u;have ah:lastMarks (af::Q::[]) (aj::ak::[])=false:=B3 R Q
 constructor
 ·intro z S;refine cS (nH S) fun x y T U W=> ?_;intro K s F L j;refine Compare_chain (((a7 _ ae).1 x T K s F L j).then fun X an Y f a0 v B=>chain_link (((a8 _ u).1 y U X Y a0 (L.mono f) (j.mono f)).then fun ao ap aq g C D k=> ?_)) ah;rcases Jg W with⟨l,rfl⟩ |⟨l,o⟩
  ·exact(p' l C (B.mono g) k).then fun p a1 E i q r t=>M t.bool_inv <|wpAny_truthy_bool ⟨p,(f.trans g).trans i,q,(v.trans D).trans r,.bool⟩
  ·refine aQ (dP o) fun a2 o a3=>(p' l C (B.mono g) k).then fun p a1 E i q r t=>M t.bool_inv <|wpAny_truthy_bool (chain_last (((a9 _ R).1 a2 o p E q ((L.mono f).mono (g.trans i)) ((j.mono f).mono (g.trans i))).then fun ar as au G a4 a5 a6=> ?_))
   exact dE.lift (((f.trans g).trans i).trans G) (((v.trans D).trans r).trans a5) (p' a3 a4 (k.mono (i.trans G)) a6)
 ·intro av aw K s b3 b4 F L j;refine aQ (dP aw) fun z S ai=>cS (nH S) fun x y T U W=>isTrue_chain (((a7 _ ae).1 x T K s F L j).then fun X an Y f a0 v B=>test_link (((a8 _ u).1 y U X Y a0 (L.mono f) (j.mono f)).then fun ao ap aq g C D k=> ?_)) ah;rcases Jg W with⟨l,rfl⟩ |⟨l,o⟩
  ·obtain rfl:aI=av:=cA ai;exact(p' l C (B.mono g) k).then fun p a1 E i q r t=>M t.bool_inv <|wpAny_truthy_bool ⟨rfl,p,(f.trans g).trans i,q,(v.trans D).trans r⟩
  ·obtain⟨a2,o,a3⟩:=dP o;refine(p' l C (B.mono g) k).then fun p a1 E i q r t=>M t.bool_inv <|wpAny_truthy_bool (test_last (((a9 _ R).1 a2 o p E q ((L.mono f).mono (g.trans i)) ((j.mono f).mono (g.trans i))).then fun ar as au G a4 a5 a6=> ?_))
   exact(p' a3 a4 (k.mono (i.trans G)) a6).then fun ax b5 b6 ay az b0 b1=>qW ai b1 fun tk=>⟨rfl,ax,(((f.trans g).trans i).trans G).trans ay,az.tok,(((v.trans D).trans r).trans a5).trans b0⟩
theorem yg{i:Type}{o:aG aU}{f g:aG i}{z:i}(h:(match o with
  |some aF=>f|some aI=>g| .none=> .none)=O z):(o=O aF∧f=O z)∨(o=O aI∧g=O z):=by
 cases o with
 |none=>exact nn h
 |some b=>cases b with
  |false=>exact .inr ⟨rfl,h⟩|true=>exact .inl ⟨rfl,h⟩
theorem Ji(hd:PE w A c m mu sc tb σ P d)(ha:PE w A c m mu sc tb σ P a)(hb:PE w A c m mu sc tb σ P b):PE w A c m mu sc tb σ P (.ja d a b):=fun ex h=>BU h fun t' a' b' pos h=>by
 refine xa (aY h) fun h h3=>xa (aY h) fun h1 h2=> ?_
 constructor
 ·intro z hz K s F L Mi;rcases yg hz with⟨e,hz⟩ |⟨e,hz⟩
  ·exact IfExp_ (((hd _ h1).2 aF e).then F L Mi fun K1 s1 k1 F1 b1=>dE.lift k1 b1 ((ha _ h2).1 z hz K1 s1 F1 (L.mono k1) (Mi.mono k1)))
  ·exact IfExp_ (((hd _ h1).2 aI e).then F L Mi fun K1 s1 k1 F1 b1=>dE.lift k1 b1 ((hb _ h3).1 z hz K1 s1 F1 (L.mono k1) (Mi.mono k1)))
 ·intro bb Uw K s whole hw F L Mi;refine aQ (dP Uw) fun z hz e4=> ?_;rcases yg hz with⟨e,hz⟩ |⟨e,hz⟩
  ·exact isTrue_IfExp (((hd _ h1).2 aF e).then F L Mi fun K1 s1 k1 F1 b1=>((ha _ h2).2 bb (by refine M hz ?_;exact e4)).then F1 (L.mono k1) (Mi.mono k1) fun K2 s2 k2 F2 b2=>⟨rfl,K2,k1.trans k2,F2,b1.trans b2⟩)
  ·exact isTrue_IfExp (((hd _ h1).2 aI e).then F L Mi fun K1 s1 k1 F1 b1=>((hb _ h3).2 bb (by refine M hz ?_;exact e4)).then F1 (L.mono k1) (Mi.mono k1) fun K2 s2 k2 F2 b2=>⟨rfl,K2,k1.trans k2,F2,b1.trans b2⟩)
theorem Jj(o:PE w A c m mu sc tb σ P a)(p:PE w A c m mu sc tb σ P b):PE w A c m mu sc tb σ P (.sub a b):=fun R h=>qb h fun v S U h=>by obtain⟨q,r⟩:=aY h;refine .plain (fun z t=> ?_) (fun J=>rfl);refine cS (nH t) fun x y u B j=> ?_;intro K s F L i;refine wpAny_bind (((o _ q).1 x u K s F L i).then fun C W D f E G k=>wpAny_bind (ii (((p _ r).1 y B C D E (L.mono f) (i.mono f)).then fun X Y a0 g l H I=>wpAny_bind (jg ?_))));exact iN (Um j l (i.mono (f.trans g)) (k.mono g)) fun T id N Q=>IW N Q (dE.lift (f.trans g) (G.trans H) (IC j l (i.mono (f.trans g)) (k.mono g) I))
theorem Jk{o:aG Expr}(g:PE w A c m mu sc tb σ P a)(h:(o.rec (B1 a) fun x=>bC sc tb a x:aU)=aF){y:PV}(f:ev P σ a=O y):Ev w A c tb m mu σ (evalPart o c.env) y:=by
 cases o with
 |some x=>exact(g x h).1 y f
 |none=>
  cases a with
  |none=>obtain rfl:PV.none=y:=cA f;exact fun K s F L i=>wpAny_pure (fS F .none)
  | _=>exact absurd h cL
theorem Jl(r:PE w A c m mu sc tb σ P a)(t:PE w A c m mu sc tb σ P b)(u:PE w A c m mu sc tb σ P d):PE w A c m mu sc tb σ P (.dD a b d):=fun a8 h=>qb h fun v l y h=>Ug (C:=fun l=>jr w A c tb m mu σ (.Subscript v l y) (ev P σ (.dD a b d))) h fun lo a9 st a' h=>by
 refine xa (aY h) fun h B=>xa (aY h) fun h C=>xa (aY h) fun h D=> ?_;obtain rfl:=Option.isNone_iff_eq_none.mp h;refine .plain (fun z j=> ?_) (fun J=>rfl);obtain⟨x,E,j⟩:=dP j;refine cS (nH j) fun aa ab G H o=> ?_;intro K s F L k;refine wpAny_bind (((r _ D).1 x E K s F L k).then fun I ae N f Q R p=>wpAny_bind (ii (wpAny_Slice ?_)));refine(Jk t C G I N Q (L.mono f) (k.mono f)).then fun S U W g X Y a0=>(Jk u B H S W X (L.mono (f.trans g)) (k.mono (f.trans g))).then fun af a1 a2 i a3 a4 a5=>wpAny_pure (wpAny_bind (jg ?_))
 have q:=a3.push (o:={cls:= .type "slice",data:= .fields #[U,a1,.none]}) (tk:=a2.toks);exact iN (Un o q (p.mono (g.trans i))) fun T id a6 a7=>IW a6 a7 (dE.lift ((f.trans g).trans i) (((R.trans Y).trans a4).trans (.of_keeps ky)) (T5 o q (p.mono (g.trans i)) (a0.mono i) a5 (fP _ V)))
theorem Jm(j:mv w A c m mu sc tb σ P es):PE w A c m mu sc tb σ P (.lst es):=fun x h=>x9 h fun y B h=> .plain (fun z k=>by refine aQ (dP k) fun g l f=> ?_;obtain⟨⟨o,p⟩,f⟩:=iZ f;obtain rfl:=cA f;exact fun K s F L q=>GI ((j _ h g l).then F L q fun C D E r t u i=>dE.lift r u (I2 (xs:=g) t (by refine M i.length ?_;exact o) fun G v e=> .lst e V rfl (i.plain p |>.mono v)))) fun J=>rfl
theorem Jn(j:mv w A c m mu sc tb σ P es):PE w A c m mu sc tb σ P (.tup es):=fun y h=>sO h fun B k C h=> .plain (fun z l=>by refine aQ (dP l) fun g o f=> ?_;obtain⟨⟨p,q⟩,f⟩:=iZ f;obtain rfl:=cA f;exact fun K s F L r=>Tuple_ ((j _ h g o).then F L r fun D E G t u v i=>dE.lift t v (I2 (xs:=g) u (by refine M i.length ?_;exact p) fun H x e=> .tup e V rfl (i.plain q |>.mono x)))) fun J=>rfl
theorem Jo{f:aD (Str×Z)}:PE w A c m mu sc tb σ P (.gA f):=fun o h=>BV h fun p q r h=> .plain (fun z i=>by refine xa (aY h) fun h j=>xa (aY h) fun h g=>xa (aY h) fun k l=> ?_;obtain rfl:PV.gA f=z:=cA i;exact fun K s F L t=>Uu k (jq l) (by rw[no] at g;exact xo.mp g) (jq j) F) fun J=>rfl
theorem Jp(Y:Hyp w A c sc tb P n){f:Str}(r:mv w A c m mu sc tb σ P es):PE w A c m mu sc tb σ P (.call f es):=fun a3 h=>jF h fun x a4 args a5 h=>by refine xa (aY h) fun h i=>xa (aY h) fun h j=>xa (aY h) fun h s=> ?_;obtain rfl:=q0 h;have i:=jq i;refine .plain (fun z t=> ?_) (fun J=>rfl);refine aQ (dP t) fun u v k=>xa (iZ k) fun p k=> ?_;obtain⟨a,o,fd,y,B,C,D⟩:=Y.S.call _ _ _ k;intro K a6 F L E;refine wpAny_Call_NameR (sT Y.H s F y ?_);refine AN (o:=o) (fd:=fd) (iE (qf j i) (mr j) ((r _ j u v).then F L E fun G H I N g Q R=>⟨⟨g.keep _ _ (g.le _ _ (g.low _ _ B)),C⟩,?_⟩));refine wpAny_mono (D A G I H Y.hh Y.hd Y.hu (fun b o e=>g.le _ _ (g.low _ _ e)) g.keep g.base g.gens.bare g.dO g.tabs (R.plain p)) (fun a7 a8 ⟨S,l,T,U,W,X,a0,a1,a2⟩=> ?_) (fun J J x=>x.elim);have q:=g.called l T U W a0 a1 a2;exact⟨S,N.trans l,q.1,Q.trans q.2,X.up _⟩
theorem Ux:∀f∈(["len","chr","ord","str","min","divmod"] :aD eA),f∈(["len","chr","ord","str","min","divmod","list","range","reversed"] :aD eA)∧xd (aH f)=O (qa f)∧aH f≠"__name__":=by simp only[jh];exact⟨⟨by decide,by decide+kernel,by decide+kernel⟩,⟨by decide,by decide+kernel,by decide+kernel⟩,⟨by decide,by decide+kernel,by decide+kernel⟩,⟨by decide,by decide+kernel,by decide+kernel⟩,⟨by decide,by decide+kernel,by decide+kernel⟩,⟨by decide,by decide+kernel,by decide+kernel⟩,fun J h=>(cO h).elim⟩
theorem Jq(Y:Hyp w A c sc tb P n){f:eA}(r:mv w A c m mu sc tb σ P es):PE w A c m mu sc tb σ P (.bi f es):=fun N h=>jF h fun x Q args t h=>by
 refine xa (aY h) fun h i=>xa (aY h) fun h u=>xa (aY h) fun h g=>xa (aY h) fun h v=> ?_;obtain rfl:=q0 h;rw[no] at i;have i:=xo.mp i;refine .plain (fun z y=> ?_) (fun J=>rfl);refine aQ (dP y) fun B C D=> ?_;intro K s F L l;refine iD (Ux f (List.contains_iff_mem.mp u)) fun k E G=>wpAny_Call_NameR (qd Y.H v F (Y.S.bi f k) E G ?_)
 have j:aN (aO pg w) A (sj (jB t (dF args c.env))) (fun o p=>aN (aO pg w) A (call (qa f) o) (oS w c K m mu s.heap z) (fun J J=>bO) p) (fun J J=>bO) s:=
  (r _ g B C).then F L l fun R o p q H k I=>dE.lift q k (Ub D H (l.mono q) I Y.hh)
 unfold qa at j ⊢
 by_cases e:f="str"
 ·rw[aR e] at j ⊢;exact pH (mr g) (iE (qf g i) (mr g) j)
 ·rw[aP e] at j ⊢;exact nt (mr g) (iE (qf g i) (mr g) j)
theorem Jr(Y:Hyp w A c sc tb P n)(q:mv w A c m mu sc tb σ P es):PE w A c m mu sc tb σ P (.lO es):=fun G h=>jF h fun x f l g h=>jU (C:=fun l=>jr w A c tb m mu σ (.Call (.Name x f) l [] g) (ev P σ (.lO es))) h fun e h=>jF (C:=fun e=>jr w A c tb m mu σ (.Call (.Name x f) [e] [] g) (ev P σ (.lO es))) h fun y H args I h=>by
 refine xa (aY h) fun h i=>xa (aY h) fun h j=>xa (aY h) fun h r=>xa (aY h) fun h t=> ?_;refine xa (aY h) fun u v=> ?_;rw[no] at i;refine .plain (fun z B=> ?_) (fun J=>rfl);refine aQ (dP B) fun C D k=> ?_
 have o:∃p,z= .lst p:=by rcases I3 k with⟨_,_,_,_,e⟩ |⟨_,_,_,_,_,e⟩ <;>exact⟨_,e⟩
 (refine xe o ?_;clear o;rintro p rfl);exact fun K s F L E=>(I4 Y u v t r j (xo.mp i) (q _ j C D) k F L E).frozen
theorem Js{x z:PV}(h:(match x with
  | .str s=>aZ (s.length≤1000) (O (.lst (s.cps.toList.map fun c=> .str ⟨#[c]⟩)))| _=> .none)=O z):∃y,x= .str y∧y.length≤1000∧z= .lst (y.cps.toList.map fun c=> .str ⟨#[c]⟩):=by
 cases x with
 |str y=>(refine xa (iZ h) ?_;rintro p h);exact⟨y,rfl,p,(cA h).symm⟩| _=>exact nn h
theorem Jt(Y:Hyp w A c sc tb P n)(g:PE w A c m mu sc tb σ P a):PE w A c m mu sc tb σ P (.oM a):=fun v h=>jF h fun x i l j h=>jU (C:=fun l=>jr w A c tb m mu σ (.Call (.Name x i) l [] j) (ev P σ (.oM a))) h fun e h=>by refine xa (aY h) fun h f=>xa (aY h) fun k o=> .plain (fun z q=> ?_) (fun J=>rfl);refine aQ (dP q) fun y r t=> ?_;(refine dB (Js t) ?_;rintro x rfl p rfl);exact fun K s F L u=>(I5 Y k o f ((g _ f).1 _ r) p F L u).frozen
theorem Uy{ex:Expr}{x:Str}{env:gI}(h:bC sc tb a ex=aF):AO ex x env (eval ex env)=eval ex env:=by
 cases a with
 |nm=>exact jd h fun J J J=>rfl|gk=>exact jd h fun J J J=>rfl|int=>exact kV h fun J J J J=>rfl|str=>exact kV h fun J J J J=>rfl|bool=>exact kV h fun J J J J=>rfl|none=>exact kV h fun J J J J=>rfl|bin=>exact BP h fun J J J J J=>rfl|un=>exact BQ h fun J J J J=>rfl|cmp=>exact sN h fun J J J J J=>rfl|oL=>exact sN h fun J J J J J=>rfl|bo=>exact BS h fun J J J J=>rfl|ja=>exact BU h fun J J J J J=>rfl|sub=>exact qb h fun J J J J=>rfl|dD=>exact qb h fun J J J J=>rfl|lst=>exact x9 h fun J J J=>rfl|tup=>exact sO h fun J J J J=>rfl|gA=>exact BV h fun J J J J=>rfl
 |call=>
  refine jF h fun x p args q h=> ?_;have h:=jq (aY h).2;cases args with
  |nil=>exact absurd rfl h|cons=>rfl
 |bi=>
  refine jF h fun x p args q h=> ?_;have h:=(aY h).2;cases args with
  |nil=>exact absurd h cL|cons=>rfl
 |lO=>exact jF h fun y p args q h=>jU (C:=fun args=>AO (.Call (.Name y p) args [] q) x env (eval (.Call (.Name y p) args [] q) env)=eval (.Call (.Name y p) args [] q) env) h fun J J=>rfl|oM=>exact jF h fun y p args q h=>jU (C:=fun args=>AO (.Call (.Name y p) args [] q) x env (eval (.Call (.Name y p) args [] q) env)=eval (.Call (.Name y p) args [] q) env) h fun J J=>rfl|dG=>exact u3 h fun g xs B8 p h=>BX (C:=fun g=>AO (.Call g xs B8 p) x env (eval (.Call g xs B8 p) env)=eval (.Call g xs B8 p) env) (aY h).2 fun J J J J=>rfl|comp=>exact absurd h cL
theorem Ju{f:eA}(I:PE w A c m mu sc tb σ P a)(N:mv w A c m mu sc tb σ P es):PE w A c m mu sc tb σ P (.dG f a es):=fun ae h=>u3 h fun g args af i h=>by
 refine xa (aY h) fun Q h=> ?_;obtain rfl:=kz Q;refine BX (C:=fun g=>jr w A c tb m mu σ (.Call g args [] i) (ev P σ (.dG f a es))) h fun o name ah h=>xa (aY h) fun h k=>xa (aY h) fun h j=>xa (aY h) fun h r=> ?_;refine xa (aY h) fun R S=> ?_;obtain rfl:=q0 R;have k:=jq k;refine .plain (fun z l=> ?_) (fun J=>rfl);refine aQ (dP l) fun x U l=>aQ (dP l) fun W X Y=> ?_;intro K s F L t;refine sn (Uy r) ?_ S (((I _ r).1 x U K s F L t).then fun ai a0 u q a1 a2 v=> ?_)
 ·refine M (lookupS (c:=c) j) ?_;simp only[Q7,gZ,lG];exact⟨rfl,bL k (by decide)⟩
 ·have y:=mr (pos:=i) (env:=c.env) j;refine iN (IG (w:=w) (A:=A) (c:=c) (m:=m) (mu:=mu) Y) fun T id B a3=> ?_;(refine dW (B) ?_;try clear B;rintro a4 a5 a6 a7);refine xa (a7 u v) fun a8 a9=>⟨T,id,a4,a5,a6,a8,a9,?_⟩
  have C:aN (aO pg w) A (sj (jB i (dF args c.env))) (fun D E=>aN (aO pg w) A (call (.builtin id) (a0::D)) (oS w c K m mu s.heap z) (fun J J=>bO) E) (fun J J=>bO) u:=
   (N _ j W X).then a1 (L.mono q) (t.mono q) fun aj D E G a' aa ab=>dE.lift (q.trans G) (a2.trans aa) (a3 a' (v.mono G) ab)
  cases args with
  |nil=>exact nt V (GK (by intro H p hΓ;have:=C H p hΓ;have e:jB i (dF [] c.env)=[] :=rfl;rw[e,sj,Sem.wp_pure'] at this;exact this H p hΓ))
  |cons ak al=>exact nt y (iE (qf j (aeP _ _)) y C)
theorem Jv:mv w A c m mu sc tb σ P .nil:=fun i h f g=>by obtain rfl:=ye h;obtain rfl:[] =f:=cA g;exact fun j K s F L k=>jC ⟨K,.refl K,F,.refl,.nil⟩
theorem Jw(o:PE w A c m mu sc tb σ P a)(p:mv w A c m mu sc tb σ P es):mv w A c m mu sc tb σ P (.cons a es):=fun i h=>u4 (C:=fun i=>∀f,gB P σ (.cons a es)=O f→q9 w A c tb m mu σ i f) h fun x q j r f t=>by refine cS (nH t) fun y u v z B=> ?_;obtain rfl:=cA B;intro Q K s F L k;exact iC (((o _ j).1 y v K s F L k).then fun R S T g C D E=>(p _ r u z).then C (L.mono g) (k.mono g) fun G U W l H I N=>⟨G,g.trans l,H,D.trans I,.cons (E.mono l) N⟩) (i0 j q c.env)
theorem Uz{f:BoolOp}:oR P σ f (.cons a .nil)=ev P σ a:=by show(ev P σ a).bind O=_;cases ev P σ a<;>rfl
theorem Jx(o:PE w A c m mu sc tb σ P a)(Y:rb w A c m mu sc tb σ P es):rb w A c m mu sc tb σ P (.cons a es):=fun l D U a0=>u4 (C:=fun U=>jr w A c tb m mu σ (.BoolOp l U D) (oR P σ l (.cons a es))) a0 fun x v p N=>by
 cases es with
 |nil=>
  obtain rfl:=ye N;refine M Uz <|⟨fun z B K s F L j=>BoolOp_one ((o _ p).1 z B K s F L j),fun b E K s a1 a2 F L j=> ?_⟩
  cases l with
  |And=>
   refine isTrue_and (((o _ p).2 b E).then F L j fun i q f g h=> ?_);cases b with
   |true=>exact isTrue_and_nil ⟨rfl,i,f,g,h⟩|false=>exact⟨rfl,i,f,g,h⟩
  |Or=>
   refine isTrue_or (((o _ p).2 b E).then F L j fun i q f g h=> ?_);cases b with
   |true=>exact⟨rfl,i,f,g,h⟩|false=>exact isTrue_or_nil ⟨rfl,i,f,g,h⟩
 |cons G r=>
  have t:=Y l D v N;refine u4 (C:=fun v=>jr w A c tb m mu σ (.BoolOp l v D) (oR P σ l (.cons G r))→jr w A c tb m mu σ (.BoolOp l (x::v) D) (oR P σ l (.cons a (.cons G r)))) N (fun a5 v J J t=> ?_) t
  constructor
  ·intro z B K s F L j;refine cS (I1 B) fun y b H u k=> ?_;cases l with
   |And=>
    refine BoolOp_and (((o _ p).1 y H K s F L j).then fun i a3 q f g h C=>qW u C fun tk=> ?_);cases b with
    |true=>exact dE.lift (s':={q with toks:=tk}) f h (t.1 z k i _ g.tok (L.mono f) (j.mono f))|false=>obtain rfl:y=z:=cA k;exact⟨i,f,g.tok,h,C⟩
   |Or=>
    refine BoolOp_or (((o _ p).1 y H K s F L j).then fun i a3 q f g h C=>qW u C fun tk=> ?_);cases b with
    |true=>obtain rfl:y=z:=cA k;exact⟨i,f,g.tok,h,C⟩
    |false=>exact dE.lift (s':={q with toks:=tk}) f h (t.1 z k i _ g.tok (L.mono f) (j.mono f))
  ·intro W E K s a1 a2 F L j;refine aQ (dP E) fun z B I=>cS (I1 B) fun y b H u k=> ?_;have X:(ev P σ a).bind truth=O b:=by refine M H ?_;exact u
   cases l with
   |And=>
    refine isTrue_and (((o _ p).2 b X).then F L j fun i q f g h=> ?_);cases b with
    |true=>exact(t.2 W (by have k:oR P σ _ (.cons G r)=O z:=k;refine M k ?_;exact I)).then g (L.mono f) (j.mono f) fun Q a4 R S T=>⟨rfl,Q,f.trans R,S,h.trans T⟩|false=>obtain rfl:y=z:=cA k;exact⟨cA (u.symm.trans I),i,f,g,h⟩
   |Or=>
    refine isTrue_or (((o _ p).2 b X).then F L j fun i q f g h=> ?_);cases b with
    |true=>obtain rfl:y=z:=cA k;exact⟨cA (u.symm.trans I),i,f,g,h⟩
    |false=>exact(t.2 W (by have k:oR P σ _ (.cons G r)=O z:=k;refine M k ?_;exact I)).then g (L.mono f) (j.mono f) fun Q a4 R S T=>⟨rfl,Q,f.trans R,S,h.trans T⟩
end
theorem Jy{o:BoolOp}{es:Es}(f:rb w A c m mu sc tb σ P es):PE w A c m mu sc tb σ P (.bo o es):=fun l h=>BS h fun g i j h=>by obtain⟨h,k⟩:=aY h;obtain rfl:=jq h;exact f g j i k
theorem Jz:rb w A c m mu sc tb σ P .nil:=fun i j k h=>⟨fun x f=>nn f,fun b g=>nn g⟩
theorem JA(Y:Hyp w A c sc tb P n):(∀e,PE w A c m mu sc tb σ P e)∧∀es,mv w A c m mu sc tb σ P es∧rb w A c m mu sc tb σ P es:=
 ⟨fun e=>E.rec (motive_1:=PE w A c m mu sc tb σ P) (motive_2:=fun es=>mv w A c m mu sc tb σ P es∧rb w A c m mu sc tb σ P es) (fun J=>I6 Y) (fun J=>I7 Y) (fun J=>I8) (fun J=>I9) (fun J=>Ja) Jb (fun J J J f i=>Jd Y f i) (fun J J f=>Je f) (fun J J J f i=>Jf f i) (fun J J J J J f i j=>Jh f i j) (fun J J g=>Jy g.2) (fun J J J j f i=>Ji j f i) (fun J J f i=>Jj f i) (fun J J J f i j=>Jl f i j) (fun J g=>Jm g.1) (fun J g=>Jn g.1) (fun J=>Jo) (fun J J g=>Jp Y g.1) (fun J J g=>Jq Y g.1) (fun J g=>Jr Y g.1) (fun J f=>Jt Y f) (fun J J J f g=>Ju f g.1) (fun J J J J J J J J h=>absurd h cL) ⟨Jv,Jz⟩ (fun J J f g=>⟨Jw f g.1,Jx f g.2⟩) e,fun es=>Es.rec (motive_1:=PE w A c m mu sc tb σ P) (motive_2:=fun es=>mv w A c m mu sc tb σ P es∧rb w A c m mu sc tb σ P es) (fun J=>I6 Y) (fun J=>I7 Y) (fun J=>I8) (fun J=>I9) (fun J=>Ja) Jb (fun J J J f i=>Jd Y f i) (fun J J f=>Je f) (fun J J J f i=>Jf f i) (fun J J J J J f i j=>Jh f i j) (fun J J g=>Jy g.2) (fun J J J j f i=>Ji j f i) (fun J J f i=>Jj f i) (fun J J J f i j=>Jl f i j) (fun J g=>Jm g.1) (fun J g=>Jn g.1) (fun J=>Jo) (fun J J g=>Jp Y g.1) (fun J J g=>Jq Y g.1) (fun J g=>Jr Y g.1) (fun J f=>Jt Y f) (fun J J J f g=>Ju f g.1) (fun J J J J J J J J h=>absurd h cL) ⟨Jv,Jz⟩ (fun J J f g=>⟨Jw f g.1,Jx f g.2⟩) es⟩
theorem cY(Y:Hyp w A c sc tb P n)(e:E)(f:Expr)(h:bC sc tb e f=aF):jr w A c tb m mu σ f (ev P σ e):=(JA Y).1 e f h
theorem u7(Y:Hyp w A c sc tb P n)(es:Es)(f:aD Expr)(h:eK sc tb es f=aF):∀g,gB P σ es=O g→q9 w A c tb m mu σ f g:=((JA Y).2 es).1 f h
end
end
section
open Classical
noncomputable def Sg.put(a:Sg)(i:aA)(p:PV):Sg:={a with loc:=a.loc.set i (O p)}
noncomputable def sU:aG PV→aG PV
 |some .bV=>aB|p=>p
noncomputable def Sg.fresh(a:Sg)(i:aA)(b:aD PV):Sg:={loc:=(a.loc.map sU).set i (O .bV),mu:=O b,pl:=aF}
noncomputable def nI(a:aD PV):aG PV→aG PV
 |some .bV=>O (.lst a)|p=>p
noncomputable def Sg.freeze(a:Sg)(b:aD PV):Sg:={loc:=a.loc.map (nI b),mu:=aB,pl:=aF}
noncomputable def jG(a:Sg)(i:aA):Bool:=match a.loc[i]? with
 |some (O .bV)=>aF| _=>aI
noncomputable def putAll:Sg→aD aA→aD PV→Sg
 |σ,i::a,x::b=>putAll (σ.put i x) a b|σ,_,_=>σ
noncomputable def JB(a b:Z):i7→aG PV
 | .Add=>O (.int (a+b))| .Sub=>O (.int (a - b))| .FloorDiv=>aZ (b≠0∧b.natAbs.log2 < 9000) (O (.int (a.fdiv b)))| .LShift=>aZ (0≤b∧(gW a:Z)+b≤2^27) (O (.int (a*2^b.toNat)))| .RShift=>aZ (0≤b) (O (.int (a.fdiv (2^b.toNat))))| _=> .none
noncomputable def jV(o:i7)(x y:PV):aG PV:=match x with
 | .int a=>match y with
  | .int b=>JB a b o| _=> .none
 | .str a=>match y with
  | .str b=>match o with
   | .Add=>aZ ((a++b).length≤eF) (O (.str (a++b)))| _=> .none
  | _=> .none
 | _=> .none
noncomputable def gM(c:Sg→aG (Fl×Sg))(i:aA):aD PV→Sg→aG (Fl×Sg)
 |[],b=>O (.next,b)
 |x::r,b=>match c (b.put i x) with
  |some (.next,a)=>gM c i r a|some (.brk,a)=>O (.next,a)|some (.ret v,a)=>O (.ret v,a)| .none=> .none
noncomputable def kA(c:Sg→aG aU)(d:Sg→aG (Fl×Sg)):aA→Sg→aG (Fl×Sg)
 |0,_=> .none
 |n+1,b=>match c b with
  |some aF=>(match d b with
   |some (.next,a)=>kA c d n a|some (.brk,a)=>O (.next,a)|some (.ret v,a)=>O (.ret v,a)| .none=> .none)
  |some aI=>O (.next,b)| .none=> .none
noncomputable def js:PV→aG PV
 | .bV=> .none|x=>O x
noncomputable def u8(b:Sg)(k:Z)(x:PV):aG (Fl×Sg):=b.mu.bind fun a=>aZ (0≤k∧k < a.length∧a.length≤1000000) (O (.next,{b with mu:=O (a.set k.toNat x),pl:=aI}))
noncomputable def u9(e:E):Bool:=e.ctorIdx==(E.lst .nil).ctorIdx ||e.ctorIdx==(E.lO .nil).ctorIdx ||e.ctorIdx==(E.oM .none).ctorIdx
mutual
noncomputable def ex(P:bT):S→Sg→aG (Fl×Sg)
 | .asg i e,c=>(ev P c e).bind fun x=>(js x).map fun x=>(.next,c.put i x)
 | .mq i e,c=>if u9 e then(match ev P c e with
  |some (.lst d)=>O (.next,c.fresh i d)| _=> .none) else .none
 | .jm h e,c=>match ev P c e with
  |some (.tup d)=>if d.length=h.length then O (.next,putAll c h d) else .none| _=> .none
 | .mU i j e f,c=>(ev P c e).bind fun x=>(ev P c f).bind fun y=>(js x).bind fun x=>(js y).map fun y=>(.next,(c.put j y).put i x)| .uR i j e,c=>(ev P c e).bind fun x=>(js x).map fun x=>(.next,(c.put i x).put j x)
 | .aug i o e,c=>match c.loc[i]? with
  |some (O p)=>(ev P c e).bind fun y=>(jV o p y).map fun z=>(.next,c.put i z)| _=> .none
 | .oN i g e,c=>(ev P c e).bind fun x=>(js x).bind fun x=>if jG c i then(match ev P c g with
  |some (.int k)=>u8 c k x| _=> .none) else .none
 | .sJ i g o e,c=>if jG c i then(match ev P c g with
  |some (.int k)=>(jn c.mu .bV (.int k)).bind fun p=>(ev P c e).bind fun y=>(jV o p y).bind fun z=>u8 c k z| _=> .none) else .none
 | .app i e,c=>if jG c i && c.pl then(ev P c e).bind fun x=>(js x).bind fun x=>c.mu.bind fun d=>aZ (d.length≤1000000) (O (.next,{c with mu:=O (d++[x])})) else .none
 | .ins i e1 e2,c=>if jG c i && c.pl then(ev P c e1).bind fun k=>(ev P c e2).bind fun x=>(js x).bind fun x=>c.mu.bind fun d=>(match k with
  | .int k=>aZ (0≤k∧k≤1000∧d.length≤1000) (O (.next,{c with mu:=O (d.take k.toNat++x::d.drop k.toNat)}))| _=> .none) else .none
 | .uS i,c=>if jG c i && c.pl then c.mu.bind fun d=>aZ (d.length≤1000000) (O (.next,{c with mu:=O d.reverse})) else .none| .kS i,c=>if jG c i then c.mu.map fun d=>(.next,c.freeze d) else .none
 | .ite t a b,c=>match(ev P c t).bind truth with
  |some aF=>bE P a c|some aI=>bE P b c| .none=> .none
 | .oO n t b,c=>kA (fun c=>(ev P c t).bind truth) (bE P b) n c
 | .forR i e b,c=>match ev P c e with
  |some (.int N)=>aZ (0≤N∧N≤1000000) (gM (bE P b) i ((mH N.toNat).map fun k=> .int (k:aA)) c)| _=> .none
 | .forL i l e b,c=>match ev P c e with
  |some (.lst d)=>aZ (d.length≤1000000) (gM (bE P b) i (if l then d.reverse else d) c)| _=> .none
 | .ret e,c=>(ev P c e).bind fun x=>match x with
  | .bV=>c.mu.map fun d=>(.ret (.lst d),c)|x=>O (.ret x,c)
 | .brk,c=>O (.brk,c)| .bad,_=> .none
termination_by structural s=>s
noncomputable def bE(P:bT):B→Sg→aG (Fl×Sg)
 | .nil,c=>O (.next,c)
 | .cons s b,c=>match ex P s c with
  |some (.next,a)=>bE P b a|some (.brk,a)=>O (.brk,a)|some (.ret v,a)=>O (.ret v,a)| .none=> .none
termination_by structural b=>b
end
noncomputable def okN(a:Tb)(i:aA)(x:Str):Bool:=a[i]? ==O (x,aF)
noncomputable def mY(b:Tb):aD aA→aD Expr→aU
 |[],a=>a.isEmpty|i::c,a=>a.rec aI fun t a J=>jT t fun x J=>okN b i x && mY b c a
noncomputable def JC(e:Expr):Bool:=e.ctorIdx==25
noncomputable def rd(st:bR)(f:(aD Expr)→Expr→bG→aU):Bool:=if h:st.ctorIdx=5 then GC st h f else aI
@[elab_as_elim] theorem sV{st:bR}{f:(aD Expr)→Expr→bG→aU}{C:bR→Prop}(h:rd st f=aF)(c:∀a v p,f a v p=aF→C (.Assign a v p)):C st:=
 xe (dite_true h) fun b h=>GC (motive_2:=fun st=>∀b,GC st b f=aF→C st) st b (fun a v p J h=>c a v p h) b h
noncomputable def B9(st:bR)(f:Expr→i7→Expr→bG→aU):Bool:=if h:st.ctorIdx=7 then Rq st h f else aI
@[elab_as_elim] theorem JD{st:bR}{f:Expr→i7→Expr→bG→aU}{C:bR→Prop}(h:B9 st f=aF)(b:∀t o v p,f t o v p=aF→C (.AugAssign t o v p)):C st:=
 xe (dite_true h) fun a h=>Rq (motive_2:=fun st=>∀a,Rq st a f=aF→C st) st a (fun t o v p J h=>b t o v p h) a h
noncomputable def yh(st:bR)(f:Expr→bG→aU):Bool:=if h:st.ctorIdx=24 then Rr st h f else aI
@[elab_as_elim] theorem B'{st:bR}{f:Expr→bG→aU}{C:bR→Prop}(h:yh st f=aF)(b:∀v p,f v p=aF→C (.Expr v p)):C st:=
 xe (dite_true h) fun a h=>Rr (motive_2:=fun st=>∀a,Rr st a f=aF→C st) st a (fun v p J h=>b v p h) a h
noncomputable def JE(st:bR)(f:Expr→(aD bR)→(aD bR)→bG→aU):Bool:=if h:st.ctorIdx=12 then Rs st h f else aI
@[elab_as_elim] theorem UA{st:bR}{f:Expr→(aD bR)→(aD bR)→bG→aU}{C:bR→Prop}(h:JE st f=aF)(d:∀t a b p,f t a b p=aF→C (.If t a b p)):C st:=
 xe (dite_true h) fun c h=>Rs (motive_2:=fun st=>∀c,Rs st c f=aF→C st) st c (fun t a b p J h=>d t a b p h) c h
noncomputable def JF(st:bR)(f:Expr→(aD bR)→(aD bR)→bG→aU):Bool:=if h:st.ctorIdx=11 then Rt st h f else aI
@[elab_as_elim] theorem UB{st:bR}{f:Expr→(aD bR)→(aD bR)→bG→aU}{C:bR→Prop}(h:JF st f=aF)(d:∀t a b p,f t a b p=aF→C (.While t a b p)):C st:=
 xe (dite_true h) fun c h=>Rt (motive_2:=fun st=>∀c,Rt st c f=aF→C st) st c (fun t a b p J h=>d t a b p h) c h
noncomputable def Ca(st:bR)(f:Expr→Expr→(aD bR)→(aD bR)→bG→aU):Bool:=if h:st.ctorIdx=9 then Ru st h f else aI
@[elab_as_elim] theorem JG{st:bR}{f:Expr→Expr→(aD bR)→(aD bR)→bG→aU}{C:bR→Prop}(h:Ca st f=aF)(d:∀t i a b p,f t i a b p=aF→C (.For t i a b p)):C st:=
 xe (dite_true h) fun c h=>Ru (motive_2:=fun st=>∀c,Ru st c f=aF→C st) st c (fun t i a b p J h=>d t i a b p h) c h
noncomputable def JH(st:bR)(f:(aG Expr)→bG→aU):Bool:=if h:st.ctorIdx=3 then Rv st h f else aI
@[elab_as_elim] theorem UC{st:bR}{f:(aG Expr)→bG→aU}{C:bR→Prop}(h:JH st f=aF)(b:∀v p,f v p=aF→C (.Return v p)):C st:=
 xe (dite_true h) fun a h=>Rv (motive_2:=fun st=>∀a,Rv st a f=aF→C st) st a (fun v p J h=>b v p h) a h
noncomputable def JI(st:bR)(f:bG→aU):Bool:=if h:st.ctorIdx=26 then Rw st h f else aI
@[elab_as_elim] theorem UD{st:bR}{f:bG→aU}{C:bR→Prop}(h:JI st f=aF)(b:∀p,f p=aF→C (.Break p)):C st:=
 xe (dite_true h) fun a h=>Rw (motive_2:=fun st=>∀a,Rw st a f=aF→C st) st a (fun p J h=>b p h) a h
noncomputable def yi(a:Tb)(i:aA)(b:eA)(e:Expr)(f:aD Expr→aU):Bool:=ya e fun g args c d=>c.isEmpty && BW g fun o name h=>jT o fun x J=>okN a i x && (name==aH b) && (h.endLine==d.line) && f args
@[elab_as_elim] theorem Cb{j:Tb}{i:aA}{k:eA}{e:Expr}{f:aD Expr→aU}{C:Expr→Prop}(h:yi j i k e f=aF)(l:∀x p b args a,okN j i x=aF→(b.endLine==a.line)=aF→f args=aF→C (.Call (.Attribute (.Name x p) (aH k) b) args [] a)):C e:=
 u3 h fun g args q a h=>by refine xa (aY h) fun c d=> ?_;obtain rfl:=kz c;refine BX (C:=fun g=>C (.Call g args [] a)) d fun o name b h=>jd (C:=fun o=>C (.Call (.Attribute o name b) args [] a)) h fun x p h=>xa (aY h) fun h m=>xa (aY h) fun h n=>xa (aY h) fun c d=> ?_;obtain rfl:=q0 d;exact l x p b args a c n m
noncomputable def yj(s:S):Bool:=s.ctorIdx==(S.kS 0).ctorIdx
mutual
noncomputable def j8(g:dN)(d:Tb):S→bR→aU
 | .asg i e,st=>rd st fun h v J=>kW h fun t=>jT t fun x J=>okN d i x && bC g d e v| .mq i e,st=>rd st fun h v J=>kW h fun t=>jT t fun x J=>okN d i x && bC g d e v && u9 e| .jm B e,st=>rd st fun h v J=>kW h fun t=>u0 t fun m J J=>mY d B m && bC g d e v && !JC v
 | .mU i j e f,st=>rd st fun h v J=>kW h fun t=>u0 t fun m J J=>qZ m fun n r=>jT n fun x p=>jT r fun y q=>u0 v fun C J J=>qZ C fun a b=>
   okN d i x && okN d j y && bC g d e a && bC g d f b && !(x==y) && (p.line==q.line) && !(AP 8 a) && !(AQ 8 a)
 | .uR i j e,st=>rd st fun h v J=>qZ h fun n r=>jT n fun x J=>jT r fun y J=>okN d i x && okN d j y && bC g d e v| .aug i o e,st=>B9 st fun t s v J=>jT t fun x J=>okN d i x && decide (s=o) && bC g d e v| .oN i w e,st=>rd st fun h v J=>kW h fun t=>uZ t fun b z J=>jT b fun x J=>okN d i x && bC g d w z && bC g d e v| .sJ i w o e,st=>B9 st fun t s v J=>uZ t fun b z J=>jT b fun x J=>okN d i x && bC g d w z && decide (s=o) && bC g d e v| .app i e,st=>yh st fun c J=>yi d i "append" c fun args=>kW args fun v=>bC g d e v| .ins i e f,st=>yh st fun c J=>yi d i "insert" c fun args=>qZ args fun u v=>bC g d e u && bC g d f v| .uS i,st=>yh st fun c J=>yi d i "reverse" c fun args=>args.isEmpty| .kS _,_=>aI| .ite t a b,st=>JE st fun A D k J=>bC g d t A && dX g d a D && dX g d b k| .oO _ t b,st=>JF st fun A k o J=>o.isEmpty && bC g d t A && dX g d b k| .forR i e b,st=>Ca st fun t l k o J=>o.isEmpty && jT t fun x J=>qc l fun y args=>kW args fun a=>okN d i x && (y==("range":Str)) && jp g y && bC g d e a && dX g d b k| .forL i E e b,st=>Ca st fun t l k o J=>o.isEmpty && jT t fun x J=>okN d i x && dX g d b k && (E.rec (bC g d e l) (qc l fun y args=>kW args fun a=>(y==("reversed":Str)) && jp g y && bC g d e a))| .ret e,st=>JH st fun v J=>B0 v fun v=>bC g d e v| .brk,st=>JI st fun J=>aF| .bad,_=>aF
termination_by structural s=>s
noncomputable def dX(c:dN)(d:Tb):B→aD bR→aU
 | .nil,a=>a.isEmpty| .cons s b,a=>(yj s).rec (a.rec aI fun st r J=>j8 c d s st && dX c d b r) (dX c d b a)
termination_by structural b=>b
end
theorem yk{b:Type}{o:aG (Fl×Sg)}{f g:Sg→aG b}{h:PV→Sg→aG b}{z:b}(e:(match o with
  |some (.next,a)=>f a|some (.brk,a)=>g a|some (.ret v,a)=>h v a| .none=> .none)=O z):(∃a,o=O (.next,a)∧f a=O z)∨(∃a,o=O (.brk,a)∧g a=O z)∨∃v a,o=O (.ret v,a)∧h v a=O z:=by
 cases o with
 |none=>exact nn e
 |some p=>
  obtain⟨c,a⟩:=p;cases c with
  |next=>exact .inl ⟨a,rfl,e⟩|brk=>exact .inr (.inl ⟨a,rfl,e⟩)|ret v=>exact .inr (.inr ⟨v,a,rfl,e⟩)
theorem JJ{b:Type}{o:aG PV}{f:aD PV→aG b}{z:b}(h:(match o with
  |some (.lst a)=>f a| _=> .none)=O z):∃a,o=O (.lst a)∧f a=O z:=by
 cases o with
 |none=>exact nn h
 |some p=>cases p with
  |lst a=>exact⟨a,rfl,h⟩| _=>exact nn h
theorem UE{b:Type}{o:aG PV}{f:aD PV→aG b}{z:b}(h:(match o with
  |some (.tup a)=>f a| _=> .none)=O z):∃a,o=O (.tup a)∧f a=O z:=by
 cases o with
 |none=>exact nn h
 |some p=>cases p with
  |tup a=>exact⟨a,rfl,h⟩| _=>exact nn h
theorem Cc{a:Type}{o:aG PV}{f:Z→aG a}{z:a}(h:(match o with
  |some (.int k)=>f k| _=> .none)=O z):∃k,o=O (.int k)∧f k=O z:=by
 cases o with
 |none=>exact nn h
 |some p=>cases p with
  |int k=>exact⟨k,rfl,h⟩| _=>exact nn h
theorem UF{a:Type}{o:aG (aG PV)}{f:PV→aG a}{z:a}(h:(match o with
  |some (O p)=>f p| _=> .none)=O z):∃p,o=O (O p)∧f p=O z:=by
 cases o with
 |none=>exact nn h
 |some p=>cases p with
  |some p=>exact⟨p,rfl,h⟩|none=>exact nn h
theorem re{a:Type}{b:aU}{o:aG a}{z:a}(h:(if b then o else aB)=O z):b=aF∧o=O z:=by
 cases b with
 |true=>exact⟨rfl,h⟩|false=>exact nn h
end
section
section
variable{K:PK}
noncomputable def Mu.Fl(c:Mu)(d:aU):Prop:=∀a e b,c=O (a,e,b)→d=aF→b=aF
structure Gd(w:aV)(c:Cx)(tb:Tb)(K:PK)(m:Str→aG aJ)(mu:Mu)(s:aM)(σ:Sg):Prop where
 F:Fm c K m mu s
 L:RL w K c.env mu.ad tb m σ.loc
 Mi:Mu.Is w K mu σ.mu
 fl:mu.Fl σ.pl
noncomputable def hH(b c:Mu)(h:bF):Prop:=∀a,c.ad=O a→b.ad=O a∨h.get? a=aB
noncomputable def Cd(w:aV)(c:Cx)(g:Tb)(f:j3)(b:aM)(h:Sg)(a:PK)(d:Str→aG aJ)(e:Mu):Fl→Prop
 | .next=>f= .next∧Gd w c g a d e b h
 | .brk=>f= .brk∧Gd w c g a d e b h| .ret x=>∃v,f= .ret v∧Fm c a d e b∧RV w a aB v x
inductive Out(w:aV)(c:Cx)(tb:Tb)(K:PK)(mu:Mu)(h:bF)(f:j3)(s':aM)(fl:Fl)(σ':Sg):Prop
 |mk (K':PK) (m':Str→aG aJ) (mw:Mu) (k:PK.le K K') (b:KB c mu h s'.heap) (ms:hH mu mw h) (x:Cd w c tb f s' σ' K' m' mw fl):Out w c tb K mu h f s' fl σ'
theorem KB.step(a:KB c d h j)(k:hH d l h)(b:KB c l j m):KB c d h m:=fun x o e f g i=>
 b x o (a x o e f g i) f (fun q=>by
  rcases k x q with z |z
  ·exact g z
  ·replace e:=z▸e;cases e) i
theorem hH.step{g k:aM} {l m} (a:KB c b h g.heap)(n:hH b r h)(s:hH r d g.heap)(f:Fm c l m d k):hH b d h:=fun x q=>by
 rcases s x q with z |z
 ·exact n x z
 ·by_cases i:b.ad=O x
  ·exact .inl i
  ·refine .inr ?_;cases e:h.get? x with
   |none=>rfl
   |some o=>
    have j:x≠c.env.locals∧Off c.T x:=by
     cases d with
     |none=>cases q|some p=>cases q;exact⟨(f.mul p.1 p.2.1 p.2.2 V).2.2.1,f.off (f.mul p.1 p.2.1 p.2.2 V).2.2.2⟩
    replace z:=(a x o e j.1 i j.2)▸z;cases z
theorem hH.refl:hH a a h:=fun J e=> .inl e
theorem Cd.fm(x:Cd w c h f a i b d e g):Fm c b d e a:=by
 cases g with
 |next=>exact x.2.F|brk=>exact x.2.F|ret v=>(refine dB (x) ?_;try clear x;rintro u _ F _);exact F
theorem Out.after{s1 e:aM}(k:PK.le K l)(g:KB c i h s1.heap)(j:hH i m h)(o:Out w c n l m s1.heap f e p q):Out w c n K i h f e p q:=by obtain⟨r,s,t,a,b,d,x⟩:=o;exact .mk r s t (k.trans a) (g.step j b) (hH.step g j d x.fm) x
noncomputable abbrev sW(w:aV)(A:bX)(c:Cx)(a:Tb)(d:Sg)(t:cR j3)(e:Fl)(g:Sg):Prop:=
 ∀(K:PK) (m:Str→aG aJ) (b:Mu) (s:aM),Gd w c a K m b s d→aN (aO pg w) A t (fun f h=>Out w c a K b s.heap f h e g) (fun J J=>bO) s
theorem JK{c:Cx}{e:dN}{a:Tb}{i j:aA}{x y:Str}{k:aU}(H:fD c e a)(f:a[i]? =O (x,aF))(g:a[j]? =O (y,k))(h:i≠j):y≠x:=fun l=>by
 have b:=H.sR;unfold jc at b;simp only[gZ,lG] at b;have d:(a.map (·.1))[i]? =O y:=by refine M ij (M f (M l ?_));rfl
 have m:(a.map (·.1))[j]? =O y:=by refine M ij (M g ?_);rfl
 exact h (List.getElem?_inj (l6.mp d).1 b.2 |>.mp (d.trans m.symm))
theorem Gd.put{w:aV}{c:Cx}{m:Str→aG aJ}{g:Mu}{s:aM}{E:dN}{h:Tb}{l:Sg}{i:aA}{x:Str}{v:aJ}{p:PV}{r:bF}{tk:aA}(G:Gd w c h K m g s l)(H:fD c E h)(u:okN h i x=aF)(I:RV w K g.ad v p)(L:r.Ns c.env.locals (fun y=>if y=x then O v else m y))(f:iJ c.env.locals s.heap r):
  Gd w c h K (fun y=>if y=x then O v else m y) g {s with heap:=r,toks:=tk} (l.put i p)∧KB c g s.heap r:=by
 have u:h[i]? =O (x,aF):=beq_iff_eq.mp u;have N:KB c g s.heap r:=fun b o e P J J=>(f.2 b P).trans e;refine⟨⟨?_,?_,G.Mi,G.fl⟩,N⟩
 ·have F:=G.F
  refine{ns:=L,keep:=fun b o e=>(f.2 b ?_).trans (F.keep b o e),dH:=F.dH,low:=F.low,le:=F.le,cT:=fun b o n e=>(f.2 b ?_).trans (F.cT b o n e),new:=F.new,cX:=F.cX,mul:=fun a Q R e=> ?_,gens:=F.gens,os:=F.os,base:=F.base,dO:=F.dO,eX:=F.eX,tabs:=fun t D=>(F.tabs t D).mono (fun J J e=>e) fun o e=>(f.2 _ (F.off F.cX t D)).trans e}
  ·intro z;rw[z,F.dH] at e;exact nn e
  ·intro z;rw[z,F.cX] at e;exact nn e
  ·(refine dW (F.mul a Q R e) ?_;rintro⟨S,T⟩ U A W);exact⟨⟨(aQ S fun o X Y=>⟨o,(f.2 a A).trans X,Y⟩),fun q=>(T q).at fun J e=>(f.2 a A).trans e⟩,U,A,W⟩
 ·intro j y k q B d
  by_cases C:i=j
  ·subst C;obtain⟨rfl,rfl⟩:=qM (cA (u.symm.trans B))
   have a0:i < l.loc.length:=by refine aS (GL (i:=i) (a:=O p)) ?_;exact(l6.mp d).1
   have d:(l.loc.set i (O p))[i]? =O (O q):=d;rw[aeS a0] at d;exact aS (cA (cA d)) <|⟨v,aR V,I⟩
  ·have d:(l.loc.set i (O p))[j]? =O (O q):=d;rw[aeT C] at d;have:=G.L j y k q B d;cases k with
   |false=>exact this
   |true=>
    (refine aQ (this) ?_;try clear this;rintro a1 e a2);exact⟨a1,(aP (JK H u B C)).trans e,a2⟩
theorem name_kind(H:fD c d a)(b:okN a i x=aF):c.env.kindOf x=O .local:=(H.at (beq_iff_eq.mp b)).2.1 rfl
theorem va(H:fD c a b):(c.env.scope.kind== .class ||(c.env.scope.kind== .module && c.env.locals !=c.env.globals))=false:=by refine M H.kind ?_;rfl
theorem kB{E:aJ→aM→Prop}(G:Gd w c a K m b s f)(H:fD c n a)(e:okN a i x=aF)(j:RV w K b.ad v p)
  (h:∀d,Gd w c a K (fun y=>if y=x then O v else m y) b d (f.put i p)→KB c b s.heap d.heap→Q () d):aN (aO pg w) A (Rx c.env x v) Q E s:=
 uw (name_kind H e) G.F.ns (fun o k l=>have g:=G.put (tk:=s.toks+1) H e j k l;h _ g.1 g.2) (va H)
theorem Gd.of(G:Gd w c d K m a s e)(k:PK.le K b)(F:Fm c b m a f):Gd w c d b m a f e:=⟨F,G.L.mono k,G.Mi.mono k,G.fl⟩
theorem UG{a:Expr}(h:q8 a=aF)(t:aG Expr)(b:aA)(c:gI):ux a t b c=pure false:=by
 cases a with
 |ListComp=>exact absurd h cL|SetComp=>exact absurd h cL|DictComp=>exact absurd h cL| _=>rfl
theorem qg{a:Expr}(h:bC d f e a=aF)(t:aG Expr)(b:aA)(c:gI):ux a t b c=pure false:=UG (qe h) t b c
theorem rf(h:js x=O y):x=y∧x≠ .bV:=by
 cases x with
 |bV=>exact nn h| _=>exact⟨cA h,fun e=>(by contradiction)⟩
theorem UH(F:Fm c K m d s)(p:(a++b).length≤eF):dE w A c K m d (GN .Add (.str a t) (.str b u)) (.str (a++b)) s:=by
 refine PySem.P.iadd_str ?_
 split
 ·rename_i e;refine M (Iy (beq_iff_eq.mp e)) ?_;exact fS F .str
 ·split
  ·rename_i e;refine M (Iz (beq_iff_eq.mp e)) ?_;exact fS F .str
  ·exact⟨p,eE F .str⟩
theorem UI(F:Fm c K m d s)(o:i7):fN w A c K m d (GN o (.int a t) (.int b u)) (JB a b o) s:=by
 cases o with
 |Add=>exact .some (PySem.P.iadd_int (eE F .int))|Sub=>exact .some (PySem.P.isub_int (eE F .int))|FloorDiv=>exact .aZ fun p=> .some (ifloordiv_int p.1 (eE F .int) (.inl (Q0 p.2)))|LShift=>exact .aZ fun p=> .some (ilshift_int p.1 p.2 (eE F .int))|RShift=>exact .aZ fun p=> .some (irshift_int p (eE F .int))| _=>exact .none
theorem UJ(F:Fm c K m a s)(b:RV w K a.ad v x)(d:RV w K a.ad u y):fN w A c K m a (GN o v u) (jV o x y) s:=by
 cases x with
 |int=>
  (refine xe b.int_inv ?_;rintro t rfl);cases y with
  |int=>(refine xe d.int_inv ?_;rintro e rfl);exact UI F o| _=>exact .none
 |str=>
  (refine xe b.str_inv ?_;rintro t rfl);cases y with
  |str=>
   (refine xe d.str_inv ?_;rintro e rfl);cases o with
   |Add=>exact .aZ fun p=> .some (UH F p)| _=>exact .none
  | _=>exact .none
 | _=>exact .none
theorem JL(h:jV o x y=O z)(F:Fm c K m a s)(b:RV w K a.ad v x)(d:RV w K a.ad u y):
  dE w A c K m a (GN o v u) z s:=UJ F b d z h
end
end
section
section
variable{K:PK}
theorem JM(h:jG σ i=aF):σ.loc[i]? =O (O .bV):=by
 have h:(match σ.loc[i]? with |some (O .bV)=>aF | _=>aI)=true:=h;cases e:σ.loc[i]? with
 |none=>replace h:=e▸h;exact absurd h cL
 |some o=>cases o with
  |none=>replace h:=e▸h;exact absurd h cL
  |some p=>replace h:=e▸h;cases p with
   |bV=>rfl| _=>exact absurd h cL
theorem vb(h:Mu.Is w K c o)(e:o=O x):∃a b d,c=O (a,b,d)∧bK w K b x:=by
 cases h with
 |none=>cases e|some h=>cases e;exact⟨_,_,_,rfl,h⟩
theorem Gd.yl{w:aV}{c:Cx}{m:Str→aG aJ}{mu:Mu}{s:aM}{i:Tb}{j:Sg}{a:aW}{k its':aD aJ}{l qh sX:aU}{xs':aD PV}{d:bF}{tk:aA}(G:Gd w c i K m mu s j)(v:mu=O (a,k,l))(x:d.IsList a its'.toArray)(y:qh=aF→d.PlainList a its'.toArray)(p:iJ a s.heap d)(z:bK w K its' xs')(A:sX=aF→qh=aF):
  Gd w c i K m (O (a,its',qh)) {s with heap:=d,toks:=tk} {j with mu:=O xs',pl:=sX}∧KB c mu s.heap d∧hH mu (O (a,its',qh)) s.heap:=by
 subst v;have F:=G.F;refine dW (F.mul a k l V) fun J q r f=>⟨⟨?_,G.L,.some z,fun J J J e h=>by cases e;exact A h⟩,fun b o e J B J=>(p.2 b fun C=>B (C▸rfl)).trans e,fun J e=> .inl e⟩;have keep:∀b o,s.heap.get? b=O o→b≠a→d.get? b=O o:=fun b o e n=>(p.2 b n).trans e
 refine{ns:= ?_,keep:=fun b o e=>keep b o (F.keep b o e) ?_,dH:=F.dH,low:=F.low,le:=F.le,cT:=fun b o n e=>keep b o (F.cT b o n e) ?_,new:=F.new,cX:=F.cX,mul:=fun L N P e=> ?_,gens:=F.gens,os:=F.os,base:=F.base,dO:=F.dO,eX:=F.eX,tabs:=fun t u=>(F.tabs t u).mono (fun J J e=>e) fun o e=>keep _ _ e (F.off f t u)}
 ·exact eP (F.ns) fun o D E H I=>⟨o,D,E,keep _ _ H (Ne.symm r),I⟩
 ·intro g;rw[g,q] at e;exact nn e
 ·intro g;rw[g,f] at e;exact nn e
 ·cases e;exact⟨⟨x,y⟩,q,r,f⟩
theorem jt(k:PK.le K a)(b:KB c d h e.heap)(f:hH d mw h)(G:Gd w c g a i mw e j):Out w c g K d h .next e .next j:=
 ⟨a,i,mw,k,b,f,rfl,G⟩
theorem bK.set{K:PK}(j:aA)(h:bK w K c d)(e:RV w K .none v x):bK w K (c.set j v) (d.set j x):=
 bK.ind (C:=fun c d=>∀j,bK w K (c.set j v) (d.set j x)) (fun J=> .nil) (fun J J J J a b ih j=>by cases j with
  |zero=>exact .cons e b|succ j=>exact .cons a (ih j)) h j
theorem bK.rev{K:PK}(h:bK w K b c):bK w K b.reverse c.reverse:=
 bK.ind (C:=fun b c=>bK w K b.reverse c.reverse) .nil (fun J J J J a J ih=>by refine M aeU (M aeU ?_);exact ih.append (.cons a .nil)) h
theorem JN{w:aV}{A:bX}{c:Cx}{m:Str→aG aJ}{d:Mu}{s:aM}{p:Tb}{q:Sg}{k:Z}{t:gX}{x:PV}{v:aJ}{r:Fl}{u:Sg}{a:aW}{h₀:bF}{y:PK}{i:Mu}(h:u8 q k x=O (r,u))(G:Gd w c p K m d s q)(j:d.ad=O a)(C:RV w K .none v x)(D:PK.le y K)(E:KB c i h₀ s.heap)(F:hH i d h₀):
  aN (aO pg w) A (setItem (.ref a) (.int k t) v) (fun J H=>Out w c p y i h₀ .next H r u) (fun J J=>bO) s:=by
 refine aQ (dP h) fun U I l=> ?_;obtain⟨⟨L,N,P⟩,l⟩:=iZ l;cases l;refine eP (vb G.Mi I) fun Q z f n B=> ?_;have:Q=a:=by replace j:=n▸j;cases j;rfl
 subst this;have W:=B.length;(refine xa (G.F.mul _ _ _ n) ?_;rintro⟨g,_⟩ _);refine aeV g L (dM N (cK (cV.mpr P) (by decide))) (by refine M kO ?_;omega) fun X o R=> ?_;have e:z.toArray.setIfInBounds k.toNat v=(z.set k.toNat v).toArray:=by simp
 replace o:=e▸o;exact iD (G.yl (tk:=s.toks) (qh:=aI) (sX:=aI) n o (fun e=>by cases e) R (B.set k.toNat C) (fun e=>by cases e)) fun S b T=>Out.after D E F (jt (.refl K) b T S)
theorem UK(h:jn d.mu .bV (.int k)=O p)(G:Gd w c f K m b s d)(e:b.ad=O a):dE w A c K m b (oy (.ref a) (.int k t)) p s:=
 IC h G.F G.Mi (by refine M e ?_;exact .bV) .int
theorem Gd.other(G:Gd w c p K m i s r)(u:K I=aB)(v:I≠c.env.locals)(x:i.ad≠O I)(j:c.hE.get? I=aB)(d:∀b o,b≠I→s.heap.get? b=O o→h'.get? b=O o):Gd w c p K m i {s with heap:=h',toks:=tk} r:=by
 have F:=G.F;refine⟨{ns:= ?_,keep:=fun b o e=>d b o ?_ (F.keep b o e),dH:=F.dH,low:=F.low,le:=F.le,cT:=fun b o n e=>d b o ?_ (F.cT b o n e),new:=F.new,cX:=F.cX,mul:=fun a y z e=> ?_,gens:=F.gens,os:=F.os,base:=F.base,dO:=F.dO,eX:=F.eX,tabs:=fun t k=>(F.tabs t k).mono (fun J J e=>e) fun o e=>d _ _ (F.off j t k) e},G.L,G.Mi,G.fl⟩
 ·exact eP (F.ns) fun o A B f g=>⟨o,A,B,d _ _ (Ne.symm v) f,g⟩
 ·intro h;rw[h,u] at e;exact nn e
 ·intro h;rw[h,j] at e;exact nn e
 ·(refine dW (F.mul a y z e) ?_;rintro⟨f,C⟩ g D E);have l:a≠I:=fun q=>x (by refine M e (aS q ?_);rfl);exact⟨⟨(aQ f fun o H L=>⟨o,d _ _ l H,L⟩),fun q=>(C q).at fun J=>d _ _ l⟩,g,D,E⟩
noncomputable def cut(h:bF)(a:aW):bF:=h.update a fun o=>{o with data:= .freed}
theorem oV(n:b≠a):(cut h a).get? b=h.get? b:=GO _ _ (Ne.symm n)
theorem sZ:(cut h a).get? a=none:=by obtain⟨b,l⟩:=h;unfold cut Heap.update Heap.get?;refine M Array.getElem?_modify (M (aR V) ?_);cases b[a]? <;>rfl
noncomputable def ym(h:bF):aG aW→bF
 |none=>h|some a=>cut h a
theorem JO(n:o≠O b):(ym h o).get? b=h.get? b:=by
 cases o with
 |none=>rfl|some a=>exact oV fun e=>n (e▸rfl)
theorem UL(n:o=O b):(ym h o).get? b=none:=by subst n;exact sZ
noncomputable def Cx.here(c:Cx)(K:PK)(a:Mu)(h:bF):Cx:={c with fH:=K,hE:=ym (cut h c.env.locals) a.ad}
theorem rg{c:Cx}{a:Mu}{b:aW}{h:bF}(d:b≠c.env.locals)(e:a.ad≠O b):(c.here K a h).hE.get? b=h.get? b:=(JO e).trans (oV d)
theorem Ce{c:Cx}{a:Mu}{b:aW}{o:Obj}{h:bF}(e:(c.here K a h).hE.get? b=O o):b≠c.env.locals∧a.ad≠O b∧h.get? b=O o:=by
 have e:(ym (cut h c.env.locals) a.ad).get? b=O o:=e;have d:a.ad≠O b:=fun q=>by rw[UL q] at e;cases e
 rw[JO d] at e;have f:b≠c.env.locals:=fun q=>by rw[q,sZ] at e;exact nn e
 rw[oV f] at e;exact⟨f,d,e⟩
theorem Gd.here{w:aV}{c:Cx}{m:Str→aG aJ}{d:Mu}{s:aM}{f:Tb}{g:Sg}(G:Gd w c f K m d s g):Gd w (c.here K d s.heap) f K m d s g:=by
 have F:=G.F;refine⟨{ns:=F.ns,keep:=F.keep,dH:=F.dH,low:=fun b o e=>F.le _ _ (F.low b o e),le:= .refl K,cT:=fun b o J e=>(Ce e).2.2,new:=fun b o e=> .inl e,cX:= ?_,mul:=fun a i j e=> ?_,gens:=F.gens,os:=F.os,base:=F.base,dO:=F.dO,eX:=fun t h=> ?_,tabs:=F.tabs},G.L,G.Mi,G.fl⟩
 ·cases e:(c.here K d s.heap).hE.get? c.env.locals with
  |none=>exact e|some o=>exact absurd rfl (Ce e).1
 ·refine dW (F.mul a i j e) fun k l n J=>⟨k,l,n,?_⟩;cases p:(c.here K d s.heap).hE.get? a with
  |none=>rfl|some o=>exact absurd (by refine M e ?_;rfl) (Ce p).2.1
 ·obtain⟨q,r⟩:=F.TJ h;obtain⟨o,e⟩:=(F.tabs t h).some;exact⟨o,(rg q r).trans e⟩
theorem Fm.back{c:Cx}{m:Str→aG aJ}{f:Mu}{s:aM}{h:PK}{i:Str→aG aJ}{j:Mu}{g:aM}(F:Fm c K m f s)(d:Fm (c.here K f s.heap) h i j g)(l:KB c f s.heap g.heap):Fm c h i j g:=by
 have k:∀b,(c.here K f s.heap).hE.get? b=aB→c.hE.get? b=none:=fun b e=>by
  cases q:c.hE.get? b with
  |none=>rfl
  |some o=>
   have r:b≠c.env.locals:=fun z=>by(replace q:=z▸q;replace q:=F.cX▸q);exact nn q
   have t:f.ad≠O b:=fun z=>by
    cases f with
    |none=>cases z|some p=>cases z;replace q:=((F.mul p.1 p.2.1 p.2.2 V).2.2.2)▸q;exact nn q
   refine xe (F.there q) fun D u=> ?_;(replace e:=(rg r t)▸e;replace e:=u▸e);cases e
 refine{ns:=d.ns,keep:=d.keep,dH:=d.dH,low:=F.low,le:=F.le.trans d.le,cT:=fun b o n e=>l b o (F.cT b o n e) ?_ ?_ n,new:=fun b o e=>(d.new b o e).elim (F.new b o) fun z=> .inr (k b z),cX:=F.cX,mul:=fun a v w e=> ?_,gens:=d.gens,os:=d.os,base:=F.base,dO:=d.dO,eX:=F.eX,tabs:=d.tabs}
 ·intro x;(replace e:=x▸e;replace e:=F.cX▸e);exact nn e
 ·intro z;cases f with
  |none=>cases z|some p=>cases z;replace e:=((F.mul p.1 p.2.1 p.2.2 V).2.2.2)▸e;exact nn e
 ·exact dW (d.mul a v w e) fun y A B C=>⟨y,A,B,k a C⟩
inductive JP(w:aV)(c:Cx)(tb:Tb)(K:PK)(mu:Mu)(hs:bF)(I:aW)(St:aA→bF→Prop)(xs:aD PV)(bp:Sg→aG (Fl×Sg))(i:aA)(z:aG (Fl×Sg))(left:aA)(s1:aM):Prop
 |mk (K1:PK) (m1:Str→aG aJ) (gN:Mu) (eJ:Sg) (k1:PK.le K K1) (kb:KB c mu hs s1.heap) (ms:hH mu gN hs) (hM:gN.ad≠O I) (hK:K1 I=aB) (G:Gd w c tb K1 m1 gN s1 eJ) (hle:left≤xs.length) (hS:St (xs.length - left) s1.heap) (hx:gM bp i (xs.drop (xs.length - left)) eJ=z):
   JP w c tb K mu hs I St xs bp i z left s1
theorem Cf{c:ur}{A:bX}{b:Type}{t:cR b}{Q:b→aM→Prop}{E:aJ→aM→Prop}{s:aM}(h:∀(d:b→aM→Prop) (e:aJ→aM→Prop),(∀a s,Q a s→d a s)→aN c A t d e s):aN c A t Q E s:=h Q E fun J J h=>h
theorem UM{c:ur}{A:bX}{b:Type}{t:cR b}{Q:b→aM→Prop}{E:aJ→aM→Prop}{s:aM}(h:∀d:b→aM→Prop,(∀a s,Q a s→d a s)→aN c A t d E s):aN c A t Q E s:=h Q fun J J h=>h
theorem vc{st:bR}{E:aJ→aM→Prop}(e:st=d)(h:∀R:j3→aM→Prop,(∀a,aN b A (eH f c) Q E a→R .next a)→(∀v a,Q (.ret v) a→R (.ret v) a)→aN b A (ji d c) R E s):aN b A (eH (st::f) c) Q E s:=
 wpAny_execs_cons (e▸h _ (fun J h=>h) fun J J h=>h)
theorem Cg{w:aV}{A:bX}{c:Cx}{m:Str→aG aJ}{mu:Mu}{s:aM}{sc:dN}{tb:Tb}{σ:Sg}{x:Str}{px:bG}{body:aD bR}{i:aA}{bp:Sg→aG (Fl×Sg)}{I:aW}{fp:aD aW}{N:aA}{Pv:aA→aJ→Prop}{St:aA→bF→Prop}{xs:aD PV}{fl:Fl}{σ':Sg}{hs:bF}{fH:PK}
  (H:fD c sc tb) (hi:okN tb i x=aF) (W:GP pg w A I fp [I] N Pv St) (hN:xs.length=N)
  (hb:∀(K1:PK) (gN:Mu) (h:bF) σ fl σ',bp σ=O (fl,σ')→sW w A (c.here K1 gN h) tb σ (eH body c.env) fl σ')
  (hP:∀(K1:PK) (j:aA) (v:aJ) (p:PV),PK.le K K1→Pv j v→xs[j]? =O p→RV w K1 .none v p)
  (Ch:∀j h,St j h→∃o,h.get? I=O o) (rh:∀b∈fp,b=I∨(∃o,K b=O o)) (hI:I≠c.env.locals) (UN:mu.ad≠O I) (UO:K I=aB) (JQ:c.hE.get? I=aB)
  (UP:hs.get? I=aB) (Ci:KB c mu hs s.heap) (Cj:PK.le fH K)
  (hx:gM bp i xs σ=O (fl,σ')) (G:Gd w c tb K m mu s σ) (ta:St 0 s.heap):
  pI (aO pg w) A (.forLoop (.Name x px) (.ref I) body [] c.env) (fun r s'=>match r with | .ok f=>Out w c tb fH mu hs f s' fl σ' | .error _=>bO) s:=by
 have tc:Off c.T I:=G.F.off JQ;refine aeW (I:=JP w c tb K mu hs I St xs bp i (O (fl,σ'))) (fun left s1 vd=> ?_) xs.length ⟨K,m,mu,σ,.refl K,Ci,.refl,UN,UO,G,bZ _,by refine M (pJ ..) ?_;exact ta,by refine M (pJ ..) ?_;exact hx⟩;obtain⟨K1,m1,gN,eJ,k1,kb,ms,ve,JR,G1,hle,oW,gC⟩:=vd
 have moved:∀(h':bF) (tk:aA),(∀b o,b∉[I]→s1.heap.get? b=O o→h'.get? b=O o)→Gd w c tb K1 m1 gN {s1 with heap:=h',toks:=tk} eJ∧KB c mu hs h':=fun h' tk hk=>by have kY:∀b o,b≠I→s1.heap.get? b=O o→h'.get? b=O o:=fun b o n e=>hk b o (by simpa using n) e;exact⟨G1.other JR hI ve JQ kY,fun b o e n1 n2 n3=>kY b o (fun q=>by(replace e:=q▸e;replace e:=UP▸e);exact nn e) (kb b o e n1 n2 n3)⟩
 refine Cf fun Q E hQ=> ?_;cases left with
 |zero=>
  rw[so] at oW gC;replace gC:=aeX▸gC;cases gC;exact W.done s1 _ _ (hN▸oW) fun h' tk hk=>xa (moved h' tk hk) fun G2 kb2=>hQ _ _ (wpAny_execs_nil (jt (Cj.trans k1) kb2 ms G2))
 |succ l=>
  have hj:xs.length - (l+1) < xs.length:=aeY (bL (ow _) hle) (ow _)
  have hd:xs.drop (xs.length - (l+1))=xs[xs.length - (l+1)] ::xs.drop (xs.length - l):=by
   refine M (As hj) ?_
   congr 2;exact Eq.symm (xN hle)
  replace gC:=hd▸gC;refine W.item _ s1 _ _ (bL hj (cM hN)) oW fun v h' tk Ck nJ hk=>hQ _ _ (Cf fun Q E hQ=> ?_);have nJ:St (xs.length - l) h':=by refine M (xN hle:xs.length - l=xs.length - (l+1)+1) ?_;exact nJ
  refine xa (moved h' tk hk) fun G2 kb2=> ?_;have qX:RV w K1 .none v xs[xs.length - (l+1)] :=hP K1 _ v _ k1 Ck (fC hj);refine wpAny_bind (jg (uy (kB G2 H hi (qX.up _) fun s3 G3 td=> ?_)));have tf:KB c mu hs s3.heap:=kb2.step ms td;have vf:∀o,h'.get? I=O o→s3.heap.get? I=O o:=fun o e=>td I o e hI ve tc
  have yn:St (xs.length - l) s3.heap:=W.frame _ _ _ nJ fun b Cm o e=>by
   rcases rh b Cm with q |⟨o',nK⟩
   ·rw[q] at e ⊢;exact vf o e
   ·have e1:=G2.F.keep b o' (k1 _ _ nK);have e2:=G3.F.keep b o' (k1 _ _ nK);replace e:=e1▸e;cases e;exact e2
  refine hQ _ _ (Cf fun Q E hQ=> ?_)
  have run:∀flb mZ,bp (eJ.put i xs[xs.length - (l+1)])=O (flb,mZ)→aN (aO pg w) A (eH body c.env) (fun f s'=>Out w (c.here K1 gN s3.heap) tb K1 gN s3.heap f s' flb mZ) (fun J J=>bO) s3:=fun flb mZ kC=>
   hb K1 gN s3.heap _ _ _ kC K1 _ gN s3 G3.here
  refine xe (Ch _ _ yn) fun oI JS=> ?_;rcases yk gC with⟨mZ,kC,gC⟩ |⟨mZ,kC,gC⟩ |⟨u,mZ,kC,gC⟩
  ·refine wpAny_mono (run _ _ kC) (fun f s4 ho=> ?_) fun J J x=>x.elim;obtain⟨K4,m4,lP,k4,ip,jH,rfl,G4⟩:=ho;have ip:KB c gN s3.heap s4.heap:=ip;have F4:=G3.F.back G4.F ip
   have UQ:lP.ad≠O I:=fun q=>by
    rcases jH I q with z |z
    ·exact ve z
    ·replace z:=JS▸z;cases z
   have UR:K4 I=none:=by
    cases e:K4 I with
    |none=>rfl
    |some o'=>
     rcases G4.F.new I o' e with z |z
     ·have z:K1 I=O o':=z;replace z:=JR▸z;cases z
     ·(replace z:=(rg hI ve)▸z;replace z:=JS▸z);cases z
   refine hQ _ _ ⟨l,lJ l,K4,m4,lP,mZ,k1.trans k4,tf.step ms ip,hH.step tf ms jH F4,UQ,UR,⟨F4,G4.L,G4.Mi,G4.fl⟩,by exact qz hle,?_,gC⟩;refine W.frame _ _ _ yn fun b Cm o e=> ?_;rcases rh b Cm with q |⟨o',nK⟩
   ·rw[q] at e ⊢;exact ip _ o e hI ve tc
   ·have e1:=G3.F.keep b o' (k1 _ _ nK);have e2:=F4.keep b o' (k4 _ _ (k1 _ _ nK));replace e:=e1▸e;cases e;exact e2
  ·refine wpAny_mono (run _ _ kC) (fun f s4 ho=> ?_) fun J J x=>x.elim;obtain⟨K4,m4,lP,k4,ip,jH,rfl,G4⟩:=ho;have ip:KB c gN s3.heap s4.heap:=ip;have F4:=G3.F.back G4.F ip;cases gC;exact hQ _ _ <|jt (Cj.trans (k1.trans k4)) (tf.step ms ip) (hH.step tf ms jH F4) ⟨F4,G4.L,G4.Mi,G4.fl⟩
  ·refine wpAny_mono (run _ _ kC) (fun f s4 ho=> ?_) fun J J x=>x.elim;obtain⟨K4,m4,lP,k4,ip,jH,v4,rfl,US,r4⟩:=ho;have ip:KB c gN s3.heap s4.heap:=ip;have F4:=G3.F.back US ip;cases gC;exact hQ _ _ ⟨K4,m4,lP,Cj.trans (k1.trans k4),tf.step ms ip,hH.step tf ms jH F4,v4,rfl,F4,r4⟩
end
end
section
section
variable{K:PK}
inductive JT(w:aV)(c:Cx)(tb:Tb)(K:PK)(mu:Mu)(h:bF)(tp:Sg→aG aU)(bp:Sg→aG (Fl×Sg))(z:aG (Fl×Sg))(left:aA)(s1:aM):Prop
 |mk (K1:PK) (m1:Str→aG aJ) (gN:Mu) (eJ:Sg) (k1:PK.le K K1) (kb:KB c mu h s1.heap) (ms:hH mu gN h) (G:Gd w c tb K1 m1 gN s1 eJ) (hx:kA tp bp left eJ=z):JT w c tb K mu h tp bp z left s1
theorem UT
  (ht:∀(σ:Sg) (b:aU) (K:PK) (m:Str→aG aJ) (mu:Mu) (s:aM),tp σ=O b→Gd w c tb K m mu s σ→aN (aO pg w) A (sk test c.env (eval test c.env)) (B4 c K m mu s.heap b) (fun J J=>bO) s)
  (hb:∀σ fl σ',bp σ=O (fl,σ')→sW w A c tb σ (eH body c.env) fl σ')
  (hx:kA tp bp N σ=O (fl,σ')) (G:Gd w c tb K m mu s σ):
  pI (aO pg w) A (.whileLoop test body [] c.env) (fun r s'=>match r with | .ok f=>Out w c tb K mu s.heap f s' fl σ' | .error _=>bO) s:=by
 refine aeZ (I:=JT w c tb K mu s.heap tp bp (O (fl,σ'))) (fun left s1 vd=> ?_) N ⟨K,m,mu,σ,.refl K,.refl,.refl,G,hx⟩;obtain⟨K1,m1,gN,eJ,k1,kb,ms,G1,gC⟩:=vd;cases left with
 |zero=>exact nn gC
 |succ l=>
  rcases yg gC with⟨e,gC⟩ |⟨e,gC⟩
  ·refine wpAny_mono (ht eJ aF K1 m1 gN s1 e G1) (fun b' s2 h2=> ?_) fun J J x=>x.elim;obtain⟨rfl,K2,k2,F2,b2⟩:=h2;have G2:=G1.of k2 F2;refine M (aR V) ?_;rcases yk gC with⟨mZ,kC,gC⟩ |⟨mZ,kC,gC⟩ |⟨u,mZ,kC,gC⟩
   ·refine wpAny_mono (hb _ _ _ kC K2 m1 gN s2 G2) (fun f s4 ho=> ?_) fun J J x=>x.elim;obtain⟨K4,m4,lP,k4,ip,jH,rfl,G4⟩:=ho;exact⟨l,lJ l,K4,m4,lP,mZ,(k1.trans k2).trans k4,(kb.step ms b2).step ms ip,hH.step (kb.step ms b2) ms jH G4.F,G4,gC⟩
   ·refine wpAny_mono (hb _ _ _ kC K2 m1 gN s2 G2) (fun f s4 ho=> ?_) fun J J x=>x.elim;obtain⟨K4,m4,lP,k4,ip,jH,rfl,G4⟩:=ho;cases gC;exact jt ((k1.trans k2).trans k4) ((kb.step ms b2).step ms ip) (hH.step (kb.step ms b2) ms jH G4.F) G4
   ·refine wpAny_mono (hb _ _ _ kC K2 m1 gN s2 G2) (fun f s4 ho=> ?_) fun J J x=>x.elim;obtain⟨K4,m4,lP,k4,ip,jH,v4,rfl,F4,r4⟩:=ho;cases gC;exact⟨K4,m4,lP,(k1.trans k2).trans k4,(kb.step ms b2).step ms ip,hH.step (kb.step ms b2) ms jH F4,v4,rfl,F4,r4⟩
  ·refine wpAny_mono (ht eJ aI K1 m1 gN s1 e G1) (fun b' s2 h2=> ?_) fun J J x=>x.elim;obtain⟨rfl,K2,k2,F2,b2⟩:=h2;cases gC;exact wpAny_execs_nil (jt (k1.trans k2) (kb.step ms b2) ms (G1.of k2 F2))
theorem th{w:aV}{A:bX}{s:aM}{b:Code}{Q:j3→aM→Prop}(d:A.handled=aB)(h:pI (aO pg w) A b (fun r a=>match r with | .ok f=>Q f a | .error _=>bO) s){c:gI}{E:aJ→aM→Prop}:
  pI (aO pg w) A b (fun r a=>match r with | .ok f=>Q f a | .error e=>cameBackBy (aO pg w) A c E e a) s:=
 uz h fun r a x=>by cases r with
  |ok f=>exact x|error e=>exact x.elim
theorem Hyp.here(Y:Hyp w A c a b P n)(d:PK)(e:Mu)(h:bF):Hyp w A (c.here d e h) a b P n:=
 ⟨Y.hh,Y.hd,Y.hu,⟨Y.H.scope,Y.H.sR,Y.H.globals,Y.H.builtins⟩,⟨Y.S.gk,Y.S.call,Y.S.bi⟩⟩
theorem jr.ev{a:Expr}(h:jr w A c d m b f a o)(e:o=O x)(G:Gd w c d K m b s f):dE w A c K m b (eval a c.env) x s:=h.1 x e K s G.F G.L G.Mi
theorem UU(h:sU p=O q):p=O q∧q≠ .bV:=by
 cases p with
 |none=>exact nn h
 |some p=>
  by_cases hp:p= .bV
  ·rw[hp] at h;exact nn h
  ·have h1:sU (O p)=O p:=by cases p with
    |bV=>exact absurd rfl hp| _=>rfl
   have:=cA (h1.symm.trans h);exact⟨aT _ this,this▸hp⟩
theorem UV(H:fD c t d)(f:okN d i x=aF)(L:RL w K c.env v d m l):
  RL w K c.env (O a) d (fun y=>if y=x then O (.ref a) else m y) ((l.map sU).set i (O .bV)):=by
 have f:d[i]? =O (x,aF):=beq_iff_eq.mp f;intro j y k q g b
 by_cases h:i=j
 ·subst h;obtain⟨rfl,rfl⟩:=qM (cA (f.symm.trans g))
  have n:i < (l.map sU).length:=by refine aS (GL (i:=i) (a:=O PV.bV)) ?_;exact(l6.mp b).1
  rw[aeS n] at b;exact aS (cA (cA b)) <|⟨_,aR V,.bV⟩
 ·rw[aeT h,ij] at b;refine aQ (l8.mp b) fun o e b=> ?_;obtain⟨rfl,p⟩:=UU b;have:=L j y k q g e;cases k with
  |false=>exact this
  |true=>
   (refine aQ (this) ?_;try clear this;rintro u s r);exact⟨u,(aP (JK H f g h)).trans s,r.any p⟩
theorem UW(h:nI xs p=O q):(p=O .bV∧ .lst xs=q)∨(p=O q∧q≠ .bV):=by
 cases p with
 |none=>exact nn h
 |some p=>
  by_cases hp:p= .bV
  ·rw[hp] at h;exact .inl ⟨aT _ hp,cA h⟩
  ·have h1:nI xs (O p)=O p:=by cases p with
    |bV=>exact absurd rfl hp| _=>rfl
   have:=cA (h1.symm.trans h);exact .inr ⟨aT _ this,this▸hp⟩
theorem Fm.freeze(F:Fm c K m (O (a,l,n)) s)(p:s.heap.get? a=O o):Fm c (K.put a o) m aB s:=by
 refine dW (F.mul a l n V) fun J q r g=> ?_;have i:PK.le K (K.put a o):=PK.uX q;have j:∀{b},b≠a→(K.put a o) b=K b:=fun h=>aP h
 refine{ns:=F.ns,keep:=fun b x e=> ?_,dH:=(j (Ne.symm r)).trans F.dH,low:=F.low,le:=F.le.trans i,cT:=F.cT,new:=fun b x e=> ?_,cX:=F.cX,mul:=fun J J J e=>nn e,gens:=F.gens,os:=F.os,base:=F.base,eX:=F.eX,tabs:=fun t d=>(F.tabs t d).mono i (fun J e=>e),dO:=fun t d=>(j (F.off g t d)).trans (F.dO t d)}
 ·rcases PK.pZ e with⟨f,k⟩ |e
  ·refine M f (aS k ?_);exact p
  ·exact F.keep _ _ e
 ·rcases PK.pZ e with⟨f,k⟩ |e
  ·refine M f ?_;exact .inr g
  ·exact F.new _ _ e
theorem RL.freeze{w:aV}{c:Cx}{m:Str→aG aJ}{h:Tb}{f:PK}{a:aW}{i:aD PV}{l:aD (aG PV)}(L:RL w K c.env (O a) h m l)(g:PK.le K f)(o:RV w f aB (.ref a) (.lst i)):RL w f c.env aB h m (l.map (nI i)):=by
 intro j y k q n d;rw[ij] at d;refine aQ (l8.mp d) fun p e d=> ?_;rcases UW d with⟨rfl,rfl⟩ |⟨rfl,s⟩
 ·have:=L j y k .bV n e;cases k with
  |true=>
   obtain⟨v,b,r⟩:=this;obtain⟨B,t,rfl⟩:=r.pS;obtain rfl:=cA t;exact⟨_,b,o⟩
  |false=>
   (refine nF (this) ?_;try clear this;rintro _ _ _ _ _ _ r);exact aQ (r.pS) fun J e J=>nn e
 ·have:=L j y k q n e;cases k with
  |true=>obtain⟨v,b,r⟩:=this;exact⟨v,b,(r.mono g).any s⟩
  |false=>(refine nF (this) ?_;try clear this;rintro u x v b z A r);exact⟨u,x,v,b,g _ _ z,A,r.mono g⟩
theorem Gd.freeze(G:Gd w c j K m k s h)(l:h.mu=O d):∃f,PK.le K f∧Gd w c j f m aB s (h.freeze d)∧∀a,k.ad=O a→RV w f aB (.ref a) (.lst d):=by(refine eP (vb G.Mi l) ?_;rintro a n p rfl q);obtain⟨⟨⟨o,r,t,x,u⟩,_⟩,v,_⟩:=G.F.mul a n p V;have g:PK.le K (K.put a o):=PK.uX v;have i:RV w (K.put a o) aB (.ref a) (.lst d):= .lst PK.jo t u (by simpa using q.mono g);exact⟨K.put a o,g,⟨G.F.freeze r,G.L.freeze g i,.none,fun J J J e=>nn e⟩,fun b e=>by refine aS (cA e) ?_;exact i⟩
end
end
section
section
variable{K:PK}
theorem vg(H:fD c l b)(d:okN b i x=aF)(f:jG j i=aF)(G:Gd w c b K m g s j):∃a,g.ad=O a∧dE w A c K m g (eval (.Name x pos) c.env) .bV s∧m x=O (.ref a):=by
 have h:b[i]? =O (x,aF):=by unfold okN at d;exact beq_iff_eq.mp d
 refine aQ (G.L i x aF .bV h (JM f)) fun v e r=> ?_;(refine aQ (r.pS) ?_;rintro a k rfl);refine⟨a,k,B2 H (by refine M h ?_;simp) (JM f) K s G.F G.L G.Mi,e⟩
theorem Cn{E:aJ→aM→Prop}(H:fD c f b)(d:okN b i x=aF)(G:Gd w c b K m g s j)(e:m x=O (.ref a))(h:Q (.ref a) s):
  aN (aO pg w) A (eval (.Name x k) c.env) Q E s:=
 pF (GF H.kind (name_kind H d) G.F.ns e h) (H.at (beq_iff_eq.mp d)).1.1
theorem ri{E:aJ→aM→Prop}(H:fD c d f)(a:ux e aB b.line c.env=pure aI)(h:aN (aO pg w) A (eval e c.env) (fun J=>Q .next) E s):aN (aO pg w) A (ji (.Expr e b) c.env) Q E s:=
 wpAny_Expr_any h (by unfold interactive;refine M H.kind ?_;rfl) a
theorem Co{id:eA}{args:aD Expr}{E:aJ→aM→Prop}(H:fD c sc tb)(hi:okN tb i x=aF)(hl:(apos.endLine==pos.line)=aF)(G:Gd w c tb K m mu s σ)(hv:m x=O (.ref a))
  (hp:∃its,s.heap.PlainList a its) (slot:Slot "list" (aH nm) id) (ty:typeOf (.builtin id)=pure (.type "method_descriptor")) (UX:(jB pos (dF args c.env)).all (fun x=> !x.1)=aF) (hlen:args.length < 20)
  (h:aN (aO pg w) A (GQ pos (.builtin id) [.ref a] (jB pos (dF args c.env)) []) Q E s):aN (aO pg w) A (eval (.Call (.Attribute (.Name x p) (aH nm) apos) args [] pos) c.env) Q E s:=by
 refine sn V ?_ hl (Cn H hi G hv ?_)
 ·refine M UX ?_;simp only[Q7,gZ,lG];exact⟨rfl,by exact(cC (bZ _) (bL hlen (by decide)):args.length+0+0 < 30)⟩
 ·(refine oJ (hp) ?_;try clear hp;rintro its nn g);exact⟨"list",id,PySem.F.plainAttrs_list,slot,ty,⟨_,g,rfl⟩,fun b e=>by cases e;exact⟨_,g,rfl⟩,h⟩
@[elab_as_elim] theorem JU{b:Tb}{i:aA}{c:aD aA}{a:aD Expr}{C:aD Expr→Prop}(h:mY b (i::c) a=aF)(k:∀x p a,okN b i x=aF→mY b c a=aF→C (.Name x p::a)):C a:=by
 cases a with
 |nil=>exact absurd h cL|cons t a=>exact jd (C:=fun t=>C (t::a)) h fun x p h=>k x p a (aY h).1 (aY h).2
theorem JV{w:aV}{c:Cx}{mu:Mu}{sc:dN}{tb:Tb}{is:aD aA}:∀{ts:aD Expr} {vs:aD aJ} {xs:aD PV} {σ:Sg} {m:Str→aG aJ} {s:aM} {hs:bF} {fH:PK} {j9:Mu},fD c sc tb→mY tb is ts=aF→bK w K vs xs→xs.length=is.length→Gd w c tb K m mu s σ→PK.le fH K→KB c j9 hs s.heap→hH j9 mu hs→
  aN (aO pg w) A (ae0 ((GR ts c.env).map (·.2)) vs) (fun J s'=>Out w c tb fH j9 hs .next s' .next (putAll σ is xs)) (fun J J=>bO) s:=by
 induction is with
 |nil=>
  intro ts vs xs σ m s hs fH j9 H ho r hl G k b ms;obtain rfl:=qA hl;refine M (kz ho) (M r.nil_inv ?_);exact wpAny_pure (jt k b ms G)
 |cons i is ih=>
  intro ts vs xs σ m s hs fH j9 H ho r hl G k b ms;cases xs with
  |nil=>exact F8 hl
  |cons x1 xs=>
   (refine cS (r.ml) ?_;rintro v us rfl r1 r2);refine JU ho fun x p ts h1 h2=>wpAny_bind (ii ?_);refine(wpAny_bind (jg (uy (kB G H h1 (r1.up _) fun s1 G1 b1=> ?_))):aN (aO pg w) A (do np p;GU c.env x v) _ _ s);exact ih H h2 r2 (F9 hl) G1 k (b.step ms b1) ms
theorem JW{g:Tb}{e:aD aA}:∀{c:aD Expr},mY g e c=aF→c.length=e.length∧∀d,(GR c d).length=e.length∧(GR c d).findIdx? (·.1)=none:=by
 induction e with
 |nil=>intro c f;refine M (kz f) ?_;exact⟨rfl,fun J=>⟨rfl,rfl⟩⟩
 |cons i e ih=>
  intro c f;refine JU f fun x p c J h=>xa (ih h) fun a b=>⟨aT (· +1) a,fun d=>⟨aT (· +1) (b d).1,?_⟩⟩;refine(M List.findIdx?_cons (M ((b d).2) ?_):Ry (·.1) ((aI,AR (.Name x p) d)::GR c d)=aB);rfl
end
end
section
section
variable{w:aV}{A:bX}{sc:dN}{tb:Tb}{P:bT}{n:aA}
theorem UY{t v:Expr}{l:aA}{c:gI}(h:ux v (O t) l c=pure aI):ae1 [t] v l c=pure false:=by unfold ae1;exact h
theorem UZ{c:Cx}{d:aD Expr}{k:aA}{p:bG}{v:Expr}(h:JC v=aI):ae2 [.Tuple d k p] v c.env=pure none:=by
 cases v with
 |Tuple _ _ _=>exact GV h| _=>rfl
theorem U0{c:Cx}{x y:Str}{p q:bG}{k d:aA}{g m:bG}{a b:Expr}(H:fD c sc tb)(o:c.env.kindOf x=O .local)(r:c.env.kindOf y=O .local)(s:q8 a=aF)(t:q8 b=aF)
  (u:(x==y)=aI) (v:(p.line==q.line)=aF) (B:AP 8 a=aI) (C:AQ 8 a=aI):
  ae2 [.Tuple [.Name x p,.Name y q] k g] (.Tuple [a,b] d m) c.env=pure (O [x,y]):=by
 have D:c.env.blockKind= .function:=by unfold ae3;refine M H.kind ?_;rfl
 have E:q.line=p.line:=(beq_iff_eq.mp v).symm;have F:(y==x)=false:=beq_eq_false_iff_ne.mpr fun e=>(beq_eq_false_iff_ne.mp u) e.symm;have G:(c.env.blockKind != .function)=false:=by refine M D ?_;rfl
 have I:∀f:Expr→aU,(∀e,q8 e=aF→f e=aI)→[a,b].any f=false:=fun f h=>by refine(M (h a s) (M (h b t) ?_):(f a ||(f b ||false))=aI);rfl
 have K:(c.env.kindOf x==O NameKind.local && p.line==p.line)=true:=by refine M o ?_;simp
 have L:(c.env.kindOf y==O NameKind.local && q.line==p.line)=true:=by refine M r ?_;simp[E]
 have N:∀f:Expr→aG Str,f (.Name x p)=O x→f (.Name y q)=O y→List.filterMap f [.Name x p,.Name y q] =[x,y] :=fun f a b=>(ae4 a).trans (aT (x:: ·) ((ae4 b).trans rfl));have Q:[x,y].eraseDups.length=2:=by simp[F,List.eraseDups_cons]
 refine(aP fun z=>cL (G.symm.trans z)).trans ((aP fun z=>cL ((I _ ?_).symm.trans z)).trans ?_)
 ·intro e h;cases e with
  |Starred=>exact absurd h cL| _=>rfl
 refine(aT (fun l:aD Str=>(if(l.length !=2 ||l.eraseDups.length !=l.length)=aF then pure aB else if [a,b].all (AQ 8)=aF then pure aB
  else if [a,b].all (AP 8)=aF then unsupported "assign.tuple-of-constant-expressions:order-of-the-stores" >>=fun J=>pure (O l) else pure (O l):cR (aG (aD Str))))
  (N _ (aR K) (aR L))).trans ?_
 exact(aP (by refine M Q ?_;exact cL)).trans ((aP fun z=>cL ((by refine M C ?_;rfl:(AQ 8 a && (AQ 8 b && aF))=aI).symm.trans z)).trans
  (aP fun z=>cL ((by refine M B ?_;rfl:(AP 8 a && (AP 8 b && aF))=aI).symm.trans z)))
theorem U1{c:Cx}{K:PK}{m:Str→aG aJ}{mu:Mu}{s:aM}{σ:Sg}(Y:Hyp w A c sc tb P n)(e:E)(ex:Expr)(ho:bC sc tb e ex=aF)(hl:u9 e=aF){xs:aD PV}(hx:ev P σ e=O (.lst xs))(G:Gd w c tb K m mu s σ):
  kX w A c K m mu (eval ex c.env) xs s:=by
 cases e with
 |lst es=>
  refine x9 ho fun bE p h=>aQ (dP hx) fun ys e1 e2=> ?_;(refine xa (iZ e2) ?_;rintro⟨p1,p2⟩ e2);obtain rfl:=PV.lst.inj (cA e2);exact Uv (u7 Y es _ h ys e1) p1 p2 G.F G.L G.Mi
 |lO es=>
  refine jF ho fun x p l q h=>jU h fun e h=>jF h fun y p2 args q2 h=>xa (aY h) fun h h6=>xa (aY h) fun h h5=>xa (aY h) fun h h4=> ?_;refine xa (aY h) fun h h3=>xa (aY h) fun h1 h2=> ?_;replace h6:=(no ..)▸h6;exact aQ (dP hx) fun ys e1 e2=>I4 Y h1 h2 h3 h4 h5 (xo.mp h6) (u7 Y es _ h5 ys e1) e2 G.F G.L G.Mi
 |oM a=>
  refine jF ho fun x p l q h=>jU h fun e h=>xa (aY h) fun h h3=>xa (aY h) fun h1 h2=>aQ (dP hx) fun y e1 e2=> ?_;(refine dB (Js e2) ?_;rintro z rfl p e2);obtain rfl:=PV.lst.inj e2;exact I5 Y h1 h2 h3 ((cY Y a _ h3).1 _ e1) p G.F G.L G.Mi
 | _=>exact absurd hl cL
theorem JX{g:bG}{id:eA}{e:Expr}{k:aJ}{c:gI}{s:aM}{Q:aJ→aM→Prop}{E:aJ→aM→Prop}(d:dF [e] c=(aI,eval e c)::dF [] c)
  (h:aN (aO pg w) A (eval e c) (fun v l=>aN (aO pg w) A (call (.builtin id) [k,v]) Q E l) E s):
  aN (aO pg w) A (GQ g (.builtin id) [k] (jB g (dF [e] c)) []) Q E s:=by
 refine nt (by refine M d ?_;rfl) (iE (by refine M d ?_;intro h;cases h) (by refine M d ?_;rfl) (iC (wpAny_mono h (fun v o m=>jC m) fun J J x=>x) d))
noncomputable def PS(w:aV)(A:bX)(sc:dN)(tb:Tb)(P:bT)(n:aA)(st:S):Prop:=∀(d:bR) (c:Cx) (g h:Sg) (k:Fl),Hyp w A c sc tb P n→j8 sc tb st d=aF→ex P st g=O (k,h)→sW w A c tb g (ji d c.env) k h
noncomputable def PB(w:aV)(A:bX)(sc:dN)(tb:Tb)(P:bT)(n:aA)(b:B):Prop:=∀(d:aD bR) (c:Cx) (g h:Sg) (k:Fl),Hyp w A c sc tb P n→dX sc tb b d=aF→bE P b g=O (k,h)→sW w A c tb g (eH d c.env) k h
theorem nL{g k:Type}{a c:g}{b d:k}(h:O (a,b)=O (c,d)):a=c∧b=d:=qM (cA h)
theorem ti{c d:Type}{o:aG c}{f:c→d}{z:d}(h:o.map f=O z):∃x,o=O x∧f x=z:=l8.mp h
section
variable{i j:aA}{e f ix:E}{a b:B}
theorem JY:PS w A sc tb P n (.asg i e):=fun I c L N Q Y k l=>sV k fun R v S h=>jU h fun t h=>jd h fun x p h=>by obtain⟨o,d⟩:=aY h;refine aQ (dP l) fun y q r=>aQ (ti r) fun z u B=> ?_;obtain⟨rfl,rfl⟩:=qM B;obtain⟨rfl,_⟩:=rf u;intro K m T s G;exact iX (((cY Y e _ d).ev q G).then fun U v W g C D E=>kB (G.of g C) Y.H o E fun X F H=>jt g (D.step .refl H) .refl F) (qg d _ _ _)
theorem JZ:PS w A sc tb P n (.mq i e):=fun py c σ σ' fl Y ho hx=>sV ho fun ts v pos h=>jU h fun t h=>jd h fun x p h=>by
 refine xa (aY h) fun h h3=>xa (aY h) fun h1 h2=>xa (re hx) fun J hx=>aQ (JJ hx) fun xs e1 hx=> ?_;(refine xa (nL hx) ?_;rintro rfl rfl);intro K m mu s G;refine iX (wpAny_mono (U1 Y e v h2 h3 e1 G) (fun u s1 hu=> ?_) fun J J x=>x) (qg h2 _ _ _);obtain⟨K1,a,vs,nn,k1,F1,b1,rfl,g,g1,g2,g3,g4,g5,r⟩:=hu;refine uw (name_kind Y.H h1) F1.ns (fun h' hn hs=> ?_) (va Y.H);have hk:∀b o,b≠c.env.locals→s1.heap.get? b=O o→h'.get? b=O o:=fun b o n e=>(hs.2 b n).trans e;refine jt (mw:=O (a,vs,aF)) k1 (b1.step .refl fun b o e n1 J J=>hk b o n1 e) (fun z hz=> ?_) ⟨?_,UV Y.H h1 (G.L.mono k1),.some r,fun J J J e J=>by cases e;rfl⟩
 ·cases hz;exact .inr g5
 ·refine{ns:=hn,keep:=fun b o e=>hk b o ?_ (F1.keep b o e),dH:=F1.dH,low:=F1.low,le:=F1.le,cT:=fun b o n e=>hk b o ?_ (F1.cT b o n e),new:=F1.new,cX:=F1.cX,mul:=fun a' its fl e=> ?_,gens:=F1.gens,os:=F1.os,base:=F1.base,dO:=F1.dO,eX:=F1.eX,tabs:=fun t ht=>(F1.tabs t ht).mono (fun J J e=>e) (fun o=>hk _ o (F1.off F1.cX t ht))}
  ·intro hy;(replace e:=hy▸e;replace e:=F1.dH▸e);exact gK.nn e
  ·intro hy;(replace e:=hy▸e;replace e:=F1.cX▸e);exact gK.nn e
  ·cases e;exact⟨⟨⟨_,hk _ _ g2 g,rfl,nn,rfl⟩,fun J=>⟨nn,hk _ _ g2 g⟩⟩,g1,g2,g4⟩
theorem J0{is:aD aA}:PS w A sc tb P n (.jm is e):=fun py c σ σ' fl Y ho hx=>sV ho fun ts v pos h=>jU h fun t h=>sO h fun us k p h=>by
 refine xa (aY h) fun h h3=>xa (aY h) fun h1 h2=> ?_;replace h3:=(no ..)▸h3;refine aQ (UE hx) fun xs e1 hx=> ?_
 by_cases hl:xs.length=is.length
 ·replace hx:=(aR hl)▸hx;(refine xa (nL hx) ?_;rintro rfl rfl);intro K m mu s G;refine aho (((cY Y e _ h2).ev e1 G).then fun K1 v1 s1 k1 F1 b1 r1=> ?_) (UY (qg h2 _ _ _)) (UZ h3);(refine il r1.sG ?_;rintro a ob its nn rfl g1 g2 g3 g4);refine xa (JW h1) fun l1 l2=>xa (l2 c.env) fun l2 l3=> ?_;have hsz:its.size=xs.length:=aS g4.length (M iL V);refine wpAny_bind (jg (ae5 Y.hh (items:=its) ⟨ob,F1.keep _ _ g1,g2,nn,g3⟩ (by refine M hsz (M l2 ?_);exact hl.symm) l3 fun h' hs=> ?_));have hk:∀b o,s1.heap.get? b=O o→h'.get? b=O o:=fun b o e=>hs b o (fG (fA e)) e;exact JV Y.H h1 g4 hl (G.of k1 (F1.grow (tk:=s1.toks) hk)) k1 (b1.step .refl (.of_keeps hk)) .refl
 ·replace hx:=(aP hl)▸hx;exact nn hx
theorem J1:PS w A sc tb P n (.mU i j e f):=fun a9 c a' aa ab Y C D=>sV C fun ae af ah h=>jU h fun t h=>sO h fun ai aj ak h=>sQ h fun al am h=>jd h fun x an h=>jd h fun y ao h=>sO h fun ap aq ar h=>sQ h fun a b h=>by obtain⟨h,q⟩:=aY h;obtain⟨h,r⟩:=aY h;obtain⟨h,E⟩:=aY h;obtain⟨h,s⟩:=aY h;obtain⟨h,d⟩:=aY h;obtain⟨h,g⟩:=aY h;obtain⟨u,v⟩:=aY h;rw[no] at s r q;refine cS (nH D) fun as au F H I=>aQ (dP I) fun av L N=>aQ (ti N) fun aw Q R=> ?_;obtain⟨rfl,rfl⟩:=qM R;obtain⟨rfl,ax⟩:=rf L;obtain⟨rfl,ay⟩:=rf Q;intro K az b0 b1 G;refine ahp (names:=[x,y]) (Tuple_ (iC (((cY Y e _ g).ev F G).then fun b2 k b3 l S T U=>iC (((cY Y f _ d).ev H (G.of l S)).then fun b4 m z p W X a0=>jC ?_) (i0 d _ _)) (i0 g _ _))) V (U0 Y.H (name_kind Y.H u) (name_kind Y.H v) (qe g) (qe d) s E r q);have a1:=U.mono p;refine nr (?_) (by show(2:aA)≤eF;decide);refine wpAny_unpackItems_tuple Y.hh (items:= #[k,m]) ⟨_,fP _ V,rfl,0,rfl⟩ fun a2 a3=> ?_;have B:∀b o,z.heap.get? b=O o→a2.get? b=O o:=fun b o e=>a3 b o (fG (fA (ky (o:={cls:= .type "tuple",data:= .seq [k,m].toArray}) _ _ e))) (ky _ _ e);have a4:=G.of (l.trans p) (W.grow (tk:=z.toks) B);refine(wpAny_bind (ii (uy (kB a4 Y.H v a0 fun b5 a5 a6=>wpAny_bind (ii (uy (kB a5 Y.H u a1 fun b6 a7 a8=>wpAny_pure ?_)))))):aN (aO pg w) A (ae0 [GU c.env y,GU c.env x] [m,k]) _ _ _);exact jt (l.trans p) ((((T.step .refl X).step .refl (.of_keeps B)).step .refl a6).step .refl a8) .refl a7
theorem J2:PS w A sc tb P n (.uR i j e):=fun L c N Q R Y k l=>sV k fun S v T h=>sQ h fun U W h=>jd h fun x p h=>jd h fun y q h=>by obtain⟨h,m⟩:=aY h;obtain⟨o,r⟩:=aY h;refine aQ (dP l) fun z s t=>aQ (ti t) fun X u B=> ?_;obtain⟨rfl,rfl⟩:=qM B;obtain⟨rfl,_⟩:=rf u;intro K a0 a1 a2 G;refine wpAny_Assign_two (((cY Y e _ m).ev s G).then fun a3 a4 a5 d C D g=> ?_);refine wpAny_bind (jg (uy (kB (G.of d C) Y.H o g fun a6 E F=> ?_)));exact wpAny_bind (jg (uy (kB E Y.H r g fun a7 H I=>jt d ((D.step .refl F).step .refl I) .refl H)))
theorem J3{o:i7}:PS w A sc tb P n (.aug i o e):=fun S c T U W Y m d=>JD m fun t X a0 a1 h=>jd h fun x a2 h=>by refine xa (aY h) fun h p=>xa (aY h) fun g q=> ?_;obtain rfl:=jq q;refine aQ (UF d) fun r s d=>aQ (dP d) fun a3 u v=>aQ (ti v) fun z y B=> ?_;(refine xa (qM B) ?_;rintro rfl rfl);intro K a4 a5 a6 G;refine aQ (G.L i x aF r (beq_iff_eq.mp g) s) fun a7 C D=>wpAny_AugAssign_Name (GF Y.H.kind (name_kind Y.H g) G.F.ns C ?_);exact((cY Y e _ p).ev u G).then fun a8 a9 a' k E F H=>(JL y E (D.mono k) H).then fun aa ab ae l I L N=>kB (G.of (k.trans l) I) Y.H g N fun af Q R=>jt (k.trans l) ((F.step .refl L).step .refl R) .refl Q
theorem J4:PS w A sc tb P n (.oN i ix e):=fun S c T U W Y q r=>sV q fun X v a0 h=>jU h fun t h=>qb h fun b a1 a2 h=>jd h fun x p h=>by obtain⟨h,l⟩:=aY h;obtain⟨m,s⟩:=aY h;refine aQ (dP r) fun a3 u y=>aQ (dP y) fun a4 z d=> ?_;obtain⟨rfl,B⟩:=rf z;obtain⟨C,d⟩:=re d;refine aQ (Cc d) fun a5 D d=> ?_;intro K a6 a7 a8 G;refine Rz (((cY Y e _ l).ev u G).then fun a9 a' aa o E F H=> ?_) (qg l _ _ _);have g:=G.of o E;refine dB (vg (pos:=p) (A:=A) Y.H m C g) fun a I J L=>Cn Y.H m g L (((cY Y ix _ s).ev D g).then fun ab ae af k N Q R=> ?_);obtain⟨t,rfl⟩:=R.int_inv;exact JN d (g.of k N) I ((H.mono k).any B) (o.trans k) (F.step .refl Q) .refl
theorem U2{o:i7}{x y z:PV}(h:jV o x y=O z):z≠ .bV:=by
 rintro rfl;cases x with
 |int=>cases y with
  |int=>cases o<;>first |exact nn h |exact nomatch cA h |exact nomatch cA (iZ h).2
  | _=>exact nn h
 |str=>cases y with
  |str=>cases o<;>first |exact nn h |exact nomatch cA (iZ h).2
  | _=>exact nn h
 | _=>exact nn h
theorem J5{o:i7}:PS w A sc tb P n (.sJ i ix o e):=fun a6 a7 a8 a9 a' Y B c=>JD B fun t aa ab ae h=>qb h fun b C af h=>jd h fun x p h=>by
 refine xa (aY h) fun h D=>xa (aY h) fun h E=>xa (aY h) fun m d=> ?_;obtain rfl:=jq E;refine xa (re c) fun F c=>aQ (Cc c) fun ah H c=>aQ (dP c) fun ai I L=>aQ (dP L) fun aj N Q=> ?_;refine aQ (dP Q) fun z q R=> ?_;intro K ak al am G;refine dB (vg (pos:=p) (A:=A) Y.H m F G) fun a r J S=>wpAny_AugAssign_SubscriptAny (Cn Y.H m G S (((cY Y ix _ d).ev H G).then fun an ao ap s T U W=> ?_)) (fun aq ar as=> ?_)
 ·(refine xe W.int_inv ?_;rintro t rfl);have g:=G.of s T;exact(UK I g r).then fun au av aw k u X a0=>((cY Y e _ D).ev N (g.of k u)).then fun ax ay az l v a1 a2=>(JL q v (a0.mono l) a2).then fun b0 b1 b2 y a3 a4 a5=>JN R (((g.of k u).of l v).of y a3) r (a5.any (U2 q)) (((s.trans k).trans l).trans y) ((((U.step .refl X).step .refl a1)).step .refl a4) .refl
 ·have d:=qe d;cases C with
  |Slice _ _ _ _=>exact absurd d cL| _=>rfl
theorem J6:PS w A sc tb P n (.app i e):=fun a3 c B a4 a5 Y d o=>B' d fun a6 a7 h=>Cb h fun x p a8 args a9 s C h=>jU h fun a' d=>by
 obtain⟨k,o⟩:=re o;have k:=aY k;refine aQ (dP o) fun aa D E=>aQ (dP E) fun ab F H=> ?_;obtain⟨rfl,I⟩:=rf F;refine aQ (dP H) fun ae L q=> ?_;obtain⟨N,q⟩:=iZ q;obtain⟨rfl,rfl⟩:=nL q;intro K af ah ai G;refine dB (vg (pos:=p) (A:=A) Y.H s k.1 G) fun a l J Q=>eP (vb G.Mi L) fun R t f g v=> ?_;obtain rfl:R=a:=by replace l:=g▸l;exact cA l
 have y:=G.fl _ _ _ g k.2;refine ri Y.H V (Co Y.H s C G Q ⟨_,(G.F.mul _ _ _ g).1.2 y⟩ slot_list_append type_list_append (by refine M (i0 d ..) ?_;rfl) (by show 1 < 20;decide) (JX (i0 d [] c.env) (((cY Y e _ d).ev D G).then fun aj u S r T U W=> ?_)));have z:=G.of r T;refine ae6 ((z.F.mul _ _ _ g).1.2 y) (fun ak m X=> ?_) (by refine M kO (M v.length (M cN ?_));exact aL N (by decide));have a0:t.toArray.push u=(t++[u]).toArray:=by simp
 replace m:=a0▸m;exact iD (z.yl (tk:=S.toks) (qh:=aF) (sX:=B.pl) g m.isList (fun J=>m) X ((v.mono r).append (.cons (W.any I) .nil)) (fun J=>rfl)) fun a1 a2 al=>jt r (U.step .refl a2) (fun J e=>by cases e;exact .inl l) a1
theorem U3{k:PV}{c:aD PV}{x:PV}{d:Sg}{g:Fl}{l:Sg}(h:(match k with
  | .int k=>aZ (0≤k∧k≤1000∧c.length≤1000) (O (Fl.next,{d with mu:=O (c.take k.toNat++x::c.drop k.toNat)}))| _=> .none)=O (g,l)):∃i,k= .int i∧(0≤i∧i≤1000∧c.length≤1000)∧ .next=g∧{d with mu:=O (c.take i.toNat++x::c.drop i.toNat)}=l:=by
 cases k with
 |int k=>(refine xa (iZ h) ?_;rintro p h);have h:=nL h;exact⟨k,rfl,p,h.1,h.2⟩| _=>exact nn h
theorem J7:PS w A sc tb P n (.ins i e f):=fun au c a2 av a3 Y D E=>B' D fun aw F h=>Cb h fun x a4 ax args ay p H h=>sQ h fun u v D=>by
 refine xa (aY D) fun Q R=>xa (re E) fun q E=> ?_;have q:=aY q;refine cS (nH E) fun k a5 a6 a7 a8=>aQ (dP a8) fun az a9 a'=> ?_;(refine xa (rf a9) ?_;rintro rfl aa);refine aQ (dP a') fun g ab ae=> ?_;(refine mT (U3 ae) ?_;rintro k rfl ⟨S,af,ah⟩ rfl rfl);intro K b0 b1 b2 G;refine dB (vg (pos:=a4) (A:=A) Y.H p q.1 G) fun a r J ai=>eP (vb G.Mi ab) fun s d a3 m I=> ?_;have:s=a:=by replace r:=m▸r;cases r;rfl
 subst this;have T:=G.fl _ _ _ m q.2;have y:dF [u,v] c.env=(aI,eval u c.env)::dF [v] c.env:=i0 Q [v] c.env;have L:dF [v] c.env=(aI,eval v c.env)::dF [] c.env:=i0 R [] c.env;have U:∀F:bG,(jB F (dF [u,v] c.env)).any (·.1)=false:=fun F=>by refine M y (M L ?_);rfl
 refine ri Y.H V (Co Y.H p H G ai ⟨_,(G.F.mul _ _ _ m).1.2 T⟩ ae7 PySem.F.type_list_insert (by refine M y (M L ?_);rfl) (by show 2 < 20;decide) (nt (U _) (iE (by refine M y ?_;intro h;cases h) (U _) (iC (((cY Y e _ Q).ev a6 G).then fun b3 b4 b5 o aj ak al=>iC (((cY Y f _ R).ev a7 (G.of o aj)).then fun b6 z W B X am an=>jC ?_) L) y))));(refine xe al.int_inv ?_;rintro t rfl);have ao:=G.of (o.trans B) X;refine xe ((X.mul _ _ _ m).1.2 T) fun C N=>xk ae7 ⟨_,N,rfl⟩ PySem.F.entry_list_insert (PySem.F.args_list_insert_3 _ _ _) (ahq s d.toArray C k t z (by refine M (fitsIndex_of S (iV af (by decide))) ?_;decide) (by refine M kO (M I.length (M cN ?_));exact aL ah (by decide))) ⟨N,?_⟩
 let l:=d.take k.toNat++z::d.drop k.toNat
 have ap:l.toArray.size≠d.toArray.size:=by simp[l,ni,iB];omega
 have aq:(d.toArray.extract 0 (min k.toNat d.toArray.size)).push z++d.toArray.extract (min k.toNat d.toArray.size)=l.toArray:=by
  apply Gn.mp;simp only[lH,RA,Array.toList_extract,kO,l,ae8,nu,so,eZ,List.singleton_append];have p:d.take (min k.toNat d.length)=d.take k.toNat:=aS List.take_take (M Av V)
  have H:(d.drop (min k.toNat d.length)).take (d.length - min k.toNat d.length)=d.drop k.toNat:=by
   refine M (mG (by simp)) ?_;rcases sp k.toNat d.length with h |h
   ·exact M (l4 h) V
   ·exact M (uA h) (M aeX (M (AS h) V))
  exact M p (M H V)
 have a0:(W.heap.update s (mK fun g:eW aJ=>have a1:=if k < 0 then(k+((g.size:aA):Z)).toNat else min k.toNat g.size;(g.extract 0 a1).push z++g.extract a1)).get? s=O {cls:= .type "list",data:= .seq l.toArray (C+1)}:=by refine M (r8 _ N V) ?_;unfold mK;simp only[aP (i9.mpr S:¬k < 0),aq];have:(l.toArray.size==d.toArray.size)=false:=beq_eq_false_iff_ne.mpr ap;refine M this ?_;rfl
 exact iD (ao.yl (tk:=W.toks) (its':=l) (qh:=aF) (sX:=a2.pl) m ⟨_,a0,rfl,C+1,rfl⟩ (fun J=>⟨C+1,a0⟩) (qB ..) (xs':=g.take k.toNat++a5::g.drop k.toNat) (((I.mono (o.trans B)).take _).append (.cons (an.any aa) ((I.mono (o.trans B)).drop _))) (fun J=>rfl)) fun ar as b7=>jt (o.trans B) ((ak.step .refl am).step .refl as) (fun J e=>by cases e;exact .inl r) ar
theorem J8:PS w A sc tb P n (.uS i):=fun R c z S T Y B o=>B' B fun U W h=>Cb h fun x p X args a0 u C h=>by
 obtain rfl:=kz h;obtain⟨g,o⟩:=re o;have g:=aY g;refine aQ (dP o) fun a1 D q=> ?_;obtain⟨E,q⟩:=iZ q;obtain⟨rfl,rfl⟩:=nL q;intro K a2 a3 s G;refine dB (vg (pos:=p) (A:=A) Y.H u g.1 G) fun a r J F=>eP (vb G.Mi D) fun k t f l v=> ?_;have:k=a:=by replace r:=l▸r;cases r;rfl
 subst this;have H:=G.fl _ _ _ l g.2;have I:=(G.F.mul _ _ _ l).1.2 H;obtain⟨d,m⟩:=I;refine ri Y.H V (Co Y.H u C G F ⟨_,d,m⟩ ae9 PySem.F.type_list_reverse V (by decide) (nt V (GK ?_)));refine xk ae9 ⟨_,m,rfl⟩ PySem.F.entry_list_reverse (PySem.F.args_list_reverse_1 _) (ahr k t.toArray d (by refine M kO (M v.length (M cN ?_));exact aL E (by decide))) ⟨m,?_⟩
 have y:(s.heap.update k (mK fun x=>x.reverse)).get? k=O {cls:= .type "list",data:= .seq t.reverse.toArray d}:=by refine M (r8 _ m V) ?_;simp[mK]
 exact iD (G.yl (tk:=s.toks) (its':=t.reverse) (qh:=aF) (sX:=z.pl) l ⟨_,y,rfl,d,rfl⟩ (fun J=>⟨d,y⟩) (qB ..) v.rev (fun J=>rfl)) fun L N Q=>jt (.refl K) N Q L
theorem J9(ha:PB w A sc tb P n a)(hb:PB w A sc tb P n b):PS w A sc tb P n (.ite e a b):=fun py c σ σ' fl Y ho hx=>UA ho fun t' a' b' pos h=>by
 refine xa (aY h) fun h h3=>xa (aY h) fun h1 h2=> ?_;intro K m mu s G;rcases yg hx with⟨e1,hx⟩ |⟨e1,hx⟩
 ·refine mL (((cY Y e _ h1).2 aF e1).then G.F G.L G.Mi fun K1 s1 k1 F1 b1=> ?_);exact wpAny_mono (ha _ c σ σ' fl Y h2 hx K1 m mu s1 (G.of k1 F1)) (fun f s' o=>Out.after k1 b1 .refl o) fun J J x=>x
 ·refine mL (((cY Y e _ h1).2 aI e1).then G.F G.L G.Mi fun K1 s1 k1 F1 b1=> ?_);exact wpAny_mono (hb _ c σ σ' fl Y h3 hx K1 m mu s1 (G.of k1 F1)) (fun f s' o=>Out.after k1 b1 .refl o) fun J J x=>x
theorem J'{N:aA}(l:PB w A sc tb P n b):PS w A sc tb P n (.oO N e b):=fun y c d g k Y p q=>UB p fun z B o C h=>by refine xa (aY h) fun h r=>xa (aY h) fun t u=> ?_;obtain rfl:=kz t;intro K m v s G;exact wpAny_While (th Y.hh (UT (fun d b K m v s x G=>(cY Y e _ u).2 b x K s _ V G.F G.L G.Mi) (fun d k g e=>l _ c d g k Y r e) q G))
theorem U4{N:Z}(h:0≤N):sd 0 N 1=(N.toNat:Z):=by
 refine M (ae' ..) (M (kr h) (M (Int.sub_zero ..) ?_))
 by_cases c:0 < N
 ·exact aR c
 ·exact M (aP c) (M (RB h (i9.mp c)) V)
theorem U5{K:PK}{N j:aA}{v:aJ}{p:PV}(d:∃t,v= .int (0+(j:Z)*1) t)(c:((mH N).map fun k=>PV.int (k:aA))[j]? =O p):RV w K .none v p:=by(refine xe d ?_;clear d;rintro t rfl);replace c:=ij▸c;(refine aQ (l8.mp c) ?_;rintro q e rfl);(refine xe (l6.mp e) ?_;rintro _ rfl);refine M (aer ..) (M (RC ..) (M (sr ..) ?_));exact .int
theorem Ka(q:PB w A sc tb P n b):PS w A sc tb P n (.forR i e b):=fun E c r s u Y F k=>JG F fun t a3 a4 o a5 h=>by
 obtain⟨H,h⟩:=aY h;obtain rfl:=kz H;refine jd h fun x a6 h=>jF h fun a7 E a8 v h=>jU h fun a h=> ?_;obtain⟨h,I⟩:=aY h;obtain⟨h,y⟩:=aY h;obtain⟨h,L⟩:=aY h;obtain⟨Q,R⟩:=aY h;obtain rfl:=q0 R;refine aQ (Cc k) fun N z k=> ?_;obtain⟨⟨B,v⟩,k⟩:=iZ k;intro K m S a9 G;have l:dF [a] c.env=(aI,eval a c.env)::dF [] c.env:=i0 y [] c.env;refine AT (wpAny_Call_NameR (qd Y.H L G.F (Y.S.bi "range" (by decide)) (v:= .type "range") (by decide+kernel) (by decide+kernel) ?_)) (fun J=>rfl);refine pH (by refine M l ?_;rfl) (iE (by refine M l ?_;intro h;cases h) (by refine M l ?_;rfl) (iC (((cY Y e _ y).ev z G).then fun g a' d C T U W=>jC ?_) l));obtain⟨t,rfl⟩:=W.int_inv;refine call_range_1 <|wpAny_pyIter_range (fP _ V) (small_one (by decide) (by decide) (cK (by decide) B) (iV v (by decide))) (th Y.hh ?_)
 refine M (U4 B) ?_;have D:Fm c g m S {d with heap:=(d.heap.push {cls:= .type "range",data:= .fields #[.int 0 d.toks,.int N t,.int 1 (d.toks+1)]}),toks:=d.toks+1+1}:=T.push;have X:=D.push (o:={cls:= .type "range_iterator",data:= .fields #[lK 0,lK (N.toNat:Z),lK 1]}) (tk:=d.toks+1+1);have p:=D.fresh
 have a0:IsRangeIter ((d.heap.push {cls:= .type "range",data:= .fields #[.int 0 d.toks,.int N t,.int 1 (d.toks+1)]}).push {cls:= .type "range_iterator",data:= .fields #[lK 0,lK (N.toNat:Z),lK 1]}) (d.heap.push {cls:= .type "range",data:= .fields #[.int 0 d.toks,.int N t,.int 1 (d.toks+1)]}).objs.size (0+((0:aA):Z)*1) ((N.toNat:Z) - ((0:aA):Z)) 1:=by
  have:=fP (d.heap.push {cls:= .type "range",data:= .fields #[.int 0 d.toks,.int N t,.int 1 (d.toks+1)]}) (o:={cls:= .type "range_iterator",data:= .fields #[lK 0,lK (N.toNat:Z),lK 1]}) V;have aa:(0:Z)+((0:aA):Z)*1=0:=(by decide);have z:(N.toNat:Z) - ((0:aA):Z)=N.toNat:=by omega
  exact this
 refine uz (Cg (K:=g) (hs:=(d.heap.push {cls:= .type "range",data:= .fields #[.int 0 d.toks,.int N t,.int 1 (d.toks+1)]})) (σ:=r) Y.H Q (Walks.range Y.hh _ 0 1 N.toNat) (by simp) (fun g a1 h r u s e=>q _ _ r s u (Y.here g a1 h) I e) (fun J J J J J=>U5) (fun j h st=>⟨_,st⟩) (fun b q=> .inl (by simpa using q)) p.2.1 p.2.2.1 p.1 p.2.2.2 fR (.of_keeps ky) (.refl g) k (G.of C X) a0) fun a2 ab x=> ?_;cases a2 with
 |error _=>exact x|ok f=>exact Out.after C U .refl (Out.after (s1:={d with heap:=(d.heap.push {cls:= .type "range",data:= .fields #[.int 0 d.toks,.int N t,.int 1 (d.toks+1)]})}) (.refl g) (.of_keeps ky) .refl x)
theorem Kb{rev:aU}(hb:PB w A sc tb P n b):PS w A sc tb P n (.forL i rev e b):=fun py c σ σ' fl Y ho hx=>JG ho fun t it b' o pos h=>by
 refine xa (aY h) fun h0 h=> ?_;obtain rfl:=kz h0;refine jd h fun x px h=>xa (aY h) fun h h3=>xa (aY h) fun h1 h2=>aQ (JJ hx) fun xs e1 hx=> ?_;refine xa (iZ hx) fun p hx=> ?_;intro K m mu s G;cases rev with
 |false=>
  have h3:bC sc tb e it=true:=h3;have hx:gM (bE P b) i xs σ=O (fl,σ'):=hx
  refine AT (((cY Y e _ h3).ev e1 G).then fun K1 v s1 k1 F1 b1 r1=> ?_) (fun J=>by
   have h3:=qe h3;cases it with
   |GeneratorExp=>exact absurd h3 cL|Set=>exact absurd h3 cL| _=>rfl)
  (refine il r1.lst_inv ?_;rintro a ob its nn rfl g1 g2 g3 g4);have hl:s1.heap.IsList a its:=⟨ob,F1.keep _ _ g1,g2,nn,g3⟩;refine RD hl (th Y.hh ?_);have fr:=F1.fresh;have vh:a≠s1.heap.objs.size:=fun z=>by have:=F1.keep _ _ g1;(replace this:=z▸this;replace this:=fR▸this);exact gK.nn this
  have F3:=F1.push (o:={cls:= .type "list_iterator",data:= .fields #[.ref a,.int 0 0]}) (tk:=s1.toks);have hsz:xs.length=its.size:=by refine aS g4.length ?_;exact rfl
  refine uz (Cg (K:=K1) (hs:=s1.heap) (σ:=σ) Y.H h1 (afa Y.hh s1.heap.objs.size a vh its) hsz (fun K1 gN h σ fl σ' e=>hb _ _ σ σ' fl (Y.here K1 gN h) h2 e) (fun K' j v q hk hv hj=> ?_) (fun j h st=> ?_) (fun z hz=> ?_) fr.2.1 fr.2.2.1 fr.1 fr.2.2.2 fR (.of_keeps ky) (.refl K1) hx (G.of k1 F3) ⟨?_,hl.push _⟩) fun r s' x=> ?_
  ·refine aQ (g4.get hj) fun v' e2 r2=> ?_;replace e2:=pz▸e2;replace e2:=hv▸e2;cases e2;exact r2.mono hk
  ·refine aQ st.1 fun o e2 J=> ?_;exact⟨o,e2⟩
  ·simp at hz;rcases hz with rfl |rfl
   ·exact .inl V
   ·exact .inr ⟨ob,g1⟩
  ·exact⟨_,fP _ V,rfl,rfl⟩
  ·cases r with
   |error _=>exact x|ok f=>exact Out.after k1 b1 .refl x
 |true=>
  have hx:gM (bE P b) i xs.reverse σ=O (fl,σ'):=hx;refine jF h3 fun y py l p2 h=>jU h fun a h=>xa (aY h) fun h h6=>xa (aY h) fun h4 h5=> ?_;obtain rfl:=q0 h4;have es:dF [a] c.env=(aI,eval a c.env)::dF [] c.env:=i0 h6 [] c.env;refine AT (wpAny_Call_NameR (qd Y.H h5 G.F (Y.S.bi "reversed" (by decide)) (v:= .type "reversed") (by decide+kernel) (by decide+kernel) ?_)) (fun J=>rfl);refine pH (by refine M es ?_;rfl) (iE (by refine M es ?_;intro h;cases h) (by refine M es ?_;rfl) (iC (((cY Y e _ h6).ev e1 G).then fun K1 v s1 k1 F1 b1 r1=>jC ?_) es));(refine il r1.lst_inv ?_;rintro a' ob its nn rfl g1 g2 g3 g4);have hl:s1.heap.IsList a' its:=⟨ob,F1.keep _ _ g1,g2,nn,g3⟩;refine call_reversed_list hl ?_;have hit:(s1.heap.push (revObj a' ((its.size:Z) - 1))).IsRevIter s1.heap.objs.size a' ((its.size:Z) - 1):=⟨_,fP _ V,rfl,rfl⟩;refine wpAny_pyIter_revIter hit (th Y.hh ?_);have fr:=F1.fresh;have vh:a'≠s1.heap.objs.size:=fun z=>by have:=F1.keep _ _ g1;(replace this:=z▸this;replace this:=fR▸this);exact gK.nn this
  have F3:=F1.push (o:=revObj a' ((its.size:Z) - 1)) (tk:=s1.toks);have hsz:xs.reverse.length=its.size:=by refine M xp (aS g4.length ?_);exact rfl
  refine uz (Cg (K:=K1) (hs:=s1.heap) (σ:=σ) Y.H h1 (Walks.listRev Y.hh s1.heap.objs.size a' vh its) hsz (fun K1 gN h σ fl σ' e=>hb _ _ σ σ' fl (Y.here K1 gN h) h2 e) (fun K' j v q hk hv hj=> ?_) (fun j h st=> ?_) (fun z hz=> ?_) fr.2.1 fr.2.2.1 fr.1 fr.2.2.2 fR (.of_keeps ky) (.refl K1) hx (G.of k1 F3) ⟨jR _,by simpa using hit,hl.push _⟩) fun r s' x=> ?_
  ·have U6:j < xs.length:=by
    rcases ou j xs.length with h |h
    ·exact h
    ·rw[xq (by simpa using h)] at hj;cases hj
   replace hj:=(afb U6)▸hj;refine aQ (g4.get hj) fun v' e2 r2=> ?_;replace e2:=pz▸e2;have Cp:its.size=xs.length:=by refine aS hsz ?_;simp
   replace hv:=Cp▸hv;replace e2:=hv▸e2;cases e2;exact r2.mono hk
  ·refine aQ st.2.1 fun o e2 J=> ?_;exact⟨o,e2⟩
  ·simp at hz;rcases hz with rfl |rfl
   ·exact .inl V
   ·exact .inr ⟨ob,g1⟩
  ·cases r with
   |error _=>exact x|ok f=>exact Out.after k1 b1 .refl x
theorem U7{x:PV}{σ σ':Sg}{fl:Fl}(h:(match x with
  | .bV=>σ.mu.map fun xs=>(Fl.ret (.lst xs),σ)|x=>O (.ret x,σ))=O (fl,σ')):(x= .bV∧∃xs,σ.mu=O xs∧fl= .ret (.lst xs)∧σ=σ')∨(x≠ .bV∧fl= .ret x∧σ=σ'):=by
 by_cases hx:x= .bV
 ·subst hx;refine aQ (ti h) fun xs e h=> ?_;obtain⟨rfl,rfl⟩:=qM h;exact .inl ⟨rfl,xs,e,rfl,rfl⟩
 ·refine .inr ⟨hx,?_⟩;cases x with
  |bV=>exact absurd rfl hx| _=>obtain⟨rfl,rfl⟩:=nL h;exact⟨rfl,rfl⟩
theorem Kc:PS w A sc tb P n (.ret e):=fun H c I L N Y d p=>UC d fun v Q h=>IR h fun v d=>by
 refine aQ (dP p) fun x q r=> ?_;intro K m t s G;refine nv (((cY Y e _ d).ev q G).then fun u v R g k l o=> ?_);rcases U7 r with⟨rfl,S,y,rfl,rfl⟩ |⟨z,rfl,rfl⟩
 ·(refine aQ o.pS ?_;rintro a B rfl);exact dB ((G.of g k).freeze y) fun C D E F=>⟨C,m,aB,g.trans D,l,(fun J e=>by cases e),_,rfl,E.F,F a B⟩
 ·exact⟨u,m,t,g,l,.refl,v,rfl,k,o.any z⟩
theorem Kd:PS w A sc tb P n .brk:=fun k c l o q Y d g=>UD d fun p J=>by(refine xa (nL g) ?_;rintro rfl rfl);exact fun K m h s G=>wpAny_Break ⟨K,m,h,.refl K,.refl,.refl,rfl,G⟩
theorem Ke:PB w A sc tb P n .nil:=fun h c k l o Y d g=>by obtain rfl:=kz d;obtain⟨rfl,rfl⟩:=nL g;exact fun K m p s G=>wpAny_execs_nil (jt (.refl K) .refl .refl G)
theorem Cq{i:aA}{d g:Sg}{k:Fl}(h:ex P (.kS i) d=O (k,g)):∃c,d.mu=O c∧k= .next∧d.freeze c=g:=by refine xa (re h) fun J h=>aQ (ti h) fun c e h=> ?_;(refine xa (qM h) ?_;rintro rfl rfl);exact⟨c,e,rfl,rfl⟩
theorem U8{st:S}(h:yj st=aF):∃i,st= .kS i:=S.kS.elim (motive_1:=fun st=>∃i,st= .kS i) st (eq_of_beq h) fun i=>⟨i,rfl⟩
theorem Kf{st:S}(C:PS w A sc tb P n st)(H:PB w A sc tb P n b):PB w A sc tb P n (.cons st b):=fun h c D I L Y d g=>by
 have d:((yj st).rec (h.rec aI fun p r J=>j8 sc tb st p && dX sc tb b r) (dX sc tb b h):aU)=true:=d;cases N:yj st with
 |true=>
  obtain⟨i,rfl⟩:=U8 N;have d:dX sc tb b h=true:=d;rcases yk g with⟨eJ,e,g⟩ |⟨eJ,e,g⟩ |⟨u,eJ,e,g⟩
  ·(refine dB (Cq e) ?_;rintro a1 Q _ rfl);intro K m B s G;exact dB (G.freeze Q) fun R T U J=>wpAny_mono (H _ c _ I L Y d g R m aB s U) (fun f W o=>Out.after T .refl (fun J e=>by cases e) o) fun J J x=>x
  ·exact nomatch (Cq e).choose_spec.2.1
  ·exact nomatch (Cq e).choose_spec.2.1
 |false=>
  replace d:=N▸d;cases h with
  |nil=>exact absurd d cL
  |cons p h=>
   have d:j8 sc tb st p=aF∧dX sc tb b h=true:=aY d;intro K m B s G;refine wpAny_execs_cons ?_;rcases yk g with⟨eJ,e,g⟩ |⟨eJ,e,g⟩ |⟨u,eJ,e,g⟩
   ·refine wpAny_mono (C _ c D eJ .next Y d.1 e K m B s G) (fun f E o=> ?_) fun J J x=>x;obtain⟨k,l,q,t,y,z,rfl,F⟩:=o;exact wpAny_mono (H _ c eJ I L Y d.2 g k l q E F) (fun f W o=>Out.after t y z o) fun J J x=>x
   ·obtain⟨rfl,rfl⟩:=nL g;refine wpAny_mono (C _ c D _ .brk Y d.1 e K m B s G) (fun f E o=> ?_) fun J J x=>x;obtain⟨k,l,q,t,y,z,rfl,F⟩:=o;exact⟨k,l,q,t,y,z,rfl,F⟩
   ·obtain⟨rfl,rfl⟩:=nL g;refine wpAny_mono (C _ c D _ (.ret u) Y d.1 e K m B s G) (fun f E o=> ?_) fun J J x=>x;obtain⟨k,l,q,t,y,z,v,rfl,X,a0⟩:=o;exact⟨k,l,q,t,y,z,v,rfl,X,a0⟩
end
theorem Kg:(∀st,PS w A sc tb P n st)∧∀b,PB w A sc tb P n b:=
 ⟨fun st=>S.rec (motive_1:=PS w A sc tb P n) (motive_2:=PB w A sc tb P n) (fun J J=>JY) (fun J J=>JZ) (fun J J=>J0) (fun J J J J=>J1) (fun J J J=>J2) (fun J J J=>J3) (fun J J J=>J4) (fun J J J J=>J5) (fun J J=>J6) (fun J J J=>J7) (fun J=>J8) (fun J J J J J J J h=>absurd h cL) (fun J J J d c=>J9 d c) (fun J J J c=>J' c) (fun J J J c=>Ka c) (fun J J J J c=>Kb c) (fun J=>Kc) Kd (fun J J J J J J J h=>nn h) Ke (fun J J g c=>Kf g c) st,fun b=>B.rec (motive_1:=PS w A sc tb P n) (motive_2:=PB w A sc tb P n) (fun J J=>JY) (fun J J=>JZ) (fun J J=>J0) (fun J J J J=>J1) (fun J J J=>J2) (fun J J J=>J3) (fun J J J=>J4) (fun J J J J=>J5) (fun J J=>J6) (fun J J J=>J7) (fun J=>J8) (fun J J J J J J J h=>absurd h cL) (fun J J J d c=>J9 d c) (fun J J J c=>J' c) (fun J J J c=>Ka c) (fun J J J J c=>Kb c) (fun J=>Kc) Kd (fun J J J J J J J h=>nn h) Ke (fun J J g c=>Kf g c) b⟩
theorem yo(st:S)(d:bR)(c:Cx)(g h:Sg)(k:Fl)(Y:Hyp w A c sc tb P n)(l:j8 sc tb st d=aF)(m:ex P st g=O (k,h)):sW w A c tb g (ji d c.env) k h:=Kg.1 st d c g h k Y l m
theorem nM(b:B)(d:aD bR)(c:Cx)(g h:Sg)(k:Fl)(Y:Hyp w A c sc tb P n)(l:dX sc tb b d=aF)(m:bE P b g=O (k,h)):sW w A c tb g (eH d c.env) k h:=Kg.2 b d c g h k Y l m
end
end
section
structure Df where
 name:Str
 params:oz
 body:aD bR
 scope:dN
noncomputable def Kh(s:bR):aG Df:=yc aB s fun n a b c J=>O ⟨n,a,b,c⟩
noncomputable def aK(i:aA):Df:=((pg.main.body[i]?).bind Kh).getD ⟨qN,{posonlyargs:=[],args:=[],vararg:=aB,kwonlyargs:=[],kw_defaults:=[],kwarg:=aB,defaults:=[]},[],{kind:= .module,names:=[],isGenerator:=aI,isCoroutine:=aI,more:=[]}⟩
inductive vi(mg:Str→aG aJ)(h:bF)(d:Df):Prop
 |mk (a o pm cd doc:_) (h1:mg d.name=O (.ref a)) (h2:h.get? a=O o) (h3:o.data= .func (mM d.name d.params d.body d.scope pm cd doc)) (h4:h.CodeRec cd d.name):vi mg h d
noncomputable def iq(d:Df)(k:aA)(b:Tb):Bool:=
 (d.scope.kind== .function) && !d.scope.isCoroutine && !d.scope.isGenerator && d.scope.names.all (fun p=>p.2 != .cell) && jc d.scope b && (b.take k==(d.params.args.map fun a=>(a.arg,aF))) && decide (d.params.args.length=k)
theorem Ki{c:aD Str}{d:aD aJ}{i:aA}{x:Str}{v:aJ}(g:c.Nodup)(j:c[i]? =O x)(k:d[i]? =O v):(c.zip d).reverse.lookup x=O v:=by
 have m:∀(l:aD (Str×aJ)),(l.map (·.1)).Nodup→(x,v)∈l→l.lookup x=O v:=by
  intro l
  induction l with
  |nil=>intro _ h;cases h
  |cons p r ih=>
   intro f hm;obtain⟨y,u⟩:=p;simp only[gH,afc] at f;rcases gz.mp hm with e |hm
   ·cases e;simp
   ·have n:x≠y:=fun e=>f.1 (e▸iW.mpr ⟨(x,v),hm,rfl⟩);refine M GW ?_;have:(x==y)=false:=beq_eq_false_iff_ne.mpr n;exact M this <|ih f.2 hm
 refine m _ ?_ ?_
 ·refine M uB ?_
  have o:((c.zip d).map (·.1)).Nodup:=by
   have:(c.zip d).map (·.1)=c.take d.length:=by
    clear j k g
    induction c generalizing d with
    |nil=>simp
    |cons a r ih=>cases d with
     |nil=>exact rfl|cons b t=>simp[ih]
   exact M this <|(Gh _ _).nodup g
  exact List.pairwise_reverse.mpr (o.imp fun h=>Ne.symm h)
 ·exact iO pK <|kq (i:=i) (List.getElem?_zip_eq_some.mpr ⟨j,k⟩)
inductive Cr(w:aV)(c:Cx)(K:PK)(y:PV)(f:j3)(s':aM):Prop
 |mk (K':PK) (m':Str→aG aJ) (mw:Mu) (v:aJ) (k:PK.le K K') (e:f= .ret v) (F:Fm c K' m' mw s') (r:RV w K' aB v y):Cr w c K y f s'
theorem oU.by{w:aV}{mg mb:Str→aG aJ}{h₀:bF}{n k:aA}{d:Df}{tb:Tb}{T:aD Tab}{P:bT}{xs:aD PV}{y:PV}{rest:aD (aG PV)}
  (hd:iq d k tb=aF) (hS:vi mg h₀ d)
  (rj:∀(vs:aD aJ) (pm cd doc:aJ),vs.length=k→uC (mM d.name d.params d.body d.scope pm cd doc) ⟨vs,[]⟩=pure ((d.params.args.map (·.arg)).zip vs))
  (Cs:∀c:Cx,c.mg=mg→c.mb=mb→c.h₀=h₀→c.T=T→yd w c n P)
  (hk:xs.length=k)
  (Cu:∀(A:bX) (c:Cx) (K:PK) (m:Str→aG aJ) (s:aM),c.mg=mg→c.mb=mb→c.h₀=h₀→c.T=T→Hyp w A c d.scope tb P n→Gd w c tb K m aB s {loc:=xs.map O++rest}→
   aN (aO pg w) A (eH d.body c.env) (Cr w c K y) (fun J J=>bO) s) (hr:∀q,O q∈rest→bO):
  Ct w mg mb h₀ T (n+1) d.name xs y:=by
 obtain⟨a,o,pm,cd,doc,g1,g2,g3,g4⟩:=hS;refine⟨a,o,_,g1,g2,g3,?_⟩;intro A K s vs hh Kj U9 vj qi hB Cv Cw vk hv;unfold iq at hd;simp only[gZ,no,me,lG,j1,Gp] at hd;obtain⟨⟨⟨⟨⟨⟨d1,d2⟩,d3⟩,d4⟩,d5⟩,d6⟩,d7⟩:=hd;have U':vs.length=k:=by refine M hv.length ?_;exact hk
 have vm:∀b o,h₀.get? b=O o→s.heap.get? b=O o:=fun b o e=>qi _ _ (vj b o e);have Cy:=hB.keeps vm;have yp:=d5;unfold jc at yp;simp only[gZ,j1,lG] at yp
 have Cz:(d.params.args.map (·.arg)).Nodup:=by
  have:d.params.args.map (·.arg)=(tb.map (·.1)).take k:=by refine aS qF (M d6 ?_);simp
  refine M this ?_;exact(Gh _ _).nodup yp.2
 have yq:∀i x,(d.params.args.map (·.arg))[i]? =O x→tb[i]? =O (x,aF)∧i < k:=by
  intro i x e
  have hi:i < k:=by
   rcases ou i k with h |h
   ·exact h
   ·rw[xq (by simpa [d7] using h)] at e;cases e
  refine⟨?_,hi⟩;have:(tb.take k)[i]? =tb[i]? :=M GX (M (aR hi) V);refine aS this (M d6 ?_);simp only[ij] at e ⊢;cases q:d.params.args[i]? with
  |none=>replace e:=q▸e;cases e|some z=>replace e:=q▸e;cases e;rfl
 let env:=envOf d.name d.scope s.heap.objs.size a cd
 let c:Cx:={mg:=mg,mb:=mb,h₀:=h₀,pX:=s.os,fH:=K,hE:=s.heap,env:=env,T:=T,io:=s.gens}
 refine xr (call_plain_ret (cC (hO _ _) (bL Kj (by decide)):A.depth < 1000) (vm _ _ g2) g3 Cy.nolimit (g4.keeps vm) (rj vs pm cd doc U') ?_ (fun mx F=> ?_) d2 d3 d1 d4)
 ·intro p hp;obtain⟨x,v⟩:=p;have hm:=afd hp;obtain⟨i,hi,e⟩:=afe hm.1;obtain⟨t1,_⟩:=yq i x (M (fC hi) (M e V));have:=yp.1.2 _ (kq t1);simp only[gZ,RE,me] at this;exact this.2
 ·have H:fD c d.scope tb:=⟨rfl,d5,rfl,rfl⟩;have Y:Hyp w (A.deeper env) c d.scope tb P n:=⟨hh,(by show A.depth+1+n < 900;exact SO Kj),(by show A.units+3+10*n < 9000;exact HN U9),H,Cs c V rfl rfl rfl⟩
  have G:Gd w c tb K (fun x=>((d.params.args.map (·.arg)).zip vs).reverse.lookup x) aB {s with heap:=mx,toks:=s.toks+((d.params.args.map (·.arg)).zip vs).length} {loc:=xs.map O++rest}:=by
   refine⟨⟨F.ns,fun b o e=>F.keep _ _ (qi b o e),?_,vj,.refl K,fun b o J=>F.keep b o,fun b o e=> .inl e,fR,fun J J J e=>(by cases e),.refl Cv,rfl,hB,Cw,fun t ht=>(vk t ht).some,fun t ht=>(vk t ht).mono (fun J J e=>e) (F.keep _)⟩,?_,.none,fun J J J e=>(by cases e)⟩
   ·show K s.heap.objs.size=aB;cases e:K s.heap.objs.size with
    |none=>rfl|some o=>have:=qi _ _ e;replace this:=fR▸this;exact nn this
   ·intro i x kk p hi hp
    by_cases oX:i < xs.length
    ·(rewrite[su (by simpa using oX)] at hp;replace hp:=ij▸hp;replace hp:=(fC oX)▸hp)
     have hp:xs[i] =p:=by simpa using hp
     (refine aQ (hv.get (fC oX)) ?_;rintro v Va Vb)
     have Vc:(d.params.args.map (·.arg))[i]? =O x∧kk=true:=by
      have e1:(tb.take k)[i]? =O (x,kk):=by refine M GX (M (aR (bL oX (cM hk))) ?_);exact hi
      replace e1:=d6▸e1;simp only[ij] at e1 ⊢;cases q:d.params.args[i]? with
      |none=>replace e1:=q▸e1;cases e1|some z=>replace e1:=q▸e1;cases e1;exact⟨rfl,rfl⟩
     obtain⟨gC,rfl⟩:=Vc;exact⟨v,Ki Cz gC Va,hp▸Vb.up _⟩
    ·rw[pL (by simpa using jA.mp oX)] at hp;exact(hr p (kq hp)).elim
  refine wpAny_mono (Cu _ c K _ _ V rfl rfl rfl Y G) (fun f s' o=> ?_) fun J J x=>x;obtain⟨K',m',mw,v,k1,rfl,F',r⟩:=o;exact⟨K',k1,F'.keep,F'.new,F'.cT,r,F'.os,F'.gens,F'.tabs⟩
theorem oU.of
  (hd:iq d k tb=aF) (hS:vi mg h₀ d)
  (rj:∀(vs:aD aJ) (pm cd doc:aJ),vs.length=k→uC (mM d.name d.params d.body d.scope pm cd doc) ⟨vs,[]⟩=pure ((d.params.args.map (·.arg)).zip vs))
  (Cs:∀c:Cx,c.mg=mg→c.mb=mb→c.h₀=h₀→c.T=T→yd w c n P)
  (rk:dX d.scope tb b d.body=aF) (hk:xs.length=k) (hx:bE P b {loc:=xs.map O++rest}=O (.ret y,σ')) (hr:∀q,O q∈rest→bO):
  Ct w mg mb h₀ T (n+1) d.name xs y:=oU.by hd hS rj Cs hk (fun A c K m s e1 e2 e3 e4 Y G=>wpAny_mono (nM b d.body c _ σ' (.ret y) Y rk hx K m aB s G) (fun f s' o=>by
  obtain⟨K',m',mw,k1,b1,ms,v,rfl,F',r⟩:=o;exact⟨K',m',mw,v,k1,rfl,F',r⟩) fun J J x=>x) hr
end
section
noncomputable def Kk:Tb:=[(aH "a",aF),(aH "b",aF),(aH "n",aF),(aH "pad",aF),(aH "half_n",aF),(aH "mask",aF),(aH "b1",aF),(aH "b2",aF),(aH "q1",aF),(aH "r",aF),(aH "q2",aF)]
noncomputable def yt:B:=(.cons (.ite (.cmp .LtE (.bin .Sub (.dG "bit_length" (.nm 0) .nil) (.nm 2)) (.gk (aH "_DIV_LIMIT"))) (.cons (.ret (.bi "divmod" (.cons (.nm 0) (.cons (.nm 1) .nil))))
  .nil) .nil)
  (.cons (.asg 3 (.bin .BitAnd (.nm 2) (.int 1)))
  (.cons (.ite (.nm 3) (.cons (.aug 0 .LShift (.int 1))
  (.cons (.aug 1 .LShift (.int 1))
  (.cons (.aug 2 .Add (.int 1))
  .nil))) .nil)
  (.cons (.asg 4 (.bin .RShift (.nm 2) (.int 1)))
  (.cons (.asg 5 (.bin .Sub (.bin .LShift (.int 1) (.nm 4)) (.int 1)))
  (.cons (.mU 6 7 (.bin .RShift (.nm 1) (.nm 4)) (.bin .BitAnd (.nm 1) (.nm 5)))
  (.cons (.jm [8,9] (.call (aH "_div3n2n") (.cons (.bin .RShift (.nm 0) (.nm 2)) (.cons (.bin .BitAnd (.bin .RShift (.nm 0) (.nm 4)) (.nm 5)) (.cons (.nm 1) (.cons (.nm 6) (.cons (.nm 7) (.cons (.nm 4) .nil))))))))
  (.cons (.jm [10,9] (.call (aH "_div3n2n") (.cons (.nm 9) (.cons (.bin .BitAnd (.nm 0) (.nm 5)) (.cons (.nm 1) (.cons (.nm 6) (.cons (.nm 7) (.cons (.nm 4) .nil))))))))
  (.cons (.ite (.nm 3) (.cons (.aug 9 .RShift (.int 1))
  .nil) .nil)
  (.cons (.ret (.tup (.cons (.bin .BitOr (.bin .LShift (.nm 8) (.nm 4)) (.nm 10)) (.cons (.nm 9) .nil))))
  .nil))))))))))
theorem Kl:dX (aK 9).scope Kk (yt) (aK 9).body=true:=by decide+kernel
theorem Km:iq (aK 9) 3 Kk=true:=by decide+kernel
noncomputable def Ko:Tb:=[(aH "a12",aF),(aH "a3",aF),(aH "b",aF),(aH "b1",aF),(aH "b2",aF),(aH "n",aF),(aH "q",aF),(aH "r",aF)]
noncomputable def Kp(N:aA):B:=(.cons (.ite (.cmp .Eq (.bin .RShift (.nm 0) (.nm 5)) (.nm 3)) (.cons (.mU 6 7 (.bin .Sub (.bin .LShift (.int 1) (.nm 5)) (.int 1)) (.bin .Add (.bin .Sub (.nm 0) (.bin .LShift (.nm 3) (.nm 5))) (.nm 3)))
  .nil) (.cons (.jm [6,7] (.call (aH "_div2n1n") (.cons (.nm 0) (.cons (.nm 3) (.cons (.nm 5) .nil)))))
  .nil))
  (.cons (.asg 7 (.bin .Sub (.bin .BitOr (.bin .LShift (.nm 7) (.nm 5)) (.nm 1)) (.bin .Mult (.nm 6) (.nm 4))))
  (.cons (.oO N (.cmp .Lt (.nm 7) (.int 0)) (.cons (.aug 6 .Sub (.int 1))
  (.cons (.aug 7 .Add (.nm 2))
  .nil)))
  (.cons (.ret (.tup (.cons (.nm 6) (.cons (.nm 7) .nil))))
  .nil))))
theorem Vd(N:aA):dX (aK 10).scope Ko (Kp N) (aK 10).body=true:=by kernel_rfl
theorem Ve:iq (aK 10) 6 Ko=true:=by decide+kernel
noncomputable def Kq:Tb:=[(aH "a",aF),(aH "b",aF),(aH "n",aF),(aH "a_digits",aF),(aH "r",aF),(aH "q_digits",aF),(aH "a_digit",aF),(aH "q_digit",aF),(aH "q",aF)]
theorem Vf:iq (aK 13) 2 Kq=true:=by decide+kernel
noncomputable def Kr:Tb:=[(aH "a",aF),(aH "b",aF),(aH "q",aF),(aH "r",aF)]
noncomputable def vn:B:=(.cons (.ite (.cmp .Eq (.nm 1) (.int 0)) (.cons .bad
  .nil) (.cons (.ite (.cmp .Lt (.nm 1) (.int 0)) (.cons (.jm [2,3] (.call (aH "int_divmod") (.cons (.un .USub (.nm 0)) (.cons (.un .USub (.nm 1)) .nil))))
  (.cons (.ret (.tup (.cons (.nm 2) (.cons (.un .USub (.nm 3)) .nil))))
  .nil)) (.cons (.ite (.cmp .Lt (.nm 0) (.int 0)) (.cons (.jm [2,3] (.call (aH "int_divmod") (.cons (.un .Invert (.nm 0)) (.cons (.nm 1) .nil))))
  (.cons (.ret (.tup (.cons (.un .Invert (.nm 2)) (.cons (.bin .Add (.nm 1) (.un .Invert (.nm 3))) .nil))))
  .nil)) (.cons (.ret (.call (aH "_divmod_pos") (.cons (.nm 0) (.cons (.nm 1) .nil))))
  .nil))
  .nil))
  .nil))
  .nil)
theorem Vg:dX (aK 14).scope Kr (vn) (aK 14).body=true:=by decide+kernel
theorem Vh:iq (aK 14) 2 Kr=true:=by decide+kernel
noncomputable def Ks:Tb:=[(aH "ch_a",aF),(aH "ch_b",aF)]
noncomputable def Kt:B:=(.cons (.ite (.cmp .Eq (.nm 0) (.nm 1)) (.cons (.ret (.int 0))
  .nil) .nil)
  (.cons (.ite (.cmp .Eq (.dG "lower" (.nm 0) .nil) (.dG "lower" (.nm 1) .nil)) (.cons (.ret (.gk (aH "_CASE_COST")))
  .nil) .nil)
  (.cons (.ret (.gk (aH "_MOVE_COST")))
  .nil)))
theorem Vi:dX (aK 24).scope Ks (Kt) (aK 24).body=true:=by decide+kernel
theorem Vj:iq (aK 24) 2 Ks=true:=by decide+kernel
noncomputable def Ku:Tb:=[(aH "a",aF),(aH "b",aF),(aH "max_cost",aF),(aH "pre",aF),(aH "post",aF),(aH "row",aF),(aH "result",aF),(aH "bindex",aF),(aH "bchar",aF),(aH "distance",aF),(aH "minimum",aF),(aH "index",aF),(aH "substitute",aF),(aH "insert_delete",aF)]
noncomputable def Kv(N:aA):B:=(.cons (.ite (.cmp .Eq (.nm 0) (.nm 1)) (.cons (.ret (.int 0))
  .nil) .nil)
  (.cons (.asg 3 (.int 0))
  (.cons (.oO N (.bo .And (.cons (.dD (.nm 0) (.nm 3) .none) (.cons (.dD (.nm 1) (.nm 3) .none) (.cons (.cmp .Eq (.sub (.nm 0) (.nm 3)) (.sub (.nm 1) (.nm 3))) .nil)))) (.cons (.aug 3 .Add (.int 1))
  .nil))
  (.cons (.asg 0 (.dD (.nm 0) (.nm 3) .none))
  (.cons (.asg 1 (.dD (.nm 1) (.nm 3) .none))
  (.cons (.asg 4 (.int 0))
  (.cons (.oO N (.bo .And (.cons (.dD (.nm 0) .none (.bo .Or (.cons (.nm 4) (.cons .none .nil)))) (.cons (.dD (.nm 1) .none (.bo .Or (.cons (.nm 4) (.cons .none .nil)))) (.cons (.cmp .Eq (.sub (.nm 0) (.bin .Sub (.nm 4) (.int 1))) (.sub (.nm 1) (.bin .Sub (.nm 4) (.int 1)))) .nil)))) (.cons (.aug 4 .Sub (.int 1))
  .nil))
  (.cons (.asg 0 (.dD (.nm 0) .none (.bo .Or (.cons (.nm 4) (.cons .none .nil)))))
  (.cons (.asg 1 (.dD (.nm 1) .none (.bo .Or (.cons (.nm 4) (.cons .none .nil)))))
  (.cons (.ite (.bo .Or (.cons (.un .Not (.nm 0)) (.cons (.un .Not (.nm 1)) .nil))) (.cons (.ret (.bin .Mult (.gk (aH "_MOVE_COST")) (.bin .Add (.bi "len" (.cons (.nm 0) .nil)) (.bi "len" (.cons (.nm 1) .nil)))))
  .nil) .nil)
  (.cons (.ite (.bo .Or (.cons (.cmp .Gt (.bi "len" (.cons (.nm 0) .nil)) (.gk (aH "_MAX_STRING_SIZE"))) (.cons (.cmp .Gt (.bi "len" (.cons (.nm 1) .nil)) (.gk (aH "_MAX_STRING_SIZE"))) .nil))) (.cons (.ret (.bin .Add (.nm 2) (.int 1)))
  .nil) .nil)
  (.cons (.ite (.cmp .Lt (.bi "len" (.cons (.nm 1) .nil)) (.bi "len" (.cons (.nm 0) .nil))) (.cons (.mU 0 1 (.nm 1) (.nm 0))
  .nil) .nil)
  (.cons (.ite (.cmp .Gt (.bin .Mult (.bin .Sub (.bi "len" (.cons (.nm 1) .nil)) (.bi "len" (.cons (.nm 0) .nil))) (.gk (aH "_MOVE_COST"))) (.nm 2)) (.cons (.ret (.bin .Add (.nm 2) (.int 1)))
  .nil) .nil)
  (.cons (.mq 5 (.lO (.cons (.gk (aH "_MOVE_COST")) (.cons (.bin .Mult (.gk (aH "_MOVE_COST")) (.bin .Add (.bi "len" (.cons (.nm 0) .nil)) (.int 1))) (.cons (.gk (aH "_MOVE_COST")) .nil)))))
  (.cons (.asg 6 (.int 0))
  (.cons (.forR 7 (.bi "len" (.cons (.nm 1) .nil)) (.cons (.asg 8 (.sub (.nm 1) (.nm 7)))
  (.cons (.uR 9 6 (.bin .Mult (.nm 7) (.gk (aH "_MOVE_COST"))))
  (.cons (.asg 10 (.int 9223372036854775807))
  (.cons (.forR 11 (.bi "len" (.cons (.nm 0) .nil)) (.cons (.asg 12 (.bin .Add (.nm 9) (.call (aH "_substitution_cost") (.cons (.nm 8) (.cons (.sub (.nm 0) (.nm 11)) .nil)))))
  (.cons (.asg 9 (.sub (.nm 5) (.nm 11)))
  (.cons (.asg 13 (.bin .Add (.bi "min" (.cons (.nm 6) (.cons (.nm 9) .nil))) (.gk (aH "_MOVE_COST"))))
  (.cons (.asg 6 (.bi "min" (.cons (.nm 13) (.cons (.nm 12) .nil))))
  (.cons (.oN 5 (.nm 11) (.nm 6))
  (.cons (.ite (.cmp .Lt (.nm 6) (.nm 10)) (.cons (.asg 10 (.nm 6))
  .nil) .nil)
  .nil)))))))
  (.cons (.ite (.cmp .Gt (.nm 10) (.nm 2)) (.cons (.ret (.bin .Add (.nm 2) (.int 1)))
  .nil) .nil)
  .nil))))))
  (.cons (.ret (.nm 6))
  .nil)))))))))))))))))
theorem Vk(N:aA):dX (aK 25).scope Ku (Kv N) (aK 25).body=true:=by kernel_rfl
theorem Vl:iq (aK 25) 3 Ku=true:=by decide+kernel
noncomputable def Kw:Tb:=[(aH "script",aF),(aH "cells",aF),(aH "place",aF)]
noncomputable def Kx:B:=(.cons (.mq 1 (.lst (.cons (.int 739295) (.cons (.int 97445) (.cons (.int 13) (.cons (.int 3202493070) (.cons (.un .USub (.int 7)) (.cons (.un .USub (.int 7)) .nil))))))))
  (.cons (.forR 2 (.bi "len" (.cons (.nm 0) .nil)) (.cons (.sJ 1 (.bin .Mod (.nm 2) (.int 6)) .Add (.sub (.nm 0) (.nm 2)))
  .nil))
  (.cons (.ret (.nm 1))
  .nil)))
theorem Vm:dX (aK 27).scope Kw (Kx) (aK 27).body=true:=by decide+kernel
theorem Vn:iq (aK 27) 1 Kw=true:=by decide+kernel
noncomputable def Ky:Tb:=[(aH "place",aF),(aH "year",aF),(aH "left",aF),(aH "month",aF),(aH "days",aF)]
noncomputable def CA:B:=(.cons (.asg 1 (.bin .FloorDiv (.bin .Sub (.bin .Add (.bin .Sub (.nm 0) (.bin .FloorDiv (.nm 0) (.int 1460))) (.bin .FloorDiv (.nm 0) (.int 36524))) (.bin .FloorDiv (.nm 0) (.int 146096))) (.int 365)))
  (.cons (.asg 2 (.bin .Add (.bin .Sub (.bin .Sub (.nm 0) (.bin .Mult (.int 365) (.nm 1))) (.bin .FloorDiv (.nm 1) (.int 4))) (.bin .FloorDiv (.nm 1) (.int 100))))
  (.cons (.asg 3 (.int 2))
  (.cons (.forL 4 aI (.lst (.cons (.int 31) (.cons (.int 30) (.cons (.int 31) (.cons (.int 30) (.cons (.int 31) (.cons (.int 31) (.cons (.int 30) (.cons (.int 31) (.cons (.int 30) (.cons (.int 31) (.cons (.int 31) .nil)))))))))))) (.cons (.ite (.cmp .Lt (.nm 2) (.nm 4)) (.cons .brk
  .nil) .nil)
  (.cons (.aug 2 .Sub (.nm 4))
  (.cons (.aug 3 .Add (.int 1))
  .nil))))
  (.cons (.ret (.tup (.cons (.bin .Add (.nm 1) (.bin .FloorDiv (.nm 3) (.int 12))) (.cons (.bin .Mod (.nm 3) (.int 12)) (.cons (.bin .Add (.nm 2) (.int 1)) .nil)))))
  .nil)))))
theorem Vo:dX (aK 28).scope Ky (CA) (aK 28).body=true:=by decide+kernel
theorem Vp:iq (aK 28) 1 Ky=true:=by decide+kernel
noncomputable def Kz:Tb:=[(aH "number",aF)]
noncomputable def KA:B:=(.cons (.ret (.dD (.bi "str" (.cons (.bin .Add (.int 100) (.nm 0)) .nil)) (.int 1) .none))
  .nil)
theorem Vq:dX (aK 29).scope Kz (KA) (aK 29).body=true:=by decide+kernel
theorem Vr:iq (aK 29) 1 Kz=true:=by decide+kernel
noncomputable def KC:Tb:=[(aH "draw",aF),(aH "letters",aF),(aH "stays",aF)]
noncomputable def KD:B:=(.cons (.asg 2 (.lst (.cons (.int 172) (.cons (.int 174) (.cons (.int 846) (.cons (.int 848) (.cons (.int 6149) (.cons (.int 6151) (.cons (.int 6154) (.cons (.int 6158) (.cons (.int 8202) (.cons (.int 8206) (.cons (.int 8287) (.cons (.int 8289) (.cons (.int 65023) (.cons (.int 65040) (.cons (.int 65278) (.cons (.int 65280) .nil))))))))))))))))))
  (.cons (.ite (.bo .And (.cons (.nm 1) (.cons (.cmp .Lt (.bin .Mod (.nm 0) (.int 42)) (.int 26)) .nil))) (.cons (.ret (.bi "chr" (.cons (.bin .Add (.int 97) (.bin .Mod (.nm 0) (.int 42))) .nil)))
  .nil) .nil)
  (.cons (.ret (.bi "chr" (.cons (.sub (.nm 2) (.ja (.nm 1) (.bin .Mod (.bin .Sub (.bin .Mod (.nm 0) (.int 42)) (.int 26)) (.int 16)) (.bin .Mod (.nm 0) (.int 16)))) .nil)))
  .nil)))
theorem Vs:dX (aK 30).scope KC (KD) (aK 30).body=true:=by decide+kernel
theorem Vt:iq (aK 30) 2 KC=true:=by decide+kernel
noncomputable def KE:Tb:=[(aH "name",aF),(aH "harm",aF),(aH "which",aF),(aH "marked",aF),(aH "row",aF),(aH "spot",aF)]
noncomputable def yu:B:=(.cons (.mq 4 (.oM (.nm 0)))
  (.cons (.asg 5 (.bin .Mod (.bin .FloorDiv (.nm 1) (.int 8)) (.int 12)))
  (.cons (.ite (.bo .Or (.cons (.cmp .NotEq (.bin .Mod (.bin .FloorDiv (.nm 1) (.int 4)) (.int 2)) (.nm 2)) (.cons (.cmp .Eq (.bin .Mod (.nm 1) (.int 4)) (.int 0)) .nil))) (.cons (.ret (.nm 4))
  .nil) .nil)
  (.cons (.ite (.cmp .Eq (.bin .Mod (.nm 1) (.int 4)) (.int 1)) (.cons (.oN 4 (.bin .Mod (.nm 5) (.int 3)) (.ja (.nm 3) (.bin .Add (.bin .Add (.str (aH "\"")) (.sub (.nm 4) (.bin .Mod (.nm 5) (.int 3)))) (.str (aH "\""))) (.str (aH ""))))
  .nil) (.cons (.ite (.cmp .Eq (.bin .Mod (.nm 1) (.int 4)) (.int 2)) (.cons (.ins 4 (.bin .Mod (.nm 5) (.int 4)) (.call (aH "_law_sign") (.cons (.bin .FloorDiv (.nm 1) (.int 96)) (.cons (.bool aF) .nil))))
  .nil) (.cons (.oN 4 (.bin .Mod (.nm 5) (.int 3)) (.call (aH "_law_sign") (.cons (.bin .FloorDiv (.nm 1) (.int 96)) (.cons (.bool aI) .nil))))
  .nil))
  .nil))
  (.cons (.ret (.nm 4))
  .nil)))))
theorem Vu:dX (aK 31).scope KE (yu) (aK 31).body=true:=by decide+kernel
theorem Vv:iq (aK 31) 4 KE=true:=by decide+kernel
noncomputable def KH:Tb:=[(aH "read",aF),(aH "name",aF),(aH "low",aF),(aH "spot",aF),(aH "one",aF),(aH "other",aF)]
noncomputable def KI:B:=(.cons (.asg 2 (.dG "lower" (.nm 1) .nil))
  (.cons (.ite (.cmp .Eq (.nm 0) (.nm 2)) (.cons (.ret (.int 1))
  .nil) .nil)
  (.cons (.forR 3 (.int 4) (.cons (.asg 4 (.ja (.cmp .Eq (.bi "len" (.cons (.nm 0) .nil)) (.int 2)) (.nm 0) (.bin .Add (.dD (.nm 0) .none (.nm 3)) (.dD (.nm 0) (.bin .Add (.nm 3) (.int 1)) .none))))
  (.cons (.asg 5 (.ja (.cmp .Eq (.bi "len" (.cons (.nm 0) .nil)) (.int 4)) (.nm 2) (.bin .Add (.dD (.nm 2) .none (.nm 3)) (.dD (.nm 2) (.bin .Add (.nm 3) (.int 1)) .none))))
  (.cons (.ite (.cmp .Eq (.nm 4) (.nm 5)) (.cons (.ret (.ja (.bo .And (.cons (.cmp .Eq (.nm 3) (.int 0)) (.cons (.cmp .Lt (.bi "len" (.cons (.nm 0) .nil)) (.int 4)) .nil))) (.int 2) (.int 3)))
  .nil) .nil)
  .nil))))
  (.cons (.ret (.int 4))
  .nil))))
theorem Vw:dX (aK 32).scope KH (KI) (aK 32).body=true:=by decide+kernel
theorem Vx:iq (aK 32) 2 KH=true:=by decide+kernel
noncomputable def KJ:Tb:=[(aH "row",aF),(aH "draw",aF),(aH "hidden",aF),(aH "great",aF),(aH "joined",aF),(aH "text",aF),(aH "place",aF),(aH "piece",aF),(aH "pair",aF),(aH "way",aF)]
noncomputable def CB(N:aA):B:=(.cons (.asg 2 (.bin .Add (.lst (.cons (.int 173) (.cons (.int 847) (.cons (.int 6150) (.cons (.int 6155) (.cons (.int 6156) (.cons (.int 6157) (.cons (.int 8203) (.cons (.int 8204) (.cons (.int 8205) (.cons (.int 8288) (.cons (.int 65279) .nil)))))))))))) (.lO (.cons (.int 65024) (.cons (.int 65040) .nil)))))
  (.cons (.asg 3 (.lst (.cons (.int 119808) (.cons (.int 119860) (.cons (.int 119912) (.cons (.int 120016) (.cons (.int 120172) (.cons (.int 120224) (.cons (.int 120276) (.cons (.int 120328) (.cons (.int 120380) (.cons (.int 120432) .nil))))))))))))
  (.cons (.asg 4 (.gA [((aH "ma"),13187),((aH "pr"),13274),((aH "no"),8470),((aH "ov"),13173),((aH "au"),13171),((aH "ss"),223),((aH "ff"),64256),((aH "st"),64262)]))
  (.cons (.asg 5 (.str (aH "")))
  (.cons (.asg 6 (.int 0))
  (.cons (.oO N (.cmp .Lt (.nm 6) (.bi "len" (.cons (.nm 0) .nil))) (.cons (.asg 7 (.sub (.nm 0) (.nm 6)))
  (.cons (.asg 8 (.dG "lower" (.dG "join" (.str (aH "")) (.cons (.dD (.nm 0) (.nm 6) (.bin .Add (.nm 6) (.int 2))) .nil)) .nil))
  (.cons (.asg 9 (.bin .Mod (.nm 1) (.int 40)))
  (.cons (.aug 1 .FloorDiv (.int 40))
  (.cons (.ite (.cmp .Lt (.nm 9) (.int 27)) (.cons (.aug 5 .Add (.bin .Add (.nm 7) (.bi "chr" (.cons (.sub (.nm 2) (.nm 9)) .nil))))
  .nil) (.cons (.ite (.bo .And (.cons (.cmp .Lt (.nm 9) (.int 37)) (.cons (.oL .LtE .LtE (.str (aH "a")) (.dG "lower" (.nm 7) .nil) (.str (aH "z"))) .nil))) (.cons (.aug 5 .Add (.bi "chr" (.cons (.bin .Sub (.bin .Add (.sub (.nm 3) (.bin .Sub (.nm 9) (.int 27))) (.bi "ord" (.cons (.dG "lower" (.nm 7) .nil) .nil))) (.int 97)) .nil)))
  .nil) (.cons (.ite (.bo .And (.cons (.cmp .Gt (.nm 9) (.int 37)) (.cons (.cmp .In (.nm 8) (.nm 4)) .nil))) (.cons (.aug 5 .Add (.bi "chr" (.cons (.sub (.nm 4) (.nm 8)) .nil)))
  (.cons (.aug 6 .Add (.int 1))
  .nil)) (.cons (.aug 5 .Add (.ja (.cmp .Eq (.nm 9) (.int 37)) (.dG "upper" (.nm 7) .nil) (.nm 7)))
  .nil))
  .nil))
  .nil))
  (.cons (.aug 6 .Add (.int 1))
  .nil)))))))
  (.cons (.ret (.tup (.cons (.nm 5) (.cons (.nm 1) .nil))))
  .nil)))))))
theorem Vy(N:aA):dX (aK 33).scope KJ (CB N) (aK 33).body=true:=by kernel_rfl
theorem Vz:iq (aK 33) 2 KJ=true:=by decide+kernel
noncomputable def KL:Tb:=[(aH "year",aF),(aH "month",aF),(aH "day",aF),(aH "cells",aF),(aH "start",aF),(aH "count",aF),(aH "unit",aF),(aH "turn",aF),(aH "top",aF),(aH "told",aF)]
noncomputable def KN:B:=(.cons (.asg 4 (.ja (.cmp .Lt (.nm 1) (.int 2)) (.bin .Sub (.nm 0) (.int 1)) (.nm 0)))
  (.cons (.asg 5 (.bin .Add (.bin .Add (.bin .Add (.bin .Add (.bin .Sub (.bin .Add (.bin .Mult (.int 365) (.nm 4)) (.bin .FloorDiv (.nm 4) (.int 4))) (.bin .FloorDiv (.nm 4) (.int 100))) (.bin .FloorDiv (.nm 4) (.int 400))) (.bin .FloorDiv (.bin .Add (.bin .Mult (.int 153) (.bin .Mod (.bin .Add (.nm 1) (.int 10)) (.int 12))) (.int 2)) (.int 5))) (.nm 2)) (.int 1)))
  (.cons (.asg 6 (.bin .Pow (.int 3) (.bin .Add (.int 2598) (.bin .Mod (.bin .FloorDiv (.sub (.nm 3) (.int 5)) (.int 10)) (.int 64)))))
  (.cons (.asg 7 (.bin .Sub (.int 1) (.bin .Mult (.int 2) (.bin .Mod (.bin .FloorDiv (.sub (.nm 3) (.int 5)) (.int 5)) (.int 2)))))
  (.cons (.asg 8 (.bin .Add (.bin .Mult (.bin .Add (.bin .Mult (.bin .Mult (.int 146097) (.sub (.nm 3) (.int 4))) (.bin .Pow (.int 2) (.int 4010))) (.nm 5)) (.nm 6)) (.bin .Mod (.bin .FloorDiv (.sub (.nm 3) (.int 5)) (.int 10)) (.nm 6))))
  (.cons (.asg 9 (.call (aH "int_divmod") (.cons (.bin .Mult (.nm 7) (.nm 8)) (.cons (.bin .Mult (.bin .Mult (.nm 7) (.int 7)) (.nm 6)) .nil))))
  (.cons (.ite (.cmp .NotEq (.bin .Add (.bin .Mult (.bin .Mult (.sub (.nm 9) (.int 0)) (.int 7)) (.nm 6)) (.bin .Mult (.nm 7) (.sub (.nm 9) (.int 1)))) (.nm 8)) (.cons (.ret (.un .USub (.int 1)))
  .nil) .nil)
  (.cons (.ret (.bin .FloorDiv (.bin .Mult (.nm 7) (.sub (.nm 9) (.int 1))) (.nm 6)))
  .nil))))))))
theorem VA:dX (aK 34).scope KL (KN) (aK 34).body=true:=by decide+kernel
theorem VB:iq (aK 34) 4 KL=true:=by decide+kernel
end
section
section
variable{a b:Z}{x y:Str}
theorem CC{b:Z}(c:0 < b)(d:b < 4611686018427387904):b≠0∧b.natAbs.log2 < 9000:=by refine⟨by exact fB c,?_⟩;have f:b.natAbs < 2^62:=Bv (cJ c) (dM d (by decide));have:=(AH (n:=b.natAbs) (k:=62) (HU c)).mpr f;exact bL this (by decide)
theorem tj{a b:Z}(h:0 < b):a.fdiv b=a / b:=GY _ (cJ h)
theorem CD{a b:Z}(h:0 < b):a.fmod b=a % b:=Int.fmod_eq_emod_of_nonneg _ (cJ h)
@[simp] theorem iF:dC .Add (.int a) (.int b)=O (.int (a+b)):=rfl
@[simp] theorem my:dC .Sub (.int a) (.int b)=O (.int (a - b)):=rfl
@[simp] theorem yv(c:0 < b)(d:b < 4611686018427387904):dC .FloorDiv (.int a) (.int b)=O (.int (a / b)):=by refine aS (tj c) ?_;exact bB (CC c d)
@[simp] theorem tl(c:0 < b)(d:b < 4611686018427387904):dC .Mod (.int a) (.int b)=O (.int (a % b)):=by refine aS (CD c) ?_;exact bB (CC c d)
@[simp] theorem vo(c: -4611686018427387904 < b)(d:b < 4611686018427387904):dC .Mult (.int a) (.int b)=O (.int (a*b)):=
 bB (IntMulOk.of_right (AU (iV (by decide) c) (dM d (by decide))))
@[simp] theorem tm(c: -4611686018427387904 < a)(d:a < 4611686018427387904):dC .Mult (.int a) (.int b)=O (.int (a*b)):=
 bB (IntMulOk.of_left (AU (iV (by decide) c) (dM d (by decide))))
@[simp] theorem CE:jV .Add (.int a) (.int b)=O (.int (a+b)):=rfl
@[simp] theorem VC:jV .Sub (.int a) (.int b)=O (.int (a - b)):=rfl
@[simp] theorem VD(c:0 < b)(d:b < 4611686018427387904):jV .FloorDiv (.int a) (.int b)=O (.int (a / b)):=by refine aS (tj c) ?_;exact bB (CC c d)
@[simp] theorem VE:jb .Eq (.int a) (.int b)=O (.bool (a==b)):=rfl
@[simp] theorem VG:jb .Gt (.int a) (.int b)=O (.bool (decide (b < a))):=rfl
@[simp] theorem ag8{c:Type}{p:aG c}:aZ r7 p=p:=bB trivial
end
section
variable{P:bT}{σ:Sg}
theorem tn {t a b}:ev P σ (.ja t a b)=(match(ev P σ t).bind truth with
  |some aF=>ev P σ a|some aI=>ev P σ b| .none=> .none):=rfl
end
section
variable{body:Sg→aG (Fl×Sg)}{i:aA}{x:PV}{r:aD PV}{P:bT}{s:S}{b:B}{σ σ':Sg}{v:PV}
theorem CF:gM body i (x::r) σ=(match body (σ.put i x) with
  |some (.next,σ')=>gM body i r σ'|some (.brk,σ')=>O (.next,σ')|some (.ret v,σ')=>O (.ret v,σ')| .none=> .none):=rfl
theorem rl(h:body (σ.put i x)=O (.next,σ')):gM body i (x::r) σ=gM body i r σ':=M CF (M h V)
theorem VH(h:body (σ.put i x)=O (.brk,σ')):gM body i (x::r) σ=O (.next,σ'):=M CF (M h V)
theorem KO(h:body (σ.put i x)=O (.ret v,σ')):gM body i (x::r) σ=O (.ret v,σ'):=M CF (M h V)
theorem CG:bE P (.cons s b) σ=(match ex P s σ with
  |some (.next,σ')=>bE P b σ'|some (.brk,σ')=>O (.brk,σ')|some (.ret v,σ')=>O (.ret v,σ')| .none=> .none):=rfl
theorem eL(h:ex P s σ=O (.next,σ')):bE P (.cons s b) σ=bE P b σ':=M CG (M h V)
theorem cU(h:ex P s σ=O (.ret v,σ')):bE P (.cons s b) σ=O (.ret v,σ'):=M CG (M h V)
theorem VI(h:ex P s σ=O (.brk,σ')):bE P (.cons s b) σ=O (.brk,σ'):=M CG (M h V)
end
theorem bN{c d:Type}{a:aG c}{x:c}{f:c→aG d}{r:aG d}(h:a=O x)(k:f x=r):a.bind f=r:=by refine M h ?_;exact k
section
variable{P:bT}{σ:Sg}{e t:E}{x y z p:PV}{i:aA}{a b:B}{xs:aD PV}
theorem VJ{o:i7}:ex P (.aug i o e) σ=(match σ.loc[i]? with
  |some (O p)=>(ev P σ e).bind fun y=>(jV o p y).map fun z=>(.next,σ.put i z)| _=> .none):=rfl
theorem gO(h:ev P σ e=O x)(c:js x=O x):ex P (.asg i e) σ=O (.next,σ.put i x):=bN h (aT (j4 _) c)
theorem tq(c:u9 e=aF)(h:ev P σ e=O (.lst xs)):ex P (.mq i e) σ=O (.next,σ.fresh i xs):=by
 have q:ex P (.mq i e) σ=if u9 e then(match ev P σ e with
  |some (.lst xs)=>O (.next,σ.fresh i xs)| _=> .none) else .none:=rfl
 exact M q (M (aR c) (M h V))
theorem yw{c:aD aA}(h:ev P σ e=O (.tup xs))(d:xs.length=c.length):ex P (.jm c e) σ=O (.next,putAll σ c xs):=by
 have q:ex P (.jm c e) σ=(match ev P σ e with
  |some (.tup xs)=>if xs.length=c.length then O (.next,putAll σ c xs) else .none| _=> .none):=rfl
 refine M q (M h ?_);exact aR d
theorem qj{o:i7}(c:σ.loc[i]? =O (O p))(h:ev P σ e=O y)(d:jV o p y=O z):ex P (.aug i o e) σ=O (.next,σ.put i z):=by refine M VJ (M c ?_);exact bN h (aT (j4 _) d)
theorem KP:ex P (.ite t a b) σ=(match(ev P σ t).bind truth with
  |some aF=>bE P a σ|some aI=>bE P b σ| .none=> .none):=rfl
theorem qk(h:ev P σ t=O x)(c:truth x=O aF):ex P (.ite t a b) σ=bE P a σ:=M KP (M (bN h c) V)
theorem nN(h:ev P σ t=O x)(c:truth x=O aI):ex P (.ite t a b) σ=bE P b σ:=M KP (M (bN h c) V)
theorem tr{N:Z}(h:ev P σ e=O (.int N))(c:0≤N∧N≤1000000):ex P (.forR i e b) σ=gM (bE P b) i ((mH N.toNat).map fun k=> .int (k:aA)) σ:=by
 have q:ex P (.forR i e b) σ=(match ev P σ e with
  |some (.int N)=>aZ (0≤N∧N≤1000000) (gM (bE P b) i ((mH N.toNat).map fun k=> .int (k:aA)) σ)| _=> .none):=rfl
 refine M q (M h ?_);exact bB c
theorem KQ{v:aU}(h:ev P σ e=O (.lst xs))(c:xs.length≤1000000):ex P (.forL i v e b) σ=gM (bE P b) i (if v then xs.reverse else xs) σ:=by
 have q:ex P (.forL i v e b) σ=(match ev P σ e with
  |some (.lst xs)=>aZ (xs.length≤1000000) (gM (bE P b) i (if v then xs.reverse else xs) σ)| _=> .none):=rfl
 refine M q (M h ?_);exact bB c
theorem VK(h:ev P σ e=O (.lst xs))(c:xs.length≤1000000):ex P (.forL i aI e b) σ=gM (bE P b) i xs σ:=KQ h c
theorem VL(h:ev P σ e=O (.lst xs))(c:xs.length≤1000000):ex P (.forL i aF e b) σ=gM (bE P b) i xs.reverse σ:=KQ h c
theorem VM{n:aA}:ex P (.oO n t b) σ=kA (fun σ=>(ev P σ t).bind truth) (bE P b) n σ:=rfl
theorem fU(h:ev P σ e=O x)(c:js x=O x):ex P (.ret e) σ=O (.ret x,σ):=bN h (by cases x<;>first |rfl |cases c)
theorem KR(h:ev P σ e=O .bV)(c:σ.mu=O xs):ex P (.ret e) σ=O (.ret (.lst xs),σ):=bN h (aT (j4 _) c)
end
section
variable{P:bT}{σ:Sg}{a b i:E}{es:Es}{x y z:PV}{xs:aD PV}
theorem ir:gB P σ .nil=O [] :=rfl
theorem bW(c:ev P σ a=O x)(d:gB P σ es=O xs):gB P σ (.cons a es)=O (x::xs):=bN c (bN d V)
theorem gD(c:ev P σ a=O x):gB P σ (.cons a .nil)=O [x] :=bN c V
theorem hV(c:ev P σ a=O x)(d:ev P σ i=O y)(f:jn σ.mu x y=O z):ev P σ (.sub a i)=O z:=bN c (bN d f)
theorem bM{o:i7}(c:ev P σ a=O x)(d:ev P σ b=O y)(f:dC o x y=O z):ev P σ (.bin o a b)=O z:=bN c (bN d f)
theorem lQ{x b:Z}(h:ev P σ a=O (.int x))(c:0 < b)(d:b < 4611686018427387904):ev P σ (.bin .Mod a (.int b))=O (.int (x % b)):=bM h V (tl c d)
theorem lR{x b:Z}(h:ev P σ a=O (.int x))(c:0 < b)(d:b < 4611686018427387904):ev P σ (.bin .FloorDiv a (.int b))=O (.int (x / b)):=bM h V (yv c d)
theorem cI{o:l5}(c:ev P σ a=O x)(d:ev P σ b=O y)(f:jb o x y=O z):ev P σ (.cmp o a b)=O z:=bN c (bN d f)
theorem tu(h:gB P σ es=O xs)(c:xs.length≤1000)(d:kU xs=aF):ev P σ (.tup es)=O (.tup xs):=bN h (bB ⟨c,d⟩)
theorem nO(h:gB P σ es=O xs)(c:xs.length≤1000)(d:kU xs=aF):ev P σ (.lst es)=O (.lst xs):=bN h (bB ⟨c,d⟩)
theorem fO{f:Str}(h:gB P σ es=O xs)(c:kU xs=aF)(d:P.call f xs=O z):ev P σ (.call f es)=O z:=bN h ((bB c).trans d)
theorem iR{f:eA}(h:gB P σ es=O xs)(c:oQ σ.mu f xs=O z):ev P σ (.bi f es)=O z:=bN h c
theorem kZ{f:eA}(c:ev P σ a=O x)(h:gB P σ es=O xs)(d:nG σ.mu f x xs=O z):ev P σ (.dG f a es)=O z:=bN c (bN h d)
theorem oY{l h:E}{u v:PV}(c:ev P σ a=O x)(d:ev P σ l=O u)(f:ev P σ h=O v)(g:mV x u v=O z):ev P σ (.dD a l h)=O z:=bN c (bN d (bN f g))
theorem nP(c:ev P σ a=O (.bool aF))(d:ev P σ b=O x):ev P σ (.bo .And (.cons a (.cons b .nil)))=O x:=bN c (bN d V)
theorem vp(c:ev P σ a=O (.bool aI)):ev P σ (.bo .And (.cons a (.cons b .nil)))=O (.bool aI):=bN c V
theorem KS{i:aA}{c e:E}{k:Z}(d:jG σ i=aF)(f:ev P σ c=O (.int k))(g:ev P σ e=O x)(h:js x=O x)(j:σ.mu=O xs)(l:0≤k)(m:k < xs.length)(n:xs.length≤1000000):
  ex P (.oN i c e) σ=O (.next,{σ with mu:=O (xs.set k.toNat x),pl:=aI}):=by
 refine bN g (bN h ((aR d).trans ?_))
 show(match ev P σ c with
  |some (.int k)=>u8 σ k x| _=> .none)=_
 exact M f <|bN j (bB ⟨l,m,n⟩)
theorem VN{i:aA}{c e:E}{k:Z}{o:i7}{y z:PV}(d:jG σ i=aF)(f:ev P σ c=O (.int k))(g:jn σ.mu .bV (.int k)=O p)(h:ev P σ e=O y)(j:jV o p y=O z)(l:σ.mu=O xs)(m:0≤k)(n:k < xs.length)(q:xs.length≤1000000):
  ex P (.sJ i c o e) σ=O (.next,{σ with mu:=O (xs.set k.toNat z),pl:=aI}):=by
 refine(aR d).trans ?_
 show(match ev P σ c with
  |some (.int k)=>(jn σ.mu .bV (.int k)).bind fun p=>(ev P σ e).bind fun y=>(jV o p y).bind fun z=>u8 σ k z| _=> .none)=_
 exact M f <|bN g (bN h (bN j (bN l (bB ⟨m,n,q⟩))))
theorem yx{i:aA}{e:E}(c:(jG σ i && σ.pl)=aF)(d:ev P σ e=O x)(f:js x=O x)(g:σ.mu=O xs)(h:xs.length≤1000000):ex P (.app i e) σ=O (.next,{σ with mu:=O (xs++[x])}):=(aR c).trans (bN d (bN f (bN g (bB h))))
theorem VO{i:aA}(c:(jG σ i && σ.pl)=aF)(d:σ.mu=O xs)(f:xs.length≤1000000):ex P (.uS i) σ=O (.next,{σ with mu:=O xs.reverse}):=(aR c).trans (bN d (bB f))
theorem VP{i:aA}{e f:E}{k:Z}(c:(jG σ i && σ.pl)=aF)(d:ev P σ e=O (.int k))(g:ev P σ f=O x)(h:js x=O x)(j:σ.mu=O xs)(l:0≤k∧k≤1000∧xs.length≤1000):
  ex P (.ins i e f) σ=O (.next,{σ with mu:=O (xs.take k.toNat++x::xs.drop k.toNat)}):=(aR c).trans (bN d (bN g (bN h (bN j (bB l)))))
theorem CH{i:aA}(c:jG σ i=aF)(d:σ.mu=O xs):ex P (.kS i) σ=O (.next,σ.freeze xs):=(aR c).trans (aT (j4 _) d)
theorem nx{s:S}{b:B}{σ':Sg}{r:aG (Fl×Sg)}(h:ex P s σ=O (.next,σ'))(k:bE P b σ'=r):bE P (.cons s b) σ=r:=(eL h).trans k
theorem sg{e:E}{b:B}{i:aA}{r:aG (Fl×Sg)}(h:ev P σ e=O x)(c:js x=O x)(k:bE P b (σ.put i x)=r):bE P (.cons (.asg i e) b) σ=r:=(eL (gO h c)).trans k
theorem it{t:E}{a b:B}{r:aG (Fl×Sg)}(h:ev P σ t=O (.bool aF))(k:bE P a σ=r):ex P (.ite t a b) σ=r:=(qk h V).trans k
theorem eY{t:E}{a b:B}{r:aG (Fl×Sg)}(h:ev P σ t=O (.bool aI))(k:bE P b σ=r):ex P (.ite t a b) σ=r:=(nN h V).trans k
theorem tg{e:E}{b:B}{c:aD aA}{r:aG (Fl×Sg)}(h:ev P σ e=O (.tup xs))(d:xs.length=c.length)(k:bE P b (putAll σ c xs)=r):bE P (.cons (.jm c e) b) σ=r:=(eL (yw h d)).trans k
theorem KU{e f:E}{b:B}{i j:aA}{y:PV}{r:aG (Fl×Sg)}(h:ev P σ e=O x)(c:ev P σ f=O y)(d:js x=O x)(g:js y=O y)(k:bE P b ((σ.put j y).put i x)=r):bE P (.cons (.mU i j e f) b) σ=r:=by have q:ex P (.mU i j e f) σ=O (.next,(σ.put j y).put i x):=bN h (bN c (bN d (aT (j4 _) g)));exact(eL q).trans k
theorem ag{o:i7}{e:E}{b:B}{i:aA}{p z:PV}{r:aG (Fl×Sg)}(c:σ.loc[i]? =O (O p))(h:ev P σ e=O y)(d:jV o p y=O z)(k:bE P b (σ.put i z)=r):bE P (.cons (.aug i o e) b) σ=r:=(eL (qj c h d)).trans k
theorem jW(c:ev P σ a=O x)(d:ev P σ b=O y):gB P σ (.cons a (.cons b .nil))=O [x,y] :=bW c (gD d)
theorem tv(c:ev P σ a=O x)(d:ev P σ b=O y)(f:kU [x,y] =aF):ev P σ (.tup (.cons a (.cons b .nil)))=O (.tup [x,y]):=tu (jW c d) (by decide:2≤1000) f
theorem KW(c:ev P σ a=O (.bool aF)):ev P σ (.bo .Or (.cons a (.cons b .nil)))=O (.bool aF):=bN c V
theorem vq(c:ev P σ a=O (.bool aI))(d:ev P σ b=O x):ev P σ (.bo .Or (.cons a (.cons b .nil)))=O x:=bN c (bN d V)
theorem KX{c:E}{p q r:aU}(f:ev P σ a=O x)(d:truth x=O p)(h:ev P σ b=O y)(g:truth y=O q)(j:p=aF→q=aF→ev P σ c=O (.bool r)):(ev P σ (.bo .And (.cons a (.cons b (.cons c .nil))))).bind truth=O (p && (q && r)):=by
 cases p with
 |false=>exact bN (bN f (bN d V)) d
 |true=>cases q with
  |false=>exact bN (bN f (bN d (bN h (bN g V)))) g|true=>exact bN (bN f (bN d (bN h (bN g (bN (j V rfl) V))))) V
theorem KY{c:Sg→aG aU}{body:Sg→aG (Fl×Sg)}{n:aA}:kA c body (n+1) σ=(match c σ with
  |some aF=>(match body σ with
   |some (.next,σ')=>kA c body n σ'|some (.brk,σ')=>O (.next,σ')|some (.ret v,σ')=>O (.ret v,σ')| .none=> .none)
  |some aI=>O (.next,σ)| .none=> .none):=rfl
theorem vr{c:Sg→aG aU}{body:Sg→aG (Fl×Sg)}{n:aA}(h:c σ=O aI):kA c body (n+1) σ=O (.next,σ):=M KY (M h V)
theorem CI{c:Sg→aG aU}{body:Sg→aG (Fl×Sg)}{n:aA}{σ':Sg}(h:c σ=O aF)(d:body σ=O (.next,σ')):kA c body (n+1) σ=kA c body n σ':=by refine M KY (M h ?_);dsimp only;exact M d V
theorem bb{p q:aU}(h:p=q):O (PV.bool p)=O (.bool q):=aT (fun z=>O (PV.bool z)) h
theorem KZ{a b:Z}(h:a=b):jb .Eq (.int a) (.int b)=O (.bool aF):=bb (beq_iff_eq.mpr h)
theorem yy{a b:Z}(h:a≠b):jb .Eq (.int a) (.int b)=O (.bool aI):=bb (beq_eq_false_iff_ne.mpr h)
theorem VQ{a b:Z}(h:a≠b):jb .NotEq (.int a) (.int b)=O (.bool aF):=bb (bne_iff_ne.mpr h)
theorem VR{a b:Z}(h:a≤b):jb .LtE (.int a) (.int b)=O (.bool aF):=bb (fM h)
theorem VS{a b:Z}(h:¬a≤b):jb .LtE (.int a) (.int b)=O (.bool aI):=bb (eO h)
theorem lS{a b:Z}(h:a < b):jb .Lt (.int a) (.int b)=O (.bool aF):=bb (fM h)
theorem lc{a b:Z}(h:¬a < b):jb .Lt (.int a) (.int b)=O (.bool aI):=bb (eO h)
theorem CJ{a b:Z}(h:b < a):jb .Gt (.int a) (.int b)=O (.bool aF):=bb (fM h)
theorem CK{a b:Z}(h:¬b < a):jb .Gt (.int a) (.int b)=O (.bool aI):=bb (eO h)
end
section
variable{x:PV}{xs:aD PV}{z:PV}
theorem CL {k} (h:lC xs k=O z):∃x r,xs=x::r∧k x r=O z:=eC (C:=fun xs=>∃x r,xs=x::r∧k x r=O z) h fun x r h=>⟨x,r,rfl,h⟩
theorem K0 {k} (h:sS x k=O z):∃a,x= .str a∧k a=O z:=eS (C:=fun x=>∃a,x= .str a∧k a=O z) h fun a h=>⟨a,rfl,h⟩
noncomputable def s1(xs:aD PV)(k:Str→aG PV):aG PV:=lC xs fun x r=>sS x fun a=>lN r (k a)
noncomputable def s2(xs:aD PV)(k:Str→Str→aG PV):aG PV:=lC xs fun x r=>sS x fun a=>s1 r (k a)
noncomputable def i1(xs:aD PV)(k:Z→aG PV):aG PV:=lC xs fun x r=>sI x fun a=>lN r (k a)
noncomputable def i2(xs:aD PV)(k:Z→Z→aG PV):aG PV:=lC xs fun x r=>sI x fun a=>i1 r (k a)
noncomputable def i3(xs:aD PV)(k:Z→Z→Z→aG PV):aG PV:=lC xs fun x r=>sI x fun a=>i2 r (k a)
noncomputable def i4(xs:aD PV)(k:Z→Z→Z→Z→aG PV):aG PV:=lC xs fun x r=>sI x fun a=>i3 r (k a)
noncomputable def i6(xs:aD PV)(k:Z→Z→Z→Z→Z→Z→aG PV):aG PV:=lC xs fun x r=>sI x fun a=>lC r fun x r=>sI x fun b=>i4 r (k a b)
noncomputable def ib(xs:aD PV)(k:Z→aU→aG PV):aG PV:=lC xs fun x r=>sI x fun a=>lC r fun y r=>sB y fun b=>lN r (k a b)
@[elab_as_elim] theorem mS{p:Prop}{a z:PV}{C:PV→Prop}(h:aZ p (O a)=O z)(k:p→C a):C z:=by refine xa (iZ h) fun c h=> ?_;cases h;exact k c
@[elab_as_elim] theorem fI{g f:Str}{A B:aG PV}{z:PV}{C:Str→Prop}(h:(if f=g then A else B)=O z)(k:A=O z→C g)(l:B=O z→C f):C f:=by
 by_cases e:f=g
 ·subst e;exact k ((aR V).symm.trans h)
 ·exact l ((aP e).symm.trans h)
@[elab_as_elim] theorem VT {k} {C:aD PV→Prop}(h:s1 xs k=O z)(f:∀a,k a=O z→C [.str a]):C xs:=eC h fun J r h=>eS (C:=fun x=>C (x::r)) h fun a h=>eN (C:=fun r=>C (.str a::r)) h (f a)
@[elab_as_elim] theorem La {k} {C:aD PV→Prop}(h:s2 xs k=O z)(f:∀a b,k a b=O z→C [.str a,.str b]):C xs:=eC h fun J r h=>eS (C:=fun x=>C (x::r)) h fun a h=>VT (C:=fun r=>C (.str a::r)) h (f a)
@[elab_as_elim] theorem e1 {k} {C:aD PV→Prop}(h:i1 xs k=O z)(f:∀a,k a=O z→C [.int a]):C xs:=eC h fun J r h=>eI (C:=fun x=>C (x::r)) h fun a h=>eN (C:=fun r=>C (.int a::r)) h (f a)
@[elab_as_elim] theorem e2 {k} {C:aD PV→Prop}(h:i2 xs k=O z)(f:∀a b,k a b=O z→C [.int a,.int b]):C xs:=eC h fun J r h=>eI (C:=fun x=>C (x::r)) h fun a h=>e1 (C:=fun r=>C (.int a::r)) h (f a)
@[elab_as_elim] theorem e3 {k} {C:aD PV→Prop}(h:i3 xs k=O z)(f:∀a b c,k a b c=O z→C [.int a,.int b,.int c]):C xs:=eC h fun J r h=>eI (C:=fun x=>C (x::r)) h fun a h=>e2 (C:=fun r=>C (.int a::r)) h (f a)
@[elab_as_elim] theorem e4 {k} {C:aD PV→Prop}(h:i4 xs k=O z)(f:∀a b c d,k a b c d=O z→C [.int a,.int b,.int c,.int d]):C xs:=eC h fun J r h=>eI (C:=fun x=>C (x::r)) h fun a h=>e3 (C:=fun r=>C (.int a::r)) h (f a)
@[elab_as_elim] theorem e6 {k} {C:aD PV→Prop}(h:i6 xs k=O z)(q:∀a b c d e f,k a b c d e f=O z→C [.int a,.int b,.int c,.int d,.int e,.int f]):C xs:=
 eC h fun J r h=>eI (C:=fun x=>C (x::r)) h fun a h=>eC (C:=fun r=>C (.int a::r)) h fun J r h=>eI (C:=fun x=>C (.int a::x::r)) h fun b h=>e4 (C:=fun r=>C (.int a:: .int b::r)) h (q a b)
@[elab_as_elim] theorem VU {k} {C:aD PV→Prop}(h:ib xs k=O z)(f:∀a b,k a b=O z→C [.int a,.bool b]):C xs:=
 eC h fun J r h=>eI (C:=fun x=>C (x::r)) h fun a h=>eC (C:=fun r=>C (.int a::r)) h fun J r h=>eB (C:=fun x=>C (.int a::x::r)) h fun b h=>eN (C:=fun r=>C (.int a:: .bool b::r)) h (f a b)
theorem VV {k} (h:s2 xs k=O z):∃a b,xs=[.str a,.str b]∧k a b=O z:=La (C:=fun xs=>∃a b,xs=[.str a,.str b]∧k a b=O z) h fun a b h=>⟨a,b,rfl,h⟩
theorem Lb {k} (h:i1 xs k=O z):∃a,xs=[.int a]∧k a=O z:=e1 (C:=fun xs=>∃a,xs=[.int a]∧k a=O z) h fun a h=>⟨a,rfl,h⟩
theorem VW{p:Prop} [qC p] {y u:aG PV}(h:(if p then y else u)=O z):(p∧y=O z)∨u=O z:=by
 by_cases c:p
 ·exact .inl ⟨c,(aR c).symm.trans h⟩
 ·exact .inr ((aP c).symm.trans h)
theorem VX{p:Prop} [qC p] {y:aG PV}(h:(if p then y else aB)=O z):p∧y=O z:=by
 by_cases c:p
 ·exact⟨c,(aR c).symm.trans h⟩
 ·rw[aP c] at h;exact nn h
end
noncomputable def two(n:Z):Str:=gL (pV (100+n)) (O 1) aB
theorem VY{i:Z}(h:i.natAbs < 10^10):(pV i).length≤11:=by unfold pV;exact M (PySem.ofString_length ..) <|PySem.int_text_length_le10 (by decide) h
theorem VZ(P:bT)(n:Z)(d:0≤n)(f:n < 100):bE P KA {loc:=[O (.int n)]}=O (.ret (.str (two n)),{loc:=[O (.int n)]}):=by have c:(100+n).natAbs < 10^10:=Bv (qK (by decide) d) (dM (aff f _) (by decide));have g:(pV (100+n)).length≤eF:=aL (VY c) (by refine M cN ?_;decide);have h:oQ aB "str" [.int (100+n)] =O (.str (pV (100+n))):=bB c;have j:mV (.str (pV (100+n))) (.int 1) .none=O (.str (two n)):=bB g;exact cU (fU (x:= .str (two n)) (bN h (bN V (bN V j))) V)
theorem rm{j n:aA}(h:j < n):ox (j:Z) n=O j:=by have c:¬((j:Z) < 0):=i9.mpr (cW j);unfold ox;exact aR (fM (dZ.mpr h)▸fM (cW j)▸rfl)
theorem Lc{k:Z}{n:aA}(c:0≤k)(h:k < n):ox k n=O k.toNat:=by have e:=kr c;exact aS e <|rm (dZ.mp (e.symm▸h))
end
section
noncomputable def V0(a:aD (aG Expr))(b:aD Expr):aD (Z×Str):=(a.zip b).filterMap fun p=>p.1.bind fun k=>sP aB k fun n J J=>BY aB p.2 fun x J J=>O (n,x)
structure KV where
 kv:Z×Str
 k1:aA
 p1:bG
 k2:aA
 p2:bG
noncomputable def KV.key(e:KV):aG Expr:=O (.Constant (.int e.kv.1) e.k1 e.p1)
noncomputable def KV.val(e:KV):Expr:= .Constant (.str e.kv.2) e.k2 e.p2
structure IV where
 i:Z
 k:aA
 p:bG
noncomputable def IV.e(e:IV):Expr:= .Constant (.int e.i) e.k e.p
noncomputable def vt:aD Z→aU
 |a::b::r=>decide (a < b) && vt (b::r)| _=>aF
theorem Ld:∀{l:aD Z} {a:Z},vt (a::l)=aF→∀x∈l,a < x
 |[],_,_,x,h=>by cases h
 |b::r,a,h,x,c=>by
  have h:=mJ.mp h;rcases gz.mp c with e |c
  ·refine M e ?_;exact kP h.1
  ·exact uD (kP h.1) (Ld h.2 x c)
theorem Le:∀{l:aD Z},vt l=aF→l.Nodup
 |[],_=>afg
 |a::l,h=>by
  refine iO afc <|⟨fun c=>absurd (Ld h a c) (Int.lt_irrefl _),Le (l:=l) ?_⟩
  cases l with
  |nil=>rfl|cons b r=>exact(mJ.mp h).2
section
variable{E:aJ→aM→Prop}
noncomputable def CM(a:gI)(b:bG):aD (aG Expr)→aD Expr→aD (cR aJ×cR aJ)
 |some k::c,v::d=>(eval k a,do let x ←eval v a;np b;pure x)::CM a b c d| _,_=>[]
theorem V1:Ig w (eval (.Constant (.int n) k p) a,(do let x ←eval (.Constant (.str x) c d) a;np e;pure x:cR aJ)) (n,x):=
 ⟨fun J J J J b=>pG (env:=a) (k:=k) (pos:=p) (b _ _),fun J J J J b=>wpAny_bind (sm (env:=a) (k:=c) (pos:=d) (wpAny_bind (jg (wpAny_pure (b _ _)))))⟩
theorem V2(l:aD KV):
  (Rn (l.map KV.key) env).zip ((Ro (l.map KV.val) env).map fun v=>(do let x ←v;np pos;pure x:cR aJ))=(CM env pos (l.map KV.key) (l.map KV.val)).map (fun p=>(O p.1,p.2))∧iP w (CM env pos (l.map KV.key) (l.map KV.val)) (l.map KV.kv):=by
 induction l with
 |nil=>exact⟨rfl,.nil⟩|cons e r ih=>exact⟨aT (QR (O (eval (.Constant (.int e.kv.1) e.k1 e.p1) env),(do let x ←eval (.Constant (.str e.kv.2) e.k2 e.p2) env;np pos;pure x:cR aJ))) ih.1,.cons V1 ih.2⟩
theorem V3{w:aV}{A:bX}{s:aM}{c:gI}{l:aD KV}{f:bG}{Q:aJ→aM→Prop}(h:0 < (l.map KV.kv).length)
  (i:(l.map KV.kv).length≤eF) (j:vt ((l.map KV.kv).map (·.1))=aF) (k:j0 < s.heap.objs.size)
  (m:∀a tk d g,im g (l.map KV.kv)→a.DictOf (fF pg w) d g→s.heap.objs.size≤d→(∀b o,s.heap.get? b=O o→a.get? b=O o)→Q (.ref d) {s with heap:=a,toks:=tk}):
  aN (aO pg w) A (eval (.Dict (l.map KV.key) (l.map KV.val) f) c) Q E s:=by
 refine xa (V2 (w:=w) (env:=c) (pos:=f) l) fun e t=>M (arm_eval_Dict ..) (M e ?_);exact wpAny_bind (jg (TC t (by refine M t.length ?_;exact h) i (Le j) k m))
theorem V4:∀{l:aD IV} {s:aM} {Q:aD aJ→aM→Prop},
  (∀a tk,iY a (l.map IV.i)→Q a {s with toks:=tk})→aN (aO pg w) A (sj (jB d (dF (l.map IV.e) f))) Q E s:=by
 intro l
 induction l with
 |nil=>exact fun b=>jC (b [] _ .nil)|cons e r ih=>exact fun b=>iC (pG (ih fun a tk c=>b _ _ (.cons _ _ c)))
theorem IntsAre.append {a b c d} (g:iY a b)(h:iY c d):iY (a++c) (b++d):=by
 induction g with
 |nil=>exact h|cons n t _ ih=>exact .cons n t ih
theorem V5(h:ItemsOf (fun i (v:aJ)=>∃t,v=dU (a+i*c) t) b n):iY b.toList ((mH n).map fun(i:aA)=>a+(i:Z)*c):=by
 (refine xa h ?_;clear h;rintro f g)
 have m:∀(l:aD aJ) (k:aA),(∀(j:aA) (v:aJ),l[j]? =O v→∃t,v=dU (a+((k+j:aA):Z)*c) t)→iY l ((qJ k l.length).map fun(i:aA)=>a+(i:Z)*c):=by
  intro l
  induction l with
  |nil=>intro k _;exact .nil
  |cons v r ih=>
   intro k d;(refine xe (d 0 v V) ?_;rintro t rfl);exact .cons _ t (ih (k+1) fun j v e=>by have:=d (j+1) v (by simpa using e);refine M (on _ _ _:k+1+j=k+(j+1)) ?_;exact this)
 have:=m b.toList 0 (fun j v e=>by rw[pz] at e;simpa using g j v e);refine M uv (aS f ?_);simpa using this
noncomputable def lT(c:aD Z)(a b:Z):aD Int:=c++(mH (b - a).toNat).map fun(i:aA)=>a+(i:Z)*1
theorem CN(b:a.scope.kind= .module)(c:a.locals=a.globals)(d:s.heap.Ns a.globals mg)(e:mg x=aB)
  (f:s.heap.Ns a.builtins mb) (g:mb x=O v) (i:(x==("__debug__":Str))=aI) (h:Q v s):aN (aO pg w) A (eval (.Name x j) a) Q E s:=
 Calls.Name_module b c (aeN d e f g h) i
theorem V6{w:aV}{A:bX}{s:aM}{f:gI}{l:aD IV}{a b:Z}{R T:aA}{U W X Y a0 a1 a2 a3 a4 a5:bG}{j mb:Str→aG aJ}{Q:aJ→aM→Prop}(B:A.handled=aB)(p:f.scope.kind= .module)(q:f.locals=f.globals)
  (r:s.heap.Ns f.globals j) (t:s.heap.Ns f.builtins mb) (a6:j "set"=aB) (a7:j "list"=aB) (a8:j "range"=aB) (a9:mb "set"=O (.type "set")) (a':mb "list"=O (.type "list")) (aa:mb "range"=O (.type "range"))
  (u:(l.map IV.i).length≤100) (C:0≤a∧a≤b∧b≤a+100∧b≤1000000)
  (ab:∀d tk S,d.SetOf (fF pg w) S (fun ae=>(AV (fun i=>(lT (l.map IV.i) a b).getD i 0) (lT (l.map IV.i) a b).length).any (· ==ae)) (AV (fun i=>(lT (l.map IV.i) a b).getD i 0) (lT (l.map IV.i) a b).length).length→s.heap.objs.size≤S→
   (∀b o,s.heap.get? b=O o→d.get? b=O o)→Q (.ref S) {s with heap:=d,toks:=tk}):
  aN (aO pg w) A (eval (.Call (.Name "set" U) [.BinOp (.List (l.map IV.e) W) .Add (.Call (.Name "list" X) [.Call (.Name "range" Y) [.Constant (.int a) R a0,.Constant (.int b) T a1] [] a2] [] a3) a4] [] a5) f) Q E s:=by
 refine wpAny_Call_NameR (CN p q r a6 t a9 (by decide+kernel) ?_);refine pH V (iE (by intro e;cases e) V ?_);refine iC <|wpAny_BinOp (GI (V4 fun c tk D=> ?_))
 have F:c.length=(l.map IV.i).length:=D.length;refine nr ?_ (by refine(M kO (M cN (M F ?_)):c.toArray.size≤eF);exact aL u (by decide));dsimp only;have k:∀x o,s.heap.get? x=O o→(s.heap.push {cls:= .type "list",data:= .seq c.toArray}).get? x=O o:=fun x o e=>eV _ e;have af:(s.heap.push {cls:= .type "list",data:= .seq c.toArray}).get? s.heap.objs.size=O {cls:= .type "list",data:= .seq c.toArray}:=fP _ V;refine wpAny_Call_NameR (CN (mg:=j) (mb:=mb) p q (r.keeps k) a7 (t.keeps k) a' (by decide+kernel) ?_);refine pH V (iE (by intro e;cases e) V ?_);refine iC <|wpAny_Call_NameR (CN (mg:=j) (mb:=mb) p q (r.keeps k) a8 (t.keeps k) aa (by decide+kernel) ?_)
 refine pH V (iE (by intro e;cases e) V ?_);refine iC (pG ?_);refine iC (pG (jC ?_));refine call_range_2 (jC ?_);dsimp only;(refine dW C ?_;clear C;rintro G n ah H)
 have ai:sd a b 1=((b - a).toNat:aA):=by
  refine M (kr (AW n)) (M (ae' ..) ?_)
  by_cases h:a < b
  ·exact aR h
  ·exact M (aP h) (M (RB n (i9.mp h)) (M (Int.sub_self ..) V))
 have v:(b - a).toNat≤100:=Go.mpr (afh ah);refine aeQ B (IsRange.new _ _ _ _ _ _ _) (small_one (cK (by decide) G) (iV (cK n H) (by decide)) (cK (by decide) (cK G n)) (iV H (by decide))) ai (aL v (by decide)) fun d aq m aj y g I=> ?_;dsimp only at y g;have z:d.get? s.heap.objs.size=O {cls:= .type "list",data:= .seq c.toArray}:=y _ _ (eV _ af);have ak:=V5 I;have al:m.size=(b - a).toNat:=I.1;refine concat_meets ⟨_,z,rfl⟩ ⟨_,g,rfl⟩ aeC seq_list_add aeD aeE (aeF _ _) (list_addW _ _ c.toArray m _ aj aB aB #[] #[] ?_) ⟨z,g,?_⟩
 ·refine M cN (M kO (M F (M al ?_)));exact aL (fY u v) (by decide)
 refine jC ?_
 have K:iY (c.toArray++m).toList (lT (l.map IV.i) a b):=by refine M lH ?_;exact IntsAre.append D ak
 have L:(c.toArray++m).size=(lT (l.map IV.i) a b).length:=by have:=K.length;simpa using this
 refine call_set_list B (l:=d.objs.size) (items:=c.toArray++m) ⟨_,fP _ V,rfl,_,rfl⟩ K ?_ fun am an N ao=> ?_
 ·refine M L ?_;unfold lT;refine M bH (M (bQ (f:=fun(i:aA)=>a+(i:Z)*1)) (M Au ?_));exact cC (lF (fY u v) 1) (by decide:201 < 4096)
 ·rw[L] at N;have ap:s.heap.objs.size≤d.objs.size:=fE (fA z);refine ab am an _ N ?_ fun x o e=> ?_
  ·refine(M (xt ..) ?_:s.heap.objs.size≤(d.push _).objs.size);exact nw ap
  ·have P:d.get? x=O o:=y _ _ (eV _ (k x o e));refine ao x o ?_ (eV _ P);exact M (xt ..) <|sv (fA P)
end
end
section
noncomputable def CO(p:oz):Bool:=(p.args++p.posonlyargs++p.vararg.toList++p.kwonlyargs++p.kwarg.toList).all fun a=>a.annotation.isNone
theorem Lf:∀(l:aD Arg) (e:gI),(l.all fun a=>a.annotation.isNone)=aF→afi l e=[]
 |[],_,_=>rfl|⟨_,aB,_⟩::r,e,h=>show afi r e=[] from Lf r e h|⟨_,O _,_⟩::_,_,h=>absurd h cL
theorem Lg(h:CO p=aF):annTrees p aB e=[] :=by obtain⟨b,a,c,f,g,i,d⟩:=p;unfold annTrees;simp only;refine M (Lf _ _ h) ?_;rfl
inductive cP where
 |fn (name:Str) (params:oz) (body:aD bR) (scope:dN) (pos:bG)
 |int (x:Str) (p:bG) (i:Z) (k:aA) (q r:bG)
 |str (x:Str) (p:bG) (y:Str) (k:aA) (q r:bG)
 |dict (x:Str) (p:bG) (l:aD KV) (q r:bG)
 |set (x:Str) (p:bG) (l:aD IV) (a b:Z) (k1 k2:aA) (p1 p2 p3 p4 p5 p6 p7 p8 p9 lf r:bG)
noncomputable def cP.st:cP→bR
 | .fn name c d e f=> .FunctionDef name c d [] aB [] e aB name f| .int x p i k q r=> .Assign [.Name x p] (.Constant (.int i) k q) r| .str x p y k q r=> .Assign [.Name x p] (.Constant (.str y) k q) r| .dict x p l q r=> .Assign [.Name x p] (.Dict (l.map KV.key) (l.map KV.val) q) r| .set x p l a b g h j m n o s t u v w z r=> .Assign [.Name x p] (.Call (.Name "set" j) [.BinOp (.List (l.map IV.e) m) .Add (.Call (.Name "list" n) [.Call (.Name "range" o) [.Constant (.int a) g s,.Constant (.int b) h t] [] u] [] v) w] [] z) r
noncomputable def cP.nm:cP→Str
 | .fn n _ _ _ _=>n| .int x .. =>x| .str x .. =>x| .dict x .. =>x| .set x .. =>x
noncomputable def cP.pl:cP→bG
 | .fn _ _ _ _ p=>p| .int _ _ _ _ _ p=>p| .str _ _ _ _ _ p=>p| .dict _ _ _ _ p=>p| .set _ _ _ _ _ _ _ _ _ _ _ _ _ _ _ _ _ p=>p
noncomputable def V7(k:aG Expr)(v:Expr):KV:=(k.map fun k=>sP ⟨(0,qN),0,default,0,default⟩ k fun n a b=>BY ⟨(0,qN),0,default,0,default⟩ v fun x c d=>⟨(n,x),a,b,c,d⟩).getD ⟨(0,qN),0,default,0,default⟩
noncomputable def V8(e:Expr):IV:=sP ⟨0,0,default⟩ e fun n k p=>⟨n,k,p⟩
noncomputable def j':cP:= .int qN default 0 0 default default
noncomputable def V9(s:bR):cP:=yc (IQ j' s fun d v r=>d1 j' d fun t=>yb j' t fun x p=>
  sP (BY (IP (BZ j' v fun g e f=>yb j' g fun J h=>d1 j' e fun b=>Uh j' b fun l j m=>Ui j' l fun o z=>BZ j' j fun A B C=>yb j' A fun J D=>d1 j' B fun c=>BZ j' c fun E F G=>yb j' E fun J H=>
   d2 j' F fun u w=>sP j' u fun a I K=>sP j' w fun b L N=> .set x p (o.map V8) a b I L h z D H K N G C m f r)
   v fun P Q q=> .dict x p (List.zipWith V7 P Q) q r) v fun y k q=> .str x p y k q r) v fun i k q=> .int x p i k q r) s fun n a b R p=> .fn n a b R p
noncomputable def iG:aD cP:=pg.main.body.map V9
theorem yz:iG.map cP.st=pg.main.body:=by kernel_rfl
inductive rn(N:aW)(name:Str)(params:oz)(body:aD bR)(scope:dN)(v:aJ)(h:bF):Prop
 |mk (a c' P':aW) (doc dV:aJ) (vs:aD aJ) (pm:aJ) (e:v= .ref a) (l1:N≤a) (l2:N≤c') (l3:N≤P') (g:h.get? a=O {cls:= .type "function",data:= .func (defFd name name params body scope fL dV .none aB pm (.ref c') doc)})
   (hv:GZ params.defaults vs) (hd:h.DefaultsAt N vs dV) (hc:h.CodeRec (.ref c') name) (hi:h.IsCode c' P' #[]) (ht:h.TableAt c' P' #[])
noncomputable def VF(w:aV)(N:aW):cP→aJ→bF→Prop
 | .fn name e f g _,v,h=>rn N name e f g v h| .int _ _ i _ _ _,v,_=>∃t,v= .int i t| .str _ _ y _ _ _,v,_=>∃t,v= .str y t| .dict _ _ l _ _,v,h=>∃d c,v= .ref d∧N≤d∧im c (l.map KV.kv)∧h.DictOf (fF pg w) d c| .set _ _ l a b _ _ _ _ _ _ _ _ _ _ _ _ _,v,h=>∃S,v= .ref S∧N≤S∧h.SetOf (fF pg w) S (fun j=>(AV (fun i=>(lT (l.map IV.i) a b).getD i 0) (lT (l.map IV.i) a b).length).any (· ==j)) (AV (fun i=>(lT (l.map IV.i) a b).getD i 0) (lT (l.map IV.i) a b).length).length
theorem VF.above{st:cP}(x:VF w N st v h)(c:∀b o,N≤b→h.get? b=O o→z.get? b=O o):VF w N st v z:=by
 cases st with
 |fn=>
  obtain⟨a,A,B,C,D,k,E,e,u,i,m,g,F,G,H,y,I⟩:rn .. :=x;refine rn.mk a A B C D k E e u i m (c _ _ u g) F ?_ (H.at fun o=>c _ o i) ?_ ?_
  ·rcases G with e |⟨d,T,n,j,p⟩
   ·exact .inl e
   ·exact .inr ⟨d,T,n,j,c _ _ j p⟩
  ·(refine sF y ?_;clear y;rintro K k L P f;refine H8 f ?_;clear f;rintro Q R U W X Y d a0 a1 a2 f;refine jl f ?_;clear f;rintro a3 a4 a5 n r);exact⟨K,k,L,P,Q,R,U,W,X,Y,c _ _ i d,a0,a1,a2,a3,a4,a5,c _ _ m n,r⟩
  ·obtain⟨⟨a6,a7,j,a8⟩,p⟩:=I;exact⟨⟨a6,a7,c _ _ i j,a8⟩,c _ _ m p⟩
 |int=>exact x|str=>exact x|dict=>(refine S9 x ?_;clear x;rintro a9 a' d l aa o q s e r);exact⟨a9,a',d,l,aa,o,q,s,c _ _ l e,r⟩|set=>(refine S8 x ?_;clear x;rintro S d l o q s t e r);exact⟨S,d,l,o,q,s,t,c _ _ l e,r⟩
structure Tp(w:aV)(h₀:bF)(lU mb:Str→aG aJ)(c Pl:aW)(done:aD cP)(h:bF)(mg:Str→aG aJ)(ps:eW aJ):Prop where
 main:h.Main mg c Pl ps
 keep:∀b o,b≠Pl→b≠fL→h₀.get? b=O o→h.get? b=O o
 lowP:Pl < h₀.objs.size
 lowG:fL < h₀.objs.size
 yA:j0 < h₀.objs.size
 CP:i8≠Pl
 grows:h₀.objs.size≤h.objs.size
 others:∀x,x∉done.map cP.nm→mg x=lU x
 held:∀st∈done,(st.nm≠"__name__"∧∃v,mg st.nm=O v∧VF w h₀.objs.size st v h)∨(st.nm="__name__"∧∃x t,mg "__name__"=O (.str x t))
 yB:∀p:bG,mI p ps.toList≠aB→∃st∈done,st.pl.line=p.line∧st.pl.col=p.col
 ok:ut ps.toList
 b:h₀.Ns i8 mb
noncomputable def yC:cP→aU
 | .fn name c _ scope _=>c.kwonlyargs.isEmpty && c.kw_defaults.isEmpty && c.defaults.all (·.isPlainConst) && CO c && scope.names.all (fun x=>x.2 != .free) &&
   (pg.main.scope.names.lookup name==O .local) && (qualnameIn {scope:=pg.main.scope,locals:=fL,globals:=fL,cells:=[]} name name==name) && (name !="__builtins__") && (name !="__name__")
 | .int x _ _ _ _ _=>(pg.main.scope.names.lookup x==O .local) && (x !="__builtins__") && (x !="__name__")| .str x _ _ _ _ _=>(pg.main.scope.names.lookup x==O .local) && (x=="__name__")| .dict x _ l _ _=>(pg.main.scope.names.lookup x==O .local) && (x !="__builtins__") && (x !="__name__") && decide (0 < (l.map KV.kv).length) && decide ((l.map KV.kv).length≤10000) && vt ((l.map KV.kv).map (·.1))| .set x _ l a b _ _ _ _ _ _ _ _ _ _ _ _ _=>(pg.main.scope.names.lookup x==O .local) && (x !="__builtins__") && (x !="__name__") && decide ((l.map IV.i).length≤100) && decide (0≤a∧a≤b∧b≤a+100∧b≤1000000)
theorem V':iG.all yC=true:=by decide+kernel
end
section
section
variable{w:aV}{A:bX}{E:aJ→aM→Prop}{s:aM}{h₀:bF}{lU mb Y:Str→aG aJ}{c Pl F:aW}{done:aD cP}{ps:eW aJ}
theorem Wa:pg.main.scope.kind= .module:=by rfl
theorem Tp.bind{st:cP}{v:aJ}{h g:bF}{j:eW aJ}(X:Tp w h₀ lU mb c Pl done h Y ps)(D:st.nm∉done.map cP.nm∨st.nm="__name__")
  (G:g.Main (fun y=>if y=st.nm then O v else Y y) c Pl j) (n:∀b o,b≠Pl→b≠fL→h.get? b=O o→g.get? b=O o) (H:h.objs.size≤g.objs.size)
  (r:(st.nm≠"__name__"∧VF w h₀.objs.size st v g)∨(st.nm="__name__"∧∃x t,v= .str x t))
  (I:∀p:bG,mI p j.toList≠aB→∃a∈done++[st],a.pl.line=p.line∧a.pl.col=p.col) (K:ut j.toList):
  Tp w h₀ lU mb c Pl (done++[st]) g (fun y=>if y=st.nm then O v else Y y) j:=by
 have L:∀b o,h₀.objs.size≤b→h.get? b=O o→g.get? b=O o:=fun b o z e=>n b o (eG (bL X.lowP z)) (eG (bL X.lowG z)) e;refine⟨G,fun b o B C e=>n b o B C (X.keep b o B C e),X.lowP,X.lowG,X.yA,X.CP,aL X.grows H,?_,?_,I,K,X.b⟩
 ·intro x l;rw[iA,jD,G0] at l;refine(M (aP (by simpa using l.2)) ?_:(if x=st.nm then O v else Y x)=_);exact X.others x l.1
 ·intro a i;rcases jD.mp i with i |i
  ·rcases X.held a i with⟨k,u,m,f⟩ |⟨k,x,t,m⟩
   ·refine .inl ⟨k,u,?_,f.above L⟩
    have N:a.nm≠st.nm:=by
     rcases D with q |q
     ·exact fun e=>q (e▸Ay i)
     ·refine M q ?_;exact k
    refine(M (aP N) ?_:(if a.nm=st.nm then _ else Y (a.nm))=_);exact m
   ·refine .inr ⟨k,?_⟩;rcases r with⟨d,_⟩ |⟨d,y,u,f⟩
    ·exact⟨x,t,by show(if _ then _ else Y "__name__")=_;refine M (aP (Ne.symm d)) ?_;exact m⟩
    ·exact⟨y,u,by show(if _ then _ else Y "__name__")=_;exact M (aR d.symm) (M f V)⟩
  ·obtain rfl:a=st:=by simpa using i
   rcases r with⟨d,f⟩ |⟨d,y,u,f⟩
   ·exact .inl ⟨d,v,aR V,f⟩
   ·exact .inr ⟨d,y,u,by show(if _ then _ else Y "__name__")=_;exact M (aR d.symm) (M f V)⟩
theorem Tp.grown{h d:bF}(X:Tp w h₀ lU mb c Pl done h Y ps)(a:∀b o,h.get? b=O o→d.get? b=O o)(f:h.objs.size≤d.objs.size):Tp w h₀ lU mb c Pl done d Y ps:=by
 refine BD X.main.bmod fun g o i j k l m n=>⟨⟨X.main.g.keeps a,X.main.code.keeps a,X.main.low,⟨g,o,i,j,k,l,a _ _ m,n⟩⟩,fun b o p q e=>a b o (X.keep b o p q e),X.lowP,X.lowG,X.yA,X.CP,aL X.grows f,X.others,?_,X.yB,X.ok,X.b⟩;intro st t;rcases X.held st t with⟨v,u,x,y⟩ |r
 ·exact .inl ⟨v,u,x,y.above fun b o J=>a b o⟩
 ·exact .inr r
theorem Tp.store{st:cP}{v:aJ}{Q:j3→aM→Prop}(X:Tp w h₀ lU mb c Pl done s.heap Y ps)(j:st.nm∉done.map cP.nm∨st.nm="__name__")(l:pg.main.scope.names.lookup (st.nm)=O .local)
  (m:st.nm≠"__builtins__") (n:∀d,(∀b o,b≠fL→s.heap.get? b=O o→d.get? b=O o)→(st.nm≠"__name__"∧VF w h₀.objs.size st v d)∨(st.nm="__name__"∧∃x t,v= .str x t))
  (k:∀d q r tk,Tp w h₀ lU mb c Pl (done++[st]) d q r→Q .next {s with heap:=d,toks:=tk}):
  aN (aO pg w) A (Rx (Ha pg c F) (st.nm) v) (fun J=>Q .next) E s:=by
 refine uw (env:=Ha pg c F) l X.main.g (fun d u f=> ?_) V;refine BD X.main.bmod fun y o z B h C D G=> ?_;have i:∀b o,b≠fL→s.heap.get? b=O o→d.get? b=O o:=fun b o g e=>(f.2 _ g).trans e
 refine k d _ ps _ (X.bind j (v:=v) ⟨u,X.main.code.sameBut f (eG X.main.low.1) (eG X.main.low.2),X.main.low,⟨y,o,?_,B,h,C,(f.2 _ h).trans D,G⟩⟩
  (fun b o J g e=>i b o g e) (cM f.1.symm) (n d i) (fun p H=>aQ (X.yB p H) fun I a b=>⟨I,kR _ a,b⟩) X.ok)
 simp only[Ne.symm m,if_false];exact z
theorem Wb{p q:bG}{v:aJ}(l:aD aJ)(h:ut l)(d:mI q (l++[lK p.line,lK p.col,v])≠aB):mI q l≠aB∨(p.line=q.line∧p.col=q.col):=by
 fun_induction ut l with
 |case1=>
  simp only[qO,mI,lK] at d
  split at d
  ·rename_i e
   simp only[gZ,me] at e;exact .inr ⟨by exact pM.mp e.1,by exact pM.mp e.2⟩
  ·exact absurd rfl d
 |case2 a t b u x f ih=>
  simp only[qP,mI] at d ⊢
  split at d
  ·rename_i e;refine M (aR e) ?_;exact .inl (by assumption)
  ·rename_i e;refine M (aP e) ?_;exact ih h d
 |case3 l g i=>exact h.elim
theorem Tp.step{st:cP}{Q:j3→aM→Prop}(X:Tp w h₀ lU mb c Pl done s.heap Y ps)(d:yC st=aF)(a2:A.handled=aB)(m:st.nm∉done.map cP.nm∨st.nm="__name__")
  (a3:∀n∈done,¬(n.pl.line=st.pl.line∧n.pl.col=st.pl.col))
  (K:lU "set"=aB∧("set":Str)∉done.map cP.nm) (L:lU "list"=aB∧("list":Str)∉done.map cP.nm) (N:lU "range"=aB∧("range":Str)∉done.map cP.nm)
  (a4:mb "set"=O (.type "set")) (a5:mb "list"=O (.type "list")) (a6:mb "range"=O (.type "range"))
  (k:∀f a7 a8 tk,Tp w h₀ lU mb c Pl (done++[st]) f a7 a8→Q .next {s with heap:=f,toks:=tk}):
  aN (aO pg w) A (ji st.st (Ha pg c F)) Q E s:=by
 cases st with
 |fn P a9 a' aa e=>
  (refine xa (aY d) ?_;clear d;rintro d y);(refine xa (aY d) ?_;clear d;rintro d ab);(refine xa (aY d) ?_;clear d;rintro d ae);(refine xa (aY d) ?_;clear d;rintro d af);(refine xa (aY d) ?_;clear d;rintro d ah);(refine xa (aY d) ?_;clear d;rintro d z);(refine xa (aY d) ?_;clear d;rintro d B);(refine xa (aY d) ?_;clear d;rintro d C);replace y:=bne_iff_ne.mp y;have bk:P∉done.map cP.nm:=m.resolve_right y
  have ai:mI e ps.toList=none:=by
   cases aj:mI e ps.toList with
   |none=>rfl
   |some bl=>
    (refine aQ (X.yB e (by refine M aj ?_;simp)) ?_;rintro n a b);exact absurd b (a3 n a)
  refine wpAny_defStmt0N (Rj.mp d) (Rj.mp C) (j1.mp B) (Lg z) (fun x ak=>bne_iff_ne.mp (j1.mp ah x ak)) (beq_iff_eq.mp af) (beq_iff_eq.mp ae) X.main (fun a bm bn bo bp f tk R al g am an U ⟨bq,ao,ap,aq⟩ ar=> ?_) (bne_iff_ne.mp ab) V ai;have as:s.heap.objs.size≤f.objs.size:=aL R (fE (fA g));refine k f _ _ tk (X.bind (st:= .fn P a9 a' aa e) (v:= .ref a) m al ar as (.inl ⟨y,rn.mk _ _ _ _ _ _ _ V (aL X.grows R) (aL X.grows U.1) (aL X.grows ao) g am (an.imp id fun⟨au,T,av,aw,ax⟩=>⟨au,T,av,aL X.grows aw,ax⟩) U.2 ap aq⟩) (fun p W=> ?_) ?_)
  ·rw[lH] at W;rcases Wb ps.toList X.ok W with q |q
   ·exact aQ (X.yB p q) fun n a b=>⟨n,kR _ a,b⟩
   ·exact⟨_,j5 _ (fK.mpr V),q⟩
  ·exact M lH <|TriplesOk_snoc _ _ _ _ X.ok
 |int x p i D q e=>
  (refine xa (aY d) ?_;clear d;rintro d u);(refine xa (aY d) ?_;clear d;rintro d h);exact iX (pG (Tp.store (st:= .int x p i D q e) (s:={s with toks:=s.toks+1}) X m (beq_iff_eq.mp d) (bne_iff_ne.mp h) (fun f J=> .inl ⟨bne_iff_ne.mp u,_,rfl⟩) k))
 |str x p ay D q e=>
  (refine xa (aY d) ?_;clear d;rintro d h);replace h:=beq_iff_eq.mp h;exact iX (sm (Tp.store (st:= .str x p ay D q e) (s:={s with toks:=s.toks+1}) X m (beq_iff_eq.mp d) (by refine(M h ?_:x≠_);decide) (fun f J=> .inr ⟨h,_,_,rfl⟩) k))
 |dict x p l q e=>
  (refine xa (aY d) ?_;clear d;rintro d C);(refine xa (aY d) ?_;clear d;rintro d az);(refine xa (aY d) ?_;clear d;rintro d b0);(refine xa (aY d) ?_;clear d;rintro d u);(refine xa (aY d) ?_;clear d;rintro d h);refine iX (V3 (kP b0) (aL (kP az) (by refine M cN ?_;decide)) C (bL X.yA X.grows) fun f tk b1 b2 b3 a0 j G=> ?_);(refine eP a0 ?_;clear a0;rintro o H v g r);exact Tp.store (st:= .dict x p l q e) (s:={s with heap:=f,toks:=tk}) (X.grown G (aL j (fE (fA g)))) m (beq_iff_eq.mp d) (bne_iff_ne.mp h) (fun b4 I=> .inl ⟨bne_iff_ne.mp u,b1,b2,rfl,aL X.grows j,b3,o,H,v,I _ _ (eG (bL X.lowG (aL X.grows j))) g,r⟩) k
 |set x p l a b b5 b6 b7 b8 b9 b' ba bc bd be bf bg e=>
  (refine xa (aY d) ?_;clear d;rintro d z);(refine xa (aY d) ?_;clear d;rintro d B);(refine xa (aY d) ?_;clear d;rintro d u);(refine xa (aY d) ?_;clear d;rintro d h)
  have bh:s.heap.Ns i8 mb:=by exact eP X.b fun o bi v bj r=>⟨o,bi,v,X.keep _ _ X.CP (by decide) bj,r⟩
  refine iX (V6 a2 (Wa) V X.main.g bh ((X.others _ K.2).trans K.1) ((X.others _ L.2).trans L.1) ((X.others _ N.2).trans N.1) a4 a5 a6 (kP B) (kP z) fun f tk S a1 j G=> ?_);(refine uP a1 ?_;clear a1;rintro o H v t g r);exact Tp.store (st:= .set x p l a b b5 b6 b7 b8 b9 b' ba bc bd be bf bg e) (s:={s with heap:=f,toks:=tk}) (X.grown G (aL j (fE (fA g)))) m (beq_iff_eq.mp d) (bne_iff_ne.mp h) (fun b4 I=> .inl ⟨bne_iff_ne.mp u,S,rfl,aL X.grows j,o,H,v,t,I _ _ (eG (bL X.lowG (aL X.grows j))) g,r⟩) k
end
end
section
noncomputable def isDone:Step→aU
 | .go _ _=>aI
 | .halt o _=>match o with
  | .done _=>aF| _=>aI
theorem ite_no [qC c] (a:isDone x=aI)(b:isDone y=aI):isDone (if c then x else y)=false:=by
 by_cases h:c
 ·refine M (aR h) ?_;exact a
 ·refine M (aP h) ?_;exact b
theorem Wc(s:aM)(t:Thread):isDone (step den p w s t)=aI∨Hb t=true:=by
 obtain⟨d,b,drawn,h,os⟩:=s;obtain⟨u,code,i,mN⟩:=t;cases u with
 |pure y=>cases y with
  |done f=>cases mN with
   |nil=>exact .inr V|cons j m=>cases j<;>exact .inl V
  | _=>exact .inl V
 |raise e=>cases mN with
  |nil=>exact .inl (ite_no V rfl)|cons j m=>cases j<;>exact .inl V
 |finish e=>exact .inl (ite_no V rfl)
 |load a x k=>
  refine .inl ?_
  show isDone (match d.get? a with
   |some o=> .go ⟨d,b,drawn,h,os⟩ ⟨k o,code,i,mN⟩|none=> .halt (.stuck (if a < d.objs.size then "load: the object has been freed" else "load: no object at this address")) ⟨d,b,drawn,h,os⟩)=aI
  cases d.get? a<;>rfl
 |update a x f k=>exact .inl (ite_no V rfl)|choose a n k=>exact .inl (ite_no V rfl)
 |genState g k=>
  refine .inl ?_
  show isDone (match b[g]? with
   |none=> .halt (.stuck "genState: no such generator") ⟨d,b,drawn,h,os⟩
   |some st=> .go ⟨d,b,drawn,h,os⟩ ⟨k (match st with
      | .fresh c=>(.fresh,O [(c,default)])| .suspended _ _ c p frames _=>(.suspended,O ((c,p)::frames.map Frame.where_))| .running=>(.running,aB)| .finished=>(.finished,aB)),code,i,mN⟩)=aI
  cases b[g]? <;>rfl
 |resume g r l k=>
  refine .inl ?_
  show isDone (match b[g]? with
   |none=> .halt (.stuck "resume: no such generator") ⟨d,b,drawn,h,os⟩
   |some (.fresh c)=>
    match r with
    | .send .none=> .go ⟨d,b.setIfInBounds g .running,drawn,h,os⟩ ⟨den c,c,i,.gen g k l code i::mN⟩| .send _=> .go ⟨d,b,drawn,h,os⟩ ⟨k .justStarted,code,i,mN⟩| .throw e=> .go ⟨d,b.setIfInBounds g .finished,drawn,h,os⟩ ⟨k (.raised e),code,i,mN⟩
   |some (.suspended q _ c p frames _)=>
    .go ⟨d,b.setIfInBounds g .running,drawn,h,os⟩ ⟨q r,c,p,frames++ .gen g k l code i::mN⟩
   |some .running=> .go ⟨d,b,drawn,h,os⟩ ⟨k .running,code,i,mN⟩|some .finished=> .go ⟨d,b,drawn,h,os⟩ ⟨k .finished,code,i,mN⟩)=aI
  cases b[g]? with
  |none=>rfl
  |some st=>cases st with
   |fresh c=>cases r with
    |send v=>cases v<;>rfl|throw=>rfl
   | _=>rfl
 |yield v z l q=>
  refine .inl ?_
  show isDone (match AX mN with
   |some (frames,(g,k,c,p),m)=> .go ⟨d,b.setIfInBounds g (.suspended q l code i frames (z ||frames.any Hc)),drawn,h,os⟩ ⟨k (.yielded v),c,p,m⟩|none=> .halt (.stuck "yield outside a generator") ⟨d,b,drawn,h,os⟩)=aI
  cases AX mN<;>rfl
 | _=>exact .inl V
theorem step_done(h:step a p w s t= .halt (.done f) b):Hb t=aF∧b=s:=by refine⟨(Wc (den:=a) (p:=p) (w:=w) s t).resolve_left fun e=> ?_,step_halt_same a p w s b t _ h⟩;rw[h] at e;exact absurd e.symm cL
theorem Lh:∀(n:aA) (s:aM) (t:Thread) (f:j3) (c:aM),AY g p w n s t= .halted (.done f) c→
  ∃m d,AY g p w m s t= .running c d∧Hb d=aF
 |0,_,_,_,_,h=>by cases h
 |n+1,s,t,f,c,h=>by
  simp only[AY] at h;cases e:step g p w s t with
  |go i j=>
   simp only[e] at h;exact iN (Lh n i j f c h) fun m d a b=>⟨m+1,d,by simp only[AY,e];exact a,b⟩
  |halt o i=>
   simp only[e] at h;injection h with k l
   subst k;subst l;obtain⟨a,b⟩:=step_done e;exact⟨0,t,by refine M b ?_;rfl,a⟩
theorem We{p:QM}{w:aV}{t:cR Fin}{s:aM}{R:aM→Prop}(u:s.asleep)
  (h:aN (aO p w) AZ t (fun q c=>(∃f,q= .done f)∧R c∧c.gens= #[]) (fun J J=>bO) s):
  ∃n d i,schedN (xu pN) p w n (.single s ⟨t,.builtin "claim.caller" {},default,[]⟩)= .running (.single i d)∧Hb d=aF∧i.heap.life=s.heap.life∧∃c,i.forget=c.forget∧R c∧c.gens= #[] :=by
 have v:=wp_of_wpAny_done (R:=fun r c=>((∃f,r= .ok f)∧R c∧c.gens= #[])∧leftWithCleanup c.gens=aI) caller_in
  (wpAny_mono h (fun q c ⟨⟨f,e⟩,r,g⟩=>⟨f,e,⟨⟨f,rfl⟩,r,g⟩,by refine M g ?_;exact Array.any_toList.symm⟩) fun J J x=>x.elim) (default:bG)
 obtain⟨n,r,c,y,⟨f,rfl⟩,z,A⟩:=(wp_iff_halts t _ _ s).mp v;refine dB (runNI_real (xu pN) p w y (outcomeOf_ends _)) fun j l B C=> ?_
 have D:∀k o,AY (xu pN) p w k s ⟨t,.builtin "claim.caller" {},default,[]⟩≠ .halted (.unsupported "lifetime:generator-with-cleanup-left-suspended") o:=by
  intro k o E;have a:=runN_mono (xu pN) p w n k s _ _ j l;have b:=runN_mono (xu pN) p w k n s _ _ o E;rw[iz,b] at a;injection a with F _
  cases F
 refine iN (Lh n s _ f j l) fun m d G H=>⟨m,d,j,?_,H,runN_life _ _ _ l,c,B,z,A⟩;refine M (schedN_eq_runN (xu pN) p w s _ u ⟨C,D⟩ m) (M G ?_);rfl
end
section
structure Bt(h:bF):Prop where
 mg:h.isNs fL=aF
 mb:h.isNs i8=aF
 mc:h.Ns xf (fun J=>aB)
 cs:∃o,h.get? xf=O o∧o.data= .dict #[] 0
 blt:h.bltView=bltViewBooted
 keys:(h.nsKeys fL)=mO
 bm:h.nsMap fL "__builtins__"=O (.ref 4)∧h.get? 4=O {cls:= .type "module",dict:=O i8}
 pY:∃o es ep,h.get? j0=O o∧o.data= .dict es ep
 size:h.objs.size=11
theorem Wf(P:Params):Bt (RF P):=by
 refine⟨by kernel_rfl,by kernel_rfl,?_,?_,by kernel_rfl,by kernel_rfl,⟨by kernel_rfl,by kernel_rfl⟩,⟨boot_o_1 P,_,_,by kernel_rfl,rfl⟩,by kernel_rfl⟩
 ·have:(RF P).nsMap xf=fun J=>none:=by funext x;rfl
  exact .of_isNs (by kernel_rfl)
 ·exact⟨boot_o_2 P,by kernel_rfl,by kernel_rfl⟩
end
section
noncomputable def CQ:aD cP→aD cP→aU
 | _,[] =>aF
 |done,st::b=>yC st && (!(done.map cP.nm).contains (st.nm) ||(st.nm=="__name__")) && done.all (fun a=> !(a.pl.line==st.pl.line && a.pl.col==st.pl.col)) &&
   !(st.nm=="set" ||st.nm=="list" ||st.nm=="range" ||st.nm=="__builtins__" ||mO.contains (st.nm) && !(st.nm=="__name__")) && CQ (done++[st]) b
theorem Wg:CQ [] iG=true:=by decide+kernel
section
variable{E:aJ→aM→Prop}
theorem Wh(r:A.handled=aB)(t:d "set"=aB)(u:d "list"=aB)(v:d "range"=aB)
  (y:mb "set"=O (.type "set")) (z:mb "list"=O (.type "list")) (B:mb "range"=O (.type "range")):
  ∀(a done:aD cP) (s:aM) (f:Str→aG aJ) (g:eW aJ) (Q:j3→aM→Prop),CQ done a=aF→("set":Str)∉done.map cP.nm→("list":Str)∉done.map cP.nm→("range":Str)∉done.map cP.nm→
  Tp w h₀ d mb c Pl done s.heap f g→
  (∀h i j tk,Tp w h₀ d mb c Pl (done++a) h i j→Q .next {s with heap:=h,toks:=tk})→aN (aO pg w) A (eH (a.map cP.st) (Ha pg c F)) Q E s:=by
 intro a
 induction a with
 |nil=>
  intro done s f g Q _ _ _ _ X k;exact wpAny_execs_nil (k s.heap f g s.toks (by simpa using X))
 |cons st a ih=>
  intro done s f g Q b n o p X k;(refine xa (aY b) ?_;clear b;rintro b C);simp only[gZ,RH,no,me,j1,xh,Hd] at b;obtain⟨⟨⟨D,G⟩,H⟩,l⟩:=b;refine wpAny_execs_cons (Tp.step X D r (G.imp (fun q=>by simpa using q) id) (fun I K e=> ?_) ⟨t,n⟩ ⟨u,o⟩ ⟨v,p⟩ y z B fun h i j tk L=> ?_)
  ·have:=H I K;rw[e.1,e.2] at this;simp at this
  ·have m:∀x:Str,x∉done.map cP.nm→st.nm≠x→x∉(done++[st]).map cP.nm:=fun x q e=>by refine M iA (iO jD (iO G0 ?_));exact⟨q,by simpa using Ne.symm e⟩
   exact ih (done++[st]) _ i j Q C (m _ n l.1.1.1.1) (m _ o l.1.1.1.2) (m _ p l.1.1.2) L fun N P R S T=>k N P R S (by simpa using T)
end
theorem Wi:∀x∈mO,x="__name__"∨x∉iG.map cP.nm:=by decide+kernel
theorem Wj:∀x∈iG.map cP.nm,x∈mO∨x∈pg.boundNames:=by decide+kernel
theorem Wk:afj pg=pg.main.body:=by kernel_rfl
theorem Li:hasAnns pg.main.body=aI∧docOf pg.main.body=none:=⟨by kernel_rfl,by kernel_rfl⟩
theorem cP.Wl{t:cP}{n:Str}{p:oz}{b:aD bR}{a:dN}{q:bG}(h:t.st= .FunctionDef n p b [] aB [] a aB n q):t= .fn n p b a q:=by
 cases t with
 |fn=>injection h with c d e _ _ _ f _ _ g;exact M c (M d (M e (M f (M g V))))
 | _=>exact(by contradiction)
theorem Lj{n:Str}{p:oz}{b:aD bR}{a:dN}{q:bG}(c: .FunctionDef n p b [] aB [] a aB n q∈pg.main.body): .fn n p b a q∈iG:=by rw[←yz] at c;exact aQ (iW.mp c) fun t d e=>cP.Wl e▸d
structure TF(w:aV)(h:bF)(mg mb:Str→aG aJ):Prop where
 g:h.Ns fL mg
 b:h.Ns i8 mb
 builtins:∀x:Str,x≠"__name__"→mb x=xd x
 statics:h.Ns xf (fun J=>aB)
 bmain:∃bm o,mg "__builtins__"=O (.ref bm)∧bm≠i8∧bm≠fL∧h.get? bm=O o∧o.cls= .type "module"∧o.dict=O i8∧o.data= .plain
 pY:∃o es ep,h.get? j0=O o∧o.data= .dict es ep
 others:∀x,x∉iG.map cP.nm→x∉mO→mg x=aB
 held:∃N,j0 < N∧fL < N∧i8 < N∧xf < N∧∀st∈iG,st.nm≠"__name__"→∃v,mg (st.nm)=O v∧VF w N st v h
theorem Wm(d:Bt s₀.heap)(a7:s₀.gens= #[])(U:s₀.asleep):
  ∃f,TopRan pg w s₀ f∧f.asleep∧f.gens= #[]∧∃W mb,TF w f.heap W mb∧∀x∈mO,x≠"__name__"→W x=s₀.heap.nsMap fL x:=by
 have G:=afk d.mg;have B:=afk d.mb;have p:∀x:Str,x≠"__name__"→s₀.heap.nsMap i8 x=xd x:=Heap.of_bltView d.mb d.blt;have I:=d.size;have s:∀x,x∉mO→s₀.heap.nsMap fL x=none:=fun x i=>Heap.nsMap_none (by refine M d.keys ?_;exact i)
 (refine S' (We (p:=pg) (w:=w) (s:=s₀) (t:=(topStub pg).cur)
  (R:=fun z=>∃h c Pl Y A,(Tp w A (s₀.heap.nsMap fL) (s₀.heap.nsMap i8) c Pl iG z.heap h Y∧(∀b o,s₀.heap.get? b=O o→A.get? b=O o))∧s₀.heap.objs.size≤Pl∧z.os=s₀.os) U (by
   show aN _ _ (do
     let code ←moduleCode pg.main
     let frame ←newBodyFrame code A0 A0
     let _ ←run (.body (afj pg) {scope:=pg.main.scope,locals:=A0,globals:=A0,cells:=[],code,frame:=O frame})
     ret .none) _ _ s₀
   refine wpAny_bind (wpAny_moduleCode fun c Pl a0 tk a1 a8 K a2=> ?_);refine wpAny_bind (wpAny_bind (RI (G.keeps a1) (Gc ?_)));refine M Wk (aS yz ?_);refine wpAny_bind (wpAny_run (codeAny_body (by refine M yz ?_;exact Li.1) (by refine M yz ?_;exact Li.2) ?_));have j:∀o b x,s₀.heap.get? b=O x→(a0.push o).get? b=O x:=fun o b x e=>eV _ (a1 b x e);have L:∀a:aW,a < 11→a < s₀.heap.objs.size:=fun a N=>by refine M I ?_;exact N
   have k:11≤Pl:=by refine aS I ?_;exact K
   refine Wh V (s _ (by decide)) (s _ (by decide)) (s _ (by decide)) ((p _ (by decide)).trans (by decide+kernel)) ((p _ (by decide)).trans (by decide+kernel)) ((p _ (by decide)).trans (by decide+kernel))
    iG [] _ (s₀.heap.nsMap fL) #[] _ Wg (by decide) (by decide) (by decide) (h₀:=a0.push _) (mb:=s₀.heap.nsMap i8) (Pl:=Pl)
    ⟨⟨G.keeps (j _),a2.push _,⟨bL (L 3 (by decide)) a8,bL (L 3 (by decide)) K⟩,⟨4,_,d.bm.1,by decide,by decide,by intro e;replace k:=Eq.symm e▸k;exact absurd k (by decide),j _ _ _ d.bm.2,rfl,rfl,rfl⟩⟩,
     fun b o J J e=>e,(a2.push _).lt.2,(G.keeps (j _)).lt,?_,?_,bZ _,fun x J=>rfl,fun st l=>((cO l).elim),fun b5 a9=>absurd rfl a9,trivial,B.keeps (j _)⟩
    fun b6 h a' b7 aa=> ?_
   ·obtain⟨o,_,_,e,_⟩:=d.pY;exact fA (j _ _ _ e)
   ·intro e;replace k:=Eq.symm e▸k;exact absurd k (by decide)
   ·exact wpAny_pure ⟨⟨_,rfl⟩,⟨h,c,Pl,a',_,⟨by simpa using aa,fun b o e=>j _ b o e⟩,K,rfl⟩,a7⟩)) ?_;rintro n ab f ae af a3 z ah ⟨h,c,Pl,Y,A,⟨X,P⟩,ai,aj⟩ ak)
 refine jl (Shared.forget_eq ah) fun al J J am an=> ?_
 have a4:f.gens= #[] :=by
  have:f.gens.size=z.gens.size:=by have:=aT Array.size an;simpa using this
  exact Array.eq_empty_of_size_eq_zero (by refine M this (M ak ?_);rfl)
 replace X:=Eq.symm al▸X;have L:∀a:aW,a < 11→a < s₀.heap.objs.size:=fun a N=>by refine M I ?_;exact N
 have ao:∀b o,s₀.heap.get? b=O o→b≠Pl:=fun b o e=>fG (bL (fA e) ai);have t:∀b o,b≠fL→s₀.heap.get? b=O o→f.heap.get? b=O o:=fun b o d e=>X.keep b o (ao b o e) d (P b o e);have a5:∀(a:aW) m,a≠fL→s₀.heap.Ns a m→f.heap.Ns a m:=fun a m ap x=>eP x fun o C D e r=>⟨o,C,D,t _ _ ap e,r⟩;have aq:=a5 _ _ (by decide) d.mc;have Q:=a5 _ _ (by decide) B;have R:∀x,globalOf f.heap x=h x:=fun x=>afl X.main.g x;have ar:∀x,globalOf s₀.heap x=s₀.heap.nsMap fL x:=fun x=>Pin.globalOf_eq d.mg x
 have a6:∀g,He f.heap g=none:=fun g=>by refine aQ d.cs fun o u v=> ?_;simp only[He,t _ _ (by decide) u,v];rfl
 have as:∀g,He s₀.heap g=none:=fun g=>by refine aQ d.cs fun o u v=> ?_;simp only[He,u,v];rfl
 have S:∀x∈mO,x≠"__name__"→h x=s₀.heap.nsMap fL x:=fun x i y=>X.others x ((Wi x i).resolve_left y)
 refine⟨f,⟨⟨n,ab,ae,af⟩,a3,Shared.rest_eq (am.trans aj),fun b o e y=>t b o (fun q=>y (.inl q)) e,fun g au e=>(by replace e:=(a6 ..)▸e;cases e),fun g=> .inl ((a6 g).trans (as g).symm),Pin.keysAreStrs_of_ns X.main.g,?_,?_,?_,?_,?_⟩,afm a3 U,a4,h,s₀.heap.nsMap i8,
  ⟨X.main.g,Q,p,aq,(let⟨av,o,aw,ax,ay,_,az,b0,b1,b2⟩:=X.main.bmod;⟨av,o,aw,ax,ay,az,b0,b1,b2⟩),(eP d.pY fun o C D e b3=>⟨o,C,D,t _ _ (by decide) e,b3⟩),fun x F H=>(X.others x F).trans (s x H),A.objs.size,X.yA,X.lowG,(B.keeps P).lt,(d.mc.keeps P).lt,?_⟩,S⟩
 ·intro x i;(refine nF Q ?_;clear Q;rintro o C D u v b8 b4);show RJ f.heap x=_
  have:RJ f.heap x=s₀.heap.nsMap i8 x:=by simp only[RJ,u,v];exact b4 x
  exact M this <|p x i
 ·exact⟨4,_,(R _).trans ((S _ (by decide) (by decide)).trans d.bm.1),t _ _ (by decide) d.bm.2,rfl,rfl⟩
 ·intro b9 T;replace T:=a4▸T;simp at T
 ·intro x au e;replace e:=(R ..)▸e
  by_cases F:x∈iG.map cP.nm
  ·exact Wj x F
  ·replace e:=(X.others x F)▸e
   by_cases H:x∈mO
   ·exact .inl H
   ·replace e:=(s x H)▸e;cases e
 ·intro x i
  have l:x∈mO∧x≠"__name__":=by revert x;decide
  refine M (R ..) (M (ar ..) ?_);exact S x l.1 l.2
 ·intro st l y;rcases X.held st l with⟨_,r⟩ |⟨q,_⟩
  ·exact r
  ·exact absurd q y
end
section
noncomputable def Lk:Prop:=∀(w:aV) (h:bF) (g mb:Str→aG aJ),TF w h g mb→∀(c:aM) (a:aW) (o:Obj) (i:eW aJ) (n:aA) (d:aD Z),
 (∀b o,h.get? b=O o→c.heap.get? b=O o)→h.get? a=aB→c.gens= #[]→c.heap.get? a=O o→o.cls= .type "list"→o.data= .seq i n→iY i.toList d→d.length≤63→(∀x∈d,x.natAbs < 2^(2^20))→
 ∃f,g "law"=O f∧aN (aO pg w) AZ (afn f [.ref a]) (fun v e=>v= .bool aF∧OldK c.heap e.heap∧e.os=c.os∧nk e.gens) (fun J J=>bO) c
noncomputable def Ll(R:WRecords)(e:Str→aG aW)(h:bF)(v:aJ)(b:aD aW):A1→Prop
 | .int i=>(∃t,v= .int i t)∧b=[]| .list f=>∃a o c n d,v= .ref a∧b=a::d∧h.get? a=O o∧o.cls= .type "list"∧o.data= .seq c n∧RK R e h c.toList f d| _=>r7
theorem Lm(r:RM R b h v d a):Ll R b h v a d:=
 ReadsW.casesOn (motive_1:=fun v d a J=>Ll R b h v a d) r trivial (fun J=>trivial) (fun J t=>⟨⟨t,rfl⟩,rfl⟩) (fun J J=>trivial) (fun c e f g=>⟨_,_,_,_,_,rfl,rfl,c,e,f,g⟩) (fun J J J J=>trivial) (fun J J J J J=>trivial) (fun J J=>trivial) (fun J J=>trivial) (fun J J J=>trivial) (fun J J J J J J=>trivial) (fun J J J J J J=>trivial) (fun J J J J J J J J J J J J J J=>trivial)
theorem Wn(r:RM [] c h v d a)(b:afo [] d .int=aF):∃i t,v= .int i t∧d= .int i∧a=[] :=by
 have q:=Lm r;clear r;cases d with
 |int i=>exact⟨i,q.1.choose,q.1.choose_spec,rfl,q.2⟩| _=>exact absurd b cL
theorem Wo{i:Z}{m n:aA}(h:(if i==0 then 0 else i.natAbs.log2+1)+1+m≤n):i.natAbs < 2^n:=by
 split at h
 ·rename_i a
  refine M (beq_iff_eq.mp a) ?_;exact afp _
 ·rename_i a
  have a:i≠0:=by simpa using a
  exact(AH (Int.natAbs_ne_zero.mpr a)).mp (bL (lJ _) (aL (hO _ _) (aL (hO _ _) h)))
theorem Wp(a:aD A1):∀{e:aD aJ} {f:aD aW},RN [] a .int=aF→RK [] q h e a f→∃b:aD Z,iY e b∧b.length=a.length∧f=[]∧(afq a≤2^20→∀x∈b,x.natAbs < 2^(2^20)):=by
 induction a with
 |nil=>intro e f _ r;cases r;exact⟨[],.nil,rfl,rfl,fun J x c=>(cO c).elim⟩
 |cons d a ih=>
  intro e f g r;cases r with
  |cons k l=>
   have g:=mJ.mp g;refine mT (ih g.2 l) fun b m n o p=> ?_;(refine cS (Wn k g.1) ?_;rintro i t rfl rfl rfl);subst o;refine⟨_::b,.cons _ _ m,aT (· +1) n,rfl,fun j x c=> ?_⟩;rcases gz.mp c with rfl |c
   ·exact Wo j
   ·exact p (aL (ov _ _) j) x c
theorem Wq{args:aD A1}(h:lw.row.toRowW.claim.pre args=aF):∃a,args=[.list a]∧RN [] a .int=aF∧a.length≤63:=by
 refine xa (pre_splitW h) fun f c=> ?_;(refine cS (hasAllW_cons f) ?_;rintro d r rfl b g);obtain rfl:=hasAllW_nil g;have b:afo [] d (.list .int)=true:=b;cases d with
 |list a=>
  have b:(RN [] a .int ||false)=true:=b;refine⟨a,rfl,by rw[Bool.or_false] at b;exact b,?_⟩;have c:WTm.holds [] (.and (.not (.lit (.bool (decide ((63:Z) < (a.length:Z)))))) (.lit (.bool aF))) {args:=[]}=true:=c
  by_cases e:(63:Z) < (a.length:Z)
  ·rw[fM e] at c;exact absurd c cL
  ·exact cV.mp (i9.mp e)
 | _=>exact absurd b cL
theorem Wr:∀s,afr pg s=O s:=fun s=>by
 have a:importedModules pg.main.body=[] :=by decide+kernel
 have b:pg.main.body.any namesNumpy=false:=by decide+kernel
 unfold afr;rfl
theorem CR:∀{a:aD aJ},GZ [] a→a=[]
 |[],_=>rfl| _::_,h=>h.elim
theorem Ws(X:TF w h c mb)(d:h.Ns fL c):isTheDefsW pg h "law":=by
 refine xQ X.held fun N J J J J f=> ?_;obtain⟨b,i⟩:∃b,iG[35]? =O (.fn "law" (aK 35).params (aK 35).body (aK 35).scope b):=⟨_,rfl⟩;(refine aQ (f _ (kq i) (by show("law":Str)≠_;decide)) ?_;rintro v e j);obtain⟨a,m,n,o,p,r,s,rfl,t,u,x,g,k,l,y,z,A⟩:rn .. :=j;refine⟨_,_,_,(aK 35).params,(aK 35).body,(aK 35).scope,(afl d _).trans e,g,rfl,by kernel_rfl,rfl,rfl,rfl,rfl,rfl,rfl,rfl,rfl,.inl ⟨rfl,?_⟩,[],rfl,.inl ⟨rfl,rfl⟩⟩;rcases l with⟨_,q⟩ |⟨q,_⟩
 ·exact q
 ·exact absurd (CR k) q
inductive Ln(w:aV)(kc:aM)(ord:aD Hf→aD Hf)(args:aD A1):Prop
 |mk (vw:aM) (as:aD aW) (a:aW) (o:Obj) (its:eW aJ) (n:aA) (xs:aD Z) (h1:layAllW lw.row.toRowW.claim.records (classAt kc.heap) w.params ord args kc=O ([.ref a],vw)) (L:Laid lw.row.toRowW.claim.records w kc vw args [.ref a] as)
   (keeps:∀b o,kc.heap.get? b=O o→vw.heap.get? b=O o) (hn:kc.heap.get? a=aB) (hg:vw.gens= #[]) (ho:vw.heap.get? a=O o) (hc:o.cls= .type "list") (hd:o.data= .seq its n) (hI:iY its.toList xs) (hl:xs.length≤63) (hw:∀x∈xs,x.natAbs < 2^(2^20)):Ln w kc ord args
theorem Wt(r:RK R a h b [d] c):∃v,b=[v]∧RM R a h v d c:=by
 cases r with
 |cons e f=>cases f;exact⟨_,rfl,by refine M (jS ..) ?_;exact e⟩
theorem Wu(h:afs [.list a] =aF):afq a≤2^20:=by have h:=j1.mp h _ (.head _);unfold WData.layable at h;exact kP (mJ.mp h).2
theorem Wv(j:d.gens= #[]){args:aD A1}(k:lw.row.toRowW.claim.pre args=aF)(m:afs args=aF){ord:aD Hf→aD Hf}(p:∀l,(ord l).Perm l):Ln w d ord args:=by(refine dB (Wq k) ?_;rintro f rfl t u);(refine xe (Option.isSome_iff_exists.mp (layAllW_isSome (P:=w.params) (ord:=ord) (R:=lw.row.toRowW.claim.records) (cl:=classAt d.heap) (fun c g=>GV g) [.list f] [.list .int] d (pre_splitW k).1)) ?_;rintro⟨x,h⟩ b);have q:=layAllW_keeps _ _ _ b;have i:=layAllW_rest _ _ _ b;refine dB (reads_layAllW p _ _ _ b m h.heap (fun J J e=>e)) fun y r s z=> ?_;have L:Laid lw.row.toRowW.claim.records w d h [.list f] x y:=⟨⟨ord,p,b⟩,r,s,z,q,i.1.trans j,i.2.2.1⟩;(refine aQ (Wt r) ?_;rintro v rfl A);(refine Tc (Lm A) ?_;rintro a o B n K rfl rfl C g D E);exact mT (Wp f t E) fun F G H N I=>⟨h,_,a,o,B,n,F,b,L,q,xX (s.2.2 _ (.head _)).1,i.1.trans j,C,g,D,G,aL (cM H) u,I (Wu m)⟩
theorem Ww(H:Lk):lw.Holds:=by
 refine⟨Ib,⟨row_said Ib,Ic,⟨Te,Tf,rfl⟩,Ic.witness,fun w=> ?_⟩⟩;have d:=boot_open (p:=pg) (N:=600) Tg (by decide) Wr w;rw[←table_eq_tree] at d;refine aQ (l8.mp d) fun b p e=>aQ (QZ.mp p) fun s q i=> ?_;have c:=ahs q;refine⟨⟨s,c⟩,fun j r=> ?_⟩;obtain rfl:j=s:=aht r c;have z:b.asleep:=afm (fence_lifeW i) c.life;have k:b.gens= #[] :=aT (·.2.1) e;have t:b.heap=RF w.params:=aT (·.1) e;refine S7 (Wm (w:=w) (s₀:=b) (t▸Wf w.params) k z) fun u y D A E mb X J=> ?_;clear d p e q c r z t;refine⟨b,i,k,u,y,fun n l=> ?_,fun x m=>((cO m).elim),fun x m=>((cO m).elim),?_⟩
 ·exact M (fK.mp (l:n∈[aH "law"])) <|Ws X X.g
 ·clear i y k
  refine ClaimW.callFrom_of_specG (c:=lw.row.toRowW.claim) (tree:=fun F=>do match ←nsGet A0 (aH "law") with
   |some f=>do ret (←afn f F)
   |none=>unsupported "claim.caller:no-such-global") D A fun args G I ord K=> ?_
  obtain⟨B,a5,a,o,N,n,P,Q,L,C,l,R,S,T,U,W,Y,a0⟩:=Wv (w:=w) A G I K;refine aQ (H w u.heap E mb X B a o N n P C l R S T U W Y a0) fun f a1 a2=>⟨_,B,Q,wpAny_bind (RI (X.g.keeps C) ?_)⟩;refine M a1 <|wpAny_bind (wpAny_mono a2 (fun v j h=>wpAny_pure ⟨_,rfl,?_⟩) fun J J x=>x.elim)
  have g:=GoodWG.laid (c:=lw.row.toRowW.claim) (s':=j) (r:= .ok (.ret v)) V rfl (ident_freeW V rfl rfl) L ⟨.inl ⟨v,.bool aF,[],rfl,fun a6=>rfl,h.1▸ .bool _,by kernel_rfl,fun J=>⟨afg,fun a a3=>(cO a3).elim⟩⟩,h.2.1,h.2.2.1,h.2.2.2⟩;exact⟨g.1,g.2.1,g.2.2,fun a4=>by cases a4⟩
end
section
noncomputable def vx:aD Nat:=[6,11,12]
noncomputable def oZ(s:bR):aG (bG×Str):=yc aB s fun n J b J J=>b.findSome? fun st=>yc aB st fun m J J J p=>O (p,n++(".<locals>.":Str)++m)
inductive CS(mg:Str→aG aJ)(h:bF)(T:aD Tab)(i:aA):Prop
 |mk (t:Tab) (ht:t∈T) (a:aW) (o:Obj) (pm:aJ) (c:aW) (doc:aJ) (h1:mg (aK i).name=O (.ref a)) (h2:h.get? a=O o) (h3:o.data= .func (mM (aK i).name (aK i).params (aK i).body (aK i).scope pm (.ref c) doc)) (h4:h.CodeRec (.ref c) (aK i).name) (h5:uE h c t.P) (h6:(pg.main.body[i]?).bind oZ=O (t.pos,t.q)):CS mg h T i
noncomputable def hJ:aD Int:=lT [173,847,6150,6155,6156,6157,8203,8204,8205,8288,65279] 65024 65040
noncomputable def lg:aD (Z×Str):=((pg.main.body[18]?).map fun s=>IQ [] s fun J v J=>IP [] v fun a b J=>V0 a b).getD []
structure Wd(w:aV)(mg mb:Str→aG aJ)(h₀:bF):Prop where
 base:Base mg mb h₀
 bi:∀f∈(["len","chr","ord","str","min","divmod","list","range","reversed"] :aD eA),mg (aH f)=aB
 CT:∀f∈(["int","set","iter","next","sorted","enumerate","print","ZeroDivisionError"] :aD eA),mg (aH f)=aB
 CU:∀i < 36,∀n p b sc q,pg.main.body[i]? =O (.FunctionDef n p b [] aB [] sc aB n q)→p.defaults=[]→vi mg h₀ ⟨n,p,b,sc⟩
 bmain:∃bm o,mg "__builtins__"=O (.ref bm)∧bm≠i8∧bm≠fL∧h₀.get? bm=O o∧o.cls= .type "module"∧o.dict=O i8∧o.data= .plain
 Wx:∃a o pm cd doc D,mg (aK 5).name=O (.ref a)∧h₀.get? a=O o∧o.data= .func {mM (aK 5).name (aK 5).params (aK 5).body (aK 5).scope pm cd doc with defaults:= .ref D}∧h₀.CodeRec cd (aK 5).name∧h₀.get? D=O {cls:= .type "tuple",data:= .seq #[.bool aI]}
 b1:∃S,mg "b1_set"=O (.ref S)∧h₀.SetOf (fF pg w) S (fun k=>hJ.any (· ==k)) hJ.length
 b3:∃d fQ,mg "b3_exceptions"=O (.ref d)∧(d==j0)=aI∧im fQ lg∧h₀.DictOf (fF pg w) d fQ
 Wy:∀x i,(x,i)∈[(("_DIV_LIMIT":Str),(4000:Z)),("_MAX_STRING_SIZE",40),("_MOVE_COST",2),("_CASE_COST",1)]→∃t,mg x=O (.int i t)
theorem oU.up(h:oU w b mb h₀ T n f c y)(a:n≤m):oU w b mb h₀ T m f c y:=
 fun A K s d e g i=>h A K s d e (cC (eU a _) g) (mh (Bx (bZ _) (wS _ a) (jy i)))
theorem Ct.up(h:Ct w b mb h₀ T n f c y)(d:n≤m):Ct w b mb h₀ T m f c y:=
 let⟨a,o,e,g,i,j,k⟩:=h;⟨a,o,e,g,i,j,k.up d⟩
section
theorem Wd.m0(W:Wd w b mb h₀)(d:∀x i,P.gk x=O i→(x,i)∈[(("_DIV_LIMIT":Str),(4000:Z)),("_MAX_STRING_SIZE",40),("_MOVE_COST",2),("_CASE_COST",1)])
  (e:∀f a y,P.call f a=O y→Ct w b mb h₀ T n f a y):∀c:Cx,c.mg=b→c.mb=mb→c.h₀=h₀→c.T=T→yd w c n P:=fun c g j k l=>by
 subst g j k l;exact⟨fun x i h=>W.Wy x i (d x i h),fun f a y h=>e f a y h,W.bi⟩
theorem Wd.fn(W:Wd w mg mb h₀)(hi:i < 36)(he:∃q,pg.main.body[i]? =O (.FunctionDef (aK i).name (aK i).params (aK i).body [] aB [] (aK i).scope aB (aK i).name q))(Wz:(aK i).params.defaults=[])
  (hd:iq (aK i) k tb=aF)
  (rj:∀(vs:aD aJ) (pm cd doc:aJ),vs.length=k→uC (mM (aK i).name (aK i).params (aK i).body (aK i).scope pm cd doc) ⟨vs,[]⟩=pure (((aK i).params.args.map (·.arg)).zip vs))
  (rk:dX (aK i).scope tb b (aK i).body=aF)
  (hg:∀x i,P.gk x=O i→(x,i)∈[(("_DIV_LIMIT":Str),(4000:Z)),("_MAX_STRING_SIZE",40),("_MOVE_COST",2),("_CASE_COST",1)])
  (hc:∀f xs y,P.call f xs=O y→Ct w mg mb h₀ T n f xs y)
  (hk:xs.length=k) (hx:bE P b {loc:=xs.map O++rest}=O (.ret y,σ')) (hr:rest.all QN=aF):Ct w mg mb h₀ T (n+1) (aK i).name xs y:=by
 (refine xe he ?_;clear he;rintro q he);exact oU.of hd (W.CU i hi _ _ _ _ q he Wz) rj (W.m0 hg hc) rk hk hx (Ia hr)
end
theorem WA:AV (fun i=>hJ.getD i 0) hJ.length=hJ:=by decide+kernel
noncomputable def hX(x:Str):aG Int:=if x="_DIV_LIMIT" then O 4000 else if x="_MAX_STRING_SIZE" then O 40 else if x="_MOVE_COST" then O 2 else if x="_CASE_COST" then O 1 else aB
theorem fV:∀x i,hX x=O i→(x,i)∈[(("_DIV_LIMIT":Str),(4000:Z)),("_MAX_STRING_SIZE",40),("_MOVE_COST",2),("_CASE_COST",1)] :=by
 intro x i h;unfold hX at h
 split at h
 ·cases h;subst_vars;decide
 ·split at h
  ·cases h;subst_vars;decide
  ·split at h
   ·cases h;subst_vars;decide
   ·split at h
    ·cases h;subst_vars;decide
    ·cases h
noncomputable def bJ:bT:={gk:=hX,call:=fun J J=>aB}
theorem WB(W:Wd w mg mb h₀)(n:Z)(h0:0≤n)(h1:n < 100):Ct w mg mb h₀ T 1 "_law_two" [.int n] (.str (two n)):=
 W.fn (n:=0) (i:=29) (P:=bJ) (rest:=[]) (by decide) ⟨_,rfl⟩ V Vr (fun vs J J J h=>pT (fun J=>rfl) vs h) Vq fV (fun J J J=>nn) V (VZ bJ n h0 h1) V
end
section
theorem WC:∀i∈vx,∃q,pg.main.body[i]? =O (.FunctionDef (aK i).name (aK i).params (aK i).body [] aB [] (aK i).scope aB (aK i).name q)∧(aK i).params.defaults=[]∧(aK i).name≠"__name__":=by
 intro i a;simp only[vx,gz,cO,or_false] at a;rcases a with rfl |rfl |rfl
 ·exact⟨_,rfl,rfl,by decide⟩
 ·exact⟨_,rfl,rfl,by decide⟩
 ·exact⟨_,rfl,rfl,by decide⟩
theorem WD{h:bF}{N:aW}{b:aD aJ}{c:aJ}{p:oz}(d:p.defaults=[])(a:GZ p.defaults b)(e:h.DefaultsAt N b c):c= .none:=by
 replace a:=d▸a;rcases e with⟨_,q⟩ |⟨q,_⟩
 ·exact q
 ·exact absurd (CR a) q
theorem WE{h:bF}{N:aW}{a:aD aJ}{c:aJ}{k:aA}{r:bG}(b:GZ [.Constant (.bool aI) k r] a)(d:h.DefaultsAt N a c):∃D,c= .ref D∧h.get? D=O {cls:= .type "tuple",data:= .seq #[.bool aI]}:=by
 cases a with
 |nil=>exact b.elim
 |cons v a=>
  obtain⟨b,f⟩:=b;obtain rfl:v= .bool false:=b;obtain rfl:=CR f;rcases d with⟨q,_⟩ |⟨_,D,e,_,g⟩
  ·exact absurd q (by decide)
  ·exact⟨D,e,g⟩
inductive WF(h:bF)(mg:Str→aG aJ)(n:Str)(p:oz)(b:aD bR)(sc:dN):Prop
 |mk (a:aW) (o:Obj) (pm:aJ) (c P:aW) (doc:aJ) (h1:mg n=O (.ref a)) (h2:h.get? a=O o) (h3:o.cls= .type "function") (h4:o.data= .func (mM n p b sc pm (.ref c) doc)) (h5:h.CodeRec (.ref c) n) (h6:h.TableAt c P #[]) (h7:uE h c P)
theorem CV{w:aV}{h:bF}{mg mb:Str→aG aJ}(X:TF w h mg mb){n:Str}{p:oz}{b:aD bR}{c:dN}{q:bG}(f: .FunctionDef n p b [] aB [] c aB n q∈pg.main.body)(i:p.defaults=[])(j:n≠"__name__"):WF h mg n p b c:=by refine xQ X.held fun N J J J J k=>aQ (k _ (Lj f) j) fun v e l=> ?_;obtain⟨a,t,u,x,y,z,A,rfl,B,C,D,g,m,o,r,s,d⟩:rn .. :=l;obtain rfl:=WD i m o;exact⟨_,_,_,_,_,_,e,g,rfl,rfl,r,d,.of s d⟩
structure jX(mg:Str→aG aJ)(h:bF)(T:aD Tab):Prop where
 at_:∀i∈vx,CS mg h T i
 apart:∀t∈T,∀t'∈T,t'.pos.line=t.pos.line→t'.pos.col=t.pos.col→t'.q=t.q
noncomputable def kvsOf:cP→aD (Z×Str)
 | .dict _ _ l _ _=>l.map KV.kv| _=>[]
noncomputable def cP.WG:cP→aU
 | .dict .. =>aF| _=>aI
structure Seen(h h':bF):Prop where
 get:∀b o,h.get? b=O o→(∀ps,o≠{cls:= .none,data:= .fields ps})→h'.get? b=O o
section
variable{h h':bF}(S:Seen h h')
include S
theorem Seen.code(b:h.CodeRec (.ref c) q)(d:uE h c P):h'.CodeRec (.ref c) q:=by(refine H9 d ?_;clear d;rintro o k _ _ _ _ _ _ _ f a _);(refine BA b ?_;clear b;rintro l m i j e g r);cases e;replace g:=f▸g;cases g;exact⟨_,_,i,j,rfl,S.get _ _ f (fun n z=>by replace a:=z▸a;cases a),r⟩
theorem Seen.hd(b:uE h c P):uE h' c P:=by(refine H9 b ?_;clear b;rintro o d e f g i j k l m a r);exact⟨o,d,e,f,g,i,j,k,l,S.get _ _ m (fun n z=>by replace a:=z▸a;cases a),a,r⟩
theorem Seen.ns(x:h.Ns a m):h'.Ns a m:=by(refine pR x ?_;clear x;rintro o b c e d r);exact⟨o,b,c,S.get _ _ e (fun f z=>by replace d:=z▸d;cases d),d,r⟩
end
theorem WH{h:bF}{T:aD Tab}(a:∀t∈T,∃c,h.TableAt c t.P #[]):Seen h (Hg h (T.map (·.P))):=⟨fun b o e d=>hideAll_get _ e fun f=>by(refine aQ (iW.mp f) ?_;rintro t g rfl);obtain⟨c,k⟩:=a t g;replace e:=k.2▸e;exact d _ (cA e).symm⟩
noncomputable def WI(h:bF)(mg:Str→aG aJ)(i:aA)(t:Tab):Prop:=∃c,h.TableAt c t.P #[]∧(pg.main.body[i]?).bind oZ=O (t.pos,t.q)∧∀h' T,Seen h h'→t∈T→CS mg h' T i
theorem CW{w:aV}{h:bF}{mg mb:Str→aG aJ}(X:TF w h mg mb){i:aA}(g:i∈vx){p:bG}{q:Str}(d:(pg.main.body[i]?).bind oZ=O (p,q)):∃P,WI h mg i ⟨P,p,q⟩:=by refine dB (WC i g) fun q e j k=> ?_;obtain⟨a,o,l,c,P,m,n,r,b,s,t,u,f⟩:=CV X (kq e) j k;exact⟨P,c,u,d,fun h' T S v=>⟨_,v,a,o,l,c,m,n,S.get _ _ r (fun x z=>by replace b:=z▸b;cases b),s,S.code t f,S.hd f,d⟩⟩
section
variable{w:aV}{h h':bF}{mg mb:Str→aG aJ}(X:TF w h mg mb)(S:Seen h h')
include X
theorem yD{t:cP}{i:aA}(e:iG[i]? =O t)(a:t.nm≠"__name__"):∃N,j0 < N∧∃v,mg t.nm=O v∧VF w N t v h:=by exact xQ X.held fun N b J J J c=>⟨N,b,c t (kq e) a⟩
theorem yE{i:aA}{x:Str}{k:Z}(e:∃p a q r,iG[i]? =O (.int x p k a q r))(b:x≠"__name__"):∃t,mg x=O (.int k t):=by(refine sF e ?_;clear e;rintro p a q r e);(refine S6 (yD X e b) ?_;rintro _ _ v c t rfl);exact⟨t,c⟩
include S
theorem WJ:∃a o c d f D,mg (aK 5).name=O (.ref a)∧h'.get? a=O o∧o.data= .func {mM (aK 5).name (aK 5).params (aK 5).body (aK 5).scope c d f with defaults:= .ref D}∧h'.CodeRec d (aK 5).name∧h'.get? D=O {cls:= .type "tuple",data:= .seq #[.bool aI]}:=by obtain⟨k,r,i⟩:∃k r,(aK 5).params.defaults=[.Constant (.bool aI) k r] :=⟨_,_,rfl⟩;obtain⟨q,e⟩:∃q,iG[5]? =O (.fn (aK 5).name (aK 5).params (aK 5).body (aK 5).scope q):=⟨_,rfl⟩;(refine By (yD X e (by show(aK 5).name≠_;decide)) ?_;rintro _ _ v j l);obtain⟨a,x,y,f,A,B,c,rfl,C,E,F,g,b,m,n,p,s⟩:rn .. :=l;replace b:=i▸b;(refine aQ (WE b m) ?_;rintro D rfl t);exact⟨_,_,_,_,_,D,j,S.get _ _ g (fun u z=>by cases z),rfl,S.code n (.of p s),S.get _ _ t (fun u z=>by cases z)⟩
theorem WK:∃d,mg "b1_set"=O (.ref d)∧h'.SetOf (fF pg w) d (fun k=>hJ.any (· ==k)) hJ.length:=by
 have n:∀t:cP,iG[16]? =O t→t.nm="b1_set"→(match t with | .set _ _ l a b _ _ _ _ _ _ _ _ _ _ _ _ _=>decide (lT (l.map IV.i) a b=hJ) | _=>aI)=aF→∃d,mg "b1_set"=O (.ref d)∧h'.SetOf (fF pg w) d (fun k=>hJ.any (· ==k)) hJ.length:=by
  intro t e j f;(refine By (yD X e (by refine M j ?_;decide)) ?_;rintro _ _ v i m);replace i:=j▸i;cases t with
  |set=>
   have f:=kP f;(refine dB m ?_;clear m;rintro s rfl _ c);(replace c:=f▸c;replace c:=WA▸c);(refine uP c ?_;clear c;rintro o p q t g r);exact⟨_,i,o,p,q,t,S.get _ _ g (fun u z=>by replace r:=z▸r;cases r.1.1),r⟩
  | _=>exact absurd f cL
 exact n (iG.getD 16 (.int qN default 0 0 default default)) V rfl (by decide+kernel)
omit X S in
theorem WL:kvsOf (iG.getD 18 (.int qN default 0 0 default default))=lg:=by kernel_rfl
theorem WM:∃d a,mg "b3_exceptions"=O (.ref d)∧(d==j0)=aI∧im a lg∧h'.DictOf (fF pg w) d a:=by
 have k:∀t:cP,iG[18]? =O t→t.nm="b3_exceptions"→t.WG=aF→kvsOf t=lg→∃d a,mg "b3_exceptions"=O (.ref d)∧(d==j0)=aI∧im a lg∧h'.DictOf (fF pg w) d a:=by
  intro t e i m n;(refine By (yD X e (by refine M i ?_;decide)) ?_;rintro N s v f j);replace f:=i▸f;cases t with
  |dict x p l q r=>
   (refine Ta j ?_;clear j;rintro d a rfl u b o y A g c B);have b:im a (kvsOf (.dict x p l q r)):=b;replace b:=n▸b;exact⟨_,_,f,beq_eq_false_iff_ne.mpr (eG (bL s u)),b,o,y,A,S.get _ _ g (fun C z=>by replace c:=z▸c;cases c.1),c,B⟩
  | _=>exact absurd m cL
 exact k (iG.getD 18 (.int qN default 0 0 default default)) V rfl rfl WL
theorem WN:Wd w mg mb h':=by
 have l:∀f:Str,f∉iG.map cP.nm∧f∉mO→mg f=none:=fun f h=>X.others f h.1 h.2;refine⟨⟨S.ns X.g,S.ns X.b,X.builtins,⟨_,S.ns X.statics,rfl⟩,⟨_,S.ns X.statics,rfl⟩,?_⟩,?_,?_,?_,?_,WJ X S,WK X S,WM X S,?_⟩
 ·exact eP X.pY fun o R T e d=>⟨o,S.get _ _ e fun m z=>by replace d:=z▸d;cases d⟩
 ·have:∀f∈(["len","chr","ord","str","min","divmod","list","range","reversed"] :aD eA),aH f∉iG.map cP.nm∧aH f∉mO:=by decide+kernel
  exact fun f j=>l _ (this f j)
 ·have:∀f∈(["int","set","iter","next","sorted","enumerate","print","ZeroDivisionError"] :aD eA),aH f∉iG.map cP.nm∧aH f∉mO:=by decide+kernel
  exact fun f j=>l _ (this f j)
 ·intro i U n p b W q e t;have r:=kq e
  have u:n≠"__name__":=by have v:yC _=true:=j1.mp V' _ (Lj r);exact bne_iff_ne.mp (aY v).2
  obtain⟨a,o,y,c,P,A,B,C,k,D,E,Y,F⟩:=CV X r t u;exact⟨a,o,y,.ref c,A,B,S.get _ _ C (fun m z=>by replace k:=z▸k;cases k),D,S.code E F⟩
 ·exact H1 X.bmain fun G o H I K L g N Q=>⟨G,o,H,I,K,S.get _ _ L (fun m z=>by replace g:=z▸g;cases g),g,N,Q⟩
 ·intro x i s;simp only[gz,cO,or_false,Prod.mk.injEq] at s;rcases s with⟨rfl,rfl⟩ |⟨rfl,rfl⟩ |⟨rfl,rfl⟩ |⟨rfl,rfl⟩
  ·exact yE X (i:=8) ⟨_,_,_,_,rfl⟩ (by decide)
  ·exact yE X (i:=21) ⟨_,_,_,_,rfl⟩ (by decide)
  ·exact yE X (i:=22) ⟨_,_,_,_,rfl⟩ (by decide)
  ·exact yE X (i:=23) ⟨_,_,_,_,rfl⟩ (by decide)
end
theorem WO{w:aV}{h:bF}{mg mb:Str→aG aJ}(X:TF w h mg mb):∃T:aD Tab,Wd w mg mb (Hg h (T.map (·.P)))∧jX mg (Hg h (T.map (·.P))) T∧∀t∈T,∃c,h.TableAt c t.P #[] :=by
 obtain⟨f,g,i⟩:∃p:bG,(pg.main.body[6]?).bind oZ=O (p,("_str_to_int_inner.<locals>.inner":Str))∧p.line=80:=⟨_,rfl,rfl⟩;obtain⟨j,k,l⟩:∃p:bG,(pg.main.body[11]?).bind oZ=O (p,("_int2digits.<locals>.inner":Str))∧p.line=120:=⟨_,rfl,rfl⟩;obtain⟨m,n,o⟩:∃p:bG,(pg.main.body[12]?).bind oZ=O (p,("_digits2int.<locals>.inner":Str))∧p.line=135:=⟨_,rfl,rfl⟩;refine cS (CW X (by decide) g) fun q r s J u=>cS (CW X (by decide) k) fun v x y J z=>cS (CW X (by decide) n) fun P3 A B J C=> ?_
 have a:∀t∈[(⟨q,f,("_str_to_int_inner.<locals>.inner":Str)⟩:Tab),⟨v,j,("_int2digits.<locals>.inner":Str)⟩,⟨P3,m,("_digits2int.<locals>.inner":Str)⟩],∃c,h.TableAt c t.P #[] :=by simp only[jh];exact⟨⟨r,s⟩,⟨x,y⟩,⟨A,B⟩,fun J h=>(cO h).elim⟩
 have S:=WH a;refine⟨_,WN X S,⟨?_,?_⟩,a⟩
 ·unfold vx;simp only[jh];exact⟨u _ _ S (.head _),z _ _ S (.tail _ (.head _)),C _ _ S (.tail _ (.tail _ (.head _))),fun J h=>(cO h).elim⟩
 ·intro t b D d e _;simp only[gz,cO,or_false] at b d;rcases b with rfl |rfl |rfl<;>rcases d with rfl |rfl |rfl<;>first |rfl |(simp only[i,l,o] at e;cases e)
end
section
section
theorem Wd.by(W:Wd w d mb h₀)(g:i < 36)(b:∃q,pg.main.body[i]? =O (.FunctionDef (aK i).name (aK i).params (aK i).body [] aB [] (aK i).scope aB (aK i).name q))(h:(aK i).params.defaults=[])
  (j:iq (aK i) k tb=aF)
  (l:∀(e:aD aJ) (o p r:aJ),e.length=k→uC (mM (aK i).name (aK i).params (aK i).body (aK i).scope o p r) ⟨e,[]⟩=pure (((aK i).params.args.map (·.arg)).zip e))
  (t:∀x i,P.gk x=O i→(x,i)∈[(("_DIV_LIMIT":Str),(4000:Z)),("_MAX_STRING_SIZE",40),("_MOVE_COST",2),("_CASE_COST",1)])
  (u:∀f a y,P.call f a=O y→Ct w d mb h₀ T n f a y)
  (v:a.length=k)
  (z:∀(A:bX) (c:Cx) (K:PK) (m:Str→aG aJ) (s:aM),c.mg=d→c.mb=mb→c.h₀=h₀→c.T=T→Hyp w A c (aK i).scope tb P n→Gd w c tb K m aB s {loc:=a.map O++rest}→
   aN (aO pg w) A (eH (aK i).body c.env) (Cr w c K y) (fun J J=>bO) s)
  (B:rest.all QN=aF):Ct w d mb h₀ T (n+1) (aK i).name a y:=by
 (refine xe b ?_;clear b;rintro q b);exact oU.by j (W.CU i g _ _ _ _ q b h) l (W.m0 t u) v z (Ia B)
end
end
section
theorem CX{w:aV}{mg mb:Str→aG aJ}{h₀ hE:bF}{T:aD Tab}{A:bX}{K:PK}{s:aM}{f:aW}{o:Obj}{d:FuncData}{E:aD bR}{tb:Tb}{k:aA}{xs:aD PV}{j:aD aJ}{ps:aD Str}{rest:aD (aG PV)}{Q:aJ→aM→Prop}
  (S:A.depth < 900) (U:s.heap.get? f=O o) (W:o.data= .func d) (X:s.heap.CodeRec d.code d.qualname) (Y:d.body= .stmts E) (a0:Hh s d ⟨j,[]⟩ (ps.zip j))
  (a1:d.scope.isCoroutine=aI) (a2:d.scope.isGenerator=aI) (a3:d.scope.kind= .function) (a4:∀x∈d.scope.names,x.2≠ .cell) (a5:jc d.scope tb=aF) (B:tb.take k=ps.map fun x=>(x,aF)) (a6:ps.length=k)
  (F:∀b o,h₀.get? b=O o→K b=O o) (C:∀b o,K b=O o→s.heap.get? b=O o) (G:Base mg mb h₀) (a7:nk s.gens) (a8:∀t∈T,K t.P=aB) (a9:∀t∈T,t.Ok K s.heap)
  (H:∀b o,hE.get? b=O o→s.heap.get? b=O o) (a':∀t∈T,∃o,hE.get? t.P=O o)
  (I:bK w K j xs) (D:xs.length=k)
  (aa:∀i x p,tb[k+i]? =O (x,aI)→rest[i]? =O (O p)→∃c o v,d.closure.lookup x=O c∧K c=O o∧o.data= .cell (O v)∧RV w K aB v p)
  (ab:∀i x p,tb[k+i]? =O (x,aF)→rest[i]? =O (O p)→bO)
  (h:∀(c:Cx) (ae:Str→aG aJ) (n:aM),c={mg:=mg,mb:=mb,h₀:=h₀,pX:=s.os,fH:=K,hE:=hE,env:=callEnv d s.heap.objs.size f,T:=T,io:=s.gens}→Gd w c tb K ae aB n {loc:=xs.map O++rest}→
   (∀b o,s.heap.get? b=O o→n.heap.get? b=O o)→n.os=s.os→aN (aO pg w) (A.deeper c.env) (eH E c.env) (fun L N=>Q (match L with | .ret v=>v | _=> .none) N) (fun J J=>bO) n):
  aN (aO pg w) A (call (.ref f) j) Q (fun J J=>bO) s:=by
 have av:j.length=k:=by refine M I.length ?_;exact D
 have af:∀b o,h₀.get? b=O o→s.heap.get? b=O o:=fun b o e=>C _ _ (F b o e);have ah:=G.keeps af;have r:=a5;unfold jc at r;simp only[gZ,j1,lG] at r
 have ai:ps.Nodup:=by
  have:ps=(tb.map (·.1)).take k:=by refine aS qF (M B (M j6 ?_));exact(List.map_id ps).symm
  refine M this ?_;exact(Gh _ _).nodup r.2
 have aj:∀i x,ps[i]? =O x→tb[i]? =O (x,aF)∧i < k:=by
  intro i x e
  have l:i < k:=by
   rcases ou i k with h |h
   ·exact h
   ·rw[xq (aL (cM a6) h)] at e;cases e
  refine⟨?_,l⟩;have:(tb.take k)[i]? =tb[i]? :=M GX (M (aR l) V);refine aS this (M B (M ij (M e ?_)));rfl
 refine xr (codeAny_call_def (binds:=ps.zip j) (bL S (by decide):A.depth < 1000) U W ah.nolimit X Y a0 a4 ?_ (fun ak al u=> ?_) a1 a2 a3)
 ·intro p a;obtain⟨x,v⟩:=p;have am:=afd a;obtain⟨i,l,e⟩:=afe am.1;(refine xa (aj i x (M (fC l) (M e V))) ?_;rintro an _);have:=r.1.2 _ (kq an);simp only[gZ,RE,me] at this;exact this.2
 ·have ao:K s.heap.objs.size=none:=by
   cases e:K s.heap.objs.size with
   |none=>rfl|some o=>have:=C _ _ e;replace this:=fR▸this;exact nn this
  have ap:hE.get? s.heap.objs.size=none:=by
   cases e:hE.get? s.heap.objs.size with
   |none=>rfl|some o=>have:=H _ _ e;replace this:=fR▸this;exact nn this
  refine wpAny_mono (h {mg:=mg,mb:=mb,h₀:=h₀,pX:=s.os,fH:=K,hE:=hE,env:=callEnv d s.heap.objs.size f,T:=T,io:=s.gens} (fun x=>(ps.zip j).reverse.lookup x) {s with heap:=ak,toks:=s.toks+(ps.zip j).length} rfl ⟨?_,?_,.none,fun J J J e=>(by cases e)⟩ u V)
   (fun L N q=>q) fun J J x=>x.elim
  ·exact⟨al,fun b o e=>u _ _ (C b o e),ao,F,.refl K,fun b o J e=>u _ _ (H b o e),fun b o e=> .inl e,ap,fun J J J e=>(by cases e),.refl a7,rfl,G,a8,a',fun t aq=>(a9 t aq).mono (fun J J e=>e) (fun o e=>u _ _ e)⟩
  ·intro i x y p l a
   by_cases m:i < xs.length
   ·(rewrite[su (by simpa using m)] at a;replace a:=ij▸a;replace a:=(fC m)▸a)
    have a:xs[i] =p:=by simpa using a
    (refine aQ (I.get (fC m)) ?_;rintro v ar as)
    have P:ps[i]? =O x∧y=true:=by
     have g:(tb.take k)[i]? =O (x,y):=by refine M GX (M (aR (bL m (cM D))) ?_);exact l
     (replace g:=B▸g;replace g:=ij▸g);cases q:ps[i]? with
     |none=>replace g:=q▸g;cases g|some z=>replace g:=q▸g;cases g;exact⟨rfl,rfl⟩
    (refine xa P ?_;clear P;rintro au rfl);exact⟨v,Ki ai au ar,a▸as.up _⟩
   ·rw[pL (by simpa using jA.mp m)] at a;have R:tb[k+(i - k)]? =O (x,y):=by refine M (by omega:k+(i - k)=i) ?_;exact l
    simp only[bQ] at a;replace a:=D▸a;cases y with
    |true=>exact(ab _ _ _ R a).elim|false=>exact aa _ _ _ R a
end
section
theorem WP{q p:bG}{v:aJ}(l:aD aJ)(h:ut l):mI q (l++[lK p.line,lK p.col,v])=match mI q l with
  |some x=>O x|none=>if(p.line:Z)==q.line && (p.col:Z)==q.col then O v else none:=by
 fun_induction ut l with
 |case1=>exact rfl
 |case2 a t b u x c ih=>
  simp only[qP,mI]
  split
  ·rfl
  ·exact ih h
 |case3 l d e=>exact h.elim
theorem Fm.other{K:PK}(F:Fm c K m i s)(p:K I=aB)(r:I≠c.env.locals)(u:i.ad≠O I)(j:c.hE.get? I=aB)(d:∀b o,b≠I→s.heap.get? b=O o→h'.get? b=O o):Fm c K m i {s with heap:=h',toks:=tk}:=by
 refine{ns:= ?_,keep:=fun b o e=>d b o ?_ (F.keep b o e),dH:=F.dH,low:=F.low,le:=F.le,cT:=fun b o n e=>d b o ?_ (F.cT b o n e),new:=F.new,cX:=F.cX,mul:=fun a v w e=> ?_,gens:=F.gens,os:=F.os,base:=F.base,dO:=F.dO,eX:=F.eX,tabs:=fun t k=>(F.tabs t k).mono (fun J J e=>e) fun o e=>d _ _ (F.off j t k) e}
 ·exact eP F.ns fun o x y f g=>⟨o,x,y,d _ _ (Ne.symm r) f,g⟩
 ·intro h;rw[h,p] at e;exact nn e
 ·intro h;rw[h,j] at e;exact nn e
 ·(refine dW (F.mul a v w e) ?_;rintro⟨f,z⟩ g A B);have l:a≠I:=fun q=>u (by refine M e (aS q ?_);rfl);exact⟨⟨(aQ f fun o C D=>⟨o,d _ _ l C,D⟩),fun q=>(z q).at fun J=>d _ _ l⟩,g,A,B⟩
theorem Fm.cell{K:PK}(F:Fm c K m d s)(g:K a=aB)(h:a≠c.env.locals)(i:d.ad≠O a)(j:c.hE.get? a=aB)(l:iJ a s.heap f)(p:f.get? a=O k):
  PK.le K (K.put a k)∧Fm c (K.put a k) m d {s with heap:=f,toks:=tk}:=by
 have q:Fm c K m d {s with heap:=f,toks:=tk}:=F.other g h i j fun b o n e=>(l.2 b n).trans e;exact q.known g h i j p
theorem CY{aa:aV}{ab:bX}{c:Cx}{K:PK}{m:Str→aG aJ}{mu:Mu}{s:aM}{cc ci:aW}{P:Obj}{t:Tab}{name:Str}{k:oz}{v:aD bR}{u:dN}{B:bG}{w:aD (Str×aW)}{Q:j3→aM→Prop}
  (F:Fm c K m mu s) (Y:t∈c.T) (ay:∀f∈c.T,f.pos.line=t.pos.line→f.pos.col=t.pos.col→f.q=t.q) (ae:c.env.code= .ref cc) (az:uE c.h₀ cc t.P) (af:c.env.globals=fL)
  (p:∃p o,c.mg "__builtins__"=O (.ref p)∧p≠i8∧p≠fL∧c.h₀.get? p=O o∧o.cls= .type "module"∧o.dict=O i8∧o.data= .plain)
  (a0:t.pos=B) (b0:qualnameIn c.env name name=t.q) (ah:oA u c.env=pure w)
  (R:k.kwonlyargs=[]) (S:k.kw_defaults=[]) (b1:k.defaults=[]) (b2:CO k=aF)
  (b3:c.env.scope.kind= .function) (b4:c.env.kindOf name=O .cell) (b5:c.env.cells.lookup name=O ci) (ai:K ci=aB) (b6:ci≠c.env.locals) (b7:mu.ad≠O ci) (b8:c.hE.get? ci=aB) (C:s.heap.get? ci=O P) (aj:P.data= .cell aB)
  (b9:∀A a1 ak l g h i D,PK.le K A→Fm c A m mu a1→(∀b o,b≠ci→Off c.T b→s.heap.get? b=O o→a1.heap.get? b=O o)→A ak=O l→l.data= .func (oB name t.q k v u w .none .none i D aB g h)→
   mW A g t.q→(∃T,A ci=O T∧T.data= .cell (O (.ref ak)))→(∀b,s.heap.get? b≠aB→b≠ci→K b=aB→A b=aB)→Q .next a1):
  aN (aO pg aa) ab (ji (.FunctionDef name k v [] aB [] u aB name B) c.env) Q (fun J J=>bO) s:=by
 have b':Off [t] ci:=fun f a e=>by
  obtain rfl:f=t:=by simpa using a
  refine aQ (F.tabs f Y) fun ba d J=> ?_;(replace d:=e▸d;replace d:=C▸d);cases d;cases aj
 have bc:ci≠t.P:=fun e=>b' t (.head _) e.symm;have Fl:∀b o,c.h₀.get? b=O o→s.heap.get? b=O o:=fun b o e=>F.keep _ _ (F.le _ _ (F.low _ _ e));have al:uE s.heap cc t.P:=az.keeps Fl;refine dB (F.tabs t Y) fun ba E U bd=> ?_;have W:s.heap.Ns fL c.mg:=F.heap.g
 have be:fL≠t.P:=fun e=>by(refine pR W ?_;clear W;rintro o c8 c9 d am _);(replace d:=e▸d;replace d:=E▸d);cases d;cases am
 have an:s.heap.BuiltinsAt c.mg t.P:=by(refine H1 p ?_;clear p;rintro p o bf bg bh ao ap bi bj);refine⟨p,o,bf,bg,bh,fun e=> ?_,Fl _ _ ao,ap,bi,bj⟩;have:=Fl _ _ ao;(replace this:=e▸this;replace this:=E▸this);cases this;cases ap
 have ar:∀(a:bF) (tk:aA) (x:PK) (l:Obj) (g h i D:aJ),PK.le K x→Fm c x m mu {s with heap:=a.push l,toks:=tk}→x a.objs.size=O l→l.data= .func (oB name t.q k v u w .none .none i D aB g h)→mW x g t.q→x ci=aB→(a.push l).get? ci=O P→
   (∀b o,Off c.T b→s.heap.get? b=O o→(a.push l).get? b=O o)→(∀b,s.heap.get? b≠aB→K b=aB→x b=aB)→
   aN (aO pg aa) ab (do np B;GU c.env name (.ref a.objs.size);pure .next) Q (fun J J=>bO) {s with heap:=a.push l,toks:=tk}:=by
  intro a tk x l g h i D bk a2 a3 bl bm bn bo bp y;refine wpAny_bind (jg (wpAny_bind (uy (A2 b3 b4 b5 ⟨P,bo,aj⟩ fun cf as au=>wpAny_pure ?_))));(refine aQ as ?_;clear as;rintro T bq br);refine xa (a2.cell (tk:=tk) bn b6 b7 b8 au bq) fun r G=>b9 _ _ _ l g h i D (bk.trans r) G (fun b o a4 H e=>(au.2 b a4).trans (bp b o H e)) (r _ _ a3) bl (bm.mono r) ⟨T,PK.jo,br⟩ (fun b n a4 I=> ?_);unfold PK.put;exact M (aP a4) <|y b n I
 refine M (exec_def ..) (M b0 (M (defaultsOf_eq ..) (M S (M b1 (M (Lg b2) ?_)))));refine wpAny_bind (jg (wpAny_bind (ii ?_)));refine wpAny_bind (wpAny_pure ?_);refine wpAny_bind (ii (wpAny_pure ?_));refine ii <|wpAny_bind (wpAny_pure ?_)
 rcases bd with bs |⟨g,a3,bt⟩
 ·refine makeFunction_K ah af W ae al E U (a0▸bs) be an fun j h i a tk a5 av bu aw bv=> ?_;(refine BE aw ?_;clear aw;rintro cg L bw bx bz c0 c1 c2);cases bz;have a6:s.heap.get? j=none:=xX av
  have c3:K j=none:=by
   cases e:K j with
   |none=>rfl|some o=>have:=F.keep _ _ e;replace this:=a6▸this;exact nn this
  have X:PK.le K (K.put j L):=PK.uX c3;have a7:∀b o,Off c.T b→s.heap.get? b=O o→a.get? b=O o:=fun b o H e=>a5 b o (fun q=>H t Y q.symm) e
  have c4:∀b o,(K.put j L) b=O o→a.get? b=O o:=fun b o e=>by
   rcases PK.pZ e with⟨R,S⟩ |e
   ·refine M R (aS S ?_);exact c0
   ·exact a7 b o (F.TH e) (F.keep b o e)
  have ax:mW (K.put j L) (.ref j) t.q:=⟨j,L,bw,bx,rfl,PK.jo,c1,c2⟩
  (refine xa (F.called (s2:={s with heap:=a,toks:=tk}) X c4 (fun b o e=>by
    rcases PK.pZ e with⟨R,S⟩ |e
    ·refine M R ?_;exact .inr a6
    ·exact .inl e) a7 V (.refl F.gens.bare) (fun f a8=>by
    by_cases a9:f.P=t.P
    ·refine⟨_,by refine M a9 ?_;exact bv,?_,?_⟩
     ·refine M lH ?_;exact TriplesOk_snoc _ _ _ _ U
     ·refine dB (F.tabs f a8) fun ch d am N=> ?_;(replace d:=a9▸d;replace d:=E▸d);cases d;refine M lH (M (WP _ U) ?_);rcases N with N |⟨g,N,c5⟩
      ·refine M N ?_
       by_cases z:((B.line:Z)==f.pos.line && (B.col:Z)==f.pos.col)=aF
       ·right
        refine⟨.ref j,by exact M (aR z) V,?_⟩;simp only[gZ,me] at z;replace z:=Eq.symm a0▸z;refine M (ay f a8 (Eq.symm (pM.mp z.1)) (Eq.symm (pM.mp z.2))) ?_;exact ax
       ·left;exact M (aP z) V
      ·refine M N ?_;exact .inr ⟨g,rfl,c5.mono X⟩
    ·exact(F.tabs f a8).mono X fun o e=>a5 _ o a9 e)) ?_;rintro a2 _)
  refine xa (a2.alloc (o:=fnMade name t.q k v u w i ((c.mg "__name__").getD .none) j h) (tk:=tk) V) fun r G=> ?_
  have c6:∀b,s.heap.get? b≠aB→b≠a.objs.size:=fun b n e=>by
   have:b < s.heap.objs.size:=by
    cases q:s.heap.get? b with
    |none=>exact absurd q n|some o=>exact fA q
   have:=bL this (aL av (fE bu));exact uu _ (e▸this)
  have y:∀b,s.heap.get? b≠aB→K b=aB→((K.put j L).put a.objs.size (fnMade name t.q k v u w i ((c.mg "__name__").getD .none) j h)) b=none:=fun b n I=>by unfold PK.put;refine M (aP (c6 b n)) (M (aP (fun e=>by replace n:=e▸n;exact n a6)) ?_);exact I
  exact ar a tk _ _ _ h i _ (X.trans r) G PK.jo V (ax.mono r) (y ci (by refine M C ?_;simp) ai) (eV _ (a5 _ _ bc C)) (fun b o H e=>eV _ (a7 b o H e)) y
 ·refine makeFunction_hit ah af W ae al E U (a0▸a3) an fun h i a tk a' c7=>xa ((F.grow (tk:=tk) a').alloc (o:={cls:= .type "function",data:= .func (oB name t.q k v u w .none .none i ((c.mg "__name__").getD .none) aB g h)}) (tk:=tk) V) fun r G=> ?_
  have y:∀b,s.heap.get? b≠aB→K b=aB→(K.put a.objs.size {cls:= .type "function",data:= .func (oB name t.q k v u w .none .none i ((c.mg "__name__").getD .none) aB g h)}) b=none:=fun b n I=>by
   unfold PK.put;rw[aP (fun(e:b=a.objs.size)=> ?_)]
   ·exact I
   ·cases q:s.heap.get? b with
    |none=>exact n q|some o=>exact uu _ (e▸bL (fA q) c7)
  exact ar a tk _ _ g h i _ r G PK.jo V (bt.mono r) (y ci (by refine M C ?_;simp) ai) (eV _ (a' _ _ C)) (fun b o J e=>eV _ (a' b o e)) y
end
section
theorem cell_call{K:PK}{name:Str}
  (WQ:A.depth < 900) (ho:s.heap.get? a=O o) (WR:o.data= .func (mM name params body scope pm cd doc)) (CZ:s.heap.CodeRec cd name)
  (rj:uC (mM name params body scope pm cd doc) ⟨vs,[]⟩=pure binds)
  (C0:∀x∈binds,scope.names.lookup x.1=O .local∨(scope.names.lookup x.1=O .cell∧((qQ (s.heap.objs.size+1) scope.names []).lookup x.1).isSome=aF))
  (Cz:((qQ 0 scope.names []).map (·.1)).Nodup)
  (WS:scope.isCoroutine=aI) (ro:scope.isGenerator=aI) (vy:scope.kind= .function)
  (vj:∀b o,h₀.get? b=O o→K b=O o) (qi:∀b o,K b=O o→s.heap.get? b=O o) (hB:Base mg mb h₀) (Cv:nk s.gens) (Cw:∀t∈T,K t.P=aB) (vk:∀t∈T,t.Ok K s.heap)
  (h:∀(c:Cx) (s':aM) (cells:aD (aW×Obj)),c={mg:=mg,mb:=mb,h₀:=h₀,pX:=s.os,fH:=K,hE:=s.heap,env:=ny name scope s.heap.objs.size a cd,T:=T,io:=s.gens}→
   Fm c K (A3 (ny name scope s.heap.objs.size a cd).kindOf binds fun J=>aB) aB s'→xv (bindC (ny name scope s.heap.objs.size a cd).kindOf binds fun J=>aB) (qQ (s.heap.objs.size+1) scope.names []) cells→
   (∀p∈cells,s'.heap.get? p.1=O p.2∧p.1≠c.env.locals∧s.heap.get? p.1=aB∧K p.1=aB)→(∀b o,s.heap.get? b=O o→s'.heap.get? b=O o)→
   aN (aO pg w) (A.deeper c.env) (eH body c.env) (fun fl WT=>Q (match fl with | .ret v=>v | _=> .none) WT) (fun J J=>bO) s'):
  aN (aO pg w) A (call (.ref a) vs) Q (fun J J=>bO) s:=by
 have vm:∀b o,h₀.get? b=O o→s.heap.get? b=O o:=fun b o e=>qi _ _ (vj b o e);have Cy:=hB.keeps vm;refine xr (call_cellsN_ret (binds:=binds) (bL WQ (by decide):A.depth < 1000) ho WR Cy.nolimit CZ rj C0 Cz (fun mx tk cells F N X=> ?_) WS ro vy)
 have WU:K s.heap.objs.size=none:=by
  cases e:K s.heap.objs.size with
  |none=>rfl|some o=>have:=qi _ _ e;rw[fR] at this;exact nn this
 refine h _ {s with heap:=mx,toks:=tk} cells V ?_ X (fun p hp=>⟨(N p hp).1,(N p hp).2.1,(N p hp).2.2,?_⟩) F.keep
 ·exact⟨F.ns,fun b o e=>F.keep _ _ (qi b o e),WU,vj,.refl K,fun b o J e=>F.keep _ _ e,fun b o e=> .inl e,fR,fun J J J e=>(by cases e),.refl Cv,rfl,hB,Cw,fun t ht=>(vk t ht).some,fun t ht=>(vk t ht).mono (fun J J e=>e) (fun o e=>F.keep _ _ e)⟩
 ·cases e:K p.1 with
  |none=>rfl|some o=>have:=qi _ _ e;rw[(N p hp).2.2] at this;exact nn this
inductive yF(n3 n2 n1:Str)(v3 v2 v1:aG aJ)(cf:aD (Str×aW))(cells:aD (aW×Obj)):Prop
 |mk (c3 c2 c1:aW) (o3 o2 o1:Obj) (e:cells=[(c3,o3),(c2,o2),(c1,o1)]) (WV:cf=[(n3,c3),(n2,c2),(n1,c1)]) (d3:o3.data= .cell v3) (d2:o2.data= .cell v2) (d1:o1.data= .cell v1) (WW:c3≠c2) (WX:c3≠c1) (WY:c2≠c1):yF n3 n2 n1 v3 v2 v1 cf cells
inductive C1(n4 n3 n2 n1:Str)(v4 v3 v2 v1:aG aJ)(cf:aD (Str×aW))(cells:aD (aW×Obj)):Prop
 |mk (c4 c3 c2 c1:aW) (o4 o3 o2 o1:Obj) (e:cells=[(c4,o4),(c3,o3),(c2,o2),(c1,o1)]) (WV:cf=[(n4,c4),(n3,c3),(n2,c2),(n1,c1)]) (d4:o4.data= .cell v4) (d3:o3.data= .cell v3) (d2:o2.data= .cell v2) (d1:o1.data= .cell v1) (n43:c4≠c3) (n42:c4≠c2) (n41:c4≠c1) (WW:c3≠c2) (WX:c3≠c1) (WY:c2≠c1):C1 n4 n3 n2 n1 v4 v3 v2 v1 cf cells
section
theorem Lp(X:xv a [(c,b+1+1),(d,b+1),(e,b)] f):yF c d e (a c) (a d) (a e) [(c,b+1+1),(d,b+1),(e,b)] f:=by
 cases X with
 |cons g X=>
  (refine cS X.two ?_;rintro h i rfl j k);exact⟨_,_,_,_,h,i,rfl,rfl,g,j,k,A4 _,eG (sv (lJ b)),A4 _⟩
theorem WZ(X:xv a [(c,b+1+1+1),(d,b+1+1),(e,b+1),(f,b)] g):C1 c d e f (a c) (a d) (a e) (a f) [(c,b+1+1+1),(d,b+1+1),(e,b+1),(f,b)] g:=by
 cases X with
 |cons h X=>
  cases X with
  |cons i X=>
   (refine cS X.two ?_;rintro j k rfl l m);exact⟨_,_,_,_,_,_,j,k,rfl,rfl,h,i,l,m,A4 _,eG (sv (lJ _)),eG (sv (sv (lJ b))),A4 _,eG (sv (lJ b)),A4 _⟩
end
end
section
theorem Lq(env:gI):∀(a b:aD bR),eH (a++b) env=(do match ←eH a env with | .next=>eH b env |f=>pure f)
 |[],b=>M (qO ..) (M (execs_nil ..) (M (pure_bind ..) V))
 |st::a,b=>by
  refine M qP (M (execs_cons ..) (M (execs_cons ..) (M (bind_assoc ..) ?_)))
  congr 1
  funext f
  cases f with
  |next=>exact Lq env a b|ret v=>exact rfl|brk=>exact rfl|cont=>exact rfl
theorem tw{E:aJ→aM→Prop}(a b:aD bR)
  (h:aN (aO pg w) A (eH a d) (fun f c=>match f with | .next=>aN (aO pg w) A (eH b d) Q E c |f=>Q f c) E s):aN (aO pg w) A (eH (a++b) d) Q E s:=by
 refine M (Lq ..) <|wpAny_bind (wpAny_mono h (fun f c q=> ?_) fun J J x=>x)
 cases f with
 |next=>exact q|ret v=>exact wpAny_pure q|brk=>exact wpAny_pure q|cont=>exact wpAny_pure q
structure Kn(mg mb:Str→aG aJ)(h₀:bF)(T:aD Tab)(K:PK)(s:aM):Prop where
 low:∀b o,h₀.get? b=O o→K b=O o
 keep:∀b o,K b=O o→s.heap.get? b=O o
 base:Base mg mb h₀
 gens:nk s.gens
 dO:∀t∈T,K t.P=aB
 tabs:∀t∈T,t.Ok K s.heap
theorem Fm.kn{K:PK}(F:Fm c K m a s):Kn c.mg c.mb c.h₀ c.T K s:=
 ⟨fun b o e=>F.le _ _ (F.low b o e),F.keep,F.base,F.gens.bare,F.dO,F.tabs⟩
theorem Kn.nil{K:PK}(N:Kn a mb h₀ T K s):Kn a mb h₀ [] K s:=⟨N.low,N.keep,N.base,N.gens,(fun J h=>(cO h).elim),(fun J h=>(cO h).elim)⟩
noncomputable def Still(w:aV)(s a:aM):Prop:=(∀b o,s.heap.get? b=O o→a.heap.get? b=O o)∧a.os=s.os∧iQ s.gens a.gens
theorem o0{c:Cx}{g a:eW pA}(h:c.io=g)(x:iQ c.io a):iQ g a:=h▸x
theorem Fm.yG{K:PK}(F:Fm c K m a s)(h:Still w s d):Fm c K m a d∧KB c a s.heap d.heap:=by exact xa (F.called (.refl K) (fun b o e=>h.1 _ _ (F.keep b o e)) (fun b o e=> .inl e) (fun b o J e=>h.1 b o e) h.2.1 h.2.2 (fun t f=>(F.tabs t f).mono (fun J J e=>e) fun o e=>h.1 _ _ e)) fun g b=>⟨g,b⟩
section
variable{K:PK}
theorem vz{args:aD Expr}(Y:Hyp w A c D l P n)(F:Fm c K m a s)(L:RL w K c.env a.ad l m σ.loc)(E:Mu.Is w K a σ.mu)
  (h:(x==("__debug__":Str))=aI∧(x==("__classdict__":Str))=aI) (G:c.env.kindOf x=O .free∨c.env.kindOf x=O .cell) (q:c.env.cells.lookup x=O H) (r:K H=O i) (t:i.data= .cell (O (.ref f))) (I:K f=O u) (N:u.data= .func fd)
  (j:eK D l y args=aF) (R:args≠[]) (S:gB P σ y=O xs)
  (k:∀b g d,PK.le K b→Fm c b m a d→KB c a s.heap d.heap→hG w b a.ad g xs→aN (aO pg w) A (call (.ref f) g) Q (fun J J=>bO) d):
  aN (aO pg w) A (eval (.Call (.Name x p) args [] a0) c.env) Q (fun J J=>bO) s:=by
 have load:aN (aO pg w) A (eval (.Name x p) c.env) (fun v z=>v= .ref f∧z=s) (fun J J=>bO) s:=by
  rcases G with e |e
  ·exact pF (GG Y.H.kind e q ⟨i,F.keep _ _ r,t⟩ ⟨rfl,rfl⟩ h.2) h.1
  ·exact pF (Rk Y.H.kind e q ⟨i,F.keep _ _ r,t⟩ ⟨rfl,rfl⟩) h.1
 refine wpAny_Call_NameR (wpAny_mono load (fun v z ⟨T,U⟩=> ?_) fun J J x=>x);subst T U;exact AN (o:=u) (fd:=fd) (iE (qf j R) (mr j) ((u7 Y y _ j xs S).then F L E fun b g d B C W X=>⟨⟨C.keep _ _ (B _ _ I),N⟩,k b g d B C W X⟩))
end
end
section
noncomputable def bP(i:aA):Df:=((aK i).body.findSome? Kh).getD ⟨qN,{posonlyargs:=[],args:=[],vararg:=aB,kwonlyargs:=[],kw_defaults:=[],kwarg:=aB,defaults:=[]},[],{kind:= .module,names:=[],isGenerator:=aI,isCoroutine:=aI,more:=[]}⟩
noncomputable def pack(n:aA):aD Z→Z
 |[] =>0|d::r=>d+2^n*pack n r
theorem tA{n:aA}{d:Z}{r:aD Z}:pack n (d::r)=d+2^n*pack n r:=rfl
theorem vA{n:aA}:pack n [] =0:=rfl
theorem Lr(n:aA):∀(a b:aD Z),pack n (a++b)=pack n a+2^(n*a.length)*pack n b
 |[],b=>by simp[vA]
 |d::r,b=>by(refine M qP ?_;rewrite[tA,tA];exact M (Lr n r b) (M j2 (M (r6 ..) (M (A5 ..) (M (qR ..) (M (A6 ..) (M (sw ..) (M (hA (2^(n*r.length)) (2^n)) (M (lL ..) V)))))))))
theorem Ls(n:aA):∀(a:aD Z),(∀d∈a,0≤d∧d < 2^n)→0≤pack n a∧pack n a < 2^(n*a.length)
 |[],_=>by simp[vA]
 |d::r,h=>by
  refine xa (h d (.head _)) fun c i=>xa (Ls n r fun x e=>h x (.tail _ e)) fun f g=> ?_;have b:(0:Z) < 2^n:=jj (by decide)
  constructor
  ·rw[tA];have:=oE (cJ b) f;exact qK c this
  ·(rewrite[tA];refine M j2 (M (r6 ..) (M (A5 ..) (M (qR ..) (M (hA (2^(n*r.length)) (2^n)) ?_)))))
   have:(2:Z) ^n*(pack n r+1)≤2^n*2^(n*r.length):=A7 (A8 g) (cJ b);rw[A6] at this;lia
theorem intBits_le(c:0≤a)(h:a < 2^k):gW a≤k:=by
 unfold gW
 split
 ·exact jR _
 ·rename_i b
  have b:a≠0:=by simpa using b
  have:a.natAbs < 2^k:=by have e:((2^k:aA):Z)=2^k:=rfl;lia
  have:=(AH (by lia)).mpr this;exact nz this
noncomputable def seg(a:aD Z)(L R:aA):aD Int:=(a.drop L).take (R - L)
theorem W0(a:L≤m)(c:m≤R):seg b L R=seg b L m++seg b m R:=by unfold seg;have e:R - L=(m - L)+(R - m):=Eq.symm (kN (iz _ _) (Hi c a));exact M e (M QV (M Hj (M (r3 a:L+(m - L)=m) V)))
theorem Lu(h:R≤a.length):(seg a L R).length=R - L:=by unfold seg;refine M ni (M iB ?_);exact l4 (qI h _)
theorem W1(h:L < a.length):seg a L (L+1)=[a[L]] :=by unfold seg;refine M (qy _ _:L+1 - L=1) (M (As h) ?_);rfl
noncomputable def ql:Tb:=[(aH "L",aF),(aH "R",aF),(aH "mid",aF),(aH "shift",aF),(aH "digits",aI),(aH "n",aI)]
noncomputable def bD:B:= .cons (.ite (.cmp .Eq (.bin .Add (.nm 0) (.int 1)) (.nm 1)) (.cons (.ret (.sub (.nm 4) (.nm 0))) .nil) .nil)
 (.cons (.asg 2 (.bin .RShift (.bin .Add (.nm 0) (.nm 1)) (.int 1))) (.cons (.asg 3 (.bin .Mult (.bin .Sub (.nm 2) (.nm 0)) (.nm 5))) .nil))
theorem Lv:jc (bP 12).scope ql=true:=by decide+kernel
inductive Lw:Prop
 |mk (l p1 p2 p3 p4 p5 p6 p7 a1 a2 a3:_) (h1:(bP 12).body=l++[.Return (O (.BinOp (.BinOp (.Call (.Name "inner" p1) a1 [] p2) .LShift a2 p3) .Add (.Call (.Name "inner" p4) a3 [] p5) p6)) p7]) (h2:dX (bP 12).scope ql bD l=aF) (h3:eK (bP 12).scope ql (.cons (.nm 2) (.cons (.nm 1) .nil)) a1=aF) (h4:bC (bP 12).scope ql (.nm 3) a2=aF) (h5:eK (bP 12).scope ql (.cons (.nm 0) (.cons (.nm 2) .nil)) a3=aF) (h6:a1≠[]) (h7:a3≠[]):Lw
theorem W2:Lw:=
 ⟨(bP 12).body.take 3,_,_,_,_,_,_,_,_,_,_,rfl,by decide+kernel,by decide+kernel,by decide+kernel,by decide+kernel,(by intro e;cases e),(by intro e;cases e)⟩
structure rp(w:aV)(K:PK)(f:aW)(n:aA)(ds:aD Z)(fo:Obj)(ke:aD (Str×aW))(cv tB doc pm:aJ)(ci cd cn:aW):Prop where
 fn:K f=O fo
 data:fo.data= .func (oB (bP 12).name "_digits2int.<locals>.inner" (bP 12).params (bP 12).body (bP 12).scope ke .none .none doc pm aB cv tB)
 code:mW K cv "_digits2int.<locals>.inner"
 li:ke.lookup ("inner":Str)=O ci
 ld:ke.lookup ("digits":Str)=O cd
 ln:ke.lookup ("n":Str)=O cn
 ki:∃o,K ci=O o∧o.data= .cell (O (.ref f))
 kd:∃o v,K cd=O o∧o.data= .cell (O v)∧RV w K aB v (.lst (ds.map .int))
 kn:∃o v,K cn=O o∧o.data= .cell (O v)∧RV w K aB v (.int (n:Z))
theorem rp.mono{K:PK} {f n c d e g i j k l m p} (x:rp w K f n c d e g i j k l m p)(h:PK.le K q):rp w q f n c d e g i j k l m p:=
 ⟨h _ _ x.fn,x.data,x.code.mono h,x.li,x.ld,x.ln,(aQ x.ki fun o a b=>⟨o,h _ _ a,b⟩),(cS x.kd fun o v a b r=>⟨o,v,h _ _ a,b,r.mono h⟩),(cS x.kn fun o v a b r=>⟨o,v,h _ _ a,b,r.mono h⟩)⟩
theorem W3:∀x∈(bP 12).scope.names,x.2≠ .cell:=by decide
theorem W4 {a b c d e}:
  Hh s (oB (bP 12).name f (bP 12).params (bP 12).body (bP 12).scope a .none .none b c aB d e) ⟨[v,u],[]⟩ ((["L","R"] :aD Str).zip [v,u]):= .of_eq V
section
theorem Lx(b3:Wd w al mb h₀)(X:n≤10000)(a0:f.length≤1000)(b4:∀d∈f,0≤d∧d < 2^n)(L R a:aA)(am:L < R)(C:R≤f.length)(an:a=(L+R) / 2)(A:bX)(K:PK)(s:aM)(t a1:gX)(e:aA)
  (ao:A.handled=aB) (Q:A.depth+e+1 < 900) (b5:A.units+10*(e+1) < 9000) (N:Kn al mb h₀ [] K s) (I:rp w K a2 n f b6 b7 b8 b9 b' ba bc ap aq)
  (bd:L+1≠R→∀l m,(l=L∧m=a)∨(l=a∧m=R)→∀(S:bX) (a3:PK) (u:aM) (t a1:gX),S.handled=aB→S.depth≤A.depth+1→S.units≤A.units+3→Kn al mb h₀ [] a3 u→rp w a3 a2 n f b6 b7 b8 b9 b' ba bc ap aq→
   aN (aO pg w) S (call (.ref a2) [.int (l:Z) t,.int (m:Z) a1]) (fun v ar=>(∃r,v= .int (pack n (seg f l m)) r)∧Still w u ar) (fun J J=>bO) u):
  aN (aO pg w) A (call (.ref a2) [.int (L:Z) t,.int (R:Z) a1]) (fun v u=>(∃r,v= .int (pack n (seg f L R)) r)∧Still w s u) (fun J J=>bO) s:=by
 obtain⟨a4,be,bf,d6,bg,bh,d7,d8,bi,bj,bk,bl,as,bm,bn,bo,bp,bq⟩:=W2;obtain⟨br,bs,bt,bu,bv,bw,bx,bz⟩:=I.code
 refine cS I.kd fun c0 c1 c2 c3 c4=>cS I.kn fun c5 c6 c7 c8 c9=>aQ I.ki fun c' au av=>CX (hE:=s.heap) (tb:=ql) (k:=2) (xs:=[.int L,.int R]) (rest:=[aB,aB,O (.lst (f.map .int)),O (.int (n:Z))]) (ps:=["L","R"]) (cC (hO _ _) (kt Q)) (N.keep _ _ I.fn) I.data ⟨br,bs,bt,bu,bv,N.keep _ _ bw,bx,bz⟩ V W4 V rfl rfl W3 Lv (by decide) V
  N.low N.keep N.base N.gens N.dO N.tabs (fun J J q=>q) (fun r a5=>(N.tabs r a5).some) (.cons .int (.cons .int .nil)) V ?_ ?_ (fun c aw u g ax d9 d'=> ?_)
 ·intro i x p j k
  match i,j,k with
  |2,j,k=>
   cases j;cases k;exact⟨ap,c0,c1,I.ld,c2,c3,c4⟩
  |3,j,k=>
   cases j;cases k;exact⟨aq,c5,c6,I.ln,c7,c8,c9⟩
  |0,j,k=>cases j|1,j,k=>cases j|i+4,j,k=>cases k
 ·intro i x p j k
  match i,j,k with
  |0,j,k=>cases k|1,j,k=>cases k|2,j,k=>cases j|3,j,k=>cases j|i+4,j,k=>cases k
 ·have Y:Hyp w (A.deeper c.env) c (bP 12).scope ql bJ 0:=by refine⟨ao,by show A.depth+1+0 < 900;exact ko (cC (hO _ _) (Hk Q)),by show A.units+3+10*0 < 9000;exact HO b5,?_,b3.m0 fV (fun J J J h=>by cases h) c (M g V) (M g V) (M g V) V⟩;exact M g <|⟨rfl,Lv,rfl,rfl⟩
  have a6:c.T=[] :=M g V;have da:c.fH=K:=M g V;show aN _ _ (eH (bP 12).body c.env) _ _ _;refine M bl <|tw a4 _ ?_
  have a7:L < f.length:=bL am C
  have ca:jn aB (.lst (f.map .int)) (.int (L:Z))=O (.int f[L]):=by show aZ _ _=_;refine M (bB (by refine M (bQ ..) (M cN ?_);exact aL a0 (by decide))) (M (rm (by refine M (bQ ..) ?_;exact a7)) ?_);simp[a7]
  by_cases D:L+1=R
  ·have a8:bE bJ bD {loc:=[O (.int L),O (.int R),aB,aB,O (.lst (f.map .int)),O (.int (n:Z))]}=O (.ret (.int f[L]),{loc:=[O (.int L),O (.int R),aB,aB,O (.lst (f.map .int)),O (.int (n:Z))]}):=by
    have g:((L:Z)+1==(R:Z))=true:=by refine iO me ?_;exact xL D
    refine cU <|M (qk (x:= .bool aF) (by exact aT (fun b=>O (PV.bool b)) g) V) ?_
    exact cU (fU ca V)
   refine wpAny_mono (nM bD a4 c _ _ _ Y as a8 K aw aB u ax) (fun cb ar o=> ?_) fun J J x=>x;obtain⟨a3,db,dc,ay,cc,cd,v,rfl,a9,ce⟩:=o;obtain⟨r,rfl⟩:=ce.int_inv;refine⟨⟨r,?_⟩,?_⟩
   ·refine aS D (M (W1 a7) ?_);simp[tA,vA]
   ·exact⟨fun b o e=>a9.cT b o (by refine M a6 ?_;exact fun J h=>(cO h).elim) (by refine M g ?_;exact e),a9.os.trans (M g V),o0 (by exact M g V) a9.gens⟩
  ·have E:L < a∧a < R:=by exact sE am an D
   have a8:bE bJ bD {loc:=[O (.int L),O (.int R),aB,aB,O (.lst (f.map .int)),O (.int (n:Z))]}=O (.next,{loc:=[O (.int L),O (.int R),O (.int (a:Z)),O (.int (((a:Z) - L)*n)),O (.lst (f.map .int)),O (.int (n:Z))]}):=by
    have g:((L:Z)+1==(R:Z))=false:=by refine iO Hd ?_;exact HP D
    have a':dC .RShift (.int ((L:Z)+R)) (.int 1)=O (.int (a:Z)):=by
     show aZ _ _=_;refine M (bB (by decide)) ?_
     congr 2
     refine M (GY _ (by decide)) ?_;show((L:Z)+R) / 2=_;exact HQ an
    have cf:dC .Mult (.int ((a:Z) - L)) (.int (n:Z))=O (.int (((a:Z) - L)*n)):=vo (dM (by decide) (cW _)) (dZ.mpr (cC X (by decide)));unfold bD;rw[eL (σ':={loc:=[O (.int L),O (.int R),aB,aB,O (.lst (f.map .int)),O (.int (n:Z))]})]
    ·refine M (eL (gO (x:= .int (a:Z)) (by exact a') V)) <|M (eL (gO (x:= .int (((a:Z) - L)*n)) (by exact cf) V)) ?_
     rfl
    ·refine M (nN (x:= .bool aI) (by exact aT (fun b=>O (PV.bool b)) g) V) ?_;rfl
   refine wpAny_mono (nM bD a4 c _ _ _ Y as a8 K aw aB u ax) (fun cb cg o=> ?_) fun J J x=>x;obtain⟨aa,az,b0,ay,cc,cd,rfl,T⟩:=o
   have ch:b0=none:=by
    cases b0 with
    |none=>rfl|some p=>exact absurd T.Mi (by intro z;cases z)
   subst ch;have ci:=I.mono ay
   have one:∀(l m:aA),(l=L∧m=a)∨(l=a∧m=R)→∀(p q:bG) (args:aD Expr) (ab:Es),eK (bP 12).scope ql ab args=aF→args≠[]→
     gB bJ {loc:=[O (.int L),O (.int R),O (.int (a:Z)),O (.int (((a:Z) - L)*n)),O (.lst (f.map .int)),O (.int (n:Z))]} ab=O [.int (l:Z),.int (m:Z)]→
     ∀(y:PK) (F:aM) (ae:aJ→aM→Prop),PK.le aa y→Fm c y az aB F→(∀B G r,PK.le y B→Fm c B az aB G→ae (.int (pack n (seg f l m)) r) G)→
     aN (aO pg w) (A.deeper c.env) (eval (.Call (.Name "inner" p) args [] q) c.env) ae (fun J J=>bO) F:=by
    intro l m cj p q args ab ck cl cm y F ae H af cn;have P:=ci.mono H;refine aQ P.ki fun c' au av=>vz Y af (T.L.mono H) .none (by decide) (.inl (by refine M g ?_;rfl)) (by refine M g ?_;exact P.li) au av P.fn P.data ck cl cm fun B dh G U W co ah=> ?_;(refine cS ah.two ?_;rintro v di rfl cp cq);obtain⟨cr,rfl⟩:=cp.int_inv;obtain⟨b1,rfl⟩:=cq.int_inv;have ai:=W.kn;rw[a6] at ai;refine wpAny_mono (bd D l m cj (A.deeper c.env) B G cr b1 ao (bZ _) (bZ _) (by rw[g] at ai;exact ai) (P.mono U)) (fun v aj ⟨⟨r,a5⟩,st⟩=> ?_) fun J J x=>x;subst a5;exact cn B aj r U (W.yG st).1
   refine wpAny_execs_cons (nv (wpAny_BinOp (wpAny_BinOp (one a R (.inr ⟨rfl,rfl⟩) be bf bi _ bm bp V aa cg _ (.refl aa) T.F fun y F b1 H af=> ?_))));refine(((cY (P:=bJ) Y (.nm 3) bj bn).1 (.int (((a:Z) - L)*n)) V) y F af (T.L.mono H) .none).then fun B dj G U W co ah=> ?_
   have b2:=Ls n (seg f a R) (fun d Q=>b4 d (A9 (Ba Q)));have cs:(seg f a R).length=R - a:=Lu C;have ct:gW (pack n (seg f a R))≤n*(R - a):=by refine aS cs ?_;exact intBits_le b2.1 b2.2
   have cu:n*(R - a)≤10000*1000:=xx X (aL (l7 _ _) (aL C a0));have cv:n*(a - L)≤10000*1000:=xx X (aL (l7 _ _) (aL (fE E.2) (aL C a0)))
   have a':((a:Z) - L)*n=((n*(a - L):aA):Z):=
    M (Bb ..) (M (hA ..) (M (Hl (by exact fE E.1)) V))
   have cw:dC .LShift (.int (pack n (seg f a R))) (.int (((a:Z) - L)*n))=O (.int (pack n (seg f a R)*2^(n*(a - L)))):=by show aZ _ _=_;exact M a' (M (bB (HR ct cu cv)) (M (oF ..) V))
   refine(sM cw W .int ah Y.hh).then fun cx dk aj cy cz dm d0=> ?_
   obtain⟨dn,rfl⟩:=d0.int_inv;refine one L a (.inl ⟨rfl,rfl⟩) bg bh bk _ bo bq V cx aj _ (H.trans (U.trans cy)) cz fun dp dq dr ds d3=>(sM (iF) d3 .int .int Y.hh).then fun dt du dv dw ak dx d4=> ?_
   obtain⟨d5,rfl⟩:=d4.int_inv;refine⟨⟨d5,?_⟩,⟨fun b o e=>ak.cT b o (by refine M a6 ?_;exact fun J h=>(cO h).elim) (by refine M g ?_;exact e),ak.os.trans (M g V),o0 (by exact M g V) ak.gens⟩⟩;exact M (W0 (L:=L) (m:=a) (R:=R) (fE E.1) (fE E.2)) (M (Lr ..) (M (Lu (fE (bL E.2 C))) (M (mP ..) (M (hA (2^(n*(a - L))) ..) V))))
theorem W5(W:Wd w mg mb h₀)(hn:n≤10000)(hl:ds.length≤1000)(Ly:∀d∈ds,0≤d∧d < 2^n):∀(k L R:aA),L < R→R≤ds.length→R - L≤2^k→∀(A:bX) (K:PK) (s:aM) (t u:gX),
  A.handled=aB→A.depth+k+1 < 900→A.units+10*(k+1) < 9000→Kn mg mb h₀ [] K s→rp w K f n ds fo ke cv tB doc pm ci cd cn→
  aN (aO pg w) A (call (.ref f) [.int (L:Z) t,.int (R:Z) u]) (fun v s'=>(∃t',v= .int (pack n (seg ds L R)) t')∧Still w s s') (fun J J=>bO) s:=by
 intro k
 induction k with
 |zero=>
  intro L R h1 h2 h3 A K s t u hh hd hu N I;refine Lx W hn hl Ly L R ((L+R) / 2) h1 h2 V A K s t u 0 hh hd hu N I fun h=>absurd h (by simp at h3;lia)
 |succ k ih=>
  intro L R h1 h2 h3 A K s t u hh hd hu N I;refine Lx W hn hl Ly L R ((L+R) / 2) h1 h2 V A K s t u (k+1) hh hd hu N I fun h L' R' W6 A' K' s' t' u' Lz oP LA N' I'=> ?_;rw[RO] at h3;rcases W6 with⟨rfl,rfl⟩ |⟨rfl,rfl⟩
  ·exact ih _ _ (HI h1 h) (HJ h1 h h2) (HK h3) A' K' s' t' u' Lz (xJ hd oP) (xK hu LA) N' I'
  ·exact ih _ _ (Bs h1 h) h2 (HL h3) A' K' s' t' u' Lz (xJ hd oP) (xK hu LA) N' I'
end
end
section
noncomputable def yH:Tb:=[(aH "digits",aI),(aH "n",aI)]
theorem W7:jc (aK 12).scope yH=true:=by decide+kernel
inductive LB:Prop
 |mk (p0 p1 p2 p3 p4 p5 a e3:_) (h1:(aK 12).body=[.FunctionDef (bP 12).name (bP 12).params (bP 12).body [] aB [] (bP 12).scope aB (bP 12).name p0,.Return (O (.IfExp (.Name "digits" p1) (.Call (.Name "inner" p2) a [] p3) e3 p4)) p5]) (h2:eK (aK 12).scope yH (.cons (.int 0) (.cons (.bi "len" (.cons (.nm 0) .nil)) .nil)) a=aF) (h3:a≠[]) (h4:(pg.main.body[12]?).bind oZ=O (p0,("_digits2int.<locals>.inner":Str))):LB
theorem W8:LB:=
 ⟨_,_,_,_,_,_,_,_,rfl,by decide+kernel,(by intro e;cases e),by decide+kernel⟩
theorem W9(h:a.cells=[(("inner":Str),b),(("n":Str),c),(("digits":Str),d)]):oA (bP 12).scope a=pure [(("n":Str),c),(("inner":Str),b),(("digits":Str),d)] :=by obtain⟨e,lo,g,i,q,f,j,k,l⟩:=a;simp only at h;subst h;rfl
section
theorem W'{w:aV}{I mb:Str→aG aJ}{h₀:bF}{T:aD Tab}{n:aA}{d:aD Z}(W:Wd w I mb h₀)(a4:jX I h₀ T)(b4:n≤10000)(D:d.length≤1000)(b5:d≠[])(b6:∀a5∈d,0≤a5∧a5 < 2^n):Ct w I mb h₀ T 15 "_digits2int" [.lst (d.map .int),.int (n:Z)] (.int (pack n d)):=by
 obtain⟨t,a6,a,o,de,L,df,b7,a7,a8,b8,b9,a9⟩:=a4.at_ 12 (by decide);refine⟨a,o,_,b7,a7,a8,?_⟩;obtain⟨b',ba,dg,dh,di,dj,dk,dm,bc,bd,be,bf⟩:=W8;rw[bf] at a9
 obtain⟨bg,a'⟩:t.pos=b'∧t.q="_digits2int.<locals>.inner":=by have:=cA a9;exact⟨(aT RP this).symm,(aT RQ this).symm⟩
 intro A K s bh aa N ab ae af bi bj bk bl bm
 obtain⟨v,u,rfl,ah,ai⟩:∃v u,bh=[v,u]∧RV w K aB v (.lst (d.map .int))∧RV w K aB u (.int (n:Z)):=by cases bm with |cons bn bo=>cases bo with |cons bp P=>cases P;exact⟨_,_,rfl,bn,bp⟩
 have aj:∀b o,h₀.get? b=O o→s.heap.get? b=O o:=fun b o e=>af _ _ (ae b o e);refine cell_call (binds:=[("digits",v),("n",u)]) (pO (bL N (by decide))) (aj _ _ a7) a8 (b8.keeps aj) V ?_ (by decide) V rfl rfl ae af bi bj bk bl (fun c dn ak g bq X Q dp=> ?_)
 ·intro x al;simp only[gz,cO,or_false] at al;rcases al with rfl |rfl<;>exact .inr ⟨rfl,rfl⟩
 ·have X:xv _ [(("inner":Str),s.heap.objs.size+1+1+1),(("n":Str),s.heap.objs.size+1+1),(("digits":Str),s.heap.objs.size+1)] ak:=X;obtain⟨m,f,h,br,j,k,rfl,R,bs,am,an,bt,bu,ao⟩:yF _ _ _ aB (O u) (O v) (qQ (s.heap.objs.size+1) (aK 12).scope.names []) ak:=Lp X;refine dW (Q (m,br) (.head _)) fun bv bw bx bz=>dW (Q (f,j) (.tail _ (.head _))) fun c0 c1 c2 c3=>dW (Q (h,k) (.tail _ (.tail _ (.head _)))) fun c4 c5 c6 c7=> ?_;have y:c.hE=s.heap:=M g V;have E:c.T=T:=M g V;have c8:c.fH=K:=M g V;obtain⟨c9,c'⟩:=bq.known c7 c5 (by intro z;cases z) (by refine M y ?_;exact c6) c4;obtain⟨ca,ap⟩:=c'.known (ci:=f) (oc:=j) (by show PK.put K h k f=aB;unfold PK.put;refine M (aP ao) ?_;exact c3) c1 (by intro z;cases z) (by refine M y ?_;exact c2) c0;have aq:PK.le K ((K.put h k).put f j):=c9.trans ca;have S:((K.put h k).put f j) h=O k:=by unfold PK.put;exact M (aP (Ne.symm ao)) (M (aR V) V)
  have U:((K.put h k).put f j) f=O j:=PK.jo;have ar:((K.put h k).put f j) m=none:=by unfold PK.put;refine M (aP bt) (M (aP bu) ?_);exact bz
  generalize dq:(K.put h k).put f j=KK at ap aq S U ar;have l:c.env=ny (aK 12).name (aK 12).scope s.heap.objs.size a (.ref L):=M g V;have cb:oA (bP 12).scope c.env=pure [(("n":Str),f),(("inner":Str),m),(("digits":Str),h)] :=W9 (by refine M l ?_;exact R);show aN _ _ (eH (aK 12).body c.env) _ _ _
  refine M bc <|wpAny_execs_cons (CY (mu:=aB) (t:=t) ap (by refine M E ?_;exact a6) (by refine M E ?_;exact fun as cc Y cd=>a4.apart t a6 as cc Y cd) (cc:=L) (by refine M l ?_;rfl) (by refine M g ?_;exact b9) (by refine M l ?_;rfl) (by refine M g ?_;exact W.bmain) bg
   (by refine M l (M a' ?_);rfl) cb V rfl rfl (by decide+kernel) (by refine M l ?_;rfl) (by refine M l ?_;rfl) (ci:=m) (by refine M l ?_;show(qQ _ _ []).lookup _=_;refine M R ?_;rfl) ar bw (by intro z;cases z) (by refine M y ?_;exact bx) bv bs fun F ce cf cg ch ci cj ck B cl dr cm au av aw ds=> ?_)
  (refine aQ aw ?_;clear aw;rintro dt cn co);rw[a'] at au av;have C:PK.le K F:=aq.trans B
  have ax:Hyp w (A.deeper c.env) c (aK 12).scope yH bJ 0:=by refine⟨aa,by show A.depth+1+0 < 900;exact ko (pO (bL N (by decide))),by show A.units+3+10*0 < 9000;exact ko (bL (mf (by decide) _) (jy ab)),?_,W.m0 fV (fun J J J cp=>by cases cp) c (M g V) (M g V) (M g V) V⟩;exact M g <|⟨rfl,W7,rfl,rfl⟩
  have a0:c.env.cells=[(("inner":Str),m),(("n":Str),f),(("digits":Str),h)] :=by refine M l ?_;exact R
  have ay:RL w F c.env aB yH (A3 (ny (aK 12).name (aK 12).scope s.heap.objs.size a (.ref L)).kindOf [("digits",v),("n",u)] fun J=>aB) [O (.lst (d.map .int)),O (.int (n:Z))] :=by
   intro i x du dv q p
   match i,q,p with
   |0,q,p=>
    cases q;cases p;exact⟨h,k,v,by refine M a0 ?_;rfl,B _ _ S,an,ah.mono C⟩
   |1,q,p=>
    cases q;cases p;exact⟨f,j,u,by refine M a0 ?_;rfl,B _ _ U,am,ai.mono C⟩
   |i+2,q,p=>simp at p
  have cq:rp w F cf n d cg [(("n":Str),f),(("inner":Str),m),(("digits":Str),h)] ch ci cj ck m h f:=
   ⟨cm,au,av,rfl,rfl,rfl,⟨_,cn,co⟩,⟨k,v,B _ _ S,an,ah.mono C⟩,⟨j,u,B _ _ U,am,ai.mono C⟩⟩
  refine wpAny_execs_cons (nv (wpAny_IfExp ?_));refine RS (whole:=eval (.Name "digits" ba) c.env) ?_ V;refine((B2 (σ:={loc:=[O (.lst (d.map .int)),O (.int (n:Z))]}) (i:=0) (x:="digits") ax.H (by decide+kernel) V) F ce cl ay .none).then fun cr e0 G a1 az e5 P=> ?_
  (refine il P.lst_inv ?_;rintro e7 cs a2 ct rfl cu cv cw cx);have a3:a2.size=d.length:=by have:=cx.length;simpa using this
  have cy:0 < d.length:=by cases d with |nil=>exact absurd rfl b5 |cons=>simp
  refine wpAny_truthy_list ⟨cs,az.keep _ _ cu,cv,ct,cw⟩ (by refine M a3 ?_;exact iV (cV.mpr D) (by decide)) ?_
  have cz:(!a2.isEmpty)=true:=by
   have:a2≠ #[] :=by intro z;rw[z] at a3;simp at a3;lia
   simpa using this
  refine M (aR cz) ?_;have d0:Fm c cr _ aB {G with toks:=G.toks+1+1}:=az.tok;have H:=cq.mono a1;refine aQ H.ki fun e8 d3 d4=> ?_
  have Y:oQ aB "len" [.lst (d.map .int)] =O (.int d.length):=by show aZ _ _=_;exact M (bB (by refine M (bQ ..) (M cN ?_);exact aL D (by decide))) (M (bQ ..) V)
  refine vz (s:={G with toks:=G.toks+1+1}) (σ:={loc:=[O (.lst (d.map .int)),O (.int (n:Z))]}) (xs:=[.int 0,.int d.length]) ax d0 (ay.mono a1) .none (by decide) (.inr (by refine M l ?_;rfl)) (by refine M a0 ?_;rfl) d3 d4 H.fn H.data bd be (bW V (bW Y ir)) fun b0 e9 d5 b1 b2 e' d6=> ?_;(refine cS d6.two ?_;rintro ea eb rfl d7 d8);obtain⟨d9,rfl⟩:=d7.int_inv;obtain⟨d',rfl⟩:=d8.int_inv;have b3:=b2.kn.nil;rw[g] at b3;have da:d.length - 0≤2^10:=by simp;exact aL D (by decide)
  refine wpAny_mono (W5 W b4 D b6 10 0 d.length cy (bZ _) da (A.deeper c.env) b0 d5 d9 d' aa (by show A.depth+1+10+1 < 900;exact kt (kt (kt N))) (by show A.units+3+10*(10+1) < 9000;exact ko (bL (mf (by decide) _) (jy ab))) b3 (H.mono b1)) (fun ec ed ⟨⟨as,db⟩,st⟩=> ?_) fun J J x=>x;subst db;obtain⟨r,_⟩:=b2.yG st;have dc:seg d 0 d.length=d:=by unfold seg;simp
  refine⟨b0,C.trans (a1.trans b1),r.keep,fun b o e=> ?_,fun b o dd e=>r.cT b o (by refine M E ?_;exact dd) (by refine M y ?_;exact e),by refine M dc ?_;exact .int,r.os.trans (M g V),o0 (by exact M g V) r.gens,by refine aS E ?_;exact r.tabs⟩;have:=r.new b o e;rw[c8,y] at this;exact this
end
end
section
noncomputable def fW(n:aA):aA→Z→aD Z
 |0,_=>[]|k+1,x=>x % 2^n::fW n k (x / 2^n)
theorem vB{n k:aA}{x:Z}:fW n (k+1) x=x % 2^n::fW n k (x / 2^n):=rfl
theorem C2{n:aA}{x:Z}:fW n 0 x=[] :=rfl
theorem tC(n:aA):∀k x,(fW n k x).length=k
 |0,_=>rfl|k+1,x=>by simp[vB,tC n k]
theorem LC(n:aA):∀k x,∀d∈fW n k x,0≤d∧d < 2^n
 |0,_,d,h=>by cases h
 |k+1,x,d,h=>by
  have a:(0:Z) < 2^n:=jj (by decide);rcases gz.mp h with rfl |h
  ·exact⟨eD _ (fB a),gJ _ a⟩
  ·exact LC n k _ d h
theorem LD(n:aA):∀k (x:Z),0≤x→x < 2^(n*k)→pack n (fW n k x)=x
 |0,x,b,a=>by simp at a;simp[C2,vA];exact RB b (Int.le_of_lt_add_one (dM a (by decide)))
 |k+1,x,b,a=>by
  have c:(0:Z) < 2^n:=jj (by decide)
  have d:x / 2^n < 2^(n*k):=by rw[r6,A5,qR] at a;exact uF c a
  (rewrite[vB,tA];refine M (LD n k _ (kQ b (cJ c)) d) ?_)
  have:=aft x (2^n);exact this
theorem LF(x a b:Z)(c:0 < a)(h:0 < b):(x % (a*b)) / a=(x / a) % b:=by
 have i:x=a*(x / a)+x % a:=(nA x a).symm;have d:x / (a*b)=(x / a) / b:=(Bc (cJ c)).symm;have e:x % (a*b)=x - (a*b)*(x / (a*b)):=by have:=nA x (a*b);exact afu _ _
 have f:(x / a) % b=x / a - b*((x / a) / b):=by have:=nA (x / a) b;exact afu _ _
 have g:x % (a*b)=x % a+a*((x / a) % b):=by refine M e (M d (M f (M (afv ..) (M (lL ..) ?_))));lia
 refine M g (M (xy _ _ (fB c)) (M (RT (eD _ (fB c)) (gJ _ c)) ?_));exact sr _
theorem LG(n:aA):∀(a b:aA) (x:Z),0≤x→fW n (a+b) x=fW n a (x % 2^(n*a))++fW n b (x / 2^(n*a))
 |0,b,x,_=>by simp[C2]
 |a+1,b,x,d=>by
  have c:(0:Z) < 2^n:=jj (by decide);have e:(0:Z) < 2^(n*a):=jj (by decide);have f:(2:Z) ^(n*(a+1))=2^n*2^(n*a):=M (r6 ..) (M (A5 ..) (M (qR ..) (M (hA ..) V)));(refine M (on _ _ _:a+1+b=(a+b)+1) ?_;rewrite[vB,vB];refine M qP (M (LG n a b _ (kQ d (cJ c))) (M f ?_)))
  congr 1
  ·exact M (Int.emod_emod_of_dvd _ ⟨_,rfl⟩) V
  ·congr 1
   ·exact M (LF _ _ _ c e) V
   ·exact M (Bc (cJ c)) V
theorem LH(a b:aA):qG (a:Z) (b:Z)=((a &&& b:aA):Z):=by unfold qG;refine M (fM (cW _:(0:Z)≤a)) (M (fM (cW _:(0:Z)≤b)) ?_);simp
theorem LI(a b:aA):Gi (a:Z) (b:Z)=((a |||b:aA):Z):=by unfold Gi qG aew;refine M (eO (Bu _:¬(0:Z)≤ -(a:Z) - 1)) (M (eO (Bu _:¬(0:Z)≤ -(b:Z) - 1)) ?_);dsimp only;have e1:(-(-(a:Z) - 1) - 1).toNat=a:=HT _;have e2:(-(-(b:Z) - 1) - 1).toNat=b:=HT _;refine M e1 (M e2 ?_);exact HS _
theorem Xa(x s:aA):x &&& (x / 2^s*2^s)=x / 2^s*2^s∧x |||(x / 2^s*2^s)=x:=by
 have e:x / 2^s*2^s=(x >>>s) <<< s:=M (Nat.shiftLeft_eq ..) (M (Nat.shiftRight_eq_div_pow ..) V);refine M e ?_
 constructor
 ·apply afw;intro i;refine M (Nat.testBit_and ..) (M (afx ..) (M (afy ..) ?_))
  by_cases h:s≤i
  ·simp[h,show s+(i - s)=i by exact r3 h]
  ·simp[h]
 ·apply afw;intro i;refine M (Nat.testBit_or ..) (M (afx ..) (M (afy ..) ?_))
  by_cases h:s≤i
  ·simp[h,show s+(i - s)=i by exact r3 h]
  ·simp[h]
theorem Xb(s:aA)(h:0≤x):AB x (x / 2^s*2^s)=x % 2^s:=by
 obtain⟨n,rfl⟩:∃n:aA,x=n:=⟨x.toNat,by exact Eq.symm (kr h)⟩;have e:((n:Z) / 2^s*2^s)=((n / 2^s*2^s:aA):Z):=rfl;refine M e <|xa (Xa n s) fun a b=> ?_
 have c:AB (n:Z) ((n / 2^s*2^s:aA):Z)=((n |||(n / 2^s*2^s):aA):Z) - ((n &&& (n / 2^s*2^s):aA):Z):=by unfold AB;exact M (LI ..) (M (LH ..) V)
 refine M c (M a (M b ?_));have:=afz n (2^s);have d:((n:Z) % 2^s)=((n % 2^s:aA):Z):=rfl;have f:n / 2^s*2^s=2^s*(n / 2^s):=Hm _ _;lia
noncomputable def kD(a:aD Z)(L:aA)(b:aD Z):aD Int:=a.take L++b++a.drop (L+b.length)
theorem Xc(h:L+b.length≤a.length):(kD a L b).length=a.length:=by unfold kD;simp;exact SW h
theorem Xd(h:L < a.length):kD a L [d] =a.set L d:=by unfold kD;refine M List.set_eq_take_append_cons_drop (M (aR h) ?_);simp
theorem Xe(h:L+a.length≤ys.length):kD (kD ys L a) (L+a.length) b=kD ys L (a++b):=by
 unfold kD
 have c:(ys.take L++a++ys.drop (L+a.length)).take (L+a.length)=ys.take L++a:=
  M (afA (by simp;exact SY h)) (M (mG (by simp;exact Nat.min_le_left _ _)) V)
 have d:(ys.take L++a++ys.drop (L+a.length)).drop (L+a.length+b.length)=ys.drop (L+(a++b).length):=by
  refine M List.drop_append (M (AS (by simp;exact SX h)) (M (qO ..) (M Hj ?_)))
  congr 1
  simp;exact SV h
 refine M c (M d ?_);simp[eZ]
noncomputable def lV:Tb:=[(aH "x",aF),(aH "L",aF),(aH "R",aF),(aH "mid",aF),(aH "shift",aF),(aH "upper",aF),(aH "lower",aF),(aH "n",aI)]
noncomputable def bI:B:= .cons (.asg 3 (.bin .RShift (.bin .Add (.nm 1) (.nm 2)) (.int 1))) (.cons (.asg 4 (.bin .Mult (.bin .Sub (.nm 3) (.nm 1)) (.nm 7)))
 (.cons (.asg 5 (.bin .RShift (.nm 0) (.nm 4))) (.cons (.asg 6 (.bin .BitXor (.nm 0) (.bin .LShift (.nm 5) (.nm 4)))) .nil)))
theorem LJ:jc (bP 11).scope lV=true:=by decide+kernel
theorem Xf:∀x∈(bP 11).scope.names,x.2≠ .cell:=by decide
inductive LK:Prop
 |mk (t p1 p2 p3 p4 p5 p6 p7 p8 e1 e2 l a1 a2 q1 q2 q3:_) (h1:(bP 11).body= .If t [.Assign [.Subscript (.Name "a_digits" p1) e1 p2] e2 p3,.Return aB p4] [] p5::(l++[.Expr (.Call (.Name "inner" p6) a1 [] p7) p8,.Expr (.Call (.Name "inner" q1) a2 [] q2) q3])) (h2:bC (bP 11).scope lV (.cmp .Eq (.bin .Add (.nm 1) (.int 1)) (.nm 2)) t=aF) (h3:bC (bP 11).scope lV (.nm 1) e1=aF) (h4:bC (bP 11).scope lV (.nm 0) e2=aF) (h5:dX (bP 11).scope lV bI l=aF) (h6:eK (bP 11).scope lV (.cons (.nm 6) (.cons (.nm 1) (.cons (.nm 3) .nil))) a1=aF) (h7:eK (bP 11).scope lV (.cons (.nm 5) (.cons (.nm 3) (.cons (.nm 2) .nil))) a2=aF) (h8:a1≠[]) (h9:a2≠[]):LK
theorem Xg:LK:=
 ⟨_,_,_,_,_,_,_,_,_,_,_,((bP 11).body.drop 1).take 4,_,_,_,_,_,rfl,by decide+kernel,by decide+kernel,by decide+kernel,by decide+kernel,by decide+kernel,by decide+kernel,(by intro e;cases e),(by intro e;cases e)⟩
structure rq(w:aV)(K:PK)(f D:aW)(n:aA)(fo:Obj)(ke:aD (Str×aW))(cv tB doc pm:aJ)(ci ca cn:aW):Prop where
 fn:K f=O fo
 data:fo.data= .func (oB (bP 11).name "_int2digits.<locals>.inner" (bP 11).params (bP 11).body (bP 11).scope ke .none .none doc pm aB cv tB)
 code:mW K cv "_int2digits.<locals>.inner"
 li:ke.lookup ("inner":Str)=O ci
 la:ke.lookup ("a_digits":Str)=O ca
 ln:ke.lookup ("n":Str)=O cn
 ki:∃o,K ci=O o∧o.data= .cell (O (.ref f))
 ka:∃o,K ca=O o∧o.data= .cell (O (.ref D))
 kn:∃o v,K cn=O o∧o.data= .cell (O v)∧RV w K aB v (.int (n:Z))
theorem rq.mono{K:PK} {f D n c d e g i j k l m} (x:rq w K f D n c d e g i j k l m)(h:PK.le K p):rq w p f D n c d e g i j k l m:=
 ⟨h _ _ x.fn,x.data,x.code.mono h,x.li,x.la,x.ln,(aQ x.ki fun o a b=>⟨o,h _ _ a,b⟩),(aQ x.ka fun o a b=>⟨o,h _ _ a,b⟩),(cS x.kn fun o v a b r=>⟨o,v,h _ _ a,b,r.mono h⟩)⟩
theorem Xh {a b c d e}:
  Hh s (oB (bP 11).name f (bP 11).params (bP 11).body (bP 11).scope a .none .none b c aB d e) ⟨[v,u,z],[]⟩ ((["x","L","R"] :aD Str).zip [v,u,z]):= .of_eq V
noncomputable def C3(D:aW)(d:aD Z)(s a:aM):Prop:=(∀b o,b≠D→s.heap.get? b=O o→a.heap.get? b=O o)∧(∃c:aD aJ,a.heap.IsList D c.toArray∧iY c d)∧a.os=s.os∧iQ s.gens a.gens
theorem ints_set(h:iY a b):∀(j:aA) (x:Z) (t:gX),iY (a.set j (.int x t)) (b.set j x):=by
 induction h with
 |nil=>exact fun J J J=> .nil
 |cons n t h ih=>
  intro j x u;cases j with
  |zero=>exact .cons x u h|succ j=>exact .cons n t (ih j x u)
theorem Fm.wrote{K:PK}(F:Fm c K m a s)(d:K D=aB)(e:D≠c.env.locals)(f:a.ad≠O D)(g:c.hE.get? D=aB)(h:∀b o,b≠D→s.heap.get? b=O o→s'.heap.get? b=O o)(i:s'.os=s.os)(j:iQ c.io s'.gens):Fm c K m a s':=by
 have k:=F.other (h':=s'.heap) (tk:=s'.toks) d e f g h
 exact{k with gens:=j,os:=i.trans F.os}
section
theorem LL(cj:Wd w bq mb h₀)(am:n≤10000)(x:Z)(L R a:aA)(v:aD Z)(B:aD aJ)(an:v.length≤1000)(ao:L < R)(Q:R≤v.length)(a7:a=(L+R) / 2)(S:0≤x∧x < 2^(n*(R - L)))(A:bX)(K:PK)(s:aM)(t b7 z:gX)(e:aA)
  (br:A.handled=aB) (bs:A.depth+e+1 < 900) (ck:A.units+10*(e+1) < 9000) (N:Kn bq mb h₀ [] K s) (I:rq w K b8 D n cl cm cn co cp cq cr bt bu) (cs:K D=aB) (ap:s.heap.IsList D B.toArray) (b9:iY B v)
  (ct:L+1≠R→∀(m:Z) (k p:aA) (F:aD Z) (T:aD aJ),(k=L∧p=a)∨(k=a∧p=R)→0≤m∧m < 2^(n*(p - k))→F.length=v.length→∀(aq:bX) (C:PK) (H:aM) (t b7 z:gX),aq.handled=aB→aq.depth≤A.depth+1→aq.units≤A.units+3→
   Kn bq mb h₀ [] C H→rq w C b8 D n cl cm cn co cp cq cr bt bu→C D=aB→H.heap.IsList D T.toArray→iY T F→
   aN (aO pg w) aq (call (.ref b8) [.int m t,.int (k:Z) b7,.int (p:Z) z]) (fun ar X=>ar= .none∧C3 D (kD F k (fW n (p - k) m)) H X) (fun J J=>bO) H):
  aN (aO pg w) A (call (.ref b8) [.int x t,.int (L:Z) b7,.int (R:Z) z]) (fun ar H=>ar= .none∧C3 D (kD v L (fW n (R - L) x)) s H) (fun J J=>bO) s:=by
 obtain⟨bv,fd,fe,ff,fg,fh,cu,cv,fi,as,au,av,cw,cx,cy,cz,fj,d0,bw,d3,bx,d4,d5,d6,d7,d8⟩:=Xg;obtain⟨d9,d',da,db,dc,dd,de,df⟩:=I.code;refine aQ I.ka fun fk fl fm=>cS I.kn fun dg dh di dj dk=> ?_;have dm:D < s.heap.objs.size:=by(refine aQ ap ?_;clear ap;rintro o g _);exact fA g
 refine CX (hE:=cut s.heap D) (tb:=lV) (k:=3) (xs:=[.int x,.int L,.int R]) (rest:=[aB,aB,aB,aB,O (.int (n:Z))]) (ps:=["x","L","R"]) (cC (hO _ _) (kt bs)) (N.keep _ _ I.fn) I.data ⟨d9,d',da,db,dc,N.keep _ _ dd,de,df⟩ V Xh V rfl rfl Xf LJ (by decide) V
  N.low N.keep N.base N.gens N.dO N.tabs (fun b o q=> ?_) (fun fn dn=>((cO dn).elim)) (.cons .int (.cons .int (.cons .int .nil))) V ?_ ?_ (fun c bz H l G dp fo=> ?_)
 ·by_cases c0:b=D
  ·(replace q:=c0▸q;replace q:=sZ▸q);cases q
  ·replace q:=(oV c0)▸q;exact q
 ·intro i m a8 f d
  match i,f,d with
  |4,f,d=>
   cases f;cases d;exact⟨bu,dg,dh,I.ln,di,dj,dk⟩
  |0,f,d=>cases f|1,f,d=>cases f|2,f,d=>cases f|3,f,d=>cases f|i+5,f,d=>cases d
 ·intro i m a8 f d
  match i,f,d with
  |0,f,d=>cases d|1,f,d=>cases d|2,f,d=>cases d|3,f,d=>cases d|4,f,d=>cases f|i+5,f,d=>cases d
 ·have Y:Hyp w (A.deeper c.env) c (bP 11).scope lV bJ 0:=by refine⟨br,by show A.depth+1+0 < 900;exact SN bs,by show A.units+3+10*0 < 9000;exact HO ck,?_,cj.m0 fV (fun J J J h=>by cases h) c (M l V) (M l V) (M l V) V⟩;exact M l <|⟨rfl,LJ,rfl,rfl⟩
  have c1:c.T=[] :=M l V;have c2:c.hE=cut s.heap D:=M l V;have dq:c.hE.get? D=none:=by refine M c2 ?_;exact sZ
  have b':D≠c.env.locals:=by refine M l ?_;exact fG dm
  have c3:∀b,Off c.T b:=fun b=>by refine M c1 ?_;exact fun J h=>(cO h).elim
  have c4:∀{C:PK} {aw:Str→aG aJ} {dr:Mu} {X:aM},Fm c C aw dr X→∀b o,b≠D→s.heap.get? b=O o→X.heap.get? b=O o:=fun ba b o ax q=>ba.cT b o (c3 b) (by refine M c2 (M (oV ax) ?_);exact q);have a0:∀{U a1:aM} {B:aD aJ},U.heap.IsList D B.toArray→KB c aB U.heap a1.heap→a1.heap.IsList D B.toArray:=fun⟨o,g,r⟩ b=>⟨o,b D o g b' (by intro z;cases z) (c3 D),r⟩;have bc:H.heap.IsList D B.toArray:=by(refine aQ ap ?_;clear ap;rintro o g r);exact⟨o,dp _ _ g,r⟩
  refine(M d0 ?_:aN _ _ (eH (bP 11).body c.env) _ _ _)
  by_cases P:L+1=R
  ·have bd:((L:Z)+1==(R:Z))=true:=by refine iO me ?_;exact xL P
   refine wpAny_execs_cons (mL (((cY (P:=bJ) Y _ bv bw).2 aF (by exact aT O bd)).then G.F G.L G.Mi fun a2 U a3 be ay=> ?_));have a9:=G.of a3 be;have az:=a0 bc ay;refine wpAny_execs_cons (Rz (((cY (P:=bJ) Y _ au bx).ev (x:= .int x) V a9).then fun b0 b1 a1 a' b2 b3 bf=> ?_) (qg bx _ _ _));obtain⟨aa,rfl⟩:=bf.int_inv;have c5:=I.mono (a3.trans a');refine aQ c5.ka fun ds dt du=>pF (GG Y.H.kind (by refine M l ?_;rfl) (c:=bt) (by refine M l ?_;exact c5.la) ⟨ds,b2.keep _ _ dt,du⟩ ?_) (by decide);refine((cY (P:=bJ) Y _ as d3).ev (x:= .int (L:Z)) V (a9.of a' b2)).then fun u b4 E a4 W b5 ab=> ?_
   obtain⟨c6,rfl⟩:=ab.int_inv;have ae:=a0 (a0 az b3) b5;have dv:B.length=v.length:=b9.length;refine aeV ae (cW _) (SS an Q P) (by refine M kO ?_;exact SU Q P dv) fun fp c7 dw=> ?_;refine wpAny_execs_cons (wpAny_Return_none ?_);have e:B.toArray.setIfInBounds ((L:Z).toNat) (dU x aa)=(B.set L (dU x aa)).toArray:=by simp
   rw[e] at c7;refine⟨rfl,fun b o ax q=>(dw.2 b ax).trans (c4 W b o ax q),⟨_,c7,?_⟩,W.os.trans (M l V),o0 (by exact M l V) W.gens⟩
   have dx:fW n (R - L) x=[x] :=by rw[show R - L=1 by exact SR P] at S ⊢;simp only[vB,C2,Gq,and_true];rw[A5] at S;exact Int.emod_eq_of_lt S.1 S.2
   refine M dx (M (Xd (bL ao Q)) ?_);exact ints_set b9 L x aa
  ·have bd:((L:Z)+1==(R:Z))=false:=by refine iO Hd ?_;exact HP P
   have a5:L < a∧a < R:=sE ao a7 P;have fq:n*(R - L)≤10000*1000:=xx am (aL (l7 _ _) (aL Q an));have dy:n*(a - L)≤10000*1000:=xx am (SM an Q a7)
   have c8:((a:Z) - L)*n=((n*(a - L):aA):Z):=
    M (Bb ..) (M (hA ..) (M (Hl (by exact fE a5.1)) V))
   have af:(0:Z) < 2^(n*(a - L)):=jj (by decide);have c9:0≤x / 2^(n*(a - L)):=kQ S.1 (cJ af)
   have c':x / 2^(n*(a - L)) < 2^(n*(R - a)):=by refine uF af ?_;refine aS (qR ..) (aS (r6 ..) (M (Hi (fE a5.2) (fE a5.1):R - a+(a - L)=R - L) ?_));exact S.2
   have dz:gW (x / 2^(n*(a - L)))≤n*(R - a):=intBits_le c9 c';have e0:n*(R - a)≤10000*1000:=xx am (aL (l7 _ _) (aL Q an));have bg:∀(j:PK) (h:bF),Hyp w (A.deeper c.env) (c.here j aB h) (bP 11).scope lV bJ 0:=fun j h=>⟨Y.hh,Y.hd,Y.hu,⟨Y.H.1,Y.H.2,Y.H.3,Y.H.4⟩,⟨Y.S.gk,Y.S.call,Y.S.bi⟩⟩
   have bh:∀{j C:PK} {aw:Str→aG aJ} {y X:aM},Fm (c.here j aB y.heap) C aw aB X→(∃o,y.heap.get? D=O o)→j D=aB→C D=none:=fun{j C aw y X} ba ⟨o,g⟩ e7=>by
    cases e:C D with
    |none=>rfl
    |some cb=>
     rcases ba.new D cb e with z |z
     ·have z:j D=O cb:=z;replace z:=e7▸z;cases z
     ·(rewrite[rg b' (by intro z;cases z)] at z;replace z:=g▸z);cases z
   have bi:∀{h:bF} {av:eW aJ},h.IsList D av→∃o,h.get? D=O o:=fun⟨o,g,_⟩=>⟨o,g⟩;refine wpAny_execs_cons (mL (((cY (P:=bJ) (bg K H.heap) _ bv bw).2 aI (by exact aT O bd)).then G.here.F G.L G.Mi fun a2 U a3 cc ay=> ?_));refine wpAny_execs_nil ?_;have e8:a2 D=none:=bh cc (bi bc) cs;have be:Fm c a2 bz aB U:=G.F.back cc ay;have a9:=G.of a3 be;have az:=a0 bc ay
   have e9:bE bJ bI {loc:=[O (.int x),O (.int (L:Z)),O (.int (R:Z)),aB,aB,aB,aB,O (.int (n:Z))]}=O (.next,{loc:=[O (.int x),O (.int (L:Z)),O (.int (R:Z)),O (.int (a:Z)),O (.int (((a:Z) - L)*n)),O (.int (x / 2^(n*(a - L)))),O (.int (x % 2^(n*(a - L)))),O (.int (n:Z))]}):=by
    have e':dC .RShift (.int ((L:Z)+R)) (.int 1)=O (.int (a:Z)):=by
     show aZ _ _=_;refine M (bB (by decide)) ?_
     congr 2
     refine M (GY _ (by decide)) ?_;show((L:Z)+R) / 2=_;exact HQ a7
    have ea:dC .Mult (.int ((a:Z) - L)) (.int (n:Z))=O (.int (((a:Z) - L)*n)):=vo (dM (by decide) (cW _)) (dZ.mpr (cC am (by decide)))
    have eb:dC .RShift (.int x) (.int (((a:Z) - L)*n))=O (.int (x / 2^(n*(a - L)))):=by show aZ _ _=_;exact M c8 (M (bB (cW _)) (M (oF ..) (M (GY _ (cJ af)) V)))
    have ec:dC .LShift (.int (x / 2^(n*(a - L)))) (.int (((a:Z) - L)*n))=O (.int (x / 2^(n*(a - L))*2^(n*(a - L)))):=by show aZ _ _=_;exact M c8 (M (bB (HR dz e0 dy)) (M (oF ..) V))
    have ed:dC .BitXor (.int x) (.int (x / 2^(n*(a - L))*2^(n*(a - L))))=O (.int (x % 2^(n*(a - L)))):=
     (M (Xb _ S.1) V:O (PV.int (AB _ _))=_)
    unfold bI;refine M (eL (gO (x:= .int (a:Z)) (by exact e') V)) <|M (eL (gO (x:= .int (((a:Z) - L)*n)) (by exact ea) V)) ?_
    refine M (eL (gO (x:= .int (x / 2^(n*(a - L)))) (by exact eb) V)) <|M (eL (gO (x:= .int (x % 2^(n*(a - L)))) (by exact bN (x:= .int x) V (bN ec ed)) V)) ?_
    rfl
   have one:∀(m:Z) (k p:aA) (F:aD Z) (T:aD aJ),(k=L∧p=a)∨(k=a∧p=R)→0≤m∧m < 2^(n*(p - k))→F.length=v.length→∀(a8 q:bG) (args:aD Expr) (bj:Es),eK (bP 11).scope lV bj args=aF→args≠[]→
     ∀(ah:Sg),ah.mu=aB→gB bJ ah bj=O [.int m,.int (k:Z),.int (p:Z)]→
     ∀(j:PK) (a6:Str→aG aJ) (y:aM) (bk:aJ→aM→Prop),PK.le K j→j D=aB→Fm c j a6 aB y→RL w j c.env aB lV a6 ah.loc→y.heap.IsList D T.toArray→iY T F→
     (∀u E b6,PK.le j u→u D=aB→Fm c u a6 aB E→E.heap.IsList D b6.toArray→iY b6 (kD F k (fW n (p - k) m))→bk .none E)→
     aN (aO pg w) (A.deeper c.env) (eval (.Call (.Name "inner" a8) args [] q) c.env) bk (fun J J=>bO) y:=by
    intro m k p F T ee ef eg a8 q args bj eh ei ah cd ej j a6 y bk ek el ce cf cg en eo;have ep:Gd w c lV j a6 aB y ah:=⟨ce,cf,by refine M cd ?_;exact .none,fun J J J z=>by cases z⟩;have ai:=I.mono ek;refine aQ ai.ki fun g0 eq er=>vz (c:=c.here j aB y.heap) (bg j y.heap) ep.here.F cf (by refine M cd ?_;exact .none) (by decide) (.inl (by refine(M l ?_:c.env.kindOf _=_);rfl)) (by refine(M l ?_:c.env.cells.lookup _=_);exact ai.li) eq er ai.fn ai.data eh ei ej fun u es E a4 W b5 ab=> ?_;have aj:u D=none:=bh W (bi cg) el;have bl:Fm c u a6 aB E:=ce.back W b5
    obtain⟨bm,b1,b4,rfl,et,eu,ew⟩:∃bm b1 b4,es=[bm,b1,b4]∧RV w u aB bm (.int m)∧RV w u aB b1 (.int (k:Z))∧RV w u aB b4 (.int (p:Z)):=by cases ab with |cons ey r=>cases r with |cons bf r=>cases r with |cons ab r=>cases r;exact⟨_,_,_,rfl,ey,bf,ab⟩
    obtain⟨ez,rfl⟩:=et.int_inv;obtain⟨aa,rfl⟩:=eu.int_inv;obtain⟨c6,rfl⟩:=ew.int_inv;have ak:=bl.kn;replace ak:=c1▸ak;have ae:E.heap.IsList D T.toArray:=a0 cg b5;refine wpAny_mono (ct P m k p F T ee ef eg (A.deeper c.env) u E ez aa c6 br (bZ _) (bZ _) (by replace ak:=l▸ak;exact ak) (ai.mono a4) aj ae en) (fun ar ch ⟨f0,f1,⟨bn,f2,f3⟩,f4,f5⟩=> ?_) fun J J x=>x;subst f0;exact eo u ch bn a4 aj (bl.wrote aj b' (by intro z;cases z) dq f1 f4 (bl.gens.trans f5)) f2 f3
   refine tw av _ (wpAny_mono (nM bI av (c.here a2 aB U.heap) _ _ _ (bg a2 U.heap) d4 e9 a2 bz aB U a9.here) (fun g1 a1 o=> ?_) fun J J x=>x);obtain⟨b0,bo,ci,a',b3,g2,rfl,al⟩:=o
   have f6:ci=none:=by
    cases ci with
    |none=>rfl|some a8=>exact absurd al.Mi (by intro z;cases z)
   subst f6;have f7:b0 D=none:=bh al.F (bi az) e8;have b2:Fm c b0 bo aB a1:=a9.F.back al.F b3;have f8:=a0 az b3;have f9:0≤x % 2^(n*(a - L))∧x % 2^(n*(a - L)) < 2^(n*(a - L)):=⟨eD _ (fB af),gJ _ af⟩;have f':(kD v L (fW n (a - L) (x % 2^(n*(a - L))))).length=v.length:=Xc (by refine M (tC ..) ?_;exact HM ao Q a7 P);refine wpAny_execs_cons (ri Y.H V (one (x % 2^(n*(a - L))) L a v B (.inl ⟨rfl,rfl⟩) f9 V cu cv cw _ d5 d7 _ V rfl b0 bo a1 _ (a3.trans a') f7 b2 al.L f8 b9 fun u E b6 a4 aj W ae fa=> ?_));refine wpAny_execs_cons (ri Y.H V (one (x / 2^(n*(a - L))) a R _ b6 (.inr ⟨rfl,rfl⟩) ⟨c9,c'⟩ f' cy cz cx _ d6 d8 _ V rfl u bo E _ ((a3.trans a').trans a4) aj W (al.L.mono a4) ae fa fun g3 ch bn g4 g5 bp fb fc=> ?_));refine wpAny_execs_nil ⟨rfl,c4 bp,⟨bn,fb,?_⟩,bp.os.trans (M l V),o0 (by exact M l V) bp.gens⟩;have as:=LG n (a - L) (R - a) x S.1;rw[show a - L+(R - a)=R - L by exact kN (iz _ _) (Hi (fE a5.2) (fE a5.1))] at as;have au:=Xe (ys:=v) (a:=fW n (a - L) (x % 2^(n*(a - L)))) (b:=fW n (R - a) (x / 2^(n*(a - L)))) (L:=L) (by refine M (tC ..) ?_;exact HM ao Q a7 P);rw[tC,show L+(a - L)=a by exact r3 (fE a5.1)] at au;refine M as (aS au ?_);exact fc
theorem Xi(W:Wd w a3 mb h₀)(v:n≤10000):∀(k:aA) (x:Z) (L R:aA) (a:aD Z) (b:aD aJ),a.length≤1000→L < R→R≤a.length→R - L≤2^k→0≤x∧x < 2^(n*(R - L))→∀(A:bX) (K:PK) (s:aM) (t u z:gX),
  A.handled=aB→A.depth+k+1 < 900→A.units+10*(k+1) < 9000→Kn a3 mb h₀ [] K s→rq w K a4 D n a7 a8 a9 a' aa ab ae af ah→K D=aB→s.heap.IsList D b.toArray→iY b a→
  aN (aO pg w) A (call (.ref a4) [.int x t,.int (L:Z) u,.int (R:Z) z]) (fun a5 i=>a5= .none∧C3 D (kD a L (fW n (R - L) x)) s i) (fun J J=>bO) s:=by
 intro k
 induction k with
 |zero=>
  intro x L R a b d c j e l A K s t u z m f g N I o p q;refine LL W v x L R ((L+R) / 2) a b d c j V l A K s t u z 0 m f g N I o p q fun h=>absurd h (by simp at e;lia)
 |succ k ih=>
  intro x L R a b d c j e l A K s t u z m f g N I o p q;refine LL W v x L R ((L+R) / 2) a b d c j V l A K s t u z (k+1) m f g N I o p q fun h y ai aj B C a6 E r F G i H P Q S T U X Y a0 a1 a2=> ?_;rw[RO] at e;rcases a6 with⟨rfl,rfl⟩ |⟨rfl,rfl⟩
  ·exact ih y _ _ B C (aL (cM r) d) (HI c h) (SK c h j r) (HK e) E F G i H P Q S (xJ f T) (xK g U) X Y a0 a1 a2
  ·exact ih y _ _ B C (aL (cM r) d) (Bs c h) (by lia) (HL e) E F G i H P Q S (xJ f T) (xK g U) X Y a0 a1 a2
end
end
section
section
variable{w:aV}{A:bX}{c:Cx}{K:PK}{m:Str→aG aJ}{s:aM}{sc:dN}{tb:Tb}{σ:Sg}{P:bT}{n:aA}
theorem tD{a d:PK}{g:Str→aG aJ}{i:Mu}{h:bF}{j:aM}{b:aW}(F:Fm (c.here a aB h) d g i j)(k:h.get? b≠aB)(l:b≠c.env.locals)(o:a b=aB):d b=none:=by
 cases e:d b with
 |none=>rfl
 |some f=>
  rcases F.new b f e with z |z
  ·have z:a b=O f:=z;replace z:=o▸z;cases z
  ·rw[rg l (by intro z;cases z)] at z;exact absurd z k
theorem nQ(Y:Hyp w A c sc tb P n){e:E}{f:Expr}{x:PV}{Q:aJ→aM→Prop}(i:bC sc tb e f=aF)(j:ev P σ e=O x)(G:Gd w c tb K m aB s σ)
  (k:∀a v d,PK.le K a→Fm c a m aB d→KB c aB s.heap d.heap→RV w a aB v x→(∀b,s.heap.get? b≠aB→b≠c.env.locals→K b=aB→a b=aB)→Q v d):aN (aO pg w) A (eval f c.env) Q (fun J J=>bO) s:=
 ((cY (Y.here K aB s.heap) e f i).ev j G.here).then fun a v d l g h o=>k a v d l (G.F.back g h) h o fun J p q r=>tD g p q r
theorem tE(Y:Hyp w A c sc tb P n){e:E}{f:Expr}{b:aU}{Q:aU→aM→Prop}(i:bC sc tb e f=aF)(j:(ev P σ e).bind truth=O b)(G:Gd w c tb K m aB s σ)
  (k:∀a d,PK.le K a→Fm c a m aB d→KB c aB s.heap d.heap→(∀b,s.heap.get? b≠aB→b≠c.env.locals→K b=aB→a b=aB)→Q b d):aN (aO pg w) A (sk f c.env (eval f c.env)) Q (fun J J=>bO) s:=
 ((cY (Y.here K aB s.heap) e f i).2 b j).then G.here.F G.L G.Mi fun a d l g h=>k a d l (G.F.back g h) h fun J o p q=>tD g o p q
theorem Xj(Y:Hyp w A c sc tb P n){b:B}{d:aD bR}{e:Sg}{Q:j3→aM→Prop}(j:dX sc tb b d=aF)(hex:bE P b σ=O (.next,e))(G:Gd w c tb K m aB s σ)(l:e.mu=aB)
  (k:∀f q g,PK.le K f→Gd w c tb f q aB g e→KB c aB s.heap g.heap→(∀b,s.heap.get? b≠aB→b≠c.env.locals→K b=aB→f b=aB)→Q .next g):aN (aO pg w) A (eH d c.env) Q (fun J J=>bO) s:=by
 refine wpAny_mono (nM b d (c.here K aB s.heap) _ _ _ (Y.here K aB s.heap) j hex K m aB s G.here) (fun F r o=> ?_) fun J J x=>x;obtain⟨t,u,h,v,i,H,rfl,a⟩:=o
 have y:h=none:=by
  cases h with
  |none=>rfl|some p=>exact absurd a.Mi (by refine M l ?_;intro z;cases z)
 subst y;exact k t u r v ⟨G.F.back a.F i,a.L,a.Mi,a.fl⟩ i fun J C D E=>tD a.F C D E
end
end
section
noncomputable def qm:Tb:=[(aH "a",aF),(aH "n",aI)]
theorem Xk:jc (aK 11).scope qm=true:=by decide+kernel
inductive LM:Prop
 |mk (s1 s2 s3 s4:bR) (z1 p0 p1 p2 p3 p4 p5 p6 p7 p8 p9 lf lh na yI yJ e1 ea e0 t:_) (h1:(aK 11).body=[s1,s2,s3,s4]) (g1:s1= .Assign [.Name "a_digits" p0] (.BinOp (.List [.Constant (.int 0) z1 p1] p2) .Mult e1 p3) p4) (g2:s2= .FunctionDef (bP 11).name (bP 11).params (bP 11).body [] aB [] (bP 11).scope aB (bP 11).name p5)
   (g3:s3= .If t [.Expr (.Call (.Name "inner" p6) [ea,e0,.Call (.Name "len" p7) [.Name "a_digits" p8] [] p9] [] lf) lh] [] na) (g4:s4= .Return (O (.Name "a_digits" yI)) yJ) (h2:bC (aK 11).scope qm (.bin .FloorDiv (.bin .Sub (.bin .Add (.dG "bit_length" (.nm 0) .nil) (.nm 1)) (.int 1)) (.nm 1)) e1=aF) (h3:bC (aK 11).scope qm (.nm 0) ea=aF) (h4:bC (aK 11).scope qm (.int 0) e0=aF) (h5:bC (aK 11).scope qm (.nm 0) t=aF) (h6:(pg.main.body[11]?).bind oZ=O (p5,("_int2digits.<locals>.inner":Str))):LM
theorem Xl:LM:=
 ⟨_,_,_,_,_,_,_,_,_,_,_,_,_,_,_,_,_,_,_,_,_,_,_,_,rfl,rfl,rfl,rfl,rfl,by decide+kernel,by decide+kernel,by decide+kernel,by decide+kernel,rfl⟩
theorem Xm(h:a.cells=[(("inner":Str),b),(("a_digits":Str),c),(("n":Str),d)]):oA (bP 11).scope a=pure [(("n":Str),d),(("inner":Str),b),(("a_digits":Str),c)] :=by obtain⟨e,lo,g,i,q,f,j,k,l⟩:=a;simp only at h;subst h;rfl
theorem LN(v:aJ):∀(n:aA) (a:eW aJ),(dT n #[v]).foldl (fun b c=>b++c) a=a++(dT n v).toArray
 |0,a=>rfl
 |n+1,a=>by refine M xg (M AE (M (LN v n ..) (M xg ?_)));apply Gn.mp;simp
theorem Xn{E:aJ→aM→Prop}
  (a:s.heap.get? l=O {cls:= .type "list",dict:=aB,data:= .seq b k,slots:= #[]})
  (d: -(2^63:Z)≤x) (e:x < 2^63) (c:b.size*x.toNat≤2^24)
  (h:Q (.ref s.heap.objs.size) {s with heap:=s.heap.push {cls:= .type "list",data:= .seq (afB (fun f g=>f++g) #[] (dT (if b.isEmpty=aF then 0 else x.toNat) b))}}):
  aN (aO pg w) A (sf .Mult (.ref l) (.int x u)) Q E s:=
 wpAny_binaryOp_repeat_ref (T:="list") (U:="int") (by decide) ⟨_,a,rfl⟩ (fun i=>AI i x u) noFill_list_mul PySem.F.fills_int_mul afC repeat_list PySem.F.slot_int_index.lookup
  (xk afC (AI s x u) PySem.F.entry_int_rmul (PySem.F.args_int_rmul_2 _ _) (int___rmul___int_list x u l b k)
   ⟨a,rfl,⟨_,a,rfl⟩,xk PySem.F.slot_list_mul ⟨_,a,rfl⟩ PySem.F.entry_list_mul (PySem.F.args_list_mul_2 _ _)
    (ahu l b k x u (by simp[ahv];exact⟨cK (by decide) d,dM e (by decide)⟩) (Aq (aL c (by decide))) (by simp[ahw,eF];exact c))
    ⟨a,h⟩⟩)
theorem ints_rep:∀(k:aA) (t:gX) (x:Z),iY (dT k (dU x t)) (dT k x)
 |0,_,_=> .nil|k+1,t,x=> .cons x t (ints_rep k t x)
theorem LO{K:PK}(h:iY a b):bK w K a (b.map .int):=by
 induction h with
 |nil=>exact .nil|cons _ _ _ ih=>exact .cons .int ih
theorem vC(h:0 < a):a < 2^gW a:=by unfold gW;refine M (aP (by simp;exact fB h)) ?_;have b:a.natAbs < 2^(a.natAbs.log2+1):=(AH (HU h)).mp (lJ _);have e:((2^(a.natAbs.log2+1):aA):Z)=2^(a.natAbs.log2+1):=rfl;lia
section
theorem Xo(ae:Wd w bc mb h₀)(bd:jX bc h₀ T)(S:1≤n∧n≤10000)(a:Z)(k:aA)(a2:0 < a)(be:k=(gW a+n - 1) / n)(bf:k≤1000):
  Ct w bc mb h₀ T 15 "_int2digits" [.int a,.int (n:Z)] (.lst ((fW n k a).map .int)):=by
 obtain⟨t,bg,ad,o,ga,af,gb,dd,bh,bi,de,df,bj⟩:=bd.at_ 11 (by decide);refine⟨ad,o,_,dd,bh,bi,?_⟩;obtain⟨gc,gd,ge,gf,gg,gh,gi,gj,gk,gl,dg,gm,gn,go,gp,gq,gr,gs,gt,gu,U,bk,bl,gv,dh,di,dj,dk,dm,dn,ah,ai,dp,dq⟩:=Xl;rw[dq] at bj
 obtain⟨dr,bm⟩:t.pos=dg∧t.q="_int2digits.<locals>.inner":=by have:=cA bj;exact⟨(aT RP this).symm,(aT RQ this).symm⟩
 intro A K s ds bn aj bo bp bq dt du dv dw dx
 obtain⟨v,u,rfl,dy,br⟩:∃v u,ds=[v,u]∧RV w K aB v (.int a)∧RV w K aB u (.int (n:Z)):=by cases dx with |cons dz ak=>cases ak with |cons e0 al=>cases al;exact⟨_,_,rfl,dz,e0⟩
 have bs:∀b o,h₀.get? b=O o→s.heap.get? b=O o:=fun b o e=>bq _ _ (bp b o e);refine cell_call (binds:=[("a",v),("n",u)]) (pO (bL aj (by decide))) (bs _ _ bh) bi (de.keeps bs) V ?_ (by decide) V rfl rfl bp bq dt du dv dw (fun c d bt g bu am an gw=> ?_)
 ·intro x bv;simp only[gz,cO,or_false] at bv;rcases bv with rfl |rfl
  ·exact .inl V
  ·exact .inr ⟨rfl,rfl⟩
 ·refine UM fun ao ap=> ?_;have am:xv _ [(("inner":Str),s.heap.objs.size+1+1+1),(("a_digits":Str),s.heap.objs.size+1+1),(("n":Str),s.heap.objs.size+1)] bt:=am;obtain⟨m,f,j,e5,bw,y,rfl,e7,e8,e9,bx,bz,e',c0⟩:yF _ _ _ aB aB (O u) (qQ (s.heap.objs.size+1) (aK 11).scope.names []) bt:=Lp am;refine dW (an (m,e5) (.head _)) fun aq a3 ar ea=>dW (an (f,bw) (.tail _ (.head _))) fun as a4 au eb=>dW (an (j,y) (.tail _ (.tail _ (.head _)))) fun ec ed ee ef=> ?_;have I:c.hE=s.heap:=M g V;have a5:c.T=T:=M g V;have eg:c.fH=K:=M g V;have p:c.env=ny (aK 11).name (aK 11).scope s.heap.objs.size ad (.ref af):=M g V;have G:c.env.cells=[(("inner":Str),m),(("a_digits":Str),f),(("n":Str),j)] :=by refine M p ?_;exact e7
  obtain⟨W,L⟩:=bu.known ef ed (by intro z;cases z) (by refine M I ?_;exact ee) ec;have av:(K.put j y) j=O y:=PK.jo;have c1:(K.put j y) f=none:=by unfold PK.put;refine M (aP c0) ?_;exact eb
  have c2:(K.put j y) m=none:=by unfold PK.put;refine M (aP e') ?_;exact ea
  generalize gx:K.put j y=KK at L W av c1 c2
  have Y:Hyp w (A.deeper c.env) c (aK 11).scope qm bJ 0:=by refine⟨bn,by show A.depth+1+0 < 900;exact ko (pO (bL aj (by decide))),by show A.units+3+10*0 < 9000;exact ko (bL (mf (by decide) _) (jy bo)),?_,ae.m0 fV (fun J J J h=>by cases h) c (M g V) (M g V) (M g V) V⟩;exact M g <|⟨rfl,Xk,rfl,rfl⟩
  generalize eh:A3 (ny (aK 11).name (aK 11).scope s.heap.objs.size ad (.ref af)).kindOf [("a",v),("n",u)] (fun J=>aB)=B at bu L;have ei:B "a"=O v:=by refine aS eh ?_;rfl
  have ej:∀{r:PK},PK.le KK r→RL w r c.env aB qm B [O (.int a),O (.int (n:Z))] :=fun{r} X i x gy c3 N H=>by
   match i,N,H with
   |0,N,H=>
    cases N;cases H;exact⟨v,ei,dy.mono (W.trans X)⟩
   |1,N,H=>
    cases N;cases H;exact⟨j,y,u,by refine M G ?_;rfl,X _ _ av,bx,br.mono (W.trans X)⟩
   |i+2,N,H=>cases H
  have a6:∀{r:PK} {P:aM},PK.le KK r→Fm c r B aB P→Gd w c qm r B aB P {loc:=[O (.int a),O (.int (n:Z))]}:=fun X aw=>⟨aw,ej X,.none,fun J J J z=>by cases z⟩;have ax:=bf;show aN _ _ (eH (aK 11).body c.env) _ _ _;refine M dh <|vc di fun ay a0 J=> ?_
  refine(iX (wpAny_BinOp (GI (iC (pG (jC ?_))))) V);refine nr ?_ (by show(1:aA)≤eF;refine M cN ?_;decide);have el:Fm c KK B aB {d with heap:=d.heap.push {cls:= .type "list",data:= .seq [dU 0 d.toks].toArray},toks:=d.toks+1}:=L.push;have en:(d.heap.push {cls:= .type "list",data:= .seq [dU 0 d.toks].toArray}).get? d.heap.objs.size=O {cls:= .type "list",data:= .seq [dU 0 d.toks].toArray}:=fP _ V;have c5:=L.fresh
  have eo:ev bJ {loc:=[O (.int a),O (.int (n:Z))]} (.bin .FloorDiv (.bin .Sub (.bin .Add (.dG "bit_length" (.nm 0) .nil) (.nm 1)) (.int 1)) (.nm 1))=O (.int (k:Z)):=by
   have U:nG aB "bit_length" (.int a) [] =O (.int (gW a)):=rfl
   have a7:dC .FloorDiv (.int ((gW a:Z)+n - 1)) (.int (n:Z))=O (.int (k:Z)):=by
    refine M (yv (dZ.mpr (FZ S.1)) (dZ.mpr (cC S.2 (by decide)))) (M be ?_)
    congr 2
    refine M (Int.natCast_ediv ..) (M (Hl (Nat.le_add_left_of_le S.1)) ?_);exact rfl
   assumption
  refine nQ (m:=B) (s:={d with heap:=d.heap.push {cls:= .type "list",data:= .seq [dU 0 d.toks].toArray},toks:=d.toks+1}) Y dn eo (a6 (.refl _) el) fun C h1 l c6 c7 a8 ak ep=> ?_;obtain⟨h2,rfl⟩:=ak.int_inv;have eq:=a8 _ _ en c5.2.1 (by intro z;cases z) (L.off c5.2.2.2);refine Xn eq (cK (by decide) (cW _)) (iV (cV.mpr ax) (by decide)) (by show 1*_≤_;lia) ?_
  have er:(afB (fun es et:eW aJ=>es++et) #[] (dT (if([dU 0 d.toks].toArray).isEmpty=aF then 0 else((k:Z)).toNat) [dU 0 d.toks].toArray))=(dT k (dU 0 d.toks)).toArray:=by refine M (show([dU 0 d.toks].toArray)= #[dU 0 d.toks] from rfl) (M (LN ..) ?_);simp
  refine M er <|dW c7.fresh fun eu ew h3 Q=> ?_
  have ey:Fm c C B aB {l with heap:=l.heap.push {cls:= .type "list",data:= .seq (dT k (dU 0 d.toks)).toArray}}:=c7.push (tk:=l.toks);have ez:(l.heap.push {cls:= .type "list",data:= .seq (dT k (dU 0 d.toks)).toArray}).get? l.heap.objs.size=O {cls:= .type "list",data:= .seq (dT k (dU 0 d.toks)).toArray}:=fP _ V;have az:∀{b:aW},s.heap.get? b=aB→Off c.T b:=fun{b} z=>L.off (by refine M I ?_;exact z)
  have c8:∀{b:aW} {o:Obj},d.heap.get? b=O o→b≠c.env.locals→s.heap.get? b=aB→(l.heap.push {cls:= .type "list",data:= .seq (dT k (dU 0 d.toks)).toArray}).get? b=O o:=fun{b o} e b0 z=>
   eV _ (a8 b o (eV _ e) b0 (by intro z;cases z) (az z))
  have c9:∀{b:aW},d.heap.get? b≠aB→b≠c.env.locals→KK b=aB→C b=none:=fun{b} e b0 z=>ep b (by
   cases q:d.heap.get? b with
   |none=>exact absurd q e|some o=>refine M (show(d.heap.push {cls:= .type "list",data:= .seq [dU 0 d.toks].toArray}).get? b=O o from eV _ q) ?_;simp) b0 z
  have a9:l.heap.objs.size≠f∧l.heap.objs.size≠m:=⟨fun e=>by
    have:=fA (a8 _ _ (eV _ as) a4 (by intro z;cases z) (az au));exact uu _ (e▸this),fun e=>by
    have:=fA (a8 _ _ (eV _ aq) a3 (by intro z;cases z) (az ar));exact uu _ (e▸this)⟩
  generalize h9:l.heap.objs.size=D at*;refine A2 Y.H.kind (by refine M p ?_;rfl) (c:=f) (by refine M G ?_;rfl) ⟨bw,c8 as a4 au,e9⟩ fun c' ca b1=> ?_;(refine aQ ca ?_;clear ca;rintro E f1 f2);obtain⟨cb,b2⟩:=ey.cell (tk:=l.toks) (c9 (by refine M as ?_;exact xz _) a4 c1) a4 (by intro z;cases z) (by refine M I ?_;exact au) b1 f1;have cc:c'.get? D=O {cls:= .type "list",data:= .seq (dT k (dU 0 d.toks)).toArray}:=(b1.2 D a9.1).trans ez;have cd:(C.put f E) j=O y:=by unfold PK.put;refine M (aP (Ne.symm c0)) ?_;exact c6 _ _ av
  have ce:(C.put f E) f=O E:=PK.jo;have cf:(C.put f E) m=none:=by unfold PK.put;refine M (aP bz) ?_;exact c9 (by refine M aq ?_;exact xz _) a3 c2
  have cg:(C.put f E) D=none:=by unfold PK.put;refine M (aP a9.1) ?_;exact eu
  have ch:PK.le KK (C.put f E):=c6.trans cb;generalize h':C.put f E=ha at b2 cb cd ce cf cg ch;refine a0 _ (vc dj fun ay a0 J=> ?_)
  refine(CY (mu:=aB) (t:=t) (s:={l with heap:=c'}) b2 (by refine M a5 ?_;exact bg) (by refine M a5 ?_;exact fun f3 f4 U a7=>bd.apart t bg f3 f4 U a7) (cc:=af) (by refine M p ?_;rfl) (by refine M g ?_;exact df) (by refine M p ?_;rfl) (by refine M g ?_;exact ae.bmain) dr
   (by refine M p (M bm ?_);rfl) (Xm G) V rfl rfl (by decide+kernel) (by refine M p ?_;rfl) (by refine M p ?_;rfl) (ci:=m) (by refine M G ?_;rfl) cf a3 (by intro z;cases z) (by refine M I ?_;exact ar) ((b1.2 m bz).trans (c8 aq a3 ar)) e8 fun b3 hb f5 ci cj ck cl cm b4 cn f6 f7 co cp cq f8=> ?_)
  (refine aQ cq ?_;clear cq;rintro hc f9 f');rw[bm] at co cp;have fa:b3 D=none:=f8 D (by refine M cc ?_;exact xz _) a9.2 cg;have cr:=f6 D _ a9.2 (b2.off Q) cc;have b5:PK.le KK b3:=ch.trans b4
  have fb:rq w b3 f5 D n ci [(("n":Str),j),(("inner":Str),m),(("a_digits":Str),f)] cj ck cl cm m f j:=
   ⟨f7,co,cp,rfl,rfl,rfl,⟨_,f9,f'⟩,⟨E,b4 _ _ ce,f2⟩,⟨y,u,b4 _ _ cd,bx,br.mono (W.trans b5)⟩⟩
  have F:D≠c.env.locals:=ew;refine a0 _ (vc dk fun ay a0 J=> ?_);refine(mL (tE Y dp (by show(O (a !=0))=O aF;exact M (show(a !=0)=aF from bne_iff_ne.mpr (fB a2)) V) (a6 b5 cn) fun fc hh cs b6 fe ff=> ?_));have fg:fc D=none:=ff D (by refine M cr ?_;exact xz _) F fa;have ct:=fe D _ cr F (by intro z;cases z) (cn.off Q);have b7:=b5.trans cs;have cu:=fb.mono cs;have cv:∀(q:aD Expr),dF (bk::bl::q) c.env=(aI,eval bk c.env)::(aI,eval bl c.env)::dF q c.env:=fun q=>M (i0 ah ..) (M (i0 ai ..) V)
  have b8:∀{r:PK} {P:aM} {x:Str} {c3:bG} {cw cx:aW} {cy:Obj} {ao:aJ→aM→Prop},Fm c r B aB P→c.env.kindOf x=O .cell→(x==("__debug__":Str))=aI→c.env.cells.lookup x=O cw→r cw=O cy→cy.data= .cell (O (.ref cx))→ao (.ref cx) P→aN (aO pg w) (A.deeper c.env) (eval (.Name x c3) c.env) ao (fun J J=>bO) P:=
   fun aw U a7 fh fi fj ap=>pF (Rk Y.H.kind U fh ⟨_,aw.keep _ _ fi,fj⟩ ap) a7
  refine vc V fun hi fk J=>ri Y.H V (wpAny_Call_NameR ?_);refine aQ cu.ki fun hj fl fm=>b8 b6 (by refine M p ?_;rfl) (by decide) (by refine M G ?_;rfl) fl fm ?_;refine AN (o:=ci) (fd:=oB (bP 11).name "_int2digits.<locals>.inner" (bP 11).params (bP 11).body (bP 11).scope [(("n":Str),j),(("inner":Str),m),(("a_digits":Str),f)] .none .none cl cm aB cj ck) (iE (by refine M (cv ..) ?_;intro z;cases z) (by refine M (cv ..) ?_;rfl) ?_);refine iC (nQ Y ah (x:= .int a) V (a6 b7 b6) fun hk hl hm b9 cz fn fo fp=> ?_) (i0 ah _ _);have fq:=fp D (by refine M ct ?_;exact xz _) F fg;have d0:=fn D _ ct F (by intro z;cases z) (b6.off Q);refine iC (nQ Y ai (x:= .int 0) V (a6 (b7.trans b9) cz) fun a' hn a1 d3 aa fr fs ft=> ?_) (i0 ai _ _);have b':=ft D (by refine M d0 ?_;exact xz _) F fq;have d4:=fr D _ d0 F (by intro z;cases z) (cz.off Q);obtain⟨fu,rfl⟩:=fo.int_inv;obtain⟨fv,rfl⟩:=fs.int_inv;have fw:=(b7.trans b9).trans d3;have ab:=cu.mono (b9.trans d3);refine iC (wpAny_Call_NameR (qd Y.H (by decide+kernel) aa (Y.S.bi "len" (by decide)) (v:= .builtin "len") (by decide+kernel) (by decide+kernel) ?_)) V;refine nt V (iE (by intro z;cases z) V ?_);refine aQ ab.ka fun ho d5 d6=>iC (b8 aa (by refine M p ?_;rfl) (by decide) (by refine M G ?_;rfl) d5 d6 (jC ?_)) V;refine aeK (items:=(dT k (dU 0 d.toks)).toArray) ⟨_,d4,rfl,_,rfl⟩ (by refine M kO (M oG ?_);exact iV (cV.mpr ax) (by decide)) ?_;refine jC ⟨⟨aa.keep _ _ ab.fn,ab.data⟩,?_⟩;refine M kO (M oG ?_);have fx:=vC a2
  have d7:0 < k∧gW a≤n*k:=by
   have hp:1≤gW a:=by unfold gW;refine M (aP (by simp;exact fB a2)) ?_;exact ov _ _
   have d8:=afz (gW a+n - 1) n;have hq:=RU (gW a+n - 1) (show 0 < n by exact FZ S.1);rw[←be] at d8
   constructor
   ·rcases RW k with h |h
    ·rw[h] at d8;lia
    ·exact h
   ·lia
  have fy:0≤a∧a < 2^(n*(k - 0)):=⟨by exact cJ a2,dM fx (by
   exact_mod_cast xA (by decide) d7.2)⟩
  have fz:iY (dT k (dU 0 d.toks)) (dT k 0):=ints_rep k _ _;have ba:Fm c a' B aB {a1 with toks:=a1.toks+1+1}:=aa.tok;have d9:=ba.kn.nil;rw[g] at d9
  refine wpAny_mono (Xi ae S.2 10 a 0 k (dT k 0) (dT k (dU 0 d.toks)) (by refine M oG ?_;exact bf) d7.1 (by refine M oG ?_;exact bZ _) (by simp;exact aL ax (by decide)) fy (A.deeper c.env) a' {a1 with toks:=a1.toks+1+1} fu fv (a1.toks+1) bn
   (by show A.depth+1+10+1 < 900;exact kt (kt (kt aj))) (by show A.units+3+10*(10+1) < 9000;exact ko (bL (mf (by decide) _) (jy bo))) d9 ab b' ⟨_,d4,rfl,_,rfl⟩ fz) (fun hr hs ⟨g0,g1,⟨ht,d',da⟩,g2,g3⟩=> ?_) fun J J x=>x
  subst g0;have db:=ba.wrote b' F (by intro z;cases z) Q g1 g2 (ba.gens.trans g3);refine fk _ (wpAny_execs_nil (a0 _ ?_))
  have g4:kD (dT k 0) 0 (fW n (k - 0) a)=fW n k a:=by unfold kD;refine M (so ..) ?_;simp[tC]
  rw[g4] at da;refine vc dm fun ay J al=>(nv (b8 db (by refine M p ?_;rfl) (by decide) (by refine M G ?_;rfl) d5 d6 ?_));(refine uO d' ?_;clear d';rintro dc g5 g6 hu g7);obtain⟨g8,R⟩:=db.known b' F (by intro z;cases z) Q g5;have g9:PK.le K (a'.put D dc):=(W.trans fw).trans g8;refine al _ _ (ap _ _ ?_);refine⟨a'.put D dc,g9,R.keep,fun b o e=> ?_,fun b o g' e=>R.cT b o (by refine M a5 ?_;exact g') (by refine M I ?_;exact e),.lst PK.jo g6 g7 ?_,R.os.trans (M g V),o0 (by exact M g V) R.gens,by refine aS a5 ?_;exact R.tabs⟩
  ·have:=R.new b o e;rw[eg,I] at this;exact this
  ·exact LO da
end
end
section
noncomputable abbrev fJ(w:aV):Bool:=w.params.followText "set-order"
inductive hZ(w:aV):aD (Z×aJ)→aD Z→Prop
 |nil:hZ w [] []
 |cons {z t l zs}:hZ w l zs→hZ w (((intKind pg w).hash z,.int z t)::l) (z::zs)
theorem hZ.length {l a} (h:hZ w l a):l.length=a.length:=by
 induction h with
 |nil=>rfl|cons _ ih=>exact aT (· +1) ih
theorem hZ.mem {l a} (h:hZ w l a):∀e∈l,∃z t,e=((intKind pg w).hash z,.int z t)∧z∈a:=by
 induction h with
 |nil=>intro e h;cases h
 |cons h ih=>
  intro e he;rcases gz.mp he with rfl |he
  ·exact⟨_,_,rfl,.head _⟩
  ·refine iN (ih e he) fun z t e b=> ?_;exact⟨z,t,e,.tail _ b⟩
theorem hZ.Xp {l a} (h:hZ w l a):∀z∈a,∃t,((intKind pg w).hash z,dU z t)∈l:=by
 induction h with
 |nil=>intro e h;cases h
 |cons h ih=>
  intro e he;rcases gz.mp he with rfl |he
  ·exact⟨_,.head _⟩
  ·refine xe (ih e he) fun t b=> ?_;exact⟨t,.tail _ b⟩
theorem hZ.elems {l a} (h:hZ w l a):ElemsOf (intKind pg w) l:=fun e b=>by(refine iN (h.mem e b) ?_;rintro z t rfl _);exact⟨⟨z,nj pg w _ _,rfl⟩,rfl⟩
theorem hZ.any {l zs} (h:hZ w l zs)(k:Z):zs.any (· ==k)=aF↔∃e∈l,(intKind pg w).is k e.2=true:=by
 refine iO wZ ?_
 constructor
 ·rintro⟨z,hz,e⟩;obtain rfl:=eq_of_beq e;exact xe (h.Xp z hz) fun t ht=>⟨_,ht,nj pg w _ _⟩
 ·rintro⟨e,he,hk⟩;(refine iN (h.mem e he) ?_;rintro z t rfl hz);exact⟨z,hz,beq_iff_eq.mpr ((intKind pg w).inj (.int z t) z k (nj pg w _ _) hk)⟩
theorem hZ.perm {l e c} (h:hZ w l c)(p:nB e l):∃d,hZ w e d∧nB d c:=by
 have f:∀{a b:aD (Z×aJ)},nB a b→∀c,hZ w b c→∃d,hZ w a d∧nB d c:=by
  intro a b p
  induction p with
  |nil=>intro c h;exact⟨c,h,.refl _⟩
  |cons x _ ih=>
   intro c h;cases h with
   |cons h=>(refine aQ (ih _ h) ?_;rintro d g i);exact⟨_,.cons g,i.cons _⟩
  |swap x y l=>
   intro c h;cases h with
   |cons h=>cases h with
    |cons h=>exact⟨_,.cons (.cons h),.swap _ _ _⟩
  |trans _ _ ih1 ih2=>
   intro c h;exact aQ (ih2 _ h) fun q j k=>aQ (ih1 _ j) fun m n o=>⟨m,n,o.trans k⟩
 exact f p c h
inductive dY(w:aV)(h:bF)(a:aW)(zs:aD Z):Prop
 |mk (o:Obj) (es ep t:_) (h1:h.get? a=O o) (h2:o.ExactSet∧o.data= .set es ep t∧hZ w es.toList zs∧t.fits es.size=aF∧t.led= !fJ w):dY w h a zs
theorem dY.at {a b} (x:dY w h a b)(k:∀o,h.get? a=O o→c.get? a=O o):dY w c a b:=
 let⟨o,d,e,t,g,r⟩:=x;⟨o,d,e,t,k _ g,r⟩
theorem dY.get {a b} (x:dY w h a b):∃o,h.get? a=O o:=let⟨o,_,_,_,g,_⟩:=x;⟨o,g⟩
theorem dY.setOf {a b} (x:dY w h a b)(j:b.length < 4096):h.SetOf (intKind pg w) a (fun k=>b.any (· ==k)) b.length:=by
 obtain⟨o,e,l,t,g,m,d,c,f,_⟩:=x;have i:e.size=b.length:=by refine aS c.length ?_;exact rfl
 exact⟨o,e,l,t,g,m,d,c.elems,c.any,by refine M i ?_;exact j,f,i⟩
theorem dY.typeIs{w:aV}{s:aM} {a b} (x:dY w s.heap a b):s.TypeIs (.ref a) "set":=let⟨o,_,_,_,g,e,_⟩:=x;⟨o,g,e.1⟩
section
variable{E:aJ→aM→Prop}
theorem Xq(h:Q (.ref s.heap.objs.size) {s with heap:=s.heap.push {cls:= .type "set",dict:=aB,data:= .set #[] 0 (.fresh 0 0 (!fJ w))}}):aN (aO pg w) A (newSet (.type "set")) Q E s:=by refine wpAny_bind (wpAny_bind (sx (wpAny_pure ?_)));dsimp only;exact wpAny_bind (Gc (wpAny_pure h))
theorem dY.fresh{w:aV}{h:bF}:dY w (h.push {cls:= .type "set",dict:=aB,data:= .set #[] 0 (.fresh 0 0 (!fJ w))}) h.objs.size [] :=
 ⟨_,#[],0,_,fP _ V,⟨rfl,rfl,rfl⟩,rfl,.nil,rfl,rfl⟩
theorem Xr
  (h:Q₁ (.ref s.heap.objs.size) {s with heap:=s.heap.push {cls:= .type "set",dict:=aB,data:= .set #[] 0 (.fresh 0 0 (!fJ w))}}):
  pI (aO pg w) A (.call (.builtin "set.__new__") ⟨[.type "set"],[]⟩) (wants Q₁ E) s:=by
 refine afD <|wpAny_bind (mQ F.newCall_set_0 (wpAny_pure ⟨Hn F.plain_set_new _,uG F.entry_set_new ?_⟩))
 unfold Builtin.«set.__new__» ahx;have a:=sub_set_self;obtain⟨b,g,d,tk,os⟩:=s;dsimp only
 wp_walk
 refine sx (wpAny_pure ?_);dsimp only;refine wpAny_bind (Gc (wpAny_pure ?_));exact wpAny_pure h
theorem LP
  (h:Q (.ref s.heap.objs.size) {s with heap:=s.heap.push {cls:= .type "set",dict:=aB,data:= .set #[] 0 (.fresh 0 0 (!fJ w))}}):
  aN (aO pg w) A (call (.type "set") []) Q E s:=by
 refine oJ sy.mro fun c n o=> ?_;have p:=sy.made;have q:=sy.sub;refine xr (afD ?_);refine wpAny_pure ⟨Code.quiet_builtin _ (by decide+kernel),uG F.entry_type_call ?_⟩;refine M (Around.under_plain (weight_type_call_type "set" [] []) V) ?_;have t:=sy.notType;have u:=sy.canCreate;have v:=F.typeCall_set_0
 repeat (any_goals (first |assumption |wp_step))
 refine uz (Xr (E:=E) (Q₁:=fun d f=>d= .ref s.heap.objs.size∧f={s with heap:=s.heap.push {cls:= .type "set",dict:=aB,data:= .set #[] 0 (.fresh 0 0 (!fJ w))}}) ⟨rfl,rfl⟩) fun r f a=> ?_;cases r with
 |error e=>exact a
 |ok i=>
  cases i with
  |ret d=>
   (refine xa a ?_;clear a;rintro rfl rfl);have j:(s.heap.push {cls:= .type "set",dict:=aB,data:= .set #[] 0 (.fresh 0 0 (!fJ w))}).get? s.heap.objs.size=O {cls:= .type "set",dict:=aB,data:= .set #[] 0 (.fresh 0 0 (!fJ w))}:=fP _ V;have k:Shared.TypeIs {s with heap:=s.heap.push {cls:= .type "set",dict:=aB,data:= .set #[] 0 (.fresh 0 0 (!fJ w))}} (.ref s.heap.objs.size) "set":=⟨_,j,rfl⟩;have x:=sy.init.lookup;have y:=sy.init.bind (.ref s.heap.objs.size)
   repeat (any_goals (first |assumption |wp_step))
   refine uz (codeAny_call_builtin (R:=wants (fun r g=>r= .none∧Q (.ref s.heap.objs.size) g) E) sy.init.plain F.entry_set_init (check_set_init k ?_)) fun l g b=> ?_
   ·unfold Builtin.«set.__init__» noKeywords
    wp_walk
    exact⟨rfl,h⟩
   ·cases l with
    |error e=>exact b
    |ok m=>
     cases m with
     |ret r=>
      (refine xa b ?_;clear b;rintro rfl z)
      repeat (any_goals (first |assumption |wp_step))
     | _=>exact b.elim
  | _=>exact a.elim
end
end
section
set_option tactic.hygienic true in
theorem Xt(t:uH)(b:eW (Z×aJ))(n:aA):(Bd t b n).2.1.led=t.led:=by
 unfold Bd
 split
 ·rename_i c e h
  have d:c.led=t.led:=by unfold SetTable.relaid SetTable.laid at h;simp only[Option.bind_eq_bind,QZ] at h;(refine aQ h ?_;clear h;rintro f _ h);cases h;rfl
  dsimp only
  split
  ·exact d
  ·rfl
 ·rfl
set_option tactic.hygienic true in
theorem Xu(t:uH)(b:eW (Z×aJ))(h:Z)(x:aJ):(RX t b h x).2.1.led=t.led:=by
 unfold RX
 split
 ·unfold SetTable.put SetTable.orStandIn;dsimp only
  (repeat' split) <;>rfl
 ·rfl
theorem LS{c:Type}(b:eW c)(p:aA):(xB b p).toList=b.toList.take p++b.toList.drop (p+1):=by simp[xB,ae8,mG]
theorem C4{c:Type}(b:eW c)(p:aA)(h:p < b.size):(xB b p).size=b.size - 1:=
 aS iL (M (LS ..) (M bH (M ni (M iB (M iL (M (l4 (fE h)) (M (iz p 1) (M (QL ..) (M (r3 (Nat.le_sub_one_of_lt h)) V)))))))))
theorem Xv{c:Type}(b:eW c)(p:aA)(x:c):(afE b p x).size=b.size+1:=by have:=(SetTable.insertAt_perm b p x).length_eq;simpa using this
noncomputable def Xw(w:aV)(l:aD (Z×aJ))(Y:aD Z)(i:aA):Prop:=∃z t b,l[i]? =O ((intKind pg w).hash z,.int z t)∧nB Y (z::b)∧hZ w (l.take i++l.drop (i+1)) b
theorem hZ.split{w:aV}{l:aD (Z×aJ)}{Y:aD Z}(h:hZ w l Y):∀i,i < l.length→Xw w l Y i:=by
 induction h with
 |nil=>exact fun i h=>absurd h (RY i)
 | @cons z t l Y h ih=>
  intro i hi;cases i with
  |zero=>exact⟨z,t,Y,rfl,.refl _,h⟩
  |succ i=>
   exact pR (ih i (Hk hi)) fun z' t' kE e p h'=>⟨z',t',z::kE,e,(p.cons z).trans (.swap ..),.cons h'⟩
section
variable{w:aV}{A:bX}{E:aJ→aM→Prop}{s:aM}{a:aW}{Y:aD Z}
theorem LU{c:ur}{e:Source}{n:aA}{Q:aA→aM→Prop}(b:n≠0)(h:∀i < n,∀d,Q i {s with drawn:=d}):aN c A (choose e n) Q E s:=
 fun J J J=>⟨b,h _ (RU _ (Nat.pos_of_ne_zero b)) _⟩
theorem dY.store{h:bF}{o:Obj}{g:eW (Z×aJ)}{d:aA}{t:uH}(i:h.get? a=O o)(hex:o.ExactSet)(e:o.data= .set g d t)
  {b:eW (Z×aJ)} {c:uH} (j:hZ w b.toList Y) (k:c.fits b.size=aF) (l:c.led= !fJ w):
  (h.update a (Ho b c)).get? a=O {o with data:= .set b (d+1) c}∧dY w (h.update a (Ho b c)) a Y:=by
 have f:(h.update a (Ho b c)).get? a=O {o with data:= .set b (d+1) c}:=by have:=r8 (Ho b c) i (by refine M (putSet_of b c e) ?_;rfl);rw[putSet_of b c e] at this;exact this
 exact⟨f,_,b,d+1,c,f,hex,rfl,j,k,l⟩
theorem Xx{b:ur}{d:Type}{c:aU}{k:Z}{t:gX}{f:aU→cR d}{Q:d→aM→Prop}{s:aM}(h:aN b A (f aF) Q E s):aN b A (if c=aF then(hashByValue 8 (.int k t) >>=f) else(pure aF >>=f)) Q E s:=by
 cases c with
 |false=>exact wpAny_bind (wpAny_pure h)|true=>exact wpAny_bind (xS (hashByValue_scannable 8 rfl) (wpAny_pure h))
theorem Xy{k:Z}{x:aJ}{Q:aU→aM→Prop}(Xz:(intKind pg w).is k x=aF)(hx:∃t,x= .int k t)(hS:dY w s.heap a Y)
  (tF:Y.length+1 < 4096) (hk:k∉Y)
  (h:∀h' kE,iJ a s.heap h'→nB kE (k::Y)→dY w h' a kE→Q aF {s with heap:=h'}):
  aN (aO pg w) A (setAddHashed a x ((intKind pg w).hash k)) Q E s:=by
 (refine xe hx ?_;clear hx;rintro tx rfl);obtain⟨o,es,ep,t,ho,hex,hd,o5,hf,hl⟩:=hS;have hsz:es.size=Y.length:=iL.symm.trans o5.length;have hb:es.size < RZ:=by refine M hsz ?_;exact kt tF
 have hr:Ry (fun e=>(intKind pg w).is k e.2) es.toList=none:=by
  cases hr:Ry (fun e=>(intKind pg w).is k e.2) es.toList with
  |none=>rfl
  |some j=>
   (refine aQ (List.findIdx?_eq_some_iff_getElem.mp hr) ?_;rintro hj XA _);exact aQ (wZ.mp ((o5.any k).mpr ⟨es.toList[j],mj hj,XA⟩)) fun z hz e=>absurd (eq_of_beq e▸hz) hk
 have LV:∀(b:aU) {kc:aM} {Q':Unit→aM→Prop},Q' () kc→aN (aO pg w) A (match b with |true=>rule "set.scan.the-table-gave-way" |false=>pure ()) Q' E kc:=
  fun b kc Q' hq=>by cases b<;>first |exact wpAny_pure hq |exact Ge hq
 have C5:=layNew_perm t es ((intKind pg w).hash k) (.int k tx);have LW:=layNew_fits t es ((intKind pg w).hash k) (.int k tx);have C6:=Xu t es ((intKind pg w).hash k) (.int k tx);rw[RA] at C5;refine ii (wpAny_bind (Be ho hd hf (qD (BJ (byScan_of V hb o5.elems) (wpAny_bind (wpAny_bind (Ge (wpAny_bind (wpAny_setScan_of Xz ho hd hf o5.elems ?_)))))))));refine M hr ?_;generalize RX t es ((intKind pg w).hash k) (.int k tx)=L at C5 LW C6 ⊢;obtain⟨lW,t1,XB,ag9⟩:=L;refine aQ ((hZ.cons o5).perm (C5.trans (List.perm_append_singleton _ _))) fun zs1 C7 rs=> ?_;have XC:=iL.symm.trans (C7.length.trans rs.length_eq);have vD:lW.size < RZ:=cC (cM XC) (tF:(k::Y).length < RZ);refine xa (dY.store ho hex hd C7 LW (C6.trans hl)) fun LX oW=>wpAny_bind (LV _ (Xx (wpAny_bind (R0 ho hd ?_ (R1 vD)))))
 by_cases hc:(!XB && t1.tooFull)=aF
 ·have LY:=relayAll_perm t1 lW (xC lW.size);have XD:=relayAll_fits t1 lW (xC lW.size);have XF:=Xt t1 lW (xC lW.size);refine aQ (C7.perm LY) fun zs2 XG XH=> ?_;have XI:=iL.symm.trans (LY.length_eq.trans iL);have XJ:=(dY.store LX hex V XG XD (XF.trans (C6.trans hl))).2;have XK:=R1 (cC (cM XI) vD);refine qD (BJ hc (wpAny_bind (LV (Bd t1 lW (xC lW.size)).2.2 (wpAny_bind (R0 LX V (es':=(Bd t1 lW (xC lW.size)).1) (t':=(Bd t1 lW (xC lW.size)).2.1) ?_ XK)))));exact wpAny_pure (wpAny_pure (h _ _ ((qB s.heap a _).trans (qB _ a _)) (XH.trans rs) XJ))
 ·exact qD (uT hc (wpAny_pure (wpAny_pure (h _ _ (qB s.heap a _) rs oW))))
theorem LZ{k:Z}{t:gX}{Q:aU→aM→Prop}(d:dY w s.heap a Y)(e:Y.length+1 < 4096)(f:k∉Y)
  (h:∀b c,iJ a s.heap b→nB c (k::Y)→dY w b a c→Q aF {s with heap:=b,toks:=s.toks+1}):
  aN (aO pg w) A (R2 a (.int k t)) Q E s:=by
 unfold R2;refine ii (wpAny_bind ((intKind pg w).pyHash (nj pg w _ _) ?_));exact Xy (s:={s with toks:=s.toks+1}) (nj pg w _ _) ⟨_,rfl⟩ d e f h
theorem XM{k:Z}{t:gX}{Q:aJ→aM→Prop}(hS:dY w s.heap a Y)(tF:Y.length+1 < 4096)(hk:k∉Y)
  (h:∀h' kE,iJ a s.heap h'→nB kE (k::Y)→dY w h' a kE→Q .none {s with heap:=h',toks:=s.toks+1}):
  aN (aO pg w) A (call (.builtin "set.add") [.ref a,.int k t]) Q E s:=by
 refine sz F.slot_set_add hS.typeIs F.entry_set_add ?_ (F.args_set_add_2 _ _);unfold Builtin.«set.add» ahy;simp only[afF,bind_assoc];refine wpAny_bind (wpAny_pure ?_)
 try dsimp only
 refine wpAny_bind (wpAny_pure ?_)
 try dsimp only
 refine wpAny_bind <|LZ hS tF hk fun h' kE vE p nJ=> ?_
 show aN _ _ (ret Value.none) _ _ _;exact wpAny_pure ⟨_,rfl,h h' kE vE p nJ⟩
theorem XN(t:uH)(i:aA):(t.popped i).led=t.led:=by
 unfold afG afH;dsimp only
 split<;>rfl
theorem XO{t:uH}{n i:aA}(b:t.fits n=aF)(f:i < n):(t.popped i).fits (n - 1)=true:=by simp only[R3,gZ,me,lG] at b ⊢;have c:i < t.place.size:=bL f (cM (Eq.symm b.1));have e:t.place[i]? =O t.place[i] :=Aw c;unfold afG afH;refine M e ?_;dsimp only;have d:=C4 t.place i c;have g:=Xv t.dummies (Hp t.dummies t.place[i]) t.place[i];refine⟨by refine M d ?_;lia,?_⟩;have h:=b.2;unfold SetTable.fill at h ⊢;refine(M d (M g ?_):(xB t.place i).size+(afE t.dummies _ _).size≤t.mask);lia
theorem XP{Q:aG aJ→aM→Prop}(C:dY w s.heap a Y)(D:Y≠[])(F:Y.length < 4096)
  (h:∀k z t e d,iJ a s.heap k→nB Y (z::e)→dY w k a e→Q (O (.int z t)) {s with heap:=k,drawn:=d}):
  aN (aO pg w) A (setPop a) Q E s:=by
 obtain⟨o,b,T,t,l,hex,m,r,f,u⟩:=C;have v:b.size=Y.length:=by refine aS r.length ?_;exact rfl
 have y:0 < b.size:=by refine M v ?_;cases Y with |nil=>exact absurd rfl D |cons=>exact ow _
 have n:t.place.size=b.size:=by simp only[R3,gZ,me] at f;exact f.1
 refine wpAny_bind (Be l m f ?_);dsimp only
 have B:∃j,t.popPlace=O j∧j < b.size:=by
  unfold SetTable.popPlace
  have G:t.place.isEmpty=false:=by
   cases p:t.place.isEmpty with
   |false=>rfl|true=>replace p:=QU Array.isEmpty_iff p;replace n:=p▸n;simp at n;lia
  refine M G (M (aP cL) ?_);refine⟨_,rfl,?_⟩
  split<;>lia
 (refine aQ B ?_;clear B;rintro j H I);refine M H ?_;dsimp only
 have q:∀i d,i < b.size→aN (aO pg w) A (match b[i]? with
   |some (_,x)=>do storeSet a (xB b i) (t.popped i);return O x
   | _=>unsupported "internal:set.pop") Q E {s with drawn:=d}:=by
  intro i d c;(refine pR (r.split i (by refine M iL ?_;exact c)) ?_;rintro z tk e K L N);refine aS pz (M K ?_);refine wpAny_bind (R0 (s:={s with drawn:=d}) l m ?_ (R1 (by refine M (C4 b i c) (M v ?_);exact cC (l7 _ 1) F)));have P:hZ w (xB b i).toList e:=by refine M (LS ..) ?_;exact N
  (refine xa (dY.store (w:=w) (a:=a) l hex m P (by refine M (C4 b i c) ?_;exact XO f c) ((XN t i).trans u)) ?_;rintro _ R);exact wpAny_pure (h _ _ _ e _ (qB _ a _) L R)
 refine wpAny_bind (wpAny_bind (sx (wpAny_pure ?_)))
 by_cases g:fJ w=aF
 ·exact M (show(Hq ⟨(aO pg w).prog,(aO pg w).w.params⟩).followText "set-order"=aF from g) <|wpAny_bind (LU (eG y) fun i c d=>q i d c)
 ·have g:fJ w=false:=by simpa using g
  have S:t.led=true:=by refine M u (M g ?_);rfl
  split
  ·exact wpAny_bind (LU (eG y) fun i c d=>q i d c)
  ·refine wpAny_bind (?_:aN _ _ (if(!t.led && decide (b.size >1))=aF then unsupported "set:maker-not-led" else pure ()) _ _ _);refine M S <|wpAny_pure ?_
   exact wpAny_bind (wpAny_pure (q j s.drawn I))
theorem XQ{Q:aJ→aM→Prop}(e:dY w s.heap a Y)(f:Y≠[])(g:Y.length < 4096)
  (h:∀b z t c d,iJ a s.heap b→nB Y (z::c)→dY w b a c→Q (.int z t) {s with heap:=b,drawn:=d}):
  aN (aO pg w) A (call (.builtin "set.pop") [.ref a]) Q E s:=by
 refine sz F.slot_set_pop e.typeIs F.entry_set_pop ?_ (F.args_set_pop_1 _);unfold Builtin.«set.pop» ahz;refine wpAny_bind (wpAny_pure ?_)
 try dsimp only
 refine wpAny_bind (XP e f g fun b z t c d i p j=> ?_);exact wpAny_pure ⟨_,rfl,h b z t c d i p j⟩
end
end
section
theorem XR:Manifest.owners.lookup (String.ofList ['r','o','t','a','r','e','t','i','_','t','e','s'].reverse)=O Manifest.sig_set_iterator:=by kernel_rfl
theorem vF:Slot "set_iterator" "__next__" "set_iterator.__next__":=
 .of (owner:="set_iterator") (n:="__next__") (by refine M (afI ..) (M afJ ?_);kernel_rfl) (by decide+kernel) (by decide+kernel) (by decide+kernel)
  (by first |exact .inl (by decide+kernel) |exact .inr (by decide+kernel)) (by refine M (QP ..) ?_;kernel_rfl)
theorem L0:Hr pN "set_iterator.__next__"=O Builtin.«set_iterator.__next__»:=entryFor_of_tree (by kernel_rfl)
theorem L3(a:aJ):xD "set_iterator.__next__" ⟨[a],[]⟩:=by unfold xD;refine M (signature?_of (id:="set_iterator.__next__") (n:=['_','_','t','x','e','n','_','_']) (o:=['r','o','t','a','r','e','t','i','_','t','e','s']) (by kernel_rfl) XR) ?_;kernel_rfl
theorem XS:Hr pN "set.__iter__"=O Builtin.«frozenset.__iter__»:=
 entryFor_alias (id':="frozenset.__iter__") (by kernel_rfl) V (by decide+kernel) (by kernel_rfl)
theorem noBool_set:Ar (.type "set") "__bool__"=pure none:=by refine M (afI ..) (M afJ ?_);kernel_rfl
section
variable{E:aJ→aM→Prop}
theorem L4(f:dY w s.heap a b)(v:b.length < 4096)(h:Q (!b.isEmpty) {s with toks:=s.toks+1+1}):aN (aO pg w) A (truthy (.ref a)) Q E s:=by
 obtain⟨o,i,x,t,l,hex,m,n,p,y⟩:=id f;have q:i.size=b.length:=by refine aS n.length ?_;exact rfl
 have j:((i.size:Z) !=0)= !b.isEmpty:=by
  refine M q ?_;cases b with
  |nil=>rfl
  |cons z r=>
   have u:(((z::r).length:aA):Z)≠0:=by refine M j2 ?_;exact fB (dZ.mpr (ow _))
   exact bne_iff_ne.mpr u
 have k:aN (aO pg w) A (runValue (.builtin "len" ⟨[.ref a],[]⟩)) (fun r d=>r= .int i.size (s.toks+1)∧Q (!b.isEmpty) d) E s:=by
  refine afK (uG entry_len ?_)
  exact wpAny_mono (wpAny_len_body_set (Q:=fun r d=>r= .int i.size (s.toks+1)∧Q (!b.isEmpty) d) l hex m p (by omega) ⟨rfl,h⟩)
   (fun B d c=>by(refine aQ c ?_;clear c;rintro r rfl g);exact g) fun J J e=>e
 first
  |refine wpAny_bind (afL (name:=aH "__bool__") f.typeIs noBool_set ?_)
  |refine wpAny_bind (wpAny_pure (wpAny_bind (afL (name:=aH "__bool__") f.typeIs noBool_set ?_)))
 first
  |refine wpAny_bind (wX (name:=aH "__len__") f.typeIs R4.lookup ?_)
  |refine wpAny_bind (wpAny_pure (wpAny_bind (wX (name:=aH "__len__") f.typeIs R4.lookup ?_)))
 first
  |exact wpAny_bind (wpAny_mono k (fun r d c=>by(refine xa c ?_;clear c;rintro rfl g);exact wpAny_pure (j▸g)) fun J J e=>e)
  |exact wpAny_bind (wpAny_pure (wpAny_bind (wpAny_mono k (fun r d c=>by obtain⟨rfl,g⟩:=c;exact wpAny_pure (j▸g)) fun J J e=>e)))
noncomputable def vG(h:bF)(b a:aW)(c i d:aA):Prop:=
 h.get? b=O {cls:= .type "set_iterator",data:= .fields #[.int (c:Z) 0,.int (i:Z) 0,.ref a,.int 1 0,.int (d:Z) 0]}
structure nR(w:aV)(h:bF)(a:aW)(z:Z)(tz:gX)(j ep:aA)(t:uH):Prop where
 at_:∃o,h.get? a=O o∧o.ExactSet∧o.data= .set #[((intKind pg w).hash z,.int z tz)] ep t
 fits:t.fits 1=aF
 led:t.led= !fJ w
 place:t.place= #[j]
theorem dY.one(x:dY w h a [z]):∃tz j ep t,nR w h a z tz j ep t:=by
 obtain⟨o,es,ep,t,ho,hex,hd,o5,hf,hl⟩:=x;obtain⟨es⟩:=es;cases o5 with
 | @cons z' tk l' kE o5=>
  cases o5
  have hp:t.place.size=1:=by simp only[R3,gZ,me] at hf;exact hf.1
  obtain⟨j,hj⟩:∃j,t.place= #[j] :=by
   generalize t.place=pl at hp;obtain⟨pl⟩:=pl
   match pl,hp with
   |[j],_=>exact⟨j,rfl⟩|[],hp=>cases hp| _::_::_,hp=>simp at hp
  exact⟨tk,j,ep,t,⟨o,ho,hex,hd⟩,hf,hl,hj⟩
theorem XT{ep:aA}(x:nR w s.heap a z tz j ep t)
  (h:Q (.ref s.heap.objs.size) {s with heap:=s.heap.push {cls:= .type "set_iterator",data:= .fields #[.int ((0:aA):Z) 0,.int ((0:aA):Z) 0,.ref a,.int 1 0,.int (ep:Z) 0]}}):
  aN (aO pg w) A (Bf (.ref a)) Q E s:=by
 refine dB x.at_ fun o ho hex hd=> ?_;have hT:s.TypeIs (.ref a) "set":=⟨o,ho,hex.1⟩;have hf:t.fits (#[((intKind pg w).hash z,dU z tz)] :eW (Z×aJ)).size=true:=x.fits;refine wpAny_pyIter_slot hT afM (sz afM hT XS ?_ (F.args_set_iter_1 _));unfold Builtin.«frozenset.__iter__» ahA slotArgs;simp only[afF,Bool.not_true,afN,↓reduceIte,bind_assoc,xb,wY];refine wpAny_bind (wpAny_pure ?_);refine wpAny_bind (wpAny_pure ?_);refine wpAny_bind (wpAny_bind (R5 ho hd hf (wpAny_pure ?_)));refine wpAny_bind <|wpAny_bind (Be ho hd hf ?_)
 refine wpAny_bind (wpAny_bind (sx (wpAny_pure ?_)));refine wpAny_pure ?_
 split
 ·rename_i hh
  have hh:(!(fJ w) && (!t.plain && decide ((#[((intKind pg w).hash z,dU z tz)] :eW (Z×aJ)).size >1)))=true:=hh;simp at hh
 ·refine wpAny_bind (wpAny_pure ?_);refine wpAny_bind (wpAny_setEpoch_of ho hd hf ?_);exact wpAny_bind (nr (wpAny_pure ⟨_,rfl,"set_iterator",_,⟨_,fP _ V,rfl⟩,vF.lookup,h⟩))
theorem XU{a:Type}(f:aA→aA)(x:a):pickOrder f #[x] = #[x] :=
 aT (fun i=>ahB (fun J=>eW a) [x][i]? (fun y=>ahC f 0 1 ([x].eraseIdx i) (#[].push y)) fun J=> #[]) (Nat.mod_one (f 0))
theorem XV(x:nR w s.heap a z b j g t)(h:Q #[((intKind pg w).hash z,.int z b)] s)(c:fJ w=aF):aN (aO pg w) A (setWalk a) Q E s:=by
 refine dB x.at_ fun o d hex e=> ?_;have f:t.fits (#[((intKind pg w).hash z,dU z b)] :eW (Z×aJ)).size=true:=x.fits;refine wpAny_bind (Be d e f ?_);refine wpAny_bind (wpAny_bind (sx (wpAny_pure ?_)));refine M (show(Hq ⟨(aO pg w).prog,(aO pg w).w.params⟩).followText "set-order"=aF from c) <|wpAny_bind (sx ?_)
 exact M (XU ..) <|wpAny_pure h
theorem L5(x:nR w s.heap a z c j l t)
  (g:i=0∧slot=0∨i=1∧(slot=0∧fJ w=aF∨slot=j+1∧fJ w=aI))
  (h:i=0→∀d,(d=0∧fJ w=aF∨d=j+1∧fJ w=aI)→Q (O (.int z c,d)) s) (k:i=1→Q aB s):aN (aO pg w) A (setNext a slot i l) Q E s:=by
 refine dB x.at_ fun o m hex n=> ?_;have p:t.fits (#[((intKind pg w).hash z,dU z c)] :eW (Z×aJ)).size=true:=x.fits;refine wpAny_bind (Be m n p ?_);refine wpAny_bind (wpAny_bind (sx (wpAny_pure ?_)));cases b:fJ w with
 |true=>
  refine M (show(Hq ⟨(aO pg w).prog,(aO pg w).w.params⟩).followText "set-order"=aF from b) <|M (aR V) (M (aP (by simp)) ?_)
  refine wpAny_bind (XV x ?_ b);rcases g with⟨rfl,rfl⟩ |⟨rfl,⟨rfl,_⟩ |⟨_,e⟩⟩
  ·exact wpAny_pure (h V 0 (.inl ⟨rfl,b⟩))
  ·exact wpAny_pure (k V)
  ·replace e:=b▸e;cases e
 |false=>
  refine M (show(Hq ⟨(aO pg w).prog,(aO pg w).w.params⟩).followText "set-order"=aI from b) <|M (aP cL) ?_
  split
  ·rename_i f
   have f:(!t.plain && decide ((#[((intKind pg w).hash z,dU z c)] :eW (Z×aJ)).size >1))=true:=f;simp at f
  ·refine wpAny_bind (?_:aN _ _ (if(!t.led && !(#[((intKind pg w).hash z,dU z c)] :eW (Z×aJ)).isEmpty)=aF then unsupported "set:maker-not-led" else pure ()) _ _ _);refine M x.led (M b ?_);refine wpAny_pure <|M x.place ?_
   rcases g with⟨rfl,rfl⟩ |⟨rfl,⟨_,e⟩ |⟨rfl,_⟩⟩
   ·have:Hp #[j] 0=0:=rfl;exact wpAny_pure (h V (j+1) (.inr ⟨rfl,b⟩))
   ·replace e:=b▸e;cases e
   ·have:Hp #[j] (j+1)=1:=(by kernel_rfl:Hp #[j] (j+1)=if j < j+1 then afO #[j] (j+1) 0 1 1 else afO #[j] (j+1) 0 0 0).trans ((aR (lJ j)).trans rfl);exact M this <|wpAny_pure (k V)
theorem XW{b:aA}(x:nR w s.heap a z g j i t)(c:vG s.heap b a 0 0 i)(D:b≠a)
  (h:∀d f,vG d b a f 1 i→(f=0∧fJ w=aF∨f=j+1∧fJ w=aI)→iJ b s.heap d→Q (O (.int z g)) {s with heap:=d}):
  aN (aO pg w) A (xE (.ref b)) Q E s:=by
 refine dB x.at_ fun o l hex m=> ?_;have n:t.fits (#[((intKind pg w).hash z,dU z g)] :eW (Z×aJ)).size=true:=x.fits;have k:s.TypeIs (.ref b) "set_iterator":=⟨_,c,rfl⟩
 refine wpAny_bind (R6 (Hs (name:=aH "__next__") k vF
  (sz vF k L0 ?_ (L3 _))))
 refine wpAny_bind (wpAny_pure ?_);refine wpAny_bind (R7 c V ?_);dsimp only;refine wpAny_bind (R5 l m n ?_);refine wpAny_bind (L5 x (slot:=0) (i:=0) (.inl ⟨rfl,rfl⟩) (fun J p q=> ?_) (fun e=>by cases e));refine wpAny_bind (afP c (ow _) fun r u v=> ?_);refine wpAny_bind (afP (s:={s with heap:=r}) u (by simp) fun y B C=> ?_);exact wpAny_pure ⟨_,rfl,wpAny_pure (h y p (by unfold vG;refine M B ?_;exact rfl) q (v.trans C))⟩
theorem XX{b:aA}(h:A.handled=aB)(x:nR w s.heap a z i j k t)(c:vG s.heap b a d 1 k)(r:b≠a)
  (l:d=0∧fJ w=aF∨d=j+1∧fJ w=aI)
  (m:∀f,R8 b s.heap f→Q aB {s with heap:=f}):
  aN (aO pg w) A (xE (.ref b)) Q E s:=by
 refine dB x.at_ fun o n hex p=> ?_;have q:t.fits (#[((intKind pg w).hash z,dU z i)] :eW (Z×aJ)).size=true:=x.fits;have g:s.TypeIs (.ref b) "set_iterator":=⟨_,c,rfl⟩
 refine wpAny_bind (R6 (Hs (name:=aH "__next__") g vF
  (sz vF g L0 ?_ (L3 _))))
 refine wpAny_bind (wpAny_pure ?_);refine wpAny_bind (R7 c V ?_);dsimp only;refine wpAny_bind (R5 n p q ?_);refine wpAny_bind (L5 x (slot:=d) (i:=1) (.inr ⟨rfl,l⟩) (fun e=>by cases e) (fun J=> ?_));refine wpAny_bind (afQ c V (by simp) ?_);refine(wpAny_bind ?_:aN _ _ (newExc (.type "StopIteration") [] >>=_) _ _ _);refine wpAny_bind (nr ?_ (by size_fits));refine wpAny_bind (m:=Ht _ _) (mQ (a:=Value.none) (by first |rfl |(simp only[Ht];rfl)) ?_);refine nr ?_ (by size_fits);refine wpAny_bind (afR ?_);refine M (h:A.in1.handled=aB) <|wpAny_bind (wpAny_pure (wpAny_throw ?_))
 refine wpAny_bind (At (T:="StopIteration") (b:=aF) ⟨_,fP _ V,rfl⟩ afS ?_);exact wpAny_pure (m _ (((qB ..).extBut.push _).push _))
end
end
section
section
variable{E:aJ→aM→Prop}
theorem nR.at(x:nR w h a z b j c t)(k:∀o,h.get? a=O o→d.get? a=O o):nR w d a z b j c t:=
 aQ x.at_ fun o g r=>⟨⟨o,k _ g,r⟩,x.fits,x.led,x.place⟩
theorem rt(x:iJ c h a)(d:b≠c)(e:h.get? b=O o):a.get? b=O o:=(x.2 b d).trans e
theorem XY(a1:A.handled=aB)(K:dY w s.heap a [z])
  (a2:∀L d,(∀b o,s.heap.get? b=O o→L.get? b=O o)→a3 [.int z d] {s with heap:=L}):aN (aO pg w) A (collect (.ref a)) a3 E s:=by
 refine sF K.one fun d a4 f t x=> ?_;have p:a < s.heap.objs.size:=by refine xe K.get fun o a5=> ?_;exact fA a5
 refine wpAny_bind (afK (uG F.entry_proto_collect ?_));show aN _ A.in1 (R9 [] >>=fun a6=>again (.builtin "list.__iadd__" ⟨[a6,.ref a],[]⟩)) _ _ s;refine wpAny_bind (nr ?_);refine wpAny_pure ⟨Hn F.plain_list_iadd _,uG F.entry_list_iadd ?_⟩;show aN _ A.in1 (ahD (.ref s.heap.objs.size) (.ref a) (.ref s.heap.objs.size)) _ _ _;have q:∀b o,s.heap.get? b=O o→(s.heap.push {cls:= .type "list",data:= .seq ([] :aD aJ).toArray}).get? b=O o:=fun b o e=>eV _ e;have i:=x.at (q a);refine dB i.at_ fun a7 a8 a9 J=>wpAny_bind (wpAny_typeOf (T:="set") ⟨a7,a8,a9.1⟩ ?_);have a':afT (.ref s.heap.objs.size) (.ref a)=false:=by simp[afT];exact(fG p).symm
 have as:(Value.type "set"==Value.type "list")=false:=by decide
 have au:(Value.type "set"==Value.type "tuple")=false:=by decide
 refine wpAny_ite_split (fun r=>absurd (a'▸r) (by decide)) fun J=>wpAny_bind (XT (s:={s with heap:=s.heap.push {cls:= .type "list",data:= .seq ([] :aD aJ).toArray}}) i ?_);have u:(s.heap.push {cls:= .type "list",data:= .seq ([] :aD aJ).toArray}).get? s.heap.objs.size=O {cls:= .type "list",data:= .seq ([] :aD aJ).toArray}:=fP _ V;generalize av:s.heap.push {cls:= .type "list",data:= .seq ([] :aD aJ).toArray}=g at q i u ⊢;have j:s.heap.objs.size < g.objs.size:=fA u;dsimp only;generalize aa:g.objs.size=I at*;have v:(g.push {cls:= .type "set_iterator",data:= .fields #[.int ((0:aA):Z) 0,.int ((0:aA):Z) 0,.ref a,.int 1 0,.int (f:Z) 0]}).get? I=O {cls:= .type "set_iterator",data:= .fields #[.int ((0:aA):Z) 0,.int ((0:aA):Z) 0,.ref a,.int 1 0,.int (f:Z) 0]}:=by refine aS aa ?_;exact fP _ V
 have k:∀b o,g.get? b=O o→(g.push {cls:= .type "set_iterator",data:= .fields #[.int ((0:aA):Z) 0,.int ((0:aA):Z) 0,.ref a,.int 1 0,.int (f:Z) 0]}).get? b=O o:=fun b o e=>eV _ e;generalize aw:g.push {cls:= .type "set_iterator",data:= .fields #[.int ((0:aA):Z) 0,.int ((0:aA):Z) 0,.ref a,.int 1 0,.int (f:Z) 0]}=h at v k ⊢;have N:=i.at (k a);have P:=k _ _ u;have l:s.heap.objs.size≠I:=fG j;have Q:s.heap.objs.size≠a:=(fG p).symm;have y:I≠a:=fun e=>by rw[e] at j;exact absurd j (jA.mpr (fE p))
 have ax:({s with heap:=h}:aM).TypeIs (.ref I) "set_iterator":=⟨_,v,rfl⟩;refine wpAny_bind (ii ?_);refine dB N.at_ fun ab ae af J=> ?_;have B:({s with heap:=h}:aM).TypeIs (.ref a) "set":=⟨ab,ae,af.1⟩;refine wpAny_bind (wX B R4.lookup ?_)
 (generalize C:("set.__len__":eA)=R;(fail_if_success (clear C R));wp_delta;refine M (show splitId R=O ("set","__len__") from by subst C;decide+kernel) ?_;subst C)
 refine wpAny_bind (At (b:=aF) B (by refine M (QP ..) ?_;kernel_rfl) ?_);refine M (aP (by decide)) <|wpAny_ite_split (fun J=> ?_) (fun r=>absurd (by decide+kernel) r)
 refine wpAny_bind (wpAny_typeOf B ?_);refine wpAny_pure ?_
 show aN _ A.in1 (rule "list.extend.makes-room" >>=fun J=>ahE (.ref s.heap.objs.size) >>=fun J=>
  again (.builtin "list.extend.loop" ⟨[.ref s.heap.objs.size,.ref I,.ref s.heap.objs.size],[]⟩)) _ _ _
 refine wpAny_bind (Ge ?_);refine wpAny_bind ?_;show aN _ A.in1 (updateSeq s.heap.objs.size (·.push .none) >>=fun J=>updateSeq s.heap.objs.size (·.pop)) _ _ _;refine wpAny_bind (Sa P V ?_);have S:=r8 (mK (·.push Value.none)) P V;refine Sa S V ?_;have T:=r8 (mK (·.pop)) S V
 have m:∀b o,b≠s.heap.objs.size→h.get? b=O o→((h.update s.heap.objs.size (mK (·.push Value.none))).update s.heap.objs.size (mK (·.pop))).get? b=O o:=
  fun b o c e=>(GO _ _ (Ne.symm c)).trans ((GO _ _ (Ne.symm c)).trans e)
 generalize(h.update s.heap.objs.size (mK (·.push Value.none))).update s.heap.objs.size (mK (·.pop))=ah at m T ⊢;have U:=N.at (m a · Q.symm);have ai:=m _ _ l.symm v;refine wpAny_pure ⟨Hn afU _,uG afV ?_⟩;show aN _ A.in1 (xE (.ref I) >>=_) _ _ _;refine wpAny_bind (XW (s:={s with heap:=ah}) U ai y fun D ak al am G=> ?_);have W:=rt G l T;refine wpAny_bind (Sa W V ?_);have X:=r8 (mK (·.push (dU z d))) W V;have n:∀b o,b≠s.heap.objs.size→D.get? b=O o→(D.update s.heap.objs.size (mK (·.push (dU z d)))).get? b=O o:=fun b o c e=>(GO _ _ (Ne.symm c)).trans e;generalize D.update s.heap.objs.size (mK (·.push (dU z d)))=H at n X ⊢;have an:nR w H a z d a4 f t:=(U.at fun o e=>rt G y.symm e).at fun o e=>n a o Q.symm e;have ao:vG H I a ak 1 f:=n _ _ l.symm al;refine wpAny_pure ⟨Hn afU _,uG afV ?_⟩;show aN _ A.in1 (xE (.ref I) >>=_) _ _ _;refine wpAny_bind (XX (s:={s with heap:=H}) a1 an ao y am fun ap ext=> ?_);refine wpAny_pure ?_;have aq:=ext _ _ l X;refine wpAny_bind (wpAny_load aq ?_);refine wpAny_pure (a2 ap d fun b o e=> ?_);have c:b < s.heap.objs.size:=fA e;have Y:b≠s.heap.objs.size:=fG c;have a0:b≠I:=fun ar=>by rw[ar] at c;exact absurd c (jA.mpr (fE j))
 exact ext _ _ a0 (n _ _ Y (rt G a0 (m _ _ Y (k _ _ (q _ _ e)))))
theorem XZ(p:A.handled=aB)(r:dY w s.heap a [z])
  (h:∀i l c,(∀b o,s.heap.get? b=O o→i.get? b=O o)→s.heap.get? l=aB→i.IsList l #[.int z c]→Q (.ref l) {s with heap:=i}):aN (aO pg w) A (call (.builtin "sorted") [.ref a]) Q E s:=by
 refine Sb kind_sorted plain_sorted entry_sorted (args_sorted1 _) <|wpAny_bind (m:=checkCount "sorted" 1 1 _) (wpAny_pure ?_)
 refine wpAny_bind (XY p r fun d c j=> ?_);refine wpAny_bind (wpAny_newList ?_);have k:(d.push (Sd "list" [dU z c].toArray 0)).get? d.objs.size=O (Sd "list" [dU z c].toArray 0):=fP _ V;have t:iY [dU z c] [z] := .cons z c .nil;refine wpAny_bind (ii (sz (s:={s with heap:=d.push (Sd "list" [dU z c].toArray 0)}) slot_list_sort ⟨_,k,rfl⟩ entry_list_sort (list_sort_tree k t (by show 1 < 64;decide) fun m u v x B=>⟨_,rfl,?_⟩) (args_list_sort _)));obtain rfl:u=[z] :=afW.mp x;obtain⟨m⟩:=m
 obtain⟨f,rfl⟩:∃f,m=[.int z f] :=by cases v with |cons _ _ h=>cases h;exact⟨_,rfl⟩
 obtain⟨e,y⟩:=sortedHeap_at (out:= #[dU z f]) k;refine wpAny_pure ⟨_,rfl,h _ d.objs.size f (fun b o g=> ?_) ?_ ⟨_,y,rfl,e,rfl⟩⟩
 ·have n:b < d.objs.size:=fA (j b o g);refine M (sortedHeap_old (fG n) (by refine M (size_push' ..) ?_;exact sv n)) (M (Heap.get?_push_ne _ _ _ (fG n)) ?_);exact j b o g
 ·cases q:s.heap.get? d.objs.size with
  |none=>rfl|some o=>exact absurd (j _ _ q) (by refine M fR ?_;intro z;cases z)
theorem X0:Hr pN "iter"=O Builtin.«iter»:=afX (by kernel_rfl)
theorem X1:Hr pN "next"=O Builtin.«next»:=afX (by kernel_rfl)
theorem X3(a:aJ):xD "iter" ⟨[a],[]⟩:=by unfold xD;kernel_rfl
theorem X4(a:aJ):xD "next" ⟨[a],[]⟩:=by unfold xD;kernel_rfl
theorem X5(h:aN (aO pg w) A.in1 (Bf x) Q E s):aN (aO pg w) A (call (.builtin "iter") [x]) Q E s:=by
 refine Sb (by decide+kernel) (by decide+kernel) X0 (X3 _) <|wpAny_bind (m:=someArgs "iter" 1 2 _) (mQ (a:=[x]) (by first |rfl |kernel_rfl!) ?_)
 refine wpAny_bind (wpAny_mono h (fun v a q=> ?_) fun J J e=>e);exact wpAny_pure ⟨_,rfl,q⟩
theorem X6{a:aW}(c:s.heap.IsListIter a l i)(f:s.heap.IsList l items)(g:items[i]? =O x)
  (h:∀e,e.IsListIter a l (i+1)→iJ a s.heap e→Q x {s with heap:=e}):aN (aO pg w) A (call (.builtin "next") [.ref a]) Q E s:=by
 refine dB (id c) fun o d j b=> ?_;(refine uO f ?_;clear f;rintro p k _ q m);refine Sb (by decide+kernel) (by decide+kernel) X1 (X4 _) <|wpAny_bind (m:=someArgs "next" 1 2 _) (mQ (a:=[QW a]) (by first |rfl |kernel_rfl!) ?_)
 dsimp only;refine wpAny_bind (wX (name:=aH "__next__") c.typeIs Se.lookup ?_);refine wpAny_ite_split (fun n=>absurd n (by decide)) (fun J=> ?_)
 refine wpAny_bind (Hs (name:=aH "__next__") c.typeIs Se
  (sz Se c.typeIs entry_listiter_next ?_ (args_listiter_next _)))
 refine(wpAny_bind (wpAny_field d b (x:= .ref l) V ?_):aN _ _ (field (.ref a) 0 >>=_) _ _ s);refine(wpAny_bind (wpAny_field d b (x:= .int i 0) V ?_):aN _ _ (field (.ref a) 1 >>=_) _ _ s);refine wpAny_bind (Sf k m ?_);simp only[oF,g];refine wpAny_bind (afQ d b (by simp) (wpAny_pure ⟨x,rfl,wpAny_pure ⟨_,rfl,h _ ?_ (qB ..)⟩⟩))
 exact⟨_,r8 _ d (Obj.isFreed_of_fields (afY b _)),(Obj.cls_mapFields ..).trans j,by refine M (afY b ..) ?_;exact rfl⟩
end
end
section
section
variable{K:PK}
theorem X7{w:aV}{A:bX}{s:aM}{c:gI}{h:bF}{q:Str}{Q:aU→aM→Prop}{E:aJ→aM→Prop}(d:h.CodeRec c.code q)(f:∀b o,h.get? b=O o→s.heap.get? b=O o)(a:∀b,Q b s):aN (aO pg w) A (inMainModule c) Q E s:=by
 (refine BE d ?_;clear d;rintro j k l m e g i _);unfold inMainModule;refine M e ?_
 split
 ·exact wpAny_pure (a _)
 ·refine wpAny_bind (R7 (f _ _ g) i ?_);generalize Array.getD _ 18 Value.none=z;cases z with
  |str=>exact wpAny_bind (sx (wpAny_pure (a _)))| _=>exact wpAny_pure (a _)
theorem X8{w:aV}{A:bX}{s:aM}{a:gI}{e:Expr}{k:aA}{c:bG}{h:bF}{q:Str}{Q:aJ→aM→Prop}{E:aJ→aM→Prop}(f:h.CodeRec a.code q)(g:∀b o,h.get? b=O o→s.heap.get? b=O o)
  (i:displayRoad k [e] = .oneByOne) (j:dF [e] a=(aI,eval e a)::dF [] a)
  (l:aN (aO pg w) A (eval e a) (fun v d=>aN (aO pg w) A (R2 s.heap.objs.size v) (fun J m=>Q (.ref s.heap.objs.size) m) E d) E {s with heap:=s.heap.push {cls:= .type "set",dict:=aB,data:= .set #[] 0 (.fresh 0 0 (!fJ w))}}):
  aN (aO pg w) A (eval (.Set [e] k c) a) Q E s:=by
 refine wpAny_bind (jg ?_);refine wpAny_bind (X7 f g fun b=> ?_);refine M j (M i ?_);unfold setDisplay;refine wpAny_bind (Xq ?_);refine wpAny_bind (ii ?_);refine wpAny_bind (m:=evalAll _) (?_:aN (aO pg w) A ((eval e a >>=fun v=>np c >>=fun J=>pure v) >>=fun v=>r9 [v] (pure []) >>=fun r=>pure (v::r)) _ E _);refine wpAny_bind (wpAny_bind (wpAny_mono l (fun v d n=> ?_) fun J J x=>x));refine wpAny_bind (jg (wpAny_pure ?_));refine wpAny_bind (ii (wpAny_pure (wpAny_pure ?_)));refine wpAny_bind (ii ?_);refine wpAny_bind <|M (wW ..) ?_
 refine wpAny_bind (wpAny_bind (wpAny_mono n (fun J t p=> ?_) fun J J x=>x));refine wpAny_pure ?_;dsimp only;refine wpAny_pure <|wpAny_pure ?_
 exact wpAny_pure (wpAny_pure p)
theorem nc{E:aJ→aM→Prop}(H:fD c e f)(F:Fm c K m g s)(a:c.env.kindOf x=O .local)(b:m x=O v)(d:(x==("__debug__":Str))=aI)(h:Q v s):
  aN (aO pg w) A (eval (.Name x i) c.env) Q E s:=pF (GF H.kind a F.ns b h) d
theorem vH{E:aJ→aM→Prop}(G:Gd w c f K m aB s z)(H:fD c N f)(B:c.env.kindOf x=O .local)(C:∀(i:aA) y k,f[i]? =O (y,k)→y≠x)
  (h:∀g,Gd w c f K (fun y=>if y=x then O v else m y) aB g z→KB c aB s.heap g.heap→Q () g):aN (aO pg w) A (Rx c.env x v) Q E s:=
 uw B G.F.ns (fun P D d=>by
  have F:=G.F;refine h _ ⟨{ns:=D,keep:=fun b o e=>(d.2 b ?_).trans (F.keep b o e),dH:=F.dH,low:=F.low,le:=F.le,cT:=fun b o n e=>(d.2 b ?_).trans (F.cT b o n e),new:=F.new,cX:=F.cX,mul:=fun a R S e=>((by contradiction)),gens:=F.gens,os:=F.os,base:=F.base,dO:=F.dO,eX:=F.eX,tabs:=fun t l=>(F.tabs t l).mono (fun J J e=>e) fun o e=>(d.2 _ (F.off F.cX t l)).trans e},?_,G.Mi,fun J J J e=>((by contradiction))⟩ fun b o e I J J=>(d.2 b I).trans e
  ·intro j;rw[j,F.dH] at e;exact nn e
  ·intro j;rw[j,F.cX] at e;exact nn e
  ·intro i y k p q L;have:=G.L i y k p q L;cases k with
   |false=>exact this
   |true=>
    (refine aQ this ?_;clear this;rintro u e r);exact⟨u,(aP (C i y aF q)).trans e,r⟩) (va H)
structure Lies(w:aV)(c:Cx)(K:PK)(h:bF)(a:aW)(zs:aD Z):Prop where
 set:dY w h a zs
 un:K a=aB
 nl:a≠c.env.locals
 hE:c.hE.get? a=aB
theorem Lies.ev(x:Lies w c K s.heap a d)(F:Fm c K m aB s)(b:KB c aB s.heap f)(h:∀b,s.heap.get? b≠aB→b≠c.env.locals→K b=aB→i b=aB):Lies w c i f a d:=by exact xe x.set.get fun o g=>⟨x.set.at fun o e=>b a o e x.nl (by intro z;cases z) (F.off x.hE),h a (by refine M g ?_;intro z;cases z) x.nl x.un,x.nl,x.hE⟩
theorem Lies.i5(x:Lies w c K s.heap a d)(F:Fm c K m aB s)(b:KB c aB s.heap f):Lies w c K f a d:=x.ev F b fun J J J e=>e
theorem Lies.other(x:Lies w c K h a b)(d:iJ f h h')(g:a≠f):Lies w c K h' a b:=⟨x.set.at fun o e=>rt d g e,x.un,x.nl,x.hE⟩
theorem Lies.grow(x:Lies w c K h a d)(e:∀b o,h.get? b=O o→h'.get? b=O o):Lies w c K h' a d:=⟨x.set.at (e a),x.un,x.nl,x.hE⟩
theorem Lies.now(x:Lies w c K h a e)(y:dY w b a d):Lies w c K b a d:=⟨y,x.un,x.nl,x.hE⟩
theorem Lies.wrote(x:Lies w c K h a k)(G:Gd w c d K m aB s f)(g:iJ a s.heap s'.heap)(i:s'.os=s.os)(j:s'.gens=s.gens):Gd w c d K m aB s' f:=
 ⟨G.F.wrote x.un x.nl (by intro z;cases z) x.hE (fun b o n e=>rt g n e) i (by refine M j ?_;exact G.F.gens),G.L,G.Mi,G.fl⟩
theorem Gd.grown(G:Gd w c a K m aB s d)(e:∀b o,s.heap.get? b=O o→s'.heap.get? b=O o)(f:s'.os=s.os)(g:s'.gens=s.gens):Gd w c a K m aB s' d:=by have h:=G.F.grow (h':=s'.heap) (tk:=s'.toks) e;exact⟨{h with gens:=by refine M g ?_;exact G.F.gens,os:=f.trans G.F.os},G.L,G.Mi,G.fl⟩
theorem Lies.fresh(F:Fm c K m aB s)(y:dY w a s.heap.objs.size b):Lies w c K a s.heap.objs.size b:=
 ⟨y,(by
  cases e:K s.heap.objs.size with
  |none=>rfl|some o=>have:=F.keep _ _ e;rw[fR] at this;exact nn this),eG F.BM,F.Iv⟩
theorem ru(W:∀f∈(["int","set","iter","next","sorted","enumerate","print","ZeroDivisionError"] :aD eA),c.mg (aH f)=aB){E:aJ→aM→Prop}(H:fD c a j)(F:Fm c K m k s)
  (b:f∈(["int","set","iter","next","sorted","enumerate","print","ZeroDivisionError"] :aD eA)) (d:aH f=x) (e:jp a x=aF) (g:xd x=O v) (i:x≠"__name__") (h:Q v s):aN (aO pg w) A (eval (.Name x l) c.env) Q E s:=
 qd H e F (d▸W f b) g i h
end
end
section
noncomputable def eQ:Tb:=[("w",aF),("base",aF),("more_than",aF),("show",aF),("lo",aF),("first",aF)]
theorem X9:jc (aK 5).scope eQ=true:=by decide+kernel
inductive C8(lb:aD bR):Prop
 |mk (s1 s2 s3 s4 s5 s6 s7:bR) (a1 a2 a3 a4 a5:_) (a6 a7 a8 le a9 X' Ya:_) (b1 b2 b3 b4 b5:_) (g1 L6 g2:_) (c1 c2 c3 c4 c5:_) (d1 d2 d3 d4 d5:_) (tt e1 e2 lo e4 e5 e6:_) (L7:s1= .Assign [.Name "w" a1] (.Call (.Attribute (.Name "ws" a2) "pop" a3) [] [] a4) a5) (L8:s2= .If (.BoolOp .Or [.Compare (.Name "w" a6) [.In] [.Name "seen" a7] a8,le] a9) [.Continue X'] [] Ya) (L9:s3= .Expr (.Call (.Attribute (.Name "seen" b1) "add" b2) [.Name "w" b3] [] b4) b5) (Yb:s4= .Assign [.Name "lo" g1] L6 g2) (Yc:s5= .Expr (.Call (.Attribute (.Name "need" c1) "add" c2) [.Name "lo" c3] [] c4) c5) (Yd:s6= .Expr (.Call (.Attribute (.Name "ws" d1) "add" d2) [.Name "lo" d3] [] d4) d5) (Ye:s7= .If tt [.Expr (.Call (.Attribute (.Name "ws" e1) "add" e2) [lo] [] e4) e5] [] e6) (h1:lb=[s1,s2,s3,s4,s5,s6,s7]) (h2:bC (aK 5).scope eQ (.cmp .LtE (.nm 0) (.nm 2)) le=aF) (h3:bC (aK 5).scope eQ (.bin .RShift (.nm 0) (.int 1)) L6=aF) (h4:bC (aK 5).scope eQ (.bin .BitAnd (.nm 0) (.int 1)) tt=aF) (h5:bC (aK 5).scope eQ (.bin .Add (.nm 4) (.int 1)) lo=aF) (h6:(a3.endLine==a4.line)=aF) (h7:(b2.endLine==b4.line)=aF) (h8:(c2.endLine==c4.line)=aF) (h9:(d2.endLine==d4.line)=aF) (B5:(e2.endLine==e4.line)=aF):C8 lb
inductive Ma(sets:aD bR):Prop
 |mk (s1 s2 s3:bR) (p1 p2 p3 p4 p5 p6 p7 p8 p9 lf lh na:_) (L7:s1= .Assign [.Name "seen" p1] (.Call (.Name "set" p2) [] [] p3) p4) (L8:s2= .Assign [.Name "need" p5] (.Call (.Name "set" p6) [] [] p7) p8) (L9:s3= .Assign [.Name "ws" p9] (.Set [.Name "w" lf] 0 lh) na) (h:sets=[s1,s2,s3]):Ma sets
inductive Mb:Prop
 |mk (s1 s2 s3 s4 s5 s6 s7 s8 s9 vI vJ yK:bR) (p1 p2 p3 p4 p5 p6 p7 p8 p9 lf lh na:_) (lb yI yJ:_) (Mc yL yM vK yN:_) (x5 yO:_) (yP yQ yR Md Me Mf Mg:_) (Mh Mj Mk Ml Mm:_) (t8 x8 Mn:_) (pw Mo Mp Mq Mr:_) (Ms Mt fb Mv:_) (Mw Mx:_) (L7:s1= .Assign [.Name "seen" p1] (.Call (.Name "set" p2) [] [] p3) p4) (L8:s2= .Assign [.Name "need" p5] (.Call (.Name "set" p6) [] [] p7) p8) (L9:s3= .Assign [.Name "ws" p9] (.Set [.Name "w" lf] 0 lh) na) (Yb:s4= .While (.Name "ws" yI) lb [] yJ) (Yc:s5= .Assign [.Name "d" Mc] (.Dict [] [] yL) yM) (Yd:s6= .If (.UnaryOp .Not (.Name "need" vK) yN) x5 [] yO) (Ye:s7= .Assign [.Name "it" yP] (.Call (.Name "iter" yQ) [.Call (.Name "sorted" yR) [.Name "need" Md] [] Me] [] Mf) Mg) (se8:s8= .Assign [.Name "first" Mh] (.Call (.Name "next" Mj) [.Name "it" Mk] [] Ml) Mm) (se9:s9= .If t8 x8 [] Mn) (ag':vI= .Assign [.Subscript (.Name "d" Mo) (.Name "first" Mp) Mq] pw Mr) (aha:vJ= .For (.Name "this" Ms) (.Name "it" Mt) fb [] Mv) (ahb:yK= .Return (O (.Name "d" Mw)) Mx) (h1:(aK 5).body=[s1,s2,s3,s4,s5,s6,s7,s8,s9,vI,vJ,yK]) (h2:bC (aK 5).scope eQ (.nm 3) t8=aF) (h3:bC (aK 5).scope eQ (.bin .Pow (.nm 1) (.nm 5)) pw=aF) (h4:C8 lb):Mb
theorem Yf:Mb:=by refine⟨_,_,_,_,_,_,_,_,_,_,_,_,_,_,_,_,_,_,_,_,_,_,_,_,_,_,_,_,_,_,_,_,_,_,_,_,_,_,_,_,_,_,_,_,_,_,_,_,_,_,_,_,_,_,_,_,_,_,_,_,rfl,rfl,rfl,rfl,rfl,rfl,rfl,rfl,rfl,rfl,rfl,rfl,rfl,by decide+kernel,by decide+kernel,?_⟩;exact⟨_,_,_,_,_,_,_,_,_,_,_,_,_,_,_,_,_,_,_,_,_,_,_,_,_,_,_,_,_,_,_,_,_,_,_,_,_,_,_,_,_,_,_,_,rfl,rfl,rfl,rfl,rfl,rfl,rfl,rfl,by decide+kernel,by decide+kernel,by decide+kernel,by decide+kernel,by decide,by decide,by decide,by decide,by decide⟩
end
section
noncomputable def ju(x:Z)(lo fi:aG PV):aD (aG PV):=[O (.int x),O (.int 5),O (.int 2048),O (.bool aI),lo,fi]
structure LQ(w:aV)(c:Cx)(a1 a2 a3:aW)(K:PK)(m:Str→aG aJ)(s:aM)(x:Z)(lo fi:aG PV)(ku need ws:aD Z):Prop where
 G:Gd w c eQ K m aB s {loc:=ju x lo fi}
 m1:m "seen"=O (.ref a1)
 m2:m "need"=O (.ref a2)
 m3:m "ws"=O (.ref a3)
 l1:Lies w c K s.heap a1 ku
 l2:Lies w c K s.heap a2 need
 l3:Lies w c K s.heap a3 ws
 C9:a1≠a2
 yS:a1≠a3
 yT:a2≠a3
section
variable{K:PK}{lo fi:aG PV}{ku need ws:aD Z}
theorem LQ.tok(L:LQ w c f g h K m s x lo fi ku need ws)(a:d.heap=s.heap)(i:d.os=s.os)(j:d.gens=s.gens):LQ w c f g h K m d x lo fi ku need ws:=
 {L with G:=L.G.grown (fun b o e=>by refine M a ?_;exact e) i j,l1:=by refine M a ?_;exact L.l1,l2:=by refine M a ?_;exact L.l2,l3:=by refine M a ?_;exact L.l3}
theorem LQ.ev(L:LQ w c f g h K m s x lo fi ku need ws)(k:PK.le K a)(F:Fm c a m aB e)(b:KB c aB s.heap e.heap)(d:∀b,s.heap.get? b≠aB→b≠c.env.locals→K b=aB→a b=aB):LQ w c f g h a m e x lo fi ku need ws:=
 {L with G:=L.G.of k F,l1:=L.l1.ev L.G.F b d,l2:=L.l2.ev L.G.F b d,l3:=L.l3.ev L.G.F b d}
theorem LQ.i5(L:LQ w c h i j K m s x lo fi ku need ws) {d e f} (G:Gd w c eQ K a aB g {loc:=ju d e f})(b:KB c aB s.heap g.heap)(k:a "seen"=m "seen")(l:a "need"=m "need")(n:a "ws"=m "ws"):LQ w c h i j K a g d e f ku need ws:=
 ⟨G,k.trans L.m1,l.trans L.m2,n.trans L.m3,L.l1.i5 L.G.F b,L.l2.i5 L.G.F b,L.l3.i5 L.G.F b,L.C9,L.yS,L.yT⟩
theorem LQ.w3(L:LQ w c e f b K m s x lo fi ku need ws)(d:iJ b s.heap a.heap)(g:dY w a.heap b h)(i:a.os=s.os)(j:a.gens=s.gens):LQ w c e f b K m a x lo fi ku need h:=
 {L with G:=L.l3.wrote L.G d i j,l3:=L.l3.now g,l1:=L.l1.other d L.yS,l2:=L.l2.other d L.yT}
theorem yU{ex:Expr}(Y:Hyp w A c sc tb P n)(G:Gd w c tb K m aB s σ)(hm:m y=O (.ref a))(hk:c.env.kindOf y=O .local)(hd:(y==("__debug__":Str))=aI)
  (L:Lies w c K s.heap a zs) (hz:zs.length < 1000) (Yg:(ap.endLine==cp.line)=aF) (ho:bC sc tb e ex=aF) (he:ev P σ e=O (.int k)) (Yh:k∉zs)
  (k':∀K' kE s',PK.le K K'→Gd w c tb K' m aB s' σ→(∃h1,KB c aB s.heap h1∧iJ a h1 s'.heap)→(∀b,s.heap.get? b≠aB→b≠c.env.locals→K b=aB→K' b=aB)→nB kE (k::zs)→Lies w c K' s'.heap a kE→Q .next s'):
  aN (aO pg w) A (ji (.Expr (.Call (.Attribute (.Name y p1) "add" ap) [ex] [] cp) pp) c.env) Q (fun J J=>bO) s:=by
 refine ri Y.H V (sn V ?_ Yg (nc Y.H G.F hk hm hd ⟨"set","set.add",afZ,PySem.F.slot_set_add,PySem.F.type_set_add,L.set.typeIs,?_,?_⟩))
 ·refine M (i0 ho [] c.env) ?_;rfl
 ·intro b e;cases e;obtain⟨o,es,ep,t,g,hx,_⟩:=L.set;exact⟨o,g,hx.2.1⟩
 ·refine JX (i0 ho [] c.env) (nQ Y ho he G fun K1 v s1 k1 F1 b1 r1 hn=> ?_);(refine xe r1.int_inv ?_;rintro t rfl);have L1:=L.ev G.F b1 hn;refine XM L1.set (ko (bL hz (by decide))) Yh fun h' kE hs hp hS=> ?_;have G1:=G.of k1 F1;exact k' K1 kE _ k1 (L1.wrote (s':={s1 with heap:=h',toks:=s1.toks+1}) G1 hs V rfl) ⟨_,b1,hs⟩ hn hp (L1.now hS)
end
end
section
section
variable{K:PK}{lo fi:aG PV}{ku need ws:aD Z}
theorem mz(H:fD c a b)(h:a.names.lookup y=O k):c.env.kindOf y=O k:=by refine(M H.scope ?_:c.env.scope.names.lookup y=O k);exact h
theorem vL(h:nB a [k]):a=[k] :=afW.mp h
theorem LQ.Yi(L:LQ w c a j k K m s x lo fi ku need ws)(G:Gd w c eQ d m aB e {loc:=ju x lo fi})(g:∃f,KB c aB s.heap f∧iJ a f e.heap)(h:∀b,s.heap.get? b≠aB→b≠c.env.locals→K b=aB→d b=aB)(l:Lies w c d e.heap a n):LQ w c a j k d m e x lo fi n need ws:=by
 (refine aQ g ?_;clear g;rintro f b i)
 exact{L with G:=G,l1:=l,l2:=(L.l2.ev L.G.F b h).other i (Ne.symm L.C9),l3:=(L.l3.ev L.G.F b h).other i (Ne.symm L.yS)}
theorem LQ.Yj(L:LQ w c j a k K m s x lo fi ku need ws)(G:Gd w c eQ d m aB e {loc:=ju x lo fi})(g:∃f,KB c aB s.heap f∧iJ a f e.heap)(h:∀b,s.heap.get? b≠aB→b≠c.env.locals→K b=aB→d b=aB)(l:Lies w c d e.heap a n):LQ w c j a k d m e x lo fi ku n ws:=by
 (refine aQ g ?_;clear g;rintro f b i)
 exact{L with G:=G,l2:=l,l1:=(L.l1.ev L.G.F b h).other i L.C9,l3:=(L.l3.ev L.G.F b h).other i (Ne.symm L.yT)}
theorem LQ.My(L:LQ w c j k a K m s x lo fi ku need ws)(G:Gd w c eQ d m aB e {loc:=ju x lo fi})(g:∃f,KB c aB s.heap f∧iJ a f e.heap)(h:∀b,s.heap.get? b≠aB→b≠c.env.locals→K b=aB→d b=aB)(l:Lies w c d e.heap a n):LQ w c j k a d m e x lo fi ku need n:=by
 (refine aQ g ?_;clear g;rintro f b i)
 exact{L with G:=G,l3:=l,l1:=(L.l1.ev L.G.F b h).other i L.yS,l2:=(L.l2.ev L.G.F b h).other i L.yT}
inductive C'(w:aV)(c:Cx)(a1 a2 a3:aW)(K:PK)(W:Z)(f:j3)(s':aM):Prop
 |mk (e:f= .next) (K':PK) (m':Str→aG aJ) (x':Z) (Yk:aG PV) (k:PK.le K K') (L:LQ w c a1 a2 a3 K' m' s' x' Yk aB [W] [1025] []):C' w c a1 a2 a3 K W f s'
inductive Db(w:aV)(c:Cx)(a1 a2 a3:aW)(K:PK)(W:Z)(left:aA)(s1:aM):Prop
 |mk (K1:PK) (m1:Str→aG aJ) (x1:Z) (bA:aG PV) (Dc Dd yV:aD Z) (k:PK.le K K1) (L:LQ w c a1 a2 a3 K1 m1 s1 x1 bA aB Dc Dd yV)
   (h:(Dc=[]∧Dd=[]∧yV=[W]∧left=4)∨(Dc=[W]∧Dd=[1025]∧(∀z∈yV,z≤2048)∧yV.length=left∧left≤2)):Db w c a1 a2 a3 K W left s1
theorem Yl(B:W=2050∨W=2051)(Y:Hyp w ay c (aK 5).scope eQ bJ n)
  (az:C8 b0)
  (b1:LQ w c a d e K m b2 x lo aB [] [] [W]):
  aN (aO pg w) ay (ji (.While (.Name "ws" b3) b0 [] d3) c.env) (C' w c a d e K W) (fun J J=>bO) b2:=by
 obtain⟨p,d4,P,aa,Q,d5,ab,d6,d7,d8,d9,d',b4,da,db,dc,dd,de,df,dg,dh,di,ae,af,dj,dk,dm,dn,dp,dq,dr,ds,dt,du,dv,dw,dx,dy,dz,e0,bA,e5,e7,e8,b5,b6,b7,b8,b9,b',ah,rfl,ai,aj,ak,ba,bc,bd,be,bf,bg⟩:=az;have C:c.env.kindOf "ws"=O .local:=mz Y.H (by decide+kernel);have al:c.env.kindOf "seen"=O .local:=mz Y.H (by decide+kernel);have bh:c.env.kindOf "need"=O .local:=mz Y.H (by decide+kernel);refine wpAny_While (th (Q:=C' w c a d e K W) Y.hh (aeZ (I:=Db w c a d e K W) (fun left p bi=> ?_) 4 ⟨K,m,x,lo,[],[],[W],.refl K,b1,.inl ⟨rfl,rfl,rfl,rfl⟩⟩));obtain⟨D,R,S,g,q,E,r,T,s,F⟩:=bi
 have U:r.length≤2:=by
  rcases F with⟨_,_,h,_⟩ |⟨_,_,_,bj,bk⟩
  ·refine M h ?_;exact uI 1
  ·exact aL (cM bj) bk
 refine RS (whole:=eval (.Name "ws" b3) c.env) (nc Y.H s.G.F C s.m3 (by decide) (L4 s.l3.set (cC U (by decide)) ?_)) V;have f:LQ w c a d e D R {p with toks:=p.toks+1+1} S g aB q E r:=s.tok V rfl rfl
 by_cases X:r=[]
 ·subst X;rcases F with⟨_,_,h,_⟩ |⟨rfl,rfl,_,_,_⟩
  ·cases h
  ·exact M (aP (by decide)) <|wpAny_execs_nil ⟨rfl,D,R,S,g,T,f⟩
 ·have bl:(!r.isEmpty)=true:=by cases r with |nil=>exact absurd rfl X |cons=>rfl
  refine M (aR bl) <|wpAny_mono (Q:=fun a0 P=>(a0= .next∨a0= .cont)∧∃m,m < left∧Db w c a d e K W m P) (E:=fun J J=>bO) ?_ (fun a0 P h=>by
   obtain⟨rfl |rfl,h⟩:=h
   ·exact h
   ·exact h) fun J J x=>x.elim
  refine wpAny_execs_cons <|M b5 ?_
  refine iX (sn V rfl bc (nc Y.H f.G.F C f.m3 (by decide) ⟨"set","set.pop",afZ,PySem.F.slot_set_pop,PySem.F.type_set_pop,f.l3.set.typeIs,?_,nt V (GK (XQ f.l3.set X (cC U (by decide)) fun bm z t u bn bo G bp=> ?_))⟩)) V
  ·intro b bq;cases bq;obtain⟨o,e',ea,t,br,bs,_⟩:=f.l3.set;exact⟨o,br,bs.2.1⟩
  have a1:LQ w c a d e D R {p with toks:=p.toks+1+1,heap:=bm,drawn:=bn} S g aB q E u:=f.w3 bo bp V rfl;refine kB (i:=0) (x:="w") a1.G Y.H (by decide+kernel) (.int (t:=t)) fun aa bt ae=> ?_;have a2:LQ w c a d e D _ aa z g aB q E u:=a1.i5 bt ae V rfl rfl;have bv:bC (aK 5).scope eQ (.nm 0) (.Name "w" b4)=true:=by rfl
  have am:q.length < 4096:=by rcases F with⟨rfl,_⟩ |⟨rfl,_⟩ <;>simp
  refine wpAny_execs_cons <|M b6 ?_
  refine mL (wpAny_isTrue_BoolOp (wpAny_allTrue_Or_cons (GJ (nQ (x:= .int z) Y bv V a2.G fun bw ec Q a3 an af bx bz=> ?_) V)));(refine xe bx.int_inv ?_;rintro ed rfl);have H:=a2.ev a3 an af bz;refine nc Y.H an al H.m1 (by decide) (af0 (knd:=fF pg w) (nj pg w _ _) V (H.l1.set.setOf am) (wpAny_truthy_bool ?_));have I:LQ w c a d e bw _ {Q with toks:=Q.toks+1} z g aB q E u:=H.tok V rfl rfl;clear s f a1 a2 H U am;rcases F with⟨rfl,rfl,rfl,rfl⟩ |⟨rfl,rfl,ao,ee,ef⟩
  ·
   obtain⟨rfl,rfl⟩:z=W∧u=[] :=by have:=vL G.symm;cases this;exact⟨rfl,rfl⟩
   refine wpAny_allTrue_Or_cons (tE Y ai (b:=aI) (by rcases B with rfl |rfl<;>exact rfl) I.G fun ap ab v a4 a5 a6=> ?_)
   have i:=I.ev v a4 a5 a6;refine wpAny_allTrue_Or_nil <|wpAny_execs_nil ?_
   refine wpAny_execs_cons <|M b7 ?_
   refine yU (k:=z) Y i.G i.m1 al (by decide) i.l1 (by decide) bd (e:= .nm 0) (by rfl) V cO fun eg eh ei c1 c2 c3 c4 c5 c6=> ?_;have L:=i.Yi c2 c3 c4 c6;replace L:=(vL c5)▸L
   have c7:ev bJ {loc:=ju z g aB} (.bin .RShift (.nm 0) (.int 1))=O (.int 1025):=by
    rcases B with rfl |rfl
    ·show aZ _ _=_;refine M (bB (by decide)) ?_;rfl
    ·show aZ _ _=_;refine M (bB (by decide)) ?_;rfl
   refine wpAny_execs_cons <|M b8 ?_
   refine iX (nQ (x:= .int 1025) Y aj c7 L.G fun c8 ej ek aq c9 c' ca cb=> ?_) (qg aj _ _ _);have ar:=L.ev aq c9 c' cb;refine kB (i:=4) (x:="lo") ar.G Y.H (by decide+kernel) ca fun cc cd ce=> ?_;have N:LQ w c a d e c8 _ cc z (O (.int 1025)) aB [z] [] [] :=ar.i5 cd ce V rfl rfl;refine wpAny_execs_cons <|M b9 ?_
   refine yU (k:=1025) Y N.G N.m2 bh (by decide) N.l2 (by decide) be (e:= .nm 4) (by rfl) V (by decide) fun el en eo cf cg ch ci cj ck=> ?_;have j:=N.Yj cg ch ci ck;replace j:=(vL cj)▸j;refine wpAny_execs_cons <|M b' ?_
   refine yU (k:=1025) Y j.G j.m3 C (by decide) j.l3 (by decide) bf (e:= .nm 4) (by rfl) V (by decide) fun cl ep eq cm cn co cp cq cr=> ?_;have k:=j.My cn co cp cr;replace k:=(vL cq)▸k;have as:PK.le K cl:=((((((T.trans a3).trans v).trans c1).trans aq).trans cf).trans cm);rcases B with rfl |rfl
   ·refine wpAny_execs_cons <|M ah ?_
    refine mL (tE Y ak (b:=aI) (by refine(M (show qG 2050 1=0 from by decide) ?_:Sh (O (PV.int (qG 2050 1))) truth=_);rfl) k.G fun au cs y a7 a8 a9=> ?_)
    have l:=k.ev y a7 a8 a9;refine wpAny_execs_nil (wpAny_execs_nil ⟨.inl V,1,by decide,au,_,_,_,_,_,_,as.trans y,l,.inr ⟨rfl,rfl,fun a' A=> ?_,rfl,by decide⟩⟩);refine M (fK.mp A) ?_;decide
   ·refine wpAny_execs_cons <|M ah ?_
    refine mL (tE Y ak (b:=aF) (by refine(M (show qG 2051 1=1 from by decide) ?_:Sh (O (PV.int (qG 2051 1))) truth=_);rfl) k.G fun au cs y a7 a8 a9=> ?_)
    have l:=k.ev y a7 a8 a9;refine wpAny_execs_cons (yU (k:=1026) Y l.G l.m3 C (by decide) l.l3 (by decide) bg (e:= .bin .Add (.nm 4) (.int 1)) ba V (by decide) fun ct er es cu cv cw cx av cy=> ?_);have cz:=l.My cv cw cx cy;refine wpAny_execs_nil (wpAny_execs_nil ⟨.inl V,2,by decide,ct,_,_,_,_,_,_,(as.trans y).trans cu,cz,.inr ⟨rfl,rfl,fun a' A=> ?_,av.length_eq,by decide⟩⟩);have:=av.mem_iff.mp A;simp only[gz,cO,or_false] at this;rcases this with rfl |rfl<;>decide
  ·
   have aw:z≤2048:=ao z (G.mem_iff.mpr (.head _))
   have d0:¬([W].any (· ==z))=true:=by
    have:W≠z:=by rcases B with rfl |rfl<;>exact fB (iV aw (by decide))
    simp[this]
   refine M (aP d0) <|wpAny_allTrue_Or_cons (tE Y ai (b:=aF) (by refine(M (fM aw) ?_:Sh (O (PV.bool (decide (z≤2048)))) truth=_);rfl) I.G fun ap ab v a4 a5 a6=> ?_)
   have i:=I.ev v a4 a5 a6;have ax:=G.length_eq;replace ax:=j2▸ax;refine wpAny_execs_cons (wpAny_Continue ?_);refine⟨.inr V,u.length,by lia,ap,_,_,_,_,_,_,(T.trans a3).trans v,i,.inr ⟨rfl,rfl,fun a' A=>ao a' (G.mem_iff.mpr (.tail _ A)),rfl,by lia⟩⟩
end
end
section
section
variable{K:PK}
theorem De{id:eA}{E:aJ→aM→Prop}(a:dF [e] b=(aI,eval e b)::dF [] b)
  (h:aN (aO pg w) A (eval e b) (fun v c=>aN (aO pg w) A (call (.builtin id) [v]) Q E c) E s):
  aN (aO pg w) A (GQ d (.builtin id) [] (jB d (dF [e] b)) []) Q E s:=
 nt (by refine M a ?_;rfl) (iE (by refine M a ?_;intro h;cases h) (by refine M a ?_;rfl) (iC (wpAny_mono h (fun v g f=>jC f) fun J J x=>x) a))
structure Lo(c:Cx)(K:PK)(h:bF)(a:aW)(o:Obj):Prop where
 get:h.get? a=O o
 un:K a=aB
 nl:a≠c.env.locals
 hE:c.hE.get? a=aB
theorem Lo.ev(x:Lo c K s.heap a o)(F:Fm c K m aB s)(b:KB c aB s.heap d)(e:∀b,s.heap.get? b≠aB→b≠c.env.locals→K b=aB→f b=aB):Lo c f d a o:=
 ⟨b a o x.get x.nl (by intro z;cases z) (F.off x.hE),e a (by refine M x.get ?_;intro z;cases z) x.nl x.un,x.nl,x.hE⟩
theorem Lo.i5(x:Lo c K s.heap a o)(F:Fm c K m aB s)(b:KB c aB s.heap d):Lo c K d a o:=x.ev F b fun J J J e=>e
theorem Lo.other(x:Lo c K h a o)(b:iJ d h h')(e:a≠d):Lo c K h' a o:=⟨rt b e x.get,x.un,x.nl,x.hE⟩
theorem Lo.grow(x:Lo c K h a o)(d:∀b o,h.get? b=O o→h'.get? b=O o):Lo c K h' a o:=⟨d _ _ x.get,x.un,x.nl,x.hE⟩
theorem Lo.wrote(x:Lo c K j a o)(G:Gd w c d K m aB s f)(g:iJ a s.heap s'.heap)(h:s'.os=s.os)(i:s'.gens=s.gens):Gd w c d K m aB s' f:=
 ⟨G.F.wrote x.un x.nl (by intro z;cases z) x.hE (fun b o n e=>rt g n e) h (by refine M i ?_;exact G.F.gens),G.L,G.Mi,G.fl⟩
theorem Lo.fresh(F:Fm c K m aB s)(b:s.heap.get? a=aB)(g:h.get? a=O o):Lo c K h a o:=by
 refine⟨g,?_,?_,?_⟩
 ·cases e:K a with
  |none=>rfl|some f=>have:=F.keep _ _ e;replace this:=b▸this;exact nn this
 ·rintro rfl;refine eP F.ns fun f i j e J=> ?_;replace e:=b▸e;cases e
 ·cases e:c.hE.get? a with
  |none=>rfl|some f=>(refine xe (F.there e) ?_;rintro k d);replace d:=b▸d;exact nn d
theorem vM(h:∀p∈eQ,p.1≠y):∀(i:aA) z k,eQ[i]? =O (z,k)→z≠y:=fun i z k e=>h (z,k) (kq e)
theorem Ym(Y:Hyp w a1 c (aK 5).scope eQ bJ n)(a2:c.h₀.CodeRec c.env.code au)
  (I:∀a3∈(["int","set","iter","next","sorted","enumerate","print","ZeroDivisionError"] :aD eA),c.mg (aH a3)=aB)
  (G:Gd w c eQ K a4 aB s {loc:=ju W aB aB})
  (a5:Ma a6)
 (a7:∀k q v L a8 N,PK.le K L→LQ w c k q v L a8 N W aB aB [] [] [W]→a9 .next N):
  aN (aO pg w) a1 (eH a6 c.env) a9 (fun J J=>bO) s:=by
 obtain⟨av,h,d,aw,ax,ay,az,b0,b1,b2,b3,b4,a',b5,b6,aa,ab,ae,rfl⟩:=a5;have af:c.env.kindOf "ws"=O .local:=mz Y.H (by decide+kernel);have ah:c.env.kindOf "seen"=O .local:=mz Y.H (by decide+kernel);have ai:c.env.kindOf "need"=O .local:=mz Y.H (by decide+kernel);have P:jp (aK 5).scope "set"=true:=by decide+kernel
 refine wpAny_execs_cons <|M aa ?_
 refine iX (wpAny_Call_NameR (ru I (f:="set") (v:= .type "set") Y.H G.F (by decide) V P (by decide+kernel) (by decide+kernel) (af1 (LP ?_)))) V;have Q:∀b o,s.heap.get? b=O o→(s.heap.push {cls:= .type "set",dict:=aB,data:= .set #[] 0 (.fresh 0 0 (!fJ w))}).get? b=O o:=fun b o e=>eV _ e;have a:Lies w c K _ s.heap.objs.size [] :=Lies.fresh G.F (dY.fresh (w:=w));generalize s.heap.push {cls:= .type "set",dict:=aB,data:= .set #[] 0 (.fresh 0 0 (!fJ w))}=R at Q a ⊢;have S:Gd w c eQ K a4 aB {s with heap:=R} {loc:=ju W aB aB}:=G.grown Q V rfl;generalize s.heap.objs.size=k at a ⊢;refine vH S Y.H ah (vM (by decide)) fun h x aj=> ?_;have a:=Lies.i5 (s:={s with heap:=R}) a S.F aj;refine wpAny_execs_cons <|M ab ?_
 refine iX (wpAny_Call_NameR (ru I (f:="set") (v:= .type "set") Y.H x.F (by decide) V P (by decide+kernel) (by decide+kernel) (af1 (LP ?_)))) V;have y:∀b o,h.heap.get? b=O o→(h.heap.push {cls:= .type "set",dict:=aB,data:= .set #[] 0 (.fresh 0 0 (!fJ w))}).get? b=O o:=fun b o e=>eV _ e;have f:Lies w c K _ h.heap.objs.size [] :=Lies.fresh x.F (dY.fresh (w:=w));have T:k≠h.heap.objs.size:=fun e=>by refine xe a.set.get fun o g=> ?_;rw[e,fR] at g;exact nn g
 generalize h.heap.push {cls:= .type "set",dict:=aB,data:= .set #[] 0 (.fresh 0 0 (!fJ w))}=z at y f ⊢;have A:Gd w c eQ K _ aB {h with heap:=z} {loc:=ju W aB aB}:=x.grown y V rfl;have a:=a.grow y;generalize h.heap.objs.size=q at f T ⊢;refine vH A Y.H ai (vM (by decide)) fun d l U=> ?_;have a:=Lies.i5 (s:={h with heap:=z}) a A.F U;have f:=Lies.i5 (s:={h with heap:=z}) f A.F U;have ak:bC (aK 5).scope eQ (.nm 0) (.Name "w" a')=true:=by rfl
 have al:∀b o,c.h₀.get? b=O o→d.heap.get? b=O o:=fun b o e=>l.F.keep _ _ (l.F.le _ _ (l.F.low _ _ e));refine wpAny_execs_cons <|M ae ?_
 refine iX (X8 a2 al V rfl ?_) V;have r:∀b o,d.heap.get? b=O o→(d.heap.push {cls:= .type "set",dict:=aB,data:= .set #[] 0 (.fresh 0 0 (!fJ w))}).get? b=O o:=fun b o e=>eV _ e;have j:Lies w c K _ d.heap.objs.size [] :=Lies.fresh l.F (dY.fresh (w:=w));have B:k≠d.heap.objs.size:=fun e=>by refine xe a.set.get fun o g=> ?_;rw[e,fR] at g;exact nn g
 have C:q≠d.heap.objs.size:=fun e=>by refine xe f.set.get fun o g=> ?_;rw[e,fR] at g;exact nn g
 generalize d.heap.push {cls:= .type "set",dict:=aB,data:= .set #[] 0 (.fresh 0 0 (!fJ w))}=t at r j ⊢;have m:Gd w c eQ K _ aB {d with heap:=t} {loc:=ju W aB aB}:=l.grown r V rfl;have a:=a.grow r;have f:=f.grow r;generalize d.heap.objs.size=v at j B C ⊢;refine nQ (x:= .int W) Y ak V m fun X b9 i a0 am D an E=> ?_;(refine xe an.int_inv ?_;rintro b' rfl);have a:=Lies.ev (s:={d with heap:=t}) a m.F D E;have f:=Lies.ev (s:={d with heap:=t}) f m.F D E;have j:=Lies.ev (s:={d with heap:=t}) j m.F D E;have ao:=m.of a0 am;refine LZ j.set (by decide) cO fun p ba F ap aq=> ?_;obtain rfl:=vL ap;have u:Gd w c eQ X _ aB {i with heap:=p,toks:=i.toks+1} {loc:=ju W aB aB}:=j.wrote (s':={i with heap:=p,toks:=i.toks+1}) ao F V rfl;have a:=a.other F B;have f:=f.other F C;have j:=j.now aq;refine vH u Y.H af (vM (by decide)) fun ar as H=>wpAny_execs_nil (a7 k q v X _ ar a0 ⟨as,?_,?_,?_,?_,?_,?_,T,B,C⟩)
 ·rfl
 ·rfl
 ·rfl
 ·exact Lies.i5 (s:={i with heap:=p,toks:=i.toks+1}) a u.F H
 ·exact Lies.i5 (s:={i with heap:=p,toks:=i.toks+1}) f u.F H
 ·exact Lies.i5 (s:={i with heap:=p,toks:=i.toks+1}) j u.F H
end
end
section
section
variable{K:PK}
inductive rx(w:aV)(K:PK)(d:aW):Prop
 |mk (o t:_) (h1:K d=O o) (h2:(d==j0)=aI) (h3:∀h:bF,h.get? d=O o→h.DictOf (fF pg w) d [(1025,.int (5^1025) t)]):rx w K d
inductive Mz(w:aV)(c:Cx)(K:PK)(f:j3)(s':aM):Prop
 |mk (K':PK) (m':Str→aG aJ) (d:aW) (k:PK.le K K') (e:f= .ret (.ref d)) (F:Fm c K' m' aB s') (p:rx w K' d):Mz w c K f s'
theorem Yn(hW:W=2050∨W=2051)(Y:Hyp w A c (aK 5).scope eQ bJ n)(CZ:c.h₀.CodeRec c.env.code q)
  (yW:∀f∈(["int","set","iter","next","sorted","enumerate","print","ZeroDivisionError"] :aD eA),c.mg (aH f)=aB)
  (G:Gd w c eQ K m aB s {loc:=ju W aB aB}):
  aN (aO pg w) A (eH (aK 5).body c.env) (Mz w c K) (fun J J=>bO) s:=by
 obtain⟨s1,s2,s3,s4,s5,s6,s7,s8,s9,vI,vJ,yK,p1,p2,p3,p4,p5,p6,p7,p8,p9,lf,lh,na,lb,yI,yJ,Mc,yL,yM,vK,yN,x5,yO,yP,yQ,yR,Md,Me,Mf,Mg,Mh,Mj,Mk,Ml,Mm,t8,x8,Mn,pw,Mo,Mp,Mq,Mr,Ms,Mt,fb,Mv,Mw,Mx,g1,g2,g3,g4,g5,g6,g7,g8,g9,Yo,Yp,Yq,hb,Yr,MA,Ys⟩:=Yf;refine M hb ?_;have MB:c.env.kindOf "need"=O .local:=mz Y.H (by decide+kernel);have vy:c.env.kindOf "d"=O .local:=mz Y.H (by decide+kernel);have Dg:c.env.kindOf "it"=O .local:=mz Y.H (by decide+kernel);refine tw [_,_,_] _ (Ym Y CZ yW G ⟨s1,s2,s3,p1,p2,p3,p4,p5,p6,p7,p8,p9,lf,lh,na,g1,g2,g3,rfl⟩ fun a1 a2 a3 K1 m1 s1 k1 L1=> ?_);refine wpAny_execs_cons <|M g4 ?_
 refine wpAny_mono (Yl hW Y Ys L1) (fun f s2 h2=> ?_) fun J J x=>x;obtain⟨rfl,K2,m2,x2,tH,k2,L2⟩:=h2;refine wpAny_execs_cons <|M g5 ?_
 refine iX (wpAny_Dict_empty ?_) V;have Dh:∀b o,s2.heap.get? b=O o→(s2.heap.push {cls:= .type "dict",data:= .dict #[]}).get? b=O o:=fun b o e=>eV _ e;have Di:Lo c K2 (s2.heap.push {cls:= .type "dict",data:= .dict #[]}) s2.heap.objs.size {cls:= .type "dict",data:= .dict #[]}:=Lo.fresh L2.G.F fR (fP _ V)
 have Yt:({cls:= .type "dict",data:= .dict #[]}:Obj).IsDictOf (fF pg w) [] :=by refine aQ (Hu.mp (Gf (knd:=fF pg w) s2.heap)) fun o ho hd=> ?_;rw[fP _ V] at ho;exact(cA ho)▸hd
 have MC:(s2.heap.objs.size==j0)=false:=by obtain⟨o,ho⟩:=L2.G.F.heap.pY;exact beq_eq_false_iff_ne.mpr (eG (fA ho))
 generalize s2.heap.push {cls:= .type "dict",data:= .dict #[]}=H3 at Dh Di ⊢;have G3:Gd w c eQ K2 m2 aB {s2 with heap:=H3} {loc:=ju x2 tH aB}:=L2.G.grown Dh V rfl;have l2:=L2.l2.grow Dh;have MD:=L2.m2;have Yu:s2.heap.objs.size≠a2:=fun e=>by obtain⟨o,g⟩:=L2.l2.set.get;(replace g:=Eq.symm e▸g;replace g:=fR▸g);exact nn g
 generalize s2.heap.objs.size=d at Di MC Yu ⊢;refine vH G3 Y.H vy (vM (by decide)) fun s4 G4 b4=> ?_;have l2:=Lies.i5 (s:={s2 with heap:=H3}) l2 G3.F b4;have ME:=Lo.i5 (s:={s2 with heap:=H3}) Di G3.F b4;refine wpAny_execs_cons <|M g6 ?_
 refine mL (wpAny_isTrue_Not (RS (whole:=eval (.Name "need" vK) c.env) (nc (v:= .ref a2) Y.H G4.F MB MD (by decide) (L4 l2.set (by decide) ?_)) V));refine wpAny_execs_nil ?_;have G5:Gd w c eQ K2 _ aB {s4 with toks:=s4.toks+1+1} {loc:=ju x2 tH aB}:=G4.grown (fun J J e=>e) V rfl;refine wpAny_execs_cons <|M g7 ?_
 refine iX (wpAny_Call_NameR (ru yW (f:="iter") (v:= .builtin "iter") Y.H G5.F (by decide) V (by decide+kernel) (by decide+kernel) (by decide+kernel) (De V (wpAny_Call_NameR (ru yW (f:="sorted") (v:= .builtin "sorted") Y.H G5.F (by decide) V (by decide+kernel) (by decide+kernel) (by decide+kernel) (De V (nc (v:= .ref a2) Y.H G5.F MB MD (by decide) (XZ Y.hh l2.set fun h6 l tz MF yX Dj=>X5 (RD Dj ?_))))))))) V;(refine uO Dj ?_;clear Dj;rintro ol ry MG nl MH);have Yv:Lo c K2 h6 l ol:=Lo.fresh G5.F yX ry;have G6:Gd w c eQ K2 _ aB {s4 with heap:=h6,toks:=s4.toks+1+1} {loc:=ju x2 tH aB}:=G5.grown MF V rfl;have MI:=ME.grow MF;have dl:d≠l:=fun e=>by have:=ME.get;replace this:=e▸this;replace this:=(show s4.heap.get? l=aB from yX)▸this;exact nn this
 have yY:∀b o,h6.get? b=O o→(h6.push {cls:= .type "list_iterator",data:= .fields #[.ref l,.int 0 0]}).get? b=O o:=fun b o e=>eV _ e;have Dk:Lo c K2 (h6.push {cls:= .type "list_iterator",data:= .fields #[.ref l,.int 0 0]}) h6.objs.size {cls:= .type "list_iterator",data:= .fields #[.ref l,.int 0 0]}:=Lo.fresh (s:={s4 with heap:=h6,toks:=s4.toks+1+1}) G6.F fR (fP _ V);have dI:d≠h6.objs.size:=fun e=>by have:=MI.get;(replace this:=e▸this;replace this:=fR▸this);exact nn this
 have lI:l≠h6.objs.size:=fun e=>by(replace ry:=e▸ry;replace ry:=fR▸ry);cases ry
 generalize h6.push {cls:= .type "list_iterator",data:= .fields #[.ref l,.int 0 0]}=H7 at yY Dk ⊢;have G7:Gd w c eQ K2 _ aB {s4 with heap:=H7,toks:=s4.toks+1+1} {loc:=ju x2 tH aB}:=Gd.grown (s:={s4 with heap:=h6,toks:=s4.toks+1+1}) (s':={s4 with heap:=H7,toks:=s4.toks+1+1}) G6 yY V rfl;have Yw:=Yv.grow yY;have Yx:=MI.grow yY;generalize h6.objs.size=I at Dk dI lI ⊢;refine vH (s:={s4 with heap:=H7,toks:=s4.toks+1+1}) G7 Y.H Dg (vM (by decide)) fun s8 G8 b8=> ?_;have MJ:=Lo.i5 (s:={s4 with heap:=H7,toks:=s4.toks+1+1}) Yw G7.F b8;have Yy:=Lo.i5 (s:={s4 with heap:=H7,toks:=s4.toks+1+1}) Yx G7.F b8;have vN:=Lo.i5 (s:={s4 with heap:=H7,toks:=s4.toks+1+1}) Dk G7.F b8;refine wpAny_execs_cons <|M g8 ?_
 refine iX (wpAny_Call_NameR (ru yW (f:="next") (v:= .builtin "next") Y.H G8.F (by decide) V (by decide+kernel) (by decide+kernel) (by decide+kernel) (De V (nc (v:= .ref I) Y.H G8.F Dg (by rfl) (by decide) (X6 (l:=l) (i:=0) (items:= #[.int 1025 tz]) ⟨_,vN.get,rfl,rfl⟩ ⟨ol,MJ.get,MG,nl,MH⟩ V fun h9 MK Dl=> ?_))))) V;have G9:Gd w c eQ K2 _ aB {s8 with heap:=h9} {loc:=ju x2 tH aB}:=vN.wrote (s':={s8 with heap:=h9}) G8 Dl V rfl;have Yz:=MJ.other Dl lI;have YA:=Yy.other Dl dI;(refine dB MK ?_;clear MK;rintro YC YD ML MM);have YF:Lo c K2 h9 I YC:=⟨YD,vN.un,vN.nl,vN.hE⟩;refine kB (s:={s8 with heap:=h9}) (i:=5) (x:="first") G9 Y.H (by decide+kernel) (.int (i:=1025) (t:=tz)) fun vI rz yZ=> ?_;have YH:=Lo.i5 (s:={s8 with heap:=h9}) Yz G9.F yZ;have YI:=Lo.i5 (s:={s8 with heap:=h9}) YA G9.F yZ;have YJ:=Lo.i5 (s:={s8 with heap:=h9}) YF G9.F yZ;refine wpAny_execs_cons <|M g9 ?_
 refine mL (tE (b:=aI) Y Yr V rz fun MN vJ vO Dm Dn Do=> ?_);have YK:=Lo.ev YH rz.F Dn Do;have YL:=Lo.ev YI rz.F Dn Do;have YM:=Lo.ev YJ rz.F Dn Do;have vP:=rz.of vO Dm;refine wpAny_execs_nil ?_
 have YN:ev bJ (Sg.put {loc:=ju x2 tH aB} 5 (.int 1025)) (.bin .Pow (.nm 1) (.nm 5))=O (.int (5^1025)):=by show aZ _ _=_;refine M (bB (by decide)) ?_;rfl
 refine wpAny_execs_cons <|M Yo ?_
 refine Rz (nQ Y MA YN vP fun K12 je yK MO YO Dp YQ Dq=> ?_) (qg MA _ _ _);have YR:=Lo.ev YK vP.F Dp Dq;have YS:=Lo.ev YL vP.F Dp Dq;have YT:=Lo.ev YM vP.F Dp Dq;have tI:=vP.of MO YO;obtain⟨YU,rfl⟩:=YQ.int_inv;refine nc (v:= .ref d) Y.H tI.F vy (by rfl) (by decide) <|nQ (e:= .nm 5) (x:= .int 1025) Y (by rfl) V tI fun Dr v13 nS Ds YV Dt YX Du=> ?_
 have YY:=Lo.ev YR tI.F Dt Du;have vQ:=Lo.ev YS tI.F Dt Du;have YZ:=Lo.ev YT tI.F Dt Du;have MP:=tI.of Ds YV;obtain⟨t13,rfl⟩:=YX.int_inv;refine wpAny_setItem_pairs (knd:=fF pg w) (nj pg w _ _) (Hu.mpr ⟨_,vQ.get,Yt⟩) (fun tJ Y1 Dv=> ?_) (by decide);have vR:Gd w c eQ Dr _ aB {nS with heap:=tJ,toks:=nS.toks+1} _:=vQ.wrote (s':={nS with heap:=tJ,toks:=nS.toks+1}) MP Dv V rfl;have Y2:=YY.other Dv (Ne.symm dl);have vS:=YZ.other Dv (Ne.symm dI);refine aQ (Hu.mp Y1) fun od Y3 Y4=> ?_;have y5:Lo c Dr tJ d od:=⟨Y3,vQ.un,vQ.nl,vQ.hE⟩;refine wpAny_execs_cons <|M Yp ?_
 refine wpAny_mono (Q:=fun f s'=>f= .next∧R8 I tJ s'.heap∧s'.os=nS.os∧s'.gens=nS.gens) (AT (nc (v:= .ref I) Y.H vR.F Dg (by rfl) (by decide) (wpAny_pyIter_listiter (i:=1) (l:=l) ⟨_,vS.get,ML,MM⟩ (th (Q:=fun f s'=>f= .next∧R8 I tJ s'.heap∧s'.os=nS.os∧s'.gens=nS.gens) Y.hh (aeW (fun J s1=>s1={nS with heap:=tJ,toks:=nS.toks+1}) (fun nn s1 rA=> ?_) 0 rfl (fun J=>rfl)))))) (fun f MQ MR=> ?_) fun J J x=>x
 ·subst rA;exact wpAny_pyNext_list_end (l:=l) (i:=1) (items:= #[.int 1025 tz]) Y.hh ⟨_,vS.get,ML,MM⟩ ⟨ol,Y2.get,MG,nl,MH⟩ V fun h16 ext=>wpAny_execs_nil ⟨rfl,ext,rfl,rfl⟩
 (refine dW MR ?_;clear MR;rintro rfl ext Y5 Y6);have MS:Gd w c eQ Dr _ aB MQ _:=⟨vR.F.wrote vS.un vS.nl (by intro z;cases z) vS.hE (fun b o n e=>ext b o n e) Y5 (by refine M Y6 ?_;exact MP.F.gens),vR.L,vR.Mi,vR.fl⟩;have Y7:MQ.heap.get? d=O od:=ext d od dI y5.get;refine wpAny_execs_cons <|M Yq ?_
 refine nv (nc (v:= .ref d) Y.H MS.F vy (by rfl) (by decide) ?_);obtain⟨kk,FF⟩:=MS.F.known y5.un y5.nl (by intro z;cases z) y5.hE Y7;refine⟨_,_,d,((((k1.trans k2).trans vO).trans MO).trans Ds).trans kk,rfl,FF,od,YU,PK.jo,MC,fun h e=> ?_⟩;exact Hu.mpr ⟨od,e,Y4⟩
end
end
section
section
theorem Y8{E:aJ→aM→Prop}{a:aJ}(d:s.heap.get? D=O e)(f:e.data= .seq #[.bool aI] 0)
  (h:Q [("w",b),("base",c),("more_than",a),("show",.bool aI)] s):
  aN (aO pg w) A (uC {mM (aK 5).name (aK 5).params (aK 5).body (aK 5).scope g i j with defaults:= .ref D} ⟨[b,c,a],[]⟩) Q E s:=by
 refine(wpAny_bind (Sf d f ?_):aN _ _ (seqItems? (.ref D) >>=_) _ _ _);exact mQ (a:=[(("w":Str),b),(("base":Str),c),(("more_than":Str),a),(("show":Str),.bool aI)]) (by rfl) h
inductive MT(w:aV)(K:PK)(s:aM)(v:aJ)(s':aM):Prop
 |mk (K':PK) (d:aW) (e:v= .ref d) (k:PK.le K K') (h1:∀b o,K' b=O o→s'.heap.get? b=O o) (h2:∀b o,K' b=O o→K b=O o∨s.heap.get? b=aB) (h3:Still w s s') (h4:rx w K' d):MT w K s v s'
theorem Y9(W:Wd w mg mb h₀)(B:N=2050∨N=2051):∃a o C,mg "compute_powers"=O (.ref a)∧h₀.get? a=O o∧o.data= .func C∧
  ∀(A:bX) (K:PK) (s:aM) (l m n:gX),A.handled=aB→A.depth+3 < 900→A.units+30 < 9000→Kn mg mb h₀ [] K s→
   aN (aO pg w) A (call (.ref a) [.int N l,.int 5 m,.int 2048 n]) (MT w K s) (fun J J=>bO) s:=by
 refine H8 W.Wx fun a o a0 D a1 a2 E q r t I=>⟨a,o,_,E,q,r,fun A K s l m n L u P j=> ?_⟩;have p:∀b o,h₀.get? b=O o→s.heap.get? b=O o:=fun b o e=>j.keep _ _ (j.low b o e);have Q:=j.base.keeps p
 let env:=envOf (aK 5).name (aK 5).scope s.heap.objs.size a D
 let c:Cx:={mg:=mg,mb:=mb,h₀:=h₀,pX:=s.os,fH:=K,hE:=s.heap,env:=env,T:=[],io:=s.gens}
 refine xr (codeAny_call_function (body:=(aK 5).body) (pO (bL u (by decide)):A.depth < 1000) (p _ _ q) r (by rfl) (by rfl) V (t.keeps p) (Y8 (p _ _ I) V ?_));refine Si (by decide+kernel:∀x∈(aK 5).scope.names,x.2≠ .cell) ?_ (fun v R y=>⟨Q.nolimit.fresh _ y,?_⟩) (by rfl)
 ·intro x z;simp only[gz,cO,or_false] at z;rcases z with rfl |rfl |rfl |rfl
  ·exact(by decide+kernel:(aK 5).scope.names.lookup ("w":Str)=O .local)
  ·exact(by decide+kernel:(aK 5).scope.names.lookup ("base":Str)=O .local)
  ·exact(by decide+kernel:(aK 5).scope.names.lookup ("more_than":Str)=O .local)
  ·exact(by decide+kernel:(aK 5).scope.names.lookup ("show":Str)=O .local)
 refine(codeAny_func ?_:pI _ _ (.func (aK 5).body env) _ _);have F:Fr s.heap s.heap.objs.size v (fun x=>[(("w":Str),dU N l),("base",.int 5 m),("more_than",.int 2048 n),("show",.bool aI)].reverse.lookup x):=⟨R,fun b o e=>y.extBut b o (fG (fA e)) (eV _ e),bZ _⟩;have H:fD c (aK 5).scope eQ:=⟨rfl,X9,rfl,rfl⟩;have Y:Hyp w (A.deeper env) c (aK 5).scope eQ bJ 0:=⟨L,(kt (kt u):A.depth+1+0 < 900),(ko (bL (mf (by decide) _) (jy P)):A.units+3+10*0 < 9000),H,W.m0 (T:=[]) fV (fun J J J h=>by cases h) c V rfl rfl rfl⟩
 have G:Gd w c eQ K (fun x=>[(("w":Str),dU N l),("base",.int 5 m),("more_than",.int 2048 n),("show",.bool aI)].reverse.lookup x) aB {s with heap:=v,toks:=s.toks+4} {loc:=ju N aB aB}:=by
  refine⟨⟨F.ns,fun b o e=>F.keep _ _ (j.keep b o e),?_,j.low,.refl K,fun b o J=>F.keep b o,fun b o e=> .inl e,fR,fun J J J e=>(by cases e),.refl j.gens,rfl,j.base,(fun J h=>(cO h).elim),(fun J h=>(cO h).elim),(fun J h=>(cO h).elim)⟩,?_,.none,fun J J J e=>(by cases e)⟩
  ·show K s.heap.objs.size=aB;cases e:K s.heap.objs.size with
   |none=>rfl|some o=>have:=j.keep _ _ e;rw[fR] at this;exact nn this
  ·intro i x a3 a4 g f
   match i,g,f with
   |0,g,f=>cases g;cases f;exact⟨_,rfl,.int⟩|1,g,f=>cases g;cases f;exact⟨_,rfl,.int⟩|2,g,f=>cases g;cases f;exact⟨_,rfl,.int⟩|3,g,f=>cases g;cases f;exact⟨_,rfl,.bool⟩|4,g,f=>cases f|5,g,f=>cases f|i+6,g,f=>cases f
 have S:=Yn B Y (c:=c) (q:=(aK 5).name) t W.CT G;refine wpAny_mono S (fun a5 a6 o=> ?_) fun J J x=>x.elim;obtain⟨U,a7,d,X,rfl,k,f⟩:=o;exact⟨U,d,rfl,X,k.keep,k.new,⟨fun b o e=>k.cT b o (fun J h=>(cO h).elim) e,k.os,k.gens⟩,f⟩
end
end
section
open PySem.NumText PySem.Calls
theorem maxDigits{E:aJ→aM→Prop}(a:s.heap.NoDigits)(h:Q 4300 s):aN d A Builtin.intMaxStrDigits Q E s:=by(refine aQ a ?_;clear a;rintro e b c);refine wpAny_bind (RI b ?_);exact M c <|wpAny_pure h
theorem Za{E:aJ→aM→Prop}(f:s.heap.NoDigits)
  (a:(int_private% "readNumeral") (if(b.takeWhile (· !=0)).length≤640 then 0 else 4300) 10 (b.takeWhile (· !=0))=(int_private% "Numeral.value") n)
  (e:((b.takeWhile (· !=0)).length==b.length)=aF) (h:Q (.int n s.toks) {s with toks:=s.toks+1}):
  aN i A ((int_private% "intFromText") v b 10) Q E s:=by
 by_cases c:(b.takeWhile (· !=0)).length≤640
 ·replace a:=(aR c)▸a;exact KIN.wp_text c a e h
 ·replace a:=(aP c)▸a;obtain⟨j,g,d,tk,os⟩:=s
  repeat (any_goals (first
   |assumption
   |(with_reducible refine af2 (eO c) ?_)
   |(with_reducible refine af3 (fM e) ?_)
   |(with_reducible refine maxDigits f ?_)
   |wp_step))
  all_goals (try refine M a ?_)
  all_goals (try dsimp only)
  repeat (any_goals (first
   |assumption
   |(with_reducible refine af2 (eO c) ?_)
   |(with_reducible refine af3 (fM e) ?_)
   |(with_reducible refine maxDigits f ?_)
   |wp_step))
noncomputable def Zb(n:Z):PySem.Spec:=fun J R s=>s.heap.NoDigits∧R (.ok (.ret (.int n s.toks))) {s with toks:=s.toks+1}
structure Hid(p:Prop):Prop where
 out:p
theorem meets_text(e:x.length≤eF)(c:af4 x=O n):Meets (Builtin.«int.__new__» ⟨[.type "int",.str x u],[]⟩) (Zb n):=by
 intro o w A R s f;(refine xa f ?_;clear f;rintro i h)
 have j:(int_private% "readNumeral") (numLimitOf x) 10 (numSeenOf x)=(int_private% "Numeral.value") n∧((numSeenOf x).length==(numTextOf x).length)=true:=by
  rcases readAny x e with⟨m,a,k,l⟩ |⟨a,_⟩
  ·rw[c] at a;injection a with a
   subst a;exact⟨l,k⟩
  ·rw[c] at a;cases a
 have p:=F.conv_sub_int;have q:=F.madeHere_int;have r:=KIN.str_int;have t:=KIN.str_idx;have v:=KIN.str_trunc;have y:typeOf (.str x u)=pure (.type "str"):=rfl;have b:=Hid.mk (And.intro i (And.intro j h));clear j c e i h;obtain⟨z,g,d,tk,os⟩:=s
 repeat (any_goals (first
  |assumption
  |((with_reducible show aN _ _ ((int_private% "intFromText") _ _ _) _ _ _);refine Za b.out.1 b.out.2.1.1 b.out.2.1.2 ?_)
  |wp_step))
 all_goals first |exact b.out.2.2 |skip
theorem Zc{E:aJ→aM→Prop}(a:s.heap.NoDigits)(b:af4 x=O n)(c:x.length≤eF)
  (h:Q (.int n s.toks) {s with toks:=s.toks+1}):aN (aO d w) A (call (.type "int") [.str x t]) Q E s:=
 call_int_1 (meets_text c b) ⟨a,rfl,h⟩
end
section
open PySem.NumText
theorem Dw(a b:aD aA):digitsVal (a++b)=digitsVal a*10^b.length+digitsVal b:=by
 have key:∀(l:aD aA) (x:aA),l.foldl (fun d c=>d*10+(c - 48)) x=x*10^l.length+digitsVal l:=by
  intro l
  induction l with
  |nil=>intro x;simp[digitsVal]
  |cons c r ih=>
   intro x;unfold digitsVal;exact M AE (M AE (M (ih ..) (M (ih (0*10+(c - 48))) (M j2 (M (RO ..) (M (af5 ..) (M (af6 ..) (M (oo ..) (M (Nat.mul_assoc ..) (M (Hm 10 ..) (M (iI ..) V)))))))))))
 unfold digitsVal;exact M List.foldl_append <|key b _
theorem MU:∀(l:aD aA),AllDigits l→digitsVal l < 10^l.length
 |[],_=>by decide
 |c::r,h=>by have e:c::r=[c] ++r:=rfl;refine M e (M (Dw ..) (M bH (M (Sj ..) ?_)));have d:=MU r h.tail;have a:=h.head;have b:digitsVal [c]≤9:=(GH (qS a.2) (jR _):0*10+(c - 48)≤9);have:digitsVal [c] *10^r.length≤9*10^r.length:=Sk _ b;simp only[j2,xb,oo,Nat.pow_one];omega
noncomputable def part(l:aD aA)(a b:aA):aD Nat:=(l.drop a).take (b - a)
theorem Dx(h:b≤l.length):(part l a b).length=b - a:=by unfold part;refine M ni (M iB ?_);exact l4 (qI h a)
theorem MV(h:c∈part l a b):c∈l:=A9 (Ba h)
theorem Zd(c:a≤m)(d:m≤b):part l a b=part l a m++part l m b:=by unfold part;exact aS (Hi d c) (M (iz ..) (M QV (M Hj (M (r3 c) V))))
theorem Ze(l:aD aA):part l 0 l.length=l:=by unfold part;simp
theorem MW{k:aA}(h:k≤n):jz n (k:Z)=k:=by unfold jz;refine M (aP (i9.mpr (cW k))) (M (Sl (cV.mpr h)) (M (af7 (cW k)) ?_));rfl
theorem Zf(x:Str){a b:aA}(d:a≤b)(c:b≤x.length):(gL x (O (a:Z)) (O (b:Z))).cps.toList=part x.cps.toList a b:=by unfold gL part;simp only[uJ,MW c,MW (aL d c)]
noncomputable def lX:Tb:=[(aH "a",aF),(aH "b",aF),(aH "mid",aF),(aH "s",aI),(aH "DIGLIM",aI)]
noncomputable def bS:B:= .cons (.ite (.cmp .LtE (.bin .Sub (.nm 1) (.nm 0)) (.nm 4)) (.cons .bad .nil) .nil)
 (.cons (.asg 2 (.bin .RShift (.bin .Add (.bin .Add (.nm 0) (.nm 1)) (.int 1)) (.int 1))) .nil)
theorem MX:jc (bP 6).scope lX=true:=by decide+kernel
inductive MY:Prop
 |mk (l p1 p2 p3 p4 p5 p6 p7 p8 p9 lf lh na a1 a3 q1 q2 rr:_) (h1:(bP 6).body=l++[.Return (O (.BinOp (.Call (.Name "inner" p1) a1 [] p2) .Add (.BinOp (.BinOp (.Call (.Name "inner" p3) a3 [] p4) .Mult (.Subscript (.Name "w5pow" p5) (.BinOp q1 .Sub q2 p6) p7) p8) .LShift rr p9) lf)) lh]) (h2:dX (bP 6).scope lX bS l=aF) (h3:eK (bP 6).scope lX (.cons (.nm 2) (.cons (.nm 1) .nil)) a1=aF) (h4:eK (bP 6).scope lX (.cons (.nm 0) (.cons (.nm 2) .nil)) a3=aF) (h5:bC (bP 6).scope lX (.bin .Sub (.nm 1) (.nm 2)) (.BinOp q1 .Sub q2 p6)=aF) (h6:bC (bP 6).scope lX (.bin .Sub (.nm 1) (.nm 2)) rr=aF) (h7:a1≠[]) (h8:a3≠[]) (h9:na=lh) (B5:(∃t sl i1 i2 i3 i4 Zg,l=[.If t [.Return (O (.Call (.Name "int" i1) [sl] [] i2)) i3] [] i4,Zg]∧bC (bP 6).scope lX (.cmp .LtE (.bin .Sub (.nm 1) (.nm 0)) (.nm 4)) t=aF∧bC (bP 6).scope lX (.dD (.nm 3) (.nm 0) (.nm 1)) sl=aF)):MY
theorem MZ:MY:=
 ⟨(bP 6).body.take 2,_,_,_,_,_,_,_,_,_,_,_,_,_,_,_,_,_,rfl,by decide+kernel,by decide+kernel,by decide+kernel,by decide+kernel,by decide+kernel,(by intro e;cases e),(by intro e;cases e),rfl,
  _,_,_,_,_,_,_,rfl,by decide+kernel,by decide+kernel⟩
end
section
open PySem.NumText
structure rB(w:aV)(K:PK)(f:aW)(x:Str)(fo:Obj)(ke:aD (Str×aW))(cv tB doc pm:aJ)(ci cs cd cw d:aW):Prop where
 fn:K f=O fo
 data:fo.data= .func (oB (bP 6).name "_str_to_int_inner.<locals>.inner" (bP 6).params (bP 6).body (bP 6).scope ke .none .none doc pm aB cv tB)
 code:mW K cv "_str_to_int_inner.<locals>.inner"
 li:ke.lookup ("inner":Str)=O ci
 ls:ke.lookup ("s":Str)=O cs
 ld:ke.lookup ("DIGLIM":Str)=O cd
 lw:ke.lookup ("w5pow":Str)=O cw
 ki:∃o,K ci=O o∧o.data= .cell (O (.ref f))
 ks:∃o v,K cs=O o∧o.data= .cell (O v)∧RV w K aB v (.str x)
 kd:∃o v,K cd=O o∧o.data= .cell (O v)∧RV w K aB v (.int 2048)
 kw:∃o,K cw=O o∧o.data= .cell (O (.ref d))
 pw:rx w K d
theorem rx.mono{K:PK}(x:rx w K d)(h:PK.le K c):rx w c d:=let⟨o,t,a,b,r⟩:=x;⟨o,t,h _ _ a,b,r⟩
theorem rB.mono{K:PK} {f x c e g i j k l m n p d} (I:rB w K f x c e g i j k l m n p d)(h:PK.le K q):rB w q f x c e g i j k l m n p d:=
 ⟨h _ _ I.fn,I.data,I.code.mono h,I.li,I.ls,I.ld,I.lw,(aQ I.ki fun o a b=>⟨o,h _ _ a,b⟩),(cS I.ks fun o v a b r=>⟨o,v,h _ _ a,b,r.mono h⟩),(cS I.kd fun o v a b r=>⟨o,v,h _ _ a,b,r.mono h⟩),(aQ I.kw fun o a b=>⟨o,h _ _ a,b⟩),I.pw.mono h⟩
theorem Zh:∀x∈(bP 6).scope.names,x.2≠ .cell:=by decide
theorem Zi {a b c d e}:
  Hh s (oB (bP 6).name f (bP 6).params (bP 6).body (bP 6).scope a .none .none b c aB d e) ⟨[v,u],[]⟩ ((["a","b"] :aD Str).zip [v,u]):= .of_eq V
theorem M1{E:aJ→aM→Prop}(a:dF [e] b=(aI,eval e b)::dF [] b)
  (h:aN (aO pg w) A (eval e b) (fun v c=>aN (aO pg w) A (call (.type T) [v]) Q E c) E s):
  aN (aO pg w) A (GQ d (.type T) [] (jB d (dF [e] b)) []) Q E s:=
 pH (by refine M a ?_;rfl) (iE (by refine M a ?_;intro h;cases h) (by refine M a ?_;rfl) (iC (wpAny_mono h (fun v g f=>jC f) fun J J x=>x) a))
section
theorem M2(W:Wd w k mb h₀)(a b:aA)(A:bX)(K:PK)(s:aM)(t u:gX)(n:A.handled=aB)(l:A.depth+1 < 900)(o:A.units+10 < 9000)(N:Kn k mb h₀ [] K s)(I:rB w K f x a9 p a' aa ab ae af q r ah ai)
  (h:∀(c:Cx) (m:Str→aG aJ) (j:aM),c.fH=K→c.hE=s.heap→c.T=[]→(c.pX=s.os∧c.io=s.gens)→c.mg=k→c.mb=mb→c.h₀=h₀→c.env.cells=p→Hyp w (A.deeper c.env) c (bP 6).scope lX bJ 0→
   Gd w c lX K m aB j {loc:=[O (.int a),O (.int b),aB,O (.str x),O (.int 2048)]}→aN (aO pg w) (A.deeper c.env) (eH (bP 6).body c.env) (fun y z=>Q (match y with | .ret v=>v | _=> .none) z) (fun J J=>bO) j):
  aN (aO pg w) A (call (.ref f) [.int (a:Z) t,.int (b:Z) u]) Q (fun J J=>bO) s:=by
 obtain⟨B,C,D,E,F,G,H,L⟩:=I.code
 refine cS I.ks fun os P R S T=>cS I.kd fun U X Y a0 a1=>CX (hE:=s.heap) (tb:=lX) (k:=2) (xs:=[.int a,.int b]) (rest:=[aB,O (.str x),O (.int 2048)]) (ps:=["a","b"]) (kt l) (N.keep _ _ I.fn) I.data ⟨B,C,D,E,F,N.keep _ _ G,H,L⟩ V Zi V rfl rfl Zh MX (by decide) V
  N.low N.keep N.base N.gens N.dO N.tabs (fun J J a2=>a2) (fun a3 a4=>(N.tabs a3 a4).some) (.cons .int (.cons .int .nil)) V ?_ ?_ (fun c m j g a5 aj ak=> ?_)
 ·intro i a6 a7 d e
  match i,d,e with
  |1,d,e=>
   cases d;cases e;exact⟨q,os,P,I.ls,R,S,T⟩
  |2,d,e=>
   cases d;cases e;exact⟨r,U,X,I.ld,Y,a0,a1⟩
  |0,d,e=>cases d|i+3,d,e=>cases e
 ·intro i a6 a7 d e
  match i,d,e with
  |0,d,e=>cases e|1,d,e=>cases d|2,d,e=>cases d|i+3,d,e=>cases e
 ·have a8:Hyp w (A.deeper c.env) c (bP 6).scope lX bJ 0:=by refine⟨n,by show A.depth+1+0 < 900;exact l,by show A.units+3+10*0 < 9000;exact ko (bL (mf (by decide) _) (jy o)),?_,W.m0 fV (fun J J J h=>by cases h) c (M g V) (M g V) (M g V) V⟩;exact M g <|⟨rfl,MX,rfl,rfl⟩
  exact h c m j (M g V) (M g V) (M g V) ⟨by exact M g V,by exact M g V⟩ (M g V) (M g V) (M g V) (by refine M g ?_;rfl) a8 a5
theorem Zj{K:PK}(F:Fm c K m a s):s.heap.NoDigits:=F.heap.nodigits
theorem Zk(W:Wd w z mb h₀)(B:AllDigits x.cps.toList)(a b:aA)(C:a < b)(i:b≤x.length)(j:b - a≤2048)(D:x.length≤3000)(A:bX)(K:PK)(s:aM)(t u:gX)(E:A.handled=aB)(F:A.depth+1 < 900)(H:A.units+10 < 9000)(N:Kn z mb h₀ [] K s)(I:rB w K f x a9 a' aa ab ae af ah ai aj ak al):
  aN (aO pg w) A (call (.ref f) [.int (a:Z) t,.int (b:Z) u]) (fun v k=>(∃L,v= .int (digitsVal (part x.cps.toList a b):aA) L)∧Still w s k) (fun J J=>bO) s:=by
 refine M2 W a b A K s t u E F H N I fun c m k am P Q l R an ao ap Y G=> ?_;obtain⟨aq,ar,as,au,av,aw,ax,ay,az,b0,b1,b2,b3,b4,b5,b6,b7,b8,S,_,_,_,_,_,_,_,_,T,U,b9,b',ba,bc,bd,rfl,X,n⟩:=MZ;refine M S ?_
 have a0:ev bJ {loc:=[O (.int a),O (.int b),aB,O (.str x),O (.int 2048)]} (.cmp .LtE (.bin .Sub (.nm 1) (.nm 0)) (.nm 4))=O (.bool aF):=by have:decide (((b:Z) - a)≤2048)=true:=fM (by omega);exact aT (fun b=>O (PV.bool b)) this
 refine wpAny_execs_cons (mL ((((cY Y _ T X).2 aF (by refine M a0 ?_;rfl)).then G.F G.L G.Mi fun be bf a1 p bg=> ?_)));have a2:x.length≤eF:=by refine M cN ?_;exact aL D (by decide)
 have a3:ev bJ {loc:=[O (.int a),O (.int b),aB,O (.str x),O (.int 2048)]} (.dD (.nm 3) (.nm 0) (.nm 1))=O (.str (gL x (O (a:Z)) (O (b:Z)))):=
  (M (bB a2) V:(aZ _ _)=_)
 have a4:=G.of a1 p;refine wpAny_execs_cons (nv (wpAny_Call_NameR (ru (by refine M R ?_;exact W.CT) (f:="int") (v:= .type "int") Y.H p (by decide) V (by decide+kernel) (by decide+kernel) (by decide+kernel) (M1 (i0 n [] c.env) (((cY Y _ U n).ev a3 a4).then fun a5 bh q bi r bj a6=> ?_)))));(refine xe a6.str_inv ?_;rintro bk rfl);have d:=Zf x (fE C) i;have g:=Dx (l:=x.cps.toList) (a:=a) (b:=b) (by simpa [si] using i)
 have y:(gL x (O (a:Z)) (O (b:Z))).length=b - a:=by
  have:(gL x (O (a:Z)) (O (b:Z))).cps.toList.length=b - a:=by refine M d ?_;exact g
  simpa [si] using this
 refine Zc (Zj r) (intText_digits (by refine M d ?_;exact fun c a7=>B c (MV a7)) (by refine M d ?_;intro e;rw[e] at g;simp at g;omega) (by refine M y ?_;exact aL j (by decide))) (by refine M y (M cN ?_);exact aL j (by decide)) ?_;have h:Fm c a5 m aB {q with toks:=q.toks+1}:=r.tok;refine⟨⟨_,by exact M d V⟩,fun b o e=>h.cT b o (by refine M Q ?_;exact fun J a8=>(cO a8).elim) (by refine M P ?_;exact e),h.os.trans l.1,o0 l.2 h.gens⟩
end
end
section
open PySem.NumText
section
theorem Dy{n:aA}(h:n < 2^k):((n:aA):Z) < 2^k:=(af8 2 k)▸dZ.mpr h
theorem Zl{N:aA}:N=2050∧a=1025∨N=2051∧a=1026→(a < N∧a≤1026∧N≤3000)∧N - a=1025∧N - a≤2048∧0 < a∧a - 0≤2048∧(((0:aA):Z)+N+1) / 2=a∧decide (((N:Z) - ((0:aA):Z))≤2048)=aI∧(N:Z) - a=1025
 | .inl h | .inr h=>by refine M h.1 (M h.2 ?_);decide+kernel
theorem Zm(k:aA):((5^k:aA):Z)=5^k:=rfl
theorem Zn(k:aA):((10^k:aA):Z)=5^k*2^k:=by refine aS Int.mul_pow ?_;exact rfl
theorem M3:(10:aA) ^1026 < 2^3500:=by decide+kernel
theorem M4:(5:aA) ^1025 < 2^2500:=by decide+kernel
theorem Zo(W:Wd w ai mb h₀)(P:AllDigits x.cps.toList)(N d:aA)(R:N=2050∧d=1025∨N=2051∧d=1026)(y:x.length=N)(A:bX)(K:PK)(s:aM)(t u:gX)(S:A.handled=aB)(T:A.depth+2 < 900)(U:A.units+20 < 9000)(aj:Kn ai mb h₀ [] K s)(I:rB w K ak x cu cv cw cx cy cz d0 d3 d4 d5 al):
  aN (aO pg w) A (call (.ref ak) [.int ((0:aA):Z) t,.int (N:Z) u]) (fun v B=>(∃j,v= .int (digitsVal x.cps.toList:aA) j)∧Still w s B) (fun J J=>bO) s:=by
 (refine BB (Zl R) ?_;rintro⟨r,am,an⟩ ao ap aq ar d6 as au);clear R;refine M2 W 0 N A K s t u S (kt T) (cC (eU (by decide) _) U) aj I fun c av B d7 aw X a0 ax ay az a1 Y b0=> ?_;obtain⟨a2,b1,b2,b3,b4,d8,d9,d',da,db,dc,dd,de,b5,b6,df,dg,dh,b7,b8,b9,b',ba,bc,bd,be,_,_⟩:=MZ;refine M b7 <|tw a2 _ ?_
 have hex:bE bJ bS {loc:=[O (.int (0:aA)),O (.int N),aB,O (.str x),O (.int 2048)]}=O (.next,{loc:=[O (.int (0:aA)),O (.int N),O (.int d),O (.str x),O (.int 2048)]}):=by
  unfold bS
  have bf:dC .RShift (.int (((0:aA):Z)+N+1)) (.int 1)=O (.int (d:Z)):=by
   show aZ _ _=_;refine M (bB (by decide)) ?_
   congr 2
  rw[eL (σ':={loc:=[O (.int (0:aA)),O (.int N),aB,O (.str x),O (.int 2048)]})]
  ·refine M (eL (gO (x:= .int (d:Z)) (by exact bf) V)) ?_;rfl
  ·refine M (nN (x:= .bool aI) (by exact aT (fun b=>O (PV.bool b)) as) V) ?_;rfl
 refine wpAny_mono (nM bS a2 c _ _ _ Y b8 hex K av aB B b0) (fun di bg o=> ?_) fun J J x=>x;obtain⟨C,D,a3,bh,dj,dk,rfl,k⟩:=o
 have bi:a3=none:=by
  cases a3 with
  |none=>rfl|some p=>exact absurd k.Mi (by intro z;cases z)
 subst bi;have a4:=I.mono bh;have E:x.cps.toList.length=N:=by simpa [si] using y
 have one:∀(a b:aA),a < b→b≤N→b - a≤2048→∀(p a5:bG) (args:aD Expr) (F:Es),eK (bP 6).scope lX F args=aF→args≠[]→
   gB bJ {loc:=[O (.int (0:aA)),O (.int N),O (.int d),O (.str x),O (.int 2048)]} F=O [.int (a:Z),.int (b:Z)]→
   ∀(g:PK) (l:aM) (Q:aJ→aM→Prop),PK.le C g→Fm c g D aB l→(∀e h j,PK.le g e→Fm c e D aB h→Q (.int (digitsVal (part x.cps.toList a b):aA) j) h)→
   aN (aO pg w) (A.deeper c.env) (eval (.Call (.Name "inner" p) args [] a5) c.env) Q (fun J J=>bO) l:=by
  intro a b bk bl bm p a5 args F bn bo bp g l Q f G bq;have m:=a4.mono f;refine aQ m.ki fun dq br bs=>vz Y G (k.L.mono f) .none (by decide) (.inl (mz Y.H (by decide+kernel))) (by refine M a1 ?_;exact m.li) br bs m.fn m.data bn bo bp fun e dr h i n ds bt=> ?_;(refine cS bt.two ?_;rintro v dt rfl bu bv);(refine xe bu.int_inv ?_;rintro bw rfl);(refine xe bv.int_inv ?_;rintro a6 rfl);have a7:=n.kn;rw[X,ax,ay,az] at a7;refine wpAny_mono (Zk W P a b bk (y▸bl) bm (y▸an) (A.deeper c.env) e h bw a6 S T (cC (eU (n:=13) (m:=20) (by decide) _) U) a7 (m.mono i)) (fun v q ⟨⟨j,bx⟩,st⟩=> ?_) fun J J x=>x;subst bx;exact bq e q j i (n.yG st).1
 refine wpAny_execs_cons (nv (wpAny_BinOp (one d N r (bZ _) ap b1 b2 b5 _ b9 bd V C bg _ (.refl C) k.F fun g l a6 f G=> ?_)));refine wpAny_BinOp (wpAny_BinOp (one 0 d aq (fE r) ar b3 b4 b6 _ b' be V g l _ f G fun e h du i n=> ?_));have H:=a4.mono (f.trans i);refine aQ H.kw fun bz c0 c1=>wpAny_Subscript_BinOp_late (pF (GG Y.H.kind (mz Y.H (by decide+kernel)) (by refine M a1 ?_;exact H.lw) ⟨bz,n.keep _ _ c0,c1⟩ ?_ (by decide)) (by decide)) (fun J J=>rfl)
 have a8:ev bJ {loc:=[O (.int (0:aA)),O (.int N),O (.int d),O (.str x),O (.int 2048)]} (.bin .Sub (.nm 1) (.nm 2))=O (.int 1025):=
  aT (fun z=>O (PV.int z)) au
 refine((cY Y _ _ ba).1 _ a8 e h n (k.L.mono (f.trans i)) .none).then fun c2 dw q a9 a' dx c3=> ?_
 (refine xe c3.int_inv ?_;rintro dy rfl);obtain⟨dz,aa,c4,e0,c5⟩:=H.pw.mono a9;have ab:q.heap.DictOf (fF pg w) al [(1025,.int (5^1025) aa)] :=c5 _ (a'.keep _ _ c4);refine⟨"dict","dict.__getitem__",slot_dict_getitem.lookup,ab.typeIs,aeI (knd:=fF pg w) (nj pg w _ _) ab.mapOf (v:= .int (5^1025) aa) (by rfl) ?_⟩;have c6:Fm c c2 D aB {q with toks:=q.toks+1}:=a'.tok
 have ae:digitsVal (part x.cps.toList 0 d) < 10^1026:=by refine bL (MU _ (fun c c7=>P c (MV c7))) (xA (by decide) ?_);refine M (Dx (E▸fE r)) ?_;exact am
 have c8:gW ((digitsVal (part x.cps.toList 0 d):aA):Z)≤3500:=intBits_le (cW _) (Dy (iM ae M3))
 have c9:gW ((5:Z) ^1025)≤2500:=intBits_le (cJ (jj (by decide))) (by refine aS (Zm 1025) ?_;exact Dy M4)
 have c':dC .Mult (.int ((digitsVal (part x.cps.toList 0 d):aA):Z)) (.int (5^1025))=O (.int ((digitsVal (part x.cps.toList 0 d):aA)*5^1025)):=
  bB (IntMulOk.of_bits (aL c8 (by decide)) (aL c9 (by decide)))
 refine(sM c' c6 .int .int Y.hh).then fun ca e7 cb cc cd e8 ce=>((cY Y _ _ bc).1 _ a8 ca cb cd (k.L.mono ((f.trans i).trans (a9.trans cc))) .none).then fun e9 e' ea cf cg eb ch=> ?_
 have ci:gW (((digitsVal (part x.cps.toList 0 d):aA):Z)*5^1025)≤6000:=by refine intBits_le (oE (cW _) (cJ (jj (by decide)))) ?_;have cj:=iM ae M3;have af:digitsVal (part x.cps.toList 0 d)*5^1025 < 2^3500*2^2500:=Nat.mul_lt_mul'' cj M4;rw[←Sj] at af;exact Dy af
 have ck:dC .LShift (.int (((digitsVal (part x.cps.toList 0 d):aA):Z)*5^1025)) (.int 1025)=O (.int (((digitsVal (part x.cps.toList 0 d):aA):Z)*5^1025*2^1025)):=by show aZ _ _=_;refine M (bB ⟨by decide,cK (xm (cV.mpr ci) 1025) (by decide)⟩) ?_;rfl
 refine(sM ck cg (ce.mono cf) ch Y.hh).then fun ec ed ee ef cl eg cm=> ?_
 (refine xe cm.int_inv ?_;rintro eh rfl);refine(sM iF cl .int .int Y.hh).then fun ei ej ek el L en cn=> ?_
 (refine xe cn.int_inv ?_;rintro co rfl);refine⟨⟨co,?_⟩,⟨fun b o cp=>L.cT b o (by refine M X ?_;exact fun J cq=>(cO cq).elim) (by refine M aw ?_;exact cp),L.os.trans a0.1,o0 a0.2 L.gens⟩⟩
 have cr:digitsVal x.cps.toList=digitsVal (part x.cps.toList 0 d)*10^1025+digitsVal (part x.cps.toList d N):=by
  have cs:part x.cps.toList 0 N=x.cps.toList:=by refine aS E ?_;exact Ze _
  have ct:=Zd (l:=x.cps.toList) (a:=0) (m:=d) (b:=N) (jR _) (fE r);have ah:=Dw (part x.cps.toList 0 d) (part x.cps.toList d N);rw[←ct,cs,Dx (cM E.symm),ao] at ah;exact ah
 refine M cr ?_
 congr 1
 rw[af9,Bb,Zn 1025,mP,lL]
end
end
section
open PySem.NumText
noncomputable def tK:Tb:=[(aH "s",aI),(aH "DIGLIM",aI)]
theorem Zp:jc (aK 6).scope tK=true:=by decide+kernel
inductive M5:Prop
 |mk (p1 p2 p3 p4 p5 p6 p7 a1 p8 p9 lf a2 lh na:_) (h1:(aK 6).body=[.Assign [.Name "DIGLIM" p1] (.Constant (.int 2048) p2 p3) p4,.FunctionDef (bP 6).name (bP 6).params (bP 6).body [] aB [] (bP 6).scope aB (bP 6).name p5,.Assign [.Name "w5pow" p6] (.Call (.Name "compute_powers" p7) a1 [] p8) p9,.Return (O (.Call (.Name "inner" lf) a2 [] lh)) na]) (h2:eK (aK 6).scope tK (.cons (.bi "len" (.cons (.nm 0) .nil)) (.cons (.int 5) (.cons (.nm 1) .nil))) a1=aF) (h3:eK (aK 6).scope tK (.cons (.int 0) (.cons (.bi "len" (.cons (.nm 0) .nil)) .nil)) a2=aF) (h4:a1≠[]) (h5:a2≠[]) (h6:(pg.main.body[6]?).bind oZ=O (p5,("_str_to_int_inner.<locals>.inner":Str))):M5
theorem Zq:M5:=
 ⟨_,_,_,_,_,_,_,_,_,_,_,_,_,_,rfl,by decide+kernel,by decide+kernel,(by intro e;cases e),(by intro e;cases e),by decide+kernel⟩
theorem Zr(h:a.cells=[(("w5pow":Str),b),(("inner":Str),c),(("DIGLIM":Str),d),(("s":Str),e)]):oA (bP 6).scope a=pure [(("w5pow":Str),b),(("s":Str),e),(("inner":Str),c),(("DIGLIM":Str),d)] :=by obtain⟨g,lo,i,j,q,f,k,l,m⟩:=a;simp only at h;subst h;rfl
section
variable{K:PK}
theorem Zs(Y:Hyp w A c l f P n){args:aD Expr}(o:eK l f g args=aF)(p:gB P q g=O h)(G:Gd w c f K m aB s q)
  (k:∀a e d,PK.le K a→Fm c a m aB d→KB c aB s.heap d.heap→hG w a aB e h→(∀b,s.heap.get? b≠aB→b≠c.env.locals→K b=aB→a b=aB)→Q e d):aN (aO pg w) A (sj (jB y (dF args c.env))) Q (fun J J=>bO) s:=
 ((u7 (Y.here K aB s.heap) g args o h p).then G.here.F G.L G.Mi fun a e d r i j t=>k a e d r (G.F.back i j) j t fun J u v x=>tD i u v x)
theorem call_top(Y:Hyp w A c i j P n){args:aD Expr}(q:jp i x=aF)(r:c.mg x=O (.ref f))(t:c.h₀.get? f=O l)(u:l.data= .func fd)
  (h:eK i j v args=aF) (y:args≠[]) (z:gB P σ v=O xs) (G:Gd w c j K m aB s σ)
  (k:∀a e d,PK.le K a→Fm c a m aB d→KB c aB s.heap d.heap→hG w a aB e xs→(∀b,s.heap.get? b≠aB→b≠c.env.locals→K b=aB→a b=aB)→aN (aO pg w) A (call (.ref f) e) Q (fun J J=>bO) d):
  aN (aO pg w) A (eval (.Call (.Name x p) args [] F) c.env) Q (fun J J=>bO) s:=by
 refine wpAny_Call_NameR (sT Y.H q G.F r ?_);exact AN (o:=l) (fd:=fd) (iE (qf h y) (mr h) (Zs Y h z G fun a e d B g C D E=>⟨⟨g.keep _ _ (g.le _ _ (g.low _ _ t)),u⟩,k a e d B g C D E⟩))
end
section
theorem Zt(W:Wd w a1 mb h₀)(av:jX a1 h₀ T)(x:Str)(cb:AllDigits x.cps.toList)(N:aA)(fd:N=2050∨N=2051)(aw:x.length=N):Ct w a1 mb h₀ T 5 "_str_to_int_inner" [.str x] (.int (digitsVal x.cps.toList:aA)):=by
 obtain⟨t,ax,ad,o,fe,a2,ff,cc,ay,az,cd,ce,b0⟩:=av.at_ 6 (by decide);refine⟨ad,o,_,cc,ay,az,?_⟩;obtain⟨fg,fh,fi,fj,cf,fk,fl,b1,fm,fn,fo,b2,fp,fq,cg,ch,ci,cj,ck,cl⟩:=Zq;rw[cl] at b0
 obtain⟨cm,b3⟩:t.pos=cf∧t.q="_str_to_int_inner.<locals>.inner":=by have:=cA b0;exact⟨(aT RP this).symm,(aT RQ this).symm⟩
 intro A K s a3 a4 R a5 b4 b5 cn co cp cq cr
 obtain⟨v,rfl,b6⟩:∃v,a3=[v]∧RV w K aB v (.str x):=by cases cr with |cons a6 a7=>cases a7;exact⟨_,rfl,a6⟩
 have b7:∀b o,h₀.get? b=O o→s.heap.get? b=O o:=fun b o e=>b5 _ _ (b4 b o e);refine cell_call (binds:=[("s",v)]) (pO (bL R (by decide))) (b7 _ _ ay) az (cd.keeps b7) V ?_ (by decide) V rfl rfl b4 b5 cn co cp cq (fun c D b8 d b9 a8 S fr=> ?_)
 ·intro cs b';simp only[gz,cO,or_false] at b';subst b';exact .inr ⟨rfl,rfl⟩
 have a8:xv _ [(("w5pow":Str),s.heap.objs.size+1+1+1+1),(("inner":Str),s.heap.objs.size+1+1+1),(("DIGLIM":Str),s.heap.objs.size+1+1),(("s":Str),s.heap.objs.size+1)] b8:=a8;obtain⟨a,j,f,g,E,ba,bc,h,rfl,ct,cu,cv,cw,bd,be,bf,cx,bg,cy,cz⟩:C1 _ _ _ _ aB aB aB (O v) (qQ (s.heap.objs.size+1) (aK 6).scope.names []) b8:=WZ a8;refine dW (S (a,E) (.head _)) fun d0 a9 a' d3=>dW (S (j,ba) (.tail _ (.head _))) fun d4 d5 d6 d7=>dW (S (f,bc) (.tail _ (.tail _ (.head _)))) fun d8 d9 d' da=>dW (S (g,h) (.tail _ (.tail _ (.tail _ (.head _))))) fun db dc dd de=> ?_;have m:c.hE=s.heap:=M d V;have U:c.T=T:=M d V;have df:c.fH=K:=M d V;have aa:c.mg=a1:=M d V;have bh:c.mb=mb:=M d V;have ab:c.h₀=h₀:=M d V;have k:c.env=ny (aK 6).name (aK 6).scope s.heap.objs.size ad (.ref a2):=M d V;have p:c.env.cells=[(("w5pow":Str),a),(("inner":Str),j),(("DIGLIM":Str),f),(("s":Str),g)] :=by refine M k ?_;exact ct
 obtain⟨bi,ae⟩:=b9.known de dc (by intro z;cases z) (by refine M m ?_;exact dd) db;have bj:(K.put g h) g=O h:=PK.jo;have bk:(K.put g h) f=none:=by unfold PK.put;refine M (aP cz) ?_;exact da
 have bl:(K.put g h) j=none:=by unfold PK.put;refine M (aP cy) ?_;exact d7
 have bm:(K.put g h) a=none:=by unfold PK.put;refine M (aP cx) ?_;exact d3
 generalize fs:K.put g h=u at ae bi bj bk bl bm
 have Y:Hyp w (A.deeper c.env) c (aK 6).scope tK bJ 0:=by refine⟨a4,by show A.depth+1+0 < 900;exact ko (pO (bL R (by decide))),by show A.units+3+10*0 < 9000;exact ko (bL (mf (by decide) _) (jy a5)),?_,W.m0 fV (fun J J J dg=>by cases dg) c (M d V) (M d V) (M d V) V⟩;exact M d <|⟨rfl,Zp,rfl,rfl⟩
 generalize ft:A3 (ny (aK 6).name (aK 6).scope s.heap.objs.size ad (.ref a2)).kindOf [("s",v)] (fun J=>aB)=F at b9 ae;show aN _ _ (eH (aK 6).body c.env) _ _ _;refine M cg ?_;refine wpAny_execs_cons (iX (pG ?_) V);have di:Fm c u F aB {D with toks:=D.toks+1}:=ae.tok;refine A2 Y.H.kind (by refine M k ?_;rfl) (c:=f) (by refine M p ?_;rfl) ⟨bc,d8,cw⟩ fun af bn ah=> ?_;(refine aQ bn ?_;clear bn;rintro n dj bo);obtain⟨ai,aj⟩:=di.cell (tk:=D.toks+1) bk d9 (by intro z;cases z) (by refine M m ?_;exact d') ah dj;have ak:(u.put f n) g=O h:=ai _ _ bj;have al:(u.put f n) f=O n:=PK.jo;have bp:(u.put f n) j=none:=by unfold PK.put;refine M (aP bg) ?_;exact bl
 have bq:(u.put f n) a=none:=by unfold PK.put;refine M (aP bf) ?_;exact bm
 have dk:af.get? j=O ba:=(ah.2 j bg).trans d4;have br:af.get? a=O E:=(ah.2 a bf).trans d0;generalize u.put f n=fu at aj ai ak al bp bq
 refine wpAny_execs_cons (CY (mu:=aB) (t:=t) (s:={D with heap:=af,toks:=D.toks+1}) aj (by refine M U ?_;exact ax) (by refine M U ?_;exact fun X dn dp dq=>av.apart t ax X dn dp dq) (cc:=a2) (by refine M k ?_;rfl) (by refine M d ?_;exact ce) (by refine M k ?_;rfl) (by refine M d ?_;exact W.bmain) cm
   (by refine M k (M b3 ?_);rfl) (Zr p) V rfl rfl (by decide+kernel) (by refine M k ?_;rfl) (by refine M k ?_;rfl) (ci:=j) (by refine M p ?_;rfl) bp d5 (by intro z;cases z) (by refine M m ?_;exact d6) dk cv fun y bs dr ds dt du dv dw G bt dx dy bu bv bw dz=> ?_)
 (refine aQ bw ?_;clear bw;rintro fv e0 e5);rw[b3] at bu bv;have e7:y a=none:=dz a (by refine M br ?_;simp) be bq;have bx:bs.heap.get? a=O E:=dx a _ be (aj.off (by refine M m ?_;exact a')) br;have am:PK.le K y:=bi.trans (ai.trans G)
 have bz:∀{q:PK},PK.le y q→RL w q c.env aB tK F [O (.str x),O (.int 2048)] :=fun{q} H i cs fw fx B r=>by
  match i,B,r with
  |0,B,r=>
   cases B;cases r;exact⟨g,h,v,by refine M p ?_;rfl,H _ _ (G _ _ ak),bd,b6.mono (am.trans H)⟩
  |1,B,r=>
   cases B;cases r;exact⟨f,n,_,by refine M p ?_;rfl,H _ _ (G _ _ al),bo,.int⟩
  |i+2,B,r=>simp at r
 have e8:∀{q:PK} {c0:aM},PK.le y q→Fm c q F aB c0→Gd w c tK q F aB c0 {loc:=[O (.str x),O (.int 2048)]}:=fun H e9=>⟨e9,bz H,.none,fun J J J z=>by cases z⟩
 have c1:oQ aB "len" [.str x] =O (.int N):=by show aZ _ _=_;exact M (bB (by refine M cN ?_;lia)) (M aw V)
 refine nF (Y9 W (N:=N) (by lia)) fun g0 g1 g2 a6 a7 e' ea=>wpAny_execs_cons (iX (call_top (m:=F) (K:=y) (s:=bs) (σ:={loc:=[O (.str x),O (.int 2048)]}) (xs:=[.int N,.int 5,.int 2048]) Y (by decide+kernel) (by refine M aa ?_;exact a6) (by refine M ab ?_;exact a7) e' ch cj (bN c1 V) (e8 (.refl _) bt) fun L a3 c2 eb an ec ed ee=> ?_) V)
 obtain⟨ao,ap,aq,rfl,ef,eg,eh⟩:∃ao ap aq,a3=[ao,ap,aq]∧RV w L aB ao (.int N)∧RV w L aB ap (.int 5)∧RV w L aB aq (.int 2048):=by cases ed with |cons b1 b2=>cases b2 with |cons ei ej=>cases ej with |cons g f=>cases f;exact⟨_,_,_,rfl,b1,ei,g⟩
 obtain⟨ek,rfl⟩:=ef.int_inv;obtain⟨el,rfl⟩:=eg.int_inv;obtain⟨en,rfl⟩:=eh.int_inv;have eo:L a=none:=ee a (by refine M bx ?_;simp) a9 e7;have c3:c2.heap.get? a=O E:=ec a _ bx a9 (by intro z;cases z) (bt.off (by refine M m ?_;exact a'));have c4:=an.kn.nil;rw[aa,bh,ab] at c4;refine wpAny_mono (ea (A.deeper c.env) L c2 ek el en a4 (by show A.depth+1+3 < 900;exact kt R) (by show A.units+3+30 < 9000;exact ko (bL (mf (by decide) _) (jy a5))) c4) (fun ep ar eq=> ?_) fun J J x=>x;obtain⟨P,er,rfl,as,es,c5,Q,et⟩:=eq;obtain⟨eu,g3⟩:=an.called as es c5 (fun b o J e=>Q.1 b o e) Q.2.1 Q.2.2 (fun X ew=>(an.tabs X ew).mono as (fun o e=>Q.1 _ _ e))
 have ey:P a=none:=by
  cases e:P a with
  |none=>rfl
  |some g4=>
   rcases c5 _ _ e with z |z
   ·rw[eo] at z;cases z
   ·rw[c3] at z;cases z
 have ez:=Q.1 _ _ c3;refine A2 Y.H.kind (by refine M k ?_;rfl) (c:=a) (by refine M p ?_;rfl) ⟨E,ez,cu⟩ fun f0 c6 f1=> ?_;(refine aQ c6 ?_;clear c6;rintro a0 f2 f3);obtain⟨au,c7⟩:=eu.cell (tk:=ar.toks) ey a9 (by intro z;cases z) (by refine M m ?_;exact a') f1 f2;have l:PK.le y (P.put a a0):=(eb.trans as).trans au
 have I:rB w (P.put a a0) dr x ds [(("w5pow":Str),a),(("s":Str),g),(("inner":Str),j),(("DIGLIM":Str),f)] dt du dv dw j g f a er:=
  ⟨l _ _ dy,bu,bv.mono l,rfl,rfl,rfl,rfl,⟨_,l _ _ e0,e5⟩,⟨h,v,l _ _ (G _ _ ak),bd,b6.mono (am.trans l)⟩,⟨n,_,l _ _ (G _ _ al),bo,.int⟩,⟨a0,PK.jo,f3⟩,et.mono au⟩
 generalize P.put a a0=g5 at c7 au l I;refine aQ I.ki fun g6 f4 f5=>wpAny_execs_cons (nv (vz (s:={ar with heap:=f0,toks:=ar.toks}) (σ:={loc:=[O (.str x),O (.int 2048)]}) (xs:=[.int 0,.int N]) Y c7 (bz l) .none (by decide) (.inr (by refine M k ?_;rfl)) (by refine M p ?_;rfl) f4 f5 I.fn I.data ci ck (bW V (bW c1 ir)) fun c8 g7 f6 c9 c' g8 f7=> ?_));(refine cS f7.two ?_;rintro g9 g' rfl f8 f9);obtain⟨f',rfl⟩:=f8.int_inv;obtain⟨fa,rfl⟩:=f9.int_inv;have ca:=c'.kn.nil;rw[aa,bh,ab] at ca;refine wpAny_mono (Zo W cb N (N - 1025) (by lia) aw (A.deeper c.env) c8 f6 f' fa a4 (by show A.depth+1+2 < 900;exact kt (kt R)) (by show A.units+3+20 < 9000;exact ko (bL (mf (by decide) _) (jy a5))) ca (I.mono c9)) (fun ep ga ⟨⟨X,fb⟩,st⟩=> ?_) fun J J x=>x;subst fb;obtain⟨C,_⟩:=c'.yG st;refine⟨c8,(am.trans l).trans c9,C.keep,fun b o e=> ?_,fun b o fc e=>C.cT b o (by refine M U ?_;exact fc) (by refine M m ?_;exact e),.int,C.os.trans (M d V),o0 (by exact M d V) C.gens,by refine aS U ?_;exact C.tabs⟩;have:=C.new b o e;rw[df,m] at this;exact this
end
end
section
open PySem.NumText Classical
theorem Zu(a:x.cps.toList=l++[c,32])(f:pP c=aI):
  stripSame pP aI aF x=aI∧(Sm pP aI aF x).cps.toList=l++[c] :=by
 have b:x.length=l.length+2:=by
  have:x.cps.toList.length=l.length+2:=by refine M a ?_;exact bH
  simpa [si] using this
 have g:pP 32=true:=by decide+kernel
 have d:stripHi pP aF x 0=l.length+1:=by
  unfold stripHi;refine M (aR V) (M a (M b (M nu ?_)));have:(l++[c,32]).reverse=32::c::l.reverse:=by simp
  refine M this (M af' (M g (M (aR V) (M af' (M f (M (aP cL) ?_))))));exact rfl
 constructor
 ·unfold stripSame;have:stripLo pP aI x=0:=rfl;refine M this (M d (M b ?_));simp
 ·unfold Sm;have:stripLo pP aI x=0:=rfl;refine M this (M d (M (aga ..) (M a (M nu (M (so ..) ?_)))));have e:l++[c,32] =(l++[c])++[32] :=by simp
  exact M e (M (afA (by simp)) (M (mG (by simp)) V))
noncomputable def Dz:Tb:=[(aH "s",aF)]
theorem Zv:iq (aK 7) 1 Dz=true:=by decide+kernel
inductive M6:Prop
 |mk (p1 p2 p3 p4 p5 p6 p7 p8 p9 k1 k2 last:_) (h1:(aK 7).body=[.Assign [.Name "s" p1] (.Call (.Attribute (.Call (.Attribute (.Name "s" p2) "rstrip" p3) [] [] p4) "replace" p5) [.Constant (.str "_") k1 p6,.Constant (.str "") k2 p7] [] p8) p9,last]) (h2:j8 (aK 7).scope Dz (.ret (.call "_str_to_int_inner" (.cons (.nm 0) .nil))) last=aF) (h3:(p3.endLine==p4.line)=aF) (h4:(p5.endLine==p8.line)=aF):M6
theorem Zw:M6:=
 ⟨_,_,_,_,_,_,_,_,_,_,_,_,rfl,by decide+kernel,by decide,by decide⟩
section
theorem Zx(W:Wd w d mb h₀)(s:jX d h₀ T)(x:Str)(l a:aD aA)(c:aA)(u:x.cps.toList=l++[c,32])(v:pP c=aI)(A:(l++[c]).filter (· !=95)=a)(B:AllDigits a)(N:aA)(C:N=2050∨N=2051)(D:a.length=N)(i:l.length≤10000):
  Ct w d mb h₀ T 6 "int_from_string" [.str x] (.int (digitsVal a:aA)):=by
 let P:bT:={gk:=hX,call:=fun f b=>if f="_str_to_int_inner"∧b=[.str ⟨a.toArray⟩] then O (.int (digitsVal a:aA)) else aB}
 have E:∀f b y,P.call f b=O y→Ct w d mb h₀ T 5 f b y:=fun f b y e=>by
  simp only[P] at e
  split at e
  ·rename_i h
   obtain⟨rfl,rfl⟩:=h;cases e;exact Zt W s ⟨a.toArray⟩ B N C (by simpa [si] using D)
  ·cases e
 refine W.by (n:=5) (i:=7) (P:=P) (rest:=[]) (k:=1) (tb:=Dz) (by decide) ⟨_,rfl⟩ V Zv (fun F J J J h=>pT (fun J=>rfl) F h) fV E V ?_ V;intro aj j K m ak H I L Q Y G;subst H I L Q;obtain⟨al,am,an,ao,ap,aq,ar,as,au,av,aw,R,S,U,X,a0⟩:=Zw;refine M S ?_;obtain⟨a1,g⟩:=Zu u v;generalize a2:Sm pP aI aF x=y at g
 have n:y.length=l.length+1:=by
  have:y.cps.toList.length=l.length+1:=by refine M g ?_;exact bH
  simpa [si] using this
 refine wpAny_execs_cons (iX (sn V rfl a0 ?_) V);refine sn V rfl X ((cY (P:=P) Y (.nm 0) _ (by rfl)).ev (x:= .str x) V G |>.then fun p ax q r a3 ay a4=> ?_);obtain⟨t,rfl⟩:=a4.str_inv;refine⟨"str","str.rstrip",Q8,agb,PySem.F.type_str_rstrip,pE _ _ _,(fun J e=>by cases e),nt V (GK ?_)⟩;refine Sn agb (pE _ _ _) PySem.F.entry_str_rstrip (PySem.F.args_str_rstrip_1 _) (gives_str_rstrip x t) <|M a1 (M (aP cL) (M a2 ?_))
 refine⟨by refine M n (M cN ?_);exact nz (cC i (by decide)),?_⟩;refine⟨"str","str.replace",Q8,PySem.F.slot_str_replace,PySem.F.type_str_replace,pE _ _ _,(fun J e=>by cases e),?_⟩;refine nt V (iE (by intro z;cases z) V ?_);refine iC (sm ?_) V;refine iC (sm (jC ?_)) V;refine SC.replaceW (agc _) (agc _) (by simp) (by decide) (by refine M n ?_;exact nz (cC i (by decide))) (by decide) fun az k=> ?_
 have a5:(Txt.replace y ⟨#[95]⟩ ⟨#[]⟩)=⟨a.toArray⟩:=by exact fT <|M (replace_strikes ..) (M g (M A V))
 have a6:("_":Str)=⟨#[95]⟩:=by decide+kernel
 have a7:("":Str)=⟨#[]⟩:=by decide+kernel
 refine M a6 (M a7 (M a5 ?_));have a8:Fm j p m aB {q with toks:=k}:=a3.tok;refine kB (s:={q with toks:=k}) (i:=0) (x:="s") (p:= .str ⟨a.toArray⟩) (G.of r a8) Y.H (by decide+kernel) .str fun b0 a9 b1=>wpAny_execs_cons (wpAny_mono (yo (.ret (.call "_str_to_int_inner" (.cons (.nm 0) .nil))) R j _ _ (.ret (.int (digitsVal a:aA))) Y U (fU (x:= .int (digitsVal a:aA)) (fO (bW (x:= .str ⟨a.toArray⟩) V ir) V (aR ⟨rfl,rfl⟩)) V) p _ aB _ a9) (fun f b2 o=> ?_) fun J J x=>x);obtain⟨a',aa,ab,ae,b3,b4,af,rfl,ah,ai⟩:=o;exact⟨a',aa,ab,af,r.trans ae,rfl,ah,ai⟩
end
end
section
noncomputable def iS:aD Int:=[31,30,31,30,31,31,30,31,30,31,31]
noncomputable def hL:aD Z→Z→Z→Z×Z
 |[],l,m=>(l,m)|d::r,l,m=>if l < d then(l,m) else hL r (l - d) (m+1)
noncomputable def ia(p:Z):Int:=(p - p / 1460+p / 36524 - p / 146096) / 365
noncomputable def jY(p:Z):Int:=p - 365*ia p - ia p / 4+ia p / 100
noncomputable def o6(p:Z):Z×Z×Int:=
 (ia p+(hL iS (jY p) 2).2 / 12,(hL iS (jY p) 2).2 % 12,(hL iS (jY p) 2).1+1)
noncomputable def Zy:B:= .cons (.ite (.cmp .Lt (.nm 2) (.nm 4)) (.cons .brk .nil) .nil) (.cons (.aug 2 .Sub (.nm 4)) (.cons (.aug 3 .Add (.int 1)) .nil))
theorem M7(P:bT)(p y:Z):∀(a:aD Z) (l m:Z) (o:aG PV),∃c,gM (bE P Zy) 4 (a.map .int) {loc:=[O (.int p),O (.int y),O (.int l),O (.int m),o]}=O (.next,{loc:=[O (.int p),O (.int y),O (.int (hL a l m).1),O (.int (hL a l m).2),c]})
 |[],l,m,o=>⟨o,rfl⟩
 |d::r,l,m,o=>by
  by_cases h:l < d
  ·refine⟨O (.int d),?_⟩;(refine M gH ?_;rewrite[VH (σ':={loc:=[O (.int p),O (.int y),O (.int l),O (.int m),O (.int d)]})])
   ·exact M (by exact aR h:hL (d::r) l m=(l,m)) V
   ·exact VI ((qk (x:= .bool aF) (by exact aT (fun b=>O (PV.bool b)) (fM h)) V).trans rfl)
  ·refine xe (M7 P p y r (l - d) (m+1) (O (.int d))) fun c ih=>⟨c,?_⟩;(refine M gH ?_;rewrite[rl (σ':={loc:=[O (.int p),O (.int y),O (.int (l - d)),O (.int (m+1)),O (.int d)]})])
   ·exact M ih (M (by exact aP h:hL (d::r) l m=hL r (l - d) (m+1)) V)
   ·exact(eL ((nN (x:= .bool aI) (by exact aT (fun b=>O (PV.bool b)) (eO h)) V).trans rfl)).trans rfl
theorem Zz(P:bT)(p:Z):∃b,bE P CA {loc:=[O (.int p),aB,aB,aB,aB]}=O (.ret (.tup [.int (o6 p).1,.int (o6 p).2.1,.int (o6 p).2.2]),b):=by
 refine xe (M7 P p (ia p) iS (jY p) 2 aB) fun a hw=>⟨{loc:=[O (.int p),O (.int (ia p)),O (.int (hL iS (jY p) 2).1),O (.int (hL iS (jY p) 2).2),a]},?_⟩;unfold CA;refine M (eL (gO (x:= .int (ia p)) (lR (bM (bM (bM (x:= .int p) V (lR (x:=p) V (by decide) (by decide)) V) (lR (x:=p) V (by decide) (by decide)) V) (lR (x:=p) V (by decide) (by decide)) V) (by decide) (by decide)) V)) <|M (eL (gO (x:= .int (jY p)) (bM (bM (bM (x:= .int p) V (bM (y:= .int (ia p)) V rfl (tm (by decide) (by decide))) V) (lR (x:=ia p) V (by decide) (by decide)) V) (lR (x:=ia p) V (by decide) (by decide)) V) V)) ?_
 refine M (eL (gO (x:= .int 2) V rfl)) ?_
 have c:ev P {loc:=[O (.int p),O (.int (ia p)),O (.int (jY p)),O (.int 2),aB]} (.lst (.cons (.int 31) (.cons (.int 30) (.cons (.int 31) (.cons (.int 30) (.cons (.int 31) (.cons (.int 31) (.cons (.int 30) (.cons (.int 31) (.cons (.int 30) (.cons (.int 31) (.cons (.int 31) .nil))))))))))))=O (.lst (iS.map .int)):=
  bB ⟨by decide,rfl⟩
 rw[eL (σ':={loc:=[O (.int p),O (.int (ia p)),O (.int (hL iS (jY p) 2).1),O (.int (hL iS (jY p) 2).2),a]})]
 ·exact cU (fU (tu (bW (bM (x:= .int (ia p)) V (lR (x:=(hL iS (jY p) 2).2) V (by decide) (by decide)) V) (bW (lQ (x:=(hL iS (jY p) 2).2) V (by decide) (by decide)) (bW (bM (x:= .int (hL iS (jY p) 2).1) V rfl rfl) ir))) (Nat.le_of_ble_eq_true V) V) V)
 ·exact M (VK (by simpa [Sg.put] using c) (by decide)) <|hw
section
theorem ZA(W:Wd w a mb h₀)(p:Z):Ct w a mb h₀ T 1 "_law_date" [.int p] (.tup [.int (o6 p).1,.int (o6 p).2.1,.int (o6 p).2.2]):=by exact xe (Zz bJ p) fun c h=>W.fn (n:=0) (i:=28) (P:=bJ) (rest:=[aB,aB,aB,aB]) (by decide) ⟨_,rfl⟩ V Vp (fun b J J J h=>pT (fun J=>rfl) b h) Vo fV (fun J J J=>nn) V h V
end
end
section
section
noncomputable def one(c:aA):Str:=⟨#[c]⟩
noncomputable def DA:Tb:=[(aH "code",aF)]
theorem ZB:iq (aK 17) 1 DA=true:=by decide+kernel
theorem ZC(W:Wd w j mb h₀)(c:aA):Ct w j mb h₀ T 1 "in_table_b1" [.str (one c)] (.bool (hJ.any (· ==(c:Z)))):=by
 refine W.by (n:=0) (i:=17) (P:=bJ) (rest:=[]) (k:=1) (tb:=DA) (by decide) ⟨_,rfl⟩ V ZB (fun n J J J h=>pT (fun J=>rfl) n h) fV (fun J J J=>nn) V ?_ V;intro A N K m s p q u v Y G;subst p q u v;refine aQ W.b1 fun S x d=> ?_;have b:∃l e f i,(aK 17).body=[.Return (O (.Compare l [.In] [.Name "b1_set" e] f)) i]∧bC (aK 17).scope DA (.bi "ord" (.cons (.nm 0) .nil)) l=true:=⟨_,_,_,_,rfl,by decide+kernel⟩;(refine uP b ?_;clear b;rintro l e f i b y);refine M b ?_;have z:ev bJ {loc:=[O (.str (one c))]} (.bi "ord" (.cons (.nm 0) .nil))=O (.int (c:Z)):=bB V;refine wpAny_execs_cons (nv (Rp (((cY Y _ l y).ev z G).then fun B P C D a Q E=> ?_) V));obtain⟨t,rfl⟩:=E.int_inv;refine sT Y.H (by decide+kernel) a x ?_
 have F:C.heap.SetOf (fF pg w) S (fun k=>hJ.any (· ==k)) hJ.length:=by(refine uP d ?_;clear d;rintro o H I L g r);exact⟨o,H,I,L,a.keep _ _ (a.le _ _ (a.low _ _ g)),r⟩
 exact af0 (knd:=fF pg w) (nj pg w _ _) V F <|⟨B,m,aB,_,D,rfl,a.tok,.bool⟩
noncomputable def vT:Tb:=[(aH "code",aF),(aH "r",aF)]
theorem ZD:iq (aK 19) 1 vT=true:=by decide+kernel
noncomputable def lj(c:aA):Str:=match lg.lookup (c:Z) with
 |some x=>x|none=>cD (one c)
theorem ZE(h:im fQ es)(k:Z):match es.lookup k with
  |some x=>∃t,pD fQ k=O (.str x t)|none=>pD fQ k=none:=by
 induction h with
 |nil=>rfl
 | @cons n x t ps es h ih=>
  by_cases e:k=n
  ·subst e;simp[pD]
  ·have e1:(k==n)=false:=beq_eq_false_iff_ne.mpr e;have e2:(n==k)=false:=beq_eq_false_iff_ne.mpr (Ne.symm e);refine M GW (M e1 ?_)
   have:pD ((n,Value.str x t)::ps) k=pD ps k:=by simp[pD,Ne.symm e]
   exact M this <|ih
theorem ZF(W:Wd w ae mb h₀)(c:aA):Ct w ae mb h₀ T 1 "map_table_b3" [.str (one c)] (.str (lj c)):=by
 refine W.by (n:=0) (i:=19) (P:=bJ) (rest:=[aB]) (k:=1) (tb:=vT) (by decide) ⟨_,rfl⟩ V ZD (fun af J J J ah=>pT (fun J=>rfl) af ah) fV (fun J J J=>nn) V ?_ V;intro ai a K m s aj ak al am Y G;subst aj ak al am;refine HY W.b3 fun d N an ao ap B=> ?_
 have j:∃l P C k n R S U X a0 a1 a2 a3 p,(aK 19).body=[.Assign [.Name "r" P] (.Call (.Attribute (.Name "b3_exceptions" C) "get" k) [l] [] n) R,
   .If (.Compare (.Name "r" S) [.IsNot] [.Constant .none a0 U] X) [.Return (O (.Name "r" a1)) a2] [] a3,p]∧bC (aK 19).scope vT (.bi "ord" (.cons (.nm 0) .nil)) l=aF∧j8 (aK 19).scope vT (.ret (.dG "lower" (.nm 0) .nil)) p=aF∧(k.endLine==n.line)=true:=
  ⟨_,_,_,_,_,_,_,_,_,_,_,_,_,_,rfl,by decide+kernel,by decide+kernel,by decide⟩
 (refine H2 j ?_;clear j;rintro l P C k n R S U a4;refine H6 a4 ?_;clear a4;rintro X a0 a1 a2 a3 p j a5 aq ar);refine M j ?_;have as:ev bJ {loc:=[O (.str (one c)),aB]} (.bi "ord" (.cons (.nm 0) .nil))=O (.int (c:Z)):=bB V;have a6:bC (aK 19).scope vT (.bi "ord" (.cons (.nm 0) .nil)) l=true:=a5
 have a7:∀q:aM,Fm a K m aB q→q.heap.DictOf (fF pg w) d N:=fun q F=>by(refine eP B ?_;clear B;rintro o D E g r);exact⟨o,D,E,F.keep _ _ (F.le _ _ (F.low _ _ g)),r⟩
 have au:s.TypeIs (.ref d) "dict":=(a7 s G.F).typeIs
 have av:∀{Q:aJ→aM→Prop},(∀b f v (x:PV),PK.le K b→Fm a b m aB f→KB a aB s.heap f.heap→RV w b aB v x→x=(match lg.lookup (c:Z) with |some x=> .str x |none=> .none)→Q v f)→
   aN (aO pg w) ai (eval (.Call (.Attribute (.Name "b3_exceptions" C) "get" k) [l] [] n) a.env) Q (fun J J=>bO) s:=fun{Q} a8=>by
  refine sn V ?_ ar (sT Y.H (by decide+kernel) G.F an ?_)
  ·refine M (i0 a6 [] a.env) ?_;rfl
  ·refine⟨"dict","dict.get",PySem.F.plainAttrs_dict,PySem.F.slot_dict_get,PySem.F.type_dict_get,au,(a7 s G.F).mapOf.noDict,?_⟩;refine M (i0 a6 [] a.env) <|wpAny_dict_get1 (knd:=fF pg w) ao (((cY Y _ l a5).ev as G).then fun b bg f h e H I=> ?_)
   obtain⟨t,rfl⟩:=I.int_inv
   refine⟨(c:Z),_,nj pg w _ _,(by exact eP B fun o D E g r=>(show f.heap.DictOf (fF pg w) d N from⟨o,D,E,e.keep _ _ (e.le _ _ (e.low _ _ g)),r⟩).mapOf),?_⟩
   have i:=ZE ap (c:Z);revert i;cases a9:lg.lookup (c:Z) with
   |none=>intro i;refine M i ?_;exact a8 b _ _ _ h e.tok H .none (M a9 V)
   |some x=>rintro⟨bh,i⟩;refine M i ?_;exact a8 b _ _ _ h e.tok H .str (M a9 V)
 refine wpAny_execs_cons (iX (av fun b f v x h e H I u=> ?_) V);refine kB (i:=1) (G.of h e) Y.H (by decide+kernel) I fun bi L bj=>wpAny_execs_cons (mL (GJ (((cY (P:=bJ) Y (.nm 1) _ (by rfl)).ev (x:=x) V L).then fun aw bk bl y a' bm aa=> ?_) V));refine aeR (isNot_none ?_);obtain⟨ax,A⟩:∃z,lg.lookup (c:Z)=z:=⟨_,rfl⟩;cases ax with
 |some ab=>
  rw[A] at u;subst u;obtain⟨ay,rfl⟩:=aa.str_inv;refine wpAny_truthy_bool ?_;have az:(!(Value.str ab ay==Value.none))=true:=rfl;refine wpAny_execs_cons (nv (((cY (P:=bJ) Y (.nm 1) _ (by rfl)).ev (x:= .str ab) V (L.of y a')).then fun b0 b1 bn b2 b3 bo b4=> ?_));exact⟨b0,_,aB,b1,((h.trans y).trans b2),rfl,b3,by unfold lj;refine M A ?_;exact b4⟩
 |none=>
  rw[A] at u;subst u;obtain rfl:=aa.none_inv;refine wpAny_truthy_bool ?_;have az:¬(!(Value.none==Value.none))=true:=by decide
  refine wpAny_execs_nil ?_;have b5:cD (one c)=lj c:=by unfold lj;exact M A V
  refine wpAny_execs_cons (wpAny_mono (yo (.ret (.dG "lower" (.nm 0) .nil)) p a _ _ (.ret (.str (lj c))) Y aq (by refine aS b5 ?_;have:nG aB "lower" (.str (one c)) [] =O (.str (cD (one c))):=bB (ow _);exact fU (by assumption) V) aw _ aB _ (L.of y a')) (fun bp q o=> ?_) fun J J x=>x)
  obtain⟨b6,b7,b8,b9,bq,br,b',rfl,ba,bc⟩:=o;exact⟨b6,b7,b8,b',(h.trans y).trans b9,rfl,ba,bc⟩
end
end
section
noncomputable def jv:aD Int:=[172,174,846,848,6149,6151,6154,6158,8202,8206,8287,8289,65023,65040,65278,65280]
noncomputable def jI(j7:Z)(a:aU):Nat:=
 if a=aF∧j7 % 42 < 26 then(97+j7 % 42).toNat
 else(jv.getD (if a then(j7 % 42 - 26) % 16 else j7 % 16).toNat 0).toNat
theorem ZG(c:a.length≤eF)(d:0≤k)(b:a[k.toNat]? =O x):jn e (.lst a) (.int k)=O x:=by
 have f:k.toNat < a.length:=by
  rcases ou k.toNat a.length with h |h
  ·exact h
  ·replace b:=(xq h)▸b;cases b
 show aZ _ _=_;refine M (bB c) (M (Lc d (by lia)) ?_);exact b
theorem vU(h:x.length+y.length≤16777216):dC .Add (.str x) (.str y)=O (.str (x++y)):=bB (by refine(M xF (M cN ?_):(x.cps++y.cps).size≤_);exact h)
theorem get_map{a:Type}(f:a→PV){l:aD a}(d:a){k:Z}(b:0≤k)(h:k < l.length)(c:l.length≤1000):qV (l.map f) k=O (f (l.getD k.toNat d)):=by have e:k.toNat < l.length:=(md b).mpr h;refine(bB (by refine M (bQ ..) (M cN ?_);exact aL c (by decide))).trans ?_;refine M (bQ ..) (M (Lc b h) (M (xG ..) (M ij (M ik (M (fC e) ?_)))));rfl
theorem ZH:∀j < 16,0≤jv.getD j 0∧jv.getD j 0≤0x10FFFF:=by decide
theorem ZI(P:bT)(j7:Z)(c:aU):∃m,bE P KD {loc:=[O (.int j7),O (.bool c),aB]}=O (.ret (.str (one (jI j7 c))),m):=by
 have k:∀{d:Sg} {e:E} {x b:Z},ev P d e=O (.int x)→0 < b→b < 4611686018427387904→ev P d (.bin .Mod e (.int b))=O (.int (x % b)):=fun h l n=>bM h V (tl l n);have l:0≤j7 % 42:=eD _ (by decide);have f:∀{d:Sg},d.loc[0]? =O (O (.int j7))→ev P d (.bin .Mod (.nm 0) (.int 42))=O (.int (j7 % 42)):=fun h=>k (aT i' h) (by decide) (by decide);unfold jI
 by_cases a:c=aF∧j7 % 42 < 26
 ·refine M (aR a) ?_;(refine xa a ?_;clear a;rintro rfl a);exact⟨_,sg (x:= .lst (jv.map .int)) (nO (xs:=jv.map .int) V (by decide) V) V (cU (it (nP V (cI (f V) (y:= .int 26) V (lS a))) (cU (fU (iR (gD (bM (x:= .int 97) V (f V) iF)) (bB (by lia))) V))))⟩
 ·refine M (aP a) ?_;obtain⟨i,g⟩:∃i:Z,(if c then(j7 % 42 - 26) % 16 else j7 % 16)=i:=⟨_,rfl⟩
  have j:0≤i∧i < 16:=by
   refine aS g ?_
   split<;>exact⟨eD _ (by decide),gJ _ (by decide)⟩
  refine M g <|⟨_,sg (x:= .lst (jv.map .int)) (nO (xs:=jv.map .int) V (by decide) V) V (nx (eY ?_ V) (cU (fU (iR (gD (hV (x:= .lst (jv.map .int)) (y:= .int i) V ?_ (get_map (l:=jv) .int 0 j.1 j.2 (by decide)))) (bB (ZH i.toNat ((md j.1).mpr (dM j.2 (by decide)))))) V)))⟩
  ·cases c with
   |false=>exact vp V|true=>exact nP V (cI (f V) (y:= .int 26) V (lc fun h=>a ⟨rfl,h⟩))
  ·refine M tn ?_;cases c with
   |false=>exact(k V (by decide) (by decide)).trans (aT (fun z=>O (PV.int z)) g)|true=>exact(k (bM (f V) (y:= .int 26) V my) (by decide) (by decide)).trans (aT (fun z=>O (PV.int z)) g)
section
theorem ZJ(W:Wd w b mb h₀)(j7:Z)(a:aU):Ct w b mb h₀ T 1 "_law_sign" [.int j7,.bool a] (.str (one (jI j7 a))):=by exact xe (ZI bJ j7 a) fun d h=>W.fn (n:=0) (i:=30) (P:=bJ) (rest:=[aB]) (by decide) ⟨_,rfl⟩ V Vt (fun c J J J h=>pU (fun J J=>rfl) c h) Vs fV (fun J J J=>nn) V h V
end
end
section
noncomputable def rowOf(x:Str):aD Str:=x.cps.toList.map one
noncomputable def iu(a:Z):Int:=a / 8 % 12
noncomputable def quoted(p:Str):Str:=⟨#[34]⟩++p++⟨#[34]⟩
noncomputable def nT(b:aD Str)(a c:Z)(d:aU):aD Str:=
 if a / 4 % 2≠c∨a % 4=0 then b
 else if a % 4=1 then b.set (iu a % 3).toNat (if d then quoted (b.getD (iu a % 3).toNat ⟨#[]⟩) else⟨#[]⟩)
 else if a % 4=2 then b.take (iu a % 4).toNat++one (jI (a / 96) aF)::b.drop (iu a % 4).toNat
 else b.set (iu a % 3).toNat (one (jI (a / 96) aI))
noncomputable def M8(f:Str)(a:aD PV):aG PV:=if f="_law_sign" then ib a fun d b=>O (.str (one (jI d b))) else aB
noncomputable def jJ:bT:={gk:=hX,call:=M8}
theorem ZK:M8 (aH "_law_sign") [.int d,.bool b] =O (.str (one (jI d b))):=aR V
noncomputable def ZL:B:=match yu with
 | .cons _ (.cons _ r)=>r| _=> .nil
noncomputable def stH(x:Str)(a b:Z)(c:aU)(d:aD Str)(pl:aU):Sg:={loc:=[O (.str x),O (.int a),O (.int b),O (.bool c),O .bV,O (.int (iu a))],mu:=O (d.map .str),pl:=pl}
theorem ZM(x:Str)(k:aA):((rowOf x).getD k ⟨#[]⟩).length≤1:=by
 (refine M ik ?_;rewrite[rowOf];refine M ij ?_);cases x.cps.toList[k]? with
 |none=>exact jR _|some c=>exact bZ 1
section
theorem vV(h:ev jJ a e=O (.int x))(c:0 < b)(d:b < 4611686018427387904):ev jJ a (.bin .Mod e (.int b))=O (.int (x % b)):=bM h V (tl c d)
theorem DB(h:ev jJ a e=O (.int x))(c:0 < b)(d:b < 4611686018427387904):ev jJ a (.bin .FloorDiv e (.int b))=O (.int (x / b)):=bM h V (yv c d)
theorem ZN:ev jJ (stH x a b c d e) (.bin .Mod (.nm 1) (.int 4))=O (.int (a % 4)):=vV V (by decide) (by decide)
theorem M9:ev jJ (stH x a b c d e) (.bin .Mod (.nm 5) (.int 3))=O (.int (iu a % 3)):=vV V (by decide) (by decide)
theorem M':ev jJ (stH x a c d e f) (.call (aH "_law_sign") (.cons (.bin .FloorDiv (.nm 1) (.int 96)) (.cons (.bool b) .nil)))=O (.str (one (jI (a / 96) b))):=
 fO (jW (DB (x:=a) V (by decide) (by decide)) V) V ZK
theorem Na(g:a.length=3)(h:ev jJ (stH x b c d a aF) e=O (.str y)):ex jJ (.oN 4 (.bin .Mod (.nm 5) (.int 3)) e) (stH x b c d a aF)=O (.next,stH x b c d (a.set (iu b % 3).toNat y) aI):=by have f:(a.map PV.str).length=3:=(bQ ..).trans g;refine(KS (xs:=a.map .str) V M9 h V rfl (eD _ (by decide)) (by refine M f ?_;exact gJ _ (by decide)) (by refine M f ?_;decide)).trans ?_;refine aS xH ?_;rfl
theorem ZO(c:a.length=3)(d:(a.getD (iu b % 3).toNat ⟨#[]⟩).length≤1):ev jJ (stH x b i e a j) (.ja (.nm 3) (.bin .Add (.bin .Add (.str (aH "\"")) (.sub (.nm 4) (.bin .Mod (.nm 5) (.int 3)))) (.str (aH "\""))) (.str (aH "")))=O (.str (if e then quoted (a.getD (iu b % 3).toNat ⟨#[]⟩) else⟨#[]⟩)):=by
 have f:aH "\""=⟨#[34]⟩:=by decide+kernel
 have g:aH ""=⟨#[]⟩:=by decide+kernel
 refine M f (M g (M tn ?_));cases e with
 |false=>rfl
 |true=>
  have h:(⟨#[34]⟩++a.getD (iu b % 3).toNat ⟨#[]⟩:Str).length=1+(a.getD (iu b % 3).toNat ⟨#[]⟩).length:=xF;exact bM (bM V (hV (x:= .bV) V M9 (get_map .str ⟨#[]⟩ (eD _ (by decide)) (by refine M c ?_;exact gJ _ (by decide)) (by refine M c ?_;decide))) (vU (by show 1+_≤_;exact aL (eU d _) (by decide)))) V (vU (by refine M h ?_;show _+1≤_;exact nz (cC (eU d _) (by decide))))
end
theorem ZP(x:Str)(t:x.length=3)(a c:Z)(d:aU):∃v,bE jJ yu {loc:=[O (.str x),O (.int a),O (.int c),O (.bool d),aB,aB]}=O (.ret (.lst ((nT (rowOf x) a c d).map .str)),v):=by
 have e:(rowOf x).length=3:=(bQ ..).trans t;have u:=ZM x (iu a % 3).toNat
 have f:∀{r:aG (Fl×Sg)},bE jJ ZL (stH x a c d (rowOf x) aF)=r→bE jJ yu {loc:=[O (.str x),O (.int a),O (.int c),O (.bool d),aB,aB]}=r:=fun h=>by refine nx (tq (xs:=(rowOf x).map .str) V (bN (x:= .str x) V ?_)) (sg (x:= .int (iu a)) (vV (DB (x:=a) V (by decide) (by decide)) (by decide) (by decide)) V h);refine(bB (by refine M t ?_;decide)).trans ?_;unfold rowOf;refine M j6 ?_;rfl
 generalize rowOf x=g at e u f ⊢;have o:∀b,(a / 4 % 2 !=c)=b→ev jJ (stH x a c d g aF) (.cmp .NotEq (.bin .Mod (.bin .FloorDiv (.nm 1) (.int 4)) (.int 2)) (.nm 2))=O (.bool b):=fun b h=>cI (vV (DB (x:=a) V (by decide) (by decide)) (by decide) (by decide)) (y:= .int c) V (bb h);have q:∀(k:Z) b,(a % 4==k)=b→ev jJ (stH x a c d g aF) (.cmp .Eq (.bin .Mod (.nm 1) (.int 4)) (.int k))=O (.bool b):=fun k b h=>cI ZN (y:= .int k) V (bb h);have m:∀{r:aD Str} {p:aU},bE jJ (.cons (.ret (.nm 4)) .nil) (stH x a c d r p)=O (.ret (.lst (r.map .str)),stH x a c d r p):=cU (KR V rfl);unfold nT
 by_cases i:a / 4 % 2≠c∨a % 4=0
 ·refine M (aR i) <|⟨_,f <|cU (it ?_ m)⟩
  by_cases j:a / 4 % 2=c
  ·exact vq (o aI (by refine M j ?_;exact wY _)) (q 0 aF (beq_iff_eq.mpr (i.resolve_left fun h=>h j)))
  ·exact KW (o aF (bne_iff_ne.mpr j))
 ·refine M (aP i) ?_;have j:a / 4 % 2=c:=ahF fun h=>i (.inl h);have s:=vq (o aI (by refine M j ?_;exact wY _)) (q 0 aI (beq_eq_false_iff_ne.mpr fun h=>i (.inr h)))
  by_cases l:a % 4=1
  ·exact M (aR l) <|⟨_,f <|nx (eY s V) (nx (it (q 1 aF (beq_iff_eq.mpr l)) (nx (Na e (ZO e u)) V)) m)⟩
  ·refine M (aP l) ?_
   by_cases n:a % 4=2
   ·refine M (aR n) <|⟨_,f <|nx (eY s V) (nx (eY (q 1 aI (beq_eq_false_iff_ne.mpr l)) (nx (it (q 2 aF (beq_iff_eq.mpr n)) (nx (σ':=stH x a c d (g.take (iu a % 4).toNat++one (jI (a / 96) aF)::g.drop (iu a % 4).toNat) aF) ?_ V)) V)) m)⟩
    refine(VP (k:=iu a % 4) (xs:=g.map .str) V (vV (x:=iu a) V (by decide) (by decide)) M' V rfl ⟨eD _ (by decide),?_,by refine M (bQ ..) (M e ?_);decide⟩).trans ?_
    ·have:=gJ (iu a) (by decide:(0:Z) < 4);exact cJ (dM this (by decide))
    ·unfold stH;exact M iA (M gH (M qF (M Bg V)))
   ·exact M (aP n) <|⟨_,f <|nx (eY s V) (nx (eY (q 1 aI (beq_eq_false_iff_ne.mpr l)) (nx (eY (q 2 aI (beq_eq_false_iff_ne.mpr n)) (nx (Na e M') V)) V)) m)⟩
section
theorem ZQ(W:Wd w c mb h₀):∀f a y,jJ.call f a=O y→Ct w c mb h₀ T 1 f a y:=by intro f a y h;exact fI h (fun h=>VU h fun d b h=>cA h▸ZJ W _ _) fun h=>nn h
theorem y6(W:Wd w d mb h₀)(x:Str)(e:x.length=3)(a b:Z)(c:aU):Ct w d mb h₀ T 2 "_law_harmed" [.str x,.int a,.int b,.bool c] (.lst ((nT (rowOf x) a b c).map .str)):=by exact xe (ZP x e a b c) fun g h=>W.fn (n:=1) (i:=31) (P:=jJ) (rest:=[aB,aB]) (by decide) ⟨_,rfl⟩ V Vv (fun f J J J h=>BI (fun J J J J=>rfl) f h) Vu fV (ZQ W) V h V
end
end
section
noncomputable def iv(x:aD aA)(k:aA):aD Nat:=x.take k++x.drop (k+1)
noncomputable def kF(r low:aD aA)(k:aA):Bool:=(if r.length=2 then r else iv r k)==(if r.length=4 then low else iv low k)
noncomputable def ll(r low:aD aA):aD aA→Z
 |[] =>4|k::a=>if kF r low k then(if k=0∧r.length < 4 then 2 else 3) else ll r low a
noncomputable def dR(r low:aD aA):Int:=if r=low then 1 else ll r low [0,1,2,3]
theorem y7(n k:aA):jz n (k:Z)=min k n:=by
 unfold jz;refine M (aP (i9.mpr (cW _))) (M (af7 (Int.le_min.mpr ⟨cW _,cW _⟩)) ?_);rcases sp k n with h |h
 ·refine M (l4 h) (M (Sl (cV.mpr h)) ?_);rfl
 ·refine M (uA h) (M (Int.min_eq_right (cV.mpr h)) ?_);rfl
theorem Nb(x:Str)(k:aA):(gL x aB (O (k:Z))).cps.toList=x.cps.toList.take k:=by
 unfold gL;simp only[uJ,y7,nu,so];have a:x.cps.toList.length=x.length:=iL;rcases sp k x.length with h |h
 ·exact M (l4 h) V
 ·exact M (uA h) (M (mG (cM a)) (M (mG (aL (cM a) h)) V))
theorem DC(x:Str)(k:aA):(gL x (O (k:Z)) aB).cps.toList=x.cps.toList.drop k:=by
 unfold gL;simp only[uJ,y7];have a:x.cps.toList.length=x.length:=iL;rcases sp k x.length with h |h
 ·exact M (l4 h) (M (mG (by refine M iB ?_;exact qI (cM a) _)) V)
 ·exact M (uA h) (M (xc (cM a)) (M (xc (aL (cM a) h)) (M AF V)))
theorem ZR(x:Str)(k:aA):(gL x aB (O (k:Z))++gL x (O ((k:Z)+1)) aB).cps.toList=iv x.cps.toList k:=by refine(M lH (M (Nb ..) (M (show((k:Z)+1)=((k+1:aA):Z) by exact xL V) (M (DC ..) ?_))):((gL x aB (O (k:Z))).cps++(gL x (O ((k:Z)+1)) aB).cps).toList=_);rfl
theorem DD(x y:Str):x=y↔x.cps.toList=y.cps.toList:=⟨fun h=>M h V,fun h=>fT h⟩
noncomputable def DE:B:=(.cons (.asg 4 (.ja (.cmp .Eq (.bi "len" (.cons (.nm 0) .nil)) (.int 2)) (.nm 0) (.bin .Add (.dD (.nm 0) .none (.nm 3)) (.dD (.nm 0) (.bin .Add (.nm 3) (.int 1)) .none))))
  (.cons (.asg 5 (.ja (.cmp .Eq (.bi "len" (.cons (.nm 0) .nil)) (.int 4)) (.nm 2) (.bin .Add (.dD (.nm 2) .none (.nm 3)) (.dD (.nm 2) (.bin .Add (.nm 3) (.int 1)) .none))))
  (.cons (.ite (.cmp .Eq (.nm 4) (.nm 5)) (.cons (.ret (.ja (.bo .And (.cons (.cmp .Eq (.nm 3) (.int 0)) (.cons (.cmp .Lt (.bi "len" (.cons (.nm 0) .nil)) (.int 4)) .nil))) (.int 2) (.int 3)))
  .nil) .nil)
  .nil)))
theorem Nc(x:Str)(l h:aG Z):(gL x l h).length≤x.length:=by refine(M kO (M ni (M iB ?_)):(Gv _ _).toArray.size≤_);exact aL (Gb _ _) (aL (l7 _ _) (cM iL))
noncomputable def qo(p:aU)(y:Str)(k:aA):Str:=if p then y else gL y aB (O (k:Z))++gL y (O ((k:Z)+1)) aB
theorem Nd(p:Prop) [qC p] (y:Str)(k:aA):(qo (decide p) y k).cps.toList=if p then y.cps.toList else iv y.cps.toList k:=by
 by_cases h:p
 ·refine M (fM h) (M (aR h) ?_);rfl
 ·refine M (eO h) (M (aP h) ?_);exact ZR y k
section
theorem y8(a:r.length≤1000)(b:c.loc[0]? =O (O (.str r))):ev P c (.bi "len" (.cons (.nm 0) .nil))=O (.int r.length):=iR (gD (aT i' b)) (bB (by refine M cN ?_;exact aL a (by decide)))
theorem Nf{P:bT}{a:Sg}{r y:Str}{k:aA}{i:aA}{n:aA}(c:r.length≤1000)(j:y.length≤1000)(d:a.loc[0]? =O (O (.str r)))(b:a.loc[i]? =O (O (.str y)))(f:a.loc[3]? =O (O (.int k))):
  ev P a (.ja (.cmp .Eq (.bi "len" (.cons (.nm 0) .nil)) (.int n)) (.nm i) (.bin .Add (.dD (.nm i) .none (.nm 3)) (.dD (.nm i) (.bin .Add (.nm 3) (.int 1)) .none)))=O (.str (qo (decide (r.length=n)) y k)):=by
 have g:y.length≤eF:=by refine M cN ?_;exact aL j (by decide)
 refine M tn ?_
 by_cases h:r.length=n
 ·refine M (bN (cI (y8 c d) (y:= .int n) V (KZ (pM.mpr h))) V) (M (fM h) ?_);exact aT i' b
 ·refine M (bN (cI (y8 c d) (y:= .int n) V (yy fun e=>h (pM.mp e))) V) (M (eO h) ?_)
  exact bM (oY (aT i' b) (u:= .none) V (aT i' f) (bB g)) (oY (aT i' b) (bM (aT i' f) (y:= .int 1) V iF) (v:= .none) V (bB g))
   (vU (by have:=Nc y aB (O (k:Z));have:=Nc y (O ((k:Z)+1)) aB;lia))
end
noncomputable def stN(r a low:Str)(b c d:aG PV):Sg:={loc:=[O (.str r),O (.str a),O (.str low),b,c,d]}
theorem ZS(P:bT)(r g low:Str)(d:r.length≤1000)(j:low.length≤1000)(k:aA)(l m:aG PV):∃a b,bE P DE (stN r g low (O (.int k)) l m)=O (if kF r.cps.toList low.cps.toList k then .ret (.int (if k=0∧r.length < 4 then 2 else 3)) else .next,stN r g low (O (.int k)) a b):=by
 refine⟨O (.str (qo (decide (r.length=2)) r k)),O (.str (qo (decide (r.length=4)) low k)),sg (Nf (n:=2) (k:=k) d d V rfl rfl) V (sg (Nf (n:=4) (k:=k) d j V rfl rfl) V ?_)⟩
 have c:decide (qo (decide (r.length=2)) r k=qo (decide (r.length=4)) low k)=kF r.cps.toList low.cps.toList k:=by unfold kF;refine M iL (iO Q1 (M lG (iO me (iO (DD ..) (M (Nd ..) (M (Nd ..) ?_))))));rfl
 generalize qo (decide (r.length=2)) r k=a at c ⊢;generalize qo (decide (r.length=4)) low k=b at c ⊢;cases i:kF r.cps.toList low.cps.toList k with
 |true=>
  rw[i] at c;refine cU (it (cI (x:= .str a) (y:= .str b) V rfl (bb c)) (cU (fU ?_ V)));refine M tn ?_
  by_cases f:k=0
  ·subst f
   by_cases e:r.length < 4
   ·refine M (aR ⟨rfl,e⟩) (M (bN (nP (cI (x:= .int ((0:aA):Z)) (y:= .int 0) V rfl rfl) (cI (y8 d V) (y:= .int 4) V (lS (dZ.mpr e)))) V) ?_);rfl
   ·refine M (aP fun h=>e h.2) (M (bN (nP (cI (x:= .int ((0:aA):Z)) (y:= .int 0) V rfl rfl) (cI (y8 d V) (y:= .int 4) V (lc fun h=>e (dZ.mp h)))) V) ?_);rfl
  ·refine M (aP fun h=>f h.1) (M (bN (vp (cI (x:= .int k) (y:= .int 0) V rfl (yy fun h=>f (pM.mp h)))) V) ?_);rfl
 |false=>
  rw[i] at c;exact nx (eY (cI (x:= .str a) (y:= .str b) V rfl (bb c)) V) V
noncomputable def ZT(z:Z):Fl→Prop
 | .ret v=>v= .int z| .next=>z=4| .brk=>bO
theorem ZU(P:bT)(r j low:Str)(m:r.length≤1000)(n:low.length≤1000)(c:aD aA):∀(g d e:aG PV),∃i f,gM (bE P DE) 3 (c.map fun k=> .int (k:aA)) (stN r j low g d e)=O (f,i)∧ZT (ll r.cps.toList low.cps.toList c) f:=by
 induction c with
 |nil=>exact fun g d e=>⟨_,.next,rfl,rfl⟩
 |cons k c ih=>
  intro g d e;refine oJ (ZS P r j low m n k d e) fun a b h=> ?_;have o:ll r.cps.toList low.cps.toList (k::c)=if kF r.cps.toList low.cps.toList k then(if k=0∧r.cps.toList.length < 4 then 2 else 3) else ll r.cps.toList low.cps.toList c:=rfl
  refine M o (M iL ?_)
  by_cases l:kF r.cps.toList low.cps.toList k=aF
  ·rw[aR l] at h ⊢;exact⟨_,_,KO h,rfl⟩
  ·rw[aP l] at h ⊢;exact iN (ih (O (.int k)) a b) fun i f p q=>⟨i,f,(rl h).trans p,q⟩
theorem ZV(P:bT)(r a:Str)(i:r.length≤1000)(j:a.length≤1000)(k:(cD a).length≤1000):∃b,bE P KI {loc:=[O (.str r),O (.str a),aB,aB,aB,aB]}=O (.ret (.int (dR r.cps.toList (cD a).cps.toList)),b):=by
 have e:ev P {loc:=[O (.str r),O (.str a),aB,aB,aB,aB]} (.dG "lower" (.nm 1) .nil)=O (.str (cD a)):=kZ (x:= .str a) V rfl (bB (aL j (by decide)));unfold dR
 by_cases c:r=cD a
 ·exact M (aR ((DD _ _).mp c)) <|⟨_,sg e V (cU (it (cI (x:= .str r) (y:= .str (cD a)) V rfl (bb (fM c))) (cU (fU (x:= .int 1) V rfl))))⟩
 ·refine M (aP fun h=>c ((DD _ _).mpr h)) <|iN (ZU P r a (cD a) i k [0,1,2,3] aB aB aB) fun b f l d=> ?_
  have g:ex P (.forR 3 (.int 4) DE) (stN r a (cD a) aB aB aB)=O (f,b):=(tr (N:=4) V (by decide)).trans l;refine⟨b,sg e V (nx (eY (cI (x:= .str r) (y:= .str (cD a)) V rfl (bb (eO c))) V) ?_)⟩;cases f with
  |ret v=>cases d;exact cU g|next=>refine M (d:ll r.cps.toList (cD a).cps.toList [0,1,2,3] =4) ?_;exact nx g (cU (fU (x:= .int 4) V rfl))|brk=>exact d.elim
section
theorem ZW(W:Wd w b mb h₀)(r a:Str)(c:r.length≤1000)(d:a.length≤1000)(e:(cD a).length≤1000):Ct w b mb h₀ T 1 "_law_near" [.str r,.str a] (.int (dR r.cps.toList (cD a).cps.toList)):=by exact xe (ZV bJ r a c d e) fun g h=>W.fn (n:=0) (i:=32) (P:=bJ) (rest:=[aB,aB,aB,aB]) (by decide) ⟨_,rfl⟩ V Vx (fun f J J J h=>pU (fun J J=>rfl) f h) Vw fV (fun J J J=>nn) V h V
end
end
section
noncomputable def jK:aD Int:=[173,847,6150,6155,6156,6157,8203,8204,8205,8288,65279,65024,65025,65026,65027,65028,65029,65030,65031,65032,65033,65034,65035,65036,65037,65038,65039]
noncomputable def jL:aD Int:=[119808,119860,119912,120016,120172,120224,120276,120328,120380,120432]
noncomputable def o7:aD (Str×Z):=[((aH "ma"),13187),((aH "pr"),13274),((aH "no"),8470),((aH "ov"),13173),((aH "au"),13171),((aH "ss"),223),((aH "ff"),64256),((aH "st"),64262)]
noncomputable def jZ(p:Str):Bool:= !decide ((cD p).cps.toList < [97]) && !decide ([122] < (cD p).cps.toList)
noncomputable def pairOf(p:Str)(a:aD Str):Str:=cD (l9 ⟨#[]⟩ (p::a.take 1))
noncomputable def nU(x:Str):aG Int:=(o7.find? fun q=>decide (q.1=x)).map (·.2)
noncomputable def qp(x:Str):Int:=((cD x).cps.getD 0 0:aA)
noncomputable def rC(a:Z)(p:Str):Nat:=(jL.getD (a - 27).toNat 0+qp p - 97).toNat
noncomputable def qq(a:Z):Nat:=(jK.getD a.toNat 0).toNat
noncomputable def tG:aD Str→aU→Z→Str→Str×Z
 |[],_,d,a=>(a,d)| _::b,aF,d,a=>tG b aI d a
 |p::b,aI,d,a=>
  if d % 40 < 27 then tG b aI (d / 40) (a++(p++one (qq (d % 40))))
  else if d % 40 < 37∧jZ p=aF then tG b aI (d / 40) (a++one (rC (d % 40) p))
  else match(if 37 < d % 40 then nU (pairOf p b) else aB) with
   |some v=>tG b aF (d / 40) (a++one v.toNat)|none=>tG b aI (d / 40) (a++(if d % 40=37 then qH p else p))
noncomputable abbrev fX(Y:aD Str)(d:Z)(a:Str):Str×Int:=tG Y aI d a
section
theorem Ng(h:d % 40 < 27):fX (p::a) d b=fX a (d / 40) (b++(p++one (qq (d % 40)))):=aR h
theorem Nh(h:¬d % 40 < 27)(a:d % 40 < 37∧jZ p=aF):fX (p::b) d c=fX b (d / 40) (c++one (rC (d % 40) p)):=(aP h).trans (aR a)
theorem DF(h:¬d % 40 < 27)(b:¬(d % 40 < 37∧jZ p=aF))(c:(if 37 < d % 40 then nU (pairOf p a) else aB)=aB):fX (p::a) d e=fX a (d / 40) (e++(if d % 40=37 then qH p else p)):=
 (aP h).trans ((aP b).trans (M c V))
theorem Ni(h:¬d % 40 < 27)(b:¬(d % 40 < 37∧jZ p=aF))(c:(if 37 < d % 40 then nU (pairOf p a) else aB)=O v):fX (p::a) d e=fX a.tail (d / 40) (e++one v.toNat):=
 (aP h).trans ((aP b).trans (by refine M c ?_;cases a<;>rfl))
end
structure qr(p:Str):Prop where
 len:p.length≤10
 low:(cD p).length≤30
 up:(qH p).length≤30
 az:jZ p=aF→(cD p).length=1∧97≤qp p∧qp p≤122
noncomputable def y9:E:= .oL .LtE .LtE (.str (aH "a")) (.dG "lower" (.nm 7) .nil) (.str (aH "z"))
noncomputable def rD:S:= .ite (.cmp .Lt (.nm 9) (.int 27)) (.cons (.aug 5 .Add (.bin .Add (.nm 7) (.bi "chr" (.cons (.sub (.nm 2) (.nm 9)) .nil)))) .nil)
  (.cons (.ite (.bo .And (.cons (.cmp .Lt (.nm 9) (.int 37)) (.cons y9 .nil))) (.cons (.aug 5 .Add (.bi "chr" (.cons (.bin .Sub (.bin .Add (.sub (.nm 3) (.bin .Sub (.nm 9) (.int 27))) (.bi "ord" (.cons (.dG "lower" (.nm 7) .nil) .nil))) (.int 97)) .nil))) .nil)
  (.cons (.ite (.bo .And (.cons (.cmp .Gt (.nm 9) (.int 37)) (.cons (.cmp .In (.nm 8) (.nm 4)) .nil))) (.cons (.aug 5 .Add (.bi "chr" (.cons (.sub (.nm 4) (.nm 8)) .nil))) (.cons (.aug 6 .Add (.int 1)) .nil))
  (.cons (.aug 5 .Add (.ja (.cmp .Eq (.nm 9) (.int 37)) (.dG "upper" (.nm 7) .nil) (.nm 7))) .nil)) .nil)) .nil)
noncomputable def vW:B:= .cons (.asg 7 (.sub (.nm 0) (.nm 6))) (.cons (.asg 8 (.dG "lower" (.dG "join" (.str (aH "")) (.cons (.dD (.nm 0) (.nm 6) (.bin .Add (.nm 6) (.int 2))) .nil)) .nil))
  (.cons (.asg 9 (.bin .Mod (.nm 1) (.int 40))) (.cons (.aug 1 .FloorDiv (.int 40)) (.cons rD (.cons (.aug 6 .Add (.int 1)) .nil)))))
noncomputable def mA(Y:aD Str)(d:Z)(a:Str)(i:Z)(b c e:aG PV):Sg:=
 {loc:=[O (.lst (Y.map .str)),O (.int d),O (.lst (jK.map .int)),O (.lst (jL.map .int)),O (.gA o7),O (.str a),O (.int i),b,c,e]}
noncomputable def gP(Y:aD Str)(p x:Str)(a d:Z)(b:Str)(i:Z):Sg:=mA Y d b i (O (.str p)) (O (.str x)) (O (.int a))
theorem strs_map:∀l:aD Str,strs? (l.map PV.str)=O l
 |[] =>rfl|a::r=>aT (j4 (a:: ·)) (strs_map r)
theorem vX(l:aD Str):(l9 ⟨#[]⟩ l).cps.toList=(l.map fun x=>x.cps.toList).flatten:=by
 have e:l9 ⟨#[]⟩ l=Bh ⟨#[]⟩ l:=by simpa using join_plain_closes ⟨#[]⟩ l
 refine M e ?_;clear e
 induction l with
 |nil=>rfl
 |cons a r ih=>
  cases r with
  |nil=>simp[Bh]
  |cons b t=>
   have:Bh ⟨#[]⟩ (a::b::t)=a++⟨#[]⟩++Bh ⟨#[]⟩ (b::t):=rfl;show((a.cps++ #[])++(Bh ⟨#[]⟩ (b::t)).cps).toList=_;refine M lH (M ih ?_);exact rfl
theorem DG(l:aD Str):(l9 ⟨#[]⟩ l).length=(l.map (·.length)).sum:=by
 have h:=vX l;have:(l9 ⟨#[]⟩ l).cps.toList.length=(l9 ⟨#[]⟩ l).length:=iL;refine aS this (M h ?_);clear h this
 induction l with
 |nil=>rfl|cons a r ih=>simp only[gH,QY,bH,agd,ih];rfl
section
variable(P:bT)(Y:aD Str)
theorem ZX(i:aA)(a:i < Y.length):xU (Y.map PV.str) (O (i:Z)) (O ((i:Z)+2))=((Y.drop i).take 2).map PV.str:=by
 unfold xU;simp only[uJ,bQ,show((i:Z)+2)=((i+2:aA):Z) by lia,y7];refine M (l4 (fE a)) (M qF (M Bg ?_));rcases sp (i+2) Y.length with h |h
 ·exact M (l4 h) (M (qy _ _:i+2 - i=2) V)
 ·exact M (uA h) (M (mG (by refine M iB (M (bQ ..) ?_);exact bZ _)) (M (mG (by refine M iB (M (bQ ..) ?_);exact jy (Hv (fE a) (mh h)))) V))
theorem ZY:∀j < 27,0≤jK.getD j 0∧jK.getD j 0≤0x10FFFF:=by decide
theorem ZZ:∀j < 10,119808≤jL.getD j 0∧jL.getD j 0≤120432:=by decide
theorem Z0:∀q∈o7,0≤q.2∧q.2≤0x10FFFF:=by decide
theorem Nj(c:ev P (gP Y p x b d a i) e=O (.str y))(f:y.length≤40)(g:a.length≤1000):ex P (.aug 5 .Add e) (gP Y p x b d a i)=O (.next,gP Y p x b d (a++y) i):=
 qj V c (bB (by refine(M xF (M cN ?_):(a.cps++y.cps).size≤_);show a.length+y.length≤_;exact aL (fY g f) (by decide)))
theorem DH(c:ev P (gP Y p x b d a i) e=O (.str y))(f:y.length≤40)(g:a.length≤1000):bE P (.cons (.aug 5 .Add e) .nil) (gP Y p x b d a i)=O (.next,gP Y p x b d (a++y) i):=eL (Nj P Y c f g)
theorem Nk{p x a:Str}{b d:Z}{i:aA}:ex P (.aug 6 .Add (.int 1)) (gP Y p x b d a i)=O (.next,gP Y p x b d a (i+1:aA)):=qj V rfl rfl
theorem DI {a} (h:p.length≤20):nG a "lower" (.str p) [] =O (.str (cD p)):=bB (aL h (by decide))
theorem Z3(c:Y.length≤10)(a:Y.drop i=p::b)(e:(l9 ⟨#[]⟩ (p::b.take 1)).length≤20)(d:Z)(f:Str)(g j k:aG PV):
  bE P vW (mA Y d f i g j k)=bE P (.cons rD (.cons (.aug 6 .Add (.int 1)) .nil)) (gP Y p (pairOf p b) (d % 40) (d / 40) f i):=by
 have l:i < Y.length:=age fun h=>by replace a:=(xc h)▸a;cases a
 have m:Y[i]? =O p:=by
  have:(Y.drop i)[0]? =O p:=by refine M a ?_;rfl
  rwa [AA,sb] at this
 refine(eL (gO (x:= .str p) (hV (x:= .lst (Y.map .str)) (y:= .int i) V rfl (ZG (by refine M (bQ ..) (M cN ?_);exact aL c (by decide)) (cW _) (by refine M (oF ..) (M ij (M m ?_));rfl))) V)).trans ?_
 refine(eL (gO (x:= .str (pairOf p b)) (kZ (kZ (x:= .str ⟨#[]⟩) (z:= .str (l9 ⟨#[]⟩ (p::b.take 1))) (by refine M (by decide+kernel:(aH "")=⟨#[]⟩) ?_;rfl)
  (gD (oY (x:= .lst (Y.map .str)) (u:= .int i) (v:= .int ((i:Z)+2)) (z:= .lst (((p::b).take 2).map .str)) V rfl rfl ?_)) ?_) V (DI e)) V)).trans ?_
 ·refine(bB (by refine M (bQ ..) ?_;exact aL c (by decide))).trans ?_;exact M (ZX Y i l) (M a V)
 ·refine bN (strs_map _) (bB ?_);exact aS (DG ..) <|aL e (by decide)
 ·exact(eL (gO (x:= .int (d % 40)) (bM V rfl (tl (by decide) (by decide))) V)).trans ((eL (qj (p:= .int d) (y:= .int 40) V rfl (VD (by decide) (by decide)))).trans rfl)
theorem Nl(a:p.length≤10):ev P (gP Y p x b d c i) y9=O (.bool (jZ p)):=by
 have e:aH "a"=⟨#[97]⟩:=by decide+kernel
 have f:aH "z"=⟨#[122]⟩:=by decide+kernel
 unfold y9;refine bN V (bN (x:= .str (cD p)) (kZ V rfl (DI (aL a (by decide)))) ?_)
 show(match O (PV.bool (!decide ((cD p).cps.toList < [97]))) with
  |some (.bool aI)=>O (PV.bool aI)|some (.bool aF)=>O (PV.bool (!decide ([122] < (cD p).cps.toList)))| _=>aB)=_
 unfold jZ;cases(!decide ((cD p).cps.toList < [97])) <;>rfl
section
theorem Z4(b:p.length≤10)(f:c.length≤1000)(e:0≤a)(h:a < 27):ex P rD (gP Y p x a d c i)=O (.next,gP Y p x a d (c++(p++one (qq a))) i):=by
 have g:(p++one (qq a)).length=p.length+1:=xF
 exact(qk (cI (x:= .int a) V rfl (lS h)) V).trans (DH P Y (bM (x:= .str p) V (iR (gD (hV (x:= .lst (jK.map .int)) (y:= .int a) V rfl (get_map .int 0 e (by show _ < 27;exact h) (by decide)))) (bB (ZY a.toNat ((md e).mpr (dM h (by decide))))))
  (vU (by show _+1≤_;exact nz (cC b (by decide))))) (by refine M g ?_;exact nz (cC b (by decide))) f)
theorem DJ{B:B}(h:ev P (gP Y p x a d b i) t=O (.bool aI))(c:ex P s (gP Y p x a d b i)=O (.next,e)):ex P (.ite t A (.cons s .nil)) (gP Y p x a d b i)=O (.next,e):=(nN h V).trans (eL c)
theorem Z5(b:qr p)(k:c.length≤1000)(e:¬a < 27)(h:a < 37)(f:jZ p=aF):ex P rD (gP Y p x a d c i)=O (.next,gP Y p x a d (c++one (rC a p)) i):=by refine iD (b.az f) fun l m n=> ?_;have g:0≤a - 27:=AW (i9.mp e);have o:(a - 27).toNat < 10:=(md g).mpr (So h);have j:=ZZ (a - 27).toNat o;have b:=b.len;refine DJ P Y (B:= .nil) (cI (x:= .int a) V rfl (lc e)) ((qk (nP (cI (x:= .int a) V rfl (lS h)) ((Nl P Y b).trans (bb f))) V).trans (DH P Y ?_ (by show 1≤40;decide) k));refine iR (gD (bM (bM (hV (x:= .lst (jL.map .int)) (y:= .int (a - 27)) V rfl (get_map .int 0 g (So h) (by decide))) (iR (gD (kZ (x:= .str p) V rfl (DI (aL b (by decide))))) (bB l)) iF) V my)) (bB ?_);exact(⟨cK (by decide) (agf (nq j.1 m) 97),cK (agf (nq j.2 n) 97) (by decide)⟩:0≤jL.getD (a - 27).toNat 0+qp p - 97∧jL.getD (a - 27).toNat 0+qp p - 97≤0x10FFFF)
theorem Nm(g:p.length≤10)(j:¬a < 27)(h:¬(a < 37∧jZ p=aF)){B:B}(k:ex P (.ite t A B) (gP Y p x a d l i)=O (.next,m)):∀c f,ex P (.ite (.cmp .Lt (.nm 9) (.int 27)) c (.cons (.ite (.bo .And (.cons (.cmp .Lt (.nm 9) (.int 37)) (.cons y9 .nil))) f (.cons (.ite t A B) .nil)) .nil)) (gP Y p x a d l i)=O (.next,m):=fun c f=>by
 refine DJ P Y (B:= .nil) (cI (x:= .int a) V rfl (lc j)) (DJ P Y (B:= .nil) ?_ k)
 by_cases b:a < 37
 ·refine nP (cI (x:= .int a) V rfl (lS b)) ((Nl P Y g).trans (bb ?_));cases e:jZ p with
  |false=>rfl|true=>exact absurd ⟨b,e⟩ h
 ·exact vp (cI (x:= .int a) V rfl (lc b))
theorem Nn:ev P (gP Y p x a d b i) (.cmp .In (.nm 8) (.nm 4))=O (.bool (nU x).isSome):=by refine bb (p:=o7.any fun q=>decide (q.1=x)) ?_;unfold nU;rw[Option.isSome_map,Q1,wZ,List.find?_isSome]
theorem Z6{p x b:Str}{a d:Z}{i:aA}(f:p.length≤10)(g:b.length≤1000)(j:¬a < 27)(h:¬(a < 37∧jZ p=aF))(k:37 < a){v:Z}(c:nU x=O v):ex P rD (gP Y p x a d b i)=O (.next,gP Y p x a d (b++one v.toNat) (i+1:aA)):=by(refine aQ (l8.mp c) ?_;rintro q e rfl);refine Nm P Y f j h ((qk (nP (cI (x:= .int a) V rfl (CJ k)) ((Nn P Y).trans (bb (by refine M c ?_;rfl)))) V).trans ?_) _ _;exact(eL (Nj P Y (iR (gD (hV (x:= .gA o7) (y:= .str x) (z:= .int q.2) V rfl (aT (j4 fun q:Str×Z=>PV.int q.2) e))) (by exact bB (Z0 q (agg e)))) (by show 1≤40;decide) g)).trans (eL (Nk P Y))
theorem Z7(f:qr p)(k:b.length≤1000)(l:¬a < 27)(h:¬(a < 37∧jZ p=aF))(g:(if 37 < a then nU x else aB)=aB):ex P rD (gP Y p x a d b i)=O (.next,gP Y p x a d (b++(if a=37 then qH p else p)) i):=by
 have j:=f.len;refine Nm P Y j l h ((nN (x:= .bool aI) ?_ V).trans (DH P Y ?_ ?_ k)) _ _
 ·by_cases c:37 < a
  ·rw[aR c] at g;exact nP (cI (x:= .int a) V rfl (CJ c)) ((Nn P Y).trans (bb (by refine M g ?_;rfl)))
  ·exact vp (cI (x:= .int a) V rfl (CK c))
 ·refine M tn ?_
  by_cases e:a=37
  ·subst e;exact(bB (aL j (by decide)):xW "upper" (.str p)=_)
  ·have:(a==37)=false:=beq_eq_false_iff_ne.mpr e;refine M (show(ev P (gP Y p x a d b i) (.cmp .Eq (.nm 9) (.int 37))).bind truth=O (a==37) from rfl) (M this (M (aP e) ?_));rfl
 ·have:=f.up
  split<;>exact aL (by assumption) (by decide)
end
noncomputable def No(Y:aD Str)(i:aA)(p:Str)(j:aD Str)(d:Z)(g:Str)(z:aG (Fl×Sg)):Prop:=∃h e f a b c,z=O (.next,mA Y h e (f:aA) (O a) (O b) (O c))∧i < f∧e.length≤g.length+40∧fX (p::j) d g=fX (Y.drop f) h e
theorem Z8{a y:Str}(h:y.length≤40):(a++y).length≤a.length+40:=aL (cM xF) (eU h _)
theorem Z9(z:∀p∈Y,qr p)(A:Y.length≤10)(i:aA)(p:Str)(a:aD Str)(o:Y.drop i=p::a)(d:Z)(b:Str)(k:b.length≤1000)(s t u:aG PV):
  No Y i p a d b (bE P vW (mA Y d b (i:aA) s t u)):=by
 have l:Y.drop (i+1)=a:=Bi.symm.trans (aT List.tail o);have x:∀q∈p::a,qr q:=fun q B=>z q (A9 (o▸B));have m:=x p (.head _);have f:=m.len
 have C:(l9 ⟨#[]⟩ (p::a.take 1)).length≤20:=by
  refine M (DG ..) ?_;cases a with
  |nil=>exact aL f (by decide)|cons q r=>exact fY f (x q (.tail _ (.head _))).len
 have D:0≤d % 40:=eD _ (by decide)
 have n:∀(y:Str) (g:aA),ex P rD (gP Y p (pairOf p a) (d % 40) (d / 40) b i)=O (.next,gP Y p (pairOf p a) (d % 40) (d / 40) (b++y) (g:aA))→y.length≤40→i≤g→fX (p::a) d b=fX (Y.drop (g+1)) (d / 40) (b++y)→
   No Y i p a d b (bE P vW (mA Y d b (i:aA) s t u)):=fun y g h E F G=>
  ⟨d / 40,b++y,g+1,_,_,_,(Z3 P Y A o C d b s t u).trans (nx h (eL (Nk P Y))),mh F,Z8 E,G⟩
 by_cases c:d % 40 < 27
 ·exact n _ i (Z4 P Y f k D c) (aL (cM xF) (aL (lF f 1) (by decide))) (bZ _) (by refine M l ?_;exact Ng c)
 ·by_cases e:d % 40 < 37∧jZ p=aF
  ·exact n _ i (Z5 P Y m k c e.1 e.2) (by show 1≤40;decide) (bZ _) (by refine M l ?_;exact Nh c e)
  ·cases j:(if 37 < d % 40 then nU (pairOf p a) else aB) with
   |none=>
    refine n _ i (Z7 P Y m k c e j) ?_ (bZ _) (by refine M l ?_;exact DF c e j)
    split
    ·exact aL m.up (by decide)
    ·exact aL f (by decide)
   |some v=>
    by_cases w:37 < d % 40
    ·exact n _ (i+1) (Z6 P Y f k c e w ((aR w).symm.trans j)) (by show 1≤40;decide) (uI _) (by refine aS Bi (M l ?_);exact Ni c e j)
    ·exact nomatch (aP w).symm.trans j
end
end
section
section
variable(P:bT)(Y:aD Str)
noncomputable def Z'(P:bT)(Y:aD Str)(n i:aA)(d:Z)(e:Str)(z:Str×Z)(f g h:aG PV):Prop:=∃j a b c,kA (fun k=>(ev P k (.cmp .Lt (.nm 6) (.bi "len" (.cons (.nm 0) .nil)))).bind truth) (bE P vW) n (mA Y d e (i:aA) f g h)=O (.next,mA Y z.2 z.1 (j:aA) a b c)
theorem aaa(z:∀p∈Y,qr p)(t:Y.length≤10)(n:aA):∀(i:aA) (d:Z) (e:Str) (f g l:aG PV),Y.length - i < n→e.length+40*(Y.length - i)≤900→Z' P Y n i d e (fX (Y.drop i) d e) f g l:=by
 have u:∀(i:aA) (d:Z) (e:Str) (f g l:aG PV),ev P (mA Y d e (i:aA) f g l) (.bi "len" (.cons (.nm 0) .nil))=O (.int Y.length):=fun i d e f g l=>
  iR (gD (x:= .lst (Y.map .str)) V) ((bB (by refine M (bQ ..) (M cN ?_);exact aL t (by decide))).trans (aT (fun n:aA=>O (PV.int n)) (bQ _)))
 induction n with
 |zero=>exact fun J J J J J J o J=>absurd o (RY _)
 |succ n ih=>
  intro i d e f g l o r
  by_cases m:i < Y.length
  ·obtain⟨p,s,v⟩:∃p s,Y.drop i=p::s:=⟨Y[i],Y.drop (i+1),As m⟩;refine xe (Nat.exists_eq_add_of_lt m) fun k w=> ?_;have A:Y.length - i=k+1:=M w (M (iI ..) (M (qy ..) V));rw[A] at o r;refine H6 (Z9 P Y z t i p s v d e (aL (hO _ _) (aL r (by decide))) f g l) fun B C x a b c D E F G=> ?_;have y:Y.length - x≤k:=qS (by refine M w (M (iI ..) (M (iz i ..) (M (iI ..) ?_)));exact eU (by refine M (iz ..) ?_;exact E) k);(refine sF (ih x B C (O a) (O b) (O c) (cC y (Hk o)) (aL (fY F (wS 40 y)) (by refine M (iI ..) (M (iz 40 ..) ?_);exact r))) ?_;rintro j H I K h);refine M v (M G ?_);exact⟨j,H,I,K,(CI (bN (cI (x:= .int i) V (u ..) (lS (dZ.mpr m))) V) D).trans h⟩
  ·exact M (xc (jA.mp m)) <|⟨i,f,g,l,vr (bN (cI (x:= .int i) V (u ..) (lc fun q=>m (dZ.mp q))) V)⟩
theorem aab(g:∀p∈Y,qr p)(e:Y.length≤10)(d:Z):∃i,bE P (CB 12) {loc:=[O (.lst (Y.map .str)),O (.int d),aB,aB,aB,aB,aB,aB,aB,aB]}=O (.ret (.tup [.str (fX Y d ⟨#[]⟩).1,.int (fX Y d ⟨#[]⟩).2]),i):=by
 have j:aH ""=⟨#[]⟩:=by decide+kernel
 (refine sF (aaa P Y g e 12 0 d ⟨#[]⟩ aB aB aB (Nat.sub_lt_sub_right (jR _) (cC e (by decide))) (by show 0+_≤_;lia)) ?_;rintro f a b c h);rw[nu] at h;refine⟨(mA Y (fX Y d ⟨#[]⟩).2 (fX Y d ⟨#[]⟩).1 (f:aA) a b c),?_⟩;unfold CB;have k:pW 65024 65040 1=(jK.drop 11).map .int:=by rfl
 have l:ex P (.oO 12 (.cmp .Lt (.nm 6) (.bi "len" (.cons (.nm 0) .nil))) vW) (mA Y d ⟨#[]⟩ ((0:aA):Z) aB aB aB)=O (.next,(mA Y (fX Y d ⟨#[]⟩).2 (fX Y d ⟨#[]⟩).1 (f:aA) a b c)):=h
 rw[eL (σ':={loc:=[O (.lst (Y.map .str)),O (.int d),O (.lst (jK.map .int)),aB,aB,aB,aB,aB,aB,aB]}) (gO (x:= .lst (jK.map .int)) (by
  have m:ev P {loc:=[O (.lst (Y.map .str)),O (.int d),aB,aB,aB,aB,aB,aB,aB,aB]} (.lO (.cons (.int 65024) (.cons (.int 65040) .nil)))=O (.lst ((jK.drop 11).map .int)):=by show aZ _ _=_;rw[bB ⟨by decide,by decide,by decide,by decide,by decide,by decide⟩,k]
  have n:ev P {loc:=[O (.lst (Y.map .str)),O (.int d),aB,aB,aB,aB,aB,aB,aB,aB]} (.lst (.cons (.int 173) (.cons (.int 847) (.cons (.int 6150) (.cons (.int 6155) (.cons (.int 6156) (.cons (.int 6157) (.cons (.int 8203) (.cons (.int 8204) (.cons (.int 8205) (.cons (.int 8288) (.cons (.int 65279) .nil))))))))))))=O (.lst ((jK.take 11).map .int)):=nO (xs:=(jK.take 11).map .int) V (by decide) V;exact bM n m (bB (by decide))) V)]
 rw[eL (σ':={loc:=[O (.lst (Y.map .str)),O (.int d),O (.lst (jK.map .int)),O (.lst (jL.map .int)),aB,aB,aB,aB,aB,aB]}) (gO (x:= .lst (jL.map .int)) (nO (xs:=jL.map .int) V (by decide) V) V)];rw[eL (σ':={loc:=[O (.lst (Y.map .str)),O (.int d),O (.lst (jK.map .int)),O (.lst (jL.map .int)),O (.gA o7),aB,aB,aB,aB,aB]}) (gO (x:= .gA o7) (by rfl) V)];rw[eL (σ':={loc:=[O (.lst (Y.map .str)),O (.int d),O (.lst (jK.map .int)),O (.lst (jL.map .int)),O (.gA o7),O (.str ⟨#[]⟩),aB,aB,aB,aB]}) (gO (x:= .str ⟨#[]⟩) (by rw[j];rfl) V)];rw[eL (σ':=(mA Y d ⟨#[]⟩ ((0:aA):Z) aB aB aB)) (gO (x:= .int 0) (by rfl) V)];exact(eL l).trans <|cU (fU (tu (bW V (gD V)) (by show 2≤1000;decide) V) V)
end
section
theorem Np(W:Wd w a mb h₀)(Y:aD Str)(b:∀p∈Y,qr p)(c:Y.length≤10)(d:Z):Ct w a mb h₀ T 1 "_law_typed" [.lst (Y.map .str),.int d] (.tup [.str (fX Y d ⟨#[]⟩).1,.int (fX Y d ⟨#[]⟩).2]):=by exact xe (aab bJ Y b c d) fun f h=>W.fn (n:=0) (i:=33) (P:=bJ) (rest:=[aB,aB,aB,aB,aB,aB,aB,aB]) (by decide) ⟨_,rfl⟩ V Vz (fun e J J J h=>pU (fun J J=>rfl) e h) (Vy 12) fV (fun J J J=>nn) V h V
end
end
section
noncomputable def tL(x y:Str):Int:=if x=y then 0 else if cD x=cD y then 1 else 2
theorem aac(P:bT)(e:P.gk "_CASE_COST"=O 1)(f:P.gk "_MOVE_COST"=O 2)(x y:Str)(g:x.length≤1000)(i:y.length≤1000):∃j,bE P Kt {loc:=[O (.str x),O (.str y)]}=O (.ret (.int (tL x y)),j):=by
 have low:∀{z:Str},z.length≤1000→xW "lower" (.str z)=O (.str (cD z)):=fun h=>bB (aL h (by decide));refine⟨{loc:=[O (.str x),O (.str y)]},?_⟩;unfold tL
 by_cases a:x=y
 ·exact M (aR a) <|cU (it (cI (x:= .str x) (y:= .str y) V rfl (bb (fM a))) (cU (fU V rfl)))
 ·refine M (aP a) <|nx (eY (cI (x:= .str x) (y:= .str y) V rfl (bb (eO a))) V) ?_
  have d:∀b,decide (cD x=cD y)=b→ev P {loc:=[O (.str x),O (.str y)]} (.cmp .Eq (.dG "lower" (.nm 0) .nil) (.dG "lower" (.nm 1) .nil))=O (.bool b):=fun b h=>cI (kZ (x:= .str x) V rfl (low g)) (kZ (x:= .str y) V rfl (low i)) (bb h)
  by_cases c:cD x=cD y
  ·exact M (aR c) <|cU (it (d aF (fM c)) (cU (fU (aT (j4 PV.int) e) V)))
  ·exact M (aP c) <|nx (eY (d aI (eO c)) V) (cU (fU (aT (j4 PV.int) f) V))
theorem aad:hX "_CASE_COST"=O 1:=by unfold hX;exact M (aP (by decide+kernel)) (M (aP (by decide+kernel)) (M (aP (by decide+kernel)) (M (aR V) V)))
theorem Nq:hX "_MOVE_COST"=O 2:=by unfold hX;exact M (aP (by decide+kernel)) (M (aP (by decide+kernel)) (M (aR V) V))
theorem aae:hX "_MAX_STRING_SIZE"=O 40:=by unfold hX;exact M (aP (by decide+kernel)) (M (aR V) V)
theorem aaf:hX "_DIV_LIMIT"=O 4000:=by unfold hX;exact M (aR V) V
section
theorem aag(W:Wd w a mb h₀)(x y:Str)(b:x.length≤1000)(c:y.length≤1000):Ct w a mb h₀ T 1 "_substitution_cost" [.str x,.str y] (.int (tL x y)):=by exact xe (aac bJ aad Nq x y b c) fun e h=>W.fn (n:=0) (i:=24) (P:=bJ) (rest:=[]) (by decide) ⟨_,rfl⟩ V Vj (fun d J J J h=>pU (fun J J=>rfl) d h) Vi fV (fun J J J=>nn) V h V
end
noncomputable abbrev mk(l:aD aA):Str:=⟨l.toArray⟩
theorem cZ(l:aD aA):(mk l).length=l.length:=rfl
theorem DK(x:Str):mk x.cps.toList=x:=by obtain⟨⟨l⟩⟩:=x;rfl
theorem mk_inj:mk a=mk b↔a=b:=⟨fun h=>by have:=aT (fun x:Str=>x.cps.toList) h;simpa using this,fun h=>M h V⟩
theorem aah(l:aD aA)(k:aA):gL (mk l) (O (k:Z)) aB=mk (l.drop k):=fT (M (DC ..) V)
noncomputable def cost(c d:aA):Int:=tL (one c) (one d)
noncomputable def lp(e:aA→aA→Z)(f:aA):aD aA→aD Z→Z→Z→Z→aD Z×Z×Z
 |[],a,_,b,c=>(a,b,c)
 |x::g,a,h,b,c=>match a with
  |[] =>([],b,c)
  |r::a=>
   let id:=(if r < b then r else b)+2
   let sub:=h+e f x
   let d:=if sub < id then sub else id
   let o:=lp e f g a r d (if d < c then d else c)
   (d::o.1,o.2)
noncomputable def o8(c:aA→aA→Z)(a:aD aA)(b:Z):aD aA→aA→aD Z→Z→Z
 |[],_,_,d=>d
 |e::f,k,g,_=>
  let o:=lp c e a g ((k:Z)*2) ((k:Z)*2) 9223372036854775807
  if b < o.2.2 then b+1 else o8 c a b f (k+1) o.1 o.2.1
theorem DL(h:(if f+b c x < (if r < d then r else d)+2 then f+b c x else(if r < d then r else d)+2)=a):
  lp b c (x::g) (r::i) f d e=(a::(lp b c g i r a (if a < e then a else e)).1,(lp b c g i r a (if a < e then a else e)).2):=by cases h;rfl
theorem DM{k:aA}:o8 b a c (d::f) k e g=
  if c < (lp b d a e ((k:Z)*2) ((k:Z)*2) 9223372036854775807).2.2 then c+1 else o8 b a c f (k+1) (lp b d a e ((k:Z)*2) ((k:Z)*2) 9223372036854775807).1 (lp b d a e ((k:Z)*2) ((k:Z)*2) 9223372036854775807).2.1:=rfl
noncomputable def kG:aD aA→aD aA→aD aA×aD aA
 |[],b=>([],b)
 |x::a,b=>match b with
  |[] =>(x::a,[])|y::b=>if x=y then kG a b else(x::a,y::b)
theorem vY:kG (x::a) (y::b)=if x=y then kG a b else(x::a,y::b):=rfl
noncomputable def o9(n:aA):aD Int:=(mH n).map fun k=>2+(k:aA)*2
noncomputable def y'(d:aA→aA→Z)(c:Z)(a b:aD aA):Int:=
 if a=[]∨b=[] then 2*(a.length+b.length)
 else if b.length < a.length then(if c < ((a.length:Z) - b.length)*2 then c+1 else o8 d b c a 0 (o9 b.length) 0)
 else(if c < ((b.length:Z) - a.length)*2 then c+1 else o8 d a c b 0 (o9 a.length) 0)
noncomputable def qt(c:aA→aA→Z)(a b:aD aA)(d:Z):Int:=
 if a=b then 0 else
  let p:=kG a b
  let q:=kG p.1.reverse p.2.reverse
  y' c d q.1.reverse q.2.reverse
noncomputable abbrev rE:=qt cost
end
section
noncomputable abbrev lY(a b:Str)(c:Z)(pre post:aG PV):aD (aG PV):=[O (.str a),O (.str b),O (.int c),pre,post,aB,aB,aB,aB,aB,aB,aB,aB,aB]
theorem vZ(h:l.length≤1000):truth (.str (mk l))=O (!l.isEmpty):=by
 show aZ _ _=_;refine M (bB (by refine M (cZ ..) (M cN ?_);exact aL h (by decide))) (M (cZ ..) ?_);cases l with
 |nil=>rfl|cons a r=>exact rfl
theorem v0(h:l.length≤1000)(k:aA):mV (.str (mk l)) (.int (k:Z)) .none=O (.str (mk (l.drop k))):=by show aZ _ _=_;exact M (bB (by refine M (cZ ..) (M cN ?_);exact aL h (by decide))) (M (aah ..) V)
theorem za(h:l.length≤1000){k:aA}(a:l[k]? =O c):jn mu (.str (mk l)) (.int (k:Z))=O (.str (one c)):=by
 have b:k < l.length:=by
  rcases ou k l.length with q |q
  ·exact q
  ·replace a:=(xq q)▸a;cases a
 show aZ _ _=_;refine M (bB (by refine M (cZ ..) (M cN ?_);exact aL h (by decide))) (M (cZ ..) (M (rm b) (M (agh ..) ?_)))
 have e:(mk l).cps.getD k 0=c:=by refine M Q3 ?_;refine M agi (M a ?_);rfl
 refine M e ?_;rfl
theorem one_inj:one a=one b↔a=b:=⟨fun h=>by have:=aT (fun x:Str=>x.cps.toList) h;simpa [one] using this,fun h=>M h V⟩
noncomputable def aai:E:= .bo .And (.cons (.dD (.nm 0) (.nm 3) .none) (.cons (.dD (.nm 1) (.nm 3) .none) (.cons (.cmp .Eq (.sub (.nm 0) (.nm 3)) (.sub (.nm 1) (.nm 3))) .nil)))
noncomputable def DN(a b:aD aA):Bool:= !a.isEmpty && (!b.isEmpty && decide (a.head? =b.head?))
theorem Nr{l:aD aA}(h:(!l.isEmpty)=aF):∃x,l.head? =O x:=by
 cases l with
 |nil=>cases h|cons x r=>exact⟨x,rfl⟩
theorem Nt{P:bT}{a:Sg}{s t:E}{A B:aD aA}(d:∀x,A.head? =O x→ev P a s=O (.str (one x)))(e:∀x,B.head? =O x→ev P a t=O (.str (one x)))(f:(!A.isEmpty)=aF)(g:(!B.isEmpty)=aF):ev P a (.cmp .Eq s t)=O (.bool (decide (A.head? =B.head?))):=by refine xe (Nr f) fun x b=>xe (Nr g) fun y c=>cI (d x b) (e y c) (bb (decide_eq_decide.mpr ?_));rw[b,c,one_inj,agj]
theorem Nu(st:aA→Sg)(A B:aD aA)(a:∀k,f (st k)=O (DN (A.drop k) (B.drop k)))(g:∀k,i (st k)=O (.next,st (k+1))):∀(n k:aA),A.length - k < n→
  ∃c,kA f i n (st k)=O (.next,st c)∧(A.drop c,B.drop c)=kG (A.drop k) (B.drop k):=by
 intro n
 induction n with
 |zero=>intro k h;lia
 |succ n ih=>
  intro k j;have a:=a k;cases b:A.drop k with
  |nil=>rw[b] at a;exact⟨k,vr a,by refine M b ?_;rfl⟩
  |cons x l=>
   cases d:B.drop k with
   |nil=>rw[b,d] at a;exact⟨k,vr a,by refine M b (M d ?_);rfl⟩
   |cons y m=>
    rw[b,d] at a;have o:DN (x::l) (y::m)=decide (x=y):=decide_eq_decide.mpr agj;rw[o] at a
    by_cases e:x=y
    ·rw[fM e] at a;have p:k < A.length:=age fun q=>by rw[xc q] at b;cases b
     refine aQ (ih (k+1) (bL (Nat.pred_lt (Nat.sub_ne_zero_of_lt p)) (jy j))) fun c r s=>⟨c,(CI a (g k)).trans r,?_⟩;exact M s (aS Bi (aS Bi (M b (M d (M agk (M agk (M vY (M (aR e) V))))))))
    ·rw[eO e] at a;exact⟨k,vr a,by exact M b (M d (M vY (M (aP e) V)))⟩
section
variable(P:bT)
theorem aaj(a b:aD aA)(c:a.length≤1000)(d:b.length≤1000)(e:Z)(f:aG PV)(n k:aA)(h:a.length - k < n):
  ∃g,kA (fun j=>(ev P j aai).bind truth) (bE P (.cons (.aug 3 .Add (.int 1)) .nil)) n {loc:=lY (mk a) (mk b) e (O (.int (k:aA))) f}=O (.next,{loc:=lY (mk a) (mk b) e (O (.int (g:aA))) f})∧(a.drop g,b.drop g)=kG (a.drop k) (b.drop k):=
 Nu (fun k=>{loc:=lY (mk a) (mk b) e (O (.int (k:aA))) f}) a b (fun k=>by
  refine KX (x:= .str (mk (a.drop k))) (y:= .str (mk (b.drop k))) ?_ (vZ (by refine M iB ?_;exact qS (xI c))) ?_ (vZ (by refine M iB ?_;exact qS (xI d))) (Nt (fun x i=> ?_) (fun x i=> ?_))
  ·exact v0 c k
  ·exact v0 d k
  ·exact za (mu:=aB) c (Hw.symm.trans i)
  ·exact za (mu:=aB) d (Hw.symm.trans i)) (fun k=>eL (qj (p:= .int k) (y:= .int 1) V rfl rfl)) n k h
end
end
section
theorem aak(n j:aA)(h:j≠0):jz n (-(j:Z))=n - j:=by
 unfold jz;refine M (aR (by lia)) (M (by lia: -(j:Z)+n=(n:Z) - j) (M (Sl (AM _ (cW _))) ?_));rcases sp j n with q |q
 ·refine aS (Hl q) ?_;rfl
 ·refine M (Int.max_eq_left (by lia)) (M (agl q) ?_);rfl
theorem aal(l:aD aA)(j:aA):(l.reverse.drop j).reverse=l.take (l.length - j):=
 M List.drop_reverse (M (Sp ..) V)
theorem Nv(l:aD aA)(j:aA)(h:j≠0):gL (mk l) aB (O (-(j:Z)))=mk ((l.reverse.drop j).reverse):=by refine fT ?_;unfold gL;simp only[uJ,nu,so];exact M (cZ ..) (M (aak _ _ h) (M (aal ..) V))
theorem aam(l:aD aA):gL (mk l) aB aB=mk l:=by refine fT ?_;unfold gL;simp only[uJ,nu,so];exact M (cZ ..) (M (mG (bZ _)) V)
theorem seqIndex_neg{j:aA}(h:j < n):ox (-(j:Z) - 1) n=O (n - 1 - j):=by
 unfold ox;simp only[show(-(j:Z) - 1 < 0) by exact pB.mp (Bu _),RE];have e: -(j:Z) - 1+n=((n - 1 - j:aA):Z):=by lia
 have a:((n - 1 - j:aA):Z) < n:=by lia
 refine M e (M (fM a) (M (fM (cW _)) ?_));rfl
noncomputable def DO(i:aA):E:= .dD (.nm i) .none (.bo .Or (.cons (.nm 4) (.cons .none .nil)))
noncomputable def aan:E:= .bo .And (.cons (DO 0) (.cons (DO 1) (.cons (.cmp .Eq (.sub (.nm 0) (.bin .Sub (.nm 4) (.int 1))) (.sub (.nm 1) (.bin .Sub (.nm 4) (.int 1)))) .nil)))
theorem Nw(h:l.length≤1000){j:aA}(a:l.reverse[j]? =O c):jn mu (.str (mk l)) (.int (-(j:Z) - 1))=O (.str (one c)):=by
 have b:j < l.length:=by
  rcases ou j l.length with q |q
  ·exact q
  ·rw[xq (by simpa using q)] at a;cases a
 show aZ _ _=_;refine M (bB (by refine M (cZ ..) (M cN ?_);exact aL h (by decide))) (M (cZ ..) (M (seqIndex_neg b) (M (agh ..) ?_)))
 have e:(mk l).cps.getD (l.length - 1 - j) 0=c:=by
  refine M Q3 <|M agi ?_
  rw[afb b] at a;refine M a ?_;rfl
 refine M e ?_;rfl
theorem zb(d:l.length≤1000)(j:aA)(e:ev P b (.nm i)=O (.str (mk l)))(f:ev P b (.nm 4)=O (.int (-(j:Z)))):ev P b (DO i)=O (.str (mk ((l.reverse.drop j).reverse))):=by
 have H:ev P b (.bo .Or (.cons (.nm 4) (.cons .none .nil)))=O (if j=0 then .none else .int (-(j:Z))):=by
  refine bN f ?_
  by_cases a:j=0
  ·subst a;rfl
  ·refine M (aP a) ?_;refine(M (bne_iff_ne.mpr (show -(j:Z)≠0 by lia)) ?_:cond (-(j:Z) !=0) _ _=_);rfl
 refine bN e (bN (x:= .none) V (bN H ?_));have c:(mk l).length≤eF:=by refine M (cZ ..) (M cN ?_);exact aL d (by decide)
 by_cases a:j=0
 ·subst a;exact(bB c).trans <|M (aam ..) (M nu (M (Sp ..) V))
 ·refine M (aP a) <|(bB c).trans ?_
  exact M (Nv l j a) V
theorem zc{l:aD aA}{j n:aA}(h:l.length≤n):((l.reverse.drop j).reverse).length≤n:=by refine M xp (M iB (M xp ?_));exact qS (xI h)
theorem zd(l:aD aA):l.reverse.isEmpty=l.isEmpty:=by cases l<;>simp
theorem aao(P:bT)(a b:aD aA)(c:a.length≤1000)(d:b.length≤1000)(e:Z)(f:aG PV)(n j:aA)(h:a.length - j < n):
  ∃g,kA (fun k=>(ev P k aan).bind truth) (bE P (.cons (.aug 4 .Sub (.int 1)) .nil)) n {loc:=lY (mk a) (mk b) e f (O (.int (-(j:Z))))}=O (.next,{loc:=lY (mk a) (mk b) e f (O (.int (-(g:aA):Z)))})∧(a.reverse.drop g,b.reverse.drop g)=kG (a.reverse.drop j) (b.reverse.drop j):=
 Nu (fun j=>{loc:=lY (mk a) (mk b) e f (O (.int (-(j:Z))))}) a.reverse b.reverse (fun j=>by
  unfold DN;refine aS (zd (a.reverse.drop j)) (aS (zd (b.reverse.drop j)) ?_);refine KX (zb c j V rfl) (vZ (zc c)) (zb d j V rfl) (vZ (zc d)) <|M (zd ..) (M (zd ..) ?_)
  refine Nt (fun x i=> ?_) (fun x i=> ?_)
  ·exact Nw (mu:=aB) c (Hw.symm.trans i)
  ·exact Nw (mu:=aB) d (Hw.symm.trans i)) (fun j=>eL (qj (p:= .int (-(j:Z))) (y:= .int 1) V rfl (by exact aT (fun z=>O (PV.int z)) (by lia: -(j:Z) - 1= -((j+1:aA):Z))))) n j (by refine M xp ?_;exact h)
end
section
noncomputable def Nx(f:Str)(a:aD PV):aG PV:=if f="_substitution_cost" then s2 a fun x y=>if x.length≤1000∧y.length≤1000 then O (.int (tL x y)) else aB else aB
noncomputable def gQ:bT:={gk:=hX,call:=Nx}
theorem aap(W:Wd w c mb h₀):∀f a y,gQ.call f a=O y→Ct w c mb h₀ T 1 f a y:=by intro f a y h;refine fI h (fun h=>La h fun x y h=> ?_) fun h=>nn h;refine xa (VX h) fun b h=> ?_;cases h;exact aag W x _ b.1 b.2
noncomputable def DP:B:=(.cons (.asg 12 (.bin .Add (.nm 9) (.call (aH "_substitution_cost") (.cons (.nm 8) (.cons (.sub (.nm 0) (.nm 11)) .nil)))))
  (.cons (.asg 9 (.sub (.nm 5) (.nm 11)))
  (.cons (.asg 13 (.bin .Add (.bi "min" (.cons (.nm 6) (.cons (.nm 9) .nil))) (.gk (aH "_MOVE_COST"))))
  (.cons (.asg 6 (.bi "min" (.cons (.nm 13) (.cons (.nm 12) .nil))))
  (.cons (.oN 5 (.nm 11) (.nm 6))
  (.cons (.ite (.cmp .Lt (.nm 6) (.nm 10)) (.cons (.asg 10 (.nm 6))
  .nil) .nil)
  .nil))))))
noncomputable abbrev stI(A B:Str)(a:Z)(pre post:aG PV)(b:aD Z)(c k:Z)(d:aA)(e f:Z)(g h i:aG PV)(pl:aU):Sg:=
 {loc:=[O (.str A),O (.str B),O (.int a),pre,post,O .bV,O (.int c),O (.int k),O (.str (one d)),O (.int e),O (.int f),g,h,i],mu:=O (b.map .int),pl:=pl}
theorem aaq(x y:aA):Nx (aH "_substitution_cost") [.str (one x),.str (one y)] =O (.int (cost x y)):=by exact(aR V).trans <|(aR ⟨by show 1≤1000;decide,by show 1≤1000;decide⟩:(if(one x).length≤1000∧(one y).length≤1000 then O (PV.int (cost x y)) else aB)=_)
theorem ze:gQ.gk (aH "_MOVE_COST")=O 2:=Nq
theorem DQ{a:aD Z}{j:aA}{r:Z}(c:a.length≤1000)(b:a[j]? =O r):qV (a.map .int) (j:Z)=O (.int r):=by have d:j < a.length:=(l6.mp b).1;refine(bB (by refine M (bQ ..) (M cN ?_);exact aL c (by decide))).trans ?_;refine M (bQ ..) (M (rm d) (M (xG ..) (M ij (M b ?_))));rfl
theorem aar(a:aD aA)(B:Str)(n:a.length≤1000)(i:Z)(pre post:aG PV)(f:aD Z)(l:f.length≤1000)(b k:Z)(d:aA)(e g:Z)(j:aA)(x:aA)(r c:Z)(o:a[j]? =O x)(m:f[j]? =O r)(p q:aG PV)(s:aU)
  (t:(if e+cost d x < (if r < b then r else b)+2 then e+cost d x else(if r < b then r else b)+2)=c):
  ∃u v w,bE gQ DP (stI (mk a) B i pre post f b k d e g (O (.int (j:aA))) p q s)=
   O (.next,stI (mk a) B i pre post (f.set j c) c k d r (if c < g then c else g) (O (.int (j:aA))) u v w):=by
 refine⟨O (.int (e+cost d x)),O (.int ((if r < b then r else b)+2)),aI,?_⟩;refine sg (x:= .int (e+cost d x)) (bM (x:= .int e) V (fO (bW (x:= .str (one d)) V (gD (hV (x:= .str (mk a)) (y:= .int j) V rfl (za n o)))) V (aaq d x)) iF) V <|sg (x:= .int r) (hV (x:= .bV) (y:= .int j) V rfl (DQ l m)) V ?_
 refine sg (x:= .int ((if r < b then r else b)+2)) (bM (x:= .int (if r < b then r else b)) (iR (bW (x:= .int b) V (gD (x:= .int r) V)) V) (aT (j4 PV.int) ze) iF) V <|sg (x:= .int c) (iR (bW (x:= .int ((if r < b then r else b)+2)) V (gD (x:= .int (e+cost d x)) V)) (by refine aS t ?_;rfl)) V ?_
 have y:j < f.length:=(l6.mp m).1;refine nx (KS (k:=j) (x:= .int c) (xs:=f.map .int) V rfl rfl rfl rfl (cW _) (by refine M (bQ ..) ?_;exact dZ.mpr y) (by refine M (bQ ..) ?_;exact aL l (by decide))) ?_;refine M (oF ..) (aS xH ?_)
 by_cases h:c < g
 ·exact M (aR h) <|nx (it (cI (x:= .int c) (y:= .int g) V rfl (lS h)) (sg (x:= .int c) V rfl rfl)) V
 ·exact M (aP h) <|nx (eY (cI (x:= .int c) (y:= .int g) V rfl (lc h)) V) V
theorem Ny{a:Type}{l r:aD a}{k:aA}{x:a}(h:l.drop k=x::r):l[k]? =O x∧l.drop (k+1)=r:=by
 constructor
 ·have:(l.drop k)[0]? =O x:=by refine M h ?_;rfl
  rwa [AA,sb] at this
 ·refine aS Bi (M h ?_);rfl
theorem aas(a:aD aA)(B:Str)(z:a.length≤1000)(t:Z)(pre post:aG PV)(k:Z)(h:aA)(f:aD aA):∀(b:aD Z) (j:aA) (done:aD Z) (c e g:Z) (n i l:aG PV) (m:aU) (o:aD Z×Z×Z),
  f.length=b.length→a.drop j=f→done.length=j→j+f.length≤1000→lp cost h f b e c g=o→
  ∃A C D E F,gM (bE gQ DP) 11 ((qJ j f.length).map fun q=> .int (q:aA)) (stI (mk a) B t pre post (done++b) c k h e g n i l m)=
   O (.next,stI (mk a) B t pre post (done++o.1) o.2.1 k h A o.2.2 C D E F):=by
 induction f with
 |nil=>intro b j done c e g n i l m o _ _ _ _ p;subst p;exact⟨e,n,i,l,m,rfl⟩
 |cons x f ih=>
  intro b j done c e g n i l m o u G s v p;cases b with
  |nil=>cases u
  |cons r b=>
   refine xa (Ny G) fun H I=> ?_;obtain⟨d,w⟩:∃d,(if e+cost h x < (if r < c then r else c)+2 then e+cost h x else(if r < c then r else c)+2)=d:=⟨_,rfl⟩;rw[DL w] at p;subst p;have K:(done++r::b)[j]? =O r:=by refine aS s (M (pL (bZ _)) (M (pJ ..) ?_));rfl
   (refine xP (aar a B z t pre post (done++r::b) (by refine M bH (aS u (M s ?_));exact v) c k h e g j x r d H K i l m w) ?_;rintro L N P y);(refine Bz (ih b (j+1) (done++[d]) d r (if d < g then d else g) (O (.int (j:aA))) L N P _ (F9 u) I (by refine M bH (M s ?_);rfl) (by refine M (aej ..) ?_;exact v) V) ?_;rintro Q R S T U W)
   have X:(done++r::b).set j d=(done++[d])++b:=by refine aS s (M (uK _ _ (bZ _)) (M (pJ ..) (M (eZ ..) ?_)));rfl
   rw[X] at y;refine⟨Q,R,S,T,U,(rl y).trans (W.trans ?_)⟩;refine M (eZ ..) ?_;rfl
end
section
theorem aat(c:aA)(b:aD aA):∀(a:aD Z) (d r m:Z),(lp cost c b a d r m).1.length=a.length:=by
 induction b with
 |nil=>exact fun J J J J=>rfl
 |cons x b ih=>
  intro a d r m;cases a with
  |nil=>rfl|cons e a=>exact aT (· +1) (ih a _ _ _)
noncomputable def zf:B:=(.cons (.asg 8 (.sub (.nm 1) (.nm 7)))
  (.cons (.uR 9 6 (.bin .Mult (.nm 7) (.gk (aH "_MOVE_COST"))))
  (.cons (.asg 10 (.int 9223372036854775807))
  (.cons (.forR 11 (.bi "len" (.cons (.nm 0) .nil)) DP)
  (.cons (.ite (.cmp .Gt (.nm 10) (.nm 2)) (.cons (.ret (.bin .Add (.nm 2) (.int 1)))
  .nil) .nil)
  .nil)))))
noncomputable abbrev zg(A B:Str)(a:Z)(pre post:aG PV)(b:aD Z)(c:Z)(d e f g h i j:aG PV)(pl:aU):Sg:=
 {loc:=[O (.str A),O (.str B),O (.int a),pre,post,O .bV,O (.int c),d,e,f,g,h,i,j],mu:=O (b.map .int),pl:=pl}
theorem zh(h:l.length≤1000):∀a,oQ a "len" [.str (mk l)] =O (.int l.length):=fun a=>by show aZ _ _=_;exact M (bB (by refine M (cZ ..) (M cN ?_);exact aL h (by decide))) (M (cZ ..) V)
theorem aau(a b:aD aA)(e:a.length≤1000)(s:b.length≤1000)(c:Z)(pre post:aG PV)(f:aD Z)(t:f.length=a.length)(u:Z)(k d:aA)(v:b[k]? =O d)(w x y n p q:aG PV)(r:aU)(o:aD Z×Z×Z)(z:lp cost d a f ((k:Z)*2) ((k:Z)*2) 9223372036854775807=o):
  ∃A B i j l m,bE gQ zf (zg (mk a) (mk b) c pre post f u (O (.int (k:aA))) w x y n p q r)=
   O (if c < o.2.2 then .ret (.int (c+1)) else .next,zg (mk a) (mk b) c pre post o.1 o.2.1 (O (.int (k:aA))) (O (.str (one d))) A B i j l m):=by
 (refine Bz (aas a (mk b) e c pre post (k:Z) d a f 0 [] ((k:Z)*2) ((k:Z)*2) 9223372036854775807 n p q r o t.symm V rfl (by refine M (oo ..) ?_;exact e) z) ?_;rintro C i j l m h);rw[←uv] at h;refine⟨O (.int C),O (.int o.2.2),i,j,l,m,?_⟩;refine sg (x:= .str (one d)) (hV (x:= .str (mk b)) (y:= .int k) V rfl (za s v)) V <|nx (bN (x:= .int ((k:Z)*2)) (bM (x:= .int k) V (aT (j4 PV.int) ze) (vo (by decide) (by decide))) V) (sg (x:= .int 9223372036854775807) V rfl ?_)
 refine nx ((tr (N:=a.length) (iR (gD (x:= .str (mk a)) V) (zh e aB)) ⟨cW _,cV.mpr (aL e (by decide))⟩).trans h) ?_
 by_cases g:c < o.2.2
 ·exact M (aR g) <|cU (it (cI (x:= .int o.2.2) (y:= .int c) V rfl (CJ g)) (cU (fU (x:= .int (c+1)) V rfl)))
 ·exact M (aP g) <|nx (eY (cI (x:= .int o.2.2) (y:= .int c) V rfl (CK g)) V) V
noncomputable def aav(a:Sg)(z:Z):Fl→Prop
 | .ret v=>v= .int z| .next=>a.loc[6]? =O (O (.int z))| .brk=>bO
theorem aaw(a b:aD aA)(y:a.length≤1000)(z:b.length≤1000)(d:Z)(pre post:aG PV)(e:aD aA):∀(k:aA) (c:aD Z) (f:Z) (u g i j l m n:aG PV) (p:aU),b.drop k=e→c.length=a.length→
  ∃r s,gM (bE gQ zf) 7 ((qJ k e.length).map fun q=> .int (q:aA)) (zg (mk a) (mk b) d pre post c f u g i j l m n p)=O (s,r)∧aav r (o8 cost a d e k c f) s:=by
 induction e with
 |nil=>exact fun k c f u g i j l m n p J J=>⟨_,.next,rfl,rfl⟩
 |cons t e ih=>
  intro k c f u g i j l m n p A v;refine xa (Ny A) fun B C=> ?_;have w:=aat t a c ((k:Z)*2) ((k:Z)*2) 9223372036854775807;have st:=aau a b y z d pre post c v f k t B g i j l m n p _ V;refine M DM ?_;generalize lp cost t a c ((k:Z)*2) ((k:Z)*2) 9223372036854775807=o at st w ⊢;(refine H0 st ?_;clear st;rintro D E F G H I h)
  by_cases x:d < o.2.2
  ·rw[aR x] at h ⊢;exact⟨_,.ret (.int (d+1)),KO h,rfl⟩
  ·rw[aP x] at h ⊢;exact iN (ih (k+1) o.1 o.2.1 (O (.int (k:aA))) (O (.str (one t))) D E F G H I C (w.trans v)) fun r s K L=>⟨r,s,(rl h).trans K,L⟩
end
section
noncomputable def DR:B:=(.cons (.ite (.cmp .Gt (.bin .Mult (.bin .Sub (.bi "len" (.cons (.nm 1) .nil)) (.bi "len" (.cons (.nm 0) .nil))) (.gk (aH "_MOVE_COST"))) (.nm 2)) (.cons (.ret (.bin .Add (.nm 2) (.int 1)))
  .nil) .nil)
  (.cons (.mq 5 (.lO (.cons (.gk (aH "_MOVE_COST")) (.cons (.bin .Mult (.gk (aH "_MOVE_COST")) (.bin .Add (.bi "len" (.cons (.nm 0) .nil)) (.int 1))) (.cons (.gk (aH "_MOVE_COST")) .nil)))))
  (.cons (.asg 6 (.int 0))
  (.cons (.forR 7 (.bi "len" (.cons (.nm 1) .nil)) zf)
  (.cons (.ret (.nm 6))
  .nil)))))
theorem aax(n:aA):pW 2 (2*((n:Z)+1)) 2=(o9 n).map .int:=by
 have e:(sd 2 (2*((n:Z)+1)) 2).toNat=n:=by
  show((if(2:Z) < 2*((n:Z)+1) then(2*((n:Z)+1) - 2 - 1) / 2+1 else 0)).toNat=n;cases n with
  |zero=>rfl
  |succ m=>
   have a:2*(((m+1:aA):Z)+1) - 2 - 1=1+2*(m:Z):=by lia
   have b:(1+2*(m:Z)) / 2=m:=(xy 1 m (by decide)).trans (sr _);refine M (aR (by lia:(2:Z) < 2*(((m+1:aA):Z)+1))) (M a (M b ?_));rfl
 unfold pW o9;refine M e (M j6 ?_);rfl
theorem Nz(a b:aD aA)(l:a.length≤40)(f:b.length≤40)(c k j:Z):
  ∃g,bE gQ DR {loc:=lY (mk a) (mk b) c (O (.int k)) (O (.int j))}=O (.ret (.int (if c < ((b.length:Z) - a.length)*2 then c+1 else o8 cost a c b 0 (o9 a.length) 0)),g):=by
 have m:=zh (l:=a) (aL l (by decide)) aB;have n:=zh (l:=b) (aL f (by decide)) aB;have d:∀q,ev gQ q (.gk (aH "_MOVE_COST"))=O (.int 2):=fun J=>aT (j4 PV.int) ze
 have o:=cI (o:= .Gt) (P:=gQ) (σ:={loc:=lY (mk a) (mk b) c (O (.int k)) (O (.int j))}) (a:= .bin .Mult (.bin .Sub (.bi "len" (.cons (.nm 1) .nil)) (.bi "len" (.cons (.nm 0) .nil))) (.gk (aH "_MOVE_COST"))) (b:= .nm 2) (y:= .int c)
  (bM (bM (iR (gD (x:= .str (mk b)) V) n) (iR (gD (x:= .str (mk a)) V) m) my) (d _) (vo (by decide) (by decide))) V (VG)
 by_cases e:c < ((b.length:Z) - a.length)*2
 ·exact M (aR e) <|⟨_,cU (it (o.trans (bb (fM e))) (cU (fU (x:= .int (c+1)) V rfl)))⟩
 ·refine M (aP e) ?_;(refine iN (aaw a b (aL l (by decide)) (aL f (by decide)) c (O (.int k)) (O (.int j)) b 0 (o9 a.length) 0 aB aB aB aB aB aB aB aF rfl (by(rewrite[o9];exact M (bQ ..) (M Au V)))) ?_;rintro g r h i);replace h:=Eq.symm uv▸h;refine⟨g,nx (eY (o.trans (bb (eO e))) V) (nx (tq (xs:=(o9 a.length).map .int) V ?_) (sg (x:= .int 0) V rfl ?_))⟩
  ·refine bN (bW (d _) (bW (bM (d _) (bM (iR (gD (x:= .str (mk a)) V) m) V iF) (tm (by decide) (by decide))) (gD (d _)))) ((bB ?_).trans (M (aax ..) V));exact⟨by decide,by decide,by lia,by lia,by decide,by decide⟩
  ·have p:=(tr (P:=gQ) (i:=7) (b:=zf) (σ:=zg (mk a) (mk b) c (O (.int k)) (O (.int j)) (o9 a.length) 0 aB aB aB aB aB aB aB aF) (N:=b.length) (iR (gD (a:= .nm 1) (x:= .str (mk b)) V) n) ⟨cW _,cV.mpr (aL f (by decide))⟩).trans h;cases r with
   |ret v=>cases i;exact cU p|next=>exact nx p (cU (fU (aT i' i) V))|brk=>exact i.elim
noncomputable def NA:B:=(.cons (.ite (.bo .Or (.cons (.un .Not (.nm 0)) (.cons (.un .Not (.nm 1)) .nil))) (.cons (.ret (.bin .Mult (.gk (aH "_MOVE_COST")) (.bin .Add (.bi "len" (.cons (.nm 0) .nil)) (.bi "len" (.cons (.nm 1) .nil)))))
  .nil) .nil)
  (.cons (.ite (.bo .Or (.cons (.cmp .Gt (.bi "len" (.cons (.nm 0) .nil)) (.gk (aH "_MAX_STRING_SIZE"))) (.cons (.cmp .Gt (.bi "len" (.cons (.nm 1) .nil)) (.gk (aH "_MAX_STRING_SIZE"))) .nil))) (.cons (.ret (.bin .Add (.nm 2) (.int 1)))
  .nil) .nil)
  (.cons (.ite (.cmp .Lt (.bi "len" (.cons (.nm 1) .nil)) (.bi "len" (.cons (.nm 0) .nil))) (.cons (.mU 0 1 (.nm 1) (.nm 0))
  .nil) .nil)
  DR)))
theorem aay:gQ.gk (aH "_MAX_STRING_SIZE")=O 40:=aae
theorem aaz(a b:aD aA)(d:a.length≤40)(e:b.length≤40)(f k j:Z):
  ∃g,bE gQ NA {loc:=lY (mk a) (mk b) f (O (.int k)) (O (.int j))}=O (.ret (.int (y' cost f a b)),g):=by
 have len:∀{l:aD aA} {i:aA} {c:Sg},l.length≤40→ev gQ c (.nm i)=O (.str (mk l))→ev gQ c (.bi "len" (.cons (.nm i) .nil))=O (.int l.length):=fun h m=>iR (gD m) (zh (aL h (by decide)) _);have n:∀{l:aD aA} {i:aA} {c:Sg},l.length≤40→ev gQ c (.nm i)=O (.str (mk l))→ev gQ c (.un .Not (.nm i))=O (.bool l.isEmpty):=fun{l} _ _ h m=>bN m ((aT (j4 fun b=>PV.bool !b) (vZ (l:=l) (aL h (by decide)))).trans (bb (Bool.not_not _)));have q:∀{l:aD aA} {i:aA} {c:Sg},l.length≤40→ev gQ c (.nm i)=O (.str (mk l))→ev gQ c (.cmp .Gt (.bi "len" (.cons (.nm i) .nil)) (.gk (aH "_MAX_STRING_SIZE")))=O (.bool aI):=fun h m=>cI (len h m) (aT (j4 PV.int) aay) (CK (i9.mpr (cV.mpr h)));have t:∀c,ev gQ c (.gk (aH "_MOVE_COST"))=O (.int 2):=fun J=>aT (j4 PV.int) ze;unfold y'
 by_cases o:a=[]∨b=[]
 ·refine M (aR o) <|⟨_,cU (it (?_:ev gQ {loc:=lY (mk a) (mk b) f (O (.int k)) (O (.int j))} _=_) (cU (fU (bM (t _) (bM (len d V) (len e V) iF) (tm (by decide) (by decide))) V)))⟩
  cases a with
  |nil=>exact KW (n d V)
  |cons x a=>
   obtain rfl:=o.resolve_left (fun h=>(by contradiction));exact vq (n d V) (n e V)
 ·refine M (aP o) ?_;have u:a.isEmpty=false:=xo.mpr fun h=>o (.inl h);have v:b.isEmpty=false:=xo.mpr fun h=>o (.inr h)
  have s:∀{r:aG (Fl×Sg)},bE gQ (.cons (.ite (.cmp .Lt (.bi "len" (.cons (.nm 1) .nil)) (.bi "len" (.cons (.nm 0) .nil))) (.cons (.mU 0 1 (.nm 1) (.nm 0)) .nil) .nil) DR) {loc:=lY (mk a) (mk b) f (O (.int k)) (O (.int j))}=r→bE gQ NA {loc:=lY (mk a) (mk b) f (O (.int k)) (O (.int j))}=r:=
   fun h=>nx (eY (vq ((n d V).trans (bb u)) ((n e V).trans (bb v))) V) (nx (eY (vq (q d V) (q e V)) V) h)
  by_cases p:b.length < a.length
  ·refine M (aR p) <|xe (Nz b a e d f k j) fun g h=> ?_
   exact⟨g,s (nx (it (cI (len e V) (len d V) (lS (dZ.mpr p))) V) h)⟩
  ·refine M (aP p) <|xe (Nz a b d e f k j) fun g h=> ?_
   exact⟨g,s (nx (eY (cI (len e V) (len d V) (lc fun h=>p (dZ.mp h))) V) h)⟩
theorem aaA(a b:aD aA)(d:a.length≤40)(g:b.length≤40)(c:Z):
  ∃i,bE gQ (Kv 41) {loc:=[O (.str (mk a)),O (.str (mk b)),O (.int c),aB,aB,aB,aB,aB,aB,aB,aB,aB,aB,aB]}=O (.ret (.int (qt cost a b c)),i):=by
 have m:∀p,decide (mk a=mk b)=p→ev gQ {loc:=lY (mk a) (mk b) c aB aB} (.cmp .Eq (.nm 0) (.nm 1))=O (.bool p):=fun p h=>cI (x:= .str (mk a)) (y:= .str (mk b)) V rfl (bb h);unfold qt
 by_cases e:a=b
 ·exact M (aR e) <|⟨_,cU (it (m aF (fM (mk_inj.mpr e))) (cU (fU (x:= .int 0) V rfl)))⟩
 ·refine M (aP e) <|aQ (aaj gQ a b (aL d (by decide)) (aL g (by decide)) c aB 41 0 (mh (qI d _))) fun k q n=> ?_
  rw[nu,nu] at n;have f:(a.drop k).length≤40:=by refine M iB ?_;exact qS (xI d)
  have l:(b.drop k).length≤40:=by refine M iB ?_;exact qS (xI g)
  refine aQ (aao gQ (a.drop k) (b.drop k) (aL f (by decide)) (aL l (by decide)) c (O (.int (k:aA))) 41 0 (mh (qI f _))) fun j r o=> ?_;rw[nu,nu] at o;refine aS n ?_;dsimp only;refine aS o <|xe (aaz ((a.drop k).reverse.drop j).reverse ((b.drop k).reverse.drop j).reverse (zc f) (zc l) c k (-(j:aA):Z)) fun i h=> ?_
  exact⟨i,nx (eY (m aI (eO fun h=>e (mk_inj.mp h))) V) (sg (x:= .int 0) V rfl (nx q (sg (v0 (l:=a) (aL d (by decide)) k) V (sg (v0 (l:=b) (aL g (by decide)) k) V (sg (x:= .int 0) V rfl (nx r
   (sg (zb (aL f (by decide)) j V rfl) V (sg (zb (aL l (by decide)) j V rfl) V h))))))))⟩
section
theorem aaB(W:Wd w d mb h₀)(a b:aD aA)(e:a.length≤40)(f:b.length≤40)(c:Z):Ct w d mb h₀ T 2 "_levenshtein_distance" [.str (mk a),.str (mk b),.int c] (.int (rE a b c)):=by exact xe (aaA a b e f c) fun i h=>W.fn (n:=1) (i:=25) (P:=gQ) (rest:=[aB,aB,aB,aB,aB,aB,aB,aB,aB,aB,aB]) (by decide) ⟨_,rfl⟩ V Vl (fun g J J J h=>xR (fun J J J=>rfl) g h) (Vk 41) fV (aap W) V h V
end
end
section
open Builtin.Int (intBits)
theorem NB(h:aA)(a:0≤x)(b:0≤y)(d:y < 2^h):Gi (x*2^h) y=x*2^h+y:=by
 obtain⟨n,rfl⟩:∃n:aA,x=n:=⟨x.toNat,by exact Eq.symm (kr a)⟩;obtain⟨m,rfl⟩:∃m:aA,y=m:=⟨y.toNat,by exact Eq.symm (kr b)⟩
 have c:m < 2^h:=by have e:((2^h:aA):Z)=2^h:=rfl;lia
 have e:((n:Z)*2^h)=((2^h*n:aA):Z):=by refine M (Hm ..) ?_;exact rfl
 refine M e (M (LI ..) (aS (Nat.two_pow_add_eq_or_of_lt c ..) ?_));exact rfl
theorem NC(h:aA)(a:0≤x):qG x (1*2^h - 1)=x % 2^h:=by
 obtain⟨n,rfl⟩:∃n:aA,x=n:=⟨x.toNat,by exact Eq.symm (kr a)⟩;have b:0 < 2^h:=afp h
 have e:((1:Z)*2^h - 1)=((2^h - 1:aA):Z):=by have e:((2^h:aA):Z)=2^h:=rfl;lia
 refine M e (M (LH ..) (M (Nat.and_two_pow_sub_one_eq_mod ..) ?_));exact rfl
theorem DS{b:Z}{m:aA}(a:0 < b)(h:b < 2^m)(c:m≤8000):b≠0∧b.natAbs.log2 < 9000:=by refine⟨by exact fB a,?_⟩;have:=intBits_le (cJ a) h;unfold gW at this;rw[aP (by simp;exact fB a)] at this;exact bL (FZ this) (aL c (by decide))
theorem tM{n:aA}(b:intBits a≤k)(h:k+n≤134217728):dC .LShift (.int a) (.int (n:Z))=O (.int (a*2^n)):=by show aZ _ _=_;exact M (bB ⟨by exact cW _,by simp only[Nat.reducePow,Sq];lia⟩) <|rfl
theorem v5{n:aA}:dC .RShift (.int a) (.int (n:Z))=O (.int (a / 2^n)):=by show aZ _ _=_;refine M (bB (cW _)) ?_;have:(0:Z) < 2^n:=jj (by decide);simp only[oF];exact M (tj this) V
theorem aaC{d:aG (aD PV)}{a b:Z}{m:aA}(c:0 < b)(h:b < 2^m)(e:m≤8000):oQ d "divmod" [.int a,.int b] =O (.tup [.int (a / b),.int (a % b)]):=by show aZ _ _=_;exact M (bB (DS c h e)) (M (tj c) (M (CD c) V))
theorem aaD(P:bT)(c:P.gk (aH "_DIV_LIMIT")=O 4000)(a b:Z)(n m:aA)(g:intBits a≤n+4000)(d:0 < b)(h:b < 2^m)(e:m≤8000):
  ∃f,bE P yt {loc:=[O (.int a),O (.int b),O (.int (n:Z)),aB,aB,aB,aB,aB,aB,aB,aB]}=O (.ret (.tup [.int (a / b),.int (a % b)]),f):=
 ⟨_,cU (it (cI (bM (kZ (x:= .int a) (z:= .int (intBits a)) V rfl rfl) (y:= .int n) V my) (aT (j4 PV.int) c) (VR (by lia))) (cU (fU (iR (jW (x:= .int a) (y:= .int b) V rfl) (aaC d h e)) V)))⟩
theorem ND:hX (aH "_DIV_LIMIT")=O 4000:=aaf
section
theorem NE(W:Wd w c mb h₀)(a b:Z)(n m:aA)(d:intBits a≤n+4000)(f:0 < b)(h:b < 2^m)(g:m≤8000):Ct w c mb h₀ T 1 "_div2n1n" [.int a,.int b,.int (n:Z)] (.tup [.int (a / b),.int (a % b)]):=by exact xe (aaD bJ ND a b n m d f h g) fun j e=>W.fn (n:=0) (i:=9) (P:=bJ) (rest:=[aB,aB,aB,aB,aB,aB,aB,aB]) (by decide) ⟨_,rfl⟩ V Km (fun i J J J h=>xR (fun J J J=>rfl) i h) Kl fV (fun J J J=>nn) V e V
end
end
section
open Builtin.Int (intBits)
noncomputable def NF(f:Str)(c:aD PV):aG PV:=if f="_div2n1n" then i3 c fun a b n=>aZ (0≤n∧(intBits a:Z)≤n+4000∧0 < b∧intBits b≤8000) (O (.tup [.int (a / b),.int (a % b)])) else aB
noncomputable def v6:bT:={gk:=hX,call:=NF}
theorem aaE{x y:Z}(a:0≤x)(h:x≤y):x.natAbs≤y.natAbs:=
 cV.mp (by refine M (wT a) (M (wT (cK a h)) ?_);exact h)
theorem v7{x y:Z}(a:0≤x)(h:x≤y){n:aA}(b:intBits y≤n):intBits x≤n:=aL (Hx (aaE a h) (bZ _)) b
theorem NG{b t:Z}(a:0 < b)(c:0 < t):b≤b*t:=by
 have:=A7 (A8 c) (cJ a)
 rwa [sr,RC] at this
theorem v9{n:Z}(h:0≤n):∃k:aA,n=k:=⟨n.toNat,(kr h).symm⟩
theorem aaF{w:aV}{d mb:Str→aG aJ}{h₀:bF}{T:aD Tab}(W:Wd w d mb h₀):∀f c y,v6.call f c=O y→Ct w d mb h₀ T 1 f c y:=by intro f c y h;refine fI h (fun h=>e3 h fun a b n h=>mS h fun h=> ?_) fun h=>nn h;(refine xe (v9 h.1) ?_;rintro n rfl);exact NE W a b n (intBits b) (cV.mp h.2.1) h.2.2.1 (vC h.2.2.1) h.2.2.2
theorem aaG{n:aA}(c:intBits a≤n+4000)(d:0 < b)(e:intBits b≤8000):NF (aH "_div2n1n") [.int a,.int b,.int (n:Z)] =O (.tup [.int (a / b),.int (a % b)]):=
 (aR V).trans (bB ⟨cW n,cV.mpr c,d,e⟩)
theorem aaH(a:0 < b)(c:r < 0)(h:(-r).toNat < N+1):(-(r+b)).toNat < N:=by refine bL ((Int.toNat_lt_toNat (Int.neg_pos_of_neg c)).mpr ?_) (jy h);exact Int.neg_lt_neg (Int.lt_add_of_pos_right r a)
theorem aaI(P:bT)(c d e f g:aG PV)(b A:Z)(i:0 < b):∀(N:aA) (q r:Z),A=q*b+r→r < b→(-r).toNat < N→
  kA (fun k=>(ev P k (.cmp .Lt (.nm 7) (.int 0))).bind truth) (bE P (.cons (.aug 6 .Sub (.int 1)) (.cons (.aug 7 .Add (.nm 2)) .nil))) N {loc:=[c,d,O (.int b),e,f,g,O (.int q),O (.int r)]}=
   O (.next,{loc:=[c,d,O (.int b),e,f,g,O (.int (A / b)),O (.int (A % b))]}):=by
 intro N
 induction N with
 |zero=>exact fun J J J J h=>absurd h (RY _)
 |succ N ih=>
  intro q r j l m
  by_cases a:r < 0
  ·exact(CI (bN (cI (x:= .int r) (y:= .int 0) V rfl (lS a)) V) (ag (p:= .int q) (y:= .int 1) V rfl VC (ag (p:= .int r) (y:= .int b) V rfl CE V))).trans (ih (q - 1) (r+b) (M j (M (Bj ..) (M (gY ..) (M (mP r b) (aS (sw ..) (M (xn ..) V)))))) (by have:=Int.add_lt_add_right a b;rwa [sr] at this) (aaH i a m))
  ·refine xa ((Sr i (a:=A) (q:=q) (r:=r)).mpr ⟨by exact M j (M (hA ..) (M (mP ..) V)),i9.mp a,l⟩) fun n o=>M n (M o ?_);exact vr (bN (cI (x:= .int r) (y:= .int 0) V rfl (lc a)) V)
noncomputable def jf(a b:Z)(n:aA):Int:=if a / 2^n=b then 1*2^n - 1 else a / b
noncomputable def kH(b a:Z)(n:aA):Int:=if b / 2^n=a then b - a*2^n+a else b % a
theorem qr3(a f b c d:Z)(n:aA)(p:0≤a∧a < b)(s:0≤f∧f < 2^n)(k:0≤d∧d < 2^n)(g:0 < c)(l:b=c*2^n+d):
  a=jf a c n*c+kH a c n∧0≤kH a c n∧kH a c n*2^n+f - jf a c n*d < b∧0≤jf a c n∧kH a c n < b+b:=by
 have e:(0:Z) < 2^n:=jj (by decide);unfold jf kH;generalize(2:Z) ^n=t at*;have u:c≤b:=l▸cK (NG g e) (agm k.1)
 by_cases h:a / t=c
 ·refine M (aR h) (M (aR h) ?_);have i:=nA a t;have m:=eD a (fB e:t≠0);have r:=gJ a e;rw[h,hA] at i;refine⟨?_,by lia,?_,by lia,?_⟩
  ·refine M (gY ..) (M (Bj ..) (M (hA t c) ?_));lia
  ·
   have j:(a - c*t+c)*t+f - (1*t - 1)*d=(a - b)*t+f+b:=by refine M l ?_;simp only[Bj,Hy,gY,hA t d];lia
   refine M j ?_;have:(a - b)*t≤(-1)*t:=sA (by lia) (cJ e);lia
  ·have:0≤c*t:=oE (cJ g) (cJ e);lia
 ·refine M (aP h) (M (aP h) ?_);have i:=nA a c;have m:=eD a (fB g:c≠0);have r:=gJ a g;have o:0≤a / c:=kQ p.1 (cJ g);refine⟨by refine M (hA ..) ?_;exact Eq.symm i,m,?_,o,by lia⟩;have j:a % c*t≤(c - 1)*t:=sA (by lia) (cJ e);rw[Bj] at j;have v:=oE o k.1;lia
theorem aaJ(a d b c e:Z)(n:aA)(g:0≤a∧a < b)(o:0≤d∧d < 2^n)(l:0≤e∧e < 2^n)(i:0 < c)(k:b=c*2^n+e)(j:n≤4000)(q:intBits b≤n+4000):
  ∃N x,bE v6 (Kp N) {loc:=[O (.int a),O (.int d),O (.int b),O (.int c),O (.int e),O (.int (n:Z)),aB,aB]}=O (.ret (.tup [.int ((a*2^n+d) / b),.int ((a*2^n+d) % b)]),x):=by
 refine jl (qr3 a d b c e n g o l i k) fun y r A P B=> ?_;have s:(0:Z) < 2^n:=jj (by decide);have t:c≤b:=k▸cK (NG i s) (agm l.1);have m:intBits b≤8000:=aL q (lF j 4000);have C:intBits a≤8000:=v7 g.1 (cJ g.2) m;have u:intBits c≤8000:=v7 (cJ i) t m;have D:intBits e≤4000:=aL (intBits_le l.1 l.2) j;have E:intBits a≤n+4000:=v7 g.1 (cJ g.2) q
 have F:intBits (jf a c n)≤8000:=by
  by_cases f:a / 2^n=c
  ·(rewrite[jf];refine M (aR f) (M (gY ..) ?_))
   exact aL (intBits_le (k:=n) (AW s) (Int.sub_lt_self _ (by decide))) (aL j (by decide))
  ·(rewrite[jf];refine M (aP f) ?_)
   exact v7 (kQ g.1 (cJ i)) (AL _ g.1) C
 have G:intBits (kH a c n)≤8001:=by have H:=Ss (x:=b) (y:=b) (m:=8000) (n:=8000) m m;exact v7 r (cJ B) H
 have I:a*2^n+d=jf a c n*b+(kH a c n*2^n+d - jf a c n*e):=by have K:jf a c n*b=jf a c n*c*2^n+jf a c n*e:=M k (M (A6 ..) (M (lL ..) V));have L:a*2^n=(jf a c n*c+kH a c n)*2^n:=aT (· *2^n) y;exact M K (M L (M (Hy ..) (M (sw ..) (M (sw ..) (M (mP (_*e) ..) (M (xn ..) V))))))
 have v:=aaI v6 (O (.int a)) (O (.int d)) (O (.int c)) (O (.int e)) (O (.int (n:Z))) b _ (dM i t) ((-(kH a c n*2^n+d - jf a c n*e)).toNat+1) (jf a c n) _ I A (lJ _);generalize(-(kH a c n*2^n+d - jf a c n*e)).toNat+1=N at v
 refine⟨N,_,nx (σ':={loc:=[O (.int a),O (.int d),O (.int b),O (.int c),O (.int e),O (.int (n:Z)),O (.int (jf a c n)),O (.int (kH a c n))]}) ?_
  (sg (x:= .int (kH a c n*2^n+d - jf a c n*e)) (bM (bM (z:= .int (kH a c n*2^n+d)) (bM (x:= .int (kH a c n)) (y:= .int n) V rfl (tM G (aL (eU j _) (by decide)))) (y:= .int d) V (aT (fun z=>O (PV.int z)) (NB n r o.1 o.2)))
   (bM (x:= .int (jf a c n)) (y:= .int e) V rfl (bB (agn F D (by decide)))) my) V (nx (VM.trans v) (cU (fU (tv (x:= .int ((a*2^n+d) / b)) (y:= .int ((a*2^n+d) % b)) V rfl rfl) V))))⟩
 have w:∀{p:Sg},p.loc[0]? =O (O (.int a))→p.loc[5]? =O (O (.int (n:Z)))→ev v6 p (.bin .RShift (.nm 0) (.nm 5))=O (.int (a / 2^n)):=fun h k=>bM (aT i' h) (aT i' k) v5;unfold jf kH
 by_cases f:a / 2^n=c
 ·refine M (aR f) (M (aR f) ?_)
  exact it (cI (w V rfl) (y:= .int c) V (KZ f)) (KU (bM (bM (x:= .int 1) (y:= .int n) V rfl (tM (k:=64) (by decide) (aL (eU j _) (by decide)))) (y:= .int 1) V my)
   (bM (bM (x:= .int a) V (bM (x:= .int c) (y:= .int n) V rfl (tM u (aL (eU j _) (by decide)))) my) (y:= .int c) V iF) V rfl rfl)
 ·refine M (aP f) (M (aP f) ?_);exact eY (cI (w V rfl) (y:= .int c) V (yy f)) (tg (fO (bW (x:= .int a) V (jW (x:= .int c) (y:= .int n) V rfl)) V (aaG E i u)) V rfl)
section
theorem aaK(W:Wd w f mb h₀)(a c b e d:Z)(n:aA)(g:0≤a∧a < b)(i:0≤c∧c < 2^n)(j:0≤d∧d < 2^n)(k:0 < e)(l:b=e*2^n+d)(m:n≤4000)(o:intBits b≤n+4000):
  Ct w f mb h₀ T 2 "_div3n2n" [.int a,.int c,.int b,.int e,.int d,.int (n:Z)] (.tup [.int ((a*2^n+c) / b),.int ((a*2^n+c) % b)]):=by
 exact oJ (aaJ a c b e d n g i j k l m o) fun N q h=>W.fn (n:=1) (i:=10) (P:=v6) (rest:=[aB,aB]) (by decide) ⟨_,rfl⟩ V Ve (fun p J J J h=>H' (fun J J J J J J=>rfl) p h) (Vd N) fV (aaF W) V h V
end
end
section
open Builtin.Int (intBits)
noncomputable def P3(c d b e a n:Z):Prop:=0≤n∧n≤4000∧(0≤c∧c < b)∧(0≤d∧d < 2^n.toNat)∧(0≤a∧a < 2^n.toNat)∧0 < e∧b=e*2^n.toNat+a∧(intBits b:Z)≤n+4000
noncomputable def v3(a b:Z):PV:= .tup [.int (a / b),.int (a % b)]
noncomputable def NH(f:Str)(d:aD PV):aG PV:=if f="_div3n2n" then i6 d fun a c b e g n=>aZ (P3 a c b e g n) (O (v3 (a*2^n.toNat+c) b)) else aB
noncomputable def pa:bT:={gk:=hX,call:=NH}
theorem aaL(W:Wd w c mb h₀):∀f a y,pa.call f a=O y→Ct w c mb h₀ T 2 f a y:=by intro f a y h;refine fI h (fun h=>e6 h fun d e b g i n h=>mS h fun h=> ?_) fun h=>nn h;(refine xe (v9 h.1) ?_;rintro n rfl);(refine BB h ?_;clear h;rintro _ j k l m o p q);exact aaK W d e b g i n k l m o p (cV.mp j) (cV.mp q)
theorem NI{n:aA}(f:0≤a∧a < b)(g:0≤c∧c < 2^n)(h:0≤d∧d < 2^n)(i:0 < e)(j:b=e*2^n+d)(k:n≤4000)(l:intBits b≤n+4000):
  NH (aH "_div3n2n") [.int a,.int c,.int b,.int e,.int d,.int (n:Z)] =O (.tup [.int ((a*2^n+c) / b),.int ((a*2^n+c) % b)]):=
 (aR V).trans (bB ⟨cW n,cV.mpr k,f,g,h,i,j,cV.mpr l⟩)
theorem aaM(a b:Z)(h:aA)(i:0≤a)(d:0 < b)(f:a < b*2^(2*h)):
  (a / 2^(2*h))*2^h+(a / 2^h) % 2^h=a / 2^h∧(0≤a / 2^(2*h)∧a / 2^(2*h) < b)∧
  a / b=(a / 2^h) / b*2^h+((a / 2^h) % b*2^h+a % 2^h) / b∧a % b=((a / 2^h) % b*2^h+a % 2^h) % b∧
  0≤((a / 2^h) % b*2^h+a % 2^h) / b∧((a / 2^h) % b*2^h+a % 2^h) / b < 2^h:=by
 have j:(2:Z) ^(2*h)=2^h*2^h:=by rw[QJ,qR]
 rw[j] at f ⊢;have c:(0:Z) < 2^h:=jj (by decide);generalize(2:Z) ^h=t at*;have k:=nA a t;have l:=eD a (fB c:t≠0);have r:=gJ a c;have m:a / (t*t)=a / t / t:=(Bc (cJ c)).symm;have n:=nA (a / t) t;have o:=nA (a / t) b;have p:=eD (a / t) (fB d:b≠0);have s:=gJ (a / t) d
 have g:a=((a / t) % b*t+a % t)+(a / t) / b*t*b:=by
  have e:a=t*(b*(a / t / b)+a / t % b)+a % t:=by rw[o];exact k.symm
  rw[A6] at e
  have q:t*(b*(a / t / b))=a / t / b*t*b:=by rw[hA (a / t / b) t,lL,hA b]
  rw[q,hA t (a / t % b)] at e;exact kN e (kN (sw _ _ _) (mP _ _))
 refine⟨?_,⟨?_,?_⟩,?_,?_,?_,?_⟩
 ·rw[m,hA];exact n
 ·exact kQ i (oE (cJ c) (cJ c))
 ·exact uF (Bk c c) f
 ·conv=>lhs;rw[g]
  rw[ago _ _ (fB d)];exact mP _ _
 ·conv=>lhs;rw[g]
  rw[Int.add_mul_emod_self_right]
 ·exact kQ (by have:=oE p (cJ c);exact qK this l) (cJ d)
 ·refine uF d ?_;have:(a / t) % b*t≤(b - 1)*t:=sA (by lia) (cJ c);rw[Bj,hA b t] at this;lia
noncomputable def NJ:B:=(.cons (.asg 4 (.bin .RShift (.nm 2) (.int 1)))
  (.cons (.asg 5 (.bin .Sub (.bin .LShift (.int 1) (.nm 4)) (.int 1)))
  (.cons (.mU 6 7 (.bin .RShift (.nm 1) (.nm 4)) (.bin .BitAnd (.nm 1) (.nm 5)))
  (.cons (.jm [8,9] (.call (aH "_div3n2n") (.cons (.bin .RShift (.nm 0) (.nm 2)) (.cons (.bin .BitAnd (.bin .RShift (.nm 0) (.nm 4)) (.nm 5)) (.cons (.nm 1) (.cons (.nm 6) (.cons (.nm 7) (.cons (.nm 4) .nil))))))))
  (.cons (.jm [10,9] (.call (aH "_div3n2n") (.cons (.nm 9) (.cons (.bin .BitAnd (.nm 0) (.nm 5)) (.cons (.nm 1) (.cons (.nm 6) (.cons (.nm 7) (.cons (.nm 4) .nil))))))))
  (.cons (.ite (.nm 3) (.cons (.aug 9 .RShift (.int 1))
  .nil) .nil)
  (.cons (.ret (.tup (.cons (.bin .BitOr (.bin .LShift (.nm 8) (.nm 4)) (.nm 10)) (.cons (.nm 9) .nil))))
  .nil)))))))
theorem NK(a b p:Z)(h:aA)(l:0≤a)(q:a < b*2^(2*h))(f:2^h≤b)(A:b < 2^(2*h))(j:h≤2500)(B:p=0∨p=1):
  ∃C,bE pa NJ {loc:=[O (.int a),O (.int b),O (.int ((2*h:aA):Z)),O (.int p),aB,aB,aB,aB,aB,aB,aB]}=O (.ret (.tup [.int (a / b),.int (if p=0 then a % b else a % b / 2)]),C):=by
 have c:(0:Z) < 2^h:=jj (by decide);refine qU (aaM a b h l (dM c f) q) fun D F G H I K=> ?_;have a0:intBits b≤2*h:=intBits_le (cJ (dM c f)) A
 have r:b=b / 2^h*2^h+b % 2^h:=by have:=nA b (2^h);rw[hA] at this;exact Eq.symm this
 have s:0≤b % 2^h∧b % 2^h < 2^h:=⟨eD _ (fB c),gJ _ c⟩;have t:0 < b / 2^h:=by have:=(aeA c:1≤b / 2^h↔1*2^h≤b).mpr (cK (pC (gY _)) f);exact dM (by decide) this
 have L:0≤(a / 2^h) % 2^h∧(a / 2^h) % 2^h < 2^h:=⟨eD _ (fB c),gJ _ c⟩;have N:0≤a % 2^h∧a % 2^h < 2^h:=⟨eD _ (fB c),gJ _ c⟩;have P:0≤(a / 2^h) % b∧(a / 2^h) % b < b:=⟨eD _ (fB (dM c f)),gJ _ (dM c f)⟩;have u:=NI F L s t r (aL j (by decide)) (by lia);have Q:=NI P N s t r (aL j (by decide)) (by lia);rw[D] at u;generalize v:(a / 2^h) / b=k at*;generalize a1:(a / 2^h) % b=n at*;generalize a2:(n*2^h+a % 2^h) / b=w at*;generalize a3:(n*2^h+a % 2^h) % b=m at*;have y:0≤k:=by refine aS v ?_;exact kQ (kQ l (cJ c)) (cJ (dM c f))
 have R:intBits k≤8000:=by
  have S:a / 2^h < b*2^h:=by refine uF c ?_;refine M (lL ..) (aS (qR ..) (aS (QJ ..) ?_));exact q
  have T:k < 2^h:=by exact aS v <|uF (dM c f) (by refine M (hA ..) ?_;exact S)
  exact aL (intBits_le y T) (aL j (by decide))
 have d:∀{g:Sg} {i:aA} {x:Z},g.loc[i]? =O (O (.int x))→ev pa g (.nm i)=O (.int x):=fun h=>aT i' h;have o:∀{g:Sg} {e:E} {x:Z},0≤x→ev pa g e=O (.int x)→g.loc[5]? =O (O (.int (1*2^h - 1)))→ev pa g (.bin .BitAnd e (.nm 5))=O (.int (x % 2^h)):=fun U W X=>bM W (d X) (aT (fun z=>O (PV.int z)) (NC h U));have Y:((2*h:aA):Z) / 2^1=h:=by lia
 refine⟨_,sg (x:= .int (h:Z)) (bM (x:= .int ((2*h:aA):Z)) (y:= .int 1) V rfl ((v5 (n:=1)).trans (aT (fun z=>O (PV.int z)) Y))) V
  (sg (bM (bM (x:= .int 1) (y:= .int h) V rfl (tM (k:=64) (by decide) (aL (eU j _) (by decide)))) (y:= .int 1) V my) V
  (KU (bM (x:= .int b) (y:= .int h) V rfl v5) (o (cJ (dM c f)) (d (x:=b) V) V) V rfl
  (tg (fO (bW (bM (x:= .int a) (y:= .int ((2*h:aA):Z)) V rfl v5) (bW (o (kQ l (cJ c)) (bM (x:= .int a) (y:= .int h) V rfl v5) V) (bW (d (x:=b) V) (bW (d V) (jW (d V) (d (x:=h) V)))))) V u) V
  (tg (fO (bW (d (x:=n) V) (bW (o l (d V) V) (bW (d (x:=b) V) (bW (d V) (jW (d V) (d (x:=h) V)))))) V Q) V
  (nx (σ':={loc:=[O (.int a),O (.int b),O (.int ((2*h:aA):Z)),O (.int p),O (.int (h:Z)),O (.int (1*2^h - 1)),O (.int (b / 2^h)),O (.int (b % 2^h)),O (.int k),O (.int (if p=0 then m else m / 2)),O (.int w)]}) ?_ (cU (fU (x:= .tup [.int (a / b),.int (if p=0 then a % b else a % b / 2)]) ?_ V)))))))⟩
 ·rcases B with rfl |rfl
  ·exact(nN (x:= .int 0) V rfl).trans rfl
  ·refine(qk (x:= .int 1) V rfl).trans (ag (p:= .int m) (y:= .int 1) (z:= .int (m / 2)) V rfl ?_ V);exact(bB (by decide)).trans <|M (show(2:Z) ^(1:Z).toNat=2 from rfl) (M (tj (by decide)) V)
 ·refine M G (M H ?_);exact tv (bM (bM (x:= .int k) (y:= .int h) V rfl (tM R (aL (eU j _) (by decide)))) (y:= .int w) V (aT (fun z=>O (PV.int z)) (NB h y I K))) V rfl
end
section
open Builtin.Int (intBits)
theorem wa(h:a≤b):(2:Z) ^a≤2^b:=by have:=xA (n:=2) (by decide) h;have c:((2^a:aA):Z)=2^a:=rfl;have d:((2^b:aA):Z)=2^b:=rfl;lia
theorem aaN(a b:Z)(n:aA)(ha:0≤a)(oX:a < b*2^n)(vD:b < 2^n)(DT:2^n≤2*b)(NL:2≤n)(hn:n≤4999)(ahc:¬intBits a≤n+4000)(haB:intBits a≤20000):
  ∃σ',bE pa yt {loc:=[O (.int a),O (.int b),O (.int (n:Z)),aB,aB,aB,aB,aB,aB,aB,aB]}=O (.ret (.tup [.int (a / b),.int (a % b)]),σ'):=by
 have e3:dC .BitAnd (.int (n:Z)) (.int 1)=O (.int ((n % 2:aA):Z)):=by refine aT (fun z=>O (PV.int z)) ((NC (x:=(n:Z)) 1 (cW _)).trans ?_);exact(Int.natCast_emod n 2).symm
 have go:∀{r:aG (Fl×Sg)},bE pa (.cons (.ite (.nm 3) (.cons (.aug 0 .LShift (.int 1)) (.cons (.aug 1 .LShift (.int 1)) (.cons (.aug 2 .Add (.int 1)) .nil))) .nil) NJ) {loc:=[O (.int a),O (.int b),O (.int (n:Z)),O (.int ((n % 2:aA):Z)),aB,aB,aB,aB,aB,aB,aB]}=r→
   bE pa yt {loc:=[O (.int a),O (.int b),O (.int (n:Z)),aB,aB,aB,aB,aB,aB,aB,aB]}=r:=fun h=>
  nx (eY (cI (bM (kZ (x:= .int a) (z:= .int (intBits a)) V rfl rfl) (y:= .int n) V my) (aT (j4 PV.int) ND) (VS (by lia))) V) (sg (bM (x:= .int n) (y:= .int 1) V rfl e3) V h)
 rcases Nat.mod_two_eq_zero_or_one n with hm |hm
 ·obtain⟨h,rfl⟩:∃h,n=2*h:=⟨n / 2,by exact S2 hm⟩
  have DU:2^h≤b:=by
   have e:(2:Z) ^(2*h)=2^(2*h - 1)*2:=by refine aS (Su ..) ?_;congr 1;lia
   have:(2:Z) ^h≤2^(2*h - 1):=wa (by lia);lia
  refine xe (NK a b 0 h ha oX DU vD (by lia) (.inl V)) fun σ' h'=> ?_;rw[aR V] at h';rw[hm] at go;exact⟨σ',go (nx (nN (x:= .int ((0:aA):Z)) V rfl) h')⟩
 ·obtain⟨h,hh⟩:∃h,n+1=2*h:=⟨(n+1) / 2,by exact S1 hm⟩;have ep:(2:Z) ^(2*h)=2^n*2:=aS hh (M (Su ..) V);have pn:(0:Z) < 2^n:=jj (by decide)
  have s1:jV .LShift (.int a) (.int 1)=O (.int (a*2)):=by show aZ _ _=_;refine M (bB ⟨by decide,by simp only[Sq];exact A8 (dZ.mpr (cC haB (by decide)))⟩) ?_;rfl
  have bb:intBits b≤n:=intBits_le (cJ (xO pn DT)) vD
  have s2:jV .LShift (.int b) (.int 1)=O (.int (b*2)):=by show aZ _ _=_;refine M (bB ⟨by decide,by simp only[Sq];lia⟩) ?_;rfl
  have DU:2^h≤b*2:=by have:(2:Z) ^h≤2^n:=wa (S3 hh hm);exact cK (cK this DT) (pC (hA _ _))
  have aaO:a*2 < b*2*2^(2*h):=by
   refine M ep ?_
   have e:b*2*(2^n*2)=(b*2^n)*4:=by refine M (lL ..) (M (lL ..) ?_);congr 1;lia
   refine M e ?_;have:0≤b*2^n:=oE (cJ (xO pn DT)) (cJ pn);lia
  (refine xe (NK (a*2) (b*2) 1 h (oE ha (by decide)) aaO DU (by refine M ep ?_;lia) (by lia) (.inr V)) ?_;rintro σ' h');rw[aP (by decide)] at h';have d1:a*2 / (b*2)=a / b:=Int.mul_ediv_mul_of_pos_left _ _ (by decide)
  have d2:a*2 % (b*2) / 2=a % b:=by refine M (hA a 2) (M (hA b 2) (M (Int.mul_emod_mul_of_pos _ _ (by decide)) ?_));lia
  rw[d1,d2] at h';rw[hm] at go;refine⟨σ',go (nx ((qk (x:= .int ((1:aA):Z)) V rfl).trans (ag (p:= .int a) (y:= .int 1) V rfl s1 (ag (p:= .int b) (y:= .int 1) V rfl s2 (ag (p:= .int n) (y:= .int 1) V rfl CE V)))) ?_)⟩;exact M (xL hh:((n:Z)+1)=((2*h:aA):Z)) <|h'
section
theorem aaP(W:Wd w j mb h₀)(a b:Z)(n:aA)(e:0≤a)(f:a < b*2^n)(d:b < 2^n)(g:2^n≤2*b)(k:2≤n)(c:n≤4999):Ct w j mb h₀ T 3 "_div2n1n" [.int a,.int b,.int (n:Z)] (.tup [.int (a / b),.int (a % b)]):=by
 by_cases i:intBits a≤n+4000
 ·have:(0:Z) < 2^n:=jj (by decide);exact(NE W a b n n i (xO this g) d (aL c (by decide))).up (by decide)
 ·have l:intBits a≤20000:=by have m:(0:Z) < 2^n:=jj (by decide);have:b*2^n < 2^n*2^n:=agp d m;rw[←qR] at this;exact aL (intBits_le e (uD f this)) (aL (fY c c) (by decide))
  exact xe (aaN a b n e f d g k c i l) fun p h=>W.fn (n:=2) (i:=9) (P:=pa) (rest:=[aB,aB,aB,aB,aB,aB,aB,aB]) (by decide) ⟨_,rfl⟩ V Km (fun o J J J h=>xR (fun J J J=>rfl) o h) Kl fV (aaL W) V h V
end
end
section
open Builtin.Int (intBits)
noncomputable def aaQ(x:PV)(r:aG (aD Z)):aG (aD Z):=match x with
 | .int i=>r.map (i:: ·)| _=>aB
theorem aaR:ints? (x::a)=aaQ x (ints? a):=by cases x<;>rfl
theorem NM:∀{b:aD PV} {a:aD Z},ints? b=O a→b=a.map .int
 |[],a,h=>by cases h;rfl
 |x::b,a,h=>by
  replace h:=aaR▸h;cases x with
  |int i=>
   (refine aQ (l8.mp h) ?_;rintro r e rfl);refine M (NM e) ?_;rfl
  | _=>exact nn h
theorem ints_map:∀a:aD Z,ints? (a.map .int)=O a
 |[] =>rfl|d::a=>aT (j4 (d:: ·)) (ints_map a)
noncomputable def sL(x:PV)(k:aD PV→aG PV):aG PV:=match x with
 | .lst a=>k a| _=>aB
theorem sL_ {k} (h:sL x k=O z):∃a,x= .lst a∧k a=O z:=by
 cases x with
 |lst a=>exact⟨a,rfl,h⟩| _=>exact nn h
noncomputable def P4a(a b n:Z):Prop:=0≤a∧a < b*2^n.toNat∧b < 2^n.toNat∧2^n.toNat≤2*b∧2≤n∧n≤4999
noncomputable def nD(a:Z)(n:aA):Nat:=(intBits a+n - 1) / n
noncomputable def NN(a n:Z):Prop:=0 < a∧1≤n∧n≤10000∧nD a n.toNat≤1000
noncomputable def P4c(a:aD Z)(n:Z):Prop:=0≤n∧n≤10000∧a.length≤1000∧a≠[]∧∀d∈a,0≤d∧d < 2^n.toNat
noncomputable def wb(f:Str)(c:aD PV):aG PV:=if f="_div2n1n" then i3 c fun a b n=>aZ (P4a a b n) (O (.tup [.int (a / b),.int (a % b)]))
 else if f="_int2digits" then i2 c fun a n=>aZ (NN a n) (O (.lst ((fW n.toNat (nD a n.toNat) a).map .int)))
 else if f="_digits2int" then lC c fun x r=>sL x fun c=>i1 r fun n=>(ints? c).bind fun d=>aZ (P4c d n) (O (.int (pack n.toNat d)))
 else aB
noncomputable def rF:bT:={gk:=hX,call:=wb}
theorem aaS(W:Wd w g mb h₀)(i:jX g h₀ T):∀f d y,rF.call f d=O y→Ct w g mb h₀ T 15 f d y:=by
 intro f d y h;refine fI h (fun h=>e3 h fun a b n h=>mS h fun h=> ?a) fun h=>fI h (fun h=>e2 h fun a n h=>mS h fun h=> ?b) fun h=>fI h (fun h=> ?c) fun h=>nn h
 case a=>
  (refine xe (v9 (cK (by decide) h.2.2.2.2.1)) ?_;rintro n rfl);exact(aaP W a b n h.1 h.2.1 h.2.2.1 h.2.2.2.1 (cV.mp h.2.2.2.2.1) (cV.mp h.2.2.2.2.2)).up (by decide)
 case b=>
  (refine xe (v9 (cK (by decide) h.2.1)) ?_;rintro n rfl);exact Xo W i ⟨cV.mp h.2.1,cV.mp h.2.2.1⟩ a _ h.1 V h.2.2.2
 case c=>
  (refine iN (CL h) ?_;rintro _ _ rfl j);(refine aQ (sL_ j) ?_;rintro d rfl k);refine e1 k fun n h=>aQ (dP h) fun m e l=>mS l fun h=> ?_;(refine xe (v9 h.1) ?_;rintro n rfl);exact M (NM e) <|W' W i (cV.mp h.2.1) h.2.2.1 h.2.2.2.1 h.2.2.2.2
noncomputable def nV(b:Z)(n:aA):aD Z→Z→aD Z→Z×aD Z
 |[],r,qs=>(r,qs)|d::a,r,qs=>nV b n a ((r*2^n+d) % b) (qs++[(r*2^n+d) / b])
theorem NO{b r d:Z}{n:aA}(a:0≤r∧r < b)(c:0≤d∧d < 2^n):0≤r*2^n+d∧r*2^n+d < b*2^n:=by have e:(0:Z) < 2^n:=jj (by decide);have f:(r+1)*2^n≤b*2^n:=sA a.2 (cJ e);rw[Hy,gY] at f;exact⟨qK (oE a.1 (cJ e)) c.1,dM (aff c.2 _) f⟩
theorem aaT(b:Z)(n:aA)(f:0 < b):∀(a:aD Z) (r:Z) (c p:aD Z),0≤r∧r < b→pack n c.reverse*b+r=pack n p.reverse→(∀d∈c,0≤d∧d < 2^n)→c.length=p.length→(∀d∈a,0≤d∧d < 2^n)→
  (0≤(nV b n a r c).1∧(nV b n a r c).1 < b)∧pack n (nV b n a r c).2.reverse*b+(nV b n a r c).1=pack n (p++a).reverse∧(∀d∈(nV b n a r c).2,0≤d∧d < 2^n)∧(nV b n a r c).2.length=(p++a).length:=by
 intro a
 induction a with
 |nil=>intro r c p g h i j _;refine M (jS ..) ?_;exact⟨g,h,i,j⟩
 |cons d a ih=>
  intro r c p g h i j k;have l:=k d (iK ..);refine xa (NO g l) fun m o=> ?_;have q:=nA (r*2^n+d) b;refine M (by simp:p++d::a=(p++[d])++a) <|ih _ _ (p++[d]) ⟨eD _ (fB f),gJ _ f⟩ ?_ ?_ (by simp[j]) (fun x e=>k x (hU _ e))
  ·refine M Sv (M Sv (M agq (M agq ?_)));show(_+_*pack n c.reverse)*b+_=d+_*pack n p.reverse;refine aS h (M (Hy ..) (M (A6 ..) (M (lL ..) (M (hA _ b) (M (hA (2^n) r) ?_)))));lia
  ·intro x e;rcases jD.mp e with e |e
   ·exact i x e
   ·exact M (fK.mp e) <|⟨kQ m (cJ f),uF f (by refine M (hA (2^n) b) ?_;exact o)⟩
noncomputable def NP:B:=(.cons (.jm [7,4] (.call (aH "_div2n1n") (.cons (.bin .Add (.bin .LShift (.nm 4) (.nm 2)) (.nm 6)) (.cons (.nm 1) (.cons (.nm 2) .nil)))))
  (.cons (.app 5 (.nm 7)) .nil))
noncomputable def NQ:B:=(.cons (.asg 2 (.dG "bit_length" (.nm 1) .nil))
  (.cons (.asg 3 (.call (aH "_int2digits") (.cons (.nm 0) (.cons (.nm 2) .nil))))
  (.cons (.asg 4 (.int 0))
  (.cons (.mq 5 (.lst .nil))
  (.cons (.forL 6 aF (.nm 3) NP)
  (.cons (.uS 5) (.cons (.kS 5)
  (.cons (.asg 8 (.call (aH "_digits2int") (.cons (.nm 5) (.cons (.nm 2) .nil))))
  (.cons (.ret (.tup (.cons (.nm 8) (.cons (.nm 4) .nil))))
  .nil)))))))))
theorem aaU:dX (aK 13).scope Kq NQ (aK 13).body=true:=by decide+kernel
noncomputable def zj(a b:Z)(n:aA)(c r:PV)(d e:aG PV)(f:aD Z):Sg:=
 {loc:=[O (.int a),O (.int b),O (.int (n:Z)),O c,O r,O .bV,d,e,aB],mu:=O (f.map .int)}
theorem aaV(a b:Z)(n:aA)(p:b < 2^n)(q:2^n≤2*b)(u:2≤n)(i:n≤4999)(j:PV):∀(e:aD Z) (r:Z) (c:aD Z) (f g:aG PV),0≤r∧r < b→(∀d∈e,0≤d∧d < 2^n)→c.length+e.length≤1000→
  ∃k l,gM (bE rF NP) 6 (e.map .int) (zj a b n j (.int r) f g c)=O (.next,zj a b n j (.int (nV b n e r c).1) k l (nV b n e r c).2):=by
 have s:0 < b:=by have:(0:Z) < 2^n:=jj (by decide);exact xO this q
 intro e
 induction e with
 |nil=>intro r c f g _ _ _;exact⟨f,g,rfl⟩
 |cons d e ih=>
  intro r c f g m t o;have v:=t d (iK ..);refine xa (NO m v) fun w y=> ?_
  have z:intBits r≤5000:=
   aL (intBits_le m.1 (uD m.2 p)) (by exact nw i)
  (refine oJ (ih ((r*2^n+d) % b) (c++[(r*2^n+d) / b]) (O (.int d)) (O (.int ((r*2^n+d) / b))) ⟨eD _ (fB s),gJ _ s⟩ (fun x A=>t x (hU _ A)) (by simp at o ⊢;exact aL (cM (on _ _ _)) o)) ?_;rintro k l h);refine⟨k,l,(rl (σ':=zj a b n j (.int ((r*2^n+d) % b)) (O (.int d)) (O (.int ((r*2^n+d) / b))) (c++[(r*2^n+d) / b])) ?_).trans h⟩;have B:wb (aH "_div2n1n") [.int (r*2^n+d),.int b,.int (n:Z)] =O (.tup [.int ((r*2^n+d) / b),.int ((r*2^n+d) % b)]):=(aR V).trans (bB ⟨w,y,p,q,by exact cV.mpr u,by exact cV.mpr i⟩);refine tg (fO (bW (bM (bM (x:= .int r) (y:= .int n) V rfl (tM z (aL (eU i _) (by decide)))) (y:= .int d) V iF) (jW (x:= .int b) (y:= .int n) V rfl)) V B) V (nx (yx (x:= .int ((r*2^n+d) / b)) (xs:=c.map .int) V rfl rfl rfl ?_) ?_)
  ·refine M (bQ ..) ?_;exact aL (hO _ _) (aL o (by decide))
  ·refine M ((iA (f:=PV.int) (l₁:=c) (l₂:=[_])).symm:List.map PV.int c++[PV.int ((r*2^n+d) / b)] =(c++[(r*2^n+d) / b]).map PV.int) ?_;rfl
end
section
open Builtin.Int (intBits)
theorem aaW{b:Z}(h:0 < b):2^intBits b≤2*b:=by obtain⟨n,rfl⟩:∃n:aA,b=n:=⟨b.toNat,by exact Eq.symm (kr (cJ h))⟩;have c:n≠0:=eG (dZ.mp (iV (by decide) h));unfold gW;refine M (aP (by simpa using c)) ?_;have d:(2:aA) ^n.log2≤n:=Nat.log2_self_le c;have e:((2^n.log2:aA):Z)=2^n.log2:=rfl;simp only[Int.natAbs_natCast];omega
noncomputable def kf(a b:Z):Prop:=0 < b∧2≤intBits b∧intBits b≤4999∧(intBits a+intBits b - 1) / intBits b≤1000
theorem aaX(a b:Z)(m:0 < a)(l:kf a b):∃H,bE rF NQ {loc:=[O (.int a),O (.int b),aB,aB,aB,aB,aB,aB,aB]}=O (.ret (.tup [.int (a / b),.int (a % b)]),H):=by
 (refine dW l ?_;clear l;rintro c q r g);have I:=aaW c;have K:=vC c;have L:ev rF {loc:=[O (.int a),O (.int b),aB,aB,aB,aB,aB,aB,aB]} (.dG "bit_length" (.nm 1) .nil)=O (.int (intBits b)):=rfl;have B:=vC m
 have N:0 < intBits a:=by
  rcases RW (intBits a) with h |h
  ·rw[h] at B;omega
  ·exact h
 generalize intBits b=n at*;generalize s:(intBits a+n - 1) / n=k at*
 have t:intBits a≤n*k:=by have h:=Nat.lt_mul_div_succ (intBits a+n - 1) (bL (by decide) q);rw[s,Nat.mul_succ] at h;exact Nat.le_of_add_le_add_right (Nat.le_of_pred_lt h)
 have P:1≤k:=by
  rcases RW k with h |h
  ·rw[h] at t;exact nz (bL (bL N t) (jR _))
  ·exact h
 have Q:=LD n k a (cJ m) (dM B (wa t))
 have R:wb (aH "_int2digits") [.int a,.int (n:Z)] =O (.lst ((fW n k a).map .int)):=by
  refine(aP (by decide+kernel)).trans ((aR V).trans (kN (bB ?_) ?_))
  ·unfold NN nD;refine M (oF ..) (M s ?_);exact⟨m,by exact cV.mpr (qz q),by exact cV.mpr (aL r (by decide)),g⟩
  ·unfold nD;exact M (oF ..) (M s V)
 have u:=tC n k a;have C:=LC n k a;(refine oJ (aaV a b n K I q r (.lst ((fW n k a).map .int)) (fW n k a).reverse 0 [] aB aB ⟨by exact(by decide),c⟩ (fun d i=>C d (pK.mp i)) (by simp[u];exact g)) ?_;rintro S U D);refine dW (aaT b n c (fW n k a).reverse 0 [] [] ⟨by exact(by decide),c⟩ (by simp[vA]) (by simp) V (fun d i=>C d (pK.mp i))) fun v y F j=> ?_;rw[qO,Sp,Q] at y;rw[qO,xp,u] at j;generalize nV b n (fW n k a).reverse 0 [] =o at D v y F j
 have W:wb (aH "_digits2int") [.lst (o.2.reverse.map .int),.int (n:Z)] =O (.int (pack n o.2.reverse)):=by refine(aP (by decide+kernel)).trans ((aP (by decide+kernel)).trans ((aR V).trans (bN (ints_map _) ?_)));refine bB ⟨by exact cW _,by exact cV.mpr (aL r (by decide)),by refine M xp ?_;exact aL (cM j) g,?_,fun d i=>F d (pK.mp i)⟩;exact fun e=>absurd (j.symm.trans (aT ot (List.reverse_eq_nil_iff.mp e))) (eG P)
 obtain⟨X,a0⟩:=(Sr c (a:=a) (q:=pack n o.2.reverse) (r:=o.1)).mpr ⟨by refine M (hA ..) (M (mP ..) ?_);exact y,v.1,v.2⟩;refine M X (M a0 ?_);have G:∀{f:Str} {A:Sg} {e:E} {x z:PV},ev rF A e=O x→kU [x,.int n] =aF→wb f [x,.int n] =O z→A.loc[2]? =O (O (.int n))→ev rF A (.call f (.cons e (.cons (.nm 2) .nil)))=O z:=fun a1 a2 l a3=>fO (jW a1 (aT i' a3)) a2 l
 exact⟨_,sg (x:= .int n) L V (sg (G (x:= .int a) V rfl R V) V (sg (x:= .int 0) V rfl (nx (tq (xs:=[]) V (nO V (by decide) V)) (nx (σ':=zj a b n (.lst ((fW n k a).map .int)) (.int o.1) S U o.2)
  ((VL (xs:=(fW n k a).map .int) V (by refine M (bQ ..) (M u ?_);exact aL g (by decide))).trans (by refine aS uB ?_;exact D))
  (nx (VO (xs:=o.2.map .int) V rfl (by refine M (bQ ..) ?_;exact aL (cM j) (aL g (by decide)))) (nx (CH (xs:=o.2.reverse.map .int) V (aT O (uB ..).symm)) (sg (G (x:= .lst (o.2.reverse.map .int)) V rfl W V) V (cU (fU (tv (x:= .int (pack n o.2.reverse)) (y:= .int o.1) V rfl rfl) V)))))))))⟩
section
variable{w:aV}{Y mb:Str→aG aJ}{h₀:bF}{T:aD Tab}
theorem aaY(W:Wd w Y mb h₀)(c:jX Y h₀ T)(a b:Z)(d:0 < a)(e:kf a b):Ct w Y mb h₀ T 16 "_divmod_pos" [.int a,.int b] (.tup [.int (a / b),.int (a % b)]):=by exact xe (aaX a b d e) fun g h=>W.fn (n:=15) (i:=13) (P:=rF) (rest:=[aB,aB,aB,aB,aB,aB,aB]) (by decide) ⟨_,rfl⟩ V Vf (fun f J J J h=>pU (fun J J=>rfl) f h) aaU fV (aaS W c) V h V
end
noncomputable def DV(p:Z→Prop)(f:Str)(c:aD PV):aG PV:=if f="_divmod_pos" then i2 c fun a b=>aZ (0 < a∧kf a b) (O (.tup [.int (a / b),.int (a % b)]))
 else if f="int_divmod" then i2 c fun a b=>aZ (p a∧kf a b) (O (.tup [.int (a / b),.int (a % b)])) else aB
noncomputable def nW(p:Z→Prop):bT:={gk:=hX,call:=DV p}
theorem DW{w:aV}{Y mb:Str→aG aJ}{h₀:bF}{T:aD Tab}(W:Wd w Y mb h₀)(d:jX Y h₀ T){m:aA}{p:Z→Prop}(e:16≤m)(g:∀a b,p a→kf a b→Ct w Y mb h₀ T m "int_divmod" [.int a,.int b] (.tup [.int (a / b),.int (a % b)])):
  ∀f c y,(nW p).call f c=O y→Ct w Y mb h₀ T m f c y:=by
 intro f c y h;exact fI h (fun h=>e2 h fun a b h=>mS h fun h=>(aaY W d _ _ h.1 h.2).up e) fun h=>fI h (fun h=>e2 h fun a b h=>mS h fun h=>g _ _ h.1 h.2) fun h=>nn h
theorem NR{p:Z→Prop}{a b:Z}(h:p a)(c:kf a b):DV p (aH "int_divmod") [.int a,.int b] =O (.tup [.int (a / b),.int (a % b)]):=
 (aP (by decide+kernel)).trans ((aR V).trans (bB ⟨h,c⟩))
theorem aaZ(a b:Z)(c:0 < b): -((-a - 1) / b) - 1=a / b∧b+(-((-a - 1) % b) - 1)=a % b:=by have e:=nA (-a - 1) b;have l:=gJ (-a - 1) c;have n:=eD (-a - 1) (fB c:b≠0);(refine xa ((Sr c (a:=a) (q:= -((-a - 1) / b) - 1) (r:=b+(-((-a - 1) % b) - 1))).mpr ⟨by refine M (afv ..) (M (Int.mul_neg ..) ?_);omega,by omega,by omega⟩) ?_;rintro d f);exact⟨d.symm,f.symm⟩
section
variable{p:Z→Prop}(a b:Z)
theorem DX{a b:Z}{r:aG (Fl×Sg)}(e:b≠0){s:S}(h:ex (nW p) s {loc:=[O (.int a),O (.int b),aB,aB]}=r)(c:∃v d,r=O (.ret v,d)){f:B}:
  bE (nW p) (.cons (.ite (.cmp .Eq (.nm 1) (.int 0)) f (.cons s .nil)) .nil) {loc:=[O (.int a),O (.int b),aB,aB]}=r:=by
 (refine oJ c ?_;clear c;rintro v d rfl);exact cU (eY (cI (x:= .int b) (y:= .int 0) V rfl (yy e)) (cU h))
theorem aa0(c:0 < a)(d:kf a b):∃f,bE (nW p) vn {loc:=[O (.int a),O (.int b),aB,aB]}=O (.ret (.tup [.int (a / b),.int (a % b)]),f):=by have e:=d.1;have g:DV p (aH "_divmod_pos") [.int a,.int b] =O (.tup [.int (a / b),.int (a % b)]):=(aR V).trans (bB ⟨c,d⟩);exact⟨_,DX (p:=p) (fB e) (eY (cI (x:= .int b) (y:= .int 0) V rfl (lc (i9.mpr (cJ e)))) (cU (eY (cI (x:= .int a) (y:= .int 0) V rfl (lc (i9.mpr (cJ c)))) (cU (fU (fO (f:=aH "_divmod_pos") (jW (x:= .int a) (y:= .int b) V rfl) V g) V))))) ⟨_,_,rfl⟩⟩
theorem aa1(e:a < 0)(f:p (-a - 1))(d:kf (-a - 1) b):∃g,bE (nW p) vn {loc:=[O (.int a),O (.int b),aB,aB]}=O (.ret (.tup [.int (a / b),.int (a % b)]),g):=by
 have c:=d.1;refine xa (aaZ a b c) fun h i=>aS h (aS i ?_)
 exact⟨_,DX (p:=p) (fB c) (eY (cI (x:= .int b) (y:= .int 0) V rfl (lc (i9.mpr (cJ c)))) (cU (it (cI (x:= .int a) (y:= .int 0) V rfl (lS e))
  (tg (fO (f:=aH "int_divmod") (jW (x:= .int (-a - 1)) (y:= .int b) V rfl) V (NR f d)) V (cU (fU (tv (x:= .int (-((-a - 1) / b) - 1)) (y:= .int (b+(-((-a - 1) % b) - 1))) V rfl rfl) V)))))) ⟨_,_,rfl⟩⟩
theorem aa2(f:p a)(c:kf a b):∃g,bE (nW p) vn {loc:=[O (.int (-a)),O (.int (-b)),aB,aB]}=O (.ret (.tup [.int (a / b),.int (-(a % b))]),g):=by have j:=c.1;have d:∀{e:Sg} {i:aA} {x:Z},e.loc[i]? =O (O (.int (-x)))→ev (nW p) e (.un .USub (.nm i))=O (.int x):=fun h=>bN (aT i' h) (aT (fun z=>O (PV.int z)) (Sw _));exact⟨_,DX (p:=p) (by omega) (it (cI (x:= .int (-b)) (y:= .int 0) V rfl (lS (by omega))) (tg (fO (f:=aH "int_divmod") (jW (d V) (d V)) V (NR f c)) V (cU (fU (tv (x:= .int (a / b)) (y:= .int (-(a % b))) V rfl rfl) V)))) ⟨_,_,rfl⟩⟩
end
section
variable{w:aV}{Y mb:Str→aG aJ}{h₀:bF}{T:aD Tab}
theorem DY(W:Wd w Y mb h₀){m:aA}{p:Z→Prop}{a b:Z}{y:PV}(e:∀f c y,(nW p).call f c=O y→Ct w Y mb h₀ T m f c y)(h:∃d,bE (nW p) vn {loc:=[O (.int a),O (.int b),aB,aB]}=O (.ret y,d)):Ct w Y mb h₀ T (m+1) "int_divmod" [.int a,.int b] y:=by(refine xe h ?_;clear h;rintro d h);exact W.fn (n:=m) (i:=14) (P:=nW p) (rest:=[aB,aB]) (by decide) ⟨_,rfl⟩ V Vh (fun g J J J h=>pU (fun J J=>rfl) g h) Vg fV e V h V
theorem NS(W:Wd w Y mb h₀)(c:jX Y h₀ T)(a b:Z)(d:0 < a)(e:kf a b):Ct w Y mb h₀ T 17 "int_divmod" [.int a,.int b] (.tup [.int (a / b),.int (a % b)]):=
 DY W (p:=fun J=>bO) (DW W c (bZ _) fun J J h=>h.elim) (aa0 a b d e)
theorem NT(W:Wd w Y mb h₀)(e:jX Y h₀ T)(a b:Z)(d:0 < a∨a < -1)(c:kf a b):Ct w Y mb h₀ T 18 "int_divmod" [.int a,.int b] (.tup [.int (a / b),.int (a % b)]):=by
 rcases d with d |d
 ·exact(NS W e a b d c).up (by decide)
 ·refine DY W (p:=fun a=>0 < a) (DW W e (by decide) fun a b h c=>NS W e a b h c) (aa1 a b (dM d (by decide)) (by omega) ⟨c.1,c.2.1,c.2.2.1,?_⟩);have:intBits (-a - 1)≤intBits a:=Hx (y:=a) (by omega) (bZ _);exact aL (Nat.div_le_div_right (qI (lF this _) 1)) c.2.2.2
theorem NU(W:Wd w Y mb h₀)(d:jX Y h₀ T)(t a b:Z)(f:t=1∨t= -1)(e:0 < a∨a < -1)(c:kf a b):Ct w Y mb h₀ T 19 "int_divmod" [.int (t*a),.int (t*b)] (.tup [.int (a / b),.int (t*(a % b))]):=by
 rcases f with rfl |rfl
 ·refine M (gY ..) (M (gY ..) (M (gY ..) ?_));exact(NT W d a b e c).up (by decide)
 ·refine M (sC ..) (M (sC ..) (M (sC ..) (M (gY ..) (M (gY ..) (M (gY ..) ?_)))));exact DY W (p:=fun a=>0 < a∨a < -1) (DW W d (by decide) fun a b h c=>NT W d a b h c) (aa2 a b e c)
end
end
section
open Builtin.Int (intBits)
noncomputable def rG(y j:Z):Int:=if j < 2 then y - 1 else y
noncomputable def iw(y j d:Z):Int:=365*rG y j+rG y j / 4 - rG y j / 100+rG y j / 400+(153*((j+10) % 12)+2) / 5+d+1
noncomputable def gR(y j d:Z):Int:=iw y j d % 7
theorem DZ{e:aA}(h:intBits a*e≤134217728):dC .Pow (.int a) (.int (e:Z))=O (.int (a^e)):=by show aZ _ _=_;have b:((intBits a*e:aA):Z)≤((134217728:aA):Z):=cV.mpr h;rw[Bb] at b;exact M (bB ⟨by exact cW _,b⟩) (M (oF ..) V)
theorem tN(c:intBits a≤m)(d:intBits b≤n)(h:m+n≤134217728):dC .Mult (.int a) (.int b)=O (.int (a*b)):=bB (agn c d h)
theorem aa3(c:0 < b)(h:b < 2^m)(d:m≤8000):dC .FloorDiv (.int a) (.int b)=O (.int (a / b)):=by show aZ _ _=_;exact M (bB (DS c h d)) (M (tj c) V)
theorem aa4(c:0 < b)(h:b < 2^m)(d:m≤8000):dC .Mod (.int a) (.int b)=O (.int (a % b)):=by show aZ _ _=_;exact M (bB (DS c h d)) (M (CD c) V)
theorem aa5(h:2598≤e):(2:Z) ^4117≤3^e:=by
 have a:(2:aA) ^4117≤3^2598:=by decide+kernel
 have b:(3:aA) ^2598≤3^e:=xA (by decide) h
 exact_mod_cast aL a b
theorem aa6(h:e≤2661):(3:Z) ^e < 2^4218:=by
 have a:(3:aA) ^2661 < 2^4218:=by decide+kernel
 have b:(3:aA) ^e≤3^2661:=xA (by decide) h
 exact_mod_cast cC b a
theorem aa7{z q d a b c:Z}(e:0≤z∧z≤20000)(f:0≤q∧q≤400)(g:1≤d∧d≤31)(h:0≤b∧b≤a)(j:a≤z)(i:0≤c∧c≤z):2≤365*z+a - b+c+q+d+1∧365*z+a - b+c+q+d+1≤10000000:=
 ⟨xm (nq (qK (qK (AW (cK h.2 (Int.le_add_of_nonneg_left (oE (by decide) e.1)))) i.1) f.1) g.1) 1,
  cK (xm (nq (nq (nq (cK (AM _ h.1) (nq (A7 e.2 (by decide)) (cK j e.2))) (cK i.2 e.2)) f.2) g.2) 1) (by decide)⟩
theorem aa8:∀m < 12,0≤(153*((m:aA):Z)+2) / 5∧(153*((m:aA):Z)+2) / 5≤400:=by decide
theorem NV{y j d z:Z}(c:1≤d∧d≤31)(a:0≤z∧z≤20000)(e:rG y j=z):2≤iw y j d∧iw y j d≤10000000:=by
 unfold iw;refine M e <|xe (qT (eD (j+10) (by decide:(12:Z)≠0))) fun m f=> ?_
 have b:=gJ (j+10) (by decide:(0:Z) < 12);rw[f] at b ⊢;have g:0≤z / 4:=kQ a.1 (by decide)
 have h:z / 100≤z / 4:=by refine M (show(100:Z)=4*25 from rfl) (aS (Bc (by decide)) ?_);exact AL _ g
 exact aa7 a (aa8 m (dZ.mp b)) c ⟨kQ a.1 (by decide),h⟩ (AL _ a.1) ⟨kQ a.1 (by decide),AL _ a.1⟩
theorem aa9(b:0≤y∧y≤20000)(i:0≤j∧j≤11)(a:1≤d∧d≤31)(l:¬(y=0∧j=1)):(2≤iw y j d∨iw y j d < -1)∧ -1000≤iw y j d∧iw y j d≤10000000:=by
 have c:2≤iw y j d∧iw y j d≤10000000→(2≤iw y j d∨iw y j d < -1)∧ -1000≤iw y j d∧iw y j d≤10000000:=fun k=>⟨.inl k.1,cK (by decide) k.1,k.2⟩
 by_cases e:j < 2
 ·by_cases f:y=0
  ·have h:j=0:=by lia
   refine M f (M h (M (rfl:iw 0 0 d= -60+d+1) ?_));have g: -60+d+1≤ -28:=xm (Bl a.2 (-60)) 1;exact⟨.inr (iV g (by decide)),cK (by decide) (xm (Bl a.1 (-60)) 1),cK g (by decide)⟩
  ·exact c (NV a ⟨xl (Int.lt_iff_le_and_ne.mpr ⟨b.1,Ne.symm f⟩),cK (AM _ (by decide)) b.2⟩ (aR e))
 ·exact c (NV a b (aP e))
theorem aa'(d:1000000000≤P)(e:(2≤c∨c < -1)∧ -1000≤c∧c≤10000000)(f:0 < U)(g:0≤x∧x < U):0 < (z*P+c)*U+x∨(z*P+c)*U+x < -1:=by
 have i:0≤P:=cK (by decide) d
 have j:0 < z*P+c∨z*P+c≤ -2:=by
  rcases Int.lt_trichotomy z 0 with h |h |h
  ·exact .inr (cK (nq (cK (sA (xl h) i) (by refine M (Int.zero_sub ..) (M (sC ..) (M (gY ..) ?_));exact Int.neg_le_neg d:(0 - 1)*P≤ -1000000000)) e.2.2) (by decide))
  ·refine M h (M (Int.zero_mul ..) (M (sr ..) ?_));exact e.1.imp (fun q=>dM (by decide) q) fun q=>xl q
  ·have b:=sA h i;rw[sr,gY] at b;exact .inl (dM (by decide) (nq (cK d b) e.2.1))
 generalize z*P+c=a at j;rcases j with h |h
 ·exact .inl (Int.add_pos_of_pos_of_nonneg (Bk h f) g.1)
 ·have b:a*U+x < -2*U+U:=Int.add_lt_add_of_le_of_lt (sA h (cJ f)) g.2;exact .inr (dM b (by lia))
noncomputable def NW(f:Str)(c:aD PV):aG PV:=if f="int_divmod" then i2 c fun a b=>if 0 < b then aZ ((0 < a∨a < -1)∧kf a b) (O (.tup [.int (a / b),.int (a % b)])) else aZ ((0 < -a∨ -a < -1)∧kf (-a) (-b)) (O (.tup [.int ((-a) / (-b)),.int (-((-a) % (-b)))])) else aB
noncomputable def kI:bT:={gk:=hX,call:=NW}
theorem aba(W:Wd w d mb h₀)(e:jX d h₀ T):∀f c y,kI.call f c=O y→Ct w d mb h₀ T 19 f c y:=by
 intro f c y h;refine fI h (fun h=>e2 h fun a b h=> ?_) fun h=>nn h;rcases VW h with⟨_,h⟩ |h
 ·refine mS h fun h=> ?_;have:=NU W e 1 a b (.inl V) h.1 h.2
  rwa [gY,gY,gY] at this
 ·refine mS h fun h=> ?_;have:=NU W e (-1) (-a) (-b) (.inr V) h.1 h.2
  rwa [agr,agr,sC,gY,gY,gY] at this
theorem abb(e:t=1∨t= -1)(d:0 < a∨a < -1)(c:kf a b):NW (aH "int_divmod") [.int (t*a),.int (t*b)] =O (.tup [.int (a / b),.int (t*(a % b))]):=by
 have f:=c.1;refine(aR V).trans ?_;rcases e with rfl |rfl
 ·refine M (gY ..) (M (gY ..) (M (gY ..) ?_));exact(aR f).trans (bB ⟨d,c⟩)
 ·refine M (sC ..) (M (sC ..) (M (sC ..) (M (gY ..) (M (gY ..) (M (gY ..) ?_)))));refine(aP (by lia)).trans <|M (Sw ..) (M (Sw ..) ?_)
  exact bB ⟨d,c⟩
theorem abc{c4 P c U x:Z}(a:0 < U)(b:0≤x∧x < U):(((146097*c4*P+c)*U+x) % (U*7)) / U=c % 7:=by
 refine M (LF _ _ _ a (by decide)) ?_
 have:((146097*c4*P+c)*U+x) / U=146097*c4*P+c:=by refine M (mP ..) (M (ago _ _ (fB a)) (M (RT b.1 b.2) ?_));exact sr _
 refine M this ?_
 have e:146097*c4*P+c=c+7*(20871*(c4*P)):=by refine M (lL ..) ?_;generalize c4*P=q;lia
 exact M e (M (ags ..) V)
theorem abd(c:Z):1 - 2*(c / 5 % 2)=1∨1 - 2*(c / 5 % 2)= -1:=by lia
theorem twice(h:t=1∨t= -1):t*(t*x)=x:=by rcases h with rfl |rfl<;>lia
theorem abe(y j d v w A B g m:Z)(a7:0≤y∧y≤20000)(a8:0≤j∧j≤11)(a9:1≤d∧d≤31)(a':¬(y=0∧j=1))(aa:intBits g≤1048600):
  ∃ab,bE kI KN {loc:=[O (.int y),O (.int j),O (.int d),O (.lst [.int v,.int w,.int A,.int B,.int g,.int m]),aB,aB,aB,aB,aB,aB]}=O (.ret (.int (gR y j d)),ab):=by
 obtain⟨e,ae,af,W⟩:∃e:aA,(2598+m / 10 % 64:Z)=e∧2598≤e∧e≤2661:=⟨(2598+m / 10 % 64).toNat,by lia,by lia,by lia⟩
 have H:(1000000000:Z)≤2^4010:=by have:(2:Z) ^30≤2^4010:=wa (by decide);exact cK (by decide) this
 have I:intBits ((2:Z) ^4010)≤4011:=by refine intBits_le (cJ (jj (by decide))) ?_;have e:(2:Z) ^4011=2^4010*2:=Su ..;refine M e ?_;generalize(2:Z) ^4010=q at H ⊢;lia
 have X:dC .Pow (.int 2) (.int 4010)=O (.int (2^4010)):=DZ (e:=4010) (by decide)
 have ah:dC .Pow (.int 3) (.int (e:Z))=O (.int (3^e)):=DZ (by exact M (by decide:intBits 3=2) <|aL (wS _ W) (by decide))
 have lo:=aa5 af;have p:=aa6 W;have C:intBits ((3:Z) ^e)≤4218:=intBits_le (cJ (jj (by decide))) p;have n:(0:Z) < 3^e:=jj (by decide)
 have Y:intBits ((3:Z) ^e*7)≤4221:=intBits_le (by exact cJ (Bk n (by decide))) (by have e:(2:Z) ^4221=2^4218*8:=qR _ 4218 3;exact M e <|dM (agp p (by decide)) (A7 (by decide) (cJ (uD n p))))
 have a0:4118≤intBits ((3:Z) ^e*7):=by
  rcases ou (intBits ((3:Z) ^e*7)) 4118 with h |h
  ·have o:=vC (by exact Bk n (by decide):(0:Z) < 3^e*7);have ai:(2:Z) ^intBits ((3:Z) ^e*7)≤2^4117:=wa (by exact jy h);have K:=dM o (cK ai lo);exact absurd (A7 (by decide:(1:Z)≤7) (cJ n)) (by refine M (RC ..) ?_;exact pB.mpr K)
  ·exact h
 have L:=aa9 a7 a8 a9 a';generalize(2:Z) ^4117=b4 at lo;generalize b5:(2:Z) ^4010=P at H I X;generalize b6:(3:Z) ^e=U at*;have r:0≤m / 10 % U∧m / 10 % U < U:=⟨eD _ (fB n),gJ _ n⟩;have a1:dC .Mod (.int (m / 10)) (.int U)=O (.int (m / 10 % U)):=aa4 n p (by decide);generalize b7:m / 10 % U=x at r a1;have a2:intBits (146097*g)≤18+1048600:=Bm (by decide) aa;have aj:intBits (146097*g*P)≤18+1048600+4011:=Bm a2 I;have ak:intBits (iw y j d)≤64:=AU (by exact dM (by decide) L.2.1) (by exact iV L.2.2 (by decide));have a3:intBits (146097*g*P+iw y j d)≤1052630:=aL (Ss aj ak) (by decide);have al:intBits ((146097*g*P+iw y j d)*U)≤1052630+4218:=Bm a3 C;have N:intBits ((146097*g*P+iw y j d)*U+x)≤1056849:=aL (Ss al (intBits_le r.1 (uD r.2 p))) (by decide);have am:=aa' (z:=146097*g) H L n r;have an:dC .Mult (.int (146097*g)) (.int P)=O (.int (146097*g*P)):=tN a2 I (by decide);have ao:dC .Mult (.int (146097*g*P+iw y j d)) (.int U)=O (.int ((146097*g*P+iw y j d)*U)):=tN a3 C (by decide);have ap:=abc (c4:=g) (P:=P) (c:=iw y j d) n r;generalize aq:(146097*g*P+iw y j d)*U+x=c at*;have Q:=abd m;generalize ar:1 - 2*(m / 5 % 2)=t at Q;have R:intBits t≤64:=AU (by lia) (by lia);have D:0 < U*7:=Bk n (by decide)
 have as:kf c (U*7):=⟨D,by exact aL (by decide) a0,by exact aL Y (by decide),by refine jy (Nat.div_lt_of_lt_mul (cC (l7 _ 1) ?_));exact ael (cC N (bL (by decide:1056849 < 4118*1000) (Sk 1000 a0))) _⟩
 have call:=abb Q am as;have au:dC .Mult (.int t) (.int c)=O (.int (t*c)):=tN R N (by decide)
 have av:dC .Mult (.int (t*7)) (.int U)=O (.int (t*(U*7))):=by
  have e:t*(U*7)=t*7*U:=by exact M (hA U ..) (M (lL ..) V)
  exact M e <|tN (m:=64) (AU (by lia) (by lia)) C (by decide)
 have aw:intBits (c / (U*7))≤1056850:=by refine Hx (y:=c) ?_ (aL N (by decide));exact Int.natAbs_ediv_le_natAbs ..
 have a4:0≤c % (U*7)∧c % (U*7) < U*7:=⟨eD _ (fB D),gJ _ D⟩;have ax:intBits (c % (U*7))≤4221:=Hx (y:=U*7) (cV.mp (by refine M (wT a4.1) (M (wT (cJ D)) ?_);exact cJ a4.2)) Y;have ay:dC .Mult (.int (c / (U*7)*7)) (.int U)=O (.int (c / (U*7)*7*U)):=tN (m:=1056850+3) (Bm aw (by decide)) C (by decide);have az:intBits (t*(c % (U*7)))≤64+4221:=Bm R ax
 have a5:dC .Mult (.int t) (.int (t*(c % (U*7))))=O (.int (c % (U*7))):=by have:=tN (a:=t) (b:=t*(c % (U*7))) R az (by decide);rw[twice Q] at this;exact this
 have b0:c / (U*7)*7*U+c % (U*7)=c:=(aT (· +c % (U*7)) (by exact M (lL ..) (M (hA 7 U) (M (hA ..) V)))).trans (nA c (U*7));have b1:dC .FloorDiv (.int (c % (U*7))) (.int U)=O (.int (c % (U*7) / U)):=aa3 n p (by decide)
 have F:∀{f:Sg} (k:aA) (x:Z),k < 6→[PV.int v,.int w,.int A,.int B,.int g,.int m][k]? =O (.int x)→f.loc[3]? =O (O (.lst [.int v,.int w,.int A,.int B,.int g,.int m]))→ev kI f (.sub (.nm 3) (.int k))=O (.int x):=by intro f k x b2 r K;refine hV (aT i' K) (y:= .int (k:Z)) V ((bB (by refine M cN ?_;show 6≤16777216;decide)).trans ?_);exact M (rm (b2:k < ot [_,_,_,_,_,_])) (M (xG ..) (M r V))
 have s:∀{f:Sg} {e:E} {x b:Z},ev kI f e=O (.int x)→0 < b→b < 4611686018427387904→ev kI f (.bin .FloorDiv e (.int b))=O (.int (x / b)):=fun h u o=>bM h V (yv u o);have S:∀{f:Sg} {e:E} {x b:Z},ev kI f e=O (.int x)→0 < b→b < 4611686018427387904→ev kI f (.bin .Mod e (.int b))=O (.int (x % b)):=fun h u o=>bM h V (tl u o);have G:∀{f:Sg} {e:E} {x a:Z},ev kI f e=O (.int x)→ -4611686018427387904 < a→a < 4611686018427387904→ev kI f (.bin .Mult (.int a) e)=O (.int (a*x)):=fun h u o=>bM V h (tm u o);have a6:∀{f:Sg} {e:E} {x a:Z},ev kI f e=O (.int x)→ -4611686018427387904 < a→a < 4611686018427387904→ev kI f (.bin .Mult e (.int a))=O (.int (x*a)):=fun h u o=>bM h V (vo u o);have l:∀{f:Sg} {i:aA} {x:Z},f.loc[i]? =O (O (.int x))→ev kI f (.nm i)=O (.int x):=fun h=>aT i' h
 have b3:ev kI {loc:=[O (.int y),O (.int j),O (.int d),O (.lst [.int v,.int w,.int A,.int B,.int g,.int m]),aB,aB,aB,aB,aB,aB]} (.ja (.cmp .Lt (.nm 1) (.int 2)) (.bin .Sub (.nm 0) (.int 1)) (.nm 0))=O (.int (rG y j)):=by
  refine M tn ?_;unfold rG
  by_cases h:j < 2
  ·refine M (bN (cI (x:= .int j) (y:= .int 2) V rfl (lS h)) V) (M (aR h) ?_);rfl
  ·refine M (bN (cI (x:= .int j) (y:= .int 2) V rfl (lc h)) V) (M (aP h) ?_);rfl
 have q:∀{f:Sg} {k:Z} {z:Z} {i:aA},qV [.int (c / (U*7)),.int (t*(c % (U*7)))] k=O (.int z)→f.loc[i]? =O (O (.tup [.int (c / (U*7)),.int (t*(c % (U*7)))]))→ev kI f (.sub (.nm i) (.int k))=O (.int z):=fun h p=>hV (aT i' p) (y:= .int _) V h;have T:(2:aA)≤eF:=by refine M cN ?_;decide
 refine⟨_,sg b3 V (sg (bM (bM (bM (bM (bM (bM (G (l V) (by decide) (by decide)) (s (l V) (by decide) (by decide)) iF) (s (l V) (by decide) (by decide)) my) (s (l V) (by decide) (by decide)) iF)
   (s (bM (G (S (bM (l (x:=j) V) (y:= .int 10) V iF) (by decide) (by decide)) (by decide) (by decide)) (y:= .int 2) V iF) (by decide) (by decide)) iF) (l (x:=d) V) iF) (y:= .int 1) V iF) V
  (sg (x:= .int U) (bM (x:= .int 3) V (bM (x:= .int 2598) (z:= .int e) V (S (s (F 5 m (by decide) V rfl) (by decide) (by decide)) (by decide) (by decide)) (aT (fun z=>O (PV.int z)) ae)) ah) V
  (sg (x:= .int t) (bM (x:= .int 1) V (G (S (s (F 5 m (by decide) V rfl) (by decide) (by decide)) (by decide) (by decide)) (by decide) (by decide)) (aT (fun z=>O (PV.int z)) ar)) V
  (sg (x:= .int c) (bM (bM (bM (bM (G (F 4 g (by decide) V rfl) (by decide) (by decide)) (bM (x:= .int 2) (y:= .int 4010) V rfl X) an) (l (x:=iw y j d) V) iF) (l V) ao) (bM (s (F 5 m (by decide) V rfl) (by decide) (by decide)) (l V) a1) (aT (fun z=>O (PV.int z)) aq)) V
  (sg (fO (jW (bM (l V) (l V) au) (bM (a6 (l V) (by decide) (by decide)) (l V) av)) V call) V
  (nx (eY (cI (bM (bM (a6 (q (bB T) V) (by decide) (by decide)) (l V) ay) (bM (l V) (q (bB T) V) a5) ((aT (fun z=>O (PV.int z)) b0))) (l V) (bb (wY _))) V)
  (cU (fU (bM (bM (l V) (q (bB T) V) a5) (l V) (b1.trans (aT (fun z=>O (PV.int z)) ap))) V))))))))⟩
section
theorem abf(W:Wd w b mb h₀)(k:jX b h₀ T)(y j d c e f g a i:Z)(l:0≤y∧y≤20000)(m:0≤j∧j≤11)(n:1≤d∧d≤31)(o:¬(y=0∧j=1))(p:intBits a≤1048600):Ct w b mb h₀ T 20 "_law_weekday" [.int y,.int j,.int d,.lst [.int c,.int e,.int f,.int g,.int a,.int i]] (.int (gR y j d)):=by exact xe (abe y j d c e f g a i l m n o p) fun r h=>W.fn (n:=19) (i:=34) (P:=kI) (rest:=[aB,aB,aB,aB,aB,aB]) (by decide) ⟨_,rfl⟩ V VB (fun q J J J h=>BI (fun J J J J=>rfl) q h) VA fV (aba W k) V h V
end
end
section
noncomputable def dJ:aD aA→aA→aU→aD (aA×aD aA)
 |[],i,aF=>[(i - 1,[92])]|[],_,aI=>[]|c::r,i,aF=>(i,[92,c])::dJ r (i+1) aI|c::r,i,aI=>if c=92 then dJ r (i+1) aF else(i,[c])::dJ r (i+1) aI
noncomputable def kg:aD aA→aU→aU
 |[],e=>e| _::r,aF=>kg r aI|c::r,aI=>kg r (decide (c=92))
noncomputable def gT:Tb:=[(aH "addr",aF),(aH "pos",aF),(aH "escape",aF),(aH "ch",aF)]
theorem D0:jc (aK 1).scope gT=true:=by decide+kernel
noncomputable def D1:E:= .tup (.cons (.nm 1) (.cons (.bin .Add (.str "\\") (.nm 3)) .nil))
noncomputable def D2:E:= .tup (.cons (.nm 1) (.cons (.nm 3) .nil))
noncomputable def y3G:E:= .tup (.cons (.nm 1) (.cons (.str "\\") .nil))
noncomputable def D3:E:= .cmp .Eq (.nm 3) (.str "\\")
inductive NX:Prop
 |mk (q1 z1 q2 q3 q4 z2 q5 q6 p4 p5 x1 p6 p7 p8 p9 t1 y1 lf lh a3 t2 a4 y2 yL yM vK yN yO t3 y3 yP yQ yR:_) (h1:(aK 1).body=[.Assign [.Name "pos" q1] (.Constant (.int 0) z1 q2) q3,.Assign [.Name "escape" q4] (.Constant (.bool aI) z2 q5) q6,.For (.Tuple [.Name "pos" p4,.Name "ch" p5] x1 p6) (.Call (.Name "enumerate" p7) [.Name "addr" p8] [] p9) [.If t1 [.Expr (.Yield (O y1) lf) lh,a3] [.If t2 [a4] [.Expr (.Yield (O y2) yL) yM] vK] yN] [] yO,.If t3 [.Expr (.Yield (O y3) yP) yQ] [] yR]) (h2:j8 (aK 1).scope gT (.asg 2 (.bool aI)) a3=aF) (h3:j8 (aK 1).scope gT (.asg 2 (.bool aF)) a4=aF) (h4:bC (aK 1).scope gT (.nm 2) t1=aF) (h5:bC (aK 1).scope gT D3 t2=aF) (h6:bC (aK 1).scope gT (.nm 2) t3=aF) (h7:bC (aK 1).scope gT D1 y1=aF) (h8:bC (aK 1).scope gT D2 y2=aF) (h9:bC (aK 1).scope gT y3G y3=aF):NX
theorem abg:NX:=
 ⟨_,_,_,_,_,_,_,_,_,_,_,_,_,_,_,_,_,_,_,_,_,_,_,_,_,_,_,_,_,_,_,_,_,rfl,by decide+kernel,by decide+kernel,by decide+kernel,by decide+kernel,by decide+kernel,by decide+kernel,by decide+kernel,by decide+kernel⟩
noncomputable def Sc:PV→Prop
 | .none=>r7| .bool _=>r7| .int _=>r7| .str _=>r7| _=>bO
theorem RV.sc{K:PK}(h:RV w K ma v p)(hp:Sc p):RV w K' ma' v p:=by
 cases h with
 |none=>exact .none|bool=>exact .bool|int=>exact .int|str=>exact .str|tup=>exact hp.elim|lst=>exact hp.elim|bV=>exact hp.elim|gA=>exact hp.elim
theorem bK.sc{K:PK}(r:bK w K c b):(∀x∈b,Sc x)→bK w d c b:=
 bK.ind (C:=fun c b=>(∀x∈b,Sc x)→bK w d c b) (fun J=> .nil) (fun J J J J a J ih h=> .cons (a.sc (h _ (.head _))) (ih fun x f=>h x (.tail _ f))) r
structure nX(h₀:bF)(env:gI)(e it:aW):Prop where
 scope:env.scope=(aK 1).scope
 glob:env.globals=fL
 D4:env.builtins=i8
 hC:h₀.get? env.locals=aB
 he:h₀.get? e=aB
 hi:h₀.get? it=aB
 ce:env.locals≠e
 ci:env.locals≠it
 ei:e≠it
section
variable(w:aV)(mg mb:Str→aG aJ)(h₀:bF)(env:gI)(e it:aW)
noncomputable def KG:PK:=fun b=>h₀.get? b
noncomputable def cG(os:Gm)(a:eW pA):Cx:={mg:=mg,mb:=mb,h₀:=h₀,pX:=os,fH:=KG h₀,hE:=h₀,env:=env,T:=[],io:=a}
noncomputable def GS(a:aM)(b:Sg)(s:aM):Prop:=∃m,Gd w (cG mg mb h₀ env a.os a.gens) gT (KG h₀) m aB s b
noncomputable def lq(a s:aM):Prop:=∀b o,b≠env.locals→b≠e→b≠it→a.heap.get? b=O o→s.heap.get? b=O o
noncomputable abbrev tO(s:aM):Prop:=(∃o,s.heap.get? e=O o)∧∃o,s.heap.get? it=O o
noncomputable def tP(a:Sg):Prop:=a.mu=aB∧∀p,O p∈a.loc→Sc p
inductive NY(s₀ s:aM)(v:aJ)(x:aA×aD aA):Prop
 |mk (a o its k:_) (h1:v= .ref a) (h2:s.heap.get? a=O o) (h3:o.cls= .type "tuple") (h4:o.data= .seq its k) (h5:(∀K,bK w K its.toList [.int x.1,.str (mk x.2)])) (h6:(s₀.heap.get? a=aB∨h₀.get? a=O o)∧a≠env.locals∧a≠e∧a≠it):NY s₀ s v x
noncomputable def RG:GenEnd:=fun n a r s=>r= .ok (.ret .none)∧n=0∧lq env e it a s∧iQ a.gens s.gens∧s.os=a.os
noncomputable def YG(d:aD (aA×aD aA)):Protocol:=fun n a v s f=>(∃x,d[d.length - 1 - n]? =O x∧NY w h₀ env e it a s v x)∧lq env e it a s∧tO e it s∧(∃o,s.heap.get? env.locals=O o)∧iQ a.gens s.gens∧s.os=a.os∧
 ∀c,(∀b∈[env.locals,e,it],∀o,s.heap.get? b=O o→c.heap.get? b=O o)→(∀b o,h₀.get? b=O o→c.heap.get? b=O o)→nk c.gens→f (.send .none) c
end
section
variable{e it:aW}
theorem zk{os:Gm}(d:Base mg mb h₀)(a:h₀.get? env.locals=aB)(f:s.heap.Ns env.locals m)(c:∀b o,h₀.get? b=O o→s.heap.get? b=O o)(g:iQ i s.gens)(j:s.os=os):
  Fm (cG mg mb h₀ env os i) (KG h₀) m aB s:=
 {ns:=f,keep:=c,dH:=a,low:=fun J J q=>q,le:= .refl _,cT:=fun b o J q=>c b o q,new:=fun J J q=> .inl q,cX:=a,mul:=fun J J J q=>((by contradiction)),gens:=g,os:=j,base:=d,dO:=fun J h=>((cO h).elim),eX:=fun J h=>((cO h).elim),tabs:=fun J h=>((cO h).elim)}
theorem abh{K:PK}(L:RL w K env aB gT m b)(d:∀p,O p∈b→Sc p):RL w (KG h₀) env aB gT m b:=by
 intro i x k p a c
 have f:k=true:=by
  match i,a with
  |0,a=>cases a;rfl|1,a=>cases a;rfl|2,a=>cases a;rfl|3,a=>cases a;rfl|i+4,a=>cases a
 subst f;exact aQ (L i x aF p a c) fun v g h=>⟨v,g,h.sc (d p (kq c))⟩
theorem GS.back(G:Gd w (cG mg mb h₀ env a.os a.gens) gT k h c s d)(f:tP d):GS w mg mb h₀ env a d s:=by
 (refine xa f ?_;clear f;rintro g i)
 have j:c=none:=by
  cases c with
  |none=>rfl|some p=>exact absurd G.Mi (by refine M g ?_;intro z;cases z)
 subst j;exact⟨h,zk G.F.base G.F.cX G.F.ns (fun b o q=>G.F.keep _ _ (G.F.le _ _ q)) G.F.gens G.F.os,abh G.L i,by refine M g ?_;exact .none,G.fl⟩
theorem GS.move(G:GS w mg mb h₀ env h c s)(d:∀o,s.heap.get? env.locals=O o→a.heap.get? env.locals=O o)(f:∀b o,h₀.get? b=O o→a.heap.get? b=O o)(g:nk a.gens):GS w mg mb h₀ env a c a:=by(refine xe G ?_;clear G;rintro m G);exact⟨m,zk G.F.base G.F.cX (G.F.ns.at' fun o q=>d o q) f (.refl g) V,G.L,G.Mi,G.fl⟩
structure AG(A:bX):Prop where
 hh:A.handled=aB
 hd:A.depth < 900
 hu:A.units < 9000
theorem D5(W:Wd w mg mb h₀)(X:nX h₀ env e it)(a:AG A)(os:Gm)(b:eW pA):Hyp w A (cG mg mb h₀ env os b) (aK 1).scope gT bJ 0:=
 ⟨a.hh,a.hd,a.hu,⟨X.scope,D0,X.glob,X.D4⟩,W.m0 (T:=[]) fV (fun J J J h=>by cases h) _ V rfl rfl rfl⟩
section
variable{K:j3→cR Fin}
theorem NZ(W:Wd w mg mb h₀)(X:nX h₀ env e it)(ha:AG (A.over c fs)){st:S}(ho:j8 (aK 1).scope gT st py=aF)(hex:ex bJ st σ=O (.next,σ'))(hs:tP σ')(G:GS w mg mb h₀ env s₀ σ s)
  (h:∀s',GS w mg mb h₀ env s₀ σ' s'→(∀b o,b≠env.locals→s.heap.get? b=O o→s'.heap.get? b=O o)→jk (aO pg w) A R Y n s₀ c (K .next) fs s'):
  jk (aO pg w) A R Y n s₀ c ((ji py env).wrap K H gd lv) fs s:=by
 (refine xe G ?_;clear G;rintro m G);refine Sx (wpAny_mono (yo st py _ σ σ' .next (D5 W X ha _ _) ho hex _ m aB s G) (fun f s' o=> ?_) fun J J x=>x.elim);obtain⟨K',m',mw,k1,b1,ms,rfl,G'⟩:=o;exact h s' (.back G' hs) fun b o nb q=>b1 b o q nb (by intro z;cases z) fun t ht=>(cO ht).elim
theorem abi(h:aN (aO pg w) (A.over c f) (sk t env (eval t env)) (fun b a=>jk (aO pg w) A R Y n g c ((eH (if b=aF then i else j) env).wrap K H k l) f a) (fun x a=>jk (aO pg w) A R Y n g c (H x) f a) s):
  jk (aO pg w) A R Y n g c ((ji (.If t i j m) env).wrap K H k l) f s:=by
 refine mR (jg (mR (wpAny_mono h (fun b a d=> ?_) fun J J x=>x)));cases b with
 |true=>rw[aR V] at d ⊢;exact d|false=>rw[aP cL] at d ⊢;exact d
theorem wc(W:Wd w mg mb h₀)(X:nX h₀ env e it)(j:AG (A.over c g))(k:bC (aK 1).scope gT i t=aF)(l:(ev bJ d i).bind truth=O b)(p:tP d)(G:GS w mg mb h₀ env f d s)
  (h:∀a,GS w mg mb h₀ env f d a→(∀b o,b≠env.locals→s.heap.get? b=O o→a.heap.get? b=O o)→jk (aO pg w) A R Y n f c ((eH (if b=aF then r else u) env).wrap K H v x) g a):
  jk (aO pg w) A R Y n f c ((ji (.If t r u F) env).wrap K H v x) g s:=by
 (refine xe G ?_;clear G;rintro m G);refine abi ((((cY (D5 W X j _ _) i t k).2 b l).then G.F G.L G.Mi fun I a y B C=> ?_));exact h a (.back (G.of y B) p) fun b o D q=>C b o q D (by intro z;cases z) fun t E=>(cO E).elim
theorem N0(W:Wd w mg mb h₀)(X:nX h₀ env e it)(P:AG (A.over c j))(Q:bC (aK 1).scope gT C y=aF)(R:ev bJ k C=O (.tup [.int x.1,.str (mk x.2)]))
  (S:tP k) (G:GS w mg mb h₀ env h k s) (D:lq env e it h s) (l:tO e it s) (T:f.drop (f.length - (r.length+1))=x::r)
  (U:AX j=aB) (Y:a0 aI=aI) (a1:j.any Hc=aI)
  (a2:∀(i d:aM),(∀b o,b≠env.locals→s.heap.get? b=O o→i.heap.get? b=O o)→(∀b∈[env.locals,e,it],∀o,i.heap.get? b=O o→d.heap.get? b=O o)→GS w mg mb h₀ env d k d→
   jk (aO pg w) A a3 (YG w h₀ env e it f) r.length d c (K .next) j d):
  jk (aO pg w) A a3 (YG w h₀ env e it f) (r.length+1) h c ((ji (.Expr (.Yield (O y) aq) ar) env).wrap K as a0 au) j s:=by
 (refine xe G ?_;clear G;rintro av G);have a4:=D5 W X P h.os h.gens;refine seg_Expr_Yield U Y a1 ?_ (by refine M X.scope ?_;rfl) (by unfold interactive;refine M X.scope ?_;rfl);refine((cY (a4.here (KG h₀) aB s.heap) C y Q).ev R G.here).then fun a5 aw (i:aM) a6 p E a7=> ?_
 intro ax a8;have m:∀b o,b≠env.locals→s.heap.get? b=O o→i.heap.get? b=O o:=fun b o a9 q=>E b o q a9 (by intro z;cases z) fun t a'=>(cO a').elim;have F:=G.F.back p E;(refine il a7.sG ?_;rintro a o aa ab rfl g ae af ah);have ai:f.length - 1 - r.length=f.length - (r.length+1):=(Nat.sub_sub _ _ _).trans (aT _ (iz 1 _));refine⟨⟨x,?_,a,o,aa,ab,rfl,F.keep _ _ g,ae,af,fun K=>ah.sc ?_,?_⟩,?_,⟨xe l.1 fun o q=>⟨o,m _ o X.ce.symm q⟩,xe l.2 fun o q=>⟨o,m _ o X.ci.symm q⟩⟩,eP F.ns fun o J J q J=>⟨o,q⟩,F.gens,F.os,fun d H aj ak=>a8 .none d ?_⟩
 ·refine M ai ?_;have:(f.drop (f.length - (r.length+1)))[0]? =O x:=by refine M T ?_;rfl
  rwa [AA,sb] at this
 ·intro ay u;rcases gz.mp u with rfl |u
  ·trivial
  ·refine M (fK.mp u) ?_;trivial
 ·have v:a≠env.locals:=fun q=>by have z:a5 env.locals=none:=p.dH;(replace g:=q▸g;replace g:=z▸g);cases g
  have n:=p.new a o g;rw[rg v (by intro z;cases z)] at n
  have I:a≠e:=fun y=>by
   refine xe l.1 fun al B=> ?_;rcases n with z |z
   ·replace z:=y▸z;have z:h₀.get? e=O o:=z;replace z:=X.he▸z;cases z
   ·(replace z:=y▸z;replace z:=B▸z);cases z
  have L:a≠it:=fun y=>by
   refine xe l.2 fun al B=> ?_;rcases n with z |z
   ·replace z:=y▸z;have z:h₀.get? it=O o:=z;replace z:=X.hi▸z;cases z
   ·(replace z:=y▸z;replace z:=B▸z);cases z
  refine⟨?_,v,I,L⟩;rcases n with z |z
  ·exact .inr z
  ·refine .inl ?_;cases q:h.heap.get? a with
   |none=>rfl
   |some am=>
    have:=D a am v I L q;replace this:=z▸this;cases this
 ·exact fun b o N an ao q=>m b o N (D b o N an ao q)
 ·have ap:GS w mg mb h₀ env h k i:= .back (G.of a6 F) S;exact a2 i d m H (ap.move (H _ (iK ..)) aj ak)
end
end
end
section
theorem N1{K:PK}(hh:A.handled=aB)(H:fD c sc tb)(h1:mY tb is ts=aF)
  (hT:s.heap.IsTuple T its) (r:bK w K its.toList xs) (hl:xs.length=is.length) (G:Gd w c tb K m mu s σ):
  aN (aO pg w) A (AR (.Tuple ts x1 p) c.env (.ref T)) (fun J s'=>Out w c tb K mu s.heap .next s' .next (putAll σ is xs)) (fun J J=>bO) s:=by
 refine xa (JW h1) fun l1 l2=>xa (l2 c.env) fun l2 l3=> ?_;have hsz:its.size=xs.length:=by refine aS r.length ?_;exact rfl
 refine wpAny_bind (jg (ae5 hh (items:=its) hT (Eq.symm (kN (kN hsz hl) (Eq.symm l2))) l3 fun h' hs=> ?_));have hk:∀b o,s.heap.get? b=O o→h'.get? b=O o:=fun b o e=>hs b o (fG (fA e)) e;have F2:=G.F.grow (tk:=s.toks) hk;exact JV H h1 r hl (G.of (.refl K) F2) (.refl K) (KB.of_keeps hk) .refl
noncomputable def kJ(x:Str)(p:Z)(a:aU)(b:aG PV):Sg:={loc:=[O (.str x),O (.int p),O (.bool a),b]}
theorem D6(b:∀q,c=O q→Sc q):tP (kJ x p d c):=by
 refine⟨rfl,fun q a=> ?_⟩;simp only[kJ,gz,cO,or_false] at a;rcases a with h |h |h |h
 ·cases h;trivial
 ·cases h;trivial
 ·cases h;trivial
 ·exact b q h.symm
theorem pb:tP (kJ x p a (O (.str (one c)))):=D6 fun q h=>by cases h;trivial
theorem D7{b:Type}{a r:aD b}{x:b}(h:a.drop (a.length - (r.length+1))=x::r):a.drop (a.length - r.length)=r:=by
 have c:=aT ot h;rw[iB,j2] at c;have:a.length - r.length=(a.length - (r.length+1))+1:=by lia
 refine M this (aS Hj (M h ?_));rfl
structure BG(t1 y1:Expr)(a3:bR)(t2:Expr)(a4:bR)(y2:Expr):Prop where
 h3:j8 (aK 1).scope gT (.asg 2 (.bool aI)) a3=aF
 h4:j8 (aK 1).scope gT (.asg 2 (.bool aF)) a4=aF
 N2:bC (aK 1).scope gT (.nm 2) t1=aF
 N3:bC (aK 1).scope gT D3 t2=aF
 hy1:bC (aK 1).scope gT D1 y1=aF
 hy2:bC (aK 1).scope gT D2 y2=aF
theorem N4(x:Str)(p:Z)(a:aU)(c:aA):(ev bJ (kJ x p a (O (.str (one c)))) D3).bind truth=O (decide (c=92)):=by
 show O (decide (one c=aH "\\"))=_
 congr 1
 refine M (by decide+kernel:aH "\\"=one 92) ?_
 by_cases h:c=92
 ·subst h;exact rfl
 ·(refine M (eO h) ?_;rw[eO]);intro e;apply h;have:=aT (fun z:Str=>z.cps.toList) e;simpa [one] using this
theorem abj(x:Str)(p:aA)(b:aU)(c:aA):ev bJ (kJ x p b (O (.str (one c)))) D1=O (.tup [.int p,.str (mk [92,c])]):=by
 have d:dC .Add (.str (aH "\\")) (.str (one c))=O (.str (mk [92,c])):=
  bB (by refine M cN ?_;show 2≤16777216;decide)
 refine(M d ?_:((O (PV.int p)).bind fun z=>(((dC .Add (.str (aH "\\")) (.str (one c))).bind fun q=>(O []).bind fun a=>O (q::a)).bind fun a=>O (z::a))).bind _=_);exact bB ⟨by show 2≤1000;decide,rfl⟩
theorem abk(x:Str)(p:aA)(a:aU)(c:aA):ev bJ (kJ x p a (O (.str (one c)))) D2=O (.tup [.int p,.str (mk [c])]):=bB ⟨by show 2≤1000;decide,rfl⟩
section
variable{e it:aW}
variable{K:j3→cR Fin}
theorem abl{w:aV}{N mb:Str→aG aJ}{h₀:bF}{f:gI}{A:bX}{a0:GenEnd}{t:aM}{c:Code}{F:aD Frame}{s:aM}{ah:aJ→cR Fin}{a1:aU→aU}{ai:aD aJ→aD aJ}(W:Wd w N mb h₀)(X:nX h₀ f e it)(n:AG (A.over c F)){a2 a3:Expr}{a4:bR}{a5:Expr}{a6:bR}{a7:Expr}(B:BG a2 a3 a4 a5 a6 a7){aj ak al am an ao:bG}{x:Str}{j a:aA}{C:aU}{l:aD aA}{D:aD (aA×aD aA)}
  (a8:GS w N mb h₀ f t (kJ x j C (O (.str (one a)))) s) (P:lq f e it t s) (a9:tO e it s) (Q:kg (a::l) C=aI) (p:D.drop (D.length - (dJ (a::l) j C).length)=dJ (a::l) j C)
  (a':AX F=aB) (aa:a1 aI=aI) (ab:F.any Hc=aI)
  (h:∀G R g,GS w N mb h₀ f R (kJ x j G (O (.str (one a)))) g→lq f e it R g→(∀b∈[e,it],∀o,s.heap.get? b=O o→g.heap.get? b=O o)→kg l G=aI→D.drop (D.length - (dJ l (j+1) G).length)=dJ l (j+1) G→
   jk (aO pg w) A a0 (YG w h₀ f e it D) (dJ l (j+1) G).length R c (K .next) F g):
  jk (aO pg w) A a0 (YG w h₀ f e it D) (dJ (a::l) j C).length t c ((eH [.If a2 [.Expr (.Yield (O a3) aj) ak,a4] [.If a5 [a6] [.Expr (.Yield (O a7) al) am] an] ao] f).wrap K ah a1 ai) F s:=by
 have i:∀{s g:aM},(∀b o,b≠f.locals→s.heap.get? b=O o→g.heap.get? b=O o)→∀b∈[e,it],∀o,s.heap.get? b=O o→g.heap.get? b=O o:=fun h b d o q=>by
  refine h b o (fun z=> ?_) q;rcases gz.mp d with rfl |d
  ·exact X.ce z.symm
  ·rw[fK.mp d] at z;exact X.ci z.symm
 have S:∀{s g:aM},(∀b∈[e,it],∀o,s.heap.get? b=O o→g.heap.get? b=O o)→tO e it s→tO e it g:=fun k h=>⟨xe h.1 fun o q=>⟨o,k _ (.head _) _ q⟩,xe h.2 fun o q=>⟨o,k _ (by simp) _ q⟩⟩;have u:∀{t s g:aM},lq f e it t s→(∀b o,b≠f.locals→s.heap.get? b=O o→g.heap.get? b=O o)→lq f e it t g:=fun k h b o ae ap aq q=>h b o ae (k b o ae ap aq q);have fresh:∀s,lq f e it s s:=fun s b o J J J q=>q;refine seg_execs_cons ?_;cases C with
 |true=>
  have H:dJ (a::l) j aF=(j,[92,a])::dJ l (j+1) false:=rfl;rw[H] at p ⊢;refine wc W X n (b:=aF) B.N2 V pb a8 fun ar L m=>seg_execs_cons (N0 (x:=(j,[92,a])) W X n B.hy1 (abj x j aF a) pb L (u P m) (S (i m) a9) p a' aa ab fun af T r U as=> ?_);refine seg_execs_cons (NZ (σ':=kJ x j aI (O (.str (one a)))) W X n B.h3 V pb as fun v I y=> ?_);refine pQ (pQ (h aI T v I (u (fresh T) y) (fun b d o q=>i y b d o (U b (hU _ d) o (i r b d o (i m b d o q)))) Q (D7 p)))
 |false=>
  refine wc W X n (b:=aI) B.N2 V pb a8 fun ar L m=>seg_execs_cons ?_
  by_cases E:a=92
  ·have H:dJ (a::l) j aI=dJ l (j+1) true:=aR E;rw[H] at p ⊢;refine wc W X n (b:=aF) B.N3 (M (N4 ..) (M (fM E) V)) pb L fun af Y r=>seg_execs_cons (NZ (σ':=kJ x j aF (O (.str (one a)))) W X n B.h4 V pb Y fun v I y=> ?_);exact pQ (pQ (pQ (h aF t v I (u (u (u P m) r) y) (fun b d o q=>i y b d o (i r b d o (i m b d o q))) (fM E▸(Q:kg l (decide (a=92))=aI)) p)))
  ·have H:dJ (a::l) j aI=(j,[a])::dJ l (j+1) false:=aP E;rw[H] at p ⊢;refine wc W X n (b:=aI) B.N3 (M (N4 ..) (M (eO E) V)) pb L fun af Y r=>seg_execs_cons (N0 (x:=(j,[a])) W X n B.hy2 (abk x j aI a) pb Y (u (u P m) r) (S (i r) (S (i m) a9)) p a' aa ab fun T v U y I=> ?_);exact pQ (pQ (pQ (h aI v v I (fresh v) (fun b d o q=>y b (hU _ d) o (i U b d o (i r b d o (i m b d o q)))) (eO E▸(by exact Q:kg l (decide (a=92))=aI)) (D7 p))))
end
end
section
theorem abm(b:A.handled=aB)(a:aW)(x:Str)(t:gX):Draws pg w A a [a] x.cps.size (fun i v=>∃c u,x.cps[i]? =O c∧v= .str ⟨#[c]⟩ u) (fun i h=>h.IsStrIter a (Hz x) x t i):=by
 unfold Hz
 split
 ·exact Draws.strAscii b a x t
 ·exact Draws.strWide b a x t
noncomputable def StE(e a:aW)(x:Str)(t:gX)(i:aA)(h:bF):Prop:=(∃b,IsEnum h e a i b)∧h.IsStrIter a (Hz x) x t i
section
variable{e it:aW}
theorem N5(d:lq f e it g s)(k:∀b o,b∉[e,it]→s.heap.get? b=O o→s'.heap.get? b=O o):lq f e it g s':=by intro b o h a c q;exact k b o (by simp[a,c]) (d b o h a c q)
theorem GS.keep(X:nX h₀ a e it)(G:GS w f mb h₀ a g h s)(d:∀b o,b∉[e,it]→s.heap.get? b=O o→i.get? b=O o):GS w f mb h₀ a g h {s with heap:=i,toks:=tk}:=by
 (refine xe (G) ?_;try clear G;rintro m G);refine⟨m,zk G.F.base X.hC (G.F.ns.at' fun o q=>d _ o (by show a.locals∉_;simp[X.ce,X.ci]) q) (fun b o q=>d b o ?_ (G.F.keep b o q)) G.F.gens G.F.os,G.L,G.Mi,G.fl⟩;intro c;rcases gz.mp c with rfl |c
 ·replace q:=X.he▸q;cases q
 ·(replace q:=(fK.mp c)▸q;replace q:=X.hi▸q);cases q
theorem abn(af:Wd w L mb h₀)(X:nX h₀ a e it)(B:BG ah ai aj ak al am)(N:f=[.If ah [.Expr (.Yield (O ai) bl) bm,aj] [.If ak [al] [.Expr (.Yield (O am) bn) bo] bp] bq])
  (P:AG (A.over (.forLoop (.Tuple [.Name "pos" h,.Name "ch" i] l m) (.ref e) f [] a) g)) (an:AX g=aB) (ao:g.any Hc=aI) (x:Str) (t:gX) (H:aD (aA×aD aA))
  (ap:∀aq a1 y r,(∀q,a1=O q→Sc q)→GS w L mb h₀ a y (kJ x aq aI a1) r→lq a e it y r→jk (aO pg w) A ar (YG w h₀ a e it H) 0 y (.block [] a) (leafOf (.ok .next)) g r):
  ∀(k j:aA) (d:aU) (p:Z) (C:aG PV) (c s:aM),x.cps.size - j=k→j≤x.cps.size→(∀q,C=O q→Sc q)→kg (x.cps.toList.drop j) d=aI→GS w L mb h₀ a c (kJ x p d C) s→lq a e it c s→StE e it x t j s.heap→
   H.drop (H.length - (dJ (x.cps.toList.drop j) j d).length)=dJ (x.cps.toList.drop j) j d→
   jk (aO pg w) A ar (YG w h₀ a e it H) (dJ (x.cps.toList.drop j) j d).length c (.forLoop (.Tuple [.Name "pos" h,.Name "ch" i] l m) (.ref e) f [] a)
    ((aO pg w).den (.forLoop (.Tuple [.Name "pos" h,.Name "ch" i] l m) (.ref e) f [] a)) g s:=by
 have D:=WalksT.enumerateD (abm (w:=w) (A:=(A.over (.forLoop (.Tuple [.Name "pos" h,.Name "ch" i] l m) (.ref e) f [] a) g).in1) P.hh it x t) e X.ei (by simpa using X.ei) (fK.mpr V);intro k
 induction k with
 |zero=>
  intro j d p C c s a2 Q a3 E G R S I;have Q:j=x.cps.size:=by omega
  subst Q;have U:x.cps.toList.drop x.cps.size=[] :=AS (by assumption);rw[U] at I E ⊢;cases d with
  |true=>cases E|false=>
  refine(M (agt ..) ?_:jk _ A _ _ _ c _ ((HA (.Tuple [.Name "pos" h,.Name "ch" i] l m) (.ref e) f [] a).onRaise _) g s);unfold HA;refine mR (jg ?_);refine mR (Gg (D.done s _ _ S fun as tk a4=> ?_));refine seg_again V <|seg_bind (Gg (wpAny_execs_nil ?_))
  exact ap p C c _ a3 (G.keep X a4) (N5 (s':={s with heap:=as,toks:=tk}) R a4)
 |succ k ih=>
  intro j d p C c s a2 Q a3 E G R S I;have W:j < x.cps.size:=by omega
  refine(M (agt ..) ?_:jk _ A _ _ _ c _ ((HA (.Tuple [.Name "pos" h,.Name "ch" i] l m) (.ref e) f [] a).onRaise _) g s);unfold HA;refine mR (jg ?_);refine mR (Gg (D.item j s _ _ W S fun T br bs a5 a6 bt a7 a8 au=> ?_));(refine iN (a6) ?_;try clear a6;rintro av bu ⟨K,aw,ax,rfl⟩ rfl)
  have U:x.cps.toList.drop j=K::x.cps.toList.drop (j+1):=by
   refine M (As (by simpa using W)) ?_
   congr 1
   have:=(agu.mp ax).2;simpa using this
  rw[U] at I E ⊢
  have a9:T≠e∧T≠it:=by have:=D.apart _ _ _ a8;simpa using this
  refine mR (D.go _ _ _ j T _ _ _ a8 fun u Y a'=> ?_);have aa:∀b o,b∉[e,it]→s.heap.get? b=O o→u.get? b=O o:=fun b o n q=>a' b o n (au b o n q);have ay:=N5 (s':={s with heap:=u,toks:=a5}) R aa;refine xe (G.keep (tk:=a5) X aa) fun bv az=> ?_
  have b0:u.IsTuple T #[.int j av,.str ⟨#[K]⟩ aw] :=by(refine aQ (a7) ?_;try clear a7;rintro o q b1);exact⟨o,a' T o (by simp[a9.1,a9.2]) q,b1⟩
  have b2:mY gT [1,3] [.Name "pos" h,.Name "ch" i] =true:=by kernel_rfl
  have b3:=N1 (x1:=l) (p:=m) (is:=[1,3]) (xs:=[.int j,.str (one K)]) P.hh ⟨X.scope,D0,X.glob,X.D4⟩ b2 b0 (.cons .int (.cons .str .nil)) V az;refine mR (wpAny_mono b3 (fun J F o=> ?_) fun J J q=>q.elim);obtain⟨bw,bx,bz,c0,b4,c1,_,b5⟩:=o;have ab:∀b o,b≠a.locals→u.get? b=O o→F.heap.get? b=O o:=fun b o b6 q=>b4 b o q b6 (by intro z;cases z) fun t b7=>(cO b7).elim;have b8:GS w L mb h₀ a c (kJ x j d (O (.str (one K)))) F:= .back b5 pb;have b9:lq a e it c F:=fun b o ae b' ba q=>ab b o ae (ay b o ae b' ba q)
  have a0:∀b∈[e,it],∀o,u.get? b=O o→F.heap.get? b=O o:=fun b v o q=>by
   refine ab b o (fun z=> ?_) q;rcases gz.mp v with rfl |v
   ·exact X.ce z.symm
   ·rw[fK.mp v] at z;exact X.ci z.symm
  have bc:tO e it F:=⟨xe Y.1 fun J q=>⟨_,a0 e (.head _) _ q⟩,aQ Y.2 fun o q J=>⟨o,a0 it (by simp) _ q⟩⟩;refine(M (Sem.bind_eq_wrap' ..) (M (Sem.wrap_wrap ..) (M N ?_)):jk _ _ _ _ _ _ _ ((eH f a >>=_).wrap _ _ _ _) _ _);refine abl af X (N▸P) B b8 b9 bc E I an V ao fun bd y r be bf bg bh bi=>aS N <|seg_again V (ih (j+1) bd j _ y r (S0 a2) (nz W) (fun q bj=>by cases bj;trivial) bh be bf ?_ bi)
  have bk:=D.frame (j+1) u r.heap Y fun b v o q=>bg b (by simpa using v) o (a0 b (by simpa using v) o q);exact bk
end
end
section
section
variable{K:j3→cR Fin}
theorem abo{iter:Expr}(q:∀x,HB iter a x=pure x)
  (h:aN (aO pg w) (A.over c b) (eval iter a) (fun v i=>aN (aO pg w) (A.over c b) (Bf v) (fun I j=>∀p,jk (aO pg w) A R Y n d (.forLoop k I l [] a) ((aO pg w).den (.forLoop k I l [] a))
   (.ret (fun r=>((match r with | .ok f=>(.pure f:cR j3) | .error e=> .raise e).onRaise fun(x:aJ)=>do
    if(←field x 1)==Value.none then unsupported "frame.own-activation:exception-without-traceback"
    setFlight x a.frame).wrap K H m o) aB (m aI) (o []) c p [] ::b) j) (fun x g=>jk (aO pg w) A R Y n d c (H x) b g) i) (fun x g=>jk (aO pg w) A R Y n d c (H x) b g) s):
  jk (aO pg w) A R Y n d c ((ji (.For k iter l [] y) a).wrap K H m o) b s:=by
 refine mR (jg (mR (wpAny_mono h (fun v i t=> ?_) fun J J x=>x)));refine mR (mQ (q v) (mR (jg (mR (ii (wpAny_mono t (fun I j u=> ?_) fun J J x=>x))))));exact seg_call u
end
section
variable{e it:aW}
theorem abp(W:Wd w g mb h₀)(X:nX h₀ a e it)(I:it=s.heap.objs.size)(L:e=s.heap.objs.size+1)(N:(aK 1).body=i)
  (G:Gd w (cG g mb h₀ a s.os s.gens) gT (KG h₀) m aB s {loc:=[O (.str x),aB,aB,aB]}) (P:m "addr"=O (.str x t)) (Q:kg x.cps.toList aI=aI)
  (u:A.handled=aB) (v:A.depth+10 < 900) (y:A.units+30 < 9000):
  jk (aO pg w) A (RG a e it) (YG w h₀ a e it (dJ x.cps.toList 0 aI)) (dJ x.cps.toList 0 aI).length s (.func i a) ((aO pg w).den (.func i a)) [] s:=by
 obtain⟨ap,aq,ar,as,au,av,aw,ax,ay,az,b0,b1,b2,b3,b4,R,S,b5,b6,T,U,Y,a0,b7,b8,b9,b',ba,bc,bd,be,bf,bg,z,a1,a2,a3,a4,a5,a6,a7,bh⟩:=abg;rw[N] at z;have a8:AG (A.over (.func i a) []):=⟨u,by show A.depth+0+1 < 900;exact bL (mf (by decide) _) (fE v),by show A.units+0+3 < 9000;exact bL (mf (by decide) _) (fE y)⟩;have H:fD (cG g mb h₀ a s.os s.gens) (aK 1).scope gT:=⟨X.scope,D0,X.glob,X.D4⟩;have B:BG R S T U Y a0:=⟨a1,a2,a3,a4,a6,a7⟩;refine seg_func ?_;have a9:eH i a=eH _ a:=aT (eH · a) z;refine M a9 <|seg_execs_cons (Sx (iX (pG (uw (name_kind (i:=1) H (by rfl)) G.F.ns (fun bi a' p=> ?_) (va H))) V))
 obtain⟨c,bj⟩:=G.put (tk:=s.toks+1+1) (p:= .int 0) H (i:=1) (by rfl) .int a' p;refine seg_execs_cons (Sx (iX (wpAny_Constant_bool (uw (name_kind (i:=2) H (by rfl)) c.F.ns (fun d aa r=> ?_) (va H))) V));obtain⟨f,bk⟩:=c.put (tk:=s.toks+1+1+1) (p:= .bool aI) H (i:=2) (by rfl) .bool aa r;have C:d.objs.size=s.heap.objs.size:=r.1.trans p.1;have ab:∀b o,b≠a.locals→s.heap.get? b=O o→d.get? b=O o:=fun b o n q=>(r.2 b n).trans ((p.2 b n).trans q);have ae:∀af∈(["int","set","iter","next","sorted","enumerate","print","ZeroDivisionError"] :aD eA),(cG g mb h₀ a s.os s.gens).mg (aH af)=none:=W.CT
 refine seg_execs_cons (abo (fun J=>rfl) (wpAny_Call_NameR (ru ae (f:="enumerate") (v:= .type "enumerate") H f.F (by decide) V (by decide+kernel) (by decide+kernel) (by decide+kernel)
  (M1 V (nc (v:= .str x t) H f.F (mz H (by decide+kernel)) (by show(if _ then _ else if _ then _ else _)=_;refine M (aP (by decide+kernel)) (M (aP (by decide+kernel)) ?_);exact P) (by decide) (call_enumerate_str fun j h k bl D=> ?_))))))
 refine wpAny_pyIter_enum h fun bm=> ?_;have E:d.objs.size+1=e:=by refine M C ?_;exact L.symm
 have F:d.objs.size=it:=by refine M C ?_;exact I.symm
 replace h:IsEnum j (d.objs.size+1) d.objs.size 0 .none:=h;replace k:j.IsStrIter d.objs.size (Hz x) x t 0:=k;rw[F] at k;rw[E,F] at h;refine M E ?_;have ah:lq a e it s {s with heap:=j,toks:=s.toks+1+1+1}:=fun b o l J J q=>D b o (ab b o l q)
 have ai:GS w g mb h₀ a s (kJ x 0 aI aB) {s with heap:=j,toks:=s.toks+1+1+1}:=
  GS.back (⟨f.F.grow D,f.L,f.Mi,f.fl⟩:Gd w (cG g mb h₀ a s.os s.gens) gT (KG h₀) _ aB _ (kJ x 0 aI aB)) (D6 fun J q=>(by contradiction))
 refine abn W X B V (by exact⟨u,by show A.depth+1+0 < 900;exact ko (pO (bL v (by decide))),by show A.units+3+0 < 9000;exact ko (bL (mf (by decide) _) (jy y))⟩) (by rfl) (by rfl) x t _ (fun bn bo bp bq aj ak al=> ?_) x.cps.size 0 aI 0 aB s _ (by exact rfl) (by exact jR _) (fun J q=>(by contradiction)) Q ai ah ⟨⟨_,h⟩,k⟩ (by simp);refine seg_leaf (.ok .next) <|seg_execs_cons (wc W X a8 (b:=aI) a5 V (D6 aj) ak fun br c am=> ?_)
 refine pQ (pQ (seg_end (.ok (.ret .none)) ?_));obtain⟨bs,c⟩:=c;exact⟨rfl,rfl,fun b o l an ao q=>am b o l (al b o l an ao q),c.F.gens,c.F.os⟩
end
end
section
open Sem (wp)
section
variable{E:aJ→aM→Prop}
theorem abq(p:A.handled=aB)(q:s.heap.NoLimit)(t:A.depth < agv)(e:s.heap.IsGen a g)(i:s.gens[g]? =O j)
  (u:∀n y r c,R n y r c→r= .ok (.ret .none)) (f:j.Goes (aO pg w) A.in1 R Y n (.send .none) (s.setGen g .running))
  (z:∀v c d,d.bare=aF→Y (n - 1) (s.setGen g .running) v c (fun B C=>match n with
    |0=>bO|m+1=>d.Goes (aO pg w) A.in1 R Y m B C)→Q (O v) (c.setGen g d))
  (D:∀r c,R n (s.setGen g .running) r c→∀k,(∀b o,c.heap.get? b=O o→k.get? b=O o)→Q aB {c.setGen g .finished with heap:=k}):
  aN (aO pg w) A (xE (.ref a)) Q E s:=by
 unfold xE;refine wpAny_bind (R6 (Hs (name:=aH "__next__") e.typeIs agw (sz agw e.typeIs entry_gen_next ?_ (args_gen_next _))));refine(wpAny_bind (ii (wpAny_genNumber e (wpAny_bind (wpAny_genState i ?_)))):aN _ A.in1 (ahG (.ref a) (.send .none)) _ _ s);cases j with
 |running=>exact f.elim|finished=>exact f.elim
 | _=>
  refine wpAny_bind (wpAny_roomToWake q t ?_);refine wpAny_resumeQ i f (fun x c l=> ?_) (fun v c d h F=>wpAny_pure ⟨v,rfl,wpAny_pure (z v c d h F)⟩);obtain rfl:=u _ _ _ _ l;refine(wpAny_bind ?_:aN _ A.in1 (newExc (.type "StopIteration") [] >>=_) _ _ _);refine wpAny_bind (nr ?_ (by size_fits));refine wpAny_bind (m:=Ht _ _) (mQ (a:=Value.none) (by first |rfl |(simp only[Ht];rfl)) ?_);refine nr ?_ (by size_fits);refine wpAny_bind (wpAny_bind (afR ?_));refine M (p:A.in1.handled=aB) <|wpAny_throw (wpAny_bind (At (T:="StopIteration") (b:=aF) ⟨_,fP _ V,rfl⟩ afS ?_))
  exact wpAny_pure (D _ c l _ fun b o h=>eV _ (eV _ h))
theorem abr(b:s.heap.IsGen a g)(c:Q () s):aN (aO pg w) A (letOwnedTupleGo (.Tuple k l m) (.ref a) (.ref T)) Q E s:=by
 (refine nF b ?_;clear b;rintro o d e f i j _);refine wpAny_bind (wpAny_load f ?_);rw[i,j];show aN _ A (if(["enumerate","zip","dict_itemiterator","dict_reverseitemiterator","odict_iterator","itertools.zip_longest","itertools.pairwise"].contains "generator" && (#[.int g 0,d,e] :eW aJ)[0]? ==O (lK T))=aF then _ else _) Q E s
 rw[aP (by intro h;rw[show(["enumerate","zip","dict_itemiterator","dict_reverseitemiterator","odict_iterator","itertools.zip_longest","itertools.pairwise"].contains "generator")=aI from by decide,agx] at h;cases h)]
 exact wpAny_pure c
end
structure dQ(c:Cx)(K:PK)(mu:Mu)(b:aW):Prop where
 un:K b=aB
 nl:b≠c.env.locals
 nm:mu.ad≠O b
 nE:c.hE.get? b=aB
section
variable{K:PK}
theorem Fm.others{S:aD aW}(F:Fm c K m j s)(f:∀b∈S,dQ c K j b)(d:∀b o,b∉S→s.heap.get? b=O o→s'.heap.get? b=O o)(p:iQ c.io s'.gens)(r:s'.os=s.os):Fm c K m j s':=by
 refine{ns:= ?_,keep:=fun b o e=>d b o (fun h=> ?_) (F.keep b o e),dH:=F.dH,low:=F.low,le:=F.le,cT:=fun b o n e=>d b o (fun h=> ?_) (F.cT b o n e),new:=F.new,cX:=F.cX,mul:=fun a u v e=> ?_,gens:=p,os:=r.trans F.os,base:=F.base,dO:=F.dO,eX:=F.eX,tabs:=fun t k=>(F.tabs t k).mono (fun J J e=>e) fun o e=>d _ _ (fun h=>F.off (f _ h).nE t k V) e}
 ·exact eP F.ns fun o w x g i=>⟨o,w,x,d _ _ (fun h=>(f _ h).nl V) g,i⟩
 ·replace e:=((f _ h).un)▸e;cases e
 ·replace e:=((f _ h).nE)▸e;cases e
 ·(refine dW (F.mul a u v e) ?_;rintro⟨g,y⟩ i z A);have l:a∉S:=fun q=>(f _ q).nm (by refine M e ?_;rfl);exact⟨⟨(aQ g fun o B C=>⟨o,d _ _ l B,C⟩),fun q=>(y q).at fun J=>d _ _ l⟩,i,z,A⟩
theorem Gd.D8(G:Gd w c a K m b s d):Gd w {c with io:=s.gens} a K m b s d:=
 ⟨{ns:=G.F.ns,keep:=G.F.keep,dH:=G.F.dH,low:=G.F.low,le:=G.F.le,cT:=G.F.cT,new:=G.F.new,cX:=G.F.cX,mul:=G.F.mul,gens:= .refl G.F.gens.bare,os:=G.F.os,base:=G.F.base,dO:=G.F.dO,eX:=G.F.eX,tabs:=G.F.tabs},G.L,G.Mi,G.fl⟩
theorem Fm.abt(h:iQ c.io g)(F:Fm {c with io:=g} K m a s):Fm c K m a s:=
 {ns:=F.ns,keep:=F.keep,dH:=F.dH,low:=F.low,le:=F.le,cT:=F.cT,new:=F.new,cX:=F.cX,mul:=F.mul,gens:=h.trans F.gens,os:=F.os,base:=F.base,dO:=F.dO,eX:=F.eX,tabs:=F.tabs}
theorem Hyp.D8(Y:Hyp w A c a b P n):Hyp w A {c with io:=g} a b P n:=
 ⟨Y.hh,Y.hd,Y.hu,⟨Y.H.scope,Y.H.sR,Y.H.globals,Y.H.builtins⟩,⟨Y.S.gk,Y.S.call,Y.S.bi⟩⟩
theorem dQ.run{c:Cx}{a:Mu}{s:aM}{f:PK}{j:Str→aG aJ}{h:Mu}{k:aM}{b:aW}{g:eW pA}(x:dQ c K a b)(d:∃o,s.heap.get? b=O o)(l:Fm {c.here K a s.heap with io:=g} f j h k)(m:hH a h s.heap):dQ c f h b:=by
 (refine xe d ?_;clear d;rintro o d);refine⟨?_,x.nl,fun z=> ?_,x.nE⟩
 ·cases e:f b with
  |none=>rfl
  |some i=>
   rcases l.new b i e with z |z
   ·exact absurd (show K b=O i from z) (by refine M x.un ?_;intro q;cases q)
   ·(replace z:=(show({c.here K a s.heap with io:=g}:Cx).hE.get? b=(c.here K a s.heap).hE.get? b from rfl)▸z;replace z:=(rg x.nl x.nm)▸z;replace z:=d▸z);cases z
 ·rcases m b z with q |q
  ·exact x.nm q
  ·replace q:=d▸q;cases q
end
end
section
open Sem (wp)
noncomputable def rH(b:Sg→aG (Fl×Sg))(i j:aA):aD (aA×aD aA)→Sg→aG Sg
 |[],a=>O a|x::r,a=>(b (putAll a [i,j] [.int x.1,.str (mk x.2)])).bind fun p=>Fl.rec (motive:=fun J=>aG Sg) (rH b i j r p.2) aB (fun J=>aB) p.1
theorem D9{s:aM}{g k:aA}{x:pA}(h:k≠g):(s.setGen g x).gens[k]? =s.gens[k]? :=by simp[Sy,Ne.symm h]
theorem D'{s:aM}{g:aA}{x:pA}(h:nk s.gens)(b:x.bare=aF):nk (s.setGen g x).gens:=by
 intro y c;obtain⟨k,a,rfl⟩:=Array.getElem_of_mem c;have e:(s.setGen g x).gens[k]? =O _:=Aw a
 by_cases q:k=g
 ·subst q;have:k < s.gens.size:=by simpa [Sy] using a
  have d:(s.setGen k x).gens[k]? =O x:=by simp[Sy,this]
  rw[d] at e;refine aS (cA e) ?_;exact b
 ·rw[D9 q] at e;exact h _ (Sz e)
section
variable{K:PK}
structure zm(w:aV)(A:bX)(c:Cx)(env:gI)(e it a:aW)(g:aA)(out:aD (aA×aD aA))(k:aA)(K:PK)(mu:Mu)(s:aM):Prop where
 gen:s.heap.IsGen a g
 go:∃gs,s.gens[g]? =O gs∧gs.Goes (aO pg w) A.in1 (RG env e it) (YG w c.h₀ env e it out) k (.send .none) (s.setGen g .running)
 oC:dQ c K mu env.locals
 oe:dQ c K mu e
 oi:dQ c K mu it
 oa:dQ c K mu a
 lC:∃o,s.heap.get? env.locals=O o
 g0:c.io[g]? =aB
theorem zm.gens{w:aV}{A:bX}{c:Cx}{m:Str→aG aJ}{b:Mu}{s:aM}{i:gI}{e j a:aW}{g:aA}{l:aD (aA×aD aA)}{k:aA}(X:zm w A c i e j a g l k K b s)(F:Fm c K m b s){d:aM}{x:pA}(h:iQ (s.setGen g .running).gens d.gens)(n:x.bare=aF):iQ c.io (d.setGen g x).gens:=by
 refine⟨D' h.bare n,fun k y q=> ?_⟩;have f:k≠g:=fun z=>by(replace q:=z▸q;replace q:=X.g0▸q);cases q
 exact M (D9 f) <|h.old k y (by refine M (D9 f) ?_;exact F.gens.old k y q)
inductive N6(w:aV)(A:bX)(c:Cx)(tb:Tb)(env:gI)(e it a:aW)(g:aA)(out:aD (aA×aD aA))(fH:PK)(j9:Mu)(hs:bF)(P:bT)(b:B)(i j:aA)(σ':Sg)(k:aA)(s:aM):Prop
 |mk (r:aD (aA×aD aA)) (K:PK) (m:Str→aG aJ) (mu:Mu) (σ:Sg) (e1:r.length=k) (h1:out.drop (out.length - r.length)=r) (h2:r.length≤out.length) (G:Gd w c tb K m mu s σ) (X:zm w A c env e it a g out r.length K mu s) (k0:PK.le fH K) (b0:KB c j9 hs s.heap) (ms:hH j9 mu hs) (hx:rH (bE P b) i j r σ=O σ'):
   N6 w A c tb env e it a g out fH j9 hs P b i j σ' k s
set_option tactic.hygienic true in
theorem abu(Y:Hyp w A c sc tb P n){it:aW}(XE:nX c.h₀ env e it)(hae:a≠e)(hai:a≠it)(hac:a≠env.locals)
  (ho:mY tb [i,j] ts=aF) (hb:dX sc tb b body=aF):
  (∀q∈[env.locals,e,it],hs.get? q=aB)→∀(r:aD (aA×aD aA)) (K:PK) (m:Str→aG aJ) (mu:Mu) (s:aM) (σ:Sg),out.drop (out.length - r.length)=r→r.length≤out.length→Gd w c tb K m mu s σ→zm w A c env e it a g out r.length K mu s→PK.le fH K→KB c j9 hs s.heap→hH j9 mu hs→rH (bE P b) i j r σ=O σ'→
   pI (aO pg w) A (.forLoop (.Tuple ts x1 p) (.ref a) body [] c.env) (fun r s'=>match r with | .ok f=>Out w c tb fH j9 hs f s' .next σ' | .error _=>bO) s:=by
 have tF:A.depth < agv:=by have:=Y.hd;exact(cC (hO _ _) (bL this (by decide)):A.depth < 1000)
 intro Ea r K m mu s σ hr we G X k0 b0 ms hx;refine codeAny_forLoop_any (I:=N6 w A c tb env e it a g out fH j9 hs P b i j σ') ?_ r.length ⟨r,K,m,mu,σ,rfl,hr,we,G,X,k0,b0,ms,hx⟩;clear hx ms b0 k0 X G we hr r K m mu s σ;rintro k s ⟨r,K,m,mu,σ,rfl,hr,we,G,X,k0,b0,ms,hx⟩;refine aQ X.go fun gs N7 hgo=> ?_
 have hS:∀q∈[env.locals,e,it],dQ c K mu q:=by
  intro q hq;rcases gz.mp hq with rfl |hq
  ·exact X.oC
  rcases gz.mp hq with rfl |hq
  ·exact X.oe
  ·refine M (fK.mp hq) ?_;exact X.oi
 refine abq Y.hh G.F.heap.nolimit tF X.gen N7 (fun J J J J q=>q.1) hgo (fun v kc wf abv hv=> ?_) (fun r' kc hR h' kY=> ?_)
 ·(refine uQ hv ?_;clear hv;rintro⟨x,Eb,T,oT,abw,kT,rfl,N8,hT2,hT3,hT4,hT5,hTc,hTe,hTi⟩ zn N9 Oa ro Ec Ob);cases r with
  |nil=>exact(Ob kc (fun J J J q=>q) (fun q o z=>zn q o (fun y=>by rw[y,XE.hC] at z;cases z) (fun y=>by rw[y,XE.he] at z;cases z) (fun y=>by rw[y,XE.hi] at z;cases z) (G.F.keep _ _ (G.F.le _ _ (G.F.low _ _ z)))) ro.bare).elim
  |cons y r=>
   have hxy:x=y:=by
    have h1:(out.drop (out.length - (r.length+1)))[0]? =O y:=by have:=aT (·[0]?) hr;simpa using this
    rw[AA,sb] at h1;rw[j2] at Eb;rw[show out.length - 1 - (r.length+1 - 1)=out.length - (r.length+1) by lia,h1] at Eb;exact(cA Eb).symm
   subst hxy
   let sY:aM:=kc.setGen g wf
   have rI:∀q o,q∉[env.locals,e,it]→s.heap.get? q=O o→sY.heap.get? q=O o:=fun q o hq z=>by simp only[gz,cO,or_false,G0] at hq;exact zn q o hq.1 hq.2.1 hq.2.2 z
   have FY:Fm c K m mu sY:=G.F.others hS rI (X.gens G.F ro abv) Ec;have Ed:K T=O oT∨s.heap.get? T=none:=hT5.elim .inr fun q1=> .inl (G.F.le _ _ (G.F.low _ _ q1))
   have hle:PK.le K (K.put T oT):=fun q o z=>by
    by_cases hq:q=T
    ·rw[hq] at z ⊢;rcases Ed with q1 |q1
     ·exact PK.jo.trans (q1.symm.trans z)
     ·have h1:=G.F.keep _ _ z;rw[q1] at h1;exact nn h1
    ·exact(aP hq).trans z
   have F1:Fm c (K.put T oT) m mu sY:=by
    refine FY.Iu hle (fun q o z=> ?_) fun q o z=> ?_
    ·rcases PK.pZ z with⟨h1,h2⟩ |z
     ·refine M h1 (aS h2 ?_);exact N8
     ·exact FY.keep _ _ z
    ·rcases PK.pZ z with⟨h1,h2⟩ |z
     ·refine M h1 (aS h2 ?_);exact Ed.imp id G.F.absent
     ·exact .inl z
   have G1:Gd w c tb (K.put T oT) m mu sY σ:=G.of hle F1;have Y':Hyp w A {c.here (K.put T oT) mu sY.heap with io:=sY.gens} sc tb P n:=(Y.here _ _ _).D8
   have zo:sY.heap.IsGen a g:=by exact eP X.gen fun o nm qn h1 r=>⟨o,nm,qn,rI a o (by simp[hac,hae,hai]) h1,r⟩
   refine wpAny_mono (Q:=fun J s'=>s'=sY) (abr zo V) (fun J s2 h2=> ?_) fun J J q=>q;subst h2;have Cu:=N1 (s:=sY) (x1:=x1) (p:=p) Y'.hh Y'.H ho (T:=T) (its:=abw) ⟨oT,N8,hT2,kT,hT3⟩ (hT4 _) V G1.here.D8;refine wpAny_mono Cu (fun J s3 o3=> ?_) fun J J q=>q.elim;obtain⟨K3,m3,mu3,k3,b3,ms3,_,G3⟩:=o3;(refine aQ (dP hx) ?_;rintro⟨fl,σ4⟩ kC hx);cases fl with
   |next=>
    refine wpAny_mono (nM b body _ _ _ _ Y' hb kC K3 m3 mu3 s3 G3) (fun f s4 o4=> ?_) fun J J q=>q.elim;obtain⟨K4,m4,lP,k4,b4,jH,rfl,G4⟩:=Out.after k3 b3 ms3 o4;have b4:KB c mu sY.heap s4.heap:=b4;have F4:Fm c K4 m4 lP s4:=G1.F.back (G4.F.abt FY.gens) b4;have abx:kc.gens[g]? =O .running:=ro.old g .running (setGen_self N7);have aby:sY.gens[g]? =O wf:=setGen_self abx;have abz:s4.gens[g]? =O wf:=G4.F.gens.old g wf aby
    have zp:∀q,q≠T→dQ c K mu q→dQ c (K.put T oT) mu q:=fun q hq o=>⟨by unfold PK.put;refine M (aP hq) ?_;exact o.un,o.nl,o.nm,o.nE⟩
    have hTa:a≠T:=fun q=>by
     subst q;rcases Ed with q1 |q1
     ·rw[X.oa.un] at q1;cases q1
     ·refine eP X.gen fun o nm qn h1 r=> ?_;rw[q1] at h1;cases h1
    have up:∀q,dQ c K mu q→∀o,sY.heap.get? q=O o→s4.heap.get? q=O o:=fun q oq o z=>b4 q o z oq.nl oq.nm (FY.off oq.nE);have aC:∃o,sY.heap.get? env.locals=O o:=Oa;obtain⟨oC,zC⟩:=Oa;have ha:∃o,sY.heap.get? a=O o:=eP zo fun o J J z J=>⟨o,z⟩;refine⟨r.length,by simp,r,K4,m4,lP,σ4,rfl,D7 hr,by simp at we;exact qz we,⟨F4,G4.L,G4.Mi,G4.fl⟩,⟨?_,⟨wf,abz,?_⟩,?_,?_,?_,?_,⟨oC,up _ X.oC oC zC⟩,X.g0⟩,k0.trans (hle.trans k4),?_,?_,hx⟩
    ·(refine eP zo ?_;clear zo;rintro o nm qn h1 r);exact⟨o,nm,qn,up _ X.oa _ h1,r⟩
    ·refine Ob (s4.setGen g .running) (fun q hq o z=>up q (hS q hq) o z) (fun q o z=>F4.keep _ _ (F4.le _ _ (F4.low _ _ z))) (D' G4.F.gens.bare V)
    ·exact(zp _ (Ne.symm hTc) X.oC).run aC G4.F jH
    ·exact(zp _ (Ne.symm hTe) X.oe).run N9.1 G4.F jH
    ·exact(zp _ (Ne.symm hTi) X.oi).run N9.2 G4.F jH
    ·exact(zp _ hTa X.oa).run ha G4.F jH
    ·have bY:KB c j9 hs sY.heap:=fun q o z n1 n2 n3=>rI q o (fun hq=>by rw[Ea q hq] at z;cases z) (b0 q o z n1 n2 n3);exact bY.step ms b4
    ·have bY:KB c j9 hs sY.heap:=fun q o z n1 n2 n3=>rI q o (fun hq=>by rw[Ea q hq] at z;cases z) (b0 q o z n1 n2 n3);exact hH.step bY ms jH F4
   |brk=>cases hx|ret=>cases hx
 ·(refine jl hR ?_;clear hR;rintro _ hn zn ro Ec);have hr0:r=[] :=qA hn;subst hr0;cases hx
  have rI:∀q o,q∉[env.locals,e,it]→s.heap.get? q=O o→h'.get? q=O o:=fun q o hq z=>by simp only[gz,cO,or_false,G0] at hq;exact kY _ _ (zn q o hq.1 hq.2.1 hq.2.2 z)
  have F2:Fm c K m mu {kc.setGen g .finished with heap:=h'}:=G.F.others hS rI (X.gens G.F ro V) Ec;exact wpAny_execs_nil (jt k0 (fun q o z n1 n2 n3=>rI q o (fun hq=>by rw[Ea q hq] at z;cases z) (b0 q o z n1 n2 n3)) ms ⟨F2,G.L,G.Mi,G.fl⟩)
end
end
section
theorem abA(W:Wd w a mb h₀):vi a h₀ (aK 1):=by obtain⟨q,b⟩:∃q,pg.main.body[1]? =O (.FunctionDef (aK 1).name (aK 1).params (aK 1).body [] aB [] (aK 1).scope aB (aK 1).name q):=⟨_,rfl⟩;exact W.CU 1 (by decide) _ _ _ _ q b V
theorem abB:uC (mM (aK 1).name (aK 1).params (aK 1).body (aK 1).scope a b c) ⟨[v],[]⟩=pure [(("addr":Str),v)] :=rfl
section
variable{K:PK}
theorem dQ.fresh(F:Fm c K m d s)(h:s.heap.objs.size≤b):dQ c K d b:=by
 have a:∀o,s.heap.get? b=O o→False:=fun o q=>absurd (fA q) (jA.mpr h);refine⟨?_,fun z=>absurd F.BM (jA.mpr (z▸h)),fun z=>absurd (F.Iw z) (jA.mpr h),?_⟩
 ·cases q:K b with
  |none=>rfl|some o=>exact(a o (F.keep _ _ q)).elim
 ·cases q:c.hE.get? b with
  |none=>rfl|some o=>(refine xe (F.there q) ?_;rintro e f);exact(a e f).elim
theorem abC(W:Wd w c.mg c.mb c.h₀)(Y:Hyp w A c sc tb P n)(hn:12≤n)(G:Gd w c tb K m mu s σ){arg:Expr}
  (hg:jp sc (aK 1).name=aF) (oa:eK sc tb (.cons ea .nil) [arg] =aF) (pe:gB P σ (.cons ea .nil)=O [.str x]) (hF:kg x.cps.toList aI=aI) (ho:mY tb [i,j] ts=aF) (hb:dX sc tb b body=aF)
  (hx:rH (bE P b) i j (dJ x.cps.toList 0 aI) σ=O σ'):
  aN (aO pg w) A (ji (.For (.Tuple ts x1 p) (.Call (.Name (aK 1).name p1) [arg] [] p2) body [] pos) c.env) (fun f s'=>Out w c tb K mu s.heap f s' .next σ') (fun J J=>bO) s:=by
 obtain⟨a,o,pm,cd,doc,g1,g2,g3,g4⟩:=abA W;have hd:=Y.hd;have hu:=Y.hu;refine AT (wpAny_Call_NameR (sT Y.H hg G.F g1 (AN (o:=o) (iE (qf oa (by simp)) (mr oa) ((u7 Y _ _ oa [.str x] pe).then G.F G.L G.Mi fun K1 vs s1 k1 F1 b1 r1=>⟨⟨F1.keep _ _ (F1.le _ _ (F1.low _ _ g2)),g3⟩,?_⟩)))))
 obtain⟨v,rfl,rv⟩:∃v,vs=[v]∧RV w K1 mu.ad v (.str x):=by
  cases r1 with
  |cons a b=>cases b;exact⟨_,rfl,a⟩
 obtain⟨t,rfl⟩:=rv.str_inv;have zq:∀b o,c.h₀.get? b=O o→s1.heap.get? b=O o:=fun b o q=>F1.keep _ _ (F1.le _ _ (F1.low _ _ q));refine xr (codeAny_call_generator (body:=(aK 1).body) (by show A.depth < 1000;exact cC (hO _ _) (bL hd (by decide))) (zq _ _ g2) g3 V rfl rfl (g4.keeps zq) (mQ abB ?_));refine Si (show ∀x∈(aK 1).scope.names,x.2≠ .cell from by decide+kernel) (by intro z hz;refine M (fK.mp hz) ?_;exact(by decide+kernel:(aK 1).scope.names.lookup ("addr":Str)=O .local)) (fun mx pj vE=>⟨F1.heap.nolimit.fresh _ vE,?_⟩) (by rfl);have lr:mx.objs.size=s1.heap.objs.size+1:=M vE.1 (M (xt ..) V);have jE:∀b o,s1.heap.get? b=O o→mx.get? b=O o:=fun b o q=>vE.extBut b o (fG (fA q)) (eV _ q);generalize zr:newEnv _ _ _ _ _ _ _ _ _=env;have eC:env.locals=s1.heap.objs.size:=by refine aS zr ?_;rfl
 have e1:env.scope=(aK 1).scope:=by refine aS zr ?_;rfl
 have e2:env.globals=fL:=by refine aS zr ?_;rfl
 have e3:env.builtins=i8:=by refine aS zr ?_;rfl
 have fr:∀b,s1.heap.objs.size≤b→dQ c K1 mu b:=fun b h=> .fresh F1 h
 have h0:∀b,s1.heap.objs.size≤b→c.h₀.get? b=none:=fun b h=>by
  cases q:c.h₀.get? b with
  |none=>rfl|some o=>exact absurd (fA (zq _ _ q)) (jA.mpr h)
 have XE:nX c.h₀ env (s1.heap.objs.size+3) (s1.heap.objs.size+2):=⟨e1,e2,e3,h0 _ (by refine M eC ?_;exact bZ _),h0 _ (hO _ _),h0 _ (hO _ _),by refine M eC ?_;show(s1.heap.objs.size:aA)≠s1.heap.objs.size+3;exact fG (mh (hO _ _)),by refine M eC ?_;show(s1.heap.objs.size:aA)≠s1.heap.objs.size+2;exact fG (mh (uI _)),by show(s1.heap.objs.size+3:aA)≠s1.heap.objs.size+2;exact eG (lJ _)⟩;refine wpAny_pyIter_gen (g:=s1.gens.size) ⟨_,_,_,fP _ V,rfl,rfl,rfl⟩ ?_;have a1:mx.objs.size≠s1.heap.objs.size+3:=by refine M lr ?_;show(s1.heap.objs.size+1:aA)≠s1.heap.objs.size+3;exact fG (mf (by decide) _)
 have a2:mx.objs.size≠s1.heap.objs.size+2:=by refine M lr ?_;show(s1.heap.objs.size+1:aA)≠s1.heap.objs.size+2;exact fG (lJ _)
 have a3:mx.objs.size≠env.locals:=by refine M lr (M eC ?_);show(s1.heap.objs.size+1:aA)≠s1.heap.objs.size;exact eG (lJ _)
 have Ee:∀b,s1.heap.objs.size≤b→s.heap.get? b=none:=fun b h=>by
  cases q:s.heap.get? b with
  |none=>rfl|some o=>exact absurd (fA (b1 b o q (fr b h).nl (fr b h).nm (F1.off (fr b h).nE))) (jA.mpr h)
 have Oc:nk (s1.gens.push (.fresh (.func (aK 1).body env))):=F1.gens.bare.push V;refine uz (abu (p:=p) (x1:=x1) (fH:=K) (j9:=mu) (hs:=s.heap) (out:=dJ x.cps.toList 0 aI) (g:=s1.gens.size) Y XE a1 a2 a3 ho hb ?_ (dJ x.cps.toList 0 aI) K1 m mu _ σ (by simp) (bZ _) (G.of k1 (F1.others (S:=[]) (fun J h=>(cO h).elim) (fun q o J z=>eV _ (jE q o z)) ⟨Oc,fun k y q=> ?_⟩ V)) ?_ k1 (fun q o z n1 n2 n3=>eV _ (jE q o (b1 q o z n1 n2 n3))) .refl hx) fun r s' y=> ?_
 ·intro q hq;simp only[gz,cO,or_false] at hq;rcases hq with rfl |rfl |rfl
  ·exact Ee _ (by refine M eC ?_;exact bZ _)
  ·exact Ee _ (hO _ _)
  ·exact Ee _ (hO _ _)
 ·have:=F1.gens.old k y q;have oX:k < s1.gens.size:=(agu.mp this).1;refine M Array.getElem?_push (M (aP (fG oX)) ?_);exact this
 ·refine⟨⟨_,_,_,fP _ V,rfl,rfl,rfl⟩,⟨.fresh (.func (aK 1).body env),by simp,rfl,?_⟩,fr _ (by refine M eC ?_;exact bZ _),fr _ (hO _ _),fr _ (hO _ _),fr _ (by refine M lr ?_;exact hO _ _),?_,?_⟩
  ·have abD:∀q:Obj,(mx.push q).Ns env.locals (fun y=>[(("addr":Str),Value.str x t)].reverse.lookup y):=fun q=>by refine M eC ?_;exact pj.keeps fun J J z=>eV _ z
   refine abp W XE (by show _=(mx.push _).objs.size;exact M (xt ..) (M lr V)) (by show _=(mx.push _).objs.size+1;exact M (xt ..) (M lr V)) V ⟨zk F1.base XE.hC (abD _) (fun b o q=>eV _ (jE _ _ (zq b o q))) (.refl (D' Oc V)) V,?_,.none,fun J J J q=>(by cases q)⟩ (by rfl) hF Y.hh (by show A.depth+10 < 900;exact SQ hn hd (by decide)) (by show A.units+1+30 < 9000;exact SP hn hu (by decide));intro i y k p hi hp
   match i,hi,hp with
   |0,hi,hp=>cases hi;cases hp;exact⟨_,rfl,.str⟩|1,hi,hp=>cases hp|2,hi,hp=>cases hp|3,hi,hp=>cases hp|i+4,hi,hp=>simp at hp
  ·(refine eP pj ?_;clear pj;rintro o _ _ q _);exact⟨o,by refine M eC ?_;exact eV _ q⟩
  ·show c.io[s1.gens.size]? =aB;cases q:c.io[s1.gens.size]? with
   |none=>rfl
   |some y=>
    have:=F1.gens.old _ y q;replace this:=(Array.getElem?_eq_none (bZ _))▸this;cases this
 ·cases r with
  |ok f=>exact y|error _=>exact y.elim
end
end
section
noncomputable def gE(x:aD aA):aD (aA×aD aA)→aA→aG aA→aD (aD aA)→aA×aD (aD aA)
 |[],st,_,a=>(st,a)
 |(p,c)::r,st,b,a=>if c=[34] then(match b with
   |none=>gE x r st (O p) a|some o=>gE x r (p+1) aB (if st≠o then a++[(x.take o).drop st] else a))
  else gE x r st b a
noncomputable def kh(x:aD aA):aD Nat:=if 34∈x then
  ((gE x (dJ x 0 aI) 0 aB []).2++if(gE x (dJ x 0 aI) 0 aB []).1 < x.length then [x.drop (gE x (dJ x 0 aI) 0 aB []).1] else []).flatten
 else x
noncomputable def rJ:Tb:=[(aH "addr",aF),(aH "start",aF),(aH "open_pos",aF),(aH "result",aF),(aH "pos",aF),(aH "ch",aF)]
noncomputable def wg:B:= .cons (.ite (.cmp .NotIn (.str (aH "\"")) (.nm 0)) (.cons (.ret (.nm 0)) .nil) .nil) (.cons (.asg 1 (.int 0)) (.cons (.asg 2 .none) (.cons (.mq 3 (.lst .nil)) .nil)))
noncomputable def Ef:B:= .cons (.ite (.cmp .Eq (.nm 5) (.str (aH "\""))) (.cons (.ite (.cmp .Is (.nm 2) .none) (.cons (.asg 2 (.nm 4)) .nil)
  (.cons (.ite (.cmp .NotEq (.nm 1) (.nm 2)) (.cons (.app 3 (.dD (.nm 0) (.nm 1) (.nm 2))) .nil) .nil) (.cons (.asg 1 (.bin .Add (.nm 4) (.int 1))) (.cons (.asg 2 .none) .nil)))) .nil) .nil) .nil
noncomputable def postR:B:= .cons (.ite (.cmp .Lt (.nm 1) (.bi "len" (.cons (.nm 0) .nil))) (.cons (.app 3 (.dD (.nm 0) (.nm 1) .none)) .nil) .nil) (.cons (.kS 3) (.cons (.ret (.dG "join" (.str (aH "")) (.cons (.nm 3) .nil))) .nil))
theorem dfR:iq (aK 2) 1 rJ=true:=by decide+kernel
inductive Od:Prop
 |mk (l ts x1 p p1 arg p2 body pos l2:_) (h1:(aK 2).body=l++ .For (.Tuple ts x1 p) (.Call (.Name (aK 1).name p1) [arg] [] p2) body [] pos::l2) (h2:dX (aK 2).scope rJ wg l=aF) (h3:eK (aK 2).scope rJ (.cons (.nm 0) .nil) [arg] =aF) (h4:mY rJ [4,5] ts=aF) (h5:dX (aK 2).scope rJ Ef body=aF) (h6:dX (aK 2).scope rJ postR l2=aF):Od
theorem abE:Od:=by refine⟨(aK 2).body.take 4,_,_,_,_,_,_,_,_,(aK 2).body.drop 5,rfl,by decide+kernel,by decide+kernel,by decide+kernel,by decide+kernel,by decide+kernel⟩
noncomputable def kj(x:aD aA)(st:aA)(a:aG aA)(b:aD (aD aA))(c d:aG PV):Sg:=
 {loc:=[O (.str (mk x)),O (.int (st:aA)),O (match a with |none=> .none |some o=> .int (o:aA)),O .bV,c,d],mu:=O (b.map fun y=> .str (mk y))}
theorem Oe(x:aD aA)(a b:aA)(h:x.length≤100000):mV (.str (mk x)) (.int (a:Z)) (.int (b:Z))=O (.str (mk ((x.take b).drop a))):=by
 refine(bB (by refine M (cZ ..) (M cN ?_);exact aL h (by decide))).trans (aT (fun z=>O (PV.str z)) (fT ?_));unfold gL;simp only[uJ,y7,cZ];refine(M agy ?_:Gv _ (Q6 _ x)=Q6 a (Gv b x));rcases sp a x.length with c |c
 ·refine M (l4 c) ?_;rcases sp b x.length with d |d
  ·exact M (l4 d) V
  ·exact M (uA d) (M (mG (cM iB)) (M (mG (aL (cM iB) (qI d a))) V))
 ·exact M (uA c) (M (AS (bZ _)) (M (AS c) (M AF (M AF V))))
theorem Of(c:aD aA):jb .Eq (.str (mk c)) (.str (aH "\""))=O (.bool (decide (c=[34]))):=by exact M (by decide+kernel:aH "\""=mk [34]) <|bb (decide_eq_decide.mpr mk_inj)
theorem abF{a:Sg→aG (Fl×Sg)}{i j:aA}{y:aA×aD aA}{r:aD (aA×aD aA)}{b c:Sg}(h:a (putAll b [i,j] [.int y.1,.str (mk y.2)])=O (.next,c)):rH a i j (y::r) b=rH a i j r c:=
 bN h V
noncomputable def LR(P:bT)(x:aD aA)(r:aD (aA×aD aA))(st:aA)(a:aG aA)(b:aD (aD aA))(c d:aG PV)(z:aA×aD (aD aA)):Prop:=∃e f g,rH (bE P Ef) 4 5 r (kj x st a b c d)=O (kj x z.1 e z.2 f g)
theorem LR.step{P:bT}{x c:aD aA}{p:aA}{r:aD (aA×aD aA)}{st a:aA}{b d:aG aA}{f g:aD (aD aA)}{j k:aG PV}{z i:aA×aD (aD aA)}(h:LR P x r a d g (O (.int p)) (O (.str (mk c))) z)
  (l:bE P Ef (kj x st b f (O (.int p)) (O (.str (mk c))))=O (.next,kj x a d g (O (.int p)) (O (.str (mk c))))) (e:i=z):LR P x ((p,c)::r) st b f j k i:=by
 (refine xP h ?_;clear h;rintro q m n h);exact⟨q,m,n,(abF (y:=(p,c)) l).trans (e▸h)⟩
theorem abG(P:bT)(x:aD aA)(k:x.length≤1000)(r:aD (aA×aD aA)):∀(st:aA) (b:aG aA) (a:aD (aD aA)) (e f:aG PV),a.length+r.length≤100000→LR P x r st b a e f (gE x r st b a):=by
 induction r with
 |nil=>exact fun J b J e f J=>⟨b,e,f,rfl⟩
 |cons y r ih=>
  intro st b a e f j;obtain⟨p,c⟩:=y;have g:a.length+r.length≤100000:=qz j
  by_cases d:c=[34]
  ·have i:∀b,ev P (kj x st b a (O (.int p)) (O (.str (mk c)))) (.cmp .Eq (.nm 5) (.str (aH "\"")))=O (.bool aF):=fun b=>(Of c).trans (bb (fM d));cases b with
   |none=>exact(ih st (O p) a _ _ g).step (nx (it (i _) (nx (it V (sg V rfl rfl)) V)) V) (aR d)
   |some o=>
    by_cases h:st=o
    ·exact(ih (p+1) aB a _ _ g).step (nx (it (i _) (nx (eY V (nx (eY (bb (bne_eq_false_iff_eq.mpr (aT Int.ofNat h))) V) (sg V rfl (sg V rfl rfl)))) V)) V) ((aR d).trans (aT (gE x r (p+1) aB) (aP (agz h))))
    ·have l:ex P (.app 3 (.dD (.nm 0) (.nm 1) (.nm 2))) (kj x st (O o) a (O (.int p)) (O (.str (mk c))))=O (.next,kj x st (O o) (a++[(x.take o).drop st]) (O (.int p)) (O (.str (mk c)))):=
      (yx V (by exact Oe x st o (aL k (by decide))) V rfl (by refine M (bQ ..) ?_;exact aL (aL (hO _ _) g) (by decide))).trans (aT (fun m=>O (Fl.next,{kj x st (O o) a (O (.int p)) (O (.str (mk c))) with mu:=O m})) (iA (f:=fun y=>PV.str (mk y)) (l₁:=a) (l₂:=[(x.take o).drop st])).symm)
     exact(ih (p+1) aB (a++[(x.take o).drop st]) _ _ (by refine M bH ?_;exact aL (cM (on _ _ _)) j)).step (nx (it (i _) (nx (eY V (nx (it (VQ (mt QK h)) (nx l V)) (sg V rfl (sg V rfl rfl)))) V)) V) ((aR d).trans (aT (gE x r (p+1) aB) (aR h)))
  ·exact(ih st b a _ _ g).step (nx (eY ((Of c).trans (bb (eO d))) V) V) (aP d)
end
section
theorem abH(l:aD aA):∀(i:aA) (e:aU),(dJ l i e).length≤l.length+1:=by
 induction l with
 |nil=>intro i e;cases e with
  |true=>exact bZ 1|false=>exact jR 1
 |cons c r ih=>
  intro i e;cases e with
  |true=>exact sD (ih (i+1) aI)
  |false=>
   by_cases h:c=92
   ·exact aL (cM (aT ot (aR h))) (nw (ih (i+1) aF))
   ·exact aL (cM (aT ot (aP h))) (sD (ih (i+1) aI))
noncomputable def Eg(n k:aA)(z:aA×aD (aD aA)):Prop:=z.2.length≤k∧∀y∈z.2,y.length≤n
theorem abI(x:aD aA)(r:aD (aA×aD aA)):∀(st:aA) (d:aG aA) (a:aD (aD aA)),(∀y∈a,y.length≤x.length)→Eg x.length (a.length+r.length) (gE x r st d a):=by
 induction r with
 |nil=>exact fun J J J h=>⟨bZ _,h⟩
 |cons y r ih=>
  intro st d a h;obtain⟨p,c⟩:=y;have f:∀{k z j},Eg x.length k z→k≤a.length+(r.length+1)→j=z→Eg x.length (a.length+(r.length+1)) j:=fun g m e=>e▸⟨aL g.1 m,g.2⟩
  by_cases i:c=[34]
  ·cases d with
   |none=>exact f (ih st (O p) a h) (uI _) (aR i)
   |some o=>
    by_cases l:st=o
    ·exact f (ih (p+1) aB a h) (uI _) ((aR i).trans (aT (gE x r (p+1) aB) (aP (agz l))))
    ·refine f (ih (p+1) aB (a++[(x.take o).drop st]) fun y b=> ?_) (cM ?_) ((aR i).trans (aT (gE x r (p+1) aB) (aR l)))
     ·rcases jD.mp b with b |b
      ·exact h y b
      ·refine M (fK.mp b) (M iB (M ni ?_));exact aL (l7 _ _) (Gb _ _)
     ·refine M bH ?_;exact on _ _ _
  ·exact f (ih st d a h) (uI _) (aP i)
theorem abJ(n:aA)(l:aD (aD aA)):(∀y∈l,y.length≤n)→(l.map ot).sum≤l.length*n:=by
 induction l with
 |nil=>exact fun J=>jR _
 |cons a r ih=>
  intro h;refine M gH (M agd (M j2 (M (af5 ..) (M (aeB ..) (M (iz ..) ?_)))));exact fY (ih fun y b=>h y (hU _ b)) (h a (iK ..))
theorem abK(x:aD aA):aex (mk x) (aH "\"")=decide (34∈x):=by exact M (by decide+kernel:aH "\""=⟨#[34]⟩) <|ahH (mk x) 34
theorem Og(P:bT)(x:aD aA)(r:aD (aG PV)):ev P {loc:=O (.str (mk x))::r} (.cmp .NotIn (.str (aH "\"")) (.nm 0))=O (.bool (!decide (34∈x))):=bb (aT (!·) (abK x))
theorem abL(P:bT)(x:aD aA)(h:34∉x):bE P wg {loc:=[O (.str (mk x)),aB,aB,aB,aB,aB]}=O (.ret (.str (mk x)),{loc:=[O (.str (mk x)),aB,aB,aB,aB,aB]}):=
 cU (it ((Og P x _).trans (by refine M (eO h) ?_;rfl)) (cU (fU V rfl)))
theorem abM(P:bT)(x:aD aA)(h:34∈x):bE P wg {loc:=[O (.str (mk x)),aB,aB,aB,aB,aB]}=O (.next,kj x 0 aB [] aB aB):=
 nx (eY ((Og P x _).trans (by refine M (fM h) ?_;rfl)) V) (sg V rfl (sg V rfl (nx (tq V (nO (xs:=[]) V (jR _) V)) V)))
theorem abN{b:aG (aD PV)}{a:aD (aD aA)}{n:aA}(c:a.length≤2001)(d:n≤1000)(e:∀y∈a,y.length≤n):nG b "join" (.str (aH "")) [.lst (a.map fun y=> .str (mk y))] =O (.str (mk a.flatten)):=by
 have f:a.length*n≤2001*1000:=xx c d;have g:((a.map mk).map (·.length))=a.map ot:=by refine M j6 ?_;exact uL fun y J=>cZ y
 refine(bN ((aT strs? (j6 (f:=mk) (g:=PV.str) (l:=a)).symm).trans (strs_map _)) (bB ?_)).trans (aT (fun z=>O (PV.str z)) ?_)
 ·refine M g (M (by decide+kernel:(aH "").length=0) (M (Nat.mul_zero ..) (M (sb ..) ?_)));exact aL (aL (abJ n a e) f) (by decide)
 ·refine M (by decide+kernel:aH ""=⟨#[]⟩) <|fT ?_
  refine M (vX ..) (M j6 ?_);exact aT agA (List.map_id'' (fun y=>rfl) _)
theorem Oh(P:bT)(x:aD aA)(e:x.length≤1000)(st:aA)(b:aG aA)(a:aD (aD aA))(c d:aG PV)(f:a.length≤2001)(g:∀y∈a,y.length≤x.length):
  bE P (.cons (.kS 3) (.cons (.ret (.dG "join" (.str (aH "")) (.cons (.nm 3) .nil))) .nil)) (kj x st b a c d)=O (.ret (.str (mk a.flatten)),(kj x st b a c d).freeze (a.map fun y=> .str (mk y))):=
 nx (CH V rfl) (cU (fU (kZ V (gD V) (abN f e g)) V))
theorem abO(P:bT)(x:aD aA)(e:x.length≤1000)(st:aA)(b:aG aA)(a:aD (aD aA))(c d:aG PV)(f:a.length≤2000)(i:∀y∈a,y.length≤x.length):
  ∃k,bE P postR (kj x st b a c d)=O (.ret (.str (mk (a++if st < x.length then [x.drop st] else []).flatten)),k):=by
 have j:ev P (kj x st b a c d) (.bi "len" (.cons (.nm 0) .nil))=O (.int x.length):=iR (gD V) ((bB (by refine M (cZ ..) (M cN ?_);exact aL e (by decide))).trans (aT (fun n:aA=>O (PV.int n)) (cZ x)))
 by_cases h:st < x.length
 ·have l:∀y∈a++[x.drop st],y.length≤x.length:=fun y g=>(jD.mp g).elim (i y) fun g=>by refine M (fK.mp g) (M iB ?_);exact l7 _ _
  have o:ex P (.app 3 (.dD (.nm 0) (.nm 1) .none)) (kj x st b a c d)=O (.next,kj x st b (a++[x.drop st]) c d):=
   (yx V (oY V rfl rfl (v0 e st)) V rfl (by refine M (bQ ..) ?_;exact aL f (by decide))).trans (aT (fun m=>O (Fl.next,{kj x st b a c d with mu:=O m})) (iA (f:=fun y=>PV.str (mk y)) (l₁:=a) (l₂:=[x.drop st])).symm)
  exact M (aR h) <|⟨_,nx (it (cI V j (lS (dZ.mpr h))) (nx o V)) (Oh P x e st b _ c d (by refine M bH ?_;exact sD f) l)⟩
 ·refine M (aP h) (M (jS ..) ?_);exact⟨_,nx (eY (cI V j (lc fun q=>h (dZ.mp q))) V) (Oh P x e st b a c d (nw f) i)⟩
section
theorem abP(W:Wd w p mb h₀)(x:aD aA)(a:x.length≤1000)(r:kg x aI=aI):Ct w p mb h₀ T 13 "_strip_quoted_realnames" [.str (mk x)] (.str (mk (kh x))):=by
 refine W.by (n:=12) (i:=2) (P:=bJ) (rest:=[aB,aB,aB,aB,aB]) (k:=1) (tb:=rJ) (by decide) ⟨_,rfl⟩ V dfR (fun t J J J h=>pT (fun J=>rfl) t h) fV (fun J J J=>nn) V ?_ V;intro ah ai K m s u y A B Y G;subst u y A B;obtain⟨l,aj,ak,al,am,arg,an,ao,ap,C,D,d,E,F,H,I⟩:=abE;refine M D <|tw l _ ?_
 by_cases h:34∈x
 ·refine wpAny_mono (nM wg l _ _ _ _ Y d (abM bJ x h) K m aB s G) (fun f L o=> ?_) fun J J q=>q.elim;obtain⟨e,g,i,b,N,P,rfl,Q⟩:=o;have j:=abH x 0 aI;(refine xP (abG bJ x a (dJ x 0 aI) 0 aB [] aB aB (by simp;exact aL j (nz (cC a (by decide))))) ?_;rintro R S U k);refine xa (abI x (dJ x 0 aI) 0 aB [] (by simp)) fun c n=> ?_;have X:kh x=((gE x (dJ x 0 aI) 0 aB []).2++if(gE x (dJ x 0 aI) 0 aB []).1 < x.length then [x.drop (gE x (dJ x 0 aI) 0 aB []).1] else []).flatten:=aR h;refine M X ?_;generalize gE x (dJ x 0 aI) 0 aB [] =z at k c n;refine wpAny_execs_cons (wpAny_mono (abC W Y (bZ _) Q (x:=mk x) (by decide+kernel) E V r F H k) (fun f a0 o=> ?_) fun J J q=>q.elim);obtain⟨a1,a2,a3,a4,aq,ar,rfl,a5⟩:=o;(refine xe (abO bJ x a z.1 R z.2 S U (by simp at c;exact aL (aL c j) (nz (cC a (by decide)))) n) ?_;rintro as a6);refine wpAny_mono (nM postR C _ _ _ _ Y I a6 a1 a2 a3 a0 a5) (fun f au o=> ?_) fun J J q=>q.elim;obtain⟨a7,a8,a9,a',av,aw,v,rfl,aa,ab⟩:=o;exact⟨a7,a8,a9,v,(b.trans a4).trans a',rfl,aa,ab⟩
 ·refine wpAny_mono (nM wg l _ _ _ _ Y d (abL bJ x h) K m aB s G) (fun f L o=> ?_) fun J J q=>q.elim;obtain⟨e,g,i,b,N,P,v,rfl,ae,af⟩:=o;exact M (show kh x=x from aP h) <|⟨e,g,i,v,b,rfl,ae,af⟩
end
end
section
open Builtin Builtin.Str
noncomputable def tQ:nC:=⟨#[37,115,44,32,37,48,50,100,32,37,115,32,37,48,52,100,32,37,48,50,100,58,37,48,50,100,58,37,48,50,100,32,37,115]⟩
noncomputable def iT(n:Z):aD Nat:=(Nat.toDigits 10 n.toNat).map agB
noncomputable def cB(k:aA)(n:Z):aD Nat:=dT (k - (iT n).length) 48++iT n
noncomputable def lZ(k:aA)(n:Z):nC:=mk (cB k n)
noncomputable def tR(a:nC)(d:Z)(b:nC)(y c e f:Z)(z:nC):nC:=a++", "++lZ 2 d++" "++b++" "++lZ 4 y++" "++lZ 2 c++":"++lZ 2 e++":"++lZ 2 f++" "++z
theorem Eh(hn:0≤n):(HC (toString n)).cps.toList=iT n:=by(refine xe (qT hn) ?_;rintro m rfl);exact KIN.signs_num m
theorem Ei(n:Z):∀c∈iT n,48≤c∧c≤57:=by intro c a;exact aQ (iW.mp a) fun d b e=>aS e <|digit_range (Nat.isDigit_of_mem_toDigits (by decide) (by decide) b)
theorem Oi(h0:0≤n)(h1:n < 10^10):(iT n).length≤10:=by refine aS (Eh h0) ?_;have:=toString_length_le (k:=10) h0 (by decide) h1;simpa [ahI] using this
theorem abQ{c:Percent}{k:aA}(a:c.alt=aI)(b:c.type=100)(d:c.prec=aB)(e:c.width=O k)(f:c.ljust=aI)(g:c.zero=aF)(h:c.sign=aI)(i:c.blank=aI):c=⟨aI,aI,aI,aI,aF,O k,aB,100⟩:=by refine aS a (aS b (aS d (aS e (aS g ?_))));show Percent.mk c.ljust c.sign c.blank c.alt c.zero c.width c.prec c.type=_;exact M f (M h (M i (M a V)))
@[elab_as_elim] theorem ten{P:aA→Prop}(d:aA)(a:d < 10)(b:P 0)(c:P 1)(e:P 2)(f:P 3)(g:P 4)(i:P 5)(j:P 6)(k:P 7)(l:P 8)(m:P 9):P d:=
 match d,a with
 |0,_=>b |1,_=>c |2,_=>e |3,_=>f |4,_=>g |5,_=>i |6,_=>j |7,_=>k |8,_=>l |9,_=>m
 | _+10,h=>absurd h (jA.mpr (ov ..))
theorem abR(k:aA){l:aD aA}(f:∀c∈l,48≤c∧c≤57):percentField ⟨aI,aI,aI,aI,aF,O k,aB,100⟩ aF l=if k≤l.length then aB else O (dT (k - l.length) 48++l):=by
 by_cases b:k≤l.length
 ·exact(aR (by refine(M (fM b) ?_:(((decide (k≤l.length) && aF) && !aI) && !aI)=aF);rfl)).trans (aR b).symm
 ·refine(aP (by refine(M (eO b) ?_:¬(((decide (k≤l.length) && aF) && !aI) && !aI)=aF);exact GV)).trans (kN ?_ (aP b).symm);clear b;cases l with
  |nil=>rfl
  |cons a r=>
   have e:=f a (iK ..);have z:∀a,O (dT (k - (0+0+(r.length+1))) 48++(a::r))=O (dT (k - (r.length+1)) 48++(a::r)):=fun a=>aT (fun n=>O (dT (k - n) 48++(a::r))) (oo _);obtain⟨d,rfl⟩:∃d,a=d+48:=⟨a - 48,(Ap e.1).symm⟩;have g:d < 10:=pO (n:=48) (mh e.2);clear f e;refine ten d g ?_ ?_ ?_ ?_ ?_ ?_ ?_ ?_ ?_ ?_<;>exact z _
theorem Oj{c:Percent}{k:aA}{n:Z}{d:aD aA}(h1:c.alt=aI)(h2:c.type=100)(h3:c.prec=aB)(h4:c.width=O k)(h5:c.ljust=aI)(h6:c.zero=aF)(h7:c.sign=aI)(h8:c.blank=aI)(hn:0≤n)
  (hd:d=(HC (toString ((n.natAbs:aA):Z))).cps.toList):percentInt c (decide (n < 0)) d=iT n∧percentField c aF (iT n)=if k≤(iT n).length then aB else O (dT (k - (iT n).length) 48++iT n):=by
 have e:((n.natAbs:aA):Z)=n:=wT hn;rw[e,Eh hn] at hd;subst hd;exact⟨KPc.int_text c h1 (.inl h2) h3 hn _,(aT (fun c=>percentField c aF (iT n)) (abQ h1 h2 h3 h4 h5 h6 h7 h8)).trans (abR k (Ei n))⟩
theorem Ol(h:percentField c aF (percentInt c (decide (n < 0)) d)=aB)(h1:c.alt=aI)(h2:c.type=100)(h3:c.prec=aB)(h4:c.width=O k)(h5:c.ljust=aI)(h6:c.zero=aF)(h7:c.sign=aI)(h8:c.blank=aI)(hn:0≤n)
  (hd:d=(HC (toString ((n.natAbs:aA):Z))).cps.toList):(⟨(percentInt c (decide (n < 0)) d).toArray⟩:nC)=lZ k n:=by
 refine xa (Oj h1 h2 h3 h4 h5 h6 h7 h8 hn hd) fun e1 e2=> ?_;(replace h:=e1▸h;replace h:=e2▸h);refine M e1 ?_
 by_cases hk:k≤(iT n).length
 ·unfold lZ cB;refine M (agl hk) ?_;rfl
 ·replace h:=(aP hk)▸h;cases h
theorem Om(h:percentField c aF (percentInt c (decide (n < 0)) d)=O laid)(h1:c.alt=aI)(h2:c.type=100)(h3:c.prec=aB)(h4:c.width=O k)(h5:c.ljust=aI)(h6:c.zero=aF)(h7:c.sign=aI)(h8:c.blank=aI)(hn:0≤n)
  (hd:d=(HC (toString ((n.natAbs:aA):Z))).cps.toList):(⟨laid.toArray⟩:nC)=lZ k n:=by
 refine xa (Oj h1 h2 h3 h4 h5 h6 h7 h8 hn hd) fun e1 e2=> ?_;(replace h:=e1▸h;replace h:=e2▸h)
 by_cases hk:k≤(iT n).length
 ·replace h:=(aR hk)▸h;cases h
 ·replace h:=(aP hk)▸h;cases h;rfl
theorem Ej(a:0≤n)(b:n < 10^10)(c:k≤4):(lZ k n).length≤14:=by have:=Oi a b;unfold lZ;refine M (cZ ..) ?_;unfold cB;refine M bH (M oG ?_);exact GH (fE (cC this (by decide))) (qI (aL c (by decide)) _)
theorem On{f:ur}{A:bX}{E:aJ→aM→Prop}{s s₀:aM}{p:aD aJ}{r:aD aA}{Q:wV (aD aJ×Writer×aD aA)→aM→Prop}{w:Writer}{T x y:nC}{N K:aA}{b:aG aJ}{o:aG (aD aA)}(i:o=aB→x=y)(j:∀a,o=O a→(⟨a.toArray⟩:nC)=y)
  (c:∃k,s={s₀ with toks:=k}) (g:kx w T N) (d:y.length≤K) (m:KPc.Obj b x) (h:∀e k,kx e (T++y) (N+K)→Q (.yield (p,e,r)) {s₀ with toks:=k}):aN f A (match o with |none=>(pure (.yield (p,w.add x b,r)):cR (wV (aD aJ×Writer×aD aA))) |some a=>pure (.yield (p,w.add ⟨a.toArray⟩,r))) Q E s:=by
 (refine xe c ?_;clear c;rintro k rfl);cases o with
 |none=>
  refine wpAny_pure (h _ _ ?_);have:=i V;subst this;exact agC (agD g m) (eU d _)
 |some l=>
  refine wpAny_pure (h _ _ ?_);have:=j l V;subst this;exact agC (agD g (Bn V)) (eU d _)
end
section
open Builtin Builtin.Str
noncomputable abbrev rK:=aD aJ×Writer×aD aA
noncomputable abbrev wh:=wV rK
section
variable{pg:QM}{B:aA→rK→cR wh}{E:aJ→aM→Prop}
noncomputable def Tq(M0:ur)(A:bX)(B:aA→rK→cR wh)(l:aD aA)(Q:rK→aM→Prop)(E:aJ→aM→Prop)(r:wh)(s:aM):Prop:=ahJ (fun b=>Q b s) (fun b=>aN M0 A (forIn l b B) Q E s) r
noncomputable def abS(B:aA→rK→cR wh)(U G:aD aJ→Writer→aD aA→cR wh):Prop:=∀x p w r,B x (p,w,r)=if tooLong w.total=aF then U p w r else G p w r
theorem rL(hB:abS B U G)(g:kx w T N)(hN:N≤16777216)
  (h:aN (aO pg wd) A (G p w r) (Tq (aO pg wd) A B l Q E) E s):aN (aO pg wd) A (forIn (x::l) (p,w,r) B) Q E s:=
 KPc.turn (xS (hB x p w r) (qD (KPc.ite_no (KPc.short_good g hN) (wpAny_mono h (fun r s h=>by cases r<;>exact h) fun J J h=>h))))
end
theorem abT(r:aD aA):KPc.Obj (if r.isEmpty=aF then O (.str y t) else aB) y:=by
 by_cases a:r.isEmpty=aF
 ·exact KPc.obj_some (aR a)
 ·exact Bn (aP a)
theorem abU{B:aA→rK→cR (wV rK)}{E:aJ→aM→Prop}(l1:∀{s l x p w T N r},kx w T N→N≤16777216→(∀w',kx w' (T++", ") (N+2)→aN M0 A (forIn l (p,w',37::r) B) Q E s)→aN M0 A (forIn (x::l) (p,w,44::32::37::r) B) Q E s)(l2:∀{s l x p w T N r},kx w T N→N≤16777216→(∀w',kx w' (T++" ") (N+1)→aN M0 A (forIn l (p,w',37::r) B) Q E s)→aN M0 A (forIn (x::l) (p,w,32::37::r) B) Q E s)(l3:∀{s l x p w T N r},kx w T N→N≤16777216→(∀w',kx w' (T++":") (N+1)→aN M0 A (forIn l (p,w',37::r) B) Q E s)→aN M0 A (forIn (x::l) (p,w,58::37::r) B) Q E s)(st:∀{s l x p w T N r} {y:nC} {t:gX},y.length≤100000→kx w T N→N≤16777216→(∀w',kx w' (T++y) (N+100000)→aN M0 A (forIn l (p,w',r) B) Q E s)→aN M0 A (forIn (x::l) (.str y t::p,w,37::115::r) B) Q E s)(d2:∀{s l x p w T N r} {n:Z} {t:gX},0≤n→n < 10^10→kx w T N→N≤16777216→(∀w' k,kx w' (T++lZ 2 n) (N+14)→aN M0 A (forIn l (p,w',r) B) Q E {s with toks:=k})→aN M0 A (forIn (x::l) (.int n t::p,w,37::48::50::100::r) B) Q E s)(d4:∀{s l x p w T N r} {n:Z} {t:gX},0≤n→n < 10^10→kx w T N→N≤16777216→(∀w' k,kx w' (T++lZ 4 n) (N+14)→aN M0 A (forIn l (p,w',r) B) Q E {s with toks:=k})→aN M0 A (forIn (x::l) (.int n t::p,w,37::48::52::100::r) B) Q E s)(g:kx w0 ahK 0)
  (h0:wd.length≤100000) (h1:mo.length≤100000) (h2:z.length≤100000) (hd:0≤d) (oP:d < 10^10) (hy:0≤y) (Ek:y < 10^10) (El:0≤hh) (Em:hh < 10^10) (En:0≤mm) (Eo:mm < 10^10) (Ep:0≤ss) (rA:ss < 10^10)
  (fin:∀{l:aD aA} {x:aA} {w:Writer} {N k:aA},kx w (tR wd d mo y hh mm ss z) N→N≤16777216→aN M0 A (forIn (x::l) ([],w,[]) B) Q E {s with toks:=k}):
  aN M0 A (forIn (qJ 0 34) ([.str wd t0,.int d t1,.str mo t2,.int y t3,.int hh t4,.int mm t5,.int ss t6,.str z t7],w0,[37,115,44,32,37,48,50,100,32,37,115,32,37,48,52,100,32,37,48,50,100,58,37,48,50,100,58,37,48,50,100,32,37,115]) B) Q E s:=by
 refine st h0 g (by decide) fun w1 g=> ?_;rw[KPc.empty_app] at g
 exact l1 g (by decide) fun w2 g=>d2 hd oP g (by decide) fun w3 k3 g=>l2 g (by decide) fun w4 g=>st h1 g (by decide) fun w5 g=>l2 g (by decide) fun w6 g=>d4 hy Ek g (by decide) fun w7 k7 g=>l2 g (by decide) fun w8 g=>
  d2 El Em g (by decide) fun w9 k9 g=>l3 g (by decide) fun w10 g=>d2 En Eo g (by decide) fun w11 vO g=>l3 g (by decide) fun w12 g=>d2 Ep rA g (by decide) fun w13 Ds g=>l2 g (by decide) fun w14 g=>st h2 g (by decide) fun w15 g=>fin g (by decide)
theorem abV(wd mo z:nC)(d y hh mm ss:Z)(t t0 t1 t2 t3 t4 t5 t6 t7:gX)(b:aW)(h0:wd.length≤100000)(h1:mo.length≤100000)(h2:z.length≤100000)(hd:0≤d)(oP:d < 10^10)(hy:0≤y)(Ek:y < 10^10)(El:0≤hh)(Em:hh < 10^10)(En:0≤mm)(Eo:mm < 10^10)(Ep:0≤ss)(rA:ss < 10^10):
  Meets («str.__mod__» ⟨[.str tQ t,.ref b],[]⟩) (fun J R s=>ahL s.heap b #[.str wd t0,.int d t1,.str mo t2,.int y t3,.int hh t4,.int mm t5,.int ss t6,.str z t7]∧∀t' k,R (.ok (.ret (.str (tR wd d mo y hh mm ss z) t'))) {s with toks:=k}):=by
 refine KPt.meets_tup fun J J J s J J hT abW=>xS (KPt.entry_is_r _ _ _) ?_;(refine uO hT ?_;clear hT;rintro o ho hc n hD);have hY:s.TypeIs (.ref b) "tuple":=⟨o,ho,hc⟩;refine wpAny_bind (At (T:="tuple") hY KPt.sub_tt (wpAny_bind (KPt.asStr_ref ho hD (wpAny_bind (KPt.fills_ref hY fun m=>wpAny_bind (Sf ho hD (wpAny_bind (wpAny_pure (wpAny_bind (xS (KPc.range_list _ _ _) (KPc.start fun w0 g=> ?_)))))))))));clear hY ho hc hD
 refine(fun hB=>abU
  (fun g hN k=>rL hB g hN (wpAny_pure (by exact SA g V (Bn V) k)))
  (fun g hN k=>rL hB g hN (wpAny_pure (by exact SA g V (Bn V) k)))
  (fun g hN k=>rL hB g hN (wpAny_pure (by exact SA g V (Bn V) k)))
  (fun{s l x p w T N r y t} hy g hN k=>rL hB g hN (wpAny_bind (ii (wpAny_bind (mQ (KPc.strOf_str _ _) (by exact wpAny_pure (by exact wpAny_pure (KPc.after_str g hy (abT r) k))))))))
  (fun{s l x p w T N r n u} hn uU g hN k=>rL hB g hN (wpAny_bind (ii (wpAny_bind (mQ (a:=n) V ?_)))))
  (fun{s l x p w T N r n u} hn uU g hN k=>rL hB g hN (wpAny_bind (ii (wpAny_bind (mQ (a:=n) V ?_)))))
  g h0 h1 h2 hd oP hy Ek El Em En Eo Ep rA fun g hN=>rL hB g hN (wpAny_pure (by exact KPc.finish_ok (T':=tR wd d mo y hh mm ss z) g hN V abW))) (fun J J J J=>rfl)
 ·refine wpAny_bind (wpAny_mkInt (wpAny_bind ?_));exact Sn agE (AI _ _ _) agF (agG _) (agH _ _ (HD (by kpt_hd))) ⟨agI (HD (by kpt_hd)),wpAny_bind (mQ (a:=O _) V (wpAny_pure (On (s₀:=s) (fun hF=>Ol (k:=2) hF V rfl rfl rfl rfl rfl rfl rfl hn V) (fun laid hF=>Om (k:=2) hF V rfl rfl rfl rfl rfl rfl rfl hn V) ⟨_,rfl⟩ g (Ej hn uU (by decide)) (by kpc_obj) k)))⟩
 ·refine wpAny_bind (wpAny_mkInt (wpAny_bind ?_));exact Sn agE (AI _ _ _) agF (agG _) (agH _ _ (HD (by kpt_hd))) ⟨agI (HD (by kpt_hd)),wpAny_bind (mQ (a:=O _) V (wpAny_pure (On (s₀:=s) (fun hF=>Ol (k:=4) hF V rfl rfl rfl rfl rfl rfl rfl hn V) (fun laid hF=>Om (k:=4) hF V rfl rfl rfl rfl rfl rfl rfl hn V) ⟨_,rfl⟩ g (Ej hn uU (by decide)) (by kpc_obj) k)))⟩
end
section
noncomputable def cF:aD Str:=["Mon","Tue","Wed","Thu","Fri","Sat","Sun"]
noncomputable def cH:aD Str:=["Jan","Feb","Mar","Apr","May","Jun","Jul","Aug","Sep","Oct","Nov","Dec"]
noncomputable def nd:aD Str→Es
 |[] => .nil|x::r=> .cons (.str x) (nd r)
noncomputable def Er:Tb:=[(aH "timetuple",aF),(aH "zone",aF)]
theorem abX:iq (aK 3) 2 Er=true:=by decide+kernel
noncomputable def lu(k:Z):E:= .sub (.nm 0) (.int k)
noncomputable def Oo:E:= .tup (.cons (.sub (.lst (nd cF)) (lu 6)) (.cons (lu 2) (.cons (.sub (.lst (nd cH)) (.bin .Sub (lu 1) (.int 1))) (.cons (lu 0) (.cons (lu 3) (.cons (lu 4) (.cons (lu 5) (.cons (.nm 1) .nil))))))))
theorem abY:∃F z p q e r,(aK 3).body=[.Return (O (.BinOp (.Constant (.str F) z p) .Mod e q)) r]∧F=tQ∧bC (aK 3).scope Er Oo e=true:=⟨_,_,_,_,_,_,rfl,by decide+kernel,by decide+kernel⟩
theorem Op(P:bT)(a:Sg):∀l:aD Str,gB P a (nd l)=O (l.map .str)
 |[] =>rfl|x::r=>bW V (Op P a r)
theorem Oq:∀l:aD Str,kU (l.map PV.str)=aF
 |[] =>rfl| _::r=>Oq r
theorem wi(P:bT)(a:Sg)(l:aD Str)(h:l.length≤1000):ev P a (.lst (nd l))=O (.lst (l.map .str)):=
 nO (Op P a l) (by refine M (bQ ..) ?_;exact h) (Oq l)
theorem nY{a:aG (aD PV)}{l:aD Str}{k:aA}{x:Str}(b:l.length≤1000)(h:l[k]? =O x):jn a (.lst (l.map .str)) (.int (k:Z))=O (.str x):=by have c:k < l.length:=(l6.mp h).1;show aZ _ _=_;refine M (bB (by refine M (bQ ..) (M cN ?_);exact aL b (by decide))) (M (rm (by refine M (bQ ..) ?_;exact c)) (M (xG ..) (M ij (M h ?_))));rfl
theorem abZ{E:aJ→aM→Prop}(c:IsTup s.heap b d)
  (f:Meets (Builtin.«str.__mod__» ⟨[.str tQ t,.ref b],[]⟩) (fun J R s=>IsTup s.heap b d∧∀a k,R (.ok (.ret (.str T a))) {s with toks:=k}))
  (h:∀a k,Q (.str T a) {s with toks:=k}):aN (aO pg w) A (sf .Mod (.str tQ t) (.ref b)) Q E s:=by
 have g:s.TypeIs (.ref b) "tuple":=by(refine dB c ?_;clear c;rintro o i j _);exact⟨o,i,j⟩
 exact KPt.bin_left (T:="str") (U:="tuple") (op:= .Mod) (by decide) (pE s tQ t) g F.fills_str_mod KPt.fills_tuple agJ
  (xk agJ (pE s tQ t) F.entry_str_mod (F.args_str_mod_2 _ _) f ⟨c,fun a k=>⟨(fun e=>(by contradiction)),h a k⟩⟩)
@[elab_as_elim] theorem bK.eS{w:aV}{K:PK}{C:aD aJ→Prop}{l:aD aJ}{x:Str}{r:aD PV}(h:bK w K l (.str x::r))(k:∀t a,bK w K a r→C (.str x t::a)):C l:=by(refine cS h.ml ?_;rintro v l rfl q b);(refine xe q.str_inv ?_;rintro t rfl);exact k t l b
@[elab_as_elim] theorem bK.eI{w:aV}{K:PK}{C:aD aJ→Prop}{l:aD aJ}{x:Z}{r:aD PV}(h:bK w K l (.int x::r))(k:∀t a,bK w K a r→C (.int x t::a)):C l:=by(refine cS h.ml ?_;rintro v l rfl q b);(refine xe q.int_inv ?_;rintro t rfl);exact k t l b
@[elab_as_elim] theorem bK.eN{w:aV}{K:PK}{C:aD aJ→Prop}{l:aD aJ}(h:bK w K l [])(k:C []):C l:=by cases h;exact k
noncomputable def ab0(a b c:Str)(d e f g h:Z)(l:aD aJ):Prop:=∃i j k m n o p q,l=[.str a i,.int d j,.str b k,.int e m,.int f n,.int g o,.int h p,.str c q]
theorem ab1{w:aV}{K:PK}{a b c:Str}{d e f g i:Z}{l:aD aJ}(h:bK w K l [.str a,.int d,.str b,.int e,.int f,.int g,.int i,.str c]):ab0 a b c d e f g i l:=
 h.eS fun j J h=>h.eI fun k J h=>h.eS fun m J h=>h.eI fun n J h=>h.eI fun o J h=>h.eI fun p J h=>h.eI fun q J h=>h.eS fun r J h=>h.eN ⟨j,k,m,n,o,p,q,r,rfl⟩
section
theorem ab2{w:aV}{mg mb:Str→aG aJ}{h₀:bF}{T:aD Tab}(W:Wd w mg mb h₀)(y mo d hh mm ss wd:aA)(z:Str)(hy:y < 100000)(hmo:mo < 12)(hd:d < 100)(hhh:hh < 100)(hmm:mm < 100)(hss:ss < 100)(hwd:wd < 7)(hz:z.length≤1000):
  Ct w mg mb h₀ T 1 "_format_timetuple_and_zone" [.tup [.int (y:Z),.int ((mo:Z)+1),.int (d:Z),.int (hh:Z),.int (mm:Z),.int (ss:Z),.int (wd:Z)],.str z] (.str (tR (cF.getD wd ⟨#[]⟩) d (cH.getD mo ⟨#[]⟩) y hh mm ss z)):=by
 refine W.by (n:=0) (i:=3) (P:=bJ) (rest:=[]) (k:=2) (tb:=Er) (by decide) ⟨_,rfl⟩ V abX (fun vs J J J h=>pU (fun J J=>rfl) vs h) fV (fun J J J=>nn) V ?_ V;intro A cx K m s e1 e2 e3 e4 Y G;subst e1 e2 e3 e4;obtain⟨F,zz,p,q,e,r,hb,rfl,he⟩:=abY;refine M hb ?_
 let tt:PV:= .tup [.int (y:Z),.int ((mo:Z)+1),.int (d:Z),.int (hh:Z),.int (mm:Z),.int (ss:Z),.int (wd:Z)]
 have hwl:wd < cF.length:=hwd;have hml:mo < cH.length:=hmo;have g1:cF[wd]? =O (cF.getD wd ⟨#[]⟩):=by refine M ik (M (fC hwl) ?_);rfl
 have g2:cH[mo]? =O (cH.getD mo ⟨#[]⟩):=by refine M ik (M (fC hml) ?_);rfl
 have sl:∀x∈cF++cH,x.length≤3:=by decide+kernel
 have l1:(cF.getD wd ⟨#[]⟩).length≤3:=sl _ (kR _ (kq g1));have l2:(cH.getD mo ⟨#[]⟩).length≤3:=sl _ (j5 _ (kq g2));generalize cF.getD wd ⟨#[]⟩=dn at g1 l1 ⊢;generalize cH.getD mo ⟨#[]⟩=mn at g2 l2 ⊢
 have sub:∀mu (k:aA) x,k < 7→[PV.int (y:Z),.int ((mo:Z)+1),.int (d:Z),.int (hh:Z),.int (mm:Z),.int (ss:Z),.int (wd:Z)][k]? =O x→jn mu tt (.int (k:Z))=O x:=by intro mu k x hk hx;show aZ _ _=_;exact M (bB (by refine M cN ?_;show 7≤16777216;decide)) (M (rm (by simpa using hk)) (M (xG ..) (M hx V)))
 have pe:ev bJ {loc:=[O tt,O (.str z)]} Oo=O (.tup [.str dn,.int d,.str mn,.int y,.int hh,.int mm,.int ss,.str z]):=by
  have s0:=fun mu=>sub mu 0 _ (by decide) V;have s1:=fun mu=>sub mu 1 _ (by decide) V;have s2:=fun mu=>sub mu 2 _ (by decide) V;have s3:=fun mu=>sub mu 3 _ (by decide) V;have s4:=fun mu=>sub mu 4 _ (by decide) V;have s5:=fun mu=>sub mu 5 _ (by decide) V;have s6:=fun mu=>sub mu 6 _ (by decide) V;have em:((mo:Z)+1 - 1)=(mo:aA):=agK _ _;have d1:∀mu,jn mu (.lst (cF.map .str)) (.int (wd:Z))=O (.str dn):=fun mu=>nY (by decide) g1;have d2:∀mu,jn mu (.lst (cH.map .str)) (.int ((mo:Z)+1 - 1))=O (.str mn):=fun mu=>by refine M em ?_;exact nY (by decide) g2
  have k1:=wi bJ {loc:=[O tt,O (.str z)]} cF (by decide);have k2:=wi bJ {loc:=[O tt,O (.str z)]} cH (by decide);generalize tt=tt at s0 s1 s2 s3 s4 s5 s6 k1 k2;have a0:ev bJ {loc:=[O tt,O (.str z)]} (lu 0)=O (.int y):=s0 aB;have a1:ev bJ {loc:=[O tt,O (.str z)]} (lu 1)=O (.int ((mo:Z)+1)):=s1 aB;have a2:ev bJ {loc:=[O tt,O (.str z)]} (lu 2)=O (.int d):=s2 aB;have a3:ev bJ {loc:=[O tt,O (.str z)]} (lu 3)=O (.int hh):=s3 aB;have a4:ev bJ {loc:=[O tt,O (.str z)]} (lu 4)=O (.int mm):=s4 aB;have a5:ev bJ {loc:=[O tt,O (.str z)]} (lu 5)=O (.int ss):=s5 aB;have a6:ev bJ {loc:=[O tt,O (.str z)]} (lu 6)=O (.int wd):=s6 aB;refine tu (bW (hV k1 a6 (d1 aB)) (bW a2 (bW (hV k2 (bM a1 V my) (d2 aB)) (bW a0 (bW a3 (bW a4 (bW a5 (bW V ir)))))))) (by show 8≤1000;decide) V
 refine wpAny_execs_cons (nv (wpAny_BinOp (sm (((cY Y _ e he).ev pe (G.of (.refl K) G.F.tok)).then fun K1 v1 s1 k1 F1 b1 r1=> ?_))));(refine il r1.sG ?_;rintro a o its nn rfl h1 h2 h3 h4);refine H2 (ab1 h4) fun t0 t1 t2 t3 t4 t5 t6 t7 e=> ?_;obtain⟨its⟩:=its;obtain rfl:its=_:=e;exact abZ ⟨o,F1.keep _ _ h1,h2,nn,h3⟩ (abV dn mn z d y hh mm ss _ t0 t1 t2 t3 t4 t5 t6 t7 a (aL l1 (by decide)) (aL l2 (by decide)) (aL hz (by decide)) (cW _) (dM (dZ.mpr hd) (by decide)) (cW _) (dM (dZ.mpr hy) (by decide)) (cW _) (dM (dZ.mpr hhh) (by decide)) (cW _) (dM (dZ.mpr hmm) (by decide)) (cW _) (dM (dZ.mpr hss) (by decide))) fun t' k=>⟨K1,m,aB,_,k1,rfl,F1.tok,.str⟩
end
end
section
open Sem (wp)
section
variable{K:PK}
theorem Fm.sub{S:aD aW}{d:aM}(F:Fm c K m l s)(i:∀b∈S,dQ c K l b)(C:PK.le K f)(D:∀b o,f b=O o→d.heap.get? b=O o)(p:∀b o,f b=O o→K b=O o∨s.heap.get? b=aB)
  (g:∀b o,Off c.T b→b∉S→s.heap.get? b=O o→d.heap.get? b=O o) (E:d.os=s.os) (G:iQ s.gens d.gens) (H:∀t∈c.T,t.Ok f d.heap):Fm c f m l d:=by
 have dH:Off c.T c.env.locals:=F.off F.cX
 have j:∀b,(∃o,s.heap.get? b=O o)→K b=aB→f b=none:=fun b ⟨o,e⟩ h=>by
  cases k:f b with
  |none=>rfl
  |some I=>
   rcases p _ _ k with z |z
   ·replace z:=h▸z;cases z
   ·replace z:=e▸z;cases z
 refine{ns:= ?_,keep:=D,dH:= ?_,low:=F.low,le:=F.le.trans C,cT:=fun b o n e=>g b o n (fun h=>by replace e:=((i b h).nE)▸e;cases e) (F.cT b o n e),new:=fun b o e=> ?_,cX:=F.cX,mul:=fun a L N e=> ?_,gens:=F.gens.trans G,os:=E.trans F.os,base:=F.base,dO:=fun t u=> ?_,eX:=F.eX,tabs:=H}
 ·exact eP F.ns fun o v w e r=>⟨o,v,w,g _ _ dH (fun h=>(i _ h).nl V) e,r⟩
 ·exact eP F.ns fun o v w e r=>j _ ⟨_,e⟩ F.dH
 ·rcases p b o e with z |z
  ·exact F.new b o z
  ·refine .inr ?_;cases k:c.hE.get? b with
   |none=>rfl|some I=>(refine xe (F.there k) ?_;rintro U q);replace q:=z▸q;exact nn q
 ·(refine dW (F.mul a L N e) ?_;rintro⟨⟨o,x,P⟩,Q⟩ R T y);have A:=F.off y;have B:a∉S:=fun q=>(i _ q).nm (by refine M e ?_;rfl);exact⟨⟨⟨o,g _ _ A B x,P⟩,fun q=>(Q q).at fun J=>g _ _ A B⟩,j _ ⟨_,x⟩ R,T,y⟩
 ·exact j _ (F.tabs t u).some (F.dO t u)
noncomputable def cE(c:Cx)(K:PK)(s:aM)(a:dN)(b:aD (Str×aW))(C:aW):Cx:={c with fH:=K,hE:=cut s.heap C,env:=oH a b C c.env,io:=s.gens}
theorem Ot(F:Fm c K m mu s)(hC:dQ c K mu C)(hn:s.heap.Ns C mE):Fm (cE c K s scope cl C) K mE aB s:=
 {ns:=hn,keep:=F.keep,dH:=hC.un,low:=fun b o q=>F.le _ _ (F.low b o q),le:= .refl K,cT:=fun b o J q=>by
   have nb:b≠C:=fun z=>by subst z;rw[show(cE c K s scope cl b).hE=cut s.heap b from rfl,sZ] at q;exact nn q
   rw[show(cE c K s scope cl C).hE=cut s.heap C from rfl,oV nb] at q;exact q
  new:=fun b o q=> .inl q,cX:=sZ,mul:=fun J J J q=>((by contradiction)),gens:= .refl F.gens.bare,os:=F.os,base:=F.base,dO:=F.dO,eX:=fun t ht=>by refine xe ((F.tabs t ht).some) fun o q=> ?_;have nb:t.P≠C:=F.off hC.nE t ht;exact⟨o,(oV nb).trans q⟩
  tabs:=F.tabs}
theorem Ou{f:aM}(F:Fm c K m g s)(n:dQ c K g C)(k:PK.le K e)(a:Fm (cE c K s t u C) e p aB f):
  Fm c e m g f∧(∀b o,b≠C→Off c.T b→s.heap.get? b=O o→f.heap.get? b=O o)∧f.heap.Ns C p∧(∀b,dQ c K g b→(∃o,s.heap.get? b=O o)→dQ c e g b):=by
 have j:∀b o,b≠C→Off c.T b→s.heap.get? b=O o→f.heap.get? b=O o:=fun b o h i q=>a.cT b o i ((oV h).trans q)
 have l:∀b o,e b=O o→K b=O o∨(b≠C∧s.heap.get? b=aB):=fun b o q=>by
  have h:b≠C:=fun z=>by have:=a.dH;replace q:=z▸q;replace q:=(show e C=aB from this)▸q;cases q
  rcases a.new b o q with z |z
  ·exact .inl z
  ·exact .inr ⟨h,(oV h).symm.trans z⟩
 refine⟨F.sub (S:=[C]) (fun b d=>by refine M (fK.mp d) ?_;exact n) k a.keep (fun b o q=>(l b o q).imp id And.right) (fun b o i d q=>j b o (by simpa using d) i q) (a.os.trans F.os.symm) a.gens a.tabs,j,a.ns,fun b d ⟨o,q⟩=>⟨?_,d.nl,d.nm,d.nE⟩⟩;cases z:e b with
 |none=>rfl
 |some r=>
  rcases l b r z with y |⟨_,y⟩
  ·replace y:=d.un▸y;cases y
  ·replace y:=q▸y;cases y
end
end
section
open Sem (wp)
section
variable{K:PK}
structure pk(w:aV)(c:Cx)(K:PK)(P:bT)(scope:dN)(cl:aD (Str×aW))(x:Str)(elt:Expr)(ifs:aD Expr)(qu:Tb)(fr:aD (aG PV))(zs:aD PV)(iy:PV→aU)(f:PV→PV)(ee:E):Prop where
 sc:jc (uM scope c.env) qu=aF
 x0:qu[0]? =O (x,aF)
 Et:∀i y k p,qu[i+1]? =O (y,k)→fr[i]? =O (O p)→k=aI∧∃ca o v,cl.lookup y=O ca∧K ca=O o∧o.data= .cell (O v)∧RV w K aB v p
 ts:∀p∈zs,(ifs=[]∧iy p=aF)∨∃t te,ifs=[t]∧bC (uM scope c.env) qu te t=aF∧(ev P {loc:=O p::fr} te).bind truth=O (iy p)
 el:bC (uM scope c.env) qu ee elt=aF
 ev:∀p∈zs,iy p=aF→ev P {loc:=O p::fr} ee=O (f p)
inductive CompI(w:aV)(c:Cx)(K:PK)(m:Str→aG aJ)(mu:Mu)(hs:bF)(I D C:aW)(St:aA→bF→Prop)(zs:aD PV)(iy:PV→aU)(f:PV→PV)(left:aA)(s1:aM):Prop
 |mk (K1:PK) (mE:Str→aG aJ) (its:aD aJ) (k:PK.le K K1) (F:Fm c K1 m mu s1) (n:s1.heap.Ns C mE) (p:s1.heap.PlainList D (AC its)) (r:bK w K1 its (((zs.take (zs.length - left)).filter iy).map f)) (hle:left≤zs.length) (hS:St (zs.length - left) s1.heap) (oI:dQ c K1 mu I) (oD:dQ c K1 mu D) (oC:dQ c K1 mu C) (kb:KB c mu hs s1.heap):
   CompI w c K m mu hs I D C St zs iy f left s1
inductive Ov(w:aV)(c:Cx)(K1:PK)(m:Str→aG aJ)(mu:Mu)(h3:bF)(C:aW)(mE:Str→aG aJ)(b ok:aU)(s4:aM):Prop
 |mk (e:ok=b) (K4:PK) (k:PK.le K1 K4) (F:Fm c K4 m mu s4) (kp:∀b o,b≠C→Off c.T b→h3.get? b=O o→s4.heap.get? b=O o) (n:s4.heap.Ns C mE) (of:∀b,dQ c K1 mu b→(∃o,h3.get? b=O o)→dQ c K4 mu b):Ov w c K1 m mu h3 C mE b ok s4
theorem ab3(Y:Hyp w A c sc tb P n){iter:Expr}
  (X:pk w c K P scope cl x elt ifs qu fr zs iy f ee) (C0:scope.kind= .function) (hlx:scope.names.lookup x=O .local) {St:aA→bF→Prop} (W:GP pg w A I fp [I] zs.length Pv St)
  (hP:∀(K1:PK) (j:aA) (v:aJ) (p:PV),PK.le K K1→Pv j v→zs[j]? =O p→RV w K1 .none v p) (rh:∀b∈fp,b=I∨∃o,K b=O o) (Ch:∀j h,St j h→∃o,h.get? I=O o) (Eu:I≠D) (qv:I≠C) (zt:D≠C)
  (hlen:zs.length≤1000000) (hI:hs.get? I=aB) (hD:hs.get? D=aB) (hC:hs.get? C=aB) (F0:Fm c K m mu s) (oI:dQ c K mu I) (oD:dQ c K mu D) (oC:dQ c K mu C) (pj:s.heap.Ns C mE)
  (tS:s.heap.PlainList D #[]) (ta:St 0 s.heap) (Ci:KB c mu hs s.heap)
  (hR:∀K1 s' its mE',PK.le K K1→Fm c K1 m mu s'→s'.heap.Ns C mE'→s'.heap.PlainList D its.toArray→bK w K1 its ((zs.filter iy).map f)→dQ c K1 mu D→dQ c K1 mu C→KB c mu hs s'.heap→R (.ok .next) s'):
  pI (aO pg w) A (.compLoop (.ListComp elt [⟨.Name x px,iter,ifs,0⟩] scope pos) 0 (.ref I) (.ref D) (oH scope cl C c.env)) R s:=by
 have hkx:(oH scope cl C c.env).kindOf x=O .local:=lookup_relabel_local hlx
 have hp:((oH scope cl C c.env).scope.kind== .class ||((oH scope cl C c.env).scope.kind== .module && (oH scope cl C c.env).locals !=(oH scope cl C c.env).globals))=false:=by refine(M C0 ?_:(scope.kind== .class ||(scope.kind== .module && _))=aI);rfl
 have YE:∀K1 s1,Hyp w A (cE c K1 s1 scope cl C) (uM scope c.env) qu P n:=fun K1 s1=>⟨Y.hh,Y.hd,Y.hu,⟨rfl,X.sc,Y.H.globals,Y.H.builtins⟩,⟨Y.S.gk,Y.S.call,Y.S.bi⟩⟩;refine codeAny_compLoop_tests (I:=CompI w c K m mu hs I D C St zs iy f) (fun left s1 vd=> ?_) zs.length ⟨K,mE,[],.refl K,F0,pj,tS,by refine M (pJ ..) ?_;exact .nil,bZ _,by refine M (pJ ..) ?_;exact ta,oI,oD,oC,Ci⟩;obtain⟨K1,tT,its,k1,F1,Ow,Ox,rM,hle,oW,oI,oD,oC,kb1⟩:=vd
 have ab4:its.length≤1000000:=by refine M rM.length (M (bQ ..) ?_);exact aL (agL ..) (aL (List.length_take_le ..) (qS (xI hlen)))
 have one:∀{b:aW} {s1:aM} {K1:PK} {h':bF} {tk:aA},Fm c K1 m mu s1→dQ c K1 mu b→(∀q o,q≠b→s1.heap.get? q=O o→h'.get? q=O o)→Fm c K1 m mu {s1 with heap:=h',toks:=tk}:=fun{b} {s1} {K1} {h'} {tk} F o hk=>
  F.others (S:=[b]) (s':={s1 with heap:=h',toks:=tk}) (fun q hq=>by refine M (fK.mp hq) ?_;exact o) (fun q o hq z=>hk q o (by simpa using hq) z) F.gens V
 have zu:∀{b:aW} {h h':bF},KB c mu hs h→hs.get? b=aB→(∀q o,q≠b→h.get? q=O o→h'.get? q=O o)→KB c mu hs h':=fun{b} {h} {h'} kb hb hk q o z n1 n2 n3=>hk q o (fun y=>by(replace z:=y▸z;replace z:=hb▸z);exact nn z) (kb q o z n1 n2 n3);cases left with
 |zero=>
  rw[so] at oW rM;replace rM:=Av▸rM;refine W.done s1 _ _ oW fun h' tk hk=> ?_;have kY:∀q o,q≠I→s1.heap.get? q=O o→h'.get? q=O o:=fun q o hq z=>hk q o (by simpa using hq) z;exact hR K1 {s1 with heap:=h',toks:=tk} its tT k1 (one F1 oI kY) (Ow.at' fun o z=>kY C o (Ne.symm qv) z) (Ox.at fun o z=>kY D o (Ne.symm Eu) z) rM oD oC (zu kb1 hI kY)
 |succ l=>
  have hj:zs.length - (l+1) < zs.length:=aeY (bL (ow _) hle) (ow _);have Oy:zs.length - (l+1)+1=zs.length - l:=Eq.symm (xN hle);refine W.item _ s1 _ _ hj oW fun v h' tk Ck nJ hk=> ?_;have kY:∀q o,q≠I→s1.heap.get? q=O o→h'.get? q=O o:=fun q o hq z=>hk q o (by simpa using hq) z;replace nJ:=Oy▸nJ;obtain⟨p,rs⟩:∃p,zs[zs.length - (l+1)]? =O p:=⟨_,fC hj⟩;have Oz:p∈zs:=kq rs;have qX:RV w K1 .none v p:=hP K1 _ v p k1 Ck rs;have F2:Fm c K1 m mu {s1 with heap:=h',toks:=tk}:=one F1 oI kY;have NL:h'.Ns C tT:=Ow.at' fun o z=>kY C o (Ne.symm qv) z;have hl2:h'.PlainList D its.toArray:=Ox.at fun o z=>kY D o (Ne.symm Eu) z;have kb2:=zu kb1 hI kY;obtain⟨oIo,hIo⟩:=Ch _ _ nJ;refine agM (uw (m:=tT) hkx NL (fun h3 Ew Ex=> ?_) hp);have tU:∀q o,q≠C→h'.get? q=O o→h3.get? q=O o:=fun q o hq z=>Ex.extBut q o hq z;have F3:Fm c K1 m mu {s1 with heap:=h3,toks:=tk+1}:=one (s1:={s1 with heap:=h',toks:=tk}) F2 oC tU;have OA:h3.PlainList D its.toArray:=hl2.at fun o z=>tU D o zt z;have td:=zu kb2 hC tU
  have yn:St (zs.length - l) h3:=W.frame _ _ _ nJ fun b hb o z=>by
   rcases rh b hb with rfl |⟨o',nK⟩
   ·exact tU _ o qv z
   ·exact tU b o (fun y=>by subst y;have:=k1 _ _ nK;replace this:=oC.un▸this;exact nn this) z
  have vf:∃o,h3.get? I=O o:=⟨_,tU I _ qv hIo⟩;have OB:∃o,h3.get? D=O o:=xe OA fun J z=>⟨_,z⟩;have OC:∃o,h3.get? C=O o:=eP Ew fun o J J z J=>⟨o,z⟩;have tc:=F3.off oI.nE;have ab5:=F3.off oD.nE
  have LE:∀K2,PK.le K1 K2→RL w K2 (oH scope cl C c.env) aB qu (fun z=>if z=x then O v else tT z) (O p::fr):=by
   intro K2 k2 i y k q hi hq;cases i with
   |zero=>
    replace hi:=X.x0▸hi;cases hi;cases hq;exact⟨v,aR V,qX.mono k2⟩
   |succ i=>
    (refine BC (X.Et i y k q hi hq) ?_;rintro rfl ca o u e1 e2 e3 r);exact⟨ca,o,u,e1,(k1.trans k2) _ _ e2,e3,r.mono (k1.trans k2)⟩
  have next:∀(K2:PK) (s2:aM) (its':aD aJ),PK.le K1 K2→Fm c K2 m mu s2→s2.heap.Ns C (fun z=>if z=x then O v else tT z)→s2.heap.PlainList D its'.toArray→bK w K2 its' (((zs.take (zs.length - l)).filter iy).map f)→(∀b∈fp,∀o,h3.get? b=O o→s2.heap.get? b=O o)→
    dQ c K2 mu I→dQ c K2 mu D→dQ c K2 mu C→KB c mu hs s2.heap→∃q,q < l+1∧CompI w c K m mu hs I D C St zs iy f q s2:=fun K2 s2 its' k2 F n2 l2 r2 hf oI oD oC kb=>
   ⟨l,lJ l,K2,_,its',k1.trans k2,F,n2,l2,r2,by exact qz hle,W.frame _ _ _ yn hf,oI,oD,oC,kb⟩
  have mB:(zs.take (zs.length - l)).filter iy=(zs.take (zs.length - (l+1))).filter iy++(if iy p then [p] else []):=by refine aS Oy ?_;exact take_succ_filter iy zs _ p rs
  have OD:∀{K2:PK} {s2:aM},PK.le K1 K2→Fm c K2 m mu s2→(∀o,h3.get? I=O o→s2.heap.get? I=O o)→∀b∈fp,∀o,h3.get? b=O o→s2.heap.get? b=O o:=fun k2 F hi b hb o z=>by
   rcases rh b hb with rfl |⟨o',nK⟩
   ·exact hi o z
   ·have e1:=F3.keep b o' (k1 _ _ nK);have e1:h3.get? b=O o':=e1;replace z:=e1▸z;cases z;exact F.keep b _ (k2 _ _ (k1 _ _ nK))
  have test:aN (aO pg w) A (forIn ifs aF fun cc r=>if r=aF then do let ok ←sk cc (oH scope cl C c.env) (eval cc (oH scope cl C c.env));pure (Ax ok) else pure (Ax r))
    (Ov w c K1 m mu h3 C (fun z=>if z=x then O v else tT z) (iy p)) (fun J J=>bO) {s1 with heap:=h3,toks:=tk+1}:=by
   rcases X.ts p Oz with⟨rfl,ht⟩ |⟨t,te,rfl,ho,ht⟩
   ·exact wpAny_tests_nil ⟨ht.symm,K1,.refl K1,F3,fun b o J J z=>z,Ew,fun J o J=>o⟩
   ·refine wpAny_tests_one (((cY (YE K1 {s1 with heap:=h3,toks:=tk+1}) te t ho).2 (iy p) ht).then (Ot F3 oC Ew) (LE K1 (.refl K1)) .none fun K4 s4 k4 F4 b4=> ?_);exact dW (Ou F3 oC k4 F4) fun G4 q1 q2 q3=>⟨rfl,K4,k4,G4,q1,q2,q3⟩
  refine wpAny_mono test (fun ok s4 h4=> ?_) fun J J q=>q.elim;obtain⟨rfl,K4,k4,F4,wj,Ey,tV⟩:=h4;have Ez:s4.heap.PlainList D its.toArray:=OA.at fun o z=>wj D o zt ab5 z;have ip:KB c mu hs s4.heap:=fun q o z n1 n2 n3=>wj q o (fun y=>by(replace z:=y▸z;replace z:=hC▸z);exact nn z) n3 (td q o z n1 n2 n3);cases ht:iy p with
  |false=>
   (replace mB:=ht▸mB;replace mB:=(aP cL)▸mB;replace mB:=(jS ..)▸mB);exact next K4 s4 its k4 F4 Ey Ez (by refine M mB ?_;exact rM.mono k4) (OD k4 F4 fun o z=>wj I o qv tc z) (tV I oI vf) (tV D oD OB) (tV C oC OC) ip
  |true=>
   (replace mB:=ht▸mB;replace mB:=(aR V)▸mB);have EA:=tV C oC OC;have OE:=tV D oD OB;have OF:=tV I oI vf;refine((cY (YE K4 s4) ee elt X.el).ev (X.ev p Oz ht) ⟨Ot F4 EA Ey,LE K4 k4,.none,fun J J J q=>(by cases q)⟩).then fun K5 y s5 k5 F5 b5 r5=>dW (Ou F4 EA k5 F5) fun G5 q1 q2 q3=> ?_
   have ab6:=F4.off OF.nE;have ab7:=F4.off OE.nE;have hD4:∃o,s4.heap.get? D=O o:=xe Ez fun J z=>⟨_,z⟩;have hI4:∃o,s4.heap.get? I=O o:=xe vf fun o z=>⟨o,wj I o qv tc z⟩;have hC4:∃o,s4.heap.get? C=O o:=eP Ey fun o J J z J=>⟨o,z⟩;have hl5:s5.heap.PlainList D its.toArray:=Ez.at fun o z=>q1 D o zt ab7 z;refine ae6 hl5 (fun h6 yX hs6=> ?_) (by refine M kO (M cN ?_);exact aL ab4 (by decide));have zv:∀q o,q≠D→s5.heap.get? q=O o→h6.get? q=O o:=fun q o hq z=>hs6.extBut q o hq z;have OG:=q3 D OE hD4;have F6:Fm c K5 m mu {s5 with heap:=h6}:=one (tk:=s5.toks) G5 OG zv;have kb5:KB c mu hs s5.heap:=fun q o z n1 n2 n3=>q1 q o (fun y=>by(replace z:=y▸z;replace z:=hC▸z);exact nn z) n3 (ip q o z n1 n2 n3);refine next K5 {s5 with heap:=h6} (its++[y]) (k4.trans k5) F6 (q2.at' fun o z=>zv C o (Ne.symm zt) z) (by refine aS (List.push_toArray ..) ?_;exact yX) (by refine M mB (M iA ?_);exact(rM.mono (k4.trans k5)).append (.cons r5 .nil)) (OD (k4.trans k5) F6 fun o z=>zv I o Eu (q1 I o qv ab6 (wj I o qv tc z))) (q3 I OF hI4) OG (q3 C EA hC4) (zu kb5 hD zv)
end
end
section
open Sem (wp)
section
variable{w:aV}{A:bX}{c:Cx}{K:PK}{m:Str→aG aJ}{mu:Mu}{s:aM}{sc:dN}{tb:Tb}{σ:Sg}{P:bT}{n:aA}
structure zw(w:aV)(A:bX)(c:Cx)(K:PK)(m:Str→aG aJ)(mu:Mu)(s:aM)(zs:aD PV)(I:aW)(fp:aD aW)(Pv:aA→aJ→Prop)(St:aA→bF→Prop):Prop where
 F:Fm c K m mu s
 W:GP pg w A I fp [I] zs.length Pv St
 hP:∀(K1:PK) (j:aA) (v:aJ) (p:PV),PK.le K K1→Pv j v→zs[j]? =O p→RV w K1 .none v p
 rh:∀b∈fp,b=I∨∃o,K b=O o
 ta:∀j h,St j h→∃o,h.get? I=O o
 st:St 0 s.heap
 oI:dQ c K mu I
theorem OH(a6:Hyp w A c sc tb P n){scope:dN}{z:aD (Str×aW)}{x:Str}{U W:bG}{B iter:Expr}{G:aD Expr}{a7:Tb}{a8:aD (aG PV)}{l:aD PV}{X:PV→aU}{f:PV→PV}{a9:E}
  (a':pk w c K P scope z x B G a7 a8 l X f a9) (Y:scope.kind= .function) (aa:∀y∈scope.names,y.2≠ .cell) (ab:scope.names.lookup x=O .local) {I:aW} {ae:aD aW} {af:aA→aJ→Prop} {St:aA→bF→Prop} (d:zw w A c K m mu s l I ae af St)
  (ah:l.length≤1000000) {i:bF} (ai:i.get? I=aB) (a0:KB c mu i s.heap) {RR:aJ→aW→Result→aM→Prop}
  (aj:∀D C g h p H,PK.le K g→Fm c g m mu h→h.heap.Ns C H→h.heap.PlainList D p.toArray→bK w g p ((l.filter X).map f)→dQ c g mu D→dQ c g mu C→D≠C→i.get? C=aB→KB c mu i h.heap→RR (.ref D) C (.ok .next) h):
  aN (aO pg w) A (R9 []) (fun a1 j=>aN (aO pg w) A (newFunctionEnv scope c.env.globals z [] c.env.qual aB .none (O c.env)) (fun a2 ak=>
   pI (aO pg w) A (.compStart (.ListComp B [⟨.Name x U,iter,G,0⟩] scope W) 0 (.ref I) a1 {a2 with scope:=uM scope c.env}) (RR a1 a2.locals) ak) (fun J J=>bO) j) (fun J J=>bO) s:=by
 have F:=d.F;refine nr (Si aa (by intro y al;simp at al) (fun q L r=> ?_) Y);dsimp only at L r ⊢;generalize N:s.heap.push {cls:= .type "list",dict:=aB,data:= .seq ([] :aD aJ).toArray}=k at L r ⊢;have Q:k.objs.size=s.heap.objs.size+1:=aS N (M (xt ..) V);have R:s.heap.objs.size≠k.objs.size:=by refine M Q ?_;exact fG (lJ _)
 have a3:s.heap.objs.size≤s.heap.objs.size:=bZ _;have t:s.heap.objs.size≤k.objs.size:=by refine M Q ?_;exact uI _
 have u:∀b o,s.heap.get? b=O o→q.get? b=O o:=fun b o e=>r.extBut b o (by refine M Q ?_;exact fG (sv (fA e))) (eV _ (N▸eV _ e));have am:q.PlainList s.heap.objs.size #[] :=⟨_,r.extBut _ _ R (eV _ (N▸fP _ V))⟩;obtain⟨b3,an⟩:=d.ta _ _ d.st;have a4:I < s.heap.objs.size:=fA an;have ao:∀a,s.heap.objs.size≤a→s.heap.get? a=none:=fun a v=>xX v
 have a5:∀j:aM,j={s with heap:=q,toks:=s.toks+([] :aD (Str×aJ)).length}→pI (aO pg w) A (.compLoop (.ListComp B [⟨.Name x U,iter,G,0⟩] scope W) 0 (.ref I) (.ref s.heap.objs.size) (oH scope z k.objs.size c.env)) (RR (.ref s.heap.objs.size) k.objs.size) j:=by
  rintro j rfl;have ap:Fm c K m mu {s with heap:=q,toks:=s.toks+([] :aD (Str×aJ)).length}:=F.grow u
  have S:∀a,s.heap.objs.size≤a→i.get? a=none:=fun a v=>by
   have T:=dQ.fresh F v;cases aq:i.get? a with
   |none=>rfl|some o=>have:=a0 a o aq T.nl T.nm (F.off T.nE);replace this:=(ao a v)▸this;exact nn this
  exact ab3 a6 a' Y ab d.W d.hP d.rh d.ta (fG a4) (fG (bL a4 t)) R ah ai (S _ a3) (S _ t) ap d.oI (.fresh F a3) (.fresh F t) L am
   (d.W.frame _ _ _ d.st fun b J o e=>u b o e) (fun b o e ar as au=>u b o (a0 b o e ar as au)) fun g h p H av aw ax ay az b0 b1 b2=>aj _ _ g h p H av aw ax ay az b0 b1 R (S _ t) b2
 exact codeAny_compStart_list (a5 _ V) (d.W.self 0 _ _ _ (d.W.frame _ _ _ d.st fun b J o e=>u b o e) (a5 _ V))
theorem PlainList.known{h:bF}{D:aW}{a:aD aJ}(b:h.PlainList D a.toArray):∃o,h.get? D=O o∧o.cls= .type "list"∧∃n,o.data= .seq a.toArray n:=by(refine xe b ?_;clear b;rintro n e);exact⟨_,e,rfl,n,rfl⟩
theorem OI{e:aD aJ}{f:aD PV}{D:aW}(F:Fm c K m mu s)(a:dQ c K mu D)(g:s.heap.PlainList D e.toArray)(h:bK w K e f):∃d,PK.le K d∧Fm c d m mu s∧RV w d mu.ad (.ref D) (.lst f)∧∀b,b≠D→dQ c K mu b→dQ c d mu b:=by refine uO (PlainList.known g) fun o i j r l=> ?_;obtain⟨k,p⟩:=F.known a.un a.nl a.nm a.nE i;exact⟨K.put D o,k,p,.lst PK.jo j l (by simpa using h.mono k),fun b q x=>⟨by unfold PK.put;refine M (aP q) ?_;exact x.un,x.nl,x.nm,x.nE⟩⟩
theorem EB(Y:Hyp w A c sc tb P n){iter:Expr}
  (N:oA a c.env=pure r) (t:a.kind= .function) (Q:∀y∈a.names,y.2≠ .cell) (R:a.names.lookup x=O .local) (S:∀y∈a.names,y.2= .local→a.names.lookup y.1=O .local)
  (T:∀x,HB iter c.env x=pure x) (U:g.length≤1000000) (X:pk w c K P a r x u v W a0 g z f a1)
  (a2:aN (aO pg w) A (eval iter c.env) (fun B D=>aN (aO pg w) A (Bf B) (fun E j=>∃h I F G St,E= .ref I∧PK.le K h∧zw w A c h m mu j g I F G St∧s.heap.get? I=aB∧KB c mu s.heap j.heap) (fun J J=>bO) D) (fun J J=>bO) s):
  dE w A c K m mu (eval (.ListComp u [⟨.Name x px,iter,v,0⟩] a pos) c.env) (.lst ((g.filter z).map f)) s:=by
 refine agN (use:=aB) V T N t S (wpAny_mono a2 (fun B D a3=>wpAny_mono a3 (fun E j H=> ?_) fun J J e=>e) fun J J e=>e);(refine BF H ?_;clear H;rintro h I F G St rfl k a4 a5 a6)
 have a7:pk w c h P a r x u v W a0 g z f a1:=⟨X.sc,X.x0,fun i y a8 a9 a' aa=>(by exact BC (X.Et i y a8 a9 a' aa) fun ab ae o af ah ai aj ak=>⟨ab,ae,o,af,ah,k _ _ ai,aj,ak.mono k⟩),X.ts,X.el,X.ev⟩
 refine OH (RR:=fun al C=>compPost (aO pg w) A (fun J J=>bO) aB _ al C) Y a7 t Q R a4 U a5 a6 ?_;intro am C an l b8 ao ap L aq ar as au av aw ax ay;refine⟨ao,aq,fun p az=> ?_⟩;have q:∀b o,b∉[C]→l.heap.get? b=O o→p.get? b=O o:=fun b o d e=>az.extBut b o (by simpa using d) e;have b0:Fm c an m mu {l with heap:=p}:=L.others (S:=[C]) (s':={l with heap:=p}) (fun b d=>by refine M (fK.mp d) ?_;exact av) q L.gens V;refine mT (OI b0 au (ar.at fun o e=>q am o (by simpa using aw) e) as) fun b1 b2 b3 b4 J=>⟨b1,(k.trans ap).trans b2,b3,fun b o e b5 b6 b7=>q b o (fun d=> ?_) (ay b o e b5 b6 b7),b4⟩;have d:=fK.mp d;subst d;replace e:=ax▸e;cases e
end
end
section
open Sem (wp)
section
variable{K:PK}
theorem OJ(F:Fm c K m mu s)(kb:KB c mu hs s.heap)(h:s.heap.objs.size≤b):hs.get? b=none:=by
 have oa:=dQ.fresh F h;cases q:hs.get? b with
 |none=>rfl|some o=>have:=kb b o q oa.nl oa.nm (F.off oa.nE);replace this:=(xX h)▸this;exact gK.nn this
noncomputable abbrev Src(w:aV)(A:bX)(c:Cx)(K:PK)(m:Str→aG aJ)(a:Mu)(s:aM)(iter:Expr)(e:aD PV):Prop:=
 aN (aO pg w) A (eval iter c.env) (fun f g=>aN (aO pg w) A (Bf f) (fun h b=>∃d I i j St,h= .ref I∧PK.le K d∧zw w A c d m a b e I i j St∧s.heap.get? I=aB∧KB c a s.heap b.heap) (fun J J=>bO) g) (fun J J=>bO) s
theorem EC(Y:Hyp w A c sc tb P n){iter:Expr}(ho:bC sc tb ei iter=aF)(pe:ev P σ ei=O (.lst zs))(G:Gd w c tb K m mu s σ):Src w A c K m mu s iter zs:=by
 refine((cY Y ei _ ho).ev pe G).then fun K1 v s1 k1 F1 b1 r1=> ?_
 (refine il r1.lst_inv ?_;rintro a ob its nn rfl g1 g2 g3 g4);have hl:s1.heap.IsList a its:=⟨ob,F1.keep _ _ g1,g2,nn,g3⟩;refine RD hl ?_;have vh:a≠s1.heap.objs.size:=fun z=>by have:=F1.keep _ _ g1;(replace this:=z▸this;replace this:=fR▸this);exact gK.nn this
 have F3:=F1.push (o:={cls:= .type "list_iterator",data:= .fields #[.ref a,.int 0 0]}) (tk:=s1.toks);have hsz:zs.length=its.size:=by refine aS g4.length ?_;exact rfl
 refine⟨K1,s1.heap.objs.size,_,_,_,rfl,k1,⟨F3,hsz▸afa Y.hh s1.heap.objs.size a vh its,fun K' j v q hk hv hj=> ?_,fun z hz=> ?_,fun j h st=> ?_,⟨?_,hl.push _⟩,.fresh F1 (bZ _)⟩,OJ F1 b1 (bZ _),b1.trans (.of_keeps ky)⟩
 ·refine aQ (g4.get hj) fun v' e2 r2=> ?_;replace e2:=pz▸e2;replace e2:=hv▸e2;cases e2;exact r2.mono hk
 ·simp at hz;rcases hz with rfl |rfl
  ·exact .inl V
  ·exact .inr ⟨ob,g1⟩
 ·refine aQ st.1 fun o e2 J=> ?_;exact⟨o,e2⟩
 ·exact⟨_,fP _ V,rfl,rfl⟩
theorem ab8(Y:Hyp w A c C k P n){iter:Expr}(D:bC C k l iter=aF)(E:ev P F l=O (.str x))(G:Gd w c k K m f s F):Src w A c K m f s iter (x.cps.toList.map fun q=> .str (one q)):=by
 refine((cY Y l _ D).ev E G).then fun H v a L g p N=> ?_
 (refine xe N.str_inv ?_;rintro t rfl)
 have r:∀(T:eA) (St:aA→bF→Prop),(∀j h,St j h→∃o,h.get? a.heap.objs.size=O o)→(∀d:bX,d.handled=aB→GP pg w d a.heap.objs.size [a.heap.objs.size] [a.heap.objs.size] x.cps.size (SignAt x) St)→∀o,St 0 (a.heap.push o)→
   ∃u I Q R St,QW a.heap.objs.size= .ref I∧PK.le K u∧zw w A c u m f {a with heap:=a.heap.push o} (x.cps.toList.map fun q=> .str (one q)) I Q R St∧s.heap.get? I=aB∧KB c f s.heap (a.heap.push o):=fun T St S U o W=>
  ⟨H,a.heap.objs.size,_,SignAt x,St,rfl,L,⟨g.push,by refine M (bQ ..) (M iL ?_);exact U A Y.hh,fun a1 j v q a2 y b=>by(refine iN y ?_;clear y;rintro a3 a4 X rfl);(replace b:=ij▸b;replace b:=pz▸b;replace b:=X▸b);cases b;exact .str,fun z a0=> .inl (fK.mp a0),S,W,.fresh g (bZ _)⟩,OJ g p (bZ _),p.trans (.of_keeps ky)⟩
 cases B:x.cps.all (· < 128)
 ·exact wpAny_pyIter_wide B (r "" _ (fun j h st=>aQ st fun o e J=>⟨o,e⟩) (fun d i=>Walks.strWide i _ x t) _ ⟨_,fP _ V,rfl,rfl⟩)
 ·exact wpAny_pyIter_ascii B (r "" _ (fun j h st=>aQ st fun o e J=>⟨o,e⟩) (fun d i=>Walks.strAscii i _ x t) _ ⟨_,fP _ V,rfl,rfl⟩)
theorem ab9(Y:Hyp w A c be k P n){iter:Expr}(T:okN k i y=aF)
  (U:ux (.ListComp l [⟨.Name x px,iter,m,0⟩] a pos) (O (.Name y py)) spos.line c.env=pure aF)
  (W:oA a c.env=pure z) (B:a.kind= .function) (a0:∀y∈a.names,y.2≠ .cell) (a1:a.names.lookup x=O .local) (a2:∀y∈a.names,y.2= .local→a.names.lookup y.1=O .local)
  (a3:∀x,HB iter c.env x=pure x) (a4:g.length≤1000000) (X:pk w c K P a z x l m a5 a6 g r f a7) (a8:Gd w c k K a9 p s D) (a':Src w A c K a9 p s iter g):
  aN (aO pg w) A (ji (.Assign [.Name y py] (.ListComp l [⟨.Name x px,iter,m,0⟩] a pos) spos) c.env) (fun aa h=>Out w c k K p s.heap aa h .next (D.put i (.lst ((g.filter r).map f)))) (fun J J=>bO) s:=by
 refine M (exec_Assign_Name_used _ _ _ _ U) <|wpAny_bind (jg (wpAny_bind ?_))
 show aN _ A (do let _ ←comprehension (.ListComp l [⟨.Name x px,iter,m,0⟩] a pos) a c.env _ (R9 []) aI (eval iter c.env) (O (AR (.Name y py) c.env))) _ _ s
 refine wpAny_bind (wpAny_mono (agN (use:=O (AR (.Name y py) c.env)) (Q:=fun J h=>Out w c k K p s.heap .next h .next (D.put i (.lst ((g.filter r).map f)))) (E:=fun J J=>bO) V a3 W B a2
  (wpAny_mono a' (fun bf bg ab=>wpAny_mono ab (fun bh bi E=> ?_) fun J J e=>e) fun J J e=>e)) (fun J h ae=>wpAny_pure (wpAny_pure ae)) fun J J e=>e)
 (refine BF E ?_;clear E;rintro af bj bk bl St rfl t ah ai aj)
 have ak:pk w c af P a z x l m a5 a6 g r f a7:=⟨X.sc,X.x0,fun i y al am an ao=>(by exact BC (X.Et i y al am an ao) fun ap aq o ar as au av aw=>⟨ap,aq,o,ar,as,t _ _ au,av,aw.mono t⟩),X.ts,X.el,X.ev⟩
 refine OH (RR:=fun ax C=>compPost (aO pg w) A (fun J J=>bO) (O (AR (.Name y py) c.env)) _ ax C) Y ak B a0 a1 ah a4 ai aj ?_;intro bm C bn h bo ay az b0 F b1 b2 b3 b4 b5 b6 b7;refine mT (OI b0 b3 b1 b2) fun G b8 H b9 b'=> ?_;have q:=b' C (Ne.symm b5) b4;have I:PK.le K G:=(t.trans az).trans b8;refine agM (kB (a8.of I H) Y.H T b9 fun u j L=> ?_);refine eP (id F) fun bp J J bq J=> ?_;have ba:=H.off q.nE;refine⟨ay,F.at' fun o e=>L C o e q.nl q.nm ba,fun v bc=> ?_⟩;have N:∀b o,b∉[C]→u.heap.get? b=O o→v.get? b=O o:=fun b o d e=>bc.extBut b o (by simpa using d) e;have bd:Fm c G _ p {u with heap:=v}:=j.F.others (S:=[C]) (s':={u with heap:=v}) (fun b d=>by refine M (fK.mp d) ?_;exact q) N j.F.gens V;refine jt I (fun b o e Q R S=>N b o (fun d=> ?_) (L b o (b7 b o e Q R S) Q R S)) .refl ⟨bd,j.L,j.Mi,j.fl⟩;have d:=fK.mp d;subst d;replace e:=b6▸e;cases e
end
end
section
noncomputable def po:aD Str:=["-0000","GMT","+0530","-0800"]
noncomputable def ED:aD Str:=[""," \""," \\\""," \"(\\\"x\""," \\\\\"q\""]
noncomputable def zx:aD Str:=[""," \""," \\\""," "," \\\\"]
noncomputable def dA:Tb:=[(aH "script",aF),(aH "cells",aF),(aH "days",aF),(aH "months",aF),(aH "weekday",aF),(aH "year",aF),(aH "month",aF),(aH "day",aF),(aH "second",aF),(aH "zone",aF),(aH "line",aF),(aH "middle",aF),(aH "end",aF),(aH "head",aF),(aH "draw",aF),(aH "body",aF),(aH "tail",aF),(aH "left",aF),(aH "text",aF),(aH "first",aF),(aH "other",aF),(aH "words",aI),(aH "prices",aF),(aH "others",aF),(aH "found",aF),(aH "i",aF),(aH "j",aF)]
noncomputable def z0:S:=(.asg 1 (.call (aH "_law_cells") (.cons (.nm 0) .nil)))
noncomputable def z1:S:=(.asg 2 (.lst (nd cF)))
noncomputable def z2:S:=(.asg 3 (.lst (nd cH)))
noncomputable def z3:S:=(.asg 4 (.bin .Mod (.bin .Add (.bin .Mod (.sub (.nm 1) (.int 0)) (.int 146097)) (.int 2)) (.int 7)))
noncomputable def z4:S:=(.jm [5,6,7] (.call (aH "_law_date") (.cons (.bin .Mod (.sub (.nm 1) (.int 0)) (.int 146097)) .nil)))
noncomputable def z5:S:=(.aug 5 .Add (.bin .Mult (.int 400) (.bin .Mod (.bin .FloorDiv (.sub (.nm 1) (.int 0)) (.int 146097)) (.int 30))))
noncomputable def z6:S:=(.asg 8 (.bin .Mod (.sub (.nm 1) (.int 1)) (.int 86400)))
noncomputable def z7:S:=(.asg 9 (.sub (.lst (nd po)) (.bin .Mod (.bin .FloorDiv (.sub (.nm 1) (.int 1)) (.int 86400)) (.int 4))))
noncomputable def z8:S:=(.asg 10 (.call (aH "_format_timetuple_and_zone") (.cons (.tup (.cons (.nm 5) (.cons (.bin .Add (.nm 6) (.int 1)) (.cons (.nm 7) (.cons (.bin .FloorDiv (.nm 8) (.int 3600)) (.cons (.bin .Mod (.bin .FloorDiv (.nm 8) (.int 60)) (.int 60)) (.cons (.bin .Mod (.nm 8) (.int 60)) (.cons (.nm 4) .nil)))))))) (.cons (.nm 9) .nil))))
noncomputable def z9:S:=(.asg 11 (.bin .Add (.bin .Add (.str (aH ", ")) (.call (aH "_law_two") (.cons (.nm 7) .nil))) (.str (aH " "))))
noncomputable def EE:S:=(.asg 12 (.bin .Add (.bin .Add (.bin .Add (.bin .Add (.str (aH " ")) (.bin .Mult (.str (aH "0")) (.bin .Sub (.int 4) (.bi "len" (.cons (.bi "str" (.cons (.nm 5) .nil)) .nil))))) (.bi "str" (.cons (.nm 5) .nil))) (.str (aH " "))) (.call (aH "_law_two") (.cons (.bin .FloorDiv (.nm 8) (.int 3600)) .nil))))
noncomputable def EF:S:=(.aug 12 .Add (.bin .Add (.bin .Add (.bin .Add (.bin .Add (.bin .Add (.str (aH ":")) (.call (aH "_law_two") (.cons (.bin .Mod (.bin .FloorDiv (.nm 8) (.int 60)) (.int 60)) .nil))) (.str (aH ":"))) (.call (aH "_law_two") (.cons (.bin .Mod (.nm 8) (.int 60)) .nil))) (.str (aH " "))) (.nm 9)))
noncomputable def EG:S:=(.ite (.cmp .NotEq (.nm 10) (.bin .Add (.bin .Add (.bin .Add (.sub (.nm 2) (.nm 4)) (.nm 11)) (.sub (.nm 3) (.nm 6))) (.nm 12))) (.cons (.ret (.bool aI))
  .nil) .nil)
noncomputable def EH:S:=(.jm [13,14] (.call (aH "_law_typed") (.cons (.call (aH "_law_harmed") (.cons (.dD (.nm 10) .none (.int 3)) (.cons (.sub (.nm 1) (.int 2)) (.cons (.int 0) (.cons (.bool aF) .nil))))) (.cons (.sub (.nm 1) (.int 3)) .nil))))
noncomputable def EI:S:=(.jm [15,14] (.call (aH "_law_typed") (.cons (.call (aH "_law_harmed") (.cons (.dD (.nm 10) (.int 8) (.int 11)) (.cons (.sub (.nm 1) (.int 2)) (.cons (.int 1) (.cons (.bool aF) .nil))))) (.cons (.nm 14) .nil))))
noncomputable def EJ:S:=(.asg 16 (.sub (.lst (nd ED)) (.bin .Mod (.sub (.nm 1) (.int 5)) (.int 5))))
noncomputable def EK:S:=(.asg 17 (.call (aH "_strip_quoted_realnames") (.cons (.bin .Add (.bin .Add (.bin .Add (.bin .Add (.nm 13) (.dD (.nm 10) (.int 3) (.int 8))) (.nm 15)) (.dD (.nm 10) (.int 11) .none)) (.nm 16)) .nil)))
noncomputable def OK:S:=(.asg 19 (.dG "join" (.str (aH "")) (.cons (.call (aH "_law_harmed") (.cons (.dG "lower" (.sub (.nm 2) (.nm 4)) .nil) (.cons (.sub (.nm 1) (.int 2)) (.cons (.int 0) (.cons (.bool aI) .nil))))) .nil)))
noncomputable def OL:S:=(.asg 20 (.dG "join" (.str (aH "")) (.cons (.call (aH "_law_harmed") (.cons (.dG "lower" (.sub (.nm 3) (.nm 6)) .nil) (.cons (.sub (.nm 1) (.int 2)) (.cons (.int 1) (.cons (.bool aI) .nil))))) .nil)))
noncomputable def zy:S:=(.ite (.cmp .NotEq (.nm 18) (.bin .Add (.bin .Add (.bin .Add (.bin .Add (.nm 19) (.nm 11)) (.nm 20)) (.dG "lower" (.nm 12) .nil)) (.sub (.lst (nd zx)) (.bin .Mod (.sub (.nm 1) (.int 5)) (.int 5))))) (.cons (.ret (.bool aI))
  .nil) .nil)
noncomputable def wk:S:=(.ite (.cmp .NotEq (.call (aH "int_from_string") (.cons (.bin .Add (.bin .Add (.bin .Add (.bin .Add (.bin .Add (.sub (.nm 21) (.int 3)) (.str (aH "_"))) (.bin .Mult (.str (aH "0")) (.int 2044))) (.str (aH "_"))) (.sub (.nm 21) (.int 1))) (.str (aH " "))) .nil)) (.bin .Add (.bin .Mult (.nm 5) (.bin .Pow (.int 10) (.int 2046))) (.nm 7))) (.cons (.ret (.bool aI))
  .nil) .nil)
noncomputable def wl:S:=(.mq 24 (.lst .nil))
noncomputable def wm:S:=(.forR 25 (.int 7) (.cons (.forR 26 (.int 12) (.cons (.ite (.bo .And (.cons (.cmp .LtE (.bin .Add (.sub (.nm 22) (.nm 25)) (.sub (.nm 23) (.nm 26))) (.int 4)) (.cons (.cmp .Eq (.call (aH "_law_weekday") (.cons (.nm 5) (.cons (.nm 26) (.cons (.nm 7) (.cons (.nm 1) .nil))))) (.nm 25)) .nil))) (.cons (.app 24 (.tup (.cons (.nm 25) (.cons (.nm 26) .nil))))
  .nil) .nil)
  .nil))
  .nil))
theorem okZ:jc (aK 35).scope dA=true:=by decide+kernel
end
section
noncomputable def Z1:aD S:=[z0,z1,z2,z3,z4,z5,z6,z7,z8,z9,EE,EF,EG,EH,EI,EJ,EK]
noncomputable def Z2:aD S:=[OK,OL,zy]
noncomputable def tW(a:dN)(b:Tb):aD S→aD bR→aU
 |[],[] =>aF|z::c,p::d=>j8 a b z p && tW a b c d| _,_=>aI
noncomputable def zA:Tb:=[(aH "sign",aF)]
noncomputable def rN:Tb:=[(aH "name",aF),(aH "words",aI)]
noncomputable def EL:Tb:=[(aH "price",aF)]
noncomputable def nZ(a:dN):dN:={a with names:=a.names.map fun(n,k)=>if(k== .free && (aK 35).scope.kind== .function && (aK 35).scope.names.lookup n==O .cell) then(n,.cell) else(n,k)}
noncomputable def rO(a:Tb)(x:Str)(scope:dN):Bool:=(scope.kind== .function) && scope.names.all (fun y=>y.2 != .cell) && (scope.names.lookup x==O .local) && scope.names.all (fun y=>y.2 != .local ||scope.names.lookup y.1==O .local) && jc (nZ scope) a
noncomputable def zB:E:= .dD (.sub (.nm 1) (.int 0)) .none (.un .USub (.int 1))
noncomputable def OM:E:= .call (aH "_levenshtein_distance") (.cons zB (.cons (.nm 0) (.cons (.int 3) .nil)))
noncomputable def ON:E:= .call (aH "_levenshtein_distance") (.cons (.nm 0) (.cons (.sub (.nm 1) (.int 2)) (.cons (.int 3) .nil)))
noncomputable def OO:E:= .call (aH "_law_near") (.cons zB (.cons (.nm 0) .nil))
noncomputable def OP:E:= .call (aH "_law_near") (.cons (.sub (.nm 1) (.int 2)) (.cons (.nm 0) .nil))
noncomputable def OQ:E:= .bi "min" (.cons (.nm 0) (.cons (.int 4) .nil))
inductive EM(s:bR):Prop
 |mk (q1 k q2 apos elt px it iy sc pos tX p:_) (h1:s= .Assign [.Name "text" q1] (.Call (.Attribute (.Constant (.str (aH "")) k q2) (aH "join") apos) [.ListComp elt [⟨.Name "sign" px,it,[iy],0⟩] sc pos] [] tX) p) (h2:rO zA "sign" sc=aF) (h3:sc.names.all (fun y=>y.2 != .free)=aF) (h4:bC (aK 35).scope dA (.nm 17) it=aF) (h5:bC (nZ sc) zA (.call (aH "map_table_b3") (.cons (.nm 0) .nil)) elt=aF) (h6:bC (nZ sc) zA (.cmp .IsNot (.call (aH "in_table_b1") (.cons (.nm 0) .nil)) (.bool aF)) iy=aF) (h7:(apos.endLine==tX.line)=aF):EM s
inductive EN(s:bR):Prop
 |mk (q v p:_) (h1:s= .Assign [.Name "words" q] v p) (h2:bC (aK 35).scope dA (.dG "split" (.nm 18) (.cons (.str (aH " ")) .nil)) v=aF):EN s
noncomputable def EO(a:dN):Bool:=a.names.map (fun y=>(y.1,y.2== .free)) |>.filter (·.2) |>.map (·.1) |> (· ==[("words":Str)])
inductive zD(y:Str)(i:aA)(e:E)(s:bR):Prop
 |mk (py elt px it sc pos p:_) (h1:s= .Assign [.Name y py] (.ListComp elt [⟨.Name "name" px,it,[],0⟩] sc pos) p) (h2:rO rN "name" sc=aF) (h3:EO sc=aF) (h4:bC (aK 35).scope dA (.nm i) it=aF) (h5:bC (nZ sc) rN e elt=aF) (h6:(py.line==pos.line)=aF) (h7:(sc.names.any fun(n,k)=>n==y && (k== .local ||k== .cell))=aI):zD y i e s
inductive zE(i j:aA)(e:E)(s:bR):Prop
 |mk (elt px it sc pos EP EQ ER wn ES pc b p:_) (h1:s= .If (.Compare (.ListComp elt [⟨.Name "price" px,it,[],0⟩] sc pos) [.NotEq] [.ListComp EP [⟨.Name "name" EQ,ER,[],0⟩] wn ES] pc) b [] p) (h2:rO EL "price" sc=aF) (h3:sc.names.all (fun y=>y.2 != .free)=aF) (h4:bC (aK 35).scope dA (.nm i) it=aF) (h5:bC (nZ sc) EL OQ elt=aF) (h6:rO rN "name" wn=aF) (h7:EO wn=aF) (h8:bC (aK 35).scope dA (.nm j) ER=aF) (h9:bC (nZ wn) rN e EP=aF):zE i j e s
inductive ET(s:bR):Prop
 |mk (pf a b pt k pl pc pr:_) (h1:s= .Return (O (.Compare (.Name "found" pf) [.Eq] [.List [.Tuple [a,b] k pt] pl] pc)) pr) (h2:bC (aK 35).scope dA (.nm 4) a=aF) (h3:bC (aK 35).scope dA (.nm 6) b=aF):ET s
inductive OR:Prop
 |mk (l1 l2 l3 EU EV EW EX EY EZ zF:_) (h1:(aK 35).body=l1++EU::(l2++EV::EW::EX::EY::EZ::(l3++[zF]))) (h2:tW (aK 35).scope dA Z1 l1=aF) (h3:tW (aK 35).scope dA Z2 l2=aF) (h4:tW (aK 35).scope dA [wk,wl,wm] l3=aF) (h5:EM EU) (h6:EN EV) (h7:zD "prices" 2 OM EW) (h8:zD "others" 3 ON EX) (h9:zE 22 2 OO EY) (B5:zE 23 3 OP EZ) (B6:ET zF):OR
theorem ab':OR:=by
 refine⟨(aK 35).body.take 17,((aK 35).body.drop 18).take 3,((aK 35).body.drop 26).take 3,_,_,_,_,_,_,_,rfl,by decide+kernel,by decide+kernel,by decide+kernel,?_,?_,?_,?_,?_,?_,?_⟩
 ·exact⟨_,_,_,_,_,_,_,_,_,_,_,_,rfl,by decide+kernel,by decide+kernel,by decide+kernel,by decide+kernel,by decide+kernel,by decide+kernel⟩
 ·exact⟨_,_,_,rfl,by decide+kernel⟩
 ·exact⟨_,_,_,_,_,_,_,rfl,by decide+kernel,by decide+kernel,by decide+kernel,by decide+kernel,by decide+kernel,by decide+kernel⟩
 ·exact⟨_,_,_,_,_,_,_,rfl,by decide+kernel,by decide+kernel,by decide+kernel,by decide+kernel,by decide+kernel,by decide+kernel⟩
 ·exact⟨_,_,_,_,_,_,_,_,_,_,_,_,_,rfl,by decide+kernel,by decide+kernel,by decide+kernel,by decide+kernel,by decide+kernel,by decide+kernel,by decide+kernel,by decide+kernel⟩
 ·exact⟨_,_,_,_,_,_,_,_,_,_,_,_,_,rfl,by decide+kernel,by decide+kernel,by decide+kernel,by decide+kernel,by decide+kernel,by decide+kernel,by decide+kernel,by decide+kernel⟩
 ·exact⟨_,_,_,_,_,_,_,_,rfl,by decide+kernel,by decide+kernel⟩
end
section
open Classical
noncomputable def E0(f:Str)(a:aD PV)(y:PV):bT:={gk:=hX,call:=fun g b=>if g=f∧b=a then O y else aB}
noncomputable def E1(f:Str)(b:aD PV)(y:PV)(c:Str)(d:aD PV)(e:PV):bT:={gk:=hX,call:=fun g a=>if g=f∧a=b then O y else if g=c∧a=d then O e else aB}
noncomputable def jw(f:Str)(g:aD PV→aG PV):bT:={gk:=hX,call:=fun h a=>if h=f then g a else aB}
structure n0(w:aV)(mg mb:Str→aG aJ)(h₀:bF)(T:aD Tab)(P:bT):Prop where
 gk:P.gk=hX
 call:∀f xs y,P.call f xs=O y→Ct w mg mb h₀ T 20 f xs y
section
theorem mC:n0 w a mb h₀ T bJ:=⟨rfl,fun J J J h=>by cases h⟩
theorem lr(h:Ct w d mb h₀ T n f b y)(e:n≤20):n0 w d mb h₀ T (E0 f b y):=by
 refine⟨rfl,fun g i z a=> ?_⟩;replace a:(if g=f∧i=b then O y else aB)=O z:=a
 split at a
 ·rename_i c
  (refine xa c ?_;clear c;rintro rfl rfl);cases a;exact h.up e
 ·cases a
theorem OS(h:Ct w c mb h₀ T n f d y)(l:n≤20)(m:Ct w c mb h₀ T o e i j)(p:o≤20):n0 w c mb h₀ T (E1 f d y e i j):=by
 refine⟨rfl,fun g k z a=> ?_⟩;replace a:(if g=f∧k=d then O y else if g=e∧k=i then O j else aB)=O z:=a
 split at a
 ·rename_i b
  (refine xa b ?_;clear b;rintro rfl rfl);cases a;exact h.up l
 ·split at a
  ·rename_i b
   (refine xa b ?_;clear b;rintro rfl rfl);cases a;exact m.up p
  ·cases a
theorem tY(h:∀b y,g b=O y→Ct w c mb h₀ T n f b y)(d:n≤20):n0 w c mb h₀ T (jw f g):=by
 refine⟨rfl,fun k e z a=> ?_⟩;replace a:(if k=f then g e else aB)=O z:=a
 split at a
 ·rename_i i
  subst i;exact(h _ _ a).up d
 ·cases a
theorem rP:(E0 f a y).call f a=O y:=aR ⟨rfl,rfl⟩
theorem OT:(E1 f a y b c d).call f a=O y:=aR ⟨rfl,rfl⟩
theorem OU(h:a≠f):(E1 f e y a b c).call a b=O c:=(aP fun d=>h d.1).trans (aR ⟨rfl,rfl⟩)
theorem tZ(h:g a=O y):(jw f g).call f a=O y:=(aR V).trans h
inductive lx(w:aV)(mg mb:Str→aG aJ)(h₀:bF)(T:aD Tab):aD S→Sg→Sg→Prop
 |nil {σ}:lx w mg mb h₀ T [] σ σ
 |cons {z zs σ eJ σ'} (P:bT) (hP:n0 w mg mb h₀ T P) (hex:ex P z σ=O (.next,eJ)) (hmu:eJ.mu=aB) (r:lx w mg mb h₀ T zs eJ σ'):lx w mg mb h₀ T (z::zs) σ σ'
theorem lx.append(e:lx w c mb h₀ T a f eJ)(d:lx w c mb h₀ T b eJ g):lx w c mb h₀ T (a++b) f g:=by
 induction e with
 |nil=>exact d|cons P h hex i _ ih=>exact .cons P h hex i (ih d)
end
structure kl(w:aV)(A:bX)(c:Cx):Prop where
 W:Wd w c.mg c.mb c.h₀
 hh:A.handled=aB
 hd:A.depth+20 < 900
 hu:A.units+10*20 < 9000
 H:fD c (aK 35).scope dA
theorem kl.y(Y:kl w A c)(h:n0 w c.mg c.mb c.h₀ c.T P):Hyp w A c (aK 35).scope dA P 20:=
 ⟨Y.hh,Y.hd,Y.hu,Y.H,Y.W.m0 (T:=c.T) (fun x i q=>fV x i (by refine aS h.gk ?_;exact q)) h.call c V rfl rfl rfl⟩
theorem zG(Y:kl w A c):∀{u:aD S} {a:aD bR} {v x:Sg} {K:PK} {m:Str→aG aJ} {s:aM},lx w c.mg c.mb c.h₀ c.T u v x→tW (aK 35).scope dA u a=aF→Gd w c dA K m aB s v→
  (∀f j g,PK.le K f→Gd w c dA f j aB g x→KB c aB s.heap g.heap→(∀b,s.heap.get? b≠aB→b≠c.env.locals→K b=aB→f b=aB)→aN (aO pg w) A (eH rest c.env) Q (fun J J=>bO) g)→
  aN (aO pg w) A (eH (a++rest) c.env) Q (fun J J=>bO) s
 | _,a,_,_,K,m,s,.nil,i,G,k=>by
  cases a with
  |nil=>exact k K m s (.refl K) G .refl fun J J J h=>h|cons _ _=>cases i
 | _,a,_,_,K,m,s,.cons (z:=z) (eJ:=eJ) a3 E hex F r,i,G,k=>by
  cases a with
  |nil=>cases i
  |cons H a=>
   obtain⟨I,L⟩:=mJ.mp i;refine wpAny_execs_cons (wpAny_mono (yo z H (c.here K aB s.heap) _ _ _ ((Y.y E).here K aB s.heap) I hex K m aB s G.here) (fun a4 N o=> ?_) fun J J q=>q.elim);obtain⟨a5,a6,y,P,l,a7,rfl,d⟩:=o
   have R:y=none:=by
    cases y with
    |none=>rfl|some a8=>exact absurd d.Mi (by refine M F ?_;intro z;cases z)
   subst R;have B:=G.F.back d.F l
   exact zG Y r L ⟨B,d.L,d.Mi,d.fl⟩ fun f j g T U W X=>k f j g (P.trans T) U (KB.trans l W) fun b C n a0=>by
    have a1:N.heap.get? b≠none:=by
     cases e:s.heap.get? b with
     |none=>exact absurd e C
     |some o=>
      by_cases D:Off c.T b
      ·refine M (l b o e n (by intro z;cases z) D) ?_;intro z;cases z
      ·have:∃t∈c.T,t.P=b:=AD fun h=>D fun t p e=>h ⟨t,p,e⟩;(refine aQ this ?_;clear this;rintro t p rfl);obtain⟨a9,a2⟩:=(B.tabs t p).some;refine M a2 ?_;intro z;cases z
    exact X b a1 n (tD d.F C n a0)
end
section
noncomputable def aX(l:aD PV):Sg:={loc:=l.map O++dT (27 - l.length) aB}
noncomputable def ic(d:aA):aD Nat:=[44,32] ++cB 2 d++[32]
noncomputable def l0(y h m s:aA)(z:aD aA):aD Nat:=[32] ++cB 4 y++[32] ++cB 2 h++[58] ++cB 2 m++[58] ++cB 2 s++[32] ++z
noncomputable def jM(i:aA):aD Nat:=(cF.getD i ⟨#[]⟩).cps.toList
noncomputable def jN(i:aA):aD Nat:=(cH.getD i ⟨#[]⟩).cps.toList
noncomputable def gU(i:aA):aD Nat:=(po.getD i ⟨#[]⟩).cps.toList
theorem OV(h:a.length+b.length≤1000000):dC .Add (.str (mk a)) (.str (mk b))=O (.str (mk (a++b))):=
 (vU (x:=mk a) (y:=mk b) (by refine M (cZ ..) (M (cZ ..) ?_);exact aL h (by decide))).trans (aT (fun z=>O (PV.str z)) (fT (lH (xs:=a.toArray))))
theorem aca:∀n < 100,two ((n:aA):Z)=mk (cB 2 (n:aA)):=by decide+kernel
theorem acb{n:aA}(h:n < 10^9):pV ((n:aA):Z)=mk (iT (n:aA)):=fT (Eh (cW _))
theorem pq(k n:aA)(a:n < 10^9)(b:k≤4):(cB k (n:aA)).length≤14:=by
 have:=Ej (k:=k) (n:=n) (cW _) (dM (dZ.mpr a) (by decide)) b;unfold lZ at this
 rwa [cZ] at this
section
theorem n'(d:ev P c a=O (.str (mk x)))(e:ev P c b=O (.str (mk y)))(h:x.length+y.length≤1000000):ev P c (.bin .Add a b)=O (.str (mk (x++y))):=bM d e (OV h)
theorem zH(h:aH s=mk l):ev P a (.str (aH s))=O (.str (mk l)):=by refine M h ?_;rfl
theorem E2{k:aA}(d:ev P b a=O (.int (k:Z)))(c:l.length≤1000)(e:k < l.length):ev P b (.sub (.lst (nd l)) a)=O (.str (l.getD k ⟨#[]⟩)):=
 hV (wi P b l c) d (nY c (by refine M ik (M (fC e) ?_);rfl))
end
noncomputable def ly(a:aD PV):aG PV:=i1 a fun n=>aZ (0≤n∧n < 100) (O (.str (two n)))
theorem acd(n:aA)(h:n < 100):ly [.int (n:Z)] =O (.str (mk (cB 2 (n:aA)))):=by refine aS (aca n h) ?_;exact bB ⟨cW n,dZ.mpr h⟩
theorem ace(W:Wd w mg mb h₀):∀a y,ly a=O y→Ct w mg mb h₀ T 1 "_law_two" a y:=by intro a y h;refine aQ (Lb h) fun n e q=> ?_;obtain⟨⟨b,c⟩,q⟩:=iZ q;refine M e (aS (cA q) ?_);exact WB W _ b c
structure bU where
 ns:aD Z
 c0:Z
 c1:Z
 c2:Z
 c3:Z
 c4:Z
 c5:Z
 wd:aA
 yr:aA
 y0:aA
 mo:aA
 dy:aA
 zi:aA
 hh:aA
 mi:aA
 se:aA
noncomputable def bU.cs(D:bU):aD Int:=[D.c0,D.c1,D.c2,D.c3,D.c4,D.c5]
structure bU.Ok(D:bU):Prop where
 hw:(D.c0 % 146097+2) % 7=(D.wd:Z)
 hd:o6 (D.c0 % 146097)=((D.y0:Z),(D.mo:Z),(D.dy:Z))
 hy:(D.y0:Z)+400*(D.c0 / 146097 % 30)=(D.yr:Z)
 hz:D.c1 / 86400 % 4=(D.zi:Z)
 hh:D.c1 % 86400 / 3600=(D.hh:Z)
 hm:D.c1 % 86400 / 60 % 60=(D.mi:Z)
 hs:D.c1 % 86400 % 60=(D.se:Z)
 bw:D.wd < 7
 lz:D.yr < 20000
 bm:D.mo < 12
 bd:1≤D.dy∧D.dy≤31
 bz:D.zi < 4
 bh:D.hh < 24
 bi:D.mi < 60
 bs:D.se < 60
noncomputable def bU.line(D:bU):aD Nat:=jM D.wd++ic D.dy++jN D.mo++l0 D.yr D.hh D.mi D.se (gU D.zi)
theorem OW(x:Str):mk x.cps.toList=x:=DK x
theorem E3:(∀x∈cF++cH,x.cps.toList.length=3)∧∀x∈po,x.cps.toList.length≤5:=by decide+kernel
theorem t9(h:i < 7):(jM i).length=3:=by have:i < cF.length:=h;unfold jM;refine M ik (M (fC this) ?_);exact E3.1 _ (kR _ (mj ..))
theorem ua(h:i < 12):(jN i).length=3:=by have:i < cH.length:=h;unfold jN;refine M ik (M (fC this) ?_);exact E3.1 _ (j5 _ (mj ..))
theorem rQ(h:i < 4):(gU i).length≤5:=by have:i < po.length:=h;unfold gU;refine M ik (M (fC this) ?_);exact E3.2 _ (mj ..)
theorem acf(a b:aD aA):mk a++mk b=mk (a++b):=fT (lH (xs:=a.toArray))
theorem lA(h:x=mk l):x++mk b=mk (l++b):=(aT (· ++mk b) h).trans (acf l b)
theorem km{a u v l:aD aA}(h:a++u=l):a++(u++v)=l++v:=(eZ a u v).symm.trans (aT (· ++v) h)
theorem acg(a p m y h i s z:aD aA):mk a++mk [44,32] ++mk p++mk [32] ++mk m++mk [32] ++mk y++mk [32] ++mk h++mk [58] ++mk i++mk [58] ++mk s++mk [32] ++mk z=mk (a++([44,32] ++p++[32])++m++([32] ++y++[32] ++h++[58] ++i++[58] ++s++[32] ++z)):=
 (lA (lA (lA (lA (lA (lA (lA (lA (lA (lA (lA (lA (lA (lA V)))))))))))))).trans (aT mk (km (km (km (km (km (km (km (km (km (aT (· ++[32]) (aT (· ++m) (km (km V))))))))))))).symm)
theorem ach(D:bU):tR (cF.getD D.wd ⟨#[]⟩) D.dy (cH.getD D.mo ⟨#[]⟩) D.yr D.hh D.mi D.se (po.getD D.zi ⟨#[]⟩)=mk D.line:=by
 have a:(", ":Str)=mk [44,32] :=by decide+kernel
 have b:(" ":Str)=mk [32] :=by decide+kernel
 have c:(":":Str)=mk [58] :=by decide+kernel
 unfold tR;exact acg (jM D.wd) (cB 2 D.dy) (jN D.mo) (cB 4 D.yr) (cB 2 D.hh) (cB 2 D.mi) (cB 2 D.se) (gU D.zi)
end
section
noncomputable def bU.v8(D:bU)(y:Z):aD PV:=[.lst (D.ns.map .int),.lst (D.cs.map .int),.lst (cF.map .str),.lst (cH.map .str),.int D.wd,.int y,.int D.mo,.int D.dy]
noncomputable def bU.v10(D:bU):aD PV:=D.v8 D.yr++[.int (D.c1 % 86400),.str (gK.mk (gU D.zi)),.str (gK.mk D.line)]
noncomputable def bU.v11(D:bU):aD PV:=D.v10++[.str (gK.mk (ic D.dy))]
noncomputable def bU.je(D:bU):aD PV:=D.v11++[.str (gK.mk (l0 D.yr D.hh D.mi D.se (gU D.zi)))]
theorem rR(a:l.length=i)(h:i < 27):(aX l).put i x=aX (l++[x]):=by
 subst a;unfold aX Sg.put
 congr 1
 refine M (uK _ _ (by simp)) (M (bQ ..) (M (pJ ..) (M bH (M HE (M iA (M (eZ ..) ?_))))))
 congr 1
 refine M (xN (nz h):27 - l.length=(27 - (l.length+1))+1) (M xg ?_);rfl
theorem aci(a:l.length=i):(aX (l++[p])).put i x=aX (l++[x]):=by
 subst a;unfold aX Sg.put
 congr 1
 refine M bH (M bH (M iA (M iA (M (eZ ..) (M (eZ ..) (M (uK _ _ (by simp)) (M (bQ ..) (M (pJ ..) ?_))))))));rfl
theorem dS(h:l[i]? =O x):ev P (aX l) (.nm i)=O x:=by
 have a:i < l.length:=(l6.mp h).1
 have:(aX l).loc[i]? =O (O x):=by unfold aX;refine M (su (by refine M (bQ ..) ?_;exact a)) (M ij (M h ?_));rfl
 exact aT i' this
theorem ub(a:l.length=i)(b:i < 27)(h:ev P (aX l) e=O x)(c:js x=O x):ex P (.asg i e) (aX l)=O (.next,aX (l++[x])):=
 M (gO h c) (M (rR a b) V)
theorem acj(a:l.length=i)(h:ev P (aX (l++[p])) e=O y)(b:jV o p y=O z):ex P (.aug i o e) (aX (l++[p]))=O (.next,aX (l++[z])):=by
 have c:(aX (l++[p])).loc[i]? =O (O p):=by unfold aX;subst a;refine M (su (by simp)) (M ij (M (pL (bZ _)) (M (pJ ..) ?_)));rfl
 exact M (qj c h b) (M (aci a) V)
theorem rS(D:bU)(h:ev P σ (.nm 1)=O (.lst (D.cs.map .int)))(k:aA)(x:Z)(a:D.cs[k]? =O x):ev P σ (.sub (.nm 1) (.int (k:Z)))=O (.int x):=hV h (y:= .int (k:Z)) V (DQ (by decide:6≤1000) a)
theorem uc(l:aD Str)(i:aA):l.getD i ⟨#[]⟩=mk (l.getD i ⟨#[]⟩).cps.toList:=(DK _).symm
theorem OX(h:a=b):jb .NotEq (.str (mk a)) (.str (mk b))=O (.bool aI):=
 (M (eO (fun q=>q (by exact M h V))) V:O (PV.bool (decide (mk a≠mk b)))=_)
theorem tx1:aH ", "=mk [44,32] :=by decide+kernel
theorem wo:aH " "=mk [32] :=by decide+kernel
theorem OY:aH ":"=mk [58] :=by decide+kernel
section
theorem ack(W:Wd w mg mb h₀)(D:bU)(O0:D.Ok)(hc:Ct w mg mb h₀ T 20 "_law_cells" [.lst (D.ns.map .int)] (.lst (D.cs.map .int))):lx w mg mb h₀ T [z0,z1,z2,z3,z4,z5,z6,z7,z8] (aX [.lst (D.ns.map .int)]) (aX D.v10):=by
 have zl:=rQ O0.bz;have OZ:=ab2 (T:=T) W D.yr D.mo D.dy D.hh D.mi D.se D.wd (mk (gU D.zi)) (by have:=O0.lz;exact bL this (by decide)) O0.bm (by have:=O0.bd;exact cC this.2 (by decide)) (by have:=O0.bh;exact bL this (by decide)) (by have:=O0.bi;exact bL this (by decide)) (by have:=O0.bs;exact bL this (by decide)) O0.bw (by refine M (cZ ..) ?_;exact aL zl (by decide));have O1:mk (gU D.zi)=po.getD D.zi ⟨#[]⟩:=DK _;rw[O1,ach,←O1] at OZ;have O2:=ZA (T:=T) W (D.c0 % 146097);rw[O0.hd] at O2;refine .cons _ (lr hc (bZ _)) (eJ:=aX [.lst (D.ns.map .int),.lst (D.cs.map .int)]) (gO (fO (bW V ir) V rP) V) V <| .cons bJ mC (eJ:=aX [.lst (D.ns.map .int),.lst (D.cs.map .int),.lst (cF.map .str)]) (gO (wi _ _ _ (by decide)) V) V ?_
 refine .cons bJ mC (eJ:=aX [.lst (D.ns.map .int),.lst (D.cs.map .int),.lst (cF.map .str),.lst (cH.map .str)]) (gO (wi _ _ _ (by decide)) V) V <| .cons bJ mC (eJ:=aX [.lst (D.ns.map .int),.lst (D.cs.map .int),.lst (cF.map .str),.lst (cH.map .str),.int D.wd]) (gO (x:= .int D.wd) (by have:=lQ (P:=bJ) (bM (lQ (rS D (P:=bJ) (σ:=aX [.lst (D.ns.map .int),.lst (D.cs.map .int),.lst (cF.map .str),.lst (cH.map .str)]) V 0 D.c0 V) (b:=146097) (by decide) (by decide)) (b:= .int 2) V iF) (b:=7) (by decide) (by decide);rw[O0.hw] at this;exact this) V) V ?_
 refine .cons _ (lr O2 (by decide)) (eJ:=aX (D.v8 D.y0)) (yw (xs:=[.int D.y0,.int D.mo,.int D.dy]) (fO (bW (lQ (rS D V 0 D.c0 V) (by decide) (by decide)) ir) V rP) V) V <| .cons bJ mC (eJ:=aX (D.v8 D.yr)) (qj (p:= .int D.y0) (y:= .int (400*(D.c0 / 146097 % 30))) V (bM V (lQ (lR (rS D V 0 D.c0 V) (by decide) (by decide)) (by decide) (by decide)) (tm (by decide) (by decide))) (by show O (PV.int _)=_;exact M O0.hy V)) V ?_
 refine .cons bJ mC (eJ:=aX (D.v8 D.yr++[.int (D.c1 % 86400)])) (gO (lQ (rS D V 1 D.c1 V) (by decide) (by decide)) V) V <| .cons bJ mC (eJ:=aX (D.v8 D.yr++[.int (D.c1 % 86400),.str (mk (gU D.zi))])) (gO (x:= .str (mk (gU D.zi))) (by refine E2 (l:=po) ?_ (by decide) O0.bz;have:=lQ (P:=bJ) (lR (rS D (P:=bJ) (σ:=aX (D.v8 D.yr++[.int (D.c1 % 86400)])) V 1 D.c1 V) (b:=86400) (by decide) (by decide)) (b:=4) (by decide) (by decide);rw[O0.hz] at this;exact this) V) V ?_
 refine .cons _ (lr OZ (by decide)) (eJ:=aX D.v10) (gO (x:= .str (mk D.line)) (by
  have a1:∀P,ev P (aX (D.v8 D.yr++[.int (D.c1 % 86400),.str (mk (gU D.zi))])) (.bin .FloorDiv (.nm 8) (.int 3600))=O (.int D.hh):=fun P=>by have:=lR (P:=P) (σ:=aX (D.v8 D.yr++[.int (D.c1 % 86400),.str (mk (gU D.zi))])) (a:= .nm 8) (x:=D.c1 % 86400) (b:=3600) V (by decide) (by decide);rw[O0.hh] at this;exact this
  have a2:∀P,ev P (aX (D.v8 D.yr++[.int (D.c1 % 86400),.str (mk (gU D.zi))])) (.bin .Mod (.bin .FloorDiv (.nm 8) (.int 60)) (.int 60))=O (.int D.mi):=fun P=>by have:=lQ (P:=P) (lR (P:=P) (σ:=aX (D.v8 D.yr++[.int (D.c1 % 86400),.str (mk (gU D.zi))])) (a:= .nm 8) (x:=D.c1 % 86400) (b:=60) V (by decide) (by decide)) (b:=60) (by decide) (by decide);rw[O0.hm] at this;exact this
  have a3:∀P,ev P (aX (D.v8 D.yr++[.int (D.c1 % 86400),.str (mk (gU D.zi))])) (.bin .Mod (.nm 8) (.int 60))=O (.int D.se):=fun P=>by have:=lQ (P:=P) (σ:=aX (D.v8 D.yr++[.int (D.c1 % 86400),.str (mk (gU D.zi))])) (a:= .nm 8) (x:=D.c1 % 86400) (b:=60) V (by decide) (by decide);rw[O0.hs] at this;exact this
  refine fO (bW (tu (bW V (bW (bM V rfl iF) (bW V (bW (a1 _) (bW (a2 _) (bW (a3 _) (bW V ir))))))) (by show 7≤1000;decide) (by rfl)) (bW V ir)) (by rfl) rP) V) V .nil
end
end
section
section
theorem acl{n:aA}(h:n < 20000):(iT (n:aA)).length≤10:=Oi (cW _) (dM (dZ.mpr h) (by decide))
noncomputable def jO(P:bT)(b:Sg)(a:E)(x:aD aA)(n:aA):Prop:=ev P b a=O (.str (mk x))∧x.length≤n
theorem jO.add(c:jO P e a x n)(d:jO P e b y m)(h:n+m≤1000000):jO P e (.bin .Add a b) (x++y) (n+m):=
 ⟨n' c.1 d.1 (aL (fY c.2 d.2) h),by refine M bH ?_;exact fY c.2 d.2⟩
theorem rT(n:aA)(h:aH s=mk l)(a:l.length≤n):jO P b (.str (aH s)) l n:=⟨zH h,a⟩
theorem jO.to(h:jO P b a x n)(e:x=y):jO P b a y n:=e▸h
theorem jO.two{n:aA}(h:ev (jw (aH "_law_two") ly) c a=O (.int (n:Z)))(b:n < 100):jO (jw (aH "_law_two") ly) c (.call (aH "_law_two") (.cons a .nil)) (cB 2 (n:aA)) 14:=
 ⟨fO (gD h) V (tZ (acd n b)),pq 2 n (iM b (by decide)) (by decide)⟩
noncomputable def bU.qL(D:bU):aD Nat:=[32] ++cB 4 D.yr++[32] ++cB 2 D.hh
theorem acm(D:bU)(a:D.Ok):ex (jw (aH "_law_two") ly) z9 (aX D.v10)=O (.next,aX D.v11):=
 ub (i:=11) V (by decide) (((rT 2 tx1 (by decide)).add (.two (dS V) (cC a.bd.2 (by decide))) (by decide)).add (rT 1 wo (by decide)) (by decide)).1 rfl
theorem acn{k:aA}(h:k≤10):dC .Mult (.str (aH "0")) (.int (4 - (k:Z)))=O (.str (mk (dT (4 - k) 48))):=by have e:(4 - (k:Z)).toNat=4 - k:=Int.toNat_sub 4 k;refine(bB ⟨rfl,by lia,by lia⟩).trans (aT (fun z=>O (PV.str z)) (fT ?_));exact(M Array.toList_replicate (M e V):(Gj (4 - (k:Z)).toNat 48).toList=_)
theorem aco(D:bU)(a:D.Ok):ex (jw (aH "_law_two") ly) EE (aX D.v11)=O (.next,aX (D.v11++[.str (mk D.qL)])):=by
 have b:=acl a.lz
 have c:jO (jw (aH "_law_two") ly) (aX D.v11) (.bi "str" (.cons (.nm 5) .nil)) (iT D.yr) 10:=⟨iR (gD (x:= .int (D.yr:Z)) (dS V)) (by exact aS (acb (iM a.lz (by decide))) <|bB (by have:=a.lz;exact Bv (S5 (jR _)) (dZ.mpr (bL this (by decide))))),b⟩
 have d:ev (jw (aH "_law_two") ly) (aX D.v11) (.bi "len" (.cons (.bi "str" (.cons (.nm 5) .nil)) .nil))=O (.int (iT D.yr).length):=iR (gD c.1) ((bB (by refine M (cZ ..) (M cN ?_);exact aL b (by decide))).trans (aT (fun n:aA=>O (PV.int n)) (cZ _)))
 have e:jO (jw (aH "_law_two") ly) (aX D.v11) (.bin .Mult (.str (aH "0")) (.bin .Sub (.int 4) (.bi "len" (.cons (.bi "str" (.cons (.nm 5) .nil)) .nil)))) (dT (4 - (iT D.yr).length) 48) 4:=
  ⟨bM V (bM V d my) (acn b),by refine M oG ?_;exact l7 _ _⟩
 have f:ev (jw (aH "_law_two") ly) (aX D.v11) (.bin .FloorDiv (.nm 8) (.int 3600))=O (.int D.hh):=(lR (x:=D.c1 % 86400) (dS V) (by decide) (by decide)).trans (M a.hh V);exact ub (i:=12) V (by decide) ((((((rT 1 wo (by decide)).add e (by decide)).add c (by decide)).to (eZ ..)).add (rT 1 wo (by decide)) (by decide)).add (.two f (iM a.bh (by decide))) (by decide)).1 rfl
theorem acp(D:bU)(a:D.Ok):ex (jw (aH "_law_two") ly) EF (aX (D.v11++[.str (mk D.qL)]))=O (.next,aX D.je):=by
 have c:ev (jw (aH "_law_two") ly) (aX (D.v11++[.str (mk D.qL)])) (.bin .Mod (.bin .FloorDiv (.nm 8) (.int 60)) (.int 60))=O (.int D.mi):=(lQ (lR (x:=D.c1 % 86400) (dS V) (by decide) (by decide)) (by decide) (by decide)).trans (M a.hm V);have d:ev (jw (aH "_law_two") ly) (aX (D.v11++[.str (mk D.qL)])) (.bin .Mod (.nm 8) (.int 60))=O (.int D.se):=(lQ (x:=D.c1 % 86400) (dS V) (by decide) (by decide)).trans (M a.hs V);have e:jO (jw (aH "_law_two") ly) (aX (D.v11++[.str (mk D.qL)])) (.nm 9) (gU D.zi) 5:=⟨dS V,rQ a.bz⟩;have b:=((((rT 1 OY (by decide)).add (.two c (iM a.bi (by decide))) (by decide)).add (rT 1 OY (by decide)) (by decide)).add (.two d (iM a.bs (by decide))) (by decide)).add (rT 1 wo (by decide)) (by decide) |>.add e (by decide)
 have f:D.qL.length≤30:=by have g:=pq 2 D.hh (iM a.bh (by decide)) (by decide);have h:=pq 4 D.yr (iM a.lz (by decide)) (by decide);unfold bU.qL;refine M bH (M bH (M bH ?_));exact fY (fY (eU h 1) (bZ 1)) g
 exact acj (l:=D.v11) V b.1 (((OV (aL (fY f b.2) (by decide))):jV .Add (.str (mk D.qL)) (.str (mk ([58] ++cB 2 D.mi++[58] ++cB 2 D.se++[32] ++gU D.zi)))=O (.str (mk (D.qL++([58] ++cB 2 D.mi++[58] ++cB 2 D.se++[32] ++gU D.zi))))).trans (aT (fun z=>O (PV.str (mk z))) (km (km (km (km (km V)))))))
theorem acq(D:bU)(O0:D.Ok):ex bJ EG (aX D.je)=O (.next,aX D.je):=by
 have e1:jO bJ (aX D.je) (.sub (.nm 2) (.nm 4)) (jM D.wd) 3:=⟨hV (dS V) (dS V) (by exact aS (uc _ _:cF.getD D.wd ⟨#[]⟩=mk (jM D.wd)) <|nY (by decide) (by refine M ik (M (fC (O0.bw:D.wd < cF.length)) ?_);rfl)),cM (t9 O0.bw)⟩
 have e2:jO bJ (aX D.je) (.sub (.nm 3) (.nm 6)) (jN D.mo) 3:=⟨hV (dS V) (dS V) (by exact aS (uc _ _:cH.getD D.mo ⟨#[]⟩=mk (jN D.mo)) <|nY (by decide) (by refine M ik (M (fC (O0.bm:D.mo < cH.length)) ?_);rfl)),cM (ua O0.bm)⟩
 have pd:=pq 2 D.dy (cC O0.bd.2 (by decide)) (by decide)
 have lm:(ic D.dy).length≤17:=by unfold ic;refine M bH (M bH ?_);exact fY (eU pd 2) (bZ 1)
 have le:(l0 D.yr D.hh D.mi D.se (gU D.zi)).length≤100:=by have zl:=rQ O0.bz;have ph:=pq 2 D.hh (iM O0.bh (by decide)) (by decide);have pi:=pq 2 D.mi (iM O0.bi (by decide)) (by decide);have ps:=pq 2 D.se (iM O0.bs (by decide)) (by decide);have p4:=pq 4 D.yr (iM O0.lz (by decide)) (by decide);unfold l0;refine M bH (M bH (M bH (M bH (M bH (M bH (M bH (M bH (M bH ?_))))))));exact aL (fY (fY (fY (fY (fY (fY (fY (fY (eU p4 1) (bZ 1)) ph) (bZ 1)) pi) (bZ 1)) ps) (bZ 1)) zl) (by decide)
 have e3:=((e1.add (b:= .nm 11) ⟨dS V,lm⟩ (by decide)).add e2 (by decide)).add (b:= .nm 12) ⟨dS V,le⟩ (by decide);exact eY (cI (x:= .str (mk D.line)) (dS V) e3.1 (OX V)) V
theorem acr(W:Wd w c mb h₀)(D:bU)(a:D.Ok):lx w c mb h₀ T [z9,EE,EF,EG] (aX D.v10) (aX D.je):=
 have b:=tY (T:=T) (ace (mg:=c) (T:=T) W) (by decide:1≤20)
 .cons _ b (acm D a) V (.cons _ b (aco D a) V (.cons _ b (acp D a) V (.cons bJ mC (acq D a) V .nil)))
end
end
section
noncomputable def dK(l:aD aA):aD Nat:=(l.filter fun(c:aA)=> !hJ.any fun x=>x==(c:Z)).flatMap fun c=>(lj c).cps.toList
theorem og(a b:aD aA):dK (a++b)=dK a++dK b:=by unfold dK;exact M (Bo ..) (M List.flatMap_append V)
theorem acs(c:aA)(l:aD aA):dK (c::l)=dK [c] ++dK l:=og [c] l
theorem E4(h:∀c∈l,c < 128):cD (mk l)=mk (l.map bA):=by
 refine M (lower_ascii (x:=mk l) h) <|fT ?_
 simp
theorem act:hJ.all (fun s=>decide (173≤s) && decide (s < 70000))=true:=by decide+kernel
theorem acu:lg.all (fun p=>decide (181≤p.1))=true:=by decide+kernel
theorem O3{c:aA}(h:c < 173∨70000≤c):(hJ.any fun x=>x==(c:Z))=false:=by refine iO List.any_eq_false ?_;intro x a b;have:=j1.mp act x a;simp only[gZ,lG] at this;have:=beq_iff_eq.mp b;omega
theorem acv{l:aD (Z×Str)}{k:Z}(h:∀p∈l,p.1≠k):l.lookup k=none:=by
 induction l with
 |nil=>rfl
 |cons p r ih=>
  obtain⟨a,b⟩:=p;refine M GW ?_;have:(k==a)=false:=beq_eq_false_iff_ne.mpr fun e=>h (a,b) (iK ..) e.symm;exact M this <|ih fun q c=>h q (hU _ c)
theorem E5{c:aA}(h:c < 128):dK [c] =[bA c] :=by
 have a:=O3 (c:=c) (.inl (bL h (by decide)))
 have b:lg.lookup (c:Z)=none:=acv fun p d=>by have:=kP (j1.mp acu p d);exact fB (dM (dZ.mpr h) (cK (by decide) this))
 unfold dK;refine M (Bp (by refine M a ?_;rfl)) (M agO ?_);unfold lj;refine M agP (M agQ (M b ?_));refine(M (E4 (l:=[c]) (by simpa using h)) ?_:(cD (mk [c])).cps.toList++[] =_);exact rfl
theorem zI:∀{l:aD aA},(∀c∈l,c < 128)→dK l=l.map bA
 |[],_=>rfl
 |c::r,h=>by refine M (acs ..) (M (E5 (h c (iK ..))) (M (zI fun x a=>h x (hU _ a)) ?_));rfl
noncomputable def ud:aD (Z×Str)→aU
 |a::b::r=>decide (a.1 < b.1) && ud (b::r)| _=>aF
noncomputable def subB:aD (Z×Str)→aD (Z×Str)→aU
 |[],a=>a.isEmpty|y::b,a=>a.isEmpty ||if(a.headD y).1=y.1 then decide ((a.headD y).2=y.2) && subB b a.tail else subB b a
theorem O4:∀{l:aD (Z×Str)} {a:Z×Str},ud (a::l)=aF→∀p∈l,a.1 < p.1
 |[],_,_,_,c=>(cO c).elim
 |b::r,a,h,p,c=>by
  refine xa (mJ.mp h) fun d e=> ?_;have d:=kP d;rcases gz.mp c with rfl |c
  ·exact d
  ·have:=O4 e p c;exact uD d this
theorem acw(h:ud (a::l)=aF):ud l=true:=by
 cases l with
 |nil=>rfl|cons b r=>exact(mJ.mp h).2
theorem O5:∀{l:aD (Z×Str)},ud l=aF→∀{k:Z} {v:Str},(k,v)∈l→l.lookup k=O v
 |[],_,_,_,hm=>(cO hm).elim
 |(a,b)::r,h,k,v,hm=>by
  refine M GW ?_;rcases gz.mp hm with e |hm
  ·cases e;simp
  ·have:=O4 h _ hm
   have c:(k==a)=false:=beq_eq_false_iff_ne.mpr fun e=>by have:a < k:=this;omega
   exact M c <|O5 (acw h) hm
theorem E6:∀{b c:aD (Z×Str)},subB b c=aF→∀p∈c,p∈b
 | _,[],_,_,a=>(cO a).elim|[],_::_,h,_,_=>by cases h
 |y::b,x::c,h,p,a=>by
  by_cases d:x.1=y.1
  ·replace h:(decide (x.2=y.2) && subB b c)=true:=(aR d).symm.trans h;refine xa (mJ.mp h) fun e f=> ?_;have e:=kP e;rcases gz.mp a with rfl |a
   ·have:p=y:=Prod.ext d e;refine M this ?_;exact iK ..
   ·exact hU _ (E6 f p a)
  ·exact hU _ (E6 ((aP d).symm.trans h) p a)
noncomputable def acx:aD (Z×Str):=jL.flatMap fun g=>(mH 26).map fun k=>(g+(k:aA),one (k+97))
theorem acy:ud lg=true:=by decide+kernel
theorem acz:subB lg acx=true:=by decide+kernel
theorem acA:∀g∈jL,119000 < g:=by decide
theorem acB(a:g∈jL)(b:k < 26):dK [(g+((k+97:aA):Z) - 97).toNat] =[k+97]∧100 < (g+((k+97:aA):Z) - 97).toNat:=by
 have h:=acA g a;have e:(((g+((k+97:aA):Z) - 97).toNat:aA):Z)=g+(k:aA):=by omega
 have c:(g+((k:aA):Z),one (k+97))∈lg:=E6 acz _ (SD.mpr ⟨g,a,iW.mpr ⟨k,agR.mpr b,rfl⟩⟩);have d:=O5 acy c;refine⟨?_,by omega⟩;have f:=O3 (c:=(g+((k+97:aA):Z) - 97).toNat) (.inr (by omega));unfold dK;refine M (Bp (by refine M f ?_;rfl)) (M agO ?_);unfold lj;refine M agP (M agQ (M e (M d ?_)));rfl
theorem acC:∀h∈jK,dK [h.toNat] =[]∧100 < h.toNat:=by decide+kernel
theorem acD:∀q∈o7,dK [q.2.toNat] =q.1.cps.toList∧100 < q.2.toNat∧q.1.cps.toList.length=2∧q.1.cps.toList.all (fun c=>c !=34)=true:=by decide+kernel
end
section
noncomputable def oh:aD Nat:=jv.map aem
noncomputable def Let(c:aA):Prop:=(65≤c∧c≤90)∨(97≤c∧c≤122)
noncomputable def kK(c:aA):Prop:=Let c∨c∈oh
noncomputable def ue(c:aA):Prop:=c < 128∨c∈oh
theorem kK.E7(h:kK c):ue c:=by
 rcases h with(h |h) |h
 ·exact .inl (cC h.2 (by decide))
 ·exact .inl (cC h.2 (by decide))
 ·exact .inr h
theorem uf:∀c∈oh,agS c=[c]∧agT c=[c]∧dK [c] =[c]∧128≤c∧c≠931:=by decide+kernel
theorem zJ(h:128≤c):bA c=c:=aP (Bw (bL (by decide) h))
theorem O6(h:128≤c):jE c=c:=aP (Bw (bL (by decide) h))
theorem acE(h:ue c):agS c=[bA c]∧c≠931:=by
 rcases h with h |h
 ·exact⟨lowerOf_ascii c h,by exact fG (bL h (by decide))⟩
 ·refine jl (uf c h) fun a J J b d=> ?_;refine M (zJ b) ?_;exact⟨a,d⟩
theorem acF(h:ue c):agT c=[jE c] :=by
 rcases h with h |h
 ·exact upperOf_ascii c h
 ·refine jl (uf c h) fun J a J b J=> ?_;refine M (O6 b) ?_;exact a
theorem wq(h:∀c∈l,ue c):cD (mk l)=mk (l.map bA):=by
 unfold cD
 rw[agU (mk l) _ bA fun i c b=>by
  have a:(mk l).cps[i]? =O c:=by simpa using b
  obtain⟨d,e⟩:=acE (h c (by have:=Sz a;simpa using this));unfold Unicode.lowerAt;rw[a];have f:(c==0x3A3)=false:=by rw[Hd];exact e
  simp only[f,agx,afN,if_false];exact d]
 refine fT ?_;simp
theorem O7(h:∀c∈l,ue c):qH (mk l)=mk (l.map jE):=by
 unfold qH
 rw[agU (mk l) _ jE fun i c a=>acF (h c (by
  have b:(mk l).cps[i]? =O c:=by simpa using a
  have:=Sz b;simpa using this))]
 refine fT ?_;simp
theorem acG(h:kK c):dK [c] =[bA c]∧dK [jE c] =[bA c]∧c≠34∧c≠92∧jE c≠34∧jE c≠92:=by
 rcases h with h |h
 ·have d:jE c < 128∧bA (jE c)=bA c∧jE c≠34∧jE c≠92∧c < 128∧c≠34∧c≠92:=by
   rcases h with h |h
   ·have e:jE c=c:=aP (HV (cC h.2 (by decide)));refine M e ?_;exact⟨by exact cC h.2 (by decide),rfl,by exact eG (bL (by decide) h.1),by exact fG (cC h.2 (by decide)),by exact cC h.2 (by decide),by exact eG (bL (by decide) h.1),by exact fG (cC h.2 (by decide))⟩
   ·have e:jE c=c - 32:=aR h;have f:bA (c - 32)=c - 32+32:=aR ⟨F7 h.1,qS h.2⟩;have g:bA c=c:=aP (Bw (bL (by decide) h.1));refine M e (M f (M g ?_));exact⟨by exact Hv (aL (by decide) h.1) (cC h.2 (by decide)),by exact Ap (aL (by decide) h.1),by exact eG (Nat.lt_sub_of_add_lt (bL (by decide) h.1)),by exact fG (Hv (aL (by decide) h.1) (cC h.2 (by decide))),by exact cC h.2 (by decide),by exact eG (bL (by decide) h.1),by exact eG (bL (by decide) h.1)⟩
  (refine uQ d ?_;clear d;rintro b i j a k l m);exact⟨E5 k,by exact M (E5 b) (M i V),l,m,j,a⟩
 ·refine jl (uf c h) fun J J b a J=>M (zJ a) (M (O6 a) ?_);exact⟨b,b,by exact eG (bL (by decide) a),by exact eG (bL (by decide) a),by exact eG (bL (by decide) a),by exact eG (bL (by decide) a)⟩
noncomputable abbrev Row:=aD (aU×aA)
noncomputable def gF(p:aU×aA):aD Nat:=if p.1 then [34,p.2,34] else [p.2]
noncomputable def eM(p:aU×aA):Str:=if p.1 then quoted (one p.2) else one p.2
theorem ne(p:aU×aA):eM p=mk (gF p):=by obtain⟨b,c⟩:=p;cases b<;>rfl
noncomputable def ie(p:aU×aA):Prop:=if p.1=aF then Let p.2 else kK p.2
theorem ie.sgn(h:ie p):kK p.2:=by
 unfold ie at h
 split at h
 ·exact .inl h
 ·exact h
theorem rU(h:ie p):∀c∈gF p,ue c:=by
 intro c a;have b:=h.sgn;unfold gF at a
 split at a
 ·simp only[gz,cO,or_false] at a;rcases a with rfl |rfl |rfl
  ·exact .inl (by decide)
  ·exact b.E7
  ·exact .inl (by decide)
 ·refine M (fK.mp a) ?_;exact b.E7
theorem acH(h:(!decide (([x] :aD aA) < [97]) && !decide ([122] < ([x] :aD aA)))=aF):97≤x∧x≤122:=by
 simp only[gZ,no,QO] at h;obtain⟨a,b⟩:=h
 constructor
 ·rcases ou x 97 with q |q
  ·exact absurd (SE q) a
  ·exact q
 ·rcases ou 122 x with q |q
  ·exact absurd (SE q) b
  ·exact q
theorem O8(h:ie p)(a:jZ (eM p)=aF):p.1=aI∧97≤bA p.2∧bA p.2≤122:=by
 unfold jZ at a;rw[ne,wq (rU h)] at a;obtain⟨b,c⟩:=p;cases b with
 |true=>
  exfalso
  simp only[gZ,no,QO] at a;exact a.1 (SE (by decide:(34:aA) < 97))
 |false=>exact⟨rfl,acH a⟩
theorem O9(h:ie p):qr (eM p):=by
 have g:=wq (rU h);have i:=O7 (rU h);have a:(gF p).length≤3:=by unfold gF;split<;>simp
 refine⟨?_,?_,?_,fun j=> ?_⟩
 ·refine M (ne ..) (M (cZ ..) ?_);exact aL a (by decide)
 ·refine M (ne ..) (M g (M (cZ ..) (M (bQ ..) ?_)));exact aL a (by decide)
 ·refine M (ne ..) (M i (M (cZ ..) (M (bQ ..) ?_)));exact aL a (by decide)
 ·refine iD (O8 h j) fun k d f=> ?_;obtain⟨b,c⟩:=p;cases k;have e:cD (eM (aI,c))=mk [bA c] :=by refine M (ne ..) (M g ?_);rfl
  unfold qp;refine M e ?_;have d:97≤bA c:=d;have f:bA c≤122:=f;refine⟨rfl,?_,?_⟩
  ·exact(cV.mpr d:(97:Z)≤((bA c:aA):Z))
  ·exact(cV.mpr f:((bA c:aA):Z)≤122)
end
section
noncomputable def gV(l:aD aA):Prop:=∀c∈l,c≠34∧c≠92
theorem gV.append(d:gV a)(e:gV b):gV (a++b):=fun c f=>(jD.mp f).elim (d c) (e c)
noncomputable def lcs(a:Row):aD Nat:=(a.filter fun p=> !p.1).map fun p=>bA p.2
noncomputable def qs(a:Row):Nat:=(a.filter fun p=>p.1).length
noncomputable def Rd(q:aA)(o f:aD aA):Prop:=
 (q=0∧gV o∧dK o=f)∨(q=1∧∃a u b,o=a++[34,u,34] ++b∧gV a∧gV b∧u≠34∧u≠92∧dK a++dK b=f)
theorem Rd.pre(h:Rd q o f)(c:gV m):Rd q (m++o) (dK m++f):=by
 rcases h with⟨d,n,g⟩ |⟨i,a,u,b,e,j,k,l,p,g⟩
 ·exact .inl ⟨d,c.append n,by exact M (og ..) (M g V)⟩
 ·exact .inr ⟨i,m++a,u,b,by exact M e (aS (eZ ..) (aS (eZ ..) V)),c.append j,k,l,p,by exact M (og ..) (M (eZ ..) (M g V))⟩
theorem Rd.post(h:Rd q o f)(c:gV m):Rd q (o++m) (f++dK m):=by
 rcases h with⟨d,n,g⟩ |⟨i,a,u,b,e,j,k,l,p,g⟩
 ·exact .inl ⟨d,n.append c,by exact M (og ..) (M g V)⟩
 ·exact .inr ⟨i,a,u,b++m,by exact M e (M (eZ ..) V),j,k.append c,l,p,by exact M (og ..) (aS (eZ ..) (M g V))⟩
theorem Rd.app(h:Rd q o f)(b:Rd c i j)(d:q+c≤1):Rd (q+c) (o++i) (f++j):=by
 rcases h with⟨a,n,g⟩ |e
 ·refine M a (M (oo ..) (aS g ?_));exact b.pre n
 ·rcases b with⟨a,n,g⟩ |⟨k,_⟩
  ·refine M a (M (sb ..) (aS g ?_));exact Rd.post (.inr e) n
  ·rw[e.1,k] at d;exact absurd d (by decide)
noncomputable def jP(a:Row)(b:aD aA):Prop:=Rd (qs a) b (lcs a)
theorem acI:lcs ((aI,c)::r)=bA c::lcs r:=rfl
theorem acJ:lcs ((aF,c)::r)=lcs r:=rfl
theorem acK:qs ((aI,c)::r)=qs r:=rfl
theorem acL:qs ((aF,c)::r)=qs r+1:=rfl
theorem O'(c:lcs a=fs++lcs r)(d:qs a=qs r)(e:gV b)(f:dK b=fs)(h:jP r g):jP a (b++g):=by unfold jP;refine M c (M d (aS f ?_));exact Rd.pre h e
theorem acM(b:qs r=0)(g:gV a)(i:dK a=[])(j:q≠34)(k:q≠92)(h:jP r d):jP ((aF,c)::r) ([34,q,34] ++a++d):=by
 rcases h with⟨_,n,f⟩ |⟨e,_⟩
 ·refine .inr ⟨by exact M acL (M b V),[],q,a++d,eZ ..,(fun J h=>(cO h).elim),g.append n,j,k,?_⟩;refine M (og ..) (M i (M f (M acJ ?_)));rfl
 ·rw[b] at e;exact F8 e
theorem acN(c:Str)(a b:aD aA):c++mk a++mk b=c++mk (a++b):=by refine fT ?_;show((c.cps++a.toArray)++b.toArray).toList=(c.cps++(a++b).toArray).toList;simp
theorem acO(h:d % 40 < 27):dK [qq (d % 40)] =[]∧gV [qq (d % 40)] :=by
 have b:0≤d % 40:=eD _ (by decide);have e:(d % 40).toNat < jK.length:=(md b).mpr h
 have f:jK.getD (d % 40).toNat 0∈jK:=by refine M ik (M (fC e) ?_);exact mj ..
 exact xa (acC _ f) fun g a=>⟨g,fun c i=>by refine M (fK.mp i) ?_;exact⟨eG (iM (by decide) a),eG (iM (by decide) a)⟩⟩
theorem acP(j:¬d % 40 < 27)(l:d % 40 < 37)(g:ie p)(m:jZ (eM p)=aF):p.1=aI∧dK [rC (d % 40) (eM p)] =[bA p.2]∧gV [rC (d % 40) (eM p)] :=by
 refine iD (O8 g m) fun n a f=> ?_;have o:(d % 40 - 27).toNat < jL.length:=(md (AW (i9.mp j))).mpr (So l)
 have q:jL.getD (d % 40 - 27).toNat 0∈jL:=by refine M ik (M (fC o) ?_);exact mj ..
 obtain⟨b,c⟩:=p;cases n;have a:97≤bA c:=a;have f:bA c≤122:=f
 have e:qp (eM (aI,c))=((bA c:aA):Z):=by unfold qp;refine M (ne ..) (M (wq (rU g)) ?_);rfl
 obtain⟨k,h⟩:∃k,bA c=k+97:=⟨bA c - 97,(Ap a).symm⟩;refine xa (acB q (k:=k) (pO (n:=97) (h▸mh f))) fun r i=> ?_;unfold rC;refine M e (M h ?_);refine⟨rfl,r,fun x s=> ?_⟩;refine M (fK.mp s) ?_;exact⟨eG (iM (by decide) i),eG (iM (by decide) i)⟩
theorem acQ{p:aU×aA}{a:Row}:pairOf (eM p) (a.map eM)=cD (mk (gF p++((a.take 1).map gF).flatten)):=by unfold pairOf;refine aT cD (fT ?_);refine M (vX ..) (aS qF (M gH (M QY (M j6 (M (ne ..) ?_)))));exact aT (fun z=>gF p++agA z) (uL fun q J=>(M (ne ..) V:(eM q).cps.toList=_))
theorem E8(p:aU×aA):(p.1=aI∧gF p=[p.2])∨(p.1=aF∧gF p=[34,p.2,34]):=by
 obtain⟨b,c⟩:=p;cases b with
 |false=>exact .inl ⟨rfl,rfl⟩|true=>exact .inr ⟨rfl,rfl⟩
noncomputable def JoinOk(p:aU×aA)(a:Row)(v:Z):Prop:=∃q r,a=q::r∧p.1=aI∧q.1=aI∧dK [v.toNat] =[bA p.2,bA q.2]∧gV [v.toNat]
theorem acR(o:ie p)(s:∀q∈b,ie q)(h:nU (pairOf (eM p) (b.map eM))=O v):JoinOk p b v:=by
 refine aQ (l8.mp h) fun z j t=> ?_;(refine dW (acD z (agg j)) ?_;rintro d f a _);have k:=kP (List.find?_some (p:=fun q:Str×Z=>decide (q.1=pairOf (eM p) (b.map eM))) j)
 rw[acQ,wq fun c e=>(jD.mp e).elim (rU o c) fun e=>by refine aQ (List.mem_flatten.mp e) fun l u e=> ?_;(refine aQ (iW.mp u) ?_;rintro q w rfl);exact rU (s q (Ba w)) c e] at k
 rw[k] at d a;rw[t] at d f
 have y:gV [v.toNat] :=fun x A=>by exact M (fK.mp A) <|⟨eG (iM (by decide) f),eG (iM (by decide) f)⟩
 have a:((gF p++((b.take 1).map gF).flatten).map bA).length=2:=a;have d:dK [v.toNat] =(gF p++((b.take 1).map gF).flatten).map bA:=d;rcases E8 p with⟨m,g⟩ |⟨m,g⟩
 ·rw[g] at d a;cases b with
  |nil=>exact absurd (show 1=2 from a) (by decide)
  |cons q r=>
   rcases E8 q with⟨n,i⟩ |⟨n,i⟩
   ·exact⟨q,r,rfl,m,n,d.trans (by rw[show(q::r).take 1=[q] from rfl,gH,i];rfl),y⟩
   ·rw[show(q::r).take 1=[q] from rfl,gH,i] at a;exact absurd (show 4=2 from a) (by decide)
 ·rw[g] at a;have a:((([34,p.2,34] ++((b.take 1).map gF).flatten).map bA).length)=2:=a;exact(by cases(a:_+1+1+1=2))
theorem acS(a:p.1=aI)(b:q.1=aI)(c:dK l=[bA p.2,bA q.2])(d:gV l)(e:jP r f):jP (p::q::r) (l++f):=by obtain⟨i,g⟩:=p;obtain⟨j,h⟩:=q;cases a;cases b;exact O' (fs:=[bA g,bA h]) V rfl d c e
noncomputable def rV(b:Row)(n:aA)(c:Str)(z:Str×Z):Prop:=∃a,z.1=c++mk a∧jP b a∧a.length≤4*n
theorem rV.more(h:rV b n (c++mk l) z)(e:d=z)(f:l.length+4*n≤4*g)(k:∀a,jP b a→jP i (l++a)):rV i g c d:=by(refine dB h ?_;clear h;rintro a j m o);exact⟨l++a,by exact M e (M j (M (acN ..) V)),k a m,by refine M bH ?_;exact aL (eU o _) f⟩
theorem zK(h:qs (p::a)≤k):qs a≤k∧(p.1=aF→qs a+1≤k):=by
 obtain⟨b,c⟩:=p;cases b with
 |false=>exact⟨h,fun e=>GV e⟩|true=>exact⟨qz h,fun J=>h⟩
theorem Pa(i:qs (p::a)≤1)(j:p.1=aI→gV l∧dK l=[bA p.2])(k:p.1=aF→∃u,l=[34,u,34]∧u≠34∧u≠92)(d:gV hs)(f:dK hs=[])(m:l.length+hs.length≤4)
  (h:rV a n (acc++mk (l++hs)) z) (e:z'=z):rV (p::a) (n+1) acc z':=by
 refine h.more e (by refine M bH (M (r6 ..) (M (iz ..) ?_));exact eU m _) fun v g=> ?_;have o:=(zK i).2;obtain⟨b,c⟩:=p;cases b with
 |false=>
  exact xa (j V) fun q r=>O' (fs:=[bA c]) acI acK (q.append d) (by refine M (og ..) (M r (M f ?_));rfl) g
 |true=>
  exact dB (k V) fun u e s t=>M e <|acM (agV.mp (agW (o V))) d f s t g
theorem Pb:gV [] :=fun J h=>(cO h).elim
theorem Pc(h:c≠34)(a:c≠92):gV [c] :=fun x b=>by refine M (fK.mp b) ?_;exact⟨h,a⟩
theorem Pd(n:aA):∀row:Row,row.length≤n→(∀p∈row,ie p)→qs row≤1→∀(d:Z) (acc:Str),rV row row.length acc (fX (row.map eM) d acc):=by
 have nil:∀(d:Z) (acc:Str),rV [] 0 acc (fX [] d acc):=fun d acc=>⟨[],fT (Array.append_empty (xs:=acc.cps)▸rfl),.inl ⟨rfl,Pb,rfl⟩,bZ _⟩
 induction n with
 |zero=>intro row hn _ _ d acc;cases row with
  |nil=>exact nil d acc|cons=>exact absurd hn (Nat.not_succ_le_zero _)
 |succ n ih=>
  intro row hn rk hq d acc;cases row with
  |nil=>exact nil d acc|cons p rest=>
  have hp:=rk p (iK ..);have hr:∀q∈rest,ie q:=fun q hq=>rk q (hU _ hq);have Pe:rest.length≤n:=agW hn;have go:=fun acc=>ih rest Pe hr (zK hq).1 (d / 40) acc;refine qU (acG hp.sgn) fun f1 f2 f3 f4 f5 f6=> ?_
  have HF:p.1=aI→gV (gF p)∧dK (gF p)=[bA p.2] :=fun e=>by refine M (show gF p=[p.2] from aP (by refine M e ?_;exact cL)) ?_;exact⟨Pc f3 f4,f1⟩
  have E9:p.1=aF→∃u,gF p=[34,u,34]∧u≠34∧u≠92:=fun e=>⟨p.2,aR e,f3,f4⟩
  have tS:(gF p).length≤3:=by
   rcases E8 p with⟨_,e⟩ |⟨_,e⟩
   ·refine M e ?_;show 1≤3;decide
   ·refine M e ?_;exact bZ 3
  have zL:=fun(l:aD aA) h1 h2 h5 z' e=>Pa (acc:=acc) (l:=l) (hs:=[]) (z':=z') hq h1 h2 Pb V h5 (go _) e
  by_cases c1:d % 40 < 27
  ·refine xa (acO c1) fun g1 g2=> ?_;have e:acc++(eM p++one (qq (d % 40)))=acc++mk (gF p++[qq (d % 40)]):=by refine M (ne ..) ?_;exact aT (acc++ ·) (fT (lH (xs:=(gF p).toArray)))
   exact Pa hq HF E9 g2 g1 (sD tS) (go _) ((Ng c1).trans (aT _ e))
  by_cases c2:d % 40 < 37∧jZ (eM p)=aF
  ·exact iD (acP c1 c2.1 hp c2.2) fun g0 g1 g2=>zL [rC (d % 40) (eM p)] (fun J=>⟨g2,g1⟩) (fun h=>nomatch g0.symm.trans h) (by decide:1+0≤4) _ (Nh c1 c2)
  cases hj:(if 37 < d % 40 then nU (pairOf (eM p) (rest.map eM)) else aB) with
  |some v=>
   by_cases Pf:37 < d % 40
   ·refine HZ (acR hp hr ((aR Pf).symm.trans hj)) fun q r e b1 b2 g1 g2=> ?_;clear zL HF E9 go f1 f2 f3 f4 f5 f6 tS hp rk hn;subst e;exact(ih r (qz Pe) (fun x hx=>hr x (hU _ hx)) (zK (zK hq).1).1 (d / 40) (acc++mk [v.toNat])).more (Ni c1 c2 hj) (by refine M (iz ..) ?_;exact(nw (nw (nw (eU (show 1≤5 by decide) _))):_≤4*r.length+4+4)) fun out ho=>acS b1 b2 g1 g2 ho
   ·exact nomatch (aP Pf).symm.trans hj
  |none=>
   by_cases c3:d % 40=37
   ·have e:acc++(if d % 40=37 then qH (eM p) else eM p)=acc++mk ((gF p).map jE++[]):=
     M (aR c3) (M (ne ..) (M (O7 (rU hp)) (M (jS ..) V)))
    exact zL ((gF p).map jE) (fun h=>by refine M (show gF p=[p.2] from aP (by refine M h ?_;exact cL)) ?_;exact⟨Pc f5 f6,f2⟩) (fun h=>⟨jE p.2,by refine M (show gF p=[34,p.2,34] from aR h) ?_;rfl,f5,f6⟩) (by refine M (bQ ..) ?_;exact nw tS) _ ((DF c1 c2 hj).trans (aT _ e))
   ·have e:acc++(if d % 40=37 then qH (eM p) else eM p)=acc++mk (gF p++[]):=M (aP c3) (M (ne ..) (M (jS ..) V));exact zL (gF p) HF E9 (nw tS) _ ((DF c1 c2 hj).trans (aT _ e))
end
section
noncomputable def dL(k:aA):aD Nat:=(ED.getD k ⟨#[]⟩).cps.toList
noncomputable def iH(k:aA):aD Nat:=(zx.getD k ⟨#[]⟩).cps.toList
theorem wr:dL 0=[]∧dL 1=[32,34]∧dL 2=[32,92,34]∧dL 3=[32,34,40,92,34,120,34]∧dL 4=[32,92,92,34,113,34]∧
  iH 0=[]∧iH 1=[32,34]∧iH 2=[32,92,34]∧iH 3=[32]∧iH 4=[32,92,92] :=by decide+kernel
theorem Pg{st:aA}(h:c≠34):gE x ((i,[c])::r) st op res=gE x r st op res:=aP fun e=>h (xj e).1
theorem Ph(h:c≠92):dJ (c::r) i aI=(i,[c])::dJ r (i+1) false:=aP h
theorem Pj(x a b:aD aA)(st:aA)(d:aG aA)(e:aD (aD aA)):∀i:aA,gV a→gE x (dJ (a++b) i aI) st d e=gE x (dJ b (i+a.length) aI) st d e:=by
 induction a with
 |nil=>exact fun J J=>rfl
 |cons c a ih=>
  intro i h;refine xa (h c (iK ..)) fun f g=>(aT (fun z=>gE x z st d e) (Ph (r:=a++b) g)).trans ((Pg f).trans ((ih (i+1) fun y j=>h y (hU _ j)).trans ?_));refine M (iI ..) (M (iz 1 ..) ?_);rfl
theorem acT(a b:aD aA):(∀c∈a,c≠92)→kg (a++b) aI=kg b false:=by
 induction a with
 |nil=>exact fun J=>rfl
 |cons c a ih=>
  intro h;refine kN ?_ (ih fun y d=>h y (hU _ d));exact aT (kg (a++b)) (eO (h c (iK ..)))
theorem wt{C:aA→Prop}{k:aA}(a:k < 5)(b:C 0)(c:C 1)(d:C 2)(e:C 3)(f:C 4):C k:=
 match k,a with
 |0,_=>b |1,_=>c |2,_=>d |3,_=>e |4,_=>f
 |n+5,h=>absurd h (jA.mpr (ov 5 n))
theorem acU{k:aA}(a:k < 5):kg (dL k) aI=false:=by exact qU wr fun b c d e f J=>wt (C:=fun k=>kg (dL k) aI=aI) a (b▸rfl) (c▸rfl) (d▸rfl) (e▸rfl) (f▸rfl)
noncomputable def wu(x:aD aA)(z:aA×aD (aD aA)):aD Nat:=(z.2++if z.1 < x.length then [x.drop z.1] else []).flatten
theorem Pk(a:aD (aD aA))(y:aD aA):(a++[y]).flatten=a.flatten++y:=M List.flatten_append (M agX V)
theorem E'{st:aA}(d:x.drop st=b++t)(e:x.length=st+(b++t).length):wu x (st,a)=a.flatten++b++t:=by
 refine M (eZ ..) ?_
 by_cases c:st < x.length
 ·exact(aT (fun z=>(a++z).flatten) (aR c)).trans ((Pk a _).trans (aT _ d))
 ·have f:(b++t).length=0:=agV.mp (Nat.le_of_add_le_add_left (aL (cM e.symm) (jA.mp c)));refine M (qA f) (M (jS ..) ?_);exact(aT (fun z=>(a++z).flatten) (aP c)).trans (M (jS ..) V)
theorem Pm{st:aA}(d:x.drop st=b++t)(e:x.length=st+(b++t).length)(g:t.take (n+1)=f)(c:z=(st+b.length+t.length,if st≠st+b.length+(n+1) then a++[(x.take (st+b.length+(n+1))).drop st] else a)):wu x z=a.flatten++b++f:=by
 have h:¬st+b.length+t.length < x.length:=by refine M e (M bH (M (iI ..) ?_));exact uu _
 have i:st≠st+b.length+(n+1):=by refine M (iI ..) ?_;exact fG (Nat.lt_add_of_pos_right (ow _))
 have j:(x.take (st+b.length+(n+1))).drop st=b++f:=
  M agy (M d (M (iI ..) (M (qy ..) (M (List.take_length_add_append ..) (M g V)))))
 rw[aR i,j] at c;refine M c (M (eZ ..) ?_);exact(aT (fun z=>((a++[b++f])++z).flatten) (aP h)).trans (M (jS ..) (M (Pk ..) V))
theorem Pn(x b:aD aA)(k st:aA)(a:aD (aD aA))(e:k < 5)(f:gV b)(c:x.drop st=b++dL k)(d:x.length=st+(b++dL k).length):
  wu x (gE x (dJ (b++dL k) st aI) st aB a)=a.flatten++b++iH k:=by
 refine H4 wr fun g h i j l m n o p q=>M (Pj x b _ st aB a st f) ?_;revert c d;refine wt (C:=fun k=>x.drop st=b++dL k→x.length=st+(b++dL k).length→wu x (gE x (dJ (dL k) (st+b.length) aI) st aB a)=a.flatten++b++iH k) e ?_ ?_ ?_ ?_ ?_
 ·refine M g (M m ?_);exact E'
 ·refine M h (M n ?_);exact E'
 ·refine M i (M o ?_);exact E'
 ·refine M j (M p ?_);exact fun c d=>Pm (n:=0) c d V rfl
 ·refine M l (M q ?_);exact fun c d=>Pm (n:=2) c d V rfl
theorem acV(b:aD aA)(k:aA)(c:k < 5)(d:gV b):kh (b++dL k)=b++iH k:=by
 by_cases a:34∈b++dL k
 ·exact(aR a).trans (Pn (b++dL k) b k 0 [] c d V (oo _).symm)
 ·refine uQ wr fun e f g i j l J=>(aP a).trans ?_;revert a;exact wt (C:=fun k=>34∉b++dL k→b++dL k=b++iH k) c (fun J=>M e (M l V)) (fun h=>absurd (j5 _ (f▸by decide)) h) (fun h=>absurd (j5 _ (g▸by decide)) h) (fun h=>absurd (j5 _ (i▸by decide)) h) fun h=>absurd (j5 _ (j▸by decide)) h
theorem acW(a b:aD aA)(q k:aA)(f:k < 5)(g:gV a)(h:gV b)(i:q≠34)(j:q≠92):kh (a++[34,q,34] ++b++dL k)=a++b++iH k:=by
 have e:a++[34,q,34] ++b++dL k=a++(34::q::34::(b++dL k)):=by refine M (eZ ..) (M (eZ ..) ?_);rfl
 refine M e <|(aR (j5 _ (iK ..))).trans ?_
 show wu _ _=_;generalize c:a++(34::q::34::(b++dL k))=X;have l:X.take a.length=a:=by refine aS c ?_;exact HG V
 have m:gE X (dJ X 0 aI) 0 aB [] =gE X (dJ (b++dL k) (a.length+3) aI) (a.length+3) aB (if 0≠a.length then [a] else []):=by
  refine(aT (fun z=>gE X (dJ z 0 aI) 0 aB []) c.symm).trans ((Pj X a _ 0 aB [] 0 g).trans ?_);refine M (oo ..) <|(aT (fun z=>gE X ((a.length,[34])::z) 0 aB []) (Ph j)).trans ((Pg (st:=0) (op:=O a.length) (res:=[]) i).trans ?_)
  refine(M l ?_:gE X (dJ (b++dL k) (a.length+3) aI) (a.length+3) aB (if 0≠a.length then [] ++[X.take a.length] else [])=_);rfl
 refine M m (M (Pn X b k (a.length+3) _ f h (by refine aS c ?_;exact List.drop_length_add_append 3) (by refine aS c (M bH (M (iI ..) ?_));exact aT _ (iz _ 3))) ?_)
 by_cases d:a.length=0
 ·refine M (qA d) ?_;rfl
 ·exact M (aR (Ne.symm d)) (M agX V)
end
section
noncomputable def jQ(d:aD aA)(a e:Z):Row:=
 let b:Row:=d.map fun c=>(aI,c)
 if a / 4 % 2≠e∨a % 4=0 then b
 else if a % 4=1 then b.set (iu a % 3).toNat (aF,d.getD (iu a % 3).toNat 0)
 else if a % 4=2 then b.take (iu a % 4).toNat++(aI,jI (a / 96) aF)::b.drop (iu a % 4).toNat
 else b.set (iu a % 3).toNat (aI,jI (a / 96) aI)
theorem qw{C:aA→Prop}{k:aA}(a:k < 3)(b:C 0)(c:C 1)(d:C 2):C k:=
 match k,a with
 |0,_=>b |1,_=>c |2,_=>d
 |n+3,h=>absurd h (jA.mpr (ov 3 n))
theorem wv{C:aA→Prop}{k:aA}(a:k < 4)(b:C 0)(c:C 1)(d:C 2)(e:C 3):C k:=
 match k,a with
 |0,_=>b |1,_=>c |2,_=>d |3,_=>e
 |n+4,h=>absurd h (jA.mpr (ov 4 n))
theorem mD{x:Z}{m:aA}(h:0 < (m:Z)):(x % m).toNat < m:=(md (eD _ (fB h))).mpr (gJ _ h)
theorem rW(d:Z)(b:aU):kK (jI d b)∧bA (jI d b)=jI d b:=by
 unfold jI
 by_cases h:b=aF∧d % 42 < 26
 ·refine M (aR h) <|xe (qT (eD d (by decide:(42:Z)≠0))) fun n e=> ?_
  have a:=h.2;rw[e] at a ⊢;exact⟨.inl (.inr ⟨hO 97 n,eU (jy (dZ.mp a)) 97⟩),aP fun q=>absurd (aL (hO 97 n) q.2) (by decide)⟩
 ·refine M (aP h) ?_
  have f:∀k:aA,k < 16→kK (jv.getD k 0).toNat∧bA (jv.getD k 0).toNat=(jv.getD k 0).toNat:=fun k g=>by
   have c:(jv.getD k 0).toNat∈oh:=iW.mpr ⟨jv.getD k 0,by refine M ik (M (fC (g:k < jv.length)) ?_);exact mj ..,rfl⟩
   exact⟨.inr c,zJ (uf _ c).2.2.2.1⟩
  refine f _ ?_
  split
  ·exact mD (m:=16) (by decide)
  ·exact mD (m:=16) (by decide)
theorem map_one(l:aD aA):rowOf (mk l)=l.map one:=rfl
theorem zM(l:aD aA):(l.map fun c=>((aI,c):aU×aA)).map eM=l.map one:=by refine M j6 ?_;rfl
theorem Fa{C:aD Str→Row→Prop}{row:aD Str}{a:aD aA}{b g:Z}{m:aU}(h:C row (a.map fun c=>(aI,c)))
  (i:∀k < 3,C (row.set k (if m=aF then quoted (row.getD k ⟨#[]⟩) else⟨#[]⟩)) ((a.map fun c=>(aI,c)).set k (aF,a.getD k 0)))
  (j:∀k < 4,∀s,kK s→bA s=s→C (row.take k++one s::row.drop k) ((a.map fun c=>(aI,c)).take k++(aI,s)::(a.map fun c=>(aI,c)).drop k))
  (l:∀k < 3,∀s,kK s→bA s=s→C (row.set k (one s)) ((a.map fun c=>(aI,c)).set k (aI,s))):C (nT row b g m) (jQ a b g):=by
 unfold nT jQ;dsimp only
 by_cases d:b / 4 % 2≠g∨b % 4=0
 ·refine M (aR d) (M (aR d) ?_);exact h
 refine M (aP d) (M (aP d) ?_)
 by_cases e:b % 4=1
 ·refine M (aR e) (M (aR e) ?_);exact i _ (mD (m:=3) (by decide))
 refine M (aP e) (M (aP e) ?_)
 by_cases f:b % 4=2
 ·refine M (aR f) (M (aR f) ?_);exact j _ (mD (m:=4) (by decide)) _ (rW _ _).1 (rW _ _).2
 ·refine M (aP f) (M (aP f) ?_);exact l _ (mD (m:=3) (by decide)) _ (rW _ _).1 (rW _ _).2
theorem Po(a:aD aA)(b c:Z):nT (rowOf (mk a)) b c aF=(jQ a b c).map eM:=by
 refine M (map_one ..) ?_;refine Fa (C:=fun l r=>l=r.map eM) (zM a).symm (fun k J=> ?_) (fun k J s J J=>by refine M iA (M gH (M qF (M Bg (M (zM ..) ?_))));rfl) fun k J s J J=>by refine M xH (M (zM ..) ?_);rfl
 refine M xH (M (zM ..) (M (aR V) ?_))
 by_cases d:k < a.length
 ·refine aT ((a.map one).set k) ?_;refine M ik (M ik (M ij (M (fC d) ?_)));rfl
 ·have:(a.map one).length≤k:=by refine M (bQ ..) ?_;exact jA.mp d
  exact M (agY this) (M (agY this) V)
noncomputable def zN(r:Row):Prop:=(∀p∈r,ie p)∧qs r≤1∧r.length≤4
theorem pu{f:aD aA}(q:∀c∈f,Let c)(v:f.length=3)(j l:Z):(∀p∈jQ f j l,ie p)∧qs (jQ f j l)≤1∧(jQ f j l).length≤4:=by
 obtain⟨a,b,c,rfl⟩:∃a b c,f=[a,b,c] :=by
  match f,v with
  |[a,b,c],_=>exact⟨a,b,c,rfl⟩
 have m:∀x∈[a,b,c],ie (aI,x):=fun x h=> .inl (q x h);have n:∀x∈[a,b,c],ie (aF,x):=q;have t:a∈[a,b,c] := .head _;have mb:b∈[a,b,c] := .tail _ (.head _);have u:c∈[a,b,c] := .tail _ (.tail _ (.head _));have w:∀p∈([] :Row),ie p:=fun J h=>(cO h).elim;have d:∀{x y z:aU×aA},ie x→ie y→ie z→∀p∈[x,y,z],ie p:=fun C E F=>jh.mpr ⟨C,jh.mpr ⟨E,jh.mpr ⟨F,w⟩⟩⟩;have A:=m a t;have B:=m b mb;have D:=m c u;have e:(0:aA)≤1:=by decide
 have g:(3:aA)≤4:=by decide
 refine Fa (m:=aF) (row:=[]) (C:=fun J r=>zN r) ⟨d A B D,e,g⟩ (fun k i=>qw (C:=fun k=>zN (([a,b,c].map fun c=>(aI,c)).set k (aF,[a,b,c].getD k 0))) i ⟨d (n a t) B D,bZ 1,g⟩ ⟨d A (n b mb) D,bZ 1,g⟩ ⟨d A B (n c u),bZ 1,g⟩)
  (fun k i s o J=> ?_) fun k i s o J=> ?_
 ·have S:ie (aI,s):=o;exact wv (C:=fun k=>zN (([a,b,c].map fun c=>(aI,c)).take k++(aI,s)::([a,b,c].map fun c=>(aI,c)).drop k)) i ⟨jh.mpr ⟨S,d A B D⟩,e,bZ 4⟩ ⟨jh.mpr ⟨A,d S B D⟩,e,bZ 4⟩ ⟨jh.mpr ⟨A,d B S D⟩,e,bZ 4⟩ ⟨jh.mpr ⟨A,d B D S⟩,e,bZ 4⟩
 ·have S:ie (aI,s):=o;exact qw (C:=fun k=>zN (([a,b,c].map fun c=>(aI,c)).set k (aI,s))) i ⟨d S B D,e,g⟩ ⟨d A S D,e,g⟩ ⟨d A B S,e,g⟩
noncomputable def zO(l:aD Str)(r:Row):Prop:=(l.map fun x=>x.cps.toList).flatten=lcs r∧l.length≤4
theorem acX{f:aD aA}(j:f.length=3)(h i:Z):((nT (rowOf (mk (f.map bA))) h i aI).map fun x=>x.cps.toList).flatten=lcs (jQ f h i)∧(nT (rowOf (mk (f.map bA))) h i aI).length≤4:=by
 obtain⟨a,b,c,rfl⟩:∃a b c,f=[a,b,c] :=by
  match f,j with
  |[a,b,c],_=>exact⟨a,b,c,rfl⟩
 have e:(3:aA)≤4:=by decide
 refine Fa (C:=zO) ⟨rfl,e⟩ (fun k g=>qw (C:=fun k=>zO ((([a,b,c].map bA).map one).set k ⟨#[]⟩) (([a,b,c].map fun c=>(aI,c)).set k (aF,[a,b,c].getD k 0))) g ⟨rfl,e⟩ ⟨rfl,e⟩ ⟨rfl,e⟩) (fun k g s J d=> ?_) fun k g s J d=> ?_
 ·exact wv (C:=fun k=>zO ((([a,b,c].map bA).map one).take k++one s::(([a,b,c].map bA).map one).drop k) (([a,b,c].map fun c=>(aI,c)).take k++(aI,s)::([a,b,c].map fun c=>(aI,c)).drop k)) g ⟨aT (fun s=>[s,bA a,bA b,bA c]) d.symm,bZ 4⟩ ⟨aT (fun s=>[bA a,s,bA b,bA c]) d.symm,bZ 4⟩ ⟨aT (fun s=>[bA a,bA b,s,bA c]) d.symm,bZ 4⟩ ⟨aT (fun s=>[bA a,bA b,bA c,s]) d.symm,bZ 4⟩
 ·exact qw (C:=fun k=>zO ((([a,b,c].map bA).map one).set k (one s)) (([a,b,c].map fun c=>(aI,c)).set k (aI,s))) g ⟨aT (fun s=>[s,bA b,bA c]) d.symm,e⟩ ⟨aT (fun s=>[bA a,s,bA c]) d.symm,e⟩ ⟨aT (fun s=>[bA a,bA b,s]) d.symm,e⟩
end
section
theorem Pp:(∀x∈cF++cH,x.cps.toList.all fun c=>(decide (65≤c) && decide (c≤90)) ||(decide (97≤c) && decide (c≤122)))∧∀x∈po,x.cps.toList.all fun c=>decide (c < 128) && c !=34 && c !=92:=by decide+kernel
theorem Pq(h:x∈cF++cH):∀c∈x.cps.toList,Let c:=fun c a=>by have:=j1.mp (Pp.1 x h) c a;simp only[RH,gZ,lG] at this;exact this
theorem ug(h:i < 7):∀c∈jM i,Let c:=by have:i < cF.length:=h;unfold jM;refine M ik (M (fC this) ?_);exact Pq (kR _ (mj ..))
theorem uh(h:i < 12):∀c∈jN i,Let c:=by have:i < cH.length:=h;unfold jN;refine M ik (M (fC this) ?_);exact Pq (j5 _ (mj ..))
noncomputable def iU(l:aD aA):Prop:=∀c∈l,c < 128∧c≠34∧c≠92
theorem iU.Pr(h:iU l):gV l:=fun c a=>(h c a).2
theorem iU.lt(h:iU l):∀c∈l,c < 128:=fun c a=>(h c a).1
theorem iU.append(d:iU a)(e:iU b):iU (a++b):=fun c f=>(jD.mp f).elim (d c) (e c)
theorem ww(h:c < 128∧c≠34∧c≠92):iU [c] :=fun x a=>by refine M (fK.mp a) ?_;exact h
theorem wx(k:aA)(n:aA):iU (cB k (n:aA))∧(cB k (n:aA)).map bA=cB k (n:aA):=by
 have b:∀c∈cB k (n:aA),48≤c∧c≤57:=by
  intro c a;rcases jD.mp a with a |a
  ·refine M ((Bq.mp a).2) ?_;exact⟨by decide,by decide⟩
  ·exact Ei _ c a
 refine⟨fun c a=> ?_,?_⟩
 ·have:=b c a;lia
 ·have e:(cB k (n:aA)).map bA=(cB k (n:aA)).map fun c=>c:=uL fun c a=>by have:=b c a;exact aP (HV (cC this.2 (by decide)))
  exact M e (M (List.map_id' ..) V)
theorem wy(d:aA):iU (ic d)∧(ic d).map bA=ic d:=by refine xa (wx 2 d) fun a b=> ?_;unfold ic;refine⟨((ww (c:=44) (by decide)).append (ww (c:=32) (by decide)) |>.append a).append (ww (by decide)),?_⟩;refine M iA (M iA (M b ?_));rfl
theorem zP(h:i < 4):iU (gU i):=by have:i < po.length:=h;unfold gU;refine M ik (M (fC this) ?_);intro c a;have:=j1.mp (Pp.2 _ (mj ..)) c a;simp only[gZ,lG,Gp] at this;exact⟨this.1.1,this.1.2,this.2⟩
theorem zQ(y h m s:aA)(c:iU z):iU (l0 y h m s z)∧(l0 y h m s z).map bA=l0 y h m s (z.map bA):=by refine xa (wx 4 y) fun d e=>xa (wx 2 h) fun f g=>xa (wx 2 m) fun i j=>xa (wx 2 s) fun k l=> ?_;have a:iU [32] :=ww (by decide);have b:iU [58] :=ww (by decide);unfold l0;refine⟨(((((((a.append d).append a).append f).append b).append i).append b).append k |>.append a).append c,?_⟩;simp only[iA,e,g,j,l];rfl
theorem Ps(b:k < 5):dK (iH k)=iH k∧(iH k).length≤3:=by refine H4 wr fun J J J J J d f g i j=> ?_;have a:∀{l:aD aA},(∀c∈l,c < 128)→l.map bA=l→l.length≤3→dK l=l∧l.length≤3:=fun h e m=>⟨(zI h).trans e,m⟩;exact wt (C:=fun k=>dK (iH k)=iH k∧(iH k).length≤3) b (d▸a (by decide) V (by decide)) (f▸a (by decide) V (by decide)) (g▸a (by decide) V (by decide)) (i▸a (by decide) V (by decide)) (j▸a (by decide) V (by decide))
theorem zR(h:zS / 4 % 2≠which):qs (jQ nm zS which)=0:=by
 refine M (show jQ nm zS which=nm.map fun c=>(aI,c) from aR (.inl h)) ?_
 induction nm with
 |nil=>rfl|cons c r ih=>exact ih
theorem Rd.acY(h:Rd q o f):∀c∈o,c≠92:=by
 rcases h with⟨_,n,_⟩ |⟨_,a,u,b,e,g,i,_,j,_⟩
 ·exact fun c d=>(n c d).2
 ·refine M e ?_;have k:∀c∈[34,u,34],c≠92:=jh.mpr ⟨by decide,jh.mpr ⟨j,jh.mpr ⟨by decide,fun J h=>(cO h).elim⟩⟩⟩;exact fun c d=>(jD.mp d).elim (fun d=>(jD.mp d).elim (fun d=>(g c d).2) (k c)) fun d=>(i c d).2
theorem Rd.strip(c:k < 5)(h:Rd q o f):dK (kh (o++dL k))=f++iH k∧(kh (o++dL k)).length≤o.length+3:=by
 refine xa (Ps c) fun d i=> ?_;rcases h with⟨_,n,g⟩ |⟨_,a,u,b,e,j,l,m,p,g⟩
 ·refine M (acV o k c n) (M (og ..) (M g (M d (M bH ?_))));exact⟨rfl,eU i _⟩
 ·refine M e (M (acW a b u k c j l m p) (M (og ..) (M (og ..) (M g (M d (M bH (M bH (M bH (M bH ?_)))))))));exact⟨rfl,fY (lF (hO _ _) _) i⟩
theorem Pt(f:jP a g)(h:jP b i)(j:qs a+qs b≤1)(c:iU d)(e:iU R):Rd (qs a+qs b) (g++d++i++R) (lcs a++d.map bA++lcs b++R.map bA):=by refine aS (zI c.lt) (aS (zI e.lt) ?_);exact Rd.post (Rd.app (Rd.post f c.Pr) h j) e.Pr
theorem Pu(d:k < 5)(g:jP e b)(i:jP f c)(j:qs e+qs f≤1)(l:iU a)(m:iU R):
  dK (kh (b++a++c++R++dL k))=lcs e++a.map bA++lcs f++R.map bA++iH k∧kg (b++a++c++R++dL k) aI=false:=
 have h:=Pt g i j l m
 ⟨(h.strip d).1,(acT (b++a++c++R) (dL k) h.acY).trans (acU d)⟩
end
section
theorem acZ(a:l.length=i):(aX (l++[p] ++[q])).put i x=aX (l++[x] ++[q]):=by
 have e:∀z:PV,aX (l++[z] ++[q])={loc:=l.map O++O z::(O q::dT (27 - (l.length+1+1)) aB)}:=fun z=>by unfold aX;refine M iA (M iA (M bH (M bH (M (eZ ..) (M (eZ ..) ?_)))));rfl
 refine M (e ..) (M (e ..) (aS a ?_));refine aT (fun z=>({loc:=z}:Sg)) ?_;refine M (uK _ _ (cM (bQ _))) (M (bQ ..) (M (pJ ..) ?_));rfl
theorem ac0(a:l.length=i)(b:i+1 < 27)(h:ev P (aX l) e=O (.tup [x,y])):ex P (.jm [i,i+1] e) (aX l)=O (.next,aX (l++[x] ++[y])):=by exact M (yw h V) <|(M (rR a (kt b)) (M (rR (by refine M bH (M a ?_);rfl) b) V):O (Fl.next,((aX l).put i x).put (i+1) y)=_)
theorem ac1(a:l.length=i)(b:i+1 < 27)(h:ev P (aX (l++[p])) e=O (.tup [x,y])):ex P (.jm [i+1,i] e) (aX (l++[p]))=O (.next,aX (l++[y] ++[x])):=by exact M (yw h V) <|(M (rR (by refine M bH (M a ?_);rfl) b) (M (acZ a) V):O (Fl.next,((aX (l++[p])).put (i+1) x).put i y)=_)
theorem Pw{a b:aA}(h:l.length≤100000):mV (.str (mk l)) (.int (a:Z)) (.int (b:Z))=O (.str (mk ((l.take b).drop a))):=Oe l a b h
theorem ac2{b:aA}(h:l.length≤100000):mV (.str (mk l)) .none (.int (b:Z))=O (.str (mk (l.take b))):=
 (bB (by refine M (cZ ..) (M cN ?_);exact aL h (by decide))).trans (aT (fun z=>O (PV.str z)) (fT (Nb _ _)))
theorem ac3{a:aA}(h:l.length≤100000):mV (.str (mk l)) (.int (a:Z)) .none=O (.str (mk (l.drop a))):=
 (bB (by refine M (cZ ..) (M cN ?_);exact aL h (by decide))).trans (aT (fun z=>O (PV.str z)) (fT (DC _ _)))
theorem more{l:aD PV}{k:aA}{x y:PV}(h:l[k]? =O x):(l++[y])[k]? =O x:=
 M (su (l6.mp h).1) (M h V)
theorem nf:∀n < 100,(cB 2 ((n:aA):Z)).length=2:=by decide+kernel
theorem Fb(h:d < 100):(ic d).length=5:=by unfold ic;refine M bH (M bH (M (nf d h) ?_));rfl
theorem Fd(a:y < 20000)(b:h < 100)(c:m < 100)(d:s < 100)(e:z.length≤5):(l0 y h m s z).length≤40:=by have f:=pq 4 y (iM a (by decide)) (by decide);unfold l0;refine M bH (M bH (M bH (M bH (M bH (M bH (M bH (M bH (M bH (M (nf h b) (M (nf m c) (M (nf s d) ?_)))))))))));exact aL (fY (lF (eU f 1) 10:1+(cB 4 (y:aA)).length+10≤25) e) (by decide)
theorem parts{a b c e:aD aA}(d:a.length=3)(h:b.length=5)(i:c.length=3):(a++b++c++e).take 3=a∧((a++b++c++e).take 11).drop 8=c∧((a++b++c++e).take 8).drop 3=b∧(a++b++c++e).drop 11=e:=by have f:(a++b).length=8:=M bH (M d (M h V));have g:(a++b++c).length=11:=M bH (M f (M i V));exact⟨by refine M (eZ ..) (M (eZ ..) ?_);exact HG d,by refine M (HG g) ?_;exact SF f,by refine M (eZ ..) (M (HG f) ?_);exact SF d,SF g⟩
theorem zT(h:l.length=k):(l++[x])[k]? =O x:=by refine aS h ?_;exact List.getElem?_concat_length
theorem ac4(a:k < 5):(dL k).length≤7:=by exact qU wr fun b c d e f J=>wt (C:=fun k=>(dL k).length≤7) a (by refine M b ?_;decide) (by refine M c ?_;decide) (by refine M d ?_;decide) (by refine M e ?_;decide) (by refine M f ?_;decide)
noncomputable def bU.r1(D:bU):Row:=jQ (jM D.wd) D.c2 0
noncomputable def bU.r2(D:bU):Row:=jQ (jN D.mo) D.c2 1
noncomputable def bU.E(D:bU):aD Nat:=l0 D.yr D.hh D.mi D.se (gU D.zi)
section
theorem zU{P:bT}{D:bU}{l:aD PV}{k:aA}{x:Z}(a:D.cs[k]? =O x)(h:l[1]? =O (.lst (D.cs.map .int))):ev P (aX l) (.sub (.nm 1) (.int (k:Z)))=O (.int x):=rS D (dS h) k x a
theorem ac5{P:bT}{D:bU}{l:aD PV}{o:aD aA}{a:aD PV}{d:Z}(n:l.length=13)(b:l[1]? =O (.lst (D.cs.map .int)))(c:l[10]? =O (.str (mk D.line)))(e:D.line.length≤100000)(t:D.line.take 3=jM D.wd)
  (f:P.call (aH "_law_harmed") [.str (mk (jM D.wd)),.int D.c2,.int 0,.bool aF] =O (.lst a)) (g:P.call (aH "_law_typed") [.lst a,.int D.c3] =O (.tup [.str (mk o),.int d])):ex P EH (aX l)=O (.next,aX (l++[PV.str (mk o)] ++[.int d])):=
 ac0 n (by decide) (fO (jW (fO (bW (oY (v:= .int (3:aA)) (dS c) V rfl ((ac2 e).trans (M t V))) (bW (zU (k:=2) V b) (jW V rfl))) V f) (zU (k:=3) V b)) V g)
theorem ac6{P:bT}{D:bU}{l:aD PV}{o:aD aA}{a:aD PV}{d b:Z}(n:l.length=14)(c:(l++[.int d])[1]? =O (.lst (D.cs.map .int)))(e:(l++[.int d])[10]? =O (.str (mk D.line)))(f:D.line.length≤100000)(t:(D.line.take 11).drop 8=jN D.mo)
  (g:P.call (aH "_law_harmed") [.str (mk (jN D.mo)),.int D.c2,.int 1,.bool aF] =O (.lst a)) (h:P.call (aH "_law_typed") [.lst a,.int d] =O (.tup [.str (mk o),.int b])):ex P EI (aX (l++[.int d]))=O (.next,aX (l++[.int b] ++[PV.str (mk o)])):=
 ac1 n (by decide) (fO (jW (fO (bW (oY (u:= .int (8:aA)) (v:= .int (11:aA)) (dS e) V rfl ((Pw f).trans (M t V))) (bW (zU (k:=2) V c) (jW V rfl))) V g) (dS (zT n))) V h)
theorem ac7{P:bT}{D:bU}{l:aD PV}{k:aA}(n:l.length=16)(a:l[1]? =O (.lst (D.cs.map .int)))(b:D.c5 % 5=(k:Z))(c:k < 5):ex P EJ (aX l)=O (.next,aX (l++[PV.str (mk (dL k))])):=
 ub n (by decide) ((E2 (l:=ED) ((lQ (b:=5) (zU (k:=5) (x:=D.c5) V a) (by decide) (by decide)).trans (M b V)) (by decide) c).trans (aT (fun z=>O (PV.str z)) (uc _ _))) V
theorem ac8{P:bT}{D:bU}{l:aD PV}{a b c:aD aA}{z:PV}{m E:aD aA}(n:l.length=17)(d:l[10]? =O (.str (mk D.line)))(f:l[13]? =O (.str (mk a)))(g:l[15]? =O (.str (mk b)))(h:l[16]? =O (.str (mk c)))(e:D.line.length≤100000)(i:(D.line.take 8).drop 3=m)(j:D.line.drop 11=E)
  (k:a.length≤100) (o:b.length≤100) (p:c.length≤100) (q:m.length≤100) (r:E.length≤100) (s:P.call (aH "_strip_quoted_realnames") [.str (mk (a++m++b++E++c))] =O z) (t:js z=O z):ex P EK (aX l)=O (.next,aX (l++[z])):=by
 have u:jO P (aX l) (.dD (.nm 10) (.int 3) (.int 8)) m 100:=⟨oY (u:= .int (3:aA)) (v:= .int (8:aA)) (dS d) V rfl ((Pw e).trans (M i V)),q⟩;have v:jO P (aX l) (.dD (.nm 10) (.int 11) .none) E 100:=⟨oY (u:= .int (11:aA)) (dS d) V rfl ((ac3 e).trans (M j V)),r⟩;have w:jO P (aX l) (.nm 13) a 100:=⟨dS f,k⟩;exact ub n (by decide) (fO (gD (((((w.add u (by decide)).add ⟨dS g,o⟩ (by decide)).add v (by decide)).add ⟨dS h,p⟩ (by decide)).1)) V s) t
end
section
theorem ac9{w:aV}{H mb:Str→aG aJ}{h₀:bF}{T:aD Tab}(W:Wd w H mb h₀)(D:bU)(a:D.Ok):∃b c i k,jP D.r1 b∧jP D.r2 c∧k < 5∧D.c5 % 5=((k:aA):Z)∧b.length+c.length≤32∧
  lx w H mb h₀ T [EH,EI,EJ,EK] (aX D.je) (aX (D.je++[PV.str (mk b)] ++[PV.int i] ++[PV.str (mk c)] ++[PV.str (mk (dL k))] ++[.str (mk (kh (b++ic D.dy++c++D.E++dL k)))])):=by
 have e:=t9 a.bw;have f:=ua a.bm;have j:=Fb (d:=D.dy) (cC a.bd.2 (by decide));have s:D.E.length≤40:=Fd a.lz (iM a.bh (by decide)) (iM a.bi (by decide)) (iM a.bs (by decide)) (rQ a.bz);refine iD (pu (ug a.bw) e D.c2 0) fun t I u=>iD (pu (uh a.bm) f D.c2 1) fun x K y=>dB (Pd _ D.r1 (bZ _) t I D.c3 ⟨#[]⟩) fun b z L g=>dB (Pd _ D.r2 (bZ _) x K (fX (D.r1.map eM) D.c3 ⟨#[]⟩).2 ⟨#[]⟩) fun c A N h=> ?_;have g:b.length≤16:=aL g (wS 4 u);have h:c.length≤16:=aL h (wS 4 y);have a0:∀l:aD aA,(⟨#[]⟩:Str)++mk l=mk l:=fun l=>fT (lH (xs:= #[]));rw[a0] at z A;refine xe (qT (eD D.c5 (by decide:(5:Z)≠0))) fun k B=> ?_;have m:k < 5:=dZ.mp (B▸gJ D.c5 (by decide));refine⟨b,c,(fX (D.r2.map eM) (fX (D.r1.map eM) D.c3 ⟨#[]⟩).2 ⟨#[]⟩).2,k,L,N,m,B,fY g h,?_⟩;have P:=y6 (T:=T) W (mk (jM D.wd)) (by rw[cZ,e]) D.c2 0 aF;rw[Po] at P;have C:=Np (T:=T) W (D.r1.map eM) (fun a1 d=>by(refine aQ (iW.mp d) ?_;rintro q E rfl);exact O9 (t q E)) (by rw[bQ];exact aL u (by decide)) D.c3;rw[z] at C;have Q:=y6 (T:=T) W (mk (jN D.mo)) (by rw[cZ,f]) D.c2 1 aF;rw[Po] at Q;have n:=Np (T:=T) W (D.r2.map eM) (fun a1 d=>by(refine aQ (iW.mp d) ?_;rintro q E rfl);exact O9 (x q E)) (by rw[bQ];exact aL y (by decide)) (fX (D.r1.map eM) D.c3 ⟨#[]⟩).2;rw[A] at n;clear z A t x I K u y;generalize(fX (D.r1.map eM) D.c3 ⟨#[]⟩).2=d1 at C n ⊢;generalize(fX (D.r2.map eM) d1 ⟨#[]⟩).2=i at n ⊢;refine dW (parts (e:=D.E) e j f) fun a2 a3 a4 a5=> ?_
 have F:D.line.length≤100000:=by show(jM D.wd++ic D.dy++jN D.mo++D.E).length≤100000;rw[bH,bH,bH,e,f,j];exact aL (eU s 11) (by decide)
 have R:qs D.r1+qs D.r2≤1:=by
  have a6:qs D.r1≤1:=(pu (ug a.bw) e D.c2 0).2.1;have a7:qs D.r2≤1:=(pu (uh a.bm) f D.c2 1).2.1
  by_cases d:D.c2 / 4 % 2=0
  ·rw[show qs D.r2=0 from zR (by rw[d];decide)];exact a6
  ·rw[show qs D.r1=0 from zR d,oo];exact a7
 have S:=ac4 m
 have U:=abP (T:=T) W (b++ic D.dy++c++D.E++dL k) (by rw[bH,bH,bH,bH,j];exact aL (fY (fY (fY (lF g 5) h) s) S) (by decide)) (Pu m L N R (wy D.dy).1 (zQ D.yr D.hh D.mi D.se (zP a.bz)).1).2
 clear R;have o:D.je[1]? =O (.lst (D.cs.map .int)):=rfl;have p:D.je[10]? =O (.str (mk D.line)):=rfl;have r:D.je.length=13:=rfl;generalize D.je=v at o p r;generalize kh (b++ic D.dy++c++D.E++dL k)=a8 at U ⊢;have X:(v++[PV.str (mk b)]).length=14:=by rw[bH,r];rfl
 have Y:(v++[PV.str (mk b)] ++[PV.int i]).length=15:=by rw[bH,X];rfl
 have G:(v++[PV.str (mk b)] ++[PV.int i] ++[PV.str (mk c)]).length=16:=by rw[bH,Y];rfl
 exact .cons _ (OS P (by decide) C (by decide)) (ac5 r o p F a2 OT (OU (by decide+kernel))) V (.cons _ (OS Q (by decide) n (by decide)) (ac6 X (more (more o)) (more (more p)) F a3 OT (OU (by decide+kernel))) V
  (.cons bJ mC (ac7 G (more (more (more o))) B m) V (.cons _ (lr U (by decide)) (ac8 (by rw[bH,G];rfl) (more (more (more (more p)))) (more (more (more (zT r)))) (more (zT Y)) (zT G) F a4 a5 (aL g (by decide)) (aL h (by decide)) (aL S (by decide)) (by rw[j];decide) (aL s (by decide)) rP V) V .nil)))
end
end
section
open Classical
theorem zV{a:Expr}(h:bC c d e a=aF)(b:gI):∀x,HB a b x=pure x:=by
 have h:=qe h;intro x;cases a with
 |Set=>exact absurd h cL| _=>rfl
theorem Px(ad:Str→aW)(h:∀n∈((scope.names.map (fun y=>(y.1,y.2== .free)) |>.filter (·.2) |>.map (·.1)):aD Str),env.cells.lookup n=O (ad n)):
  oA scope env=pure ((scope.names.map (fun y=>(y.1,y.2== .free)) |>.filter (·.2) |>.map (·.1)).foldl (fun r n=>(n,ad n)::r) []):=by
 unfold oA;generalize scope.names=ns at h
 have:∀(l:aD (Str×SG)) (acc:aD (Str×aW)),(∀n∈((l.map (fun y=>(y.1,y.2== .free)) |>.filter (·.2) |>.map (·.1)):aD Str),env.cells.lookup n=O (ad n))→(forIn l acc fun(x:Str×SG) r=>do
   if(x.2== .free)=aF then do let a ←cellOf env x.1;pure (Ax ((x.1,a)::r))
   else pure (Ax r))=(pure ((l.map (fun y=>(y.1,y.2== .free)) |>.filter (·.2) |>.map (·.1)).foldl (fun r n=>(n,ad n)::r) acc):cR _):=by
  intro l
  induction l with
  |nil=>intro acc _;rfl
  |cons y l ih=>
   intro acc h;refine M (wW ..) ?_;cases hy:y.2==agZ with
   |false=>
    rw[gH,SH (by simp[hy])] at h ⊢;exact ih acc h
   |true=>
    rw[gH,Bp (by assumption),gH] at h ⊢;rw[aR V,cellOf,h _ (iK ..),pure_bind,pure_bind];exact ih _ fun n hn=>h n (hU _ hn)
 have:=this ns [] h;simp only[bind_pure_comp] at this ⊢;refine M this ?_;rfl
theorem Py(h:a.names.all (fun y=>y.2 != .free)=aF):oA a b=pure [] :=by
 have e:(a.names.map (fun y=>(y.1,y.2== .free)) |>.filter (·.2) |>.map (·.1))=([] :aD Str):=by
  rw[List.filter_eq_nil_iff.mpr];rfl;intro y c;(refine aQ (iW.mp c) ?_;rintro z d rfl);have:=j1.mp h z d;unfold bne at this;cases q:z.2==agZ with
  |false=>exact cL|true=>replace this:=q▸this;cases this
 have:=Px (scope:=a) (env:=b) (fun J=>0) (by refine M e ?_;intro n f;cases f);replace this:=e▸this;exact this
theorem Pz(h:EO a=aF)(d:b.cells.lookup ("words":Str)=O c):oA a b=pure [(("words":Str),c)] :=by have e:=beq_iff_eq.mp (h:(_==_)=aF);have:=Px (scope:=a) (env:=b) (fun J=>c) (by refine M e ?_;intro n f;refine M (fK.mp f) ?_;exact d);rw[e] at this;exact this
theorem Fe(h:a.scope=(aK 35).scope):uM scope a=nZ scope:=by unfold uM nZ GD;exact M h V
theorem wz(h:rO i x d=aF):d.kind= .function∧(∀y∈d.names,y.2≠ .cell)∧d.names.lookup x=O .local∧(∀y∈d.names,y.2= .local→d.names.lookup y.1=O .local)∧jc (nZ d) i=true:=by
 unfold rO at h;rw[gZ,gZ,gZ,gZ] at h;(refine xa h ?_;clear h;rintro⟨⟨⟨g,j⟩,c⟩,l⟩ m);have n:∀{a b:SG},(a !=b)=aF→a≠b:=fun{a b} h e=>by subst e;cases a<;>exact absurd h (by decide)
 refine⟨?_,fun y f=>n (j1.mp j y f),?_,fun y f o=> ?_,m⟩
 ·generalize d.kind=k at g;cases k<;>first |rfl |exact absurd g (by decide)
 ·generalize d.names.lookup x=k at c
  match k,c with
  |some k,c=>cases k<;>first |rfl |exact absurd c (by decide)
  |none,c=>exact absurd c (by decide)
 ·have:=j1.mp l y f;rw[o] at this;generalize d.names.lookup y.1=k at this
  match k,this with
  |some k,c=>cases k<;>first |rfl |exact absurd c (by decide)
  |none,c=>exact absurd c (by decide)
noncomputable def wA(z:Str):Nat:=z.cps.toList.headD 0
open Classical in
noncomputable def wB:bT:={gk:=hX,call:=fun f a=>if h:∃q,a=[.str (one q)] then(if f=aH "in_table_b1" then O (.bool (hJ.any (· ==(h.choose:Z)))) else if f=aH "map_table_b3" then O (.str (lj h.choose)) else aB) else aB}
set_option tactic.hygienic true in
theorem szB(W:Wd w b mb h₀):n0 w b mb h₀ T wB:=by
 refine⟨rfl,fun f d y h=> ?_⟩;unfold wB at h;dsimp only at h
 split at h
 ·rename_i c
  refine M c.choose_spec ?_
  split at h
  ·rename_i a
   subst a;cases h;exact(ZC W _).up (by decide)
  ·split at h
   ·rename_i a
    subst a;cases h;exact(ZF W _).up (by decide)
   ·cases h
 ·cases h
theorem PA(h:∃p,[PV.str (one q)] =[PV.str (one p)]):h.choose=q:=(aT wA (PV.str.inj (xj h.choose_spec).1)).symm
theorem ac'(q:aA):wA (one q)=q:=rfl
theorem ada(q:aA):wB.call (aH "in_table_b1") [.str (one q)] =O (.bool (hJ.any (· ==(q:Z)))):=(AJ ⟨q,rfl⟩).trans ((aR V).trans (by refine M (PA _) ?_;rfl))
theorem adb(q:aA):wB.call (aH "map_table_b3") [.str (one q)] =O (.str (lj q)):=(AJ ⟨q,rfl⟩).trans ((aP (by decide+kernel)).trans ((aR V).trans (by refine M (PA _) ?_;rfl)))
noncomputable def Ff:PV→aU
 | .str z=>hJ.any (· ==(wA z:Z)) !=aF| _=>aI
noncomputable def PC:PV→PV
 | .str z=> .str (lj (wA z))|p=>p
theorem adc(x:aD aA):((x.map fun q=>PV.str (one q)).filter Ff).map PC=((x.filter fun(c:aA)=> !hJ.any fun y=>y==(c:Z)).map lj).map .str:=by
 induction x with
 |nil=>rfl
 |cons q x ih=>
  refine M gH ?_
  have e:Ff (.str (one q))= !hJ.any fun y=>y==(q:Z):=by show(_ !=aF)=_;refine M (ac' ..) ?_;cases hJ.any fun y=>y==(q:Z) <;>rfl
  cases hq:hJ.any fun y=>y==(q:Z) with
  |true=>exact M (SH (by refine M e (M hq ?_);decide)) (M (SH (by refine M hq ?_;decide)) (M ih rfl))
  |false=>
   rw[Bp (by rw[e,hq];rfl),Bp (by rw[hq];rfl),gH,gH,gH,ih];rfl
theorem PD(x:aD aA):l9 ⟨#[]⟩ ((x.filter fun(c:aA)=> !hJ.any fun y=>y==(c:Z)).map lj)=mk (dK x):=by
 refine fT <|M (vX ..) ?_
 unfold dK;refine M j6 (M List.flatMap_def ?_);rfl
theorem PF(a:aG (aD PV))(l:aD Str)(h:(l9 ⟨#[]⟩ l).length≤16777216):nG a "join" (.str (aH "")) [.lst (l.map .str)] =O (.str (l9 ⟨#[]⟩ l)):=by
 have b:aH ""=(⟨#[]⟩:Str):=by decide+kernel
 refine(M (strs_map ..) (M (xG ..) ?_):(strs? _).bind _=_);rw[DG] at h;exact bB (by show _+_*0≤_;omega)
section
theorem kl.here(Y:kl w A c)(K:PK)(h:bF):kl w A (c.here K aB h):=⟨Y.W,Y.hh,Y.hd,Y.hu,⟨Y.H.scope,Y.H.sR,Y.H.globals,Y.H.builtins⟩⟩
theorem wC{K:PK}(Y:kl w A c)(G:Gd w c dA K m aB s n)(r:g.mu=aB)
  (h:∀a:Cx,a.env=c.env→a.T=c.T→kl w A a→Gd w a dA K m aB s n→aN (aO pg w) A (ji t a.env) (fun i e=>Out w a dA K aB s.heap i e .next g) (fun J J=>bO) s)
  (k:∀f u e,PK.le K f→Gd w c dA f u aB e g→KB c aB s.heap e.heap→(∀b,s.heap.get? b≠aB→b≠c.env.locals→K b=aB→f b=aB)→aN (aO pg w) A (eH v c.env) Q (fun J J=>bO) e):
  aN (aO pg w) A (eH (t::v) c.env) Q (fun J J=>bO) s:=by
 refine wpAny_execs_cons (wpAny_mono (h (c.here K aB s.heap) V rfl (Y.here K s.heap) G.here) (fun i x o=> ?_) fun J J q=>q.elim);obtain⟨y,B,j,C,l,I,rfl,d⟩:=o
 have D:j=none:=by
  cases j with
  |none=>rfl|some p=>exact absurd d.Mi (by refine M r ?_;intro z;cases z)
 subst D;exact k y B x C ⟨G.F.back d.F l,d.L,d.Mi,d.fl⟩ l fun J E F H=>tD d.F E F H
theorem ade(Y:kl w A c){K:PK}{st:bR}(sh:EM st)(hl:l.length=18)(wD:l[17]? =O (.str (mk x)))(hx:x.length≤1000000)(hf:(dK x).length≤1000000)(G:Gd w c dA K m aB s (aX l)):
  aN (aO pg w) A (ji st c.env) (fun fl s'=>Out w c dA K aB s.heap fl s' .next (aX (l++[.str (mk (dK x))]))) (fun J J=>bO) s:=by
 obtain⟨q1,k,q2,apos,elt,px,it,iy,sc,pos,tX,p,rfl,h1,h2,h3,h4,h5,h6⟩:=sh;refine jl (wz h1) fun g1 g2 g3 g4 g5=> ?_;have YB:=Y.y (szB (T:=c.T) Y.W);have ui:=Fe (scope:=sc) Y.H.scope;have G1:Gd w c dA K m aB {s with toks:=s.toks+1} (aX l):=⟨G.F.tok,G.L,G.Mi,G.fl⟩
 have X:pk w c K wB sc [] "sign" elt [iy] zA [] (x.map fun q=> .str (one q)) Ff PC (.call (aH "map_table_b3") (.cons (.nm 0) .nil)):=by
  refine⟨by refine M ui ?_;exact g5,rfl,fun i y k p J e2=>by simp at e2,fun p hp=> .inr ⟨iy,_,rfl,by refine M ui ?_;exact h5,?_⟩,by refine M ui ?_;exact h4,fun p hp J=> ?_⟩
  ·(refine aQ (iW.mp hp) ?_;rintro q _ rfl);refine M (cI (fO (bW (x:= .str (one q)) V ir) V (ada q)) (y:= .bool aF) V (z:= .bool (hJ.any (· ==(q:Z)) !=aF)) V) ?_;rfl
  ·(refine aQ (iW.mp hp) ?_;rintro q _ rfl);exact fO (bW (x:= .str (one q)) V ir) V (adb q)
 have adf:Src w A c K m aB {s with toks:=s.toks+1} it (x.map fun q=> .str (one q)):=ab8 YB h3 (x:=mk x) (dS wD) G1;have PG:=EB (pos:=pos) (px:=px) (x:="sign") YB (Py h2) g1 g2 g3 g4 (zV h3 c.env) (by refine M (bQ ..) ?_;exact hx) X adf;rw[adc] at PG;have rA:∀{o:Expr} {args:aD Expr} (line:aA) (t:aG Expr),ux (.Call o args [] tX) t line c.env=pure false:=fun J J=>rfl;have Cp:AO (.Constant (.str (aH "")) k q2) (aH "join") c.env (eval (.Constant (.str (aH "")) k q2) c.env)=eval (.Constant (.str (aH "")) k q2) c.env:=rfl;have Ex:∀{e:Expr} (he:dF [e] c.env=[(aI,eval e c.env)]),((jB tX (dF [e] c.env)).all (fun x=> !x.1) && (backToKw tX (keywordEach [] c.env)).all (fun x=>x.1.isSome) && decide ([e].length+([] :aD Gz).length+(if([] :aD Gz).isEmpty then 0 else 1) < 30))=true:=fun he=>by refine M he ?_;rfl
 with_reducible refine iX ?_ (rA _ _)
 with_reducible refine sn Cp (Ex (by with_unfolding_all rfl)) h6 ?_
 with_reducible refine sm ?_
 (refine iN (IG (w:=w) (A:=A) (c:=c) (m:=m) (mu:=aB) (PF aB ((x.filter fun(c:aA)=> !hJ.any fun y=>y==(c:Z)).map lj) (by refine M (PD ..) (M (cZ ..) ?_);exact aL hf (by decide)))) ?_;rintro T id m1 m2);(refine dW m1 ?_;clear m1;rintro e1 e2 e3 e45);refine xa (e45 {s with toks:=s.toks+1} (RV.str (w:=w) (K:=K) (ma:=aB) (t:=s.toks))) fun e4 e5=>⟨T,id,e1,e2,e3,e4,e5,nt V (iE (by intro e;cases e) V (iC (wpAny_mono PG (fun v s1 h1=> ?_) fun J J e=>e.elim) V))⟩;obtain⟨K1,k1,F1,b1,r1⟩:=h1;refine jC (wpAny_mono (m2 F1 (.str) (.cons r1 .nil)) (fun v2 s2 h2=> ?_) fun J J e=>e.elim);obtain⟨K2,k2,F2,b2,r2⟩:=h2;rw[PD] at r2;refine kB (i:=18) (p:= .str (mk (dK x))) (G.of (k1.trans k2) F2) Y.H (by decide+kernel) r2 fun s3 G3 td=> ?_;rw[rR hl (by decide)] at G3;exact jt (k1.trans k2) ((b1.trans b2).trans td) .refl G3
end
end
section
section
structure Slots(D:bU)(l:aD PV):Prop where
 cs:l[1]? =O (.lst (D.cs.map .int))
 ds:l[2]? =O (.lst (cF.map .str))
 ms:l[3]? =O (.lst (cH.map .str))
 wd:l[4]? =O (.int D.wd)
 yr:l[5]? =O (.int D.yr)
 mo:l[6]? =O (.int D.mo)
 dy:l[7]? =O (.int D.dy)
theorem Slots.more(h:Slots D l):Slots D (l++[x]):=⟨gK.more h.cs,gK.more h.ds,gK.more h.ms,gK.more h.wd,gK.more h.yr,gK.more h.mo,gK.more h.dy⟩
theorem adg(D:bU):Slots D D.je:=⟨rfl,rfl,rfl,rfl,rfl,rfl,rfl⟩
theorem Slots.day(h:Slots D l)(O0:D.Ok)(P:bT):ev P (aX l) (.sub (.nm 2) (.nm 4))=O (.str (gK.mk (jM D.wd))):=hV (dS h.ds) (dS h.wd) (by exact aS (uc _ _:cF.getD D.wd ⟨#[]⟩=gK.mk (jM D.wd)) <|nY (by decide) (by refine M ik (M (fC (O0.bw:D.wd < cF.length)) ?_);rfl))
theorem Slots.mon(h:Slots D l)(O0:D.Ok)(P:bT):ev P (aX l) (.sub (.nm 3) (.nm 6))=O (.str (gK.mk (jN D.mo))):=hV (dS h.ms) (dS h.mo) (by exact aS (uc _ _:cH.getD D.mo ⟨#[]⟩=gK.mk (jN D.mo)) <|nY (by decide) (by refine M ik (M (fC (O0.bm:D.mo < cH.length)) ?_);rfl))
theorem Slots.cell(h:Slots D l)(P:bT)(k:aA)(x:Z)(a:D.cs[k]? =O x):ev P (aX l) (.sub (.nm 1) (.int (k:Z)))=O (.int x):=rS D (dS h.cs) k x a
theorem wE(r:Row):(lcs r).length≤r.length:=by unfold lcs;exact M (bQ ..) <|agL ..
theorem PH(a:k < 5):(iH k).length≤3:=(Ps a).2
theorem Fg(e:∀c∈a,Let c)(f:a.length=3)(b d:Z):(lcs (jQ a b d)).length≤4:=aL (wE _) (pu e f b d).2.2
theorem PI{d g:E}(h:∀c∈a,Let c)(e:a.length=3)(j:ev P (aX l) d=O (.str (mk a)))(k:ev P (aX l) g=O (.int b))
  (f:P.call (aH "_law_harmed") [.str (mk (a.map bA)),.int b,.int which,.bool aI] =O (.lst ((nT (rowOf (mk (a.map bA))) b which aI).map .str))):
  ev P (aX l) (.dG "join" (.str (aH "")) (.cons (.call (aH "_law_harmed") (.cons (.dG "lower" d .nil) (.cons g (.cons (.int which) (.cons (.bool aI) .nil))))) .nil))=O (.str (mk (lcs (jQ a b which)))):=by
 refine xa (acX e b which) fun m q=> ?_
 have n:cD (mk a)=mk (a.map bA):=E4 fun c f=>by have:=h c f;unfold Let at this;exact S4 this
 have o:ev P (aX l) (.dG "lower" d .nil)=O (.str (mk (a.map bA))):=kZ j ir (by exact aS n <|bB (by refine M (cZ ..) ?_;exact aL (cM e) (by decide)))
 have p:=fO (bW o (bW k (bW (a:= .int which) (x:= .int which) (by rfl) (bW (a:= .bool aI) (x:= .bool aI) (by rfl) ir)))) (by rfl) f;have i:l9 ⟨#[]⟩ (nT (rowOf (mk (a.map bA))) b which aI)=mk (lcs (jQ a b which)):=fT (M (vX ..) (M m V));refine kZ (x:= .str (aH "")) (by rfl) (bW p ir) <|aS i ?_
 refine PF _ _ <|M i (M (cZ ..) ?_)
 have:=Fg h e b which;exact aL this (by decide)
theorem adh(W:Wd w g mb h₀)(D:bU)(a:D.Ok){k:aA}(h:k < 5)(s:D.c5 % 5=((k:aA):Z))(d:l.length=19)(b:Slots D l)(t:l[11]? =O (.str (mk (ic D.dy))))(v:l[12]? =O (.str (mk D.E)))
  (y:l[18]? =O (.str (mk (lcs D.r1++(ic D.dy).map bA++lcs D.r2++D.E.map bA++iH k)))):
  lx w g mb h₀ T [OK,OL,zy] (aX l) (aX (l++[.str (mk (lcs D.r1))] ++[.str (mk (lcs D.r2))])):=by
 have e:=t9 a.bw;have f:=ua a.bm;have z:=y6 (T:=T) W (mk ((jM D.wd).map bA)) (M (cZ ..) (M (bQ ..) (M e V))) D.c2 0 aI;have A:=y6 (T:=T) W (mk ((jN D.mo).map bA)) (M (cZ ..) (M (bQ ..) (M f V))) D.c2 1 aI;refine .cons _ (lr z (by decide)) (ub (i:=19) d (by decide) (PI (which:=0) (ug a.bw) e (b.day a _) (b.cell _ 2 D.c2 V) rP) V) V <| .cons _ (lr A (by decide)) (ub (i:=20) (by refine M bH (M d ?_);rfl) (by decide) (PI (which:=1) (uh a.bm) f (b.more.mon a _) (b.more.cell _ 2 D.c2 V) rP) V) V ?_
 have B:D.E.length≤40:=by have:=Fd (y:=D.yr) (h:=D.hh) (m:=D.mi) (s:=D.se) (z:=gU D.zi) a.lz (by have:=a.bh;exact bL this (by decide)) (by have:=a.bi;exact bL this (by decide)) (by have:=a.bs;exact bL this (by decide)) (rQ a.bz);exact this
 have C:=zQ D.yr D.hh D.mi D.se (zP a.bz);have E:=wy D.dy;have F:=Fb (d:=D.dy) (by have:=a.bd;exact cC this.2 (by decide));have G:(l++[PV.str (mk (lcs D.r1))]).length=20:=by refine M bH (M d ?_);rfl
 have i:(l++[PV.str (mk (lcs D.r1))] ++[PV.str (mk (lcs D.r2))])[19]? =O (.str (mk (lcs D.r1))):=more (by refine aS d ?_;simp);have j:(l++[PV.str (mk (lcs D.r1))] ++[PV.str (mk (lcs D.r2))])[20]? =O (.str (mk (lcs D.r2))):=by refine aS G ?_;simp
 have m:=more (y:= .str (mk (lcs D.r2))) (more (y:= .str (mk (lcs D.r1))) t);have n:=more (y:= .str (mk (lcs D.r2))) (more (y:= .str (mk (lcs D.r1))) v);have o:=more (y:= .str (mk (lcs D.r2))) (more (y:= .str (mk (lcs D.r1))) y);have p:=(b.more (x:= .str (mk (lcs D.r1)))).more (x:= .str (mk (lcs D.r2)));show lx w g mb h₀ T [zy] (aX (l++[PV.str (mk (lcs D.r1))] ++[PV.str (mk (lcs D.r2))])) _;generalize l++[PV.str (mk (lcs D.r1))] ++[PV.str (mk (lcs D.r2))] =u at m n o i j p ⊢;refine .cons bJ mC (eJ:=aX u) ?_ V .nil
 have H:ev bJ (aX u) (.dG "lower" (.nm 12) .nil)=O (.str (mk (D.E.map bA))):=kZ (dS n) ir (by exact aS (E4 (l:=D.E) (fun c I=>(C.1 c I).1)) <|bB (by refine M (cZ ..) ?_;exact aL B (by decide)))
 have q:=lQ (b:=5) (p.cell bJ 5 D.c5 V) (by decide) (by decide);rw[s] at q;have r:=E2 (l:=zx) q (by decide) h;rw[uc,show(zx.getD k ⟨#[]⟩).cps.toList=iH k from rfl] at r;have K:(lcs D.r1).length≤4:=Fg (ug a.bw) e _ _;have N:(lcs D.r2).length≤4:=Fg (uh a.bm) f _ _
 have L:=n' (n' (n' (n' (dS i) (dS m) (Bx K (cM F) (by decide))) (dS j) (by simp only[bH];lia)) H (by simp only[bH,bQ];lia)) r (by
  have:=PH h;simp only[bH,bQ]
  lia)
 refine(show ex bJ zy (aX u)=bE bJ .nil (aX u) from nN (x:= .bool aI) (cI (dS o) L (OX ?_)) V).trans rfl;exact M E.2 V
end
end
section
open Builtin Builtin.Str
noncomputable def occs:aD aA→aA→aD aA
 |[],_=>[]|c::r,i=>if c=32 then i::occs r (i+1) else occs r (i+1)
noncomputable def ig:aD aA→aD aA→aD (aD aA)
 |acc,[] =>[acc]|acc,c::r=>if c=32 then acc::ig [] r else ig (acc++[c]) r
theorem zW:occs (c::r) i=if c=32 then i::occs r (i+1) else occs r (i+1):=rfl
theorem zX:ig a (c::r)=if c=32 then a::ig [] r else ig (a++[c]) r:=rfl
theorem adi(p q:aD aA)(c:aA):subAt (mk (p++c::q)) (mk [32]) p.length=decide (c=32):=by
 refine M (StrLaws.subAt_eq ..) ?_;show(((p++c::q).drop p.length).take 1==[32])=_
 by_cases h:c=32<;>simp[h]
theorem PJ:∀(q p:aD aA) (l:aD aA) (found:eW aA) (free:aA),l=p++q→free≤p.length→found.size≤p.length→
  (forIn (qJ p.length (q.length+1)) (found,free) (Br (mk l) (mk [32]) l.length (l.length+1))).run.fst.toList=found.toList++occs q p.length
 |[],p,l,found,free,hl,_,_=>by subst hl;refine M xb (M ag0 (M (wW ..) ?_));unfold Br;exact M (aP (by intro h;have:=h.1.2;simp at this;have e:(mk [32]).length=1:=rfl;lia)) <|(jS _).symm
 |c::r,p,l,found,free,hl,h1,h2=>by
  have hlen:l.length=p.length+(r.length+1):=by refine M hl ?_;exact bH
  have ih:=fun fo fr hf hs=>PJ r (p++[c]) l fo fr (by refine M hl ?_;simp) hf hs;(replace ih:=bH▸ih;replace ih:=HE▸ih);(refine M j2 (M ag0 (M (wW ..) ?_));rewrite[zW]);unfold Br;have e:(mk [32]).length=1:=rfl;have yq:subAt (mk l) (mk [32]) p.length=decide (c=32):=by refine M hl ?_;exact adi p r c
  by_cases hc:c=32
  ·refine M (aR ⟨⟨⟨by show found.size < _;lia,h1⟩,by lia⟩,by refine M yq (M hc ?_);rfl⟩) (M (aR hc) ?_);have:=ih (found.push p.length) (p.length+1) (bZ _) (by refine M (Array.size_push ..) ?_;exact sD h2);unfold Br at this;refine this.trans <|M RA (M (eZ ..) ?_)
   rfl
  ·refine M (aP (by intro h;have:=h.2;replace this:=yq▸this;exact hc (kP this))) (M (aP hc) ?_);have:=ih found free (nw h1) (nw h2);unfold Br at this;exact this
theorem PL(l:aD aA):occurrences (mk l) (mk [32]) 0 (mk l).length ((mk l).length+1)=occs l 0:=by refine M (StrLaws.occ_eq ..) (M (cZ ..) ?_);have:=PJ l [] l #[] 0 rfl (bZ _) (bZ _);simpa using this
theorem strSub_mk(p a q:aD aA):strSub (mk (p++a++q)) p.length (p.length+a.length)=mk a:=by
 refine fT <|M (aga ..) ?_
 exact(M (eZ ..) (M List.drop_left (M (qy ..) (M List.take_left V))):((p++a++q).drop p.length).take (p.length+a.length - p.length)=a)
theorem Fh:∀(q p a:aD aA) (l:aD aA),l=p++a++q→ag1 (mk l) 1 p.length (occs q (p.length+a.length))=(ig a q).map mk
 |[],p,a,l,b=>by
  (refine(?_:[strSub (mk l) p.length (mk l).length] =[mk a]);refine M (cZ ..) ?_)
  have:=strSub_mk p a [];rw[jS] at this;exact M b (M (jS ..) (M (bH:(p++a).length=p.length+a.length) (M this rfl)))
 |c::r,p,a,l,b=>by
  rw[zW,zX]
  by_cases d:c=32
  ·(refine M (aR d) (M (aR d) ?_);refine(?_:strSub (mk l) p.length (p.length+a.length)::ag1 (mk l) 1 (p.length+a.length+1) (occs r (p.length+a.length+1))=mk a::(ig [] r).map mk));have:=strSub_mk p a (c::r);rw[←b] at this;refine M this ?_;have ih:=Fh r (p++a++[c]) [] l (by refine M b ?_;simp);have e:(p++a++[c]).length=p.length+a.length+1:=by simp;exact rfl
   rw[e,xb,sb] at ih;exact M ih rfl
  ·refine M (aP d) (M (aP d) ?_);have ih:=Fh r p (a++[c]) l (by refine M b ?_;simp);rw[bH,HE,←iI] at ih;exact ih
theorem wF:∀(a b r:aD aA),(∀c∈a,c≠32)→ig b (a++32::r)=(b++a)::ig [] r
 |[],b,r,_=>by(refine M (qO ..) ?_;rewrite[zX];exact M (aR V) (M (jS ..) V))
 |c::a,b,r,h=>by(refine M qP ?_;rewrite[zX];refine M (aP (h c (iK ..))) (M (wF a _ r fun x d=>h x (hU _ d)) (M (eZ ..) ?_)));rfl
theorem zY:∀(q a:aD aA),(ig a q).length≤q.length+1
 |[],a=>bZ _
 |c::r,a=>by
  rw[zX]
  split
  ·have:=zY r [];refine M j2 (M j2 ?_);exact sD this
  ·have:=zY r (a++[c]);refine M j2 ?_;exact nw this
theorem PM:∀(a r:aD aA) (i:aA),(occs (a++32::r) i).isEmpty=aI
 |[],r,i=>by(refine M (qO ..) ?_;rewrite[zW];refine M (aR V) ?_);rfl
 |c::a,r,i=>by
  (refine M qP ?_;rewrite[zW])
  split
  ·rfl
  ·exact PM a r (i+1)
theorem adj(h:(a++32::r).length≤900)(g:aG (aD PV)):nG g "split" (.str (mk (a++32::r))) [.str (aH " ")] =O (.lst (((ig [] (a++32::r)).map mk).map .str)):=by
 have i:aH " "=mk [32] :=by decide+kernel
 refine M i ?_;generalize b:a++32::r=x at h ⊢;have j:∀y,1≤Str.strKind y:=fun y=>by unfold Str.strKind;split<;>(try split) <;>decide
 have c:(decide ((mk x).length < (mk [32]).length) ||decide (Str.strKind (mk x) < Str.strKind (mk [32])))=false:=by
  have e:(mk [32]).length=1:=rfl;have k:Str.strKind (mk [32])=1:=by decide+kernel
  have:=j (mk x);have l:1≤(mk x).length:=by refine M (cZ ..) (aS b ?_);simp;exact ov _ _
  exact iO xh <|⟨eO (Aq (aL (by decide) l)),eO (Aq (aL (cM k) this))⟩
 have d:(occurrences (mk x) (mk [32]) 0 (mk x).length ((mk x).length+1)).isEmpty=false:=by refine M (PL ..) (aS b ?_);exact PM a r 0
 have f:partsBetween (mk x) (occurrences (mk x) (mk [32]) 0 (mk x).length ((mk x).length+1)) (mk [32]).length=(ig [] x).map mk:=by refine M (StrLaws.partsBetween_eq ..) (M (PL ..) ?_);exact Fh x [] [] x V
 have m:Txt.split (mk x) (mk [32])=(ig [] x).map mk:=by unfold Txt.split;exact M (aP (by refine M c ?_;decide)) (M (aP (by refine M d ?_;decide)) (M f V))
 refine aS m <|bB ⟨by rfl,c,d,by refine M (cZ ..) ?_;exact aL h (by decide),?_⟩
 refine M f (M (bQ ..) ?_);have:=zY x [];exact aL this (nz (cC h (by decide)))
end
section
open Classical
section
theorem adk(Y:kl w A c){K:PK}{st:bR}(y:EN st)(B:l.length=21)(C:l[18]? =O (.str (mk (a++32::r))))(D:(a++32::r).length≤900)
  (h:c.env.cells.lookup ("words":Str)=O d) (E:c.env.kindOf ("words":Str)=O .cell) (F:K d=aB) (f:d≠c.env.locals) (j:c.hE.get? d=aB) (k:s.heap.get? d=O o) (H:o.data= .cell ab) (G:Gd w c dA K m aB s (aX l)):
  aN (aO pg w) A (ji st c.env) (fun I L=>I= .next∧∃n,PK.le K n∧Gd w c dA n m aB L (aX (l++[.lst (((ig [] (a++32::r)).map mk).map .str)]))) (fun J J=>bO) s:=by
 obtain⟨q,ae,p,rfl,t⟩:=y;have N:=Y.y (mC (T:=c.T));have P:=qg t (O (.Name ("words":Str) q)) p.line c.env;have Q:ev bJ (aX l) (.dG "split" (.nm 18) (.cons (.str (aH " ")) .nil))=O (.lst (((ig [] (a++32::r)).map mk).map .str)):=kZ (dS C) (bW (x:= .str (aH " ")) V ir) (adj D _);have R:=G.F.off j
 with_reducible refine iX ?_ P
 refine nQ N t Q G fun S T u v U W X a0=> ?_;have a1:S d=none:=a0 d (by refine M k ?_;intro z;cases z) f F;have a2:u.heap.get? d=O o:=W d o k f (by intro z;cases z) R;refine A2 Y.H.kind E h ⟨o,a2,H⟩ fun af x a3=>⟨rfl,?_⟩;(refine aQ x ?_;clear x;rintro a4 a5 a6);obtain⟨g,a7⟩:=U.cell (tk:=u.toks) a1 f (by intro z;cases z) j a3 a5;refine⟨_,v.trans g,a7,?_,.none,G.fl⟩;intro i a8 a9 p e b;have a':(aX l).put 21 (.lst (((ig [] (a++32::r)).map mk).map .str))=aX (l++[.lst (((ig [] (a++32::r)).map mk).map .str)]):=rR B (by decide);replace b:=Eq.symm a'▸b;replace b:((aX l).loc.set 21 (O (.lst (((ig [] (a++32::r)).map mk).map .str))))[i]? =O (O p):=b;replace b:=List.getElem?_set▸b
 split at b
 ·rename_i aa
  subst aa;have:dA[21]? =O (aH "words",aI):=rfl;replace e:=this▸e;cases e
  split at b
  ·cases b;exact⟨d,a4,T,h,PK.jo,a6,X.mono g⟩
  ·cases b
 ·exact(G.L.mono (v.trans g)) i a8 a9 p e b
theorem adl{K:PK}(a:l[21]? =O (.lst b))(G:Gd w c dA K m aB s (aX l)):∃d o v,c.env.cells.lookup ("words":Str)=O d∧K d=O o∧o.data= .cell (O v)∧RV w K aB v (.lst b):=by refine G.L 21 (aH "words") aI (.lst b) V ?_;have e:21 < l.length:=(l6.mp a).1;refine(M (su (by simpa using e)) (M ij (M a ?_)):(l.map O++dT (27 - l.length) aB)[21]? =_);rfl
noncomputable def Fi:PV→Str
 | .str z=>z| _=>⟨#[]⟩
theorem adm(l:aD Str):∀p∈l.map PV.str,∃z∈l,p= .str z∧Fi p=z:=fun p a=>aQ (iW.mp a) fun z b e=>⟨z,b,e.symm,by refine aS e ?_;rfl⟩
theorem PN{w:aV}{A:bX}{c:Cx}{P:bT}(Y:kl w A c)(Q:n0 w c.mg c.mb c.h₀ c.T P){K:PK}{m:Str→aG aJ}{s:aM}{l:aD PV}{d:aD PV}{g:aD Str}{e:E}{j:Expr}{b:dN}{f:Str→PV}(t:l[21]? =O (.lst d))(G:Gd w c dA K m aB s (aX l))(u:rO rN "name" b=aF)(x:bC (nZ b) rN e j=aF)
  (B:∀z∈g,ev P {loc:=[O (.str z),O (.lst d)]} e=O (f z)):∃n,c.env.cells.lookup ("words":Str)=O n∧pk w c K P b [(("words":Str),n)] "name" j [] rN [O (.lst d)] (g.map .str) (fun J=>aF) (fun p=>f (Fi p)) e:=by
 refine nF (adl t G) fun q o v C D F H=> ?_;have r:=Fe (scope:=b) Y.H.scope;refine jl (wz u) fun J J J J I=>⟨q,C,by refine M r ?_;exact I,rfl,fun i y k p h a=> ?_,fun p J=> .inl ⟨rfl,rfl⟩,by refine M r ?_;exact x,fun p L J=> ?_⟩
 ·match i,h,a with
  |0,h,a=>
   cases h;cases a;exact⟨rfl,q,o,v,rfl,D,F,H⟩
  |i+1,_,a=>cases a
 ·(refine dB (adm g p L) ?_;rintro z N rfl R);exact B z N
theorem Fj(l:aD PV):l.filter (fun J=>aF)=l:=ag2.mpr fun J J=>rfl
theorem PO{w:aV}{A:bX}{c:Cx}{P:bT}(Y:kl w A c)(hP:n0 w c.mg c.mb c.h₀ c.T P){K:PK}{m:Str→aG aJ}{s:aM}{l:aD PV}{ws:aD PV}{ns:aD Str}{y:Str}{i j:aA}{e:E}{st:bR}{f:Str→PV}(sh:zD y i e st)(hl:l.length=j)(hj:j < 27)(hy:okN dA j y=aF)(hkl:c.env.kindOf y=O .local)(wG:l[21]? =O (.lst ws))(hi:l[i]? =O (.lst (ns.map .str)))(pj:ns.length≤100)(G:Gd w c dA K m aB s (aX l))
  (pe:∀z∈ns,ev P {loc:=[O (.str z),O (.lst ws)]} e=O (f z)):
  aN (aO pg w) A (ji st c.env) (fun fl s'=>Out w c dA K aB s.heap fl s' .next (aX (l++[.lst (ns.map f)]))) (fun J J=>bO) s:=by
 obtain⟨py,elt,px,it,sc,pos,p,rfl,h1,h2,h3,h4,h5,h6⟩:=sh;refine jl (wz h1) fun g1 g2 g3 g4 g5=> ?_;have YP:=Y.y hP;refine aQ (PN Y hP wG G h1 h4 pe) fun cw wH X=> ?_
 have hsw:ux (.ListComp elt [⟨.Name ("name":Str) px,it,[],0⟩] sc pos) (O (.Name y py)) p.line c.env=pure true:=by
  refine(M hkl (M h5 (M h6 ?_)):(pure (c.env.blockKind== .function && c.env.kindOf y==O .local && py.line==pos.line && !(sc.names.any fun(n,k)=>n==y && (k== .local ||k== .cell))):cR aU)=pure aF)
  have:c.env.blockKind= .function:=by unfold ae3;refine M Y.H.kind ?_;rfl
  refine M this ?_;rfl
 have:=ab9 (x:="name") (px:=px) (py:=py) (pos:=pos) (spos:=p) YP hy hsw (Pz h2 wH) g1 g2 g3 g4 (zV h3 c.env) (by refine M (bQ ..) ?_;exact aL pj (by decide)) X G (EC YP h3 (dS hi) G);rw[Fj,j6,rR hl hj] at this;exact this
end
end
section
open Classical
section
theorem ints_of{K:PK}:∀{c:aD aJ},bK w K c (d.map .int)→iY c d:=by
 induction d with
 |nil=>intro c h;refine M (bK.nil_inv h) ?_;exact .nil
 |cons x d ih=>
  intro c h;(refine cS (bK.ml h) ?_;rintro v e rfl a b);(refine xe a.int_inv ?_;rintro t rfl);exact .cons _ t (ih b)
noncomputable def jx(a:Z):Int:=if 4 < a then 4 else a
noncomputable def PP:PV→PV
 | .int a=> .int (jx a)|p=>p
theorem PQ{w:aV}{A:bX}{c:Cx}{P:bT}(Y:kl w A c)(hP:n0 w c.mg c.mb c.h₀ c.T P){K:PK}{m:Str→aG aJ}{s:aM}{l:aD PV}{ws:aD PV}{ns:aD Str}{ps:aD Z}{i j:aA}{e:E}{st:bR}{g:Str→Z}(sh:zE i j e st)(wG:l[21]? =O (.lst ws))(hi:l[i]? =O (.lst (ps.map .int)))(hj:l[j]? =O (.lst (ns.map .str)))
  (hps:ps.length≤100) (pj:ns.length≤100) (G:Gd w c dA K m aB s (aX l)) (pe:∀z∈ns,ev P {loc:=[O (.str z),O (.lst ws)]} e=O (.int (g z))) (heq:ps.map jx=ns.map g):
  aN (aO pg w) A (ji st c.env) (fun fl s'=>Out w c dA K aB s.heap fl s' .next (aX l)) (fun J J=>bO) s:=by
 obtain⟨elt,px,it,sc,pos,EP,EQ,ER,wn,ES,pc,b,p,rfl,h1,h2,h3,h4,k1,k2,k3,k4⟩:=sh;refine jl (wz h1) fun g1 g2 g3 g4 g5=>jl (wz k1) fun q1 q2 q3 q4 q5=> ?_;have Y0:=Y.y (mC (T:=c.T));have YP:=Y.y hP;have ui:=Fe (scope:=sc) Y.H.scope
 have X:pk w c K bJ sc [] "price" elt [] EL [] (ps.map .int) (fun J=>aF) PP OQ:=by refine⟨by refine M ui ?_;exact g5,rfl,fun i y k p J e2=>by simp at e2,fun p J=> .inl ⟨rfl,rfl⟩,by refine M ui ?_;exact h4,fun p hp J=> ?_⟩;(refine aQ (iW.mp hp) ?_;rintro a _ rfl);exact iR (bW (x:= .int a) V (bW (x:= .int 4) V ir)) V
 have c1:=EB (pos:=pos) (px:=px) (x:="price") Y0 (Py h2) g1 g2 g3 g4 (zV h3 c.env) (by refine M (bQ ..) ?_;exact aL hps (by decide)) X (EC Y0 h3 (dS hi) G);rw[Fj,j6,show(PP ∘ PV.int)=(PV.int ∘ jx) from rfl,←j6] at c1
 with_reducible refine mL ?_
 with_reducible refine GJ ?_ V
 refine wpAny_mono c1 (fun v s1 o1=> ?_) fun J J e=>e;obtain⟨K1,e1,F1,b1,r1⟩:=o1;have G1:Gd w c dA K1 m aB s1 (aX l):=G.of e1 F1;refine aQ (PN (f:=fun z=> .int (g z)) Y hP wG G1 k1 k4 pe) fun cw wH X2=> ?_;have c2:=EB (pos:=ES) (px:=EQ) (x:="name") YP (Pz k2 wH) q1 q2 q3 q4 (zV k3 c.env) (by refine M (bQ ..) ?_;exact aL pj (by decide)) X2 (EC YP k3 (dS hj) G1);refine wpAny_mono c2 (fun v2 s2 o2=> ?_) fun J J e=>e;obtain⟨K2,e2,F2,b2,r2⟩:=o2;rw[Fj,j6,show((fun p=>PV.int (g (Fi p))) ∘ PV.str)=(PV.int ∘ g) from rfl,←j6] at r2;(refine il ((r1.mono e2).lst_inv) ?_;rintro a1 o1 adn n1 rfl x1 x2 x3 x4);(refine il r2.lst_inv ?_;rintro a2 o2 ado n2 rfl y1 y2 y3 y4);have hu:=Y.hu;refine ke_ne_ints (xs:=adn.toList) (ys:=ado.toList) ⟨o1,F2.keep _ _ x1,x2,n1,by simpa using x3⟩ ⟨o2,F2.keep _ _ y1,y2,n2,by simpa using y3⟩ (ints_of x4) (ints_of y4) (cC (eU (by decide) _) (bL hu (by decide)):A.units+64 < 9900) <|M heq (M (fM V) ?_)
 exact qW (K:=K2) (mu:=aB) (x:= .bool aI) V .bool fun tk=>wpAny_execs_nil <|jt (e1.trans e2) (b1.trans b2) .refl (G.of (e1.trans e2) F2.tok)
end
end
section
theorem PR{a:aG (aD PV)}{l:aD Z}{k:aA}(b:l.length≤1000)(h:k < l.length):jn a (.lst (l.map .int)) (.int (k:Z))=O (.int (l.getD k 0)):=get_map .int 0 (cW _) (dZ.mpr h) b
noncomputable def eR(l:aD PV)(L:aD PV)(a b:aG PV):Sg:={loc:=l.map O++[O .bV,a,b],mu:=O L,pl:=aF}
noncomputable def Fk:B:= .cons (.ite (.bo .And (.cons (.cmp .LtE (.bin .Add (.sub (.nm 22) (.nm 25)) (.sub (.nm 23) (.nm 26))) (.int 4)) (.cons (.cmp .Eq (.call (aH "_law_weekday") (.cons (.nm 5) (.cons (.nm 26) (.cons (.nm 7) (.cons (.nm 1) .nil))))) (.nm 25)) .nil))) (.cons (.app 24 (.tup (.cons (.nm 25) (.cons (.nm 26) .nil)))) .nil) .nil) .nil
section
theorem wI(h:l[k]? =O x)(d:l.length=24):ev P (eR l L a b) (.nm k)=O x:=by
 have c:k < l.length:=(l6.mp h).1
 have:(eR l L a b).loc[k]? =O (O x):=by refine(M (su (by refine M (bQ ..) ?_;exact c)) (M ij (M h ?_)):(l.map O++[O .bV,a,b])[k]? =_);rfl
 exact aT i' this
theorem adp(a:l.length=24):ev P (eR l L (O x) b) (.nm 25)=O x:=by
 have:(eR l L (O x) b).loc[25]? =O (O x):=by refine(M (pL (by refine M (bQ ..) (M a ?_);decide)) (M (bQ ..) (M a ?_)):(l.map O++[O .bV,O x,b])[25]? =_);rfl
 exact aT i' this
theorem adq(a:l.length=24):ev P (eR l L b (O x)) (.nm 26)=O x:=by
 have:(eR l L b (O x)).loc[26]? =O (O x):=by refine(M (pL (by refine M (bQ ..) (M a ?_);decide)) (M (bQ ..) (M a ?_)):(l.map O++[O .bV,b,O x])[26]? =_);rfl
 exact aT i' this
theorem adr(a:l.length=24):(eR l L b c).put 26 x=eR l L b (O x):=by
 unfold eR Sg.put
 congr 1
 refine M (uK _ _ (by refine M (bQ ..) (M a ?_);decide)) (M (bQ ..) (M a ?_));rfl
theorem ads(a:l.length=24):(eR l L c b).put 25 x=eR l L (O x) b:=by
 unfold eR Sg.put
 congr 1
 refine M (uK _ _ (by refine M (bQ ..) (M a ?_);decide)) (M (bQ ..) (M a ?_));rfl
theorem adt(c:l.length=24)(h:ev P (eR l L a b) e=O x)(d:js x=O x)(f:L.length≤1000000):ex P (.app 24 e) (eR l L a b)=O (.next,eR l (L++[x]) a b):=by
 have g:jG (eR l L a b) 24=true:=by
  unfold jG
  have:(eR l L a b).loc[24]? =O (O .bV):=by refine(M (pL (by refine M (bQ ..) (M c ?_);decide)) (M (bQ ..) (M c ?_)):(l.map O++[O .bV,a,b])[24]? =_);rfl
  exact M this rfl
 exact yx (xs:=L) (by refine M g ?_;rfl) h d V f
structure zZ(P:bT)(l:aD PV)(ps qs:aD Z)(cs:PV)(y d:Z)(wd:aA→Z)(w mo:aA):Prop where
 hl:l.length=24
 hp:ps.length=7
 hq:qs.length=12
 h1:l[1]? =O cs
 h5:l[5]? =O (.int y)
 h7:l[7]? =O (.int d)
 Fn:l[22]? =O (.lst (ps.map .int))
 Fo:l[23]? =O (.lst (qs.map .int))
 call:∀i j:aA,i < 7→j < 12→ps.getD i 0+qs.getD j 0≤4→P.call (aH "_law_weekday") [.int y,.int (j:Z),.int d,cs] =O (.int (wd j))
 ncs:∃xs,cs= .lst xs
 one:∀i j:aA,i < 7→j < 12→(ps.getD i 0+qs.getD j 0≤4∧wd j=(i:Z)↔i=w∧j=mo)
variable{ps qs:aD Z}
noncomputable def gG(w a:aA):PV:= .tup [.int (w:Z),.int (a:Z)]
theorem found_one(F:zZ P l ps qs s y d q w c){i j:aA}(k:i < 7)(m:j < 12)(r:L.length≤100):bE P Fk (eR l L (O (.int (i:Z))) (O (.int (j:Z))))=O (.next,eR l (L++if j=c then(if i=w then [gG w c] else []) else []) (O (.int (i:Z))) (O (.int (j:Z)))):=by
 have a:=F.hl;have n:ev P (eR l L (O (.int (i:Z))) (O (.int (j:Z)))) (.nm 25)=O (.int (i:Z)):=adp a;have o:ev P (eR l L (O (.int (i:Z))) (O (.int (j:Z)))) (.nm 26)=O (.int (j:Z)):=adq a;have one:=F.one i j k m
 have b:jb .LtE (.int (ps.getD i 0+qs.getD j 0)) (.int 4)=O (.bool (decide (ps.getD i 0+qs.getD j 0≤4)))→ev P (eR l L (O (.int (i:Z))) (O (.int (j:Z)))) (.cmp .LtE (.bin .Add (.sub (.nm 22) (.nm 25)) (.sub (.nm 23) (.nm 26))) (.int 4))=O (.bool (decide (ps.getD i 0+qs.getD j 0≤4))):=
  cI (bM (hV (wI F.Fn a) n (PR (by refine M F.hp ?_;decide) (by refine M F.hp ?_;exact k))) (hV (wI F.Fo a) o (PR (by refine M F.hq ?_;decide) (by refine M F.hq ?_;exact m))) iF) (y:= .int 4) V
 have b:=b V
 by_cases e:ps.getD i 0+qs.getD j 0≤4
 ·rw[fM e] at b
  have f:ev P (eR l L (O (.int (i:Z))) (O (.int (j:Z)))) (.cmp .Eq (.call (aH "_law_weekday") (.cons (.nm 5) (.cons (.nm 26) (.cons (.nm 7) (.cons (.nm 1) .nil))))) (.nm 25))=O (.bool (q j==(i:Z))):=by(refine xe F.ncs ?_;rintro t rfl);exact cI (fO (bW (wI F.h5 a) (bW o (jW (wI F.h7 a) (wI F.h1 a)))) V (F.call i j k m e)) n VE
  by_cases g:q j=(i:Z)
  ·(refine xa (one.mp ⟨e,g⟩) ?_;rintro rfl rfl);refine M (aR V) (M (aR V) ?_);rw[beq_iff_eq.mpr g] at f;exact nx (it (nP b f) (nx (adt a (tv n o V) V (aL r (by decide))) V)) V
  ·rw[beq_eq_false_iff_ne.mpr g] at f
   have p:(if j=c then(if i=w then [gG w c] else []) else [])=[] :=by
    split
    ·exact aP fun h=>g (one.mpr ⟨h,by assumption⟩).2
    ·rfl
   refine M p (M (jS ..) ?_);exact nx (eY (nP b f) V) V
 ·rw[eO e] at b
  have p:(if j=c then(if i=w then [gG w c] else []) else [])=[] :=by
   split
   ·exact aP fun h=>e (one.mpr ⟨h,by assumption⟩).1
   ·rfl
  refine M p (M (jS ..) ?_);exact nx (eY (vp b) V) V
theorem PT{α:Type}{B:aA}{st:aD PV→α→Sg}(g:c.length≤1)(i:∀a L o,a < N→L.length≤B→∃b,j ((st L o).put v (.int (a:aA)))=O (.next,st (L++if a=m then c else []) b))(k:aA):
  ∀(a:aA) (L:aD PV) (o:α),a+k=N→L.length+k≤B→∃b,gM j v ((qJ a k).map fun q=> .int (q:aA)) (st L o)=O (.next,st (L++if a≤m∧m < N then c else []) b):=by
 induction k with
 |zero=>intro a L o h _;exact⟨o,by refine M (aP (by lia)) (M (jS ..) ?_);rfl⟩
 |succ k ih=>
  intro a L o h l;refine xe (i a L o (bL (mh (hO _ _)) (cM h)) (aL (F7 l) (l7 _ _))) fun n p=> ?_
  (refine xe (ih (a+1) (L++if a=m then c else []) n (kN (on _ _ _) (kN V h)) (by
   have:(if a=m then c else []).length≤1:=by
    split
    ·exact g
    ·exact jR _
   refine M bH ?_;lia)) ?_;rintro r d)
  have e:(if a=m then c else [])++(if a+1≤m∧m < N then c else [])=if a≤m∧m < N then c else [] :=by
   by_cases f:a=m
   ·exact M (aR f) (M (aP (by lia)) (M (aR (by lia)) (M (jS ..) V)))
   ·refine M (aP f) (M (qO ..) ?_)
    by_cases q:a+1≤m∧m < N
    ·exact M (aR q) (M (aR ⟨qz q.1,q.2⟩) V)
    ·exact M (aP q) (M (aP (by lia)) V)
  rw[eZ,e] at d;exact⟨r,(rl p).trans d⟩
theorem adu(F:zZ P l ps qs m y d n w a)(f:a < 12)(o:aG PV×aG PV):∃e:aG PV×aG PV,gM (bE P (.cons (.forR 26 (.int 12) Fk) .nil)) 25 ((qJ 0 7).map fun q=> .int (q:aA)) (eR l [] o.1 o.2)=O (.next,eR l ([] ++if 0≤w∧w < 7 then [gG w a] else []) e.1 e.2):=
 PT (α:=aG PV×aG PV) (st:=fun L o=>eR l L o.1 o.2) (B:=30) (N:=7) (c:=[gG w a]) (m:=w) (bZ 1) (fun i L o g c=>by
  (refine xe (PT (c:=if i=w then [gG w a] else []) (m:=a) (N:=12) (B:=50) (st:=fun L b=>eR l L (O (.int (i:Z))) b) (by split<;>first |exact bZ 1 |exact jR _) (fun j L b k c=>⟨O (.int (j:Z)),by show bE P Fk _=_;refine M (adr F.hl) ?_;exact found_one F g k (aL c (by decide))⟩) 12 0 L o.2 V (lF (aL c (by decide)) _)) ?_;rintro b h)
  rw[aR ⟨jR _,f⟩,←uv] at h;refine⟨(O (.int (i:Z)),b),?_⟩;exact M (ads F.hl) <|nx ((tr (N:=12) V ⟨by decide,by decide⟩).trans h) V) 7 0 [] o V (by decide)
theorem adv(F:zZ P l ps qs r y d s w a)(j:w < 7)(k:a < 12)(i:∀p∈l,p≠ .bV):∃b c,bE P (.cons wl (.cons wm (.cons (.kS 24) .nil))) (aX l)=O (.next,{loc:=l.map O++[O (.lst [gG w a]),b,c]}):=by
 have f:=F.hl
 have m:(aX l).fresh 24 [] =eR l [] aB none:=by
  unfold Sg.fresh eR aX
  congr 1
  refine M iA (M List.map_replicate (M f ?_))
  have e:((l.map O).map sU)=l.map some:=by
   refine M j6 <|uL fun p h=> ?_
   have:=i p h;cases p<;>first |rfl |exact absurd rfl this
  refine M e (M (uK _ _ (by refine M (bQ ..) (M f ?_);decide)) (M (bQ ..) (M f ?_)));rfl
 have n:ex P wl (aX l)=O (.next,eR l [] aB aB):=by exact aS m <|tq V (nO V (by decide) V)
 (refine xe (adu F k (aB,aB)) ?_;rintro⟨b,c⟩ g);rw[←uv,aR ⟨jR _,j⟩] at g
 have g:ex P wm (eR l [] aB aB)=O (.next,eR l ([] ++[gG w a]) b c):=
  (tr (N:=7) V ⟨by decide,by decide⟩).trans g
 have o:ex P (.kS 24) (eR l [gG w a] b c)=O (.next,{loc:=l.map O++[O (.lst [gG w a]),nI [gG w a] b,nI [gG w a] c]}):=by
  have q:jG (eR l [gG w a] b c) 24=true:=by
   unfold jG
   have:(eR l [gG w a] b c).loc[24]? =O (O .bV):=by refine(M (pL (by refine M (bQ ..) (M f ?_);decide)) (M (bQ ..) (M f ?_)):(l.map O++[O .bV,b,c])[24]? =_);rfl
   exact M this rfl
  refine M (CH q (xs:=[gG w a]) V) ?_
  have e:((l.map O).map (nI [gG w a]))=l.map some:=by
   refine M j6 <|uL fun p h=> ?_
   have:=i p h;cases p<;>first |rfl |exact absurd rfl this
  refine(M iA (M e ?_):O (Fl.next,({loc:=(l.map O++[O .bV,b,c]).map (nI [gG w a]),mu:=aB,pl:=aF}:Sg))=_);rfl
 refine⟨nI [gG w a] b,nI [gG w a] c,?_⟩;exact nx n (nx g (nx o V))
end
end
section
open PySem.NumText
theorem PU:aH "_"=mk [95] :=by decide+kernel
theorem Fp:∀(n:aA) (r:aD aA),digitsVal (dT n 48++r)=digitsVal r
 |0,r=>rfl|n+1,r=>by refine M xg (M qP ?_);exact Fp n r
theorem adw(n:aA):digitsVal (iT (n:Z))=n:=by
 have h:= @Nat.ofDigitChars_toDigits 10 n (by decide) (by decide)
 have a:∀(l:aD Char) (x:aA),ag3 10 l x=(l.map agB).foldl (fun b c=>b*10+(c - 48)) x:=by
  intro l
  induction l with
  |nil=>intro x;rfl
  |cons c l ih=>
   intro x;show ag3 10 l (10*x+(c.toNat - '0'.toNat))=_;refine M (ih ..) (M gH (M AE (M (Hm ..) ?_)));rfl
 rw[a] at h;unfold iT digitsVal;exact h
theorem PW(k n:aA):digitsVal (cB k (n:Z))=n:=by unfold cB;exact M (Fp ..) (M (adw ..) V)
theorem Aa(k n:aA):AllDigits (cB k (n:Z)):=by
 intro c a;rcases jD.mp a with a |a
 ·refine M ((Bq.mp a).2) ?_;exact⟨by decide,by decide⟩
 ·exact Ei _ c a
theorem Fq(n:aA)(h:n < 20000):(cB 4 (n:Z)).length=4∨(cB 4 (n:Z)).length=5:=by
 have a:(iT (n:Z)).length≤5:=by unfold iT;refine M (bQ ..) (M (oF ..) ?_);exact(Nat.length_toDigits_le_iff (by decide) (by decide)).mpr (bL h (by decide))
 unfold cB;refine M bH (M oG ?_);lia
noncomputable def uj(y d:aA):aD Nat:=cB 4 (y:Z)++[95] ++dT 2044 48++[95] ++cB 2 (d:Z)++[32]
noncomputable def rX(y d:aA):aD Nat:=cB 4 (y:Z)++dT 2044 48++cB 2 (d:Z)
theorem adx(a:d < 100):digitsVal (rX y d)=y*10^2046+d:=by unfold rX;rw[eZ,Dw,Fp,PW,PW,bH,oG,nf d a]
theorem Fs(h:AllDigits l):l.filter (· !=95)=l:=ag2.mpr fun c a=>by have:=h c a;exact bne_iff_ne.mpr (fG (cC this.2 (by decide)))
section
theorem ady(W:Wd w h mb h₀)(l:jX h h₀ T)(m:y < 20000)(i:d < 100):Ct w h mb h₀ T 6 "int_from_string" [.str (mk (uj y d))] (.int ((y*10^2046+d:aA):Z)):=by
 have j:=nf d i;have f:=Aa 2 d
 obtain⟨a,c,g⟩:∃a c,cB 2 (d:Z)=[a,c] :=by
  match cB 2 (d:Z),j with
  |[a,c],_=>exact⟨a,c,rfl⟩
 refine aS (adx i) ?_
 have n:AllDigits (rX y d):=by
  intro x b;rcases jD.mp b with b |b
  ·rcases jD.mp b with b |b
   ·exact Aa 4 y x b
   ·refine M ((Bq.mp b).2) ?_;exact⟨by decide,by decide⟩
  ·exact f x b
 have o:AllDigits (dT 2044 48):=fun x b=>by refine M ((Bq.mp b).2) ?_;exact⟨by decide,by decide⟩
 have k:48≤c∧c≤57:=f c (by refine M g ?_;simp);have p:=Fq y m;refine Zx W l (mk (uj y d)) (cB 4 (y:Z)++[95] ++dT 2044 48++[95] ++[a]) (rX y d) c ?_ ?_ ?_ n (rX y d).length ?_ V ?_
 ·show uj y d=_;unfold uj;refine M g ?_;simp only[eZ];rfl
 ·have:∀c < 58,48≤c→pP c=false:=by decide+kernel
  exact this c (mh k.2) k.1
 ·have e:cB 4 (y:Z)++[95] ++dT 2044 48++[95] ++[a] ++[c] =cB 4 (y:Z)++([95] ++(dT 2044 48++([95] ++cB 2 (d:Z)))):=by refine M g ?_;simp only[eZ];rfl
  rw[e,Bo,Bo,Bo,Bo,Fs (Aa 4 y),Fs o,Fs f];unfold rX;rw[eZ];rfl
 ·unfold rX;refine M bH (M bH (M oG (M j ?_)));lia
 ·refine M bH (M bH (M bH (M bH (M oG ?_))));show _+1+2044+1+1≤10000;lia
theorem adz(W:Wd w c mb h₀)(h:jX c h₀ T)(D:bU)(a:D.Ok)(d:Slots D l)(f:i.length≤900)
  (g:l[21]? =O (.lst (((u::cB 2 (D.dy:Z)::v::cB 4 (D.yr:Z)::i).map mk).map .str))):lx w c mb h₀ T [wk] (aX l) (aX l):=by
 have j:=ady (T:=T) W h (y:=D.yr) (d:=D.dy) a.lz (by have:=a.bd;exact cC this.2 (by decide));refine .cons _ (lr j (by decide)) ?_ V .nil;generalize k:E0 (aH "int_from_string") [PV.str (mk (uj D.yr D.dy))] (.int ((D.yr*10^2046+D.dy:aA):Z))=P;have m:P.call (aH "int_from_string") [.str (mk (uj D.yr D.dy))] =O (.int ((D.yr*10^2046+D.dy:aA):Z)):=by refine aS k ?_;exact rP
 have x:=nf D.dy (by have:=a.bd;exact cC this.2 (by decide));have y:=Fq D.yr a.lz;have n:ev P (aX l) (.sub (.nm 21) (.int 3))=O (.str (mk (cB 4 (D.yr:Z)))):=hV (dS g) (y:= .int (3:aA)) V (nY (by simp;exact aL f (by decide)) (by rfl));have o:ev P (aX l) (.sub (.nm 21) (.int 1))=O (.str (mk (cB 2 (D.dy:Z)))):=hV (dS g) (y:= .int (1:aA)) V (nY (by simp;exact aL f (by decide)) (by rfl))
 have em:ev P (aX l) (.bin .Mult (.str (aH "0")) (.int 2044))=O (.str (mk (dT 2044 48))):=by
  refine bM (x:= .str (aH "0")) (y:= .int 2044) V rfl ?_;show aZ _ _=_;refine M (bB ⟨rfl,by decide,by decide⟩) ?_
  congr 2
 have b:(dT 2044 48).length=2044:=oG;have p:=n' (n' (n' (n' (n' n (zH PU) (by simp;lia)) em (by refine M b (M bH ?_);show _+1+2044≤_;lia)) (zH PU) (by refine M bH (M bH (M b ?_));show _+1+2044+1≤_;lia)) o (by refine M bH (M bH (M bH (M b ?_)));show _+1+2044+1+_≤_;lia)) (zH wo) (by refine M bH (M bH (M bH (M bH (M b ?_))));show _+1+2044+1+_+1≤_;lia);have q:=fO (bW p ir) (by rfl) m;have r:∀z:Z,dC .Mult (.int (D.yr:Z)) (.int z)=O (.int ((D.yr:Z)*z)):=fun z=>tm (dM (by decide) (cW _)) (by have:=a.lz;exact dZ.mpr (bL this (by decide)));have s:ev P (aX l) (.bin .Pow (.int 10) (.int 2046))=O (.int (10^2046)):=bM (x:= .int 10) (y:= .int (2046:aA)) V rfl (DZ (by decide));have t:ev P (aX l) (.bin .Add (.bin .Mult (.nm 5) (.bin .Pow (.int 10) (.int 2046))) (.nm 7))=O (.int ((D.yr:Z)*10^2046+(D.dy:Z))):=bM (bM (dS d.yr) s (r _)) (dS d.dy) iF;refine(show ex P wk (aX l)=bE P .nil (aX l) from nN (x:= .bool aI) (cI q t ?_) V).trans rfl
 have e:((D.yr*10^2046+D.dy:aA):Z)=(D.yr:Z)*10^2046+(D.dy:Z):=by refine M (af9 ..) (M (Bb ..) (M (af8 ..) ?_));rfl
 refine M e ?_;show O (PV.bool (_ !=_))=_;exact M (wY ..) V
end
end
section
noncomputable def wJ(w a:aA):PyData:= .list [.tuple [.int (w:Z),.int (a:Z)]]
theorem PX{K:PK}(f:∀b o,K b=O o→h.get? b=O o)(r:RV w K aB v (.lst [gG a b])):∃g,Reads h v (wJ a b) g:=by
 (refine il r.lst_inv ?_;rintro x o i n rfl j k l c);cases d:i.toList with
 |nil=>replace c:=d▸c;cases c
 |cons u r=>
  replace c:=d▸c;cases c with
  |cons m s=>
   cases s;(refine il m.sG ?_;rintro y L t N rfl z A B C);refine cS C.ml fun p P D E F=>cS F.ml fun q Q G H I=> ?_;cases I;have e:t.toList=[p,q] :=M D (M G V);(refine xe E.int_inv ?_;rintro R rfl);(refine xe H.int_inv ?_;rintro S rfl);exact⟨_,.list (f _ _ j) k l (by refine M d ?_;exact .cons (.tuple (f _ _ z) A B (by refine M e ?_;exact .cons (.int _ _) (.cons (.int _ _) .nil))) .nil)⟩
theorem PY(a b:aA):SeqAt.shaped (wJ a b)=true:=by rfl
theorem adA(a b:aA):ag4 (wJ a b) (wJ a b)=true:=by simp[wJ,ag4,PyData.eqvAll]
section
theorem adB(Y:kl w A c){K:PK}{st:bR}{a b:aA}(j:ET st)(l:ev bJ d (.nm 4)=O (.int (a:Z)))(n:ev bJ d (.nm 6)=O (.int (b:Z)))(o:ev bJ d (.nm 24)=O (.lst [gG a b]))(G:Gd w c dA K m aB s d):
  aN (aO pg w) A (ji st c.env) (fun q r=>q= .ret (.bool aF)∧∃f,PK.le K f∧Fm c f m aB r) (fun J J=>bO) s:=by
 obtain⟨t,x,y,u,k,v,R,S,rfl,z,B⟩:=j;have g:=Y.y (mC (T:=c.T))
 have C:bC (aK 35).scope dA (.nm 24) (.Name ("found":Str) t)=true:=by
  show Option.any (fun p=>p.1==("found":Str)) dA[24]? =aF
  decide+kernel
 have D:bC (aK 35).scope dA (.lst (.cons (.tup (.cons (.nm 4) (.cons (.nm 6) .nil))) .nil)) (.List [.Tuple [x,y] k u] v)=true:=by refine(M z (M B ?_):((bC (aK 35).scope dA (.nm 4) x && (bC (aK 35).scope dA (.nm 6) y && aF)) && aF)=aF);rfl
 have E:ev bJ d (.lst (.cons (.tup (.cons (.nm 4) (.cons (.nm 6) .nil))) .nil))=O (.lst [gG a b]):=nO (bW (tu (bW l (bW n ir)) (by show 2≤1000;decide) V) ir) (by show 1≤1000;decide) V;refine nv ?_
 with_reducible refine Rp ?_ V
 refine((cY g _ _ C).ev o G).then fun T U W h F X H=>((cY g _ _ D).ev E (G.of h F)).then fun I a0 a1 i e a2 L=> ?_
 obtain⟨a3,N⟩:=PX e.keep (H.mono i);obtain⟨a4,P⟩:=PX e.keep L;have Q:=Y.hu;refine SeqAt.compareEq_shaped N P (PY a b) (PY a b) (cC (eU (by decide) _) (bL Q (by decide)):A.units+64 < 9900) <|M (adA ..) ?_
 exact⟨rfl,I,h.trans i,e⟩
end
end
section
theorem text_len(d:k < 5)(e:jP f a)(g:jP h b)(i:qs f+qs h≤1)(j:iU c)(l:iU R):
  (kh (a++c++b++R++dL k)).length≤a.length+c.length+b.length+R.length+3:=by
 have:=((Pt e g i j l).strip d).2
 rwa [bH,bH,bH] at this
theorem adC(h:kK c):bA c≠32:=by
 rcases h with h |h
 ·unfold Let at h;unfold bA;split<;>lia
 ·have:=(uf _ h).2.2.2.1;refine M (zJ this) ?_;exact eG (bL (by decide) this)
theorem PZ(h:∀p∈r,ie p):∀c∈lcs r,c≠32:=fun c a=>by(refine aQ (iW.mp a) ?_;rintro p b rfl);exact adC (h p (List.mem_filter.mp b).1).sgn
theorem P0(k n:aA):∀c∈cB k (n:Z),c≠32:=fun c a=>by have:=Aa k n c a;exact eG (bL (by decide) this.1)
noncomputable def bU.ng(D:bU)(k:aA):aD Nat:=cB 2 (D.hh:Z)++[58] ++cB 2 (D.mi:Z)++[58] ++cB 2 (D.se:Z)++[32] ++(gU D.zi).map bA++iH k
noncomputable def bU.text(D:bU)(k:aA):aD Nat:=lcs D.r1++(ic D.dy).map bA++lcs D.r2++D.E.map bA++iH k
theorem Ft(D:bU)(a:D.Ok)(k:aA):D.text k=(lcs D.r1++[44])++32::(cB 2 (D.dy:Z)++32::(lcs D.r2++32::(cB 4 (D.yr:Z)++32::D.ng k))):=by have b:=(wy D.dy).2;have c:D.E.map bA=_:=(zQ D.yr D.hh D.mi D.se (zP a.bz)).2;unfold bU.text;refine M b (M c ?_);unfold ic l0 bU.ng;simp only[eZ,qP,qO]
theorem Fu(D:bU)(a:D.Ok):(∀p∈D.r1,ie p)∧(∀p∈D.r2,ie p)∧D.r1.length≤4∧D.r2.length≤4:=by exact iD (pu (ug a.bw) (t9 a.bw) D.c2 0) fun b f c=>iD (pu (uh a.bm) (ua a.bm) D.c2 1) fun d g e=>⟨b,d,c,e⟩
theorem adD(D:bU)(b:D.Ok)(k:aA):ig [] (D.text k)=(lcs D.r1++[44])::cB 2 (D.dy:Z)::lcs D.r2::cB 4 (D.yr:Z)::ig [] (D.ng k):=by
 refine dW (Fu D b) fun d e J J=> ?_
 rw[Ft D b k,wF _ _ _ (fun c a=>by
  rcases jD.mp a with a |a
  ·exact PZ d c a
  ·rw[fK.mp a];decide),wF _ _ _ (P0 2 D.dy),wF _ _ _ (PZ e),wF _ _ _ (P0 4 D.yr)]
 rfl
theorem P1(D:bU)(a:D.Ok)(b:k < 5):(D.ng k).length≤100:=by have c:=rQ a.bz;have d:=PH b;have e:=nf D.hh (by have:=a.bh;exact bL this (by decide));have f:=nf D.mi (by have:=a.bi;exact bL this (by decide));have g:=nf D.se (by have:=a.bs;exact bL this (by decide));unfold bU.ng;simp only[bH,bQ,HE];lia
theorem adE(D:bU)(a:D.Ok)(b:k < 5):(D.text k).length≤200:=by have c:=P1 D a b;refine dW (Fu D a) fun J J d e=> ?_;have f:=wE D.r1;have g:=wE D.r2;have h:=nf D.dy (by have:=a.bd;exact cC this.2 (by decide));have i:=Fq D.yr a.lz;refine M (Ft D a k) ?_;simp only[bH,j2,xb];lia
noncomputable def Fv(c:aD PV):aG PV:=lC c fun x r=>sS x fun a=>lC r fun x r=>sS x fun b=>i1 r fun d=>aZ (a.length≤40∧b.length≤40) (O (.int (rE a.cps.toList b.cps.toList d)))
noncomputable def Fw(c:aD PV):aG PV:=s2 c fun a b=>aZ (a.length≤1000∧b.length≤1000∧(cD b).length≤1000) (O (.int (dR a.cps.toList (cD b).cps.toList)))
section
theorem P2(W:Wd w d mb h₀):∀c y,Fv c=O y→Ct w d mb h₀ T 2 "_levenshtein_distance" c y:=by
 intro c y h;refine iN (CL h) fun J J e f=>aQ (K0 f) fun a g i=>iN (CL i) fun J J j k=>aQ (K0 k) fun b l m=> ?_;refine aQ (Lb m) fun n o p=> ?_;obtain⟨⟨q,r⟩,s⟩:=iZ p;refine M e (M g (M j (M l (M o (aS (cA s) ?_)))));have:=aaB (T:=T) W a.cps.toList b.cps.toList q r n
 rwa [OW,OW] at this
theorem P4(W:Wd w d mb h₀):∀c y,Fw c=O y→Ct w d mb h₀ T 1 "_law_near" c y:=by intro c y h;refine iN (VV h) fun a b e q=> ?_;obtain⟨⟨f,g,i⟩,q⟩:=iZ q;refine M e (aS (cA q) ?_);exact ZW W _ _ f g i
end
section
noncomputable abbrev uk(a b c:aD aA)(r:aD (aD aA)):PV:= .lst (((a::b::c::r).map mk).map .str)
theorem P5(z:Str)(k:aA)(d:r.length≤900)(h:(a::b::c::r)[k]? =O x):ev P {loc:=[O (.str z),O (uk a b c r)]} (.sub (.nm 1) (.int (k:Z)))=O (.str (mk x)):=by refine hV (x:=uk a b c r) (y:= .int (k:Z)) V rfl (nY (by simp;exact aL (by assumption) (by decide)) ?_);refine M ij (M h ?_);rfl
theorem adF(z:Str)(b:x.length≤100)(a:r.length≤900):ev P {loc:=[O (.str z),O (uk (x++[44]) c d r)]} zB=O (.str (mk x)):=by
 refine oY (x:= .str (mk (x++[44]))) (u:= .none) (v:= .int (-1)) (P5 z 0 a V) V rfl ?_;show aZ _ _=_;refine M (bB (by refine M (cZ ..) (M cN (M bH ?_));show x.length+1≤_;exact cC (by assumption) (by decide))) ?_;have:=Nv (x++[44]) 1 (by decide);rw[Sv] at this;have e:(([44].reverse++x.reverse).drop 1).reverse=x:=by simp
 rw[e] at this;refine aS this ?_;rfl
end
end
section
noncomputable def bU.p1(D:bU)(z:Str):Int:=rE (lcs D.r1) z.cps.toList 3
noncomputable def bU.p2(D:bU)(z:Str):Int:=rE z.cps.toList (lcs D.r2) 3
structure bU.Fact(D:bU):Prop where
 n1:∀z∈cF,jx (D.p1 z)=dR (lcs D.r1) (cD z).cps.toList
 n2:∀z∈cH,jx (D.p2 z)=dR (lcs D.r2) (cD z).cps.toList
 feb:∀i j:aA,i < 7→j < 12→(cF.map D.p1).getD i 0+(cH.map D.p2).getD j 0≤4→¬((D.yr:Z)=0∧(j:Z)=1)
 one:∀i j:aA,i < 7→j < 12→((cF.map D.p1).getD i 0+(cH.map D.p2).getD j 0≤4∧gR D.yr j D.dy=(i:Z)↔i=D.wd∧j=D.mo)
 big:gW D.c4≤1048600
theorem Ab:∀z∈cF++cH,(cD z).length≤1000∧z.length≤40:=by decide+kernel
noncomputable def Fx(D:bU)(a:aD PV)(j:aA):Prop:=j < 12∧¬((D.yr:Z)=0∧(j:Z)=1)∧a=[.int D.yr,.int (j:Z),.int D.dy,.lst (D.cs.map .int)]
open Classical in
noncomputable def Ac(D:bU)(a:aD PV):aG PV:=if h:∃j:aA,Fx D a j then O (.int (gR D.yr h.choose D.dy)) else aB
theorem adG(D:bU){j:aA}(h:j < 12)(a:¬((D.yr:Z)=0∧(j:Z)=1)):Ac D [.int D.yr,.int (j:Z),.int D.dy,.lst (D.cs.map .int)] =O (.int (gR D.yr j D.dy)):=by have e:∃i:aA,Fx D [.int D.yr,.int (j:Z),.int D.dy,.lst (D.cs.map .int)] i:=⟨j,h,a,rfl⟩;have q:j=e.choose:=QK (PV.int.inj (xj (xj e.choose_spec.2.2).2).1);refine(AJ e).trans ?_;exact aT (fun i:aA=>O (PV.int (gR D.yr i D.dy))) q.symm
section
theorem adH(W:Wd w mg mb h₀)(Ns:jX mg h₀ T)(D:bU)(O0:D.Ok)(hb:gW D.c4≤1048600):∀xs y,Ac D xs=O y→Ct w mg mb h₀ T 20 "_law_weekday" xs y:=by
 intro xs y h;unfold Ac at h
 by_cases hc:∃j:aA,Fx D xs j
 ·replace h:=(AJ hc).symm.trans h;cases h;have e:=hc.choose_spec;generalize hc.choose=j at e ⊢;(refine iD e ?_;rintro h1 h2 rfl);exact abf W Ns D.yr j D.dy D.c0 D.c1 D.c2 D.c3 D.c4 D.c5 (by have:=O0.lz;exact⟨cW _,cJ (dZ.mpr this)⟩) ⟨cW _,cV.mpr (jy h1)⟩ (by have:=O0.bd;exact⟨cV.mpr this.1,cV.mpr this.2⟩) h2 hb
 ·replace h:=(dif_neg hc).symm.trans h;cases h
end
noncomputable def bU.rY(D:bU)(o1 o2:aD aA)(d2:Z)(k:aA)(sq:aD aA):aD PV:=D.je++[.str (gK.mk o1)] ++[.int d2] ++[.str (gK.mk o2)] ++[.str (gK.mk (dL k))] ++[.str (gK.mk sq)]
structure adI(D:bU)(l:aD PV)(sq:aD aA):Prop where
 hl:l.length=18
 sl:Slots D l
 B6:l[11]? =O (.str (mk (ic D.dy)))
 h12:l[12]? =O (.str (mk D.E))
 wD:l[17]? =O (.str (mk sq))
 nm:∀p∈l,p≠ .bV
theorem wK(h:l.length=n):(l++[x])[n]? =O x:=by refine aS h ?_;simp
theorem nh{l:aD PV}{x:PV}(h:∀p∈l,p≠ .bV)(b:x≠ .bV):∀p∈l++[x],p≠ .bV:=fun p a=>by
 rcases jD.mp a with a |a
 ·exact h p a
 ·refine M (fK.mp a) ?_;exact b
theorem kL(h:l.length=n):(l++[x]).length=n+1:=by refine M bH (M h ?_);rfl
theorem adJ(D:bU):∀p∈D.je,p≠ .bV:=by unfold bU.je bU.v11 bU.v10 bU.v8;intro p a;simp only[jD,gz,cO,or_false] at a;rcases a with(((rfl |rfl |rfl |rfl |rfl |rfl |rfl |rfl) |(rfl |rfl |rfl)) |rfl) |rfl<;>intro h<;>cases h
theorem adK(D:bU)(c d:aD aA)(e:Z)(k:aA)(a:aD aA):adI D (D.rY c d e k a) a:=by
 have b:D.je.length=13:=rfl;have f:D.je[11]? =O (.str (mk (ic D.dy))):=rfl;have g:D.je[12]? =O (.str (mk D.E)):=rfl;have i:=adg D;have j:=adJ D
 exact⟨kL (kL (kL (kL (kL b)))),i.more.more.more.more.more,more (more (more (more (more f)))),more (more (more (more (more g)))),wK (kL (kL (kL (kL b)))),
  nh (nh (nh (nh (nh j (by intro h;cases h)) (by intro h;cases h)) (by intro h;cases h)) (by intro h;cases h)) (by intro h;cases h)⟩
section
theorem adL{w:aV}{A:bX}{c:Cx}(Y:kl w A c)(Ns:jX c.mg c.h₀ c.T)(D:bU)(O0:D.Ok)(Fc:D.Fact)(P6:Ct w c.mg c.mb c.h₀ c.T 20 "_law_cells" [.lst (D.ns.map .int)] (.lst (D.cs.map .int))){K:PK}{m:Str→aG aJ}{s:aM}{cw:aW}{o:Obj}{x0:aG aJ}
  (wH:c.env.cells.lookup ("words":Str)=O cw) (hK:K cw=aB) (hn:cw≠c.env.locals) (hE:c.hE.get? cw=aB) (ho:s.heap.get? cw=O o) (hd:o.data= .cell x0) (G:Gd w c dA K m aB s (aX [.lst (D.ns.map .int)])):
  aN (aO pg w) A (eH (aK 35).body c.env) (fun fl s'=>fl= .ret (.bool aF)∧∃K' m',PK.le K K'∧Fm c K' m' aB s') (fun J J=>bO) s:=by
 obtain⟨l1,l2,l3,EU,EV,EW,EX,EY,EZ,zF,P7,h1,h2,h3,wD,wG,Fn,Fo,h24,h25,h29⟩:=ab';refine M P7 ?_;clear P7;have W:=Y.W;have kind:∀x,c.env.kindOf x=(aK 35).scope.names.lookup x:=fun x=>by unfold GD;exact M Y.H.scope V
 have Fy:=G.F.off hE;refine H5 (ac9 (T:=c.T) W D O0) fun o1 o2 d2 k u1 u2 wL hk ry rc=> ?_;have r0:=(ack W D O0 P6).append ((acr W D O0).append rc);refine zG Y r0 h1 G fun K1 m1 s1 k1 G1 b1 n1=> ?_;have K1c:=n1 cw (by refine M ho ?_;intro z;cases z) hn hK;have g1:=b1 cw o ho hn (by intro z;cases z) Fy;clear r0 rc P6
 have P8:qs D.r1+qs D.r2≤1:=by
  by_cases hp:D.c2 / 4 % 2=0
  ·have:=zR (nm:=jN D.mo) (zS:=D.c2) (which:=1) (SI (iV (pC hp) (by decide)));refine iD (pu (ug O0.bw) (t9 O0.bw) D.c2 0) fun J q J=> ?_;unfold bU.r1 bU.r2;exact Bx q (cM this) (by decide)
  ·have:=zR (nm:=jM D.wd) (zS:=D.c2) (which:=0) hp;refine iD (pu (uh O0.bm) (ua O0.bm) D.c2 1) fun J q J=> ?_;unfold bU.r1 bU.r2;exact GH q (aL (cM this) (jR _))
 have aE:=(zQ D.yr D.hh D.mi D.se (zP O0.bz)).1;have ul:=(Pu wL u1 u2 P8 (wy D.dy).1 aE).1;have hlen:=text_len wL u1 u2 P8 (wy D.dy).1 aE;have lM:=Fb (d:=D.dy) (by have:=O0.bd;exact cC this.2 (by decide));have lE:=Fd (y:=D.yr) (h:=D.hh) (m:=D.mi) (s:=D.se) (z:=gU D.zi) O0.lz (by have:=O0.bh;exact bL this (by decide)) (by have:=O0.bi;exact bL this (by decide)) (by have:=O0.bs;exact bL this (by decide)) (rQ O0.bz);have om:=adK D o1 o2 d2 k (kh (o1++ic D.dy++o2++D.E++dL k));replace G1:Gd w c dA K1 m1 aB s1 (aX (D.rY o1 o2 d2 k (kh (o1++ic D.dy++o2++D.E++dL k)))):=G1;generalize D.rY o1 o2 d2 k (kh (o1++ic D.dy++o2++D.E++dL k))=rY at G1 om;have hE':l0 D.yr D.hh D.mi D.se (gU D.zi)=D.E:=rfl;rw[hE'] at ul hlen lE;have ul:dK (kh (o1++ic D.dy++o2++D.E++dL k))=D.text k:=ul;have Fz:=adE D O0 wL;generalize kh (o1++ic D.dy++o2++D.E++dL k)=sq at ul hlen om;refine wC Y G1 V (fun c' e1 e2 Y' G'=>ade Y' wD om.hl om.wD (by lia) (by refine M ul ?_;exact aL Fz (by decide)) G') fun K2 m2 s2 k2 G2 b2 n2=> ?_;rw[ul] at G2;have K2c:=n2 cw (by refine M g1 ?_;intro z;cases z) hn K1c;have g2:=b2 cw o g1 hn (by intro z;cases z) Fy;have FA:(rY++[PV.str (mk (D.text k))]).length=19:=kL om.hl;have FC:=om.sl.more (x:= .str (mk (D.text k)));have FD:(rY++[PV.str (mk (D.text k))])[18]? =O (.str (mk (D.text k))):=wK om.hl;have P9:=more (y:= .str (mk (D.text k))) om.B6;have Qa:=more (y:= .str (mk (D.text k))) om.h12;have Qb:=nh (x:= .str (mk (D.text k))) om.nm (by intro h;cases h);generalize rY++[PV.str (mk (D.text k))] =v18 at G2 FA FC FD P9 Qa Qb;refine zG Y (adh W D O0 wL hk FA FC P9 Qa FD) h2 G2 fun K3 m3 s3 k3 G3 b3 n3=> ?_;have K3c:=n3 cw (by refine M g2 ?_;intro z;cases z) hn K2c;have g3:=b3 cw o g2 hn (by intro z;cases z) Fy;have Ad:=kL (x:= .str (mk (lcs D.r2))) (kL (x:= .str (mk (lcs D.r1))) FA);have Qc:=(FC.more (x:= .str (mk (lcs D.r1)))).more (x:= .str (mk (lcs D.r2)));have Ae:=more (y:= .str (mk (lcs D.r2))) (more (y:= .str (mk (lcs D.r1))) FD);have Qd:=nh (x:= .str (mk (lcs D.r2))) (nh (x:= .str (mk (lcs D.r1))) Qb (by intro h;cases h)) (by intro h;cases h);generalize v18++[PV.str (mk (lcs D.r1))] ++[PV.str (mk (lcs D.r2))] =v20 at G3 Ad Qc Ae Qd;have FE:=Ft D O0 k;rw[FE] at Ae Fz;have FG:=adD D O0 k;rw[FE] at FG;refine wpAny_execs_cons (wpAny_mono (adk Y wG Ad Ae (aL Fz (by decide)) wH (by refine M (kind ..) ?_;decide+kernel) K3c hn hE g3 hd G3) (fun fl s4 Qe=> ?_) fun J J e=>e.elim);(refine uN Qe ?_;clear Qe;rintro rfl K4 k4 G4);rw[FG] at G4;clear FG FE Ae
 have hr:(cB 4 (D.yr:Z)::ig [] (D.ng k)).length≤900:=by have h1:=zY (D.ng k) [];have h2:=P1 D O0 wL;refine M j2 ?_;lia
 have hr':(ig [] (D.ng k)).length≤900:=by rw[j2] at hr;lia
 replace G4:Gd w c dA K4 m3 aB s4 (aX (v20++[uk (lcs D.r1++[44]) (cB 2 (D.dy:Z)) (lcs D.r2) (cB 4 (D.yr:Z)::ig [] (D.ng k))])):=G4;generalize wM:uk (lcs D.r1++[44]) (cB 2 (D.dy:Z)) (lcs D.r2) (cB 4 (D.yr:Z)::ig [] (D.ng k))=ws at G4;have Af:=kL (x:=ws) Ad;have FH:=Qc.more (x:=ws);have Qf:(v20++[ws])[21]? =O ws:=wK Ad;have Qg:=nh (x:=ws) Qd (by refine aS wM ?_;intro h;cases h);generalize v20++[ws] =FI at G4 Af FH Qf Qg;refine dW (Fu D O0) fun p1 p2 FJ Qh=> ?_;have FK:=wE D.r1;have Qi:=wE D.r2;have hw:∃xs,ws= .lst xs:=⟨_,wM.symm⟩;have w0:∀P z,ev P {loc:=[O (.str z),O ws]} zB=O (.str (mk (lcs D.r1))):=fun P z=>by refine aS wM ?_;exact adF z (aL FK (aL FJ (by decide))) hr
 have w2:∀P z,ev P {loc:=[O (.str z),O ws]} (.sub (.nm 1) (.int 2))=O (.str (mk (lcs D.r2))):=fun P z=>by refine aS wM ?_;exact P5 z 2 hr V
 have Ag:∀P (z:Str),ev P {loc:=[O (.str z),O ws]} (.nm 0)=O (.str z):=fun P z=>rfl;have i3:∀P (z:Str),ev P {loc:=[O (.str z),O ws]} (.int 3)=O (.int 3):=fun P z=>rfl
 have e22:∀z∈cF,ev (jw (aH "_levenshtein_distance") Fv) {loc:=[O (.str z),O ws]} OM=O (.int (D.p1 z)):=fun z hz=>by have hz:=(Ab z (kR _ hz)).2;exact fO (bW (w0 _ z) (bW (Ag _ z) (bW (i3 _ z) ir))) (by rfl) (tZ (bB ⟨by refine M (cZ ..) ?_;exact aL FK (aL FJ (by decide)),hz⟩))
 have e23:∀z∈cH,ev (jw (aH "_levenshtein_distance") Fv) {loc:=[O (.str z),O ws]} ON=O (.int (D.p2 z)):=fun z hz=>by have hz:=(Ab z (j5 _ hz)).2;exact fO (bW (Ag _ z) (bW (w2 _ z) (bW (i3 _ z) ir))) (by rfl) (tZ (bB ⟨hz,by refine M (cZ ..) ?_;exact aL Qi (aL Qh (by decide))⟩))
 have e24:∀z∈cF,ev (jw (aH "_law_near") Fw) {loc:=[O (.str z),O ws]} OO=O (.int (dR (lcs D.r1) (cD z).cps.toList)):=fun z hz=>by have hz:=Ab z (kR _ hz);exact fO (bW (w0 _ z) (bW (Ag _ z) ir)) (by rfl) (tZ (bB ⟨by refine M (cZ ..) ?_;exact aL FK (aL FJ (by decide)),by exact aL hz.2 (by decide),hz.1⟩))
 have e25:∀z∈cH,ev (jw (aH "_law_near") Fw) {loc:=[O (.str z),O ws]} OP=O (.int (dR (lcs D.r2) (cD z).cps.toList)):=fun z hz=>by have hz:=Ab z (j5 _ hz);exact fO (bW (w2 _ z) (bW (Ag _ z) ir)) (by rfl) (tZ (bB ⟨by refine M (cZ ..) ?_;exact aL Qi (aL Qh (by decide)),by exact aL hz.2 (by decide),hz.1⟩))
 have Qj:∃xs,FI[21]? =O (.lst xs)∧ws= .lst xs:=xe hw fun xs e=>⟨xs,by exact M Qf (M e V),e⟩;(refine aQ Qj ?_;clear Qj;rintro xs Qk rfl);refine wC Y G4 V (fun c' e1 e2 Y' G'=>PO (f:=fun z=> .int (D.p1 z)) Y' (tY (P2 Y'.W) (by decide)) Fn Af (by decide) (by decide+kernel) (by refine M e1 (M (kind ..) ?_);decide+kernel) Qk FH.ds (by decide) G' e22) fun K5 m5 s5 k5 G5 b5 n5=> ?_;have e5:(cF.map fun z=>PV.int (D.p1 z))=(cF.map D.p1).map .int:=by refine M j6 ?_;rfl
 rw[e5] at G5;have Ah:=kL (x:= .lst ((cF.map D.p1).map .int)) Af;have FL:=FH.more (x:= .lst ((cF.map D.p1).map .int));have FM:=more (y:= .lst ((cF.map D.p1).map .int)) Qk;have Ql:(FI++[.lst ((cF.map D.p1).map .int)])[22]? =O (.lst ((cF.map D.p1).map .int)):=wK Af;have Qm:=nh (x:= .lst ((cF.map D.p1).map .int)) Qg (by intro h;cases h);generalize FI++[.lst ((cF.map D.p1).map .int)] =Qn at G5 Ah FL FM Ql Qm;refine wC Y G5 V (fun c' e1 e2 Y' G'=>PO (f:=fun z=> .int (D.p2 z)) Y' (tY (P2 Y'.W) (by decide)) Fo Ah (by decide) (by decide+kernel) (by refine M e1 (M (kind ..) ?_);decide+kernel) FM FL.ms (by decide) G' e23) fun K6 m6 s6 k6 G6 b6 n6=> ?_;have e6:(cH.map fun z=>PV.int (D.p2 z))=(cH.map D.p2).map .int:=by refine M j6 ?_;rfl
 rw[e6] at G6;have Ai:=kL (x:= .lst ((cH.map D.p2).map .int)) Ah;have pv:=FL.more (x:= .lst ((cH.map D.p2).map .int));have Aj:=more (y:= .lst ((cH.map D.p2).map .int)) FM;have FN:=more (y:= .lst ((cH.map D.p2).map .int)) Ql;have FO:(Qn++[.lst ((cH.map D.p2).map .int)])[23]? =O (.lst ((cH.map D.p2).map .int)):=wK Ah;have Qo:=nh (x:= .lst ((cH.map D.p2).map .int)) Qm (by intro h;cases h);generalize Qn++[.lst ((cH.map D.p2).map .int)] =qx at G6 Ai pv Aj FN FO Qo
 have q1:(cF.map D.p1).map jx=cF.map fun z=>dR (lcs D.r1) (cD z).cps.toList:=
  uL fun z hz=>Fc.n1 z hz
 have q2:(cH.map D.p2).map jx=cH.map fun z=>dR (lcs D.r2) (cD z).cps.toList:=
  uL fun z hz=>Fc.n2 z hz
 refine wC Y G6 V (fun c' e1 e2 Y' G'=>PQ (g:=fun z=>dR (lcs D.r1) (cD z).cps.toList) Y' (tY (P4 Y'.W) (by decide)) h24 Aj FN pv.ds (by refine M (bQ ..) ?_;decide) (by decide) G' e24 q1) fun K7 m7 s7 k7 G7 b7 n7=> ?_;refine wC Y G7 V (fun c' e1 e2 Y' G'=>PQ (g:=fun z=>dR (lcs D.r2) (cD z).cps.toList) Y' (tY (P4 Y'.W) (by decide)) h25 Aj FO pv.ms (by refine M (bQ ..) ?_;decide) (by decide) G' e25 q2) fun K8 m8 s8 k8 G8 b8 n8=> ?_
 match l3,h3 with
 |a::b,h3=>
 refine xa (mJ.mp h3) fun FP h3=> ?_
 match b,h3 with
 |b::d,h3=>
 refine xa (mJ.mp h3) fun h27 h3=> ?_
 match d,h3 with
 |d::e,h3=>
 refine xa (mJ.mp h3) fun h28 h3=> ?_
 match e,h3 with
 |[],_=>
 have FP:tW (aK 35).scope dA [wk] [a] =true:=by refine(M FP ?_:(j8 _ _ wk a && aF)=aF);rfl
 have xw:qx[21]? =O (uk (lcs D.r1++[44]) (cB 2 (D.dy:Z)) (lcs D.r2) (cB 4 (D.yr:Z)::ig [] (D.ng k))):=M Aj (M wM V);refine zG (rest:=[b,d] ++[zF]) Y (adz W Ns D O0 pv hr' xw) FP G8 fun K9 m9 s9 k9 G9 b9 n9=> ?_
 have F:zZ (jw (aH "_law_weekday") (Ac D)) qx (cF.map D.p1) (cH.map D.p2) (.lst (D.cs.map .int)) D.yr D.dy (fun j=>gR D.yr j D.dy) D.wd D.mo:=
  ⟨Ai,by refine M (bQ ..) ?_;rfl,by refine M (bQ ..) ?_;rfl,pv.cs,pv.yr,pv.dy,FN,FO,fun i j hi hj hc=>tZ (adG D hj (Fc.feb i j hi hj hc)),⟨_,rfl⟩,Fc.one⟩
 refine oJ (adv F O0.bw O0.bm Qo) fun oi oj hf=> ?_
 have hB:dX (aK 35).scope dA (.cons wl (.cons wm (.cons (.kS 24) .nil))) [b,d] =true:=by refine(M h27 (M h28 ?_):(j8 _ _ wl b && (j8 _ _ wm d && aF))=aF);rfl
 have YW:=Y.y (tY (T:=c.T) (adH W Ns D O0 Fc.big) (by decide:20≤20));refine tw _ _ (Xj YW hB hf G9 V fun K10 m10 vI k10 rz yZ n10=> ?_)
 have Qp:∀(i:aA) (x:PV),qx[i]? =O x→ev bJ {loc:=qx.map O++[O (.lst [gG D.wd D.mo]),oi,oj]} (.nm i)=O x:=fun i x hx=>by
  have hi:i < qx.length:=(l6.mp hx).1
  have:(qx.map O++[O (.lst [gG D.wd D.mo]),oi,oj])[i]? =O (O x):=by refine M (su (by simpa using hi)) (M ij (M hx ?_));rfl
  exact aT i' this
 have adM:ev bJ {loc:=qx.map O++[O (.lst [gG D.wd D.mo]),oi,oj]} (.nm 24)=O (.lst [gG D.wd D.mo]):=by
  have:(qx.map O++[O (.lst [gG D.wd D.mo]),oi,oj])[24]? =O (O (.lst [gG D.wd D.mo])):=by refine M (pL (by refine M (bQ ..) (M Ai ?_);decide)) (M (bQ ..) (M Ai ?_));rfl
  exact aT i' this
 refine wpAny_execs_cons (wpAny_mono (adB Y h29 (Qp 4 _ pv.wd) (Qp 6 _ pv.mo) adM rz) (fun fl vJ Qq=> ?_) fun J J e=>e.elim);(refine uN Qq ?_;clear Qq;rintro rfl MN vO Dm);exact⟨rfl,MN,m10,k1.trans (k2.trans (k3.trans (k4.trans (k5.trans (k6.trans (k7.trans (k8.trans (k9.trans (k10.trans vO))))))))),Dm⟩
end
end
section
noncomputable def stC(a b:aD Z)(o:aG PV)(pl:aU):Sg:={loc:=[O (.lst (a.map .int)),O .bV,o],mu:=O (b.map .int),pl:=pl}
theorem adN(P:bT)(b:aD Z)(w:b.length≤63)(l:aA)(z:∀x∈b,x.natAbs≤l)(k:aA):∀(j:aA) (a:aD Z) (o:aG PV) (g:aU),j+k=b.length→a.length=6→(∀c∈a,c.natAbs≤3202493070+j*l)→
  ∃f m n,f.length=6∧(∀c∈f,c.natAbs≤3202493070+b.length*l)∧gM (bE P (.cons (.sJ 1 (.bin .Mod (.nm 2) (.int 6)) .Add (.sub (.nm 0) (.nm 2))) .nil)) 2 ((qJ j k).map fun q=> .int (q:aA)) (stC b a o g)=O (.next,stC b f m n):=by
 induction k with
 |zero=>intro j a o g i d A;obtain rfl:j=b.length:=i;exact⟨a,o,g,d,A,rfl⟩
 |succ k ih=>
  intro j a o g i d p;have B:j < b.length:=bL (mh (hO _ _)) (cM i);have r:(((j:Z) % 6).toNat)=j % 6:=rfl;have s:0≤(j:Z) % 6:=eD _ (by decide);have t:(j:Z) % 6 < a.length:=by refine M d ?_;exact gJ _ (by decide)
  have u:∀c,c=a.getD (j % 6) 0→c∈a:=fun c e=>by
   have:j % 6 < a.length:=by refine M d ?_;exact RU _ (by decide)
   refine M e (M ik (M (fC this) ?_));exact mj this
  generalize C:a.getD (j % 6) 0=x at u;have D:=p x (u x V);have E:jn (O (a.map .int)) .bV (.int ((j:Z) % 6))=O (.int x):=(get_map .int 0 s t (by refine M d ?_;decide)).trans (M r (M C V));obtain⟨y,v⟩:∃y,b[j]? =O y:=⟨_,fC B⟩;have F:=z y (kq v)
  (refine pR (ih (j+1) (a.set (j % 6) (x+y)) (O (.int j)) aI (kN (on _ _ _) (kN V i)) (by refine M GL ?_;exact d) (fun c G=>by
   refine M (Nat.succ_mul ..) (aS (iI ..) ?_);rcases ag5 G with h |rfl
   ·exact aL (p c h) (hO _ _)
   ·exact aL (Int.natAbs_add_le x y) (fY D F))) ?_;rintro f m n H I K)
  refine⟨f,m,n,H,I,(rl (σ':=stC b (a.set (j % 6) (x+y)) (O (.int j)) aI) (nx ((VN (k:=(j:Z) % 6) (xs:=a.map .int) (y:= .int y) (z:= .int (x+y)) V (bM (x:= .int j) (y:= .int 6) V rfl (tl (by decide) (by decide))) E (hV (x:= .lst (b.map .int)) (y:= .int j) V rfl (DQ (aL w (by decide)) v)) CE V s (by refine M (bQ ..) ?_;exact t) (by refine M (bQ ..) (M d ?_);decide)).trans ?_) V)).trans K⟩;refine M r (aS xH ?_);rfl
theorem adO(P:bT)(a:aD Z)(b:a.length≤63)(d:aA)(g:∀x∈a,x.natAbs≤d):∃e:aD Z,∃h,e.length=6∧(∀c∈e,c.natAbs≤3202493070+a.length*d)∧bE P Kx {loc:=[O (.lst (a.map .int)),aB,aB]}=O (.ret (.lst (e.map .int)),h):=by(refine pR (adN P a b d g a.length 0 [739295,97445,13,3202493070,-7,-7] aB aF (oo _) V (by refine M (af6 ..) ?_;decide)) ?_;rintro i m n j k f);rw[←uv] at f;have l:xV (a.map .int)=O (.int a.length):=(bB (by refine M (bQ ..) (M cN ?_);exact aL b (by decide))).trans (M (bQ ..) V);refine⟨i,_,j,k,nx (tq (xs:=[.int 739295,.int 97445,.int 13,.int 3202493070,.int (-7),.int (-7)]) V (nO V (by decide) V)) (nx ((tr (N:=a.length) (iR (f:="len") (gD (x:= .lst (a.map .int)) V) l) ⟨cW _,cV.mpr (aL b (by decide))⟩).trans f) (cU (KR V rfl)))⟩
section
theorem adP(W:Wd w f mb h₀)(b:aD Z)(e:b.length≤63)(d:aA)(g:∀x∈b,x.natAbs≤d):∃a:aD Z,a.length=6∧(∀c∈a,c.natAbs≤3202493070+63*d)∧Ct w f mb h₀ T 1 "_law_cells" [.lst (b.map .int)] (.lst (a.map .int)):=by refine cS (adO bJ b e d g) fun a n i j k=>⟨a,i,fun c l=>aL (j c l) (eU (Sk _ e) _),?_⟩;exact W.fn (n:=0) (i:=27) (P:=bJ) (rest:=[aB,aB]) (by decide) ⟨_,rfl⟩ V Vn (fun m J J J h=>pT (fun J=>rfl) m h) Vm fV (fun J J J=>nn) V k V
end
end
section
noncomputable def Qr:Prop:=∀(b a:aD Z),a.length=6→(∀c∈a,gW c≤1048600)→∃D:bU,D.ns=b∧D.cs=a∧D.Ok∧D.Fact
theorem adQ:∃q,pg.main.body[35]? =O (.FunctionDef (aK 35).name (aK 35).params (aK 35).body [] aB [] (aK 35).scope aB (aK 35).name q)∧(aK 35).params.defaults=[]∧(aK 35).name≠"__name__":=⟨_,rfl,rfl,by decide⟩
theorem adR(h:c.natAbs≤3202493070+63*2^(2^20)):gW c≤1048600:=by
 have a:c.natAbs < 2^(2^20+7):=by have b:(3202493070:aA) < 2^(2^20):=bL (by decide:3202493070 < 2^32) (xA (by decide) (by decide));refine M (Sj ..) ?_;generalize 2^(2^20)=d at h b;omega
 exact aL (PySem.intBits_le_iff.mpr a) (by decide)
theorem adS(a':Qr):Lk:=by
 intro w h N mb X d a o bs n P p Q aa ab ae af ah ai aj;refine dB (WO X) fun T W R C=>dB adQ fun bt ak al am=> ?_;obtain⟨f,bu,bv,r,bw,bx,E,an,bz,ao,S,c0,c1⟩:=CV X (kq ak) al am;have ap:(aK 35).name=("law":Str):=by decide+kernel
 replace E:=ap▸E;refine⟨_,E,?_⟩;generalize U:Hg h (T.map (·.P))=h₀ at W R;have sub:∀b o,h₀.get? b=O o→h.get? b=O o:=fun b o e=>by replace e:=Eq.symm U▸e;exact of_hideAll _ e
 have aq:∀t∈T,h₀.get? t.P=none:=fun t g=>by refine aS U ?_;exact hideAll_none _ (Ay g)
 have ar:h₀.get? a=none:=by
  cases e:h₀.get? a with
  |none=>rfl|some s=>have:=sub _ _ e;replace this:=Q▸this;exact nn this
 generalize as:PK.put (fun b=>h₀.get? b) a o=K;have u:∀b,K b=if b=a then O o else h₀.get? b:=fun b=>by refine aS as ?_;rfl
 have au:∀b o,h₀.get? b=O o→K b=O o:=fun b s e=>by refine M (u ..) (M (aP (fun z=>by(replace e:=z▸e;replace e:=ar▸e);cases e)) ?_);exact e
 have av:∀b o,K b=O o→d.heap.get? b=O o:=fun b s e=>by
  replace e:=(u ..)▸e
  split at e
  ·rename_i z;cases e;refine M z ?_;exact ab
  ·exact p _ _ (sub _ _ e)
 have aw:∀t∈T,K t.P=none:=fun t g=>by refine xe (C t g) fun c k=>M (u ..) (M (aP (fun z=>by have:=k.2;(replace this:=z▸this;replace this:=Q▸this);exact nn this)) ?_);exact aq t g
 have ax:∀t∈T,t.Ok K d.heap:=fun t g=>by exact xe (C t g) fun c k=>⟨#[],p _ _ k.2,trivial,.inl V⟩
 have ay:d.heap.CodeRec (.ref r) (aK 35).name:=by(refine BA S ?_;clear S;rintro Y s az b0 e b1 b2);exact⟨Y,s,az,b0,e,p _ _ b1,b2⟩
 refine dB (adP (T:=T) W P ai (2^(2^20)) (fun x G=>fE (aj x G))) fun b3 b4 b5 b6=> ?_;(refine mT (a' P b3 b4 fun c j=>adR (b5 c j)) ?_;rintro D rfl rfl b7 b8)
 refine cell_call (h₀:=h₀) (mg:=N) (mb:=mb) (T:=T) (K:=K) (binds:=[("script",.ref a)]) (by decide) (p _ _ an) ao ay (by rfl) (fun x G=> ?_) (by decide+kernel) (by rfl) (by rfl) (by rfl) au av W.base (by refine M aa ?_;exact fun J h=>by simp at h) aw ax
  fun c b9 b' j F X ba c2=> ?_
 ·refine M (fK.mp G) <| .inl ?_
  show(aK 35).scope.names.lookup ("script":Str)=O .local
  decide+kernel
 have a0:qQ (d.heap.objs.size+1) (aK 35).scope.names [] =[(("words":Str),d.heap.objs.size+1)] :=rfl
 obtain⟨v,rfl,bc⟩:∃v,b'=[(d.heap.objs.size+1,v)]∧v.data= .cell none:=by
  replace X:=a0▸X;cases X with |cons bd X=>
  cases X;exact⟨_,rfl,bd⟩
 refine dW (ba (_,v) (.head _)) fun be bf bg bh=> ?_;have a1:c.hE=d.heap:=M j V;have y:c.T=T:=M j V;have H:c.mg=N:=M j V;have a2:c.mb=mb:=M j V;have I:c.h₀=h₀:=M j V;have bi:c.env=ny (aK 35).name (aK 35).scope d.heap.objs.size f (.ref r):=M j V
 have bj:c.env.cells.lookup ("words":Str)=O (d.heap.objs.size+1):=by refine M bi ?_;refine(M a0 ?_:(qQ (d.heap.objs.size+1) (aK 35).scope.names []).lookup ("words":Str)=_);rfl
 have bk:kl w (AZ.deeper c.env) c:=by refine⟨by refine M H (M a2 (M I ?_));exact W,rfl,by show AZ.depth+1+20 < 900;decide,by show AZ.units+3+10*20 < 9000;decide,?_⟩;exact M j <|⟨rfl,okZ,rfl,rfl⟩
 have bl:K a=O o:=M (u ..) (M (aR V) V);generalize bm:A3 (ny (aK 35).name (aK 35).scope d.heap.objs.size f (.ref r)).kindOf [("script",.ref a)] (fun J=>aB)=a3 at F
 have bn:a3 "script"=O (.ref a):=by
  refine aS bm ?_
  have c3:(ny (aK 35).name (aK 35).scope d.heap.objs.size f (.ref r)).kindOf ("script":Str)=O .local:=by
   show(aK 35).scope.names.lookup ("script":Str)=O .local
   decide+kernel
  exact rfl
 have bo:Gd w c dA K a3 aB b9 (aX [.lst (D.ns.map .int)]):=by
  refine⟨F,?_,.none,fun J J J z=>by cases z⟩;intro i x k bp A l
  match i,A,l with
  |0,A,l=>
   cases A;cases l;exact⟨.ref a,bn,.lst bl ae af (LO ah)⟩
  |i+1,A,l=>
   exfalso
   replace l:([O (PV.lst (D.ns.map .int))] ++dT 26 aB)[i+1]? =O (O bp):=l;rw[pL (ow _)] at l;have:=kq l;replace this:=QU Bq this;cases this.2
 refine wpAny_mono (adL bk (by refine M H (M I (M y ?_));exact R) D b7 b8 (by refine M H (M a2 (M I (M y ?_)));exact b6.up (by decide)) bj bh bf (by refine M a1 ?_;exact bg) be bc bo) (fun c4 a4 a5=> ?_) fun J J e=>e.elim;(refine HW a5 ?_;clear a5;rintro rfl c5 c6 c7 B);refine⟨rfl,?_,B.os.trans (M j V),B.gens.bare⟩;have a6:∀b o,d.heap.get? b=O o→Off T b→a4.heap.get? b=O o:=fun b o e q=>B.cT b o (by refine M y ?_;exact q) (by refine M a1 ?_;exact e)
 have a7:∀t∈T,∀o,d.heap.get? t.P=O o→isCodeTable d.heap t.P∧∃m,o={cls:= .none,data:= .fields #[]}∧a4.heap.get? t.P=O {cls:= .none,data:= .fields m}:=fun t g o e=>by refine xe (C t g) fun Y k=> ?_;have a8:=k.keeps p;(refine aQ (B.tabs t (by refine M y ?_;exact g)) ?_;rintro m bq _);replace e:=a8.2▸e;cases e;exact⟨a8.isCodeTable,m,rfl,bq⟩
 have a9:∀b,Off T b∨∃t∈T,t.P=b:=fun b=>ahM (fun h=> .inr h) fun h=> .inl fun t g e=>h ⟨t,g,e⟩;refine⟨fun b o e=> ?_,fun b o e=> ?_⟩
 ·rcases a9 b with q |⟨t,g,rfl⟩
  ·exact .inl (a6 b o e q)
  ·(refine uN (a7 t g o e) ?_;rintro br m rfl L);exact .inr (.inl ⟨br,rfl,#[],m,rfl,by refine M L ?_;simp⟩)
 ·rcases a9 b with q |⟨t,g,rfl⟩
  ·exact⟨o,a6 b o e q⟩
  ·exact uN (a7 t g o e) fun J m J L=>⟨_,L⟩
end
section
theorem Qs{k x y:Z}(a:0 < k)(h:x≤y):x - x / k≤y - y / k:=by
 refine xe (qT (ag6.mpr h)) fun d b=> ?_;have e:y=x+(d:Z):=aS b (M (mP ..) (M (xn ..) V))
 have c:(x+(d:Z)) / k≤x / k+d:=by
  refine aS (xy x d (fB a)) <|SJ a (Bl ?_ x)
  have:=sA (show 1≤k from a) (cW d)
  rwa [gY] at this
 refine M e <|Int.le_sub_right_of_add_le (cK (Bl c _) (pC ?_))
 exact aS (sw ..) (M (xn ..) V)
theorem Ak{p q:Z}(h:p≤q):ia p≤ia q:=by
 have e:∀p:Z,p - p / 1460+p / 36524 - p / 146096=(p - p / 1460)+(p / 36524 - p / 36524 / 4):=fun p=>by refine M (Bc (by decide)) (M (Int.add_sub_assoc ..) ?_);rfl
 unfold ia;refine M (e p) (M (e q) ?_);exact SJ (by decide) (nq (Qs (by decide) h) (Qs (by decide) (SJ (by decide) h)))
noncomputable def eT(s:Z):Int:=365*s+s / 4 - s / 100+s / 400
theorem FQ(s a:Z):eT (s+400*a)=eT s+146097*a:=by
 have b:(s+400*a) / 4=s / 4+100*a:=by refine M (lL 4 100 a:400*a=4*(100*a)) ?_;exact xy _ _ (by decide)
 have c:(s+400*a) / 100=s / 100+4*a:=by refine M (lL 100 4 a:400*a=100*(4*a)) ?_;exact xy _ _ (by decide)
 have d:(s+400*a) / 400=s / 400+a:=xy _ _ (by decide);unfold eT;refine M b (M c (M d ?_));generalize s / 4=x;generalize s / 100=y;generalize s / 400=z;lia
theorem Qt:∀y < 399,ia (eT (y+1:aA) - 1)=(y:aA)∧ia (eT (y+1:aA))=(y+1:aA)∧eT (y+1:aA)≤eT (y:aA)+366:=by decide+kernel
theorem adT(p:Z)(h:0≤p∧p≤146096):∃n:aA,n < 400∧ia p=n∧eT n≤p∧p≤eT n+365:=by
 have f:0≤ia p:=Ak (p:=0) h.1;have c:ia p≤399:=Ak (q:=146096) h.2;refine xe (qT f) fun n a=> ?_;rw[a] at c;have b:n < 400:=dZ.mp (iV c (by decide));refine⟨n,b,a,i9.mp fun q=> ?_,i9.mp fun q=> ?_⟩
 ·cases n with
  |zero=>exact absurd h.1 (pB.mpr q)
  |succ m=>
   have:=Ak (xl q);rw[a,(Qt m (Hk b)).1] at this;exact absurd (cV.mp this) (Q5 m)
 ·by_cases d:n < 399
  ·refine iD (Qt n d) fun J g i=> ?_;have:=Ak (cK i (by have:=A8 q;rwa [sw] at this));rw[a,g] at this;exact absurd (cV.mp this) (Q5 n)
  ·have e:n=399:=Nat.le_antisymm (jy b) (jA.mp d);rw[e] at q;exact absurd (dM q h.2) (by decide)
theorem adU:∀l < 366,0≤(hL iS ((l:aA):Z) 2).1∧(hL iS ((l:aA):Z) 2).1≤30∧2≤(hL iS ((l:aA):Z) 2).2∧(hL iS ((l:aA):Z) 2).2≤13∧(153*((hL iS ((l:aA):Z) 2).2 - 2)+2) / 5+(hL iS ((l:aA):Z) 2).1=((l:aA):Z):=by decide+kernel
theorem adV:∀m < 14,2≤m→(((m:aA):Z) % 12).toNat < 12∧((((m:aA):Z) % 12).toNat:Z)=((m:aA):Z) % 12∧(((m:aA):Z) % 12+10) % 12=((m:aA):Z) - 2∧(((m:aA):Z) / 12=0∧¬((m:aA):Z) % 12 < 2∧2≤(((m:aA):Z) % 12).toNat∨((m:aA):Z) / 12=1∧((m:aA):Z) % 12 < 2):=by decide+kernel
theorem adW(p:Z)(h:0≤p∧p≤146096):∃c d f:aA,o6 p=((c:Z),(d:Z),(f:Z))∧d < 12∧(1≤f∧f≤31)∧c≤400∧(c=0→2≤d)∧∀n:Z,gR ((c:Z)+400*n) d f=(p+2) % 7:=by
 refine mT (adT p h) fun y i v C D=> ?_;have E:((y:aA):Z) / 400=0:=RT (cW _) (dZ.mpr i)
 have F:jY p=p - eT y:=by show p - 365*ia p - ia p / 4+ia p / 100=_;unfold eT;refine M v (M E ?_);generalize((y:aA):Z) / 4=a;generalize((y:aA):Z) / 100=b;lia
 obtain⟨l,j⟩:=qT (ag6.mpr C);have G:l < 366:=dZ.mp (by refine aS j ?_;exact Int.lt_add_one_of_le (afh D));refine jl (adU l G) fun w k s x z=>M (show o6 p=((ia p+(hL iS (jY p) 2).2 / 12),(hL iS (jY p) 2).2 % 12,(hL iS (jY p) 2).1+1) from rfl) (M F (M j (M v ?_)));generalize hL iS ((l:aA):Z) 2=q at w k s x z;obtain⟨r,m⟩:=q;obtain⟨m,rfl⟩:=qT (cK (by decide) s);obtain⟨r,rfl⟩:=qT w;refine dW (adV m (mh (cV.mp x)) (cV.mp s)) fun A g H I=> ?_;have K:p=eT y+l:=aS j (M (mP ..) (M (xn ..) V))
 have B:∀(S n:Z),S=(y:Z)+400*n→(eT S+(153*((((m:aA):Z) % 12+10) % 12)+2) / 5+((r:Z)+1)+1) % 7=(p+2) % 7:=fun S n e=>by refine M e (M (FQ ..) (M H (M K (aS z ?_))));show(eT y+146097*n+(153*((m:Z) - 2)+2) / 5+((r:Z)+1)+1) % 7=(eT y+((153*((m:Z) - 2)+2) / 5+(r:Z))+2) % 7;generalize(153*((m:Z) - 2)+2) / 5=o;refine aS (ags (eT y+(o+(r:Z))+2) 7 (20871*n)) (M (show 7*(20871*n)=146097*n from(lL 7 20871 n).symm) ?_);refine aT (· % 7) ?_;lia
 rcases I with⟨t,u,L⟩ |⟨t,u⟩
 ·refine⟨y,(((m:aA):Z) % 12).toNat,r+1,?_,A,⟨ov 1 r,sD (cV.mp k)⟩,fE i,fun J=>L,fun n=> ?_⟩
  ·show((y:Z)+((m:aA):Z) / 12,_,_)=_;refine M t (M g (M (Int.add_zero ..) ?_));rfl
  ·exact M g <|(aT (fun S=>(eT S+(153*((((m:aA):Z) % 12+10) % 12)+2) / 5+((r:Z)+1)+1) % 7) (aP u)).trans (B _ n V)
 ·refine⟨y+1,(((m:aA):Z) % 12).toNat,r+1,?_,A,⟨ov 1 r,sD (cV.mp k)⟩,i,(fun e=>F8 e),fun n=> ?_⟩
  ·show((y:Z)+((m:aA):Z) / 12,_,_)=_;refine M t (M g ?_);rfl
  ·exact M g <|(aT (fun S=>(eT S+(153*((((m:aA):Z) % 12+10) % 12)+2) / 5+((r:Z)+1)+1) % 7) (aR u)).trans (B _ n (by exact(M (HH ..) (M (agK ..) V):(y:Z)+1+400*n - 1=_)))
end
section
theorem Qu:∀(a:aD aA) (b:aD Z) (d r m:Z),(∀x∈a,c e x=f i (g x))→lp c e a b d r m=lp f i (a.map g) b d r m
 |[],_,_,_,_,_=>rfl| _::_,[],_,_,_,_=>rfl
 |x::a,r::b,d,k,m,h=>by refine M gH (M (DL V) (M (DL V) (aS (h x (iK ..)) ?_)));exact M (Qu a b _ _ _ fun y j=>h y (hU _ j)) V
theorem FR:∀(c:aD aA) (k:aA) (d:aD Z) (e:Z),(∀b∈c,∀x∈a,i b x=j (f b) (g x))→o8 i a l c k d e=o8 j (a.map g) l (c.map f) k d e
 |[],_,_,_,_=>rfl
 |b::c,k,d,e,h=>by refine M gH (M DM (M DM ?_));exact M (Qu a d _ _ _ (h b (iK ..))) (M (FR c (k+1) _ _ fun y m=>h y (hU _ m)) V)
theorem FS:∀(a b:aD aA),(∀x∈a,∀y∈b,(x=y↔g x=f y))→kG (a.map g) (b.map f)=((kG a b).1.map g,(kG a b).2.map f)
 |[],_,_=>rfl| _::_,[],_=>rfl
 |x::a,y::b,h=>by
  have c:=h x (iK ..) y (iK ..);refine M gH (M gH (M vY (M vY ?_)))
  by_cases e:x=y
  ·refine M (aR e) (M (aR (c.mp e)) ?_);exact FS a b fun u d v i=>h u (hU _ d) v (hU _ i)
  ·exact M (aP e) (M (aP (fun q=>e (c.mpr q))) (M gH (M gH V)))
theorem Al:∀(a b:aD aA),(∀x∈(kG a b).1,x∈a)∧(∀x∈(kG a b).2,x∈b)
 |[],_=>⟨fun J h=>((cO h).elim),fun J h=>h⟩| _::_,[] =>⟨fun J h=>h,fun J h=>((cO h).elim)⟩
 |x::a,y::b=>by
  refine M vY ?_
  by_cases e:x=y
  ·exact M (aR e) <|⟨fun u c=>hU _ ((Al a b).1 u c),fun u c=>hU _ ((Al a b).2 u c)⟩
  ·exact M (aP e) <|⟨fun u c=>c,fun u c=>c⟩
theorem map_eq_iff:∀(a b:aD aA),(∀x∈a,∀y∈b,(x=y↔g x=f y))→(a=b↔a.map g=b.map f)
 |[],[],_=>⟨fun J=>rfl,fun J=>rfl⟩|[],_::_,_=>⟨(fun h=>(by contradiction)),(fun h=>(by contradiction))⟩| _::_,[],_=>⟨(fun h=>(by contradiction)),(fun h=>(by contradiction))⟩
 |x::a,y::b,h=>by rw[gH,gH,Gq,Gq,h x (iK ..) y (iK ..),map_eq_iff a b fun u c v d=>h u (hU _ c) v (hU _ d)]
theorem Qv(n:Z)(h:∀x∈a,∀y∈b,(x=y↔g x=f y)∧i x y=um (g x) (f y)∧i y x=um (f y) (g x)):qt i a b n=qt um (a.map g) (b.map f) n:=by
 unfold qt
 by_cases e:a=b
 ·exact M (aR e) (M (aR ((map_eq_iff a b fun x c y d=>(h x c y d).1).mp e)) V)
 ·refine M (aP e) (M (aP fun q=>e ((map_eq_iff a b fun x c y d=>(h x c y d).1).mpr q)) ?_);simp only;refine M (FS a b fun x c y d=>(h x c y d).1) <|xa (Al a b) fun l m=> ?_
  generalize kG a b=p at l m;have t:∀x∈p.1.reverse,∀y∈p.2.reverse,(x=y↔g x=f y):=fun x c y d=>(h x (l x (pK.mp c)) y (m y (pK.mp d))).1;refine aS uB (aS uB (M (FS _ _ t) ?_));refine xa (Al p.1.reverse p.2.reverse) fun o r=> ?_;generalize kG p.1.reverse p.2.reverse=q at o r;simp only;refine aS uB (aS uB ?_);have j:∀x∈q.1.reverse,∀y∈q.2.reverse,i x y=um (g x) (f y)∧i y x=um (f y) (g x):=fun x c y d=>(h x (l x (pK.mp (o x (pK.mp c)))) y (m y (pK.mp (r y (pK.mp d))))).2;generalize q.1.reverse=u at j;generalize q.2.reverse=v at j;unfold y';refine M (bQ ..) (M (bQ ..) ?_);have s:(u.map g=[]∨v.map f=[])↔(u=[]∨v=[]):=or_congr ag7 ag7
  by_cases k:u=[]∨v=[]
  ·exact M (aR k) (M (aR (s.mpr k)) V)
  ·refine M (aP k) (M (aP fun q=>k (s.mp q)) ?_)
   split
   ·split
    ·rfl
    ·exact FR u 0 _ _ fun x c y d=>(j x c y d).1
   ·split
    ·rfl
    ·exact FR v 0 _ _ fun y d x c=>(j x c y d).2
theorem FT(g:aA→aA)(x:aD aA)(k:aA):iv (x.map g) k=(iv x k).map g:=by unfold iv;exact M iA (M qF (M Bg V))
theorem FU(x:aD aA)(k:aA):∀c∈iv x k,c∈x:=fun c a=>by
 rcases jD.mp a with h |h
 ·exact Ba h
 ·exact A9 h
theorem Qw{low:aD aA}(h:∀x∈r,∀y∈low,(x=y↔g x=f y)):dR (r.map g) (low.map f)=dR r low:=by
 have d:∀k,kF (r.map g) (low.map f) k=kF r low k:=fun k=>by
  unfold kF;refine M (bQ ..) (M (FT ..) (M (FT ..) ?_));have i:(if r.length=2 then r.map g else(iv r k).map g)=(if r.length=2 then r else iv r k).map g:=by split<;>rfl
  have j:(if r.length=4 then low.map f else(iv low k).map f)=(if r.length=4 then low else iv low k).map f:=by split<;>rfl
  refine M i (M j ?_)
  have l:∀c∈(if r.length=2 then r else iv r k),c∈r:=fun c a=>by
   split at a
   ·exact a
   ·exact FU r k c a
  have m:∀c∈(if r.length=4 then low else iv low k),c∈low:=fun c a=>by
   split at a
   ·exact a
   ·exact FU low k c a
  have:=map_eq_iff (g:=g) (f:=f) (if r.length=2 then r else iv r k) (if r.length=4 then low else iv low k) fun x n y o=>h x (l x n) y (m y o);generalize(if r.length=2 then r else iv r k)=u at this;generalize(if r.length=4 then low else iv low k)=v at this
  by_cases e:u=v
  ·exact M (beq_iff_eq.mpr e) (M (beq_iff_eq.mpr (this.mp e)) V)
  ·exact M (beq_eq_false_iff_ne.mpr e) (M (beq_eq_false_iff_ne.mpr fun q=>e (this.mpr q)) V)
 have p:∀b,ll (r.map g) (low.map f) b=ll r low b:=by
  intro b
  induction b with
  |nil=>rfl
  |cons k b ih=>
   exact(M (d ..) (M (bQ ..) (M ih rfl)):(if kF (r.map g) (low.map f) k=aF then(if k=0∧(r.map g).length < 4 then 2 else 3) else ll (r.map g) (low.map f) b)=(if kF r low k=aF then(if k=0∧r.length < 4 then 2 else 3) else ll r low b))
 unfold dR;refine M (p ..) ?_
 by_cases e:r=low
 ·exact M (aR e) (M (aR ((map_eq_iff r low h).mp e)) V)
 ·exact M (aP e) (M (aP fun q=>e ((map_eq_iff r low h).mpr q)) V)
theorem wN(r low:aD aA):1≤dR r low∧dR r low≤4∧(dR r low=1→r=low):=by
 have d:∀a,2≤ll r low a∧ll r low a≤4:=by
  intro a
  induction a with
  |nil=>exact(by decide:(2:Z)≤4∧(4:Z)≤4)
  |cons k a ih=>
   show 2≤(if kF r low k=aF then(if k=0∧r.length < 4 then(2:Z) else 3) else ll r low a)∧(if kF r low k=aF then(if k=0∧r.length < 4 then(2:Z) else 3) else ll r low a)≤4
   by_cases h:kF r low k=aF
   ·refine M (aR h) ?_
    by_cases b:k=0∧r.length < 4
    ·refine M (aR b) ?_;decide
    ·refine M (aP b) ?_;decide
   ·refine M (aP h) ?_;exact ih
 by_cases h:r=low
 ·refine M (show dR r low=1 from aR h) ?_;exact⟨by decide,by decide,fun J=>h⟩
 ·refine M (show dR r low=_ from aP h) <|xa (d [0,1,2,3]) fun c b=> ?_
  exact⟨cK (by decide) c,b,fun e=>absurd (e▸c) (by decide)⟩
end
section
noncomputable def mF(c d:aA):Int:=if c=d then 0 else if bA c=bA d then 1 else 2
theorem Qx(e:kK c)(f:kK d):cost c d=mF c d:=by
 have low:∀{c:aA},kK c→cD (one c)=one (bA c):=fun{c} h=>wq (l:=[c]) (by intro x g;refine M (fK.mp g) ?_;exact h.E7);have a:∀{c d:aA},one c=one d↔c=d:=fun{c d}=>⟨fun h=>by have:=aT wA h;exact this,fun h=>M h V⟩;unfold cost tL mF;refine M (low e) (M (low f) ?_)
 by_cases h:c=d
 ·exact M (aR h) (M (aR (a.mpr h)) V)
 ·refine M (aP h) (M (aP fun q=>h (a.mp q)) ?_)
  by_cases b:bA c=bA d
  ·exact M (aR b) (M (aR (a.mpr b)) V)
  ·exact M (aP b) (M (aP fun q=>b (a.mp q)) V)
noncomputable def Xs(x:aA):Prop:=(97≤x∧x≤122)∨x∈oh
theorem Xs.sgn(h:Xs x):kK x:=h.elim (fun h=> .inl (.inr h)) .inr
noncomputable def Am:aD Nat:=(mH 26).map (· +97)++oh
theorem Xs.mem(h:Xs x):x∈Am:=h.elim (fun h=>kR _ (iW.mpr ⟨x - 97,agR.mpr (Hv h.1 (mh h.2)),Ap h.1⟩)) (j5 _)
theorem adX(h:65≤a∧a≤90):bA a=a+32:=aR h
noncomputable def gS(z:Str)(x:aA):Nat:=if x=z.cps.getD 0 0+32 then 97 else if x=z.cps.getD 1 0 then 98 else if x=z.cps.getD 2 0 then 99 else if x=z.cps.getD 0 0 then 65 else 48
theorem wO:∀z∈cF++cH,(cD z).cps.toList.map (gS z)=[97,98,99]∧z.cps.toList.map (gS z)=[65,98,99]∧(∀s∈oh,gS z s=48)∧∀y∈z.cps.toList,(65≤y∧y≤90)∨(97≤y∧y≤122):=by decide+kernel
theorem Qy:∀z∈cF++cH,∀y∈(cD z).cps.toList,∀x∈Am,(x=y↔gS z x=gS z y):=by decide+kernel
theorem adY:∀z∈cF++cH,∀y∈z.cps.toList,∀x∈Am,(x=y↔gS z x=gS z y)∧mF x y=mF (gS z x) (gS z y)∧mF y x=mF (gS z y) (gS z x):=by decide+kernel
theorem Qz:∀z∈cF++cH,∀x∈Am,gS z x∈[97,98,99,48] :=by decide+kernel
theorem QA(b:z∈cF++cH)(a:Xs x)(y:aA)(c:y∈z.cps.toList):(x=y↔gS z x=gS z y)∧cost x y=mF (gS z x) (gS z y)∧cost y x=mF (gS z y) (gS z x):=by have d:kK y:= .inl ((wO z b).2.2.2 y c);refine M (Qx a.sgn d) (M (Qx d a.sgn) ?_);exact adY z b y c x a.mem
noncomputable def wP:aA→aD (aD aA)
 |0=>[[]]|n+1=>(wP n).flatMap fun t=>[97,98,99,48].map (· ::t)
theorem adZ(t:aD aA):(∀c∈t,c∈[97,98,99,48])→t∈wP t.length:=by
 induction t with
 |nil=>exact fun J=>iK ..|cons c t ih=>exact fun h=>SD.mpr ⟨t,ih fun x a=>h x (hU _ a),iW.mpr ⟨c,h c (iK ..),rfl⟩⟩
theorem ad0:∀t∈wP 2++wP 3++wP 4,jx (qt mF t [65,98,99] 3)=dR t [97,98,99]∧jx (qt mF [65,98,99] t 3)=dR t [97,98,99] :=by decide+kernel
theorem QB(f:z∈cF++cH)(g:∀c∈x,Xs c)(l:2≤x.length)(i:x.length≤4):
  jx (rE x z.cps.toList 3)=dR x (cD z).cps.toList∧jx (rE z.cps.toList x 3)=dR x (cD z).cps.toList:=by
 refine iD (wO z f) fun m o J=> ?_;unfold rE
 rw[Qv (um:=mF) (g:=gS z) (f:=gS z) 3 (fun u b y d=>QA f (g u b) y d),Qv (um:=mF) (a:=z.cps.toList) (g:=gS z) (f:=gS z) 3 (fun y d u b=>by exact iD (QA f (g u b) y d) fun j p q=>⟨⟨fun e=>(j.mp e.symm).symm,fun e=>(j.mpr e.symm).symm⟩,q,p⟩),o,←Qw (g:=gS z) (f:=gS z) (r:=x) (low:=(cD z).cps.toList) (fun u b y d=>Qy z f y d u (g u b).mem),m]
 have a:=adZ (x.map (gS z)) fun y d=>by(refine aQ (iW.mp d) ?_;rintro u b rfl);exact Qz z f u (g u b).mem
 rw[bQ] at a;refine ad0 _ <|xe (Nat.exists_eq_add_of_le l) fun k r=> ?_
 rw[r] at a i
 match k,i,a with
 |0,_,a=>exact kR _ (kR _ a)|1,_,a=>exact kR _ (j5 _ a)|2,_,a=>exact j5 _ a|n+3,h,_=>exact absurd h (Nat.not_le.mpr (by refine M (iz 2 ..) (M (iI ..) ?_);exact ov 5 n))
end
section
noncomputable def lB(n x:aD aA):Prop:=x=n∨(∃k < 3,x=iv n k)∨(∃k < 4,∃s,Xs s∧x=n.take k++s::n.drop k)∨(∃k < 3,∃s∈oh,x=n.set k s)
theorem ad1(d:Z)(b:aU):Xs (jI d b):=by
 refine xa (rW d b) fun a c=> ?_;rcases a with(h |h) |h
 ·rw[adX h] at c;omega
 ·exact .inl h
 ·exact .inr h
theorem ad2(d:Z):jI d aI∈oh:=by
 unfold jI
 have a:∀k:aA,k < 16→(jv.getD k 0).toNat∈oh:=fun k b=>iW.mpr ⟨jv.getD k 0,by refine M ik (M (fC (b:k < jv.length)) ?_);exact mj ..,rfl⟩
 exact a _ ((md (eD _ (by decide))).mpr (gJ _ (by decide)):(d % 16).toNat < 16)
theorem ad3(d:k < 3):lcs (([a,b,c].map fun c=>(aI,c)).set k (aF,v))=iv ([a,b,c].map bA) k:=
 qw (C:=fun k=>lcs (([a,b,c].map fun c=>(aI,c)).set k (aF,v))=iv ([a,b,c].map bA) k) d V rfl rfl
theorem ad4(d:k < 4):lcs (([a,b,c].map fun c=>(aI,c)).take k++(aI,s)::([a,b,c].map fun c=>(aI,c)).drop k)=([a,b,c].map bA).take k++bA s::([a,b,c].map bA).drop k:=
 wv (C:=fun k=>lcs (([a,b,c].map fun c=>(aI,c)).take k++(aI,s)::([a,b,c].map fun c=>(aI,c)).drop k)=([a,b,c].map bA).take k++bA s::([a,b,c].map bA).drop k) d V rfl rfl rfl
theorem ad5(d:k < 3):lcs (([a,b,c].map fun c=>(aI,c)).set k (aI,s))=([a,b,c].map bA).set k (bA s):=
 qw (C:=fun k=>lcs (([a,b,c].map fun c=>(aI,c)).set k (aI,s))=([a,b,c].map bA).set k (bA s)) d V rfl rfl
theorem QC(l:f.length=3)(d g:Z):lB (f.map bA) (lcs (jQ f d g))∧(d / 4 % 2≠g→lcs (jQ f d g)=f.map bA):=by
 obtain⟨a,b,c,rfl⟩:∃a b c,f=[a,b,c] :=by
  match f,l with
  |[a,b,c],_=>exact⟨a,b,c,rfl⟩
 by_cases i:d / 4 % 2≠g∨d % 4=0
 ·have e:lcs (jQ [a,b,c] d g)=[a,b,c].map bA:=aT lcs (aR i);exact⟨.inl e,fun J=>e⟩
 refine⟨?_,fun h=>absurd (Or.inl h) i⟩;have e:jQ [a,b,c] d g=_:=aP i
 by_cases j:d % 4=1
 ·exact .inr (.inl ⟨_,mD (m:=3) (by decide),(aT lcs (e.trans (aR j))).trans (ad3 (mD (m:=3) (by decide)))⟩)
 by_cases k:d % 4=2
 ·exact .inr (.inr (.inl ⟨_,mD (m:=4) (by decide),_,ad1 (d / 96) aF,((aT lcs (e.trans ((aP j).trans (aR k)))).trans (ad4 (mD (m:=4) (by decide)))).trans (by refine M ((rW (d / 96) aF).2) ?_;rfl)⟩))
 ·exact .inr (.inr (.inr ⟨_,mD (m:=3) (by decide),_,ad2 (d / 96),((aT lcs (e.trans ((aP j).trans (aP k)))).trans (ad5 (mD (m:=3) (by decide)))).trans (by refine M ((rW (d / 96) aI).2) ?_;rfl)⟩))
theorem lB.xs(h:lB n x)(a:∀c∈n,Xs c):∀c∈x,Xs c:=by
 intro c b;rcases h with rfl |⟨k,_,rfl⟩ |⟨k,_,s,d,rfl⟩ |⟨k,_,s,d,rfl⟩
 ·exact a c b
 ·exact a c (FU _ _ c b)
 ·rcases jD.mp b with h |h
  ·exact a c (Ba h)
  ·rcases gz.mp h with rfl |h
   ·exact d
   ·exact a c (A9 h)
 ·rcases ag5 b with h |rfl
  ·exact a c h
  ·exact .inr d
theorem QD(a:n.length=3)(b:k < 3):(iv n k).length=2:=by unfold iv;refine M bH (M ni (M iB (M a ?_)));exact qw (C:=fun k=>min k 3+(3 - (k+1))=2) b V rfl rfl
theorem QE{n:aD aA}(a:n.length=3){k s:aA}(b:k < 4):(n.take k++s::n.drop k).length=4:=by refine M bH (M j2 (M ni (M iB (M a ?_))));exact wv (C:=fun k=>min k 3+(3 - k+1)=4) b V rfl rfl rfl
theorem lB.len(h:lB n x)(a:n.length=3):2≤x.length∧x.length≤4:=by
 rcases h with e |⟨k,b,e⟩ |⟨k,b,s,c,e⟩ |⟨k,_,s,c,e⟩ <;>refine M e ?_
 ·refine M a ?_;decide
 ·refine M (QD a b) ?_;decide
 ·refine M (QE a b) ?_;decide
 ·refine M GL (M a ?_);decide
theorem lB.other(h:lB n x)(b:n.length=3)(d:x≠n)(f:m.length=3)(i:∀c∈m,c < 128):x≠m:=by
 intro q;rw[q] at h d;rcases h with e |⟨k,a,e⟩ |⟨k,a,s,g,e⟩ |⟨k,a,s,g,e⟩
 ·exact d e
 ·exact absurd (f.symm.trans ((aT ot e).trans (QD b a)):3=2) (by decide)
 ·exact absurd (f.symm.trans ((aT ot e).trans (QE b a)):3=4) (by decide)
 ·exact absurd (i s (by refine M e ?_;exact List.mem_set (by refine M b ?_;exact a) s)) (jA.mpr (uf _ g).2.2.2.1)
noncomputable def FV(n:aD aA):aD (aD aA):=n::([0,1,2].map (iv n)++[0,1,2,3].flatMap (fun k=>[97,98,99,48].map fun s=>n.take k++s::n.drop k)++[0,1,2].map fun k=>n.set k 48)
theorem lB.renamed(h:lB n x)(c:z∈cF++cH):x.map (gS z)∈FV (n.map (gS z)):=by
 have d:=(wO z c).2.2.1;have f:∀s,Xs s→gS z s∈[97,98,99,48] :=fun s a=>Qz z c s a.mem;generalize gS z=g at d f;have i:∀{k},k < 3→k∈[0,1,2] :=fun{k} h=>qw (C:=(· ∈[0,1,2])) h (by decide) (by decide) (by decide);rcases h with e |⟨k,b,e⟩ |⟨k,b,s,a,e⟩ |⟨k,b,s,a,e⟩ <;>refine M e ?_
 ·exact iK ..
 ·exact hU _ (kR _ (kR _ (iW.mpr ⟨k,i b,FT g n k⟩)))
 ·exact hU _ (kR _ (j5 _ (SD.mpr ⟨k,wv (C:=(· ∈[0,1,2,3])) b (by decide) (by decide) (by decide) (by decide),iW.mpr ⟨g s,f s a,by exact M iA (M gH (M qF (M Bg V)))⟩⟩)))
 ·exact hU _ (j5 _ (iW.mpr ⟨k,i b,by exact M xH (M (d s a) V)⟩))
noncomputable def wQ(i:aA):Str:=cF.getD i ⟨#[]⟩
noncomputable def uo(i:aA):Str:=cH.getD i ⟨#[]⟩
noncomputable def lD(i:aA):aD Nat:=(cD (wQ i)).cps.toList
noncomputable def kM(i:aA):aD Nat:=(cD (uo i)).cps.toList
noncomputable def uq:aD (aA×aA):=[(0,5),(2,3),(2,4),(3,2),(4,2),(5,0),(5,6),(6,5)]
theorem ad6:∀t∈FV [97,98,99],dR t [97,98,99]≤3:=by decide+kernel
theorem ad7:∀w < 7,∀i < 7,w≠i→dR (lD w) (lD i)=4:=by decide+kernel
theorem ad8:∀w < 12,∀i < 12,w≠i→3≤dR (kM w) (kM i):=by decide+kernel
theorem ad9:∀m < 12,∀j < 12,(FV ((kM m).map (gS (uo j)))).all (fun t=>decide (4≤dR t [97,98,99]) ||(decide (m=j) ||decide ((m,j)∈uq)))=true:=by decide+kernel
theorem rZ:∀i < 7,lD i=(jM i).map bA∧(lD i).length=3∧∀c∈lD i,97≤c∧c≤122:=by decide+kernel
theorem wR:∀i < 12,kM i=(jN i).map bA∧(kM i).length=3∧∀c∈kM i,97≤c∧c≤122:=by decide+kernel
theorem QF(h:i < 7):wQ i∈cF++cH∧wQ i∈cF:=by
 have:i < cF.length:=h
 have e:wQ i∈cF:=by unfold wQ;refine M ik (M (fC this) ?_);exact mj ..
 exact⟨kR _ e,e⟩
theorem An(h:i < 12):uo i∈cF++cH∧uo i∈cH:=by
 have:i < cH.length:=h
 have e:uo i∈cH:=by unfold uo;refine M ik (M (fC this) ?_);exact mj ..
 exact⟨j5 _ e,e⟩
theorem QG(a:z∈cF++cH)(b:∀c∈x,Xs c):dR x (cD z).cps.toList=dR (x.map (gS z)) [97,98,99] :=
 aS (Qw (g:=gS z) (f:=gS z) (r:=x) (low:=(cD z).cps.toList) (fun u d y e=>Qy z a y e u (b u d).mem)) (M ((wO z a).1) V)
theorem Ao{l:aD aA}(h:∀c∈l,97≤c∧c≤122):∀c∈l,Xs c:=fun c a=> .inl (h c a)
theorem QH{z:Str}(a:z∈cF++cH){x:aD aA}(b:∀c∈(cD z).cps.toList,97≤c∧c≤122)(h:lB (cD z).cps.toList x):dR x (cD z).cps.toList≤3:=by exact M (QG a (h.xs (Ao b))) <|ad6 _ ((wO z a).1▸h.renamed a)
theorem ad'{m j:aA}(c:m < 12)(a:j < 12){x:aD aA}(h:lB (kM m) x)(b:dR x (kM j)≤3):m=j∨(m,j)∈uq:=by have d:=h.xs (Ao (wR m c).2.2);have b:=cK (pC (QG (An a).1 d).symm) b;have:=j1.mp (ad9 m c j a) _ (h.renamed (An a).1);rw[eO fun q=>absurd (cK q b) (by decide),Bool.false_or] at this;exact(RH _ _▸this:_∨_).imp kP kP
theorem aea:∀r < 400,eT (r:aA)=eT ((r:aA)+ -1)+365∨eT (r:aA)=eT ((r:aA)+ -1)+366:=by decide+kernel
theorem aeb(y:Z):eT y=eT (y - 1)+365∨eT y=eT (y - 1)+366:=by
 have h:=aea (y % 400).toNat (mD (m:=400) (by decide));rw[kr (eD _ (by decide))] at h;have e:y % 400+400*(y / 400)=y:=aft y 400;have c:y - 1=y % 400+ -1+400*(y / 400):=by refine M (HH ..) (M e ?_);rfl
 have a:=FQ (y % 400) (y / 400);have b:=FQ (y % 400+ -1) (y / 400);rw[e] at a;rw[←c] at b;refine M a (M b ?_);exact h.imp (fun h=>by exact M h (M (HH ..) V)) fun h=>by exact M h (M (HH ..) V)
theorem off_ne{S:Z}(h:(x - y) % 7≠0):(S+x+d+1) % 7≠(S+y+d+1) % 7:=fun e=>h (by
 have:=Int.emod_eq_emod_iff_emod_sub_eq_zero.mp e
 rwa [show S+x+d+1 - (S+y+d+1)=x - y by omega] at this)
theorem aec(y d:Z)(a:(x - (365+z)) % 7≠0)(b:(x - (366+z)) % 7≠0):(eT (y - 1)+x+d+1) % 7≠(eT y+z+d+1) % 7:=by
 rcases aeb y with e |e<;>refine M e (M (sw (eT (y - 1)) _ z) ?_)
 ·exact off_ne a
 ·exact off_ne b
theorem aed{m j:aA}(h:(m,j)∈uq)(y d:Z):gR y (m:Z) d≠gR y (j:Z) d:=by
 have i:∀p∈uq,gR y (p.1:aA) d≠gR y (p.2:aA) d:=by
  have k:gR y (0:aA) d=(eT (y - 1)+306+d+1) % 7:=rfl;have a:gR y (2:aA) d=(eT y+0+d+1) % 7:=rfl;have l:gR y (3:aA) d=(eT y+31+d+1) % 7:=rfl;have n:gR y (4:aA) d=(eT y+61+d+1) % 7:=rfl;have b:gR y (5:aA) d=(eT y+92+d+1) % 7:=rfl;have o:gR y (6:aA) d=(eT y+122+d+1) % 7:=rfl;have c:gR y (0:aA) d≠gR y (5:aA) d:=by refine M k (M b ?_);exact aec y d (by decide) (by decide)
  have e:gR y (2:aA) d≠gR y (3:aA) d:=by refine M a (M l ?_);exact off_ne (by decide)
  have f:gR y (2:aA) d≠gR y (4:aA) d:=by refine M a (M n ?_);exact off_ne (by decide)
  have g:gR y (5:aA) d≠gR y (6:aA) d:=by refine M b (M o ?_);exact off_ne (by decide)
  exact jh.mpr ⟨c,jh.mpr ⟨e,jh.mpr ⟨f,jh.mpr ⟨e.symm,jh.mpr ⟨f.symm,jh.mpr ⟨c.symm,jh.mpr ⟨g,jh.mpr ⟨g.symm,fun J h=>(cO h).elim⟩⟩⟩⟩⟩⟩⟩⟩
 exact i (m,j) h
end
section
theorem QI(h:jx p=n)(a:1≤n):1≤p:=by
 by_cases c:4 < p
 ·exact cJ (uD (by decide) c)
 ·rw[←h] at a;exact(show jx p=p from aP c)▸a
theorem aee(b:jx p=n)(d:jx q=m)(g:1≤n)(i:1≤m):p+q≤4↔n+m≤4:=by
 have j:=QI b g;have k:=QI d i;have a:∀{x y:Z},4≤x→1≤y→¬x+y≤4:=fun l o h=>absurd (cK (nq l o) h) (by decide)
 by_cases c:4 < p
 ·have e:n=4:=b.symm.trans (aR c);exact iff_of_false (a (cJ c) k) (a (pC e.symm) i)
 ·by_cases f:4 < q
  ·have e:m=4:=d.symm.trans (aR f);refine M (mP p ..) (M (mP n ..) ?_);exact iff_of_false (a (cJ f) j) (a (pC e.symm) g)
  ·rw[←b,←d,show jx p=p from aP c,show jx q=q from aP f]
theorem map_getD{f:Str→Z}{l:aD Str}{i:aA}(h:i < l.length):(l.map f).getD i 0=f (l.getD i ⟨#[]⟩):=by refine M ik (M ik (M ij (M (fC h) ?_)));rfl
theorem aef(D:bU)(a:D.Ok)(I:gW D.c4≤1048600)(p:gR D.yr D.mo D.dy=D.wd)(K:D.yr=0→2≤D.mo):D.Fact:=by
 refine xa (QC (t9 a.bw) D.c2 0) fun f k=>xa (QC (ua a.bm) D.c2 1) fun g m=> ?_;rw[←(rZ D.wd a.bw).1] at f k;rw[←(wR D.mo a.bm).1] at g m;have f:lB (lD D.wd) (lcs D.r1):=f;have g:lB (kM D.mo) (lcs D.r2):=g;have k:D.c2 / 4 % 2≠0→lcs D.r1=lD D.wd:=k;have m:D.c2 / 4 % 2≠1→lcs D.r2=kM D.mo:=m;have L:=f.xs (Ao (rZ D.wd a.bw).2.2);have N:=g.xs (Ao (wR D.mo a.bm).2.2);have x:=f.len (rZ D.wd a.bw).2.1;have y:=g.len (wR D.mo a.bm).2.1;have A:∀z∈cF,jx (D.p1 z)=dR (lcs D.r1) (cD z).cps.toList:=fun z r=>(QB (kR _ r) L x.1 x.2).1;have B:∀z∈cH,jx (D.p2 z)=dR (lcs D.r2) (cD z).cps.toList:=fun z r=>(QB (j5 _ r) N y.1 y.2).2
 have sum:∀i j:aA,i < 7→j < 12→((cF.map D.p1).getD i 0+(cH.map D.p2).getD j 0≤4↔dR (lcs D.r1) (lD i)+dR (lcs D.r2) (kM j)≤4):=fun i j d b=>by refine M (map_getD (d:i < cF.length)) (M (map_getD (b:j < cH.length)) ?_);exact aee (A _ (QF d).2) (B _ (An b).2) (wN (lcs D.r1) (lD i)).1 (wN (lcs D.r2) (kM j)).1
 have P:dR (lcs D.r1) (lD D.wd)≤3:=QH (QF a.bw).1 (rZ D.wd a.bw).2.2 f;have Q:dR (lcs D.r2) (kM D.mo)≤3:=QH (An a.bm).1 (wR D.mo a.bm).2.2 g;have E:∀j,j < 12→dR (lcs D.r2) (kM j)≤3→D.mo=j∨(D.mo,j)∈uq:=fun j b h=>ad' a.bm b g h;have F:∀{l:aD aA},dR l l=1:=fun{l}=>aR V;refine⟨A,B,fun i j d b h=> ?_,fun i j d b=>⟨fun⟨h,s⟩=> ?_,fun⟨n,t⟩=> ?_⟩,I⟩
 ·rw[sum i j d b] at h;have u:=wN (lcs D.r1) (lD i);intro⟨R,v⟩;have v:j=1:=pM.mp (kN v (by decide));subst v;rcases E 1 (by decide) (by lia) with e |e
  ·have:=K (pM.mp (kN R (by decide)));lia
  ·simp[uq] at e
 ·rw[sum i j d b] at h;have u:=wN (lcs D.r1) (lD i);have a0:=wN (lcs D.r2) (kM j)
  by_cases n:lcs D.r1=lD D.wd
  ·
   rw[n] at h u
   have G:i=D.wd:=AD fun w=>by have:=ad7 D.wd a.bw i d (Ne.symm w);lia
   refine⟨G,?_⟩;rcases E j b (by lia) with e |e
   ·exact e.symm
   ·have:=aed e D.yr D.dy;rw[p,s,G] at this;exact absurd rfl this
  ·
   have o:D.c2 / 4 % 2=0:=AD fun q=>n (k q);have t:=m (SI (iV (pC o) (by decide)));rw[t] at h
   have a3:dR (lcs D.r1) (lD i)≠1:=fun q=>by have:=u.2.2 q;exact lB.other f (rZ D.wd a.bw).2.1 n (rZ i d).2.1 (fun c U=>cC ((rZ i d).2.2 c U).2 (by decide)) this
   have H:j=D.mo:=AD fun w=>by have:=ad8 D.mo a.bm j b (Ne.symm w);lia
   refine⟨?_,H⟩;rw[H,p] at s;exact Eq.symm (pM.mp s)
 ·subst n t;refine⟨(sum D.wd D.mo d b).mpr ?_,p⟩
  by_cases o:D.c2 / 4 % 2=0
  ·refine M (m (SI (iV (pC o) (by decide)))) (M F ?_);exact A8 (iV P (by decide))
  ·refine M (k o) (M F ?_);exact cK (Bl Q _) (by decide)
theorem aeg:Qr:=by
 intro ns b c d
 obtain⟨c0,c1,c2,c3,c4,c5,rfl⟩:∃c0 c1 c2 c3 c4 c5,b=[c0,c1,c2,c3,c4,c5] :=
  Td c
 refine oK (adW (c0 % 146097) (by lia)) fun y0 mo dy e f g m i j=> ?_
 let D:bU:={ns:=ns,c0:=c0,c1:=c1,c2:=c2,c3:=c3,c4:=c4,c5:=c5,wd:=((c0 % 146097+2) % 7).toNat,yr:=((y0:Z)+400*(c0 / 146097 % 30)).toNat,y0:=y0,mo:=mo,dy:=dy,zi:=(c1 / 86400 % 4).toNat,hh:=(c1 % 86400 / 3600).toNat,mi:=(c1 % 86400 / 60 % 60).toNat,se:=(c1 % 86400 % 60).toNat}
 have a:D.Ok:=by
  refine⟨?_,e,?_,?_,?_,?_,?_,?_,?_,f,g,?_,?_,?_,?_⟩
  ·exact(kr (eD _ (by decide))).symm
  ·exact(kr (qK (cW _) (oE (by decide) (eD _ (by decide))))).symm
  ·exact(kr (eD _ (by decide))).symm
  ·exact(kr (kQ (eD _ (by decide)) (by decide))).symm
  ·exact(kr (eD _ (by decide))).symm
  ·exact(kr (eD _ (by decide))).symm
  ·exact((md (eD _ (by decide))).mpr (gJ _ (by decide)):((c0 % 146097+2) % 7).toNat < 7)
  ·show((y0:Z)+400*(c0 / 146097 % 30)).toNat < 20000;lia
  ·exact((md (eD _ (by decide))).mpr (gJ _ (by decide)):(c1 / 86400 % 4).toNat < 4)
  ·show(c1 % 86400 / 3600).toNat < 24;lia
  ·exact((md (eD _ (by decide))).mpr (gJ _ (by decide)):(c1 % 86400 / 60 % 60).toNat < 60)
  ·exact((md (eD _ (by decide))).mpr (gJ _ (by decide)):(c1 % 86400 % 60).toNat < 60)
 have k:(D.yr:Z)=(y0:Z)+400*(c0 / 146097 % 30):=a.hy.symm;have l:(D.wd:Z)=(c0 % 146097+2) % 7:=a.hw.symm;refine⟨D,rfl,rfl,a,aef D a (d c4 (by simp)) ?_ fun h=> ?_⟩
 ·refine M k (M l ?_);exact j (c0 / 146097 % 30)
 ·refine i ?_;lia
theorem aeh:lw.Holds:=Ww (adS aeg)
end
end
end gK
theorem PySem.Challenge.cw_uc0066_01_holds : PySem.Challenge.rw_uc0066_01.Holds :=
 gK.aeh
