import PyProof.Rows.All
import OpenK.KMore
import KE.KDflt
import KE.KDictIter
import KE.KSortKey
import KE.KSortAsk
import KE.KSortTup
import KE.KSuperObj
import Wide.FinOn
import OpenK.AllK
import Wide.All
import PySem.Challenge.RW_kt0046_01
set_option linter.all false
set_option Elab.async true
set_option maxRecDepth 100000
set_option maxHeartbeats 8000000
namespace Rg
open PySem PySem.W PyProof.Rows PySem.Spec PySem.Calls
open _root_.PySem renaming wpAny_bind->ae,wpAny_pure->ah,Value->ai,Shared->aj,wpAny->ak,model->aq,builtinLookup_eq_fast->ay,Builtin->aA,wpAny_holding->aB,starEach->aC,typeLookup_type->aF,Around->aM,wpAny_mono->aN,mainGlobals->aO,rawInt->aQ,compEnvC->aX,wpAny_Assign_Name->aZ,typeLookup->bj,Program->br,wpAny_execs_nil->bz,codeAny_builtin->bB,wpAny_newObj_type->bC,sizeLine->bF,isSubtype_type->bK,wpAny_standAt->bO,World->bR,keywordEach->bX,plainId_quiet->bY,strValues->b9,builtinsNs->cu,wpAny_of_eq->cH,backTo->cI,foldedSetIterable->cO,entryFor_of_tree->cX,compareOp->dw,DictEntry->dz,wpAny_seqItems->dH,wpAny_loadPart'->dK,checkBuiltinCall->dY,wpAny_call_entry->dZ,wpAny_askSetting->d7,callWith->eF,backToKw->eG,wpAny_specialOf->eJ,codeAny->eO,wpAny_setField_rec->eS,wpAny_Return_some->eU,isSubtype->eV,wpAny_callSpecial?_slot->eW,argBest->eX,codeAmong->eY,closureFor->ff,wpAny_call->fg,wpAny_updateSeq->fj,entryFor->fD,wpAny_field->fL,wpAny_tryCatch->fW,specialOf->gb,wpAny_letGo->gh,sizeLine_eq->gi,argsOk->gk,OsState->gq,bindArgs->gw,Fin->gz,wpAny_load->gC,pyNext->gD,codeAny_of_tree->gJ,Arguments->gK,wpAny_attempt->gO,ClassData->gQ,wpAny_setState_of->gY,execs->ik,subscripted->iu,richCompare->iw,wpAny_newTuple->iz,cellsFrom->iH,TriplesOk->iI,Scope->iK,NameKind->jd,letOwnedTupleGo->jf,wpAny_rule->ji,wpAny_Call_method_lateS->jq,bm_if_false->jr,cStatics->jM,wpAny_pyIter_list->jN,wpAny_pyNext_list_item->jO,plainObj_wpAny_Assign_Attribute->j6,table->kg,typeIs_str->kq,call_meets->kr,seqItems?->ku,wpAny_loadName_local->kR,typeOf->k6,Drawn->lH,bootBuiltins->lV,getItem->lW,storeName->l6,pickOrder->l7,wpAny_Name->mz,binaryOp->mE,newFunctionEnv->mF,sysModules->mH,assign->nv,wpAny_assign_Name->nK,operate->nM,wpAny_truthy_bool->nN,leaving->nO,wpAny_point->nQ,wpAny_comprehension_free->nZ,swapsWithSole->n7,swappedStores->n8,clipAt->oh,Model->o9,wpAny_Try_except->pC,updateSeq->pD,setField->pF,Result->qc,clipAt_nat->qe,setsByText->qf,setAddHashed->qg,wpAny_mkText->ql,leftWithCleanup->qJ,codeAny_call_function->qY,assign->sf,wpAny_newFunctionEnv->sj,wpAny_nsGet->sA,unsupported->sD,wpAny_mkStr->sF,spliced->sJ,getAttr->sR,builtinType_eq_fast->tU,wpAny_onRaise->um,pyIter->uJ,standAt->w7,holding->w9,Keyword->xd,callSpecial?->xn,swapsWith->ya,noteFrame->yb,opaqueClassAbove->yc,wpAny_updatePart->yd,cLine->zd,again->ze,Ctx->zf,leftWithCleanup_false_of_bare->zg,theTreesLotGoes->Au,callAny->AD,wpAny_Compare1->Cf,wpAny_If->Cg,evalPart->Ck,IsPart->Cm,entryFor_alias->Cn,SetTable->Co,wpAny_Expr->Cr,bindName->Cs,wpAny_cRoomFor->Ct,wpAny_loadPart->Cu,wpAny_fieldsOf->Cv,qualnameIn->Cw,assignInOrder->Ew,attributeBase->Ey,ExceptHandler->EA,signature?_of->EC,checkTypeCall->ED,wpAny_newList->EG,Walks->FD,wpAny_For->FE,mroOf->FF,codeAny_func->Hw,call_type_of->Hz,wpAny_typeOf->HA,richCompare_meets_room->HB,wpAny_storeName_local->HV,wpAny_isTrue_Compare1->HW,wpAny_pyNext_list_end->HZ,loadName->KV,FuncData->KW,wpAny_fresh->KY,wpAny_noted->KZ,intText?->K3,slicePicked->K4,Meets->K7,interactive->K8,builtinType->Lb,wpAny_mkInt->Lc,classOwn->Ld,bindSpecial->Le,wpAny_alloc->Lg,wpAny_loadName_cell->LA,wpAny_loadName_free->LB,ks_wpAny_isType_cls->LC,truthy->NK,mroOf_type->NP,call_function_tree->NR,slot_listiter_next->NS,buildClass->NW,arm_eval_Attribute->NZ,codeAny_whileLoop->OX,wpAny_pyIter_slot->O0,object_init_meets->O1,richCompare_gives->O2,setWalk->O3,callerA->O7,classAt->O8,slicePick->RC,wpAny_isInstance->RG,wpAny_eqBool_str->RK,callGetattribute->RL,wpAny_enterFrame->RM,wpAny_lookBehind->RO,call->RQ,entryFor_of_fast->RT,IsL->Sw,getAttrByItsOwn->SD,updateBytearray->SE,recursionLimit->Ve,compTurn->Vf,compPost->Vg,letTemporaryGo->Vl,field->Vn,isSubtype_stop->Vo,callType_codes->Vp,newSet->Vq,setAddHashedIn->Vr,setState->Vs,firstArgMember->Vt,boundAndCalled->Vx,checkBoundCall->Vy,localGet->Vz,fastBuiltinOwn->VA,wpAny_is_plain->VD,keeperOf->VF,mkStr->VG,Params->VH,behindInMarks->Wr,evalPart_none->Wu,annotationsOf->Wv
open _root_.PySem.Heap renaming get?_push_of_some->av,lt_size->az,get?_push_size->aJ,get?_update_self->bu,size_push->bG,SameBut->cz,get?_update_other->cA,ExtBut->gM,get?_none_of_le->gP,size_after_update->AB,FlyingW->Pb
open _root_.Option.some renaming inj->aH
open _root_.Bool renaming false_ne_true->aI,false_eq_true->aV,and_eq_true_iff->cP,false_and->kW,eq_false_iff->lX,not_eq_true'->sM,not_not->sO,and_false->xu,and_eq_true->H6,or_eq_true->K5,true_and->NN,or_false->NQ,not_true->NV,and_true->NY,true_or->O5
open _root_.PySem.Str renaming ofString->aR,join->cg,empty->gm,ofString->pG,length_append->tS,ext'->Ez
open _root_.Int renaming natCast_nonneg->aS,ofNat_lt->cf,toNat_natCast->cj,not_lt->dJ,le_trans->d9,ofNat_le->fh,fmod_nonneg_of_pos->fk,toNat->hU,lt_of_le_of_lt->iP,eq_ofNat_of_zero_le->iR,ofNat->kX,fmod_lt_of_pos->k8,toNat_lt->n5,ne_of_gt->n6,lt_iff_le_and_ne->qh,toNat_of_nonneg->qZ,succ_ofNat_pos->sq,lt_of_lt_of_le->su,le_of_lt->tP,lt_irrefl->Av,neg_add_cancel_left->AA,ofNat_sub->OW,toNat_sub->OZ,add_comm->RA,ne_of_lt->RU,le_refl->Sz,not_le->Vd
open _root_.PySem.W renaming tabObj->aT,Looks->bk,dictOf->cy,hideAll->cB,instObj->cL,emptyDict->cM,kqdOk->cW,DatAll->dG,DatIn->eI,hideAll_get->eL,kas_place->fP,findIn->fZ,nd_pure->gj,listOf->gE,kas_sort->iy,specialIn->iJ,CodeHd->iQ,kas_desc->jQ,typeIn->jR,plainGet_of->kU,kas_asc->lZ,kqd_lay->qd,nd_load->qk,hideAll_none->qm,kas_rev->sQ,kqd_in->uL,kas_bin->xj,takerIn->xo,hideAll_size->xq,keepIn->ye,kqd_layL->Cj,plainGet->Cy,of_hideAll->CA,methodCall_KW->EH,plainOver->FH,mg_of->FJ,kqd_all->Hy,WellAll->HJ,typeIs_bytes->HP,recIn->Lf,same->Lk,codeHd_of_K->Ll,check_slot->NU,WData->O9,kas_tail3->RI,kas_count->RJ,wellAll_cons_inv->RV,kqdPs->Vj,kat_cons->Vw,instIn->VB,handedIn->VC,GoodWG->VE,codeHdIn->VI
open _root_.PySem.W.Looks renaming of_pure->aU,ld->cT,andThen->iA,of_peek->LG
open _root_.PySem.Around renaming under_plainId->aY
open _root_.ForInStep renaming yield->be
open _root_.Option renaming map_eq_some_iff->bg,eq_none_iff_forall_ne_some->fJ,isSome_iff_exists->ia,map->qI
open _root_.PySem.PyData renaming strOk->bA,keyHash->dP,eqv->qF,str->CF,int->CH,depthAll->Hx
open _root_.PySem.Heap.SameBut renaming update->bH,refl->Su
open _root_.PySem.NameKind renaming free->bS,globalImplicit->xm,cell->Hv
open _root_.PyProof.Rows renaming callWith_builtin1->bV,callWith_type1->cD,seqObj->dO,spliced_more->eE,listItems_at->eH,assignInOrder_cons->iD,assignInOrder_nil->iL,kws_nil->iT,get?_update_seq->jg,spliced_more->jW,Call_->kT,callWith_def_at->kZ,kws_cons->lI,listUpdate_at->oq,assign_Tuple_tuple->pq,callWith_method1->pA,Assign_Tuple->sr,oneType'->sy,isTrue_and->uK,keyLt'->uN,SortKind->Ce,Subscript_->Ci,Tuple_->Hu,seqEpoch_at->K9,callWith_kw->Li,bubble->NT,truthy_tuple->So,stripBy_eq->Sp,neg_int->Sq,bindName_->Sx,Assign_Tuple_swapped->Sy,tail_any->Vh,IsTup->Vi,reads_tuple_at->Vk,failedOf->Vu,keyLt'_oneType->Vv,reads_list_at->Ws
open _root_.PySem.Calls renaming spliced_nil->bW,evalArgs_plain->gx,Name_function_global->iq,loadGlobal_builtin->mD,call_function_entry->tT,call_len_list->Wt
open _root_.Array renaming length_toList->bZ,getElem?_eq_getElem->eA,getD_eq_getD_getElem?->gB,toList_inj->tQ,getElem?_eq_none->Ax,forIn_toList->EE,getD->EF,any_toList->HF,size_push->HY
open _root_.PySem.Obj renaming mapSeq->cC,mapFields->mG,mapBytearray->uO,data_mapFields->HE,mapCls->HG,dropName->RP
open _root_.PySem.Value renaming ref->cY,bool->w6
open _root_.PySem.Code renaming quiet_builtin->eK
open _root_.PySem.W.DatAll renaming mono->eN
open _root_.PySem.W.Dat.str renaming inj->gF
open _root_.PySem.W.Dat renaming int->iM,list->qn,str->qG
open _root_.PySem.Sem renaming wp_mono->iS,wp_bind'->Cz,wp_cmd_standAt->HK,wp_holding->N1,wp_pure'->RS
open _root_.PySem.Txt renaming startswith->jh,endswith->tO,rfind->uM,rstripChars->xe
open _root_.PySem.Bind renaming madeBy->jX,staticBase->u7,checkArgs->xx
open _root_.PySem.F renaming slot_list_append->k7,plainAttrs_list->lY,slot_list_insert->xg,type_list_append->xh
open _root_.PySem.W.KBy renaming picked->lg
open _root_.PySem.W.DatIn renaming tuple->lG,mono->nq,list->nu,int->SG
open _root_.PySem.Builtin.Bytes renaming slotIsOwn->nU,buffer?->qK,checkCodecArg->CJ,ownRelease->HM,subscript?->HN,sliceParts->HO,exported->Lh
open _root_.PySem.W.Dat.int renaming inj->oj
open _root_.PySem.StrLaws renaming sliceText->pB,subAt_one->RE
open _root_.PySem.W.KasT renaming ret->pV
open _root_.PySem.W.Dat.list renaming inj->qH
open _root_.PySem.W.WTm renaming value->qL,holds->Lj
open _root_.Array.Perm renaming refl->ri
open _root_.PySem.Manifest renaming find?->uo
open _root_.Classical renaming byContradiction->uq,em->HD
open _root_.PySem.Heap.IsSliceOf renaming new->u6
open _root_.PySem.Keeper renaming machine->vd,frame->zh,boundFrame->EI
open _root_.PySem.W.WData renaming list->xr,layableAll->HH
open _root_.PySem.AutoSeq1 renaming sub_list_list->xw,list_insert_list_int_val_1->O4
open _root_.PySem.BindsTo renaming of_defaults->AE
open _root_.PySem.IsL renaming update->Cq
open _root_.PySem.Value.type renaming inj->CG
open _root_.PySem.callAny renaming viaDunder->CI
open _root_.String renaming splitOnAux->EB,splitOn->HX,ofList->K6
open _root_.PySem.SetTable renaming below->FG
open _root_.PySem.W.FB renaming slot_bytes_decode->FI
open _root_.PySem.Builtin renaming noteSubclassOfBuiltin->H7
open _root_.PySem.ExcName renaming means->H8
open _root_.Std.Legacy.Range renaming forIn_eq_forIn_range'->LD,size->LF
open _root_.PySem.SeqAt renaming shaped->NL,readOf->Vm
open _root_.PySem.Challenge renaming pw_kt0046_01->NO
open _root_.PySem.Builtin.Slots renaming mangle->NX,read->RN
open _root_.PySem.W.KIN renaming num_reads->OY
open _root_.PySem.Builtin.Bytes.exported renaming match_1->O6
open _root_.PySem.Slot renaming of->Pa
open _root_.PySem.Walks renaming list->RB
open _root_.PySem.IsiPair renaming str_bytes->RD
open _root_.PySem.Reads renaming bool->RH,str->Ss,int->SA
open _root_.PySem.Data renaming cls->Ww
theorem ea {p1:Prop} {p2:Prop} {r:Prop} (h:p1/\p2) (f:p1->p2->r):r:=by
 obtain ⟨y0,y1⟩:=h;exact f y0 y1
theorem ex {cR:Sort _} {p1:cR->Prop} {r:Prop} (h: ∃x1,p1 x1) (f: ∀x1,p1 x1->r):r:=by
 obtain ⟨y0,y1⟩:=h;exact f y0 y1
theorem xy {p1:Prop} {p2:Prop} {p3:Prop} {r:Prop} (h:p1/\p2/\p3) (f:p1->p2->p3->r):r:=by
 obtain ⟨y0,y1,y2⟩:=h;exact f y0 y1 y2
theorem Wx {cR:Sort _} {p1:Prop} {p2:cR->Prop} {r:Prop} (h:p1/\∃x1,p2 x1) (f:p1->∀x1,p2 x1->r):r:=by
 obtain ⟨y0,y1,y2⟩:=h;exact f y0 y1 y2
theorem bQ {cR:Sort _} {p1:cR->Prop} {p2:cR->Prop} {r:Prop} (h: ∃x1,p1 x1/\p2 x1) (f: ∀x1,p1 x1->p2 x1->r):r:=by
 obtain ⟨y0,y1,y2⟩:=h;exact f y0 y1 y2
theorem HQ {cR:Sort _} {eT:Sort _} {p1:cR->eT->Prop} {r:Prop} (h: ∃x1,∃x2,p1 x1 x2) (f: ∀x1,∀x2,p1 x1 x2->r):r:=by
 obtain ⟨y0,y1,y2⟩:=h;exact f y0 y1 y2
theorem ve {p1:Prop} {p2:Prop} {p3:Prop} {p4:Prop} {r:Prop} (h:p1/\p2/\p3/\p4) (f:p1->p2->p3->p4->r):r:=by
 obtain ⟨y0,y1,y2,y3⟩:=h;exact f y0 y1 y2 y3
theorem Wy {cR:Sort _} {p1:Prop} {p2:cR->Prop} {p3:cR->Prop} {r:Prop} (h:p1/\∃x1,p2 x1/\p3 x1) (f:p1->∀x1,p2 x1->p3 x1->r):r:=by
 obtain ⟨y0,y1,y2,y3⟩:=h;exact f y0 y1 y2 y3
theorem iU {cR:Sort _} {p1:cR->Prop} {p2:cR->Prop} {p3:cR->Prop} {r:Prop} (h: ∃x1,p1 x1/\p2 x1/\p3 x1) (f: ∀x1,p1 x1->p2 x1->p3 x1->r):r:=by
 obtain ⟨y0,y1,y2,y3⟩:=h;exact f y0 y1 y2 y3
theorem nV {cR:Sort _} {eT:Sort _} {p1:cR->eT->Prop} {p2:cR->eT->Prop} {r:Prop} (h: ∃x1,∃x2,p1 x1 x2/\p2 x1 x2) (f: ∀x1,∀x2,p1 x1 x2->p2 x1 x2->r):r:=by
 obtain ⟨y0,y1,y2,y3⟩:=h;exact f y0 y1 y2 y3
theorem d8 {cR:Sort _} {eT:Sort _} {jU:Sort _} {p1:cR->eT->jU->Prop} {r:Prop} (h: ∃x1,∃x2,∃x3,p1 x1 x2 x3) (f: ∀x1,∀x2,∀x3,p1 x1 x2 x3->r):r:=by
 obtain ⟨y0,y1,y2,y3⟩:=h;exact f y0 y1 y2 y3
theorem rj {p1:Prop} {p2:Prop} {p3:Prop} {p4:Prop} {p5:Prop} {r:Prop} (h:p1/\p2/\p3/\p4/\p5) (f:p1->p2->p3->p4->p5->r):r:=by
 obtain ⟨y0,y1,y2,y3,y4⟩:=h;exact f y0 y1 y2 y3 y4
theorem lj {cR:Sort _} {p1:cR->Prop} {p2:cR->Prop} {p3:cR->Prop} {p4:cR->Prop} {r:Prop} (h: ∃x1,p1 x1/\p2 x1/\p3 x1/\p4 x1) (f: ∀x1,p1 x1->p2 x1->p3 x1->p4 x1->r):r:=by
 obtain ⟨y0,y1,y2,y3,y4⟩:=h;exact f y0 y1 y2 y3 y4
theorem N2 {cR:Sort _} {eT:Sort _} {p1:cR->Prop} {p2:cR->Prop} {p3:cR->eT->Prop} {r:Prop} (h: ∃x1,p1 x1/\p2 x1/\∃x2,p3 x1 x2) (f: ∀x1,p1 x1->p2 x1->∀x2,p3 x1 x2->r):r:=by
 obtain ⟨y0,y1,y2,y3,y4⟩:=h;exact f y0 y1 y2 y3 y4
theorem qo {cR:Sort _} {eT:Sort _} {p1:cR->eT->Prop} {p2:cR->eT->Prop} {p3:cR->eT->Prop} {r:Prop} (h: ∃x1,∃x2,p1 x1 x2/\p2 x1 x2/\p3 x1 x2) (f: ∀x1,∀x2,p1 x1 x2->p2 x1 x2->p3 x1 x2->r):r:=by
 obtain ⟨y0,y1,y2,y3,y4⟩:=h;exact f y0 y1 y2 y3 y4
theorem oz {cR:Sort _} {eT:Sort _} {jU:Sort _} {p1:cR->eT->jU->Prop} {p2:cR->eT->jU->Prop} {r:Prop} (h: ∃x1,∃x2,∃x3,p1 x1 x2 x3/\p2 x1 x2 x3) (f: ∀x1,∀x2,∀x3,p1 x1 x2 x3->p2 x1 x2 x3->r):r:=by
 obtain ⟨y0,y1,y2,y3,y4⟩:=h;exact f y0 y1 y2 y3 y4
theorem oA {cR:Sort _} {eT:Sort _} {p1:Prop} {p2:cR->eT->Prop} {p3:cR->eT->Prop} {p4:cR->eT->Prop} {r:Prop} (h:p1/\∃x1,∃x2,p2 x1 x2/\p3 x1 x2/\p4 x1 x2) (f:p1->∀x1,∀x2,p2 x1 x2->p3 x1 x2->p4 x1 x2->r):r:=by
 obtain ⟨y0,y1,y2,y3,y4,y5⟩:=h;exact f y0 y1 y2 y3 y4 y5
theorem CK {cR:Sort _} {p1:cR->Prop} {p2:cR->Prop} {p3:cR->Prop} {p4:cR->Prop} {p5:cR->Prop} {r:Prop} (h: ∃x1,p1 x1/\p2 x1/\p3 x1/\p4 x1/\p5 x1) (f: ∀x1,p1 x1->p2 x1->p3 x1->p4 x1->p5 x1->r):r:=by
 obtain ⟨y0,y1,y2,y3,y4,y5⟩:=h;exact f y0 y1 y2 y3 y4 y5
theorem H9 {cR:Sort _} {eT:Sort _} {p1:cR->eT->Prop} {p2:cR->eT->Prop} {p3:cR->eT->Prop} {p4:cR->eT->Prop} {r:Prop} (h: ∃x1,∃x2,p1 x1 x2/\p2 x1 x2/\p3 x1 x2/\p4 x1 x2) (f: ∀x1,∀x2,p1 x1 x2->p2 x1 x2->p3 x1 x2->p4 x1 x2->r):r:=by
 obtain ⟨y0,y1,y2,y3,y4,y5⟩:=h;exact f y0 y1 y2 y3 y4 y5
theorem jt {cR:Sort _} {eT:Sort _} {jU:Sort _} {p1:cR->eT->jU->Prop} {p2:cR->eT->jU->Prop} {p3:cR->eT->jU->Prop} {r:Prop} (h: ∃x1,∃x2,∃x3,p1 x1 x2 x3/\p2 x1 x2 x3/\p3 x1 x2 x3) (f: ∀x1,∀x2,∀x3,p1 x1 x2 x3->p2 x1 x2 x3->p3 x1 x2 x3->r):r:=by
 obtain ⟨y0,y1,y2,y3,y4,y5⟩:=h;exact f y0 y1 y2 y3 y4 y5
theorem Ia {cR:Sort _} {eT:Sort _} {jU:Sort _} {vf:Sort _} {p1:cR->eT->jU->vf->Prop} {p2:cR->eT->jU->vf->Prop} {r:Prop} (h: ∃x1,∃x2,∃x3,∃x4,p1 x1 x2 x3 x4/\p2 x1 x2 x3 x4) (f: ∀x1,∀x2,∀x3,∀x4,p1 x1 x2 x3 x4->p2 x1 x2 x3 x4->r):r:=by
 obtain ⟨y0,y1,y2,y3,y4,y5⟩:=h;exact f y0 y1 y2 y3 y4 y5
theorem LH {cR:Sort _} {p1:cR->Prop} {p2:cR->Prop} {p3:cR->Prop} {p4:cR->Prop} {p5:cR->Prop} {p6:cR->Prop} {r:Prop} (h: ∃x1,p1 x1/\p2 x1/\p3 x1/\p4 x1/\p5 x1/\p6 x1) (f: ∀x1,p1 x1->p2 x1->p3 x1->p4 x1->p5 x1->p6 x1->r):r:=by
 obtain ⟨y0,y1,y2,y3,y4,y5,y6⟩:=h;exact f y0 y1 y2 y3 y4 y5 y6
theorem VJ {cR:Sort _} {eT:Sort _} {p1:cR->eT->Prop} {p2:cR->eT->Prop} {p3:cR->eT->Prop} {p4:cR->eT->Prop} {p5:cR->eT->Prop} {r:Prop} (h: ∃x1,∃x2,p1 x1 x2/\p2 x1 x2/\p3 x1 x2/\p4 x1 x2/\p5 x1 x2) (f: ∀x1,∀x2,p1 x1 x2->p2 x1 x2->p3 x1 x2->p4 x1 x2->p5 x1 x2->r):r:=by
 obtain ⟨y0,y1,y2,y3,y4,y5,y6⟩:=h;exact f y0 y1 y2 y3 y4 y5 y6
theorem pH {cR:Sort _} {eT:Sort _} {jU:Sort _} {p1:cR->eT->jU->Prop} {p2:cR->eT->jU->Prop} {p3:cR->eT->jU->Prop} {p4:cR->eT->jU->Prop} {r:Prop} (h: ∃x1,∃x2,∃x3,p1 x1 x2 x3/\p2 x1 x2 x3/\p3 x1 x2 x3/\p4 x1 x2 x3) (f: ∀x1,∀x2,∀x3,p1 x1 x2 x3->p2 x1 x2 x3->p3 x1 x2 x3->p4 x1 x2 x3->r):r:=by
 obtain ⟨y0,y1,y2,y3,y4,y5,y6⟩:=h;exact f y0 y1 y2 y3 y4 y5 y6
theorem fF {cR:Sort _} {eT:Sort _} {jU:Sort _} {vf:Sort _} {p1:cR->eT->jU->vf->Prop} {p2:cR->eT->jU->vf->Prop} {p3:cR->eT->jU->vf->Prop} {r:Prop} (h: ∃x1,∃x2,∃x3,∃x4,p1 x1 x2 x3 x4/\p2 x1 x2 x3 x4/\p3 x1 x2 x3 x4) (f: ∀x1,∀x2,∀x3,∀x4,p1 x1 x2 x3 x4->p2 x1 x2 x3 x4->p3 x1 x2 x3 x4->r):r:=by
 obtain ⟨y0,y1,y2,y3,y4,y5,y6⟩:=h;exact f y0 y1 y2 y3 y4 y5 y6
theorem kF {cR:Sort _} {eT:Sort _} {p1:cR->eT->Prop} {p2:cR->eT->Prop} {p3:cR->eT->Prop} {p4:cR->eT->Prop} {p5:cR->eT->Prop} {p6:cR->eT->Prop} {r:Prop} (h: ∃x1,∃x2,p1 x1 x2/\p2 x1 x2/\p3 x1 x2/\p4 x1 x2/\p5 x1 x2/\p6 x1 x2) (f: ∀x1,∀x2,p1 x1 x2->p2 x1 x2->p3 x1 x2->p4 x1 x2->p5 x1 x2->p6 x1 x2->r):r:=by
 obtain ⟨y0,y1,y2,y3,y4,y5,y6,y7⟩:=h;exact f y0 y1 y2 y3 y4 y5 y6 y7
theorem jI {cR:Sort _} {eT:Sort _} {jU:Sort _} {vf:Sort _} {p1:cR->eT->jU->vf->Prop} {p2:cR->eT->jU->vf->Prop} {p3:cR->eT->jU->vf->Prop} {p4:cR->eT->jU->vf->Prop} {r:Prop} (h: ∃x1,∃x2,∃x3,∃x4,p1 x1 x2 x3 x4/\p2 x1 x2 x3 x4/\p3 x1 x2 x3 x4/\p4 x1 x2 x3 x4) (f: ∀x1,∀x2,∀x3,∀x4,p1 x1 x2 x3 x4->p2 x1 x2 x3 x4->p3 x1 x2 x3 x4->p4 x1 x2 x3 x4->r):r:=by
 obtain ⟨y0,y1,y2,y3,y4,y5,y6,y7⟩:=h;exact f y0 y1 y2 y3 y4 y5 y6 y7
theorem yf {cR:Sort _} {eT:Sort _} {jU:Sort _} {p1:cR->eT->jU->Prop} {p2:cR->eT->jU->Prop} {p3:cR->eT->jU->Prop} {p4:cR->eT->jU->Prop} {p5:cR->eT->jU->Prop} {p6:cR->eT->jU->Prop} {r:Prop} (h: ∃x1,∃x2,∃x3,p1 x1 x2 x3/\p2 x1 x2 x3/\p3 x1 x2 x3/\p4 x1 x2 x3/\p5 x1 x2 x3/\p6 x1 x2 x3) (f: ∀x1,∀x2,∀x3,p1 x1 x2 x3->p2 x1 x2 x3->p3 x1 x2 x3->p4 x1 x2 x3->p5 x1 x2 x3->p6 x1 x2 x3->r):r:=by
 obtain ⟨y0,y1,y2,y3,y4,y5,y6,y7,y8⟩:=h;exact f y0 y1 y2 y3 y4 y5 y6 y7 y8
theorem CL {cR:Sort _} {eT:Sort _} {p1:cR->Prop} {p2:cR->Prop} {p3:cR->eT->Prop} {p4:cR->eT->Prop} {p5:cR->eT->Prop} {p6:cR->eT->Prop} {p7:cR->eT->Prop} {p8:cR->eT->Prop} {r:Prop} (h: ∃x1,p1 x1/\p2 x1/\∃x2,p3 x1 x2/\p4 x1 x2/\p5 x1 x2/\p6 x1 x2/\p7 x1 x2/\p8 x1 x2) (f: ∀x1,p1 x1->p2 x1->∀x2,p3 x1 x2->p4 x1 x2->p5 x1 x2->p6 x1 x2->p7 x1 x2->p8 x1 x2->r):r:=by
 obtain ⟨y0,y1,y2,y3,y4,y5,y6,y7,y8,y9⟩:=h;exact f y0 y1 y2 y3 y4 y5 y6 y7 y8 y9
theorem gG {cR:Sort _} {eT:Sort _} {p1:cR->eT->Prop} {p2:cR->eT->Prop} {p3:cR->eT->Prop} {p4:cR->eT->Prop} {p5:cR->eT->Prop} {p6:cR->eT->Prop} {p7:cR->eT->Prop} {p8:cR->eT->Prop} {r:Prop} (h: ∃x1,∃x2,p1 x1 x2/\p2 x1 x2/\p3 x1 x2/\p4 x1 x2/\p5 x1 x2/\p6 x1 x2/\p7 x1 x2/\p8 x1 x2) (f: ∀x1,∀x2,p1 x1 x2->p2 x1 x2->p3 x1 x2->p4 x1 x2->p5 x1 x2->p6 x1 x2->p7 x1 x2->p8 x1 x2->r):r:=by
 obtain ⟨y0,y1,y2,y3,y4,y5,y6,y7,y8,y9⟩:=h;exact f y0 y1 y2 y3 y4 y5 y6 y7 y8 y9
theorem ju {cR:Sort _} {eT:Sort _} {jU:Sort _} {p1:cR->eT->jU->Prop} {p2:cR->eT->jU->Prop} {p3:cR->eT->jU->Prop} {p4:cR->eT->jU->Prop} {p5:cR->eT->jU->Prop} {p6:cR->eT->jU->Prop} {p7:cR->eT->jU->Prop} {r:Prop} (h: ∃x1,∃x2,∃x3,p1 x1 x2 x3/\p2 x1 x2 x3/\p3 x1 x2 x3/\p4 x1 x2 x3/\p5 x1 x2 x3/\p6 x1 x2 x3/\p7 x1 x2 x3) (f: ∀x1,∀x2,∀x3,p1 x1 x2 x3->p2 x1 x2 x3->p3 x1 x2 x3->p4 x1 x2 x3->p5 x1 x2 x3->p6 x1 x2 x3->p7 x1 x2 x3->r):r:=by
 obtain ⟨y0,y1,y2,y3,y4,y5,y6,y7,y8,y9⟩:=h;exact f y0 y1 y2 y3 y4 y5 y6 y7 y8 y9
theorem qM {cR:Sort _} {eT:Sort _} {jU:Sort _} {vf:Sort _} {p1:cR->eT->jU->vf->Prop} {p2:cR->eT->jU->vf->Prop} {p3:cR->eT->jU->vf->Prop} {p4:cR->eT->jU->vf->Prop} {p5:cR->eT->jU->vf->Prop} {p6:cR->eT->jU->vf->Prop} {r:Prop} (h: ∃x1,∃x2,∃x3,∃x4,p1 x1 x2 x3 x4/\p2 x1 x2 x3 x4/\p3 x1 x2 x3 x4/\p4 x1 x2 x3 x4/\p5 x1 x2 x3 x4/\p6 x1 x2 x3 x4) (f: ∀x1,∀x2,∀x3,∀x4,p1 x1 x2 x3 x4->p2 x1 x2 x3 x4->p3 x1 x2 x3 x4->p4 x1 x2 x3 x4->p5 x1 x2 x3 x4->p6 x1 x2 x3 x4->r):r:=by
 obtain ⟨y0,y1,y2,y3,y4,y5,y6,y7,y8,y9⟩:=h;exact f y0 y1 y2 y3 y4 y5 y6 y7 y8 y9
theorem CM {cR:Sort _} {eT:Sort _} {jU:Sort _} {vf:Sort _} {VK:Sort _} {VL:Sort _} {VM:Sort _} {VN:Sort _} {p1:cR->eT->jU->vf->VK->VL->VM->VN->Prop} {p2:cR->eT->jU->vf->VK->VL->VM->VN->Prop} {r:Prop} (h: ∃x1,∃x2,∃x3,∃x4,∃x5,∃x6,∃x7,∃x8,p1 x1 x2 x3 x4 x5 x6 x7 x8/\p2 x1 x2 x3 x4 x5 x6 x7 x8) (f: ∀x1,∀x2,∀x3,∀x4,∀x5,∀x6,∀x7,∀x8,p1 x1 x2 x3 x4 x5 x6 x7 x8->p2 x1 x2 x3 x4 x5 x6 x7 x8->r):r:=by
 obtain ⟨y0,y1,y2,y3,y4,y5,y6,y7,y8,y9⟩:=h;exact f y0 y1 y2 y3 y4 y5 y6 y7 y8 y9
theorem mK {cR:Sort _} {eT:Sort _} {jU:Sort _} {vf:Sort _} {VK:Sort _} {VL:Sort _} {VM:Sort _} {VN:Sort _} {α9:Sort _} {p1:cR->eT->jU->vf->VK->VL->VM->VN->α9->Prop} {r:Prop} (h: ∃x1,∃x2,∃x3,∃x4,∃x5,∃x6,∃x7,∃x8,∃x9,p1 x1 x2 x3 x4 x5 x6 x7 x8 x9) (f: ∀x1,∀x2,∀x3,∀x4,∀x5,∀x6,∀x7,∀x8,∀x9,p1 x1 x2 x3 x4 x5 x6 x7 x8 x9->r):r:=by
 obtain ⟨y0,y1,y2,y3,y4,y5,y6,y7,y8,y9⟩:=h;exact f y0 y1 y2 y3 y4 y5 y6 y7 y8 y9
theorem pW {a:Nat} (h:a<=1000):(a:Int) < 2 ^ 63:=by omega
theorem mL {α:Type _} {a:α} {s t:List α} (h:a∈s):a∈s++t:=List.mem_append_left t h
theorem mR {α:Type _} {a:α} {s t:List α} (h:a∈t):a∈s++t:=List.mem_append_right s h
theorem cE {α:Type _} {a:α} {s t:List α} {r:Prop} (h:a∈s++t) (f:a∈s->r) (g:a∈t->r):r:=Or.elim (List.mem_append.mp h) f g
@[elab_as_elim] theorem bU {α:Type _} {b:α} {l:List α} {P:α->Prop} {a:α} (h:a∈b::l) (f:P b) (g:a∈l->P a):P a:=Or.elim (List.mem_cons.mp h) (fun e=>e ▸ f) g
theorem xA {α:Type _} {a b:α} {l:List α} {r:Prop} (h:a∈b::l) (f:a=b->r) (g:a∈l->r):r:=Or.elim (List.mem_cons.mp h) f g
@[elab_as_elim] theorem len0 {α:Type _} {l:List α} {P:List α->Prop} (h:l.length=0) (f:P []):P l:=List.eq_nil_of_length_eq_zero h ▸ f
@[elab_as_elim] theorem sS {α:Type _} {l:List α} {P:List α->Prop} (h:l.length=1) (f: ∀a,P [a]):P l:=ex (List.length_eq_one_iff.mp h) fun a e=>e ▸ f a
@[elab_as_elim] theorem ur {α:Type _} {l:List α} {P:List α->Prop} (h:l.length=2) (f: ∀a b,P [a,b]):P l:=by
 cases l with
 | nil=>cases h
 | cons a t=>exact sS (P:=fun t=>P (a::t)) (Nat.succ.inj h) (f a)
@[elab_as_elim] theorem Wz {α:Type _} {l:List α} {P:List α->Prop} (h:l.length=3) (f: ∀a b c,P [a,b,c]):P l:=by
 cases l with
 | nil=>cases h
 | cons a t=>exact ur (P:=fun t=>P (a::t)) (Nat.succ.inj h) (f a)
@[elab_as_elim] theorem WA {α:Type _} {l:List α} {n:Nat} {P:List α->Prop} (h:l.length=n + 1) (f: ∀a t,t.length=n->P (a::t)):P l:=by
 cases l with
 | nil=>cases h
 | cons a t=>exact f a t (Nat.succ.inj h)
@[elab_as_elim] theorem l2 {α β:Type _} {P:List α->List β->Prop} (a:List α) (b:List β) (nn:P [] []) (nc: ∀y b,P [] (y::b)) (cn: ∀x a,P (x::a) []) (cc: ∀x a y b,P a b->P (x::a) (y::b)):P a b:=by
 induction a generalizing b with
 | nil=>cases b with
  | nil=>exact nn
  | cons y b=>exact nc y b
 | cons x a ih=>cases b with
  | nil=>exact cn x a
  | cons y b=>exact cc x a y b (ih b)
@[elab_as_elim] theorem rf {α:Type _} {a:α} {P:α->Prop} {p:α} (h:p∈[a]) (f:P a):P p:=List.mem_singleton.mp h ▸ f
@[elab_as_elim] theorem m2E {α:Type _} {a b:α} {P:α->Prop} {p:α} (h:p∈[a,b]) (f:P a) (g:P b):P p:=bU h f fun h=>rf h g
@[elab_as_elim] theorem VO {α:Type _} {a b c:α} {P:α->Prop} {p:α} (h:p∈[a,b,c]) (f:P a) (g:P b) (k:P c):P p:=bU h f fun h=>m2E h g k
theorem lK {a b c:Nat} (h:a<=b) (k:Nat.ble b c=true:=by rfl):a<=c:=Nat.le_trans h (Nat.le_of_ble_eq_true k)
theorem aE {a b:Nat} (h:a<=b) (k: ¬a < b):a=b:=Nat.le_antisymm h (Nat.le_of_not_lt k)
theorem jP {i m k:Nat} (e:i + m=k) (h:i < k):0 < m:=Nat.lt_of_add_lt_add_left (show i + 0 < i + m from e.symm ▸ h)
theorem jS {i m k:Nat} (e:i + m=k) (h:i < k):m - 1 < m:=Nat.sub_lt (jP e h) Nat.one_pos
theorem jT {i m k:Nat} (e:i + m=k) (h:i < k):i + 1 + (m - 1)=k:=(Nat.add_assoc i 1 (m - 1)).trans ((congrArg (i + ·) (Nat.add_sub_cancel' (jP e h))).trans e)
theorem jE {i m k:Nat} (e:i + m=k) (h: ¬i < k):i=k:=aE (Nat.le.intro e) h
theorem WB {a:Nat} (h:a<=1000): ¬(a:Int) >= 2 ^ 63:=Vd.mpr (pW h)
theorem Pd {i:Int} (h:i < 256):i < 10 ^ 10:=Int.lt_trans h (by decide)
theorem EJ {m:Nat} (h:(m:Int) < 256):m < 256:=cf.mp h
theorem Zm (a b:Nat):min a b + (b - a + 1)=b + 1:=by rw [Nat.min_comm, <- Nat.add_assoc,Nat.add_comm (min b a),Nat.sub_add_min_cancel]
theorem Lm {a b:Nat} (h: ¬a<=b):b<=a:=Nat.le_of_lt (Nat.lt_of_not_le h)
theorem sP {m j k:Nat} (h:m - j=k + 1):m - (j + 1)=k:=congrArg Nat.pred h
theorem sZ {m j:Nat} (e:m - j=0) (h:j<=m):j=m:=Nat.le_antisymm h (Nat.le_of_sub_eq_zero e)
theorem oL {a b:Nat} (h:a=b - 1) (k:b<=10):a<=9:=h ▸ Nat.sub_le_sub_right k 1
theorem nP (n:Nat): -1 + ((n:Int) + 1)=n:=(congrArg (-1 + ·) (RA _ 1)).trans (AA 1 _)
theorem iW {k d n:Nat} (h:d<=n):(k:Int) - d + n=((k + n - d:Nat):Int):=(Int.add_right_comm (k:Int) (-(d:Int)) n).trans (OW (Nat.le_trans h (Nat.le_add_left _ _))).symm
theorem zj {p1:Prop} {p2:Prop} {p3:Prop} {p4:Prop} {p5:Prop} {p6:Prop} {p7:Prop} {p8:Prop} {p9:Prop} {Zn:Prop} {Zo:Prop} {Zp:Prop} {r:Prop} (h:p1/\p2/\p3/\p4/\p5/\p6/\p7/\p8/\p9/\Zn/\Zo/\Zp) (f:p1->p2->p3->p4->p5->p6->p7->p8->p9->Zn->Zo->Zp->r):r:=by
 obtain ⟨y0,y1,y2,y3,y4,y5,y6,y7,y8,y9,y10,y11⟩:=h;exact f y0 y1 y2 y3 y4 y5 y6 y7 y8 y9 y10 y11
@[elab_as_elim] theorem zk {α β:Type _} {l:List α} {f:α->β} {i:Nat} {P:β->Prop} {d:β} (h:(l.map f)[i]? =some d) (k: ∀x,l[i]? =some x->P (f x)):P d:=
 bQ (bg.mp (List.getElem?_map ▸ h:(l[i]?).map f=some d)) fun x e q=>q ▸ k x e
@[elab_as_elim] theorem l8 {α β:Type _} {l:List α} {f:α->β} {P:β->Prop} {y:β} (h:y∈l.map f) (k: ∀x,x∈l->P (f x)):P y:=bQ (List.mem_map.mp h) fun x e q=>q ▸ k x e
section
open PySem PySem.W PyProof.Rows PySem.Spec PySem.Calls
noncomputable abbrev Led:=List (Addr × Obj)
theorem nm {α:Type} {P:α->Prop}: ∀p∈ ([]:List α),P p:=fun _ h=>absurd h List.not_mem_nil
inductive Sv where
 | dat (d:Dat)
 | val (v:ai)
 | own (P:Led->ai->Prop) (mono: ∀D D' v,(∀p∈D,p∈D')->P D v->P D' v)
noncomputable def bw (D:Led) (v:ai):Sv->Prop
 | .dat d=>eI D v d
 | .val u=>v=u
 | .own P _=>P D v
theorem bw.mono {D D':Led} (hs: ∀p∈D,p∈D') {v:ai} {d:Sv} (h:bw D v d):bw D' v d:=by
 cases d with
 | dat _=>exact nq hs h
 | val _=>exact h
 | own _ m=>exact m _ _ _ hs h
noncomputable def Pe (D:Led) (v:ai):Dat->Prop
 | .none=>v=.none
 | .bool b=>v=.bool b
 | .int i=>∃t,v=.int i t
 | .str x=>∃t,v=.str x t
 | .bytes b=>∃t,v=.bytes b t
 | .tuple ds=>∃a vs n,v=.ref a/\(a,({ cls:=.type "tuple",data:=.seq vs.toArray n }:Obj))∈D/\dG D vs ds
 | .list ds=>∃a vs n,v=.ref a/\(a,listOf vs.toArray n)∈D/\dG D vs ds
theorem jj {D:Led} {v:ai} {d:Dat} (h:eI D v d):Pe D v d:=by
 cases h with
 | none=>exact rfl
 | bool=>exact rfl
 | int=>exact ⟨_,rfl⟩
 | str=>exact ⟨_,rfl⟩
 | bytes=>exact ⟨_,rfl⟩
 | tuple m q=>exact ⟨_,_,_,rfl,m,q⟩
 | list m q=>exact ⟨_,_,_,rfl,m,q⟩
@[elab_as_elim] theorem iE {D:Led} {i:Int} {P:ai->Prop} {v:ai} (h:eI D v (.int i)) (f: ∀t,P (.int i t)):P v:=ex (jj h) fun t e=>e ▸ f t
@[elab_as_elim] theorem sE {D:Led} {x:Str} {P:ai->Prop} {v:ai} (h:eI D v (.str x)) (f: ∀t,P (.str x t)):P v:=ex (jj h) fun t e=>e ▸ f t
@[elab_as_elim] theorem yE {D:Led} {b:Array UInt8} {P:ai->Prop} {v:ai} (h:eI D v (.bytes b)) (f: ∀t,P (.bytes b t)):P v:=ex (jj h) fun t e=>e ▸ f t
@[elab_as_elim] theorem oE {D:Led} {b:Bool} {P:ai->Prop} {v:ai} (h:eI D v (.bool b)) (f:P (.bool b)):P v:=(jj h:v=.bool b) ▸ f
@[elab_as_elim] theorem nE {D:Led} {P:ai->Prop} {v:ai} (h:eI D v .none) (f:P .none):P v:=(jj h:v=.none) ▸ f
@[elab_as_elim] theorem lE {D:Led} {ds:List Dat} {P:ai->Prop} {v:ai} (h:eI D v (.list ds)) (f: ∀a vs n,(a,listOf vs.toArray n)∈D->dG D vs ds->P (.ref a)):P v:=jt (jj h) fun a vs n e m q=>e ▸ f a vs n m q
@[elab_as_elim] theorem tE {D:Led} {ds:List Dat} {P:ai->Prop} {v:ai} (h:eI D v (.tuple ds)) (f: ∀a vs n,(a,({ cls:=.type "tuple",data:=.seq vs.toArray n }:Obj))∈D->dG D vs ds->P (.ref a)):P v:=jt (jj h) fun a vs n e m q=>e ▸ f a vs n m q
@[elab_as_elim] theorem dN {D:Led} {P:List ai->Prop} {vs:List ai} (h:dG D vs []) (f:P []):P vs:=by cases h; exact f
@[elab_as_elim] theorem dC {D:Led} {d:Dat} {ds:List Dat} {P:List ai->Prop} {vs:List ai} (h:dG D vs (d::ds)) (f: ∀v vs,eI D v d->dG D vs ds->P (v::vs)):P vs:=by
 cases h with
 | cons a b=>exact f _ _ a b
inductive bP (D:Led):List ai->List Sv->Prop
 | nil:bP D [] []
 | cons {v:ai} {vs:List ai} {d:Sv} {ds:List Sv}:bw D v d->bP D vs ds->bP D (v::vs) (d::ds)
@[elab_as_elim] theorem sN {D:Led} {P:List ai->Prop} {vs:List ai} (h:bP D vs []) (f:P []):P vs:=by cases h; exact f
@[elab_as_elim] theorem sC {D:Led} {d:Sv} {ds:List Sv} {P:List ai->Prop} {vs:List ai} (h:bP D vs (d::ds)) (f: ∀v vs,bw D v d->bP D vs ds->P (v::vs)):P vs:=by
 cases h with
 | cons a b=>exact f _ _ a b
theorem bP.mono {D D':Led} (hs: ∀p∈D,p∈D') {vs:List ai} {ds:List Sv} (h:bP D vs ds):bP D' vs ds:=by
 induction h with
 | nil=>exact .nil
 | cons h _ r=>exact .cons (h.mono hs) r
@[elab_as_elim] theorem RW {D:Led} {d:Sv} {P:List ai->Prop} {vs:List ai} (h:bP D vs [d]) (f: ∀v,bw D v d->P [v]):P vs:=
 sC h fun v _ q r=>sN r (f v q)
@[elab_as_elim] theorem VP {D:Led} {d e:Sv} {P:List ai->Prop} {vs:List ai} (h:bP D vs [d,e]) (f: ∀v,bw D v d->∀u,bw D u e->P [v,u]):P vs:=
 sC h fun v _ q r=>RW r (f v q)
structure Sm (s s':aj):Prop where
 gens:s'.gens=s.gens
 os:s'.os=s.os
theorem Sm.refl (s:aj):Sm s s:=⟨rfl,rfl⟩
theorem Sm.trans {a b c:aj} (h:Sm a b) (k:Sm b c):Sm a c:=⟨k.1.trans h.1,k.2.trans h.2⟩
structure cQ (n:Nat) (A:aM):Prop where
 handled:A.handled=none
 depth:A.depth + 3 * n<=900
 units:A.units + 30 * n<=9000
theorem cQ.le {n m:Nat} {A:aM} (h:cQ n A) (k:m<=n):cQ m A:=⟨h.1,by have:=h.2; exact Nat.le_trans (Nat.add_le_add_left (Nat.mul_le_mul_left 3 k) _) this,by have:=h.3; exact Nat.le_trans (Nat.add_le_add_left (Nat.mul_le_mul_left 30 k) _) this⟩
theorem cQ.deeper {n:Nat} {A:aM} (h:cQ (n + 1) A) (env:Env):cQ n (A.deeper env):=⟨h.1,by have:=h.2; refine (?_:A.depth + 1 + 3 * n<=900); exact Nat.le_trans (Nat.le_of_eq (Nat.add_right_comm _ 1 _)) (Nat.le_trans (Nat.le_add_right _ 2) this),by have:=h.3; refine (?_:A.units + 3 + 30 * n<=9000); exact Nat.le_trans (Nat.le_of_eq (Nat.add_right_comm _ 3 _)) (Nat.le_trans (Nat.le_add_right _ 27) this)⟩
theorem cQ.in1 {n:Nat} {A:aM} (h:cQ (n + 1) A):cQ n A.in1:=⟨h.1,by have:=h.2; refine (?_:A.depth + 3 * n<=900); exact Nat.le_trans (Nat.le_add_right _ 3) this,by have:=h.3; refine (?_:A.units + 1 + 30 * n<=9000); exact Nat.le_trans (Nat.le_of_eq (Nat.add_right_comm _ 1 _)) (Nat.le_trans (Nat.le_add_right _ 29) this)⟩
theorem cQ.room {n:Nat} {A:aM} (h:cQ n A):A.depth < Ve:=by have:=h.2; refine (?_:A.depth < 1000); exact Nat.lt_of_le_of_lt (Nat.le_trans (Nat.le_add_right _ _) this) (by decide)
theorem cQ.yg {n:Nat} {A:aM} (h:cQ n A):A.units + 64 < zd:=by have:=h.3; refine (?_:A.units + 64 < 9900); exact Nat.lt_of_le_of_lt (Nat.add_le_add_right (Nat.le_trans (Nat.le_add_right _ _) this) 64) (by decide)
noncomputable abbrev vg:=List (Str × Addr × Obj)
noncomputable abbrev vg.led (C:vg):Led:=C.map (·.2)
structure Cx where
 env:Env
 own:List Str
 free:Led:=[]
structure nW where
 fix:Led
 floor:Led
noncomputable abbrev fQ:=Str->Option Sv
noncomputable def upd (ρ:fQ) (x:Str) (d:Sv):fQ:=fun y=>if y=x then some d else ρ y
noncomputable abbrev kA:=List (ai × Sv)
noncomputable def N3 (env:Env) (m:Str->Option ai) (C:vg) (Ψ:Led) (x:Str) (v:ai):Prop:=
 (env.kindOf x=some .local/\m x=some v)\/(env.kindOf x=some .cell/\∃a o,(x,a,o)∈C/\o.data=.cell (some v))\/
 ((env.kindOf x=some .free\/env.kindOf x=some .cell)/\∃a o,env.cells.lookup x=some a/\(a,o)∈Ψ/\o.data=.cell (some v))
structure iN (G:Heap) (c:Cx) (Φ:nW) (ρ:fQ) (τ:kA) (h:Heap) (D:Led) (C:vg) (m:Str->Option ai):Prop where
 fr:Fr G c.env.locals h m
 nw:News G c.env.locals h (D++(C.led++Φ.fix))
 ap: ∀p∈D,∀q∈C.led++Φ.fix,p.1≠q.1
 cn:C.map (·.1)=c.own
 cd:c.own.Nodup
 ca:(C.map (·.2.1)).Nodup
 cp: ∀x∈C,∀q∈Φ.fix,x.2.1≠q.1
 ck: ∀x∈C,c.env.cells.lookup x.1=some x.2.1/\∃v,x.2.2.data=.cell v
 fc: ∀p∈c.free,p∈Φ.fix
 fl: ∀p∈Φ.floor,p∈D
 vr: ∀x d,ρ x=some d->∃v,N3 c.env m C c.free x v/\bw D v d
 tm: ∀p∈τ,bw D p.1 p.2
structure fM (env:Env):Prop where
 kind:env.scope.kind=.function
 glob:env.globals=aO
 blt:env.builtins=cu
noncomputable def FS (G:Heap) (c:Cx) (Φ:nW) (ρ:fQ) (τ:kA) (h:Heap):Prop:=∃D C m,iN G c Φ ρ τ h D C m
structure bL (mg mb:Str->Option ai) (G:Heap):Prop where
 g:G.Ns aO mg
 b:G.Ns cu mb
 nolimit:G.NoLimit
 nodigits: ∃mc,G.Ns jM mc/\mc "sys.int_max_str_digits"=none
 builtins: ∀x:Str,x≠ "__name__"->mb x=lV x
inductive Out where
 | next (ρ:fQ)
 | brk (ρ:fQ)
 | cont (ρ:fQ)
 | ret (d:Sv)
noncomputable def rm (G:Heap) (c:Cx) (Φ:nW) (τ:kA) (Q:Flow->aj->Prop) (s:aj):Out->Prop
 | .next ρ=>∀s',Sm s s'->FS G c Φ ρ τ s'.heap->Q .next s'
 | .brk ρ=>∀s',Sm s s'->FS G c Φ ρ τ s'.heap->Q .brk s'
 | .cont ρ=>∀s',Sm s s'->FS G c Φ ρ τ s'.heap->Q .cont s'
 | .ret d=>∀v s',Sm s s'->FS G c Φ (fun _=>none) ((v,d)::τ) s'.heap->Q (.ret v) s'
section
variable (prog:br) (w:bR) (G:Heap)
@[irreducible] noncomputable def Ev (n:Nat) (c:Cx) (ρ:fQ) (e:Expr) (d:Sv):Prop:=
 ∀(A:aM) (E:ai->aj->Prop) (Q:ai->aj->Prop) (Φ:nW) (τ:kA) (s:aj),cQ n A->FS G c Φ ρ τ s.heap->
  (∀v s',Sm s s'->FS G c Φ ρ ((v,d)::τ) s'.heap->Q v s')->ak (aq prog w) A (eval e c.env) Q E s
theorem Ev.mk {prog:br} {w:bR} {G:Heap} {n:Nat} {c:Cx} {ρ:fQ} {e:Expr} {d:Sv} (h: ∀(A:aM) (E:ai->aj->Prop) (Q:ai->aj->Prop) (Φ:nW) (τ:kA) (s:aj),cQ n A->FS G c Φ ρ τ s.heap->
  (∀v s',Sm s s'->FS G c Φ ρ ((v,d)::τ) s'.heap->Q v s')->ak (aq prog w) A (eval e c.env) Q E s):Ev prog w G n c ρ e d:=by with_unfolding_all exact h
theorem Ev.go {prog:br} {w:bR} {G:Heap} {n:Nat} {c:Cx} {ρ:fQ} {e:Expr} {d:Sv} (h:Ev prog w G n c ρ e d): ∀(A:aM) (E:ai->aj->Prop) (Q:ai->aj->Prop) (Φ:nW) (τ:kA) (s:aj),cQ n A->FS G c Φ ρ τ s.heap->
  (∀v s',Sm s s'->FS G c Φ ρ ((v,d)::τ) s'.heap->Q v s')->ak (aq prog w) A (eval e c.env) Q E s:=by with_unfolding_all exact h
@[irreducible] noncomputable def Ex (n:Nat) (c:Cx) (ρ:fQ) (b:List Stmt) (o:Out):Prop:=
 ∀(A:aM) (E:ai->aj->Prop) (Q:Flow->aj->Prop) (Φ:nW) (τ:kA) (s:aj),cQ n A->FS G c Φ ρ τ s.heap->
  rm G c Φ τ Q s o->ak (aq prog w) A (ik b c.env) Q E s
theorem Ex.mk {prog:br} {w:bR} {G:Heap} {n:Nat} {c:Cx} {ρ:fQ} {b:List Stmt} {o:Out} (h: ∀(A:aM) (E:ai->aj->Prop) (Q:Flow->aj->Prop) (Φ:nW) (τ:kA) (s:aj),cQ n A->FS G c Φ ρ τ s.heap->
  rm G c Φ τ Q s o->ak (aq prog w) A (ik b c.env) Q E s):Ex prog w G n c ρ b o:=by with_unfolding_all exact h
theorem Ex.go {prog:br} {w:bR} {G:Heap} {n:Nat} {c:Cx} {ρ:fQ} {b:List Stmt} {o:Out} (h:Ex prog w G n c ρ b o): ∀(A:aM) (E:ai->aj->Prop) (Q:Flow->aj->Prop) (Φ:nW) (τ:kA) (s:aj),cQ n A->FS G c Φ ρ τ s.heap->
  rm G c Φ τ Q s o->ak (aq prog w) A (ik b c.env) Q E s:=by with_unfolding_all exact h
@[irreducible] noncomputable def Xs (n:Nat) (c:Cx) (ρ:fQ) (b:Stmt) (o:Out):Prop:=
 ∀(A:aM) (E:ai->aj->Prop) (Q:Flow->aj->Prop) (Φ:nW) (τ:kA) (s:aj),cQ n A->FS G c Φ ρ τ s.heap->
  rm G c Φ τ Q s o->ak (aq prog w) A (exec b c.env) Q E s
theorem Xs.mk {prog:br} {w:bR} {G:Heap} {n:Nat} {c:Cx} {ρ:fQ} {b:Stmt} {o:Out} (h: ∀(A:aM) (E:ai->aj->Prop) (Q:Flow->aj->Prop) (Φ:nW) (τ:kA) (s:aj),cQ n A->FS G c Φ ρ τ s.heap->
  rm G c Φ τ Q s o->ak (aq prog w) A (exec b c.env) Q E s):Xs prog w G n c ρ b o:=by with_unfolding_all exact h
theorem Xs.go {prog:br} {w:bR} {G:Heap} {n:Nat} {c:Cx} {ρ:fQ} {b:Stmt} {o:Out} (h:Xs prog w G n c ρ b o): ∀(A:aM) (E:ai->aj->Prop) (Q:Flow->aj->Prop) (Φ:nW) (τ:kA) (s:aj),cQ n A->FS G c Φ ρ τ s.heap->
  rm G c Φ τ Q s o->ak (aq prog w) A (exec b c.env) Q E s:=by with_unfolding_all exact h
@[irreducible] noncomputable def Et (n:Nat) (c:Cx) (ρ:fQ) (e:Expr) (b:Bool):Prop:=
 ∀(A:aM) (E:ai->aj->Prop) (Q:Bool->aj->Prop) (Φ:nW) (τ:kA) (s:aj),cQ n A->FS G c Φ ρ τ s.heap->
  (∀s',Sm s s'->FS G c Φ ρ τ s'.heap->Q b s')->ak (aq prog w) A (isTrue e c.env (eval e c.env)) Q E s
theorem Et.mk {prog:br} {w:bR} {G:Heap} {n:Nat} {c:Cx} {ρ:fQ} {e:Expr} {b:Bool} (h: ∀(A:aM) (E:ai->aj->Prop) (Q:Bool->aj->Prop) (Φ:nW) (τ:kA) (s:aj),cQ n A->FS G c Φ ρ τ s.heap->
  (∀s',Sm s s'->FS G c Φ ρ τ s'.heap->Q b s')->ak (aq prog w) A (isTrue e c.env (eval e c.env)) Q E s):Et prog w G n c ρ e b:=by with_unfolding_all exact h
theorem Et.go {prog:br} {w:bR} {G:Heap} {n:Nat} {c:Cx} {ρ:fQ} {e:Expr} {b:Bool} (h:Et prog w G n c ρ e b): ∀(A:aM) (E:ai->aj->Prop) (Q:Bool->aj->Prop) (Φ:nW) (τ:kA) (s:aj),cQ n A->FS G c Φ ρ τ s.heap->
  (∀s',Sm s s'->FS G c Φ ρ τ s'.heap->Q b s')->ak (aq prog w) A (isTrue e c.env (eval e c.env)) Q E s:=by with_unfolding_all exact h
structure au (G:Heap) (Φ D:Led) (h:Heap):Prop where
 keep: ∀b o,G.get? b=some o->h.get? b=some o
 pin: ∀p∈D++Φ,h.get? p.1=some p.2/\G.get? p.1=none
 ap: ∀p∈D,∀q∈Φ,p.1≠q.1
 sz:G.objs.size<=h.objs.size
@[irreducible] noncomputable def bJ (n:Nat) (f:ai) (as:List Sv) (r:Sv):Prop:=
 ∀(A:aM) (E:ai->aj->Prop) (Q:ai->aj->Prop) (Φ D:Led) (vs:List ai) (s:aj),cQ n A->au G Φ D s.heap->bP D vs as->
  (∀v s' D',Sm s s'->au G Φ D' s'.heap->(∀p∈D,p∈D')->bw D' v r->Q v s')->ak (aq prog w) A (call f vs) Q E s
theorem bJ.mk {prog:br} {w:bR} {G:Heap} {n:Nat} {f:ai} {as:List Sv} {r:Sv} (h: ∀(A:aM) (E:ai->aj->Prop) (Q:ai->aj->Prop) (Φ D:Led) (vs:List ai) (s:aj),cQ n A->au G Φ D s.heap->bP D vs as->
  (∀v s' D',Sm s s'->au G Φ D' s'.heap->(∀p∈D,p∈D')->bw D' v r->Q v s')->ak (aq prog w) A (call f vs) Q E s):bJ prog w G n f as r:=by with_unfolding_all exact h
theorem bJ.go {prog:br} {w:bR} {G:Heap} {n:Nat} {f:ai} {as:List Sv} {r:Sv} (h:bJ prog w G n f as r): ∀(A:aM) (E:ai->aj->Prop) (Q:ai->aj->Prop) (Φ D:Led) (vs:List ai) (s:aj),cQ n A->au G Φ D s.heap->bP D vs as->
  (∀v s' D',Sm s s'->au G Φ D' s'.heap->(∀p∈D,p∈D')->bw D' v r->Q v s')->ak (aq prog w) A (call f vs) Q E s:=by with_unfolding_all exact h
end
section
variable {G:Heap} {c:Cx} {Φ:nW} {ρ:fQ} {τ:kA} {h h':Heap} {D:Led} {C:vg} {m:Str->Option ai}
theorem iN.keep (F:iN G c Φ ρ τ h D C m) (hk: ∀b o,h.get? b=some o->h'.get? b=some o):iN G c Φ ρ τ h' D C m:=
 ⟨⟨F.fr.ns.keeps hk,fun b o e=>hk b o (F.fr.keep b o e),F.fr.above⟩,fun p hp=>⟨hk _ _ (F.nw p hp).1,(F.nw p hp).2⟩,F.ap,F.cn,F.cd,F.ca,F.cp,F.ck,F.fc,F.fl,F.vr,F.tm⟩
theorem iN.oB {je:kA} (X:iN G c Φ ρ τ h D C m) (ht: ∀p∈je,bw D p.1 p.2):iN G c Φ ρ je h D C m:=⟨X.fr,X.nw,X.ap,X.cn,X.cd,X.ca,X.cp,X.ck,X.fc,X.fl,X.vr,ht⟩
theorem iN.rq {v:ai} {d:Sv} (X:iN G c Φ ρ τ h D C m) (hd:bw D v d):iN G c Φ ρ ((v,d)::τ) h D C m:=X.oB fun p hp=>bU hp hd (X.tm p)
theorem iN.lq {p:ai × Sv} (X:iN G c Φ ρ (p::τ) h D C m):iN G c Φ ρ τ h D C m:=X.oB fun q hq=>X.tm q (.tail _ hq)
theorem iN.d0 {v:ai} {d:Sv} (X:iN G c Φ ρ ((v,d)::τ) h D C m):bw D v d:=X.tm (v,d) (.head _)
theorem iN.d1 {p:ai × Sv} {v:ai} {d:Sv} (X:iN G c Φ ρ (p::(v,d)::τ) h D C m):bw D v d:=X.tm (v,d) (.tail _ (.head _))
theorem iN.EK {sG:fQ} (X:iN G c Φ ρ τ h D C m) (hv: ∀x d,sG x=some d->∃v,N3 c.env m C c.free x v/\bw D v d):iN G c Φ sG τ h D C m:=⟨X.fr,X.nw,X.ap,X.cn,X.cd,X.ca,X.cp,X.ck,X.fc,X.fl,hv,X.tm⟩
theorem FS.keep (F:FS G c Φ ρ τ h) (hk: ∀b o,h.get? b=some o->h'.get? b=some o):FS G c Φ ρ τ h':=
 d8 F fun D C m X=>⟨D,C,m,X.keep hk⟩
theorem FS.temps {je:kA} (F:FS G c Φ ρ τ h) (ht: ∀p∈je,p∈τ):FS G c Φ ρ je h:=
 d8 F fun D C m X=>⟨D,C,m,(X.oB (fun p hp=>X.tm p (ht p hp)))⟩
theorem FS.pop {p:ai × Sv} (F:FS G c Φ ρ (p::τ) h):FS G c Φ ρ τ h:=F.temps fun _ h=>.tail _ h
theorem FS.names {sG:fQ} (F:FS G c Φ ρ τ h) (hr: ∀x d,sG x=some d->ρ x=some d):FS G c Φ sG τ h:=
 d8 F fun D C m X=>⟨D,C,m,(X.EK (fun x d e=>X.vr x d (hr x d e)))⟩
theorem FS.plus {v:ai} {d:Sv} (F:FS G c Φ ρ τ h) (hd: ∀D,bw D v d):FS G c Φ ρ ((v,d)::τ) h:=
 d8 F fun D C m X=>⟨D,C,m,(X.rq (hd D))⟩
theorem FS.isVal {v u:ai} (F:FS G c Φ ρ ((v,.val u)::τ) h):v=u:=d8 F fun _ _ _ X=>X.tm (v,.val u) (.head _)
theorem FS.heldBy (F:FS G c Φ ρ τ h): ∃D,(∀p∈D,h.get? p.1=some p.2)/\∀p∈τ,bw D p.1 p.2:=
 d8 F fun D C m X=>⟨D,fun p hp=>(X.nw p (mL hp)).1,X.tm⟩
theorem FS.top (F:FS G c Φ ρ τ h): ∀b o,G.get? b=some o->h.get? b=some o:=d8 F fun _ _ _ X=>X.fr.keep
theorem iN.new {o:Obj} {v:ai} {d:Sv} (F:iN G c Φ ρ τ h D C m) (hf:o.isFreed=false) (hd:bw ((h.objs.size,o)::D) v d):
  iN G c Φ ρ ((v,d)::τ) (h.push o) ((h.objs.size,o)::D) C m:=by
 have sub: ∀p∈D,p∈ (h.objs.size,o)::D:=fun p hp=>.tail _ hp;have N:=F.nw.push F.fr o hf;refine ⟨F.fr.push o,N,?_,F.cn,F.cd,F.ca,F.cp,F.ck,F.fc,fun p hp=>sub p (F.fl p hp),fun x d hp=>?_,fun p hp=>?_⟩
 ·intro p hp q hq;exact bU hp (Nat.ne_of_gt (az (F.nw q (mR hq)).1)) fun hp=>F.ap p hp q hq
 ·refine bQ (F.vr x d hp) fun v a b=>?_;exact ⟨v,a,b.mono sub⟩
 ·exact bU hp (hd) fun hp=>(F.tm p hp).mono sub
theorem FS.new {o:Obj} {v:ai} {d:Sv} (F:FS G c Φ ρ τ h) (hf:o.isFreed=false) (hd: ∀D,(∀p∈τ,bw D p.1 p.2)->bw ((h.objs.size,o)::D) v d):
  FS G c Φ ρ ((v,d)::τ) (h.push o):=
 d8 F fun D C m X=>⟨_,C,m,X.new hf (hd D X.tm)⟩
theorem iN.local {x:Str} {v:ai} {d:Sv} (F:iN G c Φ ρ ((v,d)::τ) h D C m) (hl:c.env.kindOf x=some .local) (hn:h'.Ns c.env.locals (fun y=>if y=x then some v else m y))
  (hs:cz c.env.locals h h'):iN G c Φ (upd ρ x d) τ h' D C (fun y=>if y=x then some v else m y):=by
 refine ⟨F.fr.set hn hs,F.nw.set hs,F.ap,F.cn,F.cd,F.ca,F.cp,F.ck,F.fc,F.fl,fun y e hp=>?_,fun p hp=>F.tm p (.tail _ hp)⟩;unfold upd at hp
 by_cases hy:y=x
 ·subst hy;rw [if_pos rfl] at hp;cases hp;exact ⟨v,.inl ⟨hl,if_pos rfl⟩,F.tm _ (.head _)⟩
 ·rw [if_neg hy] at hp;refine bQ (F.vr y e hp) fun u a b=>?_;refine ⟨u,?_,b⟩;rcases a with ⟨a1,a2⟩ | a | a
  ·exact .inl ⟨a1,(if_neg hy).trans a2⟩
  ·exact .inr (.inl a)
  ·exact .inr (.inr a)
end
section
variable {prog:br} {w:bR} {G:Heap} {A:aM} {E:ai->aj->Prop} {s:aj} {c:Cx} {Φ:nW} {ρ:fQ} {τ:kA}
theorem AF {x:Str} {v:ai} {d:Sv} {Q:Unit->aj->Prop} (K:fM c.env) (F:FS G c Φ ρ ((v,d)::τ) s.heap) (hl:c.env.kindOf x=some .local)
  (h: ∀s',Sm s s'->FS G c Φ (upd ρ x d) τ s'.heap->Q () s'):ak (aq prog w) A (l6 c.env x v) Q E s:=by
 refine d8 F fun D C m X=>?_; clear F;refine HV hl X.fr.ns (fun h' hn hs=>h _ ⟨rfl,rfl⟩ ⟨D,C,_,X.local hl hn hs⟩) ?_;rw [K.kind]; rfl
theorem vh {C:vg} {x:Str} (h:x∈C.map (·.1)): ∃a o,(x,a,o)∈C:=by
 refine bQ (List.mem_map.mp h) ?_; rintro ⟨y,a,o⟩ hm rfl;exact ⟨a,o,hm⟩
noncomputable def setC (C:vg) (x:Str) (o:Obj):vg:=C.map fun y=>if y.1=x then (y.1,y.2.1,o) else y
theorem CN (C:vg) (x:Str) (o:Obj):(setC C x o).map (·.1)=C.map (·.1):=by
 unfold setC;rw [List.map_map];refine List.map_congr_left fun y _=>?_
 by_cases h:y.1=x <;> simp [h]
theorem CO (C:vg) (x:Str) (o:Obj):(setC C x o).map (·.2.1)=C.map (·.2.1):=by
 unfold setC;rw [List.map_map];refine List.map_congr_left fun y _=>?_
 by_cases h:y.1=x <;> simp [h]
theorem rt {C:vg} {x:Str} {o:Obj} {y:Str × Addr × Obj} (h:y∈setC C x o): ∃z∈C,y.1=z.1/\y.2.1=z.2.1/\((z.1=x/\y.2.2=o)\/(z.1≠x/\y=z)):=by
 refine l8 h fun z hz=>?_
 by_cases e:z.1=x
 ·exact ⟨z,hz,by simp [e],by simp [e],.inl ⟨e,by simp [e]⟩⟩
 ·exact ⟨z,hz,by simp [e],by simp [e],.inr ⟨e,by simp [e]⟩⟩
theorem AG {α β:Type} {f:α->β} {l:List α} (hn:(l.map f).Nodup) {a b:α} (ha:a∈l) (hb:b∈l) (e:f a=f b):a=b:=by
 induction l with
 | nil=>cases ha
 | cons x l ih=>
  rw [List.map_cons,List.nodup_cons] at hn;exact xA ha (fun ea=>xA hb (fun eb=>ea.trans eb.symm) fun hb=>absurd (ea ▸ e ▸ List.mem_map_of_mem hb) hn.1) fun ha=>xA hb (fun eb=>absurd (eb ▸ e ▸ List.mem_map_of_mem ha) hn.1) fun hb=>ih hn.2 ha hb
theorem CP {x:Str} {v:ai} {d:Sv} {Q:Unit->aj->Prop} (K:fM c.env) (F:FS G c Φ ρ ((v,d)::τ) s.heap) (hl:c.env.kindOf x=some .cell) (ho:x∈c.own)
  (h: ∀s',Sm s s'->FS G c Φ (upd ρ x d) τ s'.heap->Q () s'):ak (aq prog w) A (l6 c.env x v) Q E s:=by
 refine d8 F fun D C m X=>?_; clear F;refine HQ (vh (X.cn ▸ ho)) fun a o hm=>?_;refine Wx (X.ck _ hm) fun hc aaF hd=>?_;have Ln:(a,o)∈C.led:=List.mem_map_of_mem hm;have hN:=X.nw (a,o) (mR ((mL Ln)));refine wpAny_storeName_cell K.kind hl hc ⟨o,hN.1,hd⟩ fun h' hv hs=>?_;refine bQ hv fun o' FL uu=>?_; clear hv;have names: ∀z∈C,z.1=x->z=(x,a,o):=fun z hz e=>AG (f:=(·.1)) (by rw [X.cn]; exact X.cd) hz hm e;have addrs: ∀z∈C,z.2.1=a->z=(x,a,o):=fun z hz e=>AG (f:=(·.2.1)) X.ca hz hm e;refine h _ ⟨rfl,rfl⟩ ⟨D,setC C x o',m,⟨X.fr.ns.sameBut hs (Ne.symm hN.2.1),fun b ob e=>(hs.2 b (fun q=>?_)).trans (X.fr.keep b ob e),X.fr.above⟩,?_,?_,by rw [CN]; exact X.cn,X.cd,by rw [CO]; exact X.ca,?_,?_,X.fc,X.fl,?_,?_⟩
 ·rw [q,hN.2.2] at e; cases e
 ·intro p hp;have other: ∀p:Addr × Obj,p.1≠a->s.heap.get? p.1=some p.2->h'.get? p.1=some p.2:=fun p hn e=>(hs.2 _ hn).trans e;refine cE hp (fun hp=>?_) (fun hp=>?_)
  ·have q:=X.nw p (mL hp);exact ⟨other p (X.ap p hp (a,o) (mL Ln)) q.1,q.2⟩
  ·refine cE hp (fun hp=>?_) (fun hp=>?_)
   ·refine l8 hp fun y hy=>?_;refine lj (rt hy) fun z hz e1 e2 e3=>?_;have q:=X.nw z.2 (mR ((mL ((List.mem_map_of_mem hz)))));rcases e3 with ⟨e3,e4⟩ | ⟨e3,rfl⟩
    ·have ez:=names z hz e3;subst ez;refine ⟨?_,e2 ▸ hN.2⟩;refine (?_:h'.get? y.2.1=some y.2.2);rw [e2,e4]; exact FL
    ·exact ⟨other y.2 (fun e=>e3 (by rw [addrs y hz e])) q.1,q.2⟩
   ·have q:=X.nw p (mR ((mR hp)));exact ⟨other p (Ne.symm (X.cp _ hm p hp)) q.1,q.2⟩
 ·intro p hp q hq;refine cE hq (fun hq=>?_) (fun hq=>?_)
  ·refine l8 hq fun y hy=>?_;refine lj (rt hy) fun z hz e1 e2 _=>?_;rw [e2];exact X.ap p hp z.2 (mL ((List.mem_map_of_mem hz)))
  ·exact X.ap p hp q (mR hq)
 ·intro y hy q hq;refine lj (rt hy) fun z hz e1 e2 _=>?_;rw [e2]; exact X.cp z hz q hq
 ·intro y hy;refine lj (rt hy) fun z hz e1 e2 e3=>?_;rw [e1,e2];refine ⟨(X.ck z hz).1,?_⟩;rcases e3 with ⟨_,e4⟩ | ⟨_,rfl⟩
  ·rw [e4]; exact ⟨_,uu⟩
  ·exact (X.ck y hz).2
 ·intro y e hp;unfold upd at hp
  by_cases hy:y=x
  ·subst hy;rw [if_pos rfl] at hp;cases hp;exact ⟨v,.inr (.inl ⟨hl,a,o',List.mem_map.mpr ⟨_,hm,by simp⟩,uu⟩),X.tm _ (.head _)⟩
  ·rw [if_neg hy] at hp;refine bQ (X.vr y e hp) fun u a' b=>?_;refine ⟨u,?_,b⟩;rcases a' with a' | ⟨a1,a2,o2,a3,a4⟩ | a'
   ·exact .inl a'
   ·exact .inr (.inl ⟨a1,a2,o2,List.mem_map.mpr ⟨_,a3,by simp [hy]⟩,a4⟩)
   ·exact .inr (.inr a')
 ·exact fun p hp=>X.tm p (.tail _ hp)
theorem vm {x:Str} {d:Sv} {Q:ai->aj->Prop} (K:fM c.env) (F:FS G c Φ ρ τ s.heap) (hx:ρ x=some d) (h: ∀v,FS G c Φ ρ ((v,d)::τ) s.heap->Q v s)
  (hn:(x == ("__classdict__" :Str))=false:=by decide):ak (aq prog w) A (KV c.env x) Q E s:=by
 refine d8 F fun D C m X=>?_; clear F;refine bQ (X.vr x d hx) fun v a b=>?_;have q:Q v s:=h v ⟨D,C,m,(X.rq b)⟩;rcases a with ⟨a1,a2⟩ | ⟨a1,a2,o,a3,a4⟩ | ⟨a1,a2,o,a3,a4,a5⟩
 ·exact kR K.kind a1 X.fr.ns a2 q
 ·exact LA K.kind a1 (X.ck _ a3).1 ⟨o,(X.nw (a2,o) (mR ((mL ((List.mem_map_of_mem a3)))))).1,a4⟩ q
 ·have ho:=(X.nw (a2,o) (mR ((mR ((X.fc _ a4)))))).1;refine Or.elim a1 (fun a1=>?_) (fun a1=>?_)
  ·exact LB K.kind a1 a3 ⟨o,ho,a5⟩ q hn
  ·exact LA K.kind a1 a3 ⟨o,ho,a5⟩ q
theorem yh {x:Str} {u:ai} {Q:ai->aj->Prop} (K:fM c.env) (F:FS G c Φ ρ τ s.heap) (hx:ρ x=some (.val u)) (h:FS G c Φ ρ ((u,.val u)::τ) s.heap->Q u s)
  (hn:(x == ("__classdict__" :Str))=false:=by decide):ak (aq prog w) A (KV c.env x) Q E s:=vm K F hx (fun v F'=>by have e:=F'.isVal; subst e; exact h F') hn
end
section
variable {prog:br} {w:bR} {G:Heap} {n:Nat} {c:Cx} {ρ sG:fQ} {mg mb:Str->Option ai}
theorem Ev.pX {e:Expr} {u:ai} (k:Ev prog w G n c ρ e (.val u)) (A:aM) (E:ai->aj->Prop) (Q:ai->aj->Prop) (Φ:nW) (τ:kA) (s:aj) (a:cQ n A) (F:FS G c Φ ρ τ s.heap)
  (h: ∀s',Sm s s'->FS G c Φ ρ ((u,.val u)::τ) s'.heap->Q u s'):ak (aq prog w) A (eval e c.env) Q E s:=k.go A E Q Φ τ s a F fun _ s' m F'=>by have e:=F'.isVal; subst e; exact h s' m F'
noncomputable def nxt (M:o9) (A:aM) (rest:List Stmt) (env:Env) (Q:Flow->aj->Prop) (E:ai->aj->Prop):Flow->aj->Prop:=fun f s=>match f with | .next=>ak M A (ik rest env) Q E s | f=>Q f s
theorem bD {M:o9} {A:aM} {env:Env} {E:ai->aj->Prop} {s:aj} {st:Stmt} {rest:List Stmt} {Q:Flow->aj->Prop} (h:ak M A (exec st env) (nxt M A rest env Q E) E s):ak M A (ik (st::rest) env) Q E s:=wpAny_execs_cons h
theorem Ev.name {x:Str} {pos:Pos} {d:Sv} (K:fM c.env) (hx:ρ x=some d) (h1:(x == ("__debug__" :Str))=false:=by decide) (h2:(x == ("__classdict__" :Str))=false:=by decide):Ev prog w G n c ρ (.Name x pos) d:=
 .mk fun A E Q Φ τ s a F h=>mz (vm K F hx (fun v F'=>h v s (Sm.refl s) F') h2) h1
theorem Ev.global {x:Str} {pos:Pos} {v:ai} (T:bL mg mb G) (K:fM c.env) (hk:c.env.kindOf x=some .globalImplicit) (hx:mg x=some v) (h1:(x == ("__debug__" :Str))=false:=by decide):
  Ev prog w G n c ρ (.Name x pos) (.val v):=.mk fun A E Q Φ τ s a F h=>
 iq K.kind hk (loadGlobal_global (by rw [K.glob]; exact T.g.keeps F.top) hx (h v s (Sm.refl s) (F.plus fun _=>rfl))) h1
theorem Ev.builtin {x:Str} {pos:Pos} {v:ai} (T:bL mg mb G) (K:fM c.env) (hk:c.env.kindOf x=some .globalImplicit) (hx:mg x=none) (hv:lV x=some v) (hn:x≠ "__name__":=by decide) (h1:(x == ("__debug__" :Str))=false:=by decide):
  Ev prog w G n c ρ (.Name x pos) (.val v):=.mk fun A E Q Φ τ s a F h=>
 iq K.kind hk (mD (by rw [K.glob]; exact T.g.keeps F.top) hx (by rw [K.blt]; exact T.b.keeps F.top) ((T.builtins x hn).trans hv) (h v s (Sm.refl s) (F.plus fun _=>rfl))) h1
end
theorem kG {α:Type} {M:o9} {A:aM} {E:ai->aj->Prop} {s:aj} {c:Prop} [Decidable c] {a b:Sem α} {Q:α->aj->Prop} (e: ¬c) (h:ak M A b Q E s):ak M A (if c then a else b) Q E s:=by rw [if_neg e]; exact h
theorem Ib {α:Type} {M:o9} {A:aM} {E:ai->aj->Prop} {s:aj} {c:Prop} [Decidable c] {a b:Sem α} {Q:α->aj->Prop} (e:c) (h:ak M A a Q E s):ak M A (if c then a else b) Q E s:=by rw [if_pos e]; exact h
theorem aK {α:Type} {M:o9} {A:aM} {E:ai->aj->Prop} {Q:α->aj->Prop} {m:Sem α} {a:α} {s:aj} (e:m=pure a) (q:Q a s):ak M A m Q E s:=by rw [e]; exact ah q
end
variable {G h h' h₀:Heap} {c:Cx} {Φ:nW} {ρ sG:fQ} {τ:kA} {D D' F1 fl D₀ chg news:Led} {C fa I a P0 tI tR dx:Addr} {m mg mb m' LI:Str->Option ai} {prog:br} {w:bR} {n i k j t1 t2 pn:Nat} {t e elt value:Expr} {d:Sv} {b:Array UInt8} {A:aM} {E Q:ai->aj->Prop} {s s₀:aj} {f u v cd dV pm cv:ai} {vs its us:List ai} {ds:List Dat} {p:Array Nat} {pos:Pos} {x y qual:Str} {es ifs:List Expr} {o o0 o':Obj} {fd:KW} {R:qc->aj->Prop} {body:List Stmt} {env:Env} {wr fp:List Addr} {S:Sc} {PP:Nat->ai->Prop} {got:Nat->fQ} {scope:iK} {RR:ai->Addr->qc->aj->Prop} {T:Env->(ai->aj->Prop)->(aj->Prop)->aj->Prop} {xs own:List Str} {params:gK} {ts:Nat->Nat} {upper:Option Expr} {L W:List Nat} {cs:List (List Int)} {items ps:Array ai} {ls:List (List Str)} {M:o9} {q:tV} {script:List Int} {κ:Ce} {ks:List Sv} {g:Array GenState} {ru:List (Str × Addr)} {SH:ExcName->Option ai}
section
variable {C:vg}
theorem iN.around (F:iN G c Φ ρ τ h D C m): ∃oL,au G ((c.env.locals,oL)::(C.led++Φ.fix)) D h:=by
 refine oz F.fr.ns fun oL h1 h2 h3 h4=>?_;refine ⟨oL,F.fr.keep,fun p hp=>?_,fun p hp q hq=>?_,Nat.le_of_lt (Nat.lt_of_le_of_lt F.fr.above F.fr.ns.lt)⟩
 ·have hLn:G.get? c.env.locals=none:=by
   cases e:G.get? c.env.locals with
   | none=>rfl
   | some o=>exact absurd (Nat.lt_of_lt_of_le (az e) F.fr.above) (Nat.lt_irrefl _)
  refine cE hp (fun hp=>?_) (fun hp=>?_)
  ·have q:=F.nw p (mL hp);exact ⟨q.1,q.2.2⟩
  ·refine bU hp ?_ (fun hp=>?_)
   ·exact ⟨h3,hLn⟩
   ·have q:=F.nw p (mR hp);exact ⟨q.1,q.2.2⟩
 ·exact bU hq ((F.nw p (mL hp)).2.1) fun hq=>F.ap p hp q hq
theorem iN.back {oL:Obj} (F:iN G c Φ ρ τ h D C m) (hL:h.get? c.env.locals=some oL) (W:au G ((c.env.locals,oL)::(C.led++Φ.fix)) D' h') (hs: ∀p∈D,p∈D'):iN G c Φ ρ τ h' D' C m:=by
 have SI:h'.get? c.env.locals=some oL:=(W.pin _ (mR ((.head _)))).1;refine ⟨⟨F.fr.ns.at' fun o e=>?_,W.keep,F.fr.above⟩,fun p hp=>?_,fun p hp q hq=>W.ap p hp q (.tail _ hq),F.cn,F.cd,F.ca,F.cp,F.ck,F.fc,fun p hp=>hs p (F.fl p hp),fun x d e=>?_,fun p hp=>(F.tm p hp).mono hs⟩
 ·rw [hL] at e; cases e; exact SI
 ·refine cE hp (fun hp=>?_) (fun hp=>?_)
  ·have q:=W.pin p (mL hp);exact ⟨q.1,W.ap p hp _ (.head _),q.2⟩
  ·have q:=W.pin p (mR ((.tail _ hp)));exact ⟨q.1,(F.nw p (mR hp)).2.1,q.2⟩
 ·refine bQ (F.vr x d e) fun v a b=>?_;exact ⟨v,a,b.mono hs⟩
end
section
variable (prog:br) (w:bR) (G:Heap)
@[irreducible] noncomputable def CQ (n:Nat) (t:ai->Sem ai) (d1 d:Sv):Prop:=
 ∀(A:aM) (E:ai->aj->Prop) (Q:ai->aj->Prop) (Φ D:Led) (v1:ai) (s:aj),cQ n A->au G Φ D s.heap->bw D v1 d1->
  (∀v s' D',Sm s s'->au G Φ D' s'.heap->(∀p∈D,p∈D')->bw D' v d->Q v s')->ak (aq prog w) A (t v1) Q E s
theorem CQ.mk {prog:br} {w:bR} {G:Heap} {t:ai->Sem ai} {d1:Sv} (h: ∀(A:aM) (E:ai->aj->Prop) (Q:ai->aj->Prop) (Φ D:Led) (v1:ai) (s:aj),cQ n A->au G Φ D s.heap->bw D v1 d1->
  (∀v s' D',Sm s s'->au G Φ D' s'.heap->(∀p∈D,p∈D')->bw D' v d->Q v s')->ak (aq prog w) A (t v1) Q E s):CQ prog w G n t d1 d:=by with_unfolding_all exact h
theorem CQ.go {prog:br} {w:bR} {G:Heap} {t:ai->Sem ai} {d1:Sv} (h:CQ prog w G n t d1 d): ∀(A:aM) (E:ai->aj->Prop) (Q:ai->aj->Prop) (Φ D:Led) (v1:ai) (s:aj),cQ n A->au G Φ D s.heap->bw D v1 d1->
  (∀v s' D',Sm s s'->au G Φ D' s'.heap->(∀p∈D,p∈D')->bw D' v d->Q v s')->ak (aq prog w) A (t v1) Q E s:=by with_unfolding_all exact h
@[irreducible] noncomputable def ny (n:Nat) (t:ai->ai->Sem ai) (d1 d2 d:Sv):Prop:=
 ∀(A:aM) (E:ai->aj->Prop) (Q:ai->aj->Prop) (Φ D:Led) (v1 v2:ai) (s:aj),cQ n A->au G Φ D s.heap->bw D v1 d1->bw D v2 d2->
  (∀v s' D',Sm s s'->au G Φ D' s'.heap->(∀p∈D,p∈D')->bw D' v d->Q v s')->ak (aq prog w) A (t v1 v2) Q E s
theorem ny.mk {prog:br} {w:bR} {G:Heap} {t:ai->ai->Sem ai} {d1 d2:Sv} (h: ∀(A:aM) (E:ai->aj->Prop) (Q:ai->aj->Prop) (Φ D:Led) (v1 v2:ai) (s:aj),cQ n A->au G Φ D s.heap->bw D v1 d1->bw D v2 d2->
  (∀v s' D',Sm s s'->au G Φ D' s'.heap->(∀p∈D,p∈D')->bw D' v d->Q v s')->ak (aq prog w) A (t v1 v2) Q E s):ny prog w G n t d1 d2 d:=by with_unfolding_all exact h
theorem ny.go {prog:br} {w:bR} {G:Heap} {t:ai->ai->Sem ai} {d1 d2:Sv} (h:ny prog w G n t d1 d2 d): ∀(A:aM) (E:ai->aj->Prop) (Q:ai->aj->Prop) (Φ D:Led) (v1 v2:ai) (s:aj),cQ n A->au G Φ D s.heap->bw D v1 d1->bw D v2 d2->
  (∀v s' D',Sm s s'->au G Φ D' s'.heap->(∀p∈D,p∈D')->bw D' v d->Q v s')->ak (aq prog w) A (t v1 v2) Q E s:=by with_unfolding_all exact h
@[irreducible] noncomputable def gR (n:Nat) (d1:Sv) (b:Bool):Prop:=
 ∀(A:aM) (E:ai->aj->Prop) (Q:Bool->aj->Prop) (Φ D:Led) (v1:ai) (s:aj),cQ n A->au G Φ D s.heap->bw D v1 d1->
  (∀s',Sm s s'->s'.heap=s.heap->Q b s')->ak (aq prog w) A (NK v1) Q E s
theorem gR.mk {prog:br} {w:bR} {G:Heap} {d1:Sv} {b:Bool} (h: ∀(A:aM) (E:ai->aj->Prop) (Q:Bool->aj->Prop) (Φ D:Led) (v1:ai) (s:aj),cQ n A->au G Φ D s.heap->bw D v1 d1->
  (∀s',Sm s s'->s'.heap=s.heap->Q b s')->ak (aq prog w) A (NK v1) Q E s):gR prog w G n d1 b:=by with_unfolding_all exact h
theorem gR.go {prog:br} {w:bR} {G:Heap} {d1:Sv} {b:Bool} (h:gR prog w G n d1 b): ∀(A:aM) (E:ai->aj->Prop) (Q:Bool->aj->Prop) (Φ D:Led) (v1:ai) (s:aj),cQ n A->au G Φ D s.heap->bw D v1 d1->
  (∀s',Sm s s'->s'.heap=s.heap->Q b s')->ak (aq prog w) A (NK v1) Q E s:=by with_unfolding_all exact h
end
theorem FS.op1 {t:ai->Sem ai} {d1:Sv} {v1:ai} (P:CQ prog w G n t d1 d) (a:cQ n A) (F:FS G c Φ ρ ((v1,d1)::τ) s.heap) (h: ∀v s',Sm s s'->FS G c Φ ρ ((v,d)::τ) s'.heap->Q v s'):ak (aq prog w) A (t v1) Q E s:=by
 refine d8 F fun D C m X=>?_; clear F;refine ex X.around fun oL W=>?_;refine P.go A E Q _ D v1 s a W (X.tm _ (.head _)) fun v s' D' sm W' hs hv=>h v s' sm ⟨D',C,m,?_⟩;have Y:=X.back (W.pin _ (mR ((.head _)))).1 W' hs;exact (Y.lq.rq hv)
theorem FS.Pf {t:ai->ai->Sem ai} {d1 d2:Sv} {v1 v2:ai} (P:ny prog w G n t d1 d2 d) (a:cQ n A) (F:FS G c Φ ρ ((v2,d2)::(v1,d1)::τ) s.heap) (h: ∀v s',Sm s s'->FS G c Φ ρ ((v,d)::τ) s'.heap->Q v s'):ak (aq prog w) A (t v1 v2) Q E s:=by
 refine d8 F fun D C m X=>?_; clear F;refine ex X.around fun oL W=>?_;refine P.go A E Q _ D v1 v2 s a W (X.tm _ (.tail _ (.head _))) (X.tm _ (.head _)) fun v s' D' sm W' hs hv=>h v s' sm ⟨D',C,m,?_⟩;have Y:=X.back (W.pin _ (mR ((.head _)))).1 W' hs;exact (Y.lq.lq.rq hv)
theorem FS.Zq {d1:Sv} {b:Bool} {v1:ai} {Q:Bool->aj->Prop} (P:gR prog w G n d1 b) (a:cQ n A) (F:FS G c Φ ρ ((v1,d1)::τ) s.heap) (h: ∀s',Sm s s'->FS G c Φ ρ τ s'.heap->Q b s'):ak (aq prog w) A (NK v1) Q E s:=by
 refine d8 F fun D C m X=>?_; clear F;refine ex X.around fun oL W=>?_;exact P.go A E Q _ D v1 s a W (X.tm _ (.head _)) fun s' sm e=>h s' sm (by rw [e]; exact FS.pop ⟨D,C,m,X⟩)
theorem FS.tell {ds:List Sv} (P:bJ prog w G n f ds d) (a:cQ n A) (F:FS G c Φ ρ (vs.zip ds++τ) s.heap) (hl:vs.length=ds.length) (h: ∀v s',Sm s s'->FS G c Φ ρ ((v,d)::τ) s'.heap->Q v s'):ak (aq prog w) A (call f vs) Q E s:=by
 refine d8 F fun D C m X=>?_; clear F;refine ex X.around fun oL W=>?_;have all: ∀(vs:List ai) (ds:List Sv),vs.length=ds.length->(∀p∈vs.zip ds,bw D p.1 p.2)->bP D vs ds:=by
  intro vs
  induction vs with
  | nil=>
   intro ds e _;cases ds with
   | nil=>exact .nil
   | cons=>cases e
  | cons v vs ih=>
   intro ds e k;cases ds with
   | nil=>cases e
   | cons d ds=>exact .cons (k (v,d) (.head _)) (ih ds (Nat.succ.inj e) fun p hp=>k p (.tail _ hp))
 refine P.go A E Q _ D vs s a W (all vs ds hl fun p hp=>X.tm p (mL hp)) fun v s' D' sm W' hs hv=>h v s' sm ⟨D',C,m,?_⟩;have Y:=X.back (W.pin _ (mR ((.head _)))).1 W' hs;exact (Y.oB (fun p hp=>by refine bU hp ?_ (fun hp=>?_); exact hv; exact Y.tm p (mR hp)))
theorem au.same {Φ:Led} (W:au G Φ D h) {s':aj} (e:s'.heap=h):au G Φ D s'.heap:=e ▸ W
theorem au.push {Φ:Led} (W:au G Φ D h) (o:Obj) (hf:o.isFreed=false):au G Φ ((h.objs.size,o)::D) (h.push o):=by
 refine ⟨fun b ob e=>av _ (W.keep b ob e),fun p hp=>?_,fun p hp q hq=>?_,by rw [bG]; exact Nat.le_succ_of_le W.sz⟩
 ·refine bU hp ?_ (fun hp=>?_)
  ·refine ⟨aJ _ hf,?_⟩;cases e:G.get? h.objs.size with
   | none=>rfl
   | some ob=>exact absurd (az (W.keep _ _ e)) (Nat.lt_irrefl _)
  ·exact ⟨av _ (W.pin p hp).1,(W.pin p hp).2⟩
 ·exact bU hp (Nat.ne_of_gt (az (W.pin q (mR hq)).1)) fun hp=>W.ap p hp q hq
theorem au.drop {Φ:Led} (W:au G Φ D h) (o:Obj):au G Φ D (h.push o):=
 ⟨fun b ob e=>av _ (W.keep b ob e),fun p hp=>⟨av _ (W.pin p hp).1,(W.pin p hp).2⟩,W.ap,by rw [bG]; exact Nat.le_succ_of_le W.sz⟩
theorem au.get {Φ:Led} (W:au G Φ D h) {p:Addr × Obj} (hp:p∈D):h.get? p.1=some p.2:=(W.pin p (mL hp)).1
theorem ny.dat {t:ai->ai->Sem ai} {d1 d2:Sv} (h: ∀(A:aM) (E:ai->aj->Prop) (Q:ai->aj->Prop) (Φ D:Led) (v1 v2:ai) (s:aj),cQ n A->au G Φ D s.heap->bw D v1 d1->bw D v2 d2->
   (∀v s',Sm s s'->s'.heap=s.heap->bw D v d->Q v s')->ak (aq prog w) A (t v1 v2) Q E s):ny prog w G n t d1 d2 d:=
 .mk fun A E Q Φ D v1 v2 s a W h1 h2 q=>h A E Q Φ D v1 v2 s a W h1 h2 fun v s' sm e hv=>q v s' D sm (W.same e) (fun _ h=>h) hv
theorem Ev.int {i:Int}:Ev prog w G n c ρ (.Constant (.int i) k pos) (.dat (.int i)):=.mk fun A E Q Φ τ s a F h=>
 aN (Q:=fun v s'=>∃t,v=.int i t/\s'={ s with toks:=s.toks + 1 }) (by
  refine (?_:ak _ _ (mkInt i) _ _ _);exact ae (KY (ah ⟨_,rfl,rfl⟩))) (fun v s' q=>by
  refine bQ q ?_; clear q; rintro t rfl rfl;exact h _ _ ⟨rfl,rfl⟩ (F.plus fun D=>.int i t)) fun _ _ e=>e
theorem Ev.str:Ev prog w G n c ρ (.Constant (.str x) k pos) (.dat (.str x)):=.mk fun A E Q Φ τ s a F h=>
 aN (Q:=fun v s'=>∃t,v=.str x t/\s'={ s with toks:=s.toks + 1 }) (by
  refine (?_:ak _ _ (mkText x) _ _ _);exact ae (KY (ah ⟨_,rfl,rfl⟩))) (fun v s' q=>by
  refine bQ q ?_; clear q; rintro t rfl rfl;exact h _ _ ⟨rfl,rfl⟩ (F.plus fun D=>.str x t)) fun _ _ e=>e
theorem Ev.bool {b:Bool}:Ev prog w G n c ρ (.Constant (.bool b) k pos) (.dat (.bool b)):=.mk fun A E Q Φ τ s a F h=>by
 refine (?_:ak _ _ (Pure.pure (w6 b)) _ _ _);exact ah (h _ _ (Sm.refl s) (F.plus fun D=>.bool b))
theorem Ev.none:Ev prog w G n c ρ (.Constant .none k pos) (.dat .none):=.mk fun A E Q Φ τ s a F h=>by
 refine (?_:ak _ _ (Pure.pure Value.none) _ _ _);exact ah (h _ _ (Sm.refl s) (F.plus fun D=>.none))
theorem Ev.bin {l r:Expr} {op:Operator} {d1 d2:Sv} (h1:Ev prog w G n c ρ l d1) (h2:Ev prog w G n c ρ r d2) (P:ny prog w G n (mE op) d1 d2 d):Ev prog w G n c ρ (.BinOp l op r pos) d:=
 .mk fun A E Q Φ τ s a F h=>wpAny_BinOp (h1.go A E _ Φ τ s a F fun v1 s1 m1 F1=>h2.go A E _ Φ _ s1 a F1 fun v2 s2 m2 F2=>F2.Pf P a fun v s' m3 F3=>h v s' ((m1.trans m2).trans m3) F3)
theorem Ev.cmp {l r:Expr} {op:CmpOp} {d1 d2:Sv} (h1:Ev prog w G n c ρ l d1) (h2:Ev prog w G n c ρ r d2) (P:ny prog w G n (dw op) d1 d2 d) (hb:Wr op r=false:=by rfl):Ev prog w G n c ρ (.Compare l [op] [r] pos) d:=
 .mk fun A E Q Φ τ s a F h=>Cf (h1.go A E _ Φ τ s a F fun v1 s1 m1 F1=>h2.go A E _ Φ _ s1 a F1 fun v2 s2 m2 F2=>F2.Pf P a fun v s' m3 F3=>h v s' ((m1.trans m2).trans m3) F3) hb
theorem Et.cmp {l r:Expr} {op:CmpOp} {d1 d2:Sv} {b:Bool} (h1:Ev prog w G n c ρ l d1) (h2:Ev prog w G n c ρ r d2) (P:ny prog w G n (dw op) d1 d2 d) (T:gR prog w G n d b) (hb:Wr op r=false:=by rfl):Et prog w G n c ρ (.Compare l [op] [r] pos) b:=
 .mk fun A E Q Φ τ s a F h=>HW (h1.go A E _ Φ τ s a F fun v1 s1 m1 F1=>h2.go A E _ Φ _ s1 a F1 fun v2 s2 m2 F2=>F2.Pf P a fun v s' m3 F3=>F3.Zq T a fun s4 m4 F4=>h s4 (((m1.trans m2).trans m3).trans m4) F4) hb
theorem Et.plain {b:Bool} (h1:Ev prog w G n c ρ e d) (T:gR prog w G n d b) (hp:isTrue e c.env (eval e c.env)=(do let v <- eval e c.env; w7 e.pos; w9 [v] (NK v)):=by intros; rfl):Et prog w G n c ρ e b:=
 .mk fun A E Q Φ τ s a F h=>isTrue_plain (h1.go A E _ Φ τ s a F fun v s1 m1 F1=>F1.Zq T a fun s2 m2 F2=>h s2 (m1.trans m2) F2) hp
theorem gR.bool {b:Bool}:gR prog w G n (.dat (.bool b)) b:=.mk fun A E Q Φ D v1 s a W hv h=>by
 exact oE hv (ah (h s (Sm.refl s) rfl))
section
variable (prog:br) (w:bR) (G:Heap)
@[irreducible] noncomputable def ic (n:Nat) (c:Cx) (ρ:fQ) (es:List Expr) (ds:List Sv):Prop:=
 ∀(A:aM) (E:ai->aj->Prop) (Q:List ai->aj->Prop) (Φ:nW) (τ:kA) (s:aj) (pos:Pos),cQ n A->FS G c Φ ρ τ s.heap->
  (∀vs s',Sm s s'->vs.length=ds.length->FS G c Φ ρ (vs.zip ds++τ) s'.heap->Q vs s')->ak (aq prog w) A (sJ (cI pos (aC es c.env))) Q E s
theorem ic.mk {prog:br} {w:bR} {G:Heap} {ds:List Sv} (h: ∀(A:aM) (E:ai->aj->Prop) (Q:List ai->aj->Prop) (Φ:nW) (τ:kA) (s:aj) (pos:Pos),cQ n A->FS G c Φ ρ τ s.heap->
  (∀vs s',Sm s s'->vs.length=ds.length->FS G c Φ ρ (vs.zip ds++τ) s'.heap->Q vs s')->ak (aq prog w) A (sJ (cI pos (aC es c.env))) Q E s):ic prog w G n c ρ es ds:=by with_unfolding_all exact h
theorem ic.go {prog:br} {w:bR} {G:Heap} {ds:List Sv} (h:ic prog w G n c ρ es ds): ∀(A:aM) (E:ai->aj->Prop) (Q:List ai->aj->Prop) (Φ:nW) (τ:kA) (s:aj) (pos:Pos),cQ n A->FS G c Φ ρ τ s.heap->
  (∀vs s',Sm s s'->vs.length=ds.length->FS G c Φ ρ (vs.zip ds++τ) s'.heap->Q vs s')->ak (aq prog w) A (sJ (cI pos (aC es c.env))) Q E s:=by with_unfolding_all exact h
end
theorem ic.nil:ic prog w G n c ρ [] []:=.mk fun A E Q Φ τ s pos a F h=>bW (h [] s (Sm.refl s) rfl F)
theorem ic.cons {ds:List Sv} (h1:Ev prog w G n c ρ e d) (h2:ic prog w G n c ρ es ds) (he:aC (e::es) c.env=(false,eval e c.env)::aC es c.env:=by rfl):ic prog w G n c ρ (e::es) (d::ds):=.mk fun A E Q Φ τ s pos a F h=>by
 refine eE (h1.go A E _ Φ τ s a F fun v s1 m1 F1=>h2.go A E _ Φ _ s1 pos a F1 fun vs s2 m2 hl F2=>h (v::vs) s2 (m1.trans m2) (by simp [hl]) (F2.temps fun p hp=>?_)) he;exact bU hp (mR ((.head _))) fun hp=>cE hp (fun hp=>mL hp) fun hp=>mR ((.tail _ hp))
theorem ic.one (h1:Ev prog w G n c ρ e d) (he:aC [e] c.env=(false,eval e c.env)::aC [] c.env:=by rfl):ic prog w G n c ρ [e] [d]:=.cons h1 .nil he
theorem ic.CR (k:ic prog w G n c ρ es [d]) (A:aM) (E:ai->aj->Prop) (Q:List ai->aj->Prop) (Φ:nW) (τ:kA) (s:aj) (pos:Pos) (a:cQ n A) (F:FS G c Φ ρ τ s.heap) (h: ∀v s',Sm s s'->FS G c Φ ρ ((v,d)::τ) s'.heap->Q [v] s'):ak (aq prog w) A (sJ (cI pos (aC es c.env))) Q E s:=k.go A E Q Φ τ s pos a F fun _ s' m hl=>sS (P:=fun vs=>FS G c Φ ρ (vs.zip [d]++τ) s'.heap->Q vs s') hl fun v F'=>h v s' m F'
theorem ic.Zr {d1 d2:Sv} (k:ic prog w G n c ρ es [d1,d2]) (A:aM) (E:ai->aj->Prop) (Q:List ai->aj->Prop) (Φ:nW) (τ:kA) (s:aj) (pos:Pos) (a:cQ n A) (F:FS G c Φ ρ τ s.heap) (h: ∀v1 v2 s',Sm s s'->FS G c Φ ρ ((v1,d1)::(v2,d2)::τ) s'.heap->Q [v1,v2] s'):ak (aq prog w) A (sJ (cI pos (aC es c.env))) Q E s:=k.go A E Q Φ τ s pos a F fun _ s' m hl=>ur (P:=fun vs=>FS G c Φ ρ (vs.zip [d1,d2]++τ) s'.heap->Q vs s') hl fun v1 v2 F'=>h v1 v2 s' m F'
theorem ic.FN (k:ic prog w G n c ρ es [.val u]) (A:aM) (E:ai->aj->Prop) (Q:List ai->aj->Prop) (Φ:nW) (τ:kA) (s:aj) (pos:Pos) (a:cQ n A) (F:FS G c Φ ρ τ s.heap) (h: ∀s',Sm s s'->FS G c Φ ρ ((u,.val u)::τ) s'.heap->Q [u] s'):ak (aq prog w) A (sJ (cI pos (aC es c.env))) Q E s:=k.CR A E Q Φ τ s pos a F fun _ s' m F'=>by have e:=F'.isVal; subst e; exact h s' m F'
theorem bw.zl: ∀{vs:List ai} {ds:List Dat},vs.length=ds.length->(∀p∈vs.zip (ds.map Sv.dat),bw D p.1 p.2)->dG D vs ds
 | [],[],_,_=>.nil
 | v::vs,d::ds,e,h=>.cons (h (v,.dat d) (.head _)) (bw.zl (Nat.succ.inj e) fun p hp=>h p (.tail _ hp))
theorem sl (h:k<=1000):k<=bF:=Nat.le_trans h (by decide +kernel)
theorem Ev.tuple (h1:ic prog w G n c ρ es (ds.map .dat)) (hz:ds.length<=1000:=by simp):Ev prog w G n c ρ (.Tuple es k pos) (.dat (.tuple ds)):=
 .mk fun A E Q Φ τ s a F h=>Hu (h1.go A E _ Φ τ s pos a F fun vs s1 m1 hl F1=>by
  rw [List.length_map] at hl;refine bC ?_ (by refine (?_:vs.toArray.size<=bF); rw [List.size_toArray,hl]; exact sl hz);refine h _ _ (m1.trans ⟨rfl,rfl⟩) ?_;have F2:=F1.new (o:={ cls:=.type "tuple",data:=.seq vs.toArray }) (v:=.ref s1.heap.objs.size) (d:=.dat (.tuple ds)) rfl (fun D hD=>?_)
  ·exact F2.temps fun p hp=>by
    exact bU hp (.head _) fun hp=>.tail _ (mR hp)
  ·exact lG (.head _) (eN (fun p hp=>.tail _ hp) (bw.zl hl fun p hp=>hD p (mL hp))))
theorem Ev.list (h1:ic prog w G n c ρ es (ds.map .dat)) (hz:ds.length<=1000:=by simp):Ev prog w G n c ρ (.List es pos) (.dat (.list ds)):=
 .mk fun A E Q Φ τ s a F h=>List_ (h1.go A E _ Φ τ s pos a F fun vs s1 m1 hl F1=>by
  rw [List.length_map] at hl;refine bC ?_ (by refine (?_:vs.toArray.size<=bF); rw [List.size_toArray,hl]; exact sl hz);refine h _ _ (m1.trans ⟨rfl,rfl⟩) ?_;have F2:=F1.new (o:={ cls:=.type "list",data:=.seq vs.toArray }) (v:=.ref s1.heap.objs.size) (d:=.dat (.list ds)) rfl (fun D hD=>?_)
  ·exact F2.temps fun p hp=>by
    exact bU hp (.head _) fun hp=>.tail _ (mR hp)
  ·exact nu (.head _) (eN (fun p hp=>.tail _ hp) (bw.zl hl fun p hp=>hD p (mL hp))))
theorem Ev.iV {f:Expr} {id:String} {ds:List Sv} (hf:Ev prog w G n c ρ f (.val (.builtin id))) (h1:ic prog w G n c ρ (e::es) ds) (P:bJ prog w G n (.builtin id) ds d) (h2:aC (e::es) c.env=(false,eval e c.env)::aC es c.env:=by rfl) (h3:((cI pos (aC es c.env)).any (·.1))=false:=by rfl) (hc:eval (.Call f (e::es) [] pos) c.env=(do eF pos (<- eval f c.env) [] (cI pos (aC (e::es) c.env)) (eG pos (bX [] c.env))):=by rfl):Ev prog w G n c ρ (.Call f (e::es) [] pos) d:=
 .mk fun A E Q Φ τ s a F h=>kT (hf.pX A E _ Φ τ s a F fun s1 m1 F1=>by
  exact bV (h1.go A E _ Φ _ s1 pos a F1.pop fun vs s2 m2 hl F2=>F2.tell P a hl fun v s3 m3 F3=>h v s3 ((m1.trans m2).trans m3) F3) h2 h3) hc
theorem Ev.kH {f:Expr} {id:String} {ds:List Sv} (hf:Ev prog w G n c ρ f (.val (.type id))) (h1:ic prog w G n c ρ (e::es) ds) (P:bJ prog w G n (.type id) ds d) (h2:aC (e::es) c.env=(false,eval e c.env)::aC es c.env:=by rfl) (h3:((cI pos (aC es c.env)).any (·.1))=false:=by rfl) (hc:eval (.Call f (e::es) [] pos) c.env=(do eF pos (<- eval f c.env) [] (cI pos (aC (e::es) c.env)) (eG pos (bX [] c.env))):=by rfl):Ev prog w G n c ρ (.Call f (e::es) [] pos) d:=
 .mk fun A E Q Φ τ s a F h=>kT (hf.pX A E _ Φ τ s a F fun s1 m1 F1=>by
  exact cD (h1.go A E _ Φ _ s1 pos a F1.pop fun vs s2 m2 hl F2=>F2.tell P a hl fun v s3 m3 F3=>h v s3 ((m1.trans m2).trans m3) F3) h2 h3) hc
theorem Ev.AH {f:Expr} {ds:List Sv} (ho:G.get? fa=some o) (hd:o.data=.func fd) (hf:Ev prog w G n c ρ f (.val (.ref fa))) (h1:ic prog w G n c ρ (e::es) ds) (P:bJ prog w G n (.ref fa) ds d) (h2:aC (e::es) c.env=(false,eval e c.env)::aC es c.env:=by rfl) (hc:eval (.Call f (e::es) [] pos) c.env=(do eF pos (<- eval f c.env) [] (cI pos (aC (e::es) c.env)) (eG pos (bX [] c.env))):=by rfl):Ev prog w G n c ρ (.Call f (e::es) [] pos) d:=
 .mk fun A E Q Φ τ s a F h=>kT (hf.pX A E _ Φ τ s a F fun s1 m1 F1=>by
  exact kZ (h':=G) ho hd (h1.go A E _ Φ _ s1 pos a F1.pop fun vs s2 m2 hl F2=>⟨F2.top _ _ ho,F2.tell P a hl fun v s3 m3 F3=>h v s3 ((m1.trans m2).trans m3) F3⟩) h2) hc
theorem Ex.nil:Ex prog w G n c ρ [] (.next ρ):=.mk fun A E Q Φ τ s a F h=>bz (h s (Sm.refl s) F)
theorem Out.trans {Q:Flow->aj->Prop} {s1:aj} {o:Out} (h:rm G c Φ τ Q s o) (m:Sm s s1):rm G c Φ τ Q s1 o:=by
 cases o with
 | next r=>exact fun s' m' F=>h s' (m.trans m') F
 | brk r=>exact fun s' m' F=>h s' (m.trans m') F
 | cont r=>exact fun s' m' F=>h s' (m.trans m') F
 | ret d=>exact fun v s' m' F=>h v s' (m.trans m') F
theorem Ex.cons {st:Stmt} {rest:List Stmt} {o:Out} (h1:Xs prog w G n c ρ st (.next sG)) (h2:Ex prog w G n c sG rest o):Ex prog w G n c ρ (st::rest) o:=
 .mk fun A E Q Φ τ s a F h=>bD (h1.go A E _ Φ τ s a F fun s1 m1 F1=>h2.go A E Q Φ τ s1 a F1 (Out.trans h m1))
theorem Ex.stop {st:Stmt} {rest:List Stmt} (h1:Xs prog w G n c ρ st (.ret d)):Ex prog w G n c ρ (st::rest) (.ret d):=
 .mk fun A E Q Φ τ s a F h=>bD (h1.go A E _ Φ τ s a F fun v s1 m1 F1=>h v s1 m1 F1)
theorem Ex.brk {st:Stmt} {rest:List Stmt} (h1:Xs prog w G n c ρ st (.brk sG)):Ex prog w G n c ρ (st::rest) (.brk sG):=
 .mk fun A E Q Φ τ s a F h=>bD (h1.go A E _ Φ τ s a F fun s1 m1 F1=>h s1 m1 F1)
theorem Xs.ret (h1:Ev prog w G n c ρ e d):Xs prog w G n c ρ (.Return (some e) pos) (.ret d):=
 .mk fun A E Q Φ τ s a F h=>eU (h1.go A E _ Φ τ s a F fun v s1 m1 F1=>h v s1 m1 (F1.names fun _ _ e=>nomatch e))
theorem Xs.RX {b1 b2:List Stmt} {o:Out} (ht:Et prog w G n c ρ t true) (h:Ex prog w G n c ρ b1 o):Xs prog w G n c ρ (.If t b1 b2 pos) o:=
 .mk fun A E Q Φ τ s a F hq=>Cg (ht.go A E _ Φ τ s a F fun s1 m1 F1=>by rw [if_pos rfl]; exact h.go A E Q Φ τ s1 a F1 (Out.trans hq m1))
theorem Xs.Ay {b1 b2:List Stmt} {o:Out} (ht:Et prog w G n c ρ t false) (h:Ex prog w G n c ρ b2 o):Xs prog w G n c ρ (.If t b1 b2 pos) o:=
 .mk fun A E Q Φ τ s a F hq=>Cg (ht.go A E _ Φ τ s a F fun s1 m1 F1=>by rw [if_neg aI]; exact h.go A E Q Φ τ s1 a F1 (Out.trans hq m1))
theorem Xs.brk:Xs prog w G n c ρ (.Break pos) (.brk ρ):=
 .mk fun A E Q Φ τ s a F hq=>wpAny_Break (hq s (Sm.refl s) F)
noncomputable def sH (c:Cx) (x:Str):Prop:=c.env.kindOf x=some .local\/(c.env.kindOf x=some .cell/\x∈c.own)
theorem store {Q:Unit->aj->Prop} (K:fM c.env) (F:FS G c Φ ρ ((v,d)::τ) s.heap) (hl:sH c x) (h: ∀s',Sm s s'->FS G c Φ (upd ρ x d) τ s'.heap->Q () s'):ak (aq prog w) A (l6 c.env x v) Q E s:=by
 rcases hl with hl | ⟨hl,ho⟩
 ·exact AF K F hl h
 ·exact CP K F hl ho h
theorem Xs.assign {p:Pos} (K:fM c.env) (hl:sH c x) (h1:Ev prog w G n c ρ e d) (hw:ya e (some (.Name x p)) pos.line c.env=pure false:=by rfl):
  Xs prog w G n c ρ (.Assign [.Name x p] e pos) (.next (upd ρ x d)):=
 .mk fun A E Q Φ τ s a F h=>aZ (h1.go A E _ Φ τ s a F fun v s1 m1 F1=>store K F1 hl fun s2 m2 F2=>h s2 (m1.trans m2) F2) hw
theorem Xs.aug {op:Operator} {p:Pos} {d0 d1:Sv} (K:fM c.env) (hl:sH c x) (h0:ρ x=some d0) (h1:Ev prog w G n c ρ e d1) (P:ny prog w G n (inplaceOp op) d0 d1 d) (h2:(x == ("__classdict__" :Str))=false:=by decide):Xs prog w G n c ρ (.AugAssign (.Name x p) op e pos) (.next (upd ρ x d)):=
 .mk fun A E Q Φ τ s a F h=>wpAny_AugAssign_Name (vm K F h0 (fun v0 F0=>h1.go A E _ Φ _ s a F0 fun v s1 m1 F1=>F1.Pf P a fun v2 s2 m2 F2=>store K F2 hl fun s3 m3 F3=>h s3 ((m1.trans m2).trans m3) F3) h2)
theorem Xs.mono {st:Stmt} {uP FP:fQ} (h:Xs prog w G n c ρ st (.next uP)) (hs: ∀x d,FP x=some d->uP x=some d):Xs prog w G n c ρ st (.next FP):=
 .mk fun A E Q Φ τ s a F hq=>h.go A E Q Φ τ s a F fun s1 m1 F1=>hq s1 m1 (F1.names hs)
theorem Ex.mono {b:List Stmt} {uP FP:fQ} (h:Ex prog w G n c ρ b (.next uP)) (hs: ∀x d,FP x=some d->uP x=some d):Ex prog w G n c ρ b (.next FP):=
 .mk fun A E Q Φ τ s a F hq=>h.go A E Q Φ τ s a F fun s1 m1 F1=>hq s1 m1 (F1.names hs)
theorem Xs.while {b:List Stmt} (inv:Nat->fQ) (k:Nat) (h0: ∀x d,inv 0 x=some d->ρ x=some d) (ht: ∀i,i < k->Et prog w G n c (inv i) t true) (he:Et prog w G n c (inv k) t false) (hb: ∀i,i < k->Ex prog w G n c (inv i) b (.next (inv (i + 1)))):Xs prog w G n c ρ (.While t b [] pos) (.next (inv k)):=
 .mk fun A E Q Φ τ s a F hq=>by
  refine wpAny_While (OX (fun m s'=>∃i,i + m=k/\Sm s s'/\FS G c Φ (inv i) τ s'.heap) (fun m s' hI=>?_) k ⟨0,by lia,Sm.refl s,F.names h0⟩);refine iU hI fun i hi m1 F1=>?_; clear hI
  by_cases hm:i < k
  ·refine (ht i hm).go A _ _ Φ τ s' a F1 fun s2 m2 F2=>?_;rw [if_pos rfl];refine (hb i hm).go A _ _ Φ τ s2 a F2 fun s3 m3 F3=>?_;exact ⟨m - 1,jS hi hm,i + 1,jT hi hm,(m1.trans m2).trans m3,F3⟩
  ·obtain rfl:i=k:=jE hi hm;refine he.go A _ _ Φ τ s' a F1 fun s2 m2 F2=>?_;rw [if_neg aI];exact bz (hq s2 (m1.trans m2) F2)
theorem dB: ∀(x:Str) (d:Sv),(fun _=>Option.none:fQ) x=some d->ρ x=some d:=fun _ _ h=>nomatch h
theorem aP {x0:Str} {d0:Sv} (h: ∀x d,sG x=some d->ρ x=some d) (h0:ρ x0=some d0): ∀x d,upd sG x0 d0 x=some d->ρ x=some d:=fun x d e=>by
 unfold upd at e
 by_cases hx:x=x0
 ·rw [if_pos hx] at e; rw [hx, <- e]; exact h0
 ·rw [if_neg hx] at e; exact h x d e
noncomputable def ownsTuple (T:String):Bool:=["enumerate","zip","dict_itemiterator","dict_reverseitemiterator","odict_iterator","itertools.zip_longest","itertools.pairwise"].contains T
noncomputable def gT (h:Heap) (I:Addr):Prop:=∃o T,h.get? I=some o/\o.cls=.type T/\ownsTuple T=false
theorem gT.go {Q:Unit->aj->Prop} (hp:gT s.heap I) (t:Expr) (v:ai) (hQ:Q () s):
  ak (aq prog w) A (jf t (.ref I) v) Q E s:=by
 refine qo hp fun o T ho hc hT=>?_; clear hp;cases t with
 | Tuple es k p=>
  cases v with
  | ref T'=>
   unfold jf;refine ae (gC ho ?_);rw [hc];cases hd:o.data with
   | fields vs=>
    refine (?_:ak (aq prog w) A (if (["enumerate","zip","dict_itemiterator","dict_reverseitemiterator","odict_iterator","itertools.zip_longest","itertools.pairwise"].contains T && vs[0]? == some (aQ T'))=true then _ else _) Q E s);rw [if_neg (by
     intro h;unfold ownsTuple at hT;rw [hT,kW] at h;cases h)]
    exact ah hQ
   | _=>exact ah hQ
  | _=>exact ah hQ
 | List es p=>
  cases v with
  | ref T'=>
   unfold jf;refine ae (gC ho ?_);rw [hc];cases hd:o.data with
   | fields vs=>
    refine (?_:ak (aq prog w) A (if (["enumerate","zip","dict_itemiterator","dict_reverseitemiterator","odict_iterator","itertools.zip_longest","itertools.pairwise"].contains T && vs[0]? == some (aQ T'))=true then _ else _) Q E s);rw [if_neg (by
     intro h;unfold ownsTuple at hT;rw [hT,kW] at h;cases h)]
    exact ah hQ
   | _=>exact ah hQ
  | _=>exact ah hQ
 | _=>exact ah hQ
noncomputable def fE (M:o9) (A:aM) (env:Env) (R:qc->aj->Prop):ai->aj->Prop:=notedBy M A env fun e s'=>R (.error e) s'
noncomputable def fB (R:qc->aj->Prop) (I:Nat->aj->Prop) (n:Nat):Flow->aj->Prop:=fun f s=>match f with
 | .next=>∃m,m < n/\I m s
 | .cont=>∃m,m < n/\I m s
 | .brk=>R (.ok .next) s
 | .ret v=>R (.ok (.ret v)) s
noncomputable def fT (M:o9) (A:aM) (env:Env) (R:qc->aj->Prop) (target:Expr) (body:List Stmt) (I:Nat->aj->Prop) (n:Nat) (v:ai):Unit->aj->Prop:=
 fun _ s=>ak M A (sf target env v) (fun _ s=>ak M A (ik body env) (fB R I n) (fE M A env R) s) (fE M A env R) s
noncomputable def fN (M:o9) (A:aM) (env:Env) (R:qc->aj->Prop) (target:Expr) (body orelse:List Stmt) (I:Nat->aj->Prop) (n:Nat) (it:ai):Option ai->aj->Prop:=fun r s=>match r with
 | none=>ak M A (ik orelse env) (fun f s=>R (.ok f) s) (fE M A env R) s
 | some v=>ak M A (jf target it v) (fT M A env R target body I n v) (fE M A env R) s
theorem qN {target:Expr} {it:ai} {orelse:List Stmt} (I:Nat->aj->Prop) (turn: ∀n s,I n s->ak (aq prog w) A (gD it) (fN (aq prog w) A env R target body orelse I n it) (fE (aq prog w) A env R) s) (n:Nat) (h:I n s):eO (aq prog w) A (.forLoop target it body orelse env) R s:=by
 refine codeAny_loop' rfl I (fun n s hI=>?_) n h;refine (?_:ak _ _ ((forTurn target it body orelse env).onRaise (fun x=>do yb x env; Au x)) _ _ s);refine KZ ?_;unfold forTurn;refine ae (bO (ae (um (aN (turn n s hI) (fun r bI cZ=>?_) fun _ _ h'=>bO h'))));cases r with
 | none=>exact ah (.inr ⟨rfl,codeAny_block cZ⟩)
 | some v=>
  refine ae (aN cZ (fun _ bI cZ=>?_) fun _ _ h'=>h');refine ae (aN cZ (fun _ cF l9=>ae (aN l9 (fun f jv qO=>?_) fun _ _ h'=>h')) fun _ _ h'=>h');cases f with
  | next=>exact ah (.inl ⟨rfl,qO⟩)
  | cont=>exact ah (.inl ⟨rfl,qO⟩)
  | brk=>exact ah qO
  | ret v=>exact ah qO
structure EL (prog:br) (w:bR) (A:aM) (G:Heap) (Φ D:Led) (ds:List Sv) (I:Addr) (fp wr:List Addr) (P:Nat->ai->Prop) (St:Nat->Heap->Prop):Prop where
 walks:FD prog w A I fp wr ds.length P St
 off: ∀b∈wr,G.get? b=none/\∀p∈D++Φ,p.1≠b
 foot: ∀b∈fp,b∈wr\/∃o,(b,o)∈D
 live: ∀i h,St i h->∀b∈wr,∃o,h.get? b=some o
 item: ∀i u,P i u->∀d,ds[i]? =some d->bw D u d
 plain: ∀i h,St i h->gT h I
section
variable (prog:br) (w:bR) (G:Heap)
@[irreducible] noncomputable def bM (n:Nat) (d:Sv) (ds:List Sv):Prop:=
 ∀(A:aM) (E:ai->aj->Prop) (Q:ai->aj->Prop) (Φ D:Led) (v:ai) (s:aj),cQ n A->au G Φ D s.heap->bw D v d->
  (∀I fp wr P St s' D',Sm s s'->au G Φ D' s'.heap->(∀p∈D,p∈D')->EL prog w A G Φ D' ds I fp wr P St->St 0 s'.heap->Q (.ref I) s')->ak (aq prog w) A (uJ v) Q E s
theorem bM.mk {prog:br} {w:bR} {G:Heap} {ds:List Sv} (h: ∀(A:aM) (E:ai->aj->Prop) (Q:ai->aj->Prop) (Φ D:Led) (v:ai) (s:aj),cQ n A->au G Φ D s.heap->bw D v d->
  (∀I fp wr P St s' D',Sm s s'->au G Φ D' s'.heap->(∀p∈D,p∈D')->EL prog w A G Φ D' ds I fp wr P St->St 0 s'.heap->Q (.ref I) s')->ak (aq prog w) A (uJ v) Q E s):bM prog w G n d ds:=by with_unfolding_all exact h
theorem bM.go {prog:br} {w:bR} {G:Heap} {ds:List Sv} (h:bM prog w G n d ds): ∀(A:aM) (E:ai->aj->Prop) (Q:ai->aj->Prop) (Φ D:Led) (v:ai) (s:aj),cQ n A->au G Φ D s.heap->bw D v d->
  (∀I fp wr P St s' D',Sm s s'->au G Φ D' s'.heap->(∀p∈D,p∈D')->EL prog w A G Φ D' ds I fp wr P St->St 0 s'.heap->Q (.ref I) s')->ak (aq prog w) A (uJ v) Q E s:=by with_unfolding_all exact h
end
noncomputable def vn (h:Heap) (wr:List Addr):Led:=wr.filterMap fun b=>(h.get? b).map fun o=>(b,o)
theorem pI {p:Addr × Obj} (hp:p∈vn h wr):p.1∈wr/\h.get? p.1=some p.2:=by
 refine bQ (List.mem_filterMap.mp hp) fun b hb e=>?_;refine bQ (bg.mp e) ?_; rintro o ho rfl;exact ⟨hb,ho⟩
theorem yi {b:Addr} (hb:b∈wr) (ho:h.get? b=some o):(b,o)∈vn h wr:=List.mem_filterMap.mpr ⟨b,hb,by rw [ho]; rfl⟩
noncomputable def Pg (G:Heap) (L:Addr) (wr:List Addr) (Λ:Led):Prop:=∀b∈wr,G.get? b=none/\b≠L/\∀p∈Λ,p.1≠b
noncomputable def Lp (G:Heap) (c:Cx) (Φ:nW) (D:Led) (wr:List Addr) (P:Led->Heap->Prop) (ρ:fQ) (τ:kA) (h:Heap):Prop:=
 ∃D' C' m',iN G c Φ ρ τ h D' C' m'/\(∀p∈D,p∈D')/\Pg G c.env.locals wr (D'++(C'.led++Φ.fix))/\P D' h
theorem iN.iX {C:vg} (F:iN G c Φ ρ τ h D C m) (hw:Pg G c.env.locals wr (D++(C.led++Φ.fix))) (hk: ∀b o,b∉wr->h.get? b=some o->h'.get? b=some o):iN G c Φ ρ τ h' D C m:=by
 refine ⟨⟨F.fr.ns.at' fun o e=>hk _ o (fun q=>(hw _ q).2.1 rfl) e,fun b o e=>hk b o (fun q=>by rw [(hw b q).1] at e; cases e) (F.fr.keep b o e),F.fr.above⟩,fun p hp=>?_,F.ap,F.cn,F.cd,F.ca,F.cp,F.ck,F.fc,F.fl,F.vr,F.tm⟩;have q:=F.nw p hp;exact ⟨hk _ _ (fun z=>(hw _ z).2.2 p hp rfl) q.1,q.2⟩
theorem iN.inner {C:vg} (F:iN G c Φ ρ τ h D C m) (hw:Pg G c.env.locals wr (D++(C.led++Φ.fix))):
  iN G c ⟨vn h wr++Φ.fix,D⟩ ρ τ h D C m:=by
 refine ⟨F.fr,fun p hp=>?_,fun p hp q hq=>?_,F.cn,F.cd,F.ca,fun x hx q hq=>?_,F.ck,fun p hp=>mR ((F.fc p hp)),fun _ h=>h,F.vr,F.tm⟩
 ·refine cE hp (fun hp=>?_) (fun hp=>?_)
  ·exact F.nw p (mL hp)
  ·refine cE hp (fun hp=>?_) (fun hp=>?_)
   ·exact F.nw p (mR ((mL hp)))
   ·refine cE hp (fun hp=>?_) (fun hp=>?_)
    ·have q:=pI hp;exact ⟨q.2,(hw _ q.1).2.1,(hw _ q.1).1⟩
    ·exact F.nw p (mR ((mR hp)))
 ·exact cE hq (fun hq=>F.ap p hp q (mL hq)) fun hq=>cE hq (fun hq=>(hw _ (pI hq).1).2.2 p (mL hp)) fun hq=>F.ap p hp q (mR hq)
 ·exact cE hq (fun hq=>(hw _ (pI hq).1).2.2 x.2 (mR ((mL ((List.mem_map_of_mem hx)))))) fun hq=>F.cp x hx q hq
theorem iN.outer {C':vg} (F:iN G c ⟨vn h wr++Φ.fix,D⟩ ρ τ h' D' C' m') (hc: ∀p∈c.free,p∈Φ.fix) (hf: ∀p∈Φ.floor,p∈D) (hl: ∀b∈wr,∃o,h.get? b=some o):
  iN G c Φ ρ τ h' D' C' m'/\(∀b∈wr,∀o,h.get? b=some o->h'.get? b=some o)/\(∀p∈D,p∈D')/\∀b∈wr,G.get? b=none/\b≠c.env.locals/\∀p∈D'++(C'.led++Φ.fix),p.1≠b\/p∈Φ.fix:=by
 have at': ∀b∈wr,∀o,h.get? b=some o->h'.get? b=some o/\b≠c.env.locals/\G.get? b=none:=fun b hb o ho=>
  F.nw (b,o) (mR ((mR ((mL ((yi hb ho)))))))
 refine ⟨⟨F.fr,fun p hp=>F.nw p ?_,fun p hp q hq=>F.ap p hp q ?_,F.cn,F.cd,F.ca,fun x hx q hq=>F.cp x hx q (mR hq),F.ck,hc,fun p hp=>F.fl p (hf p hp),F.vr,F.tm⟩,fun b hb o ho=>(at' b hb o ho).1,F.fl,fun b hb=>?_⟩
 ·exact cE hp (fun hp=>mL hp) fun hp=>cE hp (fun hp=>mR ((mL hp))) fun hp=>mR ((mR ((mR hp))))
 ·exact cE hq (fun hq=>mL hq) fun hq=>mR ((mR hq))
 ·refine ex (hl b hb) fun o ho=>?_;have q:=at' b hb o ho;refine ⟨q.2.2,q.2.1,fun p hp=>?_⟩;have hm:(b,o)∈vn h wr++Φ.fix:=mL ((yi hb ho));refine cE hp (fun hp=>?_) (fun hp=>?_)
  ·exact .inl (F.ap p hp (b,o) (mR hm))
  ·refine cE hp (fun hp=>?_) (fun hp=>?_)
   ·refine l8 hp fun x hx=>?_;exact .inl (F.cp x hx (b,o) hm)
   ·exact .inr hp
theorem AI {C':vg} (h1: ∀b∈wr,G.get? b=none/\b≠c.env.locals/\∀p∈D'++(C'.led++Φ.fix),p.1≠b\/p∈Φ.fix) (h2: ∀b∈wr,∀p∈Φ.fix,p.1≠b):
  Pg G c.env.locals wr (D'++(C'.led++Φ.fix)):=fun b hb=>⟨(h1 b hb).1,(h1 b hb).2.1,fun p hp=>((h1 b hb).2.2 p hp).elim id (h2 b hb p)⟩
section
variable {P P':Led->Heap->Prop}
theorem Lp.El {r:Prop} (L:Lp G c Φ D wr P ρ τ h) (f: ∀D' C' m',iN G c Φ ρ τ h D' C' m'->(∀p∈D,p∈D')->Pg G c.env.locals wr (D'++(C'.led++Φ.fix))->P D' h->r):r:=pH L f
theorem Lp.st {S:Heap->Prop} (L:Lp G c Φ D wr (fun _=>S) ρ τ h):S h:=L.El fun _ _ _ _ _ _ z=>z
theorem Lp.names (L:Lp G c Φ D wr P ρ τ h) (h0: ∀x d,sG x=some d->ρ x=some d):Lp G c Φ D wr P sG τ h:=
 L.El fun D' C' m' X s a z=>⟨D',C',m',X.EK (fun x d e=>X.vr x d (h0 x d e)),s,a,z⟩
theorem Lp.temps {je:kA} (L:Lp G c Φ D wr P ρ τ h) (h0: ∀p∈je,p∈τ):Lp G c Φ D wr P ρ je h:=
 L.El fun D' C' m' X s a z=>⟨D',C',m',X.oB (fun p hp=>X.tm p (h0 p hp)),s,a,z⟩
theorem Lp.fs (L:Lp G c Φ D wr P ρ τ h):FS G c Φ ρ τ h:=L.El fun D' C' m' X _ _ _=>⟨D',C',m',X⟩
theorem Lp.mono (L:Lp G c Φ D wr P ρ τ h) (k: ∀D',P D' h->P' D' h):Lp G c Φ D wr P' ρ τ h:=L.El fun D' C' m' X s a z=>⟨D',C',m',X,s,a,k D' z⟩
theorem Lp.iX (L:Lp G c Φ D wr P ρ τ h) (hk: ∀b o,b∉wr->h.get? b=some o->h'.get? b=some o) (st: ∀D',P D' h->P' D' h'):Lp G c Φ D wr P' ρ τ h':=
 L.El fun D' C' m' X s a z=>⟨D',C',m',X.iX a hk,s,a,st D' z⟩
theorem Lp.plus (L:Lp G c Φ D wr P ρ τ h) (hu: ∀D',(∀p∈D,p∈D')->bw D' u d):Lp G c Φ D wr P ρ ((u,d)::τ) h:=
 L.El fun D' C' m' X s a z=>⟨D',C',m',X.rq (hu D' s),s,a,z⟩
theorem Lp.turn {r:Prop} (L:Lp G c Φ D wr P ρ τ h) (hl: ∀b∈wr,∃o,h.get? b=some o) (fK: ∀b∈fp,b∈wr\/∃o,(b,o)∈D) (fr: ∀D1 D2 h1,(∀p∈D1,p∈D2)->(∀b∈fp,∀o,h.get? b=some o->h1.get? b=some o)->P D1 h->P' D2 h1) (f: ∀Φ',FS G c Φ' ρ τ h->(∀{uP τ1 h1},FS G c Φ' uP τ1 h1->Lp G c Φ D wr P' uP τ1 h1)->r):r:=by
 refine L.El fun D' C' m' X s a z=>f ⟨vn h wr++Φ.fix,D'⟩ ⟨D',C',m',X.inner a⟩ fun {uP τ1 h1} F=>?_;refine d8 F fun D3 C3 m3 X3=>?_;refine ve (X3.outer X.fc X.fl hl) fun Y k1 k2 k3=>?_;refine ⟨D3,C3,m3,Y,fun p hp=>k2 p (s p hp),AI k3 fun b hb p hp=>(a b hb).2.2 p (mR (mR hp)),fr _ _ _ k2 (fun b hb o ho=>?_) z⟩;refine (fK b hb).elim (fun hb=>k1 b hb o ho) fun hb=>ex hb fun o' FL=>?_;exact aH (ho.symm.trans (X.nw (b,o') (mL (s _ FL))).1) ▸ (Y.nw (b,o') (mL (k2 _ (s _ FL)))).1
theorem Lp.put (L:Lp G c Φ D (a::wr) P ρ τ h) (hn:a∉wr) (fK: ∀b∈fp,b∈wr\/∃o,(b,o)∈D) (hs:cz a h h') (fr: ∀D',(∀b∈fp,∀o,h.get? b=some o->h'.get? b=some o)->P D' h->P' D' h'):
  Lp G c Φ D (a::wr) P' ρ τ h':=L.El fun D' C' m' X s k z=>
 ⟨D',C',m',X.iX (wr:=[a]) (fun b hb=>k b (by rw [List.mem_singleton.mp hb]; exact .head _)) fun b o hb e=>(hs.2 b fun q=>hb (q ▸ .head _)).trans e,s,k,fr D' (fun b hb o ho=>
  (hs.2 b fun q=>(fK b hb).elim (fun hb=>hn (q ▸ hb)) fun hb=>ex hb fun o' FL=>(k a (.head _)).2.2 _ (mL (s _ FL)) q).trans ho) z⟩
end
theorem FS.iter {ds:List Sv} (P:bM prog w G n d ds) (a:cQ n A) (F:FS G c Φ ρ ((v,d)::τ) s.heap) (h: ∀I fp wr P St s' D,Sm s s'->Lp G c Φ D wr (fun _=>St 0) ρ τ s'.heap->FD prog w A I fp wr ds.length P St->
   (∀b∈fp,b∈wr\/∃o,(b,o)∈D)->(∀i h,St i h->∀b∈wr,∃o,h.get? b=some o)->(∀i u,P i u->∀d,ds[i]? =some d->bw D u d)->(∀i h,St i h->gT h I)->Q (.ref I) s'):ak (aq prog w) A (uJ v) Q E s:=by
 refine d8 F fun D C m X=>?_; clear F;refine ex X.around fun oL W=>?_;refine P.go A E Q _ D v s a W (X.tm _ (.head _)) fun I fp wr P St s' D' sm W' hs hI st=>?_;refine h I fp wr P St s' D' sm ⟨D',C,m,(X.back (W.pin _ (mR (.head _))).1 W' hs).lq,fun _ h=>h,fun b hb=>⟨(hI.off b hb).1,fun e=>?_,fun p hp=>?_⟩,st⟩ hI.walks hI.foot hI.live hI.item hI.plain
 ·exact (hI.off b hb).2 (c.env.locals,oL) (mR (.head _)) e.symm
 ·exact cE hp (fun hp=>(hI.off b hb).2 p (mL hp)) fun hp=>(hI.off b hb).2 p (mR (.tail _ hp))
@[irreducible] noncomputable def dm (prog:br) (w:bR) (G:Heap) (n:Nat) (c:Cx) (t:Expr) (d:Sv) (ρ sG:fQ):Prop:=
 ∀(A:aM) (E:ai->aj->Prop) (Q:Unit->aj->Prop) (Φ:nW) (τ:kA) (s:aj) (v:ai),cQ n A->FS G c Φ ρ ((v,d)::τ) s.heap->(∀s',Sm s s'->FS G c Φ sG τ s'.heap->Q () s')->ak (aq prog w) A (sf t c.env v) Q E s
theorem dm.mk (h: ∀(A:aM) (E:ai->aj->Prop) (Q:Unit->aj->Prop) (Φ:nW) (τ:kA) (s:aj) (v:ai),cQ n A->FS G c Φ ρ ((v,d)::τ) s.heap->(∀s',Sm s s'->FS G c Φ sG τ s'.heap->Q () s')->ak (aq prog w) A (sf t c.env v) Q E s):dm prog w G n c t d ρ sG:=by with_unfolding_all exact h
theorem dm.go (h:dm prog w G n c t d ρ sG): ∀(A:aM) (E:ai->aj->Prop) (Q:Unit->aj->Prop) (Φ:nW) (τ:kA) (s:aj) (v:ai),cQ n A->FS G c Φ ρ ((v,d)::τ) s.heap->(∀s',Sm s s'->FS G c Φ sG τ s'.heap->Q () s')->ak (aq prog w) A (sf t c.env v) Q E s:=by with_unfolding_all exact h
theorem dm.name {p:Pos} (K:fM c.env) (hl:sH c x):dm prog w G n c (.Name x p) d ρ (upd ρ x d):=.mk fun A E Q Φ τ s v a F h=>nK (store K F hl h)
noncomputable def Goes (prog:br) (w:bR) (G:Heap) (n:Nat) (c:Cx) (ρ:fQ) (b:List Stmt) (sG:fQ):Prop:=Ex prog w G n c ρ b (.next sG)\/Ex prog w G n c ρ b (.cont sG)
noncomputable def Ph (prog:br) (w:bR) (G:Heap) (n:Nat) (c:Cx) (ρ:fQ) (b:List Stmt) (o:Out):Prop:=(∃ρb,o=.next ρb/\Ex prog w G n c ρ b (.brk ρb))\/∃d,o=.ret d/\Ex prog w G n c ρ b (.ret d)
theorem N5 {b:List Stmt} {ds:List Sv} {Q:Flow->aj->Prop} {s0:aj} {St:Nat->Heap->Prop} (a:cQ n A) {i0:Nat} {inv:Nat->fQ} (L:Lp G c Φ D wr (fun _=>St i0) (inv i0) τ s.heap) (W:FD prog w A I fp wr ds.length PP St) (fK: ∀b∈fp,b∈wr\/∃o,(b,o)∈D) (gA: ∀i h,St i h->∀b∈wr,∃o,h.get? b=some o) (fq: ∀i u,PP i u->∀d,ds[i]? =some d->bw D u d) (dQ: ∀i h,St i h->gT h I) {o:Out} (Lq:i0<=k) (hk:k<=ds.length) (Ic:k=ds.length->o=.next (inv k)) (ht: ∀i d,i<=k->ds[i]? =some d->dm prog w G n c t d (inv i) (got i)) (hb: ∀i,i0<=i->i < k->Goes prog w G n c (got i) b (inv (i + 1))) (AJ:k < ds.length->Ph prog w G n c (got k) b o) (m0:Sm s0 s) (hq:rm G c Φ τ Q s0 o) (hR: ∀f s',Q f s'->R (.ok f) s'):
  eO (aq prog w) A (.forLoop t (.ref I) b [] c.env) R s:=by
 refine qN (fun j s'=>∃i,i + j=ds.length/\(i0<=i/\i<=k)/\Sm s0 s'/\Lp G c Φ D wr (fun _=>St i) (inv i) τ s'.heap) (fun j s' hI=>?_) (ds.length - i0) ⟨i0,Nat.add_sub_of_le (Nat.le_trans Lq hk),⟨Nat.le_refl _,Lq⟩,m0,L⟩;refine lj hI fun i pJ Lr sm L=>?_; clear hI
 by_cases fG:i < ds.length
 ·refine W.item i s' _ _ fG L.st fun u h' tk hP mJ iY=>?_;have Ig:ds[i]? =some ds[i]:=List.getElem?_eq_getElem fG;refine ((L.iX (P':=fun _=>St (i + 1)) iY fun _ _=>mJ).plus fun D' hs=>(fq i u hP _ Ig).mono hs).turn (gA _ _ mJ) fK (fun _ _ h1 _ k z=>W.frame _ _ h1 z k) fun Φ' F2 back=>?_;refine (dQ _ _ mJ).go t u ((ht i _ Lr.2 Ig).go A _ _ Φ' τ _ u a F2 fun s3 m3 F3=>?_);have N6:Sm s0 s3:=sm.trans ⟨m3.gens,m3.os⟩
  by_cases hkk:i < k
  ·have fin: ∀s4,Sm s3 s4->FS G c Φ' (inv (i + 1)) τ s4.heap->∃m,m < j/\∃i,i + m=ds.length/\(i0<=i/\i<=k)/\Sm s0 s4/\Lp G c Φ D wr (fun _=>St i) (inv i) τ s4.heap:=fun s4 m4 F4=>⟨j - 1,jS pJ fG,i + 1,jT pJ fG,⟨Nat.le_succ_of_le Lr.1,hkk⟩,N6.trans m4,back F4⟩;exact (hb i Lr.1 hkk).elim (fun hx=>hx.go A _ _ Φ' τ s3 a F3 fin) fun hx=>hx.go A _ _ Φ' τ s3 a F3 fin
  ·obtain rfl:i=k:=aE Lr.2 hkk;refine (AJ fG).elim (fun hx=>bQ hx fun ρb eo hy=>?_) fun hx=>bQ hx fun dr eo hy=>?_
   ·rw [eo] at hq;exact hy.go A _ _ Φ' τ s3 a F3 fun s4 m4 F4=>hR _ _ (hq s4 (N6.trans m4) (back F4).fs)
   ·rw [eo] at hq;exact hy.go A _ _ Φ' τ s3 a F3 fun v s4 m4 F4=>hR _ _ (hq v s4 (N6.trans m4) (back F4).fs)
 ·have ei:i=ds.length:=jE pJ fG;have ek:k=ds.length:=Nat.le_antisymm hk (ei ▸ Lr.2);subst ei;refine W.done s' _ _ L.st fun h' tk iY=>bz ?_;rw [Ic ek,ek] at hq;exact hR _ _ (hq _ (sm.trans ⟨rfl,rfl⟩) (L.iX (P':=fun _ _=>True) iY fun _ _=>trivial).fs)
theorem Xs.for {iter:Expr} {b:List Stmt} {ds:List Sv} (hi:Ev prog w G n c ρ iter d) (P:bM prog w G n d ds) (inv:Nat->fQ) (got:Nat->fQ) (h0: ∀x d,inv 0 x=some d->ρ x=some d) (o:Out) (k:Nat) (hk:k<=ds.length) (Ic:k=ds.length->o=.next (inv k)) (ht: ∀i d,i<=k->ds[i]? =some d->dm prog w G n c t d (inv i) (got i)) (hb: ∀i,i < k->Ex prog w G n c (got i) b (.next (inv (i + 1)))\/Ex prog w G n c (got i) b (.cont (inv (i + 1)))) (AJ:k < ds.length->(∃ρb,o=.next ρb/\Ex prog w G n c (got k) b (.brk ρb))\/∃d,o=.ret d/\Ex prog w G n c (got k) b (.ret d)) (uv: ∀x,cO iter c.env x=pure x:=by intro _; rfl):Xs prog w G n c ρ (.For t iter b [] pos) o:=.mk fun A E Q Φ τ s a F hq=>
 FE (hi.go A E _ Φ τ s a F fun v s1 m1 F1=>F1.iter P a fun I fp wr PP St s2 D m2 L W fK gA fq dQ=>
  N5 a (L.names h0) W fK gA fq dQ (Nat.zero_le _) hk Ic ht (fun i _=>hb i) AJ (m1.trans m2) hq fun _ _ h=>h) uv
noncomputable def gU (scope:iK) (ρ:fQ):fQ:=fun y=>if scope.names.lookup y=some .free then ρ y else none
noncomputable def oF (scope:iK) (env:Env) (ρ:fQ):Bool:=scope.names.all fun x=>x.2 != .free || ((env.kindOf x.1 == some .cell || env.kindOf x.1 == some .free) && (ρ x.1).isSome)
noncomputable def eR (scope:iK) (env:Env):List (Str × Addr):=scope.names.foldl (fun cs x=>if x.2 == .free then (x.1,(env.cells.lookup x.1).getD 0)::cs else cs) []
noncomputable def N7 (env:Env) (x:Str × jd) (cs:List (Str × Addr)):Sem (ForInStep (List (Str × Addr))):=
 if x.2 == .free then do let a <- cellOf env x.1; pure (be ((x.1,a)::cs)) else pure (be cs)
theorem lJ: ∀(names:List (Str × jd)) (acc:List (Str × Addr)),(∀x∈names,x.2=.free->(env.cells.lookup x.1).isSome=true)->
  forIn names acc (N7 env)=(pure (names.foldl (fun cs x=>if x.2 == .free then (x.1,(env.cells.lookup x.1).getD 0)::cs else cs) acc):Sem (List (Str × Addr)))
 | [],acc,_=>rfl
 | (y,k)::r,acc,h=>by
  rw [List.forIn_cons,List.foldl_cons];cases hk:(k == bS) with
  | true=>
   have hs:=h (y,k) (.head _) (by simpa using hk);refine ex (ia.mp hs) fun a ha=>?_;have Zs:env.cells.lookup y=some a:=ha;have e:N7 env (y,k) acc=pure (be ((y,a)::acc)):=by
    unfold N7;have e:cellOf env y=pure a:=by unfold cellOf; rw [Zs]
    simp only [hk,if_true];rw [e]; rfl
   rw [e];refine (?_:forIn r ((y,a)::acc) (N7 env)=_);rw [lJ r _ fun x hx=>h x (.tail _ hx)];simp only [hk,if_true,Zs,Option.getD_some]
  | false=>
   have e:N7 env (y,k) acc=pure (be acc):=by
    unfold N7;simp only [hk,aV,if_false]
   rw [e];refine (?_:forIn r acc (N7 env)=_);rw [lJ r _ fun x hx=>h x (.tail _ hx)];simp only [hk,aV,if_false]
theorem lM (h: ∀x∈scope.names,x.2=.free->(env.cells.lookup x.1).isSome=true):ff scope env=pure (eR scope env):=by
 have q:=lJ (env:=env) scope.names [] h;have e:ff scope env=(forIn scope.names [] (N7 env) >>= fun s=>pure s):=rfl;rw [e,q]; rfl
theorem zm: ∀(names:List (Str × jd)) (acc:List (Str × Addr)),(acc.lookup y=some ((env.cells.lookup y).getD 0)\/((acc.lookup y=none\/True)/\(y,bS)∈names))->
  (∀z a,(z,a)∈acc->a=(env.cells.lookup z).getD 0)->
  (names.foldl (fun cs (x:Str × jd)=>if x.2 == .free then (x.1,(env.cells.lookup x.1).getD 0)::cs else cs) acc).lookup y=some ((env.cells.lookup y).getD 0)
 | [],acc,h,_=>by
  refine Or.elim h (fun h=>?_) (fun h=>?_)
  ·exact h
  ·exact nomatch h.2
 | (z,k)::r,acc,h,LJ=>by
  rw [List.foldl_cons]
  by_cases hk:(k == bS)=true
  ·simp only [hk,if_true];refine zm r _ ?_ ?_
   ·by_cases hy:y=z
    ·left;subst hy;simp [List.lookup_cons]
    ·refine Or.elim h (fun h=>?_) (fun h=>?_)
     ·left;have:(y == z)=false:=by simpa using hy
      rw [List.lookup_cons,this]; exact h
     ·right;refine ⟨.inr trivial,?_⟩;refine xA h.2 (fun e=>?_) (fun e=>?_)
      ·exact absurd (congrArg Prod.fst e) hy
      ·exact e
   ·intro u a hm;refine xA hm (fun e=>?_) (fun e=>?_)
    ·cases e; rfl
    ·exact LJ u a e
  ·simp only [hk,if_false];refine zm r acc ?_ LJ;refine Or.elim h (fun h=>?_) (fun h=>?_)
   ·exact .inl h
   ·right;refine ⟨.inr trivial,?_⟩;refine xA h.2 (fun e=>?_) (fun e=>?_)
    ·exact absurd (by cases e; rfl) hk
    ·exact e
theorem tW (hm:(y,bS)∈scope.names) (ha:env.cells.lookup y=some a):(eR scope env).lookup y=some a:=by
 have:=zm (env:=env) (y:=y) scope.names [] (.inr ⟨.inr trivial,hm⟩) (fun _ _ h=>nomatch h);rw [ha] at this;exact this
theorem mem_of_lookupK {α:Type} {l:List (Str × α)} {n:Str} {k:α} (h:l.lookup n=some k):(n,k)∈l:=nV (List.lookup_eq_some_iff.mp h) fun l1 l2 e _=>e ▸ mR (.head _)
theorem mO: ∀{names:List (Str × jd)} {x:Str},names.lookup x=some .free->
  (names.map fun (n,k)=>if (k == bS && env.scope.kind == .function && env.kindOf n == some .cell) then (n,Hv) else (n,k)).lookup x=some .free\/
  (names.map fun (n,k)=>if (k == bS && env.scope.kind == .function && env.kindOf n == some .cell) then (n,Hv) else (n,k)).lookup x=some .cell
 | [],_,h=>by simp at h
 | (n,k)::r,x,h=>by
  rw [List.map_cons];dsimp only;cases hx:x == n with
  | true=>
   simp only [List.lookup_cons,hx] at h;cases h
   by_cases hc:(bS == bS && env.scope.kind == .function && env.kindOf n == some .cell)=true
   ·right; rw [if_pos hc]; simp only [List.lookup_cons,hx]
   ·left; rw [if_neg hc]; simp only [List.lookup_cons,hx]
  | false=>
   simp only [List.lookup_cons,hx] at h
   by_cases hc:(k == bS && env.scope.kind == .function && env.kindOf n == some .cell)=true
   ·rw [if_pos hc]; simp only [List.lookup_cons,hx]; exact mO h
   ·rw [if_neg hc]; simp only [List.lookup_cons,hx]; exact mO h
section
variable (prog:br) (w:bR) (G:Heap)
@[irreducible] noncomputable def nA (n:Nat) (c:Cx) (ρ:fQ) (ifs:List Expr) (b:Bool):Prop:=
 ∀(A:aM) (E:ai->aj->Prop) (Q:Bool->aj->Prop) (Φ:nW) (τ:kA) (s:aj),cQ n A->FS G c Φ ρ τ s.heap->
  (∀s',Sm s s'->FS G c Φ ρ τ s'.heap->Q b s')->
  ak (aq prog w) A (forIn ifs true fun e r=>if r=true then do let ok <- isTrue e c.env (eval e c.env); pure (be ok) else pure (be r)) Q E s
theorem nA.mk {prog:br} {w:bR} {G:Heap} {b:Bool} (h: ∀(A:aM) (E:ai->aj->Prop) (Q:Bool->aj->Prop) (Φ:nW) (τ:kA) (s:aj),cQ n A->FS G c Φ ρ τ s.heap->
  (∀s',Sm s s'->FS G c Φ ρ τ s'.heap->Q b s')->
  ak (aq prog w) A (forIn ifs true fun e r=>if r=true then do let ok <- isTrue e c.env (eval e c.env); pure (be ok) else pure (be r)) Q E s):nA prog w G n c ρ ifs b:=by with_unfolding_all exact h
theorem nA.go {prog:br} {w:bR} {G:Heap} {b:Bool} (h:nA prog w G n c ρ ifs b): ∀(A:aM) (E:ai->aj->Prop) (Q:Bool->aj->Prop) (Φ:nW) (τ:kA) (s:aj),cQ n A->FS G c Φ ρ τ s.heap->
  (∀s',Sm s s'->FS G c Φ ρ τ s'.heap->Q b s')->
  ak (aq prog w) A (forIn ifs true fun e r=>if r=true then do let ok <- isTrue e c.env (eval e c.env); pure (be ok) else pure (be r)) Q E s:=by with_unfolding_all exact h
end
theorem nA.nil:nA prog w G n c ρ [] true:=.mk fun A E Q Φ τ s a F h=>wpAny_tests_nil (h s (Sm.refl s) F)
theorem nA.one {b:Bool} (h1:Et prog w G n c ρ e b):nA prog w G n c ρ [e] b:=.mk fun A E Q Φ τ s a F h=>wpAny_tests_one (h1.go A E Q Φ τ s a F h)
noncomputable def ry {α:Type} (p:Nat->Bool) (f:Nat->α) (i:Nat):List α:=(List.range i).filterMap fun j=>if p j then some (f j) else none
theorem vo {α:Type} (p:Nat->Bool) (f:Nat->α) (i:Nat):ry p f (i + 1)=ry p f i++(if p i then [f i] else []):=by
 unfold ry;rw [List.range_succ,List.filterMap_append]
 congr 1
 cases h:p i <;> simp [h]
theorem FQ {α:Type} (p:Nat->Bool) (f:Nat->α) (i:Nat):(ry p f i).length<=i:=by
 refine Nat.le_trans (List.length_filterMap_le _ _) ?_;simp
theorem iN.SJ (F:iN G c Φ ρ τ h D [] m):au G Φ.fix D h:=
 ⟨F.fr.keep,fun p hp=>let q:=F.nw p hp;⟨q.1,q.2.2⟩,F.ap,Nat.le_of_lt (Nat.lt_of_le_of_lt F.fr.above F.fr.ns.lt)⟩
noncomputable def cN (M:o9) (A:aM) (env:Env) (Ee:ai->aj->Prop) (target:Expr) (it:ai) (Z T:aj->Prop):Option ai->aj->Prop:=fun r s=>match r with
 | none=>Z s
 | some v=>ak M A (jf target it v) (fun _ s=>ak M A (sf target env v) (fun _ s=>T s) Ee s) Ee s
noncomputable def Pj (M:o9) (A:aM) (elt:Expr) (id:String) (acc:ai) (env:Env) (Ee:ai->aj->Prop) (Nx:aj->Prop):aj->Prop:=fun s=>
 ak M A (eval elt env) (fun x s=>ak M A (call (.builtin id) [acc,x]) (fun _ s=>Nx s) Ee s) Ee s
noncomputable def N8 (M:o9) (A:aM) (ifs:List Expr) (elt:Expr) (acc:ai) (env:Env) (Ee:ai->aj->Prop) (Nx:aj->Prop):aj->Prop:=fun s=>
 ak M A (forIn ifs true fun c r=>if r=true then do let ok <- isTrue c env (eval c env); pure (be ok) else pure (be r)) (fun ok s=>if ok=true then Pj M A elt "list.append" acc env Ee Nx s else Nx s) Ee s
theorem AK {target iter:Expr} {it acc:ai} (I:Nat->aj->Prop) (turn: ∀n s,I n s->ak (aq prog w) A (gD it) (cN (aq prog w) A env (fE (aq prog w) A env R) target it (R (.ok .next)) (N8 (aq prog w) A ifs elt acc env (fE (aq prog w) A env R) fun s=>∃m,m < n/\I m s)) (fE (aq prog w) A env R) s) (n:Nat) (h:I n s):eO (aq prog w) A (.compLoop (.ListComp elt [⟨target,iter,ifs,0⟩] scope pos) 0 it acc env) R s:=by
 refine codeAny_loop rfl I (fun n s hI=>?_) n h;refine (?_:ak _ A ((Vf (.ListComp elt [⟨target,iter,ifs,0⟩] scope pos) 0 it acc env).onRaise (fun x=>do yb x env; Au x)) _ _ s);refine KZ ?_;rw [compTurn_list];refine ae (bO (ae (aN (turn n s hI) (fun r bI cZ=>?_) fun _ _ h'=>h')));cases r with
 | none=>exact ah cZ
 | some v=>
  refine ae (aN cZ (fun _ bI cZ=>?_) fun _ _ h'=>h');refine ae (aN cZ (fun _ cF l9=>ae (aN l9 (fun ok jv qO=>?_) fun _ _ h'=>h')) fun _ _ h'=>h');cases ok with
  | false=>exact ah ⟨rfl,qO⟩
  | true=>
   exact ae (ae (aN qO (fun x zo LK=>ae (aN LK (fun _ Pk Ih=>ah (ah ⟨rfl,Ih⟩)) fun _ _ h'=>h')) fun _ _ h'=>h'))
noncomputable def sU (scope:iK) (c:Cx) (Ca:Addr) (Λ:Led):Cx:=⟨aX scope (eR scope c.env) Ca c.env,[],Λ⟩
noncomputable def Acc (S:Heap->Prop) (La:Addr) (OK:Led->Obj->Prop):Led->Heap->Prop:=fun D h=>S h/\∃o,h.get? La=some o/\OK D o
theorem LL {cZ:Heap} {D1:Led} {C:vg} {oL:Obj} {Ca:Addr} {S:Heap->Prop} {OK:Led->Obj->Prop} (kh:oF scope c.env ρ=true) (X:iN G c Φ ρ τ h D1 C m) (WL:au G ((c.env.locals,oL)::(C.led++Φ.fix)) D1 h) (hD: ∀p∈D,p∈D1) (hw:Pg G c.env.locals wr (D1++(C.led++Φ.fix))) (hl: ∀b∈wr,∃o,h.get? b=some o) (hC:h.objs.size < Ca) (Ii:cZ.Ns Ca (fun _=>none)) (old: ∀b o,h.get? b=some o->cZ.get? b=some o) (LJ:cZ.get? h.objs.size=some o0) (st:S cZ) (ok:OK D1 o0):
  Lp G (sU scope c Ca ((c.env.locals,oL)::(C.led++Φ.fix))) ⟨(c.env.locals,oL)::(C.led++Φ.fix),D1⟩ D (h.objs.size::wr) (Acc S h.objs.size OK) (gU scope ρ) [] cZ:=by
 have SK: ∀p:Addr × Obj,h.get? p.1=some p.2->p.1≠Ca:=fun p e=>Nat.ne_of_lt (Nat.lt_trans (az e) hC);have gs:G.objs.size<=h.objs.size:=Nat.le_trans X.fr.above (Nat.le_of_lt X.fr.ns.lt);refine ⟨D1,[],_,⟨⟨Ii,fun b o e=>old b o (X.fr.keep b o e),Nat.le_trans gs (Nat.le_of_lt hC)⟩,fun q hq=>?_,fun q hq r hr=>WL.ap q hq r hr,rfl,List.nodup_nil,List.nodup_nil,nm,nm,fun q hq=>hq,fun q hq=>hq,fun y d e=>?_,nm⟩,hD,fun b hb=>bU hb ?_ fun hb=>ex (hl b hb) fun o ho=>?_,st,o0,LJ,ok⟩
 ·have q0:=WL.pin q hq;exact ⟨old _ _ q0.1,SK q q0.1,q0.2⟩
 ·unfold gU at e
  by_cases hy:scope.names.lookup y=some .free
  ·rw [if_pos hy] at e;refine bQ (X.vr y d e) fun v hv hd=>?_;refine ⟨v,.inr (.inr ⟨mO hy,?_⟩),hd⟩;have qP:=mem_of_lookupK hy;have hk:=List.all_eq_true.mp kh _ qP;refine Or.elim hv (fun hv=>ea hv fun a1 a2=>?_) fun hv=>Or.elim hv (fun hv=>ea hv fun a1 hv=>nV hv fun a2 o a3 a4=>?_) fun hv=>ea hv fun a1 hv=>qo hv fun a2 o a3 a4 a5=>?_
   ·rw [a1] at hk;cases hk
   ·exact ⟨a2,o,tW qP (X.ck _ a3).1,.tail _ (mL (List.mem_map_of_mem a3)),a4⟩
   ·exact ⟨a2,o,tW qP a3,.tail _ (mR (X.fc _ a4)),a5⟩
  ·rw [if_neg hy] at e; cases e
 ·refine ⟨fJ.mpr fun o e=>absurd (az e) (Nat.not_lt.mpr gs),Nat.ne_of_lt hC,fun q hq=>Nat.ne_of_lt (az (WL.pin q hq).1)⟩
 ·refine ⟨(hw b hb).1,SK (b,o) ho,fun q hq=>cE hq (fun hq=>(hw b hb).2.2 q (mL hq)) fun hq=>bU hq (Ne.symm (hw b hb).2.1) fun hq=>(hw b hb).2.2 q (mR hq)⟩
theorem Ij {D1:Led} {C C':vg} {La Ca:Addr} {oL:Obj} {uP:fQ} (X:iN G c Φ ρ τ h D1 C m) (WC:h.get? c.env.locals=some oL) (Y:iN G (sU scope c Ca ((c.env.locals,oL)::(C.led++Φ.fix))) ⟨(c.env.locals,oL)::(C.led++Φ.fix),D1⟩ uP [] h' D' C' m') (hw:Pg G Ca (La::wr) (D'++(C'.led++((c.env.locals,oL)::(C.led++Φ.fix))))) (hLa:h'.get? La=some o) (hd:bw ((La,o)::D') (.ref La) d) (hC:G.get? Ca=none):
  ∃oC,h'.get? Ca=some oC/\(∃m',h'.Ns Ca m')/\(∀q∈Φ.fix,q.1≠Ca)/\FS G c ⟨(Ca,oC)::Φ.fix,Φ.floor⟩ ρ ((.ref La,d)::τ) h':=by
 have e:C'=[]:=List.map_eq_nil_iff.mp Y.cn;subst e;have LM: ∀q∈D'++((c.env.locals,oL)::(C.led++Φ.fix)),q.1≠Ca:=fun q hq=>(Y.nw q hq).2.1;have LN:=hw La (.head _);have Z:=X.back WC Y.SJ Y.fl;refine oz Y.fr.ns fun oC n1 n2 n3 n4=>⟨oC,n3,⟨m',Y.fr.ns⟩,fun q hq=>LM q (mR (.tail _ (mR hq))),(La,o)::D',C,m,?_⟩;refine ⟨Z.fr,fun q hq=>cE hq (fun hq=>bU hq ?_ fun hq=>Z.nw q (mL hq)) fun hq=>cE hq (fun hq=>Z.nw q (mR (mL hq))) fun hq=>bU hq ?_ fun hq=>Z.nw q (mR (mR hq)),fun q hq r hr=>?_,Z.cn,Z.cd,Z.ca,fun x hx q hq=>bU hq (LM x.2 (mR (.tail _ (mL (List.mem_map_of_mem hx))))) (Z.cp x hx q),Z.ck,fun q hq=>.tail _ (Z.fc q hq),fun q hq=>.tail _ (Z.fl q hq),fun x d e0=>bQ (Z.vr x d e0) fun v a1 a2=>⟨v,a1,a2.mono fun q hq=>.tail _ hq⟩,fun q hq=>bU hq hd fun hq=>(Z.tm q hq).mono fun q hq=>.tail _ hq⟩
 ·have hr':r∈C.led++Φ.fix\/r=(Ca,oC):=cE hr (fun hr=>.inl (mL hr)) fun hr=>xA hr .inr fun hr=>.inl (mR hr);refine Or.elim hr' (fun hr=>bU hq (Ne.symm (LN.2.2 r (mR (.tail _ hr)))) fun hq=>Z.ap q hq r hr) fun hr=>hr ▸ bU hq LN.2.1 fun hq=>LM q (mL hq)
 ·exact ⟨hLa,Ne.symm (LN.2.2 (c.env.locals,oL) (mR (.head _))),LN.1⟩
 ·exact ⟨n3,Ne.symm (LM (c.env.locals,oL) (mR (.head _))),hC⟩
theorem EM {ds:List Sv} {RR:Addr->qc->aj->Prop} {cF:aj} {St:Nat->Heap->Prop} {OK:Nat->Led->Obj->Prop} {dS:Sv} (a:cQ n A) (K:fM c.env) (kh:oF scope c.env ρ=true) (vp: ∀y∈scope.names,y.2≠ .cell) (yj:scope.kind=.function) (WD:o0.isFreed=false) (loop: ∀(env:Env) (R:qc->aj->Prop) (s:aj) (J:Nat->aj->Prop),(∀n s,J n s->ak (aq prog w) A (gD (.ref I)) (cN (aq prog w) A env (fE (aq prog w) A env R) t (.ref I) (R (.ok .next)) (T env (fE (aq prog w) A env R) fun s=>∃m,m < n/\J m s)) (fE (aq prog w) A env R) s)->
   ∀n,J n s->eO (aq prog w) A (.compLoop e 0 (.ref I) (.ref cF.heap.objs.size) env) R s) (start: ∀(env:Env) (R:qc->aj->Prop) (s:aj),eO (aq prog w) A (.compLoop e 0 (.ref I) (.ref cF.heap.objs.size) env) R s->ak (aq prog w) A (uJ (.ref I)) (fun it s'=>eO (aq prog w) A (.compLoop e 0 it (.ref cF.heap.objs.size) env) R s') (notedBy (aq prog w) A env fun x s'=>R (.error x) s') s->
   eO (aq prog w) A (.compStart e 0 (.ref I) (.ref cF.heap.objs.size) env) R s) (take: ∀Ca Λ i d,fM (sU scope c Ca Λ).env->ds[i]? =some d->dm prog w G n (sU scope c Ca Λ) t d (gU scope ρ) (got i)) (step: ∀Ca Λ Φ0 i,fM (sU scope c Ca Λ).env->i < ds.length->∀(Nx:aj->Prop) Ee s3 Φ',FS G (sU scope c Ca Λ) Φ' (got i) [] s3.heap->
   (∀{uP τ1 h1},FS G (sU scope c Ca Λ) Φ' uP τ1 h1->Lp G (sU scope c Ca Λ) Φ0 D (cF.heap.objs.size::wr) (Acc (St (i + 1)) cF.heap.objs.size (OK i)) uP τ1 h1)->
   (∀s',Sm s3 s'->Lp G (sU scope c Ca Λ) Φ0 D (cF.heap.objs.size::wr) (Acc (St (i + 1)) cF.heap.objs.size (OK (i + 1))) (gU scope ρ) [] s'.heap->Nx s')->cF.heap.objs.size∉wr->T (sU scope c Ca Λ).env Ee Nx s3) (mono: ∀i D D' o,(∀p∈D,p∈D')->OK i D o->OK i D' o) (ok0: ∀D,OK 0 D o0) (okS: ∀D' o,OK ds.length D' o->bw ((cF.heap.objs.size,o)::D') (.ref cF.heap.objs.size) dS) (L:Lp G c Φ D wr (fun _=>St 0) ρ τ cF.heap) (W:FD prog w A I fp wr ds.length PP St) (fK: ∀b∈fp,b∈wr\/∃o,(b,o)∈D) (gA: ∀i h,St i h->∀b∈wr,∃o,h.get? b=some o) (fq: ∀i u,PP i u->∀d,ds[i]? =some d->bw D u d) (dQ: ∀i h,St i h->gT h I) (SM: ∀Ca s' oC,Sm cF s'->s'.heap.get? Ca=some oC->(∃m',s'.heap.Ns Ca m')->(∀q∈Φ.fix,q.1≠Ca)->FS G c ⟨(Ca,oC)::Φ.fix,Φ.floor⟩ ρ ((.ref cF.heap.objs.size,dS)::τ) s'.heap->RR Ca (.ok .next) s'):
  ak (aq prog w) A (mF scope c.env.globals (eR scope c.env) [] c.env.qual none .none (some c.env)) (fun AL zo=>
   eO (aq prog w) A (.compStart e 0 (.ref I) (.ref cF.heap.objs.size) { AL with scope:=relabel scope c.env }) (RR AL.locals) zo) E { cF with heap:=cF.heap.push o0 }:=by
 refine sj vp nm (fun cZ Pn Ik=>?_) yj;have hC:cF.heap.objs.size < (cF.heap.push o0).objs.size:=bG (h:=cF.heap) (o:=o0) ▸ Nat.lt_succ_self _;refine L.El fun D1 C m X hD hw st=>ex X.around fun oL WL=>?_;have old: ∀b o,cF.heap.get? b=some o->cZ.get? b=some o:=fun b o e=>Ik.extBut b o (Nat.ne_of_lt (Nat.lt_trans (az e) hC)) (av _ (av _ e));have N9:St 0 cZ:=W.frame _ _ _ st fun b _ o e=>old b o e;have L1:=LL (D:=D) (S:=St 0) (OK:=OK 0) kh X WL hD hw (gA _ _ st) hC Pn old (Ik.extBut _ _ (Nat.ne_of_lt hC) (av _ (aJ _ WD))) N9 (ok0 _);have Oa:cF.heap.objs.size∉wr:=fun hm=>ex (gA _ _ st _ hm) fun o ho=>Nat.lt_irrefl _ (az ho);have hG:G.get? (cF.heap.push o0).objs.size=none:=fJ.mpr fun o e=>absurd (az (X.fr.keep _ _ e)) (Nat.not_lt.mpr (Nat.le_of_lt hC));have K':fM (sU scope c (cF.heap.push o0).objs.size ((c.env.locals,oL)::(C.led++Φ.fix))).env:=⟨yj,K.glob,K.blt⟩;have go:=loop (sU scope c (cF.heap.push o0).objs.size ((c.env.locals,oL)::(C.led++Φ.fix))).env (RR (cF.heap.push o0).objs.size) { cF with heap:=cZ }
  (fun j s'=>∃i,i + j=ds.length/\Sm cF s'/\Lp G (sU scope c (cF.heap.push o0).objs.size ((c.env.locals,oL)::(C.led++Φ.fix))) ⟨(c.env.locals,oL)::(C.led++Φ.fix),D1⟩ D (cF.heap.objs.size::wr) (Acc (St i) cF.heap.objs.size (OK i)) (gU scope ρ) [] s'.heap) (fun j s' hI=>?_) ds.length ⟨0,Nat.zero_add _,⟨rfl,rfl⟩,L1⟩
 ·exact start _ _ _ go (W.self 0 _ _ _ N9 go)
 refine iU hI fun i pJ sm L=>?_; clear hI;have WE:St i s'.heap/\∃o,s'.heap.get? cF.heap.objs.size=some o:=L.El fun _ _ _ _ _ _ z=>⟨z.1,bQ z.2 fun o ho _=>⟨o,ho⟩⟩
 by_cases fG:i < ds.length
 ·refine W.item i s' _ _ fG WE.1 fun u h' tk hP mJ iY=>?_;have Ig:ds[i]? =some ds[i]:=List.getElem?_eq_getElem fG;refine ((L.iX (P':=Acc (St (i + 1)) cF.heap.objs.size (OK i)) (fun b o hb=>iY b o fun q=>hb (.tail _ q)) fun D' z=>⟨mJ,bQ z.2 fun o ho k=>⟨o,iY _ _ Oa ho,k⟩⟩).plus fun D' hs=>(fq i u hP _ Ig).mono hs).turn (P':=Acc (St (i + 1)) cF.heap.objs.size (OK i)) (fp:=cF.heap.objs.size::fp)
   (fun b hb=>bU hb (ex WE.2 fun o ho=>⟨o,iY _ _ Oa ho⟩) (gA _ _ mJ b)) (fun b hb=>bU hb (.inl (.head _)) fun hb=>(fK b hb).elim (fun z=>.inl (.tail _ z)) .inr)
   (fun D1 D2 h1 hs k z=>⟨W.frame _ _ h1 z.1 fun b hb=>k b (.tail _ hb),bQ z.2 fun o ho y=>⟨o,k _ (.head _) o ho,mono _ _ _ _ hs y⟩⟩) fun Φ' F2 back=>?_
  refine (dQ _ _ mJ).go t u ((take _ _ i _ K' Ig).go A _ _ Φ' [] _ u a F2 fun s3 m3 F3=>?_);exact step _ _ _ i K' fG _ _ s3 Φ' F3 back (fun s4 m4 L'=>⟨j - 1,jS pJ fG,i + 1,jT pJ fG,(sm.trans ⟨m3.gens,m3.os⟩).trans m4,L'⟩) Oa
 ·have ei:i=ds.length:=jE pJ fG;subst ei;refine W.done s' _ _ WE.1 fun h' tk iY=>?_;refine (L.iX (P':=Acc (fun _=>True) cF.heap.objs.size (OK ds.length)) (fun b o hb=>iY b o fun q=>hb (.tail _ q)) fun D' z=>⟨trivial,bQ z.2 fun o ho k=>⟨o,iY _ _ Oa ho,k⟩⟩).El fun D' C' m' Y hs ap z=>?_;refine bQ z.2 fun o ho k=>lj (Ij X (WL.pin _ (mR (.head _))).1 Y ap ho (okS _ _ k) hG) fun oC c1 c2 c3 c4=>?_;exact SM _ _ oC ⟨sm.gens,sm.os⟩ c1 c2 c3 c4
theorem yk {iter:Expr} {ds:List Sv} {p:Nat->Bool} {f:Nat->Dat} {cF:aj} {St:Nat->Heap->Prop} (a:cQ n A) (K:fM c.env) (kh:oF scope c.env ρ=true) (vp: ∀y∈scope.names,y.2≠ .cell) (yj:scope.kind=.function) (hz:ds.length<=bF) (jk: ∀(L':Addr) (Fr:Led) (i:Nat) (d:Sv),ds[i]? =some d->fM (aX scope (eR scope c.env) L' c.env)->(∀y d,gU scope ρ y=some d->got i y=some d)/\
   dm prog w G n ⟨aX scope (eR scope c.env) L' c.env,[],Fr⟩ t d (gU scope ρ) (got i)/\nA prog w G n ⟨aX scope (eR scope c.env) L' c.env,[],Fr⟩ (got i) ifs (p i)/\
   (p i=true->Ev prog w G n ⟨aX scope (eR scope c.env) L' c.env,[],Fr⟩ (got i) elt (.dat (f i)))) (L:Lp G c Φ D wr (fun _=>St 0) ρ τ cF.heap) (W:FD prog w A I fp wr ds.length PP St) (fK: ∀b∈fp,b∈wr\/∃o,(b,o)∈D) (gA: ∀i h,St i h->∀b∈wr,∃o,h.get? b=some o) (fq: ∀i u,PP i u->∀d,ds[i]? =some d->bw D u d) (dQ: ∀i h,St i h->gT h I) (SM: ∀acc Ca s' oC,Sm cF s'->s'.heap.get? Ca=some oC->(∃m',s'.heap.Ns Ca m')->(∀q∈Φ.fix,q.1≠Ca)->FS G c ⟨(Ca,oC)::Φ.fix,Φ.floor⟩ ρ ((acc,.dat (.list (ry p f ds.length)))::τ) s'.heap->RR acc Ca (.ok .next) s'):
  ak (aq prog w) A (newList []) (fun acc jv=>ak (aq prog w) A (mF scope c.env.globals (eR scope c.env) [] c.env.qual none .none (some c.env)) (fun AL zo=>
   eO (aq prog w) A (.compStart (.ListComp elt [⟨t,iter,ifs,0⟩] scope pos) 0 (.ref I) acc { AL with scope:=relabel scope c.env }) (RR acc AL.locals) zo) E jv) E cF:=by
 refine bC (EM (T:=N8 (aq prog w) A ifs elt (.ref cF.heap.objs.size)) (RR:=RR (.ref cF.heap.objs.size)) (OK:=fun i D o=>∃ys e,o=listOf (List.toArray ys) e/\dG D ys (ry p f i)) a K kh vp yj rfl (fun env R s J=>AK J) (fun env R s=>codeAny_compStart_list)
  (fun Ca Λ i d k e=>(jk Ca Λ i d e k).2.1) (fun Ca Λ Φ0 i k hi Nx Ee s3 Φ' F3 back fin Oa=>?_) (fun i D D' o hs z=>nV z fun ys e eo q=>⟨ys,e,eo,q.mono hs⟩) (fun D=>⟨[],0,rfl,.nil⟩) (fun D' o z=>nV z fun ys e eo q=>eo ▸ nu (.head _) (eN (fun q hq=>.tail _ hq) q)) L W fK gA fq dQ (fun Ca=>SM _ Ca))
 refine ve (jk Ca Λ i _ (List.getElem?_eq_getElem hi) k) fun g0 g1 g2 g3=>g2.go A _ _ Φ' [] s3 a F3 fun s4 m4 F4=>?_
 by_cases hp:p i=true
 ·rw [if_pos hp];refine (g3 hp).go A _ _ Φ' [] s4 a F4 fun v s5 m5 F5=>?_;refine (back F5).El fun D3 C3 m3 Y hs ap z=>bQ z.2 fun o ho q=>nV q fun ys e eo LO=>?_;subst eo;have hlen:ys.length<=bF:=by
   have e1:=LO.length;have e2:=FQ p f i;exact Nat.le_trans (Nat.le_of_eq e1) (Nat.le_trans e2 (Nat.le_trans (Nat.le_of_lt hi) hz))
  refine wpAny_list_append_plain (items:=List.toArray ys) ⟨e,ho⟩ (fun h6 SN WG=>ex SN fun e6 SN=>?_) (by rw [List.size_toArray]; exact hlen);refine fin _ (m4.trans ⟨m5.gens,m5.os⟩) ((Lp.put (P:=fun D' h=>St (i + 1) h/\D'=D3) ⟨D3,C3,m3,Y,hs,ap,z.1,rfl⟩ Oa fK WG fun D' k z'=>⟨W.frame _ _ _ z'.1 k,_,SN,ys++[v],e6,by simp,z'.2 ▸ ?_⟩).names g0 |>.temps nm);rw [vo,if_pos hp];exact LO.append (DatAll.one (Y.tm (v,.dat (f i)) (.head _)))
 ·rw [if_neg hp];refine fin _ m4 (((back F4).names g0).mono fun D' z=>⟨z.1,bQ z.2 fun o ho q=>⟨o,ho,?_⟩⟩);rw [vo,if_neg hp,List.append_nil];exact q
theorem zp (kh:oF scope c.env ρ=true) (F:FS G c Φ ρ τ h): ∀x∈scope.names,x.2=.free->(c.env.cells.lookup x.1).isSome=true:=by
 intro x hx hk;refine d8 F fun D C m X=>?_; clear F;have q:=List.all_eq_true.mp kh x hx;rw [hk] at q;have q':(c.env.kindOf x.1=some .cell\/c.env.kindOf x.1=some .free)/\(ρ x.1).isSome=true:=by simpa using q
 refine ex (ia.mp q'.2) fun d hd=>?_;refine bQ (X.vr x.1 d hd) fun v hv _=>?_;rcases hv with ⟨a1,_⟩ | ⟨a1,a2,o,a3,_⟩ | ⟨_,a2,o,a3,_,_⟩
 ·(refine Or.elim q'.1 (fun q=>?_) (fun q=>?_)) <;> rw [a1] at q <;> cases q
 ·rw [(X.ck _ a3).1]; rfl
 ·rw [a3]; rfl
theorem FS.EN {Ca:Addr} {oC:Obj} (F:FS G c ⟨(Ca,oC)::Φ.fix,Φ.floor⟩ ρ τ h) (hf: ∀p∈c.free,p∈Φ.fix) (hc: ∀q∈Φ.fix,q.1≠Ca) (hs:cz Ca h h'):FS G c Φ ρ τ h':=by
 refine d8 F fun D C m X=>?_; clear F;have q:=X.nw (Ca,oC) (mR ((mR ((.head _)))));refine ⟨D,C,m,⟨X.fr.ns.at' fun o e=>(hs.2 _ (Ne.symm q.2.1)).trans e,fun b o e=>(hs.2 b (fun z=>by rw [z,q.2.2] at e; cases e)).trans (X.fr.keep b o e),X.fr.above⟩,fun p hp=>?_,fun p hp r hr=>X.ap p hp r ?_,X.cn,X.cd,X.ca,fun x hx r hr=>X.cp x hx r (.tail _ hr),X.ck,hf,X.fl,X.vr,X.tm⟩
 ·have SO:p∈D++(C.led++(Ca,oC)::Φ.fix)/\p.1≠Ca\/(p∈Φ.fix/\p.1=Ca):=by
   refine cE hp (fun hp=>?_) (fun hp=>?_)
   ·exact .inl ⟨mL hp,X.ap p hp (Ca,oC) (mR ((.head _)))⟩
   ·refine cE hp (fun hp=>?_) (fun hp=>?_)
    ·refine bQ (List.mem_map.mp hp) ?_; rintro x hx rfl;exact .inl ⟨mR ((mL hp)),X.cp x hx (Ca,oC) (.head _)⟩
    ·by_cases e:p.1=Ca
     ·exact .inr ⟨hp,e⟩
     ·exact .inl ⟨mR ((mR ((.tail _ hp)))),e⟩
  rcases SO with ⟨h1,h2⟩ | ⟨h1,h2⟩
  ·exact ⟨(hs.2 _ h2).trans (X.nw p h1).1,(X.nw p h1).2⟩
  ·exact absurd h2 (hc p h1)
 ·exact cE hr (fun hr=>mL hr) fun hr=>mR ((.tail _ hr))
theorem FS.free (F:FS G c Φ ρ τ h): ∀p∈c.free,p∈Φ.fix:=d8 F fun _ _ _ X=>X.fc
@[irreducible] noncomputable def vq (prog:br) (w:bR) (G:Heap) (n:Nat) (c:Cx) (ρ:fQ) (scope:iK) (t elt:Expr) (ifs:List Expr) (ds:List Sv) (got:Nat->fQ) (p:Nat->Bool) (f:Nat->Dat):Prop:=
 ∀(L':Addr) (Fr:Led) (i:Nat) (d:Sv),ds[i]? =some d->fM (aX scope (eR scope c.env) L' c.env)->(∀y d,gU scope ρ y=some d->got i y=some d)/\
   dm prog w G n ⟨aX scope (eR scope c.env) L' c.env,[],Fr⟩ t d (gU scope ρ) (got i)/\nA prog w G n ⟨aX scope (eR scope c.env) L' c.env,[],Fr⟩ (got i) ifs (p i)/\
   (p i=true->Ev prog w G n ⟨aX scope (eR scope c.env) L' c.env,[],Fr⟩ (got i) elt (.dat (f i)))
theorem vq.mk {ds:List Sv} {p:Nat->Bool} {f:Nat->Dat} (h: ∀(L':Addr) (Fr:Led) (i:Nat) (d:Sv),ds[i]? =some d->fM (aX scope (eR scope c.env) L' c.env)->(∀y d,gU scope ρ y=some d->got i y=some d)/\
   dm prog w G n ⟨aX scope (eR scope c.env) L' c.env,[],Fr⟩ t d (gU scope ρ) (got i)/\nA prog w G n ⟨aX scope (eR scope c.env) L' c.env,[],Fr⟩ (got i) ifs (p i)/\
   (p i=true->Ev prog w G n ⟨aX scope (eR scope c.env) L' c.env,[],Fr⟩ (got i) elt (.dat (f i)))):vq prog w G n c ρ scope t elt ifs ds got p f:=by with_unfolding_all exact h
theorem vq.go {ds:List Sv} {p:Nat->Bool} {f:Nat->Dat} (h:vq prog w G n c ρ scope t elt ifs ds got p f): ∀(L':Addr) (Fr:Led) (i:Nat) (d:Sv),ds[i]? =some d->fM (aX scope (eR scope c.env) L' c.env)->(∀y d,gU scope ρ y=some d->got i y=some d)/\
   dm prog w G n ⟨aX scope (eR scope c.env) L' c.env,[],Fr⟩ t d (gU scope ρ) (got i)/\nA prog w G n ⟨aX scope (eR scope c.env) L' c.env,[],Fr⟩ (got i) ifs (p i)/\
   (p i=true->Ev prog w G n ⟨aX scope (eR scope c.env) L' c.env,[],Fr⟩ (got i) elt (.dat (f i))):=by with_unfolding_all exact h
noncomputable def oG (scope:iK):Bool:=scope.names.all (fun y=>y.2 != .cell) && scope.kind == .function && scope.names.all fun y=>y.2 != .local || scope.names.lookup y.1 == some .local
theorem mP (h:oG scope=true):(∀y∈scope.names,y.2≠ .cell)/\scope.kind=.function/\∀y∈scope.names,y.2=.local->scope.names.lookup y.1=some .local:=by
 unfold oG at h;refine ea (cP.mp h) fun h1 h3=>?_;refine ea (cP.mp h1) fun h1 h2=>?_;refine ⟨fun y hy=>?_,eq_of_beq h2,fun y hy e=>?_⟩
 ·have:=List.all_eq_true.mp h1 y hy
  simpa using this
 ·have:=List.all_eq_true.mp h3 y hy;rw [e] at this
  simpa using this
theorem Ev.comp {iter:Expr} {ds:List Sv} (got:Nat->fQ) (p:Nat->Bool) (f:Nat->Dat) (K:fM c.env) (tX:oG scope=true) (kh:oF scope c.env ρ=true) (hi:Ev prog w G n c ρ iter d) (P:bM prog w G n d ds) (hz:ds.length<=bF) (jk:vq prog w G n c ρ scope t elt ifs ds got p f) (uv: ∀x,cO iter c.env x=pure x:=by intro _; rfl):
  Ev prog w G n c ρ (.ListComp elt [⟨t,iter,ifs,0⟩] scope pos) (.dat (.list (ry p f ds.length))):=.mk fun A E Q Φ τ s a F hq=>by
 refine xy (mP tX) fun o1 o2 o3=>?_;rw [eval_ListComp];refine nZ (use:=Option.none) rfl uv (lM (zp kh F)) o2 o3 ?_;refine hi.go A E _ Φ τ s a F fun v s1 m1 F1=>F1.iter P a fun I fp wr PP St s2 D m2 L W fK gA fq dQ=>?_;refine yk (RR:=fun acc C=>Vg (aq prog w) A E Option.none Q acc C) a K kh o1 o2 hz jk.go L W fK gA fq dQ ?_;rintro acc Ca s' oC sm WH ⟨m',Ii⟩ Po F';exact ⟨m',Ii,fun Il Im=>hq acc _ ((m1.trans m2).trans ⟨sm.gens,sm.os⟩) (F'.EN F.free Po Im)⟩
theorem Xs.comp {py vt:Pos} {iter:Expr} {ds:List Sv} (got:Nat->fQ) (p:Nat->Bool) (f:Nat->Dat) (K:fM c.env) (hl:sH c y) (tX:oG scope=true) (kh:oF scope c.env ρ=true) (hi:Ev prog w G n c ρ iter d) (P:bM prog w G n d ds) (hz:ds.length<=bF) (jk:vq prog w G n c ρ scope t elt ifs ds got p f) (WI:ya (.ListComp elt [⟨t,iter,ifs,0⟩] scope pos) (some (.Name y py)) vt.line c.env=pure true:=by rfl) (uv: ∀x,cO iter c.env x=pure x:=by intro _; rfl):
  Xs prog w G n c ρ (.Assign [.Name y py] (.ListComp elt [⟨t,iter,ifs,0⟩] scope pos) vt) (.next (upd ρ y (.dat (.list (ry p f ds.length))))):=.mk fun A E Q Φ τ s a F hq=>by
 refine xy (mP tX) fun o1 o2 o3=>?_;rw [exec_Assign_Name_used _ _ _ _ WI];refine ae (bO (ae ?_));have WJ:evalThenUse (.ListComp elt [⟨t,iter,ifs,0⟩] scope pos) c.env (nv (.Name y py) c.env)=
  (do let _ <- comprehension (.ListComp elt [⟨t,iter,ifs,0⟩] scope pos) scope c.env (firstIterPos [⟨t,iter,ifs,0⟩] pos) (newList []) (firstAsync [⟨t,iter,ifs,0⟩]) (firstIter [⟨t,iter,ifs,0⟩] c.env) (some (nv (.Name y py) c.env))):=rfl
 rw [WJ];refine ae ?_;refine nZ (use:=some (nv (.Name y py) c.env)) rfl uv (lM (zp kh F)) o2 o3 ?_;refine hi.go A E _ Φ τ s a F fun v s1 m1 F1=>F1.iter P a fun I fp wr PP St s2 D m2 L W fK gA fq dQ=>?_;refine yk (RR:=fun acc C=>Vg (aq prog w) A E (some (nv (.Name y py) c.env)) _ acc C) a K kh o1 o2 hz jk.go L W fK gA fq dQ ?_;rintro acc Ca s' oC sm WH ⟨m',Ii⟩ Po F';refine (?_:ak _ _ _ _ _ _);refine nK (store K F' hl fun s3 m3 F3=>?_);have hC3:s3.heap.get? Ca=some oC:=by
  refine d8 F3 fun D3 C3 m3' X3=>?_; clear F3;exact (X3.nw (Ca,oC) (mR ((mR ((.head _)))))).1
 refine ⟨m',Ii.at' (fun o e=>by rw [WH] at e; cases e; exact hC3),fun Il Im=>?_⟩;exact ah (ah (hq _ (((m1.trans m2).trans ⟨sm.gens,sm.os⟩).trans ⟨m3.gens,m3.os⟩) (F3.EN F.free Po Im)))
noncomputable def FnAt (G:Heap) (a:Addr) (name:Str) (params:gK) (body:List Stmt) (scope:iK):Prop:=
 ∃o pm cd doc,G.get? a=some o/\o.data=.func (docDef name params body scope pm cd doc)/\G.CodeRec cd name
noncomputable def eu:List (Str × Sv)->fQ->fQ
 | [],ρ=>ρ
 | (x,d)::r,ρ=>eu r (upd ρ x d)
noncomputable def ownOf (scope:iK):List Str:=(iH 0 scope.names []).map (·.1)
theorem cellsFrom_names (names:List (Str × jd)): ∀(n k:Nat) (acc Pp:List (Str × Addr)),acc.map (·.1)=Pp.map (·.1)->(iH n names acc).map (·.1)=(iH k names Pp).map (·.1):=by
 induction names with
 | nil=>exact fun _ _ _ _ e=>e
 | cons y r ih=>
  intro n k acc Pp e;unfold iH;split
  ·exact ih _ _ _ _ (by rw [List.map_cons,List.map_cons,e])
  ·exact ih _ _ _ _ e
theorem qp {α:Type} {l:List (Str × α)} (hn:(l.map (·.1)).Nodup) {a:α} (hm:(x,a)∈l):l.lookup x=some a:=by
 refine HQ (List.append_of_mem hm) fun s t e=>?_;subst e;refine List.lookup_eq_some_iff.mpr ⟨s,t,rfl,fun p hp=>?_⟩;rw [List.map_append,List.nodup_append] at hn;exact bne_iff_ne.mpr (Ne.symm (hn.2.2 _ (List.mem_map_of_mem hp) _ (List.mem_map_of_mem (.head _))))
theorem FT {kind:Str->Option jd} {ds:List Sv} (hv:bP D vs ds): ∀(xs:List Str) (ρ:fQ) (ml mc:Str->Option ai),xs.length=vs.length->(∀x∈xs,kind x=some .local\/kind x=some .cell)->
  (∀y d,ρ y=some d->∃v,((kind y=some .local/\ml y=some v)\/(kind y=some .cell/\mc y=some v))/\bw D v d)->
  ∀y d,eu (xs.zip ds) ρ y=some d->∃v,((kind y=some .local/\bindL kind (xs.zip vs) ml y=some v)\/(kind y=some .cell/\bindC kind (xs.zip vs) mc y=some v))/\bw D v d:=by
 induction hv with
 | nil=>
  intro xs ρ ml mc e _ h;cases List.eq_nil_of_length_eq_zero e;exact h
 | cons hv _ ih=>
  intro xs ρ ml mc e hk h;cases xs with
  | nil=>cases e
  | cons x xs=>
  refine ih xs _ _ _ (Nat.succ.inj e) (fun z hz=>hk z (.tail _ hz)) fun y d hy=>?_;unfold upd at hy
  by_cases hyx:y=x
  ·rw [if_pos hyx] at hy;refine ⟨_,?_,aH hy ▸ hv⟩;rw [hyx];refine Or.elim (hk x (.head _)) (fun q=>.inl ⟨q,?_⟩) fun q=>.inr ⟨q,?_⟩
   ·rw [if_pos q]; exact if_pos rfl
   ·rw [if_neg (by rw [q]; decide)]; exact if_pos rfl
  ·rw [if_neg hyx] at hy;refine bQ (h y d hy) fun u a b=>⟨u,Or.elim a (fun a=>.inl ⟨a.1,?_⟩) fun a=>.inr ⟨a.1,?_⟩,b⟩
   ·by_cases q:kind x=some .local
    ·rw [if_pos q]; exact (if_neg hyx).trans a.2
    ·rw [if_neg q]; exact a.2
   ·by_cases q:kind x=some .local
    ·rw [if_pos q]; exact a.2
    ·rw [if_neg q]; exact (if_neg hyx).trans a.2
theorem bP.length {ds:List Sv} (h:bP D vs ds):vs.length=ds.length:=by
 induction h with
 | nil=>rfl
 | cons _ _ ih=>rw [List.length_cons,List.length_cons,ih]
theorem vv {Q:Env->aj->Prop} {Φ:Led} {name:Str} {ds:List Sv} (W:au G Φ D s.heap) (hv:bP D vs ds) (hlen:xs.length=ds.length) (hk:(xs.all fun x=>scope.names.lookup x == some .local || scope.names.lookup x == some .cell)=true) (gW:(ownOf scope).Nodup) (uw:scope.kind=.function) (h: ∀s1,Sm s s1->(∀b o,s.heap.get? b=some o->s1.heap.get? b=some o)->fM (envOfC name scope s.heap.objs.size a cd)->FS G ⟨envOfC name scope s.heap.objs.size a cd,ownOf scope,[]⟩ ⟨Φ,D⟩ (eu (xs.zip ds) fun _=>none) [] s1.heap->Q (envOfC name scope s.heap.objs.size a cd) s1):
  ak (aq prog w) A (mF scope aO [] (xs.zip vs) (name++ ".<locals>.") (some a) cd none cu) Q E s:=by
 have rz:=hv.length;have Zt: ∀x∈xs,scope.names.lookup x=some .local\/scope.names.lookup x=some .cell:=fun x hx=>by
  have:=List.all_eq_true.mp hk x hx
  simpa using this
 have hzk: ∀x∈xs.zip vs,scope.names.lookup x.1=some .local\/(scope.names.lookup x.1=some .cell/\((iH (s.heap.objs.size + 1) scope.names []).lookup x.1).isSome=true):=by
  refine kindsX ?_ _;refine List.all_eq_true.mpr fun x hx=>?_;have:=Zt x.1 (List.of_mem_zip hx).1
  simpa using this
 refine wpAny_newFunctionEnv_cells uw hzk fun env he bI X=>?_;subst he;refine nV X.done ?_; rintro cZ tk rfl _;have F:Fr s.heap s.heap.objs.size cZ (bindL (envOfC name scope s.heap.objs.size a cd).kindOf (xs.zip vs) fun _=>none):=⟨X.toInCall.ns,X.toInCall.keep,X.toInCall.fresh⟩;have X0:=X;have X:Cl s.heap.objs.size (iH (s.heap.objs.size + 1) scope.names []) cZ (bindC (envOfC name scope s.heap.objs.size a cd).kindOf (xs.zip vs) fun _=>none):=⟨X.cell,X.apart,X.above⟩
 let c:Cx:=⟨envOfC name scope s.heap.objs.size a cd,ownOf scope,[]⟩
 have K:fM c.env:=⟨uw,rfl,rfl⟩;have names:(iH (s.heap.objs.size + 1) scope.names []).map (·.1)=ownOf scope:=cellsFrom_names _ _ _ _ _ rfl;have SP:((iH (s.heap.objs.size + 1) scope.names []).map (·.1)).Nodup:=by rw [names]; exact gW
 let C:vg:=(iH (s.heap.objs.size + 1) scope.names []).map fun x=>(x.1,x.2,(cZ.get? x.2).getD default)
 have cell: ∀x∈iH (s.heap.objs.size + 1) scope.names [],∃o,cZ.get? x.2=some o/\o.data=.cell (bindC c.env.kindOf (xs.zip vs) (fun _=>none) x.1):=fun x hx=>X.cell x.1 x.2 (qp SP hx);have lt: ∀p∈D++Φ,p.1 < s.heap.objs.size:=fun p hp=>az (W.pin p hp).1;have hgn: ∀b,s.heap.objs.size<=b->G.get? b=none:=fun b hb=>by
  cases e:G.get? b with
  | none=>rfl
  | some ob=>exact absurd (az (W.keep _ _ e)) (Nat.not_lt.mpr hb)
 have F0:iN G c ⟨Φ,D⟩ (eu (xs.zip ds) fun _=>none) [] cZ D C (bindL c.env.kindOf (xs.zip vs) fun _=>none):=by
  refine ⟨⟨F.ns,fun b ob e=>F.keep b ob (W.keep b ob e),?_⟩,fun p hp=>?_,fun p hp q hq=>?_,?_,gW,?_,fun x hx q hq=>?_,fun x hx=>?_,nm,fun p hp=>hp,fun y e hy=>?_,nm⟩
  ·refine (?_:G.objs.size<=s.heap.objs.size);exact W.sz
  ·refine cE hp (fun hp=>?_) (fun hp=>?_)
   ·exact ⟨F.keep _ _ (W.pin p (mL hp)).1,Nat.ne_of_lt (lt p (mL hp)),(W.pin p (mL hp)).2⟩
   ·refine cE hp (fun hp=>?_) (fun hp=>?_)
    ·refine l8 hp fun y hy=>?_;refine l8 hy fun x hx=>?_;refine bQ (cell x hx) fun ob h1 _=>?_;have ab:=X.above x.1 x.2 hx;exact ⟨by refine (?_:cZ.get? x.2=some ((cZ.get? x.2).getD default)); rw [h1]; rfl,Nat.ne_of_gt ab,hgn _ (Nat.le_of_lt ab)⟩
    ·exact ⟨F.keep _ _ (W.pin p (mR hp)).1,Nat.ne_of_lt (lt p (mR hp)),(W.pin p (mR hp)).2⟩
  ·refine cE hq (fun hq=>?_) (fun hq=>?_)
   ·refine l8 hq fun y hy=>?_;refine l8 hy fun x hx=>?_;exact Nat.ne_of_lt (Nat.lt_trans (lt p (mL hp)) (X.above x.1 x.2 hx))
   ·exact W.ap p hp q hq
  ·refine (?_:C.map (fun x=>x.1)=ownOf scope);rw [<- names];simp only [C,List.map_map]; rfl
  ·refine (?_:(C.map (fun x=>x.2.1)).Nodup);simp only [C,List.map_map];exact List.pairwise_map.mpr (X.apart.imp fun h=>h)
  ·refine l8 hx fun y hy=>?_;exact Nat.ne_of_gt (Nat.lt_trans (lt q (mR hq)) (X.above y.1 y.2 hy))
  ·refine l8 hx fun y hy=>?_;refine bQ (cell y hy) fun ob h1 h2=>?_;exact ⟨qp SP hy,_,by refine (?_:((cZ.get? y.2).getD default).data=_); rw [h1]; exact h2⟩
  ·refine bQ (FT (kind:=c.env.kindOf) hv xs (fun _=>none) (fun _=>none) (fun _=>none) (by rw [hlen,rz]) Zt (fun _ _ e=>nomatch e) y e hy) fun v a1 a2=>?_;refine ⟨v,?_,a2⟩;rcases a1 with ⟨b1,b2⟩ | ⟨b1,b2⟩
   ·exact .inl ⟨b1,b2⟩
   ·have mh:((iH (s.heap.objs.size + 1) scope.names []).lookup y).isSome=true:=cellsFrom_some _ _ _ (.inl b1);refine ex (ia.mp mh) fun ca hca=>?_;have hm:=mem_of_lookup hca;refine bQ (cell _ hm) fun ob h1 h2=>?_;refine .inr (.inl ⟨b1,ca,ob,List.mem_map.mpr ⟨_,hm,?_⟩,by rw [h2,b2]⟩);refine (?_:(y,ca,(cZ.get? ca).getD default)=(y,ca,ob));rw [h1]; rfl
 exact h { s with heap:=cZ,toks:=tk } ⟨rfl,rfl⟩ X0.toInCall.keep K ⟨D,C,_,F0⟩
theorem FS.leave (F:FS G c ⟨F1,fl⟩ ρ ((v,d)::τ) h): ∃D,au G F1 D h/\(∀p∈fl,p∈D)/\bw D v d:=d8 F fun D' C' m' X'=>
 ⟨D',⟨X'.fr.keep,fun p hp=>cE hp (fun hp=>⟨(X'.nw p (mL hp)).1,(X'.nw p (mL hp)).2.2⟩) fun hp=>⟨(X'.nw p (mR (mR hp))).1,(X'.nw p (mR (mR hp))).2.2⟩,fun p hp q hq'=>X'.ap p hp q (mR hq'),Nat.le_of_lt (Nat.lt_of_le_of_lt X'.fr.above X'.fr.ns.lt)⟩,X'.fl,X'.tm _ (.head _)⟩
noncomputable def AM (G:Heap) (a:Addr) (name:Str) (params:gK) (body:List Stmt) (scope:iK) (dV kV:ai):Prop:=
 ∃o pm cd doc,G.get? a=some o/\o.data=.func { docDef name params body scope pm cd doc with defaults:=dV,kwdefaults:=kV }/\G.CodeRec cd name
theorem bJ.Pq {kV:ai} {name:Str} {gs ds:List Sv} (T:bL mg mb G) (hf:AM G a name params body scope dV kV) (ie: ∀pm cd doc (vs:List ai) (A:aM) (E:ai->aj->Prop) (Q:List (Str × ai)->aj->Prop) (Φ D:Led) (s:aj),A.handled=none->au G Φ D s.heap->bP D vs gs->
   (∀xB s' D',Sm s s'->au G Φ D' s'.heap->(∀p∈D,p∈D')->bP D' xB ds->Q (xs.zip xB) s')->ak (aq prog w) A (gw { docDef name params body scope pm cd doc with defaults:=dV,kwdefaults:=kV } ⟨vs,[]⟩) Q E s) (hlen:xs.length=ds.length) (hk:(xs.all fun x=>scope.names.lookup x == some .local || scope.names.lookup x == some .cell)=true) (gW:(ownOf scope).Nodup) (hb: ∀(L:Addr) (cd:ai),fM (envOfC name scope L a cd)->Ex prog w G n ⟨envOfC name scope L a cd,ownOf scope,[]⟩ (eu (xs.zip ds) fun _=>none) body (.ret d)) (vy:scope.isCoroutine=false:=by rfl) (kI:scope.isGenerator=false:=by rfl) (uw:scope.kind=.function:=by rfl):bJ prog w G (n + 1) (.ref a) gs d:=by
 refine fF hf fun o pm cd doc ho zq sI=>.mk fun A E Q Φ D₀ us s₀ hA dM SQ hq=>?_;refine fg (qY hA.room (dM.keep _ _ ho) zq vy kI rfl (sI.keeps dM.keep) ?_);refine ie pm cd doc us A.in1 _ _ Φ D₀ s₀ hA.handled dM SQ fun vs s D AN W AO hv=>?_;refine vv W hv hlen hk gW uw fun s1 SR kp K F=>⟨(T.nolimit.keeps W.keep).keeps kp,Hw ?_⟩;exact (hb _ cd K).go (A.deeper _) _ _ ⟨Φ,D⟩ [] s1 (hA.deeper _) F fun v s' sm F'=>iU F'.leave fun D' W' hs hd=>hq v s' D' ((AN.trans SR).trans sm) W' (fun p hp=>hs p (AO p hp)) hd
theorem bJ.SS {name:Str} {gs ds:List Sv} (T:bL mg mb G) (hf:FnAt G a name params body scope) (ie: ∀pm cd doc (vs:List ai) (A:aM) (E:ai->aj->Prop) (Q:List (Str × ai)->aj->Prop) (Φ D:Led) (s:aj),A.handled=none->au G Φ D s.heap->bP D vs gs->
   (∀xB s' D',Sm s s'->au G Φ D' s'.heap->(∀p∈D,p∈D')->bP D' xB ds->Q (xs.zip xB) s')->ak (aq prog w) A (gw (docDef name params body scope pm cd doc) ⟨vs,[]⟩) Q E s) (hlen:xs.length=ds.length) (hk:(xs.all fun x=>scope.names.lookup x == some .local || scope.names.lookup x == some .cell)=true) (gW:(ownOf scope).Nodup) (hb: ∀(L:Addr) (cd:ai),fM (envOfC name scope L a cd)->Ex prog w G n ⟨envOfC name scope L a cd,ownOf scope,[]⟩ (eu (xs.zip ds) fun _=>none) body (.ret d)) (vy:scope.isCoroutine=false:=by rfl) (kI:scope.isGenerator=false:=by rfl) (uw:scope.kind=.function:=by rfl):bJ prog w G (n + 1) (.ref a) gs d:=bJ.Pq (dV:=.none) (kV:=.none) T hf ie hlen hk gW hb vy kI uw
theorem bJ.def {name:Str} {ds:List Sv} (T:bL mg mb G) (hf:FnAt G a name params body scope) (ie: ∀pm cd doc (vs:List ai),vs.length=ds.length->gw (docDef name params body scope pm cd doc) ⟨vs,[]⟩=pure (xs.zip vs)) (hlen:xs.length=ds.length) (hk:(xs.all fun x=>scope.names.lookup x == some .local || scope.names.lookup x == some .cell)=true) (gW:(ownOf scope).Nodup) (hb: ∀(L:Addr) (cd:ai),fM (envOfC name scope L a cd)->Ex prog w G n ⟨envOfC name scope L a cd,ownOf scope,[]⟩ (eu (xs.zip ds) fun _=>none) body (.ret d)) (vy:scope.isCoroutine=false:=by rfl) (kI:scope.isGenerator=false:=by rfl) (uw:scope.kind=.function:=by rfl):bJ prog w G (n + 1) (.ref a) ds d:=
 bJ.SS T hf (fun pm cd doc vs A E Q Φ D s _ W hv h=>by
  rw [ie pm cd doc vs hv.length];exact ah (h vs s D (Sm.refl s) W (fun _ h=>h) hv)) hlen hk gW hb vy kI uw
theorem jw {a b:Int}:ny prog w G n (mE .Add) (.dat (.int a)) (.dat (.int b)) (.dat (.int (a + b))):=.dat fun A E Q Φ D v1 v2 s a W h1 h2 h=>by
 refine iE h1 fun _=>iE h2 fun _=>?_;exact add_int (h _ _ ⟨rfl,rfl⟩ rfl (.int _ _))
theorem qQ {a b:Int}:ny prog w G n (mE .Sub) (.dat (.int a)) (.dat (.int b)) (.dat (.int (a - b))):=.dat fun A E Q Φ D v1 v2 s a W h1 h2 h=>by
 refine iE h1 fun _=>iE h2 fun _=>?_;exact sub_int (h _ _ ⟨rfl,rfl⟩ rfl (.int _ _))
theorem CS {a b:Int} (hb:b≠0):ny prog w G n (mE .Mod) (.dat (.int a)) (.dat (.int b)) (.dat (.int (a.fmod b))):=.dat fun A E Q Φ D v1 v2 s a W h1 h2 h=>by
 refine iE h1 fun _=>iE h2 fun _=>?_;exact mod_int hb (h _ _ ⟨rfl,rfl⟩ rfl (.int _ _))
theorem LP {a b:Int} (hb:b≠0) (hp:Builtin.divisionGoesByPylong a b=false):ny prog w G n (mE .FloorDiv) (.dat (.int a)) (.dat (.int b)) (.dat (.int (a.fdiv b))):=.dat fun A E Q Φ D v1 v2 s a W h1 h2 h=>by
 refine iE h1 fun _=>iE h2 fun _=>?_;exact floordiv_int hb (h _ _ ⟨rfl,rfl⟩ rfl (.int _ _)) (.inl hp)
theorem AP {a b:Int}:ny prog w G n (dw .Gt) (.dat (.int a)) (.dat (.int b)) (.dat (.bool (decide (b < a)))):=.dat fun A E Q Φ D v1 v2 s a W h1 h2 h=>by
 refine iE h1 fun _=>iE h2 fun _=>?_;exact gt_int (h _ _ ⟨rfl,rfl⟩ rfl (.bool _))
theorem EO {a b:Int}:ny prog w G n (dw .Lt) (.dat (.int a)) (.dat (.int b)) (.dat (.bool (decide (a < b)))):=.dat fun A E Q Φ D v1 v2 s a W h1 h2 h=>by
 refine iE h1 fun _=>iE h2 fun _=>?_;exact lt_int (h _ _ ⟨rfl,rfl⟩ rfl (.bool _))
theorem DatIn.isList {Φ:Led} (W:au G Φ D h) (hm:(a,gE vs.toArray k)∈D):h.IsList a vs.toArray:=⟨_,W.get hm,rfl,k,rfl⟩
theorem iZ {xs ys:List Dat} (hz:xs.length + ys.length<=bF):ny prog w G n (mE .Add) (.dat (.list xs)) (.dat (.list ys)) (.dat (.list (xs++ys))):=.mk fun A E Q Φ D v1 v2 s a W h1 h2 h=>by
 refine lE h1 fun b1 jF n1 m1 a1=>lE h2 fun b2 SV n2 m2 a2=>?_;refine P.add_list (items:=jF.toArray) (n:=n1) (items2:=SV.toArray) (n2:=n2) (W.get m1) (W.get m2) (h _ _ _ ⟨rfl,rfl⟩ (W.push _ rfl) (fun _ hp=>.tail _ hp) ?_) (by rw [List.size_toArray,List.size_toArray,a1.length,a2.length]; exact hz);have e:({ cls:=.type "list",data:=.seq (jF.toArray++SV.toArray) }:Obj)=gE (jF++SV).toArray 0:=by simp [gE]
 rw [e];exact nu (.head _) ((eN (fun _ hp=>.tail _ hp) a1).append (eN (fun _ hp=>.tail _ hp) a2))
theorem Ev.item {slice:Expr} {k:Int} {d:Dat} (h1:Ev prog w G n c ρ value (.dat (.list ds))) (h2:Ev prog w G n c ρ slice (.dat (.int k))) (h0:0<=k) (hx:ds[k.toNat]? =some d) (hk:k < 2 ^ 63) (hs: ∀o i,iu slice false o i=nM [o,i] (lW o i):=by intros; rfl):Ev prog w G n c ρ (.Subscript value slice pos) (.dat d):=.mk fun A E Q Φ τ s a F h=>
 Ci (h1.go A E _ Φ τ s a F fun v1 s1 m1 F1=>h2.go A E _ Φ _ s1 a F1 fun v2 s2 m2 F2=>by
  refine d8 F2 fun D C m X=>?_; clear F2;have Y:=X.lq.lq;refine iE X.d0 fun _=>lE X.d1 fun b1 jF n1 Pr a1=>?_;have hl:s2.heap.IsList b1 jF.toArray:=⟨_,(Y.nw _ (mL Pr)).1,rfl,n1,rfl⟩;refine ex (List.getElem?_eq_some_iff.mp hx) fun fG ed=>bQ (a1.get fG) fun v hv hd=>?_;exact Vh hl.typeIs slot_list_getitem.lookup (wpAny_getItem_list hl h0 hk (List.getElem?_toArray.trans hv) (h v s2 (m1.trans m2) ⟨D,C,m,(Y.rq (ed ▸ hd:eI D v d))⟩)) (hs _ _))
theorem Ev.rB {slice:Expr} {k:Int} {d:Dat} (h1:Ev prog w G n c ρ value (.dat (.list ds))) (h2:Ev prog w G n c ρ slice (.dat (.int k))) (h0:k < 0) (hk:0<=k + ds.length) (hx:ds[(k + ds.length).toNat]? =some d) (hm: -(2 ^ 63)<=k) (hs: ∀o i,iu slice false o i=nM [o,i] (lW o i):=by intros; rfl):Ev prog w G n c ρ (.Subscript value slice pos) (.dat d):=.mk fun A E Q Φ τ s a F h=>
 Ci (h1.go A E _ Φ τ s a F fun v1 s1 m1 F1=>h2.go A E _ Φ _ s1 a F1 fun v2 s2 m2 F2=>by
  refine d8 F2 fun D C m X=>?_; clear F2;have Y:=X.lq.lq;refine iE X.d0 fun _=>lE X.d1 fun b1 jF n1 Pr a1=>?_;have hl:s2.heap.IsList b1 jF.toArray:=⟨_,(Y.nw _ (mL Pr)).1,rfl,n1,rfl⟩;have rC:(jF.toArray.size:Int)=ds.length:=by rw [List.size_toArray,a1.length]
  refine ex (List.getElem?_eq_some_iff.mp hx) fun fG ed=>bQ (a1.get fG) fun v hv hd=>?_;exact Vh hl.typeIs slot_list_getitem.lookup (wpAny_getItem_list_neg hl h0 (by rw [rC]; lia) hm (by rw [rC]; exact List.getElem?_toArray.trans hv) (h v s2 (m1.trans m2) ⟨D,C,m,(Y.rq (ed ▸ hd:eI D v d))⟩)) (hs _ _))
theorem Ev.gH {slice:Expr} {k:Int} {d:Dat} (h1:Ev prog w G n c ρ value (.dat (.tuple ds))) (h2:Ev prog w G n c ρ slice (.dat (.int k))) (h0:0<=k) (hx:ds[k.toNat]? =some d) (hk:k < 2 ^ 63) (hs: ∀o i,iu slice false o i=nM [o,i] (lW o i):=by intros; rfl):Ev prog w G n c ρ (.Subscript value slice pos) (.dat d):=.mk fun A E Q Φ τ s a F h=>
 Ci (h1.go A E _ Φ τ s a F fun v1 s1 m1 F1=>h2.go A E _ Φ _ s1 a F1 fun v2 s2 m2 F2=>by
  refine d8 F2 fun D C m X=>?_; clear F2;have Y:=X.lq.lq;refine iE X.d0 fun _=>tE X.d1 fun b1 jF n1 Pr a1=>?_;have ht:Vi s2.heap b1 jF.toArray:=⟨_,(Y.nw _ (mL Pr)).1,rfl,n1,rfl⟩;refine ex (List.getElem?_eq_some_iff.mp hx) fun fG ed=>bQ (a1.get fG) fun v hv hd=>?_;have rC:jF.toArray.size=ds.length:=by rw [List.size_toArray,a1.length]
  have hj:seqIndex? k jF.toArray.size=some k.toNat:=seqIndex_of h0 (by rw [rC]; exact (n5 h0).mp fG);exact item_tupleT ht (d9 (by decide) h0) hk hj hv (h v s2 (m1.trans m2) ⟨D,C,m,(Y.rq (ed ▸ hd:eI D v d))⟩) (hs _ _))
theorem Et.not {x:Expr} {b:Bool} (h1:Et prog w G n c ρ x b):Et prog w G n c ρ (.UnaryOp .Not x pos) (!b):=
 .mk fun A E Q Φ τ s a F h=>isTrue_not (h1.go A E _ Φ τ s a F fun s1 m1 F1=>h s1 m1 F1)
theorem Et.and {x y:Expr} {b d:Bool} (h1:Et prog w G n c ρ x b) (h2:b=true->Et prog w G n c ρ y d):Et prog w G n c ρ (.BoolOp .And [x,y] pos) (b && d):=
 .mk fun A E Q Φ τ s a F h=>uK (h1.go A E _ Φ τ s a F fun s1 m1 F1=>by
  cases b with
  | false=>rw [if_neg aI]; exact h s1 m1 F1
  | true=>
   rw [if_pos rfl];refine uK ((h2 rfl).go A E _ Φ τ s1 a F1 fun s2 m2 F2=>?_);cases d with
   | false=>rw [if_neg aI]; exact h s2 (m1.trans m2) F2
   | true=>rw [if_pos rfl]; exact isTrue_and_nil (h s2 (m1.trans m2) F2))
theorem Et.or {x y:Expr} {b d:Bool} (h1:Et prog w G n c ρ x b) (h2:b=false->Et prog w G n c ρ y d):Et prog w G n c ρ (.BoolOp .Or [x,y] pos) (b || d):=
 .mk fun A E Q Φ τ s a F h=>isTrue_or (h1.go A E _ Φ τ s a F fun s1 m1 F1=>by
  cases b with
  | true=>rw [if_pos rfl]; exact h s1 m1 F1
  | false=>
   rw [if_neg aI];refine isTrue_or ((h2 rfl).go A E _ Φ τ s1 a F1 fun s2 m2 F2=>?_);cases d with
   | true=>rw [if_pos rfl]; exact h s2 (m1.trans m2) F2
   | false=>rw [if_neg aI]; exact isTrue_or_nil (h s2 (m1.trans m2) F2))
theorem Ev.SW {x y:Expr} {b:Bool} (ht:Et prog w G n c ρ t b) (h1:b=true->Ev prog w G n c ρ x d) (h2:b=false->Ev prog w G n c ρ y d):Ev prog w G n c ρ (.IfExp t x y pos) d:=
 .mk fun A E Q Φ τ s a F h=>IfExp_ (ht.go A E _ Φ τ s a F fun s1 m1 F1=>by
  cases b with
  | true=>rw [if_pos rfl]; exact (h1 rfl).go A E Q Φ τ s1 a F1 fun v s2 m2 F2=>h v s2 (m1.trans m2) F2
  | false=>rw [if_neg aI]; exact (h2 rfl).go A E Q Φ τ s1 a F1 fun v s2 m2 F2=>h v s2 (m1.trans m2) F2)
theorem gR.str (hx:x.length<=1000):gR prog w G n (.dat (.str x)) ((x.length:Int) != 0):=.mk fun A E Q Φ D v1 s a W hv h=>by
 exact sE hv fun _=>PySem.P.truthy_str (WB hx) (h _ ⟨rfl,rfl⟩ rfl)
theorem gR.tuple (hx:ds.length<=1000):gR prog w G n (.dat (.tuple ds)) ((ds.length:Int) != 0):=.mk fun A E Q Φ D v1 s a W hv h=>by
 refine tE hv fun b1 jF n1 m1 a1=>?_;have e:jF.toArray.size=ds.length:=by rw [List.size_toArray,a1.length]
 have ht:Vi s.heap b1 jF.toArray:=⟨_,W.get m1,rfl,n1,rfl⟩;refine So ht (by rw [e]; exact pW hx) ?_;have e2:(!jF.toArray.isEmpty)=((ds.length:Int) != 0):=by
  have e3:=a1.length;cases jF with
  | nil=>cases ds with
   | nil=>rfl
   | cons=>cases e3
  | cons=>cases ds with
   | nil=>cases e3
   | cons d ds=>simp; exact n6 (sq _)
 rw [e2];exact h _ ⟨rfl,rfl⟩ rfl
theorem DatAll.SX: ∀{ds:List Dat},dG D vs ds->∀p∈vs.zip (ds.map Sv.dat),bw D p.1 p.2:=by
 induction vs with
 | nil=>exact fun _ p hp=>absurd hp List.not_mem_nil
 | cons v vs ih=>
  intro ds q p hp;cases q with
  | cons q1 q2=>exact bU hp q1 fun hp=>ih q2 p hp
theorem vz: ∀(ts:List (Str × Pos)) (vs:List ai) (ds:List Dat) (ρ:fQ) {A:aM} {E:ai->aj->Prop} {Q:Unit->aj->Prop} {Φ:nW} {τ:kA} {s:aj},fM c.env->(∀t∈ts,sH c t.1)->ts.length=vs.length->ts.length=ds.length->
  FS G c Φ ρ (vs.zip (ds.map Sv.dat)++τ) s.heap->(∀s',Sm s s'->FS G c Φ (eu ((ts.map (·.1)).zip (ds.map Sv.dat)) ρ) τ s'.heap->Q () s')->
  ak (aq prog w) A (Ew (ts.map fun t=>sf (.Name t.1 t.2) c.env) vs) Q E s:=by
 intro ts
 induction ts with
 | nil=>
  intro vs ds ρ A E Q Φ τ s _ _ e1 e2 F h;have:ds=[]:=List.length_eq_zero_iff.mp e2.symm;have:vs=[]:=List.length_eq_zero_iff.mp e1.symm;subst ds vs;exact iL (h s (Sm.refl s) F)
 | cons t ts ih=>
  intro vs ds ρ A E Q Φ τ s K ho e1 e2 F h;cases vs with
  | nil=>cases e1
  | cons v vs=>
   cases ds with
   | nil=>cases e2
   | cons d ds=>
    refine iD (nK (store K F (ho t (.head _)) fun s1 m1 F1=>?_));exact ih vs ds _ K (fun z hz=>ho z (.tail _ hz)) (Nat.succ.inj e1) (Nat.succ.inj e2) F1 fun s2 m2 F2=>h s2 (m1.trans m2) F2
theorem dm.tup {ts:List (Str × Pos)} {tp:Pos} (K:fM c.env) (ho: ∀t∈ts,sH c t.1) (hl:ts.length=ds.length) (he:assignEach es c.env=ts.map fun t=>(false,sf (.Name t.1 t.2) c.env)):
  dm prog w G n c (.Tuple es k tp) (.dat (.tuple ds)) ρ (eu ((ts.map (·.1)).zip (ds.map Sv.dat)) ρ):=.mk fun A E Q Φ τ s v a F h=>by
 refine d8 F fun D C m X=>?_; clear F;refine tE X.d0 fun b1 jF n1 m1 a1=>?_;have hh:A.handled=none:=a.handled;have ht:Vi s.heap b1 jF.toArray:=⟨_,(X.nw _ (mL m1)).1,rfl,n1,rfl⟩;refine pq hh ht (by rw [he,List.length_map,List.size_toArray,a1.length,hl]) (by rw [he]; exact List.findIdx?_eq_none_iff.mpr fun x hx=>by refine bQ (List.mem_map.mp hx) ?_; rintro t _ rfl; rfl) fun h' hx=>?_;rw [he,List.map_map];have F':FS G c Φ ρ (jF.zip (ds.map Sv.dat)++τ) h':=by
  have Y:=X.keep (h':=h') fun b o e=>hx b o (Nat.ne_of_lt (az e)) e;refine ⟨D,C,m,(Y.oB (fun p hp=>?_))⟩;exact cE hp (fun hp=>DatAll.SX a1 p hp) fun hp=>Y.tm p (.tail _ hp)
 exact vz ts jF ds ρ K ho (hl.trans a1.length.symm) hl F' fun s2 m2 F2=>h s2 ⟨m2.gens,m2.os⟩ F2
theorem dm.Pu {px py tp:Pos} {d1 d2:Dat} (K:fM c.env) (hx:sH c x) (hy:sH c y):
  dm prog w G n c (.Tuple [.Name x px,.Name y py] k tp) (.dat (.tuple [d1,d2])) ρ (upd (upd ρ x (.dat d1)) y (.dat d2)):=
 dm.tup (ts:=[(x,px),(y,py)]) K (fun t ht=>by
  refine bU ht ?_ (fun ht=>?_)
  ·exact hx
  ·refine bU ht ?_ (fun ht=>?_)
   ·exact hy
   ·cases ht) rfl rfl
theorem dm.Io {z:Str} {px py pz tp:Pos} {d1 d2 d3:Dat} (K:fM c.env) (hx:sH c x) (hy:sH c y) (hz:sH c z):
  dm prog w G n c (.Tuple [.Name x px,.Name y py,.Name z pz] k tp) (.dat (.tuple [d1,d2,d3])) ρ (upd (upd (upd ρ x (.dat d1)) y (.dat d2)) z (.dat d3)):=
 dm.tup (ts:=[(x,px),(y,py),(z,pz)]) K (fun t ht=>by
  refine bU ht ?_ (fun ht=>?_)
  ·exact hx
  ·refine bU ht ?_ (fun ht=>?_)
   ·exact hy
   ·refine bU ht ?_ (fun ht=>?_)
    ·exact hz
    ·cases ht) rfl rfl
theorem Xs.unpack {kJ:Pos} (h1:Ev prog w G n c ρ e d) (T:dm prog w G n c (.Tuple es k kJ) d ρ sG) (hs:n7 [.Tuple es k kJ] e pos.line c.env=pure false:=by rfl) (hw:n8 [.Tuple es k kJ] e c.env=pure none:=by rfl):
  Xs prog w G n c ρ (.Assign [.Tuple es k kJ] e pos) (.next sG):=.mk fun A E Q Φ τ s a F h=>
 sr (h1.go A E _ Φ τ s a F fun v s1 m1 F1=>T.go A E _ Φ τ s1 v a F1 fun s2 m2 F2=>h s2 (m1.trans m2) F2) hs hw
theorem i4 {Φ:Led} (W:au G Φ D h):News G h.objs.size h D:=fun p hp=>
 ⟨W.get hp,Nat.ne_of_lt (az (W.get hp)),(W.pin p (mL hp)).2⟩
theorem pK {d:Dat} (h:cW 8 d=true):NL (kqdP d)=true:=by
 have l:=qd 8 d h;unfold NL; rw [l.1,NN]; exact decide_eq_true (Nat.le_trans l.2 (by decide))
theorem rD {d e:Dat} (h1:cW 8 d=true) (h2:cW 8 e=true) {b:Bool} (hb:b=true↔d=e):qF (kqdP d) (kqdP e)=b:=by
 have q:=kqd_eqv 8 d e 8 h1 h2;cases b with
 | true=>exact q.mpr (hb.mp rfl)
 | false=>exact lX.mpr fun x=>aI (hb.mpr (q.mp x))
theorem vA {d e:Dat} {b:Bool} (h1:cW 8 d=true) (h2:cW 8 e=true) (hb:b=true↔d=e):ny prog w G n (dw .Eq) (.dat d) (.dat e) (.dat (.bool b)):=.dat fun A E Q Φ D v1 v2 s a W q1 q2 h=>by
 refine ex (uL (i4 W) 8 q1 h1) fun as r1=>?_;refine ex (uL (i4 W) 8 q2 h2) fun bs r2=>?_;exact eq_dataH r1 r2 (pK h1) (pK h2) a.yg (by rw [rD h1 h2 hb]; exact h _ _ (Sm.refl s) rfl (.bool _))
theorem lu {d e:Dat} {b:Bool} (h1:cW 8 d=true) (h2:cW 8 e=true) (hb:b=true↔d=e):ny prog w G n (dw .NotEq) (.dat d) (.dat e) (.dat (.bool (!b))):=.dat fun A E Q Φ D v1 v2 s a W q1 q2 h=>by
 refine ex (uL (i4 W) 8 q1 h1) fun as r1=>?_;refine ex (uL (i4 W) 8 q2 h2) fun bs r2=>?_;exact ne_dataH r1 r2 (pK h1) (pK h2) a.yg (by rw [rD h1 h2 hb]; exact h _ _ (Sm.refl s) rfl (.bool _))
theorem uQ {d:Dat} (h1: ∀e∈ds,cW 8 e=true) (h2:cW 8 d=true) {b:Bool} (hb:b=true↔d∈ds):((Vj ds).any fun y=>qF y (kqdP d))=b:=by
 have q:=kqd_any ds d h1 h2;cases b with
 | true=>exact q.mpr (hb.mp rfl)
 | false=>exact lX.mpr fun x=>aI (hb.mpr (q.mp x))
theorem vB (a:cQ n A) {d:Dat} (h2:cW 8 d=true):A.units + 1 + min (Hx (Vj ds)) (kqdP d).depth < zd:=by
 have:=Nat.min_le_right (Hx (Vj ds)) (kqdP d).depth;have:=(qd 8 d h2).2;have:=a.yg;exact Nat.lt_of_le_of_lt (Nat.add_le_add_left (Nat.le_trans (Nat.min_le_right ..) (qd 8 d h2).2) (A.units + 1)) (Nat.lt_of_le_of_lt (Nat.add_le_add_left (by decide:9<=64) A.units) a.yg)
theorem SY {d:Dat} {b:Bool} (h1: ∀e∈ds,cW 8 e=true) (h2:cW 8 d=true) (hb:b=true↔d∈ds):ny prog w G n (dw .In) (.dat d) (.dat (.list ds)) (.dat (.bool b)):=.dat fun A E Q Φ D v1 v2 s a W q1 q2 h=>by
 refine ex (uL (i4 W) 8 q1 h2) fun as r1=>?_;refine lE q2 fun _ _ _ m2 a2=>?_;refine ex (Hy (i4 W) 8 a2 h1) fun bs r2=>?_;exact SeqAt.in_list_reads (Ws (W.get m2) rfl rfl (by simpa using r2)) r1 (Cj h1).1 (qd 8 d h2).1 (vB a h2) (by rw [uQ h1 h2 hb]; exact h _ _ (Sm.refl s) rfl (.bool _))
theorem AQ {d:Dat} {b:Bool} (h1: ∀e∈ds,cW 8 e=true) (h2:cW 8 d=true) (hb:b=true↔d∈ds):ny prog w G n (dw .NotIn) (.dat d) (.dat (.list ds)) (.dat (.bool (!b))):=.dat fun A E Q Φ D v1 v2 s a W q1 q2 h=>by
 refine ex (uL (i4 W) 8 q1 h2) fun as r1=>?_;refine lE q2 fun _ _ _ m2 a2=>?_;refine ex (Hy (i4 W) 8 a2 h1) fun bs r2=>?_;exact SeqAt.notIn_list_reads (Ws (W.get m2) rfl rfl (by simpa using r2)) r1 (Cj h1).1 (qd 8 d h2).1 (vB a h2) (by rw [uQ h1 h2 hb]; exact h _ _ (Sm.refl s) rfl (.bool _))
theorem Ip {d:Dat} {b:Bool} (h1: ∀e∈ds,cW 8 e=true) (h2:cW 8 d=true) (hb:b=true↔d∈ds):ny prog w G n (dw .In) (.dat d) (.dat (.tuple ds)) (.dat (.bool b)):=.dat fun A E Q Φ D v1 v2 s a W q1 q2 h=>by
 refine ex (uL (i4 W) 8 q1 h2) fun as r1=>?_;refine tE q2 fun _ _ _ m2 a2=>?_;refine ex (Hy (i4 W) 8 a2 h1) fun bs r2=>?_;exact SeqAt.in_tuple_reads (Vk (W.get m2) rfl rfl (by simpa using r2)) r1 (Cj h1).1 (qd 8 d h2).1 (vB a h2) (by rw [uQ h1 h2 hb]; exact h _ _ (Sm.refl s) rfl (.bool _))
theorem FU {d:Dat} {b:Bool} (h1: ∀e∈ds,cW 8 e=true) (h2:cW 8 d=true) (hb:b=true↔d∈ds):ny prog w G n (dw .NotIn) (.dat d) (.dat (.tuple ds)) (.dat (.bool (!b))):=.dat fun A E Q Φ D v1 v2 s a W q1 q2 h=>by
 refine ex (uL (i4 W) 8 q1 h2) fun as r1=>?_;refine tE q2 fun _ _ _ m2 a2=>?_;refine ex (Hy (i4 W) 8 a2 h1) fun bs r2=>?_;exact SeqAt.notIn_tuple_reads (Vk (W.get m2) rfl rfl (by simpa using r2)) r1 (Cj h1).1 (qd 8 d h2).1 (vB a h2) (by rw [uQ h1 h2 hb]; exact h _ _ (Sm.refl s) rfl (.bool _))
noncomputable def Kind (d:Sv) (T:String):Prop:=∀(D:Led) (v:ai) (s:aj),(∀p∈D,s.heap.get? p.1=some p.2)->bw D v d->s.TypeIs v T/\∀a,v=.ref a->∃ob,s.heap.get? a=some ob/\ob.dict=none
theorem Kind.str:Kind (.dat (.str x)) "str":=fun D v s hD h=>sE h fun _=>⟨rfl,fun a e=>nomatch e⟩
theorem Kind.list:Kind (.dat (.list ds)) "list":=fun D v s hD h=>by
 refine lE h fun b _ _ m1 a1=>⟨⟨_,hD _ m1,rfl⟩,fun a e=>?_⟩;have e:b=a:=Value.ref.inj e;exact e ▸ ⟨_,hD _ m1,rfl⟩
theorem Ev.ux {o:Expr} {name:Str} {apos:Pos} {T id:String} {d0:Sv} {ds:List Sv} (pa:PlainAttrs T) (slot:Slot T name id) (hty:k6 (.builtin id)=pure (.type "method_descriptor")) (hT:Kind d0 T) (ho:Ev prog w G n c ρ o d0) (h1:ic prog w G n c ρ (e::es) ds) (P:bJ prog w G n (.builtin id) (d0::ds) d) (AR:Ey o name c.env (eval o c.env)=eval o c.env:=by rfl) (Iq:((cI pos (aC (e::es) c.env)).all (fun x=>!x.1) && (eG pos (bX [] c.env)).all (fun x=>x.1.isSome)
   && decide ((e::es).length + ([]:List xd).length + (if ([]:List xd).isEmpty then 0 else 1) < 30))=true:=by rfl) (vC:(apos.endLine == pos.line)=true:=by rfl) (he:aC (e::es) c.env=(false,eval e c.env)::aC es c.env:=by rfl) (dQ:(cI pos (aC es c.env)).any (·.1)=false:=by rfl):Ev prog w G n c ρ (.Call (.Attribute o name apos) (e::es) [] pos) d:=.mk fun A E Q Φ τ s a F h=>
 jq AR Iq vC (ho.go A E _ Φ τ s a F fun v s1 m1 F1=>by
  refine bQ F1.heldBy fun D hD ht=>?_;refine ea (hT D v s1 hD (ht _ (.head _))) fun t1 t2=>?_;exact ⟨T,id,pa,slot,hty,t1,t2,pA (h1.go A E _ Φ _ s1 pos a F1 fun vs s2 m2 hl F2=>(F2.temps (je:=((v::vs).zip (d0::ds))++τ) fun p hp=>by
   exact bU hp (mR ((.head _))) fun hp=>cE hp (fun hp=>mL hp) fun hp=>mR ((.tail _ hp))).tell P a (by simp [hl]) fun v2 s3 m3 F3=>h v2 s3 ((m1.trans m2).trans m3) F3) he dQ⟩)
theorem bJ.nB {d1:Sv} (h: ∀(A:aM) (E:ai->aj->Prop) (Q:ai->aj->Prop) (Φ D:Led) (v1:ai) (s:aj),cQ n A->au G Φ D s.heap->bw D v1 d1->
   (∀v s',Sm s s'->s'.heap=s.heap->bw D v d->Q v s')->ak (aq prog w) A (call f [v1]) Q E s):bJ prog w G n f [d1] d:=.mk fun A E Q Φ D vs s a W hv q=>by
 refine RW hv fun _ h1=>?_;exact h A E Q Φ D _ s a W h1 fun v s' sm e hd=>q v s' D sm (W.same e) (fun _ h=>h) hd
theorem bJ.rE {d1 d2:Sv} (h: ∀(A:aM) (E:ai->aj->Prop) (Q:ai->aj->Prop) (Φ D:Led) (v1 v2:ai) (s:aj),cQ n A->au G Φ D s.heap->bw D v1 d1->bw D v2 d2->
   (∀v s',Sm s s'->s'.heap=s.heap->bw D v d->Q v s')->ak (aq prog w) A (call f [v1,v2]) Q E s):bJ prog w G n f [d1,d2] d:=.mk fun A E Q Φ D vs s a W hv q=>by
 refine VP hv fun _ h1 _ h2=>?_;exact h A E Q Φ D _ _ s a W h1 h2 fun v s' sm e hd=>q v s' D sm (W.same e) (fun _ h=>h) hd
theorem nC:bJ prog w G n (.builtin "str.startswith") [.dat (.str x),.dat (.str y)] (.dat (.bool (jh x y))):=.rE fun A E Q Φ D v1 v2 s a W h1 h2 h=>by
 refine sE h1 fun _=>sE h2 fun _=>?_;exact PySem.SC.startswith (h _ _ (Sm.refl s) rfl (.bool _))
theorem xC:bJ prog w G n (.builtin "str.endswith") [.dat (.str x),.dat (.str y)] (.dat (.bool (tO x y))):=.rE fun A E Q Φ D v1 v2 s a W h1 h2 h=>by
 refine sE h1 fun _=>sE h2 fun _=>?_;exact PySem.SC.endswith (h _ _ (Sm.refl s) rfl (.bool _))
theorem vD:bJ prog w G n (.builtin "str.rfind") [.dat (.str x),.dat (.str y)] (.dat (.int (uM x y))):=.rE fun A E Q Φ D v1 v2 s a W h1 h2 h=>by
 refine sE h1 fun _=>sE h2 fun _=>?_;exact PySem.SC.rfind (h _ _ ⟨rfl,rfl⟩ rfl (.int _ _))
theorem AS (hx:x.length<=1000):bJ prog w G n (.builtin "str.rstrip") [.dat (.str x),.dat (.str y)] (.dat (.str (xe x y))):=.rE fun A E Q Φ D v1 v2 s a W h1 h2 h=>by
 refine sE h1 fun _=>sE h2 fun _=>?_;exact PySem.SC.rstripChars (fun t' k=>h _ _ ⟨rfl,rfl⟩ rfl (.str _ _)) (sl hx)
theorem AU {i:Int} (h0:0<=i) (h1:i < 256):bJ prog w G n (.builtin "chr") [.dat (.int i)] (.dat (.str ⟨#[i.toNat]⟩)):=.nB fun A E Q Φ D v1 s a W q h=>by
 refine iE q fun _=>?_;exact chr_of_range h0 (d9 (tP h1) (by decide)) (h _ _ ⟨rfl,rfl⟩ rfl (.str _ _))
theorem Ir {c:Nat}:bJ prog w G n (.builtin "ord") [.dat (.str ⟨#[c]⟩)] (.dat (.int c)):=.nB fun A E Q Φ D v1 s a W q h=>by
 refine sE q fun _=>?_;exact PySem.P.ord_of_char (h _ _ ⟨rfl,rfl⟩ rfl (.int _ _))
theorem Iu {i:Int}:bJ prog w G n (.builtin "abs") [.dat (.int i)] (.dat (.int (if i < 0 then -i else i))):=.nB fun A E Q Φ D v1 s a W q h=>by
 refine iE q fun _=>?_;exact call_abs_int fun u tk=>h _ _ ⟨rfl,rfl⟩ rfl (.int _ _)
theorem yl (hx:x.length<=1000):bJ prog w G n (.builtin "len") [.dat (.str x)] (.dat (.int x.length)):=.nB fun A E Q Φ D v1 s a W q h=>by
 refine sE q fun _=>?_;exact PySem.P.len_str (WB hx) (h _ _ ⟨rfl,rfl⟩ rfl (.int _ _))
theorem kB (hx:ds.length<=1000):bJ prog w G n (.builtin "len") [.dat (.list ds)] (.dat (.int ds.length)):=.nB fun A E Q Φ D v1 s a W q h=>by
 refine lE q fun _ _ _ m1 a1=>?_;have e:=a1.length;refine Wt (DatIn.isList W m1) (by rw [List.size_toArray]; rw [e]; exact pW hx) ?_;rw [List.size_toArray,e];exact h _ _ ⟨rfl,rfl⟩ rfl (.int _ _)
noncomputable abbrev sn (i:Int):Str:=aR (toString i)
theorem oH {i:Int} (h0:0<=i) (h1:i < 256):bJ prog w G n (.type "str") [.dat (.int i)] (.dat (.str (sn i))):=.nB fun A E Q Φ D v1 s a W q h=>by
 refine iE q fun _=>?_;refine PySem.P.str_of_int ?_ (h _ _ ⟨rfl,rfl⟩ rfl (.str _ _));have:i.natAbs < 2 ^ 8:=Int.natAbs_lt_natAbs_of_nonneg_of_lt h0 h1;exact Nat.lt_of_le_of_lt (Nat.log2_le_self _) (Nat.lt_of_lt_of_le ‹_› (by decide))
theorem AV {i:Int} (h0:0<=i) (h1:i < 256):bJ prog w G n (.type "int") [.dat (.str (sn i))] (.dat (.int i)):=.nB fun A E Q Φ D v1 s a W q h=>by
 refine sE q fun _=>?_;exact KIN.call_num h0 (Pd h1) (h _ _ ⟨rfl,rfl⟩ rfl (.int _ _))
theorem au.qq {Φ:Led} (W:au G Φ D h) {b:Addr} (hb:h.objs.size<=b):G.get? b=none:=by
 cases e:G.get? b with
 | none=>rfl
 | some o=>exact absurd (az (W.keep _ _ e)) (Nat.not_lt.mpr hb)
theorem au.lt {Φ:Led} (W:au G Φ D h) {p:Addr × Obj} (hp:p∈D++Φ):p.1 < h.objs.size:=az (W.pin p hp).1
theorem bM.list:bM prog w G n (.dat (.list ds)) (ds.map .dat):=.mk fun A E Q Φ D v s a W hv h=>by
 refine lE hv fun b1 jF n1 m1 a1=>?_;have hl:=DatIn.isList W m1;have EP:b1≠s.heap.objs.size:=Nat.ne_of_lt (W.lt (mL m1));have hlen:jF.toArray.size=(ds.map Sv.dat).length:=by rw [List.size_toArray,a1.length,List.length_map]
 refine jN hl (h _ [s.heap.objs.size,b1] [s.heap.objs.size] _ _ _ D ⟨rfl,rfl⟩ (W.drop _) (fun _ h=>h) ⟨hlen ▸ RB a.handled s.heap.objs.size b1 EP jF.toArray,?_,?_,?_,?_,?_⟩ ⟨⟨_,aJ _ rfl,rfl,rfl⟩,hl.push _⟩)
 ·intro b hb;exact rf hb (⟨W.qq (Nat.le_refl _),fun p hp=>Nat.ne_of_lt (W.lt hp)⟩)
 ·intro b hb;exact bU hb (.inl (.head _)) fun hb=>rf hb (.inr ⟨_,m1⟩)
 ·intro i h st b hb;rw [List.mem_singleton] at hb;subst hb;refine bQ st.1 fun o ho _=>?_;exact ⟨o,ho⟩
 ·intro i u hu d hd;rw [List.getElem?_map] at hd;refine bQ (bg.mp hd) ?_; rintro d' uu rfl;refine ex (List.getElem?_eq_some_iff.mp uu) ?_; rintro fG rfl;refine bQ (a1.get fG) fun v e q=>?_;have LQ:jF[i]? =some u:=by simpa using hu
  rw [e] at LQ;cases LQ;exact q
 ·intro i h st;refine iU st.1 fun o ho hc _=>?_;exact ⟨o,_,ho,hc,rfl⟩
theorem bM.tuple:bM prog w G n (.dat (.tuple ds)) (ds.map .dat):=.mk fun A E Q Φ D v s a W hv h=>by
 refine tE hv fun b1 jF n1 m1 a1=>?_;have hl:s.heap.IsTuple b1 jF.toArray:=⟨_,W.get m1,rfl,n1,rfl⟩;have EP:b1≠s.heap.objs.size:=Nat.ne_of_lt (W.lt (mL m1));have hlen:jF.toArray.size=(ds.map Sv.dat).length:=by rw [List.size_toArray,a1.length,List.length_map]
 refine wpAny_pyIter_tuple hl (h _ [s.heap.objs.size,b1] [s.heap.objs.size] _ _ _ D ⟨rfl,rfl⟩ (W.drop _) (fun _ h=>h) ⟨hlen ▸ Walks.tuple a.handled s.heap.objs.size b1 EP jF.toArray,?_,?_,?_,?_,?_⟩ ⟨⟨_,aJ _ rfl,rfl,rfl⟩,hl.push _⟩)
 ·intro b hb;exact rf hb (⟨W.qq (Nat.le_refl _),fun p hp=>Nat.ne_of_lt (W.lt hp)⟩)
 ·intro b hb;exact bU hb (.inl (.head _)) fun hb=>rf hb (.inr ⟨_,m1⟩)
 ·intro i h st b hb;rw [List.mem_singleton] at hb;subst hb;refine bQ st.1 fun o ho _=>?_;exact ⟨o,ho⟩
 ·intro i u hu d hd;rw [List.getElem?_map] at hd;refine bQ (bg.mp hd) ?_; rintro d' uu rfl;refine ex (List.getElem?_eq_some_iff.mp uu) ?_; rintro fG rfl;refine bQ (a1.get fG) fun v e q=>?_;have LQ:jF[i]? =some u:=by simpa using hu
  rw [e] at LQ;cases LQ;exact q
 ·intro i h st;refine iU st.1 fun o ho hc _=>?_;exact ⟨o,_,ho,hc,rfl⟩
noncomputable def Zu (k:Nat):Sv:=.own (fun D v=>∃r t u x,v=.ref r/\(r,({ cls:=.type "range",data:=.fields #[.int 0 t,.int k u,.int 1 x] }:Obj))∈D) fun D D' v hs ⟨r,t,u,x,e,m⟩=>⟨r,t,u,x,e,hs _ m⟩
theorem mQ:bJ prog w G n (.type "range") [.dat (.int k)] (Zu k):=.mk fun A E Q Φ D vs s a W hv h=>by
 refine RW hv fun _ h1=>iE h1 fun _=>?_;exact call_range_1 (h _ _ _ ⟨rfl,rfl⟩ (W.push _ rfl) (fun _ hp=>.tail _ hp) ⟨_,_,_,_,rfl,.head _⟩)
theorem bM.range (hk:k<=1000):bM prog w G n (Zu k) ((List.range k).map fun i:Nat=>.dat (.int i)):=.mk fun A E Q Φ D v s a W hv h=>by
 refine Ia hv ?_; clear hv; rintro r t u x rfl m1;have hr:IsRange s.heap r 0 k 1 t u x:=W.get m1;have hs:Builtin.Range.rangeSize 0 (k:Int) 1=k:=by rw [rangeSize_one]; split <;> lia
 have hlen:k=((List.range k).map fun i:Nat=>Sv.dat (.int i)).length:=by simp
 have W0:=Walks.range (prog:=prog) (w:=w) a.handled s.heap.objs.size 0 1 k;refine wpAny_pyIter_range hr (small_one (by decide) (by decide) (d9 (by decide) (aS k)) (iP (fh.mpr hk) (by decide))) (h _ [s.heap.objs.size] [s.heap.objs.size] _ _ _ D ⟨rfl,rfl⟩ (W.drop _) (fun _ h=>h) ⟨(by rw [<- hlen]; exact W0),?_,?_,?_,?_,?_⟩ ?_)
 ·intro b hb;exact rf hb (⟨W.qq (Nat.le_refl _),fun p hp=>Nat.ne_of_lt (W.lt hp)⟩)
 ·intro b hb; exact .inl hb
 ·intro i h st b hb;exact rf hb (⟨_,st⟩)
 ·intro i u hu d hd;refine ex hu ?_; clear hu; rintro t' rfl;refine zk hd fun j hj=>?_;refine ex (List.getElem?_eq_some_iff.mp hj) fun fG e=>?_;rw [List.getElem_range] at e;subst e;have:(0:Int) + (i:Nat) * 1=i:=by lia
  rw [this];exact .int _ _
 ·intro i h st;exact ⟨_,_,st,rfl,rfl⟩
 ·rw [hs];refine (?_:Heap.get? _ _=some _);rw [aJ _ rfl];simp
theorem bM.str:bM prog w G n (.dat (.str x)) (x.cps.toList.map fun k=>.dat (.str ⟨#[k]⟩)):=.mk fun A E Q Φ D v s a W hv h=>by
 refine sE hv fun tk=>?_;have side: ∀{St:Nat->Heap->Prop} {o:Obj} (T:String),(∀i h,St i h->∃o,h.get? s.heap.objs.size=some o/\o.cls=.type T)->ownsTuple T=false->FD prog w A s.heap.objs.size [s.heap.objs.size] [s.heap.objs.size] x.cps.size (SignAt x) St->
   EL prog w A G Φ D (x.cps.toList.map fun k=>Sv.dat (.str ⟨#[k]⟩)) s.heap.objs.size [s.heap.objs.size] [s.heap.objs.size] (SignAt x) St:=by
  intro St o T ym hT hW;have hlen:x.cps.size=(x.cps.toList.map fun k=>Sv.dat (.str ⟨#[k]⟩)).length:=by simp
  refine ⟨hlen ▸ hW,?_,?_,?_,?_,?_⟩
  ·intro b hb;exact rf hb (⟨W.qq (Nat.le_refl _),fun p hp=>Nat.ne_of_lt (W.lt hp)⟩)
  ·intro b hb; exact .inl hb
  ·intro i h st b hb;rw [List.mem_singleton] at hb;subst hb;refine bQ (ym i h st) fun o ho _=>?_;exact ⟨o,ho⟩
  ·intro i u hu d hd;refine nV hu ?_; clear hu; rintro k t' hk rfl;refine zk hd fun j hj=>?_;have Ls:x.cps[i]? =some j:=by simpa using hj
   rw [Ls] at hk;cases hk;exact .str _ _
  ·intro i h st;refine bQ (ym i h st) fun o ho hc=>?_;exact ⟨o,T,ho,hc,hT⟩
 cases ha:x.cps.all (· < 128)
 ·exact wpAny_pyIter_wide ha (h _ _ _ _ _ _ D ⟨rfl,rfl⟩ (W.drop _) (fun _ h=>h) (side (o:=default) "str_iterator" (fun i h st=>by refine iU st fun o ho hc _=>?_; clear st; exact ⟨o,ho,hc⟩) rfl (Walks.strWide a.handled _ x _)) ⟨_,aJ _ rfl,rfl,rfl⟩)
 ·exact wpAny_pyIter_ascii ha (h _ _ _ _ _ _ D ⟨rfl,rfl⟩ (W.drop _) (fun _ h=>h) (side (o:=default) "str_ascii_iterator" (fun i h st=>by refine iU st fun o ho hc _=>?_; clear st; exact ⟨o,ho,hc⟩) rfl (Walks.strAscii a.handled _ x _)) ⟨_,aJ _ rfl,rfl,rfl⟩)
theorem pL (hz:x.length + y.length<=1000):ny prog w G n (mE .Add) (.dat (.str x)) (.dat (.str y)) (.dat (.str (x++y))):=.dat fun A E Q Φ D v1 v2 s a W h1 h2 h=>by
 refine sE h1 fun _=>sE h2 fun _=>?_;exact PySem.SB.add (fun t' k=>h _ _ ⟨rfl,rfl⟩ rfl (.str _ _)) (sl hz)
inductive lN (prog:br) (w:bR) (G:Heap) (n:Nat) (c:Cx) (ρ:fQ):Option Expr->Option Int->Prop
 | none:lN prog w G n c ρ none none
 | some {e:Expr} {i:Int}:Ev prog w G n c ρ e (.dat (.int i))->lN prog w G n c ρ (some e) (some i)
noncomputable def zu (v:ai) (p:Option Int):Prop:=match p with | .none=>v=.none | .some i=>∃t,v=.int i t
theorem lN.go {l:Option Expr} {p:Option Int} (h:lN prog w G n c ρ l p) (a:cQ n A) (F:FS G c Φ ρ τ s.heap) (hq: ∀v s',Sm s s'->zu v p->FS G c Φ ρ τ s'.heap->Q v s'):ak (aq prog w) A (Ck l c.env) Q E s:=by
 cases h with
 | none=>exact ah (hq _ s (Sm.refl s) rfl F)
 | some he=>
  refine he.go A E _ Φ τ s a F fun v s1 m1 F1=>hq v s1 m1 ?_ F1.pop;refine bQ F1.heldBy fun D hD ht=>?_;exact jj (ht _ (.head _))
theorem zu.is {p:Option Int} (h:zu v p):Cm v p:=by
 cases p with
 | none=>cases h; exact .none
 | some i=>refine ex h ?_; clear h; rintro t rfl; exact .int i t
noncomputable def uy {α:Type} (ds:List α) (lo hi:Option Int):List α:=(ds.drop (lo.elim 0 (oh ds.length))).take ((hi.elim ds.length (oh ds.length)) - lo.elim 0 (oh ds.length))
theorem DatAll.drop (k:Nat) (h:dG D vs ds):dG D (vs.drop k) (ds.drop k):=by
 induction k generalizing vs ds with
 | zero=>exact h
 | succ k ih=>cases ds with
  | nil=>exact dN h .nil
  | cons d ds=>exact dC h fun v vs _ r=>ih r
theorem DatAll.take (k:Nat) (h:dG D vs ds):dG D (vs.take k) (ds.take k):=by
 induction k generalizing vs ds with
 | zero=>exact .nil
 | succ k ih=>cases ds with
  | nil=>exact dN h .nil
  | cons d ds=>exact dC h fun v vs q r=>.cons q (ih r)
theorem yn {lower:Option Expr} {p:Pos} {T id:String} (hl:bj (.type T) "__getitem__"=pure (some (.builtin id))) (h:ak (aq prog w) A (eval value env) (fun o bI=>ak (aq prog w) A (eval (.Slice lower upper Option.none p) env) (fun i cF=>cF.TypeIs o T/\ak (aq prog w) A (lW o i) Q E cF) E bI) E s):
  ak (aq prog w) A (eval (.Subscript value (.Slice lower upper Option.none p) pos) env) Q E s:=by
 rw [PySem.eval_Subscript];refine ae (aN h (fun o bI cZ=>ae (aB (aN cZ (fun i cF l9=>ae (bO ?_)) fun _ _ x=>x)))
  fun _ _ x=>x)
 have fin:ak (aq prog w) A (nM [i,o] (lW o i)) (fun r jv=>ak (aq prog w) A (Vl value o r >>= fun _=>pure r) Q E jv) E cF:=
  wpAny_operating (aN l9.2 (fun r jv qO=>ae (wpAny_letTemporaryGo (ah qO))) fun _ _ x=>x)
 refine ae ?_;rw [getitemInPython_of_ne l9.1.not_modules];refine ae (eJ l9.1 hl ?_);exact ah (ae fin)
theorem vE {lower:Option Expr} {p:Pos} (h:ak (aq prog w) A (eval value env) (fun o bI=>ak (aq prog w) A (Ck lower env) (fun vl cF=>ak (aq prog w) A (Ck upper env) (fun vu jv=>
   ∃l items lo hi,o=.ref l/\jv.heap.IsList l items/\items.size<=bF/\Cm vl lo/\Cm vu hi/\
    Q (.ref (jv.heap.objs.size + 1)) { jv with heap:=(jv.heap.push { cls:=.type "slice",data:=.fields #[vl,vu,.none] }).push { cls:=.type "list",data:=.seq (RC items lo hi Option.none) } }) E cF) E bI) E s):
  ak (aq prog w) A (eval (.Subscript value (.Slice lower upper Option.none p) pos) env) Q E s:=by
 refine yn (T:="list") list_getitem_lookup (aN h (fun o bI cZ=>wpAny_Slice (aN cZ (fun vl cF l9=>aN l9 (fun vu jv qO=>?_) fun _ _ e=>e) fun _ _ e=>e)) fun _ _ e=>e);refine qM qO ?_; clear qO; rintro l items lo hi rfl hl rC pl pu hQ;rw [Wu];refine ah ⟨(hl.push _).typeIs,wpAny_getItem_list_slice (hl.push _) (u6 ..) pl pu .none (by decide) ?_ rC⟩;rw [bG];exact hQ
theorem Ev.slice {lower:Option Expr} {p:Pos} {lo hi:Option Int} (h1:Ev prog w G n c ρ value (.dat (.list ds))) (hl:lN prog w G n c ρ lower lo) (hu:lN prog w G n c ρ upper hi) (hz:ds.length<=1000):Ev prog w G n c ρ (.Subscript value (.Slice lower upper Option.none p) pos) (.dat (.list (uy ds lo hi))):=.mk fun A E Q Φ τ s a F h=>
 vE (h1.go A E _ Φ τ s a F fun v1 s1 m1 F1=>hl.go a F1 fun v2 s2 m2 p2 F2=>hu.go a F2 fun v3 s3 m3 p3 F3=>by
  refine d8 F3 fun D C m X=>?_; clear F3;refine lE X.d0 fun b1 jF n1 Pr a1=>?_;have hL:s3.heap.IsList b1 jF.toArray:=⟨_,(X.nw _ (mL Pr)).1,rfl,n1,rfl⟩;have rC:jF.toArray.size=ds.length:=by rw [List.size_toArray,a1.length]
  refine ⟨b1,jF.toArray,lo,hi,rfl,hL,by rw [rC]; exact sl hz,p2.is,p3.is,?_⟩;have e:RC jF.toArray lo hi Option.none=(uy jF lo hi).toArray:=by
   rw [slicePick_plain]; simp [uy]
  refine h _ _ (((m1.trans m2).trans m3).trans ⟨rfl,rfl⟩) ?_;have F4:FS G c Φ ρ τ (s3.heap.push { cls:=.type "slice",data:=.fields #[v2,v3,.none] }):=(FS.pop ⟨D,C,m,X⟩).keep fun b o e=>av _ e;have F5:iN G c Φ ρ τ (s3.heap.push { cls:=.type "slice",data:=.fields #[v2,v3,.none] }) D C m:=((X.keep (fun b o e=>av _ e)).oB (fun p hp=>X.tm p (.tail _ hp)));have F6:=F5.new (o:={ cls:=.type "list",data:=.seq (RC jF.toArray lo hi Option.none) }) (v:=.ref (s3.heap.objs.size + 1)) (d:=.dat (.list (uy ds lo hi))) rfl (by
   rw [bG,e];refine nu (n:=0) (.head _) (eN (fun p hp=>.tail _ hp) ?_);unfold uy;rw [a1.length];exact Rg.DatAll.take _ (Rg.DatAll.drop _ a1))
  exact ⟨_,C,m,F6⟩)
theorem bP.S0 {ds:List Sv}: ∀{vs:List ai},vs.length=ds.length->(∀p∈vs.zip ds,bw D p.1 p.2)->bP D vs ds:=by
 induction ds with
 | nil=>exact fun e _=>len0 e .nil
 | cons d ds ih=>exact fun e=>WA (P:=fun vs=>(∀p∈vs.zip (d::ds),bw D p.1 p.2)->bP D vs (d::ds)) e fun v vs e h=>.cons (h (v,d) (.head _)) (ih e fun p hp=>h p (.tail _ hp))
noncomputable def tupS (ds:List Sv):Sv:=.own (fun D v=>∃a vs,v=.ref a/\(a,({ cls:=.type "tuple",data:=.seq (List.toArray vs) }:Obj))∈D/\bP D vs ds) fun D D' v hs ⟨a,vs,e,m,q⟩=>⟨a,vs,e,hs _ m,q.mono hs⟩
theorem Ev.Pw {ds:List Sv} (h1:ic prog w G n c ρ es ds) (hz:ds.length<=1000:=by simp):Ev prog w G n c ρ (.Tuple es k pos) (tupS ds):=
 .mk fun A E Q Φ τ s a F h=>Hu (h1.go A E _ Φ τ s pos a F fun vs s1 m1 hl F1=>by
  refine bC ?_ (by refine (?_:vs.toArray.size<=bF); rw [List.size_toArray,hl]; exact sl hz);refine h _ _ (m1.trans ⟨rfl,rfl⟩) ?_;have F2:=F1.new (o:={ cls:=.type "tuple",data:=.seq vs.toArray }) (v:=.ref s1.heap.objs.size) (d:=tupS ds) rfl (fun D hD=>?_)
  ·exact F2.temps fun p hp=>by
    exact bU hp (.head _) fun hp=>.tail _ (mR hp)
  ·exact ⟨_,vs,rfl,.head _,bP.mono (fun p hp=>.tail _ hp) (bP.S0 hl fun p hp=>hD p (mL hp))⟩)
theorem zv:bJ prog w G n (.type "type") [.dat (.str x)] (.val (.type "str")):=.nB fun A E Q Φ D v1 s a W q h=>by
 refine sE q fun _=>?_;exact Hz (kq _ _ _) (by decide) (h _ _ (Sm.refl s) rfl rfl)
theorem FW {k:ai} {dep:Int} {tk:Tok} {Q:Fin->aj->Prop} (hk:k=.int dep tk) (hq:Q (.done (.ret (.bool true))) s):
  ak (aq prog w) A (Builtin.«issubclass.nested» ⟨[.type "str",.type "str",k],[]⟩) Q E s:=by
 subst hk;have hm:(Value.type ((uo "str").elim "type" (·.metatype)) == Value.type "type")=true:=by decide +kernel
 have S1:=isSubtype_str_str
 repeat (any_goals (first | assumption | (rw [if_pos hm]) | (rw [S1]) | wp_step))
theorem FY {d:Option Addr} {sl:Array (Option ai)} {nn:Nat} {Q:Fin->aj->Prop} (ha:s.heap.get? a=some { cls:=.type "tuple",dict:=d,data:=.seq #[.type "str",.type "bytes"] nn,slots:=sl }) (hq:Q (.done (.ret (.bool true))) s):
  ak (aq prog w) A (Builtin.«issubclass.nested» ⟨[.type "str",.ref a,aQ 0],[]⟩) Q E s:=by
 have hm:(Value.type "tuple" == Value.type "type")=false:=by decide
 repeat (any_goals (first | assumption | (rw [if_neg (ne_true_of_eq_false hm)]) | wp_step))
 rw [show eV (Value.type "tuple") (Value.type "tuple")=pure true from by rw [bK]; kernel_rfl];refine ah ?_;rw [if_pos rfl,if_neg (by decide)];refine ae (dH ha rfl ?_);have hb: ∀(s':aj) (Q':ai->aj->Prop),Q' (.bool true) s'->ak (aq prog w) A (call (.builtin "issubclass.nested") [.type "str",.type "str",aQ (0 + 1)]) Q' E s':=fun s' Q' h=>by
  refine kmb_tree (by decide +kernel) (by decide +kernel) F.entry_issubclass_nested (by unfold gk; kernel_rfl) (FW rfl ?_);exact h
 repeat (any_goals (first | exact hq | (refine hb _ _ ?_) | wp_step))
theorem CT:bJ prog w G n (.builtin "issubclass") [.val (.type "str"),tupS [.val (.type "str"),.val (.type "bytes")]] (.dat (.bool true)):=.rE fun A E Q Φ D v1 v2 s a W h1 h2 h=>by
 obtain rfl:v1=.type "str":=h1;refine qo h2 ?_; clear h2; rintro b vs rfl hm hv; revert hm;refine VP hv fun _ e1 _ e2 hm=>?_;obtain rfl:=(show _=Value.type "str" from e1);obtain rfl:=(show _=Value.type "bytes" from e2);exact call_issubclass (S:=fun A R s=>(∃(nn:Nat),s.heap.get? b=some { cls:=.type "tuple",data:=.seq #[.type "str",.type "bytes"] nn })/\R (.ok (.ret (.bool true))) s)
  (fun _ _ _ _ _ hs=>by refine ea hs ?_; rintro ⟨nn,hb⟩ hs; exact issubclass_outer (FY hb hs)) ⟨⟨0,W.get hm⟩,h _ _ (Sm.refl s) rfl (.bool _)⟩
theorem rF:bJ prog w G n (.builtin "isinstance") [.dat (.str x),.val (.type "bytes")] (.dat (.bool false)):=.rE fun A E Q Φ D v1 v2 s a W h1 h2 h=>by
 refine sE h1 fun _=>h2.symm ▸ ?_;exact RD (h _ _ ⟨rfl,rfl⟩ rfl (.bool _))
noncomputable abbrev pw:br:=NO
noncomputable def rG (s:Option Stmt):gK × List Stmt × iK × List Str × Pos:=match s with
 | some (.FunctionDef _ a b _ _ _ s _ _ q)=>⟨a,b,s,[],q⟩
 | some (.ClassDef _ _ _ b _ _ s _ _ l q)=>⟨default,b,s,l,q⟩
 | some (.For _ _ b _ q)=>⟨default,b,default,[],q⟩
 | _=>⟨default,[],default,[],⟨0,0,0,0⟩⟩
noncomputable def dh (i:Nat):List Stmt:=(rG pw.main.body[i]?).2.1
noncomputable def argsAt (i:Nat):gK:=(rG pw.main.body[i]?).1
noncomputable def aG (i:Nat):iK:=(rG pw.main.body[i]?).2.2.1
noncomputable def FZ (s:Stmt):Expr:=match s with
 | .Assign _ e _=>e
 | .Return (some e) _=>e
 | .While e _ _ _=>e
 | _=>default
noncomputable def VQ (e:Expr):Expr:=match e with
 | .Call _ (e::_) _ _=>e
 | .Compare l _ _ _=>l
 | _=>default
noncomputable def adr (mg:Str->Option ai) (x:Str):Addr:=match mg x with | some (.ref a)=>a | _=>0
structure Fn (mg:Str->Option ai) (G:Heap) (x:Str) (i:Nat):Prop where
 name:mg x=some (.ref (adr mg x))
 at':FnAt G (adr mg x) x (argsAt i) (dh i) (aG i)
noncomputable def CU:List Str:=["type","issubclass","str","bytes","isinstance","len","int","chr","abs","ord","range","tuple","map","enumerate","min","max","sorted","ValueError","TypeError","AttributeError","BytesWarning","iter","object","bool","next","StopIteration","bytearray","AssertionError"]
structure Prog (mg:Str->Option ai) (G:Heap):Prop where
 bi: ∀x∈CU,mg x=none
 oJ:Fn mg G "fspath" 16
 rH:Fn mg G "_get_sep" 20
 join:Fn mg G "join" 21
 oK:Fn mg G "basename" 22
 uR:Fn mg G "dirname" 23
 mS:Fn mg G "commonpath" 24
 pieces:Fn mg G "_law_pieces" 35
 chain:Fn mg G "_law_chain" 36
 put:Fn mg G "_law_put" 37
 read:Fn mg G "_law_read" 38
 ready:Fn mg G "_law_ready" 39
 lay:Fn mg G "_law_lay" 40
 step:Fn mg G "_law_step" 41
 below:Fn mg G "_law_below" 42
 compare:Fn mg G "_law_compare" 43
 front:Fn mg G "_law_front" 44
 tY:Fn mg G "read_uint1" 6
 zw:Fn mg G "read_string1" 7
 cmp:Fn mg G "cmp_to_key" 2
theorem Ev.def {p:Pos} {ds:List Sv} (T:bL mg mb G) (H:Fn mg G x i) (K:fM c.env) (hk:c.env.kindOf x=some .globalImplicit) (h1:ic prog w G n c ρ (e::es) ds) (P:bJ prog w G n (.ref (adr mg x)) ds d) (h0:(x == ("__debug__" :Str))=false:=by decide +kernel) (h2:aC (e::es) c.env=(false,eval e c.env)::aC es c.env:=by rfl) (hc:eval (.Call (.Name x p) (e::es) [] pos) c.env=(do eF pos (<- eval (.Name x p) c.env) [] (cI pos (aC (e::es) c.env)) (eG pos (bX [] c.env))):=by rfl):Ev prog w G n c ρ (.Call (.Name x p) (e::es) [] pos) d:=by
 refine fF H.at' fun o pm cd doc ho hd _=>?_;exact Ev.AH ho hd (Ev.global T K hk H.name h0) h1 P h2 hc
theorem Ev.bi (T:bL mg mb G) (H:Prog mg G) (K:fM c.env) (hk:c.env.kindOf x=some .globalImplicit) (hv:lV x=some v) (hx:x∈CU:=by decide +kernel) (hn:x≠ "__name__":=by decide +kernel) (h1:(x == ("__debug__" :Str))=false:=by decide +kernel):Ev prog w G n c ρ (.Name x pos) (.val v):=Ev.builtin T K hk (H.bi x hx) hv hn h1
theorem jJ (T:bL mg mb G) (H:Prog mg G):bJ prog w G (n + 1) (.ref (adr mg "fspath")) [.dat (.str x)] (.dat (.str x)):=by
 refine bJ.def (xs:=["path"]) T H.oJ.at' (fun pm cd doc vs h=>?_) rfl rfl (by decide +kernel) ?_
 ·exact sS h fun _=>rfl
 intro L cd K;refine Ex.cons (Xs.assign K (.inl rfl) (d:=.val (.type "str")) (Ev.kH (Ev.bi T H K rfl (by decide +kernel)) (.one (Ev.name K rfl)) zv)) ?_;refine Ex.stop (Xs.RX (Et.plain (d:=.dat (.bool true)) ?_ gR.bool) (Ex.stop (Xs.ret (Ev.name K rfl))));exact Ev.iV (Ev.bi T H K rfl (by decide +kernel)) (.cons (Ev.name K rfl) (.one (Ev.Pw (.cons (Ev.bi T H K rfl (by decide +kernel)) (.one (Ev.bi T H K rfl (by decide +kernel))))))) CT
theorem mT (T:bL mg mb G) (H:Prog mg G):bJ prog w G (n + 1) (.ref (adr mg "_get_sep")) [.dat (.str x)] (.dat (.str "/")):=by
 refine bJ.def (xs:=["path"]) T H.rH.at' (fun pm cd doc vs h=>?_) rfl rfl (by decide +kernel) ?_
 ·exact sS h fun _=>rfl
 intro L cd K;refine Ex.stop (Xs.Ay (Et.plain (d:=.dat (.bool false)) ?_ gR.bool) (Ex.stop (Xs.ret Ev.str)));exact Ev.iV (Ev.bi T H K rfl (by decide +kernel)) (.cons (Ev.name K rfl) (.one (Ev.bi T H K rfl (by decide +kernel)))) rF
section
open PySem.StrLaws
noncomputable def st (l:List Nat):Str:=⟨l.toArray⟩
theorem kK (a b:List Nat):st a++st b=st (a++b):=Ez (by refine (?_:a.toArray++b.toArray=(a++b).toArray); simp)
theorem ef (a:List Nat):(st a).length=a.length:=by simp [st,Str.length]
theorem gV (a:List Nat):(st a).cps.toList=a:=by simp [st]
theorem oM (x:Str):x=st x.cps.toList:=Ez (by simp [st])
theorem Iv {a b:List Nat} (h:st a=st b):a=b:=by rw [<- gV a,h,gV]
theorem fu:aR "/"=st [47]:=by decide +kernel
noncomputable def dg (x:Int):List Nat:=(sn x).cps.toList
theorem i5 (x:Int):sn x=st (dg x):=oM _
theorem Px: ∀m < 256,dg (m:Nat)≠ []/\47∉dg (m:Nat)/\46∉dg (m:Nat)/\(dg (m:Nat)).length<=3:=by decide +kernel
noncomputable def Small (x:Int):Prop:=0<=x/\x < 256
theorem j7 {x:Int} (h:Small x):dg x≠ []/\47∉dg x/\46∉dg x/\(dg x).length<=3:=by
 refine ex (iR h.1) ?_; rintro m rfl;exact Px m (by have:=h.2; exact EJ this)
theorem vF {x y:Int} (hx:Small x) (hy:Small y) (h:sn x=sn y):x=y:=by
 have a:=OY hx.1 (by have:=hx.2; exact Pd this);have b:=OY hy.1 (by have:=hy.2; exact Pd this);have:K3 (sn x)=K3 (sn y):=by rw [h]
 rw [a,b] at this;exact aH this
noncomputable def pc (c:List Int):List Nat:=c.flatMap fun x=>47::dg x
noncomputable def rI:List Int->List Nat
 | []=>[47]
 | x::c=>pc (x::c)
noncomputable def path (c:List Int):Str:=st (rI c)
theorem iF (c:List Int) (x:Int):rI (c++[x])=pc c++47::dg x:=by
 cases c with
 | nil=>simp [rI,pc]
 | cons y c=>simp [rI,pc]
theorem zx {c:List Int} (hc: ∀x∈c,Small x):(pc c).length<=4 * c.length:=by
 induction c with
 | nil=>simp [pc]
 | cons x c ih=>
  have h1:=(j7 (hc x (.head _))).2.2.2;have h2:=ih fun y hy=>hc y (.tail _ hy);refine (?_:((47::dg x)++pc c).length<=_);rw [List.length_append,List.length_cons,List.length_cons];exact Nat.le_trans (Nat.add_le_add (Nat.succ_le_succ h1) h2) (Nat.le_of_eq (Nat.add_comm 4 _))
theorem AW {a d:List Nat} (hd:47∉d):uM (st (a++47::d)) (st [47])=a.length:=by
 have key: ∀i,At (st (a++47::d)) (st [47]) (st (a++47::d)).length i↔ (a++47::d)[i]? =some 47:=fun i=>by
  have:=RE (st (a++47::d)) 47 i;rw [gV] at this;exact this
 have h0:At (st (a++47::d)) (st [47]) (st (a++47::d)).length a.length:=(key _).mpr (by simp);unfold uM;rcases last_spec (st (a++47::d)) (st [47]) with ⟨e,h⟩ | ⟨i,e,h1,h2⟩
 ·exact absurd h0 (h _)
 ·rw [e];have le:a.length<=i:=by
   by_cases q:a.length<=i
   ·exact q
   ·exact absurd h0 (h2 _ (Nat.lt_of_not_le ‹_›))
  have:i=a.length:=by
   by_cases q:i=a.length
   ·exact q
   ·have h3:=(key i).mp h1;obtain ⟨k,rfl⟩: ∃k,i=a.length + 1 + k:=Nat.exists_eq_add_of_le (Nat.lt_of_le_of_ne le (Ne.symm q));have e1:(a++47::d)[a.length + 1 + k]? =d[k]? :=by
     rw [List.getElem?_append_right le];have:a.length + 1 + k - a.length=k + 1:=by rw [Nat.add_assoc,Nat.add_sub_cancel_left,Nat.add_comm]
     rw [this,List.getElem?_cons_succ]
    rw [e1] at h3;exact absurd (List.mem_of_getElem? h3) hd
  rw [this]
theorem Iw {l:List Nat} (h:i<=l.length):pB (st l) (some (i:Int)) none=st (l.drop i):=by
 rw [sliceText_from ⟨aS _,by rw [gV]; exact fh.mpr h⟩,gV,cj];have:((l.length:Int) - (i:Int)).toNat=(l.drop i).length:=by rw [List.length_drop]; exact OZ ..
 rw [this,List.take_length]; rfl
theorem Py {l:List Nat} (h:i<=l.length):pB (st l) none (some (i:Int))=st (l.take i):=by
 rw [sliceText_to ⟨aS _,by rw [gV]; exact fh.mpr h⟩,gV,List.drop_zero];have:((i:Int) - 0).toNat=i:=congrArg hU (Int.sub_zero _);rw [this]; rfl
theorem zy {a:List Nat} (ha:a≠ []) (hl:a.getLast? ≠some 47):xe (st (a++[47])) (st [47])=st a:=by
 unfold xe;rw [Sp];have hg:(st [47]).cps.contains 47=true:=by decide +kernel
 have e:((st (a++[47])).cps.toList.drop 0).reverse.takeWhile (fun x=>(st [47]).cps.contains x)=[47]:=by
  rw [gV,List.drop_zero,List.reverse_append];refine (?_:List.takeWhile _ (47::a.reverse)=_);rw [List.takeWhile_cons,if_pos hg]
  congr 1
  cases h:a.reverse with
  | nil=>rfl
  | cons y r=>
   rw [List.takeWhile_cons,if_neg];have:a.getLast? =some y:=by rw [<- List.head?_reverse,h]; rfl
   rw [this] at hl;simp [st];intro e; exact hl (by rw [e])
 refine (?_:Builtin.Str.strSub _ 0 ((st (a++[47])).length - (((st (a++[47])).cps.toList.drop 0).reverse.takeWhile (fun x=>(st [47]).cps.contains x)).length)=_);rw [e,ef];rw [oM (Builtin.Str.strSub _ _ _),strSub_toList,gV];simp
theorem Ev.Iz {lower:Option Expr} {p:Pos} {lo hi:Option Int} (h1:Ev prog w G n c ρ value (.dat (.str x))) (hl:lN prog w G n c ρ lower lo) (hu:lN prog w G n c ρ upper hi) (hz:x.length<=1000) (S3:(pB x lo hi).length<=1000) (ht: ∀o r,Vl value o r=pure ():=by intro _ _; rfl):Ev prog w G n c ρ (.Subscript value (.Slice lower upper Option.none p) pos) (.dat (.str (pB x lo hi))):=.mk fun A E Q Φ τ s a F h=>
 wpAny_Subscript_str_slice (h1.go A E _ Φ τ s a F fun v1 s1 m1 F1=>hl.go a F1 fun v2 s2 m2 p2 F2=>hu.go a F2 fun v3 s3 m3 p3 F3=>by
  refine bQ F3.heldBy fun D hD ht=>?_;refine ex (jj (ht (v1,.dat (.str x)) (.head _))) fun _ e1=>?_;have part: ∀{v:ai} {p:Option Int},zu v p->∃l:Option (Int × Tok),v=partValue l/\l.map (·.1)=p:=by
   intro v p h;cases p with
   | none=>exact ⟨Option.none,h,rfl⟩
   | some i=>refine ex h ?_; clear h; rintro t rfl; exact ⟨some (i,t),rfl,rfl⟩
  refine bQ (part p2) fun l e2 f2=>?_;refine bQ (part p3) fun u e3 f3=>?_;refine ⟨x,_,l,u,e1,e2,e3,?_⟩;have F4:FS G c Φ ρ τ (s3.heap.push { cls:=.type "slice",data:=.fields #[v2,v3,.none] }):=F3.pop.keep fun b o e=>av _ e;have eq:pB x lo hi=if ((1:Int) == 1 && (K4 x l u Option.none).length == x.length)=true then x else ⟨((K4 x l u Option.none).filterMap (x.cps[·]?)).toArray⟩:=by
   subst f2 f3; rfl
  unfold sliceMade;refine (?_:(if ((1:Int) == 1 && (K4 x l u Option.none).length == x.length)=true then Made.val _ else Made.str _).post _ _);split
  ·rename_i hc;rw [if_pos hc] at eq;rw [eq] at h;exact h _ _ (((m1.trans m2).trans m3).trans ⟨rfl,rfl⟩) (F4.plus fun D=>.str _ _)
  ·rename_i hc;rw [if_neg hc] at eq;rw [eq] at h S3;exact ⟨sl S3,h _ _ (((m1.trans m2).trans m3).trans ⟨rfl,rfl⟩) (F4.plus fun D=>.str _ _)⟩) ht
theorem qt (T:bL mg mb G) (H:Prog mg G) {c:List Int} {x:Int} (hc: ∀y∈c,Small y) (hx:Small x) (hl:c.length<=20):bJ prog w G (n + 2) (.ref (adr mg "basename")) [.dat (.str (path (c++[x])))] (.dat (.str (sn x))):=by
 have hlen:(path (c++[x])).length<=100:=by
  unfold path; rw [ef,iF,List.length_append,List.length_cons];have:=zx hc; have:=(j7 hx).2.2.2; exact lK (Nat.add_le_add (Nat.le_trans ‹(pc c).length<=_› (Nat.mul_le_mul_left 4 hl)) (Nat.succ_le_succ ‹_<=3›))
 have Ob:=hlen;unfold path at Ob;rw [ef,iF] at Ob;have hr:uM (path (c++[x])) (st [47])=(pc c).length:=by unfold path; rw [iF]; exact AW (j7 hx).2.1
 have IA:pB (path (c++[x])) (some ((pc c).length + 1:Int)) none=sn x:=by
  unfold path;rw [iF];have:=Iw (l:=pc c++47::dg x) (i:=(pc c).length + 1) (by simp);rw [show (((pc c).length + 1:Nat):Int)=((pc c).length + 1:Int) by push_cast; rfl] at this;rw [this,i5]
  congr 1
  rw [List.drop_append,List.drop_eq_nil_of_le (Nat.le_add_right _ _)]; simp
 refine bJ.def (xs:=["p"]) T H.oK.at' (fun pm cd doc vs h=>?_) rfl rfl (by decide +kernel) ?_
 ·exact sS h fun _=>rfl
 intro L cd K;refine Ex.cons (Xs.assign K (.inl rfl) (d:=.dat (.str (path (c++[x])))) (Ev.def T H.oJ K rfl (.one (Ev.name K rfl)) (jJ T H))) ?_;refine Ex.cons (Xs.assign K (.inl rfl) (d:=.dat (.str "/")) (Ev.def T H.rH K rfl (.one (Ev.name K rfl)) (mT T H))) ?_;refine Ex.cons (Xs.assign K (.inl rfl) (d:=.dat (.int ((pc c).length + 1))) (Ev.bin (d1:=.dat (.int (pc c).length)) ?_ Ev.int jw)) ?_
 ·rw [<- hr, <- fu];exact Ev.ux F.plainAttrs_str F.slot_str_rfind F.type_str_rfind Kind.str (Ev.name K rfl) (.one (Ev.name K rfl)) vD
 ·rw [<- IA];exact Ex.stop (Xs.ret (Ev.Iz (Ev.name K rfl) (.some (Ev.name K rfl)) .none (Nat.le_trans ‹_› (by decide)) (by rw [IA]; unfold sn; rw [show aR (toString x)=st (dg x) from i5 x,ef]; have:=(j7 hx).2.2.2; exact lK this)))
end
section
open PySem.StrLaws
theorem rJ (l:List Nat):jh (st l) (st [47])=decide (l[0]? =some 47):=by
 have h:=RE (st l) 47 0;rw [gV] at h;have h':(0 + (st [47]).length<=(st l).length/\Builtin.Str.subAt (st l) (st [47]) 0=true) ↔l[0]? =some 47:=h;unfold jh
 by_cases q:l[0]? =some 47
 ·rw [decide_eq_true q,decide_eq_true (h'.mpr q).1,(h'.mpr q).2]; rfl
 ·rw [decide_eq_false q];refine lX.mpr fun e=>q (h'.mp ?_);refine ea (cP.mp e) fun e1 e2=>?_;exact ⟨of_decide_eq_true e1,e2⟩
theorem CV (l:List Nat):tO (st l) (st [47])=decide (l.getLast? =some 47):=by
 have h:=RE (st l) 47 ((st l).length - (st [47]).length);rw [gV,ef,ef] at h;have h1:l[l.length - 1]? =l.getLast? :=(List.getLast?_eq_getElem? ..).symm;have h':(l.length - 1 + 1<=l.length/\Builtin.Str.subAt (st l) (st [47]) (l.length - 1)=true) ↔l.getLast? =some 47:=by rw [<- h1]; exact h
 unfold tO;rw [ef,ef];refine (?_:(decide (0 + 1<=l.length) && Builtin.Str.subAt (st l) (st [47]) (l.length - 1))=_)
 by_cases q:l.getLast? =some 47
 ·have:=(h'.mpr q).1;rw [decide_eq_true q,(h'.mpr q).2,decide_eq_true (Nat.le_trans (Nat.le_add_left 1 _) this)]; rfl
 ·rw [decide_eq_false q];refine lX.mpr fun e=>q (h'.mp ?_);refine ea (cP.mp e) fun e1 e2=>?_;have:=of_decide_eq_true e1;exact ⟨Nat.le_of_eq (Nat.sub_add_cancel this),e2⟩
theorem ER {c:List Int} (hc: ∀y∈c,Small y):(pc c).getLast? ≠some 47:=by
 cases h:c.reverse with
 | nil=>
  rw [List.reverse_eq_nil_iff.mp h]; simp [pc]
 | cons x r=>
  have e:c=r.reverse++[x]:=by rw [<- List.reverse_reverse c,h,List.reverse_cons]
  have hx:=j7 (hc x (by rw [e]; simp));have e2:pc c=pc r.reverse++47::dg x:=by rw [e]; simp [pc]
  rw [e2];cases hd:dg x with
  | nil=>exact absurd hd hx.1
  | cons y z=>
   rw [List.getLast?_append,List.getLast?_cons_cons, <- hd];cases hq:(dg x).getLast? with
   | none=>rw [List.getLast?_eq_none_iff] at hq; exact absurd hq hx.1
   | some v=>
    intro q;have:v=47:=aH q;subst this;exact hx.2.1 (List.mem_of_getLast? hq)
theorem jx {c:List Int} (h:c≠ []):rI c=pc c:=by
 cases c with
 | nil=>exact absurd rfl h
 | cons x c=>rfl
theorem jK {c:List Int} (hc: ∀y∈c,Small y) (hl:c.length<=20):(path c).length<=100:=by
 unfold path;rw [ef]
 by_cases h:c=[]
 ·subst h; simp [rI]
 ·rw [jx h]; have:=zx hc; exact lK (Nat.le_trans this (Nat.mul_le_mul_left 4 hl))
theorem Xs.try {b:List Stmt} {h₀:EA} {hs:List EA} {o:Out} (h:Ex prog w G n c ρ b o):Xs prog w G n c ρ (.Try b (h₀::hs) [] [] pos) o:=.mk fun A E Q Φ τ s a F hq=>
 pC (h.go A _ _ Φ τ s a F (by
  cases o with
  | next r=>exact fun s' m' F'=>bz (hq s' m' F')
  | brk r=>exact hq
  | cont r=>exact hq
  | ret d=>exact hq))
theorem Xs.ite {b1 b2:List Stmt} {o:Out} {b:Bool} (ht:Et prog w G n c ρ t b) (h1:b=true->Ex prog w G n c ρ b1 o) (h2:b=false->Ex prog w G n c ρ b2 o):Xs prog w G n c ρ (.If t b1 b2 pos) o:=by
 cases b with
 | true=>exact Xs.RX ht (h1 rfl)
 | false=>exact Xs.Ay ht (h2 rfl)
theorem AX (hz:x.length + y.length<=1000):ny prog w G n (inplaceOp .Add) (.dat (.str x)) (.dat (.str y)) (.dat (.str (x++y))):=.dat fun A E Q Φ D v1 v2 s a W h1 h2 h=>by
 refine sE h1 fun _=>sE h2 fun _=>?_;exact PySem.SB.iadd (fun t' k=>h _ _ ⟨rfl,rfl⟩ rfl (.str _ _)) (sl hz)
theorem IB (k:Nat): ∀(acc:Array Nat),(List.replicate k #[47]).foldl (· ++ ·) acc=acc++(List.replicate k 47).toArray:=by
 induction k with
 | zero=>intro acc; simp
 | succ k ih=>
  intro acc;rw [List.replicate_succ,List.foldl_cons,ih];apply tQ.mp;simp [List.replicate_succ]
theorem LR (h1:1<=k) (hk:k<=1000):ny prog w G n (mE .Mult) (.dat (.str (st [47]))) (.dat (.int k)) (.dat (.str (st (List.replicate k 47)))):=.dat fun A E Q Φ D v1 v2 s a W q1 q2 h=>by
 refine sE q1 fun _=>iE q2 fun _=>?_;have hl:(st [47]).length=1:=rfl;refine PySem.P.mul_str (by rw [decide_eq_false (dJ.mpr (d9 (by decide) (aS k))),decide_eq_false (WB hk)]; rfl) (fun _ _=>by rw [hl]; have:(1:Int)<=(2 ^ 63 - 1) / k:=Int.le_ediv_of_mul_le (cf.mpr h1) (d9 (Int.le_of_eq (Int.one_mul _)) (d9 (fh.mpr hk) (by decide))); exact dJ.mpr this)
  (fun _ _=>by rw [hl]; unfold Builtin.Str.tooLong; have:=sl hk; simp; lia) ?_
 rw [if_neg (show ¬(k:Int) < 1 from dJ.mpr (fh.mpr h1))];split
 ·rename_i hc;have:k=1:=by
   rw [hl] at hc;simp at hc
   lia
  subst this;exact h _ _ ⟨rfl,rfl⟩ rfl (.str _ _)
 ·have e:(⟨(List.replicate (k:Int).toNat (st [47]).cps).foldl (· ++ ·) #[]⟩:Str)=st (List.replicate k 47):=by
   apply Ez;refine (?_:(List.replicate (k:Int).toNat #[47]).foldl (· ++ ·) #[]=_);rw [IB,cj];simp [st]
  rw [e];exact ⟨by rw [ef,List.length_replicate]; exact sl hk,h _ _ ⟨rfl,rfl⟩ rfl (.str _ _)⟩
theorem zz (T:bL mg mb G) (H:Prog mg G) {c:List Int} {x:Int} (hc: ∀y∈c,Small y) (hx:Small x) (hl:c.length < 20):bJ prog w G (n + 2) (.ref (adr mg "dirname")) [.dat (.str (path (c++[x])))] (.dat (.str (path c))):=by
 have hcx: ∀y∈c++[x],Small y:=fun y hy=>by
  exact cE hy (fun hy=>hc y hy) fun hy=>rf hy (hx)
 have hlen:(path (c++[x])).length<=100:=jK hcx (by simp; exact Nat.le_of_lt_succ hl);have RY:(pc c).length<=80:=Nat.le_trans (zx hc) (Nat.mul_le_mul_left 4 (Nat.le_of_lt hl));have hr:uM (path (c++[x])) (st [47])=(pc c).length:=by unfold path; rw [iF]; exact AW (j7 hx).2.1
 have IA:pB (path (c++[x])) none (some ((pc c).length + 1:Int))=st (pc c++[47]):=by
  unfold path;rw [iF];have:=Py (l:=pc c++47::dg x) (i:=(pc c).length + 1) (by simp);rw [show (((pc c).length + 1:Nat):Int)=((pc c).length + 1:Int) by push_cast; rfl] at this;rw [this]
  congr 1
  rw [List.take_append,List.take_of_length_le (Nat.le_add_right _ _)]; simp
 refine bJ.def (xs:=["p"]) T H.uR.at' (fun pm cd doc vs h=>?_) rfl rfl (by decide +kernel) ?_
 ·exact sS h fun _=>rfl
 intro L cd K;refine Ex.cons (Xs.assign K (.inl rfl) (d:=.dat (.str (path (c++[x])))) (Ev.def T H.oJ K rfl (.one (Ev.name K rfl)) (jJ T H))) ?_;refine Ex.cons (Xs.assign K (.inl rfl) (d:=.dat (.str "/")) (Ev.def T H.rH K rfl (.one (Ev.name K rfl)) (mT T H))) ?_;refine Ex.cons (Xs.assign K (.inl rfl) (d:=.dat (.int ((pc c).length + 1))) (Ev.bin (d1:=.dat (.int (pc c).length)) ?_ Ev.int jw)) ?_
 ·rw [<- hr, <- fu];exact Ev.ux F.plainAttrs_str F.slot_str_rfind F.type_str_rfind Kind.str (Ev.name K rfl) (.one (Ev.name K rfl)) vD
 refine Ex.cons (Xs.assign K (.inl rfl) (d:=.dat (.str (st (pc c++[47])))) ?_) ?_
 ·rw [<- IA];exact Ev.Iz (Ev.name K rfl) .none (.some (Ev.name K rfl)) (Nat.le_trans ‹_› (by decide)) (by rw [IA,ef]; simp; exact lK RY)
 have hk: ∀l,cW 8 (.str (st l))=bA (st l):=fun l=>rfl;have dgs: ∀y:Int,Small y->bA (st (dg y))=true:=fun y hy=>by
  rw [<- i5];refine ex (iR hy.1) ?_; rintro m rfl;exact (show ∀m < 256,bA (sn (m:Nat))=true by decide +kernel) m (by have:=hy.2; exact EJ this)
 have Zv: ∀l:List Nat,(∀z∈l,z < 1000)->bA (st l)=true:=fun l hl=>by
  unfold bA st;simp only [List.all_toArray,List.all_eq_true,decide_eq_true_eq];intro z hz; have:=hl z hz; exact Nat.lt_trans this (by decide)
 have small: ∀z∈pc c,z < 1000:=by
  intro z hz;refine bQ (List.mem_flatMap.mp hz) fun y hy hz=>?_;refine bU hz ?_ (fun hz=>?_)
  ·decide
  ·have Zw:=hc y hy;refine ex (iR Zw.1) ?_; rintro m rfl;exact (show ∀m < 256,∀z∈dg (m:Nat),z < 1000 by decide +kernel) m (by have:=Zw.2; exact EJ this) z hz
 have okh:bA (st (pc c++[47]))=true:=Zv _ fun z hz=>by
  refine cE hz (fun hz=>?_) (fun hz=>?_)
  ·exact small z hz
  ·rw [List.mem_singleton] at hz; subst hz; decide
 have VR: ∀k,bA (st (List.replicate k 47))=true:=fun k=>Zv _ fun z hz=>by rw [List.eq_of_mem_replicate hz]; lia
 refine Ex.cons (Xs.ite (b:=true && !decide (c=[])) (o:=.next (upd (upd (upd (upd (fun _=>none) "p" (.dat (.str (path (c++[x]))))) "sep" (.dat (.str "/"))) "i" (.dat (.int ((pc c).length + 1)))) "head" (.dat (.str (path c)))))
  (Et.and (Et.plain (Ev.name K rfl) ?_) fun _=>Et.cmp (Ev.name K rfl) (Ev.bin (Ev.name K rfl) (Ev.iV (Ev.bi T H K rfl (by decide +kernel)) (.one (Ev.name K rfl)) (yl (by rw [ef]; simp; exact lK RY))) (d:=.dat (.str (st (List.replicate (pc c++[47]).length 47)))) ?_) (lu (b:=decide (c=[])) ((hk _).trans okh) ((hk _).trans (VR _)) ?_) gR.bool) (fun hb=>?_) fun hb=>?_) (Ex.stop (Xs.ret (Ev.name K rfl)))
 ·have:=gR.str (prog:=prog) (w:=w) (G:=G) (n:=n + 1) (x:=st (pc c++[47])) (by rw [ef]; simp; exact lK RY);rw [ef] at this;have e:(((pc c++[47]).length:Int) != 0)=true:=by simp; exact n6 (sq _)
  rw [e] at this;exact this
 ·rw [fu,ef];exact LR (by simp) (by simp; exact lK RY)
 ·rw [decide_eq_true_iff];constructor
  ·rintro rfl; simp [pc]
  ·intro e;have e:=Iv (gF e);cases c with
   | nil=>rfl
   | cons y c=>
    have hy:=j7 (hc y (.head _));cases hd:dg y with
    | nil=>exact absurd hd hy.1
    | cons z r=>
     have e1:(pc (y::c)++[47])=47::z::(r++(pc c++[47])):=by simp [pc,hd]
     rw [e1] at e;have:z∈List.replicate (47::z::(r++(pc c++[47]))).length 47:=by rw [<- e]; simp
     have:=List.eq_of_mem_replicate this;subst this;rw [hd] at hy;exact absurd (List.mem_cons_self) hy.2.1
 ·have h0:c≠ []:=by simpa using hb
  refine Ex.mono (Ex.cons (Xs.assign K (.inl rfl) (d:=.dat (.str (path c))) ?_) Ex.nil) (aP (aP (aP (aP dB rfl) rfl) rfl) rfl);have:=zy (a:=pc c) (by cases c with | nil=>exact absurd rfl h0 | cons y c=>simp [pc]) (ER hc);unfold path;rw [jx h0, <- this, <- fu];exact Ev.ux F.plainAttrs_str F.slot_str_rstrip F.type_str_rstrip Kind.str (Ev.name K rfl) (.one (Ev.name K rfl)) (AS (by rw [ef]; simp; exact lK RY))
 ·have h0:c=[]:=by simpa using hb
  have:path c=st (pc c++[47]):=by subst h0; rfl
  rw [this];exact Ex.mono Ex.nil (aP (aP (aP (aP dB rfl) rfl) rfl) rfl)
end
section
open PySem.StrLaws
theorem IC {l:List Nat} (hl: ∀z∈l,z < 1000):bA (st l)=true:=by
 unfold bA st;simp only [List.all_toArray,List.all_eq_true,decide_eq_true_eq];intro z hz; have:=hl z hz; exact Nat.lt_trans this (by decide)
theorem AY {y:Int} (hy:Small y): ∀z∈dg y,z < 1000:=by
 refine ex (iR hy.1) ?_; rintro m rfl;exact (show ∀m < 256,∀z∈dg (m:Nat),z < 1000 by decide +kernel) m (by have:=hy.2; exact EJ this)
theorem ID {c:List Int} (hc: ∀y∈c,Small y): ∀z∈pc c,z < 1000:=by
 intro z hz;refine bQ (List.mem_flatMap.mp hz) fun y hy hz=>?_;refine bU hz ?_ (fun hz=>?_)
 ·decide
 ·exact AY (hc y hy) z hz
theorem vG {y:Int} (hy:Small y):cW 8 (.str (sn y))=true:=by
 refine (?_:bA _=true);rw [i5]; exact IC (AY hy)
theorem ly {c:List Int} (hc: ∀y∈c,Small y):cW 8 (.str (path c))=true:=by
 refine (?_:bA _=true);unfold path
 by_cases h:c=[]
 ·subst h; decide +kernel
 ·rw [jx h]; exact IC (ID hc)
theorem Et.is {b b':Bool} (h:Et prog w G n c ρ e b) (q:b=b'):Et prog w G n c ρ e b':=q ▸ h
theorem Ev.is {b b':Sv} (h:Ev prog w G n c ρ e b) (q:b=b'):Ev prog w G n c ρ e b':=q ▸ h
theorem Ga (T:bL mg mb G) (H:Prog mg G) {c:List Int} {x:Int} (hc: ∀y∈c,Small y) (hx:Small x) (hl:c.length < 20):
  bJ prog w G (n + 2) (.ref (adr mg "join")) [.dat (.str (path c)),.dat (.str (sn x))] (.dat (.str (path (c++[x])))):=by
 have RY:=zx hc;have Pz:=j7 hx;have IE:=jK hc (Nat.le_of_lt ‹_›);refine bJ.SS (xs:=["a","p"]) (ds:=[.dat (.str (path c)),.dat (.tuple [.str (sn x)])]) T H.join.at' (fun pm cd doc vs A E Q Φ D s hh W hv h=>?_) rfl rfl (by decide +kernel) ?_
 ·refine VP hv fun v1 h1 v2 h2=>?_;have e:gw (docDef "join" (argsAt 21) (dh 21) (aG 21) pm cd doc) ⟨[v1,v2],[]⟩=(do let t <- newTuple [v2]; pure [("a",v1),("p",t)]):=rfl
  rw [e];refine ae (bC (ah ?_) (by refine (?_:1<=bF); exact sl (Nat.le_add_left _ _)));refine h [v1,.ref s.heap.objs.size] _ ((s.heap.objs.size,{ cls:=.type "tuple",data:=.seq [v2].toArray })::D) ⟨rfl,rfl⟩ (W.push _ rfl) (fun _ hp=>.tail _ hp) (.cons (bw.mono (fun _ hp=>.tail _ hp) h1) (.cons ?_ .nil));exact lG (.head _) (.cons (nq (fun _ hp=>.tail _ hp) h2) .nil)
 intro L cd K;refine Ex.cons (Xs.assign K (.inl rfl) (d:=.dat (.str (path c))) (Ev.def T H.oJ K rfl (.one (Ev.name K rfl)) (jJ T H))) ?_;refine Ex.cons (Xs.assign K (.inl rfl) (d:=.dat (.str "/")) (Ev.def T H.rH K rfl (.one (Ev.name K rfl)) (mT T H))) ?_;refine Ex.cons (Xs.assign K (.inl rfl) (d:=.dat (.str (path c))) (Ev.name K rfl)) ?_;refine Ex.cons (Xs.try (Ex.cons (Xs.for (d:=.dat (.tuple [.str (sn x)])) (Ev.name K rfl) bM.tuple (fun i=>upd (upd (fun _=>none) "sep" (.dat (.str "/"))) "path" (.dat (.str (if i=0 then path c else path (c++[x]))))) (fun i=>upd (upd (upd (fun _=>none) "sep" (.dat (.str "/"))) "path" (.dat (.str (if i=0 then path c else path (c++[x]))))) "b" (.dat (.str (sn x)))) (aP (aP dB rfl) rfl)
  (.next (upd (upd (fun _=>none) "sep" (.dat (.str "/"))) "path" (.dat (.str (path (c++[x])))))) 1 (by simp) (fun _=>rfl) (fun i d hi hd=>?_) (fun i hi=>.inl ?_) (fun h=>absurd h (by simp))) Ex.nil)) (Ex.stop (Xs.ret (Ev.name K rfl)))
 ·cases i with
  | zero=>
   cases hd;exact dm.name K (.inl rfl)
  | succ i=>cases hd
 ·obtain rfl:i=0:=by lia
  refine Ex.cons (Xs.assign K (.inl rfl) (d:=.dat (.str (sn x))) (Ev.def T H.oJ K rfl (.one (Ev.name K rfl)) (jJ T H))) ?_;have h1:jh (sn x) "/"=false:=by
   rw [i5,fu,rJ];refine decide_eq_false fun e=>?_;exact Pz.2.1 (List.mem_of_getElem? e)
  have VS:path c=gm\/True:=.inr trivial;have S4:1<=(path c).length:=by
   unfold path;rw [ef]
   by_cases h:c=[]
   ·subst h; simp [rI]
   ·rw [jx h];cases c with
    | nil=>exact absurd rfl h
    | cons y c=>simp [pc]
  refine Ex.cons (Xs.Ay (Et.is (Et.or (b:=jh (sn x) "/") (d:=!(((path c).length:Int) != 0)) (Et.plain (Ev.ux F.plainAttrs_str F.slot_str_startswith F.type_str_startswith Kind.str (Ev.name K rfl) (.one (Ev.name K rfl)) nC) gR.bool) fun _=>Et.not (Et.plain (Ev.name K rfl) (gR.str (by refine (?_:(path c).length<=1000); exact lK IE)))) (by rw [h1]; simp; exact Nat.ne_of_gt S4))
   (Ex.cons (Xs.ite (b:=tO (path c) "/") (o:=.next (upd (upd (fun _=>none) "sep" (.dat (.str "/"))) "path" (.dat (.str (path (c++[x])))))) (Et.plain (Ev.ux F.plainAttrs_str F.slot_str_endswith F.type_str_endswith Kind.str (Ev.name K rfl) (.one (Ev.name K rfl)) xC) gR.bool) (fun hb=>?_) fun hb=>?_) Ex.nil)) Ex.nil
  ·have h0:c=[]:=by
    by_cases h:c=[]
    ·exact h
    ·unfold path at hb;rw [fu,CV,jx h] at hb;exact absurd (of_decide_eq_true hb) (ER hc)
   refine Ex.mono (Ex.cons (Xs.aug K (.inl rfl) (d:=.dat (.str (path (c++[x])))) rfl (Ev.name K rfl) ?_) Ex.nil) (aP (aP dB rfl) rfl);have e:path (c++[x])=path c++sn x:=by
    subst h0;rw [i5]; unfold path; rw [kK]; simp [rI,pc]
   rw [e];exact AX (by rw [i5,ef,if_pos rfl]; exact lK (Nat.add_le_add IE Pz.2.2.2))
  ·have h0:c≠ []:=by
    rintro rfl;exact absurd hb (by decide +kernel)
   refine Ex.mono (Ex.cons (Xs.aug K (.inl rfl) (d1:=.dat (.str ("/" ++sn x))) (d:=.dat (.str (path (c++[x])))) rfl (Ev.bin (Ev.name K rfl) (Ev.name K rfl) (pL ?_)) ?_) Ex.nil) (aP (aP dB rfl) rfl)
   ·rw [fu,i5,ef,ef]; simp; exact lK (Nat.add_le_add_left Pz.2.2.2 1)
   ·have e:path (c++[x])=path c++("/" ++sn x):=by
     rw [fu,i5,kK];unfold path; rw [kK,iF,jx h0]; rfl
    rw [e];exact AX (by rw [fu,i5,kK,ef,if_pos rfl]; simp; exact lK (Nat.add_le_add IE (Nat.succ_le_succ Pz.2.2.2)))
end
section
open PySem.StrLaws
theorem vH {α β:Type} (z:α) (p:α->Bool) (g:α->β): ∀l:List α,ry (fun i=>p (l.getD i z)) (fun i=>g (l.getD i z)) l.length=(l.filter p).map g:=by
 intro l;have aux: ∀(l r:List α),(List.range l.length).filterMap (fun j=>if p ((l++r).getD j z) then some (g ((l++r).getD j z)) else none)=(l.filter p).map g:=by
  intro l
  induction l with
  | nil=>intro r; rfl
  | cons a l ih=>
   intro r;rw [List.length_cons,List.range_succ_eq_map,List.filterMap_cons];have h0:((a::l)++r).getD 0 z=a:=rfl;have hm:List.filterMap (fun j=>if p (((a::l)++r).getD j z) then some (g (((a::l)++r).getD j z)) else none) (List.map Nat.succ (List.range l.length))=(l.filter p).map g:=by
    rw [List.filterMap_map];exact ih r
   rw [h0,hm];cases hp:p a with
   | true=>simp [List.filter_cons,hp]
   | false=>simp [List.filter_cons,hp]
 have:=aux l [];rw [List.append_nil] at this;exact this
@[irreducible] noncomputable def i6 (prog:br) (w:bR) (G:Heap) (n:Nat) (c:Cx) (ρ:fQ) (scope:iK) (t elt:Expr) (ifs:List Expr) {α:Type} (l:List α) (it:α->Sv) (got:α->fQ) (p:α->Bool) (f:α->Dat):Prop:=
 ∀(L':Addr) (Fr:Led) (a:α),a∈l->fM (aX scope (eR scope c.env) L' c.env)->(∀y d,gU scope ρ y=some d->got a y=some d)/\
   dm prog w G n ⟨aX scope (eR scope c.env) L' c.env,[],Fr⟩ t (it a) (gU scope ρ) (got a)/\nA prog w G n ⟨aX scope (eR scope c.env) L' c.env,[],Fr⟩ (got a) ifs (p a)/\
   (p a=true->Ev prog w G n ⟨aX scope (eR scope c.env) L' c.env,[],Fr⟩ (got a) elt (.dat (f a)))
theorem i6.mk {α:Type} {l:List α} {it:α->Sv} {got:α->fQ} {p:α->Bool} {f:α->Dat} (h: ∀(L':Addr) (Fr:Led) (a:α),a∈l->fM (aX scope (eR scope c.env) L' c.env)->(∀y d,gU scope ρ y=some d->got a y=some d)/\
   dm prog w G n ⟨aX scope (eR scope c.env) L' c.env,[],Fr⟩ t (it a) (gU scope ρ) (got a)/\nA prog w G n ⟨aX scope (eR scope c.env) L' c.env,[],Fr⟩ (got a) ifs (p a)/\
   (p a=true->Ev prog w G n ⟨aX scope (eR scope c.env) L' c.env,[],Fr⟩ (got a) elt (.dat (f a)))):i6 prog w G n c ρ scope t elt ifs l it got p f:=by with_unfolding_all exact h
theorem i6.go {α:Type} {l:List α} {it:α->Sv} {got:α->fQ} {p:α->Bool} {f:α->Dat} (h:i6 prog w G n c ρ scope t elt ifs l it got p f): ∀(L':Addr) (Fr:Led) (a:α),a∈l->fM (aX scope (eR scope c.env) L' c.env)->(∀y d,gU scope ρ y=some d->got a y=some d)/\
   dm prog w G n ⟨aX scope (eR scope c.env) L' c.env,[],Fr⟩ t (it a) (gU scope ρ) (got a)/\nA prog w G n ⟨aX scope (eR scope c.env) L' c.env,[],Fr⟩ (got a) ifs (p a)/\
   (p a=true->Ev prog w G n ⟨aX scope (eR scope c.env) L' c.env,[],Fr⟩ (got a) elt (.dat (f a))):=by with_unfolding_all exact h
theorem i6.turns {α:Type} [Inhabited α] {l:List α} {it:α->Sv} {got:α->fQ} {p:α->Bool} {f:α->Dat} (h:i6 prog w G n c ρ scope t elt ifs l it got p f):
  vq prog w G n c ρ scope t elt ifs (l.map it) (fun i=>got (l.getD i default)) (fun i=>p (l.getD i default)) (fun i=>f (l.getD i default)):=.mk fun L' Fr i d hd K'=>by
 refine zk hd fun a ha=>?_;have e:l.getD i default=a:=by rw [List.getD_eq_getElem?_getD,ha]; rfl
 rw [e];exact h.go L' Fr a (List.mem_of_getElem? ha) K'
theorem Ev.gX {iter:Expr} {α:Type} [Inhabited α] (l:List α) (it:α->Sv) (got:α->fQ) (p:α->Bool) (f:α->Dat) (K:fM c.env) (tX:oG scope=true) (kh:oF scope c.env ρ=true) (hi:Ev prog w G n c ρ iter d) (P:bM prog w G n d (l.map it)) (hz:l.length<=1000) (jk:i6 prog w G n c ρ scope t elt ifs l it got p f) (uv: ∀x,cO iter c.env x=pure x:=by intro _; rfl):Ev prog w G n c ρ (.ListComp elt [⟨t,iter,ifs,0⟩] scope pos) (.dat (.list ((l.filter p).map f))):=by
 have h:=Ev.comp _ _ _ K tX kh hi P (by rw [List.length_map]; exact sl hz) jk.turns uv (pos:=pos);rw [List.length_map,vH] at h;exact h
theorem Xs.gX {py vt:Pos} {iter:Expr} {α:Type} [Inhabited α] (l:List α) (it:α->Sv) (got:α->fQ) (p:α->Bool) (f:α->Dat) (K:fM c.env) (hl:sH c y) (tX:oG scope=true) (kh:oF scope c.env ρ=true) (hi:Ev prog w G n c ρ iter d) (P:bM prog w G n d (l.map it)) (hz:l.length<=1000) (jk:i6 prog w G n c ρ scope t elt ifs l it got p f) (WI:ya (.ListComp elt [⟨t,iter,ifs,0⟩] scope pos) (some (.Name y py)) vt.line c.env=pure true:=by rfl) (uv: ∀x,cO iter c.env x=pure x:=by intro _; rfl):
  Xs prog w G n c ρ (.Assign [.Name y py] (.ListComp elt [⟨t,iter,ifs,0⟩] scope pos) vt) (.next (upd ρ y (.dat (.list ((l.filter p).map f))))):=by
 have h:=Xs.comp _ _ _ K hl tX kh hi P (by rw [List.length_map]; exact sl hz) jk.turns WI uv (pos:=pos);rw [List.length_map,vH] at h;exact h
theorem oN {v:Sv} {uP:fQ} (hx:scope.names.lookup x=some .local) (h: ∀y d,gU scope ρ y=some d->uP y=some d): ∀y d,gU scope ρ y=some d->upd uP x v y=some d:=fun y d e=>by
 unfold upd
 by_cases q:y=x
 ·subst q;unfold gU at e;rw [hx] at e;simp at e
 ·rw [if_neg q]; exact h y d e
theorem i6.name {px:Pos} {α:Type} {l:List α} {it:α->Sv} {p:α->Bool} {f:α->Dat} (hx:scope.names.lookup x=some .local) (h: ∀(L':Addr) (Fr:Led) (a:α),a∈l->fM (aX scope (eR scope c.env) L' c.env)->nA prog w G n ⟨aX scope (eR scope c.env) L' c.env,[],Fr⟩ (upd (gU scope ρ) x (it a)) ifs (p a)/\
   (p a=true->Ev prog w G n ⟨aX scope (eR scope c.env) L' c.env,[],Fr⟩ (upd (gU scope ρ) x (it a)) elt (.dat (f a)))) (hl: ∀L',(aX scope (eR scope c.env) L' c.env).kindOf x=some .local:=by intro _; rfl):i6 prog w G n c ρ scope (.Name x px) elt ifs l it (fun a=>upd (gU scope ρ) x (it a)) p f:=.mk fun L' Fr a ha K'=>
 ⟨oN hx (fun _ _ e=>e),dm.name K' (.inl (hl L')),(h L' Fr a ha K').1,(h L' Fr a ha K').2⟩
theorem i6.Io {z:Str} {px py pz tp:Pos} {α:Type} {l:List α} {d1 d2 d3:α->Dat} {p:α->Bool} {f:α->Dat} (hx:scope.names.lookup x=some .local) (hy:scope.names.lookup y=some .local) (hz:scope.names.lookup z=some .local) (h: ∀(L':Addr) (Fr:Led) (a:α),a∈l->fM (aX scope (eR scope c.env) L' c.env)->nA prog w G n ⟨aX scope (eR scope c.env) L' c.env,[],Fr⟩ (upd (upd (upd (gU scope ρ) x (.dat (d1 a))) y (.dat (d2 a))) z (.dat (d3 a))) ifs (p a)/\
   (p a=true->Ev prog w G n ⟨aX scope (eR scope c.env) L' c.env,[],Fr⟩ (upd (upd (upd (gU scope ρ) x (.dat (d1 a))) y (.dat (d2 a))) z (.dat (d3 a))) elt (.dat (f a)))) (hl: ∀L',(aX scope (eR scope c.env) L' c.env).kindOf x=some .local/\(aX scope (eR scope c.env) L' c.env).kindOf y=some .local/\(aX scope (eR scope c.env) L' c.env).kindOf z=some .local:=by intro _; exact ⟨rfl,rfl,rfl⟩):
  i6 prog w G n c ρ scope (.Tuple [.Name x px,.Name y py,.Name z pz] k tp) elt ifs l (fun a=>.dat (.tuple [d1 a,d2 a,d3 a])) (fun a=>upd (upd (upd (gU scope ρ) x (.dat (d1 a))) y (.dat (d2 a))) z (.dat (d3 a))) p f:=.mk fun L' Fr a ha K'=>
 ⟨oN hz (oN hy (oN hx (fun _ _ e=>e))),dm.Io K' (.inl (hl L').1) (.inl (hl L').2.1) (.inl (hl L').2.2),(h L' Fr a ha K').1,(h L' Fr a ha K').2⟩
theorem cV {α:Type} (l:List α):l.filter (fun _=>true)=l:=by simp
noncomputable abbrev jY:List Int:=[9,10,99,100,128,200,201,254,255]
noncomputable def num (k:Nat):Int:=jY.getD (k - 1) 0
structure Sc where
 n:Nat
 par:Nat->Nat
 text:Nat->List Nat
noncomputable def i7 (S:Sc) (k:Nat):Int:=if S.par k=0 then 0 else num (S.par k)
noncomputable def Lu (S:Sc):Nat->Nat->List Nat
 | 0,_=>[]
 | f + 1,k=>if k=0 then [] else Lu S f (S.par k)++[k]
noncomputable def ids (S:Sc) (k:Nat):List Nat:=Lu S 10 k
noncomputable def ch (S:Sc) (k:Nat):List Int:=(ids S k).map num
noncomputable def eZ (S:Sc) (k:Nat):Dat:=.tuple [.int (num k),.int (i7 S k),.str (st (S.text k))]
noncomputable def row (S:Sc) (k:Nat):Dat:=.tuple [.int (num k),.str (path (ch S k)),.str (st (S.text k))]
structure Sc.Ok (S:Sc):Prop where
 n9:S.n<=9
 par: ∀k,1<=k->k<=S.n->S.par k < k
 text: ∀k,1<=k->k<=S.n->(S.text k).length<=4/\∀z∈S.text k,z < 256
noncomputable def In (S:Sc) (k:Nat):Prop:=1<=k/\k<=S.n
theorem fS:Small (num k):=by
 unfold num
 by_cases h:k - 1 < 9
 ·exact (show ∀i < 9,Small (jY.getD i 0) by unfold Small; decide) _ h
 ·rw [List.getD_eq_getElem?_getD,List.getElem?_eq_none (Nat.le_of_not_lt h:9<=k - 1)];exact ⟨by decide,by decide⟩
theorem WK (hi:1<=i) (hj:j<=9) (h:i < j):num i < num j:=
 (show ∀a < 10,∀b < 10,1<=a->a < b->num a < num b by decide) i (Nat.lt_trans h (Nat.lt_succ_of_le hj)) j (Nat.lt_succ_of_le hj) hi h
theorem zA (hi:1<=i) (hj:i<=9):0 < num i:=(show ∀a < 10,1<=a->0 < num a by decide) i (Nat.lt_succ_of_le hj) hi
theorem pM (hi:1<=i) (hj:1<=j) (zB:i<=9) (Ls:j<=9) (h:num i=num j):i=j:=
 (show ∀a < 10,∀b < 10,1<=a->1<=b->num a=num b->a=b by decide) i (Nat.lt_succ_of_le zB) j (Nat.lt_succ_of_le Ls) hi hj h
theorem vI (hi:1<=i) (hj:1<=j) (zB:i<=9) (Ls:j<=9):num i < num j↔i < j:=
 (show ∀a < 10,∀b < 10,1<=a->1<=b->(num a < num b↔a < b) by decide) i (Nat.lt_succ_of_le zB) j (Nat.lt_succ_of_le Ls) hi hj
theorem CW (h:S.Ok): ∀(f k:Nat),k<=S.n->k < f->Lu S (f + 1) k=Lu S f k:=by
 intro f
 induction f with
 | zero=>intro k _ h; exact absurd h (Nat.not_lt_zero _)
 | succ f ih=>
  intro k hk hf;refine (?_:(if k=0 then [] else Lu S (f + 1) (S.par k)++[k])=(if k=0 then [] else Lu S f (S.par k)++[k]))
  by_cases h0:k=0
  ·rw [if_pos h0,if_pos h0]
  ·rw [if_neg h0,if_neg h0];have q:=h.par k (Nat.pos_of_ne_zero h0) hk;rw [ih (S.par k) (Nat.le_trans (Nat.le_of_lt q) hk) (Nat.lt_of_lt_of_le q (Nat.le_of_lt_succ hf))]
theorem lO (h:S.Ok) (hk:In S k):ids S k=ids S (S.par k)++[k]:=by
 refine ea hk fun h1 h2=>?_; clear hk;have hp:=h.par k h1 h2;refine (?_:(if k=0 then [] else Lu S 9 (S.par k)++[k])=Lu S 10 (S.par k)++[k]);rw [if_neg (Nat.ne_of_gt h1),CW h 9 (S.par k) (Nat.le_trans (Nat.le_of_lt hp) h2) (Nat.lt_of_lt_of_le hp (Nat.le_trans h2 h.n9))]
theorem vJ:ids S 0=[]:=rfl
theorem vK (h:S.Ok) (hk:In S k):ch S k=ch S (S.par k)++[num k]:=by
 unfold ch; rw [lO h hk]; simp
theorem fy: ∀y∈ch S k,Small y:=by
 intro y hy;refine l8 hy fun i _=>?_;exact fS
theorem LU: ∀(f k:Nat),(Lu S f k).length<=f:=by
 intro f
 induction f with
 | zero=>exact fun k=>Nat.le_refl 0
 | succ f ih=>
  intro k;refine (?_:(if k=0 then [] else Lu S f (S.par k)++[k]).length<=_)
  by_cases h:k=0
  ·rw [if_pos h]; exact Nat.zero_le _
  ·rw [if_neg h,List.length_append]; exact Nat.succ_le_succ (ih _)
theorem jy (k:Nat):(ch S k).length<=10:=by unfold ch ids; rw [List.length_map]; exact LU _ _
theorem gp (k:Nat):Small (i7 S k):=by
 unfold i7;split
 ·exact ⟨by decide,by decide⟩
 ·exact fS
theorem rK (h:S.Ok) (hk:In S k):bA (st (S.text k))=true:=IC fun z hz=>Nat.lt_trans ((h.text k hk.1 hk.2).2 z hz) (by decide)
theorem PA (h:S.Ok) (hk:In S k):cW 7 (eZ S k)=true:=by
 have:=rK h hk;simp [eZ,cW,this]
theorem PB (h:S.Ok) (hk:In S k):cW 7 (row S k)=true:=by
 have:=rK h hk;have h2:bA (path (ch S k))=true:=ly fy;simp [row,cW,this,h2]
noncomputable abbrev dL (l:List Int):Dat:=.list (l.map .int)
noncomputable def pY (S:Sc) (k:Nat):List Int:=[num k,i7 S k,((S.text k).length:Int)]++(S.text k).map kX
theorem IF (T:bL mg mb G) (H:Prog mg G) (hS:S.Ok) (hk:In S k) {os:List Int} (ho:os.length<=100):
  bJ prog w G (n + 1) (.ref (adr mg "_law_put")) [.dat (dL os),.dat (eZ S k)] (.dat (dL (os++pY S k))):=by
 have ht:=(hS.text k hk.1 hk.2);refine bJ.def (xs:=["octets","record"]) T H.put.at' (fun pm cd doc vs h=>?_) rfl rfl (by decide +kernel) ?_
 ·exact ur h fun _ _=>rfl
 intro L cd K;refine Ex.stop (Xs.ret (Ev.is (Ev.bin (d1:=.dat (.list (os.map .int++[.int (num k),.int (i7 S k),.int (S.text k).length]))) (d2:=.dat (.list ((S.text k).map fun z=>.int (z:Nat)))) (Ev.bin (Ev.name K rfl) (Ev.list (ds:=[.int (num k),.int (i7 S k),.int (S.text k).length]) (.cons (Ev.gH (Ev.name K rfl) Ev.int (by decide) rfl (by decide)) (.cons (Ev.gH (Ev.name K rfl) Ev.int (by decide) rfl (by decide)) (.one ?_)))) (iZ (sl (by rw [List.length_map]; exact Nat.le_trans (Nat.add_le_add_right ‹os.length<=100› 3) (by decide))))) ?_ (iZ (sl (by rw [List.length_append,List.length_map,List.length_map]; exact Nat.le_trans (Nat.add_le_add (Nat.add_le_add_right ‹os.length<=100› 3) ht.1) (by decide))))) ?_))
 ·have:=yl (prog:=prog) (w:=w) (G:=G) (n:=n) (x:=st (S.text k)) (by rw [ef]; exact Nat.le_trans ht.1 (by decide));rw [ef] at this;exact Ev.iV (Ev.bi T H K rfl (by decide +kernel)) (.one (Ev.gH (Ev.name K rfl) Ev.int (by decide) rfl (by decide))) this
 ·have P:=bM.str (prog:=prog) (w:=w) (G:=G) (n:=n) (x:=st (S.text k));rw [gV] at P;refine Ev.is (Ev.gX (S.text k) _ _ (fun _=>true) (fun z=>.int (z:Nat)) K (by decide +kernel) rfl (Ev.gH (Ev.name K rfl) Ev.int (by decide) rfl (by decide)) P (Nat.le_trans ht.1 (by decide)) (.name rfl fun L' Fr z hz K'=>⟨nA.nil,fun _=>Ev.iV (Ev.bi T H K' rfl (by decide +kernel)) (.one (Ev.name K' rfl)) Ir⟩)) ?_;rw [cV]
 ·simp [pY,dL]
end
section
open PySem.StrLaws
noncomputable def rows (S:Sc) (L:List Nat):Dat:=.list (L.map (row S))
noncomputable def kL (S:Sc) (W:List Nat):Dat:=.list (W.map (eZ S))
noncomputable def yo (S:Sc) (L W:List Nat):List Nat:=W.filter fun k=>decide (S.par k=0\/S.par k∈L)
noncomputable def AllIn (S:Sc) (L:List Nat):Prop:=(∀k∈L,In S k)/\L.length<=20
theorem LV:aR "0"=sn 0:=by decide +kernel
theorem LW (hS:S.Ok) (hk:In S k) (hL:AllIn S L):sn (i7 S k)∈sn 0::L.map (fun j=>sn (num j)) ↔ (S.par k=0\/S.par k∈L):=by
 have hp:=hS.par k hk.1 hk.2;have h9:=hS.n9;have LX:=hk.2;rw [List.mem_cons,List.mem_map];constructor
 ·rintro (e | ⟨j,hj,e⟩)
  ·left;have e:=vF (gp k) ⟨by decide,by decide⟩ e;unfold i7 at e
   by_cases h:S.par k=0
   ·exact h
   ·rw [if_neg h] at e;have:=zA (i:=S.par k) (Nat.pos_of_ne_zero h) (Nat.le_trans (Nat.le_of_lt hp) (Nat.le_trans LX h9))
    lia
  ·have e:=vF fS (gp k) e;unfold i7 at e
   by_cases h:S.par k=0
   ·exact .inl h
   ·rw [if_neg h] at e;have Ls:=hL.1 j hj;have RZ:=Ls.2;have:=pM Ls.1 (Nat.pos_of_ne_zero h) (Nat.le_trans ‹_› ‹_›) (Nat.le_trans (Nat.le_of_lt hp) (Nat.le_trans LX h9)) e;subst this;exact .inr hj
 ·rintro (e | e)
  ·left; unfold i7; rw [if_pos e]
  ·by_cases h:S.par k=0
   ·left; unfold i7; rw [if_pos h]
   ·right; exact ⟨_,e,by unfold i7; rw [if_neg h]⟩
theorem nD (T:bL mg mb G) (H:Prog mg G) (hS:S.Ok) (hk:In S k):bJ prog w G (n + 2) (.ref (adr mg "basename")) [.dat (.str (path (ch S k)))] (.dat (.str (sn (num k)))):=by
 rw [vK hS hk];exact qt T H fy fS (by have:=jy (S:=S) (S.par k); exact lK this)
theorem vL (T:bL mg mb G) (H:Prog mg G) (hS:S.Ok) (hL:AllIn S L) (hW:AllIn S W):
  bJ prog w G (n + 3) (.ref (adr mg "_law_ready")) [.dat (rows S L),.dat (kL S W)] (.dat (kL S (yo S L W))):=by
 refine bJ.def (xs:=["laid","waiting"]) T H.ready.at' (fun pm cd doc vs h=>?_) rfl rfl (by decide +kernel) ?_
 ·exact ur h fun _ _=>rfl
 intro Lo cd K;have P1:=bM.list (prog:=prog) (w:=w) (G:=G) (n:=n + 2) (ds:=L.map (row S));rw [List.map_map] at P1;have P2:=bM.list (prog:=prog) (w:=w) (G:=G) (n:=n + 2) (ds:=W.map (eZ S));rw [List.map_map] at P2;refine Ex.cons (Xs.assign K (.inr ⟨rfl,show _∈ownOf (aG 39) by decide +kernel⟩) (d:=.dat (.list (.str (sn 0)::L.map fun j=>.str (sn (num j))))) (Ev.bin (d1:=.dat (.list [.str "0"])) (d2:=.dat (.list (L.map fun j=>.str (sn (num j))))) (Ev.list (ds:=[.str "0"]) (.one Ev.str)) ?_ ?_)) ?_
 ·refine Ev.is (Ev.gX L _ _ (fun _=>true) (fun j=>.str (sn (num j))) K (by decide +kernel) rfl (Ev.name K rfl) P1 (by have:=hL.2; exact lK this) (i6.Io (d1:=fun k=>.int (num k)) (d2:=fun k=>.str (path (ch S k))) (d3:=fun k=>.str (st (S.text k))) rfl rfl rfl fun L' Fr k hk K'=>⟨nA.nil,fun _=>Ev.def T H.oK K' rfl (.one (Ev.name K' rfl)) (nD T H hS (hL.1 k hk))⟩)) ?_;rw [cV]
 ·rw [LV];exact iZ (sl (by have:=hL.2; simp; exact lK (Nat.add_le_add_left this 1)))
 ·refine Ex.stop (Xs.ret (Ev.gX W _ _ (fun k=>decide (S.par k=0\/S.par k∈L)) (eZ S) K (by decide +kernel) rfl (Ev.name K rfl) P2 (by have:=hW.2; exact lK this) (.name rfl fun L' Fr k hk K'=>⟨nA.one (Et.cmp (Ev.kH (Ev.bi T H K' rfl (by decide +kernel)) (.one (Ev.gH (Ev.name K' rfl) Ev.int (by decide) rfl (by decide))) (oH (gp k).1 (gp k).2)) (Ev.name K' rfl) (SY ?_ (vG (gp k)) ?_) gR.bool),fun _=>Ev.name K' rfl⟩)))
  ·intro e he;refine bU he ?_ (fun he=>?_)
   ·exact vG ⟨by decide,by decide⟩
   ·refine l8 he fun j hj=>?_;exact vG fS
  ·rw [decide_eq_true_iff, <- LW hS (hW.1 k hk) hL];simp
end
section
open PySem.StrLaws PySem.SeqAt
theorem yp: ∀ds:List Dat,Vj ds=ds.map kqdP
 | []=>rfl
 | d::ds=>by rw [Vj,yp ds]; rfl
theorem rL {α:Type} (l:List α) (a:Nat):uy l none (some (a:Int))=l.take a:=by
 unfold uy;refine (?_:(l.drop 0).take (oh l.length (a:Int) - 0)=_);rw [qe,List.drop_zero,Nat.sub_zero]
 by_cases h:a<=l.length
 ·rw [Nat.min_eq_left h]
 ·rw [Nat.min_eq_right (Lm h),List.take_length,List.take_of_length_le (Lm h)]
theorem yq {α:Type} (l:List α) (a:Nat):uy l (some (a:Int)) none=l.drop a:=by
 unfold uy;refine (?_:(l.drop (oh l.length (a:Int))).take (l.length - oh l.length (a:Int))=_);rw [qe]
 by_cases h:a<=l.length
 ·rw [Nat.min_eq_left h, <- List.length_drop,List.take_length]
 ·rw [Nat.min_eq_right (Lm h),List.drop_length,List.drop_of_length_le (Lm h)]; simp
theorem IG {α:Type} (p:α->Bool): ∀(l:List α) (i:Nat),i < (l.takeWhile p).length->∃x,l[i]? =some x/\p x=true
 | [],i,h=>by simp at h
 | a::l,i,h=>by
  rw [List.takeWhile_cons] at h
  by_cases ha:p a=true
  ·rw [if_pos ha] at h;cases i with
   | zero=>exact ⟨a,rfl,ha⟩
   | succ i=>exact IG p l i (by simpa using h)
  ·rw [if_neg ha] at h; simp at h
theorem PC {α:Type} (p:α->Bool) (l:List α):(l.takeWhile p).length=l.length\/∃x,l[(l.takeWhile p).length]? =some x/\p x=false:=by
 induction l with
 | nil=>exact .inl rfl
 | cons a l ih=>
  rw [List.takeWhile_cons]
  by_cases ha:p a=true
  ·rw [if_pos ha];rcases ih with h | ⟨x,h1,h2⟩
   ·exact .inl (by simp [h])
   ·exact .inr ⟨x,by simpa using h1,h2⟩
  ·rw [if_neg ha];exact .inr ⟨a,rfl,by simpa using ha⟩
theorem S5 {α:Type} (p:α->Bool) (l:List α):(l.takeWhile p).length<=l.length:=(List.takeWhile_sublist p).length_le
noncomputable def p0 (S:Sc) (L:List Nat) (k:Nat):Nat:=if S.par k=0 then 0 else L.idxOf (S.par k) + 1
noncomputable def p1 (S:Sc) (L:List Nat) (k:Nat):Nat:=p0 S L k + ((L.drop (p0 S L k)).takeWhile fun j=>decide (k < j)).length
noncomputable def ins (S:Sc) (L:List Nat) (k:Nat):List Nat:=L.take (p1 S L k)++k::L.drop (p1 S L k)
open Classical in
theorem CX {d:Dat} (h1: ∀e∈ds,cW 8 e=true) (h2:cW 8 d=true) (hz:ds.length<=1000) (hj:ds[j]? =some d) (Po: ∀m,m < j->ds[m]? ≠some d):
  bJ prog w G n (.builtin "list.index") [.dat (.list ds),.dat d] (.dat (.int j)):=.rE fun A E Q Φ D v1 v2 s a W q1 q2 h=>by
 refine ex (uL (i4 W) 8 q2 h2) fun bs rx=>?_;refine lE q1 fun b1 jF n1 m1 a1=>?_;refine ex (Hy (i4 W) 8 a1 h1) fun as rs=>?_;have lay:=(Cj h1).1;have PD:=readsAll_map _ _ _ lay rs;have hl:s.heap.IsList b1 jF.toArray:=DatIn.isList W m1;have hlen:=a1.length;have at': ∀m (hm:m < jF.length),qF (Vm s.heap jF[m]) (kqdP d)=decide (ds[m]? =some d):=by
  intro m hm;have e1:(jF.map (Vm s.heap))[m]? =(ds.map kqdP)[m]? :=by rw [PD,yp]
  have PE:m < ds.length:=hlen ▸ hm;rw [List.getElem?_map,List.getElem?_map,List.getElem?_eq_getElem hm,List.getElem?_eq_getElem PE] at e1;have e2:Vm s.heap jF[m]=kqdP ds[m]:=aH e1;rw [e2,rD (h1 _ (List.getElem_mem PE)) h2 (b:=decide (ds[m]? =some d)) (by rw [decide_eq_true_iff,List.getElem?_eq_getElem PE]; exact ⟨aH,congrArg some⟩)]
 have PF:j < ds.length:=(List.getElem?_eq_some_iff.mp hj).1;refine kr PySem.F.slot_list_index ⟨_,W.get m1,rfl⟩ PySem.F.entry_list_index (PySem.F.args_list_index_2 _ _)
  (list_indexAt b1 jF.toArray n1 Option.none #[] v2 (fun y=>qF (Vm s.heap y) (kqdP d)) j (by simp; exact hlen.symm ▸ PF) (su (cf.mpr (Nat.lt_of_lt_of_le PF hz)) (by decide)) ?_ ?_) ⟨W.get m1,items_eqAt (by simpa using rs) rx lay (qd 8 d h2).1 (vB a h2),h _ _ ⟨rfl,rfl⟩ rfl (.int _ _)⟩
 ·have:=at' j (hlen.symm ▸ PF);simp only [List.getElem_toArray];rw [this,decide_eq_true hj]
 ·intro m hm fG;have:=at' m (by simpa using hm);simp only [List.getElem_toArray];rw [this,decide_eq_false (Po m fG)]
end
section
open PySem.StrLaws
theorem Gb {x:Nat} (h:x∈L):L[L.idxOf x]? =some x/\∀m,m < L.idxOf x->L[m]? ≠some x:=by
 have hl:L.idxOf x < L.length:=List.idxOf_lt_length_iff.mpr h;refine ⟨by rw [List.getElem?_eq_getElem hl,List.getElem_idxOf],fun m hm e=>?_⟩;have PE:m < L.length:=Nat.lt_trans ‹_› ‹_›;rw [List.getElem?_eq_getElem PE] at e;have e:=aH e;have:=List.not_of_lt_findIdx (p:=fun y=>y == x) (xs:=L) hm;simp [e] at this
theorem II (T:bL mg mb G) (H:Prog mg G) (hS:S.Ok) (hL:AllIn S L) (hk:In S k) (hp:S.par k=0\/S.par k∈L):
  bJ prog w G (n + 3) (.ref (adr mg "_law_lay")) [.dat (rows S L),.dat (eZ S k)] (.dat (rows S (ins S L k))):=by
 have hpk:=hS.par k hk.1 hk.2;have h9:=hS.n9;have LX:=hk.2;have hlen:=hL.2;have k9:k<=9:=Nat.le_trans LX h9;have p9:S.par k<=9:=Nat.le_trans (Nat.le_of_lt hpk) k9;have L3:L.length<=1000:=Nat.le_trans hlen (by decide);have L1 {β:Type} (f:Nat->β):(L.map f).length<=1000:=(List.length_map f).symm ▸ L3;refine bJ.def (xs:=["laid","record"]) T H.lay.at' (fun pm cd doc vs h=>?_) rfl rfl (by decide +kernel) ?_
 ·exact ur h fun _ _=>rfl
 intro Lo cd K;have P1:=bM.list (prog:=prog) (w:=w) (G:=G) (n:=n + 2) (ds:=L.map (row S));rw [List.map_map] at P1;refine Ex.cons (Xs.mono (FP:=upd (eu ([aR "laid","record"].zip [.dat (rows S L),.dat (eZ S k)]) fun _=>none) "names" (.dat (.list (L.map fun j=>.str (sn (num j)))))) (Xs.gX L _ _ (fun _=>true) (fun j=>.str (sn (num j))) K (.inl rfl) (by decide +kernel) rfl (Ev.name K rfl) P1 (Nat.le_trans ‹_› (by decide)) (i6.Io (d1:=fun k=>.int (num k)) (d2:=fun k=>.str (path (ch S k))) (d3:=fun k=>.str (st (S.text k))) rfl rfl rfl fun L' Fr k hk K'=>⟨nA.nil,fun _=>Ev.def T H.oK K' rfl (.one (Ev.name K' rfl)) (nD T H hS (hL.1 k hk))⟩)) (by rw [cV]; exact fun _ _ h=>h)) ?_;refine Ex.cons (Xs.unpack (d:=.dat (.tuple [.str "/",.int 0])) (Ev.tuple (ds:=[.str "/",.int 0]) (.cons Ev.str (.one Ev.int))) (dm.Pu K (.inl rfl) (.inl rfl))) ?_;have IJ: ∀e∈L.map fun j=>qG (sn (num j)),cW 8 e=true:=fun e he=>by
  refine l8 he fun j hj=>?_;exact vG fS
 refine Ex.cons (Xs.ite (b:=decide (0 < i7 S k)) (o:=.next (upd (upd (upd (eu ([aR "laid","record"].zip [.dat (rows S L),.dat (eZ S k)]) fun _=>none) "names" (.dat (.list (L.map fun j=>.str (sn (num j)))))) "above" (.dat (.str (path (ch S (S.par k)))))) "place" (.dat (.int (p0 S L k)))))
  (Et.cmp (Ev.gH (Ev.name K rfl) Ev.int (by decide) rfl (by decide)) Ev.int AP gR.bool) (fun hb=>?_) fun hb=>?_) ?_
 ·have hb:=of_decide_eq_true hb;have h0:S.par k≠0:=fun e=>by unfold i7 at hb; rw [if_pos e] at hb; exact Av _ hb
  have hm:S.par k∈L:=hp.resolve_left h0;have IK:=Gb hm;have hil:L.idxOf (S.par k) < L.length:=List.idxOf_lt_length_iff.mpr hm;have R0:i7 S k=num (S.par k):=by unfold i7; rw [if_neg h0]
  have CY:p0 S L k=L.idxOf (S.par k) + 1:=by unfold p0; rw [if_neg h0]
  have q1:((p0 S L k:Nat):Int) - 1=(L.idxOf (S.par k):Nat):=by rw [CY]; exact Int.add_sub_cancel (L.idxOf (S.par k):Int) 1
  refine Ex.mono (Ex.cons (Xs.assign K (.inl rfl) (d:=.dat (.int (p0 S L k))) (Ev.is (Ev.bin (d1:=.dat (.int (L.idxOf (S.par k)))) (Ev.ux F.plainAttrs_list F.slot_list_index F.type_list_index Kind.list (Ev.name K rfl) (.one (Ev.kH (Ev.bi T H K rfl (by decide +kernel)) (.one (Ev.gH (Ev.name K rfl) Ev.int (by decide) rfl (by decide))) (oH (gp k).1 (gp k).2))) (CX IJ (vG (gp k)) (L1 _) ?_ ?_)) Ev.int jw) ?_))
   (Ex.cons (Xs.assign K (.inl rfl) (d:=.dat (.str (path (ch S (S.par k))))) (Ev.gH (ds:=[.int (num (S.par k)),.str (path (ch S (S.par k))),.str (st (S.text (S.par k)))]) (Ev.is (Ev.item (ds:=L.map (row S)) (d:=row S (S.par k)) (Ev.name K rfl) (Ev.bin (Ev.name K rfl) Ev.int qQ) (q1 ▸ aS _) ?_ (q1 ▸ pW (Nat.le_trans (Nat.le_of_lt hil) L3))) rfl) Ev.int (by decide) rfl (by decide))) Ex.nil)) (aP (aP (aP (aP (aP dB rfl) rfl) rfl) rfl) rfl)
  ·rw [List.getElem?_map,IK.1,R0]; rfl
  ·intro m PE e;rw [List.getElem?_map] at e;refine bQ (bg.mp e) fun j hj e=>?_;have e:=vF fS (gp k) (gF e);have S6:=hL.1 j (List.mem_of_getElem? hj);have RZ:=S6.2;rw [R0] at e;have:=pM S6.1 (Nat.pos_of_ne_zero h0) (Nat.le_trans RZ h9) p9 e;subst this;exact IK.2 m PE hj
  ·rw [CY]; push_cast; rfl
  ·have:(((p0 S L k:Nat):Int) - 1).toNat=L.idxOf (S.par k):=congrArg hU q1;rw [this,List.getElem?_map,IK.1]; rfl
 ·have hb:=of_decide_eq_false hb;have h0:S.par k=0:=by
   by_cases h:S.par k=0
   ·exact h
   ·exfalso; apply hb;unfold i7; rw [if_neg h];exact zA (Nat.pos_of_ne_zero h) p9
  have CY:p0 S L k=0:=by unfold p0; rw [if_pos h0]
  have LY:path (ch S (S.par k))="/":=by rw [h0]; refine (?_:path []=_); decide +kernel
  rw [CY,LY];exact Ex.mono Ex.nil (aP (aP (aP (aP (aP dB rfl) rfl) rfl) rfl) rfl)
 have CY:p0 S L k<=L.length:=by
  unfold p0;split
  ·exact Nat.zero_le _
  ·rename_i h0;have:=List.idxOf_lt_length_iff.mpr (hp.resolve_left h0);exact Nat.succ_le_of_lt ‹_›
 have hm:=S5 (fun j=>decide (k < j)) (L.drop (p0 S L k));rw [List.length_drop] at hm;have pm:=Nat.add_le_of_le_sub' CY hm;have Zx: ∀i,i < ((L.drop (p0 S L k)).takeWhile fun j=>decide (k < j)).length->p0 S L k + i < L.length:=fun i hi=>Nat.lt_of_lt_of_le (Nat.add_lt_add_left hi _) pm;have A1:((L.map (row S)).take (p1 S L k)).length<=20:=Nat.le_trans (List.length_take_le' _ _) ((List.length_map (row S)).symm ▸ hlen);have A2:((L.map (row S)).drop (p1 S L k)).length<=20:=by rw [List.length_drop,List.length_map]; exact Nat.le_trans (Nat.sub_le _ _) hlen
 have test: ∀i,p0 S L k + i<=L.length->Et prog w G (n + 2) ⟨envOfC "_law_lay" (aG 40) Lo (adr mg "_law_lay") cd,ownOf (aG 40),[]⟩
   (upd (upd (upd (eu ([aR "laid","record"].zip [.dat (rows S L),.dat (eZ S k)]) fun _=>none) "names" (.dat (.list (L.map fun j=>.str (sn (num j)))))) "above" (.dat (.str (path (ch S (S.par k)))))) "place" (.dat (.int (p0 S L k + i:Nat))))
   (FZ ((dh 40).getD 3 default)) (decide (p0 S L k + i < L.length) && (match L[p0 S L k + i]? with | some j=>decide (k < j) | none=>false)):=by
  intro i hi;refine Et.and (Et.is (Et.cmp (Ev.name K rfl) (Ev.iV (Ev.bi T H K rfl (by decide +kernel)) (.one (Ev.name K rfl)) (kB (L1 _))) EO gR.bool) ?_) fun hb=>?_
  ·exact decide_eq_decide.mpr (by rw [List.length_map]; exact cf)
  ·have fG:=of_decide_eq_true hb;rw [List.getElem?_eq_getElem fG];have hj:=hL.1 _ (List.getElem_mem fG);have RZ:=hj.2;refine Et.is (Et.cmp (Ev.kH (Ev.bi T H K rfl (by decide +kernel)) (.one (Ev.item (ds:=L.map fun j=>.str (sn (num j))) (d:=.str (sn (num L[p0 S L k + i]))) (Ev.name K rfl) (Ev.name K rfl) (aS _) ?_ (pW (Nat.le_trans hi L3)))) (AV fS.1 fS.2)) (Ev.gH (Ev.name K rfl) Ev.int (by decide) rfl (by decide)) AP gR.bool) ?_
   ·rw [cj,List.getElem?_map,List.getElem?_eq_getElem fG]; rfl
   ·have:=vI hk.1 hj.1 k9 (Nat.le_trans RZ h9);simp only [this]
 refine Ex.cons (Xs.while (fun i=>upd (upd (upd (eu ([aR "laid","record"].zip [.dat (rows S L),.dat (eZ S k)]) fun _=>none) "names" (.dat (.list (L.map fun j=>.str (sn (num j)))))) "above" (.dat (.str (path (ch S (S.par k)))))) "place" (.dat (.int (p0 S L k + i:Nat)))) ((L.drop (p0 S L k)).takeWhile fun j=>decide (k < j)).length (fun x d h=>h) (fun i hi=>Et.is (test i (Nat.le_of_lt (Zx i hi))) ?_) (Et.is (test _ pm) ?_) (fun i hi=>?_)) ?_
 ·refine bQ (IG _ _ _ hi) fun x hx Oc=>?_;rw [List.getElem?_drop] at hx;rw [hx,decide_eq_true (Zx i hi)]
  simpa using Oc
 ·rcases PC (fun j=>decide (k < j)) (L.drop (p0 S L k)) with h | ⟨x,hx,Oc⟩
  ·rw [List.length_drop] at h;rw [decide_eq_false (fun q=>Nat.lt_irrefl _ (by rwa [h,Nat.add_sub_of_le CY] at q))]; rfl
  ·rw [List.getElem?_drop] at hx;rw [hx];simp only [Oc,xu]
 ·refine Ex.mono (Ex.cons (Xs.assign K (.inl rfl) (d:=.dat (.int (p0 S L k + (i + 1):Nat))) (Ev.is (Ev.bin (Ev.name K rfl) Ev.int jw) ?_)) Ex.nil) (aP (aP (aP (aP (aP dB rfl) rfl) rfl) rfl) rfl)
  rfl
 ·refine Ex.stop (Xs.ret (Ev.is (Ev.bin (d1:=.dat (.list (L.map (row S) |>.take (p1 S L k) |> (· ++[row S k])))) (d2:=.dat (.list ((L.map (row S)).drop (p1 S L k)))) (Ev.bin (d1:=.dat (.list ((L.map (row S)).take (p1 S L k)))) (d2:=.dat (.list [row S k])) ?_ ?_ (iZ (sl (Nat.le_trans (Nat.add_le_add_right A1 1) (by decide))))) ?_ (iZ (sl (by rw [List.length_append]; exact Nat.le_trans (Nat.add_le_add (Nat.add_le_add_right A1 1) A2) (by decide))))) ?_))
  ·refine Ev.is (Ev.slice (ds:=L.map (row S)) (lo:=none) (hi:=some (p1 S L k:Int)) (Ev.name K rfl) .none (.some (Ev.name K rfl)) (L1 _)) (by rw [rL])
  ·refine Ev.list (ds:=[row S k]) (.one (Ev.tuple (ds:=[.int (num k),.str (path (ch S k)),.str (st (S.text k))]) (.cons (Ev.gH (Ev.name K rfl) Ev.int (by decide) rfl (by decide)) (.cons (Ev.def T H.join K rfl (.cons (Ev.name K rfl) (.one (Ev.kH (Ev.bi T H K rfl (by decide +kernel)) (.one (Ev.gH (Ev.name K rfl) Ev.int (by decide) rfl (by decide))) (oH fS.1 fS.2)))) ?_) (.one (Ev.gH (Ev.name K rfl) Ev.int (by decide) rfl (by decide)))))));rw [vK hS hk];exact Ga T H fy fS (Nat.lt_of_le_of_lt (jy _) (by decide))
  ·refine Ev.is (Ev.slice (ds:=L.map (row S)) (lo:=some (p1 S L k:Int)) (hi:=none) (Ev.name K rfl) (.some (Ev.name K rfl)) .none (L1 _)) (by rw [yq])
  ·unfold rows ins;simp [List.map_take,List.map_drop]
end
section
open PySem.StrLaws
noncomputable abbrev St:=List Nat × List Nat
noncomputable def Gc (S:Sc) (x:St):St:=match yo S x.1 x.2 with | []=>x | r::_=>(ins S x.1 r,x.2.filter fun j=>decide (j≠r))
noncomputable def ou (S:Sc):Nat->St->St
 | 0,x=>x
 | i + 1,x=>ou S i (Gc S x)
noncomputable def step (S:Sc) (x:St) (k:Nat):St:=ou S (x.2.length + 1) (x.1,x.2++[k])
noncomputable def xD (S:Sc) (x:St):Dat:=.tuple [rows S x.1,kL S x.2]
noncomputable def vM (S:Sc) (l:List St):Dat:=.list (l.map (xD S))
noncomputable def CZ (S:Sc) (x:St):Prop:=(∀k∈x.1,In S k)/\(∀k∈x.2,In S k)/\x.1.length + x.2.length<=20
theorem AZ (S:Sc): ∀(i:Nat) (x:St),ou S (i + 1) x=Gc S (ou S i x)
 | 0,x=>rfl
 | i + 1,x=>by rw [ou,AZ S i (Gc S x),ou]
theorem rM {r:Nat} (h:r∈yo S L W):r∈W/\(S.par r=0\/S.par r∈L):=by
 refine ea (List.mem_filter.mp h) fun h1 h2=>?_;exact ⟨h1,of_decide_eq_true h2⟩
theorem qv {r:Nat} (h:r∈W):(W.filter fun j=>decide (j≠r)).length < W.length:=by
 have:=List.length_filter_lt_length_iff_exists (p:=fun j=>decide (j≠r)) (l:=W);exact this.mpr ⟨r,h,by simp⟩
theorem LZ:(ins S L k).length=L.length + 1:=by
 unfold ins;rw [List.length_append,List.length_cons,List.length_take,List.length_drop];exact Zm _ _
theorem L5:j∈ins S L k↔j=k\/j∈L:=by
 unfold ins;rw [List.mem_append,List.mem_cons];constructor
 ·rintro (h | h | h)
  ·exact .inr (List.mem_of_mem_take h)
  ·exact .inl h
  ·exact .inr (List.mem_of_mem_drop h)
 ·rintro (h | h)
  ·exact .inr (.inl h)
  ·rw [<- List.take_append_drop (p1 S L k) L] at h;exact cE h (fun h=>.inl h) fun h=>.inr (.inr h)
theorem PG {x:St} (h:CZ S x):CZ S (Gc S x):=by
 unfold Gc;split
 ·exact h
 ·rename_i r t e;have hr:r∈yo S x.1 x.2:=by rw [e]; exact .head _
  refine ea (rM hr) fun h1 h2=>?_;refine ⟨fun k hk=>?_,fun k hk=>h.2.1 k (List.mem_filter.mp hk).1,?_⟩
  ·rcases L5.mp hk with rfl | hk
   ·exact h.2.1 _ h1
   ·exact h.1 k hk
  ·have:=qv h1;have:=h.2.2;refine (?_:(ins S x.1 r).length + (x.2.filter fun j=>decide (j≠r)).length<=20);rw [LZ]; exact Nat.le_trans (Nat.le_of_eq (Nat.add_right_comm _ 1 _)) (Nat.le_trans (Nat.add_lt_add_left ‹_ < _› _) ‹_ + _<=20›)
theorem IL: ∀(i:Nat) {x:St},CZ S x->CZ S (ou S i x)
 | 0,_,h=>h
 | i + 1,_,h=>IL i (PG h)
theorem yr {x:St} (h:yo S x.1 x.2=[]): ∀i,ou S i x=x
 | 0=>rfl
 | i + 1=>by
  have:Gc S x=x:=by unfold Gc; rw [h]
  rw [ou,this,yr h i]
theorem ES: ∀(f:Nat) (x:St),x.2.length<=f->∃m,m<=f/\(∀i,i < m->yo S (ou S i x).1 (ou S i x).2≠ [])/\yo S (ou S m x).1 (ou S m x).2=[]/\ou S f x=ou S m x:=by
 intro f
 induction f with
 | zero=>
  intro x hx;have:x.2=[]:=List.length_eq_zero_iff.mp (by lia);exact ⟨0,Nat.le_refl _,fun i h=>absurd ‹_› (Nat.not_lt_zero _),by refine (?_:yo S x.1 x.2=[]); rw [this]; rfl,rfl⟩
 | succ f ih=>
  intro x hx
  by_cases h:yo S x.1 x.2=[]
  ·exact ⟨0,Nat.zero_le _,fun i h=>absurd ‹_› (Nat.not_lt_zero _),h,yr h _⟩
  ·have fG:(Gc S x).2.length<=f:=by
    unfold Gc;split
    ·rename_i e; exact absurd e h
    ·rename_i r t e;have:=qv (rM (S:=S) (L:=x.1) (W:=x.2) (r:=r) (by rw [e]; exact .head _)).1;refine (?_:(x.2.filter fun j=>decide (j≠r)).length<=f);exact Nat.le_of_lt_succ (Nat.lt_of_lt_of_le this hx)
   refine lj (ih (Gc S x) fG) fun m h1 h2 h3 h4=>?_;refine ⟨m + 1,Nat.succ_le_succ ‹_›,fun i hi=>?_,h3,h4⟩;cases i with
   | zero=>exact h
   | succ i=>exact h2 i (Nat.lt_of_succ_lt_succ ‹_›)
theorem Ev.neg {x:Expr} {i:Int} (h1:Ev prog w G n c ρ x (.dat (.int i))):Ev prog w G n c ρ (.UnaryOp .USub x pos) (.dat (.int (-i))):=.mk fun A E Q Φ τ s a F h=>
 UnaryOp_ (h1.go A E _ Φ τ s a F fun v s1 m1 F1=>by
  refine bQ F1.heldBy fun D hD ht=>?_;have q:eI D v (.int i):=ht _ (.head _);refine iE q fun _=>?_;exact Sq (h _ _ (m1.trans ⟨rfl,rfl⟩) (F1.pop.plus fun D=>.int _ _)))
theorem L6 (hS:S.Ok) (hj:In S j) (hk:In S k):eZ S j=eZ S k↔j=k:=by
 constructor
 ·intro e;have e:=Dat.tuple.inj e;have e:=oj (List.cons.inj e).1;have h9:=hS.n9;have:=hj.2;have:=hk.2;exact pM hj.1 hk.1 (Nat.le_trans ‹_› ‹_›) (Nat.le_trans ‹_› ‹_›) e
 ·rintro rfl; rfl
theorem ET (hS:S.Ok) (hk:In S k):cW 8 (eZ S k)=true:=by
 have:=rK hS hk;simp [eZ,cW,this]
theorem zC (hS:S.Ok) (hW: ∀k∈W,In S k):cW 8 (kL S W)=true:=by
 simp only [kL,cW,List.all_eq_true];intro d hd;refine l8 hd fun k hk=>?_;exact PA hS (hW k hk)
theorem yt (T:bL mg mb G) (H:Prog mg G) (hS:S.Ok) {ms:List St} {x:St} (hx:CZ S x) (hk:In S k) (hl:x.1.length + x.2.length < 20) (hms:ms.length<=100):
  bJ prog w G (n + 4) (.ref (adr mg "_law_step")) [.dat (vM S (ms++[x])),.dat (eZ S k)] (.dat (vM S (ms++[x]++[step S x k]))):=by
 refine lj (ES (S:=S) (x.2.length + 1) (x.1,x.2++[k]) (by simp)) fun m VT WM WN WO=>?_;have ym:step S x k=ou S m (x.1,x.2++[k]):=WO;have WQ:CZ S (x.1,x.2++[k]):=⟨hx.1,fun j hj=>by
  refine cE hj (fun hj=>?_) (fun hj=>?_)
  ·exact hx.2.1 j hj
  ·rw [List.mem_singleton] at hj; subst hj; exact hk,by simp; exact hl⟩
 have tX:=fun i=>IL i WQ;have aL: ∀i,AllIn S (ou S i (x.1,x.2++[k])).1:=fun i=>⟨(tX i).1,by have:=(tX i).2.2; exact Nat.le_trans (Nat.le_add_right _ _) this⟩
 have aW: ∀i,AllIn S (ou S i (x.1,x.2++[k])).2:=fun i=>⟨(tX i).2.1,by have:=(tX i).2.2; exact Nat.le_trans (Nat.le_add_left _ _) this⟩
 refine bJ.def (xs:=["moments","record"]) T H.step.at' (fun pm cd doc vs h=>?_) rfl rfl (by decide +kernel) ?_
 ·exact ur h fun _ _=>rfl
 intro Lo cd K;refine Ex.cons (Xs.unpack (d:=.dat (xD S x)) (Ev.rB (ds:=(ms++[x]).map (xD S)) (Ev.name K rfl) (Ev.neg Ev.int) (by decide) (by simp; lia) (by
  have e:(-(1:Int) + (((ms++[x]).map (xD S)).length:Nat)).toNat=ms.length:=by simp; exact congrArg hU (nP _)
  rw [e]; simp) (by decide)) (dm.Pu K (.inl rfl) (.inl rfl))) ?_
 refine Ex.cons (Xs.assign K (.inl rfl) (d:=.dat (kL S (x.2++[k]))) (Ev.is (Ev.bin (Ev.name K rfl) (Ev.list (ds:=[eZ S k]) (.one (Ev.name K rfl))) (iZ (xs:=x.2.map (eZ S)) (sl (by simp; exact lK (Nat.le_trans (Nat.le_add_left _ _) (Nat.le_of_lt hl)))))) (by simp [kL]))) ?_;refine Ex.cons (Xs.assign K (.inr ⟨rfl,show _∈ownOf (aG 41) by decide +kernel⟩) (d:=.dat (kL S (yo S x.1 (x.2++[k])))) (Ev.def T H.ready K rfl (.cons (Ev.name K rfl) (.one (Ev.name K rfl))) (vL T H hS (aL 0) (aW 0)))) ?_;refine Ex.cons (Xs.while (fun i=>upd (upd (upd (upd (fun _=>none) "moments" (.dat (vM S (ms++[x])))) "laid" (.dat (rows S (ou S i (x.1,x.2++[k])).1))) "waiting" (.dat (kL S (ou S i (x.1,x.2++[k])).2))) "ready" (.dat (kL S (yo S (ou S i (x.1,x.2++[k])).1 (ou S i (x.1,x.2++[k])).2)))) m
  (aP (aP (aP (aP dB rfl) rfl) rfl) rfl) (fun i hi=>Et.is (Et.cmp (Ev.name K rfl) (Ev.list (ds:=[]) ic.nil) (lu (b:=decide (yo S (ou S i (x.1,x.2++[k])).1 (ou S i (x.1,x.2++[k])).2=[])) (zC hS fun j hj=>(tX i).2.1 j (rM hj).1) rfl ?_) gR.bool) ?_) (Et.is (Et.cmp (Ev.name K rfl) (Ev.list (ds:=[]) ic.nil) (lu (b:=decide (yo S (ou S m (x.1,x.2++[k])).1 (ou S m (x.1,x.2++[k])).2=[])) (zC hS fun j hj=>(tX m).2.1 j (rM hj).1) rfl ?_) gR.bool) ?_) (fun i hi=>?_)) ?_
 ·simp [kL]
 ·rw [decide_eq_false (WM i hi)]; rfl
 ·simp [kL]
 ·rw [decide_eq_true WN]; rfl
 ·cases e:yo S (ou S i (x.1,x.2++[k])).1 (ou S i (x.1,x.2++[k])).2 with
  | nil=>exact absurd e (WM i hi)
  | cons r t=>
   have hr:r∈yo S (ou S i (x.1,x.2++[k])).1 (ou S i (x.1,x.2++[k])).2:=by rw [e]; exact .head _
   refine ea (rM hr) fun WR WS=>?_;have PI:=(tX i).2.1 r WR;have e2:ou S (i + 1) (x.1,x.2++[k])=(ins S (ou S i (x.1,x.2++[k])).1 r,(ou S i (x.1,x.2++[k])).2.filter fun j=>decide (j≠r)):=by
    rw [AZ]; unfold Gc; rw [e]
   rw [e2];have Zy:=aL (i + 1);have Zz:=aW (i + 1);rw [e2] at Zy Zz;have Ma:=tX i;have hzl:=(aW i).2;generalize ou S i (x.1,x.2++[k])=z at *;have P2:=bM.list (prog:=prog) (w:=w) (G:=G) (n:=n + 3) (ds:=z.2.map (eZ S));rw [List.map_map] at P2;refine Ex.cons (Xs.assign K (.inl rfl) (d:=.dat (rows S (ins S z.1 r))) (Ev.def T H.lay K rfl (.cons (Ev.name K rfl) (.one (Ev.item (ds:=(r::t).map (eZ S)) (d:=eZ S r) (Ev.name K rfl) Ev.int (by decide) rfl (by decide)))) (II T H hS ⟨Ma.1,by have:=Ma.2.2; exact Nat.le_trans (Nat.le_add_right _ _) this⟩ PI WS))) ?_
   refine Ex.cons (Xs.gX z.2 _ _ (fun j=>decide (j≠r)) (eZ S) K (.inl rfl) (by decide +kernel) rfl (Ev.name K rfl) P2 (Nat.le_trans ‹_› (by decide)) (.name rfl fun L' Fr j hj K'=>⟨nA.one (Et.is (Et.cmp (Ev.name K' rfl) (Ev.item (ds:=(r::t).map (eZ S)) (d:=eZ S r) (Ev.name K' rfl) Ev.int (by decide) rfl (by decide)) (lu (b:=decide (j=r)) (ET hS (Ma.2.1 j hj)) (ET hS PI) ?_) gR.bool) (by simp)),fun _=>Ev.name K' rfl⟩)) ?_
   ·rw [decide_eq_true_iff,L6 hS (Ma.2.1 j hj) PI]
   ·refine Ex.mono (Ex.cons (Xs.assign K (.inr ⟨rfl,show _∈ownOf (aG 41) by decide +kernel⟩) (d:=.dat (kL S (yo S (ins S z.1 r) (z.2.filter fun j=>decide (j≠r))))) (Ev.def T H.ready K rfl (.cons (Ev.name K rfl) (.one (Ev.name K rfl))) (vL T H hS Zy Zz))) Ex.nil) (aP (aP (aP (aP dB rfl) rfl) rfl) rfl)
 ·refine Ex.stop (Xs.ret (Ev.is (Ev.bin (Ev.name K rfl) (Ev.list (ds:=[xD S (step S x k)]) (.one (Ev.tuple (ds:=[rows S (step S x k).1,kL S (step S x k).2]) (.cons ?_ (.one ?_))))) (iZ (xs:=(ms++[x]).map (xD S)) (sl (by simp; exact lK hms)))) (by simp [vM])))
  ·rw [ym]; exact Ev.name K rfl
  ·rw [ym]; exact Ev.name K rfl
end
section
open PySem.StrLaws
theorem PK {x y:Int} (hx:Small x) (hy:Small y) (h:dg x=dg y):x=y:=vF hx hy (by rw [i5,i5,h])
theorem Od {x:Int} (hx:Small x) (r:List Nat) (hr:r=[]\/r.head? =some 47):(dg x++r).takeWhile (fun z=>decide (z≠47))=dg x:=by
 have ZA:=(j7 hx).2.1;generalize dg x=l at *
 induction l with
 | nil=>
  rcases hr with rfl | hr
  ·rfl
  ·cases r with
   | nil=>rfl
   | cons a r=>
    have:a=47:=aH hr;subst this
    rfl
 | cons a l ih=>
  have ha:a≠47:=fun e=>ZA (by rw [e]; exact .head _);refine (?_:List.takeWhile _ (a::(l++r))=_);rw [List.takeWhile_cons,if_pos (by simpa using ha),ih (fun h=>ZA (.tail _ h))]
theorem EU (c:List Int):pc c=[]\/(pc c).head? =some 47:=by
 cases c with
 | nil=>exact .inl rfl
 | cons x c=>exact .inr rfl
theorem PL {c d:List Int}:(∀y∈c,Small y)->(∀y∈d,Small y)->pc c=pc d->c=d:=by
 refine l2 c d (fun _ _ _=>rfl) (fun y d _ _ h=>nomatch h) (fun x c _ _ h=>nomatch h) fun x c y d ih hc hd h=>?_
 ·
  have h':dg x++pc c=dg y++pc d:=(List.cons.inj h).2;have e:=congrArg (List.takeWhile fun z=>decide (z≠47)) h';rw [Od (hc x (.head _)) _ (EU c),Od (hd y (.head _)) _ (EU d)] at e;have S7:=PK (hc x (.head _)) (hd y (.head _)) e;subst S7;rw [ih (fun z hz=>hc z (.tail _ hz)) (fun z hz=>hd z (.tail _ hz)) (List.append_cancel_left h')]
theorem rN {c d:List Int} (hc: ∀y∈c,Small y) (hd: ∀y∈d,Small y):path c=path d↔c=d:=by
 constructor
 ·intro h;have h:=Iv h;have one: ∀{x:Int} {c:List Int},Small x->rI (x::c)≠ [47]:=by
   intro x c hx e;have e:dg x++pc c=[]:=(List.cons.inj e).2;exact (j7 hx).1 (List.append_eq_nil_iff.mp e).1
  cases c with
  | nil=>
   cases d with
   | nil=>rfl
   | cons y d=>exact absurd h.symm (one (hd y (.head _)))
  | cons x c=>
   cases d with
   | nil=>exact absurd h (one (hc x (.head _)))
   | cons y d=>exact PL hc hd h
 ·rintro rfl; rfl
theorem yu {c:List Int} (h:j < c.length):c.take (j + 1)=c.take j++[c[j]]:=by
 rw [List.take_add_one,List.getElem?_eq_getElem h]; rfl
theorem A0 {c:List Int} (hi:i<=c.length) (hj:j<=c.length):c.take i=c.take j↔i=j:=by
 constructor
 ·intro h;exact (List.length_take_of_le hi).symm.trans ((congrArg List.length h).trans (List.length_take_of_le hj))
 ·rintro rfl; rfl
theorem vN (T:bL mg mb G) (H:Prog mg G) {c:List Int} (hc: ∀y∈c,Small y) (hl:c.length<=12) {t:Nat} (ht:t < c.length):
  bJ prog w G (n + 3) (.ref (adr mg "_law_below")) [.dat (.str (path c)),.dat (.str (path (c.take t)))] (.dat (.int c[t])):=by
 have sp:c.length - 1 + 1=c.length:=Nat.succ_pred_eq_of_pos (Nat.zero_lt_of_lt ht);have ss:c.length - 1 - (c.length - 1 - t)=t:=Nat.sub_sub_self (Nat.le_pred_of_lt ht);have lt (i:Nat):c.length - 1 - i < c.length:=Nat.lt_of_le_of_lt (Nat.sub_le _ _) (Nat.sub_one_lt_of_lt ht);have hs: ∀j,∀y∈c.take j,Small y:=fun j y hy=>hc y (List.mem_of_mem_take hy);have dn: ∀j,(hj:j < c.length)->bJ prog w G (n + 2) (.ref (adr mg "dirname")) [.dat (.str (path (c.take (j + 1))))] (.dat (.str (path (c.take j)))):=fun j hj=>by
  rw [yu hj];exact zz T H (hs j) (hc _ (List.getElem_mem hj)) (Nat.lt_of_le_of_lt (List.length_take_le _ _) (Nat.lt_of_lt_of_le hj (Nat.le_trans hl (by decide))))
 refine bJ.def (xs:=["path","top"]) T H.below.at' (fun pm cd doc vs h=>?_) rfl rfl (by decide +kernel) ?_
 ·exact ur h fun _ _=>rfl
 intro Lo cd K;have test: ∀j,j + 1<=c.length->Et prog w G (n + 2) ⟨envOfC "_law_below" (aG 42) Lo (adr mg "_law_below") cd,ownOf (aG 42),[]⟩ (upd (upd (fun _=>none) "top" (.dat (.str (path (c.take t))))) "path" (.dat (.str (path (c.take (j + 1))))))
   (FZ ((dh 42).headD default)) (!decide (j=t)):=fun j hj=>by
  refine Et.cmp (Ev.def T H.uR K rfl (.one (Ev.name K rfl)) (dn j (Nat.lt_of_succ_le ‹_›))) (Ev.tuple (ds:=[.str (path (c.take t)),.str (path (c.take (j + 1)))]) (.cons (Ev.name K rfl) (.one (Ev.name K rfl)))) (FU (b:=decide (j=t)) ?_ (ly (hs _)) ?_) gR.bool
  ·intro e he;exact bU he (ly (hs _)) fun he=>rf he (ly (hs _))
  ·rw [decide_eq_true_iff];constructor
   ·rintro rfl; exact .head _
   ·intro he;refine xA he (fun he=>?_) (fun he=>?_)
    ·have he:=(rN (hs _) (hs _)).mp (gF he);exact (A0 (Nat.le_of_succ_le ‹_›) (Nat.le_of_lt ‹_›)).mp he
    ·rw [List.mem_singleton] at he;have he:=(rN (hs _) (hs _)).mp (gF he);exact absurd ((A0 (Nat.le_of_succ_le ‹_›) hj).mp he) (Nat.ne_of_lt (Nat.lt_succ_self _))
 refine Ex.cons (Xs.while (fun i=>upd (upd (fun _=>none) "top" (.dat (.str (path (c.take t))))) "path" (.dat (.str (path (c.take (c.length - 1 - i + 1)))))) (c.length - 1 - t) ?_ (fun i hi=>Et.is (test (c.length - 1 - i) (lt i)) (congrArg not (decide_eq_false (Nat.ne_of_gt (Nat.lt_sub_iff_add_lt'.mpr (Nat.add_lt_of_lt_sub hi)))))) (Et.is (test _ (lt _)) (congrArg not (decide_eq_true ss))) (fun i hi=>?_)) (Ex.stop (Xs.ret (Ev.kH (Ev.bi T H K rfl (by decide +kernel)) (.one (Ev.def T H.oK K rfl (.one (Ev.name K rfl)) ?_)) (AV (hc _ (List.getElem_mem ht)).1 (hc _ (List.getElem_mem ht)).2))))
 ·rw [Nat.sub_zero,sp,List.take_length];exact aP (aP dB rfl) rfl
 ·refine Ex.mono (Ex.cons (Xs.assign K (.inl rfl) (d:=.dat (.str (path (c.take (c.length - 1 - (i + 1) + 1))))) (Ev.def T H.uR K rfl (.one (Ev.name K rfl)) ?_)) Ex.nil) (aP (aP dB rfl) rfl);have e:c.length - 1 - (i + 1) + 1=c.length - 1 - i:=Nat.succ_pred_eq_of_pos (Nat.sub_pos_of_lt (Nat.lt_of_lt_of_le hi (Nat.sub_le _ _)));rw [e];exact dn _ (lt i)
 ·rw [ss,yu ht];exact qt T H (hs t) (hc _ (List.getElem_mem ht)) (Nat.le_trans (List.length_take_le _ _) (Nat.le_trans (Nat.le_of_lt ht) (Nat.le_trans hl (by decide))))
end
section
open PySem.StrLaws
theorem zD {ss:List Str} (h:dG D vs (ss.map qG)): ∃l:List (Str × Tok),b9 l=vs/\l.map (·.1)=ss:=by
 induction ss generalizing vs with
 | nil=>exact dN h ⟨[],rfl,rfl⟩
 | cons s ss ih=>exact dC h fun v vs q r=>bQ (ih r) fun l h1 h2=>sE q fun t=>⟨(s,t)::l,congrArg (Value.str s t:: ·) h1,congrArg (s:: ·) h2⟩
theorem qR {ss:List Str} (hx:x.length<=10) (hs: ∀y∈ss,y.length<=10) (hl:ss.length<=1000):bJ prog w G n (.builtin "str.join") [.dat (.str x),.dat (.list (ss.map .str))] (.dat (.str (cg x ss))):=.rE fun A E Q Φ D v1 v2 s a W q1 q2 h=>by
 refine sE q1 fun _=>lE q2 fun _ _ _ m1 a1=>?_;refine bQ (zD a1) fun l h1 h2=>?_;have e:Txt.join x ss=cg x ss:=glued_eq_join x ss;refine PySem.SC.join (l:=l) (by rw [h1]; exact DatIn.isList W m1) h2 (by unfold JoinOk; rw [joinFits (B:=10) hs (by have:ss.length * x.length<=1000 * 10:=Nat.mul_le_mul hl hx; exact lK (Nat.add_le_add (Nat.mul_le_mul_right 10 hl) this))]; rfl) fun t' k=>?_
 ·rw [e]; exact h _ _ ⟨rfl,rfl⟩ rfl (.str _ _)
theorem DatAll.strs: ∀(l:List (Str × Tok)),dG D (b9 l) ((l.map (·.1)).map qG)
 | []=>.nil
 | (x,t)::l=>.cons (.str x t) (DatAll.strs l)
theorem C1 (hy:(y.length == 0)=false) (hx:x.length<=1000) (hz:(Txt.split x y).length<=1000):bJ prog w G n (.builtin "str.split") [.dat (.str x),.dat (.str y)] (.dat (.list ((Txt.split x y).map .str))):=.mk fun A E Q Φ D vs s a W hv h=>by
 refine VP hv fun _ q1 _ q2=>sE q1 fun t=>sE q2 fun u=>?_;have fin: ∀(l:List (Str × Tok)) (k:Nat),l.map (·.1)=Txt.split x y->Q (.ref s.heap.objs.size) { s with heap:=s.heap.push { cls:=.type "list",data:=.seq (b9 l).toArray },toks:=k }:=fun l k hl=>by
  refine h _ _ ((s.heap.objs.size,{ cls:=.type "list",data:=.seq (b9 l).toArray })::D) ⟨rfl,rfl⟩ (W.push _ rfl) (fun _ hp=>.tail _ hp) ?_;rw [<- hl];exact nu (n:=0) (.head _) (eN (fun _ hp=>.tail _ hp) (Rg.DatAll.strs l))
 cases h1:(decide (x.length < y.length) || decide (Builtin.Str.strKind x < Builtin.Str.strKind y))
 ·cases hf:(Builtin.Str.occurrences x y 0 x.length (x.length + 1)).isEmpty
  ·have e:Txt.split x y=Builtin.Str.partsBetween x (Builtin.Str.occurrences x y 0 x.length (x.length + 1)) y.length:=(if_neg (ne_true_of_eq_false h1)).trans (if_neg (ne_true_of_eq_false hf));refine kr F.slot_str_split (kq _ _ _) F.entry_str_split (F.args_str_split_2 _ _) (meets_str_split_sep x y t u h1 hy hf (sl hx) (by rw [<- e]; exact sl hz)) ?_;refine (?_:wants Q E _ { s with toks:=_,heap:=s.heap.push { cls:=.type "list",data:=.seq (strsFrom s.toks (Builtin.Str.partsBetween x (Builtin.Str.occurrences x y 0 x.length (x.length + 1)) y.length)).toArray } });rw [strsFrom_eq];exact fin (numbered s.toks _) _ ((numbered_texts _ _).trans e.symm)
  ·exact kr F.slot_str_split (kq _ _ _) F.entry_str_split (F.args_str_split_2 _ _) (meets_str_split_not_found x y t u h1 hy hf)
    (fin [(x,t)] _ ((if_neg (ne_true_of_eq_false h1)).trans (if_pos hf)).symm)
 ·exact kr F.slot_str_split (kq _ _ _) F.entry_str_split (F.args_str_split_2 _ _) (meets_str_split_cannot_occur x y t u h1)
   (fin [(x,t)] _ (if_pos h1).symm)
theorem EV: ∀(x:Int) (c:List Int),cg (st [47]) ((x::c).map sn)=st (dg x++pc c)
 | x,[]=>by
  refine (?_:sn x=_);rw [i5]; simp [pc]
 | x,y::c=>by
  refine (?_:sn x++st [47]++cg (st [47]) ((y::c).map sn)=_);rw [EV y c,i5,kK,kK]
  congr 1
  simp [pc]
theorem iG (c:List Int):("/" :Str)++cg "/" (c.map sn)=path c:=by
 rw [fu];cases c with
 | nil=>decide +kernel
 | cons x c=>rw [EV,kK]; rfl
theorem vO {c:List Int} (hc: ∀y∈c,Small y) (hl:c.length<=20):(cg "/" (c.map sn)).length<=100:=by
 have:=jK hc hl;rw [<- iG,tS] at this;exact Nat.le_trans (Nat.le_add_left _ _) this
end
section
open PySem.StrLaws
structure Cp (c0:List Int) (cs:List (List Int)) (p:Nat):Prop where
 le:p<=c0.length
 all: ∀c∈cs,p<=c.length/\c.take p=c0.take p
 stop: ∃c∈cs,c[p]? =none\/c[p]? ≠c0[p]?
noncomputable def one {α:Type} (l:List α) (k:Nat):List α:=(l.drop k).take 1
theorem uS {α:Type} (l:List α) (k:Nat):one l k=(l[k]?).toList:=by
 unfold one
 by_cases h:k < l.length
 ·rw [List.drop_eq_getElem_cons h,List.getElem?_eq_getElem h]; rfl
 ·rw [List.drop_of_length_le (Nat.le_of_not_lt ‹_›),List.getElem?_eq_none (Nat.le_of_not_lt ‹_›)]; rfl
theorem vP {α:Type} (l:List α) {a b:Nat} (h:a<=b):uy l (some (a:Int)) (some (b:Int))=(l.drop a).take (b - a):=by
 unfold uy;refine (?_:(l.drop (oh l.length (a:Int))).take (oh l.length (b:Int) - oh l.length (a:Int))=_);rw [qe,qe]
 by_cases h1:a<=l.length
 ·rw [Nat.min_eq_left h1]
  by_cases h2:b<=l.length
  ·rw [Nat.min_eq_left h2]
  ·rw [Nat.min_eq_right (Lm h2),List.take_of_length_le (by simp),List.take_of_length_le (by simp; exact Nat.le_trans (Lm h2) (Nat.le_of_eq (Nat.sub_add_cancel h).symm))]
 ·rw [Nat.min_eq_right (a:=a) (Lm h1),List.drop_length,List.drop_of_length_le (Lm h1)]; simp
theorem IM {a b:List Int} (h:a.map iM=b.map iM):a=b:=by
 induction a generalizing b with
 | nil=>cases b with
  | nil=>rfl
  | cons=>cases h
 | cons x a ih=>cases b with
  | nil=>cases h
  | cons y b=>
   refine ea (List.cons.inj h) fun h1 h2=>?_;rw [oj h1,ih h2]
theorem EW (l:List Int):cW 8 (dL l)=true:=by
 simp [dL,cW]
theorem Cp.test {c0:List Int} {p:Nat} (h:Cp c0 cs p) (hk:k<=p + 1):
  ((cs.map (0:: ·)).filter (fun r=>decide (one r k=[]) || !decide (one r k=one (0::c0) k))=[] ↔k < p + 1):=by
 rw [List.filter_eq_nil_iff];constructor
 ·intro LO
  by_cases R1:k < p + 1
  ·exact R1
  ·exfalso;obtain rfl:k=p + 1:=aE hk R1;refine bQ h.stop fun c hc hs=>?_;refine LO (0::c) (List.mem_map_of_mem hc) ?_;rw [uS,uS,List.getElem?_cons_succ,List.getElem?_cons_succ,K5,decide_eq_true_iff,sM,decide_eq_false_iff_not];refine Or.elim hs (fun hs=>?_) (fun hs=>?_)
   ·left; rw [hs]; rfl
   ·by_cases q:c[p]? =none
    ·left; rw [q]; rfl
    ·right;intro e;apply hs;cases h1:c[p]? with
     | none=>exact absurd h1 q
     | some x=>
      rw [h1] at e;cases h2:c0[p]? with
      | none=>rw [h2] at e; cases e
      | some y=>rw [h2] at e; cases e; rfl
 ·intro R1 r hr;refine l8 hr fun c hc=>?_;refine ea (h.all c hc) fun h1 h2=>?_;rw [uS,uS,K5,decide_eq_true_iff,sM,decide_eq_false_iff_not];cases k with
  | zero=>simp
  | succ k=>
   rw [List.getElem?_cons_succ,List.getElem?_cons_succ];have e:c[k]? =c0[k]? :=by
    have:=congrArg (fun l=>l[k]?) h2;simp only [List.getElem?_take] at this;rw [if_pos (Nat.lt_of_succ_lt_succ ‹_›),if_pos (Nat.lt_of_succ_lt_succ ‹_›)] at this;exact this
   have e2:c[k]? =some c[k]:=List.getElem?_eq_getElem (Nat.lt_of_lt_of_le (Nat.lt_of_succ_lt_succ R1) h1);rw [<- e,e2];simp
theorem Dc (T:bL mg mb G) (H:Prog mg G) {c0:List Int} {p:Nat} (h:Cp c0 (c0::cs) p) (hc: ∀c∈c0::cs,c.length<=20) (hs: ∀y∈c0,Small y) (hl:cs.length<=10):
  bJ prog w G (n + 1) (.ref (adr mg "_law_front")) [.dat (.list ((c0::cs).map fun c=>dL (0::c)))] (.dat (.str (path (c0.take p)))):=by
 have Lv:=hc c0 (.head _);have aaZ:=h.le;refine bJ.def (xs:=["rows"]) T H.front.at' (fun pm cd doc vs h=>?_) rfl rfl (by decide +kernel) ?_
 ·exact sS h fun _=>rfl
 intro Lo cd K;refine Ex.cons (Xs.assign K (.inr ⟨rfl,show _∈ownOf (aG 44) by decide +kernel⟩) (d:=.dat (.int 0)) Ev.int) ?_;have P:=bM.list (prog:=prog) (w:=w) (G:=G) (n:=n) (ds:=((c0::cs).map (0:: ·)).map dL);rw [List.map_map (f:=dL)] at P;have S8:((c0::cs).map fun c=>dL (0::c))=((c0::cs).map (0:: ·)).map dL:=by rw [List.map_map]; rfl
 have WT: ∀(r:List Int) (k:Nat),uy (r.map iM) (some (k:Int)) (some ((k + 1:Nat):Int))=(one r k).map .int:=fun r k=>by
  rw [vP _ (Nat.le_add_right _ _)];have e:k + 1 - k=1:=Nat.add_sub_cancel_left ..;rw [e];simp [one]
 have PM: ∀r∈ (c0::cs).map (0:: ·),(r.map iM).length<=1000:=fun r hr=>by
  refine l8 hr fun c hcm=>?_;have:=hc c hcm;simp; exact lK this
 have test: ∀k,k<=p + 1->Et prog w G n ⟨envOfC "_law_front" (aG 44) Lo (adr mg "_law_front") cd,ownOf (aG 44),[]⟩ (upd (upd (fun _=>none) "rows" (.dat (.list (((c0::cs).map (0:: ·)).map dL)))) "k" (.dat (.int (k:Nat))))
   (match (dh 44)[1]? with | some (Stmt.While t _ _ _)=>t | _=>default) (decide (k < p + 1)):=fun k hk=>by
  refine Et.cmp (Ev.gX ((c0::cs).map (0:: ·)) _ _ (fun r=>decide (one r k=[]) || !decide (one r k=one (0::c0) k)) dL K (by decide +kernel) rfl (Ev.name K rfl) P (by simp; exact lK hl) (.name rfl fun L' Fr r hr K'=>⟨nA.one (Et.or (Et.cmp (Ev.is (Ev.slice (Ev.name K' rfl) (.some (Ev.name K' rfl)) (.some (Ev.is (Ev.bin (Ev.name K' rfl) Ev.int jw) ?_)) ?_) (congrArg (fun l=>Sv.dat (.list l)) (WT r k))) (Ev.list (ds:=[]) ic.nil) (vA (b:=decide (one r k=[])) (EW _) rfl ?_) gR.bool)
   fun _=>Et.cmp (Ev.is (Ev.slice (Ev.name K' rfl) (.some (Ev.name K' rfl)) (.some (Ev.is (Ev.bin (Ev.name K' rfl) Ev.int jw) ?_)) ?_) (congrArg (fun l=>Sv.dat (.list l)) (WT r k))) (Ev.is (Ev.slice (Ev.item (d:=dL (0::c0)) (Ev.name K' rfl) Ev.int (by decide) rfl (by decide)) (.some (Ev.name K' rfl)) (.some (Ev.is (Ev.bin (Ev.name K' rfl) Ev.int jw) ?_)) ?_) (congrArg (fun l=>Sv.dat (.list l)) (WT (0::c0) k))) (lu (b:=decide (one r k=one (0::c0) k)) (EW _) (EW _) ?_) gR.bool),fun _=>Ev.name K' rfl⟩)) (Ev.list (ds:=[]) ic.nil) (vA (b:=decide (k < p + 1)) ?_ rfl ?_) gR.bool
  ·rw [show ((k + 1:Nat):Int)=(k:Int) + 1 by push_cast; rfl]
  ·exact PM r hr
  ·rw [decide_eq_true_iff];constructor
   ·intro e; rw [e]; rfl
   ·intro e; exact IM (b:=[]) (qH e)
  ·rw [show ((k + 1:Nat):Int)=(k:Int) + 1 by push_cast; rfl]
  ·exact PM r hr
  ·rw [show ((k + 1:Nat):Int)=(k:Int) + 1 by push_cast; rfl]
  ·exact PM _ (.head _)
  ·rw [decide_eq_true_iff];constructor
   ·intro e; rw [e]
   ·intro e; exact IM (qH e)
  ·simp only [cW,List.all_eq_true];intro d hd;refine l8 hd fun r _=>?_;simp [dL,cW]
  ·rw [decide_eq_true_iff, <- h.test hk];constructor
   ·intro e; rw [e]; rfl
   ·intro e; exact List.map_eq_nil_iff.mp (qH e)
 refine Ex.cons (Xs.while (fun k=>upd (upd (fun _=>none) "rows" (.dat (.list (((c0::cs).map (0:: ·)).map dL)))) "k" (.dat (.int (k:Nat)))) (p + 1) (by rw [<- S8]; exact aP (aP dB rfl) rfl) (fun i hi=>Et.is (test i (Nat.le_of_lt ‹_›)) (decide_eq_true hi)) (Et.is (test _ (Nat.le_refl _)) (decide_eq_false (Nat.lt_irrefl _))) (fun i hi=>?_)) ?_
 ·refine Ex.mono (Ex.cons (Xs.assign K (.inr ⟨rfl,show _∈ownOf (aG 44) by decide +kernel⟩) (d:=.dat (.int (i + 1:Nat))) (Ev.is (Ev.bin (Ev.name K rfl) Ev.int jw) ?_)) Ex.nil) (aP (aP dB rfl) rfl);rw [show ((i + 1:Nat):Int)=(i:Int) + 1 by push_cast; rfl]
 ·have Mb: ∀y∈c0.take p,Small y:=fun y hy=>hs y (List.mem_of_mem_take hy);have P3:=bM.list (prog:=prog) (w:=w) (G:=G) (n:=n) (ds:=(c0.take p).map .int);rw [List.map_map] at P3;have jn:=qR (prog:=prog) (w:=w) (G:=G) (n:=n) (x:="/") (ss:=(c0.take p).map sn) (by decide +kernel) (fun y hy=>by
   refine l8 hy fun z hz=>?_;rw [i5,ef]; have:=(j7 (Mb z hz)).2.2.2; exact lK this) (by simp; exact Nat.le_trans (Nat.min_le_right _ _) (lK Lv))
  have PF:(cg "/" ((c0.take p).map sn)).length<=100:=vO Mb (by simp; exact Nat.le_trans (Nat.min_le_right _ _) Lv);have yv:(aR "/").length=1:=by decide +kernel
  rw [<- iG];refine Ex.stop (Xs.ret (Ev.bin Ev.str (Ev.ux F.plainAttrs_str F.slot_str_join F.type_str_join Kind.str Ev.str (.one ?_) jn) (pL (by rw [yv]; exact lK (Nat.add_le_add_left PF 1)))));refine Ev.is (Ev.gX (c0.take p) _ _ (fun _=>true) (fun z=>.str (sn z)) K (by decide +kernel) rfl (Ev.is (Ev.slice (lo:=some ((1:Nat):Int)) (hi:=some ((p + 1:Nat):Int)) (Ev.item (ds:=((c0::cs).map (0:: ·)).map dL) (d:=dL (0::c0)) (Ev.name K rfl) Ev.int (by decide) rfl (by decide)) (.some Ev.int) (.some (Ev.name K rfl)) (by simp; exact lK Lv)) ?_) P3 (by simp; exact Nat.le_trans (Nat.min_le_right _ _) (lK Lv)) (.name rfl fun L' Fr z hz K'=>⟨nA.nil,fun _=>Ev.kH (Ev.bi T H K' rfl (by decide +kernel)) (.one (Ev.name K' rfl)) (oH (Mb z hz).1 (Mb z hz).2)⟩)) ?_
  ·rw [vP _ (Nat.le_add_left _ _)];simp
  ·rw [cV,List.map_map]; rfl
end
theorem yw:Manifest.owners.lookup (K6 ['p', 'a', 'm'].reverse)=some Manifest.sig_map:=by kernel_rfl
theorem vQ:fD kg "map.__iter__"=some Builtin.«dict_keyiterator.__iter__»:=
 Cn (id':="dict_keyiterator.__iter__") (by kernel_rfl) (by first | rfl | decide +kernel | (unfold HX; simp +decide [EB])) (by decide +kernel) (by kernel_rfl)
theorem EX:FF (.type "map")=pure [.type "map",.type "object"]:=by rw [NP]; kernel_rfl
theorem vR:bj (.type "map") "__new__"=pure (some (.builtin "map.__new__")):=by rw [aF,ay]; kernel_rfl
theorem xE:Slot "map" "__init__" "object.__init__":=
 .of (owner:="object") (n:="__init__") (by rw [aF,ay]; kernel_rfl) (by decide +kernel) (by decide +kernel) (by decide +kernel)
  (by first | exact .inl (by decide +kernel) | exact .inr (by decide +kernel)) (by rw [bK]; kernel_rfl)
theorem qw:Slot "map" "__iter__" "map.__iter__":=
 .of (owner:="map") (n:="__iter__") (by rw [aF,ay]; kernel_rfl) (by decide +kernel) (by decide +kernel) (by decide +kernel)
  (by first | exact .inl (by decide +kernel) | exact .inr (by decide +kernel)) (by rw [bK]; kernel_rfl)
theorem ig:Slot "map" "__next__" "map.__next__":=
 .of (owner:="map") (n:="__next__") (by rw [aF,ay]; kernel_rfl) (by decide +kernel) (by decide +kernel) (by decide +kernel)
  (by first | exact .inl (by decide +kernel) | exact .inr (by decide +kernel)) (by rw [bK]; kernel_rfl)
theorem oO:fD kg "map.__next__"=some Builtin.«map.__next__»:=cX (by kernel_rfl)
theorem qx (a:ai):gk "map.__next__" ⟨[a],[]⟩:=by
 unfold gk; rw [EC (id:="map.__next__") (n:=['_', '_', 't', 'x', 'e', 'n', '_', '_']) (o:=['p', 'a', 'm']) (by kernel_rfl) yw]; kernel_rfl
theorem xF (a:ai):gk "map.__iter__" ⟨[a],[]⟩:=by
 unfold gk; rw [EC (id:="map.__iter__") (n:=['_', '_', 'r', 'e', 't', 'i', '_', '_']) (o:=['p', 'a', 'm']) (by kernel_rfl) yw]; kernel_rfl
theorem Dd:TypeCalled "map" "map.__new__" "object.__init__":=
 ⟨by decide +kernel,by decide +kernel,⟨_,_,EX⟩,madeBy_type EX vR (by decide +kernel),by decide +kernel,by rw [bK]; kernel_rfl,xE⟩
theorem vS (a b:ai):ED "map" ⟨[a,b],[]⟩=pure ():=by kernel_rfl
theorem xG (a b:ai):dY "map.__new__" ⟨[.type "map",a,b],[]⟩=pure ():=by kernel_rfl
theorem xH:fD kg "map.__new__"=some Builtin.«map.__new__»:=cX (by kernel_rfl)
theorem Mc:eV (.type "map") (.type "map")=pure true:=by rw [bK]; kernel_rfl
theorem Gd:bj (.type "map") "__len__"=pure none:=by rw [aF,ay]; kernel_rfl
theorem De:bj (.type "map") "__length_hint__"=pure none:=by rw [aF,ay]; kernel_rfl
noncomputable abbrev yx (h:Heap) (m TI:Addr) (f:ai):Prop:=h.get? m=some { cls:=.type "map",data:=.fields #[.ref TI,f] }
noncomputable abbrev EY (h:Heap) (TI:Addr) (v:ai):Prop:=h.get? TI=some { cls:=.type "tuple",data:=.seq #[v] }
theorem xJ (f:ai) (l:Addr) (xs:Array ai):
  K7 (Builtin.«map.__new__» ⟨[.type "map",f,.ref l],[]⟩) (fun _ R s=>s.heap.IsList l xs/\R (.ok (.ret (.ref (s.heap.objs.size + 1 + 1))))
   { s with heap:=((s.heap.push { cls:=.type "list_iterator",data:=.fields #[.ref l,.int 0 0] }).push { cls:=.type "tuple",data:=.seq #[.ref s.heap.objs.size] }).push { cls:=.type "map",data:=.fields #[.ref (s.heap.objs.size + 1),f] } }):=
 .of_wp fun prog w A R s h=>by
  obtain ⟨hp,g,d,tk,os⟩:=s; refine ea h fun hl h=>?_;have Ge:=Mc
  wp_walk using jN hl
  refine ⟨_,rfl,?_⟩;simp only [bG];exact h
section
variable {m TI it l:Addr} {x:ai}
theorem IP (hm:yx s.heap m TI f) (h:Q (.ref m) s):ak (aq prog w) A (uJ (.ref m)) Q E s:=by
 have hT:s.TypeIs (.ref m) "map":=⟨_,hm,rfl⟩;refine O0 hT qw (dZ qw hT vQ ?_ (xF _));refine (?_:ak _ _ (ret (.ref m)) _ _ s);exact ah ⟨_,rfl,"map",_,hT,ig.lookup,h⟩
end
section
variable {m TI it l:Addr} {x:ai}
theorem xK (hm:yx s.heap m TI f) (EZ:EY s.heap TI (.ref it)) (h1:s.heap.IsListIter it l i) (hl:s.heap.IsList l items) (hx:items[i]? =some x) (Oe:m≠it) (hQ: ∀h',h'.IsListIter it l (i + 1)->cz it s.heap h'->ak (aq prog w) A (call f [x]) Q E { s with heap:=h' }):
  ak (aq prog w) A (Builtin.«map.__next__» ⟨[.ref m],[]⟩) (fun fin s'=>∃v,fin=.done (.ret v)/\Q v s') E s:=by
 refine (?_:ak _ _ (Vn (.ref m) 0 >>= _) _ _ _);refine ae (fL hm rfl (x:=.ref TI) rfl ?_);refine ae (dH EZ rfl ?_);refine ae ?_;rw [<- EE];simp only [List.forIn_cons,List.forIn_nil];refine ae (ae (aB (wpAny_nextOf_list_item h1 hl hx fun h' VU hs=>ah (ah ?_))));refine ae (fL (hs.extBut _ _ Oe hm) rfl (x:=f) rfl ?_);refine ae (aB (aN (hQ h' VU hs) (fun v s' q=>?_) fun _ _ e=>e));exact ae (gh (ah ⟨v,rfl,q⟩))
theorem zE {Q:Fin->aj->Prop} (hh:A.handled=none) (hm:yx s.heap m TI f) (EZ:EY s.heap TI (.ref it)) (h1:s.heap.IsListIter it l i) (hl:s.heap.IsList l items) (hx:items[i]? =none) (hE: ∀h' e,gM it s.heap h'->(∃o,h'.get? e=some o/\o.cls=.type "StopIteration")->E (.ref e) { s with heap:=h' }):
  ak (aq prog w) A (Builtin.«map.__next__» ⟨[.ref m],[]⟩) Q E s:=by
 refine (?_:ak _ _ (Vn (.ref m) 0 >>= _) _ _ _);refine ae (fL hm rfl (x:=.ref TI) rfl ?_);refine ae (dH EZ rfl ?_);refine ae ?_;rw [<- EE];simp only [List.forIn_cons,List.forIn_nil];exact ae (ae (aB (wpAny_nextOf_list_end hh h1 hl hx fun h' e hs he=>hE h' e hs he)))
theorem xM {Q:Option ai->aj->Prop} (hm:yx s.heap m TI f) (EZ:EY s.heap TI (.ref it)) (h1:s.heap.IsListIter it l i) (hl:s.heap.IsList l items) (hx:items[i]? =some x) (Oe:m≠it) (hQ: ∀(A':aM) (E':ai->aj->Prop) h',A'.handled=A.handled->A'.depth=A.depth->A'.units=A.units + 1->h'.IsListIter it l (i + 1)->cz it s.heap h'->ak (aq prog w) A' (call f [x]) (fun v s'=>Q (some v) s') E' { s with heap:=h' }):
  ak (aq prog w) A (gD (.ref m)) Q E s:=by
 have hT:s.TypeIs (.ref m) "map":=⟨_,hm,rfl⟩;unfold gD;refine ae (gO (eW (name:=aR "__next__") hT ig
  (dZ ig hT oO
   (xK (Q:=fun v s'=>ak (aq prog w) A (pure (some v)) Q E s') hm EZ h1 hl hx Oe fun h' a1 a2=>?_) (qx _))))
 refine aN (hQ _ _ h' ?_ ?_ ?_ a1 a2) (fun v s' q=>ah q) fun _ _ e=>e
 ·rfl
 ·rfl
 ·rfl
theorem zF {Q:Option ai->aj->Prop} (hh:A.handled=none) (hm:yx s.heap m TI f) (EZ:EY s.heap TI (.ref it)) (h1:s.heap.IsListIter it l i) (hl:s.heap.IsList l items) (hx:items[i]? =none) (hQ: ∀h',gM it s.heap h'->Q none { s with heap:=h' }):ak (aq prog w) A (gD (.ref m)) Q E s:=by
 have hT:s.TypeIs (.ref m) "map":=⟨_,hm,rfl⟩;unfold gD;refine ae (gO (eW (name:=aR "__next__") hT ig
  (dZ ig hT oO (zE hh hm EZ h1 hl hx fun h' e hk he=>?_) (qx _))))
 refine bQ he fun o ho hc=>?_; clear he;refine ae (RG (T:="StopIteration") (b:=true) ⟨o,ho,hc⟩ Vo ?_);exact ah (hQ _ hk)
end
theorem cQ.of {A':aM} (h:cQ (n + 1) A) (h1:A'.handled=A.handled) (h2:A'.depth<=A.depth + 3) (h3:A'.units<=A.units + 30):cQ n A':=
 ⟨h1.trans h.1,by have:=h.2; exact Nat.le_trans (Nat.add_le_add_right h2 _) (Nat.le_trans (Nat.le_of_eq (Nat.add_right_comm _ 3 _)) this),by have:=h.3; exact Nat.le_trans (Nat.add_le_add_right h3 _) (Nat.le_trans (Nat.le_of_eq (Nat.add_right_comm _ 30 _)) this)⟩
structure rO (G:Heap) (Φ D:Led) (h:Heap) (a:Addr) (o:Obj):Prop where
 get:h.get? a=some o
 old:G.get? a=none
 off: ∀p∈D++Φ,p.1≠a
section
variable {Φ:Led} {b:Addr} {ob:Obj}
theorem au.pinned (W:au G Φ D h) (L:rO G Φ D h a o):au G ((a,o)::Φ) D h:=
 ⟨W.keep,fun p hp=>by
  exact cE hp (fun hp=>W.pin p (mL hp)) fun hp=>bU hp (⟨L.get,L.old⟩) fun hp=>W.pin p (mR hp),fun p hp q hq=>by
  exact bU hq (L.off p (mL hp)) fun hq=>W.ap p hp q hq,W.sz⟩
theorem au.Of (W:au G ((a,o)::Φ) D h):au G Φ D h:=
 ⟨W.keep,fun p hp=>by
  exact cE hp (fun hp=>W.pin p (mL hp)) fun hp=>W.pin p (mR ((.tail _ hp))),fun p hp q hq=>W.ap p hp q (.tail _ hq),W.sz⟩
theorem au.Me (W:au G ((a,o)::Φ) D h) (ha: ∀p∈Φ,p.1≠a):rO G Φ D h a o:=
 ⟨(W.pin (a,o) (mR ((.head _)))).1,(W.pin (a,o) (mR ((.head _)))).2,fun p hp=>by
  exact cE hp (fun hp=>W.ap p hp (a,o) (.head _)) fun hp=>ha p hp⟩
theorem au.but (W:au G Φ D h) (L:rO G Φ D h a o) (hk: ∀c x,c≠a->h.get? c=some x->h'.get? c=some x) (hz:G.objs.size<=h'.objs.size):au G Φ D h':=
 ⟨fun c x e=>hk c x (fun q=>by rw [q,L.old] at e; cases e) (W.keep c x e),fun p hp=>⟨hk _ _ (L.off p hp) (W.pin p hp).1,(W.pin p hp).2⟩,W.ap,hz⟩
theorem rO.mono (L:rO G Φ D h a o) (hg:h'.get? a=some ob) (hD: ∀p∈D'++Φ,p.1≠a):rO G Φ D' h' a ob:=⟨hg,L.old,hD⟩
end
theorem zG {S m TI it l:Addr} {nn:Nat} {ds':List Dat} {Φ:Led} (a:cQ (n + 2) A) (hm:(m,({ cls:=.type "map",data:=.fields #[.ref TI,.ref fa] }:Obj))∈D) (EZ:(TI,({ cls:=.type "tuple",data:=.seq #[.ref it] }:Obj))∈D) (hl:(l,listOf vs.toArray nn)∈D) (A3:dG D vs ds) (sV:G.objs.size<=S) (P: ∀(i:Nat) (d:Dat),ds[i]? =some d->∃d':Dat,ds'[i]? =some d'/\bJ prog w G n (.ref fa) [.dat d] (.dat d')) (hlen:ds'.length=ds.length) (hz:ds.length<=1000) (rh:S≠it) (WU: ∀p∈Φ,p.1≠S) (hif: ∀p∈Φ,p.1≠it) (hR: ∀s' ys c D',Sm s₀ s'->au G Φ D' s'.heap->(∀p∈D,p∈D')->s'.heap.get? S=some (listOf (List.toArray ys) c)->dG D' ys ds'->R (.ok (.ret (.ref S))) s'):
  ∀(k i:Nat) (s:aj) (ys:List ai) (c:Nat) (D':Led),ds.length - i=k->i<=ds.length->Sm s₀ s->au G Φ D' s.heap->(∀p∈D,p∈D')->s.heap.IsListIter it l i->(∃oi,rO G Φ D' s.heap it oi)->
   rO G Φ D' s.heap S (listOf (List.toArray ys) c)->dG D' ys (ds'.take i)->eO (aq prog w) A (.builtin "list.extend.loop" ⟨[.ref S,.ref m,.ref S],[]⟩) R s:=by
 intro k
 induction k with
 | zero=>
  intro i s ys c D' hk hi sm W hs hit Df hS HR;refine ex Df fun oi Df=>?_;have jk:i=ds.length:=sZ hk hi;subst jk;refine bB F.entry_extend_loop ?_;rw [aY F.plain_extend_loop _];refine (?_:ak _ A.in1 (gD (.ref m) >>= _) _ _ s);refine ae (zF (it:=it) (l:=l) (i:=ds.length) (items:=vs.toArray) (TI:=TI) (f:=.ref fa) a.handled (W.get (hs _ hm)) (W.get (hs _ EZ)) hit ⟨_,W.get (hs _ hl),rfl,nn,rfl⟩ (by simp [A3.length]) fun h' he=>?_);refine ah (hR _ ys c D' (sm.trans ⟨rfl,rfl⟩) ?_ hs (he _ _ rh hS.get) ?_)
  ·exact W.but Df (fun c x hc e=>he c x hc e) (Nat.le_trans sV (Nat.le_of_lt (az (he _ _ rh hS.get))))
  ·rw [<- hlen,List.take_length] at HR; exact HR
 | succ k ih=>
  intro i s ys c D' hk hi sm W hs hit Df hS HR;refine ex Df fun oi Df=>?_;have fG:i < ds.length:=Nat.lt_of_sub_eq_succ hk;refine bQ (A3.get fG) fun x hx VV=>?_;refine bQ (P i _ (List.getElem?_eq_getElem fG)) fun d' uu PT=>?_;refine bB F.entry_extend_loop ?_;rw [aY F.plain_extend_loop _];refine (?_:ak _ A.in1 (gD (.ref m) >>= _) _ _ s);have Oe:m≠it:=Df.off _ (mL ((hs _ hm)));refine ae (xM (it:=it) (l:=l) (i:=i) (items:=vs.toArray) (TI:=TI) (f:=.ref fa) (x:=x) (W.get (hs _ hm)) (W.get (hs _ EZ)) hit ⟨_,W.get (hs _ hl),rfl,nn,rfl⟩ (by simpa using hx) Oe fun A' E' h' e1 e2 e3 xN VW=>?_);have WV:h'.get? S=some (listOf (List.toArray ys) c):=VW.extBut _ _ rh hS.get;have hgz:G.objs.size<=h'.objs.size:=Nat.le_trans sV (Nat.le_of_lt (az WV));have W1:au G Φ D' h':=W.but Df (fun c x hc e=>VW.extBut c x hc e) hgz;refine iU xN fun o1 IQ WW hd1=>?_; clear xN;have L1:rO G Φ D' h' it o1:=Df.mono IQ Df.off;have L2:rO G Φ D' h' S (listOf (List.toArray ys) c):=hS.mono WV hS.off;have W2:=W1.pinned L1;have W3:au G ((S,listOf (List.toArray ys) c)::(it,o1)::Φ) D' h':=W2.pinned ⟨WV,hS.old,fun p hp=>by
   exact cE hp (fun hp=>hS.off p (mL hp)) fun hp=>bU hp (Ne.symm rh) fun hp=>WU p hp⟩
  refine PT.go A' E' _ _ D' [x] _ (a.in1.of e1 (by rw [e2]; refine (?_:A.depth<=A.depth + 3); lia) (by rw [e3]; refine (?_:A.units + 1 + 1<=A.units + 1 + 30); exact Nat.add_le_add_left (by decide) _)) W3 (.cons (nq hs VV) .nil) fun v s2 D2 yy W4 vU hv=>?_;have L3:=W4.Me (fun p hp=>by
   exact bU hp (Ne.symm rh) fun hp=>WU p hp)
  have W5:=W4.Of;have L4:=W5.Me hif;have W6:=W5.Of;have Og:ys.length=i:=by
   have:=HR.length;rw [List.length_take] at this
   lia
  refine (?_:ak _ A.in1 (pD S (·.push v) >>= _) _ _ _);refine ae (fj L3.get rfl (ah ⟨bY F.plain_extend_loop _,?_⟩) (by rw [List.size_toArray,Og]; exact sl (Nat.le_trans ‹_› ‹_›)) (by refine (?_:((List.toArray ys).push v).size<=bF + 1); rw [HY,List.size_toArray,Og]; exact Nat.succ_le_succ (sl (Nat.le_trans ‹_› ‹_›))));have hu:=bu (cC (·.push v)) L3.get rfl;have WX: ∀c x,c≠S->s2.heap.get? c=some x->(s2.heap.update S (cC (·.push v))).get? c=some x:=fun c x hc e=>(cA _ _ (fun q=>hc q.symm)).trans e;have ZC:rO G Φ D2 s2.heap S (listOf (List.toArray ys) c):=⟨L3.get,L3.old,fun p hp=>by
   exact cE hp (fun hp=>L3.off p (mL hp)) fun hp=>WU p hp⟩
  have W7:au G Φ D2 (s2.heap.update S (cC (·.push v))):=W6.but ZC WX (Nat.le_trans sV (Nat.le_of_lt (az hu)));obtain ⟨c',S9⟩: ∃c',cC (·.push v) (listOf (List.toArray ys) c)=listOf (List.toArray (ys++[v])) c':=by
   have e:(List.toArray ys).push v=(List.toArray (ys++[v])):=by simp
   exact ⟨(if (((List.toArray ys).push v).size == (List.toArray ys).size)=true then c else c + 1),congrArg (fun z=>gE z (if (((List.toArray ys).push v).size == (List.toArray ys).size)=true then c else c + 1)) e⟩
  refine ih (i + 1) { s2 with heap:=s2.heap.update S (cC (·.push v)) } (ys++[v]) c' D2 (sP hk) fG (sm.trans ⟨yy.gens,yy.os⟩) W7 (fun p hp=>vU p (hs p hp)) ⟨o1,WX _ _ (Ne.symm rh) L4.get,WW,hd1⟩ ⟨o1,L4.mono (WX _ _ (Ne.symm rh) L4.get) L4.off⟩
   ⟨?_,L3.old,ZC.off⟩ ?_
  ·exact hu.trans (congrArg some S9)
  ·have e:ds'.take (i + 1)=ds'.take i++[d']:=by rw [List.take_add_one,uu]; rfl
   rw [e];exact (eN vU HR).append (.one hv)
section
open AutoSeq1 (wpAny_loadPart')
section
variable {m TI it l:Addr} {nn:Nat} {ds':List Dat} {Φ:Led}
structure IS (prog:br) (w:bR) (G:Heap) (n:Nat) (Φ D:Led) (h:Heap) (m TI it l fa:Addr) (ds':List Dat):Prop where
 hm:(m,({ cls:=.type "map",data:=.fields #[.ref TI,.ref fa] }:Obj))∈D
 EZ:(TI,({ cls:=.type "tuple",data:=.seq #[.ref it] }:Obj))∈D
 hl: ∃vs nn ds,(l,gE (List.toArray vs) nn)∈D/\dG D vs ds/\(∀(i:Nat) (d:Dat),ds[i]? =some d->∃d':Dat,ds'[i]? =some d'/\bJ prog w G n (.ref fa) [.dat d] (.dat d'))/\ds'.length=ds.length
 hit:h.IsListIter it l 0
 Me: ∃oi,rO G Φ D h it oi
theorem A4 {Q:List ai->aj->Prop} (a:cQ (n + 3) A) (W:au G Φ D s.heap) (M:IS prog w G n Φ D s.heap m TI it l fa ds') (hz:ds'.length<=1000) (hQ: ∀s' ys D',Sm s s'->au G Φ D' s'.heap->(∀p∈D,p∈D')->dG D' ys ds'->Q ys s'):ak (aq prog w) A (collect (.ref m)) Q E s:=by
 refine pH M.hl fun vs nn ds hl A3 P hlen=>?_;refine ex M.Me fun oi L=>?_;have WY:m < s.heap.objs.size:=W.lt (mL (M.hm));have IT:it < s.heap.objs.size:=az L.get;have hSI:s.heap.objs.size≠m:=Nat.ne_of_gt WY;unfold collect;refine ae (wpAny_runValue (bB F.entry_proto_collect ?_));rw [aY F.plain_proto_collect _];refine (?_:ak _ A.in1 (newList [] >>= fun l=>ze (.builtin "list.__iadd__" ⟨[l,.ref m],[]⟩)) _ _ s);refine ae (bC ?_);refine ah ⟨bY F.plain_list_iadd _,bB F.entry_list_iadd ?_⟩;rw [aY F.plain_list_iadd _];have Oh: ∀b o,s.heap.get? b=some o->(s.heap.push { cls:=.type "list",data:=.seq ([]:List ai).toArray }).get? b=some o:=fun b o e=>av _ e;have VT:yx (s.heap.push { cls:=.type "list",data:=.seq ([]:List ai).toArray }) m TI (.ref fa):=Oh _ _ (W.get M.hm);have hT: ∀tk:aj,tk.heap=s.heap.push { cls:=.type "list",data:=.seq ([]:List ai).toArray }->tk.TypeIs (.ref m) "map":=fun tk e=>⟨_,by rw [e]; exact VT,rfl⟩;refine (?_:ak _ A.in1 (Builtin.List.listExtendWith (.ref s.heap.objs.size) (.ref m) (.ref s.heap.objs.size)) _ _ _);unfold Builtin.List.listExtendWith;refine ae (HA (hT _ rfl) ?_);have h1:Builtin.List.listSameRef (.ref s.heap.objs.size) (.ref m)=false:=by simp [Builtin.List.listSameRef,hSI]
 have h2:(Value.type "map" == Value.type "list")=false:=by decide
 have h3:(Value.type "map" == Value.type "tuple")=false:=by decide
 simp only [h1,h2,h3,NQ,aV,if_false];refine ae (IP VT ?_);refine ae (aB ?_);unfold Builtin.List.listLengthHint;refine ae (eJ (hT _ rfl) Gd ?_);refine (?_:ak _ A.in1 (gb (cY m) (aR "__length_hint__") >>= _) _ _ _);refine ae (eJ (hT _ rfl) De ?_);refine ah ?_
 show ak _ A.in1 (rule "list.extend.makes-room" >>= fun _=>Builtin.List.listTouch (.ref s.heap.objs.size) >>= fun _=>
  ze (.builtin "list.extend.loop" ⟨[.ref s.heap.objs.size,.ref m,.ref s.heap.objs.size],[]⟩)) _ _ _
 refine ae (ji ?_);have Oi:(s.heap.push { cls:=.type "list",data:=.seq ([]:List ai).toArray }).get? s.heap.objs.size=some { cls:=.type "list",data:=.seq ([]:List ai).toArray }:=aJ _ rfl;refine ae ?_;refine (?_:ak _ A.in1 (pD s.heap.objs.size (·.push .none) >>= fun _=>pD s.heap.objs.size (·.pop)) _ _ _);refine ae (fj Oi rfl ?_);have Oj:=bu (cC (·.push Value.none)) Oi rfl;refine fj Oj rfl ?_;have Ol:=bu (cC (·.pop)) Oj rfl;have VX: ∀b o,b≠s.heap.objs.size->s.heap.get? b=some o->
   (((s.heap.push { cls:=.type "list",data:=.seq ([]:List ai).toArray }).update s.heap.objs.size (cC (·.push Value.none))).update s.heap.objs.size (cC (·.pop))).get? b=some o:=
  fun b o hb e=>(cA _ _ (Ne.symm hb)).trans ((cA _ _ (Ne.symm hb)).trans (Oh b o e))
 have fresh: ∀b o,s.heap.get? b=some o->b≠s.heap.objs.size:=fun b o e=>Nat.ne_of_lt (az e);have W1:au G Φ D (((s.heap.push { cls:=.type "list",data:=.seq ([]:List ai).toArray }).update s.heap.objs.size (cC (·.push Value.none))).update s.heap.objs.size (cC (·.pop))):=
  ⟨fun b o e=>VX b o (fresh b o (W.keep b o e)) (W.keep b o e),fun p hp=>⟨VX _ _ (fresh _ _ (W.pin p hp).1) (W.pin p hp).1,(W.pin p hp).2⟩,W.ap,Nat.le_trans W.sz (Nat.le_of_lt (az Ol))⟩
 refine iU M.hit fun o0 WD Lv R2=>?_;refine ah ⟨bY F.plain_extend_loop _,?_⟩;refine zG (S:=s.heap.objs.size) (D:=D) (s₀:=s) (ds:=ds) (ds':=ds') (nn:=nn) (a.le (Nat.le_succ _)) M.hm M.EZ hl A3 W.sz P hlen (hlen ▸ hz) (Nat.ne_of_gt IT) (fun p hp=>Nat.ne_of_lt (W.lt (mR hp))) (fun p hp=>L.off p (mR hp))
  (fun s' ys c D' sm W' hs Az HR=>?_) ds.length 0 _ [] 2 D (by lia) (Nat.zero_le _) ⟨rfl,rfl⟩ W1 (fun _ h=>h) ⟨o0,VX _ _ (Nat.ne_of_lt IT) WD,Lv,R2⟩ ⟨oi,L.mono (VX _ _ (Nat.ne_of_lt IT) L.get) L.off⟩
  ⟨?_,W.qq (Nat.le_refl _),fun p hp=>Nat.ne_of_lt (W.lt hp)⟩ .nil
 ·refine (?_:ak _ A (load s.heap.objs.size >>= _) _ _ s');refine ae (gC Az ?_);exact ah (hQ s' ys D' sm W' hs HR)
 ·exact Ol
theorem vV {Q₁:ai->aj->Prop} (a:cQ (n + 4) A) (W:au G Φ D s.heap) (M:IS prog w G n Φ D s.heap m TI it l fa ds') (hz:ds'.length<=1000) (h: ∀s' ys D',Sm s s'->au G Φ D' s'.heap->(∀p∈D,p∈D')->dG D' ys ds'->Q₁ (.ref s'.heap.objs.size) { s' with heap:=s'.heap.push { cls:=.type "tuple",data:=.seq (List.toArray ys) } }):
  eO (aq prog w) A (.call (.builtin "tuple.__new__") ⟨[.type "tuple",.ref m],[]⟩) (wants Q₁ E) s:=by
 refine gJ ?_;refine (?_:ak _ A.in1 (do dY "tuple.__new__" ⟨[.type "tuple",.ref m],[]⟩; ze (.builtin "tuple.__new__" ⟨[.type "tuple",.ref m],[]⟩)) _ _ s)
 refine ae (cH (F.newCall_tuple_1 _) (ah ⟨bY F.plain_tuple_new _,bB F.entry_tuple_new ?_⟩));rw [aY F.plain_tuple_new _];have Ge:=sub_tuple_self;have ZD:=init_tuple_lookup;have hmh:=madeHere_tuple;have EZ:s.TypeIs (.ref m) "map":=⟨_,W.get M.hm,rfl⟩;have hnt:eV (.type "map") (.type "tuple")=pure false:=by rw [bK]; kernel_rfl
 wp_walk using HA EZ,A4 (a.of (A':=A.in1) rfl (Nat.le_add_right _ _) (by refine (?_:A.units + 1<=A.units + 30); exact Nat.add_le_add_left (by decide) _)) W M hz
 intro s' ys D' sm W' hs HR;refine (?_:ak _ _ (Builtin.Tuple.tupleExact ys.toArray >>= fun v=>ret v) _ _ _);unfold Builtin.Tuple.tupleExact;refine ae (bC ?_ (by refine (?_:ys.toArray.size<=bF); rw [List.size_toArray,HR.length]; exact sl hz));exact ah (h s' ys D' sm W' hs HR)
theorem vW (a:cQ (n + 5) A) (W:au G Φ D s.heap) (M:IS prog w G n Φ D s.heap m TI it l fa ds') (hz:ds'.length<=1000) (h: ∀v s' D',Sm s s'->au G Φ D' s'.heap->(∀p∈D,p∈D')->eI D' v (.tuple ds')->Q v s'):ak (aq prog w) A (call (.type "tuple") [.ref m]) Q E s:=by
 refine Vp (Q₁:=fun obj bI=>bI.TypeIs obj "tuple" /\Q obj bI) F.called_tuple (F.typeCall_tuple_1 _) F.entry_object_init
  (vV (a.of rfl (Nat.le_add_right _ _) (by refine (?_:A.units + 1<=A.units + 30); exact Nat.add_le_add_left (by decide) _)) W M hz fun s' ys D' sm W' hs HR=>⟨⟨_,aJ _ rfl,rfl⟩,?_⟩) fun obj bI cZ=>?_
 ·exact h _ _ ((s'.heap.objs.size,{ cls:=.type "tuple",data:=.seq (List.toArray ys) })::D') (sm.trans ⟨rfl,rfl⟩) (W'.push _ rfl) (fun p hp=>.tail _ (hs p hp)) (lG (n:=0) (.head _) (eN (fun _ hp=>.tail _ hp) HR))
 ·exact ⟨cZ.1,F.args_object_init_2 obj _,O1 F.called_tuple.init.lookup F.called_tuple.made (by decide) prog w A.in1 _ bI ⟨cZ.1,rfl,cZ.2⟩⟩
end
end
theorem Ev.IU {fn:Expr} {arg:Expr} {p1 p2 p4 p5:Pos} {x1 x2:Str} {ds':List Dat} (ht:Ev prog w G (n + 6) c ρ (.Name x1 p1) (.val (.type "tuple"))) (hm:Ev prog w G (n + 6) c ρ (.Name x2 p2) (.val (.type "map"))) (hf:Ev prog w G (n + 6) c ρ fn (.val (.ref fa))) (ha:Ev prog w G (n + 6) c ρ arg (.dat (.list ds))) (P: ∀(i:Nat) (d:Dat),ds[i]? =some d->∃d':Dat,ds'[i]? =some d'/\bJ prog w G n (.ref fa) [.dat d] (.dat d')) (hlen:ds'.length=ds.length) (hz:ds.length<=1000) (VY:aC [fn,arg] c.env=(false,eval fn c.env)::aC [arg] c.env:=by rfl) (he2:aC [arg] c.env=(false,eval arg c.env)::aC [] c.env:=by rfl) (h3:((cI p4 (aC [arg] c.env)).any (·.1))=false:=by rfl) (he:aC [.Call (.Name x2 p2) [fn,arg] [] p4] c.env=(false,eval (.Call (.Name x2 p2) [fn,arg] [] p4) c.env)::aC [] c.env:=by rfl) (h3':((cI p5 (aC [] c.env)).any (·.1))=false:=by rfl) (WW:eval (.Call (.Name x2 p2) [fn,arg] [] p4) c.env=(do eF p4 (<- eval (.Name x2 p2) c.env) [] (cI p4 (aC [fn,arg] c.env)) (eG p4 (bX [] c.env))):=by rfl) (hc2:eval (.Call (.Name x1 p1) [.Call (.Name x2 p2) [fn,arg] [] p4] [] p5) c.env=(do eF p5 (<- eval (.Name x1 p1) c.env) [] (cI p5 (aC [.Call (.Name x2 p2) [fn,arg] [] p4] c.env)) (eG p5 (bX [] c.env))):=by rfl):
  Ev prog w G (n + 6) c ρ (.Call (.Name x1 p1) [.Call (.Name x2 p2) [fn,arg] [] p4] [] p5) (.dat (.tuple ds')):=.mk fun A E Q Φ τ s a F hq=>by
 refine kT (ht.pX A E _ Φ τ s a F fun s1 m1 F1=>?_) hc2;refine cD (eE ?_ he) he h3';refine kT (hm.pX A E _ Φ _ s1 a F1.pop fun s2 m2 F2=>?_) WW;refine cD ((ic.cons hf (ic.one ha he2) VY).Zr A E _ Φ _ s2 p4 a F2.pop fun v1 v2 s3 m3 F3=>?_) VY h3;refine d8 F3 fun D C m X=>?_; clear F3;have q1:v1=.ref fa:=X.tm (v1,.val (.ref fa)) (.head _);have q2:eI D v2 (.list ds):=X.tm (v2,.dat (.list ds)) (.tail _ (.head _));subst q1;refine lE q2 fun l vs nn ml al=>?_
 ·refine ex X.around fun oL W=>?_;refine callType_new Dd (by decide) (vS _ _) (xG _ _) (fun obj=>PySem.F.args_object_init_3 obj _ _) xH (xJ (.ref fa) l vs.toArray) ⟨⟨_,W.get ml,rfl,nn,rfl⟩,?_⟩;have W1:=W.drop { cls:=.type "list_iterator",data:=.fields #[.ref l,.int 0 0] };have W2:=W1.push { cls:=.type "tuple",data:=.seq #[.ref s3.heap.objs.size] } rfl;have W3:=W2.push { cls:=.type "map",data:=.fields #[.ref (s3.heap.objs.size + 1),.ref fa] } rfl;rw [bG,bG] at W3;have hg: ∀b o,s3.heap.get? b=some o->(((s3.heap.push { cls:=.type "list_iterator",data:=.fields #[.ref l,.int 0 0] }).push { cls:=.type "tuple",data:=.seq #[.ref s3.heap.objs.size] }).push { cls:=.type "map",data:=.fields #[.ref (s3.heap.objs.size + 1),.ref fa] }).get? b=some o:=
   fun b o e=>av _ (av _ (av _ e))
  have hi:(((s3.heap.push { cls:=.type "list_iterator",data:=.fields #[.ref l,.int 0 0] }).push { cls:=.type "tuple",data:=.seq #[.ref s3.heap.objs.size] }).push { cls:=.type "map",data:=.fields #[.ref (s3.heap.objs.size + 1),.ref fa] }).get? s3.heap.objs.size=some { cls:=.type "list_iterator",data:=.fields #[.ref l,.int 0 0] }:=
   av _ (av _ (aJ _ rfl))
  refine ⟨⟨_,W3.get (.head _),rfl⟩,?_⟩;refine (?_:ak _ _ (sJ _) _ _ _);refine spliced_nil ?_;refine vW (n:=n) (it:=s3.heap.objs.size) (l:=l) (fa:=fa) (TI:=s3.heap.objs.size + 1) (a.le (Nat.le_succ _)) W3
   ⟨.head _,.tail _ (.head _),⟨vs,nn,ds,.tail _ (.tail _ ml),eN (fun _ hp=>.tail _ (.tail _ hp)) al,P,hlen⟩,⟨_,hi,rfl,rfl⟩,⟨_,hi,W.qq (Nat.le_refl _),fun p hp=>?_⟩⟩ (hlen.symm ▸ hz) fun v s' D' sm W' hs hv=>?_
  ·refine cE hp (fun hp=>?_) (fun hp=>?_)
   ·refine bU hp ?_ (fun hp=>?_)
    ·refine (?_:s3.heap.objs.size + 1 + 1≠s3.heap.objs.size); exact Nat.ne_of_gt (Nat.lt_succ_of_lt (Nat.lt_succ_self _))
    ·refine bU hp ?_ (fun hp=>?_)
     ·refine (?_:s3.heap.objs.size + 1≠s3.heap.objs.size); lia
     ·exact Nat.ne_of_lt (W.lt (mL hp))
   ·exact Nat.ne_of_lt (W.lt (mR hp))
  ·have Y:=X.back (W.pin _ (mR ((.head _)))).1 W' (fun p hp=>hs p (.tail _ (.tail _ hp)));refine hq v s' (((m1.trans m2).trans m3).trans ⟨sm.gens,sm.os⟩) ⟨D',C,m,(Y.oB (fun p hp=>?_))⟩;exact bU hp (hv) fun hp=>Y.tm p (.tail _ (.tail _ hp))
section
open PySem.SeqAt
open AutoSeq1 (wpAny_loadPart')
open MeetsSeq MeetsSeq2 MeetsSeq3 SeqRoads2
noncomputable def uz (e r:Nat->Bool) (gs:Bool):Nat->Nat->Bool
 | 0,_=>gs
 | k + 1,i=>if e i then uz e r gs k (i + 1) else r i
theorem IV (e r:Nat->Bool) (gs:Bool) (k i:Nat):uz e r gs (k + 1) i=if e i then uz e r gs k (i + 1) else r i:=rfl
noncomputable def dU (gt:Bool) (m n:Nat):Bool:=if gt then decide (m > n) else decide (m < n)
noncomputable def PN (gt:Bool):CmpOp:=if gt then .Gt else .Lt
noncomputable def codeOf (gt:Bool):Nat:=if gt then 4 else 0
noncomputable def IW (gt:Bool) (A:aM) (s:aj) (y x:ai) (b:Bool):Prop:=
 ∀(prog:br) (w:bR) (E:ai->aj->Prop) (Q:ai->aj->Prop),Q (.bool b) s->ak (aq prog w) A (iw (PN gt) y x) Q E s
noncomputable def Gf (gt:Bool) (l b:Addr) (i:Nat):Sem gz:=do
 let (some x,some y):=((<- Builtin.List.listItems (.ref l))[i]?,(<- Builtin.List.listItems (.ref b))[i]?)
  | ret (.bool (dU gt (<- Builtin.List.listItems (.ref l)).size (<- Builtin.List.listItems (.ref b)).size))
 if <- eqBool x y then return <- ze (.builtin "list.__eq__.loop" ⟨[.ref l,.ref b,aQ ((i + 1:Nat):Int),aQ (codeOf gt)],[]⟩)
 let xs <- Builtin.List.listItems (.ref l)
 let ys <- Builtin.List.listItems (.ref b)
 match xs[i]?,ys[i]? with
 | some x,some y=>ret (<- iw (PN gt) x y)
 | _,_=>rule "list.compare.shrunk"; ret (.bool (dU gt xs.size ys.size))
theorem E0 (gt:Bool) (l b:Addr) (i:Nat):Builtin.«list.__eq__.loop» ⟨[.ref l,.ref b,aQ i,aQ (codeOf gt)],[]⟩=Gf gt l b i:=by cases gt <;> kernel_rfl
theorem A5 (gt:Bool) (l b:Addr) (items items2:Array ai) (n n2:Nat) (dd PO:Option Addr) (sl Lw:Array (Option ai)) (e r:Nat->Bool) (k:Nat):
  ∀i:Nat,i + k=min items.size items2.size->K7 (Builtin.«list.__eq__.loop» ⟨[.ref l,.ref b,aQ i,aQ (codeOf gt)],[]⟩)
   (fun A R s=>s.heap.get? l=some { cls:=.type "list",dict:=dd,data:=.seq items n,slots:=sl }/\s.heap.get? b=some { cls:=.type "list",dict:=PO,data:=.seq items2 n2,slots:=Lw }/\
    (∀j (h1:j < items.size) (h2:j < items2.size),EqAt A.in1 s items[j] items2[j] (e j))/\(∀j (h1:j < items.size) (h2:j < items2.size),e j=false->IW gt A.in1 s items[j] items2[j] (r j))/\
    R (.ok (.ret (.bool (uz e r (dU gt items.size items2.size) k i)))) s):=by
 induction k with
 | zero=>
  refine fun i hk prog w A R s h=>rj h fun hl hb he hr h=>?_;rw [E0];unfold Gf;refine ae (eH hl rfl (ae (eH hb rfl ?_)))
  by_cases h1:i < items.size
  ·rw [eA h1,Ax (Nat.le_of_not_lt fun h2=>Nat.lt_irrefl i (Nat.lt_of_lt_of_le (Nat.lt_min.mpr ⟨h1,h2⟩) (Nat.le_of_eq hk.symm)))];exact ae (eH hl rfl (ae (eH hb rfl (ah h))))
  ·rw [Ax (Nat.le_of_not_lt h1)];exact ae (eH hl rfl (ae (eH hb rfl (ah h))))
 | succ k ih=>
  refine fun i hk prog w A R s h=>rj h fun hl hb he hr h=>?_;have hm:i < min items.size items2.size:=hk ▸ Nat.lt_add_of_pos_right (Nat.succ_pos k);have h1:=Nat.lt_of_lt_of_le hm (Nat.min_le_left ..);have h2:=Nat.lt_of_lt_of_le hm (Nat.min_le_right ..);rw [E0];unfold Gf;refine ae (eH hl rfl (ae (eH hb rfl ?_)));rw [eA h1,eA h2];refine ae (he i h1 h2 prog w _ _ ?_);cases q:e i with
  | true=>
   rw [IV,if_pos q] at h;exact ae (ah (ah ⟨bY plain_eq_loop _,bB entry_eq_loop (by
    rw [aY plain_eq_loop _];exact ih (i + 1) ((Nat.add_right_comm i 1 k).trans hk) prog w A R s ⟨hl,hb,he,hr,h⟩)⟩))
  | false=>
   rw [IV,if_neg (q ▸ aI)] at h;refine ae (eH hl rfl (ae (eH hb rfl ?_)));rw [eA h1,eA h2];exact ae (hr i h1 h2 q prog w _ _ (ah h))
end
section
open PySem.SeqAt
open AutoSeq1 (wpAny_loadPart')
open MeetsSeq MeetsSeq2 MeetsSeq3 SeqRoads2
theorem IX (l b:Addr) (items items2:Array ai) (n n2:Nat) (dd PO:Option Addr) (sl Lw:Array (Option ai)) (e r:Nat->Bool):
  K7 (Builtin.«list.__lt__» ⟨[.ref l,.ref b],[]⟩)
   (fun A R s=>s.heap.get? l=some { cls:=.type "list",dict:=dd,data:=.seq items n,slots:=sl }/\s.heap.get? b=some { cls:=.type "list",dict:=PO,data:=.seq items2 n2,slots:=Lw }/\
    (∀j (h1:j < items.size) (h2:j < items2.size),EqAt A.in1 s items[j] items2[j] (e j))/\(∀j (h1:j < items.size) (h2:j < items2.size),e j=false->IW false A.in1 s items[j] items2[j] (r j))/\
    R (.ok (.ret (.bool (uz e r (dU false items.size items2.size) (min items.size items2.size) 0)))) s):=by
 intro prog w A R s h;obtain ⟨hp,g,d,tk,os⟩:=s; refine rj h fun hl hb he hr h=>?_;have f3:=xw
 wp_walk using dK hl,dK hb
 exact ⟨bY plain_eq_loop _,bB entry_eq_loop (by
  rw [aY plain_eq_loop _];exact A5 false l b items items2 n n2 dd PO sl Lw e r _ 0 (Nat.zero_add _) prog w A R _ ⟨hl,hb,he,hr,by simpa using h⟩)⟩
theorem PR (l b:Addr) (items items2:Array ai) (n n2:Nat) (dd PO:Option Addr) (sl Lw:Array (Option ai)) (e r:Nat->Bool):
  K7 (Builtin.«list.__gt__» ⟨[.ref l,.ref b],[]⟩)
   (fun A R s=>s.heap.get? l=some { cls:=.type "list",dict:=dd,data:=.seq items n,slots:=sl }/\s.heap.get? b=some { cls:=.type "list",dict:=PO,data:=.seq items2 n2,slots:=Lw }/\
    (∀j (h1:j < items.size) (h2:j < items2.size),EqAt A.in1 s items[j] items2[j] (e j))/\(∀j (h1:j < items.size) (h2:j < items2.size),e j=false->IW true A.in1 s items[j] items2[j] (r j))/\
    R (.ok (.ret (.bool (uz e r (dU true items.size items2.size) (min items.size items2.size) 0)))) s):=by
 intro prog w A R s h;obtain ⟨hp,g,d,tk,os⟩:=s; refine rj h fun hl hb he hr h=>?_;have f3:=xw
 wp_walk using dK hl,dK hb
 exact ⟨bY plain_eq_loop _,bB entry_eq_loop (by
  rw [aY plain_eq_loop _];exact A5 true l b items items2 n n2 dd PO sl Lw e r _ 0 (Nat.zero_add _) prog w A R _ ⟨hl,hb,he,hr,by simpa using h⟩)⟩
noncomputable def kY {α:Type} (Om lt:α->α->Bool) (gt:Bool):List α->List α->Bool
 | x::xs,y::ys=>if Om x y then kY Om lt gt xs ys else lt x y
 | xs,ys=>dU gt xs.length ys.length
theorem Mf {e r:Nat->Bool} {gs:Bool} (k i:Nat):uz e r gs k (i + 1)=uz (fun j=>e (j + 1)) (fun j=>r (j + 1)) gs k i:=by
 induction k generalizing i with
 | zero=>rfl
 | succ k ih=>
  refine (?_:(if e (i + 1) then uz e r gs k (i + 1 + 1) else r (i + 1))=_);rw [ih]; rfl
theorem yz {α:Type} (Om lt:α->α->Bool) (gt:Bool) (z:α) (xs ys:List α):
  uz (fun j=>Om (xs.getD j z) (ys.getD j z)) (fun j=>lt (xs.getD j z) (ys.getD j z)) (dU gt xs.length ys.length) (min xs.length ys.length) 0=kY Om lt gt xs ys:=by
 refine l2 xs ys rfl (fun _ _=>rfl) (fun _ _=>rfl) fun x a y b ih=>?_;refine (?_:_=if Om x y then kY Om lt gt a b else lt x y);rw [<- ih,List.length_cons,List.length_cons,Nat.add_min_add_right,show dU gt (a.length + 1) (b.length + 1)=dU gt a.length b.length by cases gt <;> exact decide_eq_decide.mpr Nat.succ_lt_succ_iff];exact congrArg (fun q=>if Om x y then q else lt x y) (Mf _ 0)
end
section
open PySem.SeqAt
section
variable {S l:Addr} {nn:Nat} {Φ:Led}
structure uA (G:Heap) (Φ D:Led) (S I l:Addr) (i:Nat) (b:Array ai) (h:Heap):Prop where
 W:au G Φ D h
 it:h.IsListIter I l i
 li: ∃o,rO G Φ D h I o
 ls: ∃c,rO G Φ D h S { cls:=.type "list",dict:=none,data:=.seq b c,slots:= #[] }
theorem uA.turn {b:Array ai} (M:uA G Φ D S I l i b h) (rh:S≠I) (sV:G.objs.size<=S) (h1:h'.IsListIter I l j) (hk: ∀c o,c≠I->h.get? c=some o->h'.get? c=some o):uA G Φ D S I l j b h':=by
 refine ex M.li fun o L=>?_;refine ex M.ls fun cc LS=>?_;have Az:=hk _ _ rh LS.get;refine bQ (id h1) fun o1 IQ r=>?_;exact ⟨M.W.but L hk (Nat.le_trans sV (Nat.le_of_lt (az Az))),h1,⟨o1,L.mono IQ L.off⟩,⟨cc,LS.mono Az LS.off⟩⟩
theorem uA.best {b b':Array ai} {cc:Nat} (M:uA G Φ D S I l i b h) (rh:S≠I) (Az:h'.get? S=some { cls:=.type "list",dict:=none,data:=.seq b' cc,slots:= #[] }) (hk: ∀c o,c≠S->h.get? c=some o->h'.get? c=some o) (sV:G.objs.size<=S):uA G Φ D S I l i b' h':=by
 refine ex M.li fun o L=>?_;refine ex M.ls fun _ LS=>?_;refine bQ M.it fun o1 IQ r=>?_;exact ⟨M.W.but LS hk (Nat.le_trans sV (Nat.le_of_lt (az Az))),⟨o1,hk _ _ (Ne.symm rh) IQ,r⟩,⟨o,L.mono (hk _ _ (Ne.symm rh) L.get) L.off⟩,⟨cc,LS.mono Az LS.off⟩⟩
theorem uA.over {b:Array ai} (M:uA G Φ D S I l i b h) (rh:S≠I) (sV:G.objs.size<=S) (hk: ∀c o,c≠I->h.get? c=some o->h'.get? c=some o):au G Φ D h'/\∃c,h'.get? S=some { cls:=.type "list",dict:=none,data:=.seq b c,slots:= #[] }:=by
 refine ex M.li fun o L=>?_;refine ex M.ls fun cc LS=>?_;have Az:=hk _ _ rh LS.get;exact ⟨M.W.but L hk (Nat.le_trans sV (Nat.le_of_lt (az Az))),cc,Az⟩
theorem Gg (hh:A.handled=none) (hl:(l,gE vs.toArray nn)∈D) (bt:Nat->Nat->Bool) (rh:S≠I) (sV:G.objs.size<=S) (PS: ∀i j vi vj (s:aj) (E:ai->aj->Prop) (Q:ai->aj->Prop),vs[i]? =some vi->vs[j]? =some vj->au G Φ D s.heap->Q (.bool (bt i j)) s->ak (aq prog w) A.in1 (iw .Lt vi vj) Q E s) (hR: ∀v s',vs[eX bt (vs.length - 1)]? =some v->Sm s₀ s'->au G Φ D s'.heap->R (.ok (.ret v)) s'):
  ∀(k j:Nat) (s:aj) (vb:ai),vs.length - (j + 1)=k->j + 1<=vs.length->Sm s₀ s->uA G Φ D S I l (j + 1) #[vb,vb] s.heap->vs[eX bt j]? =some vb->
  eO (aq prog w) A (.builtin "min.loop" ⟨[.ref I,.none,.ref S],[]⟩) R s:=by
 have oQ:(toString "min" ++toString ".loop" :String)="min.loop":=by decide
 intro k
 induction k with
 | zero=>
  intro j s vb hk hj sm M Mg;have jk:j + 1=vs.length:=sZ hk hj;refine ex M.ls fun cc LS=>?_;refine bB F.entry_min_loop ?_;rw [aY F.plain_min_loop _];refine (?_:ak _ A.in1 (ku (.ref S) >>= _) _ _ s);refine ae (dH LS.get rfl ?_);refine (?_:ak _ A.in1 (tryCatch (gD (.ref I)) _ >>= _) _ _ s);refine ae (fW (HZ hh M.it ⟨_,M.W.get hl,rfl,nn,rfl⟩ (by simp [<- jk]) fun h' he=>?_));refine Wx (M.over rh sV (fun c o hc e=>he c o hc e)) fun W' c' Az=>?_;refine (?_:ak _ A.in1 (pD S (fun _=> #[]) >>= _) _ _ _);refine ae ?_;refine fj Az rfl (ae (gh (ah ?_)));refine hR vb _ (by rw [<- jk]; exact Mg) (sm.trans ⟨rfl,rfl⟩) ?_;have hu:=bu (cC (fun _=> #[])) Az rfl;refine W'.but (o:=_) ⟨Az,LS.old,LS.off⟩ (fun c o hc e=>(cA _ _ (fun q=>hc q.symm)).trans e) (Nat.le_trans sV (Nat.le_of_lt (az hu)))
 | succ k ih=>
  intro j s vb hk hj sm M Mg;have fG:j + 1 < vs.length:=Nat.lt_of_sub_eq_succ hk;refine ex M.ls fun cc LS=>?_;refine bB F.entry_min_loop ?_;rw [aY F.plain_min_loop _];refine (?_:ak _ A.in1 (ku (.ref S) >>= _) _ _ s);refine ae (dH LS.get rfl ?_);refine (?_:ak _ A.in1 (tryCatch (gD (.ref I)) _ >>= _) _ _ s);have hv:vs.toArray[j + 1]? =some vs[j + 1]:=by simp [fG]
  refine ae (fW (jO M.it ⟨_,M.W.get hl,rfl,nn,rfl⟩ hv fun h' xN CB=>?_));have M1:=M.turn rh sV xN (fun c o hc e=>CB.extBut c o hc e);refine ex M1.ls fun c1 IY=>?_;generalize hvv:vs[j + 1]=v;have Tc:vs[j + 1]? =some v:=by rw [<- hvv]; exact List.getElem?_eq_getElem fG
  refine (?_:ak _ A.in1 (tryCatch (w9 [v,v] (iw .Lt v vb >>= _)) _ >>= _) _ _ _);refine ae (fW (aB (ae (PS (j + 1) (eX bt j) v vb _ _ _ Tc Mg M1.W ?_))));refine ae (aB (nN ?_));refine ae (gh (ah ?_));cases hb:bt (j + 1) (eX bt j) with
  | true=>
   simp only [if_true];refine ae ?_;refine fj IY.get rfl (ae (gh ?_));rw [oQ];refine ah ⟨bY F.plain_min_loop _,ih (j + 1) _ v (sP hk) fG (sm.trans ⟨rfl,rfl⟩) ?_ (by simp only [eX,hb,if_true]; exact Tc)⟩;exact M1.best rh (bu _ IY.get rfl) (fun c o hc e=>(cA _ _ (fun q=>hc q.symm)).trans e) sV
  | false=>
   simp only [aV,if_false];refine ae (gh ?_);rw [oQ];exact ah ⟨bY F.plain_min_loop _,ih (j + 1) _ vb (sP hk) fG (sm.trans ⟨rfl,rfl⟩) M1 (by simp only [eX,hb,aV,if_false]; exact Mg)⟩
theorem Gh (hh:A.handled=none) (hl:(l,gE vs.toArray nn)∈D) (bt:Nat->Nat->Bool) (rh:S≠I) (sV:G.objs.size<=S) (PS: ∀i j vi vj (s:aj) (E:ai->aj->Prop) (Q:ai->aj->Prop),vs[i]? =some vi->vs[j]? =some vj->au G Φ D s.heap->Q (.bool (bt i j)) s->ak (aq prog w) A.in1 (iw .Gt vi vj) Q E s) (hR: ∀v s',vs[eX bt (vs.length - 1)]? =some v->Sm s₀ s'->au G Φ D s'.heap->R (.ok (.ret v)) s'):
  ∀(k j:Nat) (s:aj) (vb:ai),vs.length - (j + 1)=k->j + 1<=vs.length->Sm s₀ s->uA G Φ D S I l (j + 1) #[vb,vb] s.heap->vs[eX bt j]? =some vb->
  eO (aq prog w) A (.builtin "max.loop" ⟨[.ref I,.none,.ref S],[]⟩) R s:=by
 have oQ:(toString "max" ++toString ".loop" :String)="max.loop":=by decide
 intro k
 induction k with
 | zero=>
  intro j s vb hk hj sm M Mg;have jk:j + 1=vs.length:=sZ hk hj;refine ex M.ls fun cc LS=>?_;refine bB F.entry_max_loop ?_;rw [aY F.plain_max_loop _];refine (?_:ak _ A.in1 (ku (.ref S) >>= _) _ _ s);refine ae (dH LS.get rfl ?_);refine (?_:ak _ A.in1 (tryCatch (gD (.ref I)) _ >>= _) _ _ s);refine ae (fW (HZ hh M.it ⟨_,M.W.get hl,rfl,nn,rfl⟩ (by simp [<- jk]) fun h' he=>?_));refine Wx (M.over rh sV (fun c o hc e=>he c o hc e)) fun W' c' Az=>?_;refine (?_:ak _ A.in1 (pD S (fun _=> #[]) >>= _) _ _ _);refine ae ?_;refine fj Az rfl (ae (gh (ah ?_)));refine hR vb _ (by rw [<- jk]; exact Mg) (sm.trans ⟨rfl,rfl⟩) ?_;have hu:=bu (cC (fun _=> #[])) Az rfl;refine W'.but (o:=_) ⟨Az,LS.old,LS.off⟩ (fun c o hc e=>(cA _ _ (fun q=>hc q.symm)).trans e) (Nat.le_trans sV (Nat.le_of_lt (az hu)))
 | succ k ih=>
  intro j s vb hk hj sm M Mg;have fG:j + 1 < vs.length:=Nat.lt_of_sub_eq_succ hk;refine ex M.ls fun cc LS=>?_;refine bB F.entry_max_loop ?_;rw [aY F.plain_max_loop _];refine (?_:ak _ A.in1 (ku (.ref S) >>= _) _ _ s);refine ae (dH LS.get rfl ?_);refine (?_:ak _ A.in1 (tryCatch (gD (.ref I)) _ >>= _) _ _ s);have hv:vs.toArray[j + 1]? =some vs[j + 1]:=by simp [fG]
  refine ae (fW (jO M.it ⟨_,M.W.get hl,rfl,nn,rfl⟩ hv fun h' xN CB=>?_));have M1:=M.turn rh sV xN (fun c o hc e=>CB.extBut c o hc e);refine ex M1.ls fun c1 IY=>?_;generalize hvv:vs[j + 1]=v;have Tc:vs[j + 1]? =some v:=by rw [<- hvv]; exact List.getElem?_eq_getElem fG
  refine (?_:ak _ A.in1 (tryCatch (w9 [v,v] (iw .Gt v vb >>= _)) _ >>= _) _ _ _);refine ae (fW (aB (ae (PS (j + 1) (eX bt j) v vb _ _ _ Tc Mg M1.W ?_))));refine ae (aB (nN ?_));refine ae (gh (ah ?_));cases hb:bt (j + 1) (eX bt j) with
  | true=>
   simp only [if_true];refine ae ?_;refine fj IY.get rfl (ae (gh ?_));rw [oQ];refine ah ⟨bY F.plain_max_loop _,ih (j + 1) _ v (sP hk) fG (sm.trans ⟨rfl,rfl⟩) ?_ (by simp only [eX,hb,if_true]; exact Tc)⟩;exact M1.best rh (bu _ IY.get rfl) (fun c o hc e=>(cA _ _ (fun q=>hc q.symm)).trans e) sV
  | false=>
   simp only [aV,if_false];refine ae (gh ?_);rw [oQ];exact ah ⟨bY F.plain_max_loop _,ih (j + 1) _ vb (sP hk) fG (sm.trans ⟨rfl,rfl⟩) M1 (by simp only [eX,hb,aV,if_false]; exact Mg)⟩
end
end
section
open PySem.SeqAt
noncomputable def fz (x y:Str):Bool:=decide (x=y)
noncomputable def strLt (gt:Bool) (x y:Str):Bool:=if gt then decide (y.cps.toList < x.cps.toList) else decide (x.cps.toList < y.cps.toList)
section
variable {Φ:Led}
theorem E2 (gt:Bool) {v1 v2:ai} {ys:List Str} (hu:A.units + 64 < zd) (hD: ∀p∈D,s.heap.get? p.1=some p.2) (h1:eI D v1 (.list (xs.map .str))) (h2:eI D v2 (.list (ys.map .str))) (hx: ∀x∈xs,bA x=true) (hy: ∀x∈ys,bA x=true) (hq:Q (.bool (kY fz (strLt gt) gt xs ys)) s):ak (aq prog w) A (iw (PN gt) v1 v2) Q E s:=by
 refine lE h1 fun a vs na ma aa=>lE h2 fun b us nb mb ab=>?_;refine bQ (zD aa) fun l1 e1 f1=>?_;refine bQ (zD ab) fun l2 e2 f2=>?_;subst e1 e2 f1 f2;have s1:(b9 l1).toArray.size=l1.length:=by simp [b9]
 have s2:(b9 l2).toArray.size=l2.length:=by simp [b9]
 have g1: ∀j (h:j < (b9 l1).toArray.size),(b9 l1).toArray[j]=.str (l1[j]'(s1 ▸ h)).1 (l1[j]'(s1 ▸ h)).2:=fun j h=>by simp [b9]
 have g2: ∀j (h:j < (b9 l2).toArray.size),(b9 l2).toArray[j]=.str (l2[j]'(s2 ▸ h)).1 (l2[j]'(s2 ▸ h)).2:=fun j h=>by simp [b9]
 have gd: ∀(l:List (Str × Tok)) j (h:j < l.length),(l.map (·.1)).getD j gm=l[j].1:=fun l j h=>by
  rw [List.getD_eq_getElem?_getD,List.getElem?_map,List.getElem?_eq_getElem h]; rfl
 have he: ∀j (h1:j < (b9 l1).toArray.size) (h2:j < (b9 l2).toArray.size),EqAt A.in1 s (b9 l1).toArray[j] (b9 l2).toArray[j] (fz ((l1.map (·.1)).getD j gm) ((l2.map (·.1)).getD j gm)):=fun j h1 h2=>by
  have k1:bA (l1[j]'(s1 ▸ h1)).1=true:=hx _ (List.mem_map_of_mem (List.getElem_mem _));have k2:bA (l2[j]'(s2 ▸ h2)).1=true:=hy _ (List.mem_map_of_mem (List.getElem_mem _));rw [g1 j h1,g2 j h2,gd l1 j (s1 ▸ h1),gd l2 j (s2 ▸ h2)];have q:=eqAt_reads (.str (l1[j]'(s1 ▸ h1)).1) (.str (l2[j]'(s2 ▸ h2)).1) A.in1 s _ _ _ _ (Ss _ (l1[j]'(s1 ▸ h1)).2) (Ss _ (l2[j]'(s2 ▸ h2)).2) k1 k2 (by
   have:A.in1.units=A.units + 1:=rfl;have:(CF (l1[j]'(s1 ▸ h1)).1).depth<=8:=(qd 8 (.str (l1[j]'(s1 ▸ h1)).1) k1).2;have:=Nat.min_le_left (CF (l1[j]'(s1 ▸ h1)).1).depth (CF (l2[j]'(s2 ▸ h2)).1).depth;exact Nat.lt_of_le_of_lt (Nat.add_le_add_left (Nat.le_trans ‹min _ _<=_› ‹_<=8›) _) (Nat.lt_of_le_of_lt (Nat.add_le_add_left (by decide:9<=64) A.units) hu))
  have e:=rD (d:=.str (l1[j]'(s1 ▸ h1)).1) (e:=.str (l2[j]'(s2 ▸ h2)).1) (b:=fz (l1[j]'(s1 ▸ h1)).1 (l2[j]'(s2 ▸ h2)).1) k1 k2 (by
   unfold fz; rw [decide_eq_true_iff]; exact ⟨fun h=>by rw [h],gF⟩)
  rw [<- e]; exact q
 have hr: ∀j (h1:j < (b9 l1).toArray.size) (h2:j < (b9 l2).toArray.size),IW gt A.in1 s (b9 l1).toArray[j] (b9 l2).toArray[j] (strLt gt ((l1.map (·.1)).getD j gm) ((l2.map (·.1)).getD j gm)):=fun j h1 h2=>by
  rw [g1 j h1,g2 j h2,gd l1 j (s1 ▸ h1),gd l2 j (s2 ▸ h2)];intro prog w E Q hq;cases gt with
  | false=>exact O2 (op:=.Lt) (kq s _ _) (kq s _ _) F.slot_str_lt F.entry_str_lt (F.args_str_lt_2 _ _) (PySem.gives_str_lt _ _ _ _) (fun e=>nomatch e) hq
  | true=>exact O2 (op:=.Gt) (kq s _ _) (kq s _ _) F.slot_str_gt F.entry_str_gt (F.args_str_gt_2 _ _) (PySem.gives_str_gt _ _ _ _) (fun e=>nomatch e) hq
 have fin:uz (fun j=>fz ((l1.map (·.1)).getD j gm) ((l2.map (·.1)).getD j gm)) (fun j=>strLt gt ((l1.map (·.1)).getD j gm) ((l2.map (·.1)).getD j gm)) (dU gt (b9 l1).toArray.size (b9 l2).toArray.size) (min (b9 l1).toArray.size (b9 l2).toArray.size) 0=kY fz (strLt gt) gt (l1.map (·.1)) (l2.map (·.1)):=by
  rw [s1,s2, <- yz fz (strLt gt) gt gm,List.length_map,List.length_map]
 rw [<- fin] at hq;cases gt with
 | false=>exact HB (op:=.Lt) ⟨_,hD _ ma,rfl⟩ ⟨_,hD _ mb,rfl⟩ F.slot_list_lt F.entry_list_lt (F.args_list_lt_2 _ _) (IX a b _ _ na nb none none #[] #[] _ _) ⟨hD _ ma,hD _ mb,he,fun j h1 h2 _=>hr j h1 h2,show _/\_ from ⟨(fun e=>nomatch e),hq⟩⟩ (Nat.lt_of_le_of_lt (Nat.le_add_right _ _) hu)
 | true=>exact HB (op:=.Gt) ⟨_,hD _ ma,rfl⟩ ⟨_,hD _ mb,rfl⟩ F.slot_list_gt F.entry_list_gt (F.args_list_gt_2 _ _) (PR a b _ _ na nb none none #[] #[] _ _) ⟨hD _ ma,hD _ mb,he,fun j h1 h2 _=>hr j h1 h2,show _/\_ from ⟨(fun e=>nomatch e),hq⟩⟩ (Nat.lt_of_le_of_lt (Nat.le_add_right _ _) hu)
noncomputable def lP (ss:List Str):Dat:=.list (ss.map .str)
theorem IZ (h0:0 < ls.length) (tX: ∀ss∈ls,∀x∈ss,bA x=true):
  bJ prog w G (n + 2) (.builtin "min") [.dat (.list (ls.map lP))] (.dat (lP (ls.getD (eX (fun i j=>kY fz (strLt false) false (ls.getD i []) (ls.getD j [])) (ls.length - 1)) []))):=.mk fun A E Q Φ D us s a W hv h=>by
 refine RW hv fun _ q1=>lE q1 fun l vs nn ml al=>?_;have oQ:(toString "min" ++toString ".loop" :String)="min.loop":=by decide
 have rz:vs.length=ls.length:=by rw [al.length,List.length_map]
 have fq: ∀i vi,vs[i]? =some vi->eI D vi (lP (ls.getD i []))/\i < ls.length:=fun i vi hi=>by
  have fG:=(List.getElem?_eq_some_iff.mp hi).1;refine bQ (al.get (k:=i) (by rw [List.length_map]; exact rz ▸ fG)) fun v e q=>?_;rw [hi] at e;cases e;rw [List.getElem_map] at q;refine ⟨?_,rz ▸ fG⟩;rw [List.getD_eq_getElem?_getD,List.getElem?_eq_getElem (rz ▸ fG)];exact q
 have mem: ∀i,i < ls.length->ls.getD i []∈ls:=fun i hi=>by
  rw [List.getD_eq_getElem?_getD,List.getElem?_eq_getElem hi]; exact List.getElem_mem hi
 refine NR F.kind_min F.plain_min F.entry_min (F.args_min1 _) ?_;refine (?_:ak _ A.in1 (Builtin.Builtins.bindParams "min" ["key","default"] 0 ⟨[],[]⟩ >>= _) _ _ s);refine ae (cH (show Builtin.Builtins.bindParams "min" ["key","default"] 0 ⟨[],[]⟩=pure [none,none] from rfl) ?_);refine ae (ah ?_);have hl:s.heap.IsList l vs.toArray:=DatIn.isList W ml;refine ae (jN hl ?_);refine ae (bC ?_);rw [oQ];dsimp only;rw [bG];have W2:=(W.drop { cls:=.type "list_iterator",data:=.fields #[.ref l,.int 0 0] }).drop { cls:=.type "list",data:=.seq #[] };have hS:((s.heap.push { cls:=.type "list_iterator",data:=.fields #[.ref l,.int 0 0] }).push { cls:=.type "list",data:=.seq #[] }).get? (s.heap.objs.size + 1)=some { cls:=.type "list",data:=.seq #[] }:=by
  have:=aJ (s.heap.push { cls:=.type "list_iterator",data:=.fields #[.ref l,.int 0 0] }) (o:={ cls:=.type "list",data:=.seq #[] }) rfl;rw [bG] at this;exact this
 have hI:((s.heap.push { cls:=.type "list_iterator",data:=.fields #[.ref l,.int 0 0] }).push { cls:=.type "list",data:=.seq #[] }).get? s.heap.objs.size=some { cls:=.type "list_iterator",data:=.fields #[.ref l,.int 0 0] }:=av _ (aJ _ rfl);have M:uA G Φ D (s.heap.objs.size + 1) s.heap.objs.size l 0 #[] ((s.heap.push { cls:=.type "list_iterator",data:=.fields #[.ref l,.int 0 0] }).push { cls:=.type "list",data:=.seq #[] }):=
  ⟨W2,⟨_,hI,rfl,rfl⟩,⟨_,hI,W.qq (Nat.le_refl _),fun p hp=>Nat.ne_of_lt (W.lt hp)⟩,⟨0,hS,W.qq (Nat.le_succ _),fun p hp=>Nat.ne_of_lt (Nat.lt_succ_of_lt (W.lt hp))⟩⟩
 have rh:s.heap.objs.size + 1≠s.heap.objs.size:=by lia
 have sV:G.objs.size<=s.heap.objs.size + 1:=Nat.le_succ_of_le W.sz;refine ah ⟨bY F.plain_min_loop _,?_⟩;refine bB F.entry_min_loop ?_;rw [aY F.plain_min_loop _];refine (?_:ak _ A.in1 (ku (.ref (s.heap.objs.size + 1)) >>= _) _ _ _);refine ae (dH hS rfl ?_);refine (?_:ak _ A.in1 (tryCatch (gD (.ref s.heap.objs.size)) _ >>= _) _ _ _);have Td:0 < vs.length:=rz.symm ▸ h0;have hv:vs.toArray[0]? =some vs[0]:=by simp [Td]
 refine ae (fW (jO M.it ⟨_,W2.get ml,rfl,nn,rfl⟩ hv fun h' xN CB=>?_));have M1:=M.turn rh sV xN (fun c o hc e=>CB.extBut c o hc e);refine ex M1.ls fun c1 IY=>?_;refine (?_:ak _ A.in1 (pD (s.heap.objs.size + 1) (fun _=> #[vs[0],vs[0]]) >>= _) _ _ _);refine ae ?_;refine fj IY.get rfl ?_;rw [oQ];refine ah ⟨bY F.plain_min_loop _,Gg (s₀:=s) a.handled ml (fun i j=>kY fz (strLt false) false (ls.getD i []) (ls.getD j [])) rh sV (fun i j vi vj s' E' Q' hi hj W' hq=>?_) (fun v s' Lx sm W'=>?_) _ 0 _ vs[0] rfl (Nat.succ_le_of_lt ‹_›) ⟨rfl,rfl⟩ (M1.best rh (bu _ IY.get rfl) (fun c o hc e=>(cA _ _ (fun q=>hc q.symm)).trans e) sV) (by simp [eX,Td])⟩
 ·exact E2 false (by have:=a.units; refine (?_:A.units + 1 + 64 < 9900); exact Nat.lt_of_le_of_lt (Nat.add_le_add_right (Nat.le_trans (Nat.le_add_right _ _) this) 65) (by decide)) (fun p hp=>W'.get hp) (fq i vi hi).1 (fq j vj hj).1 (tX _ (mem i (fq i vi hi).2)) (tX _ (mem j (fq j vj hj).2)) hq
 ·rw [rz] at Lx;exact h v s' D sm W' (fun _ h=>h) (fq _ v Lx).1
theorem I1 (h0:0 < ls.length) (tX: ∀ss∈ls,∀x∈ss,bA x=true):
  bJ prog w G (n + 2) (.builtin "max") [.dat (.list (ls.map lP))] (.dat (lP (ls.getD (eX (fun i j=>kY fz (strLt true) true (ls.getD i []) (ls.getD j [])) (ls.length - 1)) []))):=.mk fun A E Q Φ D us s a W hv h=>by
 refine RW hv fun _ q1=>lE q1 fun l vs nn ml al=>?_;have oQ:(toString "max" ++toString ".loop" :String)="max.loop":=by decide
 have rz:vs.length=ls.length:=by rw [al.length,List.length_map]
 have fq: ∀i vi,vs[i]? =some vi->eI D vi (lP (ls.getD i []))/\i < ls.length:=fun i vi hi=>by
  have fG:=(List.getElem?_eq_some_iff.mp hi).1;refine bQ (al.get (k:=i) (by rw [List.length_map]; exact rz ▸ fG)) fun v e q=>?_;rw [hi] at e;cases e;rw [List.getElem_map] at q;refine ⟨?_,rz ▸ fG⟩;rw [List.getD_eq_getElem?_getD,List.getElem?_eq_getElem (rz ▸ fG)];exact q
 have mem: ∀i,i < ls.length->ls.getD i []∈ls:=fun i hi=>by
  rw [List.getD_eq_getElem?_getD,List.getElem?_eq_getElem hi]; exact List.getElem_mem hi
 refine NR F.kind_max F.plain_max F.entry_max (F.args_max1 _) ?_;refine (?_:ak _ A.in1 (Builtin.Builtins.bindParams "max" ["key","default"] 0 ⟨[],[]⟩ >>= _) _ _ s);refine ae (cH (show Builtin.Builtins.bindParams "max" ["key","default"] 0 ⟨[],[]⟩=pure [none,none] from rfl) ?_);refine ae (ah ?_);have hl:s.heap.IsList l vs.toArray:=DatIn.isList W ml;refine ae (jN hl ?_);refine ae (bC ?_);rw [oQ];dsimp only;rw [bG];have W2:=(W.drop { cls:=.type "list_iterator",data:=.fields #[.ref l,.int 0 0] }).drop { cls:=.type "list",data:=.seq #[] };have hS:((s.heap.push { cls:=.type "list_iterator",data:=.fields #[.ref l,.int 0 0] }).push { cls:=.type "list",data:=.seq #[] }).get? (s.heap.objs.size + 1)=some { cls:=.type "list",data:=.seq #[] }:=by
  have:=aJ (s.heap.push { cls:=.type "list_iterator",data:=.fields #[.ref l,.int 0 0] }) (o:={ cls:=.type "list",data:=.seq #[] }) rfl;rw [bG] at this;exact this
 have hI:((s.heap.push { cls:=.type "list_iterator",data:=.fields #[.ref l,.int 0 0] }).push { cls:=.type "list",data:=.seq #[] }).get? s.heap.objs.size=some { cls:=.type "list_iterator",data:=.fields #[.ref l,.int 0 0] }:=av _ (aJ _ rfl);have M:uA G Φ D (s.heap.objs.size + 1) s.heap.objs.size l 0 #[] ((s.heap.push { cls:=.type "list_iterator",data:=.fields #[.ref l,.int 0 0] }).push { cls:=.type "list",data:=.seq #[] }):=
  ⟨W2,⟨_,hI,rfl,rfl⟩,⟨_,hI,W.qq (Nat.le_refl _),fun p hp=>Nat.ne_of_lt (W.lt hp)⟩,⟨0,hS,W.qq (Nat.le_succ _),fun p hp=>Nat.ne_of_lt (Nat.lt_succ_of_lt (W.lt hp))⟩⟩
 have rh:s.heap.objs.size + 1≠s.heap.objs.size:=by lia
 have sV:G.objs.size<=s.heap.objs.size + 1:=Nat.le_succ_of_le W.sz;refine ah ⟨bY F.plain_max_loop _,?_⟩;refine bB F.entry_max_loop ?_;rw [aY F.plain_max_loop _];refine (?_:ak _ A.in1 (ku (.ref (s.heap.objs.size + 1)) >>= _) _ _ _);refine ae (dH hS rfl ?_);refine (?_:ak _ A.in1 (tryCatch (gD (.ref s.heap.objs.size)) _ >>= _) _ _ _);have Td:0 < vs.length:=rz.symm ▸ h0;have hv:vs.toArray[0]? =some vs[0]:=by simp [Td]
 refine ae (fW (jO M.it ⟨_,W2.get ml,rfl,nn,rfl⟩ hv fun h' xN CB=>?_));have M1:=M.turn rh sV xN (fun c o hc e=>CB.extBut c o hc e);refine ex M1.ls fun c1 IY=>?_;refine (?_:ak _ A.in1 (pD (s.heap.objs.size + 1) (fun _=> #[vs[0],vs[0]]) >>= _) _ _ _);refine ae ?_;refine fj IY.get rfl ?_;rw [oQ];refine ah ⟨bY F.plain_max_loop _,Gh (s₀:=s) a.handled ml (fun i j=>kY fz (strLt true) true (ls.getD i []) (ls.getD j [])) rh sV (fun i j vi vj s' E' Q' hi hj W' hq=>?_) (fun v s' Lx sm W'=>?_) _ 0 _ vs[0] rfl (Nat.succ_le_of_lt ‹_›) ⟨rfl,rfl⟩ (M1.best rh (bu _ IY.get rfl) (fun c o hc e=>(cA _ _ (fun q=>hc q.symm)).trans e) sV) (by simp [eX,Td])⟩
 ·exact E2 true (by have:=a.units; refine (?_:A.units + 1 + 64 < 9900); exact Nat.lt_of_le_of_lt (Nat.add_le_add_right (Nat.le_trans (Nat.le_add_right _ _) this) 65) (by decide)) (fun p hp=>W'.get hp) (fq i vi hi).1 (fq j vj hj).1 (tX _ (mem i (fq i vi hi).2)) (tX _ (mem j (fq j vj hj).2)) hq
 ·rw [rz] at Lx;exact h v s' D sm W' (fun _ h=>h) (fq _ v Lx).1
end
end
noncomputable def Mh (Ie l:Addr) (us:List ai) (i:Nat):Heap->Prop:=fun h=>(∃old,IsEnum h (Ie + 1) Ie i old)/\h.IsListIter Ie l i/\h.IsList l us.toArray
theorem Xs.Mi {xi xc:Str} {pi px tp p1 p2:Pos} {kk:Nat} {x1:Str} {arg:Expr} {b:List Stmt} (K:fM c.env) (hoi:sH c xi) (xO:sH c xc) (he:Ev prog w G n c ρ (.Name x1 p1) (.val (.type "enumerate"))) (ha:Ev prog w G n c ρ arg (.dat (.list ds))) (inv:Nat->fQ) (h0: ∀x d,inv 0 x=some d->ρ x=some d) (o:Out) (k:Nat) (hk:k<=ds.length) (Ic:k=ds.length->o=.next (inv k)) (hb: ∀i d,i < k->ds[i]? =some d->Ex prog w G n c (upd (upd (inv i) xi (.dat (.int (i:Nat)))) xc (.dat d)) b (.next (inv (i + 1)))) (AJ: ∀d,ds[k]? =some d->∃ρb,o=.next ρb/\Ex prog w G n c (upd (upd (inv k) xi (.dat (.int (k:Nat)))) xc (.dat d)) b (.brk ρb)) (uv: ∀x,cO (.Call (.Name x1 p1) [arg] [] p2) c.env x=pure x:=by intro _; rfl) (h2:aC [arg] c.env=(false,eval arg c.env)::aC [] c.env:=by rfl) (h3:((cI p2 (aC [] c.env)).any (·.1))=false:=by rfl) (hc:eval (.Call (.Name x1 p1) [arg] [] p2) c.env=(do eF p2 (<- eval (.Name x1 p1) c.env) [] (cI p2 (aC [arg] c.env)) (eG p2 (bX [] c.env))):=by rfl):
  Xs prog w G n c ρ (.For (.Tuple [.Name xi pi,.Name xc px] kk tp) (.Call (.Name x1 p1) [arg] [] p2) b [] pos) o:=.mk fun A E Q Φ τ s a F hq=>by
 refine FE (kT (he.pX A E _ Φ τ s a F fun s1 m1 F1=>?_) hc) uv;refine cD ((ic.one ha h2).CR A E _ Φ _ s1 p2 a F1.pop fun v1 s2 m2 F2=>?_) h2 h3;refine d8 F2 fun D C m X=>?_; clear F2;have q1:eI D v1 (.list ds):=X.tm (v1,.dat (.list ds)) (.head _);have X2:=X.lq;refine lE q1 fun l us nn ml al=>?_
 ·have VZ:=(X2.nw _ (mL ml)).1;have V0:s2.heap.IsList l us.toArray:=⟨_,VZ,rfl,nn,rfl⟩;have R3:l < s2.heap.objs.size:=az VZ;have hlen:us.toArray.size=ds.length:=by rw [List.size_toArray,al.length]
  refine call_enumerate_list V0 fun h' hE hI hz iY=>?_;refine wpAny_pyIter_enum hE ?_;generalize he:s2.heap.objs.size=Ie at *;have W:=WalksT.enumerate (prog:=prog) (w:=w) a.handled (Ie + 1) Ie l (Nat.succ_ne_self _) (Nat.ne_of_lt (Nat.lt_succ_of_lt R3)) (Nat.ne_of_lt R3) us.toArray;have ge: ∀b∈[Ie + 1,Ie],Ie<=b:=fun b hb=>bU hb (Nat.le_succ _) fun hb=>Nat.le_of_eq (List.mem_singleton.mp hb).symm;have gs:G.objs.size<=Ie:=he ▸ Nat.le_trans X2.fr.above (Nat.le_of_lt X2.fr.ns.lt);have L0:Lp G c Φ D [Ie + 1,Ie] (fun _=>Mh Ie l us 0) (inv 0) τ h':=⟨D,C,m,(X2.keep iY).EK fun x d e=>X2.vr x d (h0 x d e),fun _ h=>h,fun b hb=>
   ⟨fJ.mpr fun o e=>absurd (Nat.lt_of_lt_of_le (az e) (Nat.le_trans gs (ge b hb))) (Nat.lt_irrefl _),fun e=>absurd (Nat.lt_of_lt_of_le (he ▸ X2.fr.ns.lt) (ge b hb)) (e ▸ Nat.lt_irrefl _),fun p hp=>Nat.ne_of_lt (Nat.lt_of_lt_of_le (he ▸ az (X2.nw p hp).1) (ge b hb))⟩,⟨_,hE⟩,hI,V0.at fun o e=>iY _ _ e⟩
  have fK: ∀b∈[Ie + 1,Ie,l],b∈[Ie + 1,Ie]\/∃o,(b,o)∈D:=fun b hb=>bU hb (.inl (.head _)) fun hb=>bU hb (.inl (.tail _ (.head _))) fun hb=>List.mem_singleton.mp hb ▸ .inr ⟨_,ml⟩;have gA: ∀i h,Mh Ie l us i h->∀b∈[Ie + 1,Ie],∃o,h.get? b=some o:=fun i h st b hb=>bU hb (ex st.1 fun _ e=>⟨_,e⟩) fun hb=>List.mem_singleton.mp hb ▸ bQ st.2.1 fun _ e _=>⟨_,e⟩;refine qN (fun j s'=>∃i,i + j=ds.length/\i<=k/\Sm s s'/\Lp G c Φ D [Ie + 1,Ie] (fun _=>Mh Ie l us i) (inv i) τ s'.heap) (fun j s' hI=>?_) ds.length ⟨0,Nat.zero_add _,Nat.zero_le _,(m1.trans m2).trans ⟨rfl,rfl⟩,L0⟩;refine lj hI fun i pJ Lr sm L=>?_; clear hI
  by_cases fG:i < ds.length
  ·refine W.item i s' _ _ (hlen.symm ▸ fG) L.st fun T vals h1 tk hP hT ZE Te Oh=>?_;refine W.go _ _ _ i T _ _ _ Te fun PU V1 LX=>?_;refine N2 ZE fun oT hoT hcT nT ZF=>?_; clear ZE;have WZ:PU.get? T=some oT:=LX T oT (W.apart _ _ _ Te) hoT;refine nV hP fun tt u hu ev=>?_; clear hP;refine bQ (al.get fG) fun u' LQ ZG=>?_;have huu:u'=u:=aH (LQ.symm.trans (List.getElem?_toArray.symm.trans hu));rw [huu] at ZG;rw [ev] at ZF;refine (((L.iX (P':=fun _=>Mh Ie l us (i + 1)) (fun b o hb e=>LX b o hb (Oh b o hb e)) fun _ _=>V1).plus (u:=u) (d:=.dat ds[i]) fun D' hs=>nq hs ZG).plus (u:=.int i tt) (d:=.dat (.int (i:Nat))) fun D' hs=>.int _ _).turn (gA _ _ V1) fK (fun _ _ h1 _ k z=>W.frame _ _ h1 z k) fun Φ' F2 back=>?_;refine pq a.handled (⟨oT,WZ,hcT,nT,ZF⟩:Vi PU T #[.int i tt,u]) rfl rfl fun h3 hx3=>?_;refine vz [(xi,pi),(xc,px)] [.int i tt,u] [.int (i:Nat),ds[i]] (inv i) K (fun t ht=>bU ht hoi fun ht=>List.mem_singleton.mp ht ▸ xO) rfl rfl (F2.keep (h':=h3) fun b o e=>hx3 b o (Nat.ne_of_lt (az e)) e) fun s4 m4 F4=>?_;have N6:Sm s s4:=sm.trans ⟨m4.gens,m4.os⟩;have Ig:ds[i]? =some ds[i]:=List.getElem?_eq_getElem fG
   by_cases hkk:i < k
   ·exact (hb i _ hkk Ig).go A _ _ Φ' τ s4 a F4 fun s5 m5 F5=>⟨j - 1,jS pJ fG,i + 1,jT pJ fG,Nat.succ_le_of_lt ‹_›,N6.trans m5,back F5⟩
   ·obtain rfl:i=k:=aE Lr hkk;refine bQ (AJ _ Ig) fun ρb eo hx=>?_;rw [eo] at hq;exact hx.go A _ _ Φ' τ s4 a F4 fun s5 m5 F5=>hq s5 (N6.trans m5) (back F5).fs
  ·have ei:i=ds.length:=jE pJ fG;have ek:k=ds.length:=Nat.le_antisymm hk (ei ▸ Lr);subst ei;refine W.done s' _ _ (by rw [hlen]; exact L.st) fun h' tk iY=>bz ?_;rw [Ic ek,ek] at hq;exact hq _ (sm.trans ⟨rfl,rfl⟩) (L.iX (P':=fun _ _=>True) iY fun _ _=>trivial).fs
section
open PySem.SeqAt
theorem vX:fD kg "set.__iter__"=some Builtin.«frozenset.__iter__»:=
 Cn (id':="frozenset.__iter__") (by kernel_rfl) rfl (by decide +kernel) (by kernel_rfl)
theorem gr:Slot "set_iterator" "__next__" "set_iterator.__next__":=
 .of (owner:="set_iterator") (n:="__next__") (by rw [aF,ay]; kernel_rfl) (by decide +kernel) (by decide +kernel) (by decide +kernel)
  (by first | exact .inl (by decide +kernel) | exact .inr (by decide +kernel)) (by rw [bK]; kernel_rfl)
theorem mj:fD kg "set_iterator.__next__"=some Builtin.«set_iterator.__next__»:=cX (by kernel_rfl)
theorem qS:Manifest.owners.lookup (K6 ['s', 'e', 't', '_', 'i', 't', 'e', 'r', 'a', 't', 'o', 'r'])=some Manifest.sig_set_iterator:=by kernel_rfl
theorem nF (a:ai):gk "set_iterator.__next__" ⟨[a],[]⟩:=by
 unfold gk; rw [EC (id:="set_iterator.__next__") (n:=['_', '_', 't', 'x', 'e', 'n', '_', '_']) (o:=['r', 'o', 't', 'a', 'r', 'e', 't', 'i', '_', 't', 'e', 's']) (by kernel_rfl) qS]; kernel_rfl
open AutoSeq1 (wpAny_loadPart')
noncomputable def Sa (L:Bool):Co:=.fresh (finger:=0) (moves:=0) (led:=L)
noncomputable def mJ (L:Bool):Co:=(layNew (Sa L) #[] 1 (.bool true)).2.1
theorem Gi {Q:Int->aj->Prop} (h:Q 1 { s with toks:=s.toks + 1 }):ak (aq prog w) A (pyHash (.bool true)) Q E s:=by
 have hT:s.TypeIs (.bool true) "bool":=rfl;unfold pyHash;have hv: [w6 true].any Value.onHeap=false:=rfl;refine ae ?_;rw [cRoomFor,if_neg (by rw [hv]; exact aI)]; refine ah ?_;refine ae (eJ hT F.slot_bool_hash.lookup ?_);refine (?_:ak _ _ (if (some (Value.builtin "int.__hash__") == some Value.none)=true then _ else _) Q E s);rw [if_neg (by rw [beq_builtin_none]; exact aI)];refine ae (eJ hT F.slot_bool_hash.lookup ?_);refine (?_:ak _ _ (callSpecialIfBoundUnlessNone? (.bool true) "__hash__" _ >>= _) Q E s);refine ae (wpAny_callSpecialIfBoundUnlessNone?_slot hT F.slot_bool_hash
  (dZ F.slot_bool_hash hT entry_int_hash
   (show ak _ _ (do ret (<- mkInt (rawHash 1))) _ _ s from wpAny_ret_mkInt ?_) (args_int_hash _)))
 have e:rawHash 1=1:=by decide +kernel
 rw [e];refine (?_:ak _ _ (if (decide (-(2:Int) ^ 63<=1) && decide ((1:Int) < 2 ^ 63))=true then _ else _) Q E _);rw [if_pos (by decide)];exact ah h
theorem Mj {L:Bool} (hL:L= !(w.params.followText "set-order")) (h:Q (.ref s.heap.objs.size) { s with heap:=s.heap.push { cls:=.type "set",data:=.set #[] 0 (Sa L) } }):ak (aq prog w) A (Vq (.type "set")) Q E s:=by
 subst hL;unfold Vq qf;refine ae (ae (d7 (ah ?_)));dsimp only;exact bC h
theorem Gj {L:Bool} {Q:Bool->aj->Prop} (ha:s.heap.get? a=some { cls:=.type "set",data:=.set #[] 0 (Sa L) }) (h: ∀h',cz a s.heap h'->h'.get? a=some { cls:=.type "set",data:=.set #[(1,.bool true)] 1 (mJ L) }->Q true { s with heap:=h' }):ak (aq prog w) A (qg a (.bool true) 1) Q E s:=by
 unfold qg Vr;have hf:(Sa L).fits (#[]:Array (Int × ai)).size=true:=by cases L <;> decide +kernel
 refine aB (ae (gY ha rfl hf ?_));dsimp only;rw [if_pos (by decide +kernel)];unfold setAddByScan;refine ae ?_;refine ae (ji ?_);refine ae (show ak _ _ (pure ScanMet.absent) _ _ _ from ah ?_);dsimp only;have Gl:layNew (Sa L) #[] 1 (.bool true)=(#[(1,.bool true)],mJ L,false,false):=by cases L <;> kernel_rfl
 have dQ:(mJ L).plain=true:=by cases L <;> decide +kernel
 have W8:(mJ L).tooFull=false:=by cases L <;> decide +kernel
 rw [Gl];dsimp only;refine ae (ah ?_);refine ae (ah ?_);simp only [if_true];refine ae (wpAny_storeSet_of ha rfl ?_ (by refine (?_:1<=bF); exact sl (Nat.le_add_left _ _)));rw [W8];simp only [xu,aV,if_false];have hu:=bu (Obj.putSet #[(1,.bool true)] (mJ L)) ha rfl;exact ah (ah (h _ (bH ..) hu))
theorem Gm {L:Bool} {Q:Bool->aj->Prop} (ha:s.heap.get? a=some { cls:=.type "set",data:=.set #[(1,.bool true)] n (mJ L) }) (hu:A.units < zd) (h:Q false s):ak (aq prog w) A (qg a (.bool true) 1) Q E s:=by
 unfold qg Vr;have hf:(mJ L).fits (#[(1,.bool true)]:Array (Int × ai)).size=true:=by cases L <;> decide +kernel
 refine aB (ae (gY ha rfl hf ?_));dsimp only;rw [if_pos (by decide +kernel)];unfold setAddByScan;refine ae ?_;refine ae (ji ?_);refine ae ?_;refine (?_:ak _ _ (setScanFrom a (.bool true) 1 true [(1,.bool true)] 0) _ _ _);unfold setScanFrom setEpoch;rw [if_pos (by decide)];refine ae (ae (gY ha rfl hf (ah ?_)));refine ae (SeqAt.eqAt_reads (.bool true) (.bool true) A s (.bool true) (.bool true) _ _ (RH true) (RH true) rfl rfl hu prog w _ _ ?_);exact ah (ah (ah h))
theorem A6 (ha:s.heap.get? a=some o) (hc:o.cls=.type "set") (h: ∀s1,s1={ s with toks:=s.toks + 1 }->ak (aq prog w) A.in1 (qg a (.bool true) 1) (fun _ s'=>Q .none s') E s1):ak (aq prog w) A (call (.builtin "set.add") [.ref a,.bool true]) Q E s:=by
 have hT:s.TypeIs (.ref a) "set":=⟨o,ha,hc⟩;refine dZ F.slot_set_add hT F.entry_set_add ?_ (F.args_set_add_2 _ _);unfold Builtin.«set.add» Builtin.Frozenset.oneOther;simp only [List.isEmpty_nil,bind_assoc];unfold Builtin.Frozenset.addrOf setAdd;refine ae (ah ?_)
 try dsimp only
 refine ae (ah ?_)
 try dsimp only
 refine ae ?_;refine aB ?_;refine ae (Gi ?_);refine aN (h _ rfl) (fun b s' q=>?_) fun _ _ e=>e;refine (?_:ak _ _ (ret Value.none) _ _ _);exact ah ⟨_,rfl,q⟩
end
section
open AutoSeq1 (wpAny_loadPart')
theorem I3 {L:Bool} (ha:s.heap.get? a=some { cls:=.type "set",data:=.set #[(1,.bool true)] n (mJ L) }) (h:Q (.ref s.heap.objs.size) { s with heap:=s.heap.push { cls:=.type "set_iterator",data:=.fields #[aQ 0,aQ 0,.ref a,aQ 1,aQ n] } }):ak (aq prog w) A (uJ (.ref a)) Q E s:=by
 have hT:s.TypeIs (.ref a) "set":=⟨_,ha,rfl⟩;have hf:(mJ L).fits (#[(1,.bool true)]:Array (Int × ai)).size=true:=by cases L <;> decide +kernel
 have dQ:(mJ L).plain=true:=by cases L <;> decide +kernel
 refine O0 hT F.slot_set_iter (dZ F.slot_set_iter hT vX ?_ (F.args_set_iter_1 _));have st: ∀{B:aM} {E':ai->aj->Prop} {Q:(Array (Int × ai) × Nat × Co)->aj->Prop},Q (#[(1,.bool true)],n,mJ L) s->ak (aq prog w) B (Vs a) Q E' s:=fun hq=>gY ha rfl hf hq;unfold Builtin.«frozenset.__iter__»;unfold setDrawn qf setEpoch;obtain ⟨hp,g,d,tk,os⟩:=s
 wp_walk using st
 refine d7 (ah (ah ?_));dsimp only;split
 ·rename_i hx;exfalso;have hd: ∀(b:Bool) (X:Bool),X=false->(!b && X)=true->False:=by intro b X hX; subst hX; cases b <;> decide
  exact hd _ _ (by cases L <;> decide +kernel) hx
 ·refine ae (ah ?_);refine ae (ae (st (ah ?_)));refine ae (bC (ah ⟨_,rfl,"set_iterator",_,⟨_,aJ _ rfl,rfl⟩,gr.lookup,h⟩))
theorem A7 {L:Bool} {it:Addr} {Q:Option ai->aj->Prop} (hL:L= !(w.params.followText "set-order")) (ha:s.heap.get? a=some { cls:=.type "set",data:=.set #[(1,.bool true)] n (mJ L) }) (hi:s.heap.get? it=some { cls:=.type "set_iterator",data:=.fields #[aQ 0,aQ 0,.ref a,aQ 1,aQ n] }) (hai:a≠it) (h: ∀h' k,cz it s.heap h'->h'.get? it=some { cls:=.type "set_iterator",data:=.fields #[aQ k,aQ 1,.ref a,aQ 1,aQ n] }->(L=true->k=2)->Q (some (.bool true)) { s with heap:=h' }):ak (aq prog w) A (gD (.ref it)) Q E s:=by
 have hT:s.TypeIs (.ref it) "set_iterator":=⟨_,hi,rfl⟩;have hf:(mJ L).fits (#[(1,.bool true)]:Array (Int × ai)).size=true:=by cases L <;> decide +kernel
 have st: ∀{B:aM} {E':ai->aj->Prop} {Q:(Array (Int × ai) × Nat × Co)->aj->Prop},Q (#[(1,.bool true)],n,mJ L) s->ak (aq prog w) B (Vs a) Q E' s:=fun hq=>gY ha rfl hf hq;unfold gD;refine ae (gO (eW (name:=aR "__next__") hT gr
  (dZ gr hT mj ?_ (nF _))))
 unfold Builtin.«set_iterator.__next__»;unfold setEntries setNext;have txt: ∀{B:aM} {s':aj} {E':ai->aj->Prop} {Q:Bool->aj->Prop},Q (!L) s'->ak (aq prog w) B qf Q E' s':=fun hq=>by
  unfold qf;refine ae (d7 (ah ?_));have e:(!L)=w.params.followText "set-order":=by rw [hL,sO]
  exact e ▸ hq
 have walk: ∀{B:aM} {E':ai->aj->Prop} {Q:Array (Int × ai)->aj->Prop},L=false->Q #[(1,.bool true)] s->ak (aq prog w) B (O3 a) Q E' s:=fun hl hq=>by
  unfold O3;refine ae (st ?_);dsimp only;refine ae (txt ?_);rw [hl,if_pos (by decide)];refine ae (d7 (ah ?_));have pick: ∀f:Nat->Nat,l7 f #[((1:Int),w6 true)]= #[(1,.bool true)]:=fun f=>by
   unfold l7 l7.go;simp [Nat.mod_one,l7.go]
  rw [pick];exact hq
 obtain ⟨hp,g,d,tk,os⟩:=s
 wp_walk using st,dK hi
 refine d7 (ah ?_);have e:w.params.followText "set-order"= !L:=by rw [hL,sO]
 refine (?_:ak _ _ (if w.params.followText "set-order"=true then _ else _) _ _ _);rw [e];clear hL e txt;cases L with
 | false=>
  rw [if_pos (by decide)];dsimp only;rw [if_neg (by simp)];refine ae (walk rfl (ah ?_));refine (?_:ak _ _ (pF (cY it) 0 (aQ ((0:Nat):Int)) >>= fun _=>pF (cY it) 1 (aQ (0 + 1)) >>= fun _=>ret (.bool true)) _ _ _);refine ae (eS hi (by simp) fun h1 V2 I4=>?_);refine ae (eS V2 (by simp) fun h2 PV vU=>?_);exact ah ⟨_,rfl,ah (h h2 0 (I4.trans vU) PV (fun e=>nomatch e))⟩
 | true=>
  rw [if_neg (by decide)];rw [if_neg (by decide +kernel)];refine ae (show ak _ _ (pure ()) _ _ _ from ah ?_);have hb:FG (mJ true).place (hU 0)=0:=by decide +kernel
  have hp1:(mJ true).place[0]? =some 1:=by decide +kernel
  rw [hb];dsimp only;rw [hp1];refine ah ?_;refine (?_:ak _ _ (pF (cY it) 0 (aQ ((2:Nat):Int)) >>= fun _=>pF (cY it) 1 (aQ (0 + 1)) >>= fun _=>ret (.bool true)) _ _ _);refine ae (eS hi (by simp) fun h1 V2 I4=>?_);refine ae (eS V2 (by simp) fun h2 PV vU=>?_);exact ah ⟨_,rfl,ah (h h2 2 (I4.trans vU) PV (fun _=>rfl))⟩
theorem Gn {L:Bool} {it:Addr} {k:Int} {Q:Option ai->aj->Prop} (hh:A.handled=none) (hL:L= !(w.params.followText "set-order")) (ha:s.heap.get? a=some { cls:=.type "set",data:=.set #[(1,.bool true)] n (mJ L) }) (hi:s.heap.get? it=some { cls:=.type "set_iterator",data:=.fields #[aQ k,aQ 1,.ref a,aQ 1,aQ n] }) (hk:L=true->k=2) (h: ∀h',gM it s.heap h'->Q none { s with heap:=h' }):ak (aq prog w) A (gD (.ref it)) Q E s:=by
 have hT:s.TypeIs (.ref it) "set_iterator":=⟨_,hi,rfl⟩;have hf:(mJ L).fits (#[(1,.bool true)]:Array (Int × ai)).size=true:=by cases L <;> decide +kernel
 have st: ∀{B:aM} {E':ai->aj->Prop} {Q:(Array (Int × ai) × Nat × Co)->aj->Prop},Q (#[(1,.bool true)],n,mJ L) s->ak (aq prog w) B (Vs a) Q E' s:=fun hq=>gY ha rfl hf hq;unfold gD;refine ae (gO (eW (name:=aR "__next__") hT gr
  (dZ gr hT mj ?_ (nF _))))
 unfold Builtin.«set_iterator.__next__»;unfold setEntries setNext;have txt: ∀{B:aM} {s':aj} {E':ai->aj->Prop} {Q:Bool->aj->Prop},Q (!L) s'->ak (aq prog w) B qf Q E' s':=fun hq=>by
  unfold qf;refine ae (d7 (ah ?_));have e:(!L)=w.params.followText "set-order":=by rw [hL,sO]
  exact e ▸ hq
 have walk: ∀{B:aM} {E':ai->aj->Prop} {Q:Array (Int × ai)->aj->Prop},L=false->Q #[(1,.bool true)] s->ak (aq prog w) B (O3 a) Q E' s:=fun hl hq=>by
  unfold O3;refine ae (st ?_);dsimp only;refine ae (txt ?_);rw [hl,if_pos (by decide)];refine ae (d7 (ah ?_));have pick: ∀f:Nat->Nat,l7 f #[((1:Int),w6 true)]= #[(1,.bool true)]:=fun f=>by
   unfold l7 l7.go;simp [Nat.mod_one,l7.go]
  rw [pick];exact hq
 have stop: ∀{B:aM} {Q':Fin->aj->Prop} {E':ai->aj->Prop},B.handled=none->(∀h' e,gM it s.heap h'->(∃o,h'.get? e=some o/\o.cls=.type "StopIteration")->E' (.ref e) { s with heap:=h' })->
   ak (aq prog w) B (pF (cY it) 2 Value.none >>= fun _=>newExc (.type "StopIteration") [] >>= fun e=>raiseNew e) Q' E' s:=fun hB hE=>by
  refine ae (eS hi (by simp) fun h1 V2 I4=>?_);refine ae ?_;simp only [newExc,newTuple];refine ae (bC ?_ (by size_fits));refine ae (m:=Vt _ _) (cH (a:=Value.none) (by first | rfl | (simp only [Vt]; rfl)) ?_);refine bC ?_ (by size_fits);refine ae (m:=handled) (wpAny_handled ?_);rw [hB];refine ae (ah (wpAny_throw ?_));exact hE _ _ ((I4.extBut.push _).push _) ⟨_,aJ _ rfl,rfl⟩
 have fin: ∀h' e,gM it s.heap h'->(∃o,h'.get? e=some o/\o.cls=.type "StopIteration")->ak (aq prog w) A (do
   let b <- isInstance (.ref e) (.type "StopIteration")
   if b=true then pure none else throw (.ref e)) Q E { s with heap:=h' }:=fun h' e hx he=>by
  refine bQ he fun o ho hc=>?_; clear he;refine ae (RG (T:="StopIteration") (b:=true) ⟨o,ho,hc⟩ Vo ?_);exact ah (h _ hx)
 obtain ⟨hp,g,d,tk,os⟩:=s
 wp_walk using st,dK hi
 refine d7 (ah ?_);have e:w.params.followText "set-order"= !L:=by rw [hL,sO]
 refine (?_:ak _ _ (if w.params.followText "set-order"=true then _ else _) _ _ _);rw [e];clear hL e txt;cases L with
 | false=>
  rw [if_pos (by decide)];dsimp only;rw [if_neg (by simp)];refine ae (walk rfl (ah ?_));exact stop hh fin
 | true=>
  obtain rfl:=hk rfl;rw [if_neg (by decide)];rw [if_neg (by decide +kernel)];refine ae (show ak _ _ (pure ()) _ _ _ from ah ?_);have hb:FG (mJ true).place (hU 2)=1:=by decide +kernel
  rw [hb];refine ah ?_;exact stop hh fin
end
noncomputable def vY (L:Bool) (i:Nat):Obj:=if i=0 then { cls:=.type "set",data:=.set #[] 0 (Sa L) } else { cls:=.type "set",data:=.set #[(1,.bool true)] 1 (mJ L) }
noncomputable def PW (L:Bool) (o:Obj):Sv:=.own (fun D v=>∃a,v=.ref a/\(a,o)∈D) fun D D' v hs ⟨a,e,m⟩=>⟨a,e,hs _ m⟩
theorem Mk (elt target iter:Expr) (scope:iK) (pos:Pos) (it acc:ai) (env:Env):
  Vf (.SetComp elt [⟨target,iter,[],0⟩] scope pos) 0 it acc env=(w7 iter.pos >>= fun _=>gD it >>= fun r=>match r with
   | none=>pure (.done .next)
   | some v=>jf target it v >>= fun _=>sf target env v >>= fun _=>
    (eval elt env >>= fun x=>w7 elt.pos >>= fun _=>call (.builtin "set.add") [acc,x] >>= fun _=>pure ()) >>= fun _=>
     ze (.compLoop (.SetComp elt [⟨target,iter,[],0⟩] scope pos) 0 it acc env)):=by rfl
theorem Dg {target iter:Expr} {it acc:ai} (I:Nat->aj->Prop) (turn: ∀n s,I n s->ak (aq prog w) A (gD it) (cN (aq prog w) A env (fE (aq prog w) A env R) target it (R (.ok .next)) (Pj (aq prog w) A elt "set.add" acc env (fE (aq prog w) A env R) fun s=>∃m,m < n/\I m s)) (fE (aq prog w) A env R) s) (n:Nat) (h:I n s):eO (aq prog w) A (.compLoop (.SetComp elt [⟨target,iter,[],0⟩] scope pos) 0 it acc env) R s:=by
 refine codeAny_loop rfl I (fun n s hI=>?_) n h;refine (?_:ak _ A ((Vf (.SetComp elt [⟨target,iter,[],0⟩] scope pos) 0 it acc env).onRaise (fun x=>do yb x env; Au x)) _ _ s);refine KZ ?_;rw [Mk];refine ae (bO (ae (aN (turn n s hI) (fun r bI cZ=>?_) fun _ _ h'=>h')));cases r with
 | none=>exact ah cZ
 | some v=>
  refine ae (aN cZ (fun _ bI cZ=>?_) fun _ _ h'=>h');refine ae (aN cZ (fun _ cF l9=>?_) fun _ _ h'=>h');exact ae (ae (aN l9 (fun x zo LK=>ae (bO (ae (aN LK (fun _ Pk Ih=>ah (ah ⟨rfl,Ih⟩)) fun _ _ h'=>h')))) fun _ _ h'=>h'))
theorem nX {target iter:Expr} {rest:List Comprehension} {it acc:ai} (h0:eO (aq prog w) A (.compLoop (.SetComp elt (⟨target,iter,ifs,0⟩::rest) scope pos) 0 it acc env) R s) (h:ak (aq prog w) A (uJ it) (fun W9 s'=>eO (aq prog w) A (.compLoop (.SetComp elt (⟨target,iter,ifs,0⟩::rest) scope pos) 0 W9 acc env) R s')
   (notedBy (aq prog w) A env fun x s'=>R (.error x) s') s):
  eO (aq prog w) A (.compStart (.SetComp elt (⟨target,iter,ifs,0⟩::rest) scope pos) 0 it acc env) R s:=by
 refine gJ ?_;refine (?_:ak _ _ ((compStart (.SetComp elt (⟨target,iter,ifs,0⟩::rest) scope pos) 0 it acc env).onRaise (fun x=>do yb x env; w7 theWindowsPlace)) _ _ s);refine wpAny_notedAt ?_;unfold compStart;refine (?_:ak _ _ (ask >>= _) _ _ s);refine ae (d7 (wpAny_ite ?_));split
 ·first
   | exact ae (ah (ah (And.intro rfl h0)))
   | exact ah (And.intro rfl h0)
 ·first
   | exact ae (ji (ae (bO (ae (aN h (fun W9 s' h'=>ah (And.intro rfl h')) fun _ _ x=>x)))))
   | (refine ae (ji ?_); show ak _ _ (w7 iter.pos >>= _) _ _ s; exact ae (bO (ae (aN h (fun W9 s' h'=>ah (And.intro rfl h')) fun _ _ x=>x))))
theorem I5 {L:Bool} (hL:L= !(w.params.followText "set-order")) (ha:s.heap.get? a=some (vY L i)) (hu:A.units + 64 < zd) (h: ∀h' tk,h'.get? a=some (vY L (i + 1))->cz a s.heap h'->Q .none { s with heap:=h',toks:=tk }):ak (aq prog w) A (call (.builtin "set.add") [.ref a,.bool true]) Q E s:=by
 cases i with
 | zero=>
  refine A6 (o:=vY L 0) ha rfl fun s1 e=>?_;subst e;exact Gj (L:=L) ha fun h' hs hg=>h h' _ hg hs
 | succ i=>
  refine A6 (o:=vY L (i + 1)) ha rfl fun s1 e=>?_;subst e;exact Gm (L:=L) (n:=1) ha (by refine (?_:A.units + 1 < zd); exact Nat.lt_of_le_of_lt (Nat.add_le_add_left (by decide) _) hu) (h s.heap _ ha (Su ..))
theorem xP {L:Bool} {iter:Expr} {ds:List Sv} {cF:aj} {St:Nat->Heap->Prop} (a:cQ n A) (K:fM c.env) (kh:oF scope c.env ρ=true) (vp: ∀y∈scope.names,y.2≠ .cell) (yj:scope.kind=.function) (jk: ∀(L':Addr) (Fr:Led) (i:Nat) (d:Sv),ds[i]? =some d->fM (aX scope (eR scope c.env) L' c.env)->(∀y d,gU scope ρ y=some d->got i y=some d)/\
   dm prog w G n ⟨aX scope (eR scope c.env) L' c.env,[],Fr⟩ t d (gU scope ρ) (got i)/\Ev prog w G n ⟨aX scope (eR scope c.env) L' c.env,[],Fr⟩ (got i) elt (.dat (.bool true))) (hL:L= !(w.params.followText "set-order")) (Lo:Lp G c Φ D wr (fun _=>St 0) ρ τ cF.heap) (W:FD prog w A I fp wr ds.length PP St) (fK: ∀b∈fp,b∈wr\/∃o,(b,o)∈D) (gA: ∀i h,St i h->∀b∈wr,∃o,h.get? b=some o) (fq: ∀i u,PP i u->∀d,ds[i]? =some d->bw D u d) (dQ: ∀i h,St i h->gT h I) (SM: ∀acc Ca s' oC,Sm cF s'->s'.heap.get? Ca=some oC->(∃m',s'.heap.Ns Ca m')->(∀q∈Φ.fix,q.1≠Ca)->FS G c ⟨(Ca,oC)::Φ.fix,Φ.floor⟩ ρ ((acc,PW L (vY L ds.length))::τ) s'.heap->RR acc Ca (.ok .next) s'):
  ak (aq prog w) A (Vq (.type "set")) (fun acc jv=>ak (aq prog w) A (mF scope c.env.globals (eR scope c.env) [] c.env.qual none .none (some c.env)) (fun AL zo=>
   eO (aq prog w) A (.compStart (.SetComp elt [⟨t,iter,[],0⟩] scope pos) 0 (.ref I) acc { AL with scope:=relabel scope c.env }) (RR acc AL.locals) zo) E jv) E cF:=by
 refine Mj hL (EM (T:=Pj (aq prog w) A elt "set.add" (.ref cF.heap.objs.size)) (RR:=RR (.ref cF.heap.objs.size)) (OK:=fun i _ o=>o=vY L i) (dS:=PW L (vY L ds.length)) (o0:=vY L 0) a K kh vp yj rfl (fun env R s J=>Dg J) (fun env R s=>nX)
  (fun Ca Λ i d k e=>(jk Ca Λ i d e k).2.1) (fun Ca Λ Φ0 i k hi Nx Ee s3 Φ' F3 back fin Oa=>?_) (fun _ _ _ _ _ z=>z) (fun _=>rfl) (fun D' o z=>⟨_,rfl,z ▸ .head _⟩) Lo W fK gA fq dQ (fun Ca=>SM _ Ca))
 refine xy (jk Ca Λ i _ (List.getElem?_eq_getElem hi) k) fun g0 g1 g3=>g3.go A _ _ Φ' [] s3 a F3 fun v s5 m5 F5=>?_;refine (back F5).El fun D3 C3 m3 Y hs ap z=>bQ z.2 fun o ho q=>?_;have hv:v=.bool true:=jj (Y.tm _ (.head _));subst hv;refine I5 hL (q ▸ ho) a.yg fun h6 ZH SN WG=>fin _ ⟨m5.gens,m5.os⟩ ((Lp.put (P:=fun _ h=>St (i + 1) h) ⟨D3,C3,m3,Y,hs,ap,z.1⟩ Oa fK WG fun D' k z'=>⟨W.frame _ _ _ z' k,_,SN,rfl⟩).names g0 |>.temps nm)
theorem Xs.Ml {py kJ vt:Pos} {kk:Nat} {iter:Expr} {ds:List Sv} (got:Nat->fQ) (K:fM c.env) (hl:sH c y) (tX:oG scope=true) (kh:oF scope c.env ρ=true) (Mn:0 < ds.length) (hi:Ev prog w G n c ρ iter d) (P:bM prog w G n d ds) (hz:ds.length<=bF) (jk: ∀(L':Addr) (Fr:Led) (i:Nat) (d:Sv),ds[i]? =some d->fM (aX scope (eR scope c.env) L' c.env)->(∀y d,gU scope ρ y=some d->got i y=some d)/\
   dm prog w G n ⟨aX scope (eR scope c.env) L' c.env,[],Fr⟩ t d (gU scope ρ) (got i)/\Ev prog w G n ⟨aX scope (eR scope c.env) L' c.env,[],Fr⟩ (got i) elt (.dat (.bool true))) (uv: ∀x,cO iter c.env x=pure x:=by intro _; rfl) (hs:n7 [.Tuple [.Name y py] kk kJ] (.SetComp elt [⟨t,iter,[],0⟩] scope pos) vt.line c.env=pure false:=by rfl) (hw:n8 [.Tuple [.Name y py] kk kJ] (.SetComp elt [⟨t,iter,[],0⟩] scope pos) c.env=pure none:=by rfl):
  Xs prog w G n c ρ (.Assign [.Tuple [.Name y py] kk kJ] (.SetComp elt [⟨t,iter,[],0⟩] scope pos) vt) (.next (upd ρ y (.dat (.bool true)))):=.mk fun A E Q Φ τ s a F hq=>by
 refine xy (mP tX) fun o1 o2 o3=>?_;refine sr ?_ hs hw;have WJ:eval (.SetComp elt [⟨t,iter,[],0⟩] scope pos) c.env=comprehension (.SetComp elt [⟨t,iter,[],0⟩] scope pos) scope c.env (firstIterPos [⟨t,iter,[],0⟩] pos) (Vq (.type "set")) (firstAsync [⟨t,iter,[],0⟩]) (firstIter [⟨t,iter,[],0⟩] c.env):=rfl;rw [WJ];refine nZ (use:=Option.none) rfl uv (lM (zp kh F)) o2 o3 ?_;refine hi.go A E _ Φ τ s a F fun v s1 m1 F1=>F1.iter P a fun I fp wr PP St s2 D m2 L W fK gA fq dQ=>?_;refine xP (L:=!(w.params.followText "set-order")) (RR:=fun acc C=>Vg (aq prog w) A E Option.none _ acc C) a K kh o1 o2 jk rfl L W fK gA fq dQ ?_;rintro acc Ca s' oC sm WH ⟨m',Ii⟩ Po F';refine ⟨m',Ii,fun Il Im=>?_⟩;have F3:=F'.EN F.free Po Im;refine d8 F3 fun D3 C3 m3 X3=>?_; clear F3;refine bQ (X3.tm (acc,PW (!(w.params.followText "set-order")) (vY (!(w.params.followText "set-order")) ds.length)) (.head _): ∃a,acc=.ref a/\_) fun sa e hm=>?_;subst e;have Xa:vY (!(w.params.followText "set-order")) ds.length={ cls:=.type "set",data:=.set #[(1,.bool true)] 1 (mJ (!(w.params.followText "set-order"))) }:=by
  unfold vY; rw [if_neg (Nat.ne_of_gt ‹_›)]
 rw [Xa] at hm;have Tf:Il.get? sa=some _:=(X3.nw _ (mL hm)).1;have F4:FS G c Φ ρ τ Il:=⟨D3,C3,m3,(X3.lq)⟩;refine (?_:ak _ _ (nv (.Tuple [.Name y py] kk kJ) c.env (.ref sa)) _ _ _);rw [PySem.arm_assign_Tuple];refine ae (bO ?_);unfold PySem.unpack;refine ae (aB ?_);refine (?_:ak _ _ (unpackItems (.ref sa) 1 Option.none) _ _ _);unfold PySem.unpackItems;refine ae ?_;unfold notIterableAtAll;refine ae (eJ (T:="set") ⟨_,Tf,rfl⟩ PySem.F.slot_set_iter.lookup ?_);refine ah ?_;simp only [aV,if_false];refine ae (aB (I3 Tf ?_));have yv:sa < Il.objs.size:=az Tf;have hit:(Il.push { cls:=.type "set_iterator",data:=.fields #[aQ 0,aQ 0,.ref sa,aQ 1,aQ ((1:Nat):Int)] }).get? Il.objs.size=some { cls:=.type "set_iterator",data:=.fields #[aQ 0,aQ 0,.ref sa,aQ 1,aQ ((1:Nat):Int)] }:=aJ _ rfl;refine ae (aB ?_);refine (?_:ak _ _ (draw (.ref Il.objs.size) 1) _ _ _);unfold draw;refine ae (A7 (L:=!(w.params.followText "set-order")) (n:=1) rfl (av _ Tf) hit (Nat.ne_of_lt yv) fun h4 k V3 hi4 hk4=>?_);dsimp only;refine ae (aB ?_);refine (?_:ak _ _ (draw (.ref Il.objs.size) 0) _ _ _);unfold draw;refine ah (ah ?_);rw [if_neg (by decide)];refine ae (aB (Gn (L:=!(w.params.followText "set-order")) (n:=1) (k:=k) a.handled rfl (V3.extBut _ _ (Nat.ne_of_lt yv) (av _ Tf)) hi4 hk4 fun h5 he5=>?_));simp only [Option.isSome_none,aV,if_false];refine ah ?_;have F5:FS G c Φ ρ ((.bool true,.dat (.bool true))::τ) h5:=(F4.keep fun b o e=>he5 b o (Nat.ne_of_lt (az e)) (V3.extBut _ _ (Nat.ne_of_lt (az e)) (av _ e))).plus fun D=>.bool _;refine iD (nK (store K F5 hl fun s6 m6 F6=>iL ?_));exact hq s6 ((((m1.trans m2).trans ⟨sm.gens,sm.os⟩).trans ⟨rfl,rfl⟩).trans ⟨m6.gens,m6.os⟩) F6
theorem zH {a b c:List Nat} (h:a < b) (k:b < c):a < c:=List.lt_trans h k
theorem zI {a b:List Nat} (h:a≠b):a < b\/b < a:=by
 refine Or.elim (HD (a < b)) (fun q=>?_) (fun q=>?_)
 ·exact .inl q
 ·right;have:b<=a:=List.not_lt.mp q;refine Or.elim (HD (b < a)) (fun r=>?_) (fun r=>?_)
  ·exact r
  ·exact absurd (List.le_antisymm (List.not_lt.mp r) this) h
noncomputable def sL (x y:Str):Bool:=strLt false x y
theorem Gp (x:Str):sL x x=false:=by unfold sL strLt; simp
theorem I6 {z:Str} (h:sL x y=true) (k:sL y z=true):sL x z=true:=by
 simp only [sL,strLt,aV,if_false,decide_eq_true_iff] at *;exact zH h k
theorem I7 (h:x≠y):sL x y=true\/sL y x=true:=by
 simp only [sL,strLt,aV,if_false,decide_eq_true_iff] at *;refine zI fun e=>h (Ez ?_);exact tQ.mp e
noncomputable def lL (a b:List Str):Bool:=kY fz (strLt false) false a b
theorem rP (x y:Str) (a b:List Str):lL (x::a) (y::b)=if x=y then lL a b else sL x y:=by
 refine (?_:(if fz x y=true then kY fz (strLt false) false a b else strLt false x y)=_);unfold fz
 by_cases h:x=y
 ·rw [if_pos (by simpa using h),if_pos h]; rfl
 ·rw [if_neg (by simpa using h),if_neg h]; rfl
theorem lz (y:Str) (b:List Str):lL [] (y::b)=true:=by
 refine (?_:dU false 0 (y::b).length=true);simp [dU]
theorem Dh (a:List Str):lL a []=false:=by
 cases a with
 | nil=>rfl
 | cons x a=>refine (?_:dU false (x::a).length 0=false); simp [dU]
theorem sW: ∀a:List Str,lL a a=false
 | []=>rfl
 | x::a=>by rw [rP,if_pos rfl,sW a]
theorem vZ: ∀{a b c:List Str},lL a b=true->lL b c=true->lL a c=true
 | a,b,[],h,k=>by rw [Dh] at k; cases k
 | a,[],z::c,h,k=>by rw [Dh] at h; cases h
 | [],y::b,z::c,h,k=>lz z c
 | x::a,y::b,z::c,h,k=>by
  rw [rP] at h k ⊢
  by_cases Tg:x=y
  ·subst Tg;rw [if_pos rfl] at h
   by_cases hxz:x=z
   ·rw [if_pos hxz] at k ⊢; exact vZ h k
   ·rw [if_neg hxz] at k ⊢; exact k
  ·rw [if_neg Tg] at h
   by_cases hyz:y=z
   ·subst hyz; rw [if_neg Tg]; exact h
   ·rw [if_neg hyz] at k;have t:=I6 h k;rw [if_neg (fun e=>by subst e; rw [Gp] at t; cases t)];exact t
theorem uT: ∀a b:List Str,kY fz (strLt true) true a b=lL b a
 | [],[]=>rfl
 | [],y::b=>by rw [Dh]; refine (?_:dU true 0 (y::b).length=false); simp [dU]
 | x::a,[]=>by rw [lz]; refine (?_:dU true (x::a).length 0=true); simp [dU]
 | x::a,y::b=>by
  rw [rP];refine (?_:(if fz x y=true then kY fz (strLt true) true a b else strLt true x y)=_);unfold fz
  by_cases h:x=y
  ·rw [if_pos (by simpa using h),if_pos h.symm]; exact uT a b
  ·rw [if_neg (by simpa using h),if_neg (Ne.symm h)]; rfl
theorem zJ {bt:Nat->Nat->Bool} (hi: ∀i,bt i i=false) (ht: ∀i j k,bt i j=true->bt j k=true->bt i k=true): ∀(k j:Nat),j<=k->bt j (eX bt k)=false/\eX bt k<=k
 | 0,j,h=>by
  obtain rfl:j=0:=by lia
  exact ⟨hi 0,Nat.le_refl _⟩
 | k + 1,j,h=>by
  rw [eX];have ih:=fun j h=>zJ hi ht k j h;cases q:bt (k + 1) (eX bt k) with
  | true=>
   rw [if_pos rfl];refine ⟨?_,Nat.le_refl _⟩
   by_cases hj:j=k + 1
   ·subst hj; exact hi _
   ·cases r:bt j (k + 1) with
    | false=>rfl
    | true=>
     have:=ht _ _ _ r q;rw [(ih j (Nat.le_of_lt_succ (Nat.lt_of_le_of_ne h hj))).1] at this;cases this
  | false=>
   rw [if_neg aI];refine ⟨?_,Nat.le_succ_of_le (ih 0 (Nat.zero_le _)).2⟩
   by_cases hj:j=k + 1
   ·subst hj; exact q
   ·exact (ih j (Nat.le_of_lt_succ (Nat.lt_of_le_of_ne h hj))).1
theorem uU: ∀(p:Nat) (a b:List Str),p<=a.length->p<=b.length->a.take p=b.take p->lL a b=lL (a.drop p) (b.drop p)
 | 0,a,b,_,_,_=>by rw [List.drop_zero,List.drop_zero]
 | p + 1,[],b,h,_,_=>by simp at h
 | p + 1,a,[],_,h,_=>by simp at h
 | p + 1,x::a,y::b,h1,h2,h=>by
  rw [List.take_succ_cons,List.take_succ_cons] at h;refine ea (List.cons.inj h) fun e1 e2=>?_;rw [rP,if_pos e1,List.drop_succ_cons,List.drop_succ_cons];exact uU p a b (by simpa using h1) (by simpa using h2) e2
structure Xb (l0:List Str) (ls:List (List Str)) (p:Nat):Prop where
 le:p<=l0.length
 all: ∀l∈ls,p<=l.length/\l.take p=l0.take p
 stop: ∃l∈ls,l[p]? =none\/l[p]? ≠l0[p]?
theorem Xb.ends {l0:List Str} {p:Nat} (h:Xb l0 ls p) (h0:l0∈ls) {s1 s2:List Str} (m1:s1∈ls) (m2:s2∈ls) (Th: ∀l∈ls,lL l s1=false) (Xc: ∀l∈ls,lL s2 l=false):
  s1.length=p\/∃x y,s1[p]? =some x/\s2[p]? =some y/\x≠y:=by
 refine ea (h.all s1 m1) fun a1 b1=>?_;refine ea (h.all s2 m2) fun a2 b2=>?_
 by_cases hp:s1.length=p
 ·exact .inl hp
 right;have ZI:p < s1.length:=Nat.lt_of_le_of_ne a1 (Ne.symm hp);have g1:s1[p]? =some s1[p]:=List.getElem?_eq_getElem ZI;have d1:s1.drop p=s1[p]::s1.drop (p + 1):=List.drop_eq_getElem_cons ZI;have SK:p < s2.length:=by
  by_cases q:p < s2.length
  ·exact q
  ·exfalso;have:=Th s2 m2;rw [uU p s2 s1 a2 a1 (b2.trans b1.symm),d1,List.drop_of_length_le (Nat.le_of_not_lt ‹_›),lz] at this;cases this
 have g2:s2[p]? =some s2[p]:=List.getElem?_eq_getElem SK;have d2:s2.drop p=s2[p]::s2.drop (p + 1):=List.drop_eq_getElem_cons SK;refine ⟨_,_,g1,g2,fun e=>?_⟩;have PX: ∀l∈ls,l[p]? =some s1[p]:=by
  intro l hl;refine ea (h.all l hl) fun a3 b3=>?_;have n1:=Th l hl;have n2:=Xc l hl;rw [uU p l s1 a3 a1 (b3.trans b1.symm),d1] at n1;rw [uU p s2 l a2 a3 (b2.trans b3.symm),d2] at n2;have ZJ:p < l.length:=by
   by_cases q:p < l.length
   ·exact q
   ·rw [List.drop_of_length_le (Nat.le_of_not_lt ‹_›),lz] at n1; cases n1
  rw [List.drop_eq_getElem_cons ZJ,rP] at n1 n2;rw [List.getElem?_eq_getElem ZJ]
  by_cases q:l[p]=s1[p]
  ·rw [q]
  ·exfalso;rw [if_neg q] at n1;rw [<- e,if_neg (Ne.symm q)] at n2;refine Or.elim (I7 q) (fun r=>?_) (fun r=>?_)
   ·rw [r] at n1; cases n1
   ·rw [r] at n2; cases n2
 refine bQ h.stop fun l hl hs=>?_;refine Or.elim hs (fun hs=>?_) (fun hs=>?_)
 ·rw [PX l hl] at hs; cases hs
 ·exact hs ((PX l hl).trans (PX l0 h0).symm)
section
open PySem.StrLaws
noncomputable def v8 (y:Str):Bool:=((y.length:Int) != 0) && !decide (y=".")
structure Gq (x:Str) (c:List Int):Prop where
 abs:jh x "/"=true
 len:x.length<=1000
 ZK:(Txt.split x "/").length<=1000
 ok: ∀y∈Txt.split x "/",bA y=true/\y.length<=1000
 norm:(Txt.split x "/").filter v8=c.map sn
 small: ∀y∈c,Small y
 PY:c.length<=20
theorem Ex.Ti {b:List Stmt} {uP FP:fQ} (h:Ex prog w G n c ρ b (.brk uP)) (hs: ∀x d,FP x=some d->uP x=some d):Ex prog w G n c ρ b (.brk FP):=
 .mk fun A E Q Φ τ s a F hq=>h.go A E Q Φ τ s a F fun s1 m1 F1=>hq s1 m1 (F1.names hs)
theorem rQ {Oo:fQ} {v:Sv} (hx:Oo x=Option.none) (e:Oo y=some d):upd Oo x v y=some d:=by
 unfold upd
 by_cases q:y=x
 ·subst q; rw [hx] at e; cases e
 ·rw [if_neg q]; exact e
theorem Xs.A8 {px py kJ vt:Pos} {kk:Nat} {iter:Expr} {α:Type} [Inhabited α] (l:List α) (it:α->Sv) (K:fM c.env) (hl:sH c y) (tX:oG scope=true) (kh:oF scope c.env ρ=true) (hx:scope.names.lookup x=some .local) (Mn:0 < l.length) (hi:Ev prog w G n c ρ iter d) (P:bM prog w G n d (l.map it)) (hz:l.length<=1000) (jk: ∀(L':Addr) (Fr:Led) (a:α),a∈l->fM (aX scope (eR scope c.env) L' c.env)->Ev prog w G n ⟨aX scope (eR scope c.env) L' c.env,[],Fr⟩ (upd (gU scope ρ) x (it a)) elt (.dat (.bool true))) (hlx: ∀L',(aX scope (eR scope c.env) L' c.env).kindOf x=some .local:=by intro _; rfl) (uv: ∀x,cO iter c.env x=pure x:=by intro _; rfl) (hs:n7 [.Tuple [.Name y py] kk kJ] (.SetComp elt [⟨.Name x px,iter,[],0⟩] scope pos) vt.line c.env=pure false:=by rfl) (hw:n8 [.Tuple [.Name y py] kk kJ] (.SetComp elt [⟨.Name x px,iter,[],0⟩] scope pos) c.env=pure none:=by rfl):
  Xs prog w G n c ρ (.Assign [.Tuple [.Name y py] kk kJ] (.SetComp elt [⟨.Name x px,iter,[],0⟩] scope pos) vt) (.next (upd ρ y (.dat (.bool true)))):=by
 refine Xs.Ml (ds:=l.map it) (fun i=>upd (gU scope ρ) x (it (l.getD i default))) K hl tX kh (by rw [List.length_map]; exact Mn) hi P (by rw [List.length_map]; exact sl hz) (fun L' Fr i d hd K'=>?_) uv hs hw;refine zk hd fun a ha=>?_;have e:l.getD i default=a:=by rw [List.getD_eq_getElem?_getD,ha]; rfl
 rw [e];exact ⟨oN hx (fun _ _ e=>e),dm.name K' (.inl (hlx L')),jk L' Fr a (List.mem_of_getElem? ha) K'⟩
theorem nG (T:bL mg mb G) (H:Prog mg G) {ps:List (Str × List Int)} (hN: ∀q∈ps,Gq q.1 q.2) (h0:0 < ps.length) (hl:ps.length<=20) {c0:List Int} {p:Nat} (Lv:c0∈ps.map (·.2)) (hp:Cp c0 (ps.map (·.2)) p):
  bJ prog w G (n + 8) (.ref (adr mg "commonpath")) [.dat (.list (ps.map fun q=>.str q.1))] (.dat (.str (path (c0.take p)))):=by
 refine bJ.def (xs:=["paths"]) T H.mS.at' (fun pm cd doc vs h=>?_) rfl rfl (by decide +kernel) ?_
 ·exact sS h fun _=>rfl
 intro Lo cd K;refine fF H.oJ.at' fun o pm cd2 doc V4 hfd _=>?_;refine Ex.cons (Xs.assign K (.inl rfl) (d:=.dat (.tuple (ps.map fun q=>.str q.1))) (Ev.IU (n:=n + 1) (fa:=adr mg "fspath") (ds:=ps.map fun q=>.str q.1) (Ev.bi T H K rfl (by decide +kernel)) (Ev.bi T H K rfl (by decide +kernel)) (Ev.global T K rfl H.oJ.name) (Ev.name K rfl) (fun i d hd=>?_) rfl (by simp; exact lK hl))) ?_
 ·refine zk hd fun q hq=>?_;exact ⟨.str q.1,by rw [List.getElem?_map,hq]; rfl,jJ T H⟩
 refine Ex.cons (Xs.Ay (Et.is (Et.not (Et.plain (Ev.name K rfl) (gR.tuple (by simp; exact lK hl)))) ?_) Ex.nil) ?_
 ·have:((ps.map fun q=>qG q.1).length:Int)≠0:=by simp; exact fun e=>by rw [e] at h0; exact absurd h0 (by decide)
  simpa using this
 refine Ex.cons (Xs.Ay (Et.plain (d:=.dat (.bool false)) (Ev.iV (Ev.bi T H K rfl (by decide +kernel)) (.cons (Ev.gH (ds:=ps.map fun q=>.str q.1) (d:=.str (ps[0]'h0).1) (Ev.name K rfl) Ev.int (by decide) ?_ (by decide)) (.one (Ev.bi T H K rfl (by decide +kernel)))) rF) gR.bool) (Ex.cons (Xs.assign K (.inr ⟨rfl,show _∈ownOf (aG 24) by decide +kernel⟩) (d:=.dat (.str "/")) Ev.str) (Ex.cons (Xs.assign K (.inr ⟨rfl,show _∈ownOf (aG 24) by decide +kernel⟩) (d:=.dat (.str ".")) Ev.str) Ex.nil))) ?_
 ·rw [List.getElem?_map];refine (?_:qI _ ps[0]? =_);rw [List.getElem?_eq_getElem h0]; rfl
 have P1:=bM.tuple (prog:=prog) (w:=w) (G:=G) (n:=n + 7) (ds:=ps.map fun q=>.str q.1);have P1':=P1;rw [List.map_map] at P1;have P2:=bM.list (prog:=prog) (w:=w) (G:=G) (n:=n + 7) (ds:=ps.map fun q=>lP (Txt.split q.1 "/"));rw [List.map_map] at P2;have Tj:((aR "/").length == 0)=false:=by decide +kernel
 refine Ex.stop (Xs.try ?_);refine Ex.cons (Xs.mono (Xs.gX ps _ _ (fun _=>true) (fun q=>lP (Txt.split q.1 "/")) K (.inl rfl) (by decide +kernel) rfl (Ev.name K rfl) P1 (Nat.le_trans ‹_› (by decide)) (.name rfl fun L' Fr q hq K'=>⟨nA.nil,fun _=>Ev.ux F.plainAttrs_str F.slot_str_split F.type_str_split Kind.str (Ev.name K' rfl) (.one (Ev.name K' rfl)) (C1 Tj (hN q hq).len (hN q hq).ZK)⟩)) (by rw [cV]; exact fun _ _ h=>h)) ?_;refine Ex.cons (Xs.try (Ex.cons (Xs.A8 ps (fun q=>.dat (.str q.1)) K (.inl rfl) (by decide +kernel) rfl rfl h0 (Ev.name K rfl) P1 (Nat.le_trans ‹_› (by decide)) (fun L' Fr q hq K'=>?_)) Ex.nil)) ?_
 ·have:=nC (prog:=prog) (w:=w) (G:=G) (n:=n + 7) (x:=q.1) (y:="/");rw [(hN q hq).abs] at this;exact Ev.ux F.plainAttrs_str F.slot_str_startswith F.type_str_startswith Kind.str (Ev.name K' rfl) (.one (Ev.name K' rfl)) this
 have K0:=K;have P3:=bM.list (prog:=prog) (w:=w) (G:=G) (n:=n + 7) (ds:=ps.map fun q=>lP (Txt.split q.1 "/"));rw [List.map_map] at P3;obtain ⟨ls,hls⟩: ∃ls,ls=ps.map fun q=>q.2.map sn:=⟨_,rfl⟩;have lsl:ls.length=ps.length:=by rw [hls,List.length_map]
 refine Ex.cons (Xs.mono (Xs.gX ps _ _ (fun _=>true) (fun q=>lP (q.2.map sn)) K (.inl rfl) (by decide +kernel) rfl (Ev.name K rfl) P3 (Nat.le_trans ‹_› (by decide)) (.name rfl fun L' Fr q hq K'=>⟨nA.nil,fun _=>?_⟩)) (FP:=upd (upd (upd (fun _=>none) "sep" (.dat (.str "/"))) "isabs" (.dat (.bool true))) "split_paths" (.dat (.list (ls.map lP)))) ?_) ?_
 ·have N:=hN q hq;have P4:=bM.list (prog:=prog) (w:=w) (G:=G) (n:=n + 7) (ds:=(Txt.split q.1 "/").map .str);rw [List.map_map] at P4;refine Ev.is (Ev.gX (Txt.split q.1 "/") _ _ v8 .str K' (by decide +kernel) rfl (Ev.name K' rfl) P4 N.ZK (.name rfl fun L2 ZL y hy K2=>⟨nA.one (Et.and (Et.plain (Ev.name K2 rfl) (gR.str (N.ok y hy).2)) fun _=>Et.cmp (Ev.name K2 rfl) (Ev.name K2 rfl) (lu (d:=.str y) (e:=.str ".") (b:=decide (y=".")) (N.ok y hy).1 (by decide +kernel) (by rw [decide_eq_true_iff]; exact ⟨fun e=>by rw [e],fun e=>gF e⟩)) gR.bool),fun _=>Ev.name K2 rfl⟩)) ?_;rw [N.norm]
  rfl
 ·rw [cV,hls,List.map_map];exact aP (aP (aP dB rfl) rfl) rfl
 have PZ:0 < ls.length:=lsl.symm ▸ h0;have P5: ∀q∈ps,∀y∈q.2,Small y:=fun q hq=>(hN q hq).small;have Mp: ∀ss∈ls,∀x∈ss,bA x=true:=fun ss ZM x hx=>by
  rw [hls] at ZM;refine bQ (List.mem_map.mp ZM) ?_; rintro q hq rfl;refine l8 hx fun y hy=>?_;exact vG (P5 q hq y hy)
 have getm: ∀j,j<=ls.length - 1->ls.getD j []∈ls:=fun j hj=>by
  rw [List.getD_eq_getElem?_getD,List.getElem?_eq_getElem (Nat.lt_of_le_of_lt hj (Nat.sub_lt PZ Nat.one_pos))];exact List.getElem_mem _
 have ZN: ∀l∈ls,∃j,j<=ls.length - 1/\ls.getD j []=l:=fun l hl=>by
  obtain ⟨j,hj,e⟩:=List.getElem_of_mem hl;exact ⟨j,Nat.le_sub_one_of_lt hj,by rw [List.getD_eq_getElem?_getD,List.getElem?_eq_getElem hj]; exact e⟩
 have b1:=fun j hj=>zJ (bt:=fun i j=>kY fz (strLt false) false (ls.getD i []) (ls.getD j [])) (fun i=>sW _) (fun i j k=>vZ) (ls.length - 1) j hj;have b2:=fun j hj=>zJ (bt:=fun i j=>kY fz (strLt true) true (ls.getD i []) (ls.getD j [])) (fun i=>by rw [uT]; exact sW _) (fun i j k h k'=>by rw [uT] at *; exact vZ k' h) (ls.length - 1) j hj;have t1:=IZ (prog:=prog) (w:=w) (G:=G) (n:=n + 5) PZ Mp;have t2:=I1 (prog:=prog) (w:=w) (G:=G) (n:=n + 5) PZ Mp;obtain ⟨j1,hj1⟩: ∃j1,j1=eX (fun i j=>kY fz (strLt false) false (ls.getD i []) (ls.getD j [])) (ls.length - 1):=⟨_,rfl⟩;obtain ⟨j2,RZ⟩: ∃j2,j2=eX (fun i j=>kY fz (strLt true) true (ls.getD i []) (ls.getD j [])) (ls.length - 1):=⟨_,rfl⟩;rw [<- hj1] at t1 b1;rw [<- RZ] at t2 b2;obtain ⟨s1,I4⟩: ∃s1,s1=ls.getD j1 []:=⟨_,rfl⟩;obtain ⟨s2,vU⟩: ∃s2,s2=ls.getD j2 []:=⟨_,rfl⟩;have m1:s1∈ls:=by rw [I4]; exact getm _ (b1 0 (Nat.zero_le _)).2
 have m2:s2∈ls:=by rw [vU]; exact getm _ (b2 0 (Nat.zero_le _)).2
 have Xd: ∀l∈ls,lL l s1=false:=fun l hl=>by
  refine bQ (ZN l hl) ?_; rintro j hj rfl;rw [I4]; exact (b1 j hj).1
 have max2: ∀l∈ls,lL s2 l=false:=fun l hl=>by
  refine bQ (ZN l hl) ?_; rintro j hj rfl;have:=(b2 j hj).1;rw [uT] at this;rw [vU]; exact this
 rw [<- I4] at t1;rw [<- vU] at t2;have Sb: ∀y∈c0,Small y:=by
  refine bQ (List.mem_map.mp Lv) fun q hq e=>?_;rw [<- e]; exact P5 q hq
 have cps:Xb (c0.map sn) ls p:=by
  constructor
  ·rw [List.length_map]; exact hp.le
  ·intro l hl;rw [hls] at hl;refine l8 hl fun q hq=>?_;refine ea (hp.all q.2 (List.mem_map_of_mem hq)) fun a b=>?_;exact ⟨by rw [List.length_map]; exact a,by rw [<- List.map_take, <- List.map_take,b]⟩
  ·refine bQ hp.stop fun c hc e=>?_;refine bQ (List.mem_map.mp hc) ?_; rintro q hq rfl;refine ⟨q.2.map sn,by rw [hls]; exact List.mem_map_of_mem hq,?_⟩;rw [List.getElem?_map,List.getElem?_map];refine Or.elim e (fun e=>?_) (fun e=>?_)
   ·left; rw [e]; rfl
   ·cases g:q.2[p]? with
    | none=>left; rfl
    | some y=>
     right;rw [g] at e;cases g0:c0[p]? with
     | none=>simp
     | some y0=>
      rw [g0] at e;intro e2;refine e (congrArg some (vF (P5 q hq y (List.mem_of_getElem? g)) (Sb y0 (List.mem_of_getElem? g0)) (aH e2)))
 have Xe:c0.map sn∈ls:=by
  rw [hls];refine bQ (List.mem_map.mp Lv) fun q hq e=>?_;exact List.mem_map.mpr ⟨q,hq,by rw [e]⟩
 have ends:=cps.ends Xe m1 m2 Xd max2;refine ea (cps.all s1 m1) fun sS Xf=>?_;refine ea (cps.all s2 m2) fun ur tk2=>?_;have I8:s1.length<=20:=by
  rw [hls] at m1;refine bQ (List.mem_map.mp m1) fun q hq e=>?_;rw [<- e,List.length_map]; exact (hN q hq).PY
 have ZO:s2.length<=20:=by
  rw [hls] at m2;refine bQ (List.mem_map.mp m2) fun q hq e=>?_;rw [<- e,List.length_map]; exact (hN q hq).PY
 have same: ∀i,i < p->s1[i]? =s2[i]? :=fun i hi=>by
  have e:=Xf.trans tk2.symm;have e2:=congrArg (fun l=>l[i]?) e;simp only [List.getElem?_take,if_pos hi] at e2;exact e2
 have Tn: ∀x∈s1,bA x=true:=Mp s1 m1;have Xg: ∀x∈s2,bA x=true:=Mp s2 m2;refine Ex.cons (Xs.assign K (.inl rfl) (d:=.dat (lP s1)) (Ev.iV (Ev.bi T H K rfl (by decide +kernel)) (.one (Ev.name K rfl)) t1)) ?_;refine Ex.cons (Xs.assign K (.inl rfl) (d:=.dat (lP s2)) (Ev.iV (Ev.bi T H K rfl (by decide +kernel)) (.one (Ev.name K rfl)) t2)) ?_;refine Ex.cons (Xs.assign K (.inl rfl) (d:=.dat (lP s1)) (Ev.name K rfl)) ?_;obtain ⟨ρb,hρb⟩: ∃ρb:fQ,ρb=upd (upd (upd (upd (fun _=>none) "sep" (.dat (.str "/"))) "isabs" (.dat (.bool true))) "s1" (.dat (lP s1))) "s2" (.dat (lP s2)):=⟨_,rfl⟩;have ns1:ρb "s1"=some (.dat (lP s1)):=by rw [hρb]; rfl
 have ZP:ρb "s2"=some (.dat (lP s2)):=by rw [hρb]; rfl
 have To:ρb "sep"=some (.dat (.str "/")):=by rw [hρb]; rfl
 have Xh:ρb "isabs"=some (.dat (.bool true)):=by rw [hρb]; rfl
 refine Ex.cons (Xs.Mi (ds:=s1.map .str) K (.inl rfl) (.inl rfl) (Ev.bi T H K rfl (by decide +kernel)) (Ev.name K rfl) (fun _=>upd ρb "common" (.dat (lP s1))) ?_ (.next (upd ρb "common" (.dat (lP (s1.take p))))) p (by rw [List.length_map]; exact sS) ?_ ?_ ?_) ?_
 ·rw [hρb];exact aP (aP (aP (aP (aP dB rfl) rfl) rfl) rfl) rfl
 ·intro e;rw [List.length_map] at e;rw [List.take_of_length_le (by lia)]
 ·intro i d hi hd;refine zk hd fun x hx=>?_;have Oc:=(same i hi).symm.trans hx;refine Ex.mono (Ex.cons (Xs.Ay (Et.cmp (Ev.name K rfl) (Ev.item (ds:=s2.map .str) (d:=.str x) (Ev.name K ?_) (Ev.name K rfl) (aS _) ?_ ?_) (lu (d:=.str x) (e:=.str x) (b:=true) (Tn x (List.mem_of_getElem? hx)) (Tn x (List.mem_of_getElem? hx)) (by simp)) gR.bool) Ex.nil) Ex.nil) ?_
  ·exact ZP
  ·rw [cj,List.getElem?_map,Oc]; rfl
  ·exact pW (Nat.le_trans (Nat.le_of_lt hi) (Nat.le_trans sS (lK I8)))
  ·intro y d e;exact rQ (by rw [hρb]; rfl) (rQ (by rw [hρb]; rfl) e)
 ·intro d hd;refine zk hd fun x hx=>?_;rcases ends with e | ⟨x',y',e1,e2,e3⟩
  ·rw [List.getElem?_eq_none (Nat.le_of_eq ‹_›)] at hx; cases hx
  rw [e1] at hx;obtain rfl:=aH hx;refine ⟨_,rfl,?_⟩;refine Ex.Ti (Ex.brk (Xs.RX (Et.cmp (Ev.name K rfl) (Ev.item (ds:=s2.map .str) (d:=.str y') (Ev.name K ?_) (Ev.name K rfl) (aS _) ?_ ?_) (lu (d:=.str x') (e:=.str y') (b:=false) (Tn x' (List.mem_of_getElem? e1)) (Xg y' (List.mem_of_getElem? e2)) ⟨(fun h=>by cases h),(fun h=>absurd (gF h) e3)⟩) gR.bool)
   (Ex.cons (Xs.assign K (.inl rfl) (d:=.dat (lP (s1.take p))) (Ev.is (Ev.slice (ds:=s1.map .str) (Ev.name K ?_) .none (.some (Ev.name K rfl)) (by rw [List.length_map]; exact lK I8)) ?_)) (Ex.brk Xs.brk)))) ?_
  ·exact ZP
  ·rw [cj,List.getElem?_map,e2]; rfl
  ·exact pW (Nat.le_trans sS (lK I8))
  ·exact ns1
  ·rw [rL, <- List.map_take]; rfl
  ·intro y d e
   by_cases q:y="common"
   ·subst q; exact e
   ·have e':ρb y=some d:=by
     unfold upd at e;rw [if_neg q] at e;exact e
    unfold upd;rw [if_neg q];have k1:y≠ "c":=fun h=>by subst h; rw [hρb] at e'; cases e'
    have k2:y≠ "i":=fun h=>by subst h; rw [hρb] at e'; cases e'
    rw [if_neg k1,if_neg k2,if_neg q];exact e'
 ·have ZQ: ∀y∈c0.take p,Small y:=fun y hy=>Sb y (List.mem_of_mem_take hy);have e12:s1.take p=(c0.take p).map sn:=by rw [Xf,List.map_take]
  refine Ex.cons (Xs.assign K (.inl rfl) (d:=.dat (.str "/")) (Ev.SW (b:=true) (Et.plain (d:=.dat (.bool true)) (Ev.name K ?_) gR.bool) (fun _=>Ev.name K ?_) (fun h=>by cases h))) ?_
  ·exact Xh
  ·exact To
  have c0l:c0.length<=20:=by
   refine bQ (List.mem_map.mp Lv) fun q hq e=>?_;rw [<- e]; exact (hN q hq).PY
  have tl:(c0.take p).length<=20:=by rw [List.length_take]; exact Nat.le_trans (Nat.min_le_right _ _) c0l
  have tj:=qR (prog:=prog) (w:=w) (G:=G) (n:=n + 7) (x:="/") (ss:=(c0.take p).map sn) (by decide +kernel) (fun y hy=>by
   refine l8 hy fun z hz=>?_;rw [i5,ef];have:=(j7 (ZQ z hz)).2.2.2;exact lK this) (by rw [List.length_map]; exact lK tl)
  refine Ex.stop (Xs.ret (Ev.is (Ev.bin (d1:=.dat (.str "/")) (d2:=.dat (.str (cg "/" ((c0.take p).map sn)))) (Ev.name K rfl) (Ev.ux (d0:=.dat (.str "/")) F.plainAttrs_str F.slot_str_join F.type_str_join Kind.str (Ev.name K (d:=.dat (.str "/")) ?_) (.one (Ev.name K rfl)) ?_) (pL ?_)) ?_))
  ·exact To
  ·rw [<- e12] at tj ⊢; exact tj
  ·have:=vO ZQ tl;have:("/" :Str).length=1:=by decide +kernel
   exact lK (Nat.add_le_add (Nat.le_of_eq this) ‹_<=100›)
  ·rw [iG]
end
section
open PySem.StrLaws
noncomputable def A9 (y:Str):Prop:=47∉y.cps.toList
theorem E3 {l:List Nat} (h:47∉l) (r:List Nat) (hr:r=[]\/r.head? =some 47):(l++r).takeWhile (fun z=>decide (z≠47))=l:=by
 induction l with
 | nil=>
  rcases hr with rfl | hr
  ·rfl
  ·cases r with
   | nil=>rfl
   | cons a r=>
    have:a=47:=aH hr;subst this
    rfl
 | cons a l ih=>
  have ha:a≠47:=fun e=>h (by rw [e]; exact .head _);refine (?_:List.takeWhile _ (a::(l++r))=_);rw [List.takeWhile_cons,if_pos (by simpa using ha),ih (fun h'=>h (.tail _ h'))]
noncomputable def Ba:List Str->List Nat
 | []=>[]
 | y::r=>47::(cg (st [47]) (y::r)).cps.toList
theorem join_list (x:Str) (r:List Str):(cg (st [47]) (x::r)).cps.toList=x.cps.toList++Ba r:=by
 cases r with
 | nil=>simp [cg,Ba]
 | cons y r=>
  have:cg (st [47]) (x::y::r)=st (x.cps.toList++47::(cg (st [47]) (y::r)).cps.toList):=by
   refine (?_:x++st [47]++cg (st [47]) (y::r)=_)
   conv=>lhs; rw [oM x,oM (cg (st [47]) (y::r))]
   rw [kK,kK]; congr 1; simp
  rw [this,gV]
  rfl
theorem wc (r:List Str):Ba r=[]\/(Ba r).head? =some 47:=by
 cases r with
 | nil=>exact .inl rfl
 | cons y r=>exact .inr rfl
theorem Bb: ∀{ps qs:List Str},ps≠ []->qs≠ []->(∀y∈ps,A9 y)->(∀y∈qs,A9 y)->cg (st [47]) ps=cg (st [47]) qs->ps=qs
 | [],_,h,_,_,_,_=>absurd rfl h
 | _,[],_,h,_,_,_=>absurd rfl h
 | x::ps,y::qs,_,_,hp,hq,h=>by
  have h:=congrArg (fun s:Str=>s.cps.toList) h;simp only [join_list] at h;have e:=congrArg (List.takeWhile fun z=>decide (z≠47)) h;rw [E3 (hp x (.head _)) _ (wc ps),E3 (hq y (.head _)) _ (wc qs)] at e;have S7:x=y:=by rw [oM x,oM y,e]
  subst S7;have h2:=List.append_cancel_left h;cases ps with
  | nil=>
   cases qs with
   | nil=>rfl
   | cons b qs=>cases h2
  | cons a ps=>
   cases qs with
   | nil=>cases h2
   | cons b qs=>
    have h3:=(List.cons.inj h2).2;rw [Bb (List.cons_ne_nil _ _) (List.cons_ne_nil _ _) (fun z hz=>hp z (.tail _ hz)) (fun z hz=>hq z (.tail _ hz)) (by rw [oM (cg (st [47]) (a::ps)),oM (cg (st [47]) (b::qs)),h3])]
theorem I9 {ps:List Str} (h0:ps≠ []) (hf: ∀y∈ps,A9 y) (hx:cg (st [47]) ps=x):Txt.split x "/"=ps:=by
 rw [fu];refine Bb ?_ h0 (fun y hy=>split_free x 47 y hy) hf ?_
 ·intro e;have:=split_pos x (st [47]);rw [e] at this;exact absurd this (by decide)
 ·rw [join_split,hx]
theorem Mq {y:Int} (h:Small y):A9 (sn y):=(j7 h).2.1
theorem Mr {y:Int} (h:Small y):v8 (sn y)=true:=by
 have:=j7 h;unfold v8;rw [H6];constructor
 ·rw [i5,ef];have:(dg y).length≠0:=fun e=>this.1 (List.eq_nil_of_length_eq_zero e)
  simpa using this
 ·simp only [sM,decide_eq_false_iff_not];intro e;have e2:dg y=[46]:=by
   unfold dg; rw [e]; decide +kernel
  exact this.2.2.1 (by rw [e2]; exact .head _)
theorem zK {c:List Int} {u:List Str} (hc: ∀y∈c,Small y) (hl:c.length<=12) (hu: ∀y∈u,A9 y/\v8 y=false/\bA y=true/\y.length<=10) (hx:cg (st [47]) (("" :Str)::(u++c.map sn))=x) (hul:u.length<=10) (EP:u++c.map sn≠ []) (hxl:x.length<=1000):Gq x c:=by
 have sp:Txt.split x "/"=("" :Str)::(u++c.map sn):=I9 (List.cons_ne_nil _ _) (fun y hy=>by
  refine bU hy ?_ (fun hy=>?_)
  ·unfold A9; decide +kernel
  refine cE hy (fun hy=>?_) (fun hy=>?_)
  ·exact (hu y hy).1
  ·refine l8 hy fun z hz=>?_;exact Mq (hc z hz)) hx
 have snl: ∀y∈c,(sn y).length<=3:=fun y hy=>by rw [i5,ef]; exact (j7 (hc y hy)).2.2.2
 refine ⟨?_,hxl,?_,?_,?_,hc,Nat.le_trans ‹_› (by decide)⟩
 ·have e:x.cps.toList=([]:List Nat)++Ba (u++c.map sn):=by
   rw [<- hx,join_list]; rfl
  rw [oM x,fu,rJ,e];generalize u++c.map sn=l at *;cases l with
  | nil=>exact absurd rfl EP
  | cons y l=>rfl
 ·rw [sp]; simp; exact lK (Nat.add_le_add hul hl)
 ·rw [sp];intro y hy;refine bU hy ?_ (fun hy=>?_)
  ·exact ⟨by decide +kernel,by decide +kernel⟩
  refine cE hy (fun hy=>?_) (fun hy=>?_)
  ·exact ⟨(hu y hy).2.2.1,by have:=(hu y hy).2.2.2; exact lK this⟩
  ·refine l8 hy fun z hz=>?_;exact ⟨vG (hc z hz),by have:=snl z hz; exact lK this⟩
 ·rw [sp,List.filter_cons,if_neg (by decide +kernel),List.filter_append,List.filter_eq_nil_iff.mpr (fun y hy=>by rw [(hu y hy).2.1]; decide),List.nil_append,List.filter_eq_self];intro y hy;refine l8 hy fun z hz=>?_;exact Mr (hc z hz)
theorem Ms {c:List Int} (h0:c≠ []):cg (st [47]) (("" :Str)::c.map sn)=path c:=by
 rw [<- iG,fu];cases c with
 | nil=>exact absurd rfl h0
 | cons x c=>
  refine (?_:("" :Str)++st [47]++cg (st [47]) ((x::c).map sn)=_)
  congr 1
theorem sX {c:List Int} (hc: ∀y∈c,Small y) (hl:c.length<=12) (h0:c≠ []):Gq (path c) c:=
 zK (u:=[]) hc hl (fun y hy=>by cases hy) (Ms h0) (by decide) (by simpa using h0) (by have:=jK hc (Nat.le_trans ‹_› (by decide)); exact lK this)
theorem Ja {c:List Int} (hc: ∀y∈c,Small y) (hl:c.length<=12) (h0:c≠ []):Gq ("/." ++path c) c:=
 zK (u:=["."]) hc hl (fun y hy=>by
  refine bU hy ?_ (fun hy=>?_)
  ·unfold A9; exact ⟨by decide +kernel,by decide +kernel,by decide +kernel,by decide +kernel⟩
  ·cases hy) (by
  cases c with
  | nil=>exact absurd rfl h0
  | cons x c=>
   refine (?_:("" :Str)++st [47]++("." ++st [47]++cg (st [47]) ((x::c).map sn))=_);rw [<- iG,fu];rw [oM (cg (st [47]) ((x::c).map sn)),show ("" :Str)=st [] by decide +kernel,show ("." :Str)=st [46] by decide +kernel,show ("/." :Str)=st [47,46] by decide +kernel];simp only [kK]
   rfl) (by decide) (by simp) (by
  have:=jK hc (Nat.le_trans ‹_› (by decide));rw [tS];have:("/." :Str).length=2:=by decide +kernel
  exact lK (Nat.add_le_add (Nat.le_of_eq this) ‹_<=100›))
theorem Jb {c:List Int} (hc: ∀y∈c,Small y) (hl:c.length<=12) (h0:c≠ []):Gq ("/" ++path c) c:=
 zK (u:=[""]) hc hl (fun y hy=>by
  refine bU hy ?_ (fun hy=>?_)
  ·unfold A9; exact ⟨by decide +kernel,by decide +kernel,by decide +kernel,by decide +kernel⟩
  ·cases hy) (by
  cases c with
  | nil=>exact absurd rfl h0
  | cons x c=>
   refine (?_:("" :Str)++st [47]++("" ++st [47]++cg (st [47]) ((x::c).map sn))=_);rw [<- iG,fu];rw [oM (cg (st [47]) ((x::c).map sn)),show ("" :Str)=st [] by decide +kernel];simp only [kK]
   rfl) (by decide) (by simp) (by
  have:=jK hc (Nat.le_trans ‹_› (by decide));rw [tS];have:("/" :Str).length=1:=by decide +kernel
  exact lK (Nat.add_le_add (Nat.le_of_eq this) ‹_<=100›))
noncomputable def ow:List Int->List Int->Nat
 | x::a,y::b=>if x=y then ow a b + 1 else 0
 | _,_=>0
noncomputable def lQ:List Int->List Int->Int
 | [],[]=>0
 | [],_::_=> -1
 | _::_,[]=>1
 | x::a,y::b=>if x=y then lQ a b else y - x
theorem Bc (a b:List Int):ow a b<=a.length/\ow a b<=b.length/\b.take (ow a b)=a.take (ow a b)/\(b[ow a b]? =none\/a[ow a b]? =none\/b[ow a b]? ≠a[ow a b]?):=by
 refine l2 a b ⟨Nat.le_refl _,Nat.le_refl _,rfl,.inl rfl⟩ (fun y b=>⟨Nat.le_refl _,Nat.zero_le _,rfl,.inr (.inl rfl)⟩) (fun x a=>⟨Nat.zero_le _,Nat.le_refl _,rfl,.inl rfl⟩) fun x a y b ih=>?_
 ·
  unfold ow
  by_cases h:x=y
  ·subst h;refine ve ih fun h1 h2 h3 h4=>?_;rw [if_pos rfl];refine ⟨by simp; exact h1,by simp; exact h2,by rw [List.take_succ_cons,List.take_succ_cons,h3],?_⟩
   simpa using h4
  ·rw [if_neg h];refine ⟨Nat.zero_le _,Nat.zero_le _,rfl,.inr (.inr ?_)⟩
   simpa using Ne.symm h
theorem P6 (a b:List Int):Cp a [a,b] (ow a b):=by
 refine ve (Bc a b) fun h1 h2 h3 h4=>?_;refine ⟨h1,fun c hc=>?_,?_⟩
 ·refine bU hc ?_ (fun hc=>?_)
  ·exact ⟨h1,rfl⟩
  ·obtain rfl:=List.mem_singleton.mp hc;exact ⟨h2,h3⟩
 ·rcases h4 with h | h | h
  ·exact ⟨b,.tail _ (.head _),.inl h⟩
  ·exact ⟨a,.head _,.inl h⟩
  ·exact ⟨b,.tail _ (.head _),.inr h⟩
theorem Gr (a b:List Int):((ow a b=a.length\/ow a b=b.length)/\lQ a b=(if ow a b=b.length then 1 else 0) - (if ow a b=a.length then 1 else 0))\/
  ∃(ha:ow a b < a.length) (hb:ow a b < b.length),lQ a b=b[ow a b] - a[ow a b]:=by
 refine l2 a b (.inl ⟨.inl rfl,rfl⟩) (fun y b=>.inl ⟨.inl rfl,by simp [ow,lQ]⟩) (fun x a=>.inl ⟨.inr rfl,by simp [ow,lQ]⟩) fun x a y b ih=>?_
 ·
  by_cases h:x=y
  ·subst h;have e1:ow (x::a) (x::b)=ow a b + 1:=by rw [ow,if_pos rfl]
   have e2:lQ (x::a) (x::b)=lQ a b:=by rw [lQ,if_pos rfl]
   simp only [e1,e2,List.length_cons,List.getElem_cons_succ];rcases ih with ⟨h1,h2⟩ | ⟨ha,hb,h1⟩
   ·left;refine ⟨by lia,?_⟩;rw [h2];simp
   ·right;exact ⟨Nat.succ_lt_succ ‹_›,Nat.succ_lt_succ ‹_›,h1⟩
  ·right;have e1:ow (x::a) (y::b)=0:=by rw [ow,if_neg h]
   have e2:lQ (x::a) (y::b)=y - x:=by rw [lQ,if_neg h]
   simp only [e1,e2];exact ⟨by simp,by simp,rfl⟩
end
section
open PySem.StrLaws
theorem Mt {a b:Bool}:ny prog w G n (mE .Sub) (.dat (.bool a)) (.dat (.bool b)) (.dat (.int (b2i a - b2i b))):=.dat fun A E Q Φ D v1 v2 s a W h1 h2 h=>by
 refine oE h1 (oE h2 (?_));exact sub_bool (h _ _ ⟨rfl,rfl⟩ rfl (.int _ _))
noncomputable def Mu (d:Dat) (c:List Int) (e:Dat):Dat:=.tuple [d,.str (path c),e]
theorem rR (T:bL mg mb G) (H:Prog mg G) {c1 c2:List Int} {d1 d2 e1 e2:Dat} (s1: ∀y∈c1,Small y) (s2: ∀y∈c2,Small y) (l1:c1.length<=12) (l2:c2.length<=12) (n1:c1≠ []) (n2:c2≠ []):
  bJ prog w G (n + 9) (.ref (adr mg "_law_compare")) [.dat (Mu d1 c1 e1),.dat (Mu d2 c2 e2)] (.dat (.int (lQ c1 c2))):=by
 refine bJ.def (xs:=["one","two"]) T H.compare.at' (fun pm cd doc vs h=>?_) rfl rfl (by decide +kernel) ?_
 ·exact ur h fun _ _=>rfl
 intro Lo cd K;refine ve (Bc c1 c2) fun lp1 lp2 tk _=>?_;have cp:=P6 c1 c2;have hp:Cp c1 [c1,c1,c2,c1] (ow c1 c2):=by
  refine ⟨cp.le,fun c hc=>cp.all c ?_,?_⟩
  ·simp at hc ⊢; rcases hc with h | h | h
   ·exact .inl h
   ·exact .inr h
   ·exact .inl h
  ·refine bQ cp.stop fun c hc e=>?_;refine ⟨c,?_,e⟩;simp at hc ⊢; refine Or.elim hc (fun h=>?_) (fun h=>?_)
   ·exact .inl h
   ·exact .inr (.inl h)
 have cl1:=jK s1 (Nat.le_trans ‹_› (by decide));have cl2:=jK s2 (Nat.le_trans ‹_› (by decide));have ln1:("/." :Str).length=2:=by decide +kernel
 have ln2:("/" :Str).length=1:=by decide +kernel
 have tc:=nG (prog:=prog) (w:=w) (G:=G) (n:=n) T H (ps:=[("/." ++path c1,c1),(path c1,c1),("/" ++path c2,c2),(path c1,c1)]) (fun q hq=>by
  simp only [List.mem_cons,List.not_mem_nil,or_false] at hq;rcases hq with rfl | rfl | rfl | rfl
  ·exact Ja s1 l1 n1
  ·exact sX s1 l1 n1
  ·exact Jb s2 l2 n2
  ·exact sX s1 l1 n1) (by simp) (by simp) (.head _) hp
 refine Ex.cons (Xs.assign K (.inl rfl) (d:=.dat (.str (path (c1.take (ow c1 c2))))) (Ev.def T H.mS K rfl (.one (Ev.list (ds:=[.str ("/." ++path c1),.str (path c1),.str ("/" ++path c2),.str (path c1)]) (.cons (Ev.bin Ev.str (Ev.gH (ds:=[d1,.str (path c1),e1]) (Ev.name K rfl) Ev.int (by decide) rfl (by decide)) (pL (lK (Nat.add_le_add (Nat.le_of_eq ln1) cl1)))) (.cons (Ev.gH (ds:=[d1,.str (path c1),e1]) (Ev.name K rfl) Ev.int (by decide) rfl (by decide)) (.cons (Ev.bin Ev.str (Ev.gH (ds:=[d2,.str (path c2),e2]) (Ev.name K rfl) Ev.int (by decide) rfl (by decide)) (pL (lK (Nat.add_le_add (Nat.le_of_eq ln2) cl2)))) (.one (Ev.gH (ds:=[d1,.str (path c1),e1]) (Ev.name K rfl) Ev.int (by decide) rfl (by decide)))))))) tc)) ?_;have mJ: ∀y∈c1.take (ow c1 c2),Small y:=fun y hy=>s1 y (List.mem_of_mem_take hy);have kp: ∀c:List Int,(∀y∈c,Small y)->cW 8 (.str (path c))=true:=fun c hc=>ly hc;have q1:qG (path c1)=.str (path (c1.take (ow c1 c2))) ↔ow c1 c2=c1.length:=by
  constructor
  ·intro e;have e:=(rN s1 mJ).mp (gF e);have e:=congrArg List.length e;rw [List.length_take] at e;exact Nat.le_antisymm lp1 (Nat.le_trans (Nat.le_of_eq e) (Nat.min_le_left _ _))
  ·intro e; rw [e,List.take_length]
 have q2:qG (path c2)=.str (path (c1.take (ow c1 c2))) ↔ow c1 c2=c2.length:=by
  rw [<- tk];have V1: ∀y∈c2.take (ow c1 c2),Small y:=fun y hy=>s2 y (List.mem_of_mem_take hy);constructor
  ·intro e;have e:=(rN s2 V1).mp (gF e);have e:=congrArg List.length e;rw [List.length_take] at e
   lia
  ·intro e; rw [e,List.take_length]
 have i1: ∀{ρ:fQ} {p1 p2:Pos} {k:Nat} {p3:Pos},ρ "one"=some (.dat (Mu d1 c1 e1))->Ev prog w G (n + 8) ⟨envOfC "_law_compare" (aG 43) Lo (adr mg "_law_compare") cd,ownOf (aG 43),[]⟩ ρ (.Subscript (.Name "one" p1) (.Constant (.int 1) k p2) p3) (.dat (.str (path c1))):=fun h=>Ev.gH (ds:=[d1,.str (path c1),e1]) (Ev.name K h) Ev.int (by decide) rfl (by decide);have i2: ∀{ρ:fQ} {p1 p2:Pos} {k:Nat} {p3:Pos},ρ "two"=some (.dat (Mu d2 c2 e2))->Ev prog w G (n + 8) ⟨envOfC "_law_compare" (aG 43) Lo (adr mg "_law_compare") cd,ownOf (aG 43),[]⟩ ρ (.Subscript (.Name "two" p1) (.Constant (.int 1) k p2) p3) (.dat (.str (path c2))):=fun h=>Ev.gH (ds:=[d2,.str (path c2),e2]) (Ev.name K h) Ev.int (by decide) rfl (by decide);have ZR: ∀e∈[qG (path c1),.str (path c2)],cW 8 e=true:=fun e he=>by
  simp only [List.mem_cons,List.not_mem_nil,or_false] at he;rcases he with rfl | rfl
  ·exact kp _ s1
  ·exact kp _ s2
 rcases Gr c1 c2 with ⟨h1,h2⟩ | ⟨ha,hb,h1⟩
 ·refine Ex.stop (Xs.RX (Et.cmp (Ev.name K rfl) (Ev.tuple (ds:=[.str (path c1),.str (path c2)]) (.cons (i1 rfl) (.one (i2 rfl)))) (Ip (b:=true) ZR (kp _ mJ) ?_) gR.bool) (Ex.stop (Xs.ret (Ev.is (Ev.bin (Ev.cmp (i2 rfl) (Ev.name K rfl) (vA (b:=decide (ow c1 c2=c2.length)) (kp _ s2) (kp _ mJ) ?_)) (Ev.cmp (i1 rfl) (Ev.name K rfl) (vA (b:=decide (ow c1 c2=c1.length)) (kp _ s1) (kp _ mJ) ?_)) Mt) ?_))))
  ·refine iff_of_true rfl ?_;refine Or.elim h1 (fun h1=>?_) (fun h1=>?_)
   ·rw [<- q1.mpr h1]; exact .head _
   ·rw [<- q2.mpr h1]; exact .tail _ (.head _)
  ·rw [decide_eq_true_iff]; exact q2.symm
  ·rw [decide_eq_true_iff]; exact q1.symm
  ·rw [b2i_decide,b2i_decide,h2]
 ·refine Ex.cons (Xs.Ay (Et.cmp (Ev.name K rfl) (Ev.tuple (ds:=[.str (path c1),.str (path c2)]) (.cons (i1 rfl) (.one (i2 rfl)))) (Ip (b:=false) ZR (kp _ mJ) ?_) gR.bool) Ex.nil) ?_
  ·refine iff_of_false (by decide) fun h=>?_;simp only [List.mem_cons,List.not_mem_nil,or_false] at h;refine Or.elim h (fun h=>?_) (fun h=>?_)
   ·have:=q1.mp h.symm; lia
   ·have:=q2.mp h.symm; lia
  have b1:=vN (prog:=prog) (w:=w) (G:=G) (n:=n + 5) T H s1 l1 ha;have b2:=vN (prog:=prog) (w:=w) (G:=G) (n:=n + 5) T H s2 l2 hb;rw [tk] at b2;exact Ex.stop (Xs.ret (Ev.is (Ev.bin (Ev.def T H.below K rfl (.cons (i2 rfl) (.one (Ev.name K rfl))) b2) (Ev.def T H.below K rfl (.cons (i1 rfl) (.one (Ev.name K rfl))) b1) qQ) (by rw [h1])))
end
section
variable {F2:Led}
theorem iN.gZ {C:vg} (F:iN G c ⟨F1,fl⟩ ρ τ h D C m) (hs: ∀p∈F2,p∈F1) (hc: ∀p∈c.free,p∈F2):iN G c ⟨F2,fl⟩ ρ τ h D C m:=by
 refine ⟨F.fr,fun p hp=>F.nw p ?_,fun p hp q hq=>F.ap p hp q ?_,F.cn,F.cd,F.ca,fun x hx q hq=>F.cp x hx q (hs q hq),F.ck,hc,F.fl,F.vr,F.tm⟩
 ·exact cE hp (fun hp=>mL hp) fun hp=>cE hp (fun hp=>mR ((mL hp))) fun hp=>mR ((mR ((hs p hp))))
 ·exact cE hq (fun hq=>mL hq) fun hq=>mR ((hs q hq))
theorem FS.gZ (F:FS G c ⟨F1,fl⟩ ρ τ h) (hs: ∀p∈F2,p∈F1) (hc: ∀p∈c.free,p∈F2):FS G c ⟨F2,fl⟩ ρ τ h:=d8 F fun D C m X=>⟨D,C,m,X.gZ hs hc⟩
theorem FS.get (F:FS G c ⟨F1,fl⟩ ρ τ h) {p:Addr × Obj} (hp:p∈F1):h.get? p.1=some p.2:=d8 F fun _ _ _ X=>(X.nw p (mR ((mR hp)))).1
theorem FS.Jc (F:FS G c ⟨(a,o)::F1,fl⟩ ρ τ h) (hf: ∀p∈c.free,p∈F1) (hc: ∀q∈F1,q.1≠a) (hs:cz a h h') (ho:h'.get? a=some o'):FS G c ⟨(a,o')::F1,fl⟩ ρ τ h':=by
 have U:=FS.EN (Φ:=⟨F1,fl⟩) F hf hc hs;refine d8 F fun D0 C0 m0 X0=>?_; clear F;have q:=X0.nw (a,o) (mR ((mR ((.head _)))));have V5:=X0.ap;have Xi:=X0.cp;refine ⟨D0,C0,m0,⟨X0.fr.ns.at' fun o e=>(hs.2 _ (Ne.symm q.2.1)).trans e,fun b o e=>(hs.2 b (fun z=>by rw [z,q.2.2] at e; cases e)).trans (X0.fr.keep b o e),X0.fr.above⟩,fun p hp=>?_,fun p hp r hr=>?_,X0.cn,X0.cd,X0.ca,fun x hx r hr=>?_,X0.ck,fun p hp=>.tail _ (hf p hp),X0.fl,X0.vr,X0.tm⟩
 ·have old: ∀p∈D0++(C0.led++(a,o)::F1),p.1≠a->h'.get? p.1=some p.2/\p.1≠c.env.locals/\G.get? p.1=none:=fun p hp hn=>⟨(hs.2 _ hn).trans (X0.nw p hp).1,(X0.nw p hp).2⟩;refine cE hp (fun hp=>?_) (fun hp=>?_)
  ·exact old p (mL hp) (V5 p hp (a,o) (mR ((.head _))))
  ·refine cE hp (fun hp=>?_) (fun hp=>?_)
   ·refine bQ (List.mem_map.mp hp) ?_; rintro x hx rfl;exact old _ (mR ((mL hp))) (Xi x hx (a,o) (.head _))
   ·exact bU hp (⟨ho,q.2⟩) fun hp=>old p (mR ((mR ((.tail _ hp))))) (hc p hp)
 ·exact cE hr (fun hr=>V5 p hp r (mL hr)) fun hr=>bU hr (V5 p hp (a,o) (mR ((.head _)))) fun hr=>V5 p hp r (mR ((.tail _ hr)))
 ·exact bU hr (Xi x hx (a,o) (.head _)) fun hr=>Xi x hx r (.tail _ hr)
theorem FS.sY (F:FS G c ⟨F1,fl⟩ ρ τ h) (hf:o.isFreed=false):FS G c ⟨(h.objs.size,o)::F1,fl⟩ ρ τ (h.push o):=by
 refine d8 F fun D C m X=>?_; clear F;have N:=X.nw.push X.fr o hf;have lt: ∀p∈D++(C.led++F1),p.1≠h.objs.size:=fun p hp=>Nat.ne_of_lt (az (X.nw p hp).1);refine ⟨D,C,m,X.fr.push o,fun p hp=>N p ?_,fun p hp q hq=>?_,X.cn,X.cd,X.ca,fun x hx q hq=>?_,X.ck,fun p hp=>.tail _ (X.fc p hp),X.fl,X.vr,X.tm⟩
 ·exact cE hp (fun hp=>.tail _ (mL hp)) fun hp=>cE hp (fun hp=>.tail _ (mR ((mL hp)))) fun hp=>bU hp (.head _) fun hp=>.tail _ (mR ((mR hp)))
 ·exact cE hq (fun hq=>X.ap p hp q (mL hq)) fun hq=>bU hq (lt p (mL hp)) fun hq=>X.ap p hp q (mR hq)
 ·exact bU hq (lt x.2 (mR ((mL ((List.mem_map_of_mem hx)))))) fun hq=>X.cp x hx q hq
theorem FS.off (F:FS G c ⟨F1,fl⟩ ρ τ h): ∀p∈F1,p.1≠h.objs.size:=fun p hp=>Nat.ne_of_lt (az (F.get hp))
theorem FS.freeze (F:FS G c ⟨(a,o)::F1,fl⟩ ρ τ h) (hf: ∀p∈c.free,p∈F1) (hc: ∀q∈F1,q.1≠a) (hd: ∀D,(∀p∈τ,bw D p.1 p.2)->bw ((a,o)::D) v d):FS G c ⟨F1,fl⟩ ρ ((v,d)::τ) h:=by
 refine d8 F fun D C m X=>?_; clear F;have sub: ∀p∈D,p∈ (a,o)::D:=fun p hp=>.tail _ hp;refine ⟨(a,o)::D,C,m,X.fr,fun p hp=>?_,fun p hp q hq=>?_,X.cn,X.cd,X.ca,fun x hx q hq=>X.cp x hx q (.tail _ hq),X.ck,hf,fun p hp=>sub p (X.fl p hp),fun x e hx=>?_,fun p hp=>?_⟩
 ·exact cE hp (fun hp=>bU hp (X.nw (a,o) (mR ((mR ((.head _)))))) fun hp=>X.nw p (mL hp)) fun hp=>cE hp (fun hp=>X.nw p (mR ((mL hp)))) fun hp=>X.nw p (mR ((mR ((.tail _ hp)))))
 ·refine bU hp ?_ (fun hp=>?_)
  ·refine cE hq (fun hq=>?_) (fun hq=>?_)
   ·refine l8 hq fun x hx=>?_;exact Ne.symm (X.cp x hx (a,o) (.head _))
   ·exact Ne.symm (hc q hq)
  ·exact cE hq (fun hq=>X.ap p hp q (mL hq)) fun hq=>X.ap p hp q (mR ((.tail _ hq)))
 ·refine bQ (X.vr x e hx) fun v h1 h2=>?_;exact ⟨v,h1,h2.mono sub⟩
 ·exact bU hp (hd D X.tm) fun hp=>(X.tm p hp).mono sub
end
theorem bP.len {ds:List Sv} (h:bP D vs ds):vs.length=ds.length:=by
 induction h with
 | nil=>rfl
 | cons _ _ ih=>exact congrArg Nat.succ ih
theorem bP.Xj {ds:List Sv} (h:bP D vs ds): ∀p∈vs.zip ds,bw D p.1 p.2:=by
 induction h with
 | nil=>exact fun p hp=>nomatch hp
 | cons a _ ih=>exact fun p hp=>bU hp a (ih p)
theorem pN (h1:ic prog w G n c ρ es (ds.map .dat)) (a:cQ n A) (F:FS G c Φ ρ τ s.heap) (h: ∀(l:Addr) (vs:List ai) (s':aj),Sm s s'->vs.length=ds.length->(∀q∈Φ.fix,q.1≠l)->FS G c ⟨(l,listOf vs.toArray 0)::Φ.fix,Φ.floor⟩ ρ (vs.zip (ds.map .dat)++τ) s'.heap->Q (.ref l) s') (hz:ds.length<=1000:=by simp):ak (aq prog w) A (eval (.List es pos) c.env) Q E s:=
 List_ (h1.go A E _ Φ τ s pos a F fun vs s1 m1 hl F1=>by
  rw [List.length_map] at hl;refine bC ?_ (by refine (?_:vs.toArray.size<=bF); rw [List.size_toArray,hl]; exact sl hz);exact h _ vs _ (m1.trans ⟨rfl,rfl⟩) hl F1.off (F1.sY rfl))
theorem Lp.Tp {M:Led} {zL:List Addr} {P P':Led->Heap->Prop} {r:Prop} (L:Lp G c ⟨M++Φ.fix,Φ.floor⟩ D wr P ρ τ h) (hl: ∀b∈wr,∃o,h.get? b=some o) (fK: ∀b∈fp,b∈wr\/∃o,(b,o)∈D) (fr: ∀D1 D2 h1,(∀p∈D1,p∈D2)->(∀b∈fp,∀o,h.get? b=some o->h1.get? b=some o)->P D1 h->P' D2 h1) (qy: ∀p∈c.free,p∈Φ.fix) (Di: ∀b∈zL,∀q∈Φ.fix,q.1≠b) (hM:M.map (·.1)=zL) (f: ∀Φ':nW,(∀p∈c.free,p∈Φ'.fix)->(∀b∈zL,∀q∈Φ'.fix,q.1≠b)->FS G c ⟨M++Φ'.fix,Φ'.floor⟩ ρ τ h->(∀{M3 uP τ1 h1},M3.map (·.1)=zL->FS G c ⟨M3++Φ'.fix,Φ'.floor⟩ uP τ1 h1->Lp G c ⟨M3++Φ.fix,Φ.floor⟩ D wr P' uP τ1 h1)->r):r:=by
 have sw: ∀{M1 A1 B1:Led},∀p∈M1++(A1++B1),p∈A1++(M1++B1):=fun p hp=>cE hp (fun hp=>mR (mL hp)) fun hp=>cE hp mL fun hp=>mR (mR hp);refine L.El fun D' C' m' X s a z=>?_;have ZS: ∀b∈wr,b∉zL:=fun b hb hm=>bQ (List.mem_map.mp (hM ▸ hm)) fun p hp e=>(a b hb).2.2 p (mR (mR (mL hp))) e;refine f ⟨vn h wr++Φ.fix,D'⟩ (fun p hp=>mR (qy p hp)) (fun b hb q hq=>cE hq (fun hq e=>ZS _ (pI hq).1 (e ▸ hb)) (Di b hb q)) ⟨D',C',m',(X.inner a).gZ sw fun p hp=>mR (mR (qy p hp))⟩ fun {M3 uP τ1 h1} hM3 F=>?_;refine d8 F fun D3 C3 m3 X3=>?_;refine ve (iN.outer (Φ:=⟨M3++Φ.fix,Φ.floor⟩) (X3.gZ sw fun p hp=>mR (mR (qy p hp))) (fun p hp=>mR (qy p hp)) X.fl hl) fun Y k1 k2 k3=>?_;refine ⟨D3,C3,m3,Y,fun p hp=>k2 p (s p hp),AI (Φ:=⟨M3++Φ.fix,Φ.floor⟩) k3 fun b hb p hp=>cE hp (fun hp e=>ZS b hb (hM3 ▸ e ▸ List.mem_map_of_mem hp)) fun hp=>(a b hb).2.2 p (mR (mR (mR hp))),fr _ _ _ k2 (fun b hb o ho=>?_) z⟩;refine (fK b hb).elim (fun hb=>k1 b hb o ho) fun hb=>ex hb fun o' FL=>?_;exact aH (ho.symm.trans (X.nw (b,o') (mL (s _ FL))).1) ▸ (Y.nw (b,o') (mL (k2 _ (s _ FL)))).1
theorem forM {iter:Expr} {b:List Stmt} {ds:List Sv} (hi:Ev prog w G n c ρ iter d) (P:bM prog w G n d ds) (inv got:Nat->fQ) (h0: ∀x d,inv 0 x=some d->ρ x=some d) (J:Nat->Led->kA->Prop) (zL:List Addr) (hJ: ∀i M je,J i M je->M.map (·.1)=zL) (ht: ∀i d,ds[i]? =some d->dm prog w G n c t d (inv i) (got i)) (hb: ∀i,i < ds.length->∀M je,J i M je->∀(A:aM) (E:ai->aj->Prop) (Q:Flow->aj->Prop) (Φ:nW) (s:aj),cQ n A->(∀p∈c.free,p∈Φ.fix)->(∀b∈zL,∀q∈Φ.fix,q.1≠b)->FS G c ⟨M++Φ.fix,Φ.floor⟩ (got i) (je++τ) s.heap->
   (∀M' τ'' s',J (i + 1) M' τ''->Sm s s'->FS G c ⟨M'++Φ.fix,Φ.floor⟩ (inv (i + 1)) (τ''++τ) s'.heap->Q .next s')->ak (aq prog w) A (ik b c.env) Q E s) {Q:Flow->aj->Prop} {M:Led} {je:kA} (a:cQ n A) (qy: ∀p∈c.free,p∈Φ.fix) (Di: ∀b∈zL,∀q∈Φ.fix,q.1≠b) (hM:J 0 M je) (F:FS G c ⟨M++Φ.fix,Φ.floor⟩ ρ (je++τ) s.heap) (hq: ∀M' τ'' s',J ds.length M' τ''->Sm s s'->FS G c ⟨M'++Φ.fix,Φ.floor⟩ (inv ds.length) (τ''++τ) s'.heap->Q .next s') (uv: ∀x,cO iter c.env x=pure x:=by intro _; rfl):ak (aq prog w) A (exec (.For t iter b [] pos) c.env) Q E s:=by
 refine FE (hi.go A E _ _ _ s a F fun v s1 m1 F1=>F1.iter P a fun I fp wr PP St s2 D m2 L W fK gA fq dQ=>?_) uv;refine qN (fun j s'=>∃i M' τ'',i + j=ds.length/\Sm s s'/\J i M' τ''/\Lp G c ⟨M'++Φ.fix,Φ.floor⟩ D wr (fun _=>St i) (inv i) (τ''++τ) s'.heap)
  (fun j s' hI=>?_) ds.length ⟨0,M,je,Nat.zero_add _,m1.trans m2,hM,L.names h0⟩
 refine pH hI fun i M' τ'' pJ sm Xk L=>?_; clear hI
 by_cases fG:i < ds.length
 ·refine W.item i s' _ _ fG L.st fun u h' tk hP mJ iY=>?_;have Ig:ds[i]? =some ds[i]:=List.getElem?_eq_getElem fG;refine ((L.iX (P':=fun _=>St (i + 1)) iY fun _ _=>mJ).plus fun D' hs=>(fq i u hP _ Ig).mono hs).Tp (gA _ _ mJ) fK (fun _ _ h1 _ k z=>W.frame _ _ h1 z k) qy Di (hJ _ _ _ Xk) fun Φ' f1 f2 F2 back=>?_;refine (dQ _ _ mJ).go t u ((ht i _ Ig).go A _ _ _ _ _ u a F2 fun s3 m3 F3=>?_);exact hb i fG M' τ'' Xk A _ _ Φ' s3 a f1 f2 F3 fun M3 τ3 s4 ZT m4 F4=>⟨j - 1,jS pJ fG,i + 1,M3,τ3,jT pJ fG,(sm.trans ⟨m3.gens,m3.os⟩).trans m4,ZT,back (hJ _ _ _ ZT) F4⟩
 ·have ei:i=ds.length:=jE pJ fG;subst ei;exact W.done s' _ _ L.st fun h' tk iY=>bz (hq M' τ'' _ Xk (sm.trans ⟨rfl,rfl⟩) (L.iX (P':=fun _ _=>True) iY fun _ _=>trivial).fs)
theorem wd (F:FS G c ⟨(a,listOf its.toArray k)::F1,fl⟩ ρ τ s.heap) (hf: ∀p∈c.free,p∈F1) (hc: ∀q∈F1,q.1≠a) (hz:its.length<=1000) (h: ∀k' s',Sm s s'->FS G c ⟨(a,listOf (its++[v]).toArray k')::F1,fl⟩ ρ τ s'.heap->Q .none s'):
  ak (aq prog w) A (call (.builtin "list.append") [.ref a,v]) Q E s:=by
 have g:s.heap.get? a=some (listOf its.toArray k):=F.get (.head _);have q:=Cq g (fun x=>x.push v);have e:its.toArray.push v=(its++[v]).toArray:=by simp
 obtain ⟨k',q'⟩: ∃k',Sw (s.heap.update a (cC fun x=>x.push v)) a (its.toArray.push v) k':=⟨_,q⟩;rw [e] at q';exact kr k7 ⟨_,g,rfl⟩ PySem.F.entry_list_append (PySem.F.args_list_append_2 _ _) (PySem.list_append a its.toArray k v (by rw [List.size_toArray]; exact sl hz)) ⟨g,h _ _ ⟨rfl,rfl⟩ (F.Jc hf hc (bH ..) q')⟩
theorem Dj {x:Int} {u:Tok} (F:FS G c ⟨(a,listOf its.toArray k)::F1,fl⟩ ρ τ s.heap) (hf: ∀p∈c.free,p∈F1) (hc: ∀q∈F1,q.1≠a) (hz:its.length<=1000) (hx:0<=x) (Oc:x.toNat<=its.length) (h: ∀k' s',Sm s s'->FS G c ⟨(a,listOf (its.take x.toNat++v::its.drop x.toNat).toArray k')::F1,fl⟩ ρ τ s'.heap->Q .none s'):
  ak (aq prog w) A (call (.builtin "list.insert") [.ref a,.int x u,v]) Q E s:=by
 have g:s.heap.get? a=some (listOf its.toArray k):=F.get (.head _);have Xl:Builtin.List.listFitsIndex x=true:=by
  unfold Builtin.List.listFitsIndex;simp;exact ⟨d9 (by decide) hx,iP (Int.toNat_le.mp Oc) (iP (fh.mpr hz) (by decide))⟩
 have q:=Cq g (fun xs=>have k:=if x < 0 then (x + (xs.size:Int)).toNat else min x.toNat xs.size;(xs.extract 0 k).push v++xs.extract k)
 have e:(its.toArray.extract 0 (if x < 0 then (x + (its.toArray.size:Int)).toNat else min x.toNat its.toArray.size)).push v++its.toArray.extract (if x < 0 then (x + (its.toArray.size:Int)).toNat else min x.toNat its.toArray.size)=(its.take x.toNat++v::its.drop x.toNat).toArray:=by
  rw [kl_ins_eq,List.size_toArray,if_neg (dJ.mpr hx),Nat.min_eq_left Oc]
 obtain ⟨k',q'⟩: ∃k',Sw (s.heap.update a (cC fun xs=>have k:=if x < 0 then (x + (xs.size:Int)).toNat else min x.toNat xs.size;(xs.extract 0 k).push v++xs.extract k)) a ((its.toArray.extract 0 (if x < 0 then (x + (its.toArray.size:Int)).toNat else min x.toNat its.toArray.size)).push v++its.toArray.extract (if x < 0 then (x + (its.toArray.size:Int)).toNat else min x.toNat its.toArray.size)) k':=⟨_,q⟩;rw [e] at q';exact kr xg ⟨_,g,rfl⟩ PySem.F.entry_list_insert (PySem.F.args_list_insert_3 _ _ _) (O4 a its.toArray k x u v (by simp [Xl]) (by rw [List.size_toArray]; exact sl hz)) ⟨g,h _ _ ⟨rfl,rfl⟩ (F.Jc hf hc (bH ..) q')⟩
theorem Bd {p apos P7:Pos} {Q:Flow->aj->Prop} (K:fM c.env) (hx:ρ x=some (.val (.ref a))) (he:Ev prog w G n c ρ e d) (ao:cQ n A) (F:FS G c ⟨(a,listOf its.toArray k)::F1,fl⟩ ρ τ s.heap) (hf: ∀p∈c.free,p∈F1) (hc: ∀q∈F1,q.1≠a) (hz:its.length<=1000) (h: ∀v k' s',Sm s s'->FS G c ⟨(a,listOf (its++[v]).toArray k')::F1,fl⟩ ρ ((v,d)::τ) s'.heap->Q .next s') (hn:Ev prog w G n c ρ (.Name x p) (.val (.ref a))) (AR:Ey (.Name x p) "append" c.env (eval (.Name x p) c.env)=eval (.Name x p) c.env:=by rfl) (Iq:((cI pos (aC [e] c.env)).all (fun x=>!x.1) && (eG pos (bX [] c.env)).all (fun x=>x.1.isSome)
   && decide ([e].length + ([]:List xd).length + (if ([]:List xd).isEmpty then 0 else 1) < 30))=true:=by rfl) (vC:(apos.endLine == pos.line)=true:=by rfl) (ym:aC [e] c.env=(false,eval e c.env)::aC [] c.env:=by rfl) (dQ:(cI pos (aC [] c.env)).any (·.1)=false:=by rfl) (hint:K8 c.env=false:=by rfl):ak (aq prog w) A (exec (.Expr (.Call (.Attribute (.Name x p) "append" apos) [e] [] pos) P7) c.env) Q E s:=by
 refine Cr (hi:=hint) (jq AR Iq vC (hn.pX A E _ _ _ s ao F fun s1 m1 uV=>?_));have g:s1.heap.get? a=some (listOf its.toArray k):=uV.get (.head _);refine ⟨"list","list.append",lY,k7,xh,⟨_,g,rfl⟩,fun b e=>by cases e; exact ⟨_,g,rfl⟩,pA ((ic.one he ym).CR A E _ _ _ s1 pos ao uV.pop fun v1 s2 m2 F2=>?_) ym dQ⟩;exact wd F2 hf hc hz fun k' s3 m3 F3=>h v1 k' s3 ((m1.trans m2).trans m3) F3
theorem Jd {p apos P7:Pos} {e1 e2:Expr} {i:Int} {Q:Flow->aj->Prop} (K:fM c.env) (VY:Ev prog w G n c ρ e1 (.dat (.int i))) (he:Ev prog w G n c ρ e2 d) (ao:cQ n A) (F:FS G c ⟨(a,listOf its.toArray k)::F1,fl⟩ ρ τ s.heap) (hf: ∀p∈c.free,p∈F1) (hc: ∀q∈F1,q.1≠a) (hz:its.length<=1000) (hi:0<=i) (PV:i.toNat<=its.length) (h: ∀v k' s',Sm s s'->FS G c ⟨(a,listOf (its.take i.toNat++v::its.drop i.toNat).toArray k')::F1,fl⟩ ρ ((v,d)::τ) s'.heap->Q .next s') (hn:Ev prog w G n c ρ (.Name x p) (.val (.ref a))) (AR:Ey (.Name x p) "insert" c.env (eval (.Name x p) c.env)=eval (.Name x p) c.env:=by rfl) (Iq:((cI pos (aC [e1,e2] c.env)).all (fun x=>!x.1) && (eG pos (bX [] c.env)).all (fun x=>x.1.isSome)
   && decide ([e1,e2].length + ([]:List xd).length + (if ([]:List xd).isEmpty then 0 else 1) < 30))=true:=by rfl) (vC:(apos.endLine == pos.line)=true:=by rfl) (ym:aC [e1,e2] c.env=(false,eval e1 c.env)::aC [e2] c.env:=by rfl) (Xm:aC [e2] c.env=(false,eval e2 c.env)::aC [] c.env:=by rfl) (dQ:(cI pos (aC [e2] c.env)).any (·.1)=false:=by rfl) (hint:K8 c.env=false:=by rfl):ak (aq prog w) A (exec (.Expr (.Call (.Attribute (.Name x p) "insert" apos) [e1,e2] [] pos) P7) c.env) Q E s:=by
 refine Cr (hi:=hint) (jq AR Iq vC (hn.pX A E _ _ _ s ao F fun s1 m1 uV=>?_));have g:s1.heap.get? a=some (listOf its.toArray k):=uV.get (.head _);refine ⟨"list","list.insert",lY,xg,PySem.F.type_list_insert,⟨_,g,rfl⟩,fun b e=>by cases e; exact ⟨_,g,rfl⟩,pA ((ic.cons VY (ic.one he Xm) ym).Zr A E _ _ _ s1 pos ao uV.pop fun v1 v2 s2 m2 F2=>?_) ym dQ⟩;obtain ⟨t,rfl⟩: ∃t,v1=.int i t:=by
  refine bQ F2.heldBy fun _ _ tt=>?_;exact jj (tt (v1,.dat (.int i)) (.head _))
 exact Dj F2 hf hc hz hi PV fun k' s3 m3 F3=>h v2 k' s3 ((m1.trans m2).trans m3) (F3.temps fun p hp=>.tail _ hp)
noncomputable def nat (k:Nat):Dat:=.int (k:Nat)
noncomputable def nats (l:List Nat):List Dat:=l.map nat
noncomputable def pZ (l:List (List Nat)):List Dat:=l.map fun t=>.str (st t)
structure tV where
 ahead:List Nat
 texts:List (List Nat)
 order:List Nat
noncomputable def Je:tV:=⟨[0,0,1,0,1],[[],[97,98,99,100],[233],[],[101,102]],[4,3,1,2]⟩
noncomputable def jz (q:tV) (x:Int):Nat:=((x.fdiv (q.ahead.length:Int)).fmod (q.ahead.length:Int)).toNat
noncomputable def i8 (q:tV) (x:Int):tV:=
 ⟨q.ahead++[(x.fmod (q.ahead.length:Int)).toNat],q.texts++[[((if x < 0 then -x else x).fmod 256).toNat]],q.order.take (jz q x)++q.ahead.length::q.order.drop (jz q x)⟩
noncomputable def xQ (xs:List Int) (i:Nat):tV:=(xs.take i).foldl i8 Je
noncomputable def pieces (script:List Int):tV:=(script.take 5).foldl i8 Je
theorem yC {xs:List Int} {x:Int} (h:xs[i]? =some x):xQ xs (i + 1)=i8 (xQ xs i) x:=by
 unfold xQ;rw [List.take_add_one,h,List.foldl_append]; rfl
theorem Jf (xs:List Int) (i:Nat) (h:i<=xs.length):(xQ xs i).ahead.length=5 + i/\(xQ xs i).texts.length=5 + i/\(xQ xs i).order.length=4 + i:=by
 induction i with
 | zero=>exact ⟨rfl,rfl,rfl⟩
 | succ i ih=>
  refine xy (ih (Nat.le_of_succ_le h)) fun h1 h2 h3=>?_;rw [yC (List.getElem?_eq_getElem (by exact h:i < xs.length))];unfold i8;refine ⟨by simp [h1]; lia,by simp [h2]; lia,?_⟩;simp [h3];exact Zm _ _
theorem Gs {x:Int} (h:0 < q.ahead.length):jz q x < q.ahead.length:=by
 unfold jz;have p:(0:Int) < q.ahead.length:=cf.mpr h;exact (n5 (fk _ p)).mpr (k8 _ p)
theorem Jg {p p1:Pos} (hl:Ev prog w G n c ρ (.Name "len" p1) (.val (.builtin "len"))) (hn:Ev prog w G n c ρ (.Name x p) (.val (.ref a))) (ao:cQ n A) (F:FS G c ⟨(a,listOf its.toArray k)::F1,fl⟩ ρ τ s.heap) (hz:its.length<=1000) (h: ∀v s',Sm s s'->FS G c ⟨(a,listOf its.toArray k)::F1,fl⟩ ρ ((v,.dat (.int its.length))::τ) s'.heap->Q v s') (h2:aC [.Name x p] c.env=(false,eval (.Name x p) c.env)::aC [] c.env:=by rfl) (h3:((cI pos (aC [] c.env)).any (·.1))=false:=by rfl) (hc:eval (.Call (.Name "len" p1) [.Name x p] [] pos) c.env=(do eF pos (<- eval (.Name "len" p1) c.env) [] (cI pos (aC [.Name x p] c.env)) (eG pos (bX [] c.env))):=by rfl):ak (aq prog w) A (eval (.Call (.Name "len" p1) [.Name x p] [] pos) c.env) Q E s:=
 kT (hl.pX A E _ _ τ s ao F fun s1 m1 F1=>by
  refine bV ((ic.one hn h2).FN A E _ _ _ s1 pos ao F1.pop fun s2 m2 F2=>?_) h2 h3;have g:=F2.get (.head _);refine Wt ⟨_,g,rfl,_,rfl⟩ (by rw [List.size_toArray]; exact pW hz) ?_;rw [List.size_toArray];exact h _ _ ((m1.trans m2).trans ⟨rfl,rfl⟩) ((F2.temps fun p hp=>.tail _ hp).plus fun _=>.int _ _)) hc
theorem Be: ∀(ts:List Str) (vs:List ai) (ds:List Sv) (ρ:fQ) {A:aM} {E:ai->aj->Prop} {Q:Unit->aj->Prop} {Φ:nW} {τ:kA} {s:aj},fM c.env->(∀t∈ts,sH c t)->ts.length=vs.length->ts.length=ds.length->
  FS G c Φ ρ (vs.zip ds++τ) s.heap->(∀s',Sm s s'->FS G c Φ (eu (ts.zip ds) ρ) τ s'.heap->Q () s')->
  ak (aq prog w) A (Ew (ts.map fun t=>Cs c.env t) vs) Q E s:=by
 intro ts
 induction ts with
 | nil=>
  intro vs ds ρ A E Q Φ τ s _ _ e1 e2 F h;have:ds=[]:=List.length_eq_zero_iff.mp e2.symm;have:vs=[]:=List.length_eq_zero_iff.mp e1.symm;subst ds vs;exact iL (h s (Sm.refl s) F)
 | cons t ts ih=>
  intro vs ds ρ A E Q Φ τ s K ho e1 e2 F h;cases vs with
  | nil=>cases e1
  | cons v vs=>
   cases ds with
   | nil=>cases e2
   | cons d ds=>
    refine iD (Sx (store K F (ho t (.head _)) fun s1 m1 F1=>?_));exact ih vs ds _ K (fun z hz=>ho z (.tail _ hz)) (Nat.succ.inj e1) (Nat.succ.inj e2) F1 fun s2 m2 F2=>h s2 (m1.trans m2) F2
theorem yD {elts:List Expr} {kJ:Pos} (names:List Str) {Q:Flow->aj->Prop} (K:fM c.env) (ao:cQ n A) (ho: ∀t∈names,sH c t) (h:ak (aq prog w) A (eval value c.env) (fun v s1=>∃(ds:List Sv) (ρ:fQ) (Φ:nW) (τ:kA),names.length=ds.length/\FS G c Φ ρ ((v,tupS ds)::τ) s1.heap/\∀s',Sm s1 s'->FS G c Φ (eu (names.reverse.zip ds.reverse) ρ) τ s'.heap->Q .next s') E s) (hs:n7 [.Tuple elts k kJ] value pos.line c.env=pure false:=by rfl) (hw:n8 [.Tuple elts k kJ] value c.env=pure (some names):=by rfl):ak (aq prog w) A (exec (.Assign [.Tuple elts k kJ] value pos) c.env) Q E s:=by
 refine Sy (aN h (fun v s1 hx=>?_) fun _ _ x=>x) hs hw;refine fF hx fun ds ρ Φ τ hl F hq=>?_; clear hx;refine d8 F fun D C m X=>?_; clear F;obtain ⟨b1,jF,e1,m1,a1⟩:bw D v (Rg.tupS ds):=X.tm (v,Rg.tupS ds) (.head _);subst e1;have ht:Vi s1.heap b1 jF.toArray:=⟨_,(X.nw _ (mL m1)).1,rfl,_,rfl⟩;have rC:names.length=jF.toArray.size:=by rw [List.size_toArray,a1.len,hl]
 rw [rC];refine unpackItems_tuple ao.handled ht fun h' hx=>?_;have F':FS G c Φ ρ (jF.reverse.zip ds.reverse++τ) h':=by
  have Y:=X.keep (h':=h') fun b o e=>hx b o (Nat.ne_of_lt (az e)) e;refine ⟨D,C,m,(Y.oB (fun p hp=>?_))⟩;refine cE hp (fun hp=>?_) (fun hp=>?_)
  ·have:jF.reverse.zip ds.reverse=(jF.zip ds).reverse:=by
    unfold List.zip; exact (List.reverse_zipWith a1.len).symm
   rw [this] at hp;exact a1.Xj p (List.mem_reverse.mp hp)
  ·exact Y.tm p (.tail _ hp)
 refine (?_:ak _ _ (Ew (names.reverse.map fun n=>Cs c.env n) jF.toArray.toList.reverse) _ _ _);exact Be names.reverse jF.reverse ds.reverse ρ K (fun t ht=>ho t (List.mem_reverse.mp ht)) (by rw [List.length_reverse,List.length_reverse,a1.len,hl]) (by rw [List.length_reverse,List.length_reverse,hl]) F' fun s2 m2 F2=>hq s2 ⟨m2.gens,m2.os⟩ F2
theorem FS.known (F:FS G c Φ ρ τ h) (hx:ρ x=some (.val v)) (hd:(v,d)∈τ):FS G c Φ (upd ρ x d) τ h:=by
 refine d8 F fun D C m X=>?_; clear F;refine ⟨D,C,m,(X.EK (fun y e hy=>?_))⟩;unfold upd at hy
 by_cases q:y=x
 ·subst q;rw [if_pos rfl] at hy;cases hy;refine bQ (X.vr y _ hx) fun u h1 h2=>?_;obtain rfl:u=v:=h2;exact ⟨u,h1,X.tm _ hd⟩
 ·rw [if_neg q] at hy;exact X.vr y e hy
theorem uW {l:Addr} (hl:vs.length=ds.length) (h: ∀p∈vs.zip (ds.map Sv.dat),bw D p.1 p.2):bw ((l,listOf vs.toArray k)::D) (.ref l) (.dat (.list ds)):=
 nu (.head _) (eN (fun _ hp=>.tail _ hp) (bw.zl hl h))
theorem rS {α β:Type} {l:List α} {m:List β} {u:α} {d:β} {p:α × β} (e:l.length=m.length) (h:p∈ (l++[u]).zip (m++[d])):p=(u,d)\/p∈l.zip m:=by
 rw [List.zip_append e] at h;exact cE h (fun h=>.inr h) fun h=>.inl (List.mem_singleton.mp h)
theorem Bg {α β:Type} {l:List α} {m:List β} {u:α} {d:β} {p:α × β} (k:Nat) (e:l.length=m.length) (h:p∈ (l.take k++u::l.drop k).zip (m.take k++d::m.drop k)):p=(u,d)\/p∈l.zip m:=by
 rw [List.zip_append (by rw [List.length_take,List.length_take,e]),List.zip_cons_cons] at h;refine cE h (fun h=>?_) (fun h=>?_)
 ·right;have:(l.take k).zip (m.take k)=(l.zip m).take k:=by unfold List.zip; exact List.take_zipWith.symm
  rw [this] at h;exact List.mem_of_mem_take h
 ·refine xA h (fun h=>?_) (fun h=>?_)
  ·exact .inl h
  ·right;have:(l.drop k).zip (m.drop k)=(l.zip m).drop k:=by unfold List.zip; exact List.drop_zipWith.symm
   rw [this] at h;exact List.mem_of_mem_drop h
noncomputable def Bh (script:List Int) (l1 l2 l3:Addr):fQ:=upd (upd (upd (fun _=>none) "ahead" (.val (.ref l1))) "texts" (.val (.ref l2))) "order" (.val (.ref l3))
noncomputable def PJ (l1 l2 l3:Addr) (q:tV) (M:Led) (je:kA):Prop:=
 ∃k1 k2 k3 v1 v2 v3,M=[(l3,listOf (List.toArray v3) k3),(l2,listOf (List.toArray v2) k2),(l1,listOf (List.toArray v1) k1)]/\je=v3.zip ((nats q.order).map .dat)++(v2.zip ((pZ q.texts).map .dat)++v1.zip ((nats q.ahead).map .dat))/\
  v3.length=(nats q.order).length/\v2.length=(pZ q.texts).length/\v1.length=(nats q.ahead).length
@[elab_as_elim] theorem PJ.El {l1 l2 l3:Addr} {q:tV} {P:Led->kA->Prop} {M:Led} {je:kA} (h:PJ l1 l2 l3 q M je)
  (k: ∀k1 k2 k3 v1 v2 v3,v3.length=(nats q.order).length->v2.length=(pZ q.texts).length->v1.length=(nats q.ahead).length->
   P [(l3,listOf (List.toArray v3) k3),(l2,listOf (List.toArray v2) k2),(l1,listOf (List.toArray v1) k1)] (v3.zip ((nats q.order).map .dat)++(v2.zip ((pZ q.texts).map .dat)++v1.zip ((nats q.ahead).map .dat)))):P M je:=by
 obtain ⟨k1,k2,k3,v1,v2,v3,rfl,rfl,e3,e2,e1⟩:=h;exact k k1 k2 k3 v1 v2 v3 e3 e2 e1
theorem Bj (T:bL mg mb G) (H:Prog mg G) (hs:script.length<=100):
  bJ prog w G (n + 1) (.ref (adr mg "_law_pieces")) [.dat (.list (script.map .int))] (.dat (.tuple [.list (nats (pieces script).ahead),.list (pZ (pieces script).texts),.list (nats (pieces script).order)])):=by
 refine bJ.def (xs:=["script"]) T H.pieces.at' (fun pm cd doc vs h=>?_) rfl rfl (by decide +kernel) ?_
 ·exact sS h fun _=>rfl
 intro Lo cd K;refine .mk fun A E Q Φ τ s ao F hq=>?_;have t0:Sv.dat (.str (aR ""))=.dat (.str (st [])):=congrArg (fun y=>Sv.dat (.str y)) (by decide +kernel);have t1:Sv.dat (.str (aR "abcd"))=.dat (.str (st [97,98,99,100])):=congrArg (fun y=>Sv.dat (.str y)) (by decide +kernel);have t2:Sv.dat (.str ⟨#[hU 233]⟩)=.dat (.str (st [233])):=congrArg (fun y=>Sv.dat (.str y)) (by decide +kernel);have t4:Sv.dat (.str (aR "ef"))=.dat (.str (st [101,102])):=congrArg (fun y=>Sv.dat (.str y)) (by decide +kernel);refine bD ?_;refine yD (G:=G) (n:=n) (c:=⟨envOfC "_law_pieces" (aG 35) Lo (adr mg "_law_pieces") cd,ownOf (aG 35),[]⟩) ["ahead","texts","order"] K ao ?_ ?_
 ·intro t ht;exact bU ht (.inl rfl) fun ht=>bU ht (.inl rfl) fun ht=>List.mem_singleton.mp ht ▸ .inl rfl
 refine Hu ?_;refine jW ?_ rfl;refine pN (ds:=[.int 0,.int 0,.int 1,.int 0,.int 1]) (.cons Ev.int (.cons Ev.int (.cons Ev.int (.cons Ev.int (.one Ev.int))))) ao F (fun l1 jF s1 m1 hl1 d1 F1=>?_) (by decide);refine jW (pN (ds:=[.str (st []),.str (st [97,98,99,100]),.str (st [233]),.str (st []),.str (st [101,102])]) (.cons (Ev.is Ev.str t0) (.cons (Ev.is Ev.str t1) (.cons (Ev.is (Ev.iV (Ev.bi T H K rfl (by decide +kernel)) (.one Ev.int) (AU (by decide) (by decide))) t2) (.cons (Ev.is Ev.str t0) (.one (Ev.is Ev.str t4)))))) ao F1 (fun l2 SV s2 m2 V0 d2 F2=>?_) (by decide)) rfl;refine jW (pN (ds:=[.int 4,.int 3,.int 1,.int 2]) (.cons Ev.int (.cons Ev.int (.cons Ev.int (.one Ev.int)))) ao F2 (fun l3 vs3 s3 m3 hl3 d3 F3=>bW ?_) (by decide)) rfl;refine bC ?_ (by refine (?_:3<=bF); decide);have F4:=F3.new (o:={ cls:=.type "tuple",data:=.seq [cY l1,cY l2,cY l3].toArray }) (v:=.ref s3.heap.objs.size) (d:=tupS [.val (.ref l1),.val (.ref l2),.val (.ref l3)]) rfl (fun D hD=>⟨_,_,rfl,.head _,.cons rfl (.cons rfl (.cons rfl .nil))⟩);refine ⟨_,_,_,_,rfl,F4,fun s4 m4 F5=>?_⟩;have N6:Sm s s4:=((m1.trans m2).trans m3).trans ⟨m4.gens,m4.os⟩;obtain ⟨xs,hxs⟩: ∃xs,xs=script.take 5:=⟨_,rfl⟩;have xl:xs.length<=5:=by rw [hxs]; simp; exact Nat.min_le_left _ _
 refine bD ?_;refine forM (n:=n) (c:=⟨envOfC "_law_pieces" (aG 35) Lo (adr mg "_law_pieces") cd,ownOf (aG 35),[]⟩) (d:=.dat (.list (xs.map .int))) (ds:=(xs.map iM).map .dat) (τ:=τ) (Φ:=Φ) ?_ bM.list (fun _=>Bh script l1 l2 l3) (fun i=>upd (Bh script l1 l2 l3) "x" (((xs.map iM).map Sv.dat).getD i (.dat .none))) ?_
  (fun i=>PJ l1 l2 l3 (xQ xs i)) [l3,l2,l1] ?_ ?_ ?_ ao nm ?_ ⟨_,_,_,jF,SV,vs3,rfl,rfl,hl3,V0,hl1⟩ (F5.temps ?_) ?_
 ·refine Ev.is (Ev.slice (Ev.name K rfl) .none (.some Ev.int) (by rw [List.length_map]; exact lK hs)) ?_;rw [show (5:Int)=((5:Nat):Int) from rfl,rL,hxs,List.map_take]
 ·exact aP (aP (aP dB rfl) rfl) rfl
 ·exact fun i M je h=>h.El fun _ _ _ _ _ _ _ _ _=>rfl
 ·intro i d hd;have e:((xs.map iM).map Sv.dat).getD i (.dat .none)=d:=by rw [List.getD_eq_getElem?_getD,hd]; rfl
  rw [e];exact dm.name K (.inl rfl)
 ·refine fun i hi M je hJ=>hJ.El fun k1 k2 k3 v1 v2 v3 e3 e2 e1 A E Q Mv s ao qy Di F hk=>?_;have zB:i < xs.length:=by simpa using hi
  obtain ⟨x,hx⟩: ∃x,xs[i]? =some x:=⟨_,List.getElem?_eq_getElem zB⟩;have ex:((xs.map iM).map Sv.dat).getD i (.dat .none)=.dat (.int x):=by
   rw [List.getD_eq_getElem?_getD,List.getElem?_map,List.getElem?_map,hx]; rfl
  rw [ex] at F;rw [yC hx] at hk;refine xy (Jf xs i (Nat.le_of_lt ‹_›)) fun n1 n2 n3=>?_;generalize xQ xs i=q at *;have w1:v1.length=q.ahead.length:=by rw [e1]; simp [nats]
  have w2:v2.length=q.texts.length:=by rw [e2]; simp [pZ]
  have w3:v3.length=q.order.length:=by rw [e3]; simp [nats]
  have V6:l1≠l2:=d2 (l1,_) (.head _);have V7:l2≠l3:=d3 (l2,_) (.head _);have V8:l1≠l3:=d3 (l1,_) (.tail _ (.head _));have b1: ∀q∈Mv.fix,q.1≠l1:=Di l1 (.tail _ (.tail _ (.head _)));have b2: ∀q∈Mv.fix,q.1≠l2:=Di l2 (.tail _ (.head _));have b3: ∀q∈Mv.fix,q.1≠l3:=Di l3 (.head _);have Fa:=F.gZ (F2:=(l1,listOf (List.toArray v1) k1)::(l2,listOf (List.toArray v2) k2)::(l3,listOf (List.toArray v3) k3)::Mv.fix) (fun p hp=>bU hp (.tail _ (.tail _ (.head _))) fun hp=>bU hp (.tail _ (.head _)) fun hp=>bU hp (.head _) fun hp=>.tail _ (.tail _ (.tail _ hp))) nm;have l5:i<=5:=Nat.le_trans (Nat.le_of_lt zB) xl;have la:0 < q.ahead.length:=n1.symm ▸ Nat.lt_of_lt_of_le (by decide) (Nat.le_add_right 5 i);have V9:q.ahead.length<=10:=n1.symm ▸ Nat.add_le_add_left l5 5;have P8:((q.ahead.length:Nat):Int)≠0:=n6 (cf.mpr la);have m0:=fk x (show (0:Int) < q.ahead.length by exact cf.mpr la);refine bD (aZ (Jg (n:=n) (Ev.bi T H K rfl (by decide +kernel)) (Ev.name K rfl) ao Fa (Nat.le_trans (Nat.le_of_eq w1) (lK V9)) fun v s1 m1 F1=>store K F1 (.inl rfl) fun s2 m2 F2=>?_) rfl);rw [w1] at F2;refine bD (Bd K rfl (Ev.is (Ev.bin (Ev.name K rfl) (Ev.name K rfl) (CS P8)) (show _=Sv.dat (nat (x.fmod (q.ahead.length:Int)).toNat) from congrArg (fun z=>Sv.dat (.int z)) ((qZ m0).symm))) ao F2 nm (fun p hp=>bU hp (Ne.symm V6) fun hp=>bU hp (Ne.symm V8) (b1 p)) (Nat.le_trans (Nat.le_of_eq w1) (lK V9)) (fun u1 Wa s3 m3 F3=>?_) (Ev.name K rfl));have Fb:=F3.gZ (F2:=(l2,listOf (List.toArray v2) k2)::(l1,listOf (List.toArray (v1++[u1])) Wa)::(l3,listOf (List.toArray v3) k3)::Mv.fix) (fun p hp=>bU hp (.tail _ (.head _)) fun hp=>bU hp (.head _) fun hp=>.tail _ (.tail _ hp)) nm;have c0:=fk (if x < 0 then -x else x) (show (0:Int) < 256 by decide);have c1:=k8 (if x < 0 then -x else x) (show (0:Int) < 256 by decide);refine bD (Bd K rfl (Ev.iV (Ev.bi T H K rfl (by decide +kernel)) (.one (Ev.bin (Ev.iV (Ev.bi T H K rfl (by decide +kernel)) (.one (Ev.name K rfl)) Iu) Ev.int (CS (by decide)))) (AU c0 c1)) ao Fb nm (fun p hp=>bU hp V6 fun hp=>bU hp (Ne.symm V7) (b2 p)) (Nat.le_trans (Nat.le_of_eq (w2.trans (n2.trans n1.symm))) (lK V9)) (fun u2 Oq s4 m4 F4=>?_) (Ev.name K rfl));have Fc:=F4.gZ (F2:=(l3,listOf (List.toArray v3) k3)::(l2,listOf (List.toArray (v2++[u2])) Oq)::(l1,listOf (List.toArray (v1++[u1])) Wa)::Mv.fix) (fun p hp=>bU hp (.tail _ (.tail _ (.head _))) fun hp=>bU hp (.head _) fun hp=>bU hp (.tail _ (.head _)) fun hp=>.tail _ (.tail _ (.tail _ hp))) nm;have pl:=Gs (q:=q) (x:=x) la;have pl0:=fk (x.fdiv (q.ahead.length:Int)) (show (0:Int) < q.ahead.length by exact cf.mpr la);refine bD (Jd K (Ev.bin (Ev.bin (Ev.name K rfl) (Ev.name K rfl) (LP P8 (PyProof.noPylong_small (Nat.lt_of_le_of_lt V9 (by decide))))) (Ev.name K rfl) (CS P8)) (Ev.name K rfl) ao Fc nm (fun p hp=>bU hp V7 fun hp=>bU hp V8 (b3 p)) (Nat.le_trans (Nat.le_of_eq (w3.trans n3)) (lK (Nat.add_le_add_left l5 4))) pl0 (by refine (?_:jz q x<=_); exact Nat.le_of_lt_succ (Nat.lt_of_lt_of_le pl (Nat.le_of_eq (n1.trans ((Nat.add_right_comm 4 1 i).trans (congrArg (· + 1) (w3.trans n3).symm)))))) (fun u3 ZU s5 m5 F5=>bz ?_) (Ev.name K rfl));refine hk [(l3,listOf (List.toArray (v3.take (jz q x)++u3::v3.drop (jz q x))) ZU),(l2,listOf (List.toArray (v2++[u2])) Oq),(l1,listOf (List.toArray (v1++[u1])) Wa)] _ s5 ⟨Wa,Oq,ZU,v1++[u1],v2++[u2],v3.take (jz q x)++u3::v3.drop (jz q x),rfl,rfl,?_,?_,?_⟩ ((((m1.trans m2).trans m3).trans m4).trans m5) ?_
  ·simp [nats,i8]; rw [w3]
  ·simp [pZ,i8,w2]
  ·simp [nats,i8,w1]
  ·refine (F5.names (fun y d e=>rQ rfl (rQ rfl e))).temps fun p hp=>?_;have g3:(nats (i8 q x).order).map Sv.dat=((nats q.order).map Sv.dat).take (jz q x)++Sv.dat (nat q.ahead.length)::((nats q.order).map Sv.dat).drop (jz q x):=by
    simp [nats,i8,List.map_take,List.map_drop]
   have g2:(pZ (i8 q x).texts).map Sv.dat=(pZ q.texts).map Sv.dat++[Sv.dat (.str (st [((if x < 0 then -x else x).fmod 256).toNat]))]:=by
    simp [pZ,i8]
   have g1:(nats (i8 q x).ahead).map Sv.dat=(nats q.ahead).map Sv.dat++[Sv.dat (nat (x.fmod (q.ahead.length:Int)).toNat)]:=by
    simp [nats,i8]
   rw [g1,g2,g3] at hp;refine cE hp (fun hp=>?_) (fun hp=>?_)
   ·refine cE hp (fun hp=>?_) (fun hp=>?_)
    ·rcases Bg _ (by rw [List.length_map]; exact e3) hp with rfl | hp
     ·exact .head _
     ·exact .tail _ (.tail _ (.tail _ (mL ((mL hp)))))
    ·refine cE hp (fun hp=>?_) (fun hp=>?_)
     ·rcases rS (by rw [List.length_map]; exact e2) hp with rfl | hp
      ·exact .tail _ (.head _)
      ·exact .tail _ (.tail _ (.tail _ (mL ((mR ((mL hp)))))))
     ·rcases rS (by rw [List.length_map]; exact e1) hp with rfl | hp
      ·exact .tail _ (.tail _ (.head _))
      ·exact .tail _ (.tail _ (.tail _ (mL ((mR ((mR hp)))))))
   ·exact .tail _ (.tail _ (.tail _ (mR hp)))
 ·intro b hb q hq;exact bU hb (d3 q (.tail _ (.tail _ hq))) fun hb=>bU hb (d2 q (.tail _ hq)) fun hb=>List.mem_singleton.mp hb ▸ d1 q hq
 ·intro p hp;exact cE hp (fun hp=>cE hp (fun hp=>mL hp) fun hp=>cE hp (fun hp=>mR ((mL hp))) fun hp=>mR ((mR ((mL hp))))) fun hp=>mR ((mR ((mR hp))))
 ·refine fun M' τ'' s5 hJ=>hJ.El fun k1 k2 k3 v1 v2 v3 e3 e2 e1 m5 F6=>?_;have V6:l1≠l2:=d2 (l1,_) (.head _);have V7:l2≠l3:=d3 (l2,_) (.head _);have V8:l1≠l3:=d3 (l1,_) (.tail _ (.head _));rw [show ((xs.map iM).map Sv.dat).length=xs.length by simp] at F6 e1 e2 e3;have ep:xQ xs xs.length=pieces script:=by
   unfold xQ pieces;rw [hxs,List.take_length]
  rw [ep] at F6 e1 e2 e3;have F7:=FS.freeze (F1:=(l2,listOf (List.toArray v2) k2)::(l1,listOf (List.toArray v1) k1)::Φ.fix) (v:=.ref l3) (d:=.dat (.list (nats (pieces script).order))) F6 nm (fun p hp=>bU hp V7 fun hp=>bU hp V8 fun hp=>d3 p (.tail _ (.tail _ hp))) (fun D hD=>uW e3 fun p hp=>hD p (mL ((mL hp))));have F8:=FS.freeze (F1:=(l1,listOf (List.toArray v1) k1)::Φ.fix) (v:=.ref l2) (d:=.dat (.list (pZ (pieces script).texts))) F7 nm (fun p hp=>bU hp V6 fun hp=>d2 p (.tail _ hp)) (fun D hD=>uW e2 fun p hp=>hD p (.tail _ (mL ((mR ((mL hp)))))));have F9:=FS.freeze (F1:=Φ.fix) (v:=.ref l1) (d:=.dat (.list (nats (pieces script).ahead))) F8 nm d1 (fun D hD=>uW e1 fun p hp=>hD p (.tail _ (.tail _ (mL ((mR ((mR hp))))))));have G1:=F9.known (x:="ahead") rfl (.head _);have G2:=G1.known (x:="texts") rfl (.tail _ (.head _));have G3:=G2.known (x:="order") rfl (.tail _ (.tail _ (.head _)));have G4:=G3.temps (je:=τ) fun p hp=>.tail _ (.tail _ (.tail _ (mR hp)));refine (Ex.stop (prog:=prog) (w:=w) (G:=G) (n:=n) (Xs.ret (Ev.tuple (ds:=[.list (nats (pieces script).ahead),.list (pZ (pieces script).texts),.list (nats (pieces script).order)]) (.cons (Ev.name K rfl) (.cons (Ev.name K rfl) (.one (Ev.name K rfl))))))).go A E Q Φ τ s5 ao G4 fun v s6 m6 CC=>?_;exact hq v s6 ((N6.trans m5).trans m6) CC
theorem Tq {p:Pos} {b:List Stmt} {ds:List Sv} {Q:Flow->aj->Prop} {St:Nat->Heap->Prop} (a:cQ n A) (hn:Ev prog w G n c ρ (.Name y p) (.val (.ref I))) (i0:Nat) (L:Lp G c Φ D wr (fun _=>St i0) ρ τ s.heap) (W:FD prog w A I fp wr ds.length PP St) (fK: ∀b∈fp,b∈wr\/∃o,(b,o)∈D) (gA: ∀i h,St i h->∀b∈wr,∃o,h.get? b=some o) (fq: ∀i u,PP i u->∀d,ds[i]? =some d->bw D u d) (dQ: ∀i h,St i h->gT h I) (Lq:i0<=ds.length) (inv:Nat->fQ) (got:Nat->fQ) (h0: ∀x d,inv i0 x=some d->ρ x=some d) (ht: ∀i d,ds[i]? =some d->dm prog w G n c t d (inv i) (got i)) (hb: ∀i,i0<=i->i < ds.length->Goes prog w G n c (got i) b (inv (i + 1))) (hq: ∀s',Sm s s'->FS G c Φ (inv ds.length) τ s'.heap->Q .next s') (uv: ∀x,cO (.Name y p) c.env x=pure x:=by intro _; rfl):ak (aq prog w) A (exec (.For t (.Name y p) b [] pos) c.env) Q E s:=
 L.turn (P':=fun _=>St i0) (gA _ _ L.st) fK (fun _ _ h1 _ k z=>W.frame _ _ h1 z k) fun Φ' F back=>FE (hn.pX A E _ Φ' τ s a F fun s1 m1 F1=>
  W.self _ _ _ _ (back F1).st (N5 a ((back F1.pop).names h0) W fK gA fq dQ Lq (Nat.le_refl _) (fun _=>rfl) (fun i d _=>ht i d) hb (fun h=>absurd h (Nat.lt_irrefl _)) m1 hq fun _ _ h=>h)) uv
theorem zM {l:Addr} (hl:s.heap.IsList l items) (h:Q (.ref s.heap.objs.size) { s with heap:=s.heap.push { cls:=.type "list_iterator",data:=.fields #[.ref l,.int 0 0] } }):
  ak (aq prog w) A (call (.builtin "iter") [.ref l]) Q E s:=by
 refine tT (by decide +kernel) (by decide +kernel) kdk_entry_iter (kdk_args_iter _) ?_;unfold Builtin.«iter»;refine ae (m:=someArgs "iter" 1 2 _) (cH (a:=[cY l]) (by first | rfl | kernel_rfl!) ?_);refine (?_:ak _ _ (uJ (.ref l) >>= _) _ _ _);exact ae (jN hl (ah ⟨_,rfl,h⟩))
theorem zN {it l:Addr} {x:ai} (hit:s.heap.IsListIter it l i) (hl:s.heap.IsList l items) (hx:items[i]? =some x) (hQ: ∀h',h'.IsListIter it l (i + 1)->cz it s.heap h'->Q x { s with heap:=h' }):ak (aq prog w) A (call (.builtin "next") [.ref it]) Q E s:=by
 refine tT (by decide +kernel) (by decide +kernel) kdk_entry_next (kdk_args_next _) ?_;unfold Builtin.«next»;refine ae (m:=someArgs "next" 1 2 _) (cH (a:=[cY it]) (by first | rfl | kernel_rfl!) ?_);dsimp only;refine ae (eJ (name:=aR "__next__") hit.typeIs slot_listiter_next.lookup ?_);refine wpAny_ite_split (fun LY=>absurd LY (by decide)) (fun _=>?_);refine iU (id hit) fun o ho hc hd=>?_;refine N2 hl fun ol jV _ nl hdl=>?_; clear hl;refine ae (eW (name:=aR "__next__") hit.typeIs NS
  (dZ NS hit.typeIs entry_listiter_next ?_ (args_listiter_next _)))
 refine (?_:ak _ _ (Vn (.ref it) 0 >>= _) _ _ s);refine ae (fL ho hd (x:=.ref l) rfl ?_);refine (?_:ak _ _ (if (cY l == Value.none)=true then _ else _) _ _ s);rw [if_neg (show ¬((cY l == Value.none)=true) from aI)];refine (?_:ak _ _ (Vn (.ref it) 1 >>= _) _ _ s);refine ae (fL ho hd (x:=.int i 0) rfl ?_);refine (?_:ak _ _ (ku (.ref l) >>= _) _ _ s);refine ae (dH jV hdl ?_);simp only [cj,hx];refine ae (wpAny_setField ho hd (by simp) (ah ⟨x,rfl,ah ⟨_,rfl,hQ _ ?_ (bH ..)⟩⟩));exact ⟨_,bu _ ho (Obj.isFreed_of_fields (HE hd _)),(Obj.cls_mapFields ..).trans hc,by
  rw [HE hd]; simp [aQ]⟩
theorem Jh {m0:Addr} (h0:G.get? m0=some o0) (hc:o0.cls≠ .type "tuple"):ny prog w G n (dw .Is) (.dat (.list ds)) (.val (.ref m0)) (.dat (.bool false)):=.mk fun A E Q Φ D v1 v2 s a W h1 h2 h=>by
 obtain rfl:v2=.ref m0:=h2;refine lE h1 fun _ _ _ m1 a1=>?_
 ·have q:=W.pin _ (mL m1);refine wpAny_is_ref_other (fun e=>?_) q.1 (W.keep _ _ h0) (fun e=>absurd (CG e) (by decide)) (h _ _ D (Sm.refl s) W (fun _ h=>h) (.bool _));have:=q.2;rw [e,h0] at this;cases this
theorem Gu {m0:Addr}:ny prog w G n (dw .Is) (.val (.ref m0)) (.val (.ref m0)) (.dat (.bool true)):=.mk fun A E Q Φ D v1 v2 s a W h1 h2 h=>by
 obtain rfl:v1=.ref m0:=h1;obtain rfl:v2=.ref m0:=h2;exact wpAny_is_ref_self (h _ _ D (Sm.refl s) W (fun _ h=>h) (.bool _))
@[irreducible] noncomputable def Red (mg:Str->Option ai) (G:Heap):Prop:=
 ∃m0 o0 t ot nn,mg "_initial_missing"=some (.ref m0)/\G.get? m0=some o0/\o0.cls≠ .type "tuple" /\mg "reduce"=some (.ref (adr mg "reduce"))/\AM G (adr mg "reduce") "reduce" (argsAt 4) (dh 4) (aG 4) (.ref t) .none/\
  G.get? t=some ot/\ot.cls=.type "tuple" /\ot.data=.seq #[.ref m0] nn
theorem Red.mk (h: ∃m0 o0 t ot nn,mg "_initial_missing"=some (.ref m0)/\G.get? m0=some o0/\o0.cls≠ .type "tuple" /\mg "reduce"=some (.ref (adr mg "reduce"))/\AM G (adr mg "reduce") "reduce" (argsAt 4) (dh 4) (aG 4) (.ref t) .none/\
  G.get? t=some ot/\ot.cls=.type "tuple" /\ot.data=.seq #[.ref m0] nn):Red mg G:=by with_unfolding_all exact h
theorem Red.go (h:Red mg G): ∃m0 o0 t ot nn,mg "_initial_missing"=some (.ref m0)/\G.get? m0=some o0/\o0.cls≠ .type "tuple" /\mg "reduce"=some (.ref (adr mg "reduce"))/\AM G (adr mg "reduce") "reduce" (argsAt 4) (dh 4) (aG 4) (.ref t) .none/\
  G.get? t=some ot/\ot.cls=.type "tuple" /\ot.data=.seq #[.ref m0] nn:=by with_unfolding_all exact h
theorem bP.app {xB:List ai} {ds ds':List Sv} (h:bP D vs ds) (h':bP D xB ds'):bP D (vs++xB) (ds++ds'):=by
 induction h with
 | nil=>exact h'
 | cons q _ ih=>exact .cons q ih
noncomputable def Ji (I b:Addr) (vs:List ai) (i:Nat):Heap->Prop:=fun h=>h.IsListIter I b i/\h.IsList b vs.toArray
theorem Ot (F:FS G c Φ ρ ((v,.dat (.list ds))::τ) s.heap) (k: ∀I b vs D s',Sm s s'->Lp G c Φ D [I] (fun _=>Ji I b vs 0) ρ τ s'.heap->b≠I->(∃o,(b,o)∈D)->dG D vs ds->Q (.ref I) s'):ak (aq prog w) A (call (.builtin "iter") [v]) Q E s:=by
 refine d8 F fun D C m X=>?_;have q1:eI D v (.list ds):=X.tm (v,.dat (.list ds)) (.head _);refine lE q1 fun b vs n mm al=>?_;have hb:=(X.nw _ (mL mm)).1;have hl:s.heap.IsList b vs.toArray:=⟨_,hb,rfl,n,rfl⟩;refine zM hl (k s.heap.objs.size b vs D _ ⟨rfl,rfl⟩ ⟨D,C,m,X.lq.keep fun b o e=>av _ e,fun _ h=>h,fun z hz=>List.mem_singleton.mp hz ▸ ⟨?_,Nat.ne_of_gt X.fr.ns.lt,fun p hp=>Nat.ne_of_lt (az (X.nw p hp).1)⟩,
  ⟨_,aJ _ rfl,rfl,rfl⟩,hl.push _⟩ (Nat.ne_of_lt (az hb)) ⟨_,mm⟩ al)
 exact fJ.mpr fun o e=>absurd (az (X.fr.keep _ _ e)) (Nat.lt_irrefl _)
theorem tn {b:Addr} (HS: ∃o,(b,o)∈D):(∀z∈[I,b],z∈[I]\/∃o,(z,o)∈D)/\(∀i h,Ji I b vs i h->∀z∈[I],∃o,h.get? z=some o)/\(∀h h1,(∀z∈[I,b],∀o,h.get? z=some o->h1.get? z=some o)->Ji I b vs i h->Ji I b vs i h1):=
 ⟨fun z hz=>bU hz (.inl (.head _)) fun hz=>List.mem_singleton.mp hz ▸ .inr HS,fun i h st z hz=>List.mem_singleton.mp hz ▸ bQ st.1 fun o ho _=>⟨o,ho⟩,
  fun h h1 k st=>⟨st.1.at fun o e=>k I (.head _) o e,st.2.at fun o e=>k b (.tail _ (.head _)) o e⟩⟩
theorem forL {p:Pos} {b:List Stmt} {Q:Flow->aj->Prop} {bl:Addr} (a:cQ n A) (hn:Ev prog w G n c ρ (.Name y p) (.val (.ref I))) (i0:Nat) (L:Lp G c Φ D [I] (fun _=>Ji I bl vs i0) ρ τ s.heap) (P9:bl≠I) (HS: ∃o,(bl,o)∈D) (al:dG D vs ds) (Lq:i0<=ds.length) (inv:Nat->fQ) (got:Nat->fQ) (h0: ∀x d,inv i0 x=some d->ρ x=some d) (ht: ∀i d,ds[i]? =some d->dm prog w G n c t (.dat d) (inv i) (got i)) (hb: ∀i,i0<=i->i < ds.length->Goes prog w G n c (got i) b (inv (i + 1))) (hq: ∀s',Sm s s'->FS G c Φ (inv ds.length) τ s'.heap->Q .next s') (uv: ∀x,cO (.Name y p) c.env x=pure x:=by intro _; rfl):ak (aq prog w) A (exec (.For t (.Name y p) b [] pos) c.env) Q E s:=by
 have hlen:vs.toArray.size=(ds.map Sv.dat).length:=by rw [List.size_toArray,al.length,List.length_map]
 have Z:=tn (I:=I) (vs:=vs) (i:=0) HS;have el:=List.length_map (f:=Sv.dat) (as:=ds);refine Tq (ds:=ds.map .dat) (St:=Ji I bl vs) a hn i0 L (hlen ▸ RB a.handled I bl P9 vs.toArray) Z.1 Z.2.1 (fun i u hu d hd=>?_) (fun i h st=>iU st.1 fun o ho hc _=>⟨o,_,ho,hc,rfl⟩) (el ▸ Lq) inv got h0 (fun i d hd=>?_) (el ▸ hb) (el ▸ hq) uv
 ·rw [List.getElem?_map] at hd;refine bQ (bg.mp hd) fun d' uu ed=>ex (List.getElem?_eq_some_iff.mp uu) fun fG e'=>bQ (al.get fG) fun v e q=>?_;have LQ:some v=some u:=e.symm.trans (List.getElem?_toArray.symm.trans hu);rw [<- ed, <- e', <- aH LQ];exact q
 ·rw [List.getElem?_map] at hd;exact bQ (bg.mp hd) fun d' uu ed=>ed ▸ ht i d' uu
theorem E4 {Lo:Addr} {bl:Addr} {acc:Nat->Dat} {Q:Flow->aj->Prop} (K:fM (envOfC "reduce" (aG 4) Lo (adr mg "reduce") cd)) (ho:G.get? fa=some o) (hd:o.data=.func fd) (a:cQ n A) (i0:Nat) (hy:ρ "it"=some (.val (.ref I))) (hfn:ρ "function"=some (.val (.ref fa))) (hv:ρ "value"=some (.dat (acc i0))) (L:Lp G ⟨envOfC "reduce" (aG 4) Lo (adr mg "reduce") cd,ownOf (aG 4),[]⟩ Φ D [I] (fun _=>Ji I bl vs i0) ρ τ s.heap) (P9:bl≠I) (HS: ∃o,(bl,o)∈D) (al:dG D vs ds) (Lq:i0<=ds.length) (hf: ∀i d,i0<=i->ds[i]? =some d->bJ prog w G n (.ref fa) [.dat (acc i),.dat d] (.dat (acc (i + 1)))) (hq: ∀v s',Sm s s'->FS G ⟨envOfC "reduce" (aG 4) Lo (adr mg "reduce") cd,ownOf (aG 4),[]⟩ Φ (fun _=>none) ((v,.dat (acc ds.length))::τ) s'.heap->Q (.ret v) s'):ak (aq prog w) A (ik ((dh 4).drop 2) (envOfC "reduce" (aG 4) Lo (adr mg "reduce") cd)) Q E s:=by
 have ed: ∀i d,ds[i]? =some d->ds.getD i .none=d:=fun i d h=>by rw [List.getD_eq_getElem?_getD,h]; rfl
 refine bD (forL a (Ev.name K hy) i0 L P9 HS al Lq (fun i=>upd (upd (fun _=>none) "function" (.val (.ref fa))) "value" (.dat (acc i))) (fun i=>upd (upd (upd (fun _=>none) "function" (.val (.ref fa))) "value" (.dat (acc i))) "element" (.dat (ds.getD i .none))) (aP (aP dB hfn) hv) (fun i d h=>ed i d h ▸ dm.name K (.inl rfl)) (fun i Lq hi=>.inl ?_) fun s5 m5 F5=>?_)
 ·exact Ex.mono (Ex.cons (Xs.assign K (.inl rfl) (d:=.dat (acc (i + 1))) (Ev.AH ho hd (Ev.name K rfl) (.cons (Ev.name K rfl) (.one (Ev.name K rfl))) (hf i _ Lq (by rw [List.getD_eq_getElem?_getD,List.getElem?_eq_getElem hi]; rfl)))) Ex.nil) (aP (aP dB rfl) rfl)
 ·exact (Ex.stop (prog:=prog) (w:=w) (G:=G) (n:=n) (Xs.ret (d:=.dat (acc ds.length)) (Ev.name K rfl))).go A E Q Φ τ s5 a F5 fun v s6 m6 F6=>hq v s6 (m5.trans m6) F6
theorem rT (T:bL mg mb G) (H:Prog mg G) (R:Red mg G) (ho:G.get? fa=some o) (hd:o.data=.func fd) (hz:ds.length<=1000) {acc:Nat->Dat} {xs:List Dat} (h0:acc 0=.list xs) (hf: ∀i d,ds[i]? =some d->bJ prog w G n (.ref fa) [.dat (acc i),.dat d] (.dat (acc (i + 1)))):bJ prog w G (n + 1) (.ref (adr mg "reduce")) [.val (.ref fa),.dat (.list ds),.dat (acc 0)] (.dat (acc ds.length)):=by
 refine d8 R.go fun m0 o0 t k_=>?_; refine gG k_ fun ot nn r1 r2 r3 r4 r5 r6 r7 r8=>?_;refine bJ.Pq (xs:=["function","sequence","initial"]) T r5 (gs:=[.val (.ref fa),.dat (.list ds),.dat (acc 0)]) (ds:=[.val (.ref fa),.dat (.list ds),.dat (acc 0)]) (fun pm cd doc vs A E Q Φ D s _ W hv h=>?_) rfl rfl (by decide +kernel) ?_
 ·have hl:=hv.length
  revert hv
  refine Wz hl fun v1 v2 v3 hv=>?_;refine (?_:ak _ _ (ku (.ref t) >>= _) _ _ _);exact ae (dH (W.keep _ _ r6) r8 (ah (h [v1,v2,v3] s D (Sm.refl s) W (fun _ h=>h) hv)))
 intro Lo cd K;refine .mk fun A E Q Φ τ s ao F hq=>?_;refine bD (aZ (kT ((Ev.bi (v:=.builtin "iter") T H K rfl (by decide +kernel)).pX A E _ Φ τ s ao F fun s1 m1 F1=>?_) rfl) rfl);refine bV ((ic.one (d:=.dat (.list ds)) (Ev.name K rfl)).CR A E _ Φ _ s1 _ ao F1.pop fun v1 s2 m2 F2=>Ot F2 fun I bl vs D s3 m3 L P9 HS al=>?_) rfl rfl;have Z:=tn (I:=I) (b:=bl) (vs:=vs) (i:=0) HS;refine L.turn (P':=fun _=>Ji I bl vs 0) (Z.2.1 _ _ L.st) Z.1 (fun _ _ h1 _ k z=>Z.2.2 _ h1 k z) fun Φ' F3 back=>store K (F3.plus (v:=.ref I) (d:=.val (.ref I)) fun _=>rfl) (.inl rfl) fun s4 m4 F4=>?_;refine bD ((Xs.Ay (prog:=prog) (w:=w) (G:=G) (n:=n) (Et.cmp (d1:=.dat (.list xs)) (Ev.name K (by rw [<- h0]; rfl)) (Ev.global T K rfl r1 (by decide +kernel)) (Jh r2 r3) gR.bool) (Ex.cons (Xs.assign K (.inl rfl) (d:=.dat (acc 0)) (Ev.name K rfl)) Ex.nil)).go A E _ _ τ s4 ao F4 fun s5 m5 F5=>?_);exact E4 K ho hd ao 0 rfl rfl rfl (back F5) P9 HS al (Nat.zero_le _) (fun i d _=>hf i d) fun v s6 m6 F6=>hq v s6 (((((m1.trans m2).trans m3).trans m4).trans m5).trans m6) F6
theorem zO (T:bL mg mb G) (H:Prog mg G) (R:Red mg G) (ho:G.get? fa=some o) (hd:o.data=.func fd) (hz:ds.length<=1000) {acc:Nat->Dat} (h0:ds[0]? =some (acc 1)) (hf: ∀i d,0 < i->ds[i]? =some d->bJ prog w G n (.ref fa) [.dat (acc i),.dat d] (.dat (acc (i + 1)))):bJ prog w G (n + 1) (.ref (adr mg "reduce")) [.val (.ref fa),.dat (.list ds)] (.dat (acc ds.length)):=by
 refine d8 R.go fun m0 o0 t k_=>?_; refine gG k_ fun ot nn r1 r2 r3 r4 r5 r6 r7 r8=>?_;refine bJ.Pq (xs:=["function","sequence","initial"]) T r5 (gs:=[.val (.ref fa),.dat (.list ds)]) (ds:=[.val (.ref fa),.dat (.list ds),.val (.ref m0)]) (fun pm cd doc vs A E Q Φ D s _ W hv h=>?_) rfl rfl (by decide +kernel) ?_
 ·have hl:=hv.length
  revert hv
  refine ur hl fun v1 v2 hv=>?_;refine (?_:ak _ _ (ku (.ref t) >>= _) _ _ _);exact ae (dH (W.keep _ _ r6) r8 (ah (h [v1,v2,.ref m0] s D (Sm.refl s) W (fun _ h=>h) (bP.app hv (.cons rfl .nil)))))
 intro Lo cd K;refine .mk fun A E Q Φ τ s ao F hq=>?_;refine bD (aZ (kT ((Ev.bi (v:=.builtin "iter") T H K rfl (by decide +kernel)).pX A E _ Φ τ s ao F fun s1 m1 F1=>?_) rfl) rfl);refine bV ((ic.one (d:=.dat (.list ds)) (Ev.name K rfl)).CR A E _ Φ _ s1 _ ao F1.pop fun v1 s2 m2 F2=>Ot F2 fun I bl vs D s3 m3 L P9 HS al=>?_) rfl rfl;have Z:=fun i=>tn (I:=I) (b:=bl) (vs:=vs) (i:=i) HS;refine L.turn (P':=fun _=>Ji I bl vs 0) ((Z 0).2.1 _ _ L.st) (Z 0).1 (fun _ _ h1 _ k z=>(Z 0).2.2 _ h1 k z) fun Φ' F3 back=>store K (F3.plus (v:=.ref I) (d:=.val (.ref I)) fun _=>rfl) (.inl rfl) fun s4 m4 F4=>?_;refine bD (Cg ((Et.cmp (prog:=prog) (w:=w) (G:=G) (n:=n) (Ev.name K rfl) (Ev.global T K rfl r1 (by decide +kernel)) Gu gR.bool).go A E _ _ τ s4 ao F4 fun s5 m5 F5=>?_));rw [if_pos rfl];refine bD (pC (bD (aZ (kT ((Ev.bi (v:=.builtin "next") T H K rfl (by decide +kernel)).pX A _ _ _ τ s5 ao F5 fun s6 m6 F6=>?_) rfl) rfl)));refine bV ((ic.one (d:=.val (.ref I)) (Ev.name K rfl)).FN A _ _ _ _ s6 _ ao F6.pop fun s7 m7 F7=>?_) rfl rfl;have L7:=back F7;refine ex (List.getElem?_eq_some_iff.mp h0) fun Tr ed0=>bQ (al.get Tr) fun u0 e0 q0=>?_;refine zN L7.st.1 L7.st.2 (x:=u0) (List.getElem?_toArray.trans e0) fun h8 Xn hs8=>?_;have L8:=((L7.put (wr:=[]) (P':=fun _=>Ji I bl vs 1) List.not_mem_nil (fp:=[bl]) (fun b hb=>List.mem_singleton.mp hb ▸ .inr HS) hs8 fun D' k z=>⟨Xn,z.2.at fun o e=>k _ (.head _) o e⟩).temps fun _ h=>.tail _ h).plus (u:=u0) (d:=.dat (acc 1)) fun D' hs=>ed0 ▸ nq hs q0;refine L8.turn (P':=fun _=>Ji I bl vs 1) ((Z 1).2.1 _ _ L8.st) (Z 1).1 (fun _ _ h1 _ k z=>(Z 1).2.2 _ h1 k z) fun Φ'' F8 back=>store K F8 (.inl rfl) fun s9 m9 F9=>bz (bz (bz ?_));exact E4 K ho hd ao 1 rfl rfl rfl (back F9) P9 HS al Tr hf fun v Ou Mw CC=>hq v Ou (((((((m1.trans m2).trans m3).trans m4).trans m5).trans (m6.trans m7)).trans ⟨m9.gens,m9.os⟩).trans Mw) CC
theorem zP {Φ:Led} {name:Str} {ds:List Sv} (T:bL mg mb G) (hA:cQ (n + 1) A) (dM:au G Φ D₀ s₀.heap) (ho:s₀.heap.get? a=some o) (zq:o.data=.func fd) (e1:fd.body=.stmts body) (e2:fd.scope=scope) (e3:fd.globals=aO) (e4:fd.closure=[]) (e5:fd.qualname=name) (e6:fd.code=cd) (e7:fd.builtins=cu) (sI:s₀.heap.CodeRec cd name) (ie: ∀(E':ai->aj->Prop) (Q':List (Str × ai)->aj->Prop),(∀xB s' D',Sm s₀ s'->au G Φ D' s'.heap->(∀p∈D₀,p∈D')->bP D' xB ds->Q' (xs.zip xB) s')->ak (aq prog w) A.in1 (gw fd ⟨us,[]⟩) Q' E' s₀) (hlen:xs.length=ds.length) (hk:(xs.all fun x=>scope.names.lookup x == some .local || scope.names.lookup x == some .cell)=true) (gW:(ownOf scope).Nodup) (Jj: ∀(L:Addr) (D:Led),(∀p∈D₀,p∈D)->fM (envOfC name scope L a cd)->∀s,Sm s₀ s->cQ n (A.deeper (envOfC name scope L a cd))->FS G ⟨envOfC name scope L a cd,ownOf scope,[]⟩ ⟨Φ,D⟩ (eu (xs.zip ds) fun _=>none) [] s.heap->
   ak (aq prog w) (A.deeper (envOfC name scope L a cd)) (ik body (envOfC name scope L a cd)) (fun f s'=>Q (match f with | .ret v=>v | _=>.none) s')
    (fun e s'=>ak (aq prog w) (A.deeper (envOfC name scope L a cd)) (nO (envOfC name scope L a cd) e) (fun _ mU=>E e mU) (fun e' mU=>E e' mU) s') s) (vy:scope.isCoroutine=false:=by rfl) (kI:scope.isGenerator=false:=by rfl) (uw:scope.kind=.function:=by rfl):ak (aq prog w) A (call (.ref a) us) Q E s₀:=by
 subst e2 e5 e6;refine fg (qY hA.room ho zq vy kI e1 sI ?_);rw [e3,e4,e7];refine ie _ _ fun vs s D AN W AO hv=>?_;exact vv W hv hlen hk gW uw fun s1 SR kp K F=>⟨(T.nolimit.keeps W.keep).keeps kp,Hw (Jj _ D AO K s1 (AN.trans SR) (hA.deeper _) F)⟩
theorem au.sub {ZV Mv:Led} (W:au G ZV D h) (hs: ∀p∈Mv,p∈ZV):au G Mv D h:=
 ⟨W.keep,fun p hp=>W.pin p (by
  exact cE hp (fun hp=>mL hp) fun hp=>mR ((hs p hp))),fun p hp q hq=>W.ap p hp q (hs q hq),W.sz⟩
theorem yF: ∀a:List Int,lQ a a=0
 | []=>rfl
 | x::a=>by rw [lQ,if_pos rfl,yF a]
noncomputable def iO:List Nat->List Nat->Bool
 | [],[]=>false
 | [],_::_=>true
 | _::_,[]=>false
 | x::a,y::b=>if x=y then iO a b else decide (y < x)
theorem fX: ∀a,iO a a=false
 | []=>rfl
 | x::a=>by rw [iO,if_pos rfl,fX a]
theorem jA: ∀{a b c:List Nat},iO a b=true->iO b c=true->iO a c=true
 | [],[],_,h,_=>by cases h
 | [],_::_,[],_,k=>by cases k
 | [],_::_,_::_,_,_=>rfl
 | _::_,[],_,h,_=>by cases h
 | _::_,_::_,[],_,k=>by cases k
 | x::a,y::b,z::c,h,k=>by
  rw [iO] at h k ⊢
  by_cases e:x=y
  ·subst e;rw [if_pos rfl] at h
   by_cases f:x=z
   ·rw [if_pos f] at k ⊢; exact jA h k
   ·rw [if_neg f] at k ⊢; exact k
  ·rw [if_neg e] at h
   by_cases f:y=z
   ·subst f; rw [if_neg e]; exact h
   ·rw [if_neg f] at k;simp only [decide_eq_true_iff] at h k;rw [if_neg (fun q:x=z=>Nat.lt_asymm h (q ▸ k)),decide_eq_true_iff]; exact Nat.lt_trans k h
theorem mV: ∀(p a b:List Nat),iO (p++a) (p++b)=iO a b
 | [],_,_=>rfl
 | x::p,a,b=>by
  refine (?_:iO (x::(p++a)) (x::(p++b))=_);rw [iO,if_pos rfl,mV p a b]
theorem mW (p:List Nat) (x:Nat) (a:List Nat):iO p (p++x::a)=true:=by
 have:=mV p [] (x::a);rw [List.append_nil] at this;rw [this]; rfl
theorem yG {a b:List Nat}:iO a b=true->(∃x r,b=a++x::r)\/∃q x r y r',a=q++x::r/\b=q++y::r'/\y < x:=by
 refine l2 a b (fun h=>nomatch h) (fun y b _=>.inl ⟨y,b,rfl⟩) (fun x a h=>nomatch h) fun x a y b ih h=>?_;rw [iO] at h
 by_cases e:x=y
 ·rw [if_pos e] at h;exact e ▸ Or.elim (ih h) (fun g=>HQ g fun z r e1=>.inl ⟨z,r,congrArg (x:: ·) e1⟩) fun g=>.inr (ex g fun q g=>fF g fun z r z' r' e1 e2 hz=>⟨x::q,z,r,z',r',congrArg (x:: ·) e1,congrArg (x:: ·) e2,hz⟩)
 ·rw [if_neg e] at h;exact .inr ⟨[],x,a,y,b,rfl,rfl,of_decide_eq_true h⟩
theorem mq: ∀{a b:List Nat},a≠b->iO a b=true\/iO b a=true
 | [],[],h=>absurd rfl h
 | [],_::_,_=>.inl rfl
 | _::_,[],_=>.inr rfl
 | x::a,y::b,h=>by
  rw [iO,iO]
  by_cases e:x=y
  ·subst e;rw [if_pos rfl,if_pos rfl];exact mq fun q=>h (by rw [q])
  ·rw [if_neg e,if_neg (Ne.symm e),decide_eq_true_iff,decide_eq_true_iff]; exact (Nat.lt_or_gt_of_ne e).symm
theorem Mx (h:S.Ok) (hk:In S k):S.par k=0\/In S (S.par k):=by
 have:=h.par k hk.1 hk.2
 by_cases e:S.par k=0
 ·exact .inl e
 ·exact .inr ⟨Nat.pos_of_ne_zero e,by have:=hk.2; exact Nat.le_trans (Nat.le_of_lt ‹S.par k < k›) ‹_›⟩
theorem kD (h:S.Ok): ∀(k:Nat),k<=S.n->∀(u:List Nat) (c:Nat) (r:List Nat),ids S k=u++c::r->In S c/\c<=k/\ids S c=u++[c]:=by
 intro k
 induction k using Nat.strongRecOn with
 | ind k ih=>
  intro hk u c r e
  by_cases k0:k=0
  ·subst k0; rw [vJ] at e; cases u <;> cases e
  have jk:In S k:=⟨Nat.pos_of_ne_zero k0,hk⟩;have hp:=h.par k jk.1 jk.2;rw [lO h jk] at e;rcases List.eq_nil_or_concat r with rfl | ⟨r',z,rfl⟩
  ·have e':ids S (S.par k)++[k]=u++[c]:=e;refine ea (List.append_inj' e' rfl) fun e1 e2=>?_;cases e2;exact ⟨jk,Nat.le_refl _,by rw [lO h jk,e1]⟩
  ·have e':ids S (S.par k)++[k]=(u++c::r')++[z]:=by rw [e]; simp
   refine ea (List.append_inj' e' rfl) fun e1 e2=>?_;refine xy (ih (S.par k) hp (Nat.le_trans (Nat.le_of_lt hp) hk) u c r' e1) fun a b d=>?_;exact ⟨a,Nat.le_trans b (Nat.le_of_lt hp),d⟩
theorem rU (h:S.Ok) (hi:In S i) (hj:In S j) (e:ids S i=ids S j):i=j:=by
 rw [lO h hi,lO h hj] at e;exact List.cons.inj (List.append_inj' e rfl).2 |>.1
structure Laid (S:Sc) (L:List Nat):Prop where
 Jk: ∀k∈L,In S k
 up: ∀k∈L,S.par k=0\/S.par k∈L
 ord:L.Pairwise fun i j=>iO (ids S i) (ids S j)=true
theorem Laid.ups (h:S.Ok) (H:Laid S L): ∀(k:Nat),k∈L->∀(u:List Nat) (c:Nat) (r:List Nat),ids S k=u++c::r->c∈L:=by
 intro k
 induction k using Nat.strongRecOn with
 | ind k ih=>
  intro hk u c r e;have jk:=H.Jk k hk;have hp:=h.par k jk.1 jk.2;rw [lO h jk] at e;rcases List.eq_nil_or_concat r with rfl | ⟨r',z,rfl⟩
  ·have e':ids S (S.par k)++[k]=u++[c]:=e;refine ea (List.append_inj' e' rfl) fun e1 e2=>?_;cases e2; exact hk
  ·have e':ids S (S.par k)++[k]=(u++c::r')++[z]:=by rw [e]; simp
   refine ea (List.append_inj' e' rfl) fun e1 e2=>?_;refine Or.elim (H.up k hk) (fun h0=>?_) (fun h1=>?_)
   ·rw [h0,vJ] at e1; cases u <;> cases e1
   ·exact ih _ hp h1 u c r' e1
theorem Laid.nodup (H:Laid S L):L.Nodup:=H.ord.imp fun {a b} h e=>by subst e; rw [fX] at h; cases h
theorem Jl {α:Type} {P:α->Prop} {q:α->Bool} (B:List α) (h1: ∀e∈B,P e->q e=true) (h2: ∀B1 e B2,B=B1++e::B2->(∀x∈B1,P x)->¬P e->q e=false) (h3: ∀B1 e B2,B=B1++e::B2->¬P e->∀x∈B2,¬P x):
  (∀x∈B.takeWhile q,P x)/\∀x∈B.drop (B.takeWhile q).length,¬P x:=by
 induction B with
 | nil=>exact ⟨nm,nm⟩
 | cons e B ih=>
  by_cases he:P e
  ·have hq:=h1 e (.head _) he;refine ea (ih (fun x hx=>h1 x (.tail _ hx)) (fun B1 x B2 eq hx=>h2 (e::B1) x B2 (by rw [eq]; rfl) (fun y hy=>by
    exact bU hy (he) fun hy=>hx y hy)) (fun B1 x B2 eq=>h3 (e::B1) x B2 (by rw [eq]; rfl))) fun a b=>?_
   rw [List.takeWhile_cons,if_pos hq];refine ⟨fun x hx=>?_,fun x hx=>b x (by simpa using hx)⟩;exact bU hx (he) fun hx=>a x hx
  ·have hq:=h2 [] e B rfl nm he;rw [List.takeWhile_cons,if_neg (by rw [hq]; exact aI)];refine ⟨nm,fun x hx=>?_⟩;refine bU (by simpa using hx:x∈e::B) ?_ (fun hx=>?_)
   ·exact he
   ·exact h3 [] e B rfl he x hx
theorem mu {a b:List Nat} (h:iO a b=true):iO b a=false:=by
 cases q:iO b a with
 | false=>rfl
 | true=>have:=jA h q; rw [fX] at this; cases this
theorem Jm (h:S.Ok) (H:Laid S L) (hk:In S k) (hp:S.par k=0\/S.par k∈L):
  (∀i∈L.take (p0 S L k),iO (ids S i) (ids S k)=true)/\(∀e∈L.drop (p0 S L k),iO (ids S (S.par k)) (ids S e)=true)/\∀i∈L.take (p0 S L k),iO (ids S (S.par k)) (ids S i)=false:=by
 unfold p0
 by_cases h0:S.par k=0
 ·rw [if_pos h0,h0,vJ];refine ⟨nm,fun e he=>?_,nm⟩;have he:e∈L:=by simpa using he
  rw [lO h (H.Jk e he)];cases ids S (S.par e) <;> rfl
 ·rw [if_neg h0];have hm:=hp.resolve_left h0;obtain ⟨L1,L2,e,hn⟩: ∃L1 L2,L=L1++S.par k::L2/\S.par k∉L1:=by
   refine HQ (List.append_of_mem hm) fun L1 L2 e=>?_;refine ⟨L1,L2,e,fun hx=>?_⟩;have:=H.nodup;rw [e,List.nodup_append] at this;exact this.2.2 _ hx _ (.head _) rfl
  have ix:L.idxOf (S.par k)=L1.length:=by
   rw [e,List.idxOf_append,if_neg hn,List.idxOf_cons_self]; simp
  have zQ:=H.ord;rw [e,List.pairwise_append] at zQ;have kk:iO (ids S (S.par k)) (ids S k)=true:=by rw [lO h hk]; exact mW _ _ _
  have tk:L.take (L1.length + 1)=L1++[S.par k]:=by rw [e,List.take_append,List.take_of_length_le (Nat.le_add_right _ _)]; simp
  have dr:L.drop (L1.length + 1)=L2:=by rw [e,List.drop_append]; simp
  rw [ix,tk,dr];refine ⟨fun i hi=>?_,fun x hx=>(List.pairwise_cons.mp zQ.2.1).1 x hx,fun i hi=>?_⟩
  ·refine cE hi (fun hi=>?_) (fun hi=>?_)
   ·exact jA (zQ.2.2 i hi _ (.head _)) kk
   ·rw [List.mem_singleton.mp hi]; exact kk
  ·refine cE hi (fun hi=>?_) (fun hi=>?_)
   ·exact mu (zQ.2.2 i hi _ (.head _))
   ·rw [List.mem_singleton.mp hi]; exact fX _
theorem Gv (h:S.Ok) (H:Laid S L) (hk:In S k) (hn:k∉L) (hp:S.par k=0\/S.par k∈L):
  (∀x∈L.take (p1 S L k),iO (ids S x) (ids S k)=true)/\∀x∈L.drop (p1 S L k),iO (ids S k) (ids S x)=true:=by
 refine xy (Jm h H hk hp) fun hA hB hA2=>?_;have Wb: ∀x∈L.drop (p0 S L k),x∈L:=fun x hx=>List.mem_of_mem_drop hx;have Gf:(L.drop (p0 S L k)).Pairwise fun i j=>iO (ids S i) (ids S j)=true:=H.ord.sublist (List.drop_sublist _ _);have ek:=lO h hk;have pn:S.par k<=S.n:=by have:=h.par k hk.1 hk.2; have:=hk.2; exact Nat.le_trans (Nat.le_of_lt ‹S.par k < k›) ‹k<=S.n›
 have upB: ∀c∈L,iO (ids S (S.par k)) (ids S c)=true->c∈L.drop (p0 S L k):=by
  intro c hc hb;have:c∈L.take (p0 S L k)++L.drop (p0 S L k):=by rw [List.take_append_drop]; exact hc
  refine cE this (fun hx=>?_) (fun hx=>?_)
  ·rw [hA2 c hx] at hb; cases hb
  ·exact hx
 have first: ∀B1 e B2,L.drop (p0 S L k)=B1++e::B2->(∀x∈B1,iO (ids S x) (ids S k)=true)->∀y r,ids S e=ids S y++r->y∈L->iO (ids S (S.par k)) (ids S y)=true->iO (ids S y) (ids S k)=false->y=e:=by
  intro B1 e B2 eB h1 y r ee hy hb Wc;have ZW:=upB y hy hb;have Ov:e∈L:=Wb e (by rw [eB]; exact mR ((.head _)));rw [eB] at ZW;refine cE ZW (fun hx=>?_) (fun hx=>?_)
  ·rw [h1 y hx] at Wc; cases Wc
  ·refine bU hx ?_ (fun hx=>?_)
   ·rfl
   ·have o1:=Gf;rw [eB,List.pairwise_append] at o1;have o2:=(List.pairwise_cons.mp o1.2.1).1 y hx;cases r with
    | nil=>rw [List.append_nil] at ee; exact (rU h (H.Jk e Ov) (H.Jk y hy) ee).symm
    | cons z r=>
     have:=mW (ids S y) z r;rw [<- ee] at this;rw [mu this] at o2; cases o2
 have main:=Jl (P:=fun e=>iO (ids S e) (ids S k)=true) (q:=fun j=>decide (k < j)) (L.drop (p0 S L k)) ?_ ?_ ?_
 ·have e1:(L.drop (p0 S L k)).takeWhile (fun j=>decide (k < j))=(L.drop (p0 S L k)).take ((L.drop (p0 S L k)).takeWhile (fun j=>decide (k < j))).length:=List.prefix_iff_eq_take.mp (List.takeWhile_prefix _);unfold p1;refine ⟨fun x hx=>?_,fun x hx=>?_⟩
  ·rw [List.take_add, <- e1] at hx;exact cE hx (fun hx=>hA x hx) fun hx=>main.1 x hx
  ·rw [<- List.drop_drop] at hx;have ZX:=Wb x (List.mem_of_mem_drop hx);rcases mq (a:=ids S x) (b:=ids S k) (fun e=>hn (by rw [<- rU h (H.Jk x ZX) hk e]; exact ZX)) with q | q
   ·exact absurd q (main.2 x hx)
   ·exact q
 ·intro e he hP;have Ov:=Wb e he;have hb:=hB e he;rw [decide_eq_true_iff];rcases yG hP with ⟨x,r,e1⟩ | ⟨q,x,r,y,r',e1,e2,fG⟩
  ·exfalso;rw [ek] at e1;rcases List.eq_nil_or_concat r with rfl | ⟨r1,z,rfl⟩
   ·have:=(List.append_inj' e1 rfl).1;rw [this,fX] at hb; cases hb
   ·have e1':ids S (S.par k)++[k]=(ids S e++x::r1)++[z]:=by rw [e1]; simp
    have:=(List.append_inj' e1' rfl).1;have b2:=mW (ids S e) x r1;rw [<- this] at b2;rw [mu b2] at hb; cases hb
  ·rw [ek] at e2;rcases List.eq_nil_or_concat r' with rfl | ⟨r1,z,rfl⟩
   ·refine ea (List.append_inj' e2 rfl) fun q1 q2=>?_;cases q2;have:=(kD h e (H.Jk e Ov).2 q x r e1).2.1;exact Nat.lt_of_lt_of_le ‹_› ‹_›
   ·exfalso;have e2':ids S (S.par k)++[k]=(q++y::r1)++[z]:=by rw [e2]; simp
    have e3:=(List.append_inj' e2' rfl).1;have b2:iO (ids S e) (ids S (S.par k))=true:=by
     rw [e1,e3,mV,iO,if_neg (Nat.ne_of_gt ‹_›)]; exact decide_eq_true fG
    rw [mu b2] at hb; cases hb
 ·intro B1 e B2 eB h1 hP;have he:e∈L.drop (p0 S L k):=by rw [eB]; exact mR ((.head _))
  have Ov:=Wb e he;have hb:=hB e he;rw [decide_eq_false_iff_not];rcases yG hb with ⟨x,r,e1⟩ | ⟨q,x,r,y,r',e1,e2,fG⟩
  ·refine xy (kD h e (H.Jk e Ov).2 _ x r e1) fun a1 a2 a3=>?_;have xL:=H.ups h e Ov _ x r e1;have bx:iO (ids S (S.par k)) (ids S x)=true:=by rw [a3]; exact mW _ _ _
   have nx: ¬k < x:=fun fG=>hP (by
    refine (?_:iO (ids S e) (ids S k)=true);rw [e1,ek,mV,iO,if_neg (Nat.ne_of_gt ‹_›)]; exact decide_eq_true fG)
   have px:iO (ids S x) (ids S k)=false:=by
    rw [a3,ek,mV,iO]
    by_cases xk:x=k
    ·exact absurd (xk ▸ xL) hn
    ·rw [if_neg xk]; exact decide_eq_false nx
   have:=first B1 e B2 eB h1 x r (by rw [e1,a3]; simp) xL bx px;exact this ▸ nx
  ·refine xy (kD h e (H.Jk e Ov).2 q y r' e2) fun a1 a2 a3=>?_;have yL:=H.ups h e Ov q y r' e2;have bx:iO (ids S (S.par k)) (ids S y)=true:=by rw [e1,a3,mV,iO,if_neg (Nat.ne_of_gt ‹_›)]; exact decide_eq_true fG
   have px:iO (ids S y) (ids S k)=false:=by
    rw [a3,ek,e1,List.append_assoc,mV];refine (?_:iO [y] (x::(r++[k]))=false);rw [iO,if_neg (Nat.ne_of_lt ‹_›)]; exact decide_eq_false (Nat.lt_asymm fG)
   have:=first B1 e B2 eB h1 y r' (by rw [e2,a3]; simp) yL bx px;have xp:=(kD h (S.par k) pn q x r e1).2.1;have:=h.par k hk.1 hk.2;exact ‹y=e› ▸ Nat.lt_asymm (Nat.lt_trans (Nat.lt_of_lt_of_le fG xp) this)
 ·intro B1 e B2 eB hP x hx hPx;have o1:=Gf;rw [eB,List.pairwise_append] at o1;exact hP (jA ((List.pairwise_cons.mp o1.2.1).1 x hx) hPx)
theorem lA:j∈ins S L k↔j=k\/j∈L:=by
 unfold ins;rw [List.mem_append,List.mem_cons];constructor
 ·rintro (h | h | h)
  ·exact .inr (List.mem_of_mem_take h)
  ·exact .inl h
  ·exact .inr (List.mem_of_mem_drop h)
 ·rintro (h | h)
  ·exact .inr (.inl h)
  ·have:j∈L.take (p1 S L k)++L.drop (p1 S L k):=by rw [List.take_append_drop]; exact h
   exact cE this (fun h=>.inl h) fun h=>.inr (.inr h)
theorem Jo (h:S.Ok) (H:Laid S L) (hk:In S k) (hn:k∉L) (hp:S.par k=0\/S.par k∈L):Laid S (ins S L k):=by
 refine ea (Gv h H hk hn hp) fun h1 h2=>?_;refine ⟨fun j hj=>?_,fun j hj=>?_,?_⟩
 ·rcases lA.mp hj with rfl | hj
  ·exact hk
  ·exact H.Jk j hj
 ·rcases lA.mp hj with rfl | hj
  ·exact hp.imp id fun q=>lA.mpr (.inr q)
  ·exact (H.up j hj).imp id fun q=>lA.mpr (.inr q)
 ·have o:=H.ord;rw [<- List.take_append_drop (p1 S L k) L,List.pairwise_append] at o;unfold ins;rw [List.pairwise_append,List.pairwise_cons];refine ⟨o.1,⟨h2,o.2.1⟩,fun a ha b hb=>?_⟩;exact bU hb (h1 a ha) fun hb=>o.2.2 a ha b hb
noncomputable def zR (S:Sc) (C:List Nat) (k:Nat):Prop:=∀j∈ids S k,j∈C
structure Ow (S:Sc) (C:List Nat) (x:St):Prop where
 laid:Laid S x.1
 mem: ∀k,k∈x.1↔k∈C/\zR S C k
 wait:x.2=C.filter fun k=>decide (k∉x.1)
structure Jp (S:Sc) (C:List Nat) (x:St):Prop where
 laid:Laid S x.1
 sub: ∀k∈x.1,k∈C
 wait:x.2=C.filter fun k=>decide (k∉x.1)
theorem Jp.one (h:S.Ok) {C:List Nat} (hC: ∀k∈C,In S k) {x:St} (H:Jp S C x):Jp S C (Gc S x):=by
 unfold Gc;cases hr:yo S x.1 x.2 with
 | nil=>exact H
 | cons r rest=>
  have hm:r∈yo S x.1 x.2:=by rw [hr]; exact .head _
  refine ea (List.mem_filter.mp hm) fun hw hp=>?_;have hp:=of_decide_eq_true hp;rw [H.wait] at hw;refine ea (List.mem_filter.mp hw) fun hc hn=>?_;have hn:=of_decide_eq_true hn;refine ⟨Jo h H.laid (hC r hc) hn hp,fun k hk=>?_,?_⟩
  ·rcases lA.mp hk with rfl | hk
   ·exact hc
   ·exact H.sub k hk
  ·refine (?_:x.2.filter _=_);rw [H.wait,List.filter_filter];refine List.filter_congr fun j hj=>?_
   by_cases e:j=r
   ·subst e;have:j∈ins S x.1 j:=lA.mpr (.inl rfl);simp [this]
   ·have:j∈ins S x.1 r↔j∈x.1:=⟨fun q=>(lA.mp q).resolve_left e,fun q=>lA.mpr (.inr q)⟩
    by_cases q:j∈x.1
    ·simp [this.mpr q,q]
    ·have q':j∉ins S x.1 r:=fun z=>q (this.mp z);simp [q,q',e]
theorem Jp.many (h:S.Ok) {C:List Nat} (hC: ∀k∈C,In S k): ∀(f:Nat) {x:St},Jp S C x->Jp S C (ou S f x)
 | 0,_,H=>H
 | f + 1,x,H=>Jp.many h hC f (H.one h hC)
theorem Jp.now (h:S.Ok) {C:List Nat} (hC: ∀k∈C,In S k) {x:St} (H:Jp S C x) (hr:yo S x.1 x.2=[]):Ow S C x:=by
 refine ⟨H.laid,fun k=>⟨fun hk=>⟨H.sub k hk,fun j hj=>?_⟩,fun hk=>?_⟩,H.wait⟩
 ·refine HQ (List.append_of_mem hj) fun u r e=>?_;exact H.sub j (H.laid.ups h k hk u j r e)
 ·refine ea hk fun hc ha=>?_; clear hk;have all: ∀j,In S j->(∀i∈ids S j,i∈C)->j∈x.1:=by
   intro j
   induction j using Nat.strongRecOn with
   | ind j ih=>
    intro hj ZY
    by_cases q:j∈x.1
    ·exact q
    ·exfalso;have ej:=lO h hj;have jc:j∈C:=ZY j (by rw [ej]; exact mR ((.head _)));have hp:S.par j=0\/S.par j∈x.1:=by
      refine Or.elim (Mx h hj) (fun h0=>?_) (fun h1=>?_)
      ·exact .inl h0
      ·exact .inr (ih _ (h.par j hj.1 hj.2) h1 fun i hi=>ZY i (by rw [ej]; exact mL hi))
     have:j∈yo S x.1 x.2:=List.mem_filter.mpr ⟨by rw [H.wait]; exact List.mem_filter.mpr ⟨jc,by simpa using q⟩,by simpa using hp⟩;rw [hr] at this;cases this
  exact all k (hC k hc) ha
theorem Ow.step (h:S.Ok) {C:List Nat} {x:St} (hC: ∀j∈C++[k],In S j) (hn:k∉C) (H:Ow S C x):Ow S (C++[k]) (Rg.step S x k):=by
 have H0:Jp S (C++[k]) (x.1,x.2++[k]):=by
  refine ⟨H.laid,fun j hj=>mL (((H.mem j).mp hj).1),?_⟩;refine (?_:x.2++[k]=_);rw [List.filter_append, <- H.wait];have:k∉x.1:=fun q=>hn ((H.mem k).mp q).1;simp [this]
 refine lj (ES (S:=S) (x.2.length + 1) (x.1,x.2++[k]) (by simp)) fun m VT WM WN WO=>?_;have e:Rg.step S x k=ou S m (x.1,x.2++[k]):=WO;rw [e];exact (Jp.many h hC m H0).now h hC WN
theorem Dk {α:Type} {r:α->α->Prop} (ir: ∀a,¬r a a) (as: ∀a b,r a b->¬r b a) {l1 l2:List α}:l1.Pairwise r->l2.Pairwise r->(∀x,x∈l1↔x∈l2)->l1=l2:=by
 refine Rg.l2 l1 l2 (fun _ _ _=>rfl) (fun y b _ _ h=>nomatch (h y).mpr (.head _)) (fun x a _ _ h=>nomatch (h x).mp (.head _)) fun x l1 y l2 ih h1 h2 h=>?_
 ·refine ea (List.pairwise_cons.mp h1) fun a1 b1=>?_;refine ea (List.pairwise_cons.mp h2) fun a2 b2=>?_;have e:x=y:=by
   refine xA ((h x).mp (.head _)) (fun e=>?_) (fun hx=>?_)
   ·exact e
   ·refine xA ((h y).mpr (.head _)) (fun e=>?_) (fun hy=>?_)
    ·exact e.symm
    ·exact absurd (a1 y hy) (as _ _ (a2 x hx))
  subst e;rw [ih b1 b2 fun z=>?_];have hz:=h z;rw [List.mem_cons,List.mem_cons] at hz;constructor
  ·intro q;rcases hz.mp (.inr q) with rfl | w
   ·exact absurd (a1 z q) (ir z)
   ·exact w
  ·intro q;rcases hz.mpr (.inr q) with rfl | w
   ·exact absurd (a2 z q) (ir z)
   ·exact w
noncomputable def jZ:List Int->List Int->Bool
 | [],[]=>false
 | [],_::_=>true
 | _::_,[]=>false
 | x::a,y::b=>if x=y then jZ a b else decide (y < x)
theorem we {L':List Nat} (h1:L.Pairwise fun i j=>iO (ids S i) (ids S j)=true) (h2:L'.Pairwise fun i j=>iO (ids S i) (ids S j)=true) (hm: ∀k,k∈L↔k∈L'):L=L':=
 Dk (fun a h=>by rw [fX] at h; cases h) (fun a b h k=>by rw [mu h] at k; cases k) h1 h2 hm
theorem E5 {a b:List Nat}:(∀x∈a,1<=x/\x<=9)->(∀x∈b,1<=x/\x<=9)->(iO a b=true↔jZ (a.map num) (b.map num)=true):=by
 refine l2 a b (fun _ _=>Iff.rfl) (fun _ _ _ _=>Iff.rfl) (fun _ _ _ _=>Iff.rfl) fun x a y b ih ha hb=>?_
 ·
  refine ea (ha x (.head _)) fun x1 x9=>?_;refine ea (hb y (.head _)) fun y1 y9=>?_;rw [iO,List.map_cons,List.map_cons,jZ]
  by_cases e:x=y
  ·subst e;rw [if_pos rfl,if_pos rfl];exact ih (fun z hz=>ha z (.tail _ hz)) (fun z hz=>hb z (.tail _ hz))
  ·rw [if_neg e,if_neg (fun q=>e (pM x1 y1 x9 y9 q)),decide_eq_true_iff,decide_eq_true_iff];exact (vI y1 x1 y9 x9).symm
theorem tZ: ∀{a b:List Int},(∀x∈a,Small x)->(∀x∈b,Small x)->(lQ a b < 0↔jZ a b=true)
 | [],[],_,_=>by simp [lQ,jZ]
 | [],_::_,_,_=>by simp [lQ,jZ]
 | _::_,[],_,_=>by simp [lQ,jZ]
 | x::a,y::b,ha,hb=>by
  rw [lQ,jZ]
  by_cases e:x=y
  ·rw [if_pos e,if_pos e];exact tZ (fun z hz=>ha z (.tail _ hz)) (fun z hz=>hb z (.tail _ hz))
  ·rw [if_neg e,if_neg e,decide_eq_true_iff]
   lia
theorem tw (h:S.Ok) (hk:k<=S.n): ∀x∈ids S k,1<=x/\x<=9:=fun x hx=>by
 refine HQ (List.append_of_mem hx) fun u r e=>?_;have:=(kD h k hk u x r e).1;have h9:=h.n9;exact ⟨this.1,by have:=this.2; exact Nat.le_trans this h9⟩
theorem Jq (h:S.Ok) (hi:i<=S.n) (hj:j<=S.n):lQ (ch S i) (ch S j) < 0↔iO (ids S i) (ids S j)=true:=by
 rw [tZ fy fy,E5 (tw h hi) (tw h hj)]; rfl
noncomputable def eM {α:Type} (lt:Nat->Nat->Bool):KasT α->α
 | .ret a=>a
 | .ask i j k=>eM lt (k (lt i j))
theorem kE {α β:Type} (lt:Nat->Nat->Bool) (f:α->KasT β): ∀(t:KasT α),eM lt (t.bind f)=eM lt (f (eM lt t))
 | .ret a=>rfl
 | .ask i j k=>by
  refine (?_:eM lt ((k (lt i j)).bind f)=_);rw [kE lt f (k (lt i j))]; rfl
noncomputable def Up (lt:Nat->Nat->Bool) (p:Array Nat) (m:Nat):Prop:=∀i,1<=i->i < m->lt (p.getD i 0) (p.getD (i - 1) 0)=false
theorem Dl (lt:Nat->Nat->Bool) (p:Array Nat) (f n:Nat) (h1:1<=n) (h:Up lt p n):n<=eM lt (lZ p f n)/\eM lt (lZ p f n)<=n + f/\Up lt p (eM lt (lZ p f n)):=by
 induction f generalizing n with
 | zero=>exact ⟨Nat.le_refl _,Nat.le_refl _,h⟩
 | succ f ih=>
  have e:eM lt (lZ p (f + 1) n)=if lt (p.getD n 0) (p.getD (n - 1) 0)=true then n else eM lt (lZ p f (n + 1)):=by
   refine (?_:eM lt (if lt (p.getD n 0) (p.getD (n - 1) 0)=true then pV n else lZ p f (n + 1))=_);split <;> rfl
  rw [e]
  by_cases q:lt (p.getD n 0) (p.getD (n - 1) 0)=true
  ·rw [if_pos q]; exact ⟨Nat.le_refl _,Nat.le_add_right _ _,h⟩
  ·rw [if_neg q];have:=ih (n + 1) (Nat.le_add_left _ _) (fun i hi zB=>by
    by_cases e:i=n
    ·subst e; simpa using q
    ·exact h i hi (Nat.lt_of_le_of_ne (Nat.le_of_lt_succ zB) e))
   exact ⟨Nat.le_of_succ_le this.1,Nat.le_trans this.2.1 (Nat.le_of_eq (Nat.add_right_comm n 1 f)),this.2.2⟩
theorem place_spec (lt:Nat->Nat->Bool) (p:Array Nat) (k:Nat) (up: ∀i j,i < j->j < k->lt (p.getD k 0) (p.getD i 0)=true->lt (p.getD k 0) (p.getD j 0)=true): ∀(f l r:Nat),r - l<=f->l<=r->r<=k->
  (∀i,i < l->lt (p.getD k 0) (p.getD i 0)=false)->(∀i,r<=i->i < k->lt (p.getD k 0) (p.getD i 0)=true)->
  l<=eM lt (fP p k f l r)/\eM lt (fP p k f l r)<=r/\(∀i,i < eM lt (fP p k f l r)->lt (p.getD k 0) (p.getD i 0)=false)/\∀i,eM lt (fP p k f l r)<=i->i < k->lt (p.getD k 0) (p.getD i 0)=true
 | 0,l,r,h1,h2,h3,ha,hb=>by
  obtain rfl:l=r:=Nat.le_antisymm h2 (Nat.le_of_sub_eq_zero (Nat.eq_zero_of_le_zero h1));exact ⟨Nat.le_refl _,Nat.le_refl _,ha,hb⟩
 | f + 1,l,r,h1,h2,h3,ha,hb=>by
  by_cases Ox:l >= r
  ·obtain rfl:l=r:=Nat.le_antisymm h2 Ox;have e:eM lt (fP p k (f + 1) l l)=l:=by
    refine (?_:eM lt (if l >= l then pV l else _)=l);rw [if_pos (Nat.le_refl _)]; rfl
   rw [e];exact ⟨Nat.le_refl _,Nat.le_refl _,ha,hb⟩
  ·have e:eM lt (fP p k (f + 1) l r)=if lt (p.getD k 0) (p.getD ((l + r) / 2) 0)=true then eM lt (fP p k f l ((l + r) / 2)) else eM lt (fP p k f ((l + r) / 2 + 1) r):=by
    refine (?_:eM lt (if l >= r then pV l else _)=_);rw [if_neg Ox];refine (?_:eM lt (if lt (p.getD k 0) (p.getD ((l + r) / 2) 0)=true then fP p k f l ((l + r) / 2) else fP p k f ((l + r) / 2 + 1) r)=_);split <;> rfl
   rw [e];have m1:l<=(l + r) / 2:=(Nat.le_div_iff_mul_le Nat.zero_lt_two).mpr (Nat.le_trans (Nat.le_of_eq (Nat.mul_two l)) (Nat.add_le_add_left h2 l));have m2:(l + r) / 2 < r:=(Nat.div_lt_iff_lt_mul Nat.zero_lt_two).mpr (Nat.lt_of_lt_of_le (Nat.add_lt_add_right (Nat.lt_of_not_le Ox) r) (Nat.le_of_eq (Nat.mul_two r).symm))
   by_cases q:lt (p.getD k 0) (p.getD ((l + r) / 2) 0)=true
   ·rw [if_pos q];have:=place_spec lt p k up f l ((l + r) / 2) (Nat.le_of_lt_succ (Nat.lt_of_lt_of_le (Nat.sub_lt_sub_right m1 m2) h1)) m1 (Nat.le_of_lt (Nat.lt_of_lt_of_le m2 h3)) ha (fun i hi Lr=>by
     by_cases e:i=(l + r) / 2
     ·rw [e]; exact q
     ·exact up _ i (Nat.lt_of_le_of_ne hi (Ne.symm e)) Lr q)
    exact ⟨this.1,Nat.le_trans this.2.1 (Nat.le_of_lt m2),this.2.2⟩
   ·rw [if_neg q];have:=place_spec lt p k up f ((l + r) / 2 + 1) r (Nat.le_trans (Nat.sub_le_sub_left (Nat.succ_le_succ m1) r) (Nat.pred_le_pred h1)) (Nat.succ_le_of_lt ‹_›) h3 (fun i hi=>by
     by_cases e:i=(l + r) / 2
     ·rw [e]; simpa using q
     ·cases z:lt (p.getD k 0) (p.getD i 0) with
      | false=>rfl
      | true=>exact absurd (up i ((l + r) / 2) (Nat.lt_of_le_of_ne (Nat.le_of_lt_succ hi) e) (Nat.lt_of_lt_of_le ‹_› ‹_›) z) q) hb
    exact ⟨Nat.le_trans m1 (Nat.le_of_succ_le this.1),this.2.1,this.2.2⟩
noncomputable def Wd (lt:Nat->Nat->Bool) (p:Array Nat) (m:Nat):Prop:=∀i j,i < j->j < m->lt (p.getD j 0) (p.getD i 0)=false
theorem Bk (hk:k < p.size) {d:Nat} (hd:d<=k) (i:Nat):(NT p k d).getD i 0=if i=k - d then p.getD k 0 else if k - d < i/\i<=k then p.getD (i - 1) 0 else p.getD i 0:=by
 have z: ∀(q:Array Nat) (j:Nat),q.getD j 0=q[j]?.getD 0:=fun q j=>gB;rw [z,z,z,z,getElem?_bubble hk d hd i];split
 ·rfl
 ·split <;> rfl
theorem Bl (lt:Nat->Nat->Bool) (tr: ∀a b c,lt a b=true->lt c b=false->lt a c=true) (as: ∀a b,lt a b=true->lt b a=false): ∀(f:Nat) (p:Array Nat) (k:Nat),k + f=p.size->Wd lt p k->
  (eM lt (xj f p k)).Perm p/\(eM lt (xj f p k)).size=p.size/\Wd lt (eM lt (xj f p k)) p.size
 | 0,p,k,h,ha=>⟨ri _,rfl,by
  obtain rfl:k=p.size:=by lia
  exact ha⟩
 | f + 1,p,k,h,ha=>by
  have hk:k < p.size:=h ▸ Nat.lt_add_of_pos_right (Nat.succ_pos f);refine ve (place_spec lt p k (fun i j pJ hj z=>tr _ _ _ z (ha i j pJ hj)) k 0 k (Nat.sub_le _ _) (Nat.zero_le _) (Nat.le_refl _) (fun i hi=>by lia) (fun i h1 h2=>absurd h2 (Nat.not_lt.mpr h1))) fun q1 q2 q3 q4=>?_;obtain ⟨l,hl⟩: ∃l,l=eM lt (fP p k k 0 k):=⟨_,rfl⟩;rw [<- hl] at q2 q3 q4;have e:eM lt (xj (f + 1) p k)=eM lt (xj f (NT p k (k - l)) (k + 1)):=by
   refine (?_:eM lt ((fP p k k 0 k).bind fun l=>xj f (NT p k (k - l)) (k + 1))=_);rw [kE, <- hl]
  have g:=fun i=>Bk hk (d:=k - l) (Nat.sub_le _ _) i;have kl:k - (k - l)=l:=Nat.sub_sub_self q2;rw [kl] at g;have ih:=Bl lt tr as f (NT p k (k - l)) (k + 1) (by rw [bubble_size]; exact (Nat.add_right_comm k 1 f).trans h) (fun i j pJ hj=>by
   rw [g i,g j]
   by_cases j1:j=l
   ·rw [if_pos j1,if_neg (Nat.ne_of_lt (j1 ▸ pJ)),if_neg (fun q=>Nat.lt_asymm q.1 (j1 ▸ pJ))];exact q3 i (j1 ▸ pJ)
   ·rw [if_neg j1]
    by_cases j2:l < j
    ·rw [if_pos ⟨j2,Nat.le_of_lt_succ ‹_›⟩]
     by_cases i1:i=l
     ·rw [if_pos i1]; exact as _ _ (q4 (j - 1) (Nat.le_sub_one_of_lt j2) (Nat.lt_of_lt_of_le (Nat.sub_lt (Nat.lt_of_le_of_lt (Nat.zero_le _) j2) Nat.one_pos) (Nat.le_of_lt_succ hj)))
     ·rw [if_neg i1]
      by_cases i2:l < i
      ·rw [if_pos ⟨i2,Nat.le_of_lt_succ (Nat.lt_trans pJ hj)⟩]; exact ha (i - 1) (j - 1) (Nat.sub_lt_sub_right (Nat.lt_of_le_of_lt (Nat.zero_le _) i2) pJ) (Nat.lt_of_lt_of_le (Nat.sub_lt (Nat.lt_of_le_of_lt (Nat.zero_le _) j2) Nat.one_pos) (Nat.le_of_lt_succ hj))
      ·rw [if_neg (fun q=>i2 q.1)];exact ha i (j - 1) (Nat.lt_of_lt_of_le (Nat.lt_of_le_of_ne (Nat.le_of_not_lt i2) i1) (Nat.le_sub_one_of_lt j2)) (Nat.lt_of_lt_of_le (Nat.sub_lt (Nat.lt_of_le_of_lt (Nat.zero_le _) j2) Nat.one_pos) (Nat.le_of_lt_succ hj))
    ·rw [if_neg (fun q=>j2 q.1),if_neg (Nat.ne_of_lt (Nat.lt_of_lt_of_le pJ (Nat.le_of_not_lt j2))),if_neg (fun q=>j2 (Nat.lt_trans q.1 pJ))];exact ha i j pJ (Nat.lt_of_lt_of_le (Nat.lt_of_le_of_ne (Nat.le_of_not_lt j2) j1) q2))
  rw [e];rw [bubble_size] at ih;exact ⟨ih.1.trans (bubble_perm _ _ _),ih.2.1,ih.2.2⟩
noncomputable def Dn (lt:Nat->Nat->Bool) (p:Array Nat) (m:Nat):Prop:=∀i,1<=i->i < m->lt (p.getD i 0) (p.getD (i - 1) 0)=true
theorem My (lt:Nat->Nat->Bool) (p:Array Nat) (Oz: ∀i,1<=i->i < p.size->lt (p.getD i 0) (p.getD (i - 1) 0)=false->lt (p.getD (i - 1) 0) (p.getD i 0)=true) (f n:Nat) (h1:1<=n) (hz:n + f<=p.size) (h:Dn lt p n):
  ∃m,eM lt (jQ f p n 0)=(p,m,0)/\n<=m/\m<=n + f/\Dn lt p m:=by
 induction f generalizing n with
 | zero=>exact ⟨n,rfl,Nat.le_refl _,Nat.le_refl _,h⟩
 | succ f ih=>
  have e:eM lt (jQ (f + 1) p n 0)=if lt (p.getD n 0) (p.getD (n - 1) 0)=true then eM lt (jQ f p (n + 1) 0) else if lt (p.getD (n - 1) 0) (p.getD n 0)=true then (p,n,0) else eM lt (jQ f p (n + 1) 1):=by
   refine (?_:eM lt (if lt (p.getD n 0) (p.getD (n - 1) 0)=true then (if 0 > 0 then jQ f (sQ p (n - (0 + 1)) n) (n + 1) 0 else jQ f p (n + 1) 0) else KasT.ask (p.getD (n - 1) 0) (p.getD n 0) fun d=>if d=true then pV (p,n,0) else jQ f p (n + 1) (0 + 1))=_);rw [if_neg (by lia: ¬(0:Nat) > 0)];split
   ·rfl
   ·refine (?_:eM lt (if lt (p.getD (n - 1) 0) (p.getD n 0)=true then pV (p,n,0) else jQ f p (n + 1) (0 + 1))=_);split <;> rfl
  rw [e]
  by_cases q:lt (p.getD n 0) (p.getD (n - 1) 0)=true
  ·rw [if_pos q];refine lj (ih (n + 1) (Nat.le_add_left _ _) (Nat.le_trans (Nat.le_of_eq (Nat.add_right_comm n 1 f)) hz) (fun i hi zB=>by
    by_cases e:i=n
    ·subst e; exact q
    ·exact h i hi (Nat.lt_of_le_of_ne (Nat.le_of_lt_succ zB) e))) fun m a b c d=>?_
   exact ⟨m,a,Nat.le_of_succ_le ‹_›,Nat.le_trans c (Nat.le_of_eq (Nat.add_right_comm n 1 f)),d⟩
  ·rw [if_neg q,if_pos (Oz n h1 (Nat.lt_of_lt_of_le (Nat.lt_add_of_pos_right (Nat.succ_pos f)) hz) (by simpa using q))];exact ⟨n,rfl,Nat.le_refl _,Nat.le_add_right _ _,h⟩
theorem Xo {m d:Nat} (a:d<=i) (b:i < m - d) (c:m < 2 * (d + 1)):i=m - 1 - i:=by
 have c':m<=d + d + 1:=Nat.add_right_comm d 1 d ▸ Nat.le_of_lt_succ (Nat.lt_of_lt_of_le c (Nat.le_of_eq (Nat.two_mul (d + 1))));have e:i + d < m:=Nat.add_lt_of_lt_sub b;obtain rfl:i=d:=Nat.le_antisymm (Nat.le_of_add_le_add_right (Nat.le_of_lt_succ (Nat.lt_of_lt_of_le e c'))) a;obtain rfl:m=i + i + 1:=Nat.le_antisymm c' e;exact (Nat.add_sub_cancel ..).symm
theorem Bm {m:Nat} (hm:m<=p.size) (i:Nat) (hi:i < m):(sQ p 0 m).getD i 0=p.getD (m - 1 - i) 0:=by
 have z: ∀(q:Array Nat) (j:Nat),q.getD j 0=q[j]?.getD 0:=fun q j=>gB;unfold sQ;rw [z,z,getElem?_mirror hm ((m - 0) / 2) (Nat.mul_div_le _ _) i];split
 ·exact congrArg (fun k=>p[k - 1 - i]?.getD 0) (Nat.zero_add m)
 ·rename_i h;exact congrArg (fun k=>p[k]?.getD 0) (Xo (Nat.le_of_not_lt fun q=>h (.inl ⟨Nat.zero_le _,Nat.lt_of_lt_of_le q (Nat.le_of_eq (Nat.zero_add _).symm)⟩)) (Nat.lt_of_not_le fun q=>h (.inr ⟨q,hi⟩)) (Nat.lt_mul_div_succ m Nat.zero_lt_two))
theorem Dm {r:Nat->Int} {m:Nat} (h:Up (fun a b=>decide (r a < r b)) p m):Wd (fun a b=>decide (r a < r b)) p m:=by
 have key: ∀d i,i + d < m->r (p.getD i 0)<=r (p.getD (i + d) 0):=by
  intro d
  induction d with
  | zero=>intro i _; exact Sz _
  | succ d ih=>
   intro i hi;have a:=ih i (Nat.lt_of_succ_lt hi);have b:=h (i + d + 1) (Nat.le_add_left _ _) hi;simp only [decide_eq_false_iff_not,Nat.add_sub_cancel] at b;rw [show i + (d + 1)=i + d + 1 from rfl];exact d9 a (dJ.mp b)
 intro i j pJ hj;have:=key (j - i) i (Nat.lt_of_le_of_lt (Nat.le_of_eq (Nat.add_sub_cancel' (Nat.le_of_lt pJ))) hj);rw [show i + (j - i)=j from Nat.add_sub_cancel' (Nat.le_of_lt pJ)] at this;simp only [decide_eq_false_iff_not];exact dJ.mpr this
noncomputable abbrev rl (r:Nat->Int):Nat->Nat->Bool:=fun a b=>decide (r a < r b)
theorem Dp (r:Nat->Int) {nrem:Nat} (h1:1<=n) (hn:n<=nrem) (hz:nrem<=p.size) (hd:Dn (rl r) p n):
  ∃m q,eM (rl r) (RI n nrem p)=(m,q)/\n<=m/\m<=nrem/\q.Perm p/\q.size=p.size/\Up (rl r) q m:=by
 have up:Up (rl r) (sQ p 0 n) n:=fun i hi zB=>by
  rw [Bm (Nat.le_trans ‹_› ‹_›) i zB,Bm (Nat.le_trans ‹_› ‹_›) (i - 1) (Nat.sub_lt_of_lt ‹_›)];have:=hd (n - i) (Nat.sub_pos_of_lt zB) (Nat.sub_lt h1 hi);rw [show n - 1 - i=n - i - 1 from Nat.sub_right_comm ..,show n - 1 - (i - 1)=n - i from (Nat.sub_sub ..).trans (congrArg (n - ·) (Nat.add_sub_cancel' hi))];simp only [rl,decide_eq_true_iff] at this;simp only [rl,decide_eq_false_iff_not];exact dJ.mpr (tP this)
 refine xy (Dl (rl r) (sQ p 0 n) (nrem - n) n h1 up) fun a b c=>?_;refine ⟨_,sQ p 0 n,?_,a,Nat.le_trans b (Nat.le_of_eq (Nat.add_sub_cancel' hn)),mirror_perm _ _ _ _,mirror_size _ _ _ _,c⟩;unfold RI;rw [kE]; rfl
theorem Dq (r:Nat->Int) (h2:2<=p.size) (Oz: ∀i,1<=i->i < p.size->r (p.getD i 0)≠r (p.getD (i - 1) 0)):
  ∃m q,eM (rl r) (RJ p.size p)=(m,q)/\1<=m/\m<=p.size/\q.Perm p/\q.size=p.size/\Up (rl r) q m:=by
 refine xy (Dl (rl r) p (p.size - 1) 1 (Nat.le_refl _) (fun i h1 h2=>absurd h2 (Nat.not_lt.mpr h1))) fun a b c=>?_;obtain ⟨n,hn⟩: ∃n,n=eM (rl r) (lZ p (p.size - 1) 1):=⟨_,rfl⟩;rw [<- hn] at a b c;unfold RJ;rw [kE, <- hn]
 by_cases e1:n=p.size
 ·rw [if_pos (by simpa using e1)];exact ⟨n,p,rfl,a,Nat.le_of_eq ‹_›,ri _,rfl,c⟩
 ·rw [if_neg (by simpa using e1)]
  by_cases e2:n > 1
  ·rw [if_pos e2];have ZZ:=Dm c;have h0:rl r (p.getD 0 0) (p.getD (n - 1) 0)=true:=by
    have q:=ZZ 0 (n - 1) (Nat.sub_pos_of_lt e2) (Nat.sub_lt a Nat.one_pos);have q1:=c 1 (Nat.le_refl _) e2;have t1:=Oz 1 (Nat.le_refl _) (Nat.lt_of_succ_le ‹_›);have q2:r (p.getD 1 0)<=r (p.getD (n - 1) 0):=by
     by_cases z:n - 1=1
     ·rw [z]; exact Sz _
     ·have:=ZZ 1 (n - 1) (Nat.lt_of_le_of_ne (Nat.le_sub_one_of_lt e2) (Ne.symm z)) (Nat.sub_lt a Nat.one_pos);simp only [decide_eq_false_iff_not] at this;exact dJ.mp this
    simp only [rl,decide_eq_false_iff_not,Nat.sub_self] at q1 t1 ⊢;simp only [decide_eq_true_iff];exact su (qh.mpr ⟨dJ.mp q1,Ne.symm t1⟩) q2
   refine ⟨n,p,?_,a,Nat.le_trans b (Nat.le_of_eq (Nat.add_sub_cancel' (Nat.le_of_lt h2))),ri _,rfl,c⟩;refine (?_:eM (rl r) (if rl r (p.getD 0 0) (p.getD (n - 1) 0)=true then pV (n,p) else _)=_);rw [if_pos h0]; rfl
  ·rw [if_neg e2];obtain rfl:n=1:=Nat.le_antisymm (Nat.le_of_not_lt e2) a;have Qa:rl r (p.getD 1 0) (p.getD 0 0)=true:=by
    obtain ⟨f,hf⟩: ∃f,p.size - 1=f + 1:=⟨p.size - 2,(Nat.sub_add_cancel (Nat.le_sub_one_of_lt h2)).symm⟩;rw [hf] at hn;have e:eM (rl r) (lZ p (f + 1) 1)=if rl r (p.getD 1 0) (p.getD 0 0)=true then 1 else eM (rl r) (lZ p f 2):=by
     refine (?_:eM (rl r) (if rl r (p.getD 1 0) (p.getD 0 0)=true then pV 1 else lZ p f 2)=_);split <;> rfl
    rw [e] at hn
    by_cases q:rl r (p.getD 1 0) (p.getD 0 0)=true
    ·exact q
    ·rw [if_neg q] at hn;have:=(Dl (rl r) p f 2 (Nat.le_add_left _ _) (fun i h1 h2=>by
      obtain rfl:i=1:=Nat.le_antisymm (Nat.le_of_lt_succ h2) h1
      simpa using q)).1
     exact absurd (hn ▸ this) (by decide)
   refine lj (My (rl r) p (fun i h1 h2 h3=>by
    have:=Oz i h1 h2;simp only [rl,decide_eq_false_iff_not] at h3;simp only [rl,decide_eq_true_iff];exact qh.mpr ⟨dJ.mp h3,Ne.symm this⟩) (p.size - (1 + 1)) (1 + 1) (Nat.le_add_right _ _) (Nat.le_of_eq (Nat.add_sub_cancel' h2)) (fun i h1 h2=>by
    obtain rfl:i=1:=Nat.le_antisymm (Nat.le_of_lt_succ h2) h1;exact Qa)) fun m x1 x2 x3 x4=>?_
   refine kF (Dp r (p:=p) (n:=m) (nrem:=p.size) (Nat.le_of_succ_le ‹_›) (Nat.le_trans x3 (Nat.le_of_eq (Nat.add_sub_cancel' h2))) (Nat.le_refl _) x4) fun m' q y1 y2 y3 y4 y5 y6=>?_;refine ⟨m',q,?_,Nat.le_trans (Nat.le_of_succ_le x2) y2,y3,y4,y5,y6⟩;unfold kas_descPart;rw [kE,x1];exact y1
theorem Jr (n:Nat) (i:Nat) (h:i < n):(List.toArray (List.range n)).getD i 0=i:=by
 rw [gB]; simp [h]
theorem tB (r:Nat->Int) (h2:2<=n) (inj: ∀i j,i < n->j < n->r i=r j->i=j):
  (eM (rl r) (iy n)).Perm (List.toArray (List.range n))/\(eM (rl r) (iy n)).size=n/\Wd (rl r) (eM (rl r) (iy n)) n:=by
 have sz:(List.toArray (List.range n)).size=n:=by simp
 refine kF (Dq r (p:=List.toArray (List.range n)) (by rw [sz]; exact h2) (fun i h1 hi=>by
  rw [sz] at hi;rw [Jr n i hi,Jr n (i - 1) (Nat.sub_lt_of_lt ‹_›)];intro e;have:=inj _ _ hi (Nat.sub_lt_of_lt ‹_›) e;exact Nat.lt_irrefl i (Nat.lt_of_le_of_lt (Nat.le_of_eq this) (Nat.sub_lt h1 Nat.one_pos)))) fun m q c1 c2 c3 c4 c5 c6=>?_
 rw [sz] at c1 c3 c5;unfold iy;rw [kE,c1]
 by_cases hm:m < n
 ·rw [if_pos hm];have hmx:max m 1=m:=Nat.max_eq_left c2;rw [hmx];have:=Bl (rl r) (fun a b c x y=>by
   simp only [rl,decide_eq_true_iff,decide_eq_false_iff_not] at *; exact su x (dJ.mp y)) (fun a b x=>by
   simp only [rl,decide_eq_true_iff,decide_eq_false_iff_not] at *; exact dJ.mpr (tP x)) (n - m) q m ((Nat.add_sub_cancel' c3).trans c5.symm) (Dm c6)
  rw [c5] at this;exact ⟨this.1.trans c4,this.2.1,this.2.2⟩
 ·rw [if_neg hm];obtain rfl:m=n:=aE c3 hm;exact ⟨c4,c5,Dm c6⟩
noncomputable def i9 {α:Type} (n:Nat) (P:α->Prop):KasT α->Prop
 | .ret a=>P a
 | .ask i j k=>i < n/\j < n/\∀b,i9 n P (k b)
theorem i9.mono {α:Type} {P P':α->Prop} (h: ∀a,P a->P' a): ∀{t:KasT α},i9 n P t->i9 n P' t
 | .ret a,q=>h a q
 | .ask i j k,⟨a,b,c⟩=>⟨a,b,fun x=>(c x).mono h⟩
theorem i9.bind {α β:Type} {P:α->Prop} {R:β->Prop} {f:α->KasT β}: ∀{t:KasT α},i9 n P t->(∀a,P a->i9 n R (f a))->i9 n R (t.bind f)
 | .ret a,q,h=>h a q
 | .ask i j k,⟨a,b,c⟩,h=>⟨a,b,fun x=>(c x).bind h⟩
noncomputable def uX (n:Nat) (p:Array Nat):Prop:=∀x∈p.toList,x < n
theorem uX.get (h:uX n p) (h0:0 < n) (i:Nat):p.getD i 0 < n:=by
 by_cases q:i < p.size
 ·have e:p.getD i 0=p[i]:=by simp [EF,q]
  rw [e];exact h _ (by simp)
 ·have e:p.getD i 0=0:=by simp [EF,q]
  rw [e]; exact h0
theorem uX.perm {q:Array Nat} (h:uX n p) (e:q.Perm p):uX n q:=fun x hx=>h x ((Array.perm_iff_toList_perm.mp e).mem_iff.mp hx)
theorem uX.rev (h:uX n p) (i j:Nat):uX n (sQ p i j):=h.perm (mirror_perm _ _ _ _)
theorem uX.bub (h:uX n p) (i j:Nat):uX n (NT p i j):=h.perm (bubble_perm _ _ _)
theorem wg (h0:0 < n) (h:uX n p): ∀(f m:Nat),i9 n (fun _=>True) (lZ p f m)
 | 0,m=>trivial
 | f + 1,m=>⟨h.get h0 _,h.get h0 _,fun b=>by
  cases b with
  | true=>exact trivial
  | false=>exact wg h0 h f (m + 1)⟩
theorem pO (h0:0 < n): ∀(f:Nat) {p:Array Nat} (h:uX n p) (m q:Nat),i9 n (fun r=>uX n r.1) (jQ f p m q)
 | 0,p,h,m,q=>h
 | f + 1,p,h,m,q=>⟨h.get h0 _,h.get h0 _,fun b=>by
  cases b with
  | true=>
   refine (?_:i9 n _ (if q > 0 then jQ f (sQ p (m - (q + 1)) m) (m + 1) 0 else jQ f p (m + 1) 0));split
   ·exact pO h0 f (h.rev _ _) _ _
   ·exact pO h0 f h _ _
  | false=>
   exact ⟨h.get h0 _,h.get h0 _,fun d=>by
    cases d with
    | true=>exact h
    | false=>exact pO h0 f h _ _⟩⟩
theorem wh (h0:0 < n) (h:uX n p) (m r:Nat):i9 n (fun x=>uX n x.2) (RI m r p):=(wg h0 (h.rev _ _) _ _).bind fun a _=>h.rev _ _
theorem qz (h0:0 < n) (h:uX n p) (m r:Nat):i9 n (fun x=>uX n x.2) (kas_descPart m r p):=(pO h0 _ h _ _).bind fun a ha=>by
 split
 ·exact wh h0 (ha.rev _ _) _ _
 ·exact wh h0 ha _ _
theorem Dr (h0:0 < n) (h:uX n p) (r:Nat):i9 n (fun x=>uX n x.2) (RJ r p):=(wg h0 h _ _).bind fun m _=>by
 split
 ·exact h
 ·split
  ·exact ⟨h.get h0 _,h.get h0 _,fun b=>by
    cases b with
    | true=>exact h
    | false=>exact qz h0 (h.rev _ _) _ _⟩
  ·exact qz h0 h _ _
theorem qT (h0:0 < n) (h:uX n p) (k:Nat): ∀(f l r:Nat),i9 n (fun _=>True) (fP p k f l r)
 | 0,l,r=>trivial
 | f + 1,l,r=>by
  refine (?_:i9 n _ (if l >= r then .ret l else .ask (p.getD k 0) (p.getD ((l + r) / 2) 0) fun c=>if c=true then fP p k f l ((l + r) / 2) else fP p k f ((l + r) / 2 + 1) r));split
  ·exact trivial
  ·exact ⟨h.get h0 _,h.get h0 _,fun b=>by
    cases b with
    | true=>exact qT h0 h k f _ _
    | false=>exact qT h0 h k f _ _⟩
theorem Bo (h0:0 < n): ∀(f:Nat) {p:Array Nat} (h:uX n p) (k:Nat),i9 n (fun x=>uX n x) (xj f p k)
 | 0,p,h,k=>h
 | f + 1,p,h,k=>(qT h0 h k _ _ _).bind fun l _=>Bo h0 f (h.bub _ _) _
theorem Gw (h0:0 < n):i9 n (fun _=>True) (iy n):=by
 have h:uX n (List.toArray (List.range n)):=fun x hx=>by simpa using hx
 refine (Dr h0 h n).bind fun r hr=>?_;split
 ·exact (Bo h0 _ hr _).mono fun _ _=>trivial
 ·exact trivial
theorem yH {α:Type} {cmp:Nat->Nat->(Bool->aj->Prop)->aj->Prop} {I:aj->Prop} {lt:Nat->Nat->Bool} (hc: ∀i j,i < n->j < n->∀(C:Bool->aj->Prop) s,I s->(∀s',I s'->C (lt i j) s')->cmp i j C s) {P:α->Prop} {Q:α->aj->Prop}:
  ∀(t:KasT α),i9 n P t->∀s,I s->(∀s',I s'->Q (eM lt t) s')->t.kasWp cmp Q s
 | .ret a,_,s,hs,h=>h s hs
 | .ask i j k,⟨a,b,c⟩,s,hs,h=>hc i j a b _ s hs fun s' CB=>yH hc (k (lt i j)) (c _) s' CB h
section
variable (prog:br) (w:bR) (G:Heap)
@[irreducible] noncomputable def HT (n:Nat) (t:ai->ai->Sem Bool) (d1 d2:Sv) (b:Bool):Prop:=
 ∀(A:aM) (E:ai->aj->Prop) (Q:Bool->aj->Prop) (Φ D:Led) (v1 v2:ai) (s:aj),cQ n A->au G Φ D s.heap->bw D v1 d1->bw D v2 d2->
  (∀s' D',Sm s s'->au G Φ D' s'.heap->(∀p∈D,p∈D')->Q b s')->ak (aq prog w) A (t v1 v2) Q E s
theorem HT.mk {prog:br} {w:bR} {G:Heap} {t:ai->ai->Sem Bool} {d1 d2:Sv} {b:Bool} (h: ∀(A:aM) (E:ai->aj->Prop) (Q:Bool->aj->Prop) (Φ D:Led) (v1 v2:ai) (s:aj),cQ n A->au G Φ D s.heap->bw D v1 d1->bw D v2 d2->
  (∀s' D',Sm s s'->au G Φ D' s'.heap->(∀p∈D,p∈D')->Q b s')->ak (aq prog w) A (t v1 v2) Q E s):HT prog w G n t d1 d2 b:=by with_unfolding_all exact h
theorem HT.go {prog:br} {w:bR} {G:Heap} {t:ai->ai->Sem Bool} {d1 d2:Sv} {b:Bool} (h:HT prog w G n t d1 d2 b): ∀(A:aM) (E:ai->aj->Prop) (Q:Bool->aj->Prop) (Φ D:Led) (v1 v2:ai) (s:aj),cQ n A->au G Φ D s.heap->bw D v1 d1->bw D v2 d2->
  (∀s' D',Sm s s'->au G Φ D' s'.heap->(∀p∈D,p∈D')->Q b s')->ak (aq prog w) A (t v1 v2) Q E s:=by with_unfolding_all exact h
@[irreducible] noncomputable def j0 (κ:Ce) (ks:List Sv):Prop:=
 ∀(A:aM) (E:ai->aj->Prop) (Q:Ce->aj->Prop) (Φ D:Led) (vs:List ai) (s:aj),au G Φ D s.heap->bP D vs ks->Q κ s->ak (aq prog w) A (keyKind' vs.toArray) Q E s
theorem j0.mk {prog:br} {w:bR} {G:Heap} (h: ∀(A:aM) (E:ai->aj->Prop) (Q:Ce->aj->Prop) (Φ D:Led) (vs:List ai) (s:aj),au G Φ D s.heap->bP D vs ks->Q κ s->ak (aq prog w) A (keyKind' vs.toArray) Q E s):j0 prog w G κ ks:=by with_unfolding_all exact h
theorem j0.go {prog:br} {w:bR} {G:Heap} (h:j0 prog w G κ ks): ∀(A:aM) (E:ai->aj->Prop) (Q:Ce->aj->Prop) (Φ D:Led) (vs:List ai) (s:aj),au G Φ D s.heap->bP D vs ks->Q κ s->ak (aq prog w) A (keyKind' vs.toArray) Q E s:=by with_unfolding_all exact h
end
noncomputable def gu (r:Nat->Int) (n:Nat):List Nat:=if n < 2 then List.range n else (eM (rl r) (iy n)).toList
section
variable {Φ:Led}
theorem au.turn (W:au G ((a,o)::Φ) D h) (hs:cz a h h') (e:h'.get? a=some o') (hn: ∀q∈Φ,q.1≠a):au G ((a,o')::Φ) D h':=by
 have ga:G.get? a=none:=(W.pin (a,o) (mR ((.head _)))).2;refine ⟨fun b ob eb=>(hs.2 b (fun q=>by rw [q,ga] at eb; cases eb)).trans (W.keep b ob eb),fun p hp=>?_,fun p hp q hq=>?_,by rw [hs.1]; exact W.sz⟩
 ·refine cE hp (fun hp=>?_) (fun hp=>?_)
  ·have q:=W.pin p (mL hp);exact ⟨(hs.2 _ (W.ap p hp (a,o) (.head _))).trans q.1,q.2⟩
  ·refine bU hp ?_ (fun hp=>?_)
   ·exact ⟨e,ga⟩
   ·have q:=W.pin p (mR ((.tail _ hp)));exact ⟨(hs.2 _ (hn p hp)).trans q.1,q.2⟩
 ·exact bU hq (W.ap p hp (a,o) (.head _)) fun hq=>W.ap p hp q (.tail _ hq)
theorem au.yI (W:au G Φ D h) (hf:o.isFreed=false):au G ((h.objs.size,o)::Φ) D (h.push o)/\∀q∈D++Φ,q.1≠h.objs.size:=by
 have lt: ∀q∈D++Φ,q.1≠h.objs.size:=fun q hq=>Nat.ne_of_lt (az (W.pin q hq).1);refine ⟨⟨fun b ob eb=>av _ (W.keep b ob eb),fun p hp=>?_,fun p hp q hq=>?_,by rw [bG]; exact Nat.le_succ_of_le W.sz⟩,lt⟩
 ·refine cE hp (fun hp=>?_) (fun hp=>?_)
  ·have q:=W.pin p (mL hp); exact ⟨av _ q.1,q.2⟩
  ·refine bU hp ?_ (fun hp=>?_)
   ·exact ⟨aJ _ hf,gP W.sz⟩
   ·have q:=W.pin p (mR hp); exact ⟨av _ q.1,q.2⟩
 ·exact bU hq (lt p (mL hp)) fun hq=>W.ap p hp q hq
theorem au.freeze (W:au G ((a,o)::Φ) D h) (hn: ∀q∈Φ,q.1≠a):au G Φ ((a,o)::D) h:=by
 refine ⟨W.keep,fun p hp=>W.pin p ?_,fun p hp q hq=>?_,W.sz⟩
 ·exact cE hp (fun hp=>bU hp (mR ((.head _))) fun hp=>mL hp) fun hp=>mR ((.tail _ hp))
 ·exact bU hp (Ne.symm (hn q hq)) fun hp=>W.ap p hp q (.tail _ hq)
theorem au.off (W:au G ((a,o)::Φ) D h):au G Φ D h:=W.sub fun _ hp=>.tail _ hp
end
theorem bP.snoc {ds:List Sv} (h:bP D vs ds) (k:bw D v d):bP D (vs++[v]) (ds++[d]):=by
 induction h with
 | nil=>exact .cons k .nil
 | cons a _ ih=>exact .cons a ih
theorem bP.at {ds:List Sv} (h:bP D vs ds) (e:ds[i]? =some d): ∃v,vs[i]? =some v/\bw D v d:=by
 induction h generalizing i with
 | nil=>exact nomatch e
 | cons a _ ih=>cases i with
  | zero=>exact ⟨_,rfl,aH e ▸ a⟩
  | succ i=>exact ih e
theorem Qc (h:n < 64):n<=bF:=Nat.le_trans (Nat.le_of_lt h) (by rw [gi]; decide)
noncomputable def wj (a:Addr) (e1:Nat) (st:SortSt):Sem gz:=do
 let touched:=(<- seqEpoch a) != e1
 Builtin.List.listUpdate (.ref a) fun _=>(arrOf st).map (·.2)
 if let some e:=Vu st then rule "list.sort.comparison-raised"; throw e
 if touched then rule "list.sort.modified"; raiseError "ValueError" "list modified during sort"
 ret .none
theorem E6 {P:gz->aj->Prop} {Φ:Led} {e1:Nat} {st:SortSt} {out:List ai} (W:au G ((a,dO "list" #[] e1)::Φ) D s.heap) (CD: ∀q∈Φ,q.1≠a) (Qd:(arrOf st).map (·.2)=out.toArray) (hz:out.length < 64) (wk:Vu st=none) (q: ∀s' c,Sm s s'->au G ((a,dO "list" out.toArray c)::Φ) D s'.heap->P (.done (.ret .none)) s'):ak (aq prog w) A (wj a e1 st) P E s:=by
 have na:=(W.pin (a,dO "list" #[] e1) (mR (.head _))).1;unfold wj;rw [Qd,wk];refine ae (K9 na rfl (ae (oq na rfl ?_ (Nat.zero_le _) (Nat.le_of_lt (Nat.lt_trans hz (by rw [gi]; decide))))));refine kG (by rw [bne_self_eq_false]; decide) (ah ?_);exact q _ _ ⟨rfl,rfl⟩ (W.turn (bH ..) (jg na fun _=>out.toArray) CD)
theorem Bp {P:gz->aj->Prop} {Ψ:Led} {kv:List ai} {r:Nat->Int} {T:SortSt->Sem gz} (hA:cQ n A) (W:au G Ψ D s.heap) (HU:bP D kv ks) (E7:kv.length=vs.length) (zS:vs.length < 64) (hk:2<=vs.length->j0 prog w G κ ks) (hc: ∀(i j:Nat) (di dj:Sv),ks[i]? =some di->ks[j]? =some dj->HT prog w G n (uN κ) di dj (rl r i j)) (fin: ∀st s2 D2,(gu r vs.length).length=vs.length->(arrOf st).map (·.2)=List.toArray ((gu r vs.length).map fun i=>vs.getD i .none)->Vu st=none->Sm s s2->au G Ψ D2 s2.heap->(∀p∈D,p∈D2)->ak (aq prog w) A (T st) P E s2):ak (aq prog w) A (do
   let kind <- if vs.toArray.size < 2 then pure general' else keyKind' kv.toArray
   let ((),s) <-(if vs.toArray.size < 2 then pure () else sortRuns').run (SortSt.mk' kind (kv.toArray.zip vs.toArray) #[] 7 none)
   T s) P E s:=by
 by_cases h2:vs.length < 2
 ·have eP:gu r vs.length=List.range vs.length:=if_pos h2;rw [eP] at fin;rw [if_pos (by rw [List.size_toArray]; exact h2),if_pos (by rw [List.size_toArray]; exact h2)];refine ae (ah (ae (ah (fin _ s D List.length_range ?_ rfl (Sm.refl s) W fun _ h=>h))));refine (?_:(Array.zip (List.toArray kv) vs.toArray).map (·.2)=_);apply tQ.mp;rw [Array.toList_map,ksk_zip,List.toList_toArray,List.map_snd_zip (Nat.le_of_eq E7.symm)];refine List.ext_getElem (by rw [List.length_map,List.length_range]) fun i h1 h3=>?_;rw [List.getElem_map,List.getElem_range,List.getD_eq_getElem?_getD,List.getElem?_eq_getElem h1]; rfl
 ·have eP:gu r vs.length=(eM (rl r) (iy vs.length)).toList:=if_neg h2;rw [eP] at fin;have kl:=HU.length;rw [if_neg (by rw [List.size_toArray]; exact h2),if_neg (by rw [List.size_toArray]; exact h2)];refine ae ((hk (Nat.le_of_not_lt h2)).go A E _ _ D kv s W HU ?_);refine ae (aN (kat_run (κ:=κ) (ks:=kv) (vs:=vs) (Q:=fun st s'=>ak (aq prog w) A (T st) P E s')
   (G:=fun p s2=>(∃D2,Sm s s2/\au G Ψ D2 s2.heap/\(∀p∈D,p∈D2))/\p=eM (rl r) (iy vs.length)) E7 (Nat.le_of_not_lt h2) zS
   (fun p st s2 hp Qd wk hG=>iU hG.1 fun D2 yy W2 vU=>fin st s2 D2 (hG.2 ▸ hp) (hG.2 ▸ kat_snds E7 Qd) wk yy W2 vU) ?_) (fun _ _ hx=>hx) fun _ _ z=>z)
  refine yH (n:=vs.length) (I:=fun s2=>∃D2,Sm s s2/\au G Ψ D2 s2.heap/\(∀p∈D,p∈D2)) (lt:=rl r) (fun i j hi hj C s2 hI hC=>iU hI fun D2 yy W2 vU=>?_) _ (Gw (Nat.lt_of_lt_of_le Nat.zero_lt_two (Nat.le_of_not_lt h2))) s ⟨D,Sm.refl s,W,fun _ h=>h⟩ (fun s2 hI=>⟨hI,rfl⟩);have IK:ks[i]? =some _:=List.getElem?_eq_getElem (kl ▸ E7.symm ▸ hi);have Tt:ks[j]? =some _:=List.getElem?_eq_getElem (kl ▸ E7.symm ▸ hj);refine bQ ((HU.mono vU).at IK) fun vi ei qi=>bQ ((HU.mono vU).at Tt) fun vj ej qj=>?_;unfold kas_ask;rw [List.getD_eq_getElem?_getD,ei,List.getD_eq_getElem?_getD,ej];exact (hc i j _ _ IK Tt).go A _ _ _ D2 vi vj s2 hA W2 qi qj fun s3 D3 Sd W3 V3=>hC s3 ⟨D3,yy.trans Sd,W3,fun p hp=>V3 p (vU p hp)⟩
theorem Js {P:gz->aj->Prop} {Φ:Led} {n0:Nat} {ds:List Sv} {r:Nat->Int} (hA:cQ n A) (W:au G ((a,dO "list" vs.toArray n0)::Φ) D s.heap) (CD: ∀q∈Φ,q.1≠a) (hv:bP D vs ds) (hl:ks.length=ds.length) (zS:ds.length < 64) (turn: ∀(i:Nat) (d k:Sv),ds[i]? =some d->ks[i]? =some k->CQ prog w G n (fun v=>call f [v]) d k) (hk:2<=ds.length->j0 prog w G κ ks) (hc: ∀(i j:Nat) (di dj:Sv),ks[i]? =some di->ks[j]? =some dj->HT prog w G n (uN κ) di dj (rl r i j)) (q: ∀s' D' c,Sm s s'->au G ((a,dO "list" (List.toArray ((gu r ds.length).map fun i=>vs.getD i .none)) c)::Φ) D' s'.heap->(∀p∈D,p∈D')->P (.done (.ret .none)) s'):ak (aq prog w) A (ksk_tree a f false) P E s:=by
 have rz:vs.length=ds.length:=hv.length;have xR:vs.length < 64:=rz.symm ▸ zS;have Qe:=(W.pin (a,dO "list" vs.toArray n0) (mR (.head _))).1;unfold ksk_tree;refine ae (eH Qe rfl (ae (oq Qe rfl ?_ (Qc xR) (Nat.zero_le _))));refine ex (⟨_,jg Qe fun _=> #[]⟩: ∃e1,(s.heap.update a (cC fun _=>(#[]:Array ai))).get? a=some (dO "list" #[] e1)) fun e1 IQ=>?_;refine ae (K9 IQ rfl (ae (iz ?_ (Qc xR))));refine ea ((W.turn (bH ..) IQ CD).yI (o:=dO "tuple" vs.toArray 0) rfl) fun W2 _=>?_;refine ae (EG ?_ (Nat.zero_le _));refine ea (W2.off.yI (o:=dO "list" #[] 0) rfl) fun W3 Tu=>?_;refine aB ?_;unfold ksk_rest;refine ae (ji ?_);rw [List.forIn_toArray];generalize ((s.heap.update a (cC fun _=>(#[]:Array ai))).push (dO "tuple" vs.toArray 0)).objs.size=kS at W3 Tu ⊢;have We: ∀q∈ ((a,dO "list" #[] e1)::Φ:Led),q.1≠kS:=fun q hq=>Tu q (mR hq);refine ae (ksk_fold (fun i s'=>∃D' kv e,Sm s s'/\au G ((kS,dO "list" (List.toArray kv) e)::(a,dO "list" #[] e1)::Φ) D' s'.heap/\(∀p∈D,p∈D')/\bP D' kv (ks.take i)) vs 0 _ ⟨D,[],0,⟨rfl,rfl⟩,W3,fun _ h=>h,.nil⟩
  (fun j x s' hx hI=>pH hI fun D' kv e sm W' hs HU=>?_) fun s' hI=>pH hI fun D' kv e sm W' hs HU=>?_)
 ·have hj:j < ds.length:=rz ▸ (List.getElem?_eq_some_iff.mp hx).1;have Tt:ds[j]? =some _:=List.getElem?_eq_getElem hj;have Z0:ks[j]? =some _:=List.getElem?_eq_getElem (hl.symm ▸ hj);have hz:kv.length < 63:=Nat.lt_of_le_of_lt (Nat.le_of_eq HU.length) (Nat.lt_of_le_of_lt (List.length_take_le ..) (Nat.lt_of_le_of_lt (Nat.le_of_eq (Nat.zero_add j)) (Nat.lt_of_lt_of_le hj (Nat.le_of_lt_succ zS))));refine bQ ((hv.mono hs).at Tt) fun x' hx' hd=>?_;refine ae (gO ((turn j _ _ Tt Z0).go A _ _ _ D' x s' hA W' (aH (hx.symm.trans hx') ▸ hd) fun k s2 D2 yy Wk vU LX=>?_));have nk:=(Wk.pin (kS,dO "list" (List.toArray kv) e) (mR (.head _))).1;refine ae (oq nk rfl ?_ (Qc (Nat.lt_succ_of_lt hz)) (Nat.le_trans (Nat.le_of_eq (HY ..)) (Nat.succ_le_succ (Qc (Nat.lt_succ_of_lt hz)))));refine ah ⟨rfl,D2,kv++[k],_,(sm.trans yy).trans ⟨rfl,rfl⟩,List.push_toArray _ _ ▸ Wk.turn (bH ..) (jg nk (·.push k)) We,fun p hp=>vU p (hs p hp),?_⟩;have ek:ks.take (0 + j + 1)=ks.take (0 + j)++[ks[j]'(hl.symm ▸ hj)]:=List.take_add_one.trans (by rw [Nat.zero_add,Z0]; rfl);exact ek ▸ (HU.mono vU).snoc LX
 ·have HU:bP D' kv ks:=(List.take_of_length_le (by rw [Nat.zero_add,rz,hl]; exact Nat.le_refl _):ks.take (0 + vs.length)=ks) ▸ HU;have E7:kv.length=vs.length:=HU.length.trans (hl.trans rz.symm);refine ae (eH (W'.pin (kS,dO "list" (List.toArray kv) e) (mR (.head _))).1 rfl ?_);unfold ksk_end;refine kG (by decide) (Bp (T:=ksk_tail a false e1 (.ref kS)) (κ:=κ) (r:=r) hA W' HU E7 xR (fun h=>hk (rz ▸ h)) hc fun st s2 D2 hp Qd wk yy W2 vU=>?_);have nk:=(W2.pin (kS,dO "list" (List.toArray kv) e) (mR (.head _))).1;unfold ksk_tail;exact ae (oq nk rfl (ae (gh (E6 (W2.turn (bH ..) (jg nk fun _=>(#[]:Array ai)) We).off CD Qd (by rw [List.length_map,hp]; exact xR) wk
   fun s3 c Sd W4=>q s3 D2 c ((sm.trans yy).trans ⟨Sd.1,Sd.2⟩) (rz ▸ W4) fun p hp=>vU p (hs p hp)))) (Qc (Nat.lt_of_le_of_lt (Nat.le_of_eq E7) xR)) (Nat.zero_le _))
theorem DatAll.sv (h:dG D vs ds):bP D vs (ds.map Sv.dat):=by
 induction ds generalizing vs with
 | nil=>exact dN h .nil
 | cons d ds ih=>exact dC h fun v vs q r=>.cons q (ih r)
theorem DatAll.pick (h:dG D vs ds): ∀(p:List Nat),dG D (p.map fun i=>vs.getD i .none) (p.map fun i=>ds.getD i .none)
 | []=>.nil
 | i::p=>by
  refine .cons ?_ (DatAll.pick h p)
  by_cases hi:i < ds.length
  ·refine bQ ((DatAll.sv h).at (i:=i) (d:=.dat ds[i]) (by rw [List.getElem?_map,List.getElem?_eq_getElem hi]; rfl)) fun v e q=>?_;refine (?_:eI D (vs.getD i .none) (ds.getD i .none));rw [List.getD_eq_getElem?_getD,e,List.getD_eq_getElem?_getD,List.getElem?_eq_getElem hi];exact q
  ·have hv: ¬i < vs.length:=by rw [show vs.length=ds.length from by have:=(DatAll.sv h).length; simpa using this]; exact hi
   refine (?_:eI D (vs.getD i .none) (ds.getD i .none));rw [List.getD_eq_getElem?_getD,List.getElem?_eq_none (Nat.le_of_not_lt hv),List.getD_eq_getElem?_getD,List.getElem?_eq_none (Nat.le_of_not_lt hi)];exact .none
theorem zT (r:Nat->Int) (n:Nat) (inj: ∀i j,i < n->j < n->r i=r j->i=j):(gu r n).length=n:=by
 unfold gu
 by_cases h:n < 2
 ·rw [if_pos h]; simp
 ·rw [if_neg h,bZ,(tB r (Nat.le_of_not_lt ‹_›) inj).2.1]
theorem E8 {Φ:Led} {kw:List (Str × ai)} {out:List Dat} (hA:cQ (n + 2) A) (W:au G Φ D s.heap) (hv:eI D v (.list ds)) (zS:ds.length < 64) (ha1:gk "sorted" ⟨[v],kw⟩) (ha2: ∀x,gk "list.sort" ⟨[.ref x],kw⟩) (body: ∀(a:Addr) (n0:Nat) (vs:List ai) (s1:aj) (P:gz->aj->Prop),Sm s s1->dG D vs ds->au G ((a,dO "list" vs.toArray n0)::Φ) D s1.heap->(∀q∈Φ,q.1≠a)->
   (∀s' D' c os,Sm s s'->dG D' os out->au G ((a,dO "list" (List.toArray os) c)::Φ) D' s'.heap->(∀p∈D,p∈D')->P (.done (.ret .none)) s')->ak (aq prog w) A.in1.in1 (Builtin.«list.sort» ⟨[.ref a],kw⟩) P E s1) (q: ∀v' s' D',Sm s s'->au G Φ D' s'.heap->(∀p∈D,p∈D')->eI D' v' (.list out)->Q v' s'):ak (aq prog w) A (call (.builtin "sorted") [v] kw) Q E s:=by
 refine lE hv fun b vs nn mb A3=>?_;have rz:vs.length=ds.length:=by have:=(DatAll.sv A3).length; simpa using this
 have hl:s.heap.IsList b vs.toArray:=⟨_,(W.pin _ (mL mb)).1,rfl,nn,rfl⟩;refine call_function_entry_kw kind_sorted plain_sorted entry_sorted ha1 ?_;unfold Builtin.«sorted»;refine ae (m:=checkCount "sorted" 1 1 _) (ah ?_);refine ae (collect_list hl ?_ (by rw [gi]; exact lK (b:=64) (Nat.le_of_lt (rz.symm ▸ zS))));refine ae (EG ?_ (by rw [gi]; exact lK (b:=64) (Nat.le_of_lt (rz.symm ▸ zS))));have W1:au G Φ D ((s.heap.push (dO "list" #[] 0)).update s.heap.objs.size (cC (· ++vs.toArray))):=by
  refine ea (W.yI (o:=dO "list" #[] 0) rfl) fun X off=>?_;have e0:(s.heap.push (dO "list" #[] 0)).get? s.heap.objs.size=some (dO "list" #[] 0):=aJ _ rfl;exact (X.turn (bH ..) (jg e0 (· ++vs.toArray)) (fun q hq=>off q (mR hq))).off
 refine ea (W1.yI (o:=dO "list" vs.toArray 0) rfl) fun W2 Tv=>?_;refine (?_:ak _ _ _ _ _ { s with heap:=((s.heap.push (dO "list" #[] 0)).update s.heap.objs.size (cC (· ++vs.toArray))).push (dO "list" vs.toArray 0) });generalize ((s.heap.push (dO "list" #[] 0)).update s.heap.objs.size (cC (· ++vs.toArray))).objs.size=a at W2 Tv ⊢;have CD: ∀q∈Φ,q.1≠a:=fun q hq=>Tv q (mR hq);have WC:=(W2.pin (a,dO "list" vs.toArray 0) (mR ((.head _)))).1;refine ae (aB (wpAny_call_entry_kw slot_list_sort ⟨_,WC,rfl⟩ entry_list_sort (body a 0 vs _ _ ⟨rfl,rfl⟩ A3 W2 CD fun s' D' c os sm Xp W' hs=>?_) (ha2 _)));refine ⟨_,rfl,ah ⟨_,rfl,?_⟩⟩;have W3:=W'.freeze CD;exact q (.ref a) s' _ sm W3 (fun p hp=>.tail _ (hs p hp)) (.list (.head _) (Xp.mono fun p hp=>.tail _ hp))
section
open PySem.SeqAt
open MeetsSeq MeetsSeq2 MeetsSeq3 SeqRoads2
noncomputable def kM (a b:Int):Bool:=qF (.int a) (.int b)
theorem Gx (a b:Int):kM a b=decide (a=b):=by
 unfold kM;have:=rD (d:=.int a) (e:=.int b) (b:=decide (a=b)) rfl rfl (by rw [decide_eq_true_iff]; exact ⟨fun h=>by rw [h],oj⟩);exact this
noncomputable def qA (a b:Int):Bool:=decide (a < b)
theorem uY {ns:List Int} (h:dG D vs (ns.map iM)): ∀j (_:j < vs.length),∃t,vs[j]=.int (ns.getD j 0) t:=by
 induction ns generalizing vs with
 | nil=>exact dN h fun j h=>absurd h (Nat.not_lt_zero j)
 | cons n ns ih=>exact dC h fun v vs q r j=>by cases j with
  | zero=>exact fun _=>jj q
  | succ j=>exact fun h=>ih r j (Nat.lt_of_succ_lt_succ h)
theorem Mz {xs ys:List Int}:HT prog w G n (uN sy) (.dat (.list (xs.map .int))) (.dat (.list (ys.map .int))) (kY kM qA false xs ys):=.mk fun A E Q Φ D v1 v2 s hA W h1 h2 hq=>by
 refine lE h1 fun a us na ma aa=>lE h2 fun b ws nb mb ab=>?_;have hD: ∀p∈D,s.heap.get? p.1=some p.2:=fun p hp=>(W.pin p (mL hp)).1;have l1:us.length=xs.length:=by have:=(DatAll.sv aa).length; simpa using this
 have l2:ws.length=ys.length:=by have:=(DatAll.sv ab).length; simpa using this
 have hu:A.units + 64 < zd:=hA.yg;rw [Vv,oneLt'_eq];simp only [if_true];refine ae (Ct (by refine (?_:A.units < 9900); have:zd=9900:=rfl; exact Nat.lt_of_le_of_lt (Nat.le_add_right _ 64) hu) ?_)
 have he: ∀j (h1:j < us.toArray.size) (h2:j < ws.toArray.size),EqAt A.in1 s us.toArray[j] ws.toArray[j] (kM (xs.getD j 0) (ys.getD j 0)):=fun j h1 h2=>by
  refine ex (uY aa j (by simpa using h1)) fun t1 e1=>?_;refine ex (uY ab j (by simpa using h2)) fun t2 e2=>?_;have g1:us.toArray[j]=.int (xs.getD j 0) t1:=by simpa using e1
  have g2:ws.toArray[j]=.int (ys.getD j 0) t2:=by simpa using e2
  rw [g1,g2];exact eqAt_reads (.int (xs.getD j 0)) (.int (ys.getD j 0)) A.in1 s _ _ _ _ (SA _ t1) (SA _ t2) rfl rfl (by
   have:A.in1.units=A.units + 1:=rfl;have:(CH (xs.getD j 0)).depth<=8:=by refine (?_:0<=8); lia
   have:=Nat.min_le_left (CH (xs.getD j 0)).depth (CH (ys.getD j 0)).depth;exact Nat.lt_of_le_of_lt (Nat.add_le_add_left (Nat.le_trans ‹min _ _<=_› ‹_<=8›) _) (Nat.lt_of_le_of_lt (Nat.add_le_add_left (by decide:9<=64) A.units) hu))
 have hr: ∀j (h1:j < us.toArray.size) (h2:j < ws.toArray.size),IW false A.in1 s us.toArray[j] ws.toArray[j] (qA (xs.getD j 0) (ys.getD j 0)):=fun j h1 h2=>by
  refine ex (uY aa j (by simpa using h1)) fun t1 e1=>?_;refine ex (uY ab j (by simpa using h2)) fun t2 e2=>?_;have g1:us.toArray[j]=.int (xs.getD j 0) t1:=by simpa using e1
  have g2:ws.toArray[j]=.int (ys.getD j 0) t2:=by simpa using e2
  rw [g1,g2];intro prog w E Q hq;exact lt_int hq
 have fin:uz (fun j=>kM (xs.getD j 0) (ys.getD j 0)) (fun j=>qA (xs.getD j 0) (ys.getD j 0)) (dU false us.toArray.size ws.toArray.size) (min us.toArray.size ws.toArray.size) 0=kY kM qA false xs ys:=by
  rw [List.size_toArray,List.size_toArray,l1,l2, <- yz kM qA false (0:Int)]
 refine ae (wpAny_callSpecialIfBound?_slot (T:="list") ⟨_,hD _ ma,rfl⟩ F.slot_list_lt (kr F.slot_list_lt ⟨_,hD _ ma,rfl⟩ F.entry_list_lt (F.args_list_lt_2 _ _) (IX a b _ _ na nb none none #[] #[] _ _) ⟨hD _ ma,hD _ mb,he,fun j h1 h2 _=>hr j h1 h2,?_⟩));rw [fin];refine (?_:ak _ _ (truthOfDropped (.bool _)) _ _ _);exact nN (hq s D (Sm.refl s) W (fun _ h=>h))
theorem Ds {lss:List (List Int)} (h2:2<=lss.length):j0 prog w G sy (lss.map fun l=>Sv.dat (.list (l.map .int))):=.mk fun A E Q Φ D vs s W hv hq=>by
 have hl:=hv.length;rw [List.length_map] at hl;refine kas_kind (T:=.type "list") (hl.symm ▸ h2) (fun v hm=>?_) rfl rfl hq;obtain ⟨i,hi,rfl⟩:=List.getElem_of_mem hm;refine bQ (hv.at (i:=i) (d:=.dat (.list ((lss[i]'(hl ▸ hi)).map .int))) (by rw [List.getElem?_map,List.getElem?_eq_getElem (hl ▸ hi)]; rfl)) fun v' e q=>?_;rw [List.getElem?_eq_getElem hi] at e;cases e;generalize hv0:vs[i]=v0 at q ⊢;exact lE q fun _ _ _ mb ab=>(cT (W.pin _ (mL mb)).1).andThen .now
end
noncomputable def uB (x:Int × Str × Str):Dat:=.tuple [.int x.1,.str x.2.1,.str x.2.2]
@[elab_as_elim] theorem Qf {D:Led} {x:Int × Str × Str} {P:ai->Prop} {v:ai} (h:eI D v (uB x)) (f: ∀a n t u w,(a,({ cls:=.type "tuple",data:=.seq [Value.int x.1 t,.str x.2.1 u,.str x.2.2 w].toArray n }:Obj))∈D->P (.ref a)):P v:=
 tE h fun a vs n m q=>dC (P:=fun vs=>(a,({ cls:=.type "tuple",data:=.seq vs.toArray n }:Obj))∈D->P (.ref a)) q (fun _ _ q r=>dC r fun _ _ q2 r=>dC r fun _ _ q3 r=>dN r (iE q fun t=>sE q2 fun u=>sE q3 fun w=>f a n t u w)) m
theorem MA {x y:Int × Str × Str} (Tg:x.1=y.1->x=y):HT prog w G n (uN (tuples' true)) (.dat (uB x)) (.dat (uB y)) (decide (x.1 < y.1)):=.mk fun A E Q Φ D v1 v2 s hA W h1 h2 hq=>by
 have q:=hq s D (Sm.refl s) W (fun _ h=>h);clear hq;refine Qf h1 fun a na t1 u1 w1 ma=>Qf h2 fun b nb t2 u2 w2 mb=>?_;refine kat_lt (W.pin _ (mL ma)).1 rfl (W.pin _ (mL mb)).1 rfl (Vw (wpAny_eqBool_int ?_))
 by_cases e:x.1=y.1
 ·have S7:=Tg e;subst S7;rw [show (x.1 == x.1)=true from beq_self_eq_true _];refine kat_yes (Vw (RK ?_));rw [decide_eq_true rfl];refine kat_yes (Vw (RK ?_));rw [decide_eq_true rfl];refine kat_yes (kat_nil ?_);rw [show decide (x.1 < x.1)=false from decide_eq_false (Av _)] at q;exact q
 ·rw [show (x.1 == y.1)=false from beq_eq_false_iff_ne.mpr e];exact kat_no (oneLt_int q)
theorem Gy {xs:List (Int × Str × Str)} (h2:2<=xs.length):j0 prog w G (tuples' true) (xs.map fun x=>Sv.dat (uB x)):=.mk fun A E Q Φ D vs s W hv hq=>by
 have key: ∀(xs:List (Int × Str × Str)) (vs:List ai),bP D vs (xs.map fun x=>Sv.dat (uB x))->∃fs:List ai,fs.length=xs.length/\KatTups s.heap vs fs/\∀v∈fs,∃i t,v=.int i t:=by
  intro xs
  induction xs with
  | nil=>exact fun vs h=>sN h ⟨[],rfl,trivial,nm⟩
  | cons x xs ih=>
   exact fun vs h=>sC h fun v vs h1 r=>iU (ih _ r) fun fs f1 f2 f3=>Qf h1 fun a n t u w ma=>
    ⟨.int _ t::fs,congrArg (· + 1) f1,KatTups.cons (W.pin _ (mL ma)).1 rfl rfl rfl f2,fun v hv=>bU hv ⟨_,_,rfl⟩ (f3 v)⟩
 refine iU (key xs vs hv) fun fs f1 f2 f3=>?_;refine kat_kind (T:=.type "int") f2 (Nat.le_trans (Nat.le_of_succ_le h2) (Nat.le_of_eq f1.symm)) (fun v hv=>?_) rfl hq;exact HQ (f3 v hv) fun i t e=>e ▸ aU rfl
theorem xS {P:gz->aj->Prop} {Φ:Led} {n0:Nat} {ds:List Sv} {r:Nat->Int} (hA:cQ n A) (W:au G ((a,dO "list" vs.toArray n0)::Φ) D s.heap) (CD: ∀q∈Φ,q.1≠a) (hv:bP D vs ds) (zS:ds.length < 64) (hk:2<=ds.length->j0 prog w G κ ds) (hc: ∀(i j:Nat) (di dj:Sv),ds[i]? =some di->ds[j]? =some dj->HT prog w G n (uN κ) di dj (rl r i j)) (q: ∀s' D' c,Sm s s'->au G ((a,dO "list" (List.toArray ((gu r ds.length).map fun i=>vs.getD i .none)) c)::Φ) D' s'.heap->(∀p∈D,p∈D')->P (.done (.ret .none)) s'):ak (aq prog w) A (Builtin.«list.sort» ⟨[.ref a],[]⟩) P E s:=by
 have rz:vs.length=ds.length:=hv.length;have xR:vs.length < 64:=rz.symm ▸ zS;have Qe:=(W.pin (a,dO "list" vs.toArray n0) (mR (.head _))).1;rw [list_sort_plain];refine ae (eH Qe rfl (ae (oq Qe rfl ?_ (Qc xR) (Nat.zero_le _))));refine ex (⟨_,jg Qe fun _=> #[]⟩: ∃e1,(s.heap.update a (cC fun _=>(#[]:Array ai))).get? a=some (dO "list" #[] e1)) fun e1 IQ=>?_;refine ae (K9 IQ rfl (ae (iz ?_ (Qc xR))));refine ea ((W.turn (bH ..) IQ CD).yI (o:=dO "tuple" vs.toArray 0) rfl) fun W2 _=>?_;refine ae (EG ?_ (Nat.zero_le _));refine ea (W2.off.yI (o:=dO "list" #[] 0) rfl) fun W3 _=>?_;refine aB (Bp (T:=wj a e1) (κ:=κ) (r:=r) hA W3.off hv rfl xR (fun h=>hk (rz ▸ h)) hc fun st s2 D2 hp Qd wk yy W2 vU=>?_);exact E6 W2 CD Qd (by rw [List.length_map,hp]; exact xR) wk fun s3 c Sd W4=>q s3 D2 c (Sm.trans ⟨yy.1,yy.2⟩ Sd) (rz ▸ W4) vU
theorem xT {xs:List (Int × Str × Str)} (zS:xs.length < 64) (inj: ∀i j:Nat,∀x y,xs[i]? =some x->xs[j]? =some y->x.1=y.1->x=y):
  CQ prog w G (n + 2) (fun v=>call (.builtin "sorted") [v]) (.dat (.list (xs.map uB))) (.dat (.list ((gu (fun i=>(xs.getD i default).1) xs.length).map fun i=>(xs.map uB).getD i .none))):=.mk fun A E Q Φ D v s hA W hv hq=>by
 refine E8 (prog:=prog) (w:=w) (G:=G) (ds:=xs.map uB) (kw:=[]) hA W hv (by simpa using zS) (args_sorted1 _) (fun x=>args_list_sort _) (fun a n0 vs s1 P sm A3 W1 CD hP=>?_) (fun v' s' D' sm W' hs h'=>hq v' s' D' sm W' hs h');have rz:vs.length=xs.length:=by have:=(DatAll.sv A3).length; simpa using this
 have Xq:bP D vs (xs.map fun x=>Sv.dat (uB x)):=by have:=DatAll.sv A3; rwa [List.map_map] at this
 refine xS (ds:=xs.map fun x=>Sv.dat (uB x)) (κ:=tuples' true) (r:=fun i=>(xs.getD i default).1) hA.in1.in1 W1 CD Xq (by simpa using zS) (fun h=>Gy (by simpa using h)) (fun i j di dj hi hj=>?_) (fun s' D' c yy W2 hs=>?_)
 ·refine zk hi fun x hx=>zk hj fun y hy=>?_;have e1:xs.getD i default=x:=by rw [List.getD_eq_getElem?_getD,hx]; rfl
  have e2:xs.getD j default=y:=by rw [List.getD_eq_getElem?_getD,hy]; rfl
  have:rl (fun i=>(xs.getD i default).1) i j=decide (x.1 < y.1):=by
   refine (?_:decide ((xs.getD i default).1 < (xs.getD j default).1)=_);rw [e1,e2]
  rw [this];exact MA (inj i j x y hx hy)
 ·rw [List.length_map] at W2;exact hP s' D' c _ (sm.trans yy) (Rg.DatAll.pick (A3.mono hs) _) W2 hs
structure Mm (h₀ h:Heap) (chg news:Led):Prop where
 keep: ∀b o,h₀.get? b=some o->(∀p∈chg,p.1≠b)->h.get? b=some o
 at_: ∀p∈chg++news,h.get? p.1=some p.2
 sz:h₀.objs.size<=h.objs.size
 ge: ∀p∈news,h₀.objs.size<=p.1
 nd:((chg++news).map (·.1)).Nodup
theorem Mm.Qg {P:Addr} (e:h.get? P=some o):Mm h h [(P,o)] []:=⟨fun _ _ e _=>e,fun p hp=>(by
  exact bU hp (e) fun hp=>(nomatch hp)),Nat.le_refl _,fun _ hp=>(nomatch hp),by simp⟩
theorem wm {l:Led} (hn:(l.map (·.1)).Nodup) (hi:l[i]? =some (a,o)) {p:Addr × Obj} (hp:p∈l.set i (a,o')):p=(a,o')\/(p∈l/\p.1≠a):=by
 rcases List.getElem?_of_mem hp with ⟨j,hj⟩;rw [List.getElem?_set] at hj;split at hj
 ·split at hj
  ·cases hj; exact .inl rfl
  ·cases hj
 ·rename_i pJ;refine .inr ⟨List.mem_of_getElem? hj,fun e=>pJ ?_⟩;have h1:(l.map (·.1))[i]? =some a:=by rw [List.getElem?_map,hi]; rfl
  have h2:(l.map (·.1))[j]? =some a:=by rw [List.getElem?_map,hj, <- e]; rfl
  have hl:i < (l.map (·.1)).length:=(List.getElem?_eq_some_iff.mp h1).1;exact (List.getElem?_inj hl hn).mp (h1.trans h2.symm)
theorem mX {l:Led} (hi:l[i]? =some (a,o)):(l.set i (a,o')).map (·.1)=l.map (·.1):=by
 rw [List.map_set];refine List.ext_getElem? fun j=>?_;rw [List.getElem?_set];split
 ·rename_i e;subst e;rw [List.length_map,List.getElem?_map,hi];have:=(List.getElem?_eq_some_iff.mp hi).1;simp [this]
 ·rfl
section
variable {more:Led}
theorem Mm.at (D:Mm h₀ h chg news) (i:Nat) (a:Addr) (o:Obj) (hi:news[i]? =some (a,o)):h.get? a=some o:=D.at_ (a,o) (mR ((List.mem_of_getElem? hi)))
theorem Mm.atC (D:Mm h₀ h chg news) (i:Nat) (a:Addr) (o:Obj) (hi:chg[i]? =some (a,o)):h.get? a=some o:=D.at_ (a,o) (mL ((List.mem_of_getElem? hi)))
theorem Mm.old (D:Mm h₀ h chg news) (a:Addr) (o:Obj) (e:h₀.get? a=some o) (hq: ∀p∈chg,p.1≠a):h.get? a=some o:=D.keep a o e hq
theorem Mm.ext (D:Mm h₀ h chg news) (hk: ∀b o,h.get? b=some o->h'.get? b=some o) (hs:h.objs.size<=h'.objs.size) (hm: ∀p∈more,h'.get? p.1=some p.2/\h.objs.size<=p.1) (hn:(more.map (·.1)).Nodup):Mm h₀ h' chg (more++news):=by
 have lt: ∀p∈chg++news,p.1 < h.objs.size:=fun p hp=>az (D.at_ p hp);refine ⟨fun b o e q=>hk _ _ (D.keep b o e q),fun p hp=>?_,Nat.le_trans D.sz hs,fun p hp=>?_,?_⟩
 ·exact cE hp (fun hp=>hk _ _ (D.at_ p (mL hp))) fun hp=>cE hp (fun hp=>(hm p hp).1) fun hp=>hk _ _ (D.at_ p (mR hp))
 ·exact cE hp (fun hp=>Nat.le_trans D.sz (hm p hp).2) fun hp=>D.ge p hp
 ·have nd:=D.nd;simp only [List.map_append] at nd ⊢;refine xy (List.nodup_append.mp nd) fun n1 n2 n3=>?_;refine List.nodup_append.mpr ⟨n1,List.nodup_append.mpr ⟨hn,n2,fun x hx y hy e=>?_⟩,fun x hx y hy e=>?_⟩
  ·refine bQ (List.mem_map.mp hx) ?_; rintro p hp rfl;refine bQ (List.mem_map.mp hy) ?_; rintro q hq rfl;exact absurd (lt q (mR hq)) (Nat.not_lt.mpr (e ▸ (hm p hp).2))
  ·refine cE hy (fun hy=>?_) (fun hy=>?_)
   ·refine bQ (List.mem_map.mp hx) ?_; rintro p hp rfl;refine bQ (List.mem_map.mp hy) ?_; rintro q hq rfl;exact absurd (lt p (mL hp)) (Nat.not_lt.mpr (e ▸ (hm q hq).2))
   ·exact n3 x hx y hy e
theorem Mm.alloc (D:Mm h₀ h chg news) (hf:o.isFreed=false):Mm h₀ (h.push o) chg ((h.objs.size,o)::news):=
 D.ext (more:=[(h.objs.size,o)]) (fun _ _ e=>av _ e) (by rw [bG]; lia) (fun p hp=>by
  exact bU hp (⟨aJ _ hf,Nat.le_refl _⟩) fun hp=>nomatch hp) (by simp)
theorem Mm.turn (D:Mm h₀ h chg news) (hi:news[i]? =some (a,o)) (hx:gM a h h') (ha:h'.get? a=some o') (hs:h.objs.size<=h'.objs.size) (hm: ∀p∈more,h'.get? p.1=some p.2/\h.objs.size<=p.1) (hn:(more.map (·.1)).Nodup):
  Mm h₀ h' chg (more++news.set i (a,o')):=by
 have nd:=D.nd;rw [List.map_append] at nd;refine xy (List.nodup_append.mp nd) fun n1 n2 n3=>?_;have qP:(a,o)∈news:=List.mem_of_getElem? hi;have Wf: ∀p∈chg,p.1≠a:=fun p hp=>n3 _ (List.mem_map_of_mem hp) _ (List.mem_map_of_mem (f:=(·.1)) qP);have lt: ∀p∈chg++news,p.1 < h.objs.size:=fun p hp=>az (D.at_ p hp);have MB: ∀p∈news.set i (a,o'),h'.get? p.1=some p.2/\∃q∈news,q.1=p.1:=fun p hp=>by
  rcases wm n2 hi hp with rfl | ⟨hp,ne⟩
  ·exact ⟨ha,_,qP,rfl⟩
  ·exact ⟨hx _ _ ne (D.at_ p (mR hp)),_,hp,rfl⟩
 refine ⟨fun b ob e q=>hx _ _ (fun eb=>?_) (D.keep b ob e q),fun p hp=>?_,Nat.le_trans D.sz hs,fun p hp=>?_,?_⟩
 ·have:=D.ge _ qP;exact absurd (az e) (Nat.not_lt.mpr (eb ▸ this))
 ·exact cE hp (fun hp=>hx _ _ (Wf p hp) (D.at_ p (mL hp))) fun hp=>cE hp (fun hp=>(hm p hp).1) fun hp=>(MB p hp).1
 ·refine cE hp (fun hp=>?_) (fun hp=>?_)
  ·exact Nat.le_trans D.sz (hm p hp).2
  ·refine Wy (MB p hp) fun _ q hq e=>?_;exact e ▸ D.ge q hq
 ·rw [List.map_append,List.map_append,mX hi];refine List.nodup_append.mpr ⟨n1,List.nodup_append.mpr ⟨hn,n2,fun x hx y hy e=>?_⟩,fun x hx y hy e=>?_⟩
  ·refine bQ (List.mem_map.mp hx) ?_; rintro p hp rfl;refine bQ (List.mem_map.mp hy) ?_; rintro q hq rfl;exact absurd (lt q (mR hq)) (Nat.not_lt.mpr (e ▸ (hm p hp).2))
  ·refine cE hy (fun hy=>?_) (fun hy=>?_)
   ·refine bQ (List.mem_map.mp hx) ?_; rintro p hp rfl;refine bQ (List.mem_map.mp hy) ?_; rintro q hq rfl;exact absurd (lt p (mL hp)) (Nat.not_lt.mpr (e ▸ (hm q hq).2))
   ·exact n3 x hx y hy e
theorem Mm.Tw (D:Mm h₀ h chg news) (hi:chg[i]? =some (a,o)) (hx:gM a h h') (ha:h'.get? a=some o') (hs:h.objs.size<=h'.objs.size) (hm: ∀p∈more,h'.get? p.1=some p.2/\h.objs.size<=p.1) (hn:(more.map (·.1)).Nodup):
  Mm h₀ h' (chg.set i (a,o')) (more++news):=by
 have nd:=D.nd;rw [List.map_append] at nd;refine xy (List.nodup_append.mp nd) fun n1 n2 n3=>?_;have qP:(a,o)∈chg:=List.mem_of_getElem? hi;have hnw: ∀p∈news,p.1≠a:=fun p hp=>Ne.symm (n3 _ (List.mem_map_of_mem (f:=(·.1)) qP) _ (List.mem_map_of_mem hp));have lt: ∀p∈chg++news,p.1 < h.objs.size:=fun p hp=>az (D.at_ p hp);have MB: ∀p∈chg.set i (a,o'),h'.get? p.1=some p.2:=fun p hp=>by
  rcases wm n1 hi hp with rfl | ⟨hp,ne⟩
  ·exact ha
  ·exact hx _ _ ne (D.at_ p (mL hp))
 have keys: ∀b,(∀p∈chg.set i (a,o'),p.1≠b)->∀p∈chg,p.1≠b:=fun b q p hp e=>by
  have:p.1∈ (chg.set i (a,o')).map (·.1):=by rw [mX hi]; exact List.mem_map_of_mem hp
  refine bQ (List.mem_map.mp this) fun r hr er=>?_;exact q r hr (er.trans e)
 refine ⟨fun b ob e q=>hx _ _ (fun eb=>keys b q _ qP eb.symm) (D.keep b ob e (keys b q)),fun p hp=>?_,Nat.le_trans D.sz hs,fun p hp=>?_,?_⟩
 ·exact cE hp (fun hp=>MB p hp) fun hp=>cE hp (fun hp=>(hm p hp).1) fun hp=>hx _ _ (hnw p hp) (D.at_ p (mR hp))
 ·exact cE hp (fun hp=>Nat.le_trans D.sz (hm p hp).2) fun hp=>D.ge p hp
 ·rw [List.map_append,List.map_append,mX hi];refine List.nodup_append.mpr ⟨n1,List.nodup_append.mpr ⟨hn,n2,fun x hx y hy e=>?_⟩,fun x hx y hy e=>?_⟩
  ·refine bQ (List.mem_map.mp hx) ?_; rintro p hp rfl;refine bQ (List.mem_map.mp hy) ?_; rintro q hq rfl;exact absurd (lt q (mR hq)) (Nat.not_lt.mpr (e ▸ (hm p hp).2))
  ·refine cE hy (fun hy=>?_) (fun hy=>?_)
   ·refine bQ (List.mem_map.mp hx) ?_; rintro p hp rfl;refine bQ (List.mem_map.mp hy) ?_; rintro q hq rfl;exact absurd (lt p (mL hp)) (Nat.not_lt.mpr (e ▸ (hm q hq).2))
   ·exact n3 x hx y hy e
theorem Mm.update {f:Obj->Obj} (D:Mm h₀ h chg news) (hi:news[i]? =some (a,o)) (hf:(f o).isFreed=false):Mm h₀ (h.update a f) chg (news.set i (a,f o)):=
 D.turn (more:=[]) hi (bH ..).extBut (bu f (D.at i a o hi) hf) (by rw [AB]; exact Nat.le_refl _) nm List.nodup_nil
theorem Mm.ne (D:Mm h₀ h chg news) (hi:news[i]? =some (a,o)) {b:Addr} (hb:b < h₀.objs.size):a≠b:=Nat.ne_of_gt (Nat.lt_of_lt_of_le hb (D.ge (a,o) (List.mem_of_getElem? hi)))
end
section
variable {α:Type} {Q:α->aj->Prop} {d:lH} {t:Nat} {os:gq}
theorem fU {k:Addr->Sem α} (D:Mm h₀ h chg news) (hf:o.isFreed=false) (x: ∀a h',Mm h₀ h' chg ((a,o)::news)->ak (aq prog w) A (k a) Q E ⟨h',g,d,t,os⟩):ak (aq prog w) A (.alloc o k) Q E ⟨h,g,d,t,os⟩:=nd_alloc (x _ _ (D.alloc hf))
theorem bN {q:Option ai} {k:Obj->Sem α} (D:Mm h₀ h chg news) (i:Nat) (hi:news[i]? =some (a,o)) (x:ak (aq prog w) A (k o) Q E ⟨h,g,d,t,os⟩):ak (aq prog w) A (.load a q k) Q E ⟨h,g,d,t,os⟩:=qk (D.at i a o hi) x
end
theorem tC {c P:Addr} (C:iQ h c P) (k: ∀o,h.get? c=some o->h'.get? c=some o):iQ h' c P:=by
 refine ex C fun o r=>?_; clear C;refine CM r fun vs file tf flags tg Wg text tt e r=>?_;exact ⟨o,vs,file,tf,flags,tg,Wg,text,tt,k _ e,r⟩
theorem yJ {c P:Addr} (C:iQ h c P):c≠P:=by
 refine mK C fun _ _ _ _ _ _ _ _ _ r=>?_; clear C;exact r.2.2.2.2.2.2.2.2.2
theorem Dt {α:Type} {Q:α->aj->Prop} {c:Prop} [Decidable c] {x y:Sem α} (h: ¬c) (q:ak M A y Q E s):ak M A (if c then x else y) Q E s:=by rw [if_neg h]; exact q
section
variable {Q:Option ai->aj->Prop} {d:lH} {t:Nat} {os:gq}
theorem qB (n:String) (e:(uo n).elim "type" (·.metatype)="type"):k6 (.type n)=pure (.type "type"):=by
 refine (?_:(pure (Value.type ((uo n).elim "type" fun x=>x.metatype)):Sem ai)=_);rw [e]
theorem cG:k6 (.type "object")=pure (.type "type"):=qB _ (by kernel_rfl)
theorem dW:k6 (.type "type")=pure (.type "type"):=qB _ (by kernel_rfl)
theorem gc:eV (.type "type") (.type "type")=pure true:=by rw [bK]; kernel_rfl
theorem qU:bj (.type "type") "__prepare__"=pure (some (.builtin "type.__prepare__")):=by rw [aF,ay]; kernel_rfl
theorem Du:bj (.type "type") "__getattribute__"=pure (some (.builtin "type.__getattribute__")):=by rw [aF,ay]; kernel_rfl
theorem cJ:k6 (.builtin "type.__prepare__")=pure (.type "classmethod_descriptor"):=by refine (?_:Lb _=_); rw [tU]; kernel_rfl
theorem lB:bj (.type "classmethod_descriptor") "__get__"=pure (some (.builtin "classmethod_descriptor.__get__")):=by rw [aF,ay]; kernel_rfl
theorem mY:bj (.type "classmethod_descriptor") "__set__"=pure none:=by rw [aF,ay]; kernel_rfl
theorem mZ:bj (.type "classmethod_descriptor") "__delete__"=pure none:=by rw [aF,ay]; kernel_rfl
theorem wo:yc (.type "type")=pure none:=by kernel_rfl
theorem ki {ty:ai} {name:Str} {r:Option ai} (e1:k6 v=pure ty) (e2:bj ty name=pure r):gb v name=pure r:=by
 unfold gb;rw [e1];exact e2
theorem kN {i owner n:String} {b:Builtin} {self:ai} {rest:List ai} {Q:ai->aj->Prop} (hp:plainId i=true) (hb:fD kg i=some b) (hk:builtinKind i=some .slot\/builtinKind i=some .method) (hs:splitId i=some (owner,n)) (hi:bk (aq prog w) s.heap (isInstance self (.type owner)) true) (ha:gk i ⟨self::rest,[]⟩) (q:ak (aq prog w) A.in1 (b ⟨self::rest,[]⟩) (fun fin s'=>∃v,fin=.done (.ret v)/\Q v s') E s):
  ak (aq prog w) A (call (.builtin i) (self::rest)) Q E s:=by
 have q':ak (aq prog w) A.in1 (b ⟨self::rest,[]⟩) (fun fin s'=>match fin with
   | .done f=>(match (Except.ok f:qc) with | .ok (.ret v)=>Q v s' | .ok _=>False | .error e=>E e s')
   | .again c'=>c'.quiet=true/\eO (aq prog w) A c' (fun r s'=>match r with | .ok (.ret v)=>Q v s' | .ok _=>False | .error e=>E e s') s') E s:=
  aN q (fun fin s' h'=>by refine bQ h' ?_; clear h'; rintro v rfl hv; exact hv) fun _ _ h'=>h'
 refine fg (codeAny_call_builtin hp hb ?_);refine Or.elim hk (fun hk=>?_) (fun hk=>?_)
 ·exact NU hk hs hi ha q'
 ·simp only [dY,hk,hs];refine ae (hi.here ?_);simp only [NV,aV,if_false];cases hsig:Manifest.signature? i with
  | none=>exact ah q'
  | some sig=>
   simp only [gk,hsig] at ha;have h2:xx i sig ⟨self::rest,[]⟩=pure ():=ha;refine (?_:ak _ _ (xx i sig ⟨self::rest,[]⟩) _ _ _);rw [h2]; exact ah q'
theorem t6:fD kg "classmethod_descriptor.__get__"=some Builtin.«classmethod_descriptor.__get__»:=cX (by kernel_rfl)
theorem wq (a b c:ai):gk "classmethod_descriptor.__get__" ⟨[a,b,c],[]⟩:=by unfold gk; kernel_rfl
theorem Bq:eV (.type "classmethod_descriptor") (.type "classmethod_descriptor")=pure true:=by rw [bK]; kernel_rfl
theorem Jt {Q:ai->aj->Prop} (D:Mm h₀ h chg news) (q: ∀p h',Mm h₀ h' chg ((p,{ cls:=.type "builtin_function_or_method",data:=.fields #[.builtin "type.__prepare__",.type "type"] })::news)->Q (.ref p) ⟨h',g,d,t,os⟩):
  ak (aq prog w) A (call (.builtin "classmethod_descriptor.__get__") [.builtin "type.__prepare__",.none,.type "type"]) Q E ⟨h,g,d,t,os⟩:=by
 refine kN (by decide +kernel) t6 (owner:="classmethod_descriptor") (n:="__get__") (.inl (by decide +kernel)) (by decide +kernel) (aU (by unfold isInstance; rw [cJ]; exact Bq)) (wq _ _ _) ?_;unfold Builtin.«classmethod_descriptor.__get__»
 iterate 19 (first | (with_reducible refine fU (by assumption) rfl ?_; intro a' h' D') | (with_reducible refine bN (by assumption) 0 rfl ?_; try dsimp only) | (with_reducible refine bN (by assumption) 1 rfl ?_; try dsimp only) | (with_reducible refine bN (by assumption) 2 rfl ?_; try dsimp only) | (with_reducible refine bN (by assumption) 3 rfl ?_; try dsimp only) | (with_reducible refine m_old (by assumption) (by assumption) (by assumption) ?_; try dsimp only) | with_reducible refine aK wo ?_ | with_reducible refine aK dW ?_ | with_reducible refine aK cG ?_ | with_reducible refine aK qU ?_ | with_reducible refine aK Du ?_ | with_reducible refine aK (ki cJ lB) ?_ | with_reducible refine aK (ki cJ mY) ?_ | with_reducible refine aK (ki cJ mZ) ?_ | with_reducible refine aK cJ ?_ | with_reducible refine aK gc ?_ | lk)
 refine ae (aK (a:=true) (by rw [bK]; kernel_rfl) ?_)
 iterate 30 (try (first | (with_reducible refine fU (by assumption) rfl ?_; intro a' h' D') | (with_reducible refine bN (by assumption) 0 rfl ?_; try dsimp only) | (with_reducible refine bN (by assumption) 1 rfl ?_; try dsimp only) | (with_reducible refine bN (by assumption) 2 rfl ?_; try dsimp only) | (with_reducible refine bN (by assumption) 3 rfl ?_; try dsimp only) | (with_reducible refine m_old (by assumption) (by assumption) (by assumption) ?_; try dsimp only) | with_reducible refine aK wo ?_ | with_reducible refine aK dW ?_ | with_reducible refine aK cG ?_ | with_reducible refine aK qU ?_ | with_reducible refine aK Du ?_ | with_reducible refine aK (ki cJ lB) ?_ | with_reducible refine aK (ki cJ mY) ?_ | with_reducible refine aK (ki cJ mZ) ?_ | with_reducible refine aK cJ ?_ | with_reducible refine aK gc ?_ | lk))
 exact ⟨_,rfl,q _ _ (by assumption)⟩
theorem Qh (D:Mm h₀ h chg news) (q: ∀p h',Mm h₀ h' chg ((p,{ cls:=.type "builtin_function_or_method",data:=.fields #[.builtin "type.__prepare__",.type "type"] })::news)->Q (some (.ref p)) ⟨h',g,d,t + 1,os⟩):
  ak (aq prog w) A (getAttr? (.type "type") "__prepare__") Q E ⟨h,g,d,t,os⟩:=by
 unfold getAttr? getAttrBy? getAttrBy;refine ae (ql ?_);refine ae (gO (aB ?_))
 iterate 5 (first | (with_reducible refine fU (by assumption) rfl ?_; intro a' h' D') | (with_reducible refine bN (by assumption) 0 rfl ?_; try dsimp only) | (with_reducible refine bN (by assumption) 1 rfl ?_; try dsimp only) | (with_reducible refine bN (by assumption) 2 rfl ?_; try dsimp only) | (with_reducible refine bN (by assumption) 3 rfl ?_; try dsimp only) | (with_reducible refine m_old (by assumption) (by assumption) (by assumption) ?_; try dsimp only) | with_reducible refine aK wo ?_ | with_reducible refine aK dW ?_ | with_reducible refine aK cG ?_ | with_reducible refine aK qU ?_ | with_reducible refine aK Du ?_ | with_reducible refine aK (ki cJ lB) ?_ | with_reducible refine aK (ki cJ mY) ?_ | with_reducible refine aK (ki cJ mZ) ?_ | with_reducible refine aK cJ ?_ | with_reducible refine aK gc ?_ | lk)
 unfold SD hookBefore;refine ae (ah (ae (gO (aB ?_))));unfold RL Vx
 first | (with_reducible refine fU (by assumption) rfl ?_; intro a' h' D') | (with_reducible refine bN (by assumption) 0 rfl ?_; try dsimp only) | (with_reducible refine bN (by assumption) 1 rfl ?_; try dsimp only) | (with_reducible refine bN (by assumption) 2 rfl ?_; try dsimp only) | (with_reducible refine bN (by assumption) 3 rfl ?_; try dsimp only) | (with_reducible refine m_old (by assumption) (by assumption) (by assumption) ?_; try dsimp only) | with_reducible refine aK wo ?_ | with_reducible refine aK dW ?_ | with_reducible refine aK cG ?_ | with_reducible refine aK qU ?_ | with_reducible refine aK Du ?_ | with_reducible refine aK (ki cJ lB) ?_ | with_reducible refine aK (ki cJ mY) ?_ | with_reducible refine aK (ki cJ mZ) ?_ | with_reducible refine aK cJ ?_ | with_reducible refine aK gc ?_ | lk
 rw [KF.slot_tga.bind];refine ae (ah ?_);refine (?_:ak _ _ (call (.builtin "type.__getattribute__") [.type "type",.str "__prepare__" t]) _ _ _);refine kN KF.slot_tga.plain KF.entry_tga (owner:="type") (n:="__getattribute__") (.inl (by decide +kernel)) (by decide +kernel) (aU (by unfold isInstance; rw [dW]; exact gc)) (KF.args_tga _ _) ?_;unfold Builtin.«type.__getattribute__»;refine ae (ah ?_)
 iterate 29 (first | (with_reducible refine fU (by assumption) rfl ?_; intro a' h' D') | (with_reducible refine bN (by assumption) 0 rfl ?_; try dsimp only) | (with_reducible refine bN (by assumption) 1 rfl ?_; try dsimp only) | (with_reducible refine bN (by assumption) 2 rfl ?_; try dsimp only) | (with_reducible refine bN (by assumption) 3 rfl ?_; try dsimp only) | (with_reducible refine m_old (by assumption) (by assumption) (by assumption) ?_; try dsimp only) | with_reducible refine aK wo ?_ | with_reducible refine aK dW ?_ | with_reducible refine aK cG ?_ | with_reducible refine aK qU ?_ | with_reducible refine aK Du ?_ | with_reducible refine aK (ki cJ lB) ?_ | with_reducible refine aK (ki cJ mY) ?_ | with_reducible refine aK (ki cJ mZ) ?_ | with_reducible refine aK cJ ?_ | with_reducible refine aK gc ?_ | lk)
 with_reducible refine Jt D fun p h' D'=>?_
 iterate 30 (try (first | (with_reducible refine fU (by assumption) rfl ?_; intro a' h' D') | (with_reducible refine bN (by assumption) 0 rfl ?_; try dsimp only) | (with_reducible refine bN (by assumption) 1 rfl ?_; try dsimp only) | (with_reducible refine bN (by assumption) 2 rfl ?_; try dsimp only) | (with_reducible refine bN (by assumption) 3 rfl ?_; try dsimp only) | (with_reducible refine m_old (by assumption) (by assumption) (by assumption) ?_; try dsimp only) | with_reducible refine aK wo ?_ | with_reducible refine aK dW ?_ | with_reducible refine aK cG ?_ | with_reducible refine aK qU ?_ | with_reducible refine aK Du ?_ | with_reducible refine aK (ki cJ lB) ?_ | with_reducible refine aK (ki cJ mY) ?_ | with_reducible refine aK (ki cJ mZ) ?_ | with_reducible refine aK cJ ?_ | with_reducible refine aK gc ?_ | lk))
 refine ⟨_,rfl,?_⟩
 iterate 10 (try (first | (with_reducible refine fU (by assumption) rfl ?_; intro a' h' D') | (with_reducible refine bN (by assumption) 0 rfl ?_; try dsimp only) | (with_reducible refine bN (by assumption) 1 rfl ?_; try dsimp only) | (with_reducible refine bN (by assumption) 2 rfl ?_; try dsimp only) | (with_reducible refine bN (by assumption) 3 rfl ?_; try dsimp only) | (with_reducible refine m_old (by assumption) (by assumption) (by assumption) ?_; try dsimp only) | with_reducible refine aK wo ?_ | with_reducible refine aK dW ?_ | with_reducible refine aK cG ?_ | with_reducible refine aK qU ?_ | with_reducible refine aK Du ?_ | with_reducible refine aK (ki cJ lB) ?_ | with_reducible refine aK (ki cJ mY) ?_ | with_reducible refine aK (ki cJ mZ) ?_ | with_reducible refine aK cJ ?_ | with_reducible refine aK gc ?_ | lk))
 exact q _ _ D'
end
section
variable {d:lH} {t:Nat} {os:gq}
theorem zU:fD kg "type.__prepare__"=some Builtin.«type.__prepare__»:=cX (by kernel_rfl)
theorem Dv (a b:ai):Vy "type.__prepare__" ⟨[.type "type",a,b],[]⟩=pure ():=by kernel_rfl
theorem Gz {p:Addr} {a b:ai} (D:Mm h₀ h chg news) (hp:h.get? p=some { cls:=.type "builtin_function_or_method",data:=.fields #[.builtin "type.__prepare__",.type "type"] }) (q: ∀n h',Mm h₀ h' chg ((n,cM)::news)->Q (.ref n) ⟨h',g,d,t,os⟩):ak (aq prog w) A (call (.ref p) [a,b]) Q E ⟨h,g,d,t,os⟩:=by
 refine fg (gJ ?_);refine (?_:ak _ _ (AD (.ref p) _) _ _ _);refine qk hp ?_;refine (?_:ak _ _ (Vy "type.__prepare__" ⟨[.type "type",a,b],[]⟩ >>= fun _=>ze (.builtin "type.__prepare__" ⟨[.type "type",a,b],[]⟩)) _ _ _);refine ae (aK (Dv a b) (ah ⟨eK _ (by decide +kernel),bB zU ?_⟩));unfold Builtin.«type.__prepare__»
 iterate 18 (try (first | (with_reducible refine fU (by assumption) rfl ?_; intro a' h' D') | (with_reducible refine bN (by assumption) 0 rfl ?_; try dsimp only) | (with_reducible refine bN (by assumption) 1 rfl ?_; try dsimp only) | (with_reducible refine m_old (by assumption) (by assumption) (by assumption) ?_; try dsimp only) | lk))
 exact q _ _ (by assumption)
end
noncomputable abbrev en (w:bR) (name:Str) (tk:Nat) (v:ai):dz:=⟨dP w.params name,.str name tk,v⟩
section
variable {d:lH} {t:Nat} {os:gq} {c P:Addr} {es es':List dz} {n':Nat} {name:Str}
theorem zV {Q:Unit->aj->Prop} (D:Mm h₀ h chg news) (i:Nat) (hi:news[i]? =some (a,cy es n)) (hl:(getL name es).isSome=true) (e:putL name (dP w.params name) (.str name t) v es=es') (e':putN name es n=n') (q: ∀h',Mm h₀ h' chg (news.set i (a,cy es' n'))->Q () ⟨h',g,d,t + 1,os⟩):ak (aq prog w) A (nsSet a name v) Q E ⟨h,g,d,t,os⟩:=by
 subst e e';unfold nsSet;refine ae (ae (d7 (ah (ae (ql (ae (Cu (D.at i _ _ hi) ?_)))))));have c:(!es.toArray.any (·.key.isStr name) && es.toArray.any (·.refKey))=false:=by
  rw [<- HF, <- HF];unfold getL at hl;split at hl
  ·rename_i en he;rw [List.any_eq_true.mpr ⟨en,List.mem_of_find?_eq_some he,List.find?_some he⟩]; rfl
  ·split at hl
   ·cases hl
   ·rename_i z; rw [Bool.not_eq_true] at z; rw [z,xu]
 dsimp only;rw [aRefKeyMayBeTheName_at,c];refine yd (D.at i _ _ hi) ?_;have:=D.update (f:=Obj.putName name (dP w.params name) (.str name t) v) hi (by rw [putName_dict]; rfl);rw [putName_dict] at this;exact q _ this
theorem jL {Q:Unit->aj->Prop} (hk:env.scope.kind=.class) (hn:env.kindOf name=some .local\/(env.kindOf name=none/\compilersOwnNames.contains name=true)) (hL:env.locals=a) (D:Mm h₀ h chg news) (i:Nat) (hi:news[i]? =some (a,cy es n)) (hl:(getL name es).isSome=true) (e:putL name (dP w.params name) (.str name t) v es=es') (e':putN name es n=n') (q: ∀h',Mm h₀ h' chg (news.set i (a,cy es' n'))->Q () ⟨h',g,d,t + 1,os⟩):ak (aq prog w) A (l6 env name v) Q E ⟨h,g,d,t,os⟩:=by
 have fin:ak (aq prog w) A (localSet env name v) Q E ⟨h,g,d,t,os⟩:=by
  unfold localSet;rw [hL];refine ae (gC (D.at i _ _ hi) ?_);rw [if_pos (by rfl)];exact zV D i hi hl e e' q
 have kc:(env.scope.kind == ScopeKind.class)=true:=by rw [hk]; rfl
 unfold l6;rcases hn with hn | ⟨hn,hc⟩
 ·have e1:(some NameKind.local == some xm)=false:=by decide
  simp only [hn,e1,kW,aV,if_false,kc,O5,if_true];exact fin
 ·have kb:env.blockKind=.class:=by unfold Env.blockKind; rw [hk]; rfl
  have e1:((none:Option jd) == some xm)=false:=by decide
  have e2:(ScopeKind.class == ScopeKind.function)=false:=by decide
  simp only [hn,e1,kW,aV,if_false,kb,kc,hc,e2,O5,NN,NV,NQ,if_true];exact fin
theorem Br {fl:Nat} (jl:env.code=.ref c) (C:iQ h c P) (D:Mm h₀ h chg news) (i:Nat) (hi:chg[i]? =some (P,aT ps)) (ht:iI ps.toList) (GA:eY pos ps.toList=none) (q: ∀c' P' oc h' tk,Mm h₀ h' (chg.set i (P,aT (ps++ #[aQ pos.line,aQ pos.col,.ref c']))) ((P',aT #[])::(c',oc)::news)->iQ h' c' P'->h'.CodeRec (.ref c') qual->Q (.ref c') ⟨h',g,d,tk,os⟩):
  ak (aq prog w) A (classCode env pos fl name qual scope) Q E ⟨h,g,d,t,os⟩:=by
 have hP:=D.atC i _ _ hi;refine mK (C.code hP ht) fun o vs file tf flags tg Wg text tt r=>ex r fun op r=>rj r fun ho hd Z1 h2 r=>ve r fun h7 h9 Qa r=>ve r fun _ _ htr EP=>?_;unfold classCode codeAt;rw [jl,if_neg (show ¬((cY c == Value.none)=true) from aI)];refine ae (Cv ho hd ?_);rw [Z1];refine ae (Cv hP rfl ?_);rw [GA,h2,h7,h9,Qa];refine ae (wpAny_newCodeX fun c' P' h' tk hk S9 Z2 Ju OA OB=>?_);have Tz:=hk _ _ hP;refine ae (wpAny_updateFieldsOfTheText Tz rfl ?_);have GB:(mG (fun vs=>if (eY pos vs.toList).isSome=true then vs else vs++ #[aQ pos.line,aQ pos.col,.ref c']) (aT ps))=aT (ps++ #[aQ pos.line,aQ pos.col,.ref c']):=by
  unfold mG;simp [GA]
 have Qi:=bu (h:=h') (fun o=>mG (fun vs=>if (eY pos vs.toList).isSome=true then vs else vs++ #[aQ pos.line,aQ pos.col,.ref c']) o) Tz (by rw [GB]; rfl);rw [GB] at Qi;refine ae (Cv Qi rfl ?_);have hl:(ps++ #[aQ pos.line,aQ pos.col,cY c']).toList=ps.toList++[aQ pos.line,aQ pos.col,.ref c']:=by simp
 rw [hl,codeAmong_snoc _ htr GA];have hs:cz P h' (h'.update P fun o=>mG (fun vs=>if (eY pos vs.toList).isSome=true then vs else vs++ #[aQ pos.line,aQ pos.col,.ref c']) o):=bH ..;have TA:c'≠P:=Nat.ne_of_gt (Nat.lt_of_lt_of_le (az hP) S9);have Qj:P'≠P:=Nat.ne_of_gt (Nat.lt_of_lt_of_le (az hP) Z2);have hx:gM P h (h'.update P fun o=>mG (fun vs=>if (eY pos vs.toList).isSome=true then vs else vs++ #[aQ pos.line,aQ pos.col,.ref c']) o):=fun b o' hb e=>(hs.extBut b o' hb (hk b o' e));have C2:iQ _ c' P':=CodeHd.of (Ju.extBut hs.extBut TA Qj) (OA.extBut hs.extBut TA Qj);refine ea OA fun hz hP2=>nV hz fun oc vc xO _=>?_;refine ah (q c' P' oc _ _ (D.Tw (more:=[(P',aT #[]),(c',oc)]) hi hx Qi ?_ (fun p hp=>?_) ?_) C2 ?_)
 ·rw [AB];exact Nat.le_of_lt (Nat.lt_of_le_of_lt S9 (az xO))
 ·exact bU hp (⟨hs.extBut _ _ Qj hP2,Z2⟩) fun hp=>rf hp ⟨hs.extBut _ _ TA xO,S9⟩
 ·have Xr:c'≠P':=mK Ju fun _ _ _ _ _ _ _ _ _ r=>ex r fun _ r=>r.2.2.2.2.2.2.2.2.2.2;simp [Ne.symm Xr]
 ·refine fF OB fun c₂ Xu Jv Qk Ql Qm Qn=>?_; clear OB;cases Ql;exact ⟨_,Xu,Jv,Qk,rfl,hs.extBut _ _ TA Qm,Qn⟩
theorem Jw {fl:Nat} {body:FuncBody} (mh:ff scope env=pure ru) (GC:env.globals=aO) (hg:h.Ns aO mg) (jl:env.code=.ref c) (C:iQ h c P) (D:Mm h₀ h chg news) (i:Nat) (hi:news[i]? =some (P,aT ps)) (ht:iI ps.toList) (GA:eY pos ps.toList=none) (Xv:aO≠P) (hb:h.BuiltinsAt mg P) (hkw:params.kwonlyargs=[]) (q: ∀f c' oc pP doc h' tk,Mm h₀ h' chg ((f,kdv_obj name qual params body scope ru .none doc ((mg "__name__").getD .none) c' pP)::(c',oc)::news.set i (P,aT (ps++ #[aQ pos.line,aQ pos.col,.ref c'])))->gM P h h'->(∃vs tq,oc.data=.fields vs/\vs[1]? =some (.str qual tq))->Q (.ref f) ⟨h',g,d,tk,os⟩):
  ak (aq prog w) A (makeFunction name qual params body scope env [] [] [] pos fl) Q E ⟨h,g,d,t,os⟩:=by
 rw [makeFunction_eq,hkw];refine ae (ah (ae (ah (ae (ah ?_)))));refine kdv_makeTail (s:=⟨h,g,d,t,os⟩) mh GC hg jl C (D.at i _ _ hi) ht GA Xv hb fun c' pP doc h' tk hx Qo fG xU Xw=>?_;refine jI xU fun c₂ oc Jv Qk Ql Qm TH Qn=>?_; clear xU;cases Ql;have rC:h.objs.size<=h'.objs.size:=Nat.le_of_lt (Nat.lt_of_le_of_lt Qo fG);have D1:=D.turn (more:=[(c',oc)]) hi hx Xw rC (fun p hp=>by
  exact rf hp (⟨Qm,Qo⟩)) (by simp)
 refine q _ c' oc pP doc _ tk (D1.alloc rfl) (fun b o hb e=>av _ (hx b o hb e)) ⟨Jv,Qk,TH,Qn⟩
end
theorem nf {l:List (Str × jd)} {mc:Addr} (hn:scope.names=l++[(x,.free)]) (hl: ∀y∈l,y.2≠ .free) (Se:env.cells.lookup x=some mc):ff scope env=pure [(x,mc)]:=by
 have e:cellOf env x=pure mc:=by unfold cellOf; rw [Se]
 have key: ∀(l:List (Str × jd)),(∀y∈l,y.2≠ .free)->∀cs:List (Str × Addr),(forIn (l++[(x,bS)]) cs fun (y:Str × jd) (s:List (Str × Addr))=>
   if (y.2 == bS)=true then (do let a <- cellOf env y.1; pure (be ((y.1,a)::s)):Sem (ForInStep (List (Str × Addr)))) else pure (be s))=pure ((x,mc)::cs):=by
  intro l
  induction l with
  | nil=>
   intro _ cs;rw [List.nil_append,List.forIn_cons];have:(bS == bS)=true:=by decide
   simp only [this,if_true,e,pure_bind,List.forIn_nil]
  | cons y l ih=>
   intro hl cs;rw [List.cons_append,List.forIn_cons];have:(y.2 == bS)=false:=by simpa using hl y (.head _)
   simp only [this,aV,if_false,pure_bind];exact ih (fun z hz=>hl z (.tail _ hz)) cs
 unfold ff;rw [hn]
 show (forIn (l++[(x,bS)]) [] _ >>= fun s=>pure s)=_
 rw [key l hl []]
 rfl
theorem zW (hl: ∀y∈scope.names,y.2≠ .free):ff scope env=pure []:=by
 simp only [ff];rw [forIn_yield_id [] (fun x hx c=>by
   obtain ⟨n,kind⟩:=x;have:(kind == bS)=false:=by simpa using hl _ hx
   simp only [this,aV,if_false])]
 rfl
theorem Mm.perm {OC:Led} (D:Mm h₀ h chg news) (p:news.Perm OC):Mm h₀ h chg OC:=by
 refine ⟨D.keep,fun x hx=>D.at_ x ?_,D.sz,fun x hx=>D.ge x (p.mem_iff.mpr hx),?_⟩
 ·exact cE hx (fun hx=>mL hx) fun hx=>mR ((p.mem_iff.mpr hx))
 ·exact (((List.Perm.refl chg).append p).map _).nodup_iff.mp D.nd
structure Gk (mg mb:Str->Option ai) (h₀:Heap) (P0:Addr):Prop where
 g:h₀.Ns aO mg
 b:h₀.Ns cu mb
 bmain: ∃bm ob,mg "__builtins__"=some (.ref bm)/\bm≠cu/\bm≠aO/\bm≠P0/\h₀.get? bm=some ob/\ob.cls=.type "module" /\ob.dict=some cu/\ob.data=.plain
 hg:P0≠aO
 hb:P0≠cu
 hc:P0≠jM
theorem Gk.Wh (G:Gk mg mb h₀ P0) (D:Mm h₀ h [(P0,o0)] news):h.Ns aO mg:=G.g.at' fun o e=>D.keep _ _ e fun p hp=>by exact rf hp (G.hg)
theorem Gk.bts (G:Gk mg mb h₀ P0) (D:Mm h₀ h [(P0,o0)] news) {P:Addr} (hP:h₀.objs.size<=P):h.BuiltinsAt mg P:=by
 refine kF G.bmain fun bm ob b1 b2 b3 b4 b5 b6=>?_;exact ⟨bm,ob,b1,b2,b3,Nat.ne_of_lt (Nat.lt_of_lt_of_le (az b5) hP),D.keep _ _ b5 fun p hp=>by rw [List.mem_singleton] at hp; subst hp; exact Ne.symm b4,b6⟩
theorem Gk.gne (G:Gk mg mb h₀ P0) {P:Addr} (hP:h₀.objs.size<=P):aO≠P:=by
 refine oz G.g fun o es ep e _=>?_;exact Nat.ne_of_lt (Nat.lt_of_lt_of_le (az e) hP)
section
variable {rest:Led} {d:lH} {t:Nat} {os:gq} {ns c P:Addr} {es es':List dz} {n':Nat} {name:Str}
theorem yK {Q:Flow->aj->Prop} {args:List Arg} {Xx:Obj} (G:Gk mg mb h₀ P0) (hk:env.scope.kind=.class) (hn:env.kindOf name=some .local) (hL:env.locals=ns) (GC:env.globals=aO) (jl:env.code=.ref c) (mh:ff scope env=pure ru) (D:Mm h₀ h [(P0,o0)] ((ns,cy es n)::(P,aT ps)::(c,Xx)::rest)) (C:iQ h c P) (ht:iI ps.toList) (GA:eY pos ps.toList=none) (hl:(getL name es).isSome=true) (e':putN name es n=n') (Xy:Wv (args++[]++[]++[]++[]) env=[]) (q: ∀f c' oc pP doc h' tk,Mm h₀ h' [(P0,o0)] ((ns,cy (putL name (dP w.params name) (.str name tk) (.ref f) es) n')::(P,aT (ps++ #[aQ pos.line,aQ pos.col,.ref c']))::(c,Xx)::(f,kdv_obj name (env.qual++name) ⟨[],args,none,[],[],none,[]⟩ (.stmts body) scope ru .none doc ((mg "__name__").getD .none) c' pP)::(c',oc)::rest)->
   iQ h' c P->iI (ps++ #[aQ pos.line,aQ pos.col,.ref c']).toList->(∃vs tq,oc.data=.fields vs/\vs[1]? =some (.str (env.qual++name) tq))->Q .next ⟨h',g,d,tk + 1,os⟩):
  ak (aq prog w) A (exec (.FunctionDef name ⟨[],args,none,[],[],none,[]⟩ body [] none [] scope none name pos) env) Q E ⟨h,g,d,t,os⟩:=by
 rw [arm_exec_FunctionDef];unfold defStmt;refine kG (by decide) ?_;refine ae (aK (a:=[]) rfl ?_);refine ae (bO ?_);refine ae (aB ?_);refine ae (aK (a:=[]) rfl ?_);refine ae (aB (aK (a:=[]) rfl ?_));refine aB ?_;refine ae (aK (a:=[]) (by refine (?_:evalNamed (Wv (args++[]++[]++[]++[]) env++[])=pure []); rw [Xy]; rfl) ?_);have hP:=D.ge (P,aT ps) (.tail _ (.head _));have hq:Cw env name name=env.qual++name:=by
  unfold Cw;rw [hn,if_neg (by decide)]
 rw [hq];refine Jw mh GC (G.Wh D) jl C D 1 rfl ht GA (G.gne hP) (G.bts D hP) rfl fun f c' oc pP doc h' tk D' hx ho=>?_;dsimp only [List.set] at D';refine ae (ah ?_);refine ae (bO ?_);unfold Cs;refine ae (ae (aB (nQ ?_)));refine ae (jL hk (.inl hn) hL D' 2 rfl hl rfl e' fun h2 D2=>?_);refine nQ (ah ?_);dsimp only [List.set] at D2;have TA:c≠P:=yJ C;have nd:=D2.nd;have C2:iQ h2 c P:=tC C fun o e=>(aH ((D.at 2 _ _ rfl).symm.trans e):Xx=o) ▸ D2.at 4 _ _ rfl;refine q f c' oc pP doc h2 tk (D2.perm ?_) C2 ?_ ho
 ·exact (List.perm_middle (l₁:=[_,_]) (l₂:=_::_::rest)).trans (.cons _ ((List.perm_middle (l₁:=[_,_]) (l₂:=_::rest)).trans (.cons _ (List.perm_middle (l₁:=[_,_]) (l₂:=rest)))))
 ·have:(ps++ #[aQ pos.line,aQ pos.col,cY c']).toList=ps.toList++[aQ pos.line,aQ pos.col,.ref c']:=by simp
  rw [this]; exact TriplesOk_snoc _ _ _ _ ht
end
noncomputable def t7:List Stmt:=(rG (dh 2).head?).2.1
noncomputable def tD:iK:=(rG (dh 2).head?).2.2.1
noncomputable def wu:List Str:=(rG (dh 2).head?).2.2.2.1
noncomputable def wz:Pos:=(rG (dh 2).head?).2.2.2.2
noncomputable abbrev lR (ns cc fr mc:Addr):Env:={ scope:=tD,locals:=ns,globals:=aO,cells:=[("mycmp",mc)],qual:="cmp_to_key.<locals>.K.",code:=.ref cc,frame:=some fr,builtins:=cu }
section
variable {d:lH} {t:Nat} {os:gq} {c0 L mc ns cc fr:Addr} {Jx:Array ai} {v0:ai} {es:List dz}
theorem wA {name:Str} {r:Option ai} (hx:h.get? env.locals=some (cy es n)) (hl:getL name es=some r):bk M h (Vz env name) r:=by
 unfold Vz;refine iA (a:=cy es n) (cT hx) ?_;refine (?_:bk M h (if ((Value.type "dict" :ai) == Value.type "dict")=true then _ else _) r);rw [if_pos (by decide +kernel)];unfold nsGet;exact (cT hx).andThen (aU (nsLook_of hl))
theorem MC (G:Gk mg mb h₀ P0) (Qp:mg "__name__"=some v0) (D:Mm h₀ h [(P0,o0)] news) (i:Nat) (hi:news[i]? =some (ns,cy es n)) (hl:getL "__name__" es=some none) (q:Q v0 ⟨h,g,d,t,os⟩):
  ak (aq prog w) A (KV (lR ns cc fr mc) "__name__") Q E ⟨h,g,d,t,os⟩:=by
 have t1:bk (aq prog w) h (Vz (lR ns cc fr mc) "__name__") none:=wA (D.at i _ _ hi) hl;unfold KV;have e1:((lR ns cc fr mc).scope.kind.isAnnotationScope && (lR ns cc fr mc).kindOf "__classdict__" == some .free && ("__name__" :Str) != "__classdict__")=false:=by kernel_rfl
 have e2:(lR ns cc fr mc).blockKind=.class:=by kernel_rfl
 have e3:(lR ns cc fr mc).kindOf "__name__"=none:=by kernel_rfl
 simp only [e1,e2,e3,aV,if_false];refine kG (by decide +kernel) ?_;refine ae (t1.at ?_);unfold loadGlobal;refine ae (sA (G.Wh D) ?_);rw [Qp];exact ah q
end
noncomputable def Jy (i:Nat):gK:=(rG t7[i]?).1
noncomputable def Dw (i:Nat):List Stmt:=(rG t7[i]?).2.1
noncomputable def jG (i:Nat):iK:=(rG t7[i]?).2.2.1
noncomputable abbrev Jz (i:Nat) (name:Str) (ru:List (Str × Addr)) (doc pm:ai) (c:Addr) (pP:ai):Obj:=kdv_obj name ("cmp_to_key.<locals>.K." ++name) (Jy i) (.stmts (Dw i)) (jG i) ru .none doc pm c pP
noncomputable abbrev jm (i:Nat) (name:Str) (ru:List (Str × Addr)) (pm:ai) (x:Addr × Addr × Obj × ai × ai):Led:=[(x.1,Jz i name ru x.2.2.2.1 pm x.2.1 x.2.2.2.2),(x.2.1,x.2.2.1)]
noncomputable abbrev yM (w:bR) (ts:Nat->Nat) (m0 q0 l0 sl:ai) (f4 f5 f6 f7 f8 f9:Addr):List dz:=
 [en w "__module__" (ts 1) m0,en w "__qualname__" (ts 2) q0,en w "__firstlineno__" (ts 3) l0,en w "__slots__" (ts 4) sl,en w "__init__" (ts 5) (.ref f4),en w "__lt__" (ts 6) (.ref f5),en w "__gt__" (ts 7) (.ref f6),en w "__eq__" (ts 8) (.ref f7),en w "__le__" (ts 9) (.ref f8),en w "__ge__" (ts 10) (.ref f9),en w "__hash__" (ts 11) .none]
section
variable {rest:Led} {d:lH} {t:Nat} {os:gq} {mc ns cc Pc fr:Addr} {oc:Obj} {v0 q0 l0:ai} {t3:Nat}
theorem Qq {Q:Flow->aj->Prop} (G:Gk mg mb h₀ P0) (D:Mm h₀ h [(P0,o0)] ((ns,cy [en w "__module__" t1 v0,en w "__qualname__" t2 q0,en w "__firstlineno__" t3 l0] 3)::(Pc,aT #[])::(cc,oc)::rest)) (C:iQ h cc Pc) (q: ∀(x4 x5 x6 x7 x8 x9:Addr × Addr × Obj × ai × ai) (l:Addr) (tm to:Nat) (o':Obj) (ts:Nat->Nat) h' tk,Mm h₀ h' [(P0,o0)] ((ns,cy (yM w ts (.str "cpy313.functools" tm) q0 l0 (.ref l) x4.1 x5.1 x6.1 x7.1 x8.1 x9.1) 11)::(Pc,o')::(cc,oc)::
    (jm 7 "__ge__" [("mycmp",mc)] ((mg "__name__").getD .none) x9++(jm 6 "__le__" [("mycmp",mc)] ((mg "__name__").getD .none) x8++(jm 5 "__eq__" [("mycmp",mc)] ((mg "__name__").getD .none) x7++(jm 4 "__gt__" [("mycmp",mc)] ((mg "__name__").getD .none) x6++(jm 3 "__lt__" [("mycmp",mc)] ((mg "__name__").getD .none) x5++(jm 2 "__init__" [] ((mg "__name__").getD .none) x4++
     (l,{ cls:=.type "list",data:=.seq #[.str "obj" to] })::rest)))))))->
   (∃vs tq,x4.2.2.1.data=.fields vs/\vs[1]? =some (.str "cmp_to_key.<locals>.K.__init__" tq))->(∃vs tq,x5.2.2.1.data=.fields vs/\vs[1]? =some (.str "cmp_to_key.<locals>.K.__lt__" tq))->Q .next ⟨h',g,d,tk,os⟩):
  ak (aq prog w) A (ik t7 (lR ns cc fr mc)) Q E ⟨h,g,d,t,os⟩:=by
 have JA: ∀{sc:iK} {l:List (Str × jd)},sc.names=l++[(("mycmp" :Str),bS)]->(∀y∈l,y.2≠ .free)->ff sc (lR ns cc fr mc)=pure [(("mycmp" :Str),mc)]:=fun h1 h2=>nf h1 h2 rfl;refine bD (aZ (wpAny_Constant_str ?_) rfl);refine jL (env:=lR ns cc fr mc) rfl (.inl rfl) rfl D 0 rfl rfl (es':=[en w "__module__" t1 _,en w "__qualname__" t2 q0,en w "__firstlineno__" t3 l0]) (n':=3) rfl rfl fun h1 D1=>?_;dsimp only [List.set] at D1;refine bD (aZ (wpAny_List ?_) rfl)
 iterate 34 (try (first | (with_reducible refine fU (by assumption) rfl ?_; intro a' h' D') | lk))
 refine ⟨by refine (?_:1<=bF); rw [gi]; lia,?_⟩;have D2:=(D1.alloc (o:={ cls:=.type "list",data:=.seq (List.toArray [Value.str "obj" (t + 1 + 1)]) }) rfl).perm ((List.perm_middle (l₁:=[_,_,_]) (l₂:=rest)).symm);refine jL (env:=lR ns cc fr mc) rfl (.inl rfl) rfl D2 0 rfl rfl (es':=[en w "__module__" t1 _,en w "__qualname__" t2 q0,en w "__firstlineno__" t3 l0,en w "__slots__" _ _]) (n':=4) rfl rfl fun h3 D3=>?_;dsimp only [List.set,List.cons_append,List.nil_append] at D3;have C3:iQ h3 cc Pc:=by
  refine mK C fun o vs file tf flags tg Wg text tt k_=>?_; clear C; refine ea k_ fun e1 r=>?_;have e0:=D.at 2 _ _ rfl;rw [e0] at e1;cases e1;exact ⟨_,vs,file,tf,flags,tg,Wg,text,tt,D3.at 2 _ _ rfl,r⟩
 refine bD (yK (env:=lR ns cc fr mc) G rfl rfl rfl rfl rfl (zW (by decide +kernel)) D3 C3 trivial rfl rfl (n':=5) rfl rfl fun f4 c4 oc4 Xz XA h4 Z3 D4 C4 T4 R4=>?_);refine bD (yK (env:=lR ns cc fr mc) G rfl rfl rfl rfl rfl (JA (l:=[("self",.local),("other",.local)]) rfl (by decide +kernel)) D4 C4 T4 (by rfl) rfl (n':=6) rfl rfl fun f5 c5 oc5 XC XD h5 tk5 D5 C5 T5 R5=>?_);refine bD (yK (env:=lR ns cc fr mc) G rfl rfl rfl rfl rfl (JA (l:=[("self",.local),("other",.local)]) rfl (by decide +kernel)) D5 C5 T5 (by rfl) rfl (n':=7) rfl rfl fun f6 c6 oc6 XE XF h6 ZH D6 C6 T6 R6=>?_);refine bD (yK (env:=lR ns cc fr mc) G rfl rfl rfl rfl rfl (JA (l:=[("self",.local),("other",.local)]) rfl (by decide +kernel)) D6 C6 T6 (by rfl) rfl (n':=8) rfl rfl fun f7 c7 oc7 XH XI h7 tk7 D7 C7 T7 R7=>?_);refine bD (yK (env:=lR ns cc fr mc) G rfl rfl rfl rfl rfl (JA (l:=[("self",.local),("other",.local)]) rfl (by decide +kernel)) D7 C7 T7 (by rfl) rfl (n':=9) rfl rfl fun f8 c8 oc8 XJ XK h8 tk8 D8 C8 T8 R8=>?_);refine bD (yK (env:=lR ns cc fr mc) G rfl rfl rfl rfl rfl (JA (l:=[("self",.local),("other",.local)]) rfl (by decide +kernel)) D8 C8 T8 (by rfl) rfl (n':=10) rfl rfl fun f9 c9 oc9 XM XN h9 tk9 D9 C9 T9 R9=>?_);refine bD (aZ (wpAny_Constant_none ?_) rfl);refine jL (env:=lR ns cc fr mc) rfl (.inl rfl) rfl D9 0 rfl rfl (es':=yM w (fun i=>match i with | 1=>t1 | 2=>t2 | 3=>t3 | 4=>_ | 5=>Z3 | 6=>tk5 | 7=>ZH | 8=>tk7 | 9=>tk8 | 10=>tk9 | _=>_) (.str "cpy313.functools" t) q0 l0 _ f4 f5 f6 f7 f8 f9) (n':=11) rfl rfl fun Qa Sf=>?_;refine bz ?_;exact q (f4,c4,oc4,XA,Xz) (f5,c5,oc5,XD,XC) (f6,c6,oc6,XF,XE) (f7,c7,oc7,XI,XH) (f8,c8,oc8,XK,XJ) (f9,c9,oc9,XN,XM) _ _ _ _ _ Qa _ Sf R4 R5
end
section
variable {d:lH} {t:Nat} {os:gq} {c0 L mc:Addr} {Jx:Array ai} {v0:ai}
theorem wB:bj (.type "dict") "__getitem__"=pure (some (.builtin "dict.__getitem__")):=by rw [aF,ay]; kernel_rfl
theorem TJ {items:List ai} (D:Mm h₀ h chg news) (hz:items.length<=1000) (x: ∀a h',Mm h₀ h' chg ((a,{ cls:=.type "tuple",data:=.seq items.toArray })::news)->Q (.ref a) ⟨h',g,d,t,os⟩):ak (aq prog w) A (newTuple items) Q E ⟨h,g,d,t,os⟩:=
 iz (x _ _ (D.alloc rfl)) (sl hz)
theorem MD (G:Gk mg mb h P0) (Qp:mg "__name__"=some v0) (rC:mH < h.objs.size) (hA:A.depth + 3 < 1000) (ME:h.NoLimit) (GC:env.globals=aO) (TL:env.builtins=cu) (jl:env.code=.ref c0) (C:iQ h c0 P0) (TM:h.get? P0=some (aT Jx)) (ht:iI Jx.toList) (GA:eY wz Jx.toList=none) (Se:env.cells.lookup ("mycmp" :Str)=some mc) (q: ∀(x4 x5 x6 x7 x8 x9:Addr × Addr × Obj × ai × ai) (l:Addr) (tm to:Nat) (o':Obj) (ts:Nat->Nat) h' tk (tup ns Pc cc bT:Addr) (oS tq tl:Nat) (oc:Obj) (tt:Array ai) (Dy of2:Addr × Obj),Mm h h' [(P0,aT (Jx++ #[aQ wz.line,aQ wz.col,.ref cc]))] ((tup,{ cls:=.type "tuple",data:=.seq tt })::(ns,cy (yM w ts (.str "cpy313.functools" tm) (.str "cmp_to_key.<locals>.K" tq) (.int 7 tl) (.ref l) x4.1 x5.1 x6.1 x7.1 x8.1 x9.1++[en w "__static_attributes__" oS (.ref tup)]) 12)::(Pc,o')::(cc,oc)::
    (jm 7 "__ge__" [("mycmp",mc)] ((mg "__name__").getD .none) x9++(jm 6 "__le__" [("mycmp",mc)] ((mg "__name__").getD .none) x8++(jm 5 "__eq__" [("mycmp",mc)] ((mg "__name__").getD .none) x7++(jm 4 "__gt__" [("mycmp",mc)] ((mg "__name__").getD .none) x6++(jm 3 "__lt__" [("mycmp",mc)] ((mg "__name__").getD .none) x5++(jm 2 "__init__" [] ((mg "__name__").getD .none) x4++
     (l,{ cls:=.type "list",data:=.seq #[.str "obj" to] })::Dy::of2::(bT,{ cls:=.type "tuple",data:=.seq #[.type "object"] })::[])))))))->
   (∃vs tq,x4.2.2.1.data=.fields vs/\vs[1]? =some (.str "cmp_to_key.<locals>.K.__init__" tq))->(∃vs tq,x5.2.2.1.data=.fields vs/\vs[1]? =some (.str "cmp_to_key.<locals>.K.__lt__" tq))->
   ak (aq prog w) A (call (.type "type") [.str "K" t,.ref bT,.ref ns]) Q E ⟨h',g,d,tk,os⟩):
  ak (aq prog w) A (NW "K" "cmp_to_key.<locals>.K" [.type "object"] [] t7 tD wu 7 env wz none) Q E ⟨h,g,d,t,os⟩:=by
 refine gG G.bmain fun bm ob b1 b2 b3 b4 b5 b6 b7 b8=>?_;obtain ⟨sc,lo,gl,ce,qu,co,cd,bl,bt⟩:=env;dsimp only at GC TL jl Se;subst GC TL jl;have D:=Mm.Qg TM;have mh:ff tD ⟨sc,lo,aO,ce,qu,co,.ref c0,bl,cu⟩=pure [(("mycmp" :Str),mc)]:=
  nf (l:=tD.names.dropLast) rfl (by decide +kernel) Se
 unfold NW;refine ae (TJ D (by decide) fun bT h1 D1=>?_);refine ae (aK (a:=([.type "object"],false)) (by kernel_rfl) ?_);refine ae (aK (a:=.type "type") (by kernel_rfl) ?_);refine ae (aK (a:=true) (by kernel_rfl) ?_);refine ae (aK (a:=.type "type") (by kernel_rfl) ?_);refine ae (ql ?_);refine ae (ah (aB ?_));refine ae (Qh D1 fun p h2 D2=>?_);refine ae (Gz D2 (D2.at 0 _ _ rfl) fun ns h3 D3=>?_);have Ii:ns≠mH:=D3.ne (i:=0) rfl rC;refine ae (aK (a:=()) (by unfold notTheModulesDict; rw [if_neg (by simpa using Ii)]) ?_);have t3:bk (aq prog w) h3 (gb (.ref ns) "__getitem__") (some (.builtin "dict.__getitem__")):=((cT (D3.at 0 _ _ rfl)).andThen .now).andThen (aU wB);refine ae (t3.at ?_);refine Dt (by decide) (aB ?_);refine Dt (by decide +kernel) (ae (ah ?_));refine Dt (by decide +kernel) (ae (ah ?_));have C3:=tC C fun o e=>D3.old _ _ e fun p hp=>List.mem_singleton.mp hp ▸ Ne.symm (yJ C);refine ae (Br rfl C3 D3 0 rfl ht GA fun cc Pc oc h4 Z3 D4 C4 xU=>?_);have ne1: ∀{b:Addr},b≠P0->∀p∈[(P0,aT (Jx++ #[aQ wz.line,aQ wz.col,.ref cc]))],p.1≠b:=fun hb p hp=>by exact rf hp (Ne.symm hb)
 refine ae (wpAny_builtinsFor (G.Wh D4) b1 b2 (D4.old _ _ b5 (ne1 b4)) b6 b7 b8 ?_);unfold newBodyFrame;refine ae (ae (sA (G.Wh D4) ?_));refine fU D4 rfl fun fr h5 D5=>?_;refine gj ?_;refine ae (aK mh ?_);refine aB ?_;have TN:h5.NoLimit:=by
  refine bQ ME fun LI XO TP=>?_; clear ME;exact ⟨LI,XO.at' fun o e=>D5.old _ _ e (ne1 (Ne.symm G.hc)),TP⟩
 refine ae (RM TN (by refine (?_:A.depth < 1000); exact Nat.lt_of_le_of_lt (Nat.le_add_right _ 3) hA) ?_);have D6:=D5.perm ((List.perm_middle (l₁:=[_,_,_]) (l₂:=[_,_])).trans (.cons _ (List.perm_middle (l₁:=[_,_]) (l₂:=[_,_])).symm));refine ae (um ?_);refine ae (MC (ns:=ns) (cc:=cc) (fr:=fr) (mc:=mc) G Qp D6 0 rfl rfl ?_);refine ae (jL (env:=lR ns cc fr mc) rfl (.inl rfl) rfl D6 0 rfl rfl (es':=[en w "__module__" _ v0]) (n':=1) rfl rfl fun h7 D7=>?_);refine ae (ql ?_);refine ae (jL (env:=lR ns cc fr mc) rfl (.inr ⟨rfl,rfl⟩) rfl D7 0 rfl rfl (es':=[en w "__module__" _ v0,en w "__qualname__" _ _]) (n':=2) rfl rfl fun h8 D8=>?_);refine ae (Lc ?_);refine ae (jL (env:=lR ns cc fr mc) rfl (.inr ⟨rfl,rfl⟩) rfl D8 0 rfl rfl (es':=[en w "__module__" _ v0,en w "__qualname__" _ _,en w "__firstlineno__" _ _]) (n':=3) rfl rfl fun h9 D9=>?_);refine ah ?_;dsimp only [List.set] at D9
 iterate 1 (first | (with_reducible refine fU (by assumption) rfl ?_; intro a' h' D') | (with_reducible refine bN (by assumption) 0 rfl ?_; try dsimp only) | (with_reducible refine bN (by assumption) 1 rfl ?_; try dsimp only) | (with_reducible refine bN (by assumption) 2 rfl ?_; try dsimp only) | (with_reducible refine bN (by assumption) 3 rfl ?_; try dsimp only) | with_reducible refine aK dW ?_ | with_reducible refine aK cG ?_ | with_reducible refine aK gc ?_ | lk)
 have C9:iQ h9 cc Pc:=tC C4 fun o e=>(D4.at 1 _ _ rfl).symm.trans e ▸ D9.at 2 _ _ rfl;refine wpAny_run (h:=none) (codeAny_body (stmts:=t7) (by decide +kernel) rfl ?_) (by intro x; cases x);refine Qq (mc:=mc) (fr:=fr) G D9 C9 fun x4 x5 x6 x7 x8 x9 l tm to o' ts Qa XQ Sf R4 R5=>?_;refine ae (um ?_)
 iterate 12 (first | (with_reducible refine fU (by assumption) rfl ?_; intro a' h' D') | (with_reducible refine bN (by assumption) 0 rfl ?_; try dsimp only) | (with_reducible refine bN (by assumption) 1 rfl ?_; try dsimp only) | (with_reducible refine bN (by assumption) 2 rfl ?_; try dsimp only) | (with_reducible refine bN (by assumption) 3 rfl ?_; try dsimp only) | with_reducible refine aK dW ?_ | with_reducible refine aK cG ?_ | with_reducible refine aK gc ?_ | lk)
 refine ah (ae (wpAny_newTextTuple ?_));have OD:=Sf.alloc (o:={ cls:=.type "tuple",data:=.seq (List.toArray [Value.str "obj" XQ].reverse) }) rfl;refine ae (jL (env:=lR ns cc fr mc) rfl (.inr ⟨rfl,rfl⟩) rfl OD 1 rfl rfl (es':=yM w ts (.str "cpy313.functools" tm) _ _ (.ref l) x4.1 x5.1 x6.1 x7.1 x8.1 x9.1++[en w "__static_attributes__" _ _]) (n':=12) rfl rfl fun Z4 XR=>?_);refine ah ?_
 iterate 2 (first | (with_reducible refine fU (by assumption) rfl ?_; intro a' h' D') | (with_reducible refine bN (by assumption) 0 rfl ?_; try dsimp only) | (with_reducible refine bN (by assumption) 1 rfl ?_; try dsimp only) | (with_reducible refine bN (by assumption) 2 rfl ?_; try dsimp only) | (with_reducible refine bN (by assumption) 3 rfl ?_; try dsimp only) | with_reducible refine aK dW ?_ | with_reducible refine aK cG ?_ | with_reducible refine aK gc ?_ | lk)
 refine aN (q x4 x5 x6 x7 x8 x9 l tm to o' ts Z4 _ _ _ _ _ _ _ _ _ _ _ _ _ XR R4 R5) (fun v s' hv=>ah hv) fun _ _ e=>e
end
section
open PySem.Builtin
theorem Bs:notOverATurnedClass [.type "object"]=pure ():=by kernel_rfl
theorem GD:extendedBase [.type "object"]=pure (.type "object"):=by kernel_rfl
theorem Dz:Slots.bestBase [.type "object"]=pure (.type "object"):=by kernel_rfl
theorem Bt:Slots.slotNamesOf (.type "object")=pure []:=by kernel_rfl
theorem t8:Slots.givesDict (.type "object")=pure false:=by kernel_rfl
theorem t9:Slots.givesWeak (.type "object")=pure false:=by kernel_rfl
theorem yN:Slots.varSize (.type "object")=pure false:=by kernel_rfl
theorem j3:jX (.type "object")=pure (some "object.__new__"):=by kernel_rfl
theorem xV:jX (.type "type")=pure (some "type.__new__"):=by kernel_rfl
theorem GF:mroHook? (.type "type")=pure none:=by kernel_rfl
theorem Bu:linearize [.type "object"] FF=pure [.type "object"]:=by kernel_rfl
theorem DA:FF (.type "type")=pure [.type "type",.type "object"]:=by rw [NP]; kernel_rfl
theorem Bv (a b c:ai):ED "type" ⟨[a,b,c],[]⟩=pure ():=by kernel_rfl
theorem DB (a b c:ai):dY "type.__new__" ⟨[.type "type",a,b,c],[]⟩=pure ():=by kernel_rfl
theorem DC:bj (.type "type") "__init__"=pure (some (.builtin "type.__init__")):=by rw [aF,ay]; kernel_rfl
theorem tF:fD kg "type.__new__"=some Builtin.«type.__new__»:=cX (by kernel_rfl)
theorem rV:fD kg "type.__init__"=some Builtin.«type.__init__»:=cX (by kernel_rfl)
theorem Bw:eV (.type "tuple") (.type "tuple")=pure true:=by rw [bK]; kernel_rfl
theorem DE:eV (.type "dict") (.type "dict")=pure true:=by rw [bK]; kernel_rfl
theorem Bx:bj (.type "dict") "__iter__"=pure (some (.builtin "dict.__iter__")):=by rw [aF,ay]; kernel_rfl
theorem MF:typeSubclassesOfTheStartUp.contains "object"=true:=by decide +kernel
noncomputable abbrev yO (w:bR) (mc:Addr) (pm:ai) (x4 x5 x6 x7 x8 x9:Addr × Addr × Obj × ai × ai) (l tup ns Pc cc bT:Addr) (es:List dz) (to:Nat) (o' oc:Obj) (tt:Array ai) (Dy of2:Addr × Obj):Led:=
 (tup,{ cls:=.type "tuple",data:=.seq tt })::(ns,cy es 12)::(Pc,o')::(cc,oc)::
    (jm 7 "__ge__" [("mycmp",mc)] pm x9++(jm 6 "__le__" [("mycmp",mc)] pm x8++(jm 5 "__eq__" [("mycmp",mc)] pm x7++(jm 4 "__gt__" [("mycmp",mc)] pm x6++(jm 3 "__lt__" [("mycmp",mc)] pm x5++(jm 2 "__init__" [] pm x4++
     (l,{ cls:=.type "list",data:=.seq #[.str "obj" to] })::Dy::of2::(bT,{ cls:=.type "tuple",data:=.seq #[.type "object"] })::[]))))))
end
section
open PySem.Builtin
section
variable {d:lH} {t:Nat} {os:gq} {l:Addr} {es:List dz} {to:Nat} {e0:dz}
theorem By {Q:Slots.Plan->aj->Prop} (hf:es.toArray.find? (·.key.isStr "__slots__")=some e0) (Z5:e0.val=.ref l) (XS:es.toArray.any (·.key.isStr "obj")=false) (hl:h.get? l=some { cls:=.type "list",data:=.seq #[.str "obj" to] }) (q: ∀h',(∀b o,h.get? b=some o->h'.get? b=some o)->Q { names:=["obj"],dict:=false,weak:=false,inherited:=[] } ⟨h',g,d,t,os⟩):ak (aq prog w) A (RN "K" [.type "object"] es.toArray) Q E ⟨h,g,d,t,os⟩:=by
 obtain ⟨hs0,ky0,vl0⟩:=e0;dsimp only at Z5;subst Z5;unfold RN;refine ae (aK Dz ?_);refine ae (aK Bt ?_);refine ae (aK t8 ?_);k_node;refine ae (aK t9 ?_);refine ae (aK yN ?_);k_node;rw [hf];k_node;refine ae ?_;k_node;refine nd_rule ?_;refine gj ?_;refine ae ?_;k_node;k_node;refine ae ?_;k_node;refine qk hl ?_;refine gj ?_;k_node;refine ah ?_;k_node;k_node;refine ae ?_;refine (?_:ak (aq prog w) A (collect (.ref l)) _ _ _);refine wpAny_collect_seq l (T:="list") (.inl rfl) hl rfl rfl (fun h1 Oh=>?_) (by refine (?_:1<=bF); rw [gi]; lia);k_node;k_node;refine ae (aK yN ?_);k_node;k_node;refine ae ?_;k_node;k_node;k_node;k_node;k_node;k_node;k_node;refine ae ?_;k_node;refine ae ?_;k_node;k_node;refine ah ?_;k_node;refine ae ?_;refine ah ?_;k_node;rw [show Slots.isIdentifier (("obj" :Str))=some true from by decide +kernel];k_node;refine ae ?_;refine ah ?_;k_node;k_node;k_node;k_node;k_node;k_node;refine ah ?_;k_node;k_node;refine ah ?_;k_node;refine ae ?_;k_node;k_node;k_node;k_node;k_node;k_node;k_node;refine ae ?_;k_node;k_node;k_node;have hm:NX ("K" :Str) ("obj" :Str)=("obj" :Str):=by decide +kernel
 refine kG (show ¬(es.toArray.any (·.key.isStr (NX ("K" :Str) ("obj" :Str))) && _)=true by rw [hm,XS]; simp) ?_;k_node;k_node;k_node;refine ah ?_;k_node;k_node;refine ah ?_;k_node;refine ae ?_;k_node;k_node;k_node;k_node;k_node;k_node;k_node;refine ae ?_;k_node;k_node;refine ah ?_;k_node;k_node;refine ah ?_;k_node;refine ah ?_;exact q h1 Oh
end
end
section
open PySem.Builtin
theorem dD {es:List dz} {name:Str} {r:Option ai} (hx:h.get? a=some (cy es n)) (hl:getL name es=some r):bk M h (nsGet a name) r:=by
 unfold nsGet;exact (cT hx).andThen (aU (nsLook_of hl))
theorem Mm.TQ {p:Addr × Obj} (D:Mm h₀ h chg (p::news)) (hk: ∀b o,h.get? b=some o->h'.get? b=some o):Mm h₀ h' chg (p::news):=
 ⟨fun b o e q=>hk _ _ (D.keep b o e q),fun x hx=>hk _ _ (D.at_ x hx),Nat.le_of_lt (Nat.lt_of_le_of_lt (D.ge p (.head _)) (az (hk _ _ (D.at_ p (mR ((.head _))))))),D.ge,D.nd⟩
noncomputable abbrev zX (a ns:Addr):gQ:={ name:="K",bases:=[.type "object"],mro:=[.ref a,.type "object"],ns:=ns,qualname:="cmp_to_key.<locals>.K",hasDict:=false,slotNames:=["obj"] }
noncomputable abbrev kC (cd:gQ) (sl:Array (Option ai)):Obj:={ cls:=.type "type",data:=.cls cd,slots:=sl }
theorem E9 {cd:gQ} (h1:cd.subclasses.length<=100) (h2:cd.slotNames.length<=100):(Ww cd).pastItsLine=none:=by
 refine (?_:(if (decide (cd.subclasses.length > bF) || decide (cd.slotNames.length > bF))=true then some "class:memory" else none)=none);rw [decide_eq_false (by rw [gi]; exact Nat.not_lt.mpr (lK h1)),decide_eq_false (by rw [gi]; exact Nat.not_lt.mpr (lK h2))]
 rfl
section
variable {d:lH} {t:Nat} {os:gq} {cd cd':gQ} {sl sl':Array (Option ai)} {es es':List dz} {n':Nat} {name:Str}
theorem mw {Q:Unit->aj->Prop} {v:Option ai} (D:Mm h₀ h chg news) (j:Nat) (hi:news[j]? =some (a,kC cd sl)) (PV:i < 100) (e:(sl++Array.replicate (i + 1 - sl.size) none).setIfInBounds i v=sl') (q: ∀h',Mm h₀ h' chg (news.set j (a,kC cd sl'))->Q () ⟨h',g,d,t,os⟩):
  ak (aq prog w) A (setSlotAt a i v) Q E ⟨h,g,d,t,os⟩:=by
 subst e;unfold setSlotAt;refine kG (by rw [gi]; exact Nat.not_le.mpr (Nat.lt_trans PV (by decide))) ?_;exact yd (D.at j _ _ hi) (q _ (D.update hi rfl))
theorem BA {Q:Unit->aj->Prop} {f:gQ->gQ} (D:Mm h₀ h chg news) (j:Nat) (hi:news[j]? =some (a,kC cd sl)) (e:f cd=cd') (hp:(Ww cd').pastItsLine=none) (q: ∀h',Mm h₀ h' chg (news.set j (a,kC cd' sl))->Q () ⟨h',g,d,t,os⟩):
  ak (aq prog w) A (updateCls a f) Q E ⟨h,g,d,t,os⟩:=by
 subst e;unfold updateCls;refine ae (gC (D.at j _ _ hi) ?_);have D2:=D.update (f:=HG f) hi rfl;have hj:j < news.length:=(List.getElem?_eq_some_iff.mp hi).1;have e2:(news.set j (a,HG f (kC cd sl)))[j]? =some (a,HG f (kC cd sl)):=by rw [List.getElem?_set]; simp [hj]
 refine ae (wpAny_update (D.at j _ _ hi) ?_);exact RO (D2.at j _ _ e2) hp (q _ D2)
theorem MG {Q:Bool->aj->Prop} (D:Mm h₀ h chg news) (j:Nat) (hi:news[j]? =some (a,cy es n)) (e0:nsHas name (cy es n)=pure true) (e:RP name (cy es n)=cy es' n') (q: ∀h',Mm h₀ h' chg (news.set j (a,cy es' n'))->Q true ⟨h',g,d,t,os⟩):
  ak (aq prog w) A (nsDel a name) Q E ⟨h,g,d,t,os⟩:=by
 unfold nsDel;refine ae (Cu (D.at j _ _ hi) ?_);rw [e0];refine ae (ah ?_);rw [if_pos rfl];have:=D.update (f:=RP name) hi (by rw [e]; rfl);rw [e] at this;exact ae (yd (D.at j _ _ hi) (ah (q _ this)))
theorem JB {Q:Unit->aj->Prop} (D:Mm h₀ h chg news) (i:Nat) (hi:news[i]? =some (a,cy es n)) (hz:es.length<=1000) (hl:(getL name es).isSome=true) (e:putL name (dP w.params name) (.str name t) v es=es') (e':putN name es n=n') (q: ∀h',Mm h₀ h' chg (news.set i (a,cy es' n'))->Q () ⟨h',g,d,t + 1,os⟩):ak (aq prog w) A (nsSetByValue a name v) Q E ⟨h,g,d,t,os⟩:=by
 unfold nsSetByValue;refine ae (Cu (D.at i _ _ hi) ?_);have c:(decide (es.toArray.size > bF) && noSuchName name es.toArray)=false:=by
  rw [List.size_toArray,show decide (es.length > bF)=false from decide_eq_false (by rw [gi]; exact Nat.not_lt.mpr (lK hz)),kW]
 dsimp only;rw [c];exact zV D i hi hl e e' q
end
section
variable {cd:gQ} {sl:Array (Option ai)} {es:List dz} {name:Str} {r:Option ai}
theorem JC (hC:h.get? a=some (kC cd sl)) (hm:cd.mro=[.ref a,.type "object"]) (hn:h.get? cd.ns=some (cy es n)) (hl:getL name es=some none) (ho:Ld (.type "object") name=pure r):bk M h (bj (.ref a) name) r:=by
 have L1:bk M h (FF (.ref a)) [.ref a,.type "object"]:=by
  rw [<- hm];exact ((cT (part:=none) hC).andThen .now).andThen .now
 have L2:bk M h (Ld (.ref a) name) none:=((cT (part:=none) hC).andThen .now).andThen (dD hn hl);have L3:bk M h (Ld (.type "object") name) r:=aU ho;unfold bj;refine L1.andThen ?_;rw [List.forIn_cons];intro A Q E s k q;refine ae (ae (ae (L2 A _ E s k ?_)));refine ah ?_;dsimp only;rw [List.forIn_cons];refine ae (ae (L3 A _ E s k ?_));cases r with
 | none=>exact ah (ah (ah q))
 | some v=>exact ah (ah (ah q))
end
end
section
open PySem.Builtin
noncomputable abbrev wC (a b c:ai):Obj:={ cls:=.type "super",dict:=none,data:=.fields #[a,b,c],slots:= #[] }
section
variable {d:lH} {t:Nat} {os:gq} {so:Addr} {cd:gQ} {sl:Array (Option ai)} {x y z:ai}
theorem qC (hC:h.get? a=some (kC cd sl)):bk M h (FF (.ref a)) cd.mro:=((cT (part:=none) hC).andThen .now).andThen .now
theorem lS {b:ai} (hC:h.get? a=some (kC cd sl)) (hm:cd.mro=[.ref a,.type "object"]) (hb:b=.ref a\/b=.type "object"):bk M h (eV (.ref a) b) true:=by
 have L1:=qC (M:=M) hC;rw [hm] at L1;unfold eV;refine L1.andThen ?_;refine aU ?_;refine (?_:(if ([cY a,.type "object"].isEmpty)=true then _ else _)=_);rw [if_neg (by simp)]
 show pure ([cY a,.type "object"].contains b)=_
 rcases hb with rfl | rfl <;> simp
theorem JD {Q:gz->aj->Prop} {x0 y0 z0:ai} (D:Mm h₀ h chg ((so,wC x0 y0 z0)::news)) (q: ∀h',Mm h₀ h' chg ((so,wC x y z)::news)->Q (.done (.ret .none)) ⟨h',g,d,t,os⟩):
  ak (aq prog w) A (do pF (.ref so) 0 x; pF (.ref so) 1 y; pF (.ref so) 2 z; ret .none) Q E ⟨h,g,d,t,os⟩:=by
 refine ae (eS (D.at 0 _ _ rfl) (by simp) fun h1 e1 s1=>?_);refine ae (eS e1 (by simp) fun h2 e2 s2=>?_);refine ae (eS e2 (by simp) fun h3 e3 s3=>?_);have s:cz so h h3:=(s1.trans s2).trans s3;exact ah (q h3 (D.turn (i:=0) (more:=[]) rfl s.extBut (by simpa using e3) (Nat.le_of_eq s.1.symm) nm List.nodup_nil))
theorem BB (D:Mm h₀ h chg news) (i:Nat) (hi:news[i]? =some (a,kC cd sl)) (hm:cd.mro=[.ref a,.type "object"]) (q: ∀so h',Mm h₀ h' chg ((so,wC (.ref a) (.ref a) (.ref a))::news)->Q (.ref so) ⟨h',g,d,t,os⟩):
  ak (aq prog w) A (call (.type "super") [.ref a,.ref a]) Q E ⟨h,g,d,t,os⟩:=by
 have hC:=D.at i _ _ hi;refine ks_callType_codesW (Q₁:=fun obj bI=>∃so h1,obj=.ref so/\bI=⟨h1,g,d,t,os⟩/\Mm h₀ h1 chg ((so,wC .none .none .none)::news)) F.ks_called_super (ks_wpAny_checkTypeCall_super hC rfl) F.ks_entry_super_init
  (ks_code_super_new _ _ ⟨_,_,rfl,rfl,D.alloc rfl⟩) fun obj bI cZ=>?_
 refine qo cZ ?_; clear cZ; rintro so h1 rfl rfl D1;have Z6:=D1.at (i + 1) a _ hi;have Sh:=D1.at 0 _ _ rfl;have L1:bk (aq prog w) h1 (eV (.ref a) (.ref a)) true:=lS Z6 hm (.inl rfl);refine ⟨⟨_,Sh,rfl⟩,F.ks_initArgs_super _ _ _,?_⟩;unfold Builtin.«super.__init__» noKeywords
 repeat (first | (with_reducible refine LC Z6 rfl ?_) | (with_reducible refine bk.at L1 ?_) | (with_reducible refine JD D1 ?_) | wp_step)
 all_goals first
  | (intro h' D'; exact ⟨rfl,q _ _ D'⟩)
  | (refine JD D1 ?_; intro h' D'; exact ⟨rfl,q _ _ D'⟩)
end
end
section
open PySem.Builtin
theorem GG:bj (.type "super") "__getattribute__"=pure (some (.builtin "super.__getattribute__")):=by rw [aF,ay]; kernel_rfl
theorem GH:Ld (.type "object") "__init_subclass__"=pure (some (.builtin "object.__init_subclass__")):=by kernel_rfl
theorem Fd:k6 (.builtin "object.__init_subclass__")=pure (.type "classmethod_descriptor"):=by refine (?_:Lb _=_); rw [tU]; kernel_rfl
theorem zY:fD kg "object.__init_subclass__"=some Builtin.«object.__init_subclass__»:=cX (by kernel_rfl)
theorem GI:eV (.type "type") (.type "module")=pure false:=by rw [bK]; kernel_rfl
section
variable {d:lH} {t:Nat} {os:gq} {so:Addr} {cd:gQ} {sl:Array (Option ai)} {x y z:ai}
theorem TR (D:Mm h₀ h chg news) (i:Nat) (hi:news[i]? =some (a,kC cd sl)) (hm:cd.mro=[.ref a,.type "object"]) (q: ∀p h',Mm h₀ h' chg ((p,{ cls:=.type "builtin_function_or_method",data:=.fields #[.builtin "object.__init_subclass__",.ref a] })::news)->Q (.ref p) ⟨h',g,d,t,os⟩):
  ak (aq prog w) A (call (.builtin "classmethod_descriptor.__get__") [.builtin "object.__init_subclass__",.none,.ref a]) Q E ⟨h,g,d,t,os⟩:=by
 have hC:=D.at i _ _ hi;have L1:bk (aq prog w) h (eV (.ref a) (.type "object")) true:=lS hC hm (.inr rfl);refine kN (by decide +kernel) t6 (owner:="classmethod_descriptor") (n:="__get__") (.inl (by decide +kernel)) (by decide +kernel) (aU (by unfold isInstance; rw [Fd]; exact Bq)) (wq _ _ _) ?_;unfold Builtin.«classmethod_descriptor.__get__»;refine ae ?_;k_node;k_node;k_node;k_node;refine ae ?_;refine ah ?_;k_node;k_node;refine ah ?_;k_node;refine ae ?_;refine ah ?_;refine ae ?_;k_node;k_node;refine ae ?_;k_node;k_node;refine qk hC ?_;refine gj ?_;refine ah ?_;k_node;k_node;refine ae (bk.at L1 ?_);k_node;k_node;refine ae ?_;k_node;k_node;k_node;k_node;k_node;k_node;refine ae ?_;k_node;refine fU D rfl fun a2 h2 D2=>?_;refine gj ?_;k_node;refine ah ?_;k_node;refine ah ?_;exact ⟨_,rfl,q _ _ D2⟩
theorem zZ (D:Mm h₀ h chg news) (ym:h.Ns jM LI) (Fe:LI "thirdparty.any"=none) (i:Nat) (hi:news[i]? =some (a,kC cd sl)) (hm:cd.mro=[.ref a,.type "object"]) (Sh:h.get? so=some (wC (.ref a) (.ref a) (.ref a))) (q: ∀p h',Mm h₀ h' chg ((p,{ cls:=.type "builtin_function_or_method",data:=.fields #[.builtin "object.__init_subclass__",.ref a] })::news)->Q (.ref p) ⟨h',g,d,t + 1,os⟩):
  ak (aq prog w) A (sR (.ref so) "__init_subclass__") Q E ⟨h,g,d,t,os⟩:=by
 have hC:=D.at i _ _ hi;have L0:bk (aq prog w) h (k6 (.ref so)) (.type "super"):=(cT Sh).andThen .now;have L1:bk (aq prog w) h (yc (.ref a)) none:=by
  intro A Q E s k q;unfold yc anyOpaqueLoaded;refine ae (ae (sA (ym.keeps k) ?_));rw [Fe];exact ah (ah q)
 have L2:bk (aq prog w) h (FF (.ref a)) [.ref a,.type "object"]:=hm ▸ qC hC;unfold sR getAttrBy;refine ae (ql ?_);refine aB ?_;refine ae (L0.at ?_);refine ae (aK GG ?_);k_node;k_node;unfold SD hookBefore;refine ae (ah (ae (gO (aB ?_))));unfold RL Vx;k_node;rw [F.ks_slot_super_ga.bind];refine ae (ah ?_);refine (?_:ak _ _ (call (.builtin "super.__getattribute__") [.ref so,.str "__init_subclass__" t]) _ _ _);refine kN F.ks_slot_super_ga.plain F.ks_entry_super_ga (owner:="super") (n:="__getattribute__") (.inl (by decide +kernel)) (by decide +kernel) (L0.andThen (aU (by rw [bK]; kernel_rfl))) (F.ks_gaArgs_super _ _) ?_;unfold Builtin.«super.__getattribute__»;k_node;refine ae ?_;k_node;k_node;refine ah ?_;k_node;k_node;refine ae ?_;k_node;k_node;refine ah ?_;k_node;refine ae ?_;k_node;refine ae ?_;k_node;k_node;refine ae ?_;k_node;refine qk Sh ?_;refine gj ?_;k_node;refine ah ?_;k_node;refine ah ?_;refine ae ?_;k_node;refine ae ?_;k_node;k_node;refine ae ?_;k_node;refine qk Sh ?_;refine gj ?_;k_node;refine ah ?_;k_node;refine ah ?_;refine ae ?_;k_node;refine ae ?_;k_node;k_node;refine ae ?_;k_node;refine qk Sh ?_;refine gj ?_;k_node;refine ah ?_;k_node;refine ah ?_;k_node;refine ae ?_;k_node;refine ae (bk.at L1 ?_);k_node;refine ah ?_;k_node;k_node;refine ae (bk.at L2 ?_);k_node;rw [List.dropWhile_cons,if_neg (by simp)];refine ae ?_;k_node;k_node;k_node;k_node;k_node;k_node;k_node;refine ae ?_;k_node;refine ae (aK GH ?_);k_node;refine ae (aK Fd ?_);refine ae (aK lB ?_);k_node;refine ae ?_;refine aB ?_;rw [if_pos (by simp)];refine (?_:ak _ _ (call (.builtin "classmethod_descriptor.__get__") [.builtin "object.__init_subclass__",.none,.ref a]) _ _ _);refine TR D i hi hm fun p h' D'=>?_;refine ae ?_;k_node;refine ah ?_;refine ah ?_;k_node;refine ah ?_;k_node;refine ah ?_;refine ⟨_,rfl,?_⟩
 iterate 10 (try lk)
 exact q _ _ D'
theorem xW {p ns:Addr} (hC:h.get? a=some (kC (zX a ns) sl)) (hp:h.get? p=some { cls:=.type "builtin_function_or_method",data:=.fields #[.builtin "object.__init_subclass__",.ref a] }) (q:Q .none ⟨h,g,d,t,os⟩):ak (aq prog w) A (call (.ref p) []) Q E ⟨h,g,d,t,os⟩:=by
 have L1:bk (aq prog w) h (k6 (.ref a)) (.type "type"):=(cT hC).andThen .now;have L2:bk (aq prog w) h (isType (.ref a)) true:=fun A Q E s k q=>LC (h:=s.heap) (k _ _ hC) rfl q;have L3:bk (aq prog w) h (eV (.ref a) (.type "object")) true:=lS hC rfl (.inr rfl);refine fg (gJ ?_);refine (?_:ak _ _ (AD (.ref p) _) _ _ _);refine qk hp ?_;refine ae ?_;refine gj ?_;k_node;k_node;k_node;k_node;refine ae ?_;k_node;k_node;k_node;k_node;refine ae ?_;k_node;refine ae (bk.at L1 ?_);refine aK GI ?_;k_node;refine ae (bk.at L2 ?_);k_node;k_node;refine ae ?_;refine ah ?_;k_node;refine ae ?_;k_node;refine ae ?_;k_node;refine qk hC ?_;refine gj ?_;k_node;refine ah ?_;k_node;refine ae (bk.at L1 ?_);k_node;k_node;k_node;refine ae ?_;k_node;k_node;refine ah ?_;refine ae ?_;k_node;k_node;refine ah ?_;k_node;refine um ?_;k_node;k_node;k_node;k_node;k_node;refine ah ?_;k_node;refine ah ?_;refine ⟨eK _ (by decide +kernel),bB zY ?_⟩;unfold Builtin.«object.__init_subclass__»;k_node;k_node;k_node;refine ah ?_;exact q
end
end
section
open PySem.Builtin
noncomputable abbrev BC (c:Addr) (k1 bh:Nat):Obj:={ cls:=.type "member_descriptor",data:=.fields #[.str "obj" k1,.ref c,.builtin "proto.slot",.builtin "proto.slot#set",aQ bh] }
noncomputable abbrev z3 (w:bR) (ts:Nat->Nat) (oS:Nat) (m0 l0 sl st:ai) (f4 f5 f6 f7 f8 f9:Addr):List dz:=
 [en w "__module__" (ts 1) m0,en w "__firstlineno__" (ts 3) l0,en w "__slots__" (ts 4) sl,en w "__init__" (ts 5) (.ref f4),en w "__lt__" (ts 6) (.ref f5),en w "__gt__" (ts 7) (.ref f6),en w "__eq__" (ts 8) (.ref f7),en w "__le__" (ts 9) (.ref f8),en w "__ge__" (ts 10) (.ref f9),en w "__hash__" (ts 11) .none,en w "__static_attributes__" oS st]
theorem Qs (a:Addr):H7 "object" a=pure ():=by
 unfold H7;rw [if_pos MF]
theorem JE:gb (.str x k) "__set_name__"=pure none:=ki (ty:=.type "str") rfl (by rw [aF,ay]; kernel_rfl)
theorem JF {i:Int}:gb (.int i k) "__set_name__"=pure none:=ki (ty:=.type "int") rfl (by rw [aF,ay]; kernel_rfl)
theorem yP:gb .none "__set_name__"=pure none:=ki (ty:=.type "NoneType") rfl (by rw [aF,ay]; kernel_rfl)
theorem pQ:bj (.type "function") "__set_name__"=pure none:=by rw [aF,ay]; kernel_rfl
theorem GJ:bj (.type "list") "__set_name__"=pure none:=by rw [aF,ay]; kernel_rfl
theorem JG:bj (.type "tuple") "__set_name__"=pure none:=by rw [aF,ay]; kernel_rfl
theorem JH:bj (.type "member_descriptor") "__set_name__"=pure none:=by rw [aF,ay]; kernel_rfl
theorem ja {ty:String} {name:Str} {r:Option ai} (hx:h.get? a=some o) (hc:o.cls=.type ty) (e:bj (.type ty) name=pure r):bk M h (gb (.ref a) name) r:=by
 have L1:bk M h (k6 (.ref a)) (.type ty):=by rw [<- hc]; exact (cT hx).andThen .now
 exact L1.andThen (aU e)
theorem Qt {p:ai->Sem Bool} (a:Addr) (hp:p (.type "object")=pure false):List.anyM p (List.filter (fun x=>x != .ref a) [.ref a,.type "object"])=pure false:=by
 rw [List.filter_cons,if_neg (by simp),List.filter_cons,if_pos (by rfl),List.filter_nil,List.anyM_cons,hp]
 rfl
theorem lkN {α β:Type} {b:β} {f:α->β->Sem (ForInStep β)}:bk M h (forIn [] b f) b:=.now
theorem GL {α β:Type} {b:β} {f:α->β->Sem (ForInStep β)} {e:α} {l:List α} (x:bk M h (f e b) (.yield b)) (y:bk M h (forIn l b f) b):bk M h (forIn (e::l) b f) b:=by
 rw [List.forIn_cons]; exact x.andThen y
theorem DF {α β:Type} {b:β} {f:α->β->Sem (ForInStep β)} {l:List α} (x:bk M h (forIn l b f) b):bk M h (forIn l.toArray b f) b:=by
 rw [List.forIn_toArray]; exact x
theorem gf {α β:Type} {c:Bool} {X:Sem β} {m:Sem α} {k:α->Sem β} {a:α} {r:β} (e:c=false) (x:bk M h m a) (y:bk M h (k a) r):bk M h (if c=true then X else m >>= k) r:=by
 rw [if_neg (by rw [e]; decide)]; exact x.andThen y
section
variable {d:lH} {t:Nat} {os:gq} {mc:Addr} {x4 x5 x6 x7 x8 x9:Addr × Addr × Obj × ai × ai} {l tup ns Pc cc bT:Addr} {es:List dz} {to t0 tm tq tl oS:Nat} {oc:Obj} {tt:Array ai} {Dy of2:Addr × Obj}
theorem GN {Q:Fin->aj->Prop} (rC:mH < h₀.objs.size) (he:es=yM w ts (.str "cpy313.functools" tm) (.str "cmp_to_key.<locals>.K" tq) (.int 7 tl) (.ref l) x4.1 x5.1 x6.1 x7.1 x8.1 x9.1++[en w "__static_attributes__" oS (.ref tup)]) (D:Mm h₀ h chg (yO w mc pm x4 x5 x6 x7 x8 x9 l tup ns Pc cc bT es to o' oc tt Dy of2)) (ym:h₀.Ns jM LI) (Fe:LI "thirdparty.any"=none) (XT: ∀p∈chg,p.1≠jM) (q: ∀(kc kn km:Addr) (k1 k2 k3 tk:Nat) (sl:Array (Option ai)) (y1 y2:Addr × Obj) h',sl[4]? =some (some (.builtin "object.__new__"))->Mm h₀ h' chg (y1::y2::(km,BC kc k1 0)::(kc,kC (zX kc kn) sl)::(kn,cy (z3 w ts oS (.str "cpy313.functools" tm) (.int 7 tl) (.ref l) (.ref tup) x4.1 x5.1 x6.1 x7.1 x8.1 x9.1++[en w "obj" k2 (.ref km),en w "__doc__" k3 .none]) 3)::yO w mc pm x4 x5 x6 x7 x8 x9 l tup ns Pc cc bT es to o' oc tt Dy of2)->Q (.done (.ret (.ref kc))) ⟨h',g,d,tk,os⟩):
  ak (aq prog w) A (Builtin.«type.__new__» ⟨[.type "type",.str "K" t0,.ref bT,.ref ns],[]⟩) Q E ⟨h,g,d,t,os⟩:=by
 unfold Builtin.«type.__new__»;refine ae ?_;refine ah ?_;refine ae (bk.at (r:=true) (((cT (D.at 19 _ _ rfl)).andThen .now).andThen (aU Bw)) ?_);refine ae (bk.at (r:=true) (((cT (D.at 1 _ _ rfl)).andThen .now).andThen (aU DE)) ?_);k_node;k_node;k_node;refine ae (bk.at (r:=(some #[.type "object"])) ((cT (D.at 19 _ _ rfl)).andThen .now) ?_);refine ae ?_;refine ae ?_;refine ae ?_;refine ah ?_;refine ah ?_;refine ah ?_;refine ae ?_;refine ae ?_;refine ae (aK cG ?_);refine ae (aK gc ?_);refine ah ?_;refine ah ?_;k_node;k_node;k_node;refine ae (aK Bs ?_);refine ae (aK GD ?_);refine kG (by simpa using D.ne (i:=1) rfl rC) ?_;refine ae ?_;refine ae ?_;k_node;refine bN D 1 rfl ?_;refine gj ?_;refine ah ?_;refine ae ?_;refine ae ?_;refine ae ?_;k_node;refine bN D 1 rfl ?_;refine gj ?_;refine ah ?_;refine aK Bx ?_;refine Ib (by simp) ?_;refine ae ?_;refine ah ?_;refine ae ?_;refine aB ?_;refine By (es:=es) (e0:=en w "__slots__" (ts 4) (.ref l)) (by subst he; rw [List.find?_toArray]; rfl) rfl (by subst he; rw [List.any_toArray]; rfl) (D.at 16 _ _ rfl) fun h1 Oh=>?_;refine ae ?_;refine kG (by subst he; refine (?_: ¬(bF + 1 < 12)); rw [gi]; lia) ?_;refine ae ?_;refine fU (D.TQ Oh) rfl fun a3 h3 D3=>?_;refine gj ?_;refine ah ?_;refine kG (show ¬(!(es.toArray.any (·.key.isStr "__module__")))=true by rw [show es.toArray.any (·.key.isStr "__module__")=true by subst he; rw [List.any_toArray]; rfl]; decide) ?_;refine ae ?_;refine kG (by decide +kernel) ?_;refine ah ?_;refine kG (by decide +kernel) ?_;refine ae (bk.at (r:=(some (.str "cmp_to_key.<locals>.K" tq))) (dD (es:=es) (n:=0) (D3.at 0 _ _ rfl) (by subst he; rfl)) ?_);refine ae (bk.at (r:=(some (.str "cmp_to_key.<locals>.K" tq))) (dD (es:=es) (n:=0) (D3.at 0 _ _ rfl) (by subst he; rfl)) ?_);refine ae ?_;refine ah ?_;refine ae ?_;refine ah ?_;refine ae (bk.at (r:=none) (dD (es:=es) (n:=0) (D3.at 0 _ _ rfl) (by subst he; rfl)) ?_);refine ae ?_;refine fU D3 rfl fun a4 h4 D4=>?_;refine gj ?_;refine ae ?_;refine mw (D4:Mm h₀ h4 chg ((a4,kC { name:="K",bases:=[.type "object"],mro:=[],ns:=a3,qualname:="cmp_to_key.<locals>.K" } #[])::(a3,cy es 0)::yO w mc pm x4 x5 x6 x7 x8 x9 l tup ns Pc cc bT es to o' oc tt Dy of2)) 0 rfl (Nat.zero_lt_succ _) (sl':= #[some (.ref bT)]) rfl fun h6 D6=>?_;dsimp only [List.set] at D6;refine ae ?_;refine mw D6 0 rfl (by decide) (sl':= #[some (.ref bT),none,some (.str "K" t0)]) rfl fun h7 D7=>?_;dsimp only [List.set] at D7;k_node;refine ae ?_;refine mw D7 0 rfl (by decide) (sl':= #[some (.ref bT),none,some (.str "K" t0),some (.str "cmp_to_key.<locals>.K" tq)]) rfl fun h8 D8=>?_;dsimp only [List.set] at D8;refine ae ?_;refine MG D8 1 rfl (es':=z3 w ts oS (.str "cpy313.functools" tm) (.int 7 tl) (.ref l) (.ref tup) x4.1 x5.1 x6.1 x7.1 x8.1 x9.1) (n':=1) (by rw [he]; rfl) (by rw [he]; rfl) fun h9 D9=>?_;dsimp only [List.set] at D9;refine ae (bk.at (r:=none) (dD (D9.at 1 _ _ rfl) rfl) ?_);refine ae ?_;refine ae ?_;k_node;refine ae (bk.at (r:=none) (dD (D9.at 1 _ _ rfl) rfl) ?_);refine ah ?_;refine ae ?_;k_node;refine ae (bk.at (r:=none) (dD (D9.at 1 _ _ rfl) rfl) ?_);refine ah ?_;refine ah ?_;refine ae (bk.at (r:=none) (dD (D9.at 1 _ _ rfl) rfl) ?_);refine ae (bk.at (r:=none) (dD (D9.at 1 _ _ rfl) rfl) ?_);refine ae (aK GF ?_);refine ae (aK Bu ?_);refine ae ?_;refine ah ?_;refine ae ?_;refine aK (a:=false) (Qt a4 (by kernel_rfl)) ?_;refine ae ?_;refine BA D9 0 rfl (cd':={ name:="K",bases:=[.type "object"],mro:=[.ref a4,.type "object"],ns:=a3,qualname:="cmp_to_key.<locals>.K" }) (by subst he; simp only [List.any_toArray]; rfl) (E9 (by refine (?_:0<=100); lia) (by refine (?_:0<=100); lia)) fun Qa Sf=>?_;dsimp only [List.set] at Sf;refine ae (aK j3 ?_);refine ae ?_;refine mw Sf 0 rfl (by decide) (sl':= #[some (.ref bT),none,some (.str "K" t0),some (.str "cmp_to_key.<locals>.K" tq),some (.builtin "object.__new__")]) rfl fun Z1 OD=>?_;dsimp only [List.set] at OD;refine ae ?_;refine ae ?_;refine ae ?_;refine bN OD 0 rfl ?_;refine gj ?_;refine ah ?_;refine ae (bk.at (r:=(some (.builtin "object.__new__"))) (JC (OD.at 0 _ _ rfl) rfl (OD.at 1 _ _ rfl) rfl (by kernel_rfl)) ?_);refine kG (by decide +kernel) ?_;refine ah ?_;refine ae ?_;refine ae ?_;refine ae ?_;refine ae (bk.at (r:=none) (dD (OD.at 1 _ _ rfl) rfl) ?_);refine ae ?_;refine ae ?_;refine nd_fresh ?_;refine gj ?_;refine ah ?_;refine ae ?_;refine ae ?_;refine fU OD rfl fun XU Z4 XR=>?_;refine gj ?_;refine ah ?_;refine ae ?_;refine JB XR 2 rfl (by refine (?_:11<=1000); lia) rfl (es':=z3 w ts oS (.str "cpy313.functools" tm) (.int 7 tl) (.ref l) (.ref tup) x4.1 x5.1 x6.1 x7.1 x8.1 x9.1++[en w "obj" _ (.ref XU)]) (n':=2) rfl rfl fun h13 Z7=>?_;dsimp only [List.set] at Z7;refine ah ?_;refine ah ?_;refine ae ?_;refine ae ?_;refine ae (aK t8 ?_);refine ah ?_;refine ah ?_;refine BA Z7 1 rfl (cd':=zX a4 a3) rfl (E9 (by refine (?_:0<=100); lia) (by refine (?_:1<=100); lia)) fun h14 Z8=>?_;dsimp only [List.set] at Z8;refine ae (aK t9 ?_);refine ae ?_;refine mw Z8 1 rfl (by decide) (sl':= #[some (.ref bT),none,some (.str "K" t0),some (.str "cmp_to_key.<locals>.K" tq),some (.builtin "object.__new__"),some (.bool false)]) rfl fun h15 XW=>?_;dsimp only [List.set] at XW;refine ae (bk.at (r:=none) (dD (XW.at 2 _ _ rfl) rfl) ?_);refine ae ?_;refine zV XW 2 rfl rfl (es':=z3 w ts oS (.str "cpy313.functools" tm) (.int 7 tl) (.ref l) (.ref tup) x4.1 x5.1 x6.1 x7.1 x8.1 x9.1++[en w "obj" _ (.ref XU),en w "__doc__" _ .none]) (n':=3) rfl rfl fun h16 DG=>?_;dsimp only [List.set] at DG;refine ae (bk.at (r:=(some (.ref x7.1))) (dD (DG.at 2 _ _ rfl) rfl) ?_);refine ae (bk.at (r:=(some .none)) (dD (DG.at 2 _ _ rfl) rfl) ?_);refine ae ?_;refine ae ?_;refine ae (aK (Qs a4) ?_);refine ah ?_;refine ah ?_;k_node;refine ae ?_;refine fW ?_;refine aB ?_;k_node;refine ae ?_;k_node;refine ae ?_;refine bN DG 2 rfl ?_;refine gj ?_;refine ah ?_;refine ae ?_;refine aK (a:=false) (by kernel_rfl) ?_;refine ae ?_;k_node;refine bN DG 2 rfl ?_;refine gj ?_;refine ae (bk.at (DF (GL (gf (by kernel_rfl) (aU JE) .now) (GL (gf (by kernel_rfl) (aU JF) .now) (GL (gf (a:=none) (by kernel_rfl) (ja (DG.at 19 _ _ rfl) rfl GJ) .now) (GL (gf (a:=none) (by kernel_rfl) (ja (DG.at 17 _ _ rfl) rfl pQ) .now) (GL (gf (a:=none) (by kernel_rfl) (ja (DG.at 15 _ _ rfl) rfl pQ) .now) (GL (gf (a:=none) (by kernel_rfl) (ja (DG.at 13 _ _ rfl) rfl pQ) .now) (GL (gf (a:=none) (by kernel_rfl) (ja (DG.at 11 _ _ rfl) rfl pQ) .now) (GL (gf (a:=none) (by kernel_rfl) (ja (DG.at 9 _ _ rfl) rfl pQ) .now) (GL (gf (a:=none) (by kernel_rfl) (ja (DG.at 7 _ _ rfl) rfl pQ) .now) (GL (gf (by kernel_rfl) (aU yP) .now) (GL (gf (a:=none) (by kernel_rfl) (ja (DG.at 3 _ _ rfl) rfl JG) .now) (GL (gf (a:=none) (by kernel_rfl) (ja (DG.at 0 _ _ rfl) rfl JH) .now) (GL (gf (by kernel_rfl) (aU yP) .now) lkN)))))))))))))) ?_);refine ae (BB DG 1 rfl rfl fun so h17 XX=>?_);refine ae ?_;refine aB ?_;refine zZ XX (ym.at' fun o e=>XX.keep _ _ e XT) Fe 2 rfl rfl (XX.at 0 _ _ rfl) fun p h18 XY=>?_;refine ae ?_;refine xW (XY.at 3 _ _ rfl) (XY.at 0 _ _ rfl) ?_;refine ah ?_;k_node;refine ah ?_;exact q a4 a3 XU _ _ _ _ _ _ _ h18 rfl XY
end
end
section
open PySem.Builtin
theorem GO (self:ai):Le (.builtin "type.__init__") self=pure (.builtin "type.__init__",[self]):=by
 simp only [Le];rw [show k6 (.builtin "type.__init__")=pure (.type "wrapper_descriptor") from by refine (?_:Lb _=_); rw [tU]; kernel_rfl]
 rfl
theorem GP (a b c d:ai):gk "type.__init__" ⟨[a,b,c,d],[]⟩:=by unfold gk; kernel_rfl
section
variable {d:lH} {t:Nat} {os:gq} {mc:Addr} {x4 x5 x6 x7 x8 x9:Addr × Addr × Obj × ai × ai} {l tup ns Pc cc bT:Addr} {es:List dz} {to t0 tm tq tl oS:Nat} {oc:Obj} {tt:Array ai} {Dy of2:Addr × Obj}
theorem DH (rC:mH < h₀.objs.size) (he:es=yM w ts (.str "cpy313.functools" tm) (.str "cmp_to_key.<locals>.K" tq) (.int 7 tl) (.ref l) x4.1 x5.1 x6.1 x7.1 x8.1 x9.1++[en w "__static_attributes__" oS (.ref tup)]) (D:Mm h₀ h chg (yO w mc pm x4 x5 x6 x7 x8 x9 l tup ns Pc cc bT es to o' oc tt Dy of2)) (ym:h₀.Ns jM LI) (Fe:LI "thirdparty.any"=none) (XT: ∀p∈chg,p.1≠jM) (q: ∀(kc kn km:Addr) (k1 k2 k3 tk:Nat) (sl:Array (Option ai)) (y1 y2:Addr × Obj) h',sl[4]? =some (some (.builtin "object.__new__"))->Mm h₀ h' chg (y1::y2::(km,BC kc k1 0)::(kc,kC (zX kc kn) sl)::(kn,cy (z3 w ts oS (.str "cpy313.functools" tm) (.int 7 tl) (.ref l) (.ref tup) x4.1 x5.1 x6.1 x7.1 x8.1 x9.1++[en w "obj" k2 (.ref km),en w "__doc__" k3 .none]) 3)::yO w mc pm x4 x5 x6 x7 x8 x9 l tup ns Pc cc bT es to o' oc tt Dy of2)->Q (.ref kc) ⟨h',g,d,tk,os⟩):
  ak (aq prog w) A (call (.type "type") [.str "K" t0,.ref bT,.ref ns]) Q E ⟨h,g,d,t,os⟩:=by
 refine fg (gJ ?_);refine (?_:ak _ _ (AD (.type "type") _) _ _ _);refine ah ⟨eK _ (by decide +kernel),bB F.entry_type_call ?_⟩;unfold Builtin.«type.__call__»;k_node;k_node;k_node;k_node;k_node;k_node;refine ae (aK (Bv (.str "K" t0) (.ref bT) (.ref ns)) ?_);refine ae (aK DA ?_);k_node;k_node;refine ae (aK xV ?_);k_node;refine ae ?_;refine ah ?_;refine ae ?_;refine aB ?_;refine (?_:ak _ _ (call (.builtin "type.__new__") [.type "type",.str "K" t0,.ref bT,.ref ns]) _ _ _);refine fg (codeAny_call_builtin_at (eK _ (by decide +kernel)) tF (aK (DB _ _ _) ?_));refine GN rC he D ym Fe XT fun kc kn km k1 k2 k3 tk sl y1 y2 h1 yv D1=>?_;have LT:bk (aq prog w) h1 (isInstance (.ref kc) (.type "type")) true:=((cT (D1.at 3 _ _ rfl)).andThen .now).andThen (aU gc);have LS:bk (aq prog w) h1 (gb (.ref kc) "__init__") (some (.builtin "type.__init__")):=((cT (D1.at 3 _ _ rfl)).andThen .now).andThen (aU DC);refine ae (bk.at LT ?_);k_node;refine ae ?_;refine aB ?_;unfold xn;refine ae (LS.at ?_);refine aB ?_;rw [GO];refine ae (ah ?_);refine ae ?_;refine (?_:ak _ _ (call (.builtin "type.__init__") [.ref kc,.str "K" t0,.ref bT,.ref ns]) _ _ _);refine kN (by decide +kernel) rV (owner:="type") (n:="__init__") (.inl (by decide +kernel)) (by decide +kernel) LT (GP _ _ _ _) ?_;unfold Builtin.«type.__init__»;k_node;k_node;k_node;k_node;k_node;k_node;refine ah ?_;refine ⟨_,rfl,?_⟩;refine ah ?_;k_node;k_node;k_node;k_node;refine ah ?_;exact q kc kn km k1 k2 k3 tk sl y1 y2 h1 yv D1
end
end
section
open PySem.Builtin
section
variable {C:vg} {o1:Obj} {R:Led}
theorem iN.grow (X:iN G c ⟨(P0,o0)::R,fl⟩ ρ τ h D C m) (M:Mm h h' [(P0,o1)] news) (hR: ∀p∈R,p.1≠P0) (XZ: ∀p∈c.free,p∈R):iN G c ⟨(P0,o1)::R,fl⟩ ρ τ h' (news++D) C m:=by
 have kp: ∀b o,b≠P0->h.get? b=some o->h'.get? b=some o:=fun b o hb e=>M.keep b o e fun p hp=>by exact rf hp (Ne.symm hb)
 have hP:=X.nw (P0,o0) (mR ((mR ((.head _)))));have hP1:h'.get? P0=some o1:=M.at_ (P0,o1) (.head _);have hL:c.env.locals < h.objs.size:=X.fr.ns.lt;have hGL:G.objs.size<=c.env.locals:=X.fr.above;have X5: ∀p∈news,h'.get? p.1=some p.2/\p.1≠c.env.locals/\G.get? p.1=none:=fun p hp=>by
  refine ⟨M.at_ p (mR hp),Nat.ne_of_gt (Nat.lt_of_lt_of_le hL (M.ge p hp)),?_⟩;exact gP (Nat.le_trans hGL (Nat.le_of_lt (Nat.lt_of_lt_of_le hL (M.ge p hp))))
 have lt: ∀p∈D++(C.led++((P0,o0)::R)),p.1 < h.objs.size:=fun p hp=>az (X.nw p hp).1;have Qu: ∀p∈D,p∈news++D:=fun p hp=>mR hp;refine ⟨⟨X.fr.ns.at' fun o e=>kp _ _ (Ne.symm hP.2.1) e,fun b o e=>kp b o (fun q=>by rw [q,hP.2.2] at e; cases e) (X.fr.keep b o e),X.fr.above⟩,fun p hp=>?_,fun p hp q hq=>?_,X.cn,X.cd,X.ca,fun x hx q hq=>?_,X.ck,fun p hp=>.tail _ (XZ p hp),fun p hp=>Qu p (X.fl p hp),fun x d e=>?_,fun p hp=>(X.tm p hp).mono Qu⟩
 ·refine cE hp (fun hp=>?_) (fun hp=>?_)
  ·refine cE hp (fun hp=>?_) (fun hp=>?_)
   ·exact X5 p hp
   ·have q:=X.nw p (mL hp);exact ⟨kp _ _ (X.ap p hp (P0,o0) (mR ((.head _)))) q.1,q.2⟩
  ·refine cE hp (fun hp=>?_) (fun hp=>?_)
   ·have q:=X.nw p (mR ((mL hp)));refine bQ (List.mem_map.mp hp) ?_; rintro x hx rfl;exact ⟨kp _ _ (X.cp x hx (P0,o0) (.head _)) q.1,q.2⟩
   ·refine bU hp ?_ (fun hp=>?_)
    ·exact ⟨hP1,hP.2⟩
    ·have q:=X.nw p (mR ((mR ((.tail _ hp)))));exact ⟨kp _ _ (hR p hp) q.1,q.2⟩
 ·have key: ∃r∈C.led++((P0,o0)::R),r.1=q.1:=by
   exact cE hq (fun hq=>⟨q,mL hq,rfl⟩) fun hq=>bU hq (⟨(P0,o0),mR ((.head _)),rfl⟩) fun hq=>⟨q,mR ((.tail _ hq)),rfl⟩
  refine bQ key fun r hr er=>?_; clear key;rw [<- er];exact cE hp (fun hp=>Nat.ne_of_gt (Nat.lt_of_lt_of_le (lt r (mR hr)) (M.ge p hp))) fun hp=>X.ap p hp r hr
 ·exact bU hq (X.cp x hx (P0,o0) (.head _)) fun hq=>X.cp x hx q (.tail _ hq)
 ·refine bQ (X.vr x d e) fun v a b=>?_;exact ⟨v,a,b.mono Qu⟩
end
inductive OE (w:bR) (f:ai) (D:Led) (v:ai):Prop where
 | mk (kc kn km mc:Addr) (k1 k2 k3 oS tm tl:Nat) (ts:Nat->Nat) (sl:Array (Option ai)) (st sv:ai) (f6 f7 f8 f9:Addr) (x4 x5:Addr × Addr × Obj × ai × ai) (pm:ai) (e:v=.ref kc) (e1:sl[4]? =some (some (.builtin "object.__new__")))
  (a1:(kc,kC (zX kc kn) sl)∈D) (a2:(kn,cy (z3 w ts oS (.str "cpy313.functools" tm) (.int 7 tl) sv st x4.1 x5.1 f6 f7 f8 f9++[en w "obj" k2 (.ref km),en w "__doc__" k3 .none]) 3)∈D) (a3:(km,BC kc k1 0)∈D)
  (a4:(x4.1,Jz 2 "__init__" [] x4.2.2.2.1 pm x4.2.1 x4.2.2.2.2)∈D) (a5:(x4.2.1,x4.2.2.1)∈D) (a6: ∃vs tq,x4.2.2.1.data=.fields vs/\vs[1]? =some (.str "cmp_to_key.<locals>.K.__init__" tq))
  (a7:(x5.1,Jz 3 "__lt__" [("mycmp",mc)] x5.2.2.2.1 pm x5.2.1 x5.2.2.2.2)∈D) (a8:(x5.2.1,x5.2.2.1)∈D) (a9: ∃vs tq,x5.2.2.1.data=.fields vs/\vs[1]? =some (.str "cmp_to_key.<locals>.K.__lt__" tq))
  (oc:Obj) (b1:(mc,oc)∈D) (b2:oc.data=.cell (some f))
theorem OE.mono (hs: ∀p∈D,p∈D') (x:OE w f D v):OE w f D' v:=by
 obtain ⟨kc,kn,km,mc,k1,k2,k3,oS,tm,tl,ts,sl,st,sv,f6,f7,f8,f9,x4,x5,pm,e,e1,a1,a2,a3,a4,a5,a6,a7,a8,a9,oc,b1,b2⟩:=x;exact ⟨kc,kn,km,mc,k1,k2,k3,oS,tm,tl,ts,sl,st,sv,f6,f7,f8,f9,x4,x5,pm,e,e1,hs _ a1,hs _ a2,hs _ a3,hs _ a4,hs _ a5,a6,hs _ a7,hs _ a8,a9,oc,hs _ b1,b2⟩
end
section
open PySem.Builtin
structure TopC (mg:Str->Option ai) (G:Heap) (c0 P0:Addr):Prop where
 bmain: ∃bm ob,mg "__builtins__"=some (.ref bm)/\bm≠cu/\G.get? bm=some ob/\ob.cls=.type "module" /\ob.dict=some cu/\ob.data=.plain
 name: ∃v0,mg "__name__"=some v0
 opq: ∃mc,G.Ns jM mc/\mc "thirdparty.any"=none
 code:iQ G c0 P0
 off:G.get? P0=none
section
variable {d:lH} {t:Nat} {os:gq} {c0 mc:Addr} {Jx:Array ai}
theorem TS (T:bL mg mb G) (H:TopC mg G c0 P0) (k: ∀b o,G.get? b=some o->h.get? b=some o):Gk mg mb h P0:=by
 refine kF H.bmain fun bm ob b1 b2 b3 b4 b5 b6=>?_;have ne: ∀{b:Addr} {o:Obj},G.get? b=some o->P0≠b:=fun e q=>by rw [<- q,H.off] at e; cases e
 have g1:=T.g;have g2:=T.b;refine bQ T.nodigits fun mc1 g3 _=>?_;refine ⟨T.g.keeps k,T.b.keeps k,⟨bm,ob,b1,b2,?_,Ne.symm (ne b3),k _ _ b3,b4,b5,b6⟩,?_,?_,?_⟩
 ·intro q;refine jt g1 fun o es ep e hd _=>?_; clear g1;rw [q,e] at b3; cases b3; rw [hd] at b6; cases b6
 ·refine oz g1 fun o es ep e _=>?_; clear g1; exact ne e
 ·refine oz g2 fun o es ep e _=>?_; clear g2; exact ne e
 ·refine oz g3 fun o es ep e _=>?_; clear g3; exact ne e
theorem Qv {Q:Flow->aj->Prop} (T:bL mg mb G) (H:TopC mg G c0 P0) (k: ∀b o,G.get? b=some o->h.get? b=some o) (hA:A.depth + 3 < 1000) (K:fM env) (hq:env.qual="cmp_to_key.<locals>.") (We:env.kindOf "K"=some .local) (hko:env.kindOf "object"=some .globalImplicit) (Qw:mg "object"=none) (jl:env.code=.ref c0) (TM:h.get? P0=some (aT Jx)) (ht:iI Jx.toList) (GA:eY wz Jx.toList=none) (Se:env.cells.lookup ("mycmp" :Str)=some mc) (q: ∀(x4 x5 x6 x7 x8 x9:Addr × Addr × Obj × ai × ai) (l tup ns Pc cc bT kc kn km:Addr) (to tm tq tl oS k1 k2 k3 tk:Nat) (o' oc:Obj) (tt:Array ai) (ts:Nat->Nat) (sl:Array (Option ai)) (Dy of2 y1 y2:Addr × Obj) (es:List dz) h',sl[4]? =some (some (.builtin "object.__new__"))->
   (∃vs tq,x4.2.2.1.data=.fields vs/\vs[1]? =some (.str "cmp_to_key.<locals>.K.__init__" tq))->(∃vs tq,x5.2.2.1.data=.fields vs/\vs[1]? =some (.str "cmp_to_key.<locals>.K.__lt__" tq))->
   Mm h h' [(P0,aT (Jx++ #[aQ wz.line,aQ wz.col,.ref cc]))] (y1::y2::(km,BC kc k1 0)::(kc,kC (zX kc kn) sl)::(kn,cy (z3 w ts oS (.str "cpy313.functools" tm) (.int 7 tl) (.ref l) (.ref tup) x4.1 x5.1 x6.1 x7.1 x8.1 x9.1++[en w "obj" k2 (.ref km),en w "__doc__" k3 .none]) 3)::yO w mc ((mg "__name__").getD .none) x4 x5 x6 x7 x8 x9 l tup ns Pc cc bT es to o' oc tt Dy of2)->
   ak (aq prog w) A (l6 env "K" (.ref kc)) (fun _ s'=>Q .next s') E ⟨h',g,d,tk,os⟩):
  ak (aq prog w) A (exec (.ClassDef "K" [.Name "object" ⟨7,12,7,18⟩] [] t7 [] [] tD none "K" wu wz) env) Q E ⟨h,g,d,t,os⟩:=by
 have GK:=TS T H k;rw [arm_exec_ClassDef];refine ae (aK (a:=[]) rfl ?_);refine ae (bO ?_);unfold buildClassGuard;rw [K.blt];refine ae (ae (sA GK.b ?_));rw [T.builtins _ (by decide)];k_node;refine ah ?_;refine ae ?_;refine aB ?_;refine ae ?_;k_node;k_node;refine ae ?_;k_node;refine ae ?_;k_node;refine iq K.kind hko (mD (by rw [K.glob]; exact GK.g) Qw (by rw [K.blt]; exact GK.b) ((T.builtins _ (by decide)).trans (show lV "object"=some (.type "object") by decide +kernel)) ?_) (by decide);k_node;k_node;refine ae ?_;refine ah ?_;refine ae ?_;refine aB ?_;k_node;refine ah ?_;refine ah ?_;refine ae ?_;refine ah ?_;k_node;refine aB ?_;k_node;k_node;refine ae ?_;k_node;refine ah ?_;k_node;refine ae ?_;k_node;refine ah ?_;refine ah ?_;refine ae (bO ?_);refine aB ?_;have hqn:Cw env "K" "K"="cmp_to_key.<locals>.K":=by
  unfold Cw;rw [We,if_neg (by decide),hq]
  decide +kernel
 rw [hqn];refine (?_:ak _ _ (NW "K" "cmp_to_key.<locals>.K" [.type "object"] [] t7 tD wu 7 env wz none) _ _ _);refine ex H.name fun v0 Qp=>?_;refine bQ H.opq fun LI ym Fe=>?_;have rC:mH < h.objs.size:=by
  refine oz (ym.keeps k) fun o es ep e _=>?_;exact Nat.lt_trans (show mH < jM by decide) (az e)
 have C:iQ h c0 P0:=H.code.keeps k;refine MD GK Qp rC hA (T.nolimit.keeps k) K.glob K.blt jl C TM ht GA Se fun x4 x5 x6 x7 x8 x9 l tm to o' ts h1 Xf tup ns Pc cc bT oS tq tl oc tt Dy of2 D1 R4 R5=>?_;refine DH rC rfl D1 (ym.keeps k) Fe (fun p hp=>by exact rf hp (GK.hc)) fun kc kn km k1 k2 k3 tk sl y1 y2 h2 yv D2=>?_;refine ae ?_;k_node;refine ah ?_;refine ae (bO ?_);refine ae ?_;unfold Cs;refine ae (aB (nQ ?_));refine ae (aN (q x4 x5 x6 x7 x8 x9 l tup ns Pc cc bT kc kn km to tm tq tl oS k1 k2 k3 tk o' oc tt ts sl Dy of2 y1 y2 _ h2 yv R4 R5 D2) (fun _ s' hs=>nQ (ah hs)) fun _ _ e=>e)
end
end
section
open PySem.Builtin
theorem iN.out {C:vg} (X:iN G c ⟨F1,fl⟩ ρ τ h D C m):au G F1 (C.led++D) h/\(∀p∈fl,p∈C.led++D)/\(∀p∈D,p∈C.led++D)/\∀x∈C,(x.2.1,x.2.2)∈C.led++D:=by
 refine ⟨⟨X.fr.keep,fun p hp=>?_,fun p hp r hr=>?_,Nat.le_of_lt (Nat.lt_of_le_of_lt X.fr.above X.fr.ns.lt)⟩,fun p hp=>mR ((X.fl p hp)),fun p hp=>mR hp,fun x hx=>mL ((List.mem_map_of_mem hx))⟩
 ·have:p∈D++(C.led++F1):=by
   exact cE hp (fun hp=>cE hp (fun hp=>mR ((mL hp))) fun hp=>mL hp) fun hp=>mR ((mR hp))
  have q:=X.nw p this;exact ⟨q.1,q.2.2⟩
 ·refine cE hp (fun hp=>?_) (fun hp=>?_)
  ·refine l8 hp fun x hx=>?_;exact X.cp x hx r hr
  ·exact X.ap p hp r (mR hr)
section
variable {c0:Addr} {R:Led}
theorem JI (T:bL mg mb G) (H:TopC mg G c0 P0) (Qw:mg "object"=none) {doc:ai} (ho:G.get? (adr mg "cmp_to_key")=some o) (hd:o.data=.func (docDef "cmp_to_key" (argsAt 2) (dh 2) (aG 2) pm (.ref c0) doc)) (sI:G.CodeRec (.ref c0) "cmp_to_key") (hA:cQ (n + 1) A) (dM:au G ((P0,aT #[])::R) D₀ s.heap) (hR: ∀p∈R,p.1≠P0) (q: ∀v s' D' Ff,Sm s s'->au G ((P0,aT Ff)::R) D' s'.heap->(∀p∈D₀,p∈D')->OE w f D' v->Q v s'):ak (aq prog w) A (call (.ref (adr mg "cmp_to_key")) [f]) Q E s:=by
 refine zP (n:=n) (xs:=["mycmp"]) (ds:=[.val f]) (name:="cmp_to_key") (body:=dh 2) (scope:=aG 2) T hA dM (dM.keep _ _ ho) hd rfl rfl rfl rfl rfl rfl rfl (sI.keeps dM.keep) (fun E' Q' h=>?_) rfl (by decide +kernel) (by decide +kernel) (fun L D Ge K s1 sm fV F=>?_)
 ·refine (?_:ak _ _ (pure [(("mycmp" :Str),f)]) _ _ _);exact ah (h [f] s D₀ (Sm.refl s) dM (fun _ h=>h) (.cons rfl .nil))
 refine d8 F fun D1 C m X=>?_; clear F;refine bQ (X.vr "mycmp" (.val f) rfl) fun fv hv hfv=>?_;obtain rfl:f=fv:=Eq.symm hfv;obtain ⟨mc,oc',qP,zq⟩: ∃a o,(("mycmp" :Str),a,o)∈C/\o.data=.cell (some f):=by
  rcases hv with ⟨a1,_⟩ | ⟨_,a,o,a3,a4⟩ | ⟨_,a,o,_,a4,_⟩
  ·exact absurd a1 (by refine (?_: ¬((aG 2).names.lookup ("mycmp" :Str)=some NameKind.local)); decide +kernel)
  ·exact ⟨a,o,a3,a4⟩
  ·exact nomatch a4
 obtain ⟨h1,g,d,t,os⟩:=s1;have TM:h1.get? P0=some (aT #[]):=(X.nw (P0,aT #[]) (mR ((mR ((.head _)))))).1;refine bD ?_;refine Qv (mc:=mc) T H X.fr.keep (by have:=fV.depth; refine (?_:_ + 3 < 1000); exact Nat.lt_of_le_of_lt (Nat.add_le_add_right (Nat.le_trans (Nat.le_add_right _ _) this) 3) (by decide)) K rfl rfl rfl Qw rfl TM trivial rfl (X.ck _ qP).1 fun x4 x5 x6 x7 x8 x9 l tup ns Pc cc bT kc kn km to tm tq tl oS k1 k2 k3 tk o' oc tt ts sl Dy of2 y1 y2 es h2 yv R4 R5 M=>?_
 have X2:=X.grow M hR nm;have X3:iN G _ _ _ [(cY kc,Sv.val (.ref kc))] h2 _ C m:=(X2.oB (fun p hp=>by rw [List.mem_singleton] at hp; subst hp; rfl));refine HV rfl X3.fr.ns (fun h3 hn hs=>?_) rfl;have X4:=X3.local (x:="K") (v:=.ref kc) rfl hn hs;refine bD (eU (mz (kR K.kind rfl X4.fr.ns (if_pos rfl) ?_)));have O:=X4.out;refine q (.ref kc) _ _ _ ⟨sm.gens,sm.os⟩ O.1 (fun p hp=>O.2.1 p (Ge p hp)) ⟨kc,kn,km,mc,k1,k2,k3,oS,tm,tl,ts,sl,.ref tup,.ref l,x6.1,x7.1,x8.1,x9.1,x4,x5,(mg "__name__").getD .none,rfl,yv,O.2.2.1 _ (mL ((List.mem_of_getElem? (i:=3) rfl))),O.2.2.1 _ (mL ((List.mem_of_getElem? (i:=4) rfl))),O.2.2.1 _ (mL ((List.mem_of_getElem? (i:=2) rfl))),O.2.2.1 _ (mL ((List.mem_of_getElem? (i:=19) rfl))),O.2.2.1 _ (mL ((List.mem_of_getElem? (i:=20) rfl))),R4,O.2.2.1 _ (mL ((List.mem_of_getElem? (i:=17) rfl))),O.2.2.1 _ (mL ((List.mem_of_getElem? (i:=18) rfl))),R5,oc',O.2.2.2 _ qP,zq⟩
end
end
section
open PySem.Builtin
theorem MH {K:Frag} (e: ∀p∈K,h.get? p.1=some p.2):K.In h:=fun a o q=>by
 have: ∀{l:Frag},l.lookup a=some o->(a,o)∈l:=by
  intro l
  induction l with
  | nil=>intro q; cases q
  | cons p r ih=>
   obtain ⟨b,x⟩:=p;intro q;simp only [List.lookup] at q;split at q
   ·rename_i z; cases q; rw [beq_iff_eq.mp z]; exact .head _
   ·exact .tail _ (ih q)
 exact e _ (this q)
structure Z9 (K:Frag) (kc kn km f4 f5:Addr) (oc:Obj) (on:Obj) (om o4 o5:Obj):Prop where
 c:K.lookup kc=some oc
 n:K.lookup kn=some on
 m:K.lookup km=some om
 i:K.lookup f4=some o4
 l:K.lookup f5=some o5
section
variable {K:Frag} {kc kn km mc:Addr} {k1 k2 k3 oS tm tl:Nat} {sl:Array (Option ai)} {st sv:ai} {f6 f7 f8 f9:Addr} {x4 x5:Addr × Addr × Obj × ai × ai}
noncomputable abbrev Wi (w:bR) (ts:Nat->Nat) (oS tm tl k2 k3:Nat) (sv st:ai) (x4 x5:Addr × Addr × Obj × ai × ai) (f6 f7 f8 f9 km:Addr):Obj:=cy (z3 w ts oS (.str "cpy313.functools" tm) (.int 7 tl) sv st x4.1 x5.1 f6 f7 f8 f9++[en w "obj" k2 (.ref km),en w "__doc__" k3 .none]) 3
variable (Z:Z9 K kc kn km x4.1 x5.1 (kC (zX kc kn) sl) (Wi w ts oS tm tl k2 k3 sv st x4 x5 f6 f7 f8 f9 km) (BC kc k1 0) (Jz 2 "__init__" [] x4.2.2.2.1 pm x4.2.1 x4.2.2.2.2) (Jz 3 "__lt__" [("mycmp",mc)] x5.2.2.2.1 pm x5.2.1 x5.2.2.2.2))
include Z
theorem pR {name:Str}:fZ K (.ref kc) name=(match nsIn K kn name with | some (some v)=>some (some v) | some none=>(match some (VA "object" name) with | some (some v)=>some (some v) | some none=>some none | none=>none) | none=>none):=by
 simp only [fZ,Z.c,alongIn,ownIn,zX];rcases nsIn K kn name with _ | _ | v <;> first | rfl | (cases VA "object" name <;> rfl)
theorem yQ {name:Str}:nsIn K kn name=getL name (z3 w ts oS (.str "cpy313.functools" tm) (.int 7 tl) sv st x4.1 x5.1 f6 f7 f8 f9++[en w "obj" k2 (.ref km),en w "__doc__" k3 .none]):=by
 simp only [nsIn,Z.n]
 rfl
theorem DI:fZ K (.ref kc) "__setattr__"=some (some (.builtin "object.__setattr__")):=by
 rw [pR Z,yQ Z]; kernel_rfl
theorem MI:fZ K (.ref kc) "__init__"=some (some (.ref x4.1)):=by
 rw [pR Z,yQ Z]; kernel_rfl
theorem TU:fZ K (.ref kc) "__lt__"=some (some (.ref x5.1)):=by
 rw [pR Z,yQ Z]; kernel_rfl
theorem JJ:fZ K (.ref kc) "obj"=some (some (.ref km)):=by
 rw [pR Z,yQ Z]; kernel_rfl
theorem uC:fZ K (.ref kc) "__getattribute__"=some (some (.builtin "object.__getattribute__")):=by
 rw [pR Z,yQ Z]; kernel_rfl
theorem DJ:fZ K (.ref kc) "__getattr__"=some none:=by
 rw [pR Z,yQ Z]; kernel_rfl
theorem DK:clsIn K kc=some (zX kc kn):=by simp only [clsIn,Z.c]
theorem DL:jR K (.ref km)=some (.type "member_descriptor"):=by delta jR; dsimp only; rw [Z.m]; rfl
theorem DM:jR K (.ref kc)=some (.type "type"):=by delta jR; dsimp only; rw [Z.c]; rfl
theorem Qx:jR K (.ref x4.1)=some (.type "function"):=by delta jR; dsimp only; rw [Z.i]; rfl
theorem Qy:jR K (.ref x5.1)=some (.type "function"):=by delta jR; dsimp only; rw [Z.l]; rfl
theorem Qz:iJ K (.ref km) "__get__"=some (some (.builtin "member_descriptor.__get__")):=by simp only [iJ,DL Z]; kernel_rfl
theorem QA:iJ K (.ref km) "__set__"=some (some (.builtin "member_descriptor.__set__")):=by simp only [iJ,DL Z]; kernel_rfl
theorem BD:takesIn K (.ref km)=some true:=by simp only [takesIn,QA Z]
theorem JK:xo K kc "obj"=some (some (.ref km)):=by simp only [xo,JJ Z,Option.bind_some,BD Z,Option.map_some,if_true]
theorem JL:FH K kc=true:=by simp only [FH,DK Z,Option.any_some]; rfl
theorem BE {name:Str}:Cy K kc name=true:=by simp only [Cy,uC Z,DJ Z,beq_self_eq_true,Bool.and_self]
theorem JM:isClsIn K kc=true:=by simp only [isClsIn,DK Z,Option.isSome_some]
theorem Fg:slotIn K km kc=some 0:=by
 have e:Lf K km "member_descriptor"=some [.str "obj" k1,.ref kc,.builtin "proto.slot",.builtin "proto.slot#set",aQ 0]:=by simp only [Lf,Z.m]; rfl
 have q:(zX kc kn).mro.contains (.ref kc)=true:=by simp [zX]
 unfold slotIn;rw [e,DK Z];refine (?_:(if ("proto.slot" == "proto.slot" && "proto.slot#set" == "proto.slot#set" && !(zX kc kn).mro.isEmpty && (zX kc kn).mro.contains (.ref kc) && decide ((0:Int).toNat < (zX kc kn).slotNames.length))=true then some ((zX kc kn).slotNames.length - 1 - (0:Int).toNat) else none)=some 0);rw [q]
 rfl
theorem MJ:iJ K (.ref kc) "__call__"=some (some (.builtin "type.__call__")):=by simp only [iJ,DM Z]; kernel_rfl
theorem MK:VB K (.ref kc) (.type "type")=some true:=by simp only [VB,DM Z]; kernel_rfl
theorem JN (hs:sl[4]? =some (some (.builtin "object.__new__"))):makesIn K kc=true:=by
 have e1:(sl.toList[4]?).join=some (.builtin "object.__new__"):=by rw [Array.getElem?_toList,hs]; rfl
 simp only [makesIn,Z.c,e1,MJ Z,MK Z,zX,beq_self_eq_true,NY,Bool.not_false,List.isEmpty_cons,List.contains_cons];simp
end
end
section
open PySem.Builtin
noncomputable abbrev z4 (scope:iK) (L:Addr) (cl:List (Str × Addr)) (qual:Str) (a:Addr) (cd:ai):Env:={ scope,locals:=L,globals:=aO,cells:=cl,qual,func:=some a,code:=cd,frame:=some L,builtins:=cu }
section
variable {d:lH} {t:Nat} {os:gq} {binds:List (Str × ai)}
theorem yR (hd:A.depth < 1000) (ME:h.NoLimit) (ho:h.get? a=some o) (zq:o.data=.func fd) (e1:fd.body=.stmts body) (e3:fd.globals=aO) (e7:fd.builtins=cu) (sI:h.CodeRec fd.code fd.qualname) (ie:gw fd ⟨us,[]⟩=pure binds) (hc: ∀x∈fd.scope.names,x.2≠ .cell) (hl: ∀x∈binds,fd.scope.names.lookup x.1=some .local) (hb: ∀L h1 tk,L=h.objs.size->h1.Ns L (fun x=>binds.reverse.lookup x)->(∀b o,h.get? b=some o->h1.get? b=some o)->
   ak (aq prog w) (A.deeper (z4 fd.scope L fd.closure (fd.qualname++ ".<locals>.") a fd.code)) (ik body (z4 fd.scope L fd.closure (fd.qualname++ ".<locals>.") a fd.code)) (fun f s'=>R (.ok (.ret (match f with | .ret v=>v | _=>.none))) s')
    (fun e s'=>ak (aq prog w) (A.deeper (z4 fd.scope L fd.closure (fd.qualname++ ".<locals>.") a fd.code)) (nO (z4 fd.scope L fd.closure (fd.qualname++ ".<locals>.") a fd.code) e) (fun _ mU=>R (.error e) mU) (fun e' mU=>R (.error e') mU) s') ⟨h1,g,d,tk,os⟩) (vy:fd.scope.isCoroutine=false:=by rfl) (kI:fd.scope.isGenerator=false:=by rfl) (uw:fd.scope.kind=.function:=by rfl):eO (aq prog w) A (.call (.ref a) ⟨us,[]⟩) R ⟨h,g,d,t,os⟩:=by
 refine qY hd ho zq vy kI e1 sI ?_;rw [ie];refine ah ?_;refine sj hc hl (fun h1 hn hs=>?_) uw;have kp: ∀b o,h.get? b=some o->h1.get? b=some o:=fun b o e=>(hs.2 b (Nat.ne_of_lt (az e))).trans (av _ e);refine ⟨ME.keeps kp,Hw ?_⟩;rw [e3,e7];exact hb _ h1 _ rfl hn kp
end
theorem lT {b:Addr} {o1 o2:Obj} (e1:h.get? a=some o1) (e2:h.get? b=some o2) (ne:o1≠o2):a≠b:=fun e=>ne (by rw [e,e2] at e1; exact (aH e1).symm)
section
variable {kc kn km mc:Addr} {k1 k2 k3 oS tm tl:Nat} {sl:Array (Option ai)} {st sv:ai} {f6 f7 f8 f9:Addr} {x4 x5:Addr × Addr × Obj × ai × ai}
theorem z5 (hc:h.get? kc=some (kC (zX kc kn) sl)) (hn:h.get? kn=some (Wi w ts oS tm tl k2 k3 sv st x4 x5 f6 f7 f8 f9 km)) (hm:h.get? km=some (BC kc k1 0)) (hi:h.get? x4.1=some (Jz 2 "__init__" [] x4.2.2.2.1 pm x4.2.1 x4.2.2.2.2)) (hl:h.get? x5.1=some (Jz 3 "__lt__" [("mycmp",mc)] x5.2.2.2.1 pm x5.2.1 x5.2.2.2.2)):
  ∃K:Frag,K.In h/\Z9 K kc kn km x4.1 x5.1 (kC (zX kc kn) sl) (Wi w ts oS tm tl k2 k3 sv st x4 x5 f6 f7 f8 f9 km) (BC kc k1 0) (Jz 2 "__init__" [] x4.2.2.2.1 pm x4.2.1 x4.2.2.2.2) (Jz 3 "__lt__" [("mycmp",mc)] x5.2.2.2.1 pm x5.2.1 x5.2.2.2.2):=by
 have cl: ∀{o1 o2:Obj} (T1 T2:String),o1.cls=.type T1->o2.cls=.type T2->T1≠T2->o1≠o2:=fun T1 T2 c1 c2 ne e=>ne (CG (c1.symm.trans ((congrArg Obj.cls e).trans c2)));have bf: ∀{a b:Addr},a≠b->(a == b)=false:=fun e=>beq_eq_false_iff_ne.mpr e;have n1:kn≠kc:=lT hn hc (cl "dict" "type" rfl rfl (by decide));have m1:km≠kc:=lT hm hc (cl "member_descriptor" "type" rfl rfl (by decide));have m2:km≠kn:=lT hm hn (cl "member_descriptor" "dict" rfl rfl (by decide));have i1:x4.1≠kc:=lT hi hc (cl "function" "type" rfl rfl (by decide));have i2:x4.1≠kn:=lT hi hn (cl "function" "dict" rfl rfl (by decide));have i3:x4.1≠km:=lT hi hm (cl "function" "member_descriptor" rfl rfl (by decide));have l1:x5.1≠kc:=lT hl hc (cl "function" "type" rfl rfl (by decide));have l2:x5.1≠kn:=lT hl hn (cl "function" "dict" rfl rfl (by decide));have l3:x5.1≠km:=lT hl hm (cl "function" "member_descriptor" rfl rfl (by decide));have l4:x5.1≠x4.1:=lT hl hi fun e=>by
  have:=congrArg (fun o:Obj=>match o.data with | .func fd=>fd.name | _=>gm) e;exact absurd this (by refine (?_: ¬(("__lt__" :Str)=("__init__" :Str))); decide +kernel)
 refine ⟨[(kc,kC (zX kc kn) sl),(kn,Wi w ts oS tm tl k2 k3 sv st x4 x5 f6 f7 f8 f9 km),(km,BC kc k1 0),(x4.1,Jz 2 "__init__" [] x4.2.2.2.1 pm x4.2.1 x4.2.2.2.2),(x5.1,Jz 3 "__lt__" [("mycmp",mc)] x5.2.2.2.1 pm x5.2.1 x5.2.2.2.2)],MH (fun p hp=>?_),⟨?_,?_,?_,?_,?_⟩⟩
 ·simp only [List.mem_cons,List.not_mem_nil,or_false] at hp;rcases hp with rfl | rfl | rfl | rfl | rfl
  ·exact hc
  ·exact hn
  ·exact hm
  ·exact hi
  ·exact hl
 ·simp only [List.lookup,beq_self_eq_true]
 ·simp only [List.lookup,bf n1,beq_self_eq_true]
 ·simp only [List.lookup,bf m1,bf m2,beq_self_eq_true]
 ·simp only [List.lookup,bf i1,bf i2,bf i3,beq_self_eq_true]
 ·simp only [List.lookup,bf l1,bf l2,bf l3,bf l4,beq_self_eq_true]
end
end
section
open PySem.Builtin
noncomputable abbrev BF (kc dx:Addr) (u:ai):Obj:={ cls:=.ref kc,dict:=some dx,data:=.plain,slots:= #[some u] }
inductive KI (w:bR) (f cv:ai) (d:Dat) (D:Led) (v:ai):Prop where
 | mk (x dx kc:Addr) (u:ai) (e:v=.ref x) (e':cv=.ref kc) (c:(x,BF kc dx u)∈D) (c':(dx,cM)∈D) (k:OE w f D cv) (q:eI D u d)
theorem KI.mono {d:Dat} (hs: ∀p∈D,p∈D') (x:KI w f cv d D v):KI w f cv d D' v:=by
 obtain ⟨x,dx,kc,u,a,b,c,e,k,q⟩:=x;exact ⟨x,dx,kc,u,a,b,hs _ c,hs _ e,k.mono hs,q.mono hs⟩
noncomputable def lC (w:bR) (f cv:ai):Sv:=.own (fun D v=>v=cv/\OE w f D cv) fun _ _ _ hs x=>⟨x.1,x.2.mono hs⟩
noncomputable def uD (w:bR) (f cv:ai) (d:Dat):Sv:=.own (fun D v=>KI w f cv d D v) fun _ _ _ hs x=>x.mono hs
section
variable {d:Dat}
theorem Fj (T:bL mg mb G):ny prog w G (n + 2) (fun v u=>call v [u]) (lC w f cv) (.dat d) (uD w f cv d):=.mk fun A E Q Φ D v1 v2 s a W h1 h2 q=>by
 refine ea h1 ?_; clear h1; rintro rfl CE;obtain ⟨kc,kn,km,mc,k1,k2,k3,oS,tm,tl,ts,sl,st,sv,f6,f7,f8,f9,x4,x5,pm,rfl,yv,a1,a2,a3,a4,a5,a6,a7,a8,a9,Fk,b1,b2⟩:=id CE;have pin: ∀p∈D,s.heap.get? p.1=some p.2:=fun p hp=>(W.pin p (mL hp)).1;refine bQ (z5 (pin _ a1) (pin _ a2) (pin _ a3) (pin _ a4) (pin _ a7)) fun K KX Z=>?_;obtain ⟨h,g,dd,t,os⟩:=s;refine fg (make_core (makes_of KX (JN Z yv)) (looks_findIn KX (MI Z)) (fun self=>bind_fn KX self (Qx Z)) (.inl rfl) ?_);have Oq: ∀b o,h.get? b=some o->((h.push cM).push (cL kc h.objs.size)).get? b=some o:=fun b o e=>av _ (av _ e);have hx:((h.push cM).push (cL kc h.objs.size)).get? (h.objs.size + 1)=some (cL kc h.objs.size):=by heap_get
 have Pz:((h.push cM).push (cL kc h.objs.size)).get? h.objs.size=some cM:=av _ (aJ _ rfl);have xU:((h.push cM).push (cL kc h.objs.size)).CodeRec (.ref x4.2.1) "cmp_to_key.<locals>.K.__init__":=by
  refine nV a6 fun vs tq e1 e2=>?_; clear a6;exact ⟨_,_,vs,tq,rfl,Oq _ _ (pin _ a5),e1,e2⟩
 refine yR (fd:=kdv_fn "__init__" ("cmp_to_key.<locals>.K." ++ "__init__") (Jy 2) (.stmts (Dw 2)) (jG 2) [] .none x4.2.2.2.1 pm (.ref x4.2.1) x4.2.2.2.2) (by have:=a.depth; refine (?_:A.depth + 1 < 1000); exact Nat.lt_of_le_of_lt (Nat.add_le_add_right (Nat.le_trans (Nat.le_add_right _ _) this) 1) (by decide)) ((T.nolimit.keeps W.keep).keeps Oq) (Oq _ _ (pin _ a4)) rfl rfl rfl rfl xU (binds:=[("self",.ref (h.objs.size + 1)),("obj",v2)]) rfl (by refine (?_: ∀x∈ (jG 2).names,x.2≠ .cell); decide +kernel) (by
  intro x hx;simp only [List.mem_cons,List.not_mem_nil,or_false] at hx;rcases hx with rfl | rfl
  ·refine (?_:(jG 2).names.lookup ("self" :Str)=some .local); decide +kernel
  ·refine (?_:(jG 2).names.lookup ("obj" :Str)=some .local); decide +kernel) (fun L h3 tk hL hn kp=>?_)
 have Si:L=h.objs.size + 2:=by rw [hL]; simp [bG]
 have F:Fr h L h3 (fun x=>([("self",.ref (h.objs.size + 1)),("obj",v2)]:List (Str × ai)).reverse.lookup x):=⟨hn,fun b o e=>kp _ _ (Oq _ _ e),Si ▸ Nat.le_add_right _ 2⟩;have N:News h L h3 [(h.objs.size + 1,cL kc h.objs.size),(h.objs.size,cM)]:=fun p hp=>by
  simp only [List.mem_cons,List.not_mem_nil,or_false] at hp;rcases hp with rfl | rfl
  ·exact ⟨kp _ _ hx,by refine (?_:h.objs.size + 1≠L); rw [Si]; exact Nat.ne_of_lt (Nat.lt_succ_self _),gP (Nat.le_succ _)⟩
  ·exact ⟨kp _ _ Pz,by refine (?_:h.objs.size≠L); rw [Si]; exact Nat.ne_of_lt (Nat.lt_succ_of_lt (Nat.lt_succ_self _)),gP (Nat.le_refl _)⟩
 have I:InstAt h3 (h.objs.size + 1) (cL kc h.objs.size) kc (some cM):=⟨kp _ _ hx,rfl,rfl,kp _ _ Pz⟩;refine bD (j6 (mz (kR rfl rfl hn (by rfl) ?_)) rfl);refine mz (kR rfl rfl hn (by rfl) ?_);refine set_slot (K:=K) F KX N I (DI Z) (JL Z) (JK Z) (DL Z) (Fg Z) (Nat.zero_lt_succ _) (ox':=BF kc h.objs.size v2) rfl rfl (.head (fun p hp=>by exact rf hp (Nat.ne_of_lt (Nat.lt_succ_self _)))) fun h4 F4 N4=>?_;refine bz ⟨rfl,?_⟩;have x1:=N4 (h.objs.size + 1,BF kc h.objs.size v2) (.head _);have x2:=N4 (h.objs.size,cM) (.tail _ (.head _));have lt: ∀p∈D++Φ,p.1 < h.objs.size:=fun p hp=>az (W.pin p hp).1;have gn: ∀b,h.objs.size<=b->G.get? b=none:=fun b hb=>gP (Nat.le_trans W.sz hb);refine q (.ref (h.objs.size + 1)) _ ((h.objs.size + 1,BF kc h.objs.size v2)::(h.objs.size,cM)::D) ⟨rfl,rfl⟩ ⟨fun b o e=>F4.keep _ _ (W.keep b o e),fun p hp=>?_,fun p hp r hr=>?_,Nat.le_trans W.sz (Nat.le_trans F4.above (Nat.le_of_lt F4.ns.lt))⟩ (fun p hp=>.tail _ (.tail _ hp)) ⟨_,_,kc,v2,rfl,rfl,.head _,.tail _ (.head _),CE.mono fun p hp=>.tail _ (.tail _ hp),h2.mono fun p hp=>.tail _ (.tail _ hp)⟩
 ·have:p=(h.objs.size + 1,BF kc h.objs.size v2)\/p=(h.objs.size,cM)\/p∈D++Φ:=by
   refine cE hp (fun hp=>?_) (fun hp=>?_)
   ·refine xA hp (fun hp=>?_) (fun hp=>?_)
    ·exact .inl hp
    ·refine xA hp (fun hp=>?_) (fun hp=>?_)
     ·exact .inr (.inl hp)
     ·exact .inr (.inr (mL hp))
   ·exact .inr (.inr (mR hp))
  rcases this with rfl | rfl | hp
  ·exact ⟨x1.1,gn _ (Nat.le_add_right _ _)⟩
  ·exact ⟨x2.1,gn _ (Nat.le_refl _)⟩
  ·exact ⟨F4.keep _ _ (W.pin p hp).1,(W.pin p hp).2⟩
 ·have fG:=lt r (mR hr);exact bU hp (Nat.ne_of_gt (Nat.lt_succ_of_lt fG)) fun hp=>bU hp (Nat.ne_of_gt fG) fun hp=>W.ap p hp r hr
end
end
section
open PySem.Builtin
section
variable {K:Frag} {x p f:Addr} {ox:Obj} {od:Option Obj} {name:Str} {b:ai}
theorem GQ {e:Bool} (X:K.In s.heap) (I:InstAt s.heap x ox C (some o')) (hg:Cy K C name=true) (hc:isClsIn K C=true) (ha:fZ K (.ref C) name=some (some (.ref p))) (hn:iJ K (.ref p) "__get__"=some (some (.builtin "member_descriptor.__get__"))) (ht:takesIn K (.ref p)=some true) (hp:slotIn K p C=some i) (hv:(ox.slots[i]?).join=some v) (hh:VC v=true) (h:Q v { s with toks:=s.toks + 1 }):ak (aq prog w) A (sR (.ref x) name e) Q E s:=
 get_bind X I (kU hg).1 (findObj_data hc ha hn ht) (kU hg).2 (fg (slot_get (s:={ s with toks:=s.toks + 1 }) X I hp hv (handed_on hh h)))
theorem QB (hu:A.units < zd) (X:K.In s.heap) (I:InstAt s.heap x ox C od) (hb:bk (aq prog w) s.heap (k6 b) (.ref C)) (hs:fZ K (.ref C) "__lt__"=some (some (.ref f))) (hf:isFn K (.ref f)=true) (h:ak (aq prog w) A (call (.ref f) [.ref x,b]) (PySem.W.CmpBack Q) E s):ak (aq prog w) A (iw .Lt (.ref x) b) Q E s:=by
 have one:ak (aq prog w) A (tryCompare (.ref x) (cmpInfo .Lt).2.1 b) (fun r s'=>∃v,r=some v/\Q v s') E s:=by
  unfold tryCompare;refine ae (ifBound_K X I hs hf (aN h (fun v s' hv=>?_) fun _ _ e=>e));cases v <;> first | exact hv.elim | exact ah ⟨_,rfl,hv⟩
 unfold iw;simp only [oneThing_ref];refine aB (ae (Ct hu ?_));refine ae (I.type.here (ae (hb.here ?_)));refine kG (by simp) ?_;refine ae (ah ?_);simp only [aV,if_false];refine ae (aN one (fun r s' z=>?_) fun _ _ e=>e);refine bQ z ?_; clear z; rintro v rfl hq;exact ah hq
end
section
variable {d d1 d2:Dat}
theorem DN (h:eI D u d):VC u=true:=by
 have:=jj h;cases d with
 | none=>exact this ▸ rfl
 | bool b=>exact (this:u=.bool b) ▸ rfl
 | int i=>exact ex this fun _ e=>e ▸ rfl
 | str i=>exact ex this fun _ e=>e ▸ rfl
 | bytes i=>exact ex this fun _ e=>e ▸ rfl
 | tuple i=>exact jt this fun _ _ _ e _ _=>e ▸ rfl
 | list i=>exact jt this fun _ _ _ e _ _=>e ▸ rfl
theorem JO {e:Bool}:CQ prog w G n (fun v=>sR v "obj" e) (uD w f cv d) (.dat d):=.mk fun A E Q Φ D v1 s a W h1 q=>by
 obtain ⟨x,dx,kc,u,rfl,rfl,m1,m2,CE,hu⟩:=h1;obtain ⟨kc',kn,km,mc,k1,k2,k3,oS,tm,tl,ts,sl,st,sv,f6,f7,f8,f9,x4,x5,pm,X6,yv,a1,a2,a3,a4,a5,a6,a7,a8,a9,Fk,b1,b2⟩:=CE;cases X6;have pin: ∀p∈D,s.heap.get? p.1=some p.2:=fun p hp=>(W.pin p (mL hp)).1;refine bQ (z5 (pin _ a1) (pin _ a2) (pin _ a3) (pin _ a4) (pin _ a7)) fun K KX Z=>?_;have I:InstAt s.heap x (BF kc dx u) kc (some cM):=⟨pin _ m1,rfl,rfl,pin _ m2⟩;exact GQ KX I (BE Z) (JM Z) (JJ Z) (Qz Z) (BD Z) (Fg Z) (v:=u) rfl (DN hu) (q u _ D ⟨rfl,rfl⟩ W (fun _ h=>h) hu)
theorem Ev.attr {attr:Str} {p1 p2:Pos} {s1 s2:Sv} (h1:Ev prog w G n c ρ (.Name y p1) s1) (P:CQ prog w G n (fun v=>sR v attr true) s1 s2):Ev prog w G n c ρ (.Attribute (.Name y p1) attr p2) s2:=.mk fun A E Q Φ τ s a F hq=>by
 rw [NZ];refine (?_:ak _ _ (eval (.Name y p1) c.env >>= _) _ _ _);refine ae (h1.go A E _ Φ τ s a F fun v s3 m3 F3=>?_);refine ae (bO ?_);refine ae (aB (F3.op1 P a fun r s4 m4 F4=>?_));refine (?_:ak _ _ (pure () >>= fun _=>pure r) _ _ _);exact ae (ah (ah (hq r s4 (m3.trans m4) F4)))
theorem JP (a:cQ n A):A.units < zd:=Nat.lt_of_le_of_lt (Nat.le_trans (Nat.le_add_right _ _) a.units) (by decide)
theorem BG {R:ai->ai->Prop} (T:bL mg mb G) {r:Int} (ho:G.get? fa=some o) (hd:o.data=.func fd) (P:bJ prog w G (n + 1) (.ref fa) [.dat d1,.dat d2] (.dat (.int r))) {Φ:Led} {v1 v2:ai} (a:cQ (n + 3) A) (W:au G Φ D s.heap) (h1:KI w (.ref fa) cv d1 D v1) (h2:KI w (.ref fa) cv d2 D v2) (f: ∀(K:Frag) (x y C g:Addr) (o1 o2:Obj),K.In s.heap->InstAt s.heap x o1 C (some cM)->InstAt s.heap y o2 C (some cM)->fZ K (.ref C) "__lt__"=some (some (.ref g))->isFn K (.ref g)=true->
   (∀Q:ai->aj->Prop,(∀s' D',Sm s s'->au G Φ D' s'.heap->(∀p∈D,p∈D')->Q (.bool (decide (r < 0))) s')->ak (aq prog w) A (call (.ref g) [.ref x,.ref y]) Q E s)->R (.ref x) (.ref y)):R v1 v2:=by
 refine KI.rec (motive:=fun _=>R v1 v2) (fun x dx kc u e e' m1 m2 CE hu=>?_) h1;refine KI.rec (motive:=fun _=>R v1 v2) (fun y dy kc2 u2 e2 e3 m3 m4 _ hu2=>?_) h2;clear h1 h2;subst e e2 e';cases e3;have X7:=CE;refine OE.rec (motive:=fun _=>R (.ref x) (.ref y)) (fun kc' kn km mc k1 k2 k3 oS tm tl ts sl st sv f6 f7 f8 f9 x4 x5 pm X6 yv a1 a2 a3 a4 a5 a6 a7 a8 a9 Fk b1 b2=>?_) X7;cases X6;have pin: ∀p∈D,s.heap.get? p.1=some p.2:=fun p hp=>(W.pin p (mL hp)).1;refine bQ (z5 (pin _ a1) (pin _ a2) (pin _ a3) (pin _ a4) (pin _ a7)) fun K KX Z=>?_;refine f K x y kc x5.1 (BF kc dx u) (BF kc dy u2) KX ⟨pin _ m1,rfl,rfl,pin _ m2⟩ ⟨pin _ m3,rfl,rfl,pin _ m4⟩ (TU Z) (beq_iff_eq.mpr (Qy Z)) fun Q q=>?_;have xU:s.heap.CodeRec (.ref x5.2.1) "cmp_to_key.<locals>.K.__lt__":=by
  refine nV a9 fun vs tq e1 e2=>?_; clear a9;exact ⟨_,_,vs,tq,rfl,pin _ a8,e1,e2⟩
 refine fg (yR (fd:=kdv_fn "__lt__" ("cmp_to_key.<locals>.K." ++ "__lt__") (Jy 3) (.stmts (Dw 3)) (jG 3) [("mycmp",mc)] .none x5.2.2.2.1 pm (.ref x5.2.1) x5.2.2.2.2) (by have:=a.depth; exact Nat.lt_of_le_of_lt (Nat.le_trans (Nat.le_add_right _ _) this) (by decide)) (T.nolimit.keeps W.keep) (pin _ a7) rfl rfl rfl rfl xU (binds:=[("self",.ref x),("other",.ref y)]) rfl (by refine (?_: ∀x∈ (jG 3).names,x.2≠ .cell); decide +kernel) (by
  intro x hx;simp only [List.mem_cons,List.not_mem_nil,or_false] at hx;rcases hx with rfl | rfl
  ·refine (?_:(jG 3).names.lookup ("self" :Str)=some .local); decide +kernel
  ·refine (?_:(jG 3).names.lookup ("other" :Str)=some .local); decide +kernel) (fun L h3 tk hL hn kp=>?_))
 let c:Cx:=⟨z4 (jG 3) L [("mycmp",mc)] ("cmp_to_key.<locals>.K." ++ "__lt__" ++ ".<locals>.") x5.1 (.ref x5.2.1),[],[]⟩
 have K:fM c.env:=⟨rfl,rfl,rfl⟩;have lt: ∀p∈D++Φ,p.1 < s.heap.objs.size:=fun p hp=>az (W.pin p hp).1;have X:iN G c ⟨Φ,D⟩ (upd (upd (fun _=>none) "self" (uD w (.ref fa) (.ref kc) d1)) "other" (uD w (.ref fa) (.ref kc) d2)) [] h3 D [] (fun z=>([("self",.ref x),("other",.ref y)]:List (Str × ai)).reverse.lookup z):=by
  refine ⟨⟨hn,fun b o e=>kp _ _ (W.keep b o e),by refine (?_:G.objs.size<=L); rw [hL]; exact W.sz⟩,fun p hp=>?_,fun p hp q hq=>W.ap p hp q hq,rfl,List.nodup_nil,List.nodup_nil,nm,nm,nm,fun p hp=>hp,fun z d e=>?_,nm⟩
  ·have SO:p∈D++Φ:=hp;exact ⟨kp _ _ (W.pin p SO).1,by refine (?_:p.1≠L); rw [hL]; exact Nat.ne_of_lt (lt p SO),(W.pin p SO).2⟩
  ·unfold upd at e
   by_cases hz:z="other"
   ·subst hz;rw [if_pos rfl] at e;cases e;exact ⟨.ref y,.inl ⟨rfl,rfl⟩,KI.mk y dy kc u2 rfl rfl m3 m4 CE hu2⟩
   ·rw [if_neg hz] at e
    by_cases S3:z="self"
    ·subst S3;rw [if_pos rfl] at e;cases e;exact ⟨.ref x,.inl ⟨rfl,rfl⟩,KI.mk x dx kc u rfl rfl m1 m2 CE hu⟩
    ·rw [if_neg S3] at e; cases e
 have fV:cQ (n + 2) (A.deeper c.env):=a.deeper _;refine bD (eU (Cf (kT (mz (LB K.kind rfl rfl ⟨Fk,kp _ _ (pin _ b1),b2⟩ ?_)) rfl)));refine kZ (h':=G) ho hd ((ic.cons (Ev.attr (Ev.name (prog:=prog) (w:=w) (G:=G) (n:=n + 2) (c:=c) K rfl) JO) (ic.one (Ev.attr (Ev.name K rfl) JO))).go (A.deeper c.env) _ _ _ _ _ _ fV ⟨D,[],_,X⟩ fun vs s2 m2 hl F2=>⟨F2.top _ _ ho,F2.tell P (fV.le (Nat.le_succ _)) hl fun v s3 m3 F3=>?_⟩) rfl;refine (Ev.int (prog:=prog) (w:=w) (G:=G) (n:=n + 2) (c:=c)).go (A.deeper c.env) _ _ _ _ s3 fV F3 fun v4 s4 m5 F4=>?_;refine F4.Pf EO fV fun v5 s5 m6 F5=>?_;refine iU F5.leave fun D5 W5 hs5 hv5=>?_;exact oE hv5 (q s5 D5 ⟨m6.gens.trans (m5.gens.trans (m3.gens.trans m2.gens)),m6.os.trans (m5.os.trans (m3.os.trans m2.os))⟩ W5 hs5)
theorem QC (T:bL mg mb G) {r:Int} (ho:G.get? fa=some o) (hd:o.data=.func fd) (P:bJ prog w G (n + 1) (.ref fa) [.dat d1,.dat d2] (.dat (.int r))):
  ny prog w G (n + 3) (dw .Lt) (uD w (.ref fa) cv d1) (uD w (.ref fa) cv d2) (.dat (.bool (decide (r < 0)))):=.mk fun A E Q Φ D v1 v2 s a W h1 h2 q=>
 BG (R:=fun v1 v2=>ak (aq prog w) A (dw .Lt v1 v2) Q E s) T ho hd P a W h1 h2 fun K x y C g o1 o2 KX I I2 l f c=>QB (K:=K) (JP a) KX I I2.type l f (c _ fun s' D' sm W hs=>q _ s' D' sm W hs (.bool _))
end
end
section
open PySem.Builtin
section
variable {d d1 d2:Dat}
theorem TV (T:bL mg mb G) {r:Int} (ho:G.get? fa=some o) (hd:o.data=.func fd) (P:bJ prog w G (n + 1) (.ref fa) [.dat d1,.dat d2] (.dat (.int r))):
  HT prog w G (n + 3) (uN sy) (uD w (.ref fa) cv d1) (uD w (.ref fa) cv d2) (decide (r < 0)):=.mk fun A E Q Φ D v1 v2 s a W h1 h2 q=>
 BG (R:=fun v1 v2=>ak (aq prog w) A (uN sy v1 v2) Q E s) T ho hd P a W h1 h2 fun K x y C g o1 o2 KX I I2 l f c=>by
  rw [Vv,oneLt'_eq];exact Ib rfl (ae (Ct (JP a) (ae (ifBound_K KX I l f (c _ fun s' D' sm W hs=>nN (q s' D' sm W hs))))))
theorem QD (h2:2<=ds.length):j0 prog w G sy (ds.map fun d=>uD w f cv d):=.mk fun A E Q Φ D vs s W hv hq=>by
 have hl:=hv.length;rw [List.length_map] at hl;have each: ∀v∈vs,∃d,KI w f cv d D v:=fun v hm=>by
  obtain ⟨i,hi,rfl⟩:=List.getElem_of_mem hm;refine bQ (hv.at (i:=i) (d:=uD w f cv (ds[i]'(hl ▸ hi))) (by rw [List.getElem?_map,List.getElem?_eq_getElem (hl ▸ hi)]; rfl)) fun v' e q=>?_;rw [List.getElem?_eq_getElem hi] at e;cases e;exact ⟨_,q⟩
 obtain ⟨kc,rfl⟩: ∃kc,cv=.ref kc:=by
  refine ex (each vs[0] (List.getElem_mem (Nat.lt_of_lt_of_le Nat.zero_lt_two (hl.symm ▸ h2)))) fun d q=>?_;obtain ⟨x,dx,kc,u,_,e,_⟩:=q;exact ⟨kc,e⟩
 refine kas_kind (T:=.ref kc) (hl.symm ▸ h2) (fun v hm=>?_) rfl (by simp) hq;refine ex (each v hm) fun d q=>?_;obtain ⟨x,dx,kc',u,rfl,e,m1,_⟩:=q;cases e;exact (cT (W.pin _ (mL m1)).1).andThen .now
end
end
section
open PySem.Builtin
section
variable {d:lH} {t:Nat} {os:gq}
theorem TX {oc:ai} {od:Option Addr} {cd:gQ} {sl:Array (Option ai)} (hC:h.get? C=some ⟨oc,od,.cls cd,sl⟩) (e1:cd.abstract=false) (e2:cd.hasDel=false) (base:bk (aq prog w) h (u7 (.ref C)) (.type "object")) (typ:bk (aq prog w) h (isInstance (.ref C) (.type "type")) true) (call:bk (aq prog w) h (eV (.ref C) (.type "object")) true) (hq:R (.ok (.ret (.ref (h.objs.size + 1)))) ⟨(h.push cM).push (cL C h.objs.size),g,d,t,os⟩):
  eO (aq prog w) A (.call (.builtin "object.__new__") ⟨[.ref C],[]⟩) R ⟨h,g,d,t,os⟩:=by
 have F:=PySem.F.objNew;refine codeAny_call_builtin_code (eK _ F.quiet) ?_;simp only [dY,F.kind,F.split,F.row];have here:bk (aq prog w) h (Bind.madeHere "object.__new__" (.ref C)) ():=base.andThen (aU (by rw [j3]; rfl));have mo:bk (aq prog w) h (jX (.type "object")) (some "object.__new__"):=aU j3;have args:xx "object.__new__" ⟨.hand,"object.__new__","__new__",.cls,[]⟩ ⟨[.ref C],[]⟩=pure ():=by kernel_rfl
 rw [args]
 repeat (first | with_reducible refine kG (by first | rw [bne_self_eq_false]; decide | decide) ?_ | with_reducible refine Ib (by decide) ?_ | lk)
 refine bB F.entry ?_;unfold Builtin.«object.__new__»;have fin: ∀A',ak (aq prog w) A' (do
   let d <- if typeHasDict (.ref C) then some <$> alloc { cls:=.type "dict",data:=.dict #[] } else pure none
   ret (<- newObj (.ref C) .plain d)) (fun fin s'=>match fin with | .done f=>R (.ok f) s' | .again c'=>c'.quiet=true/\eO (aq prog w) A c' R s') (fun e s'=>R (.error e) s') ⟨h,g,d,t,os⟩:=by
  intro A';refine (?_:ak _ _ ((alloc cM >>= fun x=>pure (some x)) >>= _) _ _ _);refine ae (ae (Lg (ah (ae ?_))));refine (?_:ak _ _ (newObjAsIs _ _ _) _ _ _);unfold newObjAsIs classHasDel;refine ae (Lg (ae (ae (gC (av _ (av _ hC)) (ah ?_)))));rw [e2];refine ah (ah ?_);refine (?_:R _ _);rw [bG];exact hq
 repeat (first | exact fin _ | with_reducible refine kG (by first | (rw [e1]; decide) | decide) ?_ | lk)
end
end
section
open PySem.Builtin
theorem JQ {a b:Int}:ny prog w G n (dw .GtE) (.dat (.int a)) (.dat (.int b)) (.dat (.bool (decide (b<=a)))):=.dat fun A E Q Φ D v1 v2 s a W h1 h2 h=>by
 refine iE h1 fun _=>iE h2 fun _=>?_;exact ge_int (h _ _ ⟨rfl,rfl⟩ rfl (.bool _))
theorem GR {i:Int}:ny prog w G n (dw .Is) (.dat (.int i)) (.dat .none) (.dat (.bool false)):=.dat fun A E Q Φ D v1 v2 s a W h1 h2 h=>by
 refine iE h1 fun _=>nE h2 (?_);exact VD rfl (h _ _ ⟨rfl,rfl⟩ rfl (.bool false))
theorem DO:ny prog w G n (dw .Is) (.dat (.bytes b)) (.dat .none) (.dat (.bool false)):=.dat fun A E Q Φ D v1 v2 s a W h1 h2 h=>by
 refine yE h1 fun _=>nE h2 (?_);exact VD rfl (h _ _ ⟨rfl,rfl⟩ rfl (.bool false))
theorem xX:ny prog w G n (dw .IsNot) (.dat (.bytes b)) (.dat .none) (.dat (.bool true)):=.dat fun A E Q Φ D v1 v2 s a W h1 h2 h=>by
 refine yE h1 fun _=>nE h2 (?_);exact wpAny_isNot_plain rfl (h _ _ ⟨rfl,rfl⟩ rfl (.bool true))
theorem z6 {m0:Addr}:ny prog w G n (dw .IsNot) (.val (.ref m0)) (.val (.ref m0)) (.dat (.bool false)):=.mk fun A E Q Φ D v1 v2 s a W h1 h2 h=>by
 obtain rfl:v1=.ref m0:=h1;obtain rfl:v2=.ref m0:=h2;exact wpAny_isNot_ref_self (h _ _ D (Sm.refl s) W (fun _ h=>h) (.bool _))
theorem rW {T:String}:ny prog w G n (dw .IsNot) (.val (.type T)) (.val (.type T)) (.dat (.bool false)):=.mk fun A E Q Φ D v1 v2 s a W h1 h2 h=>by
 obtain rfl:v1=.type T:=h1;obtain rfl:v2=.type T:=h2;exact wpAny_isNot_self rfl (h _ _ D (Sm.refl s) W (fun _ h=>h) (.bool _))
theorem z7 {i:Int}:bJ prog w G n (.type "type") [.dat (.int i)] (.val (.type "int")):=.nB fun A E Q Φ D v1 s a W q h=>by
 refine iE q fun _=>?_;exact Hz (typeIs_int _ _ _) (by decide) (h _ _ (Sm.refl s) rfl rfl)
theorem DP:bJ prog w G n (.type "type") [.dat (.bytes b)] (.val (.type "bytes")):=.nB fun A E Q Φ D v1 s a W q h=>by
 refine yE q fun _=>?_;exact Hz (show s.TypeIs _ "bytes" from rfl) (by decide) (h _ _ (Sm.refl s) rfl rfl)
theorem BH {i:Int}:bJ prog w G n (.type "int") [.dat (.int i)] (.dat (.int i)):=.nB fun A E Q Φ D v1 s a W q h=>by
 refine iE q fun _=>?_;exact call_int_int (h _ _ (Sm.refl s) rfl (.int _ _))
theorem Ev.bytes {b:List UInt8}:Ev prog w G n c ρ (.Constant (.bytes b) k pos) (.dat (.bytes b.toArray)):=.mk fun A E Q Φ τ s a F h=>
 aN (Q:=fun v s'=>∃t,v=.bytes b.toArray t/\s'={ s with toks:=s.toks + 1 }) (by
  refine (?_:ak _ _ (mkTextBytes b.toArray) _ _ _);exact ae (KY (ah ⟨_,rfl,rfl⟩))) (fun v s' q=>by
  refine bQ q ?_; clear q; rintro t rfl rfl;exact h _ _ ⟨rfl,rfl⟩ (F.plus fun D=>.bytes _ t)) fun _ _ e=>e
theorem GS (T:bL mg mb G) (H:Prog mg G) (Hi:Fn mg G "_index" 27) {i:Int} (h0: -1000000<=i) (h1:i<=1000000):bJ prog w G (n + 1) (.ref (adr mg "_index")) [.dat (.int i),.dat (.str x)] (.dat (.int i)):=by
 refine bJ.def (xs:=["n","what"]) T Hi.at' (fun pm cd doc vs h=>?_) rfl rfl (by decide +kernel) ?_
 ·exact ur h fun _ _=>rfl
 intro Lo cd K;refine Ex.cons (Xs.Ay (Et.and (b:=false) (d:=false) (Et.cmp (Ev.kH (Ev.bi T H K rfl (by decide +kernel)) (.one (Ev.name K rfl)) z7) (Ev.bi T H K rfl (by decide +kernel)) rW gR.bool) (fun h=>nomatch h)) Ex.nil) ?_;refine Ex.cons (Xs.assign K (.inl rfl) (d:=.dat (.int i)) (Ev.kH (Ev.bi T H K rfl (by decide +kernel)) (.one (Ev.name K rfl)) BH)) ?_;refine Ex.cons (Xs.Ay (Et.is (Et.or (b:=decide (1099511627776 < i)) (d:=decide (i < -1099511627776)) (Et.cmp (Ev.name K rfl) Ev.int AP gR.bool) (fun _=>Et.cmp (Ev.name K rfl) (Ev.neg Ev.int) EO gR.bool)) ?_) Ex.nil) ?_
 ·rw [decide_eq_false (dJ.mpr (d9 h1 (by decide))),decide_eq_false (dJ.mpr (d9 (by decide) h0))]; rfl
 exact Ex.stop (Xs.ret (Ev.name K rfl))
end
section
open PySem.Builtin
noncomputable def clsAt (i:Nat):List Stmt:=dh i
noncomputable def wD (i j:Nat):List Stmt:=(rG (clsAt i)[j]?).2.1
noncomputable def oU (i j:Nat):gK:=(rG (clsAt i)[j]?).1
noncomputable def cU (i j:Nat):iK:=(rG (clsAt i)[j]?).2.2.1
@[irreducible] noncomputable def JR (G:Heap) (f:Addr) (qual:Str) (i j:Nat) (dV:ai):Prop:=
 ∃o fd,G.get? f=some o/\o.data=.func fd/\fd.body=.stmts (wD i j)/\fd.scope=cU i j/\fd.globals=aO/\fd.closure=[]/\fd.qualname=qual/\fd.params=oU i j/\fd.defaults=dV/\fd.kwdefaults=.none/\fd.builtins=cu/\G.CodeRec fd.code qual
theorem JR.mk {f:Addr} (h: ∃o fd,G.get? f=some o/\o.data=.func fd/\fd.body=.stmts (wD i j)/\fd.scope=cU i j/\fd.globals=aO/\fd.closure=[]/\fd.qualname=qual/\fd.params=oU i j/\fd.defaults=dV/\fd.kwdefaults=.none/\fd.builtins=cu/\G.CodeRec fd.code qual):JR G f qual i j dV:=by with_unfolding_all exact h
theorem JR.go {f:Addr} (h:JR G f qual i j dV): ∃o fd,G.get? f=some o/\o.data=.func fd/\fd.body=.stmts (wD i j)/\fd.scope=cU i j/\fd.globals=aO/\fd.closure=[]/\fd.qualname=qual/\fd.params=oU i j/\fd.defaults=dV/\fd.kwdefaults=.none/\fd.builtins=cu/\G.CodeRec fd.code qual:=by with_unfolding_all exact h
structure lU (prog:br) (w:bR) (G:Heap) (mg:Str->Option ai) (K:Frag) (C sm fN fI fC fR tI tR:Addr):Prop where
 X:K.In G
 name:mg "BytesIO"=some (.ref C)
 TY:mg "object"=none
 wall:mg "StringIO" ≠none
 idx:Fn mg G "_index" 27
 hC: ∃oc od cd sl,G.get? C=some ⟨oc,od,.cls cd,sl⟩/\cd.abstract=false/\cd.hasDel=false/\cd.mro.isEmpty=false
 made:bk (aq prog w) G (jX (.ref C)) none
 base:bk (aq prog w) G (u7 (.ref C)) (.type "object")
 calls:iJ K (.ref C) "__call__"=some (some (.builtin "type.__call__"))
 typ:VB K (.ref C) (.type "type")=some true
 X8:mroIn K C (.type "object")=some true
 self:mroIn K C (.ref C)=some true
 tyC:jR K (.ref C)=some (.type "type")
 reads:readsIn K C (.type "type")=true
 X9:findCls K (.ref C) (.type "type") "__new__"=some (.get (.builtin "staticmethod.__get__") (.ref sm) .none (.ref C))
 Yb: ∃rest,Lf K sm "staticmethod"=some (.ref fN::rest)
 TZ:ye K (.ref C)=true
 keepR:ye K (.ref fR)=true
 T3:ye K (.ref fC)=true
 init:fZ K (.ref C) "__init__"=some (some (.ref fI))
 tyI:jR K (.ref fI)=some (.type "function")
 setattr:fZ K (.ref C) "__setattr__"=some (some (.builtin "object.__setattr__"))
 plain:FH K C=true
 Ua:xo K C "_BytesIO__buf"=some none
 OF:xo K C "_BytesIO__pos"=some none
 Ub:hasDictIn K C=true
 pg:Cy K C ""=true
 Yc:fZ K (.ref C) "_BytesIO__buf"=some none
 Yd:fZ K (.ref C) "_BytesIO__pos"=some none
 Uc:fZ K (.ref C) "read"=some (some (.ref fR))
 tyR:jR K (.ref fR)=some (.type "function")
 Ye:fZ K (.ref C) "_BytesIO__check"=some (some (.ref fC))
 tyK:jR K (.ref fC)=some (.type "function")
 mN:JR G fN "IOBase.__new__" 29 1 .none
 mI:JR G fI "BytesIO.__init__" 32 1 (.ref tI)
 mC:JR G fC "BytesIO.__check" 32 2 .none
 mR:JR G fR "BytesIO.read" 32 20 (.ref tR)
 dI: ∃o n,G.get? tI=some o/\o.data=.seq #[.none] n
 dR: ∃o t n,G.get? tR=some o/\o.data=.seq #[.int (-1) t] n
theorem Upd.of {d:Addr} {post:Led}: ∀{pre:Led},(∀p∈pre,p.1≠d)->(∀p∈post,p.1≠d)->Upd d o o' (pre++(d,o)::post) (pre++(d,o')::post)
 | [],_,h=>.head h
 | p::pre,h1,h2=>.tail (h1 p (.head _)) (Upd.of (fun q hq=>h1 q (.tail _ hq)) h2)
section
variable {K:Frag} {sm fN fI fC fR:Addr}
theorem z8 {x:Addr} {es:List dz} (F:FS G c ⟨F1,fl⟩ ρ τ h) (hx:(x,cL C dx)∈F1) (hd:(dx,cy es k)∈F1):InstAt h x (cL C dx) C (some (cy es k)):=
 ⟨F.get hx,rfl,rfl,F.get hd⟩
theorem OG {x:Addr} {es:List dz} {name:Str} {e:Bool} (B:lU prog w G mg K C sm fN fI fC fR tI tR) (F:FS G c ⟨F1,fl⟩ ρ τ s.heap) (hx:(x,cL C dx)∈F1) (hd:(dx,cy es k)∈F1) (hf:fZ K (.ref C) name=some none) (hl:getL name es=some (some v)) (hv:VC v=true) (h:Q v { s with toks:=s.toks + 1 }):ak (aq prog w) A (sR (.ref x) name e) Q E s:=
 get_value (B.X.keeps F.top) (z8 F hx hd) (kU B.pg).1 (findObj_own B.Ub hf rfl hl) hv h
theorem JS {x:Addr} {es:List dz} {name:Str} {Q:Unit->aj->Prop} (B:lU prog w G mg K C sm fN fI fC fR tI tR) (F:FS G c ⟨(dx,cy es k)::F1,fl⟩ ρ τ s.heap) (hx:(x,cL C dx)∈F1) (qy: ∀p∈c.free,p∈F1) (hc: ∀q∈F1,q.1≠dx) (hf:xo K C name=some none) (hl:(getL name es).isSome=true) (hz:(putL name (dP w.params name) (.str name (s.toks + 1)) v es).length<=1000) (h: ∀t s',Sm s s'->FS G c ⟨(dx,cy (putL name (dP w.params name) (.str name t) v es) (putN name es k))::F1,fl⟩ ρ τ s'.heap->Q () s'):ak (aq prog w) A (setAttr (.ref x) name v) Q E s:=by
 have I:=z8 F (.tail _ hx) (.head _);refine d8 F fun D C0 m X=>?_; clear F;have e1:D++(C0.led++(dx,cy es k)::F1)=(D++C0.led)++(dx,cy es k)::F1:=by rw [List.append_assoc]
 have N:=X.nw;have U:=Upd.of (o:=cy es k) (o':=cy (putL name (dP w.params name) (.str name (s.toks + 1)) v es) (putN name es k)) (pre:=D++C0.led) (post:=F1) (d:=dx) (fun p hp=>by
  refine cE hp (fun hp=>?_) (fun hp=>?_)
  ·exact X.ap p hp (dx,cy es k) (mR ((.head _)))
  ·refine l8 hp fun y hy=>?_;exact X.cp y hy (dx,cy es k) (.head _)) hc
 rw [<- List.append_assoc] at N;refine set_dict X.fr B.X N I rfl B.setattr B.plain hf B.Ub hl rfl U hz fun h' Fr' N'=>h (s.toks + 1) _ ⟨rfl,rfl⟩ ⟨D,C0,m,⟨Fr',?_,fun p hp q hq=>?_,X.cn,X.cd,X.ca,fun y hy q hq=>?_,X.ck,fun p hp=>.tail _ (qy p hp),X.fl,X.vr,X.tm⟩⟩
 ·rw [<- List.append_assoc]; exact N'
 ·exact cE hq (fun hq=>X.ap p hp q (mL hq)) fun hq=>bU hq (X.ap p hp (dx,cy es k) (mR ((.head _)))) fun hq=>X.ap p hp q (mR ((.tail _ hq)))
 ·exact bU hq (X.cp y hy (dx,cy es k) (.head _)) fun hq=>X.cp y hy q (.tail _ hq)
theorem JT {attr:Str} {p1 p2:Pos} {x:Addr} (hn:Ev prog w G n c ρ (.Name y p1) (.val (.ref x))) (a:cQ n A) (F:FS G c Φ ρ τ s.heap) (h: ∀s1,Sm s s1->FS G c Φ ρ τ s1.heap->ak (aq prog w) A (sR (.ref x) attr true) Q E s1):ak (aq prog w) A (eval (.Attribute (.Name y p1) attr p2) c.env) Q E s:=by
 rw [NZ];refine (?_:ak _ _ (eval (.Name y p1) c.env >>= _) _ _ _);refine ae (hn.pX A E _ Φ τ s a F fun s3 m3 F3=>?_);refine ae (bO ?_);refine ae (aB (aN (h s3 m3 F3.pop) (fun r s4 hr=>?_) fun _ _ z=>z));refine (?_:ak _ _ (pure () >>= fun _=>pure r) _ _ _);exact ae (ah (ah hr))
theorem z9 {Φ:Led} {f:Addr} {ds:List Sv} (T:bL mg mb G) (hA:cQ (n + 1) A) (dM:au G Φ D₀ s₀.heap) (M:JR G f qual i j dV) (ie: ∀fd:KW,fd.params=oU i j->fd.defaults=dV->fd.kwdefaults=.none->∀(E':ai->aj->Prop) (Q':List (Str × ai)->aj->Prop),(∀xB s' D',Sm s₀ s'->au G Φ D' s'.heap->(∀p∈D₀,p∈D')->bP D' xB ds->Q' (xs.zip xB) s')->ak (aq prog w) A.in1 (gw fd ⟨us,[]⟩) Q' E' s₀) (hlen:xs.length=ds.length) (hk:(xs.all fun x=>(cU i j).names.lookup x == some .local || (cU i j).names.lookup x == some .cell)=true) (gW:(ownOf (cU i j)).Nodup) (Jj: ∀(L:Addr) (cd:ai) (D:Led),(∀p∈D₀,p∈D)->fM (envOfC qual (cU i j) L f cd)->∀s,Sm s₀ s->cQ n (A.deeper (envOfC qual (cU i j) L f cd))->FS G ⟨envOfC qual (cU i j) L f cd,ownOf (cU i j),[]⟩ ⟨Φ,D⟩ (eu (xs.zip ds) fun _=>none) [] s.heap->
   ak (aq prog w) (A.deeper (envOfC qual (cU i j) L f cd)) (ik (wD i j) (envOfC qual (cU i j) L f cd)) (fun f s'=>Q (match f with | .ret v=>v | _=>.none) s')
    (fun e s'=>ak (aq prog w) (A.deeper (envOfC qual (cU i j) L f cd)) (nO (envOfC qual (cU i j) L f cd) e) (fun _ mU=>E e mU) (fun e' mU=>E e' mU) s') s) (vy:(cU i j).isCoroutine=false:=by rfl) (kI:(cU i j).isGenerator=false:=by rfl) (uw:(cU i j).kind=.function:=by rfl):ak (aq prog w) A (call (.ref f) us) Q E s₀:=by
 refine gG M.go fun o fd ho hd e1 e2 e3 e4 e5 k_=>?_; refine rj k_ fun e6 e7 e8 e9 sI=>?_;exact zP T hA dM (dM.keep _ _ ho) hd e1 e2 e3 e4 e5 rfl e9 (sI.keeps dM.keep) (fun E' Q'=>ie fd e6 e7 e8 E' Q') hlen hk gW (fun L D hs=>Jj L fd.code D hs) vy kI uw
end
end
section
open PySem.Builtin
open Sem (wp)
noncomputable def wF:List String:="bytearray.__contains__" :: "bytearray.__mod__" :: "bytearray.__rmod__" :: "_struct.pack_into.held" :: "bytearray.find.held" ::Bytes.decodersThatHold
noncomputable def JU:Code->Bool
 | .builtin i _=>wF.contains i
 | _=>false
noncomputable def JV (Γ:zf):Prop:=∀x∈Γ.below,JU x.1=false
noncomputable def Sane (Γ:zf):Prop:=JU Γ.code=false/\JV Γ
noncomputable def wpS {α:Type} (M:o9) (A:aM) (t:Sem α) (Q:α->aj->Prop) (E:ai->aj->Prop) (s:aj):Prop:=
 ∀Γ p,Γ.In A->Sane Γ->wp M Γ t (fun a _ s'=>Q a s') (fun e _ s'=>E e s') p s
noncomputable def codeS (M:o9) (A:aM) (c:Code) (R:qc->aj->Prop) (s:aj):Prop:=
 ∀Γ p,Γ.code=c->Γ.Below A->JV Γ->wpCode M Γ R p s
section
variable {α β:Type}
theorem jb {t:Sem α} {Q:α->aj->Prop} (h:ak M A t Q E s):wpS M A t Q E s:=fun Γ p ua _=>h Γ p ua
theorem wpS_mono {t:Sem α} {Q Q':α->aj->Prop} {E':ai->aj->Prop} (h:wpS M A t Q E s) (hQ: ∀a s,Q a s->Q' a s) (hE: ∀e s,E e s->E' e s):wpS M A t Q' E' s:=
 fun Γ p ua hS=>iS M Γ t (fun a _ s=>hQ a s) (fun e _ s=>hE e s) p s (h Γ p ua hS)
theorem wpS_bind {m:Sem α} {f:α->Sem β} {Q:β->aj->Prop} (h:wpS M A m (fun a s'=>wpS M A (f a) Q E s') E s):wpS M A (m >>= f) Q E s:=fun Γ p ua hS=>by
 rw [Cz];exact iS M Γ m (fun a p' s' h'=>h' Γ p' ua hS) (fun _ _ _ h'=>h') p s (h Γ p ua hS)
theorem bq {m:Sem α} {f:α->Sem β} {Q:β->aj->Prop} (h:ak M A m (fun a s'=>wpS M A (f a) Q E s') E s):wpS M A (m >>= f) Q E s:=wpS_bind (jb h)
theorem wpS_pure {a:α} {Q:α->aj->Prop} (h:Q a s):wpS M A (pure a) Q E s:=jb (ah h)
theorem gI {m:Sem α} {Q:α->aj->Prop} (h:wpS M A m Q E s):wpS M A (w9 vs m) Q E s:=fun Γ p ua hS=>by rw [N1]; exact h Γ p ua hS
theorem BI {m:Sem α} {k:ai->Sem Unit} {Q:α->aj->Prop} (h:wpS M A m Q (fun e s'=>ak M A (k e) (fun _ mU=>E e mU) E s') s):wpS M A (m.onRaise k) Q E s:=fun Γ p ua hS=>by
 rw [Sem.wp_onRaise];exact iS M Γ m (fun _ _ _ h'=>h') (fun e p' s' h'=>h' Γ p' ua) p s (h Γ p ua hS)
theorem BJ {Γ:zf} {c:Code} {hd:Option ai} {p:Pos} (h:Sane Γ):JV (Γ.enter c hd p):=fun x hx=>by
 exact bU hx (h.1) fun hx=>h.2 x hx
theorem rX {pos:List ai} {kw:List (Str × ai)} (hc:codeS M A (.call f ⟨pos,kw⟩) (fun r s'=>match r with | .ok (.ret v)=>Q v s' | .ok _=>False | .error e=>E e s') s):wpS M A (call f pos kw) Q E s:=fun Γ p ua hS=>by
 refine (?_:wp M Γ (runValue _) _ _ p s);rw [Sem.wp_runValue];exact hc _ p rfl (ua.enter _ none p (by intro x; cases x)) (BJ hS)
theorem gy {c:Code} (hb:JU c=false) (h:wpS M (A.under c) (M.den c) (fun fin s'=>match fin with | .done f=>R (.ok f) s' | .again c'=>c'.quiet=true/\codeS M A c' R s') (fun e s'=>R (.error e) s') s):codeS M A c R s:=fun Γ p hc ua hS=>by
 rw [wpCode_iff_wp,hc];refine iS M Γ _ (fun fin p' s' h'=>?_) (fun _ _ _ h'=>h') p s (h Γ p (hc ▸ ua.in) ⟨hc ▸ hb,hS⟩);cases fin with
 | done f=>exact h'
 | again c'=>exact ⟨h'.1,h'.2 (Γ.goto c') p' rfl (ua.goto c') hS⟩
theorem ML {l:List (Code × Pos)} {f:Code × Pos->Bool} (h1: ∀x∈l,JU x.1=false) (h2: ∀x,f x=true->JU x.1=true):l.any f=false:=
 List.any_eq_false.mpr fun x hx e=>absurd (h2 x e) (by rw [h1 x hx]; exact aI)
theorem Aa {Q:Bool->aj->Prop} (h:Q false s):wpS M A (Lh v) Q E s:=fun Γ p ua hS=>by
 unfold Lh;refine (?_:Q (List.any ((Γ.code,p)::Γ.below) _) s);rw [ML (fun x hx=>bU hx hS.1 (hS.2 x)) fun x hx=>?_]
 ·exact h
 ·obtain ⟨c,q⟩:=x
  delta O6 at hx
  cases c with
  | builtin id args=>
   refine Bool.not_eq_false _ ▸ fun hb:wF.contains id=false=>?_;have n: ∀x∈wF,id≠x:=fun x hx e=>by
    rw [e,List.contains_iff_mem.mpr hx] at hb;cases hb
   replace hx:dite (id="bytearray.__contains__") _ _=true:=hx;rw [dif_neg (n _ (.head _)),dif_neg (n _ (.tail _ (.head _))),dif_neg (n _ (.tail _ (.tail _ (.head _)))),dif_neg (n _ (.tail _ (.tail _ (.tail _ (.head _))))),dif_neg (n _ (.tail _ (.tail _ (.tail _ (.tail _ (.head _))))))] at hx;obtain ⟨pos,kw⟩:=args;cases pos with
   | nil=>cases hx
   | cons v' tl=>
    exact n _ (.tail _ (.tail _ (.tail _ (.tail _ (.tail _ (List.contains_iff_mem.mp (cP.mp hx).2)))))) rfl
  | _=>exact absurd hx aI
end
end
section
open PySem.Builtin
open Sem (wp)
noncomputable abbrev MM:zf:=⟨.builtin "claim.caller" {},none,none,[],none⟩
theorem GU:Sane MM:=⟨by decide +kernel,nm⟩
theorem Ud {t:Sem gz} (Yg:s.asleep) (h:wpS (aq prog w) O7 t (fun fin s'=>∃f,fin=.done f/\(R (.ok f) s'/\qJ s'.gens=false)) (fun e s'=>R (.error e) s'/\qJ s'.gens=false) s):
  ∃n r s' mU,runN (denote kg) prog w n s ⟨t,.builtin "claim.caller" {},default,[]⟩=.halted (outcomeOf r) s'/\
   schedN (denote kg) prog w n (.single s ⟨t,.builtin "claim.caller" {},default,[]⟩)=.halted (outcomeOf r) s'/\s'.forget=mU.forget/\R r mU:=by
 have h0:=iS (aq prog w) MM t (post':=Sem.finPost (aq prog w) MM fun r s'=>R r s'/\qJ s'.gens=false) (exc':=fun e _ s'=>R (.error e) s'/\qJ s'.gens=false) (fun fin p' s' h'=>by
  refine bQ h' ?_; clear h'; rintro f rfl hf;exact hf) (fun _ _ _ h'=>h') default s (h MM default caller_in GU)
 refine jI (wp_halts_full (M:=aq prog w) (R:=R) Yg h0) fun n r bI cF hs hn V4 hR=>?_;exact ⟨n,r,cF,bI,hn,hs,V4,hR⟩
theorem QE {c:ClaimW} {tree:List ai->Sem gz} {free:Addr->Prop} {gens:Prop} {kept:Heap->Prop} (hz:s.asleep) (JW:s.gens= #[]) (Ue: ∀args,c.pre args=true->HH args=true->∀ord:List dz->List dz,(∀l,(ord l).Perm l)->
   ∃vs bI,layAllW c.records (O8 s.heap) w.params ord args s=some (vs,bI)/\
    wpS (aq c.prog w) O7 (tree vs) (fun fin s'=>∃f,fin=.done f/\(c.Ends s args vs bI (.ok f) s'/\s'.os=s.os/\AllBare s'.gens/\kept s'.heap))
     (fun e s'=>c.Ends s args vs bI (.error e) s'/\s'.os=s.os/\AllBare s'.gens/\kept s'.heap) bI):
  c.CallFrom (fun vs=>⟨tree vs,.builtin "claim.caller" {},default,[]⟩) w free gens kept s:=fun args GV Gl ord zQ=>by
 refine nV (Ue args GV Gl ord zQ) fun vs bI uc jl=>?_;refine ve (layAllW_rest _ _ _ uc) fun _ _ e3 e4=>?_;have asleep:=Shared.asleep_of_life e4 hz;refine qM (Ud (R:=fun r s'=>c.Ends s args vs bI r s'/\s'.os=s.os/\kept s'.heap) asleep
  (wpS_mono jl (fun fin s' ⟨f,e,h1,h2,h3,h4⟩=>⟨f,e,⟨h1,h2,h4⟩,zg h3⟩) fun e s' ⟨h1,h2,h3,h4⟩=>⟨⟨h1,h2,h4⟩,zg h3⟩)) fun k r s' mU Yh QF V4 Ug Xp R1=>?_
 refine rj (Shared.forget_eq V4) fun eh _ _ eo _=>?_;have ends:=Ug.congr eh;have Uh:kept s'.heap:=by rw [eh]; exact R1
 have os':s'.os=s.os:=eo.trans Xp;have life:=(runN_life _ _ _ Yh).trans e4;refine ⟨vs,bI,uc,k,_,s',QF,?_,fun _ i x hx=>(by rw [JW] at hx; simp at hx),Uh,by rw [life],Shared.rest_eq os'⟩;cases ends with
 | inl z=>refine LH z ?_; clear z; rintro v rfl d1 d2 d3 d4 d5; exact .inl ⟨v,rfl,d1,d2,d3,fun b o y _=>d4 b o y,d5⟩
 | inr z=>refine yf z ?_; clear z; rintro e ob cls rfl d1 d2 d3 d4 d5; exact .inr ⟨e,ob,cls,rfl,d1,d2,d3,d4,fun b o y _=>d5 b o y⟩
noncomputable abbrev Ui (q:br) (loose:List Str) (XP:(Str->Option ai)->Heap->Prop) (YP:bR->Heap->Prop) (r:RowW) (d:DefRec) (Uj:List (Str × Expr)):Prop:=
 ∀(w:bR) (s₀ bI:aj) (mg mb:Str->Option ai),Ground q loose r.records XP w s₀ mg mb bI.heap->YP w bI.heap->∀(a:Addr) (o:Obj) (pm cd doc dV kV:ai),bI.heap.get? a=some o->
  o.data=.func { docDef d.name d.params d.body d.scope pm cd doc with defaults:=dV,kwdefaults:=kV }->bI.heap.CodeRec cd d.name->Dflts mg bI.heap d.params Uj dV kV->mg d.name=some (.ref a)->bI.gens= #[]->
  ∀(args:List O9) (vals:List ai) (as:List Addr),r.claim.pre args=true->HH args=true->ReadsAllW r.records (O8 s₀.heap) bI.heap vals args as->HJ w.params bI.heap vals args->(∀a∈as,(a == mH)=false)->
   wpS (aq r.prog w) O7 (RQ (.ref a) vals) (fun v s'=>VE r.claim (O8 s₀.heap) (H8 s₀.heap) args bI (.ok (.ret v)) s')
    (fun e s'=>VE r.claim (O8 s₀.heap) (H8 s₀.heap) args bI (.error e) s') bI
theorem Yi {r:OpenRow} {q:br} {loose:List Str} {Xt:aj->Bool} {XP:(Str->Option ai)->Heap->Prop} {α:Type} {Yf:aj->α} {Ya:bR->α} {YP:bR->Heap->Prop} {d:DefRec} {Uj:List (Str × Expr)} {N:Nat} (left:LeftO r.prog q loose Xt Yf Ya N) (hY: ∀w s,Yf s=Ya w->YP w s.heap) (hYk: ∀w h h',YP w h->(∀b o,h.get? b=some o->h'.get? b=some o)->YP w h') (hX: ∀s,Xt s=true->XP (s.heap.nsMap aO) s.heap) (hXk: ∀mg h h',XP mg h->(∀b o,h.get? b=some o->h'.get? b=some o)->XP mg h') (DQ:defOf q r.name=some (d,Uj)) (hp:r.prog.theDef r.name=some (d.params,d.body,d.scope)) (hk:kwWritten? d.params.kwonlyargs d.params.kw_defaults=some Uj) (hRf: ∀s,Xt s=true->RecFacts r.records s.heap) (hwr:(!r.writes || r.records.isEmpty)=true) (k1:r.wellSaid=true) (ok:(chainsOk q && opensWell r.prog && (frees r.toRowW && r.within.isEmpty))=true) (hb:r.prog.bare) (hw:r.toRowW.promised) (call:Ui q loose XP YP r.toRowW d Uj):r.Holds:=by
 refine ea (cP.mp ok) fun Tn Xg=>?_;refine ea (cP.mp Tn) fun Wf well=>?_;refine ea (cP.mp Xg) fun ok3 ok4=>?_;refine rj (frees_parts ok3) fun OH hu ha hap hm=>?_;have hwi:r.toRowW.claim.within=[]:=List.isEmpty_iff.mp ok4;have hi:=ident_freeW hu ha hap;have seen:=left.behind (XP:=fun mg h=>XP mg h/\RecFacts r.records h) (fun s hs=>⟨hX s hs,hRf s hs⟩) Wf;refine ⟨k1,hw,⟨hb,well,by refine (?_:r.toRowW.makers.map _=[]); rw [hm]; rfl⟩,hw.witness,fun w=>⟨(left.behind hX Wf w).1,fun s' CB=>?_⟩⟩;refine CL ((seen w).2 s' CB) fun s₀ hf hg0 s hT hz JW hg G1 y=>?_;have G0:Ground q loose [] XP w s (s.heap.nsMap aO) (s.heap.nsMap cu) s.heap:=⟨G1.T,G1.B,G1.D,G1.TE,G1.TD,G1.W,G1.X.1,G1.cls,G1.has,G1.apart,G1.once,G1.K⟩;have RF:=G1.X.2;have OI:s.gens= #[]:=Array.eq_empty_of_size_eq_zero (beq_iff_eq.mp JW);refine ⟨s₀,hf,hg0,s,hT,fun n hn=>?_,RF.1,RF.2.1,?_⟩
 ·obtain rfl:n=r.name:=by split at hn <;> simp_all
  exact pinned_of_view hg G0 DQ hp hk
 have G:Ground q loose r.records XP w s _ _ s.heap:=RF.ground G0;refine QE (c:=r.toRowW.claim) (tree:=fun vs=>do match <- nsGet mainNs r.name with
   | some f=>do ret (<- RQ f vs)
   | none=>sD "claim.caller:no-such-global") hz OI fun args GV Gl ord zQ=>?_
 refine ex (ia.mp (layAllW_isSome (P:=w.params) (ord:=ord) G.has args r.toRowW.args s (pre_splitW GV).1)) ?_; rintro ⟨vs,bI⟩ uc;have keeps:=layAllW_keeps _ _ _ uc;have rest:=layAllW_rest _ _ _ uc;refine iU (reads_layAllW zQ _ _ _ uc Gl bI.heap (fun _ _ e=>e)) fun as hrd jk hold=>?_;have L:PySem.W.Laid r.records w s bI args vs as:=⟨⟨ord,zQ,uc⟩,hrd,jk,hold,keeps,rest.1.trans OI,rest.2.2.1⟩;have QG:=G.keeps hXk keeps;refine d8 (QG.fn DQ) fun a o pm z=>jI z fun cd doc dV kV h1 h2 h3 z=>ea z fun h4 h5=>?_;have hn:=defOf_name DQ;have C:=call w s bI _ _ QG (hYk _ _ _ (hY w s y) keeps) a o pm cd doc dV kV h2 h3 h4 h5 (hn ▸ h1) L.gens args vs as GV Gl L.reads L.well (L.low G.low);refine ⟨vs,bI,uc,bq (sA QG.T.g ?_)⟩;rw [h1];refine wpS_bind (wpS_mono C (fun v s' g=>wpS_pure ⟨_,rfl,?_⟩) fun e s' g=>?_)
 ·have z:=g.laid (c:=r.toRowW.claim) OH hwi hi L;exact ⟨z.1,z.2.1,z.2.2,fun q=>⟨namesKept_of hT hg _ keeps g.2.1.old,noTable hwr q⟩⟩
 ·have z:=g.laid (c:=r.toRowW.claim) OH hwi hi L;exact ⟨z.1,z.2.1,z.2.2,fun q=>⟨namesKept_of hT hg _ keeps g.2.1.old,noTable hwr q⟩⟩
end
section
open PySem.Builtin
open Sem (wp)
section
variable {α β:Type}
theorem JX {m:Sem α} {Q:α->aj->Prop} (h:wpS M A m Q E s):wpS M A (m.keep vs) Q E s:=fun Γ p ua hS=>by rw [Sem.wp_keep]; exact h Γ p ua hS
theorem MN {c:Prop} [Decidable c] {a b:Sem α} {Q:α->aj->Prop} (e:c) (h:wpS M A a Q E s):wpS M A (if c then a else b) Q E s:=by rw [if_pos e]; exact h
theorem MO {c:Prop} [Decidable c] {a b:Sem α} {Q:α->aj->Prop} (e: ¬c) (h:wpS M A b Q E s):wpS M A (if c then a else b) Q E s:=by rw [if_neg e]; exact h
theorem ng {first:List ai} {trees:List (Bool × Sem ai)} (dQ:trees.any (·.1)=false) (h:ak M A (evalArgs f true trees []) (fun a bI=>(∃k,(k=zh\/k=vd)/\bk M bI.heap (VF f) k)/\wpS M A (call f (first++a.pos) a.kw) Q E bI) E s):wpS M A (eF pos f first trees []) Q E s:=by
 unfold eF;refine wpS_bind (gI (wpS_mono (jb h) (fun a bI cZ=>bq (bO ?_)) fun _ _ x=>x));refine ea cZ ?_; clear cZ; rintro ⟨k,hk,L⟩ hc;have OJ:(trees.any (·.1) || ([]:List (Option Str × Sem ai)).any (·.1.isNone))=false:=by rw [dQ]; rfl
 rw [OJ];refine bq (L.here ?_);have tail: ∀{t:Sem ai},wpS M A t Q E bI->wpS M A (t >>= fun r=>w9 [r] point >>= fun _=>pure r) Q E bI:=
  fun ht=>wpS_bind (wpS_mono ht (fun r cF hr=>bq (aB (nQ (wpS_pure hr)))) fun _ _ x=>x)
 rcases hk with rfl | rfl
 ·by_cases hl:trees.length + 2 * ([]:List (Option Str × Sem ai)).length > 30
  ·exact MN hl (tail hc)
  ·exact MO hl (tail (by unfold callMarked; exact JX hc))
 ·exact tail hc
theorem wG {func:Expr} {args:List Expr} (h:ak M A (eval func env) (fun f bI=>wpS M A (eF pos f [] (cI pos (aC args env)) []) Q E bI) E s) (he:eval (.Call func args [] pos) env=(do eF pos (<- eval func env) [] (cI pos (aC args env)) (eG pos (bX [] env))):=by rfl):wpS M A (eval (.Call func args [] pos) env) Q E s:=by
 rw [he]; exact bq h
theorem wH {st:Stmt} {rest:List Stmt} {Q:Flow->aj->Prop} (h:wpS M A (exec st env) (fun f s'=>match f with | .next=>wpS M A (ik rest env) Q E s' | f=>Q f s') E s):wpS M A (ik (st::rest) env) Q E s:=by
 rw [execs_cons];refine wpS_bind (wpS_mono h (fun f s' h'=>?_) fun _ _ x=>x);cases f <;> first | exact h' | exact wpS_pure h'
noncomputable def Yj (M:o9) (A:aM) (rest:List Stmt) (env:Env) (Q:Flow->aj->Prop) (E:ai->aj->Prop):Flow->aj->Prop:=fun f s=>match f with | .next=>wpS M A (ik rest env) Q E s | f=>Q f s
theorem nh {st:Stmt} {rest:List Stmt} {Q:Flow->aj->Prop} (h:wpS M A (exec st env) (Yj M A rest env Q E) E s):wpS M A (ik (st::rest) env) Q E s:=wH h
theorem uE {pos':Pos} {Q:Flow->aj->Prop} (h:wpS M A (eval value env) (fun v bI=>ak M A (l6 env x v) (fun _=>Q .next) E bI) E s) (hs:ya value (some (.Name x pos')) pos.line env=pure false:=by rfl):wpS M A (exec (.Assign [.Name x pos'] value pos) env) Q E s:=fun Γ p ua hS=>by
 simp only [exec_Assign_Name env x pos' value pos hs,Cz,HK,Sem.wp_bindName,RS];exact iS M Γ _ (fun v _ bI cZ=>cZ Γ _ ua) (fun _ _ _ h'=>h') _ _ (h Γ _ ua hS)
theorem oV {o:Expr} {attr:Str} {pos':Pos} {Q:Flow->aj->Prop} (h:wpS M A (eval value env) (fun v bI=>ak M A (eval o env) (fun ov cF=>ak M A (setAttr ov attr v) (fun _=>Q .next) E cF) E bI) E s) (hs:ya value (some (.Attribute o attr pos')) pos.line env=pure false:=by rfl):wpS M A (exec (.Assign [.Attribute o attr pos'] value pos) env) Q E s:=fun Γ p ua hS=>by
 simp only [plainObj_exec_Assign_Attribute o attr pos' value pos hs,assign_Attribute,Cz,N1,HK,Sem.wp_release,RS];exact iS M Γ _ (fun v Yk bI cZ=>iS M Γ _ (fun ov _ cF l9=>l9 Γ _ ua) (fun _ _ _ h'=>h') _ _ (cZ Γ Yk ua)) (fun _ _ _ h'=>h') _ _ (h Γ _ ua hS)
theorem tG {elts:List Expr} {kJ:Pos} {Q:Flow->aj->Prop} (h:wpS M A (eval value env) (fun v bI=>ak M A (sf (.Tuple elts k kJ) env v) (fun _=>Q .next) E bI) E s) (hs:n7 [.Tuple elts k kJ] value pos.line env=pure false:=by rfl) (hw:n8 [.Tuple elts k kJ] value env=pure none:=by rfl):wpS M A (exec (.Assign [.Tuple elts k kJ] value pos) env) Q E s:=by
 rw [exec_Assign];refine bq (bO ?_);rw [hs];refine bq (ah ?_);rw [if_neg (by decide)];refine wpS_bind (wpS_mono h (fun v bI cZ=>?_) fun _ _ x=>x);rw [hw];refine bq (ah ?_);refine (?_:wpS M A (do assignAll v [sf (.Tuple elts k kJ) env]; pure .next) Q E bI)
 exact bq (aN cZ (fun _ _ x=>wpS_pure x) fun _ _ x=>x)
theorem GW {test body orelse:Expr} (h:ak M A (isTrue test env (eval test env)) (fun c cF=>wpS M A (if c then eval body env else eval orelse env) Q E cF) E s):wpS M A (eval (.IfExp test body orelse pos) env) Q E s:=by
 rw [eval_IfExp];refine bq (aN h (fun c cF l9=>?_) fun _ _ x=>x);cases c <;> exact l9
end
theorem qa {args:Args} (Uk:A.depth < Ve) (ho:s.heap.get? a=some o) (uu:o.data=.func fd) (vy:fd.scope.isCoroutine=false) (kI:fd.scope.isGenerator=false) (Ul:fd.body=.stmts body) (sI:s.heap.CodeRec fd.code fd.qualname) (h:ak (aq prog w) A.in1 (gw fd args) (fun binds bI=>ak (aq prog w) A.in1 (mF fd.scope fd.globals fd.closure binds (fd.qualname++ ".<locals>.") (some a) fd.code none fd.builtins)
    (fun env cF=>cF.heap.NoLimit/\codeS (aq prog w) A (.func body env) R cF) (fun e s'=>R (.error e) s') bI) (fun e s'=>R (.error e) s') s):codeS (aq prog w) A (.call (.ref a) args) R s:=by
 refine gy rfl ?_;refine (?_:wpS _ A.in1 (AD (.ref a) args) _ _ s);refine bq (m:=load a) (gC ho ?_);refine jI sI fun c oc vs tq hc xO hdc hq=>?_; clear sI;rw [uu];refine (?_:wpS _ _ (callFunction a fd args) _ _ _);unfold callFunction;rw [hc] at h ⊢;rw [Ul,kI,vy];refine bq (m:=Vn (.ref c) 1) (fL xO hdc hq (bq (ah ?_)));exact bq (aN h (fun binds bI cZ=>bq (aN cZ (fun env cF l9=>bq (RM l9.1 Uk (wpS_pure (And.intro rfl l9.2)))) fun _ _ h'=>h')) fun _ _ h'=>h')
theorem DR (h:wpS (aq prog w) (A.deeper env) (ik body env) (fun f s'=>R (.ok (.ret (match f with | .ret v=>v | _=>.none))) s')
   (fun e s'=>ak (aq prog w) (A.deeper env) (nO env e) (fun _ mU=>R (.error e) mU) (fun e' mU=>R (.error e') mU) s') s):codeS (aq prog w) A (.func body env) R s:=by
 refine gy rfl ?_;refine (?_:wpS _ (A.deeper env) (do point; match <-(ik body env).onRaise (nO env) with | .ret v=>ret v | _=>ret .none) _ _ s)
 refine bq (nQ (wpS_bind (BI (wpS_mono h (fun f s' h'=>?_) fun _ _ h'=>h'))));cases f <;> exact wpS_pure h'
theorem qD {i:String} {args:Args} {b:Builtin} (hi:wF.contains i=false) (hb:fD kg i=some b) (h:wpS (aq prog w) (A.under (.builtin i args)) (b args) (fun fin s'=>match fin with | .done f=>R (.ok f) s' | .again c'=>c'.quiet=true/\codeS (aq prog w) A c' R s') (fun e s'=>R (.error e) s') s):codeS (aq prog w) A (.builtin i args) R s:=by
 refine gy hi ?_;refine (?_:wpS _ _ (match fD kg i with | some b=>b args | none=>sD ((withoutEnding? i "#data").getD i)) _ _ s)
 rw [hb]; exact h
theorem kO {i:String} {args:Args} {b:Builtin} (hi:wF.contains i=false) (hq:(Code.builtin i args).quiet=true) (hb:fD kg i=some b) (h:ak (aq prog w) A.in1 (dY i args) (fun _ bI=>wpS (aq prog w) (A.under (.builtin i args)) (b args) (fun fin s'=>match fin with | .done f=>R (.ok f) s' | .again c'=>c'.quiet=true/\codeS (aq prog w) A c' R s') (fun e s'=>R (.error e) s') bI)
   (fun e s'=>R (.error e) s') s):codeS (aq prog w) A (.call (.builtin i) args) R s:=by
 refine gy rfl ?_;refine (?_:wpS _ A.in1 (do dY i args; ze (.builtin i args)) _ _ s)
 exact bq (aN h (fun _ bI cZ=>wpS_pure (And.intro hq (qD hi hb cZ))) fun _ _ h'=>h')
end
section
open PySem.Builtin
theorem wI {Φ:Led} {name:Str} {ds:List Sv} (T:bL mg mb G) (hA:cQ (n + 1) A) (dM:au G Φ D₀ s₀.heap) (ho:s₀.heap.get? a=some o) (zq:o.data=.func fd) (e1:fd.body=.stmts body) (e2:fd.scope=scope) (e3:fd.globals=aO) (e4:fd.closure=[]) (e5:fd.qualname=name) (e6:fd.code=cd) (e7:fd.builtins=cu) (sI:s₀.heap.CodeRec cd name) (ie: ∀(E':ai->aj->Prop) (Q':List (Str × ai)->aj->Prop),(∀xB s' D',Sm s₀ s'->au G Φ D' s'.heap->(∀p∈D₀,p∈D')->bP D' xB ds->Q' (xs.zip xB) s')->ak (aq prog w) A.in1 (gw fd ⟨us,[]⟩) Q' E' s₀) (hlen:xs.length=ds.length) (hk:(xs.all fun x=>scope.names.lookup x == some .local || scope.names.lookup x == some .cell)=true) (gW:(ownOf scope).Nodup) (Jj: ∀(L:Addr) (D:Led),(∀p∈D₀,p∈D)->fM (envOfC name scope L a cd)->∀s,Sm s₀ s->cQ n (A.deeper (envOfC name scope L a cd))->FS G ⟨envOfC name scope L a cd,ownOf scope,[]⟩ ⟨Φ,D⟩ (eu (xs.zip ds) fun _=>none) [] s.heap->
   wpS (aq prog w) (A.deeper (envOfC name scope L a cd)) (ik body (envOfC name scope L a cd)) (fun f s'=>Q (match f with | .ret v=>v | _=>.none) s')
    (fun e s'=>ak (aq prog w) (A.deeper (envOfC name scope L a cd)) (nO (envOfC name scope L a cd) e) (fun _ mU=>E e mU) (fun e' mU=>E e' mU) s') s) (vy:scope.isCoroutine=false:=by rfl) (kI:scope.isGenerator=false:=by rfl) (uw:scope.kind=.function:=by rfl):wpS (aq prog w) A (call (.ref a) us) Q E s₀:=by
 subst e2 e5 e6;refine rX (qa hA.room ho zq vy kI e1 sI ?_);rw [e3,e4,e7];refine ie _ _ fun vs s D AN W AO hv=>?_;refine vv W hv hlen hk gW uw fun s1 SR kp K F=>⟨(T.nolimit.keeps W.keep).keeps kp,DR ?_⟩;exact Jj _ D AO K s1 (AN.trans SR) (hA.deeper _) F
theorem JY {Φ:Led} {f:Addr} {ds:List Sv} (T:bL mg mb G) (hA:cQ (n + 1) A) (dM:au G Φ D₀ s₀.heap) (M:JR G f qual i j dV) (ie: ∀fd:KW,fd.params=oU i j->fd.defaults=dV->fd.kwdefaults=.none->∀(E':ai->aj->Prop) (Q':List (Str × ai)->aj->Prop),(∀xB s' D',Sm s₀ s'->au G Φ D' s'.heap->(∀p∈D₀,p∈D')->bP D' xB ds->Q' (xs.zip xB) s')->ak (aq prog w) A.in1 (gw fd ⟨us,[]⟩) Q' E' s₀) (hlen:xs.length=ds.length) (hk:(xs.all fun x=>(cU i j).names.lookup x == some .local || (cU i j).names.lookup x == some .cell)=true) (gW:(ownOf (cU i j)).Nodup) (Jj: ∀(L:Addr) (cd:ai) (D:Led),(∀p∈D₀,p∈D)->fM (envOfC qual (cU i j) L f cd)->∀s,Sm s₀ s->cQ n (A.deeper (envOfC qual (cU i j) L f cd))->FS G ⟨envOfC qual (cU i j) L f cd,ownOf (cU i j),[]⟩ ⟨Φ,D⟩ (eu (xs.zip ds) fun _=>none) [] s.heap->
   wpS (aq prog w) (A.deeper (envOfC qual (cU i j) L f cd)) (ik (wD i j) (envOfC qual (cU i j) L f cd)) (fun f s'=>Q (match f with | .ret v=>v | _=>.none) s')
    (fun e s'=>ak (aq prog w) (A.deeper (envOfC qual (cU i j) L f cd)) (nO (envOfC qual (cU i j) L f cd) e) (fun _ mU=>E e mU) (fun e' mU=>E e' mU) s') s) (vy:(cU i j).isCoroutine=false:=by rfl) (kI:(cU i j).isGenerator=false:=by rfl) (uw:(cU i j).kind=.function:=by rfl):wpS (aq prog w) A (call (.ref f) us) Q E s₀:=by
 refine gG M.go fun o fd ho hd e1 e2 e3 e4 e5 k_=>?_; refine rj k_ fun e6 e7 e8 e9 sI=>?_;exact wI T hA dM (dM.keep _ _ ho) hd e1 e2 e3 e4 e5 rfl e9 (sI.keeps dM.keep) (fun E' Q'=>ie fd e6 e7 e8 E' Q') hlen hk gW (fun L D hs=>Jj L fd.code D hs) vy kI uw
section
variable {d:lH} {t:Nat} {os:gq}
theorem kj {α:Type} {c:Bool} {a b:Sem α} {Q:α->aj->Prop} (hc:c=false) (h:wpS M A b Q E s):wpS M A (if c=true then a else b) Q E s:=by
 rw [hc,if_neg aI]; exact h
theorem MP {rest:List ai} {init fN:ai} {oc:ai} {od:Option Addr} {cd:gQ} {sl:Array (Option ai)} (hC:h.get? C=some ⟨oc,od,.cls cd,sl⟩) (e4:cd.mro.isEmpty=false) (made:bk (aq prog w) h (jX (.ref C)) none) (calls:bk (aq prog w) h (gb (.ref C) "__call__") (some (.builtin "type.__call__"))) (typ:bk (aq prog w) h (isInstance (.ref C) (.type "type")) true) (GB: ∀(Q:ai->aj->Prop) (E:ai->aj->Prop),Q fN ⟨h,g,d,t + 1,os⟩->ak (aq prog w) (A.under (.builtin "type.__call__" ⟨.ref C::rest,[]⟩)) (sR (.ref C) "__new__") Q E ⟨h,g,d,t,os⟩) (hq:ak (aq prog w) (A.under (.builtin "type.__call__" ⟨.ref C::rest,[]⟩)) (call fN (.ref C::rest)) (fun v s2=>∃x,v=.ref x/\bk (aq prog w) s2.heap (isInstance (.ref x) (.ref C)) true/\bk (aq prog w) s2.heap (gb (.ref x) "__init__") (some init)/\bk (aq prog w) s2.heap (Le init (.ref x)) (init,[.ref x])/\
   wpS (aq prog w) (A.under (.builtin "type.__call__" ⟨.ref C::rest,[]⟩)) (call init (.ref x::rest)) (fun v s'=>v=.none/\R (.ok (.ret (.ref x))) s') (fun e s'=>R (.error e) s') s2) (fun e s'=>R (.error e) s') ⟨h,g,d,t + 1,os⟩):
  codeS (aq prog w) A (.call (.ref C) ⟨rest,[]⟩) R ⟨h,g,d,t,os⟩:=by
 refine gy rfl ?_;refine (?_:wpS _ _ (AD (.ref C) _) _ _ _);refine bq (m:=load C) (gC hC ?_);refine (?_:wpS _ _ (CI (.ref C) _) _ _ _);unfold CI;refine bq (calls.at ?_);dsimp only;rw [tc_bind];refine bq (ah (bq (ah ?_)));refine wpS_pure (a:=Fin.again (.call (.builtin "type.__call__") ⟨.ref C::rest,[]⟩)) (And.intro rfl ?_);refine kO (by decide +kernel) (eK _ (by decide +kernel)) entry_typeCall (NU tc_kind tc_split typ (tc_args _ _ _) ?_);unfold Builtin.«type.__call__»;have hm:bk (aq prog w) h (FF (.ref C)) cd.mro:=((cT (part:=none) hC).andThen .now).andThen .now;dsimp only;refine kj (by rfl) ?_;refine bq (hm.at ?_);refine kj e4 ?_;refine bq (made.at ?_);refine bq (GB _ _ ?_);refine wpS_bind (gI (wpS_mono (jb hq) (fun v s2 hx=>?_) fun _ _ x=>x));refine CK hx ?_; clear hx; rintro x rfl i1 i2 i3 hc;obtain ⟨h2,g2,d2,t2,os2⟩:=s2;refine bq (i1.at ?_);refine kj rfl ?_;refine wpS_bind (gI ?_);unfold xn;refine bq (i2.at ?_);dsimp only;refine gI ?_;refine bq (bk.at i3 ?_);refine wpS_bind (wpS_mono hc (fun v s' z=>?_) fun _ _ z=>z);refine ea z ?_; rintro rfl z;exact wpS_pure (wpS_pure z)
end
end
section
open PySem.Builtin
noncomputable abbrev dX (b:Array UInt8):Obj:={ cls:=.type "bytearray",data:=.bytearray b }
theorem QH:bj (.type "bytearray") "__release_buffer__"=pure (some (.builtin "bytearray.__release_buffer__")):=by rw [aF,ay]; kernel_rfl
theorem MQ:bj (.type "bytes") "__release_buffer__"=pure none:=by rw [aF,ay]; kernel_rfl
theorem DS:bj (.type "bytearray") "__buffer__"=pure (some (.builtin "bytearray.__buffer__")):=by rw [aF,ay]; kernel_rfl
theorem Ab:bj (.type "bytes") "__buffer__"=pure (some (.builtin "bytes.__buffer__")):=by rw [aF,ay]; kernel_rfl
theorem GX:bj (.type "bytes") "__index__"=pure none:=by rw [aF,ay]; kernel_rfl
theorem tH:eV (.type "bytearray") (.type "bytearray")=pure true:=by rw [bK]; kernel_rfl
theorem MR:eV (.type "bytes") (.type "bytes")=pure true:=by rw [bK]; kernel_rfl
theorem MS (v:ai):Bytes.bindOptional "bytearray.__init__" "bytearray" ["source","encoding","errors"] [v] []=pure [some v,none,none]:=by kernel_rfl
section
variable {b':Array UInt8} {t:Tok}
theorem Ac (ho:h.get? a=some (dX b)):bk M h (k6 (.ref a)) (.type "bytearray"):=(cT ho).andThen .now
theorem uZ (ho:h.get? a=some (dX b)) {n:Str} {r:Option ai} (e:bj (.type "bytearray") n=pure r):bk M h (gb (.ref a) n) r:=(Ac ho).andThen (aU e)
theorem oW {n:Str} {r:Option ai} (e:bj (.type "bytes") n=pure r):bk M h (gb (.bytes b t) n) r:=aU (by unfold gb; exact e)
theorem JZ (ho:h.get? a=some (dX b)) {n:String} {i:String} (e:bj (.type "bytearray") (n:Str)=pure (some (.builtin i))) (e1:i.endsWith ("." ++n)=true) (e2:i.dropRight (n.length + 1)="bytearray"):bk M h (nU (.ref a) n) true:=by
 unfold nU;refine (uZ ho e).andThen ?_;dsimp only;rw [e1,e2];refine (?_:bk M h (isInstance (.ref a) (.type "bytearray")) true);exact (Ac ho).andThen (aU tH)
theorem wJ (ho:h.get? a=some (dX b)):bk M h (HM (.ref a)) false:=(JZ ho (n:="__release_buffer__") QH (by decide +kernel) (by decide +kernel)).andThen .now
theorem BK:bk M h (HM (.bytes b t)) false:=by
 refine iA (a:=true) ?_ .now;unfold nU;exact (oW MQ).andThen .now
theorem DT {n:String}:bk M h (qK n (.bytes b t) true) (some b):=by
 unfold qK;refine (oW Ab).andThen ?_;dsimp only;refine iA (a:=true) ?_ ?_
 ·unfold nU;refine (oW Ab).andThen ?_;dsimp only;rw [show ("bytes.__buffer__".endsWith ("." ++ "__buffer__"))=true by decide +kernel,show "bytes.__buffer__".dropRight ("__buffer__".length + 1)="bytes" by decide +kernel];exact aU (by unfold isInstance; exact MR)
 ·rw [if_neg (by decide)];refine (oW Ab).andThen ?_;refine BK.andThen ?_;rw [if_neg (by decide)];exact aU rfl
end
section
variable {b':Array UInt8} {t:Tok}
theorem BL {f:Array UInt8->Array UInt8} {Q:Unit->aj->Prop} (ho:s.heap.get? a=some (dX b)) (hz:(f b).size<=bF) (h: ∀h',cz a s.heap h'->h'.get? a=some (dX (f b))->Q () { s with heap:=h' }):ak (aq prog w) A (Bytes.write (.ref a) f) Q E s:=by
 refine (?_:ak _ _ (SE a f) _ _ _);unfold SE;refine ae (gC ho ?_);refine (?_:ak _ _ (update a (uO f) >>= fun _=>lookBehind a) _ _ _);refine ae (wpAny_update ho ?_);have h2:(s.heap.update a (uO f)).get? a=some (dX (f b)):=bu (uO f) ho rfl;refine RO h2 ?_ (h _ (bH ..) h2);refine (?_:(if (f b).size > bF then some "bytearray:memory" else none)=none);rw [if_neg (Nat.not_lt_of_le ‹_›)]
theorem MT {Q:gz->aj->Prop} (ho:s.heap.get? a=some (dX b')) (hz:b.size<=bF) (h: ∀h',cz a s.heap h'->h'.get? a=some (dX b)->Q (.done (.ret .none)) { s with heap:=h' }):
  wpS (aq prog w) A (Builtin.«bytearray.__init__» ⟨[.ref a,.bytes b t],[]⟩) Q E s:=by
 unfold Builtin.«bytearray.__init__»;refine bq ((wJ ho).here ?_);refine kj rfl ?_;rw [MS];refine bq (ah ?_);dsimp only;refine bq (m:=CJ _ _ _ _) (ah ?_);refine bq (m:=CJ _ _ _ _) (ah ?_);refine wpS_bind ?_;unfold orM;refine wpS_bind (Aa ?_);refine bq (m:=Bytes.exportsOf (.ref a)) ?_;refine ae (gC ho ?_);refine ah ?_;refine wpS_pure ?_;refine kj rfl ?_;refine bq (BL ho (by decide) fun h1 sb1 g1=>?_);refine jb ?_;refine ae (ah ?_);refine jr rfl ?_;refine ae ?_;refine jr rfl ?_;refine jr rfl ?_;refine ah ?_;refine ae ((oW GX).at ?_);refine jr rfl ?_;refine ae (DT.at ?_);dsimp only;refine ae (ji ?_);refine ae (BL g1 hz fun h2 sb2 g2=>?_);exact ah (h _ (sb1.trans sb2) g2)
theorem J0:("bytearray.__new__".splitOn ".__new__").headD ""="bytearray":=by simp +decide [HX,EB]
theorem DU (v:ai):dY "bytearray.__new__" ⟨[.type "bytearray",v],[]⟩=pure ():=by kernel_rfl
theorem BN (v:ai):ED "bytearray" ⟨[v],[]⟩=pure ():=by kernel_rfl
theorem Ad:fD kg "bytearray.__new__"=some Builtin.«list.__new__»:=Cn (id':="list.__new__") (by kernel_rfl) (by first | rfl | decide +kernel) (by decide +kernel) (by kernel_rfl)
theorem xY:fD kg "bytearray.__init__"=some Builtin.«bytearray.__init__»:=cX (by kernel_rfl)
theorem J1:FF (.type "bytearray")=pure [.type "bytearray",.type "object"]:=by rw [NP]; kernel_rfl
theorem QI:bj (.type "bytearray") "__new__"=pure (some (.builtin "bytearray.__new__")):=by rw [aF,ay]; kernel_rfl
theorem BO:bj (.type "bytearray") "__init__"=pure (some (.builtin "bytearray.__init__")):=by rw [aF,ay]; kernel_rfl
theorem MU:Slot "bytearray" "__init__" "bytearray.__init__":=
 Pa (owner:="bytearray") (n:="__init__") BO (by decide +kernel) (by decide +kernel) (by decide +kernel) (by first | exact .inl (by decide +kernel) | exact .inr (by decide +kernel)) tH
theorem MV:jX (.type "bytearray")=pure (some "bytearray.__new__"):=madeBy_type J1 QI (by decide +kernel)
theorem MW (a v:ai):gk "bytearray.__init__" ⟨[a,v],[]⟩:=by unfold gk; kernel_rfl
theorem BP {Q₁:ai->aj->Prop} (h:Q₁ (.ref s.heap.objs.size) { s with heap:=s.heap.push (dX #[]) }):eO (aq prog w) A (.call (.builtin "bytearray.__new__") ⟨[.type "bytearray",v],[]⟩) (wants Q₁ E) s:=by
 refine gJ ?_;refine (?_:ak _ A.in1 (do dY "bytearray.__new__" ⟨[.type "bytearray",v],[]⟩; ze (.builtin "bytearray.__new__" ⟨[.type "bytearray",v],[]⟩)) _ _ s)
 refine ae (cH (DU v) (ah ⟨bY (by decide +kernel) _,codeAny_builtin_stack Ad rfl fun p st=>?_⟩));rw [aY (by decide +kernel) _];have Ge:=tH;have Yl:=J0;obtain ⟨hp,g,d,tk,os⟩:=s;simp only [Yl]
 wp_walk
 exact h
theorem QJ (hz:b.size<=bF) (h: ∀h',cz s.heap.objs.size (s.heap.push (dX #[])) h'->h'.get? s.heap.objs.size=some (dX b)->Q (.ref s.heap.objs.size) { s with heap:=h' }):
  wpS (aq prog w) A (call (.type "bytearray") [.bytes b t]) Q E s:=by
 refine rX (gy rfl ?_);refine (?_:wpS _ _ (AD (.type "bytearray") _) _ _ _);refine wpS_pure ⟨eK _ (by decide +kernel),qD (by decide +kernel) F.entry_type_call ?_⟩;rw [Around.under_plain (weight_type_call_type "bytearray" [.bytes b t] []) rfl];unfold Builtin.«type.__call__»;dsimp only;refine kj (by decide) ?_;refine kj (by decide +kernel) ?_;refine bq (cH (BN _) ?_);refine bq (cH J1 ?_);refine kj rfl ?_;refine bq (cH MV ?_);dsimp only;refine bq (ah ?_);refine wpS_bind (gI (jb (fg (BP ?_))));have g0:(s.heap.push (dX #[])).get? s.heap.objs.size=some (dX #[]):=aJ _ rfl;have ti:bk (aq prog w) (s.heap.push (dX #[])) (isInstance (.ref s.heap.objs.size) (.type "bytearray")) true:=(Ac g0).andThen (aU tH);refine bq (ti.here ?_);refine kj rfl ?_;refine wpS_bind (gI ?_);unfold xn;refine bq ((uZ g0 BO).here ?_);dsimp only;refine gI ?_;rw [MU.bind];refine bq (ah ?_);refine wpS_bind (rX (kO (by decide +kernel) (eK _ (by decide +kernel)) xY ?_));refine NU (by decide +kernel) (by decide +kernel) (i:="bytearray.__init__") (owner:="bytearray") (n:="__init__") ti (MW _ _) ?_;refine wpS_mono (MT g0 hz fun h1 sb g1=>?_) (fun _ _ z=>z) fun _ _ z=>z;exact wpS_pure (wpS_pure (h h1 sb g1))
end
end
section
open PySem.Builtin
noncomputable def Um:Sv:=.own (fun _ _=>True) fun _ _ _ _ _=>trivial
theorem cQ.J2 {rest:List ai} (a:cQ (n + 1) A):cQ n (A.under (.builtin "type.__call__" ⟨.ref C::rest,[]⟩)):=
 ⟨a.1,by have:=a.2; refine (?_:A.depth + 1 + 3 * n<=900); exact Nat.le_trans (Nat.le_of_eq (Nat.add_right_comm _ 1 _)) (Nat.le_trans (Nat.le_add_right _ 2) this),by have:=a.3; refine (?_:A.units + 1 + 30 * n<=9000); exact Nat.le_trans (Nat.le_of_eq (Nat.add_right_comm _ 1 _)) (Nat.le_trans (Nat.le_add_right _ 29) this)⟩
theorem MX {a:ai} (p1:fd.params=oU 29 1) (p2:fd.defaults=.none) (p3:fd.kwdefaults=.none):
  gw fd ⟨[a,u],[]⟩=(newTuple [u] >>= fun t=>alloc cM >>= fun d=>pure ([("cls",a),("args",t),("kwargs",.ref d)]:List (Str × ai))):=by
 obtain ⟨f1,f2,f3,f4,f5,f6,f7,f8,f9,Pd,f11,f12,f13⟩:=fd;subst p1 p2 p3
 kernel_rfl
theorem BQ:Manifest.isStub "object"=false:=by decide +kernel
theorem GY {K:Frag}:findCls K (.type "object") (.type "type") "__new__"=some (.val (.builtin "object.__new__")):=by kernel_rfl
theorem DV:k6 (.type "object")=pure (.type "type"):=by kernel_rfl
section
theorem Et.Un {x y z:Expr} {b1 b2:Bool} (h1:Et prog w G n c ρ x b1) (h2:b1=true->Et prog w G n c ρ y b2) (h3:b1=true->b2=true->Et prog w G n c ρ z false):Et prog w G n c ρ (.BoolOp .And [x,y,z] pos) false:=
 .mk fun A E Q Φ τ s a F h=>uK (h1.go A E _ Φ τ s a F fun s1 m1 F1=>by
  cases b1 with
  | false=>rw [if_neg aI]; exact h s1 m1 F1
  | true=>
   rw [if_pos rfl];refine uK ((h2 rfl).go A E _ Φ τ s1 a F1 fun s2 m2 F2=>?_);cases b2 with
   | false=>rw [if_neg aI]; exact h s2 (m1.trans m2) F2
   | true=>
    rw [if_pos rfl];refine uK ((h3 rfl rfl).go A E _ Φ τ s2 a F2 fun s3 m3 F3=>?_);rw [if_neg aI]; exact h s3 ((m1.trans m2).trans m3) F3)
variable {K:Frag} {sm fN fI fC fR:Addr}
theorem MY {Φ:Led} (T:bL mg mb G) (B:lU prog w G mg K C sm fN fI fC fR tI tR) (hA:cQ (n + 2) A) (dM:au G Φ D₀ s₀.heap) (hu:bw D₀ u (.dat (.bytes b))) (hq: ∀x dx s' D',Sm s₀ s'->x≠dx->(∀q∈Φ,q.1≠x/\q.1≠dx)->au G ((dx,cM)::(x,cL C dx)::Φ) D' s'.heap->(∀p∈D₀,p∈D')->Q (.ref x) s'):ak (aq prog w) A (call (.ref fN) [.ref C,u]) Q E s₀:=by
 refine z9 (n:=n + 1) (xs:=["cls","args","kwargs"]) (ds:=[.val (.ref C),.dat (.tuple [.bytes b]),Um]) T hA dM B.mN (fun fd p1 p2 p3 E' Q' h=>?_) rfl (by decide +kernel) (by decide +kernel) (fun L cd D hs K1 s sm fV F=>?_)
 ·rw [MX p1 p2 p3];refine ae (iz ?_ (sl (by simp)));have W1:=dM.push { cls:=.type "tuple",data:=.seq [u].toArray } rfl;refine ae (Lg (ah ?_));exact h [.ref C,.ref s₀.heap.objs.size,.ref (s₀.heap.push { cls:=.type "tuple",data:=.seq [u].toArray }).objs.size] _ _ ⟨rfl,rfl⟩ (W1.drop cM) (fun p hp=>.tail _ hp)
   (.cons rfl (.cons (lG (.head _) (.cons (nq (fun p hp=>.tail _ hp) hu) .nil)) (.cons trivial .nil)))
 ·refine bD ((Xs.Ay (Et.and (b:=false) (d:=false) (Et.cmp (Ev.name K1 rfl) (Ev.global T K1 rfl B.name) z6 gR.bool) (fun h=>nomatch h)) Ex.nil).go _ _ _ _ _ s fV F fun s1 m1 F1=>?_);refine bD (eU ?_);refine EH ((Ev.builtin (n:=n + 1) (v:=.type "object") T K1 rfl B.TY (by rfl)).pX _ _ _ _ _ s1 fV F1 fun s2 m2 F2=>?_);refine d8 F2 fun D2 C2 mm2 X2=>?_; clear F2;refine method_type (T:="object") (v:=.builtin "object.__new__") (K:=K) X2.fr B.X DV BQ GY rfl ?_;have F3:=FS.pop (⟨D2,C2,mm2,X2⟩:FS _ _ _ _ _ _);refine bV ((ic.one (Ev.name (n:=n + 1) K1 (x:="cls") (d:=.val (.ref C)) rfl)).FN _ _ _ _ _ { s2 with toks:=s2.toks + 1 } _ fV F3 fun s4 m4 F4=>?_)
  change FS _ _ _ _ [(_,_)] _ at F4
  refine jI B.hC fun oc od cd' slc hC c1 c2 c3=>?_;obtain ⟨h4,g4,d4,t4,os4⟩:=s4;refine fg (TX (F4.top _ _ hC) c1 c2 (B.base.keeps F4.top) ((looks_instIn B.X B.typ).keeps F4.top) ((looks_mroIn B.X B.X8).keeps F4.top) ?_);have F5:=(F4.pop.sY (o:=cM) rfl).sY (o:=cL C h4.objs.size) rfl;refine iU ((F5.plus (v:=.none) (d:=.dat .none) fun D=>.none).leave) fun D6 W6 fl6 _=>?_;rw [bG] at W6;have mm:Sm s₀ ⟨h4,g4,d4,t4,os4⟩:=((sm.trans (m1.trans m2)).trans (show Sm s2 { s2 with toks:=s2.toks + 1 } from ⟨rfl,rfl⟩)).trans m4;exact hq _ _ _ D6 ⟨mm.gens,mm.os⟩ (Nat.succ_ne_self _) (fun q hq=>⟨Nat.ne_of_lt (Nat.lt_succ_of_lt (az (F4.get hq))),Nat.ne_of_lt (az (F4.get hq))⟩) (W6.sub fun p hp=>by
   exact bU hp (.tail _ (.head _)) fun hp=>bU hp (.head _) fun hp=>.tail _ (.tail _ hp)) (fun p hp=>fl6 p (hs p hp))
end
end
section
open PySem.Builtin
theorem J3 {a:ai} (p1:fd.params=oU 32 1) (p2:fd.defaults=.ref tI) (p3:fd.kwdefaults=.none) (ho:s.heap.get? tI=some o) (hs:o.data=.seq #[.none] n):
  BindsTo s fd ⟨[a,u],[]⟩ [("self",a),("initial_bytes",u)]:=by
 obtain ⟨f1,f2,f3,f4,f5,f6,f7,f8,f9,Pd,f11,f12,f13,f14,f15⟩:=fd;subst p1 p2 p3;exact AE rfl ho hs (by rfl) (by rfl)
noncomputable abbrev j4 (w:bR) (t1 t2 u:Nat) (Bf:Addr) (p:Int):Obj:=cy [⟨dP w.params "_BytesIO__buf",.str "_BytesIO__buf" t1,.ref Bf⟩,⟨dP w.params "_BytesIO__pos",.str "_BytesIO__pos" t2,.int p u⟩] 2
section
variable {K:Frag} {sm fN fI fC fR:Addr}
theorem J4 {Φ:Led} {x:Addr} (T:bL mg mb G) (H:Prog mg G) (B:lU prog w G mg K C sm fN fI fC fR tI tR) (hA:cQ (n + 2) A) (hx:x≠dx) (hP: ∀q∈Φ,q.1≠x/\q.1≠dx) (dM:au G ((dx,cM)::(x,cL C dx)::Φ) D₀ s₀.heap) (hu:bw D₀ u (.dat (.bytes b))) (hz:b.size<=bF) (hq: ∀Bf t1 t2 u s' D',Sm s₀ s'->Bf≠x->Bf≠dx->(∀q∈Φ,q.1≠Bf)->au G ((dx,j4 w t1 t2 u Bf 0)::(x,cL C dx)::(Bf,dX b)::Φ) D' s'.heap->(∀p∈D₀,p∈D')->Q .none s'):wpS (aq prog w) A (call (.ref fI) [.ref x,u]) Q E s₀:=by
 refine JY (n:=n + 1) (xs:=["self","initial_bytes"]) (ds:=[.val (.ref x),.dat (.bytes b)]) T hA dM B.mI (fun fd p1 p2 p3 E' Q' h=>?_) rfl (by decide +kernel) (by decide +kernel) (fun L cd D hs K1 s sm fV F=>?_)
 ·refine nV B.dI fun o k ho hd=>?_;exact J3 p1 p2 p3 (dM.keep _ _ ho) hd _ _ _ _ (h [.ref x,u] _ _ (Sm.refl _) dM (fun _ h=>h) (.cons rfl (.cons hu .nil)))
 refine nh (jb ((Xs.Ay (Et.Un (b1:=true) (b2:=false) (Et.cmp (Ev.name K1 rfl) Ev.none xX gR.bool) (fun _=>Et.cmp (Ev.kH (Ev.bi T H K1 rfl (by decide +kernel)) (.one (Ev.name K1 rfl)) DP) (Ev.bi T H K1 rfl (by decide +kernel)) rW gR.bool) (fun _ h=>nomatch h)) Ex.nil).go _ _ _ _ _ s fV F fun s1 m1 F1=>?_));refine nh (oV (GW ((Et.cmp (Ev.name K1 rfl) Ev.none DO gR.bool).go _ _ _ _ _ s1 fV F1 fun s2 m2 F2=>?_)));rw [if_neg aI];refine wG ((Ev.bi (v:=.type "bytearray") T H K1 rfl (by decide +kernel)).pX _ _ _ _ _ s2 fV F2 fun s3 m3 F3=>?_);refine ng rfl (gx ((ic.one (Ev.name (n:=n + 1) K1 (x:="initial_bytes") (d:=.dat (.bytes b)) rfl)).CR _ _ _ _ _ s3 _ fV F3.pop fun v4 s4 m4 F4=>⟨⟨.machine,.inr rfl,aU rfl⟩,?_⟩));refine ex (bQ F4.heldBy fun _ _ t=>jj (t _ (.head _)): ∃tk,v4=.bytes b tk) fun tk e4=>?_;subst e4;refine QJ hz fun h5 sb5 g5=>?_;have F5:=(F4.temps (je:=[]) fun _ h=>nomatch h).sY (o:=dX #[]) rfl;have off:=F4.off;have F6:=F5.Jc (o':=dX b) nm (fun q hq=>off q hq) sb5 g5;have nx:s4.heap.objs.size≠x:=fun e=>off (x,cL C dx) (.tail _ (.head _)) e.symm;have nd:s4.heap.objs.size≠dx:=fun e=>off (dx,cM) (.head _) e.symm;have nP: ∀q∈Φ,q.1≠s4.heap.objs.size:=fun q hq=>off q (.tail _ (.tail _ hq));have F7:FS _ _ ⟨(dx,cy [] 0)::(x,cL C dx)::(s4.heap.objs.size,dX b)::Φ,D⟩ _ _ h5:=F6.gZ (fun p hp=>by
  exact bU hp (.tail _ (.head _)) fun hp=>bU hp (.tail _ (.tail _ (.head _))) fun hp=>bU hp (.head _) fun hp=>.tail _ (.tail _ (.tail _ hp))) nm
 have hc: ∀q∈ (x,cL C dx)::(s4.heap.objs.size,dX b)::Φ,q.1≠dx:=fun q hq=>by
  exact bU hq (hx) fun hq=>bU hq (nd) fun hq=>(hP q hq).2
 refine (Ev.name (n:=n + 1) K1 (x:="self") (d:=.val (.ref x)) rfl).pX _ _ _ _ _ { s4 with heap:=h5 } fV F7 fun s8 m8 F8=>?_;refine JS B F8.pop (.head _) nm hc B.Ua rfl (by simp [putL]) fun t1 s9 m9 F9=>?_;refine jb (bD (j6 ?_ rfl));refine (Ev.int (n:=n + 1)).go _ _ _ _ _ s9 fV F9 fun v Ou Mw CC=>?_;refine ex (bQ CC.heldBy fun _ _ t=>jj (t _ (.head _)): ∃tu,v=.int 0 tu) fun tu e4=>?_;subst e4;refine (Ev.name (n:=n + 1) K1 (x:="self") (d:=.val (.ref x)) rfl).pX _ _ _ _ _ Ou fV CC.pop fun Wj QK Ly=>?_;refine JS B Ly.pop (.head _) nm hc B.OF (by rfl) (by refine (?_:(2:Nat)<=1000); decide) fun t2 Sj Uo Lz=>?_;refine bz ?_;refine iU ((Lz.plus (v:=.none) (d:=.dat .none) fun D=>.none).leave) fun D' W' BR _=>?_;have m5:Sm s4 { s4 with heap:=h5 }:=⟨rfl,rfl⟩;exact hq _ t1 t2 tu Sj D' (((((((((sm.trans m1).trans m2).trans m3).trans m4).trans m5).trans m8).trans m9).trans Mw).trans (QK.trans Uo)) nx nd nP W' (fun p hp=>BR p (hs p hp))
end
end
section
open PySem.Builtin
section
variable {b':Array UInt8} {t:Tok}
theorem ud:Slot "bytearray" "__len__" "bytearray.__len__":=
 Pa (owner:="bytearray") (n:="__len__") (by rw [aF,ay]; kernel_rfl) (by decide +kernel) (by decide +kernel) (by decide +kernel) (by first | exact .inl (by decide +kernel) | exact .inr (by decide +kernel)) tH
theorem uF:Slot "bytearray" "__getitem__" "bytearray.__getitem__":=
 Pa (owner:="bytearray") (n:="__getitem__") (by rw [aF,ay]; kernel_rfl) (by decide +kernel) (by decide +kernel) (by decide +kernel) (by first | exact .inl (by decide +kernel) | exact .inr (by decide +kernel)) tH
theorem Ae:fD kg "bytearray.__len__"=some Builtin.«bytearray.__len__»:=by first | exact RT (by kernel_rfl) | exact cX (by kernel_rfl)
theorem tJ:fD kg "bytearray.__getitem__"=some Builtin.«bytearray.__getitem__»:=by first | exact RT (by kernel_rfl) | exact cX (by kernel_rfl)
theorem BS (a:ai):gk "bytearray.__len__" ⟨[a],[]⟩:=by unfold gk; kernel_rfl
theorem uG (a v:ai):gk "bytearray.__getitem__" ⟨[a,v],[]⟩:=by unfold gk; kernel_rfl
theorem BU:bj (.type "bytearray") "__bytes__"=pure none:=by rw [aF,ay]; kernel_rfl
theorem BV:bj (.type "bytearray") "__index__"=pure none:=by rw [aF,ay]; kernel_rfl
theorem BW (ho:s.heap.get? a=some (dX b)):s.TypeIs (.ref a) "bytearray":=⟨_,ho,rfl⟩
theorem GZ {n:String} {f:Bool} (ho:h.get? a=some (dX b)):bk M h (qK n (.ref a) f) (some b):=by
 unfold qK;refine (uZ ho DS).andThen ?_;dsimp only;refine iA (a:=true) ?_ ?_
 ·exact JZ ho (n:="__buffer__") DS (by decide +kernel) (by decide +kernel)
 ·rw [if_neg (by decide)];refine (uZ ho DS).andThen ?_;refine (wJ ho).andThen ?_;rw [if_neg (by decide)];refine iA (a:=b) ?_ .now;exact iA (a:=some b) ((cT ho).andThen .now) .now
end
theorem wK (ho:h.get? a=some (dX b)):bk M h (Bytes.payload (.ref a)) b:=iA (a:=some b) ((cT ho).andThen .now) .now
theorem G5 (ho:s.heap.get? a=some (dX b)) (hz:b.size<=1000000) (h: ∀t k,Q (.int b.size t) { s with toks:=k }):ak (aq prog w) A (call (.builtin "len") [.ref a]) Q E s:=by
 refine tT kind_len plain_len entry_len (args_len1 _) ?_;unfold Builtin.«len»;refine ae (m:=oneArg "len" _) (ah ?_);refine ae (m:=xn (.ref a) (aR "__len__")) (eW (name:=aR "__len__") (BW ho) ud
  (dZ ud (BW ho) Ae ?_ (BS _)))
 unfold Builtin.«bytearray.__len__»;refine ae (m:=slotArgs _ _ _) (ah ?_);refine ae ((wK ho).here ?_);refine ae (Lc (ah ⟨_,rfl,?_⟩));refine ae (aB (ah ?_));refine ae (gh ?_);refine (?_:ak _ _ (if ((b.size:Nat):Int) < 0 then _ else _) _ _ _);rw [if_neg (dJ.mpr (aS _))];refine (?_:ak _ _ (if ((b.size:Nat):Int) >= 2 ^ 63 then _ else _) _ _ _);rw [if_neg (Vd.mpr (iP (fh.mpr hz) (by decide)))];exact ae (Lc (ah ⟨_,rfl,h _ _⟩))
theorem wL (b:Array UInt8) (a x:Addr) {l:ai} {lo hi:Option Int} (hl:Cm l lo) (hu:Cm u hi):
  K7 (Builtin.«bytearray.__getitem__» ⟨[.ref a,.ref x],[]⟩) (fun _ R s=>s.heap.get? a=some (dX b)/\s.heap.IsSliceOf x l u .none/\(lg b lo hi).size<=bF/\R (.ok (.ret (.ref s.heap.objs.size))) { s with heap:=s.heap.push (dX (lg b lo hi)) }):=by
 refine .of_wp fun prog w A R s hS=>?_;refine ve hS ?_; clear hS; rintro h0 ⟨o,ho,hc,hd⟩ rC h;have hT:s.TypeIs (.ref x) "slice":=⟨o,ho,hc⟩;unfold Builtin.«bytearray.__getitem__»;refine ae (m:=slotArgs _ _ _) (ah ?_);refine (?_:ak _ _ (HN (.ref x) >>= fun r=>_) _ _ s);refine ae ?_;unfold HN;refine ae (eJ hT slice_no_index (ah ?_));refine ae (HA hT ?_);refine (?_:ak _ _ (HO (.ref x) >>= fun r=>_) _ _ s);refine ae ?_;unfold HO;refine ae (fL (x:=.none) ho hd rfl ?_)
 kby_none
 refine wpAny_ite (KBy.ite_no (show ¬((Value.none == aQ 0)=true) from aI) ?_);refine ae (fL (x:=l) ho hd rfl ?_);have go:ak (aq prog w) A.in1 (sliceIndices (rawPart lo) (rawPart hi) (rawPart none) b.size) (fun r s'=>r=sliceBounds lo hi none b.size/\s'=s) (fun _ _=>False) s:=
  cH (sliceIndices_raw lo hi none b.size (fun e=>nomatch e)) ⟨rfl,rfl⟩
 cases hl <;> cases hu <;> (first
  | (kby_none;(refine ae (fL (x:=.none) ho hd rfl ?_)); kby_none)
  | (kby_none;(refine ae (fL (x:=.int _ _) ho hd rfl ?_)); kby_int)
  | (kby_int;(refine ae (fL (x:=.none) ho hd rfl ?_)); kby_none)
  | (kby_int;(refine ae (fL (x:=.int _ _) ho hd rfl ?_)); kby_int)) <;> refine ah ?_
 all_goals
  refine ae ((wK h0).here ?_);refine ae (aN go (fun r s' hr=>?_) fun _ _ e=>e.elim);refine ea hr fun WR WS=>?_; clear hr;subst WR WS;refine ae ?_;unfold Builtin.Bytes.newBytearray;exact bC (ah ⟨_,rfl,h⟩) rC
theorem rY:bj (.type "bytearray") "__getitem__"=pure (some (.builtin "bytearray.__getitem__")):=by rw [aF,ay]; kernel_rfl
theorem Af {lower:Option Expr} {p:Pos} (h:ak (aq prog w) A (eval value env) (fun o bI=>ak (aq prog w) A (Ck lower env) (fun vl cF=>ak (aq prog w) A (Ck upper env) (fun vu jv=>
   ∃a b lo hi,o=.ref a/\jv.heap.get? a=some (dX b)/\(lg b lo hi).size<=bF/\Cm vl lo/\Cm vu hi/\
    Q (.ref (jv.heap.objs.size + 1)) { jv with heap:=(jv.heap.push { cls:=.type "slice",data:=.fields #[vl,vu,.none] }).push (dX (lg b lo hi)) }) E cF) E bI) E s):
  ak (aq prog w) A (eval (.Subscript value (.Slice lower upper Option.none p) pos) env) Q E s:=by
 refine yn (T:="bytearray") rY (aN h (fun o bI cZ=>wpAny_Slice (aN cZ (fun vl cF l9=>aN l9 (fun vu jv qO=>?_) fun _ _ e=>e) fun _ _ e=>e)) fun _ _ e=>e);refine qM qO ?_; clear qO; rintro a b lo hi rfl hl rC pl pu hQ;rw [Wu];have Ym:(jv.heap.push { cls:=.type "slice",data:=.fields #[vl,vu,.none] }).get? a=some (dX b):=av _ hl;refine ah ⟨BW (s:={ jv with heap:=jv.heap.push { cls:=.type "slice",data:=.fields #[vl,vu,.none] } }) Ym,getItem_meets (T:="bytearray") (BW (s:={ jv with heap:=jv.heap.push { cls:=.type "slice",data:=.fields #[vl,vu,.none] } }) Ym) (by decide) uF tJ (uG _ _) (wL b a _ pl pu) ⟨Ym,u6 ..,rC,?_⟩⟩;rw [bG];exact hQ
theorem MZ (ho:s.heap.get? a=some (dX b)) (hz:b.size<=bF) (hQ: ∀t k,Q (.bytes b t) { s with toks:=k }):
  eO (aq prog w) A (.call (.builtin "bytes.__new__") ⟨[.type "bytes",.ref a],[]⟩) (wants Q E) s:=by
 refine gJ ?_;refine (?_:ak _ A.in1 (do dY "bytes.__new__" ⟨[.type "bytes",.ref a],[]⟩; ze (.builtin "bytes.__new__" ⟨[.type "bytes",.ref a],[]⟩)) _ _ s)
 refine ae (cH (F.bm_newCall _) (ah ⟨bY F.bm_plain _,bB F.bm_entry ?_⟩));rw [aY F.bm_plain _];have hT:=BW ho;unfold Builtin.«bytes.__new__»;refine ae (cH (a:=true) rfl ?_);refine jr rfl ?_;refine ae (cH F.bm_sub ?_);refine jr rfl ?_;refine ae (cH (F.bm_bind _) ?_);refine ae (cH (a:=()) rfl ?_);refine ae (cH (a:=()) rfl ?_);refine jr rfl ?_;refine ae (eJ hT BU ?_);refine ae (ae ?_);refine (?_:ak _ _ (load a >>= _) _ _ _);refine ae (gC ho ?_);refine ah (ah ?_);refine jr rfl ?_;refine ae (eJ hT BV ?_);refine bm_if_true rfl ?_
 first
  | (refine (?_:ak _ _ (Builtin.Bytes.buffer? "bytes.__new__" (.ref a) true >>= _) _ _ _))
  | (refine ae ?_; show ak _ _ (Builtin.Bytes.buffer? "bytes.__new__" (.ref a) true >>= _) _ _ _)
 refine ae ((GZ ho).here ?_);dsimp only;refine ae (ji ?_);refine ae (wpAny_mkBytes ?_ hz);refine (?_:ak _ _ (if (Value.type "bytes" == Value.type "bytes")=true then _ else _) _ _ _);refine bm_if_true (by decide) ?_
 first
  | exact ah (hQ _ _)
  | exact ah (ah (hQ _ _))
  | exact ae (ah (ah (hQ _ _)))
theorem BX (ho:s.heap.get? a=some (dX b)) (hz:b.size<=bF) (hQ: ∀t k,Q (.bytes b t) { s with toks:=k }):ak (aq prog w) A (call (.type "bytes") [.ref a]) Q E s:=by
 refine Vp (Q₁:=fun obj bI=>bI.TypeIs obj "bytes" /\Q obj bI) F.bm_called (F.bm_typeCall _) F.entry_object_init
  (MZ ho hz fun t k=>⟨PySem.W.typeIs_bytes _ _ _,hQ t k⟩) fun obj bI cZ=>?_
 exact ⟨cZ.1,F.args_object_init_2 obj _,O1 F.bm_called.init.lookup F.bm_called.made (by decide) prog w A.in1 _ bI ⟨cZ.1,rfl,cZ.2⟩⟩
end
section
open PySem.Builtin
theorem J5 {a:ai} {t:Tok} (p1:fd.params=oU 32 20) (p2:fd.defaults=.ref tR) (p3:fd.kwdefaults=.none) (ho:s.heap.get? tR=some o) (hs:o.data=.seq #[.int (-1) t] n):
  BindsTo s fd ⟨[a,u],[]⟩ [("self",a),("size",u)]:=by
 obtain ⟨f1,f2,f3,f4,f5,f6,f7,f8,f9,Pd,f11,f12,f13,f14,f15⟩:=fd;subst p1 p2 p3;exact AE rfl ho hs (by rfl) (by rfl)
theorem M0 {a:ai} (p1:fd.params=oU 32 2) (p2:fd.defaults=.none) (p3:fd.kwdefaults=.none):gw fd ⟨[a],[]⟩=(pure [("self",a)]:Sem (List (Str × ai))):=by
 obtain ⟨f1,f2,f3,f4,f5,f6,f7,f8,f9,Pd,f11,f12,f13,f14,f15⟩:=fd;subst p1 p2 p3
 kernel_rfl
section
variable {K:Frag} {sm fN fI fC fR:Addr} {x Bf:Addr} {u:Nat} {p:Int}
theorem J6 {p1 p2:Pos} (B:lU prog w G mg K C sm fN fI fC fR tI tR) (K1:fM c.env) (hs:ρ "self"=some (.val (.ref x))) (a:cQ n A) (F:FS G c ⟨F1,fl⟩ ρ τ s.heap) (hx:(x,cL C dx)∈F1) (hd:(dx,j4 w t1 t2 u Bf p)∈F1) (h: ∀s',Sm s s'->FS G c ⟨F1,fl⟩ ρ τ s'.heap->Q (.ref Bf) s'):ak (aq prog w) A (eval (.Attribute (.Name "self" p1) "_BytesIO__buf" p2) c.env) Q E s:=
 JT (Ev.name (n:=n) K1 hs) a F fun s1 m1 F1=>OG B F1 hx hd B.Yc (by rfl) rfl (h _ (m1.trans ⟨rfl,rfl⟩) F1)
theorem Uq {p1 p2:Pos} (B:lU prog w G mg K C sm fN fI fC fR tI tR) (K1:fM c.env) (hs:ρ "self"=some (.val (.ref x))) (a:cQ n A) (F:FS G c ⟨F1,fl⟩ ρ τ s.heap) (hx:(x,cL C dx)∈F1) (hd:(dx,j4 w t1 t2 u Bf p)∈F1) (h: ∀s',Sm s s'->FS G c ⟨F1,fl⟩ ρ τ s'.heap->Q (.int p u) s'):ak (aq prog w) A (eval (.Attribute (.Name "self" p1) "_BytesIO__pos" p2) c.env) Q E s:=
 JT (Ev.name (n:=n) K1 hs) a F fun s1 m1 F1=>OG B F1 hx hd B.Yd (by rfl) rfl (h _ (m1.trans ⟨rfl,rfl⟩) F1)
theorem J7 {p0 p1 p2:Pos} (H:Prog mg G) (T:bL mg mb G) (B:lU prog w G mg K C sm fN fI fC fR tI tR) (K1:fM c.env) (hs:ρ "self"=some (.val (.ref x))) (a:cQ n A) (F:FS G c ⟨F1,fl⟩ ρ τ s.heap) (hx:(x,cL C dx)∈F1) (hd:(dx,j4 w t1 t2 u Bf p)∈F1) (hb:(Bf,dX b)∈F1) (hz:b.size<=1000) (hl:Ev prog w G n c ρ (.Name "len" p0) (.val (.builtin "len"))) (h: ∀v s',Sm s s'->FS G c ⟨F1,fl⟩ ρ ((v,.dat (.int b.size))::τ) s'.heap->Q v s') (h2:aC [.Attribute (.Name "self" p1) "_BytesIO__buf" p2] c.env=(false,eval (.Attribute (.Name "self" p1) "_BytesIO__buf" p2) c.env)::aC [] c.env:=by rfl) (h3:((cI pos (aC [] c.env)).any (·.1))=false:=by rfl) (hc:eval (.Call (.Name "len" p0) [.Attribute (.Name "self" p1) "_BytesIO__buf" p2] [] pos) c.env=(do eF pos (<- eval (.Name "len" p0) c.env) [] (cI pos (aC [.Attribute (.Name "self" p1) "_BytesIO__buf" p2] c.env)) (eG pos (bX [] c.env))):=by rfl):ak (aq prog w) A (eval (.Call (.Name "len" p0) [.Attribute (.Name "self" p1) "_BytesIO__buf" p2] [] pos) c.env) Q E s:=
 kT (hl.pX A E _ _ τ s a F fun s1 m1 F1=>by
  refine bV (eE (J6 (n:=n) B K1 hs a F1.pop hx hd fun s2 m2 F2=>?_) h2) h2 h3;refine bW ?_;exact G5 (F2.get hb) (lK hz) fun t k=>h _ _ ((m1.trans m2).trans ⟨rfl,rfl⟩) (F2.plus fun _=>SG _ _)) hc
theorem M2 {Φ:Led} (T:bL mg mb G) (H:Prog mg G) (B:lU prog w G mg K C sm fN fI fC fR tI tR) (hA:cQ (n + 2) A) (dM:au G Φ D₀ s₀.heap) (hx:(x,cL C dx)∈Φ) (hd:(dx,j4 w t1 t2 u Bf p)∈Φ) (hq: ∀s' D',Sm s₀ s'->au G Φ D' s'.heap->(∀p∈D₀,p∈D')->Q .none s'):ak (aq prog w) A (call (.ref fC) [.ref x]) Q E s₀:=by
 refine z9 (n:=n + 1) (xs:=["self"]) (ds:=[.val (.ref x)]) T hA dM B.mC (fun fd p1 p2 p3 E' Q' h=>?_) rfl (by decide +kernel) (by decide +kernel) (fun L cd D hs K1 s sm fV F=>?_)
 ·rw [M0 p1 p2 p3];exact ah (h [.ref x] _ _ (Sm.refl _) dM (fun _ h=>h) (.cons rfl .nil))
 refine bD (Cg ?_);refine HW (J6 (n:=n + 1) B K1 rfl fV F hx hd fun s1 m1 F1=>(Ev.none (n:=n + 1)).go _ _ _ _ _ s1 fV F1 fun v s2 m2 F2=>?_) rfl;obtain rfl:v=.none:=by
  refine bQ F2.heldBy fun _ _ t=>?_;exact jj (t _ (.head _))
 refine wpAny_is_other rfl (fun e=>nomatch e) (ah ?_);rw [if_neg aI];refine bz (bz ?_);refine iU F2.leave fun D' W' BR _=>?_;exact hq _ D' (sm.trans (m1.trans m2)) W' (fun p hp=>BR p (hs p hp))
theorem Ur {p1 p2 p3 p4:Pos} {Q:Flow->aj->Prop} (T:bL mg mb G) (H:Prog mg G) (B:lU prog w G mg K C sm fN fI fC fR tI tR) (K1:fM c.env) (hs:ρ "self"=some (.val (.ref x))) (a:cQ (n + 2) A) (F:FS G c ⟨F1,fl⟩ ρ τ s.heap) (hx:(x,cL C dx)∈F1) (hd:(dx,j4 w t1 t2 u Bf p)∈F1) (h: ∀s',Sm s s'->FS G c ⟨F1,fl⟩ ρ τ s'.heap->Q .next s') (hi:K8 c.env=false:=by rfl) {pl:Sem Bool} (he:eval (.Call (.Attribute (.Name "self" p1) "_BytesIO__check" p2) [] [] p3) c.env=(do
   let ov <- eval (.Name "self" p1) c.env
   w7 p2.atName
   let (f,first) <- w9 [ov] (getMethod ov "_BytesIO__check" pl)
   eF p3 f first (cI p3 (aC [] c.env)) (eG p3 (bX [] c.env))):=by rfl):ak (aq prog w) A (exec (.Expr (.Call (.Attribute (.Name "self" p1) "_BytesIO__check" p2) [] [] p3) p4) c.env) Q E s:=by
 refine Cr (hi:=hi) (EH ((Ev.name (n:=n + 2) K1 hs).pX _ _ _ _ _ s a F fun s1 m1 F1=>?_) he);refine method_fn (B.X.keeps F1.top) (z8 F1 hx hd) (kU B.pg).1 (kU B.pg).2 B.Ye B.tyK (by rfl) ?_;refine callWith_KW0 B.X B.T3 rfl (ah ⟨B.X.keeps F1.top,?_⟩);refine d8 F1.pop fun D C0 m X=>?_;refine ex X.around fun oL W=>?_;refine M2 T H B a W (.tail _ (mR hx)) (.tail _ (mR hd)) fun s' D' sm W' hD=>?_;exact h s' (m1.trans sm) ⟨D',C0,m,X.back (W.pin _ (mR ((.head _)))).1 W' hD⟩
theorem J8 {Φ:Led} (T:bL mg mb G) (H:Prog mg G) (B:lU prog w G mg K C sm fN fI fC fR tI tR) (hA:cQ (n + 4) A) (hx:x≠dx) (hB:Bf≠dx) (hP: ∀q∈Φ,q.1≠dx) (hz:b.size<=1000) (hp:pn<=b.size) (hk:k<=1000) (dM:au G ((dx,j4 w t1 t2 u Bf pn)::(x,cL C dx)::(Bf,dX b)::Φ) D₀ s₀.heap) (hv:bw D₀ v (.dat (.int k))) (hq: ∀r u' s' D',Sm s₀ s'->au G ((dx,j4 w t1 t2 u' Bf (min (pn + k) b.size:Nat))::(x,cL C dx)::(Bf,dX b)::Φ) D' s'.heap->(∀p∈D₀,p∈D')->bw D' r (.dat (.bytes ((b.toList.drop pn).take k).toArray))->Q r s'):ak (aq prog w) A (call (.ref fR) [.ref x,v]) Q E s₀:=by
 refine z9 (n:=n + 3) (xs:=["self","size"]) (ds:=[.val (.ref x),.dat (.int k)]) T hA dM B.mR (fun fd p1 p2 p3 E' Q' h=>?_) rfl (by decide +kernel) (by decide +kernel) (fun L cd D hs K1 s sm fV F=>?_)
 ·refine oz B.dR fun o t k' ho hd=>?_;exact J5 p1 p2 p3 (dM.keep _ _ ho) hd _ _ _ _ (h [.ref x,v] _ _ (Sm.refl _) dM (fun _ h=>h) (.cons rfl (.cons hv .nil)))
 refine bD ((Xs.Ay (Et.cmp (Ev.name K1 rfl) Ev.none GR gR.bool) Ex.nil).go _ _ _ _ _ s fV F fun s1 m1 F1=>?_);refine bD ((Xs.assign K1 (.inl rfl) (d:=.dat (.int k)) (Ev.def T B.idx K1 rfl (.cons (Ev.name K1 rfl) (.one Ev.str)) (GS T H B.idx (d9 (by decide) (aS k)) (d9 (fh.mpr hk) (by decide))))).go _ _ _ _ _ s1 fV F1 fun s2 m2 F2=>?_);refine bD (Ur T H B K1 rfl fV F2 (.tail _ (.head _)) (.head _) fun s3 m3 F3=>?_);refine bD (aZ (Uq (n:=n + 3) B K1 rfl fV F3 (.tail _ (.head _)) (.head _) fun s4 m4 F4=>store K1 (F4.plus (d:=.dat (.int pn)) fun D=>SG _ _) (.inl rfl) fun s5 m5 F5=>?_));refine bD (aZ (J7 (n:=n + 3) (b:=b) H T B K1 rfl fV F5 (.tail _ (.head _)) (.head _) (.tail _ (.tail _ (.head _))) hz (Ev.bi T H K1 rfl (by decide +kernel)) fun v6 s6 m6 F6=>store K1 F6 (.inl rfl) fun s7 m7 F7=>?_));have mm:Sm s₀ s7:=(((((sm.trans m1).trans m2).trans m3).trans m4).trans m5).trans (m6.trans m7);refine bD (Cg ((Et.cmp (Ev.name K1 rfl) (Ev.name K1 rfl) JQ gR.bool).go _ _ _ _ _ s7 fV F7 fun s8 m8 F8=>?_))
 by_cases hle:((b.size:Nat):Int)<=(pn:Nat)
 ·rw [decide_eq_true hle,if_pos rfl];refine bD (eU (Ev.bytes.go _ _ _ _ _ s8 fV F8 fun v9 s9 m9 F9=>?_));have R0:pn=b.size:=Nat.le_antisymm hp (fh.mp hle);refine iU F9.leave fun D' W' BR h'=>?_;refine hq v9 u s9 D' ((mm.trans m8).trans m9) ?_ (fun p hp=>BR p (hs p hp)) ?_
  ·rw [show min (pn + k) b.size=pn by exact (Nat.min_eq_right (Nat.le_trans (Nat.le_of_eq R0.symm) (Nat.le_add_right pn k))).trans R0.symm]; exact W'
  ·rw [List.drop_of_length_le (by rw [bZ]; exact Nat.le_of_eq R0.symm),List.take_nil]; exact h'
 rw [decide_eq_false hle,if_neg aI];refine bz ?_;refine bD ((Xs.ite (b:=decide ((pn:Int) + k < b.size)) (o:=.next (upd (upd (upd (upd (eu ([aR "self",aR "size"].zip [Sv.val (.ref x),Sv.dat (.int k)]) fun _=>none) "size" (.dat (.int k))) "start" (.dat (.int pn))) "stop" (.dat (.int b.size))) "stop" (.dat (.int (min (pn + k) b.size:Nat)))))
  (Et.is (Et.and (b:=decide ((0:Int)<=k)) (d:=decide ((pn:Int) + k < b.size)) (Et.cmp (Ev.name K1 rfl) Ev.int JQ gR.bool) fun _=>Et.cmp (Ev.bin (Ev.name K1 rfl) (Ev.name K1 rfl) jw) (Ev.name K1 rfl) EO gR.bool) (by rw [decide_eq_true (by lia)]; rfl))
  (fun hb=>?_) fun hb=>?_).go _ _ _ _ _ s8 fV F8 fun s9 m9 F9=>?_)
 ·have hb:=of_decide_eq_true hb;exact Ex.cons (Xs.assign K1 (.inl rfl) (Ev.is (Ev.bin (Ev.name K1 rfl) (Ev.name K1 rfl) jw) (by rw [show min (pn + k) b.size=pn + k by exact Nat.min_eq_left (Nat.le_of_lt (cf.mp (hb:((pn + k:Nat):Int) < b.size)))]; rfl))) Ex.nil
 ·have hb:=of_decide_eq_false hb;rw [show min (pn + k) b.size=b.size by exact Nat.min_eq_right (fh.mp (dJ.mp hb:(b.size:Int)<=((pn + k:Nat):Int)))];exact Ex.mono Ex.nil (aP (fun _ _ h=>h) rfl)
 have hc: ∀q∈ (x,cL C dx)::(Bf,dX b)::Φ,q.1≠dx:=fun q hq=>by
  exact bU hq (hx) fun hq=>bU hq (hB) fun hq=>hP q hq
 refine bD (j6 ((Ev.name (n:=n + 3) K1 (x:="stop") (d:=.dat (.int (min (pn + k) b.size:Nat))) rfl).go _ _ _ _ _ s9 fV F9 fun v10 Ou Mw CC=>?_) rfl);obtain ⟨tu,rfl⟩: ∃tu,v10=.int (min (pn + k) b.size:Nat) tu:=by
  refine bQ CC.heldBy fun _ _ t=>?_;exact jj (t _ (.head _))
 refine (Ev.name (n:=n + 3) K1 (x:="self") (d:=.val (.ref x)) rfl).pX _ _ _ _ _ Ou fV CC.pop fun Wj QK Ly=>?_;refine JS B Ly.pop (.head _) nm hc B.OF (by rfl) (by refine (?_:(2:Nat)<=1000); decide) fun t3 Sj Uo Lz=>?_;replace Lz:FS _ _ ⟨(dx,j4 w t1 t2 tu Bf (min (pn + k) b.size:Nat))::(x,cL C dx)::(Bf,dX b)::Φ,D⟩ _ _ Sj.heap:=Lz;refine bD (eU (kT ((Ev.bi (n:=n + 3) (v:=.type "bytes") T H K1 rfl (by decide +kernel)).pX _ _ _ _ _ Sj fV Lz fun s13 Us Ut=>?_)));refine cD (eE (Af (J6 (n:=n + 3) B K1 rfl fV Ut.pop (.tail _ (.head _)) (.head _) fun s14 Yn Yo=>
  (lN.some (i:=(pn:Nat)) (Ev.name (n:=n + 3) K1 (x:="start") rfl)).go fV Yo fun Yp s15 Yq p15 Yr=>
  (lN.some (i:=(min (pn + k) b.size:Nat)) (Ev.name (n:=n + 3) K1 (x:="stop") rfl)).go fV Yr fun v16 Ys m16 p16 F16=>?_)))
 have pe:lg b (some (pn:Int)) (some ((min (pn + k) b.size:Nat):Int))=((b.toList.drop pn).take k).toArray:=by
  rw [KBc.picked_eq];refine (?_:((b.toList.drop (oh b.size _)).take (oh b.size _ - oh b.size _)).toArray=_);rw [qe,qe,show min pn b.size=pn by lia,show min (min (pn + k) b.size) b.size=min (pn + k) b.size by exact Nat.min_eq_left (Nat.min_le_right _ _)]
  congr 1
  by_cases q:pn + k<=b.size
  ·rw [show min (pn + k) b.size - pn=k by exact (congrArg (· - pn) (Nat.min_eq_left q)).trans (Nat.add_sub_cancel_left ..)]
  ·rw [List.take_of_length_le (by rw [List.length_drop,bZ]; exact Nat.le_of_eq (congrArg (· - pn) (Nat.min_eq_right (Lm q)).symm)),List.take_of_length_le (by rw [List.length_drop,bZ]; exact Nat.sub_le_of_le_add (Nat.le_trans (Lm q) (Nat.le_of_eq (Nat.add_comm pn k))))]
 have psz:=KBc.size_picked_le b (some (pn:Int)) (some ((min (pn + k) b.size:Nat):Int));have yv:b.size<=bF:=sl hz;refine ⟨Bf,b,some (pn:Int),some ((min (pn + k) b.size:Nat):Int),rfl,F16.get (.tail _ (.tail _ (.head _))),Nat.le_trans psz yv,p15.is,p16.is,bW ?_⟩;have F17:=F16.keep (h':=(Ys.heap.push { cls:=.type "slice",data:=.fields #[Yp,v16,.none] }).push (dX (lg b (some (pn:Int)) (some ((min (pn + k) b.size:Nat):Int))))) fun b o e=>av _ (av _ e);refine BX (b:=lg b (some (pn:Int)) (some ((min (pn + k) b.size:Nat):Int))) ?_ (Nat.le_trans psz yv) fun t' k'=>?_
 ·rw [<- bG Ys.heap { cls:=.type "slice",data:=.fields #[Yp,v16,.none] }];exact aJ _ rfl
 refine iU ((F17.plus (v:=.none) (d:=.dat .none) fun D=>.none).leave) fun D' W' BR _=>?_;have Uu:Sm s₀ Ys:=(((((((mm.trans m8).trans m9).trans Mw).trans QK).trans Uo).trans Us).trans Yn).trans (Yq.trans m16);refine hq _ tu _ D' ⟨Uu.gens,Uu.os⟩ W' (fun p hp=>BR p (hs p hp)) ?_;rw [<- pe];exact DatIn.bytes _ _
end
end
section
open PySem.Builtin
theorem pS {P P':Led} (e:P'.map (·.1)=P.map (·.1)) {p:Addr × Obj} (hp:p∈P'): ∃q∈P,q.1=p.1:=by
 have:p.1∈P.map (·.1):=by rw [<- e]; exact List.mem_map_of_mem hp
 refine bQ (List.mem_map.mp this) fun q hq e=>?_;exact ⟨q,hq,e⟩
section
theorem FS.J9 {P:Led} (F:FS G c ⟨P,fl⟩ ρ τ h): ∃oL Cl D,au G ((c.env.locals,oL)::(Cl++P)) D h/\(∀p∈τ,bw D p.1 p.2)/\(∀q∈P,c.env.locals≠q.1/\∀r∈Cl,r.1≠q.1)/\(∀es,oL.data≠ .fields es)/\(∀p∈fl,p∈D)/\(∀r∈Cl,r.1≠c.env.locals)/\
  ∀P' wM D' h',P'.map (·.1)=P.map (·.1)->(∀p∈c.free,p∈P')->wM.data=oL.data->au G ((c.env.locals,wM)::(Cl++P')) D' h'->(∀p∈D,p∈D')->∀je:kA,(∀p∈je,bw D' p.1 p.2)->FS G c ⟨P',fl⟩ ρ (je++τ) h':=by
 refine d8 F fun D C m X=>?_; clear F;refine ex X.around fun oL W=>?_;have hL:=(W.pin _ (mR ((.head _)))).1;refine jt X.fr.ns fun o1 Uv Uw h1 h2 h3=>?_;have e0:o1=oL:=by rw [hL] at h1; exact (aH h1).symm
 subst e0;refine ⟨o1,C.led,D,W,X.tm,fun q hq=>⟨Ne.symm (X.nw q (mR ((mR hq)))).2.1,fun r hr=>?_⟩,(fun es e=>by rw [h2] at e; cases e),X.fl,fun r hr=>(X.nw r (mR ((mL hr)))).2.1,?_⟩
 ·refine l8 hr fun y hy=>?_;exact X.cp y hy q hq
 intro P' wM D' h' hA qy hd W' hs je ht;have SI:h'.get? c.env.locals=some wM:=(W'.pin _ (mR ((.head _)))).1;have memC: ∀p∈C.led,p∈ (c.env.locals,wM)::(C.led++P'):=fun p hp=>.tail _ (mL hp);have uH: ∀p∈P',p∈ (c.env.locals,wM)::(C.led++P'):=fun p hp=>.tail _ (mR hp);refine ⟨D',C,m,⟨⟨⟨wM,Uv,Uw,SI,by rw [hd]; exact h2,h3⟩,W'.keep,X.fr.above⟩,fun p hp=>?_,fun p hp q hq=>?_,X.cn,X.cd,X.ca,fun x hx q hq=>?_,X.ck,qy,fun p hp=>hs p (X.fl p hp),fun x d e=>?_,fun p hp=>?_⟩⟩
 ·refine cE hp (fun hp=>?_) (fun hp=>?_)
  ·have q:=W'.pin p (mL hp);exact ⟨q.1,W'.ap p hp _ (.head _),q.2⟩
  ·refine cE hp (fun hp=>?_) (fun hp=>?_)
   ·have q:=W'.pin p (mR ((memC p hp)));exact ⟨q.1,(X.nw p (mR ((mL hp)))).2.1,q.2⟩
   ·have q:=W'.pin p (mR ((uH p hp)));refine bQ (pS hA hp) fun z hz e=>?_;exact ⟨q.1,e ▸ (X.nw z (mR ((mR hz)))).2.1,q.2⟩
 ·exact cE hq (fun hq=>W'.ap p hp q (memC q hq)) fun hq=>W'.ap p hp q (uH q hq)
 ·refine bQ (pS hA hq) fun z hz e=>?_;rw [<- e]; exact X.cp x hx z hz
 ·refine bQ (X.vr x d e) fun v a b=>?_;exact ⟨v,a,b.mono hs⟩
 ·exact cE hp (fun hp=>ht p hp) fun hp=>(X.tm p hp).mono hs
theorem yS (hz:b.size<=1000):gR prog w G n (.dat (.bytes b)) (decide (0 < b.size)):=.mk fun A E Q Φ D v1 s a W hv h=>by
 refine yE hv fun _=>?_;refine truthy_bytes (Nat.le_trans ‹_› (by decide)) ?_;have e:((b.size:Int) != 0)=decide (0 < b.size):=by
  cases b.size with
  | zero=>rfl
  | succ n=>simp; exact n6 (sq _)
 rw [e];exact h _ ⟨rfl,rfl⟩ rfl
theorem G6 (hz:b.size<=1000):bJ prog w G n (.builtin "len") [.dat (.bytes b)] (.dat (.int b.size)):=.nB fun A E Q Φ D v1 s a W q h=>by
 refine yE q fun _=>?_;exact len_bytes (Nat.le_trans ‹_› (by decide)) (h _ _ ⟨rfl,rfl⟩ rfl (.int _ _))
theorem Ev.Ux {slice:Expr} {l:List UInt8} {k:Int} (h1:Ev prog w G n c ρ value (.dat (.bytes l.toArray))) (h2:Ev prog w G n c ρ slice (.dat (.int k))) (h0:0<=k) (hx:k < l.length) (hz:l.length<=1000) (hs: ∀o i,iu slice false o i=nM [o,i] (lW o i):=by intros; rfl):Ev prog w G n c ρ (.Subscript value slice pos) (.dat (.int (l.getD k.toNat 0).toNat)):=.mk fun A E Q Φ τ s a F h=>
 Ci (h1.go A E _ Φ τ s a F fun v1 s1 m1 F1=>h2.go A E _ Φ _ s1 a F1 fun v2 s2 m2 F2=>by
  refine d8 F2 fun D C m X=>iE X.d0 fun _=>yE X.d1 fun _=>?_;exact Vh (HP _ _ _) FB.slot_bytes_getitem.lookup (getItem_bytes (Nat.le_trans ‹_› (by decide)) h0 hx (h _ _ ((m1.trans m2).trans ⟨rfl,rfl⟩) ((F2.pop.pop).plus fun _=>.int _ _))) (hs _ _))
variable {K:Frag} {sm fN fI fC fR:Addr} {x Bf:Addr} {u:Nat} {p:Int}
noncomputable abbrev cK (w:bR) (C:Addr) (x dx Bf:Addr) (t1 t2 u:Nat) (b:Array UInt8) (p:Nat):Led:=[(dx,j4 w t1 t2 u Bf p),(x,cL C dx),(Bf,dX b)]
theorem DW {p1 p2 p3:Pos} (T:bL mg mb G) (H:Prog mg G) (B:lU prog w G mg K C sm fN fI fC fR tI tR) (hx:x≠dx) (hB:Bf≠dx) (hP: ∀q∈F1,q.1≠dx) (hz:b.size<=1000) (hp:pn<=b.size) (hk:k<=1000) (K1:fM c.env) (hy:ρ y=some (.val (.ref x))) (he:Ev prog w G (n + 4) c ρ e (.dat (.int k))) (a:cQ (n + 4) A) (F:FS G c ⟨cK w C x dx Bf t1 t2 u b pn++F1,fl⟩ ρ τ s.heap) (qy:c.free=[]) (h: ∀v u' s',Sm s s'->FS G c ⟨cK w C x dx Bf t1 t2 u' b (min (pn + k) b.size)++F1,fl⟩ ρ ((v,.dat (.bytes ((b.toList.drop pn).take k).toArray))::τ) s'.heap->Q v s') {pl:Sem Bool} (hc:eval (.Call (.Attribute (.Name y p1) "read" p2) [e] [] p3) c.env=(do
   let ov <- eval (.Name y p1) c.env
   w7 p2.atName
   let (f,first) <- w9 [ov] (getMethod ov "read" pl)
   eF p3 f first (cI p3 (aC [e] c.env)) (eG p3 (bX [] c.env))):=by rfl) (h1:(y == ("__debug__" :Str))=false:=by decide) (h2:(y == ("__classdict__" :Str))=false:=by decide) (h3:aC [e] c.env=(false,eval e c.env)::aC [] c.env:=by rfl):ak (aq prog w) A (eval (.Call (.Attribute (.Name y p1) "read" p2) [e] [] p3) c.env) Q E s:=by
 refine EH ((Ev.name (n:=n + 4) K1 hy h1 h2).pX _ _ _ _ _ s a F fun s1 m1 uV=>?_) hc;refine method_fn (B.X.keeps uV.top) (z8 uV (.tail _ (.head _)) (.head _)) (kU B.pg).1 (kU B.pg).2 B.Uc B.tyR (by rfl) ?_;refine callWith_K B.X B.keepR ((ic.one he h3).CR _ _ _ _ _ s1 _ a uV.pop fun v2 s2 m2 F2=>⟨B.X.keeps F2.top,?_⟩) h3;refine ju F2.J9 fun oL Cl D W ht hd hf wk mh back=>?_;have W2:au G (cK w C x dx Bf t1 t2 u b pn++((c.env.locals,oL)::(Cl++F1))) D s2.heap:=W.sub fun q hq=>by
  exact cE hq (fun hq=>.tail _ (mR ((mL hq)))) fun hq=>bU hq (.head _) fun hq=>cE hq (fun hq=>.tail _ (mL hq)) fun hq=>.tail _ (mR ((mR hq)))
 refine J8 T H B a hx hB (fun q hq=>?_) hz hp hk W2 (ht (v2,.dat (.int k)) (.head _)) fun r u' s' D' OL W' hD hr=>?_
 ·exact bU hq ((hd _ (.head _)).1) fun hq=>cE hq (fun hq=>(hd _ (.head _)).2 q hq) fun hq=>hP q hq
 have W3:au G (cK w C x dx Bf t1 t2 u' b (min (pn + k) b.size)++((c.env.locals,oL)::(Cl++F1))) D' s'.heap:=W';refine h r u' s' ((m1.trans m2).trans OL) ((back (cK w C x dx Bf t1 t2 u' b (min (pn + k) b.size)++F1) oL D' s'.heap rfl (by rw [qy]; exact nm) rfl (W3.sub fun q hq=>?_) hD [(r,.dat (.bytes ((b.toList.drop pn).take k).toArray))] fun p hp=>?_).temps fun p hp=>?_)
 ·exact bU hq (mR ((.head _))) fun hq=>cE hq (fun hq=>mR ((.tail _ (mL hq)))) fun hq=>cE hq (fun hq=>mL hq) fun hq=>mR ((.tail _ (mR hq)))
 ·refine bU hp ?_ (fun hp=>?_)
  ·exact hr
  ·cases hp
 ·exact bU hp (.head _) fun hp=>.tail _ (.tail _ hp)
end
end
section
open PySem.Builtin
theorem BY {σ:Type} (l:List UInt8) (st:σ) (f:Nat->(Nat × Array Nat × σ)->Sem (ForInStep (Nat × Array Nat × σ))) (hf: ∀i p (out:Array Nat),p < l.length->out.size<=l.length->f i (p,out,st)=pure (.yield (p + 1,out++[(l.getD p 0).toNat].toArray,st))):
  ∀(m j k:Nat),k + m=l.length->forIn (List.range' j m) (k,((l.take k).map (·.toNat)).toArray,st) f=pure (l.length,(l.map (·.toNat)).toArray,st):=by
 intro m
 induction m with
 | zero=>
  intro j k e;rw [List.range'_zero,List.forIn_nil,show k=l.length by lia,List.take_length]
 | succ m ih=>
  intro j k e;rw [List.range'_succ,List.forIn_cons,hf _ _ _ (e ▸ Nat.lt_add_of_pos_right (Nat.succ_pos m)) (by simp; exact Nat.min_le_right _ _),pure_bind];have e2:((l.take k).map (·.toNat)).toArray++[(l.getD k 0).toNat].toArray=((l.take (k + 1)).map (·.toNat)).toArray:=by
   rw [List.getD_eq_getElem?_getD,List.getElem?_eq_getElem (show k < l.length by exact e ▸ Nat.lt_add_of_pos_right (Nat.succ_pos m))];simp;rw [List.take_add_one,List.getElem?_map,List.getElem?_eq_getElem (show k < l.length by exact e ▸ Nat.lt_add_of_pos_right (Nat.succ_pos m))]
   rfl
  dsimp only;rw [e2];exact ih (j + 1) (k + 1) ((Nat.add_right_comm k 1 m).trans e)
theorem DX (id:String) (l:List UInt8) (hz:l.length<=1000):_codecs.runDecoder id _codecs.latin1Decoder none true l.toArray 0 []=pure ((l.map (·.toNat)).toArray,l.length):=by
 unfold _codecs.runDecoder;simp only [LD,LF];have hs:l.length<=bF:=sl hz;have main:=BY l ({}:_codecs.Faults) (fun x __s=>
      if __s.snd.fst.size > bF then do
       sD "str:memory"
       if __s.fst >= l.toArray.size then pure (ForInStep.done (__s.fst,__s.snd.fst,__s.snd.snd))
        else
         match _codecs.latin1Decoder.find true l.toArray __s.fst with
         | _codecs.Found.text cs nx=>pure (be (nx,__s.snd.fst++cs.toArray,__s.snd.snd))
         | _codecs.Found.refuse tag=>do
          sD (toString id++toString ":" ++toString tag)
          pure (be (__s.fst,__s.snd.fst,__s.snd.snd))
         | _codecs.Found.bad stop reason mayGrow=>
          if (mayGrow && !true)=true then do
           rule (toString id++toString ".held-back")
           pure (ForInStep.done (__s.fst,__s.snd.fst,__s.snd.snd))
          else do
           rule (toString id++toString ".fault")
           let __x <-
            _codecs.decodeFault id __s.snd.snd none _codecs.latin1Decoder.own _codecs.latin1Decoder.name
              l.toArray __s.fst stop reason
           pure (be (__x.2.snd,__s.snd.fst++__x.2.fst,__x.fst))
      else
       if __s.fst >= l.toArray.size then pure (ForInStep.done (__s.fst,__s.snd.fst,__s.snd.snd))
       else
        match _codecs.latin1Decoder.find true l.toArray __s.fst with
        | _codecs.Found.text cs nx=>pure (be (nx,__s.snd.fst++cs.toArray,__s.snd.snd))
        | _codecs.Found.refuse tag=>do
         sD (toString id++toString ":" ++toString tag)
         pure (be (__s.fst,__s.snd.fst,__s.snd.snd))
        | _codecs.Found.bad stop reason mayGrow=>
         if (mayGrow && !true)=true then do
          rule (toString id++toString ".held-back")
          pure (ForInStep.done (__s.fst,__s.snd.fst,__s.snd.snd))
         else do
          rule (toString id++toString ".fault")
          let __x <-
           _codecs.decodeFault id __s.snd.snd none _codecs.latin1Decoder.own _codecs.latin1Decoder.name
             l.toArray __s.fst stop reason
          pure (be (__x.2.snd,__s.snd.fst++__x.2.fst,__x.fst))) (fun i p out hp ho=>by
   dsimp only;rw [if_neg (Nat.not_lt.mpr (Nat.le_trans ho hs)),if_neg (by rw [List.size_toArray]; exact Nat.not_le.mpr hp)]
   show pure (be (p + 1,out++[(l.toArray.getD p 0).toNat].toArray,_))=_
   simp [EF,List.getD_eq_getElem?_getD,hp]) ((l.toArray.size - 0 + 1 - 1) / 1) 0 0 (by simp)
 rw [List.take_zero] at main;rw [show (0, #[],({}:_codecs.Faults))=(0,(List.map (fun x:UInt8=>x.toNat) []).toArray,({}:_codecs.Faults)) from rfl]
 erw [main]
 rw [pure_bind]
theorem G7 (t u:Tok):Builtin.«bytes.decode» ⟨[.bytes #[] t,.str "latin-1" u],[]⟩=(rule "bytes.decode.empty" >>= fun _=>VG gm >>= fun v=>ret v):=by kernel_rfl
theorem Ka (b:Array UInt8) (id:String):_codecs.decodeRoad id b (pG "latin-1") none []=(_codecs.runDecoder id _codecs.latin1Decoder none true b 0 [] >>= fun r=>VG ⟨r.1⟩):=by kernel_rfl
theorem DY (c:UInt8) (cs:List UInt8) (t u:Tok):Builtin.«bytes.decode» ⟨[.bytes (c::cs).toArray t,.str "latin-1" u],[]⟩=(VG (aR "utf-8") >>= fun e0=>VG (aR "latin-1") >>= fun e=>VG (aR "bytes.decode") >>= fun d=>
  call (.builtin "_codecs.decode.text") [.bytes (c::cs).toArray t,e,.none,d] >>= fun v=>ret v):=by
 kernel_rfl
noncomputable def yT (l:List UInt8):Str:=⟨(l.map (·.toNat)).toArray⟩
theorem BZ (l:List UInt8) {t t1 t2:Tok} {d:Str} (hz:l.length<=1000):
  K7 (Builtin.«_codecs.decode.text» ⟨[.bytes l.toArray t,.str (pG "latin-1") t1,.none,.str d t2],[]⟩) (fun _ R s=>∀t' k,R (.ok (.ret (.str (yT l) t'))) { s with toks:=k }):=by
 refine .of_wp fun prog w A R s h=>?_;refine (?_:ak _ _ (Bytes.bytesLike _ (.bytes l.toArray t) >>= fun r=>_) _ _ s);refine ae (cH KBd.like_eq ?_);refine ae (cH KBd.held_eq ?_);refine (?_:ak _ _ (_codecs.decodeRoad _ l.toArray (pG "latin-1") none [] >>= fun v=>_) _ _ s);rw [Ka,DX _ _ hz];refine ae (ae (ah ?_));exact sF (ah ⟨_,rfl,h _ _⟩) (by refine (?_:(List.map _ l).toArray.size<=bF); rw [List.size_toArray,List.length_map]; exact sl hz)
theorem Ag (l:List UInt8) {t u:Tok} (hz:l.length<=1000):
  K7 (Builtin.«bytes.decode» ⟨[.bytes l.toArray t,.str "latin-1" u],[]⟩) (fun _ R s=>∀t' k,R (.ok (.ret (.str (yT l) t'))) { s with toks:=k }):=by
 refine .of_wp fun prog w A R s h=>?_;cases l with
 | nil=>
  rw [G7];exact ae (ji (ae (sF (ah ⟨_,rfl,h _ _⟩) (by decide))))
 | cons c cs=>
  rw [DY];refine ae (sF ?_ (by decide));refine ae (sF ?_ (by decide));refine ae (sF ?_ (by decide));exact ae (call_function_meets KBd.kind_text KBd.plain_text KBd.entry_text (KBd.args_text _ _ _ _) (BZ _ hz) fun t' k=>ah ⟨_,rfl,h _ _⟩)
theorem Ah (a b:ai):gk "bytes.decode" ⟨[a,b],[]⟩:=by unfold gk; kernel_rfl
theorem Kind.bytes:Kind (.dat (.bytes b)) "bytes":=fun D v s hD h=>by
 exact yE h fun _=>⟨HP _ _ _,fun a e=>nomatch e⟩
section
theorem B0 {l:List UInt8} (hz:l.length<=1000):bJ prog w G n (.builtin "bytes.decode") [.dat (.bytes l.toArray),.dat (.str "latin-1")] (.dat (.str (yT l))):=.rE fun A E Q Φ D v1 v2 s a W h1 h2 h=>by
 refine yE h1 fun _=>sE h2 fun _=>?_;exact kr FI (HP _ _ _) FB.entry_bytes_decode (Ah _ _) (Ag l hz) fun t' k=>h _ _ ⟨rfl,rfl⟩ rfl (.str _ _)
theorem DZ {Φ:Led} {name:Str} {ds:List Sv} (T:bL mg mb G) (hA:cQ (n + 1) A) (dM:au G Φ D₀ s₀.heap) (hf:Fn mg G name i) (ie: ∀pm cd doc,gw (docDef name (argsAt i) (dh i) (aG i) pm cd doc) ⟨us,[]⟩=pure (xs.zip us)) (hu:bP D₀ us ds) (hlen:xs.length=ds.length) (hk:(xs.all fun x=>(aG i).names.lookup x == some .local || (aG i).names.lookup x == some .cell)=true) (gW:(ownOf (aG i)).Nodup) (Jj: ∀(L:Addr) (cd:ai) (D:Led),(∀p∈D₀,p∈D)->fM (envOfC name (aG i) L (adr mg name) cd)->∀s,Sm s₀ s->cQ n (A.deeper (envOfC name (aG i) L (adr mg name) cd))->FS G ⟨envOfC name (aG i) L (adr mg name) cd,ownOf (aG i),[]⟩ ⟨Φ,D⟩ (eu (xs.zip ds) fun _=>none) [] s.heap->
   ak (aq prog w) (A.deeper (envOfC name (aG i) L (adr mg name) cd)) (ik (dh i) (envOfC name (aG i) L (adr mg name) cd)) (fun f s'=>Q (match f with | .ret v=>v | _=>.none) s')
    (fun e s'=>ak (aq prog w) (A.deeper (envOfC name (aG i) L (adr mg name) cd)) (nO (envOfC name (aG i) L (adr mg name) cd) e) (fun _ mU=>E e mU) (fun e' mU=>E e' mU) s') s) (vy:(aG i).isCoroutine=false:=by rfl) (kI:(aG i).isGenerator=false:=by rfl) (uw:(aG i).kind=.function:=by rfl):ak (aq prog w) A (call (.ref (adr mg name)) us) Q E s₀:=by
 refine fF hf.at' fun o pm cd doc ho hd sI=>?_;exact zP T hA dM (dM.keep _ _ ho) hd rfl rfl rfl rfl rfl rfl rfl (sI.keeps dM.keep) (fun E' Q' h=>by rw [ie pm cd doc]; exact ah (h us _ _ (Sm.refl _) dM (fun _ h=>h) hu)) hlen hk gW (fun L D hs=>Jj L cd D hs) vy kI uw
variable {K:Frag} {sm fN fI fC fR:Addr} {x Bf:Addr} {u:Nat}
theorem G8 {Φ:Led} (T:bL mg mb G) (H:Prog mg G) (B:lU prog w G mg K C sm fN fI fC fR tI tR) (hA:cQ (n + 5) A) (hx:x≠dx) (hB:Bf≠dx) (hP: ∀q∈Φ,q.1≠dx) (hz:b.size<=1000) (hp:pn < b.size) (dM:au G (cK w C x dx Bf t1 t2 u b pn++Φ) D₀ s₀.heap) (hq: ∀r u' s' D',Sm s₀ s'->au G (cK w C x dx Bf t1 t2 u' b (pn + 1)++Φ) D' s'.heap->(∀p∈D₀,p∈D')->bw D' r (.dat (.int (b.toList.getD pn 0).toNat))->Q r s'):ak (aq prog w) A (call (.ref (adr mg "read_uint1")) [.ref x]) Q E s₀:=by
 refine DZ (n:=n + 4) (xs:=["f"]) (ds:=[.val (.ref x)]) T hA dM H.tY (fun pm cd doc=>rfl) (.cons rfl .nil) rfl (by decide +kernel) (by decide +kernel) (fun L cd D hs K1 s sm fV F=>?_);refine bD (aZ (DW (n:=n) (k:=1) T H B hx hB hP hz (Nat.le_of_lt ‹_›) (Nat.le_add_left _ _) K1 rfl Ev.int fV F rfl fun v1 u1 s1 m1 F1=>store K1 F1 (.inl rfl) fun s2 m2 F2=>?_));have hl:((b.toList.drop pn).take 1).length=1:=by rw [List.length_take,List.length_drop,bZ]; exact Nat.min_eq_left (Nat.sub_pos_of_lt hp)
 rw [show min (pn + 1) b.size=pn + 1 by exact Nat.min_eq_left hp] at F2;refine bD ((Xs.RX (Et.is (Et.plain (Ev.name K1 rfl) (yS (by rw [List.size_toArray,hl]; lia))) (by rw [List.size_toArray,hl]; rfl)) (Ex.stop (Xs.ret (Ev.Ux (Ev.name K1 rfl) Ev.int (by decide) (by rw [hl]; decide) (by rw [hl]; decide))))).go _ _ _ _ _ s2 fV F2 fun v3 s3 m3 F3=>?_);refine iU F3.leave fun D' W' BR h'=>?_;refine hq v3 u1 s3 D' (((sm.trans m1).trans m2).trans m3) W' (fun p hp=>BR p (hs p hp)) ?_;have e:(List.take 1 (List.drop pn b.toList)).getD (hU 0) 0=b.toList.getD pn 0:=by
  rw [List.getD_eq_getElem?_getD,List.getD_eq_getElem?_getD];refine (?_:((List.take 1 (List.drop pn b.toList))[0]?).getD 0=_);rw [List.getElem?_take_of_lt (Nat.zero_lt_succ _),List.getElem?_drop]
  rfl
 rw [e] at h';exact h'
end
end
section
open PySem.Builtin
@[irreducible] noncomputable def jB (prog:br) (w:bR) (G:Heap) (n:Nat) (C x dx Bf:Addr) (t1 t2:Nat) (b:Array UInt8) (f:Addr) (pn Kc:Nat) (d:Sv):Prop:=
 ∀(A:aM) (E:ai->aj->Prop) (Q:ai->aj->Prop) (s₀:aj) (Φ D₀:Led) (u:Nat),cQ n A->(∀q∈Φ,q.1≠dx)->au G (cK w C x dx Bf t1 t2 u b pn++Φ) D₀ s₀.heap->
  (∀r u' s' D',Sm s₀ s'->au G (cK w C x dx Bf t1 t2 u' b Kc++Φ) D' s'.heap->(∀p∈D₀,p∈D')->bw D' r d->Q r s')->ak (aq prog w) A (call (.ref f) [.ref x]) Q E s₀
theorem jB.mk {x Bf:Addr} {f:Addr} {Kc:Nat} (h: ∀(A:aM) (E:ai->aj->Prop) (Q:ai->aj->Prop) (s₀:aj) (Φ D₀:Led) (u:Nat),cQ n A->(∀q∈Φ,q.1≠dx)->au G (cK w C x dx Bf t1 t2 u b pn++Φ) D₀ s₀.heap->
  (∀r u' s' D',Sm s₀ s'->au G (cK w C x dx Bf t1 t2 u' b Kc++Φ) D' s'.heap->(∀p∈D₀,p∈D')->bw D' r d->Q r s')->ak (aq prog w) A (call (.ref f) [.ref x]) Q E s₀):jB prog w G n C x dx Bf t1 t2 b f pn Kc d:=by with_unfolding_all exact h
theorem jB.go {x Bf:Addr} {f:Addr} {Kc:Nat} (h:jB prog w G n C x dx Bf t1 t2 b f pn Kc d): ∀(A:aM) (E:ai->aj->Prop) (Q:ai->aj->Prop) (s₀:aj) (Φ D₀:Led) (u:Nat),cQ n A->(∀q∈Φ,q.1≠dx)->au G (cK w C x dx Bf t1 t2 u b pn++Φ) D₀ s₀.heap->
  (∀r u' s' D',Sm s₀ s'->au G (cK w C x dx Bf t1 t2 u' b Kc++Φ) D' s'.heap->(∀p∈D₀,p∈D')->bw D' r d->Q r s')->ak (aq prog w) A (call (.ref f) [.ref x]) Q E s₀:=by with_unfolding_all exact h
section
variable {K:Frag} {sm fN fI fC fR:Addr} {x Bf:Addr} {u:Nat}
theorem wN (T:bL mg mb G) (H:Prog mg G) (B:lU prog w G mg K C sm fN fI fC fR tI tR) (hx:x≠dx) (hB:Bf≠dx) (hz:b.size<=1000) (hp:pn < b.size):jB prog w G (n + 5) C x dx Bf t1 t2 b (adr mg "read_uint1") pn (pn + 1) (.dat (.int (b.toList.getD pn 0).toNat)):=
 .mk fun A E Q s₀ Φ D₀ u a hP W h=>G8 T H B a hx hB hP hz hp W h
theorem M4 {fn:Str} {p0 p1 p3:Pos} {Kc:Nat} (T:bL mg mb G) (hf:Fn mg G fn i) (P:jB prog w G n C x dx Bf t1 t2 b (adr mg fn) pn Kc d) (hP: ∀q∈F1,q.1≠dx) (K1:fM c.env) (hk:c.env.kindOf fn=some .globalImplicit) (hy:ρ y=some (.val (.ref x))) (a:cQ n A) (F:FS G c ⟨cK w C x dx Bf t1 t2 u b pn++F1,fl⟩ ρ τ s.heap) (qy:c.free=[]) (h: ∀v u' s',Sm s s'->FS G c ⟨cK w C x dx Bf t1 t2 u' b Kc++F1,fl⟩ ρ ((v,d)::τ) s'.heap->Q v s') (h0:(fn == ("__debug__" :Str))=false:=by decide +kernel) (h1:(y == ("__debug__" :Str))=false:=by decide +kernel) (h2:(y == ("__classdict__" :Str))=false:=by decide +kernel) (h3:aC [.Name y p1] c.env=(false,eval (.Name y p1) c.env)::aC [] c.env:=by rfl) (hc:eval (.Call (.Name fn p0) [.Name y p1] [] p3) c.env=(do eF p3 (<- eval (.Name fn p0) c.env) [] (cI p3 (aC [.Name y p1] c.env)) (eG p3 (bX [] c.env))):=by rfl):
  ak (aq prog w) A (eval (.Call (.Name fn p0) [.Name y p1] [] p3) c.env) Q E s:=by
 refine fF hf.at' fun o pm cd doc ho hd _=>?_;refine kT ((Ev.global (n:=n) T K1 hk hf.name h0).pX A E _ _ τ s a F fun s1 m1 uV=>?_) hc;refine kZ (h':=G) ho hd ((ic.one (Ev.name (n:=n) K1 hy h1 h2) h3).FN A E _ _ _ s1 _ a uV.pop fun s2 m2 F2=>⟨F2.top _ _ ho,?_⟩) h3;refine ju F2.J9 fun oL Cl D W ht hd hf wk mh back=>?_;have W2:au G (cK w C x dx Bf t1 t2 u b pn++((c.env.locals,oL)::(Cl++F1))) D s2.heap:=W.sub fun q hq=>by
  exact cE hq (fun hq=>.tail _ (mR ((mL hq)))) fun hq=>bU hq (.head _) fun hq=>cE hq (fun hq=>.tail _ (mL hq)) fun hq=>.tail _ (mR ((mR hq)))
 refine P.go A E _ s2 _ _ u a (fun q hq=>?_) W2 fun r u' s' D' OL W' hD hr=>?_
 ·exact bU hq ((hd _ (.head _)).1) fun hq=>cE hq (fun hq=>(hd _ (.head _)).2 q hq) fun hq=>hP q hq
 refine h r u' s' ((m1.trans m2).trans OL) ((back (cK w C x dx Bf t1 t2 u' b Kc++F1) oL D' s'.heap rfl (by rw [qy]; exact nm) rfl (W'.sub fun q hq=>?_) hD [(r,d)] fun p hp=>?_).temps fun p hp=>?_)
 ·exact bU hq (mR ((.head _))) fun hq=>cE hq (fun hq=>mR ((.tail _ (mL hq)))) fun hq=>cE hq (fun hq=>mL hq) fun hq=>mR ((.tail _ (mR hq)))
 ·refine bU hp ?_ (fun hp=>?_)
  ·exact hr
  ·cases hp
 ·exact bU hp (.head _) fun hp=>.tail _ (.tail _ hp)
theorem Ea {l:List UInt8} (T:bL mg mb G) (H:Prog mg G) (B:lU prog w G mg K C sm fN fI fC fR tI tR) (hx:x≠dx) (hB:Bf≠dx) (hz:b.size<=1000) (hk:(b.toList.getD pn 0).toNat=k) (hp:pn + 1 + k<=b.size) (hl:(b.toList.drop (pn + 1)).take k=l):
  jB prog w G (n + 6) C x dx Bf t1 t2 b (adr mg "read_string1") pn (pn + 1 + k) (.dat (.str (yT l))):=.mk fun A E Q s₀ Φ D₀ u hA hP dM hq=>by
 have R3:l.length=k:=by rw [<- hl,List.length_take,List.length_drop,bZ]; exact Nat.min_eq_left (Nat.le_sub_of_add_le (Nat.le_trans (Nat.le_of_eq (Nat.add_comm k _)) hp))
 refine DZ (n:=n + 5) (xs:=["f"]) (ds:=[.val (.ref x)]) T hA dM H.zw (fun pm cd doc=>rfl) (.cons rfl .nil) rfl (by decide +kernel) (by decide +kernel) (fun L cd D hs K1 s sm fV F=>?_);refine bD (aZ (M4 (n:=n + 5) T H.tY (wN (n:=n) (pn:=pn) T H B hx hB hz (Nat.le_trans (Nat.le_add_right _ k) hp)) hP K1 rfl rfl fV F rfl fun v1 u1 s1 m1 F1=>store K1 F1 (.inl rfl) fun s2 m2 F2=>?_));rw [hk] at F2;refine bD (wpAny_Assert_new fV.handled ((Et.cmp (n:=n + 5) (Ev.name K1 rfl) Ev.int JQ gR.bool).go _ _ _ _ _ s2 fV F2 fun s3 m3 F3=>?_));rw [decide_eq_true (by exact aS _),if_pos rfl];have Yt:k < 256:=by rw [<- hk]; exact UInt8.toNat_lt _
 refine bD (aZ (DW (n:=n + 1) (k:=k) T H B hx hB hP hz (Nat.le_trans (Nat.le_add_right _ k) hp) (lK (Nat.le_of_lt Yt)) K1 rfl (Ev.name K1 rfl) fV F3 rfl fun v4 u4 s4 m4 F4=>store K1 F4 (.inl rfl) fun s5 m5 F5=>?_));rw [show min (pn + 1 + k) b.size=pn + 1 + k by exact Nat.min_eq_left ‹_›,hl] at F5;refine bD ((Xs.RX (Et.cmp (d:=.dat (.bool true)) (Ev.iV (Ev.bi T H K1 rfl (by decide +kernel)) (.one (Ev.name K1 rfl)) (G6 (b:=l.toArray) (by rw [List.size_toArray]; exact Nat.le_trans (Nat.le_of_eq R3) (lK (Nat.le_of_lt Yt))))) (Ev.name K1 rfl) (vA rfl rfl ⟨fun _=>by rw [List.size_toArray,R3],fun _=>rfl⟩) gR.bool)
  (Ex.stop (Xs.ret (Ev.ux FB.plainAttrs_bytes FI FB.type_bytes_decode Kind.bytes (Ev.name K1 rfl) (.one Ev.str) (B0 (Nat.le_trans (Nat.le_of_eq R3) (lK (Nat.le_of_lt Yt)))))))).go _ _ _ _ _ s5 fV F5 fun v6 s6 m6 F6=>?_)
 refine iU F6.leave fun D' W' BR h'=>?_;exact hq v6 u4 s6 D' ((((((sm.trans m1).trans m2).trans m3).trans m4).trans m5).trans m6) W' (fun p hp=>BR p (hs p hp)) h'
end
end
section
open PySem.Builtin
theorem rZ {base:Heap}: ∀{l:List Env},(∀env∈l,env.scope.kind≠ .module/\∃L o,env.frame=some L/\base.get? L=none/\h.get? L=some o/\∀vs,o.data≠ .fields vs)->h.FunFrames base l
 | [],_=>trivial
 | env::l,k=>⟨(k env (.head _)).1,(k env (.head _)).2,rZ fun e he=>k e (.tail _ he)⟩
noncomputable def pT (P:Led) (outer:List Env):Prop:=∀env∈outer,env.scope.kind≠ .module/\∃L o,env.frame=some L/\(L,o)∈P/\∀vs,o.data≠ .fields vs
structure Ai (G:Heap) (outer:List Env) (P D:Led) (e t:Addr) (X:String) (vs:List ai) (h:Heap):Prop where
 go: ∃B:Heap,(∀b o,G.get? b=some o->B.get? b=some o)/\(∀p∈D++P,p.1∉outer.filterMap (·.frame)->B.get? p.1=some p.2)/\Pb B outer e (.type X) (.ref t) h/\B.get? t=none
 tup:h.TupAt t vs
 up: ∀p∈P,p.1∈outer.filterMap (·.frame)->(∀vs,p.2.data≠ .fields vs)->∃sl,h.get? p.1=some { p.2 with slots:=sl }
 gn: ∀p∈D++P,G.get? p.1=none
 ap: ∀p∈D,∀q∈P,p.1≠q.1
 sz:G.objs.size<=h.objs.size
section
variable {K:Frag} {sm fN fI fC fR:Addr} {x Bf:Addr} {u:Nat}
theorem FS.raised {outer:List Env} {Q:Unit->aj->Prop} {P:Led} {s':aj} {e:Addr} {X:String} {name:Str} {L:Addr} (F:FS G ⟨envOfC name scope L a cd,own,[]⟩ ⟨P,fl⟩ ρ τ h) (qy:A.frames=some outer) (hP:pT P outer) (hk:scope.kind=.function) (hx:Heap.MadeExc h s'.heap e X vs) (hq: ∀t h' D',Ai G outer P D' e t X vs h'->(∀p∈fl,p∈D')->(∀p∈τ,bw D' p.1 p.2)->Q () { s' with heap:=h' }):ak (aq prog w) (A.deeper (envOfC name scope L a cd)) (nO (envOfC name scope L a cd) (.ref e)) Q E s':=by
 refine d8 F fun D C0 m X0=>?_; clear F;refine ex X0.around fun oL W=>?_
 let S:=(envOfC name scope L a cd::outer).filterMap (·.frame)
 have hS:S=L::outer.filterMap (·.frame):=rfl;have uH: ∀b∈outer.filterMap (·.frame),∃o,(b,o)∈P/\∀vs,o.data≠ .fields vs:=fun b hb=>by
  refine bQ (List.mem_filterMap.mp hb) fun env he hf=>?_;refine oA (hP env he) fun _ L' o e1 e2 e3=>?_;rw [hf] at e1;obtain rfl:=aH e1;exact ⟨o,e2,e3⟩
 have Kd: ∀p∈P,h.get? p.1=some p.2/\G.get? p.1=none:=fun p hp=>W.pin p (mR ((.tail _ (mR hp))));have hL:=(W.pin _ (mR ((.head _))));refine jt X0.fr.ns fun o1 Uv Uw h1 h2 h3=>?_;have st:(cB h S).StaysIn h:=fun b o q=>CA _ q;have nL: ∀p∈P,p.1≠L:=fun p hp=>(X0.nw p (mR ((mR hp)))).2.1;have gS: ∀b∈S,G.get? b=none:=fun b hb=>by
  rw [hS] at hb;refine bU hb ?_ (fun hb=>?_)
  ·exact hL.2
  ·refine bQ (uH b hb) fun o ho _=>?_;exact (Kd _ ho).2
 refine wpAny_leaves_madeW (base:=cB h S) (cls:=.type X) (args:=vs) (outer:=outer) (L:=L) (h:=h) (by refine (?_:qI _ A.frames=_); rw [qy]; rfl) rfl st (rZ fun env he=>?_) hx.of fun h' t k1 k2 k3 k4=>?_
 ·refine bU he ?_ (fun he=>?_)
  ·exact ⟨by refine (?_:scope.kind≠ .module); rw [hk]; decide,L,o1,rfl,qm _ (.head _),h1,fun vs q=>by rw [h2] at q; cases q⟩
  ·refine oA (hP env he) fun e1 L' o e2 e3 e4=>?_;exact ⟨e1,L',o,e2,qm _ (.tail _ (List.mem_filterMap.mpr ⟨env,he,e2⟩)),(Kd _ e3).1,e4⟩
 ·have v8: ∀p∈D++P,p.1∉outer.filterMap (·.frame)->(cB h S).get? p.1=some p.2:=fun p hp hn=>by
   have q:h.get? p.1=some p.2/\p.1≠L:=by
    refine cE hp (fun hp=>?_) (fun hp=>?_)
    ·have z:=X0.nw p (mL hp);exact ⟨z.1,z.2.1⟩
    ·exact ⟨(Kd p hp).1,nL p hp⟩
   refine eL _ q.1 fun hm=>?_;rw [hS] at hm;refine xA hm (fun hm=>?_) (fun hm=>?_)
   ·exact q.2 hm
   ·exact hn hm
  refine hq t h' D ⟨⟨cB h S,(fun b o q=>eL _ (W.keep b o q) fun hm=>by rw [gS b hm] at q; cases q),v8,k1,k3⟩,k2,fun p hp hm hd=>?_,fun p hp=>?_,fun p hp q hq=>W.ap p hp q (.tail _ (mR hq)),?_⟩ X0.fl X0.tm
  ·exact k4 p.1 p.2 (hx.keeps _ _ (Kd p hp).1) hd
  ·exact cE hp (fun hp=>(X0.nw p (mL hp)).2.2) fun hp=>(Kd p hp).2
  ·have e1:=k4 L o1 (hx.keeps _ _ h1) fun vs q=>by rw [h2] at q; cases q
   refine ex e1 fun sl e1=>?_;exact Nat.le_trans X0.fr.above (Nat.le_of_lt (az e1))
theorem Eb {outer:List Env} {Φ:Led} (T:bL mg mb G) (H:Prog mg G) (B:lU prog w G mg K C sm fN fI fC fR tI tR) (hA:cQ (n + 5) A) (qy:A.frames=some outer) (hx:x≠dx) (hB:Bf≠dx) (hP: ∀q∈Φ,q.1≠dx) (hz:b.size<=1000) (hp:pn=b.size) (hF:pT Φ outer) (dM:au G (cK w C x dx Bf t1 t2 u b pn++Φ) D₀ s₀.heap) (hq: ∀e t u' u2 s' D',Sm s₀ s'->Ai G outer (cK w C x dx Bf t1 t2 u' b pn++Φ) D' e t "ValueError" [.str "not enough data in stream to read uint1" u2] s'.heap->(∀p∈D₀,p∈D')->E (.ref e) s'):ak (aq prog w) A (call (.ref (adr mg "read_uint1")) [.ref x]) Q E s₀:=by
 refine DZ (n:=n + 4) (xs:=["f"]) (ds:=[.val (.ref x)]) T hA dM H.tY (fun pm cd doc=>rfl) (.cons rfl .nil) rfl (by decide +kernel) (by decide +kernel) (fun L cd D hs K1 s sm fV F=>?_);refine bD (aZ (DW (n:=n) (k:=1) T H B hx hB hP hz (Nat.le_of_eq ‹_›) (Nat.le_add_left _ _) K1 rfl Ev.int fV F rfl fun v1 u1 s1 m1 F1=>store K1 F1 (.inl rfl) fun s2 m2 F2=>?_));rw [show min (pn + 1) b.size=pn by exact (Nat.min_eq_right (Nat.le_trans (Nat.le_of_eq hp.symm) (Nat.le_succ pn))).trans hp.symm,List.drop_of_length_le (by rw [bZ]; exact Nat.le_of_eq hp.symm),List.take_nil] at F2;refine bD ((Xs.Ay (Et.plain (b:=false) (Ev.name K1 rfl) (yS (b:=[].toArray) (by decide))) Ex.nil).go _ _ _ _ _ s2 fV F2 fun s3 m3 F3=>?_);refine bD (Raise_madeB PySem.F.excCall_ValueError PySem.F.excRaise_ValueError fV.handled ((Ev.bi (n:=n + 4) (v:=.type "ValueError") T H K1 rfl (by decide +kernel)).go _ _ _ _ _ s3 fV F3 fun v4 s4 m4 F4=>⟨?_,(ic.one (Ev.str (n:=n + 4))).CR _ _ _ _ _ s4 _ fV F4.pop fun v5 s5 m5 F5=>?_⟩))
 ·exact F4.isVal
 obtain ⟨u2,rfl⟩: ∃u2,v5=.str "not enough data in stream to read uint1" u2:=by
  refine bQ F5.heldBy fun _ _ t=>?_;exact jj (t _ (.head _))
 refine ⟨sl (by simp),fun h' e hm=>?_⟩;refine FS.raised (s':={ s5 with heap:=h' }) F5 qy (fun env he=>?_) rfl hm fun t h2 D' aw wk ht=>hq e t u1 u2 _ D' ⟨(((((sm.trans m1).trans m2).trans m3).trans m4).trans m5).gens,(((((sm.trans m1).trans m2).trans m3).trans m4).trans m5).os⟩ aw fun p hp=>wk p (hs p hp);refine oA (hF env he) fun e1 L' o e2 e3 e4=>?_;exact ⟨e1,L',o,e2,mR e3,e4⟩
end
end
section
open PySem.Builtin
structure iB (S:List Addr) (P:Led) (g:Addr × Obj->Addr × Obj):Prop where
 fst: ∀p∈P,(g p).1=p.1
 off: ∀p∈P,p.1∉S->g p=p
 on: ∀p∈P,p.1∈S->∃sl,(g p).2={ p.2 with slots:=sl }
theorem iB.sub {S:List Addr} {P P':Led} {g:Addr × Obj->Addr × Obj} (x:iB S P g) (h: ∀p∈P',p∈P):iB S P' g:=⟨fun p hp=>x.fst p (h p hp),fun p hp=>x.off p (h p hp),fun p hp=>x.on p (h p hp)⟩
theorem iB.same {S:List Addr} {P:Led} {g:Addr × Obj->Addr × Obj} (x:iB S P g) (h: ∀p∈P,p.1∉S):P.map g=P:=by
 have:P.map g=P.map _root_.id:=List.map_congr_left fun p hp=>x.off p hp (h p hp);rw [this,List.map_id]
theorem Ai.perm {outer:List Env} {P P':Led} {e t:Addr} {X:String} (x:Ai G outer P D e t X vs h) (hs: ∀p∈P',p∈P):Ai G outer P' D e t X vs h:=by
 have CB: ∀p∈D++P',p∈D++P:=fun p hp=>by
  exact cE hp (fun hp=>mL hp) fun hp=>mR ((hs p hp))
 refine iU x.go fun B b1 b2 b3=>?_;exact ⟨⟨B,b1,fun p hp=>b2 p (CB p hp),b3⟩,x.tup,fun p hp=>x.up p (hs p hp),fun p hp=>x.gn p (CB p hp),fun p hp q hq=>x.ap p hp q (hs q hq),x.sz⟩
theorem Ai.rest {B:Heap} {outer:List Env} {P:Led} {e t:Addr} {X:String} (x:Ai G outer P D e t X vs h) (b1: ∀b o,G.get? b=some o->B.get? b=some o) (b2: ∀p∈D++P,p.1∉outer.filterMap (·.frame)->B.get? p.1=some p.2) (wk:Pb B outer e (.type X) (.ref t) h') (hu:h.UpToSlots h') (ht:B.get? t=none) (hn: ∀p∈P,p.1∈outer.filterMap (·.frame)->∀vs,p.2.data≠ .fields vs) (jk: ∀b∈outer.filterMap (·.frame),∃o,(b,o)∈P) (rC:G.objs.size<=h'.objs.size):
  ∃g oe ot,iB (outer.filterMap (·.frame)) P g/\au G ((e,oe)::(t,ot)::P.map g) D h'/\h'.ExcAt e X (.ref t)/\h'.TupAt t vs/\(∀p∈P,p.1∈outer.filterMap (·.frame)->(∀es ep,p.2.data=.dict es ep->p.1≠e/\p.1≠t))/\(∀p∈P,p.1∉outer.filterMap (·.frame)->p.1≠e/\p.1≠t):=by
 refine H9 wk.first fun oe ws Yu Yv Uy Yw=>?_;have tup:=x.tup.of_slots hu;refine qo tup fun ot nt Yx Yy Uz=>?_; clear tup;have Yz: ∀p∈P,p.1∈outer.filterMap (·.frame)->∃sl,h'.get? p.1=some { p.2 with slots:=sl }:=fun p hp hm=>by
  refine ex (x.up p hp hm (hn p hp hm)) fun sl e1=>?_;refine ex (hu p.1 _ e1 (hn p hp hm)) fun Lw e2=>?_;exact ⟨Lw,e2⟩
 have QL: ∀p∈D++P,p.1∉outer.filterMap (·.frame)->h'.get? p.1=some p.2:=fun p hp hm=>wk.1 _ _ (b2 p hp hm)
 let g:Addr × Obj->Addr × Obj:=fun p=>(p.1,(h'.get? p.1).getD p.2)
 have Sg:iB (outer.filterMap (·.frame)) P g:=⟨fun p hp=>rfl,fun p hp hm=>by
   refine (?_:(p.1,(h'.get? p.1).getD p.2)=p);rw [QL p (mR hp) hm]; rfl,fun p hp hm=>by
   refine ex (Yz p hp hm) fun sl e1=>?_;exact ⟨sl,by refine (?_:(h'.get? p.1).getD p.2=_); rw [e1]; rfl⟩⟩
 have YA: ∀p∈P,h'.get? p.1=some (g p).2:=fun p hp=>by
  by_cases hm:p.1∈outer.filterMap (·.frame)
  ·refine ex (Yz p hp hm) fun sl e1=>?_;refine (?_:h'.get? p.1=some ((h'.get? p.1).getD p.2));rw [e1]; rfl
  ·rw [Sg.off p hp hm]; exact QL p (mR hp) hm
 have Dn: ∀p∈D,p.1∉outer.filterMap (·.frame):=fun p hp hm=>by
  refine ex (jk _ hm) fun o ho=>?_;exact x.ap p hp _ ho rfl
 have ge:G.get? e=none:=by
  cases q:G.get? e with
  | none=>rfl
  | some o=>have:=b1 e o q; rw [wk.2.1] at this; cases this
 have gt:G.get? t=none:=by
  cases q:G.get? t with
  | none=>rfl
  | some o=>have:=b1 t o q; rw [ht] at this; cases this
 have neB: ∀p∈D++P,p.1∉outer.filterMap (·.frame)->p.1≠e/\p.1≠t:=fun p hp hm=>by
  have q:=b2 p hp hm;exact ⟨(fun z=>by rw [z,wk.2.1] at q; cases q),(fun z=>by rw [z,ht] at q; cases q)⟩
 refine ⟨g,oe,ot,Sg,⟨fun b o q=>wk.1 _ _ (b1 b o q),fun p hp=>?_,fun p hp q hq=>?_,?_⟩,⟨oe,ws,Yu,Yv,Uy,Yw⟩,⟨ot,nt,Yx,Yy,Uz⟩,fun p hp hm es ep hd=>?_,fun p hp hm=>neB p (mR hp) hm⟩
 ·refine cE hp (fun hp=>?_) (fun hp=>?_)
  ·exact ⟨QL p (mL hp) (Dn p hp),x.gn p (mL hp)⟩
  ·refine bU hp ?_ (fun hp=>?_)
   ·exact ⟨Yu,ge⟩
   ·refine bU hp ?_ (fun hp=>?_)
    ·exact ⟨Yx,gt⟩
    ·refine l8 hp fun p0 CY=>?_;exact ⟨YA p0 CY,x.gn p0 (mR CY)⟩
 ·have z:=neB p (mL hp) (Dn p hp);refine bU hq ?_ (fun hq=>?_)
  ·exact z.1
  ·refine bU hq ?_ (fun hq=>?_)
   ·exact z.2
   ·refine l8 hq fun p0 CY=>?_;exact x.ap p hp p0 CY
 ·exact rC
 ·refine ex (Yz p hp hm) fun sl e1=>?_;refine ⟨fun z=>?_,fun z=>?_⟩
  ·rw [z,Yu] at e1;have:=congrArg Obj.data (aH e1);rw [Uy] at this;rw [show ({ p.2 with slots:=sl }:Obj).data=p.2.data from rfl,hd] at this;cases this
  ·rw [z,Yx] at e1;have:=congrArg Obj.data (aH e1);rw [Uz] at this;rw [show ({ p.2 with slots:=sl }:Obj).data=p.2.data from rfl,hd] at this;cases this
theorem FS.Ke {P:Led} (F:FS G c ⟨P,fl⟩ ρ τ h): ∃oL Cl D,au G ((c.env.locals,oL)::(Cl++P)) D h/\(∀p∈τ,bw D p.1 p.2)/\(∀q∈P,c.env.locals≠q.1/\∀r∈Cl,r.1≠q.1)/\(∃es ep,oL.data=.dict es ep)/\(∀p∈fl,p∈D)/\(∀r∈Cl,r.1≠c.env.locals)/\G.objs.size<=c.env.locals/\
  ∀P' wM D' h',(∀p∈P',(∃q∈P,q.1=p.1)\/(p.1≠c.env.locals/\∀r∈Cl,r.1≠p.1))->(∀p∈c.free,p∈P')->wM.data=oL.data->au G ((c.env.locals,wM)::(Cl++P')) D' h'->(∀p∈D,p∈D')->∀je:kA,(∀p∈je,bw D' p.1 p.2)->FS G c ⟨P',fl⟩ ρ (je++τ) h':=by
 refine d8 F fun D C m X=>?_; clear F;refine ex X.around fun oL W=>?_;have hL:=(W.pin _ (mR ((.head _)))).1;refine jt X.fr.ns fun o1 Uv Uw h1 h2 h3=>?_;have e0:o1=oL:=by rw [hL] at h1; exact (aH h1).symm
 subst e0;refine ⟨o1,C.led,D,W,X.tm,fun q hq=>⟨Ne.symm (X.nw q (mR ((mR hq)))).2.1,fun r hr=>?_⟩,⟨Uv,Uw,h2⟩,X.fl,fun r hr=>(X.nw r (mR ((mL hr)))).2.1,X.fr.above,?_⟩
 ·refine l8 hr fun y hy=>?_;exact X.cp y hy q hq
 intro P' wM D' h' hA qy hd W' hs je ht;have SI:h'.get? c.env.locals=some wM:=(W'.pin _ (mR ((.head _)))).1;have memC: ∀p∈C.led,p∈ (c.env.locals,wM)::(C.led++P'):=fun p hp=>.tail _ (mL hp);have uH: ∀p∈P',p∈ (c.env.locals,wM)::(C.led++P'):=fun p hp=>.tail _ (mR hp);refine ⟨D',C,m,⟨⟨⟨wM,Uv,Uw,SI,by rw [hd]; exact h2,h3⟩,W'.keep,X.fr.above⟩,fun p hp=>?_,fun p hp q hq=>?_,X.cn,X.cd,X.ca,fun x hx q hq=>?_,X.ck,qy,fun p hp=>hs p (X.fl p hp),fun x d e=>?_,fun p hp=>?_⟩⟩
 ·refine cE hp (fun hp=>?_) (fun hp=>?_)
  ·have q:=W'.pin p (mL hp);exact ⟨q.1,W'.ap p hp _ (.head _),q.2⟩
  ·refine cE hp (fun hp=>?_) (fun hp=>?_)
   ·have q:=W'.pin p (mR ((memC p hp)));exact ⟨q.1,(X.nw p (mR ((mL hp)))).2.1,q.2⟩
   ·have q:=W'.pin p (mR ((uH p hp)));rcases hA p hp with ⟨z,hz,e⟩ | ⟨z,_⟩
    ·exact ⟨q.1,e ▸ (X.nw z (mR ((mR hz)))).2.1,q.2⟩
    ·exact ⟨q.1,z,q.2⟩
 ·exact cE hq (fun hq=>W'.ap p hp q (memC q hq)) fun hq=>W'.ap p hp q (uH q hq)
 ·rcases hA q hq with ⟨z,hz,e⟩ | ⟨_,z⟩
  ·rw [<- e]; exact X.cp x hx z hz
  ·exact z x.2 (List.mem_map_of_mem hx)
 ·refine bQ (X.vr x d e) fun v a b=>?_;exact ⟨v,a,b.mono hs⟩
 ·exact cE hp (fun hp=>ht p hp) fun hp=>(X.tm p hp).mono hs
theorem FS.QM {outer:List Env} {A₀:aM} {Q:Flow->aj->Prop} {P P2:Led} {s':aj} {e t:Addr} {name:Str} {L:Addr} {oL:Obj} {Cl:Led} {nm:Str} {np:Pos} {UA:Stmt} {OM:List Stmt} {rest:List EA} (T:bL mg mb G) (UB:mg "ValueError"=none) (K1:fM (envOfC name scope L a cd)) (qy:A₀.frames=some outer) (hP:pT P2 outer) (Sk: ∀q∈P2,L≠q.1/\∀r∈Cl,r.1≠q.1) (wO: ∃es ep,oL.data=.dict es ep) (YB: ∀r∈Cl,r.1≠L) (LY:G.objs.size<=L) (Di: ∀p∈P2,p.1∈outer.filterMap (·.frame)->∃es ep,p.2.data=.dict es ep) (back: ∀P' wM D' h',(∀p∈P',(∃q∈P,q.1=p.1)\/(p.1≠L/\∀r∈Cl,r.1≠p.1))->wM.data=oL.data->au G ((L,wM)::(Cl++P')) D' h'->(∀p∈D,p∈D')->FS G ⟨envOfC name scope L a cd,own,[]⟩ ⟨P',fl⟩ ρ τ h') (hPP: ∀p∈P2,∃q∈P,q.1=p.1) (YC: ∀p∈D,p∈D') (Aw:Ai G (envOfC name scope L a cd::outer) ((L,oL)::(Cl++P2)) D' e t "ValueError" vs s'.heap) (k: ∀g oe ot s7,Sm s' s7->iB (outer.filterMap (·.frame)) P2 g->FS G ⟨envOfC name scope L a cd,own,[]⟩ ⟨(e,oe)::(t,ot)::P2.map g,fl⟩ (upd ρ nm (.val (.ref e))) τ s7.heap->(∀h:Heap,h.get? e=some oe->h.ExcAt e "ValueError" (.ref t))->(∀h:Heap,h.get? t=some ot->h.TupAt t vs)->(∀p∈P2,p.1∉outer.filterMap (·.frame)->p.1≠e/\p.1≠t)->∀E1,
   ak (aq prog w) ((A₀.deeper (envOfC name scope L a cd)).mark (some (.ref e))) (ik (UA::OM) (envOfC name scope L a cd))
    (fun f zo=>ak (aq prog w) (A₀.deeper (envOfC name scope L a cd)) (do Cs (envOfC name scope L a cd) nm .none; unbindBehindTheSuite (envOfC name scope L a cd) nm pos) (fun _ Pk=>Q f Pk) E zo) E1 s7) (VZ:sH ⟨envOfC name scope L a cd,own,[]⟩ nm) (hx:(envOfC name scope L a cd).kindOf "ValueError"=some .globalImplicit:=by rfl):
  ak (aq prog w) (A₀.deeper (envOfC name scope L a cd)) (yb (.ref e) (envOfC name scope L a cd))
   (fun _ cF=>ak (aq prog w) (A₀.deeper (envOfC name scope L a cd)) (setFlight (.ref e) none) (fun _ jv=>
    ak (aq prog w) (A₀.deeper (envOfC name scope L a cd)) (handleBy (.ref e) (envOfC name scope L a cd) (.ExceptHandler (some (.Name "ValueError" np)) (some nm) (UA::OM) pos::rest)) Q E jv) E cF) E s':=by
 refine lj Aw.go fun B b1 b2 wk htn=>?_;have YD:(A₀.deeper (envOfC name scope L a cd)).frames=some (envOfC name scope L a cd::outer):=by refine (?_:qI _ A₀.frames=_); rw [qy]; rfl
 refine wpAny_looks_onW (L:=L) YD rfl wk fun LK Kf QN=>?_;refine wpAny_landsW Kf fun Ih Kg M5=>?_;have QO:=QN.trans M5;have UC: ∀b o,G.get? b=some o->Ih.get? b=some o:=fun b o q=>Kg.1 _ _ (b1 b o q);refine bQ Kg.there fun ob hob YE=>?_;refine wpAny_handleBy_builtin_as (X:="ValueError") (T:="ValueError") (b:=true) PySem.F.isExc_ValueError PySem.F.notTuple_ValueError (by rw [bK]; kernel_rfl)
  (iq K1.kind hx (mD (by rw [K1.glob]; exact T.g.keeps UC) UB (by rw [K1.blt]; exact T.b.keeps UC) ((T.builtins "ValueError" (by decide)).trans (by rfl:lV "ValueError"=some (.type "ValueError"))) ⟨rfl,⟨ob,hob,YE⟩,?_⟩) (by decide))
 rw [if_pos rfl];refine lands_againW Kg fun QS QT QU=>?_;have hu:=QO.trans QU;have hS:(envOfC name scope L a cd::outer).filterMap (·.frame)=L::outer.filterMap (·.frame):=rfl;refine HQ wO fun es0 ep0 R2=>?_; clear wO;have uH: ∀b∈outer.filterMap (·.frame),∃o,(b,o)∈P2:=fun b hb=>by
  refine bQ (List.mem_filterMap.mp hb) fun env he hf=>?_;refine oA (hP env he) fun _ L' o e1 e2 e3=>?_;rw [hf] at e1;obtain rfl:=aH e1;exact ⟨o,e2⟩
 have dj: ∀p∈ (L,oL)::(Cl++P2),p.1∈ (envOfC name scope L a cd::outer).filterMap (·.frame)->∃es ep,p.2.data=.dict es ep:=fun p hp hm=>by
  rw [hS] at hm;refine bU hp ?_ (fun hp=>?_)
  ·exact ⟨es0,ep0,R2⟩
  ·refine cE hp (fun hp=>?_) (fun hp=>?_)
   ·refine xA hm (fun hm=>?_) (fun hm=>?_)
    ·exact absurd hm (YB p hp)
    ·refine ex (uH _ hm) fun o ho=>?_;exact absurd rfl ((Sk _ ho).2 p hp)
   ·refine xA hm (fun hm=>?_) (fun hm=>?_)
    ·exact absurd hm.symm (Sk p hp).1
    ·exact Di p hp hm
 refine ex (?_: ∃o,QS.get? L=some o) fun oL6 eL6=>?_
 ·refine ex (Aw.up (L,oL) (.head _) (.head _) (fun vs q=>by rw [R2] at q; cases q)) fun sl e1=>?_;refine ex (hu L _ e1 (fun vs q=>by rw [show ({ oL with slots:=sl }:Obj).data=oL.data from rfl,R2] at q; cases q)) fun Lw e2=>?_;exact ⟨_,e2⟩
 refine yf (Aw.rest b1 b2 QT hu htn (fun p hp hm vs q=>by refine HQ (dj p hp hm) fun es ep z=>?_; rw [z] at q; cases q) (fun b hb=>by
  rw [hS] at hb;refine bU hb ?_ (fun hb=>?_)
  ·exact ⟨oL,.head _⟩
  ·refine ex (uH b hb) fun o ho=>?_;exact ⟨o,.tail _ (mR ho)⟩) (Nat.le_trans LY (Nat.le_of_lt (az eL6)))) fun g oe ot Sg W6 hex M6 YF UD=>?_
 have S2:iB (outer.filterMap (·.frame)) P2 g:=by
  refine ⟨fun p hp=>Sg.fst p (.tail _ (mR hp)),fun p hp hm=>Sg.off p (.tail _ (mR hp)) fun q=>?_,fun p hp hm=>Sg.on p (.tail _ (mR hp)) (.tail _ hm)⟩;rw [hS] at q;refine xA q (fun q=>?_) (fun q=>?_)
  ·exact (Sk p hp).1 q.symm
  ·exact hm q
 have eCl:Cl.map g=Cl:=(Sg.sub (P':=Cl) fun p hp=>.tail _ (mL hp)).same fun r hr hm=>by
  rw [hS] at hm;refine xA hm (fun hm=>?_) (fun hm=>?_)
  ·exact YB r hr hm
  ·refine ex (uH _ hm) fun o ho=>?_;exact (Sk _ ho).2 r hr rfl
 refine ex (Sg.on (L,oL) (.head _) (.head _)) fun sl YG=>?_;have YH:=Sg.fst (L,oL) (.head _);have gLe:g (L,oL)=(L,{ oL with slots:=sl }):=Prod.ext YH YG;have neL:=YF (L,oL) (.head _) (.head _) es0 ep0 R2;have neC: ∀r∈Cl,r.1≠e/\r.1≠t:=fun r hr=>UD r (.tail _ (mL hr)) fun hm=>by
  rw [hS] at hm;refine xA hm (fun hm=>?_) (fun hm=>?_)
  ·exact YB r hr hm
  ·refine ex (uH _ hm) fun o ho=>?_;exact (Sk _ ho).2 r hr rfl
 have F6:=back ((e,oe)::(t,ot)::P2.map g) { oL with slots:=sl } D' QS (fun p hp=>by
  refine bU hp ?_ (fun hp=>?_)
  ·exact .inr ⟨Ne.symm neL.1,fun r hr=>(neC r hr).1⟩
  ·refine bU hp ?_ (fun hp=>?_)
   ·exact .inr ⟨Ne.symm neL.2,fun r hr=>(neC r hr).2⟩
   ·refine l8 hp fun p0 CY=>?_;refine bQ (hPP p0 CY) fun q hq e1=>?_;exact .inl ⟨q,hq,e1.trans (S2.fst p0 CY).symm⟩) rfl (W6.sub fun p hp=>by
  have PD:((L,oL)::(Cl++P2)).map g=(L,{ oL with slots:=sl })::(Cl++P2.map g):=by rw [List.map_cons,gLe,List.map_append,eCl]
  rw [PD];refine bU hp ?_ (fun hp=>?_)
  ·exact .tail _ (.tail _ (.head _))
  ·exact cE hp (fun hp=>.tail _ (.tail _ (.tail _ (mL hp)))) fun hp=>bU hp (.head _) fun hp=>bU hp (.tail _ (.head _)) fun hp=>.tail _ (.tail _ (.tail _ (mR hp)))) YC
 refine store (c:=⟨envOfC name scope L a cd,own,[]⟩) (s:={ s' with heap:=QS }) K1 (F6.plus (v:=.ref e) (d:=.val (.ref e)) fun _=>rfl) VZ fun s7 m7 F7=>?_;have he6:=(W6.pin (e,oe) (mR ((.head _)))).1;have ht6:=(W6.pin (t,ot) (mR ((.tail _ (.head _))))).1;refine k g oe ot s7 ⟨m7.gens,m7.os⟩ S2 F7 (fun h q=>?_) (fun h q=>?_) (fun p hp hm=>UD p (.tail _ (mR hp)) fun q=>?_) _
 ·refine H9 hex fun o ws x1 x2 x3 x4=>?_; clear hex;rw [he6] at x1;obtain rfl:=aH x1;exact ⟨_,ws,q,x2,x3,x4⟩
 ·refine qo M6 fun o nt x1 x2 x3=>?_; clear M6;rw [ht6] at x1;obtain rfl:=aH x1;exact ⟨_,nt,q,x2,x3⟩
 ·rw [hS] at q;refine xA q (fun q=>?_) (fun q=>?_)
  ·exact (Sk p hp).1 q.symm
  ·exact hm q
end
section
open PySem.Builtin
section
variable {K:Frag} {sm fN fI fC fR:Addr}
theorem QV {Φ:Led} (T:bL mg mb G) (H:Prog mg G) (B:lU prog w G mg K C sm fN fI fC fR tI tR) (hA:cQ (n + 3) A) (dM:au G Φ D₀ s₀.heap) (hv:bw D₀ v (.dat (.bytes b))) (hz:b.size<=1000) (hq: ∀x dx Bf t1 t2 u s' D',Sm s₀ s'->x≠dx->Bf≠dx->Bf≠x->(∀q∈Φ,q.1≠x/\q.1≠dx/\q.1≠Bf)->au G (cK w C x dx Bf t1 t2 u b 0++Φ) D' s'.heap->(∀p∈D₀,p∈D')->Q (.ref x) s'):wpS (aq prog w) A (call (.ref C) [v]) Q E s₀:=by
 obtain ⟨h,g,d,t,os⟩:=s₀;refine jI B.hC fun oc od cd slc hC c1 c2 c3=>?_;have X:=B.X.keeps dM.keep;refine ex B.Yb fun rest hr=>?_;refine rX (MP (init:=.ref fI) (fN:=.ref fN) (dM.keep _ _ hC) c3 (B.made.keeps dM.keep) (looks_specialIn X B.calls) (looks_instIn X B.typ) (fun Q' E' hQ'=>?_) ?_)
 ·exact cls_bind X B.reads B.X9 (fg (sm_get (s:=⟨h,g,d,t + 1,os⟩) X hr (handed_on rfl hQ')))
 have a1:cQ (n + 2) (A.under (.builtin "type.__call__" ⟨.ref C::[v],[]⟩)):=hA.J2;refine MY (n:=n) (s₀:=⟨h,g,d,t + 1,os⟩) T B a1 dM hv fun x dx s' D' OL VV hP W' hD=>⟨x,rfl,?_,?_,?_,?_⟩
 ·have hx:=(W'.pin (x,cL C dx) (mR ((.tail _ (.head _))))).1;exact ((cT hx).andThen .now).andThen (looks_mroIn (B.X.keeps W'.keep) B.self)
 ·have hx:=(W'.pin (x,cL C dx) (mR ((.tail _ (.head _))))).1;exact ((cT hx).andThen .now).andThen (looks_findIn (B.X.keeps W'.keep) B.init)
 ·exact bind_fn (B.X.keeps W'.keep) _ B.tyI
 refine J4 T H B a1 VV hP W' (hv.mono hD) (sl hz) fun Bf t1 t2 u s2 D2 yy nx nd nP W2 hD2=>⟨rfl,?_⟩;exact hq x dx Bf t1 t2 u s2 D2 ⟨(OL.trans yy).gens,(OL.trans yy).os⟩ VV nd nx (fun q hq=>⟨(hP q hq).1,(hP q hq).2,nP q hq⟩) W2 (fun p hp=>hD2 p (hD p hp))
theorem M7 {Φ:Led} {name:Str} {ds:List Sv} (T:bL mg mb G) (hA:cQ (n + 1) A) (dM:au G Φ D₀ s₀.heap) (hf:Fn mg G name i) (ie: ∀pm cd doc,gw (docDef name (argsAt i) (dh i) (aG i) pm cd doc) ⟨us,[]⟩=pure (xs.zip us)) (hu:bP D₀ us ds) (hlen:xs.length=ds.length) (hk:(xs.all fun x=>(aG i).names.lookup x == some .local || (aG i).names.lookup x == some .cell)=true) (gW:(ownOf (aG i)).Nodup) (Jj: ∀(L:Addr) (cd:ai) (D:Led),(∀p∈D₀,p∈D)->fM (envOfC name (aG i) L (adr mg name) cd)->∀s,Sm s₀ s->cQ n (A.deeper (envOfC name (aG i) L (adr mg name) cd))->FS G ⟨envOfC name (aG i) L (adr mg name) cd,ownOf (aG i),[]⟩ ⟨Φ,D⟩ (eu (xs.zip ds) fun _=>none) [] s.heap->
   wpS (aq prog w) (A.deeper (envOfC name (aG i) L (adr mg name) cd)) (ik (dh i) (envOfC name (aG i) L (adr mg name) cd)) (fun f s'=>Q (match f with | .ret v=>v | _=>.none) s')
    (fun e s'=>ak (aq prog w) (A.deeper (envOfC name (aG i) L (adr mg name) cd)) (nO (envOfC name (aG i) L (adr mg name) cd) e) (fun _ mU=>E e mU) (fun e' mU=>E e' mU) s') s) (vy:(aG i).isCoroutine=false:=by rfl) (kI:(aG i).isGenerator=false:=by rfl) (uw:(aG i).kind=.function:=by rfl):wpS (aq prog w) A (call (.ref (adr mg name)) us) Q E s₀:=by
 refine fF hf.at' fun o pm cd doc ho hd sI=>?_;exact wI T hA dM (dM.keep _ _ ho) hd rfl rfl rfl rfl rfl rfl rfl (sI.keeps dM.keep) (fun E' Q' h=>by rw [ie pm cd doc]; exact ah (h us _ _ (Sm.refl _) dM (fun _ h=>h) hu)) hlen hk gW (fun L D hs=>Jj L cd D hs) vy kI uw
end
end
section
open PySem.Builtin
section
variable {K:Frag} {sm fN fI fC fR:Addr} {x Bf:Addr} {u:Nat}
theorem FS.Kh (F:FS G c Φ ρ τ h) (hn:h'.Ns c.env.locals m') (hs:cz c.env.locals h h'):FS G c Φ (fun _=>none) τ h':=by
 refine d8 F fun D C m X=>?_; clear F;exact ⟨D,C,m',X.fr.set hn hs,X.nw.set hs,X.ap,X.cn,X.cd,X.ca,X.cp,X.ck,X.fc,X.fl,fun y e hp=>(nomatch hp),X.tm⟩
theorem FS.ns (F:FS G c Φ ρ τ h): ∃m,h.Ns c.env.locals m:=d8 F fun _ _ m X=>⟨m,X.fr.ns⟩
theorem M8 {outer:List Env} {name:Str} {L:Addr} {p0 p1 p3:Pos} (T:bL mg mb G) (H:Prog mg G) (B:lU prog w G mg K C sm fN fI fC fR tI tR) (hx:x≠dx) (hB:Bf≠dx) (hz:b.size<=1000) (hp:pn=b.size) (hP: ∀q∈F1,q.1≠dx) (K1:fM (envOfC name scope L a cd)) (hk:(envOfC name scope L a cd).kindOf "read_uint1"=some .globalImplicit) (hy:ρ y=some (.val (.ref x))) (fV:cQ (n + 5) A) (qy:A.frames=some (envOfC name scope L a cd::outer)) (hF:pT F1 outer) (F:FS G ⟨envOfC name scope L a cd,own,[]⟩ ⟨cK w C x dx Bf t1 t2 u b pn++F1,fl⟩ ρ τ s.heap) (h: ∀(oL:Obj) (Cl D D':Led) (e t:Addr) (u' u2:Nat) (s':aj),Sm s s'->(∀q∈F1,L≠q.1/\∀r∈Cl,r.1≠q.1)->(∀q∈cK w C x dx Bf t1 t2 u' b pn,L≠q.1/\∀r∈Cl,r.1≠q.1)->(∃es ep,oL.data=.dict es ep)->(∀r∈Cl,r.1≠L)->G.objs.size<=L->
   (∀P' wM D' h',(∀p∈P',(∃q∈cK w C x dx Bf t1 t2 u b pn++F1,q.1=p.1)\/(p.1≠L/\∀r∈Cl,r.1≠p.1))->wM.data=oL.data->au G ((L,wM)::(Cl++P')) D' h'->(∀p∈D,p∈D')->FS G ⟨envOfC name scope L a cd,own,[]⟩ ⟨P',fl⟩ ρ τ h')->(∀p∈D,p∈D')->
   Ai G (envOfC name scope L a cd::outer) ((L,oL)::(Cl++(cK w C x dx Bf t1 t2 u' b pn++F1))) D' e t "ValueError" [.str "not enough data in stream to read uint1" u2] s'.heap->E (.ref e) s') (h1:(y == ("__debug__" :Str))=false:=by decide +kernel) (h2:(y == ("__classdict__" :Str))=false:=by decide +kernel) (h3:aC [.Name y p1] (envOfC name scope L a cd)=(false,eval (.Name y p1) (envOfC name scope L a cd))::aC [] (envOfC name scope L a cd):=by rfl) (hc:eval (.Call (.Name "read_uint1" p0) [.Name y p1] [] p3) (envOfC name scope L a cd)=(do eF p3 (<- eval (.Name "read_uint1" p0) (envOfC name scope L a cd)) [] (cI p3 (aC [.Name y p1] (envOfC name scope L a cd))) (eG p3 (bX [] (envOfC name scope L a cd)))):=by rfl):
  ak (aq prog w) A (eval (.Call (.Name "read_uint1" p0) [.Name y p1] [] p3) (envOfC name scope L a cd)) Q E s:=by
 refine fF H.tY.at' fun o pm cd' doc ho hd _=>?_;refine kT ((Ev.global (c:=⟨envOfC name scope L a cd,own,[]⟩) (n:=n + 5) T K1 hk H.tY.name).pX A E _ _ τ s fV F fun s1 m1 uV=>?_) hc;refine kZ (h':=G) ho hd ((ic.one (c:=⟨envOfC name scope L a cd,own,[]⟩) (Ev.name (n:=n + 5) K1 hy h1 h2) h3).FN A E _ _ _ s1 _ fV uV.pop fun s2 m2 F2=>⟨F2.top _ _ ho,?_⟩) h3;refine ju F2.Ke fun oL Cl D W ht hd wO wk mh k_=>?_; refine ea k_ fun LY back=>?_;have W2:au G (cK w C x dx Bf t1 t2 u b pn++((L,oL)::(Cl++F1))) D s2.heap:=W.sub fun q hq=>by
  exact cE hq (fun hq=>.tail _ (mR ((mL hq)))) fun hq=>bU hq (.head _) fun hq=>cE hq (fun hq=>.tail _ (mL hq)) fun hq=>.tail _ (mR ((mR hq)))
 refine Eb (outer:=envOfC name scope L a cd::outer) T H B fV qy hx hB (fun q hq=>?_) hz hp (fun env he=>?_) W2 fun e t u' u2 s' D' OL aw hD=>?_
 ·exact bU hq ((hd _ (.head _)).1) fun hq=>cE hq (fun hq=>(hd _ (.head _)).2 q hq) fun hq=>hP q hq
 ·refine bU he ?_ (fun he=>?_)
  ·refine HQ wO fun es ep q=>?_; clear wO;exact ⟨by refine (?_:scope.kind≠ .module); rw [show scope.kind=.function from K1.kind]; decide,L,oL,rfl,.head _,fun vs z=>by rw [q] at z; cases z⟩
  ·refine oA (hF env he) fun e1 L' o' e2 e3 e4=>?_;exact ⟨e1,L',o',e2,.tail _ (mR e3),e4⟩
 refine h oL Cl D D' e t u' u2 s' ((m1.trans m2).trans OL) (fun q hq=>hd q (mR hq)) (fun q hq=>?_) wO mh LY (fun P' wM D'' Il hA uu W' hs=>?_) hD (aw.perm fun p hp=>?_)
 ·refine bQ (pS (P':=cK w C x dx Bf t1 t2 u' b pn) (P:=cK w C x dx Bf t1 t2 u b pn) rfl hq) fun z hz e1=>?_;have:=hd z (mL hz);rw [e1] at this;exact this
 ·exact (back P' wM D'' Il hA nm uu W' hs [] nm).temps fun p hp=>.tail _ hp
 ·exact bU hp (mR ((.head _))) fun hp=>cE hp (fun hp=>mR ((.tail _ (mL hp)))) fun hp=>cE hp (fun hp=>mL hp) fun hp=>mR ((.tail _ (mR hp)))
end
end
section
open PySem.Builtin
noncomputable abbrev ue:Str:="not enough data in stream to read uint1"
noncomputable abbrev jo (L a:Addr) (cd:ai):Env:=envOfC "_law_read" (aG 38) L a cd
section
variable {K:Frag} {sm fN fI fC fR:Addr} {x Bf:Addr} {u:Nat}
theorem readEnd {outer:List Env} {L:Addr} {q1 q2 q3 q4 q5 q6 q7 q8 q9 YI Wl YJ q14 q15:Pos} {kk:Nat} {Φ:Led} {A₀:aM} {Q:Flow->aj->Prop} {lr:Addr} (T:bL mg mb G) (H:Prog mg G) (B:lU prog w G mg K C sm fN fI fC fR tI tR) (hx:x≠dx) (hB:Bf≠dx) (hz:b.size<=1000) (hp:pn=b.size) (hP: ∀q∈ (lr,listOf its.toArray k)::Φ,q.1≠dx) (K1:fM (jo L a cd)) (hy:ρ "stream"=some (.val (.ref x))) (hr:ρ "records"=some (.val (.ref lr))) (fV:cQ (n + 5) (A₀.deeper (jo L a cd))) (qy:A₀.frames=some outer) (hF:pT Φ outer) (Di: ∀p∈Φ,p.1∈outer.filterMap (·.frame)->∃es ep,p.2.data=.dict es ep) (hS: ∀q∈cK w C x dx Bf t1 t2 u b pn,q.1∉outer.filterMap (·.frame)) (hSr:lr∉outer.filterMap (·.frame)) (YK: ∀q∈Φ,q.1≠lr) (hi:its.length=ds.length) (F:FS G ⟨jo L a cd,own,[]⟩ ⟨cK w C x dx Bf t1 t2 u b pn++((lr,listOf its.toArray k)::Φ),fl⟩ ρ (its.zip (ds.map .dat)++τ) s.heap) (hq: ∀v s' g,Sm s s'->iB (outer.filterMap (·.frame)) Φ g->FS G ⟨jo L a cd,own,[]⟩ ⟨Φ.map g,fl⟩ (fun _=>none) ((v,.dat (.tuple [.list ds,.str ue]))::τ) s'.heap->Q (.ret v) s'):
  ak (aq prog w) (A₀.deeper (jo L a cd)) (exec (.Try [.Assign [.Name "number" q1] (.Call (.Name "read_uint1" q2) [.Name "stream" q3] [] q4) q5] [.ExceptHandler (some (.Name "ValueError" q6)) (some "fault") [.Return (some (.Tuple [.Name "records" q7,.Call (.Name "str" q8) [.Name "fault" q9] [] YI] kk Wl)) YJ] q14] [] [] q15) (jo L a cd)) Q E s:=by
 refine pC (bD (aZ (M8 (n:=n) T H B hx hB hz hp hP K1 rfl hy fV (by refine (?_:qI _ A₀.frames=_); rw [qy]; rfl) (fun env he=>?_) F fun oL Cl D D' e t u' u2 s1 m1 f1 f2 f3 f4 f5 back YC aw=>?_)))
 ·refine oA (hF env he) fun e1 L' o e2 e3 e4=>?_;exact ⟨e1,L',o,e2,.tail _ e3,e4⟩
 have nS: ∀p∈cK w C x dx Bf t1 t2 u' b pn,p.1∉outer.filterMap (·.frame):=fun p hp=>by
  refine bQ (pS (P':=cK w C x dx Bf t1 t2 u' b pn) (P:=cK w C x dx Bf t1 t2 u b pn) rfl hp) fun z hz e1=>?_;rw [<- e1]; exact hS z hz
 refine FS.QM (P:=cK w C x dx Bf t1 t2 u b pn++((lr,listOf its.toArray k)::Φ)) (P2:=cK w C x dx Bf t1 t2 u' b pn++((lr,listOf its.toArray k)::Φ)) (own:=own) (fl:=fl) (τ:=its.zip (ds.map .dat)++τ) (ρ:=ρ) T (H.bi _ (by decide +kernel)) K1 qy (fun env he=>?_) (fun q hq=>?_) f3 f4 f5 (fun p hp hm=>?_) back (fun p hp=>?_) YC aw (fun g oe ot s7 m7 Sg F7 hex M6 EP E1=>?_) (.inl rfl)
 ·refine oA (hF env he) fun e1 L' o e2 e3 e4=>?_;exact ⟨e1,L',o,e2,mR ((.tail _ e3)),e4⟩
 ·exact cE hq (fun hq=>f2 q hq) fun hq=>f1 q hq
 ·refine cE hp (fun hp=>?_) (fun hp=>?_)
  ·exact absurd hm (nS p hp)
  ·rcases List.mem_cons.mp hp with rfl | hp
   ·exact absurd hm hSr
   ·exact Di p hp hm
 ·refine cE hp (fun hp=>?_) (fun hp=>?_)
  ·refine bQ (pS (P':=cK w C x dx Bf t1 t2 u' b pn) (P:=cK w C x dx Bf t1 t2 u b pn) rfl hp) fun z hz e1=>?_;exact ⟨z,mL hz,e1⟩
  ·exact ⟨p,mR hp,rfl⟩
 refine bD (eU (Hu (eE (mz (yh K1 F7 (show upd ρ "fault" (.val (.ref e)) "records"=some (.val (.ref lr)) from hr) fun F8=>?_) (by decide)))));refine eE (kT (iq K1.kind (by rfl) (mD (by rw [K1.glob]; exact T.g.keeps F8.top) (H.bi "str" (by decide +kernel)) (by rw [K1.blt]; exact T.b.keeps F8.top) ((T.builtins "str" (by decide)).trans (by rfl:lV "str"=some (.type "str"))) ?_) (by decide)));refine cD (eE (mz (yh K1 F8 (show upd ρ "fault" (.val (.ref e)) "fault"=some (.val (.ref e)) from rfl) fun F9=>?_) (by decide)));refine bW ?_;refine PySem.P.str_of_exc_one (t0:=t) (m:=ue) (tk:=u2) PySem.F.excStr_ValueError (by have:=fV.units; refine (?_:(A₀.deeper (jo L a cd)).units + 2 < 9900); exact Nat.lt_of_le_of_lt (Nat.add_le_add_right (Nat.le_trans (Nat.le_add_right _ _) this) 2) (by decide)) (hex _ (F9.get (.head _))) (M6 _ (F9.get (.tail _ (.head _)))) ?_
 refine bW (iz ?_ (sl (by simp)));have eio:(cK w C x dx Bf t1 t2 u' b pn++((lr,listOf its.toArray k)::Φ)).map g=cK w C x dx Bf t1 t2 u' b pn++((lr,listOf its.toArray k)::Φ.map g):=by
  rw [List.map_append,(Sg.sub fun p hp=>mL hp).same nS,List.map_cons,Sg.off (lr,listOf its.toArray k) (mR ((.head _))) hSr]
 rw [eio] at F9;have CC:FS G ⟨jo L a cd,own,[]⟩ ⟨(lr,listOf its.toArray k)::Φ.map g,fl⟩ _ _ _:=F9.gZ (fun p hp=>.tail _ (.tail _ (mR hp))) nm;have UE:iB (outer.filterMap (·.frame)) Φ g:=Sg.sub fun p hp=>mR ((.tail _ hp));have Ly:=CC.freeze (v:=.ref lr) (d:=.dat (.list ds)) nm (fun q hq=>by
  refine l8 hq fun q0 h0=>?_;rw [UE.fst q0 h0]; exact YK q0 h0) (fun D hD=>uW hi fun p hp=>hD p (.tail _ (.tail _ (mL hp))))
 have Lz:=Ly.new (o:={ cls:=.type "tuple",data:=.seq [cY lr,Value.str ue u2].toArray }) (v:=.ref s7.heap.objs.size) (d:=.dat (.tuple [.list ds,.str ue])) rfl fun D hD=>lG (.head _) (eN (fun p hp=>.tail _ hp) (.cons (hD _ (.head _)) (.cons (.str _ _) .nil)));refine ex Lz.ns fun Us YL=>?_;refine wpAny_nameGoes (m:=Us) (by rfl) YL (by rfl) fun h' m' Wc CB=>?_;have Ut:=Lz.Kh Wc CB;exact hq _ _ g ⟨(m1.trans m7).gens,(m1.trans m7).os⟩ UE (Ut.temps fun p hp=>by
  exact bU hp (.head _) fun hp=>.tail _ (.tail _ (.tail _ (.tail _ (mR hp)))))
end
end
section
open PySem.Builtin
section
variable {K:Frag} {sm fN fI fC fR:Addr} {x Bf:Addr} {u:Nat}
theorem Ec {L:Addr} {q1 q2 q3 q4 q5 q6 q7 q8 q9 YI Wl YJ:Pos} {kk:Nat} {Φ:Led} {Q:Flow->aj->Prop} {p1 p2 p3:Nat} {lr:Addr} {d0 d1 d2:Dat} (T:bL mg mb G) (H:Prog mg G) (hP: ∀q∈ (lr,listOf its.toArray k)::Φ,q.1≠dx) (K1:fM (jo L a cd)) (hy:ρ "stream"=some (.val (.ref x))) (hr:ρ "records"=some (.val (.ref lr))) (hn:ρ "number"=some (.dat d0)) (fV:cQ n A) (P1:jB prog w G n C x dx Bf t1 t2 b (adr mg "read_uint1") p1 p2 (.dat d1)) (P2:jB prog w G n C x dx Bf t1 t2 b (adr mg "read_string1") p2 p3 (.dat d2)) (YK: ∀q∈Φ,q.1≠lr) (hci: ∀q∈cK w C x dx Bf t1 t2 u b p1,q.1≠lr) (hi:its.length<=1000) (vC:(q2.endLine == Wl.line)=true) (F:FS G ⟨jo L a cd,own,[]⟩ ⟨cK w C x dx Bf t1 t2 u b p1++((lr,listOf its.toArray k)::Φ),fl⟩ ρ τ s.heap) (hq: ∀v u' k' s',Sm s s'->FS G ⟨jo L a cd,own,[]⟩ ⟨cK w C x dx Bf t1 t2 u' b p3++((lr,listOf (its++[v]).toArray k')::Φ),fl⟩ ρ ((v,.dat (.tuple [d0,d1,d2]))::τ) s'.heap->Q .next s'):
  ak (aq prog w) A (exec (.Expr (.Call (.Attribute (.Name "records" q1) "append" q2) [.Tuple [.Name "number" q3,.Call (.Name "read_uint1" q4) [.Name "stream" q5] [] q6,.Call (.Name "read_string1" q7) [.Name "stream" q8] [] q9] kk YI] [] Wl) YJ) (jo L a cd)) Q E s:=by
 refine Cr (hi:=by rfl) (jq (by rfl) (by rfl) vC ((Ev.name (n:=n) K1 hr).pX A E _ _ _ s fV F fun s1 m1 uV=>?_));have g:s1.heap.get? lr=some (listOf its.toArray k):=uV.get (mR ((.head _)));refine ⟨"list","list.append",lY,k7,xh,⟨_,g,rfl⟩,fun b e=>by cases e; exact ⟨_,g,rfl⟩,pA (eE ?_ (by rfl)) (by rfl) (by rfl)⟩;refine Hu (eE ((Ev.name (c:=⟨jo L a cd,own,[]⟩) (n:=n) K1 hn).go A E _ _ _ s1 fV uV.pop fun v2 s2 m2 F2=>?_));refine eE (M4 (c:=⟨jo L a cd,own,[]⟩) T H.tY P1 hP K1 (by rfl) hy fV F2 rfl fun v3 u3 s3 m3 F3=>?_);refine eE (M4 (c:=⟨jo L a cd,own,[]⟩) T H.zw P2 hP K1 (by rfl) hy fV F3 rfl fun v4 u4 s4 m4 F4=>?_);refine bW (iz (bW ?_) (sl (by simp)));have F5:=F4.new (o:={ cls:=.type "tuple",data:=.seq [v2,v3,v4].toArray }) (v:=.ref s4.heap.objs.size) (d:=.dat (.tuple [d0,d1,d2])) rfl fun D hD=>lG (.head _) (eN (fun p hp=>.tail _ hp) (.cons (hD (v2,.dat d0) (.tail _ (.tail _ (.head _)))) (.cons (hD (v3,.dat d1) (.tail _ (.head _))) (.cons (hD (v4,.dat d2) (.head _)) .nil))));have F6:FS G ⟨jo L a cd,own,[]⟩ ⟨(lr,listOf its.toArray k)::(cK w C x dx Bf t1 t2 u4 b p3++Φ),fl⟩ _ _ _:=F5.gZ (fun p hp=>by
  exact bU hp (mR ((.head _))) fun hp=>cE hp (fun hp=>mL hp) fun hp=>mR ((.tail _ hp))) nm
 refine wd (s:={ s4 with heap:=s4.heap.push { cls:=.type "tuple",data:=.seq [v2,v3,v4].toArray } }) F6 nm (fun q hq=>?_) hi fun k' s7 m7 F7=>?_
 ·refine cE hq (fun hq=>?_) (fun hq=>?_)
  ·refine bQ (pS (P':=cK w C x dx Bf t1 t2 u4 b p3) (P:=cK w C x dx Bf t1 t2 u b p1) rfl hq) fun z hz e1=>?_;rw [<- e1]; exact hci z hz
  ·exact YK q hq
 have mm:Sm s s7:=(((m1.trans m2).trans m3).trans m4).trans ⟨m7.gens,m7.os⟩;refine hq (.ref s4.heap.objs.size) u4 k' s7 mm ((F7.temps fun p hp=>?_).gZ (fun p hp=>?_) nm)
 ·exact bU hp (.head _) fun hp=>.tail _ (.tail _ (.tail _ (.tail _ hp)))
 ·exact cE hp (fun hp=>.tail _ (mL hp)) fun hp=>bU hp (.head _) fun hp=>.tail _ (mR hp)
end
end
section
open PySem.Builtin
noncomputable def u8 (n:Int):UInt8:=n.toNat.toUInt8
theorem Aj {n:Int} (h0:0<=n) (h1:n < 256):(u8 n).toNat=n.toNat:=by
 unfold u8;rw [Nat.toUInt8,UInt8.toNat_ofNat'];exact Nat.mod_eq_of_lt ((n5 h0).mpr h1)
noncomputable def o8 (S:Sc) (k:Nat):List UInt8:=(pY S k).map u8
noncomputable def B8 (S:Sc) (W:List Nat):List UInt8:=W.flatMap (o8 S)
theorem Ed (S:Sc) (a b:List Nat):B8 S (a++b)=B8 S a++B8 S b:=by unfold B8; rw [List.flatMap_append]
noncomputable def jC (S:Sc) (W:List Nat) (i:Nat):Nat:=(B8 S (W.take i)).length
theorem Kl (h:W[i]? =some k):W=W.take i++k::W.drop (i + 1):=by
 refine ex (List.getElem?_eq_some_iff.mp h) ?_; rintro hl rfl;rw [<- List.drop_eq_getElem_cons hl,List.take_append_drop]
theorem M9 (h:W[i]? =some k):(B8 S W).drop (jC S W i)=o8 S k++B8 S (W.drop (i + 1)):=by
 have e:=congrArg (B8 S) (Kl h);rw [e,Ed];unfold jC;rw [List.drop_left];refine (?_:B8 S (k::_)=_)
 rfl
theorem G9 (h:W[i]? =some k):jC S W (i + 1)=jC S W i + (o8 S k).length:=by
 unfold jC;rw [List.take_add_one,h,Ed,List.length_append];refine (?_:_ + (B8 S [k]).length=_);simp [B8]
theorem oX:0<=num k/\num k < 256:=by
 unfold num
 by_cases h:k - 1 < 9
 ·exact (show ∀i < 9,0<=jY.getD i 0/\jY.getD i 0 < 256 by decide) _ h
 ·rw [List.getD_eq_getElem?_getD,List.getElem?_eq_none (by refine (?_:9<=_); exact Nat.le_of_not_lt h)];exact ⟨by decide,by decide⟩
theorem pU:0<=i7 S k/\i7 S k < 256:=by
 unfold i7;split
 ·exact ⟨by decide,by decide⟩
 ·exact oX
theorem Km (S:Sc) (k:Nat):o8 S k=u8 (num k)::u8 (i7 S k)::u8 ((S.text k).length:Int)::(S.text k).map fun z=>u8 (z:Nat):=by
 unfold o8 pY;simp [List.map_append,List.map_map]
theorem Ef (hS:S.Ok) (hk:In S k):yT ((S.text k).map fun z=>u8 (z:Nat))=st (S.text k):=by
 unfold yT st;rw [List.map_map];have:(S.text k).map ((fun x:UInt8=>x.toNat) ∘ fun z:Nat=>u8 (z:Nat))=(S.text k).map _root_.id:=List.map_congr_left fun z hz=>by
  have:=(hS.text k hk.1 hk.2).2 z hz;refine (?_:(u8 (z:Nat)).toNat=z);rw [Aj (aS _) (cf.mpr this)]
  rfl
 rw [this,List.map_id]
theorem tK {l:List UInt8} {p:Nat} {a:UInt8} {r:List UInt8} (h:l.drop p=a::r):l.getD p 0=a/\p < l.length/\l.drop (p + 1)=r:=by
 have hp:p < l.length:=by
  by_cases q:p < l.length
  ·exact q
  ·rw [List.drop_of_length_le (Nat.le_of_not_lt ‹_›)] at h; cases h
 have e:=List.drop_eq_getElem_cons hp;rw [e] at h;cases h;exact ⟨by rw [List.getD_eq_getElem?_getD,List.getElem?_eq_getElem hp]; rfl,hp,rfl⟩
end
section
open PySem.Builtin
section
variable {K:Frag} {sm fN fI fC fR:Addr}
theorem Na {α β:Type} {l:List α} {m:List β} {u:α} {d:β} (e:l.length=m.length):(l++[u]).zip (m++[d])=l.zip m++[(u,d)]:=by
 rw [List.zip_append e]; rfl
theorem jB.le {m:Nat} {x Bf:Addr} {f:Addr} {p p':Nat} (h:jB prog w G n C x dx Bf t1 t2 b f p p' d) (k:n<=m):jB prog w G m C x dx Bf t1 t2 b f p p' d:=.mk fun A E Q s₀ Φ D₀ u a=>h.go A E Q s₀ Φ D₀ u (a.le k)
theorem B3 {outer:List Env} {Φ:Led} (T:bL mg mb G) (H:Prog mg G) (B:lU prog w G mg K C sm fN fI fC fR tI tR) (hS:S.Ok) (hW: ∀k∈W,In S k) (hl:W.length<=20) (hA:cQ (n + 7) A) (qy:A.frames=some outer) (hF:pT Φ outer) (Di: ∀p∈Φ,p.1∈outer.filterMap (·.frame)->∃es ep,p.2.data=.dict es ep) (dM:au G Φ D₀ s₀.heap) (hv:bw D₀ v (.dat (.bytes (B8 S W).toArray))) (hq: ∀r s' D' g,Sm s₀ s'->iB (outer.filterMap (·.frame)) Φ g->au G (Φ.map g) D' s'.heap->(∀p∈D₀,p∈D')->bw D' r (.dat (.tuple [kL S W,.str ue]))->Q r s'):wpS (aq prog w) A (call (.ref (adr mg "_law_read")) [v]) Q E s₀:=by
 have hz:(B8 S W).length<=200:=by
  have: ∀W:List Nat,(∀k∈W,In S k)->(B8 S W).length<=7 * W.length:=by
   intro W
   induction W with
   | nil=>intro _; simp [B8]
   | cons k W ih=>
    intro h;have h1:=ih fun k hk=>h k (.tail _ hk);have h2:=(hS.text k (h k (.head _)).1 (h k (.head _)).2).1;have h3:(o8 S k).length<=7:=by
     rw [Km]; refine (?_:((S.text k).map _).length + 3<=7); rw [List.length_map]; exact Nat.add_le_add_right h2 3
    have e:(B8 S (k::W)).length=(o8 S k).length + (B8 S W).length:=by
     rw [show k::W=[k]++W from rfl,Ed,List.length_append]; simp [B8]
    rw [e,List.length_cons];exact Nat.le_trans (Nat.add_le_add h3 h1) (Nat.le_of_eq (Nat.add_comm _ _))
  exact Nat.le_trans (this W hW) (Nat.le_trans (Nat.mul_le_mul_left 7 hl) (by decide))
 have UG:(B8 S W).toArray.size<=1000:=Nat.le_trans (hz:_) (by decide);refine M7 (n:=n + 6) (xs:=["octets"]) (ds:=[.dat (.bytes (B8 S W).toArray)]) T hA dM H.read (fun pm cd doc=>rfl) (.cons hv .nil) rfl (by decide +kernel) (by decide +kernel) (fun L cd D hs K1 s Sb fV F=>?_);refine nh (uE (wG ((Ev.global (n:=n + 6) (v:=.ref C) T K1 rfl B.name).pX _ _ _ _ _ s fV F fun s1 m1 F1=>?_)));refine ng rfl (gx ((ic.one (Ev.name (n:=n + 6) K1 (x:="octets") (d:=.dat (.bytes (B8 S W).toArray)) rfl)).CR _ _ _ _ _ s1 _ fV F1.pop fun v2 s2 m2 F2=>⟨looks_keep B.TZ (B.X.keeps F2.top),?_⟩));refine ju F2.Ke fun oL Cl D2 W2 ht hd wO wk mh k_=>?_; refine ea k_ fun LY back=>?_;refine QV (n:=n + 3) T H B (fV.le (Nat.le_refl _)) W2 (ht (v2,.dat (.bytes (B8 S W).toArray)) (.head _)) UG fun x dx Bf t1 t2 u s3 D3 m3 hx hB hBx QW W3 hD3=>?_;have F3:=back (cK w C x dx Bf t1 t2 u (B8 S W).toArray 0++Φ) oL D3 s3.heap (fun p hp=>?_) nm rfl (W3.sub fun q hq=>?_) hD3 [(.ref x,.val (.ref x))] (fun p hp=>rf hp rfl)
 rotate_left
 ·refine cE hp (fun hp=>?_) (fun hp=>?_)
  ·refine .inr ⟨fun z=>?_,fun r hr z=>?_⟩
   ·have q:=QW (L,oL) (.head _);exact VO (P:=fun p=>p.1=L->False) hp (fun z=>q.2.1 z.symm) (fun z=>q.1 z.symm) (fun z=>q.2.2 z.symm) z
   ·have q:=QW r (.tail _ (mL hr));exact VO (P:=fun p=>r.1=p.1->False) hp q.2.1 q.1 q.2.2 z
  ·exact .inl ⟨p,hp,rfl⟩
 ·exact bU hq (mR ((.head _))) fun hq=>cE hq (fun hq=>mR ((.tail _ (mL hq)))) fun hq=>cE hq (fun hq=>mL hq) fun hq=>mR ((.tail _ (mR hq)))
 have hΦ: ∀q∈Φ,q.1≠x/\q.1≠dx/\q.1≠Bf:=fun q hq=>QW q (.tail _ (mR hq));refine store K1 (F3.temps (je:=[(.ref x,.val (.ref x))]) fun p hp=>rf hp (.head _)) (.inl rfl) fun s4 m4 F4=>?_;refine nh (jb (aZ (pN (ds:=[]) ic.nil fV F4 fun lr vs s5 m5 hl5 Ox F5=>?_)));obtain rfl:vs=[]:=List.length_eq_zero_iff.mp hl5;refine store K1 ((F5.plus (v:=.ref lr) (d:=.val (.ref lr)) fun _=>rfl)) (.inl rfl) fun s6 m6 F6=>?_;have F7:FS G ⟨jo L (adr mg "_law_read") cd,ownOf (aG 38),[]⟩ ⟨cK w C x dx Bf t1 t2 u (B8 S W).toArray 0++((lr,listOf ([]:List ai).toArray 0)::Φ),D⟩ (upd (upd (fun _=>none) "stream" (.val (.ref x))) "records" (.val (.ref lr))) [] s6.heap:=
  ((F6.names fun y d hy=>?_).temps (je:=[]) nm).gZ (fun p hp=>?_) nm
 rotate_left
 ·unfold upd at hy ⊢;split at hy
  ·rename_i e; rw [if_pos e]; exact hy
  ·rename_i e; rw [if_neg e];split at hy
   ·rename_i e2; rw [if_pos e2]; exact hy
   ·cases hy
 ·exact cE hp (fun hp=>.tail _ (mL hp)) fun hp=>bU hp (.head _) fun hp=>.tail _ (mR hp)
 have hio: ∀u p,∀q∈cK w C x dx Bf t1 t2 u (B8 S W).toArray p,q.1≠lr:=fun u' p q hq=>by
  have k1:=Ox (dx,j4 w t1 t2 u Bf 0) (.head _);have k2:=Ox (x,cL C dx) (.tail _ (.head _));have k3:=Ox (Bf,dX (B8 S W).toArray) (.tail _ (.tail _ (.head _)));exact VO hq k1 k2 k3
 have Kn: ∀q∈Φ,q.1≠lr:=fun q hq=>Ox q (.tail _ (.tail _ (.tail _ hq)));have YM: ∀(its:List ai) (k:Nat),∀q∈ (lr,listOf its.toArray k)::Φ,q.1≠dx:=fun its k q hq=>by
  exact bU hq (Ne.symm (hio 0 0 (dx,j4 w t1 t2 0 Bf 0) (.head _))) fun hq=>(hΦ q hq).2.1
 have jk: ∀b∈outer.filterMap (·.frame),∃o,(b,o)∈Φ:=fun b hb=>by
  refine bQ (List.mem_filterMap.mp hb) fun env he hf=>?_;refine oA (hF env he) fun _ L' o e1 e2 e3=>?_;rw [hf] at e1;obtain rfl:=aH e1;exact ⟨o,e2⟩
 have mm:Sm s₀ s6:=(((((Sb.trans m1).trans m2).trans m3).trans m4).trans m5).trans m6
 let Oo:fQ:=upd (upd (fun _=>none) "stream" (.val (.ref x))) "records" (.val (.ref lr))
 let c0:Cx:=⟨jo L (adr mg "_law_read") cd,ownOf (aG 38),[]⟩
 let I:Nat->aj->Prop:=fun m s'=>∃(i:Nat) (its:List ai) (k u:Nat),i + m=W.length/\Sm s₀ s'/\its.length=i/\FS G c0 ⟨cK w C x dx Bf t1 t2 u (B8 S W).toArray (jC S W i)++((lr,listOf its.toArray k)::Φ),D⟩ Oo (its.zip (((W.take i).map (eZ S)).map .dat)++[]) s'.heap
 have I0:I W.length s6:=⟨0,[],0,u,Nat.zero_add _,mm,rfl,F7⟩;refine nh (jb (wpAny_While (OX I (fun m s' hI=>?_) W.length I0)));refine jI hI fun i its k u' hi mi Df Fi=>?_; clear hI;refine (Et.plain (n:=n + 6) Ev.bool gR.bool).go _ _ _ _ _ s' fV Fi fun s8 m8 F8=>?_;rw [if_pos rfl];have htk:its.length=((W.take i).map (eZ S)).length:=by rw [List.length_map,List.length_take,Df,Nat.min_eq_left (Nat.le.intro hi)]
 by_cases YN:i < W.length
 ·obtain ⟨kk,hk⟩: ∃kk,W[i]? =some kk:=⟨_,List.getElem?_eq_getElem YN⟩;have QX:=hW kk (List.mem_of_getElem? hk);have htx:=hS.text kk QX.1 QX.2;have dr:=M9 (S:=S) hk;rw [Km] at dr;refine xy (tK (l:=B8 S W) dr) fun g1 g2 g3=>?_;refine xy (tK g3) fun g4 g5 g6=>?_;refine xy (tK g6) fun g7 g8 g9=>?_;replace g9:(B8 S W).drop (jC S W i + 1 + 1 + 1)=((S.text kk).map fun z=>u8 (z:Nat))++B8 S (W.drop (i + 1)):=g9;refine bD (pC (bD (aZ (M4 (n:=n + 6) T H.tY (jB.le (wN (n:=n) (pn:=jC S W i) T H B hx hB UG (by rw [List.size_toArray]; exact g2)) (Nat.le_succ _)) (YM its k) K1 rfl rfl fV F8 rfl fun v9 u9 s9 m9 F9=>store K1 F9 (.inl rfl) fun Ou Mw CC=>?_))));refine bz (bz ?_);have e1:(((B8 S W).toArray.toList.getD (jC S W i) 0).toNat:Int)=num kk:=by
   refine (?_:(((B8 S W).getD (jC S W i) 0).toNat:Int)=num kk);rw [g1,Aj oX.1 oX.2];exact qZ oX.1
  have e2:(((B8 S W).toArray.toList.getD (jC S W i + 1) 0).toNat:Int)=i7 S kk:=by
   refine (?_:(((B8 S W).getD (jC S W i + 1) 0).toNat:Int)=i7 S kk);rw [g4,Aj pU.1 pU.2];exact qZ pU.1
  have e3:((B8 S W).toArray.toList.getD (jC S W i + 1 + 1) 0).toNat=(S.text kk).length:=by
   refine (?_:((B8 S W).getD (jC S W i + 1 + 1) 0).toNat=(S.text kk).length);rw [g7,Aj (by exact aS _) (cf (m:=256) |>.mpr (Nat.lt_of_le_of_lt htx.1 (by decide)))]
   rfl
  have hlen:jC S W i + 1 + 1 + 1 + (S.text kk).length<=(B8 S W).length:=by
   have q:=congrArg List.length g9;rw [List.length_drop,List.length_append,List.length_map] at q;exact Nat.add_le_of_le_sub' (g8:jC S W i + 1 + 1 < (B8 S W).length) (Nat.le_trans (Nat.le_add_right _ _) (Nat.le_of_eq q.symm))
  have e4:((B8 S W).toArray.toList.drop (jC S W i + 1 + 1 + 1)).take (S.text kk).length=(S.text kk).map fun z=>u8 (z:Nat):=by
   refine (?_:((B8 S W).drop (jC S W i + 1 + 1 + 1)).take (S.text kk).length=_);rw [g9,List.take_append_of_le_length (by simp),List.take_of_length_le (by simp)]
  rw [e1] at CC;have P1:=wN (n:=n) (t1:=t1) (t2:=t2) (pn:=jC S W i + 1) T H B hx hB UG (by rw [List.size_toArray]; exact g5);rw [e2] at P1;have P2:=Ea (n:=n) (t1:=t1) (t2:=t2) (pn:=jC S W i + 1 + 1) T H B hx hB UG e3 (by rw [List.size_toArray]; exact hlen) e4;rw [Ef hS QX] at P2;refine bD (Ec (n:=n + 6) (own:=ownOf (aG 38)) (its:=its) (k:=k) (d0:=.int (num kk)) T H (YM its k) K1 rfl rfl rfl fV (P1.le (Nat.le_succ _)) P2 Kn (hio _ _) (Nat.le_trans (Nat.le_of_eq Df) (Nat.le_trans (Nat.le.intro hi) (Nat.le_trans hl (by decide)))) (by decide +kernel) CC fun v11 u11 k11 Wj QK Ly=>?_);have ep:jC S W i + 1 + 1 + 1 + (S.text kk).length=jC S W (i + 1):=by
   rw [G9 hk,Km];refine (?_:_=jC S W i + (((S.text kk).map _).length + 3));rw [List.length_map];exact Nat.add_right_comm (jC S W i) 3 _
  rw [ep] at Ly;have Wm:0 < m:=Nat.lt_of_add_lt_add_left (show i + 0 < i + m from hi.symm ▸ YN);refine bz ⟨m - 1,Nat.sub_lt Wm Nat.one_pos,i + 1,its++[v11],k11,u11,(Nat.add_assoc i 1 (m - 1)).trans ((congrArg (i + ·) (Nat.add_sub_cancel' Wm)).trans hi),((((mi.trans m8).trans m9).trans Mw).trans QK),by simp [Df],((Ly.names fun y d hy=>?_).temps fun p hp=>?_)⟩
  ·unfold upd
   by_cases q:y=aR "number"
   ·subst q;exact absurd hy (by refine (?_:Oo (aR "number")≠_); intro h; cases h)
   ·rw [if_neg q]; exact hy
  ·have et:((W.take (i + 1)).map (eZ S)).map Sv.dat=((W.take i).map (eZ S)).map Sv.dat++[.dat (eZ S kk)]:=by
    rw [List.take_add_one,hk]; simp
   rw [et,List.append_nil,Na (by rw [List.length_map]; exact htk)] at hp;exact cE hp (fun hp=>.tail _ (mL hp)) fun hp=>rf hp (.head _)
 ·obtain rfl:i=W.length:=Nat.le_antisymm (Nat.le.intro hi) (Nat.le_of_not_lt YN);have F8':FS G c0 ⟨cK w C x dx Bf t1 t2 u' (B8 S W).toArray (jC S W W.length)++((lr,listOf its.toArray k)::Φ),D⟩ Oo (its.zip ((W.map (eZ S)).map .dat)++[]) s8.heap:=by
   have q:=F8;rw [List.take_length] at q;exact q
  refine bD (readEnd (n:=n + 1) (own:=ownOf (aG 38)) (ρ:=Oo) (fl:=D) (τ:=[]) (u:=u') (t1:=t1) (t2:=t2) (k:=k) (pn:=jC S W W.length) (its:=its) (ds:=W.map (eZ S)) T H B hx hB UG (by unfold jC; rw [List.take_length,List.size_toArray]) (YM its k) K1 rfl rfl fV qy hF Di (fun q hq hm=>?_) (fun hm=>?_) Kn (by rw [List.length_map]; exact Df) F8' fun r s9 g m9 Sg F9=>?_)
  ·refine ex (jk _ hm) fun o ho=>?_;have q2:=hΦ _ ho;exact VO (P:=fun p=>p.1=q.1->False) hq (fun e=>q2.2.1 e.symm) (fun e=>q2.1 e.symm) (fun e=>q2.2.2 e.symm) rfl
  ·refine ex (jk _ hm) fun o ho=>?_;exact Kn _ ho rfl
  refine iU F9.leave fun D' W' BR h'=>?_;exact hq r s9 D' g ((mi.trans m8).trans m9) Sg W' (fun p hp=>BR p (hs p hp)) h'
end
end
section
open PySem.Builtin
theorem bL.keeps {G':Heap} (T:bL mg mb G) (k: ∀b o,G.get? b=some o->G'.get? b=some o):bL mg mb G':=by
 refine bQ T.nodigits fun mc h1 h2=>?_;exact ⟨T.g.keeps k,T.b.keeps k,T.nolimit.keeps k,⟨mc,h1.keeps k,h2⟩,T.builtins⟩
theorem Ns.hide {as:List Addr} (hn:h.Ns a m) (CD:a∉as):(cB h as).Ns a m:=by
 refine oz hn fun o es ep h1 h2=>?_; clear hn;exact ⟨o,es,ep,eL _ h1 CD,h2⟩
theorem bL.hide (T:bL mg mb G) {fs:Led} (hf: ∀p∈fs,G.get? p.1=some p.2/\∀es ep,p.2.data≠ .dict es ep):bL mg mb (cB G (fs.map (·.1))):=by
 have na: ∀{a:Addr} {m:Str->Option ai},G.Ns a m->a∉fs.map (·.1):=fun hn hm=>by
  refine bQ (List.mem_map.mp hm) ?_; rintro p hp rfl;refine jt hn fun o es ep h1 h2 _=>?_; clear hn;rw [(hf p hp).1] at h1;cases h1;exact (hf p hp).2 es ep h2
 refine bQ T.nodigits fun mc h1 h2=>?_;refine bQ T.nolimit fun mc' g1 g2=>?_;exact ⟨Ns.hide T.g (na T.g),Ns.hide T.b (na T.b),⟨mc',Ns.hide g1 (na g1),g2⟩,⟨mc,Ns.hide h1 (na h1),h2⟩,T.builtins⟩
section
variable {Φ fs:Led}
theorem au.lower (W:au G Φ D h) (hf: ∀p∈fs,G.get? p.1=some p.2):au (cB G (fs.map (·.1))) (fs++Φ) D h:=by
 refine ⟨fun b o e=>W.keep b o (CA _ e),fun p hp=>?_,fun p hp q hq=>?_,by rw [xq]; exact W.sz⟩
 ·have hn: ∀{b:Addr},G.get? b=none->(cB G (fs.map (·.1))).get? b=none:=fun {b} e=>by
   cases z:(cB G (fs.map (·.1))).get? b with
   | none=>rfl
   | some o=>rw [CA _ z] at e; cases e
  exact cE hp (fun hp=>⟨(W.pin p (mL hp)).1,hn (W.pin p (mL hp)).2⟩) fun hp=>cE hp (fun hp=>⟨W.keep _ _ (hf p hp),qm _ (List.mem_map_of_mem hp)⟩) fun hp=>⟨(W.pin p (mR hp)).1,hn (W.pin p (mR hp)).2⟩
 ·refine cE hq (fun hq=>?_) (fun hq=>?_)
  ·intro e;have:=(W.pin p (mL hp)).2;rw [e,hf q hq] at this; cases this
  ·exact W.ap p hp q hq
theorem au.lift (W:au G Φ D h) (hf: ∀p∈fs,G.get? p.1=some p.2) (W':au (cB G (fs.map (·.1))) (fs++Φ) D' h'):au G Φ D' h':=by
 refine ⟨fun b o e=>?_,fun p hp=>?_,fun p hp q hq=>W'.ap p hp q (mR hq),by have:=W'.sz; rw [xq] at this; exact this⟩
 ·by_cases hb:b∈fs.map (·.1)
  ·refine bQ (List.mem_map.mp hb) ?_; rintro p hp rfl;rw [hf p hp] at e; cases e;exact (W'.pin p (mR ((mL hp)))).1
  ·exact W'.keep b o (eL _ e hb)
 ·refine cE hp (fun hp=>?_) (fun hp=>?_)
  ·refine ⟨(W'.pin p (mL hp)).1,?_⟩;cases z:G.get? p.1 with
   | none=>rfl
   | some o=>
    by_cases hb:p.1∈fs.map (·.1)
    ·refine bQ (List.mem_map.mp hb) fun q hq e=>?_;exact absurd e.symm (W'.ap p hp q (mL hq))
    ·have:=eL _ z hb;rw [(W'.pin p (mL hp)).2] at this; cases this
  ·exact ⟨(W'.pin p (mR ((mR hp)))).1,(W.pin p (mR hp)).2⟩
theorem au.wide (W:au G Φ D h):au (cB h (D.map (·.1))) [] D h:=by
 refine ⟨fun b o e=>CA _ e,fun p hp=>?_,fun p hp q hq=>(nomatch hq),by rw [xq]; exact Nat.le_refl _⟩;rw [List.append_nil] at hp;exact ⟨(W.pin p (mL hp)).1,qm _ (List.mem_map_of_mem hp)⟩
theorem au.narrow (W:au G Φ D h) (W':au (cB h (D.map (·.1))) [] D' h'):au G Φ D' h':=by
 have off: ∀b o,G.get? b=some o->b∉D.map (·.1):=fun b o e hm=>by
  refine bQ (List.mem_map.mp hm) ?_; rintro p hp rfl;rw [(W.pin p (mL hp)).2] at e; cases e
 have ON: ∀p∈Φ,p.1∉D.map (·.1):=fun p hp hm=>by
  refine bQ (List.mem_map.mp hm) fun q hq e=>?_;exact W.ap q hq p hp e
 refine ⟨fun b o e=>W'.keep b o (eL _ (W.keep b o e) (off b o e)),fun p hp=>?_,fun p hp q hq e=>?_,Nat.le_trans W.sz (by have:=W'.sz; rw [xq] at this; exact this)⟩
 ·refine cE hp (fun hp=>?_) (fun hp=>?_)
  ·have q:=W'.pin p (mL hp);refine ⟨q.1,?_⟩;cases z:G.get? p.1 with
   | none=>rfl
   | some o=>have:=eL (D.map (·.1)) (W.keep _ _ z) (off _ _ z); rw [q.2] at this; cases this
  ·exact ⟨W'.keep _ _ (eL _ (W.pin p (mR hp)).1 (ON p hp)),(W.pin p (mR hp)).2⟩
 ·have q1:=(W'.pin p (mL hp)).2;have q2:=eL (D.map (·.1)) (W.pin q (mR hq)).1 (ON q hq);rw [<- e,q1] at q2; cases q2
theorem au.r9 (W:au G Φ D h): ∀b o,G.get? b=some o->(cB h (D.map (·.1))).get? b=some o:=fun b o e=>eL _ (W.keep b o e) fun hm=>by
 refine bQ (List.mem_map.mp hm) ?_; rintro p hp rfl;rw [(W.pin p (mL hp)).2] at e; cases e
end
theorem Ko {name:Str} {body:Expr} {cl:List (Str × Addr)} {QY pP:ai} {fs:Led} {d1 r:Sv} (T:bL mg mb G) (ho:G.get? fa=some o) (hd:o.data=.func (kla_fn name qual params body scope cl pm QY pP)) (sI: ∀(D:Led) (v:ai) (h:Heap),bw D v d1->(∀p∈D,h.get? p.1=some p.2)->(∀b o,G.get? b=some o->h.get? b=some o)->h.CodeRec QY qual) (uv: ∀p∈fs,G.get? p.1=some p.2/\∀es ep,p.2.data≠ .dict es ep) (ie: ∀v,gw (kla_fn name qual params body scope cl pm QY pP) ⟨[v],[]⟩=pure [(x,v)]) (hx:scope.names.lookup x=some .local) (QZ: ∀y∈scope.names,y.2≠ .cell) (Sl: ∀D v,bw D v d1->∀y d,ρ y=some d->(y=x/\bw D v d)\/(scope.names.lookup y=some .free/\∃a o u,cl.lookup y=some a/\(a,o)∈fs/\o.data=.cell (some u)/\bw D u d)) (hb: ∀G' L,bL mg mb G'->fM (z4 scope L cl (qual++ ".<locals>.") fa QY)->Ev prog w G' n ⟨z4 scope L cl (qual++ ".<locals>.") fa QY,[],fs⟩ ρ body r) (vy:scope.isCoroutine=false:=by rfl) (kI:scope.isGenerator=false:=by rfl) (uw:scope.kind=.function:=by rfl):CQ prog w G (n + 1) (fun v=>call (.ref fa) [v]) d1 r:=.mk fun A E Q Φ D v1 s a W h1 q=>by
 have W1:=W.lower (fs:=fs) fun p hp=>(uv p hp).1;have T1:=T.hide uv;refine fg (kla_callFunE a.room (W.keep _ _ ho) hd vy kI rfl (sI D v1 _ h1 (fun p hp=>(W.pin p (mL hp)).1) W.keep) ?_);rw [ie];refine ah (sj QZ (fun y hy=>by exact rf hy (hx)) (fun VU Ii VW=>?_) uw);have kp: ∀b o,s.heap.get? b=some o->VU.get? b=some o:=fun b o e=>(VW.2 b (Nat.ne_of_lt (az e))).trans (av _ e);refine ⟨(T.nolimit.keeps W.keep).keeps kp,kla_codeExpr ?_⟩;have K1:fM (z4 scope s.heap.objs.size cl (qual++ ".<locals>.") fa QY):=⟨uw,rfl,rfl⟩;have F:FS (cB G (fs.map (·.1))) ⟨z4 scope s.heap.objs.size cl (qual++ ".<locals>.") fa QY,[],fs⟩ ⟨fs++Φ,D⟩ ρ [] VU:=by
  refine ⟨D,[],_,⟨⟨Ii,fun b o e=>kp b o (W1.keep b o e),W1.sz⟩,fun p hp=>?_,fun p hp q hq=>W1.ap p hp q hq,rfl,List.nodup_nil,List.nodup_nil,nm,nm,fun p hp=>mL hp,fun p hp=>hp,fun y d hy=>?_,nm⟩⟩
  ·have z:=W1.pin p (by simpa using hp);exact ⟨kp _ _ z.1,Nat.ne_of_lt (az z.1),z.2⟩
  ·rcases Sl D v1 h1 y d hy with ⟨rfl,hd⟩ | ⟨e1,a,o,u,e2,e3,e4,e5⟩
   ·refine ⟨v1,.inl ⟨hx,?_⟩,hd⟩;refine (?_:List.lookup y [(y,v1)]=some v1);simp
   ·exact ⟨u,.inr (.inr ⟨.inl e1,a,o,e2,e3,e4⟩),e5⟩
 refine (hb _ s.heap.objs.size T1 K1).go _ _ _ _ _ _ (a.deeper _) F fun v s' sm F'=>?_;refine iU F'.leave fun D' W' BR h'=>?_;exact q v s' D' ⟨sm.gens,sm.os⟩ (W.lift (fun p hp=>(uv p hp).1) W') BR h'
end
section
open PySem.Builtin
noncomputable def oY (c':Addr) (oc:Obj):Sv:=.own (fun D _=>(c',oc)∈D) fun _ _ _ hs h=>hs _ h
section
theorem DatAll.YO {ws:Dat->Sv} (hw: ∀v d,eI D v d->bw D v (ws d)) (h:dG D vs ds):bP D vs (ds.map ws):=by
 induction ds generalizing vs with
 | nil=>exact dN h .nil
 | cons d ds ih=>exact dC h fun v vs q r=>.cons (hw _ _ q) (ih r)
theorem Eg {Φ:Led} {r:Nat->Int} {ws:Dat->Sv} (hA:cQ (n + 2) A) (W:au G Φ D s.heap) (hv:eI D v (.list ds)) (hl:ks.length=ds.length) (zS:ds.length < 64) (hw: ∀v d,eI D v d->bw D v (ws d)) (turn: ∀(i:Nat) (d:Dat) (k:Sv),ds[i]? =some d->ks[i]? =some k->CQ prog w G n (fun v=>call (.ref fa) [v]) (ws d) k) (hk:2<=ds.length->j0 prog w G κ ks) (hc: ∀(i j:Nat) (di dj:Sv),ks[i]? =some di->ks[j]? =some dj->HT prog w G n (uN κ) di dj (rl r i j)) (q: ∀v' s' D',Sm s s'->au G Φ D' s'.heap->(∀p∈D,p∈D')->eI D' v' (.list ((gu r ds.length).map fun i=>ds.getD i .none))->Q v' s'):ak (aq prog w) A (call (.builtin "sorted") [v] [("key",.ref fa)]) Q E s:=by
 refine E8 (prog:=prog) (w:=w) (G:=G) hA W hv zS (ksk_s1 _ _) (fun x=>ksk_l1 _ _) (fun a n0 vs s1 P sm A3 W1 CD hP=>?_) q;rw [ksk_t1];have rz:vs.length=ds.length:=by have:=(DatAll.sv A3).length; simpa using this
 refine Js (ds:=ds.map ws) (ks:=ks) (κ:=κ) (r:=r) hA.in1.in1 W1 CD (DatAll.YO hw A3) (by simpa using hl) (by simpa using zS) (fun i d k hd hk=>?_) (fun h=>hk (by simpa using h)) hc (fun s' D' c yy W2 hs=>?_)
 ·rw [List.getElem?_map] at hd;refine bQ (bg.mp hd) ?_; rintro d' uu rfl;exact turn i d' k uu hk
 ·rw [List.length_map] at W2;exact hP s' D' c _ (sm.trans yy) (Rg.DatAll.pick (A3.mono hs) _) W2 hs
variable {c0:Addr}
noncomputable abbrev wQ (c:Cx) (mg:Str->Option ai) (params:gK) (body:Expr) (scope:iK) (ru:List (Str × Addr)) (c':Addr) (pP:ai):Obj:=kla_obj "<lambda>" (c.env.qual++ "<lambda>") params body scope ru ((mg "__name__").getD .none) c' pP
noncomputable def wR (c:Cx) (oc:Obj):Prop:=∃vs tq,oc.data=.fields vs/\vs[1]? =some (.str (c.env.qual++ "<lambda>") tq)
theorem B4 {body:Expr} (T:bL mg mb G) (H:TopC mg G c0 P0) (K:fM c.env) (jl:c.env.code=.ref c0) (DQ:defaultsOf params c.env=([],[])) (mh:ff scope c.env=pure ru) (ht:iI ps.toList) (GA:eY pos ps.toList=none) (hR: ∀p∈F1,p.1≠P0) (XZ: ∀p∈c.free,p∈F1) (F:FS G c ⟨(P0,aT ps)::F1,fl⟩ ρ τ s.heap) (h: ∀fa c' oc pP s',Sm s s'->FS G c ⟨(fa,wQ c mg params body scope ru c' pP)::(P0,aT (ps++ #[aQ pos.line,aQ pos.col,.ref c']))::F1,fl⟩ ρ ((.none,oY c' oc)::τ) s'.heap->(∀q∈ (P0,aT ps)::F1,q.1≠fa)->wR c oc->Q (.ref fa) s'):ak (aq prog w) A (eval (.Lambda params body scope pos) c.env) Q E s:=by
 have YQ:=T.g.keeps F.top;have hP:=F.get (.head _);refine kF H.bmain fun bm ob b1 b2 b3 b4 b5 b6=>?_;have ne: ∀{b:Addr} {o:Obj},G.get? b=some o->P0≠b:=fun e q=>by rw [<- q,H.off] at e; cases e
 have YR:bm≠aO:=fun q=>by
  refine jt T.g fun o es ep e hd _=>?_;rw [q,e] at b3; cases b3; rw [hd] at b6; cases b6
 have Xv:aO≠P0:=by
  refine oz T.g fun o es ep e _=>?_;exact Ne.symm (ne e)
 refine kla_eval DQ (kla_makeFunction (mg:=mg) mh K.glob YQ jl (H.code.keeps F.top) hP ht GA Xv ⟨bm,ob,b1,b2,YR,Ne.symm (ne b3),F.top _ _ b3,b4,b5,b6⟩ fun c' pP h' tk hx Qo fG xU Xw=>?_);refine jI xU fun c1 oc vs tq e1 e2 e3 e4=>?_; clear xU;cases e1;have old: ∀q∈ (P0,aT ps)::F1,q.1≠h'.objs.size:=fun q hq=>Nat.ne_of_lt (Nat.lt_of_lt_of_le (az (F.get hq)) (Nat.le_of_lt (Nat.lt_of_le_of_lt Qo fG)));refine d8 F fun D C m X=>?_; clear F;have M:Mm s.heap h' [(P0,aT (ps++ #[aQ pos.line,aQ pos.col,.ref c']))] [(c',oc)]:=by
  have YS:=az hP;refine ⟨fun b o e hb=>hx b o (Ne.symm (hb _ (.head _))) e,fun p hp=>?_,?_,fun p hp=>?_,?_⟩
  ·refine bU hp ?_ (fun hp=>?_)
   ·exact Xw
   ·obtain rfl:p=(c',oc):=List.mem_singleton.mp hp;exact e2
  ·exact Nat.le_of_lt (Nat.lt_of_le_of_lt Qo fG)
  ·exact rf hp (Qo)
  ·refine (?_: [P0,c'].Nodup);have:P0≠c':=Nat.ne_of_lt (Nat.lt_of_lt_of_le YS Qo);simp [this]
 have X':=X.grow M hR XZ;have hτ: ∀p∈ ((.none,oY c' oc):ai × Sv)::τ,bw ([(c',oc)]++D) p.1 p.2:=fun p hp=>by
  exact bU hp ((show (c',oc)∈[(c',oc)]++D from .head _)) fun hp=>X'.tm p hp
 have F':FS G c ⟨(P0,aT (ps++ #[aQ pos.line,aQ pos.col,.ref c']))::F1,fl⟩ ρ ((.none,oY c' oc)::τ) h':=⟨_,C,m,(X'.oB hτ)⟩;exact h h'.objs.size c' oc pP _ ⟨rfl,rfl⟩ (F'.sY rfl) old ⟨vs,tq,e3,e4⟩
theorem Kp {body:Expr} {c':Addr} (T:bL mg mb G) (H:TopC mg G c0 P0) (K:fM c.env) (jl:c.env.code=.ref c0) (DQ:defaultsOf params c.env=([],[])) (mh:ff scope c.env=pure ru) (ht:iI ps.toList) (hf:eY pos ps.toList=some (.ref c')) (F:FS G c ⟨(P0,aT ps)::F1,fl⟩ ρ τ s.heap) (h: ∀fa pP s',Sm s s'->FS G c ⟨(fa,wQ c mg params body scope ru c' pP)::(P0,aT ps)::F1,fl⟩ ρ τ s'.heap->(∀q∈ (P0,aT ps)::F1,q.1≠fa)->Q (.ref fa) s'):ak (aq prog w) A (eval (.Lambda params body scope pos) c.env) Q E s:=by
 have YQ:=T.g.keeps F.top;have hP:=F.get (.head _);refine kF H.bmain fun bm ob b1 b2 b3 b4 b5 b6=>?_;have ne: ∀{b:Addr} {o:Obj},G.get? b=some o->P0≠b:=fun e q=>by rw [<- q,H.off] at e; cases e
 have YR:bm≠aO:=fun q=>by
  refine jt T.g fun o es ep e hd _=>?_;rw [q,e] at b3; cases b3; rw [hd] at b6; cases b6
 refine kla_eval DQ (kla_makeFunctionHit (mg:=mg) mh K.glob YQ jl (H.code.keeps F.top) hP ht hf ⟨bm,ob,b1,b2,YR,Ne.symm (ne b3),F.top _ _ b3,b4,b5,b6⟩ fun pP h' tk hk rC=>?_);have old: ∀q∈ (P0,aT ps)::F1,q.1≠h'.objs.size:=fun q hq=>Nat.ne_of_lt (Nat.lt_of_lt_of_le (az (F.get hq)) rC);exact h h'.objs.size pP _ ⟨rfl,rfl⟩ ((F.keep hk).sY rfl) old
theorem FS.yU {r:Nat->Int} (hA:cQ (n + 2) A) (F:FS G c Φ ρ ((v,.dat (.list ds))::τ) s.heap) (hl:ks.length=ds.length) (zS:ds.length < 64) (Fe: ∀(D:Led) (C:vg) (m:Str->Option ai),iN G c Φ ρ ((v,.dat (.list ds))::τ) s.heap D C m->∃ws:Dat->Sv,(∀v d,eI D v d->bw D v (ws d))/\(∀(i:Nat) (d:Dat) (k:Sv),ds[i]? =some d->ks[i]? =some k->CQ prog w (cB s.heap (D.map (·.1))) n (fun v=>call (.ref fa) [v]) (ws d) k)/\
   (2<=ds.length->j0 prog w (cB s.heap (D.map (·.1))) κ ks)/\(∀(i j:Nat) (di dj:Sv),ks[i]? =some di->ks[j]? =some dj->HT prog w (cB s.heap (D.map (·.1))) n (uN κ) di dj (rl r i j))) (q: ∀v' s',Sm s s'->FS G c Φ ρ ((v',.dat (.list ((gu r ds.length).map fun i=>ds.getD i .none)))::τ) s'.heap->Q v' s'):ak (aq prog w) A (call (.builtin "sorted") [v] [("key",.ref fa)]) Q E s:=by
 refine d8 F fun D C m X=>?_; clear F;refine lj (Fe D C m X) fun ws h1 h2 h3 h4=>?_;refine ex X.around fun oL W=>?_;have hv:eI D v (.list ds):=X.tm _ (.head _);refine Eg (G:=cB s.heap (D.map (·.1))) (Φ:=[]) (D:=D) hA W.wide hv hl zS h1 h2 h3 h4 fun v' s' D' sm W' hD Lx=>?_;have Y:=X.back (W.pin _ (mR ((.head _)))).1 (W.narrow W') hD;exact q v' s' sm ⟨D',C,m,(Y.lq.rq Lx)⟩
end
end
noncomputable def j5 (ahead:List Nat) (k:Nat):Nat->Nat
 | 0=>k
 | i + 1=>ahead.getD (j5 ahead k i) 0
noncomputable def nH (ahead:List Nat) (k:Nat):Nat->List Int
 | 0=>[]
 | i + 1=>jY.getD (j5 ahead k i - 1) 0::nH ahead k i
theorem sd (ahead:List Nat) (k:Nat): ∀m,(nH ahead k m).length=m
 | 0=>rfl
 | i + 1=>by rw [nH,List.length_cons,sd ahead k i]
theorem Eh (T:bL mg mb G) (hf:FnAt G a "_law_chain" (argsAt 36) (dh 36) (aG 36)) (ahead:List Nat) (k m:Nat) (hm: ∀i,i < m->0 < j5 ahead k i) (Wm:j5 ahead k m=0) (hk: ∀i,i < m->j5 ahead k i < ahead.length) (hlen:ahead.length<=10) (hmm:m<=10):
  bJ prog w G (n + 1) (.ref a) [.dat (dL (ahead.map kX)),.dat (.int k)] (.dat (dL (nH ahead k m))):=by
 refine bJ.def (xs:=["ahead","k"]) T hf (fun pm cd doc vs h=>?_) rfl rfl (by decide +kernel) ?_
 ·exact ur h fun _ _=>rfl
 intro L cd K;refine Ex.cons (Xs.assign K (.inl rfl) (Ev.list (ds:=[]) ic.nil)) ?_;have hA:(ahead.map kX).length<=10:=by rw [List.length_map]; exact hlen
 refine Ex.cons (Xs.while (fun i=>upd (upd (upd (fun _=>none) "ahead" (.dat (dL (ahead.map kX)))) "k" (.dat (.int (j5 ahead k i)))) "chain" (.dat (dL (nH ahead k i)))) m (fun x d h=>?_) (fun i hi=>?_) ?_ (fun i hi=>?_)) ?_
 ·exact h
 ·refine Et.cmp (Ev.name K rfl) Ev.int AP ?_;have:decide ((0:Int) < (j5 ahead k i:Nat))=true:=by have:=hm i hi; simp; exact this
  rw [this]; exact gR.bool
 ·refine Et.cmp (Ev.name K rfl) Ev.int AP ?_;have:decide ((0:Int) < (j5 ahead k m:Nat))=false:=by rw [Wm]; rfl
  rw [this]; exact gR.bool
 ·have hk0:=hm i hi;have E7:=hk i hi;have e1:((j5 ahead k i:Nat):Int) - 1=((j5 ahead k i - 1:Nat):Int):=(OW hk0).symm;refine Ex.cons (Xs.assign K (.inl rfl) (d:=.dat (dL (nH ahead k (i + 1)))) (Ev.bin (d1:=.dat (dL [jY.getD (j5 ahead k i - 1) 0])) (d2:=.dat (dL (nH ahead k i))) ?_ (Ev.name K rfl) (iZ ?_))) ?_
  ·refine Ev.list (ds:=[.int (jY.getD (j5 ahead k i - 1) 0)]) (ic.one (Ev.item (ds:=jY.map .int) ?_ (Ev.bin (Ev.name K rfl) Ev.int qQ) ?_ ?_ ?_))
   ·exact Ev.list (ds:=jY.map .int) (.cons Ev.int (.cons Ev.int (.cons Ev.int (.cons Ev.int (.cons Ev.int (.cons Ev.int (.cons Ev.int (.cons Ev.int (.cons Ev.int .nil))))))))) (by decide)
   ·exact e1 ▸ aS _
   ·rw [e1,cj,List.getElem?_map];have:j5 ahead k i - 1 < jY.length:=by refine (?_:_ < 9); exact Nat.lt_of_lt_of_le (Nat.sub_lt hk0 Nat.one_pos) (Nat.le_of_lt_succ (Nat.lt_of_lt_of_le E7 hlen))
    rw [List.getElem?_eq_getElem this,List.getD_eq_getElem?_getD,List.getElem?_eq_getElem this]; rfl
   ·exact e1 ▸ pW (Nat.le_trans (Nat.sub_le _ _) (Nat.le_trans (Nat.le_of_lt E7) (lK hlen)))
  ·simp only [List.length_map,sd]; exact sl (by simp; exact lK (Nat.add_le_add_left (Nat.le_trans (Nat.le_of_lt hi) hmm) 1))
  refine Ex.cons (Xs.assign K (.inl rfl) (d:=.dat (.int (j5 ahead k (i + 1)))) (Ev.item (ds:=(ahead.map kX).map .int) (Ev.name K rfl) (Ev.name K rfl) (aS _) ?_ (pW (Nat.le_trans (Nat.le_of_lt E7) (lK hlen))))) ?_
  ·rw [cj,List.getElem?_map,List.getElem?_map,List.getElem?_eq_getElem E7];refine (?_:some (iM _)=some (iM _))
   congr 2
   refine (?_:kX ahead[j5 ahead k i]=((ahead.getD (j5 ahead k i) 0:Nat):Int));rw [List.getD_eq_getElem?_getD,List.getElem?_eq_getElem E7]; rfl
  ·exact Ex.mono Ex.nil (aP (aP (aP dB rfl) rfl) rfl)
 ·exact Ex.stop (Xs.ret (Ev.name K rfl))
structure nY (q:tV):Prop where
 len:q.texts.length=q.ahead.length
 pos:5<=q.ahead.length
 par: ∀k,1<=k->k < q.ahead.length->q.ahead.getD k 0 < k
 text: ∀t∈q.texts,t.length<=4/\∀z∈t,z < 256
 nd:q.order.Nodup
 mem: ∀k,k∈q.order↔1<=k/\k < q.ahead.length
theorem nY.init:nY Je:=by
 refine ⟨rfl,by decide,?_,by decide,by decide,fun k=>?_⟩
 ·intro k h1 h2;have:k < 5:=h2;exact (show ∀k < 5,1<=k->[0,0,1,0,1].getD k 0 < k by decide) k this h1
 ·refine (?_:k∈[4,3,1,2] ↔1<=k/\k < 5);simp only [List.mem_cons,List.not_mem_nil,or_false];exact ⟨fun h=>by rcases h with rfl | rfl | rfl | rfl <;> decide,fun h=>(show ∀k < 5,1<=k->(k=4\/k=3\/k=1\/k=2) by decide) k h.2 h.1⟩
theorem nY.step (h:nY q) (x:Int):nY (i8 q x):=by
 have hp:=h.pos;have OO:(i8 q x).order.Perm (q.ahead.length::q.order):=by
  refine (?_:(q.order.take (jz q x)++q.ahead.length::q.order.drop (jz q x)).Perm _);refine List.perm_middle.trans ?_;rw [List.take_append_drop]
 have GB:q.ahead.length∉q.order:=fun hm=>by have:=(h.mem _).mp hm; exact Nat.lt_irrefl _ this.2
 refine ⟨?_,?_,?_,?_,?_,fun k=>?_⟩
 ·refine (?_:(q.texts++_).length=(q.ahead++_).length);rw [List.length_append,List.length_append,h.len]; rfl
 ·refine (?_:5<=(q.ahead++_).length);rw [List.length_append]; exact Nat.le_succ_of_le hp
 ·intro k h1 h2;refine (?_:(q.ahead++[(x.fmod (q.ahead.length:Int)).toNat]).getD k 0 < k);have hs:(i8 q x).ahead.length=q.ahead.length + 1:=by refine (?_:(q.ahead++[_]).length=_); simp
  have PU:k < q.ahead.length + 1:=hs ▸ h2
  by_cases e:k < q.ahead.length
  ·rw [List.getD_eq_getElem?_getD,List.getElem?_append_left e, <- List.getD_eq_getElem?_getD];exact h.par k h1 e
  ·have:k=q.ahead.length:=aE (Nat.le_of_lt_succ PU) e;subst this;rw [List.getD_eq_getElem?_getD,List.getElem?_append_right (Nat.le_refl _),Nat.sub_self];refine (?_:(x.fmod (q.ahead.length:Int)).toNat < q.ahead.length);have a1:=fk x (show (0:Int) < q.ahead.length by exact cf.mpr h1);have a2:=k8 x (show (0:Int) < q.ahead.length by exact cf.mpr h1);exact (n5 a1).mpr a2
 ·intro t ht;refine cE ht (fun ht=>?_) (fun ht=>?_)
  ·exact h.text t ht
  ·rw [List.mem_singleton] at ht;subst ht;refine ⟨by simp,fun z hz=>?_⟩;rw [List.mem_singleton] at hz;subst hz;have a1:=fk (if x < 0 then -x else x) (show (0:Int) < 256 by decide);have a2:=k8 (if x < 0 then -x else x) (show (0:Int) < 256 by decide);exact (n5 a1).mpr a2
 ·exact OO.nodup_iff.mpr (List.nodup_cons.mpr ⟨GB,h.nd⟩)
 ·rw [OO.mem_iff,List.mem_cons,h.mem];have:(i8 q x).ahead.length=q.ahead.length + 1:=by refine (?_:(q.ahead++[_]).length=_); simp
  rw [this];exact ⟨fun h=>h.elim (fun e=>by subst e; exact ⟨Nat.le_trans (by decide) hp,Nat.lt_succ_self _⟩) fun h=>⟨h.1,Nat.lt_succ_of_lt h.2⟩,fun h=>(Nat.lt_succ_iff_lt_or_eq.mp h.2).elim (fun l=>.inr ⟨h.1,l⟩) .inl⟩
theorem nY.many: ∀(xs:List Int) {q:tV},nY q->nY (xs.foldl i8 q)
 | [],_,h=>h
 | x::xs,_,h=>nY.many xs (h.step x)
theorem nY.pieces (script:List Int):nY (Rg.pieces script):=nY.many _ nY.init
theorem yV: ∀(xs:List Int) (q:tV),(xs.foldl i8 q).ahead.length=q.ahead.length + xs.length
 | [],q=>rfl
 | x::xs,q=>by
  rw [List.foldl_cons,yV xs];refine (?_:(q.ahead++[_]).length + _=_);simp; lia
theorem Ei (script:List Int):(Rg.pieces script).ahead.length<=10:=by
 unfold pieces;rw [yV,List.length_take];refine (?_:5 + _<=10);exact Nat.add_le_add_left (Nat.min_le_left _ _) 5
theorem wU {l:List Nat} (gW:l.Nodup) (hm: ∀k,k∈l↔1<=k/\k < n):l.length=n - 1:=by
 have h:l.Perm (List.range' 1 (n - 1)):=(List.perm_ext_iff_of_nodup gW List.nodup_range').mpr fun k=>by rw [hm,List.mem_range'_1]; exact and_congr_right fun h=>⟨fun l=>Nat.lt_of_lt_of_le l (Nat.le_of_eq (Nat.add_sub_cancel' (Nat.lt_of_le_of_lt (Nat.zero_le _) l)).symm),fun l=>Nat.lt_of_lt_of_le l (Nat.le_of_eq (Nat.add_sub_cancel' (Nat.pos_of_ne_zero fun e=>by subst e; exact absurd l (Nat.not_lt.mpr h))))⟩
 rw [h.length_eq,List.length_range']
noncomputable def aD (q:tV):Sc:=⟨q.ahead.length - 1,fun k=>q.ahead.getD k 0,fun k=>q.texts.getD k []⟩
theorem iC (h:nY q):In (aD q) k↔1<=k/\k < q.ahead.length:=by
 have:=h.pos;refine (?_:1<=k/\k<=q.ahead.length - 1↔_);exact and_congr_right fun _=>⟨fun l=>Nat.lt_of_le_of_lt l (Nat.sub_lt (Nat.lt_of_lt_of_le (by decide) this) Nat.one_pos),Nat.le_sub_one_of_lt⟩
theorem fH (h:nY q) (hl:q.ahead.length<=10):(aD q).Ok:=by
 have hp:=h.pos;refine ⟨by refine (?_:q.ahead.length - 1<=9); exact Nat.sub_le_sub_right hl 1,fun k h1 h2=>h.par k h1 ((iC h).mp ⟨h1,h2⟩).2,fun k h1 h2=>?_⟩;have hk:=((iC h).mp ⟨h1,h2⟩).2;have Wn:k < q.texts.length:=by rw [h.len]; exact hk
 refine (?_:(q.texts.getD k []).length<=4/\∀z∈q.texts.getD k [],z < 256);rw [List.getD_eq_getElem?_getD,List.getElem?_eq_getElem Wn];exact h.text _ (List.getElem_mem Wn)
theorem kP (ahead:List Nat) (k:Nat): ∀i,j5 ahead k (i + 1)=j5 ahead (ahead.getD k 0) i
 | 0=>rfl
 | i + 1=>by
  refine (?_:ahead.getD (j5 ahead k (i + 1)) 0=ahead.getD (j5 ahead (ahead.getD k 0) i) 0);rw [kP ahead k i]
theorem uf (ahead:List Nat) (k:Nat): ∀i,nH ahead k (i + 1)=nH ahead (ahead.getD k 0) i++[num k]
 | 0=>rfl
 | i + 1=>by
  refine (?_:jY.getD (j5 ahead k (i + 1) - 1) 0::nH ahead k (i + 1)=(jY.getD (j5 ahead (ahead.getD k 0) i - 1) 0::nH ahead (ahead.getD k 0) i)++[num k]);rw [kP,uf ahead k i]
  rfl
theorem Kq (h:nY q) (hl:q.ahead.length<=10): ∀k,k < q.ahead.length->∃m,m<=k/\(∀i,i < m->0 < j5 q.ahead k i)/\j5 q.ahead k m=0/\(∀i,i < m->j5 q.ahead k i < q.ahead.length)/\nH q.ahead k m=ch (aD q) k:=by
 intro k
 induction k using Nat.strongRecOn with
 | ind k ih=>
  intro hk
  by_cases h0:k=0
  ·subst h0;exact ⟨0,Nat.le_refl _,(fun i hi=>by lia),rfl,(fun i hi=>by lia),rfl⟩
  ·have hp:=h.par k (Nat.pos_of_ne_zero h0) hk;refine CK (ih _ hp (Nat.lt_trans hp hk)) fun m hm a1 a2 a3 a4=>?_;refine ⟨m + 1,Nat.lt_of_le_of_lt hm hp,fun i hi=>?_,by rw [kP]; exact a2,fun i hi=>?_,?_⟩
   ·cases i with
    | zero=>refine (?_:0 < k); exact Nat.pos_of_ne_zero h0
    | succ i=>rw [kP]; exact a1 i (Nat.lt_of_succ_lt_succ hi)
   ·cases i with
    | zero=>exact hk
    | succ i=>rw [kP]; exact a3 i (Nat.lt_of_succ_lt_succ hi)
   ·rw [uf,a4,vK (fH h hl) ((iC h).mpr ⟨Nat.pos_of_ne_zero h0,hk⟩)]
    rfl
section
open PySem.Builtin
noncomputable abbrev eg (L a:Addr) (cd:ai):Env:=envOfC "law" (aG 45) L a cd
noncomputable abbrev dF (L a:Addr) (cd:ai):Cx:=⟨eg L a cd,ownOf (aG 45),[]⟩
noncomputable abbrev fO (S:Sc) (k:Nat):Dat:=dL (0::ch S k)
noncomputable abbrev jH (S:Sc) (N:Nat):Dat:=.list ((List.range N).map (fO S))
theorem Nb {ns:List Int} (h:dG D vs (ns.map .int)):IntsAre vs ns:=by
 induction ns generalizing vs with
 | nil=>exact dN h .nil
 | cons n ns ih=>exact dC h fun v vs q r=>iE q fun t=>.cons _ _ (ih r)
section
theorem Ev.Q0 {f:Expr} {ns:List Int} (hf:Ev prog w G n c ρ f (.val (.type "bytes"))) (he:Ev prog w G n c ρ e (.dat (dL ns))) (hr: ∀n∈ns,0<=n/\n < 256) (hz:ns.length<=1000) (h2:aC [e] c.env=(false,eval e c.env)::aC [] c.env:=by rfl) (h3:((cI pos (aC [] c.env)).any (·.1))=false:=by rfl) (hc:eval (.Call f [e] [] pos) c.env=(do eF pos (<- eval f c.env) [] (cI pos (aC [e] c.env)) (eG pos (bX [] c.env))):=by rfl):Ev prog w G n c ρ (.Call f [e] [] pos) (.dat (.bytes (byteArr ns))):=
 .mk fun A E Q Φ τ s a F h=>kT (hf.pX A E _ Φ τ s a F fun s1 m1 F1=>by
  refine cD ((ic.one he h2).CR A E _ Φ _ s1 pos a F1.pop fun v s2 m2 F2=>?_) h2 h3;refine bQ F2.heldBy fun D hD ht=>?_;have q:eI D v (dL ns):=ht _ (.head _);refine lE q fun b us nn mb A3=>?_
  ·have hi:=Nb A3;have hlen:us.length=ns.length:=hi.length;exact call_bytes_ints (ns:=ns) ⟨_,hD _ mb,rfl,nn,rfl⟩ hi hr (by rw [hlen]; exact sl hz) a.handled fun h' t k hk=>h _ _ ((m1.trans m2).trans ⟨rfl,rfl⟩) (((F2.temps fun p hp=>.tail _ hp).keep hk).plus fun _=>.bytes _ _)) hc
variable {L:Addr}
theorem qV (h:x∈ownOf (aG 45)) (h2:(aG 45).names.lookup x=some .cell):sH (dF L a cd) x:=.inr ⟨h2,h⟩
theorem Hf:sH (dF L a cd) "ahead":=qV (by decide +kernel) (by decide +kernel)
theorem Hh:sH (dF L a cd) "texts":=qV (by decide +kernel) (by decide +kernel)
theorem Hj:sH (dF L a cd) "order":=qV (by decide +kernel) (by decide +kernel)
theorem B5:sH (dF L a cd) "records":=qV (by decide +kernel) (by decide +kernel)
theorem Ej:sH (dF L a cd) "chains":=qV (by decide +kernel) (by decide +kernel)
theorem Kr:sH (dF L a cd) "come":=qV (by decide +kernel) (by decide +kernel)
theorem Hl:sH (dF L a cd) "whole":=qV (by decide +kernel) (by decide +kernel)
noncomputable abbrev Ks (script:List Int):fQ:=upd (fun _=>none) "script" (.dat (.list (script.map .int)))
noncomputable abbrev Fl (q:tV) (script:List Int):fQ:=upd (upd (upd (Ks script) "ahead" (.dat (.list (nats q.ahead)))) "texts" (.dat (.list (pZ q.texts)))) "order" (.dat (.list (nats q.order)))
theorem YT {p1 p2 p3 p4 p5 p6 p7:Pos} (T:bL mg mb G) (H:Prog mg G) (K:fM (eg L a cd)) (hs:script.length<=100):
  Xs prog w G (n + 1) (dF L a cd) (Ks script) (.Assign [.Tuple [.Name "ahead" p1,.Name "texts" p2,.Name "order" p3] k p4] (.Call (.Name "_law_pieces" p5) [.Name "script" p6] [] p7) pos) (.next (Fl (pieces script) script)):=
 Xs.unpack (Ev.def T H.pieces K rfl (.one (Ev.name K rfl)) (Bj T H hs)) (dm.Io K Hf Hh Hj)
theorem Ho (l:List Nat):nats l=(l.map kX).map .int:=by unfold nats nat; rw [List.map_map]; rfl
end
noncomputable def fY (i:Nat):Stmt:=(dh 45).getD i (.Pass default)
theorem Ku:dh 45=[fY 0,fY 1,fY 2,fY 3,fY 4,fY 5,fY 6,fY 7,fY 8,fY 9,fY 10,fY 11]:=by kernel_rfl
section
variable {L:Addr}
theorem UH (T:bL mg mb G) (H:Prog mg G) (K:fM (eg L a cd)) (hs:script.length<=100):
  Xs prog w G (n + 1) (dF L a cd) (Ks script) (fY 0) (.next (Fl (pieces script) script)):=YT T H K hs
noncomputable abbrev Fo (q:tV) (script:List Int):fQ:=upd (Fl q script) "chains" (.dat (jH (aD q) q.ahead.length))
theorem YU (T:bL mg mb G) (H:Prog mg G) (K:fM (eg L a cd)) (hq:nY q) (hl:q.ahead.length<=10):
  Xs prog w G (n + 1) (dF L a cd) (Fl q script) (fY 1) (.next (Fo q script)):=by
 have hlen:(nats q.ahead).length=q.ahead.length:=by unfold nats; rw [List.length_map]
 have P:=bM.range (prog:=prog) (w:=w) (G:=G) (n:=n + 1) (k:=q.ahead.length) (lK hl);refine Xs.mono (FP:=Fo q script) (Xs.assign K Ej (Ev.gX (List.range q.ahead.length) _ _ (fun _=>true) (fun k=>fO (aD q) k) K (by decide +kernel) rfl (Ev.kH (Ev.bi T H K rfl (by decide +kernel)) (.one (Ev.is (Ev.iV (Ev.bi T H K rfl (by decide +kernel)) (.one (Ev.name K rfl)) (kB (ds:=nats q.ahead) (Nat.le_trans (Nat.le_of_eq hlen) (lK hl)))) (by rw [hlen]))) mQ) P (by rw [List.length_range]; exact lK hl) (.name rfl fun L' Fr k hk K'=>⟨nA.nil,fun _=>?_⟩))) fun y d h=>?_
 ·have hk:=List.mem_range.mp hk;refine CK (Kq hq hl k hk) fun m hm a1 a2 a3 a4=>?_;have C:=Eh (prog:=prog) (w:=w) (n:=n) T H.chain.at' q.ahead k m a1 a2 a3 hl (Nat.le_trans hm (Nat.le_trans (Nat.le_of_lt hk) hl));rw [show dL (q.ahead.map kX)=.list (nats q.ahead) by rw [Ho],a4] at C;exact Ev.is (Ev.bin (Ev.list (ds:=[.int 0]) (.one Ev.int)) (Ev.def T H.chain K' rfl (.cons (Ev.name K' rfl) (.one (Ev.name K' rfl))) C) (iZ (sl (by simp; have:=jy (S:=aD q) k; exact lK (Nat.add_le_add_left this 1))))) rfl
 ·rw [cV]; exact h
theorem qW (hS:S.Ok) (hk:In S k): ∃pre:List Int,0::ch S k=pre++[i7 S k,num k]:=by
 rw [vK hS hk];unfold i7
 by_cases h0:S.par k=0
 ·rw [if_pos h0,h0];exact ⟨[],rfl⟩
 ·rw [if_neg h0];have hp:In S (S.par k):=⟨Nat.pos_of_ne_zero h0,by have:=hS.par k hk.1 hk.2; have:=hk.2; exact Nat.le_trans (Nat.le_of_lt ‹S.par k < k›) this⟩
  rw [vK hS hp];exact ⟨0::ch S (S.par (S.par k)),by simp⟩
theorem Ev.lastOf {slice:Expr} {l:List Int} {x:Int} (hl:l.length<=1000) (h1:Ev prog w G n c ρ value (.dat (dL (l++[x])))) (h2:Ev prog w G n c ρ slice (.dat (.int (-1)))) (hs: ∀o i,iu slice false o i=nM [o,i] (lW o i):=by intros; rfl):Ev prog w G n c ρ (.Subscript value slice pos) (.dat (.int x)):=by
 refine Ev.rB (ds:=(l++[x]).map .int) h1 h2 (by decide) (by simp; lia) ?_ (by decide) hs;have e:((-1:Int) + ((l++[x]).map iM).length).toNat=l.length:=by simp; exact congrArg hU (nP _)
 rw [e,List.getElem?_map,List.getElem?_append_right (Nat.le_refl _),Nat.sub_self]; rfl
theorem Ev.Nc {slice:Expr} {l:List Int} {x y:Int} (hl:l.length<=1000) (h1:Ev prog w G n c ρ value (.dat (dL (l++[x,y])))) (h2:Ev prog w G n c ρ slice (.dat (.int (-2)))) (hs: ∀o i,iu slice false o i=nM [o,i] (lW o i):=by intros; rfl):Ev prog w G n c ρ (.Subscript value slice pos) (.dat (.int x)):=by
 refine Ev.rB (ds:=(l++[x,y]).map .int) h1 h2 (by decide) (by simp; lia) ?_ (by decide) hs;have e:((-2:Int) + ((l++[x,y]).map iM).length).toNat=l.length:=by simp; exact congrArg hU ((congrArg (-2 + ·) (RA _ 2)).trans (AA 2 _))
 rw [e,List.getElem?_map,List.getElem?_append_right (Nat.le_refl _),Nat.sub_self]; rfl
theorem Ev.lD {N:Nat} {slice:Expr} (h1:Ev prog w G n c ρ value (.dat (jH S N))) (h2:Ev prog w G n c ρ slice (.dat (.int (k:Nat)))) (hk:k < N) (hN:N<=1000) (hs: ∀o i,iu slice false o i=nM [o,i] (lW o i):=by intros; rfl):Ev prog w G n c ρ (.Subscript value slice pos) (.dat (fO S k)):=by
 refine Ev.item (ds:=(List.range N).map (fO S)) h1 h2 (by lia) ?_ (pW (Nat.le_trans (Nat.le_of_lt hk) hN)) hs;rw [cj,List.getElem?_map,List.getElem?_range hk]; rfl
theorem Ev.Kv {slice:Expr} (h1:Ev prog w G n c ρ value (.dat (.list (pZ q.texts)))) (h2:Ev prog w G n c ρ slice (.dat (.int (k:Nat)))) (hk:k < q.texts.length) (hN:q.texts.length<=1000) (hs: ∀o i,iu slice false o i=nM [o,i] (lW o i):=by intros; rfl):Ev prog w G n c ρ (.Subscript value slice pos) (.dat (.str (st ((aD q).text k)))):=by
 refine Ev.item (ds:=pZ q.texts) h1 h2 (by lia) ?_ (pW (Nat.le_trans (Nat.le_of_lt hk) hN)) hs;unfold pZ;rw [cj,List.getElem?_map];refine (?_:_=some (qG (st (q.texts.getD k []))));rw [List.getD_eq_getElem?_getD,List.getElem?_eq_getElem hk]; rfl
noncomputable abbrev B6 (q:tV) (script:List Int):fQ:=upd (Fo q script) "records" (.dat (kL (aD q) q.order))
theorem fb (hq:nY q):q.order.length=q.ahead.length - 1:=wU hq.nd hq.mem
theorem YV (T:bL mg mb G) (H:Prog mg G) (K:fM (eg L a cd)) (hq:nY q) (hl:q.ahead.length<=10):
  Xs prog w G (n + 1) (dF L a cd) (Fo q script) (fY 2) (.next (B6 q script)):=by
 have jV:=fb hq;have P:=bM.list (prog:=prog) (w:=w) (G:=G) (n:=n + 1) (ds:=nats q.order);unfold nats at P;rw [List.map_map] at P;have hS:=fH hq hl;refine Xs.mono (FP:=B6 q script) (Xs.assign K B5 (Ev.gX q.order _ _ (fun _=>true) (fun k=>eZ (aD q) k) K (by decide +kernel) rfl (Ev.name K rfl) P (lK (oL jV hl)) (.name rfl fun L' Fr k hk K'=>⟨nA.nil,fun _=>?_⟩))) fun y d h=>?_
 ·have hk:=(hq.mem k).mp hk;have jk:=(iC hq).mpr hk;refine ex (qW hS jk) fun pre e=>?_;have OJ:pre.length<=20:=by
   have:=congrArg List.length e;have:=jy (S:=aD q) k;simp at *;exact lK (Nat.le_trans (Nat.le_succ _) (Nat.le_trans (Nat.le_of_eq this.symm) ‹_<=10›))
  refine Ev.tuple (ds:=[.int (num k),.int (i7 (aD q) k),.str (st ((aD q).text k))]) (.cons (Ev.lastOf (l:=pre++[i7 (aD q) k]) (by simp; exact lK OJ) (Ev.is (Ev.lD (N:=q.ahead.length) (Ev.name K' rfl) (Ev.name K' rfl) hk.2 (lK hl)) (by refine (?_:Sv.dat (dL (0::ch (aD q) k))=_); rw [e]; simp)) (Ev.neg Ev.int))
   (.cons (Ev.Nc (l:=pre) (lK OJ) (Ev.is (Ev.lD (N:=q.ahead.length) (Ev.name K' rfl) (Ev.name K' rfl) hk.2 (lK hl)) (by refine (?_:Sv.dat (dL (0::ch (aD q) k))=_); rw [e])) (Ev.neg Ev.int)) (.one (Ev.Kv (Ev.name K' rfl) (Ev.name K' rfl) (by rw [hq.len]; exact hk.2) (by rw [hq.len]; exact lK hl)))))
 ·rw [cV]; exact h
end
end
section
open PySem.Builtin
noncomputable def run (S:Sc) (W:List Nat) (i:Nat):St:=(W.take i).foldl (step S) ([],[])
theorem wV (h:W[i]? =some k):run S W (i + 1)=step S (run S W i) k:=by
 unfold run;rw [List.take_add_one,h,List.foldl_append]; rfl
theorem Kw:Ow S [] ([],[]):=⟨⟨nm,nm,.nil⟩,fun k=>⟨fun h=>(nomatch h),fun h=>(nomatch h.1)⟩,rfl⟩
theorem ko (hS:S.Ok) (hW: ∀k∈W,In S k) (gW:W.Nodup): ∀i,i<=W.length->Ow S (W.take i) (run S W i)
 | 0,_=>Kw
 | i + 1,hi=>by
  have hk:W[i]? =some W[i]:=List.getElem?_eq_getElem hi;have e:W.take (i + 1)=W.take i++[W[i]]:=by rw [List.take_add_one,hk]; rfl
  rw [wV hk,e];refine Ow.step hS (fun j hj=>?_) (fun hm=>?_) (ko hS hW gW i (Nat.le_of_succ_le hi))
  ·rw [<- e] at hj;exact hW j (List.mem_of_mem_take hj)
  ·have:(W.take (i + 1)).Nodup:=(List.take_sublist _ _).nodup gW;rw [e] at this;exact (List.nodup_append.mp this).2.2 _ hm _ (List.mem_singleton.mpr rfl) rfl
theorem yW {l:List Nat} (gW:l.Nodup) (hm: ∀k∈l,1<=k/\k<=n):l.length<=n:=by
 have h:l.Perm ((List.range' 1 n).filter fun k=>decide (k∈l)):=(List.perm_ext_iff_of_nodup gW (List.Pairwise.filter _ List.nodup_range')).mpr fun k=>by
  rw [List.mem_filter,List.mem_range'_1,decide_eq_true_iff];exact ⟨fun hk=>⟨by have:=hm k hk; exact ⟨this.1,Nat.lt_of_le_of_lt this.2 (Nat.lt_add_of_pos_left Nat.one_pos)⟩,hk⟩,fun h=>h.2⟩
 rw [h.length_eq];exact Nat.le_trans (List.length_filter_le _ _) (Nat.le_of_eq (by rw [List.length_range']))
theorem Ek (hS:S.Ok) {C:List Nat} (hC: ∀k∈C,In S k) (gW:C.Nodup) {x:St} (h:Ow S C x):CZ S x/\x.1.length + x.2.length<=18:=by
 have h9:=hS.n9;have l1:=yW h.laid.nodup fun k hk=>h.laid.Jk k hk;have l2:x.2.length<=S.n:=by
  rw [h.wait];exact yW (gW.filter _) fun k hk=>hC k (List.mem_filter.mp hk).1
 refine ⟨⟨h.laid.Jk,fun k hk=>?_,lK (Nat.add_le_add (Nat.le_trans l1 h9) (Nat.le_trans l2 h9))⟩,Nat.add_le_add (Nat.le_trans l1 h9) (Nat.le_trans l2 h9)⟩;rw [h.wait] at hk;exact hC k (List.mem_filter.mp hk).1
noncomputable def runs (S:Sc) (W:List Nat) (i:Nat):List St:=(List.range (i + 1)).map (run S W)
theorem yX (S:Sc) (W:List Nat) (i:Nat):runs S W (i + 1)=runs S W i++[run S W (i + 1)]:=by
 unfold runs;rw [List.range_succ (n:=i + 1),List.map_append]; rfl
theorem yY (S:Sc) (W:List Nat) (i:Nat):runs S W i=(List.range i).map (run S W)++[run S W i]:=by
 unfold runs;rw [List.range_succ,List.map_append]; rfl
theorem Em (S:Sc) (W:List Nat):byteArr (W.flatMap (pY S))=(B8 S W).toArray:=by
 unfold byteArr B8 o8;rw [List.map_flatMap]; rfl
theorem Hp (hS:S.Ok) (hk:In S k): ∀n∈pY S k,0<=n/\n < 256:=fun n hn=>by
 have ht:=hS.text k hk.1 hk.2;unfold pY at hn;refine cE hn (fun hn=>?_) (fun hn=>?_)
 ·simp only [List.mem_cons,List.not_mem_nil,or_false] at hn;rcases hn with rfl | rfl | rfl
  ·exact oX
  ·exact pU
  ·exact ⟨aS _,cf.mpr (Nat.lt_of_le_of_lt ht.1 (by decide))⟩
 ·refine l8 hn fun z hz=>?_;have:=ht.2 z hz;refine (?_:0<=((z:Nat):Int)/\((z:Nat):Int) < 256);exact ⟨aS _,cf.mpr this⟩
theorem wW (hS:S.Ok): ∀{W:List Nat},(∀k∈W,In S k)->(W.flatMap (pY S)).length<=7 * W.length
 | [],_=>by simp
 | k::W,h=>by
  have ih:=wW hS (W:=W) fun j hj=>h j (.tail _ hj);have ht:=(hS.text k (h k (.head _)).1 (h k (.head _)).2).1;rw [List.flatMap_cons,List.length_append];have:(pY S k).length<=7:=by unfold pY; simp; exact ht
  rw [List.length_cons];exact Nat.le_trans (Nat.add_le_add this ih) (Nat.le_of_eq (Nat.add_comm 7 _))
theorem B7 (T:bL mg mb G) (H:Prog mg G) (R:Red mg G) (hS:S.Ok) (hW: ∀k∈W,In S k) (hl:W.length<=10):
  bJ prog w G (n + 2) (.ref (adr mg "reduce")) [.val (.ref (adr mg "_law_put")),.dat (kL S W),.dat (.list [])] (.dat (dL (W.flatMap (pY S)))):=by
 refine fF H.put.at' fun o pm cd doc ho hd _=>?_;have h:=rT (prog:=prog) (w:=w) (n:=n + 1) T H R ho hd (ds:=W.map (eZ S)) (by rw [List.length_map]; exact lK hl) (acc:=fun i=>dL ((W.take i).flatMap (pY S))) (xs:=[]) rfl (fun i d hd=>?_)
 ·rw [List.length_map] at h;simp only [List.take_length] at h;exact h
 ·refine zk hd fun k hk=>?_;have e:(W.take (i + 1)).flatMap (pY S)=(W.take i).flatMap (pY S)++pY S k:=by
   rw [List.take_add_one,hk,List.flatMap_append]; simp
  have hlen:=wW hS (W:=W.take i) fun j hj=>hW j (List.mem_of_mem_take hj);have:(W.take i).length<=W.length:=by rw [List.length_take]; exact Nat.min_le_right _ _
  rw [e];exact IF T H hS (hW k (List.mem_of_getElem? hk)) (lK (Nat.le_trans hlen (Nat.mul_le_mul_left 7 (Nat.le_trans this hl))))
theorem Ak (T:bL mg mb G) (H:Prog mg G) (R:Red mg G) (hS:S.Ok) (hW: ∀k∈W,In S k) (gW:W.Nodup) (hl:W.length<=10):
  bJ prog w G (n + 5) (.ref (adr mg "reduce")) [.val (.ref (adr mg "_law_step")),.dat (kL S W),.dat (.list [.tuple [.list [],.list []]])] (.dat (vM S (runs S W W.length))):=by
 refine fF H.step.at' fun o pm cd doc ho hd _=>?_;have h:=rT (prog:=prog) (w:=w) (n:=n + 4) T H R ho hd (ds:=W.map (eZ S)) (by rw [List.length_map]; exact lK hl) (acc:=fun i=>vM S (runs S W i)) (xs:=[.tuple [.list [],.list []]]) rfl (fun i d hd=>?_)
 ·rw [List.length_map] at h;exact h
 ·refine zk hd fun k hk=>?_;have hi:i < W.length:=(List.getElem?_eq_some_iff.mp hk).1;have Q2:=ko hS hW gW i (Nat.le_of_lt hi);refine ea (Ek hS (fun j hj=>hW j (List.mem_of_mem_take hj)) ((List.take_sublist _ _).nodup gW) Q2) fun ok hlen=>?_;have s:=yt (prog:=prog) (w:=w) (n:=n) T H hS (ms:=(List.range i).map (run S W)) ok (hW k (List.mem_of_getElem? hk)) (Nat.lt_of_le_of_lt hlen (by decide)) (by rw [List.length_map,List.length_range]; exact lK (Nat.le_trans (Nat.le_of_lt hi) hl));rw [<- yY, <- wV hk, <- yX] at s;exact s
theorem xZ (T:bL mg mb G) (H:Prog mg G) (R:Red mg G) (hS:S.Ok) (hW: ∀k∈W,In S k) (gW:W.Nodup) (hl:W.length<=10):
  bJ prog w G (n + 5) (.ref (adr mg "reduce")) [.val (.ref (adr mg "_law_step")),.dat (.list (.list [.tuple [.list [],.list []]]::W.map (eZ S)))] (.dat (vM S (runs S W W.length))):=by
 refine fF H.step.at' fun o pm cd doc ho hd _=>?_;have h:=zO (prog:=prog) (w:=w) (n:=n + 4) T H R ho hd (ds:=.list [.tuple [.list [],.list []]]::W.map (eZ S)) (by rw [List.length_cons,List.length_map]; exact lK (Nat.succ_le_succ hl)) (acc:=fun i=>vM S (runs S W (i - 1))) rfl (fun i d h0 hd=>?_)
 ·rw [List.length_cons,List.length_map] at h;exact h
 ·obtain ⟨i,rfl⟩: ∃j,i=j + 1:=⟨i - 1,(Nat.sub_add_cancel h0).symm⟩;rw [List.getElem?_cons_succ,List.getElem?_map] at hd;refine bQ (bg.mp hd) ?_; rintro k hk rfl;have hi:i < W.length:=(List.getElem?_eq_some_iff.mp hk).1;have Q2:=ko hS hW gW i (Nat.le_of_lt hi);refine ea (Ek hS (fun j hj=>hW j (List.mem_of_mem_take hj)) ((List.take_sublist _ _).nodup gW) Q2) fun ok hlen=>?_;have s:=yt (prog:=prog) (w:=w) (n:=n) T H hS (ms:=(List.range i).map (run S W)) ok (hW k (List.mem_of_getElem? hk)) (Nat.lt_of_le_of_lt hlen (by decide)) (by rw [List.length_map,List.length_range]; exact lK (Nat.le_trans (Nat.le_of_lt hi) hl));rw [<- yY, <- wV hk, <- yX] at s;exact s
end
theorem filter_le {α:Type} {p q:α->Bool} {l:List α} (h: ∀x∈l,p x=true->q x=true):(l.filter p).length<=(l.filter q).length:=by
 induction l with
 | nil=>exact Nat.le_refl _
 | cons x l ih=>
  have ih:=ih fun y hy=>h y (.tail _ hy);rw [List.filter_cons,List.filter_cons]
  by_cases e:p x=true
  ·rw [if_pos e,if_pos (h x (.head _) e)]; simpa using ih
  ·rw [if_neg e];split
   ·simp; exact Nat.le_succ_of_le ih
   ·exact ih
theorem filter_lt {α:Type} {p q:α->Bool} {l:List α} (h: ∀x∈l,p x=true->q x=true) (k: ∃x∈l,p x=false/\q x=true):(l.filter p).length < (l.filter q).length:=by
 induction l with
 | nil=>exact bQ k fun x hx _=>nomatch hx
 | cons x l ihl=>
  refine iU k fun y hy e1 e2=>?_;have ih:=filter_le (p:=p) (q:=q) (l:=l) fun y hy=>h y (.tail _ hy);rw [List.filter_cons,List.filter_cons];rcases List.mem_cons.mp hy with rfl | hy
  ·rw [if_neg (by rw [e1]; decide),if_pos e2]; simp; exact Nat.lt_succ_of_le ih
  ·have ih2:=ihl (fun y hy=>h y (.tail _ hy)) ⟨y,hy,e1,e2⟩
   by_cases e:p x=true
   ·rw [if_pos e,if_pos (h x (.head _) e)]; simpa using ih2
   ·rw [if_neg e];split
    ·simp; exact Nat.lt_succ_of_le ih
    ·exact ih2
noncomputable def oZ (lt:Nat->Nat->Bool) (m i:Nat):Int:=(((List.range m).filter fun j=>lt j i).length:Nat)
theorem Fp {lt:Nat->Nat->Bool} (ir: ∀i,lt i i=false) (tr: ∀a b c,lt a b=true->lt b c=true->lt a c=true) {m:Nat} (hi:i < m) (h:lt i j=true):oZ lt m i < oZ lt m j:=by
 unfold oZ;have:=filter_lt (p:=fun x=>lt x i) (q:=fun x=>lt x j) (l:=List.range m) (fun x _ e=>tr x i j e h) ⟨i,List.mem_range.mpr hi,ir i,h⟩;exact cf.mpr this
theorem Kx {lt:Nat->Nat->Bool} (ir: ∀i,lt i i=false) (tr: ∀a b c,lt a b=true->lt b c=true->lt a c=true) {m:Nat} (hi:i < m) (hj:j < m) (Oz:i≠j->lt i j=true\/lt j i=true):rl (oZ lt m) i j=lt i j:=by
 refine (?_:decide (oZ lt m i < oZ lt m j)=lt i j);cases e:lt i j with
 | true=>exact decide_eq_true (Fp ir tr hi e)
 | false=>
  refine decide_eq_false fun h=>?_
  by_cases q:i=j
  ·subst q; exact Av _ h
  ·refine Or.elim (Oz q) (fun z=>?_) (fun z=>?_)
   ·rw [e] at z; cases z
   ·have:=Fp ir tr hj z;exact Int.lt_asymm h this
theorem ni (r:Nat->Int) (n:Nat) (inj: ∀i j,i < n->j < n->r i=r j->i=j):(gu r n).Perm (List.range n):=by
 unfold gu
 by_cases h:n < 2
 ·rw [if_pos h]
 ·rw [if_neg h];have:=(tB r (Nat.le_of_not_lt h) inj).1;have:=this.toList
  simpa using this
theorem Am (r:Nat->Int) (n:Nat) (inj: ∀i j,i < n->j < n->r i=r j->i=j):(gu r n).Pairwise fun a b=>r a < r b:=by
 have hp:=ni r n inj;have gW:(gu r n).Nodup:=hp.nodup_iff.mpr List.nodup_range;have fG: ∀a∈gu r n,a < n:=fun a ha=>List.mem_range.mp (hp.mem_iff.mp ha);unfold gu at *
 by_cases h:n < 2
 ·rw [if_pos h] at *
  match n,h with
  | 0,_=>exact .nil
  | 1,_=>exact List.pairwise_singleton _ _
 ·rw [if_neg h] at *;refine xy (tB r (n:=n) (Nat.le_of_not_lt h) inj) fun _ h2 h3=>?_;rw [List.pairwise_iff_getElem];intro i j hi hj pJ;rw [bZ] at hi hj;have e:=h3 i j pJ (h2 ▸ hj);have g: ∀k (hk:k < (eM (rl r) (iy n)).size),(eM (rl r) (iy n)).getD k 0=(eM (rl r) (iy n)).toList[k]'(by rw [bZ]; exact hk):=fun k hk=>by
   rw [gB,eA hk]; simp
  rw [g j hj,g i hi] at e;have e:=of_decide_eq_false e;have ne:r ((eM (rl r) (iy n)).toList[i])≠r ((eM (rl r) (iy n)).toList[j]):=fun q=>by
   have:=inj _ _ (fG _ (List.getElem_mem _)) (fG _ (List.getElem_mem _)) q;have:=(List.nodup_iff_pairwise_ne.mp gW);rw [List.pairwise_iff_getElem] at this;exact this i j (by rw [bZ]; exact hi) (by rw [bZ]; exact hj) pJ ‹_›
  exact qh.mpr ⟨dJ.mp e,ne⟩
theorem tL {α:Type} [Inhabited α] {lt:α->α->Bool} (ir: ∀a,lt a a=false) (tr: ∀a b c,lt a b=true->lt b c=true->lt a c=true) {l:List α} (gW:l.Nodup) (Oz: ∀a∈l,∀b∈l,a≠b->lt a b=true\/lt b a=true):
  let r:=oZ (fun i j=>lt (l.getD i default) (l.getD j default)) l.length
  (∀i j,i < l.length->j < l.length->rl r i j=lt (l.getD i default) (l.getD j default))/\(∀i j,i < l.length->j < l.length->r i=r j->i=j)/\
   ((gu r l.length).map fun i=>l.getD i default).Pairwise (fun a b=>lt a b=true)/\∀x,x∈ ((gu r l.length).map fun i=>l.getD i default) ↔x∈l:=by
 intro r;have at_: ∀i (hi:i < l.length),l.getD i default=l[i]:=fun i hi=>by rw [List.getD_eq_getElem?_getD,List.getElem?_eq_getElem hi]; rfl
 have ne: ∀i j,i < l.length->j < l.length->i≠j->l.getD i default≠l.getD j default:=fun i j hi hj h e=>by
  rw [at_ i hi,at_ j hj] at e;exact h ((List.getElem_inj gW).mp e)
 have UI: ∀i j,i < l.length->j < l.length->i≠j->lt (l.getD i default) (l.getD j default)=true\/lt (l.getD j default) (l.getD i default)=true:=fun i j hi hj h=>
  Oz _ (by rw [at_ i hi]; exact List.getElem_mem _) _ (by rw [at_ j hj]; exact List.getElem_mem _) (ne i j hi hj h)
 have rk: ∀i j,i < l.length->j < l.length->rl r i j=lt (l.getD i default) (l.getD j default):=fun i j hi hj=>
  Kx (lt:=fun i j=>lt (l.getD i default) (l.getD j default)) (fun i=>ir _) (fun a b c=>tr _ _ _) hi hj (UI i j hi hj)
 have inj: ∀i j,i < l.length->j < l.length->r i=r j->i=j:=fun i j hi hj e=>by
  by_cases q:i=j
  ·exact q
  ·refine Or.elim (UI i j hi hj q) (fun z=>?_) (fun z=>?_)
   ·rw [<- rk i j hi hj] at z;have:=of_decide_eq_true z;exact absurd e (RU this)
   ·rw [<- rk j i hj hi] at z;have:=of_decide_eq_true z;exact absurd e.symm (RU this)
 have hp:=ni r l.length inj;have jk: ∀i∈gu r l.length,i < l.length:=fun i hi=>List.mem_range.mp (hp.mem_iff.mp hi);refine ⟨rk,inj,?_,fun x=>?_⟩
 ·rw [List.pairwise_map];have:=Am r l.length inj;refine this.imp_of_mem fun {a b} ha hb h=>?_;rw [<- rk a b (jk a ha) (jk b hb)];exact decide_eq_true h
 ·rw [List.mem_map];constructor
  ·rintro ⟨i,hi,rfl⟩;rw [at_ i (jk i hi)];exact List.getElem_mem _
  ·intro hx;obtain ⟨i,hi,e⟩:=List.getElem_of_mem hx;exact ⟨i,hp.mem_iff.mpr (List.mem_range.mpr hi),by rw [at_ i hi]; exact e⟩
section
open PySem.Builtin
noncomputable def o6 (l:List Int):List Int:=l.map fun x=> -x
theorem Fq: ∀a b:List Int,kY kM qA false (o6 a) (o6 b)=jZ a b
 | [],[]=>rfl
 | [],y::b=>by refine (?_:dU false 0 (o6 (y::b)).length=true); unfold o6; simp [dU]
 | x::a,[]=>by refine (?_:dU false (o6 (x::a)).length 0=false); unfold o6; simp [dU]
 | x::a,y::b=>by
  refine (?_:(if kM (-x) (-y) then kY kM qA false (o6 a) (o6 b) else qA (-x) (-y))=if x=y then jZ a b else decide (y < x));rw [Gx,Fq a b]
  by_cases h:x=y
  ·subst h; simp
  ·rw [if_neg h,if_neg (by rw [decide_eq_true_iff]; exact fun q=>h (Int.neg_inj.mp q))];unfold qA;exact decide_eq_decide.mpr Int.neg_lt_neg_iff
theorem Nd (hS:S.Ok) (hi:i<=S.n) (hj:j<=S.n):kY kM qA false (o6 (0::ch S i)) (o6 (0::ch S j))=iO (ids S i) (ids S j):=by
 rw [Fq];have h0:jZ (0::ch S i) (0::ch S j)=jZ (ch S i) (ch S j):=by refine (?_:(if (0:Int)=0 then _ else _)=_); rw [if_pos rfl]
 rw [h0];have:=E5 (tw hS hi) (tw hS hj);unfold ch;exact (Bool.eq_iff_iff.mpr this).symm
noncomputable def Nf (st:Stmt):List Stmt:=(rG (some st)).2.1
noncomputable def wX (i:Nat):Stmt:=(Nf (fY 6)).getD i (.Pass default)
noncomputable def YW (e:Expr):Expr:=match e with
 | .Call _ _ [k] _=>k.value
 | _=>default
noncomputable def OP (st:Stmt):Expr:=YW (FZ st)
noncomputable def Ng (e:Expr):gK × Expr × iK × Pos:=match e with
 | .Lambda p b s q=>(p,b,s,q)
 | _=>default
noncomputable def Q3 (e:Expr):gK:=(Ng e).1
noncomputable def Q4 (e:Expr):Expr:=(Ng e).2.1
noncomputable def Hq (e:Expr):iK:=(Ng e).2.2.1
noncomputable def En (e:Expr):Pos:=(Ng e).2.2.2
noncomputable abbrev uI:Expr:=OP (wX 2)
noncomputable abbrev Eo:Expr:=OP (fY 9)
noncomputable def u5 (u:ai) (dc:Dat) (c':Addr) (oc:Obj) (d:Dat):Sv:=.own (fun D v=>eI D v d/\eI D u dc/\(c',oc)∈D) fun _ _ _ hs h=>⟨h.1.mono hs,h.2.1.mono hs,hs _ h.2.2⟩
section
variable {L:Addr}
theorem FS.cellAt (F:FS G c Φ ρ τ h) (hk:c.env.kindOf x=some .cell) (hf:c.free=[]) (hx:ρ x=some d): ∃ac,c.env.cells.lookup x=some ac:=by
 refine d8 F fun D C m X=>?_; clear F;refine bQ (X.vr x d hx) fun v a b=>?_;rcases a with ⟨a1,_⟩ | ⟨_,a2,o,a3,_⟩ | ⟨_,a2,o,_,a4,_⟩
 ·rw [hk] at a1; cases a1
 ·exact ⟨a2,(X.ck _ a3).1⟩
 ·rw [hf] at a4; cases a4
theorem Nh {N:Nat} {ac c':Addr} {oa oc:Obj} {pP:ai} (T:bL mg mb G) (ho:G.get? fa=some o) (hd:o.data=(wQ (dF L a cd) mg (Q3 uI) (Q4 uI) (Hq uI) [("chains",ac)] c' pP).data) (xO:wR (dF L a cd) oc) (Wo:G.get? ac=some oa) (Q5:oa.data=.cell (some u)) (hk:k < N) (hN:N<=100):CQ prog w G (n + 1) (fun v=>call (.ref fa) [v]) (u5 u (jH S N) c' oc (.int (k:Nat))) (.dat (dL (o6 (0::ch S k)))):=by
 refine Ko (fs:=[(ac,oa)]) (x:="k") (ρ:=upd (upd (fun _=>none) "chains" (.dat (jH S N))) "k" (.dat (.int (k:Nat)))) T ho hd (fun D v h hv hD Wn=>?_) (fun p hp=>?_) (fun v=>by kernel_rfl) (by decide +kernel) (by decide +kernel) (fun D v hv y d hy=>?_) (fun G' L' T' K'=>?_) (by decide +kernel) (by decide +kernel) (by decide +kernel)
 ·refine nV xO fun vs tq e1 e2=>?_; clear xO;exact ⟨c',oc,vs,tq,rfl,hD _ hv.2.2,e1,e2⟩
 ·exact rf hp (⟨Wo,fun es ep e=>by rw [Q5] at e; cases e⟩)
 ·unfold upd at hy
  by_cases q1:y=aR "k"
  ·rw [if_pos q1] at hy;cases hy;exact .inl ⟨q1,hv.1⟩
  ·rw [if_neg q1] at hy
   by_cases q2:y=aR "chains"
   ·rw [if_pos q2] at hy;cases hy;subst q2;exact .inr ⟨by decide +kernel,ac,oa,u,rfl,.head _,Q5,hv.2.1⟩
   ·rw [if_neg q2] at hy; cases hy
 ·have P:=bM.list (prog:=prog) (w:=w) (G:=G') (n:=n) (ds:=(0::ch S k).map .int);rw [List.map_map] at P;refine Ev.is (Ev.gX (0::ch S k) (fun x=>.dat (.int x)) _ (fun _=>true) (fun x=>.int (-x)) K' (by decide +kernel) rfl (Ev.lD (N:=N) (Ev.name K' rfl) (Ev.name K' rfl) hk (lK hN)) P (by have:=jy (S:=S) k; simp; exact lK this) (.name rfl fun L2 Fr x hx K2=>⟨nA.nil,fun _=>Ev.neg (Ev.name K2 rfl)⟩)) ?_
  rw [cV];unfold o6;refine (?_:Sv.dat (qn _)=Sv.dat (qn (((0::ch S k).map fun x=> -x).map .int)));rw [List.map_map]; rfl
theorem Ni {N:Nat} {c':Addr} {oc:Obj} {pP:ai} (T:bL mg mb G) (ho:G.get? fa=some o) (hd:o.data=(wQ (dF L a cd) mg (Q3 Eo) (Q4 Eo) (Hq Eo) [] c' pP).data) (xO:wR (dF L a cd) oc):
  CQ prog w G (n + 1) (fun v=>call (.ref fa) [v]) (u5 u (jH S N) c' oc (fO S k)) (.dat (dL (o6 (0::ch S k)))):=by
 refine Ko (fs:=[]) (x:="chain") (ρ:=upd (fun _=>none) "chain" (.dat (fO S k))) T ho hd (fun D v h hv hD Wn=>?_) nm (fun v=>by kernel_rfl) (by decide +kernel) (by decide +kernel) (fun D v hv y d hy=>?_) (fun G' L' T' K'=>?_) (by decide +kernel) (by decide +kernel) (by decide +kernel)
 ·refine nV xO fun vs tq e1 e2=>?_; clear xO;exact ⟨c',oc,vs,tq,rfl,hD _ hv.2.2,e1,e2⟩
 ·unfold upd at hy
  by_cases q1:y=aR "chain"
  ·rw [if_pos q1] at hy;cases hy;exact .inl ⟨q1,hv.1⟩
  ·rw [if_neg q1] at hy; cases hy
 ·have P:=bM.list (prog:=prog) (w:=w) (G:=G') (n:=n) (ds:=(0::ch S k).map .int);rw [List.map_map] at P;refine Ev.is (Ev.gX (0::ch S k) (fun x=>.dat (.int x)) _ (fun _=>true) (fun x=>.int (-x)) K' (by decide +kernel) rfl (Ev.name K' rfl) P (by have:=jy (S:=S) k; simp; exact lK this) (.name rfl fun L2 Fr x hx K2=>⟨nA.nil,fun _=>Ev.neg (Ev.name K2 rfl)⟩)) ?_
  rw [cV];unfold o6;refine (?_:Sv.dat (qn _)=Sv.dat (qn (((0::ch S k).map fun x=> -x).map .int)));rw [List.map_map]; rfl
noncomputable def my (S:Sc) (W:List Nat):Nat->Int:=oZ (fun i j=>iO (ids S (W.getD i default)) (ids S (W.getD j default))) W.length
noncomputable def j8 (S:Sc) (W:List Nat):List Nat:=(gu (my S W) W.length).map fun i=>W.getD i default
theorem jD (hS:S.Ok) (hW: ∀k∈W,In S k) (gW:W.Nodup):(∀i j,i < W.length->j < W.length->rl (my S W) i j=iO (ids S (W.getD i default)) (ids S (W.getD j default)))/\
  (j8 S W).Pairwise (fun i j=>iO (ids S i) (ids S j)=true)/\∀k,k∈j8 S W↔k∈W:=by
 have h:=tL (lt:=fun i j=>iO (ids S i) (ids S j)) (fun a=>fX _) (fun a b c=>jA) gW (fun x hx y hy ne=>mq fun e=>ne (rU hS (hW x hx) (hW y hy) e));exact ⟨h.1,h.2.2⟩
theorem sort_map {α:Type} {p:List Nat} {f:Nat->Dat} (h: ∀i∈p,i < W.length):p.map (fun i=>(W.map f).getD i .none)=(p.map fun i=>W.getD i default).map f:=by
 rw [List.map_map];refine List.map_congr_left fun i hi=>?_;have:=h i hi;refine (?_:(W.map f).getD i .none=f (W.getD i default));rw [List.getD_eq_getElem?_getD,List.getD_eq_getElem?_getD,List.getElem?_map,List.getElem?_eq_getElem this]; rfl
theorem Ft (hS:S.Ok) (hW: ∀k∈W,In S k) (gW:W.Nodup): ∀i∈gu (my S W) W.length,i < W.length:=fun i hi=>by
 have h:=tL (lt:=fun i j=>iO (ids S i) (ids S j)) (fun a=>fX _) (fun a b c=>jA) gW (fun x hx y hy ne=>mq fun e=>ne (rU hS (hW x hx) (hW y hy) e));exact List.mem_range.mp ((ni _ _ h.2.1).mem_iff.mp hi)
theorem se {f:Nat->Dat} {N:Nat} {Nj:Obj} {R:Led} {c':Addr} {oc:Obj} (hS:S.Ok) (hW: ∀k∈W,In S k) (gW:W.Nodup) (hl:W.length < 64) (hA:cQ (n + 3) A) (T:bL mg mb G) (vp:(eg L a cd).kindOf "chains"=some .cell) (Sl:ρ "chains"=some (.dat (jH S N))) (F:FS G (dF L a cd) ⟨(fa,Nj)::R,fl⟩ ρ ((v,.dat (.list (W.map f)))::τ) s.heap) (jl:(.none,oY c' oc)∈τ) (Fe: ∀(G':Heap) (ac:Addr) (oa:Obj) (u:ai) (k:Nat),k∈W->bL mg mb G'->G'.get? fa=some Nj->(eg L a cd).cells.lookup ("chains" :Str)=some ac->G'.get? ac=some oa->oa.data=.cell (some u)->CQ prog w G' (n + 1) (fun v=>call (.ref fa) [v]) (u5 u (jH S N) c' oc (f k)) (.dat (dL (o6 (0::ch S k))))) (q: ∀v' s',Sm s s'->FS G (dF L a cd) ⟨(fa,Nj)::R,fl⟩ ρ ((v',.dat (.list ((j8 S W).map f)))::τ) s'.heap->Q v' s'):ak (aq prog w) A (call (.builtin "sorted") [v] [("key",.ref fa)]) Q E s:=by
 have sp:=jD hS hW gW;refine FS.yU (n:=n + 1) (ks:=W.map fun k=>.dat (dL (o6 (0::ch S k)))) (κ:=sy) (r:=my S W) hA F (by simp) (by simpa using hl) (fun D C m X=>?_) fun v' s' sm F'=>q v' s' sm ?_
 ·refine bQ (X.vr "chains" _ Sl) fun v0 a0 b0=>?_;obtain ⟨ac,oa,u,UJ,qP,Q5,hdu⟩: ∃ac oa u,(eg L a cd).cells.lookup ("chains" :Str)=some ac/\(ac,oa)∈C.led/\oa.data=.cell (some u)/\eI D u (jH S N):=by
   rcases a0 with ⟨a1,_⟩ | ⟨_,a2,o,a3,a4⟩ | ⟨_,a2,o,_,a4,_⟩
   ·rw [show (dF L a cd).env.kindOf "chains"=some .cell from vp] at a1; cases a1
   ·exact ⟨a2,o,v0,(X.ck _ a3).1,List.mem_map_of_mem a3,a4,b0⟩
   ·exact nomatch a4
  refine ex X.around fun oL W0=>?_;have T':=T.keeps W0.r9;have out: ∀p∈C.led++((fa,Nj)::R),(cB s.heap (D.map (·.1))).get? p.1=some p.2:=fun p hp=>eL _ (X.nw p (mR hp)).1 fun hm=>by
   refine bQ (List.mem_map.mp hm) fun z hz e=>?_;exact X.ap z hz p hp e
  have jk:(c',oc)∈D:=X.tm _ (.tail _ jl);refine ⟨u5 u (jH S N) c' oc,fun v d h=>⟨h,hdu,jk⟩,fun i d k hd hk=>?_,fun h2=>?_,fun i j di dj hi hj=>?_⟩
  ·refine zk hd fun k0 e0=>zk hk fun k1 e1=>?_;rw [e0] at e1;obtain rfl:=aH e1;exact Fe _ ac oa u k0 (List.mem_of_getElem? e0) T' (out _ (mR ((.head _)))) UJ (out _ (mL qP)) Q5
  ·have:=Ds (prog:=prog) (w:=w) (G:=cB s.heap (D.map (·.1))) (lss:=W.map fun k=>o6 (0::ch S k)) (by rw [List.length_map] at h2 ⊢; exact h2);rw [List.map_map] at this;exact this
  ·refine zk hi fun k0 e0=>zk hj fun k1 e1=>?_;have i1:=(List.getElem?_eq_some_iff.mp e0).1;have j1:=(List.getElem?_eq_some_iff.mp e1).1;have g0:W.getD i default=k0:=by rw [List.getD_eq_getElem?_getD,e0]; rfl
   have g1:W.getD j default=k1:=by rw [List.getD_eq_getElem?_getD,e1]; rfl
   rw [sp.1 i j i1 j1,g0,g1, <- Nd hS (hW _ (List.mem_of_getElem? e0)).2 (hW _ (List.mem_of_getElem? e1)).2];exact Mz
 ·rw [List.length_map,sort_map (α:=Nat) (Ft hS hW gW)] at F';exact F'
end
end
section
open PySem.Builtin
noncomputable abbrev Ep (c':Addr):Array ai:= #[aQ (En uI).line,aQ (En uI).col,.ref c']
theorem Ky (c':Addr):eY (En uI) (Ep c').toList=some (.ref c'):=by kernel_rfl
theorem Kz (c':Addr):eY (En Eo) (Ep c').toList=none:=by kernel_rfl
theorem KA:eY (En uI) (#[]:Array ai).toList=none:=by kernel_rfl
theorem KC:eY (En Eo) (#[]:Array ai).toList=none:=by kernel_rfl
theorem Fv:iI (#[]:Array ai).toList:=trivial
theorem Fw (c':Addr):iI (Ep c').toList:=trivial
noncomputable def KD (c:Cx) (P0:Addr) (M:Led) (τ:kA):Prop:=(M=[(P0,aT #[])]/\τ=[])\/∃c' oc,M=[(P0,aT (Ep c'))]/\τ=[(.none,oY c' oc)]/\wR c oc
theorem Er {f:Expr} {Wp:List xd} (h:ak M A (eval f env) (fun fv bI=>ak M A (eF pos fv [] (cI pos (aC es env)) (eG pos (bX Wp env))) Q E bI) E s) (he:eval (.Call f es Wp pos) env=(do eF pos (<- eval f env) [] (cI pos (aC es env)) (eG pos (bX Wp env))):=by rfl):ak M A (eval (.Call f es Wp pos) env) Q E s:=by
 rw [he]; exact ae h
section
variable {L:Addr} {c0:Addr}
theorem UK {N:Nat} {M:Led} {je:kA} {Q:Flow->aj->Prop} (hS:S.Ok) (hW: ∀k∈W,In S k/\k < N) (gW:W.Nodup) (hl:W.length < 64) (hN:N<=100) (hA:cQ (n + 3) A) (T:bL mg mb G) (Hg:Prog mg G) (H:TopC mg G c0 P0) (K:fM (eg L a (.ref c0))) (Sl:ρ "chains"=some (.dat (jH S N))) (hw:ρ "whole"=some (.dat (.list (nats W)))) (hR: ∀p∈F1,p.1≠P0) (hJ:KD (dF L a (.ref c0)) P0 M je) (F:FS G (dF L a (.ref c0)) ⟨M++F1,fl⟩ ρ (je++τ) s.heap) (hq: ∀M' τ'' s',KD (dF L a (.ref c0)) P0 M' τ''->Sm s s'->FS G (dF L a (.ref c0)) ⟨M'++F1,fl⟩ (upd ρ "due" (.dat (.list (nats (j8 S W))))) (τ''++τ) s'.heap->Q .next s'):
  ak (aq prog w) A (exec (wX 2) (eg L a (.ref c0))) Q E s:=by
 refine aZ (Er ((Ev.bi (n:=n + 3) (v:=.builtin "sorted") T Hg K rfl (by decide +kernel)).pX _ _ _ _ _ s hA F fun s1 m1 uV=>?_)) (by rfl);refine Li ((ic.one (Ev.name (n:=n + 3) K hw)).CR _ _ _ _ _ s1 _ hA uV.pop fun v2 s2 m2 F2=>?_);refine ex (F2.cellAt (by rfl) rfl Sl) fun ac hac=>?_;have mh:ff (Hq uI) (dF L a (.ref c0)).env=pure [(("chains" :Str),ac)]:=nf (l:=(Hq uI).names.dropLast) (by kernel_rfl) (by decide +kernel) hac;have fin: ∀(fa c':Addr) (oc:Obj) (pP:ai) (ps:Array ai) (s3:aj),Sm s2 s3->FS G (dF L a (.ref c0)) ⟨(fa,wQ (dF L a (.ref c0)) mg (Q3 uI) (Q4 uI) (Hq uI) [("chains",ac)] c' pP)::(P0,aT ps)::F1,fl⟩ ρ ((v2,.dat (.list (nats W)))::(.none,oY c' oc)::τ) s3.heap->wR (dF L a (.ref c0)) oc->ps=Ep c'->
   ak (aq prog w) A (call (.builtin "sorted") [v2] [("key",.ref fa)]) (fun v s'=>ak (aq prog w) A (l6 (eg L a (.ref c0)) "due" v) (fun _ mU=>Q .next mU) E s') E s3:=by
  intro fa c' oc pP ps s3 m3 F3 xO VS;subst VS;refine se (f:=nat) (N:=N) hS (fun k hk=>(hW k hk).1) gW hl hA T (by rfl) Sl F3 (.head _) (fun G' ac' oa u k hk T' YX UJ Wo Q5=>?_) fun v' s4 m4 F4=>?_
  ·rw [hac] at UJ;obtain rfl:=aH UJ;exact Nh (n:=n) T' YX rfl xO Wo Q5 (hW k hk).2 hN
  ·refine store K F4 (.inl rfl) fun s5 m5 F5=>?_;refine hq [(P0,aT (Ep c'))] [(.none,oY c' oc)] s5 (.inr ⟨c',oc,rfl,rfl,xO⟩) ((((m1.trans m2).trans m3).trans m4).trans m5) (F5.gZ (fun p hp=>.tail _ hp) nm)
 refine lI ?_;rcases hJ with ⟨rfl,rfl⟩ | ⟨c',oc,rfl,rfl,xO⟩
 ·refine B4 (c:=dF L a (.ref c0)) T H K rfl (by rfl) mh Fv KA hR nm F2 fun fa c' oc pP s3 m3 F3 EP xO=>iT ?_;exact fin fa c' oc pP _ s3 m3 (F3.temps fun p hp=>by
   exact bU hp (.tail _ (.head _)) fun hp=>bU hp (.head _) fun hp=>.tail _ (.tail _ hp)) xO rfl
 ·refine Kp (c:=dF L a (.ref c0)) T H K rfl (by rfl) mh (Fw c') (Ky c') F2 fun fa pP s3 m3 F3 EP=>iT ?_;exact fin fa c' oc pP _ s3 m3 F3 xO rfl
end
end
section
open PySem.Builtin
noncomputable def ug (W:List Nat) (j:Nat):List Int:=0::(W.take j).map num
noncomputable def isWhole (S:Sc) (W:List Nat) (j k:Nat):Bool:=(0::ch S k).all fun x=>decide (x∈ug W j)
noncomputable def gg (S:Sc) (W:List Nat) (j:Nat):List Nat:=(W.take j).filter (isWhole S W j)
theorem yZ (hS:S.Ok) (hW: ∀k∈W,In S k) (hk:In S k):isWhole S W j k=true↔zR S (W.take j) k:=by
 have h9:=hS.n9;unfold isWhole zR ug;rw [List.all_eq_true];constructor
 ·intro h i hi;refine ea (tw hS hk.2 i hi) fun i1 i2=>?_;have:=of_decide_eq_true (h (num i) (.tail _ (List.mem_map_of_mem hi)));refine xA this (fun e=>?_) (fun e=>?_)
  ·have:=zA i1 i2;exact absurd e (n6 this)
  ·refine bQ (List.mem_map.mp e) fun m hm e=>?_;have Oe:=hW m (List.mem_of_mem_take hm);have:=Oe.2;have:=pM Oe.1 i1 (Nat.le_trans this h9) i2 e;subst this;exact hm
 ·intro h x hx;refine decide_eq_true ?_;refine bU hx ?_ (fun hx=>?_)
  ·exact .head _
  ·refine l8 hx fun i hi=>?_;exact .tail _ (List.mem_map_of_mem (h i hi))
theorem za (hS:S.Ok) (hW: ∀k∈W,In S k) (gW:W.Nodup) (hj:j<=W.length):k∈gg S W j↔k∈ (run S W j).1:=by
 rw [(ko hS hW gW j hj).mem];unfold gg;rw [List.mem_filter];constructor
 ·rintro ⟨h1,h2⟩;exact ⟨h1,(yZ hS hW (hW k (List.mem_of_mem_take h1))).mp h2⟩
 ·rintro ⟨h1,h2⟩;exact ⟨h1,(yZ hS hW (hW k (List.mem_of_mem_take h1))).mpr h2⟩
theorem kQ (hW: ∀k∈W,In S k): ∀k∈gg S W j,In S k:=fun k hk=>hW k (List.mem_of_mem_take (List.mem_filter.mp hk).1)
theorem o7 (gW:W.Nodup):(gg S W j).Nodup:=List.Pairwise.filter _ ((List.take_sublist _ _).nodup gW)
theorem Q6 (hS:S.Ok) (hW: ∀k∈W,In S k) (gW:W.Nodup) (hj:j<=W.length):j8 S (gg S W j)=(run S W j).1:=by
 refine xy (jD hS (kQ (j:=j) hW) (o7 (S:=S) (j:=j) gW)) fun _ h2 h3=>?_;exact we h2 (ko hS hW gW j hj).laid.ord fun k=>(h3 k).trans (za hS hW gW hj)
noncomputable def B9 (S:Sc) (W:List Nat) (j:Nat):List Nat:=(List.range j).filter fun i=>!decide (W.getD i 0∈gg S W j)
theorem An {α:Type} (p:Nat->Bool) (f:Nat->α) (W:List Nat) (j:Nat) (h:j<=W.length):((List.range j).filter fun i=>p (W.getD i 0)).map (fun i=>f (W.getD i 0))=((W.take j).filter p).map f:=by
 induction j with
 | zero=>rfl
 | succ j ih=>
  have e:W[j]? =some W[j]:=List.getElem?_eq_getElem h;have g:W.getD j 0=W[j]:=by rw [List.getD_eq_getElem?_getD,e]; rfl
  rw [List.range_succ,List.filter_append,List.map_append,ih (Nat.le_of_succ_le h),List.take_add_one,e,List.filter_append,List.map_append]
  congr 1
  refine (?_:((List.filter (fun i=>p (W.getD i 0)) [j]).map fun i=>f (W.getD i 0))=(List.filter p [W[j]]).map f);rw [List.filter_cons,List.filter_cons,g];split
  ·refine (?_: [f (W.getD j 0)]=[f W[j]]);rw [g]
  ·rfl
theorem Nk (hS:S.Ok) (hW: ∀k∈W,In S k) (gW:W.Nodup) (hj:j<=W.length):(B9 S W j).map (fun i=>eZ S (W.getD i 0))=(run S W j).2.map (eZ S):=by
 unfold B9;rw [An (fun k=>!decide (k∈gg S W j)) (eZ S) W j hj,(ko hS hW gW j hj).wait]
 congr 1
 refine List.filter_congr fun k hk=>?_;have:=za hS hW gW hj (k:=k)
 by_cases q:k∈gg S W j
 ·simp [q,this.mp q]
 ·have q2:k∉ (run S W j).1:=fun z=>q (this.mpr z);simp [q,q2]
theorem KE (hS:S.Ok) {x:St} (h1: ∀k∈x.1,In S k) (h2: ∀k∈x.2,In S k):cW 7 (xD S x)=true:=by
 unfold xD;simp only [cW,List.all_cons,List.all_nil,NY,H6,rows,kL,List.all_eq_true];refine ⟨fun d hd=>?_,fun d hd=>?_⟩
 ·refine l8 hd fun k hk=>?_;have a1:=rK hS (h1 k hk);have a2:bA (path (ch S k))=true:=ly fy;simp [row,cW,a1,a2]
 ·refine l8 hd fun k hk=>?_;have a1:=rK hS (h2 k hk);simp [eZ,cW,a1]
theorem Nl (hS:S.Ok) {l:List St} (h: ∀x∈l,(∀k∈x.1,In S k)/\∀k∈x.2,In S k):cW 8 (vM S l)=true:=by
 unfold vM;simp only [cW,List.all_eq_true];intro d hd;refine l8 hd fun x hx=>?_;exact KE hS (h x hx).1 (h x hx).2
theorem KG (hS:S.Ok) (hW: ∀k∈W,In S k) (gW:W.Nodup) (hj:j<=W.length):(∀k∈ (run S W j).1,In S k)/\∀k∈ (run S W j).2,In S k:=
 have h:=(Ek hS (fun k hk=>hW k (List.mem_of_mem_take hk)) ((List.take_sublist _ _).nodup gW) (ko hS hW gW j hj)).1
 ⟨h.1,h.2.1⟩
section
variable {L:Addr}
noncomputable abbrev Fx (q:tV) (script:List Int):fQ:=upd (upd (B6 q script) "read" (.dat (kL (aD q) q.order))) "words" (.dat (.str ue))
noncomputable abbrev nJ (q:tV) (script:List Int):fQ:=upd (Fx q script) "moments" (.dat (vM (aD q) (runs (aD q) q.order q.order.length)))
noncomputable abbrev KH (q:tV) (script:List Int) (j:Nat):fQ:=upd (nJ q script) "j" (.dat (.int (j:Nat)))
noncomputable abbrev KJ (q:tV) (script:List Int) (j:Nat):fQ:=upd (KH q script j) "come" (.dat (dL (ug q.order j)))
noncomputable abbrev OQ (q:tV) (script:List Int) (j:Nat):fQ:=upd (KJ q script j) "whole" (.dat (.list (nats (gg (aD q) q.order j))))
noncomputable abbrev OR (q:tV) (script:List Int) (j:Nat):fQ:=upd (OQ q script j) "due" (.dat (.list (nats (j8 (aD q) (gg (aD q) q.order j)))))
noncomputable abbrev Fy (q:tV) (script:List Int) (j:Nat):fQ:=upd (OR q script j) "due" (.dat (rows (aD q) (j8 (aD q) (gg (aD q) q.order j))))
theorem UL (T:bL mg mb G) (H:Prog mg G) (K:fM (eg L a cd)) (hq:nY q) (hl:q.ahead.length<=10):Xs prog w G (n + 1) (dF L a cd) (KH q script j) (wX 0) (.next (KJ q script j)):=by
 have jV:=fb hq;have hS:=fH hq hl;have P:=bM.list (prog:=prog) (w:=w) (G:=G) (n:=n + 1) (ds:=nats (q.order.take j));unfold nats at P;rw [List.map_map] at P;have Nm:(nats q.order).length=q.order.length:=by unfold nats; rw [List.length_map]
 refine Xs.assign K Kr (Ev.is (Ev.bin (Ev.list (ds:=[.int 0]) (.one Ev.int)) (Ev.gX (q.order.take j) _ _ (fun _=>true) (fun k=>.int (num k)) K (by decide +kernel) rfl (Ev.is (Ev.slice (ds:=nats q.order) (lo:=none) (hi:=some (j:Nat)) (Ev.name K rfl) .none (.some (Ev.name K rfl)) (Nat.le_trans (Nat.le_of_eq Nm) (lK (oL jV hl)))) (by rw [rL]; unfold nats; rw [<- List.map_take])) P (by rw [List.length_take]; exact Nat.le_trans (Nat.min_le_right _ _) (lK (oL jV hl))) (.name rfl fun L' Fr k hk K'=>⟨nA.nil,fun _=>?_⟩)) (iZ (sl (by have h1:=List.length_filter_le (fun _:Nat=>true) (q.order.take j); have h2:(q.order.take j).length<=q.order.length:=(by rw [List.length_take]; exact Nat.min_le_right _ _); simp only [List.length_map,List.length_cons,List.length_nil]; exact lK (Nat.add_le_add_left (Nat.le_trans h1 (Nat.le_trans h2 (oL jV hl))) (0 + 1)))))) ?_)
 ·have hk:=(hq.mem k).mp (List.mem_of_mem_take hk);refine ex (qW hS ((iC hq).mpr hk)) fun pre e=>?_;have OJ:pre.length<=20:=by
   have:=congrArg List.length e;have:=jy (S:=aD q) k;simp at *;exact lK (Nat.le_trans (Nat.le_succ _) (Nat.le_trans (Nat.le_of_eq this.symm) ‹_<=10›))
  exact Ev.lastOf (l:=pre++[i7 (aD q) k]) (by simp; exact lK OJ) (Ev.is (Ev.lD (N:=q.ahead.length) (Ev.name K' rfl) (Ev.name K' rfl) hk.2 (lK hl)) (by refine (?_:Sv.dat (dL (0::ch (aD q) k))=_); rw [e]; simp)) (Ev.neg Ev.int)
 ·rw [cV];unfold ug;refine (?_:Sv.dat (qn (.int 0::(q.order.take j).map fun k=>.int (num k)))=Sv.dat (qn ((0::(q.order.take j).map num).map .int)));rw [List.map_cons,List.map_map]; rfl
theorem UM (T:bL mg mb G) (H:Prog mg G) (K:fM (eg L a cd)) (hq:nY q) (hl:q.ahead.length<=10):Xs prog w G (n + 1) (dF L a cd) (KJ q script j) (wX 1) (.next (OQ q script j)):=by
 have jV:=fb hq;have hS:=fH hq hl;have P:=bM.list (prog:=prog) (w:=w) (G:=G) (n:=n + 1) (ds:=nats (q.order.take j));unfold nats at P;rw [List.map_map] at P;have Nm:(nats q.order).length=q.order.length:=by unfold nats; rw [List.length_map]
 refine Xs.assign K Hl (Ev.is (Ev.gX (q.order.take j) _ _ (isWhole (aD q) q.order j) (fun k=>.int (k:Nat)) K (by decide +kernel) rfl (Ev.is (Ev.slice (ds:=nats q.order) (lo:=none) (hi:=some (j:Nat)) (Ev.name K rfl) .none (.some (Ev.name K rfl)) (Nat.le_trans (Nat.le_of_eq Nm) (lK (oL jV hl)))) (by rw [rL]; unfold nats; rw [<- List.map_take])) P (by rw [List.length_take]; exact Nat.le_trans (Nat.min_le_right _ _) (lK (oL jV hl))) (.name rfl fun L' Fr k hk K'=>⟨nA.one ?_,fun _=>Ev.name K' rfl⟩)) ?_)
 ·have hk:=(hq.mem k).mp (List.mem_of_mem_take hk);have P2:=bM.list (prog:=prog) (w:=w) (G:=G) (n:=n + 1) (ds:=(0::ch (aD q) k).map .int);rw [List.map_map] at P2;have mh:=jy (S:=aD q) k;refine Et.cmp (Ev.gX (0::ch (aD q) k) (fun x=>.dat (.int x)) _ (fun x=>!decide (x∈ug q.order j)) (fun x=>.int x) K' (by decide +kernel) rfl (Ev.lD (N:=q.ahead.length) (Ev.name K' rfl) (Ev.name K' rfl) hk.2 (lK hl)) P2 (by simp; exact lK mh) (.name rfl fun L2 ZL x hx K2=>⟨nA.one (Et.cmp (Ev.name K2 rfl) (Ev.name K2 rfl) (AQ (ds:=(ug q.order j).map .int) (d:=.int x) (b:=decide (x∈ug q.order j)) (fun e he=>?_) rfl ?_) gR.bool),fun _=>Ev.name K2 rfl⟩)) (Ev.list (ds:=[]) ic.nil) (vA ?_ rfl ?_) gR.bool
  ·refine bQ (List.mem_map.mp he) ?_; rintro y hy rfl; rfl
  ·rw [decide_eq_true_iff];exact ⟨fun h=>List.mem_map_of_mem h,fun h=>by
    refine bQ (List.mem_map.mp h) fun y hy e=>?_;rw [<- oj e]; exact hy⟩
  ·exact EW _
  ·unfold isWhole;rw [List.all_eq_true];constructor
   ·intro h
    congr 1
    rw [List.map_eq_nil_iff,List.filter_eq_nil_iff];intro x hx;rw [h x hx]; decide
   ·intro h x hx;have h:=qH h;rw [List.map_eq_nil_iff,List.filter_eq_nil_iff] at h;have:=h x hx;cases z:decide (x∈ug q.order j) with
    | true=>rfl
    | false=>rw [z] at this; exact absurd rfl this
 ·rfl
end
end
section
open PySem.Builtin
section
variable {L:Addr}
theorem zb (hS:S.Ok) (hW: ∀k∈W,In S k) (gW:W.Nodup):(j8 S W).length=W.length:=by
 unfold j8;have h:=tL (lt:=fun i j=>iO (ids S i) (ids S j)) (fun a=>fX _) (fun a b c=>jA) gW (fun x hx y hy ne=>mq fun e=>ne (rU hS (hW x hx) (hW y hy) e));rw [List.length_map];exact zT _ _ h.2.1
theorem tM:(gg S W j).length<=W.length:=Nat.le_trans (List.length_filter_le _ _) (by rw [List.length_take]; exact Nat.min_le_right _ _)
theorem UN (T:bL mg mb G) (H:Prog mg G) (K:fM (eg L a cd)) (hq:nY q) (hl:q.ahead.length<=10):Xs prog w G (n + 1) (dF L a cd) (OR q script j) (wX 3) (.next (Fy q script j)):=by
 have jV:=fb hq;have hS:=fH hq hl;have hW: ∀k∈q.order,In (aD q) k:=fun k hk=>(iC hq).mpr ((hq.mem k).mp hk);have sp:=jD hS (kQ (S:=aD q) (W:=q.order) (j:=j) hW) (o7 (S:=aD q) (j:=j) hq.nd);have hlen:=zb hS (kQ (S:=aD q) (W:=q.order) (j:=j) hW) (o7 (S:=aD q) (j:=j) hq.nd);have Q7:=tM (S:=aD q) (W:=q.order) (j:=j);have P:=bM.list (prog:=prog) (w:=w) (G:=G) (n:=n + 1) (ds:=nats (j8 (aD q) (gg (aD q) q.order j)));unfold nats at P;rw [List.map_map] at P;refine Xs.mono (FP:=Fy q script j) (Xs.gX (j8 (aD q) (gg (aD q) q.order j)) _ _ (fun _=>true) (fun k=>row (aD q) k) K (.inl rfl) (by decide +kernel) rfl (Ev.name K rfl) P (Nat.le_trans (Nat.le_of_eq hlen) (Nat.le_trans Q7 (lK (oL jV hl)))) (.name rfl fun L' Fr k hk K'=>⟨nA.nil,fun _=>?_⟩)) fun y d h=>?_
 ·have jk:=kQ (S:=aD q) (W:=q.order) (j:=j) hW k ((sp.2.2 k).mp hk);have hk:=(iC hq).mp jk;refine ex (qW hS jk) fun pre e=>?_;have OJ:pre.length<=20:=by
   have:=congrArg List.length e;have:=jy (S:=aD q) k;simp at *;exact lK (Nat.le_trans (Nat.le_succ _) (Nat.le_trans (Nat.le_of_eq this.symm) ‹_<=10›))
  have Mb: ∀y∈ch (aD q) k,Small y:=fy;have mh:=jy (S:=aD q) k;have P3:=bM.list (prog:=prog) (w:=w) (G:=G) (n:=n + 1) (ds:=(ch (aD q) k).map .int);rw [List.map_map] at P3;have jn:=qR (prog:=prog) (w:=w) (G:=G) (n:=n + 1) (x:="/") (ss:=(ch (aD q) k).map sn) (by decide +kernel) (fun y hy=>by
   refine l8 hy fun z hz=>?_;rw [i5,ef]; have:=(j7 (Mb z hz)).2.2.2; exact lK this) (by simp; exact lK mh)
  have PF:(cg "/" ((ch (aD q) k).map sn)).length<=100:=vO Mb (lK mh);have yv:(aR "/").length=1:=by decide +kernel
  refine Ev.is (Ev.tuple (ds:=[.int (num k),.str ("/" ++cg "/" ((ch (aD q) k).map sn)),.str (st ((aD q).text k))]) (.cons (Ev.lastOf (l:=pre++[i7 (aD q) k]) (by simp; exact lK OJ) (Ev.is (Ev.lD (N:=q.ahead.length) (Ev.name K' rfl) (Ev.name K' rfl) hk.2 (lK hl)) (by refine (?_:Sv.dat (dL (0::ch (aD q) k))=_); rw [e]; simp)) (Ev.neg Ev.int))
   (.cons (Ev.bin Ev.str (Ev.ux F.plainAttrs_str F.slot_str_join F.type_str_join Kind.str Ev.str (.one ?_) jn) (pL (by rw [yv]; exact lK (Nat.add_le_add_left PF 1)))) (.one (Ev.Kv (Ev.name K' rfl) (Ev.name K' rfl) (by rw [hq.len]; exact hk.2) (by rw [hq.len]; exact lK hl)))))) (by unfold row; rw [<- iG])
  refine Ev.is (Ev.gX (ch (aD q) k) _ _ (fun _=>true) (fun z=>.str (sn z)) K' (by decide +kernel) rfl (Ev.is (Ev.slice (ds:=(0::ch (aD q) k).map .int) (lo:=some ((1:Nat):Int)) (hi:=none) (Ev.lD (N:=q.ahead.length) (Ev.name K' rfl) (Ev.name K' rfl) hk.2 (lK hl)) (.some Ev.int) .none (by simp; exact lK mh)) ?_) P3 (lK mh) (.name rfl fun L2 ZL z hz K2=>⟨nA.nil,fun _=>Ev.kH (Ev.bi T H K2 rfl (by decide +kernel)) (.one (Ev.name K2 rfl)) (oH (Mb z hz).1 (Mb z hz).2)⟩)) ?_
  ·rw [yq]; rfl
  ·rw [cV,List.map_map]; rfl
 ·rw [cV]; exact h
theorem UO (T:bL mg mb G) (H:Prog mg G) (K:fM (eg L a cd)) (hq:nY q) (hl:q.ahead.length<=10) (hj:j<=q.order.length):Xs prog w G (n + 1) (dF L a cd) (Fy q script j) (wX 4) (.next (Fy q script j)):=by
 have jV:=fb hq;have hS:=fH hq hl;have hW: ∀k∈q.order,In (aD q) k:=fun k hk=>(iC hq).mpr ((hq.mem k).mp hk);have Q7:=tM (S:=aD q) (W:=q.order) (j:=j);have P:=bM.range (prog:=prog) (w:=w) (G:=G) (n:=n + 1) (k:=j) (Nat.le_trans hj (lK (oL jV hl)));have Ln:(runs (aD q) q.order q.order.length).length=q.order.length + 1:=by unfold runs; rw [List.length_map,List.length_range]
 have hmj:((runs (aD q) q.order q.order.length).map (xD (aD q)))[j]? =some (xD (aD q) (run (aD q) q.order j)):=by
  unfold runs;rw [List.getElem?_map,List.getElem?_map,List.getElem?_range (Nat.lt_succ_of_le hj)]; rfl
 have jk:=KG hS hW hq.nd hj;have YY:=Q6 hS hW hq.nd hj;have UP:=Nk hS hW hq.nd hj;have eqd:qn [xD (aD q) (run (aD q) q.order j)]=.list [.tuple [rows (aD q) (j8 (aD q) (gg (aD q) q.order j)),.list ((B9 (aD q) q.order j).map fun i=>eZ (aD q) (q.order.getD i 0))]]:=by
  rw [YY,UP]; rfl
 have okm:cW 8 (.list [xD (aD q) (run (aD q) q.order j)])=true:=by
  have:=KE hS jk.1 jk.2;simp [cW,this]
 refine Xs.Ay (Et.cmp (d:=.dat (.bool (!true))) (Ev.is (Ev.slice (ds:=(runs (aD q) q.order q.order.length).map (xD (aD q))) (lo:=some (j:Nat)) (hi:=some ((j + 1:Nat):Int)) (Ev.name K rfl) (.some (Ev.name K rfl)) (.some (Ev.is (Ev.bin (Ev.name K rfl) Ev.int jw) (by push_cast; rfl))) (by rw [List.length_map]; exact Nat.le_trans (Nat.le_of_eq Ln) (lK (Nat.succ_le_succ (oL jV hl))))) (show Sv.dat _=Sv.dat (.list [xD (aD q) (run (aD q) q.order j)]) from ?_))
  (Ev.list (ds:=[.tuple [rows (aD q) (j8 (aD q) (gg (aD q) q.order j)),.list ((B9 (aD q) q.order j).map fun i=>eZ (aD q) (q.order.getD i 0))]]) (.one (Ev.tuple (ds:=[rows (aD q) (j8 (aD q) (gg (aD q) q.order j)),.list ((B9 (aD q) q.order j).map fun i=>eZ (aD q) (q.order.getD i 0))]) (.cons (Ev.name K rfl) (.one ?_))))) (lu okm (by rw [<- eqd]; exact okm) ⟨fun _=>eqd,fun _=>rfl⟩) gR.bool) Ex.nil
 ·rw [vP _ (by lia)];have fG:j < ((runs (aD q) q.order q.order.length).map (xD (aD q))).length:=(List.getElem?_eq_some_iff.mp hmj).1;rw [List.drop_eq_getElem_cons fG,show j + 1 - j=1 by exact Nat.add_sub_cancel_left ..,(List.getElem?_eq_some_iff.mp hmj).2]; rfl
 ·have at_: ∀i,i < j->(nats q.order)[i]? =some (.int (q.order.getD i 0:Nat)):=fun i hi=>by
   unfold nats nat;rw [List.getElem?_map,List.getD_eq_getElem?_getD,List.getElem?_eq_getElem (Nat.lt_of_lt_of_le hi hj)]; rfl
  have atr: ∀i,i < j->(q.order.map (eZ (aD q)))[i]? =some (eZ (aD q) (q.order.getD i 0)):=fun i hi=>by
   rw [List.getElem?_map,List.getD_eq_getElem?_getD,List.getElem?_eq_getElem (Nat.lt_of_lt_of_le hi hj)]; rfl
  refine Ev.gX (List.range j) _ _ (fun i=>!decide (q.order.getD i 0∈gg (aD q) q.order j)) (fun i=>eZ (aD q) (q.order.getD i 0)) K (by decide +kernel) rfl (Ev.kH (Ev.bi T H K rfl (by decide +kernel)) (.one (Ev.name K rfl)) mQ) P (by rw [List.length_range]; exact Nat.le_trans hj (lK (oL jV hl))) (.name rfl fun L' Fr i hi K'=>⟨nA.one ?_,fun _=>?_⟩)
  ·have hi:=List.mem_range.mp hi;refine Et.cmp (Ev.item (ds:=nats q.order) (d:=.int (q.order.getD i 0:Nat)) (Ev.name K' rfl) (Ev.name K' rfl) (by lia) (by rw [cj]; exact at_ i hi) (pW (Nat.le_trans (Nat.le_of_lt hi) (Nat.le_trans hj (lK (oL jV hl)))))) (Ev.name K' rfl) (AQ (ds:=nats (gg (aD q) q.order j)) (b:=decide (q.order.getD i 0∈gg (aD q) q.order j)) (fun e he=>?_) rfl ?_) gR.bool
   ·refine bQ (List.mem_map.mp he) ?_; rintro y hy rfl; rfl
   ·rw [decide_eq_true_iff];exact ⟨fun h=>List.mem_map_of_mem h,fun h=>by
     refine bQ (List.mem_map.mp h) fun y hy e=>?_;have e:=oj e;have:y=q.order.getD i 0:=Int.ofNat_inj.mp e;rw [<- this]; exact hy⟩
  ·have hi:=List.mem_range.mp hi;exact Ev.item (ds:=q.order.map (eZ (aD q))) (Ev.name K' rfl) (Ev.name K' rfl) (by lia) (by rw [cj]; exact atr i hi) (pW (Nat.le_trans (Nat.le_of_lt hi) (Nat.le_trans hj (lK (oL jV hl)))))
end
end
section
open PySem.Builtin
theorem nj {v:Sv} (h0:ρ x=none) (h: ∀y d,ρ y=some d->sG y=some d): ∀y d,ρ y=some d->upd sG x v y=some d:=fun y d e=>by
 unfold upd
 by_cases q:y=x
 ·subst q; rw [h0] at e; cases e
 ·rw [if_neg q]; exact h y d e
section
variable {L:Addr} {c0:Addr}
theorem YZ {Q:Flow->aj->Prop} (T:bL mg mb G) (Hg:Prog mg G) (H:TopC mg G c0 P0) (K:fM (eg L a (.ref c0))) (hq:nY q) (hl:q.ahead.length<=10) (hA:cQ (n + 3) A) (hR: ∀p∈F1,p.1≠P0) (F:FS G (dF L a (.ref c0)) ⟨(P0,aT #[])::F1,fl⟩ (nJ q script) τ s.heap) (hQ: ∀M je s',KD (dF L a (.ref c0)) P0 M je->Sm s s'->FS G (dF L a (.ref c0)) ⟨M++F1,fl⟩ (nJ q script) (je++τ) s'.heap->Q .next s'):ak (aq prog w) A (exec (fY 6) (eg L a (.ref c0))) Q E s:=by
 have jV:=fb hq;have hS:=fH hq hl;have hW: ∀k∈q.order,In (aD q) k:=fun k hk=>(iC hq).mpr ((hq.mem k).mp hk);have Nm:(nats q.order).length=q.order.length:=by unfold nats; rw [List.length_map]
 have P:=bM.range (prog:=prog) (w:=w) (G:=G) (n:=n + 3) (k:=q.order.length + 1) (lK (Nat.succ_le_succ (oL jV hl)));have hlen:((List.range (q.order.length + 1)).map fun i:Nat=>Sv.dat (.int (i:Nat))).length=q.order.length + 1:=by rw [List.length_map,List.length_range]
 refine forM (c:=dF L a (.ref c0)) (τ:=τ) (je:=[]) (M:=[(P0,aT #[])]) (Φ:=⟨F1,fl⟩) (Ev.kH (Ev.bi T Hg K rfl (by decide +kernel)) (.one (Ev.is (Ev.bin (Ev.iV (Ev.bi T Hg K rfl (by decide +kernel)) (.one (Ev.name K rfl)) (kB (ds:=nats q.order) (Nat.le_trans (Nat.le_of_eq Nm) (lK (oL jV hl))))) Ev.int jw) (show _=Sv.dat (.int ((q.order.length + 1:Nat):Int)) by rw [Nm]; push_cast; rfl))) mQ) P (fun _=>nJ q script) (fun i=>KH q script i) (fun x d h=>h)
  (fun _ M je=>KD (dF L a (.ref c0)) P0 M je) [P0] (fun i M je hJ=>?_) (fun i d hd=>?_) (fun i hi M je hJ A E Q Φ s hA hf Di F h=>?_) hA nm (fun b hb p hp=>by exact rf hb (hR p hp)) (.inl ⟨rfl,rfl⟩) F (fun M je s' hJ sm F'=>hQ M je s' hJ sm F')
 ·rcases hJ with ⟨rfl,_⟩ | ⟨c',oc,rfl,_⟩ <;> rfl
 ·rw [List.getElem?_map] at hd;refine bQ (bg.mp hd) ?_; rintro i' zB rfl;refine ex (List.getElem?_eq_some_iff.mp zB) fun fG e=>?_;rw [List.getElem_range] at e;subst e;exact dm.name K (.inl rfl)
 ·have hi:i<=q.order.length:=by rw [hlen] at hi; exact Nat.le_of_lt_succ hi
  have sw:=jD hS (kQ (S:=aD q) (W:=q.order) (j:=i) hW) (o7 (S:=aD q) (j:=i) hq.nd);have Q7:=tM (S:=aD q) (W:=q.order) (j:=i);refine (?_:ak (aq prog w) A (ik [wX 0,wX 1,wX 2,wX 3,wX 4] _) Q E s);refine bD ((UL (n:=n + 2) T Hg K hq hl).go _ _ _ _ _ s hA F fun s1 m1 uV=>?_);refine bD ((UM (n:=n + 2) T Hg K hq hl).go _ _ _ _ _ s1 hA uV fun s2 m2 F2=>?_);refine bD (UK (N:=q.ahead.length) hS (fun k hk=>⟨kQ (S:=aD q) (W:=q.order) (j:=i) hW k hk,((iC hq).mp (kQ (S:=aD q) (W:=q.order) (j:=i) hW k hk)).2⟩) (o7 (S:=aD q) (j:=i) hq.nd) (Nat.lt_of_le_of_lt Q7 (Nat.lt_of_le_of_lt (oL jV hl) (by decide))) (lK hl) hA T Hg H K rfl rfl (fun p hp=>Di P0 (.head _) p hp) hJ F2 fun M' τ'' s3 hJ' m3 F3=>?_);refine bD ((UN (n:=n + 2) T Hg K hq hl).go _ _ _ _ _ s3 hA F3 fun s4 m4 F4=>?_);refine bD ((UO (n:=n + 2) T Hg K hq hl hi).go _ _ _ _ _ s4 hA F4 fun s5 m5 F5=>?_);refine bz (h M' τ'' s5 hJ' ((((m1.trans m2).trans m3).trans m4).trans m5) (F5.names ?_));exact nj rfl (nj rfl (nj rfl (nj rfl (nj rfl fun _ _ h=>h))))
end
end
section
open PySem.Builtin
section
variable {L:Addr}
theorem gv (hq:nY q): ∀k∈q.order,In (aD q) k:=fun k hk=>(iC hq).mpr ((hq.mem k).mp hk)
theorem Y0 (T:bL mg mb G) (H:Prog mg G) (K:fM (eg L a cd)) (hq:nY q) (hl:q.ahead.length<=10):Xs prog w G (n + 1) (dF L a cd) (Fx q script) (fY 4) (.next (Fx q script)):=by
 have hS:=fH hq hl;have ok:=zC hS (gv hq);exact Xs.Ay (Et.is (Et.or (b:=false) (d:=false) (Et.cmp (Ev.name K rfl) (Ev.name K rfl) (lu (b:=true) ok ok ⟨fun _=>rfl,fun _=>rfl⟩) gR.bool) fun _=>Et.cmp (Ev.name K rfl) Ev.str (lu (b:=true) (by decide +kernel) (by decide +kernel) ⟨fun _=>rfl,fun _=>rfl⟩) gR.bool) rfl) Ex.nil
theorem Y3 (T:bL mg mb G) (H:Prog mg G) (R:Red mg G) (K:fM (eg L a cd)) (hq:nY q) (hl:q.ahead.length<=10):Xs prog w G (n + 5) (dF L a cd) (Fx q script) (fY 5) (.next (nJ q script)):=by
 have hS:=fH hq hl;have jV:=fb hq;refine d8 (id R.go) fun m0 o0 t k_=>?_; refine gG k_ ?_; rintro ot nn r1 r2 r3 r4 ⟨o,pm,cd',doc,ho,hd,_⟩ r6 r7 r8;exact Xs.assign K (.inl rfl) (Ev.AH ho hd (Ev.global T K rfl r4) (.cons (Ev.global T K rfl H.step.name) (.cons (Ev.name K rfl) (.one (Ev.list (ds:=[.tuple [.list [],.list []]]) (.one (Ev.tuple (ds:=[.list [],.list []]) (.cons (Ev.list (ds:=[]) ic.nil) (.one (Ev.list (ds:=[]) ic.nil))))))))) (Ak T H R hS (gv hq) hq.nd (lK (oL jV hl))))
theorem Y4 (T:bL mg mb G) (H:Prog mg G) (R:Red mg G) (K:fM (eg L a cd)) (hq:nY q) (hl:q.ahead.length<=10):Xs prog w G (n + 5) (dF L a cd) (nJ q script) (fY 7) (.next (nJ q script)):=by
 have hS:=fH hq hl;have jV:=fb hq;have hW:=gv hq;have Nm:(nats q.order).length=q.order.length:=by unfold nats; rw [List.length_map]
 have Ln:((runs (aD q) q.order q.order.length).map (xD (aD q))).length=q.order.length + 1:=by unfold runs; rw [List.length_map,List.length_map,List.length_range]
 have ok:=Nl hS (l:=runs (aD q) q.order q.order.length) fun x hx=>by
  refine l8 hx fun i hi=>?_;exact KG hS hW hq.nd (by have:=List.mem_range.mp hi; exact Nat.le_of_lt_succ this)
 refine d8 (id R.go) fun m0 o0 t k_=>?_; refine gG k_ ?_; rintro ot nn r1 r2 r3 r4 ⟨o,pm,cd',doc,ho,hd,_⟩ r6 r7 r8;refine Xs.Ay (Et.is (Et.or (b:=false) (d:=false) (Et.cmp (Ev.iV (Ev.bi T H K rfl (by decide +kernel)) (.one (Ev.name K rfl)) (kB (ds:=(runs (aD q) q.order q.order.length).map (xD (aD q))) (Nat.le_trans (Nat.le_of_eq Ln) (lK (Nat.succ_le_succ (oL jV hl)))))) (Ev.is (Ev.bin (Ev.iV (Ev.bi T H K rfl (by decide +kernel)) (.one (Ev.name K rfl)) (kB (ds:=nats q.order) (Nat.le_trans (Nat.le_of_eq Nm) (lK (oL jV hl))))) Ev.int jw) (show _=Sv.dat (.int ((((runs (aD q) q.order q.order.length).map (xD (aD q))).length:Nat):Int)) by rw [Nm,Ln]; push_cast; rfl)) (lu (b:=true) rfl rfl ⟨fun _=>rfl,fun _=>rfl⟩) gR.bool) fun _=>?_) rfl) Ex.nil;exact Et.cmp (Ev.name K rfl) (Ev.AH ho hd (Ev.global T K rfl r4) (.cons (Ev.global T K rfl H.step.name) (.one (Ev.bin (Ev.list (ds:=[.list [.tuple [.list [],.list []]]]) (.one (Ev.list (ds:=[.tuple [.list [],.list []]]) (.one (Ev.tuple (ds:=[.list [],.list []]) (.cons (Ev.list (ds:=[]) ic.nil) (.one (Ev.list (ds:=[]) ic.nil)))))))) (Ev.name K rfl) (iZ (ys:=q.order.map (eZ (aD q))) (sl (by simp; exact lK (Nat.add_le_add_left (oL jV hl) 1))))))) (xZ T H R hS hW hq.nd (lK (oL jV hl)))) (lu (b:=true) ok ok ⟨fun _=>rfl,fun _=>rfl⟩) gR.bool
end
end
section
open PySem.Builtin
structure KL (mg:Str->Option ai) (G:Heap) (c2 P2:Addr):Prop where
 top:TopC mg G c2 P2
 obj:mg "object"=none
 go: ∃o pm doc,G.get? (adr mg "cmp_to_key")=some o/\o.data=.func (docDef "cmp_to_key" (argsAt 2) (dh 2) (aG 2) pm (.ref c2) doc)/\G.CodeRec (.ref c2) "cmp_to_key"
section
variable {L:Addr} {c2 P2:Addr}
noncomputable abbrev bE (q:tV):List Nat:=(run (aD q) q.order q.order.length).1
noncomputable abbrev qb (mg:Str->Option ai):ai:=.ref (adr mg "_law_compare")
noncomputable abbrev Cb (w:bR) (mg:Str->Option ai) (q:tV) (script:List Int) (cv:ai):fQ:=upd (upd (nJ q script) "made" (lC w (qb mg) cv)) "laid" (.dat (rows (aD q) (bE q)))
theorem Y5 {Q:Flow->aj->Prop} (T:bL mg mb G) (H:Prog mg G) (HC:KL mg G c2 P2) (K:fM (eg L a cd)) (hq:nY q) (hl:q.ahead.length<=10) (hA:cQ (n + 1) A) (hR: ∀p∈F1,p.1≠P2) (F:FS G (dF L a cd) ⟨(P2,aT #[])::F1,fl⟩ (nJ q script) τ s.heap) (hQ: ∀cv ps s',Sm s s'->FS G (dF L a cd) ⟨(P2,aT ps)::F1,fl⟩ (Cb w mg q script cv) τ s'.heap->Q .next s'):ak (aq prog w) A (exec (fY 8) (eg L a cd)) Q E s:=by
 have jV:=fb hq;have Ln:((runs (aD q) q.order q.order.length).map (xD (aD q))).length=q.order.length + 1:=by unfold runs; rw [List.length_map,List.length_map,List.length_range]
 refine jt HC.go fun o pm doc ho hd sI=>?_;refine yD (G:=G) (c:=dF L a cd) (names:=["laid","made"]) K hA (fun t ht=>?_) (Hu (eE ((Ev.gH (n:=n + 1) (c:=dF L a cd) (ρ:=nJ q script) (ds:=[rows (aD q) (bE q),kL (aD q) (run (aD q) q.order q.order.length).2]) (d:=rows (aD q) (bE q)) (Ev.rB (ds:=(runs (aD q) q.order q.order.length).map (xD (aD q))) (Ev.name K rfl) (Ev.neg Ev.int) (by decide) (by rw [Ln]; push_cast; exact (nP _).symm ▸ aS _) ?_ (by decide)) Ev.int (by decide) rfl (by decide)).go _ _ _ _ _ s hA F fun v1 s1 m1 uV=>?_)))
 ·simp only [List.mem_cons,List.not_mem_nil,or_false] at ht;rcases ht with rfl | rfl
  ·exact .inl rfl
  ·exact .inl rfl
 ·have e:((-1:Int) + ((runs (aD q) q.order q.order.length).map (xD (aD q))).length).toNat=q.order.length:=by rw [Ln]; push_cast; exact congrArg hU (nP _)
  rw [e];unfold runs;rw [List.getElem?_map,List.getElem?_map,List.getElem?_range (Nat.lt_succ_self _)]; rfl
 refine eE (kT ((Ev.global (n:=n + 1) T K rfl H.cmp.name).pX _ _ _ _ _ s1 hA uV fun s2 m2 F2=>?_));refine kZ (h':=G) ho hd ((ic.one (Ev.global (n:=n + 1) T K rfl H.compare.name)).FN _ _ _ _ _ s2 _ hA F2.pop fun s3 m3 F3=>⟨F3.top _ _ ho,?_⟩);refine ju F3.J9 fun oL Cl D W ht Sn hf wk mh back=>?_;refine JI (n:=n) (R:=((dF L a cd).env.locals,oL)::(Cl++F1)) (D₀:=D) T HC.top HC.obj ho hd sI hA (W.sub fun p hp=>?_) (fun p hp=>?_) fun v s4 D' Ff m4 W' hD CE=>?_
 ·exact bU hp (.tail _ (mR ((.head _)))) fun hp=>bU hp (.head _) fun hp=>cE hp (fun hp=>.tail _ (mL hp)) fun hp=>.tail _ (mR ((.tail _ hp)))
 ·exact bU hp ((Sn _ (.head _)).1) fun hp=>cE hp (fun hp=>(Sn _ (.head _)).2 p hp) fun hp=>hR p hp
 have F4:=back ((P2,aT Ff)::F1) oL D' s4.heap rfl nm rfl (W'.sub fun p hp=>by
  exact bU hp (.tail _ (.head _)) fun hp=>cE hp (fun hp=>.tail _ (.tail _ (mL hp))) fun hp=>bU hp (.head _) fun hp=>.tail _ (.tail _ (mR hp))) hD [(v,lC w (qb mg) v)] (fun p hp=>by
  refine bU hp ?_ (fun hp=>?_)
  ·exact ⟨rfl,CE⟩
  ·cases hp)
 refine bW (iz ?_ (sl (by simp)));have F5:=F4.new (o:={ cls:=.type "tuple",data:=.seq [v1,v].toArray }) (v:=.ref s4.heap.objs.size) (d:=tupS [.dat (rows (aD q) (bE q)),lC w (qb mg) v]) rfl fun D hD=>⟨_,[v1,v],rfl,.head _,bP.mono (fun p hp=>.tail _ hp) (.cons (hD (v1,.dat (rows (aD q) (bE q))) (.tail _ (.tail _ (.head _)))) (.cons (hD (v,lC w (qb mg) v) (.head _)) .nil))⟩;refine ⟨[.dat (rows (aD q) (bE q)),lC w (qb mg) v],nJ q script,⟨(P2,aT Ff)::F1,fl⟩,τ,rfl,F5.temps fun p hp=>?_,fun s6 m6 F6=>?_⟩
 ·exact bU hp (.head _) fun hp=>.tail _ (.tail _ (.tail _ (.tail _ hp)))
 ·exact hQ v Ff s6 ⟨((((m1.trans m2).trans m3).trans m4).trans ⟨m6.gens,m6.os⟩).gens,((((m1.trans m2).trans m3).trans m4).trans ⟨m6.gens,m6.os⟩).os⟩ F6
end
end
section
open PySem.Builtin
noncomputable def UQ (st:Stmt):Expr:=VQ (FZ st)
section
variable {L:Addr} {c0:Addr}
theorem wY (hq:nY q) (hl:q.ahead.length<=10): ∀k,k∈bE q↔k∈q.order:=fun k=>by
 have hS:=fH hq hl;rw [(ko hS (gv hq) hq.nd _ (Nat.le_refl _)).mem,List.take_length];refine ⟨fun h=>h.1,fun h=>⟨h,fun j hj=>?_⟩⟩;have hk:=gv hq k h;have h1:=tw hS hk.2 j hj;refine HQ (List.append_of_mem hj) fun u r e=>?_;have:=(kD hS k hk.2 u j r e).1;exact (hq.mem j).mpr ((iC hq).mp this)
theorem uh (hq:nY q) (hl:q.ahead.length<=10):(bE q).Pairwise fun i j=>iO (ids (aD q) i) (ids (aD q) j)=true:=
 (ko (fH hq hl) (gv hq) hq.nd _ (Nat.le_refl _)).laid.ord
theorem wZ (hq:nY q) (hl:q.ahead.length<=10):j8 (aD q) q.order=bE q:=by
 refine xy (jD (fH hq hl) (gv hq) hq.nd) fun _ h2 h3=>?_;exact we h2 (uh hq hl) fun k=>(h3 k).trans (wY hq hl k).symm
theorem Cc (hq:nY q) (hl:q.ahead.length<=10):(bE q).length=q.order.length:=by
 rw [<- wZ hq hl]; exact zb (fH hq hl) (gv hq) hq.nd
noncomputable abbrev qE (w:bR) (mg:Str->Option ai) (q:tV) (script:List Int) (cv:ai):fQ:=upd (Cb w mg q script cv) "rows" (.dat (.list ((bE q).map (fO (aD q)))))
theorem Y6 {M:Led} {je:kA} {Q:Flow->aj->Prop} (T:bL mg mb G) (Hg:Prog mg G) (H:TopC mg G c0 P0) (K:fM (eg L a (.ref c0))) (hq:nY q) (hl:q.ahead.length<=10) (hA:cQ (n + 3) A) (hR: ∀p∈F1,p.1≠P0) (hJ:KD (dF L a (.ref c0)) P0 M je) (F:FS G (dF L a (.ref c0)) ⟨M++F1,fl⟩ (Cb w mg q script cv) (je++τ) s.heap) (hQ: ∀ps s',Sm s s'->FS G (dF L a (.ref c0)) ⟨(P0,aT ps)::F1,fl⟩ (qE w mg q script cv) τ s'.heap->Q .next s'):ak (aq prog w) A (exec (fY 9) (eg L a (.ref c0))) Q E s:=by
 have hS:=fH hq hl;have hW:=gv hq;have jV:=fb hq;have P:=bM.list (prog:=prog) (w:=w) (G:=G) (n:=n + 3) (ds:=nats q.order);unfold nats at P;rw [List.map_map] at P;obtain ⟨ps,VS,tok,tno⟩: ∃ps,M=[(P0,aT ps)]/\iI ps.toList/\eY (En Eo) ps.toList=none:=by
  rcases hJ with ⟨rfl,_⟩ | ⟨c',oc,rfl,_⟩
  ·exact ⟨#[],rfl,Fv,KC⟩
  ·exact ⟨Ep c',rfl,Fw c',Kz c'⟩
 subst VS;have UR:Ev prog w G (n + 3) (dF L a (.ref c0)) (Cb w mg q script cv) (UQ (fY 9)) (.dat (.list (q.order.map (fO (aD q))))):=by
  refine Ev.is (Ev.gX q.order _ _ (fun _=>true) (fun k=>fO (aD q) k) K (by decide +kernel) rfl (Ev.name K rfl) P (lK (oL jV hl)) (.name rfl fun L' Fr k hk K'=>⟨nA.nil,fun _=>Ev.lD (N:=q.ahead.length) (Ev.name K' rfl) (Ev.name K' rfl) ((hq.mem k).mp hk).2 (lK hl)⟩)) ?_;rw [cV]
 refine aZ (Er ((Ev.bi (n:=n + 3) (v:=.builtin "sorted") T Hg K rfl (by decide +kernel)).pX _ _ _ _ _ s hA F fun s1 m1 uV=>?_)) (by rfl);refine Li ((ic.one UR).CR _ _ _ _ _ s1 _ hA uV.pop fun v2 s2 m2 F2=>?_);refine lI ?_;have mh:ff (Hq Eo) (dF L a (.ref c0)).env=pure []:=by kernel_rfl
 refine B4 (c:=dF L a (.ref c0)) T H K rfl (by rfl) mh tok tno hR nm F2 fun fa c' oc pP s3 m3 F3 EP xO=>iT ?_;refine se (f:=fO (aD q)) (N:=q.ahead.length) (c':=c') (oc:=oc) (τ:=(.none,oY c' oc)::(je++τ)) hS hW hq.nd (Nat.lt_of_le_of_lt (oL jV hl) (by decide)) hA T (by rfl) rfl (F3.temps fun p hp=>?_) (.head _) (fun G' ac' oa u k hk T' YX UJ Wo Q5=>Ni (n:=n) T' YX rfl xO) fun v' s4 m4 F4=>?_
 ·exact bU hp (.tail _ (.head _)) fun hp=>bU hp (.head _) fun hp=>.tail _ (.tail _ hp)
 rw [wZ hq hl] at F4;refine store K F4 (.inl rfl) fun s5 m5 F5=>?_;exact hQ _ s5 ((((m1.trans m2).trans m3).trans m4).trans m5) ((F5.temps fun p hp=>.tail _ (mR hp)).gZ (fun p hp=>.tail _ hp) nm)
end
end
section
open PySem.Builtin
theorem Hr {c0:List Int} (h0:c0∈cs): ∃p,Cp c0 cs p:=by
 have key: ∀m,∀p,p + m=c0.length->(∀c∈cs,p<=c.length/\c.take p=c0.take p)->∃p,Cp c0 cs p:=by
  intro m
  induction m with
  | zero=>
   intro p e h;refine ⟨p,Nat.le_of_eq e,h,c0,h0,.inl ?_⟩;rw [List.getElem?_eq_none (by exact Nat.le_of_eq e.symm)]
  | succ m ih=>
   intro p e h
   by_cases q: ∀c∈cs,p + 1<=c.length/\c.take (p + 1)=c0.take (p + 1)
   ·exact ih (p + 1) ((Nat.add_right_comm p 1 m).trans e) q
   ·have: ∃c∈cs,¬(p + 1<=c.length/\c.take (p + 1)=c0.take (p + 1)):=by
     apply uq;intro z;exact q fun c hc=>uq fun y=>z ⟨c,hc,y⟩
    refine bQ this fun c hc hn=>?_; clear this;refine ⟨p,Nat.le.intro e,h,c,hc,?_⟩
    by_cases hl:p + 1<=c.length
    ·right;intro e2;refine hn ⟨hl,?_⟩;rw [List.take_add_one,List.take_add_one,(h c hc).2,e2]
    ·left;exact List.getElem?_eq_none (Nat.le_of_lt_succ (Nat.lt_of_not_le hl))
 exact key c0.length 0 (by lia) fun c hc=>⟨Nat.zero_le _,by simp⟩
theorem Ev.lF {slice:Expr} {d:Nat} {e:Dat} (h1:Ev prog w G n c ρ value (.dat (.list ds))) (h2:Ev prog w G n c ρ slice (.dat (.int ((k:Int) - (d:Nat))))) (hk:k < ds.length) (hd:d<=ds.length) (hz:ds.length<=1000) (hx:ds[(k + ds.length - d) % ds.length]? =some e) (hs: ∀o i,iu slice false o i=nM [o,i] (lW o i):=by intros; rfl):Ev prog w G n c ρ (.Subscript value slice pos) (.dat e):=by
 by_cases q:d<=k
 ·refine Ev.item (ds:=ds) h1 h2 (Int.sub_nonneg.mpr (fh.mpr q)) ?_ (iP (Int.sub_le_self _ (aS d)) (pW (Nat.le_trans (Nat.le_of_lt hk) hz))) hs;have e1:((k:Int) - (d:Nat)).toNat=k - d:=OZ ..;have e2:(k + ds.length - d) % ds.length=k - d:=by
   rw [show k + ds.length - d=(k - d) + ds.length by exact Nat.sub_add_comm q,Nat.add_mod_right,Nat.mod_eq_of_lt (Nat.lt_of_le_of_lt (Nat.sub_le _ _) hk)]
  rw [e1]; rw [e2] at hx; exact hx
 ·refine Ev.rB (ds:=ds) h1 h2 (Int.sub_neg_of_lt (cf.mpr (Nat.lt_of_not_le q))) ((iW hd).symm ▸ aS _) ?_ (d9 (Int.neg_le_neg (tP (pW (Nat.le_trans hd hz)))) (Int.le_add_of_nonneg_left (aS k))) hs;have e1:((k:Int) - (d:Nat) + ds.length).toNat=k + ds.length - d:=congrArg hU (iW hd);have e2:(k + ds.length - d) % ds.length=k + ds.length - d:=Nat.mod_eq_of_lt (Nat.sub_lt_left_of_lt_add (Nat.le_trans hd (Nat.le_add_left _ _)) (Nat.add_lt_add_right (Nat.lt_of_not_le q) _));rw [e1]; rw [e2] at hx; exact hx
theorem Ev.Cd {f:Expr} {fm:ai} {d:Dat} (T:bL mg mb G) (hf:Ev prog w G (n + 2) c ρ f (lC w fm cv)) (he:Ev prog w G (n + 2) c ρ e (.dat d)) (h2:aC [e] c.env=(false,eval e c.env)::aC [] c.env:=by rfl) (h3:(((cI pos (aC [e] c.env)).any (·.1)) || (([]:List (Option Str × Sem ai)).any (·.1.isNone)))=false:=by rfl) (hc:eval (.Call f [e] [] pos) c.env=(do eF pos (<- eval f c.env) [] (cI pos (aC [e] c.env)) (eG pos (bX [] c.env))):=by rfl):Ev prog w G (n + 2) c ρ (.Call f [e] [] pos) (uD w fm cv d):=
 .mk fun A E Q Φ τ s a F h=>kT (hf.go A E _ Φ τ s a F fun fv s1 m1 F1=>by
  have hsp:ak (aq prog w) A (sJ (cI pos (aC [e] c.env))) (fun vs s2=>(∃k,(k=zh\/k=vd\/k=EI)/\bk (aq prog w) s2.heap (VF fv) k)/\ak (aq prog w) A (call fv ([]++vs) []) Q E s2) E s1:=by
   refine (ic.one he h2).CR A E _ Φ _ s1 pos a F1 fun v s2 m2 F2=>?_;refine ⟨?_,FS.Pf (Fj T) a F2 fun v s' m3 F3=>h v s' ((m1.trans m2).trans m3) F3⟩;refine bQ F2.heldBy fun D hD t=>?_;obtain ⟨efv,CE⟩:bw D fv (lC w fm cv):=t _ (.tail _ (.head _));obtain ⟨kc,kn,km,mc,k1,k2,k3,oS,tm,tl,ts,sl,st,sv,f6,f7,f8,f9,x4,x5,pm,rfl,yv,a1,a2,a3,a4,a5,a6,a7,a8,a9,Fk,b1,b2⟩:=CE;refine bQ (z5 (hD _ a1) (hD _ a2) (hD _ a3) (hD _ a4) (hD _ a7)) fun K KX Z=>?_;have hk:ye K (.ref kc)=true:=by
    simp only [ye,Z.c];refine (?_:(iJ K (.ref kc) "__call__" == some (some (.builtin "type.__call__")))=true);simp only [iJ,DM Z]
    kernel_rfl
   refine bQ (looks_keep (M:=aq prog w) hk KX) fun k ka kb=>?_;exact ⟨k,ka.elim .inl fun e=>.inr (.inl e),by rw [efv]; exact kb⟩
  refine callWith_of (P:=fun h=>∃k,(k=zh\/k=vd\/k=EI)/\bk (aq prog w) h (VF fv) k) h3 (fun h x=>x) ?_;rw [h2] at hsp ⊢;exact gx hsp) hc
end
section
open PySem.Builtin
theorem Fn.KN (h:Fn mg G x i): ∃o fd,G.get? (adr mg x)=some o/\o.data=.func fd:=by
 refine fF h.at' fun o pm cd doc ho hd _=>?_;exact ⟨o,_,ho,hd⟩
section
variable {L:Addr}
theorem US (T:bL mg mb G) (H:Prog mg G) (K:fM (eg L a cd)) (hq:nY q) (hl:q.ahead.length<=10):Xs prog w G (n + 13) (dF L a cd) (qE w mg q script cv) (fY 10) (.next (qE w mg q script cv)):=by
 have hS:=fH hq hl;have hW:=gv hq;have jV:=fb hq;have Mn:=hq.pos;have Fz:=Cc hq hl;have l2:2<=(bE q).length:=Fz.symm ▸ jV.symm ▸ Nat.le_sub_one_of_lt (Nat.lt_of_lt_of_le (by decide) Mn);have Es:((bE q).map (row (aD q))).length=(bE q).length:=List.length_map _;have mh:((bE q).map (fO (aD q))).length=(bE q).length:=List.length_map _;have P:=bM.range (prog:=prog) (w:=w) (G:=G) (n:=n + 13) (k:=(bE q).length) (Nat.le_trans (Nat.le_of_eq Fz) (lK (oL jV hl)));have hlen:((List.range (bE q).length).map fun i:Nat=>Sv.dat (.int (i:Nat))).length=(bE q).length:=by rw [List.length_map,List.length_range]
 refine Xs.for (Ev.kH (Ev.bi T H K rfl (by decide +kernel)) (.one (Ev.is (Ev.iV (Ev.bi T H K rfl (by decide +kernel)) (.one (Ev.name K rfl)) (kB (ds:=(bE q).map (row (aD q))) (Nat.le_trans (Nat.le_of_eq (Es.trans Fz)) (lK (oL jV hl))))) (by rw [Es]))) mQ) P (fun _=>qE w mg q script cv) (fun i=>upd (qE w mg q script cv) "k" (.dat (.int (i:Nat)))) (fun x d h=>h) _ (bE q).length (by rw [hlen]; lia) (fun _=>rfl) (fun i d hi hd=>?_) (fun i hi=>.inl ?_) (fun h=>by rw [hlen] at h; exact absurd h (Nat.lt_irrefl _))
 ·rw [List.getElem?_map] at hd;refine bQ (bg.mp hd) ?_; rintro i' zB rfl;refine ex (List.getElem?_eq_some_iff.mp zB) fun fG e=>?_;rw [List.getElem_range] at e;subst e;exact dm.name K (.inl rfl)
 ·have inl: ∀m,m < (bE q).length->In (aD q) ((bE q).getD m 0):=fun m hm=>by
   rw [List.getD_eq_getElem?_getD,List.getElem?_eq_getElem hm];exact hW _ ((wY hq hl _).mp (List.getElem_mem hm))
  have lt: ∀d,(i + (bE q).length - d) % (bE q).length < (bE q).length:=fun d=>Nat.mod_lt _ (Nat.lt_of_le_of_lt (Nat.zero_le _) hi)
  let nb:Nat->Nat:=fun d=>(bE q).getD ((i + (bE q).length - d) % (bE q).length) 0
  have inb: ∀d,In (aD q) (nb d):=fun d=>inl _ (lt d);have rowAt: ∀d,((bE q).map (row (aD q)))[(i + ((bE q).map (row (aD q))).length - d) % ((bE q).map (row (aD q))).length]? =some (row (aD q) (nb d)):=fun d=>by
   rw [Es,List.getElem?_map,List.getElem?_eq_getElem (lt d)];refine (?_:_=some (row (aD q) ((bE q).getD _ 0)));rw [List.getD_eq_getElem?_getD,List.getElem?_eq_getElem (lt d)]; rfl
  have Q8: ∀d,((bE q).map (fO (aD q)))[(i + ((bE q).map (fO (aD q))).length - d) % ((bE q).map (fO (aD q))).length]? =some (fO (aD q) (nb d)):=fun d=>by
   rw [mh,List.getElem?_map,List.getElem?_eq_getElem (lt d)];refine (?_:_=some (fO (aD q) ((bE q).getD _ 0)));rw [List.getD_eq_getElem?_getD,List.getElem?_eq_getElem (lt d)]; rfl
  have nb0:nb 0=(bE q).getD i 0:=by
   refine (?_:(bE q).getD ((i + (bE q).length - 0) % (bE q).length) 0=_);rw [Nat.sub_zero,Nat.add_mod_right,Nat.mod_eq_of_lt hi]
  have ne: ∀d,ch (aD q) (nb d)≠ []:=fun d e=>by rw [vK hS (inb d)] at e; simp at e
  have cl: ∀d,(ch (aD q) (nb d)).length<=10:=fun d=>jy _;refine ex (Hr (c0:=ch (aD q) (nb 2)) (cs:=[ch (aD q) (nb 2),ch (aD q) (nb 1),ch (aD q) (nb 0)]) (.head _)) fun p hp=>?_;have norm: ∀d,Gq (path (ch (aD q) (nb d))) (ch (aD q) (nb d)):=fun d=>sX fy (by have:=cl d; exact lK this) (ne d);have TC:=nG (prog:=prog) (w:=w) (n:=n + 5) T H (ps:=[(path (ch (aD q) (nb 2)),ch (aD q) (nb 2)),(path (ch (aD q) (nb 1)),ch (aD q) (nb 1)),(path (ch (aD q) (nb 0)),ch (aD q) (nb 0))]) (fun x hx=>by
   simp only [List.mem_cons,List.not_mem_nil,or_false] at hx;rcases hx with rfl | rfl | rfl
   ·exact norm 2
   ·exact norm 1
   ·exact norm 0) (by simp) (by simp) (c0:=ch (aD q) (nb 2)) (p:=p) (.head _) hp
  have TF:=Dc (prog:=prog) (w:=w) (n:=n + 12) T H (c0:=ch (aD q) (nb 2)) (cs:=[ch (aD q) (nb 1),ch (aD q) (nb 0)]) (p:=p) hp (fun c hc=>by
   simp only [List.mem_cons,List.not_mem_nil,or_false] at hc;rcases hc with rfl | rfl | rfl
   ·have:=cl 2; exact lK this
   ·have:=cl 1; exact lK this
   ·have:=cl 0; exact lK this) fy (by simp)
  refine Ex.mono (Ex.cons (Xs.assign K (.inl rfl) (d:=.dat (.str (path ((ch (aD q) (nb 2)).take p)))) (Ev.def T H.mS K rfl (.one (Ev.list (ds:=[.str (path (ch (aD q) (nb 2))),.str (path (ch (aD q) (nb 1))),.str (path (ch (aD q) (nb 0)))])
   (.cons (Ev.gH (ds:=[.int (num (nb 2)),.str (path (ch (aD q) (nb 2))),.str (st ((aD q).text (nb 2)))]) (Ev.lF (ds:=(bE q).map (row (aD q))) (d:=2) (Ev.name K rfl) (Ev.is (Ev.bin (Ev.name K rfl) Ev.int qQ) rfl) (Es.symm ▸ hi) (Nat.le_trans l2 (Nat.le_of_eq Es.symm)) (Nat.le_trans (Nat.le_of_eq (Es.trans Fz)) (lK (oL jV hl))) (rowAt 2)) Ev.int (by decide) rfl (by decide))
   (.cons (Ev.gH (ds:=[.int (num (nb 1)),.str (path (ch (aD q) (nb 1))),.str (st ((aD q).text (nb 1)))]) (Ev.lF (ds:=(bE q).map (row (aD q))) (d:=1) (Ev.name K rfl) (Ev.is (Ev.bin (Ev.name K rfl) Ev.int qQ) rfl) (Es.symm ▸ hi) (Nat.le_trans (Nat.le_of_succ_le l2) (Nat.le_of_eq Es.symm)) (Nat.le_trans (Nat.le_of_eq (Es.trans Fz)) (lK (oL jV hl))) (rowAt 1)) Ev.int (by decide) rfl (by decide))
   (.one (Ev.gH (ds:=[.int (num (nb 0)),.str (path (ch (aD q) (nb 0))),.str (st ((aD q).text (nb 0)))]) (Ev.lF (ds:=(bE q).map (row (aD q))) (d:=0) (Ev.name K rfl) (Ev.is (Ev.name K rfl) (by simp)) (Es.symm ▸ hi) (Nat.zero_le _) (Nat.le_trans (Nat.le_of_eq (Es.trans Fz)) (lK (oL jV hl))) (rowAt 0)) Ev.int (by decide) rfl (by decide))))))) TC))
   (Ex.cons (Xs.Ay (Et.is (Et.or (b:=false) (d:=false) (Et.cmp (Ev.name K rfl) (Ev.def T H.front K rfl (.one (Ev.list (ds:=[fO (aD q) (nb 2),fO (aD q) (nb 1),fO (aD q) (nb 0)])
   (.cons (Ev.lF (ds:=(bE q).map (fO (aD q))) (d:=2) (Ev.name K rfl) (Ev.is (Ev.bin (Ev.name K rfl) Ev.int qQ) rfl) (mh.symm ▸ hi) (Nat.le_trans l2 (Nat.le_of_eq mh.symm)) (Nat.le_trans (Nat.le_of_eq (mh.trans Fz)) (lK (oL jV hl))) (Q8 2))
   (.cons (Ev.lF (ds:=(bE q).map (fO (aD q))) (d:=1) (Ev.name K rfl) (Ev.is (Ev.bin (Ev.name K rfl) Ev.int qQ) rfl) (mh.symm ▸ hi) (Nat.le_trans (Nat.le_of_succ_le l2) (Nat.le_of_eq mh.symm)) (Nat.le_trans (Nat.le_of_eq (mh.trans Fz)) (lK (oL jV hl))) (Q8 1))
   (.one (Ev.lF (ds:=(bE q).map (fO (aD q))) (d:=0) (Ev.name K rfl) (Ev.is (Ev.name K rfl) (by simp)) (mh.symm ▸ hi) (Nat.zero_le _) (Nat.le_trans (Nat.le_of_eq (mh.trans Fz)) (lK (oL jV hl))) (Q8 0))))))) TF) (lu (b:=true) ?_ ?_ ⟨fun _=>rfl,fun _=>rfl⟩) gR.bool) fun _=>?_) rfl) Ex.nil) Ex.nil)) ?_
  ·exact ly fun y hy=>fy y (List.mem_of_mem_take hy)
  ·exact ly fun y hy=>fy y (List.mem_of_mem_take hy)
  ·refine nV H.compare.KN fun o fd ho hd=>?_;have P2:=rR (prog:=prog) (w:=w) (n:=n + 2) T H (c1:=ch (aD q) (nb 0)) (c2:=ch (aD q) (nb 0)) (d1:=.int (num (nb 0))) (d2:=.int (num (nb 0))) (e1:=.str (st ((aD q).text (nb 0)))) (e2:=.str (st ((aD q).text (nb 0)))) fy fy (by have:=cl 0; exact lK this) (by have:=cl 0; exact lK this) (ne 0) (ne 0);refine Et.is (Et.cmp (Ev.Cd (n:=n + 11) (fm:=qb mg) (cv:=cv) (d:=row (aD q) (nb 0)) T (Ev.name K rfl) (Ev.lF (ds:=(bE q).map (row (aD q))) (d:=0) (Ev.name K rfl) (Ev.is (Ev.name K rfl) (by simp)) (Es.symm ▸ hi) (Nat.zero_le _) (Nat.le_trans (Nat.le_of_eq (Es.trans Fz)) (lK (oL jV hl))) (rowAt 0)))
    (Ev.Cd (n:=n + 11) (fm:=qb mg) (cv:=cv) (d:=row (aD q) (nb 0)) T (Ev.name K rfl) (Ev.lF (ds:=(bE q).map (row (aD q))) (d:=0) (Ev.name K rfl) (Ev.is (Ev.name K rfl) (by simp)) (Es.symm ▸ hi) (Nat.zero_le _) (Nat.le_trans (Nat.le_of_eq (Es.trans Fz)) (lK (oL jV hl))) (rowAt 0))) (QC (n:=n + 10) T ho hd P2) gR.bool) ?_
   rw [yF]; rfl
  ·exact nj rfl (nj rfl fun _ _ h=>h)
end
end
section
open PySem.Builtin
theorem FnAt.keeps {G':Heap} {name:Str} {p:gK} {b:List Stmt} {sc:iK} (h:FnAt G a name p b sc) (k: ∀b o,G.get? b=some o->G'.get? b=some o):FnAt G' a name p b sc:=by
 refine fF h fun o pm cd doc h1 h2 h3=>?_; clear h;exact ⟨o,pm,cd,doc,k _ _ h1,h2,h3.keeps k⟩
theorem Fn.keeps {G':Heap} (h:Fn mg G x i) (k: ∀b o,G.get? b=some o->G'.get? b=some o):Fn mg G' x i:=⟨h.name,h.at'.keeps k⟩
theorem Prog.keeps {G':Heap} (H:Prog mg G) (k: ∀b o,G.get? b=some o->G'.get? b=some o):Prog mg G':=
 ⟨H.bi,H.oJ.keeps k,H.rH.keeps k,H.join.keeps k,H.oK.keeps k,H.uR.keeps k,H.mS.keeps k,H.pieces.keeps k,H.chain.keeps k,H.put.keeps k,H.read.keeps k,H.ready.keeps k,H.lay.keeps k,H.step.keeps k,H.below.keeps k,H.compare.keeps k,H.front.keeps k,H.tY.keeps k,H.zw.keeps k,H.cmp.keeps k⟩
noncomputable def Q9 (st:Stmt):Expr:=VQ (VQ (FZ st))
noncomputable def Ra (w:bR) (fm cv:ai) (d:Dat):Sv:=.own (fun D v=>eI D v d/\OE w fm D cv) fun _ _ _ hs h=>⟨h.1.mono hs,h.2.mono hs⟩
noncomputable def qX (S:Sc) (k:Nat):Int × Str × Str:=(num k,path (ch S k),st (S.text k))
noncomputable def j9 (S:Sc) (L:List Nat):List Nat:=(gu (fun i=>((L.map (qX S)).getD i default).1) L.length).map fun i=>L.getD i default
section
variable {L:Addr}
theorem KO (hS:S.Ok) {l:List Nat} (hl: ∀k∈l,In S k) {x y:Int × Str × Str} (hi:(l.map (qX S))[i]? =some x) (hj:(l.map (qX S))[j]? =some y) (e:x.1=y.1):l[i]? =l[j]? :=by
 have h9:=hS.n9;rw [List.getElem?_map] at hi hj;refine bQ (bg.mp hi) ?_; rintro k1 e1 rfl;refine bQ (bg.mp hj) ?_; rintro k2 e2 rfl;have i1:=hl _ (List.mem_of_getElem? e1);have i2:=hl _ (List.mem_of_getElem? e2);have h1:=i1.2;have h2:=i2.2;have:=pM i1.1 i2.1 (Nat.le_trans h1 h9) (Nat.le_trans h2 h9) e;rw [e1,e2,this]
theorem w4 (hS:S.Ok) {l:List Nat} (hl: ∀k∈l,In S k) (gW:l.Nodup):(j9 S l).Perm l/\∀i∈gu (fun i=>((l.map (qX S)).getD i default).1) l.length,i < l.length:=by
 have inj: ∀i j,i < l.length->j < l.length->((l.map (qX S)).getD i default).1=((l.map (qX S)).getD j default).1->i=j:=fun i j hi hj e=>by
  have zB:(l.map (qX S))[i]? =some ((l.map (qX S)).getD i default):=by rw [List.getD_eq_getElem?_getD,List.getElem?_eq_getElem (by rw [List.length_map]; exact hi)]; rfl
  have Ls:(l.map (qX S))[j]? =some ((l.map (qX S)).getD j default):=by rw [List.getD_eq_getElem?_getD,List.getElem?_eq_getElem (by rw [List.length_map]; exact hj)]; rfl
  have:=KO hS hl zB Ls e;rw [List.getElem?_eq_getElem hi,List.getElem?_eq_getElem hj] at this;exact (List.getElem_inj gW).mp (aH this)
 have hp:=ni _ l.length inj;refine ⟨?_,fun i hi=>List.mem_range.mp (hp.mem_iff.mp hi)⟩;have h2:=hp.map fun i=>l.getD i default;have e:(List.range l.length).map (fun i=>l.getD i default)=l:=by
  apply List.ext_getElem
  ·simp
  ·intro i h1 h2;simp only [List.getElem_map,List.getElem_range,List.getD_eq_getElem?_getD,List.getElem?_eq_getElem h2]
   rfl
 rw [e] at h2;exact h2
theorem Ao (hS:S.Ok) {l:List Nat} (hl: ∀k∈l,In S k) (gW:l.Nodup) (zS:l.length < 64):bJ prog w G (n + 2) (.builtin "sorted") [.dat (rows S l)] (.dat (rows S (j9 S l))):=.mk fun A E Q Φ D vs s a W hv h=>by
 have e0:l.map (row S)=(l.map (qX S)).map uB:=by rw [List.map_map]; rfl
 have e1:rows S l=.list ((l.map (qX S)).map uB):=by unfold rows; rw [e0]
 refine RW hv fun v hv=>?_
 ·rw [e1] at hv;refine (xT (prog:=prog) (w:=w) (G:=G) (n:=n) (xs:=l.map (qX S)) (by rw [List.length_map]; exact zS) (fun i j x y hi hj e=>?_)).go A E Q Φ D _ s a W hv fun v s' D' sm W' hs Lx=>h v s' D' sm W' hs ?_
  ·have:=KO hS hl hi hj e;have z:(l.map (qX S))[i]? =(l.map (qX S))[j]? :=by rw [List.getElem?_map,List.getElem?_map,this]
   rw [hi,hj] at z;exact aH z
  ·rw [List.length_map, <- e0,sort_map (α:=Nat) (w4 hS hl gW).2] at Lx;exact Lx
theorem UT {Q:Flow->aj->Prop} (T:bL mg mb G) (H:Prog mg G) (K:fM (eg L a cd)) (hq:nY q) (hl:q.ahead.length<=10) (hA:cQ (n + 15) A) (F:FS G (dF L a cd) Φ (qE w mg q script cv) τ s.heap) (hQ: ∀v s',Sm s s'->FS G (dF L a cd) Φ (qE w mg q script cv) ((v,.dat (.bool true))::τ) s'.heap->Q (.ret v) s'):ak (aq prog w) A (exec (fY 11) (eg L a cd)) Q E s:=by
 have hS:=fH hq hl;have hW:=gv hq;have jV:=fb hq;have Fz:=Cc hq hl;have Nn: ∀k∈bE q,In (aD q) k:=fun k hk=>hW k ((wY hq hl k).mp hk);have Si:=uh hq hl;have Rb:(bE q).Nodup:=Si.imp fun {x y} h e=>by subst e; rw [fX] at h; cases h
 have bp:=(w4 hS Nn Rb).1;have Np: ∀k∈j9 (aD q) (bE q),In (aD q) k:=fun k hk=>Nn k (bp.mem_iff.mp hk);have UU:(j9 (aD q) (bE q)).Nodup:=bp.nodup_iff.mpr Rb;have hBl:(j9 (aD q) (bE q)).length=(bE q).length:=bp.length_eq;have sp:=jD hS Np UU;have Y7:j8 (aD q) (j9 (aD q) (bE q))=bE q:=we sp.2.1 Si fun k=>(sp.2.2 k).trans bp.mem_iff;have I4:Ev prog w G (n + 15) (dF L a cd) (qE w mg q script cv) (Q9 (fY 11)) (.dat (rows (aD q) (j9 (aD q) (bE q)))):=Ev.iV (Ev.bi T H K rfl (by decide +kernel)) (.one (Ev.name K rfl)) (Ao (n:=n + 13) hS Nn Rb (Nat.lt_of_le_of_lt (Nat.le_trans (Nat.le_of_eq Fz) (oL jV hl)) (by decide)));have VR:cW 8 (rows (aD q) (bE q))=true:=by
  unfold rows;simp only [cW,List.all_eq_true];intro d hd;refine l8 hd fun k hk=>?_;exact PB hS (Nn k hk)
 refine eU (Cf (Er ((Ev.bi (n:=n + 15) (v:=.builtin "sorted") T H K rfl (by decide +kernel)).pX _ _ _ _ _ s hA F fun s1 m1 F1=>?_)) rfl);refine Li ((ic.one I4).CR _ _ _ _ _ s1 _ hA F1.pop fun v2 s2 m2 F2=>?_);refine lI ((Ev.name (n:=n + 15) (x:="made") (d:=lC w (qb mg) cv) K rfl).go _ _ _ _ _ s2 hA F2 fun v3 s3 m3 F3=>iT ?_);obtain ⟨kc,ecv⟩: ∃kc,cv=.ref kc:=by
  refine bQ F3.heldBy fun D hD t=>?_;obtain ⟨_,CE⟩:bw D v3 (lC w (qb mg) cv):=t _ (.head _);obtain ⟨kc,_,_,_,_,_,_,_,_,_,_,_,_,_,_,_,_,_,_,_,_,e,_⟩:=CE;exact ⟨kc,e⟩
 obtain rfl:v3=cv:=by
  refine bQ F3.heldBy fun D hD t=>?_;obtain ⟨e,_⟩:bw D v3 (lC w (qb mg) cv):=t _ (.head _);exact e
 subst ecv;refine nV H.compare.KN fun o fd ho hd=>?_;have F4:FS G (dF L a cd) Φ (qE w mg q script (.ref kc)) ((v2,.dat (.list ((j9 (aD q) (bE q)).map (row (aD q)))))::(.ref kc,lC w (qb mg) (.ref kc))::τ) s3.heap:=F3.temps fun p hp=>by
  exact bU hp (.tail _ (.head _)) fun hp=>bU hp (.head _) fun hp=>.tail _ (.tail _ hp)
 refine FS.yU (n:=n + 13) (ks:=(j9 (aD q) (bE q)).map fun k=>uD w (qb mg) (.ref kc) (row (aD q) k)) (κ:=sy) (r:=my (aD q) (j9 (aD q) (bE q))) hA F4 (by simp) (by rw [List.length_map]; exact Nat.lt_of_le_of_lt (Nat.le_trans (Nat.le_of_eq (hBl.trans Fz)) (oL jV hl)) (by decide)) (fun D C m X=>?_) fun v5 s5 m5 F5=>?_
 ·refine ex X.around fun oL W0=>?_;have T':=T.keeps W0.r9;have H':=H.keeps W0.r9;obtain ⟨_,CE⟩:bw D (.ref kc) (lC w (qb mg) (.ref kc)):=X.tm _ (.tail _ (.head _));refine ⟨Ra w (qb mg) (.ref kc),fun v d h=>⟨h,CE⟩,fun i d k hd hk=>?_,fun h2=>?_,fun i j di dj hi hj=>?_⟩
  ·refine zk hd fun k0 e0=>zk hk fun k1 e1=>?_;rw [e0] at e1;obtain rfl:=aH e1;exact .mk fun A E Q Φ D v1 s a W h1 h=>(Fj (n:=n + 11) T').go A E Q Φ D (.ref kc) v1 s a W ⟨rfl,h1.2⟩ h1.1 h
  ·have:=QD (prog:=prog) (w:=w) (G:=cB s3.heap (D.map (·.1))) (f:=qb mg) (cv:=.ref kc) (ds:=(j9 (aD q) (bE q)).map (row (aD q))) h2;rw [List.map_map] at this;exact this
  ·refine zk hi fun k0 e0=>zk hj fun k1 e1=>?_;have i1:=(List.getElem?_eq_some_iff.mp e0).1;have j1:=(List.getElem?_eq_some_iff.mp e1).1;have g0:(j9 (aD q) (bE q)).getD i default=k0:=by rw [List.getD_eq_getElem?_getD,e0]; rfl
   have g1:(j9 (aD q) (bE q)).getD j default=k1:=by rw [List.getD_eq_getElem?_getD,e1]; rfl
   have in0:=Np _ (List.mem_of_getElem? e0);have in1:=Np _ (List.mem_of_getElem? e1);have ne: ∀k,In (aD q) k->ch (aD q) k≠ []:=fun k hk e=>by rw [vK hS hk] at e; simp at e
   have P2:=rR (prog:=prog) (w:=w) (n:=n + 2) T' H' (c1:=ch (aD q) k0) (c2:=ch (aD q) k1) (d1:=.int (num k0)) (d2:=.int (num k1)) (e1:=.str (st ((aD q).text k0))) (e2:=.str (st ((aD q).text k1))) fy fy (by have:=jy (S:=aD q) k0; exact lK this) (by have:=jy (S:=aD q) k1; exact lK this) (ne _ in0) (ne _ in1)
   have eb:decide (lQ (ch (aD q) k0) (ch (aD q) k1) < 0)=iO (ids (aD q) k0) (ids (aD q) k1):=by
    have:=Jq hS in0.2 in1.2
    by_cases z:lQ (ch (aD q) k0) (ch (aD q) k1) < 0
    ·rw [decide_eq_true z,this.mp z]
    ·rw [decide_eq_false z];cases y:iO (ids (aD q) k0) (ids (aD q) k1) with
     | false=>rfl
     | true=>exact absurd (this.mpr y) z
   rw [sp.1 i j i1 j1,g0,g1, <- eb];exact TV (n:=n + 10) T' (W0.r9 _ _ ho) hd P2
 ·rw [List.length_map,sort_map (α:=Nat) (Ft hS Np UU)] at F5;have F5':FS G (dF L a cd) Φ (qE w mg q script (.ref kc)) ((v5,.dat (rows (aD q) (bE q)))::(.ref kc,lC w (qb mg) (.ref kc))::τ) s5.heap:=by
   have e:((gu (my (aD q) (j9 (aD q) (bE q))) (j9 (aD q) (bE q)).length).map fun i=>(j9 (aD q) (bE q)).getD i default)=bE q:=Y7;rw [e] at F5;exact F5
  refine (Ev.name (n:=n + 15) (x:="laid") (d:=.dat (rows (aD q) (bE q))) K rfl).go _ _ _ _ _ s5 hA F5' fun v6 s6 m6 F6=>?_;refine FS.Pf (vA (b:=true) VR VR ⟨fun _=>rfl,fun _=>rfl⟩) hA F6 fun v7 s7 m7 F7=>?_;exact hQ v7 s7 ((((((m1.trans m2).trans m3).trans m5).trans m6).trans m7)) (F7.temps fun p hp=>by
   exact bU hp (.head _) fun hp=>.tail _ (.tail _ hp))
end
end
section
open PySem.Builtin
noncomputable def Rc (st:Stmt):Expr:=VQ (FZ st)
section
variable {K:Frag} {sm fN fI fC fR:Addr} {c0 c2 P2 af:Addr} {doc:ai}
theorem Nq (hs:script.length<=100) (T:bL mg mb G) (H:Prog mg G) (R:Red mg G) (B:lU prog w G mg K C sm fN fI fC fR tI tR) (HL:TopC mg G c0 P0) (HC:KL mg G c2 P2) (ho:G.get? af=some o) (hd:o.data=.func (docDef "law" (argsAt 45) (dh 45) (aG 45) pm (.ref c0) doc)) (sI:G.CodeRec (.ref c0) "law") (hA:cQ (n + 16) A) (qy:A.frames=some []) (EP:P0≠P2) (dM:au G [(P0,aT #[]),(P2,aT #[])] D₀ s₀.heap) (hv:bw D₀ v (.dat (.list (script.map .int)))) (hQ: ∀s' D' Ff Nr,Sm s₀ s'->au G [(P0,aT Ff),(P2,aT Nr)] D' s'.heap->(∀p∈D₀,p∈D')->Q (.bool true) s'):wpS (aq prog w) A (call (.ref af) [v]) Q E s₀:=by
 have hq:=nY.pieces script;have hl:=Ei script;have hS:=fH hq hl;have hW:=gv hq;have jV:=fb hq;refine wI (n:=n + 15) (xs:=["script"]) (ds:=[.dat (.list (script.map .int))]) (name:="law") (cd:=.ref c0) (body:=dh 45) (scope:=aG 45) T hA dM (dM.keep _ _ ho) hd rfl rfl rfl rfl rfl rfl rfl (sI.keeps dM.keep) (fun E' Q' h=>?_) rfl (by decide +kernel) (by decide +kernel) (fun L D Ge K1 s Sb fV F=>?_)
 ·refine (?_:ak _ _ (pure [(("script" :Str),v)]) _ _ _);exact ah (h [v] _ _ (Sm.refl _) dM (fun _ h=>h) (.cons hv .nil))
 rw [Ku];refine nh (jb ((UH (n:=n + 14) (L:=L) (a:=af) (cd:=.ref c0) T H K1 hs).go _ _ _ _ _ s fV F fun s1 m1 F1=>?_));refine nh (jb ((YU (n:=n + 14) (L:=L) (a:=af) (cd:=.ref c0) T H K1 hq hl).go _ _ _ _ _ s1 fV F1 fun s2 m2 F2=>?_));refine nh (jb ((YV (n:=n + 14) (L:=L) (a:=af) (cd:=.ref c0) T H K1 hq hl).go _ _ _ _ _ s2 fV F2 fun s3 m3 F3=>?_));have Y8:Ev prog w G (n + 15) (dF L af (.ref c0)) (B6 (pieces script) script) (Rc (fY 3)) (.dat (.bytes (B8 (aD (pieces script)) (pieces script).order).toArray)):=by
  refine d8 (id R.go) fun m0 o0 t k_=>?_; refine gG k_ fun ot nn r1 r2 r3 r4 r5 r6 r7 r8=>fF r5 fun o' pm' cd' Y9 FL uu _=>?_;refine Ev.is (Ev.Q0 (ns:=(pieces script).order.flatMap (pY (aD (pieces script)))) (Ev.bi T H K1 rfl (by decide +kernel)) (Ev.AH FL uu (Ev.global T K1 rfl r4) (.cons (Ev.global T K1 rfl H.put.name) (.cons (Ev.name K1 rfl) (.one (Ev.list (ds:=[]) ic.nil)))) (B7 (n:=n + 13) T H R hS hW (lK (Rg.oL jV hl)))) (fun x hx=>?_) ?_) ?_
  ·refine bQ (List.mem_flatMap.mp hx) fun k hk hx=>?_;exact Hp hS (hW k hk) x hx
  ·have:=wW hS hW;exact lK (Nat.le_trans this (Nat.mul_le_mul_left 7 (Rg.oL jV hl)))
  ·rw [Em]
 refine nh (tG (wG ((Ev.global (n:=n + 15) T K1 rfl H.read.name).pX _ _ _ _ _ s3 fV F3 fun s4 m4 F4=>?_)));refine ng rfl (gx ((ic.one Y8).CR _ _ _ _ _ s4 _ fV F4.pop fun v5 s5 m5 F5=>⟨?_,?_⟩))
 ·refine fF H.read.at' fun o' pm' cd' Y9 FL uu _=>?_;obtain ⟨adj,odict,odat,osl⟩:=o';cases uu;exact ⟨.frame,.inl rfl,(cT (part:=none) (F5.top _ _ FL)).andThen .now⟩
 refine ju F5.Ke fun oL Cl D5 W5 ht Sn hdE wk mh k_=>ea k_ fun LY back=>?_;have UW: ∀p∈Cl++[(P0,aT #[]),(P2,aT #[])],p.1≠L:=fun p hp=>by
  exact cE hp (fun hp=>mh p hp) fun hp=>Ne.symm (Sn p hp).1
 refine B3 (n:=n + 8) (outer:=[eg L af (.ref c0)]) T H B hS hW (lK (Rg.oL jV hl)) fV (by refine (?_:qI _ A.frames=_); rw [qy]; rfl) (fun env he=>?_) (fun p hp hm=>?_) W5 (ht (v5,_) (.head _)) fun r s6 D6 g m6 Sg W6 hD6 hr=>?_
 ·exact rf he (⟨by refine (?_:(aG 45).kind≠ .module); rw [show (aG 45).kind=.function from K1.kind]; decide,L,oL,rfl,.head _,fun vs z=>HQ hdE fun _ _ e=>nomatch e.symm.trans z⟩)
 ·exact bU hp (hdE) fun hp=>absurd (List.mem_singleton.mp hm) (UW p hp)
 have eq:(Cl++[(P0,aT #[]),(P2,aT #[])]).map g=Cl++[(P0,aT #[]),(P2,aT #[])]:=(Sg.sub fun p hp=>.tail _ hp).same fun p hp hm=>UW p hp (List.mem_singleton.mp hm);refine ex (Sg.on (L,oL) (.head _) (.head _)) fun slx hg2=>?_;have hg1:=Sg.fst (L,oL) (.head _);have YG:g (L,oL)=(L,{ oL with slots:=slx }):=Prod.ext hg1 hg2;rw [List.map_cons,eq] at W6;replace W6:au G (g (L,oL)::(Cl++[(P0,aT #[]),(P2,aT #[])])) D6 s6.heap:=W6;rw [YG] at W6;have F6:=back [(P0,aT #[]),(P2,aT #[])] { oL with slots:=slx } D6 s6.heap (fun p hp=>.inl ⟨p,hp,rfl⟩) nm rfl W6 hD6 [(r,.dat (.tuple [kL (aD (pieces script)) (pieces script).order,.str ue]))] (fun p hp=>by
  refine bU hp ?_ (fun hp=>?_)
  ·exact hr
  ·cases hp)
 have adn:=fV;refine (dm.Pu (n:=n + 15) (c:=dF L af (.ref c0)) (ρ:=B6 (pieces script) script) (x:="read") (y:="words") K1 (.inl rfl) (.inl rfl)).go _ _ _ _ _ s6 r fV (F6.temps (je:=[(r,.dat (.tuple [kL (aD (pieces script)) (pieces script).order,.str ue]))]) fun p hp=>rf hp (.head _)) fun s7 m7 F7=>?_;refine jb ?_;refine bD ((Y0 (n:=n + 14) T H K1 hq hl).go _ _ _ _ _ s7 fV F7 fun s8 m8 F8=>?_);refine bD ((Y3 (n:=n + 10) T H R K1 hq hl).go _ _ _ _ _ s8 fV F8 fun s9 m9 F9=>?_);refine bD (YZ (n:=n + 12) (script:=script) T H HL K1 hq hl fV (fun p hp=>rf hp (Ne.symm EP)) F9 fun M je Ou hJ Mw CC=>?_);refine bD ((Y4 (n:=n + 10) T H R K1 hq hl).go _ _ _ _ _ Ou fV CC fun Wj QK Ly=>?_);have hM: ∀p∈M,p.1=P0:=fun p hp=>by
  rcases hJ with ⟨rfl,_⟩ | ⟨_,_,rfl,_⟩ <;> exact rf hp rfl
 have Za:FS G (dF L af (.ref c0)) ⟨(P2,aT #[])::M,D⟩ (nJ (pieces script) script) (je++[]) Wj.heap:=Ly.gZ (fun p hp=>by
  exact bU hp (mR ((.head _))) fun hp=>mL hp) nm
 refine bD (Y5 (n:=n + 14) (script:=script) T H HC K1 hq hl fV (fun p hp=>by rw [hM p hp]; exact EP) Za fun cv Nr Sj Uo Lz=>?_);have Zb:FS G (dF L af (.ref c0)) ⟨M++[(P2,aT Nr)],D⟩ (Cb w mg (pieces script) script cv) (je++[]) Sj.heap:=Lz.gZ (fun p hp=>by
  exact cE hp (fun hp=>.tail _ hp) fun hp=>rf hp (.head _)) nm
 refine bD (Y6 (n:=n + 12) (script:=script) T H HL K1 hq hl fV (fun p hp=>rf hp (Ne.symm EP)) hJ Zb fun Ff s13 Us Ut=>?_);refine bD ((US (n:=n + 2) T H K1 hq hl).go _ _ _ _ _ s13 fV Ut fun s14 Yn Yo=>?_);refine bD (UT (n:=n) (script:=script) T H K1 hq hl fV Yo fun Yp s15 Yq Yr=>?_);refine iU Yr.leave fun D' W' BR h'=>?_;exact oE h' (hQ s15 D' Ff Nr (((((((((((((((Sb.trans m1).trans m2).trans m3).trans m4).trans m5).trans m6).trans m7).trans m8).trans m9).trans Mw).trans QK).trans Uo).trans Us).trans Yn).trans Yq) W' fun p hp=>BR p (Ge p hp))
end
end
section
open PySem.Builtin
noncomputable def fdOf (o:Obj):KW:=match o.data with | .func fd=>fd | _=>default
noncomputable def cS (K:Frag) (a:Addr):Obj:=(K.lookup a).getD default
noncomputable def rA:ai->Addr | .ref a=>a | _=>0
noncomputable def Zc (o:Obj):Array ai:=match o.data with | .fields vs=>vs | _=> #[]
noncomputable def tkS:ai->Tok | .str _ t=>t | _=>0
noncomputable def codeIn (K:Frag) (cd:ai) (q:Str):Prop:=cd=.ref (rA cd)/\K.lookup (rA cd)=some (cS K (rA cd))/\(cS K (rA cd)).data=.fields (Zc (cS K (rA cd)))/\(Zc (cS K (rA cd)))[1]? =some (.str q (tkS ((Zc (cS K (rA cd))).getD 1 .none)))
theorem zc {K:Frag} {q:Str} (X:K.In G) (e:codeIn K cd q):G.CodeRec cd q:=⟨_,_,_,_,e.1,X _ _ e.2.1,e.2.2.1,e.2.2.2⟩
section
variable {fs:Led} {K:Frag} {p:br} {loose:List Str}
theorem IK {b:Addr} (hf: ∀p∈fs,h.get? p.1=some p.2) (e:h.get? b=some o) (hn: ∀p∈fs,o.data≠p.2.data):(cB h (fs.map (·.1))).get? b=some o:=eL _ e fun hm=>by
 refine bQ (List.mem_map.mp hm) ?_; rintro p hp rfl;rw [hf p hp] at e;cases e;exact hn p hp rfl
noncomputable def UX (o:Obj):Prop:=(∃vs n,o.data=.seq vs n/\o.cls=.type "list")\/o=aT #[]
theorem Rd (hf: ∀p∈fs,h.get? p.1=some p.2) (hd: ∀p∈fs,UX p.2) (T:Top p loose SH mg mb h) (e:((recsOf p).find? (fun d=>d.name == x)).map (fun d=>(d.params,d.body,d.scope))=some (argsAt i,dh i,aG i)):Fn mg (cB h (fs.map (·.1))) x i:=by
 refine bQ (bg.mp e) fun d uu ed=>?_;have hn:d.name=x:=beq_iff_eq.mp (List.find?_some (p:=fun e:DefRec=>e.name == x) uu);obtain ⟨a,o,pm,cd,doc,h1,h2,h3,c,oc,vs,t,h4,h5,h6,h7⟩:=T.fn d (List.mem_of_find?_eq_some uu);rw [show d.params=argsAt i from congrArg (·.1) ed,show d.body=dh i from congrArg (·.2.1) ed,show d.scope=aG i from congrArg (·.2.2) ed,hn] at h3;rw [hn] at h1 h7;have ea:adr mg x=a:=by unfold adr; rw [h1]
 refine ⟨by rw [ea,h1],?_⟩;rw [ea];refine ⟨o,pm,cd,doc,IK hf h2 fun p hp q=>?_,h3,c,oc,vs,t,h4,IK hf h5 fun p hp q=>?_,h6,h7⟩
 ·rw [h3] at q;rcases hd p hp with ⟨vs,n,z,_⟩ | z
  ·rw [z] at q; cases q
  ·rw [z] at q; cases q
 ·rw [h6] at q;rcases hd p hp with ⟨vs,n,z,_⟩ | z
  ·rw [z] at q; cases q
  ·rw [z] at q; cases q; cases h7
noncomputable def FA (K:Frag) (ps:List Addr):Bool:=K.all fun p=>(match p.2.cls with | .type c=>c != "list" | _=>true) && !ps.contains p.1
theorem UY {ls:Addr} {ol:Obj} {ps:List Addr} (X:K.In h) (hl:h.get? ls=some ol) (hc:ol.cls=.type "list") (e:FA K ps=true):K.In (cB h (ls::ps)):=fun a o eo=>by
 have z:=List.all_eq_true.mp (show K.all _=true from e) (a,o) (PySem.W.mem_of_lookupK eo);refine ea (cP.mp z) fun z1 z2=>?_;refine eL _ (X a o eo) fun hm=>?_;rcases List.mem_cons.mp hm with rfl | hm
 ·have:=X _ _ eo;rw [hl] at this;cases this;rw [hc] at z1;exact absurd z1 (by decide)
 ·rw [List.contains_iff_mem.mpr hm] at z2;exact absurd z2 (by decide)
theorem Rf {pa:gK} {b:List Stmt} {sc:iK} {kV:ai} (X:K.In G) (e1:K.lookup a=some (cS K a)) (e2:(cS K a).data=.func (fdOf (cS K a))) (e3:fdOf (cS K a)={ docDef x pa b sc (fdOf (cS K a)).pyModule (fdOf (cS K a)).code (fdOf (cS K a)).doc with defaults:=dV,kwdefaults:=kV }) (e4:codeIn K (fdOf (cS K a)).code x):AM G a x pa b sc dV kV:=
 ⟨_,_,_,_,X _ _ e1,e2.trans (congrArg _ e3),zc X e4⟩
theorem KP {c:Addr} (H:Fn mg G x i) (X:K.In G) (e0:mg x=some (.ref a)) (e1:K.lookup a=some (cS K a)) (e2:(fdOf (cS K a)).code=.ref c):
  ∃o pm doc,G.get? (adr mg x)=some o/\o.data=.func (docDef x (argsAt i) (dh i) (aG i) pm (.ref c) doc)/\G.CodeRec (.ref c) x:=by
 refine fF H.at' fun o pm cd doc h1 h2 h3=>?_;have ea:adr mg x=a:=by unfold adr; rw [e0]
 rw [ea] at h1 ⊢;have:=X _ _ e1;rw [h1] at this;cases this;have z:fdOf (cS K a)=docDef x (argsAt i) (dh i) (aG i) pm cd doc:=by unfold fdOf; rw [h2]
 rw [z] at e2;cases (show cd=.ref c from e2);exact ⟨_,pm,doc,h1,h2,h3⟩
theorem KQ {ls P2 c0 c2:Addr} {ol:Obj} {Ff Nr:Array ai} (h1:h.get? P0=some (aT #[])) (h2:h.get? P2=some (aT #[])) (k1:iQ h c0 P0) (k2:iQ h c2 P2) (hl:h.get? ls=some ol) (W:au (cB h [ls,P0,P2]) [(P0,aT Ff),(P2,aT Nr)] D' h') (hm:(ls,ol)∈D'):OldK h h':=by
 have go: ∀b o,h.get? b=some o->h'.get? b=some o\/(isCodeTable h b/\o=aT #[]/\∃ps,h'.get? b=some (aT ps)):=fun b o e=>by
  by_cases q1:b=P0
  ·subst q1;rw [h1] at e; cases e;exact .inr ⟨(k1.tab h1).isCodeTable,rfl,Ff,(W.pin (b,aT Ff) (mR ((.head _)))).1⟩
  by_cases q2:b=P2
  ·subst q2;rw [h2] at e; cases e;exact .inr ⟨(k2.tab h2).isCodeTable,rfl,Nr,(W.pin (b,aT Nr) (mR ((.tail _ (.head _))))).1⟩
  by_cases q3:b=ls
  ·subst q3;rw [hl] at e; cases e;exact .inl (W.pin (b,ol) (mL hm)).1
  ·exact .inl (W.keep _ _ (eL _ e (by simp [q1,q2,q3])))
 refine ⟨fun b o e=>?_,fun b o e=>?_⟩
 ·rcases go b o e with z | ⟨z1,rfl,ps,z2⟩
  ·exact .inl z
  ·exact .inr (.inl ⟨z1,rfl, #[],ps,rfl,by rw [z2]; simp⟩)
 ·rcases go b o e with z | ⟨z1,rfl,ps,z2⟩
  ·exact ⟨_,z⟩
  ·exact ⟨_,z2⟩
theorem Eu {ls P2:Addr} {ol:Obj} (h1:h.get? P0=some (aT #[])) (h2:h.get? P2=some (aT #[])) (hl:h.get? ls=some ol) (n1:ls≠P0) (n2:ls≠P2):au (cB h [ls,P0,P2]) [(P0,aT #[]),(P2,aT #[])] [(ls,ol)] h:=by
 have W:au h [] [] h:=⟨fun _ _ e=>e,nm,nm,Nat.le_refl _⟩;have:=W.lower (fs:=[(ls,ol),(P0,aT #[]),(P2,aT #[])]) fun p hp=>by
  refine bU hp ?_ (fun hp=>?_)
  ·exact hl
  refine bU hp ?_ (fun hp=>?_)
  ·exact h1
  ·cases List.mem_singleton.mp hp; exact h2
 exact au.freeze this fun q hq=>by
  refine bU hq ?_ (fun hq=>?_)
  ·exact Ne.symm n1
  ·cases List.mem_singleton.mp hq; exact Ne.symm n2
noncomputable def wSh (P:VH) (h:Heap) (v:ai):O9->Prop
 | .int i=>∃t,v=.int i t
 | .list xs=>∃a vs,v=.ref a/\h.get? a=some (listOf (List.toArray vs) 0)/\HJ P h vs xs
 | _=>True
theorem OS {P:VH} {d:O9} (x:Well P h v d):wSh P h v d:=by
 cases x <;> first | exact ⟨_,rfl⟩ | exact ⟨_,_,rfl, ‹_›, ‹_›⟩ | exact trivial
theorem OT {P:VH} (x:HJ P h vs []):vs=[]:=by cases x; rfl
theorem KR {P:VH} {sc:List Int} (hw:HJ P h vs (sc.map .int)):dG D vs (sc.map .int):=by
 induction sc generalizing vs with
 | nil=>exact OT hw ▸ .nil
 | cons s sc ih=>exact qo (RV hw) fun v xB e h1 h2=>ex (OS h1) fun t e1=>e ▸ e1 ▸ .cons (.int _ _) (ih h2)
end
end
section
open PySem.Builtin
theorem KS {args:List O9} (h:Challenge.rw_kt0046_01.row.claim.pre args=true): ∃sc:List Int,args=[.list (sc.map .int)]/\sc.length<=63:=by
 refine ea (pre_splitW h) fun h1 h2=>?_;refine qo (hasAllW_cons h1) ?_; rintro d r rfl e1 e2;cases hasAllW_nil e2;refine bQ (hasW_list e1) ?_; rintro xs rfl e3;refine ex (items_int e3) ?_; rintro sc rfl;refine ⟨sc,rfl,?_⟩
 by_cases hl:sc.length<=63
 ·exact hl
 ·exfalso;have v1:=w_lt (R:=[]) (e:={ args:=[xr (sc.map .int)] }) (a:=.lit (.int 63)) (b:=.len (.arg 0)) (x:=63) (y:=((sc.map WData.int).length:Nat)) rfl rfl;rw [List.length_map,decide_eq_true (by exact cf.mpr (Nat.lt_of_not_le hl))] at v1;have v2:qL [] (.not (.lt (.lit (.int 63)) (.len (.arg 0)))) { args:=[xr (sc.map .int)] }=some (.bool false):=by rw [qL,v1]; rfl
  have v3:qL [] (.and (.not (.lt (.lit (.int 63)) (.len (.arg 0)))) (.lit (.bool true))) { args:=[xr (sc.map .int)] }=some (.bool false):=by rw [qL,v2]
  have PU:(WTm.and (.not (.lt (.lit (.int 63)) (.len (.arg 0)))) (.lit (.bool true))).holds [] { args:=[xr (sc.map .int)] }=true:=h2;rw [Lj,v3] at PU;cases PU
theorem Hs (as bs:List O9):Challenge.rw_kt0046_01.row.claim.post as (.bool true) bs=true:=by
 have v1:qL [] (.eq .res (.lit (.bool true))) { args:=as,res:=some (.bool true),after:=bs }=some (.bool true):=by
  rw [qL];refine (?_:some (WData.bool (Lk (.bool true) (.bool true)))=_);simp [Lk]
 refine (?_:(WShape.has [] (.bool true) .bool && Lj [] (.eq .res (.lit (.bool true))) { args:=as,res:=some (.bool true),after:=bs })=true);rw [Lj,v1]
 kernel_rfl
noncomputable def KU:List (Str × Nat):=[("fspath",16),("_get_sep",20),("join",21),("basename",22),("dirname",23),("commonpath",24),("_law_pieces",35),("_law_chain",36),("_law_put",37),("_law_read",38),("_law_ready",39),("_law_lay",40),("_law_step",41),("_law_below",42),("_law_compare",43),("_law_front",44),("read_uint1",6),("read_string1",7),("cmp_to_key",2),("_index",27),("law",45)]
noncomputable def Al {α:Type} (P:α->Prop):List α->Prop | []=>True | a::l=>P a/\Al P l
theorem Al.of {α:Type} {P:α->Prop} {l:List α} (h:Al P l): ∀x∈l,P x:=by
 induction l with
 | nil=>exact nm
 | cons a l ih=>exact fun x hx=>bU hx h.1 (ih h.2 x)
noncomputable def isF:Option (Option ai)->Bool | some none=>true | _=>false
theorem UZ {o:Option (Option ai)} (h:isF o=true):o=some none:=by
 cases o with
 | none=>cases h
 | some o=>cases o with
  | none=>rfl
  | some _=>cases h
noncomputable def Zd (V:br) (q:Str × Nat):Prop:=((recsOf V).find? (fun d=>d.name == q.1)).map (fun d=>(d.params,d.body,d.scope))=some (argsAt q.2,dh q.2,aG q.2)
theorem Nt {K:Frag} {n:Str} (X:K.In h) (G:h.Ns a m) (e:nsIn K a n=some none):m n=none:=by
 refine pH G ?_; clear G; rintro ⟨oc,od,dt,sl⟩ es ep ho hd _ hf;cases hd;cases q:K.lookup a with
 | none=>rw [nsIn,q] at e; cases e
 | some o'=>
  have z:=X _ _ q;rw [ho] at z;cases z;rw [nsIn,q] at e;cases q2:es.toList.find? (·.key.isStr n) with
  | some x=>
   have e':(match es.toList.find? (·.key.isStr n) with | some e=>some (some e.val) | none=>if es.toList.any (·.refKey) then none else some none)=some none:=e
   rw [q2] at e';cases e'
  | none=>
   rw [<- hf,nsFind,findBy, <- Array.find?_toList,q2]
   rfl
noncomputable def U0 (o:Obj):Tok:=match o.data with | .seq vs _=>(match vs.toList with | [.int _ t]=>t | _=>0) | _=>0
noncomputable def Nu (o:Obj):gQ:=match o.data with | .cls cd=>cd | _=>default
theorem Ze {K:Frag} (e1:K.lookup a=some (cS K a)) (e2:(cS K a).data=.cls (Nu (cS K a))) (e3:(Nu (cS K a)).abstract=false) (e4:(Nu (cS K a)).hasDel=false) (e5:(Nu (cS K a)).mro.isEmpty=false):
  ∃oc od cd sl,K.lookup a=some ⟨oc,od,.cls cd,sl⟩/\cd.abstract=false/\cd.hasDel=false/\cd.mro.isEmpty=false:=⟨_,_,_,_,e1.trans (by rw [<- e2]),e3,e4,e5⟩
theorem Zf {K:Frag} {n:Str} (e:(((nsIn K a n).getD none).isSome)=true): ∃v,nsIn K a n=some (some v):=by
 cases h:nsIn K a n with
 | none=>rw [h] at e; cases e
 | some o=>cases o with
  | none=>rw [h] at e; cases e
  | some v=>exact ⟨v,rfl⟩
theorem Zg {K:Frag} {n:String} (e:(Lf K a n).map List.head? =some (some v)): ∃rest,Lf K a n=some (v::rest):=by
 cases h:Lf K a n with
 | none=>rw [h] at e; cases e
 | some l=>cases l with
  | nil=>rw [h] at e; cases e
  | cons x r=>rw [h] at e; cases e; exact ⟨r,rfl⟩
theorem Zh {K:Frag} {vs:Array ai} (e1:K.lookup a=some (cS K a)) (e2:(cS K a).data=.seq vs n): ∃o n,K.lookup a=some o/\o.data=.seq vs n:=⟨_,_,e1,e2⟩
theorem Wq {K:Frag} {i:Int} (e1:K.lookup a=some (cS K a)) (e2:(cS K a).data=.seq #[.int i (U0 (cS K a))] n): ∃o t n,K.lookup a=some o/\o.data=.seq #[.int i t] n:=⟨_,_,_,e1,e2⟩
theorem Aq {K:Frag} {f:Addr} (X:K.In G) (e:K.lookup f=some (cS K f)/\(cS K f).data=.func (fdOf (cS K f))/\(fdOf (cS K f)).body=.stmts (wD i j)/\(fdOf (cS K f)).scope=cU i j/\(fdOf (cS K f)).globals=aO/\(fdOf (cS K f)).closure=[]/\(fdOf (cS K f)).qualname=qual/\(fdOf (cS K f)).params=oU i j/\(fdOf (cS K f)).defaults=dV/\(fdOf (cS K f)).kwdefaults=.none/\(fdOf (cS K f)).builtins=cu/\codeIn K (fdOf (cS K f)).code qual):JR G f qual i j dV:=
 zj e fun e1 e2 a1 a2 a3 a4 a5 a6 a7 a8 a9 e4=>.mk ⟨_,_,X _ _ e1,e2,a1,a2,a3,a4,a5,a6,a7,a8,a9,zc X e4⟩
theorem joined {V:br} {loose:List Str} {K:Frag} {bI:aj} {args:List O9} {vals:List ai} {cl:Str->Option Addr} {OU:ExcName->Option ai} (T:Top V loose SH mg mb bI.heap) (X:K.In bI.heap) (Nv:FA K [776,23]=true) (Rh: ∃v,nsIn K aO "__name__"=some (some v)) (U1:nsIn K jM "thirdparty.any"=some none) (Ri:CU.all (fun x=>isF (nsIn K aO x))=true) (U3:nsIn K aO "law"=some (some (.ref 779))) (Ar:K.lookup 779=some (cS K 779)/\(fdOf (cS K 779)).code=.ref 778/\VI K 778 776=true) (U4:nsIn K aO "cmp_to_key"=some (some (.ref 28))) (As:K.lookup 28=some (cS K 28)/\(fdOf (cS K 28)).code=.ref 27/\VI K 27 23=true) (tN:nsIn K aO "_initial_missing"=some (some (.ref 29))/\K.lookup 29=some (cS K 29)/\(match (cS K 29).cls with | .type c=>c != "tuple" | _=>true)=true) (w5:nsIn K aO "reduce"=some (some (.ref 37))) (Rj:K.lookup 37=some (cS K 37)) (Rk:(cS K 37).data=.func (fdOf (cS K 37))) (Rl:fdOf (cS K 37)={ docDef "reduce" (argsAt 4) (dh 4) (aG 4) (fdOf (cS K 37)).pyModule (fdOf (cS K 37)).code (fdOf (cS K 37)).doc with defaults:=.ref 30,kwdefaults:=.none }) (Rm:codeIn K (fdOf (cS K 37)).code "reduce") (Rn: ∃n,K.lookup 30=some { cls:=.type "tuple",data:=.seq #[.ref 29] n }) (U5:nsIn K aO "BytesIO"=some (some (.ref 465))) (U6: ∃v,nsIn K aO "StringIO"=some (some v)) (Zi: ∃oc od cd sl,K.lookup 465=some ⟨oc,od,.cls cd,sl⟩/\cd.abstract=false/\cd.hasDel=false/\cd.mro.isEmpty=false) (Ro:peek K ⟨pw,w.params⟩ (jX (.ref 465))=some none) (Rp:peek K ⟨pw,w.params⟩ (u7 (.ref 465))=some (.type "object")) (Ny:iJ K (.ref 465) "__call__"=some (some (.builtin "type.__call__"))) (U7:VB K (.ref 465) (.type "type")=some true) (Rq:mroIn K 465 (.type "object")=some true) (Rr:mroIn K 465 (.ref 465)=some true) (U8:jR K (.ref 465)=some (.type "type")) (Nz:readsIn K 465 (.type "type")=true) (Rt:findCls K (.ref 465) (.type "type") "__new__"=some (.get (.builtin "staticmethod.__get__") (.ref 209) .none (.ref 465))) (Ru: ∃rest,Lf K 209 "staticmethod"=some (.ref 205::rest)) (NB:ye K (.ref 465)=true) (NC:ye K (.ref 389)=true) (ND:ye K (.ref 259)=true) (Rv:fZ K (.ref 465) "__init__"=some (some (.ref 252))) (U9:jR K (.ref 252)=some (.type "function")) (Ht:fZ K (.ref 465) "__setattr__"=some (some (.builtin "object.__setattr__"))) (NF:FH K 465=true) (NG:xo K 465 "_BytesIO__buf"=some none) (NH:xo K 465 "_BytesIO__pos"=some none) (Rw:hasDictIn K 465=true) (Zj:Cy K 465 ""=true) (Rx:fZ K (.ref 465) "_BytesIO__buf"=some none) (Ry:fZ K (.ref 465) "_BytesIO__pos"=some none) (NI:fZ K (.ref 465) "read"=some (some (.ref 389))) (Va:jR K (.ref 389)=some (.type "function")) (Rz:fZ K (.ref 465) "_BytesIO__check"=some (some (.ref 259))) (Vb:jR K (.ref 259)=some (.type "function")) (NJ:Al (fun q:Addr × Str × Nat × Nat × ai=>K.lookup q.1=some (cS K q.1)/\(cS K q.1).data=.func (fdOf (cS K q.1))/\(fdOf (cS K q.1)).body=.stmts (wD q.2.2.1 q.2.2.2.1)/\(fdOf (cS K q.1)).scope=cU q.2.2.1 q.2.2.2.1/\(fdOf (cS K q.1)).globals=aO/\(fdOf (cS K q.1)).closure=[]/\(fdOf (cS K q.1)).qualname=q.2.1/\(fdOf (cS K q.1)).params=oU q.2.2.1 q.2.2.2.1/\(fdOf (cS K q.1)).defaults=q.2.2.2.2/\(fdOf (cS K q.1)).kwdefaults=.none/\(fdOf (cS K q.1)).builtins=cu/\codeIn K (fdOf (cS K q.1)).code q.2.1) [(205,"IOBase.__new__",29,1,.none),(252,"BytesIO.__init__",32,1,.ref 245),(259,"BytesIO.__check",32,2,.none),(389,"BytesIO.read",32,20,.ref 382)]) (Zk: ∃o n,K.lookup 245=some o/\o.data=.seq #[.none] n) (Zl: ∃o t n,K.lookup 382=some o/\o.data=.seq #[.int (-1) t] n) (FO:Al (Zd V) KU) (t1:bI.heap.get? 776=some (aT #[])) (t2:bI.heap.get? 23=some (aT #[])) (hmg:mg "law"=some (.ref fa)) (hg:bI.gens= #[]) (GV:Challenge.rw_kt0046_01.row.claim.pre args=true) (Q7:HJ w.params bI.heap vals args):
  wpS (aq pw w) O7 (call (.ref fa) vals) (fun v s'=>VE Challenge.rw_kt0046_01.row.claim cl OU args bI (.ok (.ret v)) s') (fun e s'=>VE Challenge.rw_kt0046_01.row.claim cl OU args bI (.error e) s') bI:=by
 refine bQ (KS GV) ?_; rintro sc rfl hlen;have Qp: ∃v0,mg "__name__"=some v0:=let ⟨v,e⟩:=Rh;⟨v,FJ X T.g e⟩
 have Fe: ∃mc,bI.heap.Ns jM mc/\mc "thirdparty.any"=none:=let ⟨mc,h1,_⟩:=T.nodigits;⟨mc,h1,Nt X h1 U1⟩
 refine qo (RV Q7) fun v vs0 ev hw1 hw2=>qo (OS hw1) fun ls vs el hl hws=>?_;have e0:vals=[.ref ls]:=ev.trans (by rw [OT hw2,el]);clear ev hw1 hw2 Q7 el;subst e0;have hf: ∀p∈ ([(ls,listOf vs.toArray 0),(776,aT #[]),(23,aT #[])]:Led),bI.heap.get? p.1=some p.2:=fun p hp=>by
  rcases List.mem_cons.mp hp with rfl | hp
  ·exact hl
  rcases List.mem_cons.mp hp with rfl | hp
  ·exact t1
  ·cases List.mem_singleton.mp hp; exact t2
 have hd: ∀p∈ ([(ls,listOf vs.toArray 0),(776,aT #[]),(23,aT #[])]:Led),UX p.2:=fun p hp=>by
  rcases List.mem_cons.mp hp with rfl | hp
  ·exact .inl ⟨_,_,rfl,rfl⟩
  rcases List.mem_cons.mp hp with rfl | hp
  ·exact .inr rfl
  ·cases List.mem_singleton.mp hp; exact .inr rfl
 have fn: ∀{x:Str} {i:Nat},KU.lookup x=some i->Fn mg (cB bI.heap [ls,776,23]) x i:=fun {x i} hm=>Rd hf hd T (FO.of (x,i) (mem_of_lookupK hm));have XG:K.In (cB bI.heap [ls,776,23]):=UY X hl rfl Nv;have T0:bL mg mb bI.heap:=⟨T.g,T.b,T.nolimit,T.nodigits,T.builtins⟩;have TG:bL mg mb (cB bI.heap [ls,776,23]):=T0.hide fun p hp=>⟨hf p hp,fun es ep q=>by
  rcases hd p hp with ⟨vs,n,z,_⟩ | z
  ·rw [z] at q; cases q
  ·rw [z] at q; cases q⟩
 have H:Prog mg (cB bI.heap [ls,776,23]):=⟨fun x hx=>mg_none_of X T.g (UZ (List.all_eq_true.mp Ri x hx)),fn (by decide +kernel),fn (by decide +kernel),fn (by decide +kernel),fn (by decide +kernel),fn (by decide +kernel),fn (by decide +kernel),fn (by decide +kernel),fn (by decide +kernel),fn (by decide +kernel),fn (by decide +kernel),fn (by decide +kernel),fn (by decide +kernel),fn (by decide +kernel),fn (by decide +kernel),fn (by decide +kernel),fn (by decide +kernel),fn (by decide +kernel),fn (by decide +kernel),fn (by decide +kernel)⟩;have OV: ∀{x:Str} {a:Addr},nsIn K aO x=some (some (.ref a))->adr mg x=a:=fun e=>by unfold adr; rw [FJ X T.g e]
 have R:Red mg (cB bI.heap [ls,776,23]):=by
  refine ex Rn fun nn e5=>?_;refine .mk ⟨29,cS K 29,30,_,nn,FJ X T.g tN.1,XG _ _ tN.2.1,fun q=>?_,?_,?_,XG _ _ e5,rfl,rfl⟩
  ·have z:=tN.2.2;rw [q] at z;exact absurd z (by decide)
  ·rw [OV w5];exact FJ X T.g w5
  ·rw [OV w5];exact Rf XG Rj Rk Rl Rm
 have Vc: ∀{c P:Addr},VI K c P=true->P∈[776,23]->TopC mg (cB bI.heap [ls,776,23]) c P:=fun {c P} e hP=>by
  refine kF T.bmain fun bm ob b1 b2 b3 b4 b5 b6=>?_;refine ⟨⟨bm,ob,b1,b2,IK hf b3 fun p hp q=>?_,b4,b5,b6⟩,Qp,?_,Ll XG e,qm _ (.tail _ hP)⟩
  ·rw [b6] at q;rcases hd p hp with ⟨vs,n,z,_⟩ | z
   ·rw [z] at q; cases q
   ·rw [z] at q; cases q
  ·refine bQ Fe ?_; clear Fe; rintro mc ⟨o,es,ep,a1,a2,a3⟩ h;refine ⟨mc,⟨o,es,ep,IK hf a1 fun p hp q=>?_,a2,a3⟩,h⟩;rw [a2] at q;rcases hd p hp with ⟨vs,n,z,_⟩ | z
   ·rw [z] at q; cases q
   ·rw [z] at q; cases q
 have HL:=Vc Ar.2.2 (.head _);have HC:KL mg (cB bI.heap [ls,776,23]) 27 23:=⟨Vc As.2.2 (.tail _ (.head _)),H.bi _ (by decide +kernel),KP (fn (by decide +kernel)) XG (FJ X T.g U4) As.1 As.2.1⟩;refine jt (KP (fn (x:="law") (i:=45) (by decide +kernel)) XG (FJ X T.g U3) Ar.1 Ar.2.1) fun o pm doc ho Sn sI=>?_;have efa:adr mg "law"=fa:=by unfold adr; rw [hmg]
 rw [efa] at ho;have B:lU pw w (cB bI.heap [ls,776,23]) mg K 465 209 205 252 259 389 245 382:=by
  refine Ia Zi fun oc od cd sl c1 c2=>?_;refine ex U6 fun sv sio=>?_;refine nV Zk fun oI nI i1 i2=>?_;refine oz Zl fun oR tR nR r1 r2=>?_;exact ⟨XG,FJ X T.g U5,H.bi _ (by decide +kernel),by rw [FJ X T.g sio]; nofun,fn (by decide +kernel),⟨oc,od,cd,sl,XG _ _ c1,c2⟩,LG XG Ro,LG XG Rp,Ny,U7,Rq,Rr,U8,Nz,Rt,Ru,NB,NC,ND,Rv,U9,Ht,NF,NG,NH,Rw,Zj,Rx,Ry,NI,Va,Rz,Vb,
   Aq XG NJ.1,Aq XG NJ.2.1,Aq XG NJ.2.2.1,Aq XG NJ.2.2.2.1,⟨oI,nI,XG _ _ i1,i2⟩,⟨oR,tR,nR,XG _ _ r1,r2⟩⟩
 have n1:ls≠776:=fun q=>by rw [q] at hl; rw [t1] at hl; cases hl
 have n2:ls≠23:=fun q=>by rw [q] at hl; rw [t2] at hl; cases hl
 refine Nq (n:=40) (script:=sc) (lK hlen) TG H R B HL HC ho Sn sI ⟨rfl,by decide,by decide⟩ rfl (by decide) (Eu t1 t2 hl n1 n2) (.list (.head _) (KR hws)) fun s' D' Ff Nr sm W hD=>?_;refine ⟨.inl ⟨.bool true,.bool true,[],rfl,fun _=>rfl,.bool _,Hs _ _,fun _=>⟨List.nodup_nil,nm⟩⟩,KQ t1 t2 (Ll X Ar.2.2) (Ll X As.2.2) hl W (hD _ (.head _)),sm.os,?_⟩;rw [sm.gens,hg];exact fun x hx=>by simp at hx
end
end Rg
namespace RgH
open PySem PySem.W PyProof.Rows
theorem PySem.W.holds_open {r:OpenRow} {q:Program} {loose:List Str} {Xt:Shared->Bool} {XP:(Str->Option Value)->Heap->Prop} {α:Type} {Yf:Shared->α} {Ya:World->α} {YP:World->Heap->Prop} {d:DefRec} {kwd:List (Str × Expr)} {N:Nat}
  (left:LeftO r.prog q loose Xt Yf Ya N) (hY: ∀w s,Yf s=Ya w->YP w s.heap) (hYk: ∀w h h',YP w h->(∀b o,h.get? b=some o->h'.get? b=some o)->YP w h')
  (hX: ∀s,Xt s=true->XP (s.heap.nsMap mainGlobals) s.heap) (hXk: ∀mg h h',XP mg h->(∀b o,h.get? b=some o->h'.get? b=some o)->XP mg h')
  (hdef:defOf q r.name=some (d,kwd)) (hp:r.prog.theDef r.name=some (d.params,d.body,d.scope)) (hk:kwWritten? d.params.kwonlyargs d.params.kw_defaults=some kwd) (hRf: ∀s,Xt s=true->RecFacts r.records s.heap) (hwr:(!r.writes || r.records.isEmpty)=true)
  (k1:r.wellSaid=true) (ok:(chainsOk q && opensWell r.prog && (frees r.toRowW && r.within.isEmpty))=true) (hb:r.prog.bare) (hw:r.toRowW.promised)
  (call:Rg.Ui q loose XP YP r.toRowW d kwd):r.Holds:=Rg.Yi left hY hYk hX hXk hdef hp hk hRf hwr k1 ok hb hw call
namespace main
abbrev P:=True
theorem a:P:=⟨⟩
theorem tw14706929985436491170:P:=a
theorem tw17004334600353380458:P:=a
theorem tw6878766463171384598:P:=a
theorem tw9831465186240312010:P:=a
theorem tw13107876379453385:P:=a
theorem tw7508679614606010400:P:=a
theorem tw2303936458052922878:P:=a
theorem tw6768925859622915509:P:=a
theorem tw16509014682039917331:P:=a
theorem tw7934983364559989280:P:=a
theorem tw3222325415282177453:P:=a
theorem tw303423616712706535:P:=a
theorem tw11270929866712027760:P:=a
theorem tw16784413909039612583:P:=a
theorem tw8479968235142633859:P:=a
theorem tw14856812656304151758:P:=a
theorem tw1622241816166791449:P:=a
theorem tw13704073743593111831:P:=a
theorem tw16651074185160827759:P:=a
theorem tw3337120987406484974:P:=a
theorem tw8703569828542572145:P:=a
theorem tw16119666922506625207:P:=a
theorem tw10009007231283925275:P:=a
theorem tw10052738112571191606:P:=a
theorem tw10054149988662090179:P:=a
theorem tw10073082849009415986:P:=a
theorem tw1007860731390296411:P:=a
theorem tw10078802749259586517:P:=a
theorem tw1008619716548959420:P:=a
theorem tw10102376025884955959:P:=a
theorem tw10110462689670688486:P:=a
theorem tw10121383496059447418:P:=a
theorem tw10122998573217240265:P:=a
theorem tw10163767021382201144:P:=a
theorem tw10226736002822295094:P:=a
theorem tw10255673380481284900:P:=a
theorem tw10302692728156366173:P:=a
theorem tw10310022732012087777:P:=a
theorem tw10347724296758506235:P:=a
theorem tw10349976121017676842:P:=a
theorem tw10352581573903963524:P:=a
theorem tw10421166485061339968:P:=a
theorem tw10421179276419171969:P:=a
theorem tw10442638253556840124:P:=a
theorem tw10460663377625449161:P:=a
theorem tw10464345818954386156:P:=a
theorem tw10466713934405709180:P:=a
theorem tw10478196810312500637:P:=a
theorem tw10485763739323812432:P:=a
theorem tw1049178652666992428:P:=a
theorem tw10496310812156408893:P:=a
theorem tw1052051399510857799:P:=a
theorem tw10525866452304724039:P:=a
theorem tw10532650193580470455:P:=a
theorem tw1053747869440939895:P:=a
theorem tw10541274671536653727:P:=a
theorem tw10560577257446036480:P:=a
theorem tw10562129832191924946:P:=a
theorem tw10610234705810853588:P:=a
theorem tw10627760428504778677:P:=a
theorem tw10638620605394900493:P:=a
theorem tw10641856528318839368:P:=a
theorem tw1065954889290550729:P:=a
theorem tw10704904540509777285:P:=a
theorem tw10718924901952785688:P:=a
theorem tw10761481907798056328:P:=a
theorem tw10778533655411365087:P:=a
theorem tw10788553923674012107:P:=a
theorem tw10803955557184375134:P:=a
theorem tw10807608374620198868:P:=a
theorem tw1085720134417425612:P:=a
theorem tw10896615282792056203:P:=a
theorem tw10974654261750446129:P:=a
theorem tw11055443933801450549:P:=a
theorem tw11056334810074423137:P:=a
theorem tw11082650945524474819:P:=a
theorem tw11085121651722988477:P:=a
theorem tw11101008225759863422:P:=a
theorem tw11104897423625088732:P:=a
theorem tw11116840555583233698:P:=a
theorem tw11125530760709734308:P:=a
theorem tw11132731570297585299:P:=a
theorem tw11134669057379164169:P:=a
theorem tw11158502456401623251:P:=a
theorem tw11161958566430149988:P:=a
theorem tw1117337960230040687:P:=a
theorem tw11186969631445802708:P:=a
theorem tw11188334006355268266:P:=a
theorem tw11213843803737759648:P:=a
theorem tw11222820831790963355:P:=a
theorem tw11244089855592741204:P:=a
theorem tw11333556243132994451:P:=a
theorem tw11334098746693147818:P:=a
theorem tw11343904985246601912:P:=a
theorem tw11355009992243898345:P:=a
theorem tw11369020962409393906:P:=a
theorem tw11382790014827649208:P:=a
theorem tw11433240899718787916:P:=a
theorem tw11497992778866772665:P:=a
theorem tw11500090250160387904:P:=a
theorem tw11545724130883951743:P:=a
theorem tw11580581035628546696:P:=a
theorem tw11592414937291904434:P:=a
theorem tw11593250803461728835:P:=a
theorem tw11625992957451863650:P:=a
theorem tw11638900654190213508:P:=a
theorem tw11642403669677420961:P:=a
theorem tw11703837074536636319:P:=a
theorem tw11706589520448241634:P:=a
theorem tw11709575626294292688:P:=a
theorem tw11728073420090834323:P:=a
theorem tw11813316476275584322:P:=a
theorem tw11824731998973958513:P:=a
theorem tw11834152798012879629:P:=a
theorem tw11845385150108730876:P:=a
theorem tw11894861153243491304:P:=a
theorem tw11905982465553075988:P:=a
theorem tw11916318462643498241:P:=a
theorem tw11931125920089008026:P:=a
theorem tw11960846275098899510:P:=a
theorem tw11969164788584017445:P:=a
theorem tw11970623868334763282:P:=a
theorem tw11991553935260473577:P:=a
theorem tw12021899009506474565:P:=a
theorem tw12058235878235400650:P:=a
theorem tw1215790990271842771:P:=a
theorem tw12162851241180811119:P:=a
theorem tw12173327662446826808:P:=a
theorem tw1223167790366441454:P:=a
theorem tw12315389608189675764:P:=a
theorem tw12321107479838056287:P:=a
theorem tw12369868975283294540:P:=a
theorem tw12401601931924657662:P:=a
theorem tw12418180416018579259:P:=a
theorem tw12453966213043814180:P:=a
theorem tw12465217620704307140:P:=a
theorem tw12466460365270490911:P:=a
theorem tw12481380697092414706:P:=a
theorem tw12489556475358483129:P:=a
theorem tw12551269279334416610:P:=a
theorem tw12569257167325221709:P:=a
theorem tw12582379808126871727:P:=a
theorem tw12679331317781656546:P:=a
theorem tw12727843931106624004:P:=a
theorem tw12729756369214144211:P:=a
theorem tw1276504715345913249:P:=a
theorem tw1277055982005494591:P:=a
theorem tw12803447875519692190:P:=a
theorem tw12834162267842868852:P:=a
theorem tw1283585998338625965:P:=a
theorem tw1290522405752679072:P:=a
theorem tw12911806841752928128:P:=a
theorem tw12919650474630968544:P:=a
theorem tw12941627359265844963:P:=a
theorem tw12947154428060473195:P:=a
theorem tw12948016041047948547:P:=a
theorem tw12951654562091397157:P:=a
theorem tw12955245242017325051:P:=a
theorem tw12985164081007762302:P:=a
theorem tw13019874274020762754:P:=a
theorem tw13023335433578844173:P:=a
theorem tw13057210407203871801:P:=a
theorem tw13081909420121363805:P:=a
theorem tw13092343469614466176:P:=a
theorem tw13092441397612614601:P:=a
theorem tw13138949787851660321:P:=a
theorem tw1317873918772168636:P:=a
theorem tw13271725607070401310:P:=a
theorem tw13367268850825950863:P:=a
theorem tw13387185338171292143:P:=a
theorem tw13451581469378425567:P:=a
theorem tw13480640559102592380:P:=a
theorem tw13490696416392248093:P:=a
theorem tw13493693802937195790:P:=a
theorem tw13537618793409155383:P:=a
theorem tw1357309957302111061:P:=a
theorem tw13581888761562517683:P:=a
theorem tw13598552752505737339:P:=a
theorem tw1360259061470880585:P:=a
theorem tw13642668461245726622:P:=a
theorem tw13676595022151047060:P:=a
theorem tw13700099899740998640:P:=a
theorem tw13702345843955636163:P:=a
theorem tw13702979327814702498:P:=a
theorem tw13820410002010528067:P:=a
theorem tw13842239060639744801:P:=a
theorem tw13881401325465618640:P:=a
theorem tw13909561883890957869:P:=a
theorem tw13912015218901837747:P:=a
theorem tw13925475603565430261:P:=a
theorem tw13953566855834757684:P:=a
theorem tw1397537395482499355:P:=a
theorem tw13988997282569659617:P:=a
theorem tw13995653652102642900:P:=a
theorem tw14019003784394759335:P:=a
theorem tw14030753575885097057:P:=a
theorem tw14046168775693185573:P:=a
theorem tw14104547325172188520:P:=a
theorem tw14118975658866801148:P:=a
theorem tw14139931461421063798:P:=a
theorem tw14189652039253001791:P:=a
theorem tw14198560991142426242:P:=a
theorem tw14204997173245541709:P:=a
theorem tw14275631311307677521:P:=a
theorem tw14309383075825353414:P:=a
theorem tw1432109198225513269:P:=a
theorem tw14352932481035916337:P:=a
theorem tw14394018768188914832:P:=a
theorem tw14415594332320628368:P:=a
theorem tw14488433449702550471:P:=a
theorem tw14500917737155824010:P:=a
theorem tw14530936668488751013:P:=a
theorem tw14560276847892767731:P:=a
theorem tw14595016656905848392:P:=a
theorem tw14605363792604882610:P:=a
theorem tw14626187602205302249:P:=a
theorem tw14691563594471302469:P:=a
theorem tw14711584095616190599:P:=a
theorem tw1472617736838921964:P:=a
theorem tw14763650289560248146:P:=a
theorem tw1483668425964352442:P:=a
theorem tw14845820437890676427:P:=a
theorem tw14855515906584347182:P:=a
theorem tw14859082580434722475:P:=a
theorem tw14878380380324763774:P:=a
theorem tw14899994814439758064:P:=a
theorem tw14915098013405825019:P:=a
theorem tw1492286803747607930:P:=a
theorem tw14953903778158002240:P:=a
theorem tw14982080951032946186:P:=a
theorem tw15030090598450494679:P:=a
theorem tw15034953544732990461:P:=a
theorem tw15039482833045416094:P:=a
theorem tw15042215579898843383:P:=a
theorem tw15083883776144368363:P:=a
theorem tw15085585836052952095:P:=a
theorem tw15105198447007555720:P:=a
theorem tw15114644852527080044:P:=a
theorem tw15172897285935591205:P:=a
theorem tw1532395876479511993:P:=a
theorem tw15405378569663857222:P:=a
theorem tw1543069185816705473:P:=a
theorem tw15444917979711772740:P:=a
theorem tw15461683794863928011:P:=a
theorem tw1548876382904487154:P:=a
theorem tw15495937328838178874:P:=a
theorem tw1550312491483551718:P:=a
theorem tw15511882551086946017:P:=a
theorem tw15528460902585323791:P:=a
theorem tw15570592962648946013:P:=a
theorem tw15591523076198101388:P:=a
theorem tw15592591454352355256:P:=a
theorem tw15598050357655322986:P:=a
theorem tw15630298419096810068:P:=a
theorem tw15693284307224511003:P:=a
theorem tw15693954678300973479:P:=a
theorem tw15695787030110678290:P:=a
theorem tw15701017527301669625:P:=a
theorem tw15701805702519141424:P:=a
theorem tw15704991925940499646:P:=a
theorem tw1573105625308021778:P:=a
theorem tw15732702412712731905:P:=a
theorem tw15744093144059629317:P:=a
theorem tw15749675566799920536:P:=a
theorem tw15767302783543381541:P:=a
theorem tw157711721167927934:P:=a
theorem tw1581150293828655259:P:=a
theorem tw15815171117032551029:P:=a
theorem tw15851198858438644859:P:=a
theorem tw15896466567298374578:P:=a
theorem tw15907669452873539958:P:=a
theorem tw15925875359513007951:P:=a
theorem tw16001186544783192884:P:=a
theorem tw16047327146875098138:P:=a
theorem tw16049324926740660464:P:=a
theorem tw16056732076752398199:P:=a
theorem tw16099586360080685249:P:=a
theorem tw16133845534167060244:P:=a
theorem tw16151282779514701206:P:=a
theorem tw16163687026472733778:P:=a
theorem tw16168126218349571692:P:=a
theorem tw16232409062333157726:P:=a
theorem tw16279429437686462381:P:=a
theorem tw1630370117773840538:P:=a
theorem tw16313365646492882083:P:=a
theorem tw16316666224952839169:P:=a
theorem tw16324079566331000115:P:=a
theorem tw16324154366916447392:P:=a
theorem tw16379655877414243254:P:=a
theorem tw16387122471613448311:P:=a
theorem tw16396712175707028089:P:=a
theorem tw16502811906771835662:P:=a
theorem tw16530023425288863467:P:=a
theorem tw16550875344987477113:P:=a
theorem tw16555252257976080401:P:=a
theorem tw16557240634901555745:P:=a
theorem tw16593221160856837217:P:=a
theorem tw16632888090444741932:P:=a
theorem tw16662936958844722822:P:=a
theorem tw16813859972488942321:P:=a
theorem tw16864729137156282443:P:=a
theorem tw1690354884490438357:P:=a
theorem tw16905444331384020989:P:=a
theorem tw16910216940687479734:P:=a
theorem tw16910226911394805259:P:=a
theorem tw1691946909692200329:P:=a
theorem tw16932959147716222929:P:=a
theorem tw16948877662381508131:P:=a
theorem tw16959600682430932154:P:=a
theorem tw16995374901555837395:P:=a
theorem tw17002323783053009562:P:=a
theorem tw17055674208030075477:P:=a
theorem tw17090473821264608337:P:=a
theorem tw17094929334483896693:P:=a
theorem tw17101780168121181997:P:=a
theorem tw17102788325566268940:P:=a
theorem tw1714073927226747473:P:=a
theorem tw17179965720751604110:P:=a
theorem tw17215825840187776809:P:=a
theorem tw17269646749713890536:P:=a
theorem tw17336525548191875004:P:=a
theorem tw17371350721216648187:P:=a
theorem tw17372949792342252329:P:=a
theorem tw17374824522603270853:P:=a
theorem tw17424386727341218163:P:=a
theorem tw17438634231542367878:P:=a
theorem tw17447056597558595503:P:=a
theorem tw17483559079311762043:P:=a
theorem tw17513797551207895922:P:=a
theorem tw17516775908388345401:P:=a
theorem tw17620766260732704169:P:=a
theorem tw17636944881272036477:P:=a
theorem tw17641516270086330395:P:=a
theorem tw17656631625652003261:P:=a
theorem tw17675540289416362192:P:=a
theorem tw17680197181698779577:P:=a
theorem tw17736328973768279903:P:=a
theorem tw17771768042078593880:P:=a
theorem tw17781438967988219941:P:=a
theorem tw17851219373936417302:P:=a
theorem tw1786923640356511325:P:=a
theorem tw17897386301912972298:P:=a
theorem tw17909052834667263790:P:=a
theorem tw17927844578285161863:P:=a
theorem tw17965372265353872053:P:=a
theorem tw1798228472201214336:P:=a
theorem tw18024856076149865462:P:=a
theorem tw18030831596407361343:P:=a
theorem tw18043340866899907434:P:=a
theorem tw18062737250407655949:P:=a
theorem tw18075939164342289718:P:=a
theorem tw18077681398996774878:P:=a
theorem tw18099254885153256433:P:=a
theorem tw18100861154253213706:P:=a
theorem tw18102465806164301024:P:=a
theorem tw18109240216442064307:P:=a
theorem tw18155581073682948092:P:=a
theorem tw18166181890742117140:P:=a
theorem tw18174165119132891457:P:=a
theorem tw1821582376174827173:P:=a
theorem tw18226759136693744465:P:=a
theorem tw18228019839458336723:P:=a
theorem tw18260124095727983165:P:=a
theorem tw18274090327889602050:P:=a
theorem tw18287068266029243704:P:=a
theorem tw18309450420189414114:P:=a
theorem tw18345725682182736350:P:=a
theorem tw18347678968890710277:P:=a
theorem tw1837944642465874284:P:=a
theorem tw18410253180686980300:P:=a
theorem tw1859622670894151393:P:=a
theorem tw187857373123461436:P:=a
theorem tw192667626317351572:P:=a
theorem tw195124447386599540:P:=a
theorem tw1964574986776757611:P:=a
theorem tw1971381829099626513:P:=a
theorem tw1975125788604938511:P:=a
theorem tw2068049272294872731:P:=a
theorem tw2102836325951623920:P:=a
theorem tw2103445477369341839:P:=a
theorem tw211398711305500207:P:=a
theorem tw2178194976472002803:P:=a
theorem tw2193981333328494864:P:=a
theorem tw2228563479227540694:P:=a
theorem tw2269043036968417039:P:=a
theorem tw2289640825305982473:P:=a
theorem tw229844658127419098:P:=a
theorem tw2343276867838860499:P:=a
theorem tw2372194246281337400:P:=a
theorem tw2383722770991647586:P:=a
theorem tw2391206959951779554:P:=a
theorem tw2394848123479246569:P:=a
theorem tw2402846704908666075:P:=a
theorem tw2414950807684931986:P:=a
theorem tw2432610267699250785:P:=a
theorem tw2434691345067511131:P:=a
theorem tw2497621724168558673:P:=a
theorem tw2512115429759586144:P:=a
theorem tw2519149794884528279:P:=a
theorem tw2523863216688994066:P:=a
theorem tw2536265269682914100:P:=a
theorem tw2541578940042136764:P:=a
theorem tw2541783562600206522:P:=a
theorem tw2551566235182381796:P:=a
theorem tw2574891436938902352:P:=a
theorem tw2589243240480510000:P:=a
theorem tw2610933726784763778:P:=a
theorem tw2640038298650964797:P:=a
theorem tw2644794361619187888:P:=a
theorem tw2662596716262450785:P:=a
theorem tw2683365318244801628:P:=a
theorem tw2685016164374757600:P:=a
theorem tw2693222045471759922:P:=a
theorem tw2701133197312462517:P:=a
theorem tw2746195955727753729:P:=a
theorem tw2826253232256033306:P:=a
theorem tw2847732794728218880:P:=a
theorem tw2877302366390235269:P:=a
theorem tw289028959936491217:P:=a
theorem tw2925607247801160750:P:=a
theorem tw2939057257819211322:P:=a
theorem tw2945704377636551823:P:=a
theorem tw2958713772156067791:P:=a
theorem tw2976284721778746529:P:=a
theorem tw3013398387421051330:P:=a
theorem tw3056985414188772742:P:=a
theorem tw3072336744697045222:P:=a
theorem tw3083645884812499872:P:=a
theorem tw3140738867199954422:P:=a
theorem tw3148202606165994140:P:=a
theorem tw3165048753374246394:P:=a
theorem tw3184649084506275758:P:=a
theorem tw3214003212415292429:P:=a
theorem tw3220801412338744960:P:=a
theorem tw3274831132912601010:P:=a
theorem tw334255588186583597:P:=a
theorem tw3346746467825653568:P:=a
theorem tw3369132436831997330:P:=a
theorem tw3377906738059305662:P:=a
theorem tw3390169437638443115:P:=a
theorem tw340220469373288431:P:=a
theorem tw3416647272298503389:P:=a
theorem tw3453185303388701743:P:=a
theorem tw3453431118990563329:P:=a
theorem tw346490459455086126:P:=a
theorem tw3484831333113442833:P:=a
theorem tw3519035235695020146:P:=a
theorem tw3578855491826869851:P:=a
theorem tw3580680396830431855:P:=a
theorem tw3590092106255204938:P:=a
theorem tw3596093450275297206:P:=a
theorem tw3602338977301561686:P:=a
theorem tw3617060518867745422:P:=a
theorem tw3728551910509662610:P:=a
theorem tw3758082837116949305:P:=a
theorem tw3768293753855402841:P:=a
theorem tw377768470454829849:P:=a
theorem tw3906368000072921857:P:=a
theorem tw3921970678246392862:P:=a
theorem tw392308398611543092:P:=a
theorem tw3937915798996305534:P:=a
theorem tw3968471138729301151:P:=a
theorem tw3999155132338687961:P:=a
theorem tw4001867977030932565:P:=a
theorem tw4007180858768516315:P:=a
theorem tw4055552181513255347:P:=a
theorem tw4076747970302224470:P:=a
theorem tw4079893749908813938:P:=a
theorem tw4083851931386529354:P:=a
theorem tw4084710619205701359:P:=a
theorem tw4110769131115155903:P:=a
theorem tw4133708632271839470:P:=a
theorem tw4144458210038022276:P:=a
theorem tw414774088180875747:P:=a
theorem tw4167051397928783415:P:=a
theorem tw4191907720585579212:P:=a
theorem tw4206674384354885810:P:=a
theorem tw4217722031661867368:P:=a
theorem tw4230981929503880290:P:=a
theorem tw4252575870210004581:P:=a
theorem tw4271024661669520427:P:=a
theorem tw4272284070825239538:P:=a
theorem tw4280810934603049941:P:=a
theorem tw4281002861248647278:P:=a
theorem tw434874233817867745:P:=a
theorem tw4352324715934677354:P:=a
theorem tw4363536962633478177:P:=a
theorem tw4388192958852896564:P:=a
theorem tw4392862056871931686:P:=a
theorem tw4422697582245255796:P:=a
theorem tw4492886272566167337:P:=a
theorem tw456833608014490102:P:=a
theorem tw457643945759597211:P:=a
theorem tw4615523053962025222:P:=a
theorem tw4638700940191417335:P:=a
theorem tw4746924428236033245:P:=a
theorem tw475079864002836475:P:=a
theorem tw4773256923233365965:P:=a
theorem tw4777379972840891724:P:=a
theorem tw4796388317015984788:P:=a
theorem tw4801191390949592252:P:=a
theorem tw4824538378682471947:P:=a
theorem tw4837118319786335745:P:=a
theorem tw4839069461994859223:P:=a
theorem tw4922164509864004212:P:=a
theorem tw4952694134678071360:P:=a
theorem tw4961126698131248856:P:=a
theorem tw4964186002786974751:P:=a
theorem tw5008338068520544890:P:=a
theorem tw50375661603948013:P:=a
theorem tw5093622017057902999:P:=a
theorem tw5123030988668614003:P:=a
theorem tw5126109396607505914:P:=a
theorem tw5136273719877481332:P:=a
theorem tw5137480470911306587:P:=a
theorem tw5160532998845589671:P:=a
theorem tw5180525973116716265:P:=a
theorem tw5218384425301759836:P:=a
theorem tw5220772961351803585:P:=a
theorem tw523896532320416636:P:=a
theorem tw5250292194542372342:P:=a
theorem tw5270014013647374361:P:=a
theorem tw5270523200016105746:P:=a
theorem tw5326676932132130336:P:=a
theorem tw5326729105397978159:P:=a
theorem tw5340171250960368740:P:=a
theorem tw5352602199417039551:P:=a
theorem tw5395146056503988780:P:=a
theorem tw5431065627083089467:P:=a
theorem tw5446854012570411613:P:=a
theorem tw5462350055595622120:P:=a
theorem tw5614113320883353373:P:=a
theorem tw5623786949747533769:P:=a
theorem tw5644408646920832035:P:=a
theorem tw5679132681305900974:P:=a
theorem tw5682207725534405769:P:=a
theorem tw5684736392647629256:P:=a
theorem tw5691881000701637743:P:=a
theorem tw5790156707610176265:P:=a
theorem tw5809967543122561679:P:=a
theorem tw5810739511905231243:P:=a
theorem tw5821650236662624128:P:=a
theorem tw5824417612505466033:P:=a
theorem tw5848464190151098289:P:=a
theorem tw5883680618615815671:P:=a
theorem tw5908311243035574704:P:=a
theorem tw5944091122957045670:P:=a
theorem tw5969314103262859899:P:=a
theorem tw5992649932684273618:P:=a
theorem tw5996384919696647673:P:=a
theorem tw6011834371418396870:P:=a
theorem tw6013193833967610844:P:=a
theorem tw6065776683307634285:P:=a
theorem tw6089203945734731150:P:=a
theorem tw6097961596659920887:P:=a
theorem tw6101548752787600925:P:=a
theorem tw6111385613435018798:P:=a
theorem tw6208158016105908744:P:=a
theorem tw6230118302580643592:P:=a
theorem tw6235973463498077262:P:=a
theorem tw6255144750289070982:P:=a
theorem tw6262822423588984438:P:=a
theorem tw6299105462883105889:P:=a
theorem tw6332319837026969718:P:=a
theorem tw6340897302897161651:P:=a
theorem tw6346638360178541144:P:=a
theorem tw6442541880832526976:P:=a
theorem tw6454256340827833637:P:=a
theorem tw6467282726539801772:P:=a
theorem tw6470561345395206759:P:=a
theorem tw6492705965072979950:P:=a
theorem tw6499274363003973644:P:=a
theorem tw6526131347949203251:P:=a
theorem tw6532624475156358380:P:=a
theorem tw6535464861437017901:P:=a
theorem tw6549678456841466173:P:=a
theorem tw6553673573070050690:P:=a
theorem tw6572022945799111159:P:=a
theorem tw6574893754238832415:P:=a
theorem tw6584737499793762623:P:=a
theorem tw6623076237342527550:P:=a
theorem tw6627857117860679392:P:=a
theorem tw6652942868622920160:P:=a
theorem tw6719332951552786385:P:=a
theorem tw6769840103337068016:P:=a
theorem tw6799527868525470453:P:=a
theorem tw6817172115209727408:P:=a
theorem tw6821398817743563817:P:=a
theorem tw6912750731178395053:P:=a
theorem tw7031529865203690453:P:=a
theorem tw7093797636279643446:P:=a
theorem tw7100999484624459392:P:=a
theorem tw7107079928390817142:P:=a
theorem tw7110680827492744019:P:=a
theorem tw7187533683899563389:P:=a
theorem tw7249178201633835335:P:=a
theorem tw7254675787458077244:P:=a
theorem tw7292326936729771935:P:=a
theorem tw729739778213242272:P:=a
theorem tw7302976233079553040:P:=a
theorem tw7326408990641771788:P:=a
theorem tw7343761477508917058:P:=a
theorem tw7367991156721874411:P:=a
theorem tw7369383667543744748:P:=a
theorem tw7380111698459322979:P:=a
theorem tw7398505290692514078:P:=a
theorem tw7398970677362911638:P:=a
theorem tw7410089787312176375:P:=a
theorem tw7440364877131500427:P:=a
theorem tw7458179385129670343:P:=a
theorem tw7470838163308044938:P:=a
theorem tw7472437278050562348:P:=a
theorem tw7539560020439850645:P:=a
theorem tw7543917373014835781:P:=a
theorem tw7548492572750375585:P:=a
theorem tw7604924000244744721:P:=a
theorem tw7623823408084900233:P:=a
theorem tw7649493541399738902:P:=a
theorem tw7767162075696084379:P:=a
theorem tw7805886795450483508:P:=a
theorem tw7822436435347738428:P:=a
theorem tw7851251053815908753:P:=a
theorem tw7868502910996289388:P:=a
theorem tw7871880801232800995:P:=a
theorem tw7880152174048049351:P:=a
theorem tw7889119588243511593:P:=a
theorem tw7933582835574973602:P:=a
theorem tw7934690917668414623:P:=a
theorem tw7975218901620372631:P:=a
theorem tw8079783478512281700:P:=a
theorem tw8083380387037082240:P:=a
theorem tw8131873025831057027:P:=a
theorem tw813381583953391056:P:=a
theorem tw8145456398390261606:P:=a
theorem tw8146951960864121205:P:=a
theorem tw8152566247133922233:P:=a
theorem tw8173122010544204382:P:=a
theorem tw819578204474575413:P:=a
theorem tw8249652945977990584:P:=a
theorem tw8250825868831180313:P:=a
theorem tw8256892366863640413:P:=a
theorem tw8289148347127742039:P:=a
theorem tw8291890225983069216:P:=a
theorem tw830270033107813493:P:=a
theorem tw8347306695724930884:P:=a
theorem tw8349612021807905546:P:=a
theorem tw8373947011197071922:P:=a
theorem tw8383888859692945199:P:=a
theorem tw8398563724021517417:P:=a
theorem tw8399997906834590424:P:=a
theorem tw8402708671227243359:P:=a
theorem tw8406820736919154119:P:=a
theorem tw8411911896240052488:P:=a
theorem tw8479937810429458071:P:=a
theorem tw8494816413449708687:P:=a
theorem tw852772571898535924:P:=a
theorem tw8531661537342183377:P:=a
theorem tw8533095140550002140:P:=a
theorem tw8554641024406116746:P:=a
theorem tw8575894363868836782:P:=a
theorem tw8615495259810316221:P:=a
theorem tw8620517417997795424:P:=a
theorem tw8642533915118549465:P:=a
theorem tw864364242631512768:P:=a
theorem tw8692627897369461133:P:=a
theorem tw870231273371554772:P:=a
theorem tw8708951079640175311:P:=a
theorem tw871239383155823711:P:=a
theorem tw8713781031474819459:P:=a
theorem tw8764710455404615930:P:=a
theorem tw8774916062196023665:P:=a
theorem tw8841469863504516458:P:=a
theorem tw8865780834388973382:P:=a
theorem tw8932354408170665961:P:=a
theorem tw8938956178723409030:P:=a
theorem tw894645251262482190:P:=a
theorem tw8955198093287737871:P:=a
theorem tw8976553604809467329:P:=a
theorem tw90008359690247447:P:=a
theorem tw9005419057350350731:P:=a
theorem tw9005862628656003354:P:=a
theorem tw9026309848234347352:P:=a
theorem tw9073528375502986547:P:=a
theorem tw9080349841240167155:P:=a
theorem tw910774505375366363:P:=a
theorem tw9149749433743385959:P:=a
theorem tw9198085669561275807:P:=a
theorem tw9204757256292674972:P:=a
theorem tw9239216982966905088:P:=a
theorem tw9260134158931898635:P:=a
theorem tw9302919620193335741:P:=a
theorem tw9316874084521515113:P:=a
theorem tw9319135414057921349:P:=a
theorem tw9325995830543885110:P:=a
theorem tw9330265406285141630:P:=a
theorem tw9386339379590696476:P:=a
theorem tw9393276787101720229:P:=a
theorem tw9395425803140955531:P:=a
theorem tw939720497619568231:P:=a
theorem tw9413907246352720916:P:=a
theorem tw9446112089178397629:P:=a
theorem tw9457086796489823187:P:=a
theorem tw949044913341219629:P:=a
theorem tw9497261392851225773:P:=a
theorem tw9507573217548873070:P:=a
theorem tw9547024145571711516:P:=a
theorem tw9591075830441648968:P:=a
theorem tw961444956205544044:P:=a
theorem tw9639895190089838728:P:=a
theorem tw9641424752960585823:P:=a
theorem tw9650231947491971176:P:=a
theorem tw9653321972135764853:P:=a
theorem tw9668179587824881614:P:=a
theorem tw9685733239055766072:P:=a
theorem tw9695410724142727859:P:=a
theorem tw9724625372417217614:P:=a
theorem tw9745295361147165928:P:=a
theorem tw97533398050265583:P:=a
theorem tw9790443985380749169:P:=a
theorem tw9828534972026955246:P:=a
theorem tw984553058940870147:P:=a
theorem tw9887177813081093105:P:=a
theorem tw9918431166489630665:P:=a
theorem tw9961341244044035830:P:=a
theorem tw9971169400427952807:P:=a
theorem tw9975583212244136477:P:=a
theorem tw9981091691875784799:P:=a
theorem tw9981375747506020844:P:=a
end main
open PySem PySem.W PyProof.Rows PySem.Spec PySem.Calls PySem.Builtin
theorem main:PySem.Challenge.rw_kt0046_01.Holds:=by
 w_on; o_law; k_head;(case hw=>w_witness2)
 k_fill
 intro w s₀ s₁ mg mb Gr Y fa o pm cd doc dV kV ho hdd hcd hD hmg hg args vals as hpre hlay hrd hwl hlo
 have KX:=km_in_of Y
 have TB:=km_tabs_of Y
 clear hdd
 refine Rg.joined Gr.T KX ?_ ?name ?_ ?_ ?_ ?lawO ?_ ?ctkO ?missing ?_ ?_ ?_ ?_ ?red4 ?red5 ?_ ?sio ?hC ?_ ?_ ?_ ?_ ?_ ?_ ?_ ?_ ?_ ?rnew ?_ ?_ ?_ ?_ ?_ ?_ ?_ ?_ ?_ ?_ ?_ ?_ ?_ ?_ ?_ ?_ ?_ ?ms ?dI ?dR ?fo (TB _ (by simp)) (TB _ (by simp)) hmg hg hpre hwl
 case fo=>refine ⟨?_,?_,?_,?_,?_,?_,?_,?_,?_,?_,?_,?_,?_,?_,?_,?_,?_,?_,?_,?_,?_,trivial⟩ <;> (refine (?_:_=_); kernel_rfl)
 case ms=>refine ⟨⟨?_,?_,?_,?_,?_,?_,?_,?_,?_,?_,?_,?_,?_,?_,?_⟩,⟨?_,?_,?_,?_,?_,?_,?_,?_,?_,?_,?_,?_,?_,?_,?_⟩,⟨?_,?_,?_,?_,?_,?_,?_,?_,?_,?_,?_,?_,?_,?_,?_⟩,⟨?_,?_,?_,?_,?_,?_,?_,?_,?_,?_,?_,?_,?_,?_,?_⟩,trivial⟩ <;> kernel_rfl
 case lawO=>exact ⟨by kernel_rfl,by kernel_rfl,by kernel_rfl⟩
 case ctkO=>exact ⟨by kernel_rfl,by kernel_rfl,by kernel_rfl⟩
 case missing=>exact ⟨by kernel_rfl,by kernel_rfl,by kernel_rfl⟩
 case red4=>exact ⟨by kernel_rfl,by kernel_rfl,by kernel_rfl,by kernel_rfl⟩
 case red5=>exact ⟨0,by kernel_rfl⟩
 case sio=>exact Rg.Zf (by kernel_rfl)
 case name=>exact Rg.Zf (by kernel_rfl)
 case hC=>exact Rg.Ze (by kernel_rfl) (by kernel_rfl) (by kernel_rfl) (by kernel_rfl) (by kernel_rfl)
 case rnew=>exact Rg.Zg (by kernel_rfl)
 case dI=>exact Rg.Zh (n:=0) (by kernel_rfl) (by kernel_rfl)
 case dR=>exact Rg.Wq (n:=0) (by kernel_rfl) (by kernel_rfl)
 all_goals kernel_rfl
end RgH
theorem PySem.Challenge.cw_kt0046_01_holds : PySem.Challenge.rw_kt0046_01.Holds :=
  RgH.main
