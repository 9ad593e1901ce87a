import PyProof.Rows.All
import Wide.All
import OpenK.AllK
import Wide.FinOn
import Wide.WTab
import PyProof.ExcBaseAll.Exception
import PyProof.DictDisplay
import Wide.BytesRules
import PySem.Challenge.RW_ji0036_01
set_option Elab.async false
set_option tactic.hygienic false
set_option genCtorIdx false
set_option linter.all false
set_option maxRecDepth 100000
set_option genSizeOf false
set_option genInjectivity false
namespace Mine.Internal
noncomputable section
open Nat renaming le_trans->aw,lt_of_le_of_lt->bn,le_refl->bO,lt_trans->bX,zero_le->cy,le_add_right->cB,le_of_ble_eq_true->cH,le_of_eq->cJ,beq->cQ,succ_le_succ->c8,le_of_lt->dk,mul_le_mul_left->dy,add_le_add->dz,zero_add->dD,blt->eA,add_le_add_left->eJ,add_le_add_right->eW,not_lt->ft,add_assoc->fG,add_comm->gn,le_succ->gO,le_succ_of_le->iB,succ_pos->iD,ble->iX,lt_of_lt_of_le->jb,succ_lt_succ->jH,lt_irrefl->jI,ne_of_lt->kZ,lt_succ_self->lO,lt_of_not_le->lP,succ_add_eq_add_succ->mx,le_add_left->mB,eq_of_beq_eq_true->ni,min_eq_left->nw,not_le->nD,add_sub_cancel'->oM,lt_of_succ_lt->oQ,add_sub_cancel_left->qm,ble_eq_true_of_le->qo,le_of_not_lt->qu,add_zero->qI,add_right_comm->r7,mul_succ->sr,one_mul->uQ,rec->xq,lt_add_of_pos_right->zb,lt_of_succ_lt_succ->zc,le_of_succ_le->zj,lt_succ_of_le->zk,lt_of_le_of_ne->Cj,min_eq_right->CA,sub_le->D8,add_left_cancel->G5,le_total->Iz,le_of_succ_le_succ->NR,add_lt_add_left->Oh,lt_succ_of_lt->OS,le_of_lt_succ->OT,mod_eq_of_lt->OW,le_antisymm->PC,not_lt_zero->PD,ne_of_gt->Rv,beq_refl->Rx,one_pos->S5,add_lt_add_of_lt_of_le->Z2,exists_eq_add_of_le'->aat,sub_eq_zero_of_le->ach,sub_le_of_le_add->acq,add_sub_cancel->adX,sub_add_cancel->adY,succ_ne_self->afT,min_le_right->afU,le_of_not_le->afY,min_le_left->aiu,sub_self->alr,casesOn->anF,mul_one->anG,mul_add->anH
open PySem renaming Expr->aH,Stmt->cO,Shared->nB,Value->sA,Builtin->HV,BoolOp->HZ,Addr->IZ,Around->Qp,step->S6,call->S8,type_list_append->aan,stripped->afV,Program->ais,World->alg,Tok->anE,wpAny->ay,Value->aA,Str->aB,wpAny_bind->aE,Addr->aJ,Shared->aL,wpAny_pure->a8,wpAny_mono->ba,Heap->bF,model->bH,Pos->bQ,Sem->dC,OsState->dE,World->dM,Around->dY,wpAny_items_cons->eK,rawInt->fg,wpAny_of_eq->fq,Env->fC,execs->gV,wpAny_items_nil->hK,wpAny_holding->hO,assign->iZ,mainGlobals->jc,sizeLine->je,starEach->jf,table->jm,Scope->jo,Seg->jF,codeAny->kq,backTo->kv,Tok->kR,wpAny_standAt->kY,compareOp->lh,NameKind->lU,denote->lY,Flow->mj,argsOk->mI,builtinsNs->nH,wpAny_Name->nJ,pyIter->nT,wpAny_rule->pe,DictEntry->pn,binaryOp->pC,isSubtype_type->qy,Comprehension->qE,pyNext->rt,leaving->sY,Thread->tD,CmpOp->tQ,Slot->uo,builtinLookup_eq_fast->uu,wpAny_truthy_bool->uA,wpAny_assign_Name->uB,typeLookup_type->uG,noteFrame->uX,spliced->vf,standAt->vg,BindsTo->vh,clipAt->vA,letOwnedTupleGo->wF,swappedStores->wM,codeAny_mono->wR,wpAny_call->w7,storeName->xe,swapsWith->xf,Arguments->xg,entryFor->xi,truthy->xL,builtinType_eq_fast->zh,wpAny_Assign_Name->zp,entryFor_of_tree->zv,theTreesLotGoes->zx,constantsAlone->zC,signature?_of->zM,wpAny_mkBytes->zN,isTrue->A0,Model->Bk,wpAny_execs_nil->Da,wpAny_updateSeq->Db,foldedForSure->DA,wpAny_BinOp->D9,wpAny_field->Ea,typeIs_str->Ey,updateSeq->Ez,cellsFrom->EA,evalEach->EW,Operator->EX,Program->Fo,relabel->Fp,findBy->FW,Const->GE,Code->GG,rule->GH,wpAny_newObj_type->Hw,wpAny_execs_cons->HD,call_isinstance->HW,codeAny_of_tree->HX,recursionLimit->H7,assignInOrder->IA,ExceptHandler->IB,wpAny_typeOf->I0,unsupported->JA,typeLookup->JC,wpAny_List->JD,assignEach->JE,isInstance->JF,closureFor->JG,setFlight->Ku,codeAmong->Kv,treeTable->Kw,FuncData->K9,callWith->Lb,bindArgs->Ld,getItem->LV,allTrue->LW,getAttr->LX,forTurn->LY,newList->LZ,Result->L6,leafOf->L7,schedN->L8,bindL->Nj,bindC->Nk,nsSet->Nl,Frame->Nn,wpAny_letTemporaryGo->Oz,wpAny_Constant_int->OY,wpAny_assign_Tuple->OZ,foldedSetIterable->PF,wpAny_pyIter_list->PG,wpAny_call_entry->Ql,wpAny_askSetting->Qm,wpAny_specialOf->Qq,execs_cons_wrap->Qs,wpAny_Expr_any->RB,wpAny_seqItems->RC,wpAny_setField->RD,wpAny_loadPart->RE,wpAny_attempt->S9,wpAny_UnaryOp->Tb,behindInMarks->Tc,wpAny_onRaise->Tf,wpAny_newList->Th,wpAny_Tuple->US,wpAny_noted->UT,cameBackBy->Wm,call_meets->Wq,seqIndex?->Wu,slicePick->Wv,lastMarks->Ww,seg_again->Wy,typeName->XG,compPost->XI,Protocol->XJ,cStatics->XK,asIndex->YZ,holding->Y1,UnaryOp->Y2,dictSet->Y3,boolOp->Y5,cellOf->Y6,mainNs->Y7,wpAny_newFunctionEnv_cells->aa9,wpAny_callSpecial?_slot->adT,aRefKeyMayBeTheName_at->ad3,wpAny_isTrue_Compare1->afO,wpAny_loadName_local->afZ,wpAny_newFunctionEnv->af0,list_getitem_lookup->aiw,wpAny_loadName_free->aix,wpAny_Assign_stores->aiD,wpAny_Return_none->alk,getMethod_builtin->alm,slot_list_setitem->aln,wpAny_builtinsFor->alo,wpAny_Try_except->alv,wpAny_updatePart->aly,isinstance_true->anJ,wpAny_operating->anK,codeAny_builtin->anL,importedModules->anM,wpAny_Compare1->anR,seg_execs_cons->anS,methodCallPos->aoV,rangeSize_one->aoW,slot_gen_next->aoX,plainId_quiet->aoY,table_eq_tree->aoZ,call_range_2->ao0,wpAny_mkText->ao1,subscripted->aqc,keywordEach->aqe,interactive->aqf,excClassObj->aqg,wpAny_letGo->aqh,wpAny_nsGet->aqi,evalEachOpt->aqj,splitAtGen->aqk
open Option.some renaming inj->aM
open List renaming length_append->aS,length_map->aW,append_assoc->bg,append_nil->bu,mem_singleton->bB,mem_cons->ch,map_append->cU,rec->cX,casesOn->cZ,map_cons->dB,getElem?_eq_some_iff->dX,contains_iff_mem->ed,all_eq_true->ew,mem_map->ey,replicate->eL,forall_mem_cons->eV,length_cons->eY,range->fc,mem_append_right->fF,append_eq_nil_iff->gj,not_mem_nil->gM,mem_of_getElem?->iQ,map_map->iR,length->iT,getElem?_eq_getElem->kc,mem_append_left->ke,length_reverse->kg,mem_filter->kj,getElem?_map->kT,take_length->kU,mem_reverse->kV,mem_append->kW,range'->k7,isSuffixOf_iff_suffix->nh,getElem?_drop->nk,drop_drop->ny,mem_range->nA,take_append_drop->oJ,contains_cons->oN,any_eq_true->oS,map_take->oW,getElem?_append_left->ql,reverse_cons->qq,isEmpty_iff->qt,drop_left->qx,getElem?_toArray->rX,mem_of_mem_take->rY,size_toArray->r9,lookup_cons->sa,cons_append->sd,find?_cons->se,nodup_cons->sh,map_drop->si,dropLast_concat_getLast->ur,dropWhile_suffix->ut,getElem?_set_ne->uv,reverse_reverse->uw,filter_eq_self->uy,forall_mem_nil->uz,forIn_cons->uE,nil_append->uF,getElem?_append_right->wq,take_of_length_le->wu,drop_eq_nil_of_le->wv,length_take_le'->ww,dropLast_concat->wx,getLast?_concat->wy,length_take_le->wA,mem_map_of_mem->wB,length_nil->wE,nodup_nil->wJ,findIdx?_eq_some_iff_getElem->y7,isEmpty_eq_false_iff->za,dropWhile_cons->zd,map_eq_nil_iff->ze,length_pos_iff->zf,map_inj_right->zg,mem_toArray->zm,map_reverse->zn,drop_length->zo,length_set->zu,any_cons->zA,all_cons->zB,map->Ai,dropWhile_cons_of_neg->B2,dropLast_eq_take->B4,length_replicate->B5,contains_append->B9,length_dropLast->Ca,drop_eq_nil_iff->Cd,findIdx?_cons->Cg,mem_cons_self->Ci,getElem_mem->Cy,mem_flatMap->Cz,foldl_cons->CU,map_nil->Dy,any_map->Dz,take_succ_eq_append_getElem->GI,isPrefixOf_iff_prefix->GK,drop_eq_getElem_cons->GL,getLast?_eq_none_iff->GN,length_filterMap_le->GO,getElem?_take_of_lt->GP,find?_cons_of_pos->GR,find?_cons_of_neg->GS,filterMap_append->GU,mem_cons_of_mem->GW,getLast?_append->GY,reverse_append->G1,flatten_append->G2,length_range'->G6,pairwise_cons->G7,pairwise_map->Hf,range'_succ->Hq,length_drop->Hr,append_inj'->Hs,find?_some->Hx,drop_take->HE,take_left->HF,eq_nil_of_length_eq_zero->Nr,getD_eq_getElem?_getD->Nv,append_eq_append_iff->ND,eq_of_mem_replicate->NH,append_left_eq_self->NJ,pairwise_singleton->NK,reverse_eq_nil_iff->NL,flatMap_singleton->NO,getElem?_reverse->NY,singleton_append->NZ,take_eq_take_min->N6,mem_of_mem_drop->N8,append_toArray->Oe,takeWhile_cons->Of,flatMap_append->Og,mem_filterMap->Ox,zip_cons_cons->Oy,length_range->OC,any_eq_false->OD,nodup_append->OE,flatMap_cons->OF,cons_ne_nil->OV,range_succ->Py,all_map->Rk,isEmpty->Rm,map_id->RG,append_ne_nil_of_right_ne_nil->Zs,getElem?_concat_length->ZP,extract_eq_take_drop->Z0,mem_of_find?_eq_some->Z1,filter_cons_of_pos->aao,filter_cons_of_neg->aap,length_eq_zero_iff->aaq,getLast?_cons_cons->aar,length_eq_one_iff->aa2,pairwise_lt_range->aa3,length_singleton->aa6,findIdx?_toArray->aa7,isEmpty_toArray->ace,getElem?_zipIdx->acg,getElem?_range'->aci,mem_of_getLast?->acl,dropLast_subset->acm,take_eq_nil_iff->acn,getElem_range->adS,take_add_one->adV,getElem?_inj->adW,flatten_cons->adZ,length_take->afL,map_flatMap->afM,getLast_mem->afN,of_mem_zip->afW,mem_range'->afX,drop_zero->ait,sum_cons->aiG,map_id'->alf,head?->anI,cons->anN,take->anO,drop->anP,any->aoR
open Prod.mk renaming inj->aY
open List.cons renaming inj->bD
open UInt8 renaming toNat->bR,toNat_inj->uD
open Option renaming bind_eq_some_iff->cG,casesOn->dP,isSome_iff_exists->gK,map_eq_some_iff->hJ,ne_none_iff_exists'->rW,isNone_iff_eq_none->wt,rec->IX,map->RF,eq_none_iff_forall_ne_some->Zk,toList_some->acf,some->aa,none->ak
open Bool renaming and_eq_true->eg,eq_false_iff->gL,eq_iff_iff->iC,or_eq_true->ki,not_eq_true'->mz,or_false->qC,and_false->wH,or_eq_false_iff->Cc,not_eq_false->Hc,beq_comm->Qn,and_true->Qo,and_eq_true_iff->ack,false_eq_true->adR,not_eq_true->afK,true_and->aiF,not->aoT,true->af,false->ag
open Classical renaming em->hV,byCases->oO,choose_spec->GQ,byContradiction->ZF,propDecidable->ZM,epsilon_spec->ZN,epsilon->aa0,not_not->aq8
open Exists renaming elim->iF,imp->alh
open Iff renaming rfl->jg,trans->UR
open Array renaming length_toList->jG,getElem?_eq_some_iff->y8,size_push->zt,getElem?_toList->B3,toList_append->Ce,ext'->DV,toArray_toList->GV,size_append->G9,toList_push->Ha,getElem?_setIfInBounds_self_of_lt->Np,getElem?_eq_getElem->NA,contains_toList->NQ,toList_extract->N7,eq_empty_of_size_eq_zero->Zz,getD_eq_getD_getElem?->ZL,getElem?_push->acj,size_extract->acr,foldl_toList->acs,extract_size->act,find?_toList->acu,isEmpty_iff->adQ,any_toList->ad0,size->alt
open Int renaming ofNat_lt->jJ,ofNat_le->qH,natCast_nonneg->rZ,not_lt->uS,not_le->D7,max_eq_right->Hu,min_eq_right->OX,min_eq_left->PB,le_trans->Rp,le_of_lt->Rt,sub_zero->Rw,ofNat->UQ,add_neg_cancel_right->aas,fmod_nonneg_of_pos->aa8,le_of_lt_add_one->acv,max_eq_left->air,le_antisymm->aiv,min_self->als,add_comm->alu,mul_one->anD
open Ne renaming symm->jS
open Nat.succ renaming inj->mC
open ForInStep renaming yield->uC
open And renaming right->uW,intro->JB,left->Wj
open Prod renaming fst->xh,snd->Ah,ext->aoS
open Int.ofNat renaming inj->CX
open PySem.Challenge renaming rw_ji0036_01->GJ,pw_ji0036_01->Y9
open PySem.Stmt renaming casesOn->GX
open Function renaming Injective->GZ
open Std.Legacy.Range renaming forIn_eq_forIn_range'->No,size->aqr
open PySem.BoolOp renaming casesOn->NI
open PySem.Expr renaming casesOn->N0,Compare->N5
open PUnit renaming unit->S7
open PyProof.Rows renaming neg_int->ZK,add_int->aqx,add_str->aqy,sub_int'->aqz,floordiv_int->aqA,mod_int'->aqB,eq_int->aqF,ne_int->aqG,lt_int->aqH,le_int->aqI,gt_int->aqJ,ge_int->aqK,callWith_type->aqL,iadd_int->aqM,bindName_->aqN,Assign_Tuple->I5,Subscript_->Wl,IntsAre->Y0,subscriptTail->aoU
open PySem.F renaming slot_list_append->ZO,plainAttrs_list->ZY,slot_str_split->Hy,plain_extend_loop->OB,args_str_split_2->OU,entry_str_split->O0,entry_extend_loop->afS,slot_str_encode->aiB
open PyProof renaming noPylong_small->ZZ
open PySem.P renaming append_list->aa1
open PySem.W renaming ownOf->afJ,typeIs_bytes->fH,findIn->gv,bytesKind->jd,keepIn->lX,boot_heap->pv,boot_drawn->qP,SharedT->qY,isBytes->sX,tabObj->tC,absHeap->vi,clsIn->vQ,doneF->vR,behindTheImports->wD,Frag->y6,layAllW->AY,CodeHd->AZ,typeIn->A1,lookIn->A2,leaveH->A3,nsIn->B1,absHeap_size->DU,topFrame->EY,topStub->Ft,WData->GF,isNs_of_in->JH,makesIn->L1,through->L5,nsOkIn->L9,Constant_bytes->Ry,ns_none_of->Ws,emptyDict->Wx,boot_toks->Wz,handedIn->XH,abs_get->Y4,callWith_of->aqd
open PySem.SeqAt.RcNeAt renaming none_none->aql,none_bool->aqm,bool_none->aqn,lists_lengths->aqo,lists->aqp
open PySem.SeqAt.EqAt renaming bool_bool->aqq
open PySem.EqNone renaming eq_none_none->aqC,eq_none_bool->aqD,eq_bool_none->aqE
open Std.Legacy renaming Range->aq1
open List.Nodup renaming not_mem_erase->aq2
open PySem.Str renaming mk->aq7,ofString->fY,length->Ti,empty->UU,join->Wp
open PySem.Heap renaming get?_push_of_some->dA,lt_size->eM,get?_push_size->gk,SameBut->lR,get?_update_self->oK,get?_none_of_le->ux,size_push->HG,SlotsOnly->aiz,ExtBut->alx,get?->anQ
open PySem.Obj renaming mapSeq->dK,data->px,mapFields->zG,putName->DT,cls->K8,mapDictKeys->PI,isFreed_of_fields->aco,data_mapFields->ad2,cls_mapFields->afP
open PySem.Value renaming ref->mF,none->nC,bool->uR,type->Ta,int->Tj,bytes->alp
open PySem.Heap.SameBut renaming update->nj
open PySem.Builtin.Bytes renaming occurrences->oP,between->qB,isSpace->uK,joined->wN,bytesLike->CI,containsIn->Hg,utf8At->Qr,occurrencesFromRight->ZQ,takeBufferQuiet?->aav,joinLetGo->afQ,joinItems->afR,buffer?->aiA,find?->ali
open PySem.W.Frag renaming In->sK
open PySem.W.KBd renaming like_eq->wT
open PySem.W.KBy renaming buffer_eq->zF,tooLong_not->PE
open PySem.Builtin.Bytes.Kind renaming same->Cp,new->Ht,bytes->aa4
open PySem.Sem renaming bind_eq_wrap->CC,wrap_wrap->Dc,wrap_congr->HH,onRaise_eq_wrap->Oi
open PySem.Value.type renaming inj->CH
open PySem.PyData renaming keyHash->CV
open PySem.Data.fields renaming inj->Hb
open PySem.W.WShape renaming hasItems->Hv,has->alq
open PySem.Const renaming casesOn->HY
open PySem.Builtin.Str renaming strKind->IY,occurrences->PH,glued->aqX
open PySem.MeetsSeq renaming EqGives->LU
open PySem.Builtin.List renaming listExtendWith->Nq,listItems->ZH,listSubscript?->aqO,listUpdate->aqP,listSameRef->aqQ,listLengthHint->aqR,listTouch->aqS
open PySem.Builtin.Range renaming rangeSize->Nt
open PySem.Shared renaming asleep_of_life->NP
open PySem.Calls renaming Name_function_global->OA,callWith_builtin->aau,loadGlobal_global->alj
open PySem.NameKind renaming cell->PA
open PySem.Pin renaming globalOf_eq->PJ
open PySem.Walks renaming list->Te
open PySem.Builtin.Generator renaming genWake->Ze
open PySem.ExceptHandler renaming casesOn->ZG
open PySem.EntryCells renaming newEntry->Z3
open PySem.Around renaming under_plainId->aa5
open PySem.Thread renaming calm_forget->acp
open PySem.Value.ref renaming inj->adU
open PySem.W.KBc renaming size_picked_le->ad1
open PyProof.Rows.AllBare renaming push->af1
open PySem.IsRange renaming new->aiy
open PySem.Txt renaming rstripChars->aiC,endswith->alw
open PySem.Frame renaming guarded->aiE
open PySem.Heap.IsSliceOf renaming new->aqs
open PySem.AfterImport renaming of_importEnds->aqY,unique->aqZ
open PySem.DictEntry renaming refKey->aq9,val->ara
open PySem.FuncBody renaming stmts->arh
open PySem.MeetsSeq.EqGives renaming int->arK
open PySem.SeqRoads2.EqGives renaming str->arL
open PySem.StrLaws renaming join_split->arM,split_free->arN,subAt_eq->arO,strSub_toList->arP,glued_eq_join->arQ,joinTotal->arR
open PySem.UnaryOp renaming casesOn->arS
open PySem.Step.go renaming inj->arT
open PySem.W.OpenLaw renaming wellSaid->arU
open PySem.W.OpenRow renaming wellSaid->arV,partSaid->arW
open PySem.ExcName renaming means->arX
abbrev aj:=@congrArg
noncomputable abbrev aC:=@absurd
abbrev bt:=@eq_of_beq
abbrev cD:=@if_pos
abbrev c9:=@if_neg
abbrev eX:=@of_decide_eq_true
abbrev fX:=@beq_false_of_ne
abbrev gu:=@congrFun
abbrev gN:=@decide_eq_true
abbrev gP:=@beq_iff_eq
abbrev km:=@exists_congr
abbrev kX:=@beq_self_eq_true
abbrev lQ:=@decide_eq_false
abbrev mA:=@decide_eq_true_iff
abbrev oV:=@and_congr_right
@[elab_as_elim] theorem am {α:Sort u} {a b:α} {P:α->Prop} (h:a=b) (x:P a):P b:=h▸x
@[elab_as_elim] theorem ae {α:Sort u} {a b:α} {P:α->Prop} (h:a=b) (x:P b):P a:=h▸x
@[elab_as_elim] theorem ltE{P:Nat->Prop}{n w:Nat}(h:w<n)(a:xq (motive:=λ_=>Prop) True (λk q=>P k/\q) n):P w:=by induction n with|zero=>exact nomatch h|succ n ih=>exact(Nat.lt_succ_iff_lt_or_eq.mp h).elim (λh=>ih h a.2) λe=>e▸a.1
theorem bb{P:Prop}(h:ag=af):P:=nomatch h
theorem bU{P:Prop}(h:af=ag):P:=nomatch h
theorem b3{β:Type}{P:Prop}{i:β}(h:aa i=ak):P:=nomatch h
theorem b4{α:Type}{P:Prop}{x:α}{l:List α}(h:[]=x::l):P:=nomatch h
theorem b5{α:Type}{P:Prop}{x:α}{l:List α}(h:x::l=[]):P:=nomatch h
theorem cf{α:Type}{P:Prop}{x:α}(h:x∈[]):P:=nomatch h
theorem ct{α:Type}(f:α->Nat){a b:α}{P:Prop}(h:a=b)(k:(f a==f b)=ag):P:=by subst h;exact bU ((kX _).symm.trans k)
section
open PySem PySem.W PySem.Calls PyProof.Rows
abbrev bI:=aA->aL->Prop
noncomputable def aI:Nat:=1048576
abbrev Y:=List Nat
set_option genCtorIdx true in
inductive D where
 |none|bool (b:Bool)|int (i:Int)|str (x:Y)|bytes (x:Y)
 |list (xs:List D)|tup (xs:List D)|inst (C:Nat) (fs:List D)|lam (d:D)
noncomputable def TB:List aJ:=[147,318,325]
noncomputable def FB:Nat:=522
def mL(b:aJ)(o a:Obj):Prop:=
 a.cls=o.cls/\a.dict=o.dict/\(a.data=o.data\/(b∈TB/\o.cls=.none/\∃vs c,o.data=.fields vs/\a.data=.fields (vs++c)))/\
 (a.slots=o.slots\/(FB<=b/\∃es n,o.data=.dict es n))
theorem mL.refl(b:aJ)(o:Obj):mL b o o:=⟨rfl,rfl,.inl rfl,.inl rfl⟩
theorem mL.data(x:mL b o o')(h:∀vs,o.data≠.fields vs):o'.data=o.data:=x.2.2.1.resolve_right λq=>q.2.2.elim λvs q=>q.elim λy q=>h vs q.1
theorem mL.trans(x:mL b nY ru)(y:mL b ru anT):mL b nY anT:=
 ⟨y.1.trans x.1,y.2.1.trans x.2.1,x.2.2.1.elim (λe=>am e (am x.1 y.2.2.1)) λq=>.inr ⟨q.1,q.2.1,q.2.2.elim λvs q=>q.elim λm q=>⟨vs,y.2.2.1.elim (λe=>⟨m,q.1,e.trans q.2⟩)
  λe=>e.2.2.elim λc e=>e.elim λa e=>⟨m++a,q.1,e.2.trans (ae (Hb (e.1.symm.trans q.2)) (am Array.append_assoc rfl))⟩⟩⟩,
  x.2.2.2.elim (λe=>y.2.2.2.elim (λq=>.inl (q.trans e)) λq=>.inr ⟨q.1,q.2.elim λes q=>q.elim λn q=>⟨es,n,x.2.2.1.elim (λe=>e.symm.trans q) λe=>e.2.2.elim λz e=>e.elim λz e=>nomatch e.2.symm.trans q⟩⟩) .inr⟩
theorem Obj.same{o a:Obj}(h:a.cls=o.cls)(k:a.dict=o.dict)(l:a.data=o.data)(m:a.slots=o.slots):a=o:=by cases a;cases o;cases h;cases k;cases l;cases m;rfl
theorem mL.same(x:mL b o o')(hb:(∀es n,o.data≠.dict es n)\/b<FB)(hc:o.cls≠.none\/b∉TB):o'=o:=Obj.same x.1 x.2.1 (x.2.2.1.resolve_right λq=>hc.elim (· q.2.1) (· q.1)) (x.2.2.2.resolve_right λq=>hb.elim (λh=>q.2.elim λes q=>q.elim (h es)) λh=>aC q.1 (nD.mpr h))
def bZ(Mt:aJ->Prop)(h c:bF):Prop:=∀b o,h.get? b=aa o->¬Mt b->∃a,c.get? b=aa a/\mL b o a
abbrev Kp(h a:bF):Prop:=bZ (λx=>False) h a
def Tp(X:aJ->Prop)(h:bF)(d:aJ->Prop)(c:bF):Prop:=∀b o,h.get? b=aa o->¬X b->¬d b/\∃a,c.get? b=aa a/\mL b o a
section
theorem bZ.refl:bZ Mt h h:=λb o e x=>⟨o,e,.refl ..⟩
theorem bZ.trans(x:bZ Mt h dv)(y:bZ Mt dv lC):bZ Mt h lC:=λb o e a=>(x b o e a).elim λd p=>(y b d p.1 a).elim λc q=>⟨c,q.1,p.2.trans q.2⟩
theorem bZ.mono(x:bZ Mt h h')(c:∀b o,h.get? b=aa o->Mt b->Ma b):bZ Ma h h':=λb o e a=>x b o e λq=>a (c b o e q)
theorem bZ.keeps(k:∀b o,h.get? b=aa o->h'.get? b=aa o):bZ Mt h h':=λb o e x=>⟨o,k b o e,.refl ..⟩
theorem bZ.sameBut(k:lR a h h')(d:Mt a):bZ Mt h h':=λb o e c=>⟨o,(k.2 b λq=>c (ae q d)).trans e,.refl ..⟩
theorem bZ.weak(x:Kp h h'):bZ Mt h h':=x.mono λy y y q=>q.elim
theorem bZ.get(x:bZ Mt h h')(e:h.get? b=aa o)(a:¬Mt b)(hb:(∀es n,o.data≠.dict es n)\/b<FB)(hc:o.cls≠.none\/b∉TB):h'.get? b=aa o:=(x b o e a).elim λy q=>am (q.2.same hb hc) q.1
theorem bZ.bp(x:bZ Mt h h')(e:(h.get? b).isSome=af)(c:¬Mt b):(h'.get? b).isSome=af:=(gK.mp e).elim λo a=>(x b o a c).elim λy q=>ae q.1 rfl
theorem Tp.of(k:bZ Mt h h')(c:∀b o,h.get? b=aa o->Mt b->X b)(a:∀b o,h.get? b=aa o->X' b->X b):Tp X h X' h':=λb o e hx=>⟨λq=>hx (a b o e q),k b o e λq=>hx (c b o e q)⟩
theorem Tp.kp(k:Kp h h'):Tp X h X h':=.of k (λx x x q=>q.elim) λx x x=>id
theorem Tp.sub(a:∀b o,h.get? b=aa o->X' b->X b):Tp X h X' h:=.of .refl (λx x x=>id) a
end
def bG(h:bF)(T:String)(a:aJ)(ai:List aA):Prop:=∃n,h.get? a=aa {cls:=.type T,dict:=ak,data:=.seq ai.toArray n}/\ai.length<=aI
section
variable{s:aL}
theorem bG.kp(x:bG h T a ai)(k:bZ Mt h h')(b:¬Mt a):bG h' T a ai:=x.elim λn x=>⟨n,k.get x.1 b (.inl λy y=>nofun) (.inl nofun),x.2⟩
theorem bG.bp(x:bG h T a ai):(h.get? a).isSome=af:=x.elim λy x=>ae x.1 rfl
theorem bG.lim(x:bG h T a ai):ai.length<=aI:=x.elim λy x=>x.2
theorem bG.isList(x:bG h "list" a ai):h.IsList a ai.toArray:=x.elim λn x=>⟨_,x.1,rfl,n,rfl⟩
theorem bG.isTup(x:bG h "tuple" a ai):h.IsTuple a ai.toArray:=x.elim λn x=>⟨_,x.1,rfl,n,rfl⟩
theorem bG.typeIs(x:bG s.heap T a ai):s.TypeIs (.ref a) T:=x.elim λy x=>⟨_,x.1,rfl⟩
end
noncomputable def anU:List String:=["ignorecase","parts","pattern","is_exclude","is_directory_only","is_empty","_re","_name_re","_describes_contents","_patterns","_ignorecase","_path"]
def bJ(i:Nat):aB:=fY (anU.getD i "")
noncomputable def bx(C:Nat):List Nat:=cond (C==92) [0,1] (cond (C==240) [2,0,3,4,5,6,7,8] (cond (C==333) [9,10,11] []))
def lm:List pn->List Nat->List aA->Prop|[],xs,vs=>xs=[]/\vs=[]|e::es,xs,vs=>∃x t xs',xs=x::xs'/\e.key=.str (bJ x) t/\∃a,vs=e.val::a/\lm es xs' a
structure alz(h:bF)(C a d:aJ)(vs:List aA)(o od:Obj)(es:List pn)(n:Nat):Prop where
 g:h.get? a=aa o
 cl:o.cls=.ref C
 di:o.dict=aa d
 p:o.data=.plain
 g':h.get? d=aa od
 XM:od.cls=.type "dict"
 XN:od.dict=ak
 t:od.data=.dict es.toArray n
 e:lm es ((bx C).take vs.length) vs
def lz(h:bF)(C a d:aJ)(vs:List aA):Prop:=∃o b es n,alz h C a d vs o b es n
theorem lz.kp(x:lz h C a d vs)(k:bZ Mt h h')(j:¬Mt a)(hd:¬Mt d):lz h' C a d vs:=
 x.elim λo x=>x.elim λf x=>x.elim λes x=>x.elim λn x=>(k a o x.g j).elim λi y=>(k d f x.g' hd).elim λc z=>
 ⟨i,c,es,n,y.1,y.2.1.trans x.cl,y.2.2.1.trans x.di,(y.2.data λb q=>nomatch x.p.symm.trans q).trans x.p,z.1,z.2.1.trans x.XM,z.2.2.1.trans x.XN,(z.2.data λb q=>nomatch x.t.symm.trans q).trans x.t,x.e⟩
noncomputable def vC(P:aJ):aB:=match P with|147=>"_translate_double_asterisk.<locals>.<genexpr>"|318=>"IgnoreFilter.is_ignored.<locals>.<lambda>"|_=>"IgnoreFilter.may_prune_directory.<locals>.<lambda>"
structure alA(fd:K9)(c:aJ)(P:aJ):Prop where
 closure:fd.closure=[(fY "self",c)]
 globals:fd.globals=jc
 builtins:fd.builtins=nH
 defaults:fd.defaults=.none
 kwdefaults:fd.kwdefaults=.none
 qual:fd.qualname=vC P
 tb:P∈TB
 params:fd.params={posonlyargs:=[],args:=[{arg:="_path",annotation:=ak,pos:=(match fd.params.args with|p::_=>p.pos|[]=>⟨0,0,0,0⟩)}],vararg:=ak,kwonlyargs:=[],kw_defaults:=[],kwarg:=ak,defaults:=[]}
 body:∃p1 p2 p3 p4:bQ,∃k,fd.body=.expr (.List [.Tuple [.Constant (.int 0) 0 p1,.Name "self" p2] k p3] p4)
 kind:fd.scope.kind=.function
 names:fd.scope.names=[(fY "_path", .local),(fY "self", .free)]
 gen:fd.scope.isGenerator=ag
 cor:fd.scope.isCoroutine=ag
structure anV(h:bF)(a c P:aJ)(o:Obj)(fd:K9)(cc:aJ)(oc:Obj)(vs:Array aA):Prop where
 g:h.get? a=aa o
 cl:o.cls=.type "function"
 d:o.data=.func fd
 f:alA fd c P
 k:fd.code=.ref cc
 g':h.get? P=aa oc
 d':oc.data=.fields vs
 e:vs[2]?=aa (.ref cc)
def sZ(h:bF)(a c P:aJ):Prop:=∃o d e b vs,anV h a c P o d e b vs
theorem sZ.kp(x:sZ h a c P)(k:bZ Mt h h')(s:¬Mt a)(hc:¬Mt P):sZ h' a c P:=
 x.elim λo x=>x.elim λl x=>x.elim λm x=>x.elim λr x=>x.elim λvs x=>(k a o x.g s).elim λj y=>(k P r x.g' hc).elim λn z=>
 z.2.2.2.1.elim (λq=>⟨j,l,m,n,vs,y.1,y.2.1.trans x.cl,(y.2.data λb q=>nomatch x.d.symm.trans q).trans x.d,x.f,x.k,z.1,q.trans x.d',x.e⟩) λq=>q.2.2.elim λp q=>q.elim λi q=>
 ⟨j,l,m,n,p++i,y.1,y.2.1.trans x.cl,(y.2.data λb q=>nomatch x.d.symm.trans q).trans x.d,x.f,x.k,z.1,q.2,am (Hb (x.d'.symm.trans q.1)) ((Array.getElem?_append_left (y8.mp x.e).1).trans x.e)⟩
theorem o8(x:h.IsCell c v)(k:bZ Mt h h')(hc:¬Mt c):h'.IsCell c v:=x.elim λo x=>(k c o x.1 hc).elim λa y=>⟨a,y.1,(y.2.data λz q=>nomatch x.2.symm.trans q).trans x.2⟩
def bq(X:aJ->Prop)(h:bF)(d:D):aA->Prop:=
 D.rec (motive_1:=λy=>aA->Prop) (motive_2:=λy=>List aA->Prop) (λv=>v=.none) (λb v=>v=.bool b) (λi v=>∃t,v=.int i t)
  (λx v=>∃s t,v=.str s t/\s.cps.toList=x/\x.length<=aI) (λx v=>∃b t,v=.bytes b t/\b.toList.map bR=x/\x.length<=aI)
  (λy L v=>∃a ai,v=.ref a/\¬X a/\bG h "list" a ai/\L ai) (λy L v=>∃a ai,v=.ref a/\¬X a/\bG h "tuple" a ai/\L ai)
  (λC fs L v=>∃a d vs,v=.ref a/\¬X a/\¬X d/\lz h C a d vs/\vs.length=(bx C).length/\L vs)
  (λy R v=>∃a c P e,v=.ref a/\¬X a/\¬X c/\¬X P/\sZ h a c P/\h.IsCell c (aa e)/\R e)
  (λvs=>vs=[]) (λy y R L vs=>∃v r,vs=v::r/\R v/\L r) d
def a9(X:aJ->Prop)(h:bF)(ds:List D):List aA->Prop:=
 D.rec_1 (motive_1:=λy=>aA->Prop) (motive_2:=λy=>List aA->Prop) (λv=>v=.none) (λb v=>v=.bool b) (λi v=>∃t,v=.int i t)
  (λx v=>∃s t,v=.str s t/\s.cps.toList=x/\x.length<=aI) (λx v=>∃b t,v=.bytes b t/\b.toList.map bR=x/\x.length<=aI)
  (λy L v=>∃a ai,v=.ref a/\¬X a/\bG h "list" a ai/\L ai) (λy L v=>∃a ai,v=.ref a/\¬X a/\bG h "tuple" a ai/\L ai)
  (λC fs L v=>∃a d vs,v=.ref a/\¬X a/\¬X d/\lz h C a d vs/\vs.length=(bx C).length/\L vs)
  (λy R v=>∃a c P e,v=.ref a/\¬X a/\¬X c/\¬X P/\sZ h a c P/\h.IsCell c (aa e)/\R e)
  (λvs=>vs=[]) (λy y R L vs=>∃v r,vs=v::r/\R v/\L r) ds
section
theorem bq.mv(k:Tp X h X' h')(x:bq X h d v):bq X' h' d v:=by
 have f:=λb o e hx=>(k b o e hx).2;have hx:=λ{b o} e hx=>(k b o e hx).1;refine D.rec (motive_2:=λi=>∀vs,a9 X h i vs->a9 X' h' i vs) (λy=>id) (λy y=>id) (λy y=>id) (λy y=>id) (λy y=>id) ?_ ?_ ?_ ?_ (λy=>id) ?_ d v x
 ·exactλy L y r=>r.elim λa r=>r.elim λai r=>⟨a,ai,r.1,r.2.2.1.elim λy q=>hx q.1 r.2.1,r.2.2.1.kp f r.2.1,L _ r.2.2.2⟩
 ·exactλy L y r=>r.elim λa r=>r.elim λai r=>⟨a,ai,r.1,r.2.2.1.elim λy q=>hx q.1 r.2.1,r.2.2.1.kp f r.2.1,L _ r.2.2.2⟩
 ·exactλy y L y r=>r.elim λa r=>r.elim λd r=>r.elim λvs r=>⟨a,d,vs,r.1,r.2.2.2.1.elim λy q=>q.elim λy q=>q.elim λy q=>q.elim λy q=>hx q.g r.2.1,r.2.2.2.1.elim λy q=>q.elim λy q=>q.elim λy q=>q.elim λy q=>hx q.g' r.2.2.1,r.2.2.2.1.kp f r.2.1 r.2.2.1,r.2.2.2.2.1,L _ r.2.2.2.2.2⟩
 ·exactλy R y r=>r.elim λa r=>r.elim λc r=>r.elim λP r=>r.elim λj r=>⟨a,c,P,j,r.1,r.2.2.2.2.1.elim λy q=>q.elim λy q=>q.elim λy q=>q.elim λy q=>q.elim λy q=>hx q.g r.2.1,r.2.2.2.2.2.1.elim λy q=>hx q.1 r.2.2.1,
   r.2.2.2.2.1.elim λy q=>q.elim λy q=>q.elim λy q=>q.elim λy q=>q.elim λy q=>hx q.g' r.2.2.2.1,r.2.2.2.2.1.kp f r.2.1 r.2.2.2.1,o8 r.2.2.2.2.2.1 f r.2.2.1,R _ r.2.2.2.2.2.2⟩
 ·exactλy y R L y r=>r.elim λv r=>r.elim λt r=>⟨v,t,r.1,R _ r.2.1,L _ r.2.2⟩
theorem a9.nil:a9 X h [] []:=rfl
theorem a9.cons(x:bq X h d v)(r:a9 X h ds vs):a9 X h (d::ds) (v::vs):=⟨v,vs,rfl,x,r⟩
theorem a9.un(r:a9 X h (d::ds) vs):∃v t,vs=v::t/\bq X h d v/\a9 X h ds t:=r
theorem a9.ind{P:List D->List aA->Prop}(n:P [] [])(c:∀d ds v vs,bq X h d v->a9 X h ds vs->P ds vs->P (d::ds) (v::vs)):∀{ds:List D} {vs:List aA},a9 X h ds vs->P ds vs:=by
 intro ds
 induction ds with|nil=>exactλ{x} e=>ae (e) n|cons d ds ih=>exactλ{x} r=>r.elim λv r=>r.elim λt r=>ae r.1 (c d ds v t r.2.1 r.2.2 (ih r.2.2))
theorem a9.mv(k:Tp X h X' h')(r:a9 X h ds vs):a9 X' h' ds vs:=r.ind rfl λy y y y x y i=>.cons (x.mv k) i
theorem a9.length(r:a9 X h ds vs):vs.length=ds.length:=r.ind (P:=λds vs=>vs.length=ds.length) rfl λx x x x x x i=>aj (·+1) i
theorem a9.append(r:a9 X h ds vs)(q:a9 X h es ws):a9 X h (ds++es) (vs++ws):=r.ind (P:=λds vs=>a9 X h (ds++es) (vs++ws)) q λy y y y x y i=>.cons x i
theorem a9.reverse(r:a9 X h ds vs):a9 X h ds.reverse vs.reverse:=r.ind (P:=λds vs=>a9 X h ds.reverse vs.reverse) rfl λd ds v vs x y i=>by simp only [qq,qq];exact i.append (.cons x .nil)
theorem a9.take(r:a9 X h ds vs):∀i,a9 X h (ds.take i) (vs.take i):=r.ind (P:=λds vs=>∀i,a9 X h (ds.take i) (vs.take i)) (λi=>by cases i<;>exact rfl) λy y y y x y a i=>match i with|0=>rfl|i+1=>.cons x (a i)
theorem a9.drop(r:a9 X h ds vs):∀i,a9 X h (ds.drop i) (vs.drop i):=r.ind (P:=λds vs=>∀i,a9 X h (ds.drop i) (vs.drop i)) (λi=>by cases i<;>exact rfl) λy y y y x r a i=>match i with|0=>.cons x r|i+1=>a i
theorem a9.get(r:a9 X h ds vs):∀{i:Nat} {d:D},ds[i]?=aa d->∃v,vs[i]?=aa v/\bq X h d v:=r.ind (P:=λds vs=>∀{i:Nat} {d:D},ds[i]?=aa d->∃v,vs[i]?=aa v/\bq X h d v) (λe=>nomatch e) λd y v y x y a i d' e=>match i,e with|0,e=>⟨v,rfl,am (aM e) x⟩|i+1,e=>a e
end
set_option genCtorIdx true in
inductive Ev(α:Type)where
 |ok (a:α)|exc|no
noncomputable def Ev.bind{α β:Type}(x:Ev α)(f:α->Ev β):Ev β:=match x with|.ok a=>f a|.exc=>.exc|.no=>.no
noncomputable def Ev.calm{α:Type}(x:Ev α):Ev α:=match x with|.ok a=>.ok a|_=>.no
noncomputable def Ev.of{α:Type}:Option α->Ev α|some a=>.ok a|none=>.no
set_option genCtorIdx true in
inductive AV where
 |U|val (d:D)|own (xs:List D)|da (xs:List D)
abbrev Rh:=List AV
set_option genCtorIdx true in
inductive Fl where
 |next|brk|cont|ret (d:D)
abbrev Os:=Fl×Rh
inductive Tr(α:Type)where
 |ret (a:α)
 |q (o:Ev D) (k:D->Tr α)
 |b (o:Option Bool) (k:Bool->Tr α)
 |l (o:Ev Os) (k:Os->Tr α)
 |no
def Tr.run{α:Type}(t:Tr α):Ev α:=Tr.rec .ok (λo x a=>o.bind a) (λo x a=>(Ev.of o).bind a) (λo x a=>o.bind a) .no t
noncomputable def Tr.bind{α β:Type}(t:Tr α)(f:α->Tr β):Tr β:=Tr.rec f (λo x a=>.q o a) (λo x a=>.b o a) (λo x a=>.l o a) .no t
theorem Ev.bind_assoc{α β γ:Type}(x:Ev α)(f:α->Ev β)(g:β->Ev γ):(x.bind f).bind g=x.bind λa=>(f a).bind g:=by cases x<;>rfl
theorem Tr.run_bind{α β:Type}(t:Tr α)(f:α->Tr β):(t.bind f).run=t.run.bind λa=>(f a).run:=Tr.rec (λx=>rfl) (λo k b=>(aj o.bind (funext b)).trans (o.bind_assoc _ _).symm) (λo k b=>(aj (Ev.of o).bind (funext b)).trans ((Ev.of o).bind_assoc _ _).symm) (λo k b=>(aj o.bind (funext b)).trans (o.bind_assoc _ _).symm) rfl t
theorem Tr.acw{α β γ:Type}(t:Tr α)(f:α->Tr β)(g:β->Tr γ):(t.bind f).bind g=t.bind λa=>(f a).bind g:=Tr.rec (λx=>rfl) (λo k c=>aj (Tr.q o) (funext c)) (λo k c=>aj (Tr.b o) (funext c)) (λo k c=>aj (Tr.l o) (funext c)) rfl t
def Tr.op(o:Option D):Tr D:=.q (Ev.of o) .ret
theorem Tr.JI(o:Option D):(Tr.op o).run=Ev.of o:=by cases o<;>rfl
noncomputable def Tr.gZ(o:Option Bool):Tr Bool:=.b o .ret
theorem Tr.af2(o:Option Bool):(Tr.gZ o).run=Ev.of o:=by cases o<;>rfl
section
variable{α:Type}
noncomputable def D.el(d:D)(n:α)(b:Bool->α)(i:Int->α)(s y:Y->α)(l t:List D->α)(z:α):α:=D.casesOn (motive_1:=λx=>α) d n b i s y l t (λx x=>z) (λx=>z)
def D.int?(d:D):Option Int:=d.el .none (λx=>.none) aa (λx=>.none) (λx=>.none) (λx=>.none) (λx=>.none) .none
def D.jT(d:D):Option Y:=d.el .none (λx=>.none) (λx=>.none) (λx=>.none) aa (λx=>.none) (λx=>.none) .none
def D.xM(d:D):Option Y:=d.el .none (λx=>.none) (λx=>.none) aa (λx=>.none) (λx=>.none) (λx=>.none) .none
def D.bool?(d:D):Option Bool:=d.el .none aa (λx=>.none) (λx=>.none) (λx=>.none) (λx=>.none) (λx=>.none) .none
def D.jU(d:D):Option (List D):=d.el .none (λx=>.none) (λx=>.none) (λx=>.none) (λx=>.none) aa (λx=>.none) .none
theorem aN{β:Type}{P:Prop}{i:β}(h:(ak:Option β)=aa i):P:=nomatch h
theorem D.I6{d:D}(h:d.int?=aa i):d=.int i:=D.casesOn d aN (λx=>aN) (λx h=>aj D.int (aM h)) (λx=>aN) (λx=>aN) (λx=>aN) (λx=>aN) (λx x=>aN) (λx=>aN) h
theorem D.PK{d:D}(h:d.jT=aa i):d=.bytes i:=D.casesOn d aN (λx=>aN) (λx=>aN) (λx=>aN) (λx h=>aj D.bytes (aM h)) (λx=>aN) (λx=>aN) (λx x=>aN) (λx=>aN) h
theorem D.RH{d:D}(h:d.xM=aa i):d=.str i:=D.casesOn d aN (λx=>aN) (λx=>aN) (λx h=>aj D.str (aM h)) (λx=>aN) (λx=>aN) (λx=>aN) (λx x=>aN) (λx=>aN) h
theorem D.Qt{d:D}(h:d.bool?=aa i):d=.bool i:=D.casesOn d aN (λx h=>aj D.bool (aM h)) (λx=>aN) (λx=>aN) (λx=>aN) (λx=>aN) (λx=>aN) (λx x=>aN) (λx=>aN) h
theorem D.IC{d:D}(h:d.jU=aa i):d=.list i:=D.casesOn d aN (λx=>aN) (λx=>aN) (λx=>aN) (λx=>aN) (λx h=>aj D.list (aM h)) (λx=>aN) (λx x=>aN) (λx=>aN) h
def wI(d:D)(f:Int->Option α):Option α:=d.int?.bind f
def wY(d:D)(f:Y->Option α):Option α:=d.jT.bind f
def wS(d:D)(f:Y->Option α):Option α:=d.xM.bind f
def wL(d:D)(f:List D->Option α):Option α:=d.jU.bind f
noncomputable def gd(c:Prop) [Decidable c](x:Option α):Option α:=cond (decide c) x .none
noncomputable def eB(g:D->Option α)(xs:List D):Option (List α):=cX (aa []) (λd x r=>(g d).bind λa=>r.map (a::·)) xs
def qZ(d:D):Option Bool:=d.el (aa ag) aa (λi=>aa (i !=0)) (λx=>aa (!x.isEmpty)) (λx=>aa (!x.isEmpty)) (λx=>aa (!x.isEmpty)) (λx=>aa (!x.isEmpty)) .none
def yf(a b:D):Option Bool:=a.el (b.el (aa af) (λx=>aa ag) (λx=>.none) (λx=>.none) (λx=>.none) (λx=>.none) (λx=>.none) .none)
 (λp=>b.el (aa ag) (λq=>aa (p==q)) (λx=>.none) (λx=>.none) (λx=>.none) (λx=>.none) (λx=>.none) .none)
 (λp=>wI b λq=>aa (p==q)) (λp=>wS b λq=>aa (p==q)) (λp=>wY b λq=>aa (p==q))
 (λxs=>wL b λys=>cond (xs.length !=ys.length) (aa ag) ((eB D.jT xs).bind λp=>(eB D.jT ys).bind λq=>aa (p==q))) (λx=>.none) .none
noncomputable def one(y:Y)(f:Nat->Option α):Option α:=match y with|[c]=>f c|_=>.none
def j4(a b:D):Option Bool:=b.el .none (λz=>.none) (λz=>.none) (λz=>.none)
 (λx=>a.el .none (λz=>.none) (λi=>gd (0<=i/\i<256) (aa (x.contains i.toNat))) (λz=>.none) (λy=>one y λc=>aa (x.contains c)) (λz=>.none) (λz=>.none) .none)
 (λxs=>a.el .none (λi=>(eB D.bool? xs).bind λq=>aa (q.contains i)) (λi=>(eB D.int? xs).bind λq=>aa (q.contains i)) (λi=>(eB D.xM xs).bind λq=>aa (q.contains i)) (λz=>.none) (λz=>.none) (λz=>.none) .none)
 (λxs=>wY a λp=>(eB D.jT xs).bind λq=>aa (q.contains p)) .none
def EB(d:D):Bool:=d.el af (λx=>ag) (λx=>ag) (λx=>ag) (λx=>ag) (λx=>ag) (λx=>ag) ag
noncomputable def mS(x:Option Bool):Option Bool:=x.bind λt=>aa (!t)
def A4(f:Int->Int->Bool)(a b:D):Option Bool:=wI a λp=>wI b λq=>aa (f p q)
def FX(a b:D):Option Bool:=cond (EB b) (aa (EB a)) .none
def A5:tQ->D->D->Option Bool|.Eq=>yf|.NotEq=>λa b=>mS (yf a b)|.In=>j4|.NotIn=>λa b=>mS (j4 a b)|.Is=>FX|.IsNot=>λa b=>mS (FX a b)|.Lt=>A4 λp q=>decide (p<q)|.LtE=>A4 λp q=>decide (p<=q)|.Gt=>A4 λp q=>decide (p>q)|.GtE=>A4 λp q=>decide (p>=q)
noncomputable def jk(i:Int)(n:Nat):Option Nat:=if 0<=i then(if i<n then aa i.toNat else .none)else(if 0<=i+n then aa (i+n).toNat else .none)
def eZ(a i:D):Option D:=wI i λk=>a.el .none (λy=>.none) (λy=>.none) (λy=>.none) (λx=>((jk k x.length).bind λj=>x[j]?).bind λc:Nat=>aa (.int (c:Int)))
 (λxs=>((jk k xs.length).bind λj=>xs[j]?)) (λxs=>((jk k xs.length).bind λj=>xs[j]?)) .none
noncomputable def jV(i:Int)(n:Nat):Nat:=vA n i
noncomputable def lB{α:Type}(l:List α)(lo hi:Nat):List α:=(l.take hi).drop lo
def A6(o:D)(a n:Nat):Option Nat:=o.el (aa a) (λx=>.none) (λi=>gd (i.natAbs<4611686018427387904) (aa (jV i n))) (λx=>.none) (λx=>.none) (λx=>.none) (λx=>.none) .none
def dh(a lo hi:D):Option D:=a.el .none (λy=>.none) (λy=>.none) (λy=>.none) (λx=>(A6 lo 0 x.length).bind λl=>(A6 hi x.length x.length).bind λh=>aa (.bytes (lB x l h)))
 (λxs=>(A6 lo 0 xs.length).bind λl=>(A6 hi xs.length xs.length).bind λh=>aa (.list (lB xs l h))) (λy=>.none) .none
def c6(a b:D):Option D:=a.el .none (λz=>.none) (λx=>wI b λy=>aa (.int (x+y))) (λx=>wS b λy=>gd (x.length+y.length<=aI) (aa (.str (x++y)))) (λx=>wY b λy=>gd (x.length+y.length<=aI) (aa (.bytes (x++y))))
 (λx=>wL b λy=>gd (x.length+y.length<=aI) (aa (.list (x++y)))) (λz=>.none) .none
def Le(a b:D):Option D:=wI a λx=>wI b λy=>aa (.int (x-y))
def Kx(a b:D):Option D:=wI a λx=>wI b λy=>gd (0<y/\y<1073741824) (aa (.int (x.fdiv y)))
def xN(a b:D):Option D:=wI a λx=>wI b λy=>gd (0<y/\y<1073741824) (aa (.int (x.fmod y)))
def Lf(a:D):Option D:=wI a λx=>aa (.int (-x))
noncomputable def cP(a:Y):List Y->Y
 |[]=>[]
 |x::r=>match r with|[]=>x|_=>x++a++cP a r
noncomputable def fe(c:Nat):Y->List Y
 |[]=>[[]]
 |x::r=>if x=c then[]::fe c r else match fe c r with|p::ps=>(x::p)::ps|[]=>[[x]]
noncomputable def fw(cs:Y)(l:Y):Y:=(l.reverse.dropWhile (cs.contains ·)).reverse
noncomputable def ascii(l:Y):Bool:=l.all (·<128)
noncomputable def ph(c:Nat)(l:Y):List Y:=if l.contains c then[((l.reverse.dropWhile (· !=c)).drop 1).reverse,(l.reverse.takeWhile (· !=c)).reverse]else[l]
noncomputable def nZ(c:Nat):Bool:=c==32||(9<=c&&c<=13)
def uY(l:Y):Y:=((l.dropWhile nZ).reverse.dropWhile nZ).reverse
noncomputable def jQ(l:Y):Y:=cX [] (λx r a=>cond (([92,32]:Y).isPrefixOf (x::r)) a (x::a)) l
def xO(d:D):Option D:=d.el .none (λy=>.none) (λy=>.none) (λx=>aa (.int x.length)) (λx=>aa (.int x.length)) (λx=>aa (.int x.length)) (λy=>.none) .none
def JJ(d:D):Option D:=wL d λxs=>(eB D.int? xs).bind λl=>gd (l.all (λi=>0<=i&&i<256)) (aa (.bytes (l.map (·.toNat))))
def WA(a b:D):Option D:=wI a λx=>wI b λy=>aa (.int (min x y))
def WB(a b:D):Option D:=wI a λx=>wI b λy=>aa (.int (max x y))
def XP(a b:D):Option D:=wI a λx=>wI b λy=>gd (0<y/\y<1073741824) (aa (.tup [.int (x.fdiv y),.int (x.fmod y)]))
def UV(d:D):Option D:=wL d λl=>aa (.list l)
def A7(d:D):Option D:=wI d λi=>gd (0<=i/\i<128) (aa (.str [i.toNat]))
def UW(d:D):Option D:=d.bool?.bind λt=>aa (.bool t)
def Qv(d:D):Option D:=d.el .none (λx=>.none) (λx=>.none) (λx=>aa (.bool ag)) (λx=>aa (.bool af)) (λx=>.none) (λx=>.none) .none
def RI(d:D):Option D:=d.el (aa (.bool ag)) (λx=>aa (.bool af)) (λx=>.none) (λx=>.none) (λx=>.none) (λx=>.none) (λx=>.none) .none
def FY(d:D)(f:(Y->D)->(D->Option Y)->Y->Option α):Option α:=d.el .none (λx=>.none) (λx=>.none) (f .str D.xM) (f .bytes D.jT) (λx=>.none) (λx=>.none) .none
def Eb(d:D):Option D:=wY d λx=>gd (ascii x) (aa (.str x))
def I7(d:D):Option D:=wS d λx=>gd (ascii x) (aa (.bytes x))
def pF(d l:D):Option D:=FY d λc g s=>wL l λxs=>(eB g xs).bind λl=>gd ((cP s l).length<=aI) (aa (c (cP s l)))
def RJ(d e:D):Option D:=wY d λx=>wY e λy=>aa (.bool (y.isPrefixOf x))
def Kz(d e:D):Option D:=FY d λc g x=>(g e).bind λy=>aa (.bool (y.isSuffixOf x))
def I8(d e:D):Option D:=FY d λc g x=>(g e).bind λy=>aa (c (fw y x))
def Tl(d:D):Option D:=wY d λx=>aa (.bytes (uY x))
def ad4(d:D):Option D:=wY d λx=>aa (.bytes (jQ x))
def EC(d e:D):Option D:=FY d λc g x=>(g e).bind λy=>one y λk=>gd ((fe k x).length<=aI) (aa (.list ((fe k x).map c)))
def ad5(d e:D):Option D:=wY d λx=>wY e λy=>one y λk=>aa (.list ((ph k x).map .bytes))
noncomputable def nN(lo hi:Int):List D:=(fc (hi-lo).toNat).map λk:Nat=>D.int (lo+(k:Int))
def qT(a b:D):Option D:=wI a λp=>wI b λq=>gd (p.natAbs<1099511627776/\q.natAbs<1099511627776/\(q-p).toNat<=aI) (aa (.list (nN p q)))
def DB(d:D):Option D:=wL d λxs=>(eB D.jT xs).bind λl=>aa (.bool (l.all (·.isEmpty)))
noncomputable def ID:List (Y×Y):=
 [([97,108,110,117,109],[48,45,57,65,45,90,97,45,122]),([97,108,112,104,97],[65,45,90,97,45,122]),([98,108,97,110,107],[92,116,32]),
  ([99,110,116,114,108],[92,120,48,48,45,92,120,49,102,92,120,55,102]),([100,105,103,105,116],[48,45,57]),([103,114,97,112,104],[33,45,46,48,45,126]),
  ([108,111,119,101,114],[97,45,122]),([112,114,105,110,116],[32,45,46,48,45,126]),([112,117,110,99,116],[33,45,46,58,45,64,92,91,45,96,123,45,126]),
  ([115,112,97,99,101],[92,116,92,110,92,114,32]),([117,112,112,101,114],[65,45,90]),([120,100,105,103,105,116],[48,45,57,65,45,70,97,45,102])]
def kn(b:Y):Option Y:=ID.lookup b
def ad6(d:D):Option Bool:=wY d λb=>aa (kn b).isNone
def Tm(d:D):Option D:=wY d λb=>(kn b).bind λc=>aa (.bytes c)
def yg(d:D):Option D:=d.el .none (λy=>.none) (λy=>.none) (λy=>.none) (λx=>aa (.list (x.map λc:Nat=>D.int (c:Int)))) (λx=>aa (.list x)) (λx=>aa (.list x)) .none
def WC(d:D):Option D:=wL d λxs=>aa (.list xs.reverse)
def UX(d:D):Option D:=wL d λxs=>aa (.list (xs.zipIdx.map λp=>.tup [.int p.2,p.1]))
def pG(n:Nat):D->Option D|.inst C fs=>(((bx C).idxOf? n).bind λi=>fs[i]?)|_=>.none
end
noncomputable abbrev ar(i:Int):AV:=.val (.int i)
noncomputable abbrev aU(y:Y):AV:=.val (.bytes y)
noncomputable abbrev aR(b:Bool):AV:=.val (.bool b)
noncomputable abbrev cA(l:List D):AV:=.val (.list l)
noncomputable abbrev j5(y:Y):AV:=.val (.str y)
noncomputable abbrev Fn:=Nat->Rh->Ev Os
def X:=Fn->Rh->Tr D
def B:=Fn->Rh->Tr Bool
def T:=Fn->Rh->Tr Os
noncomputable def Tr.opt{α β:Type}(o:Option α)(f:α->Tr β):Tr β:=match o with|some a=>f a|none=>.no
def D.WD(d:D):Option (List D):=d.el .none (λx=>.none) (λx=>.none) (λx=>.none) (λx=>.none) (λx=>.none) aa .none
noncomputable def Fl.el{α:Type}(f:Fl)(n b c:α)(r:D->α):α:=Fl.casesOn (motive:=λx=>α) f n b c r
noncomputable def AV.el{α:Type}(a:AV)(u:α)(v:D->α)(o p:List D->α):α:=AV.casesOn (motive:=λx=>α) a u v o p
def tF(a:Option AV):Option D:=a.bind λa=>a.el ak aa (λx=>ak) (λx=>ak)
def tR(a:Option AV):Option D:=a.bind λa=>a.el ak aa (λl=>aa (.list l)) (λl=>aa (.list l))
def gC(a:Option AV):Option (List D):=a.bind λa=>a.el ak (λx=>ak) aa aa
def AV.rx(a:AV):AV:=a.el .U .val .da .da
def Fu(r:Rh)(i:Nat):Rh:=IX (motive:=λx=>Rh) r (λa=>a.el r (λx=>r) (λl=>r.set i (.val (.list l))) λx=>r) r[i]?
def jy(l:List Nat)(r:Rh):Rh:=l.foldl Fu r
def iH(f:Fl):Ev D:=f.el (.ok .none) .no .no .ok
def aV(F:Fn)(k:Nat)(ds:List D):Ev D:=(F k (ds.map .val)).bind λo=>iH o.1
noncomputable def fJ:List Nat->List D->Rh->Rh|i::is,d::ds,r=>fJ is ds (r.set i (.val d))|_,_,r=>r
def sM(is:List Nat)(d:D)(r:Rh):Option Rh:=d.WD.bind λds=>cond (is.length==ds.length) (aa (fJ is ds r)) ak
def iw(tup:Bool)(is:List Nat)(d:D)(r:Rh):Option Rh:=cond tup (sM is d r) (aa (r.set (is.headD 0) (.val d)))
def xj(a:Option AV):Bool:=IX (motive:=λx=>Bool) ag (λa=>a.el af (λx=>ag) (λx=>ag) λx=>ag) a
def mM(tup:Bool)(is:List Nat)(d:D)(r:Rh):Option Rh:=cond (is.all λi=>xj r[i]?) (iw tup is d r) ak
def lH(c:List X)(F:Fn)(r:Rh):Tr (List D):=cX (.ret []) (λa x b=>(a F r).bind λd=>b.bind λds=>.ret (d::ds)) c
def B.kH(c:Bool)(b:List B):B:=λF r=>cX (.ret c) (λa b d=>(a F r).bind λt=>cond (t==c) (cZ b (.ret t) λx x=>d) (.ret t)) b
def X.kH(e:Bool)(b:List X):X:=λF r=>cX .no (λa b c=>cZ b (a F r) λx x=>(a F r).bind λd=>(Tr.gZ (qZ d)).bind λt=>cond (t==e) c (.ret d)) b
namespace X
noncomputable def c(d:D):X:=λx x=>.ret d
noncomputable abbrev stuck:X:=λx x=>.no
def loc(i:Nat):X:=λx r=>.op (tF r[i]?)
def vw(i:Nat):X:=λx r=>.op (tR r[i]?)
def dG(f:D->Option D)(a:X):X:=λF r=>(a F r).bind λx=>.op (f x)
def fk(f:D->D->Option D)(a b:X):X:=λF r=>(a F r).bind λx=>(b F r).bind λy=>.op (f x y)
def fT(a lo hi:X):X:=λF r=>(a F r).bind λx=>(lo F r).bind λl=>(hi F r).bind λh=>.op (dh x l h)
def tup(a:List X):X:=λF r=>(lH a F r).bind λds=>.ret (.tup ds)
def list(a:List X):X:=λF r=>(lH a F r).bind λds=>.ret (.list ds)
def call(k:Nat)(a:List X):X:=λF r=>(lH a F r).bind λds=>.q (aV F k ds) .ret
def fields(C n:Nat)(r:Rh):Option D:=(cX (motive:=λx=>Option (List D)) (aa []) (λa x b=>(tR (aa a)).bind λd=>b.map (d::·)) ((r.drop n).take (bx C).length)).map (.inst C)
def new(C k n:Nat)(a:List X):X:=λF r=>(lH a F r).bind λds=>.q ((F k (.U::ds.map .val)).bind λo=>o.1.el (Ev.of (fields C n o.2)) .no .no λx=>.no) .ret
noncomputable def E0(ks:List (Nat×Nat)):D->Option Nat|.inst C _=>ks.lookup C|_=>ak
def rz(ks:List (Nat×Nat))(o:X)(a:List X):X:=λF r=>(o F r).bind λd=>.opt (E0 ks d) λk=>(lH a F r).bind λds=>.q (aV F k (d::ds)) .ret
def ite(c:B)(a b:X):X:=λF r=>(c F r).bind λt=>cond t (a F r) (b F r)
def bool(c:B):X:=λF r=>(c F r).bind λt=>.ret (.bool t)
def plain(d:D):Ev D:=d.el (.ok d) (λx=>.ok d) (λx=>.no) (λx=>.no) (λx=>.no) (λx=>.no) (λx=>.no) .no
def WE(k i:Nat)(a:List X):X:=λF r=>(loc i F r).bind λd=>(lH a F r).bind λds=>.q ((aV F k (.lam d::ds)).bind plain) .ret
noncomputable def alB:D->Option D|.lam d=>aa (.list [.tup [.int 0,d]])|_=>ak
def UY(i:Nat)(a:X):X:=λF r=>(loc i F r).bind λf=>.opt (alB f) λz=>(a F r).bind λx=>.ret z
end X
namespace B
def of(a:X):B:=λF r=>(a F r).bind λd=>.gZ (qZ d)
def cmp(c:tQ)(a b:X):B:=λF r=>(a F r).bind λx=>(b F r).bind λy=>.gZ (A5 c x y)
def pM(c e:tQ)(a b d:X):B:=λF r=>(a F r).bind λx=>(b F r).bind λy=>(Tr.gZ (A5 c x y)).bind λt=>cond t ((d F r).bind λz=>.gZ (A5 e y z)) (.ret ag)
def pos(a:X):B:=λF r=>(a F r).bind λd=>.gZ (ad6 d)
def not(a:B):B:=λF r=>(a F r).bind λt=>.ret (!t)
end B
structure Gn where
 tup:Bool
 is:List Nat
 it:X
 ifs:List B
def nU(F:Fn)(cs:List B)(r:Rh):Ev Bool:=cX (.ok af) (λc x a=>(c F r).run.bind λt=>cond t a (.ok ag)) cs
def n6(f:D->Ev (List D))(ai:List D):Ev (List D):=cX (.ok []) (λd x c=>(f d).bind λa=>c.bind λb=>.ok (a++b)) ai
def Mb(F:Fn)(a:X)(gs:List Gn):List D->Rh->Ev (List D):=cX (motive:=λx=>List D->Rh->Ev (List D)) (λx x=>.no) (λg gs b ai r=>n6 (λd=>(Ev.of (mM g.tup g.is d r)).bind λr=>(nU F g.ifs r).bind λt=>cond t
 (cZ (motive:=λx=>Ev (List D)) gs ((a F r).run.bind λe=>.ok [e]) λg' x=>(g'.it F r).run.bind λd=>(Ev.of d.jU).bind λai=>b ai r) (.ok [])) ai) gs
def Fv(cs:List Nat)(r:Rh):Option Rh:=cX (aa []) (λi x a=>(tF r[i]?).bind λd=>a.map (.val d::·)) cs
def X.comp(a:X)(g:Gn)(gs:List Gn)(cs:List Nat)(n:Nat):X:=λF r=>(g.it F r).bind λd=>.q ((Ev.of d.jU).bind λai=>(Ev.of (Fv cs r)).bind λc=>(Mb F a (g::gs) ai (c++eL n .U)).calm.bind λds=>Ev.of (gd (ds.length<=aI) (aa (.list ds)))) .ret
def gF(c:Rh->Ev Bool)(b:Rh->Ev Os)(n:Nat):Rh->Ev Os:=xq (λx=>.no) (λx a r=>(c r).bind λt=>cond t ((b r).bind λo=>o.1.el (a o.2) (.ok (.next,o.2)) (a o.2) λd=>.ok (.ret d,o.2)) (.ok (.next,r))) n
open Classical in
def wh(c:Rh->Ev Bool)(b:Rh->Ev Os)(r:Rh):Ev Os:=if h:∃n,gF c b n r≠.no then gF c b (choose h) r else .no
def fo(bd:D->Rh->Option Rh)(b:Rh->Ev Os)(ai:List D):Rh->Ev Os:=cX (λr=>.ok (.next,r)) (λd x a r=>(Ev.of (bd d r)).bind λr=>(b r).bind λo=>o.1.el (a o.2) (.ok (.next,o.2)) (a o.2) λd=>.ok (.ret d,o.2)) ai
def be(a:List T):T:=λF r=>cX (motive:=λx=>Rh->Tr Os) (λr=>.ret (.next,r)) (λt x b r=>(t F r).bind λo=>o.1.el (b o.2) (.ret o) (.ret o) λx=>.ret o) a r
namespace T
def asg(fz:List Nat)(i:Nat)(x:X):T:=λF r=>(x F (jy fz r)).bind λd=>.ret (.next,(jy fz r).set i (.val d))
def own(i:Nat)(x:X):T:=λF r=>(x F r).bind λd=>.opt d.jU λl=>.ret (.next,r.set i (.own l))
def Fw(fz is:List Nat)(x:X):T:=λF r=>(x F (jy fz r)).bind λd=>.opt (sM is d (jy fz r)) λr=>.ret (.next,r)
def aq3(fz is:List Nat)(xs:List X):T:=λF r=>(lH xs F (jy fz r)).bind λds=>.ret (.next,fJ is ds (jy fz r))
noncomputable def WF(is:List Nat):T:=λF r=>.ret (.next,is.foldl (λr i=>r.set i (.own [])) r)
def WG(i j:Nat)(x:X):T:=λF r=>(x F r).bind λd=>.ret (.next,(r.set i (.val d)).set j (.val d))
def UZ(a b:D):Option D:=a.el .none (λx=>.none) (λx=>c6 a b) (λx=>.none) (λx=>c6 a b) (λx=>.none) (λx=>.none) .none
def aug(i:Nat)(x:X):T:=λF r=>(X.loc i F r).bind λa=>(x F r).bind λd=>(Tr.op (UZ a d)).bind λd=>.ret (.next,r.set i (.val d))
def putL(a:AV)(l:List D):AV:=a.el .U .val (λx=>.own l) (λx=>.da l)
def app(fz:List Nat)(i:Nat)(x:X):T:=λF r=>.opt (jy fz r)[i]? λa=>.opt (gC (aa a)) λl=>(x F (jy fz r)).bind λd=>(Tr.gZ (gd (l.length<aI) (aa af))).bind λy=>.ret (.next,(jy fz r).set i (putL a (l++[d])))
def WH(i:Nat)(x:X):T:=λF r=>(x F r).bind λd=>.opt r[i]? λa=>.opt (gC (aa a)) λl=>(Tr.gZ (gd (0<l.length) (aa af))).bind λy=>.ret (.next,r.set i (putL a (l.dropLast++[d])))
def bk(w:Bool)(a b:AV):Option AV:=a.el (b.el (cond w (aa .U) ak) (λx=>ak) (λx=>ak) λx=>ak) (λx=>b.el ak (λd=>cond w (aa (.val d)) ak) (λx=>ak) λx=>ak) (λx=>b.el ak (λx=>ak) (λx=>ak) λl=>aa (.own l)) λx=>b.el ak (λx=>ak) (λx=>ak) λl=>aa (.da l)
def AJ(w:Bool)(r:Rh)(is:List Nat):Rh->Option Rh:=cX (motive:=λx=>Rh->Option Rh) (λx=>aa r) (λi x d c=>cZ c ak λa c=>(r[i]?.bind λb=>bk w b a).bind λa=>(d c).map (·.set i a)) is
def s7(w:Bool)(F:Fn)(k:Nat)(ds:List AV)(os:List Nat)(r:Rh):Ev Os:=((F k (ds++os.map λi=>((r[i]?).getD .U).rx)).bind λo=>(iH o.1).bind λd=>.ok (d,o.2)).bind λo=>Ev.of ((AJ w r os (o.2.drop ds.length)).map λr=>(.ret o.1,r))
def lend(is:List Nat)(k:Nat)(x y:X)(i j:Nat):T:=λF r=>.opt (gC r[i]?) λz=>.opt (gC r[j]?) λz=>(x F r).bind λd=>(y F r).bind λe=>.l (s7 ag F k [.val d,.val e] [i,j] r) λo=>o.1.el .no .no .no λd=>.opt (sM is d o.2) λr=>.ret (.next,r)
def U0(k:Nat)(a:X)(os:List Nat):T:=λF r=>(a F r).bind λd=>.l (s7 af F k [.U,.val d] os r) λo=>.ret (.next,o.2)
def ite(c:B)(a b:List T):T:=λF r=>(c F r).bind λt=>cond t (be a F r) (be b F r)
def«while»(c:B)(b:List T):T:=λF r=>.l (wh (λr=>(c F r).run) (λr=>(be b F r).run) r) .ret
def«for»(fz:List Nat)(tup:Bool)(is:List Nat)(it:X)(b:List T):T:=λF r=>(it F (jy fz r)).bind λd=>.opt d.jU λai=>.l (fo (iw tup is) (λr=>(be b F r).run) ai (jy fz r)) .ret
def ret(fz:List Nat)(x:X):T:=λF r=>(x F (jy fz r)).bind λd=>.ret (.ret d,jy fz r)
noncomputable def brk:T:=λF r=>.ret (.brk,r)
noncomputable def cont:T:=λF r=>.ret (.cont,r)
noncomputable def pass:T:=λF r=>.ret (.next,r)
def WI(x:X):T:=λF r=>(x F r).bind λy=>.q .exc λy=>.no
def To(i:Nat)(x:X):T:=λF r=>.l (match(x F r).run with|.ok d=>.ok (.next,r.set i (.val d))|.exc=>.ok (.ret .none,r)|.no=>.no) .ret
end T
structure Sc where
 ns:List aB
 tb:List (aB×lU)
 tab:Option (aJ×bQ×aB):=ak
 n7:Bool:=af
 own:List Nat:=[]
 fz:List (Nat×List Nat):=[]
 fs:Option (Nat×Nat):=ak
noncomputable def Sc.fK(σ:Sc)(n:aB):Bool:=(σ.tb.lookup n==aa .local||σ.tb.lookup n==aa .cell||σ.tb.lookup n==aa .free)&&!(n==("__debug__":aB))&&!(n==("__classdict__":aB))
noncomputable def Sc.ci(σ:Sc)(n:aB):Bool:=σ.tb.lookup n==aa .globalImplicit&&!(n==("__debug__":aB))
structure Wd where
 prog:Fo
 w:dM
 H0:bF
 XQ:dE
 gm:aB->Option aA
 bm:aB->Option aA
 fr:List (aJ×Obj)
 tabs:List (aJ×bQ×aB):=[]
 ng:Nat:=0
noncomputable abbrev Wd.M(W:Wd):Bk:=bH W.prog W.w
structure aT(W:Wd):Prop where
 glob:W.H0.Ns jc W.gm
 Bn:W.H0.Ns nH W.bm
 lim:W.H0.NoLimit
 size:W.H0.objs.size=FB
 full:∀b,b<FB->(W.H0.get? b).isSome=af
 fP:∀a o,W.fr.lookup a=aa o->W.H0.get? a=aa o
 Fx:∀a o,W.fr.lookup a=aa o->a<FB/\a∉TB
 xP:∀P p q,(P,p,q)∈W.tabs->q=vC P
 Lh:∀P p q p' q',(P,p,q)∈W.tabs->(P,p',q')∈W.tabs->p=p'
 JK:∀P∈TB,∃p q,(P,p,q)∈W.tabs
 bmain:∀P∈TB,W.H0.BuiltinsAt W.gm P
structure anW(q:aB)(p:bQ)(h:bF)(ps:Array aA)(c:aJ)(o:Obj)(vs:Array aA)(t:kR):Prop where
 e:ps=#[fg p.line,fg p.col,.ref c]
 g:h.get? c=aa o
 cl:o.cls=.type "code"
 d:o.data=.fields vs
 q:vs[1]?=aa (.str q t)
def Fy(l:List (aJ×bQ×aB))(h:bF):Prop:=∀P p q,(P,p,q)∈l->P∈TB/\∃ps,h.get? P=aa (tC ps)/\(ps=#[]\/∃c o vs t,anW q p h ps c o vs t)
theorem Fy.next(x:Fy l h)(k:∀b o vs,h.get? b=aa o->o.data=.fields vs->o.cls=.type "code"\/b∈TB->h'.get? b=aa o):Fy l h':=λP p q a=>
 have x:=x P p q a
 ⟨x.1,x.2.elim λps y=>⟨ps,k _ _ _ y.1 rfl (.inr x.1),y.2.imp id λz=>z.imp λc z=>z.imp λo z=>z.imp λvs z=>z.imp λt z=>⟨z.e,k _ _ _ z.g z.d (.inl z.cl),z.cl,z.d,z.q⟩⟩⟩
structure Inv(W:Wd)(s:aL):Prop where
 kp:Kp W.H0 s.heap
 bare:AllBare s.gens/\W.ng<=s.gens.size
 os:s.os=W.XQ
 tabs:Fy W.tabs s.heap
theorem lZ(x:h.Ns a m)(k:bZ Mt h h')(c:¬Mt a):h'.Ns a m:=x.elim λo x=>x.elim λes x=>x.elim λd x=>(k a o x.1 c).elim λb y=>⟨b,es,d,y.1,(y.2.data λz q=>nomatch x.2.1.symm.trans q).trans x.2.1,x.2.2⟩
section
variable{W:Wd}(K:aT W){s:aL}(I:Inv W s)
include K I
theorem Inv.glob:s.heap.Ns jc W.gm:=lZ K.glob I.kp id
theorem Inv.Bn:s.heap.Ns nH W.bm:=lZ K.Bn I.kp id
theorem Inv.lim:s.heap.NoLimit:=K.lim.elim λa x=>⟨a,lZ x.1 I.kp id,x.2⟩
theorem Inv.fP:∀a o,W.fr.lookup a=aa o->s.heap.get? a=aa o:=λa o e=>I.kp.get (K.fP a o e) id (.inr (K.Fx a o e).1) (.inr (K.Fx a o e).2)
theorem Inv.low(h:s.heap.get? b=ak):FB<=b:=ft.mp λq=>nomatch (h▸I.kp.bp (K.full b q) id)
end
def pN(A:dY)(n:Nat):Prop:=A.depth+8*n<900/\A.units+60*n<9000
def fy(env:fC)(h:bF)(n:aB)(v:aA):Prop:=(env.kindOf n=aa .local/\∃m,h.Ns env.locals m/\m n=aa v)\/((env.kindOf n=aa .cell\/env.kindOf n=aa .free)/\∃c,env.cells.lookup n=aa c/\h.IsCell c (aa v))
set_option genCtorIdx true in
inductive Ro where
 |x|l|c (n:aB)|o (i:Nat)|me
theorem cu{a b:Ro}{P:Prop}:a=b->(a.ctorIdx==b.ctorIdx)=ag->P:=ct Ro.ctorIdx
theorem cw{a b:Ro}{P:Prop}(h:aa a=aa b):(a.ctorIdx==b.ctorIdx)=ag->P:=cu (aM h)
theorem c1{a b:PySem.NameKind}{P:Prop}(h:aa a=aa b):(a.ctorIdx==b.ctorIdx)=ag->P:=ct PySem.NameKind.ctorIdx (aM h)
theorem c2{a b:PySem.NameKind}{P:Prop}:a=b->(a.ctorIdx==b.ctorIdx)=ag->P:=ct PySem.NameKind.ctorIdx
theorem c3{a b:PySem.Data}{P:Prop}:a=b->(a.ctorIdx==b.ctorIdx)=ag->P:=ct PySem.Data.ctorIdx
theorem c4{a b:aA}{P:Prop}:a=b->(a.ctorIdx==b.ctorIdx)=ag->P:=ct PySem.Value.ctorIdx
theorem c5{a b:AV}{P:Prop}:a=b->(a.ctorIdx==b.ctorIdx)=ag->P:=ct AV.ctorIdx
theorem dt{a b:D}{P:Prop}:a=b->(a.ctorIdx==b.ctorIdx)=ag->P:=ct D.ctorIdx
theorem du{α:Type}{a b:Ev α}{P:Prop}:a=b->(a.ctorIdx==b.ctorIdx)=ag->P:=ct Ev.ctorIdx
structure Q where
 A:dY
 σ:Sc
 env:fC
 G:aJ->Option Ro
 ρ:Rh
 ln:Nat->aJ
 me:aJ×aJ
def Q.X(q:Q)(b:aJ):Prop:=q.G b≠ak
def Q.my(q:Q)(b:aJ):Prop:=q.G b≠ak/\q.G b≠aa .x
def eQ(q:Q)(h:bF)(i:Nat)(a:AV)(v:aA):Prop:=a.el False (λd=>bq q.X h d v) (λxs=>∃a ai,v=.ref a/\q.G a=aa (.o i)/\bG h "list" a ai/\a9 q.X h xs ai) (λxs=>∃ai,v=.ref (q.ln i)/\q.G (q.ln i)=aa (.o i)/\bG h "list" (q.ln i) ai/\a9 q.X h xs ai)
def fQ(h:bF)(l:List fC):Prop:=∀e∈l,e.scope.kind≠.module/\∃L m,e.frame=aa L/\FB<=L/\h.Ns L m
structure Fs(W:Wd)(n:Nat)(A:dY)(σ:Sc)(env:fC):Prop where
 fn:env.scope.kind=.function
 gl:env.globals=jc
 bl:env.builtins=nH
 glob:∀n,σ.tb.lookup n=aa .globalImplicit->env.kindOf n=aa .globalImplicit
 loc:∀n,σ.tb.lookup n=aa .local->env.kindOf n=aa .local
 vS:∀n,(σ.tb.lookup n=aa .cell\/σ.tb.lookup n=aa .free)->(env.kindOf n=aa .cell\/env.kindOf n=aa .free)/\(env.cells.lookup n).isSome=af
 room:pN A n
 hd:A.handled=ak
 ff:∃L,env.frame=aa L
 code:∀P p t,σ.tab=aa (P,p,t)->(P,p,t)∈W.tabs/\(∃c,env.code=.ref c/\AZ W.H0 c P)/\env.qual++(if σ.n7 then("<lambda>":aB)else("<genexpr>":aB))=t
structure Me(q:Q)(h:bF)(C m:Nat)(vs:List aA):Prop where
 i:lz h C q.me.1 q.me.2 vs
 g1:q.G q.me.1=aa .me
 g2:q.G q.me.2=aa .me
 ne:q.me.1≠q.me.2
 s:fy q.env h "self" (.ref q.me.1)
 n:∀i nm,i<(bx C).length->q.σ.ns[m+i]?=aa nm->q.σ.tb.lookup nm=ak
 f:∀i a,i<(bx C).length->q.ρ[m+i]?=aa a->(a=.U/\vs.length<=i)\/∃v,vs[i]?=aa v/\eQ q h (m+i) a v
def pO(q:Q)(h:bF):Prop:=∀C m,q.σ.fs=aa (C,m)->∃vs,Me q h C m vs
def Rc(σ:Sc)(G:aJ->Option Ro)(n:aB)(c:aJ):Prop:=G c=aa (.c n)\/(G c=aa .x/\σ.tb.lookup n≠aa .cell)
theorem Rc.map(x:Rc σ G n c)(h:∀r,G c=aa r->(∀i,r≠.o i)->G' c=aa r):Rc σ G' n c:=x.imp (λe=>h _ e λy=>nofun) λz=>⟨h _ z.1 λy=>nofun,z.2⟩
theorem Rc.no(x:Rc σ G n c)(e:G c=aa (.o i)):False:=x.elim (λz=>nomatch z.symm.trans e) λz=>nomatch z.1.symm.trans e
structure jp(W:Wd)(n:Nat)(q:Q)(s:aL):Prop where
 fs:Fs W n q.A q.σ q.env
 rl:q.G q.env.locals=aa .l
 rc:∀n c,(n,c)∈q.env.cells->Rc q.σ q.G n c
 len:q.ρ.length=q.σ.ns.length
 ns:∃m,s.heap.Ns q.env.locals m
 cell:∀n c,(n,c)∈q.env.cells->∃v,s.heap.IsCell c v
 at_:∀i n a,q.σ.ns[i]?=aa n->q.σ.tb.lookup n≠ak->q.ρ[i]?=aa a->a=.U\/∃v,fy q.env s.heap n v/\eQ q s.heap i a v
 old:∀b,q.X b->(s.heap.get? b).isSome=af/\FB<=b
 hf:∃l,q.A.frames=aa l/\fQ s.heap l
 inv:Inv W s
 me:pO q s.heap
structure Nx(W:Wd)(s s':aL):Prop where
 k:Kp s.heap s'.heap
 i:Inv W s'
structure Gr(s s':aL):Prop where
 keep:∀b o,s.heap.get? b=aa o->s'.heap.get? b=aa o
 gens:s'.gens=s.gens
 os:s'.os=s.os
section
theorem Gr.refl(s:aL):Gr s s:=⟨λx x e=>e,rfl,rfl⟩
theorem Gr.trans(x:Gr s ao)(y:Gr ao s'):Gr s s':=⟨λb o e=>y.keep b o (x.keep b o e),y.gens.trans x.gens,y.os.trans x.os⟩
theorem Gr.tok(s:aL)(t:Nat):Gr s {s with toks:=t}:=⟨λx x e=>e,rfl,rfl⟩
theorem Gr.heap(s:aL)(h:bF)(t:Nat)(k:∀b o,s.heap.get? b=aa o->h.get? b=aa o):Gr s {s with heap:=h,toks:=t}:=⟨k,rfl,rfl⟩
theorem Gr.kp(x:Gr s s')(Mt:aJ->Prop):bZ Mt s.heap s'.heap:=.keeps x.keep
theorem Gr.inv(x:Gr s s')(I:Inv W s):Inv W s':=⟨I.kp.trans (x.kp _),x.gens▸I.bare,x.os.trans I.os,I.tabs.next λb o y e y y=>x.keep b o e⟩
theorem Gr.nx(x:Gr s s')(I:Inv W s):Nx W s s':=⟨x.kp _,x.inv I⟩
theorem Nx.trans(x:Nx W s ao)(y:Nx W ao s'):Nx W s s':=⟨x.k.trans y.k,y.i⟩
theorem Nx.refl(I:Inv W s):Nx W s s:=⟨.refl,I⟩
theorem fQ.kp(x:fQ h l)(k:Kp h h'):fQ h' l:=λe a=>⟨(x e a).1,(x e a).2.imp λL y=>y.imp λm y=>⟨y.1,y.2.1,lZ y.2.2 k id⟩⟩
theorem fQ.frames(x:fQ h l){b:aJ}(hb:b∈l.filterMap (·.frame)):FB<=b/\∃m,h.Ns b m:=(Ox.mp hb).elim λe a=>(x e a.1).2.elim λL y=>y.elim λm y=>aM (y.1.symm.trans a.2)▸⟨y.2.1,m,y.2.2⟩
theorem fQ.PL{h:bF}:∀{l:List fC},fQ h l->h.FunFrames {} l|[],_=>trivial|e::l,x=>have y:=x e (.head _);⟨y.1,y.2.elim λL y=>y.elim λm y=>y.2.2.elim λo z=>z.elim λes z=>z.elim λb z=>⟨L,o,y.1,by simp[anQ],z.1,λvs q=>nomatch z.2.1.symm.trans q⟩,fQ.PL λe a=>x e (.tail _ a)⟩
theorem k9(x:fy env h n v)(k:bZ Mt h h')(a:¬Mt env.locals)(hc:∀n c,(n,c)∈env.cells->¬Mt c):fy env h' n v:=x.imp (λx=>⟨x.1,x.2.imp λm y=>⟨lZ y.1 k a,y.2⟩⟩) λx=>⟨x.1,x.2.imp λc y=>⟨y.1,o8 y.2 k (hc n c (mem_of_lookup y.1))⟩⟩
theorem eQ.mv(x:eQ q h i a v)(t:Tp q.X h q'.X h')(k:∀a ai,q.G a=aa (.o i)->bG h "list" a ai->q'.G a=aa (.o i)/\bG h' "list" a ai)(e:q'.ln=q.ln):eQ q' h' i a v:=by cases a with|U=>exact x|val d=>exact bq.mv t x|own xs=>exact x.imp λa x=>x.imp λai x=>⟨x.1,(k a ai x.2.1 x.2.2.1).1,(k a ai x.2.1 x.2.2.1).2,x.2.2.2.mv t⟩|da xs=>exact x.imp λai x=>e▸⟨x.1,(k _ ai x.2.1 x.2.2.1).1,(k _ ai x.2.1 x.2.2.1).2,x.2.2.2.mv t⟩
theorem pO.mv(x:pO q h)(t:Tp q.X h (λb=>G' b≠ak) h')(p:bZ Mt h h')(c:∀b,q.G b=aa .me->¬Mt b)(l:∀v,fy q.env h "self" v->fy q.env h' "self" v)
  (k:∀a j ai,(∀nm,q.σ.ns[j]?=aa nm->q.σ.tb.lookup nm=ak)->q.G a=aa (.o j)->bG h "list" a ai->G' a=aa (.o j)/\bG h' "list" a ai) (g:∀b,q.G b=aa .me->G' b=aa .me):pO {q with G:=G'} h':=λC m e=>(x C m e).imp λvs z=>
 {z with i:=z.i.kp p (c _ z.g1) (c _ z.g2),g1:=g _ z.g1,g2:=g _ z.g2,s:=l _ z.s,f:=λi a d r=>(z.f i a d r).imp id λy=>y.imp λv y=>⟨y.1,y.2.mv t (λa ai=>k a (m+i) ai λnm h=>z.n i nm d h) rfl⟩}
theorem pO.set(x:pO q h)(g:q.σ.ns[i]?=aa nm)(h2:q.σ.tb.lookup nm≠ak):pO {q with ρ:=q.ρ.set i a} h:=λC m e=>(x C m e).imp λvs z=>{z with f:=λj b d hb=>(z.f j b d ((uv λe=>h2 (z.n j nm d (by rw[<-e];exact g))).symm.trans hb)).imp id λy=>y.imp λv y=>⟨y.1,y.2.mv (.sub λc c c=>id) (λc c e z=>⟨e,z⟩) rfl⟩}
theorem jp.nx(H:jp W n q s)(k:Nx W s s'):jp W n q s' where
 fs:=H.fs
 rl:=H.rl
 rc:=H.rc
 len:=H.len
 ns:=H.ns.imp λm f=>lZ f k.k id
 cell:=λn c hc=>(H.cell n c hc).imp λv d=>o8 d k.k id
 at_:=λi n a h h2 g=>(H.at_ i n a h h2 g).imp id λx=>x.imp λv x=>⟨k9 x.1 k.k id λy y y=>id,x.2.mv (.kp k.k) (λa ai e z=>⟨e,z.kp k.k id⟩) rfl⟩
 old:=λb hb=>⟨k.k.bp (H.old b hb).1 id,(H.old b hb).2⟩
 hf:=H.hf.imp λl x=>⟨x.1,x.2.kp k.k⟩
 inv:=k.i
 me:=H.me.mv (.kp k.k) k.k (λy y=>id) (λv x=>k9 x k.k id λy y y=>id) (λa j ai y e z=>⟨e,z.kp k.k id⟩) λy=>id
theorem jp.units(H:jp W n q s):q.A.units<cLine:=jb (bn (cB _ _) H.fs.room.2) (eX rfl)
end
end
section
open PySem PySem.W PySem.Calls PyProof.Rows PySem.Builtin
theorem nI{A:Type} [h:Nonempty A]:Nonempty A:=h
theorem xQ:Nonempty dM:=⟨⟨λx x=>0,⟨λx=>0,λx=>0,id,λx=>0,λx x=>0,λx=>ag,λx=>0,.refcount,.text,λx=>0,λx=>ak,λx=>ag,λx x x=>af,λx x x=>af,af,λx=>ag,λx=>ak,λx=>ak,λx x x=>0,λx x=>ak,λx=>ak,λx=>(0,ag,"UTC"),λx=>ak,λd=>d,λx=>ag⟩⟩⟩
theorem n8:Nonempty aL:=⟨{}⟩
theorem WJ:Nonempty AV:=⟨.U⟩
theorem FZ:Nonempty D:=⟨.none⟩
theorem Li:Nonempty Sc:=⟨⟨[],[],ak,af,[],[],ak⟩⟩
theorem xR:Nonempty dY:=⟨{}⟩
theorem yh:Nonempty Q:=xR.elim λa=>Li.elim λs=>⟨⟨a,s,default,λx=>ak,[],id,(0,0)⟩⟩
theorem rA:Nonempty Wd:=xQ.elim λw=>⟨⟨Y9,w,{},{},λx=>ak,λx=>ak,[],[],0⟩⟩
theorem aO{A B:Type}(x:Nonempty A)(y:Nonempty B):Nonempty (A×B):=x.elim λa=>y.elim λb=>⟨(a,b)⟩
noncomputable def rB{A:Type}(ne:Nonempty A)(p:A->Prop):A:=@aa0 A ne λx=>¬p x
theorem tG{A:Type}{ne:Nonempty A}{p:A->Prop}(h:p (rB ne p))(x:A):p x:=ZF λn=>@ZN A (λx=>¬p x) ⟨x,n⟩ h
def vT{A:Type}(P:A->Prop)(ne:Nonempty (A)):A:=rB ne λx=>P x
theorem yi{A:Type}(P:A->Prop){ne:Nonempty (A)}(t:P (vT P ne)){a}:P a:=tG (p:=λx=>P x) t a
def tS{A B:Type}(P:A->B->Prop)(ne:Nonempty (A×B)):A×B:=rB ne λx=>P x.1 x.2
theorem yj{A B:Type}(P:A->B->Prop){ne:Nonempty (A×B)}(t:P (tS P ne).1 (tS P ne).2){a b}:P a b:=tG (p:=λx=>P x.1 x.2) t (a,b)
def tT{A B C:Type}(P:A->B->C->Prop)(ne:Nonempty (A×B×C)):A×B×C:=rB ne λx=>P x.1 x.2.1 x.2.2
theorem Bo{A B C:Type}(P:A->B->C->Prop){ne:Nonempty (A×B×C)}(t:P (tT P ne).1 (tT P ne).2.1 (tT P ne).2.2){a b c}:P a b c:=tG (p:=λx=>P x.1 x.2.1 x.2.2) t (a,b,c)
def mo{A B C D:Type}(P:A->B->C->D->Prop)(ne:Nonempty (A×B×C×D)):A×B×C×D:=rB ne λx=>P x.1 x.2.1 x.2.2.1 x.2.2.2
theorem rH{A B C D:Type}(P:A->B->C->D->Prop){ne:Nonempty (A×B×C×D)}(t:P (mo P ne).1 (mo P ne).2.1 (mo P ne).2.2.1 (mo P ne).2.2.2){a b c d}:P a b c d:=tG (p:=λx=>P x.1 x.2.1 x.2.2.1 x.2.2.2) t (a,b,c,d)
def p8{A B C D E:Type}(P:A->B->C->D->E->Prop)(ne:Nonempty (A×B×C×D×E)):A×B×C×D×E:=rB ne λx=>P x.1 x.2.1 x.2.2.1 x.2.2.2.1 x.2.2.2.2
theorem Bp{A B C D E:Type}(P:A->B->C->D->E->Prop){ne:Nonempty (A×B×C×D×E)}(t:P (p8 P ne).1 (p8 P ne).2.1 (p8 P ne).2.2.1 (p8 P ne).2.2.2.1 (p8 P ne).2.2.2.2){a b c d e}:P a b c d e:=tG (p:=λx=>P x.1 x.2.1 x.2.2.1 x.2.2.2.1 x.2.2.2.2) t (a,b,c,d,e)
def rI{A B C D E F G:Type}(P:A->B->C->D->E->F->G->Prop)(ne:Nonempty (A×B×C×D×E×F×G)):A×B×C×D×E×F×G:=rB ne λx=>P x.1 x.2.1 x.2.2.1 x.2.2.2.1 x.2.2.2.2.1 x.2.2.2.2.2.1 x.2.2.2.2.2.2
theorem XR{A B C D E F G:Type}(P:A->B->C->D->E->F->G->Prop){ne:Nonempty (A×B×C×D×E×F×G)}(t:P (rI P ne).1 (rI P ne).2.1 (rI P ne).2.2.1 (rI P ne).2.2.2.1 (rI P ne).2.2.2.2.1 (rI P ne).2.2.2.2.2.1 (rI P ne).2.2.2.2.2.2){a b c d e f g}:P a b c d e f g:=tG (p:=λx=>P x.1 x.2.1 x.2.2.1 x.2.2.2.1 x.2.2.2.2.1 x.2.2.2.2.2.1 x.2.2.2.2.2.2) t (a,b,c,d,e,f,g)
def rJ{A B C D E F G H:Type}(P:A->B->C->D->E->F->G->H->Prop)(ne:Nonempty (A×B×C×D×E×F×G×H)):A×B×C×D×E×F×G×H:=rB ne λx=>P x.1 x.2.1 x.2.2.1 x.2.2.2.1 x.2.2.2.2.1 x.2.2.2.2.2.1 x.2.2.2.2.2.2.1 x.2.2.2.2.2.2.2
theorem hC8{A B C D E F G H:Type}(P:A->B->C->D->E->F->G->H->Prop){ne:Nonempty (A×B×C×D×E×F×G×H)}(t:P (rJ P ne).1 (rJ P ne).2.1 (rJ P ne).2.2.1 (rJ P ne).2.2.2.1 (rJ P ne).2.2.2.2.1 (rJ P ne).2.2.2.2.2.1 (rJ P ne).2.2.2.2.2.2.1 (rJ P ne).2.2.2.2.2.2.2){a b c d e f g h}:P a b c d e f g h:=tG (p:=λx=>P x.1 x.2.1 x.2.2.1 x.2.2.2.1 x.2.2.2.2.1 x.2.2.2.2.2.1 x.2.2.2.2.2.2.1 x.2.2.2.2.2.2.2) t (a,b,c,d,e,f,g,h)
def j6{A B C D E F G H I:Type}(P:A->B->C->D->E->F->G->H->I->Prop)(ne:Nonempty (A×B×C×D×E×F×G×H×I)):A×B×C×D×E×F×G×H×I:=rB ne λx=>P x.1 x.2.1 x.2.2.1 x.2.2.2.1 x.2.2.2.2.1 x.2.2.2.2.2.1 x.2.2.2.2.2.2.1 x.2.2.2.2.2.2.2.1 x.2.2.2.2.2.2.2.2
theorem vU{A B C D E F G H I:Type}(P:A->B->C->D->E->F->G->H->I->Prop){ne:Nonempty (A×B×C×D×E×F×G×H×I)}(t:P (j6 P ne).1 (j6 P ne).2.1 (j6 P ne).2.2.1 (j6 P ne).2.2.2.1 (j6 P ne).2.2.2.2.1 (j6 P ne).2.2.2.2.2.1 (j6 P ne).2.2.2.2.2.2.1 (j6 P ne).2.2.2.2.2.2.2.1 (j6 P ne).2.2.2.2.2.2.2.2){a b c d e f g h i}:P a b c d e f g h i:=tG (p:=λx=>P x.1 x.2.1 x.2.2.1 x.2.2.2.1 x.2.2.2.2.1 x.2.2.2.2.2.1 x.2.2.2.2.2.2.1 x.2.2.2.2.2.2.2.1 x.2.2.2.2.2.2.2.2) t (a,b,c,d,e,f,g,h,i)
end
section
open PySem PySem.W PySem.Calls PyProof.Rows PySem.Builtin PySem.MeetsSeq
def Vw(X:aJ->Prop)(h:bF)(d:D)(v:aA):Prop:=bq X h d v\/∃xs a ai,d=.list xs/\v=.ref a/\bG h "list" a ai/\a9 X h xs ai
@[elab_as_elim] theorem jW {α:Type} {d:D} {f:Int->Option α} {a:α} {P:D->Prop} (h:wI d f=aa a) (k:∀i,f i=aa a->P (.int i)):P d:=(cG.mp h).elim λx p=>ae (D.I6 p.1) (k _ p.2)
@[elab_as_elim] theorem vj {α:Type} {d:D} {f:Y->Option α} {a:α} {P:D->Prop} (h:wY d f=aa a) (k:∀i,f i=aa a->P (.bytes i)):P d:=(cG.mp h).elim λx p=>ae (D.PK p.1) (k _ p.2)
@[elab_as_elim] theorem KA {α:Type} {d:D} {f:Y->Option α} {a:α} {P:D->Prop} (h:wS d f=aa a) (k:∀i,f i=aa a->P (.str i)):P d:=(cG.mp h).elim λx p=>ae (D.RH p.1) (k _ p.2)
@[elab_as_elim] theorem q7 {α:Type} {d:D} {f:List D->Option α} {a:α} {P:D->Prop} (h:wL d f=aa a) (k:∀i,f i=aa a->P (.list i)):P d:=(cG.mp h).elim λx p=>ae (D.IC p.1) (k _ p.2)
@[elab_as_elim] theorem fN {α:Type} {c:Prop} [Decidable c] {x a:α} {P:α->Prop} (h:gd c (aa x)=aa a) (k:c->P x):P a:=by unfold gd at h;cases hc:decide c with|true=>have h:=hc▸h;exact am (aM h) (k (eX hc))|false=>have h:=hc▸h;cases h
theorem U1{α:Type} [Decidable c]{x:α}(h:c):gd c (aa x)=aa x:=by unfold gd;refine ae (gN h) ?_;rfl
@[elab_as_elim] theorem cY {α:Type} {x a:α} {P:α->Prop} (h:aa x=aa a) (k:P x):P a:=am (aM h) k
section
variable{X:aJ->Prop}
theorem Vw.rep(x:Vw X h d v)(hd:∀xs,d≠.list xs):bq X h d v:=x.elim id λq=>q.elim λxs q=>q.elim λy q=>q.elim λy q=>aC q.1 (hd xs)
theorem Vw.i{i:Int}(x:Vw X h (.int i) v):∃t,v=.int i t:=x.rep (λ_ h=>dt h rfl)
theorem Vw.b(x:Vw X h (.bytes y) v):∃b t,v=.bytes b t/\b.toList.map bR=y/\b.size<=aI:=(x.rep (λ_ h=>dt h rfl)).imp λb x=>x.imp λt x=>⟨x.1,x.2.1,by simpa [<-x.2.1]using x.2.2⟩
theorem Vw.s(x:Vw X h (.str y) v):∃b t,v=.str b t/\b.cps.toList=y/\b.cps.size<=aI:=(x.rep (λ_ h=>dt h rfl)).imp λb x=>x.imp λt x=>⟨x.1,x.2.1,by simpa [<-x.2.1]using x.2.2⟩
theorem Vw.l(x:Vw X h (.list xs) v):∃a ai,v=.ref a/\bG h "list" a ai/\a9 X h xs ai:=x.elim (λx=>x.imp λa x=>x.imp λai x=>⟨x.1,x.2.2.1,x.2.2.2⟩) λ⟨b,a,ai,e,x⟩=>⟨a,ai,(aj D.jU e)|>aM|>(·▸x)⟩
theorem Vw.t(x:Vw X h (.tup xs) v):∃a ai,v=.ref a/\bG h "tuple" a ai/\a9 X h xs ai:=(x.rep (λ_ h=>dt h rfl)).imp λa x=>x.imp λai x=>⟨x.1,x.2.2.1,x.2.2.2⟩
theorem Vw.mv(k:Kp h h')(x:Vw X h d v):Vw X h' d v:=x.imp (·.mv (.kp k)) λx=>x.imp λb x=>x.imp λa x=>x.imp λai x=>⟨x.1,x.2.1,x.2.2.1.kp k id,x.2.2.2.mv (.kp k)⟩
@[elab_as_elim] theorem Vw.iE {P:aA->Prop} {i:Int} (x:Vw X h (.int i) v) (k:∀t,P (.int i t)):P v:=x.i.elim λt e=>ae e (k t)
@[elab_as_elim] theorem Vw.nE {P:aA->Prop} (x:Vw X h .none v) (k:P .none):P v:=ae (show v=.none from x.rep (λ_ h=>dt h rfl)) k
@[elab_as_elim] theorem Vw.fE {P:aA->Prop} {b:Bool} (x:Vw X h (.bool b) v) (k:P (.bool b)):P v:=ae (show v=.bool b from x.rep (λ_ h=>dt h rfl)) k
@[elab_as_elim] theorem Vw.bE {P:Y->aA->Prop} (x:Vw X h (.bytes y) v) (k:∀b t,b.size<=aI->P (b.toList.map bR) (.bytes b t)):P y v:=x.b.elim λb x=>x.elim λt x=>ae x.1 (am x.2.1 (k b t x.2.2))
@[elab_as_elim] theorem Vw.sE {P:Y->aA->Prop} (x:Vw X h (.str y) v) (k:∀b t,b.cps.size<=aI->P b.cps.toList (.str b t)):P y v:=x.s.elim λb x=>x.elim λt x=>ae x.1 (am x.2.1 (k b t x.2.2))
@[elab_as_elim] theorem Vw.lE {P:aA->Prop} (x:Vw X h (.list xs) v) (k:∀a ai,bG h "list" a ai->a9 X h xs ai->P (.ref a)):P v:=x.l.elim λb x=>x.elim λt x=>ae x.1 (k b t x.2.1 x.2.2)
@[elab_as_elim] theorem Vw.tE {P:aA->Prop} (x:Vw X h (.tup xs) v) (k:∀a ai,bG h "tuple" a ai->a9 X h xs ai->P (.ref a)):P v:=x.t.elim λb x=>x.elim λt x=>ae x.1 (k b t x.2.1 x.2.2)
theorem im(i:Int)(t:kR):bq X h (.int i) (.int i t):=⟨t,rfl⟩
theorem q8(b:Bool):bq X h (.bool b) (.bool b):=rfl
theorem qU(t:kR)(a:b.size<=aI):bq X h (.bytes (b.toList.map bR)) (.bytes b t):=⟨b,t,rfl,rfl,by simpa using a⟩
theorem A8(t:kR)(a:x.cps.size<=aI):bq X h (.str x.cps.toList) (.str x t):=⟨x,t,rfl,rfl,a⟩
end
theorem n9{X:aJ->Prop}(n:¬X a)(r:a9 X h xs ai):(bG h "list" a ai->bq X h (.list xs) (.ref a))/\(bG h "tuple" a ai->bq X h (.tup xs) (.ref a)):=⟨λs=>⟨a,ai,rfl,n,s,r⟩,λs=>⟨a,ai,rfl,n,s,r⟩⟩
theorem gQ(h:n<=aI):n<=je:=aw h (eX rfl)
theorem Aj(h:n<=aI):(n:Int)<2^63:=Int.lt_of_le_of_lt (qH.mpr h) (eX rfl)
theorem Tq(h:n<=aI):n<=1099511627776:=aw h (eX rfl)
theorem eh(h:bF):h.get? h.objs.size=ak:=ux (bO _)
theorem sN{X:aJ->Prop}{T:String}(a:a9 X s.heap xs ai.toList)(c:ai.size<=aI)(t:Nat):
  Gr s {s with heap:=s.heap.push {cls:=.type T,data:=.seq ai},toks:=t}/\bG (s.heap.push {cls:=.type T,data:=.seq ai}) T s.heap.objs.size ai.toList/\a9 X (s.heap.push {cls:=.type T,data:=.seq ai}) xs ai.toList:=
 have g:=λb o e=>dA _ e
 ⟨.heap _ _ _ g,⟨0,gk _ rfl,c⟩,a.mv (.kp (.keeps g))⟩
abbrev Wt(β:Type):=(β->aL->Prop)->(bI)->aL->Prop
def Gv(X:aJ->Prop)(s:aL)(d:D)(w:Wt aA):Prop:=∀Q E,(∀y s',Gr s s'->bq X s'.heap d y->Q y s')->w Q E s
section
variable{X:aJ->Prop}
@[elab_as_elim] theorem RK {P:D->D->D->Prop} (e:c6 a b=aa d) (i:∀i j,P (.int i) (.int j) (.int (i+j))) (s:∀x y,x.length+y.length<=aI->P (.str x) (.str y) (.str (x++y)))
  (y:∀x y,x.length+y.length<=aI->P (.bytes x) (.bytes y) (.bytes (x++y))) (l:∀x y,x.length+y.length<=aI->P (.list x) (.list y) (.list (x++y))):P a b d:=
 D.casesOn (motive_1:=λa=>c6 a b=aa d->P a b d) a aN (λz=>aN) (λx e=>jW (P:=λb=>P _ b d) e λy e=>cY e (i x y)) (λx e=>KA (P:=λb=>P _ b d) e λz e=>fN e (s x _)) (λx e=>vj (P:=λb=>P _ b d) e λz e=>fN e (y x _))
  (λx e=>q7 (P:=λb=>P _ b d) e λz e=>fN e (l x _)) (λz=>aN) (λz z=>aN) (λz=>aN) e
theorem Ts(l:∀b,X b->(s.heap.get? b).isSome=af)(e:c6 a b=aa d):Vw X s.heap a v->Vw X s.heap b u->Gv X s d (ay (bH prog w) A (pC .Add v u)):=by
 refine RK e ?_ ?_ ?_ ?_
 ·exactλi j p q=>p.iE λx=>q.iE λx Q E k=>aqx (k _ _ (.tok _ _) (im _ _))
 ·refineλx y f p q=>p.sE (λb x x f=>q.sE (λc x x f Q E k=>?_) f) f;have f:=jG▸jG▸f;exact aqy (λx x=>k _ _ (.tok _ _) (am Ce (A8 _ (ae G9 f)))) (aw f (eX rfl))
 ·refineλx y f p q=>p.bE (λb x x f=>q.bE (λc x x f Q E k=>?_) f) f;rw[aW,aW,jG,jG]at f;exact KBy.add_bytes (aw f (eX rfl)) λx x=>k _ _ (.tok _ _) (am cU (Ce▸qU _ (ae G9 f)))
 ·refineλx y f p q=>p.lE λa ai g r=>q.lE λt o g' h=>g.elim λn g=>g'.elim λm g' Q E k=>?_;have f:=h.length.symm▸r.length.symm▸f;have z:=sN (T:="list") (r.append h) (aw (cJ aS) f) s.toks;exact P.add_list g.1 g'.1 (ae (Oe ..) (k _ _ z.1 ((n9 (λq=>nomatch (eh _).symm▸l _ q) z.2.2).1 z.2.1))) (aw f (eX rfl))
end
theorem Ec(x:aB):x.length=x.cps.toList.length:=by simp[Ti]
theorem XS{α:Type}(l:List α):(((l.length:Nat):Int) !=0)=!l.isEmpty:=by cases l<;>rfl
theorem Qw{α β:Type}{l:List α}{a:List β}(h:l.length=a.length):l.isEmpty=a.isEmpty:=by cases l<;>cases a<;>first|rfl|cases h
section
variable{X:aJ->Prop}
theorem H8{Q:Bool->aL->Prop}(x:Vw X s.heap d v)(e:qZ d=aa t)(a:∀s',Gr s s'->Q t s'):ay (bH prog w) A (xL v) Q E s:=by
 refine D.casesOn d ?_ ?_ ?_ ?_ ?_ ?_ ?_ (λy y y=>aN) (λy y=>aN) x e
 ·exactλx e=>ae (x.rep (λ_ h=>dt h rfl)) (truthy_none (aM (e)▸a _ (.refl _)))
 ·exactλb x e=>ae (x.rep (λ_ h=>dt h rfl)) (uA (aM e▸a _ (.refl _)))
 ·exactλi x e=>x.iE λy=>truthy_int (ae (aM e) (a _ (.refl _)))
 ·exactλy x e=>x.sE (λb y c e=>P.truthy_str (by rw[Ec];exact D7.mpr (Aj c)) (by rw[Ec,XS];exact ae (aM e) (a _ (.tok _ _)))) e
 ·exactλy x e=>x.bE (λb y c e=>truthy_bytes (Tq c) (by refine ae (show b.size=(b.toList.map bR).length by simp) ?_;rw[XS];exact ae (aM e) (a _ (.tok _ _)))) e
 ·exactλf x e=>x.lE λy ai g r=>wpAny_truthy_list g.isList (Aj g.lim) (by rw[ace,Qw r.length];exact ae (aM e) (a _ (.tok _ _)))
 ·exactλf x e=>x.tE λy ai g r=>truthy_tuple g.isTup (Aj g.lim) (by rw[ace,Qw r.length];exact ae (aM e) (a _ (.tok _ _)))
theorem w8{f:Int->Int->Option D}{m:aA->aA->dC aA}(e:(wI a λi=>wI b λj=>f i j)=aa d)(p:Vw X s.heap a v)(q:Vw X s.heap b u)
  (k:∀i j t c,f i j=aa d->Gv X s d (ay (bH prog w) A (m (.int i t) (.int j c)))):Gv X s d (ay (bH prog w) A (m v u)):=
 jW e (λi e p=>jW e (λj e q=>p.iE λt=>q.iE λc=>k i j t c e) q) p
theorem small{j:Int}(h:0<j/\j<1073741824):j≠0/\j.natAbs<1073741824:=⟨by omega,by omega⟩
theorem aiH(e:Le a b=aa d)(p:Vw X s.heap a v)(q:Vw X s.heap b u):Gv X s d (ay (bH prog w) A (pC .Sub v u)):=w8 e p q λi j x x e=>cY e λQ E k=>aqz (k _ _ (.tok _ _) (im _ _))
theorem af3(e:Kx a b=aa d)(p:Vw X s.heap a v)(q:Vw X s.heap b u):Gv X s d (ay (bH prog w) A (pC .FloorDiv v u)):=w8 e p q λi j x x e=>fN e λh Q E k=>aqA (small h).1 (k _ _ (.tok _ _) (im _ _)) (.inl (ZZ (by omega)))
theorem aiI(e:xN a b=aa d)(p:Vw X s.heap a v)(q:Vw X s.heap b u):Gv X s d (ay (bH prog w) A (pC .Mod v u)):=w8 e p q λi j x x e=>fN e λh Q E k=>aqB (small h).1 (k _ _ (.tok _ _) (im _ _))
theorem aiJ(e:Lf a=aa d)(p:Vw X s.heap a v):Gv X s d (ay (bH prog w) A (unaryOp .USub v)):=jW e (λi e p=>p.iE λt=>cY e λQ E k=>ZK (k _ _ (.tok _ _) (im _ _))) p
end
theorem Tt:GZ bR:=λx x h=>uD.mp h
theorem RL{α β:Type} [BEq α] [LawfulBEq α] [BEq β] [LawfulBEq β]{f:α->β}(h:GZ f){a b:List α}:(a.map f==b.map f)=(a==b):=iC.mpr (by rw[gP,gP];exact⟨zg (λx x e=>h e)|>.mp,aj _⟩)
theorem N9(x y:Array UInt8)(t u:kR):LU (.bytes x t) (.bytes y u) (x.toList.map bR==y.toList.map bR):=by
 intro prog w A E s Q h;rw[RL Tt]at h;unfold eqBool;refine hO (wpAny_ite_split (λa=>?_) λa=>?_)
 ·have e:x=y:=by have:=bt a;injection this
  subst e;exact aE (pe (a8 (by simpa using h)))
 ·exact aE (richCompare_gives (fH s x t) (fH s y u) FB.slot_bytes_eq FB.entry_bytes_eq (FB.args_bytes_eq_2 _ _) (gives_bytes_eq x y t u) (by simp[Made.takes]) (uA h))
noncomputable def mO:aA->Y|.bytes b _=>b.toList.map bR|_=>[]
noncomputable def Lj:aA->Y|.str b _=>b.cps.toList|_=>[]
noncomputable def WK:aA->Int|.int i _=>i|_=>0
noncomputable def WL:aA->Bool|.bool b=>b|_=>ag
section
variable{X:aJ->Prop}{α:Type}
theorem ev{R:aA->Prop}(k:∀d v a,bq X h d v->g d=aa a->f v=a/\R v)(r:a9 X h xs ai):∀l,eB g xs=aa l->ai.map f=l/\∀v∈ai,R v:=r.ind (P:=λxs ai=>∀l,eB g xs=aa l->ai.map f=l/\∀v∈ai,R v) (λl e=>⟨aM e,λy q=>aC q gM⟩) λd j v vs x y c l e=>(cG.mp e).elim λa e=>(hJ.mp e.2).elim λb e'=>⟨(congr (aj anN (k d v a x e.1).1) (c b e'.1).1).trans e'.2,λv i=>(ch.mp i).elim (λq=>ae q ((k d _ a x e.1).2)) ((c b e'.1).2 v)⟩
theorem wO(r:a9 X h xs ai):∀l,eB D.jT xs=aa l->ai.map mO=l/\∀v∈ai,∃b t,v=.bytes b t/\b.size<=aI:=ev (λd v a x q=>Vw.bE (P:=λa v=>mO v=a/\∃b t,v=.bytes b t/\b.size<=aI) (.inl (am (D.PK q) x)) λb t hb=>⟨rfl,b,t,rfl,hb⟩) r
theorem H9(r:a9 X h xs ai):∀l,eB D.xM xs=aa l->ai.map Lj=l/\∀v∈ai,∃b t,v=.str b t/\b.cps.size<=aI:=ev (λd v a x q=>Vw.sE (P:=λa v=>Lj v=a/\∃b t,v=.str b t/\b.cps.size<=aI) (.inl (am (D.RH q) x)) λb t hb=>⟨rfl,b,t,rfl,hb⟩) r
theorem PM(r:a9 X h xs ai):∀l,eB D.int? xs=aa l->ai.map WK=l/\∀v∈ai,∃b t,v=.int b t:=ev (λd v a x q=>Vw.iE (P:=λv=>WK v=a/\∃b t,v=.int b t) (.inl (am (D.I6 q) x)) λt=>⟨rfl,a,t,rfl⟩) r
theorem O1(r:a9 X h xs ai):∀l,eB D.bool? xs=aa l->ai.map WL=l/\∀v∈ai,∃b,v=.bool b:=ev (λd v a x q=>Vw.fE (P:=λv=>WL v=a/\∃b,v=.bool b) (.inl (am (D.Qt q) x)) ⟨rfl,a,rfl⟩) r
end
theorem Hh{α β:Type} [BEq β] [LawfulBEq β](f:α->β)(a:β):∀l:List α,(l.any λy=>f y==a)=(l.map f).contains a|[]=>rfl|x::l=>by rw[zA,dB,oN,Hh f a l,Qn]
theorem Oa{α β:Type} [BEq β] [LawfulBEq β](f:α->β)(l a:List α)(e:l.length=a.length):((fc l.length).all λj=>(l[j]?.map f==a[j]?.map f))=(l.map f==a.map f):=by induction l generalizing a with|nil=>(cases a with|nil=>rfl|cons=>cases e)|cons x l ih=>cases a with|nil=>cases e|cons y a=>rw[eY,List.range_succ_eq_map,zB,Rk,dB,dB,List.cons_beq_cons,<-ih a (mC e)];rfl
section
variable{X:aJ->Prop}
def aiK(prog:Fo)(w:dM)(A:dY)(s:aL)(v u:aA)(t:Bool):Prop:=∀E (Q:bI),(Q (.bool t) s->ay (bH prog w) A (lh .Eq v u) Q E s)/\(Q (.bool (!t)) s->ay (bH prog w) A (lh .NotEq v u) Q E s)
theorem U2(l:A.units<cLine)(e:yf a b=aa t):Vw X s.heap a v->Vw X s.heap b u->aiK prog w A s v u t:=by
 have go:∀{P:Prop},(.none)=aa t->P:=aN;refine D.casesOn a ?_ ?_ ?_ ?_ ?_ ?_ (λz=>go) (λz z=>go) (λz=>go) e
 ·refine D.casesOn b ?_ ?_ (λz=>go) (λz=>go) (λz=>go) (λz=>go) (λz=>go) (λz z=>go) (λz=>go)
  ·exactλe p q=>p.nE (q.nE (cY e λE Q=>⟨aqC,aql prog w E Q⟩))
  ·exactλc e p q=>p.nE (q.fE (cY e λE Q=>⟨aqD,aqm _ prog w E Q⟩))
 ·refineλc=>D.casesOn b ?_ ?_ (λz=>go) (λz=>go) (λz=>go) (λz=>go) (λz=>go) (λz z=>go) (λz=>go)
  ·exactλe p q=>p.fE (q.nE (cY e λE Q=>⟨aqE,aqn _ prog w E Q⟩))
  ·exactλO e p q=>p.fE (q.fE (cY e λE Q=>⟨eq_bool,ne_bool⟩))
 ·exactλi e=>jW e λj e=>cY e λp q=>p.iE λz=>q.iE λz E Q=>⟨aqF,aqG⟩
 ·exactλi e=>KA e λj e=>cY e λp q=>p.sE λz z z=>q.sE λz z z E Q=>⟨P.eq_str,P.ne_str⟩
 ·exactλi e=>vj e λj e=>cY e λp q=>p.bE λz z z=>q.bE λz z z E Q=>RL Tt▸⟨eq_bytes,ne_bytes⟩
 ·refineλJ e=>q7 e λI e p q=>p.lE λa ai g r=>q.lE λR d g' o=>g.elim λn g=>g'.elim λG g'=>?_;cases m:J.length !=I.length with
  |true=>
   rw[m]at e;have h:(ai.toArray.size !=d.toArray.size)=af:=by rw[r9,r9,r.length,o.length];exact m
   exact cY e λE Q=>⟨P.eq_list_lengths g.1 g'.1 h l,aqo ⟨_,g.1,rfl,n,rfl⟩ ⟨_,g'.1,rfl,G,rfl⟩ h l prog w E Q⟩
  |false=>
   rw[m]at e;have h:ai.length=d.length:=by rw[r.length,o.length];simpa using m
   refine(cG.mp e).elim λp e=>(cG.mp e.2).elim λq e'=>cY e'.2 ?_;have F:=wO r _ e.1;have C:=wO o _ e'.1;have f:=Oa mO ai d h;rw[F.1,C.1]at f;have H:∀j (k) (h2:j<d.toArray.size),LU ai.toArray[j] d.toArray[j] (ai[j]?.map mO==d[j]?.map mO):=λj k h2=>(F.2 _ (Cy k)).elim λN x=>x.elim λL x=>(C.2 _ (Cy h2)).elim λM y=>y.elim λK y=>by show LU ai[j] d[j] (ai[j]?.map mO==d[j]?.map mO);rw[kc k,kc h2,x.1,y.1];exact N9 N M L K
   exactλE Q=>⟨λB=>P.eq_list g.1 g'.1 h H l (f.symm▸B),
    λB=>aqp ⟨_,g.1,rfl,n,rfl⟩ ⟨_,g'.1,rfl,G,rfl⟩ h l (λj k h2=>(H j k h2).at _ _) prog w E Q (f.symm▸B)⟩
end
end
section
open PySem PySem.W PySem.Calls PyProof.Rows PySem.Builtin PySem.MeetsSeq PySem.SeqRoads2
theorem Z4(b:Array UInt8)(t u:kR)(i:Int)(a:0<=i/\i<256):Gives («bytes.__contains__» ⟨[.bytes b t,.int i u],[]⟩) (.val (.bool (b.contains i.toNat.toUInt8))):=by refine .of_wp λM A E s Q c=>?_;show ay M A (Hg "bytes.__contains__" (.bytes b t) (.int i u)>>=λr=>_) _ E s;refine aE ?_;unfold Hg;refine aE (S9 (fq rfl (aE (fq zF ?_))));show ay M A (if(decide (i<0)||decide (i>=256))=af then _ else _) _ E s;exact ae (lQ (uS.mpr a.1)) (ae (lQ (D7.mpr a.2)) (a8 (a8 ⟨_,rfl,c⟩)))
theorem ZI:XG (.type "bytes")=pure "bytes":=by
 unfold XG
 kernel_rfl
theorem ZR{Q:Int->aL->Prop}(hh:A.handled=ak)
  (h:∀e s',Gr s s'->E e s'):ay (bH prog w) A (YZ (.bytes b t)) Q E s:=by
 unfold YZ;refine aE (fq rfl ?_);refine aE (wpAny_callSpecial?_none (fH s b t) (by rw[uG];refine ae uu ?_;kernel_rfl) (aE ?_));unfold typeNameOfCut shownTypeOf;refine aE (aE (I0 (fH _ b t) ?_));refine ae (show(Ta "bytes"==Ta "builtin_function_or_method")=ag by decide) ?_;refine a8 ?_;show ay _ A (XG (.type "bytes")) _ E s;exact ae ZI (a8 (wpAny_raiseErrorMade plainExc_TypeError hh (λa tk e x=>h _ _ ⟨x.keeps,rfl,rfl⟩) (eX rfl)))
theorem Z5(b:Array UInt8)(c:UInt8)(n:Nat)(a:n<=b.size):((fc n).find? λi=>b.extract i (i+1)==#[c]).isSome=(b.toList.take n).contains c:=by
 induction n with
 |zero=>rfl
 |succ n ih=>
  have hx:(b.extract n (n+1)==#[c])=(c==b[n]):=by refine ae (show b.extract n (n+1)=#[b[n]]from Array.ext (by simp;omega) λi d h2=>by simp at h2;subst h2;simp) (ae Qn ?_);simp
  refine ae Py (ae (List.find?_append) (ae adV (ae Option.isSome_or (ae B9 (ae (ih (dk a)) (ae (show b.toList[n]?=aa b[n] by simp[show n<b.size from a]) (ae (se) (ae hx ?_))))))));cases hc:c==b[n]
  ·simp only [acf,oN,hc];rfl
  ·simp only [acf,oN,hc];rfl
theorem Oj(b:Array UInt8)(t u:kR)(c:UInt8):Meets («bytes.__contains__» ⟨[.bytes b t,.bytes #[c] u],[]⟩) (λA R s=>A.handled=ak/\∀s',Gr s s'->R (.ok (.ret (.bool (b.toList.contains c)))) s'):=by refine .of_wp λprog w A R s ⟨hh,h⟩=>?_;show ay _ _ (Hg "bytes.__contains__" (.bytes b t) (.bytes #[c] u)>>=λr=>_) _ _ s;refine aE ?_;unfold Hg;refine aE (S9 (ZR hh λe s' g=>aE (fq zF (aE (fq zF (aE (pe (a8 (a8 ⟨_,rfl,?_⟩)))))))));have:=Z5 b c b.size (bO _);simp only [show b.toList.take b.size=b.toList from wu (bO _)]at this;exact ae (show(ali b #[c] 0 b.size).isSome=b.toList.contains c by simp only [<-this];unfold ali;simp) (h _ g)
theorem NU(b:Array UInt8)(c:UInt8):b.toList.contains c=(b.toList.map bR).contains c.toNat:=by rw[<-Hh];refine ae List.contains_eq_any_beq ?_;exact aj (aoR _) (funext λx=>iC.mpr (by rw[gP,gP,uD,eq_comm]))
section
variable{s:aL}{X:aJ->Prop}
theorem aiL{α:Type}{f:Nat->Option α}{a:α}{P:Y->Prop}(h:one y f=aa a)(k:∀c,f c=aa a->P [c]):P y:=match y,h with|[c],h=>k c h|[],h=>aN h|_::_::_,h=>aN h
def ED(prog:Fo)(w:dM)(A:dY)(s:aL)(v u:aA)(t:Bool):Prop:=∀E (Q:bI),((∀s',Gr s s'->Q (.bool t) s')->ay (bH prog w) A (lh .In v u) Q E s)/\((∀s',Gr s s'->Q (.bool (!t)) s')->ay (bH prog w) A (lh .NotIn v u) Q E s)
theorem ad7(g:Gives («bytes.__contains__» ⟨[.bytes bs tb,v],[]⟩) (.val (.bool t))):ED prog w A s v (.bytes bs tb) t:=λE Q=>⟨λa=>in_gives (fH s bs tb) FB.slot_bytes_contains FB.entry_bytes_contains (FB.args_bytes_contains_2 _ _) g (a _ (.refl _)),λa=>notIn_gives (fH s bs tb) FB.slot_bytes_contains FB.entry_bytes_contains (FB.args_bytes_contains_2 _ _) g (a _ (.refl _))⟩
theorem EE{α:Type} [BEq α] [LawfulBEq α]{ai:List aA}{f:aA->α}{c:α}{q:List α}{T:String}(e:T="list"\/T="tuple")(g:s.heap.get? l=aa {cls:=.type T,dict:=ak,data:=.seq ai.toArray n})
  (p:ai.map f=q) (d:∀y,y∈ai.toArray->LU y v (f y==c)):ED prog w A s v (.ref l) (q.contains c):=by
 have b:ai.toArray.any (λy=>f y==c)=q.contains c:=by simp only [List.any_toArray,Hh,p]
 rcases e with rfl|rfl
 ·exactλE Q=>⟨λa=>in_list _ d g (ae b (a _ (.refl _))),λa=>notIn_list _ d g (ae b (a _ (.refl _)))⟩
 ·exactλE Q=>⟨λa=>in_tuple _ d g (ae b (a _ (.refl _))),λa=>notIn_tuple _ d g (ae b (a _ (.refl _)))⟩
theorem U3(hh:A.handled=ak)(e:j4 a b=aa t):Vw X s.heap a v->Vw X s.heap b u->ED prog w A s v u t:=by
 have go:∀{P:Prop},(.none)=aa t->P:=aN;refine D.casesOn b go (λz=>go) (λz=>go) (λz=>go) ?_ ?_ ?_ (λz z=>go) (λz=>go) e
 ·refineλbs=>D.casesOn a go (λz=>go) ?_ (λz=>go) ?_ (λz=>go) (λz=>go) (λz z=>go) (λz=>go)
  ·refineλi e p q=>p.iE λd=>q.bE (λb tb z e=>fN e λF=>ad7 (?_)) e;have:=NU b i.toNat.toUInt8;simp only [show i.toNat.toUInt8.toNat=i.toNat from OW (by omega),NQ]at this;exact am this (Z4 b tb d i F)
  ·refineλy e=>aiL (P:=λy=>Vw X s.heap (.bytes y) v->Vw X s.heap (.bytes bs) u->ED prog w A s v u t) e λc e p q=>cY e ?_;refine q.bE λb tb z=>(p.b.elim λm x=>x.elim λd x=>?_);obtain⟨k,C,B⟩:∃k,m.toList=[k]/\k.toNat=c:=by
    have:=x.2.1;cases hc:m.toList with
    |nil=>have this:=hc▸this;cases this
    |cons k r=>have this:=hc▸this;cases r with|nil=>exact⟨k,rfl,(bD this).1⟩|cons _ _=>cases this
   refine ae x.1 ?_;rw[<-B,<-NU,show m=#[k]from Array.toList_inj.mp C];exactλE Q=>⟨λj=>in_meets (fH s b tb) FB.slot_bytes_contains FB.entry_bytes_contains (FB.args_bytes_contains_2 _ _) (Oj b tb d k) ⟨hh,λs' g=>⟨_,rfl,j _ g⟩⟩,
     λj=>notIn_meets (fH s b tb) FB.slot_bytes_contains FB.entry_bytes_contains (FB.args_bytes_contains_2 _ _) (Oj b tb d k) ⟨hh,λs' g=>⟨_,rfl,j _ g⟩⟩⟩
 ·refineλo=>D.casesOn a go ?_ ?_ ?_ (λz=>go) (λz=>go) (λz=>go) (λz z=>go) (λz=>go)
  ·exactλi e p q=>(cG.mp e).elim λl e=>cY e.2 (p.fE (q.lE λz ai g r=>g.elim λn g=>EE (.inl rfl) g.1 (O1 r _ e.1).1 λy f=>((O1 r _ e.1).2 y (zm.mp f)).elim λb q=>ae q (λprog w A E s Q h=>aqq b i prog w E Q h)))
  ·exactλi e p q=>(cG.mp e).elim λl e=>cY e.2 (p.iE λd=>q.lE λz ai g r=>g.elim λn g=>EE (.inl rfl) g.1 (PM r _ e.1).1 λy f=>((PM r _ e.1).2 y (zm.mp f)).elim λb q=>q.elim λt q=>ae q (arK b i t d))
  ·exactλi e p q=>(cG.mp e).elim λl e=>cY e.2 (p.sE λc d z=>q.lE λz ai g r=>g.elim λn g=>EE (.inl rfl) g.1 (H9 r _ e.1).1 λy f=>((H9 r _ e.1).2 y (zm.mp f)).elim λb q=>q.elim λt q=>ae q.1 (arL b c t d))
 ·exactλo e=>vj e λy e p q=>(cG.mp e).elim λl e=>cY e.2 (p.bE λc d z=>q.tE λz ai g r=>g.elim λn g=>EE (.inr rfl) g.1 (wO r _ e.1).1 λy f=>((wO r _ e.1).2 y (zm.mp f)).elim λb q=>q.elim λt q=>ae q.1 (N9 b c t d))
def CJ:=λ(s:nB) (X:IZ->Prop)=>(∀{d:D} {v:sA} (x:Vw X s.heap d v),(v==nC)=EB d:Prop)
def Ol:=tS CJ (aO n8 nI)
def aaw:=Ol.1
def aax:=Ol.2
theorem Z6:CJ aaw aax:=λ{d} {v} x=>by
 refine D.casesOn d ?_ ?_ ?_ ?_ ?_ ?_ ?_ ?_ ?_ x
 ·exactλx=>x.nE rfl
 ·exactλy x=>x.fE rfl
 ·exactλy x=>x.iE λy=>rfl
 ·exactλy x=>x.sE λy y y=>rfl
 ·exactλy x=>x.bE λy y y=>rfl
 ·exactλy x=>x.lE λy y y y=>rfl
 ·exactλy x=>x.tE λy y y y=>rfl
 ·exactλC fs x=>(x.rep (λ_ h=>dt h rfl)).elim λy x=>x.elim λy x=>x.elim λy x=>ae x.1 rfl
 ·exactλd x=>(x.rep (λ_ h=>dt h rfl)).elim λy x=>x.elim λy x=>x.elim λy x=>x.elim λy x=>ae x.1 rfl
theorem PN{s X}:CJ s X:=@yj _ _ CJ _ @Z6 s X
def Cv(s:aL)(t:Bool)(w:Wt aA):Prop:=∀Q E,(∀s',Gr s s'->Q (.bool t) s')->w Q E s
theorem EF(e:A4 f a b=aa t)(k:∀i j t d,Cv s (f i j) (ay (bH prog w) A (lh c (.int i t) (.int j d))))(p:Vw X s.heap a v)(q:Vw X s.heap b u):Cv s t (ay (bH prog w) A (lh c v u)):=jW e (λi e p=>jW e (λj e q=>p.iE λx=>q.iE λx=>cY e (k i j _ _)) q) p
theorem JL(e:mS o=aa t):∃a,o=aa a/\t=!a:=(cG.mp e).imp λx q=>⟨q.1,(aM q.2).symm⟩
theorem E2(e:FX a b=aa t)(p:Vw X s.heap a v)(q:Vw X s.heap b u):t=(v==.none)/\u=.none:=by unfold FX at e;cases hb:EB b with|true=>have e:=hb▸e;exact⟨(aM e).symm.trans (PN p).symm,bt ((PN q).trans hb)⟩|false=>exact aN (hb▸e)
theorem JM(f:A.units<cLine)(hh:A.handled=ak)(p:Vw X s.heap a v)(q:Vw X s.heap b u):A5 c a b=aa t->Cv s t (ay (bH prog w) A (lh c v u)):=by cases c with|Eq=>exactλe Q E k=>(U2 f e p q E Q).1 (k _ (.refl _))|NotEq=>exactλe Q E k=>(JL e).elim λd e=>(U2 f e.1 p q E Q).2 (am e.2 (k _ (.refl _)))|In=>exactλe Q E k=>(U3 hh e p q E Q).1 k|NotIn=>exactλe Q E k=>(JL e).elim λd e=>(U3 hh e.1 p q E Q).2 (am e.2 k)|Is=>exactλe Q E k=>ae ((E2 e p q).2) (is_none (am ((E2 e p q).1) (k _ (.refl _))))|IsNot=>exactλe Q E k=>(JL e).elim λd e=>ae ((E2 e.1 p q).2) (isNot_none (am ((E2 e.1 p q).1) (am e.2 (k _ (.refl _)))))|Lt=>exactλe=>EF e (λx x x x Q E k=>aqH (k _ (.refl _))) p q|LtE=>exactλe=>EF e (λx x x x Q E k=>aqI (k _ (.refl _))) p q|Gt=>exactλe=>EF e (λx x x x Q E k=>aqJ (k _ (.refl _))) p q|GtE=>exactλe=>EF e (λx x x x Q E k=>aqK (k _ (.refl _))) p q
end
set_option tactic.hygienic true in
theorem sF(h:jk i n=aa j):Wu i n=aa j/\(0<=i->i.toNat=j)/\(i<0->(i+n).toNat=j)/\-(n:Int)<=i/\i<n:=by
 unfold jk at h;unfold Wu;split at h<;>rename_i a<;>split at h<;>rename_i b
 ·have c:=uS.mpr a;simp only [c9 c,gN a,gN b];exact⟨h,λ_=>aM h,λq=>aC q c,Rp (Int.neg_nonpos_of_nonneg (rZ n)) a,b⟩
 ·exact aN h
 ·have h2:i+n<n:=by omega
  simp only [cD (D7.mp a),gN b,gN h2];exact⟨h,λq=>aC q a,λ_=>aM h,by omega,by omega⟩
 ·exact aN h
section
variable{s:aL}{X:aJ->Prop}
theorem Lk(a:n<=aI)(h:-(n:Int)<=k/\k<n):-9223372036854775808<=k/\k<9223372036854775808:=by have:aI=1048576:=rfl;omega
theorem aiM{P:D->Int->D->Prop}(e:eZ a i=aa d)(y:∀x (k:Int) j (c:Nat),jk k x.length=aa j->x[j]?=aa c->P (.bytes x) k (.int c))(l:∀xs k j d,jk k xs.length=aa j->xs[j]?=aa d->P (.list xs) k d)
  (t:∀xs k j d,jk k xs.length=aa j->xs[j]?=aa d->P (.tup xs) k d):∃k,i=.int k/\P a k d:=
 jW e λk e=>⟨k,rfl,D.casesOn a aN (λz=>aN) (λz=>aN) (λz=>aN)
  (λx e=>(cG.mp e).elim λc e=>(cG.mp e.1).elim λj f=>cY e.2 (y x k j c f.1 f.2)) (λx e=>(cG.mp e).elim λj f=>l x k j d f.1 f.2) (λx e=>(cG.mp e).elim λj f=>t x k j d f.1 f.2) (λz z=>aN) (λz=>aN) e⟩
theorem aiN(e:eZ a i=aa d)(p:Vw X s.heap a v)(q:Vw X s.heap i u):Gv X s d (ay (bH prog w) A (LV v u))/\∃T id,s.TypeIs v T/\JC (.type T) "__getitem__"=pure (aa (.builtin id)):=by
 refine(aiM (P:=λa k d=>Vw X s.heap a v->∀tk,Gv X s d (ay (bH prog w) A (LV v (.int k tk)))/\∃T id,s.TypeIs v T/\JC (.type T) "__getitem__"=pure (aa (.builtin id))) e ?_ ?_ ?_).elim λk h=>(h.1▸q).iE λtk=>h.2 p tk
 ·refineλx k j c f hc p tk=>p.bE (λb t hb f hc=>⟨λQ E h=>?_,_,_,fH _ _ _,FB.slot_bytes_getitem.lookup⟩) f hc;simp only [aW,jG]at f;have hc:=(kT)▸hc;refine(hJ.mp hc).elim λo hc=>?_;have hf:=Lk hb (sF f).2.2.2;exact getItem_gives (fH s _ t) (eX rfl) FB.slot_bytes_getitem FB.entry_bytes_getitem (FB.args_bytes_getitem_2 _ _) (gives_bytes_getitem _ k t tk o (by simp only [Bytes.fitsIndex,eg];exact⟨gN hf.1,gN hf.2⟩)
   (ae ((sF f).1) (show b[j]?=aa o from am (B3) hc.1))) (h _ _ (.tok _ _) (am hc.2 (im _ _)))
 ·refineλz k j d f hd p tk=>p.lE λa ai g r=>⟨λQ E h=>?_,_,_,g.typeIs,aiw⟩;refine(r.get hd).elim λy l=>?_;have f:=r.length.symm▸f;have hf:=Lk g.lim (sF f).2.2.2;by_cases m:k<0
  ·exact wpAny_getItem_list_neg g.isList m (sF f).2.2.2.1 hf.1 (ae r9 (ae ((sF f).2.2.1 m) ((rX ..).trans l.1))) (h _ _ (.refl _) l.2)
  ·exact wpAny_getItem_list g.isList (uS.mp m) hf.2 (ae ((sF f).2.1 (uS.mp m)) ((rX ..).trans l.1)) (h _ _ (.refl _) l.2)
 ·refineλz k j d f hd p tk=>p.tE λa ai g r=>⟨λQ E h=>?_,_,_,g.typeIs,slot_tuple_getitem.lookup⟩;refine(r.get hd).elim λy l=>g.elim λn g'=>?_;rw[<-r.length]at f;have hf:=Lk g.lim (sF f).2.2.2;exact P.getItem_tuple g'.1 hf.1 hf.2 (sF f).1 (ae (rX ..) l.1) (h _ _ (.refl _) l.2)
theorem EG{a:Nat}(x:Vw X s.heap o v):A6 o a n=aa c->∃k,IsPart v k/\c=k.elim a (vA n):=
 D.casesOn o (λx e=>x.nE ⟨ak,.none,(aM e).symm⟩) (λy y=>aN)
  (λi x e=>x.iE λt=>fN e λy=>⟨aa i,.int _ _,rfl⟩) (λy y=>aN) (λy y=>aN) (λy y=>aN) (λy y=>aN) (λy y y=>aN) (λy y=>aN) x
theorem PO{α:Type}(l:List α)(lo hi:Nat):lB l lo hi=(l.drop lo).take (hi-lo):=HE
theorem Z7(a:Array aA)(lo hi:Option Int):Wv a lo hi ak=((a.toList.drop (lo.elim 0 (vA a.size))).take (hi.elim a.size (vA a.size)-lo.elim 0 (vA a.size))).toArray:=by unfold Wv;rw[sliceBounds_plain];simp only [sliceRange_one,pick_run]
theorem aiO{lo:D}(F:∀b,X b->(s.heap.get? b).isSome=af)(e:dh a lo hi=aa d)(p:Vw X s.heap a v)(hs:s.heap.IsSliceOf sl l u .none)(pl:Vw X s.heap lo l)(pu:Vw X s.heap hi u):
  Gv X s d (ay (bH prog w) A (LV v (.ref sl)))/\∃T id,s.TypeIs v T/\JC (.type T) "__getitem__"=pure (aa (.builtin id)):=by
 refine D.casesOn a (λx=>aN) (λx x=>aN) (λx x=>aN) (λx x=>aN) ?_ ?_ (λx x=>aN) (λx x x=>aN) (λx x=>aN) p e
 ·refineλx p e=>p.bE (λb t hb e=>⟨λQ E h=>?_,_,_,fH _ _ _,FB.slot_bytes_getitem.lookup⟩) e;refine(cG.mp e).elim λy n=>(cG.mp n.2).elim λo m=>(EG pl n.1).elim λc j=>(EG pu m.1).elim λf i=>?_;refine getItem_meets (fH _ _ _) (eX rfl) FB.slot_bytes_getitem FB.entry_bytes_getitem (FB.args_bytes_getitem_2 _ _) (KBc.meets_slice2 b t _ j.1 i.1)
   ⟨hs,aw (ad1 b c f) (gQ hb),λG k=>h _ _ (.tok _ _) (cY m.2 ?_)⟩
  rw[PO,j.2,i.2,<-si,<-oW,aW,jG];refine am (show(KBy.picked b c f).toList=anO (f.elim b.size (vA b.size)-c.elim 0 (vA b.size)) (anP (c.elim 0 (vA b.size)) b.toList) by rw[KBc.picked_eq]) ?_;exact qU _ (aw (ad1 b c f) hb)
 ·refineλB p e=>p.lE λa ai g r=>⟨λQ E h=>?_,_,_,g.typeIs,aiw⟩;refine(cG.mp e).elim λy n=>(cG.mp n.2).elim λo m=>(EG pl n.1).elim λc j=>(EG pu m.1).elim λf i=>?_;have C:a9 X s.heap (lB B y o) (Wv ai.toArray c f ak).toList:=by
   rw[Z7,PO,j.2,i.2,r9];refine ae r.length ?_;exact(r.drop _).take _
  have z:=sN (T:="list") C (aw (slicePick_size_le _ _ _ _) g.lim) s.toks;exact wpAny_getItem_list_slice g.isList hs j.1 i.1 .none nofun (h _ _ z.1 (cY m.2 ((n9 (λq=>nomatch (eh _).symm▸F _ q) z.2.2).1 z.2.1))) (gQ g.lim)
end
section
variable{X:aJ->Prop}
theorem ad8(r:a9 X h xs ai):∀l,eB D.int? xs=aa l->Y0 ai l/\l.length=ai.length:=r.ind (P:=λxs ai=>∀l,eB D.int? xs=aa l->Y0 ai l/\l.length=ai.length) (λl e=>cY e ⟨.nil,rfl⟩) λd f v vs x y c l e=>(cG.mp e).elim λa e=>(hJ.mp e.2).elim λb e'=>(am e'.2 (Vw.iE (P:=λv=>Y0 (v::vs) (a::b)/\(a::b).length=(v::vs).length) (.inl (am (D.I6 e.1) x)) λt=>⟨.cons _ _ (c b e'.1).1,aj (·+1) (c b e'.1).2⟩))
theorem Om:∀{l:List Int},(∀n∈l,0<=n/\n<256)->(byteArr l).toList.map bR=l.map Int.toNat|[],_=>rfl|n::l,h=>congr (aj anN (OW (by have:=h n (.head _);omega):n.toNat%256=n.toNat)) (Om λn a=>h n (.tail _ a))
end
section
variable{X:aJ->Prop}
theorem aiP(e:xO a=aa d)(p:Vw X s.heap a v):Gv X s d (ay (bH prog w) A (call (.builtin "len") [v])):=by
 refine D.casesOn a (λx=>aN) (λx x=>aN) (λx x=>aN) ?_ ?_ ?_ (λx x=>aN) (λx x x=>aN) (λx x=>aN) p e
 ·exactλy p e=>p.sE (λb t c e=>cY e λQ E k=>P.len_str (by rw[Ec];exact D7.mpr (Aj c)) (by rw[Ec];exact k _ _ (.tok _ _) (im _ _))) e
 ·exactλy p e=>p.bE (λb t c e=>cY e λQ E k=>len_bytes (Tq c) (by have:=k (Tj b.size (s.toks+1)) {s with toks:=s.toks+1+1} (.tok _ _);rw[aW]at this;exact this (im _ _))) e
 ·exactλf p e=>cY e (p.lE λa ai g r Q E k=>call_len_list g.isList (Aj g.lim) (ae r9 (ae r.length (k _ _ (.tok _ _) (im _ _)))))
theorem ad9(hh:A.handled=ak)(e:JJ a=aa d)(p:Vw X s.heap a v):Gv X s d (ay (bH prog w) A (call (.type "bytes") [v])):=by
 refine q7 e (λh e p=>p.lE λa ai g r=>(cG.mp e).elim λl e=>fN e.2 λb Q E k=>?_) p;have b:=λn c=>by simpa using ew.mp b n c
 have z:=ad8 r _ e.1;exact call_bytes_ints g.isList z.1 b (gQ g.lim) hh λj t i f=>k _ _ ⟨f,rfl,rfl⟩ (am (Om b) (qU _ (by rw[byteArr_size];refine ae z.2 ?_;exact g.lim)))
set_option tactic.hygienic true in
theorem aiQ(hh:A.handled=ak)(e:WA a b=aa d)(p:Vw X s.heap a v)(q:Vw X s.heap b u):Gv X s d (ay (bH prog w) A (call (.builtin "min") [v,u])):=
 w8 (m:=λv u=>call (.builtin "min") [v,u]) e p q λi j _ _ e=>cY e λQ E k=>min_two_ints hh λf tk c=>by
  split
  ·rename_i hc;exact k _ _ ⟨c,rfl,rfl⟩ (ae (OX (Rt hc)) (im _ _))
  ·rename_i hc;exact k _ _ ⟨c,rfl,rfl⟩ (ae (PB (uS.mp hc)) (im _ _))
set_option tactic.hygienic true in
theorem aiR(hh:A.handled=ak)(e:WB a b=aa d)(p:Vw X s.heap a v)(q:Vw X s.heap b u):Gv X s d (ay (bH prog w) A (call (.builtin "max") [v,u])):=
 w8 (m:=λv u=>call (.builtin "max") [v,u]) e p q λi j _ _ e=>cY e λQ E k=>max_two_ints hh λf tk c=>by
  split
  ·rename_i hc;exact k _ _ ⟨c,rfl,rfl⟩ (ae (Hu (Rt hc)) (im _ _))
  ·rename_i hc;exact k _ _ ⟨c,rfl,rfl⟩ (ae (air (uS.mp hc)) (im _ _))
theorem alC(f:∀b,X b->(s.heap.get? b).isSome=af)(e:XP a b=aa d)(p:Vw X s.heap a v)(q:Vw X s.heap b u):Gv X s d (ay (bH prog w) A (call (.builtin "divmod") [v,u])):=
 w8 (m:=λv u=>call (.builtin "divmod") [v,u]) e p q λi j x x e=>fN e λc Q E k=>divmod_int (small c).1
  (have z:=sN (.cons (im _ _) (.cons (im _ _) .nil)) (show 2<=aI by decide) (s.toks+1+1)
   k _ _ z.1 ((n9 (λq=>nomatch (eh _).symm▸f _ q) z.2.2).2 z.2.1)) (.inl (ZZ (small c).2))
theorem af4(i:∀b,X b->(s.heap.get? b).isSome=af)(e:UV a=aa d)(p:Vw X s.heap a v):Gv X s d (ay (bH prog w) A (call (.type "list") [v])):=
 q7 e (λl e p=>p.lE λa ai g r=>cY e λQ E k=>g.elim λn g=>call_list_seq a (.inl rfl) g.1 rfl rfl (λm j f h=>
  have c:=⟨f,rfl,rfl⟩
  k _ _ c ((n9 (λq=>nomatch (eh _).symm▸i _ q) (r.mv (.kp (c.kp _)))).1 ⟨j,h,g.2⟩)) (gQ g.2)) p
theorem aiS(e:A7 a=aa d)(p:Vw X s.heap a v):Gv X s d (ay (bH prog w) A (call (.builtin "chr") [v])):=jW e (λi e p=>p.iE λt=>fN e λb Q E k=>chr_of_range b.1 (Rt (Int.lt_trans b.2 (eX rfl))) (k _ _ (.tok _ _) (A8 _ (show 1<=aI by decide)))) p
theorem af5(e:UW a=aa d)(p:Vw X s.heap a v):Gv X s d (ay (bH prog w) A (call (.type "bool") [v])):=(cG.mp e).elim λb e=>cY e.2 ((D.Qt e.1▸p).fE λQ E k=>call_bool_bool (k _ _ (.refl _) (q8 _)))
theorem aba(e:Qv a=aa d)(p:Vw X s.heap a v):Gv X s d (ay (bH prog w) A (call (.builtin "isinstance") [v,.type "bytes"])):=by
 refine D.casesOn a (λx=>aN) (λx x=>aN) (λx x=>aN) ?_ ?_ (λx x=>aN) (λx x=>aN) (λx x x=>aN) (λx x=>aN) p e
 ·exactλy p e=>cY e (p.sE λx x x Q E k=>HW (isinstance_false_str (eX rfl) (by kernel_rfl) (by rw[qy];kernel_rfl)) (k _ _ (.tok _ _) (q8 _)))
 ·exactλy p e=>cY e (p.bE λx x x Q E k=>HW (anJ (by kernel_rfl) F.sub_bytes_bytes) ⟨rfl,k _ _ (.refl _) (q8 _)⟩)
theorem acx(e:RI a=aa d)(p:Vw X s.heap a v):Gv X s d (ay (bH prog w) A (call (.builtin "isinstance") [v,.type "bool"])):=by
 refine D.casesOn a ?_ ?_ (λx x=>aN) (λx x=>aN) (λx x=>aN) (λx x=>aN) (λx x=>aN) (λx x x=>aN) (λx x=>aN) p e
 ·exactλp e=>cY e (p.nE λQ E k=>HW (isinstance_false_none (eX rfl) (by kernel_rfl) (by rw[qy];kernel_rfl)) (k _ _ (.tok _ _) (q8 _)))
 ·exactλy p e=>cY e (p.fE λQ E k=>HW (anJ (by kernel_rfl) (by rw[qy];kernel_rfl)) ⟨rfl,k _ _ (.refl _) (q8 _)⟩)
end
structure XT(L:Option aJ)(h0 h:bF)(a:aJ)(vs:Array aA)(T:aJ)(oT:Obj)(ts:Array aA)(x:aA):Prop where
 e:vs[1]?=aa (.ref T)
 new:h0.get? T=ak
 ne:T≠a
 g:h.get? T=aa oT
 d:oT.data=.fields ts
 cl:oT.cls≠.type "code"
 m:ts[3]?=aa x
 x:x=.none\/∃l,L=aa l/\x=fg l
structure jq(tr:Bool)(L:Option aJ)(h0 h:bF)(a:aJ)(oe:Obj)(vs:Array aA):Prop where
 new:h0.get? a=ak
 g:h.get? a=aa oe
 cl:oe.cls=.ref 107
 d:oe.data=.fields vs
 tb:(tr=ag/\vs[1]?=aa .none)\/∃T oT ts x,XT L h0 h a vs T oT ts x
structure dw(W:Wd)(A:dY)(tr:Bool)(L:Option aJ)(Mt:aJ->Prop)(s:aL)(e:aA)(s':aL):Prop where
 ob:∃a oe vs,e=.ref a/\jq tr L s.heap s'.heap a oe vs
 k:bZ Mt s.heap s'.heap
 i:Inv W s'
 bp:∀b,(s.heap.get? b).isSome=af->(s'.heap.get? b).isSome=af
 hf:∃l,A.frames=aa l/\fQ s'.heap l
theorem mE{h a:bF}(d:∀b,(h.get? b).isSome=af->(a.get? b).isSome=af)(e:a.get? b=ak):h.get? b=ak:=by cases q:h.get? b with|none=>rfl|some o=>have:=d b (q▸rfl);rw[e]at this;cases this
section
theorem jq.before(d:∀b,(h0.get? b).isSome=af->(h1.get? b).isSome=af)(x:jq tr L h1 h a oe vs):jq tr L h0 h a oe vs:={x with new:=mE d x.new,tb:=x.tb.imp id λq=>q.imp λT q=>q.imp λe q=>q.imp λc q=>q.imp λy q=>{q with new:=mE d q.new}}
theorem dw.before(x:dw W A tr L Ma ao e s')(k:bZ Mt s.heap ao.heap)(j:∀b o,s.heap.get? b=aa o->Ma b->Mt b)(d:∀b,(s.heap.get? b).isSome=af->(ao.heap.get? b).isSome=af):dw W A tr L Mt s e s' where
 ob:=x.ob.imp λa q=>q.imp λl q=>q.imp λvs q=>⟨q.1,q.2.before d⟩
 k:=λb o g c=>(k b o g c).elim λh p=>(x.k b h p.1 λq=>c (j b o g q)).elim λf r=>⟨f,r.1,p.2.trans r.2⟩
 i:=x.i
 bp:=λb hb=>x.bp b (d b hb)
 hf:=x.hf
theorem jq.loose(x:jq tr L h0 h a oe vs):jq ag L h0 h a oe vs:={x with tb:=x.tb.imp (λq=>⟨rfl,q.2⟩) id}
theorem dw.loose(x:dw W A tr L Mt s e s'):dw W A ag L Mt s e s':={x with ob:=x.ob.imp λa q=>q.imp λb q=>q.imp λvs q=>⟨q.1,q.2.loose⟩}
theorem jq.left(x:jq tr ak h0 h a oe vs):jq tr L h0 h a oe vs:={x with tb:=x.tb.imp id λq=>q.imp λT q=>q.imp λc q=>q.imp λb q=>q.imp λy q=>{q with x:=q.x.imp id λz=>z.elim λl z=>aN (z.1)}}
theorem dw.left(x:dw W A tr ak Mt s e s'):dw W A tr L Mt s e s':={x with ob:=x.ob.imp λa q=>q.imp λb q=>q.imp λvs q=>⟨q.1,q.2.left⟩}
end
def J{α β:Type}(E:bI)(o:Ev α)(w:Wt β)(R:α->β->aL->Prop)(s:aL):Prop:=Ev.rec (motive:=λx=>Prop) (λa=>w (R a) (λx x=>False) s) (w (λx x=>False) E s) True o
structure Pl(W:Wd)(n:Nat)(q:Q)(E:bI)(s:aL):Prop where
 h:jp W n q s
 e:∀e s',dw W q.A ag q.env.frame (λ_=>False) s e s'->E e s'
structure Rs(W:Wd)(q:Q)(s:aL)(d:D)(v:aA)(s':aL):Prop where
 n:Nx W s s'
 r:bq q.X s'.heap d v
structure Vs(W:Wd)(q:Q)(s:aL)(d:D)(v:aA)(s':aL):Prop where
 n:Nx W s s'
 r:Vw q.X s'.heap d v
abbrev Q.W(q:Q)(W:Wd){β:Type}(t:dC β):Wt β:=ay W.M q.A t
section
variable{α β γ δ:Type}
def Mn(w:Wt β)(s:aL):Prop:=∀{Q a:β->aL->Prop} {E b:bI},w Q E s->(∀v s',Q v s'->a v s')->(∀x s',E x s'->b x s')->w a b s
theorem J.bindM{w2:β->Wt δ}{f:γ->δ->aL->Prop}(g:(bI)->bI)(d:Mn w1 s)(e:∀Q E,w1 (λv b=>w2 v Q E b) (g E) s->w Q E s)(j:J (g E) o w1 R s)
  (h:∀a v b,R a v b->J E (k a) (w2 v) f b):J E (o.bind k) w f s:=by
 revert j;cases o with
 |no=>exactλx=>trivial
 |exc=>exactλj=>e _ _ (d j (λx x q=>q.elim) λx x q=>q)
 |ok a=>show _->J E (k a) w f s;have h:=h a;revert h;cases k a with|no=>exactλx x=>trivial|exc=>exactλh j=>e _ _ (d j (λv b q=>h v b q) λx x q=>q.elim)|ok c=>exactλh j=>e _ _ (d j (λv b q=>h v b q) λx x q=>q.elim)
theorem J.vk{w2:β->Wt δ}{d:γ->δ->aL->Prop}(g:(bI)->bI)(e:∀Q E,ay M A m (λv c=>w2 v Q E c) (g E) s->w Q E s)(j:J (g E) o (ay M A m) R s)
  (h:∀a v c,R a v c->J E (k a) (w2 v) d c):J E (o.bind k) w d s:=J.bindM g (λh a b=>ba h a b) e j h
theorem J.bind{t:Tr α}{w2:β->Wt δ}{c:γ->δ->aL->Prop}(d:∀Q E,ay M A m (λv b=>w2 v Q E b) E s->w Q E s)(j:J E t.run (ay M A m) R s)
  (h:∀a v b,R a v b->J E (k a).run (w2 v) c b):J E (t.bind k).run w c s:=Tr.run_bind ..▸J.vk (λE=>E) d j h
theorem J.mono{b:α->β->aL->Prop}(j:J E o (ay M A m) R s)(h:∀a v s',R a v s'->b a v s')(e:∀x s',E x s'->E' x s'):J E' o (ay M A m) b s:=by revert j;cases o with|no=>exactλy=>trivial|exc=>exactλj=>ba j (λy y q=>q) e|ok a=>exactλj=>ba j (h a) λy y q=>q.elim
theorem J.by(b:∀Q E,w Q E s->w' Q E s)(j:J E o w R s):J E o w' R s:=by revert j;cases o with|no=>exactλx=>trivial|exc=>exact b _ _|ok a=>exact b _ _
theorem J.all{G:aL->Prop}(b:∀Q E,(∀s',G s'->w' Q E s')->w Q E s)(j:∀s',G s'->J E o w' R s'):J E o w R s:=by revert j;cases o with|no=>exactλx=>trivial|exc=>exact b _ _|ok a=>exact b _ _
theorem J.ret{a:α}{w:Wt β}{R:α->β->aL->Prop}(h:w (R a) (λx x=>False) s):J E (Tr.ret a).run w R s:=h
theorem J.op{o:Option D}{w:Wt β}{R:D->β->aL->Prop}(h:∀d,o=aa d->w (R d) (λx x=>False) s):J E (Tr.op o).run w R s:=by rw[Tr.JI];cases o with|none=>trivial|some d=>exact h d rfl
theorem J.gZ{o:Option Bool}{w:Wt β}{R:Bool->β->aL->Prop}(h:∀t,o=aa t->w (R t) (λx x=>False) s):J E (Tr.gZ o).run w R s:=by cases o with|none=>trivial|some d=>exact h d rfl
theorem Tr.AK(o:Ev D):(Tr.q o .ret).run=o:=by cases o<;>rfl
end
section
variable(W:Wd)(n:Nat)(F:Fn)(σ:Sc)
def SX(e:aH)(x:X):Prop:=∀q E s,q.σ=σ->Pl W n q E s->J E (x F q.ρ).run (q.W W (eval e q.env)) (Rs W q s) s
def SV(e:aH)(x:X):Prop:=∀q E s,q.σ=σ->Pl W n q E s->J E (x F q.ρ).run (q.W W (eval e q.env)) (Vs W q s) s
def SB(e:aH)(x:B):Prop:=∀q E s,q.σ=σ->Pl W n q E s->J E (x F q.ρ).run (q.W W (A0 e q.env (eval e q.env))) (λt a s'=>a=t/\Nx W s s') s
end
section
variable{W:Wd}{n:Nat}{F:Fn}{σ:Sc}{q:Q}{E:bI}{s ao s':aL}
theorem Pl.nx(P:Pl W n q E s)(k:Nx W s ao):Pl W n q E ao:=⟨P.h.nx k,λe s' x=>P.e e s' (x.before k.k (λy y y=>id) λb hb=>k.k.bp hb id)⟩
theorem Pl.bp(P:Pl W n q E s):∀b,q.X b->(s.heap.get? b).isSome=af:=λb hb=>(P.h.old b hb).1
theorem Rs.v{d:D}{v:aA}(x:Rs W q s d v s'):Vs W q s d v s':=⟨x.n,.inl x.r⟩
theorem SX.v{e:aH}{x:X}(h:SX W n F σ e x):SV W n F σ e x:=λq E s a P=>(h q E s a P).mono (λy y y=>Rs.v) λy y=>id
theorem Gv.rs{d:D}{w:Wt aA}(h:Gv q.X ao d w)(n:Nx W s ao):w (Rs W q s d) (λx x=>False) ao:=h _ _ λy s' g r=>⟨n.trans (g.nx n.i),r⟩
theorem alD{e e':aH}{x:X}{f:D->Option D}{m:fC->aA->dC aA}(g:∀{q:Q} {s Q E},ay W.M q.A (eval e q.env) (λv b=>ay W.M q.A (m q.env v) Q E b) E s->ay W.M q.A (eval e' q.env) Q E s)(hx:SV W n F σ e x)
  (ok:∀{q E s a v d},q.σ=σ->Pl W n q E s->f a=aa d->Vw q.X s.heap a v->Gv q.X s d (q.W W (m q.env v))):SX W n F σ e' (.dG f x):=λq E s c P=>
 J.bind (λy y=>g) (hx q E s c P) λa v b r=>J.op λd e=>(ok c (P.nx r.n) e r.r).rs r.n
theorem E3{o l e':aH}{x y:X}{f:D->D->Option D}{m:fC->aA->aA->dC aA}
  (t:∀{q:Q} {s Q E},ay W.M q.A (eval o q.env) (λv g=>ay W.M q.A (eval l q.env) (λu j=>ay W.M q.A (m q.env v u) Q E j) E g) E s->ay W.M q.A (eval e' q.env) Q E s) (hx:SV W n F σ o x) (p:SV W n F σ l y)
  (ok:∀{q E s a b v u d},q.σ=σ->Pl W n q E s->f a b=aa d->Vw q.X s.heap a v->Vw q.X s.heap b u->Gv q.X s d (q.W W (m q.env v u))):SX W n F σ e' (.fk f x y):=λq E s i P=>
 J.bind (λz z=>t) (hx q E s i P) λa v g r=>J.bind (λz z h=>h) (p q E g i (P.nx r.n)) λb u j c=>J.op λd e=>(ok i ((P.nx r.n).nx c.n) e (r.r.mv c.n.k) c.r).rs (r.n.trans c.n)
theorem alE{a b:aH}{x y:X}{p:bQ}(hx:SV W n F σ a x)(c:SV W n F σ b y):SX W n F σ (.BinOp a .Add b p) (.fk c6 x y):=E3 (m:=λz=>pC .Add) D9 hx c λz P e p q=>Ts P.bp e p q
theorem alF{a b:aH}{x y:X}{p:bQ}(hx:SV W n F σ a x)(c:SV W n F σ b y):SX W n F σ (.BinOp a .Sub b p) (.fk Le x y):=E3 (m:=λz=>pC .Sub) D9 hx c λz z=>aiH
theorem aiT{a b:aH}{x y:X}{p:bQ}(hx:SV W n F σ a x)(c:SV W n F σ b y):SX W n F σ (.BinOp a .FloorDiv b p) (.fk Kx x y):=E3 (m:=λz=>pC .FloorDiv) D9 hx c λz z=>af3
theorem alG{a b:aH}{x y:X}{p:bQ}(hx:SV W n F σ a x)(c:SV W n F σ b y):SX W n F σ (.BinOp a .Mod b p) (.fk xN x y):=E3 (m:=λz=>pC .Mod) D9 hx c λz z=>aiI
theorem alH{a:aH}{x:X}{p:bQ}(hx:SV W n F σ a x):SX W n F σ (.UnaryOp .USub a p) (.dG Lf x):=alD (m:=λy=>unaryOp .USub) Tb hx λy y=>aiJ
end
theorem nq{Q:bI}(b:env.scope.kind=.function)(hc:(n==("__classdict__":aB))=ag)
  (x:fy env s.heap n v) (h:Q v s):ay M A (loadName env n) Q E s:=
 x.elim (λx=>x.2.elim λm y=>afZ b x.1 y.1 y.2 h) λx=>x.2.elim λc y=>x.1.elim (λa=>wpAny_loadName_cell b a y.1 y.2 h) λa=>aix b a y.1 y.2 h hc
theorem iV{σ:Sc}(h:σ.fK n=af):σ.tb.lookup n≠ak/\(n==("__debug__":aB))=ag/\(n==("__classdict__":aB))=ag:=by unfold Sc.fK at h;simp only [eg,eg,mz,mz]at h;refine⟨λe=>?_,h.1.2,h.2⟩;rw[e]at h;exact bb (h.1.1)
section
theorem af6:SX W n F σ e .stuck:=λx x x x x=>trivial
theorem Bq(h:∀{q:Q} {s:aL} {Q E},(∀v t,bq q.X s.heap d v->Q v {s with toks:=t})->ay W.M q.A (eval e q.env) Q E s):SX W n F σ e (.c d):=λq E s x P=>J.ret (h λv t r=>⟨(Gr.tok s t).nx P.h.inv,r⟩)
theorem aiU:SX W n F σ (.Constant .none k p) (.c .none):=Bq λ{q s x x} h=>wpAny_Constant_none (h _ s.toks rfl)
theorem aiV:SX W n F σ (.Constant (.bool b) k p) (.c (.bool b)):=Bq λ{q s x x} h=>wpAny_Constant_bool (h _ s.toks rfl)
theorem alI:SX W n F σ (.Constant (.int i) k p) (.c (.int i)):=Bq λh=>OY (h _ _ (im _ _))
theorem alJ(a:x.cps.size<=aI):SX W n F σ (.Constant (.str x) k p) (.c (.str x.cps.toList)):=Bq λh=>wpAny_Constant_str (h _ _ (A8 _ a))
theorem af7(a:b.length<=aI):SX W n F σ (.Constant (.bytes b) k p) (.c (.bytes (b.map bR))):=Bq λh=>Ry (h _ _ (qU _ a))
theorem xk(H:jp W n q s)(d:q.σ.ns[i]?=aa nm)(h2:q.σ.fK nm=af)(c:q.ρ[i]?=aa a)(b:a≠.U){Q:bI}(k:∀v,fy q.env s.heap nm v->eQ q s.heap i a v->Q v s):ay W.M q.A (eval (.Name nm p) q.env) Q E s:=
 have z:=iV h2
 ((H.at_ i nm a d z.1 c).resolve_left b).elim λv x=>nJ (nq H.fs.fn z.2.2 x.1 (k v x.1 x.2)) z.2.1
theorem U4(c:σ.ns[i]?=aa nm)(h2:σ.fK nm=af):SX W n F σ (.Name nm p) (.loc i):=λq E s b P=>J.op λd e=>(cG.mp e).elim λa e=>by subst b;cases a with|val d'=>exact xk P.h c h2 e.1 (λh=>c5 h rfl) λv y x=>⟨.refl P.h.inv,am (aM e.2) x⟩|_=>exact aN e.2
theorem anX(b:σ.ns[i]?=aa nm)(h2:σ.fK nm=af):SV W n F σ (.Name nm p) (.vw i):=λq E s c P=>J.op λd e=>(cG.mp e).elim λa e=>by subst c;cases a with|U=>exact aN e.2|val d'=>exact xk P.h b h2 e.1 (λh=>c5 h rfl) λv y x=>⟨.refl P.h.inv,am (aM e.2) (.inl x)⟩|own xs=>exact xk P.h b h2 e.1 (λh=>c5 h rfl) λv y x=>⟨.refl P.h.inv,x.elim λa x=>x.elim λai x=>.inr ⟨xs,a,ai,(aM e.2).symm,x.1,x.2.2⟩⟩|da xs=>exact xk P.h b h2 e.1 (λh=>c5 h rfl) λv y x=>⟨.refl P.h.inv,x.elim λai x=>.inr ⟨xs,_,ai,(aM e.2).symm,x.1,x.2.2⟩⟩
def NS(e:aH):Prop:=∀es env,jf (e::es) env=(ag,eval e env)::jf es env
inductive jz(S:aH->X->Prop):List aH->List X->Prop|nil:jz S [] []|cons {e:aH} {x:X} {es:List aH} {xs:List X} (h:S e x) (hs:NS e) (r:jz S es xs):jz S (e::es) (x::xs)
theorem uU(r:jz (SX W n F σ) es xs):∀q E s,q.σ=σ->Pl W n q E s->J E (lH xs F q.ρ).run (q.W W (vf (kv pos (jf es q.env)))) (λds vs s'=>Nx W s s'/\a9 q.X s'.heap ds vs/\vs.length=es.length) s:=by induction r with|nil=>exactλq E s y P=>J.ret (hK ⟨.refl P.h.inv,.nil,rfl⟩)|@cons e x es xs h hs _ ih=>refineλq E s b P=>J.bind (λy y k=>eK k (hs es q.env)) (h q E s b P) λd v c r=>J.bind (λy y k=>k) (ih q E c b (P.nx r.n)) λds vs f a=>J.ret ⟨r.n.trans a.1,.cons (r.r.mv (.kp a.1.k)) a.2.1,aj (·+1) a.2.2⟩
theorem jz.plain(r:jz S es xs):(kv pos (jf es env)).all (λx=>!x.1)=af/\(kv pos (jf es env)).any (·.1)=ag:=by induction r with|nil=>exact⟨rfl,rfl⟩|cons h hs _ ih=>rw[hs];exact ih
theorem Tu(P:Pl W n q E s):¬q.X s.heap.objs.size:=λh=>nomatch (eh _).symm▸P.bp _ h
theorem Mc(h:k<30):k<=aI:=dk (bX h (eX rfl))
theorem WO(P:Pl W n q E s)(r:Nx W s ao/\a9 q.X ao.heap ds vs/\vs.length=m)(a:m<30)(T:String):vs.length<=je/\Nx W s {ao with heap:=ao.heap.push {cls:=.type T,data:=.seq vs.toArray}}/\
  bG (ao.heap.push {cls:=.type T,data:=.seq vs.toArray}) T ao.heap.objs.size vs/\a9 q.X (ao.heap.push {cls:=.type T,data:=.seq vs.toArray}) ds vs/\¬q.X ao.heap.objs.size:=
 have l:=Mc (r.2.2▸a:vs.length<30);have z:=sN r.2.1 l ao.toks
 ⟨gQ l,r.1.trans (z.1.nx r.1.i),z.2.1,z.2.2,Tu (P.nx r.1)⟩
theorem aiW(r:jz (SX W n F σ) es xs)(c:es.length<30):SX W n F σ (.List es p) (.list xs):=λq E s b P=>J.bind (λx x=>JD) (uU r q E s b P) λe vs d a=>have z:=WO P a c "list";J.ret ⟨z.1,z.2.1,(n9 z.2.2.2.2 z.2.2.2.1).1 z.2.2.1⟩
theorem alK(r:jz (SX W n F σ) es xs)(c:es.length<30):SX W n F σ (.Tuple es k p) (.tup xs):=λq E s b P=>J.bind (λx x=>US) (uU r q E s b P) λe vs d a=>have z:=WO P a c "tuple";J.ret ⟨z.1,z.2.1,(n9 z.2.2.2.2 z.2.2.2.1).2 z.2.2.1⟩
theorem alL(hc:SB W n F σ c y)(k:SX W n F σ a x)(hb:SX W n F σ b z):SX W n F σ (.IfExp c a b p) (.ite y x z):=λq E s g P=>J.bind (w2:=λt=>if t then q.W W (eval a q.env)else q.W W (eval b q.env)) (λQ E h=>wpAny_IfExp (ba h (λt f h=>by cases t<;>exact h) λd d x=>x)) (hc q E s g P) λt i f r=>by obtain rfl:=r.1;cases i with|true=>exact(k q E f g (P.nx r.2)).mono (λd v j e=>⟨r.2.trans e.n,e.r⟩) λd d x=>x|false=>exact(hb q E f g (P.nx r.2)).mono (λd v j e=>⟨r.2.trans e.n,e.r⟩) λd d x=>x
theorem anY(h:SV W n F σ e x)(hp:∀env a,A0 e env a=(do let v<-a;vg e.pos;Y1 [v] (xL v))):SB W n F σ e (.of x):=λq E s b P=>J.bind (λy y k=>isTrue_plain k (hp _ _)) (h q E s b P) λd v f r=>J.gZ λt ht=>H8 r.r ht λc g=>⟨rfl,r.n.trans (g.nx r.n.i)⟩
theorem alM(h:SB W n F σ e x):SB W n F σ (.UnaryOp .Not e p) (.not x):=λq E s a P=>J.bind (λy y k=>isTrue_not k) (h q E s a P) λt b c r=>J.ret ⟨aj _ r.1,r.2⟩
def SK{β:Type}(W:Wd)(n:Nat)(F:Fn)(σ:Sc)(K:Bool->β)(w:Q->Wt β)(x:B):Prop:=∀q E s,q.σ=σ->Pl W n q E s->J E (x F q.ρ).run (w q) (λt k s'=>k=K t/\Nx W s s') s
section
variable{β:Type}{K:Bool->β}
theorem U5{m:Q->aA->aA->Wt β}(hx:SV W n F σ a x)(l:SV W n F σ b y)(o:∀{q:Q} {s Q E},ay W.M q.A (eval a q.env) (λv e=>ay W.M q.A (eval b q.env) (λu f=>m q v u Q E f) E e) E s->w q Q E s)
  (hf:∀{q:Q} {v u t s},Cv s t (q.W W (lh c v u))->∀Q E,(∀s',Gr s s'->Q (K t) s')->m q v u Q E s):SK W n F σ K w (.cmp c x y):=λq E s j P=>
 J.bind (λz z=>o) (hx q E s j P) λa v e r=>J.bind (λz z k=>k) (l q E e j (P.nx r.n)) λb u f d=>J.gZ λt ht=>hf (JM (P.nx r.n).h.units P.h.fs.hd (r.r.mv d.n.k) d.r ht) _ _ λp g=>⟨rfl,r.n.trans (d.n.trans (g.nx d.n.i))⟩
theorem Tv{m:Q->aA->aA->Wt β}{m':Q->aA->aA->Wt β}(hx:SV W n F σ a x)(I:SV W n F σ b y)(H:SV W n F σ d z)
  (L:∀{q:Q} {s Q E},ay W.M q.A (eval a q.env) (λv p=>ay W.M q.A (eval b q.env) (λu l=>m q v u Q E l) E p) E s->w q Q E s)
  (hf:∀{q:Q} {v u t s},Cv s t (q.W W (lh c v u))->∀Q E,(∀s',Gr s s'->cond t (ay W.M q.A (eval d q.env) (λy ao=>m' q u y Q E ao) E s') (Q (K ag) s'))->m q v u Q E s)
  (N:∀{q:Q} {v u t s},Cv s t (q.W W (lh c' v u))->∀Q E,(∀s',Gr s s'->Q (K t) s')->m' q v u Q E s):SK W n F σ K w (.pM c c' x y z):=λq E s D P=>by
 refine J.bind (λe e=>L) (hx q E s D P) λa v p r=>J.bind (λe e k=>k) (I q E p D (P.nx r.n)) λb u l f=>?_;simp only [Tr.run_bind,Tr.af2];generalize ht:A5 c a b=o;cases o with
 |none=>trivial
 |some t=>have C:Cv l t (q.W W (lh c v u)):=JM (P.nx r.n).h.units P.h.fs.hd (r.r.mv f.n.k) f.r ht;cases t with|false=>exact hf C _ _ λG g=>⟨rfl,r.n.trans (f.n.trans (g.nx f.n.i))⟩|true=>refine J.all (hf C) λG g=>?_;have n:=r.n.trans (f.n.trans (g.nx f.n.i));refine J.bind (λe e k=>k) (H q E G D (P.nx n)) λd y R j=>J.gZ λt B=>?_;exact N (JM P.h.units P.h.fs.hd ((f.r.mv (g.kp _)).mv j.n.k) j.r B) _ _ λO g'=>⟨rfl,n.trans (j.n.trans (g'.nx j.n.i))⟩
theorem alN(hx:SV W n F σ a x)(d:SV W n F σ b y)(e:Tc c b=ag):SK W n F σ uR (λq=>q.W W (eval (.Compare a [c] [b] p) q.env)) (.cmp c x y):=U5 hx d (λh=>anR h e) λh Q E k=>h Q E k
theorem alO(hx:SV W n F σ a x)(d:SV W n F σ b y)(e:Tc c b=ag):SB W n F σ (.Compare a [c] [b] p) (.cmp c x y):=U5 hx d (λh=>afO h e) λh Q E k=>h _ _ λs' g=>uA (k s' g)
theorem aiX(hx:SV W n F σ a x)(j:SV W n F σ b y)(i:SV W n F σ d z)(l:Ww [c,c'] [b,d]=ag):SK W n F σ uR (λq=>q.W W (eval (.Compare a [c,c'] [b,d] p) q.env)) (.pM c c' x y z):=
 Tv (m:=λq v u Q E s=>ay W.M q.A (lh c v u) (λc o=>ay W.M q.A (xL c) (λt f=>if t then ay W.M q.A (eval d q.env) (λy ao=>ay W.M q.A (lh c' u y) Q E ao) E f else Q c f) E o) E s) hx j i
  (λh=>Compare_chain (ba h (λe e h=>chain_link (ba h (λe e h=>ba h (λe e h=>ba h (λt e h=>by cases t<;>first|exact h|exact chain_last h) λe e=>id) λe e=>id) λe e=>id)) λe e=>id) l)
  (λh Q E k=>h _ _ λs' g=>uA (by have:=k s' g;revert this;cases‹Bool›<;>exact id)) λh Q E k=>h Q E k
theorem aiY(hx:SV W n F σ a x)(l:SV W n F σ b y)(j:SV W n F σ d z)(o:Ww [c,c'] [b,d]=ag):SB W n F σ (.Compare a [c,c'] [b,d] p) (.pM c c' x y z):=
 Tv (m:=λq v u Q E s=>ay W.M q.A (lh c v u) (λc f=>ay W.M q.A (xL c) (λt i=>if t then ay W.M q.A (eval d q.env) (λy ao=>ay W.M q.A (lh c' u y) (λc f=>ay W.M q.A (xL c) Q E f) E ao) E i else Q ag i) E f) E s)
  hx l j
  (λh=>isTrue_chain (ba h (λe e h=>test_link (ba h (λe e h=>ba h (λe e h=>ba h (λt e h=>by cases t<;>first|exact h|exact test_last h) λe e=>id) λe e=>id) λe e=>id)) λe e=>id) o)
  (λh Q E k=>h _ _ λs' g=>uA (by have:=k s' g;revert this;cases‹Bool›<;>exact id)) λh Q E k=>h _ _ λs' g=>uA (k s' g)
end
theorem Tw(h:SK W n F σ uR (λq=>q.W W (eval e q.env)) x):SX W n F σ e (.bool x):=λq E s a P=>J.bind (λy y k=>k) (h q E s a P) λt v b r=>J.ret ⟨r.2,ae r.1 (q8 t)⟩
theorem alP(h:SV W n F σ e x):SX W n F σ (.UnaryOp .Not e p) (.bool (.not (.of x))):=Tw λq E s f P=>by show J E (Tr.bind (Tr.bind (x F q.ρ) λd=>.gZ (qZ d)) λt=>.ret (!t)).run _ _ s;rw[Tr.acw];exact J.bind (λy y=>Tb) (h q E s f P) λd v j r=>J.bind (λy y k=>not_value k) (J.gZ (R:=λt a s'=>a=t/\Nx W s s') λt ht=>H8 r.r ht λc g=>⟨rfl,r.n.trans (g.nx r.n.i)⟩) λt a c b=>J.ret ⟨am b.1 rfl,b.2⟩
end
noncomputable def q9(b:Bool):HZ:=if b then .And else .Or
inductive yk(S:aH->B->Prop):List aH->List B->Prop|nil:yk S [] []|cons {e:aH} {x:B} {es:List aH} {xs:List B} (h:S e x) (r:yk S es xs):yk S (e::es) (x::xs)
section
variable{W:Wd}{σ:Sc}
theorem Z8{Q:Bool->aL->Prop}
  (h:ay M A (A0 x env (eval x env)) (λt a=>cond (t==b) (ay M A (LW (q9 b) rest env) Q E a) (Q t a)) E s):ay M A (LW (q9 b) (x::rest) env) Q E s:=by
 cases b with|true=>exact wpAny_allTrue_And_cons (ba h (λt y h=>by cases t<;>exact h) λy y=>id)|false=>exact wpAny_allTrue_Or_cons (ba h (λt y h=>by cases t<;>exact h) λy y=>id)
theorem OG{Q:Bool->aL->Prop}(h:Q b s):ay M A (LW (q9 b) [] env) Q E s:=by cases b with|true=>exact wpAny_allTrue_And_nil h|false=>exact wpAny_allTrue_Or_nil h
theorem aea(r:yk (SB W n F σ) es xs):∀q E s,q.σ=σ->Pl W n q E s->J E (B.kH b xs F q.ρ).run (q.W W (LW (q9 b) es q.env)) (λt a s'=>a=t/\Nx W s s') s:=by
 induction r with
 |nil=>exactλq E s y P=>J.ret (OG ⟨rfl,.refl P.h.inv⟩)
 |@cons e x es xs h r ih=>
  intro q E s c P;refine J.bind (λy y k=>Z8 k) (h q E s c P) λt a d p=>?_;refine ae p.1 ?_;cases hb:t==b with
  |false=>exact J.ret ⟨rfl,p.2⟩
  |true=>cases r with|nil=>exact J.ret (OG ⟨(bt hb).symm,p.2⟩)|cons h' r'=>exact(ih q E d c (P.nx p.2)).mono (λt a s' z=>⟨z.1,p.2.trans z.2⟩) λy y=>id
theorem U6(r:yk (SB W n F σ) es xs):SB W n F σ (.BoolOp (q9 b) es p) (.kH b xs):=λq E s a P=>(aea r q E s a P).by λx x=>wpAny_isTrue_BoolOp
theorem abb{Q:bI}
  (h:ay M A (eval x env) (λv c=>ay M A (xL v) (λt a=>cond (t==b) (ay M A (Y5 pos (q9 b) (EW (y::rest) env)) Q E a) (Q v a)) E c) E s):ay M A (Y5 pos (q9 b) (EW (x::y::rest) env)) Q E s:=by
 refine aE (ba h (λv c h=>aE (kY (aE (hO (ba h (λt a h=>?_) λz z=>id))))) λz z=>id);cases b<;>cases t<;>first|exact a8 h|exact h
theorem af8(r:jz (SX W n F σ) es xs):∀q E s,q.σ=σ->Pl W n q E s->J E (X.kH b xs F q.ρ).run (q.W W (Y5 pos (q9 b) (EW es q.env))) (Rs W q s) s:=by
 induction r with
 |nil=>exactλa a a a a=>trivial
 |@cons e x es xs h _ r ih=>
  intro q E s f P;cases r with
  |nil=>exact h q E s f P
  |@cons e' x' XU xs' h' dx r'=>refine J.bind (λa a k=>abb k) (h q E s f P) λd v m p=>?_;refine J.bind (λa a k=>k) (J.gZ (R:=λt j s'=>j=t/\Nx W m s') λt ht=>H8 (.inl p.r) ht λl g=>⟨rfl,g.nx p.n.i⟩) λt j l z=>?_;refine ae z.1 ?_;have c:=p.n.trans z.2;cases t==b with|false=>exact J.ret ⟨c,p.r.mv (.kp z.2.k)⟩|true=>exact(ih q E l f (P.nx c)).mono (λd v s' y=>⟨c.trans y.n,y.r⟩) λa a=>id
theorem U7(r:jz (SX W n F σ) es xs):SX W n F σ (.BoolOp (q9 b) es p) (.kH b xs):=af8 r
def Br(e:aH):Prop:=∀v u,aqc e ag v u=operate [v,u] (LV v u)
theorem RM{T:String}{id:String}{Q:bI}(a:s.TypeIs v T)(b:JC (.type T) "__getitem__"=pure (aa (.builtin id)))
  (hs:ay W.M A (aqc y ag v u) (λr c=>ay W.M A (letTemporaryGo ex v r>>=λx=>pure r) Q E c) E s):ay W.M A (aoU ex y v u) Q E s:=by
 unfold aoU;refine aE ?_;refine ae (getitemInPython_of_ne a.not_modules) ?_;refine aE (Qq a b ?_)
 first
  |exact a8 (aE hs)
  |exact aE (a8 (aE hs))
  |exact aE hs
theorem alQ(hx:SV W n F σ a x)(j:SX W n F σ i y)(hs:Br i):SX W n F σ (.Subscript a i p) (.fk eZ x y):=λq E s c P=>
 J.bind (λz z=>Wl) (hx q E s c P) λd v e r=>J.bind (λz z k=>k) (j q E e c (P.nx r.n)) λd' u l b=>J.op λz h=>
  have g:=aiN h (r.r.mv b.n.k) (.inl b.r)
  g.2.elim λT g2=>g2.elim λz g2=>RM g2.1 g2.2 (ae (hs v u) (anK (ba ((g.1).rs (r.n.trans b.n)) (λr m f=>aE (Oz (a8 f))) λz z=>id)))
def SP(W:Wd)(n:Nat)(F:Fn)(σ:Sc)(e:Option aH)(x:X):Prop:=∀q E s,q.σ=σ->Pl W n q E s->J E (x F q.ρ).run (q.W W (evalPart e q.env)) (Vs W q s) s
theorem aiZ:SP W n F σ ak (.c .none):=λq E s x P=>J.ret (a8 ⟨.refl P.h.inv,.inl rfl⟩)
theorem ai0(h:SX W n F σ e x):SP W n F σ (aa e) x:=λq E s a P=>by simp only [evalPart_some];exact h.v q E s a P
theorem alR{lo hi:Option aH}{x y z:X}{p D:bQ}(hx:SV W n F σ a x)(H:SP W n F σ lo y)(m:SP W n F σ hi z):SX W n F σ (.Subscript a (.Slice lo hi ak p) D) (.fT x y z):=λq E s t P=>by refine J.bind (λb b=>Wl) (hx q E s t P) λd v C r=>?_;refine J.bind (λb b k=>wpAny_Slice k) (H q E C t (P.nx r.n)) λdl vl B h=>?_;refine J.bind (λb b k=>k) (m q E B t ((P.nx r.n).nx h.n)) λL u j f=>J.op λz m=>a8 ?_;have l:=r.n.trans (h.n.trans f.n);have I:Gr j {j with heap:=j.heap.push {cls:=.type "slice",data:=.fields #[vl,u,.none]}}:=⟨λb o e=>dA _ e,rfl,rfl⟩;have c:=I.nx l.i;have g:=aiO (prog:=W.prog) (w:=W.w) (A:=q.A) (P.nx (l.trans c)).bp m (r.r.mv (h.n.k.trans ((f.n.trans c).k))) (aqs _ _ _ _) (h.r.mv ((f.n.trans c).k)) (f.r.mv c.k);exact g.2.elim λT g2=>g2.elim λb g2=>RM g2.1 g2.2 (anK (ba ((g.1).rs (l.trans c)) (λr K G=>aE (Oz (a8 G))) λb b=>id))
theorem wU{nm:aB}(h:σ.ci nm=af):σ.tb.lookup nm=aa .globalImplicit/\(nm==("__debug__":aB))=ag:=by unfold Sc.ci at h;simp only [eg,mz]at h;exact⟨bt h.1,h.2⟩
theorem sB(K:aT W){x:aB}{p:bQ}{v:aA}{Q:bI}(H:jp W n q s)(hx:q.σ.ci x=af)(a:W.gm x=aa v)(h:Q v s):ay W.M q.A (eval (.Name x p) q.env) Q E s:=OA H.fs.fn (H.fs.glob _ (wU hx).1) (alj (ae H.fs.gl (H.inv.glob K)) a h) (wU hx).2
noncomputable def sO:List (aB×aA):=[("len",.builtin "len"),("bytes",.type "bytes"),("min",.builtin "min"),("max",.builtin "max"),("divmod",.builtin "divmod"),("list",.type "list"),("chr",.builtin "chr"),("bool",.type "bool"),
 ("isinstance",.builtin "isinstance"),("range",.type "range"),("reversed",.type "reversed"),("enumerate",.type "enumerate"),("all",.builtin "all")]
def ii(W:Wd):Prop:=∀x v,(x,v)∈sO->W.gm x=ak/\W.bm x=aa v
theorem pi(K:aT W)(B:ii W){x:aB}{p:bQ}{v:aA}{Q:bI}(H:jp W n q s)(hx:q.σ.ci x=af)(a:(x,v)∈sO)(h:Q v s):ay W.M q.A (eval (.Name x p) q.env) Q E s:=OA H.fs.fn (H.fs.glob _ (wU hx).1) (loadGlobal_builtin (ae H.fs.gl (H.inv.glob K)) (B x v a).1 (ae H.fs.bl (H.inv.Bn K)) (B x v a).2 h) (wU hx).2
noncomputable def vm(i:Nat):aB:=match i with|0=>"_SLASH"|1=>"_law_members"|2=>"_law_last"|_=>"_law_palette"
def Ak(W:Wd)(a:Nat->D):Prop:=∀i,∃v,W.gm (vm i)=aa v/\bq (λb=>FB<=b) W.H0 (a i) v
theorem ai1(K:aT W){a:Nat->D}(G:Ak W a){i:Nat}{p:bQ}(h:σ.ci (vm i)=af):SX W n F σ (.Name (vm i) p) (.c (a i)):=λq E s d P=>J.ret ((G i).elim λv x=>sB K P.h (ae d h) x.1 ⟨.refl P.h.inv,bq.mv (.of P.h.inv.kp (λy y y q=>q.elim) λb o e hb=>(P.h.old b hb).2) x.2⟩)
end
section
theorem wG{Q:Args->aL->Prop}(hp:trees.any (·.1)=ag)(h:ay M A (vf trees) (λvs s'=>Q ⟨vs,[]⟩ s') E s):ay M A (evalArgs f af trees []) Q E s:=by match trees,hp,h with|[],_,h=>unfold evalArgs;exact aE (ba h (λvs s' a=>aE (a8 (hO (aE (a8 (aE (a8 (a8 a)))))))) λy y x=>x)|(ag,x)::rest,_,h=>exact Calls.evalArgs_plain h|(af,x)::rest,hp,_=>cases hp
theorem lg{Q:bI}(h:ay M A (eval (.Name x np) env) (λf ao=>ay M A (Lb pos f [] (kv pos (jf args env)) []) Q E ao) E s):
  ay M A (eval (.Call (.Name x np) args [] pos) env) Q E s:=aE h
end
def CW(b:aA):Prop:=∀{M:Bk} {A:dY} {E:bI} {s:aL} {pos:bQ} {a:List (Bool×dC aA)} {Q:bI},a.any (·.1)=ag->ay M A (vf a) (λvs s'=>ay M A (call b vs) Q E s') E s->ay M A (Lb pos b [] a []) Q E s
theorem vD:CW (.builtin b):=λhp h=>aau hp (wG hp h)
theorem tH{T:String}:CW (.type T):=λhp h=>aqL hp (wG hp h)
structure yl(W:Wd)(n:Nat)(A:dY)(X:aJ->Prop)(s:aL):Prop where
 room:pN A n
 hd:A.handled=ak
 hf:∃l,A.frames=aa l/\fQ s.heap l
 inv:Inv W s
 old:∀b,X b->(s.heap.get? b).isSome=af/\FB<=b
abbrev Ex(W:Wd)(A:dY)(s:aL)(e:aA)(s':aL):Prop:=dw W A ag ak (λx=>False) s e s'
def pE(W:Wd)(n:Nat)(a:aA)(o:Ev D)(ds:List D):Prop:=∀A s X vs,yl W n A X s->a9 X s.heap ds vs->J (Ex W A s) o (ay W.M A (call a vs)) (λd v s'=>Nx W s s'/\bq X s'.heap d v) s
structure MethAt(K:y6)(C:aJ)(m:aB)(fa:aJ):Prop where
 ga:gv K (.ref C) "__getattribute__"=aa (aa (.builtin "object.__getattribute__"))
 gt:gv K (.ref C) "__getattr__"=aa ak
 at_:gv K (.ref C) m=aa (aa (.ref fa))
 fn:A1 K (.ref fa)=aa (.type "function")
 keep:lX K (.ref fa)=af
 no:((bx C).all λx=>!(bJ x==m))=af
structure zZ(K:y6)(C:aJ)(m:Nat)(i:Nat):Prop where
 ga:gv K (.ref C) "__getattribute__"=aa (aa (.builtin "object.__getattribute__"))
 cd:∃cd,vQ K C=aa cd/\cd.hasDict=af
 at_:gv K (.ref C) (bJ m)=aa ak
 ix:(bx C).findIdx? (λx=>bJ x==bJ m)=aa i
noncomputable def rb:List (aB×Nat):=([("_escape",0),("_read_octet",1),("_read_class",2),("_read_parts",3),("_render",8),("translate_bracket_expression",9),("_translate_segment",10),("_split_segments",11),("_translate_double_asterisk",12),("_collapse_double_asterisks",13),("_translate",14),("translate_wildmatch",15),
 ("_handle_leading_patterns",16),("translate_ignore",17),("_relative_to",21),("_last_matching_pattern",22),("_decide",23),("_excluded_inside",24),("_may_prune",25),("_law_letters",29),("_law_tails",30),("_law_idle",31),("_law_turned",32),("_law_set",33),("_law_text",34),("_law_close",35),("_law_rules",36),
 ("_law_holds",37),("_law_part",38),("_law_fits",39),("_law_rule",40),("_law_pruned",41),("_law_due",42),("_law_clear",43),("_law_sample",44),("_law_path",45)]:List (String×_)).map λp=>(fY p.1,p.2)
noncomputable def vn:List (aB×Nat×Nat×Nat):=([("Expression",92,48,3),("Pattern",240,49,3),("IgnoreFilter",333,50,4)]:List (String×_)).map λp=>(fY p.1,p.2)
noncomputable def xr:List (aB×List (Nat×Nat)):=([("holds",[(92,4)]),("once",[(92,5)]),("ends",[(92,6)]),("match",[(92,7),(240,20)]),("matches",[(240,18)]),("reaches_inside",[(240,19)]),("is_ignored",[(333,27)]),("may_prune_directory",[(333,28)])]:List (String×_)).map λp=>(fY p.1,p.2)
def fA(F:Fn)(C k m:Nat)(ds:List D):Ev D:=(F k (.U::ds.map .val)).bind λo=>o.1.el (Ev.of (X.fields C m o.2)) .no .no λx=>.no
structure vo(W:Wd)(n:Nat)(F:Fn):Prop where
 call:∀nm k,(nm,k)∈rb->∃fv,W.gm nm=aa fv/\lX W.fr fv=af/\∀ds,pE W n fv (aV F k ds) ds
 new:∀nm C k m,(nm,C,k,m)∈vn->∃fv,W.gm nm=aa fv/\lX W.fr fv=af/\∀ds,pE W n fv (fA F C k m ds) ds
 rz:∀nm ks C k,(nm,ks)∈xr->ks.lookup C=aa k->∃fa,MethAt W.fr C nm fa/\∀fs ds,pE W n (.ref fa) (aV F k (.inst C fs::ds)) (.inst C fs::ds)
 prop:∀A s X v ex fs,yl W n A X s->bq X s.heap (.inst 333 fs) v->J (Ex W A s) (aV F 26 [.inst 333 fs]) (ay W.M A (LX v "patterns" ex)) (λd v s'=>Nx W s s'/\bq X s'.heap d v) s
 attr:∀C m i,(bx C).idxOf? m=aa i->zZ W.fr C m i
section
variable{W:Wd}
theorem Pl.out(P:Pl W n q E s):yl W n q.A q.X s:=⟨P.h.fs.room,P.h.fs.hd,P.h.hf,P.h.inv,P.h.old⟩
theorem z7(K:aT W)(B:ii W)(i:σ.ci nm=af)(g:(nm,fv)∈sO)(j:CW fv)(hx:SV W n F σ a x)(hs:NS a)
  (ok:∀{q E s a v d},q.σ=σ->Pl W n q E s->f a=aa d->Vw q.X s.heap a v->Gv q.X s d (q.W W (call fv [v]))):SX W n F σ (.Call (.Name nm p) [a] [] p') (.dG f x):=λq E s b P=>
 J.bind (λQ E k=>lg (pi K B P.h (ae b i) g (j (by rw[hs];rfl) (eK (ba k (λv c k=>hK k) λy y=>id) (hs [] q.env))))) (hx q E s b P) λd v c r=>J.op λz e=>(ok b (P.nx r.n) e r.r).rs r.n
theorem I9(K:aT W)(B:ii W)(t:σ.ci nm=af)(o:(nm,fv)∈sO)(w:CW fv)(hx:SV W n F σ a x)(hs:NS a)(m:SV W n F σ b y)(i:NS b)
  (ok:∀{q E s a b v u d},q.σ=σ->Pl W n q E s->f a b=aa d->Vw q.X s.heap a v->Vw q.X s.heap b u->Gv q.X s d (q.W W (call fv [v,u]))):SX W n F σ (.Call (.Name nm p) [a,b] [] p') (.fk f x y):=λq E s e P=>
 J.bind (λQ E k=>lg (pi K B P.h (ae e t) o (w (by rw[hs,i];rfl) (eK (ba k (λv g k=>eK (ba k (λu j k=>hK k) λz z=>id) (i [] q.env)) λz z=>id) (hs [b] q.env)))))
  (hx q E s e P) λd v g r=>J.bind (λz z k=>k) (m q E g e (P.nx r.n)) λd' u j c=>J.op λz l=>(ok e ((P.nx r.n).nx c.n) l (r.r.mv c.n.k) c.r).rs (r.n.trans c.n)
theorem Qx(K:aT W)(B:ii W){T:aB}(i:σ.ci "isinstance"=af)(j:σ.ci T=af)(g:(T,tv)∈sO)(hx:SV W n F σ a x)(hs:NS a)
  (ok:∀{q E s a v d},q.σ=σ->Pl W n q E s->f a=aa d->Vw q.X s.heap a v->Gv q.X s d (q.W W (call (.builtin "isinstance") [v,tv]))):SX W n F σ (.Call (.Name "isinstance" p) [a,.Name T iM] [] p') (.dG f x):=λq E s b P=>
 J.bind (λQ E k=>lg (pi K B P.h (ae b i) (by decide+kernel) (vD (by rw[hs];rfl) (eK (ba k (λv c k=>eK (ba k (λu l k=>hK k) λy y=>id) rfl) λy y=>id) (hs [_] q.env)))))
  (hx q E s b P) λd v c r=>J.op λz e=>pi K B (P.nx r.n).h (ae b j) g ((ok b (P.nx r.n) e r.r).rs r.n)
theorem Qy(P:Pl W n q E s)(a:Nx W s ao)(C:pE W n fv o ds)(r:a9 q.X ao.heap ds vs):J E (Tr.q o .ret).run (q.W W (call fv vs)) (Rs W q s) ao:=by rw[Tr.AK];exact(C q.A ao q.X vs (P.nx a).out r).mono (λd v s' z=>⟨a.trans z.1,z.2⟩) λe s' x=>(P.nx a).e e s' x.left
theorem xl(K:aT W)(a:lX W.fr fv=af){Q:bI}(hp:trees.any (·.1)=ag)
  (h:ay W.M A (vf trees) (λvs s'=>sK W.fr s'.heap/\ay W.M A (call fv (first++vs)) Q E s') E s):ay W.M A (Lb pos fv first trees []) Q E s:=aqd (by refine ae hp ?_;rfl) (keeps_K a) (wG hp h)
theorem U8(K:aT W){o:List D->Ev D}(c:W.gm nm=aa fv)(d:lX W.fr fv=af)(C:∀ds,pE W n fv (o ds) ds)(e:σ.ci nm=af)(r:jz (SX W n F σ) es xs):
  SX W n F σ (.Call (.Name nm p) es [] p') (λF r=>(lH xs F r).bind λds=>.q (o ds) .ret):=λq E s b P=>
 J.bind (λQ E k=>lg (sB K P.h (ae b e) c (xl K d r.plain.2 k))) (uU r q E s b P) λds vs f a=>(Qy P a.1 (C ds) a.2.1).by λx x h=>⟨a.1.i.fP K,h⟩
theorem af9(K:aT W)(Ph:vo W n F)(a:(nm,k)∈rb)(b:σ.ci nm=af)(r:jz (SX W n F σ) es xs):SX W n F σ (.Call (.Name nm p) es [] p') (.call k xs):=(Ph.call nm k a).elim λc z=>λq E s=>U8 K z.1 z.2.1 z.2.2 b r q E s
theorem alS(K:aT W)(Ph:vo W n F)(a:(nm,C,k,m)∈vn)(b:σ.ci nm=af)(r:jz (SX W n F σ) es xs):SX W n F σ (.Call (.Name nm p) es [] p') (.new C k m xs):=(Ph.new nm C k m a).elim λc z=>λq E s=>U8 K z.1 z.2.1 z.2.2 b r q E s
theorem lm.look{nm:aB}:∀{es:List pn} {xs:List Nat} {vs:List aA},lm es xs vs->es.any (·.refKey)=ag/\(es.find? (·.key.isStr nm)).map (·.val)=((xs.zip vs).find? λp=>bJ p.1==nm).map (·.2)
 |[],xs,vs,h=>by rw[h.1];exact⟨rfl,rfl⟩
 |e::es,xs,vs,h=>h.elim λx h=>h.elim λt h=>h.elim λc h=>h.2.2.elim λd b=>by have a:=b.2.look (nm:=nm);rw[h.1,b.1,zA,a.1,Oy,se,se,aq9,h.2.1];refine⟨rfl,?_⟩;show RF _ (match bJ x==nm with|true=>aa e|false=>_)=_;cases bJ x==nm with|true=>rfl|false=>exact a.2
theorem lz.look(x:lz h C a d vs)(nm:aB):∃o b,InstAt h a o C (aa b)/\A2 nm b=aa (((((bx C).take vs.length).zip vs).find? λp=>bJ p.1==nm).map (·.2)):=
 x.imp λo x=>x.imp λb x=>x.elim λes x=>x.elim λn x=>⟨⟨x.g,x.cl,by unfold notCls;exact ae x.p rfl,ae x.di x.g'⟩,by
  unfold A2;refine ae x.t ?_;dsimp only;refine am ((x.e.look (nm:=nm)).2) ?_;cases hf:es.find? (·.key.isStr nm)with
  |some q=>rfl
  |none=>simp[(x.e.look (nm:=nm)).1]⟩
theorem IE{nm:aB}{xs:List Nat}{vs:List aA}(h:(xs.all λx=>!(bJ x==nm))=af):((xs.zip vs).find? λp=>bJ p.1==nm)=ak:=by induction xs generalizing vs with|nil=>rfl|cons x xs ih=>cases vs with|nil=>rfl|cons v vs=>rw[zB,eg,mz]at h;rw[Oy,se,h.1];exact ih h.2
theorem OH{nm:aB}{xs:List Nat}{vs:List aA}{i:Nat}{v:aA}(h:xs.findIdx? (λx=>bJ x==nm)=aa i)(hv:vs[i]?=aa v):((xs.zip vs).find? λp=>bJ p.1==nm).map (·.2)=aa v:=by
 induction xs generalizing vs i with
 |nil=>exact aN h
 |cons x xs ih=>cases vs with|nil=>exact aN hv|cons w vs=>rw[Cg]at h;rw[Oy,se];cases hx:bJ x==nm with|true=>rw[hx]at h;exact(aM h▸hv:(w::vs)[0]?=aa v)|false=>rw[hx]at h;exact(hJ.mp h).elim λj a=>ih a.1 (a.2▸hv:(w::vs)[j+1]?=aa v)
def lI(e:aH):Prop:=∀nm env a,attributeBase e nm env a=a
def DC:=λX h v=>(∀{d} (r:bq X h d v),XH v=af:Prop)
def Ia:=tT DC (aO nI (aO nI nI))
def aeb:=Ia.1
def aec:=Ia.2.1
def aed:=Ia.2.2
theorem acy:DC aeb aec aed:=λ{d} r=>by
 refine D.casesOn d ?_ ?_ ?_ ?_ ?_ ?_ ?_ ?_ ?_ r
 ·exactλr=>ae (r) rfl
 ·exactλx r=>ae (r) rfl
 ·exactλx r=>r.elim λx r=>ae r rfl
 ·exactλx r=>r.elim λx r=>r.elim λx r=>ae r.1 rfl
 ·exactλx r=>r.elim λx r=>r.elim λx r=>ae r.1 rfl
 ·exactλx r=>r.elim λx r=>r.elim λx r=>ae r.1 rfl
 ·exactλx r=>r.elim λx r=>r.elim λx r=>ae r.1 rfl
 ·exactλx x r=>r.elim λx r=>r.elim λx r=>r.elim λx r=>ae r.1 rfl
 ·exactλx r=>r.elim λx r=>r.elim λx r=>r.elim λx r=>r.elim λx r=>ae r.1 rfl
theorem handed{X h v}:DC X h v:=@Bo _ _ _ DC _ @acy X h v
theorem aee{d:D}{P:D->Prop}(e:pG m o=aa d)(k:∀C fs i,(bx C).idxOf? m=aa i->fs[i]?=aa d->P (.inst C fs)):P o:=by cases o with|inst C fs=>exact(cG.mp e).elim λi e=>k C fs i e.1 e.2|_=>exact aN e
theorem abc{K:y6}{C:aJ}{a:Obj}{nm:aB}{cd:ClassData}{v:aA}(hc:vQ K C=aa cd)(hd:cd.hasDict=af)(c:gv K (.ref C) nm=aa ak)(b:A2 nm a=aa (aa v)):findObj K C (aa a) nm=aa (.value v):=by unfold findObj;refine ae hc (ae c ?_);show(afJ cd (aa a) nm).bind _=_;unfold afJ;refine ae (cD hd) ?_;show(A2 nm a).bind _=_;refine ae b ?_;rfl
theorem Ib(K:aT W)(I:Inv W s){C m i:Nat}{a dd:aJ}{vs:List aA}{v:aA}{A:dY}{Q:bI}{E:bI}(Fa:zZ W.fr C m i)(hi:lz s.heap C a dd vs)(d:((bx C).take vs.length).findIdx? (λx=>bJ x==bJ m)=aa i)(b:vs[i]?=aa v)(hh:XH v=af)
  (k:∀t,Q v {s with toks:=t}):ay W.M A (LX (.ref a) (bJ m) af) Q E s:=
 (hi.look (bJ m)).elim λo z=>z.elim λe z=>Fa.cd.elim λcd c=>get_value (I.fP K) z.1 Fa.ga (abc c.1 c.2 Fa.at_ (z.2.trans (aj aa (OH d b)))) hh (k _)
theorem EH{nm:aB}(hs:lI a){A:dY}{env:fC}{Q:bI}{E:bI}(k:ay W.M A (eval a env) (λv b=>ay W.M A (LX v nm af) Q E b) E s):ay W.M A (eval (.Attribute a nm p) env) Q E s:=by rw[arm_eval_Attribute,hs];exact aE (ba k (λv b k=>aE (kY (aE (hO (ba k (λv c h=>aE (Oz (a8 h))) λx x=>id))))) λx x=>id)
theorem ai2(K:aT W)(Ph:vo W n F){m:Nat}(hx:SX W n F σ a x)(hs:lI a):SX W n F σ (.Attribute a (bJ m) p) (.dG (pG m) x):=λq E s h P=>J.bind (λQ E=>EH hs) (hx q E s h P) λd v f r=>J.op λz g=>aee (P:=λd=>bq q.X f.heap d v->_) g (λC fs i e hf b=>b.elim λa b=>b.elim λdd b=>b.elim λvs b=>(a9.get b.2.2.2.2.2 hf).elim λy c=>ae b.1 (Ib K r.n.i (Ph.attr C m i e) b.2.2.2.1 (ae b.2.2.2.2.1 (ae (wu (bO _)) ((Ph.attr C m i e).ix))) c.1 (handed c.2) λt=>⟨r.n.trans ((Gr.tok _ _).nx r.n.i),c.2⟩)) r.r
theorem Qz{ks:List (Nat×Nat)}{d:D}{k:Nat}{P:D->Prop}(e:X.E0 ks d=aa k)(h:∀C fs,ks.lookup C=aa k->P (.inst C fs)):P d:=by cases d with|inst C fs=>exact h C fs e|_=>exact aN e
theorem ai3(Ph:vo W n F)(hx:SX W n F σ a x)(hs:lI a):SX W n F σ (.Attribute a "patterns" p) (.rz [(333,26)] x []):=λq E s g P=>
 J.bind (λQ E=>EH hs) (hx q E s g P) λd v b r=>by
  cases i:X.E0 [(333,26)] d with
  |none=>trivial
  |some k=>
   refine Qz (P:=λd=>bq q.X b.heap d v->J E (Tr.q (aV F k [d]) .ret).run _ _ b) i (λC fs e f=>?_) r.r;have c:C=333/\k=26:=by rw[sa]at e;cases h:C==333 with|true=>rw[h]at e;exact⟨bt h,(aM e).symm⟩|false=>rw[h]at e;exact aN e
   rw[Tr.AK];refine ae c.2 ?_;exact(Ph.prop q.A b q.X v af fs (P.nx r.n).out (c.1▸f)).mono (λd v s' z=>⟨r.n.trans z.1,z.2⟩) (λe s' x=>(P.nx r.n).e e s' x.left)|>(c.1.symm▸·)
theorem zy{M:Bk}{A:dY}{E:bI}{s:aL}{env:fC}{o:aH}{name:aB}{a pos:bQ}{args:List aH}{Q:bI}(hx:lI o)(hp:(kv pos (jf args env)).all (λx=>!x.1)=af)(j:args.length<20)(g:(a.endLine==pos.line)=af)
  (h:ay M A (eval o env) (λov ao=>∃f first,(∀(pl:dC Bool) (i:aA×List aA->aL->Prop),i (f,first) ao->ay M A (getMethod ov name pl) i E ao)/\ay M A (Lb pos f first (kv pos (jf args env)) []) Q E ao) E s):
  ay M A (eval (.Call (.Attribute o name a) args [] pos) env) Q E s:=by
 rw[arm_eval_Call,hx];refine aE (ba h (λov ao b=>b.elim λf b=>b.elim λfirst b=>aE (kY ?_)) λy y e=>e);have c:((kv pos (jf args env)).all (λx=>!x.1)&&(backToKw pos (aqe [] env)).all (λx=>x.1.isSome)&&decide (args.length+([]:List Keyword).length+(if([]:List Keyword).isEmpty then 0 else 1)<30))=af:=by exact ae hp (gN (bX j (eX rfl)))
 have d:methodCallForm (args.length+([]).length) (kv pos (jf args env)) (backToKw pos (aqe [] env))=af:=c;have k:aoV af o env a pos=pure pos:=by unfold aoV;simp[g]
 unfold methodCall;exact ae d (aE (hO (b.1 _ _ (aE (fq k b.2)))))
theorem ai4(K:aT W)(Ph:vo W n F){nm:aB}{ks:List (Nat×Nat)}{es:List aH}{xs:List X}(A:(nm,ks)∈xr)(hx:SX W n F σ a x)(hs:lI a)(r:jz (SX W n F σ) es xs)(w:es.length<20)(B:(p.endLine==p'.line)=af):SX W n F σ (.Call (.Attribute a nm p) es [] p') (.rz ks x xs):=λq E s o P=>by refine J.bind (λQ E=>zy hs r.plain.1 w B) (hx q E s o P) λd v g f=>?_;cases D:X.E0 ks d with|none=>trivial|some k=>refine Qz (P:=λd=>bq q.X g.heap d v->J E ((lH xs F q.ρ).bind λj=>.q (aV F k (d::j)) .ret).run _ _ g) D (λC fs e b=>(Ph.rz nm ks C k A e).elim λfa z=>?_) f.r;refine J.bind (λQ E k=>⟨.ref fa,[v],λpl L t=>?_,xl K z.1.keep r.plain.2 k⟩) (uU r q E g o (P.nx f.n)) λj vs H c=>(Qy P (f.n.trans c.1) (z.2 fs j) (.cons (b.mv (.kp c.1.k)) c.2.1)).by λy y h=>⟨c.1.i.fP K,h⟩;exact b.elim λad b=>b.elim λdd b=>b.elim λG b=>(b.2.2.2.1.look nm).elim λI l=>l.elim λu l=>by have m:=l.2;rw[b.2.2.2.2.1,wu (bO _),IE z.1.no]at m;rw[b.1]at t⊢;exact method_fn (f.n.i.fP K) l.1 z.1.ga z.1.gt z.1.at_ z.1.fn (by show(A2 nm u).map (·.isSome)=_;refine ae m ?_;rfl) t
end
structure uZ(W:Wd)(a:aJ)(f:List UInt8->Option aA):Prop where
 g:W.gm "_POSIX_CLASSES"=aa (.ref a)
 lo:a<FB/\a∉TB
 sm:(a==sysModules)=ag
 m:W.H0.MapOf (jd W.prog W.w) a f
 n:∀k:List UInt8,kn (k.map bR)=ak->f k=ak
 s:∀k:List UInt8,∀c,kn (k.map bR)=aa c->∃b t,f k=aa (.bytes b t)/\b.toList.map bR=c/\b.size<=aI
section
variable{W:Wd}{s:aL}{ad:aJ}
theorem uZ.at_(Z:uZ W ad f)(I:Inv W s):s.heap.MapOf (jd W.prog W.w) ad f:=Z.m.elim λo m=>m.elim λes m=>m.elim λa m=>⟨o,es,a,I.kp.get m.1 id (.inr Z.lo.1) (.inr Z.lo.2),m.2⟩
theorem Tz:(jd W.prog W.w).is b.toList (.bytes b t)=af:=by simp[jd,sX]
theorem alV(K:aT W)(Z:uZ W ad f)(hx:SX W n F σ a x)(m:σ.ci "_POSIX_CLASSES"=af):SB W n F σ (.Compare a [.NotIn] [.Name "_POSIX_CLASSES" p] p') (.pos x):=λq E s j P=>
 J.bind (λQ E k=>afO k) (hx q E s j P) λd v u r=>J.gZ λt ht=>sB K (P.nx r.n).h (ae j m) Z.g (by
  refine vj ht (λy e l=>Vw.bE (.inl l) (λb tb hb e=>?_) e) r.r;refine wpAny_notIn_of Tz Z.sm (Z.at_ r.n.i) (uA ⟨?_,r.n.trans ((Gr.tok _ _).nx r.n.i)⟩);refine am (aM e) ?_;cases hp:kn (b.toList.map bR)with
  |none=>refine ae (Z.n _ hp) ?_;rfl
  |some c=>exact(Z.s _ _ hp).elim λw h=>h.elim λo h=>by refine ae h.1 ?_;rfl)
theorem aef(K:aT W)(Z:uZ W ad f)(hx:SX W n F σ a x)(o:σ.ci "_POSIX_CLASSES"=af)(hs:Br a):SX W n F σ (.Subscript (.Name "_POSIX_CLASSES" p) a p') (.dG Tm x):=λq E s j P=>J.bind (λQ E k=>Wl (sB K P.h (ae j o) Z.g k)) (hx q E s j P) λd v u r=>J.op λz m=>by refine vj m (λy e l=>Vw.bE (.inl l) (λb tb hb e=>?_) e) r.r;refine(cG.mp e).elim λc e=>(Z.s _ _ e.1).elim λw h=>h.elim λt h=>cY e.2 ?_;exact subscriptTail_builtin (Z.at_ r.n.i).typeIs slot_dict_getitem.lookup (wpAny_getItem_of Tz (Z.at_ r.n.i) h.1 ⟨r.n.trans ((Gr.tok _ _).nx r.n.i),am h.2.1 (qU _ h.2.2)⟩) (hs _ _) (λy=>by rfl)
theorem abd{lo:Int}:Nt lo hi 1=(((hi-lo).toNat:Nat):Int):=by rw[aoW];split<;>omega
theorem acz{X:aJ->Prop}{lo:Int}(e:ItemsOf (λi v=>∃t,v=Tj (lo+i*1) t) acc (hi-lo).toNat):a9 X h (nN lo hi) acc.toList:=by
 have:∀(m:Nat) (l:List aA),l.length=m->(∀(i:Nat) v,l[i]?=aa v->∃t,v=Tj (lo+i*1) t)->a9 X h ((fc m).map λk:Nat=>D.int (lo+(k))) l:=by
  intro m
  induction m with|zero=>exactλl a x=>ae (Nr a) .nil|succ m ih=>intro l a c;obtain⟨b,v,rfl⟩:∃b v,l=b++[v]:=⟨l.dropLast,l.getLast (by rintro rfl;cases a),(ur _).symm⟩;rw[aS]at a;have a:=mC a;refine ae Py (ae cU ?_);refine(ih b a λi v hi=>c i v ((ql (dX.mp hi).1).trans hi)).append (.cons ?_ .nil);exact(c m v (by refine ae (wq (cJ a)) ?_;rw[a,alr];rfl)).elim λt e=>⟨t,by rw[e,anD]⟩
 exact this _ _ (ae jG (ae e.1 rfl)) λi v hi=>e.2 i v (am (B3) hi)
theorem aeg(K:aT W)(B:ii W)(hf:σ.ci "list"=af)(R:σ.ci "range"=af)(hx:SX W n F σ a x)(hs:NS a)(L:SX W n F σ b y)(G:NS b):
  SX W n F σ (.Call (.Name "list" p) [.Call (.Name "range" f) [a,b] [] r] [] t) (.fk qT x y):=λq E s g P=>
 J.bind (λQ E k=>lg (pi K B P.h (g▸hf) (by decide+kernel) (tH rfl
  (eK (lg (pi K B P.h (g▸R) (by decide+kernel) (tH (by rw[hs,G];rfl) (eK (ba k (λv C k=>eK (ba k (λu c k=>hK (ba k (λw m k=>hK k) λz z=>id)) λz z=>id) (G [] q.env)) λz z=>id) (hs [b] q.env))))) rfl))))
  (hx q E s g P) λd v C r=>J.bind (w2:=λu Q E c=>ay W.M q.A (call (.type "range") [v,u]) (λw m=>ay W.M q.A (call (.type "list") [w]) Q E m) E c) (λz z k=>k) (L q E C g (P.nx r.n)) λd' u c j=>J.op λz I=>by refine jW I (λlo e p=>jW e (λO e f=>p.elim λtl p=>f.elim λH f=>fN e λhc=>?_) j.r) r.r;refine ae p (ae f ?_);refine ao0 ?_;have V:Gr c {c with heap:=c.heap.push {cls:=.type "range",data:=.fields #[.int lo tl,.int O H,.int 1 c.toks]},toks:=c.toks+1}:=⟨λb o e=>dA _ e,rfl,rfl⟩;have l:=(r.n.trans j.n).trans (V.nx (r.n.trans j.n).i);refine call_list_range P.h.fs.hd (aiy _ _ _ _ _ _ _) (small_one (by omega) (by omega) (by omega) (by omega)) abd (aw hc.2.2 (eX rfl)) λT tk Y X N S D=>?_;have U:Gr _ {c with heap:=T,toks:=tk}:=⟨N,rfl,rfl⟩;exact⟨l.trans (U.nx l.i),(n9 (Tu (P.nx l)) (acz D)).1 ⟨X,S,ae jG (ae D.1 hc.2.2)⟩⟩
end
structure Mv(W:Wd)(q:Q)(s:aL)(q':Q)(s':aL):Prop where
 kp:bZ q.my s.heap s'.heap
 gx:∀b,q'.G b=aa .x↔q.G b=aa .x
 new:∀b,q'.my b->q.my b\/s.heap.get? b=ak
 bp:∀b,(s.heap.get? b).isSome=af->(s'.heap.get? b).isSome=af
theorem nn{α:Type}{o:Option α}{a:α}(h:o=aa a):o≠ak:=λe=>aN (e.symm.trans h)
theorem Am{α:Type}{l:List α}{a a':α}(h:(l.set i a)[i]?=aa a'):a=a':=by rw[List.getElem?_set_self (zu▸(dX.mp h).1)]at h;exact aM h
theorem AL:∀b∈TB,b<FB:=eX rfl
section
theorem Mv.tp(m:Mv W q s q' s'):Tp q.X s.heap q'.X s'.heap:=λb o e hx=>⟨λz=>(hV (q'.G b=aa .x)).elim (λh=>hx (nn ((m.gx b).mp h))) λh=>(m.new b ⟨z,h⟩).elim (λr=>hx r.1) (nn e),m.kp b o e λr=>hx r.1⟩
theorem Mv.iI(k:Nx W s s'):Mv W q s q s':=⟨k.k.weak,λx=>.rfl,λx=>.inl,λb hb=>k.k.bp hb id⟩
theorem Mv.trans(x:Mv W q s iq ao)(y:Mv W iq ao q' s'):Mv W q s q' s' where
 kp:=λb o e a=>(x.kp b o e a).elim λd p=>(y.kp b d p.1 λr=>(x.new b r).elim a λz=>aN (z.symm.trans e)).elim λc r=>⟨c,r.1,p.2.trans r.2⟩
 gx:=λb=>(y.gx b).trans (x.gx b)
 new:=λb hb=>(y.new b hb).elim (x.new b) λr=>.inr (mE x.bp r)
 bp:=λb hb=>y.bp b (x.bp b hb)
theorem acA{h:bF}(x:h.Ns a m)(y:h.Ns a m'):m=m':=by obtain⟨o,es,g,e,d,_,r⟩:=x;obtain⟨f,i,c,e',d',_,b⟩:=y;rw[e]at e';cases e';rw[d]at d';cases d';exact funext λn=>(r n).symm.trans (b n)
theorem Inv.above(K:aT W){b:aJ}{a:bF}{t:Nat}(I:Inv W s)(hb:FB<=b)(hs:lR b s.heap a)(hc:∀o vs,s.heap.get? b=aa o->o.data=.fields vs->o.cls≠.type "code"):Inv W {s with heap:=a,toks:=t}where
 kp:=λc o e g=>(I.kp c o e g).elim λf p=>⟨f,(hs.2 c λq=>ft.mpr hb (q▸K.size▸eM e)).trans p.1,p.2⟩
 bare:=I.bare
 os:=I.os
 tabs:=I.tabs.next λc o vs e d q=>(hs.2 c λr=>q.elim (hc o vs (r▸e) d) λq=>ft.mpr hb (AL b (r▸q))).trans e
structure bM(W:Wd)(n:Nat)(q:Q)(s:aL):Prop extends jp W n q s where
 F0:q.σ.ns.Nodup
 F1:∀n,q.σ.tb.lookup n=aa .cell->q.env.kindOf n=aa .cell
structure Upd(q:Q)(h:bF)(q':Q)(h':bF)(b0:aJ)(i:Nat)(a:AV):Prop where
 same:lR b0 h h'
 my:q.my b0
 here:(h'.get? b0).isSome=af
 nf:∀o vs,h.get? b0=aa o->o.data≠.fields vs
 ns:∀L m,h.Ns L m->∃m',h'.Ns L m'
 cell:∀n c,(n,c)∈q.env.cells->∃v,h'.IsCell c v
 at_:∀n,q.σ.ns[i]?=aa n->q.σ.tb.lookup n≠ak->a=.U\/∃v,fy q.env h' n v/\eQ q' h' i a v
 vV:∀j n u,j≠i->q.σ.ns[j]?=aa n->fy q.env h n u->fy q.env h' n u
 own:∀j,j≠i->q.G b0≠aa (.o j)
 me:pO q' h'
theorem bM.U9(K:aT W)(H:bM W n q s)(a:Nx W s ao)(d:∀b r,q.G b=aa r->G' b=aa r)(g:∀b r,G' b=aa r->q.G b=aa r\/(s.heap.get? b=ak/\(ao.heap.get? b).isSome=af)):bM W n {q with G:=G'} ao:=
 have f:=H.tojp.nx a
 {H with rl:=d _ _ H.rl,rc:=λn c hc=>(H.rc n c hc).map λy e y=>d _ _ e,ns:=f.ns,cell:=f.cell,at_:=λj nm p l ht m=>(H.at_ j nm p l ht m).imp id λx=>x.imp λv x=>⟨k9 x.1 a.k id λy y y=>id,x.2.mv (.of a.k (λy y y q=>q.elim) λb o e hb=>(rW.mp hb).elim λr h=>(g b r h).elim (λq=>nn q) λq=>aN (q.1.symm.trans e)) (λad ai r z=>⟨d _ _ r,z.kp a.k id⟩) rfl⟩,old:=λb hb=>(rW.mp hb).elim λr e=>(g b r e).elim (λq=>f.old b (nn q)) λq=>⟨q.2,H.inv.low K q.1⟩,hf:=f.hf,inv:=a.i,me:=H.me.mv (.of a.k (λy y y q=>q.elim) λb o e hb=>(rW.mp hb).elim λr h=>(g b r h).elim (λq=>nn q) λq=>aN (q.1.symm.trans e)) a.k (λy y=>id) (λv x=>k9 x a.k id λy y y=>id) (λad j ai y r z=>⟨d _ _ r,z.kp a.k id⟩) λb=>d b _}
theorem Mv.grow(a:Nx W s ao)(d:∀b r,q.G b=aa r->G' b=aa r)(c:∀b r,G' b=aa r->q.G b=aa r\/(r≠.x/\s.heap.get? b=ak)):Mv W q s {q with G:=G'} ao:=
 ⟨a.k.weak,λb=>⟨λe=>(c b _ e).elim id λq=>aC rfl q.1,λe=>d b _ e⟩,
  λb hb=>(rW.mp hb.1).elim λr e=>(c b r e).imp (λq=>⟨nn q,λz=>hb.2 (e.trans (q.symm.trans z))⟩) λq=>q.2,λb hb=>a.k.bp hb id⟩
theorem bM.grow(K:aT W)(H:bM W n q s)(a:Nx W s ao)(d:∀b r,q.G b=aa r->G' b=aa r)(c:∀b r,G' b=aa r->q.G b=aa r\/((∃j,r=.o j)/\s.heap.get? b=ak/\(ao.heap.get? b).isSome=af)):
  bM W n {q with G:=G'} ao/\Mv W q s {q with G:=G'} ao:=
 ⟨H.U9 K a d λb r e=>(c b r e).imp id λq=>q.2,.grow a d λb r e=>(c b r e).imp id λq=>⟨q.1.elim λj e=>e▸(λh=>cu h rfl),q.2.1⟩⟩
theorem JN(K:aT W)(H:bM W n q s)(u:Upd q s.heap {q with ρ:=q.ρ.set i a} h' b0 i a):bM W n {q with ρ:=q.ρ.set i a} {s with heap:=h',toks:=t}/\Mv W q s {q with ρ:=q.ρ.set i a} {s with heap:=h',toks:=t}:=by
 have bp:=λb hb=>if e:b=b0 then e▸u.here else(u.same.2 b e).symm▸hb
 have m:Mv W q s {q with ρ:=q.ρ.set i a} {s with heap:=h',toks:=t}:=⟨.sameBut u.same u.my,λb=>.rfl,λb=>.inl,bp⟩;refine⟨{H with len:=by rw[zu];exact H.len,ns:=H.ns.elim λm h=>u.ns _ _ h,cell:=u.cell,at_:=λj nm k c ht g=>?_,old:=λb hb=>⟨bp b (H.old b hb).1,(H.old b hb).2⟩,hf:=H.hf.imp λl x=>⟨x.1,λe f=>⟨(x.2 e f).1,(x.2 e f).2.imp λL y=>y.elim λm y=>(u.ns _ _ y.2.2).imp λp z=>⟨y.1,y.2.1,z⟩⟩⟩,inv:=H.inv.above K (H.old b0 u.my.1).2 u.same λo vs e d=>aC d (u.nf o vs e),me:=u.me},m⟩
 by_cases e:j=i
 ·subst e;exact Am g▸u.at_ nm c ht
 ·exact(H.at_ j nm k c ht ((uv (jS e)).symm.trans g)).imp id λx=>x.imp λv x=>⟨u.vV j nm v e c x.1,x.2.mv m.tp (λad ai r z=>⟨r,z.kp (.sameBut u.same rfl) λq=>u.own j e (q▸r)⟩) rfl⟩
end
section
theorem Z9(H:jp W n1 q s)(h:(n',c)∈q.env.cells)(a:q.G c=aa (.c n)):n'=n:=(H.rc _ _ h).elim (λz=>by cases z.symm.trans a;rfl) λz=>cw (z.1.symm.trans a) rfl
theorem OI{h:bF}(x:h.Ns L m)(y:h.IsCell L v):False:=by obtain⟨o,es,b,e,d,_⟩:=x;obtain⟨a,e',d'⟩:=y;have e':=e▸e';cases e';have d':=d▸d';cases d'
structure Wr(q:Q)(h h':bF)(b0:aJ)(nm:aB)(v:aA):Prop where
 same:lR b0 h h'
 role:∃r,q.G b0=aa r/\(r=.l\/∃n,r=.c n)
 here:(h'.get? b0).isSome=af
 nf:∀o vs,h.get? b0=aa o->o.data≠.fields vs
 ns:∀L m,h.Ns L m->∃m',h'.Ns L m'
 cell:∀n c,(n,c)∈q.env.cells->∃v,h'.IsCell c v
 var:fy q.env h' nm v
 vV:∀n u,n≠nm->fy q.env h n u->fy q.env h' n u
theorem aeh{Q:Unit->aL->Prop}(H:bM W n q s)(O:q.σ.tb.lookup nm=aa .local\/q.σ.tb.lookup nm=aa .cell)(h:∀g t P,Wr q s.heap g P nm v->Q () {s with heap:=g,toks:=t}):ay W.M q.A (xe q.env nm v) Q E s:=by
 refine H.ns.elim λm k=>?_;have D:∀n c,(n,c)∈q.env.cells->c≠q.env.locals:=λn c hc e=>(H.cell n c hc).elim λv i=>OI k (am e i);rcases O with hl|hc
 ·have J:=H.fs.loc nm hl;refine wpAny_storeName_local J k (λg j f=>h g _ q.env.locals ⟨f,⟨_,H.rl,.inl rfl⟩,j.elim λa z=>z.elim λa z=>z.elim λa z=>ae z.1 rfl,λo vs e d=>?_,λL b l=>?_,λn c hc=>?_,.inl ⟨J,_,j,cD rfl⟩,λr u w B=>?_⟩) (by refine ae H.fs.fn ?_;rfl)
  ·exact k.elim λa z=>z.elim λa z=>z.elim λa z=>c3 ((aM (e.symm.trans z.1)▸d).symm.trans z.2.1) rfl
  ·exact if e:L=q.env.locals then⟨_,ae e j⟩else⟨_,l.sameBut f e⟩
  ·exact(H.cell n c hc).imp λv i=>i.sameBut f (D n c hc)
  ·exact B.imp (λx=>⟨x.1,x.2.elim λb y=>⟨_,j,(c9 w).trans (ae (acA k y.1) y.2)⟩⟩) λx=>⟨x.1,x.2.imp λc y=>⟨y.1,y.2.sameBut f (D _ _ (mem_of_lookup y.1))⟩⟩
 ·have N:=H.F1 nm hc;refine(gK.mp (H.fs.vS nm (.inl hc)).2).elim λc hc=>?_;have p:=mem_of_lookup hc;have K:=(H.rc _ _ p).resolve_right λz=>z.2 ‹_›;refine(H.cell nm c p).elim λR I=>wpAny_storeName_cell H.fs.fn N hc I λg G f=>h g _ c ⟨f,⟨_,K,.inr ⟨_,rfl⟩⟩,G.elim λa z=>ae z.1 rfl,λo vs e d=>?_,λL b l=>⟨_,l.sameBut f λe=>OI l (ae e I)⟩,λr F C=>?_,.inr ⟨.inl N,c,hc,G⟩,λr u w B=>?_⟩
  ·exact I.elim λa z=>c3 ((aM (e.symm.trans z.1)▸d).symm.trans z.2) rfl
  ·exact if e:F=c then⟨_,ae e G⟩else(H.cell r F C).imp λv i=>i.sameBut f e
  ·exact B.imp (λx=>⟨x.1,x.2.imp λb y=>⟨y.1.sameBut f (jS (D nm c p)),y.2⟩⟩) λx=>⟨x.1,x.2.imp λF y=>⟨y.1,y.2.sameBut f λe=>w (Z9 H.tojp (mem_of_lookup y.1) (ae e K))⟩⟩
def vW(σ:Sc)(nm:aB):Prop:=(σ.tb.lookup nm=aa .local\/σ.tb.lookup nm=aa .cell)/\(σ.fs≠ak->nm≠"self")
theorem vW.ne(x:vW σ nm):σ.tb.lookup nm≠ak:=x.1.elim nn nn
theorem PP(K:aT W){Q:Unit->aL->Prop}(H:bM W n q s)(hi:q.σ.ns[i]?=aa nm)(l:vW q.σ nm)(F:eQ q s.heap i a v)
  (J:∀d,bM W n {q with ρ:=q.ρ.set i a} d->Mv W q s {q with ρ:=q.ρ.set i a} d->(∀a ai j,q.G a=aa (.o j)->bG s.heap "list" a ai->bG d.heap "list" a ai)->Q () d):ay W.M q.A (xe q.env nm v) Q E s:=by
 refine aeh H l.1 λD t p w=>?_;refine w.role.elim λr c=>?_;have no:∀j,q.G p≠aa (.o j):=λj e=>by rcases c.2 with rfl|⟨_,rfl⟩<;>exact cw (c.1.symm.trans e) rfl
 have k:bZ (·=p) s.heap D:=.sameBut w.same rfl;have g:∀a ai j,q.G a=aa (.o j)->bG s.heap "list" a ai->bG D "list" a ai:=λa ai j e z=>z.kp k λq=>no j (am q e);have z:=JN (t:=t) K H {same:=w.same,my:=⟨nn c.1,λe=>?_⟩,here:=w.here,nf:=w.nf,ns:=w.ns,cell:=w.cell,at_:=λB f y=>.inr ⟨v,?_,F.mv (.of k (λb o y e=>e▸nn c.1) λy y y=>id) (λad ai e z=>⟨e,g ad ai i e z⟩) rfl⟩,vV:=λj B u I f=>w.vV B u λe=>I ?_,own:=λj y=>no j,me:=?_}
 ·exact J _ z.1 z.2 g
 ·rcases c.2 with rfl|⟨_,rfl⟩<;>exact cw (c.1.symm.trans e) rfl
 ·exact am (aM (hi.symm.trans f)) w.var
 ·exact(adW (dX.mp f).1 H.F0).mp (f.trans (ae e hi.symm))
 ·refine(λC m e=>(H.me.mv (.of k (λb o y e=>e▸nn c.1) λy y y=>id) k (λb e h=>?_) (λv x=>w.vV _ v (jS (l.2 (nn e))) x) (λa j ai y e z=>⟨e,g a ai j e z⟩) (λy=>id)).set hi l.ne C m e);rcases c.2 with rfl|⟨_,rfl⟩<;>exact cw (c.1.symm.trans (h▸e:q.G p=aa .me)) rfl
theorem set_slot(K:aT W){Q:Unit->aL->Prop}(H:bM W n q s)(hi:q.σ.ns[i]?=aa nm)(d:vW q.σ nm)(c:eQ q s.heap i a v)
  (e:∀b,bM W n {q with ρ:=q.ρ.set i a} b->Mv W q s {q with ρ:=q.ρ.set i a} b->Q () b):ay W.M q.A (xe q.env nm v) Q E s:=PP K H hi d c λb h m x=>e b h m
theorem bM.nx(H:bM W n q s)(k:Nx W s ao):bM W n q ao:=⟨H.tojp.nx k,H.F0,H.F1⟩
theorem mG(K:aT W){Q:Unit->aL->Prop}(H:bM W n q s)(hi:q.σ.ns[i]?=aa nm)(e:vW q.σ nm)(c:bq q.X s.heap d v)
  (f:∀b,bM W n {q with ρ:=q.ρ.set i (.val d)} b->Mv W q s {q with ρ:=q.ρ.set i (.val d)} b->Q () b):ay W.M q.A (xe q.env nm v) Q E s:=set_slot (a:=.val d) K H hi e c f
noncomputable def lF(G:aJ->Option Ro)(a:aJ)(r:Option Ro):aJ->Option Ro:=λb=>cond (b==a) r (G b)
theorem o9:lF G a r a=r:=by unfold lF;rw[kX];rfl
theorem jR(h:b≠a):lF G a r b=G b:=by unfold lF;refine ae (fX h) ?_;rfl
structure Fr(q:Q)(s s':aL)(xs:List D)(v:aA)(a:aJ)(ai:List aA):Prop where
 v:v=.ref a
 new:s.heap.get? a=ak
 at_:bG s'.heap "list" a ai
 r:a9 (λb=>q.X b\/b=a) s'.heap xs ai
theorem Va(K:aT W)(H:bM W n q s)(d:Nx W s ao)(c:s.heap.get? a=ak)(h2:(ao.heap.get? a).isSome=af):bM W n {q with G:=lF q.G a (aa (.o i))} ao/\Mv W q s {q with G:=lF q.G a (aa (.o i))} ao:=H.grow K d (λb r e=>(jR λh=>by have:=(H.old b (nn e)).1;have this:=c▸h▸this;cases this).trans e) λb r e=>(hV (b=a)).elim (λh=>.inr ⟨⟨i,(aM ((h▸o9:lF q.G a (aa (.o i)) b=_).symm.trans e)).symm⟩,ae h c,ae h h2⟩) λh=>.inl ((jR h).symm.trans e)
theorem set_own(K:aT W){Q:Unit->aL->Prop}(H:bM W n q s)(d:Nx W s ao)(hi:q.σ.ns[i]?=aa nm)(k:vW q.σ nm)(f:Fr q s ao xs v a ai)
  (l:∀c G',bM W n {q with G:=G',ρ:=q.ρ.set i (.own xs)} c->Mv W q s {q with G:=G',ρ:=q.ρ.set i (.own xs)} c->Q () c):ay W.M q.A (xe q.env nm v) Q E ao:=
 have z:=Va K H d f.new f.at_.bp
 set_slot (q:={q with G:=lF q.G a (aa (.o i))}) (a:=.own xs) K z.1 hi k ⟨a,ai,f.v,o9,f.at_,a9.mv (.sub λb o g e=>(hV (b=a)).elim .inr λh=>.inl λz=>e ((jR h).trans z)) f.r⟩ λc m j=>l c _ m (z.2.trans j)
theorem bG.data{T:String}(x:bG h T a ai)(e:h.get? a=aa o):∃n,o.data=.seq ai.toArray n:=x.imp λn x=>aj px (aM (e.symm.trans x.1))
theorem RN(K:aT W)(H:bM W n q s){a:AV}{ad:aJ}{A:List aA}{xs':List D}{f:bF}{t:Nat}(hs:lR ad s.heap f)(h:q.G ad=aa (.o i))(g:bG s.heap "list" ad ai)(g':bG f "list" ad A)
  (l:∀nm,q.σ.ns[i]?=aa nm->q.σ.tb.lookup nm≠ak->∃v,fy q.env s.heap nm v/\eQ {q with ρ:=q.ρ.set i a'} f i a' v) (B:pO {q with ρ:=q.ρ.set i a'} f):bM W n {q with ρ:=q.ρ.set i a'} {s with heap:=f,toks:=t}/\Mv W q s {q with ρ:=q.ρ.set i a'} {s with heap:=f,toks:=t}:=by
 have k:bZ (·=ad) s.heap f:=.sameBut hs rfl;have nl:q.env.locals≠ad:=λe=>cw ((e▸H.rl).symm.trans h) rfl;have nc:∀n c,(n,c)∈q.env.cells->c≠ad:=λn c hc e=>(H.rc n c hc).no (ae e h);refine JN K H {same:=hs,my:=⟨nn h,λe=>(cw (h.symm.trans e) rfl)⟩,here:=g'.bp,nf:=λo vs e d=>?_,ns:=λL m p=>⟨m,lZ p k λe=>?_⟩,cell:=λn c hc=>(H.cell n c hc).imp λv l=>o8 l k (nc n c hc),at_:=λnm w h2=>.inr ((l nm w h2).imp λv x=>⟨k9 x.1 k nl nc,x.2⟩),vV:=λj nm u b b x=>k9 x k nl nc,own:=λj r e=>?_,me:=B}
 ·exact(g.data e).elim λb z=>c3 (z.symm.trans d) rfl
 ·exact p.elim λo y=>y.elim λes y=>y.elim λC y=>(g.data (e▸y.1)).elim λb z=>c3 (z.symm.trans y.2.1) rfl
 ·exact r (by cases h.symm.trans e;rfl)
end
structure dZ(W:Wd)(n:Nat)(q:Q)(s:aL):Prop extends bM W n q s where
 top:∃outer,q.A.frames=aa (q.env::outer)
 loc:q.env.frame=aa q.env.locals
def vF(X:aJ->Prop)(h:bF)(fl:Fl)(f:mj):Prop:=fl.el (f=.next) (f=.brk) (f=.cont) λd=>∃v,f=.ret v/\bq X h d v
structure So(W:Wd)(n:Nat)(q:Q)(s:aL)(q':Q)(fl:Fl)(f:mj)(s':aL):Prop where
 h:dZ W n q' s'
 m:Mv W q s q' s'
 f:vF q'.X s'.heap fl f
noncomputable abbrev Q.at(q:Q)(G:aJ->Option Ro)(r:Rh):Q:={q with G:=G,ρ:=r}
def Sr(W:Wd)(n:Nat)(q:Q)(s:aL)(o:Os)(f:mj)(s':aL):Prop:=∃G,So W n q s (q.at G o.2) o.1 f s'
structure iz(W:Wd)(n:Nat)(q:Q)(E:bI)(s:aL):Prop where
 h:dZ W n q s
 e:∀e s',dw W q.A ag q.env.frame q.my s e s'->E e s'
def SS(W:Wd)(n:Nat)(F:Fn)(σ:Sc)(st:cO)(t:T):Prop:=∀q E s,q.σ=σ->iz W n q E s->J E (t F q.ρ).run (q.W W (exec st q.env)) (Sr W n q s) s
def gG(W:Wd)(n:Nat)(F:Fn)(σ:Sc)(b:List cO)(a:List T):Prop:=∀q E s,q.σ=σ->iz W n q E s->J E (be a F q.ρ).run (q.W W (gV b q.env)) (Sr W n q s) s
section
theorem Mv.refl:Mv W q s q s:=⟨.refl,λx=>.rfl,λx=>.inl,λx=>id⟩
theorem iz.pl(P:iz W n q E s):Pl W n q E s:=⟨P.h.tojp,λe s' x=>P.e e s' (x.before .refl (λy y y z=>z.elim) λy=>id)⟩
theorem iz.mv(P:iz W n q E s)(m:Mv W q s (q.at G r) ao)(H:dZ W n (q.at G r) ao):iz W n (q.at G r) E ao:=⟨H,λe s' x=>P.e e s' (x.before m.kp (λb o g z=>(m.new b z).elim id λw=>aC g (ae w aN)) m.bp)⟩
theorem dZ.nx(H:dZ W n q s)(k:Nx W s ao):dZ W n q ao:=⟨⟨H.tojp.nx k,H.F0,H.F1⟩,H.top,H.loc⟩
theorem Sr.mv(m:Mv W q s (q.at G r) ao)(x:Sr W n (q.at G r) ao o f s'):Sr W n q s o f s':=x.imp λy x=>⟨x.h,m.trans x.m,x.f⟩
def De:=λW n q s=>(∀(H:dZ W n q s) {i} (hi:∃nm,q.σ.ns[i]?=aa nm/\q.σ.tb.lookup nm≠ak),∃G,dZ W n (q.at G (Fu q.ρ i)) s/\Mv W q s (q.at G (Fu q.ρ i)) s:Prop)
def Df:=mo De (aO rA (aO nI (aO yh n8)))
def zO:=Df.1
def zQ:=Df.2.1
def eN:=Df.2.2.1
def sC:=Df.2.2.2
theorem abe:De zO zQ eN sC:=λH {i} u=>by
 refine u.elim λnm f=>?_;have k:∀o,eN.ρ[i]?=o->∃G,dZ zO zQ (eN.at G (IX eN.ρ (λa=>a.el eN.ρ (λd=>eN.ρ) (λl=>eN.ρ.set i (.val (.list l))) λd=>eN.ρ) o)) sC/\Mv zO eN sC (eN.at G (IX eN.ρ (λa=>a.el eN.ρ (λd=>eN.ρ) (λl=>eN.ρ.set i (.val (.list l))) λd=>eN.ρ) o)) sC:=λo q=>by
  have same:∃G,dZ zO zQ (eN.at G eN.ρ) sC/\Mv zO eN sC (eN.at G eN.ρ) sC:=⟨eN.G,H,.refl⟩;cases o with
  |none=>exact same
  |some av=>
   cases av with
   |own xs=>
    refine((H.at_ i nm _ f.1 f.2 q).resolve_left (λh=>c5 h rfl)).elim λv x=>x.2.elim λa y=>y.elim λai y=>?_;have lt:∀{b r},eN.G b=aa r->r≠.o i->b≠a:=λe h z=>h (aM (e.symm.trans (ae z y.2.1)));have up:∀{b r},lF eN.G a ak b=aa r->eN.G b=aa r/\b≠a:=λ{b r} e=>if h:b=a then aN ((h▸o9:lF eN.G a ak b=ak).symm.trans e)else⟨(jR h).symm.trans e,h⟩
    have m:∀b o,sC.heap.get? b=aa o->lF eN.G a ak b≠ak->eN.X b:=λb o d h=>(rW.mp h).elim λr e=>nn (up e).1;refine⟨lF eN.G a ak,{H with rl:=(jR (lt H.rl (λh=>cu h rfl))).trans H.rl,rc:=λzQ c hc=>(H.rc zQ c hc).map λd e h=>(jR (lt e (h i))).trans e,len:=am H.len (zu ..),at_:=λj s w p h2 n=>?_,old:=λb hb=>(rW.mp hb).elim λr e=>H.old b (nn (up e).1),me:=(H.me.mv (.sub m) .refl (λd d=>id) (λd=>id) (λb j ai t e z=>⟨(jR (lt e λh=>by cases h;exact f.2 (t _ f.1))).trans e,z⟩) λb e=>(jR (lt e (λh=>cu h rfl))).trans e).set f.1 f.2},
     ⟨.refl,λb=>⟨λe=>(up e).1,λe=>(jR (lt e (λh=>cu h rfl))).trans e⟩,λb hb=>(rW.mp hb.1).elim λr e=>.inl ⟨nn (up e).1,λz=>hb.2 ((jR (up e).2).trans z)⟩,λd=>id⟩⟩
    by_cases e:j=i
    ·subst e;exact am (Am n) (.inr ⟨v,am (aM (f.1.symm.trans p)) x.1,ae y.1 ((n9 (λh=>h o9) (y.2.2.2.mv (.sub m))).1 y.2.2.1)⟩)
    ·exact(H.at_ j s w p h2 ((uv (jS e)).symm.trans n)).imp id λx=>x.imp λv x=>⟨x.1,x.2.mv (.sub m) (λad ai g z=>⟨(jR (lt g λh=>by cases h;exact e rfl)).trans g,z⟩) rfl⟩
   |_=>exact same
 exact k _ rfl
theorem aga{W n q s}:De W n q s:=rH De abe
def Nm(σ:Sc)(l:List Nat):Prop:=∀i∈l,∃nm,σ.ns[i]?=aa nm/\σ.tb.lookup nm≠ak
theorem TA:∀(l:List Nat) {q:Q},Nm q.σ l->dZ W n q s->∃G,dZ W n (q.at G (jy l q.ρ)) s/\Mv W q s (q.at G (jy l q.ρ)) s|[],q,_,H=>⟨q.G,H,.refl⟩|i::l,q,h,H=>(aga H (h i (.head _))).elim λG z=>(TA l (q:=q.at G (Fu q.ρ i)) (λj a=>h j (.tail _ a)) z.1).imp λb w=>⟨w.1,z.2.trans w.2⟩
theorem u6{t:Rh->Tr Os}{st:cO}(b:Nm σ l)(h:∀q E s,q.σ=σ->iz W n q E s->J E (t q.ρ).run (q.W W (exec st q.env)) (Sr W n q s) s):∀q E s,q.σ=σ->iz W n q E s->J E (t (jy l q.ρ)).run (q.W W (exec st q.env)) (Sr W n q s) s:=λq E s a P=>(TA l (ae a b) P.h).elim λG z=>(h (q.at G (jy l q.ρ)) E s a (P.mv z.2 z.1)).mono (λo f s'=>Sr.mv z.2) λx x=>id
theorem sx(h:SX W n F σ e x)(a:q.σ=σ)(P:iz W n q E s):J E (x F q.ρ).run (q.W W (eval e q.env)) (Rs W q s) s:=h q E s a P.pl
noncomputable def Sc.fj(σ:Sc)(n:aB):Bool:=(σ.tb.lookup n==aa .local||σ.tb.lookup n==aa .cell)&&(σ.fs.isNone||!(n==("self":aB)))
theorem lq(h:σ.fj nm=af):vW σ nm:=by unfold Sc.fj at h;simp only [eg,ki,ki,gP,gP,mz]at h;exact⟨h.1,λhf e=>h.2.elim (λz=>hf (wt.mp z)) λz=>by rw[e,kX]at z;cases z⟩
theorem dZ.up(H:dZ W n q s)(h:bM W n (q.at G r) ao):dZ W n (q.at G r) ao:=⟨h,H.top,H.loc⟩
def NC(e:aH):Prop:=∀t l env,xf e t l env=pure ag
theorem ai5(K:aT W)(hf:Nm σ fz)(b:σ.ns[i]?=aa nm)(h2:σ.fj nm=af)(hx:SX W n F σ e x)(hc:NC e):SS W n F σ (.Assign [.Name nm p] e p') (.asg fz i x):=u6 (t:=λr=>(x F r).bind λd=>.ret (.next,r.set i (.val d))) hf λq E s a P=>J.bind (λQ E k=>zp k (hc _ _ _)) (sx hx a P) λd v f r=>J.ret (mG K (P.h.nx r.n).tobM (ae a b) (lq (ae a h2)) r.r λc H m=>⟨_,P.h.up H,(Mv.iI r.n).trans m,rfl⟩)
theorem ai6:gG W n F σ [] []:=λq E s x P=>J.ret (Da ⟨_,P.h,.refl,rfl⟩)
theorem agb:SS W n F σ (.Pass p) .pass:=λq E s x P=>J.ret (wpAny_Pass ⟨_,P.h,.refl,rfl⟩)
theorem ai7:SS W n F σ (.Break p) .brk:=λq E s x P=>J.ret (wpAny_Break ⟨_,P.h,.refl,rfl⟩)
theorem agc:SS W n F σ (.Continue p) .cont:=λq E s x P=>J.ret (wpAny_Continue ⟨_,P.h,.refl,rfl⟩)
theorem ai8(hf:Nm σ fz)(hx:SX W n F σ e x):SS W n F σ (.Return (aa e) p) (.ret fz x):=u6 (t:=λr=>(x F r).bind λd=>.ret (.ret d,r)) hf λq E s a P=>J.bind (λQ E k=>wpAny_Return_some k) (sx hx a P) λd v b r=>J.ret ⟨_,P.h.nx r.n,.iI r.n,v,rfl,r.r⟩
theorem agd:SS W n F σ (.Return ak p) (.ret [] (.c .none)):=λq E s x P=>J.ret (alk ⟨_,P.h,.refl,_,rfl,rfl⟩)
theorem ai9(hc:SB W n F σ c y)(g:gG W n F σ as xs)(hb:gG W n F σ bs ys):SS W n F σ (.If c as bs p) (.ite y xs ys):=λq E s b P=>J.bind (w2:=λt=>if t then q.W W (gV as q.env)else q.W W (gV bs q.env)) (λQ E h=>wpAny_If (ba h (λt a h=>by cases t<;>exact h) λz z x=>x)) (hc q E s b P.pl) λt d a r=>by obtain rfl:=r.1;have m:Mv W q s (q.at q.G q.ρ) a:=.iI r.2;cases d with|true=>exact(g q E a b (P.mv m (P.h.nx r.2))).mono (λo f e x=>Sr.mv m x) λz z x=>x|false=>exact(hb q E a b (P.mv m (P.h.nx r.2))).mono (λo f e x=>Sr.mv m x) λz z x=>x
theorem age{st:cO}(h:SS W n F σ st t)(hs:gG W n F σ Mh ts):gG W n F σ (st::Mh) (t::ts):=λq E s a P=>by
 refine J.bind (λQ E k=>HD k) (h q E s a P) λo f b r=>r.elim λG r=>?_;cases o with
 |mk fl r'=>have hf:=r.f;cases fl with|next=>exact ae (hf) ((hs (q.at G r') E b a (P.mv r.m r.h)).mono (λo f c x=>Sr.mv r.m x) λy y x=>x)|brk=>exact J.ret (ae (hf) ⟨G,r.h,r.m,rfl⟩)|cont=>exact J.ret (ae (hf) ⟨G,r.h,r.m,rfl⟩)|ret d=>exact J.ret (hf.elim λv z=>ae z.1 ⟨G,r.h,r.m,v,rfl,z.2⟩)
end
inductive St(σ:Sc):List Nat->List aH->Prop|nil:St σ [] []|cons {i:Nat} {nm:aB} {p:bQ} {is:List Nat} {ts:List aH} (h1:σ.ns[i]?=aa nm) (h2:σ.fj nm=af) (r:St σ is ts):St σ (i::is) (.Name nm p::ts)
def TupIs(X:aJ->Prop)(h:bF)(ds:List D)(v:aA):Prop:=∃T ai,v=.ref T/\h.IsTuple T ai/\a9 X h ds ai.toList
section
variable{q:Q}
theorem TupIs.of{X:aJ->Prop}(r:bq X h (.tup ds) v):TupIs X h ds v:=(Vw.t (.inl r)).imp λa x=>x.elim λai x=>⟨ai.toArray,x.1,x.2.1.isTup,x.2.2⟩
theorem St.len(h:St σ is ts):is.length=ts.length/\(JE ts env).length=is.length/\(JE ts env).findIdx? (·.1)=ak:=by induction h with|nil=>exact⟨rfl,rfl,rfl⟩|@cons i nm p is ts h1 h2 r ih=>exact ae (Cg) (ae ih.2.2 (⟨aj (·+1) ih.1,aj (·+1) ih.2.1,rfl⟩))
set_option tactic.hygienic true in
theorem abf(K:aT W)(h:St σ is ts):∀{ds:List D} {vs:List aA} {q:Q} {s:aL} {Q:Unit->aL->Prop},q.σ=σ->is.length=ds.length->bM W n q s->a9 q.X s.heap ds vs->
  (∀a,bM W n {q with ρ:=fJ is ds q.ρ} a->Mv W q s {q with ρ:=fJ is ds q.ρ} a->Q () a)->ay W.M q.A (IA ((JE ts q.env).map (·.2)) vs) Q E s:=by
 induction h with
 |nil=>intro ds vs q s Q _ b H r c;cases ds with|nil=>exact am (r) (a8 (c s H .refl))|cons _ _=>cases b
 |@cons i nm p is ts h1 h2 _ ih=>
  intro ds vs q s Q j b H r c;cases ds with
  |nil=>cases b
  |cons d ds=>subst j;refine r.un.elim λv r=>r.elim λm r=>ae r.1 (aE (hO (uB (mG K H h1 (lq h2) r.2.1 λa l e=>?_))));exact ih (q:={q with ρ:=q.ρ.set i (.val d)}) rfl (mC b) l (r.2.2.mv e.tp) λf k g=>c f k (e.trans g)
theorem Ic(K:aT W)(h:St q.σ is ts){Q:Unit->aL->Prop}(d:is.length=ds.length)(H:bM W n q s)(i:TupIs q.X s.heap ds v)
  (j:∀a,bM W n {q with ρ:=fJ is ds q.ρ} a->Mv W q s {q with ρ:=fJ is ds q.ρ} a->Q () a):ay W.M q.A (iZ (.Tuple ts k p) q.env v) Q E s:=
 i.elim λT x=>x.elim λai x=>ae x.1 (OZ H.fs.hd x.2.1 (ae h.len.2.1 (ae d x.2.2.length.symm)) h.len.2.2 λl hx=>
  have g:Gr s {s with heap:=l}:=⟨λb o e=>hx b o (λq=>aC (eM (q▸e)) (jI _)) e,rfl,rfl⟩;have c:=g.nx H.inv
  abf K h rfl d (H.nx c) (x.2.2.mv (.kp c.k)) λa m f=>j a m ((Mv.iI c).trans f))
theorem wV{P:D->Rh->Prop}(h:sM is d r=aa r')(k:∀ds,is.length=ds.length->P (.tup ds) (fJ is ds r)):P d r':=by
 cases d with
 |tup ds=>have h:cond (is.length==ds.length) (aa (fJ is ds r)) ak=aa r':=h;cases a:is.length==ds.length with|true=>rw[a]at h;exact am (aM h) (k ds (bt a))|false=>rw[a]at h;exact aN h
 |_=>exact aN h
theorem J.opt{α β γ:Type}{o:Option α}{f:α->Tr γ}{w:Wt β}{R:γ->β->aL->Prop}(h:∀a,o=aa a->J E (f a).run w R s):J E (Tr.opt o f).run w R s:=by cases o with|none=>trivial|some a=>exact h a rfl
def NT(e:aH):Prop:=∀a k p env,wM [.Tuple a k p] e env=pure ak
theorem RO(K:aT W)(h:St σ is ts)(hx:SX W n F σ e x)(hc:NC e)(f:q.σ=σ)(P:iz W n q E s)(hw:wM [.Tuple ts kk p] e q.env=pure ak):
  J E ((x F q.ρ).bind λd=>.opt (sM is d q.ρ) λr=>.ret (.next,r)).run (q.W W (exec (.Assign [.Tuple ts kk p] e p') q.env)) (Sr W n q s) s:=J.bind (λQ E k=>I5 k (show xf e (aa (.Tuple ts kk p)) p'.line q.env=pure ag from hc _ _ _) hw) (sx hx f P) λd v a r=>J.opt λc e=>
  wV (P:=λd c=>bq q.X a.heap d v->J E (Tr.ret (Fl.next,c)).run (λQ E a=>ay W.M q.A (iZ (.Tuple ts kk p) q.env v) (λy b=>Q .next b) E a) (Sr W n q s) a) e (λj i g=>J.ret (show ay W.M q.A (iZ (.Tuple ts kk p) q.env v) (λy b=>Sr W n q s (.next,fJ is j q.ρ) .next b) _ a from Ic K (ae f h) i (P.h.nx r.n).tobM (.of g) λb H m=>⟨_,P.h.up H,(Mv.iI r.n).trans m,rfl⟩)) r.r
theorem agf(K:aT W)(hf:Nm σ fz)(h:St σ is ts)(hx:SX W n F σ e x)(hc:NC e)(ht:NT e):SS W n F σ (.Assign [.Tuple ts kk p] e p') (.Fw fz is x):=u6 (t:=λr=>(x F r).bind λd=>.opt (sM is d r) λr=>.ret (.next,r)) hf λq E s a P=>RO K h hx hc a P (ht _ _ _ _)
theorem agg(K:aT W)(g:σ.ns[i]?=aa nm)(h2:σ.fj nm=af)(c:σ.ns[j]?=aa vX)(b:σ.fj vX=af)(hx:SX W n F σ e x):SS W n F σ (.Assign [.Name nm p,.Name vX p'] e iM) (.WG i j x):=λq E s a P=>J.bind (λQ E k=>wpAny_Assign_two k rfl rfl) (sx hx a P) λd v u r=>J.ret (uB (mG K (P.h.nx r.n).tobM (ae a g) (lq (ae a h2)) r.r λt H m=>uB (mG (q:={q with ρ:=q.ρ.set i (.val d)}) K H (ae a c) (lq (ae a b)) (r.r.mv m.tp) λo l f=>⟨_,P.h.up l,(Mv.iI r.n).trans (m.trans f),rfl⟩)))
theorem agh(e:T.UZ a b=aa d)(p:bq q.X s.heap a v)(r:bq q.X s.heap b u):Gv q.X s d (q.W W (inplaceOp .Add v u)):=by
 refine D.casesOn a aN (λx=>aN) ?_ (λx=>aN) ?_ (λx=>aN) (λx=>aN) (λx x=>aN) (λx=>aN) e p
 ·exactλi e p=>jW e (λj e r=>Vw.iE (.inl p) λx=>Vw.iE (.inl r) λx=>cY e λQ E k=>aqM (k _ _ (.tok _ _) (im _ _))) r
 ·refineλy e p=>vj e (λz e r=>Vw.bE (.inl p) (λl o hb e=>Vw.bE (.inl r) (λh n w e=>fN e λf Q E k=>?_) e) e) r;simp only [aW,aW,jG,jG]at f;have g:∀t m,Q (.bytes (l++h) t) {s with toks:=m}:=λt m=>k _ _ (.tok _ _) (am cU (am Ce (qU _ (ae G9 f))));refine iconcat_gives (fH s l o) (fH s h n) (by rw[uG];refine ae uu ?_;kernel_rfl) KBy.noFill_bytes_add KBy.seq_bytes_add FB.slot_bytes_add FB.entry_bytes_add (FB.args_bytes_add_2 _ _) (KBy.gives_bytes_add (PE (aw f (eX rfl)))) ?_;by_cases hb:l.isEmpty=af
  ·refine ae (cD hb) ?_;have c:=g n s.toks;rw[adQ.1 hb,Array.empty_append]at c;exact c
  ·refine ae (c9 hb) ?_;by_cases hc:h.isEmpty=af
   ·refine ae (cD hc) ?_;have c:=g o s.toks;have c:=Array.append_empty▸(adQ.1 hc)▸c;exact c
   ·exact ae (c9 hc) (⟨ae G9 (aw f (eX rfl)),g s.toks (s.toks+1)⟩)
theorem agi(P:Pl W n q E s)(b:q.σ.ns[i]?=aa nm)(h2:q.σ.fK nm=af):J E (X.loc i F q.ρ).run (q.W W (loadName q.env nm)) (Rs W q s) s:=J.op λd e=>(cG.mp e).elim λa e=>by cases a with|val d'=>exact((P.h.at_ i nm _ b (iV h2).1 e.1).resolve_left (λh=>c5 h rfl)).elim λv x=>nq P.h.fs.fn (iV h2).2.2 x.1 ⟨.refl P.h.inv,am (aM e.2) x.2⟩|_=>exact aN e.2
theorem aja(K:aT W)(l:σ.ns[i]?=aa nm)(h2:σ.fj nm=af)(t:σ.fK nm=af)(hx:SX W n F σ e x):SS W n F σ (.AugAssign (.Name nm p) .Add e p') (.aug i x):=λq E s c P=>by refine J.bind (λQ E k=>wpAny_AugAssign_Name k) (agi P.pl (ae c l) (ae c t)) λa v o r=>?_;refine J.bind (λy y k=>k) (hx q E o c (P.pl.nx r.n)) λb u B f=>?_;refine J.bind (λy y k=>k) (J.op λd hd=>(agh hd (r.r.mv (.kp f.n.k)) f.r).rs (.refl f.n.i)) λd w A g=>J.ret ?_;have j:=r.n.trans (f.n.trans g.n);exact mG K (P.h.nx j).tobM (ae c l) (lq (ae c h2)) g.r λz H m=>⟨_,P.h.up H,(Mv.iI j).trans m,rfl⟩
end
section
def Fz(W:Wd)(q:Q)(s:aL)(d:D)(v:aA)(s':aL):Prop:=Nx W s s'/\∀xs,d=.list xs->∃a ai,Fr q s s' xs v a ai
def SF(W:Wd)(n:Nat)(F:Fn)(σ:Sc)(e:aH)(x:X):Prop:=∀q E s,q.σ=σ->Pl W n q E s->J E (x F q.ρ).run (q.W W (eval e q.env)) (Fz W q s) s
theorem fresh(k:Nx W s ao):s.heap.get? ao.heap.objs.size=ak:=mE (λb hb=>k.k.bp hb id) (eh _)
theorem RP{ys:List D}(k:Nx W s ao)(r:a9 q.X ao.heap xs ai)(c:ai.length<=aI)(t:Nat):Nx W s {ao with heap:=ao.heap.push {cls:=.type "list",data:=.seq ai.toArray},toks:=t}/\∃a d,Fr q s {ao with heap:=ao.heap.push {cls:=.type "list",data:=.seq ai.toArray},toks:=t} xs (.ref ao.heap.objs.size) a d:=
 have z:=sN r c t
 ⟨k.trans (z.1.nx k.i),_,ai,rfl,fresh k,z.2.1,r.mv (.of (z.1.kp λx=>False) (λx x x q=>q.elim) λb o e h=>h.elim id λh=>aN ((eh ao.heap).symm.trans (am h e)))⟩
theorem ajb(r:jz (SX W n F σ) es xs)(d:es.length<30):SF W n F σ (.List es p) (.list xs):=λq E s c P=>
 J.bind (λx x=>JD) (uU r q E s c P) λf vs b a=>
  have l:=Mc (a.2.2▸d);have z:=RP (ys:=[]) a.1 a.2.1 l b.toks
  J.ret ⟨gQ l,z.1,λys e=>am (aM (aj D.jU e)) z.2⟩
theorem ajc(k:Nx W s ao)(P:Pl W n q E ao)(e:c6 a b=aa d):Vw q.X ao.heap a v->Vw q.X ao.heap b u->ay W.M q.A (pC .Add v u) (Fz W q s d) (λc c=>False) ao:=by have old:∀{d:D},(∀l,d≠.list l)->Gv q.X ao d (q.W W (pC .Add v u))->ay W.M q.A (pC .Add v u) (Fz W q s d) (λc c=>False) ao:=λh g=>g _ _ λy s' t c=>⟨k.trans (t.nx k.i),λl e=>aC e (h l)⟩;have ok:=λ{a b d} (e:c6 a b=aa d) p r=>Ts (prog:=W.prog) (w:=W.w) (A:=q.A) (v:=v) (u:=u) P.bp e p r;refine RK e (λi j p r=>old (λ_ h=>dt h rfl) (ok rfl p r)) (λx y f p r=>old (λ_ h=>dt h rfl) (ok (show c6 (.str x) (.str y)=_ from U1 f) p r)) (λx y f p r=>old (λ_ h=>dt h rfl) (ok (show c6 (.bytes x) (.bytes y)=_ from U1 f) p r)) λx y f p r=>?_;refine p.lE λa ai g m=>r.lE λF C g' o=>g.elim λn g=>g'.elim λB g'=>?_;simp only [<-m.length,<-o.length]at f;have z:=RP (ys:=[]) k (m.append o) (aw (cJ aS) f) ao.toks;exact PySem.P.add_list g.1 g'.1 (ae (Oe ..) ⟨z.1,λys e=>am (aM (aj D.jU e)) z.2⟩) (aw f (eX rfl))
theorem alW(hx:SV W n F σ a x)(i:SV W n F σ b y):SF W n F σ (.BinOp a .Add b p) (.fk c6 x y):=λq E s f P=>J.bind (λz z=>D9) (hx q E s f P) λd v g r=>J.bind (λz z h=>h) (i q E g f (P.nx r.n)) λd' u j c=>J.op λz e=>ajc (r.n.trans c.n) ((P.nx r.n).nx c.n) e (r.r.mv c.n.k) c.r
theorem ajd(K:aT W)(g:σ.ns[i]?=aa nm)(h2:σ.fj nm=af)(hx:SF W n F σ e x)(hc:NC e):SS W n F σ (.Assign [.Name nm p] e p') (.own i x):=λq E s b P=>J.bind (λQ E k=>zp k (hc _ _ _)) (hx q E s b P.pl) λd v t r=>J.opt λl c=>J.ret ((r.2 l (D.IC c)).elim λa z=>z.elim λai f=>set_own K P.h.tobM r.1 (ae b g) (lq (ae b h2)) f λo j H m=>⟨j,P.h.up H,m,rfl⟩)
structure xt(q:Q)(h:bF)(nm:aB)(i:Nat)(a:AV)(xs:List D)(ad:aJ)(ai:List aA):Prop where
 v:fy q.env h nm (.ref ad)
 g:q.G ad=aa (.o i)
 at_:bG h "list" ad ai
 r:a9 q.X h xs ai
 put:∀h' db xs',bG h' "list" ad db->a9 q.X h' xs' db->eQ {q with ρ:=q.ρ.set i (T.putL a xs')} h' i (T.putL a xs') (.ref ad)
theorem EI(H:jp W n q s)(f:q.σ.ns[i]?=aa nm)(h2:q.σ.tb.lookup nm≠ak)(e:q.ρ[i]?=aa a)(c:gC (aa a)=aa l):∃ad ai,xt q s.heap nm i a l ad ai:=by cases a with|own xs=>exact((H.at_ i nm _ f h2 e).resolve_left (λh=>c5 h rfl)).elim λv x=>iF (x.2) λad y=>y.elim λai y=>⟨ad,ai,am (aM c) ⟨am y.1 x.1,y.2.1,y.2.2.1,y.2.2.2,λh d b g r=>⟨ad,d,rfl,y.2.1,g,r⟩⟩⟩|da xs=>exact((H.at_ i nm _ f h2 e).resolve_left (λh=>c5 h rfl)).elim λv x=>iF (x.2) λai y=>⟨q.ln i,ai,am (aM c) ⟨am y.1 x.1,y.2.1,y.2.2.1,y.2.2.2,λh d b g r=>⟨d,rfl,y.2.1,g,r⟩⟩⟩|_=>exact aN c
theorem xt.nx{ad:aJ}(x:xt q s.heap nm i a xs ad ai)(k:Nx W s ao):xt q ao.heap nm i a xs ad ai:=⟨k9 x.v k.k id λy y y=>id,x.g,x.at_.kp k.k id,x.r.mv (.kp k.k),x.put⟩
theorem xt.upd(K:aT W){ad:aJ}(x:xt q s.heap nm i a xs ad ai)(H:dZ W n q s)(d:q.σ.ns[i]?=aa nm)(h2:q.σ.tb.lookup nm≠ak)(hs:lR ad s.heap h')(g':bG h' "list" ad db)(r:a9 q.X h' xs' db):
  dZ W n {q with ρ:=q.ρ.set i (T.putL a xs')} {s with heap:=h'}/\Mv W q s {q with ρ:=q.ρ.set i (T.putL a xs')} {s with heap:=h'}:=
 have z:=RN (xs':=xs') (a:=a) K H.tobM hs x.g x.at_ g' (λl f b=>⟨.ref ad,am (aM (d.symm.trans f)) x.v,x.put _ _ _ g' r⟩) ((H.me.mv (.of (.sameBut hs rfl) (λb o b e=>am e (nn x.g)) λb b b=>id) (.sameBut hs rfl) (λb e h=>cw (x.g.symm.trans (h▸e:q.G ad=aa .me)) rfl) (λv y=>k9 y (.sameBut hs rfl) (λe=>cw ((e▸H.rl).symm.trans x.g) rfl) λn c hc e=>(H.rc n c hc).no (am e x.g)) (λb j ai k e z=>⟨e,z.kp (.sameBut hs rfl) λh=>h2 (by cases(h▸e).symm.trans x.g;exact k _ d)⟩) λb=>id).set d h2)
 ⟨⟨z.1,H.top,H.loc⟩,z.2⟩
theorem DW(h:env.scope.kind=.function):aqf env=ag:=by unfold aqf;refine ae h ?_;rfl
theorem aje(K:aT W)(hf:Nm σ fz)(B:σ.ns[i]?=aa nm)(h2:σ.fK nm=af)(hx:SX W n F σ e x)(hs:NS e)(H:(p'.endLine==iM.line)=af):
  SS W n F σ (.Expr (.Call (.Attribute (.Name nm p) "append" p') [e] [] iM) p3) (.app fz i x):=
 u6 (t:=λr=>.opt r[i]? λa=>.opt (gC (aa a)) λl=>(x F r).bind λd=>(Tr.gZ (gd (l.length<aI) (aa af))).bind λy=>.ret (.next,r.set i (T.putL a (l++[d])))) hf λq E s D P=>J.opt λa I=>J.opt λl C=>by
  subst D;refine(EI P.h.tojp B (iV h2).1 I C).elim λad z=>z.elim λai z=>?_;refine J.bind (w2:=λv Q E f=>∃c n,c.size<=je/\IsL f.heap ad c n/\Q .next {f with heap:=f.heap.update ad (dK λj=>j.push v)}) (λQ E k=>?_) (sx hx rfl P) λd v f r=>?_
  ·refine RB (zy (λy y y=>rfl) (by rw[hs];rfl) (show 1<20 by decide) H (nJ (nq P.h.fs.fn (iV h2).2.2 z.v ⟨.builtin "list.append",[.ref ad],λpl M L=>alm z.at_.typeIs ZY ZO aan (λb e=>by cases e;exact z.at_.elim λn g=>⟨_,g.1,rfl⟩) L,?_⟩) (iV h2).2.1)) (DW P.h.fs.fn) rfl;rw[hs];exact aa1 k
  ·cases hb:gd (l.length<aI) (aa af)with|none=>trivial|some t=>have w:=z.nx r.n;refine w.at_.elim λm g=>J.ret ⟨ai.toArray,m,gQ g.2,g.1,?_⟩;have A:=nj f.heap ad (dK λj=>j.push v);have g':(f.heap.update ad (dK λj=>j.push v)).get? ad=_:=oK _ g.1 rfl;have tp:Tp q.X f.heap q.X (f.heap.update ad (dK λj=>j.push v)):=.of (.sameBut A rfl) (λb o y e=>am e (nn z.g)) λy y y=>id;have u:=w.upd K (P.h.nx r.n) B (iV h2).1 A ⟨m+1,by simp only [g'];simp[dK],ae aS (ae w.r.length (@fN _ _ _ _ _ (λy=>l.length<aI) hb id))⟩ ((w.r.mv tp).append (.cons (r.r.mv tp) .nil));exact⟨q.G,u.1,(Mv.iI r.n).trans u.2,rfl⟩
end
section
variable{W:Wd}
def Dg:=λ(W:Wd) (A:Qp) (E:sA->nB->Prop) (s:nB) (a:IZ) (ai:List sA) (t:anE) (v:sA) (Q:Unit->nB->Prop)=>(∀(hs:bG s.heap "list" a ai) (c:0<ai.length) (d:∀b,bG b "list" a (ai.dropLast++[v])->lR a s.heap b->Q () {s with heap:=b}),ay W.M A (setItem (.ref a) (.int (-1) t) v) Q E s:Prop)
def qJ:=j6 Dg (aO rA (aO xR (aO nI (aO n8 (aO nI (aO nI (aO nI (aO nI nI))))))))
def acB:=qJ.1
def acC:=qJ.2.1
def acD:=qJ.2.2.1
def Ie:=qJ.2.2.2.1
def Ig:=qJ.2.2.2.2.1
def jK:=qJ.2.2.2.2.2.1
def PQ:=qJ.2.2.2.2.2.2.1
def qK:=qJ.2.2.2.2.2.2.2.1
def acE:=qJ.2.2.2.2.2.2.2.2
theorem abg:Dg acB acC acD Ie Ig jK PQ qK acE:=λhs b h=>by
 refine hs.elim λk g=>?_;have c:=hs.isList;have j:jK.toArray.size=jK.length:=rfl;unfold setItem
 try with_reducible refine hO ?_
 first|refine aE (a8 ?_)|skip
 refine aE (wpAny_sequenceKey c.typeIs (eX rfl) ?_);refine aE (adT c.typeIs aln (Ql aln c.typeIs entry_list_setitem ?_ (args_list_setitem _ _ _)));show ay _ _ (aqO (.int (-1) PQ)>>=_) _ _ Ie;refine aE (wpAny_listSubscript_int (fitsIndex_neg (eX rfl) (eX rfl)) ?_);have d:Wu (Int.negSucc 0) jK.toArray.size=aa (jK.length-1):=by exact ae j (ae (PySem.seqIndex_neg (eX rfl) (by omega)) (aj aa (by omega)))
 have i:=Nat.sub_lt b S5;refine aE (aE ?_);refine aE (RC g.1 rfl (a8 (a8 ?_)));refine ae d ?_;rw[Option.bind_some,NA i];have e:jK.toArray.setIfInBounds (jK.length-1) qK=(jK.dropLast++[qK]).toArray:=by
  have:=ur (List.ne_nil_of_length_pos b);have h2:(jK.set (jK.length-1) qK)=jK.dropLast++[qK]:=by
   conv=>lhs;rw[<-this]
   simp only [aS,aa6,adX,List.set_append_right _ _ (bO _),alr];rfl
  exact DV (by simp[h2])
 have a:(jK.dropLast++[qK]).length=jK.length:=by simp only [aS,Ca];exact adY b
 have f:bG (Ie.heap.update Ig (dK (·.setIfInBounds (jK.length-1) qK))) "list" Ig (jK.dropLast++[qK]):=⟨_,(oK (dK (·.setIfInBounds (jK.length-1) qK)) g.1 rfl).trans (aj (λz:Array aA=>aa ({cls:=.type "list",dict:=ak,data:=.seq z _}:Obj)) e),aw (cJ a) g.2⟩;refine aE (wpAny_setSeqItemAt g.1 rfl ?_)
 first
  |exact aE (a8 (a8 ⟨.none,rfl,a8 (h _ f (nj ..))⟩))
  |exact a8 ⟨.none,rfl,a8 (h _ f (nj ..))⟩
theorem agj{W A E s a ai t v Q}:Dg W A E s a ai t v Q:=vU Dg abg
theorem agk(K:aT W)(m:σ.ns[i]?=aa nm)(h2:σ.fK nm=af)(hx:SX W n F σ e x)(hc:NC e):
  SS W n F σ (.Assign [.Subscript (.Name nm p) (.UnaryOp .USub (.Constant (.int 1) k p') r') p3] e p4) (.WH i x):=λq E s w P=>by
 subst w;refine J.bind (λQ E h=>wpAny_Assign_Subscript h (hc _ _ _)) (sx hx rfl P) λd v c r=>J.opt λa B=>J.opt λl A=>?_;cases hb:gd (0<l.length) (aa af)with
 |none=>trivial
 |some t=>have j:=P.h.nx r.n;refine(EI j.tojp m (iV h2).1 B A).elim λad z=>z.elim λai z=>J.ret ?_;refine nJ (nq j.fs.fn (iV h2).2.2 z.v (Tb (OY (ZK ?_)))) (iV h2).2.1;have f:Nx W c {c with toks:=c.toks+1+1}:=(Gr.tok _ _).nx r.n.i;refine agj z.at_ (ae z.r.length (@fN _ _ _ _ _ (λy=>0<l.length) hb id)) λC g hs=>?_;have tp:Tp q.X c.heap q.X C:=.of (.sameBut hs rfl) (λb o y e=>am e (nn z.g)) λy y y=>id;have u:=(z.nx f).upd K (j.nx f) m (iV h2).1 hs g (((show a9 q.X c.heap l.dropLast ai.dropLast by simp only [B4,B4,z.r.length];exact z.r.take _).append (.cons r.r .nil)).mv tp);exact⟨q.G,u.1,(Mv.iI (r.n.trans f)).trans u.2,rfl⟩
noncomputable def idOf:aH->Option aB|.Name n _=>aa n|_=>ak
theorem Ob{α β:Type}{f g:α->Option β}(c:∀a b,f a=aa b->g a=aa b){l:List α}(h:(l.filterMap f).length=l.length):l.map g=(l.filterMap f).map aa:=by induction l with|nil=>rfl|cons a l ih=>rw[List.filterMap_cons]at h⊢;cases hf:f a with|none=>rw[hf]at h;exact aC (GO f l) (nD.mpr (h▸lO _))|some b=>rw[hf]at h;rw[dB,c a b hf,ih (mC h)];rfl
def B6:=λa xs env=>(∀{k} {c} {p} {b} (hc:(xs.all (DA 8)||!xs.all (zC 8))=af),wM [.Tuple a k p] (.Tuple xs c b) env=pure ak\/∃names,wM [.Tuple a k p] (.Tuple xs c b) env=pure (aa names)/\a.map idOf=names.map aa:Prop)
def GT:=tT B6 (aO nI (aO nI nI))
def Zt:=GT.1
def B7:=GT.2.1
def Zl:=GT.2.2
theorem Zuu{α β}{c:Prop}[Decidable c]{z b:α}{F:β->α}{G:β->Prop}(k:¬c->b=z\/∃n,b=F n/\G n):(if c then z else b)=z\/∃n,(if c then z else b)=F n/\G n:=if h:c then .inl (cD h) else by rw[c9 h];exact k h
theorem Zu:B6 Zt B7 Zl:=λ{k} {g} {p} {f} hc=>by
 refine Zuu λx=>Zuu λx=>Zuu λc=>?_;cases hf:B7.all (DA 8)with
    |true=>exact .inl rfl
    |false=>
     have hc:=hf▸hc;have e:B7.all (zC 8)=ag:=by cases h:B7.all (zC 8)with|true=>have hc:=h▸hc;cases hc|false=>rfl
     refine ae e ?_;refine .inr ⟨_,rfl,Ob (λa b d=>?_) ?_⟩
     ·cases a<;>first|cases d|exact(Option.ite_none_right_eq_some.mp d).2
     ·rw[afK,Cc]at c;exact bne_eq_false_iff_eq.mp c.1
theorem ZS{a xs env}:B6 a xs env:=@Bo _ _ _ B6 _ @Zu a xs env
theorem St.ids(h:St σ is ts):∃a:List aB,ts.map idOf=a.map aa/\a.length=is.length/\∀(j i:Nat) (nm:aB),is[j]?=aa i->a[j]?=aa nm->σ.ns[i]?=aa nm/\σ.fj nm=af:=by
 induction h with
 |nil=>exact⟨[],rfl,rfl,λj i nm h=>aN h⟩
 |@cons i0 n0 p is ts h1 h2 _ ih=>refine ih.elim λa z=>⟨n0::a,aj (aa n0::·) z.1,aj (·+1) z.2.1,λj i nm c b=>?_⟩;cases j with|zero=>exact am (aM c) (am (aM b) ⟨h1,h2⟩)|succ j=>exact z.2.2 j i nm c b
set_option tactic.hygienic true in
theorem aay(K:aT W):∀(is:List Nat) {a:List aB} {ds:List D} {vs:List aA} {q:Q} {s:aL} {Q:Unit->aL->Prop},a.length=is.length->(∀(j i:Nat) (nm:aB),is[j]?=aa i->a[j]?=aa nm->q.σ.ns[i]?=aa nm/\q.σ.fj nm=af)->is.length=ds.length->bM W n q s->a9 q.X s.heap ds vs->
  (∀c,bM W n {q with ρ:=fJ is ds q.ρ} c->Mv W q s {q with ρ:=fJ is ds q.ρ} c->Q () c)->ay W.M q.A (IA (a.map λn=>bindName q.env n) vs) Q E s:=by
 intro is
 induction is with
 |nil=>intro a ds vs q s Q b _ e H r f;refine ae (Nr b) ?_;rw[Nr e.symm]at r f;exact am (r) (a8 (f s H .refl))
 |cons i is ih=>
  intro a ds vs q s Q b g e H r f;cases a with
  |nil=>cases b
  |cons nm a=>
   cases ds with
   |nil=>cases e
   |cons d ds=>refine r.un.elim λv r=>r.elim λt r=>ae r.1 (aE (hO (aqN (mG K H (g 0 i nm rfl rfl).1 (lq (g 0 i nm rfl rfl).2) r.2.1 λc p h=>?_))));exact ih (q:={q with ρ:=q.ρ.set i (.val d)}) (mC b) (λj i nm m b=>g (j+1) i nm m b) (mC e) p (r.2.2.mv h.tp) λk o l=>f k o (h.trans l)
theorem OJ{is a:List Nat}{ds es:List D}{r:Rh}(h:is.length=ds.length):fJ (is++a) (ds++es) r=fJ a es (fJ is ds r):=by induction is generalizing ds r with|nil=>(cases ds with|nil=>rfl|cons=>cases h)|cons i is ih=>cases ds with|nil=>cases h|cons d ds=>exact ih (mC h)
theorem OK:∀{is:List Nat} {ds:List D} {r:Rh} {i:Nat} {a:AV},i∉is->fJ is ds (r.set i a)=(fJ is ds r).set i a|[],_,_,_,_,_=>rfl|_::_,[],_,_,_,_=>rfl|j::is,d::ds,r,i,a,h=>by show fJ is ds ((r.set i a).set j (.val d))=(fJ is ds (r.set j (.val d))).set i a;rw[List.set_comm _ _ λe=>h (ch.mpr (.inl e)),OK λq=>h (.tail _ q)]
theorem OL{is:List Nat}{ds:List D}{r:Rh}(a:is.Nodup)(b:is.length=ds.length):fJ is.reverse ds.reverse r=fJ is ds r:=by induction is generalizing ds r with|nil=>(cases ds with|nil=>rfl|cons=>cases b)|cons i is ih=>cases ds with|nil=>cases b|cons d ds=>rw[qq,qq,OJ (by rw[kg,kg];exact mC b),ih (sh.mp a).2 (mC b)];exact(OK (sh.mp a).1).symm
theorem aqT:∀{ds:List D},(lH xs F r).run=.ok ds->ds.length=xs.length:=by
 induction xs with
 |nil=>exactλ{ds} h=>by cases h;rfl
 |cons x xs ih=>
  intro ds h;have h:((x F r).bind λd=>(lH xs F r).bind λds=>.ret (d::ds)).run=.ok ds:=h;rw[Tr.run_bind]at h;cases hx:(x F r).run with
  |ok d=>rw[hx]at h;have h:((lH xs F r).bind λds=>Tr.ret (d::ds)).run=.ok ds:=h;rw[Tr.run_bind]at h;cases hs:(lH xs F r).run with|ok Mi=>have h:=hs▸h;cases h;exact aj (·+1) (ih hs)|_=>have h:=hs▸h;cases h
  |_=>have h:=hx▸h;cases h
end
section
theorem ajf{σ:Sc}{is:List Nat}{a:List aB}(e:a.length=is.length)(h:∀(j i:Nat) (nm:aB),is[j]?=aa i->a[j]?=aa nm->σ.ns[i]?=aa nm/\σ.fj nm=af)(j i:Nat)(nm:aB)(hi:is.reverse[j]?=aa i)(b:a.reverse[j]?=aa nm):σ.ns[i]?=aa nm/\σ.fj nm=af:=by have c:=kg▸(dX.mp hi).1;rw[NY c]at hi;rw[NY (ae e c),e]at b;exact h _ i nm hi b
theorem aei(K:aT W)(hf:Nm σ fz)(h:St σ is ts)(hd:is.Nodup)(hx:SX W n F σ (.Tuple xs k' p') x)(hc:(xs.all (DA 8)||!xs.all (zC 8))=af):SS W n F σ (.Assign [.Tuple ts k p] (.Tuple xs k' p') p3) (.Fw fz is x):=u6 (t:=λr=>(x F r).bind λd=>.opt (sM is d r) λr=>.ret (.next,r)) hf λq E s l P=>(ZS hc).elim (RO K h hx (λy y y=>rfl) l P) λhw=>hw.elim λnames hw=>by refine J.bind (λQ E k=>Assign_Tuple_swapped k rfl hw.1) (sx hx l P) λd v f r=>J.opt λu e=>?_;refine wV (P:=λd u=>bq q.X f.heap d v->J E (Tr.ret (Fl.next,u)).run (λQ E f=>ay W.M q.A (unpackItems v names.length ak) (λc D=>ay W.M q.A (IA (names.reverse.map λn=>bindName q.env n) c.reverse) (λy=>Q .next) E D) E f) (Sr W n q s) f) e (λO m G=>J.ret ?_) r.r;subst l;refine(TupIs.of G).elim λT x=>x.elim λai x=>h.ids.elim λN z=>?_;have I:=(zg λa b q=>aM q).mp (z.1.symm.trans hw.2);subst I;refine ae x.1 (ae ((z.2.1.trans m).trans x.2.2.length.symm) ?_);refine unpackItems_tuple P.h.fs.hd x.2.1 λH C=>?_;have g:Gr f {f with heap:=H}:=⟨λb o e=>C b o (λq=>aC (eM (q▸e)) (jI _)) e,rfl,rfl⟩;have j:=g.nx r.n.i;refine aay K is.reverse (ae kg (ae kg z.2.1)) (ajf z.2.1 z.2.2) (ae kg (ae kg m)) (P.h.nx (r.n.trans j)).tobM (x.2.2.mv (.kp j.k)).reverse λL B w=>?_;rw[OL hd m]at B w;exact⟨_,P.h.up B,(Mv.iI (r.n.trans j)).trans w,rfl⟩
end
noncomputable def An:aH->Bool|.List [] _=>af|_=>ag
section
variable{W:Wd}
theorem aej{P:aH->Prop}(h:An e=af)(k:∀p,P (.List [] p)):P e:=by
 cases e with|List l p=>(cases l with|nil=>exact k p|cons x y=>cases h)|_=>cases h
theorem acF{xs:List aH}:∀{s:aL} {Q:List aA->aL->Prop},xs.all An=af->
  (∀s',Gr s s'->(∀k,k<xs.length->s.heap.get? (s.heap.objs.size+k)=ak/\bG s'.heap "list" (s.heap.objs.size+k) [])->Q ((k7 s.heap.objs.size xs.length).map .ref) s')->ay W.M A (vf (kv pos (jf xs env))) Q E s:=by
 induction xs with
 |nil=>exactλy a=>hK (a _ (.refl _) λk h=>(nomatch h))
 |cons x xs ih=>intro s Q hx a;simp only [zB,eg]at hx;revert a;refine aej (P:=λx=>(∀s',Gr s s'->(∀k,k<(x::xs).length->s.heap.get? (s.heap.objs.size+k)=ak/\bG s'.heap "list" (s.heap.objs.size+k) [])->Q ((k7 s.heap.objs.size (x::xs).length).map .ref) s')->ay W.M A (vf (kv pos (jf (x::xs) env))) Q E s) hx.1 λp a=>eK (JD (hK ⟨cy _,?_⟩)) rfl;have g:Gr s {s with heap:=s.heap.push {cls:=.type "list",data:=.seq ([]).toArray}}:=⟨λb o e=>dA _ e,rfl,rfl⟩;have d:(s.heap.push {cls:=.type "list",data:=.seq ([]).toArray}).objs.size=s.heap.objs.size+1:=zt ..;refine ih hx.2 λs' g' c=>?_;refine ae d ?_;refine a s' (g.trans g') λk f=>?_;cases k with|zero=>exact⟨eh _,0,g'.keep _ _ (gk _ rfl),cy _⟩|succ k=>have z:=c k (zc f);rw[show(s.heap.push {cls:=.type "list",data:=.seq ([]).toArray}).objs.size+k=s.heap.objs.size+(k+1)from ae d (mx ..)]at z;exact⟨mE (λb hb=>(g.kp λy=>False).bp hb id) z.1,z.2⟩
def an1(q:Q)(h:bF)(b:Nat)(is:List Nat):Prop:=∀k i:Nat,is[k]?=aa i->q.G (b+k)=aa (.o i)/\bG h "list" (b+k) []
theorem abh(K:aT W)(h:St σ is ts):∀{b:Nat} {q:Q} {s:aL} {Q:Unit->aL->Prop},q.σ=σ->bM W n q s->an1 q s.heap b is->
  (∀d,bM W n {q with ρ:=is.foldl (λr i=>r.set i (.own [])) q.ρ} d->Mv W q s {q with ρ:=is.foldl (λr i=>r.set i (.own [])) q.ρ} d->Q () d)->ay W.M q.A (IA ((JE ts q.env).map (·.2)) ((k7 b is.length).map .ref)) Q E s:=by
 induction h with
 |nil=>exactλx H x f=>a8 (f _ H .refl)
 |@cons i nm p is ts h1 h2 _ ih=>intro b q s Q t H c f;subst t;refine aE (hO (uB (PP (a:=.own []) K H h1 (lq h2) ⟨b,[],rfl,(c 0 i rfl).1,(c 0 i rfl).2,rfl⟩ λd v m o=>?_)));exact ih (q:={q with ρ:=q.ρ.set i (.own [])}) rfl v (λk j e=>am ((mx b k).symm) ⟨(c (k+1) j e).1,o _ _ j (c (k+1) j e).1 (c (k+1) j e).2⟩) λg u l=>f g u (m.trans l)
noncomputable def Vb(G:aJ->Option Ro)(m:Nat)(is:List Nat):aJ->Option Ro:=λb=>if b<m then G b else(is[b-m]?).map .o
theorem agl(K:aT W)(h:St σ is ts)(hx:xs.all An=af)(a:is.length=xs.length)(y:xs.length<30)(t:4<=xs.length):SS W n F σ (.Assign [.Tuple ts k p] (.Tuple xs k' p') p3) (.WF is):=λq E s x P=>by
 subst x;have hw:wM [.Tuple ts k p] (.Tuple xs k' p') q.env=pure ak:=by unfold wM;dsimp only;rw[cD];simp only [(h.len (env:=q.env).1.symm.trans a),show(xs.length==2)=ag from fX λe=>aC (e▸t) (eX rfl),show(xs.length==3)=ag from fX λe=>aC (e▸t) (eX rfl)];rfl
 refine J.ret (I5 (US (acF hx λd g1 c=>⟨?_,?_⟩)) rfl hw)
 ·simp only [aW,G6];exact gQ (Mc y)
 ·have g2:∀b o,d.heap.get? b=aa o->(d.heap.push {cls:=.type "tuple",data:=.seq ((k7 s.heap.objs.size xs.length).map mF).toArray}).get? b=aa o:=λb o e=>dA _ e;refine OZ P.h.fs.hd ⟨_,gk _ rfl,rfl,0,rfl⟩ (by simp only [h.len.2.1,r9,aW,G6,a]) h.len.2.2 λA u=>?_;have f:=λb o e=>u b o (λq=>aC (eM (q▸g2 b o e)) (jI _)) (g2 b o e);have g:Gr s {d with heap:=A}:=g1.trans ⟨f,rfl,rfl⟩;have z:=P.h.tobM.grow K (g.nx P.h.inv) (G':=Vb q.G s.heap.objs.size is) (λb r e=>(cD ((gK.mp (P.h.old b (nn e)).1).elim λo e=>eM e)).trans e) λb r e=>?_
  ·simp only [<-a];refine abh K (q:={q with G:=Vb q.G s.heap.objs.size is}) h rfl z.1 (λk i l=>⟨?_,?_⟩) λC B v=>⟨_,P.h.up B,z.2.trans v,rfl⟩
   ·show(if _ then _ else _)=_;refine ae (c9 (ft.mpr (cB _ _))) ?_;rw[qm,l];rfl
   ·exact(c k (am a ((dX.mp l).1))).2.elim λn w=>⟨n,f _ _ w.1,w.2⟩
  ·by_cases hb:b<s.heap.objs.size
   ·exact .inl ((cD hb).symm.trans e)
   ·refine .inr ((hJ.mp ((c9 hb).symm.trans e)).elim λj m=>⟨⟨j,m.2.symm⟩,?_⟩);have w:=c (b-s.heap.objs.size) (am a ((dX.mp m.1).1));rw[oM (ft.mp hb)]at w;exact⟨w.1,w.2.elim λn w=>ae (f _ _ w.1) rfl⟩
end
section
variable{vY:Option aJ}
theorem dL{h:bF}(n:h.get? b=ak)(s:(h.get? b).isSome=af):False:=nomatch (n▸s)
theorem dH{α:Type}{o:Option α}{a:α}(e:o=aa a):o.isSome=af:=e▸rfl
theorem AM{a:Obj}(e:aa o=aa a)(d:o.data=.fields vs)(d':a.data=.dict es n):False:=c3 (d.symm.trans ((aj px (aM e)).trans d')) rfl
theorem ajg(K:aT W)(I:Inv W s)(h:s.heap.get? b=ak):b∉TB:=λq=>aC (I.low K h) (nD.mpr (AL b q))
theorem dw.upd(K:aT W)(I:Inv W s)(x:dw W A tr L' Mt s e ao){c:bF}(k:bZ P ao.heap c)(f:∀b,P b->s.heap.get? b=ak)(t:∀b o vs,¬P b->ao.heap.get? b=aa o->o.data=.fields vs->c.get? b=aa o)
  (hc:∀b o vs,P b->ao.heap.get? b=aa o->o.data=.fields vs->o.cls≠.type "code") (hf:∃l,A.frames=aa l/\fQ c l) {j:Bool} (ob:∃a n vs,e=.ref a/\jq j vY s.heap c a n vs):dw W A j vY Mt s e {ao with heap:=c}where
 ob:=ob
 k:=λb o e h=>(x.k b o e h).elim λg p=>(k b g p.1 λq=>aN ((f b q).symm.trans e)).imp λm r=>⟨r.1,p.2.trans r.2⟩
 i:={kp:=λb o e h=>(x.i.kp b o e h).elim λg p=>(k b g p.1 λq=>dL (f b q) (I.kp.bp (dH e) id)).imp λm r=>⟨r.1,p.2.trans r.2⟩,bare:=x.i.bare,os:=x.i.os,tabs:=x.i.tabs.next λb o vs e d q=>t b o vs (λhb=>q.elim (hc b o vs hb e d) (ajg K I (f b hb))) e d}
 bp:=λb hb=>k.bp (x.bp b hb) λq=>dL (f b q) hb
 hf:=hf
theorem fQ.keeps(x:fQ h l)(hs:lR c h h')(e:h.get? c=aa o)(d:o.data=.fields vs):fQ h' l:=λv a=>⟨(x v a).1,(x v a).2.imp λL y=>y.imp λm y=>⟨y.1,y.2.1,y.2.2.sameBut hs λq=>y.2.2.elim λb z=>z.elim λes z=>z.elim λf z=>AM ((q▸e.symm).trans z.1) d z.2.1⟩⟩
theorem jq.gt(x:jq tr L' h0 h a oe vs):1<vs.size:=x.tb.elim (λq=>(y8.mp q.2).1) λq=>q.elim λT q=>q.elim λc q=>q.elim λb q=>q.elim λy q=>(y8.mp q.e).1
theorem TC(K:aT W)(I:Inv W s)(x:dw W A tr L' Mt s e ao){T:aJ}(k:e=.ref a)(f:jq tr L' s.heap ao.heap a oe vs)(t:XT L' s.heap ao.heap a vs T oT ts y0)(j:y=.none\/∃l,vY=aa l/\y=fg l):
  jq af vY s.heap (ao.heap.update T (zG (·.setIfInBounds 3 y))) a oe vs/\dw W A af vY Mt s e {ao with heap:=ao.heap.update T (zG (·.setIfInBounds 3 y))}:=by
 have h:=ad2 t.d (·.setIfInBounds 3 y);have hs:=nj ao.heap T (zG (·.setIfInBounds 3 y));have i:jq af vY s.heap (ao.heap.update T (zG (·.setIfInBounds 3 y))) a oe vs:=⟨f.new,(Heap.get?_update_other _ _ t.ne).trans f.g,f.cl,f.d,.inr ⟨T,_,_,y,t.e,t.new,t.ne,oK _ t.g (aco h),h,(afP ..).symm▸t.cl,Np (y8.mp t.m).1,j⟩⟩;exact⟨i,x.upd K I (P:=(·=T)) (.sameBut hs rfl) (λb q=>q▸t.new) (λb o vs hb e c=>(hs.2 b hb).trans e) (λb o vs hb e c=>(aM (t.g.symm.trans (hb▸e)))▸t.cl) (x.hf.imp λl z=>⟨z.1,z.2.keeps hs t.g t.d⟩) ⟨a,oe,vs,k,i⟩⟩
theorem aek(x:fQ h l)(k:aiz (l.filterMap (·.frame)) h h'):Kp h h':=λb o e z=>(hV (b∈l.filterMap (·.frame))).elim (λhb=>(k.2.2 b o e).elim λc e'=>⟨_,e',rfl,rfl,.inl rfl,.inr ⟨(x.frames hb).1,(x.frames hb).2.elim λm y=>y.elim λd y=>y.elim λes y=>y.elim λa y=>⟨es,a,(aM (y.1.symm.trans e))▸y.2.1⟩⟩⟩) λhb=>⟨o,(k.2.1 b hb).trans e,.refl ..⟩
theorem On(x:fQ h l)(k:aiz (l.filterMap (·.frame)) h h')(e:h.get? b=aa o)(d:o.data=.fields vs):h'.get? b=aa o:=(k.2.1 b λhb=>(x.frames hb).2.elim λm y=>y.elim λa y=>y.elim λes y=>y.elim λc y=>AM (e.symm.trans y.1) d y.2.1).trans e
theorem QA(K:aT W)(k:A.frames=aa (env::outer))(hf:env.frame=aa L)(I:Inv W s)(x:dw W A tr env.frame Mt s (.ref a) ao)(c:jq tr env.frame s.heap ao.heap a oe vs){Q:aL->Prop}(F:∀u,dw W A af env.frame Mt s (.ref a) u->Q u):
  ay W.M A (do let f<-frameOf env;let pl<-entryPlaceOf L aqU;let b<-Z3 head f .none (fg L) .none pl;setField (.ref a) 1 b) (λy=>Q) E ao:=by
 have i:=x.hf.elim λl z=>(aM (z.1.symm.trans k))▸z.2;refine aE (wpAny_frameOf_fun k i.PL hf λh r=>aE (wpAny_entryPlaceOf λpl G=>?_));unfold Z3 newFields;refine aE (Hw ?_ (G.sizeOk5 _ _ _ _ _));have B:=On i r c.g c.d;have k1:=aek i r;generalize n:({cls:=.type "traceback",dict:=ak,data:=.fields ([head,.ref L,.none,fg L,.none]++(if pl.isEmpty then eL 6 nC else pl)).toArray}:Obj)=TO;have j:TO.data=.fields ([head,.ref L,.none,fg L,.none]++(if pl.isEmpty then eL 6 nC else pl)).toArray:=n▸rfl;have p:=dA TO B;refine RD p c.d c.gt (F _ ?_);have v:=Rv (eM B);have w:=ad2 c.d (·.setIfInBounds 1 (mF h.objs.size));have hs:=nj (h.push TO) a (zG (·.setIfInBounds 1 (mF h.objs.size)));have t:∀b,b≠a->∀o,h.get? b=aa o->((h.push TO).update a (zG (·.setIfInBounds 1 (mF h.objs.size)))).get? b=aa o:=λb hb o g=>(hs.2 b hb).trans (dA _ g);have m:fQ (h.push TO) (env::outer):=(i.kp k1).kp (.keeps λb o e=>dA _ e);exact x.upd K I (λb o g D=>(k1 b o g id).imp λC z=>⟨t b D C z.1,z.2⟩) (λb q=>q▸c.new) (λb o vs hb e d=>t b hb o (On i r e d)) (λb o vs hb e y=>(aM (c.g.symm.trans (hb▸e)))▸λq=>c4 (c.cl.symm.trans q) rfl) ⟨_,k,m.keeps hs p c.d⟩
  ⟨a,_,_,rfl,c.new,oK _ p (aco w),(afP ..).trans c.cl,w,.inr ⟨h.objs.size,TO,_,fg L,Np c.gt,mE (λb hb=>k1.bp (x.bp b hb) id) (eh _),v,(hs.2 _ v).trans (gk h (n▸rfl)),j,(λq=>aC (CH ((aj K8 n).trans q)) (eX rfl)),rfl,.inr ⟨L,hf,rfl⟩⟩⟩
theorem Jb(K:aT W)(i:A.frames=aa (env::outer))(hf:env.frame=aa L)(I:Inv W s)(x:dw W A tr env.frame Mt s e ao){Q:aL->Prop}(h:∀j,dw W A af env.frame Mt s e j->Q j):ay W.M A (uX e env) (λb=>Q) E ao:=by
 refine x.ob.elim λa q=>q.elim λn q=>q.elim λvs q=>?_;have p:=q.1;subst p;have c:=q.2;unfold uX;simp only [hf];refine c.tb.elim (λz=>aE (Ea c.g c.d z.2 ?_)) λz=>z.elim λT z=>z.elim λo z=>z.elim λk z=>z.elim λy t=>aE (Ea c.g c.d t.e ?_)
 ·rw[c9 (eX rfl)];exact QA K i hf I x c h
 ·rw[cD (show(mF T !=nC)=af from rfl)];refine aE (Ea t.g t.d t.m ?_);refine t.x.elim (λf=>?_) λf=>f.elim λl f=>?_
  ·rw[f,c9 (nofun)];have z:=TC (vY:=env.frame) K I x rfl c t (.inl rfl);exact aE (RD t.g t.d (y8.mp t.m).1 (QA K i hf I z.2 z.1 h))
  ·rw[f.2,(aM (f.1.symm.trans hf)),cD (kX _)];exact a8 (h _ (x.upd K I (P:=λb=>False) .refl (λb q=>q.elim) (λb b b b e b=>e) (λb b b q=>q.elim) x.hf ⟨a,n,vs,rfl,{c with tb:=.inr ⟨T,o,k,y,t⟩}⟩))
theorem DD(K:aT W)(I:Inv W s)(x:dw W A af L' Mt s e ao){Q:aL->Prop}(h:∀c,dw W A af f Mt s e c->Q c):ay W.M A (Ku e f) (λy=>Q) E ao:=by refine x.ob.elim λa q=>q.elim λk q=>q.elim λvs q=>?_;have i:=q.1;subst i;have b:=q.2;unfold Ku;refine b.tb.elim (λz=>bU (z.1)) λz=>z.elim λT z=>z.elim λn z=>z.elim λj z=>z.elim λy t=>aE (Ea b.g b.d t.e ?_);rw[cD (show(mF T !=nC)=af from rfl)];exact RD t.g t.d (y8.mp t.m).1 (h _ (TC K I x rfl b t (by cases f with|none=>exact .inl rfl|some l=>exact .inr ⟨l,rfl,rfl⟩)).2)
theorem aaz(K:aT W)(I:Inv W s)(x:dw W A af L' Mt s e ao)(h:∀c,dw W A af env.frame Mt s e c->E e c):Wm W.M A env E e ao:=by
 refine x.ob.elim λa q=>q.elim λk q=>q.elim λvs q=>?_;have i:=q.1;subst i;have b:=q.2;refine b.tb.elim (λz=>bU (z.1)) λz=>z.elim λT z=>z.elim λl z=>z.elim λj z=>z.elim λy t=>?_;show ay W.M A (do
  if(<-field (.ref a) 1)==.none then JA "frame.own-activation:exception-without-traceback"
  Ku (.ref a) env.frame) (λy f=>E (.ref a) f) E ao
 refine aE (Ea b.g b.d t.e ?_);rw[c9 (nofun)];exact DD K I x h
theorem ael(K:aT W)(c:A.frames=aa (env::outer))(hf:env.frame=aa L)(I:Inv W s)(x:dw W A tr env.frame Mt s e ao){Q:aL->Prop}(b:∀a,dw W A af ak Mt s e a->Q a):ay W.M A (sY env e) (λz=>Q) E ao:=by unfold sY;exact aE (Jb K c hf I x λa y=>DD K I y b)
end
def Lr(W:Wd)(q:Q)(Q:mj->aL->Prop)(E:bI)(r:L6)(s':aL):Prop:=match r with|.ok f=>Q f s'|.error e=>Wm W.M q.A q.env E e s'
def lp(W:Wd)(q:Q)(c:GG):Wt mj:=λQ E s=>kq W.M q.A c (Lr W q Q E) s
def nt(W:Wd)(q:Q)(E:bI):bI:=notedBy W.M q.A q.env λe s'=>Wm W.M q.A q.env E e s'
def lpN(W:Wd)(q:Q)(c:GG)(f:mj):Wt mj:=λQ E s=>match f with|.next|.cont=>kq W.M q.A c (Lr W q Q E) s|.brk=>Lr W q Q E (.ok .next) s|.ret v=>Lr W q Q E (.ok (.ret v)) s
def Bt(W:Wd)(q:Q)(c:GG)(bs:List cO):Wt mj:=λQ E s=>ay W.M q.A (gV bs q.env) (λf a=>lpN W q c f Q E a) (nt W q E) s
def XZ(a:Rh->Ev Os)(o:Os):Ev Os:=o.1.el (a o.2) (.ok (.next,o.2)) (a o.2) λd=>.ok (.ret d,o.2)
section
theorem iz.nt(K:aT W)(P:iz W n q E s):iz W n q (nt W q E) s:=⟨P.h,λe s' x=>P.h.top.elim λa ht=>Jb K ht P.h.loc P.h.inv x λc y=>aaz K P.h.inv y λb z=>P.e _ _ z.loose⟩
theorem RQ(K:aT W)(hb:gG W n F σ bs ts)(b:q.σ=σ)(P:iz W n q E s){R:Os->mj->aL->Prop}(hi:∀G r a,dZ W n (q.at G r) a->Mv W q s (q.at G r) a->J E (ih r) (lp W q c) R a/\∀fl f,vF (q.at G r).X a.heap fl f->R (fl,r) f a):
  J E ((be ts F q.ρ).run.bind (XZ ih)) (Bt W q c bs) R s:=by
 refine J.vk (nt W q) (λQ E k=>k) (hb q _ s b (P.nt K)) λo f a r=>r.elim λG r=>?_;have z:=hi G o.2 a r.h r.m;cases o with
 |mk fl r'=>have hf:=r.f;cases fl with|next=>exact ae (hf) z.1|cont=>exact ae (hf) z.1|brk=>exact ae (hf) (z.2 _ _ rfl)|ret d=>exact hf.elim λv y=>ae y.1 (z.2 (.ret d) _ ⟨v,rfl,y.2⟩)
theorem Tr.KE(o:Ev Os):(Tr.l o .ret).run=o:=by cases o<;>rfl
theorem J.wh{α:Type}{w:Wt α}{R:Os->α->aL->Prop}(h:∀k,J E (gF c b k r) w R s):J E (wh c b r) w R s:=by
 unfold Internal.wh;split
 ·exact h _
 ·trivial
theorem abi(h:ay W.M q.A (A0 x q.env (eval x q.env)) (λb e=>if b then Bt W q (.whileLoop x bs [] q.env) bs Q₁ E e else Q₁ .next e) (nt W q E) s):lp W q (.whileLoop x bs [] q.env) Q₁ E s:=by
 refine HX ?_;show ay _ q.A ((whileTurn x bs [] q.env).onRaise (λx=>do uX x q.env;zx x)) _ _ s;refine UT ?_;unfold whileTurn;refine aE (ba h (λb e a=>?_) λy y d=>d);cases b with
 |false=>exact aE (Da (a8 a))
 |true=>refine aE (ba a (λf g c=>?_) λy y d=>d);cases f with|next=>exact a8 ⟨rfl,c⟩|cont=>exact a8 ⟨rfl,c⟩|brk=>exact a8 c|ret v=>exact a8 c
theorem aem(K:aT W)(hc:SB W n F σ x c)(hb:gG W n F σ bs ts):SS W n F σ (.While x bs [] p) (.while c ts):=λq E s g P=>by
 show J E (Tr.l _ .ret).run _ _ s;rw[Tr.KE];refine J.by (λQ E=>wpAny_While) (J.wh λk=>?_);refine(?_:∀G r a,iz W n (q.at G r) E a->Mv W q s (q.at G r) a->J E (gF (λr=>(c F r).run) (λr=>(be ts F r).run) k r) (lp W q (.whileLoop x bs [] q.env)) (Sr W n q s) a) q.G q.ρ s P .refl
 induction k with
 |zero=>exactλy y y y y=>trivial
 |succ k ih=>refineλG r a P m=>J.vk (nt W q) (λQ E k=>abi k) (hc (q.at G r) _ a g (P.nt K).pl) λt o v z=>?_;obtain rfl:=z.1;have b:Mv W (q.at G r) a ((q.at G r).at G r) v:=.iI z.2;have e:=P.mv b (P.h.nx z.2);cases o with|false=>exact(⟨G,e.h,m.trans b,rfl⟩)|true=>exact RQ K (q:=q.at G r) hb g e λj w u i d=>⟨ih j w u (e.mv d i) ((m.trans b).trans d),λfl f hf=>⟨j,i,(m.trans b).trans d,hf⟩⟩
end
def Mk(tp:Bool)(a:aH):Prop:=(tp=ag/\∃n p,a=.Name n p)\/∃b k p,a=.Tuple b k p
structure rM(W:Wd)(A:dY)(tp:Bool)(I:aJ)(n:Nat)(P:Nat->bF->aA->Prop)(St:Nat->bF->Prop)(fp wr:List aJ):Prop where
 sub:∀b∈wr,b∈fp
 frame:∀i h h',St i h->(∀b∈fp,∀o,h.get? b=aa o->h'.get? b=aa o)->St i h'
 item:∀tg i (s:aL) (Q:bI) (E:bI),Mk tp tg->i<n->St i s.heap->
  (∀v s',P i s'.heap v->St (i+1) s'.heap->(∀b o,b∉wr->s.heap.get? b=aa o->s'.heap.get? b=aa o)->s'.gens=s.gens->s'.os=s.os->Q v s')->
  ay W.M A (rt (.ref I)) (λr s1=>∃v,r=aa v/\ay W.M A (wF tg (.ref I) v) (λ_ s2=>Q v s2) E s1) E s
 done:∀(s:aL) (Q:aL->Prop) (E:bI),St n s.heap->
  (∀s',(∀b o,b∉wr->s.heap.get? b=aa o->s'.heap.get? b=aa o)->s'.gens=s.gens->s'.os=s.os->Q s')->ay W.M A (rt (.ref I)) (λr s'=>r=ak/\Q s') E s
 self:∀i (s:aL) (Q:bI) (E:bI),St i s.heap->Q (.ref I) s->ay W.M A (nT (.ref I)) Q E s
noncomputable def O2:List String:=["enumerate","zip","dict_itemiterator","dict_reverseitemiterator","odict_iterator","itertools.zip_longest","itertools.pairwise"]
theorem aaA{T:String}{Q:Unit->aL->Prop}(ht:Mk tp tg)(b:s.heap.get? I=aa o)(hc:o.cls=.type T)(c:O2.contains T=ag)(h:Q () s):
  ay M A (wF tg (.ref I) v) Q E s:=ht.elim (λx=>x.2.elim λn x=>x.elim λp x=>x▸a8 h) λx=>x.elim λd x=>x.elim λk x=>x.elim λp x=>by
 subst x;unfold wF;cases v with
 |ref a=>refine aE (wpAny_load b ?_);rw[hc];generalize o.data=d;cases d with
  |fields vs=>show ay M A (if(O2.contains T&&_)=af then _ else _) Q E s;rw[c];exact a8 h
  |_=>exact a8 h
 |_=>exact a8 h
theorem rM.w3{W:Wd}{A:dY}{I:aJ}{c wr:List aJ}{n:Nat}{P:Nat->aA->Prop}{St:Nat->bF->Prop}(k:Walks W.prog W.w A I c wr n P St)
  (hc:∀i h,St i h->∃o T,h.get? I=aa o/\o.cls=.type T/\O2.contains T=ag):rM W A ag I n (λi x v=>P i v) St c wr where
 sub:=k.sub
 frame:=k.frame
 item:=λj i s Q E ht e st b=>k.item i s _ E e st λv g tk f d a=>(hc _ _ d).elim λo z=>z.elim λT z=>⟨v,rfl,aaA ht z.1 z.2.1 z.2.2 (b _ _ f d a rfl rfl)⟩
 done:=λs Q E st b=>k.done s _ E st λg tk a=>⟨rfl,b _ a rfl rfl⟩
 self:=k.self
theorem rM.acG{W:Wd}{A:dY}{I:aJ}{g wr:List aJ}{n:Nat}{l:Nat->Array aA->Prop}{St:Nat->bF->Prop}{yo:Nat->aJ->bF->Prop}(k:WalksT W.prog W.w A I g wr n l St yo):
  rM W A af I n (λi h v=>∃T ev,v=.ref T/\h.IsTuple T ev/\l i ev) St g wr where
 sub:=k.sub
 frame:=k.frame
 item:=λy i s Q E ht q st c=>k.item i s _ E q st λT ev f tk t B r j a=>⟨.ref T,rfl,ht.elim (λx=>bU (x.1)) λx=>x.elim λm x=>x.elim λp x=>x.elim λpos x=>x▸k.go m p pos i T {s with heap:=f,toks:=tk} _ E j λC u d=>c _ _ ⟨T,ev,rfl,r.imp λo z=>⟨d _ _ (k.apart _ _ _ j) z.1,z.2⟩,t⟩ u (λb o hb e=>d b o hb (a b o hb e)) rfl rfl⟩
 done:=λs Q E st c=>k.done s _ E st λf tk a=>⟨rfl,c _ a rfl rfl⟩
 self:=k.self
structure eE(h:bF)(b:aJ)(o:Obj):Prop where
 g:h.get? b=aa o
 d:∀es n,o.data≠.dict es n
 k:∀v,o.data≠.cell v
 n:o.cls≠.none
 c:o.cls≠.type "code"
theorem eE.fields{T:String}(g:h.get? b=aa o)(c:o.cls=.type T)(d:o.data=.fields vs)(a:T≠"code"):∃o,eE h b o:=⟨o,g,λes n q=>(c3 (d.symm.trans q) rfl),λv q=>(c3 (d.symm.trans q) rfl),λq=>(c4 (c.symm.trans q) rfl),λq=>a (CH (c.symm.trans q))⟩
theorem eE.seq{T:String}{k:Nat}(g:h.get? b=aa o)(c:o.cls=.type T)(d:o.data=.seq vs k)(a:T≠"code"):∃o,eE h b o:=⟨o,g,λes n q=>(c3 (d.symm.trans q) rfl),λv q=>(c3 (d.symm.trans q) rfl),λq=>(c4 (c.symm.trans q) rfl),λq=>a (CH (c.symm.trans q))⟩
def Ml(tp:Bool)(X:aJ->Prop)(h:bF)(d:D)(v:aA):Prop:=cond tp (∃ds,d=.tup ds/\TupIs X h ds v) (bq X h d v)
structure Wk(W:Wd)(A:dY)(tp:Bool)(Z:aJ->Prop)(s:aL)(ds:List D)(I:aJ)(P:Nat->bF->aA->Prop)(St:Nat->bF->Prop)(fp wr:List aJ)(s2:aL):Prop where
 k:rM W A tp I ds.length P St fp wr
 st:St 0 s2.heap
 f:∀b∈fp,¬Z b/\∀i h,St i h->∃o,eE h b o
 w:∀b∈wr,s.heap.get? b=ak
 it:∀i d v h Z',ds[i]?=aa d->P i h v->Tp (λb=>Z b\/b∈wr) s2.heap Z' h->Ml tp Z' h d v
def rN(W:Wd)(A:dY)(tp:Bool)(Z:aJ->Prop)(s:aL)(ds:List D)(v:aA)(a:aL):Prop:=∃I P St b wr,v=.ref I/\Wk W A tp Z s ds I P St b wr a
section
variable{s ao:aL}{Z:aJ->Prop}{i:Nat}
theorem a9.at(r:a9 Z s.heap ds ai)(hd:ds[i]?=aa d)(a:ai[i]?=aa v):bq Z s.heap d v:=(r.get hd).elim λb z=>(aM (z.1.symm.trans a))▸z.2
theorem bq.past(r:bq Z ao.heap d v)(k:∀b o,ao.heap.get? b=aa o->h'.get? b=aa o)(a:∀b,X' b->Z b\/ao.heap.get? b=ak):bq X' h' d v:=r.mv (.of (.keeps (Mt:=λx=>False) k) (λx x x q=>q.elim) λb o e h=>(a b h).elim id λh=>aN (h.symm.trans e))
theorem nz(a:∀b,Z b->(s.heap.get? b).isSome=af)(h:s.heap.get? b=ak):¬Z b:=λq=>dL h (a b q)
theorem mq{α:Type}{P:α->Prop}{a b:α}(h:b∈[a])(p:P a):P b:=(bB.mp h).symm▸p
theorem z8{b:aJ}(k:Nx W s ao)(h:b∈[ao.heap.objs.size]):s.heap.get? b=ak/\ao.heap.get? b=ak:=(bB.mp h).symm▸⟨fresh k,eh _⟩
theorem KF{o:Obj}(r:bq Z ao.heap d v){c:aJ->Prop}{a:bF}(t:Tp (λb=>Z b\/b∈[ao.heap.objs.size]) (ao.heap.push o) c a):bq c a d v:=(r.past (λb o e=>dA _ e) λb h=>h.imp id λh=>mq (P:=λb=>ao.heap.get? b=ak) h (eh _)).mv t
theorem agm(hh:A.handled=ak)(j:∀b,Z b->(s.heap.get? b).isSome=af)(a:Nx W s ao)(hs:bG ao.heap "list" ax ai)(g:¬Z ax)(c:a9 Z ao.heap ds ai):
  rN W A ag Z s ds (.ref ao.heap.objs.size) {ao with heap:=ao.heap.push {cls:=.type "list_iterator",data:=.fields #[.ref ax,.int 0 0]}}:=by
 have k:=Te (prog:=W.prog) (w:=W.w) hh ao.heap.objs.size ax (hs.elim λn z=>kZ (eM z.1)) ai.toArray;rw[show ai.toArray.size=ds.length from c.length]at k;refine⟨_,_,_,_,_,rfl,.w3 k (λi h st=>st.1.imp λo z=>⟨_,z.1,z.2.1,eX rfl⟩),⟨⟨_,gk _ rfl,rfl,rfl⟩,hs.isList.push _⟩,λb hb=>(ch.mp hb).elim ?_ λhb=>(bB.mp hb).symm▸?_,λb hb=>(z8 a hb).1,λi d v h p hd l t=>KF (c.at hd (rX▸l)) t⟩
 ·exactλe=>e.symm▸⟨nz j (fresh a),λi h st=>st.1.elim λo z=>eE.fields z.1 z.2.1 z.2.2 (eX rfl)⟩
 ·exact⟨g,λi h st=>st.2.elim λo z=>z.2.2.elim λm f=>eE.seq z.1 z.2.1 f (eX rfl)⟩
end
section
theorem aen(hh:A.handled=ak)(j:∀b,Z b->(s.heap.get? b).isSome=af)(a:Nx W s ao)(hs:bG ao.heap "tuple" ax ai)(g:¬Z ax)(c:a9 Z ao.heap ds ai):
  rN W A ag Z s ds (.ref ao.heap.objs.size) {ao with heap:=ao.heap.push {cls:=.type "tuple_iterator",data:=.fields #[.ref ax,.int 0 0]}}:=by
 have k:=Walks.tuple (prog:=W.prog) (w:=W.w) hh ao.heap.objs.size ax (hs.elim λn z=>kZ (eM z.1)) ai.toArray;rw[show ai.toArray.size=ds.length from c.length]at k;refine⟨_,_,_,_,_,rfl,.w3 k (λi h st=>st.1.imp λo z=>⟨_,z.1,z.2.1,eX rfl⟩),⟨⟨_,gk _ rfl,rfl,rfl⟩,hs.isTup.imp λo z=>⟨dA _ z.1,z.2⟩⟩,λb hb=>(ch.mp hb).elim ?_ λhb=>(bB.mp hb).symm▸?_,λb hb=>(z8 a hb).1,λi d v h p hd l t=>KF (c.at hd (am (rX) l)) t⟩
 ·exactλe=>e.symm▸⟨nz j (fresh a),λi h st=>st.1.elim λo z=>eE.fields z.1 z.2.1 z.2.2 (eX rfl)⟩
 ·exact⟨g,λi h st=>st.2.elim λo z=>z.2.2.elim λm f=>eE.seq z.1 z.2.1 f (eX rfl)⟩
theorem aeo(hh:A.handled=ak)(e:∀b,Z b->(s.heap.get? b).isSome=af)(a:Nx W s ao):
  rN W A ag Z s ((b.toList.map bR).map λc:Nat=>D.int (c:Int)) (.ref ao.heap.objs.size) {ao with heap:=ao.heap.push {cls:=.type "bytes_iterator",data:=.fields #[.bytes b t,.int 0 0]}}:=by
 have k:=KBw.walks (prog:=W.prog) (w:=W.w) hh ao.heap.objs.size b t;simp only [show b.size=((b.toList.map bR).map λc:Nat=>D.int (c)).length from by simp only [aW,aW];rfl]at k;refine⟨_,_,_,_,_,rfl,.w3 k (λi h st=>st.imp λo z=>⟨_,z.1,z.2.1,eX rfl⟩),⟨_,gk _ rfl,rfl,rfl⟩,λb hb=>(bB.mp hb).symm▸⟨nz e (fresh a),λi h st=>?_⟩,λb hb=>(z8 a hb).1,λi d v h g hd f t=>iF f λc z=>z.elim λu z=>?_⟩
 ·exact iF st λo z=>eE.fields z.1 z.2.1 z.2.2 (eX rfl)
 simp only [kT,kT,B3,z.1]at hd;exact ae z.2 (am (aM hd) (im _ u:bq g h _ _))
def CY:=λao lo hi=>(∀{W} {A} {s} {Z} (hh:A.handled=ak) (c:∀b,Z b->(s.heap.get? b).isSome=af) (a:Nx W s ao),rN W A ag Z s (nN lo hi) (.ref ao.heap.objs.size) {ao with heap:=ao.heap.push {cls:=.type "range_iterator",data:=.fields #[fg lo,fg (Nt lo hi 1),fg 1]}}:Prop)
def Hz:=tT CY (aO n8 (aO nI nI))
def Oc:=Hz.1
def oY:=Hz.2.1
def uL:=Hz.2.2
theorem aaB:CY Oc oY uL:=λ{W} {A} {s} {Z} hh l c=>by
 have j:(nN oY uL).length=(uL-oY).toNat:=by unfold nN;rw[aW,OC]
 have g:Nt oY uL 1=((nN oY uL).length):=by rw[aoW];refine ae j ?_;split<;>omega
 refine⟨_,_,_,_,_,rfl,.w3 (Walks.range hh Oc.heap.objs.size oY 1 (nN oY uL).length) (λi h st=>⟨_,_,st,rfl,eX rfl⟩),?_,λb hb=>am ((bB.mp hb).symm) ⟨nz l (fresh c),λi h st=>eE.fields st rfl rfl (eX rfl)⟩,λb hb=>(z8 c hb).1,λi d v h n hd m t=>iF m λu z=>?_⟩
 ·refine(gk _ rfl).trans ?_;refine ae g ?_;refine(aj (λa=>aa ({cls:=.type "range_iterator",data:=.fields #[fg a,fg (nN oY uL).length,fg 1]}:Obj)) (Int.add_zero oY).symm).trans ?_;exact aj (λb=>aa ({cls:=.type "range_iterator",data:=.fields #[fg (oY+0),fg b,fg 1]}:Obj)) (Rw _).symm
 ·unfold nN at hd;rw[kT]at hd;refine(hJ.mp hd).elim λk f=>?_;have e:=(dX.mp f.1).2;rw[adS]at e;exact ae z (am f.2 (am e ((anD (i)).symm▸(im _ u:bq n h _ _))))
theorem aep{ao lo hi}:CY ao lo hi:=@Bo _ _ _ CY _ @aaB ao lo hi
theorem ajh(hh:A.handled=ak)(m:∀b,Z b->(s.heap.get? b).isSome=af)(f:Nx W s ao)(hs:bG ao.heap "list" ax ai)(j:¬Z ax)(a:a9 Z ao.heap ds ai):
  rN W A ag Z s ds.reverse (.ref ao.heap.objs.size) {ao with heap:=ao.heap.push (revObj ax ((ai.toArray.size:Int)-1))}:=by
 have k:=Walks.listRev (prog:=W.prog) (w:=W.w) hh ao.heap.objs.size ax (hs.elim λn z=>kZ (eM z.1)) ai.toArray;have k0:=rM.w3 k (λi h st=>st.2.1.imp λo z=>⟨_,z.1,z.2.1,eX rfl⟩);have l:=(show ai.toArray.size=ds.reverse.length from a.length.trans kg.symm)▸k0;refine⟨_,_,_,_,_,rfl,l,⟨cy _,⟨_,gk _ rfl,rfl,by simp[revObj,a.length]⟩,hs.isList.push _⟩,λb hb=>(ch.mp hb).elim ?_ λhb=>(bB.mp hb).symm▸?_,λb hb=>(z8 f hb).1,λi d v h q hd c t=>?_⟩
 ·exactλe=>e.symm▸⟨nz m (fresh f),λi h st=>st.2.1.elim λo z=>eE.fields z.1 z.2.1 z.2.2 (eX rfl)⟩
 ·exact⟨j,λi h st=>st.2.2.elim λo z=>z.2.2.elim λp g=>eE.seq z.1 z.2.1 g (eX rfl)⟩
 ·have c:ai[ds.length-1-i]?=aa v:=by simpa using c
  have e:=(NY (a.length▸kg▸(dX.mp hd).1)).trans (aj (λk=>ai[k-1-i]?) a.length);exact KF (a.reverse.at hd (e.trans c)) t
theorem agn(hh:A.handled=ak)(g:∀b,Z b->(s.heap.get? b).isSome=af)(r:Nx W s ao)(hs:bG ao.heap "list" ax ai)(q:¬Z ax)(c:a9 Z ao.heap ds ai)
  (u:IsEnum h' (ao.heap.objs.size+1) ao.heap.objs.size 0 .none) (hi:h'.IsListIter ao.heap.objs.size ax 0) (f:∀b o,ao.heap.get? b=aa o->h'.get? b=aa o):
  rN W A af Z s (ds.zipIdx.map λp=>.tup [.int p.2,p.1]) (.ref (ao.heap.objs.size+1)) {ao with heap:=h'}:=by
 have j:=hs.elim λn z=>eM z.1;have k:=WalksT.enumerate (prog:=W.prog) (w:=W.w) hh (ao.heap.objs.size+1) ao.heap.objs.size ax (afT _) (kZ (OS j)) (kZ j) ai.toArray;simp only [show ai.toArray.size=(ds.zipIdx.map λp:D×Nat=>D.tup [.int p.2,p.1]).length from by rw[aW];refine ae List.length_zipIdx ?_;exact c.length]at k;have a:∀b∈[ao.heap.objs.size+1,ao.heap.objs.size],s.heap.get? b=ak/\ao.heap.get? b=ak:=λb hb=>
  have z:=ux ((ch.mp hb).elim (λe=>e▸gO _) λe=>mq e (bO _))
  ⟨mE (λb hb=>r.k.bp hb id) z,z⟩
 refine⟨_,_,_,_,_,rfl,.acG k,⟨⟨_,u⟩,hi,hs.isList.imp λo z=>⟨f _ _ z.1,z.2⟩⟩,λb hb=>(ch.mp hb).elim ?_ λhb=>(ch.mp hb).elim ?_ λhb=>(bB.mp hb).symm▸?_,λb hb=>(a b hb).1,λi d v h E hd y t=>?_⟩
 ·exactλe=>am e.symm ⟨nz g (a _ (.head _)).1,λi h st=>st.1.elim λo z=>eE.fields z rfl rfl (eX rfl)⟩
 ·exactλe=>e.symm▸⟨nz g (a _ (.tail _ (.head _))).1,λi h st=>st.2.1.elim λo z=>eE.fields z.1 z.2.1 z.2.2 (eX rfl)⟩
 ·exact⟨q,λi h st=>st.2.2.elim λo z=>z.2.2.elim λC m=>eE.seq z.1 z.2.1 m (eX rfl)⟩
 ·refine y.elim λT z=>z.elim λev z=>z.2.2.elim λB w=>w.elim λx w=>?_;rw[kT]at hd;refine(hJ.mp hd).elim λp hp=>?_;have hp:=(acg)▸hp;refine(hJ.mp hp.1).elim λd0 l=>⟨_,hp.2.symm,T,ev,z.1,z.2.1,?_⟩;exact ae w.2 (am l.2 (.cons ⟨_,by rw[dD]⟩ (.cons (((c.at l.1 (am (rX) w.1)).past f λb h=>h.imp id λh=>(a b h).2).mv t) .nil)))
end
noncomputable def ov(wr:List aJ)(r:Option Ro)(G:aJ->Option Ro):aJ->Option Ro:=λb=>cond (wr.contains b) r (G b)
section
theorem fh(h:b∈wr):ov wr r G b=r:=by unfold ov;rw[ed.mpr h];rfl
theorem dq(h:b∉wr):ov wr r G b=G b:=by unfold ov;rw[gL.mpr λq=>h (ed.mp q)];rfl
theorem gw{P:Option Ro->Prop}(h:b∈wr->P r)(a:b∉wr->P (G b)):P (ov wr r G b):=(hV (b∈wr)).elim (λz=>fh z▸h z) λz=>dq z▸a z
theorem wW(K:aT W)(H:bM W n q s)(a:Nx W s ao)(hw:∀b∈wr,s.heap.get? b=ak)(hp:∀b∈wr,(ao.heap.get? b).isSome=af):
  bM W n {q with G:=ov wr (aa .x) q.G} ao/\Mv W q s {q with G:=ov wr (aa .me) q.G} ao:=
 have no:∀{b r},q.G b=aa r->b∉wr:=λe h=>dL (hw _ h) (H.old _ (nn e)).1
 ⟨H.U9 K a (λb r e=>(dq (no e)).trans e) λb r e=>(hV (b∈wr)).elim (λh=>.inr ⟨hw b h,hp b h⟩) λh=>.inl ((dq h).symm.trans e),
  .grow a (λb r e=>(dq (no e)).trans e) λb r e=>(hV (b∈wr)).elim (λh=>.inr ⟨λq=>(by cases q;exact cw ((fh h).symm.trans e) rfl),hw b h⟩) λh=>.inl ((dq h).symm.trans e)⟩
theorem PR{iq:Q}(m:Mv W q s iq ao)(hw:∀b∈wr,q.G b=aa .x):Mv W {q with G:=ov wr (aa .me) q.G} s {iq with G:=ov wr (aa .me) iq.G} ao where
 kp:=λb o e c=>m.kp b o e λz=>c (gw (P:=λx=>x≠ak/\x≠aa .x) (λh=>aC (hw b h) z.2) λa=>z)
 gx:=λb=>(hV (b∈wr)).elim (λh=>by show ov _ _ _ b=_↔ov _ _ _ b=_;rw[fh h,fh h]) λh=>by show ov _ _ _ b=_↔ov _ _ _ b=_;rw[dq h,dq h];exact m.gx b
 new:=λb hb=>(hV (b∈wr)).elim (λh=>.inl ⟨nn (fh h),λz=>(cw ((fh h).symm.trans z) rfl)⟩) λh=>(m.new b ⟨λz=>hb.1 ((dq h).trans z),λz=>hb.2 ((dq h).trans z)⟩).imp (λz=>⟨λy=>z.1 ((dq h).symm.trans y),λy=>z.2 ((dq h).symm.trans y)⟩) id
 bp:=m.bp
theorem s9:ov wr r (ov wr r' G)=ov wr r G:=funext λb=>gw (P:=λx=>x=ov wr r G b) (λh=>(fh h).symm) λh=>(dq h).trans (dq h).symm
theorem QB(K:aT W)(H:bM W n q s)(hw:∀b∈wr,q.G b=aa .x)(nd:∀l,q.A.frames=aa l->∀e∈l,∀L,e.frame=aa L->L∉wr)(nc:∀n c,(n,c)∈q.env.cells->c∉wr)(hp:r≠ak->∀b∈wr,(s'.heap.get? b).isSome=af)(u:∀b o,b∉wr->s.heap.get? b=aa o->s'.heap.get? b=aa o)(hi:Inv W s'):bM W n {q with G:=ov wr r q.G} s':=by
 have k:bZ (·∈wr) s.heap s'.heap:=λb o e p=>⟨o,u b o p e,.refl ..⟩;have no:∀{b r},q.G b=aa r->r≠.x->b∉wr:=λe h z=>h (aM (e.symm.trans (hw _ z)));have f:∀{b g},q.G b=aa g->g≠.x->ov wr r q.G b=aa g:=λe h=>(dq (no e h)).trans e;have nl:=no H.rl (λh=>cu h rfl);have lo:=λb h=>(H.old b (nn (hw b h))).2;have le:∀b,ov wr r q.G b≠ak->q.X b:=λb=>gw (P:=λx=>x≠ak->q.X b) (λh d=>nn (hw b h)) λd h=>h;exact{H with rl:=f H.rl (λh=>cu h rfl),rc:=λn c hc=>(H.rc n c hc).map λd e d=>(dq (nc n c hc)).trans e,ns:=H.ns.imp λm p=>lZ p k nl,cell:=λn c hc=>(H.cell n c hc).imp λv w=>o8 w k (nc n c hc),at_:=λi nm a C h2 B=>(H.at_ i nm a C h2 B).imp id λx=>x.imp λv x=>⟨k9 x.1 k nl nc,x.2.mv (.of k (λb o d h=>nn (hw b h)) λb d d=>le b) (λa ai e z=>⟨f e (λh=>cu h rfl),z.kp k (no e (λh=>cu h rfl))⟩) rfl⟩,old:=λb hb=>⟨(hV (b∈wr)).elim (λh=>hp (λe=>hb ((fh h).trans e)) b h) λh=>(gK.mp (H.old b (le b hb)).1).elim λo e=>dH (u b o h e),(H.old b (le b hb)).2⟩,hf:=H.hf.imp λl x=>⟨x.1,λe t=>⟨(x.2 e t).1,(x.2 e t).2.imp λL y=>y.imp λm y=>⟨y.1,y.2.1,lZ y.2.2 k (nd l x.1 e t L y.1)⟩⟩⟩,inv:=hi,me:=H.me.mv (.of k (λb o d h=>nn (hw b h)) λb d d=>le b) k (λb e=>no e (λh=>cu h rfl)) (λv x=>k9 x k nl nc) (λa j ai d e z=>⟨f e (λh=>cu h rfl),z.kp k (no e (λh=>cu h rfl))⟩) λb e=>f e (λh=>cu h rfl)}
theorem Oo(K:aT W)(H:bM W n q s)(hw:∀b∈wr,q.G b=aa .x)(nd:∀l,q.A.frames=aa l->∀e∈l,∀L,e.frame=aa L->L∉wr)(nc:∀n c,(n,c)∈q.env.cells->c∉wr)(nf:∀b o vs,b∈wr->s.heap.get? b=aa o->o.data=.fields vs->o.cls≠.type "code")(hp:r≠ak->∀b∈wr,(s'.heap.get? b).isSome=af)(a:∀b o,b∉wr->s.heap.get? b=aa o->s'.heap.get? b=aa o)(j:s'.gens=s.gens)(g:s'.os=s.os):bM W n {q with G:=ov wr r q.G} s':=
 have lo:=λb h=>(H.old b (nn (hw b h))).2
 QB K H hw nd nc hp a {kp:=λb o e i=>(H.inv.kp b o e i).imp λf z=>⟨a b f (λh=>ft.mpr (lo b h) (K.size▸eM e)) z.1,z.2⟩,bare:=j▸H.inv.bare,os:=g.trans H.inv.os,tabs:=H.inv.tabs.next λb o vs e d z=>a b o (λh=>z.elim (nf b o vs h e d) λz=>ft.mpr (lo b h) (AL b z)) e}
theorem uM(K:aT W)(H:bM W n q s)(hw:∀b∈wr,q.G b=aa .x)(hf:∀b∈wr,∃o,eE s.heap b o)(hp:r≠ak->∀b∈wr,(s'.heap.get? b).isSome=af)(j:∀b o,b∉wr->s.heap.get? b=aa o->s'.heap.get? b=aa o)(p:s'.gens=s.gens)(f:s'.os=s.os):bM W n {q with G:=ov wr r q.G} s':=
 Oo K H hw (λl i e t L u h=>H.hf.elim λA x=>(x.2 e ((aM (i.symm.trans x.1))▸t)).2.elim λB y=>y.elim λm y=>(hf _ h).elim λo z=>((aM (y.1.symm.trans u))▸y.2.2).elim λa y=>y.elim λes y=>y.elim λw y=>z.d es w ((aj px (aM (z.g.symm.trans y.1))).trans y.2.1))
  (λn c hc h=>(hf c h).elim λo z=>(H.cell n c hc).elim λv y=>y.elim λa y=>z.k v ((aj px (aM (z.g.symm.trans y.1))).trans y.2)) (λb o vs h e d q=>(hf b h).elim λa y=>y.c ((aj K8 (aM (y.g.symm.trans e))).trans q)) hp j p f
theorem O3{iq:Q}(m:Mv W q bY {iq with G:=ov wr (aa .me) iq.G} s)(hp:∀b∈wr,(s'.heap.get? b).isSome=af)(a:∀b o,b∉wr->s.heap.get? b=aa o->s'.heap.get? b=aa o):Mv W q bY {iq with G:=ov wr (aa .me) iq.G} s':=m.trans ⟨λb o e c=>⟨o,a b o (λh=>c ⟨nn (fh h),λz=>(cw ((fh h).symm.trans z) rfl)⟩) e,.refl ..⟩,λb=>.rfl,λb=>.inl,λb hb=>(hV (b∈wr)).elim (hp b) λh=>(gK.mp hb).elim λo e=>dH (a b o h e)⟩
theorem O4{iq:Q}(m:Mv W q bY {iq with G:=ov wr (aa .me) iq.G} ao)(c:∀b∈wr,bY.heap.get? b=ak)(a:∀b o,b∉wr->ao.heap.get? b=aa o->s'.heap.get? b=aa o):Mv W q bY {iq with G:=ov wr ak iq.G} s' where
 kp:=λb o e f=>(m.kp b o e f).imp λd z=>⟨a b d (λh=>aN ((c b h).symm.trans e)) z.1,z.2⟩
 gx:=λb=>(hV (b∈wr)).elim (λh=>⟨λe=>(aN ((fh h).symm.trans e)),λe=>cw ((fh h).symm.trans ((m.gx b).mpr e)) rfl⟩) λh=>⟨λe=>(m.gx b).mp ((dq h).trans ((dq h).symm.trans e)),λe=>(dq h).trans ((dq h).symm.trans ((m.gx b).mpr e))⟩
 new:=λb hb=>(hV (b∈wr)).elim (λh=>aC (fh h) hb.1) λh=>m.new b ⟨λz=>hb.1 ((dq h).trans ((dq h).symm.trans z)),λz=>hb.2 ((dq h).trans ((dq h).symm.trans z))⟩
 bp:=λb hb=>(gK.mp (m.bp b hb)).elim λo e=>dH (a b o (λh=>dL (c b h) hb) e)
end
def Tg(W:Wd)(n:Nat)(σ:Sc)(tp tup:Bool)(is:List Nat)(b:aH):Prop:=Mk tp b/\∀(q:Q) (s:aL) (d:D) (v:aA) (r:Rh) (Q:Unit->aL->Prop) (E:bI),q.σ=σ->bM W n q s->iw tup is d q.ρ=aa r->Ml tp q.X s.heap d v->
 (∀a,bM W n {q with ρ:=r} a->Mv W q s {q with ρ:=r} a->Q () a)->ay W.M q.A (iZ b q.env v) Q E s
section
variable{s:aL}
theorem aji(K:aT W)(e:σ.ns[i]?=aa nm)(h2:σ.fj nm=af):Tg W n σ ag ag [i] (.Name nm p):=⟨.inl ⟨rfl,_,_,rfl⟩,λq s d v r Q E a H hb b c=>uB (mG K H (a▸e) (lq (a▸h2)) b ((aM hb)▸c))⟩
theorem TD(K:aT W)(h:St σ is ts):Tg W n σ tp af is (.Tuple ts k p):=
 ⟨.inr ⟨_,_,_,rfl⟩,λq s d v r Q E c H hb=>wV (P:=λd r=>Ml tp q.X s.heap d v->(∀a,bM W n {q with ρ:=r} a->Mv W q s {q with ρ:=r} a->Q () a)->ay W.M q.A (iZ (.Tuple ts k p) q.env v) Q E s) hb λf e b=>Ic K (c▸h) e H (by
  cases tp with
  |false=>exact TupIs.of b
  |true=>exact b.elim λg z=>(aM (aj D.WD z.1))▸z.2)⟩
def CZ:=λW q E a bs Q₁ v=>(∀{s} (h:ay W.M q.A (rt v) (λr b=>match r with
   |none=>Q₁ .next b
   |some u=>ay W.M q.A (wF a v u) (λx b=>ay W.M q.A (iZ a q.env u) (λx c=>Bt W q (.forLoop a v bs [] q.env) bs Q₁ E c) (nt W q E) b) (nt W q E) b) (nt W q E) s),lp W q (.forLoop a v bs [] q.env) Q₁ E s:Prop)
def uN:=rI CZ (aO rA (aO yh (aO nI (aO nI (aO nI (aO nI nI))))))
def abj:=uN.1
def HI:=uN.2.1
def abk:=uN.2.2.1
def OM:=uN.2.2.2.1
def ON:=uN.2.2.2.2.1
def ZT:=uN.2.2.2.2.2.1
def Dh:=uN.2.2.2.2.2.2
theorem aaC:CZ abj HI abk OM ON ZT Dh:=λ{s} h=>by
 refine HX ?_;show ay _ _ ((LY OM Dh ON [] HI.env).onRaise (λx=>do uX x HI.env;zx x)) _ _ s;refine UT ?_;unfold LY;refine aE (kY (aE (Tf (ba h (λr ao c=>?_) λy y a=>kY a))));cases r with
 |none=>exact a8 ⟨rfl,codeAny_block (Da c)⟩
 |some Dh=>refine aE (ba c (λy ao c=>aE (ba c (λy g d=>aE (ba d (λf e b=>?_) λy y a=>a)) λy y a=>a)) λy y a=>a);cases f with|next=>exact a8 ⟨rfl,b⟩|cont=>exact a8 ⟨rfl,b⟩|brk=>exact a8 b|ret Dh=>exact a8 b
theorem QC{W q E a bs Q₁ v}:CZ W q E a bs Q₁ v:=@XR _ _ _ _ _ _ _ CZ _ @aaC W q E a bs Q₁ v
structure Tn(W:Wd)(n:Nat)(q:Q)(bj:aL)(wr:List aJ)(St:Nat->bF->Prop)(i:Nat)(G:aJ->Option Ro)(r:Rh)(s:aL):Prop where
 h:bM W n (q.at G r) s
 x:∀b∈wr,G b=aa .x
 st:St i s.heap
 m:Mv W (q.at (ov wr (aa .me) q.G) q.ρ) bj (q.at (ov wr (aa .me) G) r) s
theorem Wk.here{St:Nat->bF->Prop}(w:Wk W A tp Z bY ds I P St fp wr bj)(st:St i s.heap):∀b∈wr,(s.heap.get? b).isSome=af:=λb hb=>((w.f b (w.k.sub b hb)).2 i _ st).elim λo z=>dH z.g
theorem Tn.run{P:Nat->bF->aA->Prop}{St:Nat->bF->Prop}{i:Nat}{G G':aJ->Option Ro}{r c:Rh}{ds:List D}(w:Wk W A tp q.X bY ds I P St fp wr bj)(t:Tn W n q bj wr St i G r s)(H:bM W n (q.at G' c) s')(m:Mv W (q.at G r) s (q.at G' c) s'):Tn W n q bj wr St i G' c s' where
 h:=H
 x:=λb hb=>(m.gx b).mpr (t.x b hb)
 st:=w.k.frame _ _ _ t.st λb hb o e=>((w.f b hb).2 i _ t.st).elim λp z=>by
  have j:¬(q.at G r).my b:=λa=>(t.m.new b ((hV (b∈wr)).elim (λh=>aC (t.x b h) a.2) λh=>⟨λy=>a.1 ((dq h).symm.trans y),λy=>a.2 ((dq h).symm.trans y)⟩)).elim
   (λy=>(hV (b∈wr)).elim (λh=>a.2 (t.x b h)) λh=>(w.f b hb).1 λe=>y.1 ((dq h).trans e)) λy=>((w.f b hb).2 0 _ w.st).elim λo z=>aN (y.symm.trans z.g)
  have l:=aM (z.g.symm.trans e);subst l;exact m.kp.get z.g j (.inl z.d) (.inl z.n)
 m:=t.m.trans (PR m t.x)
theorem Tn.X3{St:Nat->bF->Prop}(t:Tn W n q bj wr St i G r s):Tp (λb=>q.X b\/b∈wr) bj.heap (q.at G r).X s.heap:=λb o e hx=>
 have z:=t.m.tp b o e (gw (P:=λx=>¬(x≠ak)) (λh=>aC (.inr h) hx) λa h=>hx (.inl h))
 ⟨λh=>z.1 λy=>h ((dq λw=>hx (.inr w)).symm.trans y),z.2⟩
theorem Tn.my{St:Nat->bF->Prop}(t:Tn W n q bj wr St i G r s)(m:Mv W q bY (q.at (ov wr (aa .me) q.G) q.ρ) bj)(b:aJ)(o:Obj)(e:bY.heap.get? b=aa o)(h:(q.at G r).my b):q.my b:=
 have hb:=λz=>h.2 (t.x b z)
 ((m.trans t.m).new b ⟨λz=>h.1 ((dq hb).symm.trans z),λz=>h.2 ((dq hb).symm.trans z)⟩).resolve_right (nn e)
theorem vF.mv{X:aJ->Prop}(x:vF X h fl f)(t:Tp X h X' h'):vF X' h' fl f:=by cases fl with|ret d=>exact x.imp λv z=>⟨z.1,z.2.mv t⟩|_=>exact x
theorem Tn.out{St:Nat->bF->Prop}(K:aT W)(c:iz W n q E bY)(d:Nx W bY bj)(w:Wk W A tp q.X bY ds I P St fp wr bj)(t:Tn W n q bj wr St i G r s)(a:∀b o,b∉wr->s.heap.get? b=aa o->s'.heap.get? b=aa o)(g:s'.gens=s.gens)(e:s'.os=s.os)(hf:vF (q.at (ov wr ak G) r).X s'.heap fl f):Sr W n q bY (fl,r) f s':=⟨ov wr ak G,c.h.up (uM K t.h t.x (λb hb=>(w.f b (w.k.sub b hb)).2 i _ t.st) (λh=>aC rfl h) a g e),O4 (iq:=q.at G r) ((wW K c.h.tobM d w.w (w.here w.st)).2.trans t.m) w.w a,hf⟩
theorem ajj(K:aT W){St:Nat->bF->Prop}(V:Tg W n σ tp tup is tg)(hb:gG W n F σ bs ts)(S:q.σ=σ)(c:iz W n q E bY)(C:Nx W bY bj)(w:Wk W q.A tp q.X bY ds I P St fp wr bj):
  J E (fo (iw tup is) (λr=>(be ts F r).run) ds q.ρ) (lp W q (.forLoop tg (.ref I) bs [] q.env)) (Sr W n q bY) bj:=by
 have g:=wW K c.h.tobM C w.w (w.here w.st);refine(?_:∀l i,ds.drop i=l->i+l.length=ds.length->∀G r s,Tn W n q bj wr St i G r s->J E (fo (iw tup is) (λr=>(be ts F r).run) l r) (lp W q (.forLoop tg (.ref I) bs [] q.env)) (Sr W n q bY) s) ds 0 rfl (dD _) (ov wr (aa .x) q.G) q.ρ bj ⟨g.1,λb=>fh,w.st,?_⟩
 ·intro l
  induction l with
  |nil=>intro i hd H G r s t;have e:=H;subst e;refine QC (ba (w.k.done s (λs'=>Sr W n q bY (.next,r) .next s') _ t.st λs' j L D=>t.out K c C w j L D rfl) (λv s' h=>by cases h.1;exact h.2) λy y h=>h)
  |cons d l ih=>
   intro i hd H G r s t;have T:=(mx ..).trans H;have dI:=jb (lO i) (T▸cB ..);have Bu:ds[i]?=aa d:=by rw[<-qI i,<-nk,hd];rfl
   have Y:ds.drop (i+1)=l:=by rw[<-ny,hd];rfl
   cases o:iw tup is d r with
   |none=>show J E ((Ev.of (iw tup is d r)).bind _) _ _ _;rw[o];trivial
   |some r1=>
    show J E ((Ev.of (iw tup is d r)).bind λr=>(be ts F r).run.bind (XZ (fo (iw tup is) (λr=>(be ts F r).run) l))) _ _ _;rw[o];refine J.all (w':=Bt W q (.forLoop tg (.ref I) bs [] q.env) bs) (G:=Tn W n q bj wr St (i+1) (ov wr (aa .x) G) r1) (λQ E h=>QC (ba (w.k.item tg i s (λv s'=>ay W.M q.A (iZ tg q.env v) (λy B=>Bt W q (.forLoop tg (.ref I) bs [] q.env) bs Q E B) (nt W q E) s') _ V.1 dI t.st λv s' hP N j L D=>?_) (λv s' h=>h.elim λu z=>z.1▸z.2) λy y h=>h)) λs3 a=>?_
    ·have p:Tn W n q bj wr St (i+1) (ov wr (aa .x) G) r s':=⟨uM K t.h t.x (λb hb=>(w.f b (w.k.sub b hb)).2 i _ t.st) (λy=>w.here N) j L D,λb=>fh,N,by rw[s9];exact O3 (iq:=q.at G r) t.m (w.here N) j⟩;exact V.2 (q.at (ov wr (aa .x) G) r) s' d v r1 _ _ S p.h o (w.it i d v _ _ Bu hP p.X3) λB H2 m2=>h B (p.run w H2 m2)
    ·have P3:iz W n (q.at (ov wr (aa .x) G) r1) E s3:=⟨c.h.up a.h,λe s' x=>c.e e s' (x.before (g.2.trans a.m).kp (a.my g.2) (g.2.trans a.m).bp)⟩;refine RQ K (q:=q.at (ov wr (aa .x) G) r1) hb S P3 λU R Z H4 m4=>?_;have O:=a.run w H4.tobM m4;exact⟨ih (i+1) Y T U R Z O,λfl f hf=>O.out K c C w (λy y y=>id) rfl rfl (hf.mv (.sub λb y y=>gw (P:=λx=>x≠ak->(q.at U R).X b) (λy h=>aC rfl h) λy h=>h))⟩
 ·rw[s9];exact .refl
def SI(W:Wd)(n:Nat)(F:Fn)(σ:Sc)(tp:Bool)(e:aH)(it:X):Prop:=∀q E s,q.σ=σ->Pl W n q E s->J E (it F q.ρ).run (λQ E s=>ay W.M q.A (eval e q.env) (λa b=>ay W.M q.A (nT a) Q E b) E s) (λd v s'=>∃ds,d=.list ds/\Nx W s s'/\rN W q.A tp q.X s ds v s') s
def NF(e:aH):Prop:=∀env x,PF e env x=pure x
theorem ajk(K:aT W)(hf:Nm σ fz)(i:Tg W n σ tp tup is tg)(hi:SI W n F σ tp e it)(f:NF e)(hb:gG W n F σ bs ts):SS W n F σ (.For tg e bs [] p) (.for fz tup is it ts):=u6 (t:=λr=>(it F r).bind λd=>.opt d.jU λai=>.l (fo (iw tup is) (λr=>(be ts F r).run) ai r) .ret) hf λq E s c P=>by rw[Tr.run_bind];refine J.bindM (w1:=λQ E s=>ay W.M q.A (eval e q.env) (λa b=>ay W.M q.A (nT a) Q E b) E s) (λE=>E) (λz h h2=>ba z (λa b z=>ba z h h2) h2) (λQ E k=>wpAny_For k (f _)) (hi q E s c P.pl) λd v m z=>J.opt λai g=>?_;rw[Tr.KE];exact z.elim λu z=>z.2.2.elim λI y=>y.elim λw y=>y.elim λSt y=>y.elim λo y=>y.elim λj y=>y.1▸(aM (g.symm.trans (aj D.jU z.1)))▸ajj K i hb c P z.2.1 y.2
end
section
def Si(W:Wd)(q:Q)(s:aL)(tp:Bool)(d:D)(v:aA)(s':aL):Prop:=∃ds,d=.list ds/\Nx W s s'/\rN W q.A tp q.X s ds v s'
theorem vZ(I:Nx W s ao)(o:Obj):Nx W s {ao with heap:=ao.heap.push o}:=I.trans (Gr.nx (.heap _ _ ao.toks λb o e=>dA _ e) I.i)
theorem ajl(P:Pl W n q E s)(a:Nx W s ao)(r:bq q.X ao.heap d v)(h:yg d=aa z):ay W.M q.A (nT v) (Si W q s ag z) (λx x=>False) ao:=by
 refine D.casesOn d (λx=>aN) (λx x=>aN) (λx x=>aN) (λx x=>aN) (λy r h=>?_) (λc r h=>?_) (λc r h=>?_) (λx x x=>aN) (λx x=>aN) r h
 ·exact aM h▸Vw.bE (.inl r) λb t x=>KBw.pyIter_bytes ⟨_,rfl,vZ a _,aeo P.h.fs.hd P.bp a⟩
 ·exact aM h▸iF r λe r=>r.elim λai r=>r.1▸PG r.2.2.1.isList ⟨_,rfl,vZ a _,agm P.h.fs.hd P.bp a r.2.2.1 r.2.1 r.2.2.2⟩
 ·exact aM h▸iF r λe r=>r.elim λai r=>r.1▸wpAny_pyIter_tuple r.2.2.1.isTup ⟨_,rfl,vZ a _,aen P.h.fs.hd P.bp a r.2.2.1 r.2.1 r.2.2.2⟩
theorem an2(hx:SX W n F σ e x):SI W n F σ ag e (.dG yg x):=λq E s a P=>J.bind (λy y k=>k) (hx q E s a P) λd v b r=>J.op λz h=>ajl P r.n r.r h
theorem KG(K:aT W)(B:ii W){T:String}(i:σ.ci nm=af)(g:(nm,Ta T)∈sO)(hx:SX W n F σ a x)(hs:NS a)
  (ok:∀{q E s ao d v z},Pl W n q E s->Nx W s ao->bq q.X ao.heap d v->f d=aa z->ay W.M q.A (call (.type T) [v]) (λw c=>ay W.M q.A (nT w) (Si W q s tp z) (λy y=>False) c) (λy y=>False) ao):SI W n F σ tp (.Call (.Name nm p) [a] [] p') (.dG f x):=λq E s b P=>
 J.bind (λQ E k=>lg (pi K B P.h (ae b i) g (tH (by rw[hs];rfl) (eK (ba k (λv e k=>hK k) λy y=>id) (hs [] q.env))))) (hx q E s b P) λd v e r=>J.op λz h=>ok P r.n r.r h
theorem alX(K:aT W)(B:ii W)(c:σ.ci "reversed"=af)(hx:SX W n F σ a x)(hs:NS a):SI W n F σ ag (.Call (.Name "reversed" p) [a] [] p') (.dG WC x):=KG K B (T:="reversed") c (by decide+kernel) hx hs λ{q E s ao d v z} P b r h=>q7 h (λe h r=>aM h▸iF r λf r=>r.elim λai r=>ae r.1 (call_reversed_list r.2.2.1.isList (wpAny_pyIter_revIter ⟨_,gk _ rfl,rfl,rfl⟩ ⟨_,rfl,vZ b _,ajh P.h.fs.hd P.bp b r.2.2.1 r.2.1 r.2.2.2⟩))) r
theorem ajm(K:aT W)(B:ii W)(f:σ.ci "enumerate"=af)(hx:SX W n F σ a x)(hs:NS a):SI W n F σ af (.Call (.Name "enumerate" p) [a] [] p') (.dG UX x):=KG K B (T:="enumerate") f (by decide+kernel) hx hs λ{q E s ao d v z} P b r h=>q7 h (λg h r=>aM h▸iF r λk r=>r.elim λai r=>ae r.1 (call_enumerate_list r.2.2.1.isList λj e h2 y c=>wpAny_pyIter_enum e ⟨_,rfl,b.trans (Gr.nx (.heap _ _ _ c) b.i),agn P.h.fs.hd P.bp b r.2.2.1 r.2.1 r.2.2.2 e h2 c⟩)) r
theorem QD(P:Pl W n q E s){lo:Int}(c:Nx W s ao)(hc:lo.natAbs<1099511627776/\hi.natAbs<1099511627776/\(hi-lo).toNat<=aI):ay W.M q.A (nT (.ref ao.heap.objs.size)) (Si W q s ag (.list (nN lo hi))) (λx x=>False) {ao with heap:=ao.heap.push {cls:=.type "range",data:=.fields #[.int lo tl,.int hi th,.int 1 ts]},toks:=k}:=
 have a:=c.trans (Gr.nx (.heap _ _ _ λb o e=>dA _ e) c.i)
 wpAny_pyIter_range (aiy _ _ _ _ _ _ _) (small_one (by omega) (by omega) (by omega) (by omega)) ⟨_,rfl,vZ a _,aep P.h.fs.hd P.bp a⟩
theorem ago(K:aT W)(B:ii W)(C:σ.ci "range"=af)(hx:SX W n F σ a x)(hs:NS a)(t:SX W n F σ b y)(l:NS b):SI W n F σ ag (.Call (.Name "range" p) [a,b] [] c) (.fk qT x y):=λq E s g P=>
 J.bind (λQ E k=>lg (pi K B P.h (ae g C) (by decide+kernel) (tH (by rw[hs,l];rfl) (eK (ba k (λv i k=>eK (ba k (λu f k=>hK k) λz z=>id) (l [] q.env)) λz z=>id) (hs [b] q.env)))))
  (hx q E s g P) λd v i r=>J.bind (w2:=λu Q E f=>ay W.M q.A (call (.type "range") [v,u]) (λw m=>ay W.M q.A (nT w) Q E m) E f) (λz z k=>k) (t q E i g (P.nx r.n)) λd' u f j=>J.op λz o=>jW o (λlo e p=>jW e (λG e c=>p.elim λtl p=>c.elim λD c=>p▸c▸fN e λhc=>ao0 (QD P (r.n.trans j.n) hc)) j.r) r.r
theorem aeq(K:aT W)(B:ii W)(g:σ.ci "range"=af)(hx:SX W n F σ a x)(hs:NS a):SI W n F σ ag (.Call (.Name "range" p) [a] [] b) (.dG (qT (.int 0)) x):=KG K B (T:="range") g (by decide+kernel) hx hs λ{q E s ao d v z} P f r h=>jW (show wI d (λc=>gd ((0:Int).natAbs<1099511627776/\c.natAbs<1099511627776/\(c-0).toNat<=aI) (aa (.list (nN 0 c))))=aa z from h) (λc e b=>b.elim λi b=>b▸fN e λhc=>call_range_1 (QD P f hc)) r
end
structure Rz where
 nm:aB
 q:aB
 N:aJ
 bs:List aA
 hd:Bool
 sn:List aB
 sub:List aA
 ab:Bool
 col:Option Bool
 dd:Option aJ
 k0:Option aA
 k1:Option aA
 k2:Option aA
 k3:Option aA
 k5:Option aA
 mN:aB->Option aA
noncomputable def Rz.o(z:Rz):Obj:=aqg z.nm z.q 107 z.N z.bs [.type "Exception",.type "BaseException",.type "object"] z.hd z.sn z.sub z.ab z.col z.dd z.k0 z.k1 z.k2 z.k3 z.k5 "Exception.__new__"
def Rz.at(z:Rz)(h:bF):Prop:=h.get? 107=aa z.o/\h.Ns z.N z.mN
def Ao(W:Wd):Prop:=W.gm "MalformedPattern"=aa (.ref 107)/\∃z:Rz,z.at W.H0/\z.mN "__init__"=ak
theorem Rz.kp{z:Rz}(x:z.at h)(k:Kp h h'):z.at h':=⟨k.get x.1 id (.inr (eX rfl)) (.inr (eX rfl)),lZ x.2 k id⟩
section
theorem agp(K:aT W)(R:Ao W)(u:σ.ci "MalformedPattern"=af)(hx:SX W n F σ e x)(hs:NS e):SS W n F σ (.Raise (aa (.Call (.Name "MalformedPattern" p) [e] [] p')) ak iM) (.WI x):=λq E s m P=>R.2.elim λz l=>by
 refine J.bind (w2:=λv Q E c=>z.at c.heap/\∀g e,Heap.MadeExcOf c.heap g e (.ref 107) [v]->E (.ref e) {c with heap:=g}) (λQ E k=>?_) (sx hx m P) λd v c r=>(⟨Rz.kp l.1 r.n.i.kp,λg ex j=>?_⟩)
 ·have hp:(kv p' (jf [e] q.env)).any (·.1)=ag:=by rw[hs];rfl
  refine wpAny_Raise_call_subT (nm:=z.nm) (q:=z.q) (N:=z.N) (bs:=z.bs) (bm:=[.type "Exception",.type "BaseException",.type "object"]) (hdct:=z.hd) (sn:=z.sn) (sub:=z.sub) (ab:=z.ab) (col:=z.col) (dd:=z.dd) (k0:=z.k0) (k1:=z.k1) (k2:=z.k2) (k3:=z.k3) (k5:=z.k5)
   PySem.F.excBase_Exception (eX rfl) P.h.fs.hd hp l.2 (sB K P.h.tojp (ae m u) R.1 ⟨rfl,wG hp ?_⟩)
  exact eK (ba k (λv c k=>hK ⟨rfl,(show 1<=je by decide),k.1.1,k.1.2,.base,k.2⟩) λa a=>id) (hs [] q.env)
 ·refine P.e _ _ ?_;have o:Nx W c {c with heap:=g}:=Gr.nx (.heap _ _ _ j.keeps) r.n.i;have f:=r.n.trans o;exact j.there.elim λt y=>⟨⟨ex,_,_,rfl,mE (λb hb=>r.n.k.bp hb id) j.new,y.1,rfl,rfl,.inl ⟨rfl,rfl⟩⟩,f.k.weak,f.i,λb hb=>f.k.bp hb id,(P.h.nx f).hf⟩
theorem acH(K:aT W)(R:Ao W)(L:σ.ns[i]?=aa nm)(h2:σ.fj nm=af)(hx:SX W n F σ e x)(hc:NC e)(B:σ.ci "MalformedPattern"=af):
  SS W n F σ (.Try [.Assign [.Name nm p] e p'] [.ExceptHandler (aa (.Name "MalformedPattern" iM)) ak [.Return ak p3] p4] [] [] p5) (.To i x):=λq E s f P=>by
 show J E (Tr.l _ .ret).run _ _ s;rw[Tr.KE];have z:=hx q (λe s'=>dw W q.A ag q.env.frame (λy=>False) s e s') s f ⟨P.h.tojp,λy y=>id⟩;revert z;cases(x F q.ρ).run with|no=>exactλy=>trivial|ok d=>exactλz=>alv (HD (zp (ba z (λv t r=>mG K (P.h.nx r.n).tobM (ae f L) (lq (ae f h2)) r.r λI H m=>Da (Da ⟨_,P.h.up H,(Mv.iI r.n).trans m,rfl⟩)) λy y h=>h.elim) (hc _ _ _)))|exc=>refineλz=>alv (HD (zp (ba z (λv t r=>r.elim) λex t D=>P.h.top.elim λj ht=>Jb K ht P.h.loc P.h.inv D λI C=>DD K P.h.inv C λN b=>?_) (hc _ _ _)));refine R.2.elim λw hw=>b.ob.elim λa c=>c.elim λO c=>c.elim λvs c=>?_;have M:=c.1;subst M;refine wpAny_handleBy_cons (codeAny_handlers_test (OA P.h.fs.fn (P.h.fs.glob _ (wU (f▸B)).1) (alj (ae P.h.fs.gl (b.i.glob K)) R.1 ?_) (wU (f▸B)).2)) (λh=>c4 h rfl);refine wpAny_excMatches_sub_self (Rz.kp hw.1 b.i.kp).1 c.2.g c.2.cl (eX rfl) (codeAny_handlers_suite ?_);refine DD (A:=q.A.mark (aa (.ref a))) K P.h.inv ⟨b.ob,b.k,b.i,b.bp,b.hf⟩ λG o=>HD (alk ?_);have u:Nx W s G:=⟨o.k,o.i⟩;exact⟨_,P.h.nx u,.iI u,.none,rfl,rfl⟩
end
end
section
open PySem PySem.W PySem.Calls PyProof.Rows PySem.Builtin
theorem Ny:uo "bytes" "rstrip" "bytes.rstrip":=
 .of (owner:="bytes") (n:="rstrip") (by rw[uG];refine ae uu ?_;kernel_rfl) (by decide+kernel) (by decide+kernel) (by decide+kernel)
  (by first|exact .inl (by decide+kernel)|exact .inr (by decide+kernel)) (by rw[qy];kernel_rfl)
theorem Zm:typeOf (.builtin "bytes.rstrip")=pure (.type "method_descriptor"):=by refine ae zh ?_;kernel_rfl
theorem Zf:xi jm "bytes.rstrip"=aa Builtin.«bytes.rstrip»:=zv (by kernel_rfl)
theorem Za(a b:aA):mI "bytes.rstrip" ⟨[a,b],[]⟩:=by unfold mI;refine ae (zM (n:=['p','i','r','t','s','r']) (by kernel_rfl) FB.owner_bytes) ?_;kernel_rfl
theorem NE:uo "bytes" "strip" "bytes.strip":=
 .of (owner:="bytes") (n:="strip") (by rw[uG];refine ae uu ?_;kernel_rfl) (by decide+kernel) (by decide+kernel) (by decide+kernel)
  (by first|exact .inl (by decide+kernel)|exact .inr (by decide+kernel)) (by rw[qy];kernel_rfl)
theorem Zv:typeOf (.builtin "bytes.strip")=pure (.type "method_descriptor"):=by refine ae zh ?_;kernel_rfl
theorem Zn:xi jm "bytes.strip"=aa Builtin.«bytes.strip»:=zv (by kernel_rfl)
theorem Zg(a:aA):mI "bytes.strip" ⟨[a],[]⟩:=by unfold mI;refine ae (zM (n:=['p','i','r','t','s']) (by kernel_rfl) FB.owner_bytes) ?_;kernel_rfl
theorem NM:uo "bytes" "join" "bytes.join":=
 .of (owner:="bytes") (n:="join") (by rw[uG];refine ae uu ?_;kernel_rfl) (by decide+kernel) (by decide+kernel) (by decide+kernel)
  (by first|exact .inl (by decide+kernel)|exact .inr (by decide+kernel)) (by rw[qy];kernel_rfl)
theorem ZA:typeOf (.builtin "bytes.join")=pure (.type "method_descriptor"):=by refine ae zh ?_;kernel_rfl
theorem Zw:xi jm "bytes.join"=aa Builtin.«bytes.join»:=zv (by kernel_rfl)
theorem Zo(a b:aA):mI "bytes.join" ⟨[a,b],[]⟩:=by unfold mI;refine ae (zM (n:=['n','i','o','j']) (by kernel_rfl) FB.owner_bytes) ?_;kernel_rfl
theorem Nu:uo "bytes" "replace" "bytes.replace":=
 .of (owner:="bytes") (n:="replace") (by rw[uG];refine ae uu ?_;kernel_rfl) (by decide+kernel) (by decide+kernel) (by decide+kernel)
  (by first|exact .inl (by decide+kernel)|exact .inr (by decide+kernel)) (by rw[qy];kernel_rfl)
theorem Zh:typeOf (.builtin "bytes.replace")=pure (.type "method_descriptor"):=by refine ae zh ?_;kernel_rfl
theorem Zc:xi jm "bytes.replace"=aa Builtin.«bytes.replace»:=zv (by kernel_rfl)
theorem Y8(a b c:aA):mI "bytes.replace" ⟨[a,b,c],[]⟩:=by unfold mI;refine ae (zM (n:=['e','c','a','l','p','e','r']) (by kernel_rfl) FB.owner_bytes) ?_;kernel_rfl
theorem NG:uo "bytes" "split" "bytes.split":=
 .of (owner:="bytes") (n:="split") (by rw[uG];refine ae uu ?_;kernel_rfl) (by decide+kernel) (by decide+kernel) (by decide+kernel)
  (by first|exact .inl (by decide+kernel)|exact .inr (by decide+kernel)) (by rw[qy];kernel_rfl)
theorem Zx:typeOf (.builtin "bytes.split")=pure (.type "method_descriptor"):=by refine ae zh ?_;kernel_rfl
theorem Zp:xi jm "bytes.split"=aa Builtin.«bytes.split»:=zv (by kernel_rfl)
theorem Zi(a b:aA):mI "bytes.split" ⟨[a,b],[]⟩:=by unfold mI;refine ae (zM (n:=['t','i','l','p','s']) (by kernel_rfl) FB.owner_bytes) ?_;kernel_rfl
theorem Nz:uo "bytes" "rsplit" "bytes.rsplit":=
 .of (owner:="bytes") (n:="rsplit") (by rw[uG];refine ae uu ?_;kernel_rfl) (by decide+kernel) (by decide+kernel) (by decide+kernel)
  (by first|exact .inl (by decide+kernel)|exact .inr (by decide+kernel)) (by rw[qy];kernel_rfl)
theorem Zr:typeOf (.builtin "bytes.rsplit")=pure (.type "method_descriptor"):=by refine ae zh ?_;kernel_rfl
theorem Zj:xi jm "bytes.rsplit"=aa Builtin.«bytes.rsplit»:=zv (by kernel_rfl)
theorem Zd(a b c:aA):mI "bytes.rsplit" ⟨[a,b,c],[]⟩:=by unfold mI;refine ae (zM (n:=['t','i','l','p','s','r']) (by kernel_rfl) FB.owner_bytes) ?_;kernel_rfl
section
theorem pH{T:String}{id:String}{B:Builtin}{Q:bI}(a:uo T name id)(d:s.TypeIs self T)(b:xi jm id=aa B)(args:mI id ⟨self::rest,[]⟩)
  (h:ay (bH prog w) A.in1 (B ⟨self::rest,[]⟩) (λc s'=>∃v,c=.done (.ret v)/\Q v s') E s):ay (bH prog w) A (call (.builtin id) (self::rest)) Q E s:=
 w7 (codeAny_call_builtin a.plain b (a.check _ _ _ _ _ _ _ _ d args (ba h (λc s' ⟨v,e,q⟩=>by subst e;exact q) λy y x=>x)))
theorem O5:JF (.bytes b t) (.type "tuple")=pure ag:=by have e:JF (.bytes b t) (.type "tuple")=isSubtype (.type "bytes") (.type "tuple"):=rfl;refine ae e ?_;rw[qy];kernel_rfl
theorem aqt{Q:bI}(hs:b.size<=je)(h:∀t k,Q (.bytes b t) {s with toks:=k}):ay (bH prog w) A (mkBytes b) Q E s:=by exact zN (h _ _) hs
theorem acI{l:List UInt8}:(if(l.length:Int)<(m.length:Int)then ag else l.drop (l.length-m.length)==m)=(m.map bR).isSuffixOf (l.map bR):=by
 have fS:GZ bR:=λa b h=>uD.mp h;by_cases h:m<:+l
 ·obtain⟨p,rfl⟩:=h;have d:¬(((p++m).length)<(m.length:Int)):=by refine ae aS ?_;omega
  refine ae (c9 d) ?_;have e:(p++m).length-m.length=p.length:=by refine ae aS ?_;omega
  refine ae e ?_;simp only [qx,kX];symm;rw[nh];exact⟨p.map bR,am cU rfl⟩
 ·have r:(m.map bR).isSuffixOf (l.map bR)=ag:=by
   rw[gL];intro q;rw[nh]at q;obtain⟨p,hp⟩:=q;refine h ⟨l.take p.length,?_⟩;have:=aj (anP p.length) hp;rw[qx,<-si]at this;have e:=(zg (λx x q=>fS q)).mp this;simp only [e,oJ]
  refine ae r ?_;split
  ·rfl
  ·rw[beq_eq_false_iff_ne];intro q;have c:=oJ (l.length-m.length) l;rw[q]at c;exact h ⟨_,c⟩
theorem acJ{l:List UInt8}:(if(l.length:Int)<(m.length:Int)then ag else l.take m.length==m)=(m.map bR).isPrefixOf (l.map bR):=by
 have fS:GZ bR:=λa b h=>uD.mp h;by_cases h:m<+:l
 ·obtain⟨p,rfl⟩:=h;have d:¬(((m++p).length)<(m.length:Int)):=by refine ae aS ?_;omega
  refine ae (c9 d) ?_;rw[HF,kX];symm;rw[GK];exact⟨p.map bR,am cU rfl⟩
 ·have r:(m.map bR).isPrefixOf (l.map bR)=ag:=by
   simp only [gL];intro q;rw[GK]at q;obtain⟨p,hp⟩:=q;have:=aj (anO m.length) hp;rw[List.take_left' (by simp),<-oW]at this;have e:=(zg (λx x q=>fS q)).mp this;have c:=oJ m.length l;rw[<-e]at c;exact h ⟨_,c⟩
  refine ae r ?_;split
  ·rfl
  ·rw[beq_eq_false_iff_ne];intro q;have c:=oJ m.length l;have c:=q▸c;exact h ⟨_,c⟩
theorem RR(l:List UInt8)(c:Array UInt8):(l.toArray==c)=(l==c.toList):=by
 apply iC.mpr;rw[gP,gP];constructor
 ·intro q;exact am q rfl
 ·intro q;simp only [q,GV]
theorem agq{Q:bI}(h:Q (.bool ((c.toList.map bR).isSuffixOf (b.toList.map bR))) s):
  ay (bH prog w) A (call (.builtin "bytes.endswith") [.bytes b t,.bytes c u]) Q E s:=by
 refine pH FB.slot_bytes_endswith (fH _ _ _) FB.entry_bytes_endswith (FB.args_bytes_endswith_2 _ _) ?_;show ay _ _ (JF (.bytes c u) (.type "tuple")>>=λr=>_) _ _ s;refine aE (fq O5 ?_);show ay _ _ (aiA _ (.bytes c u)>>=λr=>_) _ _ s;refine aE (fq zF ?_);show ay _ _ (ret (.bool (if((min (b.size:Int) b.size)-0<(c.size))then ag else b.extract ((min (b.size:Int) b.size).toNat-c.size) (min (b.size:Int) b.size).toNat==c))) _ _ s;refine a8 ⟨_,rfl,?_⟩;have e:(if((min (b.size:Int) b.size)-0<(c.size))then ag else b.extract ((min (b.size:Int) b.size).toNat-c.size) (min (b.size:Int) b.size).toNat==c)=(c.toList.map bR).isSuffixOf (b.toList.map bR):=by
  refine am acI ?_;simp only [als,Rw,Int.toNat_natCast,jG];split
  ·rfl
  ·have:b.extract (b.size-c.size) b.size=(b.toList.drop (b.size-c.size)).toArray:=by
    apply DV;exact ae N7 (ae Z0 (wu (by simp)))
   exact ae this (RR _ _)
 exact ae e h
theorem acK{Q:bI}(h:Q (.bool ((c.toList.map bR).isPrefixOf (b.toList.map bR))) s):
  ay (bH prog w) A (call (.builtin "bytes.startswith") [.bytes b t,.bytes c u]) Q E s:=by
 refine pH FB.slot_bytes_startswith (fH _ _ _) FB.entry_bytes_startswith (FB.args_bytes_startswith_2 _ _) ?_;show ay _ _ (JF (.bytes c u) (.type "tuple")>>=λr=>_) _ _ s;refine aE (fq O5 ?_);show ay _ _ (aiA _ (.bytes c u)>>=λr=>_) _ _ s;refine aE (fq zF ?_);show ay _ _ (ret (.bool (if((min (b.size:Int) b.size)-0<(c.size))then ag else b.extract (0:Int).toNat ((0:Int).toNat+c.size)==c))) _ _ s;refine a8 ⟨_,rfl,?_⟩;have e:(if((min (b.size:Int) b.size)-0<(c.size))then ag else b.extract (0:Int).toNat ((0:Int).toNat+c.size)==c)=(c.toList.map bR).isPrefixOf (b.toList.map bR):=by
  refine am acJ ?_;simp only [als,Rw,jG];split
  ·rfl
  ·have:b.extract (0:Int).toNat ((0:Int).toNat+c.size)=(b.toList.take c.size).toArray:=by
    apply DV;simp[N7]
   exact ae this (RR _ _)
 exact ae e h
set_option tactic.hygienic true in
theorem PS{id:String}{Q:bI}(hs:b.size<=je)(d:l.length<=b.size)(e:l.length=b.size->l=b.toList)(h:∀t k,Q (.bytes l.toArray t) {s with toks:=k}):
  ay (bH prog w) A (if(l.length==b.size)=af then(do GH id;ret (<-Cp .bytes (.bytes b t)))else(do ret (<-Ht .bytes l.toArray))) (λf s'=>∃v,f=.done (.ret v)/\Q v s') E s:=by
 split
 ·rename_i c;refine aE (pe (aE (fq (show Cp .bytes (.bytes b t)=pure (.bytes b t)from by kernel_rfl) (a8 ⟨_,rfl,?_⟩))));have a:=h t s.toks;simp only [(e (by simpa using c)),GV]at a;exact a
 ·exact aE (zN (a8 ⟨_,rfl,h _ _⟩) (by simpa using aw d hs))
set_option tactic.hygienic true in
theorem Ih{α:Type}{p:α->Bool}:∀{l:List α},(l.dropWhile p).length=l.length->l.dropWhile p=l
 |[],_=>rfl
 |x::l,h=>by
  rw[zd]at h⊢;split
  ·rename_i hp;rw[cD hp]at h;have:=(ut p (l:=l)).length_le;simp only [eY]at h;omega
  ·rfl
theorem E5{p:UInt8->Bool}{q:Nat->Bool}(h:∀c,p c=q c.toNat):∀{l:List UInt8},(l.dropWhile p).map bR=(l.map bR).dropWhile q
 |[]=>rfl
 |x::l=>by
  rw[zd,dB,zd,h];split
  ·exact E5 h
  ·rfl
theorem acL{Q:bI}(hs:b.size<=je)(h:∀d t k,d.toList.map bR=fw (c.toList.map bR) (b.toList.map bR)->d.size<=b.size->Q (.bytes d t) {s with toks:=k}):
  ay (bH prog w) A (call (.builtin "bytes.rstrip") [.bytes b t,.bytes c u]) Q E s:=by
 refine pH Ny (fH _ _ _) Zf (Za _ _) ?_;have a:((b.toList.reverse.dropWhile c.contains).reverse).length<=b.size:=by have:=(ut c.contains (l:=b.toList.reverse)).length_le;simpa using this
 show ay _ _ (CI _ (.bytes c u)>>=λr=>_) _ _ s;refine aE (fq wT ?_);refine PS (l:=(b.toList.reverse.dropWhile c.contains).reverse) hs a (λq=>?_) λt k=>h _ _ _ ?_ (by simpa using a)
 ·rw[Ih (by simpa using q),uw]
 ·refine ae zn ?_;rw[E5,zn]
  ·rfl
  ·intro x;refine am NQ ?_;apply iC.mpr;rw[ed,ed,ey];exact⟨λq=>⟨x,q,rfl⟩,λ⟨y,f,e⟩=>am (uD.mp e) f⟩
theorem acM{b:Array UInt8}{t:kR}{Q:bI}(hs:b.size<=je)(h:∀d t k,d.toList.map bR=uY (b.toList.map bR)->d.size<=b.size->Q (.bytes d t) {s with toks:=k}):
  ay (bH prog w) A (call (.builtin "bytes.strip") [.bytes b t]) Q E s:=by
 refine pH NE (fH _ _ _) Zn (Zg _) ?_;have a:=(ut uK (l:=b.toList)).length_le;have h2:=(ut uK (l:=(b.toList.dropWhile uK).reverse)).length_le;simp only [kg,jG]at a h2;refine PS (l:=((b.toList.dropWhile uK).reverse.dropWhile uK).reverse) hs (by refine ae kg ?_;omega) (λq=>?_) λt k=>h _ _ _ ?_ (by refine ae r9 (ae kg ?_);omega)
 ·rw[kg]at q;have e:b.toList.dropWhile uK=b.toList:=Ih (by simp only [jG]at a⊢;omega);rw[e]at q⊢;rw[Ih (by simpa using q),uw]
 ·have hw:∀c:UInt8,uK c=nZ c.toNat:=λc=>by
   unfold uK nZ;have a:(c==32)=(c.toNat==32):=by apply iC.mpr;rw[gP,gP];exact⟨λq=>by refine ae q ?_;rfl,λq=>uD.mp q⟩
   simp only [a];rfl
  refine ae zn (ae (E5 hw) (ae zn (ae (E5 hw) ?_)));rfl
end
noncomputable def jr(p:Nat->Bool)(k n:Nat):Nat->Nat->List Nat:=xq (λx x=>[]) (λx a i last=>cond (decide (i>=last)&&p i) (i::a (i+1) (i+k)) (a (i+1) last)) n
theorem QE:∀{i last:Nat},(jr p k n i last).length<=n:=by
 induction n with
 |zero=>exact bO _
 |succ n ih=>intro i last;show(cond (decide (i>=last)&&p i) (i::jr p k n (i+1) (i+k)) (jr p k n (i+1) last)).length<=n+1;cases(decide (i>=last)&&p i)with|true=>exact c8 ih|false=>exact iB ih
theorem aer:∀{i last:Nat} {acc:List Nat},((k7 i n).foldl (λ(acc:List Nat×Nat) (i:Nat)=>if i>=acc.2&&p i then(i::acc.1,i+k)else acc) (acc,last)).1=(jr p k n i last).reverse++acc:=by
 induction n with
 |zero=>exact rfl
 |succ n ih=>intro i last acc;refine ae Hq (ae CU ?_);show _=(cond (decide (i>=last)&&p i) (i::jr p k n (i+1) (i+k)) (jr p k n (i+1) last)).reverse++acc;dsimp only;cases(decide (i>=last)&&p i)with|true=>exact ih.trans (by simp only [cond_true,qq,bg];rfl)|false=>exact ih
theorem JO(b sub:Array UInt8):oP b sub 0 b.size=jr (λi=>b.extract i (i+sub.size)==sub) sub.size (b.size+1-sub.size) 0 0:=by unfold oP;simp only [qI,dD,alf];simp only [List.range_eq_range',aer,bu,uw]
theorem aes:∀{i last:Nat},(∀j,i+n<=j->j<i+n+m->p j=ag)->jr p k (n+m) i last=jr p k n i last:=by
 induction n with
 |zero=>induction m with|zero=>exactλx=>rfl|succ m ih=>intro i last h;rw[dD];show cond (decide (i>=last)&&p i) _ (jr p k m (i+1) last)=[];simp only [h i (bO _) (zb (iD m)),wH];have z:=ih (last:=last) λj a h2=>h j (zj a) (by simp only [qI]at h2⊢;exact mx i m▸h2);rw[dD]at z;exact z
 |succ n ih=>intro i last h;have b:=λj a h2=>h j (mx i n▸a) (mx i n▸h2);rw[Nat.succ_add];show cond (decide (i>=last)&&p i) (i::jr p k (n+m) (i+1) (i+k)) (jr p k (n+m) (i+1) last)=cond (decide (i>=last)&&p i) (i::jr p k n (i+1) (i+k)) (jr p k n (i+1) last);exact(ih b)▸(ih b)▸rfl
noncomputable def bz(b:Array UInt8):Y:=b.toList.map bR
theorem gp(b:Array UInt8):(bz b).length=b.size:=aW ..
theorem IF(h:bz a=bz b):a=b:=DV ((zg λx x q=>uD.mp q).mp h)
theorem zw(b:Array UInt8)(i j:Nat):bz (b.extract i j)=((bz b).take j).drop i:=by unfold bz;simp only [N7,Z0,oW,si,HE]
noncomputable def Bv(b:Array UInt8)(w:Nat)(ps:List Nat):Nat->List (Array UInt8):=cX (λlast=>[b.extract last b.size]) (λp x a last=>b.extract last p::a (p+w)) ps
noncomputable def Mm(l:Y)(w:Nat)(ps:List Nat):Nat->List Y:=cX (λlast=>[l.drop last]) (λp x a last=>(l.take p).drop last::a (p+w)) ps
theorem zH(b:Array UInt8)(w:Nat)(ps:List Nat):qB b w ps=Bv b w ps 0:=by
 have c:∀(ps:List Nat) (last:Nat) (a:Array (Array UInt8)),
   (((ps.foldl (λ(x:Array (Array UInt8)×Nat) p=>(x.1.push (b.extract x.2 p),p+w)) (a,last)).1).push (b.extract (ps.foldl (λ(x:Array (Array UInt8)×Nat) p=>(x.1.push (b.extract x.2 p),p+w)) (a,last)).2 b.size)).toList=a.toList++Bv b w ps last:=by
  intro ps
  induction ps with|nil=>exactλlast a=>Ha ..|cons p ps ih=>exactλlast a=>(ih _ _).trans (by simp only [Ha,bg];rfl)
 have:=c ps 0 #[];simpa [qB]using this
theorem IG:∀{last:Nat},(Bv b w ps last).map bz=Mm (bz b) w ps last:=by induction ps with|nil=>exactλ{last}=>aj (λz=>[z]) ((zw ..).trans (am (gp b) (ae kU rfl)))|cons p ps ih=>exactλ{last}=>congr (aj _ (zw ..)) ih
theorem Ii(c:Array UInt8)(d:List (Array UInt8)):bz (wN c d)=cP (bz c) (d.map bz):=by
 have app:∀a b:Array UInt8,bz (a++b)=bz a++bz b:=λa b=>by unfold bz;exact ae Ce (ae cU rfl)
 have e:∀(ps:List (Array UInt8)) (k:Nat) (out:Array UInt8),bz ((ps.zipIdx (k+1)).foldl (λout (x)=>(if x.2>0 then out++c else out)++x.1) out)=bz out++(ps.map λp=>bz c++bz p).flatten:=by
  intro ps
  induction ps with|nil=>exactλk out=>(bu _).symm|cons p ps ih=>intro k out;refine ae List.zipIdx_cons ?_;rw[CU,ih];dsimp only;simp only [cD (iD k),app,app,dB,adZ,bg,bg,bg]
 have f:∀(ps:List (Array UInt8)) (x:Y),cP (bz c) (x::ps.map bz)=x++(ps.map λp=>bz c++bz p).flatten:=by
  intro ps
  induction ps with|nil=>exactλx=>(bu x).symm|cons p ps ih=>exactλx=>(aj (x++bz c++·) (ih (bz p))).trans (by simp only [dB,adZ,bg,bg])
 cases d with|nil=>rfl|cons p ps=>unfold wN;refine ae (show(p::ps).zipIdx=(p,0)::ps.zipIdx 1 from rfl) ?_;rw[CU,dB,f];exact(e ps 0 _).trans (by dsimp only;rw[app];rfl)
noncomputable def lj(a:Y)(l:List Y):List Y:=cZ l [a] λp ps=>(a++p)::ps
def jt(w l:Y):Nat->List Y:=cX (λy=>[[]]) (λx r a s=>anF s (cond (w.isPrefixOf (x::r)) ([]::a (w.length-1)) (lj [x] (a 0))) a) l
theorem aaD:lj p l≠[]:=by cases l<;>exact b5
theorem w9:∀{k:Nat},jt w l k≠[]:=by
 induction l with
 |nil=>exact b5
 |cons x r ih=>
  intro k;cases k with
  |succ k=>exact ih
  |zero=>show cond (w.isPrefixOf (x::r)) ([]::jt w r (w.length-1)) (lj [x] (jt w r 0))≠[];cases w.isPrefixOf (x::r)with|true=>exact b5|false=>exact aaD
theorem Op(h:l≠[]):lj [] l=l:=by cases l with|nil=>exact aC rfl h|cons=>rfl
theorem aaa:lj (p++q) l=lj p (lj q l):=by cases l with|nil=>rfl|cons x r=>exact aj (·::r) (bg ..)
theorem NV{l:Y}(a:last<=i)(hi:i<l.length):(l.take (i+1)).drop last=(l.take i).drop last++[l[i]]:=by exact ae (GI hi) (ae (List.drop_append_of_le_length (by simp only [afL,nw (dk hi)];exact a)) rfl)
theorem Cm{l:Y}(h:i<=j):(l.take i).drop j=[]:=Cd.mpr (aw (wA ..) h)
theorem an4(hp:∀i,i<l.length->p i=w.isPrefixOf (l.drop i))(hw:0<w.length):∀{i last:Nat},i+n=l.length->Mm l w.length (jr p w.length n i last) last=lj ((l.take i).drop last) (jt w (l.drop i) (last-i)):=by
 induction n with
 |zero=>intro i last h;exact ae (show i=l.length from h) (ae zo (ae kU (aj (λz=>[z]) (bu _).symm)))
 |succ n ih=>
  intro i last h;have b:=(mx i n).trans h;have d:=jb (lO i) (b▸cB ..);have e:=hp i d;rw[GL d]at e⊢;show Mm l w.length (cond (decide (i>=last)&&p i) (i::jr p w.length n (i+1) (i+w.length)) (jr p w.length n (i+1) last)) last=_;by_cases a:last<=i
  ·refine ae (gN a) ?_;rw[aiF,ach a];show _=lj _ (cond (w.isPrefixOf (l[i]::l.drop (i+1))) ([]::jt w (l.drop (i+1)) (w.length-1)) (lj [l[i]] (jt w (l.drop (i+1)) 0)));refine ae e ?_;cases w.isPrefixOf (l[i]::l.drop (i+1))with|true=>have z:=ih (i:=i+1) (last:=i+w.length) b;rw[Cm (eJ hw i),Op w9,Nat.add_sub_add_left]at z;exact(aj ((l.take i).drop last::·) z).trans (aj (·::_) (bu _).symm)|false=>have z:=ih (last:=last) b;simp only [ach (iB a),NV a d,aaa]at z;exact z
  ·have c:=nD.mp a;simp only [lQ a,Bool.false_and,Cm (dk c),show last-i=(last-(i+1))+1 from(Nat.succ_pred_eq_of_pos (Nat.sub_pos_of_lt c)).symm];have z:=ih (last:=last) b;rw[Cm c]at z;exact z
theorem acN:jt [c] l 0=fe c l:=by
 induction l with
 |nil=>rfl
 |cons x r ih=>
  show cond ([c].isPrefixOf (x::r)) ([]::jt [c] r 0) (lj [x] (jt [c] r 0))=_;refine ae ih ?_;show _=ite _ _ _;by_cases h:x=c
  ·rw[cD h,h,show([c]).isPrefixOf (c::r)=af from aj (·&&af) (kX c),cond_true]
  ·refine ae (c9 h) (ae (show([c]).isPrefixOf (x::r)=ag from aj (·&&af) (fX (jS h))) ?_);cases hs:fe c r<;>rfl
theorem Jc(h:l≠[]):cP s (x::l)=x++s++cP s l:=by cases l with|nil=>exact aC rfl h|cons=>rfl
theorem PT(h:l≠[]):cP s (lj [x] l)=x::cP s l:=by cases l with|nil=>exact aC rfl h|cons y r=>cases r<;>rfl
theorem PU:cP [32] (jt [92,32] l 0)=jQ l/\∀x,cP [32] (jt [92,32] (x::l) 0)=jQ (x::l):=by
 induction l with
 |nil=>exact⟨rfl,λx=>by show cP [32] (cond (([92,32]:Y).isPrefixOf [x]) _ _)=cond (([92,32]:Y).isPrefixOf [x]) _ _;cases h:([92,32]:Y).isPrefixOf [x]with|true=>exact bb (((eg _ _).mp h).2)|false=>rfl⟩
 |cons y r ih=>
  refine⟨ih.2 y,λx=>?_⟩;show cP [32] (cond (([92,32]:Y).isPrefixOf (x::y::r)) _ (lj [x] (jt [92,32] (y::r) 0)))=cond (([92,32]:Y).isPrefixOf (x::y::r)) (jQ (y::r)) (x::jQ (y::r));cases h:([92,32]:Y).isPrefixOf (x::y::r)with
  |true=>cases(gP.mp ((eg _ _).mp ((eg _ _).mp h).2).1:32=y);show cP [32] ([]::jt [92,32] r 0)=32::jQ r;rw[<-ih.1];exact Jc w9
  |false=>exact am (ih.2 y) (PT w9)
noncomputable abbrev KH(p:Nat->Bool)(acc:List Nat×Nat)(i:Nat):List Nat×Nat:=if acc.1.length<1&&i+1<=acc.2&&p i then(i::acc.1,i)else acc
theorem O6{p:Nat->Bool}{j:Nat}:∀{r:List Nat},r.foldl (KH p) ([j],j)=([j],j)|[]=>rfl|_::r=>O6 (r:=r)
theorem O8{p:Nat->Bool}{N:Nat}:∀{r:List Nat},(∀i∈r,i<N)->(r.foldl (KH p) ([],N)).1=(r.find? p).elim [] λj=>[j]
 |[],_=>rfl
 |i::r,h=>by rw[CU,se,show KH p ([],N) i=if p i=af then([i],i)else([],N)from by show(if(decide ((0:Nat)<1)&&decide (i+1<=N)&&p i)=af then([i],i)else([],N))=_;rw[gN (show i+1<=N from h i (.head _))];rfl];cases p i with|true=>exact aj xh O6|false=>exact O8 λj a=>h j (.tail _ a)
theorem abl{l:Y}(hp:∀(i:Nat) (h:i<l.length),p i=(l[i]==c)):n<=l.length->((fc n).reverse.find? p=ak/\c∉l.take n)\/∃j,∃h:j<l.length,(fc n).reverse.find? p=aa j/\j<n/\l[j]=c/\c∉(l.take n).drop (j+1):=by
 induction n with
 |zero=>exactλx=>.inl ⟨rfl,cf⟩
 |succ n ih=>
  intro b;refine ae Py (ae G1 (ae List.reverse_singleton (ae NZ (ae (se) (ae (hp n b) ?_)))));by_cases h:l[n]=c
  ·refine ae h ?_;rw[kX];exact .inr ⟨n,b,rfl,lO n,h,ae (Cm (bO _)) cf⟩
  ·refine ae (fX h) ?_;have no:∀{a:Y},c∉a->c∉a++[l[n]]:=λe q=>(kW.mp q).elim e λq=>h (bB.mp q).symm;exact(ih (zj b)).imp (λz=>⟨z.1,ae (GI b) (no z.2)⟩) λz=>z.elim λj z=>z.elim λd z=>⟨j,d,z.1,OS z.2.1,z.2.2.1,ae (NV z.2.1 b) (no z.2.2.2)⟩
theorem IH{α:Type}{p:α->Bool}{r l:List α}(h:∀x∈l,p x=af):(l++r).dropWhile p=r.dropWhile p/\(l++r).takeWhile p=l++r.takeWhile p:=by induction l with|nil=>exact⟨rfl,rfl⟩|cons x l ih=>have i:=ih λy a=>h y (.tail _ a);rw[sd,zd,Of,cD (h x (.head _)),cD (h x (.head _))];exact⟨i.1,aj (x::·) i.2⟩
theorem abm{B:Y}(hB:c∉B):ph c (A++c::B)=[A,B]:=by have z:=IH (r:=c::A.reverse) (p:=(· !=c)) λx hx=>bne_iff_ne.mpr λe=>hB (kV.mp (am e hx));unfold ph;rw[cD (ed.mpr (fF _ (.head _))),G1,qq,bg,NZ,z.1,z.2,zd,Of,bne_self_eq_false,c9 (eX rfl),c9 (eX rfl),List.drop_one,List.tail_cons,uw,bu,uw]
theorem abn(h:c∉l):ph c l=[l]:=c9 λq=>h (ed.mp q)
def mJ(vs:List aA)(a:List Y):Prop:=cX (motive:=λx=>List aA->Prop) (λvs=>vs=[]) (λl x c vs=>∃b t r,vs=.bytes b t::r/\bz b=l/\c r) a vs
theorem mJ.len:∀{vs:List aA},mJ vs ls->vs.length=ls.length:=by induction ls with|nil=>exactλh=>ae (h) rfl|cons l ls ih=>exactλh=>h.elim λb h=>h.elim λt h=>h.elim λr h=>ae h.1 (aj (·+1) (ih h.2.2))
theorem mJ.rep{X:aJ->Prop}:∀{vs:List aA},mJ vs ls->(∀l∈ls,l.length<=aI)->a9 X h (ls.map .bytes) vs:=by induction ls with|nil=>exactλx y=>x|cons l ls ih=>exactλx a=>x.elim λb x=>x.elim λt x=>x.elim λr x=>ae x.1 (.cons (am x.2.1 (qU t (am (gp b) (x.2.1.symm▸a l (.head _))))) (ih x.2.2 λl h=>a l (.tail _ h)))
section
theorem agr:∀(a:List (Array UInt8)) {s:aL} {Q:List aA->aL->Prop},(∀b∈a,b.size<=je)->(∀vs k,mJ vs (a.map bz)->Q vs {s with toks:=k})->ay M A (a.mapM (Ht .bytes)) Q E s:=by
 intro a
 induction a with|nil=>intro s Q _ h;exact ae List.mapM_nil (a8 (h [] s.toks rfl))|cons b a ih=>intro s Q hs h;exact ae List.mapM_cons (aE (zN (aE (ih (λb hb=>hs b (.tail _ hb)) λvs k c=>a8 (h _ _ ⟨b,_,_,rfl,rfl,c⟩))) (hs b (.head _))))
theorem TE(hi:i<(bz b).length):(b.extract i (i+m.size)==m)=(bz m).isPrefixOf ((bz b).drop i):=by
 apply iC.mpr;rw[gP,GK,List.prefix_iff_eq_take];refine ae (gp m) ?_;have e:bz (b.extract i (i+m.size))=((bz b).drop i).take m.size:=by simp only [zw,HE,qm]
 exact⟨λq=>(aj bz q).symm.trans e,λq=>IF (e.trans q.symm)⟩
theorem QF(b m:Array UInt8)(d:0<m.size):(qB b m.size (oP b m 0 b.size)).map bz=jt (bz m) (bz b) 0:=by
 have z:=an4 (λi f=>TE f) (ae (gp m) d) (last:=0) ((dD _).trans (gp b).symm);rw[(gp m)]at z;have c:b.size+1-m.size<=b.size:=acq (eJ d _);rw[zH,IG,JO,<-aes λj g h2=>?_];refine ae (oM c) ?_
 ·exact z.trans (Op w9)
 ·refine fX λe=>?_;have e:=(aj alt e).symm.trans (acr ..);have a:=Nat.sub_le_iff_le_add.mp (am (dD (b.size+1-m.size)) g);simp only [dD,oM c]at h2;rw[CA (dk a)]at e;simp only [e,oM (dk h2)]at a;exact jI _ a
theorem abo(b:Array UInt8)(x:UInt8):(qB b 1 (oP b #[x] 0 b.size)).map bz=fe x.toNat (bz b):=(QF b #[x] S5).trans acN
theorem O9:Cp .bytes (.bytes b t)=pure (.bytes b t):=by kernel_rfl
theorem aet:∀{last:Nat},∀d∈Bv b w ps last,d.size<=b.size:=by
 have ex:∀{i j},(b.extract i j).size<=b.size:=λ{i j}=>am ((acr ..).symm) (aw (D8 ..) (afU ..))
 induction ps with|nil=>exactλ{last} d h=>am ((bB.mp h).symm) ex|cons p ps ih=>exactλ{last} d h=>(ch.mp h).elim (λe=>ae e ex) (ih d)
theorem ags:∀{last:Nat},(Bv b w ps last).length=ps.length+1:=by induction ps with|nil=>exact rfl|cons p ps ih=>exact aj (·+1) ih
theorem TF{id:String}{Q:bI}(hs:b.size<=aI)(e:(qB b 1 ps).map bz=L)(c:ps.length<=aI)(h:∀vs k,mJ vs L->Q (.ref s.heap.objs.size) {s with heap:=s.heap.push {cls:=.type "list",data:=.seq vs.toArray},toks:=k}):
  ay (bH prog w) A (if ps.isEmpty=af then(do GH id;ret (<-LZ [<-Cp .bytes (.bytes b t)]))else(do ret (<-LZ (<-(qB b 1 ps).mapM (Ht .bytes))))) (λf s'=>∃v,f=.done (.ret v)/\Q v s') E s:=by
 subst e;rw[zH]at h⊢;cases ps with|nil=>exact ae (cD (rfl)) (aE (pe (aE (fq O9 (aE (Th (a8 ⟨_,rfl,h [.bytes b t] s.toks ⟨b,t,[],rfl,by rw[zw,<-gp b];refine ae kU ?_;rfl,rfl⟩⟩) (show 1<=je by decide)))))))|cons p ps=>exact ae (c9 (nofun)) (aE (agr _ (λd hd=>aw (aet d hd) (gQ hs)) λvs k a=>aE (Th (a8 ⟨_,rfl,h _ _ a⟩) (by simp only [a.len,aW,ags];exact aw (c8 c) (eX rfl)))))
theorem aeu{Q:bI}(hs:b.size<=aI)(h:∀vs k,mJ vs (fe x.toNat (bz b))->Q (.ref s.heap.objs.size) {s with heap:=s.heap.push {cls:=.type "list",data:=.seq vs.toArray},toks:=k}):
  ay (bH prog w) A (call (.builtin "bytes.split") [.bytes b t,.bytes #[x] u]) Q E s:=by
 refine pH NG (fH _ _ _) Zp (Zi _ _) ?_;show ay _ _ (CI _ (.bytes #[x] u)>>=λr=>_) _ _ s;refine aE (fq wT ?_);have a:(oP b #[x] 0 b.size).length<=b.size:=by rw[JO];exact QE
 have c:=TF (t:=t) (id:="bytes.split.no-separator") (A:=A.in1) (E:=E) (prog:=prog) (w:=w) hs (abo b x) (aw a hs) h;rw[<-wu (iB a)]at c;exact c
theorem acO{Q:bI}(hs:b.size<=aI)(h:∀vs k,mJ vs (ph x.toNat (bz b))->Q (.ref s.heap.objs.size) {s with heap:=s.heap.push {cls:=.type "list",data:=.seq vs.toArray},toks:=k}):
  ay (bH prog w) A (call (.builtin "bytes.rsplit") [.bytes b t,.bytes #[x] u,.int 1 v]) Q E s:=by
 refine pH Nz (fH _ _ _) Zj (Zd _ _ _) ?_;show ay _ _ (YZ (.int 1 v)>>=λr=>_) _ _ s;refine aE (fq (a:=(1)) (by kernel_rfl) ?_);show ay _ _ (CI _ (.bytes #[x] u)>>=λr=>_) _ _ s;refine aE (fq wT ?_);have one:∀(i:Nat) (h:i<(bz b).length),(b.extract i (i+1)==#[x])=((bz b)[i]==x.toNat):=λi c=>(TE (m:=#[x]) c).trans (by refine ae (GL c) ?_;show(x.toNat==(bz b)[i]&&af)=_;simp only [Qo,Qn]);have e:=gp b;have g:ZQ b #[x] 1=_:=O8 (p:=λi=>b.extract i (i+1)==#[x]) (r:=(fc b.size).reverse) λi c=>nA.mp (kV.mp c);refine(?_:∃ps,ZQ b #[x] 1=ps/\ps.length<=1/\(qB b 1 ps).map bz=ph x.toNat (bz b)).elim λps z=>?_
 ·refine ae g ?_;refine(abl one (cJ e.symm)).elim (λz=>⟨[],by refine ae z.1 ?_;rfl,cy _,?_⟩) λz=>z.elim λj z=>z.elim λl z=>⟨[j],by refine ae z.1 ?_;rfl,bO _,?_⟩
  ·rw[<-e,kU]at z;simp only [zH,IG,abn z.2];rfl
  ·have f:=z.2.2.2;rw[<-e,kU]at f;simp only [zH,IG]
   conv=>rhs;rw[<-oJ j (bz b),GL l,z.2.2.1,abm f]
   rfl
 ·have d:=TF (t:=t) (id:="bytes.rsplit.no-separator") (A:=A.in1) (E:=E) (prog:=prog) (w:=w) hs z.2.2 (aw z.2.1 (eX rfl)) h;exact(z.1.symm▸d)
end
section
theorem agt:∀{k:Nat},(cP [32] (jt m l k)).length<=l.length:=by
 induction l with
 |nil=>exact bO _
 |cons x r ih=>
  intro k;cases k with
  |succ k=>exact iB (ih)
  |zero=>show(cP [32] (cond (m.isPrefixOf (x::r)) ([]::jt m r (m.length-1)) (lj [x] (jt m r 0)))).length<=_;cases m.isPrefixOf (x::r)with|true=>simp only [cond_true];refine ae (Jc w9) ?_;exact c8 ih|false=>simp only [cond_false];refine ae (PT w9) ?_;exact c8 ih
theorem abp{Q:bI}(hs:b.size<=aI)(h:∀d t k,bz d=jQ (bz b)->d.size<=aI->Q (.bytes d t) {s with toks:=k}):
  ay (bH prog w) A (call (.builtin "bytes.replace") [.bytes b t,.bytes #[92,32] u,.bytes #[32] v]) Q E s:=by
 have c:bz (wN #[32] (qB b 2 (oP b #[92,32] 0 b.size)))=jQ (bz b):=(Ii ..).trans ((aj (cP [32]) (QF b #[92,32] (eX rfl))).trans PU.1);refine pH Nu (fH _ _ _) Zc (Y8 _ _ _) ?_;show ay _ _ (CI _ (.bytes #[92,32] u)>>=λr=>_) _ _ s;refine aE (fq wT ?_);refine aE (fq wT ?_);show ay _ _ (CI _ (.bytes #[92,32] u)>>=λr=>_) _ _ s;refine aE (fq wT ?_);refine aE (fq wT ?_);have a:(oP b #[92,32] 0 b.size).length<=b.size:=by rw[JO];exact aw QE (acq (eJ (eX rfl) _))
 show ay (bH prog w) A.in1 (if((oP b #[92,32] 0 b.size).isEmpty||(ag&&ag))=af then(do GH "bytes.replace.nothing";ret (<-Cp .bytes (.bytes b t)))
   else if Bytes.tooLong (b.size+(oP b #[92,32] 0 b.size).length*1)=af then JA "bytes.replace:memory"else(do ret (<-Ht .bytes (wN #[32] (qB b 2 (oP b #[92,32] 0 b.size)))))) (λe s'=>∃v,e=.done (.ret v)/\Q v s') E s
 revert a c;cases oP b #[92,32] 0 b.size with
 |nil=>intro c _;rw[Ii,zH]at c;exact ae (cD (rfl)) (aE (pe (aE (fq O9 (a8 ⟨_,rfl,h b t s.toks ((by simp only [<-gp b,zw,kU];rfl:bz b=bz (b.extract 0 b.size)).trans c) hs⟩)))))
 |cons p ps=>
  intro c a;refine ae (c9 (nofun)) (ae (c9 (by rw[anG];refine ae (PE (aw (dz hs (aw a hs)) (eX rfl))) ?_;decide)) ?_);have hd:(wN #[32] (qB b 2 (p::ps))).size<=aI:=by rw[<-gp,c];refine am PU.1 ?_;exact aw agt (ae (gp b) hs)
  exact aE (zN (a8 ⟨_,rfl,h _ _ _ c hd⟩) (gQ hd))
theorem aev{σ:Type}{f:Nat->σ->dC (ForInStep σ)}(Inv:Nat->σ->Prop)(hf:∀i st (Q:ForInStep σ->aL->Prop),i<n->Inv i st->(∀a,Inv (i+1) a->Q (.yield a) s)->ay M A (f i st) Q E s):
  ∀(m:Nat) {i:Nat} {st:σ} {Q:σ->aL->Prop},i+m=n->Inv i st->(∀st,Inv n st->Q st s)->ay M A (forIn (k7 i m) st f) Q E s:=by
 intro m
 induction m with|zero=>exactλb d c=>a8 (c _ (am b d))|succ m ih=>intro i st Q b d c;refine ae Hq ?_;rw[uE];have e:=(mx i m).trans b;exact aE (hf i st _ (jb (lO i) (am e (cB ..))) d λa g=>ih e g c)
theorem HJ(n:Nat):([0:n]:aq1).size=n:=by simp[aqr]
theorem abq{id:String}:aav id (.bytes b t) 0=pure (aa (b,ak)):=by
 unfold aav Bytes.takeBuffer?;refine ae (KBy.special_eq KBy.look_buffer) (ae KBy.own_buffer (ae (show((0)==Bytes.fullReadOnly)=ag from by decide) (ae zF ?_)))
 kernel_rfl
theorem mJ.get:∀{vs:List aA} {i:Nat},mJ vs ls->i<vs.length->∃b t,vs[i]?=aa (.bytes b t)/\ls[i]?=aa (bz b):=by
 induction ls with
 |nil=>exactλh a=>nomatch ((h)▸a)
 |cons l ls ih=>exactλ{vs i} h a=>h.elim λb h=>h.elim λt h=>h.elim λr h=>by rw[h.1]at a⊢;cases i with|zero=>exact⟨b,t,rfl,aj aa h.2.1.symm⟩|succ i=>exact ih h.2.2 (zc a)
theorem PV:(cP sep (x::ls)).length=((x::ls).map iT).sum+sep.length*ls.length:=by induction ls generalizing x with|nil=>exact rfl|cons y r ih=>simp only [Jc (OV y r),aS,aS,ih,dB,aiG,eY,sr];exact(fG ..).trans ((aj (x.length+·) ((Nat.add_left_comm ..).trans (aj _ (gn ..)))).trans (fG ..).symm)
theorem abr:∀{l:List (Array UInt8)} {n:Nat},l.foldl (λa b=>a+b.size) n=n+((l.map bz).map iT).sum:=by
 intro l
 induction l with|nil=>exact rfl|cons b l ih=>exactλ{n}=>ih.trans (by simp only [dB,dB,aiG,gp,fG])
structure Tk(ls:List Y)(i:Nat)(parts:Array (Array UInt8))(taken:List (aA×Option aA)):Prop where
 p:parts.toList.map bz=ls.take i
 n:parts.size=i
 t:∀x∈taken,x.1.onHeap=ag/\x.2=ak
theorem acP:∀{Q:Unit->aL->Prop},(∀x∈taken,x.1.onHeap=ag/\x.2=ak)->Q () s->ay M A (afQ taken keep) Q E s:=by
 induction taken with
 |nil=>exactλz h=>a8 h
 |cons a r ih=>intro Q ht h;cases a with|mk x o=>refine ae (show o=ak from(ht _ (.head _)).2) ?_;exact aE (aqh (ih (λy b=>ht y (.tail _ b)) h))
theorem aew{one:aA->dC Fin}{rest:Array aA->dC Fin}{P:dC Fin->Prop}(a:∀x,arr=#[x]->P (one x))(h2:P (rest arr)):P (match(generalizing:=false) arr with|#[x]=>one x|y=>rest y):=by
 cases arr with
 |mk l=>cases l with
  |nil=>exact h2
  |cons x r=>cases r with|nil=>exact a x rfl|cons _ _=>exact h2
def Di:=λ(prog:ais) (w:alg) (s:nB) (a:Array UInt8) (t:anE) (D:IZ) (Q:sA->nB->Prop)=>(∀{A:Qp} {E:sA->nB->Prop} {ai:List sA} {b:List Y} (e:bG s.heap "list" D ai) (c:mJ ai b) (hs:(cP (bz a) b).length<=aI) (h:∀d t k,bz d=cP (bz a) b->Q (.bytes d t) {s with toks:=k}),ay (bH prog w) A (call (.builtin "bytes.join") [.bytes a t,.ref D]) Q E s:Prop)
def uP:=rI Di (aO nI (aO xQ (aO n8 (aO nI (aO nI (aO nI nI))))))
def Oq:=uP.1
def PW:=uP.2.1
def wX:=uP.2.2.1
def sj:=uP.2.2.2.1
def Ik:=uP.2.2.2.2.1
def Il:=uP.2.2.2.2.2.1
def wZ:=uP.2.2.2.2.2.2
theorem abt:Di Oq PW wX sj Ik Il wZ:=λ{A} {E} {ai} {d} f e hs h=>by
 refine f.elim λk0 g=>?_;have ju:∀{M:Bk} {A:dY} {wZ:Option (Array aA)->aL->Prop},wZ (aa ai.toArray) wX->ay M A (seqItems? (.ref Il)) wZ E wX:=λh=>RC g.1 rfl h;refine pH NM (fH _ _ _) Zw (Zo _ _) ?_;show ay _ _ (afR (.ref Il)>>=λr=>_) _ _ wX;refine aE ?_;unfold afR;refine aE (I0 f.typeIs ?_);refine ae (cD (by rfl)) ?_;refine a8 (aE (ju ?_));dsimp only;refine ae (cD (show(aa4==aa4)=af by decide)) ?_;refine aew (P:=λIk=>ay (bH Oq PW) A.in1 Ik (λB s'=>∃v,B=.done (.ret v)/\wZ v s') E wX) (λx hx=>?_) ?_
 ·have hx:=aj Array.toList hx;subst hx;refine(e.get S5).elim λb z=>z.elim λj z=>?_;refine ae (aM z.1) ?_;refine aE (I0 (fH _ _ _) ?_);refine ae (cD (by rfl)) ?_;refine aE (pe (a8 ⟨_,rfl,h b j wX.toks ?_⟩));cases d with
  |nil=>cases e.len
  |cons l r=>cases r with|nil=>exact(aM z.2).symm|cons _ _=>cases e.len
 ·have k:ai.toArray.size=d.length:=e.len;refine aE ?_;rw[No,HJ];refine aev (λi st=>Tk d i st.1 st.2) (λi st wZ w c y=>?_) _ (dD _) ⟨rfl,rfl,λx hx=>cf hx⟩ λst c=>?_
  ·cases st with
   |mk parts taken=>
    refine aE (ju ?_);refine(e.get w).elim λb z=>z.elim λj z=>?_;have hx:ai.toArray.getD i .none=.bytes b j:=by simp only [ZL,rX,z.1];rfl
    dsimp only;refine ae hx (ae (c9 (by refine ae (OD.mpr λx hx=>gL.mp (c.t x hx).1) ?_;decide)) ?_);refine aE (hO (fq abq ?_));refine aE (ju ?_);dsimp only;refine ae (c9 (by simp)) ?_;have f:=dX.mp z.2;exact a8 (y _ ⟨by simp only [Ha,cU,c.p,GI f.1,f.2];rfl,(zt ..).trans (aj (·+1) c.n),λx hx=>(kW.mp hx).elim (c.t x) λq=>am ((bB.mp q).symm) ⟨rfl,rfl⟩⟩)
  ·cases st with
   |mk parts taken=>
    have hp:=c.p;dsimp only at hp;simp only [k,kU]at hp;refine aE (fq (a:=sj) (by kernel_rfl) ?_);have u:Array.foldl (λs o=>s+o.size) (sj.size*(parts.size-1)) parts=(cP (bz sj) d).length:=by rw[<-acs,abr,hp,show parts.size=_ from c.n];refine ae k ?_;cases d with|nil=>exact Nat.mul_zero sj.size|cons x r=>refine ae PV ?_;rw[gp,gn];rfl
    refine ae u (ae (c9 (by refine ae (PE (aw hs (eX rfl))) ?_;decide)) ?_);have m:bz (wN sj parts.toList)=cP (bz sj) d:=by simp only [Ii,hp]
    refine aE (zN ?_ (gQ (am (gp (wN sj parts.toList)) (am m.symm hs))));exact aE (hO (wpAny_point (aE (acP c.t (a8 ⟨_,rfl,h _ _ _ m⟩)))))
theorem agu{prog w s a t D Q}:Di prog w s a t D Q:=@XR _ _ _ _ _ _ _ Di _ @abt prog w s a t D Q
end
section
theorem aex{σ:Type}{f:Nat->σ->dC (ForInStep σ)}(g:Nat->σ)(hf:∀i,i<n->f i (g i)=pure (.yield (g (i+1)))):∀(m:Nat) {i:Nat},i+m=n->forIn (k7 i m) (g i) f=(pure (g n):dC σ):=by
 intro m
 induction m with|zero=>exactλa=>am (a) rfl|succ m ih=>intro i a;have b:=(mx i m).trans a;refine ae Hq ?_;rw[uE,hf i (jb (lO i) (am b (cB ..))),pure_bind];exact ih b
theorem agv(hi:i<b.size)(h:b[i].toNat<128):_codecs.utf8Decoder.find af b i=.text [b[i].toNat] (i+1):=by
 have e:(b.getD i 0).toNat=b[i].toNat:=by refine ae (ZL) (ae (NA hi) ?_);rfl
 show(match Qr b i with
  |(.char c,nx)=>_codecs.Found.char c nx
  |(.bad _ stop reason,_)=>_)=_
 refine ae (show Qr b i=(.char b[i].toNat,i+1)from by unfold Qr;exact ae e (cD h)) ?_;rfl
theorem II(h:ascii l=af)(hc:c∈l):c<128:=eX (ew.mp h c hc)
theorem abu(d:ascii (bz b)=af)(hs:b.size<=aI)(id:String):_codecs.runDecoder id _codecs.utf8Decoder ak af b 0 []=pure ((bz b).toArray,b.size):=by
 unfold _codecs.runDecoder;dsimp only;rw[No,HJ];have f:((0),(#[]),({}))=(λi=>(i,((bz b).take i).toArray,({}:_codecs.Faults))) 0:=rfl;refine ae f ?_;rw[aex (λi=>(i,((bz b).take i).toArray,({}:_codecs.Faults))) (λi a=>?_) b.size (dD _),pure_bind]
 ·dsimp only;exact am (gp b) (ae kU rfl)
 ·have c:=(gp b).symm▸a;have e:(bz b)[i]=b[i].toNat:=List.getElem_map ..;refine(c9 (ft.mpr (gQ (aw (ww ..) (am ((gp b).symm) hs))))).trans ((c9 (nD.mpr a)).trans ?_);dsimp only;exact ae (agv a (am e (II d (Cy c)))) (ae (GI c) (ae e (aj (λz=>pure (uC (i+1,z,({}:_codecs.Faults)))) (Oe ..))))
theorem aey{σ:Type}{f:Nat->σ->dC (ForInStep σ)}{a g1:σ}(c:f 0 a=pure (.yield g1))(b:f 1 g1=pure (.done g1)):forIn (k7 0 (n+1)) a f=(pure g1:dC σ):=by refine ae Hq ?_;rw[uE,c,pure_bind];cases n with|zero=>rfl|succ n=>show forIn (1::k7 2 n) g1 f=_;rw[uE,b,pure_bind]
theorem abv:∀{l:Y} {acc:Array UInt8},(∀c∈l,c<128)->bz (l.foldl (λacc y=>acc++(_codecs.utf8Codec.bytesOf y).toArray) acc)=bz acc++l:=by
 intro l
 induction l with|nil=>exactλx=>(bu _).symm|cons c l ih=>intro acc h;have hc:=h c (.head _);refine ae CU (ae (ih λc hc=>h c (.tail _ hc)) (ae (show _codecs.utf8Codec.bytesOf c=[c.toUInt8]from cD hc) ?_));unfold bz;refine ae Ce ?_;rw[cU,bg,List.map_singleton,show c.toUInt8.toNat=c from(UInt8.toNat_ofNat' ..).trans (OW (bX hc (eX rfl)))];rfl
noncomputable def encOf(x:aB):Array UInt8:=x.cps.foldl (λacc y=>acc++(_codecs.utf8Codec.bytesOf y).toArray) #[]
theorem HK(a:ascii x.cps.toList=af):bz (encOf x)=x.cps.toList:=by unfold encOf;rw[<-acs];refine ae (abv λc=>II a) ?_;rfl
def Cq:=λx t=>(∀(a:ascii x.cps.toList=af) (hs:x.cps.size<=aI) (id:String),_codecs.encodeNarrow id _codecs.utf8Codec ak (.str x t) x=pure (encOf x):Prop)
def Od:=tS Cq (aO nI nI)
def uH:=Od.1
def aab:=Od.2
theorem ZU:Cq uH aab:=λb hs id=>by
 have d:∀c∈uH.cps,_codecs.utf8Codec.bad c=ag:=λc hc=>by have:=II b (Array.mem_toList_iff.mpr hc);show(decide (0xD800<=c)&&decide (c<=0xDFFF))=ag;refine ae (lQ (nD.mpr (bX this (eX rfl)))) ?_;rfl
 unfold _codecs.encodeNarrow;dsimp only;rw[No,HJ];generalize a:uH.length=n;cases n with
 |zero=>have:uH.cps=#[]:=Zz a;refine aj (pure:Array UInt8->dC (Array UInt8)) ?_;unfold encOf;refine ae this ?_;rfl
 |succ m=>
  have e:=Nat.lt_of_lt_of_eq (iD m) a.symm;refine(aj (·>>=_) (aey (g1:=(uH.cps.size,encOf uH,({}))) ?_ ?_)).trans (pure_bind ..)
  ·refine(c9 (show¬((#[]).size>je) by decide)).trans ?_;refine ae (NA e) ?_;refine(cD (by refine ae (d _ (Array.getElem_mem e)) ?_;rfl)).trans ?_;unfold encOf;dsimp only;simp only [(act ..),(Array.findIdx?_eq_none_iff.mpr d),Option.getD_none,(act ..),dD]
  ·refine(c9 (ft.mpr (gQ (gp (encOf uH)▸am ((HK b).symm) hs)))).trans ?_;exact ae (Array.getElem?_eq_none (bO _)) rfl
theorem abw{x t}:Cq x t:=yj Cq ZU
theorem acQ{Q:bI}(a:ascii (bz b)=af)(hs:b.size<=aI)(h:∀x t k,x.cps.toList=bz b->Q (.str x t) {s with toks:=k}):
  ay (bH prog w) A (call (.builtin "bytes.decode") [.bytes b t]) Q E s:=by
 cases b with
 |mk l=>cases l with|nil=>refine pH FB.slot_bytes_decode (fH _ _ _) FB.entry_bytes_decode (FB.args_bytes_decode_1 _) ?_;show ay _ _ (do GH _;retStr UU) _ _ s;exact aE (pe (aE (wpAny_mkStr (a8 ⟨_,rfl,h _ _ _ rfl⟩) (eX rfl))))|cons c cs=>exact KBd.decode (λid=>abu a hs id) (aw (cJ (gp _)) (aw hs (eX rfl))) λd k=>h _ _ _ rfl
theorem acR{Q:bI}(a:ascii x.cps.toList=af)(hs:x.cps.size<=aI)(h:∀d t k,bz d=x.cps.toList->Q (.bytes d t) {s with toks:=k}):
  ay (bH prog w) A (call (.builtin "str.encode") [.str x t]) Q E s:=by
 refine pH aiB (Ey _ _ _) F.entry_str_encode (F.args_str_encode_1 _) ?_;rw[encode_tree,encodeRoad_utf8,abw a hs];exact aE (aE (a8 (zN (a8 ⟨_,rfl,h _ _ _ (HK a)⟩) (gQ (am (gp (encOf x)) (am ((HK a).symm) hs))))))
end
theorem PX{a x y:List Nat}{r:List (List Nat)}:cP a (x::y::r)=x++a++cP a (y::r):=rfl
theorem OO{c:Nat}{p:Y}(h:c∉p):fe c p=[p]:=by induction p with|nil=>rfl|cons x p ih=>exact(c9 (show¬x=c from λe=>h (e▸Ci))).trans (ae (ih λq=>h (GW _ q)) rfl)
theorem Pb{c:Nat}{r p:Y}(h:c∉p):fe c (p++c::r)=p::fe c r:=by induction p with|nil=>exact cD rfl|cons x p ih=>exact(c9 (show¬x=c from λe=>h (e▸Ci))).trans (ae (ih λq=>h (GW _ q)) rfl)
theorem C0{c:Nat}{ps:List Y}(h:ps≠[])(k:∀p∈ps,c∉p):fe c (cP [c] ps)=ps:=by induction ps with|nil=>exact aC rfl h|cons p r ih=>cases r with|nil=>exact OO (k p Ci)|cons q r=>rw[PX,bg,NZ,Pb (k p Ci),ih (OV _ _) λx hx=>k x (GW _ hx)]
theorem zS{c:Nat}{l:Y}:∀p∈fe c l,p.length<=l.length:=by
 induction l with
 |nil=>exactλp h=>ae (bB.mp h) (bO _)
 |cons x r ih=>
  intro p;show p∈ite (x=c) _ _->_;by_cases q:x=c
  ·exact ae (cD q) λh=>(ch.mp h).elim (λe=>e▸cy _) λh=>iB (ih p h)
  ·refine ae (c9 q) ?_;cases a:fe c r with
   |nil=>exactλh=>ae (bB.mp h) (c8 (cy _))
   |cons q b=>exactλh=>(ch.mp h).elim (λe=>e▸c8 (ih q (a▸Ci))) λh=>iB (ih p (a▸GW _ h))
theorem acS{l:List Nat}:∀p∈ph c l,p.length<=l.length:=by
 intro p h;unfold ph at h;have b:=(ut (· !=c) (l:=l.reverse)).length_le;have a:=(List.takeWhile_prefix (· !=c) (l:=l.reverse)).length_le;simp only [kg]at b a;split at h
 ·simp only [ch,gM,or_false]at h;rcases h with rfl|rfl
  ·simp;omega
  ·simp;omega
 ·exact ae (bB.mp h) (bO _)
noncomputable def arc(x:aB):List Nat:=x.cps.toList
theorem IJ(c:aB):∀(ps:List aB),(Wp c ps).cps.toList=cP c.cps.toList (ps.map λp=>p.cps.toList)
 |[]=>rfl
 |[p]=>rfl
 |p::q::r=>by
  have e:Wp c (p::q::r)=p++c++Wp c (q::r):=rfl;have app:∀a b:aB,(a++b).cps.toList=a.cps.toList++b.cps.toList:=λa b=>by show(a.cps++b.cps).toList=_;simp
  rw[e,app,app,IJ c (q::r),dB,dB,dB,PX]
def xu(vs:List aA)(a:List Y):Prop:=cX (motive:=λx=>List aA->Prop) (λvs=>vs=[]) (λl x c vs=>∃b t r,vs=.str b t::r/\b.cps.toList=l/\c r) a vs
theorem xu.rep{X:aJ->Prop}:∀{vs:List aA},xu vs ls->(∀l∈ls,l.length<=aI)->a9 X h (ls.map .str) vs:=by induction ls with|nil=>exactλx y=>x|cons l ls ih=>exactλx a=>x.elim λb x=>x.elim λt x=>x.elim λr x=>ae x.1 (.cons (am x.2.1 (A8 t (x.2.1.symm▸a l (.head _):b.cps.toList.length<=aI))) (ih x.2.2 λl h=>a l (.tail _ h)))
theorem xu.len:∀{vs:List aA},xu vs ls->vs.length=ls.length:=by induction ls with|nil=>exactλh=>ae (h) rfl|cons l ls ih=>exactλh=>h.elim λb h=>h.elim λt h=>h.elim λr h=>ae h.1 (aj (·+1) (ih h.2.2))
theorem abx:∀{tk:Nat},xu (strsFrom tk xs) (xs.map λp=>p.cps.toList):=by induction xs with|nil=>exact rfl|cons x r ih=>exactλ{tk}=>⟨x,tk,strsFrom (tk+1) r,rfl,rfl,ih⟩
theorem acT(x:aB)(c:Nat):(Txt.split x ⟨#[c]⟩).map (λp=>p.cps.toList)=fe c x.cps.toList:=by
 have e:x.cps.toList=cP [c] ((Txt.split x ⟨#[c]⟩).map λp=>p.cps.toList):=by
  conv=>lhs;rw[<-(arM x ⟨#[c]⟩)]
  exact IJ _ _
 refine ae e ?_;rw[C0]
 ·intro q;have:=ze.mp q;unfold Txt.split at this;split at this
  ·cases this
  ·split at this
   ·cases this
   ·have z:=aj iT this;rw[length_partsBetween]at z;simp at z
 ·intro p hp;obtain⟨q,a,rfl⟩:=ey.mp hp;exact(arN x c) q a
section
theorem aac{Q:bI}(hs:x.cps.size<=aI)(b:(fe c x.cps.toList).length<=aI)
  (h:∀vs k,xu vs (fe c x.cps.toList)->Q (.ref s.heap.objs.size) {s with heap:=s.heap.push {cls:=.type "list",data:=.seq vs.toArray},toks:=k}):
  ay (bH prog w) A (call (.builtin "str.split") [.str x t,.str ⟨#[c]⟩ u]) Q E s:=by
 rw[<-(acT x c)]at h b;have one:Txt.split x ⟨#[c]⟩=[x]->∀k,Q (.ref s.heap.objs.size) {s with heap:=s.heap.push {cls:=.type "list",data:=.seq #[.str x t]},toks:=k}:=λd k=>h [.str x t] k (ae d ⟨x,t,[],rfl,rfl,rfl⟩);have hd:Txt.split x ⟨#[c]⟩=if(decide (x.length<(⟨#[c]⟩:aB).length)||decide (IY x<IY ⟨#[c]⟩))=af then[x]else if(PH x ⟨#[c]⟩ 0 x.length (x.length+1)).isEmpty=af then[x]else Str.partsBetween x (PH x ⟨#[c]⟩ 0 x.length (x.length+1)) (⟨#[c]⟩:aB).length:=rfl
 cases a:(decide (x.length<(⟨#[c]⟩:aB).length)||decide (IY x<IY ⟨#[c]⟩))with
 |true=>exact Wq Hy (Ey _ _ _) O0 (OU _ _) (meets_str_split_cannot_occur x ⟨#[c]⟩ t u a) (one (hd.trans (cD a)) _)
 |false=>rw[a,c9 (eX rfl)]at hd;cases hf:(PH x ⟨#[c]⟩ 0 x.length (x.length+1)).isEmpty with|true=>exact Wq Hy (Ey _ _ _) O0 (OU _ _) (meets_str_split_not_found x ⟨#[c]⟩ t u a rfl hf) (one (hd.trans (cD hf)) _)|false=>rw[hf,c9 (eX rfl)]at hd;rw[hd]at h b;exact Wq Hy (Ey _ _ _) O0 (OU _ _) (meets_str_split_sep x ⟨#[c]⟩ t u a rfl hf (gQ hs) (gQ (am (aW (f:=λp:aB=>p.cps.toList)) b))) (h _ _ abx)
theorem aez(x y:aB):alw x y=y.cps.toList.isSuffixOf x.cps.toList:=by
 unfold alw;rw[arO];refine ae (show x.length=x.cps.toList.length from by simp[Ti]) ?_;rw[(show y.length=y.cps.toList.length from by simp[Ti]),dD];generalize x.cps.toList=l;generalize y.cps.toList=m;apply iC.mpr;rw[eg,mA,gP,nh];constructor
 ·rintro⟨h1,h2⟩;rw[wu (by refine ae Hr ?_;omega)]at h2;exact⟨l.take (l.length-m.length),by
   conv=>lhs;rhs;rw[<-h2]
   exact oJ _ _⟩
 ·rintro⟨p,rfl⟩;refine⟨by refine ae aS ?_;omega,?_⟩;have:(p++m).length-m.length=p.length:=by refine ae aS ?_;omega
  exact ae this (qx▸kU▸rfl)
set_option tactic.hygienic true in
theorem aby(x y:aB):(aiC x y).cps.toList=fw y.cps.toList x.cps.toList:=by
 have d:y.cps.contains=λc=>y.cps.toList.contains c:=funext (λc=>by simp only [NQ]);have hd:∀l:List Nat,(l.dropWhile λc=>y.cps.toList.contains c)=l.drop (l.takeWhile λc=>y.cps.toList.contains c).length:=λl=>by
  induction l with
  |nil=>rfl
  |cons a l ih=>
   simp only [zd,Of];split
   ·simp only [ih];rfl
   ·rfl
 have b:∀n,n=(x.cps.toList.reverse.takeWhile λc=>y.cps.toList.contains c).length->x.cps.toList.take (x.length-n)=fw y.cps.toList x.cps.toList:=λn f=>by unfold fw;simp only [hd,<-f,List.reverse_drop,uw,kg,jG];rfl
 unfold aiC Txt.stripBy;refine ae d ?_;split
 ·rename_i h;have h2:x.length-(x.cps.toList.reverse.takeWhile λc=>y.cps.toList.contains c).length=x.length:=by simpa [stripSame,stripHi,stripLo]using h
  have:=b _ rfl;rw[h2,wu (by simp only [jG];exact bO _)]at this;exact this
 ·have e:afV (λc=>y.cps.toList.contains c) ag af x=Str.strSub x 0 (x.length-(x.cps.toList.reverse.takeWhile λc=>y.cps.toList.contains c).length):=by
   simp[afV,stripHi,stripLo]
  simp only [e,arP,ait,Nat.sub_zero];exact b _ rfl
theorem OP(cs l:List Nat):(fw cs l).length<=l.length:=by have:=(ut (cs.contains ·) (l:=l.reverse)).length_le;unfold fw;simpa using this
theorem aaE(l:List Nat):(uY l).length<=l.length:=by unfold uY;have a:=(ut nZ (l:=l)).length_le;have h2:=(ut nZ (l:=(l.dropWhile nZ).reverse)).length_le;simp only [kg]at h2⊢;omega
theorem Ve:∀{ai:List aA},(∀v∈ai,∃b t,v=.str b t/\b.cps.size<=aI)->∃ps:List (aB×kR),ai=strValues ps/\ps.map (λp=>p.1.cps.toList)=ai.map Lj|[],_=>⟨[],rfl,rfl⟩|v::ai,h=>(Ve λv a=>h v (.tail _ a)).elim λps z=>(h v (.head _)).elim λb y=>y.elim λt y=>⟨(b,t)::ps,y.1▸aj (Value.str b t::·) z.1,y.1▸aj (b.cps.toList::·) z.2⟩
theorem Vf:∀{ai:List aA},(∀v∈ai,∃b t,v=.bytes b t/\b.size<=aI)->mJ ai (ai.map mO)|[],_=>rfl|v::ai,h=>(h v (.head _)).elim λb y=>y.elim λt y=>⟨b,t,ai,y.1▸rfl,y.1▸rfl,Vf λv a=>h v (.tail _ a)⟩
theorem aaF{D:aJ}{Q:bI}(b:bG s.heap "list" D (strValues ps))(hs:(cP sep.cps.toList (ps.map λp=>p.1.cps.toList)).length<=aI)(a:sep.cps.size<=aI)
  (h:∀x t k,x.cps.toList=cP sep.cps.toList (ps.map λp=>p.1.cps.toList)->Q (.str x t) {s with toks:=k}):ay (bH prog w) A (call (.builtin "str.join") [.str sep t,.ref D]) Q E s:=by
 have e:(Txt.join sep (ps.map (·.1))).cps.toList=cP sep.cps.toList (ps.map λp=>p.1.cps.toList):=by show(aqX sep _).cps.toList=_;simp only [arQ,IJ,iR];rfl
 refine SC.join b.isList rfl ?_ λd k=>h _ _ _ e;unfold JoinOk;rw[mz,arR];refine lQ (ft.mpr (aw (?_:_<=aI+aI) (eX rfl)));have c:((ps.map (·.1)).map (·.length))=(ps.map λp=>p.1.cps.toList).map iT:=by simp only [iR,iR];rfl
 refine ae c ?_;revert hs;cases ps with|nil=>exactλy=>aw (cJ ((dD _).trans (Nat.zero_mul sep.length))) (cy _)|cons p r=>intro hs;rw[dB,PV,aW]at hs;rw[aW,eY,Nat.mul_comm,sr,<-fG];exact dz hs a
end
def kB(d:D):Bool:=d.el ag (λx=>ag) (λx=>ag) (λx=>ag) (λx=>af) (λx=>ag) (λx=>ag) ag
def kS(d:D):Bool:=d.el ag (λx=>ag) (λx=>ag) (λx=>af) (λx=>ag) (λx=>ag) (λx=>ag) ag
def oj(d:D):Bool:=d.el ag (λx=>ag) (λx=>ag) (λx=>af) (λx=>af) (λx=>ag) (λx=>ag) ag
def X.bm(k:D->Bool)(x:X)(g:D->X):X:=λF r=>(x F r).bind λd=>cond (k d) (g d F r) .no
def X.X4(k:D->Bool)(f:D->Option D)(x:X):X:=.bm k x λd y y=>.op (f d)
def X.Mo(k:D->Bool)(f:D->D->Option D)(x y:X):X:=.bm k x λd=>.dG (f d) y
def X.X5(k:D->Bool)(f:D->D->D->Option D)(x y z:X):X:=.bm k x λd=>.fk (f d) y z
def Vg(d a b:D):Option D:=wY a λa=>wY b λb=>cond (a==[92,32]&&b==[32]) (ad4 d) ak
def WR(d a b:D):Option D:=wI b λb=>cond (b==1) (ad5 d a) ak
section
variable{X:aJ->Prop}{id:String}
theorem alZ{P:D->Prop}(a:kB d=af)(k:∀y,P (.bytes y)):P d:=by cases d with|bytes y=>exact k y|_=>cases a
theorem al0{P:D->Prop}(a:kS d=af)(k:∀y,P (.str y)):P d:=by cases d with|str y=>exact k y|_=>cases a
theorem ajn{P:D->Prop}(b:oj d=af)(k:∀y,P (.str y))(a:∀y,P (.bytes y)):P d:=by cases d with|str y=>exact k y|bytes y=>exact a y|_=>cases b
@[elab_as_elim] theorem v0 {f:Y->Option D} {P:aA->Prop} (a:wY e f=aa z) (p:Vw X h e u) (k:∀c t,c.size<=aI->f (bz c)=aa z->P (.bytes c t)):P u:=vj (P:=λe=>Vw X h e u->P u) a (λy a p=>Vw.bE (P:=λy u=>f y=aa z->P u) p k a) p
@[elab_as_elim] theorem Mp {f:Y->Option D} {P:aA->Prop} (a:wS e f=aa z) (p:Vw X h e u) (k:∀c t,c.cps.size<=aI->f c.cps.toList=aa z->P (.str c t)):P u:=KA (P:=λe=>Vw X h e u->P u) a (λy a p=>Vw.sE (P:=λy u=>f y=aa z->P u) p k a) p
def Gm(W:Wd)(v:aA)(nm:aB)(id:String):Prop:=∀{A:dY} {s:aL} {pl:dC Bool} {Q:aA×List aA->aL->Prop} {E:bI},Q (.builtin id,[v]) s->ay W.M A (getMethod v nm pl) Q E s
def Bw(W:Wd)(X:aJ->Prop)(nm:aB)(f:D->Option D)(d:D)(v:aA):Prop:=∃id,Gm W v nm id/\∀(A:dY) (s:aL) (z:D),f d=aa z->(∀b,X b->(s.heap.get? b).isSome=af)->Gv X s z (ay W.M A (call (.builtin id) [v]))
def v3(W:Wd)(X:aJ->Prop)(nm:aB)(f:D->D->Option D)(d:D)(v:aA):Prop:=∃id,Gm W v nm id/\∀(A:dY) (s:aL) (e z:D) (u:aA),f d e=aa z->(∀b,X b->(s.heap.get? b).isSome=af)->Vw X s.heap e u->Gv X s z (ay W.M A (call (.builtin id) [v,u]))
def F2(W:Wd)(X:aJ->Prop)(nm:aB)(f:D->D->D->Option D)(d:D)(v:aA):Prop:=∃id,Gm W v nm id/\∀(A:dY) (s:aL) (a b z:D) (x y:aA),f d a b=aa z->(∀b,X b->(s.heap.get? b).isSome=af)->Vw X s.heap a x->Vw X s.heap b y->Gv X s z (ay W.M A (call (.builtin id) [v,x,y]))
def Bm(k:D->Bool)(P:(aJ->Prop)->D->aA->Prop):Prop:=∀X h d v,k d=af->bq X h d v->P X d v
theorem xV(k:∀X (b:Array UInt8) t,b.size<=aI->P X (.bytes (bz b)) (.bytes b t)):Bm kB P:=λX h d v a=>alZ (P:=λd=>bq X h d v->P X d v) a λy r=>Vw.bE (.inl r) (k X)
theorem WS(k:∀X (b:aB) t,b.cps.size<=aI->P X (.str b.cps.toList) (.str b t)):Bm kS P:=λX h d v a=>al0 (P:=λd=>bq X h d v->P X d v) a λy r=>Vw.sE (.inl r) (k X)
theorem E6(k:∀X (b:Array UInt8) t,b.size<=aI->P X (.bytes (bz b)) (.bytes b t))(a:∀X (b:aB) t,b.cps.size<=aI->P X (.str b.cps.toList) (.str b t)):Bm oj P:=λX h d v c=>ajn (P:=λd=>bq X h d v->P X d v) c (λy r=>WS a X h _ v rfl r) λy r=>xV k X h _ v rfl r
theorem Jd(c:∀b,X b->(s.heap.get? b).isSome=af)(hw:∀Q E,(∀ai k,a9 X s.heap xs ai->ai.length<=aI->Q (.ref s.heap.objs.size) {s with heap:=s.heap.push {cls:=.type "list",data:=.seq ai.toArray},toks:=k})->w Q E s):Gv X s (.list xs) w:=λQ E k=>hw Q E λai t r a=>
 have z:=sN r a t
 k _ _ z.1 ((n9 (λq=>nomatch (eh _).symm▸c _ q) z.2.2).1 z.2.1)
theorem DX(a:y.length<=aI)(hw:∀Q E,(∀d t k,bz d=y->Q (.bytes d t) {s with toks:=k})->w Q E s):Gv X s (.bytes y) w:=λQ E k=>hw Q E λd t b e=>k _ _ (.tok _ _) (am e (qU t (am (gp d) (e.symm▸a))))
theorem JP(a:y.length<=aI)(hw:∀Q E,(∀x t k,x.cps.toList=y->Q (.str x t) {s with toks:=k})->w Q E s):Gv X s (.str y) w:=λQ E k=>hw Q E λd t b e=>k _ _ (.tok _ _) (am e (A8 t (e.symm▸a:d.cps.toList.length<=aI)))
theorem nl(h:b.size<=aI):(bz b).length<=aI:=am ((gp b).symm) h
theorem rC(a:uo "bytes" nm id)(c:typeOf (.builtin id)=pure (.type "method_descriptor")):Gm W (.bytes b t) nm id:=λd=>by with_reducible exact KBd.method_of (.bytes b t) (fH _ _ _) a c KBd.noRef d
theorem A9(a:uo "str" nm id)(c:typeOf (.builtin id)=pure (.type "method_descriptor")):Gm W (.str b t) nm id:=λd=>by with_reducible exact GM.of (.str b t) (Ey _ _ _) a c GM.noRef d
theorem JQ{f:Nat->Option D}{P:Y->Prop}(h:one y f=aa z)(k:∀c,f c=aa z->P [c]):P y:=by
 cases y with
 |nil=>cases h
 |cons c r=>cases r with|nil=>exact k c h|cons _ _=>cases h
theorem RT(h:bz c=[n]):∃x:UInt8,c=#[x]/\x.toNat=n:=by
 cases c with
 |mk l=>cases l with
  |nil=>cases h
  |cons x r=>cases r with|nil=>exact⟨x,rfl,(bD h).1⟩|cons _ _=>cases h
theorem aeA:Bm kB λX=>Bw W X "decode" Eb:=xV λX b t a=>⟨_,rC FB.slot_bytes_decode FB.type_bytes_decode,λA s z c x=>fN c λd=>JP (nl a) λQ E k=>acQ d a k⟩
theorem aeB:Bm kS λX=>Bw W X "encode" I7:=WS λX b t a=>⟨_,A9 aiB F.type_str_encode,λA s z c x=>fN c λd=>DX a λQ E k=>acR d a k⟩
theorem m_strip:Bm kB λX=>Bw W X "strip" Tl:=xV λX b t a=>⟨_,rC NE Zv,λA s z g x=>cY g (DX (aw (aaE _) (nl a)) λQ E k=>acM (gQ a) λd c f e x=>k d c f e)⟩
theorem aeC:Bm kB λX=>v3 W X "startswith" RJ:=xV λX b t d=>⟨_,rC FB.slot_bytes_startswith FB.type_bytes_startswith,λA s e z u a x p=>v0 (a) p λc tc x a=>cY a λQ E k=>acK (k _ _ (.refl _) (q8 _))⟩
theorem ajo:Bm oj λX=>v3 W X "endswith" Kz:=E6 (λX b t d=>⟨_,rC FB.slot_bytes_endswith FB.type_bytes_endswith,λA s e z u a x p=>v0 a p λc tc x a=>cY a λQ E k=>agq (k _ _ (.refl _) (q8 _))⟩)
 λX b t d=>⟨_,A9 F.slot_str_endswith F.type_str_endswith,λA s e z u a x p=>Mp a p λc tc x a=>cY a λQ E k=>SC.endswith (k _ _ (.refl _) (am ((aez b c).symm) (q8 _)))⟩
theorem m_rstrip:Bm oj λX=>v3 W X "rstrip" I8:=E6 (λX b t f=>⟨_,rC Ny Zm,λA s e z u a x p=>v0 a p λc tc x a=>cY a (DX (aw (OP _ _) (nl f)) λQ E k=>acL (gQ f) λd g h e x=>k d g h e)⟩)
 λX b t f=>⟨_,A9 F.slot_str_rstrip F.type_str_rstrip,λA s e z u a x p=>Mp a p λc tc x a=>cY a (JP (aw (OP _ _) f) λQ E k=>SC.rstripChars (λg h=>k _ _ _ (aby b c)) (gQ f))⟩
theorem ajp:Bm oj λX=>v3 W X "join" pF:=E6 (λX b t f=>⟨_,rC NM ZA,λA s e z u c x p=>q7 c (λh c p=>p.lE λa ai g r=>(cG.mp c).elim λl y=>fN y.2 λd=>
  have q:=wO r _ y.1
  DX d λQ E k=>agu g (q.1▸Vf q.2) d k) p⟩)
 λX b t f=>⟨_,A9 F.slot_str_join F.type_str_join,λA s e z u c x p=>q7 c (λh c p=>p.lE λa ai g r=>(cG.mp c).elim λl y=>fN y.2 λd=>
  have q:=H9 r _ y.1
  (Ve q.2).elim λps w=>by simp only [<-q.1,<-w.2]at d⊢;exact JP d λQ E k=>aaF (am w.1 g) d f k) p⟩
theorem m_split:Bm oj λX=>v3 W X "split" EC:=E6 (λX b t g=>⟨_,rC NG Zx,λA s e z u a j p=>v0 a p λc tc x a=>by
  refine JQ (P:=λy=>bz c=y->_) a (λk a e=>fN a λd=>(RT e).elim λx y=>?_) rfl;have d:=y.2.symm▸d;exact ae y.1 (am y.2 (Jd j λQ E k=>aeu g λvs h f=>k vs h (f.rep λl i=>aw (zS l i) (nl g)) (ae f.len d)))⟩)
 λX b t g=>⟨_,A9 Hy F.type_str_split,λA s e z u a j p=>Mp a p λc tc x a=>by refine JQ (P:=λy=>c.cps.toList=y->_) a (λk a e=>fN a λd=>?_) rfl;have n:c=⟨#[k]⟩:=aj aq7 (DV e);exact ae n (Jd j λQ E m=>aac g d λvs h f=>m vs h (f.rep λl i=>aw (zS l i) g) (ae f.len d))⟩
theorem m_replace:Bm kB λX=>F2 W X "replace" Vg:=xV λX b t j=>⟨_,rC Nu Zh,λA s a n z x y f d p i=>v0 f p λc tc d f=>v0 f i λl g d f=>by
  cases hc:(bz c==[92,32]&&bz l==[32])with
  |false=>rw[hc]at f;exact aN f
  |true=>rw[hc]at f;rw[eg,gP,gP]at hc;exact ae (IF (b:=#[92,32]) hc.1) (ae (IF (b:=#[32]) hc.2) (cY f λQ E k=>abp j λd h m e hd=>k _ _ (.tok _ _) (am e (qU h hd))))⟩
theorem abz:(ph c l).length<=aI:=by
 unfold ph;split
 ·exact show 2<=aI by decide
 ·exact show 1<=aI by decide
theorem aeD:Bm kB λX=>F2 W X "rsplit" WR:=xV λX b t m=>⟨_,rC Nz Zr,λA s a u z x y f q p g=>by
  refine jW f (λi f g=>g.iE λr=>?_) g;cases h:i==1 with
  |false=>have f:=h▸f;exact aN f
  |true=>have f:=h▸f;refine ae (bt h) ?_;refine v0 f p λc tc d f=>JQ (P:=λy=>bz c=y->_) f (λk f e=>cY f ((RT e).elim λx y=>?_)) rfl;exact ae y.1 (am y.2 (Jd q λQ E k=>acO m λvs n j=>k vs n (j.rep λl o=>aw (acS l o) (nl m)) (ae j.len abz)))⟩
end
section
def X6(W:Wd)(q:Q)(nm:aB)(es:List aH)(b:bQ)(v:aA):Wt aA:=λQ E ao=>∃id,Gm W v nm id/\ay W.M q.A (vf (kv b (jf es q.env))) (λvs a=>ay W.M q.A (call (.builtin id) (v::vs)) Q E a) E ao
theorem Ll(hx:SX W n F σ a x)(hs:lI a)(f:es.length<20)(i:(p.endLine==p'.line)=af)(hp:∀env,(kv p' (jf es env)).all (λx=>!x.1)=af/\(kv p' (jf es env)).any (·.1)=ag)(B:Bm k P)
  (go:∀{q E s ao d v},q.σ=σ->Pl W n q E s->Nx W s ao->P q.X d v->J E (g d F q.ρ).run (X6 W q nm es p' v) (Rs W q s) ao):SX W n F σ (.Call (.Attribute a nm p) es [] p') (.bm k x g):=λq E s c e=>
 J.bind (w2:=X6 W q nm es p') (λQ E h=>zy hs (hp q.env).1 f i (ba h (λv b z=>z.elim λid z=>⟨.builtin id,[v],λpl m l=>z.1 l,aau (hp q.env).2 (wG (hp q.env).2 z.2)⟩) λy y h=>h)) (hx q E s c e) λd v b r=>by show J E (cond (k d) (g d F q.ρ) .no).run _ _ _;cases j:k d with|false=>trivial|true=>exact go c e r.n (B q.X b.heap d v j r.r)
theorem al1(B:Bm k λX=>Bw W X nm f)(hx:SX W n F σ a x)(hs:lI a)(d:(p.endLine==p'.line)=af):SX W n F σ (.Call (.Attribute a nm p) [] [] p') (.X4 k f x):=Ll hx hs (eX rfl) d (λy=>⟨rfl,rfl⟩) B λe P b m=>m.elim λid m=>J.op λz c=>⟨id,m.1,hK ((m.2 _ _ z c (P.nx b).bp).rs b)⟩
theorem al2(B:Bm k λX=>v3 W X nm f)(hx:SX W n F σ a x)(hs:lI a)(o:SV W n F σ b y)(i:NS b)(w:(p.endLine==p'.line)=af):SX W n F σ (.Call (.Attribute a nm p) [b] [] p') (.Mo k f x y):=Ll hx hs (show 1<20 by decide) w (λc=>by rw[i];exact⟨rfl,rfl⟩) B λ{q E s ao d v} t P g m=>m.elim λid m=>J.bind (λQ E h=>⟨id,m.1,eK (ba h (λu j h=>hK h) λc c h=>h) (i [] q.env)⟩) (o q E ao t (P.nx g)) λe u j r=>J.op λz l=>(m.2 _ _ e z u l ((P.nx g).nx r.n).bp r.r).rs (g.trans r.n)
theorem al3(B:Bm k λX=>F2 W X nm f)(hx:SX W n F σ a x)(hs:lI a)(l:SV W n F σ b y)(A:NS b)(G:SV W n F σ c z)(C:NS c)(H:(p.endLine==p'.line)=af):SX W n F σ (.Call (.Attribute a nm p) [b,c] [] p') (.X5 k f x y z):=
 Ll hx hs (show 2<20 by decide) H (λg=>by rw[A,C];exact⟨rfl,rfl⟩) B λ{q E s ao d v} t P j m=>m.elim λid m=>
  J.bind (λQ E h=>⟨id,m.1,eK (ba h (λu o h=>eK (ba h (λw D h=>hK h) λg g h=>h) (C [] q.env)) λg g h=>h) (A [c] q.env)⟩) (l q E ao t (P.nx j)) λe u o r=>
  J.bind (λQ E h=>h) (G q E o t ((P.nx j).nx r.n)) λe' w D i=>J.op λy l=>(m.2 _ _ e e' y u w l (((P.nx j).nx r.n).nx i.n).bp (r.r.mv i.n.k) i.r).rs ((j.trans r.n).trans i.n)
end
noncomputable def AN(ifs:List aH)(env:fC):dC Bool:=forIn ifs af λc r=>if r=af then do let ok<-A0 c env (eval c env);pure (uC ok)else pure (uC r)
noncomputable def uV(a:aH)(G0:List qE)(sc:jo)(p0:bQ)(k:Nat)(acc:aA)(env:fC):dC Unit:=match G0[k+1]? with
 |some g'=>do
  let x<-eval g'.iter env
  vg g'.iter.pos
  let x<-PF g'.iter env x;let y<-Y1 [x] (nT x);let _<-runOwn (.compStart (.ListComp a G0 sc p0) (k+1) y acc env) env
  pure ()
 |none=>do
  let v<-eval a env;let _<-call (.builtin "list.append") [acc,v]
  pure ()
theorem aaG(a:G0[k]?=aa ⟨t,x,ifs,0⟩)(hs:∀g',G0[k+1]?=aa g'->g'.is_async=0):
  compTurn (.ListComp e0 G0 sc p0) k it acc env=(do
   vg x.pos
   match<-rt it with
   |none=>pure (.done .next)
   |some v=>
    wF t it v
    iZ t env v
    let ok<-AN ifs env
    if ok then(do uV e0 G0 sc p0 k acc env;again (.compLoop (.ListComp e0 G0 sc p0) k it acc env))else
    again (.compLoop (.ListComp e0 G0 sc p0) k it acc env)):=by
 unfold compTurn uV;simp only [a];cases b:G0[k+1]? with|none=>simp only [bind_assoc,pure_bind];rfl|some g'=>have:=hs g' b;simp only [this,bind_assoc,pure_bind];rfl
section
variable{W:Wd}
theorem PY(i:G0[k]?=aa ⟨t,x,ifs,0⟩)(hs:∀g',G0[k+1]?=aa g'->g'.is_async=0)
  (turn:ay W.M A (rt it) (λr ao=>match r with
   |none=>R (.ok .next) ao
   |some v=>ay W.M A (wF t it v) (λy ao=>ay W.M A (iZ t env v) (λy f=>ay W.M A (AN ifs env) (λok b=>if ok=af then
     ay W.M A (uV e0 G0 sc p0 k acc env) (λy d=>kq W.M A (.compLoop (.ListComp e0 G0 sc p0) k it acc env) R d) (λy y=>False) b
     else kq W.M A (.compLoop (.ListComp e0 G0 sc p0) k it acc env) R b) (λy y=>False) f) (λy y=>False) ao) (λy y=>False) ao) (λy y=>False) s):
  kq W.M A (.compLoop (.ListComp e0 G0 sc p0) k it acc env) R s:=by
 have no:∀{F:bI} (x) (s':aL),False->F x s':=λy y h=>h.elim;refine HX ?_;refine UT ?_;refine ae (aaG i hs) ?_;refine aE (kY (aE (ba turn (λr ao a=>?_) no)));cases r with
 |none=>exact a8 a
 |some v=>refine aE (ba a (λy ao a=>aE (ba a (λy f g=>aE (ba g (λok b e=>?_) no)) no)) no);cases ok with|false=>exact a8 ⟨rfl,e⟩|true=>exact aE (ba e (λy d c=>a8 ⟨rfl,c⟩) no)
theorem Pe(d:G0[k]?=aa ⟨t,x,ifs,0⟩)(c:kq W.M A (.compLoop (.ListComp e0 G0 sc p0) k it acc env) R s)
  (h:ay W.M A (nT it) (λb s'=>kq W.M A (.compLoop (.ListComp e0 G0 sc p0) k b acc env) R s') (notedBy W.M A env λx s'=>R (.error x) s') s):kq W.M A (.compStart (.ListComp e0 G0 sc p0) k it acc env) R s:=by
 refine HX ?_;refine wpAny_notedAt ?_;unfold compStart;refine ae d ?_;refine aE (Qm (wpAny_ite ?_));split
 ·first
   |exact aE (a8 (a8 (JB rfl c)))
   |exact a8 (JB rfl c)
 ·first
   |exact aE (pe (aE (kY (aE (ba h (λb s' a=>a8 (JB rfl a)) λy y x=>x)))))
   |(refine aE (pe ?_);show ay _ _ (vg x.pos>>=_) _ _ s;exact aE (kY (aE (ba h (λb s' a=>a8 (JB rfl a)) λy y x=>x))))
theorem u7{α:Type}{a b:α}(h:Ev.ok a=.ok b):a=b:=by cases h;rfl
inductive CL(W:Wd)(n:Nat)(F:Fn)(σ:Sc):List aH->List B->Prop|nil:CL W n F σ [] []|cons {e:aH} {x:B} {es:List aH} {xs:List B} (h:SB W n F σ e x) (r:CL W n F σ es xs):CL W n F σ (e::es) (x::xs)
theorem aeE(r:CL W n F σ es cs):∀{s:aL} {t:Bool},q.σ=σ->jp W n q s->nU F cs q.ρ=.ok t->ay W.M q.A (AN es q.env) (λok s'=>ok=t/\Nx W s s') (λy y=>False) s:=by
 induction r with
 |nil=>exactλ{s t} y H h=>a8 ⟨(u7 h),.refl H.inv⟩
 |@cons e x es xs h r ih=>
  intro s t i H d;have d:((x F q.ρ).run.bind λt=>cond t (nU F xs q.ρ) (.ok ag))=.ok t:=d;have z:=h q (λe s'=>dw W q.A ag q.env.frame (λy=>False) s e s') s i ⟨H,λy y=>id⟩;unfold AN;rw[uE];refine ae (cD rfl) ?_;revert z d;cases(x F q.ρ).run with
  |no=>exactλd=>du d rfl
  |exc=>exactλd=>du d rfl
  |ok b=>
   refineλd z=>aE (aE (ba z (λok k g=>a8 ?_) λy y h=>h.elim));refine ae g.1 ?_;cases b with
   |true=>exact ba (ih i (H.nx g.2) d) (λok j h2=>⟨h2.1,g.2.trans h2.2⟩) λy y h=>h
   |false=>
    have f:∀(l:List aH),(forIn l ag λc r=>if r=af then do let ok<-A0 c q.env (eval c q.env);pure (uC ok)else pure (uC r))=pure ag:=λl=>by induction l with|nil=>rfl|cons a l ih2=>rw[uE];exact ih2
    exact fq (f _) ⟨u7 d,g.2⟩
end
def Acc(q:Q)(h:bF)(a:aJ)(ds:List D):Prop:=∃ai,bG h "list" a ai/\a9 q.X h ds ai
def Ch(q:Q)(a0:aJ)(wr:List aJ)(b:aJ):Prop:=b=a0\/b=q.env.locals\/b∈wr
structure CF(q:Q)(a0:aJ)(wr:List aJ):Prop where
 w:∀b∈wr,q.G b=aa .x
 a:q.G a0=aa .x
 my:∀b,q.my b->b=q.env.locals
structure CR(W:Wd)(n:Nat)(q:Q)(a0:aJ)(wr:List aJ)(all:List D)(s:aL)(res:L6)(s':aL):Prop where
 r:res=.ok .next
 h:bM W n {q with G:=ov wr ak q.G} s'
 acc:Acc {q with G:=ov wr ak q.G} s'.heap a0 all
 k:bZ (Ch q a0 wr) s.heap s'.heap
 bp:∀b,b∉wr->(s.heap.get? b).isSome=af->(s'.heap.get? b).isSome=af
inductive CG(W:Wd)(n:Nat)(F:Fn)(σ:Sc):List Gn->List qE->Prop|nil:CG W n F σ [] []|cons {g:Gn} {gs:List Gn} {t x:aH} {dS:List aH} {cs:List qE} (ht:Tg W n σ ag g.tup g.is t) (h1:g.tup=ag->∃i,g.is=[i]) (hi:SI W n F σ ag x g.it) (hn:NF x) (hc:CL W n F σ dS g.ifs) (r:CG W n F σ gs cs):CG W n F σ (g::gs) (⟨t,x,dS,0⟩::cs)
theorem u3{α β:Type}{x:Ev α}{f:α->Ev β}{b:β}(h:x.bind f=.ok b):∃a,x=.ok a/\f a=.ok b:=by cases x with|ok a=>exact⟨a,rfl,h⟩|_=>cases h
theorem Vh{α:Type}{o:Option α}{a:α}(h:Ev.of o=.ok a):o=aa a:=by cases o with|none=>cases h|some b=>exact aj aa (u7 h)
section
variable{s s':aL}
theorem Vi(h:∀b∈wr,G b=aa .x):ov wr (aa .x) G=G:=funext λb=>gw (P:=λx=>x=G b) (λz=>(h b z).symm) λy=>rfl
theorem Vj(h:∀b∈wr,G b=ak):ov wr ak G=G:=funext λb=>gw (P:=λx=>x=G b) (λz=>(h b z).symm) λy=>rfl
theorem Acc.kp(x:Acc q s.heap a0 ds)(k:bZ Mt s.heap s'.heap)(a:¬Mt a0)(d:∀b,Mt b->q.X b)(c:∀b o,s.heap.get? b=aa o->q'.X b->q.X b):Acc q' s'.heap a0 ds:=x.imp λai z=>⟨z.1.kp k a,z.2.mv (.of k (λb y y=>d b) c)⟩
theorem bM.under(H:bM W n q s)(f:q.σ.fs=ak)(c:r.length=q.ρ.length)(u:∀i:Nat,r[i]?=q.ρ[i]?\/xj r[i]?=af):bM W n {q with ρ:=r} s:=
 {H with len:=c.trans H.len,me:=λC m h=>(aN (f.symm.trans h)),at_:=λi nm a d h2 b=>(u i).elim (λe=>H.at_ i nm a d h2 (e.symm.trans b)) λe=>by have e:=(show r[i]?=aa a from b)▸e;cases a with|U=>exact .inl rfl|_=>cases e}
theorem aaH:∀{ds:List D} {r:Rh},(fJ is ds r).length=r.length:=by
 induction is with
 |nil=>exact rfl
 |cons i is ih=>intro ds r;cases ds with|nil=>rfl|cons d ds=>exact ih.trans (zu ..)
theorem aaI:∀{ds:List D} {r:Rh},i∉is->(fJ is ds r)[i]?=r[i]?:=by
 induction is with
 |nil=>exactλx=>rfl
 |cons j is ih=>intro ds r h;cases ds with|nil=>rfl|cons d ds=>exact(ih λq=>h (.tail _ q)).trans (uv λe=>h (ch.mpr (.inl e.symm)))
theorem RU(h:iw tup is d r=aa a)(f:tup=ag->∃i,is=[i]):r.length=a.length/\∀i,i∉is->a[i]?=r[i]?:=by cases tup with|false=>refine(f rfl).elim λi e=>?_;subst e;exact am (aM h) ⟨(zu ..).symm,λj b=>uv λe=>b (ch.mpr (.inl e.symm))⟩|true=>exact wV (P:=λx a=>r.length=a.length/\∀i,i∉is->a[i]?=r[i]?) h λg x=>⟨aaH.symm,λi c=>aaI c⟩
theorem agw(h:mM tup is d r=aa r')(c:tup=ag->∃i,is=[i]):iw tup is d r=aa r'/\r.length=r'.length/\∀i:Nat,r[i]?=r'[i]?\/xj r[i]?=af:=by unfold mM at h;cases a:is.all λi=>xj r[i]? with|false=>have h:=a▸h;exact aN h|true=>have h:=a▸h;exact⟨h,(RU h c).1,λi=>(hV (i∈is)).elim (λb=>.inr (ew.mp a i b)) λb=>.inl ((RU h c).2 i b).symm⟩
theorem aeF(K:aT W)(H:bM W n q s)(f:q.G a0=aa .x)(acc:Acc q s.heap a0 ds)(h:bq q.X s.heap d v)(i:ds.length<aI){Q:bI}
  (j:∀s',bM W n q s'->Acc q s'.heap a0 (ds++[d])->bZ (·=a0) s.heap s'.heap->(∀b,(s.heap.get? b).isSome=af->(s'.heap.get? b).isSome=af)->Q .none s'):ay W.M A (call (.builtin "list.append") [.ref a0,v]) Q E s:=acc.elim λai z=>z.1.elim λk0 g=>by
 refine Ql slot_list_append z.1.isList.typeIs entry_list_append ?_ (args_list_append _ _);show ay _ _ (Ez a0 (·.push v)>>=λy=>ret .none) _ _ s;have k:=gQ g.2;have hs:=nj s.heap a0 (dK λa=>a.push v);have g':(s.heap.update a0 (dK λa=>a.push v)).get? a0=_:=oK _ g.1 rfl;have c:bZ (·=a0) s.heap (s.heap.update a0 (dK λa=>a.push v)):=.sameBut hs rfl;have tp:Tp q.X s.heap q.X (s.heap.update a0 (dK λa=>a.push v)):=.of c (λb y y e=>ae e (nn f)) λy y y=>id;have hw:∀b∈[a0],q.G b=aa .x:=λb hb=>mq (P:=λb=>q.G b=aa .x) hb f;have st:=uM (s':={s with heap:=s.heap.update a0 (dK λa=>a.push v)}) (r:=aa .x) K H hw (λb hb=>mq (P:=λb=>∃o,eE s.heap b o) hb (eE.seq g.1 rfl rfl (eX rfl))) (λy b hb=>mq (P:=λb=>((s.heap.update a0 (dK λa=>a.push v)).get? b).isSome=af) hb (dH g')) (λb o hb e=>(hs.2 b λq=>hb (bB.mpr q)).trans e) rfl rfl;rw[Vi hw]at st;refine aE (Db g.1 rfl (a8 ⟨.none,rfl,j _ st ⟨ai++[v],⟨k0+1,?_,?_⟩,(z.2.mv tp).append (.cons (h.mv tp) .nil)⟩ c λb hb=>?_⟩))
 ·refine ae g' ?_;simp[dK]
 ·exact ae aS (ae z.2.length i)
 ·exact(hV (b=a0)).elim (λe=>(aj (λb=>((s.heap.update a0 (dK λa=>a.push v)).get? b).isSome) e).trans (dH g')) λe=>am ((hs.2 b e).symm) hb
end
section
structure CB(W:Wd)(n:Nat)(q:Q)(a0:aJ)(r:Rh)(all:List D)(s s':aL):Prop where
 h:bM W n {q with ρ:=r} s'
 acc:Acc q s'.heap a0 all
 k:bZ (λb=>b=a0\/b=q.env.locals) s.heap s'.heap
 bp:∀b,(s.heap.get? b).isSome=af->(s'.heap.get? b).isSome=af
def turn(F:Fn)(g:Gn)(f:Rh->Ev (List D))(r:Rh)(d:D):Ev (List D):=(Ev.of (mM g.tup g.is d r)).bind λr=>(nU F g.ifs r).bind λt=>cond t (f r) (.ok [])
theorem QG(K:aT W){St:Nat->bF->Prop}(hg:G0[k]?=aa ⟨t,x,dS,0⟩)(hs:∀g',G0[k+1]?=aa g'->g'.is_async=0)(ht:Tg W n σ ag g.tup g.is t)(h1:g.tup=ag->∃i,g.is=[i])(hc:CL W n F σ dS g.ifs)(Q:q.σ=σ)(bV:σ.fs=ak)(C:CF q a0 wr)
  (w:Wk W q.A ag Z sw ai I P St fp wr s0) (hZ:∀b,q.X b->Z b\/b∈wr) (hA:a0∉fp) (hL:q.env.locals∉fp)
  (body:∀r D bf a,bM W n {q with ρ:=r} D->Acc q D.heap a0 bf->f r=.ok a->(bf++a).length<=aI->ay W.M q.A (uV e0 G0 sc p0 k (.ref a0) q.env) (λj B=>CB W n q a0 r (bf++a) D B) (λj j=>False) D):
  ∀l i m bf ds,ai.drop i=l->i+l.length=ai.length->bM W n q m->St i m.heap->Acc q m.heap a0 bf->bZ (Ch q a0 wr) s0.heap m.heap->(∀b,b∉wr->(s0.heap.get? b).isSome=af->(m.heap.get? b).isSome=af)->n6 (turn F g f q.ρ) l=.ok ds->(bf++ds).length<=aI->
   kq W.M q.A (.compLoop (.ListComp e0 G0 sc p0) k (.ref I) (.ref a0) q.env) (CR W n q a0 wr (bf++ds) s0) m:=by
 have X8:=λh=>hA (w.k.sub a0 h);have fo:∀{i m},St i m->∀b∈wr,∃o,eE m b o:=λst b hb=>(w.f b (w.k.sub b hb)).2 _ _ st;have J:∀{s s':aL},(∀b o,b∉wr->s.heap.get? b=aa o->s'.heap.get? b=aa o)->bZ (·∈wr) s.heap s'.heap:=λp b o e hm=>⟨o,p b o hm e,.refl ..⟩;have dm:∀{s s':aL},(∀b o,b∉wr->s.heap.get? b=aa o->s'.heap.get? b=aa o)->∀b,b∉wr->(s.heap.get? b).isSome=af->(s'.heap.get? b).isSome=af:=λp b hb h=>(gK.mp h).elim λo e=>dH (p b o hb e);have U:∀{b:aJ},b∈wr->q.X b:=λh=>nn (C.w _ h);intro l
 induction l with
 |nil=>intro i m bf ds hd S H st acc k1 Y T L;have e:=S;subst e;refine PY hg hs (ba (w.k.done m (λs'=>CR W n q a0 wr (bf++ds) s0 (.ok .next) s') _ st λs' p N R=>?_) (λv s' h=>by cases h.1;exact h.2) λj j h=>h);rw[<-show[]=ds from u7 T,bu];exact⟨rfl,uM K H C.w (fo st) (λh=>aC rfl h) p N R,acc.kp (J p) X8 (λj=>U) λb j j=>gw (P:=λx=>x≠ak->q.X b) (λj h=>aC rfl h) λj h=>h,k1.trans ((J p).mono λj j j h=>.inr (.inr h)),λb hb h=>dm p b hb (Y b hb h)⟩
 |cons d l ih=>
  intro i m bf ds hd S H st acc k1 Y T L;have d7:=(mx ..).trans S;have dI:=jb (lO i) (d7▸cB ..);have Bu:ai[i]?=aa d:=by refine am (qI i) (am (nk) (ae hd ?_));rfl
  have yq:ai.drop (i+1)=l:=by refine am ny (ae hd ?_);rfl
  refine(u3 (T)).elim λa z=>(u3 z.2).elim λb y=>?_;rw[<-u7 y.2,<-bg]at L⊢;refine(u3 z.1).elim λr z=>(u3 z.2).elim λtt z2=>?_;have O:=agw (Vh z.1) h1;refine PY hg hs (ba (w.k.item t i m (λv s'=>ay W.M q.A (iZ t q.env v) (λj bj=>ay W.M q.A (AN dS q.env) (λok gW=>if ok=af then
     ay W.M q.A (uV e0 G0 sc p0 k (.ref a0) q.env) (λj xW=>kq W.M q.A (.compLoop (.ListComp e0 G0 sc p0) k (.ref I) (.ref a0) q.env) (CR W n q a0 wr (bf++a++b) s0) xW) (λj j=>False) gW
     else kq W.M q.A (.compLoop (.ListComp e0 G0 sc p0) k (.ref I) (.ref a0) q.env) (CR W n q a0 wr (bf++a++b) s0) gW) (λj j=>False) bj) (λj j=>False) s') _ ht.1 dI st λv s' hP V p N R=>?_) (λv s' h=>h.elim λu z=>z.1▸z.2) λj j h=>h)
  have H':=uM (r:=aa .x) K H C.w (fo st) (λj=>w.here V) p N R;have H':=(Vi C.w)▸H';have vE:=acc.kp (J p) X8 (λj=>U) λj j j=>id;have k':=k1.trans ((J p).mono λj j j h=>.inr (.inr h));have d':=λb hb h=>dm p b hb (Y b hb h);refine ht.2 q s' d v r _ _ Q H' O.1 (w.it i d v _ _ Bu hP λb o e hx=>?_) λs2 H2 m2=>?_
  ·exact⟨λh=>hx (hZ b h),k' b o e λh=>hx (hZ b (h.elim (λe=>e▸nn C.a) λh=>h.elim (λe=>e▸nn H.rl) U))⟩
  ·have k2:=m2.kp.mono λb j j h=>C.my b h;have a1:=vE.kp k2 (λe=>cw (C.a.symm.trans (e▸H.rl:q.G a0=aa .l)) rfl) (λb e=>e▸nn H.rl) λj j j=>id;refine ba (aeE (q:={q with ρ:=r}) hc Q H2.tojp z2.1) (λok D E=>?_) λj j h=>h.elim;have H3:=H2.nx E.2;have xX:=a1.kp E.2.k id (λj h=>h.elim) λj j j=>id;have WU:∀B,CB W n q a0 r (bf++a) D B->kq W.M q.A (.compLoop (.ListComp e0 G0 sc p0) k (.ref I) (.ref a0) q.env) (CR W n q a0 wr (bf++a++b) s0) B:=λB c=>by
    have k4:=((k2.mono λj j j h=>.inr h).trans E.2.k.weak).trans c.k;refine ih (i+1) B (bf++a) b yq d7 (c.h.under (Q▸bV) O.2.1 O.2.2) (w.k.frame _ _ _ V λb hb o e=>((w.f b hb).2 _ _ V).elim λo' z=>?_) c.acc (k'.trans (k4.mono λj j j h=>h.imp id .inl)) (λb hb h=>c.bp b (E.2.k.bp (m2.bp b (d' b hb h)) id)) y.1 L;have eo:=aM (z.g.symm.trans e);subst eo;exact k4.get z.g (λh=>h.elim (λe=>hA (e▸hb)) λe=>hL (e▸hb)) (.inl z.d) (.inl z.n)
   refine ae E.1 ?_;have z3:=z2.2;cases tt with|false=>exact WU D ⟨H3,(u7 z3)▸(bu bf).symm▸xX,.refl,λj h=>h⟩|true=>exact ba (body r D bf a H3 xX z3 (aw (aS (bs:=b)▸cB ..) L)) (λj B c=>WU B c) λj j h=>h
end
section
theorem abA(K:aT W)(bV:σ.fs=ak)(jA:SX W n F σ e0 elt)(cg:CG W n F σ gs cs):∀{g:Gn} {t x:aH} {s:List aH} {k:Nat} {q:Q} {a0 I:aJ} {wr J:List aJ} {ai:List D} {P:Nat->bF->aA->Prop} {St:Nat->bF->Prop} {Z:aJ->Prop} {S j:aL} {bf ds:List D},
  G0.drop k=⟨t,x,s,0⟩::cs->Tg W n σ ag g.tup g.is t->(g.tup=ag->∃i,g.is=[i])->CL W n F σ s g.ifs->q.σ=σ->CF q a0 wr->bM W n q j->Wk W q.A ag Z S ai I P St J wr j->(∀b,q.X b->Z b\/b∈wr)->a0∉J->q.env.locals∉J->Acc q j.heap a0 bf->
  Mb F elt (g::gs) ai q.ρ=.ok ds->(bf++ds).length<=aI->kq W.M q.A (.compLoop (.ListComp e0 G0 sc p0) k (.ref I) (.ref a0) q.env) (CR W n q a0 wr (bf++ds) j) j:=by
 induction cg with
 |nil=>
  intro g t x s k q a0 I wr J ai P St Z S j bf ds hd ht h1 hc m C H w hZ hA hL acc Y U;have V:G0[k]?=aa ⟨t,x,s,0⟩:=by refine am (qI k) (am (nk) (ae hd ?_));rfl
  have hn:G0[k+1]?=ak:=by refine am (nk) (ae hd ?_);rfl
  refine QG K V (λg' h=>aN (hn.symm.trans h)) ht h1 hc m bV C w hZ hA hL (λr u bf a l R hf N=>?_) ai 0 j bf ds rfl (dD _) H w.st acc .refl (λc c h=>h) Y U;refine(u3 hf).elim λe z=>?_;rw[<-u7 z.2]at N⊢;unfold uV;refine ae hn ?_;have y:=jA {q with ρ:=r} (λe s'=>dw W q.A ag q.env.frame (λc=>False) u e s') u m ⟨l.tojp,λc c=>id⟩;rw[show(elt F r).run=.ok e from z.1]at y;refine aE (ba y (λv s4 B=>aE (aeF K (l.nx B.n) C.a (R.kp B.n.k id (λc h=>h.elim) λc c c=>id) B.r ?_ λs5 H5 a2 k5 d5=>a8 ⟨H5,a2,(B.n.k.weak).trans (k5.mono λc c c h=>.inl h),λb hb=>d5 b (B.n.k.bp hb id)⟩)) λc c h=>h.elim);rw[aS]at N;exact N
 |@cons g2 gs t2 x2 Vk cs ht2 h12 hi2 Mr hc2 r2 ih=>
  intro g t x s k q a0 I wr J ai P St Z S j bf ds hd ht h1 hc m C H w hZ hA hL acc Y U;have V:G0[k]?=aa ⟨t,x,s,0⟩:=by refine am (qI k) (am (nk) (ae hd ?_));rfl
  have By:G0[k+1]?=aa ⟨t2,x2,Vk,0⟩:=by refine am (nk) (ae hd ?_);rfl
  have a1:G0.drop (k+1)=⟨t2,x2,Vk,0⟩::cs:=by refine am ny (ae hd ?_);rfl
  refine QG K V (λg' h=>am (aM (By.symm.trans h)) rfl) ht h1 hc m bV C w hZ hA hL (λr u bf a l R hf N=>?_) ai 0 j bf ds rfl (dD _) H w.st acc .refl (λc c h=>h) Y U;refine(u3 hf).elim λd2 z=>(u3 z.2).elim λWV z2=>?_;unfold uV;refine ae By ?_;have y:=hi2 {q with ρ:=r} (λe s'=>dw W q.A ag q.env.frame (λc=>False) u e s') u m ⟨l.tojp,λc c=>id⟩;simp only [show(g2.it F r).run=.ok d2 from z.1]at y;refine aE (ba y (λxv s4 h4=>aE (kY (aE (fq (Mr _ xv) (aE (hO (ba h4 (λiv s5 E=>?_) λc c h=>h.elim))))))) λc c h=>h.elim);refine E.elim λa5 E=>E.2.2.elim λI2 y=>y.elim λP2 y=>y.elim λa6 y=>y.elim λa4 y=>y.elim λL y=>?_;have e2:=aM ((Vh z2.1).symm.trans (aj D.jU E.1));subst e2;refine ae y.1 ?_;have d:=y.2;have O:=E.2.1;have old:∀{b r},q.G b=aa r->b∉L:=λe h=>dL (d.w _ h) (l.old _ (nn e)).1;have eG:ov L ak (ov L (aa .x) q.G)=q.G:=s9.trans (Vj λb hb=>Zk.mpr λr e=>old e hb);have WW:=ih (q:={q with ρ:=r,G:=ov L (aa .x) q.G}) a1 ht2 h12 hc2 m ⟨λb=>fh,(dq (old C.a)).trans C.a,λb=>gw (P:=λx=>x≠ak/\x≠aa .x->b=q.env.locals) (λc h=>aC rfl h.2) λc=>C.my b⟩ (wW K l O d.w (d.here d.st)).1 d
   (λb=>gw (P:=λx=>x≠ak->q.X b\/b∈L) (λh c=>.inr h) λc h=>.inl h) (λh=>(d.f a0 h).1 (nn C.a)) (λh=>(d.f _ h).1 (nn l.rl)) (R.kp O.k id (λc h=>h.elim) λb o e=>gw (P:=λx=>x≠ak->q.X b) (λh c=>aN ((d.w b h).symm.trans e)) λc h=>h) z2.2 N
  refine aE (wpAny_runOwn (wR (Pe By WW (d.k.self 0 s5 _ _ d.st WW)) λa3 s6 h6=>?_));have h:=h6.h;have T:=h6.acc;refine ae h6.r ?_;dsimp only at h T;rw[eG]at h T;exact a8 ⟨h,T,λb o e hm=>(O.k b o e id).elim λo5 p=>(h6.k b o5 p.1 λh=>h.elim (λh=>hm (.inl h)) λh=>h.elim (λh=>hm (.inr h)) λh=>aN ((d.w b h).symm.trans e)).imp λo6 r=>⟨r.1,p.2.trans r.2⟩,λb hb=>h6.bp b (λh=>dL (d.w b h) hb) (O.k.bp hb id)⟩
end
noncomputable def tI(names:List (aB×lU))(env:fC):List (aB×aJ):=((names.filter λx=>x.2== .free).map λx=>(x.1,(env.cells.lookup x.1).getD 0)).reverse
def Cr:=λenv=>(∀{sc} (h:∀x∈sc.names,x.2= .free->(env.cells.lookup x.1).isSome=af),JG sc env=pure (tI sc.names env):Prop)
def zi:=vT Cr nI
theorem ZV:Cr zi:=λ{j} h=>by
 have e:∀(l:List (aB×lU)) (acc:List (aB×aJ)),(∀x∈l,x.2= .free->(zi.cells.lookup x.1).isSome=af)->
   (forIn l acc λx (c:List (aB×aJ))=>match x with
    |(name,kind)=>if(kind==lU.free)=af then do let a<-Y6 zi name;pure (uC ((name,a)::c))else pure (uC c):dC (List (aB×aJ)))=pure (tI l zi++acc):=by
  intro l
  induction l with
  |nil=>exactλacc b=>rfl
  |cons x l d=>
   intro acc g;cases x with
   |mk nm k=>have d:=λacc=>d acc λy m=>g y (.tail _ m);rw[uE];dsimp only;unfold tI at d⊢;cases f:k==lU.free with|true=>refine(gK.mp (g (nm,k) (.head _) (bt f))).elim λa i=>?_;refine ae (cD rfl) ?_;rw[show Y6 zi nm=pure a from by unfold Y6;exact ae i rfl,pure_bind,pure_bind,aao (a:=(nm,k)) f,dB,qq,i,bg];exact d _|false=>refine ae (c9 (eX rfl)) ?_;rw[pure_bind,aap (a:=(nm,k)) (gL.mp f)];exact d _
 have z:=e j.names [] h;rw[bu]at z;exact(aj (λz=>z>>=pure) z).trans (pure_bind ..)
theorem HL{env}:Cr env:=@yi _ Cr _ @ZV env
theorem aeG(h:∀x∈names,x.2= .free->(env.cells.lookup x.1).isSome=af)(f:(n,c)∈tI names env):(n,lU.free)∈names/\env.cells.lookup n=aa c:=(ey.mp (kV.mp f)).elim λx hx=>by have hf:=kj.mp hx.1;have e:x.1=n:=aj xh hx.2;have b:=aj Ah hx.2;refine(gK.mp (h x hf.1 (bt hf.2))).elim λa d=>?_;have b:=d▸b;exact⟨am (bt hf.2) (am e hf.1),am e (am (show a=c from b) d)⟩
theorem QH{f:aB->aJ}{n:aB}:∀{l:List (aB×aJ)},(∃c,(n,c)∈l)->(∀x∈l,x.2=f x.1)->l.lookup n=aa (f n)
 |[],h,_=>h.elim (λ_ h=>cf h)
 |x::l,h,hf=>by rw[sa];cases hx:n==x.1 with|true=>exact aj aa ((hf x (.head _)).trans (aj f (bt hx).symm))|false=>exact QH (h.elim λc hc=>(ch.mp hc).elim (λe=>by rw[<-e,kX]at hx;cases hx) λh=>⟨c,h⟩) λy a=>hf y (.tail _ a)
theorem PZ(b:(n,lU.free)∈names)(hc:env.cells.lookup n=aa c):(tI names env).lookup n=aa c:=(QH (f:=λn=>(env.cells.lookup n).getD 0) ⟨_,kV.mpr (ey.mpr ⟨(n, .free),kj.mpr ⟨b,rfl⟩,rfl⟩)⟩ λx hx=>(ey.mp (kV.mp hx)).elim λy a=>am a.2 rfl).trans (by refine ae hc ?_;rfl)
theorem NW{f:aB->lU->lU}{x:aB}:∀{names:List (aB×lU)},(names.map λy=>(y.1,f y.1 y.2)).lookup x=(names.lookup x).map (f x)
 |[]=>rfl
 |y::r=>by rw[dB,sa,sa];cases h:x==y.1 with|true=>exact aj (λz=>aa (f z y.2)) (bt h).symm|false=>exact NW
theorem aad{a:fC}(hs:a.scope=Fp sc env)(x:aB):
  a.kindOf x=(sc.names.lookup x).map λk=>if(k== .free&&env.scope.kind==.function&&env.kindOf x==aa .cell)then .cell else k:=by
 unfold Env.kindOf;refine ae hs ?_;refine(aj (List.lookup x) ?_).trans (NW (f:=λn k=>if(k==lU.free&&env.scope.kind==.function&&env.kindOf n==aa PA)then PA else k));unfold Fp;refine List.map_congr_left λy y=>?_;dsimp only;split<;>rfl
noncomputable def eO(names:List (aB×lU)):Sc:={ns:=(names.filter λx=>x.2== .free).map (·.1)++(names.filter λx=>x.2== .local).map (·.1),tb:=names}
noncomputable def TG(σ:Sc)(x:aB×lU):Bool:=x.2== .local||x.2==.globalImplicit||(x.2== .free&&(σ.tb.lookup x.1==aa .cell||σ.tb.lookup x.1==aa .free)&&σ.ns.contains x.1)
def TH(σ:Sc)(sc:jo):Bool:=sc.kind==.function&&sc.names.all (λx=>sc.names.lookup x.1==aa x.2&&TG σ x)&&decide (eO sc.names).ns.Nodup
noncomputable def nO(σ:Sc)(names:List (aB×lU)):List Nat:=(names.filter λx=>x.2== .free).map λx=>σ.ns.idxOf x.1
structure mH(σ:Sc)(sc:jo):Prop where
 kind:sc.kind=.function
 look:∀x∈sc.names,sc.names.lookup x.1=aa x.2
 loc:∀x∈sc.names,x.2= .local\/x.2=.globalImplicit\/x.2= .free/\(σ.tb.lookup x.1=aa .cell\/σ.tb.lookup x.1=aa .free)/\x.1∈σ.ns
 nd:(eO sc.names).ns.Nodup
theorem aqu(h:TH σ sc=af):mH σ sc:=by unfold TH at h;rw[eg,eg,ew]at h;have a:=λx hx=>(eg _ _).mp (h.1.2 x hx);refine⟨bt h.1.1,λx hx=>bt (a x hx).1,λx hx=>?_,eX h.2⟩;have z:=(a x hx).2;unfold TG at z;simp only [ki,ki,eg,eg,ki]at z;exact z.elim (λz=>z.imp bt λz=>.inl (bt z)) λz=>.inr (.inr ⟨bt z.1.1,z.1.2.imp bt bt,ed.mp z.2⟩)
section
theorem mH.free(C:mH σ sc)(h:(x,lU.free)∈sc.names):(σ.tb.lookup x=aa .cell\/σ.tb.lookup x=aa .free)/\x∈σ.ns:=(C.loc _ h).elim (λh=>c2 h rfl) λz=>z.elim (λh=>c2 h rfl) λz=>z.2
theorem mH.JR(C:mH σ sc)(h:sc.names.lookup x=aa .cell):False:=(C.loc _ (mem_of_lookup h)).elim (λh=>c2 h rfl) λz=>z.elim (λh=>c2 h rfl) λz=>c2 (z.1) rfl
theorem agx:∀{cs:List Nat} {c:Rh},Fv cs r=aa c->c.length=cs.length/\∀(i j:Nat),cs[i]?=aa j->∃d,c[i]?=aa (AV.val d)/\r[j]?=aa (AV.val d):=by
 intro cs
 induction cs with
 |nil=>exactλ{c} h=>am (aM h) ⟨rfl,λi j h=>aN h⟩
 |cons k cs ih=>
  exactλ{c} h=>(cG.mp h).elim λd z=>(hJ.mp z.2).elim λb y=>by
   refine am y.2 ?_;refine⟨aj (·+1) (ih y.1).1,λi j h=>?_⟩;cases i with
   |succ i=>exact(ih y.1).2 i j h
   |zero=>refine⟨d,rfl,am (aM h) (?_)⟩;exact(cG.mp z.1).elim λa w=>by cases a with|val d'=>exact w.1.trans (aj (λd=>aa (AV.val d)) (aM w.2))|_=>exact aN w.2
end
section
def gc(q:Q)(a:aJ)(l:List aJ):aJ->Option Ro:=lF (ov l (aa .x) λb=>(q.G b).map λy=>.x) a (aa .l)
theorem E7{P:Option Ro->Prop}(c:b=L0->P (aa .l))(hx:b∈l\/q.X b->P (aa .x))(a:q.G b=ak->P ak):P (gc q L0 l b):=by
 unfold gc;by_cases h:b=L0
 ·exact ae h (ae o9 (c h))
 ·refine ae (jR h) ?_;refine gw (λh=>hx (.inl h)) λy=>?_;cases e:q.G b with|none=>exact a e|some r=>exact hx (.inr (nn e))
theorem Ba(h:b≠L0)(hx:b∈l\/q.X b):gc q L0 l b=aa .x:=by unfold gc;refine ae (jR h) ?_;refine gw (P:=λx=>x=aa .x) (λy=>rfl) λhb=>?_;refine(rW.mp (hx.resolve_left hb)).elim λr e=>?_;refine ae e ?_;rfl
structure CE(q:Q)(sc:jo)(ce:fC)(L0:aJ):Prop where
 s:ce.scope=Fp sc q.env
 l:ce.locals=L0
 g:ce.globals=q.env.globals
 c:ce.cells=tI sc.names q.env
 f:ce.frame=q.env.frame
 b:ce.builtins=q.env.builtins
abbrev Q.comp(q:Q)(sc:jo)(a:fC)(b:aJ)(l:List aJ)(r:Rh):Q:={A:=q.A,σ:=eO sc.names,env:=a,G:=gc q b l,ρ:=r,ln:=q.ln,me:=q.me}
theorem acU(K:aT W)(C:mH q.σ sc)(H:jp W n q s)(I:Nx W s s2)(g:Gr s2 s4)(R:s4.heap.Ns L0 λj=>ak)(T:s2.heap.get? a0=ak)(G:s2.heap.get? L0=ak)(L:(s4.heap.get? a0).isSome=af)(hc:Fv (nO q.σ sc.names) q.ρ=aa c)
  (O:∀b∈wr,s.heap.get? b=ak/\(s2.heap.get? b).isSome=af) (e:CE q sc ce L0) (Z:m=(sc.names.filter λx=>x.2== .local).length):bM W n (q.comp sc ce L0 (a0::wr) (c++eL m .U)) s4:=by
 have U:∀x∈sc.names,x.2= .free->(q.env.cells.lookup x.1).isSome=af:=λx hx D=>(H.fs.vS x.1 (C.free (am D hx)).1).2;have Q:∀nn b,(nn,b)∈ce.cells->(nn,lU.free)∈sc.names/\q.env.cells.lookup nn=aa b:=λnn b hb=>aeG U (am e.c hb);have kind:=aad e.s;have V:=g.keep;have A:=I.trans (g.nx I.i);have B:∀{b},s2.heap.get? b=ak->s.heap.get? b=ak:=mE λb hb=>I.k.bp hb id;have N:=agx hc;have fr:∀{x},sc.names.lookup x=aa .free->ce.kindOf x=aa .cell\/ce.kindOf x=aa .free:=λ{x} h=>by
  rw[kind,h];dsimp only [Option.map_some];split
  ·exact .inl rfl
  ·exact .inr rfl
 have old:∀b,gc q L0 (a0::wr) b≠ak->(s4.heap.get? b).isSome=af/\FB<=b:=λb=>E7 (P:=λx=>x≠ak->(s4.heap.get? b).isSome=af/\FB<=b) (λh j=>⟨h▸R.elim λo z=>z.elim λes z=>z.elim λep z=>dH z.1,h▸H.inv.low K (B G)⟩)
  (λh j=>h.elim (λh=>(ch.mp h).elim (λh=>⟨h▸L,h▸H.inv.low K (B T)⟩) λh=>⟨(gK.mp (O b h).2).elim λo e=>dH (V b o e),H.inv.low K (O b h).1⟩) λh=>⟨A.k.bp (H.old b h).1 id,(H.old b h).2⟩) λj h=>aC rfl h
 have tp:Tp q.X s.heap (q.comp sc ce L0 (a0::wr) (c++eL m .U)).X s4.heap:=.of A.k (λj j j h=>h.elim) λb o e=>E7 (P:=λx=>x≠ak->q.X b) (λh j=>aN ((h▸B G).symm.trans e)) (λh j=>h.elim (λh=>(ch.mp h).elim (λh=>aN ((h▸B T).symm.trans e)) λh=>aN ((O b h).1.symm.trans e)) id) λj h=>aC rfl h;have r:(nO q.σ sc.names).length=((sc.names.filter λx=>x.2== .free).map (·.1)).length:=by unfold nO;rw[aW,aW]
 refine{fs:=?_,rl:=am e.l o9,rc:=λnn b hb=>?_,len:=?_,ns:=⟨_,e.l▸R⟩,cell:=λnn b hb=>(H.cell nn b (mem_of_lookup (Q nn b hb).2)).imp λv Y=>o8 Y A.k id,at_:=λi nm a F h2 E=>?_,old:=old,hf:=H.hf.imp λl x=>⟨x.1,x.2.kp A.k⟩,inv:=A.i,me:=λC m h=>(aN h),F0:=C.nd,F1:=λx hx=>(C.JR hx).elim}
 ·exact{fn:=e.s▸C.kind,gl:=e.g.trans H.fs.gl,bl:=e.b.trans H.fs.bl,glob:=λx hx=>by rw[kind,show sc.names.lookup x=aa .globalImplicit from hx];rfl,loc:=λx hx=>by rw[kind,show sc.names.lookup x=aa .local from hx];rfl,vS:=λx hx=>hx.elim (λh=>(C.JR h).elim) λh=>⟨fr h,(gK.mp (U _ (mem_of_lookup h) rfl)).elim λc hc=>e.c▸dH (PZ (mem_of_lookup h) hc)⟩,room:=H.fs.room,hd:=H.fs.hd,ff:=e.f▸H.fs.ff,code:=λP p t h=>aN h}
 ·have hx:=mem_of_lookup (Q nn b hb).2;exact .inr ⟨Ba (λh=>dL (B (h▸G)) ((H.cell nn b hx).elim λv z=>z.elim λo z=>dH z.1)) (.inr ((H.rc nn b hx).elim (λz=>Internal.nn z) λz=>Internal.nn z.1)),λh=>C.JR h⟩
 ·show(c++eL m AV.U).length=(iT (_++_));rw[aS,aS,B5,Z,N.1,r,aW,aW]
 ·by_cases J:i<c.length
  ·rw[ql J]at E;have d7:=r▸N.1▸J;have F:((sc.names.filter λx=>x.2== .free).map (·.1)++(sc.names.filter λx=>x.2== .local).map (·.1))[i]?=aa nm:=F;rw[ql d7,kT]at F;refine(hJ.mp F).elim λx hx=>?_;have hf:=kj.mp (iQ hx.1);have D:=bt hf.2;have M:=C.free (show(x.1,lU.free)∈sc.names from am D hf.1);have hj:(nO q.σ sc.names)[i]?=aa (q.σ.ns.idxOf x.1):=by unfold nO;refine ae (kT) (ae hx.1 ?_);rfl
   refine(N.2 i _ hj).elim λd z=>?_;refine am hx.2 ?_;refine ae (show a=.val d from aM (E.symm.trans z.1)) ?_;have S:=List.idxOf_lt_length_iff.mpr M.2;refine .inr (((H.at_ (q.σ.ns.idxOf x.1) x.1 _ ((kc S).trans (aj aa (List.getElem_idxOf S))) (M.1.elim Internal.nn Internal.nn) z.2).resolve_left (λh=>c5 h rfl)).imp λv y=>⟨?_,bq.mv tp y.2⟩);refine y.1.elim (λw=>(H.fs.vS x.1 M.1).1.elim (λu=>c1 (u.symm.trans w.1) rfl) λu=>c1 (u.symm.trans w.1) rfl) λw=>w.2.elim λcc w=>.inr ⟨fr ((C.look x hf.1).trans (aj aa D)),cc,e.c▸PZ (am D hf.1) w.1,o8 w.2 A.k id⟩
  ·have E:=(wq (ft.mp J))▸E;exact .inl (NH (iQ E))
end
section
variable{n:Nat}
def cpW(W:Wd)(q:Q)(sc:jo)(e:aH)(use:Option (aA->dC Unit))(d:aA):Wt aA:=λQ E c=>ay W.M q.A (LZ []) (λacc f=>ay W.M q.A (newFunctionEnv sc q.env.globals (tI sc.names q.env) [] q.env.qual ak .none (aa q.env)) (λa b=>kq W.M q.A (.compStart e 0 d acc {a with scope:=Fp sc q.env}) (XI W.M q.A E use Q acc a.locals) b) E f) E c
structure CD(W:Wd)(q:Q)(s:aL)(L0 a0:aJ)(m:aB->Option aA)(ds:List D)(s5:aL):Prop where
 fa:s.heap.get? a0=ak
 fL:s.heap.get? L0=ak
 ne:a0≠L0
 ns:s5.heap.Ns L0 m
 n:Nx W s s5
 acc:∃ai,bG s5.heap "list" a0 ai/\a9 (λb=>q.X b\/b=a0\/b=L0) s5.heap ds ai
theorem acV(K:aT W){Q:bI}(C:mH q.σ sc)(H:jp W n q s)(Z:Nx W s s2)(hw:rN W q.A ag q.X s ai iv s2)(hc:Fv (nO q.σ sc.names) q.ρ=aa c)(jA:SX W n F (eO sc.names) e0 elt)
  (ht:Tg W n (eO sc.names) ag g.tup g.is t) (h1:g.tup=ag->∃i,g.is=[i]) (d4:CL W n F (eO sc.names) dS g.ifs) (cg:CG W n F (eO sc.names) gs cs) (he:Mb F elt (g::gs) ai (c++eL (sc.names.filter λx=>x.2== .local).length .U)=.ok ds) (hl:ds.length<=aI)
  (xU:∀R L0 a0 m,CD W q s L0 a0 m ds R->XI W.M q.A E use Q (.ref a0) L0 (.ok .next) R):cpW W q sc (.ListComp e0 (⟨t,x,dS,0⟩::cs) sc p) use iv Q E s2:=by
 refine hw.elim λI y=>y.elim λP y=>y.elim λSt y=>y.elim λfp y=>y.elim λu y=>?_;have w:=y.2;refine ae y.1 ?_;refine Th (af0 (λy hy q=>?_) (λy hy=>cf hy) (λyn mT O=>?_) C.kind) (cy _)
 ·exact(C.loc y hy).elim (λz=>c2 (z.symm.trans q) rfl) λz=>z.elim (λz=>c2 (z.symm.trans q) rfl) λz=>c2 (z.1.symm.trans q) rfl
 dsimp only [newEnv]at mT O⊢;generalize Mx:s2.heap.push {cls:=.type "list",dict:=ak,data:=.seq ([]).toArray}=ol at mT O⊢;have V:=Mx▸HG ..;have S:s2.heap.objs.size≠ol.objs.size:=V▸kZ (lO _);have L:s2.heap.get? s2.heap.objs.size=ak:=eh _;have D:s2.heap.get? ol.objs.size=ak:=ux (V▸gO _);have keep:=λb o e=>O.extBut b o (V▸kZ (OS (eM e))) (dA _ (Mx▸dA _ e));have jY:=O.extBut _ _ S (dA _ (Mx▸gk _ rfl));generalize My:({s2 with heap:=yn,toks:=s2.toks+([]).length})=s4;have J:s4.heap=yn:=am My rfl;have g4:Gr s2 s4:=⟨λb o e=>J▸keep b o e,am My rfl,am My rfl⟩;generalize a2:({scope:=Fp sc q.env,locals:=ol.objs.size,globals:=q.env.globals,cells:=tI sc.names q.env,qual:=q.env.qual,func:=ak,code:=q.env.code,frame:=q.env.frame,builtins:=q.env.builtins}:fC)=ce;have E4:CE q sc ce ol.objs.size:=am a2 ⟨rfl,rfl,rfl,rfl,rfl,rfl⟩;have Y:∀{b},s2.heap.get? b=ak->s.heap.get? b=ak:=mE λb hb=>Z.k.bp hb id;have B:∀{b},b∈fp->b≠s2.heap.objs.size/\b≠ol.objs.size:=λhb=>((w.f _ hb).2 _ _ w.st).elim λo z=>⟨λh=>(aN ((h▸L).symm.trans z.g)),λh=>aN ((h▸D).symm.trans z.g)⟩;have U:Wk W q.A ag (λb=>q.X b\/b=s2.heap.objs.size\/b=ol.objs.size) s ai I P St fp u s4:=
  {w with st:=J▸w.k.frame _ _ _ w.st λb a o e=>keep b o e,f:=λb hb=>⟨λh=>h.elim (w.f b hb).1 λh=>h.elim (B hb).1 (B hb).2,(w.f b hb).2⟩,it:=λi d v h Z' hd hP t=>w.it i d v h Z' hd hP λb o e hx=>t b o (g4.keep b o e) λh=>hx (h.imp (λh=>h.resolve_right λh=>h.elim (λh=>aN ((h▸L).symm.trans e)) λh=>aN ((h▸D).symm.trans e)) id)}
 have T:=E4.l;have wL:=λb hb=>(B (w.k.sub b hb)).2;have j:=abA (G0:=⟨t,x,dS,0⟩::cs) (sc:=sc) (p0:=p) (k:=0) (q:=q.comp sc ce ol.objs.size (s2.heap.objs.size::u) (c++eL (sc.names.filter λx=>x.2== .local).length .U)) (a0:=s2.heap.objs.size) (bf:=[]) (ds:=ds) K rfl jA cg rfl ht h1 d4 rfl
  ⟨λb hb=>Ba (wL b hb) (.inl (.tail _ hb)),Ba S (.inl (.head _)),λb=>T.symm▸E7 (P:=λx=>x≠ak/\x≠aa .x->b=ol.objs.size) (λh a=>h) (λa h=>aC rfl h.2) λa h=>aC rfl h.1⟩ (acU K C H Z g4 (J▸mT) L D (J▸dH jY) hc (λb hb=>⟨w.w b hb,(w.here w.st) b hb⟩) E4 rfl) U (λb=>E7 (P:=λx=>x≠ak->(q.X b\/b=s2.heap.objs.size\/b=ol.objs.size)\/b∈u) (λh a=>.inl (.inr (.inr h))) (λh a=>h.elim (λh=>(ch.mp h).elim (λh=>.inl (.inr (.inl h))) .inr) λh=>.inl (.inl h)) λa h=>aC rfl h) (λh=>(B h).1 rfl) (λh=>(B h).2 T) ⟨[],⟨0,J▸jY,cy _⟩,rfl⟩ he hl
 refine wR (Pe rfl j (U.k.self 0 s4 _ _ U.st j)) λa3 R G=>?_;simp only [G.r];refine G.h.ns.elim λm5 a1=>xU R _ _ m5 ⟨Y L,Y D,S,am T a1,⟨λb o e a=>(Z.k b o e id).elim λo2 N=>(G.k b o2 (g4.keep b o2 N.1) λh=>h.elim (λh=>aN ((h▸L).symm.trans N.1)) λh=>h.elim (λh=>aN ((h▸T.symm▸D).symm.trans N.1)) λh=>aN ((w.w b h).symm.trans e)).imp λo5 z5=>⟨z5.1,N.2.trans z5.2⟩,G.h.inv⟩,
  G.acc.imp λai z=>⟨z.1,z.2.mv (.sub λb o a h=>h.elim (λh=>?_) λh=>h.elim (λh=>?_) λh=>?_)⟩⟩
 ·exact nn ((dq (λz=>dL (w.w b z) (H.old b h).1)).trans (Ba (λe=>dL (Y (e▸D)) (H.old b h).1) (.inr h)))
 ·show ov u ak (gc q ol.objs.size (s2.heap.objs.size::u)) b≠ak;exact ae h (nn ((dq λz=>(B (w.k.sub _ z)).1 rfl).trans (Ba S (.inl (.head _)))))
 ·show ov u ak (gc q ol.objs.size (s2.heap.objs.size::u)) b≠ak;exact ae h (nn ((dq λz=>wL _ z rfl).trans o9))
theorem J.ofE{α β:Type}{o:Option α}{w:Wt β}{R:α->β->aL->Prop}(h:∀a,o=aa a->w (R a) (λx x=>False) s):J E (Ev.of o) w R s:=by cases o with|none=>trivial|some a=>exact h a rfl
theorem J.EJ{α β γ:Type}{o:Option α}{f:α->Ev γ}{w:Wt β}{R:γ->β->aL->Prop}(h:∀a,o=aa a->J E (f a) w R s):J E ((Ev.of o).bind f) w R s:=by cases o with|none=>trivial|some a=>exact h a rfl
theorem J.aeH{α β γ:Type}{o:Ev α}{f:α->Ev γ}{w:Wt β}{R:γ->β->aL->Prop}(h:∀a,o=.ok a->J E (f a) w R s):J E (o.calm.bind f) w R s:=by cases o with|ok a=>exact h a rfl|_=>trivial
theorem TI(K:aT W)(C:mH σ sc)(hi:SI W n F σ ag x g.it)(G:NF x)(u:SX W n F (eO sc.names) e0 elt)(ht:Tg W n (eO sc.names) ag g.tup g.is t)(j:g.tup=ag->∃i,g.is=[i])(S:CL W n F (eO sc.names) dS g.ifs)(T:CG W n F (eO sc.names) gs cs)
  (B:q.σ=σ) (P:Pl W n q E s) (r:∀ds b e a0 m,CD W q s e a0 m ds b->XI W.M q.A (λa a=>False) use (R (.list ds)) (.ref a0) e (.ok .next) b):
  J E (X.comp elt g gs (nO σ sc.names) (sc.names.filter λx=>x.2== .local).length F q.ρ).run (λQ E s=>ay W.M q.A (comprehension (.ListComp e0 (⟨t,x,dS,0⟩::cs) sc p) sc q.env (firstIterPos (⟨t,x,dS,0⟩::cs) p) (LZ []) (firstAsync (⟨t,x,dS,0⟩::cs)) (firstIter (⟨t,x,dS,0⟩::cs) q.env) use) Q E s) R s:=by
 subst B;have U:∀x∈sc.names,x.2= .free->(q.env.cells.lookup x.1).isSome=af:=λx hx H=>(P.h.fs.vS x.1 (C.free (H▸hx)).1).2;show J E ((g.it F q.ρ).bind λd=>_).run _ _ s;simp only [Tr.run_bind];refine J.bindM (w1:=λQ E s=>ay W.M q.A (eval x q.env) (λl o=>ay W.M q.A (nT l) Q E o) E s) (λE=>E) (λz j h2=>ba z (λl o z=>ba z j h2) h2)
  (λQ E k=>wpAny_comprehension_free rfl (λv=>G _ v) (HL U) C.kind (λy w f=>(C.look y w)▸am f rfl) k) (hi q E s rfl P) λd v V z=>?_
 simp only [Tr.AK];exact J.EJ λai O=>J.EJ λc N=>J.aeH λds L=>J.ofE λy I=>fN I λf=>z.elim λY z=>acV K C P.h z.2.1 ((aM (O.symm.trans (aj D.jU z.1)))▸z.2.2) N u ht j S T L f λb e a0 m=>r ds b e a0 m
theorem CD.drop(K:aT W)(H:jp W n q s)(c:CD W q s L0 a0 m ds s5)(hs:lR L0 s5.heap h'):Rs W q s (.list ds) (.ref a0) {s5 with heap:=h'}:=
 have k:bZ (·=L0) s5.heap h':=.sameBut hs rfl
 ⟨⟨λb o e x=>(c.n.k b o e id).elim λa z=>(k b a z.1 λh=>aN ((h▸c.fL).symm.trans e)).imp λf y=>⟨y.1,z.2.trans y.2⟩,c.n.i.above K (H.inv.low K c.fL) hs λo vs e d=>c.ns.elim λg y=>y.elim λes y=>y.elim λj y=>(AM (e.symm.trans y.1) d y.2.1).elim⟩,
  c.acc.elim λai z=>⟨a0,ai,rfl,λh=>dL c.fa (H.old a0 h).1,z.1.kp k c.ne,z.2.mv (.of k (λb x x h=>.inr (.inr h)) λb x x h=>.inl h)⟩⟩
theorem TJ(K:aT W)(C:mH σ sc)(hi:SI W n F σ ag x g.it)(d:NF x)(a:SX W n F (eO sc.names) e0 elt)(ht:Tg W n (eO sc.names) ag g.tup g.is t)(e:g.tup=ag->∃i,g.is=[i])(f:CL W n F (eO sc.names) dS g.ifs)(j:CG W n F (eO sc.names) gs cs):
  SX W n F σ (.ListComp e0 (⟨t,x,dS,0⟩::cs) sc p) (.comp elt g gs (nO σ sc.names) (sc.names.filter λx=>x.2== .local).length):=λq E s b P=>
 (TI K (use:=ak) C hi d a ht e f j b P λo k u r m c=>⟨m,c.ns,λl hs=>c.drop K P.h hs⟩).by λQ E h=>by simp only [eval_ListComp];exact h
end
section
variable{n:Nat}
theorem CD.store(K:aT W)(R:q.σ.ns[i]?=aa nm)(h2:q.σ.fj nm=af)(H:dZ W n q s)(c:CD W q s L0 a0 m ds s5){Q:aL->Prop}(N:∀s',So W n q s (q.at q.G (q.ρ.set i (.val (.list ds)))) .next .next s'->Q s'):
  ay W.M q.A (iZ (.Name nm p) q.env (.ref a0)) (λa f=>∃m,f.heap.Ns L0 m/\∀g,lR L0 f.heap g->Q {f with heap:=g}) E s5:=by
 have old:∀{b r},q.G b=aa r->b∉[L0]:=λe h=>dL (mq (P:=λb=>s.heap.get? b=ak) h c.fL) (H.old _ (nn e)).1;have hp:∀b∈[L0],(s5.heap.get? b).isSome=af:=λb hb=>mq (P:=λb=>(s5.heap.get? b).isSome=af) hb (c.ns.elim λo z=>z.elim λes z=>z.elim λC z=>dH z.1);have B:=wW K H.tobM c.n (λb hb=>mq (P:=λb=>s.heap.get? b=ak) hb c.fL) hp;have hx:∀b∈[L0],ov [L0] (aa .x) q.G b=aa .x:=λb=>fh;have F:bq (q.at (ov [L0] (aa .x) q.G) q.ρ).X s5.heap (.list ds) (.ref a0):=c.acc.elim λai z=>⟨a0,ai,rfl,λh=>gw (P:=λx=>x≠ak->False) (λh a=>c.ne (bB.mp h)) (λa h=>dL c.fa (H.old a0 h).1) h,z.1,z.2.mv (.sub λb a a=>gw (P:=λx=>x≠ak->q.X b\/b=a0\/b=L0) (λh a=>.inr (.inr (bB.mp h))) λa h=>.inl h)⟩;refine uB (mG (q:=q.at (ov [L0] (aa .x) q.G) q.ρ) K B.1 R (lq h2) F λf T t=>?_);have D:=lZ c.ns t.kp λh=>h.2 (fh (.head _));refine⟨m,D,λg hs=>N _ ?_⟩;have u:∀b o,b∉[L0]->f.heap.get? b=aa o->g.get? b=aa o:=λb o hb e=>(hs.2 b λh=>hb (bB.mpr h)).trans e;have z:=Oo (s':={f with heap:=g}) K T hx (λl I e J L O h=>dL (mq (P:=λb=>s.heap.get? b=ak) h c.fL) (H.hf.elim λV y=>((y.2 e (am (aM (I.symm.trans y.1)) J)).2.elim λY w=>w.elim λm w=>am (aM (w.1.symm.trans O)) (w.2.2.elim λo z=>z.elim λes z=>z.elim λC z=>dH z.1))))
  (λnn S hc h=>dL (mq (P:=λb=>s.heap.get? b=ak) h c.fL) ((H.cell nn S hc).elim λv z=>z.elim λo z=>dH z.1)) (λb o vs hb e d=>(mq (P:=λb=>f.heap.get? b=aa o->False) hb (λe=>D.elim λU y=>y.elim λes y=>y.elim λC y=>AM (e.symm.trans y.1) d y.2.1) e).elim) (λh=>aC rfl h) u rfl rfl
 have k:Mv W q s {(q.at q.G (q.ρ.set i (.val (.list ds))))with G:=ov [L0] ak (ov [L0] (aa .x) q.G)} {f with heap:=g}:=O4 (iq:=q.at (ov [L0] (aa .x) q.G) (q.ρ.set i (.val (.list ds)))) (s':={f with heap:=g}) (wr:=[L0]) (by have j:=PR (wr:=[L0]) t hx;show Mv W q s {q with G:=ov [L0] (aa .me) (ov [L0] (aa .x) q.G),ρ:=q.ρ.set i (.val (.list ds))} f;have j:Mv W {q with G:=ov [L0] (aa .me) (ov [L0] (aa .x) q.G)} s5 {q with G:=ov [L0] (aa .me) (ov [L0] (aa .x) q.G),ρ:=q.ρ.set i (.val (.list ds))} f:=j;rw[s9]at j⊢;exact B.2.trans j) (λb hb=>mq (P:=λb=>s.heap.get? b=ak) hb c.fL) u;rw[(s9.trans (Vj λb hb=>Zk.mpr λr e=>old e hb))]at z k;exact⟨H.up z,k,rfl⟩
theorem agy{x:X}(hf:Nm σ fz)(h:∀q E s,q.σ=σ->iz W n q E s->J E ((x F q.ρ).bind λd=>.ret (.next,q.ρ.set i (.val d))).run (q.W W (exec (.Assign [.Name nm p] e iM) q.env)) (Sr W n q s) s):SS W n F σ (.Assign [.Name nm p] e iM) (.asg fz i x):=u6 (t:=λr=>(x F r).bind λd=>.ret (.next,r.set i (.val d))) hf h
theorem agz(K:aT W)(hf:Nm σ fz)(o:σ.ns[i]?=aa nm)(l:σ.fj nm=af)(C:mH σ sc)(hi:SI W n F σ ag x g.it)(u:NF x)(j:SX W n F (eO sc.names) e0 elt)(ht:Tg W n (eO sc.names) ag g.tup g.is t)(w:g.tup=ag->∃i,g.is=[i])(z:CL W n F (eO sc.names) dS g.ifs)(A:CG W n F (eO sc.names) gs cs):
  SS W n F σ (.Assign [.Name nm p] (.ListComp e0 (⟨t,x,dS,0⟩::cs) sc p') iM) (.asg fz i (.comp elt g gs (nO σ sc.names) (sc.names.filter λx=>x.2== .local).length)):=
 agy hf λq E s a P=>by have e:∃b,xf (.ListComp e0 (⟨t,x,dS,0⟩::cs) sc p') (aa (.Name nm p)) iM.line q.env=pure b:=⟨_,rfl⟩;refine e.elim λb e=>?_;cases b with|false=>exact J.bind (λQ E k=>zp k e) (sx (TJ K C hi u j ht w z A) a P) λd v f r=>J.ret (mG K (P.h.nx r.n).tobM (ae a o) (lq (ae a l)) r.r λD H m=>⟨_,P.h.up H,(Mv.iI r.n).trans m,rfl⟩)|true=>refine J.bind (w2:=λy Q E f=>Q .next f) (λQ E k=>?_) (TI (use:=aa (iZ (.Name nm p) q.env)) (p:=p') K C hi u j ht w z A a P.pl λG B L I m c=>c.store K (ae a o) (ae a l) P.h λs' so=>⟨_,so⟩) λd v f r=>J.ret r;refine ae (exec_Assign_Name_used _ _ _ _ e) ?_;refine aE (kY (aE ?_));exact aE (ba k (λy s' h=>a8 (a8 h)) λy y h=>h)
end
section
theorem aeI:∀{ps:List aB} {vs:List aA} {m m':aB->Option aA},n∉ps->Nj kd (ps.zip vs) m n=m n/\Nk kd (ps.zip vs) m' n=m' n:=by
 intro ps
 induction ps with
 |nil=>exactλx=>⟨rfl,rfl⟩
 |cons p ps ih=>
  intro vs m m' h;cases vs with
  |nil=>exact⟨rfl,rfl⟩
  |cons w vs=>
   have hp:n≠p:=λe=>h (am e (.head _));have z:=λm m'=>ih (vs:=vs) (m:=m) (m':=m') λq=>h (.tail _ q);refine ae ((z _ m').1) (ae ((z m _).2) ?_);split
   ·exact⟨c9 hp,rfl⟩
   ·exact⟨rfl,c9 hp⟩
theorem agA:∀{ps:List aB} {vs:List aA} {m m':aB->Option aA} {i:Nat},ps.Nodup->ps[i]?=aa n->vs[i]?=aa v->(kd n=aa .local->Nj kd (ps.zip vs) m n=aa v)/\(kd n≠aa .local->Nk kd (ps.zip vs) m' n=aa v):=by
 intro ps
 induction ps with
 |nil=>exactλx h=>aN h
 |cons p ps ih=>
  intro vs m m' i c h b;cases vs with
  |nil=>exact aN b
  |cons w vs=>
   cases i with
   |succ i=>exact ih (sh.mp c).2 h b
   |zero=>
    have e:=aM h;have e':=aM b;subst e e';have z:=λm m'=>aeI (kd:=kd) (vs:=vs) (m:=m) (m':=m') (sh.mp c).1;exact⟨λa=>by
     show Nj kd (ps.zip vs) (if kd p=aa .local thenλy=>if y=p then aa w else m y else m) p=_;rw[(z _ m').1,cD a,cD rfl],λa=>by
     show Nk kd (ps.zip vs) (if kd p=aa .local then m' elseλy=>if y=p then aa w else m' y) p=_;rw[(z m _).2,c9 a,cD rfl]⟩
end
set_option tactic.hygienic true in
theorem HM:∀{k:Nat} {acc:List (aB×aJ)},(EA k names acc).map (·.1)=((names.filter (·.2==.cell)).map (·.1)).reverse++acc.map (·.1):=by
 induction names with
 |nil=>exact rfl
 |cons x r ih=>
  intro k acc;show(if x.2==.cell then EA (k+1) r ((x.1,k)::acc)else EA k r acc).map (·.1)=_;split
  ·rename_i h;simp only [ih,aao (p:=λx:aB×lU=>x.2==.cell) h,dB,dB,qq,bg];rfl
  ·rename_i h;simp only [ih,aap (p:=λx:aB×lU=>x.2==.cell) h]
theorem NN{α:Type}{n:aB}{c:α}{l:List (aB×α)}(hn:(l.map (·.1)).Nodup)(a:(n,c)∈l):l.lookup n=aa c:=by induction l with|nil=>cases a|cons x r ih=>rw[dB,sh]at hn;rw[sa];refine(ch.mp a).elim (λe=>by rw[<-e,kX]) λa=>?_;have b:n≠x.1:=λe=>hn.1 (by rw[<-e];exact wB (f:=(·.1)) a);rw[fX b];exact ih hn.2 a
theorem Dj{α:Type}{n:aB}{l:List (aB×α)}(hm:n∈l.map (·.1)):(l.lookup n).isSome=af:=by induction l with|nil=>cases hm|cons x r ih=>rw[sa];cases hb:n==x.1 with|true=>rfl|false=>exact ih ((ch.mp hm).resolve_left λe=>by rw[e,kX]at hb;cases hb)
structure tJ(W:Wd)(σ:Sc)(fa:aJ)(fd:K9)(np:Nat):Prop where
 obj:∃o,W.fr.lookup fa=aa o/\o.data=.func fd
 Mz:fd.closure=[]
 gl:fd.globals=jc
 bl:fd.builtins=nH
 co:fd.scope.isCoroutine=ag
 kind:fd.scope.kind=.function
 names:fd.scope.names=σ.tb
 nd:(σ.tb.map (·.1)).Nodup
 kinds:∀x∈σ.tb,x.2≠ .free
 cd:∃c oc vs t,fd.code=.ref c/\W.fr.lookup c=aa oc/\oc.data=.fields vs/\vs[1]?=aa (.str fd.qualname t)
 tab:∀P p q,σ.tab=aa (P,p,q)->(P,p,q)∈W.tabs/\(∃c,fd.code=.ref c/\AZ W.H0 c P)/\(fd.qualname++(".<locals>.":aB))++(if σ.n7 then("<lambda>":aB)else("<genexpr>":aB))=q
 MB:σ.ns.Nodup
 npl:np<=σ.ns.length
 par:∀x∈σ.ns.take np,σ.tb.lookup x=aa .local\/σ.tb.lookup x=aa .cell
def xw(A:dY)(n:Nat):Prop:=A.depth+1+8*n<900/\A.units+3+60*n<9000
theorem pN.one(h:pN A (n+1)):xw A n:=⟨bn (by omega) h.1,bn (by omega) h.2⟩
theorem pN.dep(h:pN A (n+1))(a:u<=7):A.depth+u+1+8*n<900:=bn (by omega) h.1
theorem pN.un(h:pN A (n+1))(a:u<=57):A.units+u+3+60*n<9000:=bn (by omega) h.2
def mU(G0:aJ->Option Ro)(L:aJ)(cs:List (aB×aJ)):aJ->Option Ro:=lF (λb=>(cs.find? λx=>x.2==b).elim (G0 b) λx=>aa (.c x.1)) L (aa .l)
theorem TK{P:Option Ro->Prop}(d:b=L->P (aa .l))(hc:∀n,(n,b)∈cs->P (aa (.c n)))(a:P (G0 b)):P (mU G0 L cs b):=by
 unfold mU;by_cases h:b=L
 ·simp only [h,o9];exact d h
 ·refine ae (jR h) ?_;cases e:cs.find? λx=>x.2==b with|none=>exact a|some x=>exact hc x.1 (by have:=bt (Hx (p:=λx:aB×aJ=>x.2==b) e);exact am this (Z1 e))
theorem al4:∀{cs:List (aB×aJ)},cs.Pairwise (λx y=>x.2≠y.2)->(n,b)∈cs->b≠L->mU G0 L cs b=aa (.c n):=by
 intro cs hp a d;unfold mU;refine ae (jR d) ?_;have e:cs.find? (λx=>x.2==b)=aa (n,b):=by induction cs with|nil=>cases a|cons x r ih=>simp only [se];refine(ch.mp a).elim (λe=>by rw[<-e,kX]) λa=>?_;exact ae (fX ((G7.mp hp).1 _ a)) (ih (G7.mp hp).2 a)
 refine ae e ?_;rfl
theorem Je(a:b≠L)(hc:∀n,(n,b)∉cs):mU G0 L cs b=G0 b:=TK (P:=λx=>x=G0 b) (λh=>aC h a) (λn h=>aC h (hc n)) rfl
structure En(W:Wd)(n:Nat)(A:dY)(np:Nat)(q:Q)(ev:List aA)(s:aL):Prop where
 room:xw A n
 hd:A.handled=ak
 hf:∃l,A.frames=aa l/\fQ s.heap l
 inv:Inv W s
 old:∀b,q.X b->(s.heap.get? b).isSome=af/\FB<=b
 len:q.ρ.length=q.σ.ns.length
 vl:ev.length=np
 arg:∀i a v,q.ρ[i]?=aa a->ev[i]?=aa v->a=.U\/eQ q s.heap i a v
 rest:∀i a nm,np<=i->q.ρ[i]?=aa a->q.σ.ns[i]?=aa nm->q.σ.tb.lookup nm≠ak->a=.U
 me:∀C m,q.σ.fs=aa (C,m)->∃vs,lz s.heap C q.me.1 q.me.2 vs/\q.G q.me.1=aa .me/\q.G q.me.2=aa .me/\q.me.1≠q.me.2/\q.σ.ns[0]?=aa ("self":aB)/\ev[0]?=aa (.ref q.me.1)/\(∀i nm,i<(bx C).length->q.σ.ns[m+i]?=aa nm->q.σ.tb.lookup nm=ak)/\
  ∀i a,i<(bx C).length->q.ρ[m+i]?=aa a->(a=.U/\vs.length<=i)\/∃v,vs[i]?=aa v/\eQ q s.heap (m+i) a v
section
variable{ev:List aA}
theorem CK(x:InCallC bY L m cs cm s):Gr bY s:=x.done.elim λa z=>z.elim λtk z=>ae z.1 (Gr.heap _ _ _ z.2)
abbrev Q.fn(q:Q)(A:dY)(env:fC):Q:={q with A:=A.deeper env,env:=env,G:=mU q.G env.locals env.cells}
theorem RV(K:aT W)(j:tJ W q.σ fa fd np)(e:En W n A np q ev s)
  (r:env=newEnv fd.scope s.heap.objs.size fd.globals (EA (s.heap.objs.size+1) fd.scope.names []) (fd.qualname++".<locals>.") (aa fa) fd.code ak fd.builtins)
  (x:InCallC s env.locals (Nj env.kindOf ((q.σ.ns.take np).zip ev) λd=>ak) env.cells (Nk env.kindOf ((q.σ.ns.take np).zip ev) λd=>ak) ao):dZ W n (q.fn A env) ao:=by
 have H:env.locals=s.heap.objs.size:=by refine ae r ?_;rfl
 have N:env.frame=aa s.heap.objs.size:=by refine ae r ?_;rfl
 have M:env.cells=EA (s.heap.objs.size+1) fd.scope.names []:=by refine ae r ?_;rfl
 have u:∀y,env.kindOf y=q.σ.tb.lookup y:=λy=>by simp only [r,<-j.names];rfl
 have Y:env.cells.map (·.1)=((q.σ.tb.filter (·.2==.cell)).map (·.1)).reverse:=by simp only [M,HM,j.names];exact bu _
 have L:(env.cells.map (·.1)).Nodup:=by refine ae Y ?_;rw[(List.reverse_perm _).nodup_iff];exact j.nd.sublist (List.filter_sublist.map _)
 have T:=λy g=>Dj (by refine ae Y ?_;rw[kV];exact wB (a:=(y,PA)) (kj.mpr ⟨mem_of_lookup g,rfl⟩));have Q:=λy c B=>x.cell y c (NN L B);have V:=H▸eh _;have X:=λy c B=>ux (dk (am H (x.above y c B)));have w:=(CK x).nx e.inv;have E:∀{b},(s.heap.get? b).isSome=af->mU q.G env.locals env.cells b=q.G b:=λhb=>Je (λh=>dL (h▸V) hb) λy h=>dL (X y _ h) hb;have I:=x.toInCall.ns;have Z:=I.elim λo z=>z.elim λes z=>z.elim λep z=>dH z.1;have var:∀(i:Nat) (y:aB) (v:aA),(q.σ.ns.take np)[i]?=aa y->ev[i]?=aa v->fy env ao.heap y v:=λi y v g F=>
  have z:=λm m'=>agA (m:=m) (m':=m') (j.MB.sublist (List.take_sublist _ _)) g F
  (j.par y (iQ g)).elim (λh=>.inl ⟨(u y).trans h,_,I,(z _ λd=>ak).1 ((u y).trans h)⟩) λh=>(gK.mp (T y h)).elim λc hc=>.inr ⟨.inl ((u y).trans h),c,hc,am ((z (λd=>ak) _).2 (λh'=>c1 (h.symm.trans ((u y).symm.trans h')) rfl)) (Q y c (mem_of_lookup hc))⟩
 have U:∀{i a v},eQ q s.heap i a v->eQ (q.fn A env) ao.heap i a v:=λz=>z.mv (.of (w.k.weak (Mt:=λd=>False)) (λd d d h=>h.elim) λb o O h hX=>h ((E (dH O)).trans hX)) (λa ai O y=>⟨(E y.bp).trans O,y.kp w.k id⟩) rfl;refine e.hf.elim λl J=>⟨⟨⟨?_,(o9:mU q.G env.locals env.cells env.locals=aa .l),λy c hc=>.inl (al4 x.apart hc λh=>aC (x.above y c hc) (am h (jI _))),e.len,⟨_,I⟩,λy c B=>⟨_,Q y c B⟩,λi y a S h2 R=>?_,λb=>?_,⟨env::l,?_,λf hf=>?_⟩,w.i,λC m h=>?_⟩,j.MB,λy g=>(u y).trans g⟩,⟨l,?_⟩,N.trans (aj aa H.symm)⟩
 ·exact{fn:=ae r j.kind,gl:=ae r j.gl,bl:=ae r j.bl,glob:=λy g=>(u y).trans g,loc:=λy g=>(u y).trans g,vS:=λy g=>g.elim (λh=>⟨.inl ((u y).trans h),T y h⟩) λh=>aC rfl (j.kinds _ (mem_of_lookup h)),room:=e.room,hd:=e.hd,ff:=⟨_,N⟩,code:=λP p t h=>have z:=j.tab P p t h;⟨z.1,ae r z.2.1,ae r z.2.2⟩}
 ·by_cases D:i<np
  ·have F:ev[i]?=aa (ev[i]'(am e.vl.symm D)):=kc _;exact(e.arg i a _ R F).imp id λz=>⟨_,var i y _ ((GP D).trans S) F,U z⟩
  ·exact .inl (e.rest i a y (ft.mp D) R S h2)
 ·exact TK (P:=λx=>x≠ak->(ao.heap.get? b).isSome=af/\FB<=b) (λh d=>⟨ae h Z,ae h (e.inv.low K V)⟩) (λy h d=>⟨(Q y b h).elim λo z=>dH z.1,e.inv.low K (X y b h)⟩) λh=>⟨w.k.bp (e.old b h).1 id,(e.old b h).2⟩
 ·show A.frames.map _=_;refine ae J.1 ?_;rfl
 ·refine(ch.mp hf).elim (λh=>?_) ((J.2.kp w.k) f);exact ae h (⟨λh=>(nomatch (r▸j.kind:env.scope.kind=.function).symm.trans h),_,_,N,e.inv.low K (eh _),am H I⟩)
 ·exact(e.me C m h).imp λvs z=>⟨z.1.kp w.k id id,(E (e.old _ (nn z.2.1)).1).trans z.2.1,(E (e.old _ (nn z.2.2.1)).1).trans z.2.2.1,z.2.2.2.1,var 0 _ _ ((GP (e.vl▸(dX.mp z.2.2.2.2.2.1).1)).trans z.2.2.2.2.1) z.2.2.2.2.2.1,z.2.2.2.2.2.2.1,λi a D ha=>(z.2.2.2.2.2.2.2 i a D ha).imp id λy=>y.imp λv y=>⟨y.1,U y.2⟩⟩
 ·show A.frames.map _=_;refine ae J.1 ?_;rfl
end
section
variable{ev:List aA}
def cR(Q:bI)(E:bI)(r:L6)(s':aL):Prop:=match r with|.ok f=>∃v,f=.ret v/\Q v s'|.error e=>E e s'
def pJ(W:Wd)(A:dY)(fa:aJ)(a:List aA):Wt aA:=λQ E s=>kq W.M A (.call (.ref fa) ⟨a,[]⟩) (cR Q E) s
structure BD(W:Wd)(n:Nat)(A:dY)(q:Q)(s:aL)(o:D×Rh)(v:aA)(s':aL)(env:fC)(G:aJ->Option Ro):Prop where
 h:dZ W n ((q.fn A env).at G o.2) s'
 r:bq ((q.fn A env).at G o.2).X s'.heap o.1 v
 k:bZ q.my s.heap s'.heap
 gx:∀b,(s.heap.get? b).isSome=af->(G b=aa .x↔q.G b=aa .x)
 new:∀b,G b≠ak->G b≠aa .x->q.my b\/s.heap.get? b=ak
 bp:∀b,(s.heap.get? b).isSome=af->(s'.heap.get? b).isSome=af
 hf:∃l,A.frames=aa l/\fQ s'.heap l
def Bc(a:List T)(F:Fn)(r:Rh):Ev (D×Rh):=(be a F r).run.bind λo=>(iH o.1).bind λd=>.ok (d,o.2)
theorem IK(K:aT W)(p:tJ W q.σ fa fd np)(Z:fd.scope.isGenerator=ag)(hb:fd.body=.stmts b)(hS:gG W n F q.σ b ts)(e:En W n A np q ev s)(V:vh s fd ⟨BC,[]⟩ ((q.σ.ns.take np).zip ev))
  (hE:∀x s',dw W A ag ak q.my s x s'->E x s'):J E (Bc ts F q.ρ) (pJ W A fa BC) (λo v s'=>∃env G,BD W n A q s o v s' env G) s:=by
 have C:∀(P:bI) (L:bI),(∀env ao,dZ W n (q.fn A env) ao->Gr s ao->s.heap.get? env.locals=ak->(∀y c,(y,c)∈env.cells->s.heap.get? c=ak)->ay W.M (A.deeper env) (gV b env) (λf s'=>P (match f with|.ret v=>v|_=>.none) s') (λx s'=>ay W.M (A.deeper env) (sY env x) (λa u=>L x u) (λU u=>L U u) s') ao)->pJ W A fa BC P L s:=by
  intro P L h;refine p.obj.elim λo S=>p.cd.elim λc z=>z.elim λQ z=>z.elim λMC z=>z.elim λt z=>?_;refine codeAny_call_function (bn (by omega) (bX e.room.1 (by decide:900<1000))) (e.inv.fP K fa o S.1) S.2 p.co Z hb ⟨c,Q,MC,t,z.1,e.inv.fP K c Q z.2.1,z.2.2.1,z.2.2.2⟩ ?_;refine ae p.Mz ?_;refine V _ _ _ _ (aa9 p.kind (λx hx=>?_) λenv R ao x=>⟨(e.inv.lim K).keeps (CK x).keep,codeAny_func ?_⟩)
  ·refine ae p.names ?_;refine(p.par x.1 (afW hx).1).imp id λh=>⟨h,Dj ?_⟩;exact ae HM (ke _ (kV.mpr (wB (kj.mpr ⟨mem_of_lookup h,rfl⟩))))
  ·have j:env.locals=s.heap.objs.size:=by refine ae R ?_;rfl
   exact ba (h env ao (RV K p e R x) (CK x) (ae j (eh _)) λy c O=>ux (dk (am j (x.above y c O)))) (λf s' h=>⟨_,rfl,h⟩) λx s' h=>h
 have my:∀{env:fC},s.heap.get? env.locals=ak->(∀y c,(y,c)∈env.cells->s.heap.get? c=ak)->∀b,(s.heap.get? b).isSome=af->mU q.G env.locals env.cells b=q.G b:=λj hc b hb=>Je (λh=>dL (h▸j) hb) λy h=>dL (hc y _ h) hb;have sub:∀{env:fC},s.heap.get? env.locals=ak->(∀y c,(y,c)∈env.cells->s.heap.get? c=ak)->∀b o,s.heap.get? b=aa o->(q.fn A env).my b->q.my b:=λj hc b o e h=>by have z:mU q.G _ _ b≠ak/\mU q.G _ _ b≠aa .x:=h;have z:=(my j hc b (dH e))▸z;exact z
 have tail:∀{env:fC} {s':aL},(∃l,(A.deeper env).frames=aa l/\fQ s'.heap l)->∃l,A.frames=aa l/\fQ s'.heap l:=λ{env s'} h=>h.elim λl z=>e.hf.elim λY y=>⟨Y,y.1,λf hf=>z.2 f (ae (aM (z.1.symm.trans (by show A.frames.map _=_;refine ae y.1 ?_;rfl))) (.tail _ hf))⟩;unfold Bc;have body:=λenv ao (H)=>hS (q.fn A env) (λx s'=>dw W (A.deeper env) ag env.frame (q.fn A env).my ao x s') ao rfl ⟨H,λa a=>id⟩;have body:∀env ao,dZ W n (q.fn A env) ao->J (λx s'=>dw W (A.deeper env) ag env.frame (q.fn A env).my ao x s') (be ts F q.ρ).run (ay W.M (A.deeper env) (gV b env)) (Sr W n (q.fn A env) ao) ao:=body;revert body;cases(be ts F q.ρ).run with
 |no=>exactλa=>trivial
 |exc=>refineλbody=>C _ _ λenv ao H g j hc=>ba (body env ao H) (λf s' h=>h.elim) λx s' h=>H.top.elim λN ht=>ael K ht H.loc H.inv h λu y=>hE x u ?_;have w:=(y.before (g.kp _) (sub j hc) λb hb=>(g.kp λa=>False).bp hb id).loose;exact⟨w.ob,w.k,w.i,w.bp,tail w.hf⟩
 |ok o=>
  intro body;have T:∀(d:D) (fv:mj->aA),iH o.1=.ok d->(∀X h f,vF X h o.1 f->bq X h d (match f with|.ret v=>v|_=>.none))->pJ W A fa BC (λv s'=>∃env G,BD W n A q s (d,o.2) v s' env G) (λa a=>False) s:=λd fv hd hf=>C _ _ λenv ao H g j hc=>ba (body env ao H) (λf s' h=>h.elim λG so=>⟨env,G,so.h,hf _ _ f so.f,λb B I O=>so.m.kp b B (g.keep b B I) λh=>O (sub j hc b B I h),λb hb=>(so.m.gx b).trans (by show mU q.G _ _ b=_↔_;rw[my j hc b hb]),
   λb h1 h2=>(so.m.new b ⟨h1,h2⟩).elim (λh=>(hV (s.heap.get? b=ak)).elim .inr λhn=>.inl ((rW.mp hn).elim λB I=>sub j hc b B I h)) λh=>.inr (mE (λb hb=>(g.kp λa=>False).bp hb id) h),λb hb=>so.m.bp b ((g.kp λa=>False).bp hb id),tail so.h.hf⟩) λa a h=>h.elim
  cases o with
  |mk fl r=>cases fl with|next=>exact T .none (λa=>.none) rfl λX h f hf=>ae (hf) rfl|brk=>trivial|cont=>trivial|ret d=>exact T d (λa=>.none) rfl λX h f hf=>iF hf λv z=>ae z.1 z.2
end
open Classical in
noncomputable def gX(X:aJ->Prop)(b:aJ):Option Ro:=if X b then aa .x else ak
theorem WZ{X:aJ->Prop}(h:X b):gX X b=aa .x:=cD h
theorem vp{X:aJ->Prop}{P:Option Ro->Prop}(h:X b->P (aa .x))(a:¬X b->P ak):P (gX X b):=by
 unfold gX;split
 ·exact h ‹_›
 ·exact a ‹_›
def qV(A:dY)(σ:Sc)(env:fC)(X:aJ->Prop)(ds:List D)(m:Nat):Q:={A:=A,σ:=σ,env:=env,G:=gX X,ρ:=ds.map .val++eL m .U,ln:=λx=>0,me:=(0,0)}
section
variable{X:aJ->Prop}
theorem Dk{Q:bI}(h:pJ W A fa vs Q E s)(a:∀v s',Q v s'->Q' v s')(h2:∀x s',E x s'->E' x s'):pJ W A fa vs Q' E' s:=wR h λr s' z=>by cases r with|ok f=>exact alh (λv z=>⟨z.1,a _ _ z.2⟩) z|error e=>exact h2 _ _ z
theorem J.fst(j:J E (Bc ts F r) (pJ W A fa vs) R s)(h:∀o v s',R o v s'->R' o.1 v s'):J E ((be ts F r).run.bind λo=>iH o.1) (pJ W A fa vs) R' s:=by
 unfold Bc at j;revert j;cases(be ts F r).run with
 |no=>exact id
 |exc=>exact id
 |ok o=>show J E ((iH o.1).bind _) _ _ s->J E (iH o.1) _ _ s;cases iH o.1 with|no=>exact id|exc=>exact id|ok d=>exactλj=>Dk j (λv s'=>h (d,o.2) v s') λx x h=>h
theorem RW(j:xw A n)(hd:A.handled=ak)(hf:∃l,A.frames=aa l/\fQ s.heap l)(I:Inv W s)(o:∀b,X b->(s.heap.get? b).isSome=af/\FB<=b)(r:a9 X s.heap ds vs)(e:ds.length=np)(k:np+m=σ.ns.length)(p:σ.fs=ak):En W n A np (qV A σ env X ds m) vs s where
 room:=j
 hd:=hd
 hf:=hf
 inv:=I
 old:=λb=>vp (P:=λx=>x≠ak->(s.heap.get? b).isSome=af/\FB<=b) (λh y=>o b h) λy h=>aC rfl h
 len:=by show(ds.map AV.val++eL m AV.U).length=σ.ns.length;simp only [aS,aW,B5,e,k]
 vl:=r.length.trans e
 arg:=λi a v c g=>by
  have f:i<(ds.map AV.val).length:=by rw[aW];refine am r.length ?_;exact(dX.mp g).1
  have c:(ds.map AV.val++eL m AV.U)[i]?=aa a:=c;rw[ql f,kT]at c;exact(hJ.mp c).elim λd z=>.inr (am z.2 ((r.at z.1 g).mv (.sub λb y y=>vp (P:=λx=>x≠ak->X b) (λh y=>h) λy h=>aC rfl h)))
 rest:=λi a nm f c y y=>by have c:(ds.map AV.val++eL m AV.U)[i]?=aa a:=c;rw[wq (by rw[aW];refine ae e ?_;exact f)]at c;exact NH (iQ c)
 me:=λC m h=>aN (p.symm.trans h)
theorem P4(K:aT W)(w:tJ W σ fa fd np)(j:fd.scope.isGenerator=ag)(hb:fd.body=.stmts b)(t:gG W n F σ b ts)(f:vh s fd ⟨vs,[]⟩ ((σ.ns.take np).zip vs))(q:ds.length=np)(p:np+m=σ.ns.length)(u:σ.fs=ak)
  (g:xw A n) (hd:A.handled=ak) (hf:∃l,A.frames=aa l/\fQ s.heap l) (I:Inv W s) (a:∀b,X b->(s.heap.get? b).isSome=af/\FB<=b) (r:a9 X s.heap ds vs):
  J (Ex W A s) ((be ts F (ds.map .val++eL m .U)).run.bind λo=>iH o.1) (pJ W A fa vs) (λd v s'=>Nx W s s'/\bq X s'.heap d v) s:=by
 have c:∀b,¬(qV A σ (default) X ds m).my b:=λb h=>vp (P:=λx=>¬(x≠ak/\x≠aa .x)) (λy h=>h.2 rfl) (λy h=>h.1 rfl) h;refine J.fst (IK K w j hb t (RW g hd hf I a r q p u) f λx s' h=>⟨h.ob,h.k.mono λb y y z=>c b z,h.i,h.bp,h.hf⟩) λo v s' h=>h.elim λenv h=>h.elim λG h=>⟨⟨h.k.mono λb y y z=>c b z,h.h.inv⟩,h.r.mv (.sub λb o e hb=>nn ((h.gx b ?_).mpr (WZ hb)))⟩;exact(a b hb).1
theorem acW(K:aT W)(k:tJ W σ fa fd np)(d:fd.scope.isGenerator=ag)(hb:fd.body=.stmts b)(i:gG W n F σ b ts)(c:∀s vs,sK W.fr s.heap->vs.length=np->vh s fd ⟨vs,[]⟩ ((σ.ns.take np).zip vs))(a:ds.length=np)(g:np+m=σ.ns.length)(j:σ.fs=ak):
  pE W (n+1) (.ref fa) ((be ts F (ds.map .val++eL m .U)).run.bind λo=>iH o.1) ds:=λA s X vs o r=>
 (P4 K k d hb i (c s vs (o.inv.fP K) (r.length.trans a)) a g j o.room.one o.hd o.hf o.inv o.old r).by λQ E h=>w7 (wR h λr s' z=>by
  cases r with
  |ok f=>exact iF z λv z=>z.1▸z.2
  |error e=>exact z)
end
theorem Ip(x:AZ h c P)(k:Kp h h'):AZ h' c P:=x.imp λo x=>x.imp λvs x=>x.imp λd x=>x.imp λg x=>x.imp λa x=>x.imp λf x=>x.imp λe x=>x.imp λb x=>x.imp λtt x=>⟨k.get x.1 id (.inl λes n q=>c3 (x.2.2.1.symm.trans q) rfl) (.inl λq=>c4 (x.2.1.symm.trans q) rfl),x.2⟩
theorem G8(x:h.BuiltinsAt mg P)(k:Kp h h'):h'.BuiltinsAt mg P:=x.imp λbm x=>x.imp λo x=>⟨x.1,x.2.1,x.2.2.1,x.2.2.2.1,k.get x.2.2.2.2.1 id (.inl λes n q=>c3 (x.2.2.2.2.2.2.2.symm.trans q) rfl) (.inl λq=>c4 (x.2.2.2.2.2.1.symm.trans q) rfl),x.2.2.2.2.2⟩
section
variable{M:Bk}{A:dY}{E:bI}{s:aL}{name qual:aB}{params:xg}{body:aH}{scope:jo}{env:fC}{c P:aJ}{ps:Array aA}{pos:bQ}{firstLine:Nat}{mg:aB->Option aA}
 {FD:List (aB×aJ)} {Q:bI}
theorem agB(N:JG scope env=pure FD)(J:FD≠[])(n:env.globals=jc)(z:s.heap.Ns jc mg)(V:env.code=.ref c)(C:AZ s.heap c P)(B:s.heap.get? P=aa (tC ps))(ht:TriplesOk ps.toList)
  (f:Kv pos ps.toList=ak) (F:jc≠P) (hb:s.heap.BuiltinsAt mg P)
  (h:∀d G a tk o vs t,alx P s.heap a->s.heap.objs.size<=d->a.get? d=aa o->o.cls=.type "code"->o.data=.fields vs->vs[1]?=aa (.str qual t)->a.get? P=aa (tC (ps++#[fg pos.line,fg pos.col,.ref d]))->
   Q (.ref a.objs.size) {s with heap:=a.push (kla_obj name qual params body scope FD ((mg "__name__").getD .none) d G),toks:=tk}):
  ay M A (makeFunction name qual params (.expr body) scope env [] [] [] pos firstLine) Q E s:=by
 rw[makeFunction_eq];simp only [List.zip_nil_right,List.filterMap_nil,List.isEmpty_nil,if_true,pure_bind];obtain⟨bm,ob,i,m,_,l,U,R,u,p⟩:=hb;unfold makeTail;refine ae N (ae n ?_);refine aE (a8 ?_);cases FD with
 |nil=>exact aC rfl J
 |cons q r=>
  simp only [List.isEmpty_cons,adR,if_false];refine aE (wpAny_newTextTuple ?_);refine aE (wpAny_functionCodeX V ((C.keeps λb o e=>dA _ e).code (dA _ B) ht) ((C.keeps λb o e=>dA _ e).tab (dA _ B)) f λd a tk hx O W x S T g=>?_);have w:=λb o H e=>hx b o H (dA _ e);have k:s.heap.objs.size<=d:=aw (by rw[HG];omega) O;refine aE (alo ((z.push _).extBut hx F) i m (w _ _ l U) R u p ?_);refine aE (aqi ((z.push _).extBut hx F) ?_);obtain⟨D,o,vs,t,L,y,hd,K⟩:=S;cases L;obtain⟨X,_,_,⟨⟨I,Y,v,j,_⟩,_⟩⟩:=g;have:I=o:=by have v:=y▸v;cases v;rfl
  subst this;exact aE (a8 (Hw (h _ _ a tk _ _ _ w k y j hd K T.2) (by size_fits)))
end
section
theorem QI(K:aT W){tk:kR}(I:Inv W s)(d:(P,p,t)∈W.tabs)(l:s.heap.get? P=aa (tC #[]))
  (hx:alx P s.heap h') (q:h'.get? c'=aa oc) (h2:oc.cls=.type "code") (o:oc.data=.fields vs) (n:vs[1]?=aa (.str t tq)) (m:h'.get? P=aa (tC #[fg p.line,fg p.col,.ref c'])):
  Nx W s {s with heap:=h',toks:=tk}:=by
 have k:Kp s.heap h':=λb ob e x=>(hV (b=P)).elim (λhb=>⟨_,(aj h'.get? hb).trans m,by have f:=aM (l.symm.trans ((aj s.heap.get? hb).symm.trans e));exact am f (⟨rfl,rfl,.inr ⟨ae hb ((I.tabs P p t d).1),rfl,#[],#[fg p.line,fg p.col,.ref c'],rfl,rfl⟩,.inl rfl⟩)⟩) λhb=>⟨ob,hx b ob hb e,.refl ..⟩;refine⟨k,I.kp.trans k,I.bare,I.os,λa j i c=>⟨(I.tabs a j i c).1,(hV (a=P)).elim (λhb=>⟨_,(aj h'.get? hb).trans m,.inr ⟨c',oc,vs,tq,?_,q,h2,o,?_⟩⟩) λhb=>(I.tabs a j i c).2.imp λps y=>⟨hx a _ hb y.1,y.2.imp id λz=>z.imp λu z=>z.imp λw z=>z.imp λA z=>z.imp λv z=>{z with g:=hx u _ (λh=>?_) z.g}⟩⟩⟩
 ·have r:=K.Lh _ _ _ _ _ (hb▸c) d;exact ae r rfl
 ·have eq:=(K.xP _ _ _ (hb▸c)).trans (K.xP _ _ _ d).symm;exact ae eq n
 ·have f:=aM (l.symm.trans ((aj s.heap.get? h).symm.trans z.g));exact c4 ((aj K8 f).trans z.cl) rfl
structure pP(args:xg)(bd:aH)(sc:jo):Prop where
 a:∃q,args={posonlyargs:=[],args:=[{arg:="_path",annotation:=ak,pos:=q}],vararg:=ak,kwonlyargs:=[],kw_defaults:=[],kwarg:=ak,defaults:=[]}
 b:∃p1 p2 p3 p4:bQ,∃k,bd=.List [.Tuple [.Constant (.int 0) 0 p1,.Name "self" p2] k p3] p4
 k:sc.kind=.function
 n:sc.names=[(("_path":aB),lU.local),(("self":aB),lU.free)]
 g:sc.isGenerator=ag
 c:sc.isCoroutine=ag
theorem aeJ(K:aT W)(H:jp W n q s)(Z:q.σ.n7=af)(S:q.σ.tab=aa (P,p,t))(L:pP args bd sc)(hc:q.env.cells.lookup ("self":aB)=aa c):
  ay W.M q.A (eval (.Lambda args bd sc p) q.env) (λv s'=>Nx W s s'/\∃a,v=.ref a/\s.heap.get? a=ak/\sZ s'.heap a c P) E s:=by
 have z:=H.fs.code P p t S;have z:=(cD rfl)▸Z▸z;have u:=z.1;refine z.2.1.elim λcc m=>L.a.elim λU ha=>L.b.elim λN hb=>hb.elim λJ hb=>hb.elim λI hb=>hb.elim λG hb=>hb.elim λO hb=>?_;subst ha hb;have D:=(H.inv.tabs P p t u).1;have Q:JG sc q.env=pure [(("self":aB),c)]:=by refine ae (HL (λx hx j=>by have hx:=L.n▸hx;refine(ch.mp hx).elim (λe=>by have j:=e▸j;cases j) λhx=>?_;refine ae (bB.mp hx) ?_;rw[hc];rfl)) (ae L.n ?_);show pure [(("self":aB),(q.env.cells.lookup ("self":aB)).getD 0)]=_;refine ae hc ?_;rfl
 have C:=z.2.2.trans (K.xP _ _ _ u);have mk:∀{h:bF} {F r:aA} {f:aJ} {ov:Obj} {vs:Array aA},h.get? P=aa ov->ov.data=.fields vs->vs[2]?=aa (.ref f)->
   sZ (h.push {cls:=.type "function",data:=.func (kla_fn "<lambda>" (q.env.qual++"<lambda>") {posonlyargs:=[],args:=[{arg:="_path",annotation:=ak,pos:=U}],vararg:=ak,kwonlyargs:=[],kw_defaults:=[],kwarg:=ak,defaults:=[]} (.List [.Tuple [.Constant (.int 0) 0 N,.Name "self" J] O I] G) sc [(("self"),c)] F (.ref f) r)}) h.objs.size c P:=λ{h F r f ov vs} e1 e2 e3=>
  ⟨_,_,f,ov,vs,gk _ rfl,rfl,rfl,⟨rfl,rfl,rfl,rfl,rfl,C,D,rfl,⟨N,J,I,G,O,rfl⟩,L.k,L.n,L.g,L.c⟩,rfl,dA _ e1,e2,e3⟩
 refine kla_eval (by rfl) ?_;refine(H.inv.tabs P p t u).2.elim λps y=>y.2.elim (λMF=>?_) λd=>?_
 ·have l:=MF▸y.1;have F7:jc≠P:=λe=>(H.inv.glob K).elim λo w=>w.elim λes w=>w.elim λep w=>c3 ((aj px (aM ((e▸w.1:s.heap.get? P=aa o).symm.trans l))).symm.trans w.2.1) rfl;refine agB Q (OV _ _) H.fs.gl (H.inv.glob K) m.1 (Ip m.2 H.inv.kp) l trivial rfl F7 (G8 (K.bmain P D) H.inv.kp) λf r h tk o vs T hx MD Y Lm hd X BF=>?_;have R:=BF;have B:=QI (tk:=tk) K H.inv u l hx Y Lm hd (am z.2.2 X) R;exact⟨B.trans (vZ (.refl B.i) _),_,rfl,mE (λb hb=>B.k.bp hb id) (eh h),mk R rfl rfl⟩
 ·refine d.elim λf d=>d.elim λoc d=>d.elim λvs d=>d.elim λT d=>?_;have l:=d.e▸y.1;have hf:Kv p [fg p.line,fg p.col,.ref f]=aa (.ref f):=by simp[Kv,fg]
  refine kla_makeFunctionHit Q H.fs.gl (H.inv.glob K) m.1 (Ip m.2 H.inv.kp) l trivial hf (G8 (K.bmain P D) H.inv.kp) λr h tk j V=>?_;exact⟨Gr.nx (Gr.heap _ _ _ λb o e=>dA _ (j b o e)) H.inv,_,rfl,ux V,mk (j _ _ l) rfl rfl⟩
end
section
theorem J.allI{b α β:Type}{o:Ev α}{w:Wt β}{w':b->Wt β}{R:α->β->aL->Prop}{G:b->aL->Prop}(c:∀Q E,(∀i s',G i s'->w' i Q E s')->w Q E s)(j:∀i s',G i s'->J E o (w' i) R s'):J E o w R s:=by revert j;cases o with|no=>exactλx=>trivial|exc=>exact c _ _|ok a=>exact c _ _
theorem J.plain{a:D->bI}(j:J E o (ay M A m) R s)(h:∀v s',R .none v s'->a .none v s')(c:∀b v s',R (.bool b) v s'->a (.bool b) v s')(e:∀x s',E x s'->E' x s'):J E' (o.bind X.plain) (ay M A m) a s:=by
 revert j;cases o with
 |no=>exactλy=>trivial
 |exc=>exactλj=>ba j (λy y q=>q) e
 |ok d=>cases d with|none=>exactλj=>ba j h λy y q=>q.elim|bool b=>exactλj=>ba j (c b) λy y q=>q.elim|_=>exactλy=>trivial
theorem ajq(K:aT W)(Ph:vo W n F)(R:(nm,k)∈rb)(T:σ.ci nm=af)(r:jz (SX W n F σ) es xs)(S:σ.n7=af)(D:σ.tab=aa (P,pl,t))(L:pP args bd sc)
  (V:σ.ns[i]?=aa ("self":aB)) (h2:σ.tb.lookup ("self":aB)=aa .cell):SX W n F σ (.Call (.Name nm p) (.Lambda args bd sc pl::es) [] p') (.WE k i xs):=λq E s O H=>(Ph.call nm k R).elim λY z=>by
 subst O;show J E ((Tr.op (tF q.ρ[i]?)).bind λd=>_).run _ _ s;rw[Tr.run_bind,Tr.JI];refine J.EJ λd e=>(cG.mp e).elim λa e=>?_;cases a with
 |val d'=>
  rw[show d'=d from aM e.2]at e;refine((H.h.at_ i _ _ V (nn h2) e.1).resolve_left (λh=>c5 h rfl)).elim λN I=>?_;refine(I.1.elim (λw=>(H.h.fs.vS _ (.inl h2)).1.elim (λu=>c1 (u.symm.trans w.1) rfl) λu=>c1 (u.symm.trans w.1) rfl) λw=>w.2).elim λc hc=>?_;refine J.allI (w':=λa Q E j=>ay W.M q.A (vf (kv p' (jf es q.env))) (λvs m=>sK W.fr m.heap/\ay W.M q.A (call Y (.ref a::vs)) Q E m) E j) (G:=λa j=>Nx W s j/\s.heap.get? a=ak/\sZ j.heap a c P) (λQ E h=>?_) λa j g=>?_
  ·have hp:=(r.plain (env:=q.env) (pos:=p')).2;refine lg (sB K H.h (T) z.1 (xl K z.2.1 hp ?_));exact eK (ba (aeJ K H.h S D L hc.1) (λv j g=>g.2.elim λa y=>y.1▸h a j ⟨g.1,y.2⟩) λf f h=>h) rfl
  ·refine J.bind (λQ E h=>h) (uU r q E j rfl (H.nx g.1)) λZ vs m o=>?_;have l:=g.1.trans o.1;have B:=H.nx l;rw[Tr.AK];have U:=(H.h.inv.tabs P pl t (H.h.fs.code P pl t D).1).1;have rl:bq (λb=>q.X b/\b≠c) m.heap (.lam d) (.ref a):=⟨a,c,P,N,rfl,λy=>dL g.2.1 (H.h.old a y.1).1,λy=>y.2 rfl,λy=>aC (H.h.old P y.1).2 (nD.mpr (AL P U)),g.2.2.kp o.1.k id id,o8 hc.2 l.k id,bq.mv (.of l.k (λf f f q=>q.elim) λb f f y=>y.1) I.2⟩;have C:=z.2.2 (.lam d::Z) q.A m (λb=>q.X b/\b≠c) (.ref a::vs) {B.out with old:=λb y=>B.h.old b y.1} (.cons rl (o.2.1.mv (.sub λb f f y=>y.1)));exact(J.plain C (λv s' y=>⟨l.trans y.1,ae (y.2) rfl⟩) (λb v s' y=>⟨l.trans y.1,ae (y.2) rfl⟩) λx s' h=>B.e x s' h.left).by λQ E h=>⟨l.i.fP K,h⟩
 |_=>exact aN e.2
end
section
def C1:=λW A E s Z d v u=>(∀(K:aT W) (c:A.depth<900) (I:Inv W s) (e:∀b,Z b->(s.heap.get? b).isSome=af) (r:bq Z s.heap (.lam d) v),ay W.M A (call v [u]) (λa s'=>Nx W s s'/\bq Z s'.heap (.list [.tup [.int 0,d]]) a) E s:Prop)
def sk:=rJ C1 (aO rA (aO xR (aO nI (aO n8 (aO nI (aO FZ (aO nI nI)))))))
def abB:=sk.1
def abC:=sk.2.1
def abD:=sk.2.2.1
def lS:=sk.2.2.2.1
def HN:=sk.2.2.2.2.1
def Pg:=sk.2.2.2.2.2.1
def abE:=sk.2.2.2.2.2.2.1
def o7:=sk.2.2.2.2.2.2.2
theorem aaJ:C1 abB abC abD lS HN Pg abE o7:=λK F I G r=>by
 refine iF r λa r=>r.elim λc r=>r.elim λP r=>r.elim λv r=>r.2.2.2.2.1.elim λo x=>x.elim λm x=>x.elim λz x=>x.elim λU x=>x.elim λB x=>?_;refine ae r.1 ?_;have f:=x.f;have M:lS.heap.CodeRec m.code m.qualname:=(K.JK P f.tb).elim λp y=>y.elim λt w=>(I.tabs P p t w).2.elim λps y=>by
  have e:=x.e;have e:=(Hb (x.d'.symm.trans ((aj px (aM (y.1.symm.trans x.g'))).symm.trans rfl)))▸e;refine y.2.elim (λh=>by have e:=h▸e;exact aN e) λi=>i.elim λJ i=>i.elim λD i=>i.elim λN i=>i.elim λC i=>?_;have H:J=z:=by have e:=i.e▸e;exact adU (aM e)
  exact⟨z,D,N,C,x.k,am H i.g,i.d,i.q.trans (f.qual▸(K.xP _ _ _ w)▸rfl)⟩
 refine f.body.elim λS hb=>hb.elim λR hb=>hb.elim λQ hb=>hb.elim λO hb=>hb.elim λW L=>?_;refine w7 (kla_callFunE (bX F (eX rfl)) x.g x.d f.cor f.gen L M ?_);have E:Ld m ⟨[o7],[]⟩=pure [(fY "_path",o7)]:=by unfold Ld;refine ae f.params (ae f.defaults (ae f.kwdefaults ?_));rfl
 refine ae E ?_;refine a8 (af0 (by refine ae f.names ?_;simp) (by refine ae f.names ?_;simp) (λj V A=>?_) f.kind);have l:=λb o e=>A.extBut b o (kZ (eM e)) (dA _ e);refine⟨(I.lim K).keeps l,kla_codeExpr ?_⟩;simp only [f.closure];refine JD (eK (US (eK (OY ?_) rfl)) rfl);refine eK (nJ (aix f.kind ?_ rfl (r.2.2.2.2.2.1.keeps l) ?_)) rfl
 ·show m.scope.names.lookup _=_;refine ae f.names ?_;rfl
 refine hK ⟨(show 2<=je by decide),hK ⟨(show 1<=je by decide),?_⟩⟩;have g1:Gr lS {lS with heap:=j,toks:=lS.toks+[(fY "_path",o7)].length+1}:=Gr.heap _ _ _ l;have rd:a9 HN j [.int 0,Pg] [.int 0 (lS.toks+[(fY "_path",o7)].length),v]:=.cons (im _ _) (.cons (bq.mv (.kp (g1.kp _)) r.2.2.2.2.2.2) .nil);have u:=sN (s:={lS with heap:=j,toks:=lS.toks+[(fY "_path",o7)].length+1}) (T:="tuple") rd (show 2<=aI by decide) (lS.toks+[(fY "_path",o7)].length+1);have old:∀{b},HN b->(j.get? b).isSome=af:=λhb=>(gK.mp (G _ hb)).elim λo e=>dH (l _ _ e);have n:=sN (s:={lS with heap:=j.push {cls:=.type "tuple",data:=.seq #[.int 0 (lS.toks+[(fY "_path",o7)].length),v]},toks:=lS.toks+[(fY "_path",o7)].length+1}) (T:="list") (.cons ((n9 (λh=>dL (eh j) (old h)) u.2.2).2 u.2.1) .nil) (show 1<=aI by decide) (lS.toks+[(fY "_path",o7)].length+1);exact⟨((g1.trans u.1).trans n.1).nx I,(n9 (λh=>dL (eh (j.push _)) ((gK.mp (old h)).elim λo e=>dH (dA _ e))) n.2.2).1 n.2.1⟩
theorem aeK{W A E s Z d v u}:C1 W A E s Z d v u:=hC8 C1 aaJ
theorem agC(G:σ.ns[i]?=aa nm)(h2:σ.fK nm=af)(K:aT W)(hx:SX W n F σ e x)(hs:NS e):SX W n F σ (.Call (.Name nm p) [e] [] p') (.UY i x):=λq E s D H=>by
 subst D;show J E ((Tr.op (tF q.ρ[i]?)).bind λd=>_).run _ _ s;rw[Tr.run_bind,Tr.JI];refine J.EJ λf c=>(cG.mp c).elim λa c=>?_;cases a with
 |val d'=>
  rw[show d'=f from aM c.2]at c;refine J.opt λz t=>?_;cases f with
  |lam d=>
   have l:=iV h2;refine((H.h.at_ i _ _ G l.1 c.1).resolve_left (λh=>c5 h rfl)).elim λB m=>?_;have j:bq q.X s.heap (.lam d) B:=m.2;refine iF j λS y=>y.elim λR y=>y.elim λT y=>y.elim λA y=>?_;have I:=y.1;subst I;have v:(kv p' (jf [e] q.env)).any (·.1)=ag:=by rw[hs];rfl
   refine J.bind (λQ E h=>lg (nJ (nq H.h.fs.fn l.2.2 m.1 (aqd (by refine ae v ?_;rfl) keeps_F (wG v (eK (ba h (λu C k=>hK k) λz z h=>h) (hs [] q.env))))) l.2.1)) (hx q E s rfl H) λO u C r=>J.ret ⟨?_,?_⟩
   ·exact(y.2.2.2.2.1.kp r.n.k id id).elim λo w=>w.elim λf w=>w.elim λP w=>w.elim λN w=>w.elim λvs w=>⟨o.cls,o.dict,f,o.slots,ae w.g (am w.d rfl)⟩
   ·exact(ba (aeK K (bn (cB _ _) H.h.fs.room.1) r.n.i (λb hb=>r.n.k.bp (H.h.old b hb).1 id) (j.mv (.kp r.n.k))) (λL M y=>⟨r.n.trans y.1,am (aM t) y.2⟩) λz z h=>h)
  |_=>exact aN t
 |_=>exact aN c.2
end
section
theorem aaK{Q:bI}(K:aT W)(I:Inv W s)(g:(P,p,t)∈W.tabs)(n:∃c,env.code=.ref c/\AZ W.H0 c P)(h:∀d s',Nx W s s'->Q (.ref d) s'):ay W.M A (genexprCode env p t sc) Q E s:=n.elim λD hc=>by
 have C:=Ip hc.2 I.kp;refine(I.tabs P p t g).2.elim λps y=>y.2.elim (λk=>?_) λa=>a.elim λd a=>a.elim λq a=>a.elim λvs a=>a.elim λj a=>?_
 ·have b:=k▸y.1;refine wpAny_genexprCodeX hc.1 (C.code b trivial) (C.tab b) rfl λd v tk hx G B x l m f=>l.elim λi r=>r.elim λo r=>r.elim λvs r=>r.elim λj r=>f.elim λF z=>z.elim λx z=>z.elim λx z=>z.1.elim λu w=>w.elim λH w=>?_;have e:=adU r.1;subst e;exact h d _ (QI K I g b hx w.1 w.2.1 ((aj px (aM (w.1.symm.trans r.2.1))).trans r.2.2.1) r.2.2.2 m.2)
 ·have b:=a.e▸y.1;exact wpAny_genexprCode_hit hc.1 (C.code b trivial) (by simp[Kv,fg]) (h d s (.refl I))
theorem all_range{α:Type}(f:α->Bool)(l:List α)(g:Nat->Bool)(c:∀(j:Nat) a,l[j]?=aa a->g j=f a):(fc l.length).all g=l.all f:=by rw[iC,ew,ew];exact⟨λh a d=>(List.getElem?_of_mem d).elim λj b=>am (c j a b) (h j (nA.mpr (dX.mp b).1)),λh j b=>(c j _ (kc (nA.mp b))).trans (h _ (Cy _))⟩
theorem J.ajr{α:Type}{t:Tr D}{f:D->Option D}{w:Wt α}{R:D->bI}{a:D->α->aL->Prop}(j:J E t.run (ay M A m) R s)(h:∀d z,f d=aa z->ay M A m (R d) (λx x=>False) s->w (a z) (λx x=>False) s)(c:ay M A m (λx x=>False) E s->w (λx x=>False) E s):J E (t.bind λd=>.op (f d)).run w a s:=by rw[Tr.run_bind];revert j;cases t.run with|no=>exactλx=>trivial|exc=>exact c|ok d=>exactλj=>J.op λz b=>h d z b j
theorem abF(K:aT W)(B:ii W)(a3:σ.n7=ag)(xY:σ.tab=aa (P,p,t))(hf:σ.ci "all"=af)(hx:SX W n F σ x o)(a1:∀env v,genFold x env v=pure v)
  (D:sc.kind=.function) (I:sc.names=[((".0":aB),lU.local),(("s":aB),lU.local)]) (p9:sc.isCoroutine=ag):
  SX W n F σ (.Call (.Name "all" p1) [.GeneratorExp (.Compare (.Name "s" p2) [.Eq] [.Constant (.bytes []) k p3] p4) [⟨.Name "s" p5,x,[],0⟩] sc p] [] p6) (.dG DB o):=λq E s hq H=>by
 subst hq;have z:=H.h.fs.code P p t xY;rw[a3,c9 (eX rfl)]at z;have a2:JG sc q.env=pure []:=by refine ae (HL (λy C D=>by rw[I]at C;refine(ch.mp C).elim (λe=>by rw[e]at D;cases D) λC=>?_;have D:=(bB.mp C)▸D;cases D)) (ae I ?_);rfl
 have u:∀{Q:bI} {E:bI},ay W.M q.A (eval x q.env) (λv f=>ay (bH W.prog W.w) q.A (nT v) _ E f) E s->ay W.M q.A (eval (.Call (.Name "all" p1) [.GeneratorExp (.Compare (.Name "s" p2) [.Eq] [.Constant (.bytes []) k p3] p4) [⟨.Name "s" p5,x,[],0⟩] sc p] [] p6) q.env) Q E s:=λh=>lg (pi K B H.h hf (v:=.builtin "all") (by decide+kernel) (vD rfl (eK (wpAny_GeneratorExp_walksQ H.h.fs.hd p9 a2 (by refine ae I ?_;simp) (by refine ae I ?_;rfl) (by refine ae I ?_;rfl) D (bX (bn (cB _ _) H.h.fs.room.1) (by decide:900<1000)) h (a1 _)) rfl)));refine J.ajr (hx q E s rfl H) (λd y C h=>u (ba h (λv f r=>?_) λc c h=>h.elim)) λh=>u (ba h (λc c h=>h.elim) λc c h=>h);refine q7 C (λxs C g=>?_) r.r;refine iF g λa g=>g.elim λai g=>(cG.mp C).elim λl hl=>?_;have bv:=wO g.2.2.2 _ hl.1;simp only [g.1];refine PG g.2.2.1.isList ?_;have S:Nx W f {f with heap:=f.heap.push {cls:=.type "list_iterator",data:=.fields #[.ref a,.int 0 0]}}:=vZ (.refl r.n.i) _;refine⟨S.i.lim K,?_⟩;simp only [z.2.2];refine aaK K S.i z.1 z.2.1 λc' s3 R=>?_;have I3:=R.i;refine(G8 (K.bmain P (H.h.inv.tabs P p t z.1).1) I3.kp).elim λbm G=>G.elim λob G=>?_;simp only [H.h.fs.gl];refine alo (I3.glob K) G.1 G.2.1 G.2.2.2.2.1 G.2.2.2.2.2.1 G.2.2.2.2.2.2.1 G.2.2.2.2.2.2.2 ?_;have MG:=R.k.get (gk _ rfl) id (.inl λes n=>(λh=>c3 h rfl)) (.inl (λh=>c4 h rfl));have W2:=g.2.2.1.kp (S.k.trans R.k) id;have T:=r.n.i.low K (eh _);refine⟨f.heap.objs.size,[f.heap.objs.size,a],[f.heap.objs.size],ai.length,_,_,λc=>af,λi y=>∃b t,ai[i]?=aa (.bytes b t)/\y=.bool (b.toList==[]),rfl,λA' hA=>Te hA _ a (g.2.2.1.elim λn w=>kZ (eM w.1)) ai.toArray,⟨⟨_,MG,rfl,rfl⟩,W2.isList⟩,λb hb=>(ch.mp hb).elim (λe=>ae e (eM MG)) λhb=>mq (P:=λb=>b<s3.heap.objs.size) hb (W2.elim λn w=>eM w.1),I3.lim K,λhc=>?_,λa7 b0=>?_,λa5 h5 tk gs oq a4 a6 Z hW d6=>?_⟩
 ·rw[bB]at hc;simp only [<-hc]at T;exact aC T (eX rfl)
 ·refine⟨λA' E' i v O L hA hP mT m a0=>?_,λA' E' i v O L hA hP hz mT m a0=>?_⟩
  ·exact a8 ⟨rfl,O.heap,O.toks,rfl,λc c e=>e⟩
  ·have U:=rX▸hP;refine(bv.2 v (iQ U)).elim λb w=>w.elim λV w=>?_;rw[w.1]at U m;refine anR (nJ (afZ D ?_ mT m ?_) rfl) rfl
   ·show sc.names.lookup _=_;refine ae I ?_;rfl
   ·exact Ry (eq_bytes ⟨⟨b,V,U,rfl⟩,O.heap,O.toks+1,rfl,λc c e=>e⟩)
 ·refine hK (call_all_walkS (hW.in4_1.self 0 _ _ _ d6 ?_));have Vl:passing (λc=>af) ai.length 0=fc ai.length:=by
   unfold passing;exact ae ait (ae (uy.mpr (λc c=>rfl)) rfl)
  refine⟨a5,_,_,_,_,_,_,λj=>(match ai[j]? with|some v=>(mO v).isEmpty|none=>af),rfl,hW.in4_1,d6,?_,λs' m=>?_⟩
  ·rintro i y s6 Q E ⟨i',d7,b,V,tW,rfl⟩ MH;rw[Vl]at d7;have e:i=i':=by
    have dI:=(dX.mp d7).1;rw[kc dI,adS]at d7;exact aM d7
   subst e;dsimp only at MH;rw[tW]at MH;have e2:(b.toList==[])=(mO (.bytes b V)).isEmpty:=by show _=(b.toList.map bR).isEmpty;cases b.toList<;>rfl
   exact ae e2 (uA MH)
  ·refine ae Vl (ae OC (ae (all_range (λv=>(mO v).isEmpty) ai _ (λj a ha=>ha▸rfl)) ?_));have xT:ai.all (λv=>(mO v).isEmpty)=l.all (·.isEmpty):=by refine am bv.1 (ae Rk ?_);rfl
   refine ae xT ?_;have Y:∀b o,b≠f.heap.objs.size->s3.heap.get? b=aa o->s'.heap.get? b=aa o:=λb o hb e=>m.heap b o (λh=>(ch.mp h).elim (λh=>aC (eM e) (am h (jI _))) λh=>hb (bB.mp h)) (Z b o e);have X:=r.n.trans (S.trans R);refine am (aM hl.2) ⟨⟨λb o e c=>(X.k b o e id).imp λo3 w=>⟨Y b o3 (λh=>?_) w.1,w.2⟩,{kp:=λb o e c=>(I3.kp b o e id).imp λo3 w=>⟨Y b o3 (λh=>?_) w.1,w.2⟩,bare:=?_,os:=m.os.trans I3.os,tabs:=I3.tabs.next λb o vs e hd N=>Y b o (λh=>?_) e}⟩,rfl⟩
   ·exact(r.n.k b o e id).elim λo1 w=>aC (eM w.1) (am h (jI _))
   ·exact ft.mpr T (am h (am K.size (eM e)))
   ·exact⟨m.gens.bare (af1 I3.bare.1 oq),aw (aw I3.bare.2 (aw (gO _) (cJ (zt ..).symm))) (m.gens.elim (λq=>cJ (aj alt q).symm) λq=>cJ q.1.1.symm)⟩
   ·exact N.elim (λN=>aC (CH ((aj K8 (aM (MG.symm.trans (am h e)))).trans N)) (eX rfl)) λN=>ft.mpr T (am h (AL b N))
end
structure Vm(K:y6)(C:aJ)(m:Nat):Prop where
 hs:gv K (.ref C) "__setattr__"=aa (aa (.builtin "object.__setattr__"))
 hp:plainOver K C=af
 ht:takerIn K C (bJ m)=aa ak
 hh:(vQ K C).any (·.hasDict)=af
section
theorem lm.snoc:∀{xs:List Nat} {vs:List aA},lm es xs vs->lm (es++[⟨hsh,.str (bJ x) t,v⟩]) (xs++[x]) (vs++[v]):=by induction es with|nil=>intro xs vs h;exact ae (h.1) (ae (h.2) (⟨x,t,[],rfl,rfl,[],rfl,rfl,rfl⟩))|cons e es ih=>exactλ{xs vs} h=>h.elim λy h=>h.elim λu h=>h.elim λa h=>h.2.2.elim λc b=>⟨y,u,a++[x],ae h.1 rfl,h.2.1,c++[v],ae b.1 rfl,ih b.2⟩
theorem lm.none:∀{xs:List Nat} {vs:List aA},lm es xs vs->(∀x∈xs,bJ x≠nm)->es.findIdx? (·.key.isStr nm)=ak/\es.any (·.key.isStr nm)=ag:=by induction es with|nil=>exactλa a=>⟨rfl,rfl⟩|cons e es ih=>intro xs vs h b;refine h.elim λy h=>h.elim λu h=>h.elim λc h=>h.2.2.elim λg f=>?_;have b:=h.1▸b;have z:=ih f.2 λx hx=>b x (.tail _ hx);have d:e.key.isStr nm=ag:=ae h.2.1 (fX (b y (.head _)));simp only [Cg,zA,d,z.1,z.2];exact⟨rfl,rfl⟩
theorem lm.keys:∀{xs:List Nat} {vs:List aA},lm es xs vs->(∀e∈es,∃n t,e.key=.str n t)/\es.length=vs.length:=by induction es with|nil=>exactλh=>⟨λd hd=>aC hd gM,aj iT (h.2).symm⟩|cons e es ih=>exactλ{xs vs} h=>h.elim λy h=>h.elim λu h=>h.elim λb h=>h.2.2.elim λc a=>⟨λd hd=>(ch.mp hd).elim (λh2=>ae h2 ⟨_,_,h.2.1⟩) ((ih a.2).1 d),ae a.1 (aj (·+1) (ih a.2).2)⟩
end
section
structure Yc(h h':bF)(C a d:aJ)(vs:List aA):Prop where
 same:lR d h h'
 i:lz h' C a d vs
 dict:∃od es n,h.get? d=aa od/\od.data=.dict es n
 here:(h'.get? d).isSome=af
 ns:∀m,h.Ns d m->∃m',h'.Ns d m'
def C2:=λW A E s C a d x Q=>(∀{vs} {v} (K:aT W) (I:Inv W s) (hi:lz s.heap C a d vs) (c:a≠d) (hf:(bx C)[vs.length]?=aa x) (e:∀y∈(bx C).take vs.length,bJ y≠bJ x) (SF:Vm W.fr C x) (f:∀b tk,Yc s.heap b C a d (vs++[v])->Q () {s with heap:=b,toks:=tk}),ay W.M A (setAttr (.ref a) (bJ x) v) Q E s:Prop)
def qF:=j6 C2 (aO rA (aO xR (aO nI (aO n8 (aO nI (aO nI (aO nI (aO nI nI))))))))
def Dl:=qF.1
def abG:=qF.2.1
def abH:=qF.2.2.1
def wP:=qF.2.2.2.1
def Dn:=qF.2.2.2.2.1
def HO:=qF.2.2.2.2.2.1
def Pi:=qF.2.2.2.2.2.2.1
def k8:=qF.2.2.2.2.2.2.2.1
def abI:=qF.2.2.2.2.2.2.2.2
theorem aaL:C2 Dl abG abH wP Dn HO Pi k8 abI:=λ{vs} {v} K I i A hf B SF D=>i.elim λo z=>z.elim λd z=>z.elim λes z=>z.elim λf z=>by
 have X:=I.fP K;have u:InstAt wP.heap HO o Dn (aa d):=⟨z.g,z.cl,by unfold notCls;exact ae z.p rfl,ae z.di z.g'⟩;refine set_plain X u SF.hs (osa_open X u SF.hp SF.ht λb=>?_);refine(any_some SF.hh).elim λcd hc=>?_;have k:=z.e.none B;have ks:=z.e.keys;have y:=(z.e.look (nm:=bJ k8)).1;have e:=z.g;have c:=z.cl;have dd:=z.di;have j:=z.p;have a:=z.g';have n:=z.XM;have l:=z.XN;have r:=z.t;have E:=z.e;clear z i;cases o with
 |mk oc odi oda osl=>
 cases d with
 |mk dc ddi dda Ye=>
 dsimp only at c dd j n l r;subst c dd j n l r;refine aE (a8 (aE (aE (RE e (aE (Looks.here (looks_clsIn X hc.1) ?_))))));refine ae hc.2 ?_;refine a8 (aE (a8 (aE ?_)));unfold Nl;refine aE (aE (Qm (a8 (aE (ao1 (aE (RE a ?_)))))));dsimp only;have F:(!es.toArray.any (·.key.isStr (bJ k8))&&es.toArray.any (·.refKey))=ag:=by refine am ad0 (am ad0 ?_);simp only [y,wH]
 rw[ad3];refine ae F ?_;have s:∀(hh:Int) (tk:kR),DT (bJ k8) hh (.str (bJ k8) tk) v ({cls:=.type "dict",dict:=ak,data:=.dict es.toArray f,slots:=Ye})=({cls:=.type "dict",dict:=ak,data:=.dict (es++[({hash:=hh,key:=.str (bJ k8) tk,val:=v}:pn)]).toArray (f+1),slots:=Ye}):=λhh tk=>by refine ae Obj.putName_eq ?_;unfold Obj.putNameByArray;dsimp only;simp only [aa7,k.1];simp
 have g':=oK (DT (bJ k8) (CV Dl.w.params (bJ k8)) (.str (bJ k8) (wP.toks+1)) v) a (by rw[s];rfl);refine aly a ?_;rw[s]at g';have h:=nj wP.heap Pi (DT (bJ k8) (CV Dl.w.params (bJ k8)) (.str (bJ k8) (wP.toks+1)) v);have G:(bx Dn).length<=8:=by unfold bx;cases Dn==92<;>cases Dn==240<;>cases Dn==333<;>decide
 refine aE (wpAny_lookBehind g' (pastItsLine_dict (by simp only [r9,aS,ks.2];exact aw ((dX.mp hf).1) (aw G (eX rfl)))) ?_);have q:lm (es++[⟨CV Dl.w.params (bJ k8),.str (bJ k8) (wP.toks+1),v⟩]) ((bx Dn).take (vs++[v]).length) (vs++[v]):=by simp only [aS,aa6,adV,hf];exact E.snoc
 exact a8 (D _ _ ⟨h,⟨_,_,_,_,(h.2 HO A).trans e,rfl,rfl,rfl,g',rfl,rfl,rfl,q⟩,⟨_,_,_,a,rfl⟩,dH g',λm H=>⟨_,_,_,_,g',rfl,λe C=>q.keys.1 e (by simpa using C),λx=>rfl⟩⟩)
theorem aeL{W A E s C a d x Q}:C2 W A E s C a d x Q:=@vU _ _ _ _ _ _ _ _ _ C2 _ @aaL W A E s C a d x Q
end
section
variable{W:Wd}{n:Nat}{F:Fn}{σ:Sc}{q:Q}{A:dY}{E:bI}{s ao s':aL}{C m i:Nat}{vs:List aA}{v:aA}{a:AV}
theorem agD(K:aT W)(H:bM W n q s)(P:q.σ.fs=aa (C,m))(M:Me q s.heap C m vs)(hi:vs.length=i)(O:i<(bx C).length)(U:m+i<q.ρ.length)(D:eQ q s.heap (m+i) a v){r:bF}{tk:kR}(p:Yc s.heap r C q.me.1 q.me.2 (vs++[v])):
  bM W n {q with ρ:=q.ρ.set (m+i) a} {s with heap:=r,toks:=tk}/\Mv W q s {q with ρ:=q.ρ.set (m+i) a} {s with heap:=r,toks:=tk}:=by
 have k:bZ (·=q.me.2) s.heap r:=.sameBut p.same rfl;have nl:q.env.locals≠q.me.2:=λe=>cw (M.g2.symm.trans (e▸H.rl:q.G q.me.2=aa .l)) rfl;have nc:∀n c,(n,c)∈q.env.cells->c≠q.me.2:=λn c hc e=>(H.rc n c hc).elim (λz=>cw (M.g2.symm.trans (e▸z:q.G q.me.2=aa (.c n))) rfl) λz=>cw (M.g2.symm.trans (e▸z.1:q.G q.me.2=aa .x)) rfl;have tp:Tp q.X s.heap q.X r:=.of k (λb o g e=>ae e (nn M.g2)) λg g g=>id;have B:∀{j:Nat} {b:AV} {u:aA},eQ q s.heap j b u->eQ {q with ρ:=q.ρ.set (m+i) a} r j b u:=λ{j b u} z=>z.mv tp (λc ai e y=>⟨e,y.kp k λh=>cw (M.g2.symm.trans (h▸e:q.G q.me.2=aa (.o j))) rfl⟩) rfl;refine JN K H {same:=p.same,my:=⟨nn M.g2,λe=>(cw (M.g2.symm.trans e) rfl)⟩,here:=p.here,nf:=λo Q e d=>p.dict.elim λR y=>y.elim λes y=>y.elim λS y=>AM (e.symm.trans y.1) d y.2,ns:=λL t w=>if e:L=q.me.2 then ae e (p.ns t (am e w))else⟨t,lZ w k e⟩,cell:=λn c hc=>(H.cell n c hc).imp λu E=>o8 E k (nc n c hc),at_:=λnm I h2=>aC (M.n i nm O I) h2,vV:=λj nm u g g x=>k9 x k nl nc,own:=λj g e=>(cw (M.g2.symm.trans e) rfl),me:=λV T e=>?_};have A:=aM (P.symm.trans e);have N:=aj xh A;have J:=aj Ah A;subst N J;refine⟨vs++[v],{M with i:=p.i,s:=k9 M.s k nl nc,f:=λj b F hb=>?_}⟩;by_cases h:j=i
 ·subst h;refine .inr ⟨v,am hi (ZP),?_⟩;exact am (Am hb) (B D)
 ·refine(M.f j b F ((uv λe=>h (G5 e).symm).symm.trans hb)).imp (λz=>⟨z.1,?_⟩) λz=>z.imp λu y=>⟨(ql (dX.mp y.1).1).trans y.1,B y.2⟩;exact ae aS (Cj z.2 λe=>h (e.symm.trans hi))
def rh(m i:Nat)(r:Rh):Bool:=xj r[m+i]?&&(i==0||!xj r[m+(i-1)]?)
theorem acX(M:Me q s.heap C m vs)(d:i<(bx C).length)(a:rh m i q.ρ=af):vs.length=i/\m+i<q.ρ.length:=by
 unfold rh at a;rw[eg,ki,mz]at a;cases e:q.ρ[m+i]? with
 |none=>have a:=e▸a;cases a.1
 |some b=>
  rw[e]at a;cases b with
  |U=>refine⟨PC ((M.f i _ d e).elim (λz=>z.2) λz=>z.elim λu z=>z.2.elim) (a.2.elim (λh=>ae (bt h) (cy _)) λh=>?_),(dX.mp e).1⟩;cases i with|zero=>exact cy _|succ j=>rw[adX]at h;have c:m+j<q.ρ.length:=oQ (dX.mp e).1;refine(M.f j _ (oQ d) (kc c)).elim (λz=>?_) λz=>z.elim λu z=>(dX.mp z.1).1;have h:=z.1▸(kc c)▸h;cases h
  |_=>cases a.1
def xx(W:Wd):Prop:=∀(C i x:Nat),(bx C)[i]?=aa x->Vm W.fr C x
theorem Iq(K:aT W)(SA:xx W)(H:dZ W n q s)(f:q.σ.fs=aa (C,m)){x:Nat}{p g:bQ}(hx:(bx C)[i]?=aa x)(k:(((bx C).take i).all λy=>!(bJ y==bJ x))=af)(j:rh m i q.ρ=af)(h:eQ q s.heap (m+i) a v):
  ay W.M q.A (iZ (.Attribute (.Name "self" p) (bJ x) g) q.env v) (λb s'=>So W n q s (q.at q.G (q.ρ.set (m+i) a)) .next .next s') E s:=(H.me C m f).elim λvs M=>by
 have d:=(dX.mp hx).1;have l:=acX M d j;refine kas_attr (nJ (nq H.fs.fn rfl M.s (aeL K H.inv M.i M.ne (am l.1.symm hx) (λy c=>?_) (SA C i x hx) λo tk pt=>?_)) rfl)
 ·rw[l.1]at c;exactλe=>bb (((mz _).mp (ew.mp k y c)).symm.trans (gP.mpr e))
 ·have z:=agD (tk:=tk) K H.tobM f M l.1 d l.2 h pt;exact⟨H.up z.1,z.2,rfl⟩
end
def T.sat(m i:Nat)(x:X):T:=λF r=>(x F r).bind λd=>cond (rh m i r) (.ret (.next,r.set (m+i) (.val d))) .no
def T.W4(m i:Nat)(x:X):T:=λF r=>(x F r).bind λd=>.opt d.jU λl=>cond (rh m i r) (.ret (.next,r.set (m+i) (.own l))) .no
section
theorem ajs(K:aT W)(SA:xx W)(j:σ.fs=aa (C,m))(hf:(bx C)[i]?=aa y)(g:(((bx C).take i).all λz=>!(bJ z==bJ y))=af)(hx:SX W n F σ e x)(hc:NC e):SS W n F σ (.Assign [.Attribute (.Name "self" p) (bJ y) p'] e iM) (.sat m i x):=λq E s f P=>by subst f;refine J.bind (λQ E k=>aiD k (show xf e (aa (.Attribute (.Name "self" p) (bJ y) p')) iM.line q.env=pure ag from hc _ _ _) rfl) (sx hx rfl P) λd v o r=>?_;cases c:rh m i q.ρ with|false=>trivial|true=>exact J.ret (ba (Iq (a:=.val d) K SA (P.h.nx r.n) j hf g c r.r) (λb l so=>⟨q.G,so.h,(Mv.iI r.n).trans so.m,rfl⟩) λb b h=>h)
theorem agE(K:aT W)(SA:xx W)(A:σ.fs=aa (C,m))(hf:(bx C)[i]?=aa y)(u:(((bx C).take i).all λz=>!(bJ z==bJ y))=af)(hx:SF W n F σ e x)(hc:NC e):SS W n F σ (.Assign [.Attribute (.Name "self" p) (bJ y) p'] e iM) (.W4 m i x):=λq E s t P=>by subst t;refine J.bind (λQ E k=>aiD k (show xf e (aa (.Attribute (.Name "self" p) (bJ y) p')) iM.line q.env=pure ag from hc _ _ _) rfl) (hx q E s rfl P.pl) λd v G r=>J.opt λl w=>?_;cases j:rh m i q.ρ with|false=>trivial|true=>refine(r.2 l (D.IC w)).elim λa z=>z.elim λai f=>?_;have z:=Va (i:=m+i) K P.h.tobM r.1 f.new f.at_.bp;exact J.ret (ba (Iq (a:=.own l) K SA (P.h.up z.1) A hf u j ⟨a,ai,f.v,o9,f.at_,a9.mv (.sub λb o g e=>(hV (b=a)).elim .inr λh=>.inl λz=>e ((jR h).trans z)) f.r⟩) (λc B so=>⟨_,so.h,z.2.trans so.m,rfl⟩) λc c h=>h)
end
def T.W5(m i j:Nat)(x:X):T:=λF r=>(x F r).bind λd=>.opt (sM [m+i,j] d r) λa=>cond (rh m i r) (.ret (.next,a)) .no
section
theorem agF(K:aT W)(SA:xx W)(bV:σ.fs=aa (C,m))(hf:(bx C)[i]?=aa y)(hn:(((bx C).take i).all λz=>!(bJ z==bJ y))=af)(h1:σ.ns[j]?=aa nm)(h2:σ.fj nm=af)(hx:SX W n F σ e x)(hc:NC e)(ht:NT e):SS W n F σ (.Assign [.Tuple [.Attribute (.Name "self" p) (bJ y) p',.Name nm p3] k p4] e iM) (.W5 m i j x):=λq E s hq P=>by
 subst hq;refine J.bind (λQ E kk=>I5 kk (show xf e (aa (.Tuple [.Attribute (.Name "self" p) (bJ y) p',.Name nm p3] k p4)) iM.line q.env=pure ag from hc _ _ _) (ht _ _ _ _)) (sx hx rfl P) λd v f r=>J.opt λH hd=>?_;cases hr:rh m i q.ρ with
 |false=>trivial
 |true=>
  refine wV (P:=λd H=>bq q.X f.heap d v->J E (Tr.ret (Fl.next,H)).run (λQ E f=>ay W.M q.A (iZ (.Tuple [.Attribute (.Name "self" p) (bJ y) p',.Name nm p3] k p4) q.env v) (λc S=>Q .next S) E f) (Sr W n q s) f) hd (λl D U=>J.ret ?_) r.r;refine(TupIs.of U).elim λT z=>z.elim λai z=>?_;obtain⟨ai⟩:=ai;cases l with
  |nil=>cases D
  |cons d1 l=>
  cases l with
  |nil=>cases D
  |cons d2 l=>
  cases l with
  |cons _ _=>cases D
  |nil=>
  refine z.2.2.un.elim λO u=>u.elim λL u=>u.2.2.un.elim λN w=>w.elim λBG w=>?_;have e1:=u.1.trans (aj (O::·) (w.1.trans (aj (N::·) w.2.2)));subst e1;refine ae z.1 (OZ P.h.fs.hd z.2.1 rfl rfl λh' R=>?_);have g:Gr f {f with heap:=h'}:=⟨λb o e=>R b o (λq=>aC (eM (q▸e)) (jI _)) e,rfl,rfl⟩;have B:=g.nx r.n.i;have I:=r.n.trans B;have Y:=u.2.1;have V:=w.2.1;refine(aE (hO (Iq (a:=.val d1) K SA (P.h.nx I) bV hf hn hr (Y.mv (.kp B.k))|>λt=>ba t (λc s3 so=>?_) λc c h=>h)));refine(aE (hO (uB (mG (q:=q.at q.G (q.ρ.set (m+i) (.val d1))) K so.h.tobM h1 (lq h2) ((V.mv (.kp B.k)).mv so.m.tp) λs4 H4 Z=>?_))));exact a8 ⟨q.G,P.h.up H4,(Mv.iI I).trans (so.m.trans Z),rfl⟩
end
theorem P5{α:Type}{p:α->Bool}:∀{xs:List α} {i k:Nat},xs.findIdx? p=aa i->i<k->(xs.take k).findIdx? p=aa i:=by
 intro xs
 induction xs with
 |nil=>exactλh y=>aN h
 |cons x xs ih=>
  intro i k h a;cases k with
  |zero=>exact aC a (PD _)
  |succ k=>rw[Cg]at h;refine ae List.take_succ_cons (ae (Cg) ?_);cases hx:p x with|true=>rw[hx]at h;exact h|false=>rw[hx]at h;exact(hJ.mp h).elim λj z=>hJ.mpr ⟨j,ih z.1 (zc (z.2▸a:j+1<k+1)),z.2⟩
section
variable{C:Nat}
theorem al9(K:aT W)(Fa:zZ W.fr C y i)(g:σ.fs=aa (C,m)):SX W n F σ (.Attribute (.Name "self" p) (bJ y) p') (.loc (m+i)):=λq E s c P=>J.op λd e=>by subst c;refine(P.h.me C m g).elim λvs M=>(cG.mp e).elim λa e=>?_;cases a with|val d'=>refine((M.f i _ (y7.mp Fa.ix).1 e.1).resolve_left λh=>c5 (h.1) rfl).elim λv z=>?_;have b:=aM e.2▸z.2;exact EH (λx x x=>rfl) (nJ (nq P.h.fs.fn rfl M.s (Ib K P.h.inv Fa M.i (P5 Fa.ix (dX.mp z.1).1) z.1 (handed b) λt=>⟨(Gr.tok _ _).nx P.h.inv,b⟩)) rfl)|_=>exact aN e.2
end
theorem Lo(h:aa (Ro.o a)=aa (Ro.o b)):a=b:=by cases h;rfl
section
variable{C:Nat}
structure W6(q:Q)(h:bF)(i:Nat)(a:AV)(xs:List D)(ad:aJ)(ai:List aA):Prop where
 g:q.G ad=aa (.o i)
 at_:bG h "list" ad ai
 r:a9 q.X h xs ai
 put:∀h' db xs',bG h' "list" ad db->a9 q.X h' xs' db->eQ {q with ρ:=q.ρ.set i (T.putL a xs')} h' i (T.putL a xs') (.ref ad)
theorem KL(x:eQ q h i a v)(c:gC (aa a)=aa l):∃ad ai,v=.ref ad/\W6 q h i a l ad ai:=by cases a with|own xs=>exact iF (x) λad y=>y.elim λai y=>⟨ad,ai,y.1,am (aM c) ⟨y.2.1,y.2.2.1,y.2.2.2,λe d b g r=>⟨ad,d,rfl,y.2.1,g,r⟩⟩⟩|da xs=>exact iF (x) λai y=>⟨q.ln i,ai,y.1,am (aM c) ⟨y.2.1,y.2.2.1,y.2.2.2,λe d b g r=>⟨d,rfl,y.2.1,g,r⟩⟩⟩|_=>exact aN c
def T.W7(i:Nat)(x:X):T:=λF r=>.opt r[i]? λa=>.opt (gC (aa a)) λl=>(x F r).bind λd=>(Tr.gZ (gd (l.length<aI) (aa af))).bind λy=>.ret (.next,r.set i (T.putL a (l++[d])))
theorem agG(K:aT W)(Fa:zZ W.fr C y i)(bV:σ.fs=aa (C,m))(hx:SX W n F σ e x)(hs:NS e)(hl:(iM.endLine==p3.line)=af):SS W n F σ (.Expr (.Call (.Attribute (.Attribute (.Name "self" p) (bJ y) p') "append" iM) [e] [] p3) p4) (.W7 (m+i) x):=λq E s hq P=>J.opt λa ha=>J.opt λl O=>by
 subst hq;have Z:=(y7.mp Fa.ix).1;refine(P.h.me C m bV).elim λvs M=>((M.f i _ Z ha).resolve_left λh=>aN (h.1▸O)).elim λv z=>(KL z.2 O).elim λad w=>w.elim λai w=>?_;have hv:=w.1;subst hv;refine J.bind (A:=q.A) (t:=Tr.ret ()) (k:=λB=>(x F q.ρ).bind λd=>(Tr.gZ (gd (l.length<aI) (aa af))).bind λB=>Tr.ret (Fl.next,q.ρ.set (m+i) (T.putL a (l++[d])))) (R:=λB v D=>v=.ref ad/\Nx W s D) (m:=eval (.Attribute (.Name "self" p) (bJ y) p') q.env) (w2:=λv Q E D=>v=.ref ad/\bG D.heap "list" ad ai/\ay W.M q.A (eval e q.env) (λu N=>∃H n,H.size<=je/\IsL N.heap ad H n/\Q mj.next {N with heap:=N.heap.update ad (dK λI=>I.push u)}) E D) (λQ E k=>?_) (J.ret (EH (λB B B=>rfl) (nJ (nq P.h.fs.fn rfl M.s (Ib K P.h.inv Fa M.i (P5 Fa.ix (dX.mp z.1).1) z.1 rfl λt=>⟨rfl,(Gr.tok _ _).nx P.h.inv⟩)) rfl))) λB v s0 L=>?_
 ·refine RB (zy (λB B B=>rfl) (by rw[hs];rfl) (show 1<20 by decide) hl (ba k (λv D k=>?_) λB B h=>h)) (DW P.h.fs.fn) rfl;refine ae k.1 ⟨.builtin "list.append",[.ref ad],λpl Q' hQ=>alm k.2.1.typeIs ZY ZO aan (λb e=>by cases e;exact k.2.1.elim λn g=>⟨_,g.1,rfl⟩) hQ,?_⟩;rw[hs];exact aa1 k.2.2
 ·refine J.bind (λQ E k=>⟨L.1,w.2.at_.kp L.2.k id,k⟩) (hx q E s0 rfl (P.pl.nx L.2)) λd u D r=>?_;cases hb:gd (l.length<aI) (aa af)with
  |none=>trivial
  |some t=>
   have sq:=w.2.at_.kp (L.2.trans r.n).k id;refine sq.elim λS g=>J.ret ⟨ai.toArray,S,gQ g.2,g.1,?_⟩;have rl:=w.2.r.mv (.kp (L.2.trans r.n).k);have U:=nj D.heap ad (dK λI=>I.push u);have V:bZ (·=ad) D.heap (D.heap.update ad (dK λI=>I.push u)):=.sameBut U rfl;have tp:Tp q.X D.heap q.X (D.heap.update ad (dK λI=>I.push u)):=.of V (λb o B e=>ae e (nn w.2.g)) λB B B=>id;have H1:=P.h.nx (L.2.trans r.n);have g2:bG (D.heap.update ad (dK λI=>I.push u)) "list" ad (ai++[u]):=⟨S+1,by refine ae (oK _ g.1 rfl) ?_;simp[dK],ae aS (ae rl.length (@fN _ _ _ _ _ (λB=>l.length<aI) hb id))⟩;have av:=w.2.put _ _ _ g2 ((rl.mv tp).append (.cons (r.r.mv tp) .nil));have o:=RN (t:=D.toks) (xs':=l++[d]) (a:=a) (a':=T.putL a (l++[d])) K H1.tobM U w.2.g sq g2 (λnm h1 h2=>aC (M.n i nm Z h1) h2) λC' m' e'=>?_
   ·exact⟨q.G,P.h.up o.1,(Mv.iI (L.2.trans r.n)).trans o.2,rfl⟩
   ·have Y:=aM (bV.symm.trans e');have eC:=aj xh Y;have em:=aj Ah Y;subst eC em;have k2:=(L.2.trans r.n).k.weak.trans V;refine⟨vs,{M with i:=M.i.kp k2 (λe=>cw (w.2.g.symm.trans (e▸M.g1:q.G ad=aa .me)) rfl) (λe=>cw (w.2.g.symm.trans (e▸M.g2:q.G ad=aa .me)) rfl),s:=k9 M.s k2 (λe=>cw ((e▸P.h.rl).symm.trans w.2.g) rfl) λn c hc e=>(P.h.rc n c hc).no (ae e w.2.g),f:=λj b hj hb=>?_}⟩;by_cases h:j=i
    ·subst h;exact .inr ⟨.ref ad,z.1,am (Am hb) av⟩
    ·exact(M.f j b hj ((uv λe=>h (G5 e).symm).symm.trans hb)).imp id λy=>y.imp λv y=>⟨y.1,y.2.mv (.of k2 (λb o B e=>ae e (nn w.2.g)) λB B B=>id) (λc db e y=>⟨e,y.kp k2 λhc=>h (G5 (Lo ((hc▸e).symm.trans w.2.g)))⟩) rfl⟩
end
section
variable{s:aL}{os:List Nat}{ad:Nat->aJ}
theorem QJ:∀{os:List Nat} {d f:Rh},T.AJ w r os d=aa f->f.length=r.length/\∀(j:Nat) a,f[j]?=aa a->(j∉os/\r[j]?=aa a)\/∃(p:Nat) (b c:AV),os[p]?=aa j/\r[j]?=aa b/\d[p]?=aa c/\T.bk w b c=aa a:=by
 intro os
 induction os with
 |nil=>exactλ{d f} e=>am (aM (e)) ⟨rfl,λj a h=>.inl ⟨gM,h⟩⟩
 |cons i os ih=>
  intro d f e;cases d with
  |nil=>exact aN e
  |cons c d=>
   refine(cG.mp e).elim λo e=>(cG.mp e.1).elim λb l=>(hJ.mp e.2).elim λn k=>?_;refine am k.2 ⟨zu.trans (ih k.1).1,λj a h=>?_⟩;by_cases g:j=i
   ·subst g;exact .inr ⟨0,b,c,rfl,l.1,rfl,l.2.trans (aj aa (Am h))⟩
   ·exact((ih k.1).2 j a ((uv (jS g)).symm.trans h)).imp (λy=>⟨λm=>(ch.mp m).elim g y.1,y.2⟩) λy=>y.elim λp y=>⟨p+1,y⟩
theorem TL(e:T.bk w b c=aa a)(d:gC (aa b)=aa l):∃xs,c=.da xs/\a=T.putL b xs:=by cases b<;>first|exact aN d|(cases c<;>first|exact aN e|exact⟨_,rfl,(aM e).symm⟩)
structure Ln(q:Q)(h:bF)(os:List Nat)(ad:Nat->aJ):Prop where
 nd:os.Nodup
 at_:∀i a l,i∈os->q.ρ[i]?=aa a->gC (aa a)=aa l->∃ai,W6 q h i a l (ad i) ai
open Classical in
def qa(q:Q)(os:List Nat)(ad:Nat->aJ)(w:Bool)(k:Nat)(b:aJ):Option Ro:=(q.G b).elim ak λy=>if w=af/\(b=q.me.1\/b=q.me.2)then aa .me else if h:∃p:Nat,∃i a l,os[p]?=aa i/\q.ρ[i]?=aa a/\gC (aa a)=aa l/\ad i=b then aa (.o (k+choose h))else aa .x
set_option tactic.hygienic true in
theorem EK{P:Option Ro->Prop}(d:q.G b=ak->P ak)(f:w=af->b=q.me.1\/b=q.me.2->P (aa .me))(c:∀(p:Nat) i a l,os[p]?=aa i->q.ρ[i]?=aa a->gC (aa a)=aa l->ad i=b->P (aa (.o (k+p))))(hx:q.G b≠ak->(∀(p:Nat) i a l,os[p]?=aa i->q.ρ[i]?=aa a->gC (aa a)=aa l->ad i≠b)->P (aa .x)):P (qa q os ad w k b):=by
 unfold qa;cases e:q.G b with
 |none=>exact d e
 |some r=>
  show P (if _ then _ else _);split
  ·rename_i h;exact f h.1 h.2
  ·split
   ·rename_i h;exact(GQ h).elim λi z=>z.elim λa z=>z.elim λl z=>c _ i a l z.1 z.2.1 z.2.2.1 z.2.2.2
   ·rename_i h;exact hx (nn e) λp i a l m h2 j g=>h ⟨p,i,a,l,m,h2,j,g⟩
def mr(q:Q)(σ':Sc)(os:List Nat)(ad:Nat->aJ)(w:Bool)(k:Nat)(r:Rh):Q:={A:=q.A,σ:=σ',env:=default,G:=qa q os ad w k,ρ:=r,ln:=λj=>ad (os.getD (j-k) 0),me:=q.me}
theorem lnY(h:q.X b):qa q os ad w k b≠ak:=EK (P:=λx=>x≠ak) (λe=>aC e h) (λy y=>b3) (λy y y y y y y y=>b3) λy y=>b3
theorem yx(h:qa q os ad w k b≠ak):q.X b:=λe=>h (by unfold qa;refine ae e ?_;rfl)
section
variable(L:Ln q s.heap os ad)(hw:w=af->q.G q.me.1=aa .me/\q.G q.me.2=aa .me)
include L hw
theorem Ln.role(hp:os[p]?=aa i)(d:q.ρ[i]?=aa a)(c:gC (aa a)=aa l):qa q os ad w k (ad i)=aa (.o (k+p)):=by
 have g:=(L.at_ i a l (iQ hp) d c).elim λai z=>z.g;refine EK (P:=λx=>x=aa (.o (k+p))) (λe=>aN (e.symm.trans g)) (λb h2=>?_) (λs j r f b h2 n m=>?_) λy h=>aC rfl (h p i a l hp d c)
 ·exact h2.elim (λe=>cw (g.symm.trans (e▸(hw b).1:q.G (ad i)=aa .me)) rfl) λe=>cw (g.symm.trans (e▸(hw b).2:q.G (ad i)=aa .me)) rfl
 ·have e:=Lo (((L.at_ j r f (iQ b) h2 n).elim λai z=>z.g).symm.trans (ae m g));exact ae ((adW (dX.mp hp).1 L.nd).mp (hp.trans (e▸b).symm)) rfl
theorem Ln.my(h:(mr q σ' os ad w k r).my b):q.G b=aa .me\/∃i,q.G b=aa (.o i)/\i∈os:=by refine EK (b:=b) (P:=λx=>x≠ak/\x≠aa .x->q.G b=aa .me\/∃i,q.G b=aa (.o i)/\i∈os) (λy h=>aC rfl h.1) (λc h2 y=>.inl (h2.elim (λe=>ae e ((hw c).1)) λe=>ae e ((hw c).2))) (λp i a l c h2 f d y=>?_) (λy y h=>aC rfl h.2) h;exact(L.at_ i a l (iQ c) h2 f).elim λai z=>.inr ⟨i,am d z.g,iQ c⟩
theorem Ln.MJ(h:(mr q σ' os ad w k r).my b):q.my b:=(L.my hw h).elim (λe=>⟨nn e,λz=>cw (e.symm.trans z) rfl⟩) λy=>y.elim λi y=>⟨nn y.1,λz=>cw (y.1.symm.trans z) rfl⟩
theorem P6(H:dZ W n q s)(R:BD W n' A (mr q σ' os ad w k r) s o v s' env G)(D:A=q.A)(C:∀b,q.X b->G b≠ak)(B:mu.length=q.ρ.length)
  (p:∀j nm a,q.σ.ns[j]?=aa nm->q.σ.tb.lookup nm≠ak->mu[j]?=aa a->(j∉os/\q.ρ[j]?=aa a)\/∃v,fy q.env s.heap nm v/\eQ q s'.heap j a v)
  (F:(∀v,fy q.env s.heap "self" v->fy q.env s'.heap "self" v)->pO {q with ρ:=mu} s'.heap):dZ W n {q with ρ:=mu} s'/\Mv W q s {q with ρ:=mu} s'/\bq q.X s'.heap o.1 v:=by
 have nl:¬(mr q σ' os ad w k r).my q.env.locals:=λh=>(L.my hw h).elim (λe=>cw (H.rl.symm.trans e) rfl) λy=>y.elim λi y=>cw (H.rl.symm.trans y.1) rfl;have nc:∀n c,(n,c)∈q.env.cells->¬(mr q σ' os ad w k r).my c:=λn c hc h=>(L.my hw h).elim (λe=>(H.rc n c hc).elim (λg=>cw (g.symm.trans e) rfl) λg=>cw (g.1.symm.trans e) rfl) λy=>y.elim λi y=>(H.rc n c hc).no y.1;have f:∀nm v,fy q.env s.heap nm v->fy q.env s'.heap nm v:=λnm v x=>k9 x R.k nl nc;have kp:=R.k.mono λb d d h=>L.MJ hw h;have tp:Tp q.X s.heap q.X s'.heap:=.of kp (λb d d h=>h.1) λd d d=>id;have mv:Mv W q s {q with ρ:=mu} s':=⟨kp,λd=>.rfl,λd=>.inl,R.bp⟩;refine⟨{H with len:=B.trans H.len,ns:=H.ns.imp λm u=>lZ u R.k nl,cell:=λn c hc=>(H.cell n c hc).imp λv f=>o8 f R.k (nc n c hc),at_:=λj nm a t h2 E=>(p j nm a t h2 E).elim (λz=>(H.at_ j nm a t h2 z.2).imp id λx=>x.imp λv x=>⟨f nm v x.1,x.2.mv tp (λc ai e y=>⟨e,y.kp R.k λh=>?_⟩) rfl⟩) λz=>.inr (z.imp λv z=>⟨f nm v z.1,z.2⟩),old:=λb hb=>⟨R.bp b (H.old b hb).1,(H.old b hb).2⟩,hf:=D▸R.hf,inv:=R.h.inv,me:=F (f _)},mv,R.r.mv (.sub λb d d=>C b)⟩
 exact(L.my hw h).elim (λe'=>cw (e.symm.trans e') rfl) λl=>l.elim λi l=>z.1 (Lo (e.symm.trans l.1)▸l.2)
end
end
def vH(W:Wd)(n:Nat)(F:Fn)(k:Nat)(c:aA)(σ':Sc)(b m:Nat):Prop:=∀A q s ev r E,q.σ=σ'->q.ρ=r++eL m .U->(∀a,n=a+1->En W a A b q ev s)->(∀x s',dw W A ag ak q.my s x s'->E x s')->
 J E ((F k r).bind λo=>(iH o.1).bind λd=>.ok (d,o.2)) (ay W.M A (call c ev)) (λo v s'=>∃a env G,BD W a A q s o v s' env G) s
section
variable{s:aL}{os:List Nat}{ad:Nat->aJ}
theorem TM(R:BD W n' A (mr q σ' os ad w k r) s o v s' env G)(f:∀b,q.X b->(s.heap.get? b).isSome=af)(d:w=af->G q.me.1≠ak/\G q.me.2≠ak)
  (g:∀(p:Nat) i a l,os[p]?=aa i->q.ρ[i]?=aa a->gC (aa a)=aa l->G (ad i)≠ak) (hb:q.X b):G b≠ak:=
 EK (P:=λx=>qa q os ad w k b=x->G b≠ak) (λe=>aC e hb) (λc h2 y=>h2.elim (λe=>ae e ((d c).1)) λe=>ae e ((d c).2)) (λp i a l c h2 j h y=>am h (g p i a l c h2 j)) (λy y e=>nn ((R.gx b (f b hb)).mpr e)) rfl
theorem QK(L:Ln q s.heap os ad)(hw:w=af->q.G q.me.1=aa .me/\q.G q.me.2=aa .me)(hp:os[p]?=aa i)(hx:eQ q s.heap i a v)(f:∀l,gC (aa a)=aa l->q.ρ[i]?=aa a/\v=.ref (ad i)):eQ (mr q σ' os ad w k []) s.heap (k+p) a.rx v:=by
 have own:∀l,gC (aa a)=aa l->eQ (mr q σ' os ad w k []) s.heap (k+p) (.da l) v:=λl c=>(L.at_ i a l (iQ hp) (f l c).1 c).elim λai z=>by
  have e:(mr q σ' os ad w k []).ln (k+p)=ad i:=by show ad (os.getD (k+p-k) 0)=_;rw[qm,Nv];refine ae hp ?_;rfl
  exact⟨ai,ae e ((f l c).2),ae e (L.role hw hp (f l c).1 c),ae e z.at_,z.r.mv (.sub λb x x h=>yx h)⟩
 cases a with|U=>exact hx|val d=>exact bq.mv (.sub λb x x h=>yx h) (hx)|own l=>exact own l rfl|da l=>exact own l rfl
theorem Ed{α:Type}{r:List α}{u a:α}(hi:r.length<=i)(h:(r++eL m u)[i]?=aa a):a=u:=by rw[wq hi]at h;exact NH (iQ h)
def DE:=λW n σ' q s m os ad ds=>(∀{F} {E} {kf} {c} {vs} (H:dZ W n q s) (L:Ln q s.heap os ad) (f:∀i∈os,∃nm a l,q.σ.ns[i]?=aa nm/\fy q.env s.heap nm (.ref (ad i))/\q.ρ[i]?=aa a/\gC (aa a)=aa l) (k:vH W n F kf c σ' (ds.length+os.length) m) (b:σ'.ns.length=ds.length+os.length+m) (g:∀p,p<os.length->∃nm,σ'.ns[ds.length+p]?=aa nm/\σ'.tb.lookup nm≠ak) (j:q.σ.fs=ak) (e:σ'.fs=ak) (r:a9 q.X s.heap ds vs) (h:∀x s',dw W q.A ag q.env.frame q.my s x s'->E x s'),J E (T.s7 ag F kf (ds.map .val) os q.ρ) (q.W W (call c (vs++os.map λi=>.ref (ad i)))) (λo v s'=>∃d,o.1=.ret d/\bq q.X s'.heap d v/\dZ W n {q with ρ:=o.2} s'/\Mv W q s {q with ρ:=o.2} s') s:Prop)
def qL:=j6 DE (aO rA (aO nI (aO Li (aO yh (aO n8 (aO nI (aO nI (aO nI nI))))))))
def QL:=qL.1
def QM:=qL.2.1
def Do:=qL.2.2.1
def jO:=qL.2.2.2.1
def DY:=qL.2.2.2.2.1
def DZ:=qL.2.2.2.2.2.1
def jM:=qL.2.2.2.2.2.2.1
def pc:=qL.2.2.2.2.2.2.2.1
def iU:=qL.2.2.2.2.2.2.2.2
theorem acY:DE QL QM Do jO DY DZ jM pc iU:=λ{F} {E} {kf} {fv} {vs} H L w Lt q V Z U r W=>by
 have hw:ag=af->jO.G jO.me.1=aa .me/\jO.G jO.me.2=aa .me:=bb;have rl:=r.length;have Y:∀t,QM=t+1->En QL t jO.A (iU.length+jM.length) (mr jO Do jM pc ag iU.length (iU.map .val++jM.map (λi=>((jO.ρ[i]?).getD .U).rx)++eL DZ .U)) (vs++jM.map λi=>.ref (pc i)) DY:=λt e=>by
  have aP:∀{i:Nat} {a:AV} {v:aA},(iU.map AV.val++jM.map (λi=>((jO.ρ[i]?).getD .U).rx))[i]?=aa a->(vs++jM.map λi=>mF (pc i))[i]?=aa v->eQ (mr jO Do jM pc ag iU.length []) DY.heap i a v:=λ{i a v} n hx=>by
   by_cases f:i<iU.length
   ·rw[ql (by simp only [aW];exact f),kT]at n;have hx:=(ql (am rl.symm f))▸hx;exact(hJ.mp n).elim λd z=>am z.2 ((r.at z.1 hx).mv (.sub λb d d h=>yx h))
   ·have e:=(oM (ft.mp f)).symm;rw[wq (by rw[aW];exact ft.mp f),aW,kT]at n;rw[wq (am rl.symm (ft.mp f)),rl,kT]at hx;refine(hJ.mp n).elim λj z=>(w j (iQ z.1)).elim λnm y=>y.elim λb y=>y.elim λl y=>?_;rw[z.1]at hx;have hx:=hx;exact ae e (am z.2 (ae y.2.2.1 ((L.at_ j b l (iQ z.1) y.2.2.1 y.2.2.2).elim λai u=>QK L hw z.1 (by
     refine am (aM hx) ?_;cases b with
     |own m=>exact⟨_,ai,rfl,u.g,u.at_,ae (aM y.2.2.2) u.r⟩
     |da m=>have S:=u.put _ _ _ u.at_ u.r;exact ae (aM y.2.2.2) S
     |_=>exact aN y.2.2.2) λl d=>⟨y.2.2.1,(aM hx).symm⟩)))
  refine{room:=(e▸H.fs.room).one,hd:=H.fs.hd,hf:=H.hf,inv:=H.inv,old:=λb hb=>H.old b (yx hb),len:=by show(_++_++_:Rh).length=Do.ns.length;simp only [aS,aS,aW,aW,B5,q],vl:=by simp only [aS,aW,rl],arg:=λi a v n hx=>?_,rest:=λi a nm f n d d=>Ed (by refine ae aS ?_;rw[aW,aW];exact f) n,me:=λC DZ h=>aN (U.symm.trans h)};have f:i<(iU.map AV.val++jM.map (λi=>((jO.ρ[i]?).getD .U).rx)).length:=by have z:=(dX.mp hx).1;rw[aS,aW,rl]at z;refine ae aS ?_;rw[aW,aW];exact z
  exact .inr (aP ((ql f).symm.trans n) hx)
 refine J.vk (g:=id) (λd d k=>k) (Lt jO.A _ DY _ _ E rfl rfl Y λx s' z=>W x s' ((z.before .refl (λb d d h=>L.MJ hw h) λd=>id).left)) λo v s' R=>R.elim λt R=>R.elim λenv R=>R.elim λG R=>?_;show J E (Ev.of ((T.AJ ag jO.ρ jM (o.2.drop (iU.map AV.val).length)).map λr=>(Fl.ret o.1,r))) _ _ s';cases hb:T.AJ ag jO.ρ jM (o.2.drop (iU.map AV.val).length)with
 |none=>trivial
 |some mu=>
  have B:=QJ hb;rw[aW]at B;have Q:∀i,i∈jM->∃a b m ai,mu[i]?=aa a/\jO.ρ[i]?=aa b/\a=T.putL b m/\G (pc i)≠ak/\bG s'.heap "list" (pc i) ai/\a9 (λc=>G c≠ak) s'.heap m ai:=λi f=>(w i f).elim λnm y=>y.elim λb y=>y.elim λl y=>by have P:=B.1▸(dX.mp y.2.2.1).1;refine((B.2 i _ (kc P)).resolve_left λh=>h.1 f).elim λp z=>z.elim λb' z=>z.elim λc z=>?_;have I:=aM (y.2.2.1.symm.trans z.2.1);subst I;refine(TL z.2.2.2 y.2.2.2).elim λm g=>?_;have hc:=z.2.2.1;rw[g.1,nk]at hc;refine(V p (dX.mp z.1).1).elim λK M=>((R.h.at_ (iU.length+p) K _ M.1 M.2 hc).resolve_left (λh=>c5 h rfl)).elim λu x=>iF (show∃ai,u=.ref (pc (jM.getD (iU.length+p-iU.length) 0))/\G (pc (jM.getD (iU.length+p-iU.length) 0))=aa (.o (iU.length+p))/\bG s'.heap "list" (pc (jM.getD (iU.length+p-iU.length) 0)) ai/\a9 (λc=>G c≠ak) s'.heap m ai from x.2) λai x=>?_;rw[qm,Nv,z.1]at x;exact⟨_,b,m,ai,kc P,y.2.2.1,g.2,nn x.2.1,x.2.2.1,x.2.2.2⟩
  have N:∀b,jO.X b->G b≠ak:=λb hb=>TM R (λb hb=>(H.old b hb).1) bb (λp i a l D d d=>(Q i (iQ D)).elim λd z=>z.elim λd z=>z.elim λd z=>z.elim λd z=>z.2.2.2.1) hb;have z:=P6 L hw H R rfl N B.1 (λj nm a D h2 O=>?_) λd C DZ h=>aN (Z.symm.trans h)
  ·exact⟨o.1,rfl,z.2.2,z.1,z.2.1⟩
  ·by_cases s:j∈jM
   ·refine .inr ((w j s).elim λK y=>y.elim λb y=>y.elim λl y=>(Q j s).elim λa' g=>g.elim λb' g=>g.elim λm g=>g.elim λai g=>⟨_,am (aM (y.1.symm.trans D)) y.2.1,?_⟩);have I:=aM (y.2.2.1.symm.trans g.2.1);subst I;exact ae (aM (O.symm.trans g.1)) (ae g.2.2.1 ((L.at_ j b l s y.2.2.1 y.2.2.2).elim λdb u=>u.put _ _ _ g.2.2.2.2.1 (g.2.2.2.2.2.mv (.sub λb d d=>N b))))
   ·exact .inl ⟨s,((B.2 j a O).resolve_right λz=>z.elim λp z=>z.elim λd z=>z.elim λd z=>s (iQ z.1)).2⟩
theorem ajt{W n σ' q s m os ad ds}:DE W n σ' q s m os ad ds:=@vU _ _ _ _ _ _ _ _ _ DE _ @acY W n σ' q s m os ad ds
end
section
variable{i:Nat}
theorem QN{r:Rh}(h:gC r[i]?=aa l):∃a,r[i]?=aa a/\gC (aa a)=aa l:=cG.mp h
theorem agH(K:aT W)(hv:W.gm nm=aa fv)(hk:lX W.fr fv=af)(hg:σ.ci nm=af)(Lt:vH W n F k fv σ' 4 m)(O:σ'.ns.length=4+m)(hN:∀p,p<2->∃nm,σ'.ns[2+p]?=aa nm/\σ'.tb.lookup nm≠ak)(bV:σ.fs=ak)(pQ:σ'.fs=ak)
  (hx:SX W n F σ e1 x) (hs:NS e1) (hy:SX W n F σ e2 y) (dx:NS e2) (h1:σ.ns[i]?=aa n1) (g1:σ.fK n1=af) (h2:σ.ns[j]?=aa n2) (g2:σ.fK n2=af) (V:i≠j) (h:St σ is ts):
  SS W n F σ (.Assign [.Tuple ts kk p] (.Call (.Name nm p0) [e1,e2,.Name n1 p1,.Name n2 p2] [] r0) p') (.lend is k x y i j):=λq E s hq P=>J.opt λl1 a3=>J.opt λl2 a0=>(QN a3).elim λb1 I=>(QN a0).elim λb2 G=>by
 subst hq;refine(EI P.h.tojp h1 (iV g1).1 I.1 I.2).elim λw U=>U.elim λa4 U=>(EI P.h.tojp h2 (iV g2).1 G.1 G.2).elim λt T=>T.elim λWV T=>?_;refine J.bind (λQ E c=>?_) (sx hx rfl P) λd v R Z=>J.bind (w2:=λu Q E f=>((fy q.env f.heap n1 (.ref w)/\fy q.env f.heap n2 (.ref t))/\sK W.fr f.heap)/\ay W.M q.A (call fv [v,u,.ref w,.ref t]) (λr N=>ay W.M q.A (iZ (.Tuple ts kk p) q.env r) (λb s4=>Q .next s4) E N) E f) (λb b c=>c) (hy q E R rfl (P.pl.nx Z.n)) λd' u f Y=>?_
 ·exact I5 (lg (sB K P.h.tojp hg hv (xl K hk (by rw[hs,dx];rfl) (eK (ba c (λv R c=>eK (ba c (λu f c=>eK (nJ (nq P.h.fs.fn (iV g1).2.2 c.1.1.1 (eK (nJ (nq P.h.fs.fn (iV g2).2.2 c.1.1.2 (hK ⟨c.1.2,c.2⟩)) (iV g2).2.1) rfl)) (iV g1).2.1) rfl) λb b=>id) (dx _ q.env)) λb b=>id) (hs _ q.env))))) rfl rfl
 ·have B:=Z.n.trans Y.n;have D:=U.nx B;have C:=T.nx B;have ei:(if i=i then w else t)=w:=cD rfl;have ej:(if j=i then w else t)=t:=c9 (jS V);have L:Ln q f.heap [i,j] (λc=>if c=i then w else t):=⟨sh.mpr ⟨λh=>V (bB.mp h),sh.mpr ⟨gM,wJ⟩⟩,λc a l hc ha S=>(ch.mp hc).elim (λe=>by
   subst e;have eb:=aM (I.1.symm.trans ha);subst eb;exact⟨a4,am ei.symm (am (aM (I.2.symm.trans S)) ⟨D.g,D.at_,D.r,D.put⟩)⟩) λhc=>by
   have e:=bB.mp hc;subst e;have eb:=aM (G.1.symm.trans ha);subst eb;exact⟨WV,am ej.symm (am (aM (G.2.symm.trans S)) ⟨C.g,C.at_,C.r,C.put⟩)⟩⟩
  have J1:=ajt (P.h.nx B) L (λc hc=>(ch.mp hc).elim (λe=>⟨n1,b1,l1,am e.symm h1,am ((cD e).symm) D.v,am e.symm I.1,I.2⟩) λhc=>⟨n2,b2,l2,am ((bB.mp hc).symm) h2,am ((c9 (bB.mp hc▸jS V)).symm) C.v,am ((bB.mp hc).symm) G.1,G.2⟩) Lt O hN bV pQ (.cons (Z.r.mv (.kp Y.n.k)) (.cons Y.r .nil)) λx s' z=>P.e x s' (z.before B.k.weak (λb b b=>id) λb hb=>B.k.bp hb id);rw[show([i,j].map λc=>mF (if c=i then w else t))=[.ref w,.ref t]from by refine ae dB (ae dB (ae ei (ae ej ?_)));rfl]at J1;refine J.vk (g:=id) (λQ E c=>⟨⟨⟨D.v,C.v⟩,B.i.fP K⟩,c⟩) J1 λo r N z=>z.elim λd z=>?_;cases o with
  |mk fl mu=>have e:=z.1;subst e;exact J.opt λr' e=>wV (P:=λd r'=>bq q.X N.heap d r->J E (Tr.ret (Fl.next,r')).run (λQ E R=>ay W.M q.A (iZ (.Tuple ts kk p) q.env r) (λb f=>Q .next f) E R) (Sr W n q s) N) e (λds S rv=>J.ret (show ay W.M q.A (iZ (.Tuple ts kk p) q.env r) (λb f=>Sr W n q s (.next,fJ is ds mu) .next f) _ N from Ic (q:={q with ρ:=mu}) K h S z.2.2.1.tobM (.of rv) λs4 H m=>⟨_,P.h.up H,(Mv.iI B).trans (z.2.2.2.trans m),rfl⟩)) z.2.1
end
section
variable{C:Nat}
noncomputable def ot(vs:List aA)(m:Nat)(i:Nat):aJ:=aa0 λc=>vs[i-m]?=aa (.ref c)
theorem TQ{c:Nat}(h:vs[i]?=aa (.ref c)):ot vs m (m+i)=c:=by have z:vs[m+i-m]?=aa (.ref (ot vs m (m+i))):=ZN (p:=λc=>vs[m+i-m]?=aa (mF c)) ⟨c,by rw[qm];exact h⟩;simp only [qm,h]at z;cases z;rfl
theorem acZ(h:(k7 m c)[p]?=aa i):p<c/\i=m+p:=by have l:=(dX.mp h).1;simp only [G6]at l;rw[aci l]at h;exact⟨l,(aM h).symm.trans (by rw[uQ])⟩
theorem ama(M:Me q h C m vs):Ln q h (k7 m (bx C).length) (ot vs m):=⟨List.nodup_range',λi a l d g b=>(afX.mp d).elim λp z=>by have e:=uQ p▸z.2;subst e;refine((M.f p a z.1 g).resolve_left λh=>aN (h.1▸b)).elim λv y=>(KL y.2 b).elim λc w=>w.elim λai w=>⟨ai,?_⟩;exact ae (TQ (am w.1 y.1)) w.2⟩
theorem TR{os:List Nat}{ad:Nat->aJ}{b:Nat}(hw:w=af)(hb:b=q.me.1\/b=q.me.2)(a:q.G b≠ak):qa q os ad w k b=aa .me:=by unfold qa;cases e:q.G b with|none=>exact aC e a|some r=>exact cD ⟨hw,hb⟩
def DF:=λW n σ' q s m m' C d=>(∀{F} {E} {kf} {b} {v} (H:dZ W n q s) (j:q.σ.fs=aa (C,m)) (g:m+(bx C).length<=q.σ.ns.length) (k:vH W n F kf b σ' 2 m') (e:σ'.fs=aa (C,2)) (c:σ'.ns[0]?=aa ("self":aB)) (a:σ'.ns.length=2+(bx C).length+m') (f:∀i nm,i<(bx C).length->σ'.ns[2+i]?=aa nm->σ'.tb.lookup nm=ak) (r:bq q.X s.heap d v) (h:∀x s',dw W q.A ag q.env.frame q.my s x s'->E x s'),J E (T.s7 af F kf [.U,.val d] (k7 m (bx C).length) q.ρ) (q.W W (call b [.ref q.me.1,v])) (λo y s'=>dZ W n {q with ρ:=o.2} s'/\Mv W q s {q with ρ:=o.2} s') s:Prop)
def qM:=j6 DF (aO rA (aO nI (aO Li (aO yh (aO n8 (aO nI (aO nI (aO nI FZ))))))))
def QO:=qM.1
def QP:=qM.2.1
def Dp:=qM.2.2.1
def iG:=qM.2.2.2.1
def IL:=qM.2.2.2.2.1
def fu:=qM.2.2.2.2.2.1
def Ir:=qM.2.2.2.2.2.2.1
def zX:=qM.2.2.2.2.2.2.2.1
def D0:=qM.2.2.2.2.2.2.2.2
theorem ac0:DF QO QP Dp iG IL fu Ir zX D0:=λ{F} {E} {kf} {fv} {v} H bV hm Lt pQ xy O mV r hE=>(H.me zX fu bV).elim λvs M=>by
 have L:=ama M;have hw:af=af->iG.G iG.me.1=aa .me/\iG.G iG.me.2=aa .me:=λd=>⟨M.g1,M.g2⟩;have f:=M.f;generalize Q:k7 fu (bx zX).length=os at*;generalize hc:(bx zX).length=c at*;have lo:os.length=c:=am Q (ae G6 rfl);have K:∀p,p<c->os[p]?=aa (fu+p):=λp hp=>by rw[<-Q,aci hp,uQ]
 have I:∀p,p<c->∃b,iG.ρ[fu+p]?=aa b:=λp hp=>⟨_,kc (ae H.len (jb (Oh hp fu) hm))⟩;have Vn:∀i nm,iG.σ.ns[i]?=aa nm->iG.σ.tb.lookup nm≠ak->i∉os:=λi nm q h2 h=>(afX.mp (ae Q h)).elim λp z=>h2 (M.n p nm (ae hc z.1) (am (uQ p) (am z.2 q)));generalize V:[AV.U,AV.val D0]++os.map (λi=>((iG.ρ[i]?).getD .U).rx)=r0 at*;have a0:∀p a,(r0++eL Ir .U)[2+p]?=aa a->p<c->∃b,iG.ρ[fu+p]?=aa b/\a=b.rx:=λp a m hp=>(I p hp).imp λb hb=>⟨hb,by rw[<-V,bg,wq (cB 2 p),show 2+p-[AV.U,.val D0].length=p from qm ..,ql (by rw[aW];exact am lo.symm hp),kT,K p hp]at m;exact(aM m).symm.trans (aj (λo=>AV.rx (Option.getD o .U)) hb)⟩;have rl:r0.length=2+c:=by simp only [<-V,aS,aW,lo];rfl
 have en:∀U,QP=U+1->En QO U iG.A 2 (mr iG Dp os (ot vs fu) af 2 (r0++eL Ir .U)) [.ref iG.me.1,v] IL:=λU e=>by
  refine{room:=(e▸H.fs.room).one,hd:=H.fs.hd,hf:=H.hf,inv:=H.inv,old:=λb hb=>H.old b (yx hb),len:=by exact ae aS (B5▸O▸am rl rfl),vl:=rfl,arg:=λi a u m hx=>?_,rest:=λi a nm t m q h2=>?_,me:=λC' k' h=>?_}
  ·subst V;cases i with
   |zero=>exact .inl (aM m).symm
   |succ i=>cases i with|zero=>exact .inr (am (aM (m)) (am (aM (hx)) (bq.mv (.sub λb d d h=>yx h) r)))|succ i=>exact aN hx
  ·by_cases hp:i-2<c
   ·exact aC (mV (i-2) nm hp (am ((oM t).symm) q)) h2
   ·exact Ed (ae rl (aw (eJ (ft.mp hp) 2) (cJ (oM t)))) m
  ·have P:=aM (pQ.symm.trans h);have eC:=aj xh P;have Z:=aj Ah P;subst eC Z;refine⟨vs,M.i,?_,?_,M.ne,xy,rfl,λi nm t=>mV i nm (am hc t),λi a t m=>(a0 i a m (am hc t)).elim λb z=>?_⟩
   ·exact TR rfl (.inl rfl) (nn M.g1)
   ·exact TR rfl (.inr rfl) (nn M.g2)
   ·exact(f i b (am hc t) z.1).imp (λy=>⟨z.2.trans (aj AV.rx y.1),y.2⟩) λy=>alh (λu y=>⟨y.1,ae z.2 (QK (σ':=Dp) L hw (K i (am hc t)) y.2 λl C=>⟨z.1,(KL y.2 C).elim λc w=>w.elim λai w=>ae (TQ (am w.1 y.1)) w.1⟩)⟩) y
 subst V;refine J.vk (g:=id) (λd d k=>k) (Lt iG.A (mr iG Dp os (ot vs fu) af 2 _) IL _ _ E rfl rfl en λx s' z=>hE x s' ((z.before .refl (λb d d h=>L.MJ hw h) λd=>id).left)) λo u s' R=>R.elim λU R=>R.elim λenv R=>R.elim λG R=>?_;cases hb:T.AJ af iG.ρ os (o.2.drop 2)with
 |none=>trivial
 |some mu=>
  have B:=QJ hb;refine(R.h.me zX 2 pQ).elim λws N=>?_;have bk:∀p a,p<c->mu[fu+p]?=aa a->∃b e,iG.ρ[fu+p]?=aa b/\o.2[2+p]?=aa e/\T.bk af b e=aa a:=λp a hp m=>((B.2 _ a m).resolve_left λh=>h.1 (iQ (K p hp))).elim λp' z=>z.elim λb z=>z.elim λe z=>by have q:=z.1;rw[<-Q]at q;have h2:=G5 ((dX.mp q).elim λd h=>by simp only [<-h,List.getElem_range',uQ]:fu+p'=fu+p);subst h2;exact⟨b,e,z.2.1,am (nk) z.2.2.1,z.2.2.2⟩
  have own:∀p b l,p<c->iG.ρ[fu+p]?=aa b->gC (aa b)=aa l->∃D ai,(∀a,mu[fu+p]?=aa a->a=T.putL b D)/\ws[p]?=aa (.ref (ot vs fu (fu+p)))/\G (ot vs fu (fu+p))≠ak/\bG s'.heap "list" (ot vs fu (fu+p)) ai/\a9 (λc=>G c≠ak) s'.heap D ai:=λp b l hp hb C=>(bk p _ hp (kc (ae B.1 ((dX.mp hb).1)))).elim λb' z=>z.elim λe z=>by have eb:=aM (z.1.symm.trans hb);subst eb;refine(TL z.2.2 C).elim λD g=>?_;have z2:=z.2.1;rw[g.1]at z2;refine((N.f p _ (am hc.symm hp) z2).resolve_left λh=>c5 (h.1) rfl).elim λu y=>iF (show∃ai,u=.ref (ot vs fu (os.getD (2+p-2) 0))/\G (ot vs fu (os.getD (2+p-2) 0))=aa (.o (2+p))/\bG s'.heap "list" (ot vs fu (os.getD (2+p-2) 0)) ai/\a9 (λc=>G c≠ak) s'.heap D ai from y.2) λai x=>?_;rw[qm,Nv,K p hp]at x;exact⟨D,ai,λa m=>(aM (m.symm.trans (kc (ae B.1 ((dX.mp hb).1))))).trans g.2,am x.1 y.1,nn x.2.1,x.2.2.1,x.2.2.2⟩
  have W:∀b,iG.X b->G b≠ak:=λb hb=>TM R (λb hb=>(H.old b hb).1) (λd=>⟨nn N.g1,nn N.g2⟩) (λp i a l q h2 Y=>by rw[<-Q]at q;have e:=acZ q;rw[e.2]at h2⊢;exact(own p a l e.1 h2 Y).elim λd z=>z.elim λd z=>z.2.2.1) hb;have z:=P6 L hw H R rfl W B.1 (λj nm a q h2 Y=>.inl ⟨Vn j nm q h2,((B.2 j a Y).resolve_right λz=>z.elim λp z=>z.elim λd z=>z.elim λd z=>Vn j nm q h2 (iQ z.1)).2⟩) λhv C' k' h=>?_
  ·exact⟨z.1,z.2.1⟩
  ·have P:=aM (bV.symm.trans h);have eC:=aj xh P;have Z:=aj Ah P;subst eC Z;refine⟨ws,{M with i:=N.i,s:=hv _ M.s,f:=λp a hp m=>(bk p a (am hc hp) m).elim λb z=>z.elim λe z=>?_}⟩;have y:=N.f p e hp z.2.1;cases C:gC (aa b)with
   |some l=>exact .inr ((own p b l (am hc hp) z.1 C).elim λD g=>g.elim λai g=>⟨_,g.2.1,ae (g.1 a m) ((L.at_ (fu+p) b l (iQ (K p (am hc hp))) z.1 C).elim λdb u=>u.put _ _ _ g.2.2.2.1 (g.2.2.2.2.mv (.sub λb d d=>W b)))⟩)
   |none=>
    have S:=z.2.2;cases b with
    |U=>cases e with|U=>exact .inl ⟨(aM S).symm,(y.resolve_right λh=>h.elim λv h=>h.2).2⟩|_=>exact aN S
    |val D0=>cases e with|val d'=>exact .inr ((y.resolve_left λh=>c5 (h.1) rfl).imp λu h=>⟨h.1,am (aM S) (bq.mv (.sub λb d d=>W b) (h.2))⟩)|_=>exact aN S
    |_=>exact aN C.symm
theorem aju{W n σ' q s m m' C d}:DF W n σ' q s m m' C d:=@vU _ _ _ _ _ _ _ _ _ DF _ @ac0 W n σ' q s m m' C d
theorem aeM(K:aT W)(f:MethAt W.fr C nm fa)(V:vH W n F kf (.ref fa) σ' 2 m')(D:σ.fs=aa (C,m))(S:m+(bx C).length<=σ.ns.length)(I:σ'.fs=aa (C,2))(H:σ'.ns[0]?=aa ("self":aB))
  (j:σ'.ns.length=2+(bx C).length+m') (N:∀i nm,i<(bx C).length->σ'.ns[2+i]?=aa nm->σ'.tb.lookup nm=ak) (hx:SX W n F σ e x) (hs:NS e) (T:(p'.endLine==r0.line)=af):
  SS W n F σ (.Expr (.Call (.Attribute (.Name "self" p) nm p') [e] [] r0) p4) (.U0 kf x (k7 m (bx C).length)):=λq E s R P=>by
 subst R;refine(P.h.me C m D).elim λvs M=>?_;refine J.bind (w2:=λv Q E t=>sK W.fr t.heap/\ay W.M q.A (call (.ref fa) [.ref q.me.1,v]) (λa w=>Q .next w) E t) (λQ E c=>?_) (sx hx rfl P) λd v t r=>?_
 ·refine RB (zy (λa a a=>rfl) (by rw[hs];rfl) (show 1<20 by decide) T (nJ (nq P.h.fs.fn rfl M.s ⟨.ref fa,[.ref q.me.1],λpl X U=>(M.i.look nm).elim λo l=>l.elim λL l=>?_,xl K f.keep (by rw[hs];rfl) (eK (ba c (λv t c=>hK c) λa a=>id) (hs [] q.env))⟩) rfl)) (DW P.h.fs.fn) rfl;have B:=l.2;rw[IE (ew.mpr λy O=>ew.mp f.no y (rY O))]at B;exact method_fn (P.h.inv.fP K) l.1 f.ga f.gt f.at_ f.fn (by show(A2 nm L).map (·.isSome)=_;refine ae B ?_;rfl) U
 ·exact J.vk (g:=id) (λQ E c=>⟨r.n.i.fP K,c⟩) (aju (P.h.nx r.n) D S V I H j N r.r λx s' z=>P.e x s' (z.before r.n.k.weak (λa a a=>id) λb hb=>r.n.k.bp hb id)) λo u w z=>J.ret (⟨q.G,z.1,(Mv.iI r.n).trans z.2,rfl⟩)
end
section
variable{C fI:Nat}{X:aJ->Prop}
theorem lm.len:∀{xs:List Nat} {vs:List aA},lm es xs vs->xs.length=vs.length:=by induction es with|nil=>exactλh=>(aj iT (h.1)).trans (aj iT (h.2)).symm|cons e es ih=>exactλ{xs vs} h=>h.elim λy h=>h.elim λu h=>h.elim λb h=>h.2.2.elim λc a=>(aj iT h.1).trans ((aj (·+1) (ih a.2)).trans (aj iT a.1).symm)
theorem lz.le(x:lz h C a d vs):vs.length<=(bx C).length:=x.elim λo x=>x.elim λb x=>x.elim λes x=>x.elim λn x=>am x.e.len (ww ..)
theorem abJ{Y:aJ->Prop}:∀{c:Rh} {fs:List D} {b:List aA},(cX (motive:=λx=>Option (List D)) (aa []) (λa x f=>(tR (aa a)).bind λd=>f.map (d::·)) c)=aa fs->b.length<=c.length->(∀(i:Nat) a d,c[i]?=aa a->tR (aa a)=aa d->∃v,b[i]?=aa v/\bq Y h d v)->a9 Y h fs b/\b.length=c.length:=by
 intro c
 induction c with
 |nil=>intro fs b e j _;exact ae (aaq.mp (Nat.le_zero.mp j)) (am (aM (e)) (⟨.nil,rfl⟩))
 |cons a c f=>intro fs b e j hf;refine(cG.mp e).elim λd e=>(hJ.mp e.2).elim λr g=>?_;refine(hf 0 a d rfl e.1).elim λv z=>?_;cases b with|nil=>exact aN z.1|cons w b=>have y:=f g.1 (NR j) λi=>hf (i+1);exact am g.2 ⟨.cons (ae (aM (z.1)) z.2) y.1,aj (·+1) y.2⟩
theorem eQ.vw{Y:aJ->Prop}(x:eQ q h i a v)(e:tR (aa a)=aa d)(g:∀b,Y b->q.X b)(f:∀b j,q.G b=aa (.o j)->¬Y b):bq Y h d v:=by have mv:∀{d v},bq q.X h d v->bq Y h d v:=λr=>r.mv (.sub λb y y=>g b);have c:∀{l v},a9 q.X h l v->a9 Y h l v:=λr=>r.mv (.sub λb y y=>g b);cases a with|U=>exact aN e|val d'=>exact am (aM e) (mv (x))|own l=>exact am (aM e) (x.elim λa x=>x.elim λai x=>⟨a,ai,x.1,f a i x.2.1,x.2.2.1,c x.2.2.2⟩)|da l=>exact am (aM e) (x.elim λai x=>⟨_,ai,x.1,f _ i x.2.1,x.2.2.1,c x.2.2.2⟩)
open Classical in
def F9(X:aJ->Prop)(a d b:aJ):Option Ro:=if b=a\/b=d then aa .me else gX X b
def Yg(A:dY)(σ:Sc)(X:aJ->Prop)(a d:aJ)(r:Rh):Q:={A:=A,σ:=σ,env:=default,G:=F9 X a d,ρ:=r,ln:=λx=>0,me:=(a,d)}
theorem JS{P:Option Ro->Prop}(c:b=a\/b=d->P (aa .me))(e:¬(b=a\/b=d)->P (gX X b)):P (F9 X a d b):=by
 unfold F9;split
 ·exact c ‹_›
 ·exact e ‹_›
theorem agI(K:aT W)(hm:L1 W.fr C=af)(hi:gv W.fr (.ref C) "__init__"=aa (aa (.ref fI)))(hf:A1 W.fr (.ref fI)=aa (.type "function"))(FO:tJ W σ fI fd np)(iJ:fd.scope.isGenerator=ag)(hb:fd.body=.stmts b)(hS:gG W n F σ b ts)
  (nV:∀s vs,sK W.fr s.heap->vs.length=ds.length+1->vh s fd ⟨vs,[]⟩ ((σ.ns.take np).zip (vs++us))) (S:∀X h,a9 X h es us) (Yh:(ds++es).length+1=np) (Z:σ.fs=aa (C,np)) (t:σ.ns.length=np+((bx C).length+m)) (xy:σ.ns[0]?=aa ("self":aB))
  (mV:∀i nm,i<(bx C).length->σ.ns[np+i]?=aa nm->σ.tb.lookup nm=ak):
  pE W (n+1) (.ref C) ((be ts F (.U::(ds++es).map .val++eL ((bx C).length+m) .U)).run.bind λo=>o.1.el (Ev.of (Internal.X.fields C np o.2)) .no .no λc=>.no) ds:=λA s X vs o r=>by
 generalize T:AV.U::(ds++es).map .val=r0;have rl:r0.length=np:=by simp only [<-T,eY,aW];exact Yh
 generalize H:({s with heap:=(s.heap.push Wx).push (instObj C s.heap.objs.size)})=s1;have g1:Gr s s1:=am H ⟨λb o e=>dA _ (dA _ e),rfl,rfl⟩;have B:=g1.nx o.inv;have sz:(s.heap.push Wx).objs.size=s.heap.objs.size+1:=HG ..;have hd:s1.heap.get? s.heap.objs.size=aa Wx:=am H (dA _ (gk _ rfl));have hx:s1.heap.get? (s.heap.objs.size+1)=aa (instObj C s.heap.objs.size):=by simp only [<-H,<-sz];exact gk _ rfl
 have out:∀b,X b->¬(b=s.heap.objs.size+1\/b=s.heap.objs.size):=λb hb h=>(gK.mp (o.old b hb).1).elim λo e=>h.elim (λh=>aC (h▸eM e) (ft.mpr (gO _))) λh=>aC (h▸eM e) (jI _);have me:∀b,b=s.heap.objs.size+1\/b=s.heap.objs.size->F9 X (s.heap.objs.size+1) s.heap.objs.size b=aa .me:=λb h=>cD h;have en:En W n (A.under (.builtin "type.__call__" ⟨.ref C::vs,[]⟩)) np (Yg A σ X (s.heap.objs.size+1) s.heap.objs.size (r0++eL ((bx C).length+m) .U)) (.ref (s.heap.objs.size+1)::vs++us) s1:={room:=⟨o.room.dep (u:=1) (eX rfl),o.room.un (aw (cH rfl:(Code.builtin "type.__call__" ⟨.ref C::vs,[]⟩).cUnits<=10) (eX rfl))⟩,hd:=o.hd,hf:=o.hf.imp λl y=>⟨y.1,y.2.kp B.k⟩,inv:=B.i,old:=λb=>JS (P:=λx=>x≠ak->(s1.heap.get? b).isSome=af/\FB<=b) (λh c=>h.elim (λe=>e▸⟨dH hx,o.inv.low K (ux (gO _))⟩) λe=>e▸⟨dH hd,o.inv.low K (eh _)⟩) λc=>vp (P:=λx=>x≠ak->(s1.heap.get? b).isSome=af/\FB<=b) (λh c=>⟨B.k.bp (o.old b h).1 id,(o.old b h).2⟩) λc h=>aC rfl h,len:=by exact aS▸B5▸ae t (am rl rfl),vl:=by simp only [sd,eY,(r.append (S X s.heap)).length];exact Yh,arg:=λi a v g O=>by subst T;cases i with|zero=>exact .inl (aM g).symm|succ i=>have N:=r.append (S X s.heap);have hi:i<((ds++es).map AV.val).length:=(by simp only [aW,<-N.length];exact zc (dX.mp O).1);have g:((ds++es).map AV.val++eL ((bx C).length+m) .U)[i]?=aa a:=g;rw[ql hi,kT]at g;exact(hJ.mp g).elim λd z=>.inr (am z.2 ((N.at z.1 O).mv (.of (g1.kp λc=>False) (λc c c q=>q.elim) λb o e=>JS (P:=λx=>x≠ak->X b) (λh c=>h.elim (λh=>aC (h▸eM e) (ft.mpr (gO _))) λh=>aC (h▸eM e) (jI _)) λc=>vp (P:=λx=>x≠ak->X b) (λh c=>h) λc h=>aC rfl h))),rest:=λi a nm hi g c c=>Ed (ae rl hi) g,me:=λC' m' h=>by have V:=aM (Z.symm.trans h);have eC:=aj xh V;have ek:=aj Ah V;subst eC ek;exact⟨[],⟨_,_,[],0,hx,rfl,rfl,rfl,hd,rfl,rfl,rfl,rfl,rfl⟩,me _ (.inl rfl),me _ (.inr rfl),afT _,xy,rfl,mV,λi a hi g=>.inl ⟨Ed (ae rl (cB _ _)) g,cy _⟩⟩}
 have w:∀(Q:bI) (E:bI),pJ W (A.under (.builtin "type.__call__" ⟨.ref C::vs,[]⟩)) fI (.ref (s.heap.objs.size+1)::vs) (λv s'=>v=.none/\Q (.ref (s.heap.objs.size+1)) s') E s1->ay W.M A (call (.ref C) vs) Q E s:=λQ E h=>by have L:=o.inv.fP K;refine w7 (make_core (makes_of L hm) (looks_findIn L hi) (λself=>bind_fn L self hf) (.inl rfl) (ae H (wR h λr s' z=>?_)));cases r with|ok f=>exact iF z λv z=>ae z.1 z.2|error e=>exact z
 have W8:∀b o,s.heap.get? b=aa o->¬(Yg A σ X (s.heap.objs.size+1) s.heap.objs.size (r0++eL ((bx C).length+m) .U)).my b:=λb o e=>JS (P:=λx=>¬(x≠ak/\x≠aa .x)) (λh c=>h.elim (λh=>aC (h▸eM e) (ft.mpr (gO _))) λh=>aC (h▸eM e) (jI _)) λc=>vp (P:=λx=>¬(x≠ak/\x≠aa .x)) (λc h=>h.2 rfl) λc h=>h.1 rfl;have J0:=IK (E:=Ex W A s) K FO iJ hb hS en (nV s1 (.ref (s.heap.objs.size+1)::vs) (B.i.fP K) (aj (·+1) r.length)) λx s' z=>have y:=z.before (s:=s) (Mt:=λc=>False) (g1.kp _) (λb o e h=>W8 b o e h) λb hb=>B.k.bp hb id;⟨y.ob,y.k,y.i,y.bp,y.hf⟩;revert J0;unfold Bc;show J _ (Ev.bind (be ts F (r0++_)).run _) _ _ _->_;cases(be ts F (r0++eL ((bx C).length+m) .U)).run with
 |no=>exactλc=>trivial
 |exc=>exactλj=>w _ _ (Dk j (λc c h=>h.elim) λc c h=>h)
 |ok p=>
  cases p with
  |mk fl ρ=>
   cases fl with
   |next=>
    intro j;show J _ (Ev.of ((cX (motive:=λc=>Option (List D)) (aa []) (λa c I=>(tR (aa a)).bind λd=>I.map (d::·)) ((ρ.drop np).take (bx C).length)).map (D.inst C))) _ _ _;cases hf:(cX (motive:=λc=>Option (List D)) (aa []) (λa c I=>(tR (aa a)).bind λd=>I.map (d::·)) ((ρ.drop np).take (bx C).length):Option (List D))with
    |none=>trivial
    |some fs=>
     refine w _ _ (Dk j (λv s' h=>h.elim λenv h=>h.elim λG R=>⟨R.r,⟨λb o e c=>R.k b o (g1.keep b o e) (W8 b o e),R.h.inv⟩,?_⟩) λc c h=>h);refine(R.h.me C np Z).elim λws M=>?_;have al:((ρ.drop np).take (bx C).length).length=(bx C).length:=by simp only [afL,Hr,show ρ.length=σ.ns.length from R.h.len,t,qm];exact nw (cB _ _)
     have U:∀b,X b->G b=aa .x:=λb hb=>(R.gx b (B.k.bp (o.old b hb).1 id)).mpr ((λb h=>(c9 (out b h)).trans (WZ h)) b hb);have z:=abJ (Y:=X) hf (ae al M.i.le) λi a d g hd=>by have hi:i<(bx C).length:=am al ((dX.mp g).1);rw[GP hi,nk]at g;exact((M.f i a hi g).resolve_left λh=>aN (h.1▸hd:tR (aa AV.U)=aa d)).imp λv y=>⟨y.1,y.2.vw hd (λb hb=>nn (U b hb)) λb j e hb=>cw ((U b hb).symm.trans e) rfl⟩
     exact⟨_,_,ws,rfl,λh=>out _ h (.inl rfl),λh=>out _ h (.inr rfl),M.i,z.2.trans al,z.1⟩
   |_=>exactλc=>trivial
end
section
variable{α β:Type}
def Sd(S:α->Prop)(o:Option α):Prop:=∀x,o=aa x->S x
noncomputable def ck(b:Bool)(o:Option α):Option α:=cond b o ak
theorem Sd.no:Sd S ak:=λx h=>aN h
theorem Sd.so(h:S x):Sd S (aa x):=λy e=>am (aM e) h
theorem Sd.bind{f:α->Option β}(h:Sd S o)(k:∀a,S a->Sd S' (f a)):Sd S' (o.bind f):=λx e=>(cG.mp e).elim λa e=>k a (h a e.1) x e.2
theorem Sd.map{f:α->β}(h:Sd S o)(k:∀a,S a->S' (f a)):Sd S' (o.map f):=λx e=>(hJ.mp e).elim λa e=>am e.2 (k a (h a e.1))
theorem Sd.or(h:Sd S o)(b:Sd S o'):Sd S (o.or o'):=by cases o with|none=>exact b|some a=>exact h
theorem Sd.ck(h:b=af->Sd S o):Sd S (ck b o):=by cases b with|true=>exact h rfl|false=>exact .no
theorem Sd.op{f:α->Option β}(k:∀a,o=aa a->Sd S' (f a)):Sd S' (o.bind f):=Sd.bind (λx=>id) k
theorem Sd.om{f:α->β}(k:∀a,o=aa a->S' (f a)):Sd S' (o.map f):=Sd.map (λx=>id) k
noncomputable def kE(d:α)(nm:aB->bQ->α)(cn:GE->Nat->α)(bi:aH->EX->aH->α)(un:Y2->aH->α)(bo:HZ->List aH->α)(ie:aH->aH->aH->α)(cp:aH->List tQ->List aH->α)(ca:aH->List aH->bQ->α)
  (a:aH->aB->bQ->α) (h:aH->aH->α) (j g:List aH->α) (l q:aH->List qE->jo->bQ->α) (m:xg->aH->jo->bQ->α) (i:Option aH->Option aH->α) (e:aH):α:=
 N0 (motive_1:=λb=>α) e (λo es b=>bo o es) (λb b b=>d) (λx o y b=>bi x o y) (λo x b=>un o x) m (λx y z b=>ie x y z) (λb b b=>d) (λb b b=>d) l (λb b b b=>d) (λb b b b b=>d) q (λb b=>d) (λb b=>d) (λb b=>d) (λx o y b=>cp x o y)
  (λf es n p=>cZ n (ca f es p) λb b=>d) (λb b b b=>d) (λb b=>d) (λc k b=>cn c k) a (λx y b=>h x y) (λb b=>d) nm (λes b=>j es) (λes b b=>g es) λx y z b=>dP z (i x y) λb=>d
variable{d:α}{nm:aB->bQ->α}{cn:GE->Nat->α}{bi:aH->EX->aH->α}{un:Y2->aH->α}{bo:HZ->List aH->α}{ie:aH->aH->aH->α}{cp:aH->List tQ->List aH->α}{ca:aH->List aH->bQ->α}
  {a:aH->aB->bQ->α} {su:aH->aH->α} {li tu:List aH->α} {lc ge:aH->List qE->jo->bQ->α} {la:xg->aH->jo->bQ->α} {sl:Option aH->Option aH->α}
theorem mK{P:aH->α->Prop}(h:∀e,P e d)(A:∀n p,P (.Name n p) (nm n p))(h2:∀c k p,P (.Constant c k p) (cn c k))(w:∀x o y p,P (.BinOp x o y p) (bi x o y))(v:∀o x p,P (.UnaryOp o x p) (un o x))(u:∀o es p,P (.BoolOp o es p) (bo o es))(h6:∀x y z p,P (.IfExp x y z p) (ie x y z))
  (t:∀x o y p,P (.Compare x o y p) (cp x o y)) (r:∀f es p,P (.Call f es [] p) (ca f es p)) (q:∀x n p,P (.Attribute x n p) (a x n p)) (m:∀x y p,P (.Subscript x y p) (su x y)) (hb:∀es p,P (.List es p) (li es)) (hc:∀es k p,P (.Tuple es k p) (tu es)) (hd:∀x g s p,P (.ListComp x g s p) (lc x g s p))
  (l:∀x g s p,P (.GeneratorExp x g s p) (ge x g s p)) (hf:∀x g s p,P (.Lambda x g s p) (la x g s p)) (j:∀x y p,P (.Slice x y ak p) (sl x y)) (e:aH):P e (kE d nm cn bi un bo ie cp ca a su li tu lc ge la sl e):=
 N0 e u (λb b b=>h _) w v hf h6 (λb b b=>h _) (λb b b=>h _) hd (λb b b b=>h _) (λb b b b b=>h _) l (λb b=>h _) (λb b=>h _) (λb b=>h _) t
  (λf es i p=>cZ i (r f es p) λb b=>h _) (λb b b b=>h _) (λb b=>h _) h2 q m (λb b=>h _) A hb hc λx y z p=>dP z (j x y p) λb=>h _
end
section
variable{α a b c d:Type}
noncomputable def N1:a->Option α:=λx=>ak
noncomputable def N2:a->b->Option α:=λx x=>ak
noncomputable def N3:a->b->c->Option α:=λx x x=>ak
noncomputable def N4:a->b->c->d->Option α:=λx x x x=>ak
noncomputable def fB(f:a->Option α)(l:List a):Option α:=cZ l ak λe r=>cZ r (f e) λx x=>ak
def mW(f:a->a->Option α)(l:List a):Option α:=cZ l ak λe r=>fB (f e) r
variable{P:aH->α->Prop}
theorem fZ{P:List a->α->Prop}(h:∀e,Sd (P [e]) (f e))(l:List a):Sd (P l) (fB f l):=cZ l .no λe r=>cZ r (h e) λx x=>.no
theorem nQ{P:List a->α->Prop}(h:∀e u,Sd (P [e,u]) (f e u))(l:List a):Sd (P l) (mW f l):=cZ l .no λe r=>fZ (P:=λr=>P (e::r)) (h e) r
def Yi(f:a->a->a->a->Option α)(l:List a):Option α:=cZ l ak λe r=>cZ r ak λu r=>mW (f e u) r
theorem ajv{P:List a->α->Prop}(h:∀e u v w,Sd (P [e,u,v,w]) (f e u v w))(l:List a):Sd (P l) (Yi f l):=cZ l .no λe r=>cZ r .no λu r=>nQ (P:=λr=>P (e::u::r)) (h e u) r
def eF(f:aB->Option α)(e:aH):Option α:=kE ak (λn x=>f n) N2 N3 N2 N2 N3 N3 N3 N3 N2 N1 N1 N4 N4 N4 N2 e
theorem eP(h:∀n p,Sd (P (.Name n p)) (f n)):Sd (P e) (eF f e):=by apply mK (P:=λe o=>Sd (P e) o)<;>intros<;>first|exact .no|apply h
def yz(f:aH->aB->bQ->Option α)(e:aH):Option α:=kE ak N2 N2 N3 N2 N2 N3 N3 N3 f N2 N1 N1 N4 N4 N4 N2 e
theorem Aq(h:∀x n p,Sd (P (.Attribute x n p)) (f x n p)):Sd (P e) (yz f e):=by apply mK (P:=λe o=>Sd (P e) o)<;>intros<;>first|exact .no|apply h
def yA(f:aH->List aH->bQ->Option α)(e:aH):Option α:=kE ak N2 N2 N3 N2 N2 N3 N3 f N3 N2 N1 N1 N4 N4 N4 N2 e
theorem Ar(h:∀x n p,Sd (P (.Call x n [] p)) (f x n p)):Sd (P e) (yA f e):=by apply mK (P:=λe o=>Sd (P e) o)<;>intros<;>first|exact .no|apply h
def tK(f g:List aH->Option α)(e:aH):Option α:=kE ak N2 N2 N3 N2 N2 N3 N3 N3 N3 N2 f g N4 N4 N4 N2 e
theorem u4(h:∀x p,Sd (P (.List x p)) (f x))(a:∀x k p,Sd (P (.Tuple x k p)) (g x)):Sd (P e) (tK f g e):=by apply mK (P:=λe o=>Sd (P e) o)<;>intros<;>first|exact .no|apply h|apply a
def v7(f:GE->Nat->Option α)(g:aH->List tQ->List aH->Option α)(u:aH->aH->Option α)(e:aH):Option α:=kE ak N2 f N3 N2 N2 N3 g N3 N3 u N1 N1 N4 N4 N4 N2 e
theorem xm(h:∀c k p,Sd (P (.Constant c k p)) (f c k))(a:∀x o y p,Sd (P (.Compare x o y p)) (g x o y))(h2:∀x y p,Sd (P (.Subscript x y p)) (u x y)):Sd (P e) (v7 f g u e):=by apply mK (P:=λe o=>Sd (P e) o)<;>intros<;>first|exact .no|apply h|apply a|apply h2
def MK(f:Y2->aH->Option α)(g:aH->EX->aH->Option α)(e:aH):Option α:=kE ak N2 N2 g f N2 N3 N3 N3 N3 N2 N1 N1 N4 N4 N4 N2 e
theorem TS(h:∀x y p,Sd (P (.UnaryOp x y p)) (f x y))(a:∀x o y p,Sd (P (.BinOp x o y p)) (g x o y)):Sd (P e) (MK f g e):=by apply mK (P:=λe o=>Sd (P e) o)<;>intros<;>first|exact .no|apply h|apply a
def Gb(f g:aH->List qE->jo->bQ->Option α)(l:xg->aH->jo->bQ->Option α)(e:aH):Option α:=kE ak N2 N2 N3 N2 N2 N3 N3 N3 N3 N2 N1 N1 f g l N2 e
theorem JT(h:∀x n s p,Sd (P (.ListComp x n s p)) (f x n s p))(a:∀x n s p,Sd (P (.GeneratorExp x n s p)) (g x n s p))(h2:∀x n s p,Sd (P (.Lambda x n s p)) (l x n s p)):Sd (P e) (Gb f g l e):=by apply mK (P:=λe o=>Sd (P e) o)<;>intros<;>first|exact .no|apply h|apply a|apply h2
end
def TP(e:aH):Prop:=∀env a,PySem.isTrue e env a=(do let v<-a;vg e.pos;Y1 [v] (xL v))
def kf(e:aH):Nat:=kE 0 (λx x=>1) (λx x=>1) (λx x x=>1) (λo x=>cond (o==.USub) 1 (cond (o==.Not) 4 0)) (λx x=>4) (λx x x=>4) (λx x x=>4) (λf es x=>kE 2 (λx x=>cZ es 2 λx x=>1) (λx x=>2) (λx x x=>2) (λx x=>2) (λx x=>2) (λx x x=>2) (λx x x=>2) (λx x x=>2) (λx x x=>1) (λx x=>2) (λx=>2) (λx=>2) (λx x x x=>2) (λx x x x=>2) (λx x x x=>2) (λx x=>2) f)
 (λx x x=>1) (λx x=>1) (λx=>1) (λx=>5) (λx x x x=>3) (λx x x x=>0) (λx x x x=>0) (λx x=>0) e
structure Pf(e:aH)(k:Nat):Prop where
 ns:k≠0->NS e
 nl:k≠0->Br e
 nf:k≠0->NF e
 nu:k≠0->k≠2->lI e
 nc:k≠0->k≠3->NC e
 nt:k≠0->k≠5->NT e
 tp:k≠0->k<4->TP e
theorem Pf.zero:Pf e 0:=⟨λh=>aC rfl h,λh=>aC rfl h,λh=>aC rfl h,λh=>aC rfl h,λh=>aC rfl h,λh=>aC rfl h,λh=>aC rfl h⟩
theorem Pf.Gc(ns:NS e)(nl:Br e)(nf:NF e)(nu:lI e)(nc:NC e)(nt:NT e):Pf e 4:=⟨λx=>ns,λx=>nl,λx=>nf,λx x=>nu,λx x=>nc,λx x=>nt,λx q=>aC q (jI 4)⟩
theorem Pf.all(ns:NS e)(nl:Br e)(nf:NF e)(nu:lI e)(nc:NC e)(nt:NT e)(tp:TP e):Pf e k:=⟨λx=>ns,λx=>nl,λx=>nf,λx x=>nu,λx x=>nc,λx x=>nt,λx x=>tp⟩
theorem iW(nu:k≠2->lI (.Call f es [] p)):Pf (.Call f es [] p) k:=⟨λx x x=>rfl,λx x x=>rfl,λx x x=>rfl,λx=>nu,λx x x x x=>rfl,λx x x x x x=>rfl,λx x x x=>rfl⟩
theorem pf(e:aH):Pf e (kf e):=by
 unfold kf;exact mK (P:=Pf) (λy=>.zero) (λy y=>.all (λy y=>rfl) (λy y=>rfl) (λy y=>rfl) (λy y y=>rfl) (λy y y=>rfl) (λy y y y=>rfl) λy y=>rfl) (λy y y=>.all (λy y=>rfl) (λy y=>rfl) (λy y=>rfl) (λy y y=>rfl) (λy y y=>rfl) (λy y y y=>rfl) λy y=>rfl)
  (λy y y y=>.all (λy y=>rfl) (λy y=>rfl) (λy y=>rfl) (λy y y=>rfl) (λy y y=>rfl) (λy y y y=>rfl) λy y=>rfl)
  (λo x p=>arS (motive:=λo=>Pf (.UnaryOp o x p) (cond (o==.USub) 1 (cond (o==.Not) 4 0))) o .zero (.Gc (λy y=>rfl) (λy y=>rfl) (λy y=>rfl) (λy y y=>rfl) (λy y y=>rfl) λy y y y=>rfl) .zero (.all (λy y=>rfl) (λy y=>rfl) (λy y=>rfl) (λy y y=>rfl) (λy y y=>rfl) (λy y y y=>rfl) λy y=>rfl))
  (λy y y=>.Gc (λy y=>rfl) (λy y=>rfl) (λy y=>rfl) (λy y y=>rfl) (λy y y=>rfl) λy y y y=>rfl) (λy y y y=>.Gc (λy y=>rfl) (λy y=>rfl) (λy y=>rfl) (λy y y=>rfl) (λy y y=>rfl) λy y y y=>rfl)
  (λy y y y=>.Gc (λy y=>rfl) (λy y=>rfl) (λy y=>rfl) (λy y y=>rfl) (λy y y=>rfl) λy y y y=>rfl)
  (λf es p=>mK (P:=λf k=>Pf (.Call f es [] p) k) (λy=>iW λh=>aC rfl h) (λn q=>cZ (motive:=λes=>Pf (.Call (.Name n q) es [] p) (cZ es 2 λy y=>1)) es (iW λh=>aC rfl h) λy y=>iW λy y y y=>rfl) (λy y y=>iW λh=>aC rfl h) (λy y y y=>iW λh=>aC rfl h) (λy y y=>iW λh=>aC rfl h) (λy y y=>iW λh=>aC rfl h)
   (λy y y y=>iW λh=>aC rfl h) (λy y y y=>iW λh=>aC rfl h) (λy y y=>iW λh=>aC rfl h) (λy y y=>iW λy y y y=>rfl)
    (λy y y=>iW λh=>aC rfl h) (λy y=>iW λh=>aC rfl h) (λy y y=>iW λh=>aC rfl h) (λy y y y=>iW λh=>aC rfl h) (λy y y y=>iW λh=>aC rfl h) (λy y y y=>iW λh=>aC rfl h) (λy y y=>iW λh=>aC rfl h) f)
  (λy y y=>.all (λy y=>rfl) (λy y=>rfl) (λy y=>rfl) (λy y y=>rfl) (λy y y=>rfl) (λy y y y=>rfl) λy y=>rfl) (λy y y=>.all (λy y=>rfl) (λy y=>rfl) (λy y=>rfl) (λy y y=>rfl) (λy y y=>rfl) (λy y y y=>rfl) λy y=>rfl)
  (λy y=>.all (λy y=>rfl) (λy y=>rfl) (λy y=>rfl) (λy y y=>rfl) (λy y y=>rfl) (λy y y y=>rfl) λy y=>rfl) (λy y y=>⟨λy y y=>rfl,λy y y=>rfl,λy y y=>rfl,λy y y y y=>rfl,λy y y y y=>rfl,λy h=>aC rfl h,λy h=>aC (bX (lO 4) h) (jI 4)⟩)
  (λy y y y=>⟨λy y y=>rfl,λy y y=>rfl,λy y y=>rfl,λy y y y y=>rfl,λy h=>aC rfl h,λy y y y y y=>rfl,λy y y y=>rfl⟩) (λy y y y=>.zero) (λy y y y=>.zero) (λy y y=>.zero) e
abbrev Cx:=Sc->aH->Option X
abbrev Cb:=Sc->aH->Option B
section
variable(cx:Cx)(cb:Cb)(σ:Sc)
def cN(nm:aB):Option Nat:=ck (σ.fK nm) (σ.ns.idxOf? nm)
def cT(nm:aB):Option Nat:=ck (σ.fj nm) (σ.ns.idxOf? nm)
def ns(e:aH):Bool:=!(kf e==0)
def cV(e:aH):Option X:=(eF (λnm=>(cN σ nm).map .vw) e).or (cx σ e)
def cL(es:List aH):Option (List X):=cX (aa []) (λe y a=>ck (ns e) ((cx σ e).bind λx=>a.map (x::·))) es
noncomputable def Ge(es:List aH):Option (List B):=cX (aa []) (λe y a=>(cb σ e).bind λx=>a.map (x::·)) es
def yB(es:List aH):Option (List Nat):=cX (aa []) (λe x a=>(eF (cT σ) e).bind λi=>a.map (i::·)) es
def Gf(e:aH):Option (Bool×List Nat):=(eF (λnm=>(cT σ nm).map λi=>(ag,[i])) e).or (tK N1 (λa=>(yB σ a).map λis=>(af,is)) e)
def cC(a:Nat->D)(nm:aB):Option X:=ck (σ.ci nm) (([0,1,2,3].find? λi=>vm i==nm).map λi=>.c (a i))
end
def Vo:List (aB×aA×(D->Option D)):=([("len",.builtin "len",xO),("bytes",.type "bytes",JJ),("list",.type "list",UV),("chr",.builtin "chr",A7),("bool",.type "bool",UW)]:List (String×aA×(D->Option D))).map λp=>(fY p.1,p.2)
def Vp:List (aB×aA×(D->D->Option D)):=([("min",.builtin "min",WA),("max",.builtin "max",WB),("divmod",.builtin "divmod",XP)]:List (String×aA×(D->D->Option D))).map λp=>(fY p.1,p.2)
def Vq:List (aB×aA×(D->Option D)):=([("bytes",.type "bytes",Qv),("bool",.type "bool",RI)]:List (String×aA×(D->Option D))).map λp=>(fY p.1,p.2)
def Vr:List (aB×(D->Bool)×(D->Option D)):=([("decode",kB,Eb),("encode",kS,I7),("strip",kB,Tl)]:List (String×(D->Bool)×(D->Option D))).map λp=>(fY p.1,p.2)
def Vt:List (aB×(D->Bool)×(D->D->Option D)):=([("startswith",kB,RJ),("endswith",oj,Kz),("rstrip",oj,I8),("join",oj,pF),("split",oj,EC)]:List (String×(D->Bool)×(D->D->Option D))).map λp=>(fY p.1,p.2)
def Vu:List (aB×(D->Bool)×(D->D->D->Option D)):=([("replace",kB,Vg),("rsplit",kB,WR)]:List (String×(D->Bool)×(D->D->D->Option D))).map λp=>(fY p.1,p.2)
section
variable{cx:Cx}
theorem JU{l:List aB}(h:l.idxOf? nm=aa i):l[i]?=aa nm:=(y7.mp h).elim λa z=>(kc a).trans (aj aa (bt z.1))
theorem ri:Sd (λi=>σ.ns[i]?=aa nm/\σ.fK nm=af) (cN σ nm):=.ck λh i e=>⟨JU e,h⟩
theorem ta:Sd (λi=>σ.ns[i]?=aa nm/\σ.fj nm=af) (cT σ nm):=.ck λh i e=>⟨JU e,h⟩
theorem xz(h:ns e=af):kf e≠0:=λq=>by unfold ns at h;have h:=q▸h;cases h
theorem gR(h:ns e=af):NS e:=(pf e).ns (xz h)
theorem As:Sd (λis=>St σ is es) (yB σ es):=cX (.so .nil) (λe es a=>.bind (eP (P:=λe i=>∃nm p,e=.Name nm p/\σ.ns[i]?=aa nm/\σ.fj nm=af) λnm p i h=>⟨nm,p,rfl,ta i h⟩) λi h=>.map a λis r=>h.elim λnm h=>h.elim λp h=>ae h.1 (.cons h.2.1 h.2.2 r)) es
theorem JV(K:aT W):Sd (λr:Bool×List Nat=>Tg W n σ ag r.1 r.2 e/\(r.1=af->Tg W n σ af r.1 r.2 e)/\(r.1=ag->∃i,r.2=[i])) (Gf σ e):=
 .or (eP (P:=λe (r:Bool×List Nat)=>Tg W n σ ag r.1 r.2 e/\(r.1=af->Tg W n σ af r.1 r.2 e)/\(r.1=ag->∃i,r.2=[i])) λnm p=>.map ta λi h=>⟨aji K h.1 h.2,bb,λx=>⟨i,rfl⟩⟩)
  (u4 (P:=λe (r:Bool×List Nat)=>Tg W n σ ag r.1 r.2 e/\(r.1=af->Tg W n σ af r.1 r.2 e)/\(r.1=ag->∃i,r.2=[i])) (λx x=>.no) λa k p=>.map As λis h=>⟨TD K h,λx=>TD K h,bU⟩)
theorem amc(K:aT W)(G:Ak W Γ):Sd (SX W n F σ (.Name nm p)) (cC σ Γ nm):=.ck λh=>.om λi e=>by have q:=bt (Hx (p:=λi=>vm i==nm) e);exact am q (ai1 K G (ae q h))
section
variable(hx:∀σ e,Sd (SX W n F σ e) (cx σ e))
include hx
theorem ik:Sd (SV W n F σ e) (cV cx σ e):=.or (eP λnm p=>.map ri λi h=>anX h.1 h.2) λx h=>(hx σ e x h).v
theorem te:Sd (jz (SX W n F σ) es) (cL cx σ es):=cX (.so .nil) (λe es a=>.ck λh=>.bind (hx σ e) λx s=>.map a λb r=>.cons s (gR h) r) es
end
theorem JW(hb:∀σ e,Sd (SB W n F σ e) (cb σ e)):Sd (λxs=>yk (SB W n F σ) es xs/\CL W n F σ es xs) (Ge cb σ es):=cX (.so ⟨.nil,.nil⟩) (λe es a=>.bind (hb σ e) λx s=>.map a λxs r=>⟨.cons s r.1,.cons s r.2⟩) es
theorem u8{α:Type}{l:List (aB×α)}{P:aB×α->Prop}(h:∀r∈l,P r):Sd (λr=>P (nm,r)) (l.lookup nm):=λr e=>h _ (mem_of_lookup e)
theorem amd(K:aT W)(B:ii W):∀r∈Vo,∀{σ a x p c},σ.ci r.1=af->SV W n F σ a x->NS a->SX W n F σ (.Call (.Name r.1 p) [a] [] c) (.dG r.2.2 x):=
 eV.mpr ⟨λb hx hs=>z7 K B b (by decide+kernel) vD hx hs λy y=>aiP,eV.mpr ⟨λb hx hs=>z7 K B b (by decide+kernel) tH hx hs λy P=>ad9 P.h.fs.hd,eV.mpr ⟨λb hx hs=>z7 K B b (by decide+kernel) tH hx hs λy P=>af4 P.bp,
  eV.mpr ⟨λb hx hs=>z7 K B b (by decide+kernel) vD hx hs λy y=>aiS,eV.mpr ⟨λb hx hs=>z7 K B b (by decide+kernel) tH hx hs λy y=>af5,uz _⟩⟩⟩⟩⟩
theorem ame(K:aT W)(B:ii W):∀r∈Vp,∀{σ a b x y p f},σ.ci r.1=af->SV W n F σ a x->NS a->SV W n F σ b y->NS b->SX W n F σ (.Call (.Name r.1 p) [a,b] [] f) (.fk r.2.2 x y):=eV.mpr ⟨λd hx hs c e=>I9 K B d (by decide+kernel) vD hx hs c e λz P=>aiQ P.h.fs.hd,eV.mpr ⟨λd hx hs c e=>I9 K B d (by decide+kernel) vD hx hs c e λz P=>aiR P.h.fs.hd,eV.mpr ⟨λd hx hs c e=>I9 K B d (by decide+kernel) vD hx hs c e λz P=>alC P.bp,uz _⟩⟩⟩
theorem ajw(K:aT W)(B:ii W):∀r∈Vq,∀{σ a x p d e},σ.ci "isinstance"=af->σ.ci r.1=af->SV W n F σ a x->NS a->SX W n F σ (.Call (.Name "isinstance" p) [a,.Name r.1 e] [] d) (.dG r.2.2 x):=eV.mpr ⟨λb c hx hs=>Qx K B b c (by decide+kernel) hx hs λy y=>aba,eV.mpr ⟨λb c hx hs=>Qx K B b c (by decide+kernel) hx hs λy y=>acx,uz _⟩⟩
theorem amf:∀r∈Vr,Bm r.2.1 λX=>Bw W X r.1 r.2.2:=eV.mpr ⟨aeA,eV.mpr ⟨aeB,eV.mpr ⟨m_strip,uz _⟩⟩⟩
theorem amg:∀r∈Vt,Bm r.2.1 λX=>v3 W X r.1 r.2.2:=eV.mpr ⟨aeC,eV.mpr ⟨ajo,eV.mpr ⟨m_rstrip,eV.mpr ⟨ajp,eV.mpr ⟨m_split,uz _⟩⟩⟩⟩⟩
theorem amh:∀r∈Vu,Bm r.2.1 λX=>F2 W X r.1 r.2.2:=eV.mpr ⟨m_replace,eV.mpr ⟨aeD,uz _⟩⟩
end
noncomputable def Yj(l:List (Nat×Nat)):D:=.list (l.map λp=>.tup [.int p.1,.int p.2])
def yC(i:Nat):D:=match i with
 |0=>.int 47
 |1=>.list (([([97],[(97,97)]),([97,45,99],[(97,99)]),([99,45,97],[(99,99)]),([43,45,57],[(43,57)]),([47],[(47,47)]),([92,93],[(93,93)]),([92,45],[(45,45)]),([92,92],[(92,92)]),([92,97,45,92,99],[(97,99)]),([97,45,99,45,120],[(97,99),(45,45),(120,120)]),([91,58,100,105,103,105,116,58,93,45,122],[(48,57),(45,45),(122,122)]),
  ([120,94,33],[(120,120),(94,94),(33,33)]),([91,58,97,108,112,104,97,58,93],[(65,90),(97,122)]),([91,58,117,112,112,101,114,58,93],[(65,90)]),([91,58,112,117,110,99,116,58,93],[(33,47),(58,64),(91,96),(123,126)]),([91,58,98,108,97,110,107,58,93],[(9,9),(32,32)]),([89,45,98],[(89,98)])]:List (Y×List (Nat×Nat))).map λp=>.tup [.bytes p.1,Yj p.2])
 |2=>.list (([([],[]),([45],[(45,45)]),([91,58],[(91,91),(58,58)])]:List (Y×List (Nat×Nat))).map λp=>.tup [.bytes p.1,Yj p.2])
 |_=>.list (([97,98,46,45,93,55,122,32,120,9,66]:List Nat).map λc:Nat=>.int (c:Int))
structure kz(W:Wd)(n:Nat)(F:Fn):Prop where
 K:aT W
 B:ii W
 G:Ak W yC
 Z:∃ad f,uZ W ad f
 R:Ao W
 SA:xx W
 Ph:vo W n F
 Td:∀{σ a x p p' r t},σ.ci "list"=af->σ.ci "read_ignore_patterns"=af->SX W n F σ a x->NS a->SX W n F σ (.Call (.Name "list" p) [.Call (.Name "read_ignore_patterns" p') [a] [] r] [] t) (.call 47 [x])
 Ln:∃fv σ',W.gm "_posix_class"=aa fv/\lX W.fr fv=af/\vH W n F 46 fv σ' 4 2/\σ'.ns.length=4+2/\(∀p,p<2->∃nm,σ'.ns[2+p]?=aa nm/\σ'.tb.lookup nm≠ak)/\σ'.fs=ak
 Ap:∃fa σ',MethAt W.fr 333 "append_pattern" fa/\vH W n F 51 (.ref fa) σ' 2 1/\σ'.fs=aa (333,2)/\σ'.ns[0]?=aa ("self":aB)/\σ'.ns.length=2+(bx 333).length+1/\∀i nm,i<(bx 333).length->σ'.ns[2+i]?=aa nm->σ'.tb.lookup nm=ak
def Vv:List (aB×Bool×(D->Option D)):=([("reversed",ag,WC),("enumerate",af,UX),("range",ag,qT (.int 0))]:List (String×Bool×(D->Option D))).map λp=>(fY p.1,p.2)
section
variable(cx:Cx)(cb:Cb)(σ:Sc)
def cI(e:aH):Option (Bool×X):=(yA (λf es z=>eF (λnm=>ck (σ.ci nm) ((fB (λa=>ck (ns a) ((Vv.lookup nm).bind λr=>(cx σ a).map λx=>(r.1,.dG r.2 x))) es).or
 (ck (nm=="range") (mW (λa b=>ck (ns a&&ns b) ((cx σ a).bind λx=>(cx σ b).map λy=>(ag,.fk qT x y))) es)))) f) e).or ((cx σ e).map λx=>(ag,.dG yg x))
def Yk(gs:List qE):Option (List Gn):=cX (aa []) (λg x b=>ck (g.is_async==0&&ns g.iter) ((cI cx σ g.iter).bind λit=>ck (!it.1) ((Gf σ g.target).bind λa=>(Ge cb σ g.ifs).bind λifs=>b.map (⟨a.1,a.2,it.2,ifs⟩::·)))) gs
def KM(sc:jo):Bool:=decide (sc.kind=.function)&&sc.names.all (λx=>sc.names.lookup x.1==aa x.2&&(x.2== .local||(x.2==.globalImplicit||(x.2== .free&&((σ.tb.lookup x.1==aa .cell||σ.tb.lookup x.1==aa .free)&&σ.ns.contains x.1)))))&&decide (eO sc.names).ns.Nodup
def ML(c:aH)(gs:List qE)(sc:jo):Option X:=cZ gs ak λg gs=>ck (KM σ sc&&(g.is_async==0&&ns g.iter)) ((cI cx σ g.iter).bind λit=>ck (!it.1) ((Gf (eO sc.names) g.target).bind λb=>(Ge cb (eO sc.names) g.ifs).bind λifs=>(Yk cx cb (eO sc.names) gs).bind λGs=>(cx (eO sc.names) c).map λa=>.comp a ⟨b.1,b.2,it.2,ifs⟩ Gs (nO σ sc.names) (sc.names.filter λx=>x.2== .local).length))
end
section
variable{cx:Cx}{cb:Cb}
inductive Lc(W:Wd)(n:Nat)(F:Fn)(σ:Sc)(e0:aH)(sc:jo):List qE->X->Prop
 |mk {elt:X} {g:Gn} {gs:List Gn} {t x:aH} {dS:List aH} {cs:List qE} (C:mH σ sc) (hi:SI W n F σ ag x g.it) (hn:NF x) (jA:SX W n F (eO sc.names) e0 elt) (ht:Tg W n (eO sc.names) ag g.tup g.is t) (h1:g.tup=ag->∃i,g.is=[i]) (d4:CL W n F (eO sc.names) dS g.ifs)
  (cg:CG W n F (eO sc.names) gs cs):Lc W n F σ e0 sc (⟨t,x,dS,0⟩::cs) (.comp elt g gs (nO σ sc.names) (sc.names.filter λx=>x.2== .local).length)
theorem ajx(K:aT W)(B:ii W):∀r∈Vv,∀{σ a x p c},σ.ci r.1=af->SX W n F σ a x->NS a->SI W n F σ r.2.1 (.Call (.Name r.1 p) [a] [] c) (.dG r.2.2 x):=eV.mpr ⟨λb hx hs=>alX K B b hx hs,eV.mpr ⟨λb hx hs=>ajm K B b hx hs,eV.mpr ⟨λb hx hs=>aeq K B b hx hs,uz _⟩⟩⟩
theorem aP(h:(a&&b)=af):a=af/\b=af:=(eg a b).mp h
theorem aeN(h:KM σ sc=af):mH σ sc:=by unfold KM at h;rw[eg,eg,mA,mA,ew]at h;have z:=λx a=>aP (h.1.2 x a);exact⟨h.1.1,λx a=>bt (z x a).1,λx a=>((ki _ _).mp (z x a).2).imp bt λy=>((ki _ _).mp y).imp bt λy=>⟨bt (aP y).1,((ki _ _).mp (aP (aP y).2).1).imp bt bt,ed.mp (aP (aP y).2).2⟩,h.2⟩
section
variable(K:aT W)(B:ii W)(hx:∀σ e,Sd (SX W n F σ e) (cx σ e))
include K B hx
theorem KN:Sd (λr:Bool×X=>SI W n F σ r.1 e r.2) (cI cx σ e):=.or (Ar (P:=λe (r:Bool×X)=>SI W n F σ r.1 e r.2) λf es p=>eP (P:=λf (r:Bool×X)=>SI W n F σ r.1 (.Call f es [] p) r.2) λnm q=>.ck λd=>
 .or (fZ (P:=λes (r:Bool×X)=>SI W n F σ r.1 (.Call (.Name nm q) es [] p) r.2) (λa=>.ck λhs=>.bind (u8 (ajx K B)) λr z=>.map (hx σ a) λx h=>z d h (gR hs)) es)
  (.ck λc=>nQ (P:=λes (r:Bool×X)=>SI W n F σ r.1 (.Call (.Name nm q) es [] p) r.2) (λa b=>.ck λhs=>.bind (hx σ a) λx h=>.map (hx σ b) λy g=>am ((bt c).symm) (ago K B (am (bt c) d) h (gR (aP hs).1) g (gR (aP hs).2))) es)) (.map (hx σ e) λx h=>an2 h)
variable(hb:∀σ e,Sd (SB W n F σ e) (cb σ e))
include hb
theorem ajy:Sd (λGs=>CG W n F σ Gs gs) (Yk cx cb σ gs):=cX (.so .nil) (λg gs d=>.ck λh=>.bind (KN K B hx) λit c=>.ck λht=>.bind (JV K) λf b=>.bind (JW hb) λifs hc=>.map d λGs r=>by
 cases g with
 |mk t x dS a=>have e:=bt (aP h).1;rw[(mz _).mp ht]at c;subst e;exact .cons b.1 b.2.2 c ((pf _).nf (xz (aP h).2)) hc.2 r) gs
theorem TT:Sd (Lc W n F σ e0 sc gs) (ML cx cb σ e0 gs sc):=cZ gs .no λg gs=>.ck λh=>.bind (KN K B hx) λit c=>.ck λht=>.bind (JV K) λi b=>.bind (JW hb) λifs hc=>.bind (ajy K B hx hb) λGs r=>.map (hx _ _) λf d=>by cases g with|mk t x dS a=>have e:=bt (aP (aP h).2).1;rw[(mz _).mp ht]at c;subst e;exact .mk (aeN (aP h).1) c ((pf _).nf (xz (aP (aP h).2).2)) d b.1 b.2.2 hc.2 r
end
end
section
noncomputable def W9(o:HZ):Bool:=NI o af ag
def TU:List (EX×(D->D->Option D)):=[(.Add,c6),(.Sub,Le),(.FloorDiv,Kx),(.Mod,xN)]
noncomputable def Xa(a:xg)(sc:jo):Bool:=a.posonlyargs.isEmpty&&(a.vararg.isNone&&(a.kwonlyargs.isEmpty&&(a.kw_defaults.isEmpty&&(a.kwarg.isNone&&(a.defaults.isEmpty&&(decide (sc.kind=.function)&&(sc.names==[(("_path":aB),lU.local),(("self":aB),lU.free)]&&(!sc.isGenerator&&!sc.isCoroutine))))))))
def Xb(a:xg):Option Unit:=fB (λx=>ck (x.arg==("_path":aB)&&x.annotation.isNone) (aa ())) a.args
def Lp(e:aH):Option Unit:=tK (fB (tK N1 (mW λa b=>v7 (λc k=>ck (c==.int 0&&k==0) (eF (λn=>ck (n==("self":aB)) (aa ())) b)) N3 N2 a))) N1 e
variable(cx:Cx)(cb:Cb)(σ:Sc)
def Lq(a:aH)(os:List tQ)(bs:List aH):Option B:=(fB (λc=>fB (λb=>ck (!Tc c b) ((cV cx σ a).bind λx=>(cV cx σ b).map λy=>.cmp c x y)) bs) os).or (mW (λc e=>mW (λb d=>ck (!Ww [c,e] [b,d]) ((cV cx σ a).bind λx=>(cV cx σ b).bind λy=>(cV cx σ d).map λz=>.pM c e x y z)) bs) os)
def Xc(k:Nat)(es:List aH):Option X:=cZ es ak λe r=>Gb N4 N4 (λa bd sc p=>ck (σ.n7&&(Xa a sc&&σ.tb.lookup ("self":aB)==aa .cell)) ((Xb a).bind λx=>(Lp bd).bind λx=>σ.tab.bind λt=>ck (decide (t.2.1=p)) ((σ.ns.idxOf? ("self":aB)).bind λi=>(cL cx σ r).map λxs=>.WE k i xs))) e
def Xd(es:List aH):Option X:=fB (Gb N4 (λb gs sc p=>ck (!σ.n7&&(decide (sc.kind=.function)&&(sc.names==[((".0":aB),lU.local),(("s":aB),lU.local)]&&!sc.isCoroutine))) ((v7 N2 (λa os bs=>(eF (λn=>ck (n==("s":aB)&&os==[.Eq]) (fB (v7 (λc x=>ck (c==.bytes []) (aa ())) N3 N2) bs)) a)) N2 b).bind λx=>σ.tab.bind λt=>ck (decide (t.2.1=p))
 (fB (λg=>ck (g.is_async==0&&g.ifs.isEmpty) ((eF (λn=>ck (n==("s":aB)) (aa ())) g.target).bind λx=>eF (λnm=>(cN σ nm).map λi=>.dG DB (.loc i)) g.iter)) gs))) N4) es
def Xe(t:Bool)(es:List aH):Option X:=fB (yA λf c z=>eF (λnm=>(ck (nm==("range":aB)&&σ.ci "range") (mW (λa b=>ck (ns a&&ns b) ((cx σ a).bind λx=>(cx σ b).map λy=>.fk qT x y)) c)).or (ck (nm==("read_ignore_patterns":aB)&&σ.ci "read_ignore_patterns") (fB (λa=>ck (ns a) ((cx σ a).map λx=>.call 47 [x])) c))) f) es
def Yl(es:List aH):Option X:=mW (λa b=>ck (ns a) (eF (λt=>ck (σ.ci t) ((Vq.lookup t).bind λr=>(cV cx σ a).map λx=>.dG r.2 x)) b)) es
def Ym(nm:aB)(es:List aH):Option X:=((rb.lookup nm).bind λk=>((cL cx σ es).map λxs=>.call k xs).or (Xc cx σ k es)).or (((vn.lookup nm).bind λr=>(cL cx σ es).map λxs=>.new r.1 r.2.1 r.2.2 xs).or ((ck (nm==("list":aB)) (Xe cx σ af es)).or ((ck (nm==("all":aB)) (Xd σ es)).or ((ck (nm==("isinstance":aB)) (Yl cx σ es)).or ((ck (nm==("int":aB)) (aa .stuck)).or
 ((fB (λa=>ck (ns a) ((Vo.lookup nm).bind λr=>(cV cx σ a).map λx=>.dG r.2 x)) es).or (mW (λa b=>ck (ns a&&ns b) ((Vp.lookup nm).bind λr=>(cV cx σ a).bind λx=>(cV cx σ b).map λy=>.fk r.2 x y)) es)))))))
def nu(e:aH):Bool:=!(kf e==0)&&!(kf e==2)
def cM(o:aH)(nm:aB)(es:List aH):Option X:=ck (nu o) ((cx σ o).bind λx=>((xr.lookup nm).bind λks=>ck (decide (es.length<20)) ((cL cx σ es).map λxs=>.rz ks x xs)).or (((Vr.lookup nm).bind λr=>ck es.isEmpty (aa (.X4 r.1 r.2 x))).or
 (((Vt.lookup nm).bind λr=>fB (λa=>ck (ns a) ((cV cx σ a).map λy=>.Mo r.1 r.2 x y)) es).or ((Vu.lookup nm).bind λr=>mW (λa b=>ck (ns a&&ns b) ((cV cx σ a).bind λy=>(cV cx σ b).map λz=>.X5 r.1 r.2 x y z)) es))))
def Vx(f:aH)(es:List aH)(p:bQ):Option X:=(eF (λnm=>((cN σ nm).bind λi=>fB (λa=>ck (ns a) ((cx σ a).map λx=>.UY i x)) es).or (ck (σ.ci nm) (Ym cx σ nm es))) f).or (yz (λo nm b=>ck (b.endLine==p.line) (cM cx σ o nm es)) f)
def Yn(o:aH)(nm:aB):Option X:=(eF (λs=>ck (s==("self":aB)) (σ.fs.bind λf=>((bx f.1).findIdx? λy=>bJ y==nm).map λi=>.loc (f.2+i))) o).or (ck (nu o) ((ck (nm==("patterns":aB)) ((cx σ o).map λx=>.rz [(333,26)] x [])).or (((fc 12).find? λm=>bJ m==nm).bind λm=>(cx σ o).map λx=>.dG (pG m) x)))
noncomputable def MM(o:Option aH):Option X:=dP o (aa (.c .none)) (cx σ)
def Xf(a i:aH):Option X:=(kE ak N2 N2 N3 N2 N2 N3 N3 N3 N3 N2 N1 N1 N4 N4 N4 (λlo hi=>(cV cx σ a).bind λx=>(MM cx σ lo).bind λy=>(MM cx σ hi).map λz=>.fT x y z) i).or (ck (ns i) (((cV cx σ a).bind λx=>(cx σ i).map λy=>.fk eZ x y).or (eF (λnm=>ck (nm==("_POSIX_CLASSES":aB)&&σ.ci "_POSIX_CLASSES") ((cx σ i).map λy=>.dG Tm y)) a)))
def cK(c:GE):Option X:=HY c (aa (.c .none)) (λb=>aa (.c (.bool b))) (λi=>aa (.c (.int i))) N1 N2 (λx=>ck (iX x.cps.size aI) (aa (.c (.str x.cps.toList)))) (λb=>ck (iX b.length aI) (aa (.c (.bytes (b.map bR))))) ak
def Vy(e:aH):Option X:=kE ak (λnm d=>((cN σ nm).map .loc).or (cC σ yC nm)) (λc d=>cK c) (λa o b=>(TU.lookup o).bind λf=>(cV cx σ a).bind λx=>(cV cx σ b).map λy=>.fk f x y) (λo a=>(ck (o==.USub) ((cx σ a).map (.dG Lf))).or (ck (o==.Not) ((cV cx σ a).map λx=>.bool (.not (.of x)))))
 (λo es=>(cL cx σ es).map (.kH (W9 o))) (λc a b=>(cb σ c).bind λy=>(cx σ a).bind λx=>(cx σ b).map λz=>.ite y x z) (λa os bs=>(Lq cx σ a os bs).map .bool) (Vx cx σ) (λo nm d=>Yn cx σ o nm) (Xf cx σ) (λes=>ck (decide (es.length<30)) ((cL cx σ es).map .list)) (λes=>ck (decide (es.length<30)) ((cL cx σ es).map .tup)) (λg gs sc d=>ML cx cb σ g gs sc) N4 N4 N2 e
def Vz(e:aH):Option B:=(kE ak N2 N2 N3 (λo a=>ck (o==.Not) ((cb σ a).map .not)) (λo es=>(Ge cb σ es).map (.kH (W9 o))) N3 (λa os bs=>(Lq cx σ a os bs).or (fB (λc=>fB (eF λnm=>ck (decide (c=.NotIn)&&(nm==("_POSIX_CLASSES":aB)&&σ.ci "_POSIX_CLASSES")) ((cx σ a).map .pos)) bs) os)) N3 N3 N2 N1 N1 N4 N4 N4 N2 e).or (ck (!(kf e==0)&&eA (kf e) 4) ((cV cx σ e).map .of))
end
def cm(n:Nat):Cx×Cb:=xq (λx x=>ak,λx x=>ak) (λx c=>(Vy c.1 c.2,Vz c.1 c.2)) n
section
variable{cx:Cx}{os:List tQ}
theorem t7(h:(!b)=af):b=ag:=(mz b).mp h
theorem agJ(h:Xa a sc=af):Sd (λy=>Sd (λy=>pP a bd sc) (Lp bd)) (Xb a):=by
 cases a with
 |mk a1 a2 a3 a4 a5 a6 a7=>
 have o:=aP (aP h).2;have h2:=aP o.2;have m:=aP h2.2;have j:=aP m.2;have i:=aP j.2;have h6:=aP i.2;have g:=aP h6.2;have f:=aP g.2;refine fZ (P:=λl (y)=>Sd (λy=>pP ⟨a1,l,a3,a4,a5,a6,a7⟩ bd sc) (Lp bd)) (λx=>.ck λhx=>.so ?_) a2;refine u4 (P:=λbd (y)=>pP ⟨a1,[x],a3,a4,a5,a6,a7⟩ bd sc) (λl b=>fZ (P:=λl (y)=>pP ⟨a1,[x],a3,a4,a5,a6,a7⟩ (.List l b) sc) (λu=>u4 (P:=λu (y)=>pP ⟨a1,[x],a3,a4,a5,a6,a7⟩ (.List [u] b) sc) (λy y=>.no) λl k d=>nQ (P:=λl (y)=>pP ⟨a1,[x],a3,a4,a5,a6,a7⟩ (.List [.Tuple l k d] b) sc)
  (λu v=>xm (P:=λu (y)=>pP ⟨a1,[x],a3,a4,a5,a6,a7⟩ (.List [.Tuple [u,v] k d] b) sc) (λc q e=>.ck λhc=>eP (P:=λv (y)=>pP ⟨a1,[x],a3,a4,a5,a6,a7⟩ (.List [.Tuple [.Constant c q e,v] k d] b) sc) λn p=>.ck λr=>.so ?_) (λy y y y=>.no) λy y y=>.no) l) l) λy y y=>.no
 refine⟨⟨x.pos,?_⟩,⟨e,p,d,b,k,?_⟩,eX h6.1,bt g.1,t7 f.1,t7 f.2⟩
 ·cases x with|mk x1 x2 x3=>exact ae (qt.mp (aP h).1:a1=[]) (ae (wt.mp o.1:a3=ak) (ae (qt.mp h2.1:a4=[]) (ae (qt.mp m.1:a5=[]) (ae (wt.mp j.1:a6=ak) (ae (qt.mp i.1:a7=[]) (ae (bt (aP hx).1:x1=_) (ae (wt.mp (aP hx).2:x2=ak) rfl)))))))
 ·exact ae (bt (aP hc).1) (ae (bt (aP hc).2) (ae (bt r) rfl))
theorem agK(B:kz W n F)(E:σ.ci "all"=af):Sd (SX W n F σ (.Call (.Name "all" p) es [] q)) (Xd σ es):=fZ (P:=λes=>SX W n F σ (.Call (.Name "all" p) es [] q)) (λe=>JT (P:=λe=>SX W n F σ (.Call (.Name "all" p) [e] [] q)) (λy y y y=>.no) (λu s w z=>.ck λh=>
 .bind (xm (P:=λe (y)=>∃d k a j,e=.Compare (.Name "s" d) [.Eq] [.Constant (.bytes []) k a] j) (λy y y=>.no) (λx os bs j=>eP (P:=λx (y)=>∃d k a m,N5 x os bs j=.Compare (.Name "s" d) [.Eq] [.Constant (.bytes []) k a] m) λn d=>.ck λo=>fZ (P:=λbs (y)=>∃v k a m,N5 (.Name n d) os bs j=.Compare (.Name "s" v) [.Eq] [.Constant (.bytes []) k a] m) (λb=>xm (P:=λb (y)=>∃v k a m,N5 (.Name n d) os [b] j=.Compare (.Name "s" v) [.Eq] [.Constant (.bytes []) k a] m) (λc k a=>.ck λhc=>.so ⟨d,k,a,j,by rw[bt (aP o).1,bt (aP o).2,bt hc]⟩) (λy y y y=>.no) λy y y=>.no) bs) λy y y=>.no) λy f=>.op λt ht=>.ck λhp=>
 fZ (P:=λs=>SX W n F σ (.Call (.Name "all" p) [.GeneratorExp u s w z] [] q)) (λg=>.ck λC=>.bind (eP (P:=λx (y)=>∃l,x=.Name "s" l) λn l=>.ck λo=>.so ⟨l,by rw[bt o]⟩) λy D=>by
  cases g with
  |mk tg it dS as=>refine D.elim λl r=>f.elim λd f=>f.elim λk f=>f.elim λa f=>f.elim λj f=>?_;have r:tg=_:=r;have h6:as=0:=bt (aP C).1;have G:dS=[]:=qt.mp (aP C).2;exact ae f (ae r (ae h6 (ae G (eP (P:=λit=>SX W n F σ (.Call (.Name "all" p) [.GeneratorExp (.Compare (.Name "s" d) [.Eq] [.Constant (.bytes []) k a] j) [⟨.Name "s" l,it,[],0⟩] w z] [] q)) λnm H=>.map ri λi A=>abF B.K B.B (t7 (aP h).1) (ht.trans (am (eX hp) rfl)) E (U4 A.1 A.2) (λy y=>rfl) (eX (aP (aP h).2).1) (bt (aP (aP (aP h).2).2).1) (t7 (aP (aP (aP h).2).2).2)))))) s) λy y y y=>.no) es
variable(hx:∀σ e,Sd (SX W n F σ e) (cx σ e))
include hx
theorem RX:Sd (λy=>SK W n F σ uR (λq=>q.W W (eval (.Compare a os bs p) q.env)) y/\SB W n F σ (.Compare a os bs p) y) (Lq cx σ a os bs):=
 .or (fZ (P:=λos y=>SK W n F σ uR (λq=>q.W W (eval (.Compare a os bs p) q.env)) y/\SB W n F σ (.Compare a os bs p) y) (λc=>fZ (P:=λbs y=>SK W n F σ uR (λq=>q.W W (eval (.Compare a [c] bs p) q.env)) y/\SB W n F σ (.Compare a [c] bs p) y) (λb=>.ck λe=>.bind (ik hx) λx h=>.map (ik hx) λy f=>⟨alN h f (t7 e),alO h f (t7 e)⟩) bs) os)
  (nQ (P:=λos y=>SK W n F σ uR (λq=>q.W W (eval (.Compare a os bs p) q.env)) y/\SB W n F σ (.Compare a os bs p) y) (λc g=>nQ (P:=λbs y=>SK W n F σ uR (λq=>q.W W (eval (.Compare a [c,g] bs p) q.env)) y/\SB W n F σ (.Compare a [c,g] bs p) y) (λb d=>.ck λe=>.bind (ik hx) λx h=>.bind (ik hx) λy f=>.map (ik hx) λz h2=>⟨aiX h f h2 (t7 e),aiY h f h2 (t7 e)⟩) bs) os)
theorem agL(B:kz W n F)(c:(nm,k)∈rb)(f:σ.ci nm=af):Sd (SX W n F σ (.Call (.Name nm p) es [] q)) (Xc cx σ k es):=cZ es .no λe r=>JT (P:=λe=>SX W n F σ (.Call (.Name nm p) (e::r) [] q)) (λx x x x=>.no) (λx x x x=>.no) λa l j pl=>.ck λh=>.bind (agJ (aP (aP h).2).1) λx b=>.bind b λx b=>.op λt ht=>.ck λhp=>.op λi d=>.map (te hx) λg r=>ajq (P:=t.1) (t:=t.2.2) B.K B.Ph c f r (aP h).1 (ht.trans (am (eX hp) rfl)) b (JU d) (bt (aP (aP h).2).2)
theorem agM(B:kz W n F)(g:σ.ci "list"=af):Sd (SX W n F σ (.Call (.Name "list" p) es [] q)) (Xe cx σ af es):=fZ (P:=λes=>SX W n F σ (.Call (.Name "list" p) es [] q)) (λe=>Ar (P:=λe=>SX W n F σ (.Call (.Name "list" p) [e] [] q)) λf c r=>eP (P:=λf=>SX W n F σ (.Call (.Name "list" p) [.Call f c [] r] [] q)) λnm d=>
 .or (.ck λh=>(bt (aP h).1).symm▸nQ (P:=λc=>SX W n F σ (.Call (.Name "list" p) [.Call (.Name "range" d) c [] r] [] q)) (λa b=>.ck λhs=>.bind (hx σ a) λx z=>.map (hx σ b) λy i=>aeg B.K B.B g (aP h).2 z (gR (aP hs).1) i (gR (aP hs).2)) c)
  (.ck λh=>(bt (aP h).1).symm▸fZ (P:=λc=>SX W n F σ (.Call (.Name "list" p) [.Call (.Name "read_ignore_patterns" d) c [] r] [] q)) (λa=>.ck λhs=>.map (hx σ a) λx z=>B.Td g (aP h).2 z (gR hs)) c)) es
end
section
variable{W:Wd}{n:Nat}{F:Fn}{σ:Sc}{cx:Cx}{cb:Cb}{a e:aH}{es:List aH}{nm:aB}{p q:bQ}
theorem xA(h:nu e=af):lI e:=(pf e).nu (λq=>by unfold nu at h;rw[q]at h;cases h) λq=>by unfold nu at h;rw[q]at h;cases h
theorem ami{c:GE}{k:Nat}:Sd (SX W n F σ (.Constant c k p)) (cK c):=HY c (.so aiU) (λx=>.so aiV) (λx=>.so alI) (λx=>.no) (λx x=>.no) (λx=>.ck λh=>.so (alJ (cH h))) (λx=>.ck λh=>.so (af7 (cH h))) .no
theorem aof{α β:Type} [BEq α] [LawfulBEq α]{k:α}{v:β}{l:List (α×β)}:l.lookup k=aa v->(k,v)∈l:=by
 induction l with
 |nil=>exactλh=>aN h
 |cons x l ih=>rw[sa];cases h:k==x.1 with|true=>exactλe=>aM e▸bt h▸.head _|false=>exactλe=>.tail _ (ih e)
theorem ajz:∀r∈TU,∀{a b x y p},SV W n F σ a x->SV W n F σ b y->SX W n F σ (.BinOp a r.1 b p) (.fk r.2 x y):=eV.mpr ⟨λh c=>alE h c,eV.mpr ⟨λh c=>alF h c,eV.mpr ⟨λh c=>aiT h c,eV.mpr ⟨λh c=>alG h c,uz _⟩⟩⟩⟩
theorem TV{C i:Nat}(hi:((bx C).findIdx? λy=>bJ y==nm)=aa i):∃y,bJ y=nm/\(bx C).idxOf? y=aa i:=(y7.mp hi).elim λa z=>⟨_,bt z.1,(y7).mpr ⟨a,kX _,λj b y=>z.2 j b (by rw[bt y];exact z.1)⟩⟩
section
variable(hx:∀σ e,Sd (SX W n F σ e) (cx σ e))(B:kz W n F)
include hx B
theorem ajA(c:σ.ci "isinstance"=af):Sd (SX W n F σ (.Call (.Name "isinstance" p) es [] q)) (Yl cx σ es):=nQ (P:=λes=>SX W n F σ (.Call (.Name "isinstance" p) es [] q)) (λa b=>.ck λhs=>eP (P:=λb=>SX W n F σ (.Call (.Name "isinstance" p) [a,b] [] q)) λt r=>.ck λht=>.bind (u8 (ajw B.K B.B)) λr z=>.map (ik hx) λx h=>z c ht h (gR hs)) es
theorem ajB(c:σ.ci nm=af):Sd (SX W n F σ (.Call (.Name nm p) es [] q)) (Ym cx σ nm es):=.or (.op λk d=>.or (.map (te hx) λe r=>af9 B.K B.Ph (mem_of_lookup d) c r) (agL hx B (mem_of_lookup d) c)) (.or (.op λr f=>.map (te hx) λe h=>alS B.K B.Ph (mem_of_lookup f) c h)
 (.or (.ck λh=>by rw[bt h]at c⊢;exact agM hx B c) (.or (.ck λh=>by rw[bt h]at c⊢;exact agK B c) (.or (.ck λh=>by rw[bt h]at c⊢;exact ajA hx B c) (.or (.ck λh=>.so af6)
 (.or (fZ (P:=λes=>SX W n F σ (.Call (.Name nm p) es [] q)) (λa=>.ck λhs=>.bind (u8 (amd B.K B.B)) λr z=>.map (ik hx) λx h=>z c h (gR hs)) es)
  (nQ (P:=λes=>SX W n F σ (.Call (.Name nm p) es [] q)) (λa b=>.ck λhs=>.bind (u8 (ame B.K B.B)) λr z=>.bind (ik hx) λx h=>.map (ik hx) λy g=>z c h (gR (aP hs).1) g (gR (aP hs).2)) es)))))))
theorem amj(e:(q.endLine==p.line)=af):Sd (SX W n F σ (.Call (.Attribute a nm q) es [] p)) (cM cx σ a nm es):=.ck λd=>.bind (hx σ a) λx h=>.or (.op λks i=>.ck λg=>.map (te hx) λk r=>ai4 B.K B.Ph (mem_of_lookup i) h (xA d) r (eX g) e)
 (.or (.bind (u8 (amf)) λr z=>.ck λj=>.so (by rw[qt.mp j];exact al1 z h (xA d) e))
 (.or (.bind (u8 (amg)) λr z=>fZ (P:=λes=>SX W n F σ (.Call (.Attribute a nm q) es [] p)) (λb=>.ck λhs=>.map (ik hx) λy f=>al2 z h (xA d) f (gR hs) e) es)
  (.bind (u8 (amh)) λr z=>nQ (P:=λes=>SX W n F σ (.Call (.Attribute a nm q) es [] p)) (λb c=>.ck λhs=>.bind (ik hx) λy f=>.map (ik hx) λy h2=>al3 z h (xA d) f (gR (aP hs).1) h2 (gR (aP hs).2) e) es)))
theorem aeO:Sd (SX W n F σ (.Call a es [] p)) (Vx cx σ a es p):=.or (eP (P:=λa=>SX W n F σ (.Call a es [] p)) λnm q=>.or (.bind ri λi b=>fZ (P:=λes=>SX W n F σ (.Call (.Name nm q) es [] p)) (λe=>.ck λhs=>.map (hx σ e) λx h=>agC b.1 b.2 B.K h (gR hs)) es) (.ck λd=>ajB hx B d))
 (Aq (P:=λa=>SX W n F σ (.Call a es [] p)) λo nm q=>.ck λc=>amj hx B c)
theorem ajC:Sd (SX W n F σ (.Attribute a nm p)) (Yn cx σ a nm):=.or (eP (P:=λa=>SX W n F σ (.Attribute a nm p)) λs q=>.ck λhs=>.op λf hf=>.om λi d=>by
  exact(TV d).elim λy z=>by rw[bt hs,<-z.1];exact al9 B.K (B.Ph.attr f.1 y i z.2) hf)
 (.ck λb=>.or (.ck λh=>.map (hx σ a) λx z=>(bt h).symm▸ai3 B.Ph z (xA b)) (.op λm c=>.map (hx σ a) λx z=>(bt (Hx (p:=λm=>bJ m==nm) c))▸ai2 B.K B.Ph z (xA b)))
omit B in
theorem TW{o:Option aH}:Sd (SP W n F σ o) (MM cx σ o):=dP o (.so aiZ) λe x h=>ai0 (hx σ e x h)
theorem agN{i:aH}:Sd (SX W n F σ (.Subscript a i p)) (Xf cx σ a i):=.or (mK (P:=λi o=>Sd (SX W n F σ (.Subscript a i p)) o) (λx=>.no) (λx x=>.no) (λx x x=>.no) (λx x x x=>.no) (λx x x=>.no) (λx x x=>.no) (λx x x x=>.no) (λx x x x=>.no) (λx x x=>.no) (λx x x=>.no) (λx x x=>.no) (λx x=>.no) (λx x x=>.no) (λx x x x=>.no) (λx x x x=>.no) (λx x x x=>.no)
  (λlo c r=>.bind (ik hx) λx h=>.bind (TW hx) λy b=>.map (TW hx) λz h2=>alR h b h2) i)
 (.ck λhs=>.or (.bind (ik hx) λx h=>.map (hx σ i) λy b=>alQ h b ((pf i).nl (xz hs))) (eP (P:=λa=>SX W n F σ (.Subscript a i p)) λnm q=>.ck λh=>.map (hx σ i) λy b=>B.Z.elim λad Z=>Z.elim λf Z=>(bt (aP h).1).symm▸aef B.K Z b (aP h).2 ((pf i).nl (xz hs))))
variable(hb:∀σ e,Sd (SB W n F σ e) (cb σ e))
include hb
theorem aeP:Sd (SX W n F σ e) (Vy cx cb σ e):=mK (P:=λe o=>Sd (SX W n F σ e) o) (λy=>.no) (λnm p=>.or (.map ri λi h=>U4 h.1 h.2) (amc B.K B.G)) (λc k p=>ami) (λa o b p=>.op λf hf=>.bind (ik hx) λx h=>.map (ik hx) λy d=>ajz _ (aof hf) h d)
 (λo a p=>.or (.ck λh=>.map (hx σ a) λx z=>(bt h).symm▸alH z.v) (.ck λh=>.map (ik hx) λx z=>(bt h).symm▸alP z)) (λo es p=>.map (te hx) λg r=>NI o (U7 r) (U7 r)) (λc a b p=>.bind (hb σ c) λy h=>.bind (hx σ a) λx d=>.map (hx σ b) λz h2=>alL h d h2)
 (λa os bs p=>.map (RX hx) λy h=>Tw h.1) (λf es p=>aeO hx B) (λo nm p=>ajC hx B) (λa i p=>agN hx B) (λes p=>.ck λh=>.map (te hx) λg r=>aiW r (eX h)) (λes k p=>.ck λh=>.map (te hx) λg r=>alK r (eX h))
 (λu j l p=>λx h=>Lc.casesOn (motive:=λj x y=>SX W n F σ (.ListComp u j l p) x) (TT B.K B.B hx hb x h) λC s q m ht t w A=>TJ B.K C s q m ht t w A) (λy y y y=>.no) (λy y y y=>.no) (λy y y=>.no) e
theorem aeQ:Sd (SB W n F σ e) (Vz cx cb σ e):=.or (mK (P:=λe o=>Sd (SB W n F σ e) o) (λx=>.no) (λx x=>.no) (λx x x=>.no) (λx x x x=>.no) (λo a p=>.ck λh=>.map (hb σ a) λx z=>(bt h).symm▸alM z) (λo es p=>.map (JW hb) λd r=>NI o (U6 r.1) (U6 r.1)) (λx x x x=>.no)
  (λa os bs p=>.or (λy h=>(RX hx y h).2) (fZ (P:=λos=>SB W n F σ (.Compare a os bs p)) (λc=>fZ (P:=λbs=>SB W n F σ (.Compare a [c] bs p)) (λb=>eP (P:=λb=>SB W n F σ (.Compare a [c] [b] p)) λnm q=>.ck λh=>.map (hx σ a) λx z=>by rw[eX (aP h).1,bt (aP (aP h).2).1];exact B.Z.elim λad Z=>Z.elim λf Z=>alV B.K Z z (aP (aP h).2).2) bs) os)) (λx x x=>.no) (λx x x=>.no) (λx x x=>.no) (λx x=>.no) (λx x x=>.no) (λx x x x=>.no) (λx x x x=>.no) (λx x x x=>.no) (λx x x=>.no) e)
 (.ck λh=>.map (ik hx) λx z=>anY z ((pf e).tp (λq=>by rw[q]at h;cases h) (cH (aP h).2)))
end
theorem VA(B:kz W n F)(k:Nat):(∀σ e,Sd (SX W n F σ e) ((cm k).1 σ e))/\∀σ e,Sd (SB W n F σ e) ((cm k).2 σ e):=by induction k with|zero=>exact⟨λx x=>.no,λx x=>.no⟩|succ k ih=>exact⟨λσ e=>aeP ih.1 B ih.2,λσ e=>aeQ ih.1 B ih.2⟩
end
section
variable{α:Type}
noncomputable def sE(d:α)(j:Option aH->bQ->α)(n:List aH->aH->bQ->α)(m:aH->EX->aH->α)(fo:aH->aH->List cO->bQ->α)(wh:aH->List cO->α)(l:aH->List cO->List cO->α)(k:aH->α)
  (g:List cO->List IB->α) (ex:aH->bQ->α) (pa br co:α) (s:cO):α:=
 GX (motive_2:=λx=>α) s (λx x x x x x x x x x=>d) (λx x x x x x x x x x=>d) (λx x x x x x x x x x x=>d) j (λx x=>d) n (λx x x x x x x=>d) (λt o v x=>m t o v) (λx x x x x=>d) (λt i b o p=>cZ o (fo t i b p) λx x=>d) (λx x x x x=>d) (λc b o x=>cZ o (wh c b) λx x=>d) (λc a b x=>l c a b)
  (λx x x=>d) (λx x x=>d) (λx x x=>d) (λe c x=>dP e d λe=>dP c (k e) λx=>d) (λb h o f x=>cZ o (cZ f (g b h) λx x=>d) λx x=>d) (λx x x x x=>d) (λx x x=>d) (λx x=>d) (λx x x x=>d) (λx x=>d) (λx x=>d) ex (λx=>pa) (λx=>br) λx=>co
variable{fo:aH->aH->List cO->bQ->α}{wh:aH->List cO->α}
theorem KO{P:cO->α->Prop}(g:∀s,P s d)(u:∀e p,P (.Return e p) (re e p))(h2:∀t e p,P (.Assign t e p) (as t e p))(r:∀t o e p,P (.AugAssign t o e p) (au t o e))(q:∀t i b p,P (.For t i b [] p) (fo t i b p))(n:∀c b p,P (.While c b [] p) (wh c b))(h6:∀c a b p,P (.If c a b p) (fi c a b))(m:∀e p,P (.Raise (aa e) ak p) (ra e))
  (l:∀b h p,P (.Try b h [] [] p) (tr b h)) (k:∀e p,P (.Expr e p) (ex e p)) (j:∀p,P (.Pass p) pa) (hb:∀p,P (.Break p) br) (hc:∀p,P (.Continue p) co):P s (sE d re as au fo wh fi ra tr ex pa br co s):=
 GX s (λx x x x x x x x x x=>g _) (λx x x x x x x x x x=>g _) (λx x x x x x x x x x x=>g _) u (λx x=>g _) h2 (λx x x x x x x=>g _) r (λx x x x x=>g _)
  (λt i b o p=>cZ o (q t i b p) λx x=>g _) (λx x x x x=>g _) (λc b o p=>cZ o (n c b p) λx x=>g _) h6
  (λx x x=>g _) (λx x x=>g _) (λx x x=>g _) (λe c p=>dP e (g _) λe=>dP c (m e p) λx=>g _)
  (λb h o f p=>cZ o (cZ f (l b h p) λx x=>g _) λx x=>g _) (λx x x x x=>g _) (λx x x=>g _) (λx x=>g _) (λx x x x=>g _) (λx x=>g _) (λx x=>g _) k j hb hc
end
section
variable{α:Type}
def FE(f:List aH->aH->Option α)(s:cO):Option α:=sE ak N2 (λt e x=>f t e) N3 N4 N2 N3 N1 N2 N2 ak ak ak s
theorem agO{P:cO->α->Prop}(h:∀t e p,Sd (P (.Assign t e p)) (f t e)):Sd (P s) (FE f s):=KO (P:=λs o=>Sd (P s) o) (λx=>.no) (λx x=>.no) h (λx x x x=>.no) (λx x x x=>.no) (λx x x=>.no) (λx x x x=>.no) (λx x=>.no) (λx x x=>.no) (λx x=>.no) (λx=>.no) (λx=>.no) (λx=>.no)
def Yp(o:Option α)(s:cO):Option α:=sE ak (λv x=>dP v o N1) N3 N3 N4 N2 N3 N1 N2 N2 ak ak ak s
theorem ajD{P:cO->α->Prop}(h:∀p,Sd (P (.Return ak p)) o):Sd (P s) (Yp o s):=KO (P:=λs o=>Sd (P s) o) (λx=>.no) (λv p=>dP v (h p) λx=>.no) (λx x x=>.no) (λx x x x=>.no) (λx x x x=>.no) (λx x x=>.no) (λx x x x=>.no) (λx x=>.no) (λx x x=>.no) (λx x=>.no) (λx=>.no) (λx=>.no) (λx=>.no)
def Yq(f:aH->List cO->Option α)(h:IB):Option α:=ZG (motive_4:=λx=>Option α) h λt n b x=>dP n (dP t ak λt=>f t b) N1
theorem ajE{P:IB->α->Prop}(k:∀t b p,Sd (P (.ExceptHandler (aa t) ak b p)) (f t b)):Sd (P h) (Yq f h):=ZG h λt n b p=>dP n (dP t .no λt=>k t b p) λx=>.no
end
section
variable(cx:Cx)(cb:Cb)(σ:Sc)
noncomputable def yD(l:List Nat):Bool:=l.all λi=>σ.ns[i]?.any λn=>(σ.tb.lookup n).isSome
noncomputable def mP(p:bQ):List Nat:=(σ.fz.lookup p.line).getD []
def nc(e:aH):Bool:=!(kf e==0)&&!(kf e==3)
def BJ(e:aH):Bool:=nc e&&!(kf e==5)
def cF(e:aH):Option X:=(tK (λes=>ck (decide (es.length<30)) ((cL cx σ es).map .list)) N1 e).or (MK N2 (λa o b=>ck (o==.Add) ((cV cx σ a).bind λx=>(cV cx σ b).map λy=>.fk c6 x y)) e)
def Au(e:aH):Option Unit:=eF (λn=>ck (n==("self":aB)) (aa ())) e
def MO(C:Nat)(nm:aB):Option Nat:=((bx C).findIdx? λy=>bJ y==nm).bind λi=>ck (((bx C).take i).all λz=>!(bJ z==nm)) (aa i)
def Yr(t e:aH)(p:bQ):Option T:=ck (yD σ (mP σ p)) ((eF (λnm=>(cT σ nm).bind λi=>cond (σ.own.contains i) (ck (nc e) ((cF cx σ e).map λx=>.own i x)) ((ck (nc e) ((cx σ e).map λx=>.asg (mP σ p) i x)).or ((Gb (λh gs sc z=>ML cx cb σ h gs sc) N4 N4 e).map λx=>.asg (mP σ p) i x))) t).or
 ((tK N1 (λd=>((tK N1 (λxs=>ck (xs.all An&&(iX 4 xs.length&&eA xs.length 30)) ((yB σ d).bind λis=>ck (is.length==xs.length) (aa (.WF is)))) e).or
  (((tK N1 (λxs=>ck (xs.all (DA 8)||!xs.all (zC 8)) (aa ())) e).bind λz=>(yB σ d).bind λis=>ck (decide is.Nodup) ((cx σ e).map λx=>.Fw (mP σ p) is x)).or
  ((ck (BJ e) ((yB σ d).bind λis=>(cx σ e).map λx=>.Fw (mP σ p) is x)).or
  ((ck (BJ e) (mW (λa b=>yz (λo nm z=>(Au o).bind λz=>σ.fs.bind λf=>(MO f.1 nm).bind λi=>eF (λn=>(cT σ n).bind λj=>(cx σ e).map λx=>.W5 f.2 i j x) b) a) d)).or
  (yA (λg es z=>eF (λnm=>ck (nm==("_posix_class":aB)&&(σ.ci nm&&σ.fs.isNone)) (Yi (λa b u v=>ck (ns a&&ns b) ((cx σ a).bind λx=>(cx σ b).bind λy=>eF (λm=>(cN σ m).bind λi=>eF (λm'=>(cN σ m').bind λj=>ck (!(i==j)) ((yB σ d).map λis=>.lend is 46 x y i j)) v) u)) es)) g) e)))))) t).or
 ((yz (λo nm z=>(Au o).bind λz=>σ.fs.bind λf=>(MO f.1 nm).bind λi=>ck (nc e) (((cF cx σ e).map λx=>.W4 f.2 i x).or ((cx σ e).map λx=>.sat f.2 i x))) t).or
 (v7 N2 N3 (λo i=>eF (λnm=>MK (λu c=>ck (u==.USub&&nc e) (v7 (λk z=>ck (k==.int 1) ((cN σ nm).bind λi=>(cx σ e).map λx=>.WH i x)) N3 N2 c)) N3 i) o) t))))
def Ys(e:aH)(p:bQ):Option T:=yA (λf es r=>yz (λo nm q=>ck (q.endLine==r.line) (fB (λa=>ck (ns a) ((cx σ a).bind λx=>(ck (nm==("append":aB)&&yD σ (mP σ p)) ((eF (λn=>(cN σ n).map λi=>.app (mP σ p) i x) o).or (yz (λs n z=>(Au s).bind λz=>σ.fs.bind λf=>((bx f.1).findIdx? λy=>bJ y==n).map λi=>.W7 (f.2+i) x) o))).or
 (ck (nm==("append_pattern":aB)) ((Au o).bind λz=>σ.fs.bind λf=>ck (f.1==333&&iX (f.2+3) σ.ns.length) (aa (.U0 51 x (k7 f.2 (bx 333).length))))))) es)) f) e
def Xg(b:List cO)(h:List IB):Option T:=fB (FE λa e=>fB (eF λnm=>(cT σ nm).bind λi=>ck (nc e&&σ.ci "MalformedPattern") (fB (Yq λt b=>eF (λk=>ck (k==("MalformedPattern":aB)) (fB (Yp ((cx σ e).map λx=>.To i x)) b)) t) h)) a) b
def VB(c:List cO->Option (List T))(s:cO):Option T:=sE ak (λe p=>dP e (aa (.ret [] (.c .none))) λe=>ck (yD σ (mP σ p)) ((cx σ e).map λx=>.ret (mP σ p) x)) (λd e p=>(fB (λt=>Yr cx cb σ t e p) d).or (mW (λa b=>eF (λn=>(cT σ n).bind λi=>eF (λm=>(cT σ m).bind λj=>(cx σ e).map λx=>.WG i j x) b) a) d))
 (λt o e=>ck (o==.Add) (eF (λnm=>(cN σ nm).bind λz=>(cT σ nm).bind λi=>(cx σ e).map λx=>.aug i x) t)) (λt i b p=>ck (yD σ (mP σ p)&&ns i) ((cI cx σ i).bind λit=>(Gf σ t).bind λg=>ck (!it.1||g.1) ((c b).map λd=>.for (mP σ p) g.1 g.2 it.2 d))) (λx b=>(cb σ x).bind λy=>(c b).map λd=>.while y d) (λx a b=>(cb σ x).bind λy=>(c a).bind λd=>(c b).map λus=>.ite y d us)
 (yA λf es z=>eF (λnm=>ck (nm==("MalformedPattern":aB)&&σ.ci "MalformedPattern") (fB (λa=>ck (ns a) ((cx σ a).map λx=>.WI x)) es)) f) (Xg cx σ) (Ys cx σ) (aa .pass) (aa .brk) (aa .cont) s
end
def t8(σ:Sc)(n:Nat):List cO->Option (List T):=xq (λx=>ak) (λx c a=>cX (aa []) (λs x b=>(VB (cm 30).1 (cm 30).2 σ c s).bind λt=>b.map (t::·)) a) n
section
variable{cx:Cx}{cb:Cb}
theorem sP(h:yD σ l=af):Nm σ l:=λi a=>by have z:=ew.mp h i a;cases e:σ.ns[i]? with|none=>have z:=e▸z;cases z|some nm=>have z:=e▸z;exact⟨nm,rfl,λq=>by have z:=q▸(show(aa nm).any (λn=>(σ.tb.lookup n).isSome)=(σ.tb.lookup nm).isSome from rfl)▸z;cases z⟩
theorem vq(h:nc e=af):NC e:=(pf e).nc (λq=>by unfold nc at h;have h:=q▸h;cases h) λq=>by unfold nc at h;have h:=q▸h;cases h
theorem EL(h:BJ e=af):NC e/\NT e:=⟨vq (aP h).1,(pf e).nt (λq=>by unfold BJ nc at h;have h:=q▸h;cases h) λq=>by unfold BJ nc at h;have h:=q▸h;cases h⟩
theorem DG:Sd (λx=>∃p,e=.Name "self" p) (Au e):=eP (P:=λe (x)=>∃p,e=.Name "self" p) λn p=>.ck λh=>.so ⟨p,ae (bt h) rfl⟩
theorem TX:Sd (λi=>∃y,bJ y=nm/\(bx C)[i]?=aa y/\(((bx C).take i).all λz=>!(bJ z==bJ y))=af) (MO C nm):=.op λi b=>.ck λh=>.so ((y7.mp b).elim λa z=>⟨_,bt z.1,kc a,ae (bt z.1) h⟩)
section
variable(hx:∀σ e,Sd (SX W n F σ e) (cx σ e))
include hx
theorem VC:Sd (SF W n F σ e) (cF cx σ e):=.or (u4 (λes p=>.ck λh=>.map (te hx) λd r=>ajb r (eX h)) λx x x=>.no) (TS (λx x x=>.no) λa o b p=>.ck λh=>.bind (ik hx) λx z=>.map (ik hx) λy c=>am ((bt h).symm) (alW z c))
variable(B:kz W n F)(hb:∀σ e,Sd (SB W n F σ e) (cb σ e))
include B hb
theorem ajF:Sd (SS W n F σ (.Assign [t] e p)) (Yr cx cb σ t e p):=.ck λhf=>.or (eP (P:=λt=>SS W n F σ (.Assign [t] e p)) λnm q=>.bind ta λi d=>by
  cases σ.own.contains i with
  |true=>exact .ck λh=>.map (VC hx) λx z=>ajd B.K d.1 d.2 z (vq h)
  |false=>exact .or (.ck λh=>.map (hx σ e) λx z=>ai5 B.K (sP hf) d.1 d.2 z (vq h)) (.map (JT (P:=λe x=>SS W n F σ (.Assign [.Name nm q] e p) (.asg (mP σ p) i x)) (λe0 gs sc r x h=>Lc.casesOn (TT B.K B.B hx hb x h) λC Z T S ht Y d4 cg=>agz B.K (sP hf) d.1 d.2 C Z T S ht Y d4 cg) (λy y y y=>.no) λy y y y=>.no) λx z=>z))
 (.or (u4 (P:=λt=>SS W n F σ (.Assign [t] e p)) (λy y=>.no) λl k r=>
  .or (u4 (P:=λe=>SS W n F σ (.Assign [.Tuple l k r] e p)) (λy y=>.no) λw D q=>.ck λh=>.bind As λis hs=>.ck λU=>.so (agl B.K hs (aP h).1 (bt U) (cH (aP (aP h).2).2) (cH (aP (aP h).2).1)))
  (.or (.bind (u4 (P:=λe (y)=>∃w D q,e=.Tuple w D q/\(w.all (DA 8)||!w.all (zC 8))=af) (λy y=>.no) λw D q=>.ck λh=>.so ⟨w,D,q,rfl,h⟩) λy h=>.bind As λis hs=>.ck λhd=>.map (hx σ e) λx z=>h.elim λw h=>h.elim λD h=>h.elim λq h=>by have X:=h.1;subst X;exact aei B.K (sP hf) hs (eX hd) z h.2)
  (.or (.ck λh=>.bind As λis hs=>.map (hx σ e) λx z=>agf B.K (sP hf) hs z (EL h).1 (EL h).2)
  (.or (.ck λh=>nQ (P:=λl=>SS W n F σ (.Assign [.Tuple l k r] e p)) (λa b=>Aq (P:=λa=>SS W n F σ (.Assign [.Tuple [a,b] k r] e p)) λo nm q=>.bind DG λy A=>.op λf H=>.bind TX λi d=>eP (P:=λb=>SS W n F σ (.Assign [.Tuple [.Attribute o nm q,b] k r] e p)) λvX q'=>.bind ta λj E=>.map (hx σ e) λx z=>A.elim λQ A=>d.elim λy s=>by exact ae A (am s.1 (agF B.K B.SA H s.2.1 s.2.2 E.1 E.2 z (EL h).1 (EL h).2))) l)
  (Ar (P:=λe=>SS W n F σ (.Assign [.Tuple l k r] e p)) λg es G=>eP (P:=λg=>SS W n F σ (.Assign [.Tuple l k r] (.Call g es [] G) p)) λnm q=>.ck λh=>ajv (P:=λes=>SS W n F σ (.Assign [.Tuple l k r] (.Call (.Name nm q) es [] G) p)) (λa b u v=>.ck λhs=>.bind (hx σ a) λx z=>.bind (hx σ b) λy N=>eP (P:=λu=>SS W n F σ (.Assign [.Tuple l k r] (.Call (.Name nm q) [a,b,u,v] [] G) p)) λm R=>.bind ri λi d=>eP (P:=λv=>SS W n F σ (.Assign [.Tuple l k r] (.Call (.Name nm q) [a,b,.Name m R,v] [] G) p)) λm' p2=>.bind ri λj E=>.ck λI=>.map As λis d6=>B.Ln.elim λfv L=>L.elim λM L=>agH B.K (ae (bt (aP h).1) L.1) L.2.1 (aP (aP h).2).1 L.2.2.1 L.2.2.2.1 L.2.2.2.2.1 (wt.mp (aP (aP h).2).2) L.2.2.2.2.2 z (gR (aP hs).1) N (gR (aP hs).2) d.1 d.2 E.1 E.2 (λe=>by rw[e,kX]at I;cases I) d6) es)))))
 (.or (Aq (P:=λt=>SS W n F σ (.Assign [t] e p)) λo nm q=>.bind DG λy A=>.op λf H=>.bind TX λi d=>.ck λh=>A.elim λQ A=>d.elim λy s=>by exact ae A (am s.1 (.or (.map (VC hx) λx z=>agE B.K B.SA H s.2.1 s.2.2 z (vq h)) (.map (hx σ e) λx z=>ajs B.K B.SA H s.2.1 s.2.2 z (vq h)))))
 (xm (P:=λt=>SS W n F σ (.Assign [t] e p)) (λy y y=>.no) (λy y y y=>.no) λo i q=>eP (P:=λo=>SS W n F σ (.Assign [.Subscript o i q] e p)) λnm J=>TS (P:=λi=>SS W n F σ (.Assign [.Subscript (.Name nm J) i q] e p)) (λu c O=>.ck λh=>xm (P:=λc=>SS W n F σ (.Assign [.Subscript (.Name nm J) (.UnaryOp u c O) q] e p)) (λk kk q3=>.ck λV=>.bind ri λi d=>.map (hx σ e) λx z=>by exact ae (bt (aP h).1) (ae (bt V) (agk B.K d.1 d.2 z (vq (aP h).2)))) (λy y y y=>.no) λy y y=>.no) λy y y y=>.no)))
end
end
section
variable{cx:Cx}{cb:Cb}{c:List cO->Option (List T)}
section
variable(hx:∀σ e,Sd (SX W n F σ e) (cx σ e))(B:kz W n F)
include hx B
theorem ajG:Sd (SS W n F σ (.Expr e p)) (Ys cx σ e p):=Ar (P:=λe=>SS W n F σ (.Expr e p)) λf es r=>Aq (P:=λf=>SS W n F σ (.Expr (.Call f es [] r) p)) λo nm q=>.ck λd=>fZ (P:=λes=>SS W n F σ (.Expr (.Call (.Attribute o nm q) es [] r) p)) (λa=>.ck λhs=>.bind (hx σ a) λx z=>
 .or (.ck λh=>(bt (aP h).1).symm▸.or (eP (P:=λo=>SS W n F σ (.Expr (.Call (.Attribute o "append" q) [a] [] r) p)) λm s=>.map ri λi c=>aje B.K (sP (aP h).2) c.1 c.2 z (gR hs) d)
   (Aq (P:=λo=>SS W n F σ (.Expr (.Call (.Attribute o "append" q) [a] [] r) p)) λs' m s=>.bind DG λx b=>.op λf hf=>.om λi c=>b.elim λl b=>(TV c).elim λy g=>ae b (am g.1 (agG B.K (B.Ph.attr _ _ _ g.2) hf z (gR hs) d))))
  (.ck λh=>.bind DG λx b=>.op λf hf=>.ck λj=>.so (b.elim λl b=>B.Ap.elim λfa L=>L.elim λk L=>by have e:f=(333,f.2):=am (bt (aP j).1) rfl;exact ae b (ae (bt h) (aeM B.K L.1 L.2.1 (hf.trans (aj aa e)) (cH (aP j).2) L.2.2.1 L.2.2.2.1 L.2.2.2.2.1 L.2.2.2.2.2 z (gR hs) d))))) es
theorem agP:Sd (SS W n F σ (.Try b h [] [] p)) (Xg cx σ b h):=fZ (P:=λb=>SS W n F σ (.Try b h [] [] p)) (λs=>agO (P:=λs=>SS W n F σ (.Try [s] h [] [] p)) λc e q=>fZ (P:=λc=>SS W n F σ (.Try [.Assign c e q] h [] [] p)) (λt=>eP (P:=λt=>SS W n F σ (.Try [.Assign [t] e q] h [] [] p)) λnm a=>.bind ta λi g=>.ck λj=>fZ (P:=λh=>SS W n F σ (.Try [.Assign [.Name nm a] e q] h [] [] p)) (λh=>ajE (P:=λh=>SS W n F σ (.Try [.Assign [.Name nm a] e q] [h] [] [] p)) λt b d=>eP (P:=λt=>SS W n F σ (.Try [.Assign [.Name nm a] e q] [.ExceptHandler (aa t) ak b d] [] [] p)) λk f=>.ck λl=>fZ (P:=λb=>SS W n F σ (.Try [.Assign [.Name nm a] e q] [.ExceptHandler (aa (.Name k f)) ak b d] [] [] p)) (λs=>ajD (P:=λs=>SS W n F σ (.Try [.Assign [.Name nm a] e q] [.ExceptHandler (aa (.Name k f)) ak [s] d] [] [] p)) λm=>.map (hx σ e) λx z=>by rw[bt l];exact acH B.K B.R g.1 g.2 z (vq (aP j).1) (aP j).2) b) h) c) b
variable(hb:∀σ e,Sd (SB W n F σ e) (cb σ e))(hc:∀ss,Sd (gG W n F σ ss) (c ss))
include hb hc
theorem aeR:Sd (SS W n F σ s) (VB cx cb σ c s):=KO (P:=λs o=>Sd (SS W n F σ s) o) (λy=>.no) (λe p=>dP e (.so agd) λe=>.ck λh=>.map (hx σ e) λx z=>ai8 (sP h) z)
 (λd e p=>.or (fZ (P:=λd=>SS W n F σ (.Assign d e p)) (λt=>ajF hx B hb) d) (nQ (P:=λd=>SS W n F σ (.Assign d e p)) (λa b=>eP (P:=λa=>SS W n F σ (.Assign [a,b] e p)) λm q=>.bind ta λi k=>eP (P:=λb=>SS W n F σ (.Assign [.Name m q,b] e p)) λA u=>.bind ta λj l=>.map (hx σ e) λx z=>agg B.K k.1 k.2 l.1 l.2 z) d))
 (λt o e p=>.ck λh=>(bt h).symm▸eP (P:=λt=>SS W n F σ (.AugAssign t .Add e p)) λnm q=>.bind ri λj l=>.bind ta λi k=>.map (hx σ e) λx z=>aja B.K k.1 k.2 l.2 z)
 (λt i b p=>.ck λh=>.bind (KN B.K B.B hx) λit k=>.bind (JV B.K) λr ht=>.ck λh2=>.map (hc b) λd z=>by
  have g:Tg W n σ it.1 r.1 r.2 t:=by cases e:it.1 with|false=>exact ht.1|true=>rw[e]at h2;exact ht.2.1 h2
  exact ajk B.K (sP (aP h).1) g k ((pf i).nf (xz (aP h).2)) z)
 (λx b p=>.bind (hb σ x) λy h=>.map (hc b) λd z=>aem B.K h z) (λx a b p=>.bind (hb σ x) λy h=>.bind (hc a) λd z=>.map (hc b) λw v=>ai9 h z v)
 (λe p=>Ar (P:=λe=>SS W n F σ (.Raise (aa e) ak p)) λf es q=>eP (P:=λf=>SS W n F σ (.Raise (aa (.Call f es [] q)) ak p)) λnm u=>.ck λh=>fZ (P:=λes=>SS W n F σ (.Raise (aa (.Call (.Name nm u) es [] q)) ak p)) (λa=>.ck λhs=>.map (hx σ a) λx z=>(bt (aP h).1).symm▸agp B.K B.R (aP h).2 z (gR hs)) es)
 (λb h p=>agP hx B) (λe p=>ajG hx B) (λp=>.so agb) (λp=>.so ai7) (λp=>.so agc)
end
theorem TY(B:kz W n F)(k:Nat):∀a,Sd (gG W n F σ a) (t8 σ k a):=by induction k with|zero=>exactλx=>.no|succ k ih=>exactλa=>cX (.so ai6) (λs a b=>.bind (aeR (VA B 30).1 B (VA B 30).2 ih) λt h=>.map b λc z=>age h z) a
end
def aog(names:List (aB×lU))(a C:Nat)(own:List Nat)(fz:List (Nat×List Nat))(tab:Option (aJ×bQ×aB))(n7:Bool):Sc:={ns:=cond (C==0) ((names.filter λx=>!(x.2==.globalImplicit)).map (·.1)) (((names.filter λx=>!(x.2==.globalImplicit)).map (·.1)).take a++((fc (bx C).length).map λi=>⟨#[i]⟩)++((names.filter λx=>!(x.2==.globalImplicit)).map (·.1)).drop a),tb:=names,tab:=tab,n7:=n7,own:=own,fz:=fz,fs:=cond (C==0) ak (aa (C,a))}
def AP(k:Nat):Option (aJ×bQ×aB):=([(12,147,⟨233,11,233,40⟩,vC 147),(27,318,⟨412,23,412,48⟩,vC 318),(28,325,⟨417,26,417,51⟩,vC 325)]:List (Nat×aJ×bQ×aB)).lookup k
noncomputable abbrev pw:Fo:=Y9
noncomputable def clB(s:cO):List cO:=GX (motive_2:=λx=>List cO) s (λx x x x x x x x x x=>[]) (λx x x x x x x x x x=>[]) (λx x x b x x x x x x x=>b) (λx x=>[]) (λx x=>[]) (λx x x=>[]) (λx x x x x x x=>[]) (λx x x x=>[]) (λx x x x x=>[]) (λx x x x x=>[]) (λx x x x x=>[]) (λx x x x=>[]) (λx x x x=>[])
  (λx x x=>[]) (λx x x=>[]) (λx x x=>[]) (λx x x=>[]) (λx x x x x=>[]) (λx x x x x=>[]) (λx x x=>[]) (λx x=>[]) (λx x x x=>[]) (λx x=>[]) (λx x=>[]) (λx x=>[]) (λx=>[]) (λx=>[]) λx=>[]
noncomputable def Yt(s:cO):List cO×List (aB×lU):=GX (motive_2:=λx=>List cO×List (aB×lU)) s (λx x b x x x sc x x x=>(b,sc.names)) (λx x x x x x x x x x=>([],[])) (λx x x x x x x x x x x=>([],[])) (λx x=>([],[])) (λx x=>([],[])) (λx x x=>([],[])) (λx x x x x x x=>([],[])) (λx x x x=>([],[])) (λx x x x x=>([],[])) (λx x x x x=>([],[])) (λx x x x x=>([],[])) (λx x x x=>([],[])) (λx x x x=>([],[]))
  (λx x x=>([],[])) (λx x x=>([],[])) (λx x x=>([],[])) (λx x x=>([],[])) (λx x x x x=>([],[])) (λx x x x x=>([],[])) (λx x x=>([],[])) (λx x=>([],[])) (λx x x x=>([],[])) (λx x=>([],[])) (λx x=>([],[])) (λx x=>([],[])) (λx=>([],[])) (λx=>([],[])) λx=>([],[])
noncomputable def rws:List (Nat×Nat×Nat×Nat×Nat×List Nat×List (Nat×List Nat)):=[(2,99,28,1,0,[],[]),(3,99,35,2,0,[],[]),(4,99,42,2,0,[3],[(35,[3])]),(5,99,49,2,0,[2],[(68,[2])]),(6,1,70,3,0,[5],[(83,[5])]),(6,2,75,5,0,[],[]),(6,3,82,4,0,[11],[(109,[11])]),(6,4,89,2,0,[],[]),(10,99,117,1,0,[1],[]),(12,99,131,2,0,[4,5],[(181,[4])]),(13,99,138,1,0,[],[]),(14,99,145,1,0,[1],[(230,[1])]),(15,99,152,2,0,[],[]),(16,99,159,1,0,[1],[(246,[1])]),(17,99,166,1,0,[],[]),(18,99,173,1,0,[],[]),(21,99,180,2,0,[],[]),(22,99,187,1,0,[],[]),(25,2,223,3,0,[],[]),(25,3,230,2,0,[],[]),(25,4,237,2,0,[],[]),(26,99,251,2,0,[],[]),(27,99,258,3,0,[],[]),(28,99,265,3,0,[],[]),(29,99,272,2,0,[],[]),(30,99,279,2,0,[],[]),(31,3,315,1,0,[],[]),(31,4,323,2,0,[],[]),(31,5,330,2,0,[],[]),(33,99,344,0,0,[],[]),(36,99,424,0,0,[],[]),(37,99,431,0,0,[],[]),(39,99,439,0,0,[],[]),(40,99,444,1,0,[8],[(445,[8])]),(41,99,449,2,0,[],[]),(42,99,454,3,0,[],[]),(43,99,461,1,0,[1,2,3,4],[(498,[1,2,3,4])]),(44,99,466,4,0,[4],[(505,[4])]),(45,99,471,3,0,[],[]),(46,99,476,3,0,[],[]),(47,99,483,4,0,[],[]),(48,99,488,3,0,[],[]),(49,99,495,4,0,[],[]),(50,99,502,3,0,[],[]),(51,99,509,2,0,[2,5],[(564,[5])]),(52,99,516,2,0,[],[]),(11,99,124,4,0,[],[]),(24,99,194,1,0,[],[]),(6,0,63,3,92,[],[]),(25,0,209,3,240,[],[]),(31,0,294,4,333,[],[]),(31,1,301,2,333,[],[]),(53,99,521,1,0,[18],[(624,[18])])]
def rP(k:Nat):Nat×Nat×Nat×Nat×Nat×List Nat×List (Nat×List Nat):=rws.getD k (0,0,0,0,0,[],[])
def Yu(k:Nat):cO:=cond (cQ (rP k).2.1 99) (pw.main.body.getD (rP k).1 (.Pass ⟨0,0,0,0⟩)) ((clB (pw.main.body.getD (rP k).1 (.Pass ⟨0,0,0,0⟩))).getD (rP k).2.1 (.Pass ⟨0,0,0,0⟩))
def aF(k:Nat):aJ:=(rP k).2.2.1
def dO(k:Nat):Nat:=(rP k).2.2.2.1
def clF(k:Nat):Nat:=(rP k).2.2.2.2.1
def lJ(k:Nat):List cO:=(Yt (Yu k)).1
def b7(k:Nat):Sc:=aog (Yt (Yu k)).2 (dO k) (clF k) (rP k).2.2.2.2.2.1 (rP k).2.2.2.2.2.2 (AP k) (!cQ k 12)
def rQ(k:Nat):List T:=(t8 (b7 k) 20 (lJ k)).getD []
noncomputable def kJ(k:Nat):List D:=cond (cQ k 50) [.none] []
def gY(k:Nat):Nat:=dO k-(kJ k).length+cond (cQ k 51) 3 0
def kA(k:Nat):Nat:=(b7 k).ns.length-(gY k+(kJ k).length)
def yE:List cO:=(lJ 47).flatMap λs=>sE [] (λx x=>[]) (λx x x=>[]) (λx x x=>[]) (λx x b x=>b.dropLast) (λx x=>[]) (λx x x=>[]) (λx=>[]) (λx x=>[]) (λx x=>[]) [] [] [] s
def mQ:List T:=(t8 (b7 47) 20 yE).getD []
def gS(b:List D):Rh->Ev (List Y):=cX (motive:=λx=>Rh->Ev (List Y)) (λx=>.ok []) (λd x a r=>(be mQ (λx x=>.no) (r.set 1 (.val d))).run.calm.bind λo=>o.1.el ((Ev.of ((tF o.2[1]?).bind D.jT)).bind λy=>(a o.2).bind λl=>.ok (y::l)) .no (a o.2) λx=>.no) b
def E9(r:Rh):Ev Os:=(Ev.of ((tF r[0]?).bind D.jU)).bind λl=>(gS l [.val (.list l),.U]).calm.bind λys=>Ev.of (gd (ys.length<=aI) (aa (.ret (.list (ys.map .bytes)),[])))
def FN(n:Nat):Fn:=xq (λx x=>.no) (λx F k r=>cond (cQ k 47) (E9 r) (cond (cQ r.length (gY k)) (be (rQ k) F (r++(kJ k).map .val++eL (kA k) .U)).run .no)) n
noncomputable def kK(k:Nat):List aA:=cond (cQ k 50) [.none] []
structure u9(W:Wd)(k:Nat):Prop where
 ok:∃fd,tJ W (b7 k) (aF k) fd (dO k)/\fd.scope.isGenerator=ag/\fd.body=.stmts (lJ k)/\∀s vs,sK W.fr s.heap->vs.length+(kK k).length=dO k->vh s fd ⟨vs,[]⟩ (((b7 k).ns.take (dO k)).zip (vs++kK k))
 rd:(t8 (b7 k) 20 (lJ k)).isSome=af
structure xZ(W:Wd)(k:Nat):Prop extends u9 W k where
 ne:k≠47
 fs:(b7 k).fs=ak
 e:kJ k=[]
 e':kK k=[]
 p:dO k+kA k=(b7 k).ns.length
 n:gY k=dO k
structure Lu(W:Wd)(C k m:Nat):Prop extends u9 W k where
 ne:k≠47
 fs:(b7 k).fs=aa (C,dO k)
 m:m=dO k
 n:gY k+(kJ k).length=dO k
 p:∃j,kA k=(bx C).length+j
 l:dO k+kA k=(b7 k).ns.length
 s:(b7 k).ns[0]?=aa ("self":aB)
 no:∀i nm,i<(bx C).length->(b7 k).ns[dO k+i]?=aa nm->(b7 k).tb.lookup nm=ak
 x:∀X h,a9 X h (kJ k) (kK k)
structure Av(W:Wd)(tt:Bool):Prop where
 K:aT W
 B:ii W
 G:Ak W yC
 Z:∃ad f,uZ W ad f
 R:Ao W
 SA:xx W
 fn:∀nm k,(nm,k)∈rb->W.gm nm=aa (.ref (aF k))/\lX W.fr (.ref (aF k))=af/\xZ W k
 cl:∀nm C k m,(nm,C,k,m)∈vn->W.gm nm=aa (.ref C)/\lX W.fr (.ref C)=af/\L1 W.fr C=af/\gv W.fr (.ref C) "__init__"=aa (aa (.ref (aF k)))/\A1 W.fr (.ref (aF k))=aa (.type "function")/\Lu W C k m
 mt:∀nm ks C k,(nm,ks)∈xr->ks.lookup C=aa k->MethAt W.fr C nm (aF k)/\xZ W k
 pr:∃p rest,gv W.fr (.ref 333) "__getattribute__"=aa (aa (.builtin "object.__getattribute__"))/\gv W.fr (.ref 333) "__getattr__"=aa ak/\(vQ W.fr 333).isSome=af/\gv W.fr (.ref 333) "patterns"=aa (aa (.ref p))/\specialIn W.fr (.ref p) "__get__"=aa (aa (.builtin "property.__get__"))/\takesIn W.fr (.ref p)=aa af/\recIn W.fr p "property"=aa (.ref (aF 26)::rest)/\xZ W 26
 attr:∀C m i,(bx C).idxOf? m=aa i->zZ W.fr C m i
 ln:W.gm "_posix_class"=aa (.ref (aF 46))/\lX W.fr (.ref (aF 46))=af/\u9 W 46
 ap:MethAt W.fr 333 "append_pattern" (aF 51)/\u9 W 51
 td:∀n F,(∀r,F 47 r=.no\/(tt=af/\0<n/\F 47 r=E9 r))->∀{σ a x p p' r t},σ.ci "list"=af->σ.ci "read_ignore_patterns"=af->SX W n F σ a x->NS a->SX W n F σ (.Call (.Name "list" p) [.Call (.Name "read_ignore_patterns" p') [a] [] r] [] t) (.call 47 [x])
section
theorem FF{b:Nat}(h:a≠b):cQ a b=ag:=gL.mpr λe=>h (ni e)
theorem vr(b:k≠47)(a:r.length=gY k):FN (n+1) k r=(be (rQ k) (FN n) (r++(kJ k).map .val++eL (kA k) .U)).run:=by show cond (cQ k 47) _ (cond (cQ r.length (gY k)) _ _)=_;refine ae (FF b) ?_;rw[a,Rx];rfl
theorem KP(b:k≠47)(a:r.length≠gY k):FN (n+1) k r=.no:=by show cond (cQ k 47) _ (cond (cQ r.length (gY k)) _ _)=_;refine ae (FF b) (ae (FF a) ?_);rfl
theorem EM(B:kz W n F)(g:u9 W k):gG W n F (b7 k) (lJ k) (rQ k):=by refine(gK.mp g.rd).elim λa e=>?_;unfold rQ;exact ae e (TY B 20 _ a e)
theorem Jf(B:kz W n (FN n))(g:xZ W k):pE W (n+1) (.ref (aF k)) (aV (FN (n+1)) k ds) ds:=g.ok.elim λd z=>by
 unfold aV;by_cases a:ds.length=dO k
 ·refine ae (vr g.ne (by simp only [aW,a,g.n])) ?_;simp only [g.e,Dy,bu];exact acW B.K z.1 z.2.1 z.2.2.1 (EM B g.tou9) (λs vs c h=>by have b:=z.2.2.2 s vs c;rw[g.e',bu]at b;exact b h) a g.p g.fs
 ·exact ae (KP g.ne (by rw[aW];refine ae g.n ?_;exact a)) (λx x x x x x=>trivial)
theorem agQ(B:kz W n (FN n))(g:Lu W C k m)(d:L1 W.fr C=af)(hi:gv W.fr (.ref C) "__init__"=aa (aa (.ref (aF k))))(hf:A1 W.fr (.ref (aF k))=aa (.type "function")):pE W (n+1) (.ref C) (fA (FN (n+1)) C k m ds) ds:=g.ok.elim λe z=>g.p.elim λj b=>by
 unfold fA;by_cases a:(AV.U::ds.map .val).length=gY k
 ·have c:(ds++kJ k).length+1=dO k:=by refine am g.n ?_;simp only [<-a,aS,eY,aW];exact r7 ..
  refine ae (vr g.ne a) ?_;rw[g.m,b,sd,<-cU];exact agI B.K d hi hf z.1 z.2.1 z.2.2.1 (EM B g.tou9) (λs vs hi h=>z.2.2.2 s vs hi (by exact ae h (ae ((g.x (λy=>False) s.heap).length) (am c (ae aS (r7 ..)))))) g.x c g.fs (am b g.l.symm) g.s g.no
 ·exact ae (KP g.ne a) (λy y y y y y=>trivial)
theorem RY(B:kz W n (FN n))(g:u9 W k)(i:k≠47)(c:dO k=np)(h2:kJ k=[])(j:kK k=[])(t:kA k=m)(w:gY k+m=(b7 k).ns.length):vH W (n+1) (FN (n+1)) k (.ref (aF k)) (b7 k) np m:=λA q s ev r E a l u p=>g.ok.elim λy z=>by
 have e:=u n rfl;by_cases d:r.length=gY k
 ·refine ae (vr i d) ?_;simp only [h2,t,Dy,bu,<-l];exact(J.by (λQ E h=>w7 (wR h λr s' z=>by
   cases r with
   |ok f=>exact iF z λv z=>ae z.1 z.2
   |error e=>exact z)) (IK B.K (ae a (am c z.1)) z.2.1 z.2.2.1 (ae a (EM B g)) e (by
   have b:=z.2.2.2 s ev (e.inv.fP B.K) (ae j (ae c e.vl));rw[j,bu,c]at b;exact ae a b) p)).mono (λo v s' h=>⟨n,h⟩) λx x=>id
 ·refine ae (KP i d) ?_;trivial
end
def MP(σ:Sc)(m C:Nat):Bool:=(fc (bx C).length).all λi=>(σ.ns[m+i]?).all λnm=>(σ.tb.lookup nm).isNone
theorem TZ(h:MP σ m C=af):∀i nm,i<(bx C).length->σ.ns[m+i]?=aa nm->σ.tb.lookup nm=ak:=λi nm a e=>by have z:=ew.mp h i (nA.mpr a);rw[e]at z;exact wt.mp z
theorem v9:(b7 46).ns.length=6/\dO 46=4/\kJ 46=[]/\kK 46=[]/\kA 46=2/\gY 46=4/\yD (b7 46) [2,3]=af/\(b7 46).fs=ak:=by refine⟨?_,?_,?_,?_,?_,?_,?_,?_⟩<;>kernel_rfl
theorem qb:(b7 51).ns.length=6/\dO 51=2/\kJ 51=[]/\kK 51=[]/\kA 51=1/\gY 51=5/\MP (b7 51) 2 333=af/\(b7 51).fs=aa (333,2)/\(b7 51).ns[0]?=aa ("self":aB):=by refine⟨?_,?_,?_,?_,?_,?_,?_,?_,?_⟩<;>kernel_rfl
section
theorem agR(S:Av W tt)(B:kz W n (FN n)):∀A s X v ex fs,yl W (n+1) A X s->bq X s.heap (.inst 333 fs) v->J (Ex W A s) (aV (FN (n+1)) 26 [.inst 333 fs]) (ay W.M A (LX v "patterns" ex)) (λd v s'=>Nx W s s'/\bq X s'.heap d v) s:=λA s X v ex fs o r=>
 S.pr.elim λp z=>z.elim λrest z=>z.2.2.2.2.2.2.2.ok.elim λF y=>r.elim λa c=>c.elim λdd c=>c.elim λvs c=>(c.2.2.2.1.look "patterns").elim λob l=>l.elim λC l=>by
 have g:=z.2.2.2.2.2.2.2;have m:Nx W s {s with toks:=s.toks+1}:=(Gr.tok s _).nx o.inv;have u:=c.1;subst u;unfold aV;refine ae (vr g.ne (ae g.n (by kernel_rfl))) ?_;rw[g.e,Dy,bu];refine J.all (w':=λQ E s'=>pJ W A.in1 (aF 26) [.ref a] (λv t=>XH v=af/\Q v t) (λx x=>False) s') (λQ E h=>get_bind (o.inv.fP S.K) l.1 z.1 (findObj_data z.2.2.1 z.2.2.2.1 z.2.2.2.2.1 z.2.2.2.2.2.1) z.2.1 (w7 (prop_get (o.inv.fP S.K) z.2.2.2.2.2.2.1 (wR (h _ rfl) λr s' w=>?_)))) λs' e=>?_
 ·cases r with|ok f=>exact w.elim λv w=>ae w.1 (handed_on w.2.1 w.2.2)|error e=>exact w.elim
 ·subst e;have j:=P4 (ds:=[.inst 333 fs]) (A:=A.in1) S.K y.1 y.2.1 y.2.2.1 (EM B g.tou9) (by
   have b:=y.2.2.2 _ [.ref a] (m.i.fP S.K) (ae g.e' (by kernel_rfl));rw[g.e',bu]at b;exact b) (by kernel_rfl) g.p g.fs ⟨o.room.one.1,o.room.un (eX rfl)⟩ o.hd (o.hf.imp λl y=>⟨y.1,y.2.kp m.k⟩) m.i (λb hb=>o.old b hb) (.cons (r.mv (.kp m.k)) .nil)
  have q:((be (rQ 26) (FN n) ([D.inst 333 fs].map AV.val++eL (kA 26) .U)).run.bind λo=>iH o.1)=Ev.of (fs.head?):=by cases fs<;>kernel_rfl
  have j:=q▸j;refine ae q ?_;revert j;cases fs.head? with|none=>exactλx=>trivial|some d=>exactλj=>Dk j (λv s' h=>⟨handed h.2,m.trans h.1,h.2⟩) λx x h=>h
end
section
theorem Xh:(b7 46).ns.length=4+2/\(∀p,p<2->∃nm,(b7 46).ns[2+p]?=aa nm/\(b7 46).tb.lookup nm≠ak)/\(b7 46).fs=ak:=
 have z:=v9
 ⟨z.1,λp hp=>sP z.2.2.2.2.2.2.1 (2+p) (by
  cases p with
  |zero=>exact .head _
  |succ p=>cases p with
   |zero=>exact .tail _ (.head _)
   |succ p=>exact aC (zc (zc hp)) (PD _)),z.2.2.2.2.2.2.2⟩
theorem Xi:(b7 51).fs=aa (333,2)/\(b7 51).ns[0]?=aa ("self":aB)/\(b7 51).ns.length=2+(bx 333).length+1/\∀i nm,i<(bx 333).length->(b7 51).ns[2+i]?=aa nm->(b7 51).tb.lookup nm=ak:=⟨qb.2.2.2.2.2.2.2.1,qb.2.2.2.2.2.2.2.2,qb.1,TZ qb.2.2.2.2.2.2.1⟩
theorem Yv(S:Av W tt):kz W 0 (FN 0):={K:=S.K,B:=S.B,G:=S.G,Z:=S.Z,R:=S.R,SA:=S.SA,Ph:={call:=λnm k h=>⟨_,(S.fn nm k h).1,(S.fn nm k h).2.1,λx x x x x x x=>trivial⟩,new:=λnm C k m h=>⟨_,(S.cl nm C k m h).1,(S.cl nm C k m h).2.1,λx x x x x x x=>trivial⟩,rz:=λnm ks C k h a=>⟨_,(S.mt nm ks C k h a).1,λx x x x x x x x=>trivial⟩,prop:=λx x x x x x x x=>trivial,attr:=S.attr},Td:=S.td 0 (FN 0) λx=>.inl rfl,Ln:=⟨_,_,S.ln.1,S.ln.2.1,λx x x x x x x x x x=>trivial,Xh⟩,Ap:=⟨_,_,S.ap.1,λx x x x x x x x x x=>trivial,Xi⟩}
theorem lv(S:Av W af)(n:Nat):kz W n (FN n):=by induction n with|zero=>exact Yv S|succ n B=>exact{K:=S.K,B:=S.B,G:=S.G,Z:=S.Z,R:=S.R,SA:=S.SA,Ph:={call:=λnm k h=>⟨_,(S.fn nm k h).1,(S.fn nm k h).2.1,λb=>Jf B (S.fn nm k h).2.2⟩,new:=λnm C k m h=>⟨_,(S.cl nm C k m h).1,(S.cl nm C k m h).2.1,λb=>agQ B (S.cl nm C k m h).2.2.2.2.2 (S.cl nm C k m h).2.2.1 (S.cl nm C k m h).2.2.2.1 (S.cl nm C k m h).2.2.2.2.1⟩,rz:=λnm ks C k h a=>⟨_,(S.mt nm ks C k h a).1,λfs b=>Jf B (S.mt nm ks C k h a).2⟩,prop:=agR S B,attr:=S.attr},Td:=(S.td (n+1) (FN (n+1)) λx=>.inr ⟨rfl,iD n,rfl⟩),Ln:=⟨_,_,S.ln.1,S.ln.2.1,RY B S.ln.2.2 (eX rfl) v9.2.1 v9.2.2.1 v9.2.2.2.1 v9.2.2.2.2.1 ((aj (·+2) v9.2.2.2.2.2.1).trans v9.1.symm),Xh⟩,Ap:=⟨_,_,S.ap.1,RY B S.ap.2 (eX rfl) qb.2.1 qb.2.2.1 qb.2.2.2.1 qb.2.2.2.2.1 ((aj (·+1) qb.2.2.2.2.2.1).trans qb.1.symm),Xi⟩}
theorem aeS(S:Av W af)(g:xZ W 52):pE W (n+1) (.ref (aF 52)) (aV (FN (n+1)) 52 ds) ds:=Jf (lv S n) g
end
section
variable{Y:XJ}
variable{α β:Type}{K:β->dC Fin}{gd:Bool->Bool}{lv:List aA->List aA}
theorem P7(m:dC α)(k:α->dC β):(m>>=k).wrap K H gd lv=m.wrap (λa=>(k a).wrap K H gd lv) H gd lv:=by rw[Sem.bind_eq_wrap',Dc];exact HH _ _ _ (λx=>rfl) (λx=>rfl)
theorem qN(h:ay M (A.over c fs) m (λa s'=>jF M A R Y n bY c ((k a).wrap K H gd lv) fs s') (λe s'=>jF M A R Y n bY c (H e) fs s') s):
  jF M A R Y n bY c ((m>>=k).wrap K H gd lv) fs s:=by
 rw[P7];exact seg_wrap h
theorem ac1(a b:List cO){K:mj->dC Fin}:(gV (a++b) env).wrap K H gd lv=(gV a env).wrap (λf=>match f with|.next=>(gV b env).wrap K H gd lv|f=>K f) H gd lv:=by induction a with|nil=>rfl|cons st a ih=>refine ae sd ?_;rw[Qs,Qs];refine HH _ _ _ (λf=>?_) λx=>rfl;cases f<;>first|exact ih|rfl
end
noncomputable def amk(env:fC)(K:mj->dC Fin)(H:aA->dC Fin)(gd:Bool->Bool)(lv:List aA->List aA)(r:L6):dC Fin:=
 ((match r with|.ok f=>(.pure f:dC mj)|.error e=>.raise e).onRaise λ(x:aA)=>do
    if(<-field x 1)==nC then JA "frame.own-activation:exception-without-traceback"
    Ku x env.frame).wrap K H gd lv
section
variable{Y:XJ}{s:aL}
variable{K:mj->dC Fin}{gd:Bool->Bool}{lv:List aA->List aA}
theorem agS{a:aH}(d:∀v,PF a env v=pure v)
  (h:ay (bH prog w) (A.over c fs) (eval a env) (λv ao=>ay (bH prog w) (A.over c fs) (nT v) (λit b=>∀p,jF (bH prog w) A R Y n bY (.forLoop target it body orelse env) ((bH prog w).den (.forLoop target it body orelse env))
   (.ret (amk env K H gd lv) ak (gd ag) (lv []) c p []::fs) b) (λe b=>jF (bH prog w) A R Y n bY c (H e) fs b) ao) (λe ao=>jF (bH prog w) A R Y n bY c (H e) fs ao) s):
  jF (bH prog w) A R Y n bY c ((exec (.For target a body orelse pos) env).wrap K H gd lv) fs s:=by
 simp only [arm_exec_For];refine qN (kY (qN (ba h (λv ao g=>?_) λy y x=>x)));rw[d];refine qN (a8 (qN (kY (qN (hO (ba g (λit b f=>?_) λy y x=>x))))));exact seg_call f
theorem OQ
  (turn:ay (bH prog w) (A.over (.forLoop target it body [] env) (F::fs)) (rt it) (λr ao=>match r with
   |none=>jF (bH prog w) A R Y n bY (.block [] env) (L7 (.ok .next)) (F::fs) ao
   |some v=>ay (bH prog w) (A.over (.forLoop target it body [] env) (F::fs)) (wF target it v) (λy ao=>ay (bH prog w) (A.over (.forLoop target it body [] env) (F::fs)) (iZ target env v) (λy b=>
     jF (bH prog w) A R Y n bY (.forLoop target it body [] env) ((gV body env).wrap (λf=>match f with
      |.next|.cont=>.pure (.again (.forLoop target it body [] env))
      |.brk=>.pure (.done .next)
      |.ret v=>.pure (.done (.ret v))) (λe=>(do uX e env;zx e:dC Unit).wrap (λy=>.raise e) .raise id id) id id) (F::fs) b) (λy y=>False) ao) (λy y=>False) ao) (λy y=>False) s):
  jF (bH prog w) A R Y n bY (.forLoop target it body [] env) ((bH prog w).den (.forLoop target it body [] env)) (F::fs) s:=by
 show jF _ A R Y n bY _ ((LY target it body [] env).onRaise (λx=>do uX x env;zx x)) (F::fs) s;simp only [Oi];unfold LY;refine qN (kY (qN (Tf (ba turn (λr ao a=>?_) λy y x=>x.elim))));cases r with
 |none=>refine Wy rfl ?_;exact a
 |some v=>
  refine qN (ba a (λy ao a=>?_) λy y x=>x.elim);refine qN (ba a (λy b c=>?_) λy y x=>x.elim);rw[P7];exact ae (HH (gV body env) _ _ (K':=λf=>match f with
      |.next|.cont=>.pure (.again (.forLoop target it body [] env))
      |.brk=>.pure (.done .next)
      |.ret v=>.pure (.done (.ret v)))
    (λf=>by cases f<;>rfl)
    (λe=>by first|exact CC _ _|(show(do uX e env;zx e).bind (λy=>.raise e)=_;rw[CC]))) c
def Ct:=λ(prog:ais) (w:alg) (A:Qp) (s:nB) (E:sA->nB->Prop) (a:IZ) (g:Nat) (P:Nat->nB->nB->Prop) (Q:Option sA->nB->Prop)=>(∀{Y:PySem.Protocol} {n:Nat} {gs:PySem.GenState} (hh:A.handled=ak) (l:s.heap.NoLimit) (k:A.depth<H7) (p:s.heap.IsGen a g) (j:s.gens[g]?=aa gs) (i:gs.Goes (bH prog w) A.in1 (λn d r ao=>r=.ok (.ret .none)/\P n d ao) Y n (.send .none) (s.setGen g .running)) (q:∀v ao c,c.bare=af->Y (n-1) (s.setGen g .running) v ao (λf h=>match n with
    |0=>False
    |m+1=>c.Goes (bH prog w) A.in1 (λn d r ao=>r=.ok (.ret .none)/\P n d ao) Y m f h)->Q (aa v) (ao.setGen g c)) (t:∀ao,P n (s.setGen g .running) ao->∀e,(∀b o,ao.heap.get? b=aa o->e.get? b=aa o)->Q ak {ao.setGen g .finished with heap:=e}),ay (bH prog w) A (rt (.ref a)) Q E s:Prop)
def qv:=j6 Ct (aO nI (aO xQ (aO xR (aO n8 (aO nI (aO nI (aO nI (aO nI nI))))))))
def ZB:=qv.1
def aae:=qv.2.1
def Hi:=qv.2.2.1
def Ot:=qv.2.2.2.1
def aaf:=qv.2.2.2.2.1
def Ou:=qv.2.2.2.2.2.1
def aag:=qv.2.2.2.2.2.2.1
def aah:=qv.2.2.2.2.2.2.2.1
def aai:=qv.2.2.2.2.2.2.2.2
theorem ZW:Ct ZB aae Hi Ot aaf Ou aag aah aai:=λ{Y} {n} {k} hh h f c d a i j=>by
 unfold rt;refine aE (S9 (adT c.typeIs aoX
  (Ql aoX c.typeIs entry_gen_next ?_ (args_gen_next _))))
 show ay _ Hi.in1 (Ze (.ref Ou) (.send .none)) _ _ Ot;unfold Ze;refine aE (hO (wpAny_genNumber c (aE (wpAny_genState d ?_))));cases k with|running=>exact a.elim|finished=>exact a.elim|_=>refine aE (wpAny_roomToWake h f ?_);refine wpAny_resumeQ d a (λx ao hx=>?_) (λv ao e hb g=>a8 ⟨v,rfl,a8 (i v ao e hb g)⟩);obtain⟨rfl,hp⟩:=hx;show ay _ Hi.in1 (newExc (.type "StopIteration") []>>=_) _ _ _;refine aE ?_;simp only [newExc,newTuple];refine aE (Hw ?_ (by size_fits));refine aE (fq (by first|rfl|(simp only [firstArgMember];rfl)) ?_);refine Hw ?_ (by size_fits);unfold raiseNew;refine aE (aE (wpAny_handled ?_));refine ae (hh) ?_;refine wpAny_throw ?_;refine aE (wpAny_isInstance ⟨_,gk _ rfl,rfl⟩ isSubtype_stop ?_);exact a8 (j ao hp _ λb o hb=>dA _ (dA _ hb))
theorem Pj{prog w A s E a g P Q}:Ct prog w A s E a g P Q:=@vU _ _ _ _ _ _ _ _ _ Ct _ @ZW prog w A s E a g P Q
end
def RZ(v:aA)(y:Y):Prop:=∃b t,v=.bytes b t/\b.toList.map bR=y/\y.length<=aI
structure Ee(W:Wd)(S:aJ)(ao bj:aL):Prop where
 b:lR S ao.heap bj.heap
 i:Inv W bj
 l:∃ai,bG bj.heap "list" S ai
def rD(q:Q)(a:aL)(b:aJ):Prop:=q.my b\/a.heap.get? b=ak
def rj(W:Wd)(q:Q)(f:aL)(S:aJ)(g:List Y):XJ:=λm h v s i=>
 (∃c y a,g=c++y::a/\a.length=m/\RZ v y)/\bZ (λb=>rD q f b/\b≠S) h.heap s.heap/\Inv W s/\
  ∃P:aL->Prop,P s/\(∀ao e,P ao->Ee W S ao e->P e)/\∀d,P d->i (.send .none) d
def nW(W:Wd)(q:Q)(a:aL)(S:aJ):GenEnd:=λm c r ao=>r=.ok (.ret .none)/\m=0/\bZ (λb=>rD q a b/\b≠S) c.heap ao.heap/\Inv W ao
def qd(S:aJ)(St:Nat->bF->Prop)(i:Nat)(h:bF):Prop:=St i h/\∃ai,bG h "list" S ai
section
variable{s:aL}{St:Nat->bF->Prop}
theorem eE.list(x:bG h "list" b js):∃o,eE h b o:=x.elim λn x=>eE.seq x.1 rfl rfl (eX rfl)
theorem aeT(hh:A.handled=ak)(m:∀b,Z b->(sb.heap.get? b).isSome=af)(k:∀b o,sb.heap.get? b=aa o->(s.heap.get? b).isSome=af)(j:sb.heap.get? S=ak)(p:∃c,bG s.heap "list" S c)(hs:bG s.heap "list" ax ai)(B:¬(Z ax\/ax=S))(l:a9 (λb=>Z b\/b=S) s.heap ds ai):
  ∃P St,rM W A ag s.heap.objs.size ds.length P St [s.heap.objs.size,ax] [s.heap.objs.size]/\Wk W A ag Z sb ds s.heap.objs.size P (qd S St) [S,s.heap.objs.size,ax] [S,s.heap.objs.size] {s with heap:=s.heap.push {cls:=.type "list_iterator",data:=.fields #[.ref ax,.int 0 0]}}:=by
 have w:=Te (prog:=W.prog) (w:=W.w) hh s.heap.objs.size ax (hs.elim λn z=>kZ (eM z.1)) ai.toArray;simp only [show ai.toArray.size=ds.length from l.length]at w;have z:=rM.w3 w (λi h st=>st.1.imp λo z=>⟨_,z.1,z.2.1,eX rfl⟩);have q:sb.heap.get? s.heap.objs.size=ak:=by cases e:sb.heap.get? s.heap.objs.size with|none=>rfl|some o=>exact(dL (eh _) (k _ o e)).elim
 have x:S≠s.heap.objs.size:=λe=>p.elim λc y=>dL (eh s.heap) (am e y.bp);refine⟨_,_,z,⟨⟨λb hb=>(ch.mp hb).elim (λe=>ae e (.head _)) λhb=>ae (bB.mp hb) (.tail _ (.head _)),λi h D st a=>⟨z.frame i h D st.1 λb hb=>a b (.tail _ hb),st.2.imp λc y=>y.imp λn y=>⟨a S (.head _) _ y.1,y.2⟩⟩,
  λu i s Q E ht C st f=>z.item u i s Q E ht C st.1 λv s' g F a=>f v s' g ⟨F,st.2.imp λc y=>y.imp λn y=>⟨a S _ (λh=>x (bB.mp h)) y.1,y.2⟩⟩ λb o hb=>a b o λh=>hb (.tail _ h),
  λs Q E st f=>z.done s Q E st.1 λs' a=>f s' λb o hb=>a b o λh=>hb (.tail _ h),λi s Q E st=>z.self i s Q E st.1⟩,
  ⟨⟨⟨_,gk _ rfl,rfl,rfl⟩,hs.isList.push _⟩,p.imp λc y=>y.imp λn y=>⟨dA _ y.1,y.2⟩⟩,λb hb=>?_,λb hb=>(ch.mp hb).elim (λe=>ae e j) λhb=>ae (bB.mp hb) q,λi d v h H hd g t=>?_⟩⟩
 ·refine(ch.mp hb).elim (λe=>am e.symm ⟨nz m j,λi h st=>st.2.elim λc y=>eE.list y⟩) λhb=>(ch.mp hb).elim (λe=>am e.symm ⟨nz m q,λi h st=>st.1.1.elim λo z=>eE.fields z.1 z.2.1 z.2.2 (eX rfl)⟩) λhb=>am ((bB.mp hb).symm) ⟨λh=>B (.inl h),λi h st=>st.1.2.elim λo z=>z.2.2.elim λG r=>eE.seq z.1 z.2.1 r (eX rfl)⟩
 ·exact((l.at hd (am (rX) g)).past (λb o e=>dA _ e) λb h=>h.elim (λh=>.inl (.inl h)) λh=>(ch.mp h).elim (λe=>.inl (.inr e)) λh=>.inr (ae (bB.mp h) (eh _))).mv t
theorem Tn.outside(K:aT W)(j:S∈wr)(E:∀i h p,St i h->(∀b o,b≠S->h.get? b=aa o->p.get? b=aa o)->St i p)(t:Tn W 0 q bj wr (qd S St) i G r s)(o:Ee W S s s'):Tn W 0 q bj wr (qd S St) i G r s':=by
 have f:∀b o,b∉[S]->s.heap.get? b=aa o->s'.heap.get? b=aa o:=λb ob hb e=>(o.b.2 b λh=>hb (bB.mpr h)).trans e;have hx:∀b∈[S],(q.at G r).G b=aa .x:=λb hb=>am ((bB.mp hb).symm) (t.x S j);have hp:∀b∈[S],(s'.heap.get? b).isSome=af:=λb hb=>am ((bB.mp hb).symm) (o.l.elim λw y=>y.bp);have I:ov [S] (aa .x) G=G:=funext λb=>gw (P:=λx=>x=G b) (λh=>(hx b h).symm) λa=>rfl;have hf:∀b∈[S],∃o,eE s.heap b o:=λb hb=>am ((bB.mp hb).symm) (t.st.2.elim λw y=>eE.list y);have H:=QB (r:=aa .x) K t.h hx (λl B e C L D h=>t.h.hf.elim λJ x=>(x.2 e (am (aM (B.symm.trans x.1)) C)).2.elim λM y=>y.elim λm y=>(hf _ h).elim λo z=>((aM (y.1.symm.trans D))▸y.2.2).elim λu y=>y.elim λes y=>y.elim λF y=>z.d es F ((aj px (aM (z.g.symm.trans y.1))).trans y.2.1))
  (λn c hc h=>(hf c h).elim λo z=>(t.h.cell n c hc).elim λv y=>y.elim λu y=>z.k v ((aj px (aM (z.g.symm.trans y.1))).trans y.2)) (λa=>hp) f o.i
 refine⟨?_,t.x,⟨E i _ _ t.st.1 λb ob hb=>f b ob λh=>hb (bB.mp h),o.l⟩,t.m.trans ⟨λb ob e A=>⟨ob,f b ob (λh=>A ?_) e,.refl ..⟩,λb=>.rfl,λb=>.inl,λb hb=>?_⟩⟩
 ·have H:=H;exact(I▸H)
 ·exact ae (bB.mp h) (⟨nn (fh j),λz=>(cw ((fh j).symm.trans z) rfl)⟩)
 ·by_cases h:b∈[S]
  ·exact hp b h
  ·exact(gK.mp hb).elim λob e=>dH (f b ob h e)
theorem Tn.own(t:Tn W 0 q bj wr St i G r s)(m:Mv W q sb (q.at (ov wr (aa .me) q.G) q.ρ) bj)(a:S∈wr)(h:(q.at G r).my b):rD q sb b/\b≠S:=⟨by
 cases e:sb.heap.get? b with
 |none=>exact .inr e
 |some o=>exact .inl (t.my m b o e h),λe=>h.2 (ae e (t.x S a))⟩
theorem agT(h:gS (d::ds) r=.ok ys):∃fl b,(be mQ (FN 0) (r.set 1 (.val d))).run=.ok (fl,b)/\((fl=.cont/\gS ds b=.ok ys)\/(fl=.next/\∃y l,b[1]?=aa (.val (.bytes y))/\gS ds b=.ok l/\ys=y::l)):=by
 have h:(be mQ (FN 0) (r.set 1 (.val d))).run.calm.bind (λo=>o.1.el ((Ev.of ((tF o.2[1]?).bind D.jT)).bind λy=>(gS ds o.2).bind λl=>.ok (y::l)) .no (gS ds o.2) λx=>.no)=.ok ys:=h;revert h;cases(be mQ (FN 0) (r.set 1 (.val d))).run with
 |exc=>exact λh=>du h rfl
 |no=>exact λh=>du h rfl
 |ok o=>
  obtain⟨fl,b⟩:=o;intro h;refine⟨fl,b,rfl,?_⟩;cases fl with
  |brk=>exact du h rfl
  |ret d=>exact du h rfl
  |cont=>exact .inl ⟨rfl,h⟩
  |next=>
   have h:(Ev.of ((tF b[1]?).bind D.jT)).bind (λy=>(gS ds b).bind λl=>.ok (y::l))=.ok ys:=h;revert h;cases c:b[1]? with
   |none=>exact λh=>du h rfl
   |some a=>
    cases a with
    |U=>exact λh=>du h rfl
    |own _=>exact λh=>du h rfl
    |da _=>exact λh=>du h rfl
    |val d=>
     cases d with
     |bytes y=>intro h;have h:=h;revert h;cases gS ds b with|ok l=>exactλh=>.inr ⟨rfl,y,l,rfl,rfl,(by cases h;rfl)⟩|exc=>exact λh=>du h rfl|no=>exact λh=>du h rfl
     |_=>exact λh=>du h rfl
end
section
variable{St:Nat->bF->Prop}{Fr:Nn}
def CM:=λW q I e tp o n p bs=>(∀{A} {j} {a} {S} {m} {ds} {σ} {P} {St} {Fr} {h} {c} (K:aT W) (hb:gG W 0 (FN 0) σ bs mQ) (B:q.σ=σ) (z:σ.ns[1]?=aa e) (y:σ.fj e=af) (x:σ.fK e=af) (hc:c=.forLoop (.Name e tp) (.ref I) (bs++[.Expr (.Yield (aa (.Name e o)) n) p]) [] q.env) (D:q.A=A.over c [Fr]) (ht:∃d,q.A.frames=aa (q.env::d)) (C:q.env.frame=aa q.env.locals) (H:aqk [Fr]=ak) (F:[Fr].any aiE=ag) (u:q.env.scope.isCoroutine=ag) (t:S≠I) (E:S≠m) (k:rM W q.A ag I ds.length P St [I,m] [I]) (w:Wk W q.A ag q.X a ds I P (qd S St) [S,I,m] [S,I] j) (v:Mv W q a (q.at (ov [S,I] (aa .me) q.G) q.ρ) j) (J:∀f s,nW W q a S 0 f (.ok (.ret .none)) s->jF W.M A (nW W q a S) (rj W q a S h) 0 f (.block [] q.env) (L7 (.ok .next)) [Fr] s),∀l i G r ys g f s,ds.drop i=l->i+l.length=ds.length->Tn W 0 q j [S,I] (qd S St) i G r s->bZ (λb=>rD q a b/\b≠S) f.heap s.heap->h=g++ys->gS l r=.ok ys->jF W.M A (nW W q a S) (rj W q a S h) ys.length f c (W.M.den c) [Fr] s:Prop)
def qz:=j6 CM (aO rA (aO yh (aO nI (aO nI (aO nI (aO nI (aO nI (aO nI nI))))))))
def oZ:=qz.1
def iS:=qz.2.1
def o0:=qz.2.2.1
def wC:=qz.2.2.2.1
def CN:=qz.2.2.2.2.1
def Hj:=qz.2.2.2.2.2.1
def Hk:=qz.2.2.2.2.2.2.1
def Hm:=qz.2.2.2.2.2.2.2.1
def Hn:=qz.2.2.2.2.2.2.2.2
theorem aaj:CM oZ iS o0 wC CN Hj Hk Hm Hn:=λ{A} {bj} {B} {S} {ax} {ds} {σ} {P} {St} {Fr} {eH} {c} K hb C i1 i2 i3 hc I ht hl Yx Yy p9 N Yz k w m0 FG=>by
 have gb:∀i h J,St i h->(∀b o,b≠S->h.get? b=aa o->J.get? b=aa o)->St i J:=λi h J st kk=>k.frame i h J st λb hb o e=>kk b o (λz=>(ch.mp hb).elim (λy=>N (z.symm.trans y)) λy=>Yz (z.symm.trans (bB.mp y))) e;have kI:∀{s s':aL},(∀b o,b∉[o0]->s.heap.get? b=aa o->s'.heap.get? b=aa o)->bZ (λb=>rD iS B b/\b≠S) s.heap s'.heap:=λp b o e hm=>⟨o,p b o (λh=>hm (bB.mp h▸⟨.inr (w.w o0 (.tail _ (.head _))),jS N⟩)) e,.refl ..⟩;have E:∀b,b∈[o0]->b∈[S,o0]:=λb h=>.tail _ h;have f1:∀{i:Nat} {h:bF},qd S St i h->∀b∈[o0],∃o,eE h b o:=λst b hb=>(w.f b (.tail _ (am (bB.mp hb) (.head _)))).2 _ _ st;intro l
 induction l with
 |nil=>intro i G r L g D s hd W t k0 H Y;have e:=W;subst e;cases Y;subst hc;refine OQ (am I (ba (k.done s (λs'=>jF oZ.M A (nW oZ iS B S) (rj oZ iS B S eH) 0 D (.block [] iS.env) (L7 (.ok .next)) [Fr] s') (λa a=>False) t.st.1 λs' p X V=>FG D s' ⟨rfl,rfl,k0.trans (kI p),(uM K t.h (λb h=>t.x b (E b h)) (f1 t.st) (λh=>aC rfl h) p X V).inv⟩) (λv s' h=>by cases h.1;exact h.2) λa a h=>h))
 |cons d l ih=>
  intro i G r L g D s hd W t k0 H Y;have Z:=(mx ..).trans W;have Bu:ds[i]?=aa d:=by refine am (qI i) (am (nk) (ae hd ?_));rfl
  have yq:ds.drop (i+1)=l:=by refine am ny (ae hd ?_);rfl
  obtain⟨fl,R,e1,MI⟩:=agT Y;subst hc;refine OQ (am I (ba (k.item (.Name wC CN) i s (λv s'=>ay oZ.M iS.A (iZ (.Name wC CN) iS.env v) (λa Q=>jF oZ.M A (nW oZ iS B S) (rj oZ iS B S eH) L.length D _ ((gV (Hn++[.Expr (.Yield (aa (.Name wC Hj)) Hk) Hm]) iS.env).wrap (λf=>match f with
      |.next|.cont=>.pure (.again (.forLoop (.Name wC CN) (.ref o0) (Hn++[.Expr (.Yield (aa (.Name wC Hj)) Hk) Hm]) [] iS.env))
      |.brk=>.pure (.done .next)
      |.ret v=>.pure (.done (.ret v))) (λe=>(do uX e iS.env;zx e).wrap (λa=>.raise e) .raise id id) id id) [Fr] Q) (λa a=>False) s') (λa a=>False) (.inl ⟨rfl,_,_,rfl⟩) (jb (lO i) (am Z (cB ..))) t.st.1 λv s1 hP d6 p X V=>?_) (λv s' h=>h.elim λu z=>ae z.1 z.2) λa a h=>h))
  have YA:qd S St (i+1) s1.heap:=⟨d6,t.st.2.imp λjs y=>y.imp λn y=>⟨p S _ (λh=>N (bB.mp h)) y.1,y.2⟩⟩;have YB:=λb hb=>(w.here YA b hb);have eG:ov [o0] (aa .x) G=G:=funext λb=>gw (P:=λx=>x=G b) (λh=>(t.x b (E b h)).symm) λa=>rfl;have H1:=uM (r:=aa .x) K t.h (λb h=>t.x b (E b h)) (f1 t.st) (λa b h=>YB b (E b h)) p X V;have F:Tn oZ 0 iS bj [S,o0] (qd S St) (i+1) G r s1:=⟨(eG▸H1),t.x,YA,O3 (iq:=iS.at G r) t.m YB λb o hb=>p b o λh=>hb (E b h)⟩;refine uB (mG (q:=iS.at G r) K (eG▸H1) (ae C i1) (lq (ae C i2)) (w.it i d v _ _ Bu hP F.X3) λQ H2 T=>?_);rw[ac1];have j:=hb (iS.at G (r.set 1 (.val d))) (λa a=>True) Q C ⟨⟨H2,ht,hl⟩,λa a a=>trivial⟩;simp only [show(iS.at G (r.set 1 (.val d))).ρ=r.set 1 (.val d)from rfl,e1]at j;refine seg_wrap (am I (ba (j) (λf s3 z=>?_) λa a h=>h.elim));obtain⟨G3,z⟩:=z;have O:=(F.run w H2 T).run w z.h.tobM z.m;have k3:=((k0.trans (kI p)).trans (T.kp.mono λb o a h=>F.own m0 (.head _) h)).trans (z.m.kp.mono λb o a h=>(F.run w H2 T).own m0 (.head _) h);rcases MI with⟨rfl,MR⟩|⟨rfl,y,l',hy,MR,rfl⟩
  ·obtain rfl:f=.cont:=z.f;exact Wy rfl (ih (i+1) G3 R L g D s3 yq Z O k3 H MR)
  ·obtain rfl:f=.next:=z.f;refine anS (seg_Expr_Yield Yx rfl Yy (am I (xk z.h.tojp (ae C i1) (ae C i3) hy (λh=>c5 h rfl) λv a ry Yw Bf=>?_)) p9 (DW t.h.fs.fn));refine⟨⟨g,y,l',H,rfl,ry⟩,k3,O.h.inv,Tn oZ 0 iS bj [S,o0] (qd S St) (i+1) G3 R,O,λao bj h o=>h.outside K (.head _) gb o,λU X1=>Bf .none U ?_⟩;exact Wy rfl (ih (i+1) G3 R l' (g++[y]) U U yq Z X1 .refl (by simp only [H,bg];rfl) MR)
theorem ac2{W q I d tp b a c bs}:CM W q I d tp b a c bs:=@vU _ _ _ _ _ _ _ _ _ CM _ @aaj W q I d tp b a c bs
end
section
theorem bM.around(H:bM W n q s)(a:pN A' n)(hh:A'.handled=ak)(hf:A'.frames=q.A.frames)(hs:q.σ.fs=ak):bM W n {q with A:=A'} s:=
 {H with fs:={H.fs with room:=a,hd:=hh},at_:=H.at_,hf:=hf▸H.hf,me:=λC m h=>aN (hs.symm.trans h)}
theorem ov2:ov [S,I] r G=ov [I] r (ov [S] r G):=funext λb=>gw (P:=λx=>x=ov [I] r (ov [S] r G) b) (λh=>(ch.mp h).elim (λe=>gw (λy=>rfl) λy=>(fh (e▸.head _)).symm) λh=>(fh h).symm) λh=>(dq λz=>h (.tail _ z)).trans (dq λz=>h (bB.mp z▸.head _))|>.symm
theorem agU(K:aT W)(hb:gG W 0 (FN 0) σ bs mQ)(n:q.σ=σ)(bV:σ.fs=ak)(T:σ.ns[1]?=aa dV)(R:σ.fj dV=af)(Q:σ.fK dV=af){Fr:Nn}
  (hc:c=.forLoop (.Name dV tp) (.ref s.heap.objs.size) (bs++[.Expr (.Yield (aa (.Name dV qp)) yp) p2]) [] q.env) (Z:A'=A.over c [Fr]) (H:pN A' 0) (j:A'.handled=ak) (i:A'.frames=aa (q.env::outer)) (F:aqk [Fr]=ak) (E:[Fr].any aiE=ag)
  (FG:∀u s,nW W q sb S 0 u (.ok (.ret .none)) s->jF W.M A (nW W q sb S) (rj W q sb S eH) 0 u (.block [] q.env) (L7 (.ok .next)) [Fr] s)
  (ht:q.A.frames=aa (q.env::outer)) (V:q.env.frame=aa q.env.locals) (J:q.env.scope.isCoroutine=ag) (L:sb.heap.get? S=ak) (C:∀b,(sb.heap.get? b).isSome=af->(s.heap.get? b).isSome=af) (f:∀b,q.X b->(sb.heap.get? b).isSome=af)
  (m:Mv W q sb (q.at (ov [S] (aa .me) q.G) q.ρ) s) (Y:gS ds q.ρ=.ok eH) (t:bM W 0 (q.at (ov [S] (aa .x) q.G) q.ρ) s) (p:∃ai,bG s.heap "list" S ai) (MS:ov [S] (aa .x) q.G a=ak) (Gg:bG s.heap "list" a ai) (U:a9 (λb=>ov [S] (aa .x) q.G b≠ak) s.heap ds ai):
  jF W.M A (nW W q sb S) (rj W q sb S eH) eH.length s c (W.M.den c) [Fr] {s with heap:=s.heap.push {cls:=.type "list_iterator",data:=.fields #[.ref a,.int 0 0]}}:=by
 have nI:=eh s.heap;have I:((s.heap.push {cls:=.type "list_iterator",data:=.fields #[.ref a,.int 0 0]}).get? s.heap.objs.size).isSome=af:=dH (gk _ rfl);have l:∀{b},(q.X b\/b=S)->ov [S] (aa Ro.x) q.G b≠ak:=λ{b} h=>gw (P:=λx=>x≠ak) (λd=>b3) λh'=>h.elim id λe=>aC (am e (.head _)) h';have D:S≠s.heap.objs.size:=λe=>p.elim λjs y=>dL nI (am e y.bp);have v:=λh=>l h MS;have H1:=t.around H j (i.trans ht.symm) (n▸bV);have g:Nx W s {s with heap:=s.heap.push {cls:=.type "list_iterator",data:=.fields #[.ref a,.int 0 0]}}:=(Gr.heap s _ _ λb o e=>dA _ e).nx t.inv;have B:=wW K H1 g (λb hb=>bB.mp hb▸nI) λb hb=>(bB.mp hb).symm▸I;obtain⟨P,St,k,w⟩:=aeT j f (λb o e=>C b (dH e)) L p Gg v (U.mv (.sub λb d d h=>l h));have N:∀{b r},q.G b=aa r->b≠s.heap.objs.size:=λe h=>dL nI (h▸C _ (f _ (nn e)));have O:Mv W {q with A:=A'} sb {q with A:=A',G:=ov [S,s.heap.objs.size] (aa .me) q.G} {s with heap:=s.heap.push {cls:=.type "list_iterator",data:=.fields #[.ref a,.int 0 0]}}:=
  Mv.trans (iq:={q with A:=A',G:=ov [S] (aa .me) q.G}) ⟨m.kp,m.gx,m.new,m.bp⟩ (.grow g (λb r=>gw (P:=λx=>x=aa r->ov [S,s.heap.objs.size] (aa .me) q.G b=aa r) (λh e=>(fh (ch.mpr (.inl (bB.mp h)))).trans e) λh e=>(dq λz=>(ch.mp z).elim (λy=>h (bB.mpr y)) λy=>N e (bB.mp y)).trans e)
   λb r=>gw (P:=λx=>x=aa r->ov [S] (aa .me) q.G b=aa r\/(r≠.x/\s.heap.get? b=ak)) (λh e=>(ch.mp h).elim (λy=>.inl ((fh (bB.mpr y)).trans e)) λy=>.inr ⟨λz=>(cw (e.trans (aj aa z)) rfl),bB.mp y▸nI⟩) λh e=>.inl ((dq λz=>h (ch.mpr (.inl (bB.mp z)))).trans e))
 refine ac2 (q:={q with A:=A'}) K hb n T R Q hc Z ⟨outer,i⟩ V F E J D (λe=>v (.inr e.symm)) k w O FG ds 0 (ov [S,s.heap.objs.size] (aa .x) q.G) q.ρ eH [] s _ rfl (dD _) ⟨?_,λb=>fh,w.st,?_⟩ (g.k.weak) rfl Y
 ·exact ae ov2 B.1
 ·exact ae s9 .refl
theorem abK(K:aT W)(hb:gG W 0 (FN 0) σ bs mQ)(f:q.σ=σ)(i:σ.fs=ak)(u:σ.ns[0]?=aa qe)(r:σ.fK qe=af)(B:σ.ns[1]?=aa dV)(z:σ.fj dV=af)(w:σ.fK dV=af)
  (H:A.frames=aa outer) (ht:q.A.frames=aa (q.env::outer)) (D:q.env.frame=aa q.env.locals) (hh:A.handled=ak) (e:A.depth+1<900/\A.units+3<9000) (n:q.env.scope.isCoroutine=ag)
  (k:q.ρ[0]?=aa (.val (.list ds))) (o:sb.heap.get? S=ak) (J:∀b,(sb.heap.get? b).isSome=af->(s.heap.get? b).isSome=af) (d:∀b,q.X b->(sb.heap.get? b).isSome=af)
  (m:Mv W q sb (q.at (ov [S] (aa .me) q.G) q.ρ) s) (E:gS ds q.ρ=.ok eH) (t:bM W 0 (q.at (ov [S] (aa .x) q.G) q.ρ) s) (F:∃ai,bG s.heap "list" S ai):
  jF W.M A (nW W q sb S) (rj W q sb S eH) eH.length s (.func [.For (.Name dV tp) (.Name qe ip) (bs++[.Expr (.Yield (aa (.Name dV qp)) yp) p2]) [] p3] q.env) (W.M.den (.func [.For (.Name dV tp) (.Name qe ip) (bs++[.Expr (.Yield (aa (.Name dV qp)) yp) p2]) [] p3] q.env)) [] s:=by
 have g:∀(c:GG) (fs:List Nn),(A.over c fs).frames=pushEnvs c.envs (pushEnvs (envsOf (fs.map Frame.where_)) (aa outer)):=λc fs=>by refine am H ?_;rfl
 refine seg_func (anS (agS (λv=>rfl) ?_));have H0:=t.around (A':=A.over (.func [.For (.Name dV tp) (.Name qe ip) (bs++[.Expr (.Yield (aa (.Name dV qp)) yp) p2]) [] p3] q.env) []) ⟨e.1,e.2⟩ hh ((g _ _).trans ht.symm) (f▸i);refine xk H0.tojp (f▸u) (f▸r) k (λh=>c5 h rfl) λv y l=>?_;obtain⟨a,ai,rfl,I,j,C⟩:=l;refine PG j.isList λp=>agU K hb f i B z w rfl rfl ⟨e.1,e.2⟩ hh (g _ _) rfl rfl (λL s' h=>seg_leaf (.ok .next) (seg_end (.ok (.ret .none)) h)) ht D n o J d m E t F (aq8.mp I) j C
end
def pj(vs:List aA)(ys:List Y):Prop:=∀X h,a9 X h (ys.map .bytes) vs
theorem pj.snoc(h:pj vs ys)(a:RZ v y):pj (vs++[v]) (ys++[y]):=λX H=>by rw[cU];exact(h X H).append (.cons a .nil)
theorem pj.len(h:pj vs ys):vs.length=ys.length:=(h (λx=>False) default).length.trans (aW ..)
noncomputable abbrev LO(acc:Array aA)(c:Nat):Obj:={cls:=.type "list",dict:=ak,data:=.seq acc c,slots:=#[]}
section
variable{G:Nat}
theorem Dq{x:GenState}(I:Inv W s)(hx:x.bare=af):Inv W (s.setGen g x)where
 kp:=I.kp
 bare:=⟨λy a=>(Array.mem_or_eq_of_mem_setIfInBounds (a)).elim (I.bare.1 y) λq=>ae q hx,by exact ae Array.size_setIfInBounds I.bare.2⟩
 os:=I.os
 tabs:=I.tabs
theorem HP(k:bZ Mt h h')(hb:¬Mt b)(e:h.get? b=aa o)(hd:∀es k,o.data≠.dict es k)(hc:o.cls≠.none):h'.get? b=aa o:=k.get e hb (.inl hd) (.inl hc)
def Cf:=λW q A a G S e res k=>(∀{g} (K:aT W) (hh:A.handled=ak) (o:A.depth<900) (i:e.length<=aI) (n:g<W.ng) (p:¬rD q a G) (m:G≠S) (r:FB<=S),∀(ys d:List Y) (s:aL) (gs:GenState) (P:aL->Prop) (acc:Array aA) (c:Nat),e=d++ys->s.heap.IsGen G g->s.gens[g]?=aa gs->Inv W s->P s->(∀ao j,P ao->Ee W S ao j->P j)->
   (∀h,P h->gs.Goes W.M A.in1.in1 (nW W q a S) (rj W q a S e) ys.length (.send .none) h)->s.heap.get? S=aa (LO acc c)->pj acc.toList d->bZ (λb=>rD q a b\/b=S) a.heap s.heap->
   (∀s' f l,Inv W s'->bZ (λb=>rD q a b\/b=S) a.heap s'.heap->s'.heap.get? S=aa (LO f l)->pj f.toList e->k (.ok (.ret res)) s')->
   kq W.M A (.builtin "list.extend.loop" ⟨[.ref S,.ref G,res],[]⟩) k s:Prop)
def qr:=j6 Cf (aO rA (aO yh (aO xR (aO n8 (aO nI (aO nI (aO nI (aO nI nI))))))))
def NX:=qr.1
def nr:=qr.2.1
def Cn:=qr.2.2.1
def ZC:=qr.2.2.2.1
def Co:=qr.2.2.2.2.1
def nv:=qr.2.2.2.2.2.1
def B8:=qr.2.2.2.2.2.2.1
def Zy:=qr.2.2.2.2.2.2.2.1
def ZD:=qr.2.2.2.2.2.2.2.2
theorem ZE:Cf NX nr Cn ZC Co nv B8 Zy ZD:=λ{g} K hh V f tZ hG wa BL=>by
 intro p;have sq:∀{h:bF} {acc:Array aA} {c:Nat} {a:List Y},h.get? nv=aa (LO acc c)->pj acc.toList a->a.length<=B8.length->∃ai,bG h "list" nv ai:=λ{h acc c a} e hb F=>⟨acc.toList,c,e.trans (by rw[GV]),ae hb.len (aw F f)⟩
 induction p with
 |nil=>
  intro a s gs P acc c i t C I L S B n j kp J;rw[bu]at i;subst i;refine anL afS ?_;rw[aa5 OB _];show ay _ Cn.in1 (rt (.ref Co)>>=_) _ _ s;refine aE (Pj hh (I.lim K) (bX V (show 900<H7 by decide)) t C (B _ (S s _ L ⟨⟨rfl,λx x=>rfl⟩,Dq I rfl,sq n j (bO _)⟩)) (λv ao m hb D=>?_) λao hp h' q=>?_)
  ·obtain⟨_,_,_,P',A,_,U⟩:=D;exact(U ao A).elim
  ·obtain⟨_,k1,I1⟩:=hp;refine a8 (J _ acc c (Gr.inv (s:=ao.setGen g .finished) ⟨q,rfl,rfl⟩ (Dq I1 rfl)) (kp.trans ((bZ.trans k1 (.keeps q)).mono λb o x nr=>.inl nr.1)) (q _ _ (HP k1 (λz=>z.2 rfl) n (λes k=>(λh=>c3 h rfl)) (λh=>c4 h rfl))) j)
 |cons y p ih=>
  intro a s gs P acc c i t C I L S B n j kp J;have F:a.length+(p.length+1)=B8.length:=by refine ae i ?_;rw[aS];rfl
  have M:a.length<B8.length:=by rw[<-F];exact zb (iD _)
  have W:acc.size<=je-2:=by have:=j.len;rw[jG]at this;rw[this];exact aw (aw (dk M) f) (by decide+kernel)
  refine anL afS ?_;rw[aa5 OB _];show ay _ Cn.in1 (rt (.ref Co)>>=_) _ _ s;refine aE (Pj hh (I.lim K) (bX V (show 900<H7 by decide)) t C (B _ (S s _ L ⟨⟨rfl,λx x=>rfl⟩,Dq I rfl,sq n j (dk M)⟩)) (λv ao m hb D=>?_) λao hp h' q=>nomatch hp.1);obtain⟨⟨a0,y',l,Q,T,H⟩,k1,I1,P',A,Z,U⟩:=D;have T:l.length=p.length:=T;have e1:=Hs (i.symm.trans Q) (by rw[eY,eY,T]);obtain rfl:y=y':=(bD e1.2).1;have w:=HP k1 (λz=>z.2 rfl) n (λes k=>(λh=>c3 h rfl)) (λh=>c4 h rfl);have R:ao.heap.IsGen Co g:=by obtain⟨o,nm,qn,e,hc,hd,E⟩:=t;exact⟨o,nm,qn,HP k1 (λz=>hG z.1) e (λes k nr=>c3 (hd.symm.trans nr) rfl) (λnr=>c4 (hc.symm.trans nr) rfl),hc,hd,E⟩
  have G:=jb tZ I1.bare.2;have O:(ao.setGen g m).gens[g]?=aa m:=Np G;have I2:=Dq (g:=g) I1 hb;have u:=oK (dK (·.push v)) w rfl;have r:lR nv ao.heap (ao.heap.update nv (dK (·.push v))):=nj ao.heap nv _;have I3:Inv NX {ao.setGen g m with heap:=ao.heap.update nv (dK (·.push v))}:=I2.above K BL r λo vs e d=>c3 ((aj px (aM (w.symm.trans e))).trans d) rfl;obtain⟨N,u⟩:∃N,(ao.heap.update nv (dK (·.push v))).get? nv=aa (LO (acc.push v) N):=⟨_,u⟩;have X:pj (acc.push v).toList (a++[y]):=by rw[Ha];exact j.snoc H
  show ay _ Cn.in1 (Ez nv (·.push v)>>=_) _ _ _;refine aE (Db w rfl (a8 ⟨aoY OB _,ih (a++[y]) _ m P' (acc.push v) N (by refine ae i ?_;rw[bg];rfl) (R.sameBut r wa) O I3 (Z ao _ A ⟨r,I3,sq u X (by rw[aS];exact M)⟩) Z U u X ((kp.trans (k1.mono λb o x nr=>.inl nr.1)).trans ((bZ.sameBut (Mt:=λb=>b=nv) r rfl).mono λb o x nr=>.inr nr)) J⟩) ?_ ?_)
  ·exact aw W (by decide+kernel)
  ·show(acc.push v).size<=je+1;rw[zt];exact aw (c8 W) (by decide+kernel)
theorem aak{W q A a G S b res c}:Cf W q A a G S b res c:=@vU _ _ _ _ _ _ _ _ _ Cf _ @ZE W q A a G S b res c
end
section
variable{q:Q}{G:Nat}{P:aL->Prop}{Q:bI}
theorem ac3(K:aT W)(hh:A.handled=ak)(ij:A.depth<900)(a:eH.length<=aI)(U:g<W.ng)(B:s.heap.IsGen G g)(Y:s.gens[g]?=aa gs)(I:Inv W s)(p:∀b,q.my b->b≠G)
  (hP:P {s with heap:=s.heap.push (LO #[] 0)}) (D:∀ao J,P ao->Ee W s.heap.objs.size ao J->P J)
  (V:∀C,P C->gs.Goes W.M A.in1.in1.in1 (nW W q s s.heap.objs.size) (rj W q s s.heap.objs.size eH) eH.length (.send .none) C)
  (hQ:∀s' acc c,Inv W s'->bZ (λb=>rD q s b\/b=s.heap.objs.size) s.heap s'.heap->s'.heap.get? s.heap.objs.size=aa (LO acc c)->pj acc.toList eH->Q (.ref s.heap.objs.size) s'):
  ay W.M A (call (.type "list") [.ref G]) Q E s:=by
 have S:=I.low K (eh _);have f:(s.heap.push (LO #[] 0)).get? s.heap.objs.size=aa (LO #[] 0):=gk _ rfl;have N:∃o,s.heap.get? G=aa o:=let⟨o,_,_,e,_⟩:=B;⟨o,e⟩;have j:G≠s.heap.objs.size:=λe=>N.elim λo l=>dL (eh _) (am e (dH l));have k0:∀b o,s.heap.get? b=aa o->(s.heap.push (LO #[] 0)).get? b=aa o:=λb o e=>dA _ e;have Z:Nx W s {s with heap:=s.heap.push (LO #[] 0)}:=(Gr.heap s _ _ k0).nx I;refine callType_codes (Q₁:=λobj ao=>obj=.ref s.heap.objs.size/\ao={s with heap:=s.heap.push (LO #[] 0)}) PySem.F.called_list (PySem.F.typeCall_list_1 _) PySem.F.entry_list_init (code_list_new _ ⟨rfl,rfl⟩) λobj ao dv=>?_;obtain⟨rfl,rfl⟩:=dv;refine⟨⟨_,f,rfl⟩,PySem.F.args_list_init_2 _ _,?_⟩;have L:∀{h:bF},(∀b o,s.heap.get? b=aa o->b≠s.heap.objs.size->h.get? b=aa o)->h.IsGen G g/\(({s with heap:=h})).TypeIs (.ref G) "generator":=λ{h} k=>by obtain⟨o,nm,qn,l,hc,r⟩:=B;exact⟨⟨o,nm,qn,k _ _ l j,hc,r⟩,o,k _ _ l j,hc⟩
 show ay _ A.in1.in1 (do let old<-ZH (.ref s.heap.objs.size);aqP (.ref s.heap.objs.size) (λx=>#[]);letGo old.toList.reverse;Nq (.ref s.heap.objs.size) (.ref G) .none) _ _ _;refine aE ?_;unfold ZH;refine aE (RC f rfl (a8 ?_));show ay _ A.in1.in1 (Ez s.heap.objs.size (λx=>#[])>>=λx=>letGo (#[]).toList.reverse>>=λx=>Nq (.ref s.heap.objs.size) (.ref G) .none) _ _ _;refine aE (Db f rfl ?_);have w:=oK (dK (λx=>(#[]))) f rfl;have n:=nj (s.heap.push (LO #[] 0)) s.heap.objs.size (dK (λx=>(#[])));generalize(s.heap.push (LO #[] 0)).update s.heap.objs.size (dK (λx=>(#[])))=H2 at w n⊢;have g2:=L λb o e hb=>(n.2 b hb).trans (k0 b o e);refine aE (aqh ?_);unfold Nq;refine aE (I0 g2.2 ?_);refine ae (show aqQ (.ref s.heap.objs.size) (.ref G)=ag from fX (jS j)) ?_;refine aE (wpAny_pyIter_gen g2.1 ?_);refine aE (hO ?_);unfold aqR;refine aE (Qq g2.2 PySem.F.gen_no_len ?_);show ay _ A.in1.in1 (specialOf (mF G) (fY "__length_hint__")>>=_) _ _ _;refine aE (Qq g2.2 PySem.F.gen_no_hint ?_);refine a8 ?_;show ay _ A.in1.in1 (GH "list.extend.makes-room">>=λx=>aqS (.ref s.heap.objs.size)>>=λx=>again (.builtin "list.extend.loop" ⟨[.ref s.heap.objs.size,.ref G,.none],[]⟩)) _ _ _;refine aE (pe (aE ?_));show ay _ A.in1.in1 (Ez s.heap.objs.size (·.push .none)>>=λx=>Ez s.heap.objs.size (·.pop)) _ _ _;refine aE (Db w rfl ?_);have v:=oK (dK (·.push nC)) w rfl;have u:=nj H2 s.heap.objs.size (dK (·.push nC));generalize H2.update s.heap.objs.size (dK (·.push nC))=H3 at v u⊢;refine Db v rfl ?_;have R:=oK (dK (·.pop)) v rfl;have t:=nj H3 s.heap.objs.size (dK (·.pop));generalize H3.update s.heap.objs.size (dK (·.pop))=H4 at R t⊢;have m:lR s.heap.objs.size (s.heap.push (LO #[] 0)) H4:=⟨t.1.trans (u.1.trans n.1),λb hb=>(t.2 b hb).trans ((u.2 b hb).trans (n.2 b hb))⟩;have I4:Inv W {s with heap:=H4}:=Z.i.above K S m λo vs e d=>c3 ((aj px (aM (f.symm.trans e))).trans d) rfl;obtain⟨H,O⟩:∃c,H4.get? s.heap.objs.size=aa (LO #[] c):=⟨_,R⟩;have g4:=L λb o e hb=>(m.2 b hb).trans (k0 b o e);exact a8 ⟨aoY PySem.F.plain_extend_loop _,aak (A:=A.in1) K hh ij a U (λz=>z.elim (λy=>p G y rfl) λy=>N.elim λo e=>aN (y.symm.trans e)) j S eH [] _ gs P #[] H rfl g4.1 Y I4
  (D _ _ hP ⟨m,I4,[],H,O,cy _⟩) D V O (λX h=>.nil) (λb o e hm=>⟨o,(m.2 b λz=>hm (.inr z)).trans (k0 b o e),.refl ..⟩) λs' T c' I' k' MT hb=>⟨rfl,hQ s' T c' I' k' MT hb⟩⟩
end
noncomputable abbrev Wd.at(W:Wd)(k:Nat):Wd:={W with ng:=k}
section
variable{X:aJ->Prop}
theorem aT.ng(K:aT W)(k:Nat):aT (W.at k):=⟨K.glob,K.Bn,K.lim,K.size,K.full,K.fP,K.Fx,K.xP,K.Lh,K.JK,K.bmain⟩
theorem bM.ng(H:bM W n q s)(h:k<=s.gens.size):bM (W.at k) n q s:={H with fs:={H.fs with},at_:=H.at_,inv:=⟨H.inv.kp,⟨H.inv.bare.1,h⟩,H.inv.os,H.inv.tabs⟩}
theorem aeU(K:aT W)(hb:∀k,gG (W.at k) 0 (FN 0) σ bs mQ)(Y:q.σ=σ)(bV:σ.fs=ak)(O:σ.ns[0]?=aa qe)(N:σ.fK qe=af)(U:σ.ns[1]?=aa dV)(T:σ.fj dV=af)(S:σ.fK dV=af)
  (H:dZ W 0 q s2) (hA:A.frames=aa outer) (ht:q.A.frames=aa (q.env::outer)) (hh:A.handled=ak) (C:xw A 0) (V:A.units+6<9000) (I:q.env.scope.isCoroutine=ag) (v:q.ρ=[.val (.list l),.U]) (g2:Gr s s2) (my:∀b,(s.heap.get? b).isSome=af->¬q.my b) (hX:∀b,X b->(s.heap.get? b).isSome=af)
  (Z:gS l [.val (.list l),.U]=.ok ys) (a:ys.length<=aI) (BE:body=[.For (.Name dV tp) (.Name qe ip) (bs++[.Expr (.Yield (aa (.Name dV qp)) yp) p2]) [] p3]):
  ay W.M A (call (.type "list") [.ref s2.heap.objs.size]) (λu s'=>Nx W s s'/\bq X s'.heap (.list (ys.map .bytes)) u) E {s2 with gens:=s2.gens.push (.fresh (.func body q.env)),toks:=s2.toks+1+1,heap:=s2.heap.push {cls:=.type "generator",data:=.fields #[.int s2.gens.size 0,.str MU s2.toks,.str MV (s2.toks+1)]}}:=by
 have Q:(s2.heap.push {cls:=.type "generator",data:=.fields #[.int s2.gens.size 0,.str MU s2.toks,.str MV (s2.toks+1)]}).IsGen s2.heap.objs.size s2.gens.size:=⟨_,_,_,gk _ rfl,rfl,rfl,rfl⟩;have k3:∀b o,s2.heap.get? b=aa o->(s2.heap.push {cls:=.type "generator",data:=.fields #[.int s2.gens.size 0,.str MU s2.toks,.str MV (s2.toks+1)]}).get? b=aa o:=λb o e=>dA _ e;generalize s2.heap.push {cls:=.type "generator",data:=.fields #[.int s2.gens.size 0,.str MU s2.toks,.str MV (s2.toks+1)]}=h3 at*;have I3:Inv W {s2 with gens:=s2.gens.push (.fresh (.func body q.env)),toks:=s2.toks+1+1,heap:=h3}:=⟨H.inv.kp.trans (.keeps k3),⟨af1 H.inv.bare.1 rfl,aw H.inv.bare.2 (by simp only [zt];exact gO _)⟩,H.inv.os,H.inv.tabs.next λb o y e y y=>k3 b o e⟩;have By:s2.gens.size+1<=(s2.gens.push (.fresh (.func body q.env))).size:=by rw[zt];exact bO _
 have j:∀b,q.my b->b≠s2.heap.objs.size:=λb hb e=>dL (eh s2.heap) (am e ((H.old b hb.1).1));have c:={H.tobM with tojp:=H.tojp.nx ⟨.keeps k3,I3⟩};have c:=c.ng By;have w:=λb o e=>k3 b o (g2.keep b o e);generalize F:({s2 with gens:=s2.gens.push (.fresh (.func body q.env)),toks:=s2.toks+1+1,heap:=h3})=s3 at*;have n:s3.heap=h3:=am F rfl;have g:=K.ng (s2.gens.size+1);have f:=eh s3.heap;have J:Nx (W.at (s2.gens.size+1)) s3 {s3 with heap:=s3.heap.push (LO #[] 0)}:=(Gr.heap s3 _ _ λb o e=>dA _ e).nx c.inv;have p:(s3.heap.push (LO #[] 0)).get? s3.heap.objs.size=aa (LO #[] 0):=gk _ rfl;have B:=wW g c J (λb hb=>am ((bB.mp hb).symm) f) λb hb=>am ((bB.mp hb).symm) (dH p);refine ac3 (W:=W.at (s2.gens.size+1)) (gs:=.fresh (.func body q.env)) (P:=Tn (W.at (s2.gens.size+1)) 0 q {s3 with heap:=s3.heap.push (LO #[] 0)} [s3.heap.objs.size] (qd s3.heap.objs.size λy y=>True) 0 (ov [s3.heap.objs.size] (aa .x) q.G) q.ρ)
  g hh (oQ C.1) a (lO _) (ae n Q) (am F (Array.getElem?_push_size ..)) c.inv j ⟨B.1,λb=>fh,⟨trivial,[],0,p,cy _⟩,?_⟩ (λao bj h z=>h.outside g (.head _) (λy y y y y=>trivial) z) (λR t=>⟨rfl,?_⟩) λs' acc c' d L MT D=>?_
 ·exact ae s9 .refl
 ·have m:Mv (W.at (s2.gens.size+1)) q s3 (q.at (ov [s3.heap.objs.size] (aa .me) q.G) q.ρ) R:=by
   have r:=t.m;rw[s9]at r;exact B.2.trans r
  subst BE;exact abK g (hb _) Y bV O N U T S hA ht H.loc hh ⟨C.1,V⟩ I (by refine ae v ?_;rfl) f m.bp (λb hb=>(c.old b hb).1) m (ae v Z) t.h t.st.2
 ·have i:=λb h=>(gK.mp h).elim λo e=>dH (n▸w b o e);have kp:Kp s.heap s'.heap:=λb o e y=>L b o (ae n (w b o e)) λz=>z.elim (λz=>z.elim (my b (dH e)) λz=>dL z (i b (dH e))) λz=>dL f (am z (i b (dH e)));exact⟨⟨kp,⟨d.kp,⟨d.bare.1,aw (aw H.inv.bare.2 (gO _)) d.bare.2⟩,d.os,d.tabs⟩⟩,s3.heap.objs.size,acc.toList,rfl,(λh=>dL f (i _ (hX _ h))),⟨c',MT.trans (ae GV rfl),ae D.len a⟩,D X s'.heap⟩
theorem ac4(K:aT W)(d:tJ W σ fa fd 1)(iJ:fd.scope.isGenerator=af)(KJ:fd.body=.stmts [.For (.Name dV tp) (.Name qe ip) (bs++[.Expr (.Yield (aa (.Name dV qp)) yp) p2]) [] p3])(hb:∀k,gG (W.at k) 0 (FN 0) σ bs mQ)(T:σ.fs=ak)(Mr:σ.ns.length=2)(j1:σ.ns[0]?=aa qe)(j3:σ.fK qe=af)(i1:σ.ns[1]?=aa dV)(i2:σ.fj dV=af)(i3:σ.fK dV=af)
  (Z:∀s vs,sK W.fr s.heap->vs.length=1->vh s fd ⟨vs,[]⟩ ((σ.ns.take 1).zip vs)) (o:yl W n A X s) (H:0<n) (Y:bq X s.heap (.list l) v) (he:gS l [.val (.list l),.U]=.ok ys) (i:ys.length<=aI):
  ay W.M A (call (.ref fa) [v]) (λg O=>ay W.M A (call (.type "list") [g]) (λu s'=>Nx W s s'/\bq X s'.heap (.list (ys.map .bytes)) u) E O) E s:=by
 refine d.obj.elim λob w=>w.elim λho L=>?_;refine d.cd.elim λc w=>w.elim λR z=>z.elim λMC j=>j.elim λV p=>p.elim λAO q=>q.elim λF r=>r.elim λJ I=>?_;have D:xw A 0:=⟨bn (eJ (aw H (Nat.le_mul_of_pos_left n (eX rfl))) _) o.room.1,bn (eJ (aw (show 3<=60*1 by decide) (dy 60 H)) _) o.room.2⟩;have N:=o.inv.fP K;refine w7 (codeAny_call_generator (bX (oQ D.1) (show 900<H7 by decide)) (N fa ob ho) L d.co iJ KJ ⟨c,R,MC,V,AO,N c R F,J,I⟩ ?_);refine ae d.Mz ?_;refine Z _ _ N rfl _ _ _ _ (aa9 d.kind (λx hx=>?_) λf C O t=>?_)
 ·refine ae d.names ?_;refine(d.par x.1 (afW hx).1).imp id λh=>⟨h,Dj ?_⟩;exact ae HM (ke _ (kV.mpr (wB (kj.mpr ⟨mem_of_lookup h,rfl⟩))))
 have He:=RV K d (RW (env:=f) (m:=1) D o.hd o.hf o.inv o.old (.cons Y .nil) rfl Mr.symm T) C t;have g2:=CK t;refine⟨(o.inv.lim K).keeps g2.keep,?_⟩;obtain⟨B,U⟩:=o.hf;have S:f.locals=s.heap.objs.size:=by refine ae C ?_;rfl
 have my:∀b,(s.heap.get? b).isSome=af->¬((qV A σ f X [.list l] 1).fn A f).my b:=λb hb h=>by have e:((qV A σ f X [.list l] 1).fn A f).G b=gX X b:=Je (λh=>dL (h▸ae S (eh _)) hb) λy h=>dL (ux (dk (am S (t.above y _ h)))) hb;unfold Q.my at h;have h:=e▸h;exact vp (P:=λx=>x≠ak/\x≠aa .x->False) (λa h=>h.2 rfl) (λa h=>h.1 rfl) h
 exact aeU K hb rfl T j1 j3 i1 i2 i3 He U.1 (by show A.frames.map _=_;refine ae U.1 ?_;rfl) o.hd D (bn (eJ (aw (show 6<=60*1 by decide) (dy 60 H)) _) o.room.2) (by show f.scope.isCoroutine=ag;exact ae C d.co) rfl g2 my (λb hb=>(o.old b hb).1) he i rfl
end
def Good(w:dM)(F r:aL)(u:tD):Prop:=r.asleep->∃n a,L8 (lY jm) pw w n (.single r u)=.running (.single F a)/\L5 a=af
def kx(w:dM)(F s:aL)(t:tD):Prop:=∀r u,r.forget=s.forget->u.forget=t.forget->Good w F r u
theorem Good.go{w F r u b a}(hc:u.calm=af)(hs:S6 (lY jm) pw w r u=.go b a)(g:Good w F b a):Good w F r u:=λz=>
 let⟨n,τ,h1,h2⟩:=g (NP (step_life _ pw w r b u a hs) z);have e:=((sstep_single _ pw w r u hc z).resolve_right (hs▸nofun)).trans (aj Step.lift hs)
 ⟨n+1,τ,by unfold L8;rw[e];exact h1,h2⟩
theorem kx.step{w F s t f d}(hc:t.calm=af)(hs:(Step.go f d).forget=(S6 (lY jm) pw w s t).forget)(g:kx w F f d):kx w F s t:=λr u a b=>by have e:=hs.trans (step_same (lY jm) pw w a b).symm;cases c:S6 (lY jm) pw w r u with|halt o x=>rw[c]at e;exact nomatch e|go r1 u1=>rw[c]at e;have e:=arT e;exact .go (by rw[<-acp,b,acp];exact hc) c (g r1 u1 e.1.symm e.2.symm)
theorem kx.aeV{w F}:∀(n:Nat) {s t s' a},runNI (lY jm) pw w n s t=.running s' a->kx w F s' a->kx w F s t:=λn=>by
 induction n with
 |zero=>intro s t s' a h g;cases h;exact g
 |succ n ih=>
  intro s t s' a h g;unfold runNI at h;have q:t.loud=ag:=by cases c:t.loud with|false=>rfl|true=>rw[stepI_loud _ pw w c]at h;exact nomatch h
  rw[stepI_quiet _ pw w q]at h;have e:=stepK_forget (den:=lY jm) (prog:=pw) (w:=w) s t;cases hs:stepK (lY jm) pw w s t with
  |halt o x=>rw[hs]at h;exact nomatch h
  |go s1 t1=>rw[hs]at h e;refine .step ?_ e (ih h g);rw[Thread.calm_eq,q];cases b:t.refused with|false=>rfl|true=>obtain⟨x,e⟩:=stepK_refused (lY jm) pw w b;rw[hs]at e;exact nomatch e
def wb(w:dM)(n:Nat):qY->tD->Option (qY×tD):=xq (λs t=>aa (s,t)) (λy a s t=>cond t.calm ((stepT (lY Kw) pw w s t).bind λx=>a x.1 x.2) ak) n
theorem kx.T1{w F}:∀(n:Nat) {s t s' a},wb w n s t=aa (s',a)->kx w F s'.abs a->kx w F s.abs t:=λn=>by
 induction n with
 |zero=>intro s t s' a h g;cases h;exact g
 |succ n ih=>intro s t s' a h g;cases hc:t.calm with|false=>exact aN ((aj (cond · ((stepT (lY Kw) pw w s t).bind λx=>wb w n x.1 x.2) ak) hc).symm.trans h)|true=>obtain⟨⟨e,d⟩,c,b⟩:=cG.mp ((aj (cond · ((stepT (lY Kw) pw w s t).bind λx=>wb w n x.1 x.2) ak) hc).symm.trans h);exact .step hc (aj Step.forget (aoZ▸stepT_spec c)).symm (ih b g)
theorem kx.stmt{w F}{st:cO}(d:(Ctx.of c [EY q]).In A)
  (h:ay (bH pw w) A (exec st env) (λf r=>f=.next/\r=s') (λy y=>False) s) (g:∀b,kx w F s' ⟨(gV rest env).wrap vR (A3 env) id id,c,b,[EY q]⟩):
  kx w F s ⟨((gV (st::rest) env).onRaise (sY env)).bind λf=>(.pure (.done f):dC Fin),c,pos,[EY q]⟩:=by
 have h2:ay (bH pw w) A ((exec st env).onRaise (sY env)) (λf r=>f=.next/\r=s') (λy y=>False) s:=Tf (ba h (λy y x=>x) λy y x=>x.elim);obtain⟨l,b,k,⟨n,i⟩,j⟩:=wp_comes_bind (Ctx.fits_of c [EY q]) (λf=>match f with|.next=>(gV rest env).wrap vR (A3 env) id id|f=>vR f) _ _ _ pos s (h2 _ pos d);rcases j with⟨a,rfl,rfl,hq⟩|⟨_,_,x⟩
 ·have e:((gV (st::rest) env).onRaise (sY env)).bind (λf=>(.pure (.done f)))=((exec st env).onRaise (sY env)).bind (λf=>match f with|.next=>(gV rest env).wrap vR (A3 env) id id|f=>vR f):=by
   rw[CC,Oi,Dc,CC,Oi,Dc];refine(Qs st rest).trans (HH _ _ _ (λf=>?_) λy=>?_)
   ·cases f<;>rfl
   ·rw[CC,Dc,Dc];rfl
  rw[e];exact .aeV n i (hq▸g b)
 ·exact x.elim
abbrev jw:fC:={scope:=pw.main.scope,locals:=Y7,globals:=Y7,cells:=[],code:=.ref 13,frame:=aa 14}
abbrev yG:GG:=.body (wD pw) jw
noncomputable abbrev p0:bQ:=⟨0,0,0,0⟩
abbrev fM:Nn:=EY p0
noncomputable abbrev wd(w:dM)(os:dE):aL:=⟨pv w.params,#[],qP,Wz,os⟩
noncomputable def MW(w:dM)(os:dE):qY:=⟨(pv w.params).objs.toList.zipIdx.foldl (λt x=>t.ins x.2 x.1) .nil,11,{},#[],qP,Wz,os⟩
def thr(x:Option (qY×tD)):tD:=(x.map (·.2)).getD ⟨.pure (.done .next),yG,p0,[]⟩
noncomputable def vJ(x:Option (qY×tD)):BT:=(x.map (·.1.tree)).getD .nil
def Q7(w:dM)(os:dE):Option (qY×tD):=wb w 556 (MW w os) (Ft pw)
def YI(w:dM)(os:dE):qY:=⟨vJ (Q7 w os),97,{},#[],qP,320,os⟩
theorem agV(w:dM)(os:dE):wd w os=(MW w os).abs:=by kernel_rfl
theorem amn(w:dM)(os:dE):wb w 556 (MW w os) (Ft pw)=aa (YI w os,⟨((gV ((wD pw).drop 8) jw).onRaise (sY jw)).bind λf=>(.pure (.done f):dC Fin),yG,(thr (Q7 w os)).pos,[fM]⟩):=by kernel_rfl
noncomputable abbrev tj(es:List pn)(a:Nat):Obj:={cls:=.type "dict",data:=.dict es.toArray a}
theorem aeW{H:bF}:(H.push o).update H.objs.size f=H.push (f o):=by
 unfold Heap.update Heap.push;refine aj (Heap.mk · H.life) (Array.ext_getElem? λi=>?_);refine ae (Array.getElem?_modify) (ae (acj) (ae (acj) ?_));by_cases q:H.objs.size=i
 ·refine ae (cD q) (ae (cD q.symm) (ae (cD q.symm) ?_));rfl
 ·exact ae (c9 q) (ae (c9 (jS q)) (ae (c9 (jS q)) rfl))
section
variable{K:Type} [DecidableEq K]{knd:KeyKind prog w K}
theorem aaM{Q:Unit->aL->Prop}(b:knd.is k key=af)(a:s.heap.get? d=aa o)(hd:o.data=.dict es ep)(f:KeysOf knd es)
  (c:(es.findIdx? λe=>knd.is k e.key)=ak) (h:es.size<=je) (g:Q () {s with heap:=s.heap.update d (PI (·.push ⟨knd.hash k,key,v⟩)),toks:=s.toks+1}):ay (bH prog w) A (Y3 d key v) Q E s:=by
 unfold Y3;refine hO (aE (knd.pyHash b ?_));unfold dictSetHashed
 try refine hO ?_
 refine aE (wpAny_dictFind_of b a hd f ?_);exact ae c (aE (pe (wpAny_updateDictKeys a hd g)))
noncomputable def jh(knd:KeyKind prog w K)(l:List (K×aA×aA)):List pn:=l.map λx=>⟨knd.hash x.1,x.2.1,x.2.2⟩
theorem ZJ{H:bF}{os:dE}{Q:PUnit->aL->Prop}(l:List (K×aA×aA)):∀(acc:List (K×aA×aA)) (t a:Nat),(∀x∈acc++l,knd.is x.1 x.2.1=af)->((acc++l).map (·.1)).Nodup->(acc++l).length<=je->
  Q S7 ⟨H.push (tj (jh knd (acc++l)) (a+l.length)),g,dr,t+l.length,os⟩->
  ay (bH prog w) A (forIn (l.map (·.2)) S7 λ(x:aA×aA) (z:PUnit)=>(do Y3 H.objs.size x.1 x.2;pure (uC S7):dC (ForInStep PUnit))) Q E ⟨H.push (tj (jh knd acc) a),g,dr,t,os⟩:=by
 induction l with
 |nil=>intro acc t a _ _ _ c;refine ae Dy (ae List.forIn_nil ?_);rw[bu]at c;exact a8 c
 |cons x l ih=>
  intro acc t a j d f c;have e:acc++[x]++l=acc++x::l:=bg ..;rw[<-e]at j d f c;have i:=λy h=>j y (ke _ h);refine ae dB ?_;rw[uE];refine aE (aE (aaM (i x (fF _ (.head _))) (gk _ rfl) rfl (λm k=>?_) ?_ ?_ (a8 ?_)))
  ·exact(ey.mp (zm.mp k)).elim λy b=>b.2▸⟨y.1,i y (ke _ b.1),rfl⟩
  ·rw[aa7,List.findIdx?_eq_none_iff];intro m k;refine(ey.mp k).elim λy b=>gL.mpr λq=>?_;have q:=b.2.symm▸q;simp only [cU,cU,bg]at d;exact(OE.mp d).2.2 y.1 (wB b.1) x.1 (.head _) (knd.inj _ _ _ (i y (ke _ b.1)) q)
  ·simp only [r9,jh,aW];exact aw (by simp only [aS,aS,fG];exact cB _ _) f
  ·refine ae aeW (ae (show PI (·.push ⟨knd.hash x.1,x.2.1,x.2.2⟩) (tj (jh knd acc) a)=tj (jh knd (acc++[x])) (a+1)from by unfold jh;rw[cU];exact aj (λd=>({tj [] 0 with data:=.dict d (a+1)}:Obj)) (List.push_toArray ..)) ?_);rw[eY,gn l.length 1,<-fG,<-fG]at c;exact ih (acc++[x]) (t+1) (a+1) j d f c
theorem aaN{Q:Unit->aL->Prop}(b:s.heap.get? a=aa o)(hd:o.data=.dict es ep)(c:es.any (·.refKey)=ag)
  (d:Q () {s with heap:=s.heap.update a (DT name (CV w.params name) (.str name s.toks) v),toks:=s.toks+1}):ay (bH prog w) A (Nl a name v) Q E s:=by
 unfold Nl;refine aE (aE (Qm (a8 (aE (ao1 (aE (RE b ?_)))))));refine ae hd ?_;dsimp only;simp only [ad3,c,wH];exact aly b d
def e9(e:aH):Option (List UInt8):=v7 (λc x=>HY c ak N1 N1 N1 N2 N1 aa ak) N3 N2 e
def jx(l:List (aH×aH)):Nat->List (List UInt8×aA×aA):=cX (motive:=λy=>Nat->List (List UInt8×aA×aA)) (λy=>[]) (λx y a t=>(((e9 x.1).getD []),.bytes ((e9 x.1).getD []).toArray t,.bytes ((e9 x.2).getD []).toArray (t+1))::a (t+2)) l
noncomputable def JX(env:fC)(pos:bQ)(x:aH×aH):dC aA×dC aA:=(eval x.1 env,do let v<-eval x.2 env;vg pos;pure v)
theorem R3:∀{t:Nat},(jx l t).length=l.length/\(jx l t).map (·.1)=l.map (λr=>(e9 r.1).getD [])/\∀x∈jx l t,(jd prog w).is x.1 x.2.1=af:=by induction l with|nil=>exact⟨rfl,rfl,λx h=>aC h gM⟩|cons x l ih=>exactλ{t}=>⟨aj (·+1) ih.1,aj (_::·) ih.2.1,λy a=>(ch.mp a).elim (λe=>ae e (bytesKind_is _ _ _ _)) (ih.2.2 y)⟩
theorem T2{Q:bI}(h:e9 a=aa x)(d:Q (.bytes x.toArray s.toks) {s with toks:=s.toks+1}):ay (bH prog w) A (eval a env) Q E s:=xm (P:=λa x=>Q (.bytes x.toArray s.toks) {s with toks:=s.toks+1}->ay (bH prog w) A (eval a env) Q E s) (λc k p=>HY c .no (λy=>.no) (λy=>.no) (λy=>.no) (λy y=>.no) (λy=>.no) (λb=>.so λd=>Ry d) .no) (λy y y y=>.no) (λy y y=>.no) x h d
theorem aaO:∀{s:aL} {Q:List (aA×aA)->aL->Prop},(∀r∈rows,(e9 r.1).isSome=af/\(e9 r.2).isSome=af)->Q ((jx rows s.toks).map (·.2)) {s with toks:=s.toks+2*rows.length}->ay (bH prog w) A (evalPairs (rows.map (JX env pos))) Q E s:=by
 induction rows with
 |nil=>exactλy c=>evalPairs_nil c
 |cons x rows ih=>intro s Q h c;refine(gK.mp (h _ (.head _)).1).elim λa d=>(gK.mp (h _ (.head _)).2).elim λb hb=>?_;refine ae dB ?_;refine evalPairs_cons (T2 d (aE (T2 hb (aE (kY (a8 (ih (λr e=>h r (.tail _ e)) ?_)))))));have c:Q ((((e9 x.1).getD []),alp ((e9 x.1).getD []).toArray s.toks,alp ((e9 x.2).getD []).toArray (s.toks+1)).2::(jx rows (s.toks+2)).map (·.2)) {s with toks:=s.toks+2*(rows.length+1)}:=c;rw[d,hb,sr,gn (2*rows.length) 2,<-fG]at c;exact c
theorem ajH{Q:bI}(b:(aqj keys env).zip ((EW values env).map λv=>do let x<-v;vg pos;pure x)=(rows.map (JX env pos)).map λp=>(aa p.1,p.2))(e:rows≠[])(a:rows.length<=15)
  (h:∀r∈rows,(e9 r.1).isSome=af/\(e9 r.2).isSome=af) (c:(rows.map λr=>(e9 r.1).getD []).Nodup)
  (d:Q (.ref s.heap.objs.size) ⟨s.heap.push (tj (jh (jd prog w) (jx rows s.toks)) rows.length),s.gens,s.drawn,s.toks+2*rows.length+rows.length,s.os⟩):ay (bH prog w) A (eval (.Dict keys values pos) env) Q E s:=by
 have z:=R3 (prog:=prog) (w:=w) (l:=rows) (t:=s.toks);simp only [arm_eval_Dict,b];refine ae (dictDisplay_pairs _ (λq=>e (ze.mp q)) (by rw[aW];exact bn a (eX rfl))) ?_;refine aE (kY (aE ?_));unfold subDict;refine aE (wpAny_alloc (aE (hO ?_)));refine ae (cD (by rw[aW];exact a)) ?_;refine aE (aaO h (hO (aE (ZJ (jx rows s.toks) [] (s.toks+2*rows.length) 0 z.2.2 (by simp only [uF,z.2.1];exact c) (by simp only [uF,z.1];exact aw a (eX rfl)) (a8 (a8 (a8 ?_)))))));simp only [z.1,uF,dD];exact d
end
def MX:cO:=(wD pw).getD 8 (.Pass p0)
def dcE(e:aH):List (Option aH)×List aH×bQ:=N0 (motive_1:=λx=>List (Option aH)×List aH×bQ) e (λx x x=>([],[],p0)) (λx x x=>([],[],p0)) (λx x x x=>([],[],p0)) (λx x x=>([],[],p0)) (λx x x x=>([],[],p0)) (λx x x x=>([],[],p0)) (λk v p=>(k,v,p)) (λx x x=>([],[],p0)) (λx x x x=>([],[],p0)) (λx x x x=>([],[],p0)) (λx x x x x=>([],[],p0)) (λx x x x=>([],[],p0)) (λx x=>([],[],p0)) (λx x=>([],[],p0))
  (λx x=>([],[],p0)) (λx x x x=>([],[],p0)) (λx x x x=>([],[],p0)) (λx x x x=>([],[],p0)) (λx x=>([],[],p0)) (λx x x=>([],[],p0)) (λx x x=>([],[],p0)) (λx x x=>([],[],p0)) (λx x=>([],[],p0)) (λx x=>([],[],p0)) (λx x=>([],[],p0)) (λx x x=>([],[],p0)) λx x x x=>([],[],p0)
def d8:List (Option aH)×List aH×bQ:=(FE (λx e=>aa (dcE e)) MX).getD ([],[],p0)
def nP:aH->bQ:=kE p0 (λx p=>p) (λx x=>p0) (λx x x=>p0) (λx x=>p0) (λx x=>p0) (λx x x=>p0) (λx x x=>p0) (λx x x=>p0) (λx x x=>p0) (λx x=>p0) (λx=>p0) (λx=>p0) (λx x x x=>p0) (λx x x x=>p0) (λx x x x=>p0) λx x=>p0
def dN:bQ:=(FE (λa x=>fB (λt=>aa (nP t)) a) MX).getD p0
def dQ:bQ:=sE p0 (λx x=>p0) (λx x p=>p) (λx x x=>p0) (λx x x x=>p0) (λx x=>p0) (λx x x=>p0) (λx=>p0) (λx x=>p0) (λx x=>p0) p0 p0 p0 MX
theorem ajJ:(wD pw).drop 8=.Assign [.Name "_POSIX_CLASSES" dN] (.Dict d8.1 d8.2.1 d8.2.2) dQ::(wD pw).drop 9:=by kernel_rfl
def l7:List (aH×aH):=(d8.1.zip d8.2.1).map λx=>(x.1.getD x.2,x.2)
theorem ajK:(aqj d8.1 jw).zip ((EW d8.2.1 jw).map λv=>do let x<-v;vg d8.2.2;pure x)=(l7.map (JX jw d8.2.2)).map λp=>(aa p.1,p.2):=by kernel_rfl
theorem aok:((l7.all λr=>(e9 r.1).isSome&&(e9 r.2).isSome)&&decide (l7.map λr=>(e9 r.1).getD []).Nodup)=af:=by kernel_rfl
theorem aol:l7.length=12:=by kernel_rfl
theorem amo:xf (.Dict d8.1 d8.2.1 d8.2.2) (aa (.Name "_POSIX_CLASSES" dN)) dQ.line jw=pure ag:=by kernel_rfl
theorem ajL(v:aA):xe jw "_POSIX_CLASSES" v=Nl 3 "_POSIX_CLASSES" v:=by kernel_rfl
def we(w:dM):Obj:=tj (jh (jd pw w) (jx l7 320)) 12
noncomputable def FJ(P:Params):Obj->Obj:=DT "_POSIX_CLASSES" (CV P "_POSIX_CLASSES") (.str "_POSIX_CLASSES" 356) (.ref 97)
def yH(w:dM)(os:dE):BT:=(vJ (Q7 w os)).ins 97 (we w)
def MY(w:dM)(os:dE):qY:=⟨(yH w os).set 3 (FJ w.params),98,{},#[],qP,357,os⟩
def MZ(w:dM)(os:dE)(pos:bQ):Option (qY×tD):=wb w 2431 (MY w os) ⟨(gV ((wD pw).drop 9) jw).wrap vR (A3 jw) id id,yG,pos,[fM]⟩
def FK(w:dM)(os:dE):qY:=⟨vJ (MZ w os p0),522,{},#[],qP,990,os⟩
theorem ajM(w:dM)(os:dE)(pos:bQ):wb w 2431 (MY w os) ⟨(gV ((wD pw).drop 9) jw).wrap vR (A3 jw) id id,yG,pos,[fM]⟩=aa (FK w os,⟨.pure (.done (.ret .none)),.builtin "claim.caller" {},p0,[]⟩):=by kernel_rfl
def o3(w:dM)(os:dE):Obj:=((yH w os).get 3).getD default
noncomputable def M0(o:Obj):Array pn×Nat:=match o.data with|.dict es n=>(es,n)|_=>(#[],0)
theorem amp(w:dM)(os:dE):(((yH w os).get 97).isSome,(yH w os).get 3,alive (o3 w os),(o3 w os).data,(M0 (o3 w os)).1.any (·.refKey))=(af,aa (o3 w os),aa (o3 w os),.dict (M0 (o3 w os)).1 (M0 (o3 w os)).2,ag):=by kernel_rfl
theorem aom{w F}{T:BT}{os:dE}(k:U=T.ins 97 (we w))
  (h:((U.get 97).isSome,U.get 3,alive o,o.data,es.any (·.refKey))=(af,aa o,aa o,.dict es ep,ag)) (gd:∀p,kx w F ⟨vi (U.set 3 (FJ w.params)) 98 {},g,dr,357,os⟩ ⟨(gV rest jw).wrap vR (A3 jw) id id,yG,p,[fM]⟩):
  kx w F ⟨vi T 97 {},g,dr,320,os⟩ ⟨((gV (.Assign [.Name "_POSIX_CLASSES" dN] (.Dict d8.1 d8.2.1 d8.2.2) dQ::rest) jw).onRaise (sY jw)).bind λf=>(.pure (.done f):dC Fin),yG,pos,[fM]⟩:=by
 subst k;obtain⟨t,h⟩:=aY h;refine(aY h).elim λh2 h=>?_;refine(aY h).elim λs h=>?_;refine(aY h).elim λm l=>?_;have c:=ack.mp aok;have i:=eX c.2;have hp:=(absHeap_ins (life:={}) t).symm;have d:=(absHeap_set (n:=98) (life:={}) (f:=FJ w.params) h2).symm;have j:=(Y4 (n:=98) (life:={}) (eX rfl) h2).trans s;have hs:=ajK;have a:=aol;have hw:=amo;have ht:=ajL;have e:tj (jh (jd pw w) (jx l7 320)) l7.length=we w:=ae a.symm rfl;generalize l7=R at*;generalize d8.1=kk at*;generalize d8.2.1=vv at*;refine .stmt (A:={handled:=ak,depth:=100000,frames:=ak,guards:=ak,units:=100000}) ⟨rfl,eX (by kernel_rfl),λ_ h=>aN h,λ_ h=>aN h,eX (by kernel_rfl)⟩ (zp (ajH hs (λq=>by have a:=q▸a;cases a) (ae a (eX rfl)) (λr b=>ack.mp (ew.mp c.1 r b)) i ?_) hw) gd;show ay _ _ (xe jw "_POSIX_CLASSES" (.ref (vi T 97 {}).objs.size)) _ _ ⟨(vi T 97 {}).push (tj (jh (jd pw w) (jx R 320)) R.length),g,dr,320+2*R.length+R.length,os⟩;rw[DU,e,hp,a,ht];exact aaN j m l ⟨rfl,am d rfl⟩
theorem ajN(w:dM)(os:dE):yH w os=(vJ (Q7 w os)).ins 97 (we w):=by kernel_rfl
theorem aon(w:dM)(os:dE):(YI w os).abs=⟨vi (vJ (Q7 w os)) 97 {},#[],qP,320,os⟩:=by kernel_rfl
theorem aoo(w:dM)(os:dE):(MY w os).abs=⟨vi ((yH w os).set 3 (FJ w.params)) 98 {},#[],qP,357,os⟩:=by kernel_rfl
def H53(w:dM)(os:dE):bF:=vi (vJ (MZ w os p0)) 522 {}
theorem amq(w:dM)(os:dE):(FK w os).abs=⟨H53 w os,#[],qP,990,os⟩:=by kernel_rfl
theorem agW(w:dM)(os:dE):kx w (FK w os).abs (wd w os) (Ft pw):=by rw[agV];refine .T1 556 (amn w os) ?_;refine ae ajJ ?_;rw[aon];refine aom (ajN w os) (amp w os) λp=>?_;rw[<-aoo];refine .T1 2431 (ajM w os p) λr u a b z=>⟨0,u,aj (λr=>SRun.running (.single r u)) (Shared.eq_of_forget_eq a (am (amq w os) rfl)),?_⟩;have c:u.forget.cur=.pure (.done (.ret .none)):=ae b rfl;have c:u.cur=.pure (.done (.ret .none)):=c;have d:u.forget.stack=[]:=ae b rfl;have d:=d;unfold L5;refine ae c (ae (ze.mp d) ?_);rfl
noncomputable def eR(T:BT)(a:Nat):Obj:=(T.get a).getD default
noncomputable abbrev HT(T:BT):bF:=vi T 522 {}
def de(T:BT):y6:=((fc 522).filter λa=>!TB.contains a).map λa=>(a,eR T a)
def gf(T:BT)(a:Nat):K9:=match(eR T a).data with|.func fd=>fd|_=>default
def i6(T:BT)(a:Nat):Array aA:=match(eR T a).data with|.fields vs=>vs|_=>#[]
def mX(T:BT)(a:Nat):ClassData:=match(eR T a).data with|.cls cd=>cd|_=>default
noncomputable def Ly:aA->aB×Nat|.str s t=>(s,t)|_=>(UU,0)
noncomputable def FL:aA->Int×Nat|.int s t=>(s,t)|_=>(0,0)
noncomputable def Xj(f:aA->Option D)(l:List aA):Option (List D):=cX (aa []) (λx y a=>(f x).bind λd=>a.map (d::·)) l
def M1(T:BT)(n:Nat):aA->Option D:=xq (λx=>ak) (λx c v=>match v with
 |.int i t=>aa (.int i)
 |.bytes b t=>cond (iX b.size aI) (aa (.bytes (b.toList.map bR))) ak
 |.ref a=>(match eR T a with
  |⟨.type ty,ak,.seq ai _,sl⟩=>cond (eA a 522&&(sl.size==0&&iX ai.size aI)) ((Xj c ai.toList).bind λds=>cond (ty=="list") (aa (.list ds)) (cond (ty=="tuple") (aa (.tup ds)) ak)) ak
  |_=>ak)
 |_=>ak) n
def x7(k:Nat):aJ×bQ×aB:=(AP k).getD (0,p0,UU)
def tabs:List (aJ×bQ×aB):=([12,27,28]:List Nat).map x7
def FM:List (Nat×Nat):=([92,240,333]:List Nat).flatMap λC=>(bx C).map λm=>(C,m)
def M2:List (aB×Nat×Nat):=("append_pattern",333,51)::xr.flatMap λx=>x.2.map λy=>(x.1,y.1,y.2)
def ua(T:BT)(x:aB):Option (Option aA):=B1 (de T) jc x
def qn(T:BT)(k:Nat):aB:=(gf T (aF k)).qualname
noncomputable def BM(x:Obj×Nat):Obj:=if x.2==2||x.2==3||x.2==6 then default else x.1
def fO(T:BT)(w:dM):Prop:=
 ((fc 522).map λa=>(T.get a).bind alive)=((fc 522).map λa=>aa (eR T a))/\
 (L9 (de T) jc&&(L9 (de T) nH&&L9 (de T) XK))=af/\B1 (de T) XK "sys.recursionlimit"=aa ak/\
 (ua T "__builtins__",(eR T 4).cls,(eR T 4).dict,(eR T 4).data)=(aa (aa (.ref 4)),.type "module",aa nH,.plain)/\
 (sO.map λx=>(ua T x.1,B1 (de T) nH x.1))=(sO.map λx=>(aa ak,aa (aa x.2)))/\
 ((fc 4).map λi=>(ua T (vm i)).bind λv=>v.bind (M1 T 6))=((fc 4).map λi=>aa (yC i))/\
 (ua T "_POSIX_CLASSES",T.get 97)=(aa (aa (.ref 97)),aa (we w))/\
 (ua T "MalformedPattern",eR T 107)=(aa (aa (.ref 107)),aqg (mX T 107).name (mX T 107).qualname 107 (mX T 107).ns (mX T 107).bases [.type "Exception",.type "BaseException",.type "object"] (mX T 107).hasDict (mX T 107).slotNames (mX T 107).subclasses (mX T 107).abstract (mX T 107).collection (eR T 107).dict ((eR T 107).slots.getD 0 ak) ((eR T 107).slots.getD 1 ak) ((eR T 107).slots.getD 2 ak) ((eR T 107).slots.getD 3 ak) ((eR T 107).slots.getD 5 ak) "Exception.__new__")/\
 (L9 (de T) (mX T 107).ns,B1 (de T) (mX T 107).ns "__init__")=(af,aa ak)
def tw(T:BT):Prop:=
 (FM.map λx=>(gv (de T) (.ref x.1) "__setattr__",plainOver (de T) x.1,takerIn (de T) x.1 (bJ x.2),(vQ (de T) x.1).any (·.hasDict),gv (de T) (.ref x.1) "__getattribute__",gv (de T) (.ref x.1) (bJ x.2),(bx x.1).findIdx? λy=>bJ y==bJ x.2))=
  (FM.map λx=>(aa (aa (.builtin "object.__setattr__")),af,aa ak,af,aa (aa (.builtin "object.__getattribute__")),aa ak,(bx x.1).idxOf? x.2))/\
 ((("_posix_class",46)::("law",52)::("read_ignore_patterns",47)::rb:List (aB×Nat)).map λx=>(ua T x.1,lX (de T) (.ref (aF x.2))))=((("_posix_class",46)::("law",52)::("read_ignore_patterns",47)::rb:List (aB×Nat)).map λx=>(aa (aa (.ref (aF x.2))),af))/\
 (vn.map λx=>(ua T x.1,lX (de T) (.ref x.2.1),L1 (de T) x.2.1,gv (de T) (.ref x.2.1) "__init__",A1 (de T) (.ref (aF x.2.2.1))))=(vn.map λx=>(aa (aa (.ref x.2.1)),af,af,aa (aa (.ref (aF x.2.2.1))),aa (.type "function")))/\
 (M2.map λx=>(gv (de T) (.ref x.2.1) "__getattribute__",gv (de T) (.ref x.2.1) "__getattr__",gv (de T) (.ref x.2.1) x.1,A1 (de T) (.ref (aF x.2.2)),lX (de T) (.ref (aF x.2.2)),(bx x.2.1).all λy=>!(bJ y==x.1)))=
  (M2.map λx=>(aa (aa (.builtin "object.__getattribute__")),aa ak,aa (aa (.ref (aF x.2.2))),aa (.type "function"),af,af))/\
 (gv (de T) (.ref 333) "__getattribute__",gv (de T) (.ref 333) "__getattr__",(vQ (de T) 333).isSome,gv (de T) (.ref 333) "patterns",specialIn (de T) (.ref 316) "__get__",takesIn (de T) (.ref 316),recIn (de T) 316 "property")=
  (aa (aa (.builtin "object.__getattribute__")),aa ak,af,aa (aa (.ref 316)),aa (aa (.builtin "property.__get__")),aa af,aa (.ref (aF 26)::((recIn (de T) 316 "property").getD []).tail))
def pK(T:BT):Prop:=
 ((fc 53).map λk=>((de T).lookup (aF k),(de T).lookup (aF k-1),(eR T (aF k)).data,(eR T (aF k-1)).data,(i6 T (aF k-1))[1]?))=((fc 53).map λk=>(aa (eR T (aF k)),aa (eR T (aF k-1)),.func (gf T (aF k)),.fields (i6 T (aF k-1)),aa (.str (qn T k) (Ly ((i6 T (aF k-1)).getD 1 .none)).2)))/\
 ((fc 53).map λk=>((gf T (aF k)).closure,(gf T (aF k)).globals,(gf T (aF k)).builtins,(gf T (aF k)).scope.isCoroutine,(gf T (aF k)).scope.kind,(gf T (aF k)).scope.names,(gf T (aF k)).code,(gf T (aF k)).scope.isGenerator,(gf T (aF k)).body))=((fc 53).map λk=>([],jc,nH,ag,.function,(b7 k).tb,.ref (aF k-1),cQ k 47,.stmts (lJ k)))/\
 (([12,27,28]:List Nat).map λk=>(AP k,(qn T k++(".<locals>.":aB))++(if(b7 k).n7 then("<lambda>":aB)else("<genexpr>":aB)),(eR T (aF k-1)).cls,(i6 T (aF k-1))[11]?,(i6 T (aF k-1)).getD 11 .none,(i6 T (aF k-1)).getD 18 .none,(i6 T (aF k-1)).getD 7 .none,(i6 T (aF k-1)).getD 9 .none,(i6 T (aF k-1)).getD 10 .none))=
  (([12,27,28]:List Nat).map λk=>(aa (x7 k),(x7 k).2.2,.type "code",aa (.ref (x7 k).1),.ref (x7 k).1,.str (Ly ((i6 T (aF k-1)).getD 18 .none)).1 (Ly ((i6 T (aF k-1)).getD 18 .none)).2,.int (FL ((i6 T (aF k-1)).getD 7 .none)).1 (FL ((i6 T (aF k-1)).getD 7 .none)).2,.bool ((i6 T (aF k-1)).getD 9 .none==.bool af),.int (FL ((i6 T (aF k-1)).getD 10 .none)).1 (FL ((i6 T (aF k-1)).getD 10 .none)).2))/\
 ∀(p:Fo) (pa:Params) (a b c d e:aA),((fc 53).map λk=>peek (de T) ⟨p,pa⟩ (Ld (gf T (aF k)) ⟨[a,b,c,d,e].take (dO k-(kK k).length),[]⟩))=(fc 53).map λk=>aa (((b7 k).ns.take (dO k)).zip ([a,b,c,d,e].take (dO k-(kK k).length)++kK k))
def rk(T:BT)(w:dM):Prop:=
 (staticsOk (anM pw.main.body) (pv w.params) (HT T)&&(namesBound pw (HT T)&&(laidKept (pv w.params) (HT T)&&((HT T).accountedOkI (anM pw.main.body)&&((HT T).isNs jc&&((HT T).isNs nH&&(HT T).bmainOk))))))=af/\(HT T).bltView=bltViewBooted/\
 ((pv w.params).objs.toList.take 11).zipIdx.map BM=((HT T).objs.toList.take 11).zipIdx.map BM/\
 (TB.map λP=>(eR T P,(eR T (P+4)).cls,(eR T (P+4)).data,(i6 T (P+4))[11]?))=(TB.map λP=>(tC #[],.type "code",.fields (i6 T (P+4)),aa (.ref P)))/\
 ((gf T 521).name,(gf T 521).qualname,pw.theDef "law",(gf T 521).params.defaults,(gf T 521).defaults,kwWritten? (gf T 521).params.kwonlyargs (gf T 521).params.kw_defaults,(gf T 521).kwdefaults)=(("law":aB),("law":aB),aa ((gf T 521).params,lJ 52,(gf T 521).scope),([]:List aH),nC,aa ([]:List (aB×aH)),nC)/\
 ((pv w.params).objs.size,(pv w.params).nsMap jc "__annotations__",(pv w.params).isNs jc)=(11,aa (.ref 6),af)
def yI(w:dM)(os:dE):BT:=vJ (MZ w os p0)
set_option maxHeartbeats 0 in
theorem va(w:dM)(os:dE):fO (yI w os) w/\tw (yI w os)/\pK (yI w os)/\rk (yI w os) w:=⟨⟨by kernel_rfl,by kernel_rfl,by kernel_rfl,by kernel_rfl,by kernel_rfl,by kernel_rfl,by kernel_rfl,by kernel_rfl,by kernel_rfl⟩,⟨by kernel_rfl,by kernel_rfl,by kernel_rfl,by kernel_rfl,by kernel_rfl⟩,⟨by kernel_rfl,by kernel_rfl,by kernel_rfl,λp pa a b c d e=>by kernel_rfl⟩,⟨by kernel_rfl,by kernel_rfl,by kernel_rfl,by kernel_rfl,by kernel_rfl,by kernel_rfl⟩⟩
def WT(T:BT)(w:dM)(os:dE)(ng:Nat):Wd:={prog:=pw,w:=w,H0:=HT T,XQ:=os,gm:=(HT T).nsMap jc,bm:=(HT T).nsMap nH,fr:=de T,tabs:=tabs,ng:=ng}
theorem fS{α β:Type}{f g:α->β}{l:List α}(h:l.map f=l.map g){a:α}(b:a∈l):f a=g a:=List.map_inj_left.mp h a b
theorem QR{K:y6}(X:K.In h)(G:h.Ns N mg)(e:B1 K N n=aa (aa v)):mg n=aa v:=by
 obtain⟨o,es,i,a,hd,_,hf⟩:=G;revert e;unfold B1;cases q:K.lookup N with
 |none=>exactλe=>aN e
 |some c=>
  cases a.symm.trans (X _ _ q);cases o with|mk c d f g=>cases hd;show(match es.toList.find? (·.key.isStr n)with|some e=>_|none=>_)=_->_;cases b:es.toList.find? (·.key.isStr n)with
  |some j=>exactλe=>by cases e;rw[<-hf];unfold nsFind FW;rw[<-acu,b];rfl
  |none=>exactλe=>by dsimp only at e;split at e<;>cases e
theorem Aw{α β:Type} [BEq α] [LawfulBEq α]{a:α}{b:β}{l:List (α×β)}(h:l.lookup a=aa b):(a,b)∈l:=by
 induction l with
 |nil=>exact aN h
 |cons x l ih=>rw[sa]at h;cases q:a==x.1 with|true=>rw[q]at h;exact bt q▸aM h▸.head _|false=>rw[q]at h;exact .tail _ (ih h)
theorem QS{f:Nat->Obj}{l:List Nat}(h:(l.map λa=>(a,f a)).lookup a=aa o):a∈l/\o=f a:=(ey.mp (Aw h)).elim λb x=>have e:=aY x.2;⟨e.1▸x.1,e.2.symm.trans (aj f e.1)⟩
section
variable{T:BT}{os:dE}{a:Nat}
theorem rm(L:fO T w)(h:a<522):(HT T).get? a=aa (eR T a):=by have e:=fS L.1 (nA.mpr h);cases q:T.get a with|none=>rw[q]at e;exact aN e|some o=>rw[q]at e;exact(Y4 h q).trans e
theorem z9(h:(de T).lookup a=aa o):a<522/\a∉TB/\o=eR T a:=
 have y:=kj.mp (QS h).1
 ⟨nA.mp y.1,(λq=>bb ((aj (!·) (ed.mpr q)).symm.trans y.2)),(QS h).2⟩
theorem pR(L:fO T w):(de T).In (HT T):=λa o h=>(z9 h).2.2▸rm L (z9 h).1
theorem tL(L:fO T w):(HT T).isNs jc=af/\(HT T).isNs nH=af/\(HT T).isNs XK=af:=
 have z:=aP L.2.1
 ⟨JH (pR L) z.1,JH (pR L) (aP z.2).1,JH (pR L) (aP z.2).2⟩
theorem pU(L:fO T w)(h:ua T x=aa (aa v)):(HT T).nsMap jc x=aa v:=QR (pR L) (.of_isNs (tL L).1) h
theorem KT(h:(P,p,q)∈tabs):tabs.lookup P=aa (p,q)/\q=vC P:=aY (fS (show(tabs.map λx=>(tabs.lookup x.1,x.2.2))=tabs.map λx=>(aa x.2,vC x.1)from by kernel_rfl) h)
theorem FP(L:fO T w):aT (WT T w os ng)where
 glob:=.of_isNs (tL L).1
 Bn:=.of_isNs (tL L).2.1
 lim:=⟨_,.of_isNs (tL L).2.2,Ws (pR L) (.of_isNs (tL L).2.2) L.2.2.1⟩
 size:=DU _ _ _
 full:=λb hb=>aj Option.isSome (rm L hb)
 fP:=pR L
 Fx:=λa o h=>⟨(z9 h).1,(z9 h).2.1⟩
 xP:=λP p q h=>(KT h).2
 Lh:=λP p q i g h f=>(aY (aM ((KT h).1.symm.trans (KT f).1))).1
 JK:=λP c=>(gK.mp (ew.mp (show(TB.all λP=>(tabs.lookup P).isSome)=af by kernel_rfl) P c)).elim λx h=>⟨x.1,x.2,Aw h⟩
 bmain:=λP c=>
  have e:=aY L.2.2.2.1;have d:=aY (aY e.2).2
  ⟨4,eR T 4,pU L e.1,eX rfl,eX rfl,((by rintro rfl;exact bb (ew.mp (show(TB.all λP=>!(cQ 4 P))=af by kernel_rfl) 4 c))),rm L (eX rfl),(aY e.2).1,d.1,d.2⟩
theorem VG(L:fO T w):ii (WT T w os ng):=λx v h=>
 have e:=aY (fS L.2.2.2.2.1 h)
 ⟨Ws (pR L) (.of_isNs (tL L).1) e.1,QR (pR L) (.of_isNs (tL L).2.1) e.2⟩
theorem agX{X:aJ->Prop}(h:∀v d,f v=aa d->bq X H d v):∀{vs:List aA} {ds:List D},Xj f vs=aa ds->a9 X H ds vs:=λ{vs}=>by induction vs with|nil=>exactλ{x} e=>aM e▸.nil|cons v vs ih=>intro ds e;obtain⟨d,c,b⟩:=cG.mp (e);obtain⟨g,a,rfl⟩:=hJ.mp b;exact .cons (h v d c) (ih a)
theorem Iu{α:Type}{x:Option α}{y:α}(h:cond b x ak=aa y):b=af/\x=aa y:=by cases b with|true=>exact⟨rfl,h⟩|false=>exact aN h
def DH:=λT=>(∀{w} (L:fO T w) (n:Nat),∀v d,M1 T n v=aa d->bq (λb=>FB<=b) (HT T) d v:Prop)
def QT:=vT DH nI
theorem ac5:DH QT:=λ{w} L n=>by
 induction n with
 |zero=>exactλv d e=>aN e
 |succ n ih=>
  intro v d e;cases v with
  |int=>exact aM e▸⟨_,rfl⟩
  |bytes b t=>have e:=Iu e;exact aM e.2▸⟨b,t,rfl,rfl,by rw[aW];exact cH e.1⟩
  |ref a=>
   revert e;show(match eR QT a with|⟨.type ty,ak,.seq ai _,sl⟩=>_|_=>_)=_->_;cases q:eR QT a with|mk g di da o=>cases g with|type g=>(cases di with|none=>(cases da with|seq ai l=>{intro e;have e:=Iu e;have k:=aP e.1;have j:=aP k.2;obtain⟨p,m,f⟩:=cG.mp e.2;have lt:=cH k.1;have hs:bG (HT QT) g a ai.toList:=⟨l,(rm L lt).trans (aj aa (q.trans (by rw[Zz (gP.mp j.1)]))),cH j.2⟩;have h:=agX ih m;cases c:g=="list"with|true=>rw[c]at f;exact aM f▸⟨a,ai.toList,rfl,nD.mpr lt,bt c▸hs,h⟩|false=>rw[c]at f;have i:=Iu f;exact aM i.2▸⟨a,ai.toList,rfl,nD.mpr lt,bt i.1▸hs,h⟩}|_=>exactλe=>aN e)|some=>exactλe=>aN e)|_=>exactλe=>aN e
  |_=>exact aN e
theorem ajO{T}:DH T:=@yi _ DH _ @ac5 T
theorem ajP(L:fO T w):Ak (WT T w os ng) yC:=λi=>by
 have z:∀j,j<4->∃v,(WT T w os ng).gm (vm j)=aa v/\bq (λb=>FB<=b) (WT T w os ng).H0 (yC j) v:=λj a=>by obtain⟨u,e,d⟩:=cG.mp (fS L.2.2.2.2.2.1 (nA.mpr a));obtain⟨v,rfl,c⟩:=cG.mp d;exact⟨v,pU L e,ajO L 6 v _ c⟩
 match i with|0=>exact z 0 (eX rfl)|1=>exact z 1 (eX rfl)|2=>exact z 2 (eX rfl)|i+3=>exact z 3 (eX rfl)
theorem abL(knd:KeyKind pw w (List UInt8))(k:List UInt8):∀{a:List (aH×aH)} {t:Nat},∃z,z=((jh knd (jx a t)).find? λe=>sX k e.key).map (·.val)/\
  ((a.map λr=>(((e9 r.1).getD []).map bR,((e9 r.2).getD []).map bR)).lookup (k.map bR)).elim (z=ak) λc=>∃b t,z=aa (.bytes b t)/\b.toList.map bR=c:=λ{a}=>by
 induction a with
 |nil=>exactλ{t}=>⟨_,rfl,rfl⟩
 |cons r a ih=>
  intro t;refine⟨_,rfl,?_⟩;have e:(jh knd (jx (r::a) t)).find? (λe=>sX k e.key)=(match sX k (.bytes ((e9 r.1).getD []).toArray t)with|true=>aa ⟨knd.hash ((e9 r.1).getD []),.bytes ((e9 r.1).getD []).toArray t,.bytes ((e9 r.2).getD []).toArray (t+1)⟩|false=>(jh knd (jx a (t+2))).find? λe=>sX k e.key):=se;rw[e,dB,sa];by_cases q:k=(e9 r.1).getD []
  ·rw[show sX k (.bytes ((e9 r.1).getD []).toArray t)=af from by unfold sX;exact gP.mpr q.symm,q,kX];exact⟨_,_,rfl,rfl⟩
  ·rw[show sX k (.bytes ((e9 r.1).getD []).toArray t)=ag from by unfold sX;exact fX (jS q),fX λh=>q (zg (λx x=>uD.mp)|>.mp h)];obtain⟨z,rfl,h⟩:=@ih (t+2);exact h
theorem agY(L:fO T w):∃ad f,uZ (WT T w os ng) ad f:=by
 have e:=aY L.2.2.2.2.2.2.1;have g:(HT T).get? 97=aa (we w):=Y4 (eX rfl) e.2;have hp:(l7.map λr=>(((e9 r.1).getD []).map bR,((e9 r.2).getD []).map bR))=ID:=by kernel_rfl
 have h:(ID.all λx=>iX x.2.length aI)=af:=by kernel_rfl
 have d:∀k:List UInt8,(kn (k.map bR)).elim (FW (jd pw w).is (jh (jd pw w) (jx l7 320)).toArray k=ak) λc=>∃b t,FW (jd pw w).is (jh (jd pw w) (jx l7 320)).toArray k=aa (.bytes b t)/\b.toList.map bR=c:=λk=>by obtain⟨z,a,h2⟩:=abL (jd pw w) k;rw[hp]at h2;have j:FW (jd pw w).is (jh (jd pw w) (jx l7 320)).toArray k=z:=a▸aj (RF ara) acu.symm;rw[j];exact h2
 refine⟨97,FW (jd pw w).is (jh (jd pw w) (jx l7 320)).toArray,pU L e.1,⟨eX rfl,eX rfl⟩,eX rfl,⟨we w,_,_,g,⟨rfl,rfl,rfl⟩,rfl,λe i=>?_,λk=>rfl⟩,λk q=>?_,λk c q=>?_⟩
 ·obtain⟨x,hx,rfl⟩:=ey.mp (zm.mp i);exact⟨x.1,R3.2.2 x hx,rfl⟩
 ·have:=d k;rw[q]at this;exact this
 ·have:=d k;rw[q]at this;obtain⟨b,t,a,h2⟩:=this;refine⟨b,t,a,h2,?_⟩;have:=cH (ew.mp h _ (Aw q));rw[<-h2,aW]at this;exact this
def DI:=λT=>(∀{w} {os} {ng} (L:fO T w),Ao (WT T w os ng):Prop)
def IM:=vT DI nI
theorem ac6:DI IM:=λ{w} {os} {ng} L=>
 have e:=aY L.2.2.2.2.2.2.2.1;have f:=aY L.2.2.2.2.2.2.2.2;have n:=.of_isNs (JH (pR L) f.1)
 ⟨pU L e.1,⟨_,_,_,_,_,_,_,_,_,_,_,_,_,_,_,(HT IM).nsMap (mX IM 107).ns⟩,⟨(rm L (eX rfl)).trans (aj aa e.2),n⟩,Ws (pR L) n f.2⟩
theorem ajQ{T}:DI T:=@yi _ DI _ @ac6 T
end
noncomputable def fnB(σ:Sc)(a:Nat):Bool:=decide (σ.tb.map (·.1)).Nodup&&(σ.tb.all (λx=>!(x.2== .free))&&(decide σ.ns.Nodup&&(iX a σ.ns.length&&(σ.ns.take a).all (λx=>σ.tb.lookup x==aa .local||σ.tb.lookup x==aa .cell))))
def BN(k:Nat):Bool:=!(cQ k 47)&&((b7 k).fs.isNone&&(!(cQ k 50)&&(cQ (dO k+kA k) (b7 k).ns.length&&(cQ (gY k) (dO k)&&eA k 53))))
def YJ(C k m:Nat):Bool:=!(cQ k 47)&&(decide ((b7 k).fs=aa (C,dO k))&&(cQ m (dO k)&&(cQ (gY k+(kJ k).length) (dO k)&&(decide (kA k=(bx C).length+(kA k-(bx C).length))&&(cQ (dO k+kA k) (b7 k).ns.length&&(decide ((b7 k).ns[0]?=aa ("self":aB))&&(MP (b7 k) (dO k) C&&eA k 53)))))))
set_option maxHeartbeats 0 in
theorem AQ:((fc 53).all λk=>fnB (b7 k) (dO k)&&(iX (dO k-(kK k).length) 5&&(cQ k 47||(t8 (b7 k) 20 (lJ k)).isSome)))=af/\(rb.all (λx=>BN x.2)&&(xr.all (λx=>x.2.all λy=>BN y.2)&&(BN 26&&(BN 52&&vn.all λx=>YJ x.2.1 x.2.2.1 x.2.2.2))))=af:=⟨by kernel_rfl,by kernel_rfl⟩
theorem abM{K:y6}(a:K.In s.heap)(e:∀M:Bk,peek K ⟨M.prog,M.w.params⟩ (Ld fd args)=aa r):vh s fd args r:=λM A E Q b=>(Looks.of_peek a (e M)).here b
theorem aop:∀(vs:List aA),vs.length<=5->∃a b c d e,[a,b,c,d,e].take vs.length=vs|[],_=>⟨.none,.none,.none,.none,.none,rfl⟩|[a],_=>⟨a,a,a,a,a,rfl⟩|[a,b],_=>⟨a,b,a,a,a,rfl⟩|[a,b,c],_=>⟨a,b,c,a,a,rfl⟩|[a,b,c,d],_=>⟨a,b,c,d,a,rfl⟩|[a,b,c,d,e],_=>⟨a,b,c,d,e,rfl⟩|_::_::_::_::_::_::_,h=>aC h (by simp)
theorem abN(h:AP k=aa x):k∈([12,27,28]:List Nat):=List.mem_map_of_mem (f:=xh) (Aw h)
theorem Ef{a b:Nat}(h:(!cQ a b)=af):a≠b:=λe=>by subst e;rw[Rx]at h;exact bb h
section
variable{T:BT}{os:dE}
def Eg:=λT w os ng k=>(∀(L:fO T w) (c:pK T) (b:k<53),∃a,tJ (WT T w os ng) (b7 k) (aF k) a (dO k)/\a.scope.isGenerator=cQ k 47/\a.body=.stmts (lJ k)/\∀s vs,sK (WT T w os ng).fr s.heap->vs.length+(kK k).length=dO k->vh s a ⟨vs,[]⟩ (((b7 k).ns.take (dO k)).zip (vs++kK k)):Prop)
def Aa:=p8 Eg (aO nI (aO xQ (aO nI (aO nI nI))))
def T3:=Aa.1
def ajR:=Aa.2.1
def agZ:=Aa.2.2.1
def ag0:=Aa.2.2.2.1
def JY:=Aa.2.2.2.2
theorem ag1:Eg T3 ajR agZ ag0 JY:=λL j S=>by
 have i:=nA.mpr S;have e:=aY (fS j.1 i);have m:=aY e.2;have O:=aY m.2;have l:=aY O.2;have f:=aY (fS j.2.1 i);have N:=aY f.2;have K:=aY N.2;have J:=aY K.2;have I:=aY J.2;have H:=aY I.2;have k:=aY H.2;have G:=aY k.2;have r:=aP (ew.mp AQ.1 JY i);have v:=aP r.1;have u:=aP v.2;have t:=aP u.2;have o:=aP t.2;refine⟨gf T3 (aF JY),{obj:=⟨_,e.1,O.1⟩,Mz:=f.1,gl:=N.1,bl:=K.1,co:=J.1,kind:=I.1,names:=H.1,nd:=eX v.1,kinds:=λx hx q=>?_,cd:=⟨_,_,_,_,k.1,m.1,l.1,l.2⟩,tab:=λP p q h=>?_,MB:=eX t.1,npl:=cH o.1,par:=λx hx=>?_},G.1,G.2,λs vs Q R=>?_⟩
 ·have:=ew.mp u.1 x hx;rw[q]at this;exact bb this
 ·have h:=h;have i:=abN h;have g:=aY (fS j.2.2.1 i);have g2:=aY g.2;have F:=aY g2.2;have E:=aY F.2;have D:=aY E.2;have g6:=aY D.2;have C:=aY g6.2;have B:=aY C.2;have z:=aM (g.1.symm.trans h);have c:=z9 m.1;have n:=aj (·.1) z;have ht:=z▸wB (f:=x7) i;have T:=ed.mp (ew.mp (show(tabs.all λx=>TB.contains x.1)=af by kernel_rfl) _ ht);exact⟨ht,⟨_,k.1,_,_,_,_,_,_,_,_,_,rm L c.1,F.1,l.1,E.1.trans (aj (λP=>aa (mF P)) n),D.1.trans (aj mF n),g6.1,C.1,B.1,B.2,λh=>c.2.1 (h▸T)⟩,g2.1.trans (aj (·.2.2) z)⟩
 ·exact((ki _ _).mp (ew.mp o.2 x hx)).imp bt bt
 ·have y:=Nat.eq_sub_of_add_eq R;obtain⟨a,b,c,d,e,A⟩:=aop vs (y▸cH (aP r.2).1);rw[y]at A;rw[<-A];exact abM Q λM=>fS (j.2.2.2 M.prog M.w.params a b c d e) i
theorem Xk{T w os ng k}:Eg T w os ng k:=Bp Eg ag1
theorem EN(L:fO T w)(c:pK T)(b:k<53)(a:k≠47):u9 (WT T w os ng) k where
 rd:=((ki _ _).mp (aP (aP (ew.mp AQ.1 k (nA.mpr b))).2).2).resolve_left λh=>a (ni h)
 ok:=(Xk L c b).imp λd z=>⟨z.1,z.2.1.trans (gL.mpr λh=>a (ni h)),z.2.2⟩
theorem FQ(L:fO T w)(f:pK T)(h:BN k=af):xZ (WT T w os ng) k:=
 have a:=aP h;have d:=aP (aP a.2).2;have c:=aP d.2;have b:=aP c.2;have e:=(mz _).mp d.1
 {EN L f (cH b.2) (Ef a.1)with ne:=Ef a.1,fs:=wt.mp (aP a.2).1,e:=aj (cond · [D.none] []) e,e':=aj (cond · [nC] []) e,p:=ni c.1,n:=ni b.1}
def Eh:=λk C m=>(∀{T} {w} {os} {ng} (L:fO T w) (a:pK T) (h:YJ C k m=af),Lu (WT T w os ng) C k m:Prop)
def Jg:=tT Eh (aO nI (aO nI nI))
def T4:=Jg.1
def ajS:=Jg.2.1
def ajT:=Jg.2.2
theorem ag2:Eh T4 ajS ajT:=λ{T} {w} {os} {ng} L g h=>
 have a:=aP h;have f:=aP (aP a.2).2;have e:=aP f.2;have d:=aP e.2;have h6:=aP d.2;have c:=aP h6.2;have b:=aP c.2
 {EN L g (cH b.2) (Ef a.1)with ne:=Ef a.1,fs:=eX (aP a.2).1,m:=ni f.1,n:=ni e.1,p:=⟨_,eX d.1⟩,l:=ni h6.1,s:=eX c.1,no:=TZ b.1,x:=λX h=>by unfold kJ kK;cases cQ T4 50 with|true=>exact .cons rfl .nil|false=>exact .nil}
theorem aoq{k C m}:Eh k C m:=@Bo _ _ _ Eh _ @ag2 k C m
theorem T5(d:tw T)(h:(nm,C,k)∈M2):MethAt (de T) C nm (aF k):=
 have e:=aY (fS d.2.2.2.1 h);have c:=aY (aY e.2).2;have b:=aY c.2;have a:=aY b.2
 ⟨e.1,(aY e.2).1,c.1,b.1,a.1,a.2⟩
theorem R4(h:x∈bx C):(C,x)∈FM:=by
 unfold FM;refine Cz.mpr ⟨C,?_,wB h⟩;revert h;unfold bx;cases a:C==92 with|true=>exactλ_=>ae (bt a) (.head _)|false=>cases b:C==240 with|true=>exactλ_=>ae (bt b) (.tail _ (.head _))|false=>cases c:C==333 with|true=>exactλ_=>ae (bt c) (.tail _ (.tail _ (.head _)))|false=>exactλh=>aC h gM
end
section
variable{T:BT}{os:dE}
def xn(tt:Bool)(W:Wd):Prop:=∀n F,(∀r,F 47 r=.no\/(tt=af/\0<n/\F 47 r=E9 r))->∀{σ a x p b r t},σ.ci "list"=af->σ.ci "read_ignore_patterns"=af->SX W n F σ a x->NS a->SX W n F σ (.Call (.Name "list" p) [.Call (.Name "read_ignore_patterns" b) [a] [] r] [] t) (.call 47 [x])
def C3:=λT w os ng=>(∀{tt} (L:fO T w) (b:tw T) (a:pK T) (td:xn tt (WT T w os ng)),Av (WT T w os ng) tt:Prop)
def C4:=mo C3 (aO nI (aO xQ (aO nI nI)))
def HQ:=C4.1
def abO:=C4.2.1
def aaP:=C4.2.2.1
def aaQ:=C4.2.2.2
theorem aaR:C3 HQ abO aaP aaQ:=λ{tt} L d f td=>
 have l:=aP (aP AQ.2).2;have j:=aP l.2;have o:=aP j.2;have pk:eA 46 53=af/\eA 51 53=af:=⟨rfl,rfl⟩
 {K:=FP L,B:=VG L,G:=ajP L,Z:=agY L,R:=ajQ L,td:=td,SA:=λC i x h=>have e:=aY (fS d.1 (R4 (iQ h)));have c:=aY e.2;have b:=aY c.2;have a:=aY b.2;⟨e.1,c.1,b.1,a.1⟩,fn:=λnm k h=>have e:=aY (fS d.2.1 (.tail _ (.tail _ (.tail _ h))));⟨pU L e.1,e.2,FQ L f (ew.mp (aP AQ.2).1 _ h)⟩,cl:=λnm C k m h=>have e:=aY (fS d.2.2.1 h);have c:=aY e.2;have b:=aY c.2;have a:=aY b.2;⟨pU L e.1,c.1,b.1,a.1,a.2,aoq L f (ew.mp o.2 _ h)⟩,mt:=λnm ks C k h n=>⟨T5 d (.tail _ (Cz.mpr ⟨_,h,ey.mpr ⟨_,Aw n,rfl⟩⟩)),FQ L f (ew.mp (ew.mp l.1 _ h) _ (Aw n))⟩,pr:=have e:=aY d.2.2.2.2;have c:=aY e.2;have b:=aY c.2;have a:=aY b.2;have g:=aY a.2;have e6:=aY g.2;⟨316,_,e.1,c.1,b.1,a.1,g.1,e6.1,e6.2,FQ L f j.1⟩,attr:=λC m i h=>have p:m∈bx C:=(by by_cases q:m∈bx C;exact q;rw[List.idxOf?_eq_none_iff.mpr q]at h;exact aN h);have e:=aY (fS d.1 (R4 p));have c:=aY e.2;have b:=aY c.2;have a:=aY b.2;have g:=aY a.2;have e6:=aY g.2;⟨g.1,(by have z:=a.1;show∃cd,vQ (de HQ) C=aa cd/\_;cases q:vQ (de HQ) C with|none=>rw[q]at z;exact bb z|some cd=>rw[q]at z;exact⟨cd,rfl,z⟩),e6.1,e6.2.trans h⟩,ln:=have e:=aY (fS d.2.1 (.head _));⟨pU L e.1,e.2,EN L f (cH pk.1) (eX rfl)⟩,ap:=⟨T5 d (.head _),EN L f (cH pk.2) (eX rfl)⟩}
theorem QU{T w os ng}:C3 T w os ng:=@rH _ _ _ _ C3 _ @aaR T w os ng
theorem amr(a:tw T)(L:fO T w):(WT T w os ng).gm "law"=aa (.ref (aF 52)):=pU L (aY (fS a.2.1 (.tail _ (.head _)))).1
end
theorem ag3{P:Ev D->Prop}(a:P .no)(b:∀l ys,d=.list l->gS l [.val (.list l),.U]=.ok ys->ys.length<=aI->P (.ok (.list (ys.map .bytes)))):P ((E9 [.val d]).bind λo=>iH o.1):=by
 cases d with
 |list l=>
  have h:=b l;show P ((((gS l [.val (.list l),.U]).calm.bind λys=>Ev.of (gd (ys.length<=aI) (aa (.ret (.list (ys.map .bytes)),[]))))).bind λo=>iH o.1);revert h;cases gS l [.val (.list l),.U]with
  |ok ys=>
   intro h;by_cases q:ys.length<=aI
   ·show P ((Ev.of (gd (ys.length<=aI) (aa (Fl.ret (.list (ys.map .bytes)),[])))).bind λo=>iH o.1);unfold gd;exact ae (gN q) (h ys rfl rfl q)
   ·show P ((Ev.of (gd (ys.length<=aI) (aa (Fl.ret (.list (ys.map .bytes)),[])))).bind λo=>iH o.1);unfold gd;exact ae (lQ q) a
  |exc=>exactλx=>a
  |no=>exactλx=>a
 |_=>exact a
section
variable{T:BT}{os:dE}
theorem ag4(K:aT W)(B:ii W)(j:W.gm "read_ignore_patterns"=aa (.ref fa))(L:lX W.fr (.ref fa)=af)
  (hc:tt=af->∀{n A X s l ys v E},yl W n A X s->0<n->bq X s.heap (.list l) v->gS l [.val (.list l),.U]=.ok ys->ys.length<=aI->ay W.M A (call (.ref fa) [v]) (λg m=>ay W.M A (call (.type "list") [g]) (λu s'=>Nx W s s'/\bq X s'.heap (.list (ys.map .bytes)) u) E m) E s):xn tt W:=
 λn F O {σ a x p S r t} g1 g2 hx hs=>λq E s f P=>
 have G:=.cons hx hs .nil
 J.bind
  (λQ E k=>lg (pi K B P.h (ae f g1) (v:=.type "list") (by decide+kernel) (tH (by rfl) (eK (ba (lg (sB K P.h (ae f g2) j (xl K L G.plain.2 k))) (λv C k=>hK k) λy y=>id) (by rfl)))))
  (uU G q E s f P) λT vs C I=>by
  rw[Tr.AK];obtain⟨c,D,H⟩:=I;refine(aa2.mp H).elim λv w=>?_;subst w;obtain⟨d,rfl⟩:=aa2.mp (D.length.symm.trans H)
  ·show J E (((F 47 [.val d]).bind λo=>iH o.1)) _ _ C;refine(O [.val d]).elim (λe=>ae e trivial) λe=>ae e.2.2 (ag3 trivial λl ys hd N b=>?_);subst hd;refine⟨c.i.fP K,ba (hc e.1 (P.nx c).out e.2.1 (D.elim λR z=>z.elim λt z=>ae ((bD z.1).1) z.2.1) N b) (λg m z=>ba z (λu s' z=>⟨c.trans z.1,z.2⟩) λy y z=>z) λy y z=>z⟩
def FR:cO:=(lJ 47).headD (.Pass p0)
def Bg(s:cO):aH×aH×List cO:=match s with|.For t i b _ _=>(t,i,b)|.Expr e _=>(e,e,[])|_=>(.Name "" p0,.Name "" p0,[])
noncomputable def inY(e:aH):aH:=match e with|.Yield (aa x) _=>x|e=>e
def yS:cO:=(Bg FR).2.2.getLastD (.Pass p0)
theorem ajU:lJ 47=[.For (.Name "line" (Bg FR).1.pos) (.Name "f" (Bg FR).2.1.pos) (yE++[.Expr (.Yield (aa (.Name "line" (inY (Bg yS).1).pos)) (Bg yS).1.pos) yS.pos]) [] FR.pos]:=by kernel_rfl
theorem k47:(b7 47).fs=ak/\(b7 47).ns.length=2/\(b7 47).ns[0]?=aa ("f":aB)/\(b7 47).fK "f"=af/\(b7 47).ns[1]?=aa ("line":aB)/\(b7 47).fj "line"=af/\(b7 47).fK "line"=af/\dO 47=1/\kK 47=[]/\(t8 (b7 47) 20 yE).isSome=af:=⟨by kernel_rfl,by kernel_rfl,by kernel_rfl,by kernel_rfl,by kernel_rfl,by kernel_rfl,by kernel_rfl,by kernel_rfl,by kernel_rfl,by kernel_rfl⟩
theorem ajV(L:fO T w)(d:tw T)(c:pK T):xn af (WT T w os ng):=by
 have z:=k47;have e:=aY (fS d.2.1 (.tail _ (.tail _ (.head _))));have td:∀{tt:Bool} {ng:Nat} hc,xn tt (WT T w os ng):=λ{tt ng} hc=>ag4 (FP L) (VG L) (pU L e.1) e.2 hc;have hb:∀k,gG (WT T w os k) 0 (FN 0) (b7 47) yE mQ:=λk=>(gK.mp z.2.2.2.2.2.2.2.2.2).elim λg h=>by unfold mQ;exact ae h (TY (Yv (QU L d c (td (tt:=ag) (λh _ _ _ _ _ _ _ _ _ _ _ _ _ _ _ _=>bb h)))) 20 _ g h)
 obtain⟨y,f,q,t,a⟩:=Xk (k:=47) L c (eX rfl);rw[z.2.2.2.2.2.2.2.1]at f a;exact td λx=>λ{n A X s l u v E} o j i r m=>ac4 (FP L) f q (t.trans (aj arh ajU)) hb z.1 z.2.1 z.2.2.1 z.2.2.2.1 z.2.2.2.2.1 z.2.2.2.2.2.1 z.2.2.2.2.2.2.1 (λs vs p h=>by have b:=a s vs p (am z.2.2.2.2.2.2.2.2.1 h);simp only [z.2.2.2.2.2.2.2.2.1,bu]at b;exact b) o j i r m
end
abbrev iN(T:BT)(os:dE):aL:=⟨HT T,#[],qP,990,os⟩
noncomputable abbrev rE:RowW:=(GJ.row).toRowW
section
variable{T:BT}{os:dE}
theorem ams(d:rk T w)(b:aJ)(o:Obj)(h:(pv w.params).get? b=aa o)(a:¬theTopsOwn (pv w.params) b):(HT T).get? b=aa o:=by
 have q:=aY d.2.2.2.2.2;have c:=aY q.2;have hb:=q.1▸eM h;have h2:=λe=>a (.inr (.inl e));have f:=λe=>a (.inl e);have h6:b≠6:=λe=>a (.inr (.inr ((PJ c.2 _).trans (ae e c.1))));have e:=aj (λl:List Obj=>l[b]?) d.2.2.1;have k:∀(l:List Obj),((l.take 11).zipIdx.map BM)[b]?=l[b]?:=λl=>by refine ae (kT) ?_;rw[acg,GP hb,Option.map_map];refine(gu (aj RF (funext λo=>?_)) _).trans Option.map_id';show BM (o,0+b)=o;unfold BM;simp only [dD,show(b==2)=ag from fX h2,show(b==3)=ag from fX f];refine ae (show(b==6)=ag from fX h6) ?_;rfl
 simp only [k,k,B3,B3]at e;unfold anQ at h⊢;exact am e h
def C5:=λT w os=>(∀(b:rk T w) (run:∃n a,L8 (lY jm) pw w n (.single (wd w os) (Ft pw))=.running (.single (iN T os) a)/\L5 a=af),TopRan pw w (wd w os) (iN T os):Prop)
def HA:=tT C5 (aO nI (aO xQ nI))
def abP:=HA.1
def abQ:=HA.2.1
def aaS:=HA.2.2
theorem aaT:C5 abP abQ aaS:=λc run=>by
 have z:=aP c.1;have e:=aP (aP z.2).2;have d:=aP e.2;have b:=aP d.2;have a:=aP b.2;obtain⟨bm,ob,k,_,j,i,h,_⟩:=Heap.bmainOk_spec a.2;exact⟨run,rfl,Shared.rest_eq rfl,ams c,Heap.accountedI_of_ok d.1,statics_of_ok z.1,Pin.keysAreStrs_of b.1,λx hx=>(Pin.builtinOf_eq a.1 x).trans (Heap.of_bltView a.1 c.2.1 x hx),
  ⟨bm,ob,(PJ b.1 _).trans k,j,i,h⟩,λg f=>(aC f (Array.not_mem_empty g)),names_of_bound (aP z.2).1,laid_of_kept e.1⟩
theorem aeX{T w os}:C5 T w os:=Bo C5 aaT
def DJ:=λT=>(∀{w} (L:fO T w) (c:tw T) (b:pK T) (a:rk T w),isTheDefsW pw (HT T) "law":Prop)
def IN:=vT DJ nI
theorem ac7:DJ IN:=λ{w} L n i m=>by have a:52∈fc 53:=nA.mpr (eX rfl);have l:=aY (aY (fS i.1 a)).2;have k:=aY l.2;have f:=aY (fS i.2.1 a);have h:=aY f.2;have e:=aY h.2;have j:=aY (aY (aY (aY (aY e.2).2).2).2).2;have g:=aY m.2.2.2.2.1;have g2:=aY g.2;have d:=aY g2.2;have c:=aY d.2;have b:=aY c.2;have g6:=aY b.2;exact⟨521,eR IN 521,gf IN 521,_,lJ 52,_,(PJ (tL L).1 _).trans (pU L (aY (fS n.2.1 (.tail _ (.head _)))).1),rm L (eX rfl),k.1,d.1,g.1,g2.1,rfl,j.2,rfl,h.1,f.1,e.1,.inl ⟨c.1,b.1⟩,[],g6.1,.inl ⟨rfl,g6.2⟩⟩
theorem ajW{T}:DJ T:=@yi _ DJ _ @ac7 T
end
theorem P8:(λR (x:GF) xs=>(Hv R (x::xs) .int,alq R (.list xs) (.list .int)))=λR x xs=>(alq R x .int&&Hv R xs .int,Hv R xs .int||ag):=by kernel_rfl
theorem ag5:Hv R xs .int=af->∃l:List Int,xs=l.map .int:=by
 induction xs with
 |nil=>exactλz=>⟨[],rfl⟩
 |cons x xs ih=>intro h;have h:=aP ((aY (gu (gu (gu P8 R) x) xs)).1.symm.trans h);obtain⟨l,rfl⟩:=ih h.2;have y:=h.1;clear h;revert y;cases x with|int i=>exactλz=>⟨i::l,rfl⟩|_=>exact bb
noncomputable def Bh:List Int->kR->List aA:=λl=>cX (λx=>[]) (λi x a t=>.int i t::a (t+1)) l
noncomputable def aor(i:Int)(t:kR)(o:Option (List aA×aL)):Option (List aA×aL):=match o with|some r=>aa (.int i t::r.1,r.2)|none=>ak
noncomputable def aos(o:Option (List aA×aL)):Option (List aA×aL):=match(match o with|some r=>aa (mF r.2.heap.objs.size,{r.2 with heap:=r.2.heap.push {cls:=.type "list",data:=.seq r.1.toArray}})|none=>ak)with|some a=>aa ([a.1],a.2)|none=>ak
theorem T6:(λR cl P ord i xs s=>(AY R cl P ord (.int i::xs) s,AY R cl P ord [.list xs] s))=λR cl P ord i xs s=>(aor i s.toks (AY R cl P ord xs {s with toks:=s.toks+1}),aos (AY R cl P ord xs s)):=by kernel_rfl
theorem aeY{ord:List pn->List pn}(l:List Int):∀(s:aL),AY R cl P ord (l.map .int) s=aa (Bh l s.toks,{s with toks:=s.toks+l.length}):=by induction l with|nil=>exactλs=>rfl|cons i l ih=>intro s;refine(aY (gu (gu (gu (gu (gu (gu (gu T6 R) cl) P) ord) i) (l.map .int)) s)).1.trans ?_;have e:s.toks+1+l.length=s.toks+(i::l).length:=r7 ..;rw[ih,<-e];rfl
theorem QV{X:aJ->Prop}(l:List Int):∀(t:kR),a9 X h (l.map D.int) (Bh l t)/\(Bh l t).length=l.length:=by induction l with|nil=>exactλt=>⟨.nil,rfl⟩|cons i l ih=>exactλt=>⟨.cons ⟨t,rfl⟩ (ih _).1,aj (·+1) (ih _).2⟩
def oL(l:List Int)(t:kR):Obj:={cls:=.type "list",data:=.seq (Bh l t).toArray}
def sL(s:aL)(l:List Int):aL:={s with heap:=s.heap.push (oL l s.toks),toks:=s.toks+l.length}
theorem aeZ{ord:List pn->List pn}(l:List Int)(s:aL):AY R cl P ord [.list (l.map .int)] s=aa ([.ref s.heap.objs.size],sL s l):=by refine(aY (gu (gu (gu (gu (gu (gu (gu T6 R) cl) P) ord) 0) (l.map .int)) s)).2.trans ?_;rw[aeY];rfl
section
variable{T:BT}{os:dE}
theorem T7(L:fO T w)(c:rk T w)(h:P∈TB):isCodeTable (HT T) P/\(HT T).get? P=aa (tC #[]):=
 have hb:=aP (ew.mp (show(TB.all λP=>eA P 522&&eA (P+4) 522)=af by kernel_rfl) P h);have e:=aY (fS c.2.2.2.1 h);have b:=aY e.2;have a:=aY b.2
 ⟨⟨P+4,_,_,rm L (cH hb.2),b.1,a.1,a.2⟩,(rm L (cH hb.1)).trans (aj aa e.1)⟩
theorem EO(h:(HT T).get? b=aa o):(sL (iN T os) l).heap.get? b=aa o:=dA _ h
theorem T8:(sL (iN T os) l).heap.get? 522=aa (oL l 990):=by have h:((HT T).push (oL l 990)).get? (HT T).objs.size=aa (oL l 990):=gk _ rfl;rw[DU]at h;exact h
theorem VH(L:fO T w)(c:rk T w):Inv (WT T w os 0) (sL (iN T os) l)where
 kp:=λb o h y=>⟨o,EO h,.refl _ _⟩
 bare:=⟨.of_eq rfl,cy _⟩
 os:=rfl
 tabs:=λP p q h=>
  have a:=ed.mp (ew.mp (show(tabs.all λx=>TB.contains x.1)=af by kernel_rfl) _ h)
  ⟨a,#[],EO (T7 L c a).2,.inl rfl⟩
theorem ajX(L:fO T w)(x:rk T w)(n:Nx (WT T w os 0) (sL (iN T os) l) s'):OldK (sL (iN T os) l).heap s'.heap:=by
 refine⟨λb o h=>?_,λb o h=>let⟨g,a,_⟩:=n.1 b o h id;⟨g,a⟩⟩;obtain⟨g,i,f⟩:=n.1 b o h id;by_cases hb:b∈TB
 ·obtain⟨⟨c,p,vs,u,t,s,r⟩,ht⟩:=T7 L x hb;obtain rfl:o=tC #[]:=aM (h.symm.trans (EO ht));rcases f.2.2.1 with q3|⟨_,es,k,q⟩
  ·rcases f.2.2.2 with q4|⟨_,hn,kG,q1⟩
   ·exact .inl ((Obj.same f.1 f.2.1 q3 q4)▸i)
   ·exact c3 q1 rfl
  ·rcases f.2.2.2 with q4|⟨_,hn,kG,q1⟩
   ·obtain⟨d,q,m⟩:=q;have z:g={tC #[]with data:=.fields (#[]++d)}:=Obj.same f.1 f.2.1 (m.trans (aj (λv=>Data.fields (v++d)) (Hb q).symm)) q4;exact .inr (.inl ⟨⟨c,p,vs,EO u,t,s,r⟩,rfl,#[],d,rfl,i.trans (aj aa z)⟩)
   ·exact c3 q1 rfl
 ·refine .inl (f.same ?_ (.inr hb)▸i);by_cases j:b<FB
  ·exact .inr j
  ·refine .inl λes k q=>?_;have e:=PC (Nat.lt_succ_iff.mp (by
    have:=eM h;rw[show(sL (iN T os) l).heap.objs.size=523 from(HG ..).trans (aj (·+1) (DU ..))]at this;exact this)) (qu j)
   rw[e]at h;have z:=aM (h.symm.trans T8);rw[z]at q;exact c3 q rfl
end
noncomputable def hB(o:Option GF):Bool:=match o with|some (.bool af)=>af|_=>ag
noncomputable def vB(b:Bool):Option GF:=Bool.casesOn b (aa (.bool ag)) (aa (.bool af))
theorem ajY:(λR (xs:List GF)=>WTm.holds R rE.pre {args:=[.list xs]})=λR xs=>hB (vB (!decide ((63:Int)<(xs.length:Int)))):=by kernel_rfl
theorem ac8(h:rE.claim.pre args=af):∃l:List Int,args=[.list (l.map .int)]/\l.length<=63:=by refine(pre_splitW h).elim λc h2=>?_;obtain⟨d,r,rfl,hd,b⟩:=hasAllW_cons c;obtain rfl:=hasAllW_nil b;revert hd h2;cases d with|list xs=>intro hd h2;obtain⟨l,rfl⟩:=ag5 ((qC _).symm.trans ((aY (gu (gu (gu P8 rE.records) .none) xs)).2.symm.trans hd));refine⟨l,rfl,qu λq=>?_⟩;have a:=(gu (gu ajY rE.records) (l.map .int)).symm.trans h2;rw[aW,show decide ((63)<(l.length:Int))=af from gN (jJ.mpr q)]at a;exact bb a|_=>exactλhd x=>by cases(hd)
set_option maxHeartbeats 0 in
theorem LA:GJ.wellSaid=af:=by
 delta arU arV arW looksOpen
 repeat' with_reducible apply look_both
 all_goals decide+kernel
theorem ag6(a b:List GF):rE.claim.post a (.bool af) b=af:=by kernel_rfl
section
variable{T:BT}{os:dE}
theorem ajZ(L:fO T w)(i:tw T)(a:pK T)(g:rk T w)(td:xn af (WT T w os 0))(d:l.length<=63)(c:n=60)(plain:aV (FN (n+1)) 52 [.list (l.map .int)]=.ok (.bool af)):
  ay (bH pw w) callerA (S8 (.ref 521) [.ref 522]) (λv s'=>v=.bool af/\Nx (WT T w os 0) (sL (iN T os) l) s') (λx x=>False) (sL (iN T os) l):=by
 have j:=aeS (QU L i a td) (FQ L a (aP (aP (aP (aP AQ.2).2).2).2).1) (n:=n) (ds:=[.list (l.map .int)]) callerA (sL (iN T os) l) (λx=>False) [.ref 522] ⟨ae c ⟨by decide+kernel,by decide+kernel⟩,rfl,⟨[],rfl,λe f=>aC f gM⟩,VH L g,λb hb=>hb.elim⟩
  (.cons ⟨522,Bh l 990,rfl,id,⟨_,T8,ae ((QV (X:=λx=>False) (h:=HT T) l 990).2) (aw d (by decide+kernel))⟩,(QV l 990).1⟩ .nil)
 rw[plain]at j;exact ba (j) (λv s' h=>⟨h.2,h.1⟩) λx x h=>h.elim
theorem ag7(T:dM->dE->BT)(L:∀w os,fO (T w os) w)(g:∀w os,tw (T w os))(i:∀w os,pK (T w os))(b:∀w os,rk (T w os) w)(td:∀w os,xn af (WT (T w os) w os 0))
  (run:∀w os,(wd w os).asleep->∃n p,L8 (lY jm) pw w n (.single (wd w os) (Ft pw))=.running (.single (iN (T w os) os) p)/\L5 p=af)
  (plain:∀l:List Int,l.length<=63->aV (FN 61) 52 [.list (l.map .int)]=.ok (.bool af)):GJ.Holds:=by
 refine holds_law LA λLA=>⟨LA,⟨[.list [.int 3,.int 1]],by decide+kernel,by decide+kernel⟩,⟨⟨rfl,rfl,rfl,rfl,rfl,by decide+kernel⟩,by decide+kernel,rfl⟩,⟨[.list [.int 3,.int 1]],by decide+kernel,by decide+kernel⟩,λw=>?_⟩;have C:(fencedOpening Kw pw w 1000).map (λs=>(s.heap,s.gens,s.drawn,s.toks))=aa (pv w.params,Array.mk [],qP,Wz):=boot_open (show opening pw=plainProg pw.main.scope.names by rfl) rfl (λs=>by rfl) w;rw[<-aoZ]at C;obtain⟨O,h2,e⟩:=hJ.mp C;obtain⟨s,M,u⟩:=cG.mp h2;have A:=aqY M;refine⟨⟨s,A⟩,λs' N=>?_⟩;obtain rfl:s'=s:=aqZ N A;have z:=NP (fence_lifeW u) A.life;obtain⟨hp,S,U,tk,os⟩:=O;obtain⟨rfl,e⟩:=aY e;obtain⟨rfl,e⟩:=aY e;obtain⟨rfl,rfl⟩:=aY e;have r:=aeX (b w os) (run w os z);have L:=L w os;have g:=g w os;have i:=i w os;have b:=b w os;have td:=td w os;generalize T w os=T at*;have j:=NP r.2.1 z;refine⟨wd w os,u,rfl,iN T os,r,λn I=>ae (bB.mp (I)) (ajW L g i b),λx hx=>(aC hx gM),λx hx=>(aC hx gM),?_⟩;refine ClaimW.callFrom_of_specG (tree:=λvs=>do match<-nsGet Y7 (fY "law")with
   |some f=>do ret (<-S8 f vs)
   |none=>JA "claim.caller:no-such-global") j rfl λy o m ord D=>?_
 obtain⟨l,rfl,t⟩:=ac8 o;have h:=aeZ (R:=rE.records) (cl:=classAt (HT T)) (P:=w.params) (ord:=ord) l (iN T os);refine⟨_,_,h,?_⟩;have keeps:=layAllW_keeps _ _ _ h;have B:=layAllW_rest _ _ _ h;obtain⟨Q,k,G,d⟩:=reads_layAllW D _ _ _ h m (sL (iN T os) l).heap (λx x e=>e);have F:Laid rE.records w (iN T os) (sL (iN T os) l) [.list (l.map .int)] [.ref (HT T).objs.size] Q:=⟨⟨ord,D,h⟩,k,G,d,keeps,B.1.trans rfl,B.2.2.1⟩;have hs:(HT T).objs.size=522:=DU _ _ _;refine aE (aqi ((VH L b).glob (FP L)) ?_);refine ae (amr g L) ?_;show ay _ _ (S8 (.ref 521) [.ref (HT T).objs.size]>>=_) _ _ _;rw[hs]at F⊢;refine aE (ba (ajZ L g i b td t rfl (plain l t)) (λv s' H=>a8 ?_) λe s' J=>J.elim);obtain⟨rfl,n⟩:=H;have E:=(show GoodWG rE.claim (classAt (HT T)) (arX (HT T)) [.list (l.map .int)] (sL (iN T os) l) (.ok (.ret (.bool af))) s' from
  ⟨.inl ⟨.bool af,.bool af,[],rfl,λx=>rfl,.bool af,ag6 _ _,λx=>⟨wJ,λa K=>aC K gM⟩⟩,ajX L b n,n.2.os,n.2.bare.1⟩).laid (c:=rE.claim) rfl rfl (ident_freeW rfl rfl rfl) F
 exact⟨_,rfl,E.1,E.2.1,E.2.2,λq=>bb q⟩
end
theorem aj0(w:dM)(os:dE):(FK w os).abs=iN (yI w os) os:=by kernel_rfl
theorem aqw(plain:∀l:List Int,l.length<=63->aV (FN 61) 52 [.list (l.map .int)]=.ok (.bool af)):GJ.Holds:=ag7 yI (λw os=>(va w os).1) (λw os=>(va w os).2.1) (λw os=>(va w os).2.2.1) (λw os=>(va w os).2.2.2) (λw os=>ajV (va w os).1 (va w os).2.1 (va w os).2.2.1) (λw os=>am (aj0 w os) (agW w os _ _ rfl rfl)) plain
end
section
open PySem
inductive mZ where
 |q (o:Ev D)|b (o:Option Bool)|l (o:Ev Os)
inductive Fa where
 |q (n:Nat) {o:Ev D} {d:D} (h:o=.ok d)
 |p (n:Nat) {o:Option D} {d:D} (h:o=aa d)
 |x (n:Nat) {o:Ev D} (h:o=.exc)
 |b (n:Nat) {o:Option Bool} {t:Bool} (h:o=aa t)
 |l (n:Nat) {o:Ev Os} {r:Os} (h:o=.ok r)
 |y (n:Nat) {o:Ev Os} (h:o=.exc)
def Fa.ask(f:Fa):mZ:=@Fa.casesOn (λx=>mZ) f (λx o x x=>.q o) (λx o x x=>.q (.of o)) (λx o x=>.q o) (λx o x x=>.b o) (λx o x x=>.l o) λx o x=>.l o
noncomputable def Fa.aq(f:Fa):Ev D:=@Fa.casesOn (λx=>Ev D) f (λx x d x=>.ok d) (λx x d x=>.ok d) (λx x x=>.exc) (λx x x x=>.no) (λx x x x=>.no) λx x x=>.no
noncomputable def Fa.ab(f:Fa):Ev Bool:=@Fa.casesOn (λx=>Ev Bool) f (λx x x x=>.no) (λx x x x=>.no) (λx x x=>.no) (λx x t x=>.ok t) (λx x x x=>.no) λx x x=>.no
noncomputable def Fa.al(f:Fa):Ev Os:=@Fa.casesOn (λx=>Ev Os) f (λx x x x=>.no) (λx x x x=>.no) (λx x x=>.no) (λx x x x=>.no) (λx x r x=>.ok r) λx x x=>.exc
noncomputable def Fa.n(f:Fa):Nat:=@Fa.casesOn (λx=>Nat) f (λn x x x=>n) (λn x x x=>n) (λn x x=>n) (λn x x x=>n) (λn x x x=>n) λn x x=>n
def skip(fs:List Fa):Nat:=cZ fs 0 λf x=>f.n
set_option tactic.hygienic true in
theorem Fa.aov{f:Fa}(h:mZ.q o=f.ask):f.aq=.no\/o=f.aq:=by cases f<;>first|exact .inl rfl|exact .inr ((mZ.noConfusion h id).trans (by first|assumption|(rename_i e;exact aj Ev.of e)))
set_option tactic.hygienic true in
theorem Fa.aow{f:Fa}(h:mZ.b o=f.ask):f.ab=.no\/Ev.of o=f.ab:=by cases f<;>first|exact .inl rfl|exact .inr ((aj Ev.of (mZ.noConfusion h id)).trans (by rename_i e;exact aj Ev.of e))
theorem Fa.aox{f:Fa}(h:mZ.l o=f.ask):f.al=.no\/o=f.al:=by cases f<;>first|exact .inl rfl|exact .inr ((mZ.noConfusion h id).trans (by assumption))
section
variable{α β:Type}
abbrev Ck(α:Type):=List mZ×Ev α
noncomputable def BO(v:Ev β)(g:β->Ck α):Ck α:=Ev.casesOn v g ([],.exc) ([],.no)
noncomputable def put(a:mZ)(x:Ck α):Ck α:=(a::x.1,x.2)
def step(a:mZ)(v:Ev β)(u:Fa->Ev β)(b:β->List Fa->Nat->Ck α)(fs:List Fa)(n:Nat):Ck α:=cZ fs (BO v λd=>b d [] 0) λf gs=>anF n (put a (BO (u f) λd=>b d gs (skip gs))) λn=>BO v λd=>b d fs n
def l8(t:Tr α):List Fa->Nat->Ck α:=Tr.rec (motive:=λx=>List Fa->Nat->Ck α) (λa x x=>([],.ok a)) (λo x c=>step (.q o) o Fa.aq c) (λo x c=>step (.b o) (.of o) Fa.ab c) (λo x c=>step (.l o) o Fa.al c) (λx x=>([],.no)) t
theorem JZ{g:β->Ck α}(b:e≠.no)(a:∀d,g d=(l,e)->k d=e)(h:BO v g=(l,e)):v.bind k=e:=by cases v with|ok d=>exact a d h|exc=>exact(aY h).2|no=>exact aC (aY h).2.symm b
theorem Jh{g:β->List Fa->Nat->Ck α}(b:e≠.no)(i:∀{f:Fa},a=f.ask->u f=.no\/v=u f)(c:∀d {fs n},g d fs n=(fs.map Fa.ask,e)->k d=e)(h:step a v u g fs n=(fs.map Fa.ask,e)):v.bind k=e:=by
 cases fs with
 |nil=>exact JZ b (λd h=>c d h) h
 |cons f gs=>cases n with|succ n=>exact JZ b (λd h=>c d h) h|zero=>have y:=bD (aY h).1;have w:BO (u f) (λd=>g d gs (skip gs))=(gs.map Fa.ask,e):=aoS y.2 (aY h).2;exact(i y.1).elim (λq=>by rw[q]at w;exact aC (aY w).2.symm b) λq=>ae q (JZ b (λd h=>c d h) w)
theorem J2(b:e≠.no):∀{fs n},l8 t fs n=(fs.map Fa.ask,e)->t.run=e:=Tr.rec (motive:=λt=>∀{fs n},l8 t fs n=(fs.map Fa.ask,e)->t.run=e) (λx=>@λx x h=>(aY h).2) (λo k a=>@λx x h=>Jh (g:=λd=>l8 (k d)) b Fa.aov (λd x x h=>a d h) h) (λo k a=>@λx x h=>Jh (g:=λd=>l8 (k d)) b Fa.aow (λd x x h=>a d h) h) (λo k a=>@λx x h=>Jh (g:=λd=>l8 (k d)) b Fa.aox (λd x x h=>a d h) h) (@λx x h=>aC (aY h).2.symm b) t
theorem aG(fs:List Fa)(h:l8 t fs (skip fs)=(fs.map Fa.ask,.ok a):=by kernel_rfl):t.run=.ok a:=J2 (λh=>du h rfl) h
theorem R5(fs:List Fa)(h:l8 t fs (skip fs)=(fs.map Fa.ask,.exc):=by kernel_rfl):t.run=.exc:=J2 (λh=>du h rfl) h
end
def BP(k:Nat)(ds:List D):Rh:=ds.map .val++(kJ k).map .val++eL (kA k) .U
def Ev.fl(e:Ev Os):Ev D:=e.bind λo=>iH o.1
def LB(i:Nat)(s:cO):List cO:=sE [] (λx x=>[]) (λx x x=>[]) (λx x x=>[]) (λx x b x=>b) (λx b=>b) (λx a b=>cond (eA i 100) a b) (λx=>[]) (λx x=>[]) (λx x=>[]) [] [] [] s
noncomputable def FS(a:List cO)(i:Nat):cO:=a.getD (cond (eA i 100) i (i-100)) (.Pass ⟨0,0,0,0⟩)
def subB(p:List Nat):List cO->List cO:=cX (λa=>a) (λi x b a=>b (LB i (FS a i))) p
def Xm(k:Nat)(p:List Nat):List cO->B:=cX (λy y y=>.no) (λi p b a=>cZ p (sE (λy y=>.no) (λy y y y=>.no) (λy y y y y=>.no) (λy y y y y=>.no) (λy y y y y y=>.no) (λx y=>((cm 30).2 (b7 k) x).getD λy y=>.no) (λy y y y y=>.no) (λy y y=>.no) (λy y y y=>.no) (λy y y y=>.no) (λy y=>.no) (λy y=>.no) (λy y=>.no) (FS a i)) λy y=>b (LB i (FS a i))) p
def bN(k:Nat)(p:List Nat):List T:=(t8 (b7 k) (20-p.length) (subB p (lJ k))).getD []
def M3(k:Nat)(p:List Nat)(F:Fn)(r:Rh):Tr Os:=be (bN k p) F r
def YN(k:Nat)(p:List Nat)(F:Fn)(r:Rh):Tr Bool:=Xm k p (lJ k) F r
def tn(k:Nat)(p:List Nat)(n:Nat)(r:Rh):Ev Os:=(M3 k p (FN n) r).run
def tc(k:Nat)(p:List Nat)(n:Nat)(r:Rh):Ev Bool:=(YN k p (FN n) r).run
def lw(k:Nat)(p:List Nat)(n:Nat)(r:Rh):Ev Os:=wh (tc k p n) (tn k p n) r
def lf(k:Nat)(p:List Nat)(n:Nat)(tup:Bool)(is:List Nat)(ai:List D)(r:Rh):Ev Os:=fo (iw tup is) (tn k p n) ai r
section
variable{k:Nat}
theorem QW(h:cQ k 47=ag)(a:cQ ds.length (gY k)=af):aV (FN (n+1)) k ds=((be (rQ k) (FN n) (BP k ds)).run).fl:=by unfold aV;refine ae (vr (λz=>by rw[z]at h;exact bU h) (by rw[aW];exact ni a)) ?_;rfl
def M4(n k:Nat)(ds:List D)(fs:List Fa):Bool×Bool×List mZ×Ev D:=(cQ k 47,cQ ds.length (gY k),(l8 (be (rQ k) (FN n) (BP k ds)) fs (skip fs)).1,(l8 (be (rQ k) (FN n) (BP k ds)) fs (skip fs)).2.fl)
theorem R6(a:e≠.no)(h:M4 n k ds fs=(ag,af,fs.map Fa.ask,e)):aV (FN (n+1)) k ds=e:=by have z:=aY (aY h).2;have w:=aY z.2;exact ae (QW (aY h).1 z.1) (ae (J2 (e:=(l8 (be (rQ k) (FN n) (BP k ds)) fs (skip fs)).2) (λq=>a (by have w:=w.2;rw[q]at w;exact w.symm)) (aoS w.1 rfl)) w.2)
theorem bc(fs:List Fa)(h:M4 n k ds fs=(ag,af,fs.map Fa.ask,.ok d):=by kernel_rfl):aV (FN (n+1)) k ds=.ok d:=R6 (λh=>du h rfl) h
theorem call_exc(fs:List Fa)(h:M4 n k ds fs=(ag,af,fs.map Fa.ask,.exc):=by kernel_rfl):aV (FN (n+1)) k ds=.exc:=R6 (λh=>du h rfl) h
theorem aX(fs:List Fa)(h:l8 (M3 k p (FN n) r) fs (skip fs)=(fs.map Fa.ask,.ok o):=by kernel_rfl):tn k p n r=.ok o:=aG fs h
theorem sQ(fs:List Fa)(h:l8 (M3 k p (FN n) r) fs (skip fs)=(fs.map Fa.ask,.exc):=by kernel_rfl):tn k p n r=.exc:=R5 fs h
theorem dF(fs:List Fa)(h:l8 (YN k p (FN n) r) fs (skip fs)=(fs.map Fa.ask,.ok t):=by kernel_rfl):tc k p n r=.ok t:=aG fs h
theorem R7(d:(be b F r').run=e)(a:List T):∀{r},(be a F r).run=.ok (.next,r')->(be (a++b) F r).run=e:=by
 induction a with
 |nil=>intro r h;cases(h);exact d
 |cons t a ih=>
  intro r h;have z:∀c,(be (t::c) F r).run=(t F r).run.bind λo=>(o.1.el (be c F o.2) (.ret o) (.ret o) λx=>.ret o).run:=λc=>Tr.run_bind _ _;rw[z]at h;simp only [sd,z];revert h;cases(t F r).run with
  |ok o=>obtain⟨f,s⟩:=o;cases f with|next=>exactλh=>ih h|_=>exactλh=>by cases h
  |exc=>exactλh=>du h rfl
  |no=>exactλh=>du h rfl
theorem ji(m:Nat)(h:(be ((bN k p).take m) (FN n) r).run=.ok (.next,r'))(a:(be ((bN k p).drop m) (FN n) r').run=e):tn k p n r=e:=by have z:=R7 a _ h;rw[oJ]at z;exact z
end
section
theorem Fb(h:bd d r=aa r')(hb:b r'=.ok (f,lK)):fo bd b (d::l) r=f.el (fo bd b l lK) (.ok (.next,lK)) (fo bd b l lK) λd=>.ok (.ret d,lK):=by show(Ev.of (bd d r)).bind _=_;simp only [h];show(b r').bind _=_;simp only [hb];rfl
theorem er(h:bd d r=aa r')(hb:b r'=.ok (.next,lK))(hw:fo bd b l lK=.ok o):fo bd b (d::l) r=.ok o:=(Fb h hb).trans hw
theorem R8(h:bd d r=aa r')(hb:b r'=.ok (.cont,lK))(hw:fo bd b l lK=.ok o):fo bd b (d::l) r=.ok o:=(Fb h hb).trans hw
theorem J3(h:bd d r=aa r')(hb:b r'=.ok (.brk,lK)):fo bd b (d::l) r=.ok (.next,lK):=Fb h hb
theorem Ax(h:bd d r=aa r')(hb:b r'=.ok (.ret v,lK)):fo bd b (d::l) r=.ok (.ret v,lK):=Fb h hb
theorem amt(n:Nat):∀{r},gF c b n r≠.no->gF c b (n+1) r=gF c b n r:=by
 induction n with
 |zero=>exactλh=>aC rfl h
 |succ n ih=>
  intro r h;have e:∀n,gF c b (n+1) r=(c r).bind λt=>cond t ((b r).bind λo=>o.1.el (gF c b n o.2) (.ok (.next,o.2)) (gF c b n o.2) λd=>.ok (.ret d,o.2)) (.ok (.next,r)):=λx=>rfl;rw[e n]at h;simp only [e (n+1),e n];revert h;cases c r with
  |ok t=>
   cases t with
   |true=>
    show(b r).bind _≠_->(b r).bind _=(b r).bind _;cases b r with
    |ok o=>obtain⟨f,s⟩:=o;cases f with|next=>exactλh=>ih h|cont=>exactλh=>ih h|_=>exactλx=>rfl
    |_=>exactλx=>rfl
   |false=>exactλx=>rfl
  |_=>exactλx=>rfl
theorem R9(h:gF c b n r≠.no)(k:Nat):gF c b (n+k) r=gF c b n r:=by induction k with|zero=>rfl|succ k ih=>exact(amt (n+k) (ae ih h)).trans ih
theorem xB(h:gF c b n r=e)(a:e≠.no):wh c b r=e:=by have x:∃n,gF c b n r≠.no:=⟨n,ae h a⟩;refine(dif_pos x).trans ?_;have q:=R9 (GQ x) n;rw[gn,R9 (ae h a)]at q;exact q.symm.trans h
theorem ag8(h:gF c b n r=.exc):wh c b r=.exc:=xB h (λh=>du h rfl)
theorem T9(h:wh c b r=.ok o):∃n,gF c b n r=.ok o:=by
 unfold wh at h;split at h
 ·exact⟨_,h⟩
 ·exact du h rfl
theorem J4(h:c r=.ok af)(hb:b r=.ok (f,r')):gF c b (n+1) r=f.el (gF c b n r') (.ok (.next,r')) (gF c b n r') λd=>.ok (.ret d,r'):=by show(c r).bind _=_;simp only [h];show(b r).bind _=_;simp only [hb];rfl
theorem kt(h:c r=.ok ag):wh c b r=.ok (.next,r):=xB (n:=1) (by show(c r).bind _=_;refine ae h ?_;rfl) (λh=>du h rfl)
theorem qS(h:c r=.ok af)(hb:b r=.ok (.next,r'))(hw:wh c b r'=.ok o):wh c b r=.ok o:=(T9 hw).elim λn z=>xB ((J4 h hb).trans z) (λh=>du h rfl)
theorem aqV(h:c r=.ok af)(hb:b r=.ok (.cont,r'))(hw:wh c b r'=.ok o):wh c b r=.ok o:=(T9 hw).elim λn z=>xB ((J4 h hb).trans z) (λh=>du h rfl)
theorem Ua(h:c r=.ok af)(hb:b r=.ok (.brk,r')):wh c b r=.ok (.next,r'):=xB (n:=1) (J4 h hb) (λh=>du h rfl)
theorem Ub(h:c r=.ok af)(hb:b r=.exc):wh c b r=.exc:=xB (n:=1) (by show(c r).bind _=_;rw[h];show(b r).bind _=_;rw[hb];rfl) (λh=>du h rfl)
end
theorem tt [Decidable p](h:p):aa (decide p)=aa af:=aj aa (gN h)
theorem ff [Decidable p](h:¬p):aa (decide p)=aa ag:=aj aa (lQ h)
section
variable{b c:Nat}
theorem bP(h:a<b):aa (decide ((a:Int)<b))=aa af:=tt (jJ.mpr h)
theorem f0(h:b<=a):aa (decide ((a:Int)<b))=aa ag:=ff (uS.mpr (qH.mpr h))
theorem lG(h:a<=b):aa (decide ((a:Int)<=b))=aa af:=tt (qH.mpr h)
theorem dT(h:b<a):aa (decide ((a:Int)<=b))=aa ag:=ff (D7.mpr (jJ.mpr h))
theorem fR(h:a≠b):aa (decide ((a:Int)=b))=aa ag:=ff λe=>h (CX e)
theorem vK(h:a≠b):aa (!decide ((a:Int)=b))=aa af:=aj (λt=>aa (!t)) (lQ λe=>h (CX e))
theorem dU{α:Type} [Decidable p]{y:Option α}(h:p):gd p y=y:=aj (λt=>cond t y ak) (gN h)
theorem KU(h:c<256):(0:Int)<=(c:Int)/\(c:Int)<256:=⟨rZ c,jJ.mpr h⟩
theorem LC(h:c<256)(k:x.contains c=t):j4 (.int c) (.bytes x)=aa t:=(dU (KU h)).trans (aj aa k)
theorem Ab(h:c<256):JJ (.list [.int c])=aa (.bytes [c]):=dU (by show(decide (0<=(c:Int))&&decide ((c:Int)<256)&&af)=af;refine ae (gN (KU h).1) (ae (gN (KU h).2) ?_);rfl)
end
noncomputable def yJ:Y:=[40,41,91,93,123,125,63,42,43,45,124,94,36,92,46,38,126,35,32,9,10,13,11,12]
def gE(c:Nat):Y:=cond (yJ.contains c) [92,c] [c]
theorem w5(n:Nat)(h:c<256):aV (FN (n+1)) 0 [.bytes [c]]=.ok (.bytes (gE c)):=by unfold gE;cases e:yJ.contains c with|true=>have g:tn 0 [1] n [.val (.bytes [c]),aU [],ar c]=.ok (.next,[.val (.bytes [c]),.val (.bytes [92,c]),ar c]):=aX [.b 1 (LC h e),.p 4 (Ab h)];exact bc [.l 2 ((show lf 0 [1] n ag [2] [.int c] [.val (.bytes [c]),aU [],.U]=_ from er rfl g rfl))]|false=>have g:tn 0 [1] n [.val (.bytes [c]),aU [],ar c]=.ok (.next,[.val (.bytes [c]),.val (.bytes [c]),ar c]):=aX [.b 1 (LC h e),.p 2 (Ab h)];exact bc [.l 2 ((show lf 0 [1] n ag [2] [.int c] [.val (.bytes [c]),aU [],.U]=_ from er rfl g rfl))]
def Ok(t:Y):Prop:=t.length<100000
def At(t:Y)(i:Nat)(s:Y):Prop:=t.drop i=s/\i+s.length=t.length/\Ok t
section
variable{s:Y}
theorem At.bK(h:At t i (e++s)):At t (i+e.length) s:=⟨am ny (ae h.1 qx),by rw[fG];refine am aS ?_;exact h.2.1,h.2.2⟩
theorem At.one(h:At t i (c::s)):At t (i+1) s:=At.bK (e:=[c]) h
theorem At.uniq(h:At t i s)(a:At t j s):i=j:=Nat.add_right_cancel (h.2.1.trans a.2.1.symm)
theorem At.lt(h:At t i (c::s)):i<t.length:=am h.2.1 (zb (iD _))
theorem At.get(h:At t i (c::s)):t[i]?=aa c:=(aj (t[·]?) (qI i)).symm.trans ((nk).symm.trans (aj (·[0]?) h.1))
theorem Sa{n:Nat}(h:i<n):jk i n=aa i:=by unfold jk;refine ae (cD (rZ i)) (ae (cD (jJ.mpr h)) ?_);rfl
theorem At.idx(h:At t i (c::s)):eZ (.bytes t) (.int i)=aa (.int c):=by show((jk i t.length).bind λj=>t[j]?).bind (λc:Nat=>aa (D.int c))=_;refine ae (Sa h.lt) ?_;show(t[i]?).bind _=_;refine ae h.get ?_;rfl
end
def ub(e:Y)(o:Nat):Prop:=(e=[o]/\o≠92/\o≠93/\o≠45/\o≠94)\/(e=[92,o]/\o≠120/\o≠116/\o≠110/\o≠114)\/(e=[92,116]/\o=9)
noncomputable def rg(x:Nat×Nat):D:=.tup [.int x.1,.int x.2]
def Pc(p:Y×Nat×Nat):Prop:=(ub p.1 p.2.1/\p.2.2=p.2.1)\/∃f g,p.1=f++45::g/\ub f p.2.1/\ub g p.2.2
section
theorem Ho(n:Nat)(h:At t i (e++s))(d:At t j s)(c:ub e o):aV (FN (n+1)) 1 [.bytes t,.int i]=.ok (.tup [.int o,.int j]):=by
 cases d.uniq h.bK;obtain⟨rfl,a⟩|⟨rfl,a⟩|⟨rfl,rfl⟩:=c
 ·exact bc [.p 2 (At.idx h),.b 0 (vK a.1),.p 2 (At.idx h)]
 ·exact bc [.p 2 (At.idx h),.p 4 (At.idx h.one),.b 0 (fR a.1),.p 3 (At.idx h.one),.b 0 (fR a.2.1),.p 3 (At.idx h.one),.b 0 (fR a.2.2.1),.p 3 (At.idx h.one),.b 0 (fR a.2.2.2),.p 3 (At.idx h.one)]
 ·exact bc [.p 2 (At.idx h),.p 4 (At.idx h.one),.p 4 (At.idx h.one)]
end
theorem nR{l:List D}(h:l.length<1000):gd (l.length<aI) (aa af)=aa af:=dU (bX h (eX rfl))
theorem ub.head(h:ub e o):∃c r,e=c::r/\c≠93/\c≠45/\c≠94:=by
 obtain⟨rfl,a⟩|⟨rfl,_⟩|⟨rfl,_⟩:=h
 ·exact⟨_,_,rfl,a.2⟩
 ·exact⟨_,_,rfl,eX rfl⟩
 ·exact⟨_,_,rfl,eX rfl⟩
theorem Pc.head(h:Pc p)(s:Y):∃c r,p.1++s=c::r/\c≠93/\c≠45/\c≠94:=by
 obtain⟨e,x⟩:=p;obtain⟨a,_⟩|⟨f,g,e,a,_⟩:=h<;>obtain⟨c,r,q,z⟩:=a.head
 ·exact⟨c,r++s,by refine ae q ?_;rfl,z⟩
 ·exact⟨c,r++45::g++s,by refine ae e (ae q ?_);rfl,z⟩
section
variable{r:Y}
theorem abR(n:Nat){q:Y}(hp:Pc p)(h:At t i (p.1++c::q))(k:At t j (c::q))(hc:c≠45)(l:rs.length<1000):
  tn 2 [3] (n+1) [aU t,ar i,ng,.own rs,a,b]=.ok (.next,[aU t,ar j,ng,.own (rs++[rg p.2]),ar p.2.1,ar p.2.2]):=by
 obtain⟨e,x,y⟩:=p;obtain⟨d,m⟩|⟨f,g,e1,d,hg⟩:=hp
 ·cases(m);exact aX [.q 2 (Ho n h k d),.p 3 k.idx,.b 0 (fR hc),.b 2 (nR l)]
 ·cases(show e=_ from e1);simp only [bg]at h;exact aX [.q 2 (Ho n h h.bK d),.p 3 h.bK.idx,.q 4 (Ho n h.bK.one k hg),.b 2 (nR l)]
noncomputable def cl(ps:List (Y×Nat×Nat)):Y:=(ps.map (·.1)).flatten
theorem Sb:cl (p::ps)++s=p.1++(cl ps++s):=bg ..
theorem Se(hp:∀p∈ps,Pc p):∃c q,cl ps++93::r=c::q/\c≠45/\c≠94:=by cases ps with|nil=>exact⟨_,_,rfl,eX rfl⟩|cons p ps=>exact((hp p (.head _)).head (cl ps++93::r)).elim λc z=>z.elim λq z=>⟨c,q,Sb.trans z.1,z.2.2⟩
theorem vb{α β:Type}{l:List α}{x:α}{p:β}{ps:List β}(h:l.length+(p::ps).length<m):(l++[x]).length+ps.length<m:=by refine ae aS ?_;rw[fG,gn _ ps.length];exact h
theorem Pm(n:Nat){P:Prop}(l:At t j (93::r))(ps:List (Y×Nat×Nat)):∀{i:Nat} {rs:List D} {a b:AV},(∀p∈ps,Pc p)->At t i (cl ps++93::r)->rs.length+ps.length<1000->
  (∀c d,lw 2 [3] (n+1) [aU t,ar i,ng,.own rs,a,b]=.ok (.next,[aU t,ar j,ng,.own (rs++ps.map λp=>rg p.2),c,d])->P)->P:=by
 induction ps with|nil=>intro i rs a b _ h _ k;cases l.uniq h;exact k a b (by refine ae Dy ?_;rw[bu];exact kt (dF [.p 2 h.idx]))|cons p ps ih=>intro i rs a b hp h f k;have h:=Sb▸h;obtain⟨c,q,e,o,_⟩:=(hp p (.head _)).head (cl ps++93::r);obtain⟨v,u,e',s,_⟩:=Se λx m=>hp x (.tail _ m);have g:=abR n (ng:=ng) (a:=a) (b:=b) (hp p (.head _)) (am e' h) (am e' h.bK) s (bn (cB _ _) f);refine ih (rs:=rs++[rg p.2]) (a:=ar p.2.1) (b:=ar p.2.2) (λx m=>hp x (.tail _ m)) h.bK (vb f) λc d z=>k c d ?_;simp only [e]at h;simp only [bg]at z;exact qS (dF [.p 2 h.idx,.b 0 (vK o)]) g z
noncomputable def yK(ng:Bool):Y:=cond ng [94] []
theorem aal(n:Nat)(hp:∀p∈ps,Pc p)(h:At t i (yK ng++(cl ps++93::r)))(o:At t j r)(m:ps.length<1000):aV (FN (n+2)) 2 [.bytes t,.int i]=.ok (.tup [.tup [.bool ng,.list (ps.map λp=>rg p.2)],.int j]):=by
 have g:∀k,At t k (cl ps++93::r)->j=k+(cl ps).length+1:=λk z=>o.uniq z.bK.one;have f:(0)+ps.length<1000:=by rw[dD];exact m
 cases ng with|true=>cases g _ h.bK;refine Pm n (ng:=aR af) (a:=.U) (b:=.U) (rs:=[]) h.bK.bK ps hp h.bK f λc d z=>?_;exact bc [.p 2 (At.idx h),.l 5 z]|false=>cases g _ h;refine Pm n (ng:=aR ag) (a:=.U) (b:=.U) (rs:=[]) (At.bK h) ps hp h f λc d z=>?_;obtain⟨c,q,e,_,s⟩:=Se hp;rw[e]at h;exact bc [.p 2 h.idx,.b 0 (fR s),.l 2 z]
end
section
variable{x y:Y}{i:Nat}
theorem sI:jV i n=min i n:=by show(max 0 (min (if(i:Int)<0 then(i:Int)+n else i) n)).toNat=_;refine ae (c9 (uS.mpr (rZ i))) (ae (show min (i:Int) n=(min i n)from(Iz i n).elim (λh=>ae (nw h) (ae (PB (qH.mpr h)) rfl)) λh=>ae (CA h) (ae (OX (qH.mpr h)) rfl)) (ae (Hu (rZ _)) ?_));rfl
theorem At.fT(h:At t i s)(b:k<100000):dh (.bytes t) (.int i) (.int (i+k:Nat))=aa (.bytes (s.take k)):=by have a:=h.2.1▸cB _ _;show(gd (i<4611686018427387904) (aa (jV i t.length))).bind (λl=>(gd (i+k<4611686018427387904) (aa (jV (i+k:Nat) t.length))).bind λh=>aa (D.bytes (lB t l h)))=_;refine ae (dU (bn a (bX h.2.2 (eX rfl)))) (ae (dU (bX (Nat.add_lt_add (bn a h.2.2) b) (eX rfl))) (ae sI (ae sI ?_)));show aa (D.bytes ((t.take (min (i+k) t.length)).drop (min i t.length)))=_;rw[nw a,<-N6,HE,h.1,qm]
theorem FT(h:x≠y):aa (x==y)=aa ag:=aj aa (fX h)
theorem jZ(h:c≠o):aa (c::x==o::y)=aa ag:=FT λe=>h (bD e).1
theorem At.end(h:At t i []):i=t.length:=h.2.1
def Gk(s:Y):Prop:=s=[]\/∃c r,s=c::r/\c<256/\([42,43,63]:Y).contains c=ag
theorem df{l:Y}(h:(a::l).contains c=ag):c≠a/\l.contains c=ag:=by rw[oN,Cc]at h;exact⟨ne_of_beq_false h.1,h.2⟩
theorem AS(h:([42,43,63]:Y).contains c=ag):c≠63:=(df (df (df h).2).2).1
end
noncomputable def lD(l:Bool):D:=.int (cond l 1 0)
noncomputable def mD(m:Bool):D:=cond m (.int 1) .none
noncomputable def YO(l m:Bool):Y:=cond l (cond m [] [43]) (cond m [63] [42])
def Qu(l m:Bool)(q:Y):Prop:=q=YO l m\/(l=ag/\m=af/\q=[63,63])
def h2(n:Nat)(r:Rh):Ev Os:=(be ((bN 3 [1]).drop 3) (FN n) r).run
theorem abS(e:Qu l m q)(h:At t i (q++s))(a:At t j s)(hs:Gk s)(d:ps.length<1000):
  (be ((bN 3 [1]).drop 3) (FN n) [aU t,ar i,.own ps,.val k,.val w,x,y]).run=.ok (.next,[aU t,ar j,.own (ps++[.tup [k,w,lD l,mD m]]),.val k,.val w,.val (lD l),.val (mD m)]):=by
 cases a.uniq h.bK;obtain rfl|⟨rfl,rfl,rfl⟩:=e
 ·obtain rfl|⟨c,r,rfl,hc⟩:=hs
  ·cases l<;>cases m
   ·exact aG [.b 3 (bP (At.lt h)),.p 2 h.idx,.p 3 h.idx,.p 3 h.idx,.b 6 (f0 (cJ a.end.symm)),.b 4 (nR d)]
   ·exact aG [.b 3 (bP (At.lt h)),.p 2 h.idx,.p 3 h.idx,.p 3 h.idx,.b 6 (f0 (cJ a.end.symm)),.b 4 (nR d)]
   ·exact aG [.b 3 (bP (At.lt h)),.p 2 h.idx,.p 3 h.idx,.p 3 h.idx,.b 6 (f0 (cJ a.end.symm)),.b 4 (nR d)]
   ·exact aG [.b 3 (f0 (cJ (At.end h).symm)),.b 4 (nR d)]
  ·cases l<;>cases m
   ·exact aG [.b 3 (bP (At.lt h)),.p 2 h.idx,.p 3 h.idx,.p 3 h.idx,.b 6 (bP a.lt),.p 2 a.idx,.b 0 (fR (AS hc.2)),.b 4 (nR d)]
   ·exact aG [.b 3 (bP (At.lt h)),.p 2 h.idx,.p 3 h.idx,.p 3 h.idx,.b 6 (bP a.lt),.p 2 a.idx,.b 0 (fR (AS hc.2)),.b 4 (nR d)]
   ·exact aG [.b 3 (bP (At.lt h)),.p 2 h.idx,.p 3 h.idx,.p 3 h.idx,.b 6 (bP a.lt),.p 2 a.idx,.b 0 (fR (AS hc.2)),.b 4 (nR d)]
   ·exact aG [.b 3 (bP (At.lt h)),.p 2 (At.idx h),.b 0 (LC hc.1 hc.2),.b 4 (nR d)]
 ·exact aG [.b 3 (bP (At.lt h)),.p 2 h.idx,.p 3 h.idx,.p 3 h.idx,.b 6 (bP h.one.lt),.p 2 h.one.idx,.b 7 (nR d)]
noncomputable def og:D:=.str [111,99,116,101,116]
noncomputable def J5:D:=.str [110,101,118,101,114]
noncomputable def LD:D:=.str [103,114,111,117,112]
noncomputable def LG:D:=.str [101,110,100]
def f9(ng:Bool)(rs:List (Nat×Nat)):D:=.tup [.bool ng,.list (rs.map rg)]
abbrev Pd:=D×D×Bool×Bool
def pd(p:Pd):D:=.tup [p.1,p.2.1,lD p.2.2.1,mD p.2.2.2]
def tM(n:Nat)(e:Y)(k w:D):Prop:=∀{t s:Y} {i j:Nat} {ps:List D} {a b c d:AV},At t i (e++s)->At t j s->
 (be ((bN 3 [1]).take 3) (FN n) [aU t,ar i,.own ps,a,b,c,d]).run=.ok (.next,[aU t,ar j,.own ps,.val k,.val w,c,d])
def Hd(e:Y):Prop:=∃c r,e=c::r/\c≠41/\c<256/\([42,43,63]:Y).contains c=ag
def ir(n:Nat)(p:Y×Pd):Prop:=Hd p.1/\∀{t s:Y} {i j:Nat} {ps:List D} {a b c d:AV},At t i (p.1++s)->At t j s->Gk s->ps.length<1000->
 tn 3 [1] n [aU t,ar i,.own ps,a,b,c,d]=.ok (.next,[aU t,ar j,.own (ps++[pd p.2]),.val p.2.1,.val p.2.2.1,.val (lD p.2.2.2.1),.val (mD p.2.2.2.2)])
section
theorem ir.of(p:tM n e k w)(f:Qu l m q)(hc:Hd e):ir n (e++q,k,w,l,m):=⟨hc.elim λc z=>z.elim λr z=>⟨c,r++q,aj (·++q) z.1,z.2⟩,λ{t s i j ps a b c d} h o hs g=>by have h:=h;simp only [bg]at h;exact ji 3 (p h h.bK) (abS f h.bK o hs g)⟩
theorem abT:tM n [40,63,33,41] J5 (f9 af []):=λ{t s i j ps a b c d} h e=>by cases e.uniq h.bK;exact aG [.p 4 (h.fT (k:=4) (eX rfl))]
theorem ae0:tM n [46] og (f9 af []):=λ{t s i j ps a b c d} h e=>by cases e.uniq h.bK;exact aG [.p 4 (h.fT (k:=4) (eX rfl)),.p 3 (At.idx h),.p 3 (At.idx h),.p 5 (h.fT (k:=2) (eX rfl)),.p 3 (At.idx h)]
theorem ae1:tM n [92,90] LG (f9 af []):=λ{t s i j ps a b c d} h e=>by cases e.uniq h.bK;exact aG [.p 4 (h.fT (k:=4) (eX rfl)),.p 3 (At.idx h),.p 3 (At.idx h),.p 5 (h.fT (k:=2) (eX rfl))]
theorem ae2(f:o≠90):tM n [92,o] og (f9 ag [(o,o)]):=λ{t s i j ps a b c d} h g=>by cases g.uniq h.bK;exact aG [.p 4 (h.fT (k:=4) (eX rfl)),.p 3 (At.idx h),.p 3 (At.idx h),.p 5 (h.fT (k:=2) (eX rfl)),.b 0 (FT (x:=[92,o]) (y:=[92,90]) λe=>f (bD (bD e).2).1),.p 2 (At.idx h),.p 3 (At.idx h),.p 5 (At.idx h.one),.p 2 (At.idx h.one)]
theorem IP(f:o≠40)(h2:o≠91)(e:o≠92)(l:o≠46):tM n [o] og (f9 ag [(o,o)]):=λ{t s i j ps a b c d} h g=>by cases g.uniq h.bK;exact aG [.p 4 (h.fT (k:=4) (eX rfl)),.b 0 (jZ f (x:=s.take 3) (y:=[63,33,41])),.p 2 (At.idx h),.b 0 (fR f),.p 2 (At.idx h),.b 0 (fR h2),.p 4 (h.fT (k:=2) (eX rfl)),.b 0 (jZ e (x:=s.take 1) (y:=[90])),.p 2 (At.idx h),.b 0 (fR l),.p 2 (At.idx h),.b 0 (fR e),.p 2 (At.idx h),.p 2 (At.idx h)]
theorem QX(hp:∀p∈ps,Pc p)(g:ps.length<1000):tM (n+2) (91::yK ng++(cl ps++[93])) og (f9 ng (ps.map (·.2))):=λ{t r i j m a b c d} h l=>by
 have e:At t i (91::(yK ng++(cl ps++93::r))):=by simp only [bg,bg]at h;exact h
 have f:=aal n hp e.one l g;rw[<-show(ps.map (·.2)).map rg=ps.map (λp=>rg p.2)from iR]at f;exact aG [.p 4 (e.fT (k:=4) (eX rfl)),.p 3 (At.idx e),.p 3 (At.idx e),.q 4 f]
noncomputable def BQ(nc:Bool):Y:=cond nc [63,58] []
theorem ae3{nc:Bool}(hc:∀{t r:Y} {i j:Nat},At t i (s++41::r)->At t j (41::r)->aV (FN n) 3 [.bytes t,.int i]=.ok (.tup [.list ps,.int j]))(hs:Hd s):tM n (40::BQ nc++(s++[41])) LD (.list ps):=λ{t r i j A a b c d} h o=>by
 have m:At t i (40::(BQ nc++(s++41::r))):=by simp only [bg,bg]at h;exact h
 refine hs.elim λc u=>u.elim λq v=>v.elim λe w=>w.elim λl z=>z.elim λl h6=>?_;cases nc with|true=>have g:=At.bK (e:=[40,63,58]) m;cases o.uniq g.bK.one;exact aG [.p 4 (m.fT (k:=4) (eX rfl)),.p 3 (At.idx m),.p 5 (At.idx m.one),.q 3 (hc g g.bK)]|false=>have g:=At.bK (e:=[40]) m;cases o.uniq g.bK.one;have g':=g;rw[e]at g';have f:=m.fT (k:=4) (eX rfl);rw[show BQ ag++(s++41::r)=c::(q++41::r) by refine ae e ?_;rfl]at f;exact aG [.p 4 f,.b 0 (FT (x:=40::c::(q++41::r).take 2) (y:=[40,63,33,41]) λe=>AS h6 (bD (bD e).2).1),.p 2 (At.idx m),.p 5 g'.idx,.b 0 (fR (AS h6)),.q 2 (hc g g.bK)]
end
section
variable{r:Y}
noncomputable def m7(a:List (Y×Pd)):Y:=(a.map (·.1)).flatten
def BR(a:List (Y×Pd)):List D:=a.map λq=>pd q.2
theorem QY:m7 (q::qs)++s=q.1++(m7 qs++s):=bg ..
theorem ag9(d:∀q∈qs,ir n q)(b:r=[]\/∃a,r=41::a):Gk (m7 qs++r):=by cases qs with|nil=>exact b.imp id λz=>z.elim λa z=>⟨41,a,z,eX rfl⟩|cons q qs=>exact(d q (.head _)).1.elim λc z=>z.elim λe z=>.inr ⟨c,e++(m7 qs++r),QY.trans (aj (·++(m7 qs++r)) z.1),z.2.2⟩
theorem ir.go(e:ir n q)(h:At t i (q.1++s))(g:At t j s)(hs:Gk s)(f:ps.length<1000):
  tn 3 [1] n [aU t,ar i,.own ps,a,b,c,d]=.ok (.next,[aU t,ar j,.own (ps++[pd q.2]),.val q.2.1,.val q.2.2.1,.val (lD q.2.2.2.1),.val (mD q.2.2.2.2)]):=e.2 h g hs f
theorem abU{P:Prop}(C:r=[]\/∃B,r=41::B)(o:At t j r)(f:List (Y×Pd)):∀{i:Nat} {ps:List D} {a b c d:AV},(∀q∈f,ir n q)->At t i (m7 f++r)->ps.length+f.length<1000->
  (∀a' A s d',lw 3 [1] n [aU t,ar i,.own ps,a,b,c,d]=.ok (.next,[aU t,ar j,.own (ps++BR f),a',A,s,d'])->P)->P:=by
 induction f with
 |nil=>
  intro i ps a b c d _ h _ k;cases o.uniq h;refine k a b c d ?_;refine ae (bu ps) ?_;obtain rfl|⟨B,rfl⟩:=C
  ·exact kt (dF [.b 3 (f0 (cJ h.end.symm))])
  ·exact kt (dF [.b 3 (bP o.lt),.p 2 o.idx])
 |cons q f ih=>intro i ps a b c d l h E k;have h:=QY▸h;have g:=(l q (.head _)).go (a:=a) (b:=b) (c:=c) (d:=d) h h.bK (ag9 (λx m=>l x (.tail _ m)) C) (bn (cB _ _) E);refine ih (ps:=ps++[pd q.2]) (a:=.val q.2.1) (b:=.val q.2.2.1) (c:=.val (lD q.2.2.2.1)) (d:=.val (mD q.2.2.2.2)) (λx m=>l x (.tail _ m)) h.bK (vb E) λa' A s d' z=>k a' A s d' ?_;refine((l q (.head _)).1).elim λc u=>u.elim λe v=>v.elim λG w=>w.elim λF y=>?_;have h:=G▸h;simp only [bg]at z;exact qS (dF [.b 3 (bP (At.lt h)),.p 2 (At.idx h),.b 0 (vK F)]) g z
theorem Ov(g:∀q∈qs,ir n q)(f:r=[]\/∃e,r=41::e)(h:At t i (m7 qs++r))(m:At t j r)(k:qs.length<1000):aV (FN (n+1)) 3 [.bytes t,.int i]=.ok (.tup [.list (BR qs),.int j]):=abU (a:=.U) (b:=.U) (c:=.U) (d:=.U) f m qs g h (by refine ae wE ?_;rw[dD];exact k) λa b c d z=>(bc [.l 0 z])
def YP(nc:Bool)(a:List (Y×Pd))(q:Y)(l m:Bool):Y×Pd:=(40::BQ nc++(m7 a++[41])++q,LD,.list (BR a),l,m)
theorem ae4{nc:Bool}(a:∀q∈qs,ir n q)(b:Hd (m7 qs))(c:qs.length<1000)(k:Qu l m q):ir (n+1) (YP nc qs q l m):=.of (ae3 (λh d=>Ov a (.inr ⟨_,rfl⟩) h d c) b) k ⟨40,BQ nc++(m7 qs++[41]),rfl,eX rfl⟩
end
noncomputable def bw(a:Nat)(k:Int)(b:Nat):Bool:=decide ((a:Int)<=k)&&decide (k<=(b:Int))
def g9(ah:Bool)(o:Nat):List Int:=[(o:Int)]++cond (ah&&bw 65 o 90) [(o:Int)+32] []++cond (ah&&bw 97 o 122) [(o:Int)-32] []
def ju(ah:Bool)(rs:List (Nat×Nat))(o:Nat):Bool:=rs.any λx=>(g9 ah o).any λk=>bw x.1 k x.2
def jl(ah ng:Bool)(rs:List (Nat×Nat))(o:Nat):Bool:=ng !=ju ah rs o
noncomputable def ex(ah:Bool)(ps:D):D:=.inst 92 [.bool ah,ps]
section
def Rn(I:Rh->Prop)(d:D)(t:Bool)(a:Ev Os):Prop:=cond t (∃r,a=.ok (.ret d,r)) (∃r,I r/\a=.ok (.next,r))
theorem Rn.no(i:I r)(h:a=.ok (.next,r)):Rn I d ag a:=⟨r,i,h⟩
theorem Rn.yes(h:a=.ok (.ret d,r)):Rn I d af a:=⟨r,h⟩
theorem Rn.any{α:Type}{f:α->D}{t:α->Bool}(xs:List α):(∀x∈xs,∀r,I r->∃c,bd (f x) r=aa c/\Rn I v (t x) (b c))->∀{r},I r->Rn I v (xs.any t) (fo bd b (xs.map f) r):=by
 induction xs with
 |nil=>exactλa a i=>.no i rfl
 |cons x xs ih=>
  intro st r i;obtain⟨c,h,q⟩:=st x (.head _) r i;refine ae zA ?_;cases e:t x with
  |true=>rw[e]at q;exact q.elim λr z=>⟨r,Ax h z⟩
  |false=>rw[e]at q;obtain⟨j,d,z⟩:=q;have g:=ih (λy m=>st y (.tail _ m)) d;rw[Bool.false_or];revert g;cases xs.any t with|true=>exactλg=>g.elim λr y=>⟨r,er h z y⟩|false=>exactλg=>g.elim λr y=>⟨r,y.1,er h z y.2⟩
theorem ae5{x y:Nat}(ks:List Int):Rn (λr=>∃z,r=[s,w,o,aR b,rs,L,ar x,ar y,z]) (.bool (!b)) (ks.any λk=>bw x k y) (lf 4 [4,0] n ag [8] (ks.map .int) [s,w,o,aR b,rs,L,ar x,ar y,z]):=
 Rn.any ks (λk a r i=>i.elim λz e=>⟨[s,w,o,aR b,rs,L,ar x,ar y,ar k],ae e rfl,by
  unfold bw;cases c:decide ((x)<=k)with
  |false=>exact .no (r:=[s,w,o,aR b,rs,L,ar x,ar y,ar k]) ⟨_,rfl⟩ (aX [.b 2 (aj aa c)])
  |true=>
   cases h2:decide (k<=(y))with
   |false=>exact .no (r:=[s,w,o,aR b,rs,L,ar x,ar y,ar k]) ⟨_,rfl⟩ (aX [.b 2 (aj aa c),.b 1 (aj aa h2)])
   |true=>exact .yes (r:=[s,w,o,aR b,rs,L,ar x,ar y,ar k]) (aX [.b 2 (aj aa c),.b 1 (aj aa h2),.b 1 ((rfl:qZ (.bool b)=aa b))])⟩) ⟨z,rfl⟩
theorem ac9{ks:List Int}(xs:List (Nat×Nat)):Rn (λr=>∃k x y z,(k=.own (ks.map .int)\/k=cA (ks.map .int))/\r=[s,w,o,aR b,rs,k,x,y,z]) (.bool (!b)) (xs.any λp=>ks.any λk=>bw p.1 k p.2) (lf 4 [4] n af [6,7] (xs.map rg) [s,w,o,aR b,rs,.own (ks.map .int),x,y,z]):=
 Rn.any xs (λp a r i=>by
  obtain⟨k,x,y,z,h,rfl⟩:=i;refine⟨[s,w,o,aR b,rs,k,ar p.1,ar p.2,z],rfl,?_⟩;have g:=ae5 (n:=n) (s:=s) (w:=w) (o:=o) (rs:=rs) (L:=cA (ks.map .int)) (b:=b) (x:=p.1) (y:=p.2) (z:=z) ks;revert g;cases ks.any λk=>bw p.1 k p.2 with
  |true=>
   rintro⟨r,g⟩;obtain rfl|rfl:=h
   ·exact .yes (r:=r) (aX [.l 2 g])
   ·exact .yes (r:=r) (aX [.l 2 g])
  |false=>
   rintro⟨_,⟨z,rfl⟩,g⟩;obtain rfl|rfl:=h
   ·exact .no (r:=[s,w,o,aR b,rs,cA (ks.map .int),ar p.1,ar p.2,z]) ⟨_,_,_,_,.inr rfl,rfl⟩ (aX [.l 2 g])
   ·exact .no (r:=[s,w,o,aR b,rs,cA (ks.map .int),ar p.1,ar p.2,z]) ⟨_,_,_,_,.inr rfl,rfl⟩ (aX [.l 2 g])) ⟨_,_,_,_,.inl rfl,rfl⟩
theorem aha{c:Nat}:(be ((bN 4 []).take 4) (FN n) [.val (ex ah ps),.val (f9 ng rs),ar c,.U,.U,.U,.U,.U,.U]).run=
  .ok (.next,[.val (ex ah ps),.val (f9 ng rs),ar c,aR ng,cA (rs.map rg),.own ((g9 ah c).map .int),.U,.U,.U]):=by
 unfold g9 bw;cases ah with
 |false=>exact aG []
 |true=>
  cases d:decide (((65):Int)<=c)<;>cases h2:decide ((c:Int)<=(90))<;>cases a:decide (((97):Int)<=c)<;>cases e:decide ((c:Int)<=(122))
  ·exact aG [.b 6 (aj aa d),.b 4 (aj aa a)]
  ·exact aG [.b 6 (aj aa d),.b 4 (aj aa a)]
  ·exact aG [.b 6 (aj aa d),.b 4 (aj aa a),.b 0 (aj aa e)]
  ·exact aG [.b 6 (aj aa d),.b 4 (aj aa a),.b 0 (aj aa e)]
  ·exact aG [.b 6 (aj aa d),.b 4 (aj aa a)]
  ·exact aG [.b 6 (aj aa d),.b 4 (aj aa a)]
  ·exact aG [.b 6 (aj aa d),.b 4 (aj aa a),.b 0 (aj aa e)]
  ·exact aG [.b 6 (aj aa d),.b 4 (aj aa a),.b 0 (aj aa e)]
  ·exact aG [.b 6 (aj aa d),.b 0 (aj aa h2),.b 4 (aj aa a)]
  ·exact aG [.b 6 (aj aa d),.b 0 (aj aa h2),.b 4 (aj aa a)]
  ·exact aG [.b 6 (aj aa d),.b 0 (aj aa h2),.b 4 (aj aa a),.b 0 (aj aa e)]
  ·exact aG [.b 6 (aj aa d),.b 0 (aj aa h2),.b 4 (aj aa a),.b 0 (aj aa e)]
  ·exact aG [.b 6 (aj aa d),.b 0 (aj aa h2),.b 7 (aj aa a)]
  ·exact aG [.b 6 (aj aa d),.b 0 (aj aa h2),.b 7 (aj aa a)]
  ·exact aG [.b 6 (aj aa d),.b 0 (aj aa h2),.b 7 (aj aa a),.b 0 (aj aa e)]
  ·exact aG [.b 6 (aj aa d),.b 0 (aj aa h2),.b 7 (aj aa a),.b 0 (aj aa e)]
theorem u5(h:tn k [] n (BP k ds)=.ok o)(a:(cQ k 47,cQ ds.length (gY k),iH o.1)=(ag,af,.ok d)):aV (FN (n+1)) k ds=.ok d:=by exact ae (QW (aY a).1 (aY (aY a).2).1) ((aj Ev.fl h).trans (aY (aY a).2).2)
theorem ahb{c:Nat}:aV (FN (n+1)) 4 [ex ah ps,f9 ng rs,.int c]=.ok (.bool (jl ah ng rs c)):=by have g:=ac9 (n:=n) (s:=.val (ex ah ps)) (w:=.val (f9 ng rs)) (o:=ar c) (rs:=cA (rs.map rg)) (b:=ng) (x:=.U) (y:=.U) (z:=.U) (ks:=g9 ah c) rs;have p:=aha (n:=n) (ah:=ah) (ng:=ng) (ps:=ps) (c:=c) (rs:=rs);unfold jl ju;revert g;cases rs.any λp=>(g9 ah c).any λk=>bw p.1 k p.2 with|true=>rintro⟨r,g⟩;rw[Bool.bne_true];exact u5 (o:=(.ret (.bool (!ng)),r)) (ji 4 p (aG [.l 2 g])) (by kernel_rfl)|false=>rintro⟨_,⟨k,x,y,z,h,rfl⟩,g⟩;rw[Bool.bne_false];exact u5 (o:=(.ret (.bool ng),[.val (ex ah ps),.val (f9 ng rs),ar c,aR ng,cA (rs.map rg),k,x,y,z])) (ji 4 p (aG [.l 2 g])) (by kernel_rfl)
end
noncomputable def il(l:List Nat):List D:=l.map λk:Nat=>.int (k:Int)
theorem w0{α β:Type}{g:D->Option α}{f:β->D}{h:β->α}(e:∀x,g (f x)=aa (h x))(l:List β):eB g (l.map f)=aa (l.map h):=by induction l with|nil=>rfl|cons x l ih=>show(g (f x)).bind (λa=>(eB g (l.map f)).map (a::·))=_;rw[e];refine ae ih ?_;rfl
theorem VI{x:Nat}(l:List Nat):(l.map λk:Nat=>(k:Int)).contains (x:Int)=l.contains x:=by induction l with|nil=>rfl|cons a l ih=>exact ae dB (ae oN (ae oN (ae ih (aj (·||_) (decide_eq_decide.mpr Int.ofNat_inj)))))
theorem Ac{l:List Nat}(h:l.contains x=t):mS (j4 (.int x) (.list (il l)))=aa (!t):=by show mS ((eB D.int? (l.map λk:Nat=>.int (k))).bind λq=>aa (q.contains (x)))=_;rw[w0 (h:=λk:Nat=>(k:Int)) λy=>rfl];exact aj (λt=>aa (!t)) ((VI l).trans h)
noncomputable def fr(dn:List Nat)(out f:List Nat):List Nat:=out.foldl (λf x=>cond (dn.contains x||f.contains x) f (f++[x])) f
section
def fU(nm:Y)(l:List Nat):Prop:=l.Nodup/\∀a∈l,a<=nm.length
def c7(nm:Y)(l:List Nat)(u:Y):Prop:=∃x,x∈l/\At nm x u
theorem c7.app:c7 nm (l++l') u↔c7 nm l u\/c7 nm l' u:=⟨λh=>h.elim λx z=>(kW.mp z.1).imp (λm=>⟨x,m,z.2⟩) λm=>⟨x,m,z.2⟩,λh=>h.elim (λh=>h.elim λx z=>⟨x,ke _ z.1,z.2⟩) λh=>h.elim λx z=>⟨x,fF _ z.1,z.2⟩⟩
set_option tactic.hygienic true in
theorem QZ(n:Nat):∀{l:List Nat},l.Nodup->(∀a∈l,a<n)->l.length<=n:=by
 induction n with
 |zero=>intro l _ h;cases l with|nil=>exact bO _|cons a l=>exact aC (h a (.head _)) (PD _)
 |succ n ih=>
  intro l c h;have b:=ih (c.erase n) λa m=>Cj (OT (h a (List.mem_of_mem_erase m))) λe=>(aq2 c) (e▸m);rw[List.length_erase]at b;split at b
  ·exact Nat.le_add_of_sub_le b
  ·exact iB b
theorem fU.len(h:fU nm l):l.length<=nm.length+1:=QZ _ h.1 λa m=>zk (h.2 a m)
theorem amu(out:List Nat):∀{f:List Nat},f.Nodup->(fr dn out f).Nodup/\∀x,x∈fr dn out f↔x∈f\/(x∈out/\x∉dn):=by
 induction out with
 |nil=>exactλh=>⟨h,λx=>⟨.inl,λz=>z.elim id λz=>cf (z.1)⟩⟩
 |cons y out ih=>intro f h;show(fr dn out (cond _ f (f++[y]))).Nodup/\∀x,x∈fr dn out (cond _ f (f++[y]))↔_;cases e:dn.contains y||f.contains y with|true=>refine⟨(ih h).1,λx=>((ih h).2 x).trans ⟨λz=>z.imp id λz=>⟨.tail _ z.1,z.2⟩,λz=>z.elim .inl λz=>(ch.mp z.1).elim (λq=>?_) λq=>.inr ⟨q,z.2⟩⟩⟩;exact((ki _ _).mp e).elim (λw=>aC (ed.mp w) (am q z.2)) λw=>.inl (ae q (ed.mp w))|false=>have c:y∉dn:=λm=>bb ((Cc.mp e).1.symm.trans (ed.mpr m));have h2:y∉f:=λm=>bb ((Cc.mp e).2.symm.trans (ed.mpr m));have g:=ih (f:=f++[y]) (OE.mpr ⟨h,sh.mpr ⟨gM,wJ⟩,λa m b n q=>h2 (am (bB.mp n) (am q m))⟩);refine⟨g.1,λx=>(g.2 x).trans ⟨λz=>z.elim (λz=>(kW.mp z).imp id λz=>⟨by rw[bB.mp z];exact .head _,by rw[bB.mp z];exact c⟩) λz=>.inr ⟨.tail _ z.1,z.2⟩,λz=>z.elim (λz=>.inl (ke _ z)) λz=>(ch.mp z.1).elim (λq=>.inl (fF _ (bB.mpr q))) λq=>.inr ⟨q,z.2⟩⟩⟩
end
abbrev Rl:=Y->Y->Prop
def kC(R:Rl)(s u:Y):Prop:=∀P:Y->Prop,P s->(∀x y,P x->R x y->P y)->P u
noncomputable def sq(A B:Rl):Rl:=λs u=>∃w,A s w/\B w u
def tp(R:Rl):Rl:=sq R (kC R)
def m8(l m:Bool)(R:Rl)(s u:Y):Prop:=(l=ag/\s=u)\/(cond m R (tp R)) s u
section
theorem kC.refl:kC R s s:=λx h x=>h
theorem kC.tail(h:kC R s w)(r:R w u):kC R s u:=λP a b=>b w u (h P a b) r
theorem tp.tail(h:kC R s w)(r:R w u):tp R s u:=h (λw=>∀u,R w u->tp R s u) (λu r=>⟨u,r,.refl⟩) (λx y i q u r=>(i y q).elim λz e=>⟨z,e.1,e.2.tail r⟩) u r
theorem tp.star(h:tp R s u):kC R s u:=h.elim λx y P a b=>y.2 P (b s x a y.1) b
end
section
variable{T:Rl}
def Im(nm:Y)(T:Rl)(pl out:List Nat):Prop:=fU nm out/\∀u,c7 nm out u↔∃s,c7 nm pl s/\T s u
theorem Im.eq(h:fU nm pl):Im nm Eq pl pl:=⟨h,λu=>⟨λz=>⟨u,z,rfl⟩,λz=>z.elim λs z=>am z.2 z.1⟩⟩
theorem Im.sq(h:Im nm R pl dn)(a:Im nm T dn out):Im nm (sq R T) pl out:=⟨a.1,λu=>(a.2 u).trans ⟨λz=>z.elim λw z=>((h.2 w).mp z.1).elim λs y=>⟨s,y.1,w,y.2,z.2⟩,λz=>z.elim λs z=>z.2.elim λw y=>⟨w,(h.2 w).mpr ⟨s,z.1,y.1⟩,y.2⟩⟩⟩
def I1(nm:Y)(R:Rl)(l:Bool)(A:Y->Prop)(dn:List Nat):Prop:=∀u,c7 nm dn u->(l=ag/\A u)\/∃s,A s/\tp R s u
def I2(nm:Y)(R:Rl)(A:Y->Prop)(now:List Nat):Prop:=∀u,c7 nm now u->∃s,A s/\kC R s u
def I3(nm:Y)(R:Rl)(A:Y->Prop)(dn now:List Nat):Prop:=∀s,A s\/c7 nm dn s->c7 nm now s\/∀u,R s u->c7 nm dn u
def I4(nm:Y)(l:Bool)(A:Y->Prop)(dn:List Nat):Prop:=l=ag->∀s,A s->c7 nm dn s
def Nw(nm:Y)(R:Rl)(dn now f:List Nat):Prop:=∀u,c7 nm f u↔(∃s,c7 nm now s/\R s u)/\¬c7 nm dn u
theorem Nw.st(h:Nw nm R dn now f)(h2:I2 nm R A now)(z:c7 nm f u):∃s,A s/\tp R s u:=((h u).mp z).1.elim λs z=>(h2 s z.1).elim λa q=>⟨a,q.1,tp.tail q.2 z.2⟩
theorem I1.st(a:I1 nm R l A dn)(h2:I2 nm R A now)(h:Nw nm R dn now f):I1 nm R l A (dn++f):=λu z=>(c7.app.mp z).elim (a u) λz=>.inr (h.st h2 z)
theorem I2.st(h2:I2 nm R A now)(h:Nw nm R dn now f):I2 nm R A f:=λu z=>(h.st h2 z).elim λs z=>⟨s,z.1,z.2.star⟩
theorem I3.st(a:I3 nm R A dn now)(h:Nw nm R dn now f):I3 nm R A (dn++f) f:=λs z=>oO .inl λnf=>.inr λu r=>c7.app.mpr (oO .inl λnd=>(a s (z.imp id λz=>(c7.app.mp z).elim id λz=>aC z nf)).elim (λz=>.inr ((h u).mpr ⟨⟨s,z,r⟩,nd⟩)) λz=>.inl (z u r))
theorem I4.st(h:I4 nm l A dn):I4 nm l A (dn++f):=λe s a=>c7.app.mpr (.inl (h e s a))
theorem c7.nil{P:Prop}(h:c7 nm [] u):P:=h.elim λx z=>cf (z.1)
theorem Q0(hp:fU nm dn)(c:I1 nm R l (c7 nm pl) dn)(b:I3 nm R (c7 nm pl) dn [])(a:I4 nm l (c7 nm pl) dn):Im nm (m8 l ag R) pl dn:=
 have cl:=λs z=>(b s z).elim c7.nil id
 ⟨hp,λu=>⟨λz=>(c u z).elim (λz=>⟨u,z.2,.inl ⟨z.1,rfl⟩⟩) λz=>z.elim λs z=>⟨s,z.1,.inr z.2⟩,λz=>z.elim λs z=>z.2.elim (λy=>am y.2 (a y.1 s z.1)) λy=>y.elim λx y=>y.2 (c7 nm dn) (cl s (.inl z.1) x y.1) λx y i=>cl x (.inr i) y⟩⟩
noncomputable def d0(l:Bool)(pl:List Nat):List Nat:=cond l [] pl
theorem KV(h:fU nm pl):fU nm (d0 l pl):=by cases l with|true=>exact⟨wJ,λa m=>cf m⟩|false=>exact h
theorem xo:c7 nm (d0 l pl) u↔l=ag/\c7 nm pl u:=by cases l with|true=>exact⟨c7.nil,λz=>bU (z.1)⟩|false=>exact⟨λz=>⟨rfl,z⟩,uW⟩
theorem Sf(hp:fU nm (d0 l pl++f))(h:Nw nm R (d0 l pl) pl f):Im nm (m8 l af R) pl (d0 l pl++f):=
 ⟨hp,λu=>c7.app.trans ⟨λz=>z.elim (λz=>⟨u,(xo.mp z).2,.inl ⟨(xo.mp z).1,rfl⟩⟩) λz=>((h u).mp z).1.elim λs z=>⟨s,z.1,.inr z.2⟩,
  λz=>z.elim λs z=>z.2.elim (λy=>.inl (xo.mpr ⟨y.1,am y.2 z.1⟩)) λy=>oO .inl λnd=>.inr ((h u).mpr ⟨⟨s,z.1,y⟩,nd⟩)⟩⟩
theorem amv(h:Im nm R now out)(hd:fU nm dn):fU nm (fr dn out [])/\fU nm (dn++fr dn out [])/\Nw nm R dn now (fr dn out []):=by
 have c:=amu (dn:=dn) out wJ;have h2:=λx m=>((c.2 x).mp m).elim (λz=>cf z) id;exact⟨⟨c.1,λx m=>h.1.2 x (h2 x m).1⟩,⟨OE.mpr ⟨hd.1,c.1,λa m b d q=>(h2 b d).2 (q▸m)⟩,λx m=>(kW.mp m).elim (hd.2 x) λm=>h.1.2 x (h2 x m).1⟩,
  λu=>⟨λz=>z.elim λx z=>⟨(h.2 u).mp ⟨x,(h2 x z.1).1,z.2⟩,λy=>y.elim λy q=>(h2 x z.1).2 (q.2.uniq z.2▸q.1)⟩,λz=>((h.2 u).mpr z.1).elim λx q=>⟨x,(c.2 x).mpr (.inr ⟨q.1,λm=>z.2 ⟨x,m,q.2⟩⟩),q.2⟩⟩⟩
theorem Ay:il (l++l')=il l++il l':=cU
theorem sR:(il l).length=l.length:=aW ..
theorem et{l:List D}(h:l.length<aI):gd (l.length<aI) (aa af)=aa af:=dU h
theorem l9(h:x.length+y.length<=aI):c6 (.list x) (.list y)=aa (.list (x++y)):=dU h
theorem Ok.lim(h:Ok nm)(p:fU nm l):l.length<aI:=bn p.len (bX (jH h) (eX rfl))
theorem Ok.add(h:Ok nm)(p:fU nm (dn++f)):(il dn).length+(il f).length<=aI:=by exact ae sR (ae sR (am aS (dk (h.lim p))))
end
section
def nS(n:Nat)(ah:Bool)(nm:Y)(k w:D)(R:Rl):Prop:=∀(ps:D) (pl:List Nat),fU nm pl->∃out:List Nat,aV (FN n) 5 [ex ah ps,k,w,.bytes nm,.list (il pl)]=.ok (.list (il out))/\Im nm R pl out
def vl(l:List Nat):AV:=cA (il l)
abbrev Jn:=Nat->AV
noncomputable def jn(l:List AV):Jn:=λi=>l.getD i .U
def h6(ah:Bool)(pS:D)(P:AV)(nm:Y)(pl:List Nat)(k w:D)(l m:Bool)(d o:List Nat)(c:Nat)(j:Jn):Rh:=[.val (ex ah pS),P,aU nm,vl pl,.val k,.val w,.val (lD l),.val (mD m),vl d,vl o,ar c,j 0,j 1]
def e6(ah:Bool)(pS:D)(P:AV)(nm:Y)(pl:List Nat)(k w:D)(l m:Bool)(d:List Nat)(j:Jn):Rh:=[.val (ex ah pS),P,aU nm,vl pl,.val k,.val w,.val (lD l),.val (mD m),vl d,j 0,j 1,j 2,j 3]
def g6(ah:Bool)(pS:D)(P:AV)(nm:Y)(pl:List Nat)(j:Jn):Rh:=[.val (ex ah pS),P,aU nm,vl pl,j 0,j 1,j 2,j 3,j 4,j 5,j 6,j 7,j 8]
def r6(ah:Bool)(pS:D)(P:AV)(nm:Y)(pl:List Nat)(k w:D)(l m:Bool)(d o:List Nat)(c:Nat)(f:List Nat)(z:AV):Rh:=[.val (ex ah pS),P,aU nm,vl pl,.val k,.val w,.val (lD l),.val (mD m),vl d,vl o,ar c,.own (il f),z]
theorem abV(out:List Nat):∀{f:List Nat} {z:AV},f.length+out.length<aI->
  lf 6 [0,3,2] n ag [12] (il out) (r6 ah pS P nm pl k w l m d o c f z)=.ok (.next,r6 ah pS P nm pl k w l m d o c (fr d out f) (out.foldl (λy (k:Nat)=>ar (k:Int)) z)):=by
 induction out with
 |nil=>exactλy=>rfl
 |cons x out ih=>
  intro f z a;have g:tn 6 [0,3,2] n (r6 ah pS P nm pl k w l m d o c f (ar x))=.ok (.next,r6 ah pS P nm pl k w l m d o c (cond (d.contains x||f.contains x) f (f++[x])) (ar x)):=by
   cases e:d.contains x with
   |true=>exact aX [.b 2 (Ac e)]
   |false=>cases h2:f.contains x with|true=>exact aX [.b 2 (Ac e),.b 2 (Ac h2)]|false=>unfold r6;exact ae Ay (aX [.b 2 (Ac e),.b 2 (Ac h2),.b 1 (et (ae sR (bn (cB _ _) a)))])
  refine er rfl g (ih ?_);cases d.contains x||f.contains x with|true=>exact oQ a|false=>exact vb a
theorem ae6(e:aV (FN n) 5 [ex ah pS,k,w,.bytes nm,.list (il now)]=.ok (.list (il out)))(a:out.length<aI)(hf:fr dn out []=f)(b:(il dn).length+(il f).length<=aI):
  tn 6 [0,3] n (h6 ah pS P nm pl k w l m dn now mn j)=.ok (.next,h6 ah pS P nm pl k w l m (dn++f) f (mn+1) (jn [vl f,out.foldl (λx (k:Nat)=>ar (k:Int)) (j 1)])):=by
 unfold h6 vl;exact ae Ay (aX [.q 7 e,.l 1 (hf▸abV (n:=n) (ah:=ah) (pS:=pS) (P:=P) (nm:=nm) (pl:=pl) (k:=k) (w:=w) (l:=l) (m:=m) (o:=now) (c:=mn+1) (z:=j 1) out (f:=[]) (am ((dD _).symm) a)),.p 2 (l9 b)])
theorem P9(d:nS n ah nm k w R)(a:Ok nm)(hd:fU nm dn)(e:fU nm now){C:Prop}
  (c:∀f b,tn 6 [0,3] n (h6 ah pS P nm pl k w l m dn now mn j)=.ok (.next,h6 ah pS P nm pl k w l m (dn++f) f (mn+1) b)->fU nm f->fU nm (dn++f)->Nw nm R dn now f->C):C:=
 (d pS now e).elim λout z=>have g:=amv z.2 hd;c _ _ (ae6 z.1 (a.lim z.2.1) rfl (a.add g.2.1)) g.1 g.2.1 g.2.2
def LH(n:Nat)(ah:Bool)(pS:D)(P:AV)(nm:Y)(pl:List Nat)(k w:D)(l m:Bool)(T:Rl)(dn now:List Nat)(a:Nat)(j:Jn):Prop:=∃out,∃b:Jn,lw 6 [0,3] n (h6 ah pS P nm pl k w l m dn now a j)=.ok (.next,e6 ah pS P nm pl k w l m out b)/\Im nm T pl out
theorem ada(q:nS n ah nm k w R)(r:Ok nm)(g:Nat):∀{dn now:List Nat} {a:Nat} {j:Jn},fU nm dn->fU nm now->(now≠[]->nm.length+1<dn.length+g)->
  I1 nm R l (c7 nm pl) dn->I2 nm R (c7 nm pl) now->I3 nm R (c7 nm pl) dn now->I4 nm l (c7 nm pl) dn->LH n ah pS P nm pl k w l ag (m8 l ag R) dn now a j:=by
 induction g with
 |zero=>intro dn now a j hd i h d h2 c b;cases now with|cons x now=>exact aC (h b5) (ft.mpr hd.len)|nil=>exact⟨dn,jn [vl [],ar a,j 0,j 1],kt (dF []),Q0 hd d c b⟩
 |succ g ih=>intro dn now a j hd i h d h2 c b;cases now with|nil=>exact⟨dn,jn [vl [],ar a,j 0,j 1],kt (dF []),Q0 hd d c b⟩|cons x now=>refine P9 q r hd i λf y e o m hf=>(ih m o (λz=>?_) (d.st h2 hf) (h2.st hf) (c.st hf) b.st).elim λout z=>z.elim λp z=>⟨out,p,qS (dF []) e z.1,z.2⟩;refine ae aS ?_;simp only [fG];exact jb (h b5) (eJ (gn g f.length▸eJ (zf.mpr z) g) _)
theorem adb(c:nS n ah nm k w R)(d:Ok nm){now:List Nat}(a:fU nm pl):LH n ah pS P nm pl k w l af (m8 l af R) (d0 l pl) pl 0 j:=by
 cases pl with
 |nil=>have z:Nw nm R (d0 l []) [] []:=λu=>⟨c7.nil,λz=>z.1.elim λs z=>z.1.nil⟩;have h:=Sf (by rw[bu];exact KV a) z;simp only [bu]at h;exact⟨d0 l [],jn [vl [],ar (0),j 0,j 1],kt (dF []),h⟩
 |cons x pl=>refine P9 c d (KV a) a λf y e g b hf=>⟨d0 l (x::pl)++f,jn [vl f,ar (1),y 0,y 1],qS (dF []) e (kt ?_),Sf b hf⟩;cases f with|nil=>exact dF []|cons x f=>exact dF []
end
section
abbrev Pr:=Pd×Rl
noncomputable def Pr.rel(p:Pr):Rl:=m8 p.1.2.2.1 p.1.2.2.2 p.2
def x8(L:List Pr):Rl:=L.foldr (λp T=>sq p.rel T) Eq
def wf(L:List Pr):List D:=L.map λp=>pd p.1
def Pr.Ok(n:Nat)(ah:Bool)(nm:Y)(p:Pr):Prop:=nS n ah nm p.1.1 p.1.2.1 p.2
def b6(ah:Bool)(pS:D)(P:AV)(nm:Y)(pl:List Nat)(k w:D)(l m:Bool)(j:Jn):Rh:=[.val (ex ah pS),P,aU nm,vl pl,.val k,.val w,.val (lD l),.val (mD m),j 4,j 5,j 6,j 7,j 8]
theorem adc(e:lw 6 [0,3] n (h6 ah pS P nm pl k w l m (d0 l pl) pl 0 (jn [j 7,j 8]))=.ok (.next,e6 ah pS P nm pl k w l m out j')):
  tn 6 [0] n (b6 ah pS P nm pl k w l m j)=.ok (.next,g6 ah pS P nm out (jn [.val k,.val w,.val (lD l),.val (mD m),vl out,j' 0,j' 1,j' 2,j' 3])):=by
 cases l with|true=>exact aX [.l 4 e]|false=>exact aX [.l 6 e]
theorem ae7(a:nS n ah nm k w R)(b:Ok nm)(hp:fU nm pl):LH n ah pS P nm pl k w l m (m8 l m R) (d0 l pl) pl 0 j:=by cases m with|true=>exact adb (now:=pl) a b hp|false=>exact ada a b (nm.length+2) (KV hp) hp (λx=>jb (lO _) (mB _ _)) (λu z=>.inl (xo.mp z)) (λu z=>⟨u,z,.refl⟩) (λs z=>.inl (z.elim id λz=>(xo.mp z).2)) λe s z=>xo.mpr ⟨e,z⟩
theorem aaU(d:Ok nm)(L:List Pr):(∀p∈L,p.Ok n ah nm)->∀{pl:List Nat} {j:Jn},fU nm pl->∃out,∃a:Jn,lf 6 [0] n af [4,5,6,7] (wf L) (g6 ah pS P nm pl j)=.ok (.next,g6 ah pS P nm out a)/\Im nm (x8 L) pl out:=by induction L with|nil=>exactλx pl j hp=>⟨pl,j,rfl,.eq hp⟩|cons p L ih=>exactλh pl j hp=>(ae7 (h p (.head _)) d hp).elim λout z=>z.elim λa z=>(ih (λq m=>h q (.tail _ m)) z.2.1).elim λb y=>y.elim λc y=>⟨b,c,er rfl (adc z.1) y.1,z.2.sq y.2⟩
def Uc(n:Nat)(ah:Bool)(nm:Y)(L:List Pr):Prop:=∀(ps:D) (pl:List Nat),fU nm pl->∃out:List Nat,aV (FN n) 6 [ex ah ps,.list (wf L),.bytes nm,.list (il pl)]=.ok (.list (il out))/\Im nm (x8 L) pl out
theorem Q2(a:Ok nm)(h:∀p∈L,p.Ok n ah nm):Uc (n+1) ah nm L:=λps pl hp=>(aaU (pS:=ps) (P:=cA (wf L)) (j:=jn []) a L h hp).elim λout z=>z.elim λj z=>⟨out,(bc [.l 2 (z.1)]),z.2⟩
end
def mR(F:Fn)(tup:Bool)(is:List Nat)(ifs:List B)(a:X)(ai:List D)(c:Rh):Ev D:=(n6 (λd=>(Ev.of (mM tup is d c)).bind λr=>(nU F ifs r).bind λt=>cond t ((a F r).run.bind λe=>.ok [e]) (.ok [])) ai).calm.bind λds=>Ev.of (gd (ds.length<=aI) (aa (.list ds)))
section
variable{α:Type}{r:α->Rh}{l:List α}
theorem nK(i:l.length<=aI)(h:∀x∈l,mM tup is (f x) c=aa (r x)/\nU F ifs (r x)=.ok (q x)/\(q x=af->(elt F (r x)).run=.ok (e x))):mR F tup is ifs elt (l.map f) c=.ok (.list ((l.filter q).map e)):=by
 have g:n6 (λd=>(Ev.of (mM tup is d c)).bind λr=>(nU F ifs r).bind λt=>cond t ((elt F r).run.bind λe=>.ok [e]) (.ok [])) (l.map f)=.ok ((l.filter q).map e):=by
  clear i
  induction l with
  |nil=>rfl
  |cons x l ih=>have hx:=h x (.head _);show((Ev.of (mM tup is (f x) c)).bind _).bind (λa=>(n6 _ (l.map f)).bind λb=>.ok (a++b))=_;refine ae (ih λy m=>h y (.tail _ m)) (ae hx.1 ?_);show((nU F ifs (r x)).bind _).bind _=_;refine ae hx.2.1 (ae List.filter_cons ?_);cases z:q x with|true=>refine ae (hx.2.2 z) ?_;rfl|false=>rfl
 unfold mR;refine ae g ?_;show Ev.of (gd _ _)=_;refine ae (dU (by rw[aW];exact aw (List.length_filter_le ..) i)) ?_;rfl
theorem Gl{r:Rh}(h:(b F r).run=.ok t):nU F [b] r=.ok t:=by show(b F r).run.bind _=_;refine ae h ?_;cases t<;>rfl
end
section
def pV(ah ng:Bool)(rs:List (Nat×Nat)):Rl:=λs u=>∃c,s=c::u/\jl ah ng rs c=af
noncomputable def Xn:Rl:=λs u=>s=[]/\u=[]
def qf(ah ng:Bool)(rs:List (Nat×Nat))(s:Y):Bool:=cZ s ag λc x=>jl ah ng rs c
theorem tx(b:Ok nm)(h:a<=nm.length):At nm a (nm.drop a):=⟨rfl,ae Hr (ae (oM h) rfl),b⟩
theorem Ud(h:qf ah ng rs s=af):∃c r,s=c::r/\jl ah ng rs c=af:=by cases s with|nil=>cases h|cons c r=>exact⟨c,r,rfl,h⟩
theorem D1(d:Ok nm)(hp:∀a∈pl,a<=nm.length):(∀b∈(pl.filter λa=>qf ah ng rs (nm.drop a)).map (·+1),b<=nm.length)/\∀u,c7 nm ((pl.filter λa=>qf ah ng rs (nm.drop a)).map (·+1)) u↔∃s,c7 nm pl s/\pV ah ng rs s u:=
 ⟨λb m=>(ey.mp m).elim λa z=>have y:=kj.mp z.1
  (Ud y.2).elim λc k=>k.elim λr k=>am z.2 (At.lt (am k.1 (tx d (hp a y.1)))),
  λu=>⟨λz=>z.elim λb z=>(ey.mp z.1).elim λa x=>have y:=kj.mp x.1
  (Ud y.2).elim λc k=>k.elim λr k=>⟨_,⟨a,y.1,(k.1▸tx d (hp a y.1))⟩,c,aj (c::·) ((k.1▸tx d (hp a y.1)).one.1.symm.trans ((aj nm.drop x.2).trans z.2.1)),k.2⟩,
  λz=>z.elim λs z=>z.1.elim λa y=>z.2.elim λc k=>⟨a+1,ey.mpr ⟨a,kj.mpr ⟨y.1,ae y.2.1 (ae k.1 k.2)⟩,rfl⟩,At.one (am k.1 y.2)⟩⟩⟩
theorem w6(d:Ok nm):nS (n+2) ah nm og (f9 ng rs) (pV ah ng rs):=λps pl hp=>by
 have c:mR (FN (n+1)) ag [3] [B.kH af [B.cmp .Lt (.vw 3) (.dG xO (.vw 0)),B.of (.rz [(92,4)] (.loc 1) [.loc 2,.fk eZ (.vw 0) (.loc 3)])]] (.fk c6 (.vw 3) (.c (.int 1))) (il pl) [aU nm,.val (ex ah ps),.val (f9 ng rs),.U]=.ok (.list ((pl.filter λa=>qf ah ng rs (nm.drop a)).map λa:Nat=>.int (a+1))):=
  nK (dk (d.lim hp)) λa m=>⟨rfl,Gl (by
   have z:=tx d (hp.2 a m);cases e:nm.drop a with
   |nil=>simp only [e]at z;exact aG [.b 3 (f0 (cJ z.end.symm))]
   |cons c s=>
    simp only [e]at z;have g:=ahb (n:=n) (ah:=ah) (ng:=ng) (ps:=ps) (c:=c) (rs:=rs);show(B.kH _ _ _ _).run=Ev.ok (jl ah ng rs c);revert g;cases jl ah ng rs c with
    |true=>exactλg=>(aG [.b 3 (bP z.lt),.p 4 z.idx,.q 0 g])
    |false=>exactλg=>(aG [.b 3 (bP z.lt),.p 4 z.idx,.q 0 g])),λx=>rfl⟩
 refine⟨(pl.filter λa=>qf ah ng rs (nm.drop a)).map (·+1),?_,⟨(hp.1.filter _).map (f:=(·+1)) λa b h e=>h (mC e),(D1 d hp.2).1⟩,(D1 d hp.2).2⟩;exact ae (show il ((pl.filter λa=>qf ah ng rs (nm.drop a)).map (·+1))=_ from iR) (bc [.q 8 c])
theorem abW:nS (n+1) ah nm J5 (f9 af []) (λx x=>False):=λps pl hp=>⟨[],(bc []),⟨wJ,λa m=>cf m⟩,λu=>⟨λz=>z.elim λx z=>(cf (z.1)),λz=>z.elim λs z=>z.2.elim⟩⟩
theorem ae8(d:Ok nm):nS (n+1) ah nm LG (f9 af []) Xn:=λps pl hp=>by
 have c:mR (FN n) ag [1] [B.cmp .Eq (.vw 1) (.dG xO (.vw 0))] (.loc 1) (il pl) [aU nm,.U]=.ok (.list (il (pl.filter λa=>(a:Int)==nm.length))):=nK (dk (d.lim hp)) λa m=>⟨rfl,Gl rfl,λx=>rfl⟩;refine⟨pl.filter λa=>(a:Int)==nm.length,(bc [.q 6 c]),⟨hp.1.filter _,λb m=>hp.2 b (kj.mp m).1⟩,λu=>⟨λz=>?_,λz=>?_⟩⟩
 ·refine z.elim λa v=>v.elim λm z=>?_;have m:=kj.mp m;have q:=z.1.symm.trans (wv (cJ (CX (bt m.2)).symm));exact⟨u,⟨a,m.1,z⟩,q,q⟩
 ·obtain⟨_,⟨a,m,y⟩,rfl,rfl⟩:=z;exact⟨a,kj.mpr ⟨m,gP.mpr (aj UQ y.end)⟩,y⟩
theorem ae9(h:Uc n ah nm L):nS (n+1) ah nm LD (.list (wf L)) (x8 L):=λps pl hp=>by obtain⟨out,e,r⟩:=h ps pl hp;exact⟨out,(bc [.q 6 e]),r⟩
theorem afa(e:aV (FN (n+1)) 6 [ex ah ps,ps,.bytes nm,.list [.int 0]]=.ok (.list (il out))):aV (FN (n+2)) 7 [ex ah ps,.bytes nm]=.ok (.bool (!out.isEmpty)):=by cases out with|nil=>exact bc [.q 4 e]|cons x out=>exact bc [.q 4 e,.b 1 ((tt (jJ.mpr (iD _)):aa (decide ((0)<((il (x::out)).length:Int)))=aa af))]
theorem ahc(b:Ok nm)(h:∀p∈L,p.Ok n ah nm):∃t,aV (FN (n+2)) 7 [ex ah (.list (wf L)),.bytes nm]=.ok (.bool t)/\(t=af↔∃u,x8 L nm u):=by obtain⟨out,e,p,r⟩:=Q2 b h (.list (wf L)) [0] ⟨sh.mpr ⟨gM,wJ⟩,λa m=>ae (bB.mp m) (cy _)⟩;refine⟨_,afa e,?_⟩;have c:∀s,c7 nm [0] s->nm=s:=λs z=>z.elim λx z=>(bB.mp z.1▸z.2).1;cases out with|nil=>exact⟨bb,λz=>z.elim λu z=>((r u).mpr ⟨nm,⟨0,.head _,tx b (cy _)⟩,z⟩).nil⟩|cons x out=>exact⟨λy=>((r _).mp ⟨x,.head _,tx b (p.2 x (.head _))⟩).elim λs z=>⟨_,am ((c s z.1).symm) z.2⟩,λy=>rfl⟩
end
theorem KW{a b:Nat}:min (a:Int) b=(min a b:Nat):=(Iz a b).elim (λh=>ae (nw h) (ae (PB (qH.mpr h)) rfl)) λh=>ae (CA h) (ae (OX (qH.mpr h)) rfl)
theorem VJ{a b:Nat}:max (a:Int) b=(max a b:Nat):=(Iz a b).elim (λh=>ae (Nat.max_eq_right h) (ae (Hu (qH.mpr h)) rfl)) λh=>ae (Nat.max_eq_left h) (ae (air (qH.mpr h)) rfl)
noncomputable def bA(l:List Y):List D:=l.map .bytes
theorem ade(l:List Y):cP [] l=l.flatten:=by
 induction l with
 |nil=>rfl
 |cons x l ih=>cases l with|nil=>exact(bu x).symm|cons y l=>show x++[]++cP [] (y::l)=_;refine ae ih ?_;rw[bu];rfl
theorem Ei(l:List Y):eB D.jT (bA l)=aa l:=(w0 (f:=D.bytes) (h:=λy=>y) (λx=>rfl) l).trans (aj aa (RG l))
theorem J6(h:l.flatten.length<=aI):pF (.bytes []) (.list (bA l))=aa (.bytes l.flatten):=by show(eB D.jT (bA l)).bind (λl=>gd ((cP [] l).length<=aI) (aa (D.bytes (cP [] l))))=_;rw[Ei,<-ade]at*;exact dU h
def Fl.go(f:Fl):Bool:=f.el af ag af λx=>ag
theorem VK(h:bd d r=aa r')(hf:f.go=af)(hb:b r'=.ok (f,lK))(hw:fo bd b l lK=.ok o):fo bd b (d::l) r=.ok o:=by cases f with|next=>exact er h hb hw|cont=>exact R8 h hb hw|brk=>cases hf|ret d=>cases hf
def mw(x:Nat×Nat):Y:=cond (cQ x.1 x.2) (gE x.1) (gE x.1++45::gE x.2)
noncomputable def uc(x:Nat×Nat):List (Nat×Nat):=cond (iX x.1 x.2) [x] []
def i7(x:Nat×Nat):List (Nat×Nat):=uc (x.1,min x.2 46)++uc (max x.1 48,x.2)
def oz(l:List (Nat×Nat)):List D:=bA (l.map mw)
theorem Sh:oz (l++l')=oz l++oz l':=by unfold oz bA;exact ae cU (ae cU rfl)
theorem sG(a:Nat):(gE a).length<=2:=by unfold gE;cases yJ.contains a with|true=>exact bO 2|false=>exact gO 1
theorem gy(h:x.length+y.length<=aI):c6 (.bytes x) (.bytes y)=aa (.bytes (x++y)):=dU h
section
variable{a b:Nat}
theorem Qa(c:a<256)(hb:b<256)(d:out.length<aI):∃f g,Fl.go f=af/\tn 8 [1,0] (n+1) [m,.own out,lo,hi,ar a,ar b,z]=.ok (f,[m,.own (out++oz (uc (a,b))),lo,hi,ar a,ar b,g]):=by
 unfold uc;rcases Nat.lt_trichotomy a b with h|rfl|h
 ·refine ae (qo (dk h)) ?_;have e:mw (a,b)=gE a++45::gE b:=by
   unfold mw;refine ae (gL.mpr λe=>kZ h (ni e)) ?_;rfl
  refine⟨.next,aU (gE a++45::gE b),rfl,?_⟩;show _=Ev.ok (Fl.next,[m,.own (out++[.bytes (mw (a,b))]),lo,hi,ar a,ar b,_]);exact ae e (aX [.b 2 (f0 (dk h)),.p 1 (Ab c),.q 0 (w5 n c),.b 2 (vK (kZ h)),.p 2 (Ab hb),.q 0 (w5 n hb),.p 0 (gy (x:=[45]) (aw (eJ (sG b) 1) (eX rfl))),.p 0 (gy (y:=45::gE b) (aw (dz (sG a) (c8 (sG b))) (show 2+3<=aI from by decide))),.b 1 (et d)])
 ·refine ae (qo (bO a)) ?_;have e:mw (a,a)=gE a:=by
   unfold mw;rw[Rx];rfl
  refine⟨.next,aU (gE a),rfl,?_⟩;show _=Ev.ok (Fl.next,[m,.own (out++[.bytes (mw (a,a))]),lo,hi,ar a,ar a,_]);exact ae e (aX [.b 2 (f0 (bO a)),.p 1 (Ab c),.q 0 (w5 n c),.b 2 ((aj (λt=>aa (!t)) (gN rfl):aa (!decide ((a:Int)=a))=aa ag)),.b 1 (et d)])
 ·refine ae (show iX a b=ag from gL.mpr λe=>nD.mpr h (cH e)) ?_;refine⟨.cont,z,rfl,?_⟩;show _=Ev.ok (Fl.cont,[m,.own (out++[]),lo,hi,ar a,ar b,z]);rw[bu];exact aX [.b 2 (bP h)]
noncomputable def r8(m:AV)(out:List D)(lo hi:AV)(j:Jn):Rh:=[m,.own out,lo,hi,j 0,j 1,j 2]
theorem ic{α:Type}{l a:List α}(h:(l++a).length<k):l.length<k:=bn (aS▸cB _ _) h
theorem aaV(hx:x.1<256/\x.2<256)(b:(out++oz (i7 x)).length<aI):∃d:Jn,tn 8 [1] (n+1) (r8 m out (ar x.1) (ar x.2) j)=.ok (.next,r8 m (out++oz (i7 x)) (ar x.1) (ar x.2) d):=by unfold i7 at*;rw[Sh,<-bg]at*;obtain⟨f,z,hf,g⟩:=Qa hx.1 (bn (aiu ..) hx.2) (ic (ic b));obtain⟨i,c,h,g'⟩:=Qa (a:=max x.1 48) (Nat.max_lt.mpr ⟨hx.1,eX rfl⟩) hx.2 (ic b);have e:lf 8 [1,0] (n+1) af [4,5] [.tup [.int x.1,.int (min x.2 46:Nat)],.tup [.int (max x.1 48:Nat),.int x.2]] (r8 m out (ar x.1) (ar x.2) j)=_:=VK rfl hf g (VK rfl h g' rfl);rw[<-KW,<-VJ]at e;exact⟨jn [ar (max x.1 (48)),ar x.2,c],(aX [.l 9 e])⟩
theorem aaW(a:List (Nat×Nat)):∀{out:List D} {lo hi:AV} {j:Jn},(∀x∈a,x.1<256/\x.2<256)->(out++oz (a.flatMap i7)).length<aI->∃c b,∃f:Jn,lf 8 [1] (n+1) af [2,3] (a.map rg) (r8 m out lo hi j)=.ok (.next,r8 m (out++oz (a.flatMap i7)) c b f):=by induction a with|nil=>exactλ{out lo hi j} z z=>⟨lo,hi,j,by refine ae (bu out) ?_;rfl⟩|cons x a ih=>intro out lo hi j h d;simp only [OF,Sh,<-bg]at*;obtain⟨k,i⟩:=aaV (h x (.head _)) (ic d);obtain⟨c,b,e,g⟩:=ih (λy m=>h y (.tail _ m)) d;exact⟨c,b,e,er rfl i g⟩
def kD(a:List (Nat×Nat)):Y:=((a.flatMap i7).map mw).flatten
theorem afb(h:∀x∈ms,x.1<256/\x.2<256)(b:(oz (ms.flatMap i7)).length<aI)(a:(kD ms).length<=aI):aV (FN (n+2)) 8 [.list (ms.map rg)]=.ok (.bytes (kD ms)):=by refine(aaW (n:=n) (m:=cA (ms.map rg)) (out:=[]) (lo:=.U) (hi:=.U) (j:=jn []) ms h b).elim λlo u=>u.elim λhi v=>v.elim λj e=>?_;exact bc [.l 2 e,.p 1 (J6 a)]
end
theorem FU{y:Y}(h:x≠y):aa (!(x==y))=aa af:=aj (λt=>aa (!t)) (fX h)
theorem aq0(h:a=c)(k:b=d):dh (.bytes t) (.int a) (.int b)=dh (.bytes t) (.int c) (.int d):=h▸k▸rfl
theorem tz(m k:Nat):((m+k:Nat):Int)-(k:Nat)=m:=Int.add_sub_cancel (m) k
section
variable{nm s:Y}{k:Nat}
noncomputable def kL(t:Y)(i:Nat)(xs ys:List D)(a b:AV):Rh:=[aU t,ar i,.da xs,.da ys,a,b]
theorem HR(f:tc 46 [2] n (kL t i xs ys a (ar k))=.ok ag)(d:At t k r)(nm:Y):∀{j:Nat},93∉nm->At t j (nm++r)->lw 46 [2] n (kL t i xs ys a (ar j))=.ok (.next,kL t i xs ys a (ar k)):=by induction nm with|nil=>exactλ{j} z h=>am (d.uniq h) (kt f)|cons x nm ih=>exactλ{j} c h=>qS ((dF [.b 3 (bP (At.lt h)),.p 4 (At.fT (k:=1) h (eX rfl)),.b 0 (FU (x:=[x]) (y:=[93]) λe=>c (am ((bD e).1) (.head _)))])) ((aX [])) (ih (λm=>c (.tail _ m)) h.one)
theorem Ji(h:tn 46 [] n (kL t i xs ys .U .U)=o):FN (n+1) 46 [aU t,ar i,.da xs,.da ys]=o:=(vr (eX rfl) (by kernel_rfl)).trans ((by kernel_rfl:_=tn 46 [] n (kL t i xs ys .U .U)).trans h)
theorem Sj(h:At t k (93::s)):tc 46 [2] n (kL t i xs ys a (ar k))=.ok ag:=dF [.b 3 (bP h.lt),.p 4 (At.fT (k:=1) h (eX rfl))]
theorem aj1(h:At t k []):tc 46 [2] n (kL t i xs ys a (ar k))=.ok ag:=dF [.b 3 (f0 (cJ h.end.symm))]
theorem abX(h:At t i (91::58::93::s))(c:xs.length<aI):FN (n+1) 46 [aU t,ar i,.da xs,.da ys]=.ok (.ret (.tup [.int i,.int 91]),kL t i (xs++[rg (91,91)]) ys (ar (i+2:Nat)) (ar (i+2:Nat))):=by have g:tn 46 [] n (kL t i xs ys .U .U)=.ok (.ret (.tup [.int (((i+2:Nat))-(2:Nat)),.int 91]),kL t i (xs++[rg (91,91)]) ys (ar (i+2)) (ar (i+2))):=aX [.l 3 (HR (n:=n) (i:=i) (xs:=xs) (ys:=ys) (a:=ar (i+2)) (Sj h.one.one) h.one.one [] gM h.one.one),.b 3 (dT h.one.one.lt),.b 2 ((tt rfl:aa (decide (((i+2):Int)=(i+2)))=aa af)),.b 0 (et c)];rw[tz]at g;exact Ji g
theorem adf(h:At t i (91::58::nm))(c:93∉nm):FN (n+1) 46 [aU t,ar i,.da xs,.da ys]=.exc:=by have h2:=(bu nm).symm▸h.one.one;exact Ji (sQ [.l 3 (HR (n:=n) (i:=i) (xs:=xs) (ys:=ys) (a:=ar (i+2)) (aj1 h2.bK) h2.bK nm c h2),.b 3 (lG (cJ h2.bK.end.symm))])
theorem Pn(h:At t i (91::58::(nm++58::93::s)))(c:93∉nm)(b:At t (k+1) (93::s))
  (g:lw 46 [2] n (kL t i xs ys (ar (i+2:Nat)) (ar (i+2:Nat)))=.ok (.next,kL t i xs ys (ar (i+2:Nat)) (ar (k+1:Nat)))->aa (decide (((k+1:Nat):Int)=(i+2:Nat)))=aa ag->dh (.bytes t) (.int (((k+1:Nat):Int)-(1:Nat))) (.int (k+1:Nat))=aa (.bytes [58])->dh (.bytes t) (.int (i+2:Nat)) (.int (((k+1:Nat):Int)-(1:Nat)))=aa (.bytes nm)->tn 46 [] n (kL t i xs ys .U .U)=v):FN (n+1) 46 [aU t,ar i,.da xs,.da ys]=v:=by
 have h2:=h.one.one;have a:=mC (b.uniq h2.bK.one);refine Ji (g ?_ ?_ ?_ ?_)
 ·exact HR (Sj b) b (nm++[58]) (λm=>(kW.mp m).elim c λm=>nomatch bB.mp m) (by rw[bg];exact h2)
 ·exact fR λe=>Rv (zk (a▸cB (i+2) nm.length)) e
 ·rw[tz];exact(a▸h2.bK).fT (eX rfl)
 ·rw[tz];refine ae a ?_;exact(h2.fT (bn (mB _ (i+2)) (am a (bX (a▸h2.bK).lt h.2.2)))).trans (aj (λy=>aa (D.bytes y)) HF)
theorem afc(h:At t i (91::58::(nm++58::93::s)))(j:93∉nm)(d:At t (k+1) (93::s)){cl:Y}(hc:kn nm=aa cl)(m:ys.length<aI):FN (n+1) 46 [aU t,ar i,.da xs,.da ys]=.ok (.ret (.tup [.int (k+1:Nat),.none]),kL t i xs (ys++[.bytes cl]) (ar (i+2:Nat)) (ar (k+1:Nat))):=Pn h j d λg f e a=>(aX [.l 3 g,.b 3 (dT d.lt),.b 2 f,.p 4 e,.p 5 a,.b 0 ((aj (λo:Option Y=>aa o.isNone) hc)),.p 4 a,.p 0 ((aj (λo:Option Y=>o.bind λc=>aa (D.bytes c)) hc)),.b 0 (et m)])
theorem adg(h:At t i (91::58::(nm++58::93::s)))(g:93∉nm)(a:At t (k+1) (93::s))(hc:kn nm=ak):FN (n+1) 46 [aU t,ar i,.da xs,.da ys]=.exc:=Pn h g a λf e d c=>(sQ [.l 3 f,.b 3 (dT a.lt),.b 2 e,.p 4 d,.p 5 c,.b 0 ((aj (λo:Option Y=>aa o.isNone) hc))])
end
set_option tactic.hygienic true in
theorem vt(h:c r=.ok af)(hb:b r=.ok (.next,r')):wh c b r=wh c b r':=by
 have e:∀n,gF c b (n+1) r=gF c b n r':=λn=>by show(c r).bind _=_;refine ae h ?_;refine ae hb ?_;rfl
 cases g:wh c b r' with
 |ok o=>exact qS h hb g
 |exc=>
  unfold wh at g;split at g
  ·rename_i q;exact ag8 ((e _).trans g)
  ·cases g
 |no=>
  unfold wh at g⊢;split at g
  ·rename_i q;exact aC g (GQ q)
  ·rename_i q;exact dif_neg λz=>z.elim λn z=>q (by
    cases n with
    |zero=>exact aC rfl z
    |succ n=>exact⟨n,am (e n) z⟩)
noncomputable def bS(t:Y)(i:Nat)(ng:AV)(L K:List D)(p:D)(f:Bool)(c:AV):Rh:=[aU t,ar i,ar t.length,ng,.own L,.own K,.val p,aR f,c,.U]
def bL(n:Nat)(t:Y)(i:Nat)(ng:AV)(L K:List D)(p:D)(f:Bool)(c:AV):Ev Os:=lw 9 [7] n (bS t i ng L K p f c)
section
variable{s:Y}{c:Nat}
theorem py(h:tn 9 [7] n (bS t i ng L K p f c0)=.ok (.next,r)):bL n t i ng L K p f c0=lw 9 [7] n r:=vt (dF []) h
theorem At.cz(h:At t i (c::s)):dh (.bytes t) (.int i) (.int (i+1:Nat))=aa (.bytes [c]):=At.fT h (eX rfl)
noncomputable def dp(c:Nat):AV:=.val (.bytes [c])
theorem Fc(h:At t i (c::s))(hc:([92,93,45,91]:Y).contains c=ag)(a:L.length<aI):bL n t i ng L K p f c0=bL n t (i+1) ng (L++[rg (c,c)]) K (.int c) ag (dp c):=
 have y:=df (df hc).2;have x:=df y.2
 py (aX [.b 2 (dT h.lt),.p 4 h.cz,.b 1 (jZ (x:=[]) (y:=[]) y.1),.b 1 (jZ (x:=[]) (y:=[]) (df hc).1),.b 1 (jZ (x:=[]) (y:=[]) x.1),.b 1 (jZ (x:=[]) (y:=[]) (df x.2).1),.p 2 h.idx,.b 2 (et a)])
theorem Sk(h:At t i (93::s))(a:L.length<aI):bL n t i ng L K .none af c0=bL n t (i+1) ng (L++[rg (93,93)]) K (.int (93:Nat)) ag (dp 93):=py (aX [.b 2 (dT h.lt),.p 4 h.cz,.p 12 h.idx,.b 2 (et a)])
theorem EP(h:At t i (45::s))(a:L.length<aI):bL n t i ng L K .none f c0=bL n t (i+1) ng (L++[rg (45,45)]) K (.int (45:Nat)) ag (dp 45):=py (aX [.b 2 (dT h.lt),.p 4 h.cz,.p 12 h.idx,.b 2 (et a)])
theorem aj2(h:At t i (45::93::s))(a:L.length<aI):bL n t i ng L K (.int c) f c0=bL n t (i+1) ng (L++[rg (45,45)]) K (.int (45:Nat)) ag (dp 45):=py (aX [.b 2 (dT h.lt),.p 4 h.cz,.b 11 (bP h.one.lt),.p 5 h.one.cz,.p 5 h.idx,.b 2 (et a)])
theorem VL(h:At t i (92::c::s))(a:L.length<aI):bL n t i ng L K p f c0=bL n t (i+2) ng (L++[rg (c,c)]) K (.int c) ag (dp 92):=py (aX [.b 2 (dT h.lt),.p 4 h.cz,.b 8 (dT h.one.lt),.p 2 h.one.idx,.b 2 (et a)])
theorem Ue{L:List D}(h:0<L.length):gd (0<L.length) (aa af)=aa af:=dU h
noncomputable def kM(a b:Nat):Nat×Nat:=(a,cond (iX a b) b a)
theorem Xo(h:a<=b):kM a b=(a,b):=by unfold kM;refine ae (qo h) ?_;rfl
theorem Xp(h:¬a<=b):kM a b=(a,a):=by unfold kM;refine ae (gL.mpr λe=>h (cH e)) ?_;rfl
end
section
variable{s nm cl:Y}{i a:Nat}
theorem amw(h:At t i (45::c::s))(hc:([92,93]:Y).contains c=ag)(hd:L.dropLast=L0)(d:0<L.length)(hx:L0++[rg (a,a)]=L):bL n t i ng L K (.int a) f c0=bL n t (i+2) ng (L0++[rg (kM a c)]) K .none ag (dp 45):=by
 have z:=df hc;refine py ?_;by_cases q:a<=c
 ·exact ae (Xo q) (am hd (aX [.b 2 (dT h.lt),.p 4 h.cz,.b 11 (bP h.one.lt),.p 5 h.one.cz,.b 0 (FU (x:=[c]) (y:=[93]) λe=>(df z.2).1 (bD e).1),.p 6 h.one.cz,.b 0 (jZ (x:=[]) (y:=[]) z.1),.p 3 h.one.idx,.b 0 (lG q),.p 3 h.one.idx,.b 0 (Ue d)]))
 ·exact ae (Xp q) (ae hx (aX [.b 2 (dT h.lt),.p 4 h.cz,.b 11 (bP h.one.lt),.p 5 h.one.cz,.b 0 (FU (x:=[c]) (y:=[93]) λe=>(df z.2).1 (bD e).1),.p 6 h.one.cz,.b 0 (jZ (x:=[]) (y:=[]) z.1),.p 3 h.one.idx,.b 0 (dT (lP q))]))
theorem Uf(h:At t i (45::92::c::s))(hd:L.dropLast=L0)(d:0<L.length)(hx:L0++[rg (a,a)]=L):bL n t i ng L K (.int a) f c0=bL n t (i+3) ng (L0++[rg (kM a c)]) K .none ag (dp 45):=by
 refine py ?_;by_cases q:a<=c
 ·exact ae (Xo q) (am hd (aX [.b 2 (dT h.lt),.p 4 h.cz,.b 11 (bP h.one.lt),.p 5 h.one.cz,.p 7 h.one.cz,.b 5 (dT h.one.one.lt),.p 3 h.one.one.idx,.b 0 (lG q),.p 3 h.one.one.idx,.b 0 (Ue d)]))
 ·exact ae (Xp q) (ae hx (aX [.b 2 (dT h.lt),.p 4 h.cz,.b 11 (bP h.one.lt),.p 5 h.one.cz,.p 7 h.one.cz,.b 5 (dT h.one.one.lt),.p 3 h.one.one.idx,.b 0 (dT (lP q))]))
theorem Ug(h:FN n 46 [aU t,ar i,.da L,.da K]=.ok (.ret d,kL t i L' K' x y)):T.s7 ag (FN n) 46 [aU t,ar i] [4,5] (bS t i ng L K p f c0)=.ok (.ret d,bS t i ng L' K' p f c0):=by show((FN n 46 [aU t,ar i,.da L,.da K]).bind _).bind _=_;refine ae h ?_;rfl
theorem Uh(h:FN n 46 [aU t,ar i,.da L,.da K]=.exc):T.s7 ag (FN n) 46 [aU t,ar i] [4,5] (bS t i ng L K p f c0)=.exc:=by show((FN n 46 [aU t,ar i,.da L,.da K]).bind _).bind _=_;refine ae h ?_;rfl
theorem aj3(h:At t i (91::58::(nm++58::93::s)))(a:93∉nm)(d:At t (k+1) (93::s))(hc:kn nm=aa cl)(c:K.length<aI):bL (n+1) t i ng L K p f c0=bL (n+1) t (k+2) ng L (K++[.bytes cl]) .none ag (dp 91):=py (aX [.b 2 (dT h.lt),.p 4 h.cz,.p 13 h.one.cz,.l 3 (Ug (ng:=ng) (p:=p) (f:=ag) (c0:=dp 91) (afc (n:=n) (xs:=L) h a d hc c))])
theorem aj4(h:At t i (91::58::93::s))(a:L.length<aI):bL (n+1) t i ng L K p f c0=bL (n+1) t (i+1) ng (L++[rg (91,91)]) K (.int (91:Nat)) ag (dp 91):=py (aX [.b 2 (dT h.lt),.p 4 h.cz,.p 13 h.one.cz,.l 3 (Ug (ng:=ng) (p:=p) (f:=ag) (c0:=dp 91) (abX (n:=n) (ys:=K) h a))])
theorem Ui(h:At t i (93::s)):bL n t i ng L K p ag c0=.ok (.next,bS t i ng L K p ag (dp 93)):=Ua (dF []) (aX [.b 2 (dT h.lt),.p 4 h.cz])
theorem Az(h:tn 9 [7] n (bS t i ng L K p f c0)=.exc):bL n t i ng L K p f c0=.exc:=Ub (dF []) h
theorem LI(h:At t i []):bL n t i ng L K p f c0=.exc:=Az (sQ [.b 2 (lG (cJ h.end.symm))])
theorem Xq(h:At t i [92]):bL n t i ng L K p f c0=.exc:=Az (sQ [.b 2 (dT h.lt),.p 4 h.cz,.b 8 (lG (cJ h.one.end.symm))])
theorem aoy(h:At t i [45,92]):bL n t i ng L K (.int a) f c0=.exc:=Az (sQ [.b 2 (dT h.lt),.p 4 h.cz,.b 11 (bP h.one.lt),.p 5 h.one.cz,.p 7 h.one.cz,.b 5 (lG (cJ h.one.one.end.symm))])
theorem aoz(h:At t i (91::58::nm))(a:93∉nm):bL (n+1) t i ng L K p f c0=.exc:=Az (sQ [.b 2 (dT h.lt),.p 4 h.cz,.p 13 h.one.cz,.y 3 (Uh (ng:=ng) (p:=p) (f:=ag) (c0:=dp 91) (adf (n:=n) (xs:=L) (ys:=K) h a))])
theorem aoA(h:At t i (91::58::(nm++58::93::s)))(a:93∉nm)(c:At t (k+1) (93::s))(hc:kn nm=ak):bL (n+1) t i ng L K p f c0=.exc:=Az (sQ [.b 2 (dT h.lt),.p 4 h.cz,.p 13 h.one.cz,.y 3 (Uh (ng:=ng) (p:=p) (f:=ag) (c0:=dp 91) (adg (n:=n) (xs:=L) (ys:=K) h a c hc))])
end
def Pp(q:Bool)(p:D):Prop:=p=.none\/(q=ag/\∃c:Nat,p=.int c)
def Lg(L:List D)(a:List (Nat×Nat)):List D:=L++a.map rg
def Ky(K:List D)(k:List Y):List D:=K++bA k
def cS(n:Nat)(q:Bool)(e:Y)(a:List (Nat×Nat))(k:List Y)(c:Bool):Prop:=∀{t s:Y} {i j:Nat} {ng:AV} {L K:List D} {p:D} {f:Bool} {c0:AV},At t i (e++s)->At t j s->Pp q p->(Lg L a).length<aI->(Ky K k).length<aI->
 ∃b d,Pp c b/\bL n t i ng L K p f c0=bL n t j ng (Lg L a) (Ky K k) b (e.isEmpty&&f) d
section
variable{e':Y}
theorem J7:Lg L (a++a')=Lg (Lg L a) a':=by unfold Lg;simp only [cU,bg]
theorem aj5:Ky K (k++k')=Ky (Ky K k) k':=by unfold Ky bA;simp only [cU,bg]
theorem vc:Ky K []=K:=bu K
theorem aj6:(e'.isEmpty&&(e.isEmpty&&f))=((e++e').isEmpty&&f):=by cases e<;>cases e'<;>rfl
theorem cS.trans(h:cS n q e a k q1)(c:cS n q1 e' a' k' q2):cS n q (e++e') (a++a') (k++k') q2:=λ{t s i j ng L K p f r} x y z l m=>by simp only [bg]at x;rw[J7]at l⊢;rw[aj5]at m⊢;exact(h x x.bK z (ic l) (ic m)).elim λg w=>w.elim λo w=>(c x.bK y w.1 l m).elim λb v=>v.elim λd v=>⟨b,d,v.1,am aj6 (w.2.trans v.2)⟩
theorem cS.weak(h:cS n q e a k q1):cS n q e a k ag:=λx y z l m=>(h x y z l m).elim λp w=>w.elim λc w=>⟨p,c,w.1.imp id λv=>⟨rfl,v.2⟩,w.2⟩
theorem cS.any(h:cS n ag e a k q1):cS n af e a k q1:=λx y z l m=>h x y (z.imp id λv=>⟨rfl,v.2⟩) l m
theorem cS.nil:cS n q [] [] [] q:=λ{t s i j ng L K p f a} x y z l m=>⟨p,a,z,by refine ae (y.uniq x) (ae (show Lg L []=L from bu L) (ae vc ?_));rfl⟩
theorem cS.lit(hc:([92,93,45,91]:Y).contains c=ag):cS n ag [c] [(c,c)] [] ag:=λx y z l m=>⟨_,dp c,.inr ⟨rfl,c,rfl⟩,(Fc x hc (ic l)).trans (by refine ae (y.uniq x.one) (ae vc ?_);rfl)⟩
theorem cS.dash:cS n af [45] [(45,45)] [] ag:=λx y z l m=>⟨_,dp 45,.inr ⟨rfl,45,rfl⟩,ae (z.elim id λv=>bU (v.1)) ((EP x (ic l)).trans (by refine ae (y.uniq x.one) (ae vc ?_);rfl))⟩
theorem cS.yL:cS n ag [92,c] [(c,c)] [] ag:=λx y z l m=>⟨_,dp 92,.inr ⟨rfl,c,rfl⟩,(VL x (ic l)).trans (by refine ae (y.uniq x.one.one) (ae vc ?_);rfl)⟩
theorem len_pos{x:D}:0<(L++[x]).length:=by exact ae aS (iD _)
theorem cS.ud(hc:([92,93,45,91]:Y).contains c=ag)(hd:([92,93]:Y).contains d=ag):cS n ag [c,45,d] [kM c d] [] af:=λx y z l m=>⟨_,dp 45,.inl rfl,(Fc x hc (ic l)).trans ((amw x.one hd wx len_pos rfl).trans (by refine ae (y.uniq x.one.one.one) (ae vc ?_);rfl))⟩
theorem cS.LJ:cS n ag [92,c,45,92,d] [kM c d] [] af:=λx y z l m=>⟨_,dp 45,.inl rfl,(VL x (ic l)).trans ((Uf x.one.one wx len_pos rfl).trans (by refine ae (y.uniq x.one.one.one.one.one) (ae vc ?_);rfl))⟩
theorem cS.name{cl:Y}(a:93∉nm)(hc:kn nm=aa cl):cS (n+1) ag (91::58::(nm++[58,93])) [] [cl] af:=λ{t s i j ng L K p f b} x y z l m=>by have x:At t i (91::58::(nm++[58,93]++s)):=x;simp only [bg]at x;exact⟨_,dp 91,.inl rfl,(aj3 x a x.one.one.bK.one hc (ic m)).trans (by refine ae (y.uniq x.one.one.bK.one.one) (ae (show Lg L []=L from bu L) ?_);rfl)⟩
end
def cv(R:List (Nat×Nat))(x:Int):Bool:=R.any λp=>bw p.1 x p.2
noncomputable def j7(ps:List (Y×Nat×Nat)):List (Nat×Nat):=ps.map (·.2)
def Sq(e:Y)(R a:List (Nat×Nat))(k:List Y)(ps:List (Y×Nat×Nat)):Prop:=(k.flatten=cl ps/\k.length<=e.length)/\(∀p∈ps,Pc p)/\(∀x∈a,x.1<256/\x.2<256)/\(∀x,x≠47->(cv a x||cv (j7 ps) x)=cv R x)/\cv (j7 ps) 47=ag/\a.length<=e.length/\ps.length<=e.length/\k.flatten.length<=2*e.length
def Sp(q:Bool)(e:Y)(R:List (Nat×Nat))(b:Bool):Prop:=∃a k ps,(∀n,cS (n+1) q e a k b)/\Sq e R a k ps
section
variable{e:Y}
theorem sS:cv (R++R') x=(cv R x||cv R' x):=List.any_append
theorem Jj:j7 (ps++kN)=j7 ps++j7 kN:=cU
theorem Uj:cl (ps++kN)=cl ps++cl kN:=by unfold cl;exact ae cU (ae G2 rfl)
theorem dg{α:Type}{P:α->Prop}{l a:List α}(h:∀x∈l,P x)(b:∀x∈a,P x):∀x∈l++a,P x:=λx m=>(kW.mp m).elim (h x) (b x)
theorem Sl{α β:Type}{l a:List α}{m m':List β}(h:l.length<=w*m.length)(b:a.length<=w*m'.length):(l++a).length<=w*(m++m').length:=by refine ae aS ?_;simp only [aS,anH];exact dz h b
theorem IQ{α β:Type}{l a:List α}{m m':List β}(h:l.length<=m.length)(b:a.length<=m'.length):(l++a).length<=(m++m').length:=am (uQ (m++m').length) (Sl (am ((uQ _).symm) h) (am ((uQ _).symm) b))
theorem Sq.app(h:Sq e R a k ps)(b:Sq e' R' a' k' kN):Sq (e++e') (R++R') (a++a') (k++k') (ps++kN):=
 ⟨⟨ae G2 (ae Uj (ae h.1.1 (ae b.1.1 rfl))),IQ h.1.2 b.1.2⟩,dg h.2.1 b.2.1,dg h.2.2.1 b.2.2.1,λx z=>by refine ae Jj (ae sS (ae sS (ae sS (am (h.2.2.2.1 x z) (am (b.2.2.2.1 x z) ?_)))));cases cv a x<;>cases cv a' x<;>cases cv (j7 ps) x<;>rfl,
  by refine ae Jj (ae sS (ae h.2.2.2.2.1 (ae b.2.2.2.2.1 ?_)));rfl,IQ h.2.2.2.2.2.1 b.2.2.2.2.2.1,IQ h.2.2.2.2.2.2.1 b.2.2.2.2.2.2.1,ae G2 (Sl h.2.2.2.2.2.2.2 b.2.2.2.2.2.2.2)⟩
theorem Sp.trans(h:Sp q e R q1)(d:Sp q1 e' R' q2):Sp q (e++e') (R++R') q2:=h.elim λa z=>z.elim λk z=>z.elim λps z=>d.elim λf y=>y.elim λc y=>y.elim λb y=>⟨a++f,k++c,ps++b,λn=>cS.trans (z.1 n) (y.1 n),z.2.app y.2⟩
theorem Sp.weak(h:Sp q e R q1):Sp q e R ag:=h.elim λa z=>z.elim λk z=>z.elim λps z=>⟨a,k,ps,λn=>cS.weak (z.1 n),z.2⟩
theorem Sp.any(h:Sp ag e R q1):Sp af e R q1:=h.elim λa z=>z.elim λk z=>z.elim λps z=>⟨a,k,ps,λn=>cS.any (z.1 n),z.2⟩
theorem Sp.nil:Sp q [] [] q:=⟨[],[],[],λn=>cS.nil,⟨rfl,bO 0⟩,λp m=>(cf m),λp m=>(cf m),λx x=>rfl,rfl,bO 0,bO 0,bO 0⟩
theorem Sq.rs(h:r.1<256/\r.2<256):Sq (c::e) [r] [r] [] []:=⟨⟨rfl,cy _⟩,λp m=>(cf m),λx m=>bB.mp m▸h,λx x=>qC _,rfl,c8 (cy _),cy _,cy _⟩
theorem Sp.lit(h:c<256)(hc:([92,93,45,91]:Y).contains c=ag):Sp ag [c] [(c,c)] ag:=⟨_,_,_,λn=>cS.lit hc,.rs ⟨h,h⟩⟩
theorem Sp.dash:Sp af [45] [(45,45)] ag:=⟨_,_,_,λn=>cS.dash,.rs (eX rfl)⟩
theorem Sp.yL(h:c<256):Sp ag [92,c] [(c,c)] ag:=⟨_,_,_,λn=>cS.yL,.rs ⟨h,h⟩⟩
theorem Sp.ud(hc:([92,93,45,91]:Y).contains c=ag)(hd:([92,93]:Y).contains d=ag)(h:(kM c d).1<256/\(kM c d).2<256):Sp ag [c,45,d] [kM c d] af:=⟨_,_,_,λn=>cS.ud hc hd,.rs h⟩
theorem Sp.LJ(h:(kM c d).1<256/\(kM c d).2<256):Sp ag [92,c,45,92,d] [kM c d] af:=⟨_,_,_,λn=>cS.LJ,.rs h⟩
theorem Sp.name(a:93∉nm)(hc:kn nm=aa (cl ps))(hp:∀p∈ps,Pc p)(b:∀x,x≠47->cv (j7 ps) x=cv R x)(h:cv (j7 ps) 47=ag/\ps.length<=4/\(cl ps).length<=8+2*nm.length):Sp ag (91::58::(nm++[58,93])) R af:=
 have l:(91::58::(nm++[58,93])).length=4+nm.length:=by rw[eY,eY,aS,gn 4];rfl
 ⟨[],[cl ps],ps,λn=>cS.name a hc,⟨bu _,l▸aw (by decide:1<=4) (cB _ _)⟩,hp,λx m=>(cf m),b,h.1,cy _,l▸aw h.2.1 (cB _ _),by rw[l,anH,show[cl ps].flatten=cl ps from bu _];exact h.2.2⟩
theorem xC(h:([92,93,45,94]:Y).contains o=ag):ub [o] o:=.inl ⟨rfl,(df h).1,(df (df h).2).1,(df (df (df h).2).2).1,(df (df (df (df h).2).2).2).1⟩
theorem vL(h:([92,93,45,94]:Y).contains a=ag)(c:([92,93,45,94]:Y).contains b=ag):Pc ([a,45,b],a,b):=.inr ⟨[a],[b],rfl,xC h,xC c⟩
theorem amx(h:x≠47):bw 33 x 46=bw 33 x 47:=aj (_&&·) (decide_eq_decide.mpr ⟨λz=>Rp z (eX rfl),λz=>acv (Int.lt_iff_le_and_ne.mpr ⟨z,h⟩)⟩)
end
noncomputable def tA:List (Y×List (Nat×Nat)):=[([97],[(97,97)]),([97,45,99],[(97,99)]),([99,45,97],[(99,99)]),([43,45,57],[(43,57)]),([47],[(47,47)]),([92,93],[(93,93)]),([92,45],[(45,45)]),([92,92],[(92,92)]),([92,97,45,92,99],[(97,99)]),([97,45,99,45,120],[(97,99),(45,45),(120,120)]),([91,58,100,105,103,105,116,58,93,45,122],[(48,57),(45,45),(122,122)]),
  ([120,94,33],[(120,120),(94,94),(33,33)]),([91,58,97,108,112,104,97,58,93],[(65,90),(97,122)]),([91,58,117,112,112,101,114,58,93],[(65,90)]),([91,58,112,117,110,99,116,58,93],[(33,47),(58,64),(91,96),(123,126)]),([91,58,98,108,97,110,107,58,93],[(9,9),(32,32)]),([89,45,98],[(89,98)])]
theorem aQ{α:Type}{P:α->Prop}{x:α}{l:List α}(h:P x/\∀x∈l,P x):∀y∈x::l,P y:=eV.mpr h
theorem aZ{α:Type}{P:α->Prop}:∀x∈([]:List α),P x:=λx m=>cf m
theorem J8:∀x∈tA,Sp ag x.1 x.2 ag:=
 have L:∀c,c<256->([92,93,45,91]).contains c=ag->Sp ag [c] [(c,c)] ag:=λc=>.lit
 aQ ⟨(L 97 (eX rfl) rfl),
 aQ ⟨(Sp.ud rfl rfl (eX rfl)).weak,
 aQ ⟨(Sp.ud rfl rfl (eX rfl)).weak,
 aQ ⟨(Sp.ud rfl rfl (eX rfl)).weak,
 aQ ⟨(L 47 (eX rfl) rfl),
 aQ ⟨(Sp.yL (eX rfl)),
 aQ ⟨(Sp.yL (eX rfl)),
 aQ ⟨(Sp.yL (eX rfl)),
 aQ ⟨(Sp.LJ (eX rfl)).weak,
 aQ ⟨((Sp.ud rfl rfl (eX rfl)).trans (Sp.dash.trans (L 120 (eX rfl) rfl))),
 aQ ⟨((Sp.name (nm:=[100,105,103,105,116]) (eX rfl) rfl (aQ ⟨vL rfl rfl,aZ⟩) (λy y=>rfl) (by decide+kernel)).trans (Sp.dash.trans (L 122 (eX rfl) rfl))),
 aQ ⟨((L 120 (eX rfl) rfl).trans ((L 94 (eX rfl) rfl).trans (L 33 (eX rfl) rfl))),
 aQ ⟨(Sp.name (nm:=[97,108,112,104,97]) (eX rfl) rfl (aQ ⟨vL rfl rfl,aQ ⟨vL rfl rfl,aZ⟩⟩) (λy y=>rfl) (by decide+kernel)).weak,
 aQ ⟨(Sp.name (nm:=[117,112,112,101,114]) (eX rfl) rfl (aQ ⟨vL rfl rfl,aZ⟩) (λy y=>rfl) (by decide+kernel)).weak,
 aQ ⟨(Sp.name (R:=[(33,47),(58,64),(91,96),(123,126)]) (nm:=[112,117,110,99,116]) (ps:=[([33,45,46],33,46),([58,45,64],58,64),([92,91,45,96],91,96),([123,45,126],123,126)]) (eX rfl) rfl (aQ ⟨vL rfl rfl,aQ ⟨vL rfl rfl,aQ ⟨.inr ⟨[92,91],[96],rfl,.inr (.inl ⟨rfl,eX rfl⟩),xC rfl⟩,aQ ⟨vL rfl rfl,aZ⟩⟩⟩⟩) (λx h=>aj (λt=>t||cv [(58,64),(91,96),(123,126)] x) (amx h)) (by decide+kernel)).weak,
 aQ ⟨(Sp.name (nm:=[98,108,97,110,107]) (ps:=[([92,116],9,9),([32],32,32)]) (eX rfl) rfl (aQ ⟨.inl ⟨.inr (.inr ⟨rfl,rfl⟩),rfl⟩,aQ ⟨.inl ⟨xC rfl,rfl⟩,aZ⟩⟩) (λy y=>rfl) (by decide+kernel)).weak,
 aQ ⟨(Sp.ud rfl rfl (eX rfl)).weak,
 aZ⟩⟩⟩⟩⟩⟩⟩⟩⟩⟩⟩⟩⟩⟩⟩⟩⟩
section
theorem afd{α β:Type}{f:α->β->Bool}(l:List α)(m:List β):(l.any λx=>m.any λy=>f x y)=m.any λy=>l.any λx=>f x y:=by rw[iC,oS,oS];exact⟨λz=>z.elim λx z=>(oS.mp z.2).elim λy w=>⟨y,w.1,oS.mpr ⟨x,z.1,w.2⟩⟩,λz=>z.elim λy z=>(oS.mp z.2).elim λx w=>⟨x,w.1,oS.mpr ⟨y,z.1,w.2⟩⟩⟩
theorem Jk:ju ah rs c=(g9 ah c).any (cv rs):=afd rs (g9 ah c)
theorem zU{α:Type}{f g:α->Bool}{l:List α}(h:∀x∈l,f x=g x):l.any f=l.any g:=by induction l with|nil=>rfl|cons x l ih=>exact ae zA (ae zA (ae (h x (.head _)) (ae (ih λy m=>h y (.tail _ m)) rfl)))
theorem Uk(h:(47:Int)∈g9 ah c):c=47:=by
 have g:∀{t:Bool} {l:Int},(47)∈cond t [l] []->t=af/\47=l:=λ{t l} m=>by cases t with|true=>exact⟨rfl,bB.mp m⟩|false=>cases m
 have k:∀{a b:Nat},(ah&&bw a c b)=af->(a:Int)<=c:=λz=>eX ((eg _ _).mp ((eg _ _).mp z).2).1;exact(kW.mp h).elim (λh=>(kW.mp h).elim (λh=>(CX (bB.mp h)).symm) λh=>aC ((g h).2▸Int.add_le_add_right (k (g h).1) 32) (eX rfl)) λh=>aC ((g h).2▸Int.sub_le_sub_right (k (g h).1) 32) (eX rfl)
theorem Ul:g9 ah 47=[47]:=by cases ah<;>rfl
theorem Um:cv (uc x) y=bw x.1 y x.2:=by unfold uc;cases h:iX x.1 x.2 with|true=>exact qC _|false=>have z:¬x.1<=x.2:=λz=>bb (h.symm.trans (qo z));refine(gL.mpr λw=>?_).symm;have w:=(eg _ _).mp w;exact z (qH.mp (Rp (eX w.1) (eX w.2)))
theorem Sm(x:Nat×Nat):cv (i7 x) y=af↔((x.1:Int)<=y/\y<=x.2/\y<=(46:Nat))\/(((x.1:Int)<=y/\((48:Nat):Int)<=y)/\y<=x.2):=by unfold i7;refine ae sS (ae Um (ae Um ?_));unfold bw;rw[ki,eg,eg,mA,mA,mA,mA,<-KW,<-VJ,Int.le_min,Int.max_le]
theorem aj7(x:Nat×Nat)(h:y≠47):cv (i7 x) y=bw x.1 y x.2:=by unfold bw;rw[iC,Sm,eg,mA,mA];exact⟨λz=>z.elim (λz=>⟨z.1,z.2.1⟩) λz=>⟨z.1.1,z.2⟩,λz=>(Int.lt_or_gt_of_ne h).elim (λq=>.inl ⟨z.1,z.2,acv q⟩) λq=>.inr ⟨⟨z.1,q⟩,z.2⟩⟩
theorem aj8(x:Nat×Nat):cv (i7 x) 47=ag:=gL.mpr λz=>((Sm x).mp z).elim (λz=>aC z.2.2 (eX rfl)) λz=>aC z.1.2 (eX rfl)
theorem Sn(a:List (Nat×Nat)):(∀y,y≠47->cv (a.flatMap i7) y=cv a y)/\cv (a.flatMap i7) 47=ag:=by induction a with|nil=>exact⟨λz z=>rfl,rfl⟩|cons x a ih=>exact ae OF (⟨λy h=>by refine ae sS ?_;refine ae (aj7 x h) ?_;refine ae (ih.1 y h) ?_;rfl,by refine ae sS ?_;rw[aj8];refine ae ih.2 ?_;rfl⟩)
theorem ky{l:Y}(h:l.contains a=ag)(k:l.contains b=af):a≠b:=λe=>by have h:=k▸e▸h;cases h
theorem Jl(a:Nat):ub (gE a) a:=by unfold gE;cases h:yJ.contains a with|true=>exact .inr (.inl ⟨rfl,λe=>(nomatch (e▸h)),λe=>(nomatch (e▸h)),λe=>(nomatch (e▸h)),λe=>(nomatch (e▸h))⟩)|false=>exact .inl ⟨rfl,ky h rfl,ky h rfl,ky h rfl,ky h rfl⟩
theorem aj9(x:Nat×Nat):Pc (mw x,x):=by unfold mw;cases h:cQ x.1 x.2 with|true=>exact .inl ⟨Jl x.1,(ni h).symm⟩|false=>exact .inr ⟨gE x.1,gE x.2,rfl,Jl x.1,Jl x.2⟩
def ue(a:List (Nat×Nat))(ps:List (Y×Nat×Nat)):List (Y×Nat×Nat):=(a.flatMap i7).map (λx=>(mw x,x))++ps
theorem aka(h:∀p∈ps,Pc p):∀p∈ue a ps,Pc p:=dg (λp m=>(ey.mp m).elim λx z=>am z.2 (aj9 x)) h
theorem akb:cl (ue a ps)=kD a++cl ps:=by unfold ue;exact ae Uj (aj (·.flatten++cl ps) iR)
theorem ahd:j7 (ue a ps)=a.flatMap i7++j7 ps:=by unfold ue;exact ae Jj (aj (·++j7 ps) (iR.trans (RG _)))
theorem nL{α β:Type}{f:α->List β}(h:∀x,(f x).length<=w)(l:List α):(l.flatMap f).length<=w*l.length:=by induction l with|nil=>exact cy _|cons x l ih=>refine ae OF ?_;rw[aS,gn];exact dz ih (h x)
theorem J9(x:Nat×Nat):(i7 x).length<=2:=by
 have h:∀y,(uc y).length<=1:=λy=>by unfold uc;cases iX y.1 y.2 with|true=>exact bO 1|false=>exact cy 1
 unfold i7;exact ae aS (dz (h _) (h _))
theorem akc(x:Nat×Nat):(mw x).length<=5:=by unfold mw;cases cQ x.1 x.2 with|true=>exact aw (sG _) (eX rfl)|false=>exact ae aS (dz (sG _) (c8 (sG _)))
theorem Ss(a:List (Nat×Nat)):(kD a).length<=5*(2*a.length):=aw (nL akc (a.flatMap i7)) (dy 5 (nL J9 a))
theorem Sq.cv(h:Sq e R a k ps):cv (j7 (ue a ps)) y=(!decide (y=47)&&cv R y):=by
 refine ae ahd (ae sS ?_);by_cases z:y=47
 ·refine ae z (ae ((Sn a).2) (ae h.2.2.2.2.1 ?_));rfl
 ·refine ae ((Sn a).1 y z) (ae (h.2.2.2.1 y z) (ae (lQ z) ?_));rfl
end
section
def Ls(n:Nat)(e:Y)(a:List (Nat×Nat)):Prop:=∀{t s:Y} {i j:Nat} {ng:AV} {L K:List D} {p:D} {c0:AV},At t i (e++93::s)->At t j (93::s)->Pp ag p->(Lg L a).length<aI->∃b c,bL n t i ng L K p ag c0=bL n t j ng (Lg L a) K b ag c
theorem Ls.nil:Ls n [] []:=λ{t s i j ng L K p a} x y z h=>⟨p,a,ae (y.uniq x) (ae (show Lg L []=L from bu L) rfl)⟩
theorem Ls.dash:Ls n [45] [(45,45)]:=λx y z h=>⟨.int (45),dp 45,z.elim (λz=>ae z ((EP x (ic h)).trans (by refine ae (y.uniq x.one) ?_;rfl))) λz=>z.2.elim λc z=>ae z ((aj2 x (ic h)).trans (by refine ae (y.uniq x.one) ?_;rfl))⟩
theorem Ls.open:Ls (n+1) [91,58] [(91,91),(58,58)]:=λ{t s i j ng L K p a} x y z h=>by rw[show Lg L [(91,91),(58,58)]=L++[rg (91,91)]++[rg (58,58)]from(bg L [rg (91,91)] [rg (58,58)]).symm]at h⊢;exact⟨.int (58:Nat),dp 58,(aj4 x (ic (ic h))).trans ((Fc x.one rfl (ic h)).trans (am (y.uniq x.one.one) rfl))⟩
def Bd(n:Nat)(e:Y)(a:List (Nat×Nat))(k:List Y):Prop:=∀{t s:Y} {i j:Nat} {ng:AV},At t i (e++93::s)->At t j (93::s)->(Lg [] a).length<aI->(Ky [] k).length<aI->∃p c,bL n t i ng [] [] .none af .U=.ok (.next,bS t j ng (Lg [] a) (Ky [] k) p ag c)
theorem Bd.of(h:cS n af e a k q)(f:e.isEmpty=ag)(g:Ls n l b):Bd n (e++l) (a++b) k:=λ{t s i j ng} x y u v=>by simp only [bg]at x;rw[J7]at u⊢;exact(h x x.bK (.inl rfl) (ic u) v).elim λp z=>z.elim λc z=>(g x.bK y (z.1.elim .inl λz=>.inr ⟨rfl,z.2⟩) u).elim λd w=>w.elim λm w=>⟨d,dp 93,z.2.trans ((by rw[f];exact w:_=_).trans (Ui y))⟩
theorem Bd.of1(h:cS n ag e a k q)(f:Ls n l b):Bd n (93::e++l) ((93,93)::a++b) k:=λ{t s i j ng} x y u v=>by have x:=x;simp only [bg]at x;rw[J7,show Lg [] ((93,93)::a)=Lg [rg (93,93)] a from rfl]at u⊢;exact(h x.one x.one.bK (.inr ⟨rfl,93,rfl⟩) (ic u) v).elim λp z=>z.elim λc z=>(f x.one.bK y (z.1.elim .inl λz=>.inr ⟨rfl,z.2⟩) u).elim λd w=>w.elim λg w=>⟨d,dp 93,(Sk x (eX rfl)).trans (z.2.trans ((by rw[wH];exact w:_=_).trans (Ui y)))⟩
noncomputable def vM(ng:Bool)(b:Y):Y:=cond ng ([91,94,47]++b++[93]) (cond b.isEmpty [40,63,33,41] ([91]++b++[93]))
def FV(n:Nat)(e out:Y):Prop:=∀{t s:Y} {i j:Nat},At t i (e++s)->At t j s->aV (FN n) 9 [.bytes t,.int i]=.ok (.tup [.int j,.bytes out])
def BS(a:Y)(ng:Bool):Prop:=(a=[]/\ng=ag)\/((a=[33]\/a=[94])/\ng=af)
theorem VM(h:([33,94]:Y).contains c=ag):j4 (.bytes [c]) (.tup [.bytes [33],.bytes [94]])=aa ag:=by have q:∀d,c≠d->(([c])==[d])=ag:=λd z=>fX λe=>z (bD e).1;show aa (([[33],[94]]).contains [c])=_;simp only [oN,oN,q 33 (df h).1,q 94 (df (df h).2).1];rfl
theorem akd(h:k.flatten.length<=aI):pF (.bytes []) (.list (Ky [] k))=aa (.bytes k.flatten):=J6 h
theorem adh(hb:Bd (n+2) body a k)(F:Sq body R a k ps)(hh:∃c r,body=c::r/\([33,94]:Y).contains c=ag)(K:body.length<1000)(hs:BS sT ng):FV (n+3) (sT++(body++[93])) (vM ng (kD a++k.flatten)):=λ{t s i j} x y=>by
 have L:=dk (bn F.2.2.2.2.2.1 K);have N:=aw (Ss a) (dy 5 (dy 2 L));have J:=dz N (aw F.2.2.2.2.2.2.2 (dy 2 (dk (bX K (by decide:1000<5000)))));have M:=aS▸J;have H:=afb (n:=n) F.2.2.1 (by unfold oz bA;rw[aW,aW];exact bn (aw (nL J9 a) (dy 2 L)) (eX rfl)) (aw N (eX rfl));have G:=akd (aw (aw (mB _ _) J) (eX rfl));have A:=gy (aw J (eX rfl));have u:(Lg [] a).length<aI:=by show(a.map rg).length<aI;rw[aW];exact bn L (eX rfl)
 have v:(Ky [] k).length<aI:=by show(bA k).length<aI;unfold bA;rw[aW];exact bn (aw F.1.2 (dk K)) (eX rfl)
 have D:∀{z:Y},z.length<=3->c6 (.bytes z) (.bytes (kD a++k.flatten))=aa (.bytes (z++(kD a++k.flatten))):=λh=>gy (aw (dz h M) (eX rfl));have C:∀{z:Y},z.length<=3->c6 (.bytes (z++(kD a++k.flatten))) (.bytes [93])=aa (.bytes (z++(kD a++k.flatten)++[93])):=λ{z} h=>gy (by exact ae aS (aw (eW (dz h M) 1) (eX rfl)));simp only [bg,bg]at x;obtain⟨rfl,rfl⟩|⟨z,rfl⟩:=hs
 ·refine hh.elim λc f=>f.elim λr m=>m.elim λe hc=>?_;have E:At t i (body++93::s):=x;refine(hb (ng:=aR ag) E E.bK u v).elim λp o=>o.elim λd g=>?_;cases y.uniq E.bK.one;unfold vM;revert A D C;generalize kD a++k.flatten=B;cases B with|nil=>exactλA D C=>(bc [.p 6 (At.cz (e▸E)),.b 0 (VM hc),.l 2 g,.q 1 H,.p 1 G,.p 0 A])|cons z B=>exactλA D C=>(bc [.p 6 (At.cz (e▸E)),.b 0 (VM hc),.l 2 g,.q 1 H,.p 1 G,.p 0 A,.p 7 (D (z:=[91]) (eX rfl)),.p 0 (C (z:=[91]) (eX rfl))])
 ·obtain⟨c,rfl,w⟩:∃c,sT=[c]/\(c=33\/c=94):=z.elim (λz=>⟨33,z,.inl rfl⟩) λz=>⟨94,z,.inr rfl⟩;have I:At t (i+1) (body++93::s):=At.one x;obtain⟨p,d,g⟩:=hb (ng:=aR af) I I.bK u v;cases y.uniq I.bK.one;obtain rfl|rfl:=w
  ·exact bc [.p 6 (At.cz x),.l 5 g,.q 1 H,.p 1 G,.p 0 A,.p 5 (D (z:=[91,94,47]) (eX rfl)),.p 0 (C (z:=[91,94,47]) (eX rfl))]
  ·exact bc [.p 6 (At.cz x),.l 5 g,.q 1 H,.p 1 G,.p 0 A,.p 5 (D (z:=[91,94,47]) (eX rfl)),.p 0 (C (z:=[91,94,47]) (eX rfl))]
end
def qg(ah ng:Bool)(R:List (Nat×Nat)):Rl:=λs u=>∃c,s=c::u/\c≠47/\jl ah ng R c=af
def kO(d:Nat)(e:Y)(p:Pd)(T:Bool->Rl):Prop:=∀n,ir (n+d) (e,p)/\∀ah nm,Ok nm->∃R,nS (n+d) ah nm p.1 p.2.1 R/\∀s u,m8 p.2.2.1 p.2.2.2 R s u↔T ah s u
section
variable{T:Bool->Rl}
theorem Ad:m8 af af R s u↔R s u:=⟨λz=>z.elim (λz=>bU (z.1)) id,.inr⟩
theorem kO.up(h:kO d e p T)(k:Nat):kO (d+k) e p T:=λn=>by refine ae (gn d k) ?_;rw[<-fG];exact h (n+k)
theorem kO.iff(h:kO d e p T)(k:∀ah s u,T ah s u↔T' ah s u):kO d e p T':=λn=>⟨(h n).1,λah nm a=>((h n).2 ah nm a).elim λR z=>⟨R,z.1,λs u=>(z.2 s u).trans (k ah s u)⟩⟩
theorem xD:Qu af af []:=.inl rfl
theorem Su(hp:∀p∈P,Pc p)(b:P.length<1000):kO 2 (91::yK ng++(cl P++[93])) (og,f9 ng (j7 P),af,af) λah=>pV ah ng (j7 P):=λn=>⟨am (bu (91::yK ng++(cl P++[93]))) (ir.of (QX hp b) xD ⟨91,yK ng++(cl P++[93]),rfl,eX rfl⟩),λah nm a=>⟨_,w6 a,λs u=>Ad⟩⟩
theorem adi:kO 2 [40,63,33,41] (J5,f9 af [],af,af) λx x x=>False:=λn=>⟨ir.of abT xD ⟨40,_,rfl,eX rfl⟩,λb nm a=>⟨_,abW,λs u=>Ad⟩⟩
theorem Ej(hc:c≠47)(h:∀y,cv rs y=(!decide (y=47)&&cv R y)):ju ah rs c=ju ah R c:=by refine ae Jk ?_;simp only [Jk];exact zU λy m=>by refine ae (h y) (ae (lQ λe=>hc (Uk (e▸m))) ?_);rfl
theorem ahe(h:∀y,cv rs y=(!decide (y=47)&&cv R y)):ju ah rs 47=ag:=by refine ae Jk (ae Ul ?_);show(cv rs 47||ag)=ag;refine ae (h 47) ?_;rfl
theorem Jm(h:∀y,cv rs y=(!decide (y=47)&&cv R y)):pV ah ag rs s u↔qg ah ag R s u:=⟨λz=>z.elim λc z=>
  have q:=λe=>bb ((show(ag !=ju ah rs c)=ag by refine ae e (ae (ahe h) ?_);rfl).symm.trans z.2)
  ⟨c,z.1,q,(aj (ag !=·) (Ej q h)).symm.trans z.2⟩,λz=>z.elim λc z=>⟨c,z.1,(aj (ag !=·) (Ej z.2.1 h)).trans z.2.2⟩⟩
theorem zV:ju ah ((47,47)::rs) c=(decide (c=47)||ju ah rs c):=by show(((g9 ah c).any λk=>bw 47 k 47)||ju ah rs c)=_;refine aj (·||ju ah rs c) (iC.mpr ?_);rw[oS,mA];exact⟨λz=>z.elim λk z=>Uk ((aiv (eX ((eg _ _).mp z.2).1) (eX ((eg _ _).mp z.2).2))▸z.1),λe=>⟨47,am e.symm (am Ul.symm (.head _)),rfl⟩⟩
theorem ahf(h:∀y,cv rs y=(!decide (y=47)&&cv R y)):pV ah af ((47,47)::rs) s u↔qg ah af R s u:=⟨λz=>z.elim λc z=>
  have q:=λe=>bb ((show(af !=ju ah ((47,47)::rs) c)=ag by refine ae zV (ae (gN e) ?_);rfl).symm.trans z.2)
  ⟨c,z.1,q,(aj (af !=·) (zV.trans ((aj (·||_) (lQ q)).trans (Ej q h)))).symm.trans z.2⟩,
 λz=>z.elim λc z=>⟨c,z.1,(aj (af !=·) (zV.trans ((aj (·||_) (lQ z.2.1)).trans (Ej z.2.1 h)))).trans z.2.2⟩⟩
theorem ahg(hp:∀p∈P,Pc p)(h:cl P=[]):P=[]:=by cases P with|nil=>rfl|cons p P=>exact((hp p (.head _)).head (cl P)).elim λc z=>z.elim λr z=>b5 (z.1.symm.trans (h))
theorem Sv{B:Y}(hB:B=cl P)(hp:∀p∈P,Pc p)(a:P.length+1<1000)(h:∀y,cv (j7 P) y=(!decide (y=47)&&cv R y)):∃p,kO 2 (vM ng B) p λah=>qg ah ng R:=by
 cases hB;cases ng with
 |true=>refine⟨_,((Su (P:=([47],47,47)::P) (aQ ⟨.inl ⟨xC rfl,rfl⟩,hp⟩) a).iff λah s u=>ahf h)⟩
 |false=>
  cases e:cl P with
  |nil=>
   have b:j7 P=[]:=by refine ae (ahg hp e) ?_;rfl
   refine⟨_,adi.iff λah s u=>⟨False.elim,λz=>?_⟩⟩;have z:=(Jm h).mpr z;have z:=b▸z;exact z.elim λc z=>bb (z.2)
  |cons c r=>have g:=(Su hp (oQ a)).iff λah s u=>Jm h;exact⟨_,(e▸g)⟩
end
noncomputable def lL(t res:Y)(i:Nat)(c b:AV):Rh:=[aU t,aU res,ar i,ar t.length,c,b]
noncomputable def oA(t:Y)(sg:List D)(st i:Nat)(c b:AV):Rh:=[aU t,.own sg,ar st,ar i,c,b]
def ya(n:Nat)(T out:Y):Prop:=∀{t s:Y} {i j:Nat} {res:Y} {c b:AV},At t i (T++s)->At t j s->res.length+out.length<=aI->∃a d,tn 10 [3] n (lL t res i c b)=.ok (.next,lL t (res++out) j a d)
def iK(n:Nat)(T:Y):Prop:=∀{t s:Y} {i j st:Nat} {sg:List D} {c b:AV},At t i (T++s)->At t j s->∃a d,lw 11 [3] n (oA t sg st i c b)=lw 11 [3] n (oA t sg st j a d)
section
variable{s T:Y}
theorem ahh(e:o<256)(h:([42,63,92,91]:Y).contains o=ag):ya (n+1) [o] (gE o):=λ{t s i j a c b} x y d=>⟨dp o,b,by exact ae (y.uniq x.one) ((aX [.p 4 (At.cz x),.b 3 (jZ (x:=[]) (y:=[]) (df h).1),.b 1 (jZ (x:=[]) (y:=[]) (df (df h).2).1),.b 1 (jZ (x:=[]) (y:=[]) (df (df (df h).2).2).1),.b 1 (jZ (x:=[]) (y:=[]) (df (df (df (df h).2).2).2).1),.q 2 (w5 n e),.p 0 (gy d)]))⟩
theorem ahi(e:o<256):ya (n+1) [92,o] (gE o):=λ{t s i j a c b} x y d=>⟨dp 92,b,by exact ae (y.uniq x.one.one) ((aX [.p 4 (At.cz x),.b 10 (bP (At.lt x.one)),.p 5 (At.cz x.one),.q 0 (w5 n e),.p 0 (gy d)]))⟩
theorem ahj:ya n [63] [91,94,47,93]:=λ{t s i j a c b} x y d=>⟨dp 63,b,by exact ae (y.uniq x.one) ((aX [.p 4 (At.cz x),.p 7 (gy d)]))⟩
theorem ahk(h:FV n e out):ya n (91::e) out:=λ{t s i j a c b} x y d=>⟨dp 91,aU out,(aX [.p 4 (At.cz x),.q 12 (h x.one y),.p 2 (gy d)])⟩
theorem abY(hs:tc 10 [3,2,0] n (lL t res j c b)=.ok ag)(d:At t j s)(l:Y):∀{i:Nat},(∀c∈l,c=42)->At t i (l++s)->lw 10 [3,2,0] n (lL t res i c b)=.ok (.next,lL t res j c b):=by induction l with|nil=>exactλ{i} y h=>am (d.uniq h) (kt hs)|cons x l ih=>intro i a h;cases a x (.head _);exact qS ((dF [.b 2 (bP (At.lt h)),.p 4 (At.cz h)])) ((aX [])) (ih (λc m=>a c (.tail _ m)) h.one)
def Go(s:Y):Prop:=s=[]\/∃c r,s=c::r/\c≠42
theorem adj(hs:Go s)(a:At t j s):tc 10 [3,2,0] n (lL t res j c b)=.ok ag:=hs.elim (λe=>by
 simp only [e]at a;exact(dF [.b 2 (f0 (cJ a.end.symm))])) λz=>z.elim λx z=>z.elim λr z=>by
 simp only [z.1]at a;exact dF [.b 2 (bP a.lt),.p 4 a.cz,.b 0 (jZ (x:=[]) (y:=[]) z.2)]
theorem adk{l:Y}(a:∀c∈l,c=42)(x:At t i (42::l++s))(y:At t j s)(hs:Go s)(h:res.length+5<=aI):tn 10 [3] n (lL t res i c b)=.ok (.next,lL t (res++[91,94,47,93,42]) j (dp 42) b):=aX [.p 4 (At.cz x),.l 4 (abY (n:=n) (res:=res) (c:=dp 42) (b:=b) (adj hs y) y l a x.one),.p 1 (gy (y:=[91,94,47,93,42]) h)]
theorem ahl:aV (FN (n+1)) 10 [.bytes [42]]=.ok (.bytes [91,94,47,93,43]):=bc []
theorem xa(h:([92,91,47]:Y).contains o=ag):iK n [o]:=λ{t s i j st a c b} x y=>⟨dp o,b,by
 exact ae (y.uniq x.one) (vt ((dF [.b 3 (bP (At.lt x))]))
  ((aX [.p 4 (At.cz x),.b 1 (jZ (x:=[]) (y:=[]) (df h).1),.b 1 (jZ (x:=[]) (y:=[]) (df (df h).2).1),.b 1 (jZ (x:=[]) (y:=[]) (df (df (df h).2).2).1)])))⟩
theorem ahm:iK n [92,o]:=λ{t s i j st a c b} x y=>⟨dp 92,b,by
 exact ae (y.uniq x.one.one) (vt ((dF [.b 3 (bP (At.lt x))]))
  ((aX [.p 4 (At.cz x),.b 6 (bP (At.lt x.one))])))⟩
theorem ahn(h:FV n e out):iK n (91::e):=λ{t s i j st a c b} x y=>⟨dp 91,aU out,vt ((dF [.b 3 (bP (At.lt x))]))
  ((aX [.p 4 (At.cz x),.q 7 (h x.one y)]))⟩
theorem iK.nil:iK n []:=λ{t s i j st a c b} x y=>⟨c,b,am (y.uniq x) rfl⟩
theorem iK.app(h:iK n T)(a:iK n T'):iK n (T++T'):=λ{t s i j st f c b} x y=>by simp only [bg]at x;exact(h x x.bK).elim λg z=>z.elim λk z=>(a x.bK y).elim λd w=>w.elim λe w=>⟨d,e,z.trans w⟩
theorem Qb(a:At t st (u++47::s))(d:u.length<100000)(e:sg.length<aI):lw 11 [3] n (oA t sg st (st+u.length) c b)=lw 11 [3] n (oA t (sg++[.bytes u]) (st+u.length+1) (st+u.length+1) (dp 47) b):=
 vt ((dF [.b 3 (bP a.bK.lt)]))
  ((aX [.p 4 a.bK.cz,.p 9 (((a.fT d).trans (aj (λy=>aa (D.bytes y)) HF))),.b 0 (et e)]))
end
abbrev Pz:=(Y×Pd)×(Bool->Rl)
def Pz.Ok(d:Nat)(z:Pz):Prop:=kO d z.1.1 z.1.2 z.2
def zT(zs:List Pz):Y:=m7 (zs.map (·.1))
def vx(l:List Rl):Rl:=l.foldr sq Eq
def zR(ah:Bool)(zs:List Pz):Rl:=vx (zs.map λz=>z.2 ah)
noncomputable def iA:Rl:=λs u=>∃v,s=v++u/\47∉v
abbrev E:=Y×Bool×Bool×List (Nat×Nat)×List Nat
noncomputable def rT(T:Y):Y:=cond (T==[92,32]) [32] T
def fV(T:Y):Prop:=(∀a b,T=a++47::b->91∈a/\b.head?≠aa 42)/\T.getLast?≠aa 47
def Tx(T:Y):Prop:=(∃c r,T=c::r/\c≠42)/\T.length<=40/\fV T
def pW(T:Y)(ng:Bool)(R:List (Nat×Nat)):Prop:=∃z:Y×Pd,kO 2 z.1 z.2 (λah=>qg ah ng R)/\(∀n,ya (n+3) T z.1/\iK (n+3) T)/\Tx T/\z.1.length<=500
def E.Good(e:E):Prop:=cond e.2.1 (rT e.1=[42]\/rT e.1=[42,42]) (pW (rT e.1) e.2.2.1 e.2.2.2.1)
def eT(es:List E):Y:=(es.map λe=>rT e.1).flatten
def E.rel(ah:Bool)(e:E):Rl:=cond e.2.1 iA (qg ah e.2.2.1 e.2.2.2.1)
def gI(ah:Bool)(es:List E):Rl:=vx (es.map (E.rel ah))
section
variable{T:Y}
theorem fV.of(h:47∉T):fV T:=⟨λa b e=>aC (ae e (fF a (.head b))) h,λe=>h (acl e)⟩
theorem fV.br(h:T.getLast?≠aa 47)(k:∀a b,T=a++47::b->b.head?≠aa 42):fV (91::T):=⟨λa b e=>by
 cases a with
 |nil=>cases e
 |cons x a=>exact⟨am ((bD e).1) (.head _),k a b (bD e).2⟩,λe=>by
 cases T with
 |nil=>cases e
 |cons x T=>exact h ((aar).symm.trans e)⟩
theorem fV.no(h:fV T)(k:91∉T):47∉T:=λm=>(List.append_of_mem m).elim λa z=>z.elim λb e=>k (ae e (ke _ (h.1 a b e).1))
theorem fV.app(h:fV T)(d:fV T'):fV (T++T'):=⟨λa b e=>(ND.mp e).elim (λz=>z.elim λc z=>ae z.1 ⟨fF _ (d.1 c b z.2).1,(d.1 c b z.2).2⟩) λz=>z.elim λc z=>by
 cases c with
 |nil=>exact cf ((d.1 [] b z.2.symm).1)
 |cons x c=>
  have q:=bD z.2;have w:=h.1 a c (ae q.1 z.1);cases c with
  |nil=>exact aC (ae z.1 (am q.1 (wy))) h.2
  |cons y c=>exact ae q.2 w,λe=>by
 have e:=(GY)▸e;cases k:T'.getLast? with
 |none=>exact h.2 (by have e:=k▸e;exact e)
 |some x=>exact d.2 (k.trans (by have e:=k▸e;exact e))⟩
end
section
variable{B:Rl}
theorem qW(h:∀s u,A s u↔A' s u)(a:∀s u,B s u↔B' s u):sq A B s u↔sq A' B' s u:=km λw=>and_congr (h s w) (a w u)
theorem Q3:sq (sq A B) C s u↔sq A (sq B C) s u:=⟨λz=>z.elim λw z=>z.1.elim λv y=>⟨v,y.1,w,y.2,z.2⟩,λz=>z.elim λv z=>z.2.elim λw y=>⟨w,⟨v,z.1,y.1⟩,y.2⟩⟩
theorem VN:sq iA iA s u↔iA s u:=⟨λz=>z.elim λw z=>z.1.elim λv y=>z.2.elim λx q=>⟨v++x,by simp only [y.1,q.1,bg],λm=>(kW.mp m).elim y.2 q.2⟩,λz=>⟨s,⟨[],rfl,gM⟩,z⟩⟩
theorem amy:sq iA (sq iA A) s u↔sq iA A s u:=Q3.symm.trans (qW (λx x=>VN) λx x=>jg)
theorem tB:sq A Eq s u↔A s u:=⟨λz=>z.elim λw z=>am z.2 z.1,λz=>⟨u,z,rfl⟩⟩
theorem amz:sq Eq A s u↔A s u:=⟨λz=>z.elim λw z=>z.1▸z.2,λz=>⟨s,rfl,z⟩⟩
def BU(l:Bool):Y×Pd:=([91,94,47,93]++YO l ag,og,f9 af [(47,47)],l,ag)
theorem afe:jl ah af [(47,47)] c=af↔c≠47:=by unfold jl;rw[(zV.trans (qC _)),Bool.true_bne,mz,decide_eq_false_iff_not]
theorem EQ:pV ah af [(47,47)] s u↔∃c,s=c::u/\c≠47:=km λc=>and_congr jg afe
theorem aff(v:Y):47∉v->kC (pV ah af [(47,47)]) (v++u) u:=by induction v with|nil=>exactλx=>.refl|cons c v ih=>exactλh=>tp.star ⟨v++u,EQ.mpr ⟨c,rfl,λe=>h (am e (.head _))⟩,ih λm=>h (.tail _ m)⟩
theorem Ek:kC (pV ah af [(47,47)]) s u↔iA s u:=⟨λz=>z (λw=>iA s w) ⟨[],rfl,gM⟩ λx y p r=>(EQ.mp r).elim λc q=>p.elim λv p=>⟨v++[c],by refine ae p.1 ?_;simp only [q.1,bg];rfl,λm=>(kW.mp m).elim p.2 λm=>q.2 (bB.mp m).symm⟩,
 λz=>z.elim λv z=>am z.1.symm (aff v z.2)⟩
theorem Fd:tp (pV ah af [(47,47)]) s u↔iA s u/\s≠u:=⟨λz=>⟨Ek.mp z.star,z.elim λw y=>λe=>(EQ.mp y.1).elim λc q=>(Ek.mp y.2).elim λv r=>aC (aj iT (q.1.symm.trans e)) (ae r.1 (ae eY (ae aS (Rv (zk (mB _ _))))))⟩,
 λz=>z.1.elim λv y=>by
  cases v with
  |nil=>exact aC y.1 z.2
  |cons c v=>exact⟨v++u,EQ.mpr ⟨c,y.1,λe=>y.2 (am e (.head _))⟩,Ek.mpr ⟨v,rfl,λm=>y.2 (.tail _ m)⟩⟩⟩
theorem Ka(l:Bool):kO 2 (BU l).1 (BU l).2 λx s u=>iA s u/\(l=af->s≠u):=λn=>
 ⟨ir.of (QX (ng:=af) (ps:=[([47],47,47)]) (aQ ⟨.inl ⟨xC rfl,rfl⟩,aZ⟩) (eX rfl)) (.inl rfl) ⟨91,_,rfl,eX rfl⟩,λb nm a=>⟨_,w6 a,λs u=>by
  cases l with
  |true=>exact⟨λz=>z.elim (λz=>bU (z.1)) λz=>⟨(Fd.mp z).1,λx=>(Fd.mp z).2⟩,λz=>.inr (Fd.mpr ⟨z.1,z.2 rfl⟩)⟩
  |false=>exact⟨λz=>⟨z.elim (λz=>⟨[],z.2,gM⟩) λz=>Ek.mp z.star,λh _=>bb h⟩,λz=>oO (λe=>.inl ⟨rfl,e⟩) λe=>.inr (Fd.mpr ⟨z.1,e⟩)⟩⟩⟩
end
noncomputable def YQ:Y:=[91,94,47,93,42]
def Run(n:Nat)(T out:Y):Prop:=∀{t res:Y} {i:Nat} {c b:AV},At t i T->res.length+out.length<=aI->∃j a d,lw 10 [3] n (lL t res i c b)=.ok (.next,lL t (res++out) j a d)
def Zq(zs:List Pz)(es:List E):Prop:=(∀z∈zs,z.Ok 2)/\zs.length<=es.length/\(zT zs).length<=500*es.length
section
variable{T:Y}{l:Y}
theorem Run.nil:Run n [] []:=λ{t a i c b} x y=>⟨i,c,b,by rw[bu];exact kt ((dF [.b 2 (f0 (cJ x.end.symm))]))⟩
theorem aho(h:At t i T)(k:T≠[]):i<t.length:=am h.2.1 (zb (zf.mpr k))
theorem Run.step(h:tn 10 [3] n (lL t res i c b)=.ok (.next,lL t aoB j c' b'))(hi:i<t.length)(k:lw 10 [3] n (lL t aoB j c' b')=o):lw 10 [3] n (lL t res i c b)=o:=(vt ((dF [.b 2 (bP hi)])) h).trans k
theorem vd{k:Nat}(h:a+(b+c)<=k):a+b<=k:=aw (eJ (cB b c) a) h
theorem Run.turn(h:ya n T z)(k:T≠[])(r:Run n T' out):Run n (T++T') (z++out):=λ{t d i c b} x a=>by have a:=aS▸a;refine(h (c:=c) (b:=b) x x.bK (vd a)).elim λf w=>w.elim λl w=>(r (c:=f) (b:=l) x.bK (by rw[aS,fG];exact a)).elim λj y=>y.elim λe y=>y.elim λg y=>⟨j,e,g,?_⟩;rw[<-bg];exact Run.step w (aho x λq=>k (gj.mp q).1) y
theorem Run.star(d:∀c∈l,c=42)(hs:Go T')(r:Run n T' out):Run n (42::l++T') (YQ++out):=λ{t a i c b} x hb=>by have hb:=aS▸hb;refine(r (c:=dp 42) (b:=b) x.bK (by rw[aS,fG];exact hb)).elim λj y=>y.elim λe y=>y.elim λf y=>⟨j,e,f,?_⟩;rw[<-bg];exact Run.step (adk d x x.bK hs (vd hb)) x.lt y
theorem Jo:eT (e::es)=rT e.1++eT es:=rfl
theorem E.Good.star(h:E.Good e)(m:e.2.1=af):∃l,(∀c∈l,c=42)/\rT e.1=42::l:=by unfold E.Good at h;rw[m]at h;exact h.elim (λh=>⟨[],aZ,h⟩) λh=>⟨[42],aQ ⟨rfl,aZ⟩,h⟩
theorem E.Good.el(h:E.Good e)(m:e.2.1=ag):pW (rT e.1) e.2.2.1 e.2.2.2.1:=by unfold E.Good at h;simp only [m]at h;exact h
theorem ahp:zT (z::zs)=z.1.1++zT zs:=rfl
theorem Sw(h:Zq zs es)(a:z.Ok 2)(b:z.1.1.length<=500):Zq (z::zs) (e::es):=⟨aQ ⟨a,h.1⟩,c8 h.2.1,by refine ae ahp ?_;rw[aS,eY,sr,gn];exact dz h.2.2 b⟩
theorem ahq(h:Zq zs es):Zq zs (e::es):=⟨h.1,iB h.2.1,aw h.2.2 (dy _ (gO _))⟩
def VO:Pz:=(BU ag,λx=>iA)
theorem ahr:VO.Ok 2:=(Ka ag).iff λx x x=>⟨Wj,λz=>⟨z,λh _=>bb h⟩⟩
theorem ake(h:∀e∈es,E.Good e)(m:∀e l,es=e::l->e.2.1=ag):Go (eT es):=by cases es with|nil=>exact .inl rfl|cons e es=>exact((h e (.head _)).el (m e es rfl)).elim λz w=>w.2.2.1.1.elim λc w=>w.elim λr w=>.inr ⟨c,r++eT es,aj (·++eT es) w.1,w.2⟩
def S1(es:List E):Prop:=∃zs,Zq zs es/\(∀ah s u,zR ah zs s u↔gI ah es s u)/\∀n,Run (n+3) (eT es) (zT zs)
def S2(es:List E):Prop:=∃zs,Zq zs es/\(∀ah s u,sq iA (zR ah zs) s u↔sq iA (gI ah es) s u)/\∀n l,(∀c∈l,c=42)->Run (n+3) (42::l++eT es) (YQ++zT zs)
theorem S1.el(h:E.Good e)(m:e.2.1=ag)(r:S1 es):S1 (e::es):=(h.el m).elim λz w=>r.elim λzs y=>⟨(z,λa=>qg a e.2.2.1 e.2.2.2.1)::zs,Sw y.1 w.1 w.2.2.2,λa s u=>qW (λs u=>by unfold E.rel;refine ae m ?_;rfl) (y.2.1 a),λn=>Run.turn (w.2.1 n).1 (λq=>w.2.2.1.1.elim λc x=>x.elim λr x=>b4 (q.symm.trans x.1)) (y.2.2 n)⟩
theorem S1.star(h:E.Good e)(m:e.2.1=af)(r:S2 es):S1 (e::es):=(h.star m).elim λl w=>r.elim λzs y=>⟨VO::zs,Sw y.1 ahr (eX rfl),λa s u=>(y.2.1 a s u).trans (qW (λs u=>by unfold E.rel;refine ae m ?_;rfl) λx x=>jg),λn=>by rw[Jo,w.2];exact y.2.2 n l w.1⟩
theorem S2.star(h:E.Good e)(m:e.2.1=af)(r:S2 es):S2 (e::es):=(h.star m).elim λl w=>r.elim λzs y=>⟨zs,ahq y.1,λc s u=>(y.2.1 c s u).trans (amy.symm.trans (qW (λx x=>jg) λs u=>qW (λs u=>by unfold E.rel;refine ae m ?_;rfl) λx x=>jg)),λn a b=>by rw[Jo,w.2,<-bg];exact y.2.2 n (a++42::l) (dg b (aQ ⟨rfl,w.1⟩))⟩
theorem S2.of(h:∀e∈es,E.Good e)(m:∀e l,es=e::l->e.2.1=ag)(r:S1 es):S2 es:=r.elim λzs y=>⟨zs,y.1,λb s u=>qW (λx x=>jg) (y.2.1 b),λn l a=>Run.star a (ake h m) (y.2.2 n)⟩
theorem ahs(es:List E):(∀e∈es,E.Good e)->S1 es/\S2 es:=by
 induction es with
 |nil=>exactλh=>have a:=⟨[],⟨aZ,bO 0,bO 0⟩,λy y y=>jg,λn=>Run.nil⟩
             ⟨a,.of h (λy y q=>b4 q) a⟩
 |cons e es ih=>intro h;have i:=ih λx m=>h x (.tail _ m);cases m:e.2.1 with|true=>exact⟨.star (h e (.head _)) m i.2,.star (h e (.head _)) m i.2⟩|false=>exact⟨.el (h e (.head _)) m i.1,.of h (λy y q=>am ((bD q).1) m) (.el (h e (.head _)) m i.1)⟩
end
noncomputable def eD(q:List E):Bool:=q.all λe=>e.2.1
def cq(q:List E):Y:=cond q.isEmpty [42,42] (cond (eD q) [42] (eT q))
def LK(ah:Bool)(q:List E):Rl:=λs u=>gI ah q s u/\s≠u
section
theorem E.Good.small(h:E.Good e):(rT e.1≠[]/\fV (rT e.1))/\(rT e.1).length<=40/\∀n,iK (n+3) (rT e.1):=by
 cases m:e.2.1 with
 |true=>
  unfold E.Good at h;rw[m]at h;have a:∀n,iK (n+3) [42]:=λn=>xa rfl;obtain h|h:=(h)<;>rw[h]
  ·exact⟨⟨eX rfl,.of (eX rfl)⟩,eX rfl,a⟩
  ·exact⟨⟨eX rfl,.of (eX rfl)⟩,eX rfl,λn=>iK.app (a n) (a n)⟩
 |false=>exact(h.el m).elim λz w=>⟨⟨λk=>w.2.2.1.1.elim λc x=>x.elim λr x=>(b4 (k.symm.trans x.1)),w.2.2.1.2.2⟩,w.2.2.1.2.1,λn=>(w.2.1 n).2⟩
theorem IR(h:∀e∈es,E.Good e):fV (eT es)/\(eT es).length<=40*es.length/\∀n,iK (n+3) (eT es):=by induction es with|nil=>exact⟨.of gM,bO 0,λn=>iK.nil⟩|cons e es ih=>have i:=ih λx m=>h x (.tail _ m);have a:=(h e (.head _)).small;exact⟨a.1.2.app i.1,by refine ae Jo ?_;rw[aS,eY,sr,gn];exact dz i.2.1 a.2.1,λn=>iK.app (a.2.2 n) (i.2.2 n)⟩
theorem KX(h:∀e∈es,E.Good e)(k:∀c∈eT es,c=42):eD es=af:=by induction es with|nil=>rfl|cons e es ih=>show(e.2.1&&eD es)=af;refine ae (ih (λx m=>h x (.tail _ m)) λc m=>k c (fF _ m)) ?_;rw[Qo];exact(Hc _).mp λm=>((h e (.head _)).el m).elim λz w=>w.2.2.1.1.elim λc w=>w.elim λr w=>w.2 (k c (ke _ (show c∈rT e.1 by rw[w.1];exact .head _)))
theorem E.aht(h:E.rel ah e s u):u.length<=s.length/\(e.2.1=ag->s≠u->u.length<s.length):=by unfold E.rel at h;cases m:e.2.1 with|true=>have h:=m▸h;exact(h).elim λv z=>⟨ae z.1 (ae aS (mB _ _)),λh _=>bU h⟩|false=>have h:=m▸h;exact(h).elim λc z=>⟨ae z.1 (gO _),λx x=>ae z.1 (lO _)⟩
theorem amA(h:qg ah ng R s u):u.length<s.length:=h.elim λc z=>ae z.1 (lO _)
theorem ahu(es:List E):∀{s},gI ah es s u->u.length<=s.length/\(eD es=ag->u.length<s.length):=by
 induction es with
 |nil=>exactλh=>⟨cJ (aj iT (h).symm),bU⟩
 |cons e es ih=>intro s h;refine h.elim λw v=>v.elim λa h2=>?_;have i:=ih h2;have l:=(E.aht a).1;refine⟨aw i.1 l,λk=>?_⟩;cases m:e.2.1 with|true=>exact jb (i.2 (by unfold eD at k;simp only [zB,m]at k;exact k)) l|false=>unfold E.rel at a;rw[m]at a;exact bn i.1 (amA a)
theorem afg(es:List E)(h:eD es=af)(k:es≠[]):∀{s},gI ah es s u↔iA s u:=by
 induction es with
 |nil=>exact aC rfl k
 |cons e es ih=>
  intro s;have m:=(eg _ _).mp (show(e.2.1&&eD es)=af from h);have a:∀s u,E.rel ah e s u↔iA s u:=λs u=>by unfold E.rel;refine ae m.1 ?_;rfl
  cases es with|nil=>exact tB.trans (a _ _)|cons e' es=>exact(qW a λs b=>jg).trans (UR (km λw=>and_congr jg (ih m.2 b5)) VN)
def pX(q:List E):Prop:=∃zs,(∀z∈zs,z.Ok 2)/\zs.length<=12/\(zT zs).length<=6000/\(∀n,aV (FN (n+4)) 10 [.bytes (cq q)]=.ok (.bytes (zT zs)))/\∀ah s u,zR ah zs s u↔LK ah q s u
theorem tN(h:Ok t):At t 0 t:=⟨rfl,dD _,h⟩
theorem amB(h:∀e∈es,E.Good e)(l:es.length<=12):Ok (eT es):=bn (aw (IR h).2.1 (dy 40 l)) (eX rfl)
def D2:=λq=>(∀(h:∀e∈q,E.Good e) (l:q.length<=12) (k:q≠[]),pX q:Prop)
def xb:=vT D2 nI
theorem afh:D2 xb:=λh l k=>by unfold pX cq;refine ae (za.mpr k) ?_;cases m:eD xb with|true=>refine⟨[(BU af,λx s u=>iA s u/\s≠u)],aQ ⟨(Ka af).iff λx x x=>and_congr jg ⟨λz=>z rfl,λz x=>z⟩,aZ⟩,eX rfl,eX rfl,λn=>ahl,λa s u=>tB.trans (and_congr (afg xb m k).symm jg)⟩|false=>obtain⟨zs,z,r,g⟩:=(ahs xb h).1;refine⟨zs,z.1,aw z.2.1 l,aw z.2.2 (dy 500 l),λn=>?_,λa s u=>(r a s u).trans ⟨λy=>⟨y,λe=>jI _ (e▸(ahu xb y).2 m)⟩,Wj⟩⟩;refine(g n (c:=.U) (b:=.U) (tN (amB h l)) (by refine ae wE ?_;rw[dD];exact aw z.2.2 (aw (dy 500 l) (eX rfl)))).elim λj v=>v.elim λc w=>w.elim λb e=>?_;have ne:eT xb≠[42]:=λe=>bb (m.symm.trans (KX h (ae e (aQ ⟨rfl,aZ⟩))));exact bc [.b 1 (FT ne),.l 2 e]
theorem amC{q}:D2 q:=yi D2 afh
end
def i8(u:Y):Prop:=fV u/\u.length<=480/\∀n,iK (n+3) u
def aK(us:List Y):Y:=cP [47] us
section
theorem fx:aK (u::v::us)=u++47::aK (v::us):=bg u [47] _
theorem At.Bi(h:At t i s):dh (.bytes t) (.int i) .none=aa (.bytes s):=by have a:=h.2.1▸cB _ _;show(gd (i<4611686018427387904) (aa (jV i t.length))).bind (λl=>aa (D.bytes (lB t l t.length)))=_;refine ae (dU (bn a (bX h.2.2 (eX rfl)))) (ae sI (ae (nw a) ?_));show aa (D.bytes ((t.take t.length).drop i))=_;exact ae kU (ae h.1 rfl)
theorem adl(h:At t i []):lw 11 [3] n (oA t sg st i c b)=.ok (.next,oA t sg st i c b):=kt (dF [.b 3 (f0 (cJ h.end.symm))])
theorem i8.go(h:i8 u)(x:At t i (u++s))(y:At t j s)(st:Nat)(sg:List D)(c b:AV):∃a d,lw 11 [3] (n+3) (oA t sg st i c b)=lw 11 [3] (n+3) (oA t sg st j a d):=h.2.2 n x y
def SpE(n:Nat)(t:Y)(st:Nat)(sg:List D)(us:List Y)(c b:AV):Prop:=∃L a j d e w,lw 11 [3] n (oA t sg st st c b)=.ok (.next,oA t (sg++bA L) a j d e)/\At t a w/\L++[w]=us
theorem IS:sg++bA (u::L)=sg++[.bytes u]++bA L:=(bg sg [.bytes u] (bA L)).symm
theorem abZ(us:List Y):∀{u:Y} {st:Nat} {sg:List D} {c b:AV},(∀x∈u::us,i8 x)->At t st (aK (u::us))->sg.length+us.length<aI->SpE (n+3) t st sg (u::us) c b:=by induction us with|nil=>intro u st sg c b h x a;have x:=(bu u).symm▸x;exact((h u (.head _)).go x x.bK st sg c b).elim λe z=>z.elim λd z=>⟨[],st,st+u.length,e,d,u,(z.trans (adl x.bK)).trans (ae (bu sg) rfl),am (bu u) x,rfl⟩|cons v us ih=>intro u st sg c b h x a;have x:=fx▸x;refine((h u (.head _)).go (n:=n) x x.bK st sg c b).elim λe z=>z.elim λd z=>(ih (sg:=sg++[.bytes u]) (c:=dp 47) (b:=d) (λy m=>h y (.tail _ m)) x.bK.one (vb a)).elim λL w=>w.elim λf w=>w.elim λj w=>w.elim λg w=>w.elim λi w=>w.elim λy w=>⟨u::L,f,j,g,i,y,?_,w.2.1,aj (u::·) w.2.2⟩;exact ae IS ((z.trans (Qb x (bn (h u (.head _)).2.1 (eX rfl)) (bn (cB _ _) a))).trans w.1)
theorem akf(us:List Y):∀{u x:Y} {a:Nat},x∈u::us->a∈x->a∈aK (u::us):=by induction us with|nil=>exactλm k=>am (bB.mp m) k|cons v us ih=>intro u x a m k;exact ae fx ((ch.mp m).elim (λe=>ke _ (am e k)) λm=>fF _ (.tail _ (ih m k)))
theorem Fe(us:List Y):∀{u:Y},(∀x∈u::us,i8 x)->(aK (u::us)).length<=481*(u::us).length:=by induction us with|nil=>exactλh=>aw (h _ (.head _)).2.1 (gO 480)|cons v us ih=>intro u h;refine ae fx ?_;refine ae aS ?_;rw[eY,eY,sr,gn,r7];exact eW (dz (ih λx m=>h x (.tail _ m)) (h u (.head _)).2.1) 1
theorem amD(h:∀x∈u::us,i8 x)(a:us.length<20):Ok (aK (u::us)):=bn (aw (Fe us h) (dy 481 a)) (eX rfl)
theorem ahv(h:∀x∈u::us,i8 x)(d:us.length<20):aV (FN (n+4)) 11 [.bytes (aK (u::us))]=.ok (.list (bA (u::us))):=by
 cases k:(aK (u::us)).contains 91 with
 |true=>
  refine(abZ (n:=n) us (sg:=[]) (c:=.U) (b:=.U) h (tN (amD h d)) (bn (cJ (dD _)) (bX d (eX rfl)))).elim λL z=>z.elim λst z=>z.elim λj z=>z.elim λc z=>z.elim λb z=>z.elim λw z=>?_;have q:bA (u::us)=bA L++[.bytes w]:=by exact am z.2.2 cU
  have l:(bA L).length<aI:=by have e:=aj iT z.2.2;rw[aS]at e;unfold bA;rw[aW];refine ae (mC e) ?_;exact bX d (eX rfl)
  exact ae q (bc [.b 1 ((aj aa (aj aoT k))),.l 0 (z.1),.p 2 (z.2.1.Bi),.b 0 (et l)])
 |false=>
  have q:EC (.bytes (aK (u::us))) (.bytes [47])=aa (.list (bA (u::us))):=by show gd ((fe 47 (cP [47] (u::us))).length<=aI) (aa (D.list ((fe 47 (cP [47] (u::us))).map D.bytes)))=_;exact ae (C0 (ps:=u::us) b5 λx m=>(h x m).1.no λa=>(bb (k.symm.trans (ed.mpr (akf us m a))))) (dU (aw d (eX rfl)))
  exact bc [.b 1 ((aj aa (aj aoT k))),.p 1 q]
end
section
variable{nc:Bool}{zs:List Pz}
theorem Uo(h:∀z∈zs,z.Ok d)(n:Nat)(b:Ok nm):∃L:List Pr,wf L=BR (zs.map (·.1))/\(∀p∈L,p.Ok (n+d) ah nm)/\∀s u,x8 L s u↔zR ah zs s u:=by induction zs with|nil=>exact⟨[],rfl,aZ,λa a=>jg⟩|cons z zs ih=>exact(ih λx m=>h x (.tail _ m)).elim λL y=>((h z (.head _) n).2 ah nm b).elim λR w=>⟨((z.1.2,R))::L,aj (pd z.1.2::·) y.1,aQ ⟨w.1,y.2.1⟩,λs u=>qW w.2 y.2.2⟩
theorem Sx(h:∀z∈zs,z.Ok d)(n:Nat):∀q∈zs.map (·.1),ir (n+d) q:=λq m=>(ey.mp m).elim λz y=>am y.2 ((h z y.1 n).1)
theorem ahw(h:∀s u,R s u↔R' s u):m8 l m R s u↔m8 l m R' s u:=am (funext λs=>funext λu=>propext (h s u)) jg
def gz(nc:Bool)(zs:List Pz)(q:Y)(l m:Bool):Pz:=(YP nc (zs.map (·.1)) q l m,λah=>m8 l m (zR ah zs))
theorem VP(h:∀z∈zs,z.Ok 2)(b:Hd (zT zs))(c:zs.length<1000)(k:Qu l m q):(gz nc zs q l m).Ok 4:=λn=>⟨ae4 (Sx (λz m=>kO.up (h z m) 1) n) b (by rw[aW];exact c) k,λd nm a=>(Uo h n a).elim λL y=>⟨x8 L,by have g:=ae9 (Q2 a y.2.1);have g:=y.1▸g;exact g,λs u=>ahw y.2.2⟩⟩
noncomputable def anyR:Rl:=λs u=>∃v,s=v++u
noncomputable def YR:Rl:=λs u=>s=47::u
def vN:Pz:=(([46,42],og,f9 af [],ag,ag),λx=>anyR)
def oB:Pz:=(([47],og,f9 ag [(47,47)],af,af),λx=>YR)
theorem Up:vN.Ok 2:=λn=>⟨ir.of ae0 (.inl rfl) ⟨46,_,rfl,eX rfl⟩,λd nm b=>⟨_,w6 b,λs u=>by
 have a:∀v,kC (pV d af []) (v++u) u:=λv=>by induction v with|nil=>exact .refl|cons c v ih=>exact tp.star ⟨v++u,⟨c,rfl,rfl⟩,ih⟩
 exact⟨λz=>(z.imp uW id).elim (λe=>⟨[],e⟩) λz=>z.star (λw=>anyR s w) ⟨[],rfl⟩ λx y p r=>p.elim λv p=>r.elim λc r=>⟨v++[c],by refine ae p ?_;simp only [r.1,bg];rfl⟩,
  λz=>z.elim λv z=>by
   refine ae z ?_;cases v with
   |nil=>exact .inl ⟨rfl,rfl⟩
   |cons c v=>exact .inr ⟨v++u,⟨c,rfl,rfl⟩,a v⟩⟩⟩⟩
theorem D3:jl ah ag [(47,47)] c=af↔c=47:=by unfold jl;rw[(zV.trans (qC _)),Bool.false_bne,mA]
theorem KY:oB.Ok 2:=λn=>⟨ir.of (IP (eX rfl) (eX rfl) (eX rfl) (eX rfl)) xD ⟨47,_,rfl,eX rfl⟩,λb nm a=>⟨_,w6 a,λs u=>Ad.trans ⟨λz=>z.elim λc z=>z.1.trans (aj (·::u) (D3.mp z.2)),λz=>⟨47,z,D3.mpr rfl⟩⟩⟩⟩
def xE:Pz:=(BU af,λx s u=>iA s u/\s≠u)
theorem ahx:xE.Ok 2:=(Ka af).iff λx x x=>and_congr jg ⟨λz=>z rfl,λz x=>z⟩
def Ff(nc:Bool)(q:Y):Pz:=gz nc [vN,oB] q ag af
def LL:Pz:=gz af [xE,oB] [42] ag ag
theorem Jp(k:Qu ag af q):(Ff nc q).Ok 4:=VP (aQ ⟨Up,aQ ⟨KY,aZ⟩⟩) ⟨46,_,rfl,eX rfl⟩ (eX rfl) k
theorem akg:LL.Ok 4:=VP (aQ ⟨ahx,aQ ⟨KY,aZ⟩⟩) ⟨91,_,rfl,eX rfl⟩ (eX rfl) (.inl rfl)
end
section
variable{l:List D}
theorem amE(h:i<=l.length)(hs:l.length<100000):dh (.list l) (.int i) .none=aa (.list (l.drop i)):=by show(gd (i<4611686018427387904) (aa (jV i l.length))).bind (λk=>aa (D.list (lB l k l.length)))=_;refine ae (dU (bn h (bX hs (eX rfl)))) (ae sI (ae (nw h) ?_));show aa (D.list ((l.take l.length).drop i))=_;exact ae kU rfl
theorem amF:DB (.list (bA us))=aa (.bool (us.all (·.isEmpty))):=by show(eB D.jT (bA us)).bind (λl=>aa (D.bool (l.all (·.isEmpty))))=_;rw[Ei];rfl
noncomputable def LM(f:Bool)(us:List Y):Y:=cZ us [46,42] λu x=>cond u.isEmpty [46,42,47] (cond f [40,63,58,46,42,47,41,63,63] [40,63,58,91,94,47,93,43,47,41,42])
theorem Uq(e:u.isEmpty=ag):LM f (u::us)=cond f [40,63,58,46,42,47,41,63,63] [40,63,58,91,94,47,93,43,47,41,42]:=by show cond u.isEmpty _ _=_;refine ae e ?_;rfl
theorem amG(c:l.length<100000)(h:l.drop (i+1)=bA us)(hi:i<l.length)(b:us=[]\/us=[[]]\/∃u v,us=u::v/\u.isEmpty=ag):aV (FN (n+1)) 12 [.list l,.int i]=.ok (.bytes (LM (cQ i 0) us)):=by
 have s:=amE hi c;have s:=h▸s;obtain rfl|rfl|⟨u,v,rfl,e⟩:=b
 ·exact bc [.p 3 s]
 ·exact bc [.p 3 s]
 ·have a:DB (.list (bA (u::v)))=aa (.bool ag):=by
   refine ae amF (ae zB (ae e ?_));rfl
  refine ae (Uq e) ?_;cases i with|zero=>exact bc [.p 3 s,.p 1 a]|succ i=>exact bc [.p 3 s,.p 1 a]
end
noncomputable def ma(b:Bool)(us:List Y):List Y:=cX (motive:=λx=>Bool->List Y) (λx=>[]) (λu x a b=>cond (u==[42,42]) (cond b (a af) (u::a af)) (u::a ag)) us b
def Lst(b:Bool)(a:List D):Prop:=(b=af/\∃l,a=l++[.bytes [42,42]])\/(b=ag/\(a=[]\/∃l x,a=l++[.bytes x]/\(x==[42,42])=ag))
section
variable{u:Y}
theorem zY:eZ (.list (l++[d])) (.int (-1))=aa d:=by
 have h:jk (-1) (l++[d]).length=aa l.length:=by unfold jk;refine ae aS (ae (c9 (eX rfl)) ?_);show(if(0)<=-1+((l.length:Int)+1)then aa (-1+((l.length:Int)+1)).toNat else ak)=_;rw[alu,aas];refine ae (cD (rZ _)) ?_;rfl
 show(jk (-1) (l++[d]).length).bind (λj=>(l++[d])[j]?)=_;exact ae h (ZP)
theorem El:qZ (.list (l++[d]))=aa af:=by cases l<;>rfl
noncomputable def yM(s:AV)(a:List D)(u:Y):Rh:=[s,.own a,aU u]
theorem adm(h:(u==[42,42])=ag)(a:ac.length<aI):tn 13 [1] n (yM s ac u)=.ok (.next,yM s (ac++[.bytes u]) u):=aX [.b 1 ((aj aa h)),.b 1 (et a)]
theorem adn(h:b=ag/\(ac=[]\/∃l x,ac=l++[.bytes x]/\(x==[42,42])=ag))(a:ac.length<aI):tn 13 [1] n (yM s ac [42,42])=.ok (.next,yM s (ac++[.bytes [42,42]]) [42,42]):=by
 obtain⟨_,rfl|⟨l,x,rfl,e⟩⟩:=h
 ·exact aX []
 ·exact aX [.b 3 (El (l:=l) (d:=.bytes x)),.p 2 (zY (l:=l) (d:=.bytes x)),.b 0 ((aj aa e)),.b 1 (et a)]
theorem ado:tn 13 [1] n (yM s (l++[.bytes [42,42]]) [42,42])=.ok (.cont,yM s (l++[.bytes [42,42]]) [42,42]):=aX [.b 3 (El (l:=l) (d:=.bytes [42,42])),.p 2 (zY (l:=l) (d:=.bytes [42,42]))]
theorem adp(us:List Y):∀{b:Bool} {c:List D} {z:AV},Lst b c->c.length+us.length<aI->∃a,lf 13 [1] n ag [2] (bA us) [s,.own c,z]=.ok (.next,[s,.own (c++bA (ma b us)),a]):=by
 induction us with
 |nil=>exactλ{b c z} x x=>⟨z,by refine ae (bu c) ?_;rfl⟩
 |cons u us ih=>
  intro b c z h d;have f:=bn (cB _ _) d;cases e:u==[42,42]with
  |false=>have g:ma b (u::us)=u::ma ag us:=aj (λt=>cond t (cond b (ma af us) (u::ma af us)) (u::ma ag us)) e;exact ae g (ae IS ((ih (.inr ⟨rfl,.inr ⟨_,_,rfl,e⟩⟩) (vb d)).elim λa w=>⟨a,er rfl (adm e f) w⟩))
  |true=>
   cases bt e;refine h.elim (λh=>?_) λh=>?_
   ·obtain⟨rfl,l,rfl⟩:=h;exact(ih (.inl ⟨rfl,_,rfl⟩) (oQ d)).elim λa w=>⟨a,R8 rfl ado w⟩
   ·exact ae h.1 (ae (show ma ag ([42,42]::us)=[42,42]::ma af us from rfl) (ae IS ((ih (.inl ⟨rfl,_,rfl⟩) (vb d)).elim λa w=>⟨a,er rfl (adn h f) w⟩)))
theorem ab0(a:us.length<aI):aV (FN (n+1)) 13 [.list (bA us)]=.ok (.list (bA (ma ag us))):=(adp (n:=n) (s:=cA (bA us)) us (z:=.U) (.inr ⟨rfl,.inl rfl⟩) (by refine ae wE ?_;rw[dD];exact a)).elim λz w=>(bc [.l 2 w])
end
abbrev Un:=Option (Y×List Pz)
noncomputable def uT(u:Un):Y:=dP u [42,42] λu=>u.1
def pY(u:Un):Prop:=∀T zs,u=aa (T,zs)->(T.isEmpty=ag/\(T==[42,42])=ag)/\(∀z∈zs,z.Ok 2)/\zs.length<=12/\(zT zs).length<=6000/\∀n,aV (FN (n+4)) 10 [.bytes T]=.ok (.bytes (zT zs))
def b8(us:List Un)(tail:Bool):List Y:=us.map uT++cond tail [[]] []
def kP(f s:Bool):List Pz:=cond (f||s) [] [oB]
def pZ(f tail:Bool)(us:List Un):List Pz:=cZ us (cond tail [vN,oB] [vN]) λx x=>cond f [Ff af [63,63]] [LL]
def wz(tail:Bool)(us:List Un)(f s:Bool):List Pz:=cX (motive:=λx=>Bool->Bool->List Pz) (λf s=>cond tail (kP f s) []) (λu us a f s=>kP f s++(dP (motive:=λx=>List Pz) u (pZ f tail us) (λu=>u.2)++a ag u.isNone)) us f s
section
variable{l:List D}
theorem lV:zT (zs++ys)=zT zs++zT ys:=by unfold zT m7;exact ae cU (ae cU (ae G2 rfl))
noncomputable def jB(t:D)(l:List D)(res:Y)(i:Nat)(a b:AV):Rh:=[.val t,aU res,cA l,ar i,a,b]
theorem nX(h:l.drop i=d::r):eZ (.list l) (.int i)=aa d:=by have e:=(aj (l[·]?) (qI i)).symm.trans ((nk).symm.trans (aj (·[0]?) h));show(jk i l.length).bind (λj=>l[j]?)=_;exact ae (Sa (dX.mp e).1) e
def Pv(l:List D)(i:Nat)(f s:Bool):Prop:=(i=0/\f=af/\s=ag)\/∃k v r,i=k+1/\f=ag/\l.drop k=.bytes v::r/\(v==[42,42])=s
theorem Jq(d:l.drop i=.bytes u::r)(h:Pv l i f s)(g:res.length+(zT (kP f s)).length<=aI):(be ((bN 14 [4]).take 2) (FN (n+1)) (jB t l res i a b)).run=.ok (.next,jB t l (res++zT (kP f s)) i (aU u) b):=by
 obtain⟨rfl,rfl,rfl⟩|⟨k,v,r,rfl,rfl,hv,hs⟩:=h
 ·exact ae (bu res) (aG [.p 2 (nX d)])
 ·have e:=nX hv;cases s with|true=>exact ae (show res++zT (kP ag af)=res from bu res) (aG [.p 2 (nX d),.b 1 (bP (iD k)),.p 3 ((tz k 1).symm▸e),.b 0 ((aj (λt=>aa (!t)) hs))])|false=>exact aG [.p 2 (nX d),.b 1 (bP (iD k)),.p 3 ((tz k 1).symm▸e),.b 0 ((aj (λt=>aa (!t)) hs)),.q 1 (w5 n (c:=47) (eX rfl)),.p 0 (gy g)]
end
section
variable{i:Nat}{l:List D}{T:Y}
theorem akh(h:∀u∈us,pY u):LM f (b8 us tail)=zT (pZ f tail us):=by
 cases us with
 |nil=>cases tail<;>rfl
 |cons u us=>
  have e:(uT u).isEmpty=ag:=by cases u with|none=>rfl|some u=>exact(h _ (.head _) u.1 u.2 rfl).1.1
  refine(Uq e).trans ?_;cases f<;>rfl
theorem aki(h:∀u∈us,pY u):b8 us tail=[]\/b8 us tail=[[]]\/∃u v,b8 us tail=u::v/\u.isEmpty=ag:=by
 cases us with
 |nil=>cases tail with|true=>exact .inr (.inl rfl)|false=>exact .inl rfl
 |cons u us=>exact .inr (.inr ⟨uT u,b8 us tail,rfl,by
  cases u with
  |none=>rfl
  |some u=>exact(h _ (.head _) u.1 u.2 rfl).1.1⟩)
theorem Jr(h:pY u):(uT u==[42,42])=u.isNone:=by cases u with|none=>rfl|some u=>exact(h u.1 u.2 rfl).1.2
theorem akj(h:aV (FN n) 12 [.list l,.int i]=.ok (.bytes v))(k:(v==[46,42])=ag)(a:res.length+v.length<=aI):(be ((bN 14 [4]).drop 2) (FN n) (jB t l res i (.val (.bytes [42,42])) b)).run=.ok (.next,jB t l (res++v) (i+1) (.val (.bytes [42,42])) (aU v)):=aG [.q 4 h,.p 2 (gy a),.b 1 ((aj aa k))]
theorem akk(h:aV (FN n) 12 [.list l,.int i]=.ok (.bytes [46,42]))(a:res.length+2<=aI):(be ((bN 14 [4]).drop 2) (FN n) (jB t l res i (.val (.bytes [42,42])) b)).run=.ok (.brk,jB t l (res++[46,42]) i (.val (.bytes [42,42])) (.val (.bytes [46,42]))):=aG [.q 4 h,.p 2 (gy (y:=[46,42]) a)]
theorem Ur(h:aV (FN n) 10 [.bytes T]=.ok (.bytes out))(k:(T==[42,42])=ag)(a:res.length+out.length<=aI):(be ((bN 14 [4]).drop 2) (FN n) (jB t l res i (aU T) b)).run=.ok (.next,jB t l (res++out) (i+1) (aU T) b):=aG [.b 1 ((aj aa k)),.q 2 h,.p 0 (gy a)]
theorem adq:aV (FN (n+4)) 10 [.bytes []]=.ok (.bytes []):=(Run.nil (n:=n+3) (res:=[]) (c:=.U) (b:=.U) (tN (by decide:(0)<100000)) (eX rfl)).elim λj z=>z.elim λc z=>z.elim λb z=>(bc [.l 4 z])
theorem Sy(h:l.drop i=d::r):tc 14 [4] n (jB t l res i a b)=.ok af:=dF [.b 3 (bP (lP λz=>b5 (h.symm.trans (wv z))))]
theorem Us(h:l.drop i=[]):lw 14 [4] n (jB t l res i a b)=.ok (.next,jB t l res i a b):=kt (dF [.b 3 (f0 (Cd.mp h))])
theorem ER(h:l.drop i=d::r):l.drop (i+1)=r:=by refine am ny (ae h ?_);rfl
def wg(n:Nat)(t:D)(l:List D)(res:Y)(i:Nat)(a b:AV)(out:Y):Prop:=∃c a' d,lw 14 [4] n (jB t l res i a b)=.ok (.next,jB t l (res++out) c a' d)
theorem wg.turn(e:l.drop i=.bytes u::r)(h:(be ((bN 14 [4]).take 2) (FN n) (jB t l res i a b)).run=.ok (.next,jB t l (res++out) i (aU u) b))(f:(be ((bN 14 [4]).drop 2) (FN n) (jB t l (res++out) i (aU u) b)).run=.ok (.next,jB t l (res++out++Xr) (i+1) u' c))
  (k:wg n t l (res++out++Xr) (i+1) u' c aoC):wg n t l res i a b (out++(Xr++aoC)):=k.elim λd z=>z.elim λg z=>z.elim λc z=>⟨d,g,c,by
 rw[<-bg,<-bg];exact qS (Sy e) (ji 2 h f) z⟩
theorem wg.end(h:l.drop i=[]):wg n t l res i a b []:=⟨i,a,b,(Us h).trans (by rw[bu])⟩
theorem ahy(h:(zT (pZ f tail us)==[46,42])=af):us=[]/\tail=ag:=by
 cases us with
 |nil=>cases tail with|false=>exact⟨rfl,rfl⟩|true=>cases h
 |cons u us=>cases f<;>cases h
theorem ahz(p:l.length<100000)(us:List Un):∀{i:Nat} {res:Y} {a b:AV} {f s:Bool},(∀u∈us,pY u)->l.drop i=bA (b8 us tail)->Pv l i f s->res.length+(zT (wz tail us f s)).length<=aI->wg (n+5) t l res i a b (zT (wz tail us f s)):=by
 induction us with
 |nil=>intro i res a b f s h d hp j;cases tail with|false=>exact⟨i,a,b,(Us d).trans (ae (show res++zT (wz ag [] f s)=res from bu res) rfl)⟩|true=>have g:=wg.turn d (Jq (t:=t) (a:=a) (b:=b) d hp j) (Ur (adq (n:=n+1)) rfl (ae aS j)) (.end (ER d));rw[bu,bu]at g;exact g
 |cons u us ih=>
  intro i res a b f s h d hp j;have d:l.drop i=.bytes (uT u)::bA (b8 us tail):=d;have w:=lP λz=>b5 (d.symm.trans (wv z));have q:Pv l (i+1) ag u.isNone:=.inr ⟨i,uT u,_,rfl,rfl,d,Jr (h u (.head _))⟩;have o:=λx m=>h x (.tail _ m);have y:cQ i 0=f:=hp.elim (λz=>by refine ae z.1 (ae z.2.1 ?_);rfl) λz=>z.elim λk z=>z.elim λv z=>z.elim λr z=>by refine ae z.1 (ae z.2.1 ?_);rfl
  cases u with
  |none=>have e:wz tail (ak::us) f s=kP f s++(pZ f tail us++wz tail us ag af):=rfl;have j:=aS▸aS▸lV▸lV▸e▸j;refine ae e (ae lV (ae lV ?_));have c:=amG (n:=n+4) p (ER d) w (aki o);have c:=(akh o)▸y▸c;have hh:=Jq (t:=t) (a:=a) (b:=b) (n:=n+4) d hp (vd j);rw[<-fG]at j;cases k:zT (pZ f tail us)==[46,42]with|true=>obtain⟨rfl,rfl⟩:=ahy k;refine⟨i,.val (.bytes [42,42]),.val (.bytes [46,42]),?_⟩;rw[<-bg,<-bg,show res++zT (kP f s)++zT (pZ f ag [])++zT (wz ag [] ag af)=res++zT (kP f s)++[46,42]from bu _];exact Ua (Sy d) (ji 2 hh (akk c (ae aS (vd j))))|false=>exact .turn d hh (akj c k (ae aS (vd j))) (ih o (ER d) q (by rw[aS,aS,fG];exact j))
  |some u=>have e:wz tail (aa u::us) f s=kP f s++(u.2++wz tail us ag ag):=rfl;have j:=aS▸aS▸lV▸lV▸e▸j;refine ae e (ae lV (ae lV ?_));have hh:=Jq (t:=t) (a:=a) (b:=b) (n:=n+4) d hp (vd j);rw[<-fG]at j;have ok:=h _ (.head _) u.1 u.2 rfl;exact .turn d hh (Ur (ok.2.2.2.2 (n+1)) ok.1.2 (ae aS (vd j))) (ih o (ER d) q (by rw[aS,aS,fG];exact j))
end
noncomputable def eu(b:Bool)(us:List Un):List Un:=cX (motive:=λx=>Bool->List Un) (λx=>[]) (λu x a b=>cond u.isNone (cond b (a af) (u::a af)) (u::a ag)) us b
def mb(u:Un):Prop:=pY u/\i8 (uT u)
section
theorem DK(us:List Un):∀{b:Bool},(∀x∈eu b us,x∈us)/\(eu b us).length<=us.length:=by
 induction us with
 |nil=>exact⟨aZ,bO 0⟩
 |cons u us ih=>
  intro b;have k:∀b,(∀x∈u::eu b us,x∈u::us)/\(u::eu b us).length<=us.length+1:=λb=>⟨aQ ⟨.head _,λx m=>.tail _ (ih.1 x m)⟩,c8 ih.2⟩;show(∀x∈cond u.isNone (cond b (eu af us) (u::eu af us)) (u::eu ag us),x∈u::us)/\(cond u.isNone (cond b (eu af us) (u::eu af us)) (u::eu ag us)).length<=us.length+1;cases u.isNone with
  |false=>exact k ag
  |true=>cases b with|false=>exact k af|true=>exact⟨λx m=>.tail _ (ih.1 x m),iB ih.2⟩
theorem afi(us:List Un):∀{b:Bool},(∀u∈us,pY u)->ma b (b8 us tail)=b8 (eu b us) tail:=by
 induction us with
 |nil=>exactλy=>by cases tail<;>rfl
 |cons u us ih=>intro b h;show cond (uT u==[42,42]) (cond b (ma af (b8 us tail)) (uT u::ma af (b8 us tail))) (uT u::ma ag (b8 us tail))=b8 (cond u.isNone (cond b (eu af us) (u::eu af us)) (u::eu ag us)) tail;refine ae (Jr (h u (.head _))) (ae (ih λx m=>h x (.tail _ m)) (ae (ih λx m=>h x (.tail _ m)) ?_));cases u.isNone with|false=>rfl|true=>cases b<;>rfl
theorem ahA:i8 []:=⟨.of gM,cy _,λn=>iK.nil⟩
theorem ve(h:∀u∈us,mb u):∀x∈b8 us tail,i8 x:=dg (λx m=>(ey.mp m).elim λu z=>am z.2 ((h u z.1).2)) (by
 cases tail with
 |true=>exact aQ ⟨ahA,aZ⟩
 |false=>exact aZ)
theorem ahB(h:aK (v::vs)=[42,42]):v=[42,42]/\vs=[]:=by cases vs with|nil=>exact⟨h,rfl⟩|cons w vs=>rw[fx]at h;exact aC (h▸fF v (.head _)) (eX rfl)
theorem Em:(b8 us tail).length<=us.length+1:=by unfold b8;refine ae aS ?_;rw[aW];exact eJ (by cases tail<;>decide:(cond tail [[]] ([])).length<=1) _
theorem ahC(h:∀u∈us,mb u)(c:b8 us tail=u::vs)(d:us.length<12)(hb:(zT (wz tail (eu ag us) af ag)).length<=aI):aV (FN (n+6)) 14 [.bytes (aK (b8 us tail))]=.ok (.bytes (zT (wz tail (eu ag us) af ag))):=by
 have l:(b8 us tail).length<=12:=aw Em d;cases k:aK (b8 us tail)==[42,42]with
 |true=>
  have z:=bt k;rw[c]at z;obtain⟨rfl,rfl⟩:=ahB z;cases us with
  |nil=>cases tail<;>cases c
  |cons x us=>
   have e:=bD c;have q:=Jr (h x (.head _)).1;have q:=e.1▸q;cases x with
   |some x=>cases q
   |none=>
    cases us with
    |cons y us=>cases e.2
    |nil=>cases tail with|true=>cases e.2|false=>exact bc []
 |false=>rw[c]at l;have g:=ahv (n:=n+1) (am c (ve (tail:=tail) h)) (jb (Nat.lt_of_succ_le l) (eX rfl));rw[<-c]at g;have f:=ab0 (n:=n+4) (bn (c▸l) (eX rfl));rw[afi us λu m=>(h u m).1]at f;exact(ahz (n:=n) (t:=.bytes (aK (b8 us tail))) (l:=bA (b8 (eu ag us) tail)) (res:=[]) (a:=.U) (b:=.U) (by unfold bA;rw[aW];exact bn (aw Em (c8 (DK us).2)) (bn d (eX rfl))) (eu ag us) (λu m=>(h u ((DK us).1 u m)).1) rfl (.inl ⟨rfl,rfl,rfl⟩) (am ((dD _).symm) hb)).elim λi z=>z.elim λa z=>z.elim λb z=>(bc [.b 1 ((aj aa k)),.q 1 g,.q 0 f,.l 0 z])
end
noncomputable def dJ(az:Bool):Y:=cond az [47] []
def strN(us:List Un)(tail:Bool):List Un×Bool:=cZ us (us,ag) λu bW=>dP u (cond (b8 bW tail).isEmpty (us,ag) (bW,af)) λx=>(us,ag)
def pL:Pz:=Ff ag [63]
section
variable{u R r:Y}
theorem xF{z:Y}(h:∀r,y≠z++r):aa (z.isPrefixOf y)=aa ag:=aj aa (gL.mpr λe=>(GK.mp e).elim λr q=>h r q.symm)
theorem fV.head(h:fV (47::u)):False:=cf ((h.1 [] u rfl).1)
theorem Sz(h:∀x∈u::vs,i8 x)(k:u=[]->vs=[]):aK (u::vs)≠47::r:=λe=>by
 cases u with
 |nil=>have e:=(k rfl)▸e;cases e
 |cons c u=>
  have g:∃a,aK ((c::u)::vs)=c::a:=by cases vs with|nil=>exact⟨u,rfl⟩|cons w vs=>exact⟨u++47::aK (w::vs),fx⟩
  exact g.elim λa g=>((bD (g.symm.trans e)).1▸(h (c::u) (.head _)).1).head
theorem Ut(h:∀x∈u::vs,i8 x)(k:u=[]->vs=[])(k2:u=[42,42]->vs=[]):aK (u::vs)≠42::42::47::r:=λe=>by
 have p:=(h u (.head _)).1;cases vs with
 |nil=>exact nomatch (p.1 [42,42] r e)
 |cons w vs=>
  rw[fx]at e;cases u with
  |nil=>exact b5 (k rfl)
  |cons a u=>cases u with
   |nil=>cases(bD (bD e).2).1
   |cons b u=>cases u with|nil=>exact b5 (k2 (ae ((bD e).1) (ae ((bD (bD e).2).1) rfl)))|cons c u=>cases e;exact nomatch (p.1 [42,42] u rfl)
theorem Q4(b:R.length<90000):aV (FN (n+1)) 16 [.bytes (dJ az++42::42::47::R),res]=.ok (.tup [.bytes R,.bytes [40,46,42,47,41,63]]):=by have a:∀T:Y,T.length<=4->At (T++R) T.length R:=λT c=>⟨qx,aS.symm,by show(T++R).length<100000;exact ae aS (jb (Nat.add_lt_add_of_le_of_lt c b) (eX rfl))⟩;cases az with|true=>exact bc [.p 4 ((a [47,42,42,47] (eX rfl)).Bi)]|false=>exact bc [.p 7 ((a [42,42,47] (eX rfl)).Bi)]
theorem Q5(d:R.length<90000)(c:∀r,R≠47::r)(a:∀r,R≠42::42::47::r):aV (FN (n+1)) 16 [.bytes (dJ az++R),res]=.ok (.tup [.bytes R,.bytes []]):=by cases az with|true=>exact bc [.b 2 (xF (y:=47::R) (z:=[47,42,42,47]) λr e=>a r (bD e).2),.p 7 ((At.one (tN (show(47::R).length<100000 from bX (jH d) (eX rfl)))).Bi)]|false=>exact bc [.b 2 (xF (z:=[47,42,42,47]) λr=>c _),.b 2 (xF (z:=[42,42,47]) λr=>a _),.b 2 (xF (z:=[47]) λr=>c _)]
end
section
variable{g:Y}
theorem IT(n:Nat):jV (-1) n=n-1:=by show(max 0 (min (if(-1)<0 then-1+(n:Int)else-1) n)).toNat=_;refine ae (cD (eX rfl)) ?_;cases n with|zero=>rfl|succ n=>show(max 0 (min (-1+((n:Int)+1)) ((n+1:Nat)))).toNat=n;simp only [alu,aas,KW,nw (gO _)];refine ae (Hu (rZ _)) ?_;rfl
theorem ku:dh (.bytes P) .none (.int (-1))=aa (.bytes P.dropLast):=by show(aa (jV (-1) P.length)).bind (λh=>aa (D.bytes (lB P 0 h)))=_;rw[IT];refine ae B4 ?_;rfl
noncomputable def gT:Y:=[40,46,42,47,41,63]
def Gp(b e:Bool)(g W:Y):Y:=cond e ([40,63,109,115,41]++cond b [] gT++g++W) ([40,63,109,115,41]++cond b [] gT++g++W++[47,63])++[92,90]
theorem akl(o:g=[]\/g=gT)(f:∀res,aV (FN n) 16 [.bytes P,res]=.ok (.tup [.bytes R,.bytes g]))(d:aV (FN n) 15 [.bytes R]=.ok (.bytes W))(hb:P.dropLast.contains 47=b)(c:([47]:Y).isSuffixOf R=e)(m:W.length<=90000):aV (FN (n+1)) 17 [.bytes P]=.ok (.bytes (Gp b e g W)):=by
 have a:∀x:Y,x.length<=20->c6 (.bytes x) (.bytes W)=aa (.bytes (x++W)):=λx h=>gy (aw (dz h m) (eX rfl));have l:∀x:Y,x.length<=20->(x++W).length<=90020:=λx h=>by exact ae aS (aw (dz h m) (eX rfl))
 have k:∀x:Y,x.length<=20->c6 (.bytes (x++W)) (.bytes [47,63])=aa (.bytes (x++W++[47,63])):=λx h=>gy (aw (eW (l x h) 2) (eX rfl));have j:∀x:Y,x.length<=20->c6 (.bytes (x++W)) (.bytes [92,90])=aa (.bytes (x++W++[92,90])):=λx h=>gy (aw (eW (l x h) 2) (eX rfl));have i:∀x:Y,x.length<=20->c6 (.bytes (x++W++[47,63])) (.bytes [92,90])=aa (.bytes (x++W++[47,63]++[92,90])):=λx h=>gy (aw (eW (by rw[aS];exact eW (l x h) 2) 2) (eX rfl));have hb:=aj (λt=>aa (!t)) hb;have c:=aj aa c;obtain rfl|rfl:=o
 ·cases b
  ·cases e
   ·exact bc [.p 2 (ku (P:=P)),.b 0 hb,.q 4 (f (.bytes [40,63,109,115,41,40,46,42,47,41,63])),.q 4 d,.p 0 (a [40,63,109,115,41,40,46,42,47,41,63] (eX rfl)),.b 2 c,.p 1 (k [40,63,109,115,41,40,46,42,47,41,63] (eX rfl)),.p 1 (i [40,63,109,115,41,40,46,42,47,41,63] (eX rfl))]
   ·exact bc [.p 2 (ku (P:=P)),.b 0 hb,.q 4 (f (.bytes [40,63,109,115,41,40,46,42,47,41,63])),.q 4 d,.p 0 (a [40,63,109,115,41,40,46,42,47,41,63] (eX rfl)),.b 2 c,.p 1 (j [40,63,109,115,41,40,46,42,47,41,63] (eX rfl))]
  ·cases e
   ·exact bc [.p 2 (ku (P:=P)),.b 0 hb,.q 2 (f (.bytes [40,63,109,115,41])),.q 4 d,.p 0 (a [40,63,109,115,41] (eX rfl)),.b 2 c,.p 1 (k [40,63,109,115,41] (eX rfl)),.p 1 (i [40,63,109,115,41] (eX rfl))]
   ·exact bc [.p 2 (ku (P:=P)),.b 0 hb,.q 2 (f (.bytes [40,63,109,115,41])),.q 4 d,.p 0 (a [40,63,109,115,41] (eX rfl)),.b 2 c,.p 1 (j [40,63,109,115,41] (eX rfl))]
 ·cases b
  ·cases e
   ·exact bc [.p 2 (ku (P:=P)),.b 0 hb,.q 4 (f (.bytes [40,63,109,115,41,40,46,42,47,41,63])),.q 7 d,.p 0 (a [40,63,109,115,41,40,46,42,47,41,63,40,46,42,47,41,63] (eX rfl)),.b 2 c,.p 1 (k [40,63,109,115,41,40,46,42,47,41,63,40,46,42,47,41,63] (eX rfl)),.p 1 (i [40,63,109,115,41,40,46,42,47,41,63,40,46,42,47,41,63] (eX rfl))]
   ·exact bc [.p 2 (ku (P:=P)),.b 0 hb,.q 4 (f (.bytes [40,63,109,115,41,40,46,42,47,41,63])),.q 7 d,.p 0 (a [40,63,109,115,41,40,46,42,47,41,63,40,46,42,47,41,63] (eX rfl)),.b 2 c,.p 1 (j [40,63,109,115,41,40,46,42,47,41,63,40,46,42,47,41,63] (eX rfl))]
  ·cases e
   ·exact bc [.p 2 (ku (P:=P)),.b 0 hb,.q 2 (f (.bytes [40,63,109,115,41])),.q 7 d,.p 0 (a [40,63,109,115,41,40,46,42,47,41,63] (eX rfl)),.b 2 c,.p 1 (k [40,63,109,115,41,40,46,42,47,41,63] (eX rfl)),.p 1 (i [40,63,109,115,41,40,46,42,47,41,63] (eX rfl))]
   ·exact bc [.p 2 (ku (P:=P)),.b 0 hb,.q 2 (f (.bytes [40,63,109,115,41])),.q 7 d,.p 0 (a [40,63,109,115,41,40,46,42,47,41,63] (eX rfl)),.b 2 c,.p 1 (j [40,63,109,115,41,40,46,42,47,41,63] (eX rfl))]
end
section
variable{k:Nat}
def M6(k:Nat)(rs:Rh):Rh:=rs++(kJ k).map .val++eL (kA k) .U
theorem Fg(h:(cQ k 47,cQ rs.length (gY k))=(ag,af)):FN (n+1) k rs=tn k [] n (M6 k rs):=vr (λz=>by have h:=z▸h;exact bU ((aY h).1)) (ni (aY h).2)
theorem KZ(h:(cQ k 47,cQ (ds.length+1) (gY k))=(ag,af))(e:tn k [] n (M6 k (.U::ds.map .val))=.ok (.next,r))(hf:X.fields C m r=aa d):fA (FN (n+1)) C k m ds=.ok d:=by unfold fA;exact ae (Fg (by refine ae eY ?_;rw[aW];exact h)) (ae e (aj Ev.of hf))
theorem akm(h:(cQ k 47,cQ (ds.length+1) (gY k))=(ag,af))(e:tn k [] n (M6 k (.U::ds.map .val))=.exc):fA (FN (n+1)) C k m ds=.exc:=by unfold fA;refine ae (Fg (by refine ae eY ?_;rw[aW];exact h)) (ae e ?_);rfl
end
section
variable{i:Nat}
theorem akn(h:i<100000):dh (.bytes t) .none (.int i)=aa (.bytes (t.take i)):=by show(gd (i<4611686018427387904) (aa (jV i t.length))).bind (λh=>aa (D.bytes (lB t 0 h)))=_;refine ae (dU (bX h (eX rfl))) (ae sI ?_);show aa (D.bytes (t.take (min i t.length)))=_;exact am N6 rfl
noncomputable def lM:Y:=[40,63,109,115,41]
def zD(zs:List Pz):D:=.list (BR (zs.map (·.1)))
theorem ako(h:∀z∈zs,z.Ok 4)(b:zs.length<1000)(ht:Ok (lM++zT zs)):fA (FN (n+6)) 92 48 3 [.bytes (lM++zT zs),.bool ah]=.ok (ex ah (zD zs)):=by have a:At (lM++zT zs) 5 (zT zs++[]):=am ((bu (zT zs)).symm) ⟨rfl,(gn ..).trans rfl,ht⟩;exact KZ (by kernel_rfl) (r:=[.U,aU (lM++zT zs),aR ah,aR ah,.val (zD zs),ar (5+(zT zs).length)]) (aX [.p 3 (akn (t:=lM++zT zs) (i:=5) (eX rfl)),.q 1 (Ov (Sx h n) (.inl rfl) a a.bK (by rw[aW];exact b))]) rfl
theorem akp(h:∀z∈zs,z.Ok 4)(a:Ok nm):∃t,aV (FN (n+6)) 7 [ex ah (zD zs),.bytes nm]=.ok (.bool t)/\(t=af↔∃u,zR ah zs nm u):=(Uo h n a).elim λL y=>by have c:=ahc a y.2.1;rw[y.1]at c;exact c.elim λt z=>⟨t,z.1,z.2.trans (km λu=>y.2.2 nm u)⟩
end
section
variable{x:Un}
def uf:Pz:=(([47,63],og,f9 ag [(47,47)],ag,af),λx s u=>s=u\/YR s u)
def vO:Pz:=(([92,90],LG,f9 af [],af,af),λx=>Xn)
theorem amH:uf.Ok 2:=λn=>⟨ir.of (IP (eX rfl) (eX rfl) (eX rfl) (eX rfl)) (.inl rfl) ⟨47,_,rfl,eX rfl⟩,λb nm a=>⟨_,w6 a,λs u=>or_congr ⟨uW,λz=>⟨rfl,z⟩⟩ ⟨λz=>z.elim λc z=>z.1.trans (aj (·::u) (D3.mp z.2)),λz=>⟨47,z,D3.mpr rfl⟩⟩⟩⟩
theorem akq:vO.Ok 2:=λn=>⟨ir.of ae1 xD ⟨92,_,rfl,eX rfl⟩,λb nm a=>⟨_,ae8 a,λs u=>Ad⟩⟩
def BV(b st e tail:Bool)(us:List Un):List Pz:=cond b [] [pL]++(cond st [pL] []++(wz tail us af ag++(cond e [] [uf]++[vO])))
theorem aqW{α:Type}{P:α->Prop}{x:α}(h:P x)(b:Bool):(∀y∈cond b [x] [],P y)/\∀y∈cond b [] [x],P y:=by cases b with|true=>exact⟨aQ ⟨h,aZ⟩,aZ⟩|false=>exact⟨aZ,aQ ⟨h,aZ⟩⟩
theorem aq5:pL.Ok 4:=Jp (.inl rfl)
def Zb(k m:Nat)(zs:List Pz):Prop:=(∀z∈zs,z.Ok 4)/\(zT zs).length<=k/\zs.length<=m
section
theorem Zb.app(h:Zb k m zs)(a:Zb k' m' ys):Zb (k+k') (m+m') (zs++ys):=⟨dg h.1 a.1,ae lV (ae aS (dz h.2.1 a.2.1)),ae aS (dz h.2.2 a.2.2)⟩
theorem Zb.le(h:Zb k m zs)(a:k<=k')(b:m<=m'):Zb k' m' zs:=⟨h.1,aw h.2.1 a,aw h.2.2 b⟩
theorem Zb.nil:Zb k m []:=⟨aZ,cy _,cy _⟩
theorem Zb.one(h:z.Ok 4)(a:z.1.1.length<=k):Zb k 1 [z]:=⟨aQ ⟨h,aZ⟩,aw (cJ (aj iT (bu z.1.1))) a,bO 1⟩
theorem Zb.opt(h:Zb k m [z])(b:Bool):Zb k m (cond b [z] [])/\Zb k m (cond b [] [z]):=by cases b with|true=>exact⟨h,.nil⟩|false=>exact⟨.nil,h⟩
end
theorem VQ:Zb 1 1 [oB]:=.one (KY.up 2) (eX rfl)
theorem Uu:Zb 1 1 (kP f s):=(VQ.opt _).2
theorem Xs:Zb 6 1 [pL]:=.one (Jp (.inl rfl)) (eX rfl)
theorem akr(h:∀u,x=aa u->pY x):Zb 6011 14 (dP (motive:=λy=>List Pz) x (pZ f tail us) λu=>u.2):=by
 cases x with
 |none=>
  have a:Zb 2 1 [vN]:=.one (Up.up 2) (eX rfl);cases us with
  |nil=>cases tail with|true=>exact(a.app VQ).le (eX rfl) (eX rfl)|false=>exact a.le (eX rfl) (eX rfl)
  |cons v us=>cases f with|true=>exact(Zb.one (k:=9) (Jp (.inr ⟨rfl,rfl,rfl⟩)) (eX rfl)).le (eX rfl) (eX rfl)|false=>exact(Zb.one (k:=11) akg (eX rfl)).le (eX rfl) (eX rfl)
 |some u=>have g:=h u rfl u.1 u.2 rfl;exact⟨λz m=>kO.up (g.2.1 z m) 2,aw g.2.2.2.1 (eX rfl),aw g.2.2.1 (eX rfl)⟩
theorem Xt(a b x:Nat):a+(b+(x+1))=x+(a+b)+1:=by rw[<-fG,gn (a+b),r7]
theorem VR(us:List Un):∀{f s:Bool},(∀u∈us,pY u)->Zb (6012*us.length+1) (15*us.length+1) (wz tail us f s):=by
 induction us with
 |nil=>intro f s _;cases tail with|true=>exact Uu|false=>exact .nil
 |cons u us ih=>exactλ{f s} h=>(Uu.app ((akr λy y=>h u (.head _)).app (ih λx m=>h x (.tail _ m)))).le (cJ (Xt 1 6011 _)) (cJ (Xt 1 14 _))
theorem amI(h:∀u∈us,pY u)(l:us.length<=11):Zb 80000 200 (BV b st e tail us):=
 ((Xs.opt b).2.app ((Xs.opt st).1.app ((VR us h).app (((Zb.one (k:=2) (amH.up 2) (eX rfl)).opt e).2.app (Zb.one (k:=2) (akq.up 2) (eX rfl)))))).le
  (aw (eJ (eJ (eW (eW (dy 6012 l) 1) _) _) _) (eX rfl)) (aw (eJ (eJ (eW (eW (dy 15 l) 1) _) _) _) (eX rfl))
theorem amJ:Gp b e g W=lM++(cond b [] gT++(g++(W++(cond e [] [47,63]++[92,90])))):=by unfold Gp;cases e with|true=>show lM++cond b [] gT++g++W++[92,90]=lM++(cond b [] gT++(g++(W++[92,90])));rw[bg,bg,bg]|false=>show lM++cond b [] gT++g++W++[47,63]++[92,90]=lM++(cond b [] gT++(g++(W++([47,63]++[92,90]))));rw[bg,bg,bg,bg]
theorem ahD:Gp b e (zT (cond st [pL] [])) (zT (wz tail us af ag))=lM++zT (BV b st e tail us):=by unfold BV;refine ae lV (ae lV (ae lV (ae lV (ae amJ (ae (show zT (cond b [] [pL])=cond b [] gT by cases b<;>rfl) (ae (show zT (cond e [] [uf])=cond e [] [47,63] by cases e<;>rfl) ?_))))));rfl
end
section
def M7(n:Nat)(az tail:Bool)(us a:List Un)(st:Bool):Prop:=(∀x∈a,x∈us)/\a.length<=us.length/\(∃u vs,b8 a tail=u::vs)/\∀res,aV (FN (n+1)) 16 [.bytes (dJ az++aK (b8 us tail)),res]=.ok (.tup [.bytes (aK (b8 a tail)),.bytes (zT (cond st [pL] []))])
theorem VS(h:∀u∈us,mb u)(a:b8 us tail=u::vs)(b:us.length<=11):(aK (u::vs)).length<90000:=bn (Fe vs (am a (ve h))) (bn (dy 481 (aw (am a Em) (c8 b))) (eX rfl))
theorem IU(a:b8 us tail=u::vs)(c:(aK (u::vs)).length<90000)(e:∀r,aK (u::vs)≠47::r)(d:∀r,aK (u::vs)≠42::42::47::r):M7 n az tail us us ag:=⟨λx=>id,bO _,⟨u,vs,a⟩,λb=>am a.symm (Q5 c e d)⟩
theorem led(h:∀u∈us,mb u)(a:b8 us tail=u::vs)(d:us.length<=11):M7 n az tail us (strN us tail).1 (strN us tail).2:=by
 have f:=VS h a d;cases us with
 |nil=>cases tail with|true=>cases a;exact IU rfl f (λ_ h=>b4 h) (λ_ h=>b4 h)|false=>cases a
 |cons x us=>cases x with
  |some x=>have g:=(h _ (.head _)).1 x.1 x.2 rfl;have c:x.1≠[]:=λe=>bb (g.1.1.symm.trans (aj Rm e));have i:x.1≠[42,42]:=λe=>bb (g.1.2.symm.trans (aj (·==[42,42]) e));exact IU rfl (a▸f:(aK (b8 (aa x::us) tail)).length<90000) (λr=>Sz (ve (tail:=tail) h) λe=>aC e c) λr=>Ut (ve (tail:=tail) h) (λe=>aC e c) λe=>aC e i
  |none=>refine ae (show strN (ak::us) tail=cond (b8 us tail).isEmpty (ak::us,ag) (us,af)from rfl) ?_;cases e:b8 us tail with|nil=>exact IU (aj ([42,42]::·) e) (eX rfl) nofun nofun|cons w ws=>show M7 n az tail (ak::us) us af;refine⟨λy=>.tail _,gO _,⟨w,ws,e⟩,λb=>?_⟩;refine ae (show b8 (ak::us) tail=[42,42]::w::ws from aj ([42,42]::·) e) (ae fx ?_);show aV (FN (n+1)) 16 [.bytes (dJ az++42::42::47::aK (w::ws)),b]=.ok (.tup [.bytes (aK (b8 us tail)),.bytes gT]);exact ae e (Q4 (VS (λx m=>h x (.tail _ m)) e (zj d)))
def pT(az tail:Bool)(us:List Un):Y:=dJ az++aK (b8 us tail)
def i9(az tail:Bool)(us:List Un):List Pz:=BV ((pT az tail us).dropLast.contains 47) (strN us tail).2 (([47]:Y).isSuffixOf (aK (b8 (strN us tail).1 tail))) tail (eu ag (strN us tail).1)
theorem AA(h:∀u∈us,mb u)(i:b8 us tail=u::vs)(a:us.length<=11):aV (FN (n+8)) 17 [.bytes (pT az tail us)]=.ok (.bytes (lM++zT (i9 az tail us)))/\fA (FN (n+8)) 92 48 3 [.bytes (lM++zT (i9 az tail us)),.bool ah]=.ok (ex ah (zD (i9 az tail us)))/\∀z∈i9 az tail us,z.Ok 4:=by have l:=led (n:=n+6) (az:=az) h i a;have g:=λu m=>h u (l.1 u m);have c:∀u∈eu ag (strN us tail).1,pY u:=λu m=>(g u ((DK _).1 u m)).1;have cl:(eu ag (strN us tail).1).length<=11:=aw (DK _).2 (aw l.2.1 a);have z:=amI (b:=(pT az tail us).dropLast.contains 47) (st:=(strN us tail).2) (e:=([47]).isSuffixOf (aK (b8 (strN us tail).1 tail))) (tail:=tail) c cl;have d:(zT (wz tail (eu ag (strN us tail).1) af ag)).length<=90000:=aw (VR (tail:=tail) (f:=af) (s:=ag) _ c).2.1 (aw (eW (dy 6012 cl) 1) (eX rfl));obtain⟨j,k,e'⟩:=l.2.2.1;have t:=ahC (n:=n) g e' (bn (aw l.2.1 a) (eX rfl)) (aw d (eX rfl));refine⟨?_,ako z.1 (bn z.2.2 (eX rfl)) (show(lM++zT (i9 az tail us)).length<100000 by rw[aS];exact bn (eJ z.2.1 5) (eX rfl)),z.1⟩;unfold i9;exact am ahD (akl (by cases(strN us tail).2<;>first|exact .inl rfl|exact .inr rfl) l.2.2.2 ((bc [.q 1 t])) rfl rfl d)
end
section
variable{B:Rl}{u:Y}
theorem adr:∀{s u},vx (l++m) s u↔sq (vx l) (vx m) s u:=by induction l with|nil=>exact amz.symm|cons R l ih=>intro s u;exact(qW (B':=sq (vx l) (vx m)) (λx x=>jg) λx x=>ih).trans Q3.symm
theorem xp:zR ah (xs++ys) s u↔sq (zR ah xs) (zR ah ys) s u:=by unfold zR;exact ae cU adr
def Wo(R:Rl):Prop:=∀s u,R s u↔∃v,s=v++u/\47∉v/\R v []
theorem Wo.sq(h:Wo A)(b:Wo B):Wo (sq A B):=λs u=>⟨λz=>z.elim λw z=>((h s w).mp z.1).elim λv x=>((b w u).mp z.2).elim λy k=>⟨v++y,by simp only [x.1,k.1,bg],λm=>(kW.mp m).elim x.2.1 k.2.1,y,(h (v++y) y).mpr ⟨v,rfl,x.2.1,x.2.2⟩,k.2.2⟩,
 λz=>z.elim λv z=>z.2.2.elim λw x=>((h v w).mp x.1).elim λa y=>⟨w++u,(h s (w++u)).mpr ⟨a,by simp only [z.1,y.1,bg],y.2.1,y.2.2⟩,(b (w++u) u).mpr ⟨w,rfl,λm=>z.2.1 (ae y.1 (fF _ m)),x.2⟩⟩⟩
theorem amK:Wo Eq:=λs u=>⟨λe=>⟨[],e,gM,rfl⟩,λz=>z.elim λv z=>by refine ae z.1 (ae z.2.2 ?_);rfl⟩
theorem amL:Wo iA:=λs u=>⟨λz=>z.elim λv z=>⟨v,z.1,z.2,v,(bu v).symm,z.2⟩,λz=>z.elim λv z=>⟨v,z.1,z.2.1⟩⟩
theorem amM:Wo (qg ah ng R):=λs u=>⟨λz=>z.elim λc z=>⟨[c],z.1,λm=>z.2.1 (bB.mp m).symm,c,rfl,z.2⟩,λz=>z.elim λv z=>z.2.2.elim λc x=>⟨c,by refine ae z.1 (ae x.1 ?_);rfl,x.2⟩⟩
theorem VT(es:List E):Wo (gI ah es):=by
 induction es with
 |nil=>exact amK
 |cons e es ih=>refine Wo.sq ?_ ih;unfold E.rel;cases e.2.1 with|true=>exact amL|false=>exact amM
def ug(ps:List Y):Y:=cZ ps [] λp ps=>47::aK (p::ps)
theorem Fh:aK (p::ps)=p++ug ps:=by cases ps with|nil=>exact(bu p).symm|cons q ps=>exact fx
def vP(u:Y):Prop:=u=[]\/∃w,u=47::w
theorem SD:vP (ug ps):=by cases ps with|nil=>exact .inl rfl|cons p ps=>exact .inr ⟨_,rfl⟩
theorem HS(v:Y):∀{p:Y},47∉v->47∉p->vP u->vP r->v++u=p++r->v=p/\u=r:=by
 have k:∀{c:Nat} {v p:Y},47∉c::p->vP u->u=c::v->False:=λn h e=>h.elim (λh=>b4 (h.symm.trans e)) λh=>h.elim λw h=>n (am ((bD (h.symm.trans e)).1) (.head _));have g:∀{c:Nat} {v p:Y},47∉c::p->vP r->r=c::v->False:=λn h e=>h.elim (λh=>b4 (h.symm.trans e)) λh=>h.elim λw h=>n (am ((bD (h.symm.trans e)).1) (.head _))
 induction v with
 |nil=>intro p _ hp a b e;cases p with|nil=>exact⟨rfl,e⟩|cons c p=>exact(k hp a e).elim
 |cons c v ih=>intro p f hp a b e;cases p with|nil=>exact(g f b e.symm).elim|cons d p=>have i:=ih (λm=>f (.tail _ m)) (λm=>hp (.tail _ m)) a b (bD e).2;exact⟨ae (bD e).1 (ae i.1 rfl),i.2⟩
theorem Iw(hp:47∉p)(a:vP u):LK ah q (p++ug ps) u↔(u=ug ps/\gI ah q p []/\p≠[]):=⟨λz=>((VT q _ _).mp z.1).elim λv y=>by
  have i:=HS v y.2.1 hp a SD y.1.symm;exact⟨i.2,am i.1 y.2.2,λe=>z.2 (by refine ae i.2 (ae e ?_);rfl)⟩,
 λz=>⟨(VT q _ _).mpr ⟨p,ae z.1 rfl,hp,z.2.1⟩,λe=>z.2.2 (NJ.mp (e.trans z.1))⟩⟩
theorem afj(v:Y):47∈v->∃a b,v=a++47::b/\47∉a:=by induction v with|nil=>exact cf|cons c v ih=>exactλm=>oO (λe=>⟨[],v,by refine ae e ?_;rfl,gM⟩) λn=>(ih ((ch.mp m).resolve_left λe=>n e.symm)).elim λa z=>z.elim λb z=>⟨c::a,b,aj (c::·) z.1,λm=>(ch.mp m).elim (λe=>n e.symm) z.2⟩
theorem IV(ps:List Y):∀{p v:Y},(∀x∈p::ps,47∉x)->(aK (p::ps)=v++47::u↔∃a b,ps=a++b/\b≠[]/\v=aK (p::a)/\u=aK b):=by
 induction ps with
 |nil=>exactλ{p v} h=>⟨λe=>aC (am ((show p=v++47::u from e).symm) (fF v (.head u))) (h p (.head _)),λz=>z.elim λa z=>z.elim λb z=>aC (gj.mp z.1.symm).2 z.2.1⟩
 |cons q ps ih=>
  intro p v h;have g:=λx m=>h x (.tail _ m);refine ae fx ?_;refine⟨λe=>?_,λz=>?_⟩
  ·cases k:v.contains 47 with|false=>have i:=HS v (λm=>bb (k.symm.trans (ed.mpr m))) (h p (.head _)) (.inr ⟨_,rfl⟩) (.inr ⟨_,rfl⟩) e.symm;exact⟨[],q::ps,rfl,b5,i.1,(bD i.2).2⟩|true=>obtain⟨j,n,rfl,l⟩:=afj v (ed.mp k);simp only [bg]at e;have i:=HS j l (h p (.head _)) (.inr ⟨_,rfl⟩) (.inr ⟨_,rfl⟩) e.symm;obtain⟨a,b,c,hb,f,d⟩:=(ih g).mp (bD i.2).2.symm;exact⟨q::a,b,aj (q::·) c,hb,ae fx (ae i.1 (ae f rfl)),d⟩
  ·obtain⟨a,b,c,hb,f,d⟩:=z;cases a with|nil=>refine ae f (ae d (ae (show b=q::ps from c.symm) ?_));rfl|cons x a=>have i:=(ih g).mpr ⟨a,b,(bD c).2,hb,rfl,d⟩;refine ae f ?_;rw[<-(bD c).1,i,fx,bg];rfl
end
open Classical in
def zq(q:List E):List Pz:=if h:pX q then choose h else[]
def uq(q:List E):Un:=cond q.isEmpty ak (aa (cq q,zq q))
def bW(cs:List (List E)):List Un:=cs.map uq
def Pk(ps:List Y):Prop:=cX True (λp ps a=>47∉p/\(ps≠[]->p≠[])/\a) ps
def RA(cs:List (List E))(a:List Y->Prop)(ps:List Y):Prop:=(cs=[]/\(ps=[]\/ps=[[]]))\/(cs≠[]/\ps≠[]/\a ps)
def gg(ps:List Y)(P:List Y->Prop):Prop:=∃a b,ps=a++b/\b≠[]/\P b
def RS(ah:Bool)(cs:List (List E)):List Y->Prop:=cX (λx=>False) (λq cs a ps=>(q=[]/\(cs=[]\/gg ps a))\/(q≠[]/\∃p r,ps=p::r/\(gI ah q p []/\p≠[])/\RA cs a r)) cs
def Wn(ah:Bool)(us:List Un)(f s:Bool)(t:Y):Prop:=∃w,zR ah (wz ag us f s) t w/\(w=[]\/w=[47])
section
theorem VU(h:pX q):(∀z∈zq q,z.Ok 2)/\(zq q).length<=12/\(zT (zq q)).length<=6000/\(∀n,aV (FN (n+4)) 10 [.bytes (cq q)]=.ok (.bytes (zT (zq q))))/\∀ah s u,zR ah (zq q) s u↔LK ah q s u:=by unfold zq;exact ae (dif_pos h) (GQ h)
theorem Pk.BW(a:List Y):Pk (a++b)->Pk b:=by induction a with|nil=>exact id|cons p a ih=>exactλh=>ih h.2.2
theorem Pk.no(h:Pk ps):∀x∈ps,47∉x:=by induction ps with|nil=>exact aZ|cons p ps ih=>exact aQ ⟨h.1,ih h.2.2⟩
theorem Uv:zR ah [vN,oB] s u↔∃v,s=v++47::u:=⟨λz=>z.elim λw z=>z.1.elim λv x=>z.2.elim λy k=>⟨v,x.trans (aj (v++·) ((k.1).trans (aj (47::·) k.2)))⟩,λz=>z.elim λv z=>⟨47::u,⟨v,z⟩,u,rfl,rfl⟩⟩
theorem Js(h:Pk ps)(c:ps≠[]){nc:Bool}:(Ff nc q).2 ah (aK ps) u↔gg ps λb=>u=aK b:=by
 cases ps with
 |nil=>exact aC rfl c
 |cons p ps=>exact⟨λz=>z.elim (λz=>⟨[],p::ps,rfl,b5,z.2.symm⟩) λz=>(Uv.mp z).elim λv z=>((IV ps h.no).mp z).elim λa z=>z.elim λb z=>⟨p::a,b,aj (p::·) z.1,z.2.1,z.2.2.2⟩,
  λz=>z.elim λa z=>z.elim λb z=>by
   cases a with
   |nil=>exact .inl ⟨rfl,(aj aK z.1).trans z.2.2.symm⟩
   |cons x a=>exact .inr (Uv.mpr ⟨_,(IV ps h.no).mpr ⟨a,b,(bD z.1).2,z.2.1,rfl,z.2.2⟩⟩)⟩
theorem SE:zR ah [xE,oB] s u↔∃v,s=v++47::u/\47∉v/\v≠[]:=⟨λz=>z.elim λw z=>z.1.1.elim λv x=>z.2.elim λy k=>have e:=(k.1).trans (aj (47::·) k.2)
  ⟨v,am e x.1,x.2,λn=>z.1.2 (x.1.trans (by refine ae n ?_;rfl))⟩,
 λz=>z.elim λv z=>⟨47::u,⟨⟨v,z.1,z.2.1⟩,λe=>z.2.2 (NJ.mp (z.1.symm.trans e))⟩,u,rfl,rfl⟩⟩
theorem step_at(h:Pk (p::ps))(a:ps≠[]):zR ah [xE,oB] (aK (p::ps)) (aK ps):=by cases ps with|nil=>exact aC rfl a|cons x ps=>exact SE.mpr ⟨p,fx,h.1,h.2.1 b5⟩
theorem aks(h:Pk ps)(d:ps≠[])(z:kC (zR ah [xE,oB]) (aK ps) u):gg ps λb=>u=aK b:=z (λx=>gg ps λb=>x=aK b) ⟨[],ps,rfl,d,rfl⟩ λx y i r=>i.elim λa i=>i.elim λb i=>(SE.mp r).elim λv r=>by obtain⟨rfl,hb,rfl⟩:=i;cases b with|nil=>exact aC rfl hb|cons c b=>exact((IV b (Pk.BW a h).no).mp r.1).elim λf z=>z.elim λe z=>⟨a++c::f,e,by simp only [bg,z.1];rfl,z.2.1,z.2.2.2⟩
theorem akt(hb:b≠[])(a:List Y):Pk (a++b)->kC (zR ah [xE,oB]) (aK (a++b)) (aK b):=by induction a with|nil=>exactλy=>.refl|cons x a ih=>exactλh=>tp.star ⟨_,step_at h (λe=>hb (gj.mp e).2),ih h.2.2⟩
theorem ahE(h:kC R s u):s=u\/tp R s u:=h (λx=>s=x\/tp R s x) (.inl rfl) λx y i r=>.inr (i.elim (λe=>⟨y,am e.symm r,.refl⟩) λi=>tp.tail i.star r)
theorem aku(h:Pk ps)(c:ps≠[]):LL.2 ah (aK ps) u↔gg ps λb=>u=aK b:=⟨λz=>aks h c (z.elim (λz=>am z.2 .refl) λz=>z.star),λz=>z.elim λa z=>z.elim λb z=>by obtain⟨rfl,hb,rfl⟩:=z;exact(ahE (akt hb a h)).imp (λe=>⟨rfl,e⟩) id⟩
theorem Uw(h:Pk ps)(a:ps≠[]):zR ah (pZ f tail (y::us)) (aK ps) u↔gg ps λb=>u=aK b:=by cases f with|true=>exact tB.trans (Js h a)|false=>exact tB.trans (aku h a)
theorem SG(h:Wn ah us ag ag u):vP u:=h.elim λw h=>by cases us with|nil=>exact h.2.elim (λe=>.inl ((h.1).trans e)) λe=>.inr ⟨[],(h.1).trans e⟩|cons x us=>exact h.1.elim λy z=>.inr ⟨y,z.1⟩
theorem afk:Wn ah (x::us) ag ag u↔∃y,u=47::y/\Wn ah (x::us) ag af y:=⟨λz=>z.elim λw z=>z.1.elim λy k=>⟨y,k.1,w,k.2,z.2⟩,λz=>z.elim λy z=>z.2.elim λw k=>⟨w,⟨y,z.1,k.1⟩,k.2⟩⟩
theorem Jt(h:(f||st)=af):kP f st=[]:=by unfold kP;refine ae h ?_;rfl
theorem Ux:(ug ps=[]\/ug ps=[47])↔(ps=[]\/ps=[[]]):=by
 cases ps with
 |nil=>exact⟨λy=>.inl rfl,λy=>.inl rfl⟩
 |cons p r=>cases r with|nil=>exact⟨λz=>.inr (aj (λp=>[p]) (z.elim (λe=>b5 e) λe=>(bD e).2)),λz=>.inr (z.elim (λe=>b5 e) λe=>aj (47::·) (bD e).1)⟩|cons x r=>exact⟨λz=>z.elim (λe=>b5 e) λe=>aC ((fx).symm.trans (bD e).2) (λk=>b5 ((gj.mp k).2)),λz=>z.elim (λe=>b5 e) λe=>nomatch e⟩
theorem Ae(h:q≠[]):uq q=aa (cq q,zq q):=by unfold uq;refine ae (za.mpr h) ?_;rfl
theorem akv{T:Y}(hf:(f||st)=af):Wn ah (aa (T,zs)::us) f st s↔∃x,zR ah zs s x/\Wn ah us ag ag x:=by have e:wz ag (aa (T,zs)::us) f st=kP f st++(zs++wz ag us ag ag):=rfl;unfold Wn;simp only [e,Jt hf,uF];exact⟨λz=>z.elim λw z=>(xp.mp z.1).elim λx k=>⟨x,k.1,w,k.2,z.2⟩,λz=>z.elim λx z=>z.2.elim λw k=>⟨w,xp.mpr ⟨x,z.1,k.1⟩,k.2⟩⟩
theorem akw(hf:(f||st)=af)(h:Pk ps)(c:ps≠[]):Wn ah (ak::y::us) f st (aK ps)↔gg ps λb=>Wn ah (y::us) ag af (aK b):=by
 have e:wz ag (ak::y::us) f st=kP f st++(pZ f ag (y::us)++wz ag (y::us) ag af):=rfl;have g:Wn ah (ak::y::us) f st (aK ps)↔∃x,zR ah (pZ f ag (y::us)) (aK ps) x/\Wn ah (y::us) ag af x:=by unfold Wn;simp only [e,Jt hf,uF];exact⟨λz=>z.elim λw z=>(xp.mp z.1).elim λx k=>⟨x,k.1,w,k.2,z.2⟩,λz=>z.elim λx z=>z.2.elim λw k=>⟨w,xp.mpr ⟨x,z.1,k.1⟩,k.2⟩⟩
 exact g.trans ⟨λz=>z.elim λx z=>((Uw h c).mp z.1).elim λa k=>k.elim λb k=>⟨a,b,k.1,k.2.1,show Wn ah (y::us) ag af (aK b)from am (k.2.2) z.2⟩,λz=>z.elim λa z=>z.elim λb z=>⟨aK b,(Uw h c).mpr ⟨a,b,z.1,z.2.1,rfl⟩,z.2.2⟩⟩
theorem akx(hf:(f||st)=af):Wn ah [ak] f st s:=by have e:wz ag [ak] f st=kP f st++([vN]++[]):=rfl;unfold Wn;exact ae e (ae (Jt hf) (⟨[],⟨[],⟨s,(bu s).symm⟩,rfl⟩,.inl rfl⟩))
theorem Ju{Q:List Y->Prop}(h:Pk ps)(k:∀b,Pk b->b≠[]->(P b↔Q b)):gg ps P↔gg ps Q:=km λa=>km λb=>oV λe=>oV λn=>k b (Pk.BW a (am e h)) n
def Xu(ah:Bool)(cs:List (List E))(ps:List Y):Prop:=(∀f s,(f||s)=af->ps≠[]->cs≠[]->(Wn ah (bW cs) f s (aK ps)↔RS ah cs ps))/\(Wn ah (bW cs) ag ag (ug ps)↔RA cs (RS ah cs) ps)
def DL:=λ(ah:Bool)=>(∀{f:Bool} {st:Bool} {q:List E} {cs:List (List E)} {ps:List Y} (a:q≠[]->pX q) (h:Pk ps) (b:ps≠[]) (i:∀{ps},Pk ps->Xu ah cs ps) (hf:(f||st)=af),Wn ah (bW (q::cs)) f st (aK ps)↔RS ah (q::cs) ps:Prop)
def C6:=vT DL nI
theorem ads:DL C6:=λ{f} {st} {q} {cs} {ps} d h a i hf=>by
 cases q with
 |nil=>cases cs with|nil=>exact⟨λx=>.inl ⟨rfl,.inl rfl⟩,λx=>akx hf⟩|cons c cs=>exact(akw hf h a).trans ((Ju h λb hb n=>(i hb).1 ag af rfl n b5).trans ⟨λz=>.inl ⟨rfl,.inr z⟩,λz=>z.elim (λz=>z.2.elim (λe=>b5 e) id) λz=>aC rfl z.1⟩)
 |cons e es=>
  have k:=VU (d b5);cases ps with
  |nil=>exact aC rfl a
  |cons p r=>
   exact ae (Ae (q:=e::es) b5) (ae Fh ((akv hf).trans ⟨λz=>z.elim λx z=>.inr ⟨b5,p,r,rfl,((Iw h.1 (SG z.2)).mp ((k.2.2.2.2 C6 _ _).mp z.1)).2,(i h.2.2).2.mp (am (((Iw h.1 (SG z.2)).mp ((k.2.2.2.2 C6 _ _).mp z.1)).1) z.2)⟩,
    λz=>z.elim (λz=>b5 (z.1)) λz=>z.2.elim λj z=>z.elim λg z=>by cases z.1;exact⟨ug r,(k.2.2.2.2 C6 _ _).mpr ((Iw h.1 SD).mpr ⟨rfl,z.2.1⟩),(i h.2.2).2.mpr z.2.2⟩⟩))
theorem Kb{ah}:DL ah:=@yi _ DL _ @ads ah
theorem aky(cs:List (List E)):(∀q∈cs,q≠[]->pX q)->∀{ps},Pk ps->Xu ah cs ps:=by
 induction cs with
 |nil=>exactλy {ps} h=>⟨λy y y y n=>aC rfl n,⟨λz=>z.elim λw z=>.inl ⟨rfl,Ux.mp ((z.1)▸z.2)⟩,λz=>z.elim (λz=>⟨_,rfl,Ux.mpr z.2⟩) λz=>aC rfl z.1⟩⟩
 |cons q cs ih=>intro a ps h;have i:=@ih (λx m=>a x (.tail _ m));refine⟨λf s hf b y=>Kb (a q (.head _)) h b i hf,afk.trans ?_⟩;cases ps with|nil=>exact⟨λz=>z.elim λy z=>(b4 (z.1)),λz=>z.elim (λz=>b5 (z.1)) λz=>aC rfl z.2.1⟩|cons p r=>exact⟨λz=>z.elim λy z=>.inr ⟨b5,b5,(Kb (a q (.head _)) h b5 i rfl).mp ((bD z.1).2.symm▸z.2)⟩,λz=>⟨_,rfl,(Kb (a q (.head _)) h b5 i rfl).mpr (z.elim (λz=>b5 (z.1)) λz=>z.2.2)⟩⟩
end
noncomputable def mf(b:Bool)(cs:List (List E)):List (List E):=cX (motive:=λx=>Bool->List (List E)) (λx=>[]) (λq x a b=>cond q.isEmpty (cond b (a af) (q::a af)) (q::a ag)) cs b
section
variable{Q:List Y->Prop}
theorem ahF(cs:List (List E)):∀{b},eu b (bW cs)=bW (mf b cs):=by
 induction cs with
 |nil=>exact rfl
 |cons q cs ih=>intro b;show cond (uq q).isNone (cond b (eu af (bW cs)) (uq q::eu af (bW cs))) (uq q::eu ag (bW cs))=bW (cond q.isEmpty (cond b (mf af cs) (q::mf af cs)) (q::mf ag cs));refine ae ih (ae ih ?_);cases q with|nil=>cases b<;>rfl|cons e q=>exact ae (Ae (q:=e::q) b5) (aj (·::_) (Ae (q:=e::q) b5).symm)
theorem adt(cs:List (List E)):∀{b},∀q∈mf b cs,q∈cs:=by
 induction cs with
 |nil=>exact aZ
 |cons q cs ih=>
  intro b;show∀x∈cond q.isEmpty (cond b (mf af cs) (q::mf af cs)) (q::mf ag cs),x∈q::cs;cases q.isEmpty with
  |true=>cases b with|true=>exactλx m=>.tail _ (ih x m)|false=>exact aQ ⟨.head _,λx m=>.tail _ (ih x m)⟩
  |false=>exact aQ ⟨.head _,λx m=>.tail _ (ih x m)⟩
theorem gg.iff(k:∀b,b≠[]->(P b↔Q b)):gg ps P↔gg ps Q:=km λa=>km λb=>oV λx=>oV λn=>k b n
theorem gg.BW:gg ps (λb=>gg b P)↔gg ps P:=⟨λz=>z.elim λa z=>z.elim λb z=>z.2.2.elim λc y=>y.elim λd y=>⟨a++c,d,by simp only [z.1,y.1,bg],y.2⟩,λz=>z.elim λa z=>z.elim λb z=>⟨[],ps,rfl,λe=>z.2.1 (gj.mp (z.1.symm.trans e)).2,a,b,z⟩⟩
theorem ko:RS ah ([]::cs) ps↔(cs=[]\/gg ps (RS ah cs)):=⟨λz=>z.elim uW λz=>aC rfl z.1,λz=>.inl ⟨rfl,z⟩⟩
theorem ES(h:q≠[]):RS ah (q::cs) ps↔∃p r,ps=p::r/\(gI ah q p []/\p≠[])/\RA cs (RS ah cs) r:=⟨λz=>z.elim (λz=>aC z.1 h) uW,λz=>.inr ⟨h,z⟩⟩
theorem ahG(a:ps≠[])(k:∀b,b≠[]->P b):gg ps P:=⟨[],ps,rfl,a,k ps a⟩
theorem Ix(h:cs≠[]):mf ag cs≠[]:=by cases cs with|nil=>exact aC rfl h|cons q cs=>cases q<;>exact b5
theorem ahH(cs:List (List E)):∀{ps},ps≠[]->(RS ah ([]::mf af cs) ps↔RS ah ([]::cs) ps)/\(RS ah (mf ag cs) ps↔RS ah cs ps):=by
 induction cs with
 |nil=>exactλx=>⟨jg,jg⟩
 |cons q cs ih=>
  intro ps d;cases q with
  |nil=>
   refine⟨(ih d).1.trans ⟨λz=>ko.mpr (.inr ?_),λz=>?_⟩,(ih d).1⟩
   ·exact(ko.mp z).elim (λe=>ahG d λb x=>ko.mpr (.inl e)) λz=>(gg.BW.mpr z).elim λa z=>z.elim λb z=>⟨a,b,z.1,z.2.1,ko.mpr (.inr z.2.2)⟩
   ·exact(ko.mp z).elim (λe=>b5 e) λz=>ko.mpr (z.elim λa z=>z.elim λb z=>(ko.mp z.2.2).imp id λy=>gg.BW.mp ⟨a,b,z.1,z.2.1,y⟩)
  |cons e q=>have c:∀{ps},RS ah ((e::q)::mf ag cs) ps↔RS ah ((e::q)::cs) ps:=(ES (q:=e::q) b5).trans (UR (km λp=>km λr=>oV λx=>oV λx=>or_congr (and_congr_left λx=>⟨λz=>ZF λn=>Ix n z,λz=>by refine ae z ?_;rfl⟩) ⟨λz=>⟨λn=>z.1 (by refine ae n ?_;rfl),z.2.1,(ih z.2.1).2.mp z.2.2⟩,λz=>⟨Ix z.1,z.2.1,(ih z.2.1).2.mpr z.2.2⟩⟩) (ES (q:=e::q) b5).symm);exact⟨ko.trans ((or_congr ⟨nofun,nofun⟩ (gg.iff λb x=>c)).trans ko.symm),c⟩
end
section
variable{X:List Pz}{u:Y}
def zE(ah:Bool)(X:List Pz)(s:Y):Prop:=∃u,zR ah X s u
theorem Kc:zE ah (zs++X) s↔∃w,zR ah zs s w/\zE ah X w:=⟨λz=>z.elim λu z=>(xp.mp z).elim λw k=>⟨w,k.1,u,k.2⟩,λz=>z.elim λw z=>z.2.elim λu k=>⟨u,xp.mpr ⟨w,z.1,k⟩⟩⟩
theorem akz:zE ah (cond ag [] [uf]++[vO]) s↔(s=[]\/s=[47]):=Kc.trans ⟨λz=>z.elim λw z=>z.2.elim λu y=>y.elim λx y=>by
  have f:=(y.1).1;exact(tB.mp z.1).imp (λe=>e.trans f) λe=>(e).trans (aj (47::·) f),
 λz=>⟨[],tB.mpr (z),[],[],⟨rfl,rfl⟩,rfl⟩⟩
theorem VV:zE ah (wz ag us af ag++(cond ag [] [uf]++[vO])) s↔Wn ah us af ag s:=Kc.trans (km λw=>oV λx=>akz)
theorem SH(h:Pk ps)(c:ps≠[]):zE ah ([pL]++X) (aK ps)↔gg ps λb=>zE ah X (aK b):=Kc.trans ⟨λz=>z.elim λw z=>((Js h c).mp (tB.mp z.1)).elim λa k=>k.elim λb k=>⟨a,b,k.1,k.2.1,show zE ah X (aK b)from am (k.2.2) z.2⟩,λz=>z.elim λa z=>z.elim λb z=>⟨aK b,tB.mpr ((Js h c).mpr ⟨a,b,z.1,z.2.1,rfl⟩),z.2.2⟩⟩
theorem Eo(us:List Y):∀{u},(∀x∈u::us,x≠[]/\x.getLast?≠aa 47)->(aK (u::us)).getLast?≠aa 47:=by
 induction us with
 |nil=>exactλh=>(h _ (.head _)).2
 |cons v us ih=>
  intro u h;have i:=ih λx m=>h x (.tail _ m);refine ae fx ?_;cases e:aK (v::us)with
  |nil=>have e:=Fh▸e;exact aC (gj.mp e).1 (h v (.tail _ (.head _))).1
  |cons c J=>have i:=e▸i;refine ae (GY) (ae (aar) ?_);cases k:(c::J).getLast? with|none=>exact(b5 (GN.mp k))|some x=>exact am k i
theorem Ke(h:u.getLast?≠aa 47):([47]:Y).isSuffixOf u=ag:=gL.mpr λe=>(nh.mp e).elim λa k=>h (am k (wy))
theorem K0(h:mb x):uT x≠[]/\(uT x).getLast?≠aa 47:=⟨λe=>by
 cases x with
 |none=>cases e
 |some x=>exact(bb ((h.1 x.1 x.2 rfl).1.1.symm.trans (aj Rm (e)))),h.2.1.2⟩
theorem Uy(h:∀x∈us,mb x)(a:us≠[]):([47]:Y).isSuffixOf (aK (b8 us ag))=ag:=by cases us with|nil=>exact aC rfl a|cons x us=>exact Ke (Eo (b8 us ag) (show∀y∈b8 (x::us) ag,y≠[]/\y.getLast?≠aa 47 from dg (λy m=>(ey.mp m).elim λz k=>am k.2 (K0 (h z k.1))) aZ))
theorem amN(h:∀q∈cs,q≠[]->pX q)(k:∀q∈cs,q≠[]->i8 (cq q)/\(cq q).isEmpty=ag/\(cq q==[42,42])=ag):∀x∈bW cs,mb x:=λx m=>(ey.mp m).elim λq z=>z.2▸by cases q with|nil=>exact⟨λT zs e=>(aN e),.of (eX rfl),eX rfl,λn=>iK.app (xa rfl) (xa rfl)⟩|cons e q=>have o:=VU (h _ z.1 b5);exact ae (Ae (q:=e::q) b5) (⟨λT zs e=>by cases e;exact⟨(k _ z.1 b5).2,o.1,o.2.1,o.2.2.1,o.2.2.2.1⟩,(k _ z.1 b5).1⟩)
theorem ahI(hc:∀q∈cs,q≠[]->pX q)(g:∀x∈bW cs,mb x)(c0:cs≠[])(h:Pk ps)(d:ps≠[]):zE ah (i9 az ag (bW cs)) (aK ps)↔RS ah (cond ((pT az ag (bW cs)).dropLast.contains 47) cs ([]::cs)) ps:=by
 have f:∀{cs},(∀q∈cs,q≠[]->pX q)->cs≠[]->∀{ps},Pk ps->ps≠[]->(Wn ah (eu ag (bW cs)) af ag (aK ps)↔RS ah cs ps):=λ{cs} hc c0 {ps} h d=>by rw[ahF];exact((aky (mf ag cs) (λq m=>hc q (adt cs q m)) h).1 af ag rfl d (Ix c0)).trans (ahH cs d).2
 have a:∃e,([47]).isSuffixOf (aK (b8 (strN (bW cs) ag).1 ag))=e/\e=ag/\∀{ps},Pk ps->ps≠[]->(zE ah (cond (strN (bW cs) ag).2 [pL] []++(wz ag (eu ag (strN (bW cs) ag).1) af ag++(cond ag [] [uf]++[vO]))) (aK ps)↔RS ah cs ps):=by
  have same:strN (bW cs) ag=(bW cs,ag)->_:=λe=>(⟨_,rfl,by rw[e];exact Uy g (λk=>c0 (ze.mp k)),λ{ps} h d=>by rw[e];exact VV.trans (f hc c0 h d)⟩:∃e,([47]).isSuffixOf (aK (b8 (strN (bW cs) ag).1 ag))=e/\e=ag/\∀{ps},Pk ps->ps≠[]->(zE ah (cond (strN (bW cs) ag).2 [pL] []++(wz ag (eu ag (strN (bW cs) ag).1) af ag++(cond ag [] [uf]++[vO]))) (aK ps)↔RS ah cs ps));cases cs with
  |nil=>exact aC rfl c0
  |cons q cs=>cases q with
   |cons e q=>exact same (by unfold bW;rw[dB,Ae (q:=e::q) b5];rfl)
   |nil=>cases cs with|nil=>exact same rfl|cons c cs=>have i:=λx m=>hc x (.tail _ m);refine⟨_,rfl,Uy (λx m=>g x (.tail _ m)) (b5),λ{ps} h d=>?_⟩;show zE ah ([pL]++(wz ag (eu ag (bW (c::cs))) af ag++(cond ag [] [uf]++[vO]))) (aK ps)↔RS ah ([]::c::cs) ps;exact(SH h d).trans ((Ju h λb hb n=>VV.trans (f i b5 hb n)).trans ⟨λz=>ko.mpr (.inr z),λz=>(ko.mp z).elim (λe=>b5 e) id⟩)
 obtain⟨e,l,j,a⟩:=a;unfold i9 BV;rw[l,j];cases(pT az ag (bW cs)).dropLast.contains 47 with|true=>exact a h d|false=>exact(SH h d).trans ((Ju h λb hb n=>a hb n).trans ⟨λz=>ko.mpr (.inr z),λz=>(ko.mp z).elim (λe=>aC e c0) id⟩)
end
def Gu(ps:List Y)(P:List Y->Prop):Prop:=∃a b,ps=a++b/\P b
def LF(ah:Bool)(cs:List (List E)):List Y->Prop:=cX (λps=>ps=[]) (λq cs a ps=>(q=[]/\((cs=[]/\ps≠[])\/(cs≠[]/\Gu ps a)))\/(q≠[]/\∃p r,ps=p::r/\gI ah q p []/\a r)) cs
noncomputable def cj(cs:List (List E)):List (List E):=cX [] (λq cs a=>cond (q.isEmpty&&a.isEmpty) [] (q::a)) cs
section
theorem pz:LF ah ([]::cs) ps↔(cs=[]/\ps≠[])\/(cs≠[]/\Gu ps (LF ah cs)):=⟨λz=>z.elim uW λz=>aC rfl z.1,λz=>.inl ⟨rfl,z⟩⟩
theorem AB(h:q≠[]):LF ah (q::cs) ps↔∃p r,ps=p::r/\gI ah q p []/\LF ah cs r:=⟨λz=>z.elim (λz=>aC z.1 h) uW,λz=>.inr ⟨h,z⟩⟩
theorem Kf(h:cs≠[]):¬LF ah cs []:=by induction cs with|nil=>exact aC rfl h|cons q cs ih=>exactλz=>z.elim (λz=>z.2.elim (λz=>z.2 rfl) λz=>z.2.elim λa y=>y.elim λb y=>ih z.1 (am ((gj.mp y.1.symm).2) y.2)) λz=>z.2.elim λp y=>y.elim λr y=>(b4 (y.1))
def wi(ps:List Y):Prop:=∀p∈ps,47∉p/\p≠[]
theorem wi.pk(h:wi ps):Pk ps:=by induction ps with|nil=>trivial|cons p ps ih=>exact⟨(h p (.head _)).1,λy=>(h p (.head _)).2,ih λx m=>h x (.tail _ m)⟩
theorem wi.pk1(h:wi ps):Pk (ps++[[]]):=by induction ps with|nil=>exact⟨gM,λz=>aC rfl z,trivial⟩|cons p ps ih=>exact⟨(h p (.head _)).1,λy=>(h p (.head _)).2,ih λx m=>h x (.tail _ m)⟩
theorem Uz(k:¬P []):gg ps P↔Gu ps P:=⟨λz=>z.elim λa z=>z.elim λb z=>⟨a,b,z.1,z.2.2⟩,λz=>z.elim λa z=>z.elim λb z=>⟨a,b,z.1,λe=>k (am e z.2),z.2⟩⟩
theorem VW(cs:List (List E)):∀{ps},wi ps->ps≠[]->cs≠[]->(RS ah cs ps↔LF ah cs ps):=by
 induction cs with
 |nil=>exactλc c n=>aC rfl n
 |cons q cs ih=>
  intro ps h g _;cases q with
  |nil=>exact ko.trans ⟨λz=>pz.mpr (oO (λe=>.inl ⟨e,g⟩) λn=>.inr ⟨n,(Uz (Kf n)).mp ((z.resolve_left n).elim λa z=>z.elim λb z=>⟨a,b,z.1,z.2.1,(ih (λp m=>h p (ae z.1 (fF a m))) z.2.1 n).mp z.2.2⟩)⟩),
    λz=>(pz.mp z).imp Wj λz=>((Uz (Kf z.1)).mpr z.2).elim λa y=>y.elim λb y=>⟨a,b,y.1,y.2.1,(ih (λp m=>h p (ae y.1 (fF a m))) y.2.1 z.1).mpr y.2.2⟩⟩
  |cons e q=>exact(ES (q:=e::q) b5).trans (UR (km λp=>km λr=>oV λk=>
    have d:=λx m=>h x (ae k (.tail _ m))
    ⟨λz=>⟨z.1.1,z.2.elim (λz=>ae z.1 (z.2.elim id λe=>aC rfl (d [] (ae e (.head _))).2)) λz=>(ih d z.2.1 z.1).mp z.2.2⟩,
     λz=>⟨⟨z.1,(h p (ae k (.head _))).2⟩,oO (λn=>.inl ⟨n,.inl (by have z:=n▸z;exact z.2)⟩) λn=>have f:=λe=>Kf n (e▸z.2)
      .inr ⟨n,f,(ih d f n).mpr z.2⟩⟩⟩) (AB (q:=e::q) b5).symm)
theorem adu(h:cj cs=[]):∀{ps:List Y},cs≠[]->ps≠[]->LF ah cs ps:=by induction cs with|nil=>exactλn=>aC rfl n|cons q cs ih=>intro ps _ h0;have k:=Hc _|>.mp λe=>b5 ((aj (λt=>cond t [] (q::cj cs)) e).symm.trans h);have k:=(eg _ _).mp k;exact ae (qt.mp k.1) (pz.mpr (oO (λe=>.inl ⟨e,h0⟩) λn=>.inr ⟨n,[],ps,rfl,ih (qt.mp k.2) n h0⟩))
theorem DM(h:q≠[]\/cj cs≠[]):cj (q::cs)=q::cj cs:=by
 show cond (q.isEmpty&&(cj cs).isEmpty) [] (q::cj cs)=_;refine ae (gL.mpr λe=>have k:=(eg _ _).mp e
  h.elim (λn=>n (qt.mp k.1)) λn=>n (qt.mp k.2)) ?_
 rfl
theorem akA(p:Y)(h:gI ah (e::q) p []):(LF ah cs ps\/((cj cs).length<cs.length/\LF ah (cj cs) ps))->LF ah ((e::q)::cs) (p::ps)\/((cj ((e::q)::cs)).length<cs.length+1/\LF ah (cj ((e::q)::cs)) (p::ps)):=λz=>z.imp (λz=>(AB (q:=e::q) b5).mpr ⟨p,ps,rfl,h,z⟩) λz=>by rw[DM (q:=e::q) (.inl b5)];exact⟨jH z.1,(AB (q:=e::q) b5).mpr ⟨p,ps,rfl,h,z.2⟩⟩
theorem ahJ(n:cs≠[])(e:ps=a++b):(LF ah cs b\/((cj cs).length<cs.length/\LF ah (cj cs) b))->LF ah ([]::cs) ps\/((cj ([]::cs)).length<cs.length+1/\LF ah (cj ([]::cs)) ps):=λz=>z.elim (λz=>.inl (pz.mpr (.inr ⟨n,a,b,e,z⟩))) λz=>oO (λf=>oO
  (λk=>.inr (by exact ae (show cj ([]::cs)=[]from aj (λl:List (List E)=>cond (af&&l.isEmpty) [] ([]::l)) f) (⟨iD _,k⟩))) λk=>.inl (pz.mpr (.inr ⟨n,[],ps,rfl,adu f n k⟩)))
 λf=>.inr (by exact ae (DM (.inr f)) (⟨jH z.1,pz.mpr (.inr ⟨f,a,b,e,z.2⟩)⟩))
theorem ahK(cs:List (List E)):∀{ps},wi ps->RS ah cs (ps++[[]])->LF ah cs ps\/((cj cs).length<cs.length/\LF ah (cj cs) ps):=by
 induction cs with
 |nil=>exactλc h=>h.elim
 |cons q cs ih=>
  intro ps h z;cases q with
  |nil=>
   refine(ko.mp z).elim (λe=>?_) λz=>z.elim λa z=>z.elim λb z=>?_
   ·rw[e];exact oO (λe=>.inr ⟨Nat.zero_lt_one,e⟩) λn=>.inl (pz.mpr (.inl ⟨rfl,n⟩))
   ·have k:=Hs (z.1.trans (by rw[bg,ur z.2.1]:_=a++b.dropLast++[b.getLast z.2.1])) rfl;have y:=z.2.2;rw[<-ur z.2.1,<-k.2]at y;exact ahJ (λe=>by rw[e]at y;exact y) k.1 (ih (λp m=>h p (k.1▸fF a m)) y)
  |cons e q=>obtain⟨p,r,k,w,y⟩:=(ES (q:=e::q) b5).mp z;cases ps with|nil=>exact aC (bD k).1.symm w.2|cons p' ps=>have k:=bD k;have d:=λx m=>h x (.tail _ m);rw[k.1];refine akA p w.1 (y.elim (λy=>.inl ?_) λy=>ih d ((show ps++[[]]=r from k.2).symm▸y.2.2));rw[y.1];exact y.2.elim (λe=>aC (k.2.trans e) λe=>b5 ((gj.mp e).2)) λe=>NJ.mp (k.2.trans e)
end
def pM(F:Fn)(tup:Bool)(is:List Nat)(it:X)(b:List Nat)(a:X)(ai:List D)(c:Rh):Ev D:=(n6 (λd=>(Ev.of (mM tup is d c)).bind λr=>(nU F [] r).bind λt=>cond t ((it F r).run.bind λd=>(Ev.of d.jU).bind λai=>n6 (λd=>(Ev.of (mM ag b d r)).bind λr=>(nU F [] r).bind λt=>cond t ((a F r).run.bind λe=>.ok [e]) (.ok [])) ai) (.ok [])) ai).calm.bind λds=>Ev.of (gd (ds.length<=aI) (aa (.list ds)))
section
variable{α β:Type}{e:α->β->D}{m:α->List β}{r:α->Rh}{q:α->β->Rh}{l:List α}
theorem afl(e:∀x∈l,h (f x)=.ok (k x)):n6 h (l.map f)=.ok (l.flatMap k):=by induction l with|nil=>rfl|cons x l ih=>show(h (f x)).bind (λa=>(n6 h (l.map f)).bind λb=>.ok (a++b))=_;refine ae (e x (.head _)) (ae (ih λy m=>e y (.tail _ m)) ?_);rfl
theorem afm(e:∀x∈l,h (f x)=.ok [k x]):n6 h (l.map f)=.ok (l.map k):=by induction l with|nil=>rfl|cons x l ih=>show(h (f x)).bind (λa=>(n6 h (l.map f)).bind λb=>.ok (a++b))=_;refine ae (e x (.head _)) (ae (ih λy m=>e y (.tail _ m)) ?_);rfl
theorem Q6(b:(l.flatMap λx=>(m x).map (e x)).length<=aI)(h:∀x∈l,mM tup is (f x) c=aa (r x)/\(it F (r x)).run=.ok (.list ((m x).map g))/\∀y∈m x,mM ag js (g y) (r x)=aa (q x y)/\(elt F (q x y)).run=.ok (e x y)):pM F tup is it js elt (l.map f) c=.ok (.list (l.flatMap λx=>(m x).map (e x))):=by
 unfold pM;rw[afl λx hx=>?_]
 ·show Ev.of (gd _ _)=_;refine ae (dU b) ?_;rfl
 ·have z:=h x hx;refine ae z.1 ?_;show((it F (r x)).run.bind _)=_;exact ae z.2.1 (afm λy a=>by refine ae (z.2.2 y a).1 ?_;show((elt F (q x y)).run.bind _)=_;refine ae (z.2.2 y a).2 ?_;rfl)
end
section
variable{c:Nat}{ks:List Int}
theorem amO{α β:Type}(l:List α)(m:List β){f:α->β->D}:(l.flatMap λx=>m.map (f x)).length<=m.length*l.length:=nL (λx=>cJ (aW ..)) l
theorem amP(rs:List (Nat×Nat)):j4 (.bool af) (.list (rs.flatMap λp=>ks.map λk=>.bool (bw p.1 k p.2)))=aa (rs.any λp=>ks.any λk=>bw p.1 k p.2):=by
 have a:(rs.flatMap λp=>ks.map λk=>D.bool (bw p.1 k p.2))=(rs.flatMap λp=>ks.map λk=>bw p.1 k p.2).map .bool:=by exact ae afM (aj rs.flatMap (funext λp=>iR.symm))
 show(eB D.bool? _).bind (λq=>aa (q.contains af))=_;refine ae a ?_;rw[w0 (f:=D.bool) (h:=λb=>b) λx=>rfl,alf];refine aj aa (iC.mpr ?_);rw[ed,Cz,oS];exact km λp=>oV λx=>by rw[ey,oS]
theorem ahL:(g9 ah c).length<=3:=by
 unfold g9;refine ae aS (ae aS ?_);have h:∀(b:Bool) (i:Int),(cond b [i] []).length<=1:=λb i=>by cases b with|true=>exact bO 1|false=>exact cy 1
 exact dz (eJ (h _ _) 1) (h _ _)
theorem akB:(be ((bN 37 []).take 3) (FN n) [ar c,aR ng,.val r,aR ah,.U]).run=.ok (.next,[ar c,aR ng,.val r,aR ah,.own ((g9 ah c).map .int)]):=by
 unfold g9 bw;cases ah with
 |false=>exact aG []
 |true=>
  cases d:decide (((65):Int)<=c)<;>cases h2:decide ((c:Int)<=(90))<;>cases a:decide (((97):Int)<=c)<;>cases e:decide ((c:Int)<=(122))
  ·exact aG [.b 4 (aj aa d),.b 3 (aj aa a)]
  ·exact aG [.b 4 (aj aa d),.b 3 (aj aa a)]
  ·exact aG [.b 4 (aj aa d),.b 3 (aj aa a),.b 0 (aj aa e)]
  ·exact aG [.b 4 (aj aa d),.b 3 (aj aa a),.b 0 (aj aa e)]
  ·exact aG [.b 4 (aj aa d),.b 3 (aj aa a)]
  ·exact aG [.b 4 (aj aa d),.b 3 (aj aa a)]
  ·exact aG [.b 4 (aj aa d),.b 3 (aj aa a),.b 0 (aj aa e)]
  ·exact aG [.b 4 (aj aa d),.b 3 (aj aa a),.b 0 (aj aa e)]
  ·exact aG [.b 4 (aj aa d),.b 0 (aj aa h2),.b 3 (aj aa a)]
  ·exact aG [.b 4 (aj aa d),.b 0 (aj aa h2),.b 3 (aj aa a)]
  ·exact aG [.b 4 (aj aa d),.b 0 (aj aa h2),.b 3 (aj aa a),.b 0 (aj aa e)]
  ·exact aG [.b 4 (aj aa d),.b 0 (aj aa h2),.b 3 (aj aa a),.b 0 (aj aa e)]
  ·exact aG [.b 4 (aj aa d),.b 0 (aj aa h2),.b 6 (aj aa a)]
  ·exact aG [.b 4 (aj aa d),.b 0 (aj aa h2),.b 6 (aj aa a)]
  ·exact aG [.b 4 (aj aa d),.b 0 (aj aa h2),.b 6 (aj aa a),.b 0 (aj aa e)]
  ·exact aG [.b 4 (aj aa d),.b 0 (aj aa h2),.b 6 (aj aa a),.b 0 (aj aa e)]
theorem ahM(a b:Bool):mS (yf (.bool a) (.bool b))=aa (a !=b):=rfl
theorem Q8(d:rs.length<=1000):aV (FN (n+1)) 37 [.int c,.bool ng,.list (rs.map rg),.bool ah]=.ok (.bool (jl ah ng rs c)):=by
 have g:pM (FN n) af [2,3] (.dG yg (.loc 0)) [4] (.bool (.pM .LtE .LtE (.vw 2) (.vw 4) (.vw 3))) (rs.map rg) [cA ((g9 ah c).map .int),.U,.U,.U,.U]=.ok (.list (rs.flatMap λp=>(g9 ah c).map λk=>.bool (bw p.1 k p.2))):=
  Q6 (aw (amO rs _) (aw (Nat.mul_le_mul (ahL) d) (eX rfl))) λp x=>⟨rfl,rfl,λk x=>⟨rfl,by
   unfold bw;cases a:decide ((p.1)<=k)with
   |false=>exact aG [.b 2 (aj aa a)]
   |true=>
    cases h2:decide (k<=(p.2))with
    |false=>exact aG [.b 2 (aj aa a),.b 1 (aj aa h2)]
    |true=>exact(aG [.b 2 (aj aa a),.b 1 (aj aa h2)])⟩⟩
 have p:(be ((bN 37 []).take 3) (FN n) [ar c,aR ng,cA (rs.map rg),aR ah,.U]).run=.ok (.next,[ar c,aR ng,cA (rs.map rg),aR ah,.own ((g9 ah c).map .int)]):=akB;unfold jl ju;refine u5 (o:=(.ret (.bool (ng !=rs.any λp=>(g9 ah c).any λk=>bw p.1 k p.2)),[ar c,aR ng,cA (rs.map rg),aR ah,cA ((g9 ah c).map .int)])) (ji 3 p ?_) (by kernel_rfl);exact aG [.q 3 g,.b 0 (amP (ks:=g9 ah c) rs),.b 0 (ahM ng (rs.any λp=>(g9 ah c).any λk=>bw p.1 k p.2))]
end
def m9(e:E):D:=.tup [.bytes e.1,.bool e.2.1,.bool e.2.2.1,.list (e.2.2.2.1.map rg),.list (il e.2.2.2.2)]
def yN(nm:Y)(l:List Nat):Prop:=l.Pairwise (·<·)/\∀a∈l,a<=nm.length
def Ij(nm:Y)(T:Rl)(pl out:List Nat):Prop:=yN nm out/\∀u,c7 nm out u↔∃s,c7 nm pl s/\T s u
noncomputable def gh(a b:Nat):List Nat:=(fc (b-a)).map (a+·)
def Gw(ah:Bool)(nm:Y)(e:E)(pl:List Nat):List Nat:=cond e.2.1 (cZ pl [] λa x=>gh a (nm.length+1)) ((pl.filter λa=>qf ah e.2.2.1 e.2.2.2.1 (nm.drop a)).map (·+1))
section
variable{b:Nat}
theorem pA:x∈gh a b↔a<=x/\x<b:=⟨λm=>(ey.mp m).elim λk z=>am z.2 ⟨cB _ _,Nat.add_lt_of_lt_sub' (nA.mp z.1)⟩,λz=>ey.mpr ⟨x-a,nA.mpr (Nat.sub_lt_sub_right z.1 z.2),oM z.1⟩⟩
theorem AC(c:a<=b)(hb:b<1000000):qT (.int a) (.int b)=aa (.list (il (gh a b))):=by
 have e:((b:Int)-a).toNat=b-a:=by refine am (Int.ofNat_sub c) ?_;rfl
 show gd ((a:Int).natAbs<1099511627776/\(b:Int).natAbs<1099511627776/\((b:Int)-a).toNat<=aI) (aa (D.list ((fc ((b:Int)-a).toNat).map λk:Nat=>D.int ((a)+(k)))))=_;exact ae e (ae (dU ⟨bX (bn c hb) (eX rfl),bX hb (eX rfl),aw (D8 _ _) (dk (bX hb (eX rfl)))⟩) (aj (λl=>aa (D.list l)) (iR (g:=λk:Nat=>D.int (k))).symm))
theorem ahN(d:Ok nm)(c:47∉nm)(h:yN nm (a::r)):Ij nm iA (a::r) (gh a (nm.length+1)):=⟨⟨Hf.mpr (aa3.imp λh=>Oh h a),λx m=>OT (pA.mp m).2⟩,λu=>⟨λz=>z.elim λx z=>have k:=pA.mp z.1
  ⟨nm.drop a,⟨a,.head _,tx d (h.2 a (.head _))⟩,(nm.drop a).take (x-a),by have q:=z.2.1;rw[<-oM k.1,<-ny]at q;simp only [<-q,oJ],λm=>c (N8 (rY m))⟩,
 λz=>z.elim λs z=>z.1.elim λb y=>z.2.elim λv k=>have w:At nm b (v++u):=k.1▸y.2
  ⟨b+v.length,pA.mpr ⟨aw ((ch.mp y.1).elim (λe=>cJ e.symm) λm=>dk ((G7.mp h.1).1 b m)) (cB _ _),zk (am w.bK.2.1 (cB _ _))⟩,w.bK⟩⟩⟩
theorem SJ(b:Ok nm)(f:47∉nm)(h:yN nm pl):Ij nm (E.rel ah e) pl (Gw ah nm e pl):=by
 unfold Gw E.rel;cases e.2.1 with
 |true=>cases pl with|nil=>exact⟨⟨.nil,aZ⟩,λu=>⟨c7.nil,λz=>z.elim λs z=>z.1.nil⟩⟩|cons a r=>exact ahN b f h
 |false=>exact⟨⟨Hf.mpr ((h.1.filter _).imp λh=>jH h),(D1 b h.2).1⟩,λu=>((D1 b h.2).2 u).trans (km λs=>oV λd=>km λc=>oV λk=>⟨λz=>⟨λq=>d.elim λx y=>f (N8 (ae y.2.1 (ae k (ae q (.head _))))),z⟩,uW⟩)⟩
theorem Ij.sq{B:Rl}(h:Ij nm A p q)(a:Ij nm B q r):Ij nm (sq A B) p r:=⟨a.1,λu=>(a.2 u).trans ⟨λz=>z.elim λw z=>((h.2 w).mp z.1).elim λs y=>⟨s,y.1,w,y.2,z.2⟩,λz=>z.elim λs z=>z.2.elim λw y=>⟨w,(h.2 w).mpr ⟨s,z.1,y.1⟩,y.2⟩⟩⟩
theorem ahO(a:Ok nm)(h:yN nm pl):pl.length<aI:=a.lim ⟨h.1.imp λh=>kZ h,h.2⟩
def wj(C:D)(nm:Y)(ah:Bool)(pl:List Nat)(j:Jn):Rh:=[.val C,cA (il nm),aR ah,vl pl,j 0,j 1,j 2,j 3,j 4]
def jE(e:E):Jn:=jn [aU e.1,aR e.2.1,aR e.2.2.1,cA (e.2.2.2.1.map rg),cA (il e.2.2.2.2)]
theorem UA{s:Y}(h:At nm a (c::s)):eZ (.list (il nm)) (.int a)=aa (.int c):=nX (by unfold il;refine am si (ae h.1 ?_);rfl)
theorem adw(d:Ok nm)(f:e.2.2.2.1.length<=1000)(h:yN nm pl):tn 38 [1] (n+1) (wj C nm ah pl (jE e))=.ok (.next,wj C nm ah (Gw ah nm e pl) (jE e)):=by
 obtain⟨T,m,ng,R,wm⟩:=e;cases m with
 |true=>cases pl with|nil=>exact aX []|cons a r=>exact aX [.p 5 ((nX rfl:eZ (.list (il (a::r))) (.int (0))=aa (.int a))),.p 3 ((by rw[sR];exact AC (iB (h.2 a (.head _))) (bX (jH d) (eX rfl)):qT (.int a) (.int ((il nm).length+1))=aa (.list (il (gh a (nm.length+1))))))]
 |false=>
  have c:mR (FN (n+1)) ag [5] [B.kH af [B.cmp .Lt (.vw 5) (.dG xO (.vw 2)),B.of (.call 37 [.fk eZ (.vw 2) (.loc 5),.loc 1,.loc 3,.loc 0])]] (.fk c6 (.vw 5) (.c (.int 1))) (il pl) [aR ah,aR ng,cA (il nm),cA (R.map rg),.U,.U]=.ok (.list ((pl.filter λa=>qf ah ng R (nm.drop a)).map λa:Nat=>.int (a+1))):=
   nK (dk (ahO d h)) λa m=>⟨rfl,Gl (by
    have z:=tx d (h.2 a m);cases e:nm.drop a with
    |nil=>simp only [e]at z;exact aG [.b 3 (f0 (b:=(il nm).length) (ae sR (cJ z.end.symm)))]
    |cons c s=>
     simp only [e]at z;have g:=Q8 (n:=n) (ah:=ah) (ng:=ng) (c:=c) f;show(B.kH _ _ _ _).run=Ev.ok (jl ah ng R c);revert g;cases jl ah ng R c with
     |true=>exactλg=>(aG [.b 3 (bP (b:=(il nm).length) (ae sR z.lt)),.p 2 (UA z),.q 3 g])
     |false=>exactλg=>(aG [.b 3 (bP (b:=(il nm).length) (ae sR z.lt)),.p 2 (UA z),.q 3 g])),λx=>rfl⟩
  refine ae (show wj C nm ah (Gw ah nm (T,ag,ng,R,wm) pl) (jE (T,ag,ng,R,wm))=wj C nm ah ((pl.filter λa=>qf ah ng R (nm.drop a)).map (·+1)) (jE (T,ag,ng,R,wm))from rfl) ?_;unfold wj vl;exact ae (show il ((pl.filter λa=>qf ah ng R (nm.drop a)).map (·+1))=_ from iR) (aX [.q 4 c])
theorem adx(b:Ok nm)(c:47∉nm)(es:List E):(∀e∈es,e.2.2.2.1.length<=1000)->∀{pl:List Nat} {j:Jn},yN nm pl->∃out,∃a:Jn,lf 38 [1] (n+1) af [4,5,6,7,8] (es.map m9) (wj C nm ah pl j)=.ok (.next,wj C nm ah out a)/\Ij nm (gI ah es) pl out:=by induction es with|nil=>exactλy {pl j} h=>⟨pl,j,rfl,h,λu=>⟨λz=>⟨u,z,rfl⟩,λz=>z.elim λs z=>am (z.2) z.1⟩⟩|cons e es ih=>exactλd {pl j} h=>(ih (λx m=>d x (.tail _ m)) (SJ b c h).1).elim λout z=>z.elim λa z=>⟨out,a,er rfl (adw b (d e (.head _)) h) z.1,(SJ b c h).sq z.2⟩
theorem Xv{x:Nat}:j4 (.int x) (.list (il pl))=aa (pl.contains x):=by show(eB D.int? (pl.map λk:Nat=>.int (k))).bind (λq=>aa (q.contains (x)))=_;rw[w0 (h:=λk:Nat=>(k:Int)) λy=>rfl];exact aj aa (VI pl)
theorem ahP(a:Ok nm)(c:47∉nm)(d:∀e∈es,e.2.2.2.1.length<=1000):∃t,aV (FN (n+2)) 38 [.list (es.map m9),.list (il nm),.bool ah]=.ok (.bool t)/\(t=af↔gI ah es nm []):=(adx (n:=n) (C:=.list (es.map m9)) (j:=jn []) a c es d ⟨NK ..,aQ ⟨cy _,aZ⟩⟩).elim λout z=>z.elim λj z=>⟨out.contains nm.length,by have i:=Xv (x:=nm.length) (pl:=out);rw[<-sR]at i⊢;exact(bc [.l 2 (z.1),.b 3 i]),ed.trans ⟨λm=>((z.2.2 []).mp ⟨_,m,zo,qI _,a⟩).elim λs y=>y.1.elim λx k=>am (show s=nm from(bB.mp k.1▸k.2).1.symm) y.2,λy=>((z.2.2 []).mpr ⟨nm,⟨0,.head _,tN a⟩,y⟩).elim λx k=>am k.2.end k.1⟩⟩
end
noncomputable def pB(P:Prop):Bool:=@decide P (ZM P)
theorem lW:pB P=af↔P:=@mA P (ZM P)
theorem amQ{Q:Prop}(h:P↔Q):pB P=pB Q:=iC.mpr (lW.trans (h.trans lW.symm))
def qD(q:List E):D:=.list (q.map m9)
def dj(cs:List (List E)):D:=.list (cs.map qD)
def cE(ps:List Y):D:=.list (ps.map λp=>.list (il p))
def Cs(cs:List (List E)):Prop:=∀q∈cs,∀e∈q,e.2.2.2.1.length<=1000
def Ps(ps:List Y):Prop:=ps.length<1000/\∀p∈ps,47∉p/\p.length<100000
def M8(ah:Bool)(q:List E)(ps:List Y):Bool:=cZ ps ag λp x=>pB (gI ah q p [])
def M9(ah last:Bool)(ps:List Y)(q:List E)(pl:List Nat):List Nat:=cond q.isEmpty (cZ pl [] λa x=>cond last (cond (eA a ps.length) [ps.length] []) (gh a (ps.length+1))) ((pl.filter λa=>M8 ah q (ps.drop a)).map (·+1))
def yO(ps:List Y)(l:List Nat):Prop:=l.Pairwise (·<·)/\∀a∈l,a<=ps.length
section
variable{ps:List Y}
theorem afn{p:Y}(a:47∉p/\p.length<100000)(b:∀e∈q,e.2.2.2.1.length<=1000):aV (FN (n+2)) 38 [qD q,.list (il p),.bool ah]=.ok (.bool (pB (gI ah q p []))):=(ahP a.2 a.1 b).elim λt z=>by exact ae (iC.mpr (lW.trans z.2.symm)) z.1
theorem Jv(h:ps.drop a=p::r):a<ps.length:=lP λz=>b5 (h.symm.trans (wv z))
theorem UB(h:ps.drop a=p::r):ps.drop (a+1)=r:=by refine am ny (ae h ?_);rfl
theorem akC(h:yO ps pl)(hp:Ps ps):pl.length<aI:=bn (QZ (ps.length+1) (h.1.imp λh=>kZ h) λa m=>zk (h.2 a m)) (bX (jH hp.1) (eX rfl))
theorem ady(h:yO ps pl):yO ps (M9 ah cs.isEmpty ps q pl)/\((∃x∈M9 ah cs.isEmpty ps q pl,LF ah cs (ps.drop x))↔∃x∈pl,LF ah (q::cs) (ps.drop x)):=by
 cases q with
 |nil=>cases pl with
  |nil=>exact⟨⟨.nil,aZ⟩,λz=>z.elim λx z=>(cf (z.1)),λz=>z.elim λx z=>(cf (z.1))⟩
  |cons a r=>
   have lo:=λx m=>(ch.mp m).elim (λe=>cJ e.symm) λm=>dk ((G7.mp h.1).1 x m);cases cs with
   |nil=>show yO ps (cond (eA a ps.length) [ps.length] [])/\((∃x∈cond (eA a ps.length) [ps.length] [],ps.drop x=[])↔_);have nx:∀x∈a::r,LF ah [[]] (ps.drop x)↔x<ps.length:=λx b=>pz.trans ⟨λz=>z.elim (λz=>lP λy=>z.2 (wv y)) λz=>aC rfl z.1,λz=>.inl ⟨rfl,λy=>nD.mpr z (Cd.mp y)⟩⟩;cases k:eA a ps.length with|true=>exact⟨⟨NK ..,aQ ⟨bO _,aZ⟩⟩,λb=>⟨a,.head _,(nx a (.head _)).mpr (cH k)⟩,λb=>⟨_,.head _,zo⟩⟩|false=>exact⟨⟨.nil,aZ⟩,λz=>z.elim λx z=>(cf (z.1)),λz=>z.elim λx z=>bb (k.symm.trans (qo (bn (lo x z.1) ((nx x z.1).mp z.2))))⟩
   |cons c cs=>
    refine⟨⟨Hf.mpr (aa3.imp λh=>Oh h a),λx m=>OT (pA.mp m).2⟩,λz=>z.elim λx z=>⟨a,.head _,pz.mpr (.inr ⟨b5,(ps.drop a).take (x-a),ps.drop x,?_,z.2⟩)⟩,λz=>z.elim λx z=>(pz.mp z.2).elim (λy=>b5 (y.1)) λy=>y.2.elim λu y=>y.elim λv y=>⟨min (x+u.length) ps.length,pA.mpr ⟨Nat.le_min.mpr ⟨aw (lo x z.1) (cB _ _),h.2 a (.head _)⟩,zk (afU _ _)⟩,?_⟩⟩
    ·have q:ps.drop x=(ps.drop a).drop (x-a):=ae ny (ae (oM (pA.mp z.1).1) rfl);simp only [q,oJ]
    ·have q:ps.drop (x+u.length)=v:=am ny (ae y.1 qx);exact ae (show ps.drop (min (x+u.length) ps.length)=v from(Iz (x+u.length) ps.length).elim (λl=>ae (nw l) (ae q rfl)) λl=>ae (CA l) (ae zo (am q (ae (wv l) rfl)))) y.2
 |cons e q=>
  refine⟨⟨Hf.mpr ((h.1.filter _).imp λh=>jH h),λb m=>(ey.mp m).elim λa z=>have y:=kj.mp z.1
   ?_⟩,λz=>z.elim λb z=>(ey.mp z.1).elim λa x=>have y:=kj.mp x.1
   ?_,λz=>z.elim λa z=>((AB (q:=e::q) b5).mp z.2).elim λp y=>y.elim λr y=>⟨a+1,ey.mpr ⟨a,kj.mpr ⟨z.1,ae y.1 (lW.mpr y.2.1)⟩,rfl⟩,ae (UB y.1) y.2.2⟩⟩
  ·have w:=y.2;cases k:ps.drop a with|nil=>have w:=k▸w;cases w|cons p r=>exact am z.2 (Jv k)
  ·have w:=y.2;cases k:ps.drop a with|nil=>have w:=k▸w;cases w|cons p r=>have w:=k▸w;exact⟨a,y.1,(AB (q:=e::q) b5).mpr ⟨p,r,k,lW.mp w,am (UB k) (ae x.2 z.2)⟩⟩
end
section
variable{cs:List (List E)}{ps:List Y}
def yP(C:D)(ps:List Y)(ah:Bool)(pl:List Nat)(a b:AV):Rh:=[.val C,.val (cE ps),aR ah,vl pl,a,b]
theorem qX:(ps.map λp=>D.list (il p)).length=ps.length:=aW ..
theorem UC(h:ps.drop a=p::r):eZ (cE ps) (.int a)=aa (.list (il p)):=nX (by refine am si (ae h ?_);rfl)
theorem ahQ{L:List D}(h:k+cs.length+1=L.length)(ht:cs.isEmpty=t):aa (decide ((k:Int)=(L.length:Int)-(1:Nat)))=aa t:=by refine am h (ae (tz _ 1) ?_);cases cs with|nil=>exact am ht (tt rfl)|cons c cs=>exact am ht (fR (kZ (zb (iD _))))
theorem adz(hp:Ps ps)(d:∀e∈q,e.2.2.2.1.length<=1000)(f:k+cs.length+1=L.length)(h:yO ps pl):tn 39 [1] (n+2) (yP (.list L) ps ah pl (ar k) (.val (qD q)))=.ok (.next,yP (.list L) ps ah (M9 ah cs.isEmpty ps q pl) (ar k) (.val (qD q))):=by
 cases q with
 |nil=>
  have t:∀t,cs.isEmpty=t->_:=λt=>ahQ f;cases c:cs.isEmpty with
  |true=>cases pl with
   |nil=>exact aX [.b 6 (t af c)]
   |cons a r=>have i:eZ (.list (il (a::r))) (.int (0))=aa (.int a):=nX rfl;show _=Ev.ok (Fl.next,yP (.list L) ps ah (cond (eA a ps.length) [ps.length] []) _ _);refine am qX ?_;cases b:eA a (ps.map λp=>D.list (il p)).length with|true=>exact aX [.b 6 (t af c),.p 3 i,.b 2 (bP (cH b))]|false=>exact aX [.b 6 (t af c),.p 3 i,.b 2 (f0 (qu λz=>bb (b.symm.trans (qo z))))]
  |false=>cases pl with|nil=>exact aX [.b 6 (t ag c)]|cons a r=>exact aX [.b 6 (t ag c),.p 3 ((nX rfl:eZ (.list (il (a::r))) (.int (0))=aa (.int a))),.p 3 ((by rw[qX];exact AC (iB (h.2 a (.head _))) (bX (jH hp.1) (eX rfl)):qT (.int a) (.int ((ps.map λp=>D.list (il p)).length+1))=aa (.list (il (gh a (ps.length+1))))))]
 |cons e q=>
  have c:mR (FN (n+2)) ag [4] [B.kH af [B.cmp .Lt (.vw 4) (.dG xO (.vw 2)),B.of (.call 38 [.loc 0,.fk eZ (.vw 2) (.loc 4),.loc 1])]] (.fk c6 (.vw 4) (.c (.int 1))) (il pl) [.val (qD (e::q)),aR ah,.val (cE ps),.U,.U]=.ok (.list ((pl.filter λa=>M8 ah (e::q) (ps.drop a)).map λa:Nat=>.int (a+1))):=
   nK (dk (akC h hp)) λa m=>⟨rfl,Gl (by
    cases k:ps.drop a with
    |nil=>exact aG [.b 3 (f0 (b:=(ps.map λp=>D.list (il p)).length) (ae qX (Cd.mp k)))]
    |cons p r=>
     have g:=afn (n:=n) (ah:=ah) (hp.2 p (N8 (ae k (.head _)))) d;show(B.kH _ _ _ _).run=Ev.ok (pB (gI ah (e::q) p []));revert g;cases pB (gI ah (e::q) p [])with
     |true=>exactλg=>(aG [.b 3 (bP (b:=(ps.map λp=>D.list (il p)).length) (ae qX (Jv k))),.p 3 (UC k),.q 1 g])
     |false=>exactλg=>(aG [.b 3 (bP (b:=(ps.map λp=>D.list (il p)).length) (ae qX (Jv k))),.p 3 (UC k),.q 1 g])),λx=>rfl⟩
  unfold yP vl;exact ae (show il ((pl.filter λa=>M8 ah (e::q) (ps.drop a)).map (·+1))=_ from iR) (aX [.q 4 c])
theorem adA(hp:Ps ps)(cs:List (List E)):∀{k:Nat} {pl:List Nat} {a b:AV},Cs cs->k+cs.length=L.length->yO ps pl->∃out a' c,lf 39 [1] (n+2) af [4,5] (((cs.map qD).zipIdx k).map λp=>.tup [.int p.2,p.1]) (yP (.list L) ps ah pl a b)=.ok (.next,yP (.list L) ps ah out a' c)/\(out.contains ps.length=af↔∃x∈pl,LF ah cs (ps.drop x)):=by induction cs with|nil=>exactλ{k pl a b} y y h=>⟨pl,a,b,rfl,ed.trans ⟨λm=>⟨_,m,zo⟩,λz=>z.elim λx z=>am (PC (h.2 x z.1) (Cd.mp z.2)) z.1⟩⟩|cons q cs ih=>intro k pl a b hc d h;have s:=ady (ah:=ah) (q:=q) (cs:=cs) h;exact(ih (λx m=>hc x (.tail _ m)) (by rw[r7];exact d) s.1).elim λout z=>z.elim λa' z=>z.elim λc z=>⟨out,a',c,er rfl (adz hp (hc q (.head _)) d h) z.1,z.2.trans s.2⟩
theorem Jw(hp:Ps ps)(hc:Cs cs):aV (FN (n+3)) 39 [dj cs,cE ps,.bool ah]=.ok (.bool (pB (LF ah cs ps))):=(adA (n:=n) (L:=cs.map qD) hp cs (a:=.U) (b:=.U) hc (by rw[aW,dD]) ⟨NK ..,aQ ⟨cy _,aZ⟩⟩).elim λout z=>z.elim λa z=>z.elim λb z=>by refine ae (iC.mpr (lW.trans ((z.2.trans ⟨λz=>z.elim λx z=>am (bB.mp z.1) z.2,λz=>⟨0,.head _,z⟩⟩).symm))) ?_;have i:=Xv (x:=ps.length) (pl:=out);rw[<-qX]at i⊢;exact bc [.l 2 (z.1),.b 3 i]
end
abbrev Ru:=Bool×Bool×Bool×List (List E)
def d9(r:Ru):D:=.tup [.bool r.1,.bool r.2.1,.bool r.2.2.1,dj r.2.2.2]
def fb(l:List Ru):D:=.list (l.map d9)
def Rq{α:Type}(I:Rh->Prop)(v:α->D)(o:Option α)(a:Ev Os):Prop:=dP o (∃r,I r/\a=.ok (.next,r)) λx=>∃r,a=.ok (.ret (v x),r)
theorem Rq.find{α:Type}{f:α->D}{t:α->Bool}{v:α->D}(xs:List α):(∀x∈xs,∀r,I r->∃c,bd (f x) r=aa c/\Rn I (v x) (t x) (b c))->∀{r},I r->Rq I v (xs.find? t) (fo bd b (xs.map f) r):=by
 induction xs with
 |nil=>exactλa a i=>⟨_,i,rfl⟩
 |cons x xs ih=>
  intro st r i;obtain⟨c,h,q⟩:=st x (.head _) r i;cases e:t x with
  |true=>rw[e]at q;exact ae (GR e) (q.elim λr z=>⟨r,Ax h z⟩)
  |false=>rw[e]at q;refine ae (GS (λk=>bb (e.symm.trans k))) ?_;obtain⟨j,d,z⟩:=q;have g:=ih (λy m=>st y (.tail _ m)) d;revert g;cases xs.find? t with|none=>exactλg=>g.elim λr y=>⟨r,y.1,er h z y.2⟩|some y=>exactλg=>g.elim λr y=>⟨r,er h z y⟩
section
def oC(ah dir:Bool)(ps:List Y)(r:Ru):Bool:=(dir||!r.2.1)&&pB (LF ah r.2.2.2 ps)
noncomputable def BX(b:Bool):Y:=cond b [105,110] [111,117,116]
def gU(ah:Bool)(a:List Ru)(ps:List Y)(dir:Bool):Option Ru:=a.find? (oC ah dir ps)
def qh(o:Option Ru):Y:=dP o [] λr=>BX r.1
def BY(l:List Ru):Prop:=∀r∈l,Cs r.2.2.2
def uh(C:D)(ps:List Y)(dir ah:Bool)(a b c d:AV):Rh:=[.val C,.val (cE ps),aR dir,aR ah,a,b,c,d]
def CO:=λ(n:Nat) (ah:Bool) (ps:List Y) (C:D)=>(∀{dir:Bool} {r:Ru} (hp:Ps ps) (hc:Cs r.2.2.2),Rn (λx=>∃a b c d,x=uh C ps dir ah a b c d) (.str (BX r.1)) (oC ah dir ps r) (tn 40 [0] (n+3) (uh C ps dir ah (aR r.1) (aR r.2.1) (aR r.2.2.1) (.val (dj r.2.2.2)))):Prop)
def CP:=mo CO (aO nI (aO nI (aO nI FZ)))
def HB:=CP.1
def oU:=CP.2.1
def qA:=CP.2.2.1
def wK:=CP.2.2.2
theorem aam:CO HB oU qA wK:=λ{e} {r} hp hc=>by
 have g:=Jw (n:=HB) (ah:=oU) hp hc;obtain⟨ng,f,j,cs⟩:=r;revert g;show aV _ _ [dj cs,_,_]=_->Rn _ _ ((e||!f)&&pB (LF oU cs qA)) (tn 40 [0] (HB+3) (uh wK qA e oU (aR ng) (aR f) (aR j) (.val (dj cs))));have no:∀{a},a=.ok (.next,uh wK qA e oU (aR ng) (aR f) (aR j) (.val (dj cs)))->Rn (λx=>∃a b c d,x=uh wK qA e oU a b c d) (.str (BX ng)) ag a:=λh=>.no ⟨_,_,_,_,rfl⟩ h;have i:∀{a},a=.ok (.ret (.str (BX ng)),uh wK qA e oU (aR ng) (aR f) (aR j) (.val (dj cs)))->Rn (λx=>∃a b c d,x=uh wK qA e oU a b c d) (.str (BX ng)) af a:=λh=>.yes h;cases e with
 |true=>cases pB (LF oU cs qA)with
  |false=>exactλg=>no (aX [.q 5 g])
  |true=>cases ng with|true=>exactλg=>i (aX [.q 5 g])|false=>exactλg=>i (aX [.q 5 g])
 |false=>cases f with
  |true=>exactλg=>no (aX [])
  |false=>cases pB (LF oU cs qA)with
   |false=>exactλg=>no (aX [.q 7 g])
   |true=>cases ng with|true=>exactλg=>i (aX [.q 7 g])|false=>exactλg=>i (aX [.q 7 g])
theorem adB{n ah ps C}:CO n ah ps C:=@rH _ _ _ _ CO _ @aam n ah ps C
def Dr:=λn ah dir a ps=>(∀(hp:Ps ps) (hc:BY a),aV (FN (n+4)) 40 [fb a,cE ps,.bool dir,.bool ah]=.ok (.str (qh (gU ah a ps dir))):Prop)
def zI:=p8 Dr (aO nI (aO nI (aO nI (aO nI nI))))
def Qc:=zI.1
def Hp:=zI.2.1
def HC:=zI.2.2.1
def CQ:=zI.2.2.2.1
def HU:=zI.2.2.2.2
theorem ab1:Dr Qc Hp HC CQ HU:=λhp hc=>by have g:=Rq.find (bd:=iw af [4,5,6,7]) (b:=tn 40 [0] (Qc+3)) (f:=d9) (I:=λx=>∃a b c d,x=uh (fb CQ) HU HC Hp a b c d) CQ (λr m x i=>i.elim λa i=>i.elim λb i=>i.elim λc i=>i.elim λd i=>⟨_,by refine ae i ?_;rfl,adB hp (hc r m)⟩) ⟨.U,.U,.U,.U,rfl⟩;unfold gU;revert g;cases CQ.find? (oC Hp HC HU)with|none=>rintro⟨_,⟨a,b,c,d,rfl⟩,g⟩;exact bc [.l 2 g]|some r=>rintro⟨x,g⟩;exact bc [.l 2 g]
theorem SL{n ah dir a ps}:Dr n ah dir a ps:=Bp Dr ab1
noncomputable def mi(o:Option Ru):Bool:=dP o ag λr=>!r.1
def jC(ah:Bool)(a:List Ru)(ps:List Y):Bool:=(gh 1 (ps.length+1)).any λk=>mi (gU ah a (ps.take k) af)
theorem Kg(o:Option Ru):(qh o==[111,117,116])=mi o:=by cases o with|none=>rfl|some r=>obtain⟨ng,_⟩:=r;cases ng<;>rfl
theorem Q9(l:List Y):eB D.xM (l.map .str)=aa l:=(w0 (f:=D.str) (h:=λy=>y) (λx=>rfl) l).trans (aj aa (RG l))
theorem aoD{l:List Y}:j4 (.str y) (.list (l.map .str))=aa (l.contains y):=aj (λo:Option (List Y)=>o.bind λq=>aa (q.contains y)) (Q9 l)
theorem Ps.take(hp:Ps ps)(k:Nat):Ps (ps.take k):=⟨bn (ww ..) hp.1,λp m=>hp.2 p (rY m)⟩
theorem sU{k:Nat}(h:k<100000):dh (.list l) .none (.int k)=aa (.list (l.take k)):=by show(gd (k<4611686018427387904) (aa (jV k l.length))).bind (λh=>aa (D.list (lB l 0 h)))=_;refine ae (dU (bX h (eX rfl))) (ae sI ?_);show aa (D.list (l.take (min k l.length)))=_;exact am N6 rfl
theorem Jx{k:Nat}(h:k<100000):dh (cE ps) .none (.int k)=aa (cE (ps.take k)):=(sU h).trans (aj (λl=>aa (D.list l)) (oW ..).symm)
theorem Qd(hp:Ps ps)(hc:BY bT):aV (FN (n+5)) 41 [fb bT,cE ps,.bool ah]=.ok (.bool (jC ah bT ps)):=by
 have c:mR (FN (n+4)) ag [4] [] (.call 40 [.loc 1,.fT (.vw 2) (.c .none) (.loc 4),.c (.bool af),.loc 0]) (il (gh 1 (ps.length+1))) [aR ah,.val (fb bT),.val (cE ps),.U,.U]=.ok (.list (((gh 1 (ps.length+1)).filter λx=>af).map λk:Nat=>.str (qh (gU ah bT (ps.take k) af)))):=
  nK (by
   unfold gh;rw[aW];refine ae OC ?_;exact aw (dk hp.1) (eX rfl)) λk m=>⟨rfl,rfl,λx=>by
   exact(aG [.p 3 (Jx (ps:=ps) ((λk m=>jb (pA.mp m).2 (aw hp.1 (eX rfl))) k m)),.q 1 (SL (n:=n) (ah:=ah) (dir:=af) (hp.take k) hc)])⟩
 rw[uy.mpr (λx x=>rfl),show(gh 1 (ps.length+1)).map (λk:Nat=>D.str (qh (gU ah bT (ps.take k) af)))=((gh 1 (ps.length+1)).map λk=>qh (gU ah bT (ps.take k) af)).map .str from iR.symm]at c;have i:=aoD (y:=[111,117,116]) (l:=(gh 1 (ps.length+1)).map λk=>qh (gU ah bT (ps.take k) af));have e:((gh 1 (ps.length+1)).map λk=>qh (gU ah bT (ps.take k) af)).contains [111,117,116]=jC ah bT ps:=by rw[iC,ed,ey];exact⟨λz=>z.elim λk z=>oS.mpr ⟨k,z.1,(Kg _).symm.trans (gP.mpr z.2)⟩,λz=>(oS.mp z).elim λk z=>⟨k,z.1,bt ((Kg _).trans z.2)⟩⟩
 rw[e]at i;have r:=AC (c8 (cy _)) (bX (jH hp.1) (eX rfl));rw[<-qX]at r c i;exact bc [.p 3 r,.q 0 c,.b 0 i]
end
theorem ahR{α:Type}{f:α->D}{t u:α->Bool}(xs:List α):(∀x∈xs,∀r,I r->∃c,bd (f x) r=aa c/\cond (t x) (cond (u x) (∃r,b c=.ok (.ret d,r)) (∃r,I r/\b c=.ok (.brk,r))) (∃r,I r/\b c=.ok (.next,r)))->∀{r},I r->Rn I d ((xs.find? t).any u) (fo bd b (xs.map f) r):=by
 induction xs with
 |nil=>exactλa a i=>.no i rfl
 |cons x xs ih=>
  intro st r i;refine(st x (.head _) r i).elim λc v=>v.elim λh q=>?_;cases e:t x with
  |true=>refine ae (GR e) ?_;rw[e]at q;show Rn I d (u x) _;cases k:u x with|true=>rw[k]at q;exact q.elim λr z=>.yes (Ax h z)|false=>rw[k]at q;exact q.elim λr z=>.no z.1 (J3 h z.2)
  |false=>refine ae (GS (λk=>bb (e.symm.trans k))) ?_;simp only [e]at q;refine q.elim λl v=>v.elim λj z=>?_;have g:=ih (λy m=>st y (.tail _ m)) j;revert g;cases(xs.find? t).any u with|true=>exactλg=>g.elim λr y=>⟨r,er h z y⟩|false=>exactλg=>g.elim λr y=>⟨r,y.1,er h z y.2⟩
section
theorem SM:dh (.list l) .none (.int (-1))=aa (.list l.dropLast):=by show(aa (jV (-1) l.length)).bind (λh=>aa (D.list (lB l 0 h)))=_;rw[IT];refine ae B4 ?_;rfl
theorem VX:dh (cE ps) .none (.int (-1))=aa (cE ps.dropLast):=SM.trans (aj (λl=>aa (D.list l)) (List.map_dropLast ..).symm)
theorem Ps.dl(hp:Ps ps):Ps ps.dropLast:=⟨bn (ae Ca (D8 _ _)) hp.1,λp m=>hp.2 p (acm _ m)⟩
def oD(ah:Bool)(ps:List Y)(r:Ru):Bool:=r.2.2.1&&pB (LF ah r.2.2.2 (ps++[[120]]))
def ui(ah:Bool)(a:List Ru)(ps:List Y):Bool:=(a.find? (oD ah ps)).any λr=>!r.1
theorem Kh(h:ps.length<1000):c6 (cE ps) (.list [.list [.int 120]])=aa (cE (ps++[[120]])):=(l9 (by rw[qX];exact aw (eW (dk h) 1) (eX rfl))).trans (aj (λl=>aa (D.list l)) (by refine ae cU ?_;rfl))
def yQ(ps:List Y):Prop:=Ps ps/\Ps (ps++[[120]])
def qi(e:List Ru)(ps:List Y)(dir ah:Bool)(l:D)(a b c d:AV):Rh:=[.val (fb e),.val (cE ps),aR dir,aR ah,.val l,a,b,c,d]
theorem afo(hp:yQ ps)(hc:Cs r.2.2.2):cond (oD ah ps r) (cond (!r.1) (∃x,tn 42 [2,0] (n+3) (qi bT ps dir ah l (aR r.1) (aR r.2.1) (aR r.2.2.1) (.val (dj r.2.2.2)))=.ok (.ret (.bool af),x)) (∃x,(∃a b c d,x=qi bT ps dir ah l a b c d)/\tn 42 [2,0] (n+3) (qi bT ps dir ah l (aR r.1) (aR r.2.1) (aR r.2.2.1) (.val (dj r.2.2.2)))=.ok (.brk,x)))
  (∃x,(∃a b c d,x=qi bT ps dir ah l a b c d)/\tn 42 [2,0] (n+3) (qi bT ps dir ah l (aR r.1) (aR r.2.1) (aR r.2.2.1) (.val (dj r.2.2.2)))=.ok (.next,x)):=by
 have g:=Jw (n:=n) (ah:=ah) hp.2 hc;have a:=Kh hp.1.1;obtain⟨ng,e,f,cs⟩:=r;unfold oD;revert g;cases f with
 |false=>exactλg=>⟨qi bT ps dir ah l (aR ng) (aR e) (aR ag) (.val (dj cs)),⟨_,_,_,_,rfl⟩,(aX [])⟩
 |true=>
  show aV _ _ [dj cs,_,_]=.ok (.bool (pB (LF ah cs (ps++[[120]]))))->cond (pB (LF ah cs (ps++[[120]]))) _ _;cases pB (LF ah cs (ps++[[120]]))with
  |false=>exactλg=>⟨qi bT ps dir ah l (aR ng) (aR e) (aR af) (.val (dj cs)),⟨_,_,_,_,rfl⟩,(aX [.p 4 a,.q 1 g])⟩
  |true=>cases ng with|true=>exactλg=>⟨qi bT ps dir ah l (aR af) (aR e) (aR af) (.val (dj cs)),⟨_,_,_,_,rfl⟩,(aX [.p 4 a,.q 1 g])⟩|false=>exactλg=>⟨qi bT ps dir ah l (aR ag) (aR e) (aR af) (.val (dj cs)),(aX [.p 4 a,.q 1 g])⟩
def j0(ah:Bool)(a:List Ru)(ps:List Y)(dir:Bool):D:=cond (mi (gU ah a ps dir)||(jC ah a ps.dropLast||(dir&&ui ah a ps))) (.bool af) (cond (gU ah a ps dir).isNone .none (.bool ag))
theorem akD(o:Option Ru):(qh o==[])=o.isNone:=by cases o with|none=>rfl|some r=>obtain⟨ng,_⟩:=r;cases ng<;>rfl
def DN:=λ(n:Nat) (ah:Bool) (a:List Ru) (ps:List Y)=>(∀{dir:Bool} (hp:yQ ps) (hc:BY a),aV (FN (n+6)) 42 [fb a,cE ps,.bool dir,.bool ah]=.ok (j0 ah a ps dir):Prop)
def DO:=mo DN (aO nI (aO nI (aO nI nI)))
def D4:=DO.1
def o4:=DO.2.1
def qG:=DO.2.2.1
def qO:=DO.2.2.2
theorem adC:DN D4 o4 qG qO:=λ{dir} hp hc=>by
 have j:=SL (n:=D4+1) (ah:=o4) (dir:=dir) hp.1 hc;have k:=Qd (n:=D4) (ah:=o4) hp.1.dl hc;have d:=VX (ps:=qO);have g:=ahR (bd:=iw af [5,6,7,8]) (f:=d9) (I:=λx=>∃a b c d,x=qi qG qO dir o4 (.str (qh (gU o4 qG qO dir))) a b c d) qG (λr m x i=>i.elim λa i=>i.elim λb i=>i.elim λc i=>i.elim λd i=>⟨_,by refine ae i ?_;rfl,afo (n:=D4+2) hp (hc r m)⟩) ⟨.U,.U,.U,.U,rfl⟩;unfold j0;refine am (show(qG.find? (oD o4 qO)).any (λr=>!r.1)=ui o4 qG qO from rfl) ?_;generalize gU o4 qG qO dir=o at j g⊢;generalize jC o4 qG qO.dropLast=P at k⊢;have h:=aj aa (Kg o);have t:=aj aa (akD o);generalize qh o=s at j g h t;generalize o.isNone=N at t⊢;generalize mi o=O at h⊢;cases O with
 |true=>exact bc [.q 4 j,.b 1 h]
 |false=>cases P with
  |true=>exact bc [.q 4 j,.b 1 h,.p 3 d,.q 1 k]
  |false=>cases dir with
   |false=>cases N with|true=>exact bc [.q 4 j,.b 1 h,.p 3 d,.q 1 k,.b 4 t]|false=>exact bc [.q 4 j,.b 1 h,.p 3 d,.q 1 k,.b 4 t]
   |true=>
    revert g;cases(qG.find? (oD o4 qO)).any λr=>!r.1 with
    |true=>rintro⟨x,g⟩;exact bc [.q 4 j,.b 1 h,.p 3 d,.q 1 k,.l 5 g]
    |false=>rintro⟨_,⟨a,b,c,e,rfl⟩,g⟩;cases N with|true=>exact bc [.q 4 j,.b 1 h,.p 3 d,.q 1 k,.l 5 g,.b 1 t]|false=>exact bc [.q 4 j,.b 1 h,.p 3 d,.q 1 k,.l 5 g,.b 1 t]
theorem Ki{n ah a ps}:DN n ah a ps:=@rH _ _ _ _ DN _ @adC n ah a ps
end
section
theorem adD(cs:List (List E)):cj (cs++[[]])=cj cs:=by induction cs with|nil=>rfl|cons q cs ih=>exact aj (λl:List (List E)=>cond (q.isEmpty&&l.isEmpty) [] (q::l)) ih
theorem adE(h:q≠[])(cs:List (List E)):cj (cs++[q])=cs++[q]:=by induction cs with|nil=>exact DM (.inl h)|cons c cs ih=>exact(DM (.inr (λk=>b5 ((gj.mp (ih.symm.trans k)).2)))).trans (aj (c::·) ih)
def oE(C:D)(ps:List Y)(ah:Bool)(a b c d e:AV):Rh:=[.val C,.val (cE ps),aR ah,a,b,c,d,e]
theorem SN:dj (cs++[q])=.list (cs.map qD++[qD q]):=aj D.list cU
theorem adF(m:Nat):∀{cs:List (List E)},cs.length=m->lw 43 [0,0,1] n (oE C ps ah a b c d (.val (dj cs)))=.ok (.next,oE C ps ah a b c d (.val (dj (cj cs)))):=by
 induction m with
 |zero=>intro cs h;cases aaq.mp h;exact kt (dF [])
 |succ m ih=>
  intro cs h;have k:cs≠[]:=λk=>by have h:=k▸h;cases h
  generalize f:cs.dropLast=l;generalize e:cs.getLast k=q;have k:=ur k;have k:=e▸f▸k;cases k;refine ae SN ?_;cases q with|nil=>rw[adD];have dl:dh (.list (l.map qD++[qD []])) .none (.int (-1))=aa (dj l):=SM.trans (aj (λl=>aa (D.list l)) wx);exact qS ((dF [.b 1 (El (l:=l.map qD) (d:=qD [])),.p 2 (zY (l:=l.map qD) (d:=qD []))])) ((aX [.p 2 dl])) (ih (by rw[aS]at h;exact mC h))|cons x q=>rw[adE (q:=x::q) b5];refine ae SN ?_;exact kt ((dF [.b 1 (El (l:=l.map qD) (d:=qD (x::q))),.p 2 (zY (l:=l.map qD) (d:=qD (x::q)))]))
def kQ(ah:Bool)(ps:List Y)(r:Ru):Bool:=r.2.2.1&&(r.2.1||(eA (cj r.2.2.2).length r.2.2.2.length&&pB (LF ah (cj r.2.2.2) (ps++[[120]]))))
theorem afp(cs:List (List E)):∀q∈cj cs,q∈cs:=by
 induction cs with
 |nil=>exact aZ
 |cons q cs ih=>show∀x∈cond (q.isEmpty&&(cj cs).isEmpty) [] (q::cj cs),x∈q::cs;cases q.isEmpty&&(cj cs).isEmpty with|true=>exact aZ|false=>exact aQ ⟨.head _,λx m=>.tail _ (ih x m)⟩
def Cu:=λn ah ps C=>(∀{r} {e} (hp:yQ ps) (hc:Cs r.2.2.2),Rn (λx=>∃a b c d e,x=oE C ps ah a b c d e) (.bool ag) (kQ ah ps r) (tn 43 [0] (n+3) (oE C ps ah (aR r.1) (aR r.2.1) (aR r.2.2.1) (.val (dj r.2.2.2)) e)):Prop)
def Cw:=mo Cu (aO nI (aO nI (aO nI FZ)))
def CS:=Cw.1
def oR:=Cw.2.1
def qw:=Cw.2.2.1
def uI:=Cw.2.2.2
theorem ZX:Cu CS oR qw uI:=λ{r} {e} hp hc=>by
 have g:=Jw (n:=CS) (ah:=oR) hp.2 λq m=>hc q (afp _ q m);obtain⟨ng,f,i,cs⟩:=r;have w:=adF (n:=CS+3) (C:=uI) (ps:=qw) (ah:=oR) (a:=aR ng) (b:=aR f) (c:=aR i) (d:=.val (dj cs)) (cs:=cs) _ rfl;have s:(cs.map qD).length=cs.length:=aW ..;have o:((cj cs).map qD).length=(cj cs).length:=aW ..;unfold kQ;revert g;show _->Rn _ _ (i&&(f||(eA (cj cs).length cs.length&&pB (LF oR (cj cs) (qw++[[120]]))))) (tn 43 [0] (CS+3) (oE uI qw oR (aR ng) (aR f) (aR i) (.val (dj cs)) e));refine am s (am o ?_);have no:∀{a e},a=.ok (.next,oE uI qw oR (aR ng) (aR f) (aR i) (.val (dj cs)) e)->Rn (λx=>∃a b c d e,x=oE uI qw oR a b c d e) (.bool ag) ag a:=λh=>.no ⟨_,_,_,_,_,rfl⟩ h;have j:∀{a},a=.ok (.ret (.bool ag),oE uI qw oR (aR ng) (aR f) (aR i) (.val (dj cs)) (.val (dj (cj cs))))->Rn (λx=>∃a b c d e,x=oE uI qw oR a b c d e) (.bool ag) af a:=λh=>.yes h;cases i with
 |false=>exactλg=>no (e:=e) (aX [])
 |true=>cases f with
  |true=>exactλg=>j (aX [.l 3 w])
  |false=>
   cases k:eA ((cj cs).map qD).length (cs.map qD).length with
   |false=>exactλg=>no (e:=.val (dj (cj cs))) (aX [.l 3 w,.b 6 (f0 (qu λz=>bb (k.symm.trans (qo z))))])
   |true=>cases pB (LF oR (cj cs) (qw++[[120]]))with|true=>exactλg=>j (aX [.l 3 w,.b 6 (bP (cH k)),.p 2 (Kh hp.1.1),.q 1 g])|false=>exactλg=>no (e:=.val (dj (cj cs))) (aX [.l 3 w,.b 6 (bP (cH k)),.p 2 (Kh hp.1.1),.q 1 g])
theorem ab2{n ah ps C}:Cu n ah ps C:=@rH _ _ _ _ Cu _ @ZX n ah ps C
def C7:=λn ah rs ps=>(∀(hp:yQ ps) (hc:BY rs),aV (FN (n+4)) 43 [fb rs,cE ps,.bool ah]=.ok (.bool (!rs.any (kQ ah ps))):Prop)
def C8:=mo C7 (aO nI (aO nI (aO nI nI)))
def Pu:=C8.1
def zr:=C8.2.1
def uO:=C8.2.2.1
def zz:=C8.2.2.2
theorem aaX:C7 Pu zr uO zz:=λhp hc=>by have g:Rn (λx=>∃a b c d e,x=oE (fb uO) zz zr a b c d e) (.bool ag) (uO.any (kQ zr zz)) (fo (iw af [3,4,5,6]) (tn 43 [0] (Pu+3)) (uO.map d9) (oE (fb uO) zz zr .U .U .U .U .U)):=Rn.any uO (λr m x i=>i.elim λa i=>i.elim λb i=>i.elim λc i=>i.elim λd i=>i.elim λe i=>⟨_,by refine ae i ?_;rfl,ab2 hp (hc r m)⟩) ⟨_,_,_,_,_,rfl⟩;revert g;cases uO.any (kQ zr zz)with|true=>rintro⟨x,g⟩;exact bc [.l 2 g]|false=>rintro⟨_,⟨a,b,c,d,e,rfl⟩,g⟩;exact bc [.l 2 g]
theorem afq{n ah rs ps}:C7 n ah rs ps:=rH C7 aaX
end
noncomputable def Gx(i:Y)(ah:Bool)(a b c d e f g h:AV):Rh:=[.U,aU i,aR ah,a,b,c,d,e,f,g,h]
def oh(bh a:Y)(ng:Bool):Prop:=(bh=33::a/\ng=af)\/(ng=ag/\((bh=92::a/\∃o r,a=o::r/\(o=33\/o=35))\/(bh=a/\(∀r,a≠33::r)/\∀o r,a=92::o::r->o≠33/\o≠35)))
noncomputable def rF(y:Y):Bool:=([47,42]:Y).isSuffixOf y||([47,42,42]:Y).isSuffixOf y
section
theorem amR(h:o≠33/\o≠35):j4 (.bytes [o]) (.tup [.bytes [33],.bytes [35]])=aa ag:=by have q:∀d,o≠d->(([o])==[d])=ag:=λd z=>fX λe=>z (bD e).1;show aa (([[33],[35]]).contains [o])=_;refine ae oN (ae oN (ae (q 33 h.1) (ae (q 35 h.2) ?_)));rfl
theorem K1{y:Y}(h:y.length<90000):dh (.bytes (x::y)) (.int (1:Nat)) .none=aa (.bytes y):=(At.one (tN (bX (jH h) (eX rfl)))).Bi
theorem Kj{y:Y}(h:y.length<90000):dh (.bytes (x::o::y)) (.int (1:Nat)) (.int (2:Nat))=aa (.bytes [o]):=(At.one (tN (bX (jH (jH h)) (eX rfl)))).cz
theorem SO(h:oh bh eS ng)(a:eS.length<90000):(be ((bN 49 []).take 3) (FN n) (Gx bh ah .U .U .U .U .U .U .U .U)).run=.ok (.next,Gx eS ah (aU bh) (aR ah) (aR (!ng)) .U .U .U .U .U):=by
 obtain⟨rfl,rfl⟩|⟨rfl,⟨rfl,o,r,rfl,ho⟩|⟨rfl,h1,h2⟩⟩:=h
 ·exact aG [.p 6 (K1 (x:=33) a)]
 ·obtain rfl|rfl:=ho
  ·exact aG [.b 10 (bP (jH (iD r.length))),.p 1 (Kj (x:=92) (o:=33) (oQ a)),.p 2 (K1 (x:=92) a)]
  ·exact aG [.b 10 (bP (jH (iD r.length))),.p 1 (Kj (x:=92) (o:=35) (oQ a)),.p 2 (K1 (x:=92) a)]
 ·cases bh with
  |nil=>exact aG []
  |cons x r=>
   have c:aa (([33]).isPrefixOf (x::r))=aa ag:=xF λq e=>h1 q e;by_cases e:x=92
   ·subst e;cases r with|nil=>exact aG []|cons o r=>exact aG [.b 10 (bP (jH (iD r.length))),.p 1 (Kj (x:=92) (o:=o) (oQ (oQ a))),.b 0 (amR (h2 o r rfl))]
   ·exact aG [.b 4 c,.b 2 (xF (y:=x::r) (z:=[92]) λq k=>e (bD k).1)]
theorem afr(i:fw [47] eS=y)(h:aV (FN n) 17 [.bytes eS]=.ok (.bytes t1))(h2:fA (FN n) 92 48 3 [.bytes t1,.bool ah]=.ok re)(g:aV (FN n) 17 [.bytes y]=.ok (.bytes t2))(f:fA (FN n) 92 48 3 [.bytes t2,.bool ah]=.ok nm):
  (be ((bN 49 []).drop 3) (FN n) (Gx eS ah (.val a) (aR ah) (.val c) .U .U .U .U .U)).run=.ok (.next,Gx eS ah (.val a) (aR ah) (.val c) (aR (([47]:Y).isSuffixOf eS)) (aR y.isEmpty) (.val re) (.val nm) (aR (rF y))):=by
 have d:=aj (λy=>aa (D.bytes y)) i;cases y with
 |nil=>exact aG [.p 3 d,.q 2 h,.q 1 h2,.p 1 d,.q 0 g,.q 1 f,.p 1 d,.p 3 d]
 |cons x y=>cases e:([47,42]).isSuffixOf (x::y)with|true=>exact ae (show rF (x::y)=([47,42]).isSuffixOf (x::y)from(aj (λk=>k||_) e).trans e.symm) (aG [.p 3 d,.q 2 h,.q 1 h2,.p 1 d,.q 0 g,.q 1 f,.p 1 d,.b 1 ((aj aa e))])|false=>exact ae (show rF (x::y)=([47,42,42]).isSuffixOf (x::y)from aj (λk=>k||_) e) (aG [.p 3 d,.q 2 h,.q 1 h2,.p 1 d,.q 0 g,.q 1 f,.p 1 d,.b 1 ((aj aa e)),.p 1 d])
def LN(bh a:Y)(ah ng:Bool)(b nm:D):D:=.inst 240 [.bytes bh,.bool ah,.bool (!ng),.bool (([47]:Y).isSuffixOf a),.bool (fw [47] a).isEmpty,b,nm,.bool (rF (fw [47] a))]
theorem Qe(h:oh bh eS ng)(a:eS.length<90000)(d:aV (FN n) 17 [.bytes eS]=.ok (.bytes t1))(h2:fA (FN n) 92 48 3 [.bytes t1,.bool ah]=.ok re)(c:aV (FN n) 17 [.bytes (fw [47] eS)]=.ok (.bytes t2))(b:fA (FN n) 92 48 3 [.bytes t2,.bool ah]=.ok nm):
  fA (FN (n+1)) 240 49 3 [.bytes bh,.bool ah]=.ok (LN bh eS ah ng re nm):=KZ (by kernel_rfl) (ji 3 (SO h a) (afr rfl d h2 c b)) rfl
end
def pD(bh:Y)(ah exc dir a oF:Bool)(b nm:D):D:=.inst 240 [.bytes bh,.bool ah,.bool exc,.bool dir,.bool a,ex ah b,ex ah nm,.bool oF]
section
theorem Qf(h:aV (FN n) 7 [ex ah nm,.bytes x]=.ok (.bool t)):aV (FN (n+1)) 18 [pD bh ah exc dir uj oF re nm,.bytes x,.bool d]=.ok (.bool (!uj&&((d||!dir)&&t))):=by
 cases uj with
 |true=>exact bc []
 |false=>cases dir with
  |false=>cases d<;>exact bc [.q 9 h]
  |true=>cases d with|true=>exact bc [.q 11 h]|false=>exact bc []
theorem SQ(h:aV (FN n) 7 [ex ah re,.bytes x]=.ok (.bool t)):aV (FN (n+1)) 20 [pD bh ah exc ag ag oF re nm,.bytes x]=.ok (.bool t):=by cases t with|true=>exact bc [.q 9 h]|false=>exact bc [.q 9 h]
theorem Jy(h:oF=af->dir=ag/\uj=ag)(d:x.length<1000)(f:aV (FN n) 7 [ex ah re,.bytes (x++[47,120])]=.ok (.bool t))(h2:aV (FN n) 7 [ex ah re,.bytes (x++[47,120,47])]=.ok (.bool s)):aV (FN (n+2)) 19 [pD bh ah exc dir uj oF re nm,.bytes x]=.ok (.bool (oF&&(t||s))):=by
 cases oF with
 |false=>exact bc []
 |true=>obtain⟨rfl,rfl⟩:=h rfl;have a:c6 (.bytes x) (.bytes [47])=aa (.bytes (x++[47])):=gy (aw (eW (dk d) 1) (eX rfl));have b:∀y,y.length<=2->c6 (.bytes (x++[47])) (.bytes y)=aa (.bytes (x++47::y)):=λy h=>(gy (by rw[aS];exact aw (dz (eW (dk d) 1) h) (eX rfl))).trans (by rw[bg];rfl);have g:=b [120,47] (eX rfl);have c:=SQ (bh:=bh) (exc:=exc) (oF:=af) (nm:=nm) f;have e:=SQ (bh:=bh) (exc:=exc) (oF:=af) (nm:=nm) h2;cases t with|true=>exact bc [.p 4 a,.p 2 (b [120] (eX rfl)),.q 0 c]|false=>exact bc [.p 4 a,.p 2 (b [120] (eX rfl)),.q 0 c,.p 3 g,.q 0 e]
end
def bE(e:E):E:=(cond ((rT e.1).contains 47) [47] [],e.2.1,e.2.2.1,e.2.2.2.1,[])
def bC(cs:List (List E)):List (List E):=cs.map λq=>q.map bE
def LFq(a b:Prop)(e:Y->Prop)(I:List Y->Prop)(ps:List Y):Prop:=(a/\((b/\ps≠[])\/(¬b/\Gu ps I)))\/(¬a/\∃p r,ps=p::r/\e p/\I r)
def j8(cs:List (List E)):Bool:=(bC cs).any λq=>q.any λe=>!e.1.isEmpty
noncomputable def fm(az:Bool)(cs:List (List E)):Bool:=az||eA 1 cs.length
def hD(az:Bool)(cs:List (List E)):Bool:=fm az cs&&dP (bC cs).getLast? ag eD
def Al(cs a:List (List E)):Prop:=bC cs=bC a
section
variable{t:Y}
theorem aoE:gI ah (q.map bE)=gI ah q:=by unfold gI;refine ae iR ?_;rfl
theorem Xw:LF ah (q::cs)=LFq (q=[]) (cs=[]) (λp=>gI ah q p []) (LF ah cs):=rfl
theorem Xx(cs:List (List E)):LF ah (bC cs)=LF ah cs:=by induction cs with|nil=>rfl|cons q cs ih=>exact ae (show bC (q::cs)=q.map bE::bC cs from rfl) (ae Xw (ae Xw (ae ih (ae aoE (ae (propext ze) (ae (show(bC cs=[])=(cs=[])from propext ze) rfl))))))
theorem UD(cs:List (List E)):cj (bC cs)=bC (cj cs):=by induction cs with|nil=>rfl|cons q cs ih=>show cond ((q.map bE).isEmpty&&(cj (bC cs)).isEmpty) [] (q.map bE::cj (bC cs))=bC (cond (q.isEmpty&&(cj cs).isEmpty) [] (q::cj cs));refine ae ih ?_;cases q<;>cases cj cs<;>rfl
theorem Al.lf(h:Al cs b9):LF ah cs=LF ah b9:=(Xx cs).symm.trans ((aj (LF ah) h).trans (Xx b9))
theorem Al.cj(h:Al cs b9):Al (cj cs) (cj b9):=(UD cs).symm.trans ((aj Internal.cj h).trans (UD b9))
theorem Al.len(h:Al cs b9):cs.length=b9.length:=(aW ..).symm.trans ((aj iT h).trans (aW ..))
theorem Al.fm(h:Al cs b9):fm az cs=fm az b9:=aj (λn=>az||eA 1 n) h.len
theorem Al.hD(h:Al cs b9):hD az cs=hD az b9:=by unfold Internal.hD;exact ae h.fm (ae (h) rfl)
theorem Al.j8(h:Al cs b9):j8 cs=j8 b9:=aj (λc=>c.any λq:List E=>q.any λe=>!e.1.isEmpty) h
theorem adG(h:eD q=af)(g:∀e∈q,E.Good e):∀e∈q,rT e.1=[42]\/rT e.1=[42,42]:=λe m=>by have g:=g e m;unfold E.Good at g;simp only [show e.2.1=af from ew.mp h e m]at g;exact g
theorem AD{α:Type} [BEq α] [LawfulBEq α]{c:α}{t:List α}(h:c∉t):t.contains c=ag:=gL.mpr λk=>h (ed.mp k)
theorem IW{α:Type}{f:α->Y}{l:List α}:(l.map f).flatten.contains c=l.any λx=>(f x).contains c:=by induction l with|nil=>rfl|cons x l ih=>exact(B9 ..).trans (aj _ ih)
theorem amS(q:List E):(q.map bE).any (λe=>!e.1.isEmpty)=q.any λe=>(rT e.1).contains 47:=by refine ae Dz ?_;refine aj (aoR q) (funext λe=>?_);show(!(cond ((rT e.1).contains 47) [47] []).isEmpty)=_;cases(rT e.1).contains 47<;>rfl
theorem amT(g:∀e∈q,E.Good e):(cq q).contains 47=(q.map bE).any λe=>!e.1.isEmpty:=by
 simp only [amS];unfold cq;cases q with
 |nil=>rfl
 |cons e q=>cases m:eD (e::q)with|true=>exact(OD.mpr λx k=>by have z:=adG m g x k;obtain z|z:=z<;>refine ae z ?_<;>decide).symm|false=>exact IW
theorem VY(us:List Y):∀{u},(aK (u::us)).contains 47=(eA 1 (us.length+1)||(u::us).any λx=>x.contains 47):=by intro u;cases us with|nil=>exact(qC _).symm|cons v us=>exact ae fx (ed.mpr (fF u (.head _)))
theorem AE{t:Bool}:b8 (bW cs) t=cs.map cq++cond t [[]] []:=by unfold b8 bW;refine ae iR ?_;refine aj (·++_) (aj (Ai · cs) (funext λq=>?_));cases q<;>rfl
theorem VZ(g:∀q∈cs,∀e∈q,E.Good e):(cs.map cq).any (λx=>x.contains 47)=j8 cs:=by unfold j8 bC;exact ae Dz (ae Dz (zU λq m=>amT (g q m)))
theorem amU(g:∀q∈cs,∀e∈q,E.Good e)(h:cs≠[]):(pT az ag (bW cs)).contains 47=(fm az cs||j8 cs):=by unfold pT;refine ae AE (ae (show Ai cq cs++cond ag [[]] []=Ai cq cs from bu _) (ae B9 (am (VZ g) ?_)));cases cs with|nil=>exact aC rfl h|cons q cs=>refine ae dB ?_;rw[VY,aW];cases az<;>rfl
theorem V0(h:t.getLast?≠aa 47):t.dropLast.contains 47=t.contains 47:=by cases k:t.getLast? with|none=>refine ae (GN.mp k) ?_;rfl|some c=>obtain⟨v,rfl⟩:=List.getLast?_eq_some_iff.mp k;refine ae wx (ae B9 ?_);have n:c≠47:=λe=>h (am e k);simp only [show([c]).contains 47=ag from AD λm=>n (bB.mp m).symm,qC]
end
section
variable{W S:Y}
theorem V1(b:fV z)(d:47∉S)(f:S.head?=aa 42):(47::S).isSuffixOf (W++47::z)=(z==S):=iC.mpr ⟨λk=>(nh.mp k).elim λa e=>gP.mpr ((ND.mp e).elim (λx=>x.elim λc x=>by
  cases c with
  |nil=>exact(bD x.2).2.symm
  |cons y c=>exact aC (ae ((bD x.2).2) (fF c (.head z))) d) λx=>x.elim λc x=>by
  cases c with
  |nil=>exact(bD x.2).2
  |cons y c=>exact aC f (b.1 c S (bD x.2).2).2),λk=>nh.mpr ⟨W,ae (bt k) rfl⟩⟩
theorem V2(b:fV z)(c:S.head?=aa 42):(47::S).isSuffixOf z=ag:=gL.mpr λk=>(nh.mp k).elim λa e=>(b.1 a S e.symm).2 c
theorem V3(a:fV z):rF (W++47::z)=([[42],[42,42]]:List Y).contains z/\rF z=ag:=⟨by
 unfold rF;exact ae (V1 a (eX rfl) rfl) (ae (V1 a (eX rfl) rfl) (aj _ (qC _).symm)),by
 unfold rF;refine ae (V2 a rfl) (ae (V2 a rfl) ?_);rfl⟩
theorem Af(us:List Y):∀{v u:Y},aK (v::us++[u])=aK (v::us)++47::u:=by induction us with|nil=>exactλ{v u}=>fx|cons w us ih=>intro v u;refine ae fx ?_;simp only [fx,bg,sd];exact aj (λx=>v++47::x) ih
theorem ahS:pT az ag (bW (cs++[q]))=cq q/\fm az (cs++[q])=ag\/(∃W,pT az ag (bW (cs++[q]))=W++47::cq q)/\fm az (cs++[q])=af:=by
 unfold pT fm;refine ae AE (ae (show Ai cq (cs++[q])++cond ag [[]] []=Ai cq cs++[cq q]from(bu _).trans cU) ?_);cases cs with
 |nil=>cases az with|true=>exact .inr ⟨⟨[],rfl⟩,rfl⟩|false=>exact .inl ⟨rfl,rfl⟩
 |cons p cs=>refine .inr ⟨⟨dJ az++aK ((p::cs).map cq),by rw[dB,Af,bg]⟩,?_⟩;refine ae aS ?_;simp only [ki];exact .inr (qo (c8 (mB 1 _)))
theorem SR(g:∀e∈q,E.Good e):([[42],[42,42]]:List Y).contains (cq q)=eD q:=by
 unfold cq;cases q with
 |nil=>rfl
 |cons e q=>cases m:eD (e::q)with
  |true=>rfl
  |false=>exact AD λk=>nomatch m.symm.trans (KX g λc x=>by
    have k:=ch.mp k;rw[bB]at k;obtain k|k:=k<;>rw[show eT (e::q)=_ from k]at x
    ·exact bB.mp x
    ·exact(ch.mp x).elim id bB.mp)
theorem akE:eD (q.map bE)=eD q:=Rk
theorem Ra:hD az (cs++[q])=(fm az (cs++[q])&&eD q):=by unfold hD bC;exact ae cU (ae (show[q].map (λq=>q.map bE)=[q.map bE]from rfl) (ae (wy) (aj _ akE)))
theorem Xy(g:∀e∈q,E.Good e):fV (cq q):=by
 unfold cq;cases q.isEmpty with
 |true=>exact(fV.of (eX rfl):fV [42,42])
 |false=>cases eD q with|true=>exact(fV.of (eX rfl):fV [42])|false=>exact(IR g).1
theorem akF(g:∀q∈cs,∀e∈q,E.Good e)(h:cs≠[]):rF (pT az ag (bW cs))=hD az cs:=by
 refine am (ur h) ?_;have k:=g _ (afN h);refine ae Ra ?_;obtain⟨a,b⟩|⟨⟨W,a⟩,b⟩:=ahS<;>rw[a,b]
 ·exact(V3 (W:=[]) (Xy k)).2
 ·exact(V3 (Xy k)).1.trans (SR k)
theorem Ep(h:t.getLast?≠aa 47):fw [47] t=t/\fw [47] (t++[47])=t:=by
 have e:fw [47] (t++[47])=fw [47] t:=by unfold fw;refine ae G1 ?_;rfl
 refine ae e ?_;simp only [and_self];unfold fw;cases k:t.reverse with|nil=>exact(NL.mp k).symm|cons c r=>rw[B2 (λm=>(λe=>h (by refine ae (List.getLast?_eq_head?_reverse) (ae k (ae e ?_));rfl)) (bB.mp (ed.mp m))),<-k,uw]
end
def Gd(cs:List (List E)):Prop:=cs≠[]/\cs.length<=11/\∀q∈cs,(∀e∈q,E.Good e)/\q.length<=12
def Na(ah:Bool)(bh:Y)(ng only az:Bool)(cs a:List (List E)):D:=pD bh ah (!ng) only ag (hD az cs) (zD (i9 az only (bW a))) (zD (i9 az ag (bW a)))
def Nb(ah:Bool)(bh:Y)(ng az:Bool):D:=pD bh ah (!ng) az af ag (zD (i9 az af [])) (zD (i9 ag af []))
section
theorem Xz(g:∀e∈q,E.Good e)(l:q.length<=12)(h:q≠[]):i8 (cq q)/\(cq q).isEmpty=ag/\(cq q==[42,42])=ag:=by unfold cq;refine ae (za.mpr h) ?_;cases m:eD q with|true=>exact⟨(⟨.of (eX rfl),eX rfl,λn=>xa rfl⟩:i8 [42]),rfl,rfl⟩|false=>have a:=IR g;have b:∀t:Y,(∀c∈t,c=42)->eT q≠t:=λt k e=>bb (m.symm.trans (KX g (ae e k)));exact⟨⟨a.1,aw a.2.1 (dy 40 l),a.2.2⟩,za.mpr (b [] aZ),fX (b [42,42] (eX rfl))⟩
theorem xG(h:Gd cs):(∀q∈cs,q≠[]->pX q)/\∀x∈bW cs,mb x:=
 have a:=λq m k=>amC (h.2.2 q m).1 (h.2.2 q m).2 k
 ⟨a,amN a λq m k=>Xz (h.2.2 q m).1 (h.2.2 q m).2 k⟩
theorem Gd.go(h:Gd cs)(t:Bool):bW cs≠[]/\(bW cs).length<=11/\∃u vs,b8 (bW cs) t=u::vs:=by cases cs with|nil=>exact aC rfl h.1|cons q cs=>exact⟨b5,aw (cJ (aW ..)) h.2.1,_,_,rfl⟩
theorem Er(h:∀x∈us,mb x)(a:us≠[]):(pT az ag us).getLast?≠aa 47/\pT az ag us≠[]:=by
 cases us with
 |nil=>exact aC rfl a
 |cons x us=>have n:aK (uT x::b8 us ag)≠[]:=λe=>(K0 (h x (.head _))).1 (gj.mp (Fh.symm.trans e)).1;refine⟨λe=>(Eo (b8 us ag) (show∀y∈b8 (x::us) ag,y≠[]/\y.getLast?≠aa 47 from dg (λy m=>(ey.mp m).elim λz k=>am k.2 (K0 (h z k.1))) aZ)) ?_,λe=>n (gj.mp e).2⟩;cases c:(aK (uT x::b8 us ag)).getLast? with|none=>exact aC (GN.mp c) n|some c'=>exact am (show(aK (uT x::b8 us ag)).getLast?.or _=aa 47 from GY.symm.trans e) (by refine ae c ?_;rfl)
theorem ahT(h:∀x∈us,mb x)(a:us≠[]):fw [47] (pT az tail us)=pT az ag us/\([47]:Y).isSuffixOf (pT az tail us)=tail:=by
 have l:=(Er (az:=az) h a).1;cases tail with
 |false=>exact⟨(Ep l).1,Ke l⟩
 |true=>
  have e:pT az af us=pT az ag us++[47]:=by cases us with|nil=>exact aC rfl a|cons x us=>unfold pT b8;simp only [dB,show cond af [([])] []=[[]]from rfl,Af,show cond ag [([])] []=[]from rfl,bu,bg]
  exact ae e (⟨(Ep l).2,nh.mpr ⟨_,rfl⟩⟩)
theorem amV(h:∀u∈us,mb u)(b:b8 us tail=u::vs)(c:us.length<=11):(pT az tail us).length<90000:=by
 have a:(aK (b8 us tail)).length<=5772:=by have l:=Em (us:=us) (tail:=tail);have o:=ve (tail:=tail) h;rw[b]at l o⊢;exact aw (Fe vs o) (dy 481 (aw l (c8 c)))
 unfold pT;exact ae aS (bn (dz (show(dJ az).length<=1 by cases az<;>decide) a) (eX rfl))
theorem amW(h:Gd b9)(al:Al cs b9)(r:oh bh (pT az only (bW b9)) ng):fA (FN (n+9)) 240 49 3 [.bytes bh,.bool ah]=.ok (Na ah bh ng only az cs b9):=by have o:=xG h;refine((Gd.go h only).2.2).elim λu v=>v.elim λvs e=>?_;refine((Gd.go h ag).2.2).elim λc v=>v.elim λd e'=>?_;have k:=(Gd.go h ag).2.1;have t:=ahT (az:=az) (tail:=only) o.2 (Gd.go h ag).1;have a:=AA (n:=n) (ah:=ah) (az:=az) o.2 e k;have b:=AA (n:=n) (ah:=ah) (az:=az) o.2 e' k;refine ae (Qe r (amV o.2 e k) a.1 a.2.1 (t.1.symm▸b).1 (t.1.symm▸b).2.1) ?_;unfold LN;refine ae t.1 (ae t.2 (ae (akF (λq m=>(h.2.2 q m).1) h.1) (am al.hD (ae (za.mpr (Er o.2 (Gd.go h ag).1).2) ?_))));rfl
def Ds:=λn ah ng az bh=>(∀(r:oh bh (dJ az) ng),fA (FN (n+9)) 240 49 3 [.bytes bh,.bool ah]=.ok (Nb ah bh ng az):Prop)
def zJ:=p8 Ds (aO nI (aO nI (aO nI (aO nI nI))))
def Qg:=zJ.1
def Ow:=zJ.2.1
def ab3:=zJ.2.2.1
def uJ:=zJ.2.2.2.1
def aaY:=zJ.2.2.2.2
theorem ab4:Ds Qg Ow ab3 uJ aaY:=λr=>by
 have a:=λl=>AA (n:=Qg) (ah:=Ow) (az:=l) (tail:=af) aZ rfl (cy _);have l:∀l,pT l af []=dJ l:=λl=>bu _;have e:fw [47] (dJ uJ)=[]:=by cases uJ<;>rfl
 have x:=a uJ;have y:=a ag;rw[l]at x y;have y:=(show dJ ag=fw [47] (dJ uJ)from e.symm)▸y;refine ae (Qe r (by cases uJ<;>decide) x.1 x.2.1 y.1 y.2.1) ?_;unfold LN;refine ae e ?_;cases uJ<;>rfl
theorem ahU{n ah ng az bh}:Ds n ah ng az bh:=Bp Ds ab4
end
def Pa(k:Nat)(ps:List Y):Prop:=ps≠[]/\ps.length<=k/\∀p∈ps,(47∉p/\p≠[])/\p.length<=60/\∀c∈p,c<128
def Nc(exc:Bool)(p:D):Prop:=∃bh ah dir a oF b nm,p=pD bh ah exc dir a oF b nm
def Po(ah:Bool)(x:D×Option Ru):Prop:=(∃exc,Nc exc x.1/\∀r,x.2=aa r->exc=!r.1)/\(∀n ps d,Pa 7 ps->aV (FN (n+7)) 18 [x.1,.bytes (aK ps),.bool d]=.ok (.bool (x.2.any (oC ah d ps))))/\∀n ps,Pa 6 ps->x.2.any (kQ ah ps)=ag->aV (FN (n+8)) 19 [x.1,.bytes (aK ps)]=.ok (.bool (x.2.any (oD ah ps)))
def oG(ng only az:Bool)(cs:List (List E)):Ru:=(ng,only,hD az cs,cond (fm az cs||j8 cs) cs ([]::cs))
section
theorem Kk(ps:List Y)(h:∀p∈ps,p.length<=m):(aK ps).length<=(m+1)*ps.length:=by
 induction ps with
 |nil=>exact cy _
 |cons p ps ih=>have i:=ih λx m=>h x (.tail _ m);cases ps with|nil=>exact aw (h p (.head _)) (by refine ae (show[p].length=1 from rfl) ?_;rw[anG];exact gO m)|cons v ps=>refine ae fx ?_;rw[aS,eY,<-mx,gn];exact dz i (c8 (h p (.head _)))
theorem Pa.lt(h:Pa k ps)(l:k<=7):(aK ps).length<430:=bn (aw (Kk ps λp m=>(h.2.2 p m).2.1) (dy 61 (aw h.2.1 l))) (eX rfl)
theorem Pa.yR(h:Pa k ps):wi ps:=λp m=>(h.2.2 p m).1
theorem Pa.x(h:Pa 6 ps):Pa 7 (ps++[[120]]):=⟨λe=>(b5 ((gj.mp e).2)),ae aS (c8 h.2.1),dg h.2.2 (aQ ⟨eX rfl,aZ⟩)⟩
theorem Pa.up(h:Pa k ps)(l:k<=m):Pa m ps:=⟨h.1,aw h.2.1 l,h.2.2⟩
theorem sJ(h:∀z∈zs,z.Ok 4)(l:nm.length<1000):aV (FN (n+6)) 7 [ex ah (zD zs),.bytes nm]=.ok (.bool (pB (zE ah zs nm))):=(akp h (bX l (eX rfl))).elim λt z=>by exact ae (show pB (zE ah zs nm)=t from iC.mpr (lW.trans z.2.symm)) z.1
theorem Gd.wm(h:Gd b9)(al:Al cs b9):∃c,Al (cond (fm az cs||j8 cs) cs ([]::cs)) c/\c≠[]/\∀ps,Pk ps->ps≠[]->(zE ah (i9 az ag (bW b9)) (aK ps)↔RS ah c ps):=by
 have o:=xG h;have e:(pT az ag (bW b9)).dropLast.contains 47=(fm az cs||j8 cs):=by exact ae (V0 (Er o.2 (Gd.go h ag).1).1) (ae (amU (λq m=>(h.2.2 q m).1) h.1) (ae al.fm (ae al.j8 rfl)))
 refine⟨cond (fm az cs||j8 cs) b9 ([]::b9),?_,?_,λps a b=>am e (ahI o.1 o.2 h.1 a b)⟩
 ·cases fm az cs||j8 cs with|true=>exact al|false=>exact aj ([]::·) al
 ·cases fm az cs||j8 cs with|true=>exact h.1|false=>exact b5
theorem akG(h:Gd b9)(al:Al cs b9):Po ah (Na ah bh ng only az cs b9,aa (oG ng only az cs)):=by
 obtain⟨i,a,m,f⟩:=h.wm al;have ok:∀t,∀z∈i9 az t (bW b9),z.Ok 4:=λt=>(Gd.go h t).2.2.elim λu z=>z.elim λvs e=>(AA (n:=0) (ah:=ah) (xG h).2 e (Gd.go h t).2.1).2.2;refine⟨⟨!ng,⟨_,_,_,_,_,_,_,rfl⟩,λr e=>by cases e;rfl⟩,λn ps d p=>?_,λn ps p u=>?_⟩
 ·have b:=f ps p.yR.pk p.1;exact ae (show(aa (oG ng only az cs)).any (oC ah d ps)=(!ag&&((d||!only)&&pB (zE ah (i9 az ag (bW b9)) (aK ps))))from aj (λt=>(d||!only)&&t) (amQ ((b.trans (VW i p.yR p.1 m)).trans (am a.lf jg)).symm)) (Qf (sJ (ok ag) (bX (p.lt (bO 7)) (eX rfl))))
 ·have hd:hD az cs=af->only=ag/\(pB (zE ah (i9 az ag (bW b9)) (aK ps++[47,120]))||pB (zE ah (i9 az ag (bW b9)) (aK ps++[47,120,47])))=pB (LF ah (oG ng only az cs).2.2.2 (ps++[[120]])):=λhd=>by
   have u:(hD az cs&&(only||(eA (cj (oG ng only az cs).2.2.2).length (oG ng only az cs).2.2.2.length&&pB (LF ah (cj (oG ng only az cs).2.2.2) (ps++[[120]])))))=ag:=u;rw[hd,aiF,Cc]at u;refine⟨u.1,?_⟩;have x:=p.x;cases ps with
   |nil=>exact aC rfl p.1
   |cons v vs=>
    have j:aK (v::vs)++[47,120]=aK (v::vs++[[120]]):=(Af vs).symm;have o:aK (v::vs)++[47,120,47]=aK (v::vs++[[120]]++[[]]):=by show _=aK (v::(vs++[[120]])++[[]]);rw[Af,show v::(vs++[[120]])=v::vs++[[120]]from rfl,<-j,bg];rfl
    refine ae j (ae o ?_);have g:=(f _ x.yR.pk x.1).trans (VW i x.yR x.1 m);have q:=f (v::vs++[[120]]++[[]]) x.yR.pk1 b5;have g:=a.lf.symm▸g;refine iC.mpr ⟨λz=>lW.mpr ((ki _ _).mp z|>.elim (λz=>g.mp (lW.mp z)) λz=>(ahK i x.yR (q.mp (lW.mp z))).elim (λz=>by have z:=a.lf.symm▸z;exact z) λz=>aC u.2 ?_),λz=>(ki _ _).mpr (.inl (lW.mpr (g.mpr (lW.mp z))))⟩;rw[Bool.and_eq_false_iff,not_or,Hc,Hc];have l:=z.1;rw[<-a.cj.len,<-a.len]at l;have w:=z.2;rw[<-a.cj.lf]at w;exact⟨qo l,lW.mpr w⟩
  have l:=p.lt (eX rfl);have lt:∀y:Y,y.length<=3->(aK ps++y).length<1000:=λy h=>by exact ae aS (jb (Z2 l h) (eX rfl))
  cases k:hD az cs with|false=>refine ae (show(aa (oG ng only az cs)).any (oD ah ps)=ag from aj (λt=>t&&_) k) ?_;show aV _ _ [pD _ _ _ _ _ (hD az cs) _ _,_]=_;exact ae k (Jy bb (bX l (eX rfl)) (sJ (ok only) (lt _ (eX rfl))) (sJ (ok only) (lt _ (eX rfl))))|true=>obtain⟨rfl,e⟩:=hd k;exact ae (show(aa (oG ng ag az cs)).any (oD ah ps)=(hD az cs&&_)from aj (λt=>hD az cs&&t) e.symm) (Jy (λc=>⟨rfl,rfl⟩) (bX l (eX rfl)) (sJ (ok ag) (lt _ (eX rfl))) (sJ (ok ag) (lt _ (eX rfl))))
theorem ahV:Po ah (Nb ah bh ng az,ak):=by
 have ok:∀l,∀z∈i9 l af [],z.Ok 4:=λl=>(AA (n:=0) (ah:=ah) aZ rfl (cy _)).2.2;have lt:∀{ps},Pa 7 ps->∀y:Y,y.length<=3->(aK ps++y).length<1000:=λp y h=>by rw[aS];exact jb (Z2 (p.lt (bO 7)) h) (eX rfl)
 exact⟨⟨!ng,⟨_,_,_,_,_,_,_,rfl⟩,λ_ h=>aN h⟩,λn ps d p=>Qf (sJ (ok ag) (bX (p.lt (bO 7)) (eX rfl))),λn ps p u=>Jy bb (bX (p.lt (eX rfl)) (eX rfl)) (sJ (ok az) (lt (p.up (eX rfl)) _ (eX rfl))) (sJ (ok az) (lt (p.up (eX rfl)) _ (eX rfl)))⟩
end
noncomputable def fD(ah:Bool)(l:List (D×Option Ru)):D:=.inst 333 [.list (l.map λx=>x.1),.bool ah,.none]
noncomputable def dR(l:List (D×Option Ru)):List Ru:=(l.filterMap λx=>x.2).reverse
def Gy(o:Option Ru)(p:D):Prop:=dP o (p=.none) λr=>Nc (!r.1) p
noncomputable def oH(G:D)(N:Y)(d:Bool)(a b c e:AV):Rh:=[.val G,j5 N,aR d,a,b,c,e]
noncomputable def qj(G:D)(N:Y)(a b c e:AV):Rh:=[.val G,j5 N,a,b,c,e]
def gD(ah:Bool)(l:List (D×Option Ru)):D:=.list [.tup [.int 0,fD ah l]]
section
theorem UE:(dR l).find? t=(l.reverse.find? λx=>x.2.any t).bind λx=>x.2:=by
 unfold dR;refine am List.filterMap_reverse ?_
 induction l.reverse with
 |nil=>rfl
 |cons x l ih=>
  obtain⟨p,o⟩:=x;cases o with
  |none=>exact ih
  |some r=>cases e:t r with|true=>refine ae (GR e) (ae (GR (a:=(p,aa r)) e) ?_);rfl|false=>exact ae (GS (λk=>bb (e.symm.trans k))) (ae (GS (p:=λx:D×Option Ru=>x.2.any t) (a:=(p,aa r)) (λk=>bb (e.symm.trans k))) (ae ih rfl))
theorem Jz(h:fe c x=l)(k:l.length<=aI):EC (.str x) (.str [c])=aa (.list (l.map .str)):=by cases h;exact dU k
theorem Kl(h:(cP s l).length<=aI):pF (.str s) (.list (l.map .str))=aa (.str (cP s l)):=(aj (λo:Option (List Y)=>o.bind λl=>gd ((cP s l).length<=aI) (aa (D.str (cP s l)))) (Q9 l)).trans (dU h)
theorem amX:dh (.list l) (.int 0) .none=aa (.list l):=by show(aa (jV (0:Nat) l.length)).bind (λh=>aa (D.list (lB l h l.length)))=_;refine ae sI ?_;show aa (D.list ((l.take l.length).drop (min 0 l.length)))=_;refine ae kU ?_;rw[Nat.zero_min];rfl
theorem xH(h:∀c∈x,c<128):I7 (.str x)=aa (.bytes x):=dU (ew.mpr λc m=>gN (h c m))
theorem akH{P:Nat->Prop}(a:P 47)(ps:List Y)(h:∀p∈ps,∀c∈p,P c):∀c∈aK ps,P c:=by
 induction ps with
 |nil=>exact aZ
 |cons p ps ih=>refine ae Fh ?_;refine dg (h p (.head _)) ?_;cases ps with|nil=>exact aZ|cons q ps=>exact aQ ⟨a,ih λx m=>h x (.tail _ m)⟩
theorem Pa.wn(h:Pa k ps):∀c∈aK ps,c<128:=akH (eX rfl) ps λp m=>(h.2.2 p m).2.2
theorem Pa.split(h:Pa k ps):fe 47 (aK ps)=ps:=C0 h.1 λp m=>(h.2.2 p m).1.1
theorem V4(h:Pa k ps)(l:k<=7):aV (FN (n+1)) 21 [.str (aK ps),.int 0]=.ok (.str (aK ps)):=
 have b:dh (.list (ps.map .str)) (.int 0) .none=aa (.list (ps.map .str)):=amX;have c:=Kl (aw (dk (h.lt l)) (eX rfl))
 (bc [.p 1 (Jz h.split (aw h.2.1 (aw l (eX rfl)))),.p 1 b,.p 0 c])
theorem adH(h:Po ah x)(p:Pa 7 ps):Rn (λr=>∃e,r=oH G N d a b (aU (aK ps)) e) x.1 (x.2.any (oC ah d ps)) (tn 22 [0,1] (n+7) (oH G N d a b (aU (aK ps)) (.val x.1))):=by obtain⟨x,o⟩:=x;obtain⟨⟨c,⟨j,fo,di,g,i,f,nm,e⟩,_⟩,h,_⟩:=h;cases e;have h:=h n ps d p;revert h;show aV _ _ [pD j fo c di g i f nm,_,_]=.ok (.bool (o.any (oC ah d ps)))->Rn _ (pD j fo c di g i f nm) (o.any (oC ah d ps)) (tn 22 [0,1] (n+7) (oH G N d a b (aU (aK ps)) (.val (pD j fo c di g i f nm))));cases o.any (oC ah d ps)with|true=>exactλh=>.yes ((aX [.q 3 h]):_=Ev.ok (_,oH G N d a b (aU (aK ps)) (.val (pD j fo c di g i f nm))))|false=>exactλh=>.no (r:=oH G N d a b (aU (aK ps)) (.val (pD j fo c di g i f nm))) ⟨_,rfl⟩ ((aX [.q 3 h]))
end
section
variable{l:List (D×Option Ru)}
theorem Km:aV (FN (n+1)) 26 [fD ah l]=.ok (.list (l.map λx=>x.1)):=bc []
theorem akI(h:∀x∈l,Po ah x)(e:(l.reverse.find? λx=>x.2.any t)=o):∀x,o=aa x->Gy x.2 x.1:=λx k=>by cases k;have m:=h x (kV.mp (Z1 e));obtain⟨x,o⟩:=x;cases o with|none=>cases(Hx e)|some r=>exact m.1.elim λa z=>(aj (λb=>Nc b x) (z.2 r rfl)).mp z.1
def DP:=λn ah d l ps=>(∀(h:∀x∈l,Po ah x) (p:Pa 7 ps),∃v,aV (FN (n+9)) 22 [gD ah l,.str (aK ps),.bool d]=.ok v/\Gy (gU ah (dR l) ps d) v:Prop)
def zW:=p8 DP (aO nI (aO nI (aO nI (aO nI nI))))
def sH:=zW.1
def jL:=zW.2.1
def qQ:=zW.2.2.1
def jP:=zW.2.2.2.1
def nF:=zW.2.2.2.2
theorem adI:DP sH jL qQ jP nF:=λh p=>by have g:=Rq.find (bd:=iw ag [6]) (I:=λr=>∃e,r=oH (gD jL jP) (aK nF) qQ (ar 0) (.val (fD jL jP)) (aU (aK nF)) e) jP.reverse (λx m r i=>i.elim λe i=>⟨_,by refine ae i ?_;rfl,adH (n:=sH+1) (h x (kV.mp m)) p⟩) ⟨.U,rfl⟩;have a:=akI (t:=oC jL qQ nF) h rfl;unfold gU;refine ae UE ?_;rw[zn]at g;have r:=V4 (n:=sH+7) p (bO 7);have q:=Km (n:=sH+7) (ah:=jL) (l:=jP);revert g a;cases jP.reverse.find? λx=>x.2.any (oC jL qQ nF)with|none=>rintro⟨_,⟨e,rfl⟩,g⟩ _;have o:tn 22 [0] (sH+8) (oH (gD jL jP) (aK nF) qQ (ar 0) (.val (fD jL jP)) .U .U)=.ok (.next,oH (gD jL jP) (aK nF) qQ (ar 0) (.val (fD jL jP)) (aU (aK nF)) e):=aX [.q 2 r,.p 0 (xH p.wn),.q 1 q,.l 1 g];exact⟨_,(bc [.l 2 ((show lf 22 [0] (sH+8) af [3,4] [.tup [.int 0,fD jL jP]] (oH (gD jL jP) (aK nF) qQ .U .U .U .U)=_ from er rfl o rfl))]),rfl⟩|some x=>rintro⟨y,g⟩ a;have o:tn 22 [0] (sH+8) (oH (gD jL jP) (aK nF) qQ (ar 0) (.val (fD jL jP)) .U .U)=.ok (.ret x.1,y):=aX [.q 2 r,.p 0 (xH p.wn),.q 1 q,.l 1 g];exact⟨_,(bc [.l 2 ((show lf 22 [0] (sH+8) af [3,4] [.tup [.int 0,fD jL jP]] (oH (gD jL jP) (aK nF) qQ .U .U .U .U)=_ from Ax rfl o))]),a x rfl⟩
theorem Kn{n ah d l ps}:DP n ah d l ps:=Bp DP adI
theorem ahW(h:Po ah x)(p:Pa 6 ps)(u:x.2.any (kQ ah ps)=ag):Rn (λr=>∃e,r=qj G N a b (aU (aK ps)) e) (.bool (mi x.2)) (x.2.any (oD ah ps)) (tn 24 [0,1] (n+8) (qj G N a b (aU (aK ps)) (.val x.1))):=by
 obtain⟨x,o⟩:=x;obtain⟨⟨c,⟨i,fo,di,f,g,d,nm,e⟩,k⟩,_,h⟩:=h;cases e;have h:=h n ps p u;revert h;cases e:o.any (oD ah ps)with
 |true=>
  exact ae (show mi o=c by
   cases o with
   |none=>cases e
   |some r=>exact(k r rfl).symm) (λh=>.yes ((aX [.q 2 h]):_=Ev.ok (_,qj G N a b (aU (aK ps)) (.val (pD i fo c di f g d nm)))))
 |false=>exactλh=>.no (r:=qj G N a b (aU (aK ps)) (.val (pD i fo c di f g d nm))) ⟨_,rfl⟩ ((aX [.q 2 h]))
theorem ahX(o:Option Ru):o.any (λr=>!r.1)=mi o:=by cases o<;>rfl
def Es:=λn ah l ps=>(∀(h:∀x∈l,Po ah x) (p:Pa 6 ps) (u:(dR l).any (kQ ah ps)=ag),aV (FN (n+10)) 24 [gD ah l,.str (aK ps)]=.ok (.bool (ui ah (dR l) ps)):Prop)
def Et:=mo Es (aO nI (aO nI (aO nI nI)))
def sV:=Et.1
def jN:=Et.2.1
def jj:=Et.2.2.1
def nM:=Et.2.2.2
theorem ahY:Es sV jN jj nM:=λh p u=>by
 have u:∀x∈jj,x.2.any (kQ jN nM)=ag:=λx m=>by cases e:x.2 with|none=>rfl|some r=>exact(afK _).mp (OD.mp u r (kV.mpr (Ox.mpr ⟨x,m,e⟩)))
 have g:=Rq.find (bd:=iw ag [5]) (I:=λr=>∃e,r=qj (gD jN jj) (aK nM) (ar 0) (.val (fD jN jj)) (aU (aK nM)) e) jj.reverse (λx m r i=>i.elim λe i=>⟨_,by refine ae i ?_;rfl,ahW (n:=sV+1) (h x (kV.mp m)) p (u x (kV.mp m))⟩) ⟨.U,rfl⟩;unfold ui;rw[ahX];refine ae UE ?_;rw[zn]at g;have r:=V4 (n:=sV+8) p (eX rfl);have q:=Km (n:=sV+8) (ah:=jN) (l:=jj);revert g;cases jj.reverse.find? λx=>x.2.any (oD jN nM)with|none=>rintro⟨_,⟨e,rfl⟩,g⟩;have o:tn 24 [0] (sV+9) (qj (gD jN jj) (aK nM) (ar 0) (.val (fD jN jj)) .U .U)=.ok (.next,qj (gD jN jj) (aK nM) (ar 0) (.val (fD jN jj)) (aU (aK nM)) e):=aX [.q 2 r,.p 0 (xH p.wn),.q 1 q,.l 1 g];exact bc [.l 2 ((show lf 24 [0] (sV+9) af [2,3] [.tup [.int 0,fD jN jj]] (qj (gD jN jj) (aK nM) .U .U .U .U)=_ from er rfl o rfl))]|some x=>rintro⟨y,g⟩;have o:tn 24 [0] (sV+9) (qj (gD jN jj) (aK nM) (ar 0) (.val (fD jN jj)) .U .U)=.ok (.ret (.bool (mi x.2)),y):=aX [.q 2 r,.p 0 (xH p.wn),.q 1 q,.l 1 g];exact bc [.l 2 ((show lf 24 [0] (sV+9) af [2,3] [.tup [.int 0,fD jN jj]] (qj (gD jN jj) (aK nM) .U .U .U .U)=_ from Ax rfl o))]
theorem aoF{n ah l ps}:Es n ah l ps:=rH Es ahY
end
def pt(ps:List Y)(s:Bool):Y:=aK ps++cond s [47] []
noncomputable def sD(ps:List Y):D:=.list (ps.map .str)
noncomputable def yT(L:D)(T N:Y)(d:Bool)(P:D)(i p q f:AV):Rh:=[.val L,j5 T,aR d,j5 N,.val P,i,p,q,f]
noncomputable def yU(L:D)(T N:Y)(P:D)(i p q:AV):Rh:=[.val L,j5 T,j5 N,.val P,i,p,q]
section
variable{T:Y}
theorem Pa.take(h:Pa m ps)(k0:0<k):Pa m (ps.take k):=⟨λe=>(acn.mp e).elim (λe=>jI 0 (e▸k0)) h.1,aw (ww ..) h.2.1,λp m=>h.2.2 p (rY m)⟩
theorem Pa.last(h:Pa m ps):(aK ps).getLast?≠aa 47:=by obtain⟨a,_,h⟩:=h;cases ps with|nil=>exact aC rfl a|cons p ps=>exact Eo ps λx m=>⟨(h x m).1.2,λe=>(h x m).1.1 (acl e)⟩
theorem K2(h:Pa m ps):I8 (.str (pt ps s)) (.str [47])=aa (.str (aK ps)):=aj (λy=>aa (D.str y)) (by
 unfold pt;cases s with
 |true=>exact(Ep h.last).2
 |false=>exact(aj (fw [47]) (bu _)).trans (Ep h.last).1)
theorem K3(h:Pa m ps):Kz (.str (pt ps s)) (.str [47])=aa (.bool s):=aj (λy=>aa (D.bool y)) (by
 unfold pt;cases s with
 |true=>exact nh.mpr ⟨_,rfl⟩
 |false=>exact(aj ([47]).isSuffixOf (bu _)).trans (Ke h.last))
theorem UF{k:Nat}(h:k<100000):dh (sD ps) .none (.int k)=aa (sD (ps.take k)):=(sU h).trans (aj (λl=>aa (D.list l)) (oW ..).symm)
theorem Pa.add(h:Pa m ps)(l:m<=7):c6 (.str (aK ps)) (.str [47])=aa (.str (aK ps++[47])):=dU (aw (eW (dk (h.lt l)) 1) (eX rfl))
theorem Pa.Nd(h:Pa m ps)(l:m<=7):pF (.str [47]) (sD ps)=aa (.str (aK ps)):=Kl (aw (dk (h.lt l)) (eX rfl))
theorem Gy.go{C:Prop}(h:Gy o v)(d:v=.none->o=ak->C)(c:∀bh fo ng di b ds a nm r,v=pD bh fo (!ng) di b ds a nm->o=aa (ng,r)->C):C:=by cases o with|none=>exact d h rfl|some r=>obtain⟨bh,fo,di,b,ds,a,nm,e⟩:=h;exact c bh fo r.1 di b ds a nm r.2 e rfl
theorem afs(h:∀x∈l,Po ah x)(p:Pa 7 ps)(k0:0<k)(w:k<100000):Rn (λr=>∃a b c,r=yT (.lam (fD ah l)) T N d (sD ps) a b c .U) (.bool af) (mi (gU ah (dR l) (ps.take k) af)) (tn 23 [2] (n+9) (yT (.lam (fD ah l)) T N d (sD ps) (ar k) a b .U)):=by
 have q:=p.take k0;have i:=UF (ps:=ps) w;have f:=q.Nd (bO 7);have e:=q.add (bO 7);obtain⟨v,g,y⟩:=Kn (n:=n) h q;refine y.go (λs o=>?_) λu fo ng di m t j nm r s o=>?_<;>refine ae o ?_<;>have g:=s▸g
 ·exact .no (r:=yT (.lam (fD ah l)) T N d (sD ps) (ar k) (j5 (aK (ps.take k))) (.val .none) .U) ⟨_,_,_,rfl⟩ ((aX [.p 2 i,.p 0 f,.p 2 e,.q 1 g]))
 ·cases ng with|true=>exact .no (r:=yT (.lam (fD ah l)) T N d (sD ps) (ar k) (j5 (aK (ps.take k))) (.val (pD u fo ag di m t j nm)) .U) ⟨_,_,_,rfl⟩ ((aX [.p 2 i,.p 0 f,.p 2 e,.q 1 g]))|false=>exact .yes (r:=yT (.lam (fD ah l)) T N d (sD ps) (ar k) (j5 (aK (ps.take k))) (.val (pD u fo af di m t j nm)) .U) ((aX [.p 2 i,.p 0 f,.p 2 e,.q 1 g]))
theorem aft(h:∀x∈l,Po ah x)(p:Pa 7 ps)(k0:0<k)(u:k<100000):Rn (λr=>∃a b c,r=yU (.lam (fD ah l)) T N (sD ps) a b c) (.bool af) (mi (gU ah (dR l) (ps.take k) af)) (tn 25 [2] (n+9) (yU (.lam (fD ah l)) T N (sD ps) (ar k) a b)):=by
 have q:=p.take k0;have f:=UF (ps:=ps) u;have e:=q.Nd (bO 7);have d:=q.add (bO 7);obtain⟨v,g,w⟩:=Kn (n:=n) h q;refine w.go (λo m=>?_) λt fo ng di j s i nm r o m=>?_<;>refine ae m ?_<;>have g:=o▸g
 ·exact .no (r:=yU (.lam (fD ah l)) T N (sD ps) (ar k) (j5 (aK (ps.take k))) (.val .none)) ⟨_,_,_,rfl⟩ ((aX [.p 2 f,.p 0 e,.p 2 d,.q 1 g]))
 ·cases ng with|true=>exact .no (r:=yU (.lam (fD ah l)) T N (sD ps) (ar k) (j5 (aK (ps.take k))) (.val (pD t fo ag di j s i nm))) ⟨_,_,_,rfl⟩ ((aX [.p 2 f,.p 0 e,.p 2 d,.q 1 g]))|false=>exact .yes (r:=yU (.lam (fD ah l)) T N (sD ps) (ar k) (j5 (aK (ps.take k))) (.val (pD t fo af di j s i nm))) ((aX [.p 2 f,.p 0 e,.p 2 d,.q 1 g]))
end
noncomputable def aD(oct:Bool)(t:Y):D:=cond oct (.bytes t) (.str t)
section
variable{ps:List Y}
theorem ET:(ps.map D.str).length=ps.length:=aW ..
theorem amY(a:List Ru)(h:ps≠[]):jC ah a ps.dropLast=(gh 1 ps.length).any λk=>mi (gU ah a (ps.take k) af):=by unfold jC;exact ae Ca (ae (adY (zf.mpr h)) (zU λk m=>ae B4 (ae List.take_take (ae (nw (Nat.le_sub_one_of_lt (pA.mp m).2)) rfl))))
theorem UG(st:∀k:Nat,0<k->k<100->∀r,I r->∃a,bd (.int k) r=aa a/\Rn I (.bool af) (t k) (f a))(b:j<100)(i:I r):Rn I (.bool af) ((gh 1 j).any t) (fo bd f (il (gh 1 j)) r):=Rn.any (gh 1 j) (λk m r=>st k (pA.mp m).1 (bX (pA.mp m).2 b) r) i
def Dt:=λn ah s l ps=>(∀(h:∀x∈l,Po ah x) (p:Pa 7 ps),aV (FN (n+10)) 25 [.lam (fD ah l),.str (pt ps s)]=.ok (.bool (jC ah (dR l) ps)):Prop)
def zK:=p8 Dt (aO nI (aO nI (aO nI (aO nI nI))))
def Qh:=zK.1
def CT:=zK.2.1
def DQ:=zK.2.2.1
def DR:=zK.2.2.2.1
def sy:=zK.2.2.2.2
theorem ab5:Dt Qh CT DQ DR sy:=λh p=>by have e:=Jz p.split (aw p.2.1 (eX rfl));have d:=AC (c8 (cy _)) (bn (c8 p.2.1) (eX rfl));have d:=ET.symm▸d;have g:=UG (bd:=iw ag [4]) (f:=tn 25 [2] (Qh+9)) (I:=λr=>∃a b c,r=yU (.lam (fD CT DR)) (pt sy DQ) (aK sy) (sD sy) a b c) (λk k0 (j) r i=>i.elim λa i=>i.elim λb i=>i.elim λc i=>⟨_,by refine ae i ?_;rfl,aft (a:=b) (b:=c) h p k0 (bX j (eX rfl))⟩) (bn (c8 p.2.1) (eX rfl)) ⟨.U,.U,.U,rfl⟩;rw[show il (gh 1 (sy.length+1))=il (gh 1 ((sy.map D.str).length+1)) by rw[ET]]at g;revert g;show Rn _ _ (jC CT (dR DR) sy) _->_;cases jC CT (dR DR) sy with|true=>rintro⟨r,g⟩;exact bc [.p 1 (K2 (s:=DQ) p),.p 1 e,.p 3 d,.l 0 g]|false=>rintro⟨_,⟨a,b,c,rfl⟩,g⟩;exact bc [.p 1 (K2 (s:=DQ) p),.p 1 e,.p 3 d,.l 0 g]
theorem ahZ{n ah s l ps}:Dt n ah s l ps:=Bp Dt ab5
def D5:=λ(n:Nat) (ah:Bool) (l:List (D×Option Ru)) (ps:List Y)=>(∀{d:Bool} (h:∀x∈l,Po ah x) (p:Pa 6 ps) (u:d=af->(dR l).any (kQ ah ps)=ag),aV (FN (n+11)) 23 [.lam (fD ah l),.str (pt ps d),.bool d]=.ok (j0 ah (dR l) ps d):Prop)
def D6:=mo D5 (aO nI (aO nI (aO nI nI)))
def Eu:=D6.1
def zL:=D6.2.1
def Ag:=D6.2.2.1
def qR:=D6.2.2.2
theorem afu:D5 Eu zL Ag qR:=λ{d} h p u=>by
 have w:=K2 (s:=d) p;have t:=Jz p.split (aw p.2.1 (eX rfl));have j:=AC (zf.mpr p.1) (bn p.2.1 (eX rfl));have x:=K3 (s:=d) p;obtain⟨v,o,B⟩:=Kn (n:=Eu+1) h (p.up (m:=7) (eX rfl));have f:=λe=>aoF (n:=Eu) h p (u e);have j:=ET.symm▸j;have g:=UG (bd:=iw ag [5]) (I:=λr=>∃a b c,r=yT (.lam (fD zL Ag)) (pt qR d) (aK qR) d (sD qR) a b c .U) (λk k0 (A) r i=>i.elim λa i=>i.elim λb i=>i.elim λc i=>⟨_,by refine ae i ?_;rfl,afs (a:=b) (b:=c) (n:=Eu+1) h (p.up (m:=7) (eX rfl)) k0 (bX A (eX rfl))⟩) (bn p.2.1 (eX rfl)) ⟨.U,.U,.U,rfl⟩;rw[show il (gh 1 qR.length)=il (gh 1 (qR.map D.str).length) by rw[ET],<-amY _ p.1]at g;unfold j0;rw[Bool.or_left_comm];revert g;cases jC zL (dR Ag) qR.dropLast with
 |true=>rintro⟨r,g⟩;exact bc [.p 1 w,.p 1 t,.p 2 j,.l 0 g]
 |false=>
  rintro⟨_,⟨a,b,c,rfl⟩,g⟩;refine B.go (λz y=>?_) λG fo ng di E F C nm r z y=>?_<;>refine ae y ?_<;>rw[z]at o
  ·cases d with
   |false=>exact bc [.p 1 w,.p 1 t,.p 2 j,.l 0 g,.q 5 o,.p 3 x]
   |true=>have f:=f rfl;revert f;cases ui zL (dR Ag) qR with|true=>exactλf=>(bc [.p 1 w,.p 1 t,.p 2 j,.l 0 g,.q 5 o,.p 3 x,.q 3 f])|false=>exactλf=>(bc [.p 1 w,.p 1 t,.p 2 j,.l 0 g,.q 5 o,.p 3 x,.q 3 f])
  ·cases ng with
   |false=>exact bc [.p 1 w,.p 1 t,.p 2 j,.l 0 g,.q 5 o]
   |true=>cases d with
    |false=>exact bc [.p 1 w,.p 1 t,.p 2 j,.l 0 g,.q 5 o,.p 6 x]
    |true=>have f:=f rfl;revert f;cases ui zL (dR Ag) qR with|true=>exactλf=>(bc [.p 1 w,.p 1 t,.p 2 j,.l 0 g,.q 5 o,.p 6 x,.q 3 f])|false=>exactλf=>(bc [.p 1 w,.p 1 t,.p 2 j,.l 0 g,.q 5 o,.p 6 x,.q 3 f])
theorem amZ{n ah l ps}:D5 n ah l ps:=@rH _ _ _ _ D5 _ @afu n ah l ps
theorem UH(p:Pa m ps):ascii (pt ps s)=af:=ew.mpr λc k=>gN ((kW.mp k).elim (p.wn c) λk=>by
 cases s with
 |true=>refine ae (bB.mp k) ?_;decide
 |false=>cases k)
theorem akJ:X.plain (j0 ah bT ps d)=.ok (j0 ah bT ps d):=by unfold j0;cases mi (gU ah bT ps d)||(jC ah bT ps.dropLast||(d&&ui ah bT ps))<;>cases(gU ah bT ps d).isNone<;>rfl
theorem K4(h:∀x∈l,Po ah x)(p:Pa 6 ps)(u:d=af->(dR l).any (kQ ah ps)=ag):aV (FN (n+12)) 27 [fD ah l,aD oct (pt ps d)]=.ok (j0 ah (dR l) ps d):=by have a:Eb (.bytes (pt ps d))=aa (.str (pt ps d)):=dU (UH p);have b:(aV (FN (n+11)) 23 [.lam (fD ah l),.str (pt ps d),.bool d]).bind X.plain=.ok (j0 ah (dR l) ps d):=ae (amZ h p u) akJ;cases oct with|true=>exact bc [.p 4 a,.p 3 (K3 (s:=d) p),.q 0 b]|false=>exact bc [.p 6 (K3 (s:=d) p),.q 0 b]
theorem V5(h:∀x∈l,Po ah x)(p:Pa 7 ps):aV (FN (n+11)) 28 [fD ah l,aD oct (pt ps s)]=.ok (.bool (jC ah (dR l) ps)):=by
 have a:Eb (.bytes (pt ps s))=aa (.str (pt ps s)):=dU (UH p);have b:(aV (FN (n+10)) 25 [.lam (fD ah l),.str (pt ps s)]).bind X.plain=.ok (.bool (jC ah (dR l) ps)):=by refine ae (ahZ h p) ?_;rfl
 cases oct with|true=>exact bc [.p 4 a,.q 2 b]|false=>exact bc [.q 5 b]
end
noncomputable def XA(a:Ev D)(i:Nat)(r:Rh):Ev Os:=match a with|.ok d=>.ok (.next,r.set i (.val d))|.exc=>.ok (.ret .none,r)|.no=>.no
noncomputable def yV(bh:Y)(ah:Bool)(ds:List D)(c:AV):Rh:=[.U,aU bh,.da ds,aR ah,.val .none,c]
noncomputable def rR(ai:D)(ah:Bool)(ds:List D)(c:AV):Rh:=[.U,.val ai,aR ah,.val .none,.own ds,aR ah,.val .none,c]
def Lw(n:Nat)(ah:Bool)(x:Y×Option (D×Option Ru)):Prop:=dP x.2 (fA (FN n) 240 49 3 [.bytes x.1,.bool ah]=.exc) λp=>fA (FN n) 240 49 3 [.bytes x.1,.bool ah]=.ok p.1/\Po ah p
noncomputable def kF(a:List (Y×Option (D×Option Ru))):List (D×Option Ru):=a.filterMap λx=>x.2
section
theorem akK(h:fA (FN n) 240 49 3 [.bytes bh,.bool ah]=.ok p)(a:ds.length<aI):FN (n+1) 51 [.U,aU bh,.da ds,aR ah,.val .none]=.ok (.next,yV bh ah (ds++[p]) (.val p)):=by
 have t:XA (Tr.q (fA (FN n) 240 49 3 [.bytes bh,.bool ah]) Tr.ret).run 5 (yV bh ah ds .U)=.ok (.next,yV bh ah ds (.val p)):=by refine ae h ?_;rfl
 exact(Fg (by kernel_rfl)).trans (aX [.l 0 t,.b 1 ((dU a:gd (ds.length<aI) (aa af)=aa af))])
theorem am0(h:fA (FN n) 240 49 3 [.bytes bh,.bool ah]=.exc):FN (n+1) 51 [.U,aU bh,.da ds,aR ah,.val .none]=.ok (.ret .none,yV bh ah ds .U):=by
 have t:XA (Tr.q (fA (FN n) 240 49 3 [.bytes bh,.bool ah]) Tr.ret).run 5 (yV bh ah ds .U)=.ok (.ret .none,yV bh ah ds .U):=by refine ae h ?_;rfl
 exact(Fg (by kernel_rfl)).trans (aX [.l 0 t])
theorem afv(h:Lw n ah x)(d:ds.length<aI):∃c,tn 50 [3] (n+1) (rR ai ah ds (aU x.1))=.ok (.next,rR ai ah (ds++(kF [x]).map λx=>x.1) c):=by
 obtain⟨b,o⟩:=x;cases o with
 |none=>
  have a:=am0 (ds:=ds) h;have t:T.s7 af (FN (n+1)) 51 [.U,aU b] [4,5,6] (rR ai ah ds (aU b))=.ok (.ret .none,rR ai ah ds (aU b)):=by show((FN (n+1) 51 [.U,aU b,.da ds,aR ah,.val .none]).bind _).bind _=_;refine ae a ?_;rfl
  exact⟨aU b,by refine ae (show(kF [(b,ak)]).map (λx=>x.1)=[]from rfl) ?_;simp only [bu];exact(aX [.l 1 t])⟩
 |some p=>
  have t:T.s7 af (FN (n+1)) 51 [.U,aU b] [4,5,6] (rR ai ah ds (aU b))=.ok (.ret .none,rR ai ah (ds++[p.1]) (aU b)):=by show((FN (n+1) 51 [.U,aU b,.da ds,aR ah,.val .none]).bind _).bind _=_;refine ae (akK h.1 d) ?_;rfl
  exact⟨aU b,(aX [.l 1 t])⟩
theorem afw(a:List (Y×Option (D×Option Ru))):∀{ds c},(∀x∈a,Lw n ah x)->ds.length+a.length<=aI->∃d,lf 50 [3] (n+1) ag [7] (a.map λx=>.bytes x.1) (rR ai ah ds c)=.ok (.next,rR ai ah (ds++(kF a).map λx=>x.1) d):=by induction a with|nil=>exactλ{ds c} z z=>⟨c,by refine ae (show(kF []).map (λx=>x.1)=[]from rfl) ?_;rw[bu];rfl⟩|cons x a ih=>intro ds c h l;obtain⟨f,t⟩:=afv (h x (.head _)) (jb (zb (iD _)) l);obtain⟨b,e⟩:=ih (ds:=ds++(kF [x]).map λx=>x.1) (λy m=>h y (.tail _ m)) (by refine ae aS ?_;rw[aW];exact aw (eW (eJ (GO ..) _) _) (aw (cJ ((fG ..).trans (aj (ds.length+·) (gn 1 a.length)))) l));refine⟨b,er rfl t ?_⟩;refine ae (show kF (x::a)=kF [x]++kF a from GU (l:=[x])) ?_;rw[cU,<-bg];exact e
theorem am1(h:∀x∈ls,Lw n ah x)(l:ls.length<=1000):fA (FN (n+2)) 333 50 4 [.list (ls.map λx=>.bytes x.1),.bool ah]=.ok (fD ah (kF ls)):=by refine(afw (ai:=.list (ls.map λx=>.bytes x.1)) ls (c:=.U) h (by refine ae wE ?_;rw[dD];exact aw l (eX rfl))).elim λc t=>?_;simp only [uF]at t;exact KZ (by kernel_rfl) (r:=rR (.list (ls.map λx=>.bytes x.1)) ah ((kF ls).map λx=>x.1) c) (aX [.l 4 t]) rfl
end
section
theorem akL(h:o≠47)(y:Int):cv [(o,o)] y=(!decide (y=47)&&cv [(o,o)] y):=by
 by_cases e:y=47
 ·refine ae e (ae (show cv [(o,o)] 47=ag from gL.mpr λk=>by
   rw[show cv [(o,o)] 47=(bw o 47 o||ag)from rfl,qC]at k;have z:=(eg _ _).mp k;exact h (CX (aiv (eX z.1) (eX z.2)))) ?_)
  rfl
 ·refine ae (lQ e) ?_;rfl
theorem SU(b:o<256)(h:o≠47):∃p,kO 2 (gE o) p λah=>qg ah ag [(o,o)]:=by have r:∀{ah nm},Ok nm->∀{n},∃R,nS (n+2) ah nm og (f9 ag [(o,o)]) R/\∀s u,m8 af af R s u↔qg ah ag [(o,o)] s u:=λa=>⟨_,w6 a,λs u=>Ad.trans (Jm (akL h))⟩;unfold gE;cases e:yJ.contains o with|true=>exact⟨_,λn=>⟨ir.of (ae2 (ky (l:=[90]) (gL.mpr λz=>by have e:=(bB.mp (ed.mp z))▸e;cases e) rfl)) xD ⟨92,_,rfl,eX rfl⟩,λah nm a=>r a⟩⟩|false=>exact⟨_,λn=>⟨ir.of (IP (ky e rfl) (ky e rfl) (ky e rfl) (ky e rfl)) xD ⟨o,_,rfl,ky e rfl,b,AD λm=>bb (e.symm.trans (ed.mpr ((by decide:∀x∈([42,43,63]),x∈yJ) o m)))⟩,λah nm a=>r a⟩⟩
theorem Ko(a:o<256)(h:([42,63,92,91,47]:Y).contains o=ag):pW [o] ag [(o,o)]:=(SU a (ky h rfl)).elim λp z=>⟨(_,p),z,λn=>⟨ahh a (AD λm=>bb (h.symm.trans (ed.mpr (ke [47] m)))),xa (AD λm=>bb (h.symm.trans (ed.mpr ((by decide:∀x∈([92,91,47]),x∈([42,63,92,91,47])) o m))))⟩,
 ⟨⟨o,[],rfl,ky h rfl⟩,cH rfl,.of λm=>ky h rfl (bB.mp m).symm⟩,aw (sG o) (eX rfl)⟩
theorem akM(a:o<256)(h:o≠47):pW [92,o] ag [(o,o)]:=(SU a h).elim λp z=>⟨(_,p),z,λn=>⟨ahi a,ahm⟩,
 ⟨⟨92,[o],rfl,eX rfl⟩,cH rfl,.of λm=>(ch.mp m).elim (λe=>nomatch e) λm=>h (bB.mp m).symm⟩,aw (sG o) (eX rfl)⟩
theorem akN:pW [63] af []:=(Sv (R:=[]) rfl aZ (eX rfl) λy=>(wH _).symm).elim λp z=>⟨(_,p),z,λn=>⟨ahj,xa rfl⟩,⟨⟨63,[],rfl,eX rfl⟩,eX rfl,.of (eX rfl)⟩,cH rfl⟩
theorem akO(hb:∀n,Bd (n+2) body a k)(d:Sq body R a k ps)(hh:∃c r,body=c::r/\([33,94]:Y).contains c=ag)(g:body.length<30)(hs:BS sT ng)(i:42∉body):pW (91::(sT++(body++[93]))) ng R:=by
 have l:=aw d.2.2.2.2.2.1 (dk g);have lp:(ue a ps).length<=90:=by unfold ue;refine ae aS ?_;rw[aW];exact aw (dz (aw (nL J9 a) (dy 2 l)) (aw d.2.2.2.2.2.2.1 (dk g))) (eX rfl)
 obtain⟨p,z⟩:=Sv (B:=kD a++k.flatten) (ae akb (ae d.1.1 rfl)) (aka d.2.1) (bn (c8 lp) (eX rfl)) λy=>d.cv;have j:sT.length<=1/\42∉sT:=hs.elim (λz=>ae z.1 (eX rfl)) λz=>z.1.elim (λz=>ae z (eX rfl)) λz=>ae z (eX rfl);have br:∀n,FV (n+3) (sT++(body++[93])) (vM ng (kD a++k.flatten)):=λn=>adh (hb n) d hh (bX g (eX rfl)) hs;refine⟨(vM ng (kD a++k.flatten),p),z,λn=>⟨ahk (br n),ahn (br n)⟩,⟨⟨91,_,rfl,eX rfl⟩,?_,.br ?_ λa b e f=>?_⟩,?_⟩
 ·exact ae eY (ae aS (ae aS (c8 (aw (dz j.1 (Nat.succ_le_of_lt g)) (eX rfl)))))
 ·rw[<-bg];refine ae (wy) ?_;exact nofun
 ·have m:42∈sT++(body++[93]):=by
   refine ae e ?_;cases b with|nil=>cases f|cons x b=>cases f;exact fF a (.tail _ (.head _))
  exact(kW.mp m).elim j.2 λm=>(kW.mp m).elim i λm=>nomatch bB.mp m
 ·have r:(kD a++k.flatten).length<=360:=by
   exact ae aS (aw (dz (aw (Ss a) (dy 5 (dy 2 l))) (aw d.2.2.2.2.2.2.2 (dy 2 (dk g)))) (eX rfl))
  generalize kD a++k.flatten=B at r;have s:∀q:Y,q.length<=3->(q++B++[93]).length<=500:=λq h=>by exact ae aS (ae aS (aw (eW (dz h r) 1) (eX rfl)))
  show(vM ng B).length<=500;unfold vM;cases ng with
  |true=>exact s [91,94,47] (eX rfl)
  |false=>cases B with|nil=>decide|cons c B=>exact s [91] (eX rfl)
end
def rp(F:List Nat):Prop:=F.length<=1000/\∀c∈F,c<128/\c≠47
def Sg(e:E):Prop:=E.Good e/\(e.1=[92,32]\/∀c∈e.1,33<=c)/\(∃c r,e.1=c::r/\c≠33/\c≠35/\(c=92->∃o,r=[o]/\(o=33\/o=35->e.2.1=ag/\pW [o] e.2.2.1 e.2.2.2.1)))/\e.2.2.2.1.length<=1000/\rp e.2.2.2.2
noncomputable def yb(T:Y)(o:Nat):E:=(T,ag,ag,[(o,o)],[o])
noncomputable def Bj:List (Y×Nat):=[([97],97),([98],98),([120],120),([46],46),([66],66),([43],43),([45],45),([93],93),([40],40),([36],36),([94],94),([55],55),([92,42],42),([92,63],63),([92,91],91),([92,92],92),([92,97],97),([92,33],33),([92,35],35),([92,32],32),([41],41)]
noncomputable def tO:List Nat:=[97,98,46,45,93,55,122,32,120,9,66]
noncomputable def YT(x:Y×Nat):D:=.tup [.bytes x.1,.int x.2]
section
variable{T:Y}
theorem K5(h:o<128)(k:o≠47):rp [o]:=⟨cH rfl,aQ ⟨⟨h,k⟩,aZ⟩⟩
theorem vy(h:T≠[92,32]):rT T=T:=aj (λb=>cond b [32] T) (fX h)
theorem aoG(h:o<128/\36<=o/\([42,63,92,91,47]:Y).contains o=ag):Sg (yb [o] o):=⟨(aj (λT=>pW T ag [(o,o)]) (vy (T:=[o]) λe=>b4 ((bD e).2))).mpr (Ko (bX h.1 (eX rfl)) h.2.2),.inr (aQ ⟨aw (eX rfl) h.2.1,aZ⟩),⟨o,[],rfl,λe=>aC (e▸h.2.1) (eX rfl),λe=>aC (e▸h.2.1) (eX rfl),λe=>aC e (ky h.2.2 rfl)⟩,cH rfl,K5 h.1 (ky h.2.2 rfl)⟩
theorem aoH(h:o<128/\33<=o/\([42,63,92,91,47]:Y).contains 47=af/\o≠47):Sg (yb [92,o] o):=by
 have b:o<256:=bX h.1 (eX rfl);refine⟨?_,.inr (aQ ⟨eX rfl,aQ ⟨h.2.1,aZ⟩⟩),⟨92,[o],rfl,eX rfl,eX rfl,λx=>⟨o,rfl,λz=>⟨rfl,Ko b ?_⟩⟩⟩,cH rfl,K5 h.1 h.2.2.2⟩
 ·show pW (rT [92,o]) ag [(o,o)];exact ae (vy λe=>aC ((bD (bD e).2).1▸h.2.1) (eX rfl)) (akM b h.2.2.2)
 ·obtain rfl|rfl:=z<;>rfl
theorem aoI:Sg (yb [92,32] 32):=⟨(Ko (eX rfl) rfl),.inl rfl,⟨92,[32],rfl,eX rfl,eX rfl,λx=>⟨32,rfl,nofun⟩⟩,eX rfl,K5 (eX rfl) (eX rfl)⟩
theorem akP:∀x∈Bj,Sg (yb x.1 x.2):=by
 have h:∀x∈Bj,(x.1=[x.2]/\x.2<128/\36<=x.2/\([42,63,92,91,47]).contains x.2=ag)\/(x.1=[92,x.2]/\x.2<128/\33<=x.2/\([42,63,92,91,47]).contains 47=af/\x.2≠47)\/x=([92,32],32):=by unfold Bj;decide+kernel
 exactλx m=>(h x m).elim (λz=>ae z.1 (aoG z.2)) λz=>z.elim (λz=>ae z.1 (aoH z.2)) λz=>ae z aoI
theorem Kq:∀c∈tO,c<128/\c≠47:=by unfold tO;decide
theorem akQ:Sg ([63],ag,af,[],tO):=⟨akN,.inr (eX rfl),⟨63,[],rfl,eX rfl,eX rfl,nofun⟩,eX rfl,cH rfl,Kq⟩
theorem SW(b:Bool):Sg (cond b [42,42] [42],af,af,[],[]):=by cases b with|true=>exact⟨.inr rfl,.inr (show∀c∈([42,42]),33<=c by decide),⟨42,[42],rfl,eX rfl,eX rfl,nofun⟩,cy _,cy _,aZ⟩|false=>exact⟨.inl rfl,.inr (show∀c∈([42]),33<=c by decide),⟨42,[],rfl,eX rfl,eX rfl,nofun⟩,cy _,cy _,aZ⟩
noncomputable def xI:List (Y×List (Nat×Nat)):=[([],[]),([45],[(45,45)]),([91,58],[(91,91),(58,58)])]
theorem ah0:∀x∈xI,∀n,Ls (n+1) x.1 x.2:=aQ ⟨λn=>Ls.nil,aQ ⟨λn=>Ls.dash,aQ ⟨λn=>Ls.open,aZ⟩⟩⟩
def Io(m k:Nat)(e:Y)(R:List (Nat×Nat)):Prop:=(∀c∈e,33<=c/\c≠42)/\e.length<=m/\R.length<=k/\(∀x∈R,x.1<128/\x.2<128)
theorem AF:∀x∈tA,Io 11 4 x.1 x.2/\x.1≠[]/\∃c r,x.1=c::r/\([33,94]:Y).contains c=ag:=by
 have h:∀x∈tA,((∀c∈x.1,33<=c/\c≠42)/\x.1.length<=11/\x.2.length<=4/\∀y∈x.2,y.1<128/\y.2<128)/\x.1≠[]/\([33,94]).contains (x.1.headD 0)=ag:=by unfold tA;decide+kernel
 intro x m;have z:=h x m;refine⟨z.1,z.2.1,?_⟩;obtain⟨e,R⟩:=x;cases e with|nil=>exact aC rfl z.2.1|cons c r=>exact⟨c,r,rfl,z.2.2⟩
theorem SY:∀x∈xI,Io 2 2 x.1 x.2:=by unfold xI Io;decide
theorem Io.app(h:Io m k e R)(a:Io m' k' e' R'):Io (m+m') (k+k') (e++e') (R++R'):=⟨dg h.1 a.1,ae aS (dz h.2.1 a.2.1),ae aS (dz h.2.2.1 a.2.2.1),dg h.2.2.2 a.2.2.2⟩
def yo(e:Y)(R:List (Nat×Nat)):Prop:=Io 23 9 e R/\(∃c r,e=c::r/\([33,94]:Y).contains c=ag)/\∀l b,(∀n,Ls (n+1) l b)->Sq l b b [] []->∃a k ps,(∀n,Bd (n+2) (e++l) a k)/\Sq (e++l) (R++b) a k ps
theorem ah1:∀x∈xI,Sq x.1 x.2 x.2 [] []:=by have h:∀{e:Y} {R:List (Nat×Nat)},(∀x∈R,x.1<256/\x.2<256)->R.length<=e.length->Sq e R R [] []:=λh k=>⟨⟨rfl,cy _⟩,aZ,h,λy y=>qC _,rfl,k,cy _,cy _⟩;exact aQ ⟨h (eX rfl) (eX rfl),aQ ⟨h (eX rfl) (eX rfl),aQ ⟨h (eX rfl) (eX rfl),aZ⟩⟩⟩
theorem akR(h:Sp ag e R ag)(i:Io 22 8 e R)(k:∃c r,e=c::r/\([33,94]:Y).contains c=ag):yo e R:=⟨⟨i.1,iB i.2.1,iB i.2.2.1,i.2.2.2⟩,k,λl b f hs=>h.any.elim λa z=>z.elim λd z=>z.elim λps z=>⟨a++b,d++[],ps++[],λn=>am ((bu d).symm) (Bd.of (z.1 (n+1)) (k.elim λc y=>y.elim λr y=>ae y.1 rfl) (f (n+1))),z.2.app hs⟩⟩
theorem am2(h:Sp ag e R ag)(i:Io 22 8 e R):yo (93::e) ((93,93)::R):=⟨Io.app (e:=[93]) (R:=[(93,93)]) ⟨eX rfl,eX rfl,eX rfl,eX rfl⟩ i|>λz=>⟨z.1,z.2.1,z.2.2.1,z.2.2.2⟩,⟨93,e,rfl,rfl⟩,λl b d hs=>h.elim λa z=>z.elim λc z=>z.elim λps z=>⟨(93,93)::a++b,c++[],ps++[],λn=>am ((bu c).symm) (Bd.of1 (z.1 (n+1)) (d (n+1))),(Sq.app (Sq.rs (e:=[]) (eX rfl)) z.2).app hs⟩⟩
theorem akS(h:yo e R)(hx:x∈xI)(hs:BS T ng)(hf:rp wm):Sg (91::(T++(e++x.1++[93])),ag,ng,R++x.2,wm):=by refine(h.2.2 x.1 x.2 (ah0 x hx) (ah1 x hx)).elim λa u=>u.elim λk v=>v.elim λps w=>w.elim λb q=>?_;have i:=h.1.app (SY x hx);have t:∀c∈91::(T++(e++x.1++[93])),33<=c:=aQ ⟨eX rfl,dg (hs.elim (λz=>ae z.1 aZ) λz=>z.1.elim (λz=>ae z (eX rfl)) λz=>ae z (eX rfl)) (dg (λc m=>(i.1 c m).1) (eX rfl))⟩;exact⟨(aj (λT=>pW T ng (R++x.2)) (vy (T:=91::(T++(e++x.1++[93]))) λe=>nomatch (bD e).1)).mpr (akO b q (h.2.1.elim λc z=>z.elim λr z=>⟨c,r++x.1,by refine ae z.1 ?_;rfl,z.2⟩) (bn i.2.1 (eX rfl)) hs λm=>(i.1 42 m).2 rfl),.inr t,⟨91,_,rfl,eX rfl,eX rfl,nofun⟩,aw i.2.2.1 (eX rfl),hf⟩
end
section
variable{α:Type}{l:List α}
theorem gA(r:Int)(h:0<k):∃m:Nat,m<k/\r.fmod k=m:=⟨(r.fmod k).toNat,(Int.toNat_lt (aa8 _ (jJ.mpr h))).mpr (Int.fmod_lt_of_pos _ (jJ.mpr h)),(Int.toNat_of_nonneg (aa8 _ (jJ.mpr h))).symm⟩
theorem sW(h:m<l.length):∃x∈l,eZ (.list (l.map f)) (.int m)=aa (f x):=⟨l[m],Cy h,by show((jk m (l.map f).length).bind λj=>(l.map f)[j]?)=_;rw[aW];unfold jk;refine ae (cD (rZ m)) (ae (cD (jJ.mpr h)) ?_);show(l.map f)[m]?=_;refine ae (kT) (ae (kc h) ?_);rfl⟩
def Nf(x:Y×List (Nat×Nat)):D:=.tup [.bytes x.1,.list (x.2.map rg)]
def gJ(r:Int)(s a b:AV)(t:Y)(R:List (Nat×Nat))(u p F o:AV):Rh:=[ar r,s,a,b,aU t,cA (R.map rg),u,p,F,o]
theorem akT:(be ((bN 33 [4]).take 1) (FN n) (gJ r s a b t R u p F o)).run=.ok (.next,gJ r s a b t R u p F o)\/(t≠[]/\tn 33 [4] n (gJ r s a b t R u p F o)=.ok (.brk,gJ r s a b t R u p F o)):=by
 by_cases h:r=0
 ·cases t with|nil=>exact .inl (aG [.b 1 (tt h)])|cons c t=>exact .inr ⟨b5,(aX [.b 1 (tt h)])⟩
 ·by_cases d:r=-1
  ·cases t with|nil=>exact .inl (aG [.b 1 (ff h),.b 2 (tt d)])|cons c t=>exact .inr ⟨b5,(aX [.b 1 (ff h),.b 2 (tt d)])⟩
  ·exact .inl (aG [.b 1 (ff h),.b 2 (ff d)])
theorem V6{B:List (Nat×Nat)}(h:A.length+B.length<1000):c6 (.list (A.map rg)) (.list (B.map rg))=aa (.list ((A++B).map rg)):=(l9 (by simp only [aW,aW];exact aw (dk h) (eX rfl))).trans (aj (λl=>aa (D.list l)) cU.symm)
theorem Rb(h:t.length+20<100)(k:R.length+20<100):(∃x∈tA,∃c,tn 33 [4] n (gJ r s a b t R u p F o)=.ok (.next,gJ (r.fdiv 17) s a b (t++x.1) (R++x.2) u c F o))\/(t≠[]/\tn 33 [4] n (gJ r s a b t R u p F o)=.ok (.brk,gJ r s a b t R u p F o)):=akT.imp (λz=>by obtain⟨m,d,e⟩:=gA (k:=17) r (eX rfl);obtain⟨x,hx,i⟩:=sW (l:=tA) d;refine⟨x,hx,ar (r.fmod (17)),ji 1 z ?_⟩;have i:eZ (.list (tA.map Nf)) (.int (r.fmod (17)))=aa (Nf x):=ae e i;have y:=gy (aw (eJ (AF x hx).1.2.1 _) (aw (eJ (by decide:11<=20) _) (dk (bX h (eX rfl)))));have w:=V6 (bn (eJ (AF x hx).1.2.2.1 _) (bn (eJ (by decide:4<=20) _) (bX k (eX rfl))));exact(aG [.p 4 i,.p 1 y,.p 2 i,.p 1 w])) id
end
section
variable{c s:Nat}
def Ms(t:Y)(R:List (Nat×Nat))(a:Y)(b:List (Nat×Nat)):Prop:=∃e Q,a=t++e/\b=R++Q/\Sp ag e Q ag/\Io 22 8 e Q/\(e=[]->t≠[])/\∀c r,e=c::r->([33,94]:Y).contains c=ag
theorem akU(hx:x∈tA):Ms t R (t++x.1) (R++x.2):=have i:=AF x hx
 ⟨x.1,x.2,rfl,rfl,J8 x hx,⟨i.1.1,aw i.1.2.1 (eX rfl),aw i.1.2.2.1 (eX rfl),i.1.2.2.2⟩,λe=>aC e i.2.1,λc r e=>i.2.2.elim λb z=>z.elim λa z=>(bD (z.1.symm.trans e)).1▸z.2⟩
theorem afx(h:t.length<=1)(k:R.length<=1):∃m l s d j,lf 33 [4] n ag [6] [.int 0,.int 1] (gJ r S a b t R u p F o)=.ok (.next,gJ m S a b d j l s F o)/\Ms t R d j:=by
 obtain⟨x,hx,D,g⟩|⟨h0,g⟩:=Rb (bn (eW h 20) (eX rfl)) (bn (eW k 20) (eX rfl))
 ·have i:=AF x hx;have A:(t++x.1).length<=12:=ae aS (dz h i.1.2.1);have v:(R++x.2).length<=5:=ae aS (dz k i.1.2.2.1);obtain⟨y,f,C,g2⟩|⟨_,g2⟩:=Rb (bn (eW A 20) (eX rfl)) (bn (eW v 20) (eX rfl))
  ·refine⟨_,_,_,_,_,er rfl g (er rfl g2 rfl),x.1++y.1,x.2++y.2,(bg ..),(bg ..),(J8 x hx).trans (J8 y f),i.1.app (AF y f).1,λe=>aC (gj.mp e).1 i.2.1,λc q e=>?_⟩;obtain⟨E,B,z,w⟩:=i.2.2;have e:=z▸e;exact am ((bD e).1) w
  ·exact⟨_,_,_,_,_,er rfl g (J3 rfl g2),akU hx⟩
 ·exact⟨_,_,_,_,_,J3 rfl g,[],[],(bu t).symm,(bu R).symm,.nil,⟨aZ,eX rfl,eX rfl,aZ⟩,λc=>h0,λ_ _ h=>b4 h⟩
theorem afy(hs:aa (!decide ((s:Int)=0))=aa ng)(d:L.length<1000)(e:R.length<=1000):tn 33 [7] (n+1) (gJ r (ar s) a b t R u p (.own L) (ar c))=.ok (.next,gJ r (ar s) a b t R u p (.own L) (ar c))\/(c≠47/\L.length<6/\tn 33 [7] (n+1) (gJ r (ar s) a b t R u p (.own L) (ar c))=.ok (.next,gJ r (ar s) a b t R u p (.own (L++[.int c])) (ar c))):=by
 by_cases h:L.length<6
 ·by_cases k:c=47
  ·subst k;exact .inl (aX [.b 2 (bP h)])
  ·have g:=Q8 (n:=n) (c:=c) (ng:=ng) (ah:=ag) e;revert g;cases jl ag ng R c with|true=>exactλg=>.inr ⟨k,h,(aX [.b 2 (bP h),.b 1 (vK k),.b 2 hs,.q 1 g,.b 2 (et (bX d (eX rfl)))])⟩|false=>exactλg=>.inl (aX [.b 2 (bP h),.b 1 (vK k),.b 2 hs,.q 1 g])
 ·exact .inl (aX [.b 2 (f0 (qu h))])
theorem Rd(hs:aa (!decide ((s:Int)=0))=aa ng)(j:R.length<=1000)(os:List Nat):∀{F:List Nat} {o},(∀c∈os,c<128)->(∀c∈F,c<128/\c≠47)->F.length<=6->∃d f,lf 33 [7] (n+1) ag [9] (il os) (gJ r (ar s) a b t R u p (.own (il F)) o)=.ok (.next,gJ r (ar s) a b t R u p (.own (il d)) f)/\rp d:=by
 induction os with
 |nil=>exactλ{F o} y h l=>⟨F,o,rfl,aw l (eX rfl),h⟩
 |cons c os ih=>
  intro F o h k l;have e:(il F).length=F.length:=aW ..;have i:=λx m=>h x (.tail _ m);obtain g|⟨n47,l6,g⟩:=afy hs (ae e (bn l (eX rfl))) j
  ·exact(ih i k l).elim λd z=>z.elim λf z=>⟨d,f,er rfl g z.1,z.2⟩
  ·rw[show il F++[.int c]=il (F++[c]) by unfold il;refine ae cU ?_;rfl]at g;exact(ih i (dg k (aQ ⟨⟨h c (.head _),n47⟩,aZ⟩)) (ae aS (am e l6))).elim λd z=>z.elim λf z=>⟨d,f,er rfl g z.1,z.2⟩
end
section
variable{s:Nat}
noncomputable def yW(R:List (Nat×Nat)):List Nat:=R.flatMap λp=>[p.1,p.2]
theorem afz(h:R.length<=4):pM (FN n) ag [1] (.dG yg (.loc 1)) [2] (.loc 2) (R.map rg) [.U,.U,.U]=.ok (.list (il (yW R))):=by
 have e:il (yW R)=R.flatMap λx=>[x.1,x.2].map λy:Nat=>D.int y:=by unfold il yW;exact ae afM rfl
 exact ae e (Q6 (aw (nL (λz=>bO 2) R) (aw (dy 2 h) (eX rfl))) λx z=>⟨rfl,rfl,λy z=>⟨rfl,rfl⟩⟩)
noncomputable def YU:D:=.list [.bytes [],.bytes [33],.bytes [94]]
theorem ah2(hs:aa (!decide ((s:Int)=0))=aa ng)(B:R.length<=1000)(h:∀x∈R.take 4,x.1<128/\x.2<128):∃F i,(be (((bN 33 []).drop 6).take 2) (FN (n+1)) (gJ r (ar s) a b t R u p .U o)).run=.ok (.next,gJ r (ar s) a b t R u p (.own (il F)) i)/\rp F:=by have A:(R.take 4).length<=4:=wA ..;cases ng with|true=>refine(Rd (n:=n) (r:=r) (a:=a) (b:=b) (t:=t) (u:=u) (p:=p) hs B tO (o:=o) (λc m=>(Kq c m).1) aZ (eX rfl)).elim λF v=>v.elim λi j=>j.elim λg w=>?_;exact⟨F,i,(aG [.b 1 hs,.l 1 g]),w⟩|false=>obtain⟨F,i,g,w⟩:=Rd (n:=n) (r:=r) (a:=a) (b:=b) (t:=t) (u:=u) (p:=p) hs B (yW (R.take 4)++tO) (o:=o) (dg (λc m=>(Cz.mp m).elim λx z=>(ch.mp z.2).elim (λy=>ae y ((h x z.1).1)) λy=>ae (bB.mp y) ((h x z.1).2)) λc m=>(Kq c m).1) aZ (eX rfl);have d:c6 (.list (il (yW (R.take 4)))) (.list (il tO))=aa (.list (il (yW (R.take 4)++tO))):=(l9 (by unfold il;rw[aW,aW];exact aw (eW (nL (f:=λp:Nat×Nat=>[p.1,p.2]) (w:=2) (λe=>bO 2) _) _) (aw (eW (dy 2 A) _) (eX rfl)))).trans (aj (λl=>aa (D.list l)) cU.symm);have c:dh (.list (R.map rg)) .none (.int 4)=aa (.list ((R.take 4).map rg)):=ae oW (sU (l:=R.map rg) (k:=4) (eX rfl));exact⟨F,i,(aG [.b 1 hs,.p 1 c,.q 1 (afz (n:=n+1) A),.p 0 d,.l 1 g]),w⟩
end
theorem ib{l:List T}(e:a+b=c)(h:(be ((l.drop a).take b) F r).run=.ok (.next,r'))(d:(be (l.drop c) F r').run=.ok o):(be (l.drop a) F r).run=.ok o:=by have z:=R7 d _ h;rw[<-e,<-ny,oJ]at z;exact z
theorem mh(h:x.length<=a)(k:y.length<=b)(w:iX (a+b) 10000=af):c6 (.bytes x) (.bytes y)=aa (.bytes (x++y)):=gy (aw (dz h k) (aw (cH w) (eX rfl)))
theorem gB{α:Type}{x y:List α}(h:x.length<=a)(k:y.length<=b):(x++y).length<=a+b:=by exact ae aS (dz h k)
section
variable{m s k:Nat}{T:Y}
theorem akV(h:Ms t0 R0 t R)(k:(t0=[]/\R0=[])\/(t0=[93]/\R0=[(93,93)])):yo t R:=by
 obtain⟨e,Q,rfl,rfl,a,b,ne,hd⟩:=h;obtain⟨rfl,rfl⟩|⟨rfl,rfl⟩:=k
 ·cases e with|nil=>exact aC rfl (ne rfl)|cons c e=>exact akR a b ⟨c,e,rfl,hd c e rfl⟩
 ·exact am2 a b
theorem akW(hs:aa (!decide ((s:Int)=0))=aa ng)(hi:eZ YU (.int s)=aa (.bytes T))(J:BS T ng)(U:m<3)(V:k<2):∃e z,(be ((bN 33 []).drop 3) (FN (n+1)) [ar r,ar s,ar k,ar m,.U,.U,.U,.U,.U,.U]).run=.ok (.ret (m9 e),z)/\Sg e:=by
 obtain⟨A,C,D,p0⟩:∃A C,((A=[]/\C=[])\/(A=[93]/\C=[(93,93)]))/\(be (((bN 33 []).drop 3).take 1) (FN (n+1)) [ar r,ar s,ar k,ar m,.U,.U,.U,.U,.U,.U]).run=.ok (.next,gJ r (ar s) (ar k) (ar m) A C .U .U .U .U):=by match k,V with|0,_=>exact⟨[],[],.inl ⟨rfl,rfl⟩,(aG [])⟩|1,_=>exact⟨[93],[(93,93)],.inr ⟨rfl,rfl⟩,(aG [])⟩
 refine(afx (n:=n+1) (r:=r) (S:=ar s) (a:=ar k) (b:=ar m) (t:=A) (R:=C) (p:=.U) (u:=.U) (F:=.U) (o:=.U) (D.elim (λz=>z.1▸(eX rfl)) λz=>ae z.1 (eX rfl)) (D.elim (λz=>ae z.2 (eX rfl)) λz=>ae z.2 (eX rfl))).elim λE v=>v.elim λu j=>j.elim λp d=>d.elim λt h=>h.elim λR O=>O.elim λg Q=>?_;have B:=akV Q D;refine(sW (f:=Nf) (l:=xI) U).elim λx v=>v.elim λhx i=>?_;have ix:=SY x hx;have y:=V6 (bn (dz B.1.2.2.1 ix.2.2.1) (eX rfl));have P:(be (((bN 33 []).drop 4).take 2) (FN (n+1)) (gJ r (ar s) (ar k) (ar m) A C .U .U .U .U)).run=.ok (.next,gJ E (ar s) (ar k) (ar m) t (R++x.2) u p .U .U):=aG [.l 1 g,.p 2 i,.p 1 y];obtain⟨F,o,q,w⟩:=ah2 hs (aw (gB B.1.2.2.1 ix.2.2.1) (eX rfl)) λy m=>dg B.1.2.2.2 ix.2.2.2 y (rY m);have G:T.length<=1:=J.elim (λz=>ae z.1 (eX rfl)) λz=>z.1.elim (λz=>ae z (eX rfl)) λz=>ae z (eX rfl);have N:=mh (x:=[91]) (y:=T) (a:=1) (bO 1) G rfl;have I:([91]++T).length<=2:=gB (x:=[91]) (a:=1) (bO 1) G;have M:=mh (y:=t) I B.1.2.1 rfl;have H:=gB (y:=t) I B.1.2.1;have L:=mh (y:=x.1) H ix.2.1 rfl;have K:=mh (y:=[93]) (gB (y:=x.1) H ix.2.1) (b:=1) (bO 1) rfl;refine⟨(91::(T++(t++x.1++[93])),ag,ng,R++x.2,F),gJ E (ar s) (ar k) (ar m) t (R++x.2) u p (cA (il F)) o,ib (b:=1) (c:=4) rfl p0 (ib (b:=2) (c:=6) rfl P (ib (b:=2) (c:=8) rfl q ?_)),akS B hx J w⟩;have e:91::(T++(t++x.1++[93]))=[91]++T++t++x.1++[93]:=by rw[bg ([91]++T),bg ([91]++T)];rfl
 exact ae e (aG [.p 1 hi,.p 0 N,.p 1 M,.p 1 i,.p 1 L,.p 0 K,.b 1 hs])
theorem am3(h:s<3):∃T ng,aa (!decide ((s:Int)=0))=aa ng/\eZ YU (.int s)=aa (.bytes T)/\BS T ng:=ltE h ⟨⟨[94],af,rfl,rfl,.inr ⟨.inr rfl,rfl⟩⟩,⟨[33],af,rfl,rfl,.inr ⟨.inl rfl,rfl⟩⟩,⟨[],ag,rfl,rfl,.inl ⟨rfl,rfl⟩⟩,⟨⟩⟩
theorem am4(n:Nat)(r:Int):∃e,aV (FN (n+2)) 33 [.int r]=.ok (m9 e)/\Sg e:=by refine(gA (k:=3) r (eX rfl)).elim λs u=>u.elim λf j=>?_;refine(gA (k:=2) (r.fdiv (3:Nat)) (eX rfl)).elim λk u=>u.elim λh2 i=>?_;refine(gA (k:=3) ((r.fdiv (3:Nat)).fdiv (2:Nat)) (eX rfl)).elim λm u=>u.elim λd h=>?_;have a:(be ((bN 33 []).take 3) (FN (n+1)) [ar r,.U,.U,.U,.U,.U,.U,.U,.U,.U]).run=.ok (.next,[.val (.int (((r.fdiv (3)).fdiv (2)).fdiv (3))),ar (r.fmod (3:Nat)),ar ((r.fdiv (3:Nat)).fmod (2:Nat)),.val (.int (((r.fdiv (3:Nat)).fdiv (2:Nat)).fmod (3:Nat))),.U,.U,.U,.U,.U,.U]):=aG [];simp only [j,i,h]at a;obtain⟨T,ng,hs,b,c⟩:=am3 f;obtain⟨e,z,g,w⟩:=akW hs b c d h2;exact⟨e,u5 (ji 3 a g) (by kernel_rfl),w⟩
end
noncomputable def lN(b:Bool)(T:Y):Y:=cond (b&&T==[92,32]) [32] T
def eU(b:Bool)(q:List E):Y:=cond q.isEmpty [42,42] (cond (eD q) [42] (q.map λe=>lN b e.1).flatten)
theorem Sg.len(h:Sg e):e.1.length<=40/\(rT e.1).length<=40:=⟨by
 have z:=h.1.small.2.1;unfold rT at z;cases b:e.1==[92,32]with
 |true=>refine ae (bt b) ?_;decide
 |false=>have z:=b▸z;exact z,h.1.small.2.1⟩
theorem akX(h:Sg e):(lN b e.1).length<=40:=by cases b with|true=>exact h.len.2|false=>exact h.len.1
section
variable{q:List E}
theorem UI(h:∀e∈q,Sg e):(q.map λe=>lN b e.1).flatten.length<=40*q.length:=by induction q with|nil=>exact bO 0|cons e q ih=>refine ae aS ?_;rw[eY,sr,gn];exact dz (ih λx m=>h x (.tail _ m)) (akX (h e (.head _)))
theorem akY(h:∀e∈q,Sg e)(l:q.length<=12):(eU b q).length<=480:=by
 unfold eU;cases q.isEmpty with
 |true=>exact cH rfl
 |false=>cases eD q with|true=>exact cH rfl|false=>exact aw (UI h) (dy 40 l)
theorem Re(q:List E):mS (j4 (.bool ag) (.list (q.map λe=>.bool e.2.1)))=aa (eD q):=by
 show mS ((eB D.bool? (q.map λe=>D.bool e.2.1)).bind λp=>aa (p.contains ag))=_;rw[w0 (f:=λe:E=>D.bool e.2.1) (h:=λe=>e.2.1) λx=>rfl];show aa (!(q.map λe=>e.2.1).contains ag)=aa (q.all λe=>e.2.1);refine aj aa ?_
 induction q with|nil=>rfl|cons e q ih=>refine ae dB (ae oN (ae zB (am ih ?_)));cases e.2.1<;>rfl
theorem UJ(h:∀e∈q,Sg e)(l:q.length<=12):aV (FN (n+1)) 34 [.list (q.map m9),.bool b]=.ok (.bytes (eU b q)):=by
 cases q with
 |nil=>exact bc []
 |cons e q=>
  have a:mR (FN n) af [1,2,3,4,5] [] (.loc 2) ((e::q).map m9) [.U,.U,.U,.U,.U,.U]=.ok (.list ((e::q).map λe=>.bool e.2.1)):=(aj (λl=>Ev.ok (D.list (l.map λe:E=>D.bool e.2.1))) (uy.mpr λy y=>rfl))▸nK (aw l (eX rfl)) λx y=>⟨rfl,rfl,λy=>rfl⟩;unfold eU;cases k:eD (e::q)with
  |true=>exact bc [.q 4 a,.b 0 ((Re (e::q)).trans (aj aa k))]
  |false=>
   have d:mR (FN n) af [2,3,4,5,6] [] (.ite (.kH af [.of (.vw 0),.cmp .Eq (.vw 2) (.c (.bytes [92,32]))]) (.c (.bytes [32])) (.loc 2)) ((e::q).map m9) [aR b,.U,.U,.U,.U,.U,.U]=.ok (.list ((e::q).map λe=>.bytes (lN b e.1))):=(aj (λl=>Ev.ok (D.list (l.map λe:E=>D.bytes (lN b e.1)))) (uy.mpr λy y=>rfl))▸nK (aw l (eX rfl)) λx y=>⟨rfl,rfl,λy=>by
    unfold lN;cases b with
    |false=>exact aG []
    |true=>
     cases w:x.1==[92,32]with
     |true=>exact aG [.b 3 ((aj aa w))]
     |false=>exact(aG [.b 3 ((aj aa w))])⟩
   have j:pF (.bytes []) (.list ((e::q).map λe=>.bytes (lN b e.1)))=aa (.bytes ((e::q).map λe=>lN b e.1).flatten):=(aj (λl=>pF (.bytes []) (.list l)) (iR).symm).trans (J6 (aw (UI h) (aw (dy 40 l) (eX rfl))));exact bc [.q 4 a,.b 0 ((Re (e::q)).trans (aj aa k)),.q 2 d,.p 0 j]
theorem adJ:aV (FN (n+1)) 29 []=.ok (.list (Bj.map YT)):=bc []
noncomputable def rq:List Y:=[[91],[91,97],[91,93],[91,33,93],[91,94],[91,97,45],[91,97,92],[91,97,45,92],[91,91,58],[91,91,58,97,108,112,104,97,58,93],[91,91,58,97,108,112,104,58,93,93],[91,91,58,58,93,93]]
theorem SZ:aV (FN (n+1)) 30 []=.ok (.list (rq.map .bytes)):=bc []
noncomputable def xJ:List Y:=[[35,32,97],[32,9],[],[33],[47],[33,47]]
theorem EU:aV (FN (n+1)) 31 []=.ok (.list (xJ.map .bytes)):=bc []
noncomputable def Fi:List Nat:=[97,98,46,45,93,55,122,32,120,9,66,100,96,58,91,123,64,99,88,89,42,44,126,127]
theorem afA:aV (FN (n+1)) 32 []=.ok (.list (il Fi)):=bc []
end
def Gs(cs:List (List E)):Prop:=∀q∈cs,(∀e∈q,Sg e)/\q.length<=12
def fW(b:Bool)(cs:List (List E)):Y:=aK (cs.map (eU b))
noncomputable def rS(ng:Bool):Y:=cond ng [33] []
section
theorem Gs.gd(h:Gs cs)(k:cs≠[])(l:cs.length<=11):Gd cs:=⟨k,l,λq m=>⟨λe k=>((h q m).1 e k).1,(h q m).2⟩⟩
theorem aq6:eU af q=cq q:=rfl
theorem Kr(h:cs≠[]):pT az only (bW cs)=dJ az++(fW af cs++cond only [47] []):=by
 unfold pT fW;refine ae AE ?_;cases cs with
 |nil=>exact aC rfl h
 |cons q cs=>cases only with|true=>exact aj (dJ az++·) (Af _)|false=>exact aj (dJ az++·) ((aj aK (bu _)).trans (bu _).symm)
theorem Fj(us:List Y):∃w,aK (v::us)=v++w:=by cases us with|nil=>exact⟨[],(bu v).symm⟩|cons u us=>exact⟨_,fx⟩
theorem AT(h:bh=eS)(k:∃c r,eS=c::r/\c≠33/\c≠92):oh bh eS ag:=.inr ⟨rfl,.inr ⟨h,λr e=>k.elim λc z=>z.elim λa z=>z.2.1 (bD (z.1.symm.trans e)).1,λo r e=>k.elim λc z=>z.elim λa z=>aC (bD (z.1.symm.trans e)).1 z.2.2⟩⟩
theorem S0(h:Gs cs)(k:cs≠[])(l:cs.length<=11):∃A,Gd A/\Al cs A/\oh (rS ng++pT az only (bW cs)) (pT az only (bW A)) ng:=by
 have g:=h.gd k l;cases ng with
 |true=>exact⟨cs,g,rfl,.inl ⟨rfl,rfl⟩⟩
 |false=>
  cases az with
  |true=>exact⟨cs,g,rfl,AT rfl ⟨47,_,rfl,eX rfl,eX rfl⟩⟩
  |false=>
   cases cs with
   |nil=>exact aC rfl k
   |cons q cs=>
    have t:∀q:List E,∃w,pT ag only (bW (q::cs))=cq q++w/\∀n,pT ag only (bW (n::cs))=cq n++w:=λq=>by have a:∀q,∃w,aK ((q::cs).map (eU af))=cq q++w:=λq=>Fj _;have z:∀q,pT ag only (bW (q::cs))=aK (cq q::cs.map (eU af))++cond only [47] []:=λq=>Kr b5;rw[z];cases c:cs.map (eU af)with|nil=>exact⟨cond only [47] [],rfl,λn=>by rw[z];refine ae c ?_;rfl⟩|cons u us=>exact⟨47::aK (u::us)++cond only [47] [],by rw[fx,bg],λn=>by rw[z,c,fx,bg]⟩
    have s:(∃r,cq q=42::r)->oh (pT ag only (bW (q::cs))) (pT ag only (bW (q::cs))) ag:=λz=>(t q).elim λw y=>AT rfl (z.elim λr z=>⟨42,r++w,by refine ae y.1 (ae z ?_);rfl,eX rfl,eX rfl⟩);cases q with
    |nil=>exact⟨_,g,rfl,s ⟨[42],rfl⟩⟩
    |cons e q=>
     cases m:eD (e::q)with
     |true=>exact⟨_,g,rfl,s ⟨[],by unfold cq;refine ae m ?_;rfl⟩⟩
     |false=>
      have F:=(h (e::q) (.head _)).1 e (.head _);obtain⟨w,y,C⟩:=t (e::q);have b:cq (e::q)=rT e.1++eT q:=by unfold cq;refine ae m ?_;rfl
      obtain⟨c,r,f,p,G,v⟩:=F.2.2.1;by_cases d:e.1=[92,32]
      ·exact⟨_,g,rfl,AT rfl ⟨32,eT q++w,by refine ae y (ae b (ae d ?_));rfl,eX rfl,eX rfl⟩⟩
      ·have b:=(vy d)▸b;by_cases B:c=92
       ·obtain⟨o,rfl,H⟩:=v B;subst B;by_cases i:o=33\/o=35
        ·have z:=H i;have j:rT [o]=[o]:=vy λe=>b4 ((bD e).2);have D:eD (([o],e.2)::q)=ag:=m;refine⟨(([o],e.2)::q)::cs,⟨b5,g.2.1,aQ ⟨⟨aQ ⟨?_,λx k=>(g.2.2 _ (.head _)).1 x (.tail _ k)⟩,(g.2.2 _ (.head _)).2⟩,λx k=>g.2.2 x (.tail _ k)⟩⟩,?_,.inr ⟨rfl,.inl ⟨?_,o,eT q++w,?_,i⟩⟩⟩
         ·show E.Good ([o],e.2);unfold E.Good;exact ae z.1 (ae j z.2)
         ·show bC ((e::q)::cs)=_;unfold bC;refine ae dB (ae dB (ae dB (ae dB ?_)));refine aj (λx=>(x::q.map bE)::cs.map λq=>q.map bE) ?_;unfold bE;refine ae f (ae (vy (f▸d)) (ae j ?_));obtain rfl|rfl:=i<;>rfl
         ·show pT ag only (bW ((e::q)::cs))=_;refine ae y ?_;rw[C,b,show cq (([o],e.2)::q)=rT [o]++eT q by unfold cq;rw[D];rfl,j,f];rfl
         ·rw[C,show cq (([o],e.2)::q)=rT [o]++eT q by unfold cq;rw[D];rfl];refine ae j ?_;rfl
        ·refine⟨_,g,rfl,.inr ⟨rfl,.inr ⟨rfl,λr e=>?_,λJ I e=>?_⟩⟩⟩<;>rw[y,b,f]at e
         ·exact nomatch (bD e).1
         ·exact(bD (bD e).2).1▸⟨λz=>i (.inl z),λz=>i (.inr z)⟩
       ·exact⟨_,g,rfl,AT rfl ⟨c,r++eT q++w,by refine ae y (ae b (ae f ?_));rfl,p,B⟩⟩
end
section
variable{s:Y}
theorem Sg.raw(h:Sg e):e.1=[92,32]\/(e.1=rT e.1/\∀c∈e.1,33<=c):=by
 by_cases d:e.1=[92,32]
 ·exact .inl d
 ·exact .inr ⟨(vy d).symm,h.2.1.resolve_left d⟩
def Lz(t:Y):Prop:=t≠[]/\t.getLast?≠aa 47
theorem Lz.app(h:Lz t)(w:Y):Lz (w++t):=⟨λe=>h.1 (gj.mp e).2,λe=>by
 rw[GY]at e;cases c:t.getLast? with
 |none=>exact h.1 (GN.mp c)
 |some x=>rw[c]at e;exact h.2 (c.trans e)⟩
theorem V7(h:Sg e):Lz (lN b e.1)/\(lN b e.1).contains 47=(rT e.1).contains 47:=by
 obtain d|d:=h.raw
 ·refine ae d ?_;cases b<;>exact⟨⟨eX rfl,eX rfl⟩,rfl⟩
 ·have k:lN b e.1=rT e.1:=by
   cases b with|true=>rfl|false=>exact d.1
  exact ae k (⟨⟨h.1.small.1.1,h.1.small.1.2.2⟩,rfl⟩)
theorem V8(h:∀e∈q,Sg e):Lz (eU b q)/\(eU b q).contains 47=(cq q).contains 47:=by
 unfold eU cq;cases q with
 |nil=>exact⟨(⟨eX rfl,eX rfl⟩:Lz [42,42]),rfl⟩
 |cons e q=>
  cases eD (e::q)with
  |true=>exact⟨(⟨eX rfl,eX rfl⟩:Lz [42]),rfl⟩
  |false=>
   show Lz ((e::q).map λe=>lN b e.1).flatten/\((e::q).map λe=>lN b e.1).flatten.contains 47=((e::q).map λe=>rT e.1).flatten.contains 47;refine⟨?_,ae IW (ae IW (zU λe m=>(V7 (h e m)).2))⟩
   induction q generalizing e with|nil=>show Lz (lN b e.1++[]);simp only [bu];exact(V7 (h e (.head _))).1|cons x q ih=>exact(ih (e:=x) λy m=>h y (.tail _ m)).app _
theorem V9(h:Gs cs)(k:cs≠[]):Lz (fW b cs)/\(fW b cs).contains 47=(eA 1 cs.length||j8 cs):=by
 refine am (VZ λq m e k=>((h q m).1 e k).1) ?_;unfold fW;cases cs with
 |nil=>exact aC rfl k
 |cons q cs=>
  have a:=λx m=>(ey.mp (show x∈(q::cs).map (eU b)from m)).elim λp z=>z.2▸(V8 (h p z.1).1).1;refine⟨⟨λe=>?_,Eo _ a⟩,?_⟩
  ·obtain⟨w,z⟩:=Fj (cs.map (eU b));exact(a _ (.head _)).1 (gj.mp (z.symm.trans e)).1
  ·refine ae dB ?_;simp only [VY,aW,eY];refine aj (eA 1 (cs.length+1)||·) ?_;show((q::cs).map (eU b)).any _=((q::cs).map cq).any _;exact ae Dz (ae Dz (zU λp m=>(V8 (h p m).1).2))
def eI(b ng az only:Bool)(t:Y)(cs:List (List E)):Y:=rS ng++dJ az++fW b cs++(t++cond only [47] [])
theorem am5(h:Gs cs)(k:cs≠[]):(eI b ng az only [] cs).dropLast.contains 47=(fm az cs||j8 cs):=by
 have z:(rS ng++dJ az++fW b cs).contains 47=(fm az cs||j8 cs):=by refine ae B9 (ae (V9 (b:=b) h k).2 ?_);cases ng<;>cases az<;>rfl
 refine am z ?_;unfold eI;cases only with|true=>exact aj (λx:Y=>x.contains 47) wx|false=>refine ae (show([]++cond ag [47] [])=[]from rfl) ?_;rw[bu];exact V0 ((V9 (b:=b) h k).1.app _).2
theorem akZ(h:Gs cs)(k:cs≠[]):eI af ng az only [] cs=rS ng++pT az only (bW cs):=by refine ae (Kr k) ?_;unfold eI;simp only [uF,bg,bg]
def Bl(w v:Y):Prop:=(w.head?≠aa 32/\∀a,w=a++[32]->∃b,a=b++[92])/\(∀c∈w,32<=c)/\∀s:Y,s.head?≠aa 32->jQ (w++s)=v++jQ s
theorem Bl.nil:Bl [] []:=⟨⟨aN,λa e=>aC e.symm (Zs a b5)⟩,aZ,λx x=>rfl⟩
theorem Bl.app(h:Bl w v)(b:Bl w' v'):Bl (w++w') (v++v'):=⟨⟨λe=>by
 cases w with
 |nil=>exact b.1.1 e
 |cons c w=>exact h.1.1 e,λa e=>(ND.mp e).elim (λz=>z.elim λc z=>(b.1.2 c z.2).elim λd y=>⟨w++d,by simp only [z.1,y,bg]⟩) λz=>z.elim λc z=>by
 cases w' with
 |nil=>exact h.1.2 a (ae z.1 (aj (a++·) ((bu c).symm.trans z.2.symm)))
 |cons x w'=>
  cases c with
  |nil=>exact aC (aj anI z.2.symm) b.1.1
  |cons y c=>exact aC (bD z.2).2.symm (Zs c b5)⟩,dg h.2.1 b.2.1,λs k=>by
 rw[bg,h.2.2 _ λe=>?_,b.2.2 s k,bg];cases w' with
 |nil=>exact k e
 |cons c w'=>exact b.1.1 e⟩
theorem am6(h:s.head?≠aa 32):jQ (c::s)=c::jQ s:=by show cond (([92,32]:Y).isPrefixOf (c::s)) _ _=_;cases q:([92,32]:Y).isPrefixOf (c::s)with|false=>rfl|true=>cases s with|nil=>exact bb ((aP q).2)|cons x t=>exact aC (aj aa (gP.mp (aP (aP q).2).1).symm) h
theorem Bl.of(h:∀c∈w,33<=c):Bl w w:=⟨⟨λe=>aC (h 32 (List.mem_of_head? e)) (eX rfl),λa e=>aC (h 32 (ae e (fF a (.head _)))) (eX rfl)⟩,λc m=>zj (h c m),by
 induction w with
 |nil=>exactλy y=>rfl
 |cons c w ih=>
  intro s k;exact(am6 λe=>by
   cases w with
   |nil=>exact k e
   |cons d w=>exact aC (h d (.tail _ (.head _))) (ae (aM e) (eX rfl))).trans (aj (c::·) (ih (λx m=>h x (.tail _ m)) s k))⟩
theorem Bl.blank:Bl [92,32] [32]:=⟨⟨eX rfl,λa e=>⟨[],(Hs (e) rfl).1.symm⟩⟩,eX rfl,λx x=>rfl⟩
theorem aoJ(h:Sg e):Bl e.1 (rT e.1):=h.raw.elim (λd=>ae d .blank) λd=>am d.1 (.of d.2)
theorem Wa(h:∀e∈q,Sg e):Bl (eU ag q) (eU af q):=by
 unfold eU;cases q.isEmpty with
 |true=>exact(.of (eX rfl):Bl [42,42] [42,42])
 |false=>cases eD q with
  |true=>exact(.of (eX rfl):Bl [42] [42])
  |false=>induction q with|nil=>exact .nil|cons e q ih=>exact(aoJ (h e (.head _))).app (ih λx m=>h x (.tail _ m))
theorem am7(h:Gs cs):Bl (fW ag cs) (fW af cs):=by
 unfold fW;cases cs with
 |nil=>exact .nil
 |cons q cs=>induction cs generalizing q with|nil=>exact Wa (h q (.head _)).1|cons p cs ih=>have z:∀b,aK ((q::p::cs).map (eU b))=eU b q++([47]++aK ((p::cs).map (eU b))):=λb=>fx;simp only [z,z];exact(Wa (h q (.head _)).1).app (Bl.app (.of (eX rfl)) (ih p λx m=>h x (.tail _ m)))
theorem am8(h:Gs cs)(ht:∀c∈t,33<=c):Bl (eI ag ng az only t cs) (eI af ng az only t cs):=(Bl.app (.of (by cases ng<;>cases az<;>decide)) (am7 h)).app (.of (dg ht (by cases only<;>decide)))
def Hl(w:Y):Prop:=∃c r,w=c::r/\33<=c/\c≠35
theorem Hl.app(h:Hl w)(s:Y):Hl (w++s):=h.elim λc z=>z.elim λr z=>⟨c,r++s,by refine ae z.1 ?_;rfl,z.2⟩
theorem aoK(h:Sg e):Hl e.1:=h.2.2.1.elim λc z=>z.elim λr z=>⟨c,r,z.1,h.2.1.elim (λd=>ae ((bD (z.1.symm.trans d)).1) (eX rfl)) λd=>d c (ae z.1 (.head _)),z.2.2.1⟩
theorem am9(h:∀e∈q,Sg e):Hl (eU ag q):=by
 unfold eU;cases q with
 |nil=>exact⟨42,[42],rfl,eX rfl,eX rfl⟩
 |cons e q=>cases eD (e::q)with|true=>exact⟨42,[],rfl,eX rfl,eX rfl⟩|false=>exact(aoK (h e (.head _))).app _
theorem Wb(h:Gs cs)(k:cs≠[]):Hl (eI ag ng az only t cs):=by
 unfold eI;refine Hl.app ?_ _;cases ng with
 |true=>exact⟨33,_,rfl,eX rfl,eX rfl⟩
 |false=>cases az with
  |true=>exact⟨47,_,rfl,eX rfl,eX rfl⟩
  |false=>cases cs with|nil=>exact aC rfl k|cons q cs=>obtain⟨w,z⟩:=Fj (cs.map (eU ag));exact ae (show fW ag (q::cs)=_ from z) ((am9 (h q (.head _)).1).app w)
end
section
def qk(C:AV)(k:D)(r:Int)(ng only az:Bool)(t:Y)(a b c d e:AV):Rh:=[C,.val k,ar r,aR ng,aR only,aR az,aU t,aU (rS ng++dJ az),aU (t++cond only [47] []),a,b,c,d,e]
def XB(t:Y):Prop:=∃x∈rq,∃y∈([[],[47,97]]:List Y),t=x++y
def Kd(t:Y)(ng only:Bool):Prop:=t=[]\/(XB t/\ng=ag/\only=ag)
def YV(n m:Nat)(r:Int)(C:AV):Ev Os:=(be ((bN 35 []).take 4) (FN (n+1)) [C,ar m,ar r,.U,.U,.U,.U,.U,.U,.U,.U,.U,.U,.U]).run
def YW(m:Nat)(r:Int)(C:AV)(ng only az:Bool)(t:Y):Ev Os:=.ok (.next,qk C (.int m) r ng only az t .U .U .U .U .U)
theorem S3(h:r.fmod (5:Nat)=2↔az=af):∃t,XB t/\YV n 15 r C=YW 15 r C ag ag az t:=by refine(gA (k:=12) (r.fdiv (8)) (eX rfl)).elim λi u=>u.elim λw A=>?_;refine(gA (k:=2) (r.fdiv (96)) (eX rfl)).elim λj u=>u.elim λv ej=>?_;refine(sW (f:=D.bytes) (l:=rq) w).elim λx u=>u.elim λhx g=>?_;refine(sW (f:=D.bytes) (l:=[[],[47,97]]) v).elim λy u=>u.elim λm d=>?_;simp only [<-A]at g;simp only [<-ej]at d;have c:=(by decide+kernel:∀x∈rq,x.length<=12) x hx;have a:=(by decide:∀y∈([[],[47,97]]),y.length<=2) y m;have B:∀z:Y,z.length<=0->_:=λz s=>mh (gB c a) s rfl;have o:=B [] (bO 0);refine⟨x++y,⟨x,hx,y,m,rfl⟩,?_⟩;cases az with|true=>exact aG [.b 15 (tt (h.mpr rfl)),.q 2 (SZ (n:=n)),.p 3 g,.p 3 d,.p 0 (mh c a rfl),.p 8 o]|false=>exact aG [.b 15 (ff (λe=>bb (h.mp e))),.q 2 (SZ (n:=n)),.p 3 g,.p 3 d,.p 0 (mh c a rfl),.p 8 o]
theorem ah3(h:9<m)(k:m<16):∃ng only az t,Kd t ng only/\YV n m r C=YW m r C ng only az t:=by
 by_cases e:r.fmod (5)=2
 ·match m,h,k with|10,_,_=>exact⟨ag,ag,af,[],.inl rfl,(aG [.b 15 (tt e)])⟩|11,_,_=>exact⟨af,ag,af,[],.inl rfl,(aG [.b 13 (tt e)])⟩|12,_,_=>exact⟨ag,af,af,[],.inl rfl,(aG [.b 13 (tt e)])⟩|13,_,_=>exact⟨ag,ag,af,[],.inl rfl,(aG [])⟩|14,_,_=>exact⟨af,af,af,[],.inl rfl,(aG [.b 15 (tt e)])⟩|m+16,_,k=>exact aC k (ft.mpr (mB 16 m))|15,_,_=>exact(S3 ⟨λx=>rfl,λx=>e⟩).elim λt z=>⟨_,_,_,t,.inr ⟨z.1,rfl,rfl⟩,z.2⟩
 ·match m,h,k with|10,_,_=>exact⟨ag,ag,ag,[],.inl rfl,(aG [.b 15 (ff e)])⟩|11,_,_=>exact⟨af,ag,ag,[],.inl rfl,(aG [.b 13 (ff e)])⟩|12,_,_=>exact⟨ag,af,ag,[],.inl rfl,(aG [.b 13 (ff e)])⟩|13,_,_=>exact⟨ag,ag,af,[],.inl rfl,(aG [])⟩|14,_,_=>exact⟨af,af,ag,[],.inl rfl,(aG [.b 15 (ff e)])⟩|m+16,_,k=>exact aC k (ft.mpr (mB 16 m))|15,_,_=>exact(S3 (az:=ag) ⟨λz=>aC z e,λz=>bb z⟩).elim λt z=>⟨_,_,_,t,.inr ⟨z.1,rfl,rfl⟩,z.2⟩
end
section
variable{m:Nat}{L:Y}
theorem XC{a b:Nat}:aa (decide ((a:Int)<b))=aa (eA a b):=aj aa (iC.mpr (mA.trans (jJ.trans ⟨qo,cH⟩)))
theorem UK(h:Gs cs)(l:cs.length<=11):(fW b cs).length<=5300:=aw (Kk _ λp m=>(ey.mp m).elim λq z=>am z.2 (akY (h q z.1).1 (h q z.1).2)) (aw (dy 481 (am ((aW ..).symm) l)) (eX rfl))
theorem ak0(h:(cP s l).length<=aI):pF (.bytes s) (.list (bA l))=aa (.bytes (cP s l)):=(aj (λo:Option (List Y)=>o.bind λl=>gd ((cP s l).length<=aI) (aa (D.bytes (cP s l)))) (Ei l)).trans (dU h)
theorem ah4(h:Gs cs)(l:cs.length<=11):mR (FN (n+1)) ag [1] [] (.call 34 [.loc 1,.c (.bool b)]) (cs.map qD) [.U,.U]=.ok (.list (bA (cs.map (eU b)))):=(am (aj (λl:List D=>Ev.ok (D.list l)) (show((cs.filter λx=>af).map λq=>D.bytes (eU b q))=bA (cs.map (eU b)) by rw[uy.mpr λx x=>rfl];exact iR.symm)) (nK (aw l (eX rfl)) λq m=>⟨rfl,rfl,λx=>by exact(aG [.q 1 (UJ (n:=n) (b:=b) (h q m).1 (h q m).2)])⟩))
theorem ana(k:Kd t ng only):t.length<=14:=k.elim (λz=>ae z (cy _)) λz=>z.1.elim λx z=>z.2.elim λy w=>ae w.2 (gB ((by decide+kernel:∀x∈rq,x.length<=12) x z.1) ((by decide:∀y∈([[],[47,97]]),y.length<=2) y w.1))
theorem UL(h:Gs cs)(l:cs.length<=11)(k:Kd t ng only):c6 (.bytes (rS ng++dJ az)) (.bytes (fW b cs))=aa (.bytes (rS ng++dJ az++fW b cs))/\c6 (.bytes (rS ng++dJ az++fW b cs)) (.bytes (t++cond only [47] []))=aa (.bytes (eI b ng az only t cs))/\(eI b ng az only t cs).length<=5400:=
 have a:(rS ng++dJ az).length<=2:=by cases ng<;>cases az<;>decide
 have c:=UK h l;have d:=gB (ana k) (show(cond only [47] []).length<=1 by cases only<;>decide)
 ⟨mh a c rfl,mh (gB a c) d rfl,aw (gB (gB a c) d) (eX rfl)⟩
theorem ah5(g:Gs cs)(l:cs.length<=11)(d:Kd t ng only):(be (((bN 35 []).drop 4).take 3) (FN (n+1)) (qk (.val (dj cs)) k r ng only az t .U .U .U .U .U)).run=.ok (.next,qk (.val (dj cs)) k r ng only az t (aU (eI ag ng az only t cs)) (aU (eI af ng az only t cs)) (aR (fm az cs)) .U .U):=by have a:=λb=>ah4 (n:=n) (b:=b) g l;have j:=λb=>ak0 (aw (UK (b:=b) g l) (eX rfl));have s:=λb=>UL (b:=b) (az:=az) g l d;have c:(cs.map qD).length=cs.length:=aW ..;unfold fm;refine am c ?_;cases az with|true=>exact aG [.q 3 (a ag),.p 0 (j ag),.p 0 ((s ag).1),.p 1 ((s ag).2.1),.q 3 (a af),.p 0 (j af),.p 0 ((s af).1),.p 1 ((s af).2.1)]|false=>exact aG [.q 3 (a ag),.p 0 (j ag),.p 0 ((s ag).1),.p 1 ((s ag).2.1),.q 3 (a af),.p 0 (j af),.p 0 ((s af).1),.p 1 ((s af).2.1),.b 4 (XC (a:=1) (b:=(cs.map qD).length))]
def rG(ng az only:Bool)(t:Y)(cs:List (List E)):Ru:=(ng,only,hD az cs,cond (fm az cs||(eI ag ng az only t cs).dropLast.contains 47) cs ([]::cs))
theorem ah6(g:Gs cs)(l:cs.length<=11)(k0:cs≠[])(c:eI ag ng az only t cs=L):(be (((bN 35 []).drop 7).take 2) (FN (n+1)) (qk (.val (dj cs)) k r ng only az t (aU L) (aU R) (aR (fm az cs)) .U .U)).run=.ok (.next,qk (.val (dj cs)) k r ng only az t (aU L) (aU R) (aR (fm az cs)) (aR (hD az cs)) (.val (d9 (rG ng az only t cs)))):=by
 unfold rG;refine ae c ?_;cases e:fm az cs with
 |true=>
  have w:=ur k0;have i:eZ (dj cs) (.int (-1))=aa (qD (cs.getLast k0)):=by have z:=zY (l:=cs.dropLast.map qD) (d:=qD (cs.getLast k0));have z:=((cU).symm.trans (aj _ w))▸z;exact z
  have a:=g _ (afN k0);have z:j4 (.bytes (eU af (cs.getLast k0))) (.tup [.bytes [42],.bytes [42,42]])=aa (hD az cs):=aj aa ((SR λe m=>(a.1 e m).1).trans (by have y:=Ra (az:=az) (cs:=cs.dropLast) (q:=cs.getLast k0);have y:=e▸w▸y;exact y.symm));exact aG [.p 4 i,.q 0 (UJ (n:=n) (b:=af) a.1 a.2),.b 0 z]
 |false=>
  have z:hD az cs=ag:=by unfold hD;refine ae e ?_;rfl
  refine ae z ?_;have o:c6 (.list [qD []]) (dj cs)=aa (dj ([]::cs)):=l9 (by rw[aW,gn];exact aw (c8 l) (eX rfl));cases u:L.dropLast.contains 47 with|true=>exact aG [.p 9 (ku (P:=L)),.b 0 ((aj aa u))]|false=>exact aG [.p 9 (ku (P:=L)),.b 0 ((aj aa u)),.p 1 o]
theorem UM{a:Y}:dh (.bytes (a++[x])) (.int (-1)) .none=aa (.bytes [x]):=by show(aa (jV (-1) (a++[x]).length)).bind (λh=>aa (D.bytes (lB (a++[x]) h (a++[x]).length)))=_;rw[IT];show aa (D.bytes (((a++[x]).take (a++[x]).length).drop ((a++[x]).length-1)))=_;exact ae kU (ae aS (aj (λy=>aa (D.bytes y)) qx))
def BZ(L a:Y):Prop:=a=[]\/(a=[32,32]/\L.getLast?≠aa 92)
theorem ah7(h:L≠[])(l:L.length<=5400):∃g,BZ L g/\(be (((bN 35 []).drop 9).take 1) (FN (n+1)) (qk C k r ng only az t (aU L) a b c d)).run=.ok (.next,qk C k r ng only az t (aU (L++g)) a b c d):=by
 by_cases e:(r.fdiv (5)).fmod (2)=1
 ·obtain⟨a,x,rfl⟩:∃a x,L=a++[x]:=⟨_,_,(ur h).symm⟩;by_cases f:x=92
  ·subst f;exact⟨[],.inl rfl,by rw[bu];exact(aG [.b 3 (tt e),.p 2 (UM (a:=a) (x:=92))])⟩
  ·exact⟨[32,32],.inr ⟨rfl,λz=>f (aM (wy.symm.trans z))⟩,(aG [.b 3 (tt e),.p 2 (UM (a:=a) (x:=x)),.b 0 (FU (x:=[x]) (y:=[92]) λz=>f (bD z).1),.p 1 (mh (y:=[32,32]) (b:=2) l (eX rfl) rfl)])⟩
 ·exact⟨[],.inl rfl,by rw[bu];exact(aG [.b 3 (ff e)])⟩
theorem ah8(l:L.length<=5402):∃dW z,(dW=[10]\/dW=[13,10])/\(be ((bN 35 []).drop 10) (FN (n+1)) (qk C k r ng only az t (aU L) (aU R) b c (.val R1))).run=.ok (.ret (.tup [.bytes (L++dW),.bytes R,R1,.bool (!t.isEmpty)]),z):=by
 obtain⟨j,a,ej⟩:=gA (k:=2) (r.fdiv (10)) (eX rfl);have m:mS (yf (.bytes t) (.bytes []))=aa (!t.isEmpty):=by cases t<;>rfl
 match j,a with|0,_=>exact⟨[10],qk C k r ng only az t (aU L) (aU R) b c (.val R1),.inl rfl,(aG [.p 4 ((aj (λi=>eZ (.list [.bytes [10],.bytes [13,10]]) (.int i)) ej)),.p 0 (mh (y:=[10]) (b:=1) l (eX rfl) rfl),.b 3 m])⟩|1,_=>exact⟨[13,10],qk C k r ng only az t (aU L) (aU R) b c (.val R1),.inr rfl,(aG [.p 4 ((aj (λi=>eZ (.list [.bytes [10],.bytes [13,10]]) (.int i)) ej)),.p 0 (mh (y:=[13,10]) (b:=2) l (eX rfl) rfl),.b 3 m])⟩
def Du:=λ(n:Nat) (m:Nat) (r:Int) (cs:List (List E))=>(∀(g:Gs cs) (l:cs.length<=11) (k0:cs≠[]) (h:9<m) (k:m<16),∃ng only az t a dW,Kd t ng only/\BZ (eI ag ng az only t cs) a/\(dW=[10]\/dW=[13,10])/\aV (FN (n+2)) 35 [dj cs,.int m,.int r]=.ok (.tup [.bytes (eI ag ng az only t cs++a++dW),.bytes (eI af ng az only t cs),d9 (rG ng az only t cs),.bool (!t.isEmpty)]):Prop)
def Dv:=mo Du (aO nI (aO nI (aO nI nI)))
def adK:=Dv.1
def adL:=Dv.2.1
def Qi:=Dv.2.2.1
def ab6:=Dv.2.2.2
theorem ab7:Du adK adL Qi ab6:=λg l k0 h k=>by obtain⟨ng,only,az,t,f,a⟩:=ah3 h k;have s:=UL (b:=ag) (az:=az) g l f;obtain⟨i,hs,d⟩:=ah7 (λz=>(Wb g k0).elim λc y=>y.elim λQi y=>b5 (y.1.symm.trans z)) s.2.2;obtain⟨dW,z,j,e⟩:=ah8 (gB s.2.2 (show i.length<=2 from hs.elim (λy=>ae y (eX rfl)) λy=>ae y.1 (eX rfl)));refine⟨ng,only,az,t,i,dW,f,hs,j,u5 (ji 4 a (ib rfl (ah5 g l f) (ib rfl (ah6 g l k0 rfl) (ib rfl d e)))) (by kernel_rfl)⟩
theorem ah9{n m r cs}:Du n m r cs:=rH Du ab7
end
theorem anb(h:(t F r).run=.ok o):(be [t] F r).run=.ok o:=by show((t F r).bind _).run=_;simp only [Tr.run_bind];refine ae h ?_;obtain⟨f,s⟩:=o;cases f<;>rfl
theorem AU(h:(c F r).run=.ok ag)(g:(be b F r).run=.ok o):(be [.ite c a b] F r).run=.ok o:=anb (by show((c F r).bind _).run=_;rw[Tr.run_bind];refine ae h ?_;exact g)
abbrev Ja:=Nat->AV
noncomputable def ja(l:List AV):Ja:=λi=>l.getD i .U
def hH(N:AV)(A B K R:List D)(cs:List (List E))(p:List E)(u v w:AV)(j:Ja):Rh:=[N,.own A,.own B,.own K,.own R,.val (dj cs),.val (qD p),u,v,w,j 0,j 1,j 2,j 3,j 4,j 5]
noncomputable def yc:List Nat:=[2,101,100,100,100,100]
section
variable{m:Nat}{B:List D}
def Fk(n:Nat)(r:Rh):Ev Os:=(be ((bN 36 [2]).drop 1) (FN (n+2)) r).run
def AW(n m:Nat)(N:AV)(A B K R:List D)(cs:List (List E))(p:List E)(u:AV)(r:Int)(j:Ja):Prop:=∃e a,Sg e/\Fk n (hH N A B K R cs p u (ar r) (ar m) j)=.ok (.next,hH N A B K R cs (p++[e]) u (ar r) (ar m) a)
theorem AX(l:p.length<=20):c6 (qD p) (.list [m9 e])=aa (qD (p++[e])):=(l9 (by rw[aW];exact aw (c8 l) (eX rfl))).trans (aj (λl=>aa (D.list l)) (cU (l₂:=[e])).symm)
theorem Wc(l:cs.length<=20):c6 (dj cs) (.list [qD q])=aa (dj (cs++[q])):=(l9 (by rw[aW];exact aw (c8 l) (eX rfl))).trans (aj (λl=>aa (D.list l)) (cU (l₂:=[q])).symm)
theorem aia(l:p.length<=20)(h:m<4):AW n m N A B K R cs p u r j:=by refine(gA (k:=21) r (eX rfl)).elim λk v=>v.elim λc d=>?_;refine(sW (f:=YT) (l:=Bj) c).elim λy v=>v.elim λa i=>?_;rw[<-d]at i;exact⟨yb y.1 y.2,ja [aU y.1,ar y.2,j 2,j 3,j 4,j 5],akP y a,(aG [.b 1 (bP h),.q 0 (adJ (n:=n+1)),.p 2 i,.p 5 (AX (e:=yb y.1 y.2) l)])⟩
theorem aib(l:p.length<=20):AW n 4 N A B K R cs p u r j:=⟨_,j,akQ,(aG [.p 5 (AX (e:=([63],ag,af,[],tO)) l)])⟩
theorem afB(l:p.length<=20):AW n 5 N A B K R cs p u r j:=by
 by_cases h:r.fmod (3)=2
 ·exact⟨_,j,SW af,(aG [.b 9 (tt h),.p 0 (AX (e:=([42,42],af,af,[],[])) l)])⟩
 ·exact⟨_,j,SW ag,(aG [.b 9 (ff h),.p 0 (AX (e:=([42],af,af,[],[])) l)])⟩
theorem aic(l:p.length<=20):AW n 6 N A B K R cs p u r j:=by refine(am4 n r).elim λe v=>v.elim λg s=>?_;exact⟨e,j,s,(aG [.q 10 g,.p 0 (AX (e:=e) l)])⟩
noncomputable def pu(cs:List (List E))(p:List E):List (List E):=cond p.isEmpty cs (cs++[p])
noncomputable def wo(m:Nat)(cs:List (List E)):List (List E):=cond (cQ m 9) (cs++[[]]) cs
theorem ak1(l:cs.length<=20):(be ((bN 36 yc).take 2) (FN (n+2)) (hH N A B K R cs p u v w j)).run=.ok (.next,hH N A B K R (pu cs p) [] u v w j):=by cases p with|nil=>exact aG []|cons e p=>exact aG [.p 4 (Wc (q:=e::p) l)]
theorem ak2(l:cs.length<=20):(be (((bN 36 yc).drop 2).take 1) (FN (n+2)) (hH N A B K R cs p u v (ar m) j)).run=.ok (.next,hH N A B K R (wo m cs) p u v (ar m) j):=by
 by_cases h:m=9
 ·subst h;exact aG [.p 3 (Wc (q:=[]) l)]
 ·unfold wo;exact ae (FF h) (aG [.b 1 (fR h)])
end
abbrev It:=Y×Option (Y×Option (Option Ru))
noncomputable def iO(x:It):List Y:=dP x.2 [] λy=>[y.1]
noncomputable def j9(x:It):List Y:=dP x.2 [] λy=>dP y.2 [] λz=>[y.1]
noncomputable def iP(x:It):List Ru:=dP x.2 [] λy=>dP y.2 [] λo=>dP o [] λu=>[u]
def yX(ng az only:Bool)(t a dW:Y)(cs:List (List E)):It:=(eI ag ng az only t cs++a++dW,aa (eI af ng az only t cs,cond t.isEmpty (aa (aa (rG ng az only t cs))) ak))
def uk(i:Nat):It:=(xJ.getD i []++[10],cond (eA 2 i) (aa (xJ.getD i [],aa ak)) ak)
def Gi(x:It):Prop:=(∃ng az only t a dW cs,Gs cs/\cs≠[]/\cs.length<=11/\Kd t ng only/\BZ (eI ag ng az only t cs) a/\(dW=[10]\/dW=[13,10])/\x=yX ng az only t a dW cs)\/∃i,i<6/\x=uk i
def rU(N:AV)(ai:List It)(cs:List (List E))(p:List E)(u v w:AV)(j:Ja):Rh:=hH N (ai.map λx=>.bytes x.1) (bA (ai.flatMap iO)) (bA (ai.flatMap j9)) ((ai.flatMap iP).map d9) cs p u v w j
section
variable{m i:Nat}{r:Int}{B:List D}
theorem We:rU N (ai++[z]) cs p u v w j=hH N ((ai.map λx=>.bytes x.1)++[.bytes z.1]) (bA (ai.flatMap iO)++bA (iO z)) (bA (ai.flatMap j9)++bA (j9 z)) ((ai.flatMap iP).map d9++(iP z).map d9) cs p u v w j:=by unfold rU bA;refine ae cU ?_;simp only [Og,Og,Og,cU,cU,cU,NO,NO,NO];rfl
def LP(n:Nat)(r:Rh):Ev Os:=(be ((bN 36 yc).drop 3) (FN (n+2)) r).run
theorem ak3(h:m<=9\/cs=[]):LP n (hH N A B K R cs p u v (ar m) j)=.ok (.next,hH N A B K R cs p u v (ar m) j):=by
 by_cases k:9<m
 ·obtain h|rfl:=h
  ·exact aC k (ft.mpr h)
  ·exact aG [.b 1 (bP k)]
 ·exact aG [.b 1 (f0 (qu k))]
theorem ak4(h:9<m)(k:m<16)(g:Gs cs)(l:cs.length<=11)(k0:cs≠[])(i:A.length<aI)(f:B.length<aI)(s:K.length<aI)(o:R.length<aI):∃z w,Gi z/\LP n (hH N A B K R cs p u (ar r) (ar m) j)=.ok (.next,hH N (A++[.bytes z.1]) (B++bA (iO z)) (K++bA (j9 z)) (R++(iP z).map d9) [] p u (ar r) (ar m) w):=by
 obtain⟨ng,only,a,t,d,dW,v,hs,x,e⟩:=ah9 (n:=n) (r:=r) g l k0 h k;refine⟨yX ng a only t d dW cs,ja [j 0,j 1,aU (eI ag ng a only t cs++d++dW),aU (eI af ng a only t cs),.val (d9 (rG ng a only t cs)),aR (!t.isEmpty)],.inl ⟨ng,a,only,t,d,dW,cs,g,k0,l,v,hs,x,rfl⟩,?_⟩;cases cs with
 |nil=>exact aC rfl k0
 |cons q cs=>cases t with|nil=>exact aG [.b 1 (bP h),.q 5 e,.b 1 (et i),.b 1 (et f),.b 3 (et s),.b 1 (et o)]|cons c t=>have z:K++bA []=K:=bu K;have y:R++[].map d9=R:=bu R;show _=Ev.ok (Fl.next,hH N (A++_) (B++_) (K++bA []) (R++[].map d9) [] p u _ _ _);exact ae z (ae y (aG [.b 1 (bP h),.q 5 e,.b 1 (et i),.b 1 (et f)]))
theorem afC(h:i<6):eZ (.list (xJ.map .bytes)) (.int i)=aa (.bytes (xJ.getD i []))/\(xJ.getD i []).length<=3:=ltE h ⟨⟨rfl,eX rfl⟩,⟨rfl,eX rfl⟩,⟨rfl,eX rfl⟩,⟨rfl,eX rfl⟩,⟨rfl,eX rfl⟩,⟨rfl,eX rfl⟩,⟨⟩⟩
theorem ak5(e:r.fmod (8:Nat)=i)(h:i<6)(d:A.length<aI)(l:B.length<aI)(f:K.length<aI):Fk n (hH N A B K R cs p u (ar r) (ar (15:Nat)) j)=.ok (.next,hH N (A++[.bytes (uk i).1]) (B++bA (iO (uk i))) (K++bA (j9 (uk i))) (R++(iP (uk i)).map d9) cs p u (ar r) (ar (15:Nat)) j):=by have g:=afC h;have c:aa (decide (r.fmod (8)>(2)))=aa (eA 2 i):=ae e XC;have g:=e.symm▸g;have a:=mh (y:=[10]) (b:=1) g.2 (eX rfl) rfl;have y:R++[].map d9=R:=bu R;unfold uk;cases k:eA 2 i with|true=>show _=Ev.ok (Fl.next,hH N (A++_) (B++_) (K++_) (R++[].map d9) cs p u _ _ _);refine ae y ?_;have c:=k▸c;exact aG [.b 12 (e▸bP h),.q 0 (EU (n:=n+1)),.p 2 (g.1),.p 0 a,.b 0 (et d),.b 2 c,.q 0 (EU (n:=n+1)),.p 2 (g.1),.b 0 (et l),.q 0 (EU (n:=n+1)),.p 2 (g.1),.b 0 (et f)]|false=>show _=Ev.ok (Fl.next,hH N (A++_) (B++bA []) (K++bA []) (R++[].map d9) cs p u _ _ _);refine ae y (ae (show B++bA []=B from bu B) (ae (show K++bA []=K from bu K) ?_));have c:=k▸c;exact aG [.b 12 (e▸bP h),.q 0 (EU (n:=n+1)),.p 2 (g.1),.p 0 a,.b 0 (et d),.b 2 c]
end
def yY(c:tQ)(k:Nat):B:=.cmp c (.vw 9) (.c (.int k))
section
variable{m:Nat}{r:Int}{B:List D}{ai:List It}
theorem afD:(bN 36 [2]).drop 1=[.ite (yY .Lt 4) (bN 36 [2,1]) (bN 36 [2,101])]/\bN 36 [2,101]=[.ite (yY .Eq 4) (bN 36 [2,101,0]) (bN 36 [2,101,100])]/\bN 36 [2,101,100]=[.ite (yY .Eq 5) (bN 36 [2,101,100,0]) (bN 36 [2,101,100,100])]/\bN 36 [2,101,100,100]=[.ite (yY .Eq 6) (bN 36 [2,101,100,100,0]) (bN 36 [2,101,100,100,100])]/\bN 36 [2,101,100,100,100]=[.ite (.kH af [yY .Eq 15,.cmp .Lt (.fk xN (.vw 8) (.c (.int (8:Nat)))) (.c (.int (6:Nat)))]) (bN 36 [2,101,100,100,100,0]) (bN 36 yc)]:=⟨by kernel_rfl,by kernel_rfl,by kernel_rfl,by kernel_rfl,by kernel_rfl⟩
theorem aid(h:6<m)(k:m≠15\/¬r.fmod (8:Nat)<(6:Nat))(g:(be (bN 36 yc) (FN (n+2)) (hH N A B K R cs p u (ar r) (ar m) j)).run=.ok o):Fk n (hH N A B K R cs p u (ar r) (ar m) j)=.ok o:=by
 unfold Fk;refine afD.elim λt v=>v.elim λs w=>w.elim λi y=>y.elim λf c=>?_;have ne:∀a,a<=6->m≠a:=λa l e=>aC h (ft.mpr (ae e l));have q:∀a,a<=6->(yY .Eq a (FN (n+2)) (hH N A B K R cs p u (ar r) (ar m) j)).run=.ok ag:=λa l=>(aG [.b 1 (fR (ne a l))]);refine ae t ?_;refine AU ?_ ?_
 ·exact aG [.b 1 (f0 (b:=4) (aw (eX rfl) (dk h)))]
 ·refine ae s ?_;refine AU (q 4 (eX rfl)) ?_;refine ae i ?_;refine AU (q 5 (eX rfl)) ?_;refine ae f ?_;refine AU (q 6 (eX rfl)) ?_;refine ae c ?_;refine AU ?_ g;by_cases d:m=15
  ·subst d;exact aG [.b 4 (ff (k.resolve_left λz=>z rfl))]
  ·exact aG [.b 1 (fR d)]
def Iv(i:Nat)(ai:List It)(cs:List (List E))(p:List E):Prop:=(∀x∈ai,Gi x)/\ai.length<=i/\Gs cs/\(∀e∈p,Sg e)/\p.length<=i/\cs.length+min 1 p.length<=i
theorem Wf(h:∀x,(f x).length<=1)(l:ai.length<=11):(bA (ai.flatMap f)).length<aI:=bn (aw (cJ (aW ..)) (aw (nL h ai) (dy 1 l))) (eX rfl)
theorem AG(x:It):(iO x).length<=1/\(j9 x).length<=1/\(iP x).length<=1:=by obtain⟨l,_|⟨r,_|_|u⟩⟩:=x<;>exact⟨cH rfl,cH rfl,cH rfl⟩
theorem ak6(l:ai.length<=11):(ai.map λx=>D.bytes x.1).length<aI/\(bA (ai.flatMap iO)).length<aI/\(bA (ai.flatMap j9)).length<aI/\((ai.flatMap iP).map d9).length<aI:=⟨bn (aw (cJ (aW ..)) l) (eX rfl),Wf (λx=>(AG x).1) l,Wf (λx=>(AG x).2.1) l,bn (aw (cJ (aW ..)) (aw (nL (λx=>(AG x).2.2) ai) (dy 1 l))) (eX rfl)⟩
theorem Iv.one(h:Iv i ai cs p)(s:Sg e):Iv (i+1) ai cs (p++[e]):=⟨h.1,iB h.2.1,h.2.2.1,dg h.2.2.2.1 (aQ ⟨s,aZ⟩),ae aS (c8 h.2.2.2.2.1),dz (aw (cB ..) h.2.2.2.2.2) (aiu ..)⟩
theorem Iv.push(h:Iv i ai cs p)(l:i<=10):Gs (wo m (pu cs p))/\(wo m (pu cs p)).length<=i+1/\(pu cs p).length<=20/\cs.length<=20:=by
 have a:Gs (pu cs p)/\(pu cs p).length<=i:=by cases p with|nil=>exact⟨h.2.2.1,aw (cB ..) h.2.2.2.2.2⟩|cons e p=>exact⟨dg h.2.2.1 (aQ ⟨⟨h.2.2.2.1,aw h.2.2.2.2.1 (aw l (eX rfl))⟩,aZ⟩),by have z:=h.2.2.2.2.2;rw[show min 1 (e::p).length=1 from nw (c8 (cy _))]at z;exact aw (cJ aS) z⟩
 refine⟨?_,?_,aw a.2 (aw l (eX rfl)),aw (aw (cB ..) h.2.2.2.2.2) (aw l (eX rfl))⟩<;>unfold wo<;>cases cQ m 9
 ·exact a.1
 ·exact dg a.1 (aQ ⟨⟨aZ,cy _⟩,aZ⟩)
 ·exact iB a.2
 ·exact aw (cJ aS) (c8 a.2)
def XD(n i:Nat)(N:AV)(x:Int)(ai:List It)(cs:List (List E))(p:List E)(v w:AV)(j:Ja):Prop:=∃b c a d w' e,tn 36 [2] (n+2) (rU N ai cs p (ar x) v w j)=.ok (.next,rU N b c a (ar x) d w' e)/\Iv (i+1) b c a
theorem aie(h:Iv i ai cs p)(l:i<=10):XD n i N x ai cs p v w j:=by
 refine(gA (k:=16) x (eX rfl)).elim λm f=>f.elim λH e=>?_;have a:(be ((bN 36 [2]).take 1) (FN (n+2)) (rU N ai cs p (ar x) v w j)).run=.ok (.next,rU N ai cs p (ar x) (ar (x.fdiv (16))) (ar (x.fmod (16:Nat))) j):=aG [];have a:=e▸a;have pl:p.length<=20:=aw h.2.2.2.2.1 (aw l (eX rfl));have il:=ak6 (iB (aw h.2.1 l));have o:AW n m N (ai.map λx=>.bytes x.1) (bA (ai.flatMap iO)) (bA (ai.flatMap j9)) ((ai.flatMap iP).map d9) cs p (ar x) (x.fdiv (16)) j->XD n i N x ai cs p v w j:=λz=>z.elim λe z=>z.elim λs z=>⟨ai,cs,p++[e],ar (x.fdiv (16)),ar m,s,ji 1 a z.2,h.one z.1⟩;by_cases k:m<4
 ·exact o (aia pl k)
 by_cases D:m=4
 ·exact o (ae D (aib pl))
 by_cases k5:m=5
 ·exact o (ae k5 (afB pl))
 by_cases C:m=6
 ·exact o (ae C (aic pl))
 by_cases d:m=15/\(x.fdiv (16)).fmod (8)<(6)
 ·obtain⟨q,I,eq⟩:=gA (k:=8) (x.fdiv (16)) (eX rfl);have t:=jJ.mp (eq▸d.2);have z:=ak5 (n:=n) (N:=N) (R:=(ai.flatMap iP).map d9) (cs:=cs) (p:=p) (u:=ar x) (j:=j) eq t il.1 il.2.1 il.2.2.1;rw[<-We,<-d.1]at z;exact⟨ai++[uk q],cs,p,_,_,j,ji 1 a z,dg h.1 (aQ ⟨.inr ⟨q,t,rfl⟩,aZ⟩),ae aS (c8 h.2.1),h.2.2.1,h.2.2.2.1,iB h.2.2.2.2.1,iB h.2.2.2.2.2⟩
 ·have d':m≠15\/¬(x.fdiv (16)).fmod (8)<(6):=by
   by_cases y:m=15
   ·exact .inr λz=>d ⟨y,z⟩
   ·exact .inl y
  have g:=h.push (m:=m) l;have pa:=ak1 (n:=n) (N:=N) (A:=ai.map λx=>.bytes x.1) (B:=bA (ai.flatMap iO)) (K:=bA (ai.flatMap j9)) (R:=(ai.flatMap iP).map d9) (p:=p) (u:=ar x) (v:=ar (x.fdiv (16:Nat))) (w:=ar m) (j:=j) g.2.2.2;have G:=ak2 (n:=n) (m:=m) (N:=N) (A:=ai.map λx=>.bytes x.1) (B:=bA (ai.flatMap iO)) (K:=bA (ai.flatMap j9)) (R:=(ai.flatMap iP).map d9) (p:=[]) (u:=ar x) (v:=ar (x.fdiv (16:Nat))) (j:=j) g.2.2.1;have E:∀{o},LP n (hH N (ai.map λx=>.bytes x.1) (bA (ai.flatMap iO)) (bA (ai.flatMap j9)) ((ai.flatMap iP).map d9) (wo m (pu cs p)) [] (ar x) (ar (x.fdiv (16:Nat))) (ar m) j)=.ok o->tn 36 [2] (n+2) (rU N ai cs p (ar x) v w j)=.ok o:=λz=>ji 1 a (aid (Cj (Cj (Cj (qu k) (jS D)) (jS k5)) (jS C)) d' (ib (l:=bN 36 yc) (a:=0) (b:=2) (c:=2) rfl pa (ib (b:=1) (c:=3) rfl G z)));by_cases y:m<=9\/wo m (pu cs p)=[]
  ·exact⟨ai,_,[],_,_,j,E (ak3 y),h.1,iB h.2.1,g.1,aZ,cy _,g.2.1⟩
  ·have F:9<m:=lP λz=>y (.inl z);obtain⟨z,s,gz,w⟩:=ak4 (n:=n) (r:=x.fdiv (16:Nat)) (N:=N) (p:=[]) (u:=ar x) (j:=j) F H g.1 (aw g.2.1 (c8 l)) (λz=>y (.inr z)) il.1 il.2.1 il.2.2.1 il.2.2.2;rw[<-We]at w;exact⟨ai++[z],[],[],_,_,s,E w,dg h.1 (aQ ⟨gz,aZ⟩),ae aS (c8 h.2.1),aZ,aZ,cy _,cy _⟩
def Dw:=λn N=>(∀(xs:List Int),∀{i ai cs p u v w j},Iv i ai cs p->i+xs.length<=11->∃a f d c b w' e,lf 36 [2] (n+2) ag [7] (xs.map .int) (rU N ai cs p u v w j)=.ok (.next,rU N a f d c b w' e)/\(∀x∈a,Gi x)/\a.length<=i+xs.length:Prop)
def Pw:=tS Dw (aO nI WJ)
def adM:=Pw.1
def adN:=Pw.2
theorem ab8:Dw adM adN:=λa=>by induction a with|nil=>exactλ{i ai cs p u v w j} h y=>⟨ai,cs,p,u,v,w,j,rfl,h.1,h.2.1⟩|cons x a ih=>intro i ai cs p u v w j h l;obtain⟨s,A,q,o,n,r,e,k⟩:=aie h (NR (aw (c8 (cB i a.length)) l));obtain⟨t,m,f,d,c,b,g,e',z⟩:=ih k (by rw[r7];exact l);exact⟨t,m,f,d,c,b,g,er rfl e e',z.1,by refine ae eY ?_;rw[<-fG,r7];exact z.2⟩
theorem aif{n N}:Dw n N:=yj Dw ab8
def Dx:=λ(n:Nat) (xs:List Int)=>(∀(l:xs.length<=8),∃ai:List It,(∀x∈ai,Gi x)/\ai.length<=9/\aV (FN (n+3)) 36 [.list (xs.map .int)]=.ok (.tup [.list (ai.map λx=>.bytes x.1),.list (bA (ai.flatMap iO)),.list (bA (ai.flatMap j9)),.list ((ai.flatMap iP).map d9)]):Prop)
def Px:=tS Dx (aO nI nI)
def Qj:=Px.1
def wQ:=Px.2
theorem ab9:Dx Qj wQ:=λl=>by have a:(wQ++[10]).length<=9:=ae aS (c8 l);obtain⟨ai,c,p,u,v,w,j,e,g,b⟩:=aif (n:=Qj) (N:=cA (wQ.map .int)) (wQ++[10]) (u:=.U) (v:=.U) (w:=.U) (j:=ja []) ⟨aZ,cy _,aZ,aZ,cy _,cy _⟩ (by rw[dD];exact aw a (eX rfl));have d:c6 (.list (wQ.map .int)) (.list [.int (10)])=aa (.list ((wQ++[10]).map .int)):=(l9 (by rw[aW];exact aw (c8 l) (eX rfl))).trans (aj (λl=>aa (D.list l)) (cU (l₂:=[10])).symm);exact⟨ai,g,aw b (by rw[dD];exact a),(bc [.p 1 d,.l 1 e])⟩
theorem aig{n xs}:Dx n xs:=yj Dx ab9
end
noncomputable def Nh:Fn:=λx x=>.no
def Ni(r:Rh):Ev Os:=(be mQ Nh r).run
def Gz(r:Rh):Ev Bool:=(Xm 47 [3] yE Nh r).run
def GA(r:Rh):Ev Os:=(be ((t8 (b7 47) 19 (LB 3 (FS yE 3))).getD []) Nh r).run
def Td(x:It):Prop:=∀F,∃s,Ni [F,aU x.1]=.ok (dP x.2 (.cont,[F,s]) λy=>(.next,[F,aU y.1]))
section
variable{L dW:Y}{ai:List It}
theorem yZ(h:b=t):qZ (.bool b)=aa t:=aj aa h
theorem anc{t:Y}(h:∀a,t≠a++s):s.isSuffixOf t=ag:=gL.mpr λk=>(nh.mp k).elim λa e=>h a e.symm
theorem Wg{s a:Y}:s.isSuffixOf (a++s)=af:=nh.mpr ⟨a,rfl⟩
theorem UN(h:∀a,L=a++[32]->∃b,a=b++[92]):wh Gz GA [F,aU L]=.ok (.next,[F,aU L]):=kt (by
 cases k:([32]).isSuffixOf L with
 |false=>exact((aG [.b 2 (yZ k)]))
 |true=>
  obtain⟨a,rfl⟩:=nh.mp k;obtain⟨b,rfl⟩:=h a rfl;have c:([92,32]).isSuffixOf (b++[92]++[32])=af:=by rw[bg];exact Wg
  exact((aG [.b 2 (yZ k),.b 2 (yZ c)])))
theorem Wh(h:L.getLast?≠aa 92):wh Gz GA [F,aU (L++[32])]=wh Gz GA [F,aU L]:=by have k:([92,32]).isSuffixOf (L++[32])=ag:=anc λa e=>h (by exact ae ((Hs (show L++[32]=(a++[92])++[32] by refine ae e ?_;rw[bg];rfl) rfl).1) (wy));have d:=ku (P:=L++[32]);rw[wx]at d;exact vt ((aG [.b 2 (yZ (Wg (s:=[32]) (a:=L))),.b 2 (yZ k)])) ((aG [.p 2 d]))
theorem aih(h:∀a,L=a++[32]->∃b,a=b++[92])(s:BZ L sp):wh Gz GA [F,aU (L++sp)]=.ok (.next,[F,aU L]):=by
 obtain rfl|⟨rfl,s⟩:=s
 ·rw[bu];exact UN h
 ·exact ae (show L++[32,32]=L++[32]++[32]from(bg L [32] [32]).symm) (ae (Wh (by refine ae (wy) ?_;decide)) (ae (Wh s) (UN h)))
theorem ak7(h:∀c∈L,32<=c)(e:dW=[10]\/dW=[13,10])(k:L≠[]):fw [13,10] (L++dW)=L:=by
 unfold fw;have d:(L++dW).reverse.dropWhile (([13,10]).contains ·)=L.reverse.dropWhile (([13,10]).contains ·):=by refine ae G1 ?_;obtain rfl|rfl:=e<;>rfl
 refine ae d ?_;cases q:L.reverse with
 |nil=>exact aC (NL.mp q) k
 |cons x u=>
  have m:=h x (kV.mp (ae q (.head _)));rw[B2 (λz=>by
   obtain rfl|z:=ch.mp (ed.mp z)
   ·exact aC m (eX rfl)
   ·exact aC (bB.mp z▸m) (eX rfl)),<-q,uw]
theorem ane{r:Y}(h:33<=c):(uY (c::r)).isEmpty=ag:=by
 have z:nZ c=ag:=by unfold nZ;refine ae (fX λe=>aC (e▸h) (eX rfl)) ?_;rw[lQ λe=>aC (aw h e) (eX rfl),wH];rfl
 have d:∀u,(u++[c]).dropWhile nZ≠[]:=λu=>by
  induction u with
  |nil=>exact ae (B2 (by rw[z];decide)) b5
  |cons x u ih=>
   by_cases w:nZ x=af
   ·exact ae sd (ae (List.dropWhile_cons_of_pos w) ih)
   ·exact ae sd (ae (B2 w) b5)
 unfold uY;exact ae (B2 (by rw[z];decide)) (ae qq (za.mpr λe=>d _ (NL.mp e)))
theorem EV(b:Bl L R)(h:Hl L)(s:BZ L sp)(e:dW=[10]\/dW=[13,10]):Ni [F,aU (L++sp++dW)]=.ok (.next,[F,aU R]):=by have a:=aih (F:=F) b.1.2 s;have u:=b.2.2 [] aN;simp only [bu,show R++jQ []=R from bu R]at u;have f:=h.app sp;refine f.elim λc v=>v.elim λr x=>x.elim λw k=>k.elim λd h2=>?_;have g:=ak7 (dg b.2.1 (s.elim (λz=>z▸aZ) λz=>z.1▸(eX rfl))) e (w▸b5:L++sp≠[]);rw[w]at a g⊢;exact am u ((aG [.p 1 ((aj (λy=>aa (D.bytes y)) g)),.b 2 ((aj (λb=>aa !b) (ane d):qZ (.bytes (uY (c::r)))=aa af)),.b 2 (yZ (aj (·&&([]).isPrefixOf r) (fX (jS h2)))),.l 0 a]))
theorem aii(h:i<6):Td (uk i):=λF=>ltE h ⟨⟨.U,EV (Bl.of (eX rfl)) ⟨33,[47],rfl,eX rfl,eX rfl⟩ (.inl rfl) (.inl rfl)⟩,⟨.U,EV (Bl.of (eX rfl)) ⟨47,[],rfl,eX rfl,eX rfl⟩ (.inl rfl) (.inl rfl)⟩,⟨.U,EV (Bl.of (eX rfl)) ⟨33,[],rfl,eX rfl,eX rfl⟩ (.inl rfl) (.inl rfl)⟩,⟨aU [],((aG []))⟩,⟨.val (.bytes [32,9]),((aG []))⟩,⟨.val (.bytes [35,32,97]),((aG []))⟩,⟨⟩⟩
theorem anf(k:Kd t ng only):∀c∈t,33<=c:=k.elim (λz=>ae z aZ) λz=>z.1.elim λx w=>w.2.elim λy a=>ae a.2 (dg ((by decide+kernel:∀x∈rq,∀c∈x,33<=c) x w.1) ((by decide:∀x∈([[],[47,97]]),∀c∈x,33<=c) y a.1))
theorem ang(h:Gi x):Td x:=by
 obtain⟨ng,d,only,t,c,dW,cs,g,k0,l,a,hs,b,rfl⟩|⟨i,hi,rfl⟩:=h
 ·exactλF=>⟨.U,EV (am8 g (anf a)) (Wb g k0) hs b⟩
 ·exact aii hi
theorem aca:∀{F s},(∀x∈ai,Gi x)->gS (ai.map λx=>.bytes x.1) [F,s]=.ok (ai.flatMap iO):=by
 induction ai with
 |nil=>exactλz=>rfl
 |cons x ai ih=>
  intro F s h;refine(ang (h x (.head _)) F).elim λv e=>?_;have i:=λs=>ih (F:=F) (s:=s) λy m=>h y (.tail _ m);show((Ni [F,aU x.1]).calm.bind λo=>_)=_;refine ae e ?_;obtain⟨l,_|⟨r,o⟩⟩:=x
  ·show(gS (ai.map λx=>.bytes x.1) [F,v])=_;rw[i];rfl
  ·show(gS (ai.map λx=>.bytes x.1) [F,aU r]).bind _=_;rw[i];rfl
theorem ak8(h:∀x∈ai,Gi x)(l:ai.length<=11):aV (FN (n+1)) 47 [.list (ai.map λx=>.bytes x.1)]=.ok (.list (bA (ai.flatMap iO))):=by have e:=aca (F:=cA (ai.map λx=>.bytes x.1)) (s:=.U) h;show((gS _ _).calm.bind _).bind _=_;refine ae e ?_;show(Ev.of (gd _ _)).bind _=_;refine ae (dU (aw (nL (λx=>(AG x).1) ai) (aw (dy 1 l) (eX rfl)))) ?_;rfl
end
def Pq(m:Nat)(p:Y):Prop:=(p≠[]/\p.length<=m)/\∀c∈p,c<128/\c≠47
def O7(p:Y):Prop:=∀c∈p,c<128/\c≠47
section
def wp(C N:AV)(L:List D)(s:AV)(d:Int)(p:Y)(j:Ja):Rh:=[C,N,.own L,s,ar d,.own (il p),j 0,j 1,j 2,j 3,j 4]
def ej(e:E):Ja:=ja [aU e.1,aR e.2.1,aR e.2.2.1,cA (e.2.2.2.1.map rg),cA (il e.2.2.2.2)]
theorem vz(h:x.length<=a)(k:y.length<=b)(w:iX (a+b) 10000=af):c6 (.list (il x)) (.list (il y))=aa (.list (il (x++y))):=(l9 (by unfold il;simp only [aW,aW];exact aw (dz h k) (aw (cH w) (eX rfl)))).trans (aj (λl=>aa (D.list l)) Ay.symm)
theorem anh(h:x.length<=1000):(il x).length<aI:=bn (aw (cJ (aW ..)) h) (eX rfl)
theorem afE(g:rp e.2.2.2.2)(l:p.length<=100):∃v,O7 v/\v.length<=2/\tn 44 [1,101,1] n (wp C N L s d p (ej e))=.ok (.next,wp C N L s d (p++v) (ej e)):=by
 obtain⟨T,eD,ng,R,F⟩:=e;cases eD with
 |true=>obtain⟨k,a,h⟩:=gA (k:=3) d (eX rfl);have o:dh (.list (il [120,97])) .none (.int (d.fmod (3)))=aa (.list (il (([120,97]).take k))):=ae h ((sU (bX a (eX rfl))).trans (aj (λl=>aa (D.list l)) oW.symm));have j:(([120,97]).take k).length<=2:=ww ..;refine⟨([120,97]).take k,λc m=>(by decide:∀c∈([120,97]),c<128/\c≠47) c (rY m),j,?_⟩;exact aX [.p 5 o,.p 0 (vz l j rfl)]
 |false=>have lp:=anh (aw l (eX rfl));cases F with|nil=>refine⟨[97],aQ ⟨eX rfl,aZ⟩,eX rfl,?_⟩;unfold wp;exact ae Ay (aX [.b 4 (et lp)])|cons c F=>have z:(il (c::F)).length=F.length+1:=aW ..;refine(gA (k:=F.length+1) (d+(il p).length) (iD _)).elim λk u=>u.elim λa h=>?_;obtain⟨x,hx,i⟩:=sW (f:=λk:Nat=>D.int k) (l:=c::F) a;refine⟨[x],aQ ⟨g.2 x hx,aZ⟩,cH rfl,?_⟩;unfold wp;refine ae Ay ?_;have q:xN (.int (d+(il p).length)) (.int (il (c::F)).length)=aa (.int ((d+(il p).length).fmod (il (c::F)).length)):=dU (ae z ⟨jJ.mpr (iD _),jJ.mpr (bn g.1 (eX rfl))⟩);exact aX [.p 11 q,.p 0 (z.symm▸h.symm▸i),.b 0 (et lp)]
theorem ak9(q:List E):∀{p j},(∀e∈q,rp e.2.2.2.2)->O7 p->p.length+2*q.length<=100->∃v f,O7 v/\v.length<=p.length+2*q.length/\lf 44 [1,101,1] n af [6,7,8,9,10] (q.map m9) (wp C N L s d p j)=.ok (.next,wp C N L s d v f):=by
 induction q with
 |nil=>exactλ{p j} y o l=>⟨p,j,o,bO _,rfl⟩
 |cons e q ih=>
  intro p j h o l;have a:p.length+2*(e::q).length=p.length+2+2*q.length:=by simp only [eY,sr,fG,gn 2]
  rw[a]at l⊢;obtain⟨v,ov,lv,t⟩:=afE (h e (.head _)) (aw (aw (cB _ 2) (cB _ _)) l);have b:(p++v).length+2*q.length<=p.length+2+2*q.length:=eW (gB (bO _) lv) _;obtain⟨w,f,g,c,r⟩:=ih (λx m=>h x (.tail _ m)) (dg o ov) (aw b l);exact⟨w,f,g,aw c b,er rfl t r⟩
def y5(C N:AV)(ps:List Y)(s d p:AV)(j:Ja):Rh:=[C,N,.own (ps.map λp=>.list (il p)),s,d,p,j 0,j 1,j 2,j 3,j 4]
theorem Ks{y:List Y}:(x.map λp=>D.list (il p))++(y.map λp=>D.list (il p))=(x++y).map λp=>D.list (il p):=cU.symm
theorem xK(h:x.length<=a)(k:y.length<=b)(w:iX (a+b) 10000=af):c6 (cE x) (cE y)=aa (cE (x++y)):=(l9 (by simp only [aW,aW];exact aw (dz h k) (aw (cH w) (eX rfl)))).trans (aj (λl=>aa (D.list l)) Ks)
theorem aij(g:∀e∈q,rp e.2.2.2.2)(l:q.length<=12)(b:ps.length<=100):∃v i d' a' f,(∀p∈v,Pq 24 p)/\v.length<=2/\tn 44 [1] n (y5 C (ar x) ps (.val (qD q)) d a j)=.ok (.next,y5 C (ar i) (ps++v) (.val (qD q)) d' a' f):=by
 cases q with
 |nil=>obtain⟨k,s,t⟩:=gA (k:=3) (x.fmod (12)) (eX rfl);have o:dh (cE [[97],[98,46]]) .none (.int ((x.fmod (12)).fmod (3)))=aa (cE (([[97],[98,46]]).take k)):=ae t ((sU (bX s (eX rfl))).trans (aj (λl=>aa (D.list l)) oW.symm));have h:(([[97],[98,46]]).take k).length<=2:=ww ..;refine⟨_,x.fdiv (12),ar (x.fmod (12)),a,j,λp m=>?_,h,(aX [.p 7 o,.p 0 (xK b h rfl)])⟩;exact(aQ ⟨⟨⟨b5,eX rfl⟩,eX rfl⟩,aQ ⟨⟨⟨b5,eX rfl⟩,eX rfl⟩,aZ⟩⟩) p (rY m)
 |cons e q=>
  obtain⟨v,f,ov,lv,r⟩:=ak9 (e::q) g aZ (by simp only [wE,dD];exact aw (dy 2 l) (eX rfl));have lp:(ps.map λp=>D.list (il p)).length<aI:=bn (aw (cJ (aW ..)) b) (eX rfl);have r:lf 44 [1,101,1] n af [6,7,8,9,10] ((e::q).map m9) (wp C (ar (x.fdiv (12))) (ps.map λp=>.list (il p)) (.val (qD (e::q))) (x.fmod (12)) [] j)=_:=r;cases v with
  |nil=>refine⟨[[98]],x.fdiv (12),ar (x.fmod (12)),cA [],f,aQ ⟨⟨⟨b5,eX rfl⟩,eX rfl⟩,aZ⟩,eX rfl,?_⟩;unfold y5;exact am Ks (aX [.l 6 r,.b 2 (et lp)])
  |cons c v=>
   refine⟨[c::v],x.fdiv (12),ar (x.fmod (12)),cA (il (c::v)),f,aQ ⟨⟨⟨b5,?_⟩,ov⟩,aZ⟩,cH rfl,?_⟩
   ·exact aw lv (by simp only [wE,dD];exact dy 2 l)
   ·unfold y5;exact am Ks (aX [.l 6 r,.b 3 (et lp)])
def Fq(cs:List (List E)):Prop:=∀q∈cs,(∀e∈q,rp e.2.2.2.2)/\q.length<=12
def C9:=λn C=>(∀(cs:List (List E)),∀{ps x d a s j},Fq cs->(∀p∈ps,Pq 24 p)->ps.length+2*cs.length<=60->∃v b d' a' s' c,(∀p∈v,Pq 24 p)/\v.length<=60/\lf 44 [1] n ag [3] (cs.map qD) (y5 C (ar x) ps s d a j)=.ok (.next,y5 C (ar b) v s' d' a' c):Prop)
def OR:=tS C9 (aO nI WJ)
def acb:=OR.1
def acd:=OR.2
theorem aaZ:C9 acb acd:=λcs=>by induction cs with|nil=>exactλ{ps x d a s j} y o l=>⟨ps,x,d,a,s,j,o,l,rfl⟩|cons q cs ih=>intro ps x d a s j h o l;have l:=(show ps.length+2*(q::cs).length=ps.length+2+2*cs.length from by simp only [eY,sr,fG,gn 2])▸l;obtain⟨v,i,d',n,k,ov,lv,t⟩:=aij (h q (.head _)).1 (h q (.head _)).2 (aw (aw (aw (cB _ 2) (cB _ _)) l) (eX rfl));obtain⟨w,b,f,g,c,e,z⟩:=ih (λx m=>h x (.tail _ m)) (dg o ov) (aw (eW (gB (bO _) lv) _) l);exact⟨w,b,f,g,c,e,z.1,z.2.1,er rfl t z.2.2⟩
theorem afF{n C}:C9 n C:=yj C9 aaZ
theorem ani(h:Fq cs)(l:cs.length<=12)(x:Int):∃ps,(ps≠[]/\ps.length<=3/\∀p∈ps,Pq 24 p)/\aV (FN (n+1)) 44 [dj cs,.int x]=.ok (cE ps):=by obtain⟨v,c,d',g,s',f,o,_,e⟩:=afF (n:=n) (C:=.val (dj cs)) cs (x:=x) (d:=.U) (a:=.U) (s:=.U) (j:=ja []) h aZ (by refine ae wE ?_;rw[dD];exact aw (dy 2 l) (eX rfl));cases v with|nil=>exact⟨[[97]],⟨b5,eX rfl,aQ ⟨⟨⟨b5,eX rfl⟩,eX rfl⟩,aZ⟩⟩,(bc [.l 2 e])⟩|cons p v=>have b:dh (cE (p::v)) .none (.int (3))=aa (cE ((p::v).take 3)):=(sU (eX rfl)).trans (aj (λl=>aa (D.list l)) oW.symm);exact⟨(p::v).take 3,⟨b5,wA ..,λq m=>o q (rY m)⟩,(bc [.l 2 e,.p 3 b])⟩
end
section
variable{α:Type}{k:Nat}{l:List α}
theorem Ri(h:k<l.length):∃u c v,l=u++c::v/\u.length=k:=⟨l.take k,l[k],l.drop (k+1),(oJ k l).symm.trans (aj _ (GL h)),List.length_take_of_le (dk h)⟩
theorem UO(h:k<100000):dh (.list L) (.int k) .none=aa (.list (L.drop k)):=by
 show(gd (k<4611686018427387904) (aa (jV k L.length))).bind (λh=>aa (D.list (lB L h L.length)))=_;refine ae (dU (bX h (eX rfl))) (ae sI ?_);show aa (D.list ((L.take L.length).drop (min k L.length)))=_;refine ae kU ?_;refine aj (λl=>aa (D.list l)) ?_;by_cases q:k<=L.length
 ·exact ae (nw q) rfl
 ·exact ae (CA (afY q)) (ae zo (ae (wv (afY q)) rfl))
theorem LQ{c:α}(h:u.length<90000):dh (.list ((u++c::v).map f)) .none (.int u.length)=aa (.list (u.map f)):=(sU (bX h (eX rfl))).trans (aj (λl=>aa (D.list l)) (am oW (ae HF rfl)))
theorem aoL{c:α}(h:u.length<90000):dh (.list ((u++c::v).map f)) (.int u.length) .none=aa (.list ((c::v).map f)):=(UO (bX h (eX rfl))).trans (aj (λl=>aa (D.list l)) (am si (ae qx rfl)))
theorem LR{c:α}(h:u.length<90000):dh (.list ((u++c::v).map f)) (.int (u.length+1:Nat)) .none=aa (.list (v.map f)):=(UO (bX (jH h) (eX rfl))).trans (aj (λl=>aa (D.list l)) (by show((u++c::v).map f).drop (u.length+1)=_;refine am si (am ny (ae qx ?_));rfl))
theorem XE{c:α}:eZ (.list ((u++c::v).map f)) (.int u.length)=aa (f c):=nX (by refine am si (ae qx ?_);rfl)
theorem LS(h:0<k)(w:k<1073741824):xN (.int r) (.int k)=aa (.int (r.fmod k)):=dU ⟨jJ.mpr h,jJ.mpr w⟩
end
noncomputable def ka(R:AV)(x:Int)(p w s d b:Nat)(P K Q L O y z:AV):Rh:=[R,ar x,ar p,ar w,ar s,ar d,ar b,P,K,Q,L,O,y,z]
def na(m:Nat)(ps:List Y):Prop:=ps≠[]/\ps.length<=3/\∀p∈ps,Pq m p
section
variable{Q:AV}
theorem anj(x:Int):∃a p w s d b,b<256/\w<8/\(be ((bN 45 []).take 5) (FN n) [R,ar x,.U,.U,.U,.U,.U,.U,.U,.U,.U,.U,.U,.U]).run=.ok (.next,ka R a p w s d b .U .U .U .U .U .U .U):=by refine(gA (k:=5) x (eX rfl)).elim λp u=>u.elim λy h=>?_;refine(gA (k:=8) (x.fdiv (5)) (eX rfl)).elim λw u=>u.elim λhw g=>?_;refine(gA (k:=5) ((x.fdiv (5)).fdiv (8)) (eX rfl)).elim λs u=>u.elim λy f=>?_;refine(gA (k:=11) (((x.fdiv (5)).fdiv (8)).fdiv (5)) (eX rfl)).elim λd u=>u.elim λy e=>?_;refine(gA (k:=256) ((((x.fdiv (5)).fdiv (8)).fdiv (5)).fdiv (11)) (eX rfl)).elim λb u=>u.elim λhb c=>?_;refine⟨((((x.fdiv (5)).fdiv (8)).fdiv (5)).fdiv (11)).fdiv (256),p,w,s,d,b,hb,hw,?_⟩;unfold ka;exact am h (am g (am f (am e (am c (aG [])))))
def Rf(rs:List Ru):Prop:=∀r∈rs,Fq r.2.2.2/\r.2.2.2.length<=12
theorem ank(h:Rf rs)(c:rs.length<=1000):∃ps,na 24 ps/\(be (((bN 45 []).drop 5).take 1) (FN (n+1)) (ka (.val (fb rs)) x p w s d b .U K Q L O y z)).run=.ok (.next,ka (.val (fb rs)) x p w s d b (.val (cE ps)) K Q L O y z):=by cases rs with|nil=>exact⟨[[97]],⟨b5,eX rfl,aQ ⟨⟨⟨b5,eX rfl⟩,eX rfl⟩,aZ⟩⟩,(aG [])⟩|cons r rs=>obtain⟨k,j,m⟩:=gA (k:=rs.length+1) p (iD _);obtain⟨u,a,i⟩:=sW (f:=d9) (l:=r::rs) j;have z:((r::rs).map d9).length=rs.length+1:=aW ..;rw[<-m,<-z]at i;obtain⟨ps,g,e⟩:=ani (n:=n) (h u a).1 (h u a).2 x;exact⟨ps,g,(aG [.p 6 (LS (r:=p) (k:=((r::rs).map d9).length) (ae z (iD _)) (ae z (bn c (eX rfl)))),.p 0 i,.q 2 e])⟩
theorem anl(h:na 24 ps):∃A q B u c v,ps=A++q::B/\q=u++c::v/\(be (((bN 45 []).drop 6).take 3) (FN n) (ka R x p w s d b (.val (cE ps)) .U .U .U O y z)).run=.ok (.next,ka R x p w s d b (.val (cE ps)) (ar A.length) (cA (il q)) (ar u.length) O y z):=by have e:(ps.map λp=>D.list (il p)).length=ps.length:=aW ..;have l:=zf.mpr h.1;obtain⟨k,o,C⟩:=gA s l;obtain⟨A,q,B,rfl,rfl⟩:=Ri o;have m:=h.2.2 q (fF A (.head B));have e':(il q).length=q.length:=aW ..;have g:=zf.mpr m.1.1;obtain⟨j,t,ej⟩:=gA d g;obtain⟨u,c,v,rfl,rfl⟩:=Ri t;refine⟨A,_,B,u,c,v,rfl,rfl,?_⟩;have f:=LS (r:=s) (e▸l) (e▸bn h.2.1 (eX rfl));have a:=LS (r:=d) (e'▸g) (e'▸bn m.1.2 (eX rfl));have i:eZ (cE (A++(u++c::v)::B)) (.int A.length)=aa (.list (il (u++c::v))):=XE;rw[e,C]at f;rw[e',ej]at a;rw[<-e]at f;rw[<-e']at a;exact aG [.p 3 f,.p 2 i,.p 3 a]
theorem ann(h:b<256):∃o:Nat,(o<128/\o≠47)/\(be (((bN 45 []).drop 9).take 2) (FN (n+1)) (ka R x p w s d b P K Q L .U y z)).run=.ok (.next,ka R x p w s d b P K Q L (ar o) y z):=by
 have t:∀o:Nat,o<128->∃a:Nat,(a<128/\a≠47)/\(be (((bN 45 []).drop 10).take 1) (FN (n+1)) (ka R x p w s d b P K Q L (ar o) y z)).run=.ok (.next,ka R x p w s d b P K Q L (ar a) y z):=λo j=>by
  by_cases e:o=47
  ·subst e;exact⟨98,eX rfl,(aG [])⟩
  ·by_cases e':o=10
   ·subst e';exact⟨98,eX rfl,(aG [])⟩
   ·exact⟨o,⟨j,e⟩,(aG [.b 1 (fR e),.b 1 (fR e')])⟩
 have st:∃o:Nat,o<128/\(be ((((bN 45 []).drop 9).take 2).take 1) (FN (n+1)) (ka R x p w s d b P K Q L .U y z)).run=.ok (.next,ka R x p w s d b P K Q L (ar o) y z):=by
  by_cases k:b<128
  ·refine(gA (k:=24) b (eX rfl)).elim λi u=>u.elim λr v=>?_;obtain⟨o,j,g⟩:=sW (f:=λk:Nat=>D.int k) (l:=Fi) r;rw[<-v]at g;exact⟨o,(by unfold Fi;decide:∀o∈Fi,o<128) o j,(aG [.b 1 (bP k),.q 0 (afA (n:=n)),.p 2 g])⟩
  ·refine(aat (qu k)).elim λo u=>?_;subst u;refine⟨o,Nat.lt_of_add_lt_add_right h,?_⟩;exact aG [.p 3 (aj (λi=>aa (D.int i)) (tz o 128))]
 obtain⟨o,j,B⟩:=st;obtain⟨a,m,A⟩:=t o j;exact⟨a,m,ib (b:=1) (c:=1) rfl B A⟩
end
section
variable{v:Y}
def GB(n:Nat)(R:AV)(x:Int)(p w s d b:Nat)(ps:List Y)(K:Nat)(q:Y)(u:Nat)(o:Nat)(y z:AV)(i:Nat):Ev Os:=(be (((bN 45 []).drop i).take 1) (FN n) (ka R x p w s d b (.val (cE ps)) (ar K) (cA (il q)) (ar u) (ar o) y z)).run
def GC(R:AV)(x:Int)(p w s d b:Nat)(ps:List Y)(K:Nat)(q:Y)(u:Nat)(o:Nat)(y z:AV):Ev Os:=.ok (.next,ka R x p w s d b (.val (cE ps)) (ar K) (cA (il q)) (ar u) (ar o) y z)
theorem tP(h:Pq 24 q):Pq 26 q:=⟨⟨h.1.1,aw h.1.2 (eX rfl)⟩,h.2⟩
theorem ano(h:Pq 24 (u++c::v)):∃w E C,Pq 26 w/\GB n R x p 7 s d b ps K (u++c::v) u.length o y z 11=GC R x p 7 s d b ps K w u.length o E C:=by
 have cv:u.length+(v.length+1)<=24:=by have z:=h.1.2;simp only [aS]at z;exact z
 have r:=aw (cB ..) cv;have A:u.length<90000:=bn r (eX rfl);have hc:=h.2 c (fF u (.head v));have i:eZ (.list (il (u++c::v))) (.int u.length)=aa (.int c):=XE;have g:∀t:Nat,(t<128/\t≠47)->Pq 26 (u++[t]++v):=λt k=>⟨⟨λe=>(b5 ((gj.mp (gj.mp e).1).2)),by refine ae aS ?_;rw[aS,fG,gn [t].length];exact aw cv (eX rfl)⟩,dg (dg (λx m=>h.2 x (ke _ m)) (aQ ⟨k,aZ⟩)) λx m=>h.2 x (fF u (.tail _ m))⟩;have j:dh (.list (il (u++c::v))) .none (.int u.length)=aa (.list (il u)):=LQ A;have f:dh (.list (il (u++c::v))) (.int (u.length+1)) .none=aa (.list (il v)):=LR A;have q:=λt:Nat=>vz (y:=[t]) r (bO 1) rfl;have l:=λt:Nat=>vz (x:=u++[t]) (gB r (bO 1)) (aw (aw (gO _) (mB ..)) cv) rfl;by_cases k1:65<=c
 ·by_cases k2:c<=90
  ·exact⟨u++[c+32]++v,ar c,ar (c+32),g _ ⟨bn (eW k2 32) (eX rfl),λe=>aC (e▸eW k1 32) (eX rfl)⟩,(aG [.p 10 i,.b 1 (lG k1),.b 0 (lG k2),.p 4 j,.p 1 (q (c+32)),.p 3 f,.p 0 (l (c+32))])⟩
  ·by_cases k3:97<=c
   ·by_cases B:c<=122
    ·obtain⟨t,rfl⟩:=aat (aw (by decide:32<=97) k3);have F:=aj (λi=>aa (D.int i)) (tz t 32);exact⟨u++[t]++v,ar (t+32),ar t,g _ ⟨bn (cB t 32) hc.1,λe=>aC (e▸k3) (eX rfl)⟩,(aG [.p 10 i,.b 1 (lG k1),.b 0 (dT (lP k2)),.b 1 (lG k3),.b 0 (lG B),.p 1 F,.p 2 j,.p 1 (q t),.p 3 f,.p 0 (l t)])⟩
    ·exact⟨u++[c]++v,ar c,ar c,g _ hc,(aG [.p 10 i,.b 1 (lG k1),.b 0 (dT (lP k2)),.b 1 (lG k3),.b 0 (dT (lP B)),.p 3 j,.p 1 (q c),.p 3 f,.p 0 (l c)])⟩
   ·exact⟨u++[c]++v,ar c,ar c,g _ hc,(aG [.p 10 i,.b 1 (lG k1),.b 0 (dT (lP k2)),.b 1 (dT (lP k3)),.p 3 j,.p 1 (q c),.p 3 f,.p 0 (l c)])⟩
 ·exact⟨u++[c]++v,ar c,ar c,g _ hc,(aG [.p 10 i,.b 1 (dT (lP k1)),.b 1 (dT (a:=97) (lP λz=>k1 (aw (eX rfl) z))),.p 3 j,.p 1 (q c),.p 3 f,.p 0 (l c)])⟩
end
section
variable{v:Y}{B:List Y}
theorem anp(hw:w<8)(h:Pq 24 (u++c::v))(I:o<128/\o≠47):∃t G F,Pq 26 t/\GB n R x p w s d b ps K (u++c::v) u.length o y z 11=GC R x p w s d b ps K t u.length o G F:=by
 have cv:u.length+(v.length+1)<=24:=by have z:=h.1.2;rw[aS]at z;exact z
 have f:=aw (cB ..) cv;have j:u.length<90000:=bn f (eX rfl);have vl:=aw (mB ..) cv;have E:=zj vl;have i:dh (.list (il (u++c::v))) .none (.int u.length)=aa (.list (il u)):=LQ j;have r:dh (.list (il (u++c::v))) (.int (u.length+1)) .none=aa (.list (il v)):=LR j;have H:dh (.list (il (u++c::v))) (.int u.length) .none=aa (.list (il (c::v))):=aoL j;have C:=vz (y:=[o]) f (bO 1) rfl;have A:=gB (y:=[o]) f (bO 1);have B:=λx m=>h.2 x (ke _ m);have q:=λx m=>h.2 x (fF u m);have g:∀a:Y,a.length<=v.length+1->(∀x∈a,x<128/\x≠47)->Pq 26 (u++[o]++a):=λa l k=>⟨⟨λe=>(b5 ((gj.mp (gj.mp e).1).2)),by simp only [aS,aS,r7];exact c8 (aw (eJ l _) (aw cv (eX rfl)))⟩,dg (dg B (aQ ⟨I,aZ⟩)) k⟩
 exact ltE hw ⟨ano h,⟨_,y,z,tP h,(aG [])⟩,⟨_,y,z,tP h,(aG [])⟩,⟨_,y,z,tP h,(aG [])⟩,by
  by_cases k1:(ps.map λp=>D.list (il p)).length=1
  ·by_cases k2:1<(il (u++c::v)).length
   ·refine⟨u++v,y,z,⟨⟨λe=>?_,?_⟩,dg B λx m=>q x (.tail _ m)⟩,(aG [.b 8 ((aj aa (gN (aj UQ k1)))),.b 2 (bP k2),.p 2 i,.p 3 r,.p 0 (vz f E rfl)])⟩
    ·have e:=gj.mp e;rw[e.1,e.2]at k2;exact aC k2 (jI 1)
    ·exact ae aS (aw (eJ (gO _) _) (aw cv (eX rfl)))
   ·exact⟨_,y,z,tP h,(aG [.b 8 ((aj aa (gN (aj UQ k1)))),.b 2 (f0 (qu k2))])⟩
  ·exact⟨_,y,z,tP h,(aG [.b 8 (fR k1)])⟩
  ,⟨u++[o]++(c::v),y,z,g (c::v) (bO _) q,(aG [.p 6 i,.p 1 C,.p 2 H,.p 0 (vz (y:=c::v) A vl rfl)])⟩,⟨u++[o]++v,y,z,g v (gO _) λx m=>q x (.tail _ m),(aG [.p 4 i,.p 1 C,.p 3 r,.p 0 (vz A E rfl)])⟩,⟨_,y,z,tP h,(aG [])⟩,⟨⟩⟩
theorem anq(h:na 24 (A++q::B))(g:Pq 26 q'):na 26 (A++q'::B)/\GB n R x p w s d b (A++q::B) A.length q' U o y z 12=GC R x p w s d b (A++q'::B) A.length q' U o y z:=by
 have c:A.length+(B.length+1)<=3:=by have z:=h.2.1;have z:=aS▸z;exact z
 have a:=aw (cB ..) c;have f:A.length<90000:=bn a (eX rfl);refine⟨⟨λe=>(b5 ((gj.mp e).2)),ae aS c,dg (λx m=>tP (h.2.2 x (ke _ m))) (aQ ⟨g,λx m=>tP (h.2.2 x (fF A (.tail _ m)))⟩)⟩,?_⟩;have j:dh (cE (A++q::B)) .none (.int A.length)=aa (cE A):=LQ f;have i:dh (cE (A++q::B)) (.int (A.length+1)) .none=aa (cE B):=LR f;exact ae ((bg A [q'] B).symm) (aG [.p 2 j,.p 1 (xK (y:=[q']) a (bO 1) rfl),.p 3 i,.p 0 (xK (x:=A++[q']) (gB a (bO 1)) (aw (aw (gO _) (mB ..)) c) rfl)])
theorem na.tk(h:na 26 ps)(k:Nat)(k0:0<k):na 26 (ps.take k):=⟨λe=>h.1 ((acn.mp e).resolve_left λe=>aC k0 (ae e (jI 0))),aw (ww ..) h.2.1,λq m=>h.2.2 q (rY m)⟩
theorem anr(hw:w<8)(h:na 26 ps)(i:o<128/\o≠47):∃g,na 26 g/\GB n R x p w s d b ps K q U o y z 13=GC R x p w s d b g K q U o y z:=by
 have c:Pq 26 [o]:=⟨⟨b5,cH rfl⟩,aQ ⟨i,aZ⟩⟩;have a:(ps.take 2).length<=2:=wA ..;have f:=Jx (ps:=ps) (k:=2) (eX rfl)
 exact ltE hw ⟨⟨_,h,(aG [])⟩,⟨ps.take 1++[[o],[97]],⟨λe=>(b5 ((gj.mp e).2)),gB (b:=2) (wA ..) (bO 2),dg (h.tk 1 (eX rfl)).2.2 (aQ ⟨c,aQ ⟨(⟨⟨b5,cH rfl⟩,eX rfl⟩),aZ⟩⟩)⟩,(aG [.p 7 (Jx (ps:=ps) (k:=1) (eX rfl)),.p 1 (xK (x:=ps.take 1) (y:=[[o],[97]]) (b:=2) (wA ..) (bO 2) rfl)])⟩,⟨ps.take 2++[[o]],⟨λe=>(b5 ((gj.mp e).2)),gB (b:=1) a (bO 1),dg ((h.tk 2 (eX rfl)).2.2) (aQ ⟨c,aZ⟩)⟩,(aG [.p 5 f,.p 1 (xK (y:=[[o]]) a (bO 1) rfl)])⟩,⟨[[o]]++ps.take 2,⟨b5,gB (bO 1) a,dg (aQ ⟨c,aZ⟩) ((h.tk 2 (eX rfl)).2.2)⟩,(aG [.p 4 f,.p 0 (xK (x:=[[o]]) (bO 1) a rfl)])⟩,by
  by_cases k:1<(ps.map λp=>D.list (il p)).length
  ·refine⟨ps.dropLast,⟨λe=>?_,aw (Ca▸D8 ..) h.2.1,λq m=>h.2.2 q (acm ps m)⟩,(aG [.b 10 (bP k),.p 2 (VX (ps:=ps))])⟩;simp only [qX]at k;have z:=aj iT e;rw[Ca]at z;exact aC (Nat.le_of_sub_eq_zero z) (nD.mpr k)
  ·exact⟨_,h,(aG [.b 10 (f0 (qu k))])⟩
  ,⟨_,h,(aG [])⟩,⟨_,h,(aG [])⟩,⟨_,h,(aG [])⟩,⟨⟩⟩
def DS:=λn rs=>(∀(h:Rf rs) (l:rs.length<=1000) (x:Int),∃ps,na 26 ps/\aV (FN (n+2)) 45 [fb rs,.int x]=.ok (cE ps):Prop)
def Qk:=tS DS (aO nI nI)
def Rj:=Qk.1
def Iy:=Qk.2
theorem adO:DS Rj Iy:=λh l x=>by obtain⟨f,p,w,s,d,b,hb,hw,E⟩:=anj x;obtain⟨ps,e,D⟩:=ank h l;obtain⟨A,q,B,u,c,v,rfl,rfl,C⟩:=anl e;obtain⟨o,i,t⟩:=ann hb;obtain⟨g,y,z,j,r⟩:=anp hw (e.2.2 _ (fF A (.head B))) i;obtain⟨h2,e6⟩:=anq e j;obtain⟨a,k,n⟩:=anr hw h2 i;have m:(be ((bN 45 []).drop 14) (FN (Rj+1)) (ka (.val (fb Iy)) f p w s d b (.val (cE a)) (ar A.length) (cA (il g)) (ar u.length) (ar o) y z)).run=.ok (.ret (cE a),ka (.val (fb Iy)) f p w s d b (.val (cE a)) (ar A.length) (cA (il g)) (ar u.length) (ar o) y z):=aG [];exact⟨a,k,u5 (ji 5 E (ib rfl D (ib rfl C (ib rfl t (ib rfl r (ib rfl e6 (ib rfl n m))))))) (by kernel_rfl)⟩
theorem ala{n rs}:DS n rs:=yj DS adO
end
def cW(q:Bool)(s:Y):Prop:=∀{n i:Nat} {t:Y} {ng c0:AV} {L K:List D} {p:D} {f:Bool},At t i s->Pp q p->L.length+K.length+s.length<=100->bL (n+1) t i ng L K p f c0=.exc
def yd(s:Y):Prop:=∀{n i:Nat} {t:Y} {ng c0:AV},At t i s->bL (n+1) t i ng [] [] .none af c0=.exc
noncomputable def GD:D:=.tup [.bytes [33],.bytes [94]]
def Dm(s:Y):Prop:=(j4 (.bytes (s.take 1)) GD=aa ag/\yd s)\/∃c r,s=c::r/\j4 (.bytes [c]) GD=aa af/\yd r
section
variable{c:Nat}{s u:Y}{L K:List D}
theorem p7:cW q []:=λh x x=>LI h
theorem AH(h:∀n,cS (n+1) q e a k q')(w:a.length+k.length<=e.length)(g:cW q' s):cW q (e++s):=λ{n i t ng d L K p f} x y l=>by
 rw[aS]at l;have z:(Lg L a).length+(Ky K k).length+s.length<=100:=by unfold Lg Ky bA;refine ae aS ?_;rw[aS,aW,aW,Nat.add_add_add_comm,fG];exact aw (eJ (eW w _) _) l
 have b:(Ky K k).length<aI:=bn (aw (aw (mB ..) (cB ..)) z) (eX rfl);exact(h n x x.bK y (bn (aw (aw (cB ..) (cB ..)) z) (eX rfl)) b).elim λc w=>w.elim λj w=>w.2.trans (g x.bK w.1 z)
theorem cW.any(h:cW ag s):cW af s:=λx y l=>h x (y.imp id λv=>⟨rfl,v.2⟩) l
theorem cW.iu(h:cW ag s)(l:iX s.length 50=af):yd s:=λx=>h x (.inl rfl) (ae (dD _) (aw (cH l) (eX rfl)))
theorem Kt(g:cW ag s)(hc:([92,93,45,91]:Y).contains c=ag):cW ag (c::s):=AH (λn=>cS.lit hc) (bO 1) g
theorem Ew(h:cW ag s)(l:iX s.length 50=af):yd (93::s):=λx=>(Sk x (eX rfl)).trans (h x.one (.inr ⟨rfl,93,rfl⟩) (aw (eJ (cH l) 1) (eX rfl)))
theorem cS.aoM(hc:([92,93,45,91]:Y).contains c=ag):cS n ag [c,45,92,d] [kM c d] [] af:=λx y z l m=>⟨_,dp 45,.inl rfl,(Fc x hc (ic l)).trans ((Uf x.one wx len_pos rfl).trans (by refine ae (y.uniq x.one.one.one.one) (ae vc ?_);rfl))⟩
theorem ant(h:At t i [45])(a:L.length<aI):bL n t i ng L K (.int c) f c0=.exc:=(py (aX [.b 2 (dT h.lt),.p 4 h.cz,.b 11 (f0 (cJ h.one.end.symm)),.p 4 h.idx,.b 2 (et a)]):bL n t i ng L K (.int c) f c0=bL n t (i+1) ng (L++[rg (45,45)]) K (.int (45)) ag (dp 45)).trans (LI h.one)
theorem K6(l:L.length+K.length+m<=100):L.length<aI:=bn (aw (aw (cB ..) (cB ..)) l) (eX rfl)
theorem anu:cW ag [45]:=λx y l=>y.elim (λe=>ae e ((EP x (K6 l)).trans (LI x.one))) λz=>z.2.elim λc e=>ae e (ant x (K6 l))
theorem anv:cW ag [92]:=λx y y=>Xq x
theorem aik:cW ag [45,92]:=λx y l=>y.elim (λe=>ae e ((EP x (K6 l)).trans (Xq x.one))) λz=>z.2.elim λc e=>ae e (aoy x)
theorem Wi(h:93∉u):cW ag (91::58::u):=λx y y=>aoz x h
theorem Fm(h:93∉u)(hc:kn u=ak):cW ag (91::58::(u++58::93::s)):=λx y y=>aoA x h (At.one (At.bK x.one.one)) hc
def Dms(x:Y):Prop:=∀y∈([[],[47,97]]:List Y),∃s,x++y=91::s/\Dm s
theorem aoN:∀x∈rq,Dms x:=by
 have y:cW ag [47,97]:=Kt (Kt p7 rfl) rfl;have g:∀{s},cW ag s->cW ag (97::s):=λh=>Kt h rfl;have P:∀{x s:Y},x=91::s->j4 (.bytes (s.take 1)) GD=aa ag->yd s->∃s,x=91::s/\Dm s:=λe h k=>⟨_,e,.inl ⟨h,k⟩⟩;have S:∀{x r:Y} {c:Nat},x=91::c::r->j4 (.bytes [c]) GD=aa af->yd r->∃s,x=91::s/\Dm s:=λe h k=>⟨_,e,.inr ⟨_,_,rfl,h,k⟩⟩;have nm:∀{s},cW ag s->cW ag (91::58::97::108::112::104::97::58::93::s):=λ{s} h=>AH (λn=>cS.name (nm:=[97,108,112,104,97]) (eX rfl) rfl) (eX rfl) (cW.any h);have al:kn [97,108,112,104]=ak:=by decide+kernel
 have a:kn []=ak:=by decide+kernel
 unfold rq;exact aQ ⟨aQ ⟨P rfl rfl (cW.iu p7 rfl),aQ ⟨P rfl rfl (cW.iu y rfl),aZ⟩⟩,aQ ⟨aQ ⟨P rfl rfl (cW.iu (g p7) rfl),aQ ⟨P rfl rfl (cW.iu (g y) rfl),aZ⟩⟩,aQ ⟨aQ ⟨P rfl rfl (Ew p7 rfl),aQ ⟨P rfl rfl (Ew y rfl),aZ⟩⟩,aQ ⟨aQ ⟨S rfl rfl (Ew p7 rfl),aQ ⟨S rfl rfl (Ew y rfl),aZ⟩⟩,
  aQ ⟨aQ ⟨S rfl rfl (cW.iu p7 rfl),aQ ⟨S rfl rfl (cW.iu y rfl),aZ⟩⟩,aQ ⟨aQ ⟨P rfl rfl (cW.iu (g anu) rfl),aQ ⟨P rfl rfl (cW.iu (AH (λn=>cS.ud rfl rfl) (eX rfl) (cW.any (g p7))) rfl),aZ⟩⟩,aQ ⟨aQ ⟨P rfl rfl (cW.iu (g anv) rfl),aQ ⟨P rfl rfl (cW.iu (g (AH (λn=>cS.yL) (eX rfl) (g p7))) rfl),aZ⟩⟩,
  aQ ⟨aQ ⟨P rfl rfl (cW.iu (g aik) rfl),aQ ⟨P rfl rfl (cW.iu (AH (λn=>cS.aoM rfl) (eX rfl) (cW.any (g p7))) rfl),aZ⟩⟩,aQ ⟨aQ ⟨P rfl rfl (cW.iu (Wi (eX rfl)) rfl),aQ ⟨P rfl rfl (cW.iu (Wi (eX rfl)) rfl),aZ⟩⟩,aQ ⟨aQ ⟨P rfl rfl (cW.iu (nm p7) rfl),aQ ⟨P rfl rfl (cW.iu (nm y) rfl),aZ⟩⟩,
  aQ ⟨aQ ⟨P rfl rfl (cW.iu (Fm (eX rfl) al) rfl),aQ ⟨P rfl rfl (cW.iu (Fm (eX rfl) al) rfl),aZ⟩⟩,aQ ⟨aQ ⟨P rfl rfl (cW.iu (Fm (eX rfl) a) rfl),aQ ⟨P rfl rfl (cW.iu (Fm (eX rfl) a) rfl),aZ⟩⟩,aZ⟩⟩⟩⟩⟩⟩⟩⟩⟩⟩⟩⟩
theorem alb(h:At t i s)(d:Dm s):aV (FN (n+2)) 9 [.bytes t,.int i]=.exc:=by
 obtain⟨b,f⟩|⟨c,r,rfl,b,f⟩:=d
 ·exact call_exc [.p 6 (h.fT (k:=1) (eX rfl)),.b 0 b,.y 2 (f (n:=n) (ng:=aR ag) (c0:=.U) h)]
 ·exact call_exc [.p 6 (h.fT (k:=1) (eX rfl)),.b 0 b,.y 4 (f (n:=n) (ng:=aR af) (c0:=.U) h.one)]
end
section
variable{s X B:Y}
theorem aoO(d:Dm s)(us:List Y):∀{u:Y} {st:Nat} {sg:List D} {c b:AV},(∀x∈u::us,i8 x)->At t st (aK (u::us)++91::s)->sg.length+us.length<aI->lw 11 [3] (n+3) (oA t sg st st c b)=.exc:=by induction us with|nil=>intro u st sg c b h x a;have x:=x;obtain⟨f,g,e⟩:=(h u (.head _)).go x x.bK st sg c b;have y:=x.bK;exact e.trans (Ub ((dF [.b 3 (bP y.lt)])) ((sQ [.p 4 y.cz,.x 7 (alb (n:=n+1) y.one d)])))|cons v us ih=>intro u st sg c b h x a;simp only [fx,bg]at x;obtain⟨f,g,e⟩:=(h u (.head _)).go x x.bK st sg c b;exact(e.trans (Qb x (bn (h u (.head _)).2.1 (eX rfl)) (bn (cB _ _) a))).trans (ih (λy m=>h y (.tail _ m)) x.bK.one (vb a))
theorem K7(d:Dm s)(h:∀x∈u::us,i8 x)(l:us.length<20)(hs:s.length<=20):(aK (u::us)++91::s).length<80000/\aV (FN (n+4)) 11 [.bytes (aK (u::us)++91::s)]=.exc/\(aK (u::us)++91::s).contains 91=af:=by
 have k:(aK (u::us)++91::s).contains 91=af:=ed.mpr (fF _ (.head s));have g:(aK (u::us)++91::s).length<80000:=by exact ae aS (bn (dz (aw (Fe us h) (dy 481 (c8 (dk l)))) (c8 hs)) (eX rfl))
 exact⟨g,(call_exc [.b 1 ((aj (λb=>aa !b) k)),.y 0 (aoO (n:=n) (sg:=[]) (c:=.U) (b:=.U) d us h (tN (bX g (eX rfl))) (bn (cJ (dD _)) (bX l (eX rfl))))]),k⟩
theorem aoP(h:aV (FN (n+4)) 11 [.bytes X]=.exc)(k:X.contains 91=af):aV (FN (n+6)) 15 [.bytes X]=.exc:=by have e:aV (FN (n+5)) 14 [.bytes X]=.exc:=call_exc [.b 1 ((aj aa (fX λe=>by rw[e]at k;exact bb k):aa (X==[42,42])=aa ag)),.x 1 h];exact call_exc [.x 1 e]
theorem anw{r:Y}(h:X++91::s=42::42::47::r):∃d,X=42::42::47::d:=by match X,h with|[],h=>exact nomatch (bD h).1|[_],h=>exact nomatch (bD (bD h).2).1|[_,_],h=>exact nomatch (bD (bD (bD h).2).2).1|a::b::c::x,h=>exact⟨x,ae ((bD h).1) (ae ((bD (bD h).2).1) (ae ((bD (bD (bD h).2).2).1) rfl))⟩
theorem alc(g:Gd cs)(d:Dm s)(hs:s.length<=20):∃u vs r,(∀x∈u::vs,i8 x)/\vs.length<=11/\(r=[]\/r=gT)/\∀{n res},aV (FN (n+1)) 16 [.bytes (dJ az++(aK (cs.map cq)++91::s)),res]=.ok (.tup [.bytes (aK (u::vs)++91::s),.bytes r]):=by
 have o:=λx m=>ve (tail:=ag) (xG g).2 x (ae AE (ke _ m));have nm:∀{u vs},(∀x∈u::vs,i8 x)->u≠[]->(u=[42,42]->vs=[])->vs.length<20->∀{n res},aV (FN (n+1)) 16 [.bytes (dJ az++(aK (u::vs)++91::s)),res]=.ok (.tup [.bytes (aK (u::vs)++91::s),.bytes []]):=λ{u vs} h k k2 l {n res}=>
  Q5 (bX (K7 (n:=0) d h l hs).1 (eX rfl)) (λr e=>by
   refine(Fj (v:=u) vs).elim λw z=>?_;cases u with
   |nil=>exact k rfl
   |cons a u=>exact Sz h (λe=>aC e k) (by refine ae z (ae ((bD ((aj (·++91::s) z).symm.trans e)).1) ?_);rfl)) λr e=>(anw e).elim λb z=>Ut h (λe=>aC e k) k2 z
 cases cs with
 |nil=>exact aC rfl g.1
 |cons q cs=>
  have l:(cs.map cq).length<=10:=am ((aW ..).symm) (NR g.2.1);by_cases k:q=[]
  ·subst k;cases cs with|nil=>exact⟨[42,42],[],[],o,cy _,.inl rfl,nm o b5 (λy=>rfl) (eX rfl)⟩|cons p cs=>exact⟨cq p,cs.map cq,gT,λx m=>o x (.tail _ m),aw (gO _) (aw l (eX rfl)),.inr rfl,λ{n res}=>by refine ae (fx) ?_;rw[bg];exact Q4 (bX (K7 (n:=0) d (λx m=>o x (.tail _ m)) (bn (aw (gO _) l) (eX rfl)) hs).1 (eX rfl))⟩
  ·have z:=Xz (g.2.2 q (.head _)).1 (g.2.2 q (.head _)).2 k;exact⟨cq q,cs.map cq,[],o,aw l (eX rfl),.inl rfl,nm o (λe=>bb (z.2.1.symm.trans (aj Rm e))) (λe=>(bb (z.2.2.symm.trans (aj (·==[42,42]) e)))) (bn l (eX rfl))⟩
theorem anx{r:Y}(d:r=[]\/r=gT)(c:∀{res},aV (FN (n+6)) 16 [.bytes X,res]=.ok (.tup [.bytes R,.bytes r]))(a:aV (FN (n+6)) 15 [.bytes R]=.exc):aV (FN (n+7)) 17 [.bytes X]=.exc:=by
 cases b:X.dropLast.contains 47 with
 |true=>
  obtain rfl|rfl:=d
  ·exact call_exc [.p 2 (ku (P:=X)),.b 0 ((aj (λt=>aa (!t)) b)),.q 2 (c (res:=.bytes [40,63,109,115,41])),.x 4 a]
  ·exact call_exc [.p 2 (ku (P:=X)),.b 0 ((aj (λt=>aa (!t)) b)),.q 2 (c (res:=.bytes [40,63,109,115,41])),.x 7 a]
 |false=>
  obtain rfl|rfl:=d
  ·exact call_exc [.p 2 (ku (P:=X)),.b 0 ((aj (λt=>aa (!t)) b)),.q 4 (c (res:=.bytes [40,63,109,115,41,40,46,42,47,41,63])),.x 4 a]
  ·exact call_exc [.p 2 (ku (P:=X)),.b 0 ((aj (λt=>aa (!t)) b)),.q 4 (c (res:=.bytes [40,63,109,115,41,40,46,42,47,41,63])),.x 7 a]
theorem oh.tl(h:oh A B ag)(k:B≠[]):oh (A++91::s) (B++91::s) ag:=by
 obtain⟨_,e⟩|⟨_,⟨rfl,o,r,rfl,ho⟩|⟨rfl,h1,h2⟩⟩:=h
 ·cases e
 ·exact .inr ⟨rfl,.inl ⟨rfl,o,_,rfl,ho⟩⟩
 ·refine .inr ⟨rfl,.inr ⟨rfl,λr e=>?_,λo r e=>?_⟩⟩
  ·cases A with|nil=>exact k rfl|cons a A=>exact h1 A (ae ((bD e).1) rfl)
  ·match A,k,e with|[_],_,e=>exact am ((bD (bD e).2).1) (eX rfl)|a::b::A,_,e=>exact h2 o A (ae ((bD e).1) (ae ((bD (bD e).2).1) rfl))
theorem ail(g:Gs cs)(k:cs≠[])(l:cs.length<=11)(d:Dm s)(hs:s.length<=20):fA (FN (n+8)) 240 49 3 [.bytes (dJ az++fW af cs++91::s),.bool ah]=.exc:=by
 obtain⟨a,g',al,w⟩:=S0 (ng:=ag) g k l;have p:∀{c:List (List E)},c≠[]->pT az ag (bW c)=dJ az++fW af c:=λh=>(Kr h).trans (aj _ (bu _));rw[p k,p g'.1]at w;obtain⟨u,vs,r,o,lv,q,e⟩:=alc g' d hs;have sx:=K7 (n:=n) d o (bn lv (eX rfl)) hs;have f:=anx (X:=dJ az++(fW af a++91::s)) q e (aoP sx.2.1 sx.2.2);rw[<-bg]at f;have j:(dJ az++fW af a++91::s).length<90000:=by have z:=Kk (a.map cq) λx m=>(ve (tail:=ag) (xG g').2 x (ae AE (ke _ m))).2.1;rw[aW]at z;exact bn (gB (gB (show(dJ az).length<=1 by cases az<;>decide) (show(fW af a).length<=5300 from aw z (aw (dy 481 g'.2.1) (eX rfl)))) (c8 hs)) (eX rfl)
 have i:=SO (n:=n+7) (ah:=ah) (w.tl (p g'.1▸(Er (xG g').2 (Gd.go g' ag).1).2)) j;exact akm (by kernel_rfl) (ji 3 i (R5 [.b 4 ((show qZ (.bytes (fw [47] (dJ az++fW af a++91::s)))=aa (!(fw [47] (dJ az++fW af a++91::s)).isEmpty)from rfl)),.x 1 f]))
end
def rV(ah:Bool)(l:List (Y×Option (D×Option Ru)))(a b:List Y)(r:List Ru):Prop:=(∀z∈l,∀n,Lw (n+9) ah z)/\l.map (λz=>D.bytes z.1)=bA a/\((kF l).map λp=>pG 2 p.1)=b.map (λy=>aa (.bytes y))/\((kF l).filterMap λp=>p.2)=r
section
variable{ai:List It}{B:List Y}
theorem rV.nil:rV ah [] [] [] []:=⟨aZ,rfl,rfl,rfl⟩
theorem rV.app(h:rV ah l A B R)(a:rV ah l' A' B' R'):rV ah (l++l') (A++A') (B++B') (R++R'):=⟨dg h.1 a.1,by
 exact ae cU (ae h.2.1 (ae a.2.1 cU.symm)),by
 unfold kF;exact ae GU (ae cU (ae cU (congr (aj _ h.2.2.1) a.2.2.1))),by
 unfold kF;exact ae GU (ae GU (congr (aj _ h.2.2.2) a.2.2.2))⟩
theorem anz(h:Gi x)(ah:Bool):∃l,rV ah l (iO x) (j9 x) (iP x):=by
 obtain⟨ng,az,only,t,j,dW,cs,g,k0,l,b,hs,k,rfl⟩|⟨i,hi,rfl⟩:=h
 ·obtain rfl|⟨⟨x,hx,y,hy,rfl⟩,rfl,rfl⟩:=b
  ·obtain⟨f,g',al,w⟩:=S0 g k0 l;rw[<-akZ g k0]at w;refine⟨[(eI af ng az only [] cs,aa (Na ah (eI af ng az only [] cs) ng only az cs f,aa (oG ng only az cs)))],aQ ⟨λn=>⟨amW g' al w,akG g' al⟩,aZ⟩,rfl,rfl,?_⟩;show[oG ng only az cs]=[rG ng az only [] cs];unfold oG rG;rw[am5 g k0,<-Bool.or_assoc,Bool.or_self]
  ·obtain⟨s,e,d⟩:=aoN x hx y hy;have c:eI af ag az ag (x++y) cs=dJ az++fW af cs++91::s:=by
    unfold eI;exact ae e (aj (dJ az++fW af cs++·) (bu _))
   refine⟨[(eI af ag az ag (x++y) cs,ak)],aQ ⟨λn=>?_,aZ⟩,rfl,?_⟩
   ·show fA (FN (n+9)) 240 49 3 [.bytes (eI af ag az ag (x++y) cs),.bool ah]=.exc;exact ae c (ail g k0 l d (zj (aw (cJ (aj iT e).symm) (aw (gB ((by decide+kernel:∀x∈rq,x.length<=12) x hx) ((by decide:∀y∈([[],[47,97]]),y.length<=2) y hy)) (eX rfl)))))
   ·unfold yX;exact ae e (⟨rfl,rfl⟩)
 ·have P:∀{a ng az},oh a (dJ az) ng->rV ah [(a,aa (Nb ah a ng az,ak))] [a] [a] []:=λh=>⟨aQ ⟨λn=>⟨ahU h,ahV⟩,aZ⟩,rfl,rfl,rfl⟩
  exact ltE hi ⟨⟨_,P (az:=af) (.inl ⟨rfl,rfl⟩)⟩,⟨_,P (az:=af) (AT rfl ⟨47,[],rfl,eX rfl,eX rfl⟩)⟩,⟨_,P (az:=ag) (.inl ⟨rfl,rfl⟩)⟩,⟨[],.nil⟩,⟨[],.nil⟩,⟨[],.nil⟩,⟨⟩⟩
theorem ald(h:∀x∈ai,Gi x)(ah:Bool):∃l,rV ah l (ai.flatMap iO) (ai.flatMap j9) (ai.flatMap iP):=by induction ai with|nil=>exact⟨[],.nil⟩|cons x ai ih=>refine(anz (h x (.head _)) ah).elim λl w=>?_;refine(ih λy m=>h y (.tail _ m)).elim λb a=>?_;exact⟨l++b,w.app a⟩
theorem anA(h:∀x∈ai,Gi x):∀r∈ai.flatMap iP,(∀q∈r.2.2.2,(∀e∈q,Sg e)/\q.length<=12)/\r.2.2.2.length<=12:=λr m=>by
 obtain⟨x,hx,m⟩:=Cz.mp m;obtain⟨ng,a,only,t,b,dW,cs,g,k0,l,d,hs,f,rfl⟩|⟨i,hi,rfl⟩:=h x hx
 ·have c:iP (yX ng a only t b dW cs)=[rG ng a only t cs]\/iP (yX ng a only t b dW cs)=[]:=by
   unfold yX;cases t.isEmpty with|true=>exact .inl rfl|false=>exact .inr rfl
  obtain c|c:=c<;>have m:=c▸m
  ·refine ae (bB.mp m) ?_;unfold rG;cases fm a cs||(eI ag ng a only t cs).dropLast.contains 47 with|true=>exact⟨g,iB l⟩|false=>exact⟨aQ ⟨⟨aZ,cy _⟩,g⟩,c8 l⟩
  ·cases m
 ·exact aC m (ltE (P:=λi=>r∉iP (uk i)) hi ⟨cf,cf,cf,cf,cf,cf,⟨⟩⟩)
end
noncomputable def oI(l:List (D×Option Ru)):List Ru:=l.filterMap λx=>x.2
def jD(A:Ja)(ah:Bool)(l:List (D×Option Ru))(t x p o a b s y d:AV):Rh:=[A 0,A 1,A 2,aR ah,A 4,A 5,A 6,.val (fb (oI l)),A 8,.val (fD ah l),.val (fb (dR l)),A 11,t,x,p,o,a,b,s,y,d]
def Rg(rs:List Ru):Prop:=(∀r∈rs,(∀q∈r.2.2.2,(∀e∈q,Sg e)/\q.length<=12)/\r.2.2.2.length<=12)/\rs.length<=1000
def XF:X:=.Mo oj pF (.c (.str [])) (.comp (.dG A7 (.vw 1)) ⟨ag,[1],.dG yg (.loc 1),[]⟩ [] [] 2)
section
variable{i:Nat}{u:Y}
theorem Rg.YY(h:Rg rs):BY rs/\Rf rs:=⟨λr m q k e z=>(((h.1 r m).1 q k).1 e z).2.2.2.1,λr m=>⟨λq k=>⟨λe z=>(((h.1 r m).1 q k).1 e z).2.2.2.2,((h.1 r m).1 q k).2⟩,(h.1 r m).2⟩⟩
theorem na.pa(h:na 26 ps):Pa 6 ps/\yQ ps:=by have z:Ps ps:=⟨bn h.2.1 (eX rfl),λp m=>⟨λk=>((h.2.2 p m).2 47 k).2 rfl,bn (h.2.2 p m).1.2 (eX rfl)⟩⟩;exact⟨⟨h.1,aw h.2.1 (eX rfl),λp m=>⟨⟨(z.2 p m).1,(h.2.2 p m).1.1⟩,aw (h.2.2 p m).1.2 (eX rfl),λc k=>((h.2.2 p m).2 c k).1⟩⟩,z,ae aS (bn (c8 h.2.1) (eX rfl)),dg z.2 (aQ ⟨⟨eX rfl,eX rfl⟩,aZ⟩)⟩
theorem UP(u:Y):cP [] (u.map λc=>[c])=u:=by
 induction u with
 |nil=>rfl
 |cons c u ih=>cases u with|nil=>rfl|cons d u=>exact aj (c::·) ih
theorem aim(h:∀c∈u,c<128)(k:u.length<=60):(XF (FN n) [.U,cA (il u)]).run=.ok (.str u):=by have c:mR (FN n) ag [1] [] (.dG A7 (.vw 1)) (il u) [.U,.U]=.ok (.list ((u.map λc=>[c]).map .str)):=(aj (λl:List D=>Ev.ok (D.list l)) (show((u.filter λx=>af).map λc=>D.str [c])=(u.map λc=>[c]).map .str by rw[uy.mpr λx x=>rfl];exact iR.symm))▸nK (aw k (eX rfl)) λc m=>⟨rfl,rfl,λx=>by have g:A7 (.int c)=aa (.str [c]):=dU ⟨rZ c,jJ.mpr (h c m)⟩;exact(aG [.p 1 g])⟩;have j:=Kl (by rw[UP];exact aw k (eX rfl));rw[UP]at j;unfold XF;exact aG [.q 2 c,.p 0 j]
theorem afG(h:Pa 6 ps):(be (((bN 52 [9]).drop 1).take 2) (FN n) (jD A ah l t x (.val (cE ps)) o a b s y d)).run=.ok (.next,jD A ah l t x (.val (cE ps)) o (j5 (aK ps)) (j5 (aK ps++[47])) s y d):=by exact aG [.q 2 ((aj (λl:List Y=>Ev.ok (D.list (l.map .str))) (uy.mpr λz z=>rfl))▸nK (F:=FN n) (tup:=ag) (is:=[1]) (ifs:=[]) (c:=[.U,.U]) (aw h.2.1 (eX rfl)) λp m=>⟨rfl,rfl,λz=>aim (h.2.2 p m).2.2 (h.2.2 p m).2.1⟩),.p 0 (h.Nd (eX rfl)),.p 1 (h.add (eX rfl))]
theorem ale(h:Pa 6 ps):∃oct,(be (((bN 52 [9]).drop 3).take 1) (FN n) (jD A ah l (ar i) x p o (j5 (aK ps)) (j5 (aK ps++[47])) s y d)).run=.ok (.next,jD A ah l (ar i) x p o (.val (aD oct (aK ps))) (.val (aD oct (aK ps++[47]))) s y d):=by
 by_cases e:i=1
 ·subst e;exact⟨af,(aG [.p 3 (xH h.wn),.p 1 (xH (x:=aK ps++[47]) (dg h.wn (eX rfl)))])⟩
 ·exact⟨ag,(aG [.b 1 (fR e)])⟩
def NB(d:D):Prop:=d=.none\/∃b,d=.bool b
noncomputable def B0(d:D):D:=.tup [d,d]
theorem AI:NB (j0 ah bT ps dir):=by
 unfold j0;cases mi (gU ah bT ps dir)||(jC ah bT ps.dropLast||(dir&&ui ah bT ps))with
 |true=>exact .inr ⟨af,rfl⟩
 |false=>cases(gU ah bT ps dir).isNone with|true=>exact .inl rfl|false=>exact .inr ⟨ag,rfl⟩
theorem afH(h:NB v):tn 52 [9,8] n (jD A ah l t x p o a b z (.val v) (.val v))=.ok (.next,jD A ah l t x p o a b z (.val v) (.val v)):=by
 obtain rfl|⟨_|_,rfl⟩:=h
 ·exact aX []
 ·exact aX []
 ·exact aX []
theorem afI(ds:List D):∀{y d},(∀v∈ds,NB v)->∃e d',lf 52 [9,8] n af [19,20] (ds.map B0) (jD A ah l t x p o a b z y d)=.ok (.next,jD A ah l t x p o a b z e d'):=by induction ds with|nil=>exactλ{y d} c=>⟨y,d,rfl⟩|cons v ds ih=>exactλ{y d} h=>(ih λw m=>h w (.tail _ m)).elim λe z=>z.elim λd' z=>⟨e,d',er rfl (afH (h v (.head _))) z⟩
def aoQ(n:Nat)(r:Rh):Ev Os:=(be (((bN 52 [9]).drop 4).take 4) (FN (n+12)) r).run
theorem ain(hp:∀x∈l,Po ah x)(p:Rg (oI l))(pa:Pa 6 ps)(f:yQ ps):∃ds:List D,(∀v∈ds,NB v)/\aoQ n (jD A ah l (ar i) x (.val (cE ps)) (aR od) (.val (aD oct (aK ps))) (.val (aD oct (aK ps++[47]))) s y d)=.ok (.next,jD A ah l (ar i) x (.val (cE ps)) (aR od) (.val (aD oct (aK ps))) (.val (aD oct (aK ps++[47]))) (.own (ds.map B0)) y d):=by
 have o:=p.YY.1;have cl:=λr m=>o r (kV.mp m);have w:pt ps ag=aK ps:=bu _;have g1:=K4 (n:=n) (oct:=oct) (d:=ag) hp pa bb;have g2:=Ki (n:=n+6) (ah:=ah) (dir:=ag) f cl;have j:=V5 (n:=n+1) (oct:=oct) (s:=ag) hp (pa.up (eX rfl));have t:=V5 (n:=n+1) (oct:=oct) (s:=af) hp (pa.up (eX rfl));have g:=Qd (n:=n+7) (ah:=ah) f.1 cl;have g6:=afq (n:=n+8) (ah:=ah) f o;rw[w]at g1 j;have ap:∀{l:List D},l.length<=3->gd (l.length<aI) (aa af)=aa af:=λh=>dU (bn h (eX rfl));have k:∀{b},(oI l).any (kQ ah ps)=b->(dR l).any (kQ ah ps)=b:=λh=>List.any_reverse.trans h;by_cases e:i=0
 ·subst e;cases u:(oI l).any (kQ ah ps)with|true=>rw[u]at g6;exact⟨[j0 ah (dR l) ps ag],aQ ⟨AI,aZ⟩,(aG [.q 4 g1,.q 3 g2,.q 6 g6])⟩|false=>rw[u]at g6;exact⟨[j0 ah (dR l) ps ag,j0 ah (dR l) ps af],aQ ⟨AI,aQ ⟨AI,aZ⟩⟩,(aG [.q 4 g1,.q 3 g2,.q 6 g6,.q 3 (K4 (n:=n) (oct:=oct) (d:=af) hp pa (λz=>k u)),.q 3 (Ki (n:=n+6) (ah:=ah) (dir:=af) f cl)])⟩
 ·have c:=fR (a:=i) (b:=0) e;have nf:=vK (a:=i) (b:=0) e;cases od with
  |false=>exact⟨[j0 ah (dR l) ps ag,.bool (jC ah (dR l) ps)],aQ ⟨AI,aQ ⟨.inr ⟨_,rfl⟩,aZ⟩⟩,(aG [.b 1 c,.q 4 g1,.q 3 g2,.b 2 c,.b 3 nf,.q 4 t,.q 3 g])⟩
  |true=>cases u:(oI l).any (kQ ah ps)with|true=>rw[u]at g6;exact⟨[.bool (jC ah (dR l) ps)],aQ ⟨.inr ⟨_,rfl⟩,aZ⟩,(aG [.b 1 c,.b 3 c,.q 5 g6,.b 2 nf,.q 4 j,.q 3 g])⟩|false=>rw[u]at g6;exact⟨[j0 ah (dR l) ps af,.bool (jC ah (dR l) ps)],aQ ⟨AI,aQ ⟨.inr ⟨_,rfl⟩,aZ⟩⟩,(aG [.b 1 c,.b 3 c,.q 5 g6,.q 3 (K4 (n:=n) (oct:=oct) (d:=af) hp pa (λz=>k u)),.q 3 (Ki (n:=n+6) (ah:=ah) (dir:=af) f cl),.b 2 nf,.q 4 j,.q 3 g])⟩
end
def um(A:Ja)(ah:Bool)(l:List (D×Option Ru))(z r:AV):Rh:=[A 0,A 1,A 2,aR ah,A 4,A 5,A 6,.val (fb (oI l)),A 8,.val (fD ah l),z,r,.U,.U,.U,.U,.U,.U,.U,.U,.U]
section
variable{i:Nat}{l:List (D×Option Ru)}
theorem aio(hp:∀x∈l,Po ah x)(k:Rg (oI l)):∃r u a' C s' j d',tn 52 [9] (n+12) (jD A ah l (ar i) (ar num) p o a b s y d)=.ok (.next,jD A ah l (ar i) (ar num) r u a' C s' j d'):=by obtain⟨ps,B,e⟩:=ala (n:=n+10) k.YY.2 k.2 num;obtain⟨pa,m⟩:=B.pa;obtain⟨g,w⟩:∃t,decide (num.fmod (2)=(1))=t:=⟨_,rfl⟩;have I:(be ((bN 52 [9]).take 1) (FN (n+12)) (jD A ah l (ar i) (ar num) p o a b s y d)).run=.ok (.next,jD A ah l (ar i) (ar num) (.val (cE ps)) (aR g) a b s y d):=aG [.q 2 e,.b 2 ((aj aa w))];have H:=afG (n:=n+12) (A:=A) (ah:=ah) (l:=l) (t:=ar i) (x:=ar num) (o:=aR g) (a:=a) (b:=b) (s:=s) (y:=y) (d:=d) pa;obtain⟨f,G⟩:=ale pa;obtain⟨h,v,F⟩:=ain (d:=d) hp k pa m;obtain⟨j,d',E⟩:=afI (n:=n+12) (A:=A) (ah:=ah) (l:=l) (t:=ar i) (x:=ar num) (p:=.val (cE ps)) (o:=aR g) (a:=.val (aD f (aK ps))) (b:=.val (aD f (aK ps++[47]))) (z:=cA (h.map B0)) (y:=y) (d:=d) h v;have D:(be ((bN 52 [9]).drop 8) (FN (n+12)) (jD A ah l (ar i) (ar num) (.val (cE ps)) (aR g) (.val (aD f (aK ps))) (.val (aD f (aK ps++[47]))) (.own (h.map B0)) y d)).run=.ok (.next,jD A ah l (ar i) (ar num) (.val (cE ps)) (aR g) (.val (aD f (aK ps))) (.val (aD f (aK ps++[47]))) (cA (h.map B0)) j d'):=aG [.l 2 E];exact⟨_,_,_,_,_,_,_,ji 1 I (ib (b:=2) (c:=3) rfl H (ib (b:=1) (c:=4) rfl G (ib (b:=4) (c:=8) rfl F D)))⟩
theorem aip(hp:∀x∈l,Po ah x)(c:Rg (oI l))(xs:List Int):∀{i t x p o a b s y d},∃r,lf 52 [9] (n+12) af [12,13] (((xs.map D.int).zipIdx i).map λp=>.tup [.int p.2,p.1]) (jD A ah l t x p o a b s y d)=.ok (.next,r):=by induction xs with|nil=>exact⟨_,rfl⟩|cons x xs ih=>intro i t g p o a b s y d;obtain⟨h,j,m,k,s',f,d',e⟩:=aio hp c;exact(ih).elim λr z=>⟨r,er rfl e z⟩
theorem adP(rs:List Ru):∀{acc:List Ru} {r},rs.length+acc.length<=1000->∃b,lf 52 [8] n ag [11] (rs.map d9) (um A ah l (.val (fb acc)) r)=.ok (.next,um A ah l (.val (fb (rs.reverse++acc))) b):=by induction rs with|nil=>exactλ{acc r} y=>⟨r,rfl⟩|cons x rs ih=>intro acc r h;rw[eY,mx]at h;have a:c6 (.list [d9 x]) (fb acc)=aa (fb (x::acc)):=l9 (by rw[aW,gn];exact aw (aw (mB ..) h) (eX rfl));obtain⟨b,e⟩:=ih (acc:=x::acc) h;refine ae qq ?_;rw[bg];exact⟨b,er rfl ((aX [.p 2 a]):tn 52 [8] n (um A ah l (.val (fb acc)) (.val (d9 x)))=.ok (.next,um A ah l (.val (fb (x::acc))) (.val (d9 x)))) e⟩
theorem S4:mS (yf (.list (bA a)) (.list (bA a)))=aa ag:=by show mS (cond ((bA a).length !=(bA a).length) (aa ag) ((eB D.jT (bA a)).bind λp=>(eB D.jT (bA a)).bind λq=>aa (p==q)))=_;rw[Ei,bne_self_eq_false];show aa (!(a==a))=_;rw[kX];rfl
theorem anB:dh (.list L) (.int (-2)) .none=aa (.list (L.drop (jV (-2) L.length))):=by show aa (D.list ((L.take L.length).drop _))=_;exact ae kU rfl
theorem aiq{B:List Y}(h:(l.map λp=>pG 2 p.1)=B.map λy=>aa (.bytes y))(b:l.length<=1000):mR (FN n) ag [1] [] (.dG (pG 2) (.loc 1)) (l.map λx=>x.1) [.U,.U]=.ok (.list (bA B)):=by
 have g:∀x∈l,pG 2 x.1=aa ((pG 2 x.1).getD .none):=λx m=>(ey.mp (am h (ey.mpr ⟨x,m,rfl⟩))).elim λy z=>by refine am z.2 ?_;rfl
 have e:(l.map λx=>(pG 2 x.1).getD .none)=bA B:=by have z:=aj (Ai λo:Option D=>o.getD .none) h;have z:=iR▸iR▸z;exact z
 exact am (aj (λl=>Ev.ok (D.list l)) (show((l.filter λa=>af).map λx=>(pG 2 x.1).getD .none)=bA B by rw[uy.mpr λa a=>rfl];exact e)) (nK (aw b (eX rfl)) λx m=>⟨rfl,rfl,λa=>by have g:=g x m;exact(aG [.p 1 g])⟩)
theorem anC(xs:List Int):aV (FN (n+13)) 52 [.list (xs.map .int)]=.ok (.bool af):=by
 obtain⟨ns,G⟩:∃ns,xs.take 8=ns:=⟨_,rfl⟩;have nl:=G▸wA ..;have v:dh (.list (xs.map .int)) .none (.int (8))=aa (.list (ns.map .int)):=(sU (eX rfl)).trans (aj (λl=>aa (D.list l)) (am G (ae oW rfl)));obtain⟨f,R⟩:∃f,(be ((bN 52 []).take 2) (FN (n+12)) [cA (xs.map .int),.U,.U,.U,.U,.U,.U,.U,.U,.U,.U,.U,.U,.U,.U,.U,.U,.U,.U,.U,.U]).run=.ok (.next,[cA (xs.map .int),cA (ns.map .int),ar f,.U,.U,.U,.U,.U,.U,.U,.U,.U,.U,.U,.U,.U,.U,.U,.U,.U,.U]):=by cases ns with|nil=>exact⟨0,(aG [.p 1 v])⟩|cons x ns=>exact⟨x,(aG [.p 1 v,.p 3 ((nX rfl:eZ (.list ((x::ns).map .int)) (.int (0))=aa (.int x)))])⟩
 obtain⟨ah,hf⟩:∃t,decide ((f.fdiv (16)).fmod (3)=(1))=t:=⟨_,rfl⟩;obtain⟨ai,k,il,I⟩:=aig (n:=n+9) nl;have S:=ak8 (n:=n+11) k (aw il (eX rfl));obtain⟨C,w⟩:=ald k ah;have E:C.length<=9:=by have z:=aj iT w.2.1;unfold bA at z;rw[aW,aW]at z;exact ae z (aw (nL (λx=>(AG x).1) ai) (aw (dy 1 il) (eX rfl)))
 have u:=am1 (λx m=>w.1 x m (n+1)) (aw E (eX rfl));rw[w.2.1]at u;obtain⟨l,h⟩:∃l,kF C=l:=⟨_,rfl⟩;have rl:oI l=ai.flatMap iP:=am h w.2.2.2;have pl:l.length<=1000:=am h (aw (GO ..) (aw E (eX rfl)));have hp:∀x∈l,Po ah x:=λx m=>by obtain⟨z,g,e⟩:=Ox.mp (h▸m);obtain⟨T,q⟩:=z;cases e;exact(w.1 _ g 0).2
 have F:Rg (oI l):=⟨rl▸anA k,aw (GO ..) pl⟩;have H:=w.2.2.1;rw[h]at u H;have pk:=aiq (n:=n+12) H pl;rw[<-rl]at I;let A:Ja:=ja [cA (xs.map .int),cA (ns.map .int),ar f,.U,cA (ai.map λx=>.bytes x.1),cA (bA (ai.flatMap iO)),cA (bA (ai.flatMap j9)),.U,cA (bA (ai.flatMap iO))];have Q:(be (((bN 52 []).drop 2).take 6) (FN (n+12)) [cA (xs.map .int),cA (ns.map .int),ar f,.U,.U,.U,.U,.U,.U,.U,.U,.U,.U,.U,.U,.U,.U,.U,.U,.U,.U]).run=.ok (.next,um A ah l (.val (fb [])) .U):=aG [.b 3 ((aj aa hf)),.q 1 I,.q 1 S,.q 2 u,.b 2 (S4 (a:=ai.flatMap iO)),.q 1 (Km (n:=n+11) (ah:=ah) (l:=l)),.q 1 pk,.b 1 (S4 (a:=ai.flatMap j9))];obtain⟨r,j⟩:=adP (n:=n+12) (A:=A) (ah:=ah) (l:=l) (r:=.U) (oI l) (acc:=[]) F.2;rw[bu]at j;have j:(be (((bN 52 []).drop 8).take 1) (FN (n+12)) (um A ah l (.val (fb [])) .U)).run=.ok (.next,um A ah l (.val (fb (dR l))) r):=aG [.l 2 j];obtain⟨zs,g⟩:∃zs:List Int,((25::2205::ns).map D.int).drop (jV (-2) ((25::2205::ns).map D.int).length)=zs.map D.int:=⟨_,si.symm⟩;have J:zs.length<=10:=by have z:=aj iT g;rw[Hr,aW,aW]at z;exact am z (aw (D8 ..) (c8 (c8 nl)))
 have N:c6 (.list [.int 25,.int 2205]) (.list (ns.map .int))=aa (.list ((25::2205::ns).map .int)):=l9 (by rw[aW];exact aw (eJ nl 2) (eX rfl));have B:=anB (L:=(25::2205::ns).map D.int);rw[g]at B;have M:c6 (.list [.int ((((ns.map D.int).length:Int)+f.fdiv (48:Nat)).fmod (5:Nat))]) (.list (zs.map .int))=aa (.list ((((((ns.map D.int).length:Int)+f.fdiv (48:Nat)).fmod (5:Nat))::zs).map .int)):=l9 (by show 1+(zs.map D.int).length<=aI;rw[aW];exact aw (eJ J 1) (eX rfl));obtain⟨K,P⟩:=aip (n:=n) (A:=λi=>cond (cQ i 11) r (A i)) (t:=.U) (x:=.U) (p:=.U) (o:=.U) (a:=.U) (b:=.U) (s:=.U) (y:=.U) (d:=.U) hp F (((((ns.map D.int).length:Int)+f.fdiv (48:Nat)).fmod (5:Nat))::zs) (i:=0);have O:(be ((bN 52 []).drop 9) (FN (n+12)) (um A ah l (.val (fb (dR l))) r)).run=.ok (.ret (.bool af),K):=aG [.p 7 N,.p 1 B,.p 0 M,.l 1 P];exact u5 (ji 2 R (ib (b:=6) (c:=8) rfl Q (ib (b:=1) (c:=9) rfl j O))) (by kernel_rfl)
theorem aqv(xs:List Int)(h:xs.length<=63):aV (FN 61) 52 [.list (xs.map .int)]=.ok (.bool af):=anC xs
end
end
end
end Mine.Internal
theorem PySem.Challenge.cw_ji0036_01_holds : PySem.Challenge.rw_ji0036_01.Holds :=
  Mine.Internal.aqw Mine.Internal.aqv
